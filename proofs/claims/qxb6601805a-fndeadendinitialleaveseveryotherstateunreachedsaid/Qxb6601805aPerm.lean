import Derived.Test.Qxb6601805aMaps
import Derived.Test.Qxb6601805aBytes
import Derived.BigRegion
namespace Go.Proofs.Qxb6601805a
open Go.RowKit

/-- How many of the first k strings are s. -/
def occ (ss : Nat → ByteArray) (k : Nat) (s : ByteArray) : Nat := ((List.range k).filter fun i => decide (ss i = s)).length

theorem occ_succ (ss : Nat → ByteArray) (k : Nat) (s : ByteArray) : occ ss (k + 1) s = occ ss k s + if ss k = s then 1 else 0 := by
  simp only [occ, List.range_succ, List.filter_append, List.length_append]
  by_cases h : ss k = s <;> simp [h]

theorem occ_mono (ss : Nat → ByteArray) {k m : Nat} (h : k ≤ m) (s : ByteArray) : occ ss k s ≤ occ ss m s := by
  induction m with
  | zero => have : k = 0 := by omega
            subst this; exact Nat.le_refl _
  | succ m ih =>
    by_cases hk : k = m + 1
    · subst hk; exact Nat.le_refl _
    · rw [occ_succ]; have := ih (by omega); omega

theorem occ_le (ss : Nat → ByteArray) (k : Nat) (s : ByteArray) : occ ss k s ≤ k := by
  have := List.length_filter_le (fun i => decide (ss i = s)) (List.range k)
  simpa [occ] using this

theorem zero3 (w : World) : (zeroValue 3).run Try.prog w = .ok (.int .i64 0) w := by kernel_rfl

/-- Block B is a map of counts. -/
def Counts (w : World) (B : Nat) (c : ByteArray → Int) : Prop := ∃ f, SMap w B f ∧ ∀ s, (f s).getD (.int .i64 0) = .int .i64 (c s)

theorem Counts.lookup {w : World} {B : Nat} {c : ByteArray → Int} (h : Counts w B c) (s : ByteArray) : (Instr.lookup 48 (.map (some B)) (.string s) false).run Try.prog w = .ok (.int .i64 (c s)) w := by
  obtain ⟨f, h1, h2⟩ := h
  rw [h1.lookup (P := Try.prog) (T := 48) (K := 9) (E := 3) Try.underlying48 Try.underlying9 (zero3 w) s, h2]

theorem Counts.run_put {w : World} {B : Nat} {c : ByteArray → Int} (h : Counts w B c) (s : ByteArray) (v : Value) : (Instr.mapUpdate 48 (.map (some B)) (.string s) v).run Try.prog w = .ok () (putMap w B s v) := by
  obtain ⟨f, h1, h2⟩ := h
  exact h1.run_put (P := Try.prog) (T := 48) (K := 9) (E := 3) Try.underlying48 Try.underlying9 s v

theorem Counts.put {w : World} {B : Nat} {c c' : ByteArray → Int} (h : Counts w B c) (s : ByteArray) (x : Int) (hc : ∀ s', c' s' = if s' = s then x else c s') : Counts (putMap w B s (.int .i64 x)) B c' := by
  obtain ⟨f, h1, h2⟩ := h
  refine ⟨_, h1.put s _, fun s' => ?_⟩
  rw [hc s']
  unfold upd
  by_cases e : s' = s
  · simp [e]
  · simp [e, h2]

theorem Counts.below {C : Nat} {w0 w : World} {B : Nat} {c : ByteArray → Int} (hb : Below C w0 w) (h : Counts w B c) (hB : C ≤ B) (s : ByteArray) (v : Value) : Below C w0 (putMap w B s v) := by
  obtain ⟨f, h1, h2⟩ := h
  exact hb.trans ⟨(putMap_grown h1 s v).os, (putMap_grown h1 s v).tape, (putMap_grown h1 s v).output, by rw [putMap_size]; exact Nat.le_refl _, fun k hk => putMap_block h1 s v k (by omega)⟩

def PermPost (w : World) (e : Ending) (w' : World) : Prop := e = .returned (.bool true) ∧ Below w.heap.size w w'

set_option maxHeartbeats 1000000 in
theorem perm_any (ga wa : Option Addr) (n gc wc : Nat) (gs ws : Nat → ByteArray) (w : World) (hg : Strs w ga n gs) (hw : Strs w wa n ws)
    (hsort : ∀ i, i + 1 < n → Op.bytesLess (gs (i + 1)).toList (gs i).toList = false) (hocc : ∀ s, occ gs n s = occ ws n s) :
    Calls Try.prog 13 #[.slice ga n gc, .slice wa n wc] w (PermPost w) := by
  have hlen := hg.1
  have hmm := @run_makeMap Try.prog
  go_enter Try.func13, Try.ntmps13
  go_wp2
  go_loopw [5] (fun i wr => ∃ j : Nat, (j + 1 ≤ n ∨ j = 0) ∧ i = .int .i64 ((j : Int) + 1) ∧ Below w.heap.size w wr ∧ wr.heap.size = w.heap.size) (fun i _ => n - (intOf i).toNat)
  case atStart => exact ⟨0, .inr rfl, rfl, Below.refl _ _, rfl⟩
  case round =>
    obtain ⟨j, hk, rfl, hbl, hsz⟩ := hrel
    by_cases hlt : j + 1 < n
    · obtain ⟨b, off, rfl, hb, hc⟩ := hg.2 (by omega)
      have c1 := (hbl.cell (p := ⟨b, _, none⟩) (by exact hb)).trans (hc (j + 1) hlt)
      have c0 := (hbl.cell (p := ⟨b, _, none⟩) (by exact hb)).trans (hc j (by omega))
      have hs1 := hsort j hlt
      have hi1 : (j : Int) + 1 < (n : Int) := by omega
      have hi0 : (j : Int) < (n : Int) := by omega
      have HZ : Hid (wr.heap.size = w.heap.size) := hsz
      clear hc hk hsz
      go_wp2
      go_region
      go_wp2
      go_roundw
      case rel => exact ⟨j + 1, .inl (by omega), by go_num, hbl.drew, HZ.out⟩
      case measure => simp [intOf]; omega
    · have hmade := SMap.made wr
      rw [hsz] at hmade
      go_wp2
      go_loopw [7] (fun i wr2 => ∃ k : Nat, k ≤ n ∧ i = .int .i64 k ∧ Counts wr2 w.heap.size (fun s => (occ ws k s : Int)) ∧ Below w.heap.size w wr2) (fun i _ => n - (intOf i).toNat)
      case atStart =>
        refine ⟨0, by omega, rfl, ⟨_, hmade, fun s => rfl⟩, hbl.alloc (by rw [hsz]; exact Nat.le_refl _) _⟩
      case' round => clear hmade hbl hsz
      case round =>
        obtain ⟨k, hkn, rfl, hcnt, hbl2⟩ := hrel
        by_cases hlt2 : k < n
        · obtain ⟨b, off, rfl, hb, hc⟩ := hw.2 (by omega)
          have c1 := (hbl2.cell (p := ⟨b, _, none⟩) (by exact hb)).trans (hc k hlt2)
          have hlook := hcnt.lookup
          have hput := hcnt.run_put
          have ho := occ_le ws k (ws k)
          clear hc
          go_wp2
          go_roundw
          case rel =>
            refine ⟨k + 1, by omega, by go_num, hcnt.put _ _ (fun s' => ?_), Counts.below hbl2 hcnt (Nat.le_refl _) _ _⟩
            rw [occ_succ]
            by_cases e : s' = ws k
            · subst e; simp
            · have e' : ¬ ws k = s' := fun h => e h.symm
              simp [e, e']
          case measure => simp [intOf]; omega
        · have hk : k = n := by omega
          subst hk
          go_wp2
          go_loopw [8] (fun i wr2 => ∃ j : Nat, j ≤ k ∧ i = .int .i64 j ∧ Counts wr2 w.heap.size (fun s => (occ ws k s : Int) - (occ gs j s : Int)) ∧ Below w.heap.size w wr2) (fun i _ => k - (intOf i).toNat)
          case atStart =>
            exact ⟨0, by omega, rfl, by simpa [occ] using hcnt, hbl2⟩
          case round =>
            clear hcnt hbl2
            obtain ⟨j, hjn, rfl, hcnt, hbl2⟩ := hrel
            by_cases hlt3 : j < k
            · obtain ⟨b, off, rfl, hb, hc⟩ := hg.2 (by omega)
              have c1 := (hbl2.cell (p := ⟨b, _, none⟩) (by exact hb)).trans (hc j hlt3)
              have hlook := hcnt.lookup (gs j)
              have hput := hcnt.run_put (gs j)
              have o1 := occ_le ws k (gs j)
              have o2 := occ_mono gs (show j + 1 ≤ k by omega) (gs j)
              rw [hocc, occ_succ, if_pos rfl] at o2
              have hcnt2 : Counts (putMap wr w.heap.size (gs j) (.int .i64 ((occ ws k (gs j) : Int) - (occ gs j (gs j) : Int) - 1))) w.heap.size (fun s => (occ ws k s : Int) - (occ gs (j + 1) s : Int)) := by
                refine hcnt.put _ _ (fun s' => ?_)
                rw [occ_succ]
                by_cases e : s' = gs j
                · subst e; simp; omega
                · have e' : ¬ gs j = s' := fun h => e h.symm
                  simp [e, e']
              have hlook2 := hcnt2.lookup (gs j)
              rw [occ_succ, if_pos rfl] at hlook2
              have hb2 := Counts.below hbl2 hcnt (Nat.le_refl _) (gs j) (.int .i64 ((occ ws k (gs j) : Int) - (occ gs j (gs j) : Int) - 1))
              have c2 := (hb2.cell (p := ⟨b, _, none⟩) (by exact hb)).trans (hc j hlt3)
              clear hc
              go_wp2
              go_roundw
              case rel => exact ⟨j + 1, by omega, by go_num, hcnt2, hb2⟩
              case measure => simp [intOf]; omega
            · go_wp2
              go_ret
              exact ⟨rfl, hbl2⟩

end Go.Proofs.Qxb6601805a
