import Derived.Test.Qxb6601805aPlain
import Derived.Test.Qxb6601805aMaps
import Derived.Test.Qxb6601805aBytes
namespace Go.Proofs.Qxb6601805a
open Go.RowKit

/-- A set as a map of trues. -/
def fs (r : ByteArray → Bool) (s : ByteArray) : Option Value := if r s then some (.bool true) else none

theorem fs_getD (r : ByteArray → Bool) (s : ByteArray) : (fs r s).getD (.bool false) = .bool (r s) := by
  unfold fs; cases r s <;> rfl

theorem fs_mark (r : ByteArray → Bool) (s s' : ByteArray) : upd (fs r) s (some (.bool true)) s' = fs (mark r s) s' := by
  unfold upd fs mark
  by_cases h : s' = s <;> simp [h]

theorem zero4 (w : World) : (zeroValue 4).run Try.prog w = .ok (.bool false) w := by kernel_rfl

theorem look33 {w : World} {B : Nat} {r : ByteArray → Bool} (h : SMap w B (fs r)) (s : ByteArray) : (Instr.lookup 33 (.map (some B)) (.string s) false).run Try.prog w = .ok (.bool (r s)) w := by
  rw [h.lookup (P := Try.prog) (T := 33) (K := 9) (E := 4) Try.underlying33 Try.underlying9 (zero4 w) s, fs_getD]

theorem put33 {w : World} {B : Nat} {f : ByteArray → Option Value} (h : SMap w B f) (s : ByteArray) (v : Value) : (Instr.mapUpdate 33 (.map (some B)) (.string s) v).run Try.prog w = .ok () (putMap w B s v) :=
  h.run_put (P := Try.prog) (T := 33) (K := 9) (E := 4) Try.underlying33 Try.underlying9 s v

theorem set_made (w : World) (i : ByteArray) : SMap (putMap (w.alloc (.map #[] 0)) w.heap.size i (.bool true)) w.heap.size (fs (mark (fun _ => false) i)) :=
  ((SMap.made w).put i (.bool true)).congr (fun s => by unfold upd fs mark; by_cases h : s = i <;> simp [h])

theorem below_put {C : Nat} {w0 w : World} {B : Nat} {f : ByteArray → Option Value} (hb : Below C w0 w) (h : SMap w B f) (hB : C ≤ B) (s : ByteArray) (v : Value) : Below C w0 (putMap w B s v) :=
  hb.trans ⟨(putMap_grown h s v).os, (putMap_grown h s v).tape, (putMap_grown h s v).output, by rw [putMap_size]; exact Nat.le_refl _, fun k hk => putMap_block h s v k (by omega)⟩

/-- What lcB1ReachedSet leaves. -/
def RSPost (w : World) (len : Nat) (sf st : Nat → ByteArray) (ini : ByteArray) (e : Ending) (w' : World) : Prop :=
  ∃ r : ByteArray → Bool, e = .returned (.map (some w.heap.size)) ∧ SMap w' w.heap.size (fs r) ∧ Below w.heap.size w w' ∧ (∀ s, r s = true ↔ Reach len sf st ini s)

set_option maxHeartbeats 1000000 in
theorem reachedSet_any (ini : ByteArray) (ad : Option Addr) (len cap : Nat) (se sf st : Nat → ByteArray) (w : World) (hs : Trs w ad len se sf st) :
    Calls Try.prog 12 #[.string ini, .slice ad len cap] w (RSPost w len sf st ini) := by
  have hlen := hs.1
  have hmm := @run_makeMap Try.prog
  have hins := put33 (SMap.made w) ini (.bool true)
  go_enter Try.func12, Try.ntmps12
  go_wp2
  go_loopw [6, 7] (fun c i wr => ∃ (K : Nat) (ch : Bool) (r : ByteArray → Bool), c = .bool ch ∧ i = .int .i64 K ∧ K ≤ len + 1 ∧ (ch = true → K ≤ cnt len st r) ∧ (ch = false → ClosedTo sf st r len) ∧ r ini = true ∧ Sound len sf st ini r ∧ SMap wr w.heap.size (fs r) ∧ Below w.heap.size w wr) (fun _ i _ => len + 1 - (intOf i).toNat)
  case atStart =>
    refine ⟨0, true, mark (fun _ => false) ini, rfl, rfl, by omega, fun _ => by omega, (fun h => by cases h), mark_self _ _, ?_, set_made w ini, below_put ((Below.refl _ _).alloc (Nat.le_refl _) _) (SMap.made w) (Nat.le_refl _) _ _⟩
    intro s hh
    rcases mark_cases hh with rfl | hh
    · exact Reach.start
    · cases hh
  case round =>
    obtain ⟨K, ch, r, rfl, rfl, hK, hct, hcf, hini, hsound, hmap, hbl⟩ := hrel
    clear hins
    cases ch with
    | false =>
      have hfin := reach_iff hini hsound (hcf rfl)
      clear hct hcf
      go_wp2
      go_ret
      exact ⟨r, rfl, hmap, hbl, hfin⟩
    | true =>
      have hct1 := hct rfl
      clear hcf hct
      have hcl := cnt_le len st r
      have hKl : K ≤ len := by omega
      go_wp2
      go_loopw [6, 8] (fun c i wr => ∃ (j : Nat) (ch : Bool) (r : ByteArray → Bool), c = .bool ch ∧ i = .int .i64 j ∧ j ≤ len ∧ (ch = true → K + 1 ≤ cnt len st r) ∧ K ≤ cnt len st r ∧ (ch = false → ClosedTo sf st r j) ∧ r ini = true ∧ Sound len sf st ini r ∧ SMap wr w.heap.size (fs r) ∧ Below w.heap.size w wr) (fun _ i _ => len - (intOf i).toNat)
      case atStart => exact ⟨0, false, r, rfl, rfl, by omega, (fun h => by cases h), hct1, fun _ k hk => by omega, hini, hsound, hmap, hbl⟩
      case round =>
        clear hini hsound hmap hbl hct1 hcl
        clear r
        obtain ⟨j, ch, r, rfl, rfl, hj, hct, hc0, hcf, hini, hsound, hmap, hbl⟩ := hrel
        by_cases hlt : j < len
        · obtain ⟨b, off, rfl, hb, hc⟩ := hs.2 (by omega)
          have c1 := (hbl.cell (p := ⟨b, _, none⟩) (by exact hb)).trans (hc j hlt).2.1
          have c2 := (hbl.cell (p := ⟨b, _, none⟩) (by exact hb)).trans (hc j hlt).2.2
          have hlook := look33 hmap
          have hput := put33 hmap
          clear hc
          by_cases h1 : r (sf j) = true
          · by_cases h2 : r (st j) = true
            · go_wp2
              go_roundw
              case rel =>
                refine ⟨j + 1, ch, r, rfl, by go_num, by omega, hct, hc0, fun h k hk hr => ?_, hini, hsound, hmap, hbl⟩
                by_cases hkj : k = j
                · subst hkj; exact h2
                · exact hcf h k (by omega) hr
              case measure => simp [intOf]; omega
            · have h2 : r (st j) = false := by simpa using h2
              have hm := cnt_mark len st (r := r) hlt h2
              go_wp2
              go_roundw
              case rel =>
                refine ⟨j + 1, true, mark r (st j), rfl, by go_num, by omega, fun _ => by omega, by omega, (fun h => by cases h), mark_of hini, hsound.mark (Reach.step hlt (hsound _ h1)), (hmap.put _ _).congr (fs_mark r _), below_put hbl hmap (Nat.le_refl _) _ _⟩
              case measure => simp [intOf]; omega
          · have h1 : r (sf j) = false := by simpa using h1
            go_wp2
            go_roundw
            case rel =>
              refine ⟨j + 1, ch, r, rfl, by go_num, by omega, hct, hc0, fun h k hk hr => ?_, hini, hsound, hmap, hbl⟩
              by_cases hkj : k = j
              · subst hkj; rw [h1] at hr; cases hr
              · exact hcf h k (by omega) hr
            case measure => simp [intOf]; omega
        · have hjl : j = len := by omega
          subst hjl
          go_wp2
          go_roundw
          case rel =>
            exact ⟨K + 1, ch, r, rfl, by go_num, by omega, hct, hcf, hini, hsound, hmap, hbl⟩
          case measure => simp [intOf]; omega

end Go.Proofs.Qxb6601805a
