import Derived.Test.Qxb6601852aRev
namespace Go.Proofs.Qxb6601852a
open Go.RowKit

theorem Ints.setOther {w : World} {ad : Option Addr} {len : Nat} {zs : Nat → Int} (h : Ints w ad len zs) {a : Addr} (ha : ∀ b off, ad = some ⟨b, off, none⟩ → b ≠ a.block) (u : Value) : Ints (w.setCell a u) ad len zs := by
  refine ⟨h.1, fun hl => ?_⟩
  obtain ⟨b, off, rfl, hlt, hc⟩ := h.2 hl
  refine ⟨b, off, rfl, by rw [Deep.nblk_setCell]; exact hlt, fun i hi => ?_⟩
  rw [← hc i hi]
  exact World.cell?_of_block (w := w) (Below.heap_setCell w a u b (ha b off rfl))

def CloneNew (w : World) (len : Nat) (zs : Nat → Int) (e : Ending) (w' : World) : Prop := ∃ ad', e = .returned (.slice ad' len len) ∧ Ints w' ad' len zs ∧ Below w.heap.size w w' ∧ ∀ b off, ad' = some ⟨b, off, none⟩ → w.heap.size ≤ b

set_option maxHeartbeats 400000 in
theorem cloneInts_new (ad : Option Addr) (len cap : Nat) (zs : Nat → Int) (w : World) (hs : Ints w ad len zs) :
    Calls Try.prog 26 #[.slice ad len cap] w (CloneNew w len zs) := by
  have hlen := hs.1
  cases ad with
  | none =>
    have hl0 : len = 0 := by
      rcases Nat.eq_zero_or_pos len with h | h
      · exact h
      · obtain ⟨_, _, h, _⟩ := hs.2 h; cases h
    subst hl0
    have hnil := fun w => Lib.run_eql_slice_nil (P := Try.prog) w 28 3 none 0 cap 0 0 Try.underlying28
    go_enter Try.func26, Try.ntmps26
    go_wp2
    go_ret
    exact ⟨none, rfl, hs, Below.refl _ _, fun b off h => by cases h⟩
  | some a =>
    have hnil := fun w => Lib.run_eql_slice_nil (P := Try.prog) w 28 3 (some a) len cap 0 0 Try.underlying28
    have hmk := run_make_row' (P := Try.prog) 28 3 (.int .i64 0) 8 Try.underlying28 Try.info3 rfl .i64 .i64 len (by omega) (by omega)
    go_enter Try.func26, Try.ntmps26
    go_wp2
    go_loopw [4] (fun i wr => ∃ k : Nat, k ≤ len ∧ i = .int .i64 k ∧ wr.rowIs w.heap.size 3 len (upto zs k) ∧ Below w.heap.size w wr) (fun i _ => len - (intOf i).toNat)
    case atStart =>
      refine ⟨0, Nat.zero_le _, rfl, (World.rowIs_made w (.int .i64 0) len 3).congr (fun i _ => ?_), (Below.refl _ _).alloc (Nat.le_refl _) _⟩
      simp [upto]
    case round =>
      obtain ⟨k, hk, rfl, hrow, hbl⟩ := hrel
      by_cases hlt : k < len
      · obtain ⟨b, off, ha, hb, hc⟩ := hs.2 (by omega)
        cases ha
        have c0 := (hbl.cell (p := ⟨b, off + k, none⟩) (by exact hb)).trans (hc k hlt)
        have c1 := hrow.cell hlt
        have f1 := hrow.frozen k
        clear hc
        go_wp2
        go_roundw
        case rel => exact ⟨k + 1, by omega, by go_num, (hrow.set k (.int .i64 (zs k))).congr (fun j _ => upto_step zs k j), hbl.setCell (Nat.le_refl _) _⟩
        case measure => simp [intOf]; omega
      · go_wp2
        go_ret
        have hkl : k = len := by omega
        subst hkl
        refine ⟨_, rfl, ⟨hlen, fun h => ⟨w.heap.size, 0, rfl, hrow.lt, fun i hi => ?_⟩⟩, hbl, fun b off h => by cases h; exact Nat.le_refl _⟩
        have := hrow.cell hi
        simpa [upto, hi] using this

/-- The rows copied so far. -/
def Copied (H n : Nat) (ln : Nat → Nat) (zs : Nat → Nat → Int) (k : Nat) (wr : World) : Prop :=
  ∃ f : Nat → Value, wr.rowIs H 28 n f ∧ ∀ v, v < k → ∃ ra, f v = .slice ra (ln v) (ln v) ∧ Ints wr ra (ln v) (zs v) ∧ ∀ b off, ra = some ⟨b, off, none⟩ → H < b

theorem Copied.step {H n : Nat} {ln : Nat → Nat} {zs : Nat → Nat → Int} {k : Nat} {wr w2 : World} {ra : Option Addr} (h : Copied H n ln zs k wr) (hb : Below wr.heap.size wr w2) (hi : Ints w2 ra (ln k) (zs k)) (hnew : ∀ b off, ra = some ⟨b, off, none⟩ → wr.heap.size ≤ b) :
    Copied H n ln zs (k + 1) (w2.setCell ⟨H, k, none⟩ (.slice ra (ln k) (ln k))) := by
  obtain ⟨f, hf, hall⟩ := h
  have hlt := hf.lt
  have hf2 : w2.rowIs H 28 n f := hf.of_block (hb.block H hlt)
  refine ⟨set f k (.slice ra (ln k) (ln k)), (hf2.set k _).congr (fun j _ => by unfold set; rfl), fun v hv => ?_⟩
  by_cases e : v = k
  · subst e
    exact ⟨ra, set_same _ _ _, hi.setOther (fun b off h => by have := hnew b off h; show b ≠ H; omega) _, fun b off h => by have := hnew b off h; omega⟩
  · obtain ⟨ra', h1, h2, h3⟩ := hall v (by omega)
    exact ⟨ra', by rw [set_other _ _ e]; exact h1, (h2.below hb (Nat.le_refl _)).setOther (fun b off h => by have := h3 b off h; show b ≠ H; omega) _, h3⟩

def CloneGPost (w : World) (n : Nat) (ln : Nat → Nat) (zs : Nat → Nat → Int) (e : Ending) (w' : World) : Prop := ∃ ad', e = .returned (.slice ad' n n) ∧ RGraph w' ad' n ln zs ∧ Below w.heap.size w w'

set_option maxHeartbeats 1000000 in
theorem cloneGraph_any (ad : Option Addr) (n cap : Nat) (ln : Nat → Nat) (zs : Nat → Nat → Int) (w : World) (hs : RGraph w ad n ln zs) :
    Calls Try.prog 12 #[.slice ad n cap] w (CloneGPost w n ln zs) := by
  have hlen := hs.1
  cases ad with
  | none =>
    have hl0 : n = 0 := by
      rcases Nat.eq_zero_or_pos n with h | h
      · exact h
      · obtain ⟨_, _, h, _⟩ := hs.2 h; cases h
    subst hl0
    have hnil := fun w => Lib.run_eql_slice_nil (P := Try.prog) w 22 28 none 0 cap 0 0 Try.underlying22
    go_enter Try.func12, Try.ntmps12
    go_wp2
    go_ret
    exact ⟨none, rfl, hs, Below.refl _ _⟩
  | some a =>
    have hnil := fun w => Lib.run_eql_slice_nil (P := Try.prog) w 22 28 (some a) n cap 0 0 Try.underlying22
    have hmk := run_make_row' (P := Try.prog) 22 28 (.slice none 0 0) 24 Try.underlying22 Try.info28 rfl .i64 .i64 n (by omega) (by omega)
    go_enter Try.func12, Try.ntmps12
    go_wp2
    go_loopw [4] (fun i wr => ∃ k : Nat, k ≤ n ∧ i = .int .i64 k ∧ Copied w.heap.size n ln zs k wr ∧ Below w.heap.size w wr) (fun i _ => n - (intOf i).toNat)
    case atStart => exact ⟨0, Nat.zero_le _, rfl, ⟨fun _ => .slice none 0 0, World.rowIs_made w (.slice none 0 0) n 28, fun v hv => by omega⟩, (Below.refl _ _).alloc (Nat.le_refl _) _⟩
    case round =>
      obtain ⟨k, hk, rfl, hcop, hbl⟩ := hrel
      by_cases hlt : k < n
      · obtain ⟨b, off, ra, rc, ha, hb, hc, hi⟩ := hs.row hlt
        cases ha
        have c0 := (hbl.cell (p := ⟨b, off + k, none⟩) (by exact hb)).trans hc
        have hi2 := hi.below hbl (Nat.le_refl _)
        have hk' : (k : Int) < (n : Int) := by omega
        have hsz : w.heap.size < wr.heap.size := by obtain ⟨f, hf, _⟩ := hcop; exact hf.lt
        clear hc
        go_wp2_with fail
        refine (cloneInts_new ra (ln k) rc (zs k) wr hi2).mono ?_
        rintro e w2 ⟨ra', rfl, hi', hb2, hnew⟩
        have hrow : ∃ f, wr.rowIs w.heap.size 28 n f := by obtain ⟨f, hf, _⟩ := hcop; exact ⟨f, hf⟩
        obtain ⟨f, hf⟩ := hrow
        have hf2 : w2.rowIs w.heap.size 28 n f := hf.of_block (hb2.block _ hsz)
        have c2 := hf2.cell hlt
        have f2 := hf2.frozen k
        clear hf hf2
        go_wp2
        go_roundw
        case rel => exact ⟨k + 1, by omega, by go_num, hcop.step hb2 hi' hnew, (hbl.trans (hb2.mono (by omega))).setCell (Nat.le_refl _) _⟩
        case measure => simp [intOf]; omega
      · go_wp2
        go_ret
        have hkl : k = n := by omega
        subst hkl
        obtain ⟨f, hf, hall⟩ := hcop
        refine ⟨_, rfl, ⟨hlen, fun h => ⟨w.heap.size, 0, rfl, hf.lt, fun v hv => ?_⟩⟩, hbl⟩
        obtain ⟨ra, h1, h2, _⟩ := hall v hv
        exact ⟨ra, ln v, by rw [Nat.zero_add, hf.cell hv, h1], h2⟩

def TruePost (w : World) (e : Ending) (w' : World) : Prop := e = .returned (.bool true) ∧ Below w.heap.size w w'

set_option maxHeartbeats 1000000 in
theorem boolsEqual_any (A B n : Nat) (f g : Nat → Bool) (w : World) (hn : n ≤ 4096) (ha : w.rowIs A 4 n (fun v => .bool (f v))) (hb : w.rowIs B 4 n (fun v => .bool (g v))) (he : ∀ v, v < n → f v = g v) :
    Calls Try.prog 15 #[.slice (some ⟨A, 0, none⟩) n n, .slice (some ⟨B, 0, none⟩) n n] w (TruePost w) := by
  have hneq : ((n : Int) != (n : Int)) = false := by simp
  go_enter Try.func15, Try.ntmps15
  go_wp2
  go_loopw [5] (fun i wr => ∃ k : Nat, k ≤ n ∧ i = .int .i64 (k : Int) ∧ wr.rowIs A 4 n (fun v => .bool (f v)) ∧ wr.rowIs B 4 n (fun v => .bool (g v)) ∧ Below w.heap.size w wr) (fun i _ => n - (intOf i).toNat)
  case atStart => exact ⟨0, Nat.zero_le _, rfl, ha, hb, Below.refl _ _⟩
  case round =>
    clear ha hb
    obtain ⟨k, hk, rfl, ha, hb, hbl⟩ := hrel
    by_cases hlt : k < n
    · have hk' : (k : Int) < (n : Int) := by omega
      have ca : wr.cell? ⟨A, k, none⟩ = some (.bool (f k)) := ha.cell hlt
      have cb : wr.cell? ⟨B, k, none⟩ = some (.bool (f k)) := by rw [he k hlt]; exact hb.cell hlt
      have hff : (f k != f k) = false := by simp
      have HE : Hid (∀ v, v < n → f v = g v) := he
      clear he
      go_wp2
      go_quiet (fail)
      go_wp2
      go_roundw
      case rel => exact ⟨k + 1, by omega, by go_num, ha, hb, below_drewN hbl _⟩
      case measure => simp [intOf]; omega
    · go_wp2
      go_ret
      exact ⟨rfl, hbl⟩

end Go.Proofs.Qxb6601852a
