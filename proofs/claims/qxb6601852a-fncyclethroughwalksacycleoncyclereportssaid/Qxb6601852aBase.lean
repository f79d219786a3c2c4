import Derived.Test.Qxb6601852aProg
import Derived.WalkKit
import Derived.WalkSpells
import Derived.WalkLawsBesides
import Derived.Deep.OwnRows
import Derived.BigRegion
namespace Go.Proofs.Qxb6601852a
open Go.RowKit

/-- The call returned some bool. -/
def IsB (e : Ending) : Prop := ∃ b : Bool, e = .returned (.bool b)

/-- A slice of ints that can be read. -/
def Ints (w : World) (ad : Option Addr) (len : Nat) (zs : Nat → Int) : Prop :=
  len * 8 ≤ 140737488351232 ∧ (0 < len → ∃ b off, ad = some ⟨b, off, none⟩ ∧ b < w.heap.size ∧ ∀ i, i < len → w.cell? ⟨b, off + i, none⟩ = some (.int .i64 (zs i)))

theorem Ints.below {B : Nat} {w w' : World} {ad : Option Addr} {len : Nat} {zs : Nat → Int} (h : Ints w ad len zs) (hb : Below B w w') (hB : w.heap.size ≤ B) : Ints w' ad len zs := by
  refine ⟨h.1, fun hl => ?_⟩
  obtain ⟨b, off, rfl, hlt, hc⟩ := h.2 hl
  have := hb.size
  exact ⟨b, off, rfl, by omega, fun i hi => (hb.cell (p := ⟨b, off + i, none⟩) (by show b < B; omega)).trans (hc i hi)⟩

theorem Try.info3 : (Try.prog.info? 3).map (fun i => (i.zero, i.size, i.bytes)) = some (some (.int .i64 0), 1, 8) := by kernel_rfl

/-- The numbers copied so far. -/
def upto (zs : Nat → Int) (k : Nat) (i : Nat) : Value := if i < k then .int .i64 (zs i) else .int .i64 0

theorem upto_step (zs : Nat → Int) (k j : Nat) : (if j = k then .int .i64 (zs k) else upto zs k j) = upto zs (k + 1) j := by
  unfold upto
  by_cases h : j = k
  · subst h; simp
  · rw [if_neg h]
    by_cases h2 : j < k
    · rw [if_pos h2, if_pos (by omega)]
    · rw [if_neg h2, if_neg (by omega)]

def ClonePost (w : World) (len : Nat) (zs : Nat → Int) (e : Ending) (w' : World) : Prop := ∃ ad', e = .returned (.slice ad' len len) ∧ Ints w' ad' len zs ∧ Below w.heap.size w w' ∧ w'.heap.size ≤ w.heap.size + 1

set_option maxHeartbeats 400000 in
theorem cloneInts_any (ad : Option Addr) (len cap : Nat) (zs : Nat → Int) (w : World) (hs : Ints w ad len zs) :
    Calls Try.prog 26 #[.slice ad len cap] w (ClonePost w len zs) := by
  have hlen := hs.1
  cases ad with
  | none =>
    have hl0 : len = 0 := by
      rcases Nat.eq_zero_or_pos len with h | h
      · exact h
      · obtain ⟨_, _, h, _⟩ := hs.2 h; cases h
    subst hl0
    have hnil := fun w => Lib.run_eql_slice_nil (P := Try.prog) w 28 3 none 0 cap 0 0 Try.underlying28
    go_enter Try.func26, Try.ntmps26
    go_wp2
    go_ret
    exact ⟨none, rfl, hs, Below.refl _ _, Nat.le_succ _⟩
  | some a =>
    have hnil := fun w => Lib.run_eql_slice_nil (P := Try.prog) w 28 3 (some a) len cap 0 0 Try.underlying28
    have hmk := run_make_row' (P := Try.prog) 28 3 (.int .i64 0) 8 Try.underlying28 Try.info3 rfl .i64 .i64 len (by omega) (by omega)
    go_enter Try.func26, Try.ntmps26
    go_wp2
    go_loopw [4] (fun i wr => ∃ k : Nat, k ≤ len ∧ i = .int .i64 k ∧ wr.rowIs w.heap.size 3 len (upto zs k) ∧ Below w.heap.size w wr ∧ wr.heap.size ≤ w.heap.size + 1) (fun i _ => len - (intOf i).toNat)
    case atStart =>
      refine ⟨0, Nat.zero_le _, rfl, (World.rowIs_made w (.int .i64 0) len 3).congr (fun i _ => ?_), (Below.refl _ _).alloc (Nat.le_refl _) _, by rw [Deep.nblk_alloc]; omega⟩
      simp [upto]
    case round =>
      obtain ⟨k, hk, rfl, hrow, hbl, hsz⟩ := hrel
      by_cases hlt : k < len
      · obtain ⟨b, off, ha, hb, hc⟩ := hs.2 (by omega)
        cases ha
        have c0 := (hbl.cell (p := ⟨b, off + k, none⟩) (by exact hb)).trans (hc k hlt)
        have c1 := hrow.cell hlt
        have f1 := hrow.frozen k
        clear hc
        go_wp2
        go_roundw
        case rel => exact ⟨k + 1, by omega, by go_num, (hrow.set k (.int .i64 (zs k))).congr (fun j _ => upto_step zs k j), hbl.setCell (Nat.le_refl _) _, by rw [Deep.nblk_setCell]; exact hsz⟩
        case measure => simp [intOf]; omega
      · go_wp2
        go_ret
        have hkl : k = len := by omega
        subst hkl
        refine ⟨_, rfl, ⟨hlen, fun h => ⟨w.heap.size, 0, rfl, hrow.lt, fun i hi => ?_⟩⟩, hbl, hsz⟩
        have := hrow.cell hi
        simpa [upto, hi] using this

/-- Less as a function of the two numbers. -/
def lessB (a b t : Int) : Bool := if decide (t ≤ a) != decide (t ≤ b) then decide (t ≤ a) else decide (a < b)

def LessPost (w : World) (r : Bool) (e : Ending) (w' : World) : Prop := e = .returned (.bool r) ∧ Below w.heap.size w w'

set_option maxHeartbeats 400000 in
theorem less_any (ad : Option Addr) (len cap : Nat) (t : Int) (i j : Nat) (zs : Nat → Int) (w : World) (hs : Ints w ad len zs) (hi : i < len) (hj : j < len) :
    Calls Try.prog 31 #[.agg #[.slice ad len cap, .int .i64 t], .int .i64 i, .int .i64 j] w (LessPost w (lessB (zs i) (zs j) t)) := by
  have hlen := hs.1
  obtain ⟨b, off, rfl, hb, hc⟩ := hs.2 (by omega)
  have hbA : Below w.heap.size w (w.alloc (.cells #[.slice (some ⟨b, off, none⟩) len cap, .int .i64 t] 39)) := (Below.refl _ _).alloc (Nat.le_refl _) _
  have ci := (hbA.cell (p := ⟨b, _, none⟩) (by exact hb)).trans (hc i hi)
  have cj := (hbA.cell (p := ⟨b, _, none⟩) (by exact hb)).trans (hc j hj)
  have hi' : (i : Int) < (len : Int) := by omega
  have hj' : (j : Int) < (len : Int) := by omega
  clear hc
  go_enter Try.func31, Try.ntmps31
  go_wp2
  go_region
  go_wp2
  go_region
  go_wp2
  · have hq : (decide (t ≤ zs i) != decide (t ≤ zs j)) = true := by assumption
    go_ret
    exact ⟨congrArg (fun b => Ending.returned (.bool b)) (by unfold lessB; rw [if_pos hq]), hbA.drew.drew⟩
  · have hq : (decide (t ≤ zs i) != decide (t ≤ zs j)) = false := by assumption
    go_ret
    exact ⟨congrArg (fun b => Ending.returned (.bool b)) (by unfold lessB; rw [if_neg (by rw [hq]; exact Bool.false_ne_true)]), hbA.drew.drew⟩

set_option maxHeartbeats 400000 in
theorem zzless_any (ad : Option Addr) (len cap : Nat) (t : Int) (i j : Nat) (zs : Nat → Int) (w : World) (hs : Ints w ad len zs) (hi : i < len) (hj : j < len) :
    Calls Try.prog 27 #[.slice ad len cap, .int .i64 t, .int .i64 i, .int .i64 j] w (LessPost w (lessB (zs i) (zs j) t)) := by
  go_enter Try.func27, Try.ntmps27
  go_wp2_with fail
  refine (less_any ad len cap t i j zs w hs hi hj).mono ?_
  rintro e w' ⟨rfl, hb⟩
  go_wp2_with fail
  go_ret
  exact ⟨rfl, hb⟩

def SameB (w : World) (e : Ending) (w' : World) : Prop := IsB e ∧ w = w'

set_option maxHeartbeats 400000 in
theorem zz25_any (ad : Option Addr) (len cap : Nat) (t i j : Int) (w : World) :
    Calls Try.prog 25 #[.slice ad len cap, .int .i64 t, .int .i64 i, .int .i64 j] w (SameB w) := by
  go_enter Try.func25, Try.ntmps25
  go_wp2
  all_goals (go_ret; exact ⟨⟨_, rfl⟩, rfl⟩)

set_option maxHeartbeats 400000 in
theorem zz28_any (ad : Option Addr) (len cap : Nat) (t i j k : Int) (w : World) :
    Calls Try.prog 28 #[.slice ad len cap, .int .i64 t, .int .i64 i, .int .i64 j, .int .i64 k] w (SameB w) := by
  go_enter Try.func28, Try.ntmps28
  go_wp2
  all_goals (go_ret; exact ⟨⟨_, rfl⟩, rfl⟩)

end Go.Proofs.Qxb6601852a
