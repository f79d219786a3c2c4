import Derived.Test.Qxb6601805aBytes
import Derived.Deep.OwnRows
namespace Go.Proofs.Qxb6601805a
open Go.RowKit

theorem Try.info9 : (Try.prog.info? 9).map (fun i => (i.zero, i.size, i.bytes)) = some (some (.string ByteArray.empty), 1, 16) := by kernel_rfl
theorem Try.info37 : (Try.prog.info? 37).map (fun i => (i.zero, i.size, i.bytes)) = some (some (.agg #[.string ByteArray.empty, .string ByteArray.empty, .string ByteArray.empty]), 3, 48) := by kernel_rfl
theorem Try.info47 : (Try.prog.info? 47).map (fun i => (i.zero, i.size, i.bytes)) = some (some (.agg #[.string ByteArray.empty, .string ByteArray.empty, .string ByteArray.empty]), 3, 48) := by kernel_rfl

/-- The strings copied so far. -/
def upto (ss : Nat → ByteArray) (k : Nat) (i : Nat) : Value := if i < k then .string (ss i) else .string ByteArray.empty

theorem upto_step (ss : Nat → ByteArray) (k j : Nat) : (if j = k then .string (ss k) else upto ss k j) = upto ss (k + 1) j := by
  unfold upto
  by_cases h : j = k
  · subst h; simp
  · rw [if_neg h]
    by_cases h2 : j < k
    · rw [if_pos h2, if_pos (by omega)]
    · rw [if_neg h2, if_neg (by omega)]

set_option maxHeartbeats 400000 in
theorem cloneStrs_any (ad : Option Addr) (len cap : Nat) (ss : Nat → ByteArray) (w : World) (hs : Strs w ad len ss) :
    Calls Try.prog 8 #[.slice ad len cap] w fun e w' => ∃ ad', e = .returned (.slice ad' len len) ∧ Strs w' ad' len ss ∧ Below w.heap.size w w' := by
  have hlen := hs.1
  cases ad with
  | none =>
    have hl0 : len = 0 := by
      rcases Nat.eq_zero_or_pos len with h | h
      · exact h
      · obtain ⟨_, _, h, _⟩ := hs.2 h; cases h
    subst hl0
    have hnil := fun w => Lib.run_eql_slice_nil (P := Try.prog) w 22 9 none 0 cap 0 0 Try.underlying22
    go_enter Try.func8, Try.ntmps8
    go_wp2
    go_ret
    exact ⟨none, rfl, hs, Below.refl _ _⟩
  | some a =>
    have hnil := fun w => Lib.run_eql_slice_nil (P := Try.prog) w 22 9 (some a) len cap 0 0 Try.underlying22
    have hmk := run_make_row' (P := Try.prog) 22 9 (.string ByteArray.empty) 16 Try.underlying22 Try.info9 rfl .i64 .i64 len (by omega) (by omega)
    go_enter Try.func8, Try.ntmps8
    go_wp2
    go_loopw [4] (fun i wr => ∃ k : Nat, k ≤ len ∧ i = .int .i64 k ∧ wr.rowIs w.heap.size 9 len (upto ss k) ∧ Below w.heap.size w wr) (fun i _ => len - (intOf i).toNat)
    case atStart =>
      refine ⟨0, Nat.zero_le _, rfl, (World.rowIs_made w (.string ByteArray.empty) len 9).congr (fun i _ => ?_), (Below.refl _ _).alloc (Nat.le_refl _) _⟩
      simp [upto]
    case round =>
      obtain ⟨k, hk, rfl, hrow, hbl⟩ := hrel
      by_cases hlt : k < len
      · obtain ⟨b, off, ha, hb, hc⟩ := hs.2 (by omega)
        cases ha
        have c0 := (hbl.cell (p := ⟨b, off + k, none⟩) (by exact hb)).trans (hc k hlt)
        have c1 := hrow.cell hlt
        have f1 := hrow.frozen k
        clear hc
        go_wp2
        go_roundw
        case rel => exact ⟨k + 1, by omega, by go_num, (hrow.set k (.string (ss k))).congr (fun j _ => upto_step ss k j), hbl.setCell (Nat.le_refl _) _⟩
        case measure => simp [intOf]; omega
      · go_wp2
        go_ret
        have hkl : k = len := by omega
        subst hkl
        refine ⟨_, rfl, ⟨hlen, fun h => ⟨w.heap.size, 0, rfl, hrow.lt, fun i hi => ?_⟩⟩, hbl⟩
        have := hrow.cell hi
        simpa [upto, hi] using this

/-- 'make([]T, n)', T of three cells. -/
theorem run_make_row3 {P : Program} (t e : TypeId) (z : Value) (bytes : Nat) (ht : P.underlying t = some (.slice e)) (hinfo : (P.info? e).map (fun i => (i.zero, i.size, i.bytes)) = some (some z, 3, bytes))
    (n : Nat) (hbytes : bytes * n ≤ 281474976710656) (h63 : n ≤ 9223372036854775807) (w : World) :
    (Instr.makeSlice t (.int .i64 (n : Int)) (.int .i64 (n : Int))).run P w = .ok (.slice (some ⟨w.heap.size, 0, none⟩) n n) (w.alloc (.cells (madeCells z.cells (n * 3)) e)) := by
  obtain ⟨i, hi, hz, hs, hb⟩ := info_parts hinfo
  have hb' : (i.bytes : Int) * (n : Int) ≤ 281474976710656 := by
    have h : ((i.bytes * n : Nat) : Int) ≤ 281474976710656 := by rw [hb]; omega
    rwa [Int.natCast_mul] at h
  have hr := run_make (P := P) w t e i z ht hi hz .i64 .i64 n n (by omega) (Int.le_refl _) hb' (by omega)
  simp only [Int.toNat_natCast, hs] at hr
  exact hr

/-- The transitions copied so far, cell by cell. -/
def upto3 (e f t : Nat → ByteArray) (k : Nat) (j : Nat) : Value :=
  if j < k * 3 then .string (if j % 3 = 0 then e (j / 3) else if j % 3 = 1 then f (j / 3) else t (j / 3)) else .string ByteArray.empty

theorem rowIs_made3 (w : World) (n : Nat) (ty : TypeId) (e f t : Nat → ByteArray) : (w.alloc (.cells (madeCells (Value.agg #[.string ByteArray.empty, .string ByteArray.empty, .string ByteArray.empty]).cells (n * 3)) ty)).rowIs w.heap.size ty (n * 3) (upto3 e f t 0) := by
  refine ⟨_, Deep.blk_alloc_new _ _, size_madeCells _ _, fun i hi => ?_⟩
  have h3 : i % 3 < 3 := Nat.mod_lt _ (by omega)
  have : i % 3 = 0 ∨ i % 3 = 1 ∨ i % 3 = 2 := by omega
  simp only [madeCells, Value.cells, Array.getElem?_map, Array.getElem?_range, hi, if_true, Option.map_some, upto3, Nat.zero_mul, Nat.not_lt_zero, if_false]
  rcases this with h | h | h <;> simp [h]

theorem upto3_step (e f t : Nat → ByteArray) (k j : Nat) :
    (if j = k * 3 + 2 then .string (t k) else if j = k * 3 + 1 then .string (f k) else if j = k * 3 then .string (e k) else upto3 e f t k j) = upto3 e f t (k + 1) j := by
  unfold upto3
  by_cases h2 : j = k * 3 + 2
  · subst h2
    have e1 : (k * 3 + 2) / 3 = k := by omega
    have e2 : (k * 3 + 2) % 3 = 2 := by omega
    rw [if_pos rfl, if_pos (by omega), e1, e2]; rfl
  rw [if_neg h2]
  by_cases h1 : j = k * 3 + 1
  · subst h1
    have e1 : (k * 3 + 1) / 3 = k := by omega
    have e2 : (k * 3 + 1) % 3 = 1 := by omega
    rw [if_pos rfl, if_pos (by omega), e1, e2]; rfl
  rw [if_neg h1]
  by_cases h0 : j = k * 3
  · subst h0
    have e1 : (k * 3) / 3 = k := by omega
    have e2 : (k * 3) % 3 = 0 := by omega
    rw [if_pos rfl, if_pos (by omega), e1, e2]; rfl
  rw [if_neg h0]
  by_cases h : j < k * 3
  · rw [if_pos h, if_pos (show j < (k + 1) * 3 by omega)]
  · rw [if_neg h, if_neg (show ¬ j < (k + 1) * 3 by omega)]

theorem upto3_cells {w : World} {b : Nat} {ty : TypeId} {len : Nat} {e f t : Nat → ByteArray} (h : w.rowIs b ty (len * 3) (upto3 e f t len)) {i : Nat} (hi : i < len) :
    w.cell? ⟨b, 0 + i * 3, none⟩ = some (.string (e i)) ∧ w.cell? ⟨b, 0 + i * 3 + 1, none⟩ = some (.string (f i)) ∧ w.cell? ⟨b, 0 + i * 3 + 2, none⟩ = some (.string (t i)) := by
  simp only [Nat.zero_add]
  refine ⟨?_, ?_, ?_⟩
  · rw [h.cell (i := i * 3) (by omega)]
    have e1 : (i * 3) / 3 = i := by omega
    have e2 : (i * 3) % 3 = 0 := by omega
    simp only [upto3, e1, e2, if_pos (show i * 3 < len * 3 by omega), if_true]
  · rw [h.cell (i := i * 3 + 1) (by omega)]
    have e1 : (i * 3 + 1) / 3 = i := by omega
    have e2 : (i * 3 + 1) % 3 = 1 := by omega
    simp only [upto3, e1, e2, if_pos (show i * 3 + 1 < len * 3 by omega), if_true]; rfl
  · rw [h.cell (i := i * 3 + 2) (by omega)]
    have e1 : (i * 3 + 2) / 3 = i := by omega
    have e2 : (i * 3 + 2) % 3 = 2 := by omega
    simp only [upto3, e1, e2, if_pos (show i * 3 + 2 < len * 3 by omega)]; rfl

set_option maxHeartbeats 400000 in
theorem cloneTrs_any (ad : Option Addr) (len cap : Nat) (se sf st : Nat → ByteArray) (w : World) (hs : Trs w ad len se sf st) :
    Calls Try.prog 9 #[.slice ad len cap] w fun e w' => ∃ ad', e = .returned (.slice ad' len len) ∧ Trs w' ad' len se sf st ∧ Below w.heap.size w w' := by
  have hlen := hs.1
  cases ad with
  | none =>
    have hl0 : len = 0 := by
      rcases Nat.eq_zero_or_pos len with h | h
      · exact h
      · obtain ⟨_, _, h, _⟩ := hs.2 h; cases h
    subst hl0
    have hnil := fun w => Lib.run_eql_slice_nil (P := Try.prog) w 23 37 none 0 cap 0 0 Try.underlying23
    go_enter Try.func9, Try.ntmps9
    go_wp2
    go_ret
    exact ⟨none, rfl, hs, Below.refl _ _⟩
  | some a =>
    have hnil := fun w => Lib.run_eql_slice_nil (P := Try.prog) w 23 37 (some a) len cap 0 0 Try.underlying23
    have hmk := run_make_row3 (P := Try.prog) 23 37 _ 48 Try.underlying23 Try.info37 len (by omega) (by omega)
    go_enter Try.func9, Try.ntmps9
    go_wp2
    go_loopw [4] (fun i wr => ∃ k : Nat, k ≤ len ∧ i = .int .i64 k ∧ wr.rowIs w.heap.size 37 (len * 3) (upto3 se sf st k) ∧ Below w.heap.size w wr) (fun i _ => len - (intOf i).toNat)
    case atStart =>
      exact ⟨0, Nat.zero_le _, rfl, rowIs_made3 _ _ _ _ _ _, (Below.refl _ _).alloc (Nat.le_refl _) _⟩
    case round =>
      obtain ⟨k, hk, rfl, hrow, hbl⟩ := hrel
      by_cases hlt : k < len
      · obtain ⟨b, off, ha, hb, hc⟩ := hs.2 (by omega)
        cases ha
        have c0 := (hbl.cell (p := ⟨b, _, none⟩) (by exact hb)).trans (hc k hlt).1
        have c1 := (hbl.cell (p := ⟨b, _, none⟩) (by exact hb)).trans (hc k hlt).2.1
        have c2 := (hbl.cell (p := ⟨b, _, none⟩) (by exact hb)).trans (hc k hlt).2.2
        have d0 := hrow.cell (i := k * 3) (by omega)
        have d1 := hrow.cell (i := k * 3 + 1) (by omega)
        have d2 := hrow.cell (i := k * 3 + 2) (by omega)
        have f0 := hrow.frozen (k * 3)
        have f1 := hrow.frozen (k * 3 + 1)
        have f2 := hrow.frozen (k * 3 + 2)
        clear hc
        go_wp2
        go_roundw
        case rel =>
          refine ⟨k + 1, by omega, by go_num, (((hrow.set (k * 3) (.string (se k))).set (k * 3 + 1) (.string (sf k))).set (k * 3 + 2) (.string (st k))).congr (fun j _ => upto3_step se sf st k j), ?_⟩
          exact ((hbl.setCell (Nat.le_refl _) _).setCell (Nat.le_refl _) _).setCell (Nat.le_refl _) _
        case measure => simp [intOf]; omega
      · go_wp2
        go_ret
        have hkl : k = len := by omega
        subst hkl
        exact ⟨_, rfl, ⟨hlen, fun _ => ⟨w.heap.size, 0, rfl, hrow.lt, fun i hi => upto3_cells hrow hi⟩⟩, hbl⟩

end Go.Proofs.Qxb6601805a
