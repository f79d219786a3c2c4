import Derived.Test.Qxb6601805aShelf
import Derived.Test.Qxb6601805aPerm
import Derived.Sort.OwnSorted
namespace Go.Proofs.Qxb6601805a
open Go.RowKit Go.Sort

def bytesOf (s : ByteArray) : List UInt8 := s.data.toList
def strOf (l : List UInt8) : ByteArray := ⟨l.toArray⟩
theorem strOf_bytesOf (s : ByteArray) : strOf (bytesOf s) = s := by cases s; simp [strOf, bytesOf]
theorem bytesOf_strOf (l : List UInt8) : bytesOf (strOf l) = l := by simp [strOf, bytesOf]

theorem enc_map (U : List ByteArray) : (U.map bytesOf).map encStr = U.map Value.string := by
  simp only [List.map_map]
  apply List.map_congr_left
  intro s _
  show Value.string (strOf (bytesOf s)) = _
  rw [strOf_bytesOf]

theorem enc_map' (L : List (List UInt8)) : L.map encStr = (L.map strOf).map Value.string := by simp [strOf]

theorem bytesLess_lt : ∀ (x y : List UInt8), Op.bytesLess x y = decide (x < y)
  | [], [] => by simp [Op.bytesLess]
  | [], b :: y => by simp [Op.bytesLess]
  | a :: x, [] => by simp [Op.bytesLess]
  | a :: x, b :: y => by
    rw [Op.bytesLess, bytesLess_lt x y]
    simp only [List.cons_lt_cons_iff]
    by_cases h1 : a < b
    · simp [h1]
    · by_cases h2 : a = b
      · subst h2; simp
      · simp [h1, h2]

/-- In ascending order. -/
def Ascends (T : List ByteArray) : Prop := ∀ i, i + 1 < T.length → Op.bytesLess (T.getD (i + 1) ByteArray.empty).toList (T.getD i ByteArray.empty).toList = false

theorem ascends_mergeSort (L : List (List UInt8)) : Ascends ((L.mergeSort fun x y => decide (x ≤ y)).map strOf) := by
  have hp := List.pairwise_mergeSort (le := fun x y : List UInt8 => decide (x ≤ y)) (fun a b c h1 h2 => by simp at *; exact Std.le_trans h1 h2) (fun a b => by simp; exact Std.le_total) L
  intro i hi
  simp at hi
  have := List.pairwise_iff_getElem.1 hp i (i + 1) (by simp; omega) (by simpa using hi) (by omega)
  rw [bytesLess_lt, ByteArray.toList_eq, ByteArray.toList_eq]
  simp only [List.getD, List.getElem?_map]
  rw [List.getElem?_eq_getElem (by simpa using hi), List.getElem?_eq_getElem (by simp; omega)]
  simp only [Option.map_some, Option.getD_some, strOf]
  exact decide_eq_false (Std.not_lt.2 (of_decide_eq_true this))

def SortPost (w : World) (base g cap : Nat) (U : List ByteArray) (e : Ending) (w' : World) : Prop :=
  e = .returned (.tuple #[]) ∧ ∃ T : List ByteArray, T.Perm U ∧ Ascends T ∧ w'.ownsRow base 9 1 (.slice (some ⟨g, 0, none⟩) U.length cap) U.length (T.map Value.string) ∧ w.grownBy w' (some g)

theorem sort_any (base g cap : Nat) (U : List ByteArray) (w : World) (h : w.ownsRow base 9 1 (.slice (some ⟨g, 0, none⟩) U.length cap) U.length (U.map Value.string)) (hl : U.length < 4611686018427387904) :
    Calls Try.prog 25 #[.slice (some ⟨g, 0, none⟩) U.length cap] w (SortPost w base g cap U) := by
  rcases h.2 with ⟨h0, _⟩ | ⟨g', cap', cur, hv, hbase, hb, h1, h2, h3, h4⟩
  · cases h0
  cases hv
  have hH : Holds encStr w g 0 (U.map bytesOf).toArray := holds_of_block hb (by rw [enc_map]; simpa using h4)
  have hc := Try.slices_Sort_string g 0 cap (U.map bytesOf) w hH (Array.getElem?_eq_some_iff.1 hb).1 (by simpa using hl)
  rw [List.length_map] at hc
  refine hc.mono ?_
  rintro e w' ⟨rfl, n, os, rfl⟩
  refine ⟨rfl, ((U.map bytesOf).mergeSort fun x y => decide (x ≤ y)).map strOf, ?_, ascends_mergeSort _, ?_, grownBy_sorted _⟩
  · have := (List.mergeSort_perm (U.map bytesOf) fun x y => decide (x ≤ y)).map strOf
    rw [List.map_map] at this
    have e : strOf ∘ bytesOf = id := by funext s; exact strOf_bytesOf s
    rwa [e, List.map_id] at this
  · have := ownsRow_sorted (w := w) (base := base) (g := g) (cap := cap) (n := n) (e := 9) (os := os) (cur := cur) (ss := U.map bytesOf) (ts := (U.map bytesOf).mergeSort fun x y => decide (x ≤ y)) (by simp) hbase hb (by simpa using h1) h2 h3
    rw [enc_map', List.length_map] at this
    exact this

end Go.Proofs.Qxb6601805a
