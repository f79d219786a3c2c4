import Derived.Test.Qxb6601805aClone
import Derived.BigRegion
import Derived.RegionTactic
namespace Go.Proofs.Qxb6601805a
open Go.RowKit

set_option maxHeartbeats 1000000 in
theorem model_any (s0 s2 : ByteArray) (a1 a3 a4 : Option Addr) (l1 l3 l4 c1 c3 c4 : Nat) (se sf st : Nat → ByteArray) (w : World) (hs : Trs w a4 l4 se sf st) :
    Calls Try.prog 11 #[.string s0, .slice a1 l1 c1, .string s2, .slice a3 l3 c3, .slice a4 l4 c4] w fun e w' =>
      ∃ ad', e = .returned (.agg #[.string s0, .slice a1 l1 c1, .string s2, .slice a3 l3 c3, .slice ad' l4 l4]) ∧ Trs w' ad' l4 se sf st ∧ Below w.heap.size w w' := by
  have hlen := hs.1
  cases a4 with
  | none =>
    have hl0 : l4 = 0 := by
      rcases Nat.eq_zero_or_pos l4 with h | h
      · exact h
      · obtain ⟨_, _, h, _⟩ := hs.2 h; cases h
    subst hl0
    have hnil := fun w => run_neq_slice_nil_any (P := Try.prog) w 23 37 none 0 c4 0 0 Try.underlying23
    go_enter Try.func11, Try.ntmps11
    go_wp2
    exact bodyPost_ret (v := .agg #[.string s0, .slice a1 l1 c1, .string s2, .slice a3 l3 c3, .slice none 0 0]) (by simp [results, Try.results11, go_sem]) rfl ⟨none, rfl, ⟨by omega, fun h => by omega⟩, (Below.refl _ _).alloc (Nat.le_refl _) _⟩
  | some a =>
    have hnil := fun w => run_neq_slice_nil_any (P := Try.prog) w 23 37 (some a) l4 c4 0 0 Try.underlying23
    have hmk := run_make_row3 (P := Try.prog) 29 47 _ 48 Try.underlying29 Try.info47 l4 (by omega) (by omega)
    go_enter Try.func11, Try.ntmps11
    go_wp2
    go_loopw [12] (fun i wr => ∃ k : Nat, k ≤ l4 ∧ i = .int .i64 k ∧ wr.rowIs (w.heap.size + 1) 47 (l4 * 3) (upto3 se sf st k) ∧ wr.rowIs w.heap.size 31 5 (fun i => #[.string ByteArray.empty, .slice none 0 0, .string ByteArray.empty, .slice none 0 0, .slice none 0 0][i]!) ∧ Below w.heap.size w wr) (fun i _ => l4 - (intOf i).toNat)
    case atStart =>
      refine ⟨0, Nat.zero_le _, rfl, ?_, ?_, ((Below.refl _ _).alloc (Nat.le_refl _) _).alloc (by simp) _⟩
      · have := rowIs_made3 (w.alloc (.cells #[.string ByteArray.empty, .slice none 0 0, .string ByteArray.empty, .slice none 0 0, .slice none 0 0] 31)) l4 47 se sf st
        rw [Deep.nblk_alloc] at this
        exact this
      · refine (World.rowIs_alloc w #[.string ByteArray.empty, .slice none 0 0, .string ByteArray.empty, .slice none 0 0, .slice none 0 0] 31 _ (fun i hi => ?_)).alloc _
        match i, hi with
        | 0, _ => rfl
        | 1, _ => rfl
        | 2, _ => rfl
        | 3, _ => rfl
        | 4, _ => rfl
    case round =>
      obtain ⟨k, hk, rfl, hrow, hres, hbl⟩ := hrel
      by_cases hlt : k < l4
      · obtain ⟨b, off, ha, hb, hc⟩ := hs.2 (by omega)
        cases ha
        have c0 := (hbl.cell (p := ⟨b, _, none⟩) (by exact hb)).trans (hc k hlt).1
        have c1 := (hbl.cell (p := ⟨b, _, none⟩) (by exact hb)).trans (hc k hlt).2.1
        have c2 := (hbl.cell (p := ⟨b, _, none⟩) (by exact hb)).trans (hc k hlt).2.2
        have d0 := hrow.cell (i := k * 3) (by omega)
        have d1 := hrow.cell (i := k * 3 + 1) (by omega)
        have d2 := hrow.cell (i := k * 3 + 2) (by omega)
        have f0 := hrow.frozen (k * 3)
        have f1 := hrow.frozen (k * 3 + 1)
        have f2 := hrow.frozen (k * 3 + 2)
        have hlt' : (k : Int) < (l4 : Int) := by omega
        clear hc
        go_wp2
        go_region
        go_wp2
        go_roundw
        case rel =>
          refine ⟨k + 1, by omega, by go_num, ?_, ?_, ?_⟩
          · exact (((hrow.drew.set (k * 3) (.string (se k))).set (k * 3 + 1) (.string (sf k))).set (k * 3 + 2) (.string (st k))).congr (fun j _ => upto3_step se sf st k j)
          · exact ((hres.drew.setOther (by simp) _).setOther (by simp) _).setOther (by simp) _
          · exact ((hbl.drew.setCell (Nat.le_succ _) _).setCell (Nat.le_succ _) _).setCell (Nat.le_succ _) _
        case measure => simp [intOf]; omega
      · have hkl : k = l4 := by omega
        subst hkl
        have r0 := hres.cell (i := 0) (by omega)
        have r1 := hres.cell (i := 1) (by omega)
        have r2 := hres.cell (i := 2) (by omega)
        have r3 := hres.cell (i := 3) (by omega)
        have r4 := hres.cell (i := 4) (by omega)
        have g0 := hres.frozen 0
        have g1 := hres.frozen 1
        have g2 := hres.frozen 2
        have g3 := hres.frozen 3
        have g4 := hres.frozen 4
        go_wp2
        refine bodyPost_ret (v := .agg #[.string s0, .slice a1 l1 c1, .string s2, .slice a3 l3 c3, .slice (some ⟨w.heap.size + 1, 0, none⟩) k k]) (by simp [results, Try.results11, go_sem, r0, r1, r2, r3, r4]) rfl ⟨_, rfl, ⟨hlen, fun _ => ⟨w.heap.size + 1, 0, rfl, ?_, fun i hi => ?_⟩⟩, ?_⟩
        · simpa using hrow.lt
        · have hrow' := (((((hrow.setOther (a := ⟨w.heap.size, 0, none⟩) (by simp) (.string s0)).setOther (a := ⟨w.heap.size, 1, none⟩) (by simp) (.slice a1 l1 c1)).setOther (a := ⟨w.heap.size, 2, none⟩) (by simp) (.string s2)).setOther (a := ⟨w.heap.size, 3, none⟩) (by simp) (.slice a3 l3 c3)).setOther (a := ⟨w.heap.size, 4, none⟩) (by simp) (.slice (some ⟨w.heap.size + 1, 0, none⟩) k k))
          exact upto3_cells hrow' hi
        · exact ((((hbl.setCell (Nat.le_refl _) _).setCell (Nat.le_refl _) _).setCell (Nat.le_refl _) _).setCell (Nat.le_refl _) _).setCell (Nat.le_refl _) _
end Go.Proofs.Qxb6601805a
