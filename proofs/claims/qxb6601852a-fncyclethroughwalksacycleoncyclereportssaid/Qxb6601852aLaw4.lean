import Derived.Test.Qxb6601852aPlain
import Derived.Test.Qxb6601852aOnCyc
import Derived.Test.Qxb6601852aHeap
namespace Go.Proofs.Qxb6601852a
open Go.RowKit

set_option maxHeartbeats 1000000 in
theorem zzOnCycle_any (ad : Option Addr) (g : Gr) (cap : Nat) (W : World) (hg : Graph W ad g) (hwf : g.wf) : Calls Try.prog 13 #[.slice ad g.n cap] W (OnCPost W g) := by
  go_enter Try.func13, Try.ntmps13
  go_wp2_with fail
  refine (onCycle_any ad g cap W hg hwf).mono ?_
  rintro e w' ⟨res, rfl, h⟩
  go_wp2_with fail
  go_ret
  exact ⟨res, rfl, h⟩

set_option maxHeartbeats 2000000 in
theorem law4_any (ad : Option Addr) (n cap : Nat) (ln : Nat → Nat) (zs : Nat → Nat → Int) (w : World) (hs : RGraph w ad n ln zs) :
    Calls Try.prog 4 #[.slice ad n cap] w (LawPost w) := by
  go_enter Try.func4, Try.ntmps4
  go_wp2_with fail
  refine (zz16_any ad n cap ln zs w hs).mono ?_
  rintro e w1 ⟨⟨b, rfl⟩, rfl⟩
  cases b with
  | false =>
    go_wp2
    go_ret
    exact ⟨rfl, Below.refl _ _⟩
  | true =>
    go_wp2_with fail
    refine (tooBig_any ad n cap ln zs w hs).mono ?_
    rintro e w1 ⟨b, rfl, rfl, hbig⟩
    cases b with
    | true =>
      clear hbig
      go_wp2
      go_ret
      exact ⟨rfl, Below.refl _ _⟩
    | false =>
      obtain ⟨hn, htot, hdeg⟩ := hbig rfl
      clear hbig
      go_wp2_with fail
      refine (well_any ad n cap ln zs w hs).mono ?_
      rintro e w1 ⟨b, rfl, rfl, hwell⟩
      cases b with
      | false =>
        clear hwell
        go_wp2
        go_ret
        exact ⟨rfl, Below.refl _ _⟩
      | true =>
        have hW : Well n ln zs := hwell rfl
        clear hwell
        go_wp2_with fail
        refine (cloneGraph_any ad n cap ln zs w hs).mono ?_
        rintro e w1 ⟨ad1, rfl, hs1, hb1⟩
        obtain ⟨g, hg⟩ : ∃ g, gOf n ln zs = g := ⟨_, rfl⟩
        have hgn : g.n = n := by rw [← hg]; rfl
        subst hgn
        have hwf : g.wf := by rw [← hg]; exact gOf_wf hW
        have hG1 : Graph w1 ad1 g := by rw [← hg]; exact hs1.graph hn hdeg hW
        have htt : sumTo g.n (fun v => (g.nx v).length) ≤ 131072 := by
          rw [sumTo_congr (g := ln) (fun v _ => by rw [← hg]; exact gOf_len _ _ _ v)]; exact htot
        clear hs1 hW hdeg htot hs hg
        go_wp2_with fail
        refine (reverse_any ad1 g g.n w1 hG1 hwf htt).mono ?_
        rintro e w2 ⟨ad2, rfl, hG2, hb2⟩
        have hG3 := hG1.below hb2 (Nat.le_refl _)
        go_wp2_with fail
        refine (zzOnCycle_any ad1 g g.n w2 hG3 hwf).mono ?_
        rintro e w3 ⟨res, rfl, hrow, hres, hb3⟩
        have hG4 := hG2.below hb3 (Nat.le_refl _)
        go_wp2_with fail
        refine (zzOnCycle_any ad2 g.rv g.n w3 hG4 (rv_wf hwf)).mono ?_
        rintro e w4 ⟨res2, rfl, hrow2, hres2, hb4⟩
        have hrow3 : w4.rowIs (w2.heap.size + 3) 4 g.n (fun v => .bool (res v)) := hrow.of_block (hb4.block _ hrow.lt)
        have hsame : ∀ v, v < g.n → res v = res2 v := fun v hv => by
          have h1 := hres v hv
          have h2 := (hres2 v hv).trans (rv_onC hwf)
          exact Bool.eq_iff_iff.2 (h1.trans h2.symm)
        have hrow2' : w4.rowIs (w3.heap.size + 3) 4 g.n (fun v => .bool (res2 v)) := hrow2
        have hneq : ((g.n : Int) != (g.n : Int)) = false := by simp
        have hbl : Below w.heap.size w w4 := ((hb1.trans (hb2.mono hb1.size)).trans (hb3.mono (Nat.le_trans hb1.size hb2.size))).trans (hb4.mono (Nat.le_trans (Nat.le_trans hb1.size hb2.size) hb3.size))
        have HS : Hid (∀ v, v < g.n → res v = res2 v) := hsame
        clear hres hres2 hsame hrow hrow2
        go_wp2_with fail
        refine (boolsEqual_any _ _ g.n res res2 w4 hn hrow3 hrow2' HS.out).mono ?_
        rintro e w5 ⟨rfl, hb5⟩
        go_wp2_with fail
        go_ret
        exact ⟨rfl, hbl.trans (hb5.mono hbl.size)⟩

end Go.Proofs.Qxb6601852a
