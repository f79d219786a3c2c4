import Derived.Test.Qxb6601852aLaw4
import Derived.Test.Qxb6601852aModel
namespace Go.Proofs.Qxb6601852a
open Go.RowKit

set_option maxHeartbeats 2000000 in
theorem law3_any (ad : Option Addr) (n cap : Nat) (ln : Nat → Nat) (zs : Nat → Nat → Int) (w : World) (hs : RGraph w ad n ln zs) :
    Calls Try.prog 3 #[.slice ad n cap] w (LawPost w) := by
  go_enter Try.func3, Try.ntmps3
  go_wp2_with fail
  refine (zz9_any ad n cap ln zs w hs).mono ?_
  rintro e w1 ⟨⟨b, rfl⟩, rfl⟩
  cases b with
  | false =>
    go_wp2
    go_ret
    exact ⟨rfl, Below.refl _ _⟩
  | true =>
    go_wp2_with fail
    refine (tooBig_any ad n cap ln zs w hs).mono ?_
    rintro e w1 ⟨b, rfl, rfl, hbig⟩
    cases b with
    | true =>
      clear hbig
      go_wp2
      go_ret
      exact ⟨rfl, Below.refl _ _⟩
    | false =>
      obtain ⟨hn, htot, hdeg⟩ := hbig rfl
      clear hbig
      go_wp2_with fail
      refine (well_any ad n cap ln zs w hs).mono ?_
      rintro e w1 ⟨b, rfl, rfl, hwell⟩
      cases b with
      | false =>
        clear hwell
        go_wp2
        go_ret
        exact ⟨rfl, Below.refl _ _⟩
      | true =>
        have hW : Well n ln zs := hwell rfl
        clear hwell
        go_wp2_with fail
        refine (cloneGraph_any ad n cap ln zs w hs).mono ?_
        rintro e w1 ⟨ad1, rfl, hs1, hb1⟩
        obtain ⟨g, hg⟩ : ∃ g, gOf n ln zs = g := ⟨_, rfl⟩
        have hgn : g.n = n := by rw [← hg]; rfl
        subst hgn
        have hwf : g.wf := by rw [← hg]; exact gOf_wf hW
        have hG1 : Graph w1 ad1 g := by rw [← hg]; exact hs1.graph hn hdeg hW
        have htt : sumTo g.n (fun v => (g.nx v).length) ≤ 131072 := by
          rw [sumTo_congr (g := ln) (fun v _ => by rw [← hg]; exact gOf_len _ _ _ v)]; exact htot
        clear hs1 hW hdeg htot hs hg
        go_wp2_with fail
        refine (zzOnCycle_any ad1 g g.n w1 hG1 hwf).mono ?_
        rintro e w3 ⟨res, rfl, hrow, hres, hb3⟩
        have hG4 := hG1.below hb3 (Nat.le_refl _)
        go_wp2_with fail
        refine (model_any ad1 g g.n w3 hG4 hwf htt).mono ?_
        rintro e w4 ⟨B2, res2, rfl, hrow2, hres2, hb4⟩
        have hrow3 : w4.rowIs (w1.heap.size + 3) 4 g.n (fun v => .bool (res v)) := hrow.of_block (hb4.block _ hrow.lt)
        have hsame : ∀ v, v < g.n → res v = res2 v := fun v hv => Bool.eq_iff_iff.2 ((hres v hv).trans (hres2 v hv).symm)
        have hbl : Below w.heap.size w w4 := (hb1.trans (hb3.mono hb1.size)).trans (hb4.mono (Nat.le_trans hb1.size hb3.size))
        have HS : Hid (∀ v, v < g.n → res v = res2 v) := hsame
        clear hres hres2 hsame hrow
        go_wp2_with fail
        refine (boolsEqual_any _ _ g.n res res2 w4 hn hrow3 hrow2 HS.out).mono ?_
        rintro e w5 ⟨rfl, hb5⟩
        go_wp2_with fail
        go_ret
        exact ⟨rfl, hbl.trans (hb5.mono hbl.size)⟩

end Go.Proofs.Qxb6601852a
