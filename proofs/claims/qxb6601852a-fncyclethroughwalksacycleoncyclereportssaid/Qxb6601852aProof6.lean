import Derived.Test.Qxb6601852aReadG
import Derived.Test.Qxb6601852aLaw6
namespace Go.Proofs.Qxb6601852a
open Go.RowKit Go.ChangeShapes Go.WideShapes Go.ChangeAt

set_option maxRecDepth 100000 in
theorem lifted6 (os : Os) (started : os.Started) (H : Type) (enc : TypeId × Value → H) :
    ReturnsInHanded {} Try.checked os 6 .any (Rows.fnCycleThroughWalksACycleOnCycleReportsSpec.pre6 enc Try.prog Try.f6 Rows.fnCycleThroughWalksACycleOnCycleReportsRow.domain false) (Rows.fnCycleThroughWalksACycleOnCycleReportsSpec.post enc Try.prog Try.f6 false true false false) := by
  refine returnsInHanded_of_change_sized (C := Try.checked) own started (by kernel_rfl) Try.func6
    (ChangeSpec.witness6 (enc := enc) (C := Try.checked) false ⟨#[], #[.slice none 0 0], []⟩ 8 (by kernel_rfl) (by kernel_rfl) (by kernel_rfl) (by kernel_rfl)) ?_
  intro W base args ds gs before hval0 hW hcnd hsz0 _
  have hval : ∀ (j : Nat) t v, Try.f6.params[j]? = some t → args[j]? = some v → Value.okWide Try.prog W .any base t v := hval0
  have hsz : (DataW.weightsEach Try.prog (Try.f6.params.toList ++ Rows.fnCycleThroughWalksACycleOnCycleReportsSpec.plain.varTypes Try.prog) (ds ++ gs)).all (· ≤ reachBytes) = true := hsz0
  have hW' := hW
  obtain ⟨p, q, hA0, hV, rfl, hfz, hnd⟩ := hW
  have hA : DataW.TrodAll enc Try.prog W 0 (fun _ => true) true Try.f6.params.toList args.toList ds p := hA0
  rw [Try.params6] at hA hval hsz
  obtain ⟨v0, vs0, d0, ds0, p0, q0, hargs, rfl, rfl, h0, r0⟩ := trodAll_cons hA
  obtain ⟨rfl, rfl, rfl⟩ := trodAll_nil r0
  obtain rfl : args = #[v0] := by cases args; simp_all
  obtain ⟨rfl, rfl⟩ := trodVars_none hV
  obtain ⟨a0, len0, cap0, rfl⟩ := okWide_slice Try.underlying22 (hval 0 22 v0 rfl rfl)
  have k0 := h0
  have lt0 : ∀ x ∈ p0, x.block < W.heap.size := by obtain ⟨m, hm⟩ := k0; exact DataW.trod_lt m _ _ _ hm
  obtain ⟨ln, zs, w0⟩ : ∃ ln zs, RGraph W a0 len0 ln zs := by
    obtain ⟨fuel, hf⟩ := h0
    exact read_graph (by simpa [Value.cells] using hf) (fun elems spare e => sized_slice hsz (j := 0) (t := 22) (e := 28) rfl (by rw [e]; rfl) Try.underlying22) (fun elems spare e' sp' e hx => sized_row hsz (j := 0) (t := 22) (e := 28) rfl (by rw [e]; rfl) Try.underlying22 Try.underlying28 hx)
  clear hA0 hval0 hsz0
  refine (law6_any a0 len0 cap0 ln zs W w0).mono fun e W' ⟨he, bel⟩ => ?_
  subst he
  exact ⟨_, rfl, _, _, _, [], _, [], hW', trodAll_mk1 (shut_bool Try.underlying4 _), (trodAll_cons_mk (Below.trod laidOut (by kernel_rfl) (of_decide_eq_true (by kernel_rfl)) k0 bel lt0) trodAll_mk0), rfl, bel.frame _, fun h => by cases h⟩

theorem over6 : Rows.fnCycleThroughWalksACycleOnCycleReportsRow.holds Try.pinned (OpenSpec.ofChange Rows.fnCycleThroughWalksACycleOnCycleReportsSpec) :=
  OpenClaim.holds_of_wide 6 Try.f6 rfl rfl rfl rfl rfl rfl rfl ⟨rfl, rfl, rfl, rfl, rfl⟩ rfl rfl rfl rfl rfl (by kernel_rfl) Try.func6 (by kernel_rfl)
    (of_decide_eq_true (by kernel_rfl)) (by unfold Func.isWrapper; first | (rw [if_pos (by decide +kernel)]; kernel_rfl) | (rw [if_neg (by decide +kernel)]; exact ⟨rfl, rfl⟩))
    (fun os started H enc _ => lifted6 os started H enc)

theorem proved6 : Rows.FnCycleThroughWalksACycleOnCycleReportsSaid := over6
end Go.Proofs.Qxb6601852a
