import Derived.Test.Qxb6601852aRows
import Derived.Test.Qxb6601852aBase
import Derived.ProofKit
import Derived.OpenShut
import Derived.ShutString
import Derived.ChangeOld
import Derived.SizedLaws
import Derived.Deep.Slices
namespace Go.Proofs.Qxb6601852a
open Go.RowKit Go.ChangeShapes Go.WideShapes Go.ChangeAt Go.Deep

theorem own : ownKnob Try.prog.godebug = none := by kernel_rfl
theorem laidOut : laidOutB Try.prog = true := by kernel_rfl
theorem Try.cells3 : Try.prog.cellsOf 3 = 1 := by kernel_rfl
theorem Try.bytes3 : Try.prog.bytesOf 3 = 8 := by kernel_rfl

/-- A slice of ints that came in, as the walk wants it. -/
theorem read_ints {H : Type} {enc : TypeId × Value → H} {W : World} {a : Option Addr} {len cap : Nat} {d : DataW H} {ps : List MemPlace} {fuel : Nat}
    (hf : DataW.trod enc Try.prog W 0 (fun _ => true) true fuel 28 [.slice a len cap] = some (d, ps)) (hsz : ∀ elems spare, d = .slice elems spare → (elems.length + spare.length) * Try.prog.bytesOf 3 ≤ reachBytes) :
    ∃ zs, Ints W a len zs ∧ ∀ k, k < len → (Lit.int .i64 (zs k)).wf = true := by
  rcases open_ints Try.underlying28 Try.underlying3 Try.cells3 hf with ⟨hcs, _⟩ | ⟨x, l, c, zs, hcs, _, hl, hm, hz, hx, hcell, hwz⟩
  · simp at hcs
    obtain ⟨rfl, rfl, rfl⟩ := hcs
    exact ⟨fun _ => 0, ⟨by omega, fun h => by omega⟩, fun k hk => by omega⟩
  · simp at hcs
    obtain ⟨rfl, rfl, rfl⟩ := hcs
    simp only [if_true] at hz
    simp only [Prod.mk.injEq] at hx
    have hzz := hsz _ _ hx.1
    rw [Try.bytes3] at hzz
    simp only [lits, List.length_map, List.length_take, List.length_drop, reachBytes] at hzz
    refine ⟨fun i => zs.getD i 0, ⟨by omega, fun hp => ?_⟩, fun k hk => hwz _ ?_⟩
    · obtain ⟨b, off, spot⟩ := x
      have hspot : spot = none := by simpa [Addr.add] using World.cell?_spot (hcell 0 (by omega))
      subst hspot
      refine ⟨b, off, rfl, ?_, fun i hi => ?_⟩
      · exact World.block_lt_of_cell? W _ (by have := hcell 0 (by omega); rwa [Addr.add_lit] at this)
      · have := hcell i (by omega)
        rwa [Addr.add_lit] at this
    · simp only [List.getD, List.getElem?_eq_getElem (show k < zs.length by omega), Option.getD_some]
      exact List.getElem_mem _

theorem wf_bd {z : Int} (h : (Lit.int .i64 z).wf = true) : -9223372036854775808 ≤ z ∧ z ≤ 9223372036854775807 := by
  simp [Lit.wf, IntKind.min, IntKind.max, IntKind.bits, IntKind.signed] at h
  omega

end Go.Proofs.Qxb6601852a
