import Derived.Test.Qxb6601805aRows
import Derived.Test.Qxb6601805aLaw1
import Derived.ProofKit
import Derived.OpenShut
import Derived.ShutString
import Derived.ChangeOld
import Derived.SizedLaws
import Derived.Deep.Strs
namespace Go.Proofs.Qxb6601805a
open Go.RowKit Go.ChangeShapes Go.WideShapes Go.ChangeAt Go.Deep

theorem own : ownKnob Try.prog.godebug = none := by kernel_rfl
theorem laidOut : laidOutB Try.prog = true := by kernel_rfl
theorem Try.cells9 : Try.prog.cellsOf 9 = 1 := by kernel_rfl
theorem Try.cells37 : Try.prog.cellsOf 37 = 3 := by kernel_rfl
theorem Try.bytes9 : Try.prog.bytesOf 9 = 16 := by kernel_rfl
theorem Try.bytes37 : Try.prog.bytesOf 37 = 48 := by kernel_rfl

/-- A slice of strings that came in, as the walk wants it. -/
theorem read_strs {H : Type} {enc : TypeId × Value → H} {W : World} {a : Option Addr} {len cap : Nat} {d : DataW H} {ps : List MemPlace}
    (h : DataW.Trod enc Try.prog W 0 (fun _ => true) true 22 (.slice a len cap) d ps) (hsz : ∀ elems spare, d = .slice elems spare → (elems.length + spare.length) * Try.prog.bytesOf 9 ≤ reachBytes) : ∃ ss, Strs W a len ss := by
  obtain ⟨fuel, hf⟩ := h
  rcases open_strs Try.underlying22 Try.underlying9 Try.cells9 hf with ⟨hcs, _⟩ | ⟨x, l, c, m, Sx, hcs, _, hl, hm, hmm, hx, hc⟩
  · simp [Value.cells] at hcs
    obtain ⟨rfl, rfl, rfl⟩ := hcs
    exact ⟨fun _ => ByteArray.empty, by omega, fun h => by omega⟩
  · simp [Value.cells] at hcs
    obtain ⟨rfl, rfl, rfl⟩ := hcs
    simp only [if_true] at hmm
    subst hmm
    simp only [Prod.mk.injEq] at hx
    have hz := hsz _ _ hx.1
    rw [Try.bytes9] at hz
    simp only [List.length_map, List.length_range, reachBytes] at hz
    refine ⟨Sx, by omega, fun hp => ?_⟩
    obtain ⟨b, off, spot⟩ := x
    have hspot : spot = none := by simpa [Addr.add] using World.cell?_spot (hc 0 (by omega)).1
    subst hspot
    refine ⟨b, off, rfl, ?_, fun i hi => ?_⟩
    · exact World.block_lt_of_cell? W _ (by have := (hc 0 (by omega)).1; rwa [Addr.add_lit] at this)
    · have := (hc i (by omega)).1
      rwa [Addr.add_lit] at this

/-- A slice of transitions that came in, as the walk wants it. -/
theorem read_trs {H : Type} {enc : TypeId × Value → H} {W : World} {a : Option Addr} {len cap : Nat} {d : DataW H} {ps : List MemPlace}
    (h : DataW.Trod enc Try.prog W 0 (fun _ => true) true 23 (.slice a len cap) d ps) (hsz : ∀ elems spare, d = .slice elems spare → (elems.length + spare.length) * Try.prog.bytesOf 37 ≤ reachBytes) : ∃ se sf st, Trs W a len se sf st := by
  obtain ⟨fuel, hf⟩ := h
  rcases open_slice Try.underlying23 hf with ⟨hcs, _⟩ | ⟨x, l, c, m, n, D, Pl, hcs, _, hl, hm, hmm, hx, hc⟩
  · simp [Value.cells] at hcs
    obtain ⟨rfl, rfl, rfl⟩ := hcs
    exact ⟨fun _ => ByteArray.empty, fun _ => ByteArray.empty, fun _ => ByteArray.empty, by omega, fun h => by omega⟩
  · simp [Value.cells] at hcs
    obtain ⟨rfl, rfl, rfl⟩ := hcs
    simp only [if_true] at hmm
    subst hmm
    simp only [Prod.mk.injEq] at hx
    have hz := hsz _ _ hx.1
    rw [Try.bytes37] at hz
    simp only [List.length_map, List.length_range, reachBytes] at hz
    rw [Try.cells37] at hc
    have each : ∀ i, i < m → ∃ q : ByteArray × ByteArray × ByteArray, W.cell? (x.add (i * 3)) = some (.string q.1) ∧ W.cell? (x.add (i * 3 + 1)) = some (.string q.2.1) ∧ W.cell? (x.add (i * 3 + 2)) = some (.string q.2.2) := by
      intro i hi
      obtain ⟨cs, h1, h2⟩ := hc i hi
      obtain ⟨_, hlen, hcell⟩ := World.cells?_some h1
      obtain ⟨y0, y1, y2, k, _, _, g0, g1, g2⟩ := trod_struct3 Try.underlying37 h2
      match cs, hlen with
      | [v0, v1, v2], _ =>
        obtain ⟨s0, e0, _⟩ := DataW.trod_string Try.underlying9 g0
        obtain ⟨s1, e1, _⟩ := DataW.trod_string Try.underlying9 g1
        obtain ⟨s2, e2, _⟩ := DataW.trod_string Try.underlying9 g2
        simp [Try.cells9] at e0 e1 e2
        subst e0 e1 e2
        refine ⟨(s0, s1, s2), ?_, ?_, ?_⟩
        · have := hcell 0 (by omega); rw [add_add] at this; simpa using this
        · have := hcell 1 (by omega); rw [add_add] at this; simpa using this
        · have := hcell 2 (by omega); rw [add_add] at this; simpa using this
    obtain ⟨q, hq⟩ := choose_lt each
    refine ⟨fun i => (q i).1, fun i => (q i).2.1, fun i => (q i).2.2, by omega, fun hp => ?_⟩
    obtain ⟨b, off, spot⟩ := x
    have hspot : spot = none := by
      have := (hq 0 (by omega)).1
      simpa [Addr.add] using World.cell?_spot this
    subst hspot
    refine ⟨b, off, rfl, ?_, fun i hi => ?_⟩
    · exact World.block_lt_of_cell? W _ (by have := (hq 0 (by omega)).1; rwa [Addr.add_lit] at this)
    · have := hq i (by omega)
      simp only [Addr.add_lit] at this
      exact ⟨this.1, by rw [Nat.add_assoc]; exact this.2.1, by rw [Nat.add_assoc]; exact this.2.2⟩

end Go.Proofs.Qxb6601805a
