import Derived.Test.Qxb6601852aRead
import Derived.Test.Qxb6601852aGraphs
import Derived.Deep.Matrix
namespace Go.Proofs.Qxb6601852a
open Go.RowKit Go.ChangeShapes Go.WideShapes Go.ChangeAt Go.Deep

theorem Try.cells28 : Try.prog.cellsOf 28 = 1 := by kernel_rfl
theorem Try.bytes28 : Try.prog.bytesOf 28 = 24 := by kernel_rfl

theorem weights_in {H : Type} {P : Program} {e : TypeId} {l : List (DataW H)} {d : DataW H} (hd : d ∈ l) {m : Nat} (hm : m ∈ d.weights P e) : m ∈ DataW.weightsAll P e l := by
  induction l with
  | nil => cases hd
  | cons x xs ih =>
    simp only [DataW.weightsAll, List.mem_append]
    rcases List.mem_cons.1 hd with rfl | h
    · exact .inl hm
    · exact .inr (ih h)

/-- The reach of a row inside a slice of slices. -/
theorem sized_row {H : Type} {P : Program} {ts : List TypeId} {ds : List (DataW H)} (h : (DataW.weightsEach P ts ds).all (· ≤ reachBytes) = true) {j : Nat} {t e q : TypeId} {elems spare e' sp' : List (DataW H)}
    (ht : ts[j]? = some t) (hd : ds[j]? = some (.slice elems spare)) (hu : P.underlying t = some (.slice e)) (hu2 : P.underlying e = some (.slice q)) (hx : DataW.slice e' sp' ∈ elems) : (e'.length + sp'.length) * P.bytesOf q ≤ reachBytes := by
  have hm : (e'.length + sp'.length) * P.bytesOf q ∈ (DataW.slice elems spare).weights P t := by
    simp only [DataW.weights, hu, List.mem_cons, List.mem_append]
    exact .inr (.inl (weights_in hx (by simp [DataW.weights, hu2])))
  exact of_decide_eq_true (List.all_eq_true.1 h _ (DataW.weights_mem_each ht hd _ hm))

/-- A slice of slices of ints that came in, as the walk wants it. -/
theorem read_graph {H : Type} {enc : TypeId × Value → H} {W : World} {a : Option Addr} {len cap : Nat} {d : DataW H} {ps : List MemPlace} {fuel : Nat}
    (hf : DataW.trod enc Try.prog W 0 (fun _ => true) true fuel 22 [.slice a len cap] = some (d, ps))
    (hsz : ∀ elems spare, d = .slice elems spare → (elems.length + spare.length) * Try.prog.bytesOf 28 ≤ reachBytes)
    (hin : ∀ elems spare e' sp', d = .slice elems spare → DataW.slice e' sp' ∈ elems → (e'.length + sp'.length) * Try.prog.bytesOf 3 ≤ reachBytes) :
    ∃ ln zs, RGraph W a len ln zs := by
  rcases open_int_rows Try.underlying22 Try.underlying28 Try.underlying3 Try.cells28 Try.cells3 hf with ⟨hcs, _⟩ | ⟨x, l, c, A, L, C, Z, hcs, _, hl, hm, hx, hrow⟩
  · simp at hcs
    obtain ⟨rfl, rfl, rfl⟩ := hcs
    exact ⟨fun _ => 0, fun _ _ => 0, by omega, fun h => by omega⟩
  · simp at hcs
    obtain ⟨rfl, rfl, rfl⟩ := hcs
    simp only [Prod.mk.injEq] at hx
    have hzz := hsz _ _ hx.1
    rw [Try.bytes28] at hzz
    simp only [List.length_map, List.length_range, reachBytes] at hzz
    refine ⟨L, fun v k => (Z v).getD k 0, by omega, fun hp => ?_⟩
    obtain ⟨b, off, spot⟩ := x
    have hspot : spot = none := by simpa [Addr.add] using World.cell?_spot (hrow 0 (by omega)).1
    subst hspot
    have hlt : b < W.heap.size := World.block_lt_of_cell? W _ (by have := (hrow 0 (by omega)).1; rwa [Addr.add_lit] at this)
    refine ⟨b, off, rfl, hlt, fun v hv => ?_⟩
    obtain ⟨h1, h2, h3, h4, h5, h6, h7⟩ := hrow v (by omega)
    rw [Addr.add_lit] at h1
    refine ⟨A v, C v, h1, ?_, fun hp => ?_⟩
    · cases hA : A v with
      | none => have := h6 hA; omega
      | some a' =>
        have := hin _ _ (lits .i64 ((Z v).take (L v))) (lits .i64 ((Z v).drop (L v))) hx.1 (List.mem_map.2 ⟨v, List.mem_range.2 hv, by simp [intRow, hA]⟩)
        rw [Try.bytes3] at this
        simp only [lits, List.length_map, List.length_take, List.length_drop, reachBytes] at this
        omega
    · cases hA : A v with
      | none => have := h6 hA; omega
      | some a' =>
        obtain ⟨_, hc⟩ := h7 a' hA
        obtain ⟨b2, off2, spot⟩ := a'
        have hspot : spot = none := by simpa [Addr.add] using World.cell?_spot (hc 0 (by omega))
        subst hspot
        refine ⟨b2, off2, rfl, World.block_lt_of_cell? W _ (by have := hc 0 (by omega); rwa [Addr.add_lit] at this), fun i hi => ?_⟩
        have := hc i (by omega)
        rwa [Addr.add_lit] at this

end Go.Proofs.Qxb6601852a
