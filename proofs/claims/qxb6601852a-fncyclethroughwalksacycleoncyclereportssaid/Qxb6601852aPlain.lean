import Derived.Test.Qxb6601852aClone
namespace Go.Proofs.Qxb6601852a
open Go.RowKit

/-! ### Plain: reversing the edges keeps the cycles -/
section
variable {g : Gr}

theorem rv_E (hwf : g.wf) {x y : Nat} : g.rv.E x y ↔ g.E y x := by
  constructor
  · rintro ⟨_, h⟩
    exact mem_revRow.1 h
  · rintro ⟨h1, h2⟩
    exact ⟨(hwf y h1 x h2).1, mem_revRow.2 ⟨h1, h2⟩⟩

theorem rv_R (hwf : g.wf) {x y : Nat} : g.rv.R x y ↔ g.R y x := by
  constructor
  · intro h
    exact h (fun z => g.R z x) (Gr.R.refl x) (fun a b ha hab => (Gr.R.edge ((rv_E hwf).1 hab)).trans ha)
  · intro h
    exact h (fun z => g.rv.R z y) (Gr.R.refl y) (fun a b ha hab => (Gr.R.edge ((rv_E hwf).2 hab)).trans ha)

theorem rv_onC (hwf : g.wf) {v : Nat} : g.rv.OnC v ↔ g.OnC v := by
  constructor
  · rintro ⟨w, h1, h2⟩
    have hne : v ≠ w := fun e => (rv_wf hwf v h1.1 w h1.2).2 e.symm
    exact Gr.onC_of hne ((rv_R hwf).1 h2) ((rv_R hwf).1 (Gr.R.edge h1))
  · rintro ⟨w, h1, h2⟩
    have hne : v ≠ w := fun e => (hwf v h1.1 w h1.2).2 e.symm
    exact Gr.onC_of hne ((rv_R hwf).2 h2) ((rv_R hwf).2 (Gr.R.edge h1))
end

/-- What came in, as a graph. -/
def gOf (n : Nat) (ln : Nat → Nat) (zs : Nat → Nat → Int) : Gr := ⟨n, fun v => (List.range (ln v)).map fun k => (zs v k).toNat⟩

def Well (n : Nat) (ln : Nat → Nat) (zs : Nat → Nat → Int) : Prop := ∀ v, v < n → ∀ k, k < ln v → 0 ≤ zs v k ∧ zs v k < n ∧ zs v k ≠ v

theorem gOf_wf {n : Nat} {ln : Nat → Nat} {zs : Nat → Nat → Int} (h : Well n ln zs) : (gOf n ln zs).wf := fun v hv x hx => by
  simp only [gOf, List.mem_map, List.mem_range] at hx
  obtain ⟨k, hk, rfl⟩ := hx
  have := h v hv k hk
  show (zs v k).toNat < n ∧ _
  omega

theorem gOf_len (n : Nat) (ln : Nat → Nat) (zs : Nat → Nat → Int) (v : Nat) : ((gOf n ln zs).nx v).length = ln v := by simp [gOf]

theorem RGraph.graph {w : World} {ad : Option Addr} {n : Nat} {ln : Nat → Nat} {zs : Nat → Nat → Int} (h : RGraph w ad n ln zs) (hn : n ≤ 4096) (hl : ∀ v, v < n → ln v ≤ 131072) (hw : Well n ln zs) : Graph w ad (gOf n ln zs) := by
  refine ⟨hn, fun v hv => by rw [gOf_len]; exact hl v hv, fun hp => ?_⟩
  obtain ⟨b, off, rfl, hb, hr⟩ := h.2 hp
  refine ⟨b, off, rfl, hb, fun v hv => ?_⟩
  obtain ⟨ra, rc, h1, h2⟩ := hr v hv
  rw [gOf_len]
  refine ⟨ra, rc, h1, h2.1, fun hp => ?_⟩
  obtain ⟨b2, off2, rfl, hb2, hc⟩ := h2.2 hp
  refine ⟨b2, off2, rfl, hb2, fun k hk => ?_⟩
  rw [hc k hk]
  have := hw v hv k hk
  have e : (((gOf n ln zs).nx v).getD k 0 : Nat) = (zs v k).toNat := by simp [gOf, List.getD, hk]
  show some (Value.int .i64 (zs v k)) = some (Value.int .i64 ((((gOf n ln zs).nx v).getD k 0 : Nat) : Int))
  rw [e]
  congr 2
  omega

end Go.Proofs.Qxb6601852a
