import Derived.Test.Qxb6601852aTarjan
namespace Go.Proofs.Qxb6601852a

/-! ### The search of cycleThrough, plain -/
structure CInv (g : Gr) (s : Nat) (F : Nat → Int) (P : Nat → Nat) (Q : List Nat) (i k : Nat) : Prop where
  lt : ∀ v, v ∈ Q → v < g.n
  mem : ∀ v, v < g.n → (0 ≤ F v ↔ v ∈ Q ∧ v ≠ s)
  par : ∀ x, x ∈ Q → x ≠ s → ∃ p : Nat, F x = (p : Int) ∧ p ∈ Q ∧ P p < P x ∧ g.E p x
  pos : ∀ x, x ∈ Q → P x < Q.length
  cnt : sumTo g.n (fun v => if 0 ≤ F v then 1 else 0) + 1 = Q.length
  reach : ∀ v, v ∈ Q → g.R s v
  start : s ∈ Q
  done : ∀ j, j < i → ∀ u, Q[j]? = some u → ∀ x, x ∈ g.nx u → x ≠ s ∧ 0 ≤ F x
  part : ∀ u, Q[i]? = some u → ∀ j, j < k → ∀ x, (g.nx u)[j]? = some x → x ≠ s ∧ 0 ≤ F x

section
variable {g : Gr} {s : Nat} {F : Nat → Int} {P : Nat → Nat} {Q : List Nat} {i k : Nat}

theorem CInv.len (h : CInv g s F P Q i k) : Q.length ≤ g.n + 1 := by
  have := sumTo_one (n := g.n) (f := fun v => if 0 ≤ F v then 1 else 0) (fun v _ => by split <;> omega)
  have := h.cnt
  omega

theorem cinv_start (hs : s < g.n) : CInv g s (fun _ => -1) (fun _ => 0) [s] 0 0 := by
  refine ⟨?_, ?_, ?_, ?_, ?_, ?_, by simp, fun j hj => by omega, fun u _ j hj => by omega⟩
  · intro v hv; simp at hv; rw [hv]; exact hs
  · intro v _; simp
  · intro x hx hne; simp at hx; exact absurd hx hne
  · intro x _; simp
  · have : sumTo g.n (fun v => if (0 : Int) ≤ (fun _ : Nat => (-1 : Int)) v then 1 else 0) = sumTo g.n (fun _ => 0) := sumTo_congr (fun v _ => by simp)
    rw [this, sumTo_zero]; rfl
  · intro v hv; simp at hv; rw [hv]; exact Gr.R.refl s

theorem CInv.skip (h : CInv g s F P Q i k) {u x : Nat} (hu : Q[i]? = some u) (hx : (g.nx u)[k]? = some x) (hne : x ≠ s) (hF : 0 ≤ F x) : CInv g s F P Q i (k + 1) := by
  refine ⟨h.lt, h.mem, h.par, h.pos, h.cnt, h.reach, h.start, h.done, fun u' hu' j hj y hy => ?_⟩
  rw [hu] at hu'; cases hu'
  by_cases e : j = k
  · rw [e, hx] at hy; cases hy; exact ⟨hne, hF⟩
  · exact h.part u hu j (by omega) y hy

theorem CInv.push (h : CInv g s F P Q i k) {u x : Nat} (hu : Q[i]? = some u) (hx : (g.nx u)[k]? = some x) (hxn : x < g.n) (hne : x ≠ s) (hF : F x < 0) : CInv g s (set F x (u : Int)) (set P x Q.length) (Q ++ [x]) i (k + 1) := by
  have hiQ : i < Q.length := (List.getElem?_eq_some_iff.1 hu).1
  have huQ : u ∈ Q := List.mem_of_getElem? hu
  have hun := h.lt u huQ
  have hE : g.E u x := ⟨hun, List.mem_of_getElem? hx⟩
  have hxQ : x ∉ Q := fun hh => by have := (h.mem x hxn).2 ⟨hh, hne⟩; omega
  have out : ∀ y, y ∈ Q → y ≠ x := fun y hy e => hxQ (e ▸ hy)
  have keep : ∀ y, 0 ≤ F y → 0 ≤ set F x (u : Int) y := fun y hy => by
    unfold set; split
    · omega
    · exact hy
  refine ⟨?_, ?_, ?_, ?_, ?_, ?_, List.mem_append.2 (.inl h.start), ?_, ?_⟩
  · intro v hv
    rcases List.mem_append.1 hv with h1 | h1
    · exact h.lt v h1
    · simp at h1; rw [h1]; exact hxn
  · intro v hv
    by_cases e : v = x
    · subst e; rw [set_same]; simp [hne]
    · rw [set_other _ _ e, h.mem v hv]; simp [e]
  · intro y hy hys
    rcases List.mem_append.1 hy with h1 | h1
    · obtain ⟨p, h2, h3, h4, h5⟩ := h.par y h1 hys
      refine ⟨p, by rw [set_other _ _ (out y h1)]; exact h2, List.mem_append.2 (.inl h3), ?_, h5⟩
      rw [set_other _ _ (out y h1), set_other _ _ (out p h3)]; exact h4
    · simp at h1
      subst h1
      refine ⟨u, set_same _ _ _, List.mem_append.2 (.inl huQ), ?_, hE⟩
      rw [set_same, set_other _ _ (out u huQ)]
      exact h.pos u huQ
  · intro y hy
    rw [List.length_append]
    rcases List.mem_append.1 hy with h1 | h1
    · rw [set_other _ _ (out y h1)]; have := h.pos y h1; omega
    · simp at h1; rw [h1, set_same]; simp
  · have hc := h.cnt
    have := sumTo_add_one (n := g.n) (f := fun v => if 0 ≤ F v then 1 else 0) (g := fun v => if 0 ≤ set F x (u : Int) v then 1 else 0) hxn (fun v _ hne => by simp only [set_other _ _ hne]) (by
      simp only [set_same]
      rw [if_neg (by omega), if_pos (by omega)])
    simp only [List.length_append, List.length_cons, List.length_nil]
    omega
  · intro v hv
    rcases List.mem_append.1 hv with h1 | h1
    · exact h.reach v h1
    · simp at h1; rw [h1]; exact (h.reach u huQ).step hE
  · intro j hj u' hu' y hy
    rw [List.getElem?_append_left (by omega)] at hu'
    have := h.done j hj u' hu' y hy
    exact ⟨this.1, keep y this.2⟩
  · intro u' hu' j hj y hy
    rw [List.getElem?_append_left (by omega), hu] at hu'
    cases hu'
    by_cases e : j = k
    · rw [e, hx] at hy; cases hy; exact ⟨hne, by rw [set_same]; omega⟩
    · have := h.part u hu j (by omega) y hy
      exact ⟨this.1, keep y this.2⟩

theorem CInv.next (h : CInv g s F P Q i k) {u : Nat} (hu : Q[i]? = some u) (hk : (g.nx u).length ≤ k) : CInv g s F P Q (i + 1) 0 := by
  refine ⟨h.lt, h.mem, h.par, h.pos, h.cnt, h.reach, h.start, fun j hj u' hu' x hx => ?_, fun u _ j hj => by omega⟩
  by_cases e : j = i
  · rw [e, hu] at hu'; cases hu'
    obtain ⟨m, hm, hx'⟩ := mem_idx hx
    exact h.part u hu m (by omega) x hx'
  · exact h.done j (by omega) u' hu' x hx

/-- The queue does not run dry before the way back is met. -/
theorem CInv.live (h : CInv g s F P Q i k) (hwf : g.wf) (hon : g.OnC s) (hi : i ≤ Q.length) : i < Q.length := by
  refine Nat.lt_of_not_le (fun hge => ?_)
  obtain ⟨w, hw, hr⟩ := hon
  have step : ∀ a, a ∈ Q → ∀ b, g.E a b → b ∈ Q ∧ b ≠ s := fun a ha b hab => by
    obtain ⟨j, hj, ha'⟩ := mem_idx ha
    have := h.done j (by omega) a ha' b hab.2
    exact (h.mem b (hwf a hab.1 b hab.2).1).1 this.2
  have := hr (fun z => z ∈ Q ∧ z ≠ s) (step s h.start w hw) (fun a b ha hab => step a ha.1 b hab)
  exact this.2 rfl

/-! ### The way back -/
def Way (g : Gr) : List Nat → Prop
  | [] => True
  | [_] => True
  | x :: y :: l => g.E x y ∧ Way g (y :: l)

theorem Way.at {c : List Nat} (h : Way g c) {k a b : Nat} (ha : c[k]? = some a) (hb : c[k + 1]? = some b) : g.E a b := by
  induction c generalizing k with
  | nil => simp at ha
  | cons x l ih =>
    cases l with
    | nil => simp at hb
    | cons y l =>
      cases k with
      | zero => simp at ha hb; rw [← ha, ← hb]; exact h.1
      | succ k => exact ih h.2 (by simpa using ha) (by simpa using hb)

theorem Way.cons {c : List Nat} (h : Way g c) {u : Nat} (hu : ∀ y, c[0]? = some y → g.E u y) : Way g (u :: c) := by
  cases c with
  | nil => trivial
  | cons y l => exact ⟨hu y rfl, h⟩

theorem Way.back {m : List Nat} (h : Way g (m ++ [s])) : ∀ x, x ∈ m → g.R x s := by
  induction m with
  | nil => intro x hx; cases hx
  | cons y l ih =>
    have h2 : Way g (l ++ [s]) := by
      cases l with
      | nil => trivial
      | cons z l => exact h.2
    have hy : g.R y s := by
      cases l with
      | nil => exact Gr.R.edge h.1
      | cons z l => exact (Gr.R.edge h.1).trans (ih h2 z (by simp))
    intro x hx
    rcases List.mem_cons.1 hx with rfl | hx
    · exact hy
    · exact ih h2 x hx

structure MInv (g : Gr) (s : Nat) (P : Nat → Nat) (Q : List Nat) (u : Nat) (m : List Nat) : Prop where
  inQ : u ∈ Q
  edge : ∀ y, (m ++ [s])[0]? = some y → g.E u y
  way : Way g (m ++ [s])
  mid : ∀ x, x ∈ m → P u < P x ∧ x ≠ s ∧ x ∈ Q
  srt : m.Pairwise (fun x y => P x < P y)

theorem minv_start {v : Nat} (hv : v ∈ Q) (hE : g.E v s) : MInv g s P Q v [] := by
  refine ⟨hv, fun y hy => ?_, trivial, fun x hx => ?_, List.Pairwise.nil⟩
  · simp at hy; rw [← hy]; exact hE
  · cases hx

theorem MInv.step {u p : Nat} {m : List Nat} (h : MInv g s P Q u m) (hne : u ≠ s) (hp : p ∈ Q) (hlt : P p < P u) (hE : g.E p u) : MInv g s P Q p (u :: m) := by
  refine ⟨hp, fun y hy => ?_, h.way.cons h.edge, fun x hx => ?_, List.pairwise_cons.2 ⟨fun x hx => (h.mid x hx).1, h.srt⟩⟩
  · simp at hy; rw [← hy]; exact hE
  · rcases List.mem_cons.1 hx with rfl | hx
    · exact ⟨hlt, hne, h.inQ⟩
    · have := h.mid x hx; exact ⟨by omega, this.2⟩

theorem MInv.len {u : Nat} {m : List Nat} (h : MInv g s P Q u m) (hpos : ∀ x, x ∈ Q → P x < Q.length) : m.length < Q.length := by
  have hu := hpos u h.inQ
  have := sorted_len (l := m.map P) (P u + 1) (Q.length - 1) (List.pairwise_map.2 h.srt) (fun x hx => by
    obtain ⟨y, hy, rfl⟩ := List.mem_map.1 hx
    have h1 := h.mid y hy
    have h2 := hpos y h1.2.2
    omega) (by omega)
  rw [List.length_map] at this
  omega

/-- What the law asks of the answer. -/
structure Cyc (g : Gr) (s : Nat) (c : List Nat) : Prop where
  len : 3 ≤ c.length
  first : c[0]? = some s
  last : c[c.length - 1]? = some s
  edge : ∀ k a b, c[k]? = some a → c[k + 1]? = some b → g.E a b
  nd : ∀ i j a, i < j → j + 1 < c.length → c[i]? = some a → c[j]? ≠ some a
  on : ∀ x, x ∈ c → g.OnC x

theorem MInv.cyc {m : List Nat} (h : MInv g s P Q s m) (hC : CInv g s F P Q i k) (hwf : g.wf) (hon : g.OnC s) : Cyc g s (s :: (m ++ [s])) := by
  have hm : m ≠ [] := fun e => by
    have := h.edge s (by rw [e]; rfl)
    exact (hwf s this.1 s this.2).2 rfl
  have hl : 0 < m.length := List.length_pos_iff.2 hm
  have hw : Way g (s :: (m ++ [s])) := h.way.cons h.edge
  have hnd : (s :: m).Pairwise (· ≠ ·) := List.pairwise_cons.2 ⟨fun x hx e => (h.mid x hx).2.1 e.symm, h.srt.imp (fun hab e => by rw [e] at hab; omega)⟩
  refine ⟨by simp; omega, rfl, by simp, fun k a b ha hb => hw.at ha hb, fun i j a hij hj hi hj' => ?_, fun x hx => ?_⟩
  · have e1 : s :: (m ++ [s]) = (s :: m) ++ [s] := rfl
    rw [e1] at hj hi hj'
    rw [List.length_append, List.length_cons, List.length_cons, List.length_nil] at hj
    rw [List.getElem?_append_left (by rw [List.length_cons]; omega)] at hi hj'
    obtain ⟨h1, h2⟩ := List.getElem?_eq_some_iff.1 hi
    obtain ⟨h3, h4⟩ := List.getElem?_eq_some_iff.1 hj'
    exact (List.pairwise_iff_getElem.1 hnd i j h1 h3 hij) (h2.trans h4.symm)
  · rcases List.mem_cons.1 hx with rfl | hx
    · exact hon
    · rcases List.mem_append.1 hx with hx | hx
      · have h1 := h.mid x hx
        exact Gr.onC_of h1.2.1 (h.way.back x hx) (hC.reach x h1.2.2)
      · simp at hx; rw [hx]; exact hon

theorem onC_lt (h : g.OnC s) : s < g.n := by obtain ⟨w, hw, _⟩ := h; exact hw.1
end

end Go.Proofs.Qxb6601852a
