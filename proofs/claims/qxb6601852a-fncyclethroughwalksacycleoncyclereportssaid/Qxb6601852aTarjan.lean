namespace Go.Proofs.Qxb6601852a

/-! ### Graphs -/
structure Gr where
  n : Nat
  nx : Nat → List Nat

def Gr.wf (g : Gr) : Prop := ∀ v, v < g.n → ∀ w, w ∈ g.nx v → w < g.n ∧ w ≠ v
def Gr.E (g : Gr) (x y : Nat) : Prop := x < g.n ∧ y ∈ g.nx x
/-- y is in every set that holds x and is closed under the edges. -/
def Gr.R (g : Gr) (x y : Nat) : Prop := ∀ Z : Nat → Prop, Z x → (∀ a b, Z a → g.E a b → Z b) → Z y
/-- Some successor of v leads back to v. -/
def Gr.OnC (g : Gr) (v : Nat) : Prop := ∃ w, g.E v w ∧ g.R w v

section
variable {g : Gr}
theorem Gr.R.refl (x : Nat) : g.R x x := fun _ h _ => h
theorem Gr.R.trans {x y z : Nat} (h : g.R x y) (k : g.R y z) : g.R x z := fun Z h0 h1 => k Z (h Z h0 h1) h1
theorem Gr.R.step {x y z : Nat} (h : g.R x y) (k : g.E y z) : g.R x z := fun Z h0 h1 => h1 y z (h Z h0 h1) k
theorem Gr.R.edge {x y : Nat} (h : g.E x y) : g.R x y := (Gr.R.refl x).step h
/-- A way is empty, or its first edge leads on. -/
theorem Gr.R.first {x y : Nat} (h : g.R x y) : x = y ∨ ∃ w, g.E x w ∧ g.R w y := by
  refine h (fun z => x = z ∨ ∃ w, g.E x w ∧ g.R w z) (.inl rfl) ?_
  intro a b ha hab
  rcases ha with rfl | ⟨w, h1, h2⟩
  · exact .inr ⟨b, hab, Gr.R.refl b⟩
  · exact .inr ⟨w, h1, h2.step hab⟩
theorem Gr.onC_of {x y : Nat} (hne : x ≠ y) (h1 : g.R x y) (h2 : g.R y x) : g.OnC x := by
  rcases h1.first with rfl | ⟨w, h3, h4⟩
  · exact absurd rfl hne
  · exact ⟨w, h3, h4.trans h2⟩
end

/-! ### Small things -/
def set {α : Type} (f : Nat → α) (i : Nat) (a : α) (j : Nat) : α := if j = i then a else f j
theorem set_same {α : Type} (f : Nat → α) (i : Nat) (a : α) : set f i a i = a := by simp [set]
theorem set_other {α : Type} (f : Nat → α) {i j : Nat} (a : α) (h : j ≠ i) : set f i a j = f j := by simp [set, h]

def sumTo : Nat → (Nat → Nat) → Nat
  | 0, _ => 0
  | n + 1, f => sumTo n f + f n

theorem sumTo_le {n : Nat} {f g : Nat → Nat} (h : ∀ v, v < n → f v ≤ g v) : sumTo n f ≤ sumTo n g := by
  induction n with
  | zero => exact Nat.le_refl _
  | succ n ih => have := ih (fun v hv => h v (by omega)); have := h n (by omega); simp only [sumTo]; omega

theorem sumTo_lt {n : Nat} {f g : Nat → Nat} (h : ∀ v, v < n → f v ≤ g v) {u : Nat} (hu : u < n) (hlt : f u < g u) : sumTo n f < sumTo n g := by
  induction n with
  | zero => omega
  | succ n ih =>
    simp only [sumTo]
    by_cases e : u = n
    · subst e
      have := sumTo_le (n := u) (fun v hv => h v (by omega))
      omega
    · have := ih (fun v hv => h v (by omega)) (by omega)
      have := h n (by omega)
      omega

theorem sumTo_one {n : Nat} {f : Nat → Nat} (h : ∀ v, v < n → f v ≤ 1) : sumTo n f ≤ n := by
  induction n with
  | zero => exact Nat.le_refl _
  | succ n ih => have := ih (fun v hv => h v (by omega)); have := h n (by omega); simp only [sumTo]; omega

theorem sumTo_congr {n : Nat} {f g : Nat → Nat} (h : ∀ v, v < n → f v = g v) : sumTo n f = sumTo n g :=
  Nat.le_antisymm (sumTo_le fun v hv => by rw [h v hv]; exact Nat.le_refl _) (sumTo_le fun v hv => by rw [h v hv]; exact Nat.le_refl _)

theorem sumTo_add_one {n : Nat} {f g : Nat → Nat} {u : Nat} (hu : u < n) (h : ∀ v, v < n → v ≠ u → f v = g v) (he : f u + 1 = g u) : sumTo n f + 1 = sumTo n g := by
  induction n with
  | zero => omega
  | succ n ih =>
    simp only [sumTo]
    by_cases e : u = n
    · subst e
      have := sumTo_congr (n := u) (f := f) (g := g) (fun v hv => h v (by omega) (by omega))
      omega
    · have := ih (by omega) (fun v hv hn => h v (by omega) hn)
      have := h n (by omega) (fun h => e h.symm)
      omega

theorem sorted_len {l : List Nat} : ∀ a c, l.Pairwise (· < ·) → (∀ x, x ∈ l → a ≤ x ∧ x ≤ c) → a ≤ c + 1 → l.length + a ≤ c + 1 := by
  induction l with
  | nil => intro a c _ _ h; simpa using h
  | cons x xs ih =>
    intro a c hp hb _
    rw [List.pairwise_cons] at hp
    have hx := hb x (by simp)
    have := ih (x + 1) c hp.2 (fun y hy => ⟨hp.1 y hy, (hb y (by simp [hy])).2⟩) (by omega)
    simp only [List.length_cons]
    omega

/-! ### Tarjan's search, as it stands between two steps -/
structure TS where
  found : Nat → Nat
  low : Nat → Nat
  held : Nat → Bool
  res : Nat → Bool
  idx : Nat → Nat
  S : List Nat
  G : List Nat
  clock : Nat

structure TInv (g : Gr) (s : TS) : Prop where
  clk : ∀ v, s.found v ≤ s.clock
  inj : ∀ u v, s.found u ≠ 0 → s.found u = s.found v → u = v
  lt : ∀ v, s.found v ≠ 0 → v < g.n
  cnt : sumTo g.n (fun v => if s.found v = 0 then 0 else 1) = s.clock
  mem : ∀ v, v ∈ s.S ↔ s.held v = true
  hf : ∀ v, s.held v = true → s.found v ≠ 0
  sS : s.S.Pairwise (fun a b => s.found a < s.found b)
  gS : ∀ v, v ∈ s.G → v ∈ s.S
  sG : s.G.Pairwise (fun a b => s.found a < s.found b)
  il : ∀ v, s.idx v ≤ (g.nx v).length
  i0 : ∀ v, s.found v = 0 → s.idx v = 0
  ex : ∀ v, s.found v ≠ 0 → ∀ k w, k < s.idx v → (g.nx v)[k]? = some w → s.found w ≠ 0
  bl : ∀ v, s.found v ≠ 0 → v ∉ s.G → s.idx v = (g.nx v).length
  dn : ∀ v, s.found v ≠ 0 → s.held v = false → ∀ w, w ∈ g.nx v → s.held w = false
  i1 : ∀ x, x ∈ s.S → ∃ p, p ∈ s.G ∧ s.found p ≤ s.found x ∧ g.R x p
  i2 : ∀ p, p ∈ s.G → ∀ y, y ∈ s.S → s.found p ≤ s.found y → g.R p y
  l1 : ∀ x, x ∈ s.S → s.low x ≤ s.found x ∧ ∃ u, u ∈ s.S ∧ s.found u = s.low x ∧ g.R x u
  l2 : ∀ p, p ∈ s.G → ∀ x, x ∈ s.S → s.found p ≤ s.found x → (∀ q, q ∈ s.G → s.found p < s.found q → s.found x < s.found q) →
    ∀ k y, k < s.idx x → (g.nx x)[k]? = some y → s.held y = true → s.low p ≤ s.found y
  rs : ∀ x, s.found x ≠ 0 → s.held x = false → (s.res x = true ↔ g.OnC x)

section
variable {g : Gr} {s : TS}

theorem TInv.fS (h : TInv g s) {v : Nat} (hv : v ∈ s.S) : s.found v ≠ 0 := h.hf v ((h.mem v).1 hv)
theorem TInv.heldS (h : TInv g s) {v : Nat} (hv : v ∈ s.S) : s.held v = true := (h.mem v).1 hv
theorem TInv.clock_le (h : TInv g s) : s.clock ≤ g.n := by rw [← h.cnt]; exact sumTo_one (fun v _ => by split <;> omega)
theorem TInv.S_len (h : TInv g s) : s.S.length ≤ s.clock := by
  have := sorted_len (l := s.S.map s.found) 1 s.clock (List.pairwise_map.2 h.sS) (fun x hx => by
    obtain ⟨v, hv, rfl⟩ := List.mem_map.1 hx
    have := h.fS hv; have := h.clk v; omega) (by omega)
  simp at this; omega
theorem TInv.G_len (h : TInv g s) : s.G.length ≤ s.clock := by
  have := sorted_len (l := s.G.map s.found) 1 s.clock (List.pairwise_map.2 h.sG) (fun x hx => by
    obtain ⟨v, hv, rfl⟩ := List.mem_map.1 hx
    have := h.fS (h.gS v hv); have := h.clk v; omega) (by omega)
  simp at this; omega
/-- No vertex is open: nothing is held. -/
theorem TInv.S_nil (h : TInv g s) (hG : s.G = []) : s.S = [] := by
  match hS : s.S with
  | [] => rfl
  | x :: xs =>
    obtain ⟨p, hp, _⟩ := h.i1 x (by simp [hS])
    rw [hG] at hp; cases hp
/-- The last open vertex has the greatest number. -/
theorem TInv.top (h : TInv g s) {G' : List Nat} {v : Nat} (hG : s.G = G' ++ [v]) {p : Nat} (hp : p ∈ s.G) : p = v ∨ (p ∈ G' ∧ s.found p < s.found v) := by
  have hs := h.sG
  rw [hG, List.pairwise_append] at hs
  rw [hG] at hp
  rcases List.mem_append.1 hp with h1 | h1
  · exact .inr ⟨h1, hs.2.2 p h1 v (by simp)⟩
  · simp at h1; exact .inl h1

/-! #### A new vertex -/
def TS.push (s : TS) (w : Nat) : TS :=
  { s with clock := s.clock + 1, found := set s.found w (s.clock + 1), low := set s.low w (s.clock + 1), held := set s.held w true, S := s.S ++ [w], G := s.G ++ [w] }
def TS.bump (s : TS) (v : Nat) : TS := { s with idx := set s.idx v (s.idx v + 1) }

theorem push_start (h : TInv g s) (hG : s.G = []) {w : Nat} (hw : w < g.n) (h0 : s.found w = 0) : TInv g (s.push w) := by
  have hS := h.S_nil hG
  have hnh : ∀ v, s.held v = false := fun v => by
    cases hh : s.held v with
    | false => rfl
    | true => have := (h.mem v).2 hh; rw [hS] at this; cases this
  have hfne : ∀ v, v ≠ w → (set s.found w (s.clock + 1)) v = s.found v := fun v hv => set_other _ _ hv
  have hfw : (set s.found w (s.clock + 1)) w = s.clock + 1 := set_same _ _ _
  have hwn : ∀ v, s.found v ≠ 0 → v ≠ w := fun v hv e => hv (by rw [e]; exact h0)
  have hfn0 : ∀ v, s.found v ≠ 0 → (set s.found w (s.clock + 1)) v ≠ 0 := fun v hv => by rw [hfne v (hwn v hv)]; exact hv
  refine ⟨?_, ?_, ?_, ?_, ?_, ?_, ?_, ?_, ?_, h.il, ?_, ?_, ?_, ?_, ?_, ?_, ?_, ?_, ?_⟩
  · intro v
    show set s.found w (s.clock + 1) v ≤ s.clock + 1
    by_cases e : v = w
    · subst e; rw [hfw]; exact Nat.le_refl _
    · rw [hfne v e]; have := h.clk v; omega
  · intro u v hu huv
    change set s.found w (s.clock + 1) u ≠ 0 at hu
    change set s.found w (s.clock + 1) u = set s.found w (s.clock + 1) v at huv
    by_cases e1 : u = w <;> by_cases e2 : v = w
    · rw [e1, e2]
    · rw [e1, hfw, hfne v e2] at huv; have := h.clk v; omega
    · rw [e2, hfw, hfne u e1] at huv; have := h.clk u; omega
    · rw [hfne u e1] at hu huv; rw [hfne v e2] at huv; exact h.inj u v hu huv
  · intro v hv
    change set s.found w (s.clock + 1) v ≠ 0 at hv
    by_cases e : v = w
    · subst e; exact hw
    · rw [hfne v e] at hv; exact h.lt v hv
  · show sumTo g.n (fun v => if set s.found w (s.clock + 1) v = 0 then 0 else 1) = s.clock + 1
    have := sumTo_add_one (f := fun v => if s.found v = 0 then 0 else 1) (g := fun v => if set s.found w (s.clock + 1) v = 0 then 0 else 1) hw (fun v _ hne => by rw [hfne v hne]) (by rw [h0, hfw]; simp)
    rw [h.cnt] at this
    exact this.symm
  · intro v
    show v ∈ s.S ++ [w] ↔ set s.held w true v = true
    rw [hS]
    by_cases e : v = w
    · subst e; simp [set_same]
    · rw [set_other _ _ e, hnh v]; simp [e]
  · intro v hv
    change set s.held w true v = true at hv
    show set s.found w (s.clock + 1) v ≠ 0
    by_cases e : v = w
    · subst e; rw [hfw]; omega
    · rw [set_other _ _ e, hnh v] at hv; cases hv
  · show (s.S ++ [w]).Pairwise _; rw [hS]; simp
  · intro v hv
    change v ∈ s.G ++ [w] at hv
    rw [hG] at hv
    show v ∈ s.S ++ [w]
    simp at hv; simp [hv]
  · show (s.G ++ [w]).Pairwise _; rw [hG]; simp
  · intro v hv
    change set s.found w (s.clock + 1) v = 0 at hv
    show s.idx v = 0
    by_cases e : v = w
    · subst e; exact h.i0 v h0
    · rw [hfne v e] at hv; exact h.i0 v hv
  · intro v hv k x hk hx
    change set s.found w (s.clock + 1) v ≠ 0 at hv
    change k < s.idx v at hk
    show set s.found w (s.clock + 1) x ≠ 0
    by_cases e : v = w
    · subst e; rw [h.i0 v h0] at hk; omega
    · rw [hfne v e] at hv; exact hfn0 x (h.ex v hv k x hk hx)
  · intro v hv hg
    change set s.found w (s.clock + 1) v ≠ 0 at hv
    change v ∉ s.G ++ [w] at hg
    show s.idx v = _
    have e : v ≠ w := fun e => hg (by simp [e])
    rw [hfne v e] at hv
    exact h.bl v hv (fun hh => hg (by simp [hh]))
  · intro v hv hh x hx
    change set s.found w (s.clock + 1) v ≠ 0 at hv
    change set s.held w true v = false at hh
    show set s.held w true x = false
    have e : v ≠ w := fun e => by rw [e, set_same] at hh; cases hh
    rw [hfne v e] at hv
    have hxw : x ≠ w := fun e2 => by
      obtain ⟨k, hk, hxk⟩ := List.getElem?_of_mem hx |>.elim (fun k hk => (⟨k, (List.getElem?_eq_some_iff.1 hk).1, hk⟩ : ∃ k, k < (g.nx v).length ∧ (g.nx v)[k]? = some x))
      have hb := h.bl v hv (by rw [hG]; simp)
      exact h.ex v hv k x (by omega) hxk (by rw [e2]; exact h0)
    rw [set_other _ _ hxw]; exact hnh x
  · intro x hx
    change x ∈ s.S ++ [w] at hx
    rw [hS] at hx
    simp at hx
    subst hx
    exact ⟨x, by show x ∈ s.G ++ [x]; simp, Nat.le_refl _, Gr.R.refl x⟩
  · intro p hp y hy _
    change p ∈ s.G ++ [w] at hp
    change y ∈ s.S ++ [w] at hy
    rw [hG] at hp; rw [hS] at hy
    simp at hp hy
    rw [hp, hy]
    exact Gr.R.refl w
  · intro x hx
    change x ∈ s.S ++ [w] at hx
    rw [hS] at hx
    simp at hx
    subst hx
    refine ⟨?_, x, by show x ∈ s.S ++ [x]; simp, ?_, Gr.R.refl x⟩
    · show set s.low x (s.clock + 1) x ≤ set s.found x (s.clock + 1) x; rw [set_same, set_same]; exact Nat.le_refl _
    · show set s.found x (s.clock + 1) x = set s.low x (s.clock + 1) x; rw [set_same, set_same]
  · intro p hp x hx _ _ k y hk
    change x ∈ s.S ++ [w] at hx
    rw [hS] at hx
    simp at hx
    subst hx
    change k < s.idx x at hk
    rw [h.i0 x h0] at hk; omega
  · intro x hx hh
    change set s.found w (s.clock + 1) x ≠ 0 at hx
    change set s.held w true x = false at hh
    have e : x ≠ w := fun e => by rw [e, set_same] at hh; cases hh
    rw [hfne x e] at hx
    exact h.rs x hx (hnh x)

theorem mem_idx {l : List Nat} {x : Nat} (h : x ∈ l) : ∃ k, k < l.length ∧ l[k]? = some x := by
  obtain ⟨k, hk⟩ := List.getElem?_of_mem h
  exact ⟨k, (List.getElem?_eq_some_iff.1 hk).1, hk⟩

/-- Whatever a vertex that is done leads to has been found. -/
theorem TInv.doneVis (h : TInv g s) {v : Nat} (hv : s.found v ≠ 0) (hh : s.held v = false) {x : Nat} (hx : x ∈ g.nx v) : s.found x ≠ 0 := by
  obtain ⟨k, hk, hxk⟩ := mem_idx hx
  have hb := h.bl v hv (fun hg => by have := h.heldS (h.gS v hg); rw [hh] at this; cases this)
  exact h.ex v hv k x (by omega) hxk

theorem push_edge (h : TInv g s) {G' : List Nat} {v w : Nat} (hG : s.G = G' ++ [v]) (hk : (g.nx v)[s.idx v]? = some w) (hw : w < g.n) (h0 : s.found w = 0) : TInv g ((s.bump v).push w) := by
  have hvG : v ∈ s.G := by rw [hG]; simp
  have hvS := h.gS v hvG
  have hvf := h.fS hvS
  have hvh := h.heldS hvS
  have hwh : s.held w = false := by
    cases hh : s.held w with
    | false => rfl
    | true => exact absurd h0 (h.hf w hh)
  have hwS : w ∉ s.S := fun hh => by have := h.heldS hh; rw [hwh] at this; cases this
  have hwG : w ∉ s.G := fun hh => hwS (h.gS w hh)
  have hvw : v ≠ w := fun e => hvf (by rw [e]; exact h0)
  have hEd : g.E v w := ⟨h.lt v hvf, List.mem_of_getElem? hk⟩
  have hfne : ∀ u, u ≠ w → (set s.found w (s.clock + 1)) u = s.found u := fun u hu => set_other _ _ hu
  have hfw : (set s.found w (s.clock + 1)) w = s.clock + 1 := set_same _ _ _
  have hwn : ∀ u, s.found u ≠ 0 → u ≠ w := fun u hu e => hu (by rw [e]; exact h0)
  have hfS : ∀ u, u ∈ s.S → (set s.found w (s.clock + 1)) u = s.found u := fun u hu => hfne u (hwn u (h.fS hu))
  have hfn0 : ∀ u, s.found u ≠ 0 → (set s.found w (s.clock + 1)) u ≠ 0 := fun u hu => by rw [hfne u (hwn u hu)]; exact hu
  have hin : s.idx v < (g.nx v).length := (List.getElem?_eq_some_iff.1 hk).1
  refine ⟨?_, ?_, ?_, ?_, ?_, ?_, ?_, ?_, ?_, ?_, ?_, ?_, ?_, ?_, ?_, ?_, ?_, ?_, ?_⟩
  · intro u
    show set s.found w (s.clock + 1) u ≤ s.clock + 1
    by_cases e : u = w
    · subst e; rw [hfw]; exact Nat.le_refl _
    · rw [hfne u e]; have := h.clk u; omega
  · intro u u' hu huv
    change set s.found w (s.clock + 1) u ≠ 0 at hu
    change set s.found w (s.clock + 1) u = set s.found w (s.clock + 1) u' at huv
    by_cases e1 : u = w <;> by_cases e2 : u' = w
    · rw [e1, e2]
    · rw [e1, hfw, hfne u' e2] at huv; have := h.clk u'; omega
    · rw [e2, hfw, hfne u e1] at huv; have := h.clk u; omega
    · rw [hfne u e1] at hu huv; rw [hfne u' e2] at huv; exact h.inj u u' hu huv
  · intro u hu
    change set s.found w (s.clock + 1) u ≠ 0 at hu
    by_cases e : u = w
    · subst e; exact hw
    · rw [hfne u e] at hu; exact h.lt u hu
  · show sumTo g.n (fun u => if set s.found w (s.clock + 1) u = 0 then 0 else 1) = s.clock + 1
    have := sumTo_add_one (f := fun u => if s.found u = 0 then 0 else 1) (g := fun u => if set s.found w (s.clock + 1) u = 0 then 0 else 1) hw (fun u _ hne => by rw [hfne u hne]) (by rw [h0, hfw]; simp)
    rw [h.cnt] at this
    exact this.symm
  · intro u
    show u ∈ s.S ++ [w] ↔ set s.held w true u = true
    by_cases e : u = w
    · subst e; simp [set_same]
    · rw [set_other _ _ e, ← h.mem u]; simp [e]
  · intro u hu
    change set s.held w true u = true at hu
    show set s.found w (s.clock + 1) u ≠ 0
    by_cases e : u = w
    · subst e; rw [hfw]; omega
    · rw [set_other _ _ e] at hu; exact hfn0 u (h.hf u hu)
  · show (s.S ++ [w]).Pairwise (fun a b => set s.found w (s.clock + 1) a < set s.found w (s.clock + 1) b)
    rw [List.pairwise_append]
    refine ⟨h.sS.imp_of_mem (fun ha hb hlt => by rw [hfS _ ha, hfS _ hb]; exact hlt), by simp, fun a ha b hb => ?_⟩
    simp at hb
    rw [hb, hfw, hfS a ha]; have := h.clk a; omega
  · intro u hu
    change u ∈ s.G ++ [w] at hu
    show u ∈ s.S ++ [w]
    rcases List.mem_append.1 hu with h1 | h1
    · exact List.mem_append.2 (.inl (h.gS u h1))
    · exact List.mem_append.2 (.inr h1)
  · show (s.G ++ [w]).Pairwise (fun a b => set s.found w (s.clock + 1) a < set s.found w (s.clock + 1) b)
    rw [List.pairwise_append]
    refine ⟨h.sG.imp_of_mem (fun ha hb hlt => by rw [hfS _ (h.gS _ ha), hfS _ (h.gS _ hb)]; exact hlt), by simp, fun a ha b hb => ?_⟩
    simp at hb
    rw [hb, hfw, hfS a (h.gS a ha)]; have := h.clk a; omega
  · intro u
    show set s.idx v (s.idx v + 1) u ≤ _
    by_cases e : u = v
    · subst e; rw [set_same]; omega
    · rw [set_other _ _ e]; exact h.il u
  · intro u hu
    change set s.found w (s.clock + 1) u = 0 at hu
    show set s.idx v (s.idx v + 1) u = 0
    have e1 : u ≠ w := fun e => by rw [e, hfw] at hu; omega
    rw [hfne u e1] at hu
    have e2 : u ≠ v := fun e => hvf (by rw [← e]; exact hu)
    rw [set_other _ _ e2]; exact h.i0 u hu
  · intro u hu k x hku hx
    change set s.found w (s.clock + 1) u ≠ 0 at hu
    change k < set s.idx v (s.idx v + 1) u at hku
    show set s.found w (s.clock + 1) x ≠ 0
    by_cases e : u = v
    · subst e
      rw [set_same] at hku
      by_cases ek : k = s.idx u
      · subst ek; rw [hk] at hx; cases hx; rw [hfw]; omega
      · exact hfn0 x (h.ex u hvf k x (by omega) hx)
    · rw [set_other _ _ e] at hku
      by_cases e1 : u = w
      · subst e1; rw [h.i0 u h0] at hku; omega
      · rw [hfne u e1] at hu; exact hfn0 x (h.ex u hu k x hku hx)
  · intro u hu hg
    change set s.found w (s.clock + 1) u ≠ 0 at hu
    change u ∉ s.G ++ [w] at hg
    show set s.idx v (s.idx v + 1) u = _
    have e1 : u ≠ w := fun e => hg (by simp [e])
    have e2 : u ≠ v := fun e => hg (by rw [e]; exact List.mem_append.2 (.inl hvG))
    rw [hfne u e1] at hu
    rw [set_other _ _ e2]
    exact h.bl u hu (fun hh => hg (List.mem_append.2 (.inl hh)))
  · intro u hu hh x hx
    change set s.found w (s.clock + 1) u ≠ 0 at hu
    change set s.held w true u = false at hh
    show set s.held w true x = false
    have e : u ≠ w := fun e => by rw [e, set_same] at hh; cases hh
    rw [hfne u e] at hu
    rw [set_other _ _ e] at hh
    have hxw : x ≠ w := fun e2 => h.doneVis hu hh hx (by rw [e2]; exact h0)
    rw [set_other _ _ hxw]; exact h.dn u hu hh x hx
  · intro x hx
    change x ∈ s.S ++ [w] at hx
    rcases List.mem_append.1 hx with h1 | h1
    · obtain ⟨p, hp, hle, hr⟩ := h.i1 x h1
      refine ⟨p, List.mem_append.2 (.inl hp), ?_, hr⟩
      show set s.found w (s.clock + 1) p ≤ set s.found w (s.clock + 1) x
      rw [hfS p (h.gS p hp), hfS x h1]; exact hle
    · simp at h1
      rw [h1]
      exact ⟨w, List.mem_append.2 (.inr (by simp)), Nat.le_refl _, Gr.R.refl w⟩
  · intro p hp y hy hle
    change p ∈ s.G ++ [w] at hp
    change y ∈ s.S ++ [w] at hy
    change set s.found w (s.clock + 1) p ≤ set s.found w (s.clock + 1) y at hle
    rcases List.mem_append.1 hp with hp | hp <;> rcases List.mem_append.1 hy with hy | hy
    · rw [hfS p (h.gS p hp), hfS y hy] at hle; exact h.i2 p hp y hy hle
    · simp at hy
      rw [hy]
      have : s.found p ≤ s.found v := by
        rcases h.top hG hp with e | ⟨_, e⟩
        · rw [e]; exact Nat.le_refl _
        · omega
      exact (h.i2 p hp v hvS this).step hEd
    · simp at hp
      rw [hp, hfw, hfS y hy] at hle; have := h.clk y; omega
    · simp at hp hy; rw [hp, hy]; exact Gr.R.refl w
  · intro x hx
    change x ∈ s.S ++ [w] at hx
    rcases List.mem_append.1 hx with h1 | h1
    · obtain ⟨hle, u, hu, hfu, hr⟩ := h.l1 x h1
      have hxw : x ≠ w := hwn x (h.fS h1)
      refine ⟨?_, u, List.mem_append.2 (.inl hu), ?_, hr⟩
      · show set s.low w (s.clock + 1) x ≤ set s.found w (s.clock + 1) x
        rw [set_other _ _ hxw, hfS x h1]; exact hle
      · show set s.found w (s.clock + 1) u = set s.low w (s.clock + 1) x
        rw [set_other s.low _ hxw, hfS u hu]; exact hfu
    · simp at h1
      rw [h1]
      refine ⟨?_, w, List.mem_append.2 (.inr (by simp)), ?_, Gr.R.refl w⟩
      · show set s.low w (s.clock + 1) w ≤ set s.found w (s.clock + 1) w; rw [set_same, set_same]; exact Nat.le_refl _
      · show set s.found w (s.clock + 1) w = set s.low w (s.clock + 1) w; rw [set_same, set_same]
  · intro p hp x hx hle hseg k y hky hy hhy
    change p ∈ s.G ++ [w] at hp
    change x ∈ s.S ++ [w] at hx
    change set s.found w (s.clock + 1) p ≤ set s.found w (s.clock + 1) x at hle
    change k < set s.idx v (s.idx v + 1) x at hky
    change set s.held w true y = true at hhy
    show set s.low w (s.clock + 1) p ≤ set s.found w (s.clock + 1) y
    rcases List.mem_append.1 hp with hp | hp
    · have hpS := h.gS p hp
      have hpw : p ≠ w := hwn p (h.fS hpS)
      have hxlt : set s.found w (s.clock + 1) x < set s.found w (s.clock + 1) w := hseg w (List.mem_append.2 (.inr (by simp))) (by show set s.found w (s.clock + 1) p < set s.found w (s.clock + 1) w; rw [hfw, hfS p hpS]; have := h.clk p; omega)
      rcases List.mem_append.1 hx with hx | hx
      · rw [hfS p hpS, hfS x hx] at hle
        have hseg' : ∀ q, q ∈ s.G → s.found p < s.found q → s.found x < s.found q := fun q hq hlt => by
          have := hseg q (List.mem_append.2 (.inl hq)) (by show set s.found w (s.clock + 1) p < set s.found w (s.clock + 1) q; rw [hfS p hpS, hfS q (h.gS q hq)]; exact hlt)
          change set s.found w (s.clock + 1) x < set s.found w (s.clock + 1) q at this
          rwa [hfS x hx, hfS q (h.gS q hq)] at this
        rw [set_other _ _ hpw]
        by_cases ey : y = w
        · rw [ey, hfw]
          have := (h.l1 p hpS).1
          have := h.clk p
          omega
        · rw [hfne y ey]
          rw [set_other _ _ ey] at hhy
          by_cases ex : x = v
          · subst ex
            rw [set_same] at hky
            by_cases ek : k = s.idx x
            · subst ek; rw [hk] at hy; cases hy; exact absurd rfl ey
            · exact h.l2 p hp x hx hle hseg' k y (by omega) hy hhy
          · rw [set_other _ _ ex] at hky
            exact h.l2 p hp x hx hle hseg' k y hky hy hhy
      · simp at hx
        rw [hx] at hxlt; omega
    · simp at hp
      rcases List.mem_append.1 hx with hx | hx
      · rw [hp, hfw, hfS x hx] at hle; have := h.clk x; omega
      · simp at hx
        rw [hx, set_other _ _ (fun e => hvw e.symm), h.i0 w h0] at hky; omega
  · intro x hx hh
    change set s.found w (s.clock + 1) x ≠ 0 at hx
    change set s.held w true x = false at hh
    have e : x ≠ w := fun e => by rw [e, set_same] at hh; cases hh
    rw [hfne x e] at hx
    rw [set_other _ _ e] at hh
    exact h.rs x hx hh

/-! #### An edge to a vertex that has been found -/
def TS.lowTo (s : TS) (v x : Nat) : TS := { s with low := set s.low v (min (s.low v) x) }

theorem look_done (h : TInv g s) {G' : List Nat} {v w : Nat} (hG : s.G = G' ++ [v]) (hk : (g.nx v)[s.idx v]? = some w) (hw : s.found w ≠ 0) (hh : s.held w = false) : TInv g (s.bump v) := by
  have hvG : v ∈ s.G := by rw [hG]; simp
  have hvf := h.fS (h.gS v hvG)
  have hin : s.idx v < (g.nx v).length := (List.getElem?_eq_some_iff.1 hk).1
  refine ⟨h.clk, h.inj, h.lt, h.cnt, h.mem, h.hf, h.sS, h.gS, h.sG, ?_, ?_, ?_, ?_, h.dn, h.i1, h.i2, h.l1, ?_, h.rs⟩
  · intro u
    show set s.idx v (s.idx v + 1) u ≤ _
    by_cases e : u = v
    · subst e; rw [set_same]; omega
    · rw [set_other _ _ e]; exact h.il u
  · intro u hu
    show set s.idx v (s.idx v + 1) u = 0
    have e2 : u ≠ v := fun e => hvf (by rw [← e]; exact hu)
    rw [set_other _ _ e2]; exact h.i0 u hu
  · intro u hu k x hku hx
    change k < set s.idx v (s.idx v + 1) u at hku
    show s.found x ≠ 0
    by_cases e : u = v
    · subst e
      rw [set_same] at hku
      by_cases ek : k = s.idx u
      · subst ek; rw [hk] at hx; cases hx; exact hw
      · exact h.ex u hvf k x (by omega) hx
    · rw [set_other _ _ e] at hku; exact h.ex u hu k x hku hx
  · intro u hu hg
    show set s.idx v (s.idx v + 1) u = _
    have e2 : u ≠ v := fun e => hg (by rw [e]; exact hvG)
    rw [set_other _ _ e2]; exact h.bl u hu hg
  · intro p hp x hx hle hseg k y hky hy hhy
    change k < set s.idx v (s.idx v + 1) x at hky
    by_cases ex : x = v
    · subst ex
      rw [set_same] at hky
      by_cases ek : k = s.idx x
      · subst ek; rw [hk] at hy
        have e := Option.some.inj hy
        rw [← e] at hhy
        change s.held w = true at hhy
        rw [hh] at hhy; cases hhy
      · exact h.l2 p hp x hx hle hseg k y (by omega) hy hhy
    · rw [set_other _ _ ex] at hky
      exact h.l2 p hp x hx hle hseg k y hky hy hhy

theorem look_held (h : TInv g s) {G' : List Nat} {v w : Nat} (hG : s.G = G' ++ [v]) (hk : (g.nx v)[s.idx v]? = some w) (hh : s.held w = true) : TInv g ((s.bump v).lowTo v (s.found w)) := by
  have hvG : v ∈ s.G := by rw [hG]; simp
  have hvS := h.gS v hvG
  have hvf := h.fS hvS
  have hw := h.hf w hh
  have hwS := (h.mem w).2 hh
  have hEd : g.E v w := ⟨h.lt v hvf, List.mem_of_getElem? hk⟩
  have hin : s.idx v < (g.nx v).length := (List.getElem?_eq_some_iff.1 hk).1
  refine ⟨h.clk, h.inj, h.lt, h.cnt, h.mem, h.hf, h.sS, h.gS, h.sG, ?_, ?_, ?_, ?_, h.dn, h.i1, h.i2, ?_, ?_, h.rs⟩
  · intro u
    show set s.idx v (s.idx v + 1) u ≤ _
    by_cases e : u = v
    · subst e; rw [set_same]; omega
    · rw [set_other _ _ e]; exact h.il u
  · intro u hu
    show set s.idx v (s.idx v + 1) u = 0
    have e2 : u ≠ v := fun e => hvf (by rw [← e]; exact hu)
    rw [set_other _ _ e2]; exact h.i0 u hu
  · intro u hu k x hku hx
    change k < set s.idx v (s.idx v + 1) u at hku
    show s.found x ≠ 0
    by_cases e : u = v
    · subst e
      rw [set_same] at hku
      by_cases ek : k = s.idx u
      · subst ek; rw [hk] at hx; cases hx; exact hw
      · exact h.ex u hvf k x (by omega) hx
    · rw [set_other _ _ e] at hku; exact h.ex u hu k x hku hx
  · intro u hu hg
    show set s.idx v (s.idx v + 1) u = _
    have e2 : u ≠ v := fun e => hg (by rw [e]; exact hvG)
    rw [set_other _ _ e2]; exact h.bl u hu hg
  · intro x hx
    obtain ⟨hle, u, hu, hfu, hr⟩ := h.l1 x hx
    by_cases e : x = v
    · subst e
      refine ⟨?_, ?_⟩
      · show set s.low x (min (s.low x) (s.found w)) x ≤ s.found x
        rw [set_same]; exact Nat.le_trans (Nat.min_le_left _ _) hle
      · by_cases hm : s.low x ≤ s.found w
        · refine ⟨u, hu, ?_, hr⟩
          show s.found u = set s.low x (min (s.low x) (s.found w)) x
          rw [set_same, Nat.min_eq_left hm]; exact hfu
        · refine ⟨w, hwS, ?_, Gr.R.edge hEd⟩
          show s.found w = set s.low x (min (s.low x) (s.found w)) x
          rw [set_same, Nat.min_eq_right (by omega)]
    · refine ⟨?_, u, hu, ?_, hr⟩
      · show set s.low v (min (s.low v) (s.found w)) x ≤ s.found x
        rw [set_other _ _ e]; exact hle
      · show s.found u = set s.low v (min (s.low v) (s.found w)) x
        rw [set_other _ _ e]; exact hfu
  · intro p hp x hx hle hseg k y hky hy hhy
    change k < set s.idx v (s.idx v + 1) x at hky
    show set s.low v (min (s.low v) (s.found w)) p ≤ s.found y
    have hlp : set s.low v (min (s.low v) (s.found w)) p ≤ s.low p := by
      by_cases e : p = v
      · subst e; rw [set_same]; exact Nat.min_le_left _ _
      · rw [set_other _ _ e]; exact Nat.le_refl _
    by_cases ex : x = v
    · subst ex
      rw [set_same] at hky
      by_cases ek : k = s.idx x
      · subst ek; rw [hk] at hy; cases hy
        have hpx : p = x := by
          rcases h.top hG hp with e | ⟨_, e⟩
          · exact e
          · have := hseg x hvG e
            change s.found x < s.found x at this; omega
        subst hpx
        rw [set_same]; exact Nat.min_le_right _ _
      · exact Nat.le_trans hlp (h.l2 p hp x hx hle hseg k y (by omega) hy hhy)
    · rw [set_other _ _ ex] at hky
      exact Nat.le_trans hlp (h.l2 p hp x hx hle hseg k y hky hy hhy)

/-! #### A vertex whose edges have all been followed -/
/-- What is handed on to the vertex below. -/
def TS.lowG (s : TS) (G' : List Nat) (v : Nat) : Nat → Nat := match G'.getLast? with | none => s.low | some u => set s.low u (min (s.low u) (s.low v))
def TS.fin (s : TS) (G' : List Nat) (v : Nat) : TS := { s with G := G', low := s.lowG G' v }

theorem lowG_snoc (s : TS) (G'' : List Nat) (u v : Nat) : s.lowG (G'' ++ [u]) v = set s.low u (min (s.low u) (s.low v)) := by simp [TS.lowG]
theorem lowG_nil (s : TS) (v : Nat) : s.lowG [] v = s.low := by simp [TS.lowG]

theorem snoc_cases (l : List Nat) : l = [] ∨ ∃ l' u, l = l' ++ [u] := by
  by_cases h : l = []
  · exact .inl h
  · exact .inr ⟨l.dropLast, l.getLast h, (List.dropLast_concat_getLast h).symm⟩

theorem lowG_le (s : TS) (G' : List Nat) (v p : Nat) : s.lowG G' v p ≤ s.low p := by
  rcases snoc_cases G' with rfl | ⟨G'', u, rfl⟩
  · rw [lowG_nil]; exact Nat.le_refl _
  · rw [lowG_snoc]
    by_cases e : p = u
    · subst e; rw [set_same]; exact Nat.min_le_left _ _
    · rw [set_other _ _ e]; exact Nat.le_refl _

theorem fin_keep (h : TInv g s) {G' : List Nat} {v : Nat} (hG : s.G = G' ++ [v]) (hidx : s.idx v = (g.nx v).length) (hne : s.low v ≠ s.found v) : TInv g (s.fin G' v) := by
  have hvG : v ∈ s.G := by rw [hG]; simp
  have hvS := h.gS v hvG
  have hvf := h.fS hvS
  have hsub : ∀ p, p ∈ G' → p ∈ s.G := fun p hp => by rw [hG]; exact List.mem_append.2 (.inl hp)
  have hsG := h.sG
  rw [hG, List.pairwise_append] at hsG
  have hltv : ∀ p, p ∈ G' → s.found p < s.found v := fun p hp => hsG.2.2 p hp v (by simp)
  obtain ⟨hlv, uu, huu, hfuu, hruu⟩ := h.l1 v hvS
  have hi1 : ∀ x, x ∈ s.S → ∃ p, p ∈ G' ∧ s.found p ≤ s.found x ∧ g.R x p := by
    intro x hx
    obtain ⟨p, hp, hle, hr⟩ := h.i1 x hx
    rcases h.top hG hp with e | ⟨hp', _⟩
    · obtain ⟨p', hp', hle', hr'⟩ := h.i1 uu huu
      have hlt : s.found p' < s.found v := by omega
      rcases h.top hG hp' with e' | ⟨hp'', _⟩
      · rw [e'] at hlt; omega
      · rw [e] at hle hr
        exact ⟨p', hp'', by omega, (hr.trans hruu).trans hr'⟩
    · exact ⟨p, hp', hle, hr⟩
  refine ⟨h.clk, h.inj, h.lt, h.cnt, h.mem, h.hf, h.sS, fun p hp => h.gS p (hsub p hp), hsG.1, h.il, h.i0, h.ex, ?_, h.dn, hi1, fun p hp => h.i2 p (hsub p hp), ?_, ?_, h.rs⟩
  · intro u hu hg
    by_cases e : u = v
    · rw [e]; exact hidx
    · exact h.bl u hu (fun hh => by
        rcases h.top hG hh with e' | ⟨hp', _⟩
        · exact e e'
        · exact hg hp')
  · intro x hx
    obtain ⟨hle, u, hu, hfu, hr⟩ := h.l1 x hx
    refine ⟨Nat.le_trans (lowG_le s G' v x) hle, ?_⟩
    show ∃ u, u ∈ s.S ∧ s.found u = s.lowG G' v x ∧ g.R x u
    rcases snoc_cases G' with rfl | ⟨G'', t, rfl⟩
    · rw [lowG_nil]; exact ⟨u, hu, hfu, hr⟩
    · rw [lowG_snoc]
      by_cases e : x = t
      · subst e
        rw [set_same]
        by_cases hm : s.low x ≤ s.low v
        · rw [Nat.min_eq_left hm]; exact ⟨u, hu, hfu, hr⟩
        · rw [Nat.min_eq_right (by omega)]
          have hxG : x ∈ G'' ++ [x] := by simp
          have hxv := h.i2 x (hsub x hxG) v hvS (by have := hltv x hxG; omega)
          exact ⟨uu, huu, hfuu, hxv.trans hruu⟩
      · rw [set_other _ _ e]; exact ⟨u, hu, hfu, hr⟩
  · intro p hp x hx hle hseg k y hky hy hhy
    change p ∈ G' at hp
    show s.lowG G' v p ≤ s.found y
    rcases snoc_cases G' with rfl | ⟨G'', t, rfl⟩
    · cases hp
    · have htG : t ∈ G'' ++ [t] := by simp
      have htv := hltv t htG
      rw [List.pairwise_append] at hsG
      by_cases hxv : s.found x < s.found v
      · refine Nat.le_trans (lowG_le s _ v p) (h.l2 p (hsub p hp) x hx hle (fun q hq hlt => ?_) k y hky hy hhy)
        rcases h.top hG hq with e | ⟨hq', _⟩
        · rw [e]; exact hxv
        · exact hseg q hq' hlt
      · have hpt : p = t := by
          rcases List.mem_append.1 hp with hp' | hp'
          · have h1 := hsG.1.2.2 p hp' t (by simp)
            have h2 := hseg t htG h1
            change s.found x < s.found t at h2; omega
          · simpa using hp'
        rw [hpt, lowG_snoc, set_same]
        refine Nat.le_trans (Nat.min_le_right _ _) (h.l2 v hvG x hx (by omega) (fun q hq hlt => ?_) k y hky hy hhy)
        rcases h.top hG hq with e | ⟨_, hq'⟩
        · rw [e] at hlt; omega
        · omega

/-- The component is taken off. -/
def TS.pop (s : TS) (G' : List Nat) (v : Nat) (A B : List Nat) : TS :=
  { s.fin G' v with S := A, held := fun x => if x ∈ v :: B then false else s.held x, res := fun x => if x ∈ v :: B then decide (1 < (v :: B).length) else s.res x }

theorem fin_pop (hwf : g.wf) (h : TInv g s) {G' : List Nat} {v : Nat} (hG : s.G = G' ++ [v]) (hidx : s.idx v = (g.nx v).length) (he : s.low v = s.found v) {A B : List Nat} (hS : s.S = A ++ v :: B) : TInv g (s.pop G' v A B) := by
  have hvG : v ∈ s.G := by rw [hG]; simp
  have hvS := h.gS v hvG
  have hvf := h.fS hvS
  have hvh := h.heldS hvS
  have hsub : ∀ p, p ∈ G' → p ∈ s.G := fun p hp => by rw [hG]; exact List.mem_append.2 (.inl hp)
  have hsG := h.sG
  rw [hG, List.pairwise_append] at hsG
  have hltv : ∀ p, p ∈ G' → s.found p < s.found v := fun p hp => hsG.2.2 p hp v (by simp)
  have hsS := h.sS
  rw [hS, List.pairwise_append] at hsS
  have hA : ∀ x, x ∈ A → s.found x < s.found v := fun x hx => hsS.2.2 x hx v (by simp)
  have hB : ∀ x, x ∈ v :: B → s.found v ≤ s.found x := fun x hx => by
    rcases List.mem_cons.1 hx with rfl | hx
    · exact Nat.le_refl _
    · have := (List.pairwise_cons.1 hsS.2.1).1 x hx; omega
  have hAS : ∀ x, x ∈ A → x ∈ s.S := fun x hx => by rw [hS]; exact List.mem_append.2 (.inl hx)
  have hBS : ∀ x, x ∈ v :: B → x ∈ s.S := fun x hx => by rw [hS]; exact List.mem_append.2 (.inr hx)
  have hAB : ∀ x, x ∈ A → x ∉ v :: B := fun x hx hb => by have := hA x hx; have := hB x hb; omega
  have hof : ∀ x, x ∈ s.S → x ∈ A ∨ x ∈ v :: B := fun x hx => by rw [hS] at hx; exact List.mem_append.1 hx
  have hhd : ∀ x, (if x ∈ v :: B then false else s.held x) = true ↔ x ∈ A := fun x => by
    by_cases hb : x ∈ v :: B
    · rw [if_pos hb]; exact ⟨fun h => (by cases h), fun ha => absurd hb (hAB x ha)⟩
    · rw [if_neg hb, ← h.mem x]
      exact ⟨fun hx => (hof x hx).elim id (fun h => absurd h hb), hAS x⟩
  have hhf : ∀ x, (if x ∈ v :: B then false else s.held x) = false ↔ x ∉ A := fun x => by
    rw [← Bool.not_eq_true, hhd]
  -- the whole of it leads to the whole of it
  have hmut : ∀ a, a ∈ v :: B → ∀ b, b ∈ v :: B → g.R a b := fun a ha b hb => by
    obtain ⟨p, hp, _, hr⟩ := h.i1 a (hBS a ha)
    refine hr.trans (h.i2 p hp b (hBS b hb) ?_)
    have := hB b hb
    rcases h.top hG hp with e | ⟨_, e⟩
    · rw [e]; exact this
    · omega
  have hblk : ∀ x, x ∈ v :: B → s.idx x = (g.nx x).length := fun x hx => by
    by_cases e : x = v
    · rw [e]; exact hidx
    · refine h.bl x (h.fS (hBS x hx)) (fun hg => ?_)
      rcases h.top hG hg with e' | ⟨hp', e'⟩
      · exact e e'
      · have := hB x hx; omega
  have hcl : ∀ x, x ∈ v :: B → ∀ w, w ∈ g.nx x → w ∉ A := fun x hx w hw ha => by
    obtain ⟨k, hk, hwk⟩ := mem_idx hw
    have := h.l2 v hvG x (hBS x hx) (hB x hx) (fun q hq hlt => by
      rcases h.top hG hq with e | ⟨_, e⟩
      · rw [e] at hlt; omega
      · omega) k w (by rw [hblk x hx]; exact hk) hwk (h.heldS (hAS w ha))
    have := hA w ha
    omega
  refine ⟨h.clk, h.inj, h.lt, h.cnt, fun x => (hhd x).symm, fun x hx => h.fS (hAS x ((hhd x).1 hx)), hsS.1, ?_, hsG.1, h.il, h.i0, h.ex, ?_, ?_, ?_, ?_, ?_, ?_, ?_⟩
  · intro p hp
    rcases hof p (h.gS p (hsub p hp)) with h1 | h1
    · exact h1
    · have := hB p h1; have := hltv p hp; omega
  · intro u hu hg
    by_cases e : u = v
    · rw [e]; exact hidx
    · exact h.bl u hu (fun hh => by
        rcases h.top hG hh with e' | ⟨hp', _⟩
        · exact e e'
        · exact hg hp')
  · intro x hx hh w hw
    show (if w ∈ v :: B then false else s.held w) = false
    rw [hhf]
    change (if x ∈ v :: B then false else s.held x) = false at hh
    by_cases hb : x ∈ v :: B
    · exact hcl x hb w hw
    · rw [if_neg hb] at hh
      intro ha
      have h1 := h.dn x hx hh w hw
      have h2 := h.heldS (hAS w ha)
      rw [h1] at h2; cases h2
  · intro x hx
    change x ∈ A at hx
    obtain ⟨p, hp, hle, hr⟩ := h.i1 x (hAS x hx)
    rcases h.top hG hp with e | ⟨hp', _⟩
    · rw [e] at hle; have := hA x hx; omega
    · exact ⟨p, hp', hle, hr⟩
  · intro p hp y hy hle
    exact h.i2 p (hsub p hp) y (hAS y hy) hle
  · intro x hx
    change x ∈ A at hx
    obtain ⟨hle, u, hu, hfu, hr⟩ := h.l1 x (hAS x hx)
    have hlx : s.lowG G' v x = s.low x := by
      rcases snoc_cases G' with rfl | ⟨G'', t, rfl⟩
      · rw [lowG_nil]
      · rw [lowG_snoc]
        by_cases e : x = t
        · subst e; rw [set_same, Nat.min_eq_left]; have := hA x hx; omega
        · rw [set_other _ _ e]
    refine ⟨?_, u, ?_, ?_, hr⟩
    · show s.lowG G' v x ≤ s.found x; rw [hlx]; exact hle
    · show u ∈ A
      rcases hof u hu with h1 | h1
      · exact h1
      · have := hB u h1; have := hA x hx; omega
    · show s.found u = s.lowG G' v x; rw [hlx]; exact hfu
  · intro p hp x hx hle hseg k y hky hy hhy
    change p ∈ G' at hp
    change x ∈ A at hx
    change (if y ∈ v :: B then false else s.held y) = true at hhy
    show s.lowG G' v p ≤ s.found y
    refine Nat.le_trans (lowG_le s _ v p) (h.l2 p (hsub p hp) x (hAS x hx) hle (fun q hq hlt => ?_) k y hky hy (h.heldS (hAS y ((hhd y).1 hhy))))
    rcases h.top hG hq with e | ⟨hq', _⟩
    · rw [e]; exact hA x hx
    · exact hseg q hq' hlt
  · intro x hx hh
    change (if x ∈ v :: B then false else s.held x) = false at hh
    show (if x ∈ v :: B then decide (1 < (v :: B).length) else s.res x) = true ↔ g.OnC x
    by_cases hb : x ∈ v :: B
    · rw [if_pos hb]
      have hnd : ∀ y, y ∈ B → y ≠ v := fun y hy e => by have := (List.pairwise_cons.1 hsS.2.1).1 y hy; rw [e] at this; omega
      match B, hb, hmut, hcl, hnd, hhd, hof with
      | [], hb, hmut, hcl, hnd, hhd, hof =>
        simp at hb
        subst hb
        refine ⟨fun h => by simp at h, fun ⟨w, hE, hr⟩ => ?_⟩
        have hwx : w ≠ x := (hwf x hE.1 w hE.2).2
        have hwv : s.found w ≠ 0 := by
          obtain ⟨k, hk, hwk⟩ := mem_idx hE.2
          exact h.ex x hvf k w (by rw [hidx]; exact hk) hwk
        have hwh : s.held w = false := by
          cases hh : s.held w with
          | false => rfl
          | true =>
            rcases hof w ((h.mem w).2 hh) with h1 | h1
            · exact absurd h1 (hcl x (by simp) w hE.2)
            · simp at h1; exact absurd h1 hwx
        have hz := hr (fun z => s.found z ≠ 0 ∧ s.held z = false) ⟨hwv, hwh⟩ (fun a b ha hab => ⟨h.doneVis ha.1 ha.2 hab.2, h.dn a ha.1 ha.2 b hab.2⟩)
        rw [hvh] at hz; exact absurd hz.2 (by simp)
      | y :: ys, hb, hmut, hcl, hnd, hhd, hof =>
        refine ⟨fun _ => ?_, fun _ => by simp⟩
        by_cases e : x = v
        · have hyv := hnd y (by simp)
          rw [e]
          exact Gr.onC_of (fun h => hyv h.symm) (hmut v (by simp) y (by simp)) (hmut y (by simp) v (by simp))
        · exact Gr.onC_of e (hmut x hb v (by simp)) (hmut v (by simp) x hb)
    · rw [if_neg hb]
      rw [if_neg hb] at hh
      exact h.rs x hx hh

/-! #### How much is left to do -/
def TS.left (g : Gr) (s : TS) : Nat := sumTo g.n (fun v => (g.nx v).length - s.idx v + (if s.found v ≠ 0 ∧ v ∉ s.G then 0 else 1))

theorem bump_left (h : TInv g s) {v w : Nat} (hv : v ∈ s.G) (hk : (g.nx v)[s.idx v]? = some w) : (s.bump v).left g < s.left g := by
  have hin : s.idx v < (g.nx v).length := (List.getElem?_eq_some_iff.1 hk).1
  refine sumTo_lt (fun u _ => ?_) (h.lt v (h.fS (h.gS v hv))) ?_
  · show (g.nx u).length - set s.idx v (s.idx v + 1) u + (if s.found u ≠ 0 ∧ u ∉ s.G then 0 else 1) ≤ (g.nx u).length - s.idx u + (if s.found u ≠ 0 ∧ u ∉ s.G then 0 else 1)
    by_cases e : u = v
    · subst e; rw [set_same]; omega
    · rw [set_other _ _ e]; exact Nat.le_refl _
  · show (g.nx v).length - set s.idx v (s.idx v + 1) v + (if s.found v ≠ 0 ∧ v ∉ s.G then 0 else 1) < (g.nx v).length - s.idx v + (if s.found v ≠ 0 ∧ v ∉ s.G then 0 else 1)
    rw [set_same]; omega

theorem lowTo_left (v x : Nat) : (s.lowTo v x).left g = s.left g := rfl

theorem push_left {w : Nat} (h0 : s.found w = 0) : (s.push w).left g = s.left g := by
  refine sumTo_congr (fun u _ => ?_)
  show (g.nx u).length - s.idx u + (if set s.found w (s.clock + 1) u ≠ 0 ∧ u ∉ s.G ++ [w] then 0 else 1) = (g.nx u).length - s.idx u + (if s.found u ≠ 0 ∧ u ∉ s.G then 0 else 1)
  by_cases e : u = w
  · subst e; simp [h0]
  · rw [set_other _ _ e]; simp [e]

theorem fin_left (h : TInv g s) {G' : List Nat} {v : Nat} (hG : s.G = G' ++ [v]) : (s.fin G' v).left g < s.left g := by
  have hvG : v ∈ s.G := by rw [hG]; simp
  have hvf := h.fS (h.gS v hvG)
  have hsG := h.sG
  rw [hG, List.pairwise_append] at hsG
  have hnv : v ∉ G' := fun hh => by have := hsG.2.2 v hh v (by simp); omega
  refine sumTo_lt (fun u _ => ?_) (h.lt v hvf) ?_
  · show (g.nx u).length - s.idx u + (if s.found u ≠ 0 ∧ u ∉ G' then 0 else 1) ≤ (g.nx u).length - s.idx u + (if s.found u ≠ 0 ∧ u ∉ s.G then 0 else 1)
    by_cases hu : s.found u ≠ 0 ∧ u ∉ s.G
    · rw [if_pos hu, if_pos ⟨hu.1, fun hh => hu.2 (by rw [hG]; exact List.mem_append.2 (.inl hh))⟩]; exact Nat.le_refl _
    · rw [if_neg hu]; split <;> omega
  · show (g.nx v).length - s.idx v + (if s.found v ≠ 0 ∧ v ∉ G' then 0 else 1) < (g.nx v).length - s.idx v + (if s.found v ≠ 0 ∧ v ∉ s.G then 0 else 1)
    rw [if_pos ⟨hvf, hnv⟩, if_neg (fun hh => hh.2 hvG)]; omega

theorem pop_left {G' : List Nat} {v : Nat} {A B : List Nat} : (s.pop G' v A B).left g = (s.fin G' v).left g := rfl

/-- Before anything has been found. -/
def TS.start : TS := { found := fun _ => 0, low := fun _ => 0, held := fun _ => false, res := fun _ => false, idx := fun _ => 0, S := [], G := [], clock := 0 }

theorem sumTo_zero (n : Nat) : sumTo n (fun _ => 0) = 0 := by
  induction n with
  | zero => rfl
  | succ n ih => simp only [sumTo, ih]

theorem start_inv (g : Gr) : TInv g TS.start := by
  refine ⟨fun _ => Nat.le_refl _, fun u v hu => absurd rfl hu, fun v hv => absurd rfl hv, ?_, fun v => ⟨fun h => (by cases h), fun h => (by cases h)⟩, fun v h => (by cases h), List.Pairwise.nil, fun v h => (by cases h), List.Pairwise.nil,
    fun v => Nat.zero_le _, fun _ _ => rfl, fun v hv => absurd rfl hv, fun v hv => absurd rfl hv, fun v hv => absurd rfl hv, fun x h => (by cases h), fun p h => (by cases h), fun x h => (by cases h), fun p h => (by cases h), fun x hx => absurd rfl hx⟩
  show sumTo g.n (fun v => if (0 : Nat) = 0 then 0 else 1) = 0
  simp only [if_true]
  exact sumTo_zero g.n

/-- At the end. -/
theorem TInv.result (h : TInv g s) (hG : s.G = []) (hall : ∀ v, v < g.n → s.found v ≠ 0) {v : Nat} (hv : v < g.n) : s.res v = true ↔ g.OnC v := by
  refine h.rs v (hall v hv) ?_
  cases hh : s.held v with
  | false => rfl
  | true => have := (h.mem v).2 hh; rw [h.S_nil hG] at this; cases this
end
end Go.Proofs.Qxb6601852a
