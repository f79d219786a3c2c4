import Derived.Test.Qxb6601852aBase
import Derived.Test.Qxb6601852aTarjan
import Derived.Deep.AppendLies
namespace Go.Proofs.Qxb6601852a
open Go.RowKit

theorem Try.info4 : (Try.prog.info? 4).map (fun i => (i.zero, i.size, i.bytes)) = some (some (.bool false), 1, 1) := by kernel_rfl
theorem Try.info42 : (Try.prog.info? 42).map (fun i => (i.zero, i.size, i.bytes)) = some (some (.agg #[.int .i64 0, .int .i64 0]), 2, 16) := by kernel_rfl

/-- A vertex as a value. -/
def nv (v : Nat) : Value := .int .i64 (v : Int)

/-- A graph that can be read: row v holds the successors of v. -/
def Graph (w : World) (ad : Option Addr) (g : Gr) : Prop :=
  g.n ≤ 4096 ∧ (∀ v, v < g.n → (g.nx v).length ≤ 131072) ∧ (0 < g.n → ∃ b off, ad = some ⟨b, off, none⟩ ∧ b < w.heap.size ∧ ∀ v, v < g.n → ∃ ra rc, w.cell? ⟨b, off + v, none⟩ = some (.slice ra (g.nx v).length rc) ∧ Ints w ra (g.nx v).length (fun k => (((g.nx v).getD k 0 : Nat) : Int)))

theorem Graph.below {B : Nat} {w w' : World} {ad : Option Addr} {g : Gr} (h : Graph w ad g) (hb : Below B w w') (hB : w.heap.size ≤ B) : Graph w' ad g := by
  refine ⟨h.1, h.2.1, fun hn => ?_⟩
  obtain ⟨b, off, rfl, hlt, hc⟩ := h.2.2 hn
  have := hb.size
  refine ⟨b, off, rfl, by omega, fun v hv => ?_⟩
  obtain ⟨ra, rc, h1, h2⟩ := hc v hv
  exact ⟨ra, rc, (hb.cell (p := ⟨b, off + v, none⟩) (by show b < B; omega)).trans h1, h2.below hb hB⟩

/-- The path's frames, cell by cell. -/
def frames (idx : Nat → Nat) (G : List Nat) : List Value := G.flatMap (fun v => [nv v, nv (idx v)])

theorem frames_len (idx : Nat → Nat) (G : List Nat) : (frames idx G).length = G.length * 2 := by
  induction G with
  | nil => rfl
  | cons x xs ih => simp only [frames, List.flatMap_cons, List.length_append, List.length_cons, List.length_nil] at *; omega

theorem frames_append (idx : Nat → Nat) (G G2 : List Nat) : frames idx (G ++ G2) = frames idx G ++ frames idx G2 := by simp [frames]

theorem frames_congr {idx idx' : Nat → Nat} {G : List Nat} (h : ∀ v, v ∈ G → idx v = idx' v) : frames idx G = frames idx' G := by
  induction G with
  | nil => rfl
  | cons x xs ih =>
    have := ih (fun v hv => h v (by simp [hv]))
    simp only [frames, List.flatMap_cons] at *
    rw [this, h x (by simp)]

theorem frames_bump (idx : Nat → Nat) (G' : List Nat) (v k : Nat) (hv : v ∉ G') : (frames idx (G' ++ [v])).set (G'.length * 2 + 1) (nv k) = frames (set idx v k) (G' ++ [v]) := by
  rw [frames_append, frames_append, List.set_append_right _ _ (by rw [frames_len]; omega), frames_len]
  have e : G'.length * 2 + 1 - G'.length * 2 = 1 := by omega
  rw [e, frames_congr (fun u hu => (set_other idx k (fun h : u = v => hv (h ▸ hu))).symm)]
  simp [frames, set_same]

/-- The search's arrays and stack (the path aside). -/
structure TArr (n H : Nat) (W : World) (s : TS) (sv : Value) (X : World) : Prop where
  found : X.rowIs H 3 n (fun v => nv (s.found v))
  low : X.rowIs (H + 1) 3 n (fun v => nv (s.low v))
  held : X.rowIs (H + 2) 4 n (fun v => .bool (s.held v))
  res : X.rowIs (H + 3) 4 n (fun v => .bool (s.res v))
  stack : X.ownsRow (H + 4) 3 1 sv s.S.length (s.S.map nv)
  below : Below H W X
  size : H + 4 ≤ X.heap.size

/-- .. with the path. -/
structure TMem (n H : Nat) (W : World) (s : TS) (sv pv : Value) (X : World) : Prop extends TArr n H W s sv X where
  path : X.ownsRow (H + 4) 42 2 pv s.G.length (frames s.idx s.G)
  apart : ∀ k, sv.ownBlock = some k → pv.ownBlock ≠ some k

section
variable {n H : Nat} {W X X' : World} {s : TS} {sv pv : Value}

theorem rowIs_grown {b : Nat} {t : TypeId} {m : Nat} {f : Nat → Value} {row : Option Nat} (h : X.rowIs b t m f) (hg : X.grownBy X' row) (hne : some b ≠ row) : X'.rowIs b t m f := h.of_block (hg.block b h.lt hne)

theorem row_lo {base : Nat} {e : TypeId} {size : Nat} {v : Value} {m : Nat} {xs : List Value} (h : X.ownsRow base e size v m xs) {b : Nat} (hb : b < base) : some b ≠ v.ownBlock := fun e => by
  have := (h.lt b e.symm).1; omega

/-- Whatever grows but one row of the call's own: the arrays stay. -/
theorem TArr.grown (h : TArr n H W s sv X) {row : Option Nat} (hg : X.grownBy X' row) (hr : ∀ k, row = some k → H + 4 ≤ k) {s' : TS} {sv' : Value} (hf : s'.found = s.found) (hl : s'.low = s.low) (hh : s'.held = s.held) (hrs : s'.res = s.res)
    (hst : X'.ownsRow (H + 4) 3 1 sv' s'.S.length (s'.S.map nv)) : TArr n H W s' sv' X' := by
  have ne : ∀ b, b < H + 4 → some b ≠ row := fun b hb e => by have := hr b e.symm; omega
  refine ⟨?_, ?_, ?_, ?_, hst, h.below.grown hg (by have := h.size; omega) (fun k hk => by have := hr k hk; omega), Nat.le_trans h.size hg.size⟩
  · rw [hf]; exact rowIs_grown h.found hg (ne _ (by omega))
  · rw [hl]; exact rowIs_grown h.low hg (ne _ (by omega))
  · rw [hh]; exact rowIs_grown h.held hg (ne _ (by omega))
  · rw [hrs]; exact rowIs_grown h.res hg (ne _ (by omega))

theorem TArr.alloc (h : TArr n H W s sv X) (o : Obj) : TArr n H W s sv (X.alloc o) :=
  h.grown (World.grownBy_alloc X o none) (fun k hk => by cases hk) rfl rfl rfl rfl (h.stack.alloc o)

theorem TMem.alloc (h : TMem n H W s sv pv X) (o : Obj) : TMem n H W s sv pv (X.alloc o) :=
  ⟨h.toTArr.alloc o, h.path.alloc o, h.apart⟩

theorem TArr.drew (h : TArr n H W s sv X) : TArr n H W s sv X.drew := ⟨h.found, h.low, h.held, h.res, h.stack, h.below.drew, h.size⟩
theorem TMem.drew (h : TMem n H W s sv pv X) : TMem n H W s sv pv X.drew := ⟨h.toTArr.drew, h.path, h.apart⟩

/-- The stack has been appended to. -/
theorem TMem.stackTo (h : TMem n H W s sv pv X) {sv' : Value} {S' : List Nat} (hg : X.grownBy X' sv.ownBlock) (hst : X'.ownsRow (H + 4) 3 1 sv' S'.length (S'.map nv)) (hat : sv'.ownBlock = sv.ownBlock ∨ ∃ k, sv'.ownBlock = some k ∧ X.heap.size ≤ k) :
    TMem n H W { s with S := S' } sv' pv X' := by
  refine ⟨h.toTArr.grown hg (fun k hk => (h.stack.lt k hk).1) rfl rfl rfl rfl hst, h.path.kept hg ?_, fun k hk hp => ?_⟩
  · cases hb : sv.ownBlock with
    | none => cases hp : pv.ownBlock <;> simp
    | some k => exact .inr (h.apart k hb)
  · rcases hat with ha | ⟨k2, ha, hk2⟩
    · rw [ha] at hk; exact h.apart k hk hp
    · rw [ha] at hk; cases hk
      have := (h.path.lt k hp).2
      omega

/-- The path has been appended to. -/
theorem TMem.pathTo (h : TMem n H W s sv pv X) {pv' : Value} {G' : List Nat} {idx' : Nat → Nat} (hg : X.grownBy X' pv.ownBlock) (hst : X'.ownsRow (H + 4) 42 2 pv' G'.length (frames idx' G')) (hat : pv'.ownBlock = pv.ownBlock ∨ ∃ k, pv'.ownBlock = some k ∧ X.heap.size ≤ k) :
    TMem n H W { s with G := G', idx := idx' } sv pv' X' := by
  have hkeep : X'.ownsRow (H + 4) 3 1 sv s.S.length (s.S.map nv) := by
    refine h.stack.kept hg ?_
    cases hb : sv.ownBlock with
    | none => exact .inl rfl
    | some k => exact .inr (fun e => h.apart k hb e.symm)
  refine ⟨h.toTArr.grown hg (fun k hk => (h.path.lt k hk).1) rfl rfl rfl rfl hkeep, hst, fun k hk hp => ?_⟩
  rcases hat with ha | ⟨k2, ha, hk2⟩
  · rw [ha] at hp; exact h.apart k hk hp
  · rw [ha] at hp; cases hp
    have := (h.stack.lt k hk).2
    omega

theorem own_setCell {base : Nat} {e : TypeId} {size : Nat} {v : Value} {m : Nat} {xs : List Value} (h : X.ownsRow base e size v m xs) {a : Addr} (ha : a.block < base) (u : Value) : (X.setCell a u).ownsRow base e size v m xs := ownsRow_setCell_below h ha u

theorem set_val {α : Type} (F : α → Value) (f : Nat → α) (v : Nat) (x : α) (j : Nat) : (if j = v then F x else F (f j)) = F (set f v x j) := by unfold set; split <;> rfl

theorem TArr.setFound (h : TArr n H W s sv X) (v x : Nat) : TArr n H W { s with found := set s.found v x } sv (X.setCell ⟨H, v, none⟩ (nv x)) :=
  ⟨(h.found.set v (nv x)).congr (fun j _ => set_val nv s.found v x j), h.low.setOther (by simp) _, h.held.setOther (by simp) _, h.res.setOther (by simp) _, own_setCell h.stack (by simp) _, h.below.setCell (Nat.le_refl _) _, by rw [Deep.nblk_setCell]; exact h.size⟩
theorem TArr.setLow (h : TArr n H W s sv X) (v x : Nat) : TArr n H W { s with low := set s.low v x } sv (X.setCell ⟨H + 1, v, none⟩ (nv x)) :=
  ⟨h.found.setOther (by simp) _, (h.low.set v (nv x)).congr (fun j _ => set_val nv s.low v x j), h.held.setOther (by simp) _, h.res.setOther (by simp) _, own_setCell h.stack (by simp) _, h.below.setCell (by simp) _, by rw [Deep.nblk_setCell]; exact h.size⟩
theorem TArr.setHeld (h : TArr n H W s sv X) (v : Nat) (x : Bool) : TArr n H W { s with held := set s.held v x } sv (X.setCell ⟨H + 2, v, none⟩ (.bool x)) :=
  ⟨h.found.setOther (by simp) _, h.low.setOther (by simp) _, (h.held.set v (.bool x)).congr (fun j _ => set_val Value.bool s.held v x j), h.res.setOther (by simp) _, own_setCell h.stack (by simp) _, h.below.setCell (by simp) _, by rw [Deep.nblk_setCell]; exact h.size⟩
theorem TArr.setRes (h : TArr n H W s sv X) (v : Nat) (x : Bool) : TArr n H W { s with res := set s.res v x } sv (X.setCell ⟨H + 3, v, none⟩ (.bool x)) :=
  ⟨h.found.setOther (by simp) _, h.low.setOther (by simp) _, h.held.setOther (by simp) _, (h.res.set v (.bool x)).congr (fun j _ => set_val Value.bool s.res v x j), own_setCell h.stack (by simp) _, h.below.setCell (by simp) _, by rw [Deep.nblk_setCell]; exact h.size⟩

theorem TMem.setFound (h : TMem n H W s sv pv X) (v x : Nat) : TMem n H W { s with found := set s.found v x } sv pv (X.setCell ⟨H, v, none⟩ (nv x)) := ⟨h.toTArr.setFound v x, own_setCell h.path (by simp) _, h.apart⟩
theorem TMem.setLow (h : TMem n H W s sv pv X) (v x : Nat) : TMem n H W { s with low := set s.low v x } sv pv (X.setCell ⟨H + 1, v, none⟩ (nv x)) := ⟨h.toTArr.setLow v x, own_setCell h.path (by simp) _, h.apart⟩
theorem TMem.setHeld (h : TMem n H W s sv pv X) (v : Nat) (x : Bool) : TMem n H W { s with held := set s.held v x } sv pv (X.setCell ⟨H + 2, v, none⟩ (.bool x)) := ⟨h.toTArr.setHeld v x, own_setCell h.path (by simp) _, h.apart⟩
theorem TMem.setRes (h : TMem n H W s sv pv X) (v : Nat) (x : Bool) : TMem n H W { s with res := set s.res v x } sv pv (X.setCell ⟨H + 3, v, none⟩ (.bool x)) := ⟨h.toTArr.setRes v x, own_setCell h.path (by simp) _, h.apart⟩

/-- 'f.i++' -/
theorem TMem.bump {gp cap : Nat} {G' : List Nat} {v : Nat} (h : TMem n H W s sv (.slice (some ⟨gp, 0, none⟩) (G'.length + 1) cap) X) (hG : s.G = G' ++ [v]) (hv : v ∉ G') :
    TMem n H W (s.bump v) sv (.slice (some ⟨gp, 0, none⟩) (G'.length + 1) cap) (X.setCell ⟨gp, G'.length * 2 + 1, none⟩ (nv (s.idx v + 1))) := by
  have hp := h.path
  rw [hG] at hp
  simp only [List.length_append, List.length_cons, List.length_nil, Nat.zero_add] at hp
  obtain ⟨h1, h2⟩ := hp.stored (G'.length * 2 + 1) (nv (s.idx v + 1))
  rw [frames_bump _ _ _ _ hv] at h1
  have := h.pathTo (G' := G' ++ [v]) (idx' := set s.idx v (s.idx v + 1)) h2 (by simpa using h1) (.inl rfl)
  rw [← hG] at this
  exact this

theorem frames_at (idx : Nat → Nat) (G' : List Nat) (v : Nat) : (frames idx (G' ++ [v]))[G'.length * 2]? = some (nv v) ∧ (frames idx (G' ++ [v]))[G'.length * 2 + 1]? = some (nv (idx v)) := by
  rw [frames_append]
  rw [List.getElem?_append_right (by rw [frames_len]; omega), List.getElem?_append_right (by rw [frames_len]; omega), frames_len]
  have e1 : G'.length * 2 - G'.length * 2 = 0 := by omega
  have e2 : G'.length * 2 + 1 - G'.length * 2 = 1 := by omega
  rw [e1, e2]
  simp [frames]

/-- The top frame's cells. -/
theorem TMem.frame {gp cap : Nat} {G' : List Nat} {v : Nat} (h : TMem n H W s sv (.slice (some ⟨gp, 0, none⟩) (G'.length + 1) cap) X) (hG : s.G = G' ++ [v]) :
    X.cell? ⟨gp, G'.length * 2, none⟩ = some (nv v) ∧ X.cell? ⟨gp, G'.length * 2 + 1, none⟩ = some (nv (s.idx v)) ∧ X.frozen? ⟨gp, G'.length * 2 + 1, none⟩ = false := by
  have hp := h.path
  rw [hG] at hp
  simp only [List.length_append, List.length_cons, List.length_nil, Nat.zero_add] at hp
  have := frames_at s.idx G' v
  exact ⟨by rw [hp.cellAt _ (by omega)]; exact this.1, by rw [hp.cellAt _ (by omega)]; exact this.2, hp.frozenAt _⟩
end
end Go.Proofs.Qxb6601852a
