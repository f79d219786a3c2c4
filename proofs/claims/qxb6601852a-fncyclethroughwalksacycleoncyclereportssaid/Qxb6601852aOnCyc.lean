import Derived.Test.Qxb6601852aTMem
import Derived.Deep.LoopGhost
import Derived.Deep.QuietTactic
import Derived.BigQuiet
import Derived.Deep.CutRange
namespace Go.Proofs.Qxb6601852a
open Go.RowKit

/-- What onCycle leaves: a flag a vertex. -/
def OnCPost (W : World) (g : Gr) (e : Ending) (w' : World) : Prop :=
  ∃ res : Nat → Bool, e = .returned (.slice (some ⟨W.heap.size + 3, 0, none⟩) g.n g.n) ∧ w'.rowIs (W.heap.size + 3) 4 g.n (fun v => .bool (res v)) ∧ (∀ v, v < g.n → (res v = true ↔ g.OnC v)) ∧ Below W.heap.size W w'

/-- Between two roots. -/
def Outer (W : World) (g : Gr) (sv c i : Value) (X : World) : Prop :=
  ∃ (r : Nat) (s : TS), r ≤ g.n ∧ i = .int .i64 (r : Int) ∧ c = .int .i64 (s.clock : Int) ∧ TInv g s ∧ s.G = [] ∧ (∀ v, v < r → s.found v ≠ 0) ∧ TArr g.n W.heap.size W s sv X

/-- Between two steps of one root's search. -/
def Inner (W : World) (g : Gr) (r : Nat) (gk : Nat) (sv c pv : Value) (X : World) : Prop :=
  ∃ s : TS, s.left g ≤ gk ∧ c = .int .i64 (s.clock : Int) ∧ TInv g s ∧ (∀ v, v < r + 1 → s.found v ≠ 0) ∧ TMem g.n W.heap.size W s sv pv X

theorem vis_succ {s : TS} {r : Nat} (h : ∀ v, v < r → s.found v ≠ 0) (h0 : s.found r ≠ 0) : ∀ v, v < r + 1 → s.found v ≠ 0 := fun v hv => by
  by_cases e : v = r
  · rw [e]; exact h0
  · exact h v (by omega)

theorem outer_start (W : World) (g : Gr) : Outer W g (.slice none 0 0) (.int .i64 0) (.int .i64 0) ((((W.alloc (.cells (madeCells #[.int .i64 0] g.n) 3)).alloc (.cells (madeCells #[.int .i64 0] g.n) 3)).alloc (.cells (madeCells #[.bool false] g.n) 4)).alloc (.cells (madeCells #[.bool false] g.n) 4)) := by
  refine ⟨0, TS.start, Nat.zero_le _, rfl, rfl, start_inv g, rfl, fun v hv => by omega, ?_⟩
  have r0 := World.rowIs_made W (.int .i64 0) g.n 3
  have r1 := World.rowIs_made (W.alloc (.cells (madeCells #[.int .i64 0] g.n) 3)) (.int .i64 0) g.n 3
  have r2 := World.rowIs_made ((W.alloc (.cells (madeCells #[.int .i64 0] g.n) 3)).alloc (.cells (madeCells #[.int .i64 0] g.n) 3)) (.bool false) g.n 4
  have r3 := World.rowIs_made (((W.alloc (.cells (madeCells #[.int .i64 0] g.n) 3)).alloc (.cells (madeCells #[.int .i64 0] g.n) 3)).alloc (.cells (madeCells #[.bool false] g.n) 4)) (.bool false) g.n 4
  simp only [Deep.nblk_alloc] at r1 r2 r3
  refine ⟨((r0.alloc _).alloc _).alloc _, (r1.alloc _).alloc _, r2.alloc _, r3, World.ownsRow_nil _ _ _ _, ?_, ?_⟩
  · exact ((((Below.refl _ _).alloc (Nat.le_refl _) _).alloc (by rw [Deep.nblk_alloc]; omega) _).alloc (by simp only [Deep.nblk_alloc]; omega) _).alloc (by simp only [Deep.nblk_alloc]; omega) _
  · simp only [Deep.nblk_alloc]; omega

/-- The first vertex of a search lies on the stack and on the path. -/
theorem root_mem {n H : Nat} {W X X' : World} {s : TS} {sv : Value} {r g2 cap : Nat} {o : Obj} (h : TArr n H W { s with found := set s.found r (s.clock + 1), low := set s.low r (s.clock + 1), held := set s.held r true } sv X) (hG : s.G = []) (hi : s.idx r = 0)
    (hg : (X.alloc o).grownBy X' sv.ownBlock) (hown : X'.ownsRow (H + 4) 3 1 (.slice (some ⟨g2, 0, none⟩) (s.S.length + 1) cap) (s.S.length + 1) (s.S.map nv ++ [nv r])) :
    TMem n H W (s.push r) (.slice (some ⟨g2, 0, none⟩) (s.S.length + 1) cap) (.slice (some ⟨X'.heap.size, 0, none⟩) 1 1) (X'.alloc (.cells #[.int .i64 (r : Int), .int .i64 0] 42)) := by
  have h1 : TArr n H W (s.push r) (.slice (some ⟨g2, 0, none⟩) (s.S.length + 1) cap) X' := (h.alloc o).grown hg (fun k hk => (h.stack.lt k hk).1) rfl rfl rfl rfl (by simpa [TS.push] using hown)
  refine ⟨h1.alloc _, ?_, fun k hk hp => ?_⟩
  · have hfr : frames s.idx ([] ++ [r]) = [nv r, nv 0] := by simp [frames, hi]
    show (X'.alloc _).ownsRow (H + 4) 42 2 _ (s.G ++ [r]).length (frames s.idx (s.G ++ [r]))
    rw [hG, hfr]
    exact ⟨rfl, .inr ⟨X'.heap.size, 1, #[nv r, nv 0], rfl, h1.size, Deep.blk_alloc_new _ _, Nat.le_refl _, by unfold maxLen; omega, rfl, rfl⟩⟩
  · simp only [Value.ownBlock, Option.some.injEq] at hk hp
    have := (hown.lt g2 rfl).2
    omega

theorem push_vis {s : TS} {r : Nat} (h : ∀ v, v < r → s.found v ≠ 0) : ∀ v, v < r + 1 → (s.push r).found v ≠ 0 := fun v hv => by
  show set s.found r (s.clock + 1) v ≠ 0
  by_cases e : v = r
  · rw [e, set_same]; omega
  · rw [set_other _ _ e]; exact h v (by omega)

theorem TMem.drewN {n H : Nat} {W X : World} {s : TS} {sv pv : Value} (h : TMem n H W s sv pv X) (k : Nat) : TMem n H W s sv pv (X.drewN k) := ⟨⟨h.found, h.low, h.held, h.res, h.stack, below_drewN h.below k, h.size⟩, h.path, h.apart⟩

theorem TMem.reclock {n H : Nat} {W X : World} {s : TS} {sv pv : Value} (h : TMem n H W s sv pv X) (c : Nat) : TMem n H W { s with clock := c } sv pv X := ⟨⟨h.found, h.low, h.held, h.res, h.stack, h.below, h.size⟩, h.path, h.apart⟩

theorem set_low_as {n H : Nat} {W X : World} {s : TS} {sv pv : Value} {v x y : Nat} (h : TMem n H W s sv pv X) (e : min (s.low v) x = y) : TMem n H W (s.lowTo v x) sv pv (X.setCell ⟨H + 1, v, none⟩ (nv y)) := by
  have := h.setLow v (min (s.low v) x)
  rw [e] at this
  show TMem n H W { s with low := set s.low v (min (s.low v) x) } sv pv _
  rw [e]
  exact this

/-- The world under a letter, with what is known of it. -/
theorem wp_world {P : Program} {c : Code} {Q : Exit → Act → World → Prop} {a : Act} {w : World} (R : World → Prop) (hR : R w) (h : ∀ Y, R Y → Code.wp P c Q a Y) : Code.wp P c Q a w := h w hR

theorem path_own {n H : Nat} {W X : World} {t : TS} {sv pv : Value} {G' : List Nat} {v : Nat} (h : TMem n H W t sv pv X) (hG : t.G = G' ++ [v]) : X.ownsRow (H + 4) 42 2 pv (G'.length + 1) (frames t.idx (G' ++ [v])) := by
  have := h.path
  rw [hG] at this
  simpa using this

/-- 'path = path[:len(path)-1]' -/
theorem TMem.pathPop {n H : Nat} {W X : World} {s : TS} {sv : Value} {gp cap : Nat} {G' : List Nat} {v : Nat} (h : TMem n H W s sv (.slice (some ⟨gp, 0, none⟩) (G'.length + 1) cap) X) (hG : s.G = G' ++ [v]) : TMem n H W { s with G := G' } sv (.slice (some ⟨gp, 0, none⟩) G'.length cap) X := by
  have hp := path_own h hG
  rw [frames_append] at hp
  exact ⟨⟨h.found, h.low, h.held, h.res, h.stack, h.below, h.size⟩, ownsRow_pop (frames_len _ _) hp, h.apart⟩

/-- 'stack = stack[:k]' -/
theorem TMem.stackCut {n H : Nat} {W X : World} {s : TS} {pv : Value} {gs cap m : Nat} {A C : List Nat} (h : TMem n H W s (.slice (some ⟨gs, 0, none⟩) m cap) pv X) (hm : s.S.length = m) (hS : s.S = A ++ C) : TMem n H W { s with S := A } (.slice (some ⟨gs, 0, none⟩) A.length cap) pv X := by
  have hs := h.stack
  refine ⟨⟨h.found, h.low, h.held, h.res, ?_, h.below, h.size⟩, h.path, h.apart⟩
  rcases hs.2 with ⟨h0, _⟩ | ⟨g', cap', cur, hv, hg, hh, hn, hcap, hsz, htake⟩
  · cases h0
  · cases hv
    refine ⟨by simp, .inr ⟨gs, cap, cur, rfl, hg, hh, by show A.length ≤ cap; rw [hS] at hn; simp at hn; omega, hcap, hsz, ?_⟩⟩
    have h3 : (cur.toList.take (s.S.length * 1)).take A.length = (s.S.map nv).take A.length := by rw [htake]
    rw [List.take_take, hS, Nat.min_eq_left (by simp)] at h3
    simpa using h3

/-- The component's flags, as far as they have been laid. -/
def TS.clear (s : TS) (C : List Nat) (b : Bool) : TS := { s with held := fun x => if x ∈ C then false else s.held x, res := fun x => if x ∈ C then b else s.res x }

theorem clear_nil (s : TS) (b : Bool) : s.clear [] b = s := by simp [TS.clear]

theorem clear_step {n H : Nat} {W X : World} {s : TS} {sv pv : Value} {C : List Nat} {j x : Nat} {b : Bool} (hx : C[j]? = some x) (h : TMem n H W (s.clear (C.take j) b) sv pv X) :
    TMem n H W (s.clear (C.take (j + 1)) b) sv pv ((X.setCell ⟨H + 2, x, none⟩ (.bool false)).setCell ⟨H + 3, x, none⟩ (.bool b)) := by
  have h2 := (h.setHeld x false).setRes x b
  have hm : ∀ y, y ∈ C.take (j + 1) ↔ y = x ∨ y ∈ C.take j := fun y => by
    rw [List.take_add_one, hx]; simp [or_comm]
  refine ⟨⟨h2.found, h2.low, h2.held.congr (fun y _ => congrArg Value.bool ?_), h2.res.congr (fun y _ => congrArg Value.bool ?_), h2.stack, h2.below, h2.size⟩, h2.path, h2.apart⟩
  · show set (fun z => if z ∈ C.take j then false else s.held z) x false y = if y ∈ C.take (j + 1) then false else s.held y
    simp only [hm y, set]
    by_cases e : y = x <;> simp [e]
  · show set (fun z => if z ∈ C.take j then b else s.res z) x b y = if y ∈ C.take (j + 1) then b else s.res y
    simp only [hm y, set]
    by_cases e : y = x <;> simp [e]

/-- The only open vertex cannot lead below itself. -/
theorem root_low {g : Gr} {s : TS} (h : TInv g s) {v : Nat} (hG : s.G = [v]) : s.low v = s.found v := by
  have hvS := h.gS v (by rw [hG]; simp)
  obtain ⟨hle, u, hu, hfu, _⟩ := h.l1 v hvS
  obtain ⟨p, hp, hpu, _⟩ := h.i1 u hu
  rw [hG] at hp
  simp at hp
  rw [hp] at hpu
  omega

theorem lowG_top (s : TS) {G' : List Nat} {v : Nat} (hv : v ∉ G') : s.lowG G' v v = s.low v := by
  rcases snoc_cases G' with rfl | ⟨G'', u, rfl⟩
  · rw [lowG_nil]
  · rw [lowG_snoc, set_other _ _ (fun e => hv (by rw [e]; simp))]

theorem fin_nil_mem {n H : Nat} {W X : World} {s : TS} {sv pv : Value} {v : Nat} (h : TMem n H W { s with G := [] } sv pv X) : TMem n H W (s.fin [] v) sv pv X := by
  have e : s.fin [] v = { s with G := [] } := by unfold TS.fin; rw [lowG_nil]
  rw [e]; exact h

theorem fin_snoc_mem {n H : Nat} {W X : World} {s : TS} {sv pv : Value} {G'' : List Nat} {u v y : Nat} (h : TMem n H W { s with G := G'' ++ [u] } sv pv X) (e : min (s.low u) (s.low v) = y) : TMem n H W (s.fin (G'' ++ [u]) v) sv pv (X.setCell ⟨H + 1, u, none⟩ (nv y)) := by
  have := h.setLow u (min (s.low u) (s.low v))
  rw [e] at this
  have e2 : s.fin (G'' ++ [u]) v = { ({ s with G := G'' ++ [u] } : TS) with low := set s.low u y } := by unfold TS.fin; rw [lowG_snoc, e]
  rw [e2]; exact this

theorem pop_state {s : TS} {G' : List Nat} {v : Nat} {A B : List Nat} {b : Bool} (hb : b = decide (1 < (v :: B).length)) : ({ ((s.fin G' v).clear (v :: B) b) with S := A } : TS) = s.pop G' v A B := by
  rw [hb]; rfl

/-- A cell of the stack. -/
theorem TMem.stackAt {n H : Nat} {W X : World} {s : TS} {pv : Value} {gs cap m : Nat} (h : TMem n H W s (.slice (some ⟨gs, 0, none⟩) m cap) pv X) (hm : s.S.length = m) {k x : Nat} (hk : s.S[k]? = some x) : X.cell? ⟨gs, k, none⟩ = some (.int .i64 (x : Int)) := by
  have hs := h.stack
  rw [hm] at hs
  have hlt : k < s.S.length := (List.getElem?_eq_some_iff.1 hk).1
  rw [hs.cellAt k (by omega)]
  simp [hk, nv]

theorem own_cap {X : World} {base : Nat} {e : TypeId} {size g n cap : Nat} {xs : List Value} (h : X.ownsRow base e size (.slice (some ⟨g, 0, none⟩) n cap) n xs) : n ≤ cap ∧ cap ≤ 9223372036854775807 := by
  rcases h.2 with ⟨h0, _⟩ | ⟨g', cap', cur, hv, hg, hh, hn, hcap, _⟩
  · cases h0
  · cases hv; unfold maxLen at hcap; exact ⟨hn, hcap⟩

/-- v lies on the stack once. -/
theorem stack_uniq {g : Gr} {s : TS} (h : TInv g s) {A B : List Nat} {v : Nat} (hS : s.S = A ++ v :: B) {j x : Nat} (hj : s.S[j]? = some x) (hlt : A.length < j) : x ≠ v := by
  have hp := h.sS
  rw [hS, List.pairwise_append] at hp
  rw [hS, List.getElem?_append_right (by omega)] at hj
  obtain ⟨m, hm⟩ : ∃ m, j - A.length = m + 1 := ⟨j - A.length - 1, by omega⟩
  rw [hm] at hj
  simp at hj
  have := (List.pairwise_cons.1 hp.2.1).1 x (List.mem_of_getElem? hj)
  intro e; rw [e] at this; omega

theorem hid_mk {p : Prop} (h : p) : Hid p := h

/-- A vertex that an edge led to: behind the stack's append. -/
theorem edge_mem {n H : Nat} {W X X' : World} {s : TS} {sv pv : Value} {v x g2 cap N : Nat} {o : Obj}
    (h : TMem n H W { (s.bump v) with found := set s.found x (s.clock + 1), low := set s.low x (s.clock + 1), held := set s.held x true } sv pv X) (hN : X.heap.size = N)
    (hg : (X.alloc o).grownBy X' sv.ownBlock) (hown : X'.ownsRow (H + 4) 3 1 (.slice (some ⟨g2, 0, none⟩) (s.S.length + 1) cap) (s.S.length + 1) (s.S.map nv ++ [nv x])) (hat : sv.ownBlock = some g2 ∨ g2 = N + 1) :
    TMem n H W { (s.bump v) with found := set s.found x (s.clock + 1), low := set s.low x (s.clock + 1), held := set s.held x true, S := s.S ++ [x] } (.slice (some ⟨g2, 0, none⟩) (s.S.length + 1) cap) pv X' := by
  refine (h.alloc o).stackTo (S' := s.S ++ [x]) hg (by simpa using hown) ?_
  rcases hat with ha | ha
  · exact .inl ha.symm
  · exact .inr ⟨g2, rfl, by rw [Deep.nblk_alloc, hN]; omega⟩

/-- .. behind the path's. -/
theorem edge_mem2 {n H : Nat} {W X X' : World} {s : TS} {sv pv : Value} {G' : List Nat} {v x g5 cap : Nat} {o : Obj}
    (h : TMem n H W { (s.bump v) with found := set s.found x (s.clock + 1), low := set s.low x (s.clock + 1), held := set s.held x true, S := s.S ++ [x] } sv pv X) (hG : s.G = G' ++ [v]) (hi : s.idx x = 0) (hxv : x ≠ v)
    (hg : (X.alloc o).grownBy X' pv.ownBlock) (hown : X'.ownsRow (H + 4) 42 2 (.slice (some ⟨g5, 0, none⟩) (G'.length + 1 + 1) cap) (G'.length + 1 + 1) (frames (s.bump v).idx (G' ++ [v]) ++ [nv x, nv 0])) (hat : pv.ownBlock = some g5 ∨ g5 = X.heap.size + 1) :
    TMem n H W ((s.bump v).push x) sv (.slice (some ⟨g5, 0, none⟩) (G'.length + 1 + 1) cap) X' := by
  have e : frames (s.bump v).idx (G' ++ [v]) ++ [nv x, nv 0] = frames (s.bump v).idx (G' ++ [v] ++ [x]) := by
    rw [frames_append _ (G' ++ [v]) [x]]
    have : (s.bump v).idx x = 0 := by show set s.idx v (s.idx v + 1) x = 0; rw [set_other _ _ hxv]; exact hi
    simp [frames, this]
  rw [e] at hown
  have := (h.alloc o).pathTo (G' := G' ++ [v] ++ [x]) (idx' := (s.bump v).idx) hg (by simpa using hown) (by
    rcases hat with ha | ha
    · exact .inl ha.symm
    · exact .inr ⟨g5, rfl, by rw [Deep.nblk_alloc]; omega⟩)
  rw [← hG] at this
  exact this.reclock _

theorem vis_push {s : TS} {r v x : Nat} (h : ∀ u, u < r + 1 → s.found u ≠ 0) : ∀ u, u < r + 1 → ((s.bump v).push x).found u ≠ 0 := fun u hu => by
  show set s.found x (s.clock + 1) u ≠ 0
  by_cases e : u = x
  · rw [e, set_same]; omega
  · rw [set_other _ _ e]; exact h u hu

theorem not_below {g : Gr} {s : TS} (h : TInv g s) {G' : List Nat} {v : Nat} (hG : s.G = G' ++ [v]) : v ∉ G' := fun hh => by
  have hsG := h.sG
  rw [hG, List.pairwise_append] at hsG
  have := hsG.2.2 v hh v (by simp); omega

set_option maxRecDepth 100000 in
set_option maxHeartbeats 60000000 in
theorem onCycle_any (ad : Option Addr) (g : Gr) (cap : Nat) (W : World) (hg : Graph W ad g) (hwf : g.wf) :
    Calls Try.prog 29 #[.slice ad g.n cap] W (OnCPost W g) := by
  have hn := hg.1
  have hmk := run_make_row' (P := Try.prog) 28 3 (.int .i64 0) 8 Try.underlying28 Try.info3 rfl .i64 .i64 g.n (by omega) (by omega)
  have hmk4 := run_make_row' (P := Try.prog) 25 4 (.bool false) 1 Try.underlying25 Try.info4 rfl .i64 .i64 g.n (by omega) (by omega)
  obtain ⟨i0, hi0, hz0, hz1, hz2⟩ := info_parts Try.info3
  obtain ⟨j0, hj0, hy0, hy1, hy2⟩ := info_parts Try.info42
  go_enter Try.func29, Try.ntmps29
  go_wp2
  go_loopw [6, 7, 32] (fun sv c i wr => Outer W g sv c i wr) (fun _ _ i _ => g.n - (intOf i).toNat)
  case atStart => exact outer_start W g
  case round =>
    clear hmk hmk4
    obtain ⟨r, s, hr, rfl, rfl, hinv, hG, hvis, hmem⟩ := hrel
    have hclk := hinv.clock_le
    by_cases hlt : r < g.n
    · have cf : wr.cell? ⟨W.heap.size, r, none⟩ = some (.int .i64 (s.found r : Int)) := hmem.found.cell hlt
      by_cases hf0 : s.found r = 0
      · have cl : wr.cell? ⟨W.heap.size + 1, r, none⟩ = some (.int .i64 (s.low r : Int)) := hmem.low.cell hlt
        have ch : wr.cell? ⟨W.heap.size + 2, r, none⟩ = some (.bool (s.held r)) := hmem.held.cell hlt
        have ff := hmem.found.frozen r
        have fl := hmem.low.frozen r
        have fh := hmem.held.frozen r
        have hSl := hinv.S_len
        rw [hf0] at cf
        have hm3 : TArr g.n W.heap.size W { s with found := set s.found r (s.clock + 1), low := set s.low r (s.clock + 1), held := set s.held r true } u6 (((wr.setCell ⟨W.heap.size, r, none⟩ (.int .i64 ((s.clock : Int) + 1))).setCell ⟨W.heap.size + 1, r, none⟩ (.int .i64 ((s.clock : Int) + 1))).setCell ⟨W.heap.size + 2, r, none⟩ (.bool true)) := ((hmem.setFound r (s.clock + 1)).setLow r (s.clock + 1)).setHeld r true
        have hown := hm3.stack.alloc (.cells #[.int .i64 (r : Int)] 3)
        have hz9 : (((wr.setCell ⟨W.heap.size, r, none⟩ (.int .i64 ((s.clock : Int) + 1))).setCell ⟨W.heap.size + 1, r, none⟩ (.int .i64 ((s.clock : Int) + 1))).setCell ⟨W.heap.size + 2, r, none⟩ (.bool true)).heap.size = wr.heap.size := by simp only [Deep.nblk_setCell]
        have hsz := hmem.size
        have hnews := World.news_of_block (cs := #[nv r]) (t := 3) (fr := (0, 0)) (heap_alloc_new (((wr.setCell ⟨W.heap.size, r, none⟩ (.int .i64 ((s.clock : Int) + 1))).setCell ⟨W.heap.size + 1, r, none⟩ (.int .i64 ((s.clock : Int) + 1))).setCell ⟨W.heap.size + 2, r, none⟩ (.bool true)) (.cells #[nv r] 3))
        rw [hz9] at hnews
        have HM : Hid (TArr g.n W.heap.size W { s with found := set s.found r (s.clock + 1), low := set s.low r (s.clock + 1), held := set s.held r true } u6 (((wr.setCell ⟨W.heap.size, r, none⟩ (.int .i64 ((s.clock : Int) + 1))).setCell ⟨W.heap.size + 1, r, none⟩ (.int .i64 ((s.clock : Int) + 1))).setCell ⟨W.heap.size + 2, r, none⟩ (.bool true))) := hm3
        have HZ : Hid ((((wr.setCell ⟨W.heap.size, r, none⟩ (.int .i64 ((s.clock : Int) + 1))).setCell ⟨W.heap.size + 1, r, none⟩ (.int .i64 ((s.clock : Int) + 1))).setCell ⟨W.heap.size + 2, r, none⟩ (.bool true)).heap.size = wr.heap.size) := hz9
        have hpush := push_start hinv hG hlt hf0
        have HF : Hid (s.found r = 0) := hf0
        have hidx := hinv.i0 r hf0
        have HI : Hid (s.idx r = 0) := hidx
        have HG : Hid (s.G = []) := hG
        clear hm3 hz9 hmem hinv hG hf0 hidx
        go_wp2_with (at_builtin; refine wpList_append_lies _ rfl _ _ 28 rfl (W.heap.size + 4) 3 i0 _ 1 8 Try.underlying28 hi0 hz0 hz1 hz2 rfl (by omega) u6 s.S.length (s.S.map nv) rfl hown ⟨wr.heap.size, 0, none⟩ 1 1 [nv r] rfl rfl hnews (by simp [Value.oneCell', nv]) (by omega) (by unfold maxLen; omega) (by omega) (by rw [Deep.nblk_alloc, HZ.out]; omega) (wr.heap.size + 1) (by rw [Deep.nblk_alloc, HZ.out]) ?_; intro g2 cap3 w2 hown3 hgrow hat hlt2)
        go_loopg [6, 7, 10] ((s.push r).left g) (fun gk sv c pv wr => Inner W g r gk sv c pv wr)
        case atStart =>
          refine ⟨s.push r, Nat.le_refl _, by go_num, hpush, ?_, root_mem HM.out HG.out HI.out hgrow hown3⟩
          exact push_vis hvis
        case round =>
          clear hat hgrow hown3 hnews hown HM HZ hpush HF HI HG cf cl ch ff fl fh hSl hsz hclk hlt2 hvis
          obtain ⟨s, hleft, rfl, hinv, hvis, hmem⟩ := hrel
          have hclk := hinv.clock_le
          rcases snoc_cases s.G with hG | ⟨G', v, hG⟩
          · have hp0 := hmem.path
            rw [hG] at hp0
            obtain ⟨a0, c0, rfl⟩ : ∃ a0 c0, u10 = .slice a0 0 c0 := by
              rcases hp0.2 with ⟨h, _⟩ | ⟨g, cap, cur, h, _⟩
              · exact ⟨none, 0, h⟩
              · exact ⟨_, cap, h⟩
            have HG : Hid (s.G = []) := hG
            clear hp0 hG
            go_wp2
            go_roundw
            case rel => exact ⟨r + 1, s, by omega, by go_num, rfl, hinv, HG.out, hvis, hmem.toTArr⟩
            case measure => simp [intOf]; omega
          · have hvG : v ∈ s.G := by rw [hG]; simp
            have hvS := hinv.gS v hvG
            have hvn := hinv.lt v (hinv.fS hvS)
            have hGl := hinv.G_len
            have hnv : v ∉ G' := not_below hinv hG
            have hp0 := hmem.path
            rw [hG] at hp0 hGl
            simp only [List.length_append, List.length_cons, List.length_nil, Nat.zero_add] at hp0 hGl
            obtain ⟨gp, capp, rfl, hgp1, hgp2⟩ := hp0.form (by omega)
            obtain ⟨cv, ci, fi⟩ := hmem.frame hG
            obtain ⟨b, off, rfl, hb, hrow⟩ := hg.2.2 (by omega)
            obtain ⟨ra, rc, crow, hints⟩ := hrow v hvn
            have crow' := (hmem.below.cell (p := ⟨b, off + v, none⟩) (by exact hb)).trans crow
            have hil := hinv.il v
            have hdeg := hg.2.1 v hvn
            have hv' : (v : Int) < (g.n : Int) := by omega
            have hg' : (G'.length : Int) < (G'.length : Int) + 1 := by omega
            clear hp0 crow hrow
            unfold nv at cv ci
            by_cases hex : s.idx v < (g.nx v).length
            · have hex' : (s.idx v : Int) < ((g.nx v).length : Int) := by omega
              obtain ⟨b2, off2, rfl, hb2, hadj⟩ := hints.2 (by omega)
              have cadj : wr.cell? ⟨b2, off2 + s.idx v, none⟩ = some (.int .i64 (((g.nx v).getD (s.idx v) 0 : Nat) : Int)) := (hmem.below.cell (p := ⟨b2, off2 + s.idx v, none⟩) (by exact hb2)).trans (hadj (s.idx v) hex)
              obtain ⟨x, hx⟩ : ∃ x, (g.nx v).getD (s.idx v) 0 = x := ⟨_, rfl⟩
              rw [hx] at cadj
              have hk : (g.nx v)[s.idx v]? = some x := by rw [← hx]; simp [List.getD, hex]
              have hxn := (hwf v hvn x (List.mem_of_getElem? hk)).1
              have hxv := (hwf v hvn x (List.mem_of_getElem? hk)).2
              have hmb : ∀ k, TMem g.n W.heap.size W (s.bump v) u6 (.slice (some ⟨gp, 0, none⟩) (G'.length + 1) capp) ((wr.drewN k).setCell ⟨gp, G'.length * 2 + 1, none⟩ (.int .i64 ((s.idx v : Int) + 1))) := fun k => (hmem.drewN k).bump hG hnv
              have hxn' : (x : Int) < (g.n : Int) := by omega
              have HK : Hid ((g.nx v)[s.idx v]? = some x) := hk
              have HG : Hid (s.G = G' ++ [v]) := hG
              have hsz := hmem.size
              have hSl := hinv.S_len
              clear hadj hints hx hk hG hmem hb2 hb
              go_wp2
              go_quiet (fail)
              go_wp2
              go_quiet (fail)
              go_upto_region 20 with fail
              refine wp_world (fun Y => TMem g.n W.heap.size W (s.bump v) u6 (.slice (some ⟨gp, 0, none⟩) (G'.length + 1) capp) Y) (hmb _) ?_
              clear hmb cadj crow' cv ci fi hsz
              intro Y hY
              have hsz := hY.size
              have cfx : Y.cell? ⟨W.heap.size, x, none⟩ = some (.int .i64 (s.found x : Int)) := hY.found.cell hxn
              have chx : Y.cell? ⟨W.heap.size + 2, x, none⟩ = some (.bool (s.held x)) := hY.held.cell hxn
              by_cases hf0 : s.found x = 0
              · have clx : Y.cell? ⟨W.heap.size + 1, x, none⟩ = some (.int .i64 (s.low x : Int)) := hY.low.cell hxn
                have ff := hY.found.frozen x
                have fl := hY.low.frozen x
                have fh := hY.held.frozen x
                rw [hf0] at cfx
                as_aux_lemma =>
                  have hm3 : TMem g.n W.heap.size W { (s.bump v) with found := set s.found x (s.clock + 1), low := set s.low x (s.clock + 1), held := set s.held x true } u6 (.slice (some ⟨gp, 0, none⟩) (G'.length + 1) capp) (((Y.setCell ⟨W.heap.size, x, none⟩ (.int .i64 ((s.clock : Int) + 1))).setCell ⟨W.heap.size + 1, x, none⟩ (.int .i64 ((s.clock : Int) + 1))).setCell ⟨W.heap.size + 1 + 1, x, none⟩ (.bool true)) := ((hY.setFound x (s.clock + 1)).setLow x (s.clock + 1)).setHeld x true
                  have hpush := push_edge hinv HG.out HK.out hxn hf0
                  have hmu := bump_left hinv hvG HK.out
                  have hpl := push_left (g := g) (s := s.bump v) (w := x) hf0
                  have hix := hinv.i0 x hf0
                  have HF : Hid (s.found x = 0) := hf0
                  have HI : Hid (s.idx x = 0) := hix
                  have HL : Hid (((s.bump v).push x).left g = (s.bump v).left g) := hpl
                  clear hinv hvG hvS hf0 hix hpl
                  go_upto_region 23 with fail
                  refine wp_world (fun Z => TMem g.n W.heap.size W { (s.bump v) with found := set s.found x (s.clock + 1), low := set s.low x (s.clock + 1), held := set s.held x true } u6 (.slice (some ⟨gp, 0, none⟩) (G'.length + 1) capp) Z) hm3 ?_
                  clear hm3 hY cfx chx clx ff fl fh hsz
                  intro Z hZ
                  have hown := hZ.stack.alloc (.cells #[.int .i64 (x : Int)] 3)
                  have hsz := hZ.size
                  have hnews := World.news_of_block (cs := #[nv x]) (t := 3) (fr := (0, 0)) (heap_alloc_new Z (.cells #[nv x] 3))
                  go_wp2_with (first | (at_builtin; refine wpList_append_lies _ rfl (.tmp 120) (.tmp 122) 28 rfl (W.heap.size + 4) 3 i0 _ 1 8 Try.underlying28 hi0 hz0 hz1 hz2 rfl (by omega) u6 s.S.length (s.S.map nv) rfl hown ⟨Z.heap.size, 0, none⟩ 1 1 [nv x] rfl rfl hnews (by simp [Value.oneCell', nv]) (by omega) (by unfold maxLen; omega) (by omega) (by rw [Deep.nblk_alloc]; omega) (Z.heap.size + 1) (by rw [Deep.nblk_alloc]) ?_; intro g2 cap3 w2 hown3 hgrow hat hlt2; have hm4 := edge_mem hZ rfl hgrow hown3 hat; have hp4 := path_own hm4 HG.out; have hn4 := World.news_of_block (cs := #[nv x, nv 0]) (t := 42) (fr := (0, 0)) (heap_alloc_new w2 (.cells #[nv x, nv 0] 42)); have hs4 := hm4.size) | (at_builtin; refine wpList_append_lies _ rfl (.tmp 124) (.tmp 127) 43 rfl (W.heap.size + 4) 42 j0 _ 2 16 Try.underlying43 hj0 hy0 hy1 hy2 rfl (by omega) (.slice (some ⟨gp, 0, none⟩) (G'.length + 1) capp) (G'.length + 1) (frames (s.bump v).idx (G' ++ [v])) rfl (hp4.alloc _) ⟨w2.heap.size, 0, none⟩ 1 1 [nv x, nv 0] rfl rfl hn4 (by simp [Value.oneCell', nv]) (by omega) (by unfold maxLen; omega) (by omega) (by rw [Deep.nblk_alloc]; omega) (w2.heap.size + 1) (by rw [Deep.nblk_alloc]) ?_; intro g5 cap5 w5 hown5 hgrow5 hat5 hlt5))
                  go_roundg ((s.bump v).left g)
                  case measure => omega
                  case rel => exact ⟨(s.bump v).push x, by rw [HL.out]; exact Nat.le_refl _, by go_num, hpush, vis_push hvis, edge_mem2 hm4 HG.out HI.out hxv hgrow5 hown5 hat5⟩
              · have hne0 : ((s.found x : Int) == 0) = false := beq_eq_false_iff_ne.2 (by omega)
                cases hh : s.held x with
                | false =>
                  rw [hh] at chx
                  have HH : Hid (s.held x = false) := hh
                  as_aux_lemma =>
                    have hnext := look_done hinv HG.out HK.out hf0 HH.out
                    have hmu := bump_left hinv hvG HK.out
                    clear hh hinv hvG hvS
                    go_wp2
                    go_roundg ((s.bump v).left g)
                    case measure => omega
                    case rel => exact ⟨s.bump v, Nat.le_refl _, rfl, hnext, hvis, hY⟩
                | true =>
                  as_aux_lemma =>
                    rw [hh] at chx
                    have clv : Y.cell? ⟨W.heap.size + 1, v, none⟩ = some (.int .i64 (s.low v : Int)) := hY.low.cell hvn
                    have flv := hY.low.frozen v
                    have cv2 : Y.cell? ⟨gp, G'.length * 2, none⟩ = some (.int .i64 (v : Int)) := (hY.frame HG.out).1
                    have hnext := look_held hinv HG.out HK.out hh
                    have hmu := bump_left hinv hvG HK.out
                    clear hh hinv hvG hvS
                    by_cases hle : s.low v ≤ s.found x
                    · have hle' : (s.low v : Int) ≤ (s.found x : Int) := by omega
                      have hml : TMem g.n W.heap.size W ((s.bump v).lowTo v (s.found x)) u6 (.slice (some ⟨gp, 0, none⟩) (G'.length + 1) capp) (Y.setCell ⟨W.heap.size + 1, v, none⟩ (.int .i64 (s.low v : Int))) := set_low_as hY (Nat.min_eq_left hle)
                      go_wp2
                      go_region
                      go_wp2
                      go_roundg ((s.bump v).left g)
                      case measure => omega
                      case rel => exact ⟨(s.bump v).lowTo v (s.found x), Nat.le_refl _, rfl, hnext, hvis, hml.drew⟩
                    · have hle' : (s.found x : Int) < (s.low v : Int) := by omega
                      have hml : TMem g.n W.heap.size W ((s.bump v).lowTo v (s.found x)) u6 (.slice (some ⟨gp, 0, none⟩) (G'.length + 1) capp) (Y.setCell ⟨W.heap.size + 1, v, none⟩ (.int .i64 (s.found x : Int))) := set_low_as hY (Nat.min_eq_right (show s.found x ≤ s.low v by omega))
                      go_wp2
                      go_region
                      go_wp2
                      go_roundg ((s.bump v).left g)
                      case measure => omega
                      case rel => exact ⟨(s.bump v).lowTo v (s.found x), Nat.le_refl _, rfl, hnext, hvis, hml.drew⟩
            · have hidx : s.idx v = (g.nx v).length := by omega
              have hexn : ¬ ((s.idx v : Int) < ((g.nx v).length : Int)) := by omega
              obtain ⟨A, B, hS⟩ := List.append_of_mem hvS
              have hSl := hinv.S_len
              obtain ⟨L, hL⟩ : ∃ L, s.S.length = L := ⟨_, rfl⟩
              have hst0 := hmem.stack
              rw [hL] at hst0 hSl
              have hB1 : A.length + B.length + 1 ≤ L := by rw [← hL, hS, List.length_append, List.length_cons]; omega
              have hB2 : L ≤ A.length + B.length + 1 := by rw [← hL, hS, List.length_append, List.length_cons]; omega
              obtain ⟨gs, caps, rfl, hgs1, hgs2⟩ := hst0.form (by omega)
              have hcapS : L ≤ caps ∧ caps ≤ 9223372036854775807 := own_cap hst0
              have HL0 : Hid (s.S.length = L) := hL
              clear hst0 hL
              have hfv : s.found v ≠ 0 := hinv.fS hvS
              have HS : Hid (s.S = A ++ v :: B) := hS
              have HG : Hid (s.G = G' ++ [v]) := hG
              have HI : Hid (s.idx v = (g.nx v).length) := hidx
              clear hS hidx hex hints hb
              have hmp := hmem.pathPop HG.out
              have hcapP : (G'.length : Int) + 1 ≤ (capp : Int) := by
                have hq := (own_cap (path_own hmem HG.out)).1
                omega
              have hY0 : ∀ k, TMem g.n W.heap.size W { s with G := G' } (.slice (some ⟨gs, 0, none⟩) L caps) (.slice (some ⟨gp, 0, none⟩) G'.length capp) (wr.drewN k) := fun k => hmp.drewN k
              clear hmem fi hmp
              go_wp2
              go_quiet (fail)
              go_upto_if 163 with fail
              refine wp_world (fun Y => TMem g.n W.heap.size W { s with G := G' } (.slice (some ⟨gs, 0, none⟩) L caps) (.slice (some ⟨gp, 0, none⟩) G'.length capp) Y) (hY0 _) ?_
              clear hY0 cv ci crow'
              intro Y hY
              go_cut [] from 60 to 225 (fun wx => TMem g.n W.heap.size W (s.fin G' v) (.slice (some ⟨gs, 0, none⟩) L caps) (.slice (some ⟨gp, 0, none⟩) G'.length capp) wx)
              case first =>
                as_aux_lemma =>
                  rcases snoc_cases G' with hE | ⟨G'', u, hE⟩
                  · have hG0 : ¬ ((0 : Int) < (G'.length : Int)) := by rw [hE]; simp
                    have hfin : TMem g.n W.heap.size W (s.fin G' v) (.slice (some ⟨gs, 0, none⟩) L caps) (.slice (some ⟨gp, 0, none⟩) G'.length capp) Y := by
                      rw [hE] at hY ⊢
                      exact fin_nil_mem hY
                    clear hE
                    go_wp2
                    go_meet
                    case rel => exact hfin
                  · have hG0 : (0 : Int) < (G'.length : Int) := by rw [hE]; simp
                    have hlen : G'.length = G''.length + 1 := by rw [hE]; simp
                    have hun : u < g.n := by
                      have hu : u ∈ s.G := by rw [HG.out, hE]; simp
                      exact hinv.lt u (hinv.fS (hinv.gS u hu))
                    have clu : Y.cell? ⟨W.heap.size + 1, u, none⟩ = some (.int .i64 (s.low u : Int)) := hY.low.cell hun
                    have clv : Y.cell? ⟨W.heap.size + 1, v, none⟩ = some (.int .i64 (s.low v : Int)) := hY.low.cell hvn
                    have flu := hY.low.frozen u
                    have cu : Y.cell? ⟨gp, G''.length * 2, none⟩ = some (.int .i64 (u : Int)) := by
                      rw [hlen] at hY
                      exact (hY.frame (G' := G'') (v := u) hE).1
                    have hu' : (u : Int) < (g.n : Int) := by omega
                    obtain ⟨m, hm⟩ : ∃ m, G''.length = m := ⟨_, rfl⟩
                    rw [hm] at cu hlen
                    have hfs : ∀ y, min (s.low u) (s.low v) = y → TMem g.n W.heap.size W (s.fin G' v) (.slice (some ⟨gs, 0, none⟩) L caps) (.slice (some ⟨gp, 0, none⟩) G'.length capp) (Y.setCell ⟨W.heap.size + 1, u, none⟩ (nv y)) := fun y e => by
                      rw [hE] at hY ⊢
                      exact fin_snoc_mem hY e
                    have HE : Hid (G' = G'' ++ [u]) := hE
                    have HLen : Hid (G'.length = m + 1) := hlen
                    have hl1 : m + 1 ≤ G'.length := by omega
                    have hl2 : G'.length ≤ m + 1 := by omega
                    have hm1 : (G'.length : Int) - 1 = (m : Int) := by omega
                    by_cases hle : s.low u ≤ s.low v
                    · have hle' : (s.low u : Int) ≤ (s.low v : Int) := by omega
                      have hfs2 := hfs _ (Nat.min_eq_left hle)
                      clear hE hlen hle hfs hm
                      go_wp2
                      go_region
                      go_wp2
                      go_meet
                      case rel => exact hfs2.drew
                    · have hle' : (s.low v : Int) < (s.low u : Int) := by omega
                      have hfs2 := hfs _ (Nat.min_eq_right (show s.low v ≤ s.low u by omega))
                      clear hE hlen hle hfs hm
                      go_wp2
                      go_region
                      go_wp2
                      go_meet
                      case rel => exact hfs2.drew
              case rest =>
                as_aux_lemma =>
                  have hY := hcut
                  clear hcut
                  by_cases hlow : s.low v = s.found v
                  · have clv : wc.cell? ⟨W.heap.size + 1, v, none⟩ = some (.int .i64 (s.low v : Int)) := by
                      have := hY.low.cell hvn
                      rw [show (s.fin G' v).low v = s.low v from lowG_top s hnv] at this
                      exact this
                    have cfv : wc.cell? ⟨W.heap.size, v, none⟩ = some (.int .i64 (s.found v : Int)) := hY.found.cell hvn
                    have heq : ((s.low v : Int) == (s.found v : Int)) = true := beq_iff_eq.2 (by omega)
                    have hpop := fin_pop hwf hinv HG.out HI.out hlow HS.out
                    have hmu := fin_left hinv HG.out
                    have HL : Hid (s.low v = s.found v) := hlow
                    have hmem1 : ∀ j x, (v :: B)[j]? = some x → x < g.n := fun j x hj => hinv.lt x (hinv.fS (by rw [HS.out]; exact List.mem_append.2 (.inr (List.mem_of_getElem? hj))))
                    have huniq : ∀ j x, s.S[j]? = some x → A.length < j → x ≠ v := fun j x hj hlt e => stack_uniq hinv HS.out hj hlt e
                    have HU : Hid (∀ j x, s.S[j]? = some x → A.length < j → x ≠ v) := huniq
                    have HM1 : Hid (∀ j x, (v :: B)[j]? = some x → x < g.n) := hmem1
                    clear hlow hinv hvG hvS hmem1 huniq
                    go_wp2
                    go_quiet (fail)
                    go_wp2
                    go_loop [15] (fun i => ∃ k : Nat, A.length ≤ k ∧ k < L ∧ i = .int .i64 (k : Int)) (fun i => (intOf i).toNat)
                    case atStart => exact ⟨L - 1, by omega, by omega, by go_num⟩
                    case round =>
                      obtain ⟨k, hk1, hk2, rfl⟩ := hrel
                      by_cases hkA : k = A.length
                      · have ck : wc.cell? ⟨gs, A.length, none⟩ = some (.int .i64 (v : Int)) := hY.stackAt HL0.out (by show s.S[A.length]? = _; rw [HS.out]; simp)
                        have hnn : ((v : Int) != (v : Int)) = false := by simp
                        subst hkA
                        go_wp2
                        go_loopw [207] (fun i wr => ∃ j : Nat, j ≤ (v :: B).length ∧ i = .int .i64 (j : Int) ∧ TMem g.n W.heap.size W ((s.fin G' v).clear ((v :: B).take j) (decide ((1 : Int) < (L : Int) - (A.length : Int)))) (.slice (some ⟨gs, 0, none⟩) L caps) (.slice (some ⟨gp, 0, none⟩) G'.length capp) wr) (fun i _ => (v :: B).length - (intOf i).toNat)
                        case atStart => exact ⟨0, Nat.zero_le _, rfl, by rw [List.take_zero, clear_nil]; exact hY.drewN _⟩
                        case round =>
                          obtain ⟨j, hj, rfl, hmj⟩ := hrel
                          clear hY clv cfv heq ck
                          rw [List.length_cons] at hj
                          by_cases hjl : j < B.length + 1
                          · obtain ⟨x, hx⟩ : ∃ x, (v :: B)[j]? = some x := ⟨(v :: B)[j], List.getElem?_eq_getElem (by rw [List.length_cons]; exact hjl)⟩
                            have hxn := HM1.out j x hx
                            have cx : wr.cell? ⟨gs, A.length + j, none⟩ = some (.int .i64 (x : Int)) := hmj.stackAt HL0.out (by show s.S[A.length + j]? = _; rw [HS.out, List.getElem?_append_right (by omega), Nat.add_sub_cancel_left]; exact hx)
                            have chx : wr.cell? ⟨W.heap.size + 1 + 1, x, none⟩ = some (.bool _) := hmj.held.cell hxn
                            have crx : wr.cell? ⟨W.heap.size + 1 + 1 + 1, x, none⟩ = some (.bool _) := hmj.res.cell hxn
                            have fhx : wr.frozen? ⟨W.heap.size + 1 + 1, x, none⟩ = false := hmj.held.frozen x
                            have frx : wr.frozen? ⟨W.heap.size + 1 + 1 + 1, x, none⟩ = false := hmj.res.frozen x
                            have hjl' : (j : Int) < (L : Int) - (A.length : Int) := by omega
                            have hxn' : (x : Int) < (g.n : Int) := by omega
                            have hst := clear_step hx hmj
                            have HX : Hid ((v :: B)[j]? = some x) := hx
                            clear hx hmj
                            go_wp2
                            go_roundw
                            case rel => exact ⟨j + 1, by rw [List.length_cons]; omega, by go_num, hst⟩
                            case measure => simp [intOf]; omega
                          · have hje : j = B.length + 1 := by omega
                            have htk : (v :: B).take j = v :: B := List.take_of_length_le (by rw [List.length_cons]; omega)
                            rw [htk] at hmj
                            have hcut := hmj.stackCut (A := A) (C := v :: B) HL0.out HS.out
                            rw [pop_state (by rw [List.length_cons]; exact decide_eq_decide.2 (by omega))] at hcut
                            have hjl' : ¬ ((j : Int) < (L : Int) - (A.length : Int)) := by omega
                            clear hmj htk
                            go_wp2
                            go_roundg ((s.pop G' v A B).left g)
                            case measure => rw [pop_left]; omega
                            case rel => exact ⟨s.pop G' v A B, Nat.le_refl _, rfl, hpop, hvis, hcut⟩
                      · obtain ⟨x, hx⟩ : ∃ x, s.S[k]? = some x := ⟨s.S[k]'(by rw [HL0.out]; exact hk2), List.getElem?_eq_getElem (by rw [HL0.out]; exact hk2)⟩
                        have hxv := HU.out k x hx (by omega)
                        have ck : wc.cell? ⟨gs, k, none⟩ = some (.int .i64 (x : Int)) := hY.stackAt HL0.out hx
                        have hnn : ((x : Int) != (v : Int)) = true := by rw [bne_iff_ne]; omega
                        have hk0 : 0 < k := by omega
                        clear hx
                        go_wp2
                        go_round
                        case rel => exact ⟨k - 1, by omega, by omega, by go_num⟩
                        case measure => simp [intOf]; omega
                  · have clv : wc.cell? ⟨W.heap.size + 1, v, none⟩ = some (.int .i64 (s.low v : Int)) := by
                      have := hY.low.cell hvn
                      rw [show (s.fin G' v).low v = s.low v from lowG_top s hnv] at this
                      exact this
                    have cfv : wc.cell? ⟨W.heap.size, v, none⟩ = some (.int .i64 (s.found v : Int)) := hY.found.cell hvn
                    have hneq : ((s.low v : Int) == (s.found v : Int)) = false := beq_eq_false_iff_ne.2 (by omega)
                    have hkeep := fin_keep hinv HG.out HI.out hlow
                    have hmu := fin_left hinv HG.out
                    clear hlow hinv hvG hvS
                    go_wp2
                    go_quiet (fail)
                    go_wp2
                    go_roundg ((s.fin G' v).left g)
                    case measure => omega
                    case rel => exact ⟨s.fin G' v, Nat.le_refl _, rfl, hkeep, hvis, hY.drewN _⟩
      · have hpos : (0 : Int) < (s.found r : Int) := by omega
        go_wp2
        go_roundw
        case rel => exact ⟨r + 1, s, by omega, by go_num, rfl, hinv, hG, vis_succ hvis hf0, hmem⟩
        case measure => simp [intOf]; omega
    · have hall : ∀ v, v < g.n → (s.res v = true ↔ g.OnC v) := fun v hv => hinv.result hG (fun v hv => hvis v (by omega)) hv
      have hres := hmem.res
      have hbl := hmem.below
      clear hinv hG hvis hmem
      go_wp2
      go_ret
      exact ⟨s.res, rfl, hres, hall, hbl⟩

end Go.Proofs.Qxb6601852a
