import Derived.Test.Qxb6601805aGroups
import Derived.Test.Qxb6601805aReached
import Derived.Test.Qxb6601805aClone
import Derived.Deep.RegionHeld3
import Derived.Test.Qxb6601805aSort
import Derived.Deep.LoopGhost
import Derived.BigRegion
namespace Go.Proofs.Qxb6601805a
open Go.RowKit

theorem cell3 {X : World} {b : Nat} {t : TypeId} {a0 a1 a2 : Value} (h : X.heap[b]? = some (.cells #[a0, a1, a2] t)) : X.cell? ⟨b, 1, none⟩ = some a1 ∧ X.cell? ⟨b, 2, none⟩ = some a2 := by simp [World.cell?, h]

theorem put_cell {X : World} {B b n : Nat} {F : ByteArray → Option Value} (h : SMap X B F) (s : ByteArray) (v : Value) (hne : b ≠ B) : (putMap X B s v).cell? ⟨b, n, none⟩ = X.cell? ⟨b, n, none⟩ :=
  World.cell?_of_block (w := X) (putMap_block h s v b hne)

/-- The strings that are not marked, in their order. -/
def unm (ss : Nat → ByteArray) (r : ByteArray → Bool) (k : Nat) : List ByteArray := ((List.range k).filter fun i => !r (ss i)).map ss

theorem unm_succ (ss : Nat → ByteArray) (r : ByteArray → Bool) (k : Nat) : unm ss r (k + 1) = if r (ss k) then unm ss r k else unm ss r k ++ [ss k] := by
  cases h : r (ss k) <;> simp [unm, List.range_succ, h]

theorem unm_len (ss : Nat → ByteArray) (r : ByteArray → Bool) (k : Nat) : (unm ss r k).length ≤ k := by
  have := List.length_filter_le (fun i => !r (ss i)) (List.range k)
  simpa [unm] using this

/-- What unreachable leaves: nil where every state is reached; else the others, in ascending order. -/
def UnrPost (w : World) (sl : Nat) (ss : Nat → ByteArray) (rl : Nat) (sf st : Nat → ByteArray) (ini : ByteArray) (e : Ending) (w' : World) : Prop :=
  ∃ r : ByteArray → Bool, (∀ s, r s = true ↔ Reach rl sf st ini s) ∧ Below w.heap.size w w' ∧
    ((unm ss r sl = [] ∧ e = .returned (.slice none 0 0)) ∨
     (unm ss r sl ≠ [] ∧ ∃ g cap T, e = .returned (.slice (some ⟨g, 0, none⟩) (unm ss r sl).length cap) ∧ List.Perm T (unm ss r sl) ∧ Ascends T ∧ Strs w' (some ⟨g, 0, none⟩) (unm ss r sl).length (fun i => T.getD i ByteArray.empty)))

/-- The search's state: the frontier F, the marks r. -/
def Dfs (W1 : World) (H rl : Nat) (sf st : Nat → ByteArray) (ini : ByteArray) (gk : Nat) (v : Value) (X : World) : Prop :=
  ∃ (F : List ByteArray) (r : ByteArray → Bool), X.ownsRow (H + 1) 9 1 v F.length (F.map Value.string) ∧ SMap X H (fs r) ∧ Below H W1 X ∧ H + 2 ≤ X.heap.size ∧ r ini = true ∧ Sound rl sf st ini r ∧
    (∀ s, s ∈ F → r s = true) ∧ (∀ s, r s = true → s ∈ F ∨ ∀ x, x ∈ succs sf st rl s → r x = true) ∧ 2 * (rl - cnt rl st r) + F.length ≤ gk ∧ gk ≤ 2 * rl + 1

/-- .. while the successors of x are gone through, j of them done. -/
def DfsIn (W1 : World) (H rl : Nat) (sf st : Nat → ByteArray) (ini : ByteArray) (gk : Nat) (x : ByteArray) (j : Nat) (v : Value) (X : World) : Prop :=
  ∃ (F : List ByteArray) (r : ByteArray → Bool), X.ownsRow (H + 1) 9 1 v F.length (F.map Value.string) ∧ SMap X H (fs r) ∧ Below H W1 X ∧ H + 2 ≤ X.heap.size ∧ r ini = true ∧ Sound rl sf st ini r ∧
    (∀ s, s ∈ F → r s = true) ∧ r x = true ∧ (∀ s, r s = true → s ∈ F ∨ s = x ∨ ∀ y, y ∈ succs sf st rl s → r y = true) ∧ (∀ i, i < j → r ((succs sf st rl x).getD i ByteArray.empty) = true) ∧
    2 * (rl - cnt rl st r) + F.length + 1 ≤ gk ∧ gk ≤ 2 * rl + 1

theorem DfsIn.done {W1 : World} {H rl : Nat} {sf st : Nat → ByteArray} {ini : ByteArray} {gk : Nat} {x : ByteArray} {v : Value} {X : World} (h : DfsIn W1 H rl sf st ini gk x (succs sf st rl x).length v X) : Dfs W1 H rl sf st ini (gk - 1) v X := by
  obtain ⟨F, r, h1, h2, h3, h4, h5, h6, h7, h8, h9, h10, h11, h12⟩ := h
  refine ⟨F, r, h1, h2, h3, h4, h5, h6, h7, fun s hs => ?_, by omega, by omega⟩
  rcases h9 s hs with h | rfl | h
  · exact .inl h
  · refine .inr fun y hy => ?_
    obtain ⟨i, hi, rfl⟩ := List.mem_iff_getElem.1 hy
    have := h10 i hi
    simpa [List.getD, hi] using this
  · exact .inr h

theorem dfs_start (W1 : World) (rl : Nat) (sf st : Nat → ByteArray) (ini : ByteArray) (hb7 : Below W1.heap.size W1 (putMap (W1.alloc (.map #[] 0)) W1.heap.size ini (.bool true))) :
    Dfs W1 W1.heap.size rl sf st ini (2 * rl + 1) (.slice (some ⟨W1.heap.size + 1, 0, none⟩) 1 1) ((putMap (W1.alloc (.map #[] 0)) W1.heap.size ini (.bool true)).alloc (.cells #[.string ini] 9)) := by
  have hps := putMap_size (W1.alloc (.map #[] 0)) W1.heap.size ini (.bool true)
  rw [Deep.nblk_alloc] at hps
  refine ⟨[ini], mark (fun _ => false) ini, ⟨rfl, .inr ⟨W1.heap.size + 1, 1, #[.string ini], rfl, Nat.le_refl _, ?_, Nat.le_refl _, by unfold maxLen; omega, rfl, rfl⟩⟩, (set_made W1 ini).alloc _, hb7.alloc (by omega) _, by rw [Deep.nblk_alloc]; omega, mark_self _ _, ?_, ?_, ?_, by simp; omega, Nat.le_refl _⟩
  · have := Deep.blk_alloc_new (putMap (W1.alloc (.map #[] 0)) W1.heap.size ini (.bool true)) (.cells #[.string ini] 9)
    rwa [hps] at this
  · intro s hh
    rcases mark_cases hh with rfl | hh
    · exact Reach.start
    · cases hh
  · intro s hs
    simp at hs; subst hs; exact mark_self _ _
  · intro s hs
    rcases mark_cases hs with rfl | hh
    · exact .inl (by simp)
    · cases hh

theorem group_strs {w : World} {base B : Nat} {f : ByteArray → Option Value} {g : ByteArray → List ByteArray} (h : GroupsAt w base B f g) (s : ByteArray) {k : Nat} (hk : (g s).length ≤ k) (hb : k * 48 ≤ 140737488351232) :
    ∃ ad cap, (f s).getD nilS = .slice ad (g s).length cap ∧ Strs w ad (g s).length (fun i => (g s).getD i ByteArray.empty) := by
  have ho := h.2.1 s
  rcases ho.2 with ⟨h1, h2⟩ | ⟨b, cap, cur, h1, h2, h3, h4, h5, h6, h7⟩
  · exact ⟨none, 0, by rw [h1, h2], by omega, fun hp => by omega⟩
  · refine ⟨some ⟨b, 0, none⟩, cap, h1, by omega, fun _ => ⟨b, 0, rfl, (Array.getElem?_eq_some_iff.1 h3).1, fun i hi => ?_⟩⟩
    have := ho.cells (g := b) (by rw [h1]; rfl) i (.string ((g s).getD i ByteArray.empty)) (by simp [List.getD, hi])
    simpa [Addr.add_lit] using this

theorem closed_of {rl : Nat} {sf st : Nat → ByteArray} {r : ByteArray → Bool} (h : ∀ s, r s = true → s ∈ ([] : List ByteArray) ∨ ∀ x, x ∈ succs sf st rl s → r x = true) : ClosedTo sf st r rl := by
  intro k hk hr
  rcases h _ hr with h | h
  · cases h
  · exact h _ (mem_succs.2 ⟨k, hk, rfl, rfl⟩)

theorem groups_round {wr w2 : World} {A B : Obj} {base M : Nat} {F : ByteArray → Option Value} {sf st : Nat → ByteArray} {k : Nat} {v : Value} {U : List ByteArray} {g2 cap3 : Nat} (hgr : GroupsAt wr base M F (succs sf st k))
    (hv : (F (sf k)).getD nilS = v) (hU : succs sf st k (sf k) = U) (hgrow : ((wr.alloc A).alloc B).drew.grownBy w2 v.ownBlock)
    (hown3 : w2.ownsRow base 9 1 (.slice (some ⟨g2, 0, none⟩) (U.length + 1) cap3) (U.length + 1) (U.map Value.string ++ [.string (st k)])) (hat : v.ownBlock = some g2 ∨ g2 = wr.heap.size + 2) :
    Groups (putMap w2 M (sf k) (.slice (some ⟨g2, 0, none⟩) (U.length + 1) cap3)) base M (succs sf st (k + 1)) ∧ wr.grownBy w2 v.ownBlock ∧ SMap w2 M F := by
  subst hv hU
  have h1 := grownBy_trans (World.grownBy_alloc wr A ((F (sf k)).getD nilS).ownBlock) (World.grownBy_alloc (wr.alloc A) B ((F (sf k)).getD nilS).ownBlock)
  have h2 : wr.grownBy w2 ((F (sf k)).getD nilS).ownBlock := grownBy_trans (b := ((wr.alloc A).alloc B).drew) ⟨h1.os, h1.tape, h1.output, h1.size, h1.block⟩ hgrow
  obtain ⟨hm, hst⟩ := hgr.step (sf k) (st k) h2 hown3 (by
    rcases hat with h | h
    · exact .inl h.symm
    · exact .inr ⟨g2, rfl, by omega⟩)
  refine ⟨⟨_, hst.1, fun s => ?_, hst.2.2⟩, h2, hm⟩
  rw [succs_succ]
  exact hst.2.1 s

/-- A successor that is not yet marked: it is marked and goes onto the frontier. -/
theorem DfsIn.push {W1 X1 X2 : World} {H rl : Nat} {sf st : Nat → ByteArray} {ini : ByteArray} {gk : Nat} {x : ByteArray} {j : Nat} {v v' : Value} {F : List ByteArray} {r : ByteArray → Bool} (hj : j < (succs sf st rl x).length)
    (hx : r x = true) (hini : r ini = true) (hsd : Sound rl sf st ini r) (hF : ∀ s, s ∈ F → r s = true) (hcl : ∀ s, r s = true → s ∈ F ∨ s = x ∨ ∀ y, y ∈ succs sf st rl s → r y = true)
    (hdone : ∀ i, i < j → r ((succs sf st rl x).getD i ByteArray.empty) = true) (hm : 2 * (rl - cnt rl st r) + F.length + 1 ≤ gk) (hg : gk ≤ 2 * rl + 1)
    (hy : r ((succs sf st rl x).getD j ByteArray.empty) = false)
    (hown : X2.ownsRow (H + 1) 9 1 v' (F.length + 1) (F.map Value.string ++ [.string ((succs sf st rl x).getD j ByteArray.empty)])) (hmap : SMap X1 H (fs (mark r ((succs sf st rl x).getD j ByteArray.empty))))
    (hgr : X1.grownBy X2 v.ownBlock) (hne : some H ≠ v.ownBlock) (hvb : ∀ k, v.ownBlock = some k → H + 1 ≤ k) (hb : Below H W1 X1) (hsz : H + 2 ≤ X1.heap.size) :
    DfsIn W1 H rl sf st ini gk x (j + 1) v' X2 := by
  generalize hyy : (succs sf st rl x).getD j ByteArray.empty = y at *
  have hmem : y ∈ succs sf st rl x := by
    rw [← hyy]
    simp only [List.getD, List.getElem?_eq_getElem hj, Option.getD_some]
    exact List.getElem_mem hj
  obtain ⟨i, hi, e1, e2⟩ := mem_succs.1 hmem
  have hreach : Reach rl sf st ini y := by rw [← e2]; exact Reach.step hi (by rw [e1]; exact hsd x hx)
  have hcm : cnt rl st r + 1 ≤ cnt rl st (mark r y) := by
    have := cnt_mark rl st (r := r) hi (by rw [e2]; exact hy)
    rwa [e2] at this
  have hcle := cnt_le rl st (mark r y)
  refine ⟨F ++ [y], mark r y, by simpa using hown, hmap.grown hgr hne, hb.grown hgr (by omega) (fun k hk => by have := hvb k hk; omega), Nat.le_trans hsz hgr.size, mark_of hini, hsd.mark hreach, ?_, mark_of hx, ?_, ?_, by simp; omega, hg⟩
  · intro s hs
    rcases List.mem_append.1 hs with h | h
    · exact mark_of (hF s h)
    · simp at h; subst h; exact mark_self _ _
  · intro s hs
    rcases mark_cases hs with rfl | hs
    · exact .inl (by simp)
    · rcases hcl s hs with h | h | h
      · exact .inl (by simp [h])
      · exact .inr (.inl h)
      · exact .inr (.inr fun z hz => mark_of (h z hz))
  · intro i' hi'
    by_cases e : i' = j
    · subst e; rw [hyy]; exact mark_self _ _
    · exact mark_of (hdone i' (by omega))

set_option maxHeartbeats 2000000 in
theorem unr_any (name ini : ByteArray) (ta sa ra : Option Addr) (tl tc sl sc rl rc : Nat) (ss se sf st : Nat → ByteArray) (w : World) (hs : Strs w sa sl ss) (hr : Trs w ra rl se sf st) :
    Calls Try.prog 24 #[.agg #[.string name, .slice ta tl tc, .string ini, .slice sa sl sc, .slice ra rl rc]] w (UnrPost w sl ss rl sf st ini) := by
  have hls := hs.1
  have hlr := hr.1
  have hmm := @run_makeMap Try.prog
  obtain ⟨i0, hi0, hz0, hz1, hz2⟩ := info_parts Try.info9
  go_enter Try.func24, Try.ntmps24
  go_wp2
  go_loopw [18] (fun i wr => ∃ k : Nat, k ≤ rl ∧ i = .int .i64 k ∧ Groups wr (w.heap.size + 2) (w.heap.size + 1) (succs sf st k) ∧
      wr.heap[w.heap.size]? = some (.cells #[.string name, .slice ta tl tc, .string ini, .slice sa sl sc, .slice ra rl rc] 31 (0, 0)) ∧ Below w.heap.size w wr ∧ w.heap.size + 2 ≤ wr.heap.size) (fun i _ => rl - (intOf i).toNat)
  case atStart =>
    refine ⟨0, by omega, rfl, ?_, ?_, ((Below.refl _ _).alloc (Nat.le_refl _) _).alloc (by simp) _, by simp⟩
    · have := Groups.made (w.alloc (.cells #[.string name, .slice ta tl tc, .string ini, .slice sa sl sc, .slice ra rl rc] 31)) (w.heap.size + 2)
      rw [Deep.nblk_alloc] at this
      exact this
    · rw [Deep.blk_alloc_lt _ _ _ (by simp)]
      exact Deep.blk_alloc_new _ _
  case round =>
    obtain ⟨k, hk, rfl, ⟨F, hgr⟩, hbox, hbl, hsz⟩ := hrel
    by_cases hlt : k < rl
    · obtain ⟨b, off, rfl, hb, hc⟩ := hr.2 (by omega)
      have c0 := (hbl.cell (p := ⟨b, _, none⟩) (by exact hb)).trans (hc k hlt).1
      have c1 := (hbl.cell (p := ⟨b, _, none⟩) (by exact hb)).trans (hc k hlt).2.1
      have c2 := (hbl.cell (p := ⟨b, _, none⟩) (by exact hb)).trans (hc k hlt).2.2
      have HB : Hid (wr.heap[w.heap.size]? = some (.cells #[.string name, .slice ta tl tc, .string ini, .slice sa sl sc, .slice (some ⟨b, off, none⟩) rl rc] 31 (0, 0))) := hbox
      have hlt' : (k : Int) < (rl : Int) := by omega
      have hv := hgr.2.1 (sf k)
      have hul := succs_len sf st k (sf k)
      obtain ⟨v, hve⟩ : ∃ v, (F (sf k)).getD nilS = v := ⟨_, rfl⟩
      obtain ⟨U, hUe⟩ : ∃ U, succs sf st k (sf k) = U := ⟨_, rfl⟩
      rw [hve, hUe] at hv
      rw [hUe] at hul
      have hmA := hgr.1.alloc (.cells #[.string (se k), .string (sf k), .string (st k)] 47)
      have hmB := hmA.alloc (.cells #[.string (st k)] 9)
      have hne := hgr.1.ne_row hv
      have hownB := (hv.alloc (.cells #[.string (se k), .string (sf k), .string (st k)] 47)).alloc (.cells #[.string (st k)] 9)
      have hnews : ∀ (j : Nat) (u : Value), [Value.string (st k)][j]? = some u → ((wr.alloc (.cells #[.string (se k), .string (sf k), .string (st k)] 47)).alloc (.cells #[.string (st k)] 9)).drew.cell? ((⟨wr.heap.size + 1, 0, none⟩ : Addr).add j) = some u := by
        have := World.news_of_block (cs := #[.string (st k)]) (t := 9) (fr := (0, 0)) (heap_alloc_new (wr.alloc (.cells #[.string (se k), .string (sf k), .string (st k)] 47)) (.cells #[.string (st k)] 9))
        rw [Deep.nblk_alloc] at this
        exact this
      have hbA : ((wr.alloc (.cells #[.string (se k), .string (sf k), .string (st k)] 47)).alloc (.cells #[.string (st k)] 9)).drew.heap[wr.heap.size]? = some (.cells #[.string (se k), .string (sf k), .string (st k)] 47) := (Deep.blk_alloc_lt _ _ _ (by rw [Deep.nblk_alloc]; omega)).trans (Deep.blk_alloc_new _ _)
      have hcB1 : ((wr.alloc (.cells #[.string (se k), .string (sf k), .string (st k)] 47)).alloc (.cells #[.string (st k)] 9)).drew.cell? ⟨wr.heap.size, 1, none⟩ = some (.string (sf k)) := by simp [World.cell?, hbA]
      have hcB2 : ((wr.alloc (.cells #[.string (se k), .string (sf k), .string (st k)] 47)).alloc (.cells #[.string (st k)] 9)).drew.cell? ⟨wr.heap.size, 2, none⟩ = some (.string (st k)) := by simp [World.cell?, hbA]
      have hltB : ∀ n, (⟨wr.heap.size, n, none⟩ : Addr).block < ((wr.alloc (.cells #[.string (se k), .string (sf k), .string (st k)] 47)).alloc (.cells #[.string (st k)] 9)).drew.heap.size := fun n => by
        show wr.heap.size < ((wr.alloc _).alloc _).heap.size
        rw [Deep.nblk_alloc, Deep.nblk_alloc]; omega
      have hbA0 : (wr.alloc (.cells #[.string (se k), .string (sf k), .string (st k)] 47)).drew.heap[wr.heap.size]? = some (.cells #[.string (se k), .string (sf k), .string (st k)] 47) := Deep.blk_alloc_new _ _
      have hcA1 : (wr.alloc (.cells #[.string (se k), .string (sf k), .string (st k)] 47)).drew.cell? ⟨wr.heap.size, 1, none⟩ = some (.string (sf k)) := (cell3 hbA0).1
      have hcA2 : (wr.alloc (.cells #[.string (se k), .string (sf k), .string (st k)] 47)).drew.cell? ⟨wr.heap.size, 2, none⟩ = some (.string (st k)) := (cell3 hbA0).2
      have hlA := look50 hmA.drew (sf k)
      have hlB := look50 hmB.drew (sf k)
      rw [hve] at hlA hlB
      have hneM : wr.heap.size ≠ w.heap.size + 1 := by omega
      clear hbA hbA0
      have hvn : ∀ n, some (⟨wr.heap.size, n, none⟩ : Addr).block ≠ v.ownBlock := fun n h => Nat.lt_irrefl _ (hv.lt _ h.symm).2
      have HV : Hid ((F (sf k)).getD nilS = v) := hve
      have HU : Hid (succs sf st k (sf k) = U) := hUe
      have hb1 : U.length + 1 ≤ maxLen := by unfold maxLen; omega
      have hb2 : (U.length + 1) * 16 ≤ 140737488355328 := by omega
      clear hc hbox hve hUe
      go_wp2
      go_region_held3 (fun X => X.cell? ⟨wr.heap.size, 1, none⟩ = some (.string (sf k)) ∧ X.cell? ⟨wr.heap.size, 2, none⟩ = some (.string (st k)))
        (first
          | exact ⟨hcA1, hcA2⟩
          | exact ⟨hcB1, hcB2⟩
          | exact ⟨hc21, hc22⟩
          | exact ⟨(put_cell hm2 _ _ hneM).trans hc21, (put_cell hm2 _ _ hneM).trans hc22⟩)
        ((refine step_append_lies _ (by rfl) _ _ _ (by rfl) (w.heap.size + 2) 9 i0 _ 1 16 Try.underlying22 hi0 hz0 hz1 hz2 rfl (by omega) v U.length (U.map Value.string) (by rfl) hownB.drew ⟨wr.heap.size + 1, 0, none⟩ 1 1 [.string (st k)] (by rfl) (by rfl) hnews (by simp [Value.oneCell']) (by omega) hb1 hb2 (by simp; omega) (wr.heap.size + 2) (by simp) ?_; intro g2 cap3 w2 hown3 hgrow hat hlt2; have hm2 := hmB.drew.grown hgrow hne; have hput := fun u => put50 hm2 (sf k) u; have hc21 := (hgrow.cell_far _ (hltB 1) (hvn 1)).trans hcB1; have hc22 := (hgrow.cell_far _ (hltB 2) (hvn 2)).trans hcB2))
      all_goals
        go_wp2
        go_roundw
        case rel =>
          obtain ⟨hgs, hgw, hm2'⟩ := groups_round hgr HV.out HU.out hgrow hown3 hat
          refine ⟨k + 1, by omega, by go_num, hgs, ?_, ?_, ?_⟩
          · refine (putMap_block hm2' _ _ _ (by omega)).trans ((hgw.block _ (by omega) ?_).trans HB.out)
            intro h
            have := (hv.lt _ h.symm).1
            omega
          · exact below_put (hbl.grown hgw hbl.size (fun j hj => by have := (hv.lt j hj).1; omega)) hm2' (by omega) _ _
          · rw [putMap_size]; have := hgw.size; omega
        case measure => simp [intOf]; omega
    · obtain ⟨W1, rfl⟩ : ∃ W1, W1 = wr := ⟨wr, rfl⟩
      have hkl : k = rl := by omega
      subst hkl
      have HB : Hid (W1.heap[w.heap.size]? = some (.cells #[.string name, .slice ta tl tc, .string ini, .slice sa sl sc, .slice ra k rc] 31 (0, 0))) := hbox
      have hb7 : Below W1.heap.size W1 (putMap (W1.alloc (.map #[] 0)) W1.heap.size ini (.bool true)) := below_put ((Below.refl _ _).alloc (Nat.le_refl _) _) (SMap.made W1) (Nat.le_refl _) _ _
      have bi : W1.cell? ⟨w.heap.size, 2, none⟩ = some (.string ini) := by simp [World.cell?, hbox]
      have bs : W1.cell? ⟨w.heap.size, 3, none⟩ = some (.slice sa sl sc) := by simp [World.cell?, hbox]
      have bi1 : (W1.alloc (.map #[] 0)).cell? ⟨w.heap.size, 2, none⟩ = some (.string ini) := (World.cell?_of_block (w := W1) (Deep.blk_alloc_lt _ _ _ (by show w.heap.size < W1.heap.size; omega))).trans bi
      have bi7 := (hb7.cell (p := ⟨w.heap.size, 2, none⟩) (by show w.heap.size < W1.heap.size; omega)).trans bi
      have hins := put33 (SMap.made W1) ini (.bool true)
      have hps := putMap_size (W1.alloc (.map #[] 0)) W1.heap.size ini (.bool true)
      clear hbox hk hlt
      go_wp2
      go_loopg [7] (2 * k + 1) (fun gk v wr => Dfs W1 W1.heap.size k sf st ini gk v wr)
      case atStart => exact dfs_start W1 k sf st ini hb7
      case round =>
        clear hb7 bi1 bi7 hins hps
        obtain ⟨F, r, hown, hmap, hblo, hsz2, hini, hsd, hF, hcl, hms, hgk⟩ := hrel
        by_cases hFn : F = []
        · subst hFn
          have hfin := reach_iff hini hsd (closed_of hcl)
          obtain ⟨W2, rfl⟩ : ∃ W2, W2 = wr := ⟨wr, rfl⟩
          have bs2 := (hblo.cell (p := ⟨w.heap.size, 3, none⟩) (by show w.heap.size < W1.heap.size; omega)).trans bs
          have hbl2 : Below w.heap.size w W2 := hbl.trans (hblo.mono (by omega))
          clear hcl hini hsd hF hms bs bi hbl
          obtain ⟨a0, c0, rfl⟩ : ∃ a0 c0, u7 = .slice a0 0 c0 := by
            rcases hown.2 with ⟨h, _⟩ | ⟨g, cap, cur, h, _⟩
            · exact ⟨none, 0, h⟩
            · exact ⟨_, cap, h⟩
          clear hown hgk hgr HB hsz hr
          go_wp2
          go_loopw [11, 77] (fun v i wr => ∃ m : Nat, m ≤ sl ∧ i = .int .i64 m ∧ wr.ownsRow W2.heap.size 9 1 v (unm ss r m).length ((unm ss r m).map Value.string) ∧ (unm ss r m = [] → v = .slice none 0 0) ∧ Below W2.heap.size W2 wr) (fun _ i _ => sl - (intOf i).toNat)
          case atStart => exact ⟨0, by omega, rfl, World.ownsRow_nil _ _ _ _, fun _ => rfl, Below.refl _ _⟩
          case round =>
            obtain ⟨m, hm, rfl, hown, hnil, hb3⟩ := hrel
            have hul := unm_len ss r m
            have hW := hbl2.size
            by_cases hlt : m < sl
            · obtain ⟨b, off, rfl, hb, hc⟩ := hs.2 (by omega)
              have hcm := ((hb3.cell (p := ⟨b, _, none⟩) (by show b < W2.heap.size; omega)).trans (hbl2.cell (p := ⟨b, _, none⟩) (by exact hb))).trans (hc m hlt)
              have hlook := look33 (hmap.below hb3 (by omega)) (ss m)
              have HS : Hid (unm ss r (m + 1) = if r (ss m) then unm ss r m else unm ss r m ++ [ss m]) := unm_succ ss r m
              have HN : Hid (unm ss r m = [] → u11 = .slice none 0 0) := hnil
              clear hc hnil
              by_cases hrm : r (ss m) = true
              · go_wp2
                go_roundw
                case rel =>
                  have e := HS.out
                  rw [if_pos hrm] at e
                  exact ⟨m + 1, by omega, by go_num, by rw [e]; exact hown, by rw [e]; exact HN.out, hb3⟩
                case measure => simp [intOf]; omega
              · have hrm : r (ss m) = false := by simpa using hrm
                have hown2 := hown.alloc (.cells #[.string (ss m)] 9)
                have hb1 : (unm ss r m).length + 1 ≤ maxLen := by unfold maxLen; omega
                have hb2 : ((unm ss r m).length + 1) * 16 ≤ 140737488355328 := by omega
                have hnews := World.news_of_block (cs := #[.string (ss m)]) (t := 9) (fr := (0, 0)) (heap_alloc_new wr (.cells #[.string (ss m)] 9))
                have hvb : ∀ k, u11.ownBlock = some k → W2.heap.size ≤ k := fun k hk => (hown.lt k hk).1
                have hz3 := hb3.size
                go_wp2_with (at_builtin; refine wpList_append_lies _ rfl _ _ 22 rfl W2.heap.size 9 i0 _ 1 16 Try.underlying22 hi0 hz0 hz1 hz2 rfl (by omega) u11 (unm ss r m).length ((unm ss r m).map Value.string) rfl hown2 ⟨wr.heap.size, 0, none⟩ 1 1 [.string (ss m)] rfl rfl hnews (by simp [Value.oneCell']) (by omega) hb1 hb2 (by rw [Deep.nblk_alloc]; omega) (wr.heap.size + 1) (by rw [Deep.nblk_alloc]) ?_; intro g2 cap3 w2 hown3 hgrow hat hlt2)
                go_roundw
                case rel =>
                  have e := HS.out
                  rw [if_neg (by rw [hrm]; exact Bool.false_ne_true)] at e
                  exact ⟨m + 1, by omega, by go_num, by rw [e]; simpa using hown3, by rw [e]; simp, (hb3.alloc hz3 _).grown hgrow (by rw [Deep.nblk_alloc]; omega) hvb⟩
                case measure => simp [intOf]; omega
            · have hml : m = sl := by omega
              subst hml
              by_cases hU : unm ss r m = []
              · obtain rfl := hnil hU
                have HU : Hid (unm ss r m = []) := hU
                clear hnil hU hown
                go_wp2_with fail
                refine (Try.slices_Sort_string_none _ _ _).mono ?_
                rintro e w3 ⟨rfl, rfl⟩
                go_wp2
                go_ret
                exact ⟨r, hfin, hbl2.trans (hb3.mono hW), .inl ⟨HU.out, rfl⟩⟩
              · have hpos : 0 < (unm ss r m).length := by
                  rcases Nat.eq_zero_or_pos (unm ss r m).length with h | h
                  · exact absurd (List.eq_nil_of_length_eq_zero h) hU
                  · exact h
                obtain ⟨g, cap, rfl, hg1, hg2⟩ := hown.form hpos
                clear hnil
                have hsrt := sort_any W2.heap.size g cap (unm ss r m) wr hown (by omega)
                obtain ⟨U, hUe⟩ : ∃ U, U = unm ss r m := ⟨_, rfl⟩
                have HU : Hid (U = unm ss r m) := hUe
                rw [← hUe] at hsrt hpos hul
                rw [← hUe]
                clear hown hUe hU
                go_wp2_with fail
                refine hsrt.mono ?_
                rintro e w3 ⟨rfl, T, hT1, hT2, hT3, hT4⟩
                go_wp2
                go_ret
                have hTl : T.length = U.length := hT1.length_eq
                have hz3 := hT4.size
                refine ⟨r, hfin, (hbl2.trans (hb3.mono hW)).grown hT4 (by omega) (fun k hk => by cases hk; omega), .inr ?_⟩
                rw [← HU.out]
                refine ⟨fun h => by rw [h] at hpos; exact absurd hpos (by simp), g, cap, T, rfl, hT1, hT2, by omega, fun _ => ⟨g, 0, rfl, by omega, fun i hi => ?_⟩⟩
                have := hT3.cells (g := g) rfl i (.string (T.getD i ByteArray.empty)) (by simp [List.getD, hTl, hi])
                simpa [Addr.add_lit] using this
        · obtain ⟨F', x, rfl⟩ : ∃ F' x, F = F' ++ [x] := ⟨F.dropLast, F.getLast hFn, (List.dropLast_concat_getLast hFn).symm⟩
          clear hFn
          simp only [List.length_append, List.length_cons, List.length_nil, Nat.zero_add, List.map_append, List.map_cons, List.map_nil] at hown hms
          obtain ⟨ad, cap2, hv50, hst⟩ := group_strs hgr x (succs_len sf st k x) hlr
          have hl50 := look50 (hgr.1.below hblo (by omega)) x
          rw [hv50] at hl50
          rcases hown.2 with ⟨_, hh⟩ | ⟨g, cap, cur, rfl, hg1, hg2, hg3, hg4, hg5, hg6⟩
          · omega
          have hcx : wr.cell? ⟨g, F'.length, none⟩ = some (.string x) := by
            have := hown.cells (g := g) rfl F'.length (.string x) (by simp)
            simpa [Addr.add_lit] using this
          have hrx := hF x (by simp)
          have hin : DfsIn W1 W1.heap.size k sf st ini gk x 0 (.slice (some ⟨g, 0, none⟩) F'.length cap) wr := by
            refine ⟨F', r, ownsRow_pop (by simp) hown, hmap, hblo, hsz2, hini, hsd, fun s hs => hF s (by simp [hs]), hrx, fun s hs => ?_, fun i hi => by omega, by omega, hgk⟩
            rcases hcl s hs with h | h
            · rcases List.mem_append.1 h with h | h
              · exact .inl h
              · simp at h; exact .inr (.inl h)
            · exact .inr (.inr h)
          have hFl : F'.length + 1 ≤ cap := hg3
          have hFm : F'.length + 1 ≤ 2 * k + 1 := by omega
          unfold maxLen at hg4
          clear hg1 hg2 hg3 hg5 hg6 hown hmap hblo hini hsd hF hcl hms
          go_wp2
          go_loopw [7, 59] (fun v i wr => ∃ j : Nat, j ≤ (succs sf st k x).length ∧ i = .int .i64 j ∧ DfsIn W1 W1.heap.size k sf st ini gk x j v wr) (fun _ i _ => (succs sf st k x).length - (intOf i).toNat)
          case atStart => exact ⟨0, by omega, rfl, hin⟩
          case round =>
            clear hin hsz2 hcx hl50 hFl hFm hg4 hrx
            obtain ⟨j, hj, rfl, F, r, hown, hmap, hblo, hsz2, hini, hsd, hF, hrx, hcl, hdone, hms, _⟩ := hrel
            have hul := succs_len sf st k x
            by_cases hlt : j < (succs sf st k x).length
            · obtain ⟨b, off, rfl, hb, hc⟩ := hst.2 (by omega)
              have hcj := (hblo.cell (p := ⟨b, _, none⟩) (by exact hb)).trans (hc j hlt)
              obtain ⟨y, hy⟩ : ∃ y, y = (succs sf st k x).getD j ByteArray.empty := ⟨_, rfl⟩
              have hcy : wr.cell? ⟨b, off + j, none⟩ = some (.string y) := by rw [hy]; exact hcj
              have hlook := look33 hmap y
              have HY : Hid (y = (succs sf st k x).getD j ByteArray.empty) := hy
              clear hc hcj hy
              by_cases hry : r y = true
              · have hnext : DfsIn W1 W1.heap.size k sf st ini gk x (j + 1) u7 wr := by
                  refine ⟨F, r, hown, hmap, hblo, hsz2, hini, hsd, hF, hrx, hcl, fun i hi => ?_, hms, hgk⟩
                  by_cases e : i = j
                  · subst e; rw [← HY.out]; exact hry
                  · exact hdone i (by omega)
                clear hown hmap hblo hini hsd hF hrx hcl hdone hms
                go_wp2
                go_roundw
                case rel => exact ⟨j + 1, by omega, by go_num, hnext⟩
                case measure => simp [intOf]; omega
              · have hry : r y = false := by simpa using hry
                have hput := put33 hmap y (.bool true)
                have hps := putMap_size wr W1.heap.size y (.bool true)
                have hne := hmap.ne_row hown
                have hvb : ∀ k, u7.ownBlock = some k → W1.heap.size + 1 ≤ k := fun k hk => (hown.lt k hk).1
                have hown2 : ((putMap wr W1.heap.size y (.bool true)).alloc (.cells #[.string y] 9)).ownsRow (W1.heap.size + 1) 9 1 u7 F.length (F.map Value.string) := (hown.kept (putMap_grown hmap y (.bool true)) (.inr (fun hh => hne hh.symm))).alloc _
                have hb1 : F.length + 1 ≤ maxLen := by unfold maxLen; omega
                have hb2 : (F.length + 1) * 16 ≤ 140737488355328 := by omega
                have hmk : SMap ((putMap wr W1.heap.size y (.bool true)).alloc (.cells #[.string y] 9)) W1.heap.size (fs (mark r y)) := ((hmap.put y (.bool true)).congr (fs_mark r y)).alloc _
                have hbm : Below W1.heap.size W1 ((putMap wr W1.heap.size y (.bool true)).alloc (.cells #[.string y] 9)) := (below_put hblo hmap (Nat.le_refl _) y (.bool true)).alloc (by rw [hps]; omega) _
                have hnews := World.news_of_block (cs := #[.string y]) (t := 9) (fr := (0, 0)) (heap_alloc_new (putMap wr W1.heap.size y (.bool true)) (.cells #[.string y] 9))
                rw [hps] at hnews
                have HM : Hid (SMap ((putMap wr W1.heap.size y (.bool true)).alloc (.cells #[.string y] 9)) W1.heap.size (fs (mark r y))) := hmk
                clear hmap hblo hmk
                go_wp2_with (at_builtin; refine wpList_append_lies _ rfl _ _ 22 rfl (W1.heap.size + 1) 9 i0 _ 1 16 Try.underlying22 hi0 hz0 hz1 hz2 rfl (by omega) u7 F.length (F.map Value.string) rfl hown2 ⟨wr.heap.size, 0, none⟩ 1 1 [.string y] rfl rfl hnews (by simp [Value.oneCell']) (by omega) hb1 hb2 (by rw [Deep.nblk_alloc, hps]; omega) (wr.heap.size + 1) (by rw [Deep.nblk_alloc, hps]) ?_; intro g2 cap3 w2 hown3 hgrow hat hlt2)
                go_roundw
                case rel =>
                  refine ⟨j + 1, by omega, by go_num, DfsIn.push hlt hrx hini hsd hF hcl hdone hms hgk (by rw [← HY.out]; exact hry) (by rw [← HY.out]; exact hown3) (by rw [← HY.out]; exact HM.out) hgrow hne hvb hbm (by rw [Deep.nblk_alloc, hps]; omega)⟩
                case measure => simp [intOf]; omega
            · have hjl : j = (succs sf st k x).length := by omega
              have hnext : Dfs W1 W1.heap.size k sf st ini (gk - 1) u7 wr := DfsIn.done (x := x) (by rw [← hjl]; exact ⟨F, r, hown, hmap, hblo, hsz2, hini, hsd, hF, hrx, hcl, hdone, hms, hgk⟩)
              clear hown hmap hblo hini hsd hF hrx hcl hdone hjl
              go_wp2
              go_roundg (gk - 1)
              case measure => omega
              case rel => exact hnext

end Go.Proofs.Qxb6601805a
