import Derived.Test.Qxb6601852aRev
import Derived.Deep.CutRange
namespace Go.Proofs.Qxb6601852a
open Go.RowKit

/-! ### Search by breadth, plain -/
structure BInv (g : Gr) (s : Nat) (D : Nat → Int) (Q : List Nat) (i k : Nat) : Prop where
  lt : ∀ v, v ∈ Q → v < g.n
  mem : ∀ v, v < g.n → (0 ≤ D v ↔ v ∈ Q)
  bd : ∀ v, -1 ≤ D v ∧ D v < Q.length
  cnt : sumTo g.n (fun v => if 0 ≤ D v then 1 else 0) = Q.length
  reach : ∀ v, v ∈ Q → g.R s v
  start : s ∈ Q
  done : ∀ j, j < i → ∀ u, Q[j]? = some u → ∀ x, x ∈ g.nx u → 0 ≤ D x
  part : ∀ u, Q[i]? = some u → ∀ j, j < k → ∀ x, (g.nx u)[j]? = some x → 0 ≤ D x

section
variable {g : Gr} {s : Nat} {D : Nat → Int} {Q : List Nat} {i k : Nat}

theorem BInv.len (h : BInv g s D Q i k) : Q.length ≤ g.n := by
  rw [← h.cnt]
  exact sumTo_one (fun v _ => by split <;> omega)

theorem binv_start (hs : s < g.n) : BInv g s (set (fun _ => -1) s 0) [s] 0 0 := by
  refine ⟨?_, ?_, ?_, ?_, ?_, by simp, fun j hj => by omega, fun u _ j hj => by omega⟩
  · intro v hv; simp at hv; rw [hv]; exact hs
  · intro v _
    unfold set
    by_cases e : v = s <;> simp [e]
  · intro v
    unfold set
    by_cases e : v = s <;> simp [e]
  · have h0 : sumTo g.n (fun _ => 0) = 0 := sumTo_zero g.n
    have := sumTo_add_one (n := g.n) (f := fun _ => 0) (g := fun v => if 0 ≤ set (fun _ => (-1 : Int)) s 0 v then 1 else 0) hs (fun v _ hne => by simp [set, hne]) (by simp [set])
    simp only [List.length_cons, List.length_nil]
    omega
  · intro v hv; simp at hv; rw [hv]; exact Gr.R.refl s

theorem BInv.skip (h : BInv g s D Q i k) {u x : Nat} (hu : Q[i]? = some u) (hx : (g.nx u)[k]? = some x) (hD : 0 ≤ D x) : BInv g s D Q i (k + 1) := by
  refine ⟨h.lt, h.mem, h.bd, h.cnt, h.reach, h.start, h.done, fun u' hu' j hj y hy => ?_⟩
  rw [hu] at hu'; cases hu'
  by_cases e : j = k
  · rw [e, hx] at hy; cases hy; exact hD
  · exact h.part u hu j (by omega) y hy

theorem BInv.push (h : BInv g s D Q i k) {u x : Nat} (hu : Q[i]? = some u) (hx : (g.nx u)[k]? = some x) (hxn : x < g.n) (hD : D x < 0) : BInv g s (set D x (D u + 1)) (Q ++ [x]) i (k + 1) := by
  have hiQ : i < Q.length := (List.getElem?_eq_some_iff.1 hu).1
  have huQ : u ∈ Q := List.mem_of_getElem? hu
  have hun := h.lt u huQ
  have hDu : 0 ≤ D u := (h.mem u hun).2 huQ
  have keep : ∀ y, 0 ≤ D y → 0 ≤ set D x (D u + 1) y := fun y hy => by
    unfold set; split
    · omega
    · exact hy
  refine ⟨?_, ?_, ?_, ?_, ?_, List.mem_append.2 (.inl h.start), ?_, ?_⟩
  · intro v hv
    rcases List.mem_append.1 hv with h1 | h1
    · exact h.lt v h1
    · simp at h1; rw [h1]; exact hxn
  · intro v hv
    by_cases e : v = x
    · subst e; rw [set_same]; simp; omega
    · rw [set_other _ _ e, h.mem v hv]; simp [e]
  · intro v
    have := h.bd v
    have := h.bd u
    simp only [List.length_append, List.length_cons, List.length_nil]
    by_cases e : v = x
    · rw [e, set_same]; omega
    · rw [set_other _ _ e]; omega
  · have hc := h.cnt
    have := sumTo_add_one (n := g.n) (f := fun v => if 0 ≤ D v then 1 else 0) (g := fun v => if 0 ≤ set D x (D u + 1) v then 1 else 0) hxn (fun v _ hne => by simp only [set_other _ _ hne]) (by
      simp only [set_same]
      rw [if_neg (by omega), if_pos (by omega)])
    simp only [List.length_append, List.length_cons, List.length_nil]
    omega
  · intro v hv
    rcases List.mem_append.1 hv with h1 | h1
    · exact h.reach v h1
    · simp at h1; rw [h1]; exact (h.reach u huQ).step ⟨hun, List.mem_of_getElem? hx⟩
  · intro j hj u' hu' y hy
    rw [List.getElem?_append_left (by omega)] at hu'
    exact keep y (h.done j hj u' hu' y hy)
  · intro u' hu' j hj y hy
    rw [List.getElem?_append_left (by omega), hu] at hu'
    cases hu'
    by_cases e : j = k
    · rw [e, hx] at hy; cases hy; rw [set_same]; omega
    · exact keep y (h.part u hu j (by omega) y hy)

theorem BInv.next (h : BInv g s D Q i k) {u : Nat} (hu : Q[i]? = some u) (hk : (g.nx u).length ≤ k) : BInv g s D Q (i + 1) 0 := by
  refine ⟨h.lt, h.mem, h.bd, h.cnt, h.reach, h.start, fun j hj u' hu' x hx => ?_, fun u _ j hj => by omega⟩
  by_cases e : j = i
  · rw [e, hu] at hu'; cases hu'
    obtain ⟨m, hm, hx'⟩ := mem_idx hx
    exact h.part u hu m (by omega) x hx'
  · exact h.done j (by omega) u' hu' x hx

theorem BInv.result (h : BInv g s D Q Q.length k) (hwf : g.wf) {v : Nat} (hv : v < g.n) : 0 ≤ D v ↔ g.R s v := by
  rw [h.mem v hv]
  refine ⟨h.reach v, fun hr => hr (fun z => z ∈ Q) h.start (fun a b ha hab => ?_)⟩
  obtain ⟨j, hj, ha'⟩ := mem_idx ha
  have := h.done j hj a ha' b hab.2
  exact (h.mem b (hwf a hab.1 b hab.2).1).1 this
end

/-! ### The walk -/
/-- The distances and the queue. -/
structure BMem (n H : Nat) (W : World) (D : Nat → Int) (Q : List Nat) (qv : Value) (X : World) : Prop where
  dist : X.rowIs H 3 n (fun v => .int .i64 (D v))
  q : X.ownsRow (H + 1) 3 1 qv Q.length (Q.map nv)
  below : Below H W X
  size : H + 1 ≤ X.heap.size

section
variable {n H : Nat} {W X X' : World} {D : Nat → Int} {Q : List Nat} {qv qv' : Value}

theorem BMem.alloc (h : BMem n H W D Q qv X) (o : Obj) : BMem n H W D Q qv (X.alloc o) := ⟨h.dist.alloc o, h.q.alloc o, h.below.alloc (by have := h.size; omega) o, by rw [Deep.nblk_alloc]; have := h.size; omega⟩

theorem BMem.setD (h : BMem n H W D Q qv X) (v : Nat) (x : Int) : BMem n H W (set D v x) Q qv (X.setCell ⟨H, v, none⟩ (.int .i64 x)) :=
  ⟨(h.dist.set v _).congr (fun j _ => set_val (fun z => Value.int .i64 z) D v x j), own_setCell h.q (by simp) _, h.below.setCell (Nat.le_refl _) _, by rw [Deep.nblk_setCell]; exact h.size⟩

theorem BMem.grown (h : BMem n H W D Q qv X) {Q' : List Nat} (hg : X.grownBy X' qv.ownBlock) (hq : X'.ownsRow (H + 1) 3 1 qv' Q'.length (Q'.map nv)) : BMem n H W D Q' qv' X' :=
  ⟨rowIs_grown h.dist hg (row_lo h.q (Nat.lt_succ_self _)), hq, h.below.grown hg (by have := h.size; omega) (fun k hk => by have := (h.q.lt k hk).1; omega), Nat.le_trans h.size hg.size⟩

theorem BMem.at {gq cap m k x : Nat} (h : BMem n H W D Q (.slice (some ⟨gq, 0, none⟩) m cap) X) (hm : Q.length = m) (hk : Q[k]? = some x) : X.cell? ⟨gq, k, none⟩ = some (.int .i64 (x : Int)) := by
  have hs := h.q
  rw [hm] at hs
  have hlt : k < Q.length := (List.getElem?_eq_some_iff.1 hk).1
  rw [hs.cellAt k (by omega)]
  simp [hk, nv]
end

theorem hid_mk' {p : Prop} (h : p) : Hid p := h
theorem wp_world' {P : Program} {c : Code} {Q : Exit → Act → World → Prop} {a : Act} {w : World} (R : World → Prop) (hR : R w) (h : ∀ Y, R Y → Code.wp P c Q a Y) : Code.wp P c Q a w := h w hR

def DistPost (w : World) (g : Gr) (s : Nat) (e : Ending) (w' : World) : Prop :=
  ∃ D : Nat → Int, e = .returned (.slice (some ⟨w.heap.size, 0, none⟩) g.n g.n) ∧ w'.rowIs w.heap.size 3 g.n (fun v => .int .i64 (D v)) ∧ (∀ v, v < g.n → (0 ≤ D v ↔ g.R s v)) ∧ Below w.heap.size w w'

/-- The first cells hold -1. -/
def neg1 (k : Nat) (v : Nat) : Value := if v < k then .int .i64 (-1) else .int .i64 0

theorem neg1_step (k j : Nat) : (if j = k then .int .i64 (-1) else neg1 k j) = neg1 (k + 1) j := by
  unfold neg1
  by_cases h : j = k
  · subst h; simp
  · rw [if_neg h]
    by_cases h2 : j < k
    · rw [if_pos h2, if_pos (by omega)]
    · rw [if_neg h2, if_neg (by omega)]

set_option maxRecDepth 100000 in
set_option maxHeartbeats 10000000 in
theorem dist_any (ad : Option Addr) (g : Gr) (cap s : Nat) (w : World) (hg : Graph w ad g) (hwf : g.wf) (hs : s < g.n) :
    Calls Try.prog 19 #[.slice ad g.n cap, .int .i64 (s : Int)] w (DistPost w g s) := by
  have hn := hg.1
  have hmk := run_make_row' (P := Try.prog) 28 3 (.int .i64 0) 8 Try.underlying28 Try.info3 rfl .i64 .i64 g.n (by omega) (by omega)
  obtain ⟨i0, hi0, hz0, hz1, hz2⟩ := info_parts Try.info3
  go_enter Try.func19, Try.ntmps19
  go_wp2
  go_loopw [7] (fun i wr => ∃ v : Nat, v ≤ g.n ∧ i = .int .i64 (v : Int) ∧ wr.rowIs w.heap.size 3 g.n (neg1 v) ∧ Below w.heap.size w wr ∧ wr.heap.size = w.heap.size + 1) (fun i _ => g.n - (intOf i).toNat)
  case atStart => exact ⟨0, Nat.zero_le _, rfl, (World.rowIs_made w (.int .i64 0) g.n 3).congr (fun i _ => by simp [neg1]), (Below.refl _ _).alloc (Nat.le_refl _) _, Deep.nblk_alloc _ _⟩
  case round =>
    obtain ⟨v, hv, rfl, hrow, hbl, hsz⟩ := hrel
    by_cases hlt : v < g.n
    · have c0 := hrow.cell hlt
      have f0 := hrow.frozen v
      have hv' : (v : Int) < (g.n : Int) := by omega
      clear hmk
      go_wp2
      go_roundw
      case rel => exact ⟨v + 1, by omega, by go_num, (hrow.set v (.int .i64 (-1))).congr (fun j _ => neg1_step v j), hbl.setCell (Nat.le_refl _) _, by rw [Deep.nblk_setCell]; exact hsz⟩
      case measure => simp [intOf]; omega
    · have hrow1 : wr.rowIs w.heap.size 3 g.n (fun _ => .int .i64 (-1)) := hrow.congr (fun j hj => by unfold neg1; rw [if_pos (by omega)])
      have c0 := hrow1.cell hs
      have f0 := hrow1.frozen s
      have hs' : (s : Int) < (g.n : Int) := by omega
      have hrow2 : (wr.setCell ⟨w.heap.size, s, none⟩ (.int .i64 0)).rowIs w.heap.size 3 g.n (fun v => .int .i64 (set (fun _ => (-1 : Int)) s 0 v)) := (hrow1.set s (.int .i64 0)).congr (fun j _ => set_val (fun z => Value.int .i64 z) (fun _ => (-1 : Int)) s 0 j)
      have hb2 : Below w.heap.size w (wr.setCell ⟨w.heap.size, s, none⟩ (.int .i64 0)) := hbl.setCell (Nat.le_refl _) _
      have HZ : Hid ((wr.setCell ⟨w.heap.size, s, none⟩ (.int .i64 0)).heap.size = w.heap.size + 1) := hid_mk' (by rw [Deep.nblk_setCell]; exact hsz)
      have HB : Hid (BInv g s (set (fun _ => -1) s 0) [s] 0 0) := binv_start hs
      clear hrow hrow1 hbl hmk
      go_upto_region 8 with fail
      refine wp_world' (fun Y => Y.rowIs w.heap.size 3 g.n (fun v => .int .i64 (set (fun _ => (-1 : Int)) s 0 v)) ∧ Below w.heap.size w Y ∧ Y.heap.size = w.heap.size + 1) ⟨hrow2, hb2, HZ.out⟩ ?_
      clear hrow2 hb2 HZ c0 f0 hsz
      intro Y hY
      have hrow2 := hY.1
      have hb2 := hY.2.1
      have hsz := hY.2.2
      clear hY
      go_wp2_with (first | (at_make; refine wpList_make_own _ rfl _ _ 28 rfl (w.heap.size + 1) 3 i0 _ 1 Try.underlying28 hi0 hz0 hz1 .i64 .i64 _ g.n rfl rfl rfl (by rw [hz2]; omega) (by unfold maxLen; omega) (by omega) ?_; intro w2 hown2 hgrow2; rw [hsz] at hown2; have hm2 : BMem g.n w.heap.size w (set (fun _ => -1) s 0) [] (.slice (some ⟨w.heap.size + 1, 0, none⟩) 0 g.n) w2 := ⟨rowIs_grown hrow2 hgrow2 (by simp), hown2, hb2.grown hgrow2 (by omega) (fun k hk => by cases hk), by have := hgrow2.size; omega⟩; have hn2 := World.news_of_block (cs := #[nv s]) (t := 3) (fr := (0, 0)) (heap_alloc_new w2 (.cells #[nv s] 3)); have hs2 := hm2.size; have hq2 := hown2.alloc (.cells #[nv s] 3)) | (at_builtin; refine wpList_append_lies _ rfl _ _ 28 rfl (w.heap.size + 1) 3 i0 _ 1 8 Try.underlying28 hi0 hz0 hz1 hz2 rfl (by omega) _ 0 [] rfl hq2 ⟨w2.heap.size, 0, none⟩ 1 1 [nv s] rfl rfl hn2 (by simp [Value.oneCell', nv]) (by omega) (by unfold maxLen; omega) (by omega) (by rw [Deep.nblk_alloc]; omega) (w2.heap.size + 1) (by rw [Deep.nblk_alloc]) ?_; intro g3 cap3 w3 hown3 hgrow3 hat3 hlt3))
      have hm3 : BMem g.n w.heap.size w (set (fun _ => -1) s 0) [s] (.slice (some ⟨g3, 0, none⟩) 1 cap3) w3 := (hm2.alloc _).grown hgrow3 hown3
      clear hat3 hgrow3 hown3 hlt3 hq2 hn2 hs2 hm2 hown2 hgrow2 hrow2 hb2 hsz hlt
      go_loopw [8, 9] (fun q i wr => ∃ (Q : List Nat) (D : Nat → Int) (k : Nat), i = .int .i64 (k : Int) ∧ k ≤ Q.length ∧ Hid (BInv g s D Q k 0) ∧ BMem g.n w.heap.size w D Q q wr) (fun _ i _ => g.n - (intOf i).toNat)
      case atStart => exact ⟨[s], _, 0, rfl, Nat.zero_le _, HB, hm3⟩
      case round =>
        clear hm3 HB
        obtain ⟨Q, D, k, rfl, hk, HB, hm⟩ := hrel
        have hQn := HB.out.len
        have hQ0 : 0 < Q.length := List.length_pos_of_mem HB.out.start
        obtain ⟨L, hL⟩ : ∃ L, Q.length = L := ⟨_, rfl⟩
        have HL : Hid (Q.length = L) := hL
        have hq0 := hm.q
        rw [hL] at hk hQn hQ0 hq0
        obtain ⟨gq, capq, rfl, hgq1, hgq2⟩ := hq0.form hQ0
        by_cases hkL : k < L
        · obtain ⟨u, hu⟩ : ∃ u, Q[k]? = some u := ⟨Q[k]'(by omega), List.getElem?_eq_getElem (by omega)⟩
          have hun := HB.out.lt u (List.mem_of_getElem? hu)
          have cu := hm.at HL.out hu
          have hkL' : (k : Int) < (L : Int) := by omega
          have HU : Hid (Q[k]? = some u) := hu
          obtain ⟨b, off, rfl, hb, hrow⟩ := hg.2.2 (by omega)
          obtain ⟨ra, rc, crow, hints⟩ := hrow u hun
          have hdeg := hg.2.1 u hun
          have hun' : (u : Int) < (g.n : Int) := by omega
          clear hrow hu hL hq0
          go_wp2
          go_loopw [8, 11] (fun q i wr => ∃ (Q : List Nat) (D : Nat → Int) (j : Nat), i = .int .i64 (j : Int) ∧ j ≤ (g.nx u).length ∧ Hid (Q[k]? = some u) ∧ Hid (BInv g s D Q k j) ∧ BMem g.n w.heap.size w D Q q wr) (fun _ i _ => (g.nx u).length - (intOf i).toNat)
          case atStart => exact ⟨Q, D, 0, rfl, Nat.zero_le _, HU, HB, hm⟩
          case round =>
            clear hm cu HU HB HL hk hQn hQ0 hgq1 hgq2 hkL hkL'
            obtain ⟨Q, D, j, rfl, hj, HU, HB, hm⟩ := hrel
            have crow' := (hm.below.cell (p := ⟨b, off + u, none⟩) (by exact hb)).trans crow
            by_cases hjl : j < (g.nx u).length
            · obtain ⟨b2, off2, rfl, hb2, hadj⟩ := hints.2 (by omega)
              have cadj : wr.cell? ⟨b2, off2 + j, none⟩ = some (.int .i64 (((g.nx u).getD j 0 : Nat) : Int)) := (hm.below.cell (p := ⟨b2, off2 + j, none⟩) (by exact hb2)).trans (hadj j hjl)
              obtain ⟨x, hx⟩ : ∃ x, (g.nx u).getD j 0 = x := ⟨_, rfl⟩
              rw [hx] at cadj
              have hjx : (g.nx u)[j]? = some x := by rw [← hx]; simp [List.getD, hjl]
              have hxn := (hwf u hun x (List.mem_of_getElem? hjx)).1
              have hjl' : (j : Int) < ((g.nx u).length : Int) := by omega
              have hxn' : (x : Int) < (g.n : Int) := by omega
              have cx : wr.cell? ⟨w.heap.size, x, none⟩ = some (.int .i64 (D x)) := hm.dist.cell hxn
              have HX : Hid ((g.nx u)[j]? = some x) := hjx
              have hQn := HB.out.len
              have hQ0 : 0 < Q.length := List.length_pos_of_mem HB.out.start
              clear hadj hx hjx
              by_cases hD : D x < 0
              · have cdu : wr.cell? ⟨w.heap.size, u, none⟩ = some (.int .i64 (D u)) := hm.dist.cell hun
                have fx := hm.dist.frozen x
                have hbu := HB.out.bd u
                have hb1 := hbu.1
                have hb2' : D u < 4097 := by omega
                have hset := hm.setD x (D u + 1)
                clear hbu
                go_upto_region 20 with fail
                refine wp_world' (fun Y => BMem g.n w.heap.size w (set D x (D u + 1)) Q u8 Y) hset ?_
                clear hset hm cx cdu fx cadj crow'
                intro Y hY
                have hown1 := (hY.alloc (.cells #[nv x] 3)).q
                have hsz := hY.size
                have hnews := World.news_of_block (cs := #[nv x]) (t := 3) (fr := (0, 0)) (heap_alloc_new Y (.cells #[nv x] 3))
                go_wp2_with (at_builtin; refine wpList_append_lies _ rfl _ _ 28 rfl (w.heap.size + 1) 3 i0 _ 1 8 Try.underlying28 hi0 hz0 hz1 hz2 rfl (by omega) u8 Q.length (Q.map nv) rfl hown1 ⟨Y.heap.size, 0, none⟩ 1 1 [nv x] rfl rfl hnews (by simp [Value.oneCell', nv]) (by omega) (by unfold maxLen; omega) (by omega) (by rw [Deep.nblk_alloc]; omega) (Y.heap.size + 1) (by rw [Deep.nblk_alloc]) ?_; intro g5 cap5 w5 hown5 hgrow5 hat5 hlt5)
                go_roundw
                case rel =>
                  have hi : k < Q.length := (List.getElem?_eq_some_iff.1 HU.out).1
                  exact ⟨Q ++ [x], set D x (D u + 1), j + 1, by go_num, by omega, hid_mk' (by rw [List.getElem?_append_left hi]; exact HU.out), HB.out.push HU.out HX.out hxn hD, (hY.alloc _).grown hgrow5 (by simpa using hown5)⟩
                case measure => simp [intOf]; omega
              · have hD' : 0 ≤ D x := by omega
                go_wp2
                go_roundw
                case rel => exact ⟨Q, D, j + 1, by go_num, by omega, HU, HB.out.skip HU.out HX.out hD', hm⟩
                case measure => simp [intOf]; omega
            · have hjl' : ¬ ((j : Int) < ((g.nx u).length : Int)) := by omega
              have hnext := HB.out.next HU.out (by omega)
              have hi : k < Q.length := (List.getElem?_eq_some_iff.1 HU.out).1
              have hQn := HB.out.len
              have HN : Hid (BInv g s D Q (k + 1) 0) := hnext
              clear hnext
              go_wp2
              go_roundw
              case rel => exact ⟨Q, D, k + 1, by go_num, by omega, HN, hm⟩
              case measure => simp [intOf]; omega
        · have hkL' : ¬ ((k : Int) < (L : Int)) := by omega
          have hke : k = Q.length := by omega
          have hres : ∀ v, v < g.n → (0 ≤ D v ↔ g.R s v) := fun v hv => by
            have := HB.out
            rw [hke] at this
            exact this.result hwf hv
          have hd := hm.dist
          have hb := hm.below
          clear hm hke hL hq0
          go_wp2
          go_ret
          exact ⟨D, rfl, hd, hres, hb⟩

end Go.Proofs.Qxb6601852a
