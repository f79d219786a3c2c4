import Derived.Test.Qxb6601852aGraphs
import Derived.OwnWalk
namespace Go.Proofs.Qxb6601852a
open Go.RowKit

theorem Try.info28 : (Try.prog.info? 28).map (fun i => (i.zero, i.size, i.bytes)) = some (some (.slice none 0 0), 1, 24) := by kernel_rfl

/-- Row w of the reversed graph, when the rows ahead of V and the first K edges of V have been gone through. -/
def revRow (nx : Nat → List Nat) (V K w : Nat) : List Nat :=
  ((List.range V).flatMap fun v => ((nx v).filter (· == w)).map fun _ => v) ++ (((nx V).take K).filter (· == w)).map fun _ => V

theorem revRow_start (nx : Nat → List Nat) (w : Nat) : revRow nx 0 0 w = [] := by simp [revRow]

theorem revRow_next (nx : Nat → List Nat) (V w : Nat) : revRow nx (V + 1) 0 w = revRow nx V (nx V).length w := by
  simp [revRow, List.range_succ]

theorem revRow_step (nx : Nat → List Nat) {V K x : Nat} (hx : (nx V)[K]? = some x) : revRow nx V (K + 1) = set (revRow nx V K) x (revRow nx V K x ++ [V]) := by
  funext w
  unfold set
  by_cases e : w = x
  · subst e; simp [revRow, List.take_add_one, hx]
  · have e' : ¬ x = w := fun h => e h.symm
    simp [revRow, List.take_add_one, hx, e, e']

theorem mem_revRow {nx : Nat → List Nat} {V v w : Nat} : v ∈ revRow nx V 0 w ↔ v < V ∧ w ∈ nx v := by
  simp [revRow, List.mem_flatMap]

theorem revRow_len (nx : Nat → List Nat) (V K w : Nat) : (revRow nx V K w).length ≤ sumTo V (fun v => (nx v).length) + K := by
  have h2 : ((((nx V).take K).filter (· == w)).map fun _ => V).length ≤ K := by
    rw [List.length_map]
    have a := List.length_filter_le (· == w) ((nx V).take K)
    have b : ((nx V).take K).length ≤ K := by rw [List.length_take]; omega
    omega
  have h1 : ∀ V, ((List.range V).flatMap fun v => ((nx v).filter (· == w)).map fun _ => v).length ≤ sumTo V (fun v => (nx v).length) := fun V => by
    induction V with
    | zero => simp [sumTo]
    | succ V ih =>
      rw [List.range_succ, List.flatMap_append, List.length_append]
      have a := List.length_filter_le (· == w) (nx V)
      simp only [List.flatMap_cons, List.flatMap_nil, List.append_nil, List.length_map, sumTo]
      omega
  have := h1 V
  unfold revRow
  rw [List.length_append]
  omega

/-- The reversed graph. -/
def Gr.rv (g : Gr) : Gr := ⟨g.n, revRow g.nx g.n 0⟩

theorem rv_wf {g : Gr} (h : g.wf) : g.rv.wf := fun v hv x hx => by
  have := mem_revRow.1 hx
  exact ⟨this.1, fun e => (h x this.1 v this.2).2 e.symm⟩

theorem sumTo_part {f : Nat → Nat} {n v : Nat} (h : v < n) : sumTo v f + f v ≤ sumTo n f := by
  induction n with
  | zero => omega
  | succ n ih =>
    simp only [sumTo]
    by_cases e : v = n
    · rw [e]; omega
    · have := ih (by omega); omega

/-- A row of slices of ints, each in a block of its own. -/
structure Rows (w : World) (base H n : Nat) (f : Nat → Value) (g : Nat → List Nat) : Prop where
  row : w.rowIs H 28 n f
  own : ∀ v, v < n → w.ownsRow base 3 1 (f v) (g v).length ((g v).map nv)
  apart : ∀ v v' k, v < n → v' < n → v ≠ v' → (f v).ownBlock = some k → (f v').ownBlock ≠ some k
  lo : H < base

theorem Rows.alloc {w : World} {base H n : Nat} {f : Nat → Value} {g : Nat → List Nat} (h : Rows w base H n f g) (o : Obj) : Rows (w.alloc o) base H n f g :=
  ⟨h.row.alloc o, fun v hv => (h.own v hv).alloc o, h.apart, h.lo⟩

theorem Rows.put {w w1 : World} {base H n : Nat} {f : Nat → Value} {g : Nat → List Nat} (h : Rows w base H n f g) {x : Nat} (hx : x < n) {v' : Value} {l : List Nat}
    (hg : w.grownBy w1 (f x).ownBlock) (hown : w1.ownsRow base 3 1 v' l.length (l.map nv)) (hat : v'.ownBlock = (f x).ownBlock ∨ ∃ k, v'.ownBlock = some k ∧ w.heap.size ≤ k) :
    Rows (w1.setCell ⟨H, x, none⟩ v') base H n (set f x v') (set g x l) := by
  have hne : some H ≠ (f x).ownBlock := row_lo (h.own x hx) h.lo
  refine ⟨((rowIs_grown h.row hg hne).set x v').congr (fun j _ => by unfold set; rfl), fun v hv => ?_, fun v u k hv hu hvu hk => ?_, h.lo⟩
  · by_cases e : v = x
    · subst e
      rw [set_same, set_same]
      exact own_setCell hown h.lo v'
    · rw [set_other _ _ e, set_other _ _ e]
      refine own_setCell ((h.own v hv).kept hg ?_) h.lo v'
      cases hb : (f v).ownBlock with
      | none => exact .inl rfl
      | some k => exact .inr (fun hh => h.apart v x k hv hx e hb hh.symm)
  · by_cases e : v = x
    · subst e
      rw [set_same] at hk
      rw [set_other _ _ (fun h => hvu h.symm)]
      intro hk'
      rcases hat with ha | ⟨k2, ha, hk2⟩
      · rw [ha] at hk; exact h.apart v u k hv hu hvu hk hk'
      · rw [ha] at hk; cases hk
        have := ((h.own u hu).lt k hk').2
        omega
    · rw [set_other _ _ e] at hk
      by_cases e' : u = x
      · subst e'
        rw [set_same]
        intro hk'
        rcases hat with ha | ⟨k2, ha, hk2⟩
        · rw [ha] at hk'; exact h.apart v u k hv hu hvu hk hk'
        · rw [ha] at hk'; cases hk'
          have := ((h.own v hv).lt k hk).2
          omega
      · rw [set_other _ _ e']
        exact h.apart v u k hv hu hvu hk

theorem ints_of_own {w : World} {base : Nat} {v : Value} {l : List Nat} (h : w.ownsRow base 3 1 v l.length (l.map nv)) (hl : l.length ≤ 131072) :
    ∃ ra rc, v = .slice ra l.length rc ∧ Ints w ra l.length (fun k => ((l.getD k 0 : Nat) : Int)) := by
  rcases h.2 with ⟨rfl, h0⟩ | ⟨g, cap, cur, rfl, hg, hh, hn, hcap, hsz, htake⟩
  · exact ⟨none, 0, by rw [h0], by omega, fun hp => by omega⟩
  · refine ⟨_, cap, rfl, by omega, fun hp => ⟨g, 0, rfl, (h.lt g rfl).2, fun i hi => ?_⟩⟩
    rw [Nat.zero_add, h.cellAt i (by omega)]
    simp [List.getElem?_map, List.getElem?_eq_getElem hi, nv]

theorem Rows.graph {w : World} {base H : Nat} {f : Nat → Value} {g : Gr} (h : Rows w base H g.n f g.nx) (hn : g.n ≤ 4096) (hd : ∀ v, v < g.n → (g.nx v).length ≤ 131072) : Graph w (some ⟨H, 0, none⟩) g := by
  refine ⟨hn, hd, fun _ => ⟨H, 0, rfl, h.row.lt, fun v hv => ?_⟩⟩
  obtain ⟨ra, rc, h1, h2⟩ := ints_of_own (h.own v hv) (hd v hv)
  exact ⟨ra, rc, by rw [Nat.zero_add, h.row.cell hv, h1], h2⟩

theorem grown_none {w w' : World} (h : w.grownBy w' none) (row : Option Nat) : w.grownBy w' row := ⟨h.os, h.tape, h.output, h.size, fun k hk _ => h.block k hk (by simp)⟩

/-- The counts, as far as they are known: small. -/
def Cnt (w : World) (n : Nat) (wr : World) (bd : Nat) : Prop := ∃ c : Nat → Nat, wr.rowIs w.heap.size 3 n (fun v => nv (c v)) ∧ (∀ v, c v ≤ bd) ∧ Below w.heap.size w wr

theorem Cnt.mono {w wr : World} {n a b : Nat} (h : Cnt w n wr a) (hab : a ≤ b) : Cnt w n wr b := by
  obtain ⟨c, h1, h2, h3⟩ := h
  exact ⟨c, h1, fun v => Nat.le_trans (h2 v) hab, h3⟩

def RevPost (w : World) (g : Gr) (e : Ending) (w' : World) : Prop := ∃ ad', e = .returned (.slice ad' g.n g.n) ∧ Graph w' ad' g.rv ∧ Below w.heap.size w w'

set_option maxRecDepth 100000 in
set_option maxHeartbeats 10000000 in
theorem reverse_any (ad : Option Addr) (g : Gr) (cap : Nat) (w : World) (hg : Graph w ad g) (hwf : g.wf) (htot : sumTo g.n (fun v => (g.nx v).length) ≤ 131072) :
    Calls Try.prog 17 #[.slice ad g.n cap] w (RevPost w g) := by
  have hn := hg.1
  have hmk := run_make_row' (P := Try.prog) 28 3 (.int .i64 0) 8 Try.underlying28 Try.info3 rfl .i64 .i64 g.n (by omega) (by omega)
  have hmk2 := run_make_row' (P := Try.prog) 22 28 (.slice none 0 0) 24 Try.underlying22 Try.info28 rfl .i64 .i64 g.n (by omega) (by omega)
  obtain ⟨i0, hi0, hz0, hz1, hz2⟩ := info_parts Try.info3
  go_enter Try.func17, Try.ntmps17
  go_wp2
  go_loopw [5] (fun i wr => ∃ v : Nat, v ≤ g.n ∧ i = .int .i64 (v : Int) ∧ Cnt w g.n wr (sumTo v (fun v => (g.nx v).length)) ∧ wr.heap.size = w.heap.size + 1) (fun i _ => g.n - (intOf i).toNat)
  case atStart => exact ⟨0, Nat.zero_le _, rfl, ⟨fun _ => 0, World.rowIs_made w (.int .i64 0) g.n 3, fun _ => Nat.zero_le _, (Below.refl _ _).alloc (Nat.le_refl _) _⟩, Deep.nblk_alloc _ _⟩
  case round =>
    obtain ⟨v, hv, rfl, hcnt, hsz⟩ := hrel
    by_cases hlt : v < g.n
    · obtain ⟨b, off, rfl, hb, hrow⟩ := hg.2.2 (by omega)
      obtain ⟨ra, rc, crow, hints⟩ := hrow v hlt
      have hv' : (v : Int) < (g.n : Int) := by omega
      have hdeg := hg.2.1 v hlt
      have hsum := sumTo_part (f := fun v => (g.nx v).length) hlt
      obtain ⟨sv, hsv⟩ : ∃ sv, sumTo v (fun v => (g.nx v).length) = sv := ⟨_, rfl⟩
      rw [hsv] at hcnt hsum
      have hbd : sv + (g.nx v).length ≤ 131072 := by omega
      have HS : Hid (sumTo v (fun v => (g.nx v).length) = sv) := hsv
      clear hrow hsum hsv
      go_wp2
      go_loopw [6] (fun i wr => ∃ k : Nat, k ≤ (g.nx v).length ∧ i = .int .i64 (k : Int) ∧ Cnt w g.n wr (sv + k) ∧ wr.heap.size = w.heap.size + 1) (fun i _ => (g.nx v).length - (intOf i).toNat)
      case atStart => exact ⟨0, Nat.zero_le _, rfl, hcnt, hsz⟩
      case round =>
        clear hcnt hsz
        obtain ⟨k, hk, rfl, ⟨c, hc, hcb, hbl⟩, hsz⟩ := hrel
        have crow' := (hbl.cell (p := ⟨b, off + v, none⟩) (by exact hb)).trans crow
        by_cases hkl : k < (g.nx v).length
        · obtain ⟨b2, off2, rfl, hb2, hadj⟩ := hints.2 (by omega)
          have cadj : wr.cell? ⟨b2, off2 + k, none⟩ = some (.int .i64 (((g.nx v).getD k 0 : Nat) : Int)) := (hbl.cell (p := ⟨b2, off2 + k, none⟩) (by exact hb2)).trans (hadj k hkl)
          obtain ⟨x, hx⟩ : ∃ x, (g.nx v).getD k 0 = x := ⟨_, rfl⟩
          rw [hx] at cadj
          have hkx : (g.nx v)[k]? = some x := by rw [← hx]; simp [List.getD, hkl]
          have hxn := (hwf v hlt x (List.mem_of_getElem? hkx)).1
          have hk' : (k : Int) < ((g.nx v).length : Int) := by omega
          have hxn' : (x : Int) < (g.n : Int) := by omega
          have cx : wr.cell? ⟨w.heap.size, x, none⟩ = some (.int .i64 (c x : Int)) := hc.cell hxn
          have fx := hc.frozen x
          have hcx := hcb x
          clear hadj hkx hx
          go_wp2
          go_roundw
          case rel =>
            refine ⟨k + 1, by omega, by go_num, ⟨set c x (c x + 1), (hc.set x (nv (c x + 1))).congr (fun j _ => set_val nv c x (c x + 1) j), fun u => ?_, hbl.setCell (Nat.le_refl _) _⟩, by rw [Deep.nblk_setCell]; exact hsz⟩
            by_cases e : u = x
            · rw [e, set_same]; omega
            · rw [set_other _ _ e]; have := hcb u; omega
          case measure => simp [intOf]; omega
        · have hkl' : ¬ ((k : Int) < ((g.nx v).length : Int)) := by omega
          go_wp2
          go_roundw
          case rel =>
            refine ⟨v + 1, by omega, by go_num, ⟨c, hc, fun u => ?_, hbl⟩, hsz⟩
            have e1 := HS.out
            have := hcb u
            simp only [sumTo]
            omega
          case measure => simp [intOf]; omega
    · obtain ⟨c, hc, hcb, hbl⟩ := hcnt.mono (b := 131072) (by rw [show v = g.n from by omega]; exact htot)
      clear hcnt
      go_wp2
      go_loopw [8] (fun i wr => ∃ u : Nat, u ≤ g.n ∧ i = .int .i64 (u : Int) ∧ ∃ f, Rows wr (w.heap.size + 2) (w.heap.size + 1) g.n f (fun _ => []) ∧ wr.rowIs w.heap.size 3 g.n (fun v => nv (c v)) ∧ Below w.heap.size w wr ∧ w.heap.size + 2 ≤ wr.heap.size) (fun i _ => g.n - (intOf i).toNat)
      case atStart =>
        have hr := World.rowIs_made wr (.slice none 0 0) g.n 28
        rw [hsz] at hr
        refine ⟨0, Nat.zero_le _, rfl, fun _ => .slice none 0 0, ⟨hr, fun v hv => World.ownsRow_nil _ _ _ _, fun v v' k _ _ _ h => ?_, Nat.lt_succ_self _⟩, hc.alloc _, hbl.alloc (by omega) _, by rw [Deep.nblk_alloc]; omega⟩
        simp [Value.ownBlock] at h
      case round =>
        clear hc hbl hsz
        obtain ⟨u, hu, rfl, f, hR, hc, hbl, hsz⟩ := hrel
        by_cases hlt : u < g.n
        · have cc : wr.cell? ⟨w.heap.size, u, none⟩ = some (.int .i64 (c u : Int)) := hc.cell hlt
          have cr : wr.cell? ⟨w.heap.size + 1, u, none⟩ = some (f u) := hR.row.cell hlt
          have fr := hR.row.frozen u
          have hu' : (u : Int) < (g.n : Int) := by omega
          have hcu := hcb u
          have hset : set (fun _ : Nat => ([] : List Nat)) u [] = fun _ => [] := by funext j; unfold set; split <;> rfl
          have HSet : Hid (set (fun _ : Nat => ([] : List Nat)) u [] = fun _ => []) := hset
          clear hset hmk hmk2
          go_wp2_with (at_make; refine wpList_make_own _ rfl _ _ 28 rfl (w.heap.size + 2) 3 i0 _ 1 Try.underlying28 hi0 hz0 hz1 .i64 .i64 _ (c u) rfl rfl rfl (by rw [hz2]; omega) (by unfold maxLen; omega) (by omega) ?_; intro w2 hown2 hgrow2; have hrow2 := rowIs_grown hR.row hgrow2 (by simp); have c2 := hrow2.cell hlt; have f2 := hrow2.frozen u)
          go_roundw
          case rel =>
            have hput := hR.put hlt (l := []) (w1 := w2) (v' := .slice (some ⟨wr.heap.size, 0, none⟩) 0 (c u)) (grown_none hgrow2 _) hown2 (.inr ⟨wr.heap.size, rfl, Nat.le_refl _⟩)
            rw [HSet.out] at hput
            exact ⟨u + 1, by omega, by go_num, _, hput, (rowIs_grown hc hgrow2 (by simp)).setOther (by simp) _, (hbl.grown hgrow2 (by omega) (fun k hk => by cases hk)).setCell (by simp) _, by rw [Deep.nblk_setCell]; have := hgrow2.size; omega⟩
          case measure => simp [intOf]; omega
        · clear hmk hmk2 hc
          go_wp2
          go_loopw [9] (fun i wr => ∃ v : Nat, v ≤ g.n ∧ i = .int .i64 (v : Int) ∧ ∃ f, Rows wr (w.heap.size + 2) (w.heap.size + 1) g.n f (revRow g.nx v 0) ∧ Below w.heap.size w wr ∧ w.heap.size + 2 ≤ wr.heap.size) (fun i _ => g.n - (intOf i).toNat)
          case atStart => exact ⟨0, Nat.zero_le _, rfl, f, (show revRow g.nx 0 0 = fun _ => [] from funext (revRow_start g.nx)) ▸ hR, hbl, hsz⟩
          case round =>
            clear hR hbl hsz
            obtain ⟨v, hv, rfl, f, hR, hbl, hsz⟩ := hrel
            by_cases hlt : v < g.n
            · obtain ⟨b, off, rfl, hb, hrow⟩ := hg.2.2 (by omega)
              obtain ⟨ra, rc, crow, hints⟩ := hrow v hlt
              have hv' : (v : Int) < (g.n : Int) := by omega
              have hdeg := hg.2.1 v hlt
              clear hrow
              go_wp2
              go_loopw [10] (fun i wr => ∃ k : Nat, k ≤ (g.nx v).length ∧ i = .int .i64 (k : Int) ∧ ∃ f, Rows wr (w.heap.size + 2) (w.heap.size + 1) g.n f (revRow g.nx v k) ∧ Below w.heap.size w wr ∧ w.heap.size + 2 ≤ wr.heap.size) (fun i _ => (g.nx v).length - (intOf i).toNat)
              case atStart => exact ⟨0, Nat.zero_le _, rfl, f, hR, hbl, hsz⟩
              case round =>
                clear hR hbl hsz
                obtain ⟨k, hk, rfl, f, hR, hbl, hsz⟩ := hrel
                have crow' := (hbl.cell (p := ⟨b, off + v, none⟩) (by exact hb)).trans crow
                by_cases hkl : k < (g.nx v).length
                · obtain ⟨b2, off2, rfl, hb2, hadj⟩ := hints.2 (by omega)
                  have cadj : wr.cell? ⟨b2, off2 + k, none⟩ = some (.int .i64 (((g.nx v).getD k 0 : Nat) : Int)) := (hbl.cell (p := ⟨b2, off2 + k, none⟩) (by exact hb2)).trans (hadj k hkl)
                  obtain ⟨x, hx⟩ : ∃ x, (g.nx v).getD k 0 = x := ⟨_, rfl⟩
                  rw [hx] at cadj
                  have hkx : (g.nx v)[k]? = some x := by rw [← hx]; simp [List.getD, hkl]
                  have hxn := (hwf v hlt x (List.mem_of_getElem? hkx)).1
                  have hk' : (k : Int) < ((g.nx v).length : Int) := by omega
                  have hxn' : (x : Int) < (g.n : Int) := by omega
                  have cx : wr.cell? ⟨w.heap.size + 1, x, none⟩ = some (f x) := hR.row.cell hxn
                  have hll := revRow_len g.nx v k x
                  have hsum := sumTo_part (f := fun v => (g.nx v).length) hlt
                  obtain ⟨l, hl⟩ : ∃ l, revRow g.nx v k x = l := ⟨_, rfl⟩
                  have hown := hR.own x hxn
                  rw [hl] at hown hll
                  have hl2 : l.length ≤ 131072 := by omega
                  have hown1 := hown.alloc (.cells #[.int .i64 (v : Int)] 3)
                  have hnews := World.news_of_block (cs := #[nv v]) (t := 3) (fr := (0, 0)) (heap_alloc_new wr (.cells #[nv v] 3))
                  have HL : Hid (revRow g.nx v k x = l) := hl
                  have HK : Hid ((g.nx v)[k]? = some x) := hkx
                  clear hadj hkx hx hll hsum hl hown
                  go_wp2_with (at_builtin; refine wpList_append_lies _ rfl _ _ 28 rfl (w.heap.size + 2) 3 i0 _ 1 8 Try.underlying28 hi0 hz0 hz1 hz2 rfl (by omega) (f x) l.length (l.map nv) rfl hown1 ⟨wr.heap.size, 0, none⟩ 1 1 [nv v] rfl rfl hnews (by simp [Value.oneCell', nv]) (by omega) (by unfold maxLen; omega) (by omega) (by rw [Deep.nblk_alloc]; omega) (wr.heap.size + 1) (by rw [Deep.nblk_alloc]) ?_; intro g2 cap3 w2 hown3 hgrow hat hlt2; have hrow2 := rowIs_grown (hR.row.alloc _) hgrow (row_lo hown1 (Nat.lt_succ_self _)); have c2 := hrow2.cell hxn; have f2 := hrow2.frozen x)
                  go_roundw
                  case rel =>
                    refine ⟨k + 1, by omega, by go_num, set f x (.slice (some ⟨g2, 0, none⟩) (l.length + 1) cap3), ?_, (hbl.alloc (by omega) _ |>.grown hgrow (by rw [Deep.nblk_alloc]; omega) (fun k hk => by have := (hown1.lt k hk).1; omega)).setCell (by simp) _, by rw [Deep.nblk_setCell]; have := hgrow.size; rw [Deep.nblk_alloc] at this; omega⟩
                    rw [revRow_step g.nx HK.out]
                    refine (hR.alloc _).put hxn hgrow (by rw [HL.out]; simpa using hown3) ?_
                    rcases hat with ha | ha
                    · exact .inl ha.symm
                    · exact .inr ⟨g2, rfl, by rw [Deep.nblk_alloc]; omega⟩
                  case measure => simp [intOf]; omega
                · have hkl' : ¬ ((k : Int) < ((g.nx v).length : Int)) := by omega
                  go_wp2
                  go_roundw
                  case rel =>
                    have hke : k = (g.nx v).length := by omega
                    refine ⟨v + 1, by omega, by go_num, f, ?_, hbl, hsz⟩
                    rw [show revRow g.nx (v + 1) 0 = revRow g.nx v k from funext (fun w => by rw [hke]; exact revRow_next g.nx v w)]
                    exact hR
                  case measure => simp [intOf]; omega
            · have hve : v = g.n := by omega
              have hgr : Graph wr (some ⟨w.heap.size + 1, 0, none⟩) g.rv := by
                refine Rows.graph (g := g.rv) (f := f) (base := w.heap.size + 2) ?_ hn (fun u hu => ?_)
                · rw [hve] at hR; exact hR
                · have := revRow_len g.nx g.n 0 u
                  show (revRow g.nx g.n 0 u).length ≤ 131072
                  omega
              clear hR
              go_wp2
              go_ret
              exact ⟨_, rfl, hgr, hbl⟩

end Go.Proofs.Qxb6601852a
