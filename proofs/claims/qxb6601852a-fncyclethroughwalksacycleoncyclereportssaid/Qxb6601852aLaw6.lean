import Derived.Test.Qxb6601852aLaw4
import Derived.Test.Qxb6601852aThru
namespace Go.Proofs.Qxb6601852a
open Go.RowKit

set_option maxHeartbeats 1000000 in
theorem zzThru_any (ad : Option Addr) (g : Gr) (cap s : Nat) (W : World) (hg : Graph W ad g) (hwf : g.wf) (hs : FirstOn g s) : Calls Try.prog 21 #[.slice ad g.n cap] W (ThruPost W g s) := by
  go_enter Try.func21, Try.ntmps21
  go_wp2_with fail
  refine (thru_any ad g cap s W hg hwf hs).mono ?_
  rintro e w' ⟨b, capc, c, rfl, h⟩
  go_wp2_with fail
  go_ret
  exact ⟨b, capc, c, rfl, h⟩

set_option maxRecDepth 100000 in
set_option maxHeartbeats 20000000 in
theorem law6_any (ad : Option Addr) (n cap : Nat) (ln : Nat → Nat) (zs : Nat → Nat → Int) (w : World) (hs : RGraph w ad n ln zs) :
    Calls Try.prog 6 #[.slice ad n cap] w (LawPost w) := by
  go_enter Try.func6, Try.ntmps6
  go_wp2_with fail
  refine (zz23_any ad n cap ln zs w hs).mono ?_
  rintro e w1 ⟨⟨b, rfl⟩, rfl⟩
  cases b with
  | false =>
    go_wp2
    go_ret
    exact ⟨rfl, Below.refl _ _⟩
  | true =>
    go_wp2_with fail
    refine (tooBig_any ad n cap ln zs w hs).mono ?_
    rintro e w1 ⟨b, rfl, rfl, hbig⟩
    cases b with
    | true =>
      clear hbig
      go_wp2
      go_ret
      exact ⟨rfl, Below.refl _ _⟩
    | false =>
      obtain ⟨hn, htot, hdeg⟩ := hbig rfl
      clear hbig
      go_wp2_with fail
      refine (well_any ad n cap ln zs w hs).mono ?_
      rintro e w1 ⟨b, rfl, rfl, hwell⟩
      cases b with
      | false =>
        clear hwell
        go_wp2
        go_ret
        exact ⟨rfl, Below.refl _ _⟩
      | true =>
        have hW : Well n ln zs := hwell rfl
        clear hwell
        go_wp2_with fail
        refine (cloneGraph_any ad n cap ln zs w hs).mono ?_
        rintro e w1 ⟨ad1, rfl, hs1, hb1⟩
        obtain ⟨g, hg⟩ : ∃ g, gOf n ln zs = g := ⟨_, rfl⟩
        have hgn : g.n = n := by rw [← hg]; rfl
        subst hgn
        have hwf : g.wf := by rw [← hg]; exact gOf_wf hW
        have hG1 : Graph w1 ad1 g := by rw [← hg]; exact hs1.graph hn hdeg hW
        have hb0 := hb1
        clear hs1 hW hdeg htot hs hg
        go_wp2_with fail
        refine (zzOnCycle_any ad1 g g.n w1 hG1 hwf).mono ?_
        rintro e w3 ⟨res, rfl, hrow, hres, hb3⟩
        have hG3 := hG1.below hb3 (Nat.le_refl _)
        have hneq : ((g.n : Int) != (g.n : Int)) = false := by simp
        have HR : Hid (∀ v, v < g.n → (res v = true ↔ g.OnC v)) := hres
        have hb03 : Below w.heap.size w w3 := hb1.trans (hb3.mono hb1.size)
        clear hres hG1 hb1 hb3 hb0
        go_wp2
        go_loop [5, 6] (fun f i => ∃ v : Nat, v ≤ g.n ∧ f = .int .i64 (-1) ∧ i = .int .i64 (v : Int) ∧ Hid (∀ u, u < v → res u = false)) (fun _ i => g.n - (intOf i).toNat)
        case atStart => exact ⟨0, Nat.zero_le _, rfl, rfl, (fun u hu => by omega : ∀ u, u < 0 → res u = false)⟩
        case round =>
          obtain ⟨v, hv, rfl, rfl, HN⟩ := hrel
          by_cases hlt : v < g.n
          · have hv' : (v : Int) < (g.n : Int) := by omega
            cases hrv : res v with
            | false =>
              have c0 : w3.cell? ⟨w1.heap.size + 3, v, none⟩ = some (.bool false) := by rw [← hrv]; exact hrow.cell hlt
              have HV : Hid (res v = false) := hrv
              clear hrv
              go_wp2
              go_round
              case rel =>
                have e1 := HN.out
                refine ⟨v + 1, by omega, rfl, by go_num, (fun u hu => ?_ : ∀ u, u < v + 1 → res u = false)⟩
                by_cases e : u = v
                · rw [e]; exact HV.out
                · exact e1 u (by omega)
              case measure => simp [intOf]; omega
            | true =>
              have c0 : w3.cell? ⟨w1.heap.size + 3, v, none⟩ = some (.bool true) := by rw [← hrv]; exact hrow.cell hlt
              have HF : Hid (FirstOn g v) := hid_mk' ⟨(HR.out v hlt).1 hrv, fun u hu hon => by
                have h1 := (HR.out u (by omega)).2 hon
                rw [HN.out u hu] at h1; cases h1⟩
              have hv0 : ¬ ((v : Int) < 0) := by omega
              clear hrv
              go_wp2_with fail
              refine (zzThru_any ad1 g g.n v w3 hG3 hwf HF.out).mono ?_
              rintro e w4 ⟨bc, capc, c, rfl, hown, hcyc, hcl, hb4⟩
              obtain ⟨q, hq⟩ : ∃ q, c.length = q + 1 := ⟨c.length - 1, by have := hcyc.len; omega⟩
              have HC : Hid (Cyc g v c) := hcyc
              have HQ : Hid (c.length = q + 1) := hq
              have hq2 : 2 ≤ q := by have := hcyc.len; omega
              rw [hq] at hown hcl ⊢
              have cc : ∀ (k x : Nat), c[k]? = some x → w4.cell? ⟨bc, k, none⟩ = some (.int .i64 (x : Int)) := fun k x hx => by
                have hk : k < c.length := (List.getElem?_eq_some_iff.1 hx).1
                rw [hown.cellAt k (by omega)]
                simp [hx, nv]
              have cf := cc 0 v hcyc.first
              have cl := cc q v (by have := hcyc.last; rw [hq] at this; simpa using this)
              have hbc := (hown.lt bc rfl).2
              have CC : Hid (∀ (k x : Nat), c[k]? = some x → w4.cell? ⟨bc, k, none⟩ = some (.int .i64 (x : Int))) := cc
              have hG4 := hG3.below hb4 (Nat.le_refl _)
              have hrow4 : w4.rowIs (w1.heap.size + 3) 4 g.n (fun v => .bool (res v)) := hrow.of_block (hb4.block _ hrow.lt)
              have hvv : ((v : Int) != (v : Int)) = false := by simp
              have hqi : ((q + 1 : Nat) : Int) - 1 = (q : Int) := by omega
              have hb04 : Below w.heap.size w w4 := hb03.trans (hb4.mono hb03.size)
              have hmk4 := run_make_row' (P := Try.prog) 25 4 (.bool false) 1 Try.underlying25 Try.info4 rfl .i64 .i64 g.n (by omega) (by omega)
              clear hcyc hq cc hown hrow hb4 c0 hG3
              have hq3 : ¬ ((q : Int) + 1 < 3) := by omega
              go_wp2
              clear hmk4 cf cl hvv
              go_loopw [9] (fun i wr => ∃ k : Nat, k ≤ q ∧ i = .int .i64 (k : Int) ∧ wr.rowIs w4.heap.size 4 g.n (fun x => .bool (decide (x ∈ c.take k))) ∧ Below w4.heap.size w4 wr) (fun i _ => q - (intOf i).toNat)
              case atStart => exact ⟨0, Nat.zero_le _, rfl, (World.rowIs_made w4 (.bool false) g.n 4).congr (fun x _ => by simp), (Below.refl _ _).alloc (Nat.le_refl _) _⟩
              case round =>
                obtain ⟨k, hk, rfl, hseen, hbl⟩ := hrel
                by_cases hkq : k < q
                · have hkq' : (k : Int) + 1 < (q : Int) + 1 := by omega
                  have hl := HQ.out
                  obtain ⟨u, hu⟩ : ∃ u, c[k]? = some u := ⟨c[k]'(by omega), List.getElem?_eq_getElem (by omega)⟩
                  obtain ⟨x, hx⟩ : ∃ x, c[k + 1]? = some x := ⟨c[k + 1]'(by omega), List.getElem?_eq_getElem (by omega)⟩
                  have hE := HC.out.edge k u x hu hx
                  have hun := hE.1
                  have hxn := (hwf u hun x hE.2).1
                  have hun' : (u : Int) < (g.n : Int) := by omega
                  have hxn' : (x : Int) < (g.n : Int) := by omega
                  have hu0 : ¬ ((u : Int) < 0) := by omega
                  have hx0 : ¬ ((x : Int) < 0) := by omega
                  have cu := (hbl.cell (p := ⟨bc, k, none⟩) (by exact hbc)).trans (CC.out k u hu)
                  have cx := (hbl.cell (p := ⟨bc, k + 1, none⟩) (by exact hbc)).trans (CC.out (k + 1) x hx)
                  have hnot : u ∉ c.take k := fun hm => by
                    obtain ⟨i, hi, hi'⟩ := mem_idx hm
                    rw [List.length_take] at hi
                    rw [List.getElem?_take_of_lt (by omega)] at hi'
                    exact HC.out.nd i k u (by omega) (by omega) hi' hu
                  have cs : wr.cell? ⟨w4.heap.size, u, none⟩ = some (.bool false) := by
                    have := hseen.cell hun
                    rw [decide_eq_false hnot] at this
                    exact this
                  have fs := hseen.frozen u
                  have con : wr.cell? ⟨w1.heap.size + 3, u, none⟩ = some (.bool true) := by
                    have h1 : w4.cell? ⟨w1.heap.size + 3, u, none⟩ = some (.bool (res u)) := hrow4.cell hun
                    rw [(HR.out u hun).2 (HC.out.on u (List.mem_of_getElem? hu))] at h1
                    exact (hbl.cell (p := ⟨w1.heap.size + 3, u, none⟩) (by exact hrow4.lt)).trans h1
                  have hG5 := hG4.below (hbl.setCell (p := ⟨w4.heap.size, u, none⟩) (Nat.le_refl _) (.bool true)) (Nat.le_refl _)
                  have hset : (wr.setCell ⟨w4.heap.size, u, none⟩ (.bool true)).rowIs w4.heap.size 4 g.n (fun y => .bool (decide (y ∈ c.take (k + 1)))) := by
                    refine (hseen.set u (.bool true)).congr (fun y _ => ?_)
                    have hm : y ∈ c.take (k + 1) ↔ y ∈ c.take k ∨ y = u := by rw [List.take_add_one, hu]; simp
                    by_cases e : y = u
                    · rw [if_pos e, decide_eq_true (hm.2 (.inr e))]
                    · rw [if_neg e]
                      exact congrArg Value.bool (decide_eq_decide.2 (by rw [hm]; simp [e]))
                  have HE : Hid (g.E u x) := hE
                  clear hnot hu hx hE hl
                  go_wp2_with fail
                  refine (hasEdge_any ad1 g g.n u x _ hG5 HE.out).mono ?_
                  rintro e w6 ⟨rfl, rfl⟩
                  go_wp2
                  go_roundw
                  case rel => exact ⟨k + 1, by omega, by go_num, hset, hbl.setCell (Nat.le_refl _) _⟩
                  case measure => simp [intOf]; omega
                · have hkq' : ¬ ((k : Int) + 1 < (q : Int) + 1) := by omega
                  go_wp2
                  go_ret
                  exact ⟨rfl, hb04.trans (hbl.mono hb04.size)⟩
          · have hv' : ¬ ((v : Int) < (g.n : Int)) := by omega
            go_wp2
            go_ret
            exact ⟨rfl, hb03⟩

end Go.Proofs.Qxb6601852a
