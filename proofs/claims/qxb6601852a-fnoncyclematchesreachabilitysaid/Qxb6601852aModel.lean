import Derived.Test.Qxb6601852aDist
import Derived.Test.Qxb6601852aPlain
namespace Go.Proofs.Qxb6601852a
open Go.RowKit

def ModelPost (w : World) (g : Gr) (e : Ending) (w' : World) : Prop :=
  ∃ (B : Nat) (res : Nat → Bool), e = .returned (.slice (some ⟨B, 0, none⟩) g.n g.n) ∧ w'.rowIs B 4 g.n (fun v => .bool (res v)) ∧ (∀ v, v < g.n → (res v = true ↔ g.OnC v)) ∧ Below w.heap.size w w'

/-- The flags laid so far. -/
def MFlags (g : Gr) (v : Nat) (res : Nat → Bool) : Prop := (∀ u, u < v → (res u = true ↔ g.OnC u)) ∧ ∀ u, v ≤ u → res u = false

theorem MFlags.yes {g : Gr} {v : Nat} {res : Nat → Bool} (h : MFlags g v res) (hv : g.OnC v) : MFlags g (v + 1) (set res v true) := by
  refine ⟨fun u hu => ?_, fun u hu => ?_⟩
  · by_cases e : u = v
    · subst e; rw [set_same]; simp [hv]
    · rw [set_other _ _ e]; exact h.1 u (by omega)
  · rw [set_other _ _ (by omega)]; exact h.2 u (by omega)

theorem MFlags.no {g : Gr} {v : Nat} {res : Nat → Bool} (h : MFlags g v res) (hv : ¬ g.OnC v) : MFlags g (v + 1) res := by
  refine ⟨fun u hu => ?_, fun u hu => h.2 u (by omega)⟩
  by_cases e : u = v
  · subst e
    rw [h.2 u (Nat.le_refl _)]
    simp [hv]
  · exact h.1 u (by omega)

set_option maxRecDepth 100000 in
set_option maxHeartbeats 10000000 in
theorem model_any (ad : Option Addr) (g : Gr) (cap : Nat) (w : World) (hg : Graph w ad g) (hwf : g.wf) (htot : sumTo g.n (fun v => (g.nx v).length) ≤ 131072) :
    Calls Try.prog 14 #[.slice ad g.n cap] w (ModelPost w g) := by
  have hn := hg.1
  have hmk4 := run_make_row' (P := Try.prog) 25 4 (.bool false) 1 Try.underlying25 Try.info4 rfl .i64 .i64 g.n (by omega) (by omega)
  go_enter Try.func14, Try.ntmps14
  go_wp2_with fail
  refine (reverse_any ad g cap w hg hwf htot).mono ?_
  rintro e w1 ⟨ad1, rfl, hG1, hb1⟩
  have hg1 := hg.below hb1 (Nat.le_refl _)
  clear hg
  go_wp2
  go_loopw [6] (fun i wr => ∃ v : Nat, v ≤ g.n ∧ i = .int .i64 (v : Int) ∧ ∃ res : Nat → Bool, wr.rowIs w1.heap.size 4 g.n (fun v => .bool (res v)) ∧ Below w1.heap.size w1 wr ∧ Hid (MFlags g v res)) (fun i _ => g.n - (intOf i).toNat)
  case atStart => exact ⟨0, Nat.zero_le _, rfl, fun _ => false, World.rowIs_made w1 (.bool false) g.n 4, (Below.refl _ _).alloc (Nat.le_refl _) _, ⟨fun u hu => by omega, fun u _ => rfl⟩⟩
  case round =>
    clear hmk4
    obtain ⟨v, hv, rfl, res, hrow, hbl, HM⟩ := hrel
    by_cases hlt : v < g.n
    · have hG2 := hG1.below hbl (Nat.le_refl _)
      have hv' : (v : Int) < (g.n : Int) := by omega
      go_wp2_with fail
      refine (dist_any ad1 g.rv g.n v wr hG2 (rv_wf hwf) hlt).mono ?_
      rintro e w2 ⟨D, rfl, hd, hD0, hb2⟩
      have hd' : w2.rowIs wr.heap.size 3 g.n (fun v => .int .i64 (D v)) := hd
      have hrow2 : w2.rowIs w1.heap.size 4 g.n (fun v => .bool (res v)) := hrow.of_block (hb2.block _ hrow.lt)
      have hbl2 : Below w1.heap.size w1 w2 := hbl.trans (hb2.mono hbl.size)
      have hg2 := hg1.below hbl2 (Nat.le_refl _)
      have HD : Hid (∀ x, x < g.n → (0 ≤ D x ↔ g.R x v)) := fun x hx => (hD0 x hx).trans (rv_R hwf)
      obtain ⟨b, off, rfl, hb, hrw⟩ := hg2.2.2 (by omega)
      obtain ⟨ra, rc, crow, hints⟩ := hrw v hlt
      have hdeg := hg2.2.1 v hlt
      clear hrw hd hD0 hrow hbl hG2
      go_wp2
      go_loop [8] (fun i => ∃ k : Nat, k ≤ (g.nx v).length ∧ i = .int .i64 (k : Int) ∧ Hid (∀ j, j < k → ∀ x, (g.nx v)[j]? = some x → ¬ g.R x v)) (fun i => (g.nx v).length - (intOf i).toNat)
      case atStart => exact ⟨0, Nat.zero_le _, rfl, (fun j hj => by omega : ∀ j, j < 0 → ∀ x, (g.nx v)[j]? = some x → ¬ g.R x v)⟩
      case round =>
        obtain ⟨k, hk, rfl, HN⟩ := hrel
        by_cases hkl : k < (g.nx v).length
        · obtain ⟨b2, off2, rfl, hb2', hadj⟩ := hints.2 (by omega)
          have cadj : w2.cell? ⟨b2, off2 + k, none⟩ = some (.int .i64 (((g.nx v).getD k 0 : Nat) : Int)) := hadj k hkl
          obtain ⟨x, hx⟩ : ∃ x, (g.nx v).getD k 0 = x := ⟨_, rfl⟩
          rw [hx] at cadj
          have hkx : (g.nx v)[k]? = some x := by rw [← hx]; simp [List.getD, hkl]
          have hxn := (hwf v hlt x (List.mem_of_getElem? hkx)).1
          have hkl' : (k : Int) < ((g.nx v).length : Int) := by omega
          have hxn' : (x : Int) < (g.n : Int) := by omega
          have cx : w2.cell? ⟨wr.heap.size, x, none⟩ = some (.int .i64 (D x)) := hd'.cell hxn
          have HX : Hid ((g.nx v)[k]? = some x) := hkx
          clear hadj hx hkx
          by_cases hD : 0 ≤ D x
          · have hon : g.OnC v := ⟨x, ⟨hlt, List.mem_of_getElem? HX.out⟩, (HD.out x hxn).1 hD⟩
            have cr := hrow2.cell hlt
            have fr := hrow2.frozen v
            have HM2 : Hid (MFlags g (v + 1) (set res v true)) := HM.out.yes hon
            have hset : (w2.setCell ⟨w1.heap.size, v, none⟩ (.bool true)).rowIs w1.heap.size 4 g.n (fun u => .bool (set res v true u)) := (hrow2.set v (.bool true)).congr (fun j _ => set_val Value.bool res v true j)
            clear hon
            go_wp2
            go_roundw
            case rel => exact ⟨v + 1, by omega, by go_num, set res v true, hset, hbl2.setCell (Nat.le_refl _) _, HM2⟩
            case measure => simp [intOf]; omega
          · have hD' : D x < 0 := by omega
            go_wp2
            go_round
            case rel =>
              have e1 := HN.out
              refine ⟨k + 1, by omega, by go_num, (fun j hj y hy => ?_ : ∀ j, j < k + 1 → ∀ x, (g.nx v)[j]? = some x → ¬ g.R x v)⟩
              by_cases e : j = k
              · rw [e, HX.out] at hy; cases hy
                exact fun hr => hD ((HD.out x hxn).2 hr)
              · exact e1 j (by omega) y hy
            case measure => simp [intOf]; omega
        · have hkl' : ¬ ((k : Int) < ((g.nx v).length : Int)) := by omega
          have HM2 : Hid (MFlags g (v + 1) res) := by
            refine hid_mk' (HM.out.no ?_)
            rintro ⟨x, hx, hr⟩
            obtain ⟨j, hj, hjx⟩ := mem_idx hx.2
            exact HN.out j (by omega) x hjx hr
          go_wp2
          go_roundw
          case rel => exact ⟨v + 1, by omega, by go_num, res, hrow2, hbl2, HM2⟩
          case measure => simp [intOf]; omega
    · have hve : v = g.n := by omega
      have hall : ∀ u, u < g.n → (res u = true ↔ g.OnC u) := fun u hu => HM.out.1 u (by omega)
      clear hve
      go_wp2
      go_ret
      exact ⟨w1.heap.size, res, rfl, hrow, hall, hb1.trans (hbl.mono hb1.size)⟩

end Go.Proofs.Qxb6601852a
