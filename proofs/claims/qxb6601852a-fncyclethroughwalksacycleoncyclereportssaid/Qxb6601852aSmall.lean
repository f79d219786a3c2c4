import Derived.Test.Qxb6601852aDist
import Derived.Test.Qxb6601852aCyc
namespace Go.Proofs.Qxb6601852a
open Go.RowKit

def IdxPost (w : World) (s : Nat) (e : Ending) (w' : World) : Prop := e = .returned (.int .i64 (s : Int)) ∧ w = w'

set_option maxHeartbeats 1000000 in
theorem index_any (B n s : Nat) (f : Nat → Bool) (w : World) (hn : n ≤ 4096) (hr : w.rowIs B 4 n (fun v => .bool (f v))) (hs : s < n) (hf : f s = true) (hlt : ∀ u, u < s → f u = false) :
    Calls Try.prog 32 #[.slice (some ⟨B, 0, none⟩) n n, .bool true] w (IdxPost w s) := by
  have HF : Hid (f s = true) := hf
  have HL : Hid (∀ u, u < s → f u = false) := hlt
  clear hf hlt
  go_enter Try.func32, Try.ntmps32
  go_wp2
  go_loop [8] (fun i => ∃ k : Nat, k ≤ s ∧ i = .int .i64 (k : Int)) (fun i => s - (intOf i).toNat)
  case atStart => exact ⟨0, Nat.zero_le _, rfl⟩
  case round =>
    obtain ⟨k, hk, rfl⟩ := hrel
    have hkn : k < n := by omega
    have hk' : (k : Int) < (n : Int) := by omega
    by_cases e : k = s
    · subst e
      have c0 : w.cell? ⟨B, k, none⟩ = some (.bool true) := by rw [← HF.out]; exact hr.cell hkn
      go_wp2
      go_ret
      exact ⟨rfl, rfl⟩
    · have c0 : w.cell? ⟨B, k, none⟩ = some (.bool false) := by rw [← HL.out k (by omega)]; exact hr.cell hkn
      go_wp2
      go_round
      case rel => exact ⟨k + 1, by omega, by go_num⟩
      case measure => simp [intOf]; omega

def EdgePost (w : World) (e : Ending) (w' : World) : Prop := e = .returned (.bool true) ∧ w = w'

set_option maxHeartbeats 1000000 in
theorem hasEdge_any (ad : Option Addr) (g : Gr) (cap a b : Nat) (w : World) (hg : Graph w ad g) (hE : g.E a b) :
    Calls Try.prog 24 #[.slice ad g.n cap, .int .i64 (a : Int), .int .i64 (b : Int)] w (EdgePost w) := by
  have hn := hg.1
  have han := hE.1
  obtain ⟨m, hm, hmb⟩ := mem_idx hE.2
  obtain ⟨bk, off, rfl, hb, hrw⟩ := hg.2.2 (by omega)
  obtain ⟨ra, rc, crow, hints⟩ := hrw a han
  have hdeg := hg.2.1 a han
  have han' : (a : Int) < (g.n : Int) := by omega
  have HM : Hid ((g.nx a)[m]? = some b) := hmb
  clear hrw hmb hE
  go_enter Try.func24, Try.ntmps24
  go_wp2
  go_loop [7] (fun i => ∃ k : Nat, k ≤ m ∧ i = .int .i64 (k : Int)) (fun i => m - (intOf i).toNat)
  case atStart => exact ⟨0, Nat.zero_le _, rfl⟩
  case round =>
    obtain ⟨k, hk, rfl⟩ := hrel
    have hkl : k < (g.nx a).length := by omega
    have hkl' : (k : Int) < ((g.nx a).length : Int) := by omega
    obtain ⟨b2, off2, rfl, hb2, hadj⟩ := hints.2 (by omega)
    have cadj : w.cell? ⟨b2, off2 + k, none⟩ = some (.int .i64 (((g.nx a).getD k 0 : Nat) : Int)) := hadj k hkl
    obtain ⟨x, hx⟩ : ∃ x, (g.nx a).getD k 0 = x := ⟨_, rfl⟩
    rw [hx] at cadj
    have hkx : (g.nx a)[k]? = some x := by rw [← hx]; simp [List.getD, hkl]
    have HX : Hid ((g.nx a)[k]? = some x) := hkx
    clear hadj hx hkx
    by_cases e : x = b
    · have heq : ((x : Int) == (b : Int)) = true := by rw [e]; simp
      clear e
      go_wp2
      go_ret
      exact ⟨rfl, rfl⟩
    · have hne : ((x : Int) == (b : Int)) = false := beq_eq_false_iff_ne.2 (by omega)
      have hkm : k ≠ m := fun e2 => e (by have h1 := HX.out; rw [e2, HM.out] at h1; injection h1 with h1; exact h1.symm)
      go_wp2
      go_round
      case rel => exact ⟨k + 1, by omega, by go_num⟩
      case measure => simp [intOf]; omega

/-- Turned round as far as k elements from either end. -/
def turned (n : Nat) (x : Nat → Nat) (k : Nat) (i : Nat) : Nat := if i < k ∨ n ≤ i + k then x (n - 1 - i) else x i

theorem range_set {α : Type} (n : Nat) (f : Nat → α) (k : Nat) (v : α) : ((List.range n).map f).set k v = (List.range n).map (fun i => if i = k then v else f i) := by
  apply List.ext_getElem?
  intro i
  rw [List.getElem?_set]
  by_cases hi : i < n
  · by_cases e : k = i
    · subst e; simp [hi]
    · have e' : ¬ i = k := fun h => e h.symm
      simp [hi, e, e']
  · by_cases e : k = i
    · subst e; simp [hi]
    · simp [hi, e]

theorem turned_step {n k : Nat} (x : Nat → Nat) (hk : k < n - 1 - k) {i : Nat} (hi : i < n) : (if i = n - 1 - k then nv (turned n x k k) else if i = k then nv (turned n x k (n - 1 - k)) else nv (turned n x k i)) = nv (turned n x (k + 1) i) := by
  unfold turned
  by_cases e1 : i = n - 1 - k
  · rw [if_pos e1, if_neg (by omega), if_pos (by omega)]
    congr 2; omega
  · rw [if_neg e1]
    by_cases e2 : i = k
    · rw [if_pos e2, if_neg (by omega), if_pos (by omega)]
      congr 2; omega
    · rw [if_neg e2]
      by_cases h3 : i < k ∨ n ≤ i + k
      · rw [if_pos h3, if_pos (by omega)]
      · rw [if_neg h3, if_neg (by omega)]

theorem range_at {α : Type} {n : Nat} (f : Nat → α) {k : Nat} (hk : k < n) : ((List.range n).map f)[k]? = some (f k) := by
  rw [List.getElem?_map, List.getElem?_range hk]; rfl

theorem turned_end {n k : Nat} (xs : List Nat) (hn : xs.length = n) (hk : n ≤ k + k + 1) : (List.range n).map (fun i => nv (turned n (fun i => xs.getD i 0) k i)) = xs.reverse.map nv := by
  apply List.ext_getElem?
  intro i
  by_cases hi : i < n
  · have h1 : xs.reverse[i]? = xs[n - 1 - i]? := by rw [List.getElem?_reverse (by omega), hn]
    simp only [List.getElem?_map, List.getElem?_range hi, Option.map_some, h1, List.getElem?_eq_getElem (show n - 1 - i < xs.length by omega)]
    unfold turned
    by_cases h3 : i < k ∨ n ≤ i + k
    · rw [if_pos h3]; simp [List.getD, List.getElem?_eq_getElem (show n - 1 - i < xs.length by omega)]
    · rw [if_neg h3]
      have : n - 1 - i = i := by omega
      simp [List.getD, this, List.getElem?_eq_getElem (show i < xs.length by omega)]
  · rw [List.getElem?_eq_none (by simp; omega), List.getElem?_eq_none (by simp; omega)]

theorem turned_start (xs : List Nat) : (List.range xs.length).map (fun i => nv (turned xs.length (fun i => xs.getD i 0) 0 i)) = xs.map nv := by
  apply List.ext_getElem?
  intro i
  by_cases hi : i < xs.length
  · simp only [List.getElem?_map, List.getElem?_range hi, Option.map_some, List.getElem?_eq_getElem hi]
    unfold turned
    rw [if_neg (by omega)]
    simp [List.getD, List.getElem?_eq_getElem hi]
  · rw [List.getElem?_eq_none (by simp; omega), List.getElem?_eq_none (by simp; omega)]

theorem grown_trans {a b c : World} {row : Option Nat} (h : a.grownBy b row) (k : b.grownBy c row) : a.grownBy c row :=
  ⟨k.os.trans h.os, k.tape.trans h.tape, k.output.trans h.output, Nat.le_trans h.size k.size, fun i hi hn => (k.block i (Nat.lt_of_lt_of_le hi h.size) hn).trans (h.block i hi hn)⟩
theorem grown_drew {a b : World} {row : Option Nat} (h : a.grownBy b row) : a.grownBy b.drew row := ⟨h.os, h.tape, h.output, h.size, h.block⟩

def RvPost (w : World) (base b cap : Nat) (xs : List Nat) (e : Ending) (w' : World) : Prop :=
  (∃ v, e = .returned v) ∧ w'.ownsRow base 3 1 (.slice (some ⟨b, 0, none⟩) xs.length cap) xs.length (xs.reverse.map nv) ∧ w.grownBy w' (some b)

set_option maxHeartbeats 4000000 in
theorem reverseInts_any (base b cap : Nat) (xs : List Nat) (w : World) (hx : 1 ≤ xs.length) (hl : xs.length ≤ 10000) (hown : w.ownsRow base 3 1 (.slice (some ⟨b, 0, none⟩) xs.length cap) xs.length (xs.map nv)) :
    Calls Try.prog 33 #[.slice (some ⟨b, 0, none⟩) xs.length cap] w (RvPost w base b cap xs) := by
  obtain ⟨n, hn⟩ : ∃ n, xs.length = n := ⟨_, rfl⟩
  have hst := turned_start xs
  have hend := fun k => turned_end (k := k) xs hn
  rw [← hst] at hown
  rw [hn] at hown hx hl ⊢
  have HE : Hid (∀ k, n ≤ k + k + 1 → (List.range n).map (fun i => nv (turned n (fun i => xs.getD i 0) k i)) = xs.reverse.map nv) := hend
  have HN : Hid (xs.length = n) := hn
  obtain ⟨x, hxx⟩ : ∃ x : Nat → Nat, (fun i => xs.getD i 0) = x := ⟨_, rfl⟩
  rw [hxx] at hown HE
  clear hst hend hn hxx
  go_enter Try.func33, Try.ntmps33
  go_wp2
  go_loopw [2, 3] (fun i j wr => ∃ k : Nat, k ≤ n ∧ 2 * k ≤ n + 1 ∧ i = .int .i64 (k : Int) ∧ j = .int .i64 ((n : Int) - 1 - (k : Int)) ∧ wr.ownsRow base 3 1 (.slice (some ⟨b, 0, none⟩) n cap) n ((List.range n).map (fun i => nv (turned n x k i))) ∧ w.grownBy wr (some b)) (fun i _ _ => n - (intOf i).toNat)
  case atStart => exact ⟨0, Nat.zero_le _, by omega, rfl, by go_num, hown, ⟨rfl, rfl, rfl, Nat.le_refl _, fun _ _ _ => rfl⟩⟩
  case round =>
    clear hown
    obtain ⟨k, hk, hk2, rfl, rfl, hown, hgr⟩ := hrel
    by_cases hlt : k < n - 1 - k
    · have c1 : wr.cell? ⟨b, k, none⟩ = some (nv (turned n x k k)) := by rw [hown.cellAt k (by omega)]; exact range_at _ (by omega)
      have c2 : wr.cell? ⟨b, n - 1 - k, none⟩ = some (nv (turned n x k (n - 1 - k))) := by rw [hown.cellAt (n - 1 - k) (by omega)]; exact range_at _ (by omega)
      have f1 : wr.frozen? ⟨b, k, none⟩ = false := hown.frozenAt k
      have f2 : wr.frozen? ⟨b, n - 1 - k, none⟩ = false := hown.frozenAt (n - 1 - k)
      have hlt' : (k : Int) < (n : Int) - 1 - (k : Int) := by omega
      obtain ⟨q, hq⟩ : ∃ q, n - 1 - k = q := ⟨_, rfl⟩
      have hqi : (n : Int) - 1 - (k : Int) = (q : Int) := by omega
      rw [hqi] at hlt' ⊢
      rw [hq] at c2 f2
      unfold nv at c1 c2
      have hqn : q < n := by omega
      have hqn' : (q : Int) < (n : Int) := by omega
      have hkn' : (k : Int) < (n : Int) := by omega
      go_wp2
      go_region
      go_wp2
      go_roundw
      case rel =>
        obtain ⟨o1, g1⟩ := hown.stored k (nv (turned n x k q))
        obtain ⟨o2, g2⟩ := o1.stored q (nv (turned n x k k))
        rw [range_set, range_set] at o2
        have e : (List.range n).map (fun i => if i = q then nv (turned n x k k) else if i = k then nv (turned n x k q) else nv (turned n x k i)) = (List.range n).map (fun i => nv (turned n x (k + 1) i)) := by
          refine List.map_congr_left (fun i hi => ?_)
          rw [← hq]
          exact turned_step x hlt (List.mem_range.1 hi)
        rw [e] at o2
        exact ⟨k + 1, by omega, by omega, by go_num, by go_num, o2, grown_drew (grown_trans (grown_trans hgr g1) g2)⟩
      case measure => simp [intOf]; omega
    · have hlt' : ¬ ((k : Int) < (n : Int) - 1 - (k : Int)) := by omega
      go_wp2
      first | go_end0 | refine bodyPost_ret (results_none rfl _ _ _) rfl ?_
      refine ⟨⟨_, rfl⟩, ?_, hgr⟩
      rw [HE.out k (by omega)] at hown
      rw [HN.out]
      exact hown

end Go.Proofs.Qxb6601852a
