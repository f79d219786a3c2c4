import Derived.Test.Qxb6602061aProg
import Derived.Test.Qxb6602061aPlain
import Derived.WalkKit
import Derived.WalkSpells
import Derived.WalkLawsBesides
import Derived.Deep.OwnRows
import Derived.BigRegion
namespace Go.Proofs.Qxb6602061a
open Go.RowKit

/-- The call returned v and left the world as it was. -/
def Ret (w : World) (v : Value) (e : Ending) (w' : World) : Prop := e = .returned v ∧ w = w'

theorem hid_mk {p : Prop} (h : p) : Hid p := h

theorem ret_mk {w : World} {v u : Value} (h : u = v) : Ret w v (.returned u) w := ⟨by rw [h], rfl⟩

theorem isDigit_any (c : Nat) (w : World) : Calls Try.prog 43 #[.int .u8 (c : Int)] w (Ret w (.bool (dig c))) := by
  go_enter Try.func43, Try.ntmps43
  by_cases h1 : (48 : Int) ≤ (c : Int)
  · by_cases h2 : (c : Int) ≤ 57
    · go_wp2
      go_ret
      exact ret_mk (congrArg Value.bool (by simp [dig]; omega))
    · go_wp2
      go_ret
      exact ret_mk (congrArg Value.bool (by simp [dig]; omega))
  · go_wp2
    go_ret
    exact ret_mk (congrArg Value.bool (by simp [dig]; omega))

theorem isLetter_any (c : Nat) (w : World) : Calls Try.prog 42 #[.int .u8 (c : Int)] w (Ret w (.bool (lett c))) := by
  go_enter Try.func42, Try.ntmps42
  by_cases h1 : (97 : Int) ≤ (c : Int)
  · by_cases h2 : (c : Int) ≤ 122
    · go_wp2
      go_ret
      exact ret_mk (congrArg Value.bool (by simp [lett]; omega))
    · have h3 : (65 : Int) ≤ (c : Int) := by omega
      have h4 : ¬ ((c : Int) ≤ 90) := by omega
      go_wp2
      go_ret
      exact ret_mk (congrArg Value.bool (by simp [lett]; omega))
  · by_cases h3 : (65 : Int) ≤ (c : Int)
    · by_cases h4 : (c : Int) ≤ 90
      · go_wp2
        go_ret
        exact ret_mk (congrArg Value.bool (by simp [lett]; omega))
      · go_wp2
        go_ret
        exact ret_mk (congrArg Value.bool (by simp [lett]; omega))
    · go_wp2
      go_ret
      exact ret_mk (congrArg Value.bool (by simp [lett]; omega))

theorem zzuIsHex_any (c : Nat) (w : World) : Calls Try.prog 30 #[.int .u8 (c : Int)] w (Ret w (.bool (hexd c))) := by
  have e := hexd_iff c
  go_enter Try.func30, Try.ntmps30
  by_cases h1 : (48 : Int) ≤ (c : Int) ∧ (c : Int) ≤ 57
  · have h1a := h1.1
    have h1b := h1.2
    go_wp2
    go_ret
    exact ret_mk (congrArg Value.bool (e.2 (by omega)).symm)
  · by_cases h2 : (97 : Int) ≤ (c : Int) ∧ (c : Int) ≤ 102
    · have h2a := h2.1
      have h2b := h2.2
      have h1a : (48 : Int) ≤ (c : Int) := by omega
      have h1b : ¬ ((c : Int) ≤ 57) := by omega
      clear h1
      go_wp2
      go_ret
      exact ret_mk (congrArg Value.bool (e.2 (by omega)).symm)
    · by_cases h3 : (65 : Int) ≤ (c : Int) ∧ (c : Int) ≤ 70
      · have h3a := h3.1
        have h3b := h3.2
        have h1a : (48 : Int) ≤ (c : Int) := by omega
        have h1b : ¬ ((c : Int) ≤ 57) := by omega
        have h2a : ¬ ((97 : Int) ≤ (c : Int)) := by omega
        clear h1 h2
        go_wp2
        go_ret
        exact ret_mk (congrArg Value.bool (e.2 (by omega)).symm)
      · have hf : hexd c = false := by
          cases h : hexd c with
          | false => rfl
          | true => have := e.1 h; omega
        clear e
        by_cases a1 : (48 : Int) ≤ (c : Int) <;> by_cases a2 : (c : Int) ≤ 57 <;> by_cases a3 : (97 : Int) ≤ (c : Int) <;> by_cases a4 : (c : Int) ≤ 102 <;> by_cases a5 : (65 : Int) ≤ (c : Int) <;> by_cases a6 : (c : Int) ≤ 70 <;> first
          | (exfalso; omega)
          | (have HF : Hid (hexd c = false) := hf; clear h1 h2 h3 hf; go_wp2; go_ret; exact ret_mk (congrArg Value.bool (by rw [HF.out]; first | done | (simp; omega) | simp)))

theorem isHex_any (c : Nat) (w : World) : Calls Try.prog 47 #[.int .u8 (c : Int)] w (Ret w (.bool (hexd c))) := by
  have e := hexd_iff c
  go_enter Try.func47, Try.ntmps47
  go_wp2_with fail
  refine (isDigit_any c w).mono ?_
  rintro e' w' ⟨rfl, rfl⟩
  cases hd : dig c with
  | true =>
    have hx : hexd c = true := by simp [hexd, hd]
    clear e
    go_wp2
    go_ret
    exact ret_mk (congrArg Value.bool hx.symm)
  | false =>
    by_cases h2 : (97 : Int) ≤ (c : Int) ∧ (c : Int) ≤ 102
    · have h2a := h2.1
      have h2b := h2.2
      go_wp2
      go_ret
      exact ret_mk (congrArg Value.bool (e.2 (by omega)).symm)
    · by_cases h3 : (65 : Int) ≤ (c : Int) ∧ (c : Int) ≤ 70
      · have h3a := h3.1
        have h3b := h3.2
        have h2a : ¬ ((97 : Int) ≤ (c : Int)) := by omega
        clear h2
        go_wp2
        go_ret
        exact ret_mk (congrArg Value.bool (e.2 (by omega)).symm)
      · have hf : hexd c = false := by
          cases h : hexd c with
          | false => rfl
          | true =>
            have h4 := e.1 h
            simp [dig] at hd
            omega
        clear e
        by_cases a3 : (97 : Int) ≤ (c : Int) <;> by_cases a4 : (c : Int) ≤ 102 <;> by_cases a5 : (65 : Int) ≤ (c : Int) <;> by_cases a6 : (c : Int) ≤ 70 <;> first
          | (exfalso; omega)
          | (have HF : Hid (hexd c = false) := hf; clear h2 h3 hf; go_wp2; go_ret; exact ret_mk (congrArg Value.bool (by rw [HF.out]; first | done | (simp; omega) | simp)))

theorem unres_any (c : Nat) (w : World) : Calls Try.prog 49 #[.int .u8 (c : Int)] w (Ret w (.bool (unres c))) := by
  go_enter Try.func49, Try.ntmps49
  go_wp2_with fail
  refine (isLetter_any c w).mono ?_
  rintro e' w' ⟨rfl, rfl⟩
  cases hl : lett c with
  | true =>
    have hx : unres c = true := by simp [unres, hl]
    go_wp2
    go_ret
    exact ret_mk (congrArg Value.bool hx.symm)
  | false =>
    go_wp2_with fail
    refine (isDigit_any c w).mono ?_
    rintro e' w' ⟨rfl, rfl⟩
    cases hd : dig c with
    | true =>
      have hx : unres c = true := by simp [unres, hd]
      go_wp2
      go_ret
      exact ret_mk (congrArg Value.bool hx.symm)
    | false =>
      have hx : unres c = (decide (c = 45) || decide (c = 46) || decide (c = 95) || decide (c = 126)) := by simp [unres, hl, hd]
      by_cases a1 : c = 45
      · have b1 : ((c : Int) == 45) = true := beq_iff_eq.2 (by omega)
        have hy : unres c = true := by rw [hx]; simp [a1]
        clear a1 hx
        go_wp2
        go_ret
        exact ret_mk (congrArg Value.bool hy.symm)
      · have b1 : ((c : Int) == 45) = false := beq_eq_false_iff_ne.2 (by omega)
        by_cases a2 : c = 46
        · have b2 : ((c : Int) == 46) = true := beq_iff_eq.2 (by omega)
          have hy : unres c = true := by rw [hx]; simp [a2]
          clear a1 a2 hx
          go_wp2
          go_ret
          exact ret_mk (congrArg Value.bool hy.symm)
        · have b2 : ((c : Int) == 46) = false := beq_eq_false_iff_ne.2 (by omega)
          by_cases a3 : c = 95
          · have b3 : ((c : Int) == 95) = true := beq_iff_eq.2 (by omega)
            have hy : unres c = true := by rw [hx]; simp [a3]
            clear a1 a2 a3 hx
            go_wp2
            go_ret
            exact ret_mk (congrArg Value.bool hy.symm)
          · have b3 : ((c : Int) == 95) = false := beq_eq_false_iff_ne.2 (by omega)
            by_cases a4 : c = 126
            · have b4 : ((c : Int) == 126) = true := beq_iff_eq.2 (by omega)
              have hy : unres c = true := by rw [hx]; simp [a4]
              clear a1 a2 a3 a4 hx
              go_wp2
              go_ret
              exact ret_mk (congrArg Value.bool hy.symm)
            · have b4 : ((c : Int) == 126) = false := beq_eq_false_iff_ne.2 (by omega)
              have hy : unres c = false := by rw [hx]; simp [a1, a2, a3, a4]
              clear a1 a2 a3 a4 hx
              go_wp2
              go_ret
              exact ret_mk (congrArg Value.bool hy.symm)

theorem lower_any (c : Nat) (hc : c < 256) (w : World) : Calls Try.prog 33 #[.int .u8 (c : Int)] w (Ret w (.int .u8 (lw c : Int))) := by
  go_enter Try.func33, Try.ntmps33
  by_cases h1 : (65 : Int) ≤ (c : Int)
  · by_cases h2 : (c : Int) ≤ 90
    · have HE : Hid (lw c = c + 32) := hid_mk (by unfold lw; rw [if_pos (by omega)])
      go_wp2
      go_ret
      exact ret_mk (congrArg (Value.int .u8) (by rw [HE.out]; go_num))
    · have HE : Hid (lw c = c) := hid_mk (by unfold lw; rw [if_neg (by omega)])
      go_wp2
      go_ret
      exact ret_mk (congrArg (Value.int .u8) (by rw [HE.out]))
  · have HE : Hid (lw c = c) := hid_mk (by unfold lw; rw [if_neg (by omega)])
    go_wp2
    go_ret
    exact ret_mk (congrArg (Value.int .u8) (by rw [HE.out]))

theorem zzuLower_any (c : Nat) (hc : c < 256) (w : World) : Calls Try.prog 15 #[.int .u8 (c : Int)] w (Ret w (.int .u8 (lw c : Int))) := by
  go_enter Try.func15, Try.ntmps15
  by_cases h1 : (65 : Int) ≤ (c : Int)
  · by_cases h2 : (c : Int) ≤ 90
    · have HE : Hid (lw c = c + 32) := hid_mk (by unfold lw; rw [if_pos (by omega)])
      go_wp2
      go_ret
      exact ret_mk (congrArg (Value.int .u8) (by rw [HE.out]; go_num))
    · have HE : Hid (lw c = c) := hid_mk (by unfold lw; rw [if_neg (by omega)])
      go_wp2
      go_ret
      exact ret_mk (congrArg (Value.int .u8) (by rw [HE.out]))
  · have HE : Hid (lw c = c) := hid_mk (by unfold lw; rw [if_neg (by omega)])
    go_wp2
    go_ret
    exact ret_mk (congrArg (Value.int .u8) (by rw [HE.out]))

theorem hexVal_any (c : Nat) (hh : hexd c = true) (w : World) : Calls Try.prog 39 #[.int .u8 (c : Int)] w (Ret w (.int .u8 (hv c : Int))) := by
  have hx := (hexd_iff c).1 hh
  clear hh
  go_enter Try.func39, Try.ntmps39
  by_cases h1 : (48 : Int) ≤ (c : Int) ∧ (c : Int) ≤ 57
  · have h1a := h1.1
    have h1b := h1.2
    have HE : Hid (hv c = c - 48) := hid_mk (by unfold hv; rw [if_pos (by simp [dig]; omega)])
    clear hx
    go_wp2
    go_ret
    exact ret_mk (congrArg (Value.int .u8) (by rw [HE.out]; go_num))
  · have hd : ¬ (dig c = true) := by simp [dig]; omega
    by_cases h2 : (97 : Int) ≤ (c : Int)
    · have h1a : (48 : Int) ≤ (c : Int) := by omega
      have h1b : ¬ ((c : Int) ≤ 57) := by omega
      have h2b : (c : Int) ≤ 102 := by omega
      have HE : Hid (hv c = c - 87) := hid_mk (by unfold hv; rw [if_neg hd, if_pos (by omega)])
      clear hx h1 hd
      go_wp2
      go_ret
      exact ret_mk (congrArg (Value.int .u8) (by rw [HE.out]; go_num))
    · have h1a : (48 : Int) ≤ (c : Int) := by omega
      have h1b : ¬ ((c : Int) ≤ 57) := by omega
      have h3a : (65 : Int) ≤ (c : Int) := by omega
      have h3b : (c : Int) ≤ 70 := by omega
      have HE : Hid (hv c = c - 55) := hid_mk (by unfold hv; rw [if_neg hd, if_neg (by omega)])
      clear hx h1 hd
      go_wp2
      go_ret
      exact ret_mk (congrArg (Value.int .u8) (by rw [HE.out]; go_num))

theorem unhex_any (c : Nat) (hh : hexd c = true) (w : World) : Calls Try.prog 48 #[.int .u8 (c : Int)] w (Ret w (.int .u8 (hv c : Int))) := by
  have hx := (hexd_iff c).1 hh
  clear hh
  go_enter Try.func48, Try.ntmps48
  go_wp2_with fail
  refine (isDigit_any c w).mono ?_
  rintro e' w' ⟨rfl, rfl⟩
  cases hd : dig c with
  | true =>
    have HE : Hid (hv c = c - 48) := hid_mk (by unfold hv; rw [if_pos hd])
    have hb : 48 ≤ c ∧ c ≤ 57 := by simpa [dig] using hd
    clear hx
    go_wp2
    go_ret
    exact ret_mk (congrArg (Value.int .u8) (by rw [HE.out]; go_num))
  | false =>
    have hd' : ¬ (dig c = true) := by rw [hd]; simp
    have hb : ¬ (48 ≤ c ∧ c ≤ 57) := by simpa [dig] using hd
    by_cases h2 : (97 : Int) ≤ (c : Int)
    · have h2b : (c : Int) ≤ 102 := by omega
      have HE : Hid (hv c = c - 87) := hid_mk (by unfold hv; rw [if_neg hd', if_pos (by omega)])
      clear hx hb hd'
      go_wp2
      go_ret
      exact ret_mk (congrArg (Value.int .u8) (by rw [HE.out]; go_num))
    · have h3a : (65 : Int) ≤ (c : Int) := by omega
      have h3b : (c : Int) ≤ 70 := by omega
      have HE : Hid (hv c = c - 55) := hid_mk (by unfold hv; rw [if_neg hd', if_neg (by omega)])
      clear hx hb hd'
      go_wp2
      go_ret
      exact ret_mk (congrArg (Value.int .u8) (by rw [HE.out]; go_num))

def IsB (e : Ending) : Prop := ∃ b : Bool, e = .returned (.bool b)

theorem zz20_any (s : ByteArray) (b : Bool) (w : World) (hs : s.size ≤ 9223372036854775807) : Calls Try.prog 20 #[.string s, .bool b] w (fun e w' => IsB e ∧ w = w') := by
  go_enter Try.func20, Try.ntmps20
  by_cases h1 : (1048576 : Int) < (s.size : Int)
  · go_wp2
    go_ret
    exact ⟨⟨_, rfl⟩, rfl⟩
  · go_wp2
    go_ret
    exact ⟨⟨_, rfl⟩, rfl⟩

end Go.Proofs.Qxb6602061a
