import Derived.Test.Qxb6601852aHeap
import Derived.Deep.QuietTactic
import Derived.BigQuiet
namespace Go.Proofs.Qxb6601852a
open Go.RowKit

theorem less_irr (a t : Int) : lessB a a t = false := by unfold lessB; simp
theorem less_asym (a b t : Int) (h : lessB a b t = true) : lessB b a t = false := by
  unfold lessB at *
  by_cases h1 : t ≤ a <;> by_cases h2 : t ≤ b <;> simp [h1, h2] at * <;> omega
theorem less_tot (a b t : Int) (h : a ≠ b) (h1 : lessB a b t = false) : lessB b a t = true := by
  unfold lessB at *
  by_cases h1 : t ≤ a <;> by_cases h2 : t ≤ b <;> simp [h1, h2] at * <;> omega
theorem less_trans (a b c t : Int) (h1 : lessB a b t = true) (h2 : lessB b c t = true) : lessB a c t = true := by
  unfold lessB at *
  by_cases ha : t ≤ a <;> by_cases hb : t ≤ b <;> by_cases hc : t ≤ c <;> simp [ha, hb, hc] at * <;> omega

set_option maxHeartbeats 2000000 in
theorem law8_any (ad : Option Addr) (len cap : Nat) (t i j k : Int) (zs : Nat → Int) (w : World) (hs : Ints w ad len zs) :
    Calls Try.prog 8 #[.slice ad len cap, .int .i64 t, .int .i64 i, .int .i64 j, .int .i64 k] w (LawPost w) := by
  have hlen := hs.1
  go_enter Try.func8, Try.ntmps8
  go_wp2_with fail
  refine (zz28_any ad len cap t i j k w).mono ?_
  rintro e w' ⟨⟨b, rfl⟩, rfl⟩
  cases b with
  | false =>
    go_wp2_with fail
    go_ret
    exact ⟨rfl, Below.refl _ _⟩
  | true =>
    by_cases hin : 0 ≤ i ∧ i < len ∧ 0 ≤ j ∧ j < len ∧ 0 ≤ k ∧ k < len
    · obtain ⟨i0, i1, j0, j1, k0, k1⟩ := hin
      obtain ⟨n, rfl⟩ := Int.eq_ofNat_of_zero_le i0
      obtain ⟨m, rfl⟩ := Int.eq_ofNat_of_zero_le j0
      obtain ⟨l, rfl⟩ := Int.eq_ofNat_of_zero_le k0
      go_wp2_with fail
      all_goals try (go_ret; exact ⟨rfl, Below.refl _ _⟩)
      refine (cloneInts_any _ _ _ zs w hs).mono ?_
      rintro e w1 ⟨ad1, rfl, hs1, hb1, _⟩
      clear hs
      go_wp2_with fail
      refine (zzless_any ad1 len len t n n zs w1 hs1 (by omega) (by omega)).mono ?_
      rintro e w2 ⟨rfl, hb2⟩
      have hs2 := hs1.below hb2 (Nat.le_refl _)
      have hbb2 := hb1.trans (hb2.mono hb1.size)
      clear hs1 hb1 hb2
      rw [less_irr]
      go_wp2_with fail
      refine (zzless_any ad1 len len t n m zs w2 hs2 (by omega) (by omega)).mono ?_
      rintro e w3 ⟨rfl, hb3⟩
      have hs3 := hs2.below hb3 (Nat.le_refl _)
      have hbb3 := hbb2.trans (hb3.mono hbb2.size)
      clear hs2 hbb2 hb3
      have HT : Hid (lessB (zs n) (zs m) t = true → lessB (zs m) (zs l) t = true → lessB (zs n) (zs l) t = true) := less_trans _ _ _ _
      have HA : Hid (lessB (zs n) (zs m) t = true → lessB (zs m) (zs n) t = false) := less_asym _ _ _
      have HO : Hid (zs n ≠ zs m → lessB (zs n) (zs m) t = false → lessB (zs m) (zs n) t = true) := less_tot _ _ _
      have HE : Hid (zs n = zs m → lessB (zs n) (zs m) t = false ∧ lessB (zs m) (zs n) t = false) := fun e => by rw [e]; exact ⟨less_irr _ _, less_irr _ _⟩
      obtain ⟨ij, hij⟩ : ∃ ij, lessB (zs n) (zs m) t = ij := ⟨_, rfl⟩
      rw [hij] at HT HA HO HE
      rw [hij]
      clear hij
      go_wp2_with fail
      refine (zzless_any ad1 len len t m n zs w3 hs3 (by omega) (by omega)).mono ?_
      rintro e w4 ⟨rfl, hb4⟩
      have hs4 := hs3.below hb4 (Nat.le_refl _)
      have hbb4 := hbb3.trans (hb4.mono hbb3.size)
      clear hs3 hbb3 hb4
      obtain ⟨ji, hji⟩ : ∃ ji, lessB (zs m) (zs n) t = ji := ⟨_, rfl⟩
      rw [hji] at HA HO HE
      rw [hji]
      clear hji
      go_wp2_with fail
      refine (zzless_any ad1 len len t m l zs w4 hs4 (by omega) (by omega)).mono ?_
      rintro e w5 ⟨rfl, hb5⟩
      have hs5 := hs4.below hb5 (Nat.le_refl _)
      have hbb5 := hbb4.trans (hb5.mono hbb4.size)
      clear hs4 hbb4 hb5
      obtain ⟨jk, hjk⟩ : ∃ jk, lessB (zs m) (zs l) t = jk := ⟨_, rfl⟩
      rw [hjk] at HT
      rw [hjk]
      clear hjk
      go_wp2_with fail
      refine (zzless_any ad1 len len t n l zs w5 hs5 (by omega) (by omega)).mono ?_
      rintro e w6 ⟨rfl, hb6⟩
      have hs6 := hs5.below hb6 (Nat.le_refl _)
      have hbb6 := hbb5.trans (hb6.mono hbb5.size)
      clear hs5 hbb5 hb6
      obtain ⟨ik, hik⟩ : ∃ ik, lessB (zs n) (zs l) t = ik := ⟨_, rfl⟩
      rw [hik] at HT
      rw [hik]
      clear hik
      obtain ⟨b, off, rfl, hb, hc⟩ := hs6.2 (by omega)
      have cn := hc n (by omega)
      have cm := hc m (by omega)
      clear hc hs6
      have hn' : (n : Int) < (len : Int) := by omega
      have hm' : (m : Int) < (len : Int) := by omega
      by_cases hab : zs n = zs m
      · obtain ⟨rfl, rfl⟩ := HE.out hab
        have q1 : (zs n != zs m) = false := by simp [hab]
        have q2 : (zs n == zs m) = true := by simp [hab]
        clear hab HE HO HA HT
        go_wp2
        go_quiet (fail)
        go_wp2
        go_quiet (fail)
        go_wp2
        go_ret
        exact ⟨rfl, below_drewN hbb6 _⟩
      · have q1 : (zs n != zs m) = true := by simp [hab]
        have q2 : (zs n == zs m) = false := by simp [hab]
        cases ij with
        | true =>
          have hji := HA.out rfl
          subst hji
          have HT2 : Hid (jk = true → ik = true) := HT.out rfl
          clear hab HE HO HA HT
          go_wp2
          go_quiet (fail)
          go_wp2
          go_quiet (fail)
          cases jk with
          | false =>
            go_wp2
            go_ret
            exact ⟨rfl, below_drewN hbb6 _⟩
          | true =>
            have hik := HT2.out rfl
            subst hik
            clear HT2
            go_wp2
            go_ret
            exact ⟨rfl, below_drewN hbb6 _⟩
        | false =>
          have hji := HO.out hab rfl
          subst hji
          clear hab HE HO HA HT
          go_wp2
          go_quiet (fail)
          go_wp2
          go_quiet (fail)
          go_wp2
          go_ret
          exact ⟨rfl, below_drewN hbb6 _⟩
    · go_wp2_with fail
      all_goals (go_ret; exact ⟨rfl, Below.refl _ _⟩)
end Go.Proofs.Qxb6601852a
