import Derived.Test.Qxb6601852aBase
namespace Go.Proofs.Qxb6601852a
open Go.RowKit

def LawPost (w : World) (e : Ending) (w' : World) : Prop := e = .returned (.bool true) ∧ Below w.heap.size w w'

theorem circ (a b t : Int) (ha : -9223372036854775808 ≤ a ∧ a ≤ 9223372036854775807) (hb : -9223372036854775808 ≤ b ∧ b ≤ 9223372036854775807) (ht : -9223372036854775808 ≤ t ∧ t ≤ 9223372036854775807) :
    (lessB a b t == decide (IntKind.u64.wrap (IntKind.u64.wrap a - IntKind.u64.wrap t) < IntKind.u64.wrap (IntKind.u64.wrap b - IntKind.u64.wrap t))) = true := by
  have key : ∀ x : Int, -9223372036854775808 ≤ x → x ≤ 9223372036854775807 → IntKind.u64.wrap (IntKind.u64.wrap x - IntKind.u64.wrap t) = if t ≤ x then x - t else x - t + 18446744073709551616 := by
    intro x h1 h2
    simp only [IntKind.wrap_u64]
    split <;> omega
  rw [key a ha.1 ha.2, key b hb.1 hb.2, beq_iff_eq]
  unfold lessB
  by_cases h1 : t ≤ a <;> by_cases h2 : t ≤ b <;> simp [h1, h2] <;> omega

set_option maxHeartbeats 1000000 in
theorem law7_any (ad : Option Addr) (len cap : Nat) (t i j : Int) (zs : Nat → Int) (w : World) (hs : Ints w ad len zs) (hz : ∀ k, k < len → -9223372036854775808 ≤ zs k ∧ zs k ≤ 9223372036854775807)
    (ht : -9223372036854775808 ≤ t ∧ t ≤ 9223372036854775807) :
    Calls Try.prog 7 #[.slice ad len cap, .int .i64 t, .int .i64 i, .int .i64 j] w (LawPost w) := by
  have hlen := hs.1
  go_enter Try.func7, Try.ntmps7
  go_wp2_with fail
  refine (zz25_any ad len cap t i j w).mono ?_
  rintro e w' ⟨⟨b, rfl⟩, rfl⟩
  cases b with
  | false =>
    go_wp2_with fail
    go_ret
    exact ⟨rfl, Below.refl _ _⟩
  | true =>
    by_cases hin : 0 ≤ i ∧ i < len ∧ 0 ≤ j ∧ j < len
    · obtain ⟨i0, i1, j0, j1⟩ := hin
      obtain ⟨n, rfl⟩ := Int.eq_ofNat_of_zero_le i0
      obtain ⟨m, rfl⟩ := Int.eq_ofNat_of_zero_le j0
      go_wp2_with fail
      all_goals try (go_ret; exact ⟨rfl, Below.refl _ _⟩)
      refine (cloneInts_any _ _ _ zs w hs).mono ?_
      rintro e w1 ⟨ad1, rfl, hs1, hb1, _⟩
      have hzn := hz n (by omega)
      have hzm := hz m (by omega)
      have hless := zzless_any ad1 len len t n m zs w1 hs1 (by omega) (by omega)
      obtain ⟨b, off, rfl, hb, hc⟩ := hs1.2 (by omega)
      have cn := hc n (by omega)
      have cm := hc m (by omega)
      clear hc hs1 hz
      go_wp2_with fail
      refine hless.mono ?_
      rintro e w2 ⟨rfl, hb2⟩
      go_wp2_with fail
      go_ret
      exact ⟨congrArg (fun b => Ending.returned (.bool b)) (circ (zs n) (zs m) t hzn hzm ht), hb1.trans (hb2.mono hb1.size)⟩
    · go_wp2_with fail
      all_goals (go_ret; exact ⟨rfl, Below.refl _ _⟩)
end Go.Proofs.Qxb6601852a
