import Derived.Test.Qxb6601805aBytes
namespace Go.Proofs.Qxb6601805a
open Go.RowKit

set_option maxHeartbeats 1000000 in
set_option maxRecDepth 100000 in
theorem zz6_any (s0 s2 : ByteArray) (a1 a3 a4 : Option Addr) (l1 l3 l4 c1 c3 c4 : Nat) (ss1 ss3 se sf st : Nat → ByteArray) (w : World) (h1 : Strs w a1 l1 ss1) (h3 : Strs w a3 l3 ss3) (h4 : Trs w a4 l4 se sf st) :
    Calls Try.prog 6 #[.string s0, .slice a1 l1 c1, .string s2, .slice a3 l3 c3, .slice a4 l4 c4] w fun e w' => IsB e ∧ w = w' := by
  have hl1 := h1.1
  have hl3 := h3.1
  have hl4 := h4.1
  go_enter Try.func6, Try.ntmps6
  go_wp2
  all_goals try (go_ret; exact ⟨⟨_, rfl⟩, rfl⟩)
  go_loop [11, 12] (fun t i => ∃ k : Nat, k ≤ l1 ∧ i = .int .i64 k ∧ ∃ r : Int, t = .int .i64 r) (fun _ i => l1 - (intOf i).toNat)
  case atStart => exact ⟨0, Nat.zero_le _, rfl, _, rfl⟩
  case round =>
    obtain ⟨k, hk, rfl, r, rfl⟩ := hrel
    by_cases hlt : k < l1
    · obtain ⟨b, off, rfl, hb, hc⟩ := h1.2 (by omega)
      have hcell := hc k hlt
      clear hc
      go_wp2
      all_goals try (go_ret; exact ⟨⟨_, rfl⟩, rfl⟩)
      all_goals
        go_round
        case rel => exact ⟨k + 1, by omega, by go_num, _, rfl⟩
        case measure => simp [intOf]; omega
    · go_wp2
      all_goals try (go_ret; exact ⟨⟨_, rfl⟩, rfl⟩)
      go_loop [11, 13] (fun t i => ∃ k : Nat, k ≤ l3 ∧ i = .int .i64 k ∧ ∃ r : Int, t = .int .i64 r) (fun _ i => l3 - (intOf i).toNat)
      case atStart => exact ⟨0, Nat.zero_le _, rfl, _, rfl⟩
      case round =>
        obtain ⟨k3, hk3, rfl, r3, rfl⟩ := hrel
        by_cases hlt3 : k3 < l3
        · obtain ⟨b, off, rfl, hb, hc⟩ := h3.2 (by omega)
          have hcell := hc k3 hlt3
          clear hc
          go_wp2
          all_goals try (go_ret; exact ⟨⟨_, rfl⟩, rfl⟩)
          all_goals
            go_round
            case rel => exact ⟨k3 + 1, by omega, by go_num, _, rfl⟩
            case measure => simp [intOf]; omega
        · go_wp2
          all_goals try (go_ret; exact ⟨⟨_, rfl⟩, rfl⟩)
          go_loop [11, 14] (fun t i => ∃ k : Nat, k ≤ l4 ∧ i = .int .i64 k ∧ ∃ r : Int, t = .int .i64 r) (fun _ i => l4 - (intOf i).toNat)
          case atStart => exact ⟨0, Nat.zero_le _, rfl, _, rfl⟩
          case round =>
            obtain ⟨k4, hk4, rfl, r4, rfl⟩ := hrel
            by_cases hlt4 : k4 < l4
            · obtain ⟨b, off, rfl, hb, hc⟩ := h4.2 (by omega)
              obtain ⟨d0, d1, d2⟩ := hc k4 hlt4
              clear hc
              go_wp2
              all_goals try (go_ret; exact ⟨⟨_, rfl⟩, rfl⟩)
              all_goals
                go_round
                case rel => exact ⟨k4 + 1, by omega, by go_num, _, rfl⟩
                case measure => simp [intOf]; omega
            · go_wp2
              all_goals (go_ret; exact ⟨⟨_, rfl⟩, rfl⟩)

set_option maxHeartbeats 1000000 in
set_option maxRecDepth 100000 in
theorem zz20_any (s0 s2 : ByteArray) (a1 a3 a4 : Option Addr) (l1 l3 l4 c1 c3 c4 : Nat) (ss1 ss3 se sf st : Nat → ByteArray) (w : World) (h1 : Strs w a1 l1 ss1) (h3 : Strs w a3 l3 ss3) (h4 : Trs w a4 l4 se sf st) :
    Calls Try.prog 20 #[.string s0, .slice a1 l1 c1, .string s2, .slice a3 l3 c3, .slice a4 l4 c4] w fun e w' => IsB e ∧ w = w' := by
  have hl1 := h1.1
  have hl3 := h3.1
  have hl4 := h4.1
  go_enter Try.func20, Try.ntmps20
  go_wp2
  all_goals try (go_ret; exact ⟨⟨_, rfl⟩, rfl⟩)
  go_loop [11, 12] (fun t i => ∃ k : Nat, k ≤ l1 ∧ i = .int .i64 k ∧ ∃ r : Int, t = .int .i64 r) (fun _ i => l1 - (intOf i).toNat)
  case atStart => exact ⟨0, Nat.zero_le _, rfl, _, rfl⟩
  case round =>
    obtain ⟨k, hk, rfl, r, rfl⟩ := hrel
    by_cases hlt : k < l1
    · obtain ⟨b, off, rfl, hb, hc⟩ := h1.2 (by omega)
      have hcell := hc k hlt
      clear hc
      go_wp2
      all_goals try (go_ret; exact ⟨⟨_, rfl⟩, rfl⟩)
      all_goals
        go_round
        case rel => exact ⟨k + 1, by omega, by go_num, _, rfl⟩
        case measure => simp [intOf]; omega
    · go_wp2
      all_goals try (go_ret; exact ⟨⟨_, rfl⟩, rfl⟩)
      go_loop [11, 13] (fun t i => ∃ k : Nat, k ≤ l3 ∧ i = .int .i64 k ∧ ∃ r : Int, t = .int .i64 r) (fun _ i => l3 - (intOf i).toNat)
      case atStart => exact ⟨0, Nat.zero_le _, rfl, _, rfl⟩
      case round =>
        obtain ⟨k3, hk3, rfl, r3, rfl⟩ := hrel
        by_cases hlt3 : k3 < l3
        · obtain ⟨b, off, rfl, hb, hc⟩ := h3.2 (by omega)
          have hcell := hc k3 hlt3
          clear hc
          go_wp2
          all_goals try (go_ret; exact ⟨⟨_, rfl⟩, rfl⟩)
          all_goals
            go_round
            case rel => exact ⟨k3 + 1, by omega, by go_num, _, rfl⟩
            case measure => simp [intOf]; omega
        · go_wp2
          all_goals try (go_ret; exact ⟨⟨_, rfl⟩, rfl⟩)
          go_loop [11, 14] (fun t i => ∃ k : Nat, k ≤ l4 ∧ i = .int .i64 k ∧ ∃ r : Int, t = .int .i64 r) (fun _ i => l4 - (intOf i).toNat)
          case atStart => exact ⟨0, Nat.zero_le _, rfl, _, rfl⟩
          case round =>
            obtain ⟨k4, hk4, rfl, r4, rfl⟩ := hrel
            by_cases hlt4 : k4 < l4
            · obtain ⟨b, off, rfl, hb, hc⟩ := h4.2 (by omega)
              obtain ⟨d0, d1, d2⟩ := hc k4 hlt4
              clear hc
              go_wp2
              all_goals try (go_ret; exact ⟨⟨_, rfl⟩, rfl⟩)
              all_goals
                go_round
                case rel => exact ⟨k4 + 1, by omega, by go_num, _, rfl⟩
                case measure => simp [intOf]; omega
            · go_wp2
              all_goals (go_ret; exact ⟨⟨_, rfl⟩, rfl⟩)

end Go.Proofs.Qxb6601805a
