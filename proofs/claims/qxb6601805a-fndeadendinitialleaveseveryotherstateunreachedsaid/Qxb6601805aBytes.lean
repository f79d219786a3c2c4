import Derived.Test.Qxb6601805aProg
import Derived.WalkKit
import Derived.WalkSpells
import Derived.WalkLawsBesides
namespace Go.Proofs.Qxb6601805a
open Go.RowKit

/-- The call returned some bool | some int. -/
def IsB (e : Ending) : Prop := ∃ b : Bool, e = .returned (.bool b)
def IsI (e : Ending) : Prop := ∃ r : Int, e = .returned (.int .i64 r)

/-- A slice of strings that can be read: its cells hold the strings 'ss'. -/
def Strs (w : World) (ad : Option Addr) (len : Nat) (ss : Nat → ByteArray) : Prop :=
  len * 16 ≤ 140737488351232 ∧ (0 < len → ∃ b off, ad = some ⟨b, off, none⟩ ∧ b < w.heap.size ∧ ∀ i, i < len → w.cell? ⟨b, off + i, none⟩ = some (.string (ss i)))

/-- A slice of transitions that can be read: three strings an element. -/
def Trs (w : World) (ad : Option Addr) (len : Nat) (e f t : Nat → ByteArray) : Prop :=
  len * 48 ≤ 140737488351232 ∧ (0 < len → ∃ b off, ad = some ⟨b, off, none⟩ ∧ b < w.heap.size ∧ ∀ i, i < len →
    w.cell? ⟨b, off + i * 3, none⟩ = some (.string (e i)) ∧ w.cell? ⟨b, off + i * 3 + 1, none⟩ = some (.string (f i)) ∧ w.cell? ⟨b, off + i * 3 + 2, none⟩ = some (.string (t i)))

theorem Strs.below {B : Nat} {w w' : World} {ad : Option Addr} {len : Nat} {ss : Nat → ByteArray} (h : Strs w ad len ss) (hb : Below B w w') (hB : w.heap.size ≤ B) : Strs w' ad len ss := by
  refine ⟨h.1, fun hl => ?_⟩
  obtain ⟨b, off, rfl, hlt, hc⟩ := h.2 hl
  have := hb.size
  exact ⟨b, off, rfl, by omega, fun i hi => (hb.cell (p := ⟨b, off + i, none⟩) (by show b < B; omega)).trans (hc i hi)⟩

theorem Trs.below {B : Nat} {w w' : World} {ad : Option Addr} {len : Nat} {e f t : Nat → ByteArray} (h : Trs w ad len e f t) (hb : Below B w w') (hB : w.heap.size ≤ B) : Trs w' ad len e f t := by
  refine ⟨h.1, fun hl => ?_⟩
  obtain ⟨b, off, rfl, hlt, hc⟩ := h.2 hl
  have := hb.size
  exact ⟨b, off, rfl, by omega, fun i hi => ⟨(hb.cell (p := ⟨b, _, none⟩) (by show b < B; omega)).trans (hc i hi).1, (hb.cell (p := ⟨b, _, none⟩) (by show b < B; omega)).trans (hc i hi).2.1, (hb.cell (p := ⟨b, _, none⟩) (by show b < B; omega)).trans (hc i hi).2.2⟩⟩

set_option maxHeartbeats 400000 in
theorem add_any (a b : Int) (w : World) :
    Calls Try.prog 15 #[.int .i64 a, .int .i64 b] w fun e w' => IsI e ∧ w = w' := by
  go_enter Try.func15, Try.ntmps15
  go_wp2
  all_goals
    go_ret
    exact ⟨⟨_, rfl⟩, rfl⟩

set_option maxHeartbeats 400000 in
theorem trBytes_any (a : Int) (s0 s1 s2 : ByteArray) (w : World) :
    Calls Try.prog 16 #[.int .i64 a, .agg #[.string s0, .string s1, .string s2]] w fun e w' => IsI e ∧ Below w.heap.size w w' := by
  go_enter Try.func16, Try.ntmps16
  go_wp2_with (go_at_call 15; refine (add_any _ _ _).mono ?_; rintro e w' ⟨⟨r, rfl⟩, rfl⟩)
  go_ret
  exact ⟨⟨_, rfl⟩, (Below.refl _ _).alloc (Nat.le_refl _) _⟩

set_option maxHeartbeats 400000 in
theorem strsBytes_any (a : Int) (ad : Option Addr) (len cap : Nat) (ss : Nat → ByteArray) (w : World) (hs : Strs w ad len ss) :
    Calls Try.prog 22 #[.int .i64 a, .slice ad len cap] w fun e w' => IsI e ∧ w = w' := by
  have hlen := hs.1
  go_enter Try.func22, Try.ntmps22
  go_wp2_with (go_at_call 15; refine (add_any _ _ _).mono ?_; rintro e w' ⟨⟨r, rfl⟩, rfl⟩)
  · go_ret
    exact ⟨⟨_, rfl⟩, rfl⟩
  go_loop [0, 5] (fun t i => ∃ k : Nat, k ≤ len ∧ i = .int .i64 k ∧ ∃ r : Int, t = .int .i64 r) (fun _ i => len - (intOf i).toNat)
  case atStart => exact ⟨0, Nat.zero_le _, rfl, _, rfl⟩
  case round =>
    obtain ⟨k, hk, rfl, r, rfl⟩ := hrel
    by_cases hlt : k < len
    · obtain ⟨b, off, rfl, hb, hc⟩ := hs.2 (by omega)
      have hcell := hc k hlt
      clear hc hs
      go_wp2_with (go_at_call 15; refine (add_any _ _ _).mono ?_; rintro e w' ⟨⟨r, rfl⟩, rfl⟩)
      · go_round
        case rel => exact ⟨k + 1, by omega, by go_num, _, rfl⟩
        case measure => simp [intOf]; omega
      · go_ret
        exact ⟨⟨_, rfl⟩, rfl⟩
    · go_wp2
      go_ret
      exact ⟨⟨_, rfl⟩, rfl⟩

set_option maxHeartbeats 400000 in
theorem trsBytes_any (a : Int) (ad : Option Addr) (len cap : Nat) (se sf st : Nat → ByteArray) (w : World) (hs : Trs w ad len se sf st) :
    Calls Try.prog 23 #[.int .i64 a, .slice ad len cap] w fun e w' => IsI e ∧ Below w.heap.size w w' := by
  have hlen := hs.1
  go_enter Try.func23, Try.ntmps23
  go_wp2_with (go_at_call 15; refine (add_any _ _ _).mono ?_; rintro e w' ⟨⟨r, rfl⟩, rfl⟩)
  · go_ret
    exact ⟨⟨_, rfl⟩, Below.refl _ _⟩
  go_loopw [0, 5] (fun t i wr => ∃ k : Nat, k ≤ len ∧ i = .int .i64 k ∧ (∃ r : Int, t = .int .i64 r) ∧ Below w.heap.size w wr) (fun _ i _ => len - (intOf i).toNat)
  case atStart => exact ⟨0, Nat.zero_le _, rfl, ⟨_, rfl⟩, Below.refl _ _⟩
  case round =>
    obtain ⟨k, hk, rfl, ⟨r, rfl⟩, hbl⟩ := hrel
    by_cases hlt : k < len
    · obtain ⟨b, off, rfl, hb, hc⟩ := hs.2 (by omega)
      have c0 := (hbl.cell (p := ⟨b, _, none⟩) (by exact hb)).trans (hc k hlt).1
      have c1 := (hbl.cell (p := ⟨b, _, none⟩) (by exact hb)).trans (hc k hlt).2.1
      have c2 := (hbl.cell (p := ⟨b, _, none⟩) (by exact hb)).trans (hc k hlt).2.2
      clear hc hs
      go_wp2_with (go_at_call 16; refine (trBytes_any _ _ _ _ _).mono ?_; rintro e w' ⟨⟨r, rfl⟩, hb2⟩)
      · go_roundw
        case rel => exact ⟨k + 1, by omega, by go_num, ⟨_, rfl⟩, hbl.trans (hb2.mono hbl.size)⟩
        case measure => simp [intOf]; omega
      · go_ret
        exact ⟨⟨_, rfl⟩, hbl⟩
    · go_wp2
      go_ret
      exact ⟨⟨_, rfl⟩, hbl⟩

set_option maxHeartbeats 400000 in
theorem modelBytes_any (s0 s2 : ByteArray) (a1 a3 a4 : Option Addr) (l1 l3 l4 c1 c3 c4 : Nat) (ss1 ss3 se sf st : Nat → ByteArray) (w : World) (h1 : Strs w a1 l1 ss1) (h3 : Strs w a3 l3 ss3) (h4 : Trs w a4 l4 se sf st) :
    Calls Try.prog 7 #[.string s0, .slice a1 l1 c1, .string s2, .slice a3 l3 c3, .slice a4 l4 c4] w fun e w' => IsI e ∧ Below w.heap.size w w' := by
  go_enter Try.func7, Try.ntmps7
  go_wp2_with fail
  refine (add_any _ _ _).mono ?_; rintro e w' ⟨⟨r, rfl⟩, rfl⟩
  go_wp2_with fail
  refine (add_any _ _ _).mono ?_; rintro e w' ⟨⟨r, rfl⟩, rfl⟩
  go_wp2_with fail
  refine (strsBytes_any _ _ _ _ ss1 _ h1).mono ?_; rintro e w' ⟨⟨r, rfl⟩, rfl⟩
  go_wp2_with fail
  refine (strsBytes_any _ _ _ _ ss3 _ h3).mono ?_; rintro e w' ⟨⟨r, rfl⟩, rfl⟩
  go_wp2_with fail
  refine (trsBytes_any _ _ _ _ se sf st _ h4).mono ?_; rintro e w' ⟨⟨r, rfl⟩, hb⟩
  go_wp2_with fail
  go_ret
  exact ⟨⟨_, rfl⟩, hb⟩

end Go.Proofs.Qxb6601805a
