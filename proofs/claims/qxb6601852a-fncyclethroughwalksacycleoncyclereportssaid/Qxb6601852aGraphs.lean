import Derived.Test.Qxb6601852aTMem
import Derived.Deep.QuietTactic
import Derived.BigQuiet
namespace Go.Proofs.Qxb6601852a
open Go.RowKit

/-- A slice of slices of ints that can be read. -/
def RGraph (w : World) (ad : Option Addr) (n : Nat) (ln : Nat → Nat) (zs : Nat → Nat → Int) : Prop :=
  n * 24 ≤ 140737488351232 ∧ (0 < n → ∃ b off, ad = some ⟨b, off, none⟩ ∧ b < w.heap.size ∧ ∀ v, v < n → ∃ ra rc, w.cell? ⟨b, off + v, none⟩ = some (.slice ra (ln v) rc) ∧ Ints w ra (ln v) (zs v))

theorem RGraph.row {w : World} {ad : Option Addr} {n : Nat} {ln : Nat → Nat} {zs : Nat → Nat → Int} (h : RGraph w ad n ln zs) {v : Nat} (hv : v < n) :
    ∃ b off ra rc, ad = some ⟨b, off, none⟩ ∧ b < w.heap.size ∧ w.cell? ⟨b, off + v, none⟩ = some (.slice ra (ln v) rc) ∧ Ints w ra (ln v) (zs v) := by
  obtain ⟨b, off, rfl, hb, hr⟩ := h.2 (by omega)
  obtain ⟨ra, rc, h1, h2⟩ := hr v hv
  exact ⟨b, off, ra, rc, rfl, hb, h1, h2⟩

set_option maxHeartbeats 1000000 in
theorem zz9_any (ad : Option Addr) (n cap : Nat) (ln : Nat → Nat) (zs : Nat → Nat → Int) (w : World) (hs : RGraph w ad n ln zs) :
    Calls Try.prog 9 #[.slice ad n cap] w (SameB w) := by
  have hn := hs.1
  go_enter Try.func9, Try.ntmps9
  by_cases hbig : (1048576 : Int) < (n : Int)
  · go_wp2
    go_ret
    exact ⟨⟨_, rfl⟩, rfl⟩
  · go_wp2
    go_loop [3, 4] (fun z i => ∃ m k : Nat, m ≤ 1048576 ∧ k ≤ n ∧ z = .int .i64 (m : Int) ∧ i = .int .i64 (k : Int)) (fun _ i => n - (intOf i).toNat)
    case atStart => exact ⟨n, 0, by omega, by omega, by go_num, rfl⟩
    case round =>
      obtain ⟨m, k, hm, hk, rfl, rfl⟩ := hrel
      by_cases hlt : k < n
      · obtain ⟨b, off, ra, rc, rfl, hb, hc, hi⟩ := hs.row hlt
        have hl := hi.1
        have hk' : (k : Int) < (n : Int) := by omega
        clear hi hs
        by_cases h1 : (1048576 : Int) < (ln k : Int)
        · go_wp2
          go_ret
          exact ⟨⟨_, rfl⟩, rfl⟩
        · by_cases h2 : (1048576 : Int) < (m : Int) + (ln k : Int)
          · go_wp2
            go_ret
            exact ⟨⟨_, rfl⟩, rfl⟩
          · go_wp2
            go_round
            case rel => exact ⟨m + ln k, k + 1, by omega, by omega, by go_num, by go_num⟩
            case measure => simp [intOf]; omega
      · go_wp2
        go_ret
        exact ⟨⟨_, rfl⟩, rfl⟩

set_option maxHeartbeats 1000000 in
theorem zz16_any (ad : Option Addr) (n cap : Nat) (ln : Nat → Nat) (zs : Nat → Nat → Int) (w : World) (hs : RGraph w ad n ln zs) :
    Calls Try.prog 16 #[.slice ad n cap] w (SameB w) := by
  have hn := hs.1
  go_enter Try.func16, Try.ntmps16
  by_cases hbig : (1048576 : Int) < (n : Int)
  · go_wp2
    go_ret
    exact ⟨⟨_, rfl⟩, rfl⟩
  · go_wp2
    go_loop [3, 4] (fun z i => ∃ m k : Nat, m ≤ 1048576 ∧ k ≤ n ∧ z = .int .i64 (m : Int) ∧ i = .int .i64 (k : Int)) (fun _ i => n - (intOf i).toNat)
    case atStart => exact ⟨n, 0, by omega, by omega, by go_num, rfl⟩
    case round =>
      obtain ⟨m, k, hm, hk, rfl, rfl⟩ := hrel
      by_cases hlt : k < n
      · obtain ⟨b, off, ra, rc, rfl, hb, hc, hi⟩ := hs.row hlt
        have hl := hi.1
        have hk' : (k : Int) < (n : Int) := by omega
        clear hi hs
        by_cases h1 : (1048576 : Int) < (ln k : Int)
        · go_wp2
          go_ret
          exact ⟨⟨_, rfl⟩, rfl⟩
        · by_cases h2 : (1048576 : Int) < (m : Int) + (ln k : Int)
          · go_wp2
            go_ret
            exact ⟨⟨_, rfl⟩, rfl⟩
          · go_wp2
            go_round
            case rel => exact ⟨m + ln k, k + 1, by omega, by omega, by go_num, by go_num⟩
            case measure => simp [intOf]; omega
      · go_wp2
        go_ret
        exact ⟨⟨_, rfl⟩, rfl⟩

set_option maxHeartbeats 1000000 in
theorem zz23_any (ad : Option Addr) (n cap : Nat) (ln : Nat → Nat) (zs : Nat → Nat → Int) (w : World) (hs : RGraph w ad n ln zs) :
    Calls Try.prog 23 #[.slice ad n cap] w (SameB w) := by
  have hn := hs.1
  go_enter Try.func23, Try.ntmps23
  by_cases hbig : (1048576 : Int) < (n : Int)
  · go_wp2
    go_ret
    exact ⟨⟨_, rfl⟩, rfl⟩
  · go_wp2
    go_loop [3, 4] (fun z i => ∃ m k : Nat, m ≤ 1048576 ∧ k ≤ n ∧ z = .int .i64 (m : Int) ∧ i = .int .i64 (k : Int)) (fun _ i => n - (intOf i).toNat)
    case atStart => exact ⟨n, 0, by omega, by omega, by go_num, rfl⟩
    case round =>
      obtain ⟨m, k, hm, hk, rfl, rfl⟩ := hrel
      by_cases hlt : k < n
      · obtain ⟨b, off, ra, rc, rfl, hb, hc, hi⟩ := hs.row hlt
        have hl := hi.1
        have hk' : (k : Int) < (n : Int) := by omega
        clear hi hs
        by_cases h1 : (1048576 : Int) < (ln k : Int)
        · go_wp2
          go_ret
          exact ⟨⟨_, rfl⟩, rfl⟩
        · by_cases h2 : (1048576 : Int) < (m : Int) + (ln k : Int)
          · go_wp2
            go_ret
            exact ⟨⟨_, rfl⟩, rfl⟩
          · go_wp2
            go_round
            case rel => exact ⟨m + ln k, k + 1, by omega, by omega, by go_num, by go_num⟩
            case measure => simp [intOf]; omega
      · go_wp2
        go_ret
        exact ⟨⟨_, rfl⟩, rfl⟩

def BigPost (w : World) (n : Nat) (ln : Nat → Nat) (e : Ending) (w' : World) : Prop :=
  ∃ b : Bool, e = .returned (.bool b) ∧ w = w' ∧ (b = false → n ≤ 4096 ∧ sumTo n ln ≤ 131072 ∧ ∀ v, v < n → ln v ≤ 131072)

set_option maxHeartbeats 1000000 in
theorem tooBig_any (ad : Option Addr) (n cap : Nat) (ln : Nat → Nat) (zs : Nat → Nat → Int) (w : World) (hs : RGraph w ad n ln zs) :
    Calls Try.prog 10 #[.slice ad n cap] w (BigPost w n ln) := by
  have hn := hs.1
  go_enter Try.func10, Try.ntmps10
  by_cases hbig : (4096 : Int) < (n : Int)
  · go_wp2
    go_ret
    exact ⟨true, rfl, rfl, fun h => by cases h⟩
  · go_wp2
    go_loop [3, 4] (fun z i => ∃ m k : Nat, m ≤ 1048576 ∧ k ≤ n ∧ z = .int .i64 (m : Int) ∧ i = .int .i64 (k : Int) ∧ Hid (m = 8 * n + 8 * sumTo k ln) ∧ Hid (∀ v, v < k → ln v ≤ 131072)) (fun _ i => n - (intOf i).toNat)
    case atStart => exact ⟨8 * n, 0, by omega, by omega, by go_num, rfl, (show 8 * n = 8 * n + 8 * sumTo 0 ln by simp [sumTo]), (fun v hv => by omega : ∀ v, v < 0 → ln v ≤ 131072)⟩
    case round =>
      obtain ⟨m, k, hm, hk, rfl, rfl, hme, hall⟩ := hrel
      by_cases hlt : k < n
      · obtain ⟨b, off, ra, rc, rfl, hb, hc, hi⟩ := hs.row hlt
        have hl := hi.1
        have hk' : (k : Int) < (n : Int) := by omega
        clear hi hs
        by_cases h1 : (131072 : Int) < (ln k : Int)
        · go_wp2
          go_ret
          exact ⟨true, rfl, rfl, fun h => by cases h⟩
        · by_cases h2 : (1048576 : Int) < (m : Int) + 8 * (ln k : Int)
          · go_wp2
            go_ret
            exact ⟨true, rfl, rfl, fun h => by cases h⟩
          · go_wp2
            go_round
            case rel =>
              have e1 := hme.out
              have e2 := hall.out
              refine ⟨m + 8 * ln k, k + 1, by omega, by omega, by go_num, by go_num, (show m + 8 * ln k = 8 * n + 8 * sumTo (k + 1) ln by simp only [sumTo]; omega), (fun v hv => ?_ : ∀ v, v < k + 1 → ln v ≤ 131072)⟩
              by_cases e : v = k
              · rw [e]; omega
              · exact e2 v (by omega)
            case measure => simp [intOf]; omega
      · go_wp2
        go_ret
        have e1 := hme.out
        have hkn : k = n := by omega
        subst hkn
        exact ⟨false, rfl, rfl, fun _ => ⟨by omega, by omega, hall.out⟩⟩

def WellPost (w : World) (n : Nat) (ln : Nat → Nat) (zs : Nat → Nat → Int) (e : Ending) (w' : World) : Prop :=
  ∃ b : Bool, e = .returned (.bool b) ∧ w = w' ∧ (b = true → ∀ v, v < n → ∀ k, k < ln v → 0 ≤ zs v k ∧ zs v k < n ∧ zs v k ≠ v)

set_option maxHeartbeats 2000000 in
theorem well_any (ad : Option Addr) (n cap : Nat) (ln : Nat → Nat) (zs : Nat → Nat → Int) (w : World) (hs : RGraph w ad n ln zs) :
    Calls Try.prog 11 #[.slice ad n cap] w (WellPost w n ln zs) := by
  have hn := hs.1
  go_enter Try.func11, Try.ntmps11
  go_wp2
  go_loop [4] (fun i => ∃ v : Nat, v ≤ n ∧ i = .int .i64 (v : Int) ∧ Hid (∀ u, u < v → ∀ k, k < ln u → 0 ≤ zs u k ∧ zs u k < n ∧ zs u k ≠ u)) (fun i => n - (intOf i).toNat)
  case atStart => exact ⟨0, Nat.zero_le _, rfl, (fun u hu => by omega : ∀ u, u < 0 → ∀ k, k < ln u → 0 ≤ zs u k ∧ zs u k < n ∧ zs u k ≠ u)⟩
  case round =>
    obtain ⟨v, hv, rfl, hall⟩ := hrel
    by_cases hlt : v < n
    · obtain ⟨b, off, ra, rc, rfl, hb, hc, hi⟩ := hs.row hlt
      have hl := hi.1
      have hv' : (v : Int) < (n : Int) := by omega
      clear hs
      go_wp2
      go_loop [5] (fun i => ∃ k : Nat, k ≤ ln v ∧ i = .int .i64 (k : Int) ∧ Hid (∀ j, j < k → 0 ≤ zs v j ∧ zs v j < n ∧ zs v j ≠ v)) (fun i => ln v - (intOf i).toNat)
      case atStart => exact ⟨0, Nat.zero_le _, rfl, (fun j hj => by omega : ∀ j, j < 0 → 0 ≤ zs v j ∧ zs v j < n ∧ zs v j ≠ v)⟩
      case round =>
        obtain ⟨k, hk, rfl, hrow⟩ := hrel
        by_cases hkl : k < ln v
        · obtain ⟨b2, off2, rfl, hb2, hcell⟩ := hi.2 (by omega)
          have ck := hcell k hkl
          have hk' : (k : Int) < (ln v : Int) := by omega
          clear hcell hi
          by_cases hok : 0 ≤ zs v k ∧ zs v k < n ∧ zs v k ≠ v
          · have o1 := hok.1
            have o2 := hok.2.1
            have o3 : (zs v k == (v : Int)) = false := beq_eq_false_iff_ne.2 hok.2.2
            have HO : Hid (0 ≤ zs v k ∧ zs v k < n ∧ zs v k ≠ v) := hok
            clear hok
            go_wp2
            go_round
            case rel =>
              have e2 := hrow.out
              refine ⟨k + 1, by omega, by go_num, (fun j hj => ?_ : ∀ j, j < k + 1 → 0 ≤ zs v j ∧ zs v j < n ∧ zs v j ≠ v)⟩
              by_cases e : j = k
              · rw [e]; exact HO.out
              · exact e2 j (by omega)
            case measure => simp [intOf]; omega
          · by_cases o1 : zs v k < 0
            · clear hok
              go_wp2
              go_ret
              exact ⟨false, rfl, rfl, fun h => by cases h⟩
            · by_cases o2 : (n : Int) ≤ zs v k
              · clear hok
                go_wp2
                go_ret
                exact ⟨false, rfl, rfl, fun h => by cases h⟩
              · have o3 : (zs v k == (v : Int)) = true := beq_iff_eq.2 (by omega)
                clear hok
                go_wp2
                go_ret
                exact ⟨false, rfl, rfl, fun h => by cases h⟩
        · have hkl' : ¬ ((k : Int) < (ln v : Int)) := by omega
          go_wp2
          go_round
          case rel =>
            have e1 := hall.out
            have e2 := hrow.out
            have hkn : k = ln v := by omega
            subst hkn
            refine ⟨v + 1, by omega, by go_num, (fun u hu => ?_ : ∀ u, u < v + 1 → ∀ k, k < ln u → 0 ≤ zs u k ∧ zs u k < n ∧ zs u k ≠ u)⟩
            by_cases e : u = v
            · rw [e]; exact e2
            · exact e1 u (by omega)
          case measure => simp [intOf]; omega
    · go_wp2
      go_ret
      have hvn : v = n := by omega
      subst hvn
      exact ⟨true, rfl, rfl, fun _ => hall.out⟩

end Go.Proofs.Qxb6601852a
