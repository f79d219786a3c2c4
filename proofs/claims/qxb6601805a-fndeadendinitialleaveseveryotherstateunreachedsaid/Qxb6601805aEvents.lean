import Derived.Test.Qxb6601805aLaw1
namespace Go.Proofs.Qxb6601805a
open Go.RowKit

/-- The events of the first k transitions that leave s, in order. -/
def evs (se sf : Nat → ByteArray) (s : ByteArray) (k : Nat) : List ByteArray := ((List.range k).filter fun i => decide (sf i = s)).map se

theorem evs_succ (se sf : Nat → ByteArray) (s : ByteArray) (k : Nat) : evs se sf s (k + 1) = if sf k = s then evs se sf s k ++ [se k] else evs se sf s k := by
  by_cases h : sf k = s <;> simp [evs, List.range_succ, h]

theorem evs_len (se sf : Nat → ByteArray) (s : ByteArray) (k : Nat) : (evs se sf s k).length ≤ k := by
  have := List.length_filter_le (fun i => decide (sf i = s)) (List.range k)
  simpa [evs] using this

theorem str_beq (a b : ByteArray) : (a.toList == b.toList) = decide (a = b) := by
  rw [ByteArray.toList_eq, ByteArray.toList_eq]
  cases a with | mk x => cases b with | mk y =>
  by_cases h : x = y
  · subst h; simp
  · simp [h]

def EvPost (w : World) (n : Nat) (e : Ending) (w' : World) : Prop := ∃ a c, e = .returned (.slice a n c) ∧ Below w.heap.size w w'

set_option maxHeartbeats 1000000 in
theorem events_any (name ini from_ : ByteArray) (ta sa ra : Option Addr) (tl tc sl sc rl rc : Nat) (se sf st : Nat → ByteArray) (w : World) (hr : Trs w ra rl se sf st) :
    Calls Try.prog 21 #[.agg #[.string name, .slice ta tl tc, .string ini, .slice sa sl sc, .slice ra rl rc], .string from_] w (EvPost w (evs se sf from_ rl).length) := by
  have hlr := hr.1
  obtain ⟨i0, hi0, hz0, hz1, hz2⟩ := info_parts Try.info9
  go_enter Try.func21, Try.ntmps21
  go_wp2
  go_loopw [5, 12] (fun v i wr => ∃ k : Nat, k ≤ rl ∧ i = .int .i64 k ∧ wr.ownsRow (w.heap.size + 1) 9 1 v (evs se sf from_ k).length ((evs se sf from_ k).map Value.string) ∧ Below w.heap.size w wr ∧ w.heap.size + 1 ≤ wr.heap.size ∧ v ≠ .slice none 0 0) (fun _ i _ => rl - (intOf i).toNat)
  case atStart =>
    refine ⟨0, by omega, rfl, ⟨rfl, .inr ⟨w.heap.size + 1, 0, #[], rfl, Nat.le_refl _, ?_, Nat.le_refl _, Nat.zero_le _, rfl, rfl⟩⟩, ((Below.refl _ _).alloc (Nat.le_refl _) _).alloc (by rw [Deep.nblk_alloc]; omega) _, by rw [Deep.nblk_alloc, Deep.nblk_alloc]; omega, by simp⟩
    have := Deep.blk_alloc_new (w.alloc (.cells #[.string name, .slice ta tl tc, .string ini, .slice sa sl sc, .slice ra rl rc] 31)) (.cells #[] 9)
    rwa [Deep.nblk_alloc] at this
  case round =>
    obtain ⟨k, hk, rfl, hown, hbl, hsz, hnn⟩ := hrel
    have hul := evs_len se sf from_ k
    by_cases hlt : k < rl
    · obtain ⟨b, off, rfl, hb, hc⟩ := hr.2 (by omega)
      have c0 := (hbl.cell (p := ⟨b, _, none⟩) (by exact hb)).trans (hc k hlt).1
      have c1 := (hbl.cell (p := ⟨b, _, none⟩) (by exact hb)).trans (hc k hlt).2.1
      have c2 := (hbl.cell (p := ⟨b, _, none⟩) (by exact hb)).trans (hc k hlt).2.2
      have HS : Hid (evs se sf from_ (k + 1) = if sf k = from_ then evs se sf from_ k ++ [se k] else evs se sf from_ k) := evs_succ se sf from_ k
      have HN : Hid (u5 ≠ .slice none 0 0) := hnn
      clear hc hnn
      by_cases hrm : sf k = from_
      · have hq : ((sf k).toList == from_.toList) = true := by rw [str_beq]; simpa using hrm
        have HR : Hid (sf k = from_) := hrm
        clear hrm
        have hown2 := (hown.alloc (.cells #[.string (se k), .string (sf k), .string (st k)] 47)).alloc (.cells #[.string (se k)] 9)
        have hbd1 : (evs se sf from_ k).length + 1 ≤ maxLen := by unfold maxLen; omega
        have hbd2 : ((evs se sf from_ k).length + 1) * 16 ≤ 140737488355328 := by omega
        have hnews := World.news_of_block (cs := #[.string (se k)]) (t := 9) (fr := (0, 0)) (heap_alloc_new (wr.alloc (.cells #[.string (se k), .string (sf k), .string (st k)] 47)) (.cells #[.string (se k)] 9))
        rw [Deep.nblk_alloc] at hnews
        have hvb : ∀ k, u5.ownBlock = some k → w.heap.size ≤ k := fun k hk => by have := (hown.lt k hk).1; omega
        go_wp2_with (at_builtin; refine wpList_append_lies _ rfl _ _ 22 rfl (w.heap.size + 1) 9 i0 _ 1 16 Try.underlying22 hi0 hz0 hz1 hz2 rfl (by omega) u5 (evs se sf from_ k).length ((evs se sf from_ k).map Value.string) rfl hown2 ⟨wr.heap.size + 1, 0, none⟩ 1 1 [.string (se k)] rfl rfl hnews (by simp [Value.oneCell']) (by omega) hbd1 hbd2 (by rw [Deep.nblk_alloc, Deep.nblk_alloc]; omega) (wr.heap.size + 2) (by rw [Deep.nblk_alloc, Deep.nblk_alloc]) ?_; intro g2 cap3 w2 hown3 hgrow hat hlt2)
        go_roundw
        case rel =>
          have e := HS.out
          rw [if_pos HR.out] at e
          have hz := hgrow.size
          rw [Deep.nblk_alloc, Deep.nblk_alloc] at hz
          exact ⟨k + 1, by omega, by go_num, by rw [e]; simpa using hown3, ((hbl.alloc (by omega) _).alloc (by rw [Deep.nblk_alloc]; omega) _).grown hgrow (by rw [Deep.nblk_alloc, Deep.nblk_alloc]; omega) hvb, by omega, by simp⟩
        case measure => simp [intOf]; omega
      · have hq : ((sf k).toList == from_.toList) = false := by rw [str_beq]; simpa using hrm
        go_wp2
        go_roundw
        case rel =>
          have e := HS.out
          rw [if_neg hrm] at e
          exact ⟨k + 1, by omega, by go_num, by rw [e]; exact hown.alloc _, hbl.alloc (by omega) _, by rw [Deep.nblk_alloc]; omega, HN.out⟩
        case measure => simp [intOf]; omega
    · have hkl : k = rl := by omega
      subst hkl
      rcases hown.2 with ⟨h, _⟩ | ⟨g, cap, cur, rfl, hg1, hg2, hg3, hg4, hg5, hg6⟩
      · exact absurd h hnn
      have hsrt := sort_any (w.heap.size + 1) g cap (evs se sf from_ k) wr hown (by omega)
      clear hnn hg2 hg5 hg6 hg3 hg4 hown
      obtain ⟨U, hUe⟩ : ∃ U, evs se sf from_ k = U := ⟨_, rfl⟩
      rw [hUe] at hsrt
      rw [hUe]
      have HU : Hid (evs se sf from_ k = U) := hUe
      clear hUe
      go_wp2_with fail
      refine hsrt.mono ?_
      rintro e w3 ⟨rfl, T, hT1, hT2, hT3, hT4⟩
      go_wp2
      go_ret
      exact ⟨some ⟨g, 0, none⟩, cap, by rw [HU.out]; rfl, hbl.grown hT4 (by omega) (fun k hk => by cases hk; omega)⟩

end Go.Proofs.Qxb6601805a
