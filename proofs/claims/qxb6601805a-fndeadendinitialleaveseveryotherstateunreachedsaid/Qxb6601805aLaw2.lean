import Derived.Test.Qxb6601805aEvents
namespace Go.Proofs.Qxb6601805a
open Go.RowKit

theorem evs_nil {se sf : Nat → ByteArray} {s : ByteArray} {n : Nat} (h : (evs se sf s n).length = 0) : ∀ k, k < n → sf k ≠ s := by
  intro k hk e
  have : evs se sf s n = [] := List.eq_nil_of_length_eq_zero h
  simp [evs, List.filter_eq_nil_iff] at this
  exact this k hk e

theorem reach_dead {n : Nat} {f t : Nat → ByteArray} {i : ByteArray} (h : ∀ k, k < n → f k ≠ i) (s : ByteArray) : decide (s = i) = true ↔ Reach n f t i s := by
  constructor
  · intro e; have := of_decide_eq_true e; subst this; exact Reach.start
  · intro hr
    exact decide_eq_true (hr (fun s => s = i) rfl (fun k hk e => absurd e (h k hk)))

theorem own_below {w w' : World} {base : Nat} {v : Value} {n : Nat} {xs : List Value} (h : w.ownsRow base 9 1 v n xs) (hb : Below w.heap.size w w') : w'.ownsRow base 9 1 v n xs :=
  h.kept (row := none) ⟨hb.os, hb.tape, hb.output, hb.size, fun k hk _ => hb.block k hk⟩ (by cases v.ownBlock <;> simp)

set_option maxHeartbeats 2000000 in
theorem law5_any (name ini : ByteArray) (ta sa ra : Option Addr) (tl tc sl sc rl rc : Nat) (ts ss se sf st : Nat → ByteArray) (w : World) (ht : Strs w ta tl ts) (hs : Strs w sa sl ss) (hr : Trs w ra rl se sf st) :
    Calls Try.prog 5 #[.string name, .slice ta tl tc, .string ini, .slice sa sl sc, .slice ra rl rc] w (LawPost w) := by
  have hls := hs.1
  obtain ⟨i0, hi0, hz0, hz1, hz2⟩ := info_parts Try.info9
  go_enter Try.func5, Try.ntmps5
  go_wp2_with fail
  refine (zz20_any name ini ta sa ra tl sl rl tc sc rc ts ss se sf st w ht hs hr).mono ?_
  rintro e w' ⟨⟨b, rfl⟩, rfl⟩
  cases b with
  | false =>
    go_wp2_with fail
    go_ret
    exact ⟨rfl, Below.refl _ _⟩
  | true =>
    go_wp2_with fail
    all_goals try (go_ret; exact ⟨rfl, Below.refl _ _⟩)
    refine (modelBytes_any name ini ta sa ra tl sl rl tc sc rc ts ss se sf st w ht hs hr).mono ?_
    rintro e w1 ⟨⟨z, rfl⟩, hb1⟩
    have ht1 := ht.below hb1 (Nat.le_refl _)
    have hs1 := hs.below hb1 (Nat.le_refl _)
    have hr1 := hr.below hb1 (Nat.le_refl _)
    go_wp2_with fail
    all_goals try (go_ret; exact ⟨rfl, hb1⟩)
    refine (cloneStrs_any _ _ _ _ w1 ht1).mono ?_
    rintro e w2 ⟨ta2, rfl, ht2, hb2⟩
    have hs2 := hs1.below hb2 (Nat.le_refl _)
    have hr2 := hr1.below hb2 (Nat.le_refl _)
    go_wp2_with fail
    refine (cloneStrs_any _ _ _ _ w2 hs2).mono ?_
    rintro e w3 ⟨sa3, rfl, hs3, hb3⟩
    have hr3 := hr2.below hb3 (Nat.le_refl _)
    go_wp2_with fail
    refine (cloneTrs_any _ _ _ _ _ _ w3 hr3).mono ?_
    rintro e w4 ⟨ra4, rfl, hr4, hb4⟩
    have hs4 := hs3.below hb4 (Nat.le_refl _)
    go_wp2_with fail
    refine (model_any name ini ta2 sa3 ra4 tl sl rl tl sl rl se sf st w4 hr4).mono ?_
    rintro e w5 ⟨ra5, rfl, hr5, hb5⟩
    have hs5 := hs4.below hb5 (Nat.le_refl _)
    have hb05 : Below w.heap.size w w5 := by
      have e1 := hb1.size; have e2 := hb2.size; have e3 := hb3.size; have e4 := hb4.size
      exact (((hb1.trans (hb2.mono (by omega))).trans (hb3.mono (by omega))).trans (hb4.mono (by omega))).trans (hb5.mono (by omega))
    clear hb1 hb2 hb3 hb4 hb5 ht hs hr ht1 hs1 hr1 hs2 hr2 hs3 hr3 hr4 hs4 ht2
    go_wp2_with fail
    obtain ⟨w6, hw6⟩ : ∃ w6, w6 = w5.alloc (.cells #[.string name, .slice ta2 tl tl, .string ini, .slice sa3 sl sl, .slice ra5 rl rl] 31) := ⟨_, rfl⟩
    rw [← hw6]
    have hb56 : Below w5.heap.size w5 w6 := by rw [hw6]; exact (Below.refl _ _).alloc (Nat.le_refl _) _
    have hbox : w6.heap[w5.heap.size]? = some (.cells #[.string name, .slice ta2 tl tl, .string ini, .slice sa3 sl sl, .slice ra5 rl rl] 31) := by rw [hw6]; exact Deep.blk_alloc_new _ _
    have hlt6 : w5.heap.size < w6.heap.size := by rw [hw6, Deep.nblk_alloc]; omega
    have hs6 := hs5.below hb56 (Nat.le_refl _)
    have hr6 := hr5.below hb56 (Nat.le_refl _)
    have hb06 : Below w.heap.size w w6 := hb05.trans (hb56.mono hb05.size)
    clear hw6 hb56 hs5 hr5 hb05
    refine (events_any name ini ini ta2 sa3 ra5 tl tl sl sl rl rl se sf st w6 hr6).mono ?_
    rintro e w7 ⟨ea, ec, rfl, hb7⟩
    have hs7 := hs6.below hb7 (Nat.le_refl _)
    have hr7 := hr6.below hb7 (Nat.le_refl _)
    have hbox7 : w7.heap[w5.heap.size]? = some (.cells #[.string name, .slice ta2 tl tl, .string ini, .slice sa3 sl sl, .slice ra5 rl rl] 31) := (hb7.block _ hlt6).trans hbox
    have hb07 : Below w.heap.size w w7 := hb06.trans (hb7.mono hb06.size)
    have hz7 := hb7.size
    clear hb06 hs6 hr6 hbox
    by_cases hev : (evs se sf ini rl).length = 0
    · have hdead := reach_dead (t := st) (evs_nil hev)
      have HD : Hid (∀ s, decide (s = ini) = true ↔ Reach rl sf st ini s) := hdead
      have HB : Hid (w7.heap[w5.heap.size]? = some (.cells #[.string name, .slice ta2 tl tl, .string ini, .slice sa3 sl sl, .slice ra5 rl rl] 31)) := hbox7
      rw [hev]
      clear hev hdead hbox7
      go_wp2_with fail
      go_loopw [12, 13] (fun v i wr => ∃ m : Nat, m ≤ sl ∧ i = .int .i64 m ∧ wr.ownsRow w7.heap.size 9 1 v (unm ss (fun s => decide (s = ini)) m).length ((unm ss (fun s => decide (s = ini)) m).map Value.string) ∧ Below w7.heap.size w7 wr) (fun _ i _ => sl - (intOf i).toNat)
      case atStart => exact ⟨0, by omega, rfl, World.ownsRow_nil _ _ _ _, Below.refl _ _⟩
      case round =>
        obtain ⟨m, hm, rfl, hown, hb8⟩ := hrel
        have hul := unm_len ss (fun s => decide (s = ini)) m
        obtain ⟨Um, hUm⟩ : ∃ Um, unm ss (fun s => decide (s = ini)) m = Um := ⟨_, rfl⟩
        have HU : Hid (unm ss (fun s => decide (s = ini)) m = Um) := hUm
        rw [hUm] at hown hul
        clear hUm
        by_cases hlt : m < sl
        · obtain ⟨b, off, rfl, hb, hc⟩ := hs7.2 (by omega)
          have hcm := (hb8.cell (p := ⟨b, _, none⟩) (by exact hb)).trans (hc m hlt)
          have HS : Hid (unm ss (fun s => decide (s = ini)) (m + 1) = if decide (ss m = ini) then unm ss (fun s => decide (s = ini)) m else unm ss (fun s => decide (s = ini)) m ++ [ss m]) := unm_succ ss (fun s => decide (s = ini)) m
          clear hc
          by_cases hrm : ss m = ini
          · have hq : ((ss m).toList == ini.toList) = true := by rw [str_beq]; simpa using hrm
            have HR : Hid (ss m = ini) := hrm
            clear hrm
            go_wp2
            go_roundw
            case rel =>
              have e := HS.out
              rw [if_pos (by simpa using HR.out), HU.out] at e
              exact ⟨m + 1, by omega, by go_num, by rw [e]; exact hown, hb8⟩
            case measure => simp [intOf]; omega
          · have hq : ((ss m).toList == ini.toList) = false := by rw [str_beq]; simpa using hrm
            have hown2 := hown.alloc (.cells #[.string (ss m)] 9)
            have hbd1 : Um.length + 1 ≤ maxLen := by unfold maxLen; omega
            have hbd2 : (Um.length + 1) * 16 ≤ 140737488355328 := by omega
            have hnews := World.news_of_block (cs := #[.string (ss m)]) (t := 9) (fr := (0, 0)) (heap_alloc_new wr (.cells #[.string (ss m)] 9))
            have hvb : ∀ k, u12.ownBlock = some k → w7.heap.size ≤ k := fun k hk => (hown.lt k hk).1
            have hz8 := hb8.size
            go_wp2_with (at_builtin; refine wpList_append_lies _ rfl _ _ 22 rfl w7.heap.size 9 i0 _ 1 16 Try.underlying22 hi0 hz0 hz1 hz2 rfl (by omega) u12 Um.length (Um.map Value.string) rfl hown2 ⟨wr.heap.size, 0, none⟩ 1 1 [.string (ss m)] rfl rfl hnews (by simp [Value.oneCell']) (by omega) hbd1 hbd2 (by rw [Deep.nblk_alloc]; omega) (wr.heap.size + 1) (by rw [Deep.nblk_alloc]) ?_; intro g2 cap3 w2 hown3 hgrow hat hlt2)
            go_roundw
            case rel =>
              have e := HS.out
              rw [if_neg (by simpa using hrm), HU.out] at e
              exact ⟨m + 1, by omega, by go_num, by rw [e]; simpa using hown3, (hb8.alloc hz8 _).grown hgrow (by rw [Deep.nblk_alloc]; omega) hvb⟩
            case measure => simp [intOf]; omega
        · have hml : m = sl := by omega
          subst hml
          have hbox8 := (hb8.block w5.heap.size (by omega)).trans HB.out
          have q0 : wr.cell? ⟨w5.heap.size, 0, none⟩ = some (.string name) := by simp [World.cell?, hbox8]
          have q1 : wr.cell? ⟨w5.heap.size, 1, none⟩ = some (.slice ta2 tl tl) := by simp [World.cell?, hbox8]
          have q2 : wr.cell? ⟨w5.heap.size, 2, none⟩ = some (.string ini) := by simp [World.cell?, hbox8]
          have q3 : wr.cell? ⟨w5.heap.size, 3, none⟩ = some (.slice sa3 m m) := by simp [World.cell?, hbox8]
          have q4 : wr.cell? ⟨w5.heap.size, 4, none⟩ = some (.slice ra5 rl rl) := by simp [World.cell?, hbox8]
          have hs8 := hs7.below hb8 (Nat.le_refl _)
          have hr8 := hr7.below hb8 (Nat.le_refl _)
          have hb08 : Below w.heap.size w wr := hb07.trans (hb8.mono hb07.size)
          clear hbox8 HB hs7 hr7
          go_wp2_with fail
          refine (zzunr_any name ini ta2 sa3 ra5 tl tl m m rl rl ss se sf st wr hs8 hr8).mono ?_
          intro e w9 hp
          obtain ⟨r, hfin, hb9, hgot⟩ := hp
          have hUe : unm ss r m = Um := by rw [← HU.out]; exact unm_congr ss (fun s => bool_of_iff (hfin s) (HD.out s)) m
          rw [hUe] at hgot
          have hend : Below w.heap.size w w9 := hb08.trans (hb9.mono hb08.size)
          have hown9 : w9.ownsRow w7.heap.size 9 1 u12 Um.length (Um.map Value.string) := own_below hown hb9
          clear hown q0 q1 q2 q3 q4 hUe hfin HD HU
          rcases hgot with ⟨h1, rfl⟩ | ⟨h1, g, cap, T, rfl, h2, h3, h4⟩
          · subst h1
            obtain ⟨a0, c0, rfl⟩ : ∃ a0 c0, u12 = .slice a0 0 c0 := by
              rcases hown9.2 with ⟨h, _⟩ | ⟨g, cap, cur, h, _⟩
              · exact ⟨none, 0, h⟩
              · exact ⟨_, cap, h⟩
            have hnil := fun w => Lib.run_eql_slice_nil (P := Try.prog) w 22 9 none 0 0 0 0 Try.underlying22
            clear hown9 hul
            go_wp2
            go_ret
            exact ⟨rfl, hend⟩
          · have hpos : 0 < Um.length := by
              rcases Nat.eq_zero_or_pos Um.length with h | h
              · exact absurd (List.eq_nil_of_length_eq_zero h) h1
              · exact h
            obtain ⟨g5, cap5, rfl, hg51, hg52⟩ := hown9.form hpos
            have hst' := own_strs hown9 (by omega) _ _ _ rfl
            have hperm := perm_any (some ⟨g, 0, none⟩) (some ⟨g5, 0, none⟩) Um.length cap cap5 (fun i => T.getD i ByteArray.empty) (fun i => Um.getD i ByteArray.empty) w9 h4 hst' (fun i hi => h3 i (by rw [h2.length_eq]; exact hi)) (occ_perm h2)
            have hne0 : ((Um.length : Int) == 0) = false := beq_eq_false_iff_ne.2 (by omega)
            clear hown9 hul h1 hst' h2 h3 h4
            go_wp2_with fail
            refine hperm.mono ?_
            rintro e w10 ⟨rfl, hb10⟩
            go_wp2_with fail
            go_ret
            exact ⟨rfl, hend.trans (hb10.mono hend.size)⟩
    · have hne : (((evs se sf ini rl).length : Int) != 0) = true := by rw [bne_iff_ne]; omega
      clear hev
      go_wp2_with fail
      go_ret
      exact ⟨rfl, hb07⟩

end Go.Proofs.Qxb6601805a
