import Derived.Test.Qxb6601805aUnr
import Derived.Test.Qxb6601805aModel
import Derived.Test.Qxb6601805aZz
namespace Go.Proofs.Qxb6601805a
open Go.RowKit

theorem occ_count (T : List ByteArray) (s : ByteArray) : occ (fun i => T.getD i ByteArray.empty) T.length s = T.countP (fun t => decide (t = s)) := by
  have h : ∀ k, k ≤ T.length → occ (fun i => T.getD i ByteArray.empty) k s = (T.take k).countP (fun t => decide (t = s)) := by
    intro k
    induction k with
    | zero => intro _; simp [occ]
    | succ k ih =>
      intro hk
      rw [occ_succ, ih (by omega), List.take_succ_eq_append_getElem (by omega), List.countP_append]
      simp [List.getD, show k < T.length by omega, List.countP_cons]
  rw [h T.length (Nat.le_refl _), List.take_length]

theorem occ_perm {T U : List ByteArray} (h : T.Perm U) (s : ByteArray) : occ (fun i => T.getD i ByteArray.empty) U.length s = occ (fun i => U.getD i ByteArray.empty) U.length s := by
  rw [occ_count U, ← h.length_eq, occ_count T, h.countP_eq]

theorem unm_congr (ss : Nat → ByteArray) {r r' : ByteArray → Bool} (h : ∀ s, r s = r' s) (k : Nat) : unm ss r k = unm ss r' k := by
  have : r = r' := funext h
  rw [this]

theorem bool_of_iff {p : Prop} {a b : Bool} (h1 : a = true ↔ p) (h2 : b = true ↔ p) : a = b := by
  cases a <;> cases b <;> simp_all

theorem UnrPost.up {w w1 : World} {sl : Nat} {ss : Nat → ByteArray} {rl : Nat} {sf st : Nat → ByteArray} {ini : ByteArray} {e : Ending} {w' : World} (h : UnrPost w1 sl ss rl sf st ini e w') (hb : Below w.heap.size w w1) : UnrPost w sl ss rl sf st ini e w' := by
  obtain ⟨r, h1, h2, h3⟩ := h
  exact ⟨r, h1, hb.trans (h2.mono hb.size), h3⟩

set_option maxHeartbeats 1000000 in
theorem zzunr_any (name ini : ByteArray) (ta sa ra : Option Addr) (tl tc sl sc rl rc : Nat) (ss se sf st : Nat → ByteArray) (w : World) (hs : Strs w sa sl ss) (hr : Trs w ra rl se sf st) :
    Calls Try.prog 10 #[.agg #[.string name, .slice ta tl tc, .string ini, .slice sa sl sc, .slice ra rl rc]] w (UnrPost w sl ss rl sf st ini) := by
  have hb : Below w.heap.size w (w.alloc (.cells #[.string name, .slice ta tl tc, .string ini, .slice sa sl sc, .slice ra rl rc] 31)) := (Below.refl _ _).alloc (Nat.le_refl _) _
  have hs1 := hs.below hb (Nat.le_refl _)
  have hr1 := hr.below hb (Nat.le_refl _)
  go_enter Try.func10, Try.ntmps10
  go_wp2_with fail
  refine (unr_any name ini ta sa ra tl tc sl sc rl rc ss se sf st _ hs1 hr1).mono ?_
  intro e w' hp
  obtain ⟨r, h1, h2, h3⟩ := hp
  rcases h3 with ⟨h4, rfl⟩ | ⟨h4, g, cap, T, rfl, h5, h6, h7⟩
  · go_wp2_with fail
    go_ret
    exact UnrPost.up ⟨r, h1, h2, .inl ⟨h4, rfl⟩⟩ hb
  · go_wp2_with fail
    go_ret
    exact UnrPost.up ⟨r, h1, h2, .inr ⟨h4, g, cap, T, rfl, h5, h6, h7⟩⟩ hb

theorem own_strs {w : World} {base : Nat} {v : Value} {U : List ByteArray} (h : w.ownsRow base 9 1 v U.length (U.map Value.string)) (hb : U.length * 16 ≤ 140737488351232) :
    ∀ a n c, v = .slice a n c → Strs w a U.length (fun i => U.getD i ByteArray.empty) := by
  intro a n c hv
  refine ⟨hb, fun hp => ?_⟩
  obtain ⟨g, cap, hv', hg1, hg2⟩ := h.form hp
  rw [hv] at hv'
  cases hv'
  refine ⟨g, 0, rfl, hg2, fun i hi => ?_⟩
  have := h.cells (g := g) (by rw [hv]; rfl) i (.string (U.getD i ByteArray.empty)) (by simp [List.getD, hi])
  simpa [Addr.add_lit] using this

def LawPost (w : World) (e : Ending) (w' : World) : Prop := e = .returned (.bool true) ∧ Below w.heap.size w w'

set_option maxHeartbeats 2000000 in
theorem law3_any (name ini : ByteArray) (ta sa ra : Option Addr) (tl tc sl sc rl rc : Nat) (ts ss se sf st : Nat → ByteArray) (w : World) (ht : Strs w ta tl ts) (hs : Strs w sa sl ss) (hr : Trs w ra rl se sf st) :
    Calls Try.prog 3 #[.string name, .slice ta tl tc, .string ini, .slice sa sl sc, .slice ra rl rc] w (LawPost w) := by
  have hls := hs.1
  obtain ⟨i0, hi0, hz0, hz1, hz2⟩ := info_parts Try.info9
  go_enter Try.func3, Try.ntmps3
  go_wp2_with fail
  refine (zz6_any name ini ta sa ra tl sl rl tc sc rc ts ss se sf st w ht hs hr).mono ?_
  rintro e w' ⟨⟨b, rfl⟩, rfl⟩
  cases b with
  | false =>
    go_wp2_with fail
    go_ret
    exact ⟨rfl, Below.refl _ _⟩
  | true =>
    go_wp2_with fail
    all_goals try (go_ret; exact ⟨rfl, Below.refl _ _⟩)
    refine (modelBytes_any name ini ta sa ra tl sl rl tc sc rc ts ss se sf st w ht hs hr).mono ?_
    rintro e w1 ⟨⟨z, rfl⟩, hb1⟩
    have ht1 := ht.below hb1 (Nat.le_refl _)
    have hs1 := hs.below hb1 (Nat.le_refl _)
    have hr1 := hr.below hb1 (Nat.le_refl _)
    go_wp2_with fail
    all_goals try (go_ret; exact ⟨rfl, hb1⟩)
    refine (cloneStrs_any _ _ _ _ w1 ht1).mono ?_
    rintro e w2 ⟨ta2, rfl, ht2, hb2⟩
    have hs2 := hs1.below hb2 (Nat.le_refl _)
    have hr2 := hr1.below hb2 (Nat.le_refl _)
    go_wp2_with fail
    refine (cloneStrs_any _ _ _ _ w2 hs2).mono ?_
    rintro e w3 ⟨sa3, rfl, hs3, hb3⟩
    have hr3 := hr2.below hb3 (Nat.le_refl _)
    go_wp2_with fail
    refine (cloneTrs_any _ _ _ _ _ _ w3 hr3).mono ?_
    rintro e w4 ⟨ra4, rfl, hr4, hb4⟩
    have hs4 := hs3.below hb4 (Nat.le_refl _)
    go_wp2_with fail
    refine (model_any name ini ta2 sa3 ra4 tl sl rl tl sl rl se sf st w4 hr4).mono ?_
    rintro e w5 ⟨ra5, rfl, hr5, hb5⟩
    have hs5 := hs4.below hb5 (Nat.le_refl _)
    have hr45 := hr4.below hb5 (Nat.le_refl _)
    go_wp2_with fail
    refine (zzunr_any name ini ta2 sa3 ra5 tl tl sl sl rl rl ss se sf st w5 hs5 hr5).mono ?_
    intro e w6 hp
    obtain ⟨r, hfin, hb6, hgot⟩ := hp
    have hr6 := hr45.below hb6 (Nat.le_refl _)
    have hs6 := hs5.below hb6 (Nat.le_refl _)
    have hb06 : Below w.heap.size w w6 := by
      have e1 := hb1.size; have e2 := hb2.size; have e3 := hb3.size; have e4 := hb4.size; have e5 := hb5.size
      exact ((((hb1.trans (hb2.mono (by omega))).trans (hb3.mono (by omega))).trans (hb4.mono (by omega))).trans (hb5.mono (by omega))).trans (hb6.mono (by omega))
    obtain ⟨gv, rfl, hgv⟩ : ∃ gv, e = .returned gv ∧ Hid ((unm ss r sl = [] ∧ gv = .slice none 0 0) ∨ (unm ss r sl ≠ [] ∧ ∃ g cap T, gv = .slice (some ⟨g, 0, none⟩) (unm ss r sl).length cap ∧ List.Perm T (unm ss r sl) ∧ Ascends T ∧ Strs w6 (some ⟨g, 0, none⟩) (unm ss r sl).length (fun i => T.getD i ByteArray.empty))) := by
      rcases hgot with ⟨h4, rfl⟩ | ⟨h4, g, cap, T, rfl, h5, h6, h7⟩
      · exact ⟨_, rfl, .inl ⟨h4, rfl⟩⟩
      · exact ⟨_, rfl, .inr ⟨h4, g, cap, T, rfl, h5, h6, h7⟩⟩
    clear hgot hb1 hb2 hb3 hb4 hb5 hb6 ht hs hr ht1 hs1 hr1 hs2 hr2 hs3 hr3 hr4 hs4 hs5 hr5 hr45 ht2
    go_wp2_with fail
    refine (reachedSet_any ini ra4 rl rl se sf st w6 hr6).mono ?_
    rintro e w7 ⟨r2, rfl, hmap, hb7, hfin2⟩
    have hs7 := hs6.below hb7 (Nat.le_refl _)
    have HE : Hid (∀ s, r s = r2 s) := fun s => bool_of_iff (hfin s) (hfin2 s)
    clear hfin hfin2 hr6
    have hlt7 := hmap.lt
    have h67 := hb7.size
    go_wp2_with fail
    go_loopw [13, 14] (fun v i wr => ∃ m : Nat, m ≤ sl ∧ i = .int .i64 m ∧ wr.ownsRow w7.heap.size 9 1 v (unm ss r2 m).length ((unm ss r2 m).map Value.string) ∧ Below w7.heap.size w7 wr) (fun _ i _ => sl - (intOf i).toNat)
    case atStart => exact ⟨0, by omega, rfl, World.ownsRow_nil _ _ _ _, Below.refl _ _⟩
    case round =>
      obtain ⟨m, hm, rfl, hown, hb8⟩ := hrel
      have hul := unm_len ss r2 m
      by_cases hlt : m < sl
      · obtain ⟨b, off, rfl, hb, hc⟩ := hs7.2 (by omega)
        have hcm := (hb8.cell (p := ⟨b, _, none⟩) (by exact hb)).trans (hc m hlt)
        have hlook := look33 (hmap.below hb8 hlt7) (ss m)
        have HS : Hid (unm ss r2 (m + 1) = if r2 (ss m) then unm ss r2 m else unm ss r2 m ++ [ss m]) := unm_succ ss r2 m
        clear hc
        by_cases hrm : r2 (ss m) = true
        · go_wp2
          go_roundw
          case rel =>
            have e := HS.out
            rw [if_pos hrm] at e
            exact ⟨m + 1, by omega, by go_num, by rw [e]; exact hown, hb8⟩
          case measure => simp [intOf]; omega
        · have hrm : r2 (ss m) = false := by simpa using hrm
          have hown2 := hown.alloc (.cells #[.string (ss m)] 9)
          have hbd1 : (unm ss r2 m).length + 1 ≤ maxLen := by unfold maxLen; omega
          have hbd2 : ((unm ss r2 m).length + 1) * 16 ≤ 140737488355328 := by omega
          have hnews := World.news_of_block (cs := #[.string (ss m)]) (t := 9) (fr := (0, 0)) (heap_alloc_new wr (.cells #[.string (ss m)] 9))
          have hvb : ∀ k, u13.ownBlock = some k → w7.heap.size ≤ k := fun k hk => (hown.lt k hk).1
          have hz8 := hb8.size
          go_wp2_with (at_builtin; refine wpList_append_lies _ rfl _ _ 22 rfl w7.heap.size 9 i0 _ 1 16 Try.underlying22 hi0 hz0 hz1 hz2 rfl (by omega) u13 (unm ss r2 m).length ((unm ss r2 m).map Value.string) rfl hown2 ⟨wr.heap.size, 0, none⟩ 1 1 [.string (ss m)] rfl rfl hnews (by simp [Value.oneCell']) (by omega) hbd1 hbd2 (by rw [Deep.nblk_alloc]; omega) (wr.heap.size + 1) (by rw [Deep.nblk_alloc]) ?_; intro g2 cap3 w2 hown3 hgrow hat hlt2)
          go_roundw
          case rel =>
            have e := HS.out
            rw [if_neg (by rw [hrm]; exact Bool.false_ne_true)] at e
            exact ⟨m + 1, by omega, by go_num, by rw [e]; simpa using hown3, (hb8.alloc hz8 _).grown hgrow (by rw [Deep.nblk_alloc]; omega) hvb⟩
          case measure => simp [intOf]; omega
      · have hml : m = sl := by omega
        subst hml
        have hUe : unm ss r m = unm ss r2 m := unm_congr ss HE.out m
        have hend : Below w.heap.size w wr := by
          have e1 := hb06.size
          exact (hb06.trans (hb7.mono e1)).trans (hb8.mono (by omega))
        rcases hgv.out with ⟨h1, rfl⟩ | ⟨h1, g, cap, T, rfl, h2, h3, h4⟩
        · rw [hUe] at h1
          rw [h1] at hown
          obtain ⟨a0, c0, rfl⟩ : ∃ a0 c0, u13 = .slice a0 0 c0 := by
            rcases hown.2 with ⟨h, _⟩ | ⟨g, cap, cur, h, _⟩
            · exact ⟨none, 0, h⟩
            · exact ⟨_, cap, h⟩
          have hnil := fun w => Lib.run_eql_slice_nil (P := Try.prog) w 22 9 none 0 0 0 0 Try.underlying22
          clear hown hul h1 hUe hgv
          go_wp2
          go_ret
          exact ⟨rfl, hend⟩
        · rw [hUe] at h1 h2 h4
          rw [hUe]
          have hst := own_strs hown (by omega)
          have hg9 := (h4.below hb7 (Nat.le_refl _)).below hb8 (Nat.le_refl _)
          obtain ⟨U, hU⟩ : ∃ U, unm ss r2 m = U := ⟨_, rfl⟩
          rw [hU] at h1 h2 h4 hst hg9 hul hown
          have hpos : 0 < U.length := by
            rcases Nat.eq_zero_or_pos U.length with h | h
            · exact absurd (List.eq_nil_of_length_eq_zero h) h1
            · exact h
          rw [hU]
          obtain ⟨g5, cap5, rfl, hg51, hg52⟩ := hown.form hpos
          have hst' := hst _ _ _ rfl
          have hperm := perm_any (some ⟨g, 0, none⟩) (some ⟨g5, 0, none⟩) U.length cap cap5 (fun i => T.getD i ByteArray.empty) (fun i => U.getD i ByteArray.empty) wr hg9 hst' (fun i hi => h3 i (by rw [h2.length_eq]; exact hi)) (occ_perm h2)
          have hne0 : ((U.length : Int) == 0) = false := beq_eq_false_iff_ne.2 (by omega)
          clear hown hul h1 hUe hgv hst hst' hg9 h2 h3 h4 hU HE
          go_wp2_with fail
          refine hperm.mono ?_
          rintro e w9 ⟨rfl, hb9⟩
          go_wp2_with fail
          go_ret
          exact ⟨rfl, hend.trans (hb9.mono hend.size)⟩

end Go.Proofs.Qxb6601805a
