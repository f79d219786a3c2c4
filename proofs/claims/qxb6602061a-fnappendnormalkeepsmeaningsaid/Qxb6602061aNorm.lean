import Derived.Test.Qxb6602061aDec
import Derived.Deep.RegionLaw
namespace Go.Proofs.Qxb6602061a
open Go.RowKit

def NormPost (w : World) (low : Bool) (l : List Nat) (e : Ending) (w' : World) : Prop :=
  ∃ (v : Value) (D : List Nat), e = .returned v ∧ w'.ownsRow w.heap.size 5 1 v D.length (D.map bv) ∧ (dec D).map (lwIf low) = (dec l).map (lwIf low) ∧ D.length ≤ l.length ∧ (∀ c, c ∈ D → c < 256) ∧ Below w.heap.size w w'

theorem bits_and {v : Nat} (hv : v < 256) : bits BinOp.and IntKind.u8 (v : Int) 15 = ((v % 16 : Nat) : Int) := by
  have h : ∀ v : Fin 256, bits BinOp.and IntKind.u8 (v.val : Int) 15 = ((v.val % 16 : Nat) : Int) := by decide +kernel
  exact h ⟨v, hv⟩

theorem bits_or2 {x y : Nat} (hx : x < 16) (hy : y < 16) : bits BinOp.or IntKind.u8 ((x : Int) * 16 % 256) (y : Int) = ((16 * x + y : Nat) : Int) := by
  have h : ∀ x : Fin 16, ∀ y : Fin 16, bits BinOp.or IntKind.u8 ((x.val : Int) * 16 % 256) (y.val : Int) = ((16 * x.val + y.val : Nat) : Int) := by decide +kernel
  exact h ⟨x, hx⟩ ⟨y, hy⟩

theorem upper_at {q : Nat} (h : q < 16) : (({ data := #[48, 49, 50, 51, 52, 53, 54, 55, 56, 57, 65, 66, 67, 68, 69, 70] } : ByteArray)[q]'h).toNat = uh q := by
  have hh : ∀ q : Fin 16, (({ data := #[48, 49, 50, 51, 52, 53, 54, 55, 56, 57, 65, 66, 67, 68, 69, 70] } : ByteArray)[q.val]'q.isLt).toNat = uh q.val := by decide +kernel
  exact hh ⟨q, h⟩

set_option maxRecDepth 100000 in
set_option maxHeartbeats 20000000 in
theorem norm_any (S : ByteArray) (low : Bool) (w : World) (hn0 : S.size ≤ 1048576) : Calls Try.prog 36 #[.slice none 0 0, .string S, .bool low] w (NormPost w low (bl S)) := by
  obtain ⟨i0, hi0, hz0, hz1, hz2⟩ := info_parts Try.info5
  obtain ⟨n, hN⟩ : ∃ n, S.size = n := ⟨_, rfl⟩
  obtain ⟨l, hl⟩ : ∃ l, bl S = l := ⟨_, rfl⟩
  have hll : l.length = n := by rw [← hl, bl_len, hN]
  have HLL : Hid (l.length = n) := hll
  have HL : Hid (bl S = l) := hl
  have hn : n ≤ 1048576 := by omega
  rw [hl]
  clear hll hl hn0
  go_enter Try.func36, Try.ntmps36
  go_wp2
  go_loopw [0, 7, 8] (fun d t i wr => ∃ (k : Nat) (D : List Nat) (T : Int), k ≤ n ∧ i = .int .i64 (k : Int) ∧ t = .int .i64 T ∧ Hid (NInv low l k D T) ∧ BRow w.heap.size w d D wr) (fun _ _ i _ => n - (intOf i).toNat)
  case atStart => exact ⟨0, [], -1, Nat.zero_le _, rfl, rfl, ninv_start low l, ⟨World.ownsRow_nil _ _ _ _, Below.refl _ _, Nat.le_refl _⟩⟩
  case round =>
    obtain ⟨k, D, T, hk, rfl, rfl, HI, hb⟩ := hrel
    obtain ⟨L, hL⟩ : ∃ L, D.length = L := ⟨_, rfl⟩
    have HO : Hid (D.length = L) := hL
    have hsz := hb.size
    have hown := hb.own
    have hLk := HI.out.len
    have hT1 := HI.out.lo
    have hT2 := HI.out.hi
    rw [hL] at hown hLk hT2
    clear hL
    by_cases hlt : k < n
    · have hk' : (k : Int) < (n : Int) := by omega
      have hkS : k < S.size := by omega
      obtain ⟨c, hc⟩ : ∃ c, (S[k]'hkS).toNat = c := ⟨_, rfl⟩
      have HC : Hid (l[k]? = some c) := hid_mk (by rw [← HL.out, bl_at hkS, hc])
      have hc256 : c < 256 := by rw [← hc]; exact UInt8.toNat_lt _
      obtain ⟨dl, dc, hdv⟩ : ∃ dl dc, u0 = .slice dl L dc := by
        rcases hown.2 with ⟨h1, h2⟩ | ⟨g, cap, cur, h1, _⟩
        · exact ⟨none, 0, by rw [h2]; exact h1⟩
        · exact ⟨_, cap, h1⟩
      by_cases h37 : c = 37
      · subst h37
        subst hdv
        have hne : ((37 : Int) != 37) = false := by simp
        by_cases h2 : k + 2 < n
        · have h2' : ¬ ((n : Int) ≤ (k : Int) + 2) := by omega
          have h1S : k + 1 < S.size := by omega
          have h2S : k + 2 < S.size := by omega
          have hi1 : (k : Int) + 1 < (n : Int) := by omega
          have hi2 : (k : Int) + 2 < (n : Int) := by omega
          obtain ⟨a, ha⟩ : ∃ a, (S[k + 1]'h1S).toNat = a := ⟨_, rfl⟩
          obtain ⟨b, hb'⟩ : ∃ b, (S[k + 2]'h2S).toNat = b := ⟨_, rfl⟩
          have HA : Hid (l[k + 1]? = some a) := hid_mk (by rw [← HL.out, bl_at h1S, ha])
          have HB : Hid (l[k + 2]? = some b) := hid_mk (by rw [← HL.out, bl_at h2S, hb'])
          go_wp2_with fail
          refine (isHex_any a wr).mono ?_
          rintro e w' ⟨rfl, rfl⟩
          cases hxa : hexd a with
          | false =>
            have HN : Hid (NInv low l (k + 1) (D ++ [37]) (L : Int)) := hid_mk (by rw [← HO.out]; exact HI.out.stray HC.out (two_first HA.out hxa))
            clear hxa
            go_wp2_with (at_builtin; refine wpList_append_lies _ rfl _ _ 26 rfl w.heap.size 5 i0 _ 1 1 Try.underlying26 hi0 hz0 hz1 hz2 rfl (by omega) (.slice dl L dc) L (D.map bv) rfl (hown.alloc (.cells #[bv 37] 5)) ⟨wr.heap.size, 0, none⟩ 1 1 [bv 37] rfl rfl (World.news_of_block (cs := #[bv 37]) (t := 5) (fr := (0, 0)) (heap_alloc_new wr (.cells #[bv 37] 5))) (by simp [Value.oneCell', bv]) (by omega) (by unfold maxLen; omega) (by omega) (by rw [Deep.nblk_alloc]; omega) (wr.heap.size + 1) (by rw [Deep.nblk_alloc]) ?_; intro g5 cap5 w5 hown5 hgrow5 hat5 hlt5)
            go_roundw
            case rel => exact ⟨k + 1, D ++ [37], (L : Int), by omega, by go_num, rfl, HN, (hb.alloc _).grown hgrow5 (by rw [List.length_append, HO.out]; simpa using hown5)⟩
            case measure => simp [intOf]; omega
          | true =>
            have HXA : Hid (hexd a = true) := hxa
            clear hxa
            go_wp2_with fail
            refine (isHex_any b wr).mono ?_
            rintro e w' ⟨rfl, rfl⟩
            cases hxb : hexd b with
            | false =>
              have HN : Hid (NInv low l (k + 1) (D ++ [37]) (L : Int)) := hid_mk (by rw [← HO.out]; exact HI.out.stray HC.out (two_second HA.out HB.out hxb))
              clear hxb
              go_wp2_with (at_builtin; refine wpList_append_lies _ rfl _ _ 26 rfl w.heap.size 5 i0 _ 1 1 Try.underlying26 hi0 hz0 hz1 hz2 rfl (by omega) (.slice dl L dc) L (D.map bv) rfl (hown.alloc (.cells #[bv 37] 5)) ⟨wr.heap.size, 0, none⟩ 1 1 [bv 37] rfl rfl (World.news_of_block (cs := #[bv 37]) (t := 5) (fr := (0, 0)) (heap_alloc_new wr (.cells #[bv 37] 5))) (by simp [Value.oneCell', bv]) (by omega) (by unfold maxLen; omega) (by omega) (by rw [Deep.nblk_alloc]; omega) (wr.heap.size + 1) (by rw [Deep.nblk_alloc]) ?_; intro g5 cap5 w5 hown5 hgrow5 hat5 hlt5)
              go_roundw
              case rel => exact ⟨k + 1, D ++ [37], (L : Int), by omega, by go_num, rfl, HN, (hb.alloc _).grown hgrow5 (by rw [List.length_append, HO.out]; simpa using hown5)⟩
              case measure => simp [intOf]; omega
            | true =>
              have HXB : Hid (hexd b = true) := hxb
              obtain ⟨v, hv'⟩ : ∃ v, 16 * hv a + hv b = v := ⟨_, rfl⟩
              have hor : bits BinOp.or IntKind.u8 (IntKind.u8.wrap ((hv a : Int) * 16)) (hv b : Int) = (v : Int) := by rw [← hv']; exact bits_or (hv_lt HXA.out) (hv_lt HXB.out)
              have hor2 : bits BinOp.or IntKind.u8 ((hv a : Int) * 16 % 256) (hv b : Int) = (v : Int) := by rw [← hv']; exact bits_or2 (hv_lt HXA.out) (hv_lt HXB.out)
              have hv256 : v < 256 := by have := hv_lt HXA.out; have := hv_lt HXB.out; omega
              have HV : Hid (16 * hv a + hv b = v) := hv'
              have HDr : Hid (l.drop k = 37 :: a :: b :: l.drop (k + 3)) := hid_mk (by rw [drop_at HC.out, drop_at HA.out, drop_at HB.out])
              clear hxb hv'
              have hw1 : IntKind.i64.wrap ((k : Int) + 1) = (k : Int) + 1 := by rw [IntKind.wrap_i64]; omega
              have hw2 : IntKind.i64.wrap ((k : Int) + 2) = (k : Int) + 2 := by rw [IntKind.wrap_i64]; omega
              have hn1 : ((k : Int) + 1).toNat = k + 1 := by omega
              have hn2 : ((k : Int) + 2).toNat = k + 2 := by omega
              have hx1 : 0 ≤ (k : Int) + 1 ∧ (k : Int) + 1 < (n : Int) := by omega
              have hx2 : 0 ≤ (k : Int) + 2 ∧ (k : Int) + 2 < (n : Int) := by omega
              go_upto_region 13 with fail
              go_quiet (first | (go_at_call 48; refine Calls.quiet_of_same ((unhex_any _ (by first | exact HXA.out | exact HXB.out) _).mono (fun e w' h => ⟨h.1, h.2.symm⟩))))
              clear hw1 hw2 hn1 hn2 hx1 hx2 ha hb' h1S h2S hi1 hi2
              go_upto_region 14 with fail
              refine wp_world (fun Y => BRow w.heap.size w (.slice dl L dc) D Y) ⟨hb.own, below_drewN hb.below _, hb.size⟩ ?_
              clear hb hown hsz hor hor2
              intro Y hb
              have hsz := hb.size
              have hown := hb.own
              rw [HO.out] at hown
              obtain ⟨aft, haft⟩ : ∃ aft, decide (stOf D T ≠ 0) = aft := ⟨_, rfl⟩
              have HAf : Hid (decide (stOf D T ≠ 0) = aft) := haft
              clear haft
              go_cut [11] from 12 to 120 (fun s11 wx => s11 = .bool aft ∧ BRow w.heap.size w (.slice dl L dc) D wx)
              case first =>
                as_aux_lemma =>
                by_cases t0 : 0 ≤ T
                · obtain ⟨q, hq⟩ : ∃ q, L = q + 1 := ⟨L - 1, by omega⟩
                  have hqi : (L : Int) - 1 = (q : Int) := by omega
                  by_cases t1 : T = (q : Int)
                  · have hb1 : (T == (q : Int)) = true := beq_iff_eq.2 t1
                    have HAt : Hid (aft = true) := hid_mk (by
                      rw [← HAf.out]
                      have : stOf D T = 1 := by unfold stOf; rw [if_pos t0, if_pos (by rw [HO.out]; omega)]
                      rw [this]; rfl)
                    clear hq t1
                    go_wp2
                    go_meet
                    case rel => exact ⟨by rw [HAt.out], hb⟩
                  · have hb1 : (T == (q : Int)) = false := beq_eq_false_iff_ne.2 t1
                    by_cases t2 : T = (L : Int) - 2
                    · have hb2 : (T == (L : Int) - 2) = true := beq_iff_eq.2 t2
                      have hL2 : 2 ≤ L := by omega
                      have hqL : (q : Int) < (L : Int) := by omega
                      obtain ⟨d, hd⟩ : ∃ d, D[q]? = some d := ⟨D[q]'(by rw [HO.out]; omega), List.getElem?_eq_getElem (by rw [HO.out]; omega)⟩
                      obtain ⟨gd, hgd⟩ : ∃ gd, dl = some ⟨gd, 0, none⟩ := by
                        rcases hown.2 with ⟨h1, h2⟩ | ⟨g, cap, cur, h1, _⟩
                        · omega
                        · cases h1; exact ⟨g, rfl⟩
                      subst hgd
                      have cd : Y.cell? ⟨gd, q, none⟩ = some (.int .u8 (d : Int)) := by
                        rw [hown.cellAt q (by omega)]; simp [hd, bv]
                      have HAt : Hid (aft = hexd d) := hid_mk (by
                        rw [← HAf.out]
                        have h1 : D.getD (D.length - 1) 0 = d := by
                          have : D.length - 1 = q := by rw [HO.out]; omega
                          rw [this]; simp [List.getD, hd]
                        unfold stOf
                        rw [if_pos t0, if_neg (by rw [HO.out]; omega), h1]
                        cases hexd d with
                        | true => rw [if_pos ⟨by rw [HO.out]; omega, rfl⟩]; rfl
                        | false => rw [if_neg (by simp)]; rfl)
                      clear hq t1 t2 hd
                      go_wp2_with fail
                      refine (isHex_any d Y).mono ?_
                      rintro e w' ⟨rfl, rfl⟩
                      go_wp2
                      go_meet
                      case rel => exact ⟨by rw [HAt.out], hb⟩
                    · have hb2 : (T == (L : Int) - 2) = false := beq_eq_false_iff_ne.2 t2
                      have HAt : Hid (aft = false) := hid_mk (by
                        rw [← HAf.out]
                        have : stOf D T = 0 := by
                          unfold stOf
                          rw [if_pos t0, if_neg (by rw [HO.out]; omega), if_neg (by rw [HO.out]; omega)]
                        rw [this]; rfl)
                      clear hq t1 t2
                      go_wp2
                      go_meet
                      case rel => exact ⟨by rw [HAt.out], hb⟩
                · have t0' : T < 0 := by omega
                  have HAt : Hid (aft = false) := hid_mk (by
                    rw [← HAf.out]
                    have : stOf D T = 0 := by unfold stOf; rw [if_neg t0]
                    rw [this]; rfl)
                  clear t0
                  go_wp2
                  go_meet
                  case rel => exact ⟨by rw [HAt.out], hb⟩
              case rest =>
                obtain ⟨rfl, hb⟩ := hcut
                have hsz := hb.size
                have hown := hb.own
                rw [HO.out] at hown
                go_wp2_with fail
                refine (unres_any v wc).mono ?_
                rintro e w' ⟨rfl, rfl⟩
                cases hu : unres v with
                | false =>
                  have hand : bits BinOp.and IntKind.u8 (v : Int) 15 = ((v % 16 : Nat) : Int) := bits_and hv256
                  obtain ⟨r, hr⟩ : ∃ r, v % 16 = r := ⟨_, rfl⟩
                  obtain ⟨q, hq⟩ : ∃ q, v / 16 = q := ⟨_, rfl⟩
                  have hr16 : r < 16 := by omega
                  have hq16 : q < 16 := by omega
                  have hqi : (v : Int) / 16 = (q : Int) := by omega
                  have hrx : 0 ≤ (r : Int) ∧ (r : Int) < 16 := by omega
                  have hqx : 0 ≤ (q : Int) ∧ (q : Int) < 16 := by omega
                  have hrn : (r : Int).toNat = r := by omega
                  have hqn : (q : Int).toNat = q := by omega
                  rw [hr] at hand
                  obtain ⟨x, hx⟩ : ∃ x, uh q = x := ⟨_, rfl⟩
                  obtain ⟨y, hy⟩ : ∃ y, uh r = y := ⟨_, rfl⟩
                  have hsx : (({ data := #[48, 49, 50, 51, 52, 53, 54, 55, 56, 57, 65, 66, 67, 68, 69, 70] } : ByteArray)[q]'hq16).toNat = x := by rw [← hx]; exact upper_at hq16
                  have hsy : (({ data := #[48, 49, 50, 51, 52, 53, 54, 55, 56, 57, 65, 66, 67, 68, 69, 70] } : ByteArray)[r]'hr16).toNat = y := by rw [← hy]; exact upper_at hr16
                  have HN : Hid (NInv low l (k + 3) (D ++ [37, x, y]) T) := hid_mk (by have h := HI.out.kept HDr.out HXA.out HXB.out; rw [HV.out, hq, hr, hx, hy] at h; exact h)
                  have hown1 := hown.alloc (.cells #[bv 37, bv x, bv y] 5)
                  have hnews := World.news_of_block (cs := #[bv 37, bv x, bv y]) (t := 5) (fr := (0, 0)) (heap_alloc_new wc (.cells #[bv 37, bv x, bv y] 5))
                  clear hx hy hr hq
                  go_upto_region 19 with fail
                  try clear hu
                  go_region_held3 (fun _ => True) (trivial) (first | (refine step_append_lies _ (by rfl) _ _ _ (by rfl) w.heap.size 5 i0 _ 1 1 Try.underlying26 hi0 hz0 hz1 hz2 rfl (by omega) (.slice dl L dc) L (D.map bv) (by rfl) hown1 ⟨wc.heap.size, 0, none⟩ 3 3 [bv 37, bv x, bv y] (by rfl) (by rfl) hnews (by simp [Value.oneCell', bv]) (by omega) (by unfold maxLen; omega) (by omega) (by simp; omega) (wc.heap.size + 1) (by simp) ?_; intro g5 cap5 w5 hown5 hgrow5 hat5 hlt5))
                  all_goals
                    go_wp2
                    go_roundw
                    case rel =>
                      have hlen : (D ++ [37, x, y]).length = L + 3 := by rw [List.length_append, HO.out]; rfl
                      exact ⟨k + 3, D ++ [37, x, y], T, by omega, by go_num, rfl, HN, (hb.alloc _).drew.grown hgrow5 (by rw [hlen]; simpa using hown5)⟩
                    case measure => simp [intOf]; omega
                | true =>
                  have HU : Hid (unres v = true) := hu
                  clear hu
                  cases aft with
                  | false =>
                    have hnn : stOf D T = 0 ∨ hexd (16 * hv a + hv b) = false := Or.inl (by simpa using HAf.out)
                    have HN0 : Hid (NInv low l (k + 3) (D ++ [lwIf low (16 * hv a + hv b)]) T) := HI.out.bare HDr.out HXA.out HXB.out (by rw [HV.out]; exact HU.out) hnn
                    clear hnn
                    cases low with
                    | true =>
                      have HN : Hid (NInv true l (k + 3) (D ++ [lw v]) T) := hid_mk (by have h := HN0.out; rw [HV.out] at h; exact h)
                      clear HN0
                      go_wp2_with fail
                      refine (lower_any v hv256 wc).mono ?_
                      rintro e w' ⟨rfl, rfl⟩
                      go_wp2_with (at_builtin; refine wpList_append_lies _ rfl _ _ 26 rfl w.heap.size 5 i0 _ 1 1 Try.underlying26 hi0 hz0 hz1 hz2 rfl (by omega) (.slice dl L dc) L (D.map bv) rfl (hown.alloc (.cells #[bv (lw v)] 5)) ⟨wc.heap.size, 0, none⟩ 1 1 [bv (lw v)] rfl rfl (World.news_of_block (cs := #[bv (lw v)]) (t := 5) (fr := (0, 0)) (heap_alloc_new wc (.cells #[bv (lw v)] 5))) (by simp [Value.oneCell', bv]) (by omega) (by unfold maxLen; omega) (by omega) (by rw [Deep.nblk_alloc]; omega) (wc.heap.size + 1) (by rw [Deep.nblk_alloc]) ?_; intro g5 cap5 w5 hown5 hgrow5 hat5 hlt5)
                      go_roundw
                      case rel => exact ⟨k + 3, D ++ [(lw v)], T, by omega, by go_num, rfl, HN, (hb.alloc _).grown hgrow5 (by rw [List.length_append, HO.out]; simpa using hown5)⟩
                      case measure => simp [intOf]; omega
                    | false =>
                      have HN : Hid (NInv false l (k + 3) (D ++ [v]) T) := hid_mk (by have h := HN0.out; rw [HV.out] at h; exact h)
                      clear HN0
                      go_wp2_with (at_builtin; refine wpList_append_lies _ rfl _ _ 26 rfl w.heap.size 5 i0 _ 1 1 Try.underlying26 hi0 hz0 hz1 hz2 rfl (by omega) (.slice dl L dc) L (D.map bv) rfl (hown.alloc (.cells #[bv v] 5)) ⟨wc.heap.size, 0, none⟩ 1 1 [bv v] rfl rfl (World.news_of_block (cs := #[bv v]) (t := 5) (fr := (0, 0)) (heap_alloc_new wc (.cells #[bv v] 5))) (by simp [Value.oneCell', bv]) (by omega) (by unfold maxLen; omega) (by omega) (by rw [Deep.nblk_alloc]; omega) (wc.heap.size + 1) (by rw [Deep.nblk_alloc]) ?_; intro g5 cap5 w5 hown5 hgrow5 hat5 hlt5)
                      go_roundw
                      case rel => exact ⟨k + 3, D ++ [v], T, by omega, by go_num, rfl, HN, (hb.alloc _).grown hgrow5 (by rw [List.length_append, HO.out]; simpa using hown5)⟩
                      case measure => simp [intOf]; omega
                  | true =>
                    go_wp2_with fail
                    refine (isHex_any v wc).mono ?_
                    rintro e w' ⟨rfl, rfl⟩
                    cases hxv : hexd v with
                    | true =>
                      have hand : bits BinOp.and IntKind.u8 (v : Int) 15 = ((v % 16 : Nat) : Int) := bits_and hv256
                      obtain ⟨r, hr⟩ : ∃ r, v % 16 = r := ⟨_, rfl⟩
                      obtain ⟨q, hq⟩ : ∃ q, v / 16 = q := ⟨_, rfl⟩
                      have hr16 : r < 16 := by omega
                      have hq16 : q < 16 := by omega
                      have hqi : (v : Int) / 16 = (q : Int) := by omega
                      have hrx : 0 ≤ (r : Int) ∧ (r : Int) < 16 := by omega
                      have hqx : 0 ≤ (q : Int) ∧ (q : Int) < 16 := by omega
                      have hrn : (r : Int).toNat = r := by omega
                      have hqn : (q : Int).toNat = q := by omega
                      rw [hr] at hand
                      obtain ⟨x, hx⟩ : ∃ x, uh q = x := ⟨_, rfl⟩
                      obtain ⟨y, hy⟩ : ∃ y, uh r = y := ⟨_, rfl⟩
                      have hsx : (({ data := #[48, 49, 50, 51, 52, 53, 54, 55, 56, 57, 65, 66, 67, 68, 69, 70] } : ByteArray)[q]'hq16).toNat = x := by rw [← hx]; exact upper_at hq16
                      have hsy : (({ data := #[48, 49, 50, 51, 52, 53, 54, 55, 56, 57, 65, 66, 67, 68, 69, 70] } : ByteArray)[r]'hr16).toNat = y := by rw [← hy]; exact upper_at hr16
                      have HN : Hid (NInv low l (k + 3) (D ++ [37, x, y]) T) := hid_mk (by have h := HI.out.kept HDr.out HXA.out HXB.out; rw [HV.out, hq, hr, hx, hy] at h; exact h)
                      have hown1 := hown.alloc (.cells #[bv 37, bv x, bv y] 5)
                      have hnews := World.news_of_block (cs := #[bv 37, bv x, bv y]) (t := 5) (fr := (0, 0)) (heap_alloc_new wc (.cells #[bv 37, bv x, bv y] 5))
                      clear hx hy hr hq
                      go_upto_region 19 with fail
                      try clear hu
                      go_region_held3 (fun _ => True) (trivial) (first | (refine step_append_lies _ (by rfl) _ _ _ (by rfl) w.heap.size 5 i0 _ 1 1 Try.underlying26 hi0 hz0 hz1 hz2 rfl (by omega) (.slice dl L dc) L (D.map bv) (by rfl) hown1 ⟨wc.heap.size, 0, none⟩ 3 3 [bv 37, bv x, bv y] (by rfl) (by rfl) hnews (by simp [Value.oneCell', bv]) (by omega) (by unfold maxLen; omega) (by omega) (by simp; omega) (wc.heap.size + 1) (by simp) ?_; intro g5 cap5 w5 hown5 hgrow5 hat5 hlt5))
                      all_goals
                        go_wp2
                        go_roundw
                        case rel =>
                          have hlen : (D ++ [37, x, y]).length = L + 3 := by rw [List.length_append, HO.out]; rfl
                          exact ⟨k + 3, D ++ [37, x, y], T, by omega, by go_num, rfl, HN, (hb.alloc _).drew.grown hgrow5 (by rw [hlen]; simpa using hown5)⟩
                        case measure => simp [intOf]; omega
                    | false =>
                      have HXV : Hid (hexd v = false) := hxv
                      clear hxv
                      have hnn : stOf D T = 0 ∨ hexd (16 * hv a + hv b) = false := Or.inr (by rw [HV.out]; exact HXV.out)
                      have HN0 : Hid (NInv low l (k + 3) (D ++ [lwIf low (16 * hv a + hv b)]) T) := HI.out.bare HDr.out HXA.out HXB.out (by rw [HV.out]; exact HU.out) hnn
                      clear hnn
                      cases low with
                      | true =>
                        have HN : Hid (NInv true l (k + 3) (D ++ [lw v]) T) := hid_mk (by have h := HN0.out; rw [HV.out] at h; exact h)
                        clear HN0
                        go_wp2_with fail
                        refine (lower_any v hv256 wc).mono ?_
                        rintro e w' ⟨rfl, rfl⟩
                        go_wp2_with (at_builtin; refine wpList_append_lies _ rfl _ _ 26 rfl w.heap.size 5 i0 _ 1 1 Try.underlying26 hi0 hz0 hz1 hz2 rfl (by omega) (.slice dl L dc) L (D.map bv) rfl (hown.alloc (.cells #[bv (lw v)] 5)) ⟨wc.heap.size, 0, none⟩ 1 1 [bv (lw v)] rfl rfl (World.news_of_block (cs := #[bv (lw v)]) (t := 5) (fr := (0, 0)) (heap_alloc_new wc (.cells #[bv (lw v)] 5))) (by simp [Value.oneCell', bv]) (by omega) (by unfold maxLen; omega) (by omega) (by rw [Deep.nblk_alloc]; omega) (wc.heap.size + 1) (by rw [Deep.nblk_alloc]) ?_; intro g5 cap5 w5 hown5 hgrow5 hat5 hlt5)
                        go_roundw
                        case rel => exact ⟨k + 3, D ++ [(lw v)], T, by omega, by go_num, rfl, HN, (hb.alloc _).grown hgrow5 (by rw [List.length_append, HO.out]; simpa using hown5)⟩
                        case measure => simp [intOf]; omega
                      | false =>
                        have HN : Hid (NInv false l (k + 3) (D ++ [v]) T) := hid_mk (by have h := HN0.out; rw [HV.out] at h; exact h)
                        clear HN0
                        go_wp2_with (at_builtin; refine wpList_append_lies _ rfl _ _ 26 rfl w.heap.size 5 i0 _ 1 1 Try.underlying26 hi0 hz0 hz1 hz2 rfl (by omega) (.slice dl L dc) L (D.map bv) rfl (hown.alloc (.cells #[bv v] 5)) ⟨wc.heap.size, 0, none⟩ 1 1 [bv v] rfl rfl (World.news_of_block (cs := #[bv v]) (t := 5) (fr := (0, 0)) (heap_alloc_new wc (.cells #[bv v] 5))) (by simp [Value.oneCell', bv]) (by omega) (by unfold maxLen; omega) (by omega) (by rw [Deep.nblk_alloc]; omega) (wc.heap.size + 1) (by rw [Deep.nblk_alloc]) ?_; intro g5 cap5 w5 hown5 hgrow5 hat5 hlt5)
                        go_roundw
                        case rel => exact ⟨k + 3, D ++ [v], T, by omega, by go_num, rfl, HN, (hb.alloc _).grown hgrow5 (by rw [List.length_append, HO.out]; simpa using hown5)⟩
                        case measure => simp [intOf]; omega
        · have h2' : (n : Int) ≤ (k : Int) + 2 := by omega
          have HN : Hid (NInv low l (k + 1) (D ++ [37]) (L : Int)) := hid_mk (by rw [← HO.out]; exact HI.out.stray HC.out (two_short (by rw [HLL.out]; omega)))
          go_wp2_with (at_builtin; refine wpList_append_lies _ rfl _ _ 26 rfl w.heap.size 5 i0 _ 1 1 Try.underlying26 hi0 hz0 hz1 hz2 rfl (by omega) (.slice dl L dc) L (D.map bv) rfl (hown.alloc (.cells #[bv 37] 5)) ⟨wr.heap.size, 0, none⟩ 1 1 [bv 37] rfl rfl (World.news_of_block (cs := #[bv 37]) (t := 5) (fr := (0, 0)) (heap_alloc_new wr (.cells #[bv 37] 5))) (by simp [Value.oneCell', bv]) (by omega) (by unfold maxLen; omega) (by omega) (by rw [Deep.nblk_alloc]; omega) (wr.heap.size + 1) (by rw [Deep.nblk_alloc]) ?_; intro g5 cap5 w5 hown5 hgrow5 hat5 hlt5)
          go_roundw
          case rel => exact ⟨k + 1, D ++ [37], (L : Int), by omega, by go_num, rfl, HN, (hb.alloc _).grown hgrow5 (by rw [List.length_append, HO.out]; simpa using hown5)⟩
          case measure => simp [intOf]; omega
      · have hne : ((c : Int) != 37) = true := by rw [bne_iff_ne]; omega
        cases low with
        | true =>
          have HN : Hid (NInv true l (k + 1) (D ++ [lw c]) T) := HI.out.lit HC.out h37 hc256
          clear h37 hdv
          go_wp2_with fail
          refine (lower_any c hc256 wr).mono ?_
          rintro e w' ⟨rfl, rfl⟩
          go_wp2_with (at_builtin; refine wpList_append_lies _ rfl _ _ 26 rfl w.heap.size 5 i0 _ 1 1 Try.underlying26 hi0 hz0 hz1 hz2 rfl (by omega) u0 L (D.map bv) rfl (hown.alloc (.cells #[bv (lw c)] 5)) ⟨wr.heap.size, 0, none⟩ 1 1 [bv (lw c)] rfl rfl (World.news_of_block (cs := #[bv (lw c)]) (t := 5) (fr := (0, 0)) (heap_alloc_new wr (.cells #[bv (lw c)] 5))) (by simp [Value.oneCell', bv]) (by omega) (by unfold maxLen; omega) (by omega) (by rw [Deep.nblk_alloc]; omega) (wr.heap.size + 1) (by rw [Deep.nblk_alloc]) ?_; intro g5 cap5 w5 hown5 hgrow5 hat5 hlt5)
          go_roundw
          case rel => exact ⟨k + 1, D ++ [(lw c)], T, by omega, by go_num, rfl, HN, (hb.alloc _).grown hgrow5 (by rw [List.length_append, HO.out]; simpa using hown5)⟩
          case measure => simp [intOf]; omega
        | false =>
          have HN : Hid (NInv false l (k + 1) (D ++ [c]) T) := HI.out.lit HC.out h37 hc256
          clear h37 hdv
          go_wp2_with (at_builtin; refine wpList_append_lies _ rfl _ _ 26 rfl w.heap.size 5 i0 _ 1 1 Try.underlying26 hi0 hz0 hz1 hz2 rfl (by omega) u0 L (D.map bv) rfl (hown.alloc (.cells #[bv c] 5)) ⟨wr.heap.size, 0, none⟩ 1 1 [bv c] rfl rfl (World.news_of_block (cs := #[bv c]) (t := 5) (fr := (0, 0)) (heap_alloc_new wr (.cells #[bv c] 5))) (by simp [Value.oneCell', bv]) (by omega) (by unfold maxLen; omega) (by omega) (by rw [Deep.nblk_alloc]; omega) (wr.heap.size + 1) (by rw [Deep.nblk_alloc]) ?_; intro g5 cap5 w5 hown5 hgrow5 hat5 hlt5)
          go_roundw
          case rel => exact ⟨k + 1, D ++ [c], T, by omega, by go_num, rfl, HN, (hb.alloc _).grown hgrow5 (by rw [List.length_append, HO.out]; simpa using hown5)⟩
          case measure => simp [intOf]; omega
    · have hk' : ¬ ((k : Int) < (n : Int)) := by omega
      have HR : Hid (NormPost w low l (.returned u0) wr) := hid_mk ⟨u0, D, rfl, hb.own, HI.out.result (by rw [HLL.out]; omega), by rw [HLL.out, HO.out]; omega, HI.out.byte, hb.below⟩
      clear hb hown
      go_wp2
      go_ret
      exact HR.out

end Go.Proofs.Qxb6602061a
