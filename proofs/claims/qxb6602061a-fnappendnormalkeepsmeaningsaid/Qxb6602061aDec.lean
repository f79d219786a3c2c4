import Derived.Test.Qxb6602061aFns
import Derived.Deep.AppendLies
import Derived.OwnWalk
import Derived.Deep.QuietTactic
import Derived.BigQuiet
import Derived.Deep.CutRange
import Derived.Deep.RegionHeld3
namespace Go.Proofs.Qxb6602061a
open Go.RowKit

theorem Try.info5 : (Try.prog.info? 5).map (fun i => (i.zero, i.size, i.bytes)) = some (some (.int .u8 0), 1, 1) := by kernel_rfl
def bv (c : Nat) : Value := .int .u8 (c : Int)
/-- A string's bytes as numbers. -/
def bl (S : ByteArray) : List Nat := S.data.toList.map UInt8.toNat

theorem bl_len (S : ByteArray) : (bl S).length = S.size := by unfold bl; rw [List.length_map, Array.length_toList]; rfl
theorem bl_at {S : ByteArray} {i : Nat} (h : i < S.size) : (bl S)[i]? = some (S[i]'h).toNat := by
  have h2 : i < S.data.toList.length := by rw [Array.length_toList]; exact h
  unfold bl
  rw [List.getElem?_map, List.getElem?_eq_getElem h2]
  rfl

theorem wp_world {P : Program} {c : Code} {Q : Exit → Act → World → Prop} {a : Act} {w : World} (R : World → Prop) (hR : R w) (h : ∀ Y, R Y → Code.wp P c Q a Y) : Code.wp P c Q a w := h w hR

/-- A slice of bytes of the call's own. -/
structure BRow (base : Nat) (W : World) (v : Value) (D : List Nat) (X : World) : Prop where
  own : X.ownsRow base 5 1 v D.length (D.map bv)
  below : Below base W X
  size : base ≤ X.heap.size

theorem BRow.alloc {base : Nat} {W X : World} {v : Value} {D : List Nat} (h : BRow base W v D X) (o : Obj) : BRow base W v D (X.alloc o) := ⟨h.own.alloc o, h.below.alloc h.size o, by rw [Deep.nblk_alloc]; have := h.size; omega⟩
theorem BRow.grown {base : Nat} {W X X' : World} {v v' : Value} {D D' : List Nat} (h : BRow base W v D X) (hg : X.grownBy X' v.ownBlock) (hq : X'.ownsRow base 5 1 v' D'.length (D'.map bv)) : BRow base W v' D' X' :=
  ⟨hq, h.below.grown hg h.size (fun k hk => (h.own.lt k hk).1), Nat.le_trans h.size hg.size⟩
theorem BRow.drew {base : Nat} {W X : World} {v : Value} {D : List Nat} (h : BRow base W v D X) : BRow base W v D X.drew := ⟨h.own, h.below.drew, h.size⟩

def DecPost (w : World) (l : List Nat) (e : Ending) (w' : World) : Prop :=
  ∃ (b cap : Nat), e = .returned (.slice (some ⟨b, 0, none⟩) (dec l).length cap) ∧ w'.ownsRow w.heap.size 5 1 (.slice (some ⟨b, 0, none⟩) (dec l).length cap) (dec l).length ((dec l).map bv) ∧ Below w.heap.size w w'

/-- A byte by itself. -/
theorem dec_step {l O : List Nat} {k c : Nat} (h : dec l = O ++ dec (l.drop k)) (hc : l[k]? = some c) (hs : c = 37 → two (l.drop (k + 1)) = false) : dec l = (O ++ [c]) ++ dec (l.drop (k + 1)) := by
  rw [h, drop_at hc, dec_lit hs]; simp

theorem dec_step3 {l O : List Nat} {k a b : Nat} (h : dec l = O ++ dec (l.drop k)) (h0 : l[k]? = some 37) (h1 : l[k + 1]? = some a) (h2 : l[k + 2]? = some b) (ha : hexd a = true) (hb : hexd b = true) : dec l = (O ++ [16 * hv a + hv b]) ++ dec (l.drop (k + 3)) := by
  rw [h, drop_at h0, drop_at h1, drop_at h2, dec_enc ha hb]; simp

theorem two_short {l : List Nat} {k : Nat} (h : l.length ≤ k + 1) : two (l.drop k) = false := by
  cases hd : l.drop k with
  | nil => rfl
  | cons x t =>
    cases t with
    | nil => rfl
    | cons y t => have := congrArg List.length hd; simp at this; omega

theorem two_first {l : List Nat} {k a : Nat} (h1 : l[k]? = some a) (ha : hexd a = false) : two (l.drop k) = false := by
  rw [drop_at h1]
  cases l.drop (k + 1) with
  | nil => rfl
  | cons y t => simp [two, ha]

theorem two_second {l : List Nat} {k a b : Nat} (h1 : l[k]? = some a) (h2 : l[k + 1]? = some b) (hb : hexd b = false) : two (l.drop k) = false := by
  rw [drop_at h1, drop_at h2]
  simp [two, hb]

theorem index_at {S : ByteArray} {i c : Nat} {w : World} (h : i < S.size) (hc : (S[i]'h).toNat = c) : (Instr.index 9 (.string S) (.int .i64 (i : Int))).run Try.prog w = .ok (.int .u8 (c : Int)) w := by
  rw [run_index_string w 9 S .i64 (i : Int) Try.underlying9, dif_pos (by omega)]
  rw [← hc]
  rfl

theorem bits_or {x y : Nat} (hx : x < 16) (hy : y < 16) : bits BinOp.or IntKind.u8 (IntKind.u8.wrap ((x : Int) * 16)) (y : Int) = ((16 * x + y : Nat) : Int) := by
  have h : ∀ x : Fin 16, ∀ y : Fin 16, bits BinOp.or IntKind.u8 (IntKind.u8.wrap ((x.val : Int) * 16)) (y.val : Int) = ((16 * x.val + y.val : Nat) : Int) := by decide +kernel
  exact h ⟨x, hx⟩ ⟨y, hy⟩

set_option maxRecDepth 100000 in
set_option maxHeartbeats 10000000 in
theorem decode_any (S : ByteArray) (w : World) (hn0 : S.size ≤ 1048576) : Calls Try.prog 21 #[.string S] w (DecPost w (bl S)) := by
  obtain ⟨i0, hi0, hz0, hz1, hz2⟩ := info_parts Try.info5
  obtain ⟨n, hN⟩ : ∃ n, S.size = n := ⟨_, rfl⟩
  obtain ⟨l, hl⟩ : ∃ l, bl S = l := ⟨_, rfl⟩
  have hll : l.length = n := by rw [← hl, bl_len, hN]
  have HLL : Hid (l.length = n) := hll
  have HL : Hid (bl S = l) := hl
  have hn : n ≤ 1048576 := by omega
  rw [hl]
  clear hll hl hn0
  go_enter Try.func21, Try.ntmps21
  go_wp2_with (at_make; refine wpList_make_own _ rfl _ _ 26 rfl w.heap.size 5 i0 _ 1 Try.underlying26 hi0 hz0 hz1 .i64 .i64 _ n rfl rfl rfl (by rw [hz2]; omega) (by unfold maxLen; omega) (Nat.le_refl _) ?_; intro w2 hown2 hgrow2)
  have hb0 : BRow w.heap.size w (.slice (some ⟨w.heap.size, 0, none⟩) 0 n) [] w2 := ⟨hown2, (Below.refl _ _).grown hgrow2 (Nat.le_refl _) (fun k hk => by cases hk), hgrow2.size⟩
  clear hown2 hgrow2
  go_loopw [3, 4] (fun o i wr => ∃ (k : Nat) (O : List Nat), k ≤ n ∧ i = .int .i64 (k : Int) ∧ O.length ≤ k ∧ Hid (dec l = O ++ dec (l.drop k)) ∧ BRow w.heap.size w o O wr ∧ ∃ g cap, o = .slice (some ⟨g, 0, none⟩) O.length cap) (fun _ i _ => n - (intOf i).toNat)
  case atStart => exact ⟨0, [], Nat.zero_le _, rfl, Nat.le_refl _, hid_mk (by simp), hb0, _, _, rfl⟩
  case round =>
    clear hb0
    obtain ⟨k, O, hk, rfl, hOk, HD, hb, gO, capO, rfl⟩ := hrel
    obtain ⟨L, hL⟩ : ∃ L, O.length = L := ⟨_, rfl⟩
    have HO : Hid (O.length = L) := hL
    rw [hL] at hOk hb ⊢
    have hsz := hb.size
    have hown := hb.own
    rw [hL] at hown
    clear hL
    by_cases hlt : k < n
    · have hk' : (k : Int) < (n : Int) := by omega
      have hkS : k < S.size := by omega
      obtain ⟨c, hc⟩ : ∃ c, (S[k]'hkS).toNat = c := ⟨_, rfl⟩
      have HC : Hid (l[k]? = some c) := hid_mk (by rw [← HL.out, bl_at hkS, hc])
      have hown1 := hown.alloc (.cells #[.int .u8 (c : Int)] 5)
      have hnews := World.news_of_block (cs := #[bv c]) (t := 5) (fr := (0, 0)) (heap_alloc_new wr (.cells #[bv c] 5))
      by_cases h37 : c = 37
      · subst h37
        by_cases h2 : k + 2 < n
        · have h2' : (k : Int) + 2 < (n : Int) := by omega
          have h1S : k + 1 < S.size := by omega
          have h2S : k + 2 < S.size := by omega
          have hi1 : (k : Int) + 1 < (n : Int) := by omega
          obtain ⟨a, ha⟩ : ∃ a, (S[k + 1]'h1S).toNat = a := ⟨_, rfl⟩
          obtain ⟨b, hb'⟩ : ∃ b, (S[k + 2]'h2S).toNat = b := ⟨_, rfl⟩
          have HA : Hid (l[k + 1]? = some a) := hid_mk (by rw [← HL.out, bl_at h1S, ha])
          have HB : Hid (l[k + 2]? = some b) := hid_mk (by rw [← HL.out, bl_at h2S, hb'])
          go_wp2_with fail
          refine (zzuIsHex_any a wr).mono ?_
          rintro e w' ⟨rfl, rfl⟩
          cases hxa : hexd a with
          | false =>
            have HN : Hid (dec l = (O ++ [37]) ++ dec (l.drop (k + 1))) := dec_step HD.out HC.out (fun _ => two_first HA.out hxa)
            clear hxa
            go_wp2_with (at_builtin; refine wpList_append_lies _ rfl _ _ 26 rfl w.heap.size 5 i0 _ 1 1 Try.underlying26 hi0 hz0 hz1 hz2 rfl (by omega) (.slice (some ⟨gO, 0, none⟩) L capO) L (O.map bv) rfl hown1 ⟨wr.heap.size, 0, none⟩ 1 1 [bv 37] rfl rfl hnews (by simp [Value.oneCell', bv]) (by omega) (by unfold maxLen; omega) (by omega) (by rw [Deep.nblk_alloc]; omega) (wr.heap.size + 1) (by rw [Deep.nblk_alloc]) ?_; intro g5 cap5 w5 hown5 hgrow5 hat5 hlt5)
            go_roundw
            case rel =>
              have hlen : (O ++ [37]).length = L + 1 := by rw [List.length_append, HO.out]; rfl
              refine ⟨k + 1, O ++ [37], by omega, by go_num, by rw [hlen]; omega, HN, (hb.alloc _).grown hgrow5 (by rw [hlen]; simpa using hown5), g5, cap5, by rw [hlen]⟩
            case measure => simp [intOf]; omega
          | true =>
            have HXA : Hid (hexd a = true) := hxa
            clear hxa
            go_wp2_with fail
            refine (zzuIsHex_any b wr).mono ?_
            rintro e w' ⟨rfl, rfl⟩
            cases hxb : hexd b with
            | false =>
              have HN : Hid (dec l = (O ++ [37]) ++ dec (l.drop (k + 1))) := dec_step HD.out HC.out (fun _ => two_second HA.out HB.out hxb)
              clear hxb
              go_wp2_with (at_builtin; refine wpList_append_lies _ rfl _ _ 26 rfl w.heap.size 5 i0 _ 1 1 Try.underlying26 hi0 hz0 hz1 hz2 rfl (by omega) (.slice (some ⟨gO, 0, none⟩) L capO) L (O.map bv) rfl hown1 ⟨wr.heap.size, 0, none⟩ 1 1 [bv 37] rfl rfl hnews (by simp [Value.oneCell', bv]) (by omega) (by unfold maxLen; omega) (by omega) (by rw [Deep.nblk_alloc]; omega) (wr.heap.size + 1) (by rw [Deep.nblk_alloc]) ?_; intro g5 cap5 w5 hown5 hgrow5 hat5 hlt5)
              go_roundw
              case rel =>
                have hlen : (O ++ [37]).length = L + 1 := by rw [List.length_append, HO.out]; rfl
                refine ⟨k + 1, O ++ [37], by omega, by go_num, by rw [hlen]; omega, HN, (hb.alloc _).grown hgrow5 (by rw [hlen]; simpa using hown5), g5, cap5, by rw [hlen]⟩
              case measure => simp [intOf]; omega
            | true =>
              have HXB : Hid (hexd b = true) := hxb
              clear hxb hnews hown1
              go_upto_region 6 with fail
              have hw1 : IntKind.i64.wrap ((k : Int) + 1) = (k : Int) + 1 := by rw [IntKind.wrap_i64]; omega
              have hw2 : IntKind.i64.wrap ((k : Int) + 2) = (k : Int) + 2 := by rw [IntKind.wrap_i64]; omega
              have hn1 : ((k : Int) + 1).toNat = k + 1 := by omega
              have hn2 : ((k : Int) + 2).toNat = k + 2 := by omega
              have hx1 : 0 ≤ (k : Int) + 1 ∧ (k : Int) + 1 < (n : Int) := by omega
              have hx2 : 0 ≤ (k : Int) + 2 ∧ (k : Int) + 2 < (n : Int) := by omega
              obtain ⟨v, hv'⟩ : ∃ v, 16 * hv a + hv b = v := ⟨_, rfl⟩
              have hor : bits BinOp.or IntKind.u8 (IntKind.u8.wrap ((hv a : Int) * 16)) (hv b : Int) = (v : Int) := by rw [← hv']; exact bits_or (hv_lt HXA.out) (hv_lt HXB.out)
              have HN : Hid (dec l = (O ++ [v]) ++ dec (l.drop (k + 3))) := hid_mk (by rw [← hv']; exact dec_step3 HD.out HC.out HA.out HB.out HXA.out HXB.out)
              have hown1 := hown.alloc (.cells #[.int .u8 (v : Int)] 5)
              have hnews := World.news_of_block (cs := #[bv v]) (t := 5) (fr := (0, 0)) (heap_alloc_new wr (.cells #[bv v] 5))
              clear hv'
              go_region_held3 (fun _ => True) (trivial) (first | (go_at_call 39; refine (hexVal_any _ (by first | exact HXA.out | exact HXB.out) _).mono ?_; rintro e w' ⟨rfl, rfl⟩) | (refine step_append_lies _ (by rfl) _ _ _ (by rfl) w.heap.size 5 i0 _ 1 1 Try.underlying26 hi0 hz0 hz1 hz2 rfl (by omega) (.slice (some ⟨gO, 0, none⟩) L capO) L (O.map bv) (by rfl) hown1 ⟨wr.heap.size, 0, none⟩ 1 1 [bv v] (by rfl) (by rfl) hnews (by simp [Value.oneCell', bv]) (by omega) (by unfold maxLen; omega) (by omega) (by simp; omega) (wr.heap.size + 1) (by simp) ?_; intro g5 cap5 w5 hown5 hgrow5 hat5 hlt5))
              all_goals
                go_wp2
                go_roundw
                case rel =>
                  have hlen : (O ++ [v]).length = L + 1 := by rw [List.length_append, HO.out]; rfl
                  exact ⟨k + 3, O ++ [v], by omega, by go_num, by rw [hlen]; omega, HN, (hb.alloc _).drew.grown hgrow5 (by rw [hlen]; simpa using hown5), g5, cap5, by rw [hlen]⟩
                case measure => simp [intOf]; omega
        · have h2' : ¬ ((k : Int) + 2 < (n : Int)) := by omega
          have HN : Hid (dec l = (O ++ [37]) ++ dec (l.drop (k + 1))) := dec_step HD.out HC.out (fun _ => two_short (by rw [HLL.out]; omega))
          go_wp2_with (at_builtin; refine wpList_append_lies _ rfl _ _ 26 rfl w.heap.size 5 i0 _ 1 1 Try.underlying26 hi0 hz0 hz1 hz2 rfl (by omega) (.slice (some ⟨gO, 0, none⟩) L capO) L (O.map bv) rfl hown1 ⟨wr.heap.size, 0, none⟩ 1 1 [bv 37] rfl rfl hnews (by simp [Value.oneCell', bv]) (by omega) (by unfold maxLen; omega) (by omega) (by rw [Deep.nblk_alloc]; omega) (wr.heap.size + 1) (by rw [Deep.nblk_alloc]) ?_; intro g5 cap5 w5 hown5 hgrow5 hat5 hlt5)
          go_roundw
          case rel =>
            have hlen : (O ++ [37]).length = L + 1 := by rw [List.length_append, HO.out]; rfl
            refine ⟨k + 1, O ++ [37], by omega, by go_num, by rw [hlen]; omega, HN, (hb.alloc _).grown hgrow5 (by rw [hlen]; simpa using hown5), g5, cap5, by rw [hlen]⟩
          case measure => simp [intOf]; omega
      · have hne : ((c : Int) == 37) = false := beq_eq_false_iff_ne.2 (by omega)
        have HN : Hid (dec l = (O ++ [c]) ++ dec (l.drop (k + 1))) := dec_step HD.out HC.out (fun e => absurd e h37)
        clear h37
        go_wp2_with (at_builtin; refine wpList_append_lies _ rfl _ _ 26 rfl w.heap.size 5 i0 _ 1 1 Try.underlying26 hi0 hz0 hz1 hz2 rfl (by omega) (.slice (some ⟨gO, 0, none⟩) L capO) L (O.map bv) rfl hown1 ⟨wr.heap.size, 0, none⟩ 1 1 [bv c] rfl rfl hnews (by simp [Value.oneCell', bv]) (by omega) (by unfold maxLen; omega) (by omega) (by rw [Deep.nblk_alloc]; omega) (wr.heap.size + 1) (by rw [Deep.nblk_alloc]) ?_; intro g5 cap5 w5 hown5 hgrow5 hat5 hlt5)
        go_roundw
        case rel =>
          have hlen : (O ++ [c]).length = L + 1 := by rw [List.length_append, HO.out]; rfl
          refine ⟨k + 1, O ++ [c], by omega, by go_num, by rw [hlen]; omega, HN, (hb.alloc _).grown hgrow5 (by rw [hlen]; simpa using hown5), g5, cap5, by rw [hlen]⟩
        case measure => simp [intOf]; omega
    · have hk' : ¬ ((k : Int) < (n : Int)) := by omega
      have hde : O = dec l := by
        have h1 := HD.out
        have h2 := HLL.out
        rw [List.drop_eq_nil_of_le (by omega)] at h1
        simpa [dec] using h1.symm
      have HR : Hid (DecPost w l (.returned (.slice (some ⟨gO, 0, none⟩) L capO)) wr) := by
        refine hid_mk ⟨gO, capO, ?_, ?_, hb.below⟩
        · rw [← hde, HO.out]
        · rw [← hde, HO.out]; exact hown
      clear hde hb hown
      go_wp2
      go_ret
      exact HR.out

end Go.Proofs.Qxb6602061a
