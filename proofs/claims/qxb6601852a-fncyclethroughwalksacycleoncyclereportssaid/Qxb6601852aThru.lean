import Derived.Test.Qxb6601852aSmall
import Derived.Test.Qxb6601852aOnCyc
namespace Go.Proofs.Qxb6601852a
open Go.RowKit

theorem reverseInts_n (base b cap n : Nat) (xs : List Nat) (w : World) (hn : xs.length = n) (hx : 1 ≤ n) (hl : n ≤ 10000) (hown : w.ownsRow base 3 1 (.slice (some ⟨b, 0, none⟩) n cap) n (xs.map nv)) :
    Calls Try.prog 33 #[.slice (some ⟨b, 0, none⟩) n cap] w (fun e w' => (∃ v, e = .returned v) ∧ w'.ownsRow base 3 1 (.slice (some ⟨b, 0, none⟩) n cap) n (xs.reverse.map nv) ∧ w.grownBy w' (some b)) := by
  subst hn; exact reverseInts_any base b cap xs w hx hl hown

/-- s is the first vertex on a cycle. -/
def FirstOn (g : Gr) (s : Nat) : Prop := g.OnC s ∧ ∀ u, u < s → ¬ g.OnC u

def ThruPost (w : World) (g : Gr) (s : Nat) (e : Ending) (w' : World) : Prop :=
  ∃ (b cap : Nat) (c : List Nat), e = .returned (.slice (some ⟨b, 0, none⟩) c.length cap) ∧ w'.ownsRow w.heap.size 3 1 (.slice (some ⟨b, 0, none⟩) c.length cap) c.length (c.map nv) ∧ Cyc g s c ∧ c.length ≤ 10000 ∧ Below w.heap.size w w'

theorem own_low {X : World} {base base' : Nat} {e : TypeId} {size : Nat} {v : Value} {m : Nat} {xs : List Value} (h : X.ownsRow base e size v m xs) (hb : base' ≤ base) : X.ownsRow base' e size v m xs :=
  ⟨h.1, h.2.elim .inl (fun ⟨g, cap, cur, h1, h2, h3⟩ => .inr ⟨g, cap, cur, h1, Nat.le_trans hb h2, h3⟩)⟩

set_option maxRecDepth 100000 in
set_option maxHeartbeats 20000000 in
theorem thru_any (ad : Option Addr) (g : Gr) (cap s : Nat) (W : World) (hg : Graph W ad g) (hwf : g.wf) (hs : FirstOn g s) :
    Calls Try.prog 30 #[.slice ad g.n cap] W (ThruPost W g s) := by
  have hn := hg.1
  have hsn := onC_lt hs.1
  have hmk := run_make_row' (P := Try.prog) 28 3 (.int .i64 0) 8 Try.underlying28 Try.info3 rfl .i64 .i64 g.n (by omega) (by omega)
  obtain ⟨i0, hi0, hz0, hz1, hz2⟩ := info_parts Try.info3
  have HS : Hid (FirstOn g s) := hs
  clear hs
  go_enter Try.func30, Try.ntmps30
  go_wp2_with fail
  refine (onCycle_any ad g cap W hg hwf).mono ?_
  rintro e w1 ⟨res, rfl, hrow, hres, hb1⟩
  have hg1 := hg.below hb1 (Nat.le_refl _)
  have hrs : res s = true := (hres s hsn).2 HS.out.1
  have hru : ∀ u, u < s → res u = false := fun u hu => by
    cases h : res u with
    | false => rfl
    | true => exact absurd ((hres u (by omega)).1 h) (HS.out.2 u hu)
  have HR1 : Hid (res s = true) := hrs
  have HR2 : Hid (∀ u, u < s → res u = false) := hru
  clear hg hres hrs hru
  go_wp2_with fail
  refine (index_any (W.heap.size + 3) g.n s res w1 hn hrow hsn HR1.out HR2.out).mono ?_
  rintro e w1' ⟨rfl, rfl⟩
  clear hrow HR1 HR2
  have hs' : (s : Int) < (g.n : Int) := by omega
  go_wp2
  go_loopw [21] (fun i wr => ∃ v : Nat, v ≤ g.n ∧ i = .int .i64 (v : Int) ∧ wr.rowIs w1.heap.size 3 g.n (neg1 v) ∧ Below w1.heap.size w1 wr ∧ wr.heap.size = w1.heap.size + 1) (fun i _ => g.n - (intOf i).toNat)
  case atStart => exact ⟨0, Nat.zero_le _, rfl, (World.rowIs_made w1 (.int .i64 0) g.n 3).congr (fun i _ => by simp [neg1]), (Below.refl _ _).alloc (Nat.le_refl _) _, Deep.nblk_alloc _ _⟩
  case round =>
    clear hmk
    obtain ⟨v, hv, rfl, hrow, hbl, hsz⟩ := hrel
    by_cases hlt : v < g.n
    · have c0 := hrow.cell hlt
      have f0 := hrow.frozen v
      have hv' : (v : Int) < (g.n : Int) := by omega
      go_wp2
      go_roundw
      case rel => exact ⟨v + 1, by omega, by go_num, (hrow.set v (.int .i64 (-1))).congr (fun j _ => neg1_step v j), hbl.setCell (Nat.le_refl _) _, by rw [Deep.nblk_setCell]; exact hsz⟩
      case measure => simp [intOf]; omega
    · have hrow1 : wr.rowIs w1.heap.size 3 g.n (fun v => .int .i64 ((fun _ => -1 : Nat → Int) v)) := hrow.congr (fun j hj => by unfold neg1; rw [if_pos (by omega)])
      have hm0 : BMem g.n w1.heap.size w1 (fun _ => -1) [s] (.slice (some ⟨w1.heap.size + 1, 0, none⟩) 1 1) (wr.alloc (.cells #[.int .i64 (s : Int)] 3)) := by
        refine ⟨hrow1.alloc _, ⟨rfl, .inr ⟨w1.heap.size + 1, 1, #[nv s], rfl, Nat.le_refl _, ?_, Nat.le_refl _, by unfold maxLen; omega, rfl, rfl⟩⟩, hbl.alloc (by omega) _, by rw [Deep.nblk_alloc]; omega⟩
        rw [← hsz]; exact Deep.blk_alloc_new _ _
      clear hrow hrow1
      go_wp2
      go_loopw [6, 7] (fun q i wr => ∃ (Q : List Nat) (F : Nat → Int) (P : Nat → Nat) (k : Nat), i = .int .i64 (k : Int) ∧ k ≤ Q.length ∧ Hid (CInv g s F P Q k 0) ∧ BMem g.n w1.heap.size w1 F Q q wr) (fun _ i _ => g.n + 1 - (intOf i).toNat)
      case atStart => exact ⟨[s], _, _, 0, rfl, Nat.zero_le _, cinv_start hsn, hm0⟩
      case round =>
        clear hm0 hbl hsz
        obtain ⟨Q, F, P, k, rfl, hk, HC, hm⟩ := hrel
        have hQn := HC.out.len
        have hkL := HC.out.live hwf HS.out.1 hk
        obtain ⟨L, hL⟩ : ∃ L, Q.length = L := ⟨_, rfl⟩
        have HL : Hid (Q.length = L) := hL
        have hq0 := hm.q
        rw [hL] at hk hQn hkL hq0
        obtain ⟨gq, capq, rfl, hgq1, hgq2⟩ := hq0.form (by omega)
        obtain ⟨u, hu⟩ : ∃ u, Q[k]? = some u := ⟨Q[k]'(by omega), List.getElem?_eq_getElem (by omega)⟩
        have hun := HC.out.lt u (List.mem_of_getElem? hu)
        have cu := hm.at HL.out hu
        have hkL' : (k : Int) < (L : Int) := by omega
        have HU : Hid (Q[k]? = some u) := hu
        obtain ⟨b, off, rfl, hb, hrw⟩ := hg1.2.2 (by omega)
        obtain ⟨ra, rc, crow, hints⟩ := hrw u hun
        have hdeg := hg1.2.1 u hun
        have hun' : (u : Int) < (g.n : Int) := by omega
        have crow' := (hm.below.cell (p := ⟨b, off + u, none⟩) (by exact hb)).trans crow
        clear hrw hu hL hq0
        go_wp2
        go_loopw [6, 41] (fun q i wr => ∃ (Q : List Nat) (F : Nat → Int) (P : Nat → Nat) (j : Nat), i = .int .i64 (j : Int) ∧ j ≤ (g.nx u).length ∧ Hid (Q[k]? = some u) ∧ Hid (CInv g s F P Q k j) ∧ BMem g.n w1.heap.size w1 F Q q wr) (fun _ i _ => (g.nx u).length - (intOf i).toNat)
        case atStart => exact ⟨Q, F, P, 0, rfl, Nat.zero_le _, HU, HC, hm⟩
        case round =>
          clear hm cu HU HC HL hk hQn hgq1 hgq2 hkL hkL' crow'
          obtain ⟨Q, F, P, j, rfl, hj, HU, HC, hm⟩ := hrel
          have hi : k < Q.length := (List.getElem?_eq_some_iff.1 HU.out).1
          have hQn := HC.out.len
          by_cases hjl : j < (g.nx u).length
          · obtain ⟨b2, off2, rfl, hb2, hadj⟩ := hints.2 (by omega)
            have cadj : wr.cell? ⟨b2, off2 + j, none⟩ = some (.int .i64 (((g.nx u).getD j 0 : Nat) : Int)) := (hm.below.cell (p := ⟨b2, off2 + j, none⟩) (by exact hb2)).trans (hadj j hjl)
            obtain ⟨x, hx⟩ : ∃ x, (g.nx u).getD j 0 = x := ⟨_, rfl⟩
            rw [hx] at cadj
            have hjx : (g.nx u)[j]? = some x := by rw [← hx]; simp [List.getD, hjl]
            have hxn := (hwf u hun x (List.mem_of_getElem? hjx)).1
            have hjl' : (j : Int) < ((g.nx u).length : Int) := by omega
            have hxn' : (x : Int) < (g.n : Int) := by omega
            have cx : wr.cell? ⟨w1.heap.size, x, none⟩ = some (.int .i64 (F x)) := hm.dist.cell hxn
            have HX : Hid ((g.nx u)[j]? = some x) := hjx
            clear hadj hx hjx
            by_cases hxs : x = s
            · have hxe : ((x : Int) == (s : Int)) = true := by rw [hxs]; simp
              have HE : Hid (g.E u s) := hid_mk' (by rw [← hxs]; exact ⟨hun, List.mem_of_getElem? HX.out⟩)
              have huQ : u ∈ Q := List.mem_of_getElem? HU.out
              have HM : Hid (MInv g s P Q u []) := minv_start huQ HE.out
              clear hxs huQ
              go_upto_region 16 with fail
              refine wp_world' (fun V => BMem g.n w1.heap.size w1 F Q u6 V) hm ?_
              clear hm cadj cx
              intro V hV
              have hsz := hV.size
              go_wp2
              go_loopw [11, 12] (fun c i X => ∃ (y : Nat) (m : List Nat), i = .int .i64 (y : Int) ∧ Hid (MInv g s P Q y m) ∧ X.ownsRow V.heap.size 3 1 c (s :: m.reverse).length ((s :: m.reverse).map nv) ∧ Below V.heap.size V X) (fun _ i _ => P (intOf i).toNat)
              case atStart =>
                refine ⟨u, [], rfl, HM, ?_, (Below.refl _ _).alloc (Nat.le_refl _) _⟩
                exact ⟨rfl, .inr ⟨V.heap.size, 1, #[nv s], rfl, Nat.le_refl _, Deep.blk_alloc_new _ _, Nat.le_refl _, by unfold maxLen; omega, rfl, rfl⟩⟩
              case round =>
                clear HM
                obtain ⟨y, m, rfl, HM, hc, hbl⟩ := hrel
                have hml := HM.out.len HC.out.pos
                have hyn := HC.out.lt y HM.out.inQ
                have hyn' : (y : Int) < (g.n : Int) := by omega
                obtain ⟨K, hK⟩ : ∃ K, (s :: m.reverse).length = K := ⟨_, rfl⟩
                have HK : Hid ((s :: m.reverse).length = K) := hK
                have hKm : K = m.length + 1 := by rw [← hK]; simp
                have hKb : K ≤ 4098 := by omega
                rw [hK] at hc
                have hbs := hbl.size
                clear hK hKm hml
                by_cases hys : y = s
                · have hne : ((y : Int) != (s : Int)) = false := by rw [hys]; simp
                  have HMs : Hid (MInv g s P Q s m) := hid_mk' (by have h := HM.out; rw [hys] at h; exact h)
                  have hown1 := hc.alloc (.cells #[nv s] 3)
                  have hnews := World.news_of_block (cs := #[nv s]) (t := 3) (fr := (0, 0)) (heap_alloc_new wr (.cells #[nv s] 3))
                  clear hys
                  go_wp2_with (at_builtin; refine wpList_append_lies _ rfl _ _ 28 rfl V.heap.size 3 i0 _ 1 8 Try.underlying28 hi0 hz0 hz1 hz2 rfl (by omega) u11 K ((s :: m.reverse).map nv) rfl hown1 ⟨wr.heap.size, 0, none⟩ 1 1 [nv s] rfl rfl hnews (by simp [Value.oneCell', nv]) (by omega) (by unfold maxLen; omega) (by omega) (by rw [Deep.nblk_alloc]; omega) (wr.heap.size + 1) (by rw [Deep.nblk_alloc]) ?_; intro g5 cap5 w5 hown5 hgrow5 hat5 hlt5)
                  have hb5 : Below V.heap.size V w5 := (hbl.alloc (by omega) _).grown hgrow5 (by rw [Deep.nblk_alloc]; omega) (fun k hk => (hc.lt k hk).1)
                  have hlen : (s :: m.reverse ++ [s]).length = K + 1 := by rw [← HK.out]; simp
                  have hg5 := (hown5.lt g5 rfl).1
                  refine (reverseInts_n V.heap.size g5 cap5 (K + 1) (s :: m.reverse ++ [s]) w5 hlen (by omega) (by omega) (by simpa using hown5)).mono ?_
                  rintro e w6 ⟨⟨ev, rfl⟩, hown6, hgrow6⟩
                  have hrv : (s :: m.reverse ++ [s]).reverse = s :: (m ++ [s]) := by simp
                  rw [hrv] at hown6
                  have hcl : (s :: (m ++ [s])).length = K + 1 := by rw [← hrv, List.length_reverse]; exact hlen
                  have hcyc := HMs.out.cyc HC.out hwf HS.out.1
                  have hb6 : Below V.heap.size V w6 := hb5.grown hgrow6 hb5.size (fun k hk => by cases hk; exact hg5)
                  have hV1 := hV.below
                  have hbW : Below W.heap.size W w6 := (hb1.trans (hV1.mono hb1.size)).trans (hb6.mono (Nat.le_trans hb1.size hV1.size))
                  have HR : Hid (ThruPost W g s (.returned (.slice (some ⟨g5, 0, none⟩) (K + 1) cap5)) w6) := hid_mk' ⟨g5, cap5, s :: (m ++ [s]), by rw [hcl], by rw [hcl]; exact own_low hown6 (Nat.le_trans hb1.size hV1.size), hcyc, by rw [hcl]; omega, hbW⟩
                  clear hrv hcl hcyc hown6 hown5 hlen
                  go_wp2_with fail
                  go_ret
                  exact HR.out
                · have hne : ((y : Int) != (s : Int)) = true := by rw [bne_iff_ne]; omega
                  obtain ⟨p, hFp, hpQ, hPlt, hEp⟩ := HC.out.par y HM.out.inQ hys
                  have HM2 : Hid (MInv g s P Q p (y :: m)) := HM.out.step hys hpQ hPlt hEp
                  have cy : V.cell? ⟨w1.heap.size, y, none⟩ = some (.int .i64 (p : Int)) := by rw [← hFp]; exact hV.dist.cell hyn
                  have HP : Hid (P p < P y) := hPlt
                  have hown1 := hc.alloc (.cells #[nv y] 3)
                  have hnews := World.news_of_block (cs := #[nv y]) (t := 3) (fr := (0, 0)) (heap_alloc_new wr (.cells #[nv y] 3))
                  clear hys hFp hpQ hPlt hEp
                  go_wp2_with (at_builtin; refine wpList_append_lies _ rfl _ _ 28 rfl V.heap.size 3 i0 _ 1 8 Try.underlying28 hi0 hz0 hz1 hz2 rfl (by omega) u11 K ((s :: m.reverse).map nv) rfl hown1 ⟨wr.heap.size, 0, none⟩ 1 1 [nv y] rfl rfl hnews (by simp [Value.oneCell', nv]) (by omega) (by unfold maxLen; omega) (by omega) (by rw [Deep.nblk_alloc]; omega) (wr.heap.size + 1) (by rw [Deep.nblk_alloc]) ?_; intro g5 cap5 w5 hown5 hgrow5 hat5 hlt5; have hb5 : Below V.heap.size V w5 := (hbl.alloc (by omega) _).grown hgrow5 (by rw [Deep.nblk_alloc]; omega) (fun k hk => (hc.lt k hk).1); have c5 := (hb5.cell (p := ⟨w1.heap.size, y, none⟩) (show w1.heap.size < V.heap.size by omega)).trans cy)
                  go_roundw
                  case rel =>
                    refine ⟨p, y :: m, rfl, HM2, ?_, hb5⟩
                    have e1 : s :: (y :: m).reverse = (s :: m.reverse) ++ [y] := by simp
                    rw [e1, List.length_append, HK.out, List.map_append]
                    exact hown5
                  case measure => simpa [intOf] using HP.out
            · have hxe : ((x : Int) == (s : Int)) = false := beq_eq_false_iff_ne.2 (by omega)
              by_cases hF : F x < 0
              · have fx := hm.dist.frozen x
                have hset := hm.setD x (u : Int)
                have HN : Hid (CInv g s (set F x (u : Int)) (set P x Q.length) (Q ++ [x]) k (j + 1)) := HC.out.push HU.out HX.out hxn hxs hF
                clear hxs
                go_upto_region 26 with fail
                refine wp_world' (fun Y => BMem g.n w1.heap.size w1 (set F x (u : Int)) Q u6 Y) hset ?_
                clear hset hm cx fx cadj
                intro Y hY
                have hown1 := (hY.alloc (.cells #[nv x] 3)).q
                have hsz := hY.size
                have hnews := World.news_of_block (cs := #[nv x]) (t := 3) (fr := (0, 0)) (heap_alloc_new Y (.cells #[nv x] 3))
                go_wp2_with (at_builtin; refine wpList_append_lies _ rfl _ _ 28 rfl (w1.heap.size + 1) 3 i0 _ 1 8 Try.underlying28 hi0 hz0 hz1 hz2 rfl (by omega) u6 Q.length (Q.map nv) rfl hown1 ⟨Y.heap.size, 0, none⟩ 1 1 [nv x] rfl rfl hnews (by simp [Value.oneCell', nv]) (by omega) (by unfold maxLen; omega) (by omega) (by rw [Deep.nblk_alloc]; omega) (Y.heap.size + 1) (by rw [Deep.nblk_alloc]) ?_; intro g5 cap5 w5 hown5 hgrow5 hat5 hlt5)
                go_roundw
                case rel => exact ⟨Q ++ [x], _, _, j + 1, by go_num, by omega, hid_mk' (by rw [List.getElem?_append_left hi]; exact HU.out), HN, (hY.alloc _).grown hgrow5 (by simpa using hown5)⟩
                case measure => simp [intOf]; omega
              · have hF' : 0 ≤ F x := by omega
                have HN : Hid (CInv g s F P Q k (j + 1)) := HC.out.skip HU.out HX.out hxs hF'
                clear hxs
                go_wp2
                go_roundw
                case rel => exact ⟨Q, F, P, j + 1, by go_num, by omega, HU, HN, hm⟩
                case measure => simp [intOf]; omega
          · have hjl' : ¬ ((j : Int) < ((g.nx u).length : Int)) := by omega
            have HN : Hid (CInv g s F P Q (k + 1) 0) := HC.out.next HU.out (by omega)
            go_wp2
            go_roundw
            case rel => exact ⟨Q, F, P, k + 1, by go_num, by omega, HN, hm⟩
            case measure => simp [intOf]; omega

end Go.Proofs.Qxb6601852a
