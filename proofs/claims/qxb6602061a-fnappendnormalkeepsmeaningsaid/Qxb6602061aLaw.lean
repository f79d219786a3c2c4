import Derived.Test.Qxb6602061aNorm
import Derived.Laws.BytesArg
namespace Go.Proofs.Qxb6602061a
open Go.RowKit

theorem norm19_any (S : ByteArray) (low : Bool) (w : World) (hn0 : S.size ≤ 1048576) : Calls Try.prog 19 #[.slice none 0 0, .string S, .bool low] w (NormPost w low (bl S)) := by
  go_enter Try.func19, Try.ntmps19
  go_wp2_with fail
  refine (norm_any S low w hn0).mono ?_
  rintro e w' ⟨v, D, rfl, hr⟩
  have HR : Hid (NormPost w low (bl S) (.returned v) w') := hid_mk ⟨v, D, rfl, hr⟩
  clear hr
  go_wp2
  go_ret
  exact HR.out

theorem nums_bl : ∀ (D : List Nat), (∀ c, c ∈ D → c < 256) → (D.map (fun c : Nat => (c : Int))).map (fun n => (UInt8.ofNat n.toNat).toNat) = D := by
  intro D
  induction D with
  | nil => intro _; rfl
  | cons c t ih =>
    intro h
    have hc : c < 256 := h c (by simp)
    have ht := ih (fun x hx => h x (by simp [hx]))
    rw [List.map_cons, List.map_cons, ht]
    simp [Nat.mod_eq_of_lt hc]

/-- string(out): the bytes of the slice. -/
theorem conv_row {X : World} {base : Nat} {v : Value} {D : List Nat} (h : X.ownsRow base 5 1 v D.length (D.map bv)) (hb : ∀ c, c ∈ D → c < 256) : ∃ S, (convert 26 9 v).run Try.prog X = .ok (.string S) X ∧ bl S = D := by
  rcases h.2 with ⟨h1, h2⟩ | ⟨g, cap, cur, h1, _⟩
  · refine ⟨ByteArray.empty, ?_, ?_⟩
    · rw [h1]; exact run_convert_bytes_nil X 26 5 Try.underlying26 Try.underlying5 _ _ 9 Try.underlying9
    · have : D = [] := List.eq_nil_of_length_eq_zero h2
      rw [this]; rfl
  · subst h1
    refine ⟨strOfNums (D.map (fun c : Nat => (c : Int))), ?_, ?_⟩
    · refine run_convert_bytes_arg X 26 5 Try.underlying26 Try.underlying5 g 0 D.length cap _ (by simp) ?_ 9 Try.underlying9
      intro i hi
      rw [Nat.zero_add, h.cellAt i (by omega)]
      simp [bv, List.getElem?_eq_getElem hi]
    · unfold bl
      rw [strOfNums_data, List.map_map]
      exact nums_bl D hb

theorem dec_len (l : List Nat) : (dec l).length ≤ l.length := by
  fun_induction dec l with
  | case1 c a b t h ih => simp; omega
  | case2 c a b t h ih => simp at ih ⊢; omega
  | case3 c a => simp
  | case4 c => simp
  | case5 => simp

theorem dec_byte (l : List Nat) (h : ∀ c, c ∈ l → c < 256) : ∀ c, c ∈ dec l → c < 256 := by
  fun_induction dec l with
  | case1 c a b t hh ih =>
    intro x hx
    rcases List.mem_cons.1 hx with rfl | hx
    · have := hv_lt hh.2.1; have := hv_lt hh.2.2; omega
    · exact ih (fun y hy => h y (by simp [hy])) x hx
  | case2 c a b t hh ih =>
    intro x hx
    rcases List.mem_cons.1 hx with rfl | hx
    · exact h x (by simp)
    · exact ih (fun y hy => h y (List.mem_cons_of_mem _ hy)) x hx
  | case3 c a => exact h
  | case4 c => exact h
  | case5 => exact h

theorem bl_byte (S : ByteArray) : ∀ c, c ∈ bl S → c < 256 := by
  intro c hc
  unfold bl at hc
  obtain ⟨u, _, rfl⟩ := List.mem_map.1 hc
  exact UInt8.toNat_lt u

def LawPost (w : World) (e : Ending) (w' : World) : Prop := e = .returned (.bool true) ∧ Below w.heap.size w w'

set_option maxRecDepth 100000 in
set_option maxHeartbeats 10000000 in
theorem law6_any (S : ByteArray) (low : Bool) (w : World) (hS : S.size ≤ 9223372036854775807) : Calls Try.prog 6 #[.string S, .bool low] w (LawPost w) := by
  obtain ⟨n, hN⟩ : ∃ n, S.size = n := ⟨_, rfl⟩
  go_enter Try.func6, Try.ntmps6
  go_wp2_with fail
  refine (zz20_any S low w hS).mono ?_
  rintro e w' ⟨⟨b, rfl⟩, rfl⟩
  have HR0 : Hid (LawPost w (.returned (.bool true)) w) := hid_mk ⟨rfl, Below.refl _ _⟩
  cases b with
  | false =>
    go_wp2
    go_ret
    exact HR0.out
  | true =>
    by_cases hbig : n ≤ 1048576
    · have hbig' : ¬ (1048576 < (n : Int)) := by omega
      go_wp2_with fail
      refine (norm19_any S low w (by omega)).mono ?_
      rintro e w1 ⟨v, D, rfl, hv, hmean, hlen, hbyte, hbel⟩
      obtain ⟨S', hconv, hS'⟩ := conv_row hv hbyte
      have hs' : S'.size ≤ 1048576 := by rw [← bl_len, hS']; rw [bl_len] at hlen; omega
      have HM : Hid ((dec (bl S')).map (lwIf low) = (dec (bl S)).map (lwIf low)) := hid_mk (by rw [hS']; exact hmean)
      have HB1 : Hid (Below w.heap.size w w1) := hbel
      clear hmean hlen hbyte hbel hv hS'
      go_wp2_with fail
      refine (decode_any S' w1 hs').mono ?_
      rintro e w2 ⟨gA, cA, rfl, hoA, hbA⟩
      clear hconv
      have HA := hid_mk hoA
      have HBA := hid_mk hbA
      clear hoA hbA
      go_wp2_with fail
      refine (decode_any S w2 (by omega)).mono ?_
      rintro e w3 ⟨gB, cB, rfl, hoB, hbB⟩
      have hdl : (dec (bl S)).length ≤ n := by have := dec_len (bl S); rw [bl_len] at this; omega
      have hA256 := dec_byte (bl S') (bl_byte S')
      have hB256 := dec_byte (bl S) (bl_byte S)
      have hoA := HA.out
      have hbA := HBA.out
      obtain ⟨A, hA⟩ : ∃ A, dec (bl S') = A := ⟨_, rfl⟩
      obtain ⟨B, hB⟩ : ∃ B, dec (bl S) = B := ⟨_, rfl⟩
      have hM := HM.out
      clear HA HBA HM
      rw [hA] at hA256 hoA hM ⊢
      rw [hB] at hB256 hoB hM hdl ⊢
      have hAB : A.length = B.length := by have := congrArg List.length hM; simpa using this
      obtain ⟨m, hm⟩ : ∃ m, B.length = m := ⟨_, rfl⟩
      rw [hAB] at hoA ⊢
      rw [hm] at hAB hoA hoB hdl ⊢
      have HCA : Hid (∀ (k x : Nat), A[k]? = some x → w3.cell? ⟨gA, k, none⟩ = some (.int .u8 (x : Int))) := by
        intro k x hx
        have hk : k < m := by rw [← hAB]; exact (List.getElem?_eq_some_iff.1 hx).1
        rw [hbB.cell (p := ⟨gA, k, none⟩) (hoA.lt gA rfl).2, hoA.cellAt k (by omega)]
        simp [hx, bv]
      have HCB : Hid (∀ (k x : Nat), B[k]? = some x → w3.cell? ⟨gB, k, none⟩ = some (.int .u8 (x : Int))) := by
        intro k x hx
        have hk : k < m := by rw [← hm]; exact (List.getElem?_eq_some_iff.1 hx).1
        rw [hoB.cellAt k (by omega)]
        simp [hx, bv]
      have HR : Hid (LawPost w (.returned (.bool true)) w3) := hid_mk ⟨rfl, (HB1.out.trans (hbA.mono HB1.out.size)).trans (hbB.mono (Nat.le_trans HB1.out.size hbA.size))⟩
      have HM := hid_mk hM
      have HA2 := hid_mk hA256
      have HB2 := hid_mk hB256
      have HAl := hid_mk hAB
      have HBl := hid_mk hm
      clear hM hA256 hB256 hAB hm hoA hoB hbA hbB HB1 hA hB HR0
      have hm20 : m ≤ 1048576 := by omega
      clear hdl hs'
      go_wp2
      go_loopw [8] (fun i wr => wr = w3 ∧ ∃ k : Nat, k ≤ m ∧ i = .int .i64 (k : Int)) (fun i _ => m - (intOf i).toNat)
      case atStart => exact ⟨rfl, 0, Nat.zero_le _, rfl⟩
      case round =>
        obtain ⟨rfl, k, hk, rfl⟩ := hrel
        by_cases hlt : k < m
        · have hk' : (k : Int) < (m : Int) := by omega
          obtain ⟨x, hx⟩ : ∃ x, A[k]? = some x := ⟨A[k]'(by rw [HAl.out]; omega), List.getElem?_eq_getElem (by rw [HAl.out]; omega)⟩
          obtain ⟨y, hy⟩ : ∃ y, B[k]? = some y := ⟨B[k]'(by rw [HBl.out]; omega), List.getElem?_eq_getElem (by rw [HBl.out]; omega)⟩
          have cx := HCA.out k x hx
          have cy := HCB.out k y hy
          have hx256 := HA2.out x (List.mem_of_getElem? hx)
          have hy256 := HB2.out y (List.mem_of_getElem? hy)
          have hxy : lwIf low x = lwIf low y := by
            have h := congrArg (fun l => l[k]?) HM.out
            simpa [hx, hy] using h
          clear hx hy
          cases low with
          | true =>
            have hxy' : lw x = lw y := hxy
            clear hxy
            go_wp2_with fail
            refine (zzuLower_any x hx256 wr).mono ?_
            rintro e w' ⟨rfl, rfl⟩
            go_wp2_with fail
            refine (zzuLower_any y hy256 wr).mono ?_
            rintro e w' ⟨rfl, rfl⟩
            go_wp2
            go_roundw
            case rel => exact ⟨trivial, k + 1, by omega, by go_num⟩
            case measure => simp [intOf]; omega
          | false =>
            have hxy' : x = y := hxy
            clear hxy
            subst hxy'
            go_wp2
            go_roundw
            case rel => exact ⟨trivial, k + 1, by omega, by go_num⟩
            case measure => simp [intOf]; omega
        · have hk' : ¬ ((k : Int) < (m : Int)) := by omega
          go_wp2
          go_ret
          exact HR.out
    · have hbig' : 1048576 < (n : Int) := by omega
      go_wp2
      go_ret
      exact HR0.out

end Go.Proofs.Qxb6602061a
