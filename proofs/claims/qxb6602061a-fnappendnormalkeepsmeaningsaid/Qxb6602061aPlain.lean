namespace Go.Proofs.Qxb6602061a

/-! ### Percent-encodings, plain: bytes as numbers -/
def dig (c : Nat) : Bool := decide (48 ≤ c) && decide (c ≤ 57)
def hexd (c : Nat) : Bool := dig c || (decide (97 ≤ c) && decide (c ≤ 102)) || (decide (65 ≤ c) && decide (c ≤ 70))
def hv (c : Nat) : Nat := if dig c = true then c - 48 else if 97 ≤ c ∧ c ≤ 102 then c - 87 else c - 55
def lw (c : Nat) : Nat := if 65 ≤ c ∧ c ≤ 90 then c + 32 else c
def lett (c : Nat) : Bool := (decide (97 ≤ c) && decide (c ≤ 122)) || (decide (65 ≤ c) && decide (c ≤ 90))
def unres (c : Nat) : Bool := lett c || dig c || decide (c = 45) || decide (c = 46) || decide (c = 95) || decide (c = 126)
def lwIf (b : Bool) (c : Nat) : Nat := if b = true then lw c else c
def uh (d : Nat) : Nat := if d < 10 then 48 + d else 55 + d

theorem hexd_iff (c : Nat) : hexd c = true ↔ (48 ≤ c ∧ c ≤ 57) ∨ (97 ≤ c ∧ c ≤ 102) ∨ (65 ≤ c ∧ c ≤ 70) := by
  simp [hexd, dig, or_assoc]
theorem hexd_lw (c : Nat) : hexd (lw c) = hexd c := by
  rw [Bool.eq_iff_iff, hexd_iff, hexd_iff]
  unfold lw
  split <;> omega
theorem hexd_lwIf (b : Bool) (c : Nat) : hexd (lwIf b c) = hexd c := by
  unfold lwIf; split
  · exact hexd_lw c
  · rfl
theorem lw_lw (c : Nat) : lw (lw c) = lw c := by
  unfold lw
  by_cases h : 65 ≤ c ∧ c ≤ 90
  · rw [if_pos h, if_neg (by omega)]
  · rw [if_neg h, if_neg h]
theorem lwIf_lwIf (b : Bool) (c : Nat) : lwIf b (lwIf b c) = lwIf b c := by
  unfold lwIf; split
  · exact lw_lw c
  · rfl
theorem lw_lt {c : Nat} (h : c < 256) : lw c < 256 := by unfold lw; split <;> omega
theorem lwIf_lt {b : Bool} {c : Nat} (h : c < 256) : lwIf b c < 256 := by
  unfold lwIf; split
  · exact lw_lt h
  · exact h
theorem lwIf_ne {b : Bool} {c : Nat} (h : c ≠ 37) : lwIf b c ≠ 37 := by
  unfold lwIf lw; split
  · split <;> omega
  · exact h
theorem hv_lt {c : Nat} (h : hexd c = true) : hv c < 16 := by
  rw [hexd_iff] at h
  unfold hv dig
  simp only [Bool.and_eq_true, decide_eq_true_eq]
  split
  · omega
  · split <;> omega
theorem uh_hex {d : Nat} (h : d < 16) : hexd (uh d) = true := by
  rw [hexd_iff]; unfold uh; split <;> omega
theorem hv_uh {d : Nat} (h : d < 16) : hv (uh d) = d := by
  unfold hv uh dig
  simp only [Bool.and_eq_true, decide_eq_true_eq]
  split
  · split
    · omega
    · omega
  · split
    · omega
    · split <;> omega
theorem uh_lt {d : Nat} (h : d < 16) : uh d < 256 := by unfold uh; split <;> omega
theorem unres_ne {c : Nat} (h : unres c = true) : c ≠ 37 := by
  intro e; subst e; revert h; decide
theorem not_hex_37 : hexd 37 = false := by decide

/-- Percent-decoding. -/
def dec : List Nat → List Nat
  | c :: a :: b :: t => if c = 37 ∧ hexd a = true ∧ hexd b = true then (16 * hv a + hv b) :: dec t else c :: dec (a :: b :: t)
  | c :: a :: [] => c :: a :: []
  | c :: [] => c :: []
  | [] => []

/-- R begins with two hex digits. -/
def two : List Nat → Bool
  | a :: b :: _ => hexd a && hexd b
  | _ => false
/-- R begins with a hex digit. -/
def one : List Nat → Bool
  | a :: _ => hexd a
  | _ => false

theorem dec_lit {c : Nat} {r : List Nat} (h : c = 37 → two r = false) : dec (c :: r) = c :: dec r := by
  match r with
  | [] => rfl
  | [a] => rfl
  | a :: b :: t =>
    rw [dec, if_neg]
    rintro ⟨e, ha, hb⟩
    have := h e
    simp [two, ha, hb] at this

theorem dec_enc {a b : Nat} {t : List Nat} (ha : hexd a = true) (hb : hexd b = true) : dec (37 :: a :: b :: t) = (16 * hv a + hv b) :: dec t := by
  rw [dec, if_pos ⟨rfl, ha, hb⟩]

/-- What may follow: 0: anything; 1: no two hex digits; 2: no hex digit. -/
def okR (st : Nat) (R : List Nat) : Prop := (st = 1 → two R = false) ∧ (st = 2 → one R = false)

theorem okR_zero (R : List Nat) : okR 0 R := ⟨fun h => by omega, fun h => by omega⟩
theorem okR_cons_not {st : Nat} {c : Nat} {R : List Nat} (h : hexd c = false) : okR st (c :: R) := by
  refine ⟨fun _ => ?_, fun _ => h⟩
  cases R with
  | nil => rfl
  | cons b t => simp [two, h]

/-- The state behind D. -/
def stOf (D : List Nat) (T : Int) : Nat := if 0 ≤ T then (if T = (D.length : Int) - 1 then 1 else if T = (D.length : Int) - 2 ∧ hexd (D.getD (D.length - 1) 0) = true then 2 else 0) else 0

/-- i bytes of l have been taken, D has been laid, the last stray lies at T. -/
structure NInv (low : Bool) (l : List Nat) (i : Nat) (D : List Nat) (T : Int) : Prop where
  lo : -1 ≤ T
  hi : T < D.length
  len : D.length ≤ i
  byte : ∀ c, c ∈ D → c < 256
  means : ∃ U V, dec l = U ++ dec (l.drop i) ∧ V.map (lwIf low) = U.map (lwIf low) ∧ ∀ R, okR (stOf D T) R → dec (D ++ R) = V ++ dec R
  ok : okR (stOf D T) (l.drop i)

theorem ninv_start (low : Bool) (l : List Nat) : NInv low l 0 [] (-1) := by
  refine ⟨by omega, by simp, by simp, by simp, ⟨[], [], rfl, rfl, fun R _ => rfl⟩, ?_⟩
  have : stOf [] (-1) = 0 := by simp [stOf]
  rw [this]; exact okR_zero _

theorem stOf_snoc (D : List Nat) (T : Int) (c : Nat) (hT : T < D.length) : stOf (D ++ [c]) T = if stOf D T = 1 then (if hexd c = true then 2 else 0) else 0 := by
  unfold stOf
  simp only [List.length_append, List.length_cons, List.length_nil]
  by_cases h0 : 0 ≤ T
  · rw [if_pos h0, if_pos h0, if_neg (by omega)]
    by_cases h1 : T = (D.length : Int) - 1
    · rw [if_pos h1, if_pos rfl]
      have e : (D ++ [c]).getD (D.length + (0 + 1) - 1) 0 = c := by simp [List.getD]
      rw [e]
      by_cases hc : hexd c = true
      · rw [if_pos ⟨by omega, hc⟩, if_pos hc]
      · rw [if_neg (fun h => hc h.2), if_neg hc]
    · rw [if_neg (by omega)]
      rw [if_neg h1]
      split <;> rw [if_neg (by omega)]
  · rw [if_neg h0, if_neg h0, if_neg (by omega)]

variable {low : Bool} {l : List Nat} {i : Nat} {D : List Nat} {T : Int}

theorem drop_at {c : Nat} (h : l[i]? = some c) : l.drop i = c :: l.drop (i + 1) := by
  obtain ⟨h1, h2⟩ := List.getElem?_eq_some_iff.1 h
  rw [List.drop_eq_getElem_cons h1, h2]

/-- A byte that is no '%'. -/
theorem NInv.lit (h : NInv low l i D T) {c : Nat} (hc : l[i]? = some c) (hne : c ≠ 37) (hb : c < 256) : NInv low l (i + 1) (D ++ [lwIf low c]) T := by
  obtain ⟨U, V, h1, h2, h3⟩ := h.means
  have hd := drop_at hc
  have hok := h.ok
  rw [hd] at hok
  have hst := stOf_snoc D T (lwIf low c) h.hi
  have hl := h.len
  rw [hexd_lwIf] at hst
  refine ⟨h.lo, ?_, ?_, ?_, ⟨U ++ [c], V ++ [lwIf low c], ?_, ?_, fun R hR => ?_⟩, ?_⟩
  · rw [List.length_append]; have := h.hi; simp; omega
  · rw [List.length_append]; simp; omega
  · intro x hx
    rcases List.mem_append.1 hx with hx | hx
    · exact h.byte x hx
    · simp at hx; rw [hx]; exact lwIf_lt hb
  · rw [h1, hd, dec_lit (fun e => absurd e hne)]; simp
  · simp [h2, lwIf_lwIf]
  · rw [List.append_assoc]
    have : okR (stOf D T) ([lwIf low c] ++ R) := by
      by_cases hx : hexd c = true
      · refine ⟨fun e => ?_, fun e => ?_⟩
        · rw [hst, if_pos e, if_pos hx] at hR
          have := hR.2 rfl
          cases R with
          | nil => rfl
          | cons b t => simp only [one] at this; simp [two, this]
        · have := hok.2 e
          simp only [one] at this
          rw [hx] at this; cases this
      · exact okR_cons_not (by rw [hexd_lwIf]; simpa using hx)
    rw [h3 _ this]
    rw [List.singleton_append, dec_lit (fun e => absurd e (lwIf_ne hne))]
    simp
  · rw [hst]
    by_cases e : stOf D T = 1
    · rw [if_pos e]
      by_cases hx : hexd c = true
      · rw [if_pos hx]
        refine ⟨fun h => by omega, fun _ => ?_⟩
        have := hok.1 e
        cases hr : l.drop (i + 1) with
        | nil => rfl
        | cons b t => rw [hr] at this; simpa [two, one, hx] using this
      · rw [if_neg hx]; exact okR_zero _
    · rw [if_neg e]; exact okR_zero _

/-- A '%' that begins no encoding. -/
theorem NInv.stray (h : NInv low l i D T) (hc : l[i]? = some 37) (hs : two (l.drop (i + 1)) = false) : NInv low l (i + 1) (D ++ [37]) (D.length : Int) := by
  obtain ⟨U, V, h1, h2, h3⟩ := h.means
  have hd := drop_at hc
  have hl := h.len
  have hst : stOf (D ++ [37]) (D.length : Int) = 1 := by
    unfold stOf
    rw [if_pos (by omega), if_pos (by rw [List.length_append]; simp)]
  refine ⟨by omega, by rw [List.length_append, List.length_cons, List.length_nil]; omega, by rw [List.length_append]; simp; omega, ?_, ⟨U ++ [37], V ++ [37], ?_, ?_, fun R hR => ?_⟩, ?_⟩
  · intro x hx
    rcases List.mem_append.1 hx with hx | hx
    · exact h.byte x hx
    · simp at hx; omega
  · rw [h1, hd, dec_lit (fun _ => hs)]; simp
  · simp [h2]
  · have e := h3 (37 :: R) (okR_cons_not not_hex_37)
    rw [hst] at hR
    rw [dec_lit (fun _ => hR.1 rfl)] at e
    rw [List.append_assoc, List.singleton_append, e]
    simp
  · rw [hst]; exact ⟨fun _ => hs, fun h => by omega⟩

/-- An encoding whose byte is laid bare. -/
theorem NInv.bare (h : NInv low l i D T) {a b : Nat} (hd : l.drop i = 37 :: a :: b :: l.drop (i + 3)) (ha : hexd a = true) (hb : hexd b = true) (hu : unres (16 * hv a + hv b) = true) (hn : stOf D T = 0 ∨ hexd (16 * hv a + hv b) = false) :
    NInv low l (i + 3) (D ++ [lwIf low (16 * hv a + hv b)]) T := by
  obtain ⟨U, V, h1, h2, h3⟩ := h.means
  obtain ⟨v, hv'⟩ : ∃ v, 16 * hv a + hv b = v := ⟨_, rfl⟩
  have hvlt : v < 256 := by have := hv_lt ha; have := hv_lt hb; omega
  rw [hv'] at hu hn ⊢
  have hl := h.len
  have hst := stOf_snoc D T (lwIf low v) h.hi
  rw [hexd_lwIf] at hst
  have hst0 : stOf (D ++ [lwIf low v]) T = 0 := by
    rw [hst]
    rcases hn with h0 | h0
    · rw [if_neg (by omega)]
    · rw [h0]; split <;> rfl
  refine ⟨h.lo, ?_, ?_, ?_, ⟨U ++ [v], V ++ [lwIf low v], ?_, ?_, fun R hR => ?_⟩, ?_⟩
  · rw [List.length_append]; have := h.hi; simp; omega
  · rw [List.length_append]; simp; omega
  · intro x hx
    rcases List.mem_append.1 hx with hx | hx
    · exact h.byte x hx
    · simp at hx; rw [hx]; exact lwIf_lt hvlt
  · rw [h1, hd, dec_enc ha hb, hv']; simp
  · simp [h2, lwIf_lwIf]
  · rw [List.append_assoc]
    have : okR (stOf D T) ([lwIf low v] ++ R) := by
      rcases hn with h0 | h0
      · rw [h0]; exact okR_zero _
      · exact okR_cons_not (by rw [hexd_lwIf]; exact h0)
    rw [h3 _ this]
    rw [List.singleton_append, dec_lit (fun e => absurd e (lwIf_ne (unres_ne hu)))]
    simp
  · rw [hst0]; exact okR_zero _

/-- An encoding that stays one. -/
theorem NInv.kept (h : NInv low l i D T) {a b : Nat} (hd : l.drop i = 37 :: a :: b :: l.drop (i + 3)) (ha : hexd a = true) (hb : hexd b = true) :
    NInv low l (i + 3) (D ++ [37, uh ((16 * hv a + hv b) / 16), uh ((16 * hv a + hv b) % 16)]) T := by
  obtain ⟨U, V, h1, h2, h3⟩ := h.means
  have q1 : (16 * hv a + hv b) / 16 < 16 := by have := hv_lt ha; have := hv_lt hb; omega
  have q2 : (16 * hv a + hv b) % 16 < 16 := by omega
  have hl := h.len
  have hi := h.hi
  have hst0 : stOf (D ++ [37, uh ((16 * hv a + hv b) / 16), uh ((16 * hv a + hv b) % 16)]) T = 0 := by
    unfold stOf
    simp only [List.length_append, List.length_cons, List.length_nil]
    by_cases h0 : 0 ≤ T
    · rw [if_pos h0, if_neg (by omega), if_neg (by omega)]
    · rw [if_neg h0]
  refine ⟨h.lo, ?_, ?_, ?_, ⟨U ++ [16 * hv a + hv b], V ++ [16 * hv a + hv b], ?_, ?_, fun R hR => ?_⟩, ?_⟩
  · rw [List.length_append]; simp; omega
  · rw [List.length_append]; simp; omega
  · intro x hx
    rcases List.mem_append.1 hx with hx | hx
    · exact h.byte x hx
    · simp only [List.mem_cons, List.not_mem_nil, or_false] at hx
      rcases hx with rfl | rfl | rfl
      · omega
      · exact uh_lt q1
      · exact uh_lt q2
  · rw [h1, hd, dec_enc ha hb]; simp
  · simp [h2]
  · have e := h3 (37 :: uh ((16 * hv a + hv b) / 16) :: uh ((16 * hv a + hv b) % 16) :: R) (okR_cons_not not_hex_37)
    rw [dec_enc (uh_hex q1) (uh_hex q2), hv_uh q1, hv_uh q2] at e
    have : 16 * ((16 * hv a + hv b) / 16) + (16 * hv a + hv b) % 16 = 16 * hv a + hv b := by omega
    rw [this] at e
    rw [List.append_assoc]
    refine Eq.trans e ?_
    simp
  · rw [hst0]; exact okR_zero _

theorem NInv.result (h : NInv low l i D T) (hi : l.length ≤ i) : (dec D).map (lwIf low) = (dec l).map (lwIf low) := by
  obtain ⟨U, V, h1, h2, h3⟩ := h.means
  have hd : l.drop i = [] := List.drop_eq_nil_of_le hi
  have := h3 [] ⟨fun _ => rfl, fun _ => rfl⟩
  rw [List.append_nil] at this
  rw [this, h1, hd]
  simp [dec, h2]

end Go.Proofs.Qxb6602061a
