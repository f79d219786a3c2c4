namespace Go.Proofs.Qxb6601805a

/-- s is in every set that holds i and is closed under the n steps 'f k to t k'. -/
def Reach (n : Nat) (f t : Nat → ByteArray) (i s : ByteArray) : Prop :=
  ∀ S : ByteArray → Prop, S i → (∀ k, k < n → S (f k) → S (t k)) → S s

theorem Reach.start {n : Nat} {f t : Nat → ByteArray} {i : ByteArray} : Reach n f t i i := fun _ h _ => h
theorem Reach.step {n : Nat} {f t : Nat → ByteArray} {i : ByteArray} {k : Nat} (hk : k < n) (h : Reach n f t i (f k)) : Reach n f t i (t k) := fun S h0 h1 => h1 k hk (h S h0 h1)

/-- What has been marked is reached. -/
def Sound (n : Nat) (f t : Nat → ByteArray) (i : ByteArray) (r : ByteArray → Bool) : Prop := ∀ s, r s = true → Reach n f t i s
/-- The marks are closed under the steps below j. -/
def ClosedTo (f t : Nat → ByteArray) (r : ByteArray → Bool) (j : Nat) : Prop := ∀ k, k < j → r (f k) = true → r (t k) = true

theorem reach_iff {n : Nat} {f t : Nat → ByteArray} {i : ByteArray} {r : ByteArray → Bool} (h0 : r i = true) (h1 : Sound n f t i r) (h2 : ClosedTo f t r n) (s : ByteArray) : r s = true ↔ Reach n f t i s :=
  ⟨h1 s, fun h => h (fun s => r s = true) h0 h2⟩

def mark (r : ByteArray → Bool) (s : ByteArray) (s' : ByteArray) : Bool := if s' = s then true else r s'

theorem mark_self (r : ByteArray → Bool) (s : ByteArray) : mark r s s = true := by simp [mark]
theorem mark_of {r : ByteArray → Bool} {s s' : ByteArray} (h : r s' = true) : mark r s s' = true := by unfold mark; split <;> simp_all
theorem mark_cases {r : ByteArray → Bool} {s s' : ByteArray} (h : mark r s s' = true) : s' = s ∨ r s' = true := by
  unfold mark at h
  split at h
  · exact .inl (by assumption)
  · exact .inr h

theorem Sound.mark {n : Nat} {f t : Nat → ByteArray} {i : ByteArray} {r : ByteArray → Bool} (h : Sound n f t i r) {s : ByteArray} (hs : Reach n f t i s) : Sound n f t i (mark r s) := by
  intro s' h'
  rcases mark_cases h' with rfl | h'
  · exact hs
  · exact h s' h'

/-- How many of the n steps lead to a marked state. -/
def cnt (n : Nat) (t : Nat → ByteArray) (r : ByteArray → Bool) : Nat := ((List.range n).filter fun k => r (t k)).length

theorem cnt_le (n : Nat) (t : Nat → ByteArray) (r : ByteArray → Bool) : cnt n t r ≤ n := by
  have := List.length_filter_le (fun k => r (t k)) (List.range n)
  simpa [cnt] using this

theorem cnt_mono (n : Nat) (t : Nat → ByteArray) {r r' : ByteArray → Bool} (h : ∀ s, r s = true → r' s = true) : cnt n t r ≤ cnt n t r' := by
  induction n with
  | zero => simp [cnt]
  | succ n ih =>
    simp only [cnt, List.range_succ, List.filter_append, List.length_append] at ih ⊢
    have : ((List.filter (fun k => r (t k)) [n]).length) ≤ (List.filter (fun k => r' (t k)) [n]).length := by
      cases hr : r (t n) with
      | false => simp [hr]
      | true => simp [hr, h _ hr]
    omega

theorem cnt_mark (n : Nat) (t : Nat → ByteArray) {r : ByteArray → Bool} {k : Nat} (hk : k < n) (h : r (t k) = false) : cnt n t r + 1 ≤ cnt n t (mark r (t k)) := by
  induction n with
  | zero => omega
  | succ n ih =>
    simp only [cnt, List.range_succ, List.filter_append, List.length_append] at ih ⊢
    by_cases hkn : k = n
    · subst hkn
      have h1 := cnt_mono k t (r := r) (r' := mark r (t k)) (fun s hs => mark_of hs)
      simp only [cnt] at h1
      simp only [List.filter_cons, List.filter_nil, h, mark_self, Bool.false_eq_true, if_false, if_true, List.length_nil, List.length_cons]
      omega
    · have h1 := ih (by omega)
      have : ((List.filter (fun k => r (t k)) [n]).length) ≤ (List.filter (fun j => mark r (t k) (t j)) [n]).length := by
        cases hr : r (t n) with
        | false => simp [hr]
        | true => simp [hr, mark_of hr]
      omega

end Go.Proofs.Qxb6601805a
