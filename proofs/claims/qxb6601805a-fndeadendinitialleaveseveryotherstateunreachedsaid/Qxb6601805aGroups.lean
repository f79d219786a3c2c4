import Derived.Test.Qxb6601805aMaps
import Derived.Test.Qxb6601805aBytes
import Derived.Test.Qxb6601805aPlain
import Derived.Deep.AppendLies
namespace Go.Proofs.Qxb6601805a
open Go.RowKit

def nilS : Value := .slice none 0 0

/-- Where the first k steps lead to from s, in order. -/
def succs (f t : Nat → ByteArray) (k : Nat) (s : ByteArray) : List ByteArray := ((List.range k).filter fun i => decide (f i = s)).map t

theorem succs_succ (f t : Nat → ByteArray) (k : Nat) (s : ByteArray) : succs f t (k + 1) s = upd (succs f t k) (f k) (succs f t k (f k) ++ [t k]) s := by
  unfold upd
  by_cases h : s = f k
  · subst h; simp [succs, List.range_succ]
  · have h' : ¬ f k = s := fun e => h e.symm
    simp [succs, List.range_succ, h, h']

theorem succs_len (f t : Nat → ByteArray) (k : Nat) (s : ByteArray) : (succs f t k s).length ≤ k := by
  have := List.length_filter_le (fun i => decide (f i = s)) (List.range k)
  simpa [succs] using this

theorem mem_succs {f t : Nat → ByteArray} {k : Nat} {s x : ByteArray} : x ∈ succs f t k s ↔ ∃ i, i < k ∧ f i = s ∧ t i = x := by
  simp [succs, List.mem_map, List.mem_filter, and_assoc]

/-- Block B is a map of slices of strings, each in a row of its own from 'base' on. -/
def GroupsAt (w : World) (base B : Nat) (f : ByteArray → Option Value) (g : ByteArray → List ByteArray) : Prop :=
  SMap w B f ∧ (∀ s, w.ownsRow base 9 1 ((f s).getD nilS) (g s).length ((g s).map Value.string)) ∧
  ∀ s s' k, s ≠ s' → ((f s).getD nilS).ownBlock = some k → ((f s').getD nilS).ownBlock ≠ some k

def Groups (w : World) (base B : Nat) (g : ByteArray → List ByteArray) : Prop := ∃ f, GroupsAt w base B f g

theorem Groups.made (w : World) (base : Nat) : Groups (w.alloc (.map #[] 0)) base w.heap.size (fun _ => []) :=
  ⟨fun _ => none, SMap.made w, fun s => World.ownsRow_nil _ _ _ _, fun s s' k _ h => by simp [nilS, Value.ownBlock] at h⟩

theorem GroupsAt.alloc {w : World} {base B : Nat} {f : ByteArray → Option Value} {g : ByteArray → List ByteArray} (h : GroupsAt w base B f g) (o : Obj) : GroupsAt (w.alloc o) base B f g :=
  ⟨h.1.alloc o, fun s => (h.2.1 s).alloc o, h.2.2⟩

theorem grownBy_trans {a b c : World} {row : Option Nat} (h : a.grownBy b row) (k : b.grownBy c row) : a.grownBy c row :=
  ⟨k.os.trans h.os, k.tape.trans h.tape, k.output.trans h.output, Nat.le_trans h.size k.size, fun i hi hn => (k.block i (Nat.lt_of_lt_of_le hi h.size) hn).trans (h.block i hi hn)⟩

theorem GroupsAt.step {w w1 : World} {base B : Nat} {f : ByteArray → Option Value} {g : ByteArray → List ByteArray} (h : GroupsAt w base B f g) (s0 x : ByteArray) {v' : Value}
    (hg : w.grownBy w1 ((f s0).getD nilS).ownBlock) (hown : w1.ownsRow base 9 1 v' ((g s0).length + 1) ((g s0).map Value.string ++ [.string x]))
    (hat : v'.ownBlock = ((f s0).getD nilS).ownBlock ∨ ∃ k, v'.ownBlock = some k ∧ w.heap.size ≤ k) :
    SMap w1 B f ∧ GroupsAt (putMap w1 B s0 v') base B (upd f s0 (some v')) (upd g s0 (g s0 ++ [x])) := by
  obtain ⟨hm, hr, hd⟩ := h
  have hm1 : SMap w1 B f := hm.grown hg (hm.ne_row (hr s0))
  refine ⟨hm1, hm1.put s0 v', fun s => ?_, fun s s' k hne hk => ?_⟩
  · unfold upd
    by_cases e : s = s0
    · subst e
      simp only [if_true, Option.getD_some]
      have := hown.kept (putMap_grown hm1 s v') (.inr (fun hh => (hm1.ne_row hown) hh.symm))
      simpa using this
    · simp only [e, if_false]
      have h1 : w1.ownsRow base 9 1 ((f s).getD nilS) (g s).length ((g s).map Value.string) := by
        refine (hr s).kept hg ?_
        cases hb : ((f s).getD nilS).ownBlock with
        | none => exact .inl rfl
        | some k => exact .inr (fun hh => hd s s0 k e hb hh.symm)
      exact h1.kept (putMap_grown hm1 s0 v') (.inr (fun hh => (hm1.ne_row h1) hh.symm))
  · unfold upd at hk ⊢
    by_cases e : s = s0
    · subst e
      have e' : ¬ s' = s := fun h => hne h.symm
      simp only [if_true, Option.getD_some] at hk
      simp only [e', if_false]
      intro hk'
      rcases hat with ha | ⟨k2, ha, hk2⟩
      · rw [ha] at hk; exact hd s s' k hne hk hk'
      · rw [ha] at hk; cases hk
        have := ((hr s').lt k hk').2
        omega
    · simp only [e, if_false] at hk
      by_cases e' : s' = s0
      · subst e'
        simp only [if_true, Option.getD_some]
        intro hk'
        rcases hat with ha | ⟨k2, ha, hk2⟩
        · rw [ha] at hk'; exact hd s s' k hne hk hk'
        · rw [ha] at hk'; cases hk'
          have := ((hr s).lt k hk).2
          omega
      · simp only [e', if_false]
        exact hd s s' k hne hk

theorem zero22 (w : World) : (zeroValue 22).run Try.prog w = .ok nilS w := by kernel_rfl

theorem look50 {w : World} {B : Nat} {f : ByteArray → Option Value} (h : SMap w B f) (s : ByteArray) : (Instr.lookup 50 (.map (some B)) (.string s) false).run Try.prog w = .ok ((f s).getD nilS) w :=
  h.lookup (P := Try.prog) (T := 50) (K := 9) (E := 22) Try.underlying50 Try.underlying9 (zero22 w) s

theorem put50 {w : World} {B : Nat} {f : ByteArray → Option Value} (h : SMap w B f) (s : ByteArray) (v : Value) : (Instr.mapUpdate 50 (.map (some B)) (.string s) v).run Try.prog w = .ok () (putMap w B s v) :=
  h.run_put (P := Try.prog) (T := 50) (K := 9) (E := 22) Try.underlying50 Try.underlying9 s v

end Go.Proofs.Qxb6601805a
