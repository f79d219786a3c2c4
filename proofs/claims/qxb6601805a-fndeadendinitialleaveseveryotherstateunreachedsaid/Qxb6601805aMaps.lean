import Derived.Test.Qxb6601805aProg
import Derived.WalkKit
import Derived.Maps.Own
import Derived.MapKept
import Derived.Deep.OwnRows
namespace Go.Proofs.Qxb6601805a
open Go.RowKit Go.MapKept

theorem beq_str (a b : ByteArray) : (a == b) = decide (a = b) := by
  cases a with | mk x => cases b with | mk y =>
  show (x == y) = _
  by_cases h : x = y
  · subst h; simp
  · simp [h]

/-- Is the key the string s? -/
def keyIs (v : Value) (s : ByteArray) : Bool := match v with | .string t => decide (t = s) | _ => false

theorem keyIs_iff (v : Value) (s : ByteArray) : keyIs v s = true ↔ v = .string s := by
  unfold keyIs
  split
  · rename_i t; simp
  · rename_i h; simp; intro e; exact h s e

/-- The first entry at the key s. -/
def mfind : List MapEntry → ByteArray → Option Value
  | [], _ => none
  | e :: es, s => if keyIs e.key s then some e.val else mfind es s

def putObj (es : Array MapEntry) (clock : Nat) (s : ByteArray) (v : Value) : Obj :=
  match Instr.findNow .string (.string s) es.toList 0 with
  | some (some (i, _)) => .map (es.modify i fun e => { e with key := .string s, val := v }) clock
  | _ => .map (es.push { key := .string s, val := v, born := clock }) (clock + 1)

/-- The world behind 'm[s] = v', the map m in block B. -/
def putMap (w : World) (B : Nat) (s : ByteArray) (v : Value) : World :=
  match w.heap[B]? with
  | some (.map es clock) => { w with heap := w.heap.setIfInBounds B (putObj es clock s v) }
  | _ => w

/-- Block B is a map keyed by strings that reads as f. -/
def SMap (w : World) (B : Nat) (f : ByteArray → Option Value) : Prop :=
  ∃ es clock, w.heap[B]? = some (.map es clock) ∧ (∀ e ∈ es.toList, ∃ s, e.key = .string s) ∧ ∀ s, mfind es.toList s = f s

def upd {α : Type} (f : ByteArray → α) (s : ByteArray) (v : α) (s' : ByteArray) : α := if s' = s then v else f s'

theorem SMap.lt {w : World} {B : Nat} {f : ByteArray → Option Value} (h : SMap w B f) : B < w.heap.size := by
  obtain ⟨es, c, hb, _⟩ := h
  exact (Array.getElem?_eq_some_iff.1 hb).1

theorem SMap.of_block {w w' : World} {B : Nat} {f : ByteArray → Option Value} (h : SMap w B f) (e : w'.heap[B]? = w.heap[B]?) : SMap w' B f := by
  obtain ⟨es, c, hb, r⟩ := h
  exact ⟨es, c, e.trans hb, r⟩

theorem SMap.congr {w : World} {B : Nat} {f g : ByteArray → Option Value} (h : SMap w B f) (e : ∀ s, f s = g s) : SMap w B g := by
  obtain ⟨es, c, hb, h1, h2⟩ := h
  exact ⟨es, c, hb, h1, fun s => (h2 s).trans (e s)⟩

theorem SMap.made (w : World) : SMap (w.alloc (.map #[] 0)) w.heap.size (fun _ => none) :=
  ⟨#[], 0, by show (w.heap.push _)[w.heap.size]? = _; simp, by simp, fun s => rfl⟩

/-- No row of cells lies in the map's block. -/
theorem SMap.ne_cell {w : World} {B : Nat} {f : ByteArray → Option Value} (h : SMap w B f) {a : Addr} {v : Value} (hc : w.cell? a = some v) : a.block ≠ B := by
  intro e
  obtain ⟨es, c, hb, _⟩ := h
  simp [World.cell?, e, hb] at hc

/-- The look-up finds the first entry. -/
theorem findNow_str (s : ByteArray) : ∀ (es : List MapEntry) (i : Nat), (∀ e ∈ es, ∃ s, e.key = .string s) →
    (mfind es s = none ∧ Instr.findNow .string (.string s) es i = some none ∧ ∀ e ∈ es, e.key ≠ .string s) ∨
    (∃ j v, Instr.findNow .string (.string s) es i = some (some (i + j, v)) ∧ mfind es s = some v ∧ (∀ k, k < j → ∀ e, es[k]? = some e → e.key ≠ .string s) ∧ ∃ e, es[j]? = some e ∧ e.key = .string s)
  | [], i, _ => .inl ⟨rfl, rfl, by simp⟩
  | e :: es, i, hk => by
    obtain ⟨s0, h0⟩ := hk e (by simp)
    by_cases h : s = s0
    · subst h
      refine .inr ⟨0, e.val, ?_, ?_, fun k hk => by omega, e, rfl, h0⟩
      · simp [Instr.findNow, Instr.sameNow, h0, beq_str]
      · simp [mfind, h0, keyIs]
    · have hne : e.key ≠ .string s := by rw [h0]; intro h'; cases h'; exact h rfl
      have hk0 : keyIs e.key s = false := by
        cases hh : keyIs e.key s with
        | false => rfl
        | true => exact absurd ((keyIs_iff _ _).1 hh) hne
      rcases findNow_str s es (i + 1) (fun e he => hk e (by simp [he])) with ⟨h1, h2, h3⟩ | ⟨j, v, h1, h2, h4, e', h5, h6⟩
      · refine .inl ⟨?_, ?_, ?_⟩
        · simp [mfind, hk0, h1]
        · simp [Instr.findNow, Instr.sameNow, h0, beq_str, h, h2]
        · intro x hx
          rcases List.mem_cons.1 hx with rfl | hx
          · exact hne
          · exact h3 x hx
      · refine .inr ⟨j + 1, v, ?_, ?_, fun k hk => ?_, e', by simpa using h5, h6⟩
        · simp [Instr.findNow, Instr.sameNow, h0, beq_str, h, h1]; omega
        · simp [mfind, hk0, h2]
        · match k with
          | 0 => intro x hx; simp at hx; subst hx; exact hne
          | k + 1 => intro x hx; exact h4 k (by omega) x (by simpa using hx)

theorem getElem?_modify_key (es : List MapEntry) (j : Nat) (s : ByteArray) (v : Value) : ∀ (s' : ByteArray), (∀ k, k < j → ∀ e, es[k]? = some e → e.key ≠ .string s) → (∃ e, es[j]? = some e ∧ e.key = .string s) →
    mfind (es.modify j fun e => { e with key := .string s, val := v }) s' = if s' = s then some v else mfind es s' := by
  induction es generalizing j with
  | nil => intro s' _ h; obtain ⟨e, h, _⟩ := h; simp at h
  | cons x xs ih =>
    intro s' h1 h2
    match j with
    | 0 =>
      obtain ⟨e, h2, h3⟩ := h2
      simp at h2
      subst h2
      simp only [List.modify_zero_cons, mfind, keyIs]
      by_cases h : s' = s
      · subst h; simp
      · have h' : ¬ s = s' := fun e => h e.symm
        simp [h, h3, h']
    | j + 1 =>
      have hx : x.key ≠ .string s := h1 0 (by omega) x rfl
      have := ih j s' (fun k hk e he => h1 (k + 1) (by omega) e (by simpa using he)) (by obtain ⟨e, h2, h3⟩ := h2; exact ⟨e, by simpa using h2, h3⟩)
      simp only [List.modify_succ_cons, mfind, this]
      by_cases h : s' = s
      · subst h
        have hk : keyIs x.key s' = false := by
          cases hh : keyIs x.key s' with
          | false => rfl
          | true => exact absurd ((keyIs_iff _ _).1 hh) hx
        simp [hk]
      · simp [h]

theorem mfind_append (l : List MapEntry) (s : ByteArray) (e : MapEntry) : mfind (l ++ [e]) s = (mfind l s).or (if keyIs e.key s then some e.val else none) := by
  induction l with
  | nil => simp [mfind]
  | cons x xs ih =>
    simp only [List.cons_append, mfind, ih]
    split <;> simp

section
variable {P : Program} {T K E : TypeId} {w : World} {B : Nat} {f : ByteArray → Option Value}

theorem SMap.lookup (h : SMap w B f) (hT : P.underlying T = some (.map K E)) (hK : P.underlying K = some .string) {z : Value} (hz : (zeroValue E).run P w = .ok z w) (s : ByteArray) :
    (Instr.lookup T (.map (some B)) (.string s) false).run P w = .ok ((f s).getD z) w := by
  obtain ⟨es, c, hb, hk, hf⟩ := h
  rw [← hf s]
  have hck := run_checkKey (P := P) (w := w) hK (k := .string s) trivial es.isEmpty 9999
  rcases findNow_str s es.toList 0 hk with ⟨h1, h2, _⟩ | ⟨j, v, h1, h2, _⟩
  · have hfk := run_findKey (P := P) (w := w) (k := .string s) hK h2
    simp only [Instr.lookup, Sem.run_bind, run_underlying hT, Result.andThen, MapKept.run_getObj_map hb, hck, hfk, hz, Sem.run_pure, h1, Option.getD]
    rfl
  · have hfk := run_findKey (P := P) (w := w) (k := .string s) hK h1
    simp only [Instr.lookup, Sem.run_bind, run_underlying hT, Result.andThen, MapKept.run_getObj_map hb, hck, hfk, Sem.run_pure, h2, Option.getD]
    rfl

theorem SMap.run_put (h : SMap w B f) (hT : P.underlying T = some (.map K E)) (hK : P.underlying K = some .string) (s : ByteArray) (v : Value) :
    (Instr.mapUpdate T (.map (some B)) (.string s) v).run P w = .ok () (putMap w B s v) := by
  obtain ⟨es, c, hb, hk, hf⟩ := h
  have hck := run_checkKey (P := P) (w := w) hK (k := .string s) trivial false 9999
  rcases findNow_str s es.toList 0 hk with ⟨h1, h2, _⟩ | ⟨j, v0, h1, h2, _, e, h5, h6⟩
  · have hfk := run_findKey (P := P) (w := w) (k := .string s) hK h2
    simp only [Instr.mapUpdate, Sem.run_bind, run_underlying hT, Result.andThen, MapKept.run_getObj_map hb, hck, hfk, MapKept.run_setObj_map _ hb, putMap, hb, putObj, h2]
  · have h5' : es[j]? = some e := by simpa using h5
    have hfk := run_findKey (P := P) (w := w) (k := .string s) hK h1
    have hst := run_keyThatStays (P := P) (w := w) (d := .string) (k := .string s) trivial
    simp only [Nat.zero_add] at hfk h1
    simp only [Instr.mapUpdate, Sem.run_bind, run_underlying hT, Result.andThen, MapKept.run_getObj_map hb, hck, hfk, h5', Option.map_some, Option.getD, h6, hst, MapKept.run_setObj_map _ hb, putMap, hb, putObj, h1]

theorem putMap_block (h : SMap w B f) (s : ByteArray) (v : Value) : ∀ k, k ≠ B → (putMap w B s v).heap[k]? = w.heap[k]? := by
  intro k hk
  obtain ⟨es, c, hb, _⟩ := h
  simp only [putMap, hb]
  exact (heap_set hb).2 k hk

theorem putMap_size (w : World) (B : Nat) (s : ByteArray) (v : Value) : (putMap w B s v).heap.size = w.heap.size := by
  unfold putMap
  split <;> simp

theorem SMap.put (h : SMap w B f) (s : ByteArray) (v : Value) : SMap (putMap w B s v) B (upd f s (some v)) := by
  obtain ⟨es, c, hb, hk, hf⟩ := h
  simp only [SMap, putMap, hb]
  rw [(heap_set hb).1]
  rcases findNow_str s es.toList 0 hk with ⟨h1, h2, h3⟩ | ⟨j, v0, h1, h2, h4, e, h5, h6⟩
  · simp only [putObj, h2]
    refine ⟨_, _, rfl, ?_, fun s' => ?_⟩
    · intro e he
      simp at he
      rcases he with he | rfl
      · exact hk e (by simpa using he)
      · exact ⟨s, rfl⟩
    · simp only [Array.toList_push, mfind_append, keyIs, upd]
      by_cases hs : s' = s
      · subst hs; simp [h1]
      · have hs' : ¬ s = s' := fun e => hs e.symm
        simp [hs, hs', hf s']
  · simp only [Nat.zero_add] at h1
    simp only [putObj, h1]
    refine ⟨_, _, rfl, ?_, fun s' => ?_⟩
    · intro x hx
      simp only [Array.toList_modify] at hx
      obtain ⟨i, hi, rfl⟩ := List.mem_iff_getElem.1 hx
      rw [List.getElem_modify]
      split
      · exact ⟨s, rfl⟩
      · exact hk _ (List.getElem_mem _)
    · simp only [Array.toList_modify, upd]
      rw [getElem?_modify_key es.toList j s v s' h4 ⟨e, h5, h6⟩, hf s']

theorem putMap_grown (h : SMap w B f) (s : ByteArray) (v : Value) : w.grownBy (putMap w B s v) (some B) := by
  have hb := putMap_block h s v
  have hs := putMap_size w B s v
  obtain ⟨es, c, hbb, _⟩ := h
  refine ⟨?_, ?_, ?_, by omega, fun k _ hk => hb k (fun e => hk (by rw [e]))⟩ <;> simp [putMap, hbb]
end

theorem SMap.alloc {w : World} {B : Nat} {f : ByteArray → Option Value} (h : SMap w B f) (o : Obj) : SMap (w.alloc o) B f := h.of_block (Deep.blk_alloc_lt _ _ _ h.lt)
theorem SMap.drew {w : World} {B : Nat} {f : ByteArray → Option Value} (h : SMap w B f) : SMap w.drew B f := h
theorem SMap.grown {w w' : World} {B : Nat} {f : ByteArray → Option Value} {row : Option Nat} (h : SMap w B f) (hg : w.grownBy w' row) (hne : some B ≠ row) : SMap w' B f := h.of_block (hg.block B h.lt hne)
theorem SMap.below {w w' : World} {B C : Nat} {f : ByteArray → Option Value} (h : SMap w B f) (hg : Below C w w') (hB : B < C) : SMap w' B f := h.of_block (hg.block B hB)
theorem SMap.setCell {w : World} {B : Nat} {f : ByteArray → Option Value} (h : SMap w B f) {a : Addr} (ha : B ≠ a.block) (v : Value) : SMap (w.setCell a v) B f := h.of_block (Deep.blk_setCell_other _ _ _ _ ha)
/-- The row of a slice that is owned is not the map's block. -/
theorem SMap.ne_row {w : World} {B : Nat} {f : ByteArray → Option Value} (h : SMap w B f) {base : Nat} {e : TypeId} {size : Nat} {v : Value} {n : Nat} {xs : List Value} (ho : w.ownsRow base e size v n xs) : some B ≠ v.ownBlock := by
  intro hh
  obtain ⟨es, c, hb, _⟩ := h
  rcases ho.2 with ⟨rfl, _⟩ | ⟨g, cap, cur, rfl, _, hg, _⟩
  · simp [Value.ownBlock] at hh
  · simp [Value.ownBlock] at hh
    subst hh
    rw [hb] at hg
    cases hg

end Go.Proofs.Qxb6601805a
