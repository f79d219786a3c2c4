/-
  No cell of these rows narrows 'for every input' (looked for: loops, veiled, ifaces, maps, wideKeys, modest, calm, conditions, laid).
  DERIVED. THE GIVEN ROWS OF THIS SEAT. 3 by the template 'for every input the law returns true; each argument reads behind the call as it read before'; 0 by the template 'total and deterministic' (their statements: Qxb6601805aTotals.lean).
  GIVEN WITH THE SEED: the statements are not yours to turn. If you find one false, say at which input.
  Laid BY PROGRAM, IN A SANDBOX (cutbox-rows.mjs): the forced cells as the released guide's own fill.sh prints them over the translation f31b57106917d3d9… (all of the seat's roots in one cut). By AI agents, Wed Nov 11 2026. No macro, syntax, notation, axiom, sorry.
-/
import Derived.Test.Qxb6601805aChecked
import GoSem.Claim
import GoSem.ClaimJoined
import GoSem.ClaimMapViews
import Derived.JoinedTies
import Derived.KernelRfl
namespace Go.Proofs.Qxb6601805a
/- THE CELL 'sum', in the pinned program and in every row, IS THE sha256 OF THE DUMP (.gsa) THAT Qxb6601805aProg.lean LOADS. Nothing in Lean hashes anything: it is a label: what it is worth is what the hold of that sum in a sandbox is worth. -/
noncomputable def Try.pinned : Pinned := { name := "qxb6601805a", sum := "f31b57106917d3d948a0c7765f8ab57cfb8eddcc004ca85ac6c2a5b96e4f8e03", checked := Try.checked }
namespace Rows
def none {H : Type} : Left H := { results := [], args := [] }

/-- 'zzlaws_pkg_lifecycle_b1.FnUnreachableIsTheSortedUnreachedStates': WHATEVER THE INPUT: true; the input reads as it did. -/
def fnUnreachableIsTheSortedUnreachedStatesSpec : ChangeSpec := { name := "fnUnreachableIsTheSortedUnreachedStates", fn := fun _ => fun
  | [d1, d2, d3, d4, d5] => { results := [.lit (.bool true)], args := [d1, d2, d3, d4, d5] }
  | _ => none }
def fnUnreachableIsTheSortedUnreachedStatesRow : OpenClaim := { program := "qxb6601805a", sum := "f31b57106917d3d948a0c7765f8ab57cfb8eddcc004ca85ac6c2a5b96e4f8e03", func := "example.com/regesta/regesta/zzlaws_pkg_lifecycle_b1.FnUnreachableIsTheSortedUnreachedStates", spec := "fnUnreachableIsTheSortedUnreachedStates", recurses := true, apart := false }
def FnUnreachableIsTheSortedUnreachedStatesSaid : Prop := fnUnreachableIsTheSortedUnreachedStatesRow.holds Try.pinned (OpenSpec.ofChange fnUnreachableIsTheSortedUnreachedStatesSpec)

/-- ITS FALSE NEIGHBOUR: 'it returns false'. Refute it at one input. -/
def fnUnreachableIsTheSortedUnreachedStatesWrong : ChangeSpec := { name := "fnUnreachableIsTheSortedUnreachedStates", fn := fun _ => fun
  | [d1, d2, d3, d4, d5] => { results := [.lit (.bool false)], args := [d1, d2, d3, d4, d5] }
  | _ => none }
def FnUnreachableIsTheSortedUnreachedStatesWrongFalsely : Prop := fnUnreachableIsTheSortedUnreachedStatesRow.holds Try.pinned (OpenSpec.ofChange fnUnreachableIsTheSortedUnreachedStatesWrong)

/-- 'zzlaws_pkg_lifecycle_b1.FnUnreachableNeverGrowsWithATransition': WHATEVER THE INPUT: true; the input reads as it did. -/
def fnUnreachableNeverGrowsWithATransitionSpec : ChangeSpec := { name := "fnUnreachableNeverGrowsWithATransition", fn := fun _ => fun
  | [d1, d2, d3, d4, d5, d6] => { results := [.lit (.bool true)], args := [d1, d2, d3, d4, d5, d6] }
  | _ => none }
def fnUnreachableNeverGrowsWithATransitionRow : OpenClaim := { program := "qxb6601805a", sum := "f31b57106917d3d948a0c7765f8ab57cfb8eddcc004ca85ac6c2a5b96e4f8e03", func := "example.com/regesta/regesta/zzlaws_pkg_lifecycle_b1.FnUnreachableNeverGrowsWithATransition", spec := "fnUnreachableNeverGrowsWithATransition", recurses := true, apart := false }
def FnUnreachableNeverGrowsWithATransitionSaid : Prop := fnUnreachableNeverGrowsWithATransitionRow.holds Try.pinned (OpenSpec.ofChange fnUnreachableNeverGrowsWithATransitionSpec)

/-- ITS FALSE NEIGHBOUR: 'it returns false'. Refute it at one input. -/
def fnUnreachableNeverGrowsWithATransitionWrong : ChangeSpec := { name := "fnUnreachableNeverGrowsWithATransition", fn := fun _ => fun
  | [d1, d2, d3, d4, d5, d6] => { results := [.lit (.bool false)], args := [d1, d2, d3, d4, d5, d6] }
  | _ => none }
def FnUnreachableNeverGrowsWithATransitionWrongFalsely : Prop := fnUnreachableNeverGrowsWithATransitionRow.holds Try.pinned (OpenSpec.ofChange fnUnreachableNeverGrowsWithATransitionWrong)

/-- 'zzlaws_pkg_lifecycle_b1.FnDeadEndInitialLeavesEveryOtherStateUnreached': WHATEVER THE INPUT: true; the input reads as it did. -/
def fnDeadEndInitialLeavesEveryOtherStateUnreachedSpec : ChangeSpec := { name := "fnDeadEndInitialLeavesEveryOtherStateUnreached", fn := fun _ => fun
  | [d1, d2, d3, d4, d5] => { results := [.lit (.bool true)], args := [d1, d2, d3, d4, d5] }
  | _ => none }
def fnDeadEndInitialLeavesEveryOtherStateUnreachedRow : OpenClaim := { program := "qxb6601805a", sum := "f31b57106917d3d948a0c7765f8ab57cfb8eddcc004ca85ac6c2a5b96e4f8e03", func := "example.com/regesta/regesta/zzlaws_pkg_lifecycle_b1.FnDeadEndInitialLeavesEveryOtherStateUnreached", spec := "fnDeadEndInitialLeavesEveryOtherStateUnreached", recurses := true, apart := false }
def FnDeadEndInitialLeavesEveryOtherStateUnreachedSaid : Prop := fnDeadEndInitialLeavesEveryOtherStateUnreachedRow.holds Try.pinned (OpenSpec.ofChange fnDeadEndInitialLeavesEveryOtherStateUnreachedSpec)

/-- ITS FALSE NEIGHBOUR: 'it returns false'. Refute it at one input. -/
def fnDeadEndInitialLeavesEveryOtherStateUnreachedWrong : ChangeSpec := { name := "fnDeadEndInitialLeavesEveryOtherStateUnreached", fn := fun _ => fun
  | [d1, d2, d3, d4, d5] => { results := [.lit (.bool false)], args := [d1, d2, d3, d4, d5] }
  | _ => none }
def FnDeadEndInitialLeavesEveryOtherStateUnreachedWrongFalsely : Prop := fnDeadEndInitialLeavesEveryOtherStateUnreachedRow.holds Try.pinned (OpenSpec.ofChange fnDeadEndInitialLeavesEveryOtherStateUnreachedWrong)

end Rows
end Go.Proofs.Qxb6601805a
