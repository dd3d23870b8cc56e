/-
  No cell of these rows narrows 'for every input' (looked for: loops, veiled, ifaces, maps, wideKeys, modest, calm, conditions, laid).
  DERIVED. THE GIVEN ROWS OF THIS SEAT. 5 by the template 'for every input the law returns true; each argument reads behind the call as it read before'; 0 by the template 'total and deterministic' (their statements: YoebjwTotals.lean).
  GIVEN WITH THE SEED: the statements are not yours to turn. If you find one false, say at which input.
  Laid BY PROGRAM, IN A SANDBOX (cutbox-rows.mjs): the forced cells as the released guide's own fill.sh prints them over the translation 57d510d61bf672fd… (all of the seat's roots in one cut). By AI agents, Wed Nov 11 2026. No macro, syntax, notation, axiom, sorry.
-/
import Derived.Test.YoebjwChecked
import GoSem.Claim
import GoSem.ClaimJoined
import GoSem.ClaimMapViews
import Derived.JoinedTies
import Derived.KernelRfl
namespace Go.Proofs.Yoebjw
/- THE CELL 'sum', in the pinned program and in every row, IS THE sha256 OF THE DUMP (.gsa) THAT YoebjwProg.lean LOADS. Nothing in Lean hashes anything: it is a label: what it is worth is what the hold of that sum in a sandbox is worth. -/
noncomputable def Ebjg.pinned : Pinned := { name := "yoebjw", sum := "57d510d61bf672fde057affd060b56d0fed8de8ecba71b86eb92920915f4b56a", checked := Ebjg.checked }
namespace Rows
def none {H : Type} : Left H := { results := [], args := [] }

/-- 'zzlaws_root_b2.FnMapIteratorStringKeepsPosition': WHATEVER THE INPUT: true; the input reads as it did. -/
def fnMapIteratorStringKeepsPositionSpec : ChangeSpec := { name := "fnMapIteratorStringKeepsPosition", fn := fun _ => fun
  | [d1, d2] => { results := [.lit (.bool true)], args := [d1, d2] }
  | _ => none }
def fnMapIteratorStringKeepsPositionRow : OpenClaim := { program := "yoebjw", sum := "57d510d61bf672fde057affd060b56d0fed8de8ecba71b86eb92920915f4b56a", func := "github.com/d5/tengo/v2/zzlaws_root_b2.FnMapIteratorStringKeepsPosition", spec := "fnMapIteratorStringKeepsPosition", apart := false }
def FnMapIteratorStringKeepsPositionSaid : Prop := fnMapIteratorStringKeepsPositionRow.holds Ebjg.pinned (OpenSpec.ofChange fnMapIteratorStringKeepsPositionSpec)

/-- ITS FALSE NEIGHBOUR: 'it returns false'. Refute it at one input. -/
def fnMapIteratorStringKeepsPositionWrong : ChangeSpec := { name := "fnMapIteratorStringKeepsPosition", fn := fun _ => fun
  | [d1, d2] => { results := [.lit (.bool false)], args := [d1, d2] }
  | _ => none }
def FnMapIteratorStringKeepsPositionWrongFalsely : Prop := fnMapIteratorStringKeepsPositionRow.holds Ebjg.pinned (OpenSpec.ofChange fnMapIteratorStringKeepsPositionWrong)

/-- 'zzlaws_root_b2.FnMapIteratorIsFalsyKeepsPosition': WHATEVER THE INPUT: true; the input reads as it did. -/
def fnMapIteratorIsFalsyKeepsPositionSpec : ChangeSpec := { name := "fnMapIteratorIsFalsyKeepsPosition", fn := fun _ => fun
  | [d1, d2] => { results := [.lit (.bool true)], args := [d1, d2] }
  | _ => none }
def fnMapIteratorIsFalsyKeepsPositionRow : OpenClaim := { program := "yoebjw", sum := "57d510d61bf672fde057affd060b56d0fed8de8ecba71b86eb92920915f4b56a", func := "github.com/d5/tengo/v2/zzlaws_root_b2.FnMapIteratorIsFalsyKeepsPosition", spec := "fnMapIteratorIsFalsyKeepsPosition", apart := false }
def FnMapIteratorIsFalsyKeepsPositionSaid : Prop := fnMapIteratorIsFalsyKeepsPositionRow.holds Ebjg.pinned (OpenSpec.ofChange fnMapIteratorIsFalsyKeepsPositionSpec)

/-- ITS FALSE NEIGHBOUR: 'it returns false'. Refute it at one input. -/
def fnMapIteratorIsFalsyKeepsPositionWrong : ChangeSpec := { name := "fnMapIteratorIsFalsyKeepsPosition", fn := fun _ => fun
  | [d1, d2] => { results := [.lit (.bool false)], args := [d1, d2] }
  | _ => none }
def FnMapIteratorIsFalsyKeepsPositionWrongFalsely : Prop := fnMapIteratorIsFalsyKeepsPositionRow.holds Ebjg.pinned (OpenSpec.ofChange fnMapIteratorIsFalsyKeepsPositionWrong)

/-- 'zzlaws_root_b2.FnMapIteratorEqualsIrreflexiveThroughDrain': WHATEVER THE INPUT: true; the input reads as it did. -/
def fnMapIteratorEqualsIrreflexiveThroughDrainSpec : ChangeSpec := { name := "fnMapIteratorEqualsIrreflexiveThroughDrain", fn := fun _ => fun
  | [d1, d2] => { results := [.lit (.bool true)], args := [d1, d2] }
  | _ => none }
def fnMapIteratorEqualsIrreflexiveThroughDrainRow : OpenClaim := { program := "yoebjw", sum := "57d510d61bf672fde057affd060b56d0fed8de8ecba71b86eb92920915f4b56a", func := "github.com/d5/tengo/v2/zzlaws_root_b2.FnMapIteratorEqualsIrreflexiveThroughDrain", spec := "fnMapIteratorEqualsIrreflexiveThroughDrain", apart := false }
def FnMapIteratorEqualsIrreflexiveThroughDrainSaid : Prop := fnMapIteratorEqualsIrreflexiveThroughDrainRow.holds Ebjg.pinned (OpenSpec.ofChange fnMapIteratorEqualsIrreflexiveThroughDrainSpec)

/-- ITS FALSE NEIGHBOUR: 'it returns false'. Refute it at one input. -/
def fnMapIteratorEqualsIrreflexiveThroughDrainWrong : ChangeSpec := { name := "fnMapIteratorEqualsIrreflexiveThroughDrain", fn := fun _ => fun
  | [d1, d2] => { results := [.lit (.bool false)], args := [d1, d2] }
  | _ => none }
def FnMapIteratorEqualsIrreflexiveThroughDrainWrongFalsely : Prop := fnMapIteratorEqualsIrreflexiveThroughDrainRow.holds Ebjg.pinned (OpenSpec.ofChange fnMapIteratorEqualsIrreflexiveThroughDrainWrong)

/-- 'zzlaws_root_b2.FnMapIteratorCopyIsSamePositionAndKeys': WHATEVER THE INPUT: true; the input reads as it did. -/
def fnMapIteratorCopyIsSamePositionAndKeysSpec : ChangeSpec := { name := "fnMapIteratorCopyIsSamePositionAndKeys", fn := fun _ => fun
  | [d1, d2] => { results := [.lit (.bool true)], args := [d1, d2] }
  | _ => none }
def fnMapIteratorCopyIsSamePositionAndKeysRow : OpenClaim := { program := "yoebjw", sum := "57d510d61bf672fde057affd060b56d0fed8de8ecba71b86eb92920915f4b56a", func := "github.com/d5/tengo/v2/zzlaws_root_b2.FnMapIteratorCopyIsSamePositionAndKeys", spec := "fnMapIteratorCopyIsSamePositionAndKeys", apart := false }
def FnMapIteratorCopyIsSamePositionAndKeysSaid : Prop := fnMapIteratorCopyIsSamePositionAndKeysRow.holds Ebjg.pinned (OpenSpec.ofChange fnMapIteratorCopyIsSamePositionAndKeysSpec)

/-- ITS FALSE NEIGHBOUR: 'it returns false'. Refute it at one input. -/
def fnMapIteratorCopyIsSamePositionAndKeysWrong : ChangeSpec := { name := "fnMapIteratorCopyIsSamePositionAndKeys", fn := fun _ => fun
  | [d1, d2] => { results := [.lit (.bool false)], args := [d1, d2] }
  | _ => none }
def FnMapIteratorCopyIsSamePositionAndKeysWrongFalsely : Prop := fnMapIteratorCopyIsSamePositionAndKeysRow.holds Ebjg.pinned (OpenSpec.ofChange fnMapIteratorCopyIsSamePositionAndKeysWrong)

/-- 'zzlaws_root_b2.FnMapIteratorCopyAdvancesIndependently': WHATEVER THE INPUT: true; the input reads as it did. -/
def fnMapIteratorCopyAdvancesIndependentlySpec : ChangeSpec := { name := "fnMapIteratorCopyAdvancesIndependently", fn := fun _ => fun
  | [d1, d2, d3] => { results := [.lit (.bool true)], args := [d1, d2, d3] }
  | _ => none }
def fnMapIteratorCopyAdvancesIndependentlyRow : OpenClaim := { program := "yoebjw", sum := "57d510d61bf672fde057affd060b56d0fed8de8ecba71b86eb92920915f4b56a", func := "github.com/d5/tengo/v2/zzlaws_root_b2.FnMapIteratorCopyAdvancesIndependently", spec := "fnMapIteratorCopyAdvancesIndependently", apart := false }
def FnMapIteratorCopyAdvancesIndependentlySaid : Prop := fnMapIteratorCopyAdvancesIndependentlyRow.holds Ebjg.pinned (OpenSpec.ofChange fnMapIteratorCopyAdvancesIndependentlySpec)

/-- ITS FALSE NEIGHBOUR: 'it returns false'. Refute it at one input. -/
def fnMapIteratorCopyAdvancesIndependentlyWrong : ChangeSpec := { name := "fnMapIteratorCopyAdvancesIndependently", fn := fun _ => fun
  | [d1, d2, d3] => { results := [.lit (.bool false)], args := [d1, d2, d3] }
  | _ => none }
def FnMapIteratorCopyAdvancesIndependentlyWrongFalsely : Prop := fnMapIteratorCopyAdvancesIndependentlyRow.holds Ebjg.pinned (OpenSpec.ofChange fnMapIteratorCopyAdvancesIndependentlyWrong)

end Rows
end Go.Proofs.Yoebjw
