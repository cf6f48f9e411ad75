/-
  No cell of these rows narrows 'for every input' (looked for: loops, veiled, ifaces, maps, wideKeys, modest, calm, conditions, laid).
  DERIVED. THE GIVEN ROWS OF THIS SEAT. 4 by the template 'for every input the law returns true; each argument reads behind the call as it read before'; 0 by the template 'total and deterministic' (their statements: Qxb6615042aTotals.lean).
  GIVEN WITH THE SEED: the statements are not yours to turn. If you find one false, say at which input.
  Laid BY PROGRAM, IN A SANDBOX (cutbox-rows.mjs): the forced cells as the released guide's own fill.sh prints them over the translation 3c897d326ea940ee… (all of the seat's roots in one cut). By AI agents, Wed Nov 11 2026. No macro, syntax, notation, axiom, sorry.
-/
import Derived.Test.Qxb6615042aChecked
import GoSem.Claim
import GoSem.ClaimJoined
import GoSem.ClaimMapViews
import Derived.JoinedTies
import Derived.KernelRfl
namespace Go.Proofs.Qxb6615042a
/- THE CELL 'sum', in the pinned program and in every row, IS THE sha256 OF THE DUMP (.gsa) THAT Qxb6615042aProg.lean LOADS. Nothing in Lean hashes anything: it is a label: what it is worth is what the hold of that sum in a sandbox is worth. -/
noncomputable def Try.pinned : Pinned := { name := "qxb6615042a", sum := "3c897d326ea940ee166faf047e2be807d47a3b0de1a599bac736b837384d0e18", checked := Try.checked }
namespace Rows
def none {H : Type} : Left H := { results := [], args := [] }

/-- 'zzlaws_flags_b1.FnNewContextTargetingKeyIsJustTheAttribute': WHATEVER THE INPUT: true; the input reads as it did. -/
def fnNewContextTargetingKeyIsJustTheAttributeSpec : ChangeSpec := { name := "fnNewContextTargetingKeyIsJustTheAttribute", fn := fun _ => fun
  | [d1, d2, d3] => { results := [.lit (.bool true)], args := [d1, d2, d3] }
  | _ => none }
def fnNewContextTargetingKeyIsJustTheAttributeRow : OpenClaim := { program := "qxb6615042a", sum := "3c897d326ea940ee166faf047e2be807d47a3b0de1a599bac736b837384d0e18", func := "example.com/rheostat/rheostat/zzlaws_flags_b1.FnNewContextTargetingKeyIsJustTheAttribute", spec := "fnNewContextTargetingKeyIsJustTheAttribute", apart := false }
def FnNewContextTargetingKeyIsJustTheAttributeSaid : Prop := fnNewContextTargetingKeyIsJustTheAttributeRow.holds Try.pinned (OpenSpec.ofChange fnNewContextTargetingKeyIsJustTheAttributeSpec)

/-- ITS FALSE NEIGHBOUR: 'it returns false'. Refute it at one input. -/
def fnNewContextTargetingKeyIsJustTheAttributeWrong : ChangeSpec := { name := "fnNewContextTargetingKeyIsJustTheAttribute", fn := fun _ => fun
  | [d1, d2, d3] => { results := [.lit (.bool false)], args := [d1, d2, d3] }
  | _ => none }
def FnNewContextTargetingKeyIsJustTheAttributeWrongFalsely : Prop := fnNewContextTargetingKeyIsJustTheAttributeRow.holds Try.pinned (OpenSpec.ofChange fnNewContextTargetingKeyIsJustTheAttributeWrong)

/-- 'zzlaws_flags_b1.FnNewContextCopiesAttrsAndOverridesTheKey': WHATEVER THE INPUT: true; the input reads as it did. -/
def fnNewContextCopiesAttrsAndOverridesTheKeySpec : ChangeSpec := { name := "fnNewContextCopiesAttrsAndOverridesTheKey", fn := fun _ => fun
  | [d1, d2, d3, d4] => { results := [.lit (.bool true)], args := [d1, d2, d3, d4] }
  | _ => none }
def fnNewContextCopiesAttrsAndOverridesTheKeyRow : OpenClaim := { program := "qxb6615042a", sum := "3c897d326ea940ee166faf047e2be807d47a3b0de1a599bac736b837384d0e18", func := "example.com/rheostat/rheostat/zzlaws_flags_b1.FnNewContextCopiesAttrsAndOverridesTheKey", spec := "fnNewContextCopiesAttrsAndOverridesTheKey", apart := false }
def FnNewContextCopiesAttrsAndOverridesTheKeySaid : Prop := fnNewContextCopiesAttrsAndOverridesTheKeyRow.holds Try.pinned (OpenSpec.ofChange fnNewContextCopiesAttrsAndOverridesTheKeySpec)

/-- ITS FALSE NEIGHBOUR: 'it returns false'. Refute it at one input. -/
def fnNewContextCopiesAttrsAndOverridesTheKeyWrong : ChangeSpec := { name := "fnNewContextCopiesAttrsAndOverridesTheKey", fn := fun _ => fun
  | [d1, d2, d3, d4] => { results := [.lit (.bool false)], args := [d1, d2, d3, d4] }
  | _ => none }
def FnNewContextCopiesAttrsAndOverridesTheKeyWrongFalsely : Prop := fnNewContextCopiesAttrsAndOverridesTheKeyRow.holds Try.pinned (OpenSpec.ofChange fnNewContextCopiesAttrsAndOverridesTheKeyWrong)

/-- 'zzlaws_flags_b1.FnMergeIsTheKeyOrderedUnionWithBroughtWinning': WHATEVER THE INPUT: true; the input reads as it did. -/
def fnMergeIsTheKeyOrderedUnionWithBroughtWinningSpec : ChangeSpec := { name := "fnMergeIsTheKeyOrderedUnionWithBroughtWinning", fn := fun _ => fun
  | [d1, d2] => { results := [.lit (.bool true)], args := [d1, d2] }
  | _ => none }
def fnMergeIsTheKeyOrderedUnionWithBroughtWinningRow : OpenClaim := { program := "qxb6615042a", sum := "3c897d326ea940ee166faf047e2be807d47a3b0de1a599bac736b837384d0e18", func := "example.com/rheostat/rheostat/zzlaws_flags_b1.FnMergeIsTheKeyOrderedUnionWithBroughtWinning", spec := "fnMergeIsTheKeyOrderedUnionWithBroughtWinning", apart := false }
def FnMergeIsTheKeyOrderedUnionWithBroughtWinningSaid : Prop := fnMergeIsTheKeyOrderedUnionWithBroughtWinningRow.holds Try.pinned (OpenSpec.ofChange fnMergeIsTheKeyOrderedUnionWithBroughtWinningSpec)

/-- ITS FALSE NEIGHBOUR: 'it returns false'. Refute it at one input. -/
def fnMergeIsTheKeyOrderedUnionWithBroughtWinningWrong : ChangeSpec := { name := "fnMergeIsTheKeyOrderedUnionWithBroughtWinning", fn := fun _ => fun
  | [d1, d2] => { results := [.lit (.bool false)], args := [d1, d2] }
  | _ => none }
def FnMergeIsTheKeyOrderedUnionWithBroughtWinningWrongFalsely : Prop := fnMergeIsTheKeyOrderedUnionWithBroughtWinningRow.holds Try.pinned (OpenSpec.ofChange fnMergeIsTheKeyOrderedUnionWithBroughtWinningWrong)

/-- 'zzlaws_flags_b1.FnMergeLayersAssociatively': WHATEVER THE INPUT: true; the input reads as it did. -/
def fnMergeLayersAssociativelySpec : ChangeSpec := { name := "fnMergeLayersAssociatively", fn := fun _ => fun
  | [d1, d2, d3] => { results := [.lit (.bool true)], args := [d1, d2, d3] }
  | _ => none }
def fnMergeLayersAssociativelyRow : OpenClaim := { program := "qxb6615042a", sum := "3c897d326ea940ee166faf047e2be807d47a3b0de1a599bac736b837384d0e18", func := "example.com/rheostat/rheostat/zzlaws_flags_b1.FnMergeLayersAssociatively", spec := "fnMergeLayersAssociatively", apart := false }
def FnMergeLayersAssociativelySaid : Prop := fnMergeLayersAssociativelyRow.holds Try.pinned (OpenSpec.ofChange fnMergeLayersAssociativelySpec)

/-- ITS FALSE NEIGHBOUR: 'it returns false'. Refute it at one input. -/
def fnMergeLayersAssociativelyWrong : ChangeSpec := { name := "fnMergeLayersAssociatively", fn := fun _ => fun
  | [d1, d2, d3] => { results := [.lit (.bool false)], args := [d1, d2, d3] }
  | _ => none }
def FnMergeLayersAssociativelyWrongFalsely : Prop := fnMergeLayersAssociativelyRow.holds Try.pinned (OpenSpec.ofChange fnMergeLayersAssociativelyWrong)

end Rows
end Go.Proofs.Qxb6615042a
