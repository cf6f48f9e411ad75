/-
  No cell of these rows narrows 'for every input' (looked for: loops, veiled, ifaces, maps, wideKeys, modest, calm, conditions, laid).
  DERIVED. THE GIVEN ROWS OF THIS SEAT. 1 by the template 'for every input the law returns true; each argument reads behind the call as it read before'; 0 by the template 'total and deterministic' (their statements: Qxb6615008aFmtTotals.lean).
  GIVEN WITH THE SEED: the statements are not yours to turn. If you find one false, say at which input.
  Laid BY PROGRAM, IN A SANDBOX (cutbox-rows.mjs): the forced cells as the released guide's own fill.sh prints them over the translation acde435d9a88c397… (all of the seat's roots in one cut). By AI agents, Wed Nov 11 2026. No macro, syntax, notation, axiom, sorry.
-/
import Derived.Test.Qxb6615008aFmtChecked
import GoSem.Claim
import GoSem.ClaimJoined
import GoSem.ClaimMapViews
import Derived.JoinedTies
import Derived.KernelRfl
namespace Go.Proofs.Qxb6615008aFmt
/- THE CELL 'sum', in the pinned program and in every row, IS THE sha256 OF THE DUMP (.gsa) THAT Qxb6615008aFmtProg.lean LOADS. Nothing in Lean hashes anything: it is a label: what it is worth is what the hold of that sum in a sandbox is worth. -/
noncomputable def Tryf.pinned : Pinned := { name := "qxb6615008afmt", sum := "acde435d9a88c397c21944f8174d346baf05a6ea5792e55b61036db634e42458", checked := Tryf.checked }
namespace Rows
def none {H : Type} : Left H := { results := [], args := [] }

/-- 'zzlaws_verdict_b1.FnNewRulesRefusesMatcherlessRules': WHATEVER THE INPUT: true; the input reads as it did. -/
def fnNewRulesRefusesMatcherlessRulesSpec : ChangeSpec := { name := "fnNewRulesRefusesMatcherlessRules", fn := fun _ => fun
  | [d] => { results := [.lit (.bool true)], args := [d] }
  | _ => none }
def fnNewRulesRefusesMatcherlessRulesRow : OpenClaim := { program := "qxb6615008afmt", sum := "acde435d9a88c397c21944f8174d346baf05a6ea5792e55b61036db634e42458", func := "example.com/condverdict/condverdict/zzlaws_verdict_b1.FnNewRulesRefusesMatcherlessRules", spec := "fnNewRulesRefusesMatcherlessRules", stops := ["fmt.errorf"], inPlace := ["fmt.errorf"], unfollowed := true, recurses := true, apart := false }
/-- NO THEOREM (fmt's text is open here; it may be false): for the released tool's asking of the row's closed facts alone. THE STATEMENT IS 'FnNewRulesRefusesMatcherlessRulesToldSaid' (Qxb6615008aFmtCards.lean). -/
def FnNewRulesRefusesMatcherlessRulesFormAsk : Prop := fnNewRulesRefusesMatcherlessRulesRow.holds Tryf.pinned (OpenSpec.ofChange fnNewRulesRefusesMatcherlessRulesSpec)

/-- ITS FALSE NEIGHBOUR: 'it returns false'. Refute it at one input. -/
def fnNewRulesRefusesMatcherlessRulesWrong : ChangeSpec := { name := "fnNewRulesRefusesMatcherlessRules", fn := fun _ => fun
  | [d] => { results := [.lit (.bool false)], args := [d] }
  | _ => none }
def FnNewRulesRefusesMatcherlessRulesWrongFormAsk : Prop := fnNewRulesRefusesMatcherlessRulesRow.holds Tryf.pinned (OpenSpec.ofChange fnNewRulesRefusesMatcherlessRulesWrong)

end Rows
end Go.Proofs.Qxb6615008aFmt
