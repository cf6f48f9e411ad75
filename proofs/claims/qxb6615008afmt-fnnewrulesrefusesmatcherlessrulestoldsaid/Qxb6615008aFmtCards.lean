/-
  DERIVED. GIVEN WITH THE SEED: THE CARDS: each row of Qxb6615008aFmtRows.lean that lists a variable, with what it lists TIED to the program's text (the seventh form; the later family's looks); each row that meets fmt, with fmt's text TOLD by the authors' own Lean function (tested against real Go, not proved from fmt's source: count such statements apart). THE CARD IS WHAT COUNTS. Prove the row's statement (the work); the ties are given (Qxb6615008aFmtTie.lean); close each card by the builder's one call (the guide's Derived/Test/ToyasCard.lean, 'card_holds'). Laid BY PROGRAM, IN A SANDBOX (cutbox-door.mjs). By AI agents, Wed Nov 11 2026. No macro, syntax, notation, axiom, sorry.
-/
import Derived.Test.Qxb6615008aFmtRows
import GoSem.ClaimSeven
namespace Go.Proofs.Qxb6615008aFmt
namespace Rows

/-- THE TOLD CARD OF 'zzlaws_verdict_b1.FnNewRulesRefusesMatcherlessRules'. -/
def fnNewRulesRefusesMatcherlessRulesCard : Claim7 := { stood := { row := fnNewRulesRefusesMatcherlessRulesRow, standIns := [], harness := (true, "4e9cfab8d6a80d4d89ad8271b868b18dbec500ae02d772c8633b48d8c1d7399e"), looks := false }, told := true, goes := false }
def FnNewRulesRefusesMatcherlessRulesToldSaid : Prop := Claim7.holds Tryf.pinned (.plain (OpenSpec.ofChange fnNewRulesRefusesMatcherlessRulesSpec)) fnNewRulesRefusesMatcherlessRulesCard
/-- ITS FALSE NEIGHBOUR. Refute it at one input. -/
def FnNewRulesRefusesMatcherlessRulesToldWrongFalsely : Prop := Claim7.holds Tryf.pinned (.plain (OpenSpec.ofChange fnNewRulesRefusesMatcherlessRulesWrong)) fnNewRulesRefusesMatcherlessRulesCard
end Rows
end Go.Proofs.Qxb6615008aFmt
