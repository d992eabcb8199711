/-
  DERIVED. GIVEN WITH THE SEED: THE CARDS: each row of Qxb6614982aFmtRows.lean that lists a variable, with what it lists TIED to the program's text (the seventh form; the later family's looks); each row that meets fmt, with fmt's text TOLD by the authors' own Lean function (tested against real Go, not proved from fmt's source: count such statements apart). THE CARD IS WHAT COUNTS. Prove the row's statement (the work); the ties are given (Qxb6614982aFmtTie.lean); close each card by the builder's one call (the guide's Derived/Test/ToyasCard.lean, 'card_holds'). Laid BY PROGRAM, IN A SANDBOX (cutbox-door.mjs). By AI agents, Wed Nov 11 2026. No macro, syntax, notation, axiom, sorry.
-/
import Derived.Test.Qxb6614982aFmtRows
import GoSem.ClaimSeven
namespace Go.Proofs.Qxb6614982aFmt
namespace Rows

/-- THE TOLD CARD OF 'zzlaws_locality_b1.FnMeasureFreshTreeCountsEachProbe'. -/
def fnMeasureFreshTreeCountsEachProbeCard : Claim7 := { stood := { row := fnMeasureFreshTreeCountsEachProbeRow, standIns := [], harness := (true, "afe6ccdf4ec71c1e093a600fb29fd895c9929fcd3da154c4fffb9ba443f4204e"), looks := false }, told := true, goes := false }
def FnMeasureFreshTreeCountsEachProbeToldSaid : Prop := Claim7.holds Tryf.pinned (.plain (OpenSpec.ofChange fnMeasureFreshTreeCountsEachProbeSpec)) fnMeasureFreshTreeCountsEachProbeCard
/-- ITS FALSE NEIGHBOUR. Refute it at one input. -/
def FnMeasureFreshTreeCountsEachProbeToldWrongFalsely : Prop := Claim7.holds Tryf.pinned (.plain (OpenSpec.ofChange fnMeasureFreshTreeCountsEachProbeWrong)) fnMeasureFreshTreeCountsEachProbeCard
end Rows
end Go.Proofs.Qxb6614982aFmt
