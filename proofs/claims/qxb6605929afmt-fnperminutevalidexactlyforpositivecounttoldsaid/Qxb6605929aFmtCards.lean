/-
  DERIVED. GIVEN WITH THE SEED: THE CARDS: each row of Qxb6605929aFmtRows.lean that lists a variable, with what it lists TIED to the program's text (the seventh form; the later family's looks); each row that meets fmt, with fmt's text TOLD by the authors' own Lean function (tested against real Go, not proved from fmt's source: count such statements apart). THE CARD IS WHAT COUNTS. Prove the row's statement (the work); the ties are given (Qxb6605929aFmtTie.lean); close each card by the builder's one call (the guide's Derived/Test/ToyasCard.lean, 'card_holds'). Laid BY PROGRAM, IN A SANDBOX (cutbox-door.mjs). By AI agents, Wed Nov 11 2026. No macro, syntax, notation, axiom, sorry.
-/
import Derived.Test.Qxb6605929aFmtRows
import GoSem.ClaimSeven
namespace Go.Proofs.Qxb6605929aFmt
namespace Rows

/-- THE TOLD CARD OF 'zzlaws_root_b1.FnPerMinuteValidExactlyForPositiveCount'. -/
def fnPerMinuteValidExactlyForPositiveCountCard : Claim7 := { stood := { row := fnPerMinuteValidExactlyForPositiveCountRow, standIns := [], harness := (true, "7f80eff26018c50725045ea8ec2cda72c316539da11096837e6d3cea9ac39ad8"), looks := false }, told := true, goes := false }
def FnPerMinuteValidExactlyForPositiveCountToldSaid : Prop := Claim7.holds Tryf.pinned (.plain (OpenSpec.ofChange fnPerMinuteValidExactlyForPositiveCountSpec)) fnPerMinuteValidExactlyForPositiveCountCard
/-- ITS FALSE NEIGHBOUR. Refute it at one input. -/
def FnPerMinuteValidExactlyForPositiveCountToldWrongFalsely : Prop := Claim7.holds Tryf.pinned (.plain (OpenSpec.ofChange fnPerMinuteValidExactlyForPositiveCountWrong)) fnPerMinuteValidExactlyForPositiveCountCard
end Rows
end Go.Proofs.Qxb6605929aFmt
