/-
  No cell of these rows narrows 'for every input' (looked for: loops, veiled, ifaces, maps, wideKeys, modest, calm, conditions, laid).
  DERIVED. THE GIVEN ROWS OF THIS SEAT. 1 by the template 'for every input the law returns true; each argument reads behind the call as it read before'; 0 by the template 'total and deterministic' (their statements: Qxb6614982aFmtTotals.lean).
  GIVEN WITH THE SEED: the statements are not yours to turn. If you find one false, say at which input.
  Laid BY PROGRAM, IN A SANDBOX (cutbox-rows.mjs): the forced cells as the released guide's own fill.sh prints them over the translation ffa30b6d60ba16cd… (all of the seat's roots in one cut). By AI agents, Wed Nov 11 2026. No macro, syntax, notation, axiom, sorry.
-/
import Derived.Test.Qxb6614982aFmtChecked
import GoSem.Claim
import GoSem.ClaimJoined
import GoSem.ClaimMapViews
import Derived.JoinedTies
import Derived.KernelRfl
namespace Go.Proofs.Qxb6614982aFmt
/- THE CELL 'sum', in the pinned program and in every row, IS THE sha256 OF THE DUMP (.gsa) THAT Qxb6614982aFmtProg.lean LOADS. Nothing in Lean hashes anything: it is a label: what it is worth is what the hold of that sum in a sandbox is worth. -/
noncomputable def Tryf.pinned : Pinned := { name := "qxb6614982afmt", sum := "ffa30b6d60ba16cd2eda0ca11369b48bd60e629de2e352604defdc8afa294b84", checked := Tryf.checked }
namespace Rows
def none {H : Type} : Left H := { results := [], args := [] }

/-- 'zzlaws_locality_b1.FnMeasureFreshTreeCountsEachProbe': WHATEVER THE INPUT: true; the input reads as it did. -/
def fnMeasureFreshTreeCountsEachProbeSpec : ChangeSpec := { name := "fnMeasureFreshTreeCountsEachProbe", fn := fun _ => fun
  | [d1, d2, d3, d4, d5, d6, d7] => { results := [.lit (.bool true)], args := [d1, d2, d3, d4, d5, d6, d7] }
  | _ => none }
def fnMeasureFreshTreeCountsEachProbeRow : OpenClaim := { program := "qxb6614982afmt", sum := "ffa30b6d60ba16cd2eda0ca11369b48bd60e629de2e352604defdc8afa294b84", func := "example.com/nearfield/nearfield/zzlaws_locality_b1.FnMeasureFreshTreeCountsEachProbe", spec := "fnMeasureFreshTreeCountsEachProbe", stops := ["fmt.Sprintf"], inPlace := ["fmt.Sprintf"], unfollowed := true, recurses := true, apart := false }
/-- NO THEOREM (fmt's text is open here; it may be false): for the released tool's asking of the row's closed facts alone. THE STATEMENT IS 'FnMeasureFreshTreeCountsEachProbeToldSaid' (Qxb6614982aFmtCards.lean). -/
def FnMeasureFreshTreeCountsEachProbeFormAsk : Prop := fnMeasureFreshTreeCountsEachProbeRow.holds Tryf.pinned (OpenSpec.ofChange fnMeasureFreshTreeCountsEachProbeSpec)

/-- ITS FALSE NEIGHBOUR: 'it returns false'. Refute it at one input. -/
def fnMeasureFreshTreeCountsEachProbeWrong : ChangeSpec := { name := "fnMeasureFreshTreeCountsEachProbe", fn := fun _ => fun
  | [d1, d2, d3, d4, d5, d6, d7] => { results := [.lit (.bool false)], args := [d1, d2, d3, d4, d5, d6, d7] }
  | _ => none }
def FnMeasureFreshTreeCountsEachProbeWrongFormAsk : Prop := fnMeasureFreshTreeCountsEachProbeRow.holds Tryf.pinned (OpenSpec.ofChange fnMeasureFreshTreeCountsEachProbeWrong)

end Rows
end Go.Proofs.Qxb6614982aFmt
