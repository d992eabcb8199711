/-
  No cell of these rows narrows 'for every input' (looked for: loops, veiled, ifaces, maps, wideKeys, modest, calm, conditions, laid).
  DERIVED. THE GIVEN ROWS OF THIS SEAT. 6 by the template 'for every input the law returns true; each argument reads behind the call as it read before'; 0 by the template 'total and deterministic' (their statements: Qxb6614319aTotals.lean).
  GIVEN WITH THE SEED: the statements are not yours to turn. If you find one false, say at which input.
  Laid BY PROGRAM, IN A SANDBOX (cutbox-rows.mjs): the forced cells as the released guide's own fill.sh prints them over the translation e599c22796ed842f… (all of the seat's roots in one cut). By AI agents, Wed Nov 11 2026. No macro, syntax, notation, axiom, sorry.
-/
import Derived.Test.Qxb6614319aChecked
import GoSem.Claim
import GoSem.ClaimJoined
import GoSem.ClaimMapViews
import Derived.JoinedTies
import Derived.KernelRfl
namespace Go.Proofs.Qxb6614319a
/- THE CELL 'sum', in the pinned program and in every row, IS THE sha256 OF THE DUMP (.gsa) THAT Qxb6614319aProg.lean LOADS. Nothing in Lean hashes anything: it is a label: what it is worth is what the hold of that sum in a sandbox is worth. -/
noncomputable def Try.pinned : Pinned := { name := "qxb6614319a", sum := "e599c22796ed842f2b040a09b4d79f53c83ec0328321aa22f67efce0ef72db11", checked := Try.checked }
namespace Rows
def none {H : Type} : Left H := { results := [], args := [] }

/-- 'zzlaws_root_b1.FnOwnEntryPlacesAndShiftsWithWidth': WHATEVER THE INPUT: true; the input reads as it did. -/
def fnOwnEntryPlacesAndShiftsWithWidthSpec : ChangeSpec := { name := "fnOwnEntryPlacesAndShiftsWithWidth", fn := fun _ => fun
  | [d1, d2, d3, d4, d5, d6] => { results := [.lit (.bool true)], args := [d1, d2, d3, d4, d5, d6] }
  | _ => none }
def fnOwnEntryPlacesAndShiftsWithWidthRow : OpenClaim := { program := "qxb6614319a", sum := "e599c22796ed842f2b040a09b4d79f53c83ec0328321aa22f67efce0ef72db11", func := "example.com/orderbound/orderbound/zzlaws_root_b1.FnOwnEntryPlacesAndShiftsWithWidth", spec := "fnOwnEntryPlacesAndShiftsWithWidth", apart := false }
def FnOwnEntryPlacesAndShiftsWithWidthSaid : Prop := fnOwnEntryPlacesAndShiftsWithWidthRow.holds Try.pinned (OpenSpec.ofChange fnOwnEntryPlacesAndShiftsWithWidthSpec)

/-- ITS FALSE NEIGHBOUR: 'it returns false'. Refute it at one input. -/
def fnOwnEntryPlacesAndShiftsWithWidthWrong : ChangeSpec := { name := "fnOwnEntryPlacesAndShiftsWithWidth", fn := fun _ => fun
  | [d1, d2, d3, d4, d5, d6] => { results := [.lit (.bool false)], args := [d1, d2, d3, d4, d5, d6] }
  | _ => none }
def FnOwnEntryPlacesAndShiftsWithWidthWrongFalsely : Prop := fnOwnEntryPlacesAndShiftsWithWidthRow.holds Try.pinned (OpenSpec.ofChange fnOwnEntryPlacesAndShiftsWithWidthWrong)

/-- 'zzlaws_root_b1.FnOwnEntryFillsColumnsInOrder': WHATEVER THE INPUT: true; the input reads as it did. -/
def fnOwnEntryFillsColumnsInOrderSpec : ChangeSpec := { name := "fnOwnEntryFillsColumnsInOrder", fn := fun _ => fun
  | [d1, d2, d3, d4, d5] => { results := [.lit (.bool true)], args := [d1, d2, d3, d4, d5] }
  | _ => none }
def fnOwnEntryFillsColumnsInOrderRow : OpenClaim := { program := "qxb6614319a", sum := "e599c22796ed842f2b040a09b4d79f53c83ec0328321aa22f67efce0ef72db11", func := "example.com/orderbound/orderbound/zzlaws_root_b1.FnOwnEntryFillsColumnsInOrder", spec := "fnOwnEntryFillsColumnsInOrder", apart := false }
def FnOwnEntryFillsColumnsInOrderSaid : Prop := fnOwnEntryFillsColumnsInOrderRow.holds Try.pinned (OpenSpec.ofChange fnOwnEntryFillsColumnsInOrderSpec)

/-- ITS FALSE NEIGHBOUR: 'it returns false'. Refute it at one input. -/
def fnOwnEntryFillsColumnsInOrderWrong : ChangeSpec := { name := "fnOwnEntryFillsColumnsInOrder", fn := fun _ => fun
  | [d1, d2, d3, d4, d5] => { results := [.lit (.bool false)], args := [d1, d2, d3, d4, d5] }
  | _ => none }
def FnOwnEntryFillsColumnsInOrderWrongFalsely : Prop := fnOwnEntryFillsColumnsInOrderRow.holds Try.pinned (OpenSpec.ofChange fnOwnEntryFillsColumnsInOrderWrong)

/-- 'zzlaws_root_b1.FnChangesNothingMatchesRegisterEffect': WHATEVER THE INPUT: true; the input reads as it did. -/
def fnChangesNothingMatchesRegisterEffectSpec : ChangeSpec := { name := "fnChangesNothingMatchesRegisterEffect", fn := fun _ => fun
  | [d1, d2, d3] => { results := [.lit (.bool true)], args := [d1, d2, d3] }
  | _ => none }
def fnChangesNothingMatchesRegisterEffectRow : OpenClaim := { program := "qxb6614319a", sum := "e599c22796ed842f2b040a09b4d79f53c83ec0328321aa22f67efce0ef72db11", func := "example.com/orderbound/orderbound/zzlaws_root_b1.FnChangesNothingMatchesRegisterEffect", spec := "fnChangesNothingMatchesRegisterEffect", apart := false }
def FnChangesNothingMatchesRegisterEffectSaid : Prop := fnChangesNothingMatchesRegisterEffectRow.holds Try.pinned (OpenSpec.ofChange fnChangesNothingMatchesRegisterEffectSpec)

/-- ITS FALSE NEIGHBOUR: 'it returns false'. Refute it at one input. -/
def fnChangesNothingMatchesRegisterEffectWrong : ChangeSpec := { name := "fnChangesNothingMatchesRegisterEffect", fn := fun _ => fun
  | [d1, d2, d3] => { results := [.lit (.bool false)], args := [d1, d2, d3] }
  | _ => none }
def FnChangesNothingMatchesRegisterEffectWrongFalsely : Prop := fnChangesNothingMatchesRegisterEffectRow.holds Try.pinned (OpenSpec.ofChange fnChangesNothingMatchesRegisterEffectWrong)

/-- 'zzlaws_root_b1.FnChangesNothingAgreesWithShows': WHATEVER THE INPUT: true; the input reads as it did. -/
def fnChangesNothingAgreesWithShowsSpec : ChangeSpec := { name := "fnChangesNothingAgreesWithShows", fn := fun _ => fun
  | [d1, d2, d3] => { results := [.lit (.bool true)], args := [d1, d2, d3] }
  | _ => none }
def fnChangesNothingAgreesWithShowsRow : OpenClaim := { program := "qxb6614319a", sum := "e599c22796ed842f2b040a09b4d79f53c83ec0328321aa22f67efce0ef72db11", func := "example.com/orderbound/orderbound/zzlaws_root_b1.FnChangesNothingAgreesWithShows", spec := "fnChangesNothingAgreesWithShows", apart := false }
def FnChangesNothingAgreesWithShowsSaid : Prop := fnChangesNothingAgreesWithShowsRow.holds Try.pinned (OpenSpec.ofChange fnChangesNothingAgreesWithShowsSpec)

/-- ITS FALSE NEIGHBOUR: 'it returns false'. Refute it at one input. -/
def fnChangesNothingAgreesWithShowsWrong : ChangeSpec := { name := "fnChangesNothingAgreesWithShows", fn := fun _ => fun
  | [d1, d2, d3] => { results := [.lit (.bool false)], args := [d1, d2, d3] }
  | _ => none }
def FnChangesNothingAgreesWithShowsWrongFalsely : Prop := fnChangesNothingAgreesWithShowsRow.holds Try.pinned (OpenSpec.ofChange fnChangesNothingAgreesWithShowsWrong)

/-- 'zzlaws_root_b1.FnIsAppliedRebuildsWords': WHATEVER THE INPUT: true; the input reads as it did. -/
def fnIsAppliedRebuildsWordsSpec : ChangeSpec := { name := "fnIsAppliedRebuildsWords", fn := fun _ => fun
  | [d] => { results := [.lit (.bool true)], args := [d] }
  | _ => none }
def fnIsAppliedRebuildsWordsRow : OpenClaim := { program := "qxb6614319a", sum := "e599c22796ed842f2b040a09b4d79f53c83ec0328321aa22f67efce0ef72db11", func := "example.com/orderbound/orderbound/zzlaws_root_b1.FnIsAppliedRebuildsWords", spec := "fnIsAppliedRebuildsWords", apart := false }
def FnIsAppliedRebuildsWordsSaid : Prop := fnIsAppliedRebuildsWordsRow.holds Try.pinned (OpenSpec.ofChange fnIsAppliedRebuildsWordsSpec)

/-- ITS FALSE NEIGHBOUR: 'it returns false'. Refute it at one input. -/
def fnIsAppliedRebuildsWordsWrong : ChangeSpec := { name := "fnIsAppliedRebuildsWords", fn := fun _ => fun
  | [d] => { results := [.lit (.bool false)], args := [d] }
  | _ => none }
def FnIsAppliedRebuildsWordsWrongFalsely : Prop := fnIsAppliedRebuildsWordsRow.holds Try.pinned (OpenSpec.ofChange fnIsAppliedRebuildsWordsWrong)

/-- 'zzlaws_root_b1.FnIsAppliedCutAtAnyWord': WHATEVER THE INPUT: true; the input reads as it did. -/
def fnIsAppliedCutAtAnyWordSpec : ChangeSpec := { name := "fnIsAppliedCutAtAnyWord", fn := fun _ => fun
  | [d1, d2, d3] => { results := [.lit (.bool true)], args := [d1, d2, d3] }
  | _ => none }
def fnIsAppliedCutAtAnyWordRow : OpenClaim := { program := "qxb6614319a", sum := "e599c22796ed842f2b040a09b4d79f53c83ec0328321aa22f67efce0ef72db11", func := "example.com/orderbound/orderbound/zzlaws_root_b1.FnIsAppliedCutAtAnyWord", spec := "fnIsAppliedCutAtAnyWord", apart := false }
def FnIsAppliedCutAtAnyWordSaid : Prop := fnIsAppliedCutAtAnyWordRow.holds Try.pinned (OpenSpec.ofChange fnIsAppliedCutAtAnyWordSpec)

/-- ITS FALSE NEIGHBOUR: 'it returns false'. Refute it at one input. -/
def fnIsAppliedCutAtAnyWordWrong : ChangeSpec := { name := "fnIsAppliedCutAtAnyWord", fn := fun _ => fun
  | [d1, d2, d3] => { results := [.lit (.bool false)], args := [d1, d2, d3] }
  | _ => none }
def FnIsAppliedCutAtAnyWordWrongFalsely : Prop := fnIsAppliedCutAtAnyWordRow.holds Try.pinned (OpenSpec.ofChange fnIsAppliedCutAtAnyWordWrong)

end Rows
end Go.Proofs.Qxb6614319a
