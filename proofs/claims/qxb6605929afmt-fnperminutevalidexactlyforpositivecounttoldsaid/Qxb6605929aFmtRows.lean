/-
  No cell of these rows narrows 'for every input' (looked for: loops, veiled, ifaces, maps, wideKeys, modest, calm, conditions, laid).
  DERIVED. THE GIVEN ROWS OF THIS SEAT. 1 by the template 'for every input the law returns true; each argument reads behind the call as it read before'; 0 by the template 'total and deterministic' (their statements: Qxb6605929aFmtTotals.lean).
  GIVEN WITH THE SEED: the statements are not yours to turn. If you find one false, say at which input.
  Laid BY PROGRAM, IN A SANDBOX (cutbox-rows.mjs): the forced cells as the released guide's own fill.sh prints them over the translation 859c428b9fc4f623… (all of the seat's roots in one cut). By AI agents, Wed Nov 11 2026. No macro, syntax, notation, axiom, sorry.
-/
import Derived.Test.Qxb6605929aFmtChecked
import GoSem.Claim
import GoSem.ClaimJoined
import GoSem.ClaimMapViews
import Derived.JoinedTies
import Derived.KernelRfl
namespace Go.Proofs.Qxb6605929aFmt
/- THE CELL 'sum', in the pinned program and in every row, IS THE sha256 OF THE DUMP (.gsa) THAT Qxb6605929aFmtProg.lean LOADS. Nothing in Lean hashes anything: it is a label: what it is worth is what the hold of that sum in a sandbox is worth. -/
noncomputable def Tryf.pinned : Pinned := { name := "qxb6605929afmt", sum := "859c428b9fc4f623d4bfd7eef0d3861d1b4949bf189d66754be92dc78f3e40cb", checked := Tryf.checked }
namespace Rows
def none {H : Type} : Left H := { results := [], args := [] }

/-- 'zzlaws_root_b1.FnPerMinuteValidExactlyForPositiveCount': WHATEVER THE INPUT: true; the input reads as it did. -/
def fnPerMinuteValidExactlyForPositiveCountSpec : ChangeSpec := { name := "fnPerMinuteValidExactlyForPositiveCount", fn := fun _ => fun
  | [d] => { results := [.lit (.bool true)], args := [d] }
  | _ => none }
def fnPerMinuteValidExactlyForPositiveCountRow : OpenClaim := { program := "qxb6605929afmt", sum := "859c428b9fc4f623d4bfd7eef0d3861d1b4949bf189d66754be92dc78f3e40cb", func := "example.com/refill/refill/zzlaws_root_b1.FnPerMinuteValidExactlyForPositiveCount", spec := "fnPerMinuteValidExactlyForPositiveCount", stops := ["fmt.errorf, its operands' methods called"], inPlace := ["fmt.errorf"], unfollowed := true, recurses := true, apart := false }
/-- NO THEOREM (fmt's text is open here; it may be false): for the released tool's asking of the row's closed facts alone. THE STATEMENT IS 'FnPerMinuteValidExactlyForPositiveCountToldSaid' (Qxb6605929aFmtCards.lean). -/
def FnPerMinuteValidExactlyForPositiveCountFormAsk : Prop := fnPerMinuteValidExactlyForPositiveCountRow.holds Tryf.pinned (OpenSpec.ofChange fnPerMinuteValidExactlyForPositiveCountSpec)

/-- ITS FALSE NEIGHBOUR: 'it returns false'. Refute it at one input. -/
def fnPerMinuteValidExactlyForPositiveCountWrong : ChangeSpec := { name := "fnPerMinuteValidExactlyForPositiveCount", fn := fun _ => fun
  | [d] => { results := [.lit (.bool false)], args := [d] }
  | _ => none }
def FnPerMinuteValidExactlyForPositiveCountWrongFormAsk : Prop := fnPerMinuteValidExactlyForPositiveCountRow.holds Tryf.pinned (OpenSpec.ofChange fnPerMinuteValidExactlyForPositiveCountWrong)

end Rows
end Go.Proofs.Qxb6605929aFmt
