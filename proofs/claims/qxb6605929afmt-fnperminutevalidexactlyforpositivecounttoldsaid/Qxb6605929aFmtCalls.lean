/-
  The closed facts for the walk over fmt's stopped front at this dump (after the guide's generated HostportFmt.lean, its numbers turned), fmt.Errorf by its contract, and the walks of PerMinute, Validate and the law.
-/
import Derived.Test.Qxb6605929aFmtRows
import Derived.Stop.CallBack
import Derived.Stop.IfaceNil
import Derived.WalkKit
import Derived.BigCall
import Derived.WalkSpells
import Derived.WalkLawsBesides
import Derived.Below
namespace Go.Proofs.Qxb6605929aFmt
open Go.RowKit Go.Extern.Stop Go.Stop Go.Extern
set_option linter.unusedVariables false

theorem call7 (args : Array Value) (w : World) : (callFunc 7 args).run Tryf.prog w = (FmtCalls.errorf #[9, 31] #[27] args).run Tryf.prog w :=
  run_callFunc_next Tryf.func7 (by kernel_rfl) (by kernel_rfl) (by kernel_rfl) args w
theorem guardF (name : String) (w : World) : (FmtStop.guard name).run Tryf.prog w = .ok () w := by kernel_rfl
theorem nextTurns : Extern.next FmtCalls.turnsRow = some (FmtCalls.begun #[] #[]) := by kernel_rfl
theorem fmtC : FmtStop.printed? ⟨#[114, 101, 102, 105, 108, 108, 58, 32, 108, 105, 109, 105, 116, 32, 99, 111, 117, 110, 116, 32, 105, 115, 32, 37, 100, 44, 32, 109, 117, 115, 116, 32, 98, 101, 32, 97, 116, 32, 108, 101, 97, 115, 116, 32, 49]⟩ 1 = some [(0, 100, false)] := by kernel_rfl
theorem fmtCr (w : World) : (FmtDoors.printed ⟨#[114, 101, 102, 105, 108, 108, 58, 32, 108, 105, 109, 105, 116, 32, 99, 111, 117, 110, 116, 32, 105, 115, 32, 37, 100, 44, 32, 109, 117, 115, 116, 32, 98, 101, 32, 97, 116, 32, 108, 101, 97, 115, 116, 32, 49]⟩ 1).run Tryf.prog w = .ok [(0, 100, false)] w := by kernel_rfl
def shape2 : List UInt8 := [5, 5, 0, 0, 0, 0, 0, 0, 0, 105, 110, 116, 54, 52]
theorem act2_100w (name : String) (x : Value) (w : World) : (FmtCalls.act name true 100 false (.iface 2 x)).run Tryf.prog w = .ok (.closed true) w := by kernel_rfl
theorem op2_100w (name : String) (x : Int) (w : World) : (FmtStop.operand name true 100 false (.iface 2 (.int .i64 x))).run Tryf.prog w = .ok (shape2, Go.Extern.Stop.digits 8 (x % 2 ^ 64).toNat) w := by kernel_rfl
theorem ptr34 (w : World) : (FmtStop.ptrTo "errors.errorString").run Tryf.prog w = .ok 34 w := by kernel_rfl
theorem elem34 (w : World) : (elemOf 34).run Tryf.prog w = .ok 36 w := by kernel_rfl
theorem isError34 (w : World) : (FmtDoors.textMethod 34 "Error").run Tryf.prog w = .ok true w := by kernel_rfl
attribute [local go_sem] call7 guardF fmtC fmtCr act2_100w op2_100w ptr34 elem34 isError34

set_option maxHeartbeats 800000 in
theorem errorf_c (F : Interp) (p : Int) (blk : Nat) (w : World) (hF : F.answers w.tape) (hc0 : w.cell? ⟨blk, 0, none⟩ = some (.iface 2 (.int .i64 p))) :
    Calls Tryf.prog 6 #[.string ⟨#[114, 101, 102, 105, 108, 108, 58, 32, 108, 105, 109, 105, 116, 32, 99, 111, 117, 110, 116, 32, 105, 115, 32, 37, 100, 44, 32, 109, 117, 115, 116, 32, 98, 101, 32, 97, 116, 32, 108, 101, 97, 115, 116, 32, 49]⟩, .slice (some ⟨blk, 0, none⟩) 1 1] w fun e w' =>
      ∃ txt : ByteArray, e = .returned (.iface 34 (.pointer (some ⟨w.heap.size, 0, none⟩))) ∧ w' = (w.alloc (.cells #[.string txt] 36)).drew := by
  have hF' := answers_open hF
  go_enter Tryf.func6, Tryf.ntmps6
  go_wp2
  apply rows_value nextTurns
  case hr =>
    go_simp
    exact ⟨rfl, rfl⟩
  case h =>
    go_wp2
    go_ret
    exact ⟨_, rfl, rfl⟩

/-- PerMinute. -/
theorem perMinute_any (c : Int) (w : World) : Calls Tryf.prog 4 #[.int .i64 c] w fun e w' => e = .returned (.agg #[.int .i64 c, .int .i64 60000000000]) ∧ Below w.heap.size w w' := by
  go_enter Tryf.func4, Tryf.ntmps4
  go_wp2
  refine bodyPost_ret (v := .agg #[.int .i64 c, .int .i64 60000000000]) (by simp [results, Tryf.results4, go_sem]) rfl ⟨rfl, ?_⟩
  exact (Below.refl _ _).alloc (Nat.le_refl _) _

/-- Validate of a limit that is valid. -/
theorem validate_yes (c : Int) (w : World) (h : 1 ≤ c) : Calls Tryf.prog 5 #[.agg #[.int .i64 c, .int .i64 60000000000]] w fun e w' => e = .returned .nilIface ∧ Below w.heap.size w w' := by
  go_enter Tryf.func5, Tryf.ntmps5
  go_wp2
  go_ret
  exact ⟨rfl, (Below.refl _ _).alloc (Nat.le_refl _) _⟩

/-- Validate of a count below 1: an error. -/
theorem validate_no (F : Interp) (c : Int) (w : World) (hF : F.answers w.tape) (h : c < 1) : Calls Tryf.prog 5 #[.agg #[.int .i64 c, .int .i64 60000000000]] w fun e w' => (∃ a, e = .returned (.iface 34 (.pointer (some a)))) ∧ Below w.heap.size w w' := by
  go_enter Tryf.func5, Tryf.ntmps5
  go_wp2_with fail
  refine (errorf_c F c (w.heap.size + 1) _ (by exact hF) (by simp [go_sem])).mono ?_
  rintro e w' ⟨txt, rfl, rfl⟩
  go_wp2
  go_ret
  exact ⟨⟨_, rfl⟩, ((((Below.refl _ _).alloc (Nat.le_refl _) _).alloc (by simp) _).alloc (by simp; omega) _).drew⟩

theorem chainV {w w1 w2 : World} {o : Obj} (h : Below w.heap.size w w1) (h2 : Below (w1.alloc o).heap.size (w1.alloc o) w2) : Below w.heap.size w w2 :=
  (h.alloc h.size o).trans (h2.mono (by have := h.size; simp; omega))

theorem law_yes (c : Int) (w : World) (h : 1 ≤ c) : Calls Tryf.prog 3 #[.int .i64 c] w fun e w' => e = .returned (.bool true) ∧ Below w.heap.size w w' := by
  go_enter Tryf.func3, Tryf.ntmps3
  go_wp2_with fail
  refine (perMinute_any c _).mono ?_
  rintro e w1 ⟨rfl, b1⟩
  go_wp2_with fail
  refine (validate_yes c _ h).mono ?_
  rintro e w2 ⟨rfl, b2⟩
  go_wp2
  go_ret
  exact ⟨rfl, chainV b1 b2⟩

theorem law_no (F : Interp) (c : Int) (w : World) (hF : F.answers w.tape) (h : c < 1) : Calls Tryf.prog 3 #[.int .i64 c] w fun e w' => e = .returned (.bool true) ∧ Below w.heap.size w w' := by
  go_enter Tryf.func3, Tryf.ntmps3
  go_wp2_with fail
  refine (perMinute_any c _).mono ?_
  rintro e w1 ⟨rfl, b1⟩
  have hF1 : F.answers w1.tape := by rw [b1.tape]; exact hF
  have hd : decide (1 ≤ c) = false := decide_eq_false (by omega)
  go_wp2_with fail
  refine (validate_no F c _ (by exact hF1) h).mono ?_
  rintro e w2 ⟨⟨a, rfl⟩, b2⟩
  go_wp2
  go_ret
  exact ⟨rfl, chainV b1 b2⟩

theorem law_any (F : Interp) (c : Int) (w : World) (hF : F.answers w.tape) : Calls Tryf.prog 3 #[.int .i64 c] w fun e w' => e = .returned (.bool true) ∧ Below w.heap.size w w' := by
  rcases Int.lt_or_le c 1 with h | h
  · exact law_no F c w hF h
  · exact law_yes c w h
end Go.Proofs.Qxb6605929aFmt
