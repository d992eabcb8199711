import Derived.Test.Qxb6614319aReg
import Derived.LoopN
namespace Go.Proofs.Qxb6614319a
open Go.RowKit
set_option linter.unusedVariables false

theorem beq_no {a b : Int} (h : a ≠ b) : (a == b) = false := by simp [h]
theorem bne_yes {a b : Int} (h : a ≠ b) : (a != b) = true := by simp [h]

theorem reg0 (a s h : Int) (w : World) : Calls Try.prog 15 #[.int .u8 0, .int .i32 a, .int .i32 s, .int .i32 h] w fun e w' => e = .returned (.tuple #[.bool (h == a), .int .i32 h]) ∧ w = w' := by
  go_enter Try.func15, Try.ntmps15
  go_wp2
  go_ret2
  exact ⟨rfl, rfl⟩
theorem reg1 (a s h : Int) (w : World) : Calls Try.prog 15 #[.int .u8 1, .int .i32 a, .int .i32 s, .int .i32 h] w fun e w' => e = .returned (.tuple #[.bool true, .int .i32 s]) ∧ w = w' := by
  go_enter Try.func15, Try.ntmps15
  go_wp2
  go_ret2
  exact ⟨rfl, rfl⟩
theorem reg2 (a s h : Int) (w : World) : Calls Try.prog 15 #[.int .u8 2, .int .i32 a, .int .i32 s, .int .i32 h] w fun e w' => e = .returned (.tuple #[.bool (h == a), .int .i32 s]) ∧ w = w' := by
  go_enter Try.func15, Try.ntmps15
  go_wp2
  go_ret2
  exact ⟨rfl, rfl⟩
theorem reg3 (a s h : Int) (w : World) : Calls Try.prog 15 #[.int .u8 3, .int .i32 a, .int .i32 s, .int .i32 h] w fun e w' => e = .returned (.tuple #[.bool (h != a), .int .i32 h]) ∧ w = w' := by
  go_enter Try.func15, Try.ntmps15
  go_wp2
  go_ret2
  exact ⟨rfl, rfl⟩

theorem match_early (k a s : Int) (w : World) (h : 3 < k) : Calls Try.prog 5 #[.int .u8 k, .int .i32 a, .int .i32 s] w fun e w' => e = .returned (.bool true) ∧ Below w.heap.size w w' := by
  go_enter Try.func5, Try.ntmps5
  go_wp2
  go_ret
  exact ⟨rfl, Below.refl _ _⟩
theorem chainB {w w1 w2 : World} (h : Below w.heap.size w w1) (h2 : Below w1.heap.size w1 w2) : Below w.heap.size w w2 := h.trans (h2.mono h.size)

set_option maxRecDepth 100000 in
set_option maxHeartbeats 1000000 in
theorem match0e (a : Int) (w : World) : Calls Try.prog 5 #[.int .u8 0, .int .i32 a, .int .i32 a] w fun e w' => e = .returned (.bool true) ∧ Below w.heap.size w w' := by
  go_enter Try.func5, Try.ntmps5
  go_wp2_with fail
  refine (otherTwo_any a a _).mono ?_
  rintro e w1 ⟨X0, X1, rfl, p1, p2, p3, p4, p5, b1⟩
  have q1 := beq_no p1
  have q2 := beq_no p2
  have q3 := beq_no p3
  have q4 := beq_no p4
  have q5 := beq_no p5
  have r1 := bne_yes p1
  have r2 := bne_yes (Ne.symm p2)
  have r3 := bne_yes p3
  have r4 := bne_yes (Ne.symm p4)
  clear p1 p2 p3 p4 p5
  go_wp2_with fail
  refine wp_loop_rounds 5 ?_
  rw [rounds_succ]
  go_wp2_with (go_at_call 15; refine (reg0 _ _ _ _).mono ?_; rintro e w' ⟨rfl, rfl⟩)
  rw [rounds_succ]
  go_wp2_with (go_at_call 15; refine (reg0 _ _ _ _).mono ?_; rintro e w' ⟨rfl, rfl⟩)
  rw [rounds_succ]
  go_wp2_with (go_at_call 15; refine (reg0 _ _ _ _).mono ?_; rintro e w' ⟨rfl, rfl⟩)
  rw [rounds_succ]
  go_wp2_with (go_at_call 15; refine (reg0 _ _ _ _).mono ?_; rintro e w' ⟨rfl, rfl⟩)
  rw [rounds_succ]
  go_wp2_with fail
  refine (zzCN0 _ _ _).mono ?_
  rintro e w2 ⟨rfl, b2⟩
  go_wp2_with fail
  refine (zzNeeds0 _ _ _).mono ?_
  rintro e w3 ⟨rfl, b3⟩
  go_wp2
  go_ret
  exact ⟨rfl, chainB (chainB (b1.alloc b1.size _) b2) b3⟩

set_option maxRecDepth 100000 in
set_option maxHeartbeats 1000000 in
theorem match0n (a s : Int) (w : World) (hne : a ≠ s) : Calls Try.prog 5 #[.int .u8 0, .int .i32 a, .int .i32 s] w fun e w' => e = .returned (.bool true) ∧ Below w.heap.size w w' := by
  have t1 := beq_no hne
  have t2 := beq_no (Ne.symm hne)
  have t3 := bne_yes hne
  have t4 := bne_yes (Ne.symm hne)
  clear hne
  go_enter Try.func5, Try.ntmps5
  go_wp2_with fail
  refine (otherTwo_any a s _).mono ?_
  rintro e w1 ⟨X0, X1, rfl, p1, p2, p3, p4, p5, b1⟩
  have q1 := beq_no p1
  have q2 := beq_no p2
  have q3 := beq_no p3
  have q4 := beq_no p4
  have q5 := beq_no p5
  have r1 := bne_yes p1
  have r2 := bne_yes (Ne.symm p2)
  have r3 := bne_yes p3
  have r4 := bne_yes (Ne.symm p4)
  clear p1 p2 p3 p4 p5
  go_wp2_with fail
  refine wp_loop_rounds 5 ?_
  rw [rounds_succ]
  go_wp2_with (go_at_call 15; refine (reg0 _ _ _ _).mono ?_; rintro e w' ⟨rfl, rfl⟩)
  rw [rounds_succ]
  go_wp2_with (go_at_call 15; refine (reg0 _ _ _ _).mono ?_; rintro e w' ⟨rfl, rfl⟩)
  rw [rounds_succ]
  go_wp2_with (go_at_call 15; refine (reg0 _ _ _ _).mono ?_; rintro e w' ⟨rfl, rfl⟩)
  rw [rounds_succ]
  go_wp2_with (go_at_call 15; refine (reg0 _ _ _ _).mono ?_; rintro e w' ⟨rfl, rfl⟩)
  rw [rounds_succ]
  go_wp2_with fail
  refine (zzCN0 _ _ _).mono ?_
  rintro e w2 ⟨rfl, b2⟩
  go_wp2_with fail
  refine (zzNeeds0 _ _ _).mono ?_
  rintro e w3 ⟨rfl, b3⟩
  go_wp2
  go_ret
  exact ⟨rfl, chainB (chainB (b1.alloc b1.size _) b2) b3⟩

set_option maxRecDepth 100000 in
set_option maxHeartbeats 1000000 in
theorem match1e (a : Int) (w : World) : Calls Try.prog 5 #[.int .u8 1, .int .i32 a, .int .i32 a] w fun e w' => e = .returned (.bool true) ∧ Below w.heap.size w w' := by
  go_enter Try.func5, Try.ntmps5
  go_wp2_with fail
  refine (otherTwo_any a a _).mono ?_
  rintro e w1 ⟨X0, X1, rfl, p1, p2, p3, p4, p5, b1⟩
  have q1 := beq_no p1
  have q2 := beq_no p2
  have q3 := beq_no p3
  have q4 := beq_no p4
  have q5 := beq_no p5
  have r1 := bne_yes p1
  have r2 := bne_yes (Ne.symm p2)
  have r3 := bne_yes p3
  have r4 := bne_yes (Ne.symm p4)
  clear p1 p2 p3 p4 p5
  go_wp2_with fail
  refine wp_loop_rounds 5 ?_
  rw [rounds_succ]
  go_wp2_with (go_at_call 15; refine (reg1 _ _ _ _).mono ?_; rintro e w' ⟨rfl, rfl⟩)
  rw [rounds_succ]
  go_wp2_with (go_at_call 15; refine (reg1 _ _ _ _).mono ?_; rintro e w' ⟨rfl, rfl⟩)
  rw [rounds_succ]
  go_wp2_with (go_at_call 15; refine (reg1 _ _ _ _).mono ?_; rintro e w' ⟨rfl, rfl⟩)
  rw [rounds_succ]
  go_wp2_with (go_at_call 15; refine (reg1 _ _ _ _).mono ?_; rintro e w' ⟨rfl, rfl⟩)
  rw [rounds_succ]
  go_wp2_with fail
  refine (zzCN1 _ _ _).mono ?_
  rintro e w2 ⟨rfl, b2⟩
  go_wp2_with fail
  refine (zzNeeds1 _ _ _).mono ?_
  rintro e w3 ⟨rfl, b3⟩
  go_wp2
  go_ret
  exact ⟨rfl, chainB (chainB (b1.alloc b1.size _) b2) b3⟩

set_option maxRecDepth 100000 in
set_option maxHeartbeats 1000000 in
theorem match1n (a s : Int) (w : World) (hne : a ≠ s) : Calls Try.prog 5 #[.int .u8 1, .int .i32 a, .int .i32 s] w fun e w' => e = .returned (.bool true) ∧ Below w.heap.size w w' := by
  have t1 := beq_no hne
  have t2 := beq_no (Ne.symm hne)
  have t3 := bne_yes hne
  have t4 := bne_yes (Ne.symm hne)
  clear hne
  go_enter Try.func5, Try.ntmps5
  go_wp2_with fail
  refine (otherTwo_any a s _).mono ?_
  rintro e w1 ⟨X0, X1, rfl, p1, p2, p3, p4, p5, b1⟩
  have q1 := beq_no p1
  have q2 := beq_no p2
  have q3 := beq_no p3
  have q4 := beq_no p4
  have q5 := beq_no p5
  have r1 := bne_yes p1
  have r2 := bne_yes (Ne.symm p2)
  have r3 := bne_yes p3
  have r4 := bne_yes (Ne.symm p4)
  clear p1 p2 p3 p4 p5
  go_wp2_with fail
  refine wp_loop_rounds 5 ?_
  rw [rounds_succ]
  go_wp2_with (go_at_call 15; refine (reg1 _ _ _ _).mono ?_; rintro e w' ⟨rfl, rfl⟩)
  rw [rounds_succ]
  go_wp2_with (go_at_call 15; refine (reg1 _ _ _ _).mono ?_; rintro e w' ⟨rfl, rfl⟩)
  rw [rounds_succ]
  go_wp2_with (go_at_call 15; refine (reg1 _ _ _ _).mono ?_; rintro e w' ⟨rfl, rfl⟩)
  rw [rounds_succ]
  go_wp2_with (go_at_call 15; refine (reg1 _ _ _ _).mono ?_; rintro e w' ⟨rfl, rfl⟩)
  rw [rounds_succ]
  go_wp2_with fail
  refine (zzCN1 _ _ _).mono ?_
  rintro e w2 ⟨rfl, b2⟩
  go_wp2_with fail
  refine (zzNeeds1 _ _ _).mono ?_
  rintro e w3 ⟨rfl, b3⟩
  go_wp2
  go_ret
  exact ⟨rfl, chainB (chainB (b1.alloc b1.size _) b2) b3⟩

set_option maxRecDepth 100000 in
set_option maxHeartbeats 1000000 in
theorem match2e (a : Int) (w : World) : Calls Try.prog 5 #[.int .u8 2, .int .i32 a, .int .i32 a] w fun e w' => e = .returned (.bool true) ∧ Below w.heap.size w w' := by
  go_enter Try.func5, Try.ntmps5
  go_wp2_with fail
  refine (otherTwo_any a a _).mono ?_
  rintro e w1 ⟨X0, X1, rfl, p1, p2, p3, p4, p5, b1⟩
  have q1 := beq_no p1
  have q2 := beq_no p2
  have q3 := beq_no p3
  have q4 := beq_no p4
  have q5 := beq_no p5
  have r1 := bne_yes p1
  have r2 := bne_yes (Ne.symm p2)
  have r3 := bne_yes p3
  have r4 := bne_yes (Ne.symm p4)
  clear p1 p2 p3 p4 p5
  go_wp2_with fail
  refine wp_loop_rounds 5 ?_
  rw [rounds_succ]
  go_wp2_with (go_at_call 15; refine (reg2 _ _ _ _).mono ?_; rintro e w' ⟨rfl, rfl⟩)
  rw [rounds_succ]
  go_wp2_with (go_at_call 15; refine (reg2 _ _ _ _).mono ?_; rintro e w' ⟨rfl, rfl⟩)
  rw [rounds_succ]
  go_wp2_with (go_at_call 15; refine (reg2 _ _ _ _).mono ?_; rintro e w' ⟨rfl, rfl⟩)
  rw [rounds_succ]
  go_wp2_with (go_at_call 15; refine (reg2 _ _ _ _).mono ?_; rintro e w' ⟨rfl, rfl⟩)
  rw [rounds_succ]
  go_wp2_with fail
  refine (zzCN2e _ _ _ (by simp)).mono ?_
  rintro e w2 ⟨rfl, b2⟩
  go_wp2_with fail
  refine (zzNeeds2 _ _ _).mono ?_
  rintro e w3 ⟨rfl, b3⟩
  go_wp2
  go_ret
  exact ⟨rfl, chainB (chainB (b1.alloc b1.size _) b2) b3⟩

set_option maxRecDepth 100000 in
set_option maxHeartbeats 1000000 in
theorem match2n (a s : Int) (w : World) (hne : a ≠ s) : Calls Try.prog 5 #[.int .u8 2, .int .i32 a, .int .i32 s] w fun e w' => e = .returned (.bool true) ∧ Below w.heap.size w w' := by
  have t1 := beq_no hne
  have t2 := beq_no (Ne.symm hne)
  have t3 := bne_yes hne
  have t4 := bne_yes (Ne.symm hne)
  clear hne
  go_enter Try.func5, Try.ntmps5
  go_wp2_with fail
  refine (otherTwo_any a s _).mono ?_
  rintro e w1 ⟨X0, X1, rfl, p1, p2, p3, p4, p5, b1⟩
  have q1 := beq_no p1
  have q2 := beq_no p2
  have q3 := beq_no p3
  have q4 := beq_no p4
  have q5 := beq_no p5
  have r1 := bne_yes p1
  have r2 := bne_yes (Ne.symm p2)
  have r3 := bne_yes p3
  have r4 := bne_yes (Ne.symm p4)
  clear p1 p2 p3 p4 p5
  go_wp2_with fail
  refine wp_loop_rounds 5 ?_
  rw [rounds_succ]
  go_wp2_with (go_at_call 15; refine (reg2 _ _ _ _).mono ?_; rintro e w' ⟨rfl, rfl⟩)
  rw [rounds_succ]
  go_wp2_with (go_at_call 15; refine (reg2 _ _ _ _).mono ?_; rintro e w' ⟨rfl, rfl⟩)
  rw [rounds_succ]
  go_wp2_with (go_at_call 15; refine (reg2 _ _ _ _).mono ?_; rintro e w' ⟨rfl, rfl⟩)
  rw [rounds_succ]
  go_wp2_with (go_at_call 15; refine (reg2 _ _ _ _).mono ?_; rintro e w' ⟨rfl, rfl⟩)
  rw [rounds_succ]
  go_wp2_with fail
  refine (zzCN2n _ _ _ t1).mono ?_
  rintro e w2 ⟨rfl, b2⟩
  go_wp2_with fail
  refine (zzNeeds2 _ _ _).mono ?_
  rintro e w3 ⟨rfl, b3⟩
  go_wp2
  go_ret
  exact ⟨rfl, chainB (chainB (b1.alloc b1.size _) b2) b3⟩

set_option maxRecDepth 100000 in
set_option maxHeartbeats 1000000 in
theorem match3e (a : Int) (w : World) : Calls Try.prog 5 #[.int .u8 3, .int .i32 a, .int .i32 a] w fun e w' => e = .returned (.bool true) ∧ Below w.heap.size w w' := by
  go_enter Try.func5, Try.ntmps5
  go_wp2_with fail
  refine (otherTwo_any a a _).mono ?_
  rintro e w1 ⟨X0, X1, rfl, p1, p2, p3, p4, p5, b1⟩
  have q1 := beq_no p1
  have q2 := beq_no p2
  have q3 := beq_no p3
  have q4 := beq_no p4
  have q5 := beq_no p5
  have r1 := bne_yes p1
  have r2 := bne_yes (Ne.symm p2)
  have r3 := bne_yes p3
  have r4 := bne_yes (Ne.symm p4)
  clear p1 p2 p3 p4 p5
  go_wp2_with fail
  refine wp_loop_rounds 5 ?_
  rw [rounds_succ]
  go_wp2_with (go_at_call 15; refine (reg3 _ _ _ _).mono ?_; rintro e w' ⟨rfl, rfl⟩)
  rw [rounds_succ]
  go_wp2_with (go_at_call 15; refine (reg3 _ _ _ _).mono ?_; rintro e w' ⟨rfl, rfl⟩)
  rw [rounds_succ]
  go_wp2_with (go_at_call 15; refine (reg3 _ _ _ _).mono ?_; rintro e w' ⟨rfl, rfl⟩)
  rw [rounds_succ]
  go_wp2_with (go_at_call 15; refine (reg3 _ _ _ _).mono ?_; rintro e w' ⟨rfl, rfl⟩)
  rw [rounds_succ]
  go_wp2_with fail
  refine (zzCN3 _ _ _).mono ?_
  rintro e w2 ⟨rfl, b2⟩
  go_wp2_with fail
  refine (zzNeeds3 _ _ _).mono ?_
  rintro e w3 ⟨rfl, b3⟩
  go_wp2
  go_ret
  exact ⟨rfl, chainB (chainB (b1.alloc b1.size _) b2) b3⟩

set_option maxRecDepth 100000 in
set_option maxHeartbeats 1000000 in
theorem match3n (a s : Int) (w : World) (hne : a ≠ s) : Calls Try.prog 5 #[.int .u8 3, .int .i32 a, .int .i32 s] w fun e w' => e = .returned (.bool true) ∧ Below w.heap.size w w' := by
  have t1 := beq_no hne
  have t2 := beq_no (Ne.symm hne)
  have t3 := bne_yes hne
  have t4 := bne_yes (Ne.symm hne)
  clear hne
  go_enter Try.func5, Try.ntmps5
  go_wp2_with fail
  refine (otherTwo_any a s _).mono ?_
  rintro e w1 ⟨X0, X1, rfl, p1, p2, p3, p4, p5, b1⟩
  have q1 := beq_no p1
  have q2 := beq_no p2
  have q3 := beq_no p3
  have q4 := beq_no p4
  have q5 := beq_no p5
  have r1 := bne_yes p1
  have r2 := bne_yes (Ne.symm p2)
  have r3 := bne_yes p3
  have r4 := bne_yes (Ne.symm p4)
  clear p1 p2 p3 p4 p5
  go_wp2_with fail
  refine wp_loop_rounds 5 ?_
  rw [rounds_succ]
  go_wp2_with (go_at_call 15; refine (reg3 _ _ _ _).mono ?_; rintro e w' ⟨rfl, rfl⟩)
  rw [rounds_succ]
  go_wp2_with (go_at_call 15; refine (reg3 _ _ _ _).mono ?_; rintro e w' ⟨rfl, rfl⟩)
  rw [rounds_succ]
  go_wp2_with (go_at_call 15; refine (reg3 _ _ _ _).mono ?_; rintro e w' ⟨rfl, rfl⟩)
  rw [rounds_succ]
  go_wp2_with (go_at_call 15; refine (reg3 _ _ _ _).mono ?_; rintro e w' ⟨rfl, rfl⟩)
  rw [rounds_succ]
  go_wp2_with fail
  refine (zzCN3 _ _ _).mono ?_
  rintro e w2 ⟨rfl, b2⟩
  go_wp2_with fail
  refine (zzNeeds3 _ _ _).mono ?_
  rintro e w3 ⟨rfl, b3⟩
  go_wp2
  go_ret
  exact ⟨rfl, chainB (chainB (b1.alloc b1.size _) b2) b3⟩

theorem match_any (k a s : Int) (w : World) (h0 : 0 ≤ k) : Calls Try.prog 5 #[.int .u8 k, .int .i32 a, .int .i32 s] w fun e w' => e = .returned (.bool true) ∧ Below w.heap.size w w' := by
  by_cases h3 : 3 < k
  · exact match_early k a s w h3
  have hk : k = 0 ∨ k = 1 ∨ k = 2 ∨ k = 3 := by omega
  by_cases e : a = s
  · subst e
    rcases hk with rfl | rfl | rfl | rfl
    · exact match0e a w
    · exact match1e a w
    · exact match2e a w
    · exact match3e a w
  · rcases hk with rfl | rfl | rfl | rfl
    · exact match0n a s w e
    · exact match1n a s w e
    · exact match2n a s w e
    · exact match3n a s w e
end Go.Proofs.Qxb6614319a
