import Derived.Test.Qxb6614319aCopy
import Derived.WalkLawsBesides
import Derived.Laws.ShiftsVarLaws
namespace Go.Proofs.Qxb6614319a
open Go.RowKit
set_option linter.unusedVariables false

/-- Bit r of the word W. -/
def bitAt (W : Int) (r : Nat) : Bool := decide (W / 2 ^ r % 2 = 1)
theorem pow64 {r : Nat} (h : r < 64) : (2 : Int) ^ r < 18446744073709551616 := by
  have : (2 : Int) ^ r < 2 ^ 64 := Int.pow_lt_pow_of_lt (by decide) h
  simpa using this
theorem pow_nonneg' (r : Nat) : (0 : Int) ≤ 2 ^ r := Int.pow_nonneg (by decide)
theorem bit_and (W : Int) (r : Nat) (h0 : 0 ≤ W) (h1 : W ≤ 18446744073709551615) (hr : r < 64) : (bits .and .u64 W (IntKind.u64.wrap (2 ^ r)) != 0) = bitAt W r := by
  have hp := pow64 hr
  have hp0 := pow_nonneg' r
  have hw : IntKind.u64.wrap (2 ^ r) = 2 ^ r := by rw [IntKind.wrap_u64]; exact Int.emod_eq_of_lt hp0 hp
  rw [hw, u64_and W _ h0 (by omega) hp0 hp, bitAt, Bool.eq_iff_iff]
  have := and_two_pow_eq_zero W r h0
  simp only [bne_iff_ne, decide_eq_true_eq]
  constructor
  · intro h
    by_cases e : W / 2 ^ r % 2 = 1
    · exact e
    · exact absurd (by exact_mod_cast this.2 e) h
  · intro h e
    exact this.1 (by exact_mod_cast e) h

/-- isApplied. -/
theorem isApplied_any (b g off n c q r : Nat) (i W : Int) (w : World) (hi1 : i ≤ 2147483647) (hi : i = 64 * q + r) (hr : r < 64) (hq : q < n) (hW0 : 0 ≤ W) (hW1 : W ≤ 18446744073709551615)
    (h6 : w.cell? ⟨b, 6, none⟩ = some (.slice (some ⟨g, off, none⟩) n c)) (hc : w.cell? ⟨g, off + q, none⟩ = some (.int .u64 W)) :
    Calls Try.prog 26 #[.pointer (some ⟨b, 0, none⟩), .int .i32 i] w fun e w' => e = .returned (.bool (bitAt W r)) ∧ Below w.heap.size w w' := by
  have hi0 : 0 ≤ i := by omega
  have hin : i / 64 < n := by omega
  have e1 : (i / 64).toNat = q := by omega
  have e2 : (i % 64).toNat = r := by omega
  have E : Hid ((bits .and .u64 W (IntKind.u64.wrap (2 ^ (i % 64).toNat)) != 0) = bitAt W r) := by rw [e2]; exact bit_and W r hW0 hW1 hr
  have hc' : w.cell? ⟨g, off + (i / 64).toNat, none⟩ = some (.int .u64 W) := by rw [e1]; exact hc
  clear hi e1 e2 hc hr hq
  go_enter Try.func26, Try.ntmps26
  go_wp2
  go_quiet (fail)
  go_wp2
  go_ret
  refine ⟨?_, below_drewN (Below.refl _ _) _⟩
  rw [← E.out]; rfl

theorem built91 (a : Option Addr) (n c : Nat) : ∃ cells : Array Value, Try.prog.built 91 [(6, .slice a n c)] = some cells ∧ cells[6]? = some (.slice a n c) :=
  ⟨(Try.prog.built 91 [(6, .slice a n c)]).getD #[], by kernel_rfl, by kernel_rfl⟩
theorem build91 (a : Option Addr) (n c : Nat) : ∃ cells : Array Value, (∀ w, (Instr.build 91 #[(6, .slice a n c)]).run Try.prog w = .ok (.agg cells) w) ∧ cells[6]? = some (.slice a n c) := by
  obtain ⟨cs, h, h6⟩ := built91 a n c
  exact ⟨cs, fun w => run_build w 91 _ _ h, h6⟩
theorem wpList_build91 {ops : Array Oper} {rest : List Oper} {o : Oper} {a : Act} {w : World} {Q : Exit → Act → World → Prop} {cells : Array Value} {ad : Option Addr} {n c : Nat}
    (hb : ∀ w, (Instr.build 91 #[(6, .slice ad n c)]).run Try.prog w = .ok (.agg cells) w) (hg : o.guard = none) (ho : o.op = .build 91 #[(6, .tmp 6)]) (hx : a.eval (.tmp 6) = .slice ad n c)
    (h : wpList Try.prog ops Q rest (a.put o.dst (.agg cells)) w) : wpList Try.prog ops Q (o :: rest) a w := by
  refine wpList_plain hg fun K hK => ?_
  unfold Oper.wp
  have e : (#[(6, (Operand.tmp 6))] : Array (Nat × Operand)).map (fun (i, x) => (i, a.eval x)) = #[(6, .slice ad n c)] := by simp [hx]
  simp only [execOp, ho, Sem.run_bind, e, hb, Result.andThen_ok]
  exact hK _ _ h

/-- ZZisApplied. -/
theorem zzApplied_any (g off n c q r : Nat) (i W : Int) (w : World) (hi1 : i ≤ 2147483647) (hi : i = 64 * q + r) (hr : r < 64) (hq : q < n) (hW0 : 0 ≤ W) (hW1 : W ≤ 18446744073709551615)
    (hg : g < w.heap.size) (hc : w.cell? ⟨g, off + q, none⟩ = some (.int .u64 W)) :
    Calls Try.prog 20 #[.slice (some ⟨g, off, none⟩) n c, .int .i32 i] w fun e w' => e = .returned (.bool (bitAt W r)) ∧ Below w.heap.size w w' := by
  have HI : Hid (i = 64 * q + r) := hi
  have HCC : Hid (w.cell? ⟨g, off + q, none⟩ = some (.int .u64 W)) := hc
  clear hi hc
  obtain ⟨cells, hbd, h6⟩ := build91 (some ⟨g, off, none⟩) n c
  have h6' : (w.alloc (.cells cells 91)).cell? ⟨w.heap.size, 6, none⟩ = some (.slice (some ⟨g, off, none⟩) n c) := by
    have : (w.alloc (.cells cells 91)).heap[w.heap.size]? = some (.cells cells 91 (0, 0)) := Deep.blk_alloc_new _ _
    simp only [World.cell?, this]
    exact h6
  go_enter Try.func20, Try.ntmps20
  go_wp2_with (refine wpList_build91 hbd rfl rfl rfl ?_)
  refine (isApplied_any w.heap.size g off n c q r i W _ hi1 HI.out hr hq hW0 hW1 h6' (cell_later ((Below.refl _ w).alloc (Nat.le_refl _) _) HCC.out)).mono ?_
  rintro e w' ⟨rfl, hB⟩
  go_wp2
  go_ret
  exact ⟨rfl, ((Below.refl _ w).alloc (Nat.le_refl _) _).trans (hB.mono (by simp))⟩
end Go.Proofs.Qxb6614319a
