import Derived.Test.Qxb6614319aRows
import Derived.WalkKit
import Derived.WalkSpells
import Derived.Below
import Derived.RegionTactic
import Derived.Deep.QuietTactic
import Derived.BigQuiet
import Derived.WalkSmall
import Derived.Deep.OwnRows
import Derived.WalkLawsBesides
namespace Go.Proofs.Qxb6614319a
open Go.RowKit
set_option linter.unusedVariables false

/-- What the loop of otherTwo knows: of the numbers below c, n have been taken, the first into X0, the second into X1; each number that was passed over is a or b. -/
def Taken (a b : Int) (c n : Nat) (X0 X1 : Int) : Prop :=
  n ≤ c ∧ (1 ≤ n → X0 ≠ a ∧ X0 ≠ b ∧ X0 < c) ∧ (2 ≤ n → X1 ≠ a ∧ X1 ≠ b ∧ X0 < X1) ∧ (c : Int) - n ≤ (if 0 ≤ a ∧ a < c then 1 else 0) + (if 0 ≤ b ∧ b < c then 1 else 0)
theorem Taken.start (a b : Int) : Taken a b 0 0 0 0 := by
  refine ⟨by omega, by omega, by omega, ?_⟩
  repeat' split
  all_goals omega
theorem Taken.pass {a b : Int} {c n : Nat} {X0 X1 : Int} (h : Taken a b c n X0 X1) (hc : (c : Int) = a ∨ (c : Int) = b) : Taken a b (c + 1) n X0 X1 := by
  obtain ⟨h1, h2, h3, h4⟩ := h
  refine ⟨by omega, fun h => ?_, h3, ?_⟩
  · obtain ⟨e1, e2, e3⟩ := h2 h; exact ⟨e1, e2, by omega⟩
  · rcases hc with hc | hc
    all_goals
      split at h4 <;> split at h4 <;> split <;> split
      all_goals omega
theorem Taken.take0 {a b : Int} {c : Nat} {X0 X1 : Int} (h : Taken a b c 0 X0 X1) (ha : (c : Int) ≠ a) (hb : (c : Int) ≠ b) : Taken a b (c + 1) 1 c X1 := by
  obtain ⟨h1, h2, h3, h4⟩ := h
  refine ⟨by omega, fun _ => ⟨ha, hb, by omega⟩, by omega, ?_⟩
  split at h4 <;> split at h4 <;> split <;> split
  all_goals omega
theorem Taken.take1 {a b : Int} {c : Nat} {X0 X1 : Int} (h : Taken a b c 1 X0 X1) (ha : (c : Int) ≠ a) (hb : (c : Int) ≠ b) : Taken a b (c + 1) 2 X0 c := by
  obtain ⟨h1, h2, h3, h4⟩ := h
  obtain ⟨e1, e2, e3⟩ := h2 (by omega)
  refine ⟨by omega, fun _ => ⟨e1, e2, by omega⟩, fun _ => ⟨ha, hb, e3⟩, ?_⟩
  split at h4 <;> split at h4 <;> split <;> split
  all_goals omega
theorem Taken.full {a b : Int} {n : Nat} {X0 X1 : Int} (h : Taken a b 4 n X0 X1) : 2 ≤ n := by
  obtain ⟨h1, h2, h3, h4⟩ := h
  split at h4 <;> split at h4
  all_goals omega

def pair (X0 X1 : Int) : Nat → Value := fun i => if i = 0 then .int .i32 X0 else .int .i32 X1

theorem otherTwo_any (a b : Int) (w : World) :
    Calls Try.prog 14 #[.int .i32 a, .int .i32 b] w fun e w' => ∃ X0 X1, e = .returned (.tuple #[.int .i32 X0, .int .i32 X1]) ∧ X0 ≠ a ∧ X0 ≠ b ∧ X1 ≠ a ∧ X1 ≠ b ∧ X0 ≠ X1 ∧ Below w.heap.size w w' := by
  go_enter Try.func14, Try.ntmps14
  go_wp2
  go_loopw [7, 8] (fun s7 s8 wr => ∃ (c n : Nat) (X0 X1 : Int), c ≤ 4 ∧ n ≤ 2 ∧ s7 = .int .i64 n ∧ s8 = .int .i32 c ∧ Hid (Taken a b c n X0 X1) ∧ wr.rowIs w.heap.size 58 2 (pair X0 X1) ∧ Below w.heap.size w wr) (fun _ s8 _ => 4 - (intOf s8).toNat)
  case atStart =>
    refine ⟨0, 0, 0, 0, by omega, by omega, rfl, rfl, Taken.start a b, ?_, (Below.refl _ _).alloc (Nat.le_refl _) _⟩
    refine World.rowIs_alloc w #[.int .i32 0, .int .i32 0] 58 (pair 0 0) (fun i hi => ?_)
    have h2 : i < 2 := hi
    match i, h2 with
    | 0, _ => rfl
    | 1, _ => rfl
  case round =>
    obtain ⟨c, n, X0, X1, hc, hn, rfl, rfl, HT, hrow, hB⟩ := hrel
    by_cases hlt : c < 4 ∧ n < 2
    · obtain ⟨hc4, hn2⟩ := hlt
      have z0 := hrow.frozen 0
      have z1 := hrow.frozen 1
      have e0 := hrow.cell (i := 0) (by omega)
      have e1 := hrow.cell (i := 1) (by omega)
      simp only [pair, if_true] at e0
      simp only [pair] at e1
      by_cases hab : (c : Int) = a ∨ (c : Int) = b
      · have HT' : Hid (Taken a b (c + 1) n X0 X1) := HT.out.pass hab
        clear HT z0 z1 e0 e1
        by_cases ha : (c : Int) = a
        · have ha' : ((c : Int) != a) = false := by simp [ha]
          clear ha hab
          go_wp2
          go_roundw
          case rel => exact ⟨c + 1, n, X0, X1, by omega, by omega, rfl, by go_num, HT', hrow, hB⟩
          case measure => simp [intOf]; omega
        · have hb' : ((c : Int) != b) = false := by rcases hab with e | e <;> simp_all
          have ha' : ((c : Int) != a) = true := by simp [ha]
          clear ha hab
          go_wp2
          go_roundw
          case rel => exact ⟨c + 1, n, X0, X1, by omega, by omega, rfl, by go_num, HT', hrow, hB⟩
          case measure => simp [intOf]; omega
      · have ha : (c : Int) ≠ a := fun e => hab (.inl e)
        have hb : (c : Int) ≠ b := fun e => hab (.inr e)
        have ha' : ((c : Int) != a) = true := by simp [ha]
        have hb' : ((c : Int) != b) = true := by simp [hb]
        have hn01 : n = 0 ∨ n = 1 := by omega
        rcases hn01 with rfl | rfl
        · have HT' : Hid (Taken a b (c + 1) 1 c X1) := HT.out.take0 ha hb
          have hrow' : Hid ((wr.setCell ⟨w.heap.size, 0, none⟩ (.int .i32 c)).rowIs w.heap.size 58 2 (pair c X1)) :=
            (hrow.set 0 (.int .i32 c)).congr (fun i hi => by match i, hi with | 0, _ => rfl | 1, _ => rfl)
          clear HT hrow ha hb hab
          go_wp2
          go_roundw
          case rel => exact ⟨c + 1, 1, c, X1, by omega, by omega, by go_num, by go_num, HT', hrow'.out, hB.setCell (Nat.le_refl _) _⟩
          case measure => simp [intOf]; omega
        · have HT' : Hid (Taken a b (c + 1) 2 X0 c) := HT.out.take1 ha hb
          have hrow' : Hid ((wr.setCell ⟨w.heap.size, 1, none⟩ (.int .i32 c)).rowIs w.heap.size 58 2 (pair X0 c)) :=
            (hrow.set 1 (.int .i32 c)).congr (fun i hi => by match i, hi with | 0, _ => rfl | 1, _ => rfl)
          clear HT hrow ha hb hab
          go_wp2
          go_roundw
          case rel => exact ⟨c + 1, 2, X0, c, by omega, by omega, by go_num, by go_num, HT', hrow'.out, hB.setCell (Nat.le_refl _) _⟩
          case measure => simp [intOf]; omega
    · have hn2 : n = 2 := by
        by_cases e : n < 2
        · have hc4 : c = 4 := by omega
          subst hc4
          have := HT.out.full
          omega
        · omega
      subst hn2
      have e0 := hrow.cell (i := 0) (by omega)
      have e1 := hrow.cell (i := 1) (by omega)
      simp only [pair, if_true] at e0
      simp only [pair] at e1
      obtain ⟨_, t1, t2, _⟩ := HT.out
      obtain ⟨p1, p2, p3⟩ := t1 (by omega)
      obtain ⟨p4, p5, p6⟩ := t2 (by omega)
      clear hlt HT t1 t2 hrow
      by_cases hc4 : (c : Int) < 4
      · go_wp2
        go_quiet (fail)
        go_wp2
        go_ret2
        exact ⟨X0, X1, rfl, p1, p2, p4, p5, by omega, below_drewN hB _⟩
      · go_wp2
        go_quiet (fail)
        go_wp2
        go_ret2
        exact ⟨X0, X1, rfl, p1, p2, p4, p5, by omega, below_drewN hB _⟩

/-! ### The register's operations, kind by kind -/
theorem zzCN0 (a s : Int) (w : World) : Calls Try.prog 16 #[.int .u8 0, .int .i32 a, .int .i32 s] w fun e w' => e = .returned (.bool true) ∧ Below w.heap.size w w' := by
  go_enter Try.func16, Try.ntmps16
  go_wp2
  go_ret
  exact ⟨rfl, (Below.refl _ _).alloc (Nat.le_refl _) _⟩
theorem zzCN1 (a s : Int) (w : World) : Calls Try.prog 16 #[.int .u8 1, .int .i32 a, .int .i32 s] w fun e w' => e = .returned (.bool false) ∧ Below w.heap.size w w' := by
  go_enter Try.func16, Try.ntmps16
  go_wp2
  go_ret
  exact ⟨rfl, (Below.refl _ _).alloc (Nat.le_refl _) _⟩
theorem zzCN2e (a s : Int) (w : World) (h : (a == s) = true) : Calls Try.prog 16 #[.int .u8 2, .int .i32 a, .int .i32 s] w fun e w' => e = .returned (.bool true) ∧ Below w.heap.size w w' := by
  go_enter Try.func16, Try.ntmps16
  go_wp2
  go_ret
  exact ⟨rfl, (Below.refl _ _).alloc (Nat.le_refl _) _⟩
theorem zzCN2n (a s : Int) (w : World) (h : (a == s) = false) : Calls Try.prog 16 #[.int .u8 2, .int .i32 a, .int .i32 s] w fun e w' => e = .returned (.bool false) ∧ Below w.heap.size w w' := by
  go_enter Try.func16, Try.ntmps16
  go_wp2
  go_ret
  exact ⟨rfl, (Below.refl _ _).alloc (Nat.le_refl _) _⟩
theorem zzCN3 (a s : Int) (w : World) : Calls Try.prog 16 #[.int .u8 3, .int .i32 a, .int .i32 s] w fun e w' => e = .returned (.bool true) ∧ Below w.heap.size w w' := by
  go_enter Try.func16, Try.ntmps16
  go_wp2
  go_ret
  exact ⟨rfl, (Below.refl _ _).alloc (Nat.le_refl _) _⟩
theorem zzNeeds0 (a s : Int) (w : World) : Calls Try.prog 17 #[.int .u8 0, .int .i32 a, .int .i32 s] w fun e w' => e = .returned (.bool true) ∧ Below w.heap.size w w' := by
  go_enter Try.func17, Try.ntmps17
  go_wp2
  go_ret
  exact ⟨rfl, (Below.refl _ _).alloc (Nat.le_refl _) _⟩
theorem zzNeeds1 (a s : Int) (w : World) : Calls Try.prog 17 #[.int .u8 1, .int .i32 a, .int .i32 s] w fun e w' => e = .returned (.bool false) ∧ Below w.heap.size w w' := by
  go_enter Try.func17, Try.ntmps17
  go_wp2
  go_ret
  exact ⟨rfl, (Below.refl _ _).alloc (Nat.le_refl _) _⟩
theorem zzNeeds2 (a s : Int) (w : World) : Calls Try.prog 17 #[.int .u8 2, .int .i32 a, .int .i32 s] w fun e w' => e = .returned (.bool true) ∧ Below w.heap.size w w' := by
  go_enter Try.func17, Try.ntmps17
  go_wp2
  go_ret
  exact ⟨rfl, (Below.refl _ _).alloc (Nat.le_refl _) _⟩
theorem zzNeeds3 (a s : Int) (w : World) : Calls Try.prog 17 #[.int .u8 3, .int .i32 a, .int .i32 s] w fun e w' => e = .returned (.bool false) ∧ Below w.heap.size w w' := by
  go_enter Try.func17, Try.ntmps17
  go_wp2
  go_ret
  exact ⟨rfl, (Below.refl _ _).alloc (Nat.le_refl _) _⟩
theorem zzShows0 (a s : Int) (w : World) : Calls Try.prog 18 #[.int .u8 0, .int .i32 a, .int .i32 s] w fun e w' => e = .returned (.tuple #[.int .i32 a, .bool true]) ∧ Below w.heap.size w w' := by
  go_enter Try.func18, Try.ntmps18
  go_wp2
  go_ret2
  exact ⟨rfl, (Below.refl _ _).alloc (Nat.le_refl _) _⟩
theorem zzShows1 (a s : Int) (w : World) : Calls Try.prog 18 #[.int .u8 1, .int .i32 a, .int .i32 s] w fun e w' => e = .returned (.tuple #[.int .i32 s, .bool true]) ∧ Below w.heap.size w w' := by
  go_enter Try.func18, Try.ntmps18
  go_wp2
  go_ret2
  exact ⟨rfl, (Below.refl _ _).alloc (Nat.le_refl _) _⟩
theorem zzShows2e (a s : Int) (w : World) (h : (a == s) = true) : Calls Try.prog 18 #[.int .u8 2, .int .i32 a, .int .i32 s] w fun e w' => e = .returned (.tuple #[.int .i32 a, .bool true]) ∧ Below w.heap.size w w' := by
  go_enter Try.func18, Try.ntmps18
  go_wp2
  go_ret2
  exact ⟨rfl, (Below.refl _ _).alloc (Nat.le_refl _) _⟩
theorem zzShows2n (a s : Int) (w : World) (h : (a == s) = false) : Calls Try.prog 18 #[.int .u8 2, .int .i32 a, .int .i32 s] w fun e w' => e = .returned (.tuple #[.int .i32 (-1), .bool true]) ∧ Below w.heap.size w w' := by
  go_enter Try.func18, Try.ntmps18
  go_wp2
  go_ret2
  exact ⟨rfl, (Below.refl _ _).alloc (Nat.le_refl _) _⟩
theorem zzShows3 (a s : Int) (w : World) : Calls Try.prog 18 #[.int .u8 3, .int .i32 a, .int .i32 s] w fun e w' => e = .returned (.tuple #[.int .i32 0, .bool false]) ∧ Below w.heap.size w w' := by
  go_enter Try.func18, Try.ntmps18
  go_wp2
  go_ret2
  exact ⟨rfl, (Below.refl _ _).alloc (Nat.le_refl _) _⟩
end Go.Proofs.Qxb6614319a
