import Derived.Test.Qxb6614319aOwn
import Derived.WalkLawsBesides
namespace Go.Proofs.Qxb6614319a
open Go.RowKit
set_option linter.unusedVariables false

theorem and_tab : ∀ i : Fin 32, (bits .and .u32 (2 ^ i.val) (2 ^ i.val - 1) == 0) = true := by decide +kernel
theorem pow_range : ∀ i : Fin 32, (1 : Int) ≤ 2 ^ i.val ∧ (2 : Int) ^ i.val ≤ 4294967295 := by decide +kernel

/-- oneBit at a power of two. -/
theorem oneBit_yes (i : Nat) (V : Int) (w : World) (hi : i < 32) (hV : V = 2 ^ i) :
    Calls Try.prog 11 #[.int .u32 V] w fun e w' => e = .returned (.bool true) ∧ w = w' := by
  have h1 : (bits .and .u32 V (V - 1) == 0) = true := by rw [hV]; exact and_tab ⟨i, hi⟩
  have h2 : 1 ≤ V ∧ V ≤ 4294967295 := by rw [hV]; exact pow_range ⟨i, hi⟩
  obtain ⟨h3, h4⟩ := h2
  have h5 : (V != 0) = true := by simp; omega
  clear hV
  go_enter Try.func11, Try.ntmps11
  go_wp2
  go_ret
  exact ⟨rfl, rfl⟩

/-- bitPos at a power of two. -/
theorem bitPos_at (i : Nat) (V : Int) (w : World) (hi : i < 32) (hV : V = 2 ^ i) :
    Calls Try.prog 12 #[.int .u32 V] w fun e w' => e = .returned (.int .i64 i) ∧ w = w' := by
  have HV : Hid (V = 2 ^ i) := hV
  clear hV
  go_enter Try.func12, Try.ntmps12
  go_wp2
  go_loop [0, 3] (fun v p => ∃ (j : Nat) (A : Int), j ≤ i ∧ v = .int .u32 A ∧ p = .int .i64 j ∧ Hid (A = 2 ^ (i - j))) (fun _ p => i - (intOf p).toNat)
  case atStart => exact ⟨0, V, by omega, rfl, rfl, HV⟩
  case round =>
    obtain ⟨j, A, hj, rfl, rfl, HA⟩ := hrel
    have hA : 1 ≤ A ∧ A ≤ 4294967295 := by rw [HA.out]; exact pow_range ⟨i - j, by omega⟩
    obtain ⟨hA1, hA2⟩ := hA
    by_cases hlt : j < i
    · have hs : A / 2 = 2 ^ (i - (j + 1)) ∧ 1 < A := by
        have e : (2 : Int) ^ (i - j) = 2 ^ (i - (j + 1)) * 2 := by rw [← Int.pow_succ]; congr 1; omega
        have hp : (0 : Int) < 2 ^ (i - (j + 1)) := Int.pow_pos (by decide)
        rw [HA.out, e]; omega
      obtain ⟨hs1, hs2⟩ := hs
      have HS : Hid (A / 2 = 2 ^ (i - (j + 1))) := hs1
      clear hs1
      go_wp2
      go_round
      case rel => exact ⟨j + 1, A / 2, by omega, by go_num, by go_num, HS⟩
      case measure => simp [intOf]; omega
    · obtain rfl : j = i := by omega
      have hs : A ≤ 1 := by rw [HA.out]; simp
      go_wp2
      go_ret
      exact ⟨rfl, rfl⟩
end Go.Proofs.Qxb6614319a
