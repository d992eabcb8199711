import Derived.Test.Qxb6614319aApplied
import Derived.Deep.DeepCutAuto
namespace Go.Proofs.Qxb6614319a
open Go.RowKit
set_option linter.unusedVariables false

theorem getD_bounds {z : List Int} (h : ∀ x ∈ z, 0 ≤ x ∧ x ≤ 18446744073709551615) (k : Nat) : 0 ≤ z.getD k 0 ∧ z.getD k 0 ≤ 18446744073709551615 := by
  by_cases hk : k < z.length
  · have : z.getD k 0 = z[k] := by simp [List.getD, hk]
    rw [this]
    exact h _ (List.getElem_mem hk)
  · have : z.getD k 0 = 0 := by simp [List.getD, hk]
    rw [this]; omega

theorem zzCut_any (a1 : Option Addr) (l1 c1 : Nat) (i k : Int) (w : World) (h1 : l1 ≤ maxLen) :
    Calls Try.prog 21 #[.slice a1 l1 c1, .int .i32 i, .int .i64 k] w fun e w' => (∃ b, e = .returned (.bool b)) ∧ w = w' := by
  unfold maxLen at h1
  go_enter Try.func21, Try.ntmps21
  go_wp2
  all_goals (go_ret; exact ⟨⟨_, rfl⟩, rfl⟩)

theorem zzCut_yes (a1 : Option Addr) (l1 c1 : Nat) (i k : Int) (w : World) (h1 : l1 ≤ 65536) :
    Calls Try.prog 21 #[.slice a1 l1 c1, .int .i32 i, .int .i64 k] w fun e w' => e = .returned (.bool true) ∧ w = w' := by
  go_enter Try.func21, Try.ntmps21
  go_wp2
  all_goals (go_ret; exact ⟨rfl, rfl⟩)

theorem cut_early (a1 : Option Addr) (l1 c1 : Nat) (i k : Int) (w : World) (h1 : l1 ≤ maxLen) (i1 : -2147483648 ≤ i) (i2 : i ≤ 2147483647)
    (h : ¬ (l1 ≤ 65536 ∧ 0 ≤ i ∧ i / 64 < l1 ∧ 0 ≤ k ∧ k ≤ i / 64)) :
    Calls Try.prog 8 #[.slice a1 l1 c1, .int .i32 i, .int .i64 k] w fun e w' => e = .returned (.bool true) ∧ w' = w := by
  have m1 := h1
  unfold maxLen at h1
  rcases Nat.lt_or_ge 65536 l1 with g1 | g1
  · clear h
    go_enter Try.func8, Try.ntmps8
    go_wp2_with (go_at_call 21; refine (zzCut_any _ _ _ _ _ _ m1).mono ?_; rintro e w' ⟨⟨b, rfl⟩, rfl⟩; cases b)
    all_goals (go_ret; exact ⟨rfl, rfl⟩)
  rcases Int.lt_or_le i 0 with g2 | g2
  · clear h
    go_enter Try.func8, Try.ntmps8
    go_wp2_with (go_at_call 21; refine (zzCut_yes _ _ _ _ _ _ g1).mono ?_; rintro e w' ⟨rfl, rfl⟩)
    all_goals (go_ret; exact ⟨rfl, rfl⟩)
  rcases Int.lt_or_le (i / 64) l1 with g3 | g3
  · rcases Int.lt_or_le k 0 with g4 | g4
    · clear h
      go_enter Try.func8, Try.ntmps8
      go_wp2_with (go_at_call 21; refine (zzCut_yes _ _ _ _ _ _ g1).mono ?_; rintro e w' ⟨rfl, rfl⟩)
      all_goals (go_ret; exact ⟨rfl, rfl⟩)
    have g5 : i / 64 < k := by
      rcases Int.lt_or_le (i / 64) k with e | e
      · exact e
      · exact absurd ⟨g1, g2, g3, g4, e⟩ h
    clear h
    go_enter Try.func8, Try.ntmps8
    go_wp2_with (go_at_call 21; refine (zzCut_yes _ _ _ _ _ _ g1).mono ?_; rintro e w' ⟨rfl, rfl⟩)
    all_goals (go_ret; exact ⟨rfl, rfl⟩)
  · clear h
    go_enter Try.func8, Try.ntmps8
    go_wp2_with (go_at_call 21; refine (zzCut_yes _ _ _ _ _ _ g1).mono ?_; rintro e w' ⟨rfl, rfl⟩)
    all_goals (go_ret; exact ⟨rfl, rfl⟩)

set_option maxRecDepth 100000 in
theorem cut_main (a1 : Option Addr) (n c1 k q r : Nat) (i : Int) (z1 : List Int) (w : World) (hn : n ≤ 65536) (hi2 : i ≤ 2147483647) (hi : i = 64 * q + r) (hr : r < 64) (hq : q < n) (hkq : k ≤ q)
    (h1 : RowIn .u64 w a1 n z1) (hz : 0 ≤ z1.getD q 0 ∧ z1.getD q 0 ≤ 18446744073709551615) :
    Calls Try.prog 8 #[.slice a1 n c1, .int .i32 i, .int .i64 (k : Int)] w fun e w' => e = .returned (.bool true) ∧ Below w.heap.size w w' := by
  have hmk := make41 n hn
  have H1 : Hid (RowIn .u64 w a1 n z1) := h1
  have hi0 : 0 ≤ i := by omega
  have hin : i / 64 < n := by omega
  have hki : k ≤ i / 64 := by omega
  have HI : Hid (i = 64 * q + r) := hi
  have HZ : Hid (0 ≤ z1.getD q 0 ∧ z1.getD q 0 ≤ 18446744073709551615) := hz
  clear h1 hi hz
  go_enter Try.func8, Try.ntmps8
  go_upto_if 42 with (go_at_call 21; refine (zzCut_yes _ _ _ _ _ _ hn).mono ?_; rintro e w' ⟨rfl, rfl⟩)
  go_cut [0, 7] (fun s1 s11 wc => ∃ g c, s1 = .slice (some ⟨g, 0, none⟩) n c ∧ n ≤ c ∧ g < wc.heap.size ∧ (∀ j, j < n → wc.cell? ⟨g, j, none⟩ = some (.int .u64 (z1.getD j 0))) ∧ Below w.heap.size w wc)
  case first =>
    rcases H1.out with ⟨rfl, rfl⟩ | ⟨ad, rfl, hl, hc⟩
    · omega
    · have hcp := copy_run Try.underlying39 size41 .u64 (.int .u64 0) z1 n c1 ad w w hl hc (Below.refl _ _)
      clear hc
      go_wp2
      go_meet
      case rel =>
        obtain ⟨g, e, h2, h3⟩ := hasRow_copied (k := .u64) (w := w) (t := 41) hl (by omega)
        simp only [Option.some.injEq, Addr.mk.injEq, and_true] at e
        subst e
        exact ⟨_, _, rfl, Nat.le_refl _, h2, h3, (Below.refl _ w).alloc (Nat.le_refl _) _⟩
  case rest =>
    obtain ⟨g, c, rfl, hnc, hg, hcs, hB1⟩ := hcut
    clear H1 hmk
    obtain ⟨W, hWc, hW0, hW1⟩ : ∃ W : Int, wc.cell? ⟨g, q, none⟩ = some (.int .u64 W) ∧ 0 ≤ W ∧ W ≤ 18446744073709551615 := ⟨_, hcs q hq, HZ.out⟩
    have HW : Hid (wc.cell? ⟨g, q, none⟩ = some (.int .u64 W)) := hWc
    have HW' : Hid (wc.cell? ⟨g, 0 + q, none⟩ = some (.int .u64 W)) := by rw [Nat.zero_add]; exact hWc
    clear hcs HZ hWc
    go_wp2_with fail
    refine (zzApplied_any g 0 n c q r i W _ hi2 HI.out hr hq hW0 hW1 hg HW'.out).mono ?_
    rintro e w1 ⟨rfl, b1⟩
    have HW1 : Hid (w1.cell? ⟨g, k + (q - k), none⟩ = some (.int .u64 W)) := by
      have e : k + (q - k) = q := by omega
      rw [e]; exact (b1.cell hg).trans HW.out
    have hik : i - (k : Int) * 64 = 64 * ((q - k : Nat) : Int) + r := by have := HI.out; omega
    have HIK : Hid (i - (k : Int) * 64 = 64 * ((q - k : Nat) : Int) + r) := hik
    clear hik
    go_wp2_with fail
    refine (zzApplied_any g k (n - k) (c - k) (q - k) r _ W _ (by omega) HIK.out hr (by omega) hW0 hW1 (Nat.lt_of_lt_of_le hg b1.size) HW1.out).mono ?_
    rintro e w2 ⟨rfl, b2⟩
    have hcx : w2.cell? ⟨g, (i / 64).toNat, none⟩ = some (.int .u64 W) := by
      have e : (i / 64).toNat = q := by have := HI.out; omega
      rw [e]; exact (b2.cell (Nat.lt_of_lt_of_le hg b1.size)).trans ((b1.cell hg).trans HW.out)
    have hir : i % 64 ≤ r ∧ r ≤ i % 64 := by have := HI.out; omega
    obtain ⟨hr1, hr2⟩ := hir
    clear HIK HW1 HW HW' HI
    have fin : Below w.heap.size w w2 := (hB1.trans (b1.mono hB1.size)).trans (b2.mono (Nat.le_trans hB1.size b1.size))
    clear hB1 b1 b2
    go_wp2
    go_loop [10, 11] (fun s t => ∃ (m : Nat) (A : Int), m ≤ r ∧ t = .int .i32 m ∧ s = .int .u64 A ∧ 0 ≤ A ∧ A ≤ 18446744073709551615 ∧ Hid (A = W / 2 ^ m)) (fun _ t => r - (intOf t).toNat)
    case atStart => exact ⟨0, W, by omega, rfl, rfl, hW0, hW1, show W = W / 2 ^ 0 by simp⟩
    case round =>
      obtain ⟨m, A, hm, rfl, rfl, hA0, hA1, HA⟩ := hrel
      clear hcx
      by_cases hlt : m < r
      · have HD : Hid (A / 2 = W / 2 ^ (m + 1)) := by
          rw [HA.out, Int.pow_succ, Int.ediv_ediv_of_nonneg (Int.pow_nonneg (by decide))]
          exact rfl
        go_wp2
        go_round
        case rel => exact ⟨m + 1, A / 2, by omega, by go_num, by go_num, by omega, by omega, HD⟩
        case measure => simp [intOf]; omega
      · obtain rfl : m = r := by omega
        cases hbit : bitAt W m
        · have hA : (A % 2 == 1) = false := by
            rw [HA.out]; simpa [bitAt] using hbit
          go_wp2
          go_ret
          exact ⟨rfl, fin⟩
        · have hA : (A % 2 == 1) = true := by
            rw [HA.out]; simpa [bitAt] using hbit
          go_wp2
          go_ret
          exact ⟨rfl, fin⟩
end Go.Proofs.Qxb6614319a
