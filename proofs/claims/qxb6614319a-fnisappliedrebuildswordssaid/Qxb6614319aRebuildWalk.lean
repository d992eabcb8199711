import Derived.Test.Qxb6614319aApplied
import Derived.Deep.DeepCutAuto
namespace Go.Proofs.Qxb6614319a
open Go.RowKit
set_option linter.unusedVariables false

theorem zzRebuild_any (a1 : Option Addr) (l1 c1 : Nat) (w : World) (h1 : l1 ≤ maxLen) :
    Calls Try.prog 19 #[.slice a1 l1 c1] w fun e w' => (∃ b, e = .returned (.bool b)) ∧ w = w' := by
  unfold maxLen at h1
  go_enter Try.func19, Try.ntmps19
  go_wp2
  all_goals (go_ret; exact ⟨⟨_, rfl⟩, rfl⟩)

theorem zzRebuild_yes (a1 : Option Addr) (l1 c1 : Nat) (w : World) (h1 : l1 ≤ 65536) :
    Calls Try.prog 19 #[.slice a1 l1 c1] w fun e w' => e = .returned (.bool true) ∧ w = w' := by
  go_enter Try.func19, Try.ntmps19
  go_wp2
  all_goals (go_ret; exact ⟨rfl, rfl⟩)

theorem rebuild_early (a1 : Option Addr) (l1 c1 : Nat) (w : World) (h1 : l1 ≤ maxLen) (h : 4096 < l1) :
    Calls Try.prog 7 #[.slice a1 l1 c1] w fun e w' => e = .returned (.bool true) ∧ w' = w := by
  have m1 := h1
  unfold maxLen at h1
  go_enter Try.func7, Try.ntmps7
  go_wp2_with (go_at_call 19; refine (zzRebuild_any _ _ _ _ m1).mono ?_; rintro e w' ⟨⟨b, rfl⟩, rfl⟩; cases b)
  all_goals (go_ret; exact ⟨rfl, rfl⟩)

/-! ### The plain law: a word out of its bits, the most significant first -/
theorem two_pow_pos (m : Nat) : (0 : Int) < 2 ^ m := Int.pow_pos (by decide)
theorem div_step (W : Int) (m : Nat) : W / 2 ^ m = 2 * (W / 2 ^ (m + 1)) + W / 2 ^ m % 2 := by
  have : W / 2 ^ (m + 1) = W / 2 ^ m / 2 := by rw [Int.pow_succ, Int.ediv_ediv_of_nonneg (Int.le_of_lt (two_pow_pos m))]
  rw [this]; omega
theorem div_yes {W : Int} {m : Nat} (h : bitAt W m = true) : W / 2 ^ (m + 1) * 2 + 1 = W / 2 ^ m := by
  have := div_step W m
  simp only [bitAt, decide_eq_true_eq] at h
  omega
theorem div_no {W : Int} {m : Nat} (h : bitAt W m = false) : W / 2 ^ (m + 1) * 2 = W / 2 ^ m := by
  have := div_step W m
  simp only [bitAt, decide_eq_false_iff_not] at h
  omega
theorem div_bounds {W : Int} (h0 : 0 ≤ W) (h1 : W ≤ 18446744073709551615) (m : Nat) : 0 ≤ W / 2 ^ (m + 1) ∧ W / 2 ^ (m + 1) ≤ 9223372036854775807 := by
  have hs := div_step W m
  have a0 : 0 ≤ W / 2 ^ (m + 1) := Int.ediv_nonneg h0 (Int.le_of_lt (two_pow_pos _))
  have a1 : W / 2 ^ m ≤ W := Int.ediv_le_self _ h0
  omega
theorem div_64 {W : Int} (h0 : 0 ≤ W) (h1 : W ≤ 18446744073709551615) : W / 2 ^ 64 = 0 := by
  have : (2 : Int) ^ 64 = 18446744073709551616 := by decide
  rw [this]; omega
theorem getD_bounds {z : List Int} (h : ∀ x ∈ z, 0 ≤ x ∧ x ≤ 18446744073709551615) (k : Nat) : 0 ≤ z.getD k 0 ∧ z.getD k 0 ≤ 18446744073709551615 := by
  by_cases hk : k < z.length
  · have : z.getD k 0 = z[k] := by simp [List.getD, hk]
    rw [this]
    exact h _ (List.getElem_mem hk)
  · have : z.getD k 0 = 0 := by simp [List.getD, hk]
    rw [this]; omega

set_option maxRecDepth 100000 in
theorem rebuild_main (a1 : Option Addr) (n c1 : Nat) (z1 : List Int) (w : World) (hn : n ≤ 4096) (h1 : RowIn .u64 w a1 n z1) (hz : ∀ x ∈ z1, 0 ≤ x ∧ x ≤ 18446744073709551615) :
    Calls Try.prog 7 #[.slice a1 n c1] w fun e w' => e = .returned (.bool true) ∧ Below w.heap.size w w' := by
  have hn' : n ≤ 65536 := by omega
  have hmk := make41 n hn'
  have H1 : Hid (RowIn .u64 w a1 n z1) := h1
  have HZ : Hid (∀ x ∈ z1, 0 ≤ x ∧ x ≤ 18446744073709551615) := hz
  clear h1 hz
  go_enter Try.func7, Try.ntmps7
  go_upto_if 14 with (go_at_call 19; refine (zzRebuild_yes _ _ _ _ hn').mono ?_; rintro e w' ⟨rfl, rfl⟩)
  go_cut [0, 3] (fun s1 s11 wc => ∃ ad c, s1 = .slice ad n c ∧ HasRow .u64 wc ad n z1 ∧ Below w.heap.size w wc)
  case first =>
    rcases H1.out with ⟨rfl, rfl⟩ | ⟨ad, rfl, hl, hc⟩
    · go_wp2
      go_meet
      case rel => exact ⟨_, _, rfl, hasRow_none, Below.refl _ _⟩
    · have hcp := copy_run Try.underlying39 size41 .u64 (.int .u64 0) z1 n c1 ad w w hl hc (Below.refl _ _)
      clear hc
      go_wp2
      go_meet
      case rel => exact ⟨_, _, rfl, hasRow_copied hl, (Below.refl _ w).alloc (Nat.le_refl _) _⟩
  case rest =>
    obtain ⟨ad1, d1, rfl, R1, hB1⟩ := hcut
    clear H1 hmk
    have HR1 : Hid (HasRow .u64 wc ad1 n z1) := R1
    have HB1 : Hid (Below w.heap.size w wc) := hB1
    clear R1 hB1
    go_wp2
    go_loopw [4] (fun i wr => ∃ k : Nat, k ≤ n ∧ i = .int .i64 k ∧ Below wc.heap.size wc wr) (fun i _ => n - (intOf i).toNat)
    case atStart => exact ⟨0, Nat.zero_le _, rfl, Below.refl _ _⟩
    case round =>
      obtain ⟨k, hk, rfl, hB⟩ := hrel
      by_cases hlt : k < n
      · obtain ⟨g, rfl, hg, hcs⟩ := HR1.out (by omega)
        obtain ⟨W, hWc, hW0, hW1⟩ : ∃ W : Int, wc.cell? ⟨g, k, none⟩ = some (.int .u64 W) ∧ 0 ≤ W ∧ W ≤ 18446744073709551615 :=
          ⟨_, hcs k hlt, getD_bounds HZ.out k⟩
        clear hcs HZ
        have HW : Hid (wc.cell? ⟨g, k, none⟩ = some (.int .u64 W)) := hWc
        clear hWc
        go_wp2
        go_loopw [5, 6] (fun acc b wx => ∃ (m : Nat) (A v : Int), m ≤ 64 ∧ v + 1 ≤ m ∧ m ≤ v + 1 ∧ b = .int .i64 v ∧ acc = .int .u64 A ∧ Hid (A = W / 2 ^ m) ∧ Below wc.heap.size wc wx) (fun _ b _ => (intOf b + 1).toNat)
        case atStart => exact ⟨64, 0, 63, by omega, by omega, by omega, rfl, rfl, (div_64 hW0 hW1).symm, hB⟩
        case round =>
          obtain ⟨m, A, v, hm, hv1, hv2, rfl, rfl, HA, hBx⟩ := hrel
          by_cases hv : 0 ≤ v
          · obtain ⟨m, rfl⟩ : ∃ m', m = m' + 1 := ⟨m - 1, by omega⟩
            obtain ⟨hA0, hA1⟩ : 0 ≤ A ∧ A ≤ 9223372036854775807 := by rw [HA.out]; exact div_bounds hW0 hW1 m
            have hcx : wr.cell? ⟨g, 0 + k, none⟩ = some (.int .u64 W) := by rw [Nat.zero_add]; exact (hBx.cell hg).trans HW.out
            have HX : Hid (wr.cell? ⟨g, 0 + k, none⟩ = some (.int .u64 W)) := hcx
            clear hcx
            cases hbit : bitAt W m
            · have HD : Hid (A * 2 = W / 2 ^ m) := by rw [HA.out]; exact div_no hbit
              go_wp2_with fail
              refine (zzApplied_any g 0 n d1 k m _ W _ (by omega) (by omega) (by omega) hlt hW0 hW1 (Nat.lt_of_lt_of_le hg hBx.size) HX.out).mono ?_
              rintro e w' ⟨rfl, hB2⟩
              go_wp2
              go_roundw
              case rel => exact ⟨m, A * 2, v - 1, by omega, by omega, by omega, by go_num, by go_num, HD, hBx.trans (hB2.mono hBx.size)⟩
              case measure => simp [intOf]; omega
            · have HD : Hid (A * 2 + 1 = W / 2 ^ m) := by rw [HA.out]; exact div_yes hbit
              go_wp2_with fail
              refine (zzApplied_any g 0 n d1 k m _ W _ (by omega) (by omega) (by omega) hlt hW0 hW1 (Nat.lt_of_lt_of_le hg hBx.size) HX.out).mono ?_
              rintro e w' ⟨rfl, hB2⟩
              go_wp2
              go_roundw
              case rel => exact ⟨m, A * 2 + 1, v - 1, by omega, by omega, by omega, by go_num, by go_num, HD, hBx.trans (hB2.mono hBx.size)⟩
              case measure => simp [intOf]; omega
          · obtain rfl : m = 0 := by omega
            obtain rfl : A = W := by rw [HA.out]; simp
            have hcx : wr.cell? ⟨g, k, none⟩ = some (.int .u64 A) := (hBx.cell hg).trans HW.out
            clear HA
            go_wp2
            go_roundw
            case rel => exact ⟨k + 1, by omega, by go_num, hBx⟩
            case measure => simp [intOf]; omega
      · go_wp2
        go_ret
        exact ⟨rfl, HB1.out.trans (hB.mono HB1.out.size)⟩
end Go.Proofs.Qxb6614319a
