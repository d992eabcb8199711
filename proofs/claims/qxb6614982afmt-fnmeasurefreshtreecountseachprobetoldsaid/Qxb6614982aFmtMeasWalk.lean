import Derived.Test.Qxb6614982aFmtTree
import Derived.Deep.RegionWith
import Derived.Deep.DeepCutAuto
namespace Go.Proofs.Qxb6614982aFmt
open Go.RowKit
set_option linter.unusedVariables false

theorem store_float (P : Program) (w : World) (a : Addr) (k : FloatKind) (n : Nat) (m : Mode) : (store a (.float k n) m).run P w = stored P w a (.float k n) m := run_store P w a _ m rfl
attribute [local go_sem] store_float

theorem zzMeas_any (x t : Nat) (lv bu : Int) (s : ByteArray) (a1 a2 : Option Addr) (l1 c1 l2 c2 : Nat) (w : World) (hs : s.size ≤ maxLen) (h1 : l1 ≤ maxLen) (h2 : l2 ≤ maxLen) :
    Calls Tryf.prog 4 #[.float .f64 x, .float .f64 t, .int .i64 lv, .string s, .int .i64 bu, .slice a1 l1 c1, .slice a2 l2 c2] w fun e w' => (∃ b, e = .returned (.bool b)) ∧ w = w' := by
  unfold maxLen at h1 h2 hs
  go_enter Tryf.func4, Tryf.ntmps4
  go_wp2
  all_goals (go_ret; exact ⟨⟨_, rfl⟩, rfl⟩)

theorem zzMeas_yes (x t : Nat) (lv bu : Int) (s : ByteArray) (a1 a2 : Option Addr) (l1 c1 l2 c2 : Nat) (w : World) (hs : s.size ≤ 65536) (h1 : l1 ≤ 65536) (h2 : l2 ≤ 65536) :
    Calls Tryf.prog 4 #[.float .f64 x, .float .f64 t, .int .i64 lv, .string s, .int .i64 bu, .slice a1 l1 c1, .slice a2 l2 c2] w fun e w' => e = .returned (.bool true) ∧ w = w' := by
  go_enter Tryf.func4, Tryf.ntmps4
  go_wp2
  all_goals (go_ret; exact ⟨rfl, rfl⟩)

set_option maxHeartbeats 1000000 in
theorem meas_early (x t : Nat) (lv bu : Int) (s : ByteArray) (a1 a2 : Option Addr) (l1 c1 l2 c2 : Nat) (w : World) (hs : s.size ≤ maxLen) (h1 : l1 ≤ maxLen) (h2 : l2 ≤ maxLen)
    (h : ¬ (s.size ≤ 65536 ∧ l1 ≤ 65536 ∧ s.size + 8 * l1 + 8 * l2 ≤ 1048576 ∧ l1 = l2 ∧ 1 ≤ lv ∧ knownB s = true)) :
    Calls Tryf.prog 3 #[.float .f64 x, .float .f64 t, .int .i64 lv, .string s, .int .i64 bu, .slice a1 l1 c1, .slice a2 l2 c2] w fun e w' => e = .returned (.bool true) ∧ w' = w := by
  have ms := hs
  have m1 := h1
  have m2 := h2
  unfold maxLen at h1 h2 hs
  rcases Nat.lt_or_ge 65536 s.size with gs | gs
  · clear h
    go_enter Tryf.func3, Tryf.ntmps3
    go_wp2_with (go_at_call 4; refine (zzMeas_any _ _ _ _ _ _ _ _ _ _ _ _ ms m1 m2).mono ?_; rintro e w' ⟨⟨b, rfl⟩, rfl⟩; cases b)
    all_goals (go_ret; exact ⟨rfl, rfl⟩)
  rcases Nat.lt_or_ge 65536 l1 with g1 | g1
  · clear h
    go_enter Tryf.func3, Tryf.ntmps3
    go_wp2_with (go_at_call 4; refine (zzMeas_any _ _ _ _ _ _ _ _ _ _ _ _ ms m1 m2).mono ?_; rintro e w' ⟨⟨b, rfl⟩, rfl⟩; cases b)
    all_goals (go_ret; exact ⟨rfl, rfl⟩)
  rcases Nat.lt_or_ge 65536 l2 with g2 | g2
  · clear h
    go_enter Tryf.func3, Tryf.ntmps3
    go_wp2_with (go_at_call 4; refine (zzMeas_any _ _ _ _ _ _ _ _ _ _ _ _ ms m1 m2).mono ?_; rintro e w' ⟨⟨b, rfl⟩, rfl⟩; cases b)
    all_goals (go_ret; exact ⟨rfl, rfl⟩)
  rcases Nat.lt_or_ge 1048576 (s.size + 8 * l1 + 8 * l2) with g0 | g0
  · clear h
    go_enter Tryf.func3, Tryf.ntmps3
    go_wp2_with (first | (go_at_call 4; refine (zzMeas_yes _ _ _ _ _ _ _ _ _ _ _ _ gs g1 g2).mono ?_; rintro e w' ⟨rfl, rfl⟩) | (go_at_call 5; refine (known_any _ _).mono ?_; rintro e w' ⟨rfl, rfl⟩))
    all_goals (go_ret; exact ⟨rfl, rfl⟩)
  by_cases g3 : (l1 : Int) ≠ (l2 : Int)
  · clear h
    have g3' : ((l1 : Int) != (l2 : Int)) = true := by simpa using g3
    clear g3
    go_enter Tryf.func3, Tryf.ntmps3
    go_wp2_with (first | (go_at_call 4; refine (zzMeas_yes _ _ _ _ _ _ _ _ _ _ _ _ gs g1 g2).mono ?_; rintro e w' ⟨rfl, rfl⟩) | (go_at_call 5; refine (known_any _ _).mono ?_; rintro e w' ⟨rfl, rfl⟩))
    all_goals (go_ret; exact ⟨rfl, rfl⟩)
  obtain rfl : l1 = l2 := by omega
  clear g3
  rcases Int.lt_or_le lv 1 with g4 | g4
  · clear h
    go_enter Tryf.func3, Tryf.ntmps3
    go_wp2_with (first | (go_at_call 4; refine (zzMeas_yes _ _ _ _ _ _ _ _ _ _ _ _ gs g1 g2).mono ?_; rintro e w' ⟨rfl, rfl⟩) | (go_at_call 5; refine (known_any _ _).mono ?_; rintro e w' ⟨rfl, rfl⟩))
    all_goals (go_ret; exact ⟨rfl, rfl⟩)
  have g5 : knownB s = false := by
    cases e : knownB s
    · rfl
    · exact absurd ⟨gs, g1, g0, rfl, g4, e⟩ h
  clear h
  go_enter Tryf.func3, Tryf.ntmps3
  go_wp2_with (first | (go_at_call 4; refine (zzMeas_yes _ _ _ _ _ _ _ _ _ _ _ _ gs g1 g2).mono ?_; rintro e w' ⟨rfl, rfl⟩) | (go_at_call 5; refine (known_any _ _).mono ?_; rintro e w' ⟨rfl, rfl⟩))
  all_goals (go_ret; exact ⟨rfl, rfl⟩)

/-- What the walk is told of a slice that came in. -/
def RowIn (w : World) (a : Option Addr) (n : Nat) (z : List Int) : Prop :=
  0 < n → ∃ b off, a = some ⟨b, off, none⟩ ∧ b < w.heap.size ∧ ∀ j, j < n → w.cell? ⟨b, off + j, none⟩ = some (.int .i64 (z.getD j 0))

theorem one_eq : (FloatKind.f64.format.order 4607182418800017408 4607182418800017408 == some Ordering.eq) = true := by decide +kernel

set_option maxRecDepth 100000 in
set_option maxHeartbeats 1000000 in
theorem meas_main (x t : Nat) (lv bu : Int) (s : ByteArray) (a1 a2 : Option Addr) (n c1 c2 : Nat) (z1 z2 : List Int) (w : World) (gs : s.size ≤ 65536) (hn : n ≤ 65536) (h0 : s.size + 8 * n + 8 * n ≤ 1048576) (hl : 1 ≤ lv) (hk : knownB s = true)
    (h1 : RowIn w a1 n z1) (h2 : RowIn w a2 n z2) :
    Calls Tryf.prog 3 #[.float .f64 x, .float .f64 t, .int .i64 lv, .string s, .int .i64 bu, .slice a1 n c1, .slice a2 n c2] w fun e w' => e = .returned (.bool true) ∧ Below w.heap.size w w' := by
  have H1 : Hid (RowIn w a1 n z1) := h1
  have H2 : Hid (RowIn w a2 n z2) := h2
  clear h1 h2
  go_enter Tryf.func3, Tryf.ntmps3
  go_wp2_with (first | (go_at_call 4; refine (zzMeas_yes _ _ _ _ _ _ _ _ _ _ _ _ gs hn hn).mono ?_; rintro e w' ⟨rfl, rfl⟩) | (go_at_call 5; refine (known_any _ _).mono ?_; rintro e w' ⟨rfl, rfl⟩))
  refine (zzNew_any x t lv bu s _ hl hk).mono ?_
  rintro e w1 ⟨b, xb, rfl, T1, hb, B1⟩
  have HT : Hid (Tree w1 b xb x 0) := T1
  have HB : Hid (Below w.heap.size w w1) := ((Below.refl _ _).alloc (Nat.le_refl _) _).trans (B1.mono (by simp))
  have hbw : w.heap.size ≤ b := by simp only [World.size_alloc] at hb; omega
  clear T1 B1 hb
  go_wp2
  go_loopw [17] (fun i wr => ∃ k : Nat, k ≤ n ∧ i = .int .i64 k ∧ Hid (Tree wr b xb x k) ∧ Hid (Below w.heap.size w wr)) (fun i _ => n - (intOf i).toNat)
  case atStart => exact ⟨0, Nat.zero_le _, rfl, HT, HB⟩
  case round =>
    obtain ⟨k, hkn, rfl, HT, HB⟩ := hrel
    by_cases hlt : k < n
    · obtain ⟨b1, o1, rfl, hb1, hc1⟩ := H1.out (by omega)
      obtain ⟨b2, o2, rfl, hb2, hc2⟩ := H2.out (by omega)
      have d1 : wr.cell? ⟨b1, o1 + k, none⟩ = some (.int .i64 (z1.getD k 0)) := (HB.out.cell hb1).trans (hc1 k hlt)
      have d2 : wr.cell? ⟨b2, o2 + k, none⟩ = some (.int .i64 (z2.getD k 0)) := (HB.out.cell hb2).trans (hc2 k hlt)
      clear hc1 hc2
      have HTd : Hid (Tree wr.drew b xb x k) := HT.out
      have HTs : Hid (Tree (wr.drew.setCell ⟨b, 8, none⟩ (.int .i64 ((k : Int) + 1))) b xb x ((k : Int) + 1)) := HTd.out.step _
      have k0 : (0 : Int) ≤ (k : Int) := by omega
      have k1 : (k : Int) < 9223372036854775807 := by omega
      go_wp2
      go_region_with (go_at_call 7; refine (zzMeasure_any b xb x k _ _ _ k0 k1 HTd.out).mono ?_; rintro e w' ⟨rfl, rfl⟩)
      all_goals
        go_wp2_with (first | (go_at_call 8; refine (same_any x _).mono ?_; rintro e w' ⟨rfl, rfl⟩) | (go_at_call 9; refine (zzProbes_any b xb x ((k : Int) + 1) _ (by exact HTs.out)).mono ?_; rintro e w' ⟨rfl, rfl⟩))
        go_roundw
        case rel => exact ⟨k + 1, by omega, by go_num, (by exact HTs.out), (HB.out.setCell hbw _).drew⟩
        case measure => simp [intOf]; omega
    · obtain rfl : k = n := by omega
      have hone := one_eq
      go_wp2_with (first | (go_at_call 9; refine (zzProbes_any b xb x _ _ HT.out).mono ?_; rintro e w' ⟨rfl, rfl⟩) | (go_at_call 10; refine (zzMax_any b xb x _ _ HT.out).mono ?_; rintro e w' ⟨rfl, rfl⟩) | (go_at_call 11; refine (clusters_any b xb x _ _ HT.out).mono ?_; rintro e w' ⟨rfl, rfl⟩) | (go_at_call 12; refine (agreement_any b xb x _ _ HT.out).mono ?_; rintro e w' ⟨rfl, rfl⟩))
      go_ret
      exact ⟨rfl, HB.out⟩
end Go.Proofs.Qxb6614982aFmt
