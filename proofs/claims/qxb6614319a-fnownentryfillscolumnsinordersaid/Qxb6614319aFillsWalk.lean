import Derived.Test.Qxb6614319aCopy
import Derived.Deep.DeepCutAuto
import Derived.WalkLawsBesides
namespace Go.Proofs.Qxb6614319a
open Go.RowKit
set_option linter.unusedVariables false

theorem zzFills_any (k wd x : Int) (a1 a2 : Option Addr) (l1 c1 l2 c2 : Nat) (w : World) (h1 : l1 ≤ maxLen) (h2 : l2 ≤ maxLen) :
    Calls Try.prog 13 #[.int .i32 k, .slice a1 l1 c1, .slice a2 l2 c2, .int .i32 wd, .int .i32 x] w fun e w' => (∃ b, e = .returned (.bool b)) ∧ w = w' := by
  unfold maxLen at h1 h2
  go_enter Try.func13, Try.ntmps13
  go_wp2
  all_goals (go_ret; exact ⟨⟨_, rfl⟩, rfl⟩)

theorem zzFills_yes (k wd x : Int) (a1 a2 : Option Addr) (l1 c1 l2 c2 : Nat) (w : World) (h1 : l1 ≤ 65536) (h2 : l2 ≤ 65536) :
    Calls Try.prog 13 #[.int .i32 k, .slice a1 l1 c1, .slice a2 l2 c2, .int .i32 wd, .int .i32 x] w fun e w' => e = .returned (.bool true) ∧ w = w' := by
  go_enter Try.func13, Try.ntmps13
  go_wp2
  all_goals (go_ret; exact ⟨rfl, rfl⟩)

theorem fills_early (k wd x : Int) (a1 a2 : Option Addr) (l1 c1 l2 c2 : Nat) (w : World) (h1 : l1 ≤ maxLen) (h2 : l2 ≤ maxLen) (k1 : -2147483648 ≤ k) (k2 : k ≤ 2147483647)
    (h : ¬ (l1 ≤ 65536 ∧ l1 = l2 ∧ 0 ≤ k ∧ k ≤ l1 ∧ k ≤ x ∧ x ≠ 2147483647)) :
    Calls Try.prog 4 #[.int .i32 k, .slice a1 l1 c1, .slice a2 l2 c2, .int .i32 wd, .int .i32 x] w fun e w' => e = .returned (.bool true) ∧ w' = w := by
  have m1 := h1
  have m2 := h2
  unfold maxLen at h1 h2
  rcases Nat.lt_or_ge 65536 l1 with g1 | g1
  · clear h
    go_enter Try.func4, Try.ntmps4
    go_wp2_with (go_at_call 13; refine (zzFills_any _ _ _ _ _ _ _ _ _ _ m1 m2).mono ?_; rintro e w' ⟨⟨b, rfl⟩, rfl⟩; cases b)
    all_goals (go_ret; exact ⟨rfl, rfl⟩)
  rcases Nat.lt_or_ge 65536 l2 with g2 | g2
  · clear h
    go_enter Try.func4, Try.ntmps4
    go_wp2_with (go_at_call 13; refine (zzFills_any _ _ _ _ _ _ _ _ _ _ m1 m2).mono ?_; rintro e w' ⟨⟨b, rfl⟩, rfl⟩; cases b)
    all_goals (go_ret; exact ⟨rfl, rfl⟩)
  by_cases g3 : (l1 : Int) ≠ (l2 : Int)
  · clear h
    have g3' : ((l1 : Int) != (l2 : Int)) = true := by simpa using g3
    clear g3
    go_enter Try.func4, Try.ntmps4
    go_wp2_with (go_at_call 13; refine (zzFills_yes _ _ _ _ _ _ _ _ _ _ g1 g2).mono ?_; rintro e w' ⟨rfl, rfl⟩)
    all_goals (go_ret; exact ⟨rfl, rfl⟩)
  obtain rfl : l1 = l2 := by omega
  clear g3
  rcases Int.lt_or_le k 0 with g4 | g4
  · clear h
    go_enter Try.func4, Try.ntmps4
    go_wp2_with (go_at_call 13; refine (zzFills_yes _ _ _ _ _ _ _ _ _ _ g1 g2).mono ?_; rintro e w' ⟨rfl, rfl⟩)
    all_goals (go_ret; exact ⟨rfl, rfl⟩)
  rcases Int.lt_or_le l1 k with g5 | g5
  · clear h
    go_enter Try.func4, Try.ntmps4
    go_wp2_with (go_at_call 13; refine (zzFills_yes _ _ _ _ _ _ _ _ _ _ g1 g2).mono ?_; rintro e w' ⟨rfl, rfl⟩)
    all_goals (go_ret; exact ⟨rfl, rfl⟩)
  rcases Int.lt_or_le x k with g6 | g6
  · clear h
    go_enter Try.func4, Try.ntmps4
    go_wp2_with (go_at_call 13; refine (zzFills_yes _ _ _ _ _ _ _ _ _ _ g1 g2).mono ?_; rintro e w' ⟨rfl, rfl⟩)
    all_goals (go_ret; exact ⟨rfl, rfl⟩)
  obtain rfl : x = 2147483647 := by
    by_cases e : x = 2147483647
    · exact e
    · exact absurd ⟨g1, rfl, g4, g5, g6, e⟩ h
  clear h
  go_enter Try.func4, Try.ntmps4
  go_wp2_with (go_at_call 13; refine (zzFills_yes _ _ _ _ _ _ _ _ _ _ g1 g2).mono ?_; rintro e w' ⟨rfl, rfl⟩)
  all_goals (go_ret; exact ⟨rfl, rfl⟩)

theorem chain3 {w wx w1 w2 w3 : World} (hB : Below w.heap.size w wx) (b1 : Below wx.heap.size wx w1) (b2 : Below w1.heap.size w1 w2) (b3 : Below w2.heap.size w2 w3) : Below w.heap.size w w3 :=
  ((hB.trans (b1.mono hB.size)).trans (b2.mono (Nat.le_trans hB.size b1.size))).trans (b3.mono (Nat.le_trans (Nat.le_trans hB.size b1.size) b2.size))

/-! ### The plain law -/
theorem pow_tab : ∀ i : Fin 32, (2 : Int) ^ i.val % 4294967296 = 2 ^ i.val := by decide
theorem pastV_eq {k x : Int} {i : Nat} (h : (x - k) % 32 = (i : Int)) : pastV k x = 2 ^ i := by
  have hi : i < 32 := by omega
  unfold pastV
  rw [h, Int.toNat_natCast]
  exact pow_tab ⟨i, hi⟩
theorem entC_past {k wd x : Int} {z : List Int} (h : k ≤ x) : entC k wd x z = wrap32 (wd + (x - k) / 32) := by
  unfold entC pastC; rw [if_neg (by omega)]
theorem entV_past {k x : Int} {z : List Int} {i : Nat} (h : k ≤ x) (hi : (x - k) % 32 = (i : Int)) : entV k x z = 2 ^ i := by
  unfold entV; rw [if_neg (by omega), pastV_eq hi]
theorem ent_first (k wd : Int) (z1 z2 : List Int) (h1 : -2147483648 ≤ wd) (h2 : wd ≤ 2147483647) : entC k wd k z1 = wd ∧ entV k k z2 = 1 := by
  refine ⟨?_, ?_⟩
  · rw [entC_past (Int.le_refl _), wrap32]; omega
  · rw [entV_past (i := 0) (Int.le_refl _) (by omega)]; rfl
theorem ent_last (k wd x : Int) (z1 z2 : List Int) (h : k ≤ x) (hi : (x - k) % 32 = 31) :
    entV k x z2 = 2147483648 ∧ entC k wd (x + 1) z1 = wrap32 (entC k wd x z1 + 1) ∧ entV k (x + 1) z2 = 1 := by
  refine ⟨?_, ?_, ?_⟩
  · rw [entV_past (i := 31) h (by omega)]; rfl
  · rw [entC_past (by omega), entC_past h, wrap32, wrap32, wrap32]; omega
  · rw [entV_past (i := 0) (by omega) (by omega)]; rfl
theorem pow_tab2 : ∀ i : Fin 31, (2 : Int) ^ i.val ≠ 0 ∧ (2 : Int) ^ i.val ≠ 2147483648 ∧ (2 : Int) ^ (i.val + 1) = 2 ^ i.val * 2 ^ 1 % 4294967296 := by decide
theorem ent_next (k wd x : Int) (z1 z2 : List Int) (h : k ≤ x) (hi : (x - k) % 32 ≠ 31) :
    entV k x z2 ≠ 0 ∧ entV k x z2 ≠ 2147483648 ∧ entC k wd (x + 1) z1 = entC k wd x z1 ∧ entV k (x + 1) z2 = entV k x z2 * 2 ^ 1 % 4294967296 := by
  obtain ⟨i, hi'⟩ : ∃ i : Nat, (x - k) % 32 = (i : Int) := ⟨((x - k) % 32).toNat, by omega⟩
  have hlt : i < 31 := by omega
  obtain ⟨p1, p2, p3⟩ := pow_tab2 ⟨i, hlt⟩
  rw [entV_past h hi', entV_past (i := i + 1) (by omega) (by omega)]
  refine ⟨p1, p2, ?_, p3⟩
  rw [entC_past (by omega), entC_past h]
  have : (x + 1 - k) / 32 = (x - k) / 32 := by omega
  rw [this]

set_option maxRecDepth 100000 in
theorem fills_main (k wd x : Int) (a1 a2 : Option Addr) (n c1 c2 : Nat) (z1 z2 : List Int) (w : World) (hn : n ≤ 65536) (hk0 : 0 ≤ k) (hkn : k ≤ n) (hkx : k ≤ x) (hx : x < 2147483647) (hw1 : -2147483648 ≤ wd) (hw2 : wd ≤ 2147483647)
    (h1 : RowIn .i32 w a1 n z1) (h2 : RowIn .i32 w a2 n z2) :
    Calls Try.prog 4 #[.int .i32 k, .slice a1 n c1, .slice a2 n c2, .int .i32 wd, .int .i32 x] w fun e w' => e = .returned (.bool true) ∧ Below w.heap.size w w' := by
  have hmk := make21 n hn
  have hxb : (x == 2147483647) = false := by simp; omega
  have H1 : Hid (RowIn .i32 w a1 n z1) := h1
  have H2 : Hid (RowIn .i32 w a2 n z2) := h2
  clear h1 h2
  go_enter Try.func4, Try.ntmps4
  go_upto_if 58 with (go_at_call 13; refine (zzFills_yes _ _ _ _ _ _ _ _ _ _ hn hn).mono ?_; rintro e w' ⟨rfl, rfl⟩)
  go_cut [1, 11] (fun s1 s11 wc => ∃ ad c, s1 = .slice ad n c ∧ HasRow .i32 wc ad n z1 ∧ Below w.heap.size w wc)
  case first =>
    rcases H1.out with ⟨rfl, rfl⟩ | ⟨ad, rfl, hl, hc⟩
    · go_wp2
      go_meet
      case rel => exact ⟨_, _, rfl, hasRow_none, Below.refl _ _⟩
    · have hcp := copy_run Try.underlying22 size21 .i32 (.int .i32 0) z1 n c1 ad w w hl hc (Below.refl _ _)
      clear hc
      go_wp2
      go_meet
      case rel => exact ⟨_, _, rfl, hasRow_copied hl, (Below.refl _ w).alloc (Nat.le_refl _) _⟩
  case rest =>
    obtain ⟨ad1, d1, rfl, R1, hB1⟩ := hcut
    clear H1
    have HR1 : Hid (HasRow .i32 wc ad1 n z1) := R1
    have HB1 : Hid (Below w.heap.size w wc) := hB1
    have hBs := hB1.size
    clear R1 hB1
    go_upto_if 67 with fail
    go_cut [2, 12] (fun s2 s12 wx => ∃ ad c, s2 = .slice ad n c ∧ HasRow .i32 wx ad n z2 ∧ HasRow .i32 wx ad1 n z1 ∧ Below w.heap.size w wx)
    case first =>
      rcases H2.out with ⟨rfl, rfl⟩ | ⟨ad, rfl, hl, hc⟩
      · go_wp2
        go_meet
        case rel => exact ⟨_, _, rfl, hasRow_none, hasRow_none, HB1.out⟩
      · have hcp := copy_run Try.underlying22 size21 .i32 (.int .i32 0) z2 n c2 ad w wc hl hc HB1.out
        clear hc
        go_wp2
        go_meet
        case rel => exact ⟨_, _, rfl, hasRow_copied hl, HR1.out.below ((Below.refl _ _).alloc (Nat.le_refl _) _), HB1.out.alloc hBs _⟩
    case rest =>
      obtain ⟨ad2, d2, rfl, R2, R1, hB2⟩ := hcut
      clear H2 HR1 HB1 hmk
      obtain ⟨f1, f2⟩ := ent_first k wd z1 z2 hw1 hw2
      by_cases hi : (x - k) % 32 = 31
      · obtain ⟨g1, g2, g3⟩ := ent_last k wd x z1 z2 hkx hi
        clear hi
        go_wp2_with fail
        refine (zzOwn_any k wd k ad1 ad2 n d1 d2 z1 z2 _ hn hk0 hkn hk0 (by omega) R1 R2).mono ?_
        rintro e w1 ⟨rfl, b1⟩
        have R1' := R1.below b1
        have R2' := R2.below b1
        go_wp2_with fail
        refine (zzOwn_any k wd x ad1 ad2 n d1 d2 z1 z2 _ hn hk0 hkn (by omega) (by omega) R1' R2').mono ?_
        rintro e w2 ⟨rfl, b2⟩
        have R1'' := R1'.below b2
        have R2'' := R2'.below b2
        go_wp2_with fail
        refine (zzOwn_any k wd (x + 1) ad1 ad2 n d1 d2 z1 z2 _ hn hk0 hkn (by omega) (by omega) R1'' R2'').mono ?_
        rintro e w3 ⟨rfl, b3⟩
        go_wp2
        go_ret
        exact ⟨rfl, chain3 hB2 b1 b2 b3⟩
      · obtain ⟨g0, g1, g2, g3⟩ := ent_next k wd x z1 z2 hkx hi
        have q0 : (entV k x z2 == 0) = false := by simpa using g0
        have q1 : (entV k x z2 == 2147483648) = false := by simpa using g1
        clear hi g0 g1
        go_wp2_with fail
        refine (zzOwn_any k wd k ad1 ad2 n d1 d2 z1 z2 _ hn hk0 hkn hk0 (by omega) R1 R2).mono ?_
        rintro e w1 ⟨rfl, b1⟩
        have R1' := R1.below b1
        have R2' := R2.below b1
        go_wp2_with fail
        refine (zzOwn_any k wd x ad1 ad2 n d1 d2 z1 z2 _ hn hk0 hkn (by omega) (by omega) R1' R2').mono ?_
        rintro e w2 ⟨rfl, b2⟩
        have R1'' := R1'.below b2
        have R2'' := R2'.below b2
        go_wp2_with fail
        refine (zzOwn_any k wd (x + 1) ad1 ad2 n d1 d2 z1 z2 _ hn hk0 hkn (by omega) (by omega) R1'' R2'').mono ?_
        rintro e w3 ⟨rfl, b3⟩
        go_wp2
        go_ret
        exact ⟨rfl, chain3 hB2 b1 b2 b3⟩
end Go.Proofs.Qxb6614319a
