import Derived.Test.Qxb6614319aCopy
import Derived.Test.Qxb6614319aBits
import Derived.Deep.DeepCutAuto
namespace Go.Proofs.Qxb6614319a
open Go.RowKit
set_option linter.unusedVariables false

theorem zzPlaces_any (k wd we x : Int) (a1 a2 : Option Addr) (l1 c1 l2 c2 : Nat) (w : World) (h1 : l1 ≤ maxLen) (h2 : l2 ≤ maxLen) :
    Calls Try.prog 9 #[.int .i32 k, .slice a1 l1 c1, .slice a2 l2 c2, .int .i32 wd, .int .i32 we, .int .i32 x] w fun e w' => (∃ b, e = .returned (.bool b)) ∧ w = w' := by
  unfold maxLen at h1 h2
  go_enter Try.func9, Try.ntmps9
  go_wp2
  all_goals (go_ret; exact ⟨⟨_, rfl⟩, rfl⟩)

theorem zzPlaces_yes (k wd we x : Int) (a1 a2 : Option Addr) (l1 c1 l2 c2 : Nat) (w : World) (h1 : l1 ≤ 65536) (h2 : l2 ≤ 65536) :
    Calls Try.prog 9 #[.int .i32 k, .slice a1 l1 c1, .slice a2 l2 c2, .int .i32 wd, .int .i32 we, .int .i32 x] w fun e w' => e = .returned (.bool true) ∧ w = w' := by
  go_enter Try.func9, Try.ntmps9
  go_wp2
  all_goals (go_ret; exact ⟨rfl, rfl⟩)

theorem places_early (k wd we x : Int) (a1 a2 : Option Addr) (l1 c1 l2 c2 : Nat) (w : World) (h1 : l1 ≤ maxLen) (h2 : l2 ≤ maxLen) (k1 : -2147483648 ≤ k) (k2 : k ≤ 2147483647)
    (h : ¬ (l1 ≤ 65536 ∧ l1 = l2 ∧ 0 ≤ k ∧ k ≤ l1 ∧ 0 ≤ x)) :
    Calls Try.prog 3 #[.int .i32 k, .slice a1 l1 c1, .slice a2 l2 c2, .int .i32 wd, .int .i32 we, .int .i32 x] w fun e w' => e = .returned (.bool true) ∧ w' = w := by
  have m1 := h1
  have m2 := h2
  unfold maxLen at h1 h2
  rcases Nat.lt_or_ge 65536 l1 with g1 | g1
  · clear h
    go_enter Try.func3, Try.ntmps3
    go_wp2_with (go_at_call 9; refine (zzPlaces_any _ _ _ _ _ _ _ _ _ _ _ m1 m2).mono ?_; rintro e w' ⟨⟨b, rfl⟩, rfl⟩; cases b)
    all_goals (go_ret; exact ⟨rfl, rfl⟩)
  rcases Nat.lt_or_ge 65536 l2 with g2 | g2
  · clear h
    go_enter Try.func3, Try.ntmps3
    go_wp2_with (go_at_call 9; refine (zzPlaces_any _ _ _ _ _ _ _ _ _ _ _ m1 m2).mono ?_; rintro e w' ⟨⟨b, rfl⟩, rfl⟩; cases b)
    all_goals (go_ret; exact ⟨rfl, rfl⟩)
  by_cases g3 : (l1 : Int) ≠ (l2 : Int)
  · clear h
    have g3' : ((l1 : Int) != (l2 : Int)) = true := by simpa using g3
    clear g3
    go_enter Try.func3, Try.ntmps3
    go_wp2_with (go_at_call 9; refine (zzPlaces_yes _ _ _ _ _ _ _ _ _ _ _ g1 g2).mono ?_; rintro e w' ⟨rfl, rfl⟩)
    all_goals (go_ret; exact ⟨rfl, rfl⟩)
  obtain rfl : l1 = l2 := by omega
  clear g3
  rcases Int.lt_or_le k 0 with g4 | g4
  · clear h
    go_enter Try.func3, Try.ntmps3
    go_wp2_with (go_at_call 9; refine (zzPlaces_yes _ _ _ _ _ _ _ _ _ _ _ g1 g2).mono ?_; rintro e w' ⟨rfl, rfl⟩)
    all_goals (go_ret; exact ⟨rfl, rfl⟩)
  rcases Int.lt_or_le l1 k with g5 | g5
  · clear h
    go_enter Try.func3, Try.ntmps3
    go_wp2_with (go_at_call 9; refine (zzPlaces_yes _ _ _ _ _ _ _ _ _ _ _ g1 g2).mono ?_; rintro e w' ⟨rfl, rfl⟩)
    all_goals (go_ret; exact ⟨rfl, rfl⟩)
  have g6 : x < 0 := by
    rcases Int.lt_or_le x 0 with e | e
    · exact e
    · exact absurd ⟨g1, rfl, g4, g5, e⟩ h
  clear h
  go_enter Try.func3, Try.ntmps3
  go_wp2_with (go_at_call 9; refine (zzPlaces_yes _ _ _ _ _ _ _ _ _ _ _ g1 g2).mono ?_; rintro e w' ⟨rfl, rfl⟩)
  all_goals (go_ret; exact ⟨rfl, rfl⟩)

/-! ### The plain law -/
theorem pow32_tab : ∀ i : Fin 32, (2 : Int) ^ i.val % 4294967296 = 2 ^ i.val := by decide
theorem chain2 {w wx w1 w2 : World} (hB : Below w.heap.size w wx) (b1 : Below wx.heap.size wx w1) (b2 : Below w1.heap.size w1 w2) : Below w.heap.size w w2 :=
  (hB.trans (b1.mono hB.size)).trans (b2.mono (Nat.le_trans hB.size b1.size))
theorem bne_no {a b : Int} (h : a = b) : (a != b) = false := by simp [h]
theorem beq_yes {a b : Int} (h : a = b) : (a == b) = true := by simp [h]

/-- What the law wants of the two entries past the known ones. -/
theorem ent_shift (k wd we x : Int) (z1 z2 : List Int) (hk0 : 0 ≤ k) (hkx : k ≤ x) (hx : x ≤ 2147483647) (d1 : -2147483648 ≤ wd) (d2 : wd ≤ 2147483647) (e1 : -2147483648 ≤ we) (e2 : we ≤ 2147483647) :
    ∃ (C1 C2 V Q : Int) (i : Nat), entC k wd x z1 = C1 ∧ entC k we x z1 = C2 ∧ entV k x z2 = V ∧ i < 32 ∧ V = 2 ^ i ∧ wrap32 (C2 - C1) = wrap32 (we - wd) ∧ wrap32 (C1 - wd) = Q ∧ 0 ≤ Q ∧ Q ≤ 67108863 ∧ Q * 32 + i = x - k := by
  refine ⟨_, _, _, (x - k) / 32, ((x - k) % 32).toNat, rfl, rfl, rfl, by omega, ?_, ?_, ?_, by omega, by omega, by omega⟩
  · unfold entV pastV; rw [if_neg (by omega)]; exact pow32_tab ⟨((x - k) % 32).toNat, by omega⟩
  · unfold entC pastC; rw [if_neg (by omega), if_neg (by omega)]; simp only [wrap32]; omega
  · unfold entC pastC; rw [if_neg (by omega)]; simp only [wrap32]; omega

set_option maxRecDepth 100000 in
theorem places_main (k wd we x : Int) (a1 a2 : Option Addr) (n c1 c2 : Nat) (z1 z2 : List Int) (w : World) (hn : n ≤ 65536) (hk0 : 0 ≤ k) (hkn : k ≤ n) (hx0 : 0 ≤ x) (hx : x ≤ 2147483647)
    (hd1 : -2147483648 ≤ wd) (hd2 : wd ≤ 2147483647) (he1 : -2147483648 ≤ we) (he2 : we ≤ 2147483647) (h1 : RowIn .i32 w a1 n z1) (h2 : RowIn .i32 w a2 n z2) :
    Calls Try.prog 3 #[.int .i32 k, .slice a1 n c1, .slice a2 n c2, .int .i32 wd, .int .i32 we, .int .i32 x] w fun e w' => e = .returned (.bool true) ∧ Below w.heap.size w w' := by
  have hmk := make21 n hn
  have H1 : Hid (RowIn .i32 w a1 n z1) := h1
  have H2 : Hid (RowIn .i32 w a2 n z2) := h2
  clear h1 h2
  go_enter Try.func3, Try.ntmps3
  go_upto_if 57 with (go_at_call 9; refine (zzPlaces_yes _ _ _ _ _ _ _ _ _ _ _ hn hn).mono ?_; rintro e w' ⟨rfl, rfl⟩)
  go_cut [1, 13] (fun s1 s11 wc => ∃ ad c, s1 = .slice ad n c ∧ HasRow .i32 wc ad n z1 ∧ Below w.heap.size w wc)
  case first =>
    rcases H1.out with ⟨rfl, rfl⟩ | ⟨ad, rfl, hl, hc⟩
    · go_wp2
      go_meet
      case rel => exact ⟨_, _, rfl, hasRow_none, Below.refl _ _⟩
    · have hcp := copy_run Try.underlying22 size21 .i32 (.int .i32 0) z1 n c1 ad w w hl hc (Below.refl _ _)
      clear hc
      go_wp2
      go_meet
      case rel => exact ⟨_, _, rfl, hasRow_copied hl, (Below.refl _ w).alloc (Nat.le_refl _) _⟩
  case rest =>
    obtain ⟨ad1, d1, rfl, R1, hB1⟩ := hcut
    clear H1
    have HR1 : Hid (HasRow .i32 wc ad1 n z1) := R1
    have HB1 : Hid (Below w.heap.size w wc) := hB1
    have hBs := hB1.size
    clear R1 hB1
    go_upto_if 66 with fail
    go_cut [2, 14] (fun s2 s12 wx => ∃ ad c, s2 = .slice ad n c ∧ HasRow .i32 wx ad n z2 ∧ HasRow .i32 wx ad1 n z1 ∧ Below w.heap.size w wx)
    case first =>
      rcases H2.out with ⟨rfl, rfl⟩ | ⟨ad, rfl, hl, hc⟩
      · go_wp2
        go_meet
        case rel => exact ⟨_, _, rfl, hasRow_none, hasRow_none, HB1.out⟩
      · have hcp := copy_run Try.underlying22 size21 .i32 (.int .i32 0) z2 n c2 ad w wc hl hc HB1.out
        clear hc
        go_wp2
        go_meet
        case rel => exact ⟨_, _, rfl, hasRow_copied hl, HR1.out.below ((Below.refl _ _).alloc (Nat.le_refl _) _), HB1.out.alloc hBs _⟩
    case rest =>
      obtain ⟨ad2, d2, rfl, R2, R1, hB2⟩ := hcut
      clear H2 HR1 HB1 hmk
      by_cases hkx : x < k
      · obtain ⟨g1, rfl, hg1, hc1⟩ := R1 (by omega)
        obtain ⟨g2, rfl, hg2, hc2⟩ := R2 (by omega)
        obtain ⟨C, hC⟩ : ∃ C, z1.getD x.toNat 0 = C := ⟨_, rfl⟩
        obtain ⟨A, hA⟩ : ∃ A, z2.getD x.toNat 0 = A := ⟨_, rfl⟩
        have q1 := hc1 x.toNat (by omega)
        have q2 := hc2 x.toNat (by omega)
        have f1 : entC k wd x z1 = C := by unfold entC; rw [if_pos hkx, hC]
        have f2 : entC k we x z1 = C := by unfold entC; rw [if_pos hkx, hC]
        have f3 : entV k x z2 = A % 4294967296 := by unfold entV; rw [if_pos hkx, hA]
        rw [hC] at q1
        rw [hA] at q2
        clear hc1 hc2 hC hA
        have Q1 : Hid (wc.cell? ⟨g1, x.toNat, none⟩ = some (.int .i32 C)) := q1
        have Q2 : Hid (wc.cell? ⟨g2, x.toNat, none⟩ = some (.int .i32 A)) := q2
        clear q1 q2
        go_wp2_with fail
        refine (zzOwn_any k wd x _ _ n d1 d2 z1 z2 _ hn hk0 hkn hx0 hx R1 R2).mono ?_
        rintro e w1 ⟨rfl, b1⟩
        have R1' := R1.below b1
        have R2' := R2.below b1
        go_wp2_with fail
        refine (zzOwn_any k we x _ _ n d1 d2 z1 z2 _ hn hk0 hkn hx0 hx R1' R2').mono ?_
        rintro e w2 ⟨rfl, b2⟩
        have q1 : w2.cell? ⟨g1, x.toNat, none⟩ = some (.int .i32 C) := cell_later b2 (cell_later b1 Q1.out)
        have q2 : w2.cell? ⟨g2, x.toNat, none⟩ = some (.int .i32 A) := cell_later b2 (cell_later b1 Q2.out)
        go_wp2
        go_ret
        exact ⟨rfl, chain2 hB2 b1 b2⟩
      · obtain ⟨C1, C2, V, Q, i, f1, f2, f3, hi, hV, hs, hq, hQ0, hQ1, hsum⟩ := ent_shift k wd we x z1 z2 hk0 (by omega) hx hd1 hd2 he1 he2
        have t1 : (wrap32 (C2 - C1) != wrap32 (we - wd)) = false := bne_no hs
        have t2 : (Q * 32 + (i : Int) == x - k) = true := beq_yes hsum
        have HV : Hid (V = 2 ^ i) := hV
        clear hs hV hsum
        go_wp2_with fail
        refine (zzOwn_any k wd x _ _ n d1 d2 z1 z2 _ hn hk0 hkn hx0 hx R1 R2).mono ?_
        rintro e w1 ⟨rfl, b1⟩
        have R1' := R1.below b1
        have R2' := R2.below b1
        go_wp2_with fail
        refine (zzOwn_any k we x _ _ n d1 d2 z1 z2 _ hn hk0 hkn hx0 hx R1' R2').mono ?_
        rintro e w2 ⟨rfl, b2⟩
        go_wp2_with (first | (go_at_call 11; refine (oneBit_yes i V _ hi HV.out).mono ?_; rintro e w' ⟨rfl, rfl⟩) | (go_at_call 12; refine (bitPos_at i V _ hi HV.out).mono ?_; rintro e w' ⟨rfl, rfl⟩))
        go_ret
        exact ⟨rfl, chain2 hB2 b1 b2⟩
end Go.Proofs.Qxb6614319a
