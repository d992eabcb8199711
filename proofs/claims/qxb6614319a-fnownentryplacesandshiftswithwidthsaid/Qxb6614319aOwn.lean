import Derived.Test.Qxb6614319aRows
import Derived.WalkKit
import Derived.WalkSpells
import Derived.Below
import Derived.RegionTactic
import Derived.Deep.QuietTactic
import Derived.BigQuiet
import Derived.WalkSmall
import Derived.Deep.OwnRows
namespace Go.Proofs.Qxb6614319a
open Go.RowKit
set_option linter.unusedVariables false

/-- The column and the bit that 'ownEntry' gives an operation of unknown outcome. -/
def pastC (K W x : Int) : Int := wrap32 (W + (x - K) / 32)
def pastV (K x : Int) : Int := 2 ^ ((x - K) % 32).toNat % 4294967296

/-- ownEntry at an operation of unknown outcome. -/
theorem ownEntry_past (b : Nat) (K W x : Int) (w : World) (hK0 : 0 ≤ K) (hKx : K ≤ x) (hx : x ≤ 2147483647)
    (h0 : w.cell? ⟨b, 0, none⟩ = some (.int .i32 K)) (h3 : w.cell? ⟨b, 3, none⟩ = some (.int .i32 W)) (hb : b < w.heap.size) :
    Calls Try.prog 22 #[.pointer (some ⟨b, 0, none⟩), .int .i32 x] w fun e w' =>
      e = .returned (.agg #[.int .i32 (pastC K W x), .int .u32 (pastV K x)]) ∧ Below w.heap.size w w' := by
  unfold pastC pastV
  go_enter Try.func22, Try.ntmps22
  go_wp2
  go_region
  go_wp2
  refine bodyPost_ret (v := .agg #[.int .i32 (wrap32 (W + (x - K) / 32)), .int .u32 (2 ^ ((x - K) % 32).toNat % 4294967296)]) (by simp [results, Try.results22, go_sem]) rfl ⟨rfl, ?_⟩
  exact ((Below.refl _ _).alloc (Nat.le_refl _) _).drew

/-- ownEntry at an operation of known outcome: its place in 'own'. -/
theorem ownEntry_known (b g n : Nat) (K x c a : Int) (w : World) (hx0 : 0 ≤ x) (hxK : x < K) (hxn : x < n) 
    (h0 : w.cell? ⟨b, 0, none⟩ = some (.int .i32 K)) (h1 : w.cell? ⟨b, 1, none⟩ = some (.slice (some ⟨g, 0, none⟩) n n)) (hb : b < w.heap.size) (hg : g < w.heap.size)
    (hc : w.cell? ⟨g, x.toNat * 2, none⟩ = some (.int .i32 c)) (ha : w.cell? ⟨g, x.toNat * 2 + 1, none⟩ = some (.int .i32 a)) :
    Calls Try.prog 22 #[.pointer (some ⟨b, 0, none⟩), .int .i32 x] w fun e w' =>
      e = .returned (.agg #[.int .i32 c, .int .u32 (IntKind.wrap .u32 a)]) ∧ Below w.heap.size w w' := by
  go_enter Try.func22, Try.ntmps22
  go_wp2
  refine bodyPost_ret (v := .agg #[.int .i32 c, .int .u32 (a % 4294967296)]) (by simp [results, Try.results22, go_sem]) rfl ⟨rfl, ?_⟩
  exact ((Below.refl _ _).alloc (Nat.le_refl _) _).alloc (by simp) _

theorem info46 : (Try.prog.info? 46).map (fun i => (i.zero, i.size, i.bytes)) = some (some (.agg #[.int .i32 0, .int .i32 0]), 2, 8) := by kernel_rfl

/-- What 'make([]placing, n)' lays. -/
def own0 (n : Nat) : Array Value := madeCells #[.int .i32 0, .int .i32 0] (n * 2)
theorem own0_size (n : Nat) : (own0 n).size = n * 2 := size_madeCells _ _
theorem own0_get (n i : Nat) (h : i < n * 2) : (own0 n)[i]? = some (.int .i32 0) := by
  have : i % 2 = 0 ∨ i % 2 = 1 := by omega
  rcases this with e | e <;> simp [own0, madeCells, h, e]
theorem make_own (n : Nat) (hn : n ≤ 65536) (w : World) :
    (Instr.makeSlice 44 (.int .i64 (n : Int)) (.int .i64 (n : Int))).run Try.prog w = .ok (.slice (some ⟨w.heap.size, 0, none⟩) n n) (w.alloc (.cells (own0 n) 46)) := by
  obtain ⟨i, hi, hz0, hz1, hz2⟩ := info_parts info46
  have hr := run_make (P := Try.prog) w 44 46 i _ Try.underlying44 hi hz0 .i64 .i64 n n (by omega) (Int.le_refl _) (by rw [hz2]; omega) (by omega)
  simp only [Int.toNat_natCast, hz1] at hr
  exact hr

/-- A slice of n numbers that the walk may read: at a row's head, where there is an element. -/
def HasRow (k : IntKind) (w : World) (a : Option Addr) (n : Nat) (z : List Int) : Prop :=
  0 < n → ∃ g, a = some ⟨g, 0, none⟩ ∧ g < w.heap.size ∧ ∀ j, j < n → w.cell? ⟨g, j, none⟩ = some (.int k (z.getD j 0))

/-- What the loop of ZZownEntry has laid after k rounds. -/
def Laid (w : World) (g n k : Nat) (z1 z2 : List Int) : Prop :=
  ∃ f, w.rowIs g 46 (n * 2) f ∧ ∀ j, j < k → f (j * 2) = .int .i32 (z1.getD j 0) ∧ f (j * 2 + 1) = .int .i32 (z2.getD j 0)

theorem Laid.start (w : World) (n : Nat) (z1 z2 : List Int) : Laid (w.alloc (.cells (own0 n) 46)) w.heap.size n 0 z1 z2 := by
  refine ⟨fun _ => .int .i32 0, ?_, fun j hj => absurd hj (by omega)⟩
  have := World.rowIs_alloc w (own0 n) 46 (fun _ => .int .i32 0) (fun i hi => own0_get n i (by rw [own0_size] at hi; exact hi))
  rw [own0_size] at this
  exact this

theorem Laid.step {w : World} {g n k : Nat} {z1 z2 : List Int} (h : Laid w g n k z1 z2) (hk : k < n) :
    Laid ((w.setCell ⟨g, k * 2, none⟩ (.int .i32 (z1.getD k 0))).setCell ⟨g, k * 2 + 1, none⟩ (.int .i32 (z2.getD k 0))) g n (k + 1) z1 z2 := by
  obtain ⟨f, hf, hj⟩ := h
  refine ⟨_, (hf.set (k * 2) _).set (k * 2 + 1) _, fun j hlt => ?_⟩
  by_cases e : j = k
  · subst e
    refine ⟨?_, ?_⟩
    · simp
    · simp
  · obtain ⟨e1, e2⟩ := hj j (by omega)
    refine ⟨?_, ?_⟩
    · show (if j * 2 = k * 2 + 1 then _ else if j * 2 = k * 2 then _ else f (j * 2)) = _
      rw [if_neg (by omega), if_neg (by omega), e1]
    · show (if j * 2 + 1 = k * 2 + 1 then _ else if j * 2 + 1 = k * 2 then _ else f (j * 2 + 1)) = _
      rw [if_neg (by omega), if_neg (by omega), e2]

theorem Laid.below {B : Nat} {w w' : World} {g n k : Nat} {z1 z2 : List Int} (h : Laid w g n k z1 z2) (hB : Below B w w') (hg : g < B) : Laid w' g n k z1 z2 := by
  obtain ⟨f, hf, hj⟩ := h
  exact ⟨f, hf.of_block (hB.block g hg), hj⟩

/-- The column and the value that ownEntry gives. -/
def entC (K W x : Int) (z1 : List Int) : Int := if x < K then z1.getD x.toNat 0 else pastC K W x
def entV (K x : Int) (z2 : List Int) : Int := if x < K then z2.getD x.toNat 0 % 4294967296 else pastV K x

/-- ownEntry, whatever the operation. -/
theorem ownEntry_any (b g n : Nat) (K W x : Int) (z1 z2 : List Int) (w : World) (hx0 : 0 ≤ x) (hK0 : 0 ≤ K) (hKn : K ≤ n) (hx : x ≤ 2147483647)
    (h0 : w.cell? ⟨b, 0, none⟩ = some (.int .i32 K)) (h1 : w.cell? ⟨b, 1, none⟩ = some (.slice (some ⟨g, 0, none⟩) n n)) (h3 : w.cell? ⟨b, 3, none⟩ = some (.int .i32 W)) (hb : b < w.heap.size) (hL : Laid w g n n z1 z2) :
    Calls Try.prog 22 #[.pointer (some ⟨b, 0, none⟩), .int .i32 x] w fun e w' =>
      e = .returned (.agg #[.int .i32 (entC K W x z1), .int .u32 (entV K x z2)]) ∧ Below w.heap.size w w' := by
  unfold entC entV
  by_cases h : x < K
  · rw [if_pos h, if_pos h]
    obtain ⟨f, hf, hj⟩ := hL
    obtain ⟨j1, j2⟩ := hj x.toNat (by omega)
    exact ownEntry_known b g n K x _ _ w hx0 h (by omega) h0 h1 hb hf.lt (by rw [← j1]; exact hf.cell (by omega)) (by rw [← j2]; exact hf.cell (by omega))
  · rw [if_neg h, if_neg h]
    exact ownEntry_past b K W x w hK0 (by omega) hx h0 h3 hb

/-- ZZownEntry. -/
theorem zzOwn_any (K W x : Int) (a1 a2 : Option Addr) (n c1 c2 : Nat) (z1 z2 : List Int) (w : World) (hn : n ≤ 65536) (hK0 : 0 ≤ K) (hKn : K ≤ n) (hx0 : 0 ≤ x) (hx : x ≤ 2147483647)
    (h1 : HasRow .i32 w a1 n z1) (h2 : HasRow .i32 w a2 n z2) :
    Calls Try.prog 10 #[.int .i32 K, .slice a1 n c1, .slice a2 n c2, .int .i32 W, .int .i32 x] w fun e w' =>
      e = .returned (.tuple #[.int .i32 (entC K W x z1), .int .u32 (entV K x z2)]) ∧ Below w.heap.size w w' := by
  have hmk := make_own n hn
  go_enter Try.func10, Try.ntmps10
  go_wp2
  go_loopw [21] (fun i wr => ∃ k : Nat, k ≤ n ∧ i = .int .i64 k ∧ Laid wr w.heap.size n k z1 z2 ∧ Below w.heap.size w wr) (fun i _ => n - (intOf i).toNat)
  case atStart => exact ⟨0, Nat.zero_le _, rfl, Laid.start w n z1 z2, (Below.refl _ _).alloc (Nat.le_refl _) _⟩
  case round =>
    obtain ⟨k, hk, rfl, hL, hB⟩ := hrel
    by_cases hlt : k < n
    · obtain ⟨g1, rfl, hg1, hc1⟩ := h1 (by omega)
      obtain ⟨g2, rfl, hg2, hc2⟩ := h2 (by omega)
      have d1 : wr.cell? ⟨g1, k, none⟩ = some (.int .i32 (z1.getD k 0)) := (hB.cell hg1).trans (hc1 k hlt)
      have d2 : wr.cell? ⟨g2, k, none⟩ = some (.int .i32 (z2.getD k 0)) := (hB.cell hg2).trans (hc2 k hlt)
      have hL' := hL.step hlt
      obtain ⟨f, hf, hj⟩ := hL
      have e0 := hf.cell (i := k * 2) (by omega)
      have e1 := hf.cell (i := k * 2 + 1) (by omega)
      have z0 := hf.frozen (k * 2)
      have z1' := hf.frozen (k * 2 + 1)
      have HL : Hid (Laid _ _ _ _ _ _) := hL'
      clear hmk h1 h2 hc1 hc2 hL' hf hj
      go_wp2
      go_region
      all_goals
        go_wp2
        go_roundw
        case rel => exact ⟨k + 1, by omega, by go_num, HL.out, ((hB.setCell (by simp) _).setCell (by simp) _).drew⟩
        case measure => simp [intOf]; omega
    · obtain rfl : k = n := by omega
      have hL2 : Laid (wr.alloc (.cells #[.int .i32 K, .slice (some ⟨w.heap.size, 0, none⟩) k k, .int .i32 0, .int .i32 W, .slice none 0 0, .slice none 0 0, .int .i32 0, .slice none 0 0, .slice none 0 0, .slice none 0 0, .slice none 0 0, .slice none 0 0, .slice none 0 0, .slice none 0 0, .nilFunc] 54)) w.heap.size k k z1 z2 :=
        hL.below ((Below.refl wr.heap.size wr).alloc (Nat.le_refl _) _) (by obtain ⟨f, hf, _⟩ := hL; exact hf.lt)
      have hB' := hB.size
      clear hmk hL h1 h2
      go_wp2_with (go_at_call 22; refine (ownEntry_any wr.heap.size w.heap.size k K W x z1 z2 _ hx0 hK0 hKn hx (by simp [go_sem]) (by simp [go_sem]) (by simp [go_sem]) (by simp) hL2).mono ?_; rintro e w' ⟨rfl, hB2⟩)
      go_quiet (fail)
      go_wp2
      go_ret2
      refine ⟨rfl, ?_⟩
      have s2 := hB2.size
      simp only [World.size_alloc] at s2
      exact below_drewN (((hB.alloc hB' _).trans (hB2.mono (by simp; omega))).alloc (by omega) _) _
end Go.Proofs.Qxb6614319a
