import Derived.Test.Qxb6614982aFmtRows
import Derived.WalkKit
import Derived.WalkSpells
import Derived.Below
import Derived.RegionTactic
import Derived.Deep.QuietTactic
import Derived.BigQuiet
import Derived.WalkSmall
import Derived.WalkLawsBesides
namespace Go.Proofs.Qxb6614982aFmt
open Go.RowKit
set_option linter.unusedVariables false

/-- A tree in memory, its RTT the closure over x. -/
def Tree (w : World) (b xb x : Nat) (p : Int) : Prop :=
  w.cell? ⟨b, 0, none⟩ = some (.func (.func 14) #[] #[.pointer (some ⟨xb, 0, none⟩)]) ∧ w.cell? ⟨xb, 0, none⟩ = some (.float .f64 x) ∧ w.cell? ⟨b, 6, none⟩ = some (.slice none 0 0) ∧ w.cell? ⟨b, 7, none⟩ = some (.int .i64 0) ∧
  w.cell? ⟨b, 8, none⟩ = some (.int .i64 p) ∧ w.cell? ⟨b, 9, none⟩ = some (.int .i64 0) ∧ w.frozen? ⟨b, 8, none⟩ = false ∧ xb ≠ b ∧ b < w.heap.size ∧ xb < w.heap.size

/-- The two names. -/
def knownB (s : ByteArray) : Bool := s.toList == [111, 114, 97, 99, 108, 101] || s.toList == [112, 114, 111, 98, 101, 115]
theorem knownB_cases (s : ByteArray) : (s.toList == [111, 114, 97, 99, 108, 101]) = true ∨ ((s.toList == [111, 114, 97, 99, 108, 101]) = false ∧ (s.toList == [112, 114, 111, 98, 101, 115]) = knownB s) := by
  unfold knownB
  cases h : (s.toList == [111, 114, 97, 99, 108, 101])
  · right; simp
  · left; rfl
theorem knownB_first {s : ByteArray} (h : (s.toList == [111, 114, 97, 99, 108, 101]) = true) : knownB s = true := by unfold knownB; rw [h]; rfl

theorem known_any (s : ByteArray) (w : World) : Calls Tryf.prog 5 #[.string s] w fun e w' => e = .returned (.bool (knownB s)) ∧ w = w' := by
  rcases knownB_cases s with h | ⟨h, h2⟩
  · rw [knownB_first h]
    go_enter Tryf.func5, Tryf.ntmps5
    go_wp2
    go_ret
    exact ⟨rfl, rfl⟩
  · go_enter Tryf.func5, Tryf.ntmps5
    go_wp2
    go_ret
    exact ⟨rfl, rfl⟩
theorem known17_any (s : ByteArray) (w : World) : Calls Tryf.prog 17 #[.string s] w fun e w' => e = .returned (.bool (knownB s)) ∧ w = w' := by
  rcases knownB_cases s with h | ⟨h, h2⟩
  · rw [knownB_first h]
    go_enter Tryf.func17, Tryf.ntmps17
    go_wp2
    go_ret
    exact ⟨rfl, rfl⟩
  · go_enter Tryf.func17, Tryf.ntmps17
    go_wp2
    go_ret
    exact ⟨rfl, rfl⟩

/-- measure. -/
theorem measure_any (b xb x : Nat) (p u v : Int) (w : World) (hp0 : 0 ≤ p) (hp1 : p < 9223372036854775807) (h : Tree w b xb x p) :
    Calls Tryf.prog 15 #[.pointer (some ⟨b, 0, none⟩), .int .i64 u, .int .i64 v] w fun e w' => e = .returned (.float .f64 x) ∧ w' = w.setCell ⟨b, 8, none⟩ (.int .i64 (p + 1)) := by
  obtain ⟨h0, h1, h2, h3, h4, h5, h6, h7, h8, h9⟩ := h
  go_enter Tryf.func15, Tryf.ntmps15
  go_wp2
  go_ret
  exact ⟨rfl, rfl⟩

/-- ZZmeasure. -/
theorem zzMeasure_any (b xb x : Nat) (p u v : Int) (w : World) (hp0 : 0 ≤ p) (hp1 : p < 9223372036854775807) (h : Tree w b xb x p) :
    Calls Tryf.prog 7 #[.pointer (some ⟨b, 0, none⟩), .int .i64 u, .int .i64 v] w fun e w' => e = .returned (.float .f64 x) ∧ w' = w.setCell ⟨b, 8, none⟩ (.int .i64 (p + 1)) := by
  have H : Hid (Tree w b xb x p) := h
  clear h
  go_enter Tryf.func7, Tryf.ntmps7
  go_wp2_with fail
  refine (measure_any b xb x p u v _ hp0 hp1 H.out).mono ?_
  rintro e w' ⟨rfl, rfl⟩
  go_wp2
  go_ret
  exact ⟨rfl, rfl⟩

/-- Behind a measure. -/
theorem Tree.step {w : World} {b xb x : Nat} {p : Int} (h : Tree w b xb x p) (q : Int) : Tree (w.setCell ⟨b, 8, none⟩ (.int .i64 q)) b xb x q := by
  obtain ⟨h0, h1, h2, h3, h4, h5, h6, h7, h8, h9⟩ := h
  refine ⟨?_, ?_, ?_, ?_, ?_, ?_, ?_, h7, by simpa using h8, by simpa using h9⟩
  all_goals simp [go_sem, *]
theorem Tree.drewN {w : World} {b xb x : Nat} {p : Int} (h : Tree w b xb x p) (n : Nat) : Tree (w.drewN n) b xb x p := h

/-- SameFloat of a number and itself: a NaN by its class, else by its value. -/
theorem same_any (x : Nat) (w : World) : Calls Tryf.prog 8 #[.float .f64 x, .float .f64 x] w fun e w' => e = .returned (.bool true) ∧ w = w' := by
  cases h : (FloatKind.f64.format.order x x == some Ordering.eq)
  · have h' : (FloatKind.f64.format.order x x != some Ordering.eq) = true := by simp only [bne, h, Bool.not_false]
    go_enter Tryf.func8, Tryf.ntmps8
    go_wp2
    go_ret
    exact ⟨rfl, rfl⟩
  · have h' : (FloatKind.f64.format.order x x != some Ordering.eq) = false := by simp only [bne, h, Bool.not_true]
    go_enter Tryf.func8, Tryf.ntmps8
    go_wp2
    go_ret
    exact ⟨rfl, rfl⟩

/-- The four readers. -/
theorem zzProbes_any (b xb x : Nat) (p : Int) (w : World) (h : Tree w b xb x p) : Calls Tryf.prog 9 #[.pointer (some ⟨b, 0, none⟩)] w fun e w' => e = .returned (.int .i64 p) ∧ w = w' := by
  obtain ⟨h0, h1, h2, h3, h4, h5, h6, h7, h8, h9⟩ := h
  go_enter Tryf.func9, Tryf.ntmps9
  go_wp2
  go_ret
  exact ⟨rfl, rfl⟩
theorem zzMax_any (b xb x : Nat) (p : Int) (w : World) (h : Tree w b xb x p) : Calls Tryf.prog 10 #[.pointer (some ⟨b, 0, none⟩)] w fun e w' => e = .returned (.int .i64 0) ∧ w = w' := by
  obtain ⟨h0, h1, h2, h3, h4, h5, h6, h7, h8, h9⟩ := h
  go_enter Tryf.func10, Tryf.ntmps10
  go_wp2
  go_ret
  exact ⟨rfl, rfl⟩
theorem clusters_any (b xb x : Nat) (p : Int) (w : World) (h : Tree w b xb x p) : Calls Tryf.prog 11 #[.pointer (some ⟨b, 0, none⟩)] w fun e w' => e = .returned (.int .i64 0) ∧ w = w' := by
  obtain ⟨h0, h1, h2, h3, h4, h5, h6, h7, h8, h9⟩ := h
  go_enter Tryf.func11, Tryf.ntmps11
  go_wp2
  go_ret
  exact ⟨rfl, rfl⟩
theorem agreement_any (b xb x : Nat) (p : Int) (w : World) (h : Tree w b xb x p) : Calls Tryf.prog 12 #[.pointer (some ⟨b, 0, none⟩)] w fun e w' => e = .returned (.float .f64 4607182418800017408) ∧ w = w' := by
  obtain ⟨h0, h1, h2, h3, h4, h5, h6, h7, h8, h9⟩ := h
  go_enter Tryf.func12, Tryf.ntmps12
  go_wp2
  go_ret
  exact ⟨rfl, rfl⟩

/-- New, at a config that it accepts. -/
theorem new_any (f : Value) (t : Nat) (lv bu : Int) (s : ByteArray) (w : World) (hl : 1 ≤ lv) (hs : knownB s = true) (xb : Nat) (hf : f = .func (.func 14) #[] #[.pointer (some ⟨xb, 0, none⟩)]) :
    Calls Tryf.prog 13 #[f, .agg #[.float .f64 t, .int .i64 lv, .string s, .int .i64 bu]] w fun e w' =>
      e = .returned (.pointer (some ⟨w.heap.size + 1, 0, none⟩)) ∧ ∃ c1 : Array Value, w' = (w.alloc (.cells c1 28)).alloc (.cells #[.func (.func 14) #[] #[.pointer (some ⟨xb, 0, none⟩)], .float .f64 t, .int .i64 lv, .string s, .int .i64 bu, .slice none 0 0, .slice none 0 0, .int .i64 0, .int .i64 0, .int .i64 0, .int .i64 0] 41) := by
  subst hf
  go_enter Tryf.func13, Tryf.ntmps13
  go_wp2_with (go_at_call 17; refine (known17_any _ _).mono ?_; rintro e w' ⟨rfl, rfl⟩)
  go_ret
  exact ⟨rfl, _, rfl⟩

/-- ZZnew. -/
theorem zzNew_any (x t : Nat) (lv bu : Int) (s : ByteArray) (w : World) (hl : 1 ≤ lv) (hs : knownB s = true) :
    Calls Tryf.prog 6 #[.float .f64 x, .agg #[.float .f64 t, .int .i64 lv, .string s, .int .i64 bu]] w fun e w' => ∃ b xb, e = .returned (.pointer (some ⟨b, 0, none⟩)) ∧ Tree w' b xb x 0 ∧ w.heap.size ≤ b ∧ Below w.heap.size w w' := by
  go_enter Tryf.func6, Tryf.ntmps6
  go_wp2_with fail
  refine (new_any _ t lv bu s _ hl hs w.heap.size rfl).mono ?_
  rintro e w' ⟨rfl, c1, rfl⟩
  go_wp2
  go_ret
  refine ⟨w.heap.size + 1 + 1 + 1, w.heap.size, by simp, ?_, by omega, ?_⟩
  · refine ⟨?_, ?_, ?_, ?_, ?_, ?_, ?_, by omega, by simp, by simp; omega⟩
    all_goals simp [go_sem, World.cell?_alloc_past]
  · exact ((((Below.refl _ _).alloc (Nat.le_refl _) _).alloc (by simp) _).alloc (by simp; omega) _).alloc (by simp; omega) _
end Go.Proofs.Qxb6614982aFmt
