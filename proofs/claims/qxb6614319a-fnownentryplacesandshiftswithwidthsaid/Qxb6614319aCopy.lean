import Derived.Test.Qxb6614319aOwn
import Derived.Laws.CopyOwn
import Derived.Deep.WholeRow
namespace Go.Proofs.Qxb6614319a
open Go.RowKit
set_option linter.unusedVariables false

/-- WHAT THE WALK IS TOLD OF A SLICE OF INTEGERS THAT CAME IN. -/
def RowIn (k : IntKind) (w : World) (a : Option Addr) (len : Nat) (zs : List Int) : Prop :=
  (a = none ∧ len = 0) ∨ ∃ x, a = some x ∧ len ≤ zs.length ∧ ∀ i, i < zs.length → w.cell? (x.add i) = some (.int k (zs.getD i 0))

/-- The numbers of a slice, as cells. -/
def cellsOf (k : IntKind) (zs : List Int) (n : Nat) : List Value := (zs.take n).map (Value.int k)
theorem cellsOf_length (k : IntKind) {zs : List Int} {n : Nat} (h : n ≤ zs.length) : (cellsOf k zs n).length = n := by simp [cellsOf]; omega
theorem cellsOf_get {k : IntKind} {zs : List Int} {n j : Nat} {v : Value} (h : (cellsOf k zs n)[j]? = some v) : j < n ∧ j < zs.length ∧ v = .int k (zs.getD j 0) := by
  simp only [cellsOf, List.getElem?_map, Option.map_eq_some_iff, List.getElem?_take] at h
  obtain ⟨z, hz, rfl⟩ := h
  split at hz
  · rename_i hj
    obtain ⟨hl, he⟩ := List.getElem?_eq_some_iff.1 hz
    exact ⟨hj, hl, by simp [List.getD, hz]⟩
  · simp at hz
theorem cellsOf_one (k : IntKind) (zs : List Int) (n : Nat) : ∀ v ∈ cellsOf k zs n, v.oneCell' = true := ints_oneCell _ _
def copied (k : IntKind) (zs : List Int) (n : Nat) : Array Value := (cellsOf k zs n).toArray

/-- What 'make' lays: n times one value. -/
def made (z : Value) (n : Nat) : Array Value := (List.replicate n z).toArray
theorem made_eq (z : Value) (n : Nat) : madeCells #[z] n = made z n := by
  have := toList_madeCells_one z n
  rw [made, ← this]

theorem info21 : (Try.prog.info? 21).map (fun i => (i.zero, i.size, i.bytes)) = some (some (.int .i32 0), 1, 4) := by kernel_rfl
theorem size21 : (Try.prog.info? 21).map (·.size) = some 1 := by kernel_rfl
theorem info41 : (Try.prog.info? 41).map (fun i => (i.zero, i.size, i.bytes)) = some (some (.int .u64 0), 1, 8) := by kernel_rfl
theorem size41 : (Try.prog.info? 41).map (·.size) = some 1 := by kernel_rfl

theorem make21 (n : Nat) (hn : n ≤ 65536) (w : World) :
    (Instr.makeSlice 22 (.int .i64 (n : Int)) (.int .i64 (n : Int))).run Try.prog w = .ok (.slice (some ⟨w.heap.size, 0, none⟩) n n) (w.alloc (.cells (made (.int .i32 0) n) 21)) := by
  rw [← made_eq]
  exact run_make_row' 22 21 _ 4 Try.underlying22 info21 rfl .i64 .i64 n (by omega) (by omega) w
theorem make41 (n : Nat) (hn : n ≤ 65536) (w : World) :
    (Instr.makeSlice 39 (.int .i64 (n : Int)) (.int .i64 (n : Int))).run Try.prog w = .ok (.slice (some ⟨w.heap.size, 0, none⟩) n n) (w.alloc (.cells (made (.int .u64 0) n) 41)) := by
  rw [← made_eq]
  exact run_make_row' 39 41 _ 8 Try.underlying39 info41 rfl .i64 .i64 n (by omega) (by omega) w

theorem cells_src {k : IntKind} {w w1 : World} {zs : List Int} {n : Nat} {ad : Addr} (hc : ∀ i, i < zs.length → w.cell? (ad.add i) = some (.int k (zs.getD i 0))) (hb : Below w.heap.size w w1) :
    ∀ j v, (cellsOf k zs n)[j]? = some v → w1.cell? (ad.add j) = some v := by
  intro j v hj
  obtain ⟨_, hz, rfl⟩ := cellsOf_get hj
  exact cell_later hb (hc j hz)

/-- 'copy(zzc, xs)' over the row that make has just laid, as long as xs: the row holds the numbers. -/
theorem copy_run {T E : TypeId} (hu : Try.prog.underlying T = some (.slice E)) (hs : (Try.prog.info? E).map (·.size) = some 1) (k : IntKind) (z : Value) (zs : List Int) (n c : Nat) (ad : Addr) (w0 w : World)
    (hl : n ≤ zs.length) (hc : ∀ i, i < zs.length → w0.cell? (ad.add i) = some (.int k (zs.getD i 0))) (hb : Below w0.heap.size w0 w) :
    (Builtin.copy_ #[T, T] 3 #[.slice (some ⟨w.heap.size, 0, none⟩) n n, .slice (some ad) n c]).run Try.prog (w.alloc (.cells (made z n) E)) = .ok (.int .i64 (n : Int)) (w.alloc (.cells (copied k zs n) E)) := by
  have hr := run_copy_row (P := Try.prog) (w.alloc (.cells (made z n) E)) T T 3 E w.heap.size 0 n n ad n c (made z n) E (cellsOf k zs n) hu hs (Deep.blk_alloc_new _ _)
    (by rw [cellsOf_length k hl]; exact (Nat.min_self n).symm) (cells_src hc (hb.alloc hb.size _)) (by rw [cellsOf_length k hl]; simp [made]) (cellsOf_one _ _ _)
  rw [hr, World.setRow_alloc_new, cellsOf_length k hl]
  have e : ((made z n).toList.take 0 ++ cellsOf k zs n ++ (made z n).toList.drop (0 + n)).toArray = copied k zs n := by simp [made, copied]
  rw [e]
  rfl

theorem hasRow_copied {k : IntKind} {w : World} {n : Nat} {t : TypeId} {zs : List Int} (hn : n ≤ zs.length) : HasRow k (w.alloc (.cells (copied k zs n) t)) (some ⟨w.heap.size, 0, none⟩) n zs := by
  intro _
  refine ⟨_, rfl, by simp, fun j hj => ?_⟩
  have hj' : j < zs.length := by omega
  have h : (w.alloc (.cells (copied k zs n) t)).heap[w.heap.size]? = some (.cells (copied k zs n) t (0, 0)) := Deep.blk_alloc_new _ _
  simp only [World.cell?, h]
  simp [copied, cellsOf, hj, hj', List.getD]
theorem hasRow_none {k : IntKind} {w : World} {a : Option Addr} {zs : List Int} : HasRow k w a 0 zs := fun h => absurd h (by omega)
theorem HasRow.below {k : IntKind} {w w' : World} {a : Option Addr} {n : Nat} {zs : List Int} (h : HasRow k w a n zs) (hb : Below w.heap.size w w') : HasRow k w' a n zs := by
  intro hp
  obtain ⟨g, e, hg, hc⟩ := h hp
  exact ⟨g, e, Nat.lt_of_lt_of_le hg hb.size, fun j hj => cell_later hb (hc j hj)⟩
end Go.Proofs.Qxb6614319a
