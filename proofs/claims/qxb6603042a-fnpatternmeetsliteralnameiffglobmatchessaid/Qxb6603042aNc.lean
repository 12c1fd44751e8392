/- Rows of truth values: PrefixMatches' table, row by row. -/
import Derived.Test.Qxb6603042aMf
import Derived.Test.Qxb6603042aNa
namespace Go.Proofs.Qxb6603042a.M
open Go.RowKit
set_option linter.unusedVariables false

/-- A row of truth values. -/
def BRow (w : World) (g : Nat) (T : List Bool) : Prop := w.heap[g]? = some (.cells (T.map Value.bool).toArray 4 (0, 0))

theorem BRow.cell {w : World} {g : Nat} {T : List Bool} (h : BRow w g T) {j : Nat} (hj : j < T.length) : w.cell? ⟨g, j, none⟩ = some (.bool (T.getD j false)) := by
  rw [cell_of_row w g j _ 4 (0, 0) h]
  simp [hj]
theorem BRow.frozen {w : World} {g : Nat} {T : List Bool} (h : BRow w g T) (j : Nat) : w.frozen? ⟨g, j, none⟩ = false := Lib.frozen_of_heap h _
theorem BRow.set {w : World} {g : Nat} {T : List Bool} (h : BRow w g T) (k : Nat) (b : Bool) : BRow (w.setCell ⟨g, k, none⟩ (.bool b)) g (T.set k b) := by
  unfold BRow at h ⊢
  simp [World.setCell, Array.getElem?_modify, h]
theorem BRow.other {w : World} {g g' : Nat} {T : List Bool} (h : BRow w g T) (hne : g ≠ g') (k : Nat) (v : Value) : BRow (w.setCell ⟨g', k, none⟩ v) g T := by
  unfold BRow at h ⊢
  rw [Below.heap_setCell _ _ _ _ hne]; exact h
theorem BRow.below {w w' : World} {g B : Nat} {T : List Bool} (h : BRow w g T) (hb : Below B w w') (hg : g < B) : BRow w' g T := by
  unfold BRow at h ⊢
  rw [hb.block _ hg]; exact h
theorem BRow.new (w : World) (M : Nat) : BRow (w.alloc (.cells (madeCells #[.bool false] M) 4)) w.heap.size (List.replicate M false) := by
  have h := heap_alloc_new w (.cells (madeCells #[.bool false] M) 4)
  have e : madeCells #[.bool false] M = ((List.replicate M false).map Value.bool).toArray := by
    apply Array.ext'
    rw [toList_madeCells_one]; simp
  unfold BRow
  rw [← e]; exact h

/-! The table's rows. -/
def drow (xs B : List Int) (M t : Nat) : List Bool := (List.range M).map (GP.dp xs B t)
def mid (xs B : List Int) (M t j : Nat) : List Bool := (List.range M).map fun x => decide (x < j) && GP.dp xs B t x

theorem drow_length (xs B : List Int) (M t : Nat) : (drow xs B M t).length = M := by simp [drow]
theorem mid_length (xs B : List Int) (M t j : Nat) : (mid xs B M t j).length = M := by simp [mid]
theorem drow_at (xs B : List Int) (M t j : Nat) (h : j < M) : (drow xs B M t).getD j false = GP.dp xs B t j := by simp [drow, h]
theorem mid_at (xs B : List Int) (M t j k : Nat) (h : k < M) : (mid xs B M t j).getD k false = (decide (k < j) && GP.dp xs B t k) := by simp [mid, h]
theorem mid_start (xs B : List Int) (M t : Nat) : mid xs B M t 0 = List.replicate M false := by
  apply List.ext_getElem
  · simp [mid]
  · intro i h1 h2; simp [mid]
theorem mid_end (xs B : List Int) (M t : Nat) : mid xs B M t M = drow xs B M t := by
  apply List.ext_getElem
  · simp [mid, drow]
  · intro i h1 h2
    rw [mid_length] at h1
    simp [mid, drow, h1]
theorem mid_set (xs B : List Int) (M t j : Nat) : (mid xs B M t j).set j (GP.dp xs B t j) = mid xs B M t (j + 1) := by
  apply List.ext_getElem
  · simp [mid]
  · intro i h1 h2
    rw [List.getElem_set]
    simp only [mid, List.getElem_map, List.getElem_range]
    by_cases e : j = i
    · subst e; simp
    · rw [if_neg e]
      by_cases h : i < j
      · rw [decide_eq_true h, decide_eq_true (show i < j + 1 by omega)]
      · rw [decide_eq_false h, decide_eq_false (show ¬ i < j + 1 by omega)]
theorem drow_start (xs B : List Int) (M : Nat) (h : 0 < M) : (List.replicate M false).set 0 true = drow xs B M 0 := by
  apply List.ext_getElem
  · simp [drow]
  · intro i h1 h2
    rw [List.getElem_set]
    simp only [drow, List.getElem_map, List.getElem_range, List.getElem_replicate]
    rw [GP.dp_z]
    by_cases e : 0 = i
    · subst e; simp
    · rw [if_neg e]; simp; omega

/-- The state inside a row's making: w1: the world ahead of the new row. -/
structure IN (w1 : World) (g : Nat) (xs B : List Int) (M t j : Nat) (wr : World) : Prop where
  row : BRow wr g (drow xs B M t)
  nxt : BRow wr w1.heap.size (mid xs B M (t + 1) j)
  bel : Below w1.heap.size w1 wr
  old : g < w1.heap.size
  size : w1.heap.size + 1 ≤ wr.heap.size

theorem IN.start {w1 : World} {g : Nat} {xs B : List Int} {M t : Nat} (h : BRow w1 g (drow xs B M t)) (hg : g < w1.heap.size) : IN w1 g xs B M t 0 (w1.alloc (.cells (madeCells #[.bool false] M) 4)) := by
  have hb := (Below.refl w1.heap.size w1).alloc (Nat.le_refl _) (.cells (madeCells #[.bool false] M) 4)
  exact ⟨h.below hb hg, by rw [mid_start]; exact BRow.new w1 M, hb, hg, by simp⟩

theorem IN.step {w1 wr : World} {g : Nat} {xs B : List Int} {M t j : Nat} (h : IN w1 g xs B M t j wr) {v : Bool} (hv : GP.dp xs B (t + 1) j = v) : IN w1 g xs B M t (j + 1) (wr.setCell ⟨w1.heap.size, j, none⟩ (.bool v)) := by
  have hg := h.old
  subst hv
  exact ⟨h.row.other (by omega) _ _, by rw [← mid_set]; exact h.nxt.set _ _, h.bel.setCell (Nat.le_refl _) _, hg, by simpa [World.setCell] using h.size⟩

/-- The cells that a step reads. -/
theorem IN.cells {w1 wr : World} {g : Nat} {xs B : List Int} {M t j : Nat} (h : IN w1 g xs B M t j wr) (hj : j < M) :
    wr.cell? ⟨g, j, none⟩ = some (.bool (GP.dp xs B t j)) ∧ wr.cell? ⟨w1.heap.size, j, none⟩ = some (.bool false) ∧ wr.frozen? ⟨w1.heap.size, j, none⟩ = false := by
  refine ⟨?_, ?_, h.nxt.frozen j⟩
  · rw [h.row.cell (by rw [drow_length]; exact hj), drow_at _ _ _ _ _ hj]
  · rw [h.nxt.cell (by rw [mid_length]; exact hj), mid_at _ _ _ _ _ _ hj]; simp
theorem IN.back {w1 wr : World} {g : Nat} {xs B : List Int} {M t j : Nat} (h : IN w1 g xs B M t j wr) (hj : j < M) (h0 : 0 < j) :
    wr.cell? ⟨g, j - 1, none⟩ = some (.bool (GP.dp xs B t (j - 1))) ∧ wr.cell? ⟨w1.heap.size, j - 1, none⟩ = some (.bool (GP.dp xs B (t + 1) (j - 1))) := by
  refine ⟨?_, ?_⟩
  · rw [h.row.cell (by rw [drow_length]; omega), drow_at _ _ _ _ _ (by omega)]
  · rw [h.nxt.cell (by rw [mid_length]; omega), mid_at _ _ _ _ _ _ (by omega), decide_eq_true (by omega), Bool.true_and]

/-! The table's rule, read at a place. -/
theorem dp_257_0 {xs B : List Int} {t : Nat} (h : xs.getD t 0 = 257) : GP.dp xs B (t + 1) 0 = GP.dp xs B t 0 := by rw [GP.dp_0, if_pos h]
theorem dp_256_0 {xs B : List Int} {t : Nat} (h : xs.getD t 0 = 256) : GP.dp xs B (t + 1) 0 = GP.dp xs B t 0 := by rw [GP.dp_0, if_neg (by omega), if_pos h]
theorem dp_lit_0 {xs B : List Int} {t : Nat} (h : xs.getD t 0 ≠ 257) (h2 : xs.getD t 0 ≠ 256) : GP.dp xs B (t + 1) 0 = false := by rw [GP.dp_0, if_neg h, if_neg h2]
theorem dp_257 {xs B : List Int} {t j : Nat} (hj : 0 < j) (h : xs.getD t 0 = 257) : GP.dp xs B (t + 1) j = (GP.dp xs B t j || GP.dp xs B (t + 1) (j - 1)) := by
  obtain ⟨k, rfl⟩ : ∃ k, j = k + 1 := ⟨j - 1, by omega⟩
  rw [GP.dp_s, if_pos h]; rfl
theorem dp_256 {xs B : List Int} {t j : Nat} (hj : 0 < j) (h : xs.getD t 0 = 256) : GP.dp xs B (t + 1) j = (GP.dp xs B t j || (!(B.getD (j - 1) 0 == 47) && GP.dp xs B (t + 1) (j - 1))) := by
  obtain ⟨k, rfl⟩ : ∃ k, j = k + 1 := ⟨j - 1, by omega⟩
  rw [GP.dp_s, if_neg (by omega), if_pos h]; rfl
theorem dp_lit {xs B : List Int} {t j : Nat} (hj : 0 < j) (h : xs.getD t 0 ≠ 257) (h2 : xs.getD t 0 ≠ 256) : GP.dp xs B (t + 1) j = ((B.getD (j - 1) 0 == xs.getD t 0) && GP.dp xs B t (j - 1)) := by
  obtain ⟨k, rfl⟩ : ∃ k, j = k + 1 := ⟨j - 1, by omega⟩
  rw [GP.dp_s, if_neg h, if_neg h2]; rfl
end Go.Proofs.Qxb6603042a.M
