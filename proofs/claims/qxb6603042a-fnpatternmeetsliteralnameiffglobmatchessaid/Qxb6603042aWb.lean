/- Walks: CompilePattern. -/
import Derived.Test.Qxb6603042aWa
namespace Go.Proofs.Qxb6603042a
open Go.RowKit

theorem info35 : (Try.prog.info? 35).map (fun i => (i.zero, i.size, i.bytes)) = some (some (.int .i64 0), 1, 8) := by kernel_rfl

/-- Numbers as cells. -/
def cI (xs : List Int) : List Value := xs.map (Value.int .i64)

/-- What holds while a pattern is compiled: the result's block, the pattern's block, its row of steps. -/
structure CP (w wr : World) (pre : ByteArray) (d : Bool) (v : Value) (xs : List Int) : Prop where
  res : wr.heap[w.heap.size]? = some (.cells #[.string { data := #[] }, .slice none 0 0, .bool false] 26 (0, 0))
  pat : wr.heap[w.heap.size + 1]? = some (.cells #[.string pre, v, .bool d] 26 (0, 0))
  own : wr.ownsRow (w.heap.size + 2) 35 1 v xs.length (cI xs)
  bel : Below w.heap.size w wr
  size : w.heap.size + 2 ≤ wr.heap.size

theorem cells3 {wr : World} {b : Nat} {x y z : Value} {t : TypeId} (h : wr.heap[b]? = some (.cells #[x, y, z] t (0, 0))) :
    (wr.cell? ⟨b, 0, none⟩ = some x ∧ wr.cell? ⟨b, 1, none⟩ = some y ∧ wr.cell? ⟨b, 2, none⟩ = some z) ∧ ∀ j, wr.frozen? ⟨b, j, none⟩ = false := by
  refine ⟨⟨?_, ?_, ?_⟩, fun j => Lib.frozen_of_heap h _⟩
  · rw [cell_of_row wr b 0 _ t (0, 0) h]; rfl
  · rw [cell_of_row wr b 1 _ t (0, 0) h]; rfl
  · rw [cell_of_row wr b 2 _ t (0, 0) h]; rfl

theorem set_pat {wr : World} {b : Nat} {x y z u : Value} {t : TypeId} (h : wr.heap[b]? = some (.cells #[x, y, z] t (0, 0))) : (wr.setCell ⟨b, 1, none⟩ u).heap[b]? = some (.cells #[x, u, z] t (0, 0)) := by
  simp [World.setCell, Array.getElem?_modify, h]

theorem CP.alloc {w wr : World} {pre : ByteArray} {d : Bool} {v : Value} {xs : List Int} (h : CP w wr pre d v xs) (o : Obj) : CP w (wr.alloc o) pre d v xs := by
  have hs := h.size
  exact ⟨by rw [Below.heap_alloc _ _ _ (by omega)]; exact h.res, by rw [Below.heap_alloc _ _ _ (by omega)]; exact h.pat, h.own.alloc o, h.bel.alloc (by omega) o, by simp; omega⟩
theorem CP.drew {w wr : World} {pre : ByteArray} {d : Bool} {v : Value} {xs : List Int} (h : CP w wr pre d v xs) : CP w wr.drew pre d v xs :=
  ⟨h.res, h.pat, h.own.drew, h.bel.drew, h.size⟩

/-- Behind an append: the blocks stand. -/
theorem CP.kept {w wr w1 : World} {pre : ByteArray} {d : Bool} {v : Value} {xs : List Int} (h : CP w wr pre d v xs) (gr : wr.grownBy w1 v.ownBlock) :
    w1.heap[w.heap.size]? = some (.cells #[.string { data := #[] }, .slice none 0 0, .bool false] 26 (0, 0)) ∧ w1.heap[w.heap.size + 1]? = some (.cells #[.string pre, v, .bool d] 26 (0, 0)) ∧ Below w.heap.size w w1 ∧ w.heap.size + 2 ≤ w1.heap.size := by
  have hs := h.size
  have hz := gr.size
  have hk := h.own.lt
  refine ⟨?_, ?_, h.bel.grown gr (by omega) (fun k e => by have := hk k e; omega), by omega⟩
  · rw [gr.block _ (by omega) (fun e => by have := hk _ e.symm; omega)]; exact h.res
  · rw [gr.block _ (by omega) (fun e => by have := hk _ e.symm; omega)]; exact h.pat

/-- Behind the store of the new slice. -/
theorem CP.next {w wr w1 : World} {pre : ByteArray} {d : Bool} {v : Value} {xs : List Int} {news : List Int} {g c : Nat} (h : CP w wr pre d v xs)
    (own : w1.ownsRow (w.heap.size + 2) 35 1 (.slice (some ⟨g, 0, none⟩) (xs.length + news.length) c) (xs.length + news.length) (cI xs ++ cI news)) (gr : wr.grownBy w1 v.ownBlock) :
    CP w (w1.setCell ⟨w.heap.size + 1, 1, none⟩ (.slice (some ⟨g, 0, none⟩) (xs.length + news.length) c)) pre d (.slice (some ⟨g, 0, none⟩) (xs.length + news.length) c) (xs ++ news) := by
  obtain ⟨k1, k2, k3, k4⟩ := h.kept gr
  refine ⟨?_, set_pat k2, ?_, k3.setCell (by simp) _, by simpa [World.setCell] using k4⟩
  · rw [Below.heap_setCell _ _ _ _ (by simp)]; exact k1
  · have := ownsRow_setCell_below own (a := ⟨w.heap.size + 1, 1, none⟩) (by simp) (.slice (some ⟨g, 0, none⟩) (xs.length + news.length) c)
    rw [List.length_append]
    simpa [cI] using this

theorem CP.start (w : World) (pre : ByteArray) (d : Bool) :
    CP w ((w.alloc (.cells #[.string { data := #[] }, .slice none 0 0, .bool false] 26)).alloc (.cells #[.string pre, .slice none 0 0, .bool d] 26)) pre d (.slice none 0 0) [] := by
  refine ⟨?_, ?_, World.ownsRow_nil .., ?_, by simp⟩
  · rw [Below.heap_alloc _ _ _ (by simp)]; exact heap_alloc_new w _
  · have := heap_alloc_new (w.alloc (.cells #[.string { data := #[] }, .slice none 0 0, .bool false] 26)) (.cells #[.string pre, .slice none 0 0, .bool d] 26)
    simpa using this
  · exact ((Below.refl _ _).alloc (Nat.le_refl _) _).alloc (by simp) _

theorem own_form {w : World} {base : Nat} {e : TypeId} {v : Value} {n : Nat} {xs : List Value} (h : w.ownsRow base e 1 v n xs) : ∃ a c, v = .slice a n c := by
  rcases h.2 with ⟨h1, h2⟩ | ⟨g, c, _, h1, _⟩
  · exact ⟨none, 0, by rw [h1, h2]⟩
  · exact ⟨_, c, h1⟩

/-- Behind the result's store. -/
theorem CP.done {w wr : World} {pre : ByteArray} {d : Bool} {v x y z : Value} {xs : List Int} (h : CP w wr pre d v xs) :
    (((wr.setCell ⟨w.heap.size, 0, none⟩ x).setCell ⟨w.heap.size, 1, none⟩ y).setCell ⟨w.heap.size, 2, none⟩ z).ownsRow (w.heap.size + 2) 35 1 v xs.length (cI xs) ∧
    Below w.heap.size w (((wr.setCell ⟨w.heap.size, 0, none⟩ x).setCell ⟨w.heap.size, 1, none⟩ y).setCell ⟨w.heap.size, 2, none⟩ z) ∧
    w.heap.size + 2 ≤ (((wr.setCell ⟨w.heap.size, 0, none⟩ x).setCell ⟨w.heap.size, 1, none⟩ y).setCell ⟨w.heap.size, 2, none⟩ z).heap.size := by
  refine ⟨?_, ?_, ?_⟩
  · exact ownsRow_setCell_below (ownsRow_setCell_below (ownsRow_setCell_below h.own (a := ⟨w.heap.size, 0, none⟩) (by simp) x) (a := ⟨w.heap.size, 1, none⟩) (by simp) y) (a := ⟨w.heap.size, 2, none⟩) (by simp) z
  · exact ((h.bel.setCell (Nat.le_refl _) x).setCell (Nat.le_refl _) y).setCell (Nat.le_refl _) z
  · simpa [World.setCell] using h.size

/-! ### The tokens, step by step -/
theorem two_yes {l : List UInt8} (h : two l = true) : ∃ t, l = 42 :: 42 :: t := by
  unfold two at h
  cases l with
  | nil => simp at h
  | cons c t =>
    cases t with
    | nil => simp at h
    | cons d r =>
      simp at h
      exact ⟨r, by rw [h.1, h.2]⟩
theorem two_no {t : List UInt8} (h : two (42 :: t) = false) : ∀ d r, t = d :: r → d ≠ 42 := by
  intro d r e hd
  subst e hd
  simp [two] at h

theorem tok_at_two (B : ByteArray) (k : Nat) (h : two ((bs B).drop k) = true) : k + 2 ≤ B.size ∧ GP.tok ((bs B).drop k) = 257 :: GP.tok ((bs B).drop (k + 2)) := by
  obtain ⟨t, ht⟩ := two_yes h
  have hl := congrArg List.length ht
  rw [List.length_drop, bs_length] at hl
  simp at hl
  refine ⟨by omega, ?_⟩
  have h2 : (bs B).drop (k + 2) = t := by rw [← List.drop_drop, ht]; rfl
  rw [h2, ht, GP.tok_two]
theorem tok_at_one (B : ByteArray) (k : Nat) (hk : k < B.size) (h : two ((bs B).drop k) = false) (hc : B[k] = 42) : GP.tok ((bs B).drop k) = 256 :: GP.tok ((bs B).drop (k + 1)) := by
  rw [drop_step B k hk, hc] at h ⊢
  exact GP.tok_one _ (two_no h)
theorem tok_at_lit (B : ByteArray) (k : Nat) (hk : k < B.size) (hc : B[k] ≠ 42) : GP.tok ((bs B).drop k) = (B[k].toNat : Int) :: GP.tok ((bs B).drop (k + 1)) := by
  rw [drop_step B k hk]; exact GP.tok_lit _ _ hc
theorem two_lit (B : ByteArray) (k : Nat) (hk : k < B.size) (hc : B[k] ≠ 42) : two ((bs B).drop k) = false := by
  rw [drop_step B k hk]
  cases h : two (B[k] :: (bs B).drop (k + 1)) with
  | false => rfl
  | true => obtain ⟨t, ht⟩ := two_yes h; simp at ht; exact absurd ht.1 hc
theorem tok_at_end (B : ByteArray) (k : Nat) (hk : B.size ≤ k) : GP.tok ((bs B).drop k) = [] := by
  rw [List.drop_eq_nil_of_le (by rw [bs_length]; exact hk)]; rfl

end Go.Proofs.Qxb6603042a
