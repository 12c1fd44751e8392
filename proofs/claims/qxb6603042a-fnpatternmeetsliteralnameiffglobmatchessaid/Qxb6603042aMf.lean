/- meets: where the prefixes part; the setting up. -/
import Derived.Test.Qxb6603042aMe
import Derived.Lib.MinMax
import Derived.Deep.CutRange
import Derived.Deep.LoopGhost
import Derived.Deep.DeepCutAuto
namespace Go.Proofs.Qxb6603042a.M
open Go.RowKit
set_option linter.unusedVariables false

/-- What 'meets' answers. -/
def Meets (pre1 : ByteArray) (d1 : Bool) (xs1 : List Int) (pre2 : ByteArray) (d2 : Bool) (xs2 : List Int) (r : Bool) : Prop :=
  if (bs pre1).take (min pre1.size pre2.size) = (bs pre2).take (min pre1.size pre2.size) then
    (r = true ↔ ∃ q, GP.Reach (litsOf (bs pre1) ++ xs1) (litsOf (bs pre2) ++ xs2) (min pre1.size pre2.size) q ∧ (endsAt (pre1.size + xs1.length) d1 q.1 && endsAt (pre2.size + xs2.length) d2 q.2) = true)
  else r = false

theorem below_drewN {B : Nat} {a w : World} (h : Below B a w) (n : Nat) : Below B a (w.drewN n) := ⟨h.os, h.tape, h.output, h.size, h.block⟩

set_option maxHeartbeats 400000 in
theorem meets_apart (pre1 pre2 : ByteArray) (a1 a2 : Option Addr) (c1 c2 n1 n2 : Nat) (d1 d2 : Bool) (w : World) (hp1 : pre1.size ≤ 70000) (hp2 : pre2.size ≤ 70000)
    (hne : ¬ (bs pre1).take (min pre1.size pre2.size) = (bs pre2).take (min pre1.size pre2.size)) :
    Calls Try.prog 20 #[.agg #[.string pre1, .slice a1 n1 c1, .bool d1], .agg #[.string pre2, .slice a2 n2 c2, .bool d2]] w fun e w' => e = .returned (.bool false) ∧ Below w.heap.size w w' := by
  have hmin : min (pre1.size : Int) (pre2.size : Int) = ((min pre1.size pre2.size : Nat) : Int) := by omega
  have hl1 : min pre1.size pre2.size ≤ pre1.size := by omega
  have hl2 : min pre1.size pre2.size ≤ pre2.size := by omega
  generalize min pre1.size pre2.size = n at *
  have ht : ((pre1.extract 0 n).toList == (pre2.extract 0 n).toList) = false := by
    rw [toList_bs, toList_bs, extract_start, extract_start, bs_mk, bs_mk]
    simpa using hne
  go_enter Try.func20, Try.ntmps20
  go_wp2_with fail
  go_quiet (fail)
  go_wp2_with fail
  go_ret
  exact ⟨rfl, below_drewN (((Below.refl _ _).alloc (Nat.le_refl _) _).alloc (by simp) _) _⟩

theorem own_below {w w' : World} {base : Nat} {e : TypeId} {v : Value} {n : Nat} {xs : List Value} (h : w.ownsRow base e 1 v n xs) (hb : Below w.heap.size w w') : w'.ownsRow base e 1 v n xs := by
  have hl := h.lt
  refine ⟨h.1, ?_⟩
  rcases h.2 with h2 | ⟨g, cap, cur, hv, h3, h4, h5⟩
  · exact .inl h2
  · refine .inr ⟨g, cap, cur, hv, h3, ?_, h5⟩
    rw [hb.block g (hl g (by rw [hv]; rfl)).2]; exact h4

theorem own_le {w : World} {base base' : Nat} {e : TypeId} {v : Value} {n : Nat} {xs : List Value} (h : w.ownsRow base e 1 v n xs) (hb : base' ≤ base) : w.ownsRow base' e 1 v n xs := by
  refine ⟨h.1, ?_⟩
  rcases h.2 with h2 | ⟨g, cap, cur, hv, h3, h5⟩
  · exact .inl h2
  · exact .inr ⟨g, cap, cur, hv, Nat.le_trans hb h3, h5⟩

/-- The world behind the boxes. -/
theorem boxes (w : World) (o1 o2 : Obj) (k : Nat) (wq : World) (h : ((w.alloc o1).alloc o2).drewN k = wq) :
    wq.heap.size = w.heap.size + 2 ∧ wq.heap[w.heap.size]? = some o1 ∧ wq.heap[w.heap.size + 1]? = some o2 ∧ Below w.heap.size w wq := by
  subst h
  refine ⟨by simp [World.drewN], ?_, ?_, below_drewN (((Below.refl _ _).alloc (Nat.le_refl _) _).alloc (by simp) _) _⟩
  · show ((w.alloc o1).alloc o2).heap[w.heap.size]? = some o1
    rw [Below.heap_alloc _ _ _ (by simp)]; exact heap_alloc_new w _
  · show ((w.alloc o1).alloc o2).heap[w.heap.size + 1]? = some o2
    have := heap_alloc_new (w.alloc o1) o2
    simpa using this

theorem wrap64_of {z y : Int} (h : IntKind.i64.wrap z = y) : wrap64 z = y := by rw [← h, IntKind.wrap_i64, wrap64]
theorem info4 : (Try.prog.info? 4).map (fun i => (i.zero, i.size, i.bytes)) = some (some (.bool false), 1, 1) := by kernel_rfl

theorem SR.start (w5 : World) (L M n : Nat) (hL : w5.heap.size = L) :
    SR w5 ((((w5.alloc (.cells (madeCells #[.bool false] M) 4)).alloc (.cells #[.slice (some ⟨L, 0, none⟩) M M] 37)).alloc (.cells #[.int .i64 (n : Int), .int .i64 (n : Int)] 41)).alloc (.cells #[.slice (some ⟨L + 2, 0, none⟩) 1 1] 42)) L (List.replicate M false) (.slice (some ⟨L + 2, 0, none⟩) 1 1) (L + 2) 0 1 [(n, n)] := by
  subst hL
  have e0 : (w5.alloc (.cells (madeCells #[.bool false] M) 4)).heap[w5.heap.size]? = some (.cells (madeCells #[.bool false] M) 4 (0, 0)) := heap_alloc_new w5 _
  generalize hW1 : w5.alloc (.cells (madeCells #[.bool false] M) 4) = W1 at *
  have s1 : W1.heap.size = w5.heap.size + 1 := by rw [← hW1]; simp
  have b1 : Below w5.heap.size w5 W1 := by rw [← hW1]; exact (Below.refl _ _).alloc (Nat.le_refl _) _
  have e1 : (W1.alloc (.cells #[.slice (some ⟨w5.heap.size, 0, none⟩) M M] 37)).heap[w5.heap.size + 1]? = some (.cells #[.slice (some ⟨w5.heap.size, 0, none⟩) M M] 37 (0, 0)) := by rw [← s1]; exact heap_alloc_new W1 _
  have f1 : (W1.alloc (.cells #[.slice (some ⟨w5.heap.size, 0, none⟩) M M] 37)).heap[w5.heap.size]? = _ := (Below.heap_alloc W1 _ _ (by omega)).trans e0
  generalize hW2 : W1.alloc (.cells #[.slice (some ⟨w5.heap.size, 0, none⟩) M M] 37) = W2 at *
  have s2 : W2.heap.size = w5.heap.size + 2 := by rw [← hW2]; simp [s1]
  have b2 : Below w5.heap.size w5 W2 := by rw [← hW2]; exact b1.alloc (by omega) _
  have e2 : (W2.alloc (.cells #[.int .i64 (n : Int), .int .i64 (n : Int)] 41)).heap[w5.heap.size + 2]? = some (.cells #[.int .i64 (n : Int), .int .i64 (n : Int)] 41 (0, 0)) := by rw [← s2]; exact heap_alloc_new W2 _
  have f2 : (W2.alloc (.cells #[.int .i64 (n : Int), .int .i64 (n : Int)] 41)).heap[w5.heap.size]? = _ := (Below.heap_alloc W2 _ _ (by omega)).trans f1
  have f3 : (W2.alloc (.cells #[.int .i64 (n : Int), .int .i64 (n : Int)] 41)).heap[w5.heap.size + 1]? = _ := (Below.heap_alloc W2 _ _ (by omega)).trans e1
  generalize hW3 : W2.alloc (.cells #[.int .i64 (n : Int), .int .i64 (n : Int)] 41) = W3 at *
  have s3 : W3.heap.size = w5.heap.size + 3 := by rw [← hW3]; simp [s2]
  have b3 : Below w5.heap.size w5 W3 := by rw [← hW3]; exact b2.alloc (by omega) _
  have e4 : (W3.alloc (.cells #[.slice (some ⟨w5.heap.size + 2, 0, none⟩) 1 1] 42)).heap[w5.heap.size + 3]? = some (.cells #[.slice (some ⟨w5.heap.size + 2, 0, none⟩) 1 1] 42 (0, 0)) := by rw [← s3]; exact heap_alloc_new W3 _
  have g1 : (W3.alloc (.cells #[.slice (some ⟨w5.heap.size + 2, 0, none⟩) 1 1] 42)).heap[w5.heap.size]? = _ := (Below.heap_alloc W3 _ _ (by omega)).trans f2
  have g2 : (W3.alloc (.cells #[.slice (some ⟨w5.heap.size + 2, 0, none⟩) 1 1] 42)).heap[w5.heap.size + 1]? = _ := (Below.heap_alloc W3 _ _ (by omega)).trans f3
  have g3 : (W3.alloc (.cells #[.slice (some ⟨w5.heap.size + 2, 0, none⟩) 1 1] 42)).heap[w5.heap.size + 2]? = _ := (Below.heap_alloc W3 _ _ (by omega)).trans e2
  have b4 := b3.alloc (by omega) (.cells #[.slice (some ⟨w5.heap.size + 2, 0, none⟩) 1 1] 42)
  have s4 : (W3.alloc (.cells #[.slice (some ⟨w5.heap.size + 2, 0, none⟩) 1 1] 42)).heap.size = w5.heap.size + 4 := by simp [s3]
  generalize W3.alloc (.cells #[.slice (some ⟨w5.heap.size + 2, 0, none⟩) 1 1] 42) = W4 at *
  refine ⟨?_, by simpa using g2, e4, ?_, ?_, fun k => Lib.frozen_of_heap g3 _, .inl rfl, by omega, by simp, b4, by omega⟩
  · rw [g1]
    have : madeCells #[.bool false] M = ((List.replicate M false).map Value.bool).toArray := by
      apply Array.ext'
      rw [toList_madeCells_one]; simp
    rw [this]
  · intro j hj
    have : j = 0 := by simpa using hj
    subst this
    rw [cell_of_row W4 _ _ _ 41 (0, 0) g3, cell_of_row W4 _ _ _ 41 (0, 0) g3]
    simp
  · intro k hk
    rw [cell_of_row W4 _ _ _ 41 (0, 0) g3]
    simp; omega
end Go.Proofs.Qxb6603042a.M
