/- The closure of meets: a pair is marked and queued. -/
import Derived.Test.Qxb6603042aMd
namespace Go.Proofs.Qxb6603042a.M
open Go.RowKit

/-- The search's world with the queue's variable in step. -/
def SW (w5 w : World) (L : Nat) (T : List Bool) (g : Nat) (Q : List (Nat × Nat)) : Prop := ∃ off cap, SR w5 w L T (.slice (some ⟨g, off, none⟩) Q.length cap) g off cap Q

theorem one_cell {w : World} {b : Nat} {x : Value} {t : TypeId} (h : w.heap[b]? = some (.cells #[x] t (0, 0))) : w.cell? ⟨b, 0, none⟩ = some x ∧ w.frozen? ⟨b, 0, none⟩ = false := by
  refine ⟨?_, Lib.frozen_of_heap h _⟩
  rw [cell_of_row w b 0 _ t (0, 0) h]; rfl

theorem pair_new0 {w : World} {b : Nat} (hb : w.heap.size = b) (x y : Value) (t : TypeId) : (w.alloc (.cells #[x, y] t)).cell? ((⟨b, 0, none⟩ : Addr).add 0) = some x := by
  subst hb
  rw [Addr.add_lit, cell_of_row _ w.heap.size 0 #[x, y] t (0, 0) (heap_alloc_new w _)]; rfl
theorem pair_new1 {w : World} {b : Nat} (hb : w.heap.size = b) (x y : Value) (t : TypeId) : (w.alloc (.cells #[x, y] t)).cell? ((⟨b, 0, none⟩ : Addr).add 1) = some y := by
  subst hb
  rw [Addr.add_lit, cell_of_row _ w.heap.size 1 #[x, y] t (0, 0) (heap_alloc_new w _)]; rfl

def Reached (w5 w : World) (L : Nat) (g : Nat) (P : List Bool × List (Nat × Nat)) (w' : World) : Prop := ∃ g', SW w5 w' L P.1 g' P.2 ∧ FR L w w' g g'

set_option maxHeartbeats 400000 in
theorem reach_any (w5 w : World) (L : Nat) (T : List Bool) (g : Nat) (Q : List (Nat × Nat)) (i j W m s8 : Nat) (h : SW w5 w L T g Q) (h8 : w5.cell? ⟨s8, 0, none⟩ = some (.int .i64 (W : Int))) (hs8 : s8 < L) (hm : i * W = m) (hk : m + j < T.length) (hT : T.length ≤ 2000000) (hQ : Q.length ≤ 2000000) :
    Calls Try.prog 27 #[.int .i64 (i : Int), .int .i64 (j : Int), .pointer (some ⟨L + 1, 0, none⟩), .pointer (some ⟨s8, 0, none⟩), .pointer (some ⟨L + 3, 0, none⟩)] w fun e w' => e = .returned (.tuple #[]) ∧ Reached w5 w L g (GP.put W T Q (i, j)) w' := by
  obtain ⟨off, cap, h⟩ := h
  obtain ⟨c1, f1⟩ := one_cell h.hdr
  obtain ⟨c3, f3⟩ := one_cell h.qh
  have c8 : w.cell? ⟨s8, 0, none⟩ = some (.int .i64 (W : Int)) := (h.bel.cell (p := ⟨s8, 0, none⟩) hs8).trans h8
  have hwm : IntKind.i64.wrap ((i : Int) * (W : Int)) = (m : Int) := by rw [← Int.natCast_mul, hm, IntKind.wrap_i64]; omega
  have cT : w.cell? ⟨L, m + j, none⟩ = some (.bool (T.getD (m + j) false)) := by
    rw [cell_of_row w L (m + j) _ 4 (0, 0) h.row]
    simp [List.getD, List.getElem?_eq_getElem hk]
  have fT : w.frozen? ⟨L, m + j, none⟩ = false := Lib.frozen_of_heap h.row _
  have HP : Hid (GP.put W T Q (i, j) = if T.getD (m + j) false then (T, Q) else (T.set (m + j) true, Q ++ [(i, j)])) := by unfold Hid GP.put GP.idx; rw [← hm]
  have HS := hid_of h
  have HK := hid_of hk
  have hk0 : (0 : Int) ≤ (m : Int) + (j : Int) := by omega
  have hk1 : (m : Int) + (j : Int) < (T.length : Int) := by omega
  have hk2 : ((m : Int) + (j : Int)).toNat = m + j := by omega
  clear h h8 hm
  cases hb : T.getD (m + j) false with
  | true =>
    rw [hb] at cT HP
    go_enter Try.func27, Try.ntmps27
    go_wp2_with fail
    go_end0
    exact ⟨rfl, g, by rw [HP.out]; exact ⟨off, cap, HS.out⟩, FR.refl _ _ _⟩
  | false =>
    rw [hb] at cT HP
    go_enter Try.func27, Try.ntmps27
    have tok1 : True := trivial
    go_wp2_with (at_builtin; have _t := tok1; refine wpList_append_q (by rfl) _ _ (by rfl) ((HS.out.mark (m + j)).alloc (.cells #[.int .i64 (i : Int), .int .i64 (j : Int)] 41)) ⟨w.heap.size, 0, none⟩ 1 i j (by rfl) (by rfl) (pair_new0 (by simp) _ _ _) (pair_new1 (by simp) _ _ _) hQ ?_; intro g' off' cap' w1 hs1 hf1; obtain ⟨d3, e3⟩ := one_cell hs1.qh; have H1 := hid_of hs1; have HF := hid_of (((FR.setCell L w g ⟨L, m + j, none⟩ (by show L < L + 4; omega) (.bool true)).trans (FR.alloc L _ g _)).trans hf1); clear hs1 hf1 tok1)
    go_end0
    refine ⟨rfl, g', ?_, HF.out.trans (FR.setCell L _ _ ⟨L + 3, 0, none⟩ (by show L + 3 < L + 4; omega) _)⟩
    rw [HP.out]
    refine ⟨off', cap', ?_⟩
    rw [if_neg (by simp), List.length_append]
    exact H1.out.setHd _
end Go.Proofs.Qxb6603042a.M
