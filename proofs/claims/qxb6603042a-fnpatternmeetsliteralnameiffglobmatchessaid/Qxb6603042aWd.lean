/- CompilePattern, whole. -/
import Derived.Test.Qxb6603042aWc
namespace Go.Proofs.Qxb6603042a
open Go.RowKit

/-- What a compiled pattern is. -/
def Compiled (s : ByteArray) (w : World) (e : Ending) (w' : World) : Prop :=
  ∃ v, e = .returned (.agg #[.string (mk (GP.pre (bs s))), v, .bool (GP.isDir (bs s))]) ∧ w'.ownsRow (w.heap.size + 2) 35 1 v (GP.steps (bs s)).length (cI (GP.steps (bs s))) ∧ Below w.heap.size w w' ∧ w.heap.size + 2 ≤ w'.heap.size

theorem dir_size {s : ByteArray} (h : GP.isDir (bs s) = true) : 1 ≤ s.size := by
  rcases Nat.lt_or_ge 0 s.size with h1 | h1
  · exact h1
  · have hb : bs s = [] := List.eq_nil_of_length_eq_zero (by rw [bs_length]; omega)
    rw [hb] at h; exact absurd h (by decide)

theorem dir_body {s : ByteArray} (h : GP.isDir (bs s) = true) : bs (s.extract 0 (s.size - 1)) = GP.body (bs s) := by
  rw [extract_start, bs_mk, GP.body, if_pos h, List.dropLast_eq_take, bs_length]

theorem lit_all {l : List UInt8} (h : ¬ GP.lit l < l.length) : l.take (GP.lit l) = l ∧ l.drop (GP.lit l) = [] := by
  have := GP.lit_le l
  exact ⟨List.take_of_length_le (by omega), List.drop_eq_nil_of_le (by omega)⟩

theorem compile_any (s : ByteArray) (w : World) (hs : s.size ≤ 65536) : Calls Try.prog 9 #[.string s] w fun e w' => Compiled s w e w' := by
  cases hd : GP.isDir (bs s) with
  | false =>
    have hb : GP.body (bs s) = bs s := by rw [GP.body, hd]; rfl
    by_cases hl : GP.lit (bs s) < (bs s).length
    · have h := compile_np s w hs hd (GP.lit (bs s)) (by unfold litI; rw [if_pos hl]) (by rw [← bs_length]; exact hl)
      refine h.mono ?_
      rintro e w' ⟨v, rfl, h1, h2, h3⟩
      have e2 : GP.steps (bs s) = GP.tok ((bs s).drop (GP.lit (bs s))) := by unfold GP.steps GP.rest; rw [hb, hd]; simp
      have e1 : mk (GP.pre (bs s)) = s.extract 0 (GP.lit (bs s)) := by rw [extract_start, GP.pre, hb]
      exact ⟨v, by rw [e1, hd], by rw [e2]; exact h1, h2, h3⟩
    · have h := compile_nn s w hs hd (by unfold litI; rw [if_neg hl])
      refine h.mono ?_
      rintro e w' ⟨v, rfl, h1, h2, h3⟩
      have hall := lit_all hl
      have e2 : GP.steps (bs s) = GP.tok ((bs s).drop s.size) := by unfold GP.steps GP.rest; rw [hb, hd, hall.2, List.drop_eq_nil_of_le (by rw [bs_length]; exact Nat.le_refl _)]; simp
      have e1 : mk (GP.pre (bs s)) = s := by rw [GP.pre, hb, hall.1, mk_bs]
      exact ⟨v, by rw [e1, hd], by rw [e2]; exact h1, h2, h3⟩
  | true =>
    have hs1 := dir_size hd
    have hb := dir_body hd
    have hz : (s.extract 0 (s.size - 1)).size = s.size - 1 := by simp
    generalize hB : s.extract 0 (s.size - 1) = B at hb hz
    by_cases hl : GP.lit (bs B) < (bs B).length
    · have h := compile_dp s B w hB hs1 (by omega) (by omega) hd (GP.lit (bs B)) (by unfold litI; rw [if_pos hl]) (by rw [← bs_length]; exact hl)
      refine h.mono ?_
      rintro e w' ⟨v, rfl, h1, h2, h3⟩
      have e2 : GP.steps (bs s) = GP.tok ((bs B).drop (GP.lit (bs B))) ++ [47, 257] := by unfold GP.steps GP.rest; rw [← hb, hd]; rfl
      have e1 : mk (GP.pre (bs s)) = B.extract 0 (GP.lit (bs B)) := by rw [extract_start, GP.pre, ← hb]
      exact ⟨v, by rw [e1, hd], by rw [e2]; exact h1, h2, h3⟩
    · have h := compile_dn s B w hB hs1 (by omega) (by omega) hd (by unfold litI; rw [if_neg hl])
      refine h.mono ?_
      rintro e w' ⟨v, rfl, h1, h2, h3⟩
      have hall := lit_all hl
      have e2 : GP.steps (bs s) = GP.tok ((bs B).drop B.size) ++ [47, 257] := by unfold GP.steps GP.rest; rw [← hb, hd, hall.2, List.drop_eq_nil_of_le (by rw [bs_length]; exact Nat.le_refl _)]; rfl
      have e1 : mk (GP.pre (bs s)) = B := by rw [GP.pre, ← hb, hall.1, mk_bs]
      exact ⟨v, by rw [e1, hd], by rw [e2]; exact h1, h2, h3⟩

end Go.Proofs.Qxb6603042a
