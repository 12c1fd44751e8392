/- Walks: valueEnd, whole. -/
import Derived.Test.Qxb6602447aWc
namespace Go.Proofs.Qxb6602447a
open Go.RowKit

set_option maxHeartbeats 400000 in
theorem valueEnd_end (a : Option Addr) (len cap : Nat) (w : World) :
    Calls Try.prog 23 #[.slice a len cap, .int .i64 (len : Int)] w fun e w' => e = .returned (.int .i64 (-1)) ∧ w' = w := by
  go_enter Try.func23, Try.ntmps23
  go_wp2_with fail
  go_ret
  exact ⟨rfl, rfl⟩

set_option maxHeartbeats 400000 in
theorem valueEnd_str (b o cap : Nat) (d : List Int) (i : Nat) (w : World) (hr : Row w b o d) (h1 : i < d.length) (hm : d.length ≤ 4000000) (hc0 : d.getD i 0 = 34) :
    Calls Try.prog 23 #[.slice (some ⟨b, o, none⟩) d.length cap, .int .i64 (i : Int)] w fun e w' => e = .returned (.int .i64 (JF.ans (i + 1) (JF.strE (d.drop (i + 1)) false))) ∧ w' = w := by
  have hcell := hr i h1
  rw [hc0] at hcell
  have hne : ((i : Int) == (d.length : Int)) = false := by simp; omega
  have HRow : Hid (Row w b o d) := hr
  clear hr hc0
  go_enter Try.func23, Try.ntmps23
  go_wp2_with (go_at_call 28; refine (stringEnd_any _ _ _ d _ _ HRow.out (by omega) (by omega) hm).mono ?_; rintro e w' ⟨rfl, rfl⟩; rw [Int.toNat_natCast])
  go_ret
  exact ⟨rfl, rfl⟩

set_option maxHeartbeats 400000 in
theorem valueEnd_lit (b o cap : Nat) (d : List Int) (i : Nat) (w : World) (hr : Row w b o d) (hb : Bytes d) (h1 : i < d.length) (hm : d.length ≤ 4000000) (n1 : (d.getD i 0 == 34) = false) (n2 : (d.getD i 0 == 123) = false) (n3 : (d.getD i 0 == 91) = false) :
    Calls Try.prog 23 #[.slice (some ⟨b, o, none⟩) d.length cap, .int .i64 (i : Int)] w fun e w' => e = .returned (.int .i64 (if JF.litE (d.drop i) = 0 then -1 else (i : Int) + JF.litE (d.drop i))) ∧ ∃ n, w' = w.drewN n := by
  have hcell := hr i h1
  have hne : ((i : Int) == (d.length : Int)) = false := by simp; omega
  have HRow : Hid (Row w b o d ∧ Bytes d) := ⟨hr, hb⟩
  clear hr hb
  generalize d.getD i 0 = c at hcell n1 n2 n3
  have hle := JF.litE_le (d.drop i)
  rw [List.length_drop] at hle
  generalize hL : JF.litE (d.drop i) = L at hle
  have HL : Hid (JF.litE (d.drop i) = L) := hL
  clear hL
  by_cases h0 : L = 0
  · rw [if_pos h0]
    subst h0
    go_enter Try.func23, Try.ntmps23
    go_wp2_with (go_at_call 29; refine (literalEnd_any _ _ _ d _ _ HRow.out.1 HRow.out.2 (by omega) (by omega) hm).mono ?_; rintro e w' ⟨rfl, n, rfl⟩; rw [Int.toNat_natCast, HL.out])
    go_ret
    exact ⟨rfl, n, rfl⟩
  · rw [if_neg h0]
    have hpos : 0 < L := by omega
    clear h0
    go_enter Try.func23, Try.ntmps23
    go_wp2_with (go_at_call 29; refine (literalEnd_any _ _ _ d _ _ HRow.out.1 HRow.out.2 (by omega) (by omega) hm).mono ?_; rintro e w' ⟨rfl, n, rfl⟩; rw [Int.toNat_natCast, HL.out])
    go_ret
    exact ⟨rfl, n, rfl⟩

theorem valE_end (d : List Int) : JF.ans d.length (JF.valE (d.drop d.length)) = -1 := by
  rw [List.drop_eq_nil_of_le (Nat.le_refl _)]; rfl
theorem valE_str (d : List Int) (i : Nat) (h : i < d.length) (hc : d.getD i 0 = 34) : JF.ans i (JF.valE (d.drop i)) = JF.ans (i + 1) (JF.strE (d.drop (i + 1)) false) := by
  rw [List.drop_eq_getElem_cons h, ← getD_get d i h, hc, ans_succ]; simp [JF.valE]
theorem valE_nest (d : List Int) (i : Nat) (h : i < d.length) (hc : d.getD i 0 = 123 ∨ d.getD i 0 = 91) : JF.valE (d.drop i) = JF.nestE (d.drop i) 0 0 := by
  rw [List.drop_eq_getElem_cons h, ← getD_get d i h]
  rcases hc with hc | hc <;> rw [hc] <;> simp [JF.valE]
theorem valE_lit (d : List Int) (i : Nat) (h : i < d.length) (n1 : (d.getD i 0 == 34) = false) (n2 : (d.getD i 0 == 123) = false) (n3 : (d.getD i 0 == 91) = false) :
    JF.ans i (JF.valE (d.drop i)) = (if JF.litE (d.drop i) = 0 then -1 else (i : Int) + JF.litE (d.drop i)) := by
  rw [List.drop_eq_getElem_cons h, ← getD_get d i h]
  generalize d.getD i 0 = c at n1 n2 n3
  simp only [JF.valE, n1, n2, n3, Bool.or_false, Bool.false_eq_true, if_false, JF.litE]
  by_cases hs : JF.stop c = true
  · simp [JF.ans, hs]
  · simp [JF.ans, hs]

/-- valueEnd, whole. -/
theorem valueEnd_any (b o cap : Nat) (d : List Int) (i0 : Int) (w : World) (hr : Row w b o d) (hb : Bytes d) (h0 : 0 ≤ i0) (h1 : i0 ≤ d.length) (hm : d.length ≤ 4000000) :
    Calls Try.prog 23 #[.slice (some ⟨b, o, none⟩) d.length cap, .int .i64 i0] w fun e w' => e = .returned (.int .i64 (JF.ans i0.toNat (JF.valE (d.drop i0.toNat)))) ∧ ∃ n, w' = w.drewN n := by
  obtain ⟨i, rfl⟩ := Int.eq_ofNat_of_zero_le h0
  rw [Int.toNat_natCast]
  by_cases hlt : i < d.length
  · by_cases e1 : d.getD i 0 = 34
    · rw [valE_str d i hlt e1]
      exact (valueEnd_str b o cap d i w hr hlt hm e1).mono fun e w' h => ⟨h.1, 0, h.2⟩
    · by_cases e2 : d.getD i 0 = 123 ∨ d.getD i 0 = 91
      · rw [valE_nest d i hlt e2]
        exact (valueEnd_nest b o cap d i _ w hr hlt hm rfl e2).mono fun e w' h => ⟨h.1, 0, h.2⟩
      · have n1 : (d.getD i 0 == 34) = false := by simp only [beq_eq_false_iff_ne]; exact e1
        have n2 : (d.getD i 0 == 123) = false := by simp only [beq_eq_false_iff_ne]; exact fun h => e2 (.inl h)
        have n3 : (d.getD i 0 == 91) = false := by simp only [beq_eq_false_iff_ne]; exact fun h => e2 (.inr h)
        rw [valE_lit d i hlt n1 n2 n3]
        exact valueEnd_lit b o cap d i w hr hb hlt hm n1 n2 n3
  · have : i = d.length := by omega
    subst this
    rw [valE_end d]
    exact (valueEnd_end _ _ _ w).mono fun e w' h => ⟨h.1, 0, h.2⟩

end Go.Proofs.Qxb6602447a
