/- Walks: literalEnd, valueEnd. -/
import Derived.Test.Qxb6602447aWb
namespace Go.Proofs.Qxb6602447a
open Go.RowKit

theorem Row.drewN {w : World} {b o : Nat} {zs : List Int} (h : Row w b o zs) (n : Nat) : Row (w.drewN n) b o zs := by
  intro i hi
  have := h i hi
  simpa using this

theorem drewN_add (w : World) (n m : Nat) : (w.drewN n).drewN m = w.drewN (n + m) := World.drewN_drewN ..

theorem lit_in (d : List Int) (k : Nat) (h : k < d.length) (hs : JF.stop (d.getD k 0) = false) : JF.litE (d.drop k) = JF.litE (d.drop (k + 1)) + 1 := by
  rw [List.drop_eq_getElem_cons h, JF.litE, if_neg (by rw [← getD_get d k h, hs]; simp)]
theorem lit_out (d : List Int) (k : Nat) (h : k < d.length) (hs : JF.stop (d.getD k 0) = true) : JF.litE (d.drop k) = 0 := by
  rw [List.drop_eq_getElem_cons h, JF.litE, if_pos (by rw [← getD_get d k h, hs])]
theorem lit_end (d : List Int) (k : Nat) (h : d.length ≤ k) : JF.litE (d.drop k) = 0 := by
  rw [List.drop_eq_nil_of_le h, JF.litE]

/-- Each number is a byte's. -/
def Bytes (d : List Int) : Prop := ∀ i, 0 ≤ d.getD i 0 ∧ d.getD i 0 < 256

set_option maxHeartbeats 400000 in
theorem literalEnd_any (b o cap : Nat) (d : List Int) (i0 : Int) (w : World) (hr : Row w b o d) (hb : Bytes d) (h0 : 0 ≤ i0) (h1 : i0 ≤ d.length) (hm : d.length ≤ 4000000) :
    Calls Try.prog 29 #[.slice (some ⟨b, o, none⟩) d.length cap, .int .i64 i0] w fun e w' => e = .returned (.int .i64 (i0 + JF.litE (d.drop i0.toNat))) ∧ ∃ n, w' = w.drewN n := by
  obtain ⟨i, rfl⟩ := Int.eq_ofNat_of_zero_le h0
  rw [Int.toNat_natCast]
  generalize hR : i + JF.litE (d.drop i) = R
  have hR' : (i : Int) + (JF.litE (d.drop i) : Int) = (R : Int) := by omega
  rw [hR']
  have HR : Hid (i + JF.litE (d.drop i) = R) := hR
  clear hR hR'
  go_enter Try.func29, Try.ntmps29
  go_wp2
  go_loopw [1] (fun t wr => (∃ k : Nat, k ≤ d.length ∧ t = .int .i64 k ∧ k + JF.litE (d.drop k) = R) ∧ ∃ n, wr = w.drewN n) (fun t _ => d.length - (intOf t).toNat)
  case atStart => exact ⟨⟨i, by omega, rfl, HR.out⟩, 0, rfl⟩
  case round =>
    obtain ⟨⟨k, hk, rfl, hd⟩, n, rfl⟩ := hrel
    have HD : Hid (k + JF.litE (d.drop k) = R) := hd
    clear hd HR
    by_cases hlt : k < d.length
    · have hc := hr k hlt
      obtain ⟨hb0, hb1⟩ := hb k
      clear hr hb
      cases hs : JF.stop (d.getD k 0) with
      | false =>
        have HS : Hid (JF.litE (d.drop k) = JF.litE (d.drop (k + 1)) + 1) := lit_in d k hlt hs
        generalize d.getD k 0 = c at hc hs hb0 hb1
        go_wp2_with (go_at_call 31; refine (containsRune_any _ _ hb0 hb1).mono ?_; rintro e w' ⟨rfl, m, rfl⟩; rw [drewN_add])
        go_roundw
        case rel => exact ⟨⟨k + 1, by omega, by go_num, by have h1 := HD.out; have h2 := HS.out; omega⟩, _, rfl⟩
        case measure => simp [intOf]; omega
      | true =>
        have HS : Hid (JF.litE (d.drop k) = 0) := lit_out d k hlt hs
        generalize d.getD k 0 = c at hc hs hb0 hb1
        go_wp2_with (go_at_call 31; refine (containsRune_any _ _ hb0 hb1).mono ?_; rintro e w' ⟨rfl, m, rfl⟩; rw [drewN_add])
        go_ret
        exact ⟨ret_int (by have h1 := HD.out; have h2 := HS.out; omega), _, rfl⟩
    · go_wp2
      go_ret
      have := HD.out
      rw [lit_end d k (by omega)] at this
      exact ⟨ret_int (by omega), _, rfl⟩

/-! ### valueEnd -/
theorem nest_none (d : List Int) (k : Nat) (dep : Int) (h : d.length ≤ k) : JF.ans k (JF.nestE (d.drop k) 0 dep) = -1 := by
  rw [List.drop_eq_nil_of_le h]; rfl
theorem nest_str_no (d : List Int) (k : Nat) (dep : Int) (h : k < d.length) (hc : d.getD k 0 = 34) (hs : JF.strE (d.drop (k + 1)) false = none) : JF.ans k (JF.nestE (d.drop k) 0 dep) = -1 := by
  rw [List.drop_eq_getElem_cons h, ← getD_get d k h, hc]
  have := JF.nestE_str (d.drop (k + 1)) false dep
  rw [hs] at this
  simp only [Bool.false_eq_true, if_false] at this
  simp [JF.nestE, this, JF.ans]
theorem nest_str_yes (d : List Int) (k m : Nat) (dep : Int) (h : k < d.length) (hc : d.getD k 0 = 34) (hs : JF.strE (d.drop (k + 1)) false = some m) : JF.ans k (JF.nestE (d.drop k) 0 dep) = JF.ans (k + 1 + m) (JF.nestE (d.drop (k + 1 + m)) 0 dep) := by
  rw [List.drop_eq_getElem_cons h, ← getD_get d k h, hc]
  have := JF.nestE_str (d.drop (k + 1)) false dep
  rw [hs] at this
  simp only [Bool.false_eq_true, if_false, List.drop_drop] at this
  simp only [JF.nestE, this]
  cases JF.nestE (d.drop (k + 1 + m)) 0 dep with
  | none => simp [JF.ans]
  | some a => simp [JF.ans]; omega
theorem nest_open (d : List Int) (k : Nat) (dep : Int) (h : k < d.length) (hc : d.getD k 0 = 123 ∨ d.getD k 0 = 91) : JF.ans k (JF.nestE (d.drop k) 0 dep) = JF.ans (k + 1) (JF.nestE (d.drop (k + 1)) 0 (dep + 1)) := by
  rw [List.drop_eq_getElem_cons h, ← getD_get d k h, ans_succ]
  rcases hc with hc | hc <;> rw [hc] <;> simp [JF.nestE]
theorem nest_shut (d : List Int) (k : Nat) (h : k < d.length) (hc : d.getD k 0 = 125 ∨ d.getD k 0 = 93) : JF.ans k (JF.nestE (d.drop k) 0 1) = (k : Int) + 1 := by
  rw [List.drop_eq_getElem_cons h, ← getD_get d k h]
  rcases hc with hc | hc <;> rw [hc] <;> simp [JF.nestE, JF.ans]
theorem nest_less (d : List Int) (k : Nat) (dep : Int) (h : k < d.length) (hc : d.getD k 0 = 125 ∨ d.getD k 0 = 93) (hd : ¬ dep = 1) : JF.ans k (JF.nestE (d.drop k) 0 dep) = JF.ans (k + 1) (JF.nestE (d.drop (k + 1)) 0 (dep - 1)) := by
  have hd' : ¬ dep - 1 = 0 := by omega
  rw [List.drop_eq_getElem_cons h, ← getD_get d k h, ans_succ]
  rcases hc with hc | hc <;> rw [hc] <;> simp [JF.nestE, hd']
theorem nest_plain (d : List Int) (k : Nat) (dep : Int) (h : k < d.length) (h1 : (d.getD k 0 == 34) = false) (h2 : (d.getD k 0 == 123) = false) (h3 : (d.getD k 0 == 91) = false) (h4 : (d.getD k 0 == 125) = false) (h5 : (d.getD k 0 == 93) = false) :
    JF.ans k (JF.nestE (d.drop k) 0 dep) = JF.ans (k + 1) (JF.nestE (d.drop (k + 1)) 0 dep) := by
  rw [List.drop_eq_getElem_cons h, ← getD_get d k h, ans_succ]
  generalize d.getD k 0 = c at h1 h2 h3 h4 h5
  simp only [JF.nestE, h1, h2, h3, h4, h5, Bool.or_false, Bool.false_eq_true, if_false]

set_option maxHeartbeats 1000000 in
theorem valueEnd_nest (b o cap : Nat) (d : List Int) (i : Nat) (c0 : Int) (w : World) (hr : Row w b o d) (h1 : i < d.length) (hm : d.length ≤ 4000000) (hc0 : d.getD i 0 = c0) (hcc : c0 = 123 ∨ c0 = 91) :
    Calls Try.prog 23 #[.slice (some ⟨b, o, none⟩) d.length cap, .int .i64 (i : Int)] w fun e w' => e = .returned (.int .i64 (JF.ans i (JF.nestE (d.drop i) 0 0))) ∧ w' = w := by
  generalize hR : JF.ans i (JF.nestE (d.drop i) 0 0) = R
  have HR : Hid (JF.ans i (JF.nestE (d.drop i) 0 0) = R) := hR
  clear hR
  have hcell := hr i h1
  rw [hc0] at hcell
  have hne : ((i : Int) == (d.length : Int)) = false := by simp; omega
  have HRow : Hid (Row w b o d) := hr
  clear hr hc0
  rcases hcc with rfl | rfl
  all_goals
    go_enter Try.func23, Try.ntmps23
    go_wp2_with fail
    go_loop [1, 5] (fun t u => ∃ (k : Nat) (dep : Int), k ≤ d.length ∧ t = .int .i64 k ∧ u = .int .i64 dep ∧ -(k : Int) ≤ dep ∧ dep ≤ (k : Int) ∧ JF.ans k (JF.nestE (d.drop k) 0 dep) = R) (fun t _ => d.length - (intOf t).toNat)
    case atStart => exact ⟨i, 0, by omega, rfl, rfl, by omega, by omega, HR.out⟩
    case round =>
      obtain ⟨k, dep, hk, rfl, rfl, hd1, hd2, hd⟩ := hrel
      have HD : Hid (JF.ans k (JF.nestE (d.drop k) 0 dep) = R) := hd
      clear hd HR hcell
      by_cases hlt : k < d.length
      · have hc := HRow.out k hlt
        by_cases e1 : d.getD k 0 = 34
        · cases hs : JF.strE (d.drop (k + 1)) false with
          | none =>
            have HS : Hid (R = -1) := HD.out.symm.trans (nest_str_no d k dep hlt e1 hs)
            have HA : Hid (JF.ans (k + 1) (JF.strE (d.drop (k + 1)) false) = -1) := by unfold Hid; rw [hs]; rfl
            rw [e1] at hc
            clear e1 hs
            go_wp2_with (go_at_call 28; refine (stringEnd_any _ _ _ d _ _ HRow.out (by omega) (by omega) hm).mono ?_; rintro e w' ⟨rfl, rfl⟩; rw [Int.toNat_natCast, HA.out])
            go_ret
            exact ⟨ret_int HS.out.symm, rfl⟩
          | some m =>
            have hmb := JF.strE_bd _ _ _ hs
            have hm2 : k + 1 + m ≤ d.length := by have := hmb.2; rw [List.length_drop] at this; omega
            have HS : Hid (JF.ans (k + 1 + m) (JF.nestE (d.drop (k + 1 + m)) 0 dep) = R) := (nest_str_yes d k m dep hlt e1 hs).symm.trans HD.out
            have HA : Hid (JF.ans (k + 1) (JF.strE (d.drop (k + 1)) false) = ((k + 1 + m : Nat) : Int)) := by unfold Hid; rw [hs]; simp [JF.ans]
            rw [e1] at hc
            clear e1 hs hmb
            generalize hq : k + 1 + m = q at *
            have hkq : k < q := by omega
            clear hq
            go_wp2_with (go_at_call 28; refine (stringEnd_any _ _ _ d _ _ HRow.out (by omega) (by omega) hm).mono ?_; rintro e w' ⟨rfl, rfl⟩; rw [Int.toNat_natCast, HA.out])
            go_round
            case rel => exact ⟨q, dep, hm2, by go_num, rfl, by omega, by omega, HS.out⟩
            case measure => simp [intOf]; omega
        · by_cases e2 : d.getD k 0 = 123 ∨ d.getD k 0 = 91
          · have HS : Hid (JF.ans (k + 1) (JF.nestE (d.drop (k + 1)) 0 (dep + 1)) = R) := (nest_open d k dep hlt e2).symm.trans HD.out
            clear e1
            generalize d.getD k 0 = c at hc e2
            rcases e2 with rfl | rfl
            all_goals
              go_wp2_with fail
              go_round
              case rel => exact ⟨k + 1, dep + 1, by omega, by go_num, by go_num, by omega, by omega, HS.out⟩
              case measure => simp [intOf]; omega
          · by_cases e3 : d.getD k 0 = 125 ∨ d.getD k 0 = 93
            · by_cases e4 : dep = 1
              · subst e4
                have HS : Hid (R = (k : Int) + 1) := HD.out.symm.trans (nest_shut d k hlt e3)
                clear e1 e2
                generalize d.getD k 0 = c at hc e3
                rcases e3 with rfl | rfl
                all_goals
                  go_wp2_with fail
                  go_ret
                  exact ⟨ret_int HS.out.symm, rfl⟩
              · have HS : Hid (JF.ans (k + 1) (JF.nestE (d.drop (k + 1)) 0 (dep - 1)) = R) := (nest_less d k dep hlt e3 e4).symm.trans HD.out
                have b4 : (dep - 1 == 0) = false := by simp; omega
                clear e1 e2 e4
                generalize d.getD k 0 = c at hc e3
                rcases e3 with rfl | rfl
                all_goals
                  go_wp2_with fail
                  go_round
                  case rel => exact ⟨k + 1, dep - 1, by omega, by go_num, by go_num, by omega, by omega, HS.out⟩
                  case measure => simp [intOf]; omega
            · have n1 : (d.getD k 0 == 34) = false := by simpa using e1
              have n2 : (d.getD k 0 == 123) = false := by simp only [beq_eq_false_iff_ne]; exact fun h => e2 (.inl h)
              have n3 : (d.getD k 0 == 91) = false := by simp only [beq_eq_false_iff_ne]; exact fun h => e2 (.inr h)
              have n4 : (d.getD k 0 == 125) = false := by simp only [beq_eq_false_iff_ne]; exact fun h => e3 (.inl h)
              have n5 : (d.getD k 0 == 93) = false := by simp only [beq_eq_false_iff_ne]; exact fun h => e3 (.inr h)
              have HS : Hid (JF.ans (k + 1) (JF.nestE (d.drop (k + 1)) 0 dep) = R) := (nest_plain d k dep hlt n1 n2 n3 n4 n5).symm.trans HD.out
              clear e1 e2 e3
              generalize d.getD k 0 = c at hc n1 n2 n3 n4 n5
              go_wp2_with fail
              go_round
              case rel => exact ⟨k + 1, dep, by omega, by go_num, rfl, by omega, by omega, HS.out⟩
              case measure => simp [intOf]; omega
      · go_wp2_with fail
        go_ret
        exact ⟨ret_int ((nest_none d k dep (by omega)).symm.trans HD.out), rfl⟩

end Go.Proofs.Qxb6602447a
