/- The walk of FnNextLineScriptRebuildsText. -/
import Derived.Test.Qxb6602716aWc
namespace Go.Proofs.Qxb6602716a
open Go.RowKit

set_option maxHeartbeats 400000 in
theorem zzBytes7 (T : ByteArray) (w : World) (hT : T.size ≤ maxLen) :
    Calls Try.prog 7 #[.string T] w fun e w' => (∃ b, e = .returned (.bool b)) ∧ w' = w := by
  unfold maxLen at hT
  go_enter Try.func7, Try.ntmps7
  go_wp2
  all_goals
    go_ret
    exact ⟨⟨_, rfl⟩, rfl⟩

theorem below_trans {w a b : World} (h : Below w.heap.size w a) (k : Below a.heap.size a b) : Below w.heap.size w b := h.trans (k.mono h.size)

theorem tail_test {l : List UInt8} (h : l = [] ∨ l = [13]) : ((mk l).toList.isEmpty = true) ∨ ((mk l).toList.isEmpty = false ∧ ((mk l).toList == [13]) = true) := by
  rcases h with rfl | rfl
  · left; rw [isEmpty_mk]; rfl
  · right; rw [isEmpty_mk, toList_bs, bs_mk]; exact ⟨rfl, rfl⟩

set_option maxHeartbeats 1000000 in
set_option maxRecDepth 100000 in
theorem rebuild_all (T : ByteArray) (w : World) (hT : T.size ≤ maxLen) :
    Calls Try.prog 3 #[.string T] w fun e w' => e = .returned (.bool true) ∧ Below w.heap.size w w' := by
  by_cases hbig : 1048576 < T.size
  · go_enter Try.func3, Try.ntmps3
    go_wp2_with fail
    refine (zzBytes7 T w hT).mono ?_
    unfold maxLen at hT
    rintro e w' ⟨⟨b, rfl⟩, hw⟩
    replace hw := hw.symm
    subst hw
    cases b
    all_goals
      go_wp2_with fail
      go_ret
      exact ⟨rfl, Below.refl _ _⟩
  have hs : T.size ≤ 1048576 := by omega
  clear hbig
  go_enter Try.func3, Try.ntmps3
  go_wp2_with fail
  refine (zzBytes7 T w hT).mono ?_
  clear hT
  rintro e w' ⟨⟨b, rfl⟩, hw⟩
  replace hw := hw.symm
  subst hw
  cases b
  · go_wp2_with fail
    go_ret
    exact ⟨rfl, Below.refl _ _⟩
  go_wp2_with fail
  go_loopw [3, 4, 5, 6, 7] (fun o l r t s wr => ∃ (off k : Nat) (rest : ByteArray), off ≤ T.size ∧ k ≤ off ∧ o = .int .i64 off ∧ l = .int .i64 k ∧ r = .string rest ∧ t = .int .i64 k ∧ s = .int .i64 k ∧ k + CL.cnt ((bs T).drop off) = CL.cnt (bs T) ∧ Below w.heap.size w wr)
    (fun o _ _ _ _ _ => T.size - (intOf o).toNat)
  case atStart => exact ⟨0, 0, _, Nat.zero_le _, Nat.le_refl _, rfl, rfl, rfl, rfl, rfl, by simp, Below.refl _ _⟩
  case round =>
    obtain ⟨off, k, rest, ho, hk, rfl, rfl, rfl, rfl, rfl, hc, hb⟩ := hrel
    have HC := hid_of hc
    have HB := hid_of hb
    clear hc hb
    cases hn : CL.nl ((bs T).drop off) with
    | none =>
      have HN := hid_of hn
      have HS := hid_of (CL.cnt_stop hn)
      clear hn
      have HE : Hid (CL.cnt (bs T) = k) := by have := HC.out; rw [HS.out.1] at this; exact this.symm
      have hx := extract_end T off
      go_wp2_with fail
      refine (zzNextLine_no T rest off k _ hs ho HN.out).mono ?_
      rintro e w1 ⟨rfl, hb1⟩
      have HB1 := hid_of (below_trans HB.out hb1)
      clear hb1 HB
      have HN2 : Hid (CL.nl ((bs T).drop T.size) = none) := by unfold Hid; rw [List.drop_eq_nil_of_le (by rw [bs_length]; exact Nat.le_refl _)]; rfl
      have q1 : (rest.toList == rest.toList) = true := by simp
      rcases tail_test HS.out.2 with t1 | ⟨t1, t2⟩
      all_goals
        clear HS
        go_wp2_with fail
        refine (zzNextLine_no T rest T.size k _ hs (Nat.le_refl _) HN2.out).mono ?_
        rintro e w2 ⟨rfl, hb2⟩
        have HB2 := hid_of (below_trans HB1.out hb2)
        clear hb2
        go_wp2_with fail
        refine (countLines_any T _ (by omega)).mono ?_
        rintro e w3 ⟨rfl, hw3⟩
        replace hw3 := hw3.symm
        subst hw3
        rw [HE.out]
        go_wp2_with fail
        go_ret
        exact ⟨rfl, HB2.out⟩
    | some p =>
      obtain ⟨m, l⟩ := p
      have HN := hid_of hn
      obtain ⟨hm1, hm2, hf⟩ := CL.nl_bd hn
      have HF := hid_of hf
      have HP := hid_of (CL.nl_piece hn)
      have HS := hid_of (CL.cnt_step hn)
      rw [List.length_drop, bs_length] at hm2
      clear hn hf
      go_wp2_with fail
      refine (zzNextLine_yes T rest off k m l _ hs ho (by omega) HN.out).mono ?_
      rintro e w1 ⟨rfl, hb1⟩
      have HB1 := hid_of (below_trans HB.out hb1)
      clear hb1 HB
      have hll : l.length ≤ m := by
        obtain ⟨e, he, _⟩ := HP.out
        have := congrArg List.length he
        rw [List.length_append, List.length_take] at this
        omega
      go_wp2_with fail
      refine (firstFeed_no (mk l) _ (by rw [mk_size]; omega) HF.out).mono ?_
      rintro e w2 ⟨rfl, hw2⟩
      replace hw2 := hw2.symm
      subst hw2
      go_wp2_with fail
      have HQ : Calls Try.prog 11 #[.string (T.extract off (off + m)), .string (mk l), .bool ((off : Int) + (m : Int) == (T.size : Int))] w1 fun e w' => e = .returned (.bool true) ∧ w' = w1 := by
        obtain ⟨e, he, hcase⟩ := HP.out
        refine piece_of _ _ e _ w1 ?_ ?_
        · rw [extract_mk', bs_mk, bs_mk, show off + m - off = m from by omega, he]
        · rcases hcase with h | h | ⟨h1, h2⟩
          · exact .inl h
          · exact .inr (.inl h)
          · refine .inr (.inr ⟨?_, h2⟩)
            rw [List.length_drop, bs_length] at h1
            simp only [beq_iff_eq]
            omega
      refine HQ.mono ?_
      clear HQ
      rintro e w3 ⟨rfl, hw3⟩
      replace hw3 := hw3.symm
      subst hw3
      go_wp2_with fail
      go_roundw
      case rel =>
        refine ⟨off + m, k + 1, mk l, by omega, by omega, by go_num, by go_num, rfl, by go_num, by go_num, ?_, HB1.out⟩
        have h1 := HS.out
        have h2 := HC.out
        rw [List.drop_drop] at h1
        omega
      case measure => simp [intOf]; omega

end Go.Proofs.Qxb6602716a
