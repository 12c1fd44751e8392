/- Walks: validAppID, the token model, the two laws. -/
import Derived.Test.Qxb6603016aWa
import Derived.Below
namespace Go.Proofs.Qxb6603016a
open Go.RowKit

theorem okA_yes {c : Int} (h : okA c = true) : 32 < c ∧ (c == 127) = false ∧ (c == 58) = false := by
  simpa [okA, and_assoc] using h
theorem okA_no {c : Int} (h : okA c = false) : c ≤ 32 ∨ c = 127 ∨ c = 58 := by
  simp only [okA, Bool.and_eq_false_iff, Bool.not_eq_false', decide_eq_true_eq, beq_iff_eq] at h
  omega

set_option maxHeartbeats 400000 in
theorem validAppID_any (s : ByteArray) (w : World) (hs : s.size ≤ maxLen) :
    Calls Try.prog 27 #[.string s] w fun e w' => e = .returned (.bool (!s.toList.isEmpty && allB okA s.data.toList)) ∧ w' = w := by
  unfold maxLen at hs
  cases hem : s.toList.isEmpty with
  | true =>
    go_enter Try.func27, Try.ntmps27
    go_wp2_with fail
    go_ret
    exact ⟨rfl, rfl⟩
  | false =>
    simp only [Bool.not_false, Bool.true_and]
    generalize hA : allB okA s.data.toList = A
    have HA := hid_of hA
    clear hA
    go_enter Try.func27, Try.ntmps27
    go_wp2_with fail
    go_loop [3] (fun i => ∃ k : Nat, k ≤ s.size ∧ i = .int .i64 k ∧ allB okA (s.data.toList.take k) = true) (fun i => s.size - (intOf i).toNat)
    case atStart => exact ⟨0, Nat.zero_le _, rfl, by simp [allB]⟩
    case round =>
      obtain ⟨k, hk, rfl, hd⟩ := hrel
      have HD := hid_of hd
      clear hd
      by_cases hlt : k < s.size
      · have HN := hid_of (allB_snoc okA s k hlt)
        have HM := hid_of (allB_miss okA s k hlt)
        cases hle : okA (s[k].toNat : Int) with
        | true =>
          have HK := hid_of hle
          obtain ⟨h1, h2, h3⟩ := okA_yes hle
          clear hle HM
          go_wp2_with fail
          go_round
          case rel => exact ⟨k + 1, by omega, by go_num, by rw [HN.out, HD.out, HK.out]; rfl⟩
          case measure => simp [intOf]; omega
        | false =>
          have HK : Hid (allB okA s.data.toList = false) := HM.out hle
          have hc := okA_no hle
          clear hle HM HN
          rcases hc with h1 | h1 | h1
          all_goals
            go_wp2_with fail
            go_ret
            exact ⟨ret_bool (by rw [← HA.out, HK.out]), rfl⟩
      · have HE := hid_of (allB_end okA s k (by omega))
        go_wp2_with fail
        go_ret
        exact ⟨ret_bool (by rw [← HA.out, ← HE.out, HD.out]), rfl⟩

theorem hasB_hit (s : ByteArray) (c : Int) (k : Nat) (h : k < s.size) (hc : ((s[k].toNat : Int) == c) = true) : hasB s.data.toList c = true := by
  unfold hasB
  rw [List.any_eq_true]
  exact ⟨s[k], List.getElem_mem (l := s.data.toList) (by simpa using h), hc⟩
theorem hasB_step (s : ByteArray) (c : Int) (k : Nat) (h : k < s.size) (h0 : hasB (s.data.toList.take k) c = false) (hc : ((s[k].toNat : Int) == c) = false) : hasB (s.data.toList.take (k + 1)) c = false := by
  rw [take_snoc s k h]
  unfold hasB at h0 ⊢
  rw [List.any_append, h0]
  simp only [List.any_cons, List.any_nil, hc]
  rfl

set_option maxHeartbeats 400000 in
theorem zzIn_any (c : Int) (s : ByteArray) (w : World) (hs : s.size ≤ 1000) :
    Calls Try.prog 26 #[.int .u8 c, .string s] w fun e w' => e = .returned (.bool (hasB s.data.toList c)) ∧ w' = w := by
  generalize hA : hasB s.data.toList c = A
  have HA := hid_of hA
  clear hA
  go_enter Try.func26, Try.ntmps26
  go_wp2_with fail
  go_loop [5] (fun i => ∃ k : Nat, k ≤ s.size ∧ i = .int .i64 k ∧ hasB (s.data.toList.take k) c = false) (fun i => s.size - (intOf i).toNat)
  case atStart => exact ⟨0, Nat.zero_le _, rfl, by simp [hasB]⟩
  case round =>
    obtain ⟨k, hk, rfl, hd⟩ := hrel
    have HD := hid_of hd
    clear hd
    by_cases hlt : k < s.size
    · cases hc : ((s[k].toNat : Int) == c) with
      | true =>
        have HK := hid_of (hasB_hit s c k hlt hc)
        go_wp2_with fail
        go_ret
        exact ⟨ret_bool (by rw [← HA.out, HK.out]), rfl⟩
      | false =>
        have HK := hid_of (hasB_step s c k hlt HD.out hc)
        go_wp2_with fail
        go_round
        case rel => exact ⟨k + 1, by omega, by go_num, HK.out⟩
        case measure => simp [intOf]; omega
    · go_wp2_with fail
      go_ret
      have := HD.out
      rw [List.take_of_length_le (by simp; omega), HA.out] at this
      exact ⟨ret_bool this.symm, rfl⟩

theorem okT_lo {c : Int} (h : c < 33) : okT c = false := by
  have : decide (33 ≤ c) = false := by simpa using h
  simp [okT, this]
theorem okT_hi {c : Int} (h : 126 < c) : okT c = false := by
  have : decide (c ≤ 126) = false := by simpa using h
  simp [okT, this]
theorem okT_mid {c : Int} (h1 : 33 ≤ c) (h2 : c ≤ 126) : okT c = !hasB [34, 40, 41, 44, 47, 58, 59, 60, 61, 62, 63, 64, 91, 92, 93, 123, 125] c := by
  simp [okT, h1, h2]

set_option maxHeartbeats 400000 in
set_option maxRecDepth 100000 in
theorem tokenByte_any (c : Int) (w : World) (h0 : 0 ≤ c) (h1 : c < 256) :
    Calls Try.prog 16 #[.int .u8 c] w fun e w' => e = .returned (.bool (okT c)) ∧ w' = w := by
  by_cases ha : c < 33
  · have HK := hid_of (okT_lo ha)
    go_enter Try.func16, Try.ntmps16
    go_wp2_with fail
    go_ret
    exact ⟨ret_bool HK.out.symm, rfl⟩
  · by_cases hb : 126 < c
    · have HK := hid_of (okT_hi hb)
      have hb' : decide (c ≤ 126) = false := by simpa using hb
      go_enter Try.func16, Try.ntmps16
      go_wp2_with fail
      go_ret
      exact ⟨ret_bool HK.out.symm, rfl⟩
    · have HK := hid_of (okT_mid (c := c) (by omega) (by omega))
      have hz := zzIn_any c { data := #[34, 40, 41, 44, 47, 58, 59, 60, 61, 62, 63, 64, 91, 92, 93, 123, 125] } w (by decide)
      change Calls Try.prog 26 _ w (fun e w' => e = .returned (.bool (hasB [34, 40, 41, 44, 47, 58, 59, 60, 61, 62, 63, 64, 91, 92, 93, 123, 125] c)) ∧ w' = w) at hz
      generalize hasB [34, 40, 41, 44, 47, 58, 59, 60, 61, 62, 63, 64, 91, 92, 93, 123, 125] c = B at hz HK
      have HZ := hid_of hz
      clear hz
      go_enter Try.func16, Try.ntmps16
      go_wp2_with fail
      refine HZ.out.mono ?_
      rintro e w' ⟨rfl, rfl⟩
      go_wp2_with fail
      go_ret
      exact ⟨ret_bool HK.out.symm, rfl⟩

set_option maxHeartbeats 400000 in
theorem zzMethod_any (s : ByteArray) (w : World) (hs : s.size ≤ maxLen) :
    Calls Try.prog 17 #[.string s] w fun e w' => e = .returned (.bool (!s.toList.isEmpty && allB okM s.data.toList)) ∧ w' = w := by
  go_enter Try.func17, Try.ntmps17
  go_wp2_with (go_at_call 28; refine (validMethod_any _ _ hs).mono ?_; rintro e w' ⟨rfl, rfl⟩)
  go_ret
  exact ⟨rfl, rfl⟩
set_option maxHeartbeats 400000 in
theorem zzAppID_any (s : ByteArray) (w : World) (hs : s.size ≤ maxLen) :
    Calls Try.prog 13 #[.string s] w fun e w' => e = .returned (.bool (!s.toList.isEmpty && allB okA s.data.toList)) ∧ w' = w := by
  go_enter Try.func13, Try.ntmps13
  go_wp2_with (go_at_call 27; refine (validAppID_any _ _ hs).mono ?_; rintro e w' ⟨rfl, rfl⟩)
  go_ret
  exact ⟨rfl, rfl⟩

set_option maxHeartbeats 400000 in
theorem zzBytes15 (s : ByteArray) (w : World) (hs : s.size ≤ maxLen) :
    Calls Try.prog 15 #[.string s] w fun e w' => (∃ b, e = .returned (.bool b)) ∧ w' = w := by
  unfold maxLen at hs
  go_enter Try.func15, Try.ntmps15
  go_wp2
  all_goals
    go_ret
    exact ⟨⟨_, rfl⟩, rfl⟩
set_option maxHeartbeats 400000 in
theorem zzBytes19 (s : ByteArray) (w : World) (hs : s.size ≤ maxLen) :
    Calls Try.prog 19 #[.string s] w fun e w' => (∃ b, e = .returned (.bool b)) ∧ w' = w := by
  unfold maxLen at hs
  go_enter Try.func19, Try.ntmps19
  go_wp2
  all_goals
    go_ret
    exact ⟨⟨_, rfl⟩, rfl⟩

end Go.Proofs.Qxb6603016a
