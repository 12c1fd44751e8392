/- The walks of the two laws. -/
import Derived.Test.Qxb6603016aWb
namespace Go.Proofs.Qxb6603016a
open Go.RowKit

set_option maxHeartbeats 400000 in
theorem implies_all (s : ByteArray) (w : World) (hs : s.size ≤ maxLen) :
    Calls Try.prog 7 #[.string s] w fun e w' => e = .returned (.bool true) ∧ Below w.heap.size w w' := by
  have hM := zzMethod_any s w hs
  have hA := zzAppID_any s w hs
  have hI : (!s.toList.isEmpty && allB okM s.data.toList) = true → (!s.toList.isEmpty && allB okA s.data.toList) = true := by
    intro h
    rw [Bool.and_eq_true] at h ⊢
    exact ⟨h.1, allB_imp okM_okA _ h.2⟩
  generalize (!s.toList.isEmpty && allB okM s.data.toList) = M at hM hI
  generalize (!s.toList.isEmpty && allB okA s.data.toList) = A at hA hI
  have HM := hid_of hM
  have HA := hid_of hA
  have HI := hid_of hI
  clear hM hA hI
  have HB := hid_of (zzBytes19 s w hs)
  unfold maxLen at hs
  by_cases hbig : 65536 < s.size
  all_goals
    go_enter Try.func7, Try.ntmps7
    go_wp2_with fail
    refine HB.out.mono ?_
    rintro e w' ⟨⟨b, rfl⟩, hw⟩
    replace hw := hw.symm
    subst hw
    clear HB
    cases b
    · go_wp2_with fail
      go_ret
      exact ⟨rfl, Below.refl _ _⟩
  · go_wp2_with fail
    go_ret
    exact ⟨rfl, Below.refl _ _⟩
  · go_wp2_with fail
    refine HM.out.mono ?_
    rintro e w' ⟨rfl, hw⟩
    replace hw := hw.symm
    subst hw
    cases M
    · go_wp2_with fail
      go_ret
      exact ⟨rfl, Below.refl _ _⟩
    · have hAt := HI.out rfl
      subst hAt
      go_wp2_with fail
      refine HA.out.mono ?_
      rintro e w' ⟨rfl, hw⟩
      replace hw := hw.symm
      subst hw
      go_wp2_with fail
      go_ret
      exact ⟨rfl, Below.refl _ _⟩

theorem want_eq (s : ByteArray) : (!s.toList.isEmpty && allB okM s.data.toList) = (decide (0 < (s.size : Int)) && allB okT s.data.toList) := by
  rw [allB_congr okM_okT]
  congr 1
  rw [Lib.toList_data]
  have : s.data.toList.length = s.size := by rw [Array.length_toList]; rfl
  cases h : s.data.toList with
  | nil => rw [h] at this; simp at this; simp [← this]
  | cons c t => rw [h] at this; simp at this; simp [← this]

set_option maxHeartbeats 400000 in
theorem token_all (s : ByteArray) (w : World) (hs : s.size ≤ maxLen) :
    Calls Try.prog 5 #[.string s] w fun e w' => e = .returned (.bool true) ∧ Below w.heap.size w w' := by
  have hM := zzMethod_any s w hs
  rw [want_eq] at hM
  generalize hX : (decide (0 < (s.size : Int)) && allB okT s.data.toList) = X at hM
  have HM := hid_of hM
  have HX := hid_of hX
  clear hM hX
  have HB := hid_of (zzBytes15 s w hs)
  unfold maxLen at hs
  by_cases hbig : 65536 < s.size
  all_goals
    go_enter Try.func5, Try.ntmps5
    go_wp2_with fail
    refine HB.out.mono ?_
    rintro e w' ⟨⟨b, rfl⟩, hw⟩
    replace hw := hw.symm
    subst hw
    clear HB
    cases b
    · go_wp2_with fail
      go_ret
      exact ⟨rfl, Below.refl _ _⟩
  · go_wp2_with fail
    go_ret
    exact ⟨rfl, Below.refl _ _⟩
  · go_wp2_with fail
    go_loop [3, 4] (fun t i => ∃ (k : Nat) (b : Bool), k ≤ s.size ∧ i = .int .i64 k ∧ t = .bool b ∧ b = (decide (0 < (s.size : Int)) && allB okT (s.data.toList.take k))) (fun _ i => s.size - (intOf i).toNat)
    case atStart => exact ⟨0, _, Nat.zero_le _, rfl, rfl, by simp [allB]⟩
    case round =>
      obtain ⟨k, b, hk, rfl, rfl, hd⟩ := hrel
      have HD := hid_of hd
      clear hd
      by_cases hlt : k < s.size
      · have HN := hid_of (allB_snoc okT s k hlt)
        have hb := s[k].toNat_lt
        have hT := fun w => tokenByte_any (s[k].toNat : Int) w (by omega) (by omega)
        cases hc : okT (s[k].toNat : Int) with
        | true =>
          rw [hc] at hT
          have HT := hid_of hT
          have HE : Hid (b = (decide (0 < (s.size : Int)) && allB okT (s.data.toList.take (k + 1)))) := by unfold Hid; rw [HN.out, hc, Bool.and_true]; exact HD.out
          clear hT hc
          go_wp2_with (go_at_call 16; refine (HT.out _).mono ?_; rintro e w' ⟨rfl, rfl⟩)
          go_round
          case rel => exact ⟨k + 1, b, by omega, by go_num, rfl, HE.out⟩
          case measure => simp [intOf]; omega
        | false =>
          rw [hc] at hT
          have HT := hid_of hT
          have HE : Hid (false = (decide (0 < (s.size : Int)) && allB okT (s.data.toList.take (k + 1)))) := by unfold Hid; rw [HN.out, hc, Bool.and_false, Bool.and_false]
          clear hT hc
          go_wp2_with (go_at_call 16; refine (HT.out _).mono ?_; rintro e w' ⟨rfl, rfl⟩)
          go_round
          case rel => exact ⟨k + 1, false, by omega, by go_num, rfl, HE.out⟩
          case measure => simp [intOf]; omega
      · have hbX : b = X := by
          have := HD.out
          rw [allB_end okT s k (by omega)] at this
          exact this.trans HX.out
        subst hbX
        go_wp2_with (go_at_call 17; refine HM.out.mono ?_; rintro e w' ⟨rfl, rfl⟩)
        go_ret
        exact ⟨ret_bool (by simp), Below.refl _ _⟩

end Go.Proofs.Qxb6603016a
