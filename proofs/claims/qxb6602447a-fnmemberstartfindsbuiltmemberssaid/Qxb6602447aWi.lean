/- The top law's walk: the early ways out, and all together. -/
import Derived.Test.Qxb6602447aWh
namespace Go.Proofs.Qxb6602447a
open Go.RowKit

set_option maxHeartbeats 400000 in
theorem top_s (s t : ByteArray) (a : Option Addr) (len cap : Nat) (w : World) (ms : s.size ≤ maxLen) (mt : t.size ≤ maxLen) (ml : len ≤ maxLen) (h : 262144 < s.size) :
    Calls Try.prog 7 #[.string s, .string t, .slice a len cap] w fun e w' => e = .returned (.bool true) ∧ Below w.heap.size w w' := by
  go_enter Try.func7, Try.ntmps7
  go_wp2_with fail
  refine (zzBytes_any s t a len cap w ms mt ml).mono ?_
  unfold maxLen at ms mt ml
  rintro e w' ⟨⟨bl, rfl⟩, hw⟩
  replace hw := hw.symm
  subst hw
  cases bl
  all_goals
    go_wp2_with fail
    go_ret
    exact ⟨rfl, Below.refl _ _⟩

set_option maxHeartbeats 400000 in
theorem top_t (s t : ByteArray) (a : Option Addr) (len cap : Nat) (w : World) (ms : s.size ≤ maxLen) (mt : t.size ≤ maxLen) (ml : len ≤ maxLen) (hs : s.size ≤ 262144) (h : 262144 < t.size) :
    Calls Try.prog 7 #[.string s, .string t, .slice a len cap] w fun e w' => e = .returned (.bool true) ∧ Below w.heap.size w w' := by
  go_enter Try.func7, Try.ntmps7
  go_wp2_with fail
  refine (zzBytes_any s t a len cap w ms mt ml).mono ?_
  unfold maxLen at ms mt ml
  rintro e w' ⟨⟨bl, rfl⟩, hw⟩
  replace hw := hw.symm
  subst hw
  cases bl
  all_goals
    go_wp2_with fail
    go_ret
    exact ⟨rfl, Below.refl _ _⟩

set_option maxHeartbeats 400000 in
theorem top_l (s t : ByteArray) (a : Option Addr) (len cap : Nat) (w : World) (ms : s.size ≤ maxLen) (mt : t.size ≤ maxLen) (ml : len ≤ maxLen) (hs : s.size ≤ 262144) (ht : t.size ≤ 262144) (h : 262144 < len) :
    Calls Try.prog 7 #[.string s, .string t, .slice a len cap] w fun e w' => e = .returned (.bool true) ∧ Below w.heap.size w w' := by
  go_enter Try.func7, Try.ntmps7
  go_wp2_with fail
  refine (zzBytes_any s t a len cap w ms mt ml).mono ?_
  unfold maxLen at ms mt ml
  rintro e w' ⟨⟨bl, rfl⟩, hw⟩
  replace hw := hw.symm
  subst hw
  cases bl
  all_goals
    go_wp2_with fail
    go_ret
    exact ⟨rfl, Below.refl _ _⟩

set_option maxHeartbeats 400000 in
theorem top_eq (s t : ByteArray) (a : Option Addr) (len cap : Nat) (w : World) (ms : s.size ≤ maxLen) (mt : t.size ≤ maxLen) (ml : len ≤ maxLen) (hs : s.size ≤ 262144) (ht : t.size ≤ 262144) (hl : len ≤ 262144) (h : (s.toList == t.toList) = true) :
    Calls Try.prog 7 #[.string s, .string t, .slice a len cap] w fun e w' => e = .returned (.bool true) ∧ Below w.heap.size w w' := by
  go_enter Try.func7, Try.ntmps7
  go_wp2_with fail
  refine (zzBytes_any s t a len cap w ms mt ml).mono ?_
  unfold maxLen at ms mt ml
  rintro e w' ⟨⟨bl, rfl⟩, hw⟩
  replace hw := hw.symm
  subst hw
  cases bl
  all_goals
    go_wp2_with fail
    go_ret
    exact ⟨rfl, Below.refl _ _⟩

set_option maxHeartbeats 400000 in
theorem top_ds (s t : ByteArray) (a : Option Addr) (len cap : Nat) (w : World) (ms : s.size ≤ maxLen) (mt : t.size ≤ maxLen) (ml : len ≤ maxLen) (hs : s.size ≤ 262144) (ht : t.size ≤ 262144) (hl : len ≤ 262144) (hne : (s.toList == t.toList) = false)
    (hd : dirty s.data.toList = true) :
    Calls Try.prog 7 #[.string s, .string t, .slice a len cap] w fun e w' => e = .returned (.bool true) ∧ Below w.heap.size w w' := by
  have HD : Hid (dirty s.data.toList = true) := hd
  clear hd
  go_enter Try.func7, Try.ntmps7
  go_wp2_with fail
  refine (zzBytes_any s t a len cap w ms mt ml).mono ?_
  rintro e w' ⟨⟨bl, rfl⟩, hw⟩
  replace hw := hw.symm
  subst hw
  cases bl
  · unfold maxLen at ms mt ml
    go_wp2_with fail
    go_ret
    exact ⟨rfl, Below.refl _ _⟩
  · go_wp2_with fail
    refine (dirty_any s _ ms).mono ?_
    unfold maxLen at ms mt ml
    rintro e w1 ⟨rfl, hw⟩
    replace hw := hw.symm
    subst hw
    rw [HD.out]
    go_wp2_with fail
    go_ret
    exact ⟨rfl, Below.refl _ _⟩

set_option maxHeartbeats 400000 in
theorem top_dt (s t : ByteArray) (a : Option Addr) (len cap : Nat) (w : World) (ms : s.size ≤ maxLen) (mt : t.size ≤ maxLen) (ml : len ≤ maxLen) (hs : s.size ≤ 262144) (ht : t.size ≤ 262144) (hl : len ≤ 262144) (hne : (s.toList == t.toList) = false)
    (hd : dirty s.data.toList = false) (hdt : dirty t.data.toList = true) :
    Calls Try.prog 7 #[.string s, .string t, .slice a len cap] w fun e w' => e = .returned (.bool true) ∧ Below w.heap.size w w' := by
  have HD : Hid (dirty s.data.toList = false ∧ dirty t.data.toList = true) := ⟨hd, hdt⟩
  clear hd hdt
  go_enter Try.func7, Try.ntmps7
  go_wp2_with fail
  refine (zzBytes_any s t a len cap w ms mt ml).mono ?_
  rintro e w' ⟨⟨bl, rfl⟩, hw⟩
  replace hw := hw.symm
  subst hw
  cases bl
  · unfold maxLen at ms mt ml
    go_wp2_with fail
    go_ret
    exact ⟨rfl, Below.refl _ _⟩
  · go_wp2_with fail
    refine (dirty_any s _ ms).mono ?_
    rintro e w1 ⟨rfl, hw⟩
    replace hw := hw.symm
    subst hw
    rw [HD.out.1]
    go_wp2_with fail
    refine (dirty_any t _ mt).mono ?_
    unfold maxLen at ms mt ml
    rintro e w1 ⟨rfl, hw⟩
    replace hw := hw.symm
    subst hw
    rw [HD.out.2]
    go_wp2_with fail
    go_ret
    exact ⟨rfl, Below.refl _ _⟩

set_option maxHeartbeats 400000 in
theorem top_nil (s t : ByteArray) (w : World) (hs : s.size ≤ 262144) (ht : t.size ≤ 262144) (hne : (s.toList == t.toList) = false)
    (hd : dirty s.data.toList = false) (hdt : dirty t.data.toList = false) :
    Calls Try.prog 7 #[.string s, .string t, .slice none 0 0] w fun e w' => e = .returned (.bool true) ∧ Below w.heap.size w w' := by
  have HD : Hid (dirty s.data.toList = false ∧ dirty t.data.toList = false) := ⟨hd, hdt⟩
  clear hd hdt
  go_enter Try.func7, Try.ntmps7
  go_wp2_with fail
  refine (zzBytes_any s t none 0 0 w (by unfold maxLen; omega) (by unfold maxLen; omega) (by unfold maxLen; omega)).mono ?_
  rintro e w' ⟨⟨bl, rfl⟩, hw⟩
  replace hw := hw.symm
  subst hw
  cases bl
  · go_wp2_with fail
    go_ret
    exact ⟨rfl, Below.refl _ _⟩
  · go_wp2_with fail
    refine (dirty_any s _ (by unfold maxLen; omega)).mono ?_
    rintro e w1 ⟨rfl, hw⟩
    replace hw := hw.symm
    subst hw
    rw [HD.out.1]
    go_wp2_with fail
    refine (dirty_any t _ (by unfold maxLen; omega)).mono ?_
    rintro e w1 ⟨rfl, hw⟩
    replace hw := hw.symm
    subst hw
    rw [HD.out.2]
    go_wp2_with fail
    refine (clone_nil _).mono ?_
    rintro e w1 ⟨rfl, hw⟩
    replace hw := hw.symm
    subst hw
    go_wp2_with fail
    refine (zzValue_of _ _ _ _ _ (valueEnd_end none 0 0 w)).mono ?_
    rintro e w1 ⟨rfl, hw⟩
    replace hw := hw.symm
    subst hw
    go_wp2_with fail
    go_ret
    exact ⟨rfl, Below.refl _ _⟩

set_option maxHeartbeats 400000 in
theorem clone_zero (x : Addr) (cap : Nat) (w : World) :
    Calls Try.prog 10 #[.slice (some x) 0 cap] w fun e w' => e = .returned (.slice (some ⟨w.heap.size, 0, none⟩) 0 0) ∧ ∃ C : Array Value, w' = w.alloc (.cells C 5) := by
  have hnil := fun (w : World) (a : Option Addr) (n c : Nat) => Lib.run_eql_slice_nil (P := Try.prog) w 22 5 a n c 0 0 Try.underlying22
  have hmk : ∀ w : World, (Instr.makeSlice 22 (.int .i64 0) (.int .i64 0)).run Try.prog w = .ok (.slice (some ⟨w.heap.size, 0, none⟩) 0 0) (w.alloc (.cells (madeCells #[.int .u8 0] 0) 5)) :=
    run_make_row' (P := Try.prog) 22 5 (.int .u8 0) 1 Try.underlying22 info5 rfl .i64 .i64 0 (by omega) (by omega)
  go_enter Try.func10, Try.ntmps10
  go_wp2_with fail
  refine wp_loop_rounds 1 ?_
  rw [rounds_succ]
  go_wp2_with fail
  go_ret
  exact ⟨rfl, _, rfl⟩

set_option maxHeartbeats 400000 in
theorem top_zero (s t : ByteArray) (x : Addr) (cap : Nat) (w : World) (hs : s.size ≤ 262144) (ht : t.size ≤ 262144) (hne : (s.toList == t.toList) = false)
    (hd : dirty s.data.toList = false) (hdt : dirty t.data.toList = false) :
    Calls Try.prog 7 #[.string s, .string t, .slice (some x) 0 cap] w fun e w' => e = .returned (.bool true) ∧ Below w.heap.size w w' := by
  have HD : Hid (dirty s.data.toList = false ∧ dirty t.data.toList = false) := ⟨hd, hdt⟩
  clear hd hdt
  go_enter Try.func7, Try.ntmps7
  go_wp2_with fail
  refine (zzBytes_any s t _ 0 cap w (by unfold maxLen; omega) (by unfold maxLen; omega) (by unfold maxLen; omega)).mono ?_
  rintro e w' ⟨⟨bl, rfl⟩, hw⟩
  replace hw := hw.symm
  subst hw
  cases bl
  · go_wp2_with fail
    go_ret
    exact ⟨rfl, Below.refl _ _⟩
  · go_wp2_with fail
    refine (dirty_any s _ (by unfold maxLen; omega)).mono ?_
    rintro e w1 ⟨rfl, hw⟩
    replace hw := hw.symm
    subst hw
    rw [HD.out.1]
    go_wp2_with fail
    refine (dirty_any t _ (by unfold maxLen; omega)).mono ?_
    rintro e w1 ⟨rfl, hw⟩
    replace hw := hw.symm
    subst hw
    rw [HD.out.2]
    go_wp2_with fail
    refine (clone_zero x cap _).mono ?_
    rintro e w1 ⟨rfl, C, hw⟩
    have HB : Hid (Below w.heap.size w w1) := by rw [hw]; exact (Below.refl _ _).alloc (Nat.le_refl _) _
    clear hw
    go_wp2_with fail
    refine (zzValue_of _ _ _ _ _ (valueEnd_end _ 0 0 w1)).mono ?_
    rintro e w2 ⟨rfl, hw⟩
    replace hw := hw.symm
    subst hw
    go_wp2_with fail
    go_ret
    exact ⟨rfl, HB.out⟩

/-- The law, whole. -/
theorem top_all (s t : ByteArray) (a : Option Addr) (len cap : Nat) (w : World) (ms : s.size ≤ maxLen) (mt : t.size ≤ maxLen) (ml : len ≤ maxLen)
    (hv : (a = none ∧ len = 0 ∧ cap = 0) ∨ (∃ x, a = some x ∧ len = 0) ∨ ∃ b o v, a = some ⟨b, o, none⟩ ∧ v.length = len ∧ Row w b o v ∧ (∀ c ∈ v, 0 ≤ c ∧ c < 256) ∧ b < w.heap.size) :
    Calls Try.prog 7 #[.string s, .string t, .slice a len cap] w fun e w' => e = .returned (.bool true) ∧ Below w.heap.size w w' := by
  by_cases hs : 262144 < s.size
  · exact top_s s t a len cap w ms mt ml hs
  by_cases ht : 262144 < t.size
  · exact top_t s t a len cap w ms mt ml (by omega) ht
  by_cases hl : 262144 < len
  · exact top_l s t a len cap w ms mt ml (by omega) (by omega) hl
  cases hne : s.toList == t.toList with
  | true => exact top_eq s t a len cap w ms mt ml (by omega) (by omega) (by omega) hne
  | false =>
    cases hds : dirty s.data.toList with
    | true => exact top_ds s t a len cap w ms mt ml (by omega) (by omega) (by omega) hne hds
    | false =>
      cases hdt : dirty t.data.toList with
      | true => exact top_dt s t a len cap w ms mt ml (by omega) (by omega) (by omega) hne hds hdt
      | false =>
        rcases hv with ⟨rfl, rfl, rfl⟩ | ⟨x, rfl, rfl⟩ | ⟨b, o, v, rfl, rfl, hr, hb, hbw⟩
        · exact top_nil s t w (by omega) (by omega) hne hds hdt
        · exact top_zero s t x cap w (by omega) (by omega) hne hds hdt
        · exact top_main s t b o cap v w (by omega) (by omega) (by omega) hr hb hbw hne hds hdt

end Go.Proofs.Qxb6602447a
