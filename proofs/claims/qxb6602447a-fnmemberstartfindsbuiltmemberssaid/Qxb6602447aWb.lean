/- Walks: strings.IndexByte, strings.ContainsRune at one byte, literalEnd. -/
import Derived.Test.Qxb6602447aWa
import Derived.Lib.Bytealg
import Derived.Deep.QuietTactic
import Derived.BigQuiet
namespace Go.Proofs.Qxb6602447a
open Go.RowKit

set_option maxHeartbeats 400000 in
theorem slIndexByte_any (s : ByteArray) (c : Int) (w : World) :
    Calls Try.prog 37 #[.string s, .int .u8 c] w fun e w' => e = .returned (.int .i64 (Lib.indexByte s.data.toList c.toNat.toUInt8)) ∧ w' = w := by
  go_enter Try.func37, Try.ntmps37
  go_wp2
  rw [run_callFunc_extern Try.func38 (by kernel_rfl) (by kernel_rfl) (by kernel_rfl) (e := Extern.BytealgIndexByte.indexByte) (by kernel_rfl), Lib.run_indexByteString]
  simp only [Result.andThen]
  rw [Oper.upon_value]
  go_wp2
  go_ret
  exact ⟨rfl, rfl⟩

set_option maxHeartbeats 400000 in
theorem indexByte_any (s : ByteArray) (c : Int) (w : World) :
    Calls Try.prog 33 #[.string s, .int .u8 c] w fun e w' => e = .returned (.int .i64 (Lib.indexByte s.data.toList c.toNat.toUInt8)) ∧ w' = w := by
  go_enter Try.func33, Try.ntmps33
  go_wp2_with (go_at_call 37; refine (slIndexByte_any _ _ _).mono ?_; rintro e w' ⟨rfl, rfl⟩)
  go_ret
  exact ⟨rfl, rfl⟩

set_option maxHeartbeats 400000 in
theorem validRune_any (c : Int) (w : World) (h0 : 0 ≤ c) (h1 : c < 256) :
    Calls Try.prog 34 #[.int .i32 c] w fun e w' => e = .returned (.bool true) ∧ w' = w := by
  go_enter Try.func34, Try.ntmps34
  go_wp2
  go_ret
  exact ⟨rfl, rfl⟩

set_option maxHeartbeats 400000 in
set_option maxRecDepth 100000 in
theorem indexRune_low (c : Int) (w : World) (h0 : 0 ≤ c) (h1 : c < 128) :
    Calls Try.prog 32 #[.string { data := #[44, 125, 93, 32, 9, 13, 10] }, .int .i32 c] w fun e w' => e = .returned (.int .i64 (Lib.indexByte [44, 125, 93, 32, 9, 13, 10] c.toNat.toUInt8)) ∧ w' = w := by
  go_enter Try.func32, Try.ntmps32
  go_wp2_with fail
  refine (indexByte_any _ _ _).mono ?_
  rintro e w' ⟨rfl, rfl⟩
  go_wp2
  go_ret
  exact ⟨rfl, rfl⟩

theorem indexByte_hi (c : Int) (w : World) (h0 : 128 ≤ c) (h1 : c < 256) :
    Calls Try.prog 33 #[.string { data := #[93, 32, 9, 13, 10] }, .int .u8 c] w fun e w' => e = .returned (.int .i64 (-1)) ∧ w' = w := by
  have h := indexByte_any { data := #[93, 32, 9, 13, 10] } c w
  have e : Lib.indexByte [93, 32, 9, 13, 10] c.toNat.toUInt8 = -1 := by
    have hn : ∀ n : Nat, n < 128 → (UInt8.ofNat n == c.toNat.toUInt8) = false := by
      intro n hn
      have : (UInt8.ofNat n) ≠ c.toNat.toUInt8 := by
        intro h
        have := congrArg UInt8.toNat h
        simp at this
        omega
      simpa using this
    have h1 := hn 93 (by omega); have h2 := hn 32 (by omega); have h3 := hn 9 (by omega); have h4 := hn 13 (by omega); have h5 := hn 10 (by omega)
    change ((93 : UInt8) == _) = false at h1
    change ((32 : UInt8) == _) = false at h2
    change ((9 : UInt8) == _) = false at h3
    change ((13 : UInt8) == _) = false at h4
    change ((10 : UInt8) == _) = false at h5
    simp [Lib.indexByte, h1, h2, h3, h4, h5]
  change Calls Try.prog 33 _ w (fun e w' => e = .returned (.int .i64 (Lib.indexByte [93, 32, 9, 13, 10] c.toNat.toUInt8)) ∧ w' = w) at h
  rw [e] at h
  exact h

theorem slice_stops : ∀ w : World, (Instr.slice 9 (.string { data := #[44, 125, 93, 32, 9, 13, 10] }) (some (.int .i64 2)) none none).run Try.prog w = .ok (.string { data := #[93, 32, 9, 13, 10] }) w := fun _ => by kernel_rfl

theorem encode_two (c : Int) (h0 : 128 ≤ c) (h1 : c < 256) : ∃ x y : UInt8, Utf8.encode c = ⟨#[x, y]⟩ ∧ 128 ≤ y.toNat := by
  have hv : Utf8.valid c = true := by rw [validRune_eq]; simp [validRune]; omega
  have hc : ¬ c.toNat < 128 := by omega
  have hd : c.toNat < 2048 := by omega
  unfold Utf8.encode
  simp only [hv, if_true, hc, if_false, hd]
  exact ⟨_, _, rfl, by simp; omega⟩

set_option maxHeartbeats 400000 in
set_option maxRecDepth 100000 in
theorem indexRune_high (c : Int) (w : World) (h0 : 128 ≤ c) (h1 : c < 256) :
    Calls Try.prog 32 #[.string { data := #[44, 125, 93, 32, 9, 13, 10] }, .int .i32 c] w fun e w' => e = .returned (.int .i64 (-1)) ∧ ∃ n, w' = w.drewN n := by
  obtain ⟨x, y, hxy, hy⟩ := encode_two c h0 h1
  have hne : ((((({ data := #[44, 125, 93, 32, 9, 13, 10] } : ByteArray)[1]'(by decide)).toNat : Int)) != (((({ data := #[x, y] } : ByteArray)[1]'(Nat.lt_succ_self 1)).toNat : Int))) = true := by
    show (((125 : UInt8).toNat : Int) != (y.toNat : Int)) = true
    simp
    omega
  have hw2 : IntKind.i64.wrap 2 = 2 := by decide
  have hsl := slice_stops
  have HY : Hid (128 ≤ (y.toNat : Int) ∧ (y.toNat : Int) < 256) := by have := y.toNat_lt; unfold Hid; omega
  go_enter Try.func32, Try.ntmps32
  go_wp2_with fail
  refine (validRune_any _ _ (by omega) (by omega)).mono ?_
  rintro e w' ⟨rfl, rfl⟩
  go_wp2_with fail
  go_step3
  go_wp2_with fail
  refine wp_loop_rounds 1 ?_
  rw [rounds_succ]
  go_wp2_with fail
  go_step3
  go_wp2_with fail
  go_quiet (fail)
  go_wp2_with fail
  clear hne
  go_quiet ((go_at_call 33; exact (indexByte_hi _ _ HY.out.1 HY.out.2).mono (fun _ _ h => ⟨h.1, _, h.2⟩)))
  go_wp2_with fail
  rw [Exit.noGoto_ret]
  go_wp2_with fail
  rw [Exit.noGoto_ret]
  go_wp2_with fail
  go_ret
  exact ⟨rfl, _, rfl⟩

theorem stop_low (c : Int) (h0 : 0 ≤ c) (h1 : c < 256) : decide (0 ≤ Lib.indexByte [44, 125, 93, 32, 9, 13, 10] c.toNat.toUInt8) = JF.stop c := by
  obtain ⟨n, rfl⟩ := Int.eq_ofNat_of_zero_le h0
  have hn : n < 256 := by omega
  have key : ∀ n : Fin 256, decide (0 ≤ Lib.indexByte [44, 125, 93, 32, 9, 13, 10] ((n.val : Int)).toNat.toUInt8) = JF.stop (n.val : Int) := by decide +kernel
  exact key ⟨n, hn⟩

theorem stop_high (c : Int) (h0 : 128 ≤ c) : JF.stop c = false := by
  simp [JF.stop]; omega

set_option maxHeartbeats 400000 in
theorem containsRune_any (c : Int) (w : World) (h0 : 0 ≤ c) (h1 : c < 256) :
    Calls Try.prog 31 #[.string { data := #[44, 125, 93, 32, 9, 13, 10] }, .int .i32 c] w fun e w' => e = .returned (.bool (JF.stop c)) ∧ ∃ n, w' = w.drewN n := by
  by_cases hlt : c < 128
  · have HS : Hid (decide (0 ≤ Lib.indexByte [44, 125, 93, 32, 9, 13, 10] c.toNat.toUInt8) = JF.stop c) := stop_low c h0 h1
    go_enter Try.func31, Try.ntmps31
    go_wp2_with (go_at_call 32; refine (indexRune_low _ _ h0 hlt).mono ?_; rintro e w' ⟨rfl, rfl⟩)
    go_ret
    exact ⟨ret_bool HS.out, 0, rfl⟩
  · have HS : Hid (JF.stop c = false) := stop_high c (by omega)
    go_enter Try.func31, Try.ntmps31
    go_wp2_with (go_at_call 32; refine (indexRune_high _ _ (by omega) h1).mono ?_; rintro e w' ⟨rfl, n, rfl⟩)
    go_ret
    exact ⟨ret_bool HS.out.symm, n, rfl⟩

end Go.Proofs.Qxb6602447a
