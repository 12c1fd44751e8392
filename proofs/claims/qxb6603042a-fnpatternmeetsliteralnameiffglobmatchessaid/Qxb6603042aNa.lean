/- Walks: the law's bounds, IsLiteralName. -/
import Derived.Test.Qxb6603042aWa
import Derived.Test.Qxb6603042aPlainD
namespace Go.Proofs.Qxb6603042a.M
open Go.RowKit
set_option linter.unusedVariables false

theorem zz7_any (p n : ByteArray) (w : World) (hp : p.size ≤ maxLen) (hn : n.size ≤ maxLen) :
    Calls Try.prog 7 #[.string p, .string n] w fun e w' => e = .returned (.bool (decide (p.size + n.size ≤ 1048576))) ∧ w' = w := by
  unfold maxLen at hp hn
  by_cases hb : 1048576 < p.size
  · have hd : decide (p.size + n.size ≤ 1048576) = false := by simp; omega
    rw [hd]
    go_enter Try.func7, Try.ntmps7
    go_wp2_with fail
    go_ret
    exact ⟨rfl, rfl⟩
  by_cases hc : 1048576 < n.size
  · have hd : decide (p.size + n.size ≤ 1048576) = false := by simp; omega
    rw [hd]
    go_enter Try.func7, Try.ntmps7
    go_wp2_with fail
    go_ret
    exact ⟨rfl, rfl⟩
  by_cases hs : 1048576 < p.size + n.size
  · have hd : decide (p.size + n.size ≤ 1048576) = false := by simp; omega
    rw [hd]
    have hs' : (1048576 : Int) < (p.size : Int) + (n.size : Int) := by omega
    go_enter Try.func7, Try.ntmps7
    go_wp2_with fail
    go_ret
    exact ⟨rfl, rfl⟩
  · have hd : decide (p.size + n.size ≤ 1048576) = true := by simp; omega
    rw [hd]
    have hs' : ¬ (1048576 : Int) < (p.size : Int) + (n.size : Int) := by omega
    go_enter Try.func7, Try.ntmps7
    go_wp2_with fail
    go_ret
    exact ⟨rfl, rfl⟩

theorem lit_has (N : ByteArray) (k : Nat) (h : k < N.size) (hc : N[k] = 42) : GP.isLit (bs N) = false := by
  have : (42 : UInt8) ∈ bs N := by rw [← hc, ← get_bs N k h]; exact List.getElem_mem _
  unfold GP.isLit
  rw [List.contains_iff_mem.2 this]; rfl
theorem take_not (N : ByteArray) (k : Nat) (h : k < N.size) (hc : N[k] ≠ 42) (hn : (42 : UInt8) ∉ (bs N).take k) : (42 : UInt8) ∉ (bs N).take (k + 1) := by
  rw [List.take_succ_eq_append_getElem (by rw [bs_length]; exact h), List.mem_append, List.mem_singleton, get_bs N k h]
  exact fun h => h.elim hn (fun e => hc e.symm)
theorem dir_last (N : ByteArray) (h : 1 ≤ N.size) : GP.isDir (bs N) = decide (N[N.size - 1] = 47) := by
  have hl : 0 < (bs N).length := by rw [bs_length]; omega
  unfold GP.isDir
  rw [List.getLast?_eq_some_getLast (List.length_pos_iff.1 hl), List.getLast_eq_getElem]
  simp only [Option.some.injEq, bs_length]
  rw [get_bs N (N.size - 1) (by omega)]
theorem dir_none (N : ByteArray) (h : N.size = 0) : GP.isDir (bs N) = false := by
  have hb : bs N = [] := List.eq_nil_of_length_eq_zero (by rw [bs_length]; omega)
  rw [hb]; rfl
theorem lit_end (N : ByteArray) (hn : (42 : UInt8) ∉ (bs N).take N.size) : GP.isLit (bs N) = !(GP.isDir (bs N)) := by
  rw [List.take_of_length_le (by rw [bs_length]; exact Nat.le_refl _)] at hn
  unfold GP.isLit
  have : (bs N).contains 42 = false := by
    cases h : (bs N).contains 42 with
    | false => rfl
    | true => exact absurd (List.contains_iff_mem.1 h) hn
  rw [this]; rfl

theorem lit8_any (N : ByteArray) (w : World) (h : N.size ≤ 70000) : Calls Try.prog 8 #[.string N] w fun e w' => e = .returned (.bool (GP.isLit (bs N))) ∧ w' = w := by
  go_enter Try.func8, Try.ntmps8
  go_wp2_with fail
  go_loopw [3] (fun t wr => wr = w ∧ ∃ k : Nat, k ≤ N.size ∧ t = .int .i64 k ∧ Hid ((42 : UInt8) ∉ (bs N).take k)) (fun t _ => N.size - (intOf t).toNat)
  case atStart => exact ⟨rfl, 0, Nat.zero_le _, rfl, by unfold Hid; simp⟩
  case round =>
    obtain ⟨rfl, k, hk, rfl, HN⟩ := hrel
    by_cases hlt : k < N.size
    · by_cases h42 : N[k] = 42
      · have HL := hid_of (lit_has N k hlt h42)
        have hb : ((N[k].toNat : Int) == 42) = true := by rw [h42]; rfl
        clear h42 HN
        go_wp2_with fail
        go_ret
        exact ⟨ret_bool HL.out.symm, rfl⟩
      · have hb : ((N[k].toNat : Int) == 42) = false := by rw [show (42 : Int) = ((42 : UInt8).toNat : Int) from rfl, byte_eq]; simpa using h42
        have HM := hid_of (take_not N k hlt h42 HN.out)
        clear h42 HN
        go_wp2_with fail
        go_roundw
        case rel => exact ⟨trivial, k + 1, by omega, by go_num, HM⟩
        case measure => simp [intOf]; omega
    · have hk' : k = N.size := by omega
      subst hk'
      have HE := hid_of (lit_end N HN.out)
      clear HN hk
      by_cases h0 : N.size = 0
      · have HD := hid_of (dir_none N h0)
        have hz : ((N.size : Int) == 0) = true := by rw [h0]; rfl
        clear h0
        go_wp2_with fail
        go_ret
        exact ⟨ret_bool (by rw [HE.out, HD.out]; rfl), rfl⟩
      · have hz : ((N.size : Int) == 0) = false := by rw [beq_eq_false_iff_ne]; omega
        have h1 : 1 ≤ N.size := by omega
        have HD := hid_of (dir_last N h1)
        have hi : ((N.size : Int) - 1).toNat = N.size - 1 := by omega
        have hb : ((N[N.size - 1].toNat : Int) == 47) = decide (N[N.size - 1] = 47) := by rw [show (47 : Int) = ((47 : UInt8).toNat : Int) from rfl, byte_eq]
        have HB := hid_of hb
        clear hb
        go_wp2_with fail
        go_ret
        refine ⟨ret_bool ?_, rfl⟩
        rw [HE.out, HD.out, bne, HB.out]
end Go.Proofs.Qxb6603042a.M
