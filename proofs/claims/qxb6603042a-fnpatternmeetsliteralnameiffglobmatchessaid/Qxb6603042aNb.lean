/- Walks: Tokens. -/
import Derived.Test.Qxb6603042aMc
import Derived.Test.Qxb6603042aNa
namespace Go.Proofs.Qxb6603042a.M
open Go.RowKit
set_option linter.unusedVariables false

theorem info3 : (Try.prog.info? 3).map (fun i => (i.zero, i.size, i.bytes)) = some (some (.int .i64 0), 1, 8) := by kernel_rfl

theorem two_yes_at (B : ByteArray) (k : Nat) (hk : k + 1 < B.size) (h1 : B[k] = 42) (h2 : B[k + 1] = 42) : two ((bs B).drop k) = true := by
  rw [drop_step B k (by omega), drop_step B (k + 1) hk, h1, h2]
  simp [two]
theorem two_no_at (B : ByteArray) (k : Nat) (hk : k + 1 < B.size) (h2 : B[k + 1] ≠ 42) : two ((bs B).drop k) = false := by
  rw [drop_step B k (by omega), drop_step B (k + 1) hk]
  simp [two, h2]
theorem two_no_end (B : ByteArray) (k : Nat) (hk : k < B.size) (h2 : ¬ k + 1 < B.size) : two ((bs B).drop k) = false := by
  rw [drop_step B k hk, List.drop_eq_nil_of_le (by rw [bs_length]; omega)]
  simp [two]

def Toks (s : ByteArray) (w : World) (e : Ending) (w' : World) : Prop :=
  ∃ g c, e = .returned (.slice (some ⟨g, 0, none⟩) (GP.tok (bs s)).length c) ∧ w'.ownsRow w.heap.size 3 1 (.slice (some ⟨g, 0, none⟩) (GP.tok (bs s)).length c) (GP.tok (bs s)).length (cI (GP.tok (bs s))) ∧ Below w.heap.size w w'

set_option maxHeartbeats 1000000 in
theorem tokens_any (s : ByteArray) (w : World) (hs : s.size ≤ 70000) :
    Calls Try.prog 22 #[.string s] w fun e w' => Toks s w e w' := by
  obtain ⟨i3, hi, hz0, hz1, hz2⟩ := info_parts info3
  have tok0 : True := trivial
  go_enter Try.func22, Try.ntmps22
  go_wp2_with (at_make; have _t := tok0; refine wpList_make_own _ rfl _ _ 29 rfl w.heap.size 3 i3 (.int .i64 0) 1 Try.underlying29 hi hz0 hz1 .i64 .i64 _ s.size rfl rfl (by omega) (by rw [hz2]; omega) (by unfold maxLen; omega) (by simp) ?_; intro W5 own5 gr5; have HO5 := hid_of own5; have HG5 : Hid (Below w.heap.size w W5) := (Below.refl _ _).grown gr5 (by simp) (fun k hk => by cases hk); clear own5 gr5 tok0)
  go_loopw [3, 4] (fun o t wr => ∃ (k : Nat) (xs : List Int), k ≤ s.size ∧ xs.length ≤ k ∧ t = .int .i64 k ∧ o = .slice (some ⟨w.heap.size, 0, none⟩) xs.length s.size ∧ Hid (xs ++ GP.tok ((bs s).drop k) = GP.tok (bs s)) ∧ Hid (wr.ownsRow w.heap.size 3 1 (.slice (some ⟨w.heap.size, 0, none⟩) xs.length s.size) xs.length (cI xs)) ∧ Hid (Below w.heap.size w wr)) (fun _ t _ => s.size - (intOf t).toNat)
  case atStart => exact ⟨0, [], Nat.zero_le _, Nat.zero_le _, rfl, rfl, rfl, HO5, HG5⟩
  case round =>
    obtain ⟨k, xs, hk, hxl, rfl, rfl, HE, HO3, HB3⟩ := hrel
    clear HO5 HG5
    by_cases hlt : k < s.size
    · have tok1 : True := trivial
      by_cases h42 : s[k] = 42
      · have hb : ((s[k].toNat : Int) == 42) = true := by rw [h42]; rfl
        by_cases hl2 : k + 1 < s.size
        · have hlI : (k : Int) + 1 < (s.size : Int) := by omega
          by_cases h43 : s[k + 1] = 42
          · have hb2 : ((s[k + 1].toNat : Int) == 42) = true := by rw [h43]; rfl
            obtain ⟨hk2, ht⟩ := tok_at_two s k (two_yes_at s k hl2 h42 h43)
            have HT : Hid ((xs ++ [257]) ++ GP.tok ((bs s).drop (k + 2)) = GP.tok (bs s)) := by unfold Hid; rw [List.append_assoc, List.singleton_append, ← ht]; exact HE.out
            clear ht h42 h43 HE
            go_wp2_with (at_builtin; have _t := tok1; refine wpList_append_fits (wr.alloc (.cells #[.int .i64 257] 3)) rfl _ _ 29 rfl w.heap.size 3 i3 1 Try.underlying29 hi hz1 w.heap.size xs.length s.size _ rfl (HO3.out.alloc _) ⟨wr.heap.size, 0, none⟩ 1 1 [.int .i64 257] rfl rfl (cell_one_new _ _ _) (by simp [Value.oneCell']) (by omega) ?_; intro W6 own6 gr6; have HO6 := hid_of own6; have HB6 : Hid (Below w.heap.size w W6) := (HB3.out.alloc (HB3.out.size) _).grown gr6 (by have := HB3.out.size; simp at this ⊢; omega) (fun k hk => by simp at hk; omega); clear own6 gr6 tok1 HO3 HB3)
            go_roundw
            case rel => exact ⟨k + 2, xs ++ [257], by omega, by simp; omega, by go_num, by simp, HT, by unfold Hid; simpa [cI] using HO6.out, HB6⟩
            case measure => simp [intOf]; omega
          · have hb2 : ((s[k + 1].toNat : Int) == 42) = false := by rw [show (42 : Int) = ((42 : UInt8).toNat : Int) from rfl, byte_eq]; simpa using h43
            have ht := tok_at_one s k hlt (two_no_at s k hl2 h43) h42
            have HT : Hid ((xs ++ [256]) ++ GP.tok ((bs s).drop (k + 1)) = GP.tok (bs s)) := by unfold Hid; rw [List.append_assoc, List.singleton_append, ← ht]; exact HE.out
            clear ht h42 h43 HE
            go_wp2_with (at_builtin; have _t := tok1; refine wpList_append_fits (wr.alloc (.cells #[.int .i64 256] 3)) rfl _ _ 29 rfl w.heap.size 3 i3 1 Try.underlying29 hi hz1 w.heap.size xs.length s.size _ rfl (HO3.out.alloc _) ⟨wr.heap.size, 0, none⟩ 1 1 [.int .i64 256] rfl rfl (cell_one_new _ _ _) (by simp [Value.oneCell']) (by omega) ?_; intro W6 own6 gr6; have HO6 := hid_of own6; have HB6 : Hid (Below w.heap.size w W6) := (HB3.out.alloc (HB3.out.size) _).grown gr6 (by have := HB3.out.size; simp at this ⊢; omega) (fun k hk => by simp at hk; omega); clear own6 gr6 tok1 HO3 HB3)
            go_roundw
            case rel => exact ⟨k + 1, xs ++ [256], by omega, by simp; omega, by go_num, by simp, HT, by unfold Hid; simpa [cI] using HO6.out, HB6⟩
            case measure => simp [intOf]; omega
        · have hlI : ¬ (k : Int) + 1 < (s.size : Int) := by omega
          have ht := tok_at_one s k hlt (two_no_end s k hlt hl2) h42
          have HT : Hid ((xs ++ [256]) ++ GP.tok ((bs s).drop (k + 1)) = GP.tok (bs s)) := by unfold Hid; rw [List.append_assoc, List.singleton_append, ← ht]; exact HE.out
          clear ht h42 HE
          go_wp2_with (at_builtin; have _t := tok1; refine wpList_append_fits (wr.alloc (.cells #[.int .i64 256] 3)) rfl _ _ 29 rfl w.heap.size 3 i3 1 Try.underlying29 hi hz1 w.heap.size xs.length s.size _ rfl (HO3.out.alloc _) ⟨wr.heap.size, 0, none⟩ 1 1 [.int .i64 256] rfl rfl (cell_one_new _ _ _) (by simp [Value.oneCell']) (by omega) ?_; intro W6 own6 gr6; have HO6 := hid_of own6; have HB6 : Hid (Below w.heap.size w W6) := (HB3.out.alloc (HB3.out.size) _).grown gr6 (by have := HB3.out.size; simp at this ⊢; omega) (fun k hk => by simp at hk; omega); clear own6 gr6 tok1 HO3 HB3)
          go_roundw
          case rel => exact ⟨k + 1, xs ++ [256], by omega, by simp; omega, by go_num, by simp, HT, by unfold Hid; simpa [cI] using HO6.out, HB6⟩
          case measure => simp [intOf]; omega
      · have hb : ((s[k].toNat : Int) == 42) = false := by rw [show (42 : Int) = ((42 : UInt8).toNat : Int) from rfl, byte_eq]; simpa using h42
        have ht := tok_at_lit s k hlt h42
        have HT : Hid ((xs ++ [(s[k].toNat : Int)]) ++ GP.tok ((bs s).drop (k + 1)) = GP.tok (bs s)) := by unfold Hid; rw [List.append_assoc, List.singleton_append, ← ht]; exact HE.out
        have hwr : IntKind.i64.wrap (s[k].toNat : Int) = (s[k].toNat : Int) := by rw [IntKind.wrap_i64]; have := s[k].toNat_lt; omega
        clear ht h42 HE
        go_wp2_with (at_builtin; have _t := tok1; refine wpList_append_fits (wr.alloc (.cells #[.int .i64 (s[k].toNat : Int)] 3)) rfl _ _ 29 rfl w.heap.size 3 i3 1 Try.underlying29 hi hz1 w.heap.size xs.length s.size _ rfl (HO3.out.alloc _) ⟨wr.heap.size, 0, none⟩ 1 1 [.int .i64 (s[k].toNat : Int)] rfl rfl (cell_one_new _ _ _) (by simp [Value.oneCell']) (by omega) ?_; intro W6 own6 gr6; have HO6 := hid_of own6; have HB6 : Hid (Below w.heap.size w W6) := (HB3.out.alloc (HB3.out.size) _).grown gr6 (by have := HB3.out.size; simp at this ⊢; omega) (fun k hk => by simp at hk; omega); clear own6 gr6 tok1 HO3 HB3)
        go_roundw
        case rel => exact ⟨k + 1, xs ++ [(s[k].toNat : Int)], by omega, by simp; omega, by go_num, by simp, HT, by unfold Hid; simpa [cI] using HO6.out, HB6⟩
        case measure => simp [intOf]; omega
    · have HX : Hid (xs = GP.tok (bs s)) := by
        have h := HE.out
        rw [tok_at_end s k (by omega), List.append_nil] at h
        exact h
      clear HE
      go_wp2_with fail
      go_ret
      have hX := HX.out
      subst hX
      exact ⟨_, _, rfl, HO3.out, HB3.out⟩
end Go.Proofs.Qxb6603042a.M
