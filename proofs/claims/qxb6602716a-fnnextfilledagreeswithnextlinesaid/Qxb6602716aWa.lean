/- Walks: strings.IndexByte, strings.TrimSuffix at a carriage return. -/
import Derived.Test.Qxb6602716aRows
import Derived.Test.Qxb6602716aPlain
import Derived.WalkKit
import Derived.WalkSpells
import Derived.WalkLawsBesides
import Derived.Lib.Bytealg
import Derived.Deep.QuietTactic
import Derived.BigQuiet
namespace Go.Proofs.Qxb6602716a
open Go.RowKit

theorem ret_int {k : IntKind} {a b : Int} (h : a = b) : Ending.returned (.int k a) = .returned (.int k b) := by rw [h]
theorem ret_bool {a b : Bool} (h : a = b) : Ending.returned (.bool a) = .returned (.bool b) := by rw [h]
theorem ret_str {a b : ByteArray} (h : a = b) : Ending.returned (.string a) = .returned (.string b) := by rw [h]
theorem hid_of {p : Prop} (h : p) : Hid p := h

/-- A text out of a list. -/
def mk (l : List UInt8) : ByteArray := ⟨l.toArray⟩
/-- A text's bytes. -/
def bs (s : ByteArray) : List UInt8 := s.data.toList

theorem mk_bs (s : ByteArray) : mk (bs s) = s := by obtain ⟨⟨l⟩⟩ := s; rfl
theorem bs_mk (l : List UInt8) : bs (mk l) = l := rfl
theorem mk_size (l : List UInt8) : (mk l).size = l.length := rfl
theorem bs_length (s : ByteArray) : (bs s).length = s.size := by obtain ⟨⟨l⟩⟩ := s; rfl
theorem toList_bs (s : ByteArray) : s.toList = bs s := Lib.toList_data s
theorem mk_inj {a b : List UInt8} (h : mk a = mk b) : a = b := by have := congrArg bs h; exact this
theorem extract_mk' (s : ByteArray) (a b : Nat) : s.extract a b = mk (((bs s).drop a).take (b - a)) := Lib.extract_eq s a b
theorem extract_end (s : ByteArray) (a : Nat) : s.extract a s.size = mk ((bs s).drop a) := by
  rw [extract_mk', List.take_of_length_le (by rw [List.length_drop, bs_length]; omega)]
theorem extract_start (s : ByteArray) (b : Nat) : s.extract 0 b = mk ((bs s).take b) := by
  rw [extract_mk', List.drop_zero, Nat.sub_zero]

/-- Does a text end in a carriage return? -/
def cr (l : List UInt8) : Bool := decide (l.getLast? = some 13)

theorem drop_last1 (l : List UInt8) (h : 0 < l.length) : l.drop (l.length - 1) = [l.getLast (List.length_pos_iff.1 h)] := by
  have hne := List.length_pos_iff.1 h
  conv => lhs; rw [← List.dropLast_concat_getLast hne]
  rw [List.length_append, List.length_dropLast]
  simp

theorem cr_test (s : ByteArray) (h : 1 ≤ s.size) : ((s.extract (s.size - 1) s.size).toList == [13]) = cr (bs s) := by
  have hl : 0 < (bs s).length := by rw [bs_length]; omega
  rw [extract_end, toList_bs, bs_mk, ← bs_length, drop_last1 _ hl, cr, List.getLast?_eq_some_getLast (List.length_pos_iff.1 hl)]
  show ([_] == [(13 : UInt8)]) = _
  rw [Bool.eq_iff_iff]
  simp

set_option maxHeartbeats 400000 in
theorem hasSuffix_any (s : ByteArray) (w : World) (hs : s.size ≤ 4000000) :
    Calls Try.prog 30 #[.string s, .string { data := #[13] }] w fun e w' => e = .returned (.bool (cr (bs s))) ∧ w' = w := by
  by_cases h : 1 ≤ s.size
  · have ht := cr_test s h
    go_enter Try.func30, Try.ntmps30
    go_wp2
    go_ret
    exact ⟨rfl, rfl⟩
  · have hb : bs s = [] := List.eq_nil_of_length_eq_zero (by rw [bs_length]; omega)
    have HC : Hid (cr (bs s) = false) := by rw [hb]; rfl
    clear hb
    go_enter Try.func30, Try.ntmps30
    go_wp2
    go_ret
    exact ⟨ret_bool HC.out.symm, rfl⟩

theorem trim_yes (s : ByteArray) (h : cr (bs s) = true) : mk (CL.trim (bs s)) = s.extract 0 (s.size - 1) := by
  rw [extract_start, CL.trim, if_pos (of_decide_eq_true h), List.dropLast_eq_take, bs_length]
theorem trim_no (s : ByteArray) (h : cr (bs s) = false) : mk (CL.trim (bs s)) = s := by
  rw [CL.trim, if_neg (of_decide_eq_false h), mk_bs]
theorem cr_pos (s : ByteArray) (h : cr (bs s) = true) : 1 ≤ s.size := by
  rcases Nat.lt_or_ge 0 s.size with h1 | h1
  · exact h1
  · have hb : bs s = [] := List.eq_nil_of_length_eq_zero (by rw [bs_length]; omega)
    rw [hb] at h; exact absurd h (by decide)

set_option maxHeartbeats 400000 in
theorem slTrimSuffix_any (s : ByteArray) (w : World) (hs : s.size ≤ 4000000) :
    Calls Try.prog 28 #[.string s, .string { data := #[13] }] w fun e w' => e = .returned (.string (mk (CL.trim (bs s)))) ∧ w' = w := by
  cases hc : cr (bs s) with
  | true =>
    have HT : Hid (mk (CL.trim (bs s)) = s.extract 0 (s.size - 1)) := trim_yes s hc
    have hp := cr_pos s hc
    have HC : Hid (cr (bs s) = true) := hc
    clear hc
    go_enter Try.func28, Try.ntmps28
    go_wp2_with (go_at_call 30; refine (hasSuffix_any _ _ hs).mono ?_; rintro e w' ⟨rfl, rfl⟩; rw [HC.out])
    go_ret
    exact ⟨ret_str HT.out.symm, rfl⟩
  | false =>
    have HT : Hid (mk (CL.trim (bs s)) = s) := trim_no s hc
    have HC : Hid (cr (bs s) = false) := hc
    clear hc
    go_enter Try.func28, Try.ntmps28
    go_wp2_with (go_at_call 30; refine (hasSuffix_any _ _ hs).mono ?_; rintro e w' ⟨rfl, rfl⟩; rw [HC.out])
    go_ret
    exact ⟨ret_str HT.out.symm, rfl⟩

set_option maxHeartbeats 400000 in
theorem trimSuffix_any (s : ByteArray) (w : World) (hs : s.size ≤ 4000000) :
    Calls Try.prog 26 #[.string s, .string { data := #[13] }] w fun e w' => e = .returned (.string (mk (CL.trim (bs s)))) ∧ w' = w := by
  go_enter Try.func26, Try.ntmps26
  go_wp2_with (go_at_call 28; refine (slTrimSuffix_any _ _ hs).mono ?_; rintro e w' ⟨rfl, rfl⟩)
  go_ret
  exact ⟨rfl, rfl⟩

set_option maxHeartbeats 400000 in
theorem slIndexByte_any (s : ByteArray) (c : Int) (w : World) :
    Calls Try.prog 27 #[.string s, .int .u8 c] w fun e w' => e = .returned (.int .i64 (Lib.indexByte s.data.toList c.toNat.toUInt8)) ∧ w' = w := by
  go_enter Try.func27, Try.ntmps27
  go_wp2
  rw [run_callFunc_extern Try.func29 (by kernel_rfl) (by kernel_rfl) (by kernel_rfl) (e := Extern.BytealgIndexByte.indexByte) (by kernel_rfl), Lib.run_indexByteString]
  simp only [Result.andThen]
  rw [Oper.upon_value]
  go_wp2
  go_ret
  exact ⟨rfl, rfl⟩

/-- A line feed's place as Go tells it. -/
def fdI (l : List UInt8) : Int := match CL.fd l with | none => -1 | some e => (e : Int)

theorem indexByte_fd : ∀ l : List UInt8, Lib.indexByte l 10 = fdI l
  | [] => rfl
  | c :: t => by
    have ih := indexByte_fd t
    unfold Lib.indexByte fdI
    rw [ih, CL.fd]
    by_cases hc : (c == 10) = true
    · rw [if_pos hc, if_pos hc]; rfl
    · rw [if_neg hc, if_neg hc]
      unfold fdI
      cases CL.fd t with
      | none => rfl
      | some e =>
        have : ((e : Int) == -1) = false := by simp
        simp only [Option.map_some, this]
        simp

set_option maxHeartbeats 400000 in
theorem indexFeed_any (s : ByteArray) (w : World) :
    Calls Try.prog 25 #[.string s, .int .u8 10] w fun e w' => e = .returned (.int .i64 (fdI (bs s))) ∧ w' = w := by
  have HE : Hid (Lib.indexByte s.data.toList (10 : Int).toNat.toUInt8 = fdI (bs s)) := indexByte_fd (bs s)
  go_enter Try.func25, Try.ntmps25
  go_wp2_with (go_at_call 27; refine (slIndexByte_any _ _ _).mono ?_; rintro e w' ⟨rfl, rfl⟩; rw [HE.out])
  go_ret
  exact ⟨rfl, rfl⟩

end Go.Proofs.Qxb6602716a
