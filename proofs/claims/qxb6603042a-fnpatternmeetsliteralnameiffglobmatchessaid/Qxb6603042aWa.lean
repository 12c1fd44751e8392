/- Walks: strings.HasSuffix at a slash, strings.IndexByte at a star, strings.HasPrefix at two stars. -/
import Derived.Test.Qxb6603042aRows
import Derived.Test.Qxb6603042aPlain
import Derived.WalkKit
import Derived.WalkSpells
import Derived.WalkLawsBesides
import Derived.Lib.Bytealg
import Derived.Deep.QuietTactic
import Derived.BigQuiet
import Derived.Deep.AppendLies
import Derived.Deep.RegionHeld3
import Derived.Deep.OwnRows
namespace Go.Proofs.Qxb6603042a
open Go.RowKit

theorem ret_int {k : IntKind} {a b : Int} (h : a = b) : Ending.returned (.int k a) = .returned (.int k b) := by rw [h]
theorem ret_bool {a b : Bool} (h : a = b) : Ending.returned (.bool a) = .returned (.bool b) := by rw [h]
theorem hid_of {p : Prop} (h : p) : Hid p := h

def mk (l : List UInt8) : ByteArray := ⟨l.toArray⟩
def bs (s : ByteArray) : List UInt8 := s.data.toList
theorem mk_bs (s : ByteArray) : mk (bs s) = s := by obtain ⟨⟨l⟩⟩ := s; rfl
theorem bs_mk (l : List UInt8) : bs (mk l) = l := rfl
theorem mk_size (l : List UInt8) : (mk l).size = l.length := rfl
theorem bs_length (s : ByteArray) : (bs s).length = s.size := by obtain ⟨⟨l⟩⟩ := s; rfl
theorem toList_bs (s : ByteArray) : s.toList = bs s := Lib.toList_data s
theorem extract_mk' (s : ByteArray) (a b : Nat) : s.extract a b = mk (((bs s).drop a).take (b - a)) := Lib.extract_eq s a b
theorem extract_end (s : ByteArray) (a : Nat) : s.extract a s.size = mk ((bs s).drop a) := by
  rw [extract_mk', List.take_of_length_le (by rw [List.length_drop, bs_length]; omega)]
theorem extract_start (s : ByteArray) (b : Nat) : s.extract 0 b = mk ((bs s).take b) := by
  rw [extract_mk', List.drop_zero, Nat.sub_zero]
theorem get_bs (T : ByteArray) (k : Nat) (h : k < T.size) : (bs T)[k]'(by rw [bs_length]; exact h) = T[k] := rfl
theorem drop_step (T : ByteArray) (k : Nat) (h : k < T.size) : (bs T).drop k = T[k] :: (bs T).drop (k + 1) := by
  rw [List.drop_eq_getElem_cons (by rw [bs_length]; exact h)]; rfl
theorem byte_eq (c d : UInt8) : ((c.toNat : Int) == (d.toNat : Int)) = decide (c = d) := by
  rw [Bool.eq_iff_iff]
  simp only [beq_iff_eq, decide_eq_true_eq]
  constructor
  · intro e; apply UInt8.toNat_inj.1; omega
  · intro e; rw [e]

theorem drop_last1 (l : List UInt8) (h : 0 < l.length) : l.drop (l.length - 1) = [l.getLast (List.length_pos_iff.1 h)] := by
  have hne := List.length_pos_iff.1 h
  conv => lhs; rw [← List.dropLast_concat_getLast hne]
  rw [List.length_append, List.length_dropLast]
  simp

theorem dir_test (s : ByteArray) (h : 1 ≤ s.size) : ((s.extract (s.size - 1) s.size).toList == [47]) = GP.isDir (bs s) := by
  have hl : 0 < (bs s).length := by rw [bs_length]; omega
  rw [extract_end, toList_bs, bs_mk, ← bs_length, drop_last1 _ hl, GP.isDir, List.getLast?_eq_some_getLast (List.length_pos_iff.1 hl)]
  rw [Bool.eq_iff_iff]
  simp

set_option maxHeartbeats 400000 in
theorem slHasSuffix_any (s : ByteArray) (w : World) (hs : s.size ≤ 4000000) :
    Calls Try.prog 23 #[.string s, .string { data := #[47] }] w fun e w' => e = .returned (.bool (GP.isDir (bs s))) ∧ w' = w := by
  by_cases h : 1 ≤ s.size
  · have ht := dir_test s h
    go_enter Try.func23, Try.ntmps23
    go_wp2
    go_ret
    exact ⟨rfl, rfl⟩
  · have hb : bs s = [] := List.eq_nil_of_length_eq_zero (by rw [bs_length]; omega)
    have HC : Hid (GP.isDir (bs s) = false) := by rw [hb]; rfl
    clear hb
    go_enter Try.func23, Try.ntmps23
    go_wp2
    go_ret
    exact ⟨ret_bool HC.out.symm, rfl⟩

set_option maxHeartbeats 400000 in
theorem hasSuffix_any (s : ByteArray) (w : World) (hs : s.size ≤ 4000000) :
    Calls Try.prog 17 #[.string s, .string { data := #[47] }] w fun e w' => e = .returned (.bool (GP.isDir (bs s))) ∧ w' = w := by
  go_enter Try.func17, Try.ntmps17
  go_wp2_with (go_at_call 23; refine (slHasSuffix_any _ _ hs).mono ?_; rintro e w' ⟨rfl, rfl⟩)
  go_ret
  exact ⟨rfl, rfl⟩

/-- Two stars ahead? -/
def two (l : List UInt8) : Bool := l.take 2 == [42, 42]

theorem two_test (s : ByteArray) : ((s.extract 0 2).toList == [42, 42]) = two (bs s) := by
  rw [extract_start, toList_bs, bs_mk]; rfl

set_option maxHeartbeats 400000 in
theorem slHasPrefix_any (s : ByteArray) (w : World) (hs : s.size ≤ 4000000) :
    Calls Try.prog 25 #[.string s, .string { data := #[42, 42] }] w fun e w' => e = .returned (.bool (two (bs s))) ∧ w' = w := by
  by_cases h : 2 ≤ s.size
  · have ht := two_test s
    go_enter Try.func25, Try.ntmps25
    go_wp2
    go_ret
    exact ⟨rfl, rfl⟩
  · have HC : Hid (two (bs s) = false) := by
      unfold Hid two
      have hl : (bs s).length < 2 := by rw [bs_length]; omega
      cases hb : bs s with
      | nil => rfl
      | cons c t =>
        cases t with
        | nil => simp
        | cons d r => rw [hb] at hl; simp at hl; omega
    go_enter Try.func25, Try.ntmps25
    go_wp2
    go_ret
    exact ⟨ret_bool HC.out.symm, rfl⟩

set_option maxHeartbeats 400000 in
theorem hasPrefix_any (s : ByteArray) (w : World) (hs : s.size ≤ 4000000) :
    Calls Try.prog 19 #[.string s, .string { data := #[42, 42] }] w fun e w' => e = .returned (.bool (two (bs s))) ∧ w' = w := by
  go_enter Try.func19, Try.ntmps19
  go_wp2_with (go_at_call 25; refine (slHasPrefix_any _ _ hs).mono ?_; rintro e w' ⟨rfl, rfl⟩)
  go_ret
  exact ⟨rfl, rfl⟩

set_option maxHeartbeats 400000 in
theorem slIndexByte_any (s : ByteArray) (c : Int) (w : World) :
    Calls Try.prog 24 #[.string s, .int .u8 c] w fun e w' => e = .returned (.int .i64 (Lib.indexByte s.data.toList c.toNat.toUInt8)) ∧ w' = w := by
  go_enter Try.func24, Try.ntmps24
  go_wp2
  rw [run_callFunc_extern Try.func31 (by kernel_rfl) (by kernel_rfl) (by kernel_rfl) (e := Extern.BytealgIndexByte.indexByte) (by kernel_rfl), Lib.run_indexByteString]
  simp only [Result.andThen]
  rw [Oper.upon_value]
  go_wp2
  go_ret
  exact ⟨rfl, rfl⟩

/-- The first star's place as Go tells it. -/
def litI (l : List UInt8) : Int := if GP.lit l < l.length then (GP.lit l : Int) else -1

theorem indexByte_lit : ∀ l : List UInt8, Lib.indexByte l 42 = litI l
  | [] => rfl
  | c :: t => by
    have ih := indexByte_lit t
    unfold Lib.indexByte litI
    rw [ih]
    by_cases hc : c = 42
    · subst hc; simp [GP.lit]
    · have hb : (c == 42) = false := by simpa using hc
      simp only [GP.lit, hc, hb, if_false, Bool.false_eq_true, List.length_cons]
      by_cases hl : GP.lit t < t.length
      · have e1 : litI t = (GP.lit t : Int) := by unfold litI; rw [if_pos hl]
        have : ((GP.lit t : Int) == -1) = false := by simp
        rw [e1, this, if_pos (show GP.lit t + 1 < t.length + 1 by omega)]; simp
      · have e1 : litI t = -1 := by unfold litI; rw [if_neg hl]
        rw [e1, if_neg (show ¬ GP.lit t + 1 < t.length + 1 by omega)]; rfl

set_option maxHeartbeats 400000 in
theorem indexStar_any (s : ByteArray) (w : World) :
    Calls Try.prog 18 #[.string s, .int .u8 42] w fun e w' => e = .returned (.int .i64 (litI (bs s))) ∧ w' = w := by
  have HE : Hid (Lib.indexByte s.data.toList (42 : Int).toNat.toUInt8 = litI (bs s)) := indexByte_lit (bs s)
  go_enter Try.func18, Try.ntmps18
  go_wp2_with (go_at_call 24; refine (slIndexByte_any _ _ _).mono ?_; rintro e w' ⟨rfl, rfl⟩; rw [HE.out])
  go_ret
  exact ⟨rfl, rfl⟩

end Go.Proofs.Qxb6603042a
