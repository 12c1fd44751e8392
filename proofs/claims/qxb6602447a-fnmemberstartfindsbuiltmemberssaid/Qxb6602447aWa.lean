/- Walks of the reading functions of package jsonfields. -/
import Derived.Test.Qxb6602447aRows
import Derived.Test.Qxb6602447aPlain
import Derived.WalkKit
import Derived.WalkSpells
import Derived.WalkLawsBesides
namespace Go.Proofs.Qxb6602447a
open Go.RowKit

/-- A quote or a backslash in a text, as a Bool. -/
def dirty (l : List UInt8) : Bool := l.any fun c => c == 34 || c == 92

theorem take_snoc (s : ByteArray) (k : Nat) (h : k < s.size) : s.data.toList.take (k + 1) = s.data.toList.take k ++ [s[k]] := by
  rw [List.take_succ_eq_append_getElem (by simpa using h)]; rfl

theorem ret_int {k : IntKind} {a b : Int} (h : a = b) : Ending.returned (.int k a) = .returned (.int k b) := by rw [h]
theorem ret_bool {a b : Bool} (h : a = b) : Ending.returned (.bool a) = .returned (.bool b) := by rw [h]

theorem byte_eq (c : UInt8) (n : Nat) (hn : n < 256) : (c == UInt8.ofNat n) = decide ((c.toNat : Int) = (n : Int)) := by
  rw [Bool.eq_iff_iff]
  simp only [beq_iff_eq, decide_eq_true_eq]
  constructor
  · intro h; subst h; simp; omega
  · intro h; apply UInt8.toNat_inj.1; simp; omega

theorem dirty_hit (s : ByteArray) (k : Nat) (hk : k < s.size) (h : (s[k].toNat : Int) = 34 ∨ (s[k].toNat : Int) = 92) : dirty s.data.toList = true := by
  unfold dirty
  rw [List.any_eq_true]
  refine ⟨s[k], ?_, ?_⟩
  · exact List.getElem_mem (l := s.data.toList) (by simpa using hk)
  · have e1 := byte_eq s[k] 34 (by omega)
    have e2 := byte_eq s[k] 92 (by omega)
    change (s[k] == 34) = _ at e1
    change (s[k] == 92) = _ at e2
    rw [e1, e2]
    simpa using h

theorem dirty_step (s : ByteArray) (k : Nat) (hk : k < s.size) (h0 : dirty (s.data.toList.take k) = false) (h1 : ¬ (s[k].toNat : Int) = 34) (h2 : ¬ (s[k].toNat : Int) = 92) : dirty (s.data.toList.take (k + 1)) = false := by
  rw [take_snoc s k hk]
  unfold dirty at h0 ⊢
  rw [List.any_append, h0]
  have e1 := byte_eq s[k] 34 (by omega)
  have e2 := byte_eq s[k] 92 (by omega)
  change (s[k] == 34) = _ at e1
  change (s[k] == 92) = _ at e2
  simp [e1, e2, h1, h2]

set_option maxHeartbeats 400000 in
theorem dirty_any (s : ByteArray) (w : World) (hs : s.size ≤ maxLen) :
    Calls Try.prog 19 #[.string s] w fun e w' => e = .returned (.bool (dirty s.data.toList)) ∧ w' = w := by
  unfold maxLen at hs
  go_enter Try.func19, Try.ntmps19
  go_wp2
  go_loop [3] (fun i => ∃ k : Nat, k ≤ s.size ∧ i = .int .i64 k ∧ dirty (s.data.toList.take k) = false) (fun i => s.size - (intOf i).toNat)
  case atStart => exact ⟨0, Nat.zero_le _, rfl, by simp [dirty]⟩
  case round =>
    obtain ⟨k, hk, rfl, hd⟩ := hrel
    have HD : Hid (dirty (s.data.toList.take k) = false) := hd
    clear hd
    by_cases hlt : k < s.size
    · by_cases h1 : (s[k].toNat : Int) = 34
      · have HH : Hid (dirty s.data.toList = true) := dirty_hit s k hlt (.inl h1)
        go_wp2
        go_ret
        exact ⟨ret_bool HH.out.symm, rfl⟩
      · by_cases h2 : (s[k].toNat : Int) = 92
        · have HH : Hid (dirty s.data.toList = true) := dirty_hit s k hlt (.inr h2)
          go_wp2
          go_ret
          exact ⟨ret_bool HH.out.symm, rfl⟩
        · have HH : Hid (dirty (s.data.toList.take (k + 1)) = false) := dirty_step s k hlt HD.out h1 h2
          have b1 : ((s[k].toNat : Int) == 34) = false := by simpa using h1
          have b2 : ((s[k].toNat : Int) == 92) = false := by simpa using h2
          clear h1 h2
          go_wp2
          go_round
          case rel => exact ⟨k + 1, by omega, by go_num, HH.out⟩
          case measure => simp [intOf]; omega
    · go_wp2
      go_ret
      have := HD.out
      rw [List.take_of_length_le (by simp; omega)] at this
      exact ⟨ret_bool this.symm, rfl⟩

/-- A row of bytes in memory. -/
def Row (w : World) (b o : Nat) (zs : List Int) : Prop := ∀ i, i < zs.length → w.cell? ⟨b, o + i, none⟩ = some (.int .u8 (zs.getD i 0))

theorem skip_in (d : List Int) (i : Nat) (h : i < d.length) (hs : JF.sp (d.getD i 0) = true) : JF.skip (d.drop i) = JF.skip (d.drop (i + 1)) + 1 := by
  rw [List.drop_eq_getElem_cons h, JF.skip, if_pos (by simpa [List.getD, List.getElem?_eq_getElem h] using hs)]
theorem skip_out (d : List Int) (i : Nat) (h : i < d.length) (hs : JF.sp (d.getD i 0) = false) : JF.skip (d.drop i) = 0 := by
  rw [List.drop_eq_getElem_cons h, JF.skip, if_neg (by simpa [List.getD, List.getElem?_eq_getElem h] using hs)]
theorem skip_end (d : List Int) (i : Nat) (h : d.length ≤ i) : JF.skip (d.drop i) = 0 := by
  rw [List.drop_eq_nil_of_le h, JF.skip]

theorem sp_cases {c : Int} (h : JF.sp c = true) : c = 32 ∨ c = 9 ∨ c = 13 ∨ c = 10 := by simpa [JF.sp, or_assoc] using h
theorem sp_not {c : Int} (h : JF.sp c = false) : (c == 32) = false ∧ (c == 9) = false ∧ (c == 13) = false ∧ (c == 10) = false := by
  simpa [JF.sp, and_assoc] using h

set_option maxHeartbeats 400000 in
theorem space_any (b o cap : Nat) (d : List Int) (i0 : Int) (w : World) (hr : Row w b o d) (h0 : 0 ≤ i0) (h1 : i0 ≤ d.length) (hm : d.length ≤ 4000000) :
    Calls Try.prog 30 #[.slice (some ⟨b, o, none⟩) d.length cap, .int .i64 i0] w fun e w' => e = .returned (.int .i64 (i0 + JF.skip (d.drop i0.toNat))) ∧ w' = w := by
  obtain ⟨i, rfl⟩ := Int.eq_ofNat_of_zero_le h0
  rw [Int.toNat_natCast]
  go_enter Try.func30, Try.ntmps30
  go_wp2
  go_loop [1] (fun t => ∃ k : Nat, k ≤ d.length ∧ t = .int .i64 k ∧ k + JF.skip (d.drop k) = i + JF.skip (d.drop i)) (fun t => d.length - (intOf t).toNat)
  case atStart => exact ⟨i, by omega, rfl, rfl⟩
  case round =>
    obtain ⟨k, hk, rfl, hd⟩ := hrel
    have HD : Hid (k + JF.skip (d.drop k) = i + JF.skip (d.drop i)) := hd
    clear hd
    by_cases hlt : k < d.length
    · have hc := hr k hlt
      clear hr
      cases hs : JF.sp (d.getD k 0) with
      | false =>
        have HS : Hid (JF.skip (d.drop k) = 0) := skip_out d k hlt hs
        generalize d.getD k 0 = c at hc hs
        obtain ⟨n1, n2, n3, n4⟩ := sp_not hs
        clear hs
        by_cases hle : c ≤ 32
        all_goals
          go_wp2
          go_ret
          have h1 := HD.out
          have h2 := HS.out
          exact ⟨ret_int (by omega), rfl⟩
      | true =>
        have HS : Hid (JF.skip (d.drop k) = JF.skip (d.drop (k + 1)) + 1) := skip_in d k hlt hs
        generalize d.getD k 0 = c at hc hs
        have hcs := sp_cases hs
        clear hs
        rcases hcs with rfl | rfl | rfl | rfl
        all_goals
          go_wp2
          go_round
          case rel => exact ⟨k + 1, by omega, by go_num, by have h1 := HD.out; have h2 := HS.out; omega⟩
          case measure => simp [intOf]; omega
    · go_wp2
      go_ret
      have := HD.out
      rw [skip_end d k (by omega)] at this
      exact ⟨ret_int (by omega), rfl⟩

theorem getD_get (d : List Int) (i : Nat) (h : i < d.length) : d.getD i 0 = d[i] := by simp [List.getD, List.getElem?_eq_getElem h]

theorem ans_succ (k : Nat) (o : Option Nat) : JF.ans (k + 1) o = JF.ans k (o.map (· + 1)) := by
  cases o with
  | none => rfl
  | some a => simp only [JF.ans, Option.map_some]; omega

theorem strE_quote (d : List Int) (k : Nat) (h : k < d.length) (hc : d.getD k 0 = 34) : JF.ans k (JF.strE (d.drop k) false) = (k : Int) + 1 := by
  rw [List.drop_eq_getElem_cons h, ← getD_get d k h, hc]; simp [JF.strE, JF.ans]
theorem strE_back (d : List Int) (k : Nat) (h : k < d.length) (hc : d.getD k 0 = 92) : JF.ans k (JF.strE (d.drop k) false) = JF.ans (k + 2) (JF.strE (d.drop (k + 2)) false) := by
  rw [List.drop_eq_getElem_cons h, ← getD_get d k h, hc]
  by_cases h2 : k + 1 < d.length
  · rw [List.drop_eq_getElem_cons h2]; simp [JF.strE, ans_succ]
  · rw [List.drop_eq_nil_of_le (by omega), List.drop_eq_nil_of_le (by omega)]; simp [JF.strE, JF.ans]
theorem strE_plain (d : List Int) (k : Nat) (h : k < d.length) (h1 : (d.getD k 0 == 34) = false) (h2 : (d.getD k 0 == 92) = false) : JF.ans k (JF.strE (d.drop k) false) = JF.ans (k + 1) (JF.strE (d.drop (k + 1)) false) := by
  rw [List.drop_eq_getElem_cons h, ← getD_get d k h]; simp only [JF.strE, h1, h2, ans_succ]; simp
theorem strE_over (d : List Int) (k : Nat) (h : d.length ≤ k) : JF.ans k (JF.strE (d.drop k) false) = -1 := by
  rw [List.drop_eq_nil_of_le h]; rfl

set_option maxHeartbeats 400000 in
theorem stringEnd_any (b o cap : Nat) (d : List Int) (i0 : Int) (w : World) (hr : Row w b o d) (h0 : 0 ≤ i0) (h1 : i0 ≤ d.length) (hm : d.length ≤ 4000000) :
    Calls Try.prog 28 #[.slice (some ⟨b, o, none⟩) d.length cap, .int .i64 i0] w fun e w' => e = .returned (.int .i64 (JF.ans (i0.toNat + 1) (JF.strE (d.drop (i0.toNat + 1)) false))) ∧ w' = w := by
  obtain ⟨i, rfl⟩ := Int.eq_ofNat_of_zero_le h0
  rw [Int.toNat_natCast]
  generalize hR : JF.ans (i + 1) (JF.strE (d.drop (i + 1)) false) = R
  have HR : Hid (JF.ans (i + 1) (JF.strE (d.drop (i + 1)) false) = R) := hR
  clear hR
  go_enter Try.func28, Try.ntmps28
  go_wp2
  go_loop [1] (fun t => ∃ k : Nat, k ≤ d.length + 1 ∧ t = .int .i64 k ∧ JF.ans k (JF.strE (d.drop k) false) = R) (fun t => d.length + 1 - (intOf t).toNat)
  case atStart => exact ⟨i + 1, by omega, by go_num, HR.out⟩
  case round =>
    obtain ⟨k, hk, rfl, hd⟩ := hrel
    have HD : Hid (JF.ans k (JF.strE (d.drop k) false) = R) := hd
    clear hd
    by_cases hlt : k < d.length
    · have hc := hr k hlt
      clear hr
      by_cases e1 : d.getD k 0 = 34
      · have HS : Hid (R = (k : Int) + 1) := HD.out.symm.trans (strE_quote d k hlt e1)
        rw [e1] at hc
        clear e1
        go_wp2
        go_ret
        exact ⟨ret_int HS.out.symm, rfl⟩
      · by_cases e2 : d.getD k 0 = 92
        · have HS : Hid (JF.ans (k + 2) (JF.strE (d.drop (k + 2)) false) = R) := (strE_back d k hlt e2).symm.trans HD.out
          rw [e2] at hc
          clear e1 e2
          go_wp2
          go_round
          case rel => exact ⟨k + 2, by omega, by go_num, HS.out⟩
          case measure => simp [intOf]; omega
        · have n1 : (d.getD k 0 == 34) = false := by simpa using e1
          have n2 : (d.getD k 0 == 92) = false := by simpa using e2
          have HS : Hid (JF.ans (k + 1) (JF.strE (d.drop (k + 1)) false) = R) := (strE_plain d k hlt n1 n2).symm.trans HD.out
          generalize d.getD k 0 = c at hc n1 n2
          clear e1 e2
          go_wp2
          go_round
          case rel => exact ⟨k + 1, by omega, by go_num, HS.out⟩
          case measure => simp [intOf]; omega
    · go_wp2
      go_ret
      have := HD.out
      rw [strE_over d k (by omega)] at this
      exact ⟨ret_int this, rfl⟩

end Go.Proofs.Qxb6602447a
