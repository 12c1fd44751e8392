/- Walks: zzFirstFeed, zzPieceIsLine, zzCountLines, the bounds. -/
import Derived.Test.Qxb6602716aWb
namespace Go.Proofs.Qxb6602716a
open Go.RowKit

theorem byte_ne (r : ByteArray) (k : Nat) (h : k < r.size) (hn : 10 ∉ bs r) : ((r[k].toNat : Int) == 10) = false := by
  have hm : r[k] ∈ bs r := List.getElem_mem (l := r.data.toList) (by simpa using h)
  have : r[k] ≠ 10 := fun e => hn (e ▸ hm)
  have h2 : r[k].toNat ≠ 10 := fun e => this (UInt8.toNat_inj.1 e)
  simp; omega

set_option maxHeartbeats 400000 in
theorem firstFeed_no (r : ByteArray) (w : World) (hs : r.size ≤ 4000000) (hn : 10 ∉ bs r) :
    Calls Try.prog 10 #[.string r, .int .i64 0] w fun e w' => e = .returned (.int .i64 (-1)) ∧ w' = w := by
  have HN := hid_of hn
  clear hn
  go_enter Try.func10, Try.ntmps10
  go_wp2
  go_loop [5] (fun i => ∃ k : Nat, k ≤ r.size ∧ i = .int .i64 k) (fun i => r.size - (intOf i).toNat)
  case atStart => exact ⟨0, Nat.zero_le _, rfl⟩
  case round =>
    obtain ⟨k, hk, rfl⟩ := hrel
    by_cases hlt : k < r.size
    · have hb := byte_ne r k hlt HN.out
      go_wp2
      go_round
      case rel => exact ⟨k + 1, by omega, by go_num⟩
      case measure => simp [intOf]; omega
    · go_wp2
      go_ret
      exact ⟨rfl, rfl⟩

theorem piece_take {p r : ByteArray} {e : List UInt8} (h : bs p = bs r ++ e) : ((p.extract 0 r.size).toList == r.toList) = true := by
  rw [extract_start, toList_bs, toList_bs, bs_mk, h, ← bs_length, List.take_left]
  simp
theorem piece_drop {p r : ByteArray} {e : List UInt8} (h : bs p = bs r ++ e) : p.extract r.size p.size = mk e := by
  rw [extract_end, h, ← bs_length, List.drop_left]
theorem piece_size {p r : ByteArray} {e : List UInt8} (h : bs p = bs r ++ e) : p.size = r.size + e.length := by
  rw [← bs_length, h, List.length_append, bs_length]

set_option maxHeartbeats 400000 in
theorem piece_of (p r : ByteArray) (e : List UInt8) (b : Bool) (w : World) (h : bs p = bs r ++ e) (he : e = [10] ∨ e = [13, 10] ∨ (b = true ∧ (e = [] ∨ e = [13]))) :
    Calls Try.prog 11 #[.string p, .string r, .bool b] w fun e w' => e = .returned (.bool true) ∧ w' = w := by
  have h1 := piece_take h
  have h2 := piece_drop h
  have h3 := piece_size h
  have hle : r.size ≤ p.size := by omega
  clear h h3
  rcases he with rfl | rfl | ⟨rfl, rfl | rfl⟩
  · have t1 : (mk [10]).toList = [10] := toList_bs _
    go_enter Try.func11, Try.ntmps11
    go_wp2
    go_ret
    exact ⟨rfl, rfl⟩
  · have t1 : (mk [13, 10]).toList = [13, 10] := toList_bs _
    go_enter Try.func11, Try.ntmps11
    go_wp2
    go_ret
    exact ⟨rfl, rfl⟩
  · have t1 : (mk []).toList = [] := toList_bs _
    go_enter Try.func11, Try.ntmps11
    go_wp2
    go_ret
    exact ⟨rfl, rfl⟩
  · have t1 : (mk [13]).toList = [13] := toList_bs _
    go_enter Try.func11, Try.ntmps11
    go_wp2
    go_ret
    exact ⟨rfl, rfl⟩

/-! ### zzCountLines -/
theorem get_bs (T : ByteArray) (k : Nat) (h : k < T.size) : (bs T)[k]'(by rw [bs_length]; exact h) = T[k] := rfl

theorem drop_step (T : ByteArray) (k : Nat) (h : k < T.size) : (bs T).drop k = T[k] :: (bs T).drop (k + 1) := by
  rw [List.drop_eq_getElem_cons (by rw [bs_length]; exact h)]; rfl
theorem take_step (T : ByteArray) (k : Nat) (h : k < T.size) : (bs T).take (k + 1) = (bs T).take k ++ [T[k]] := by
  rw [List.take_succ_eq_append_getElem (by rw [bs_length]; exact h)]; rfl

theorem count_hit (T : ByteArray) (k : Nat) (h : k < T.size) (hc : T[k] = 10) : ((bs T).take (k + 1)).count 10 = ((bs T).take k).count 10 + 1 := by
  rw [take_step T k h, hc, List.count_append]; simp
theorem count_miss (T : ByteArray) (k : Nat) (h : k < T.size) (hc : T[k] ≠ 10) : ((bs T).take (k + 1)).count 10 = ((bs T).take k).count 10 := by
  rw [take_step T k h, List.count_append]; simp [hc]
theorem tail_hit (T : ByteArray) (k : Nat) (h : k < T.size) (hc : T[k] = 10) (hn : 10 ∉ (bs T).drop (k + 1)) : CL.lastTail (bs T) = (bs T).drop (k + 1) := by
  have e : bs T = (bs T).take k ++ 10 :: (bs T).drop (k + 1) := by rw [← hc, ← drop_step T k h, List.take_append_drop]
  conv => lhs; rw [e]
  rw [CL.lastTail_app, CL.lastTail_none hn]
theorem tail_miss (T : ByteArray) (k : Nat) (h : k < T.size) (hc : T[k] ≠ 10) (hn : 10 ∉ (bs T).drop (k + 1)) : 10 ∉ (bs T).drop k := by
  rw [drop_step T k h]
  simp only [List.mem_cons, not_or]
  exact ⟨fun e => hc e.symm, hn⟩
theorem byte_ten (T : ByteArray) (k : Nat) (h : k < T.size) : ((T[k].toNat : Int) == 10) = decide (T[k] = 10) := by
  rw [Bool.eq_iff_iff]
  simp only [beq_iff_eq, decide_eq_true_eq]
  constructor
  · intro e; apply UInt8.toNat_inj.1; show T[k].toNat = 10; omega
  · intro e; rw [e]; rfl

set_option maxHeartbeats 400000 in
theorem countLines_any (T : ByteArray) (w : World) (hT : T.size ≤ 4000000) :
    Calls Try.prog 9 #[.string T] w fun e w' => e = .returned (.int .i64 (CL.cnt (bs T) : Int)) ∧ w' = w := by
  go_enter Try.func9, Try.ntmps9
  go_wp2
  go_loop [3, 4, 5] (fun f l i => ∃ k c m : Nat, k ≤ T.size ∧ m ≤ k ∧ i = .int .i64 k ∧ f = .int .i64 c ∧ l = .int .i64 m ∧ c ≤ k ∧ c = ((bs T).take k).count 10 ∧ (10 ∉ (bs T).drop k → CL.lastTail (bs T) = (bs T).drop m)) (fun _ _ i => T.size - (intOf i).toNat)
  case atStart => exact ⟨0, 0, 0, Nat.zero_le _, Nat.le_refl _, rfl, rfl, rfl, Nat.le_refl _, by simp, fun h => CL.lastTail_none h⟩
  case round =>
    obtain ⟨k, c, m, hk, hmk, rfl, rfl, rfl, hck, hc, hl⟩ := hrel
    have HC := hid_of hc
    have HL := hid_of hl
    clear hc hl
    by_cases hlt : k < T.size
    · have ht := byte_ten T k hlt
      by_cases h10 : T[k] = 10
      · have HA := hid_of (count_hit T k hlt h10)
        have HB := hid_of (tail_hit T k hlt h10)
        rw [h10] at ht
        have h10' : ((T[k].toNat : Int) == 10) = true := by rw [h10]; rfl
        clear ht h10
        go_wp2
        go_round
        case rel => exact ⟨k + 1, c + 1, k + 1, by omega, by omega, by go_num, by go_num, by go_num, by omega, by rw [HA.out, HC.out], HB.out⟩
        case measure => simp [intOf]; omega
      · have HA := hid_of (count_miss T k hlt h10)
        have HB := hid_of (tail_miss T k hlt h10)
        have h10' : ((T[k].toNat : Int) == 10) = false := by rw [ht]; simpa using h10
        clear ht h10
        go_wp2
        go_round
        case rel => exact ⟨k + 1, c, m, by omega, by omega, by go_num, rfl, rfl, by omega, by rw [HA.out, HC.out], fun h => HL.out (HB.out h)⟩
        case measure => simp [intOf]; omega
    · have hkk : k = T.size := by omega
      have HT : Hid (CL.lastTail (bs T) = (bs T).drop m) := by
        refine HL.out ?_
        rw [List.drop_eq_nil_of_le (by rw [bs_length]; omega)]
        simp
      have HCC : Hid (c = (bs T).count 10) := by
        have := HC.out
        rw [List.take_of_length_le (by rw [bs_length]; omega)] at this
        exact this
      have hx := extract_end T m
      by_cases he : (bs T).drop m = [] ∨ (bs T).drop m = [13]
      · have HR : Hid (CL.cnt (bs T) = c) := by unfold Hid CL.cnt; rw [HT.out, if_pos he, HCC.out]; rfl
        rcases he with he | he
        · rw [he] at hx
          have t1 : (mk []).toList = [] := toList_bs _
          clear hkk he
          go_wp2
          go_ret
          exact ⟨ret_int (by rw [HR.out]), rfl⟩
        · rw [he] at hx
          have t1 : (mk [13]).toList = [13] := toList_bs _
          clear hkk he
          go_wp2
          go_ret
          exact ⟨ret_int (by rw [HR.out]), rfl⟩
      · have HR : Hid (CL.cnt (bs T) = c + 1) := by unfold Hid CL.cnt; rw [HT.out, if_neg he, HCC.out]
        have t1 : (mk ((bs T).drop m)).toList.isEmpty = false := by rw [isEmpty_mk]; exact List.isEmpty_eq_false_iff.2 fun h => he (.inl h)
        have t2 : ((mk ((bs T).drop m)).toList == [13]) = false := by rw [toList_bs, bs_mk]; simp; exact fun h => he (.inr h)
        clear hkk he
        go_wp2
        go_ret
        exact ⟨ret_int (by rw [HR.out]; omega), rfl⟩

end Go.Proofs.Qxb6602716a
