/- Walks: CompilePattern, its four ways in. -/
import Derived.Test.Qxb6603042aWb
import Derived.Deep.RegionLaw
namespace Go.Proofs.Qxb6603042a
open Go.RowKit

set_option maxHeartbeats 2000000 in
set_option maxRecDepth 100000 in
theorem compile_nn (s : ByteArray) (w : World) (hs : s.size ≤ 65536) (hd : GP.isDir (bs s) = false) (hl : litI (bs s) = -1) :
    Calls Try.prog 9 #[.string s] w fun e w' => ∃ v, e = .returned (.agg #[.string (s), v, .bool false]) ∧
      w'.ownsRow (w.heap.size + 2) 35 1 v (GP.tok ((bs s).drop s.size)).length (cI (GP.tok ((bs s).drop s.size))) ∧ Below w.heap.size w w' ∧ w.heap.size + 2 ≤ w'.heap.size := by
  obtain ⟨i35, hi, hz0, hz1, hz2⟩ := info_parts info35
  have HD := hid_of hd
  have HL := hid_of hl
  clear hd hl
  go_enter Try.func9, Try.ntmps9
  go_wp2_with fail
  refine (hasSuffix_any s _ (by omega)).mono ?_
  rintro e w1 ⟨rfl, hw⟩
  replace hw := hw.symm
  subst hw
  rw [HD.out]
  go_wp2_with fail
  refine (indexStar_any s _).mono ?_
  rintro e w1 ⟨rfl, hw⟩
  replace hw := hw.symm
  subst hw
  rw [HL.out]
  go_wp2_with fail
  go_loopw [5] (fun t wr => ∃ (k : Nat) (v : Value) (xs : List Int), k ≤ s.size ∧ xs.length ≤ k ∧ t = .int .i64 k ∧ xs ++ GP.tok ((bs s).drop k) = GP.tok ((bs s).drop (s.size)) ∧ CP w wr (s) false v xs) (fun t _ => s.size - (intOf t).toNat)
  case atStart => exact ⟨s.size, .slice none 0 0, [], by omega, by simp, rfl, rfl, CP.start w _ _⟩
  case round =>
    obtain ⟨k, v, xs, hk, hxl, rfl, hE, hC⟩ := hrel
    have HE := hid_of hE
    have HC := hid_of hC
    have hzz := hC.size
    obtain ⟨⟨q0, q1, q2⟩, qf⟩ := cells3 hC.pat
    have qf1 := qf 1
    have QR := hid_of (cells3 hC.res)
    clear hE hC qf
    by_cases hlt2 : k < s.size
    · clear q0 q2 QR
      have tok1 : True := trivial
      have hx := extract_end s k
      cases h2 : two ((bs s).drop k) with
      | true =>
        obtain ⟨hk2, ht⟩ := tok_at_two s k h2
        have HT : Hid ((xs ++ [257]) ++ GP.tok ((bs s).drop (k + 2)) = GP.tok ((bs s).drop (s.size))) := by unfold Hid; rw [List.append_assoc, List.singleton_append, ← ht]; exact HE.out
        have H2 := hid_of h2
        clear h2 ht
        go_wp2_with (first
          | (go_at_call 19; refine (hasPrefix_any _ _ (by rw [mk_size, List.length_drop, bs_length]; omega)).mono ?_; rintro e w' ⟨rfl, rfl⟩; rw [bs_mk, H2.out])
          | (at_builtin; have _t := tok1; refine wpList_append_lies (w'.alloc (.cells #[.int .i64 257] 35)) (by rfl) _ _ 24 (by rfl) (w.heap.size + 2) 35 i35 (.int .i64 0) 1 8 Try.underlying24 hi hz0 hz1 hz2 rfl (by omega) v xs.length (cI xs) (by rfl) (HC.out.alloc _).own ⟨w'.heap.size, 0, none⟩ 1 1 [.int .i64 257] (by rfl) rfl (cell_one_new _ _ _) (by simp [Value.oneCell']) (by omega) (by unfold maxLen; omega) (by omega) (HC.out.alloc _).size _ rfl ?_; intro g c w1 hown hgr hat hlt9; obtain ⟨⟨p0, p1, p2⟩, pf⟩ := cells3 ((HC.out.alloc _).kept hgr).2.1; have pf1 := pf 1; have HN := hid_of ((HC.out.alloc _).next (news := [257]) hown hgr); clear hown hgr hat pf p0 p2 q1 qf1 HC tok1))
        go_roundw
        case rel => exact ⟨k + 2, _, xs ++ [257], hk2, by simp; omega, by go_num, HT.out, HN.out⟩
        case measure => simp [intOf]; omega
      | false =>
        have H2 := hid_of h2
        by_cases h42 : s[k] = 42
        · have ht := tok_at_one s k hlt2 h2 h42
          have HT : Hid ((xs ++ [256]) ++ GP.tok ((bs s).drop (k + 1)) = GP.tok ((bs s).drop (s.size))) := by unfold Hid; rw [List.append_assoc, List.singleton_append, ← ht]; exact HE.out
          have hb : ((s[k].toNat : Int) == 42) = true := by rw [h42]; rfl
          clear h2 ht h42
          go_wp2_with (first
            | (go_at_call 19; refine (hasPrefix_any _ _ (by rw [mk_size, List.length_drop, bs_length]; omega)).mono ?_; rintro e w' ⟨rfl, rfl⟩; rw [bs_mk, H2.out])
            | (at_builtin; have _t := tok1; refine wpList_append_lies (w'.alloc (.cells #[.int .i64 256] 35)) (by rfl) _ _ 24 (by rfl) (w.heap.size + 2) 35 i35 (.int .i64 0) 1 8 Try.underlying24 hi hz0 hz1 hz2 rfl (by omega) v xs.length (cI xs) (by rfl) (HC.out.alloc _).own ⟨w'.heap.size, 0, none⟩ 1 1 [.int .i64 256] (by rfl) rfl (cell_one_new _ _ _) (by simp [Value.oneCell']) (by omega) (by unfold maxLen; omega) (by omega) (HC.out.alloc _).size _ rfl ?_; intro g c w1 hown hgr hat hlt9; obtain ⟨⟨p0, p1, p2⟩, pf⟩ := cells3 ((HC.out.alloc _).kept hgr).2.1; have pf1 := pf 1; have HN := hid_of ((HC.out.alloc _).next (news := [256]) hown hgr); clear hown hgr hat pf p0 p2 q1 qf1 HC tok1))
          go_roundw
          case rel => exact ⟨k + 1, _, xs ++ [256], by omega, by simp; omega, by go_num, HT.out, HN.out⟩
          case measure => simp [intOf]; omega
        · have ht := tok_at_lit s k hlt2 h42
          have HT : Hid ((xs ++ [(s[k].toNat : Int)]) ++ GP.tok ((bs s).drop (k + 1)) = GP.tok ((bs s).drop (s.size))) := by unfold Hid; rw [List.append_assoc, List.singleton_append, ← ht]; exact HE.out
          have hb : ((s[k].toNat : Int) == 42) = false := by rw [show (42 : Int) = ((42 : UInt8).toNat : Int) from rfl, byte_eq]; simpa using h42
          have hk0 : (0 : Int) ≤ (k : Int) := by omega
          have hk1 : (k : Int) < (s.size : Int) := by omega
          have hwr : IntKind.i64.wrap (s[k].toNat : Int) = (s[k].toNat : Int) := by rw [IntKind.wrap_i64]; have := s[k].toNat_lt; omega
          clear h2 ht h42
          go_wp2_with (go_at_call 19; refine (hasPrefix_any _ _ (by rw [mk_size, List.length_drop, bs_length]; omega)).mono ?_; rintro e w' ⟨rfl, rfl⟩; rw [bs_mk, H2.out])
          have qa := fun o => (cells3 (HC.out.alloc o).pat).1.2.1
          go_region_law ((refine step_append_lies _ (by rfl) _ _ 24 (by rfl) (w.heap.size + 2) 35 i35 (.int .i64 0) 1 8 Try.underlying24 hi hz0 hz1 hz2 rfl (by omega) v xs.length (cI xs) (by rfl) (HC.out.alloc _).drew.own ⟨w'.heap.size, 0, none⟩ 1 1 [.int .i64 (s[k].toNat : Int)] (by rfl) (by rfl) (cell_one_new w' (.int .i64 (s[k].toNat : Int)) 35) (by simp [Value.oneCell']) (by omega) (by unfold maxLen; omega) (by omega) (HC.out.alloc _).drew.size _ rfl ?_; intro g c w1 hown hgr hat hlt9; obtain ⟨⟨p0, p1, p2⟩, pf⟩ := cells3 ((HC.out.alloc _).drew.kept hgr).2.1; have pf1 := pf 1; have HN := hid_of ((HC.out.alloc _).drew.next (news := [(s[k].toNat : Int)]) hown hgr); clear hown hgr hat pf p0 p2 q1 qf1))
          all_goals
            go_wp2_with fail
            go_roundw
            case rel => exact ⟨k + 1, _, xs ++ [(s[k].toNat : Int)], by omega, by simp; omega, by go_num, HT.out, HN.out⟩
            case measure => simp [intOf]; omega
    · have HX : Hid (xs = GP.tok ((bs s).drop (s.size))) := by
        have h := HE.out
        rw [tok_at_end s k (by omega), List.append_nil] at h
        exact h
      clear HE
      obtain ⟨⟨r0, r1, r2⟩, rf⟩ := QR.out
      have rf0 := rf 0
      have rf1 := rf 1
      have rf2 := rf 2
      clear rf QR
      obtain ⟨a5, c5, hv5⟩ := own_form HC.out.own
      subst hv5
      go_wp2_with fail
      exact bodyPost_ret (v := .agg #[.string (s), .slice a5 xs.length c5, .bool false]) (by simp [results, Try.results9, go_sem, r0, r1, r2]) rfl ⟨_, rfl, by rw [← HX.out]; exact HC.out.done⟩

set_option maxHeartbeats 2000000 in
set_option maxRecDepth 100000 in
theorem compile_np (s : ByteArray) (w : World) (hs : s.size ≤ 65536) (hd : GP.isDir (bs s) = false) (L : Nat) (hl : litI (bs s) = (L : Int)) (hlt : L < s.size) :
    Calls Try.prog 9 #[.string s] w fun e w' => ∃ v, e = .returned (.agg #[.string (s.extract 0 L), v, .bool false]) ∧
      w'.ownsRow (w.heap.size + 2) 35 1 v (GP.tok ((bs s).drop L)).length (cI (GP.tok ((bs s).drop L))) ∧ Below w.heap.size w w' ∧ w.heap.size + 2 ≤ w'.heap.size := by
  obtain ⟨i35, hi, hz0, hz1, hz2⟩ := info_parts info35
  have HD := hid_of hd
  have HL := hid_of hl
  clear hd hl
  go_enter Try.func9, Try.ntmps9
  go_wp2_with fail
  refine (hasSuffix_any s _ (by omega)).mono ?_
  rintro e w1 ⟨rfl, hw⟩
  replace hw := hw.symm
  subst hw
  rw [HD.out]
  go_wp2_with fail
  refine (indexStar_any s _).mono ?_
  rintro e w1 ⟨rfl, hw⟩
  replace hw := hw.symm
  subst hw
  rw [HL.out]
  go_wp2_with fail
  go_loopw [5] (fun t wr => ∃ (k : Nat) (v : Value) (xs : List Int), k ≤ s.size ∧ xs.length ≤ k ∧ t = .int .i64 k ∧ xs ++ GP.tok ((bs s).drop k) = GP.tok ((bs s).drop (L)) ∧ CP w wr (s.extract 0 L) false v xs) (fun t _ => s.size - (intOf t).toNat)
  case atStart => exact ⟨L, .slice none 0 0, [], by omega, by simp, rfl, rfl, CP.start w _ _⟩
  case round =>
    obtain ⟨k, v, xs, hk, hxl, rfl, hE, hC⟩ := hrel
    have HE := hid_of hE
    have HC := hid_of hC
    have hzz := hC.size
    obtain ⟨⟨q0, q1, q2⟩, qf⟩ := cells3 hC.pat
    have qf1 := qf 1
    have QR := hid_of (cells3 hC.res)
    clear hE hC qf
    by_cases hlt2 : k < s.size
    · clear q0 q2 QR
      have tok1 : True := trivial
      have hx := extract_end s k
      cases h2 : two ((bs s).drop k) with
      | true =>
        obtain ⟨hk2, ht⟩ := tok_at_two s k h2
        have HT : Hid ((xs ++ [257]) ++ GP.tok ((bs s).drop (k + 2)) = GP.tok ((bs s).drop (L))) := by unfold Hid; rw [List.append_assoc, List.singleton_append, ← ht]; exact HE.out
        have H2 := hid_of h2
        clear h2 ht
        go_wp2_with (first
          | (go_at_call 19; refine (hasPrefix_any _ _ (by rw [mk_size, List.length_drop, bs_length]; omega)).mono ?_; rintro e w' ⟨rfl, rfl⟩; rw [bs_mk, H2.out])
          | (at_builtin; have _t := tok1; refine wpList_append_lies (w'.alloc (.cells #[.int .i64 257] 35)) (by rfl) _ _ 24 (by rfl) (w.heap.size + 2) 35 i35 (.int .i64 0) 1 8 Try.underlying24 hi hz0 hz1 hz2 rfl (by omega) v xs.length (cI xs) (by rfl) (HC.out.alloc _).own ⟨w'.heap.size, 0, none⟩ 1 1 [.int .i64 257] (by rfl) rfl (cell_one_new _ _ _) (by simp [Value.oneCell']) (by omega) (by unfold maxLen; omega) (by omega) (HC.out.alloc _).size _ rfl ?_; intro g c w1 hown hgr hat hlt9; obtain ⟨⟨p0, p1, p2⟩, pf⟩ := cells3 ((HC.out.alloc _).kept hgr).2.1; have pf1 := pf 1; have HN := hid_of ((HC.out.alloc _).next (news := [257]) hown hgr); clear hown hgr hat pf p0 p2 q1 qf1 HC tok1))
        go_roundw
        case rel => exact ⟨k + 2, _, xs ++ [257], hk2, by simp; omega, by go_num, HT.out, HN.out⟩
        case measure => simp [intOf]; omega
      | false =>
        have H2 := hid_of h2
        by_cases h42 : s[k] = 42
        · have ht := tok_at_one s k hlt2 h2 h42
          have HT : Hid ((xs ++ [256]) ++ GP.tok ((bs s).drop (k + 1)) = GP.tok ((bs s).drop (L))) := by unfold Hid; rw [List.append_assoc, List.singleton_append, ← ht]; exact HE.out
          have hb : ((s[k].toNat : Int) == 42) = true := by rw [h42]; rfl
          clear h2 ht h42
          go_wp2_with (first
            | (go_at_call 19; refine (hasPrefix_any _ _ (by rw [mk_size, List.length_drop, bs_length]; omega)).mono ?_; rintro e w' ⟨rfl, rfl⟩; rw [bs_mk, H2.out])
            | (at_builtin; have _t := tok1; refine wpList_append_lies (w'.alloc (.cells #[.int .i64 256] 35)) (by rfl) _ _ 24 (by rfl) (w.heap.size + 2) 35 i35 (.int .i64 0) 1 8 Try.underlying24 hi hz0 hz1 hz2 rfl (by omega) v xs.length (cI xs) (by rfl) (HC.out.alloc _).own ⟨w'.heap.size, 0, none⟩ 1 1 [.int .i64 256] (by rfl) rfl (cell_one_new _ _ _) (by simp [Value.oneCell']) (by omega) (by unfold maxLen; omega) (by omega) (HC.out.alloc _).size _ rfl ?_; intro g c w1 hown hgr hat hlt9; obtain ⟨⟨p0, p1, p2⟩, pf⟩ := cells3 ((HC.out.alloc _).kept hgr).2.1; have pf1 := pf 1; have HN := hid_of ((HC.out.alloc _).next (news := [256]) hown hgr); clear hown hgr hat pf p0 p2 q1 qf1 HC tok1))
          go_roundw
          case rel => exact ⟨k + 1, _, xs ++ [256], by omega, by simp; omega, by go_num, HT.out, HN.out⟩
          case measure => simp [intOf]; omega
        · have ht := tok_at_lit s k hlt2 h42
          have HT : Hid ((xs ++ [(s[k].toNat : Int)]) ++ GP.tok ((bs s).drop (k + 1)) = GP.tok ((bs s).drop (L))) := by unfold Hid; rw [List.append_assoc, List.singleton_append, ← ht]; exact HE.out
          have hb : ((s[k].toNat : Int) == 42) = false := by rw [show (42 : Int) = ((42 : UInt8).toNat : Int) from rfl, byte_eq]; simpa using h42
          have hk0 : (0 : Int) ≤ (k : Int) := by omega
          have hk1 : (k : Int) < (s.size : Int) := by omega
          have hwr : IntKind.i64.wrap (s[k].toNat : Int) = (s[k].toNat : Int) := by rw [IntKind.wrap_i64]; have := s[k].toNat_lt; omega
          clear h2 ht h42
          go_wp2_with (go_at_call 19; refine (hasPrefix_any _ _ (by rw [mk_size, List.length_drop, bs_length]; omega)).mono ?_; rintro e w' ⟨rfl, rfl⟩; rw [bs_mk, H2.out])
          have qa := fun o => (cells3 (HC.out.alloc o).pat).1.2.1
          go_region_law ((refine step_append_lies _ (by rfl) _ _ 24 (by rfl) (w.heap.size + 2) 35 i35 (.int .i64 0) 1 8 Try.underlying24 hi hz0 hz1 hz2 rfl (by omega) v xs.length (cI xs) (by rfl) (HC.out.alloc _).drew.own ⟨w'.heap.size, 0, none⟩ 1 1 [.int .i64 (s[k].toNat : Int)] (by rfl) (by rfl) (cell_one_new w' (.int .i64 (s[k].toNat : Int)) 35) (by simp [Value.oneCell']) (by omega) (by unfold maxLen; omega) (by omega) (HC.out.alloc _).drew.size _ rfl ?_; intro g c w1 hown hgr hat hlt9; obtain ⟨⟨p0, p1, p2⟩, pf⟩ := cells3 ((HC.out.alloc _).drew.kept hgr).2.1; have pf1 := pf 1; have HN := hid_of ((HC.out.alloc _).drew.next (news := [(s[k].toNat : Int)]) hown hgr); clear hown hgr hat pf p0 p2 q1 qf1))
          all_goals
            go_wp2_with fail
            go_roundw
            case rel => exact ⟨k + 1, _, xs ++ [(s[k].toNat : Int)], by omega, by simp; omega, by go_num, HT.out, HN.out⟩
            case measure => simp [intOf]; omega
    · have HX : Hid (xs = GP.tok ((bs s).drop (L))) := by
        have h := HE.out
        rw [tok_at_end s k (by omega), List.append_nil] at h
        exact h
      clear HE
      obtain ⟨⟨r0, r1, r2⟩, rf⟩ := QR.out
      have rf0 := rf 0
      have rf1 := rf 1
      have rf2 := rf 2
      clear rf QR
      obtain ⟨a5, c5, hv5⟩ := own_form HC.out.own
      subst hv5
      go_wp2_with fail
      exact bodyPost_ret (v := .agg #[.string (s.extract 0 L), .slice a5 xs.length c5, .bool false]) (by simp [results, Try.results9, go_sem, r0, r1, r2]) rfl ⟨_, rfl, by rw [← HX.out]; exact HC.out.done⟩

set_option maxHeartbeats 2000000 in
set_option maxRecDepth 100000 in
theorem compile_dn (s B : ByteArray) (w : World) (hB : s.extract 0 (s.size - 1) = B) (hs1 : 1 ≤ s.size) (hs : B.size ≤ 65536) (hss : s.size ≤ 65537) (hd : GP.isDir (bs s) = true) (hl : litI (bs B) = -1) :
    Calls Try.prog 9 #[.string s] w fun e w' => ∃ v, e = .returned (.agg #[.string (B), v, .bool true]) ∧
      w'.ownsRow (w.heap.size + 2) 35 1 v (GP.tok ((bs B).drop B.size) ++ [47, 257]).length (cI (GP.tok ((bs B).drop B.size) ++ [47, 257])) ∧ Below w.heap.size w w' ∧ w.heap.size + 2 ≤ w'.heap.size := by
  obtain ⟨i35, hi, hz0, hz1, hz2⟩ := info_parts info35
  have HD := hid_of hd
  have HL := hid_of hl
  clear hd hl
  go_enter Try.func9, Try.ntmps9
  go_wp2_with fail
  refine (hasSuffix_any s _ (by omega)).mono ?_
  rintro e w1 ⟨rfl, hw⟩
  replace hw := hw.symm
  subst hw
  rw [HD.out]
  go_wp2_with fail
  refine (indexStar_any B _).mono ?_
  rintro e w1 ⟨rfl, hw⟩
  replace hw := hw.symm
  subst hw
  rw [HL.out]
  go_wp2_with fail
  go_loopw [5] (fun t wr => ∃ (k : Nat) (v : Value) (xs : List Int), k ≤ B.size ∧ xs.length ≤ k ∧ t = .int .i64 k ∧ xs ++ GP.tok ((bs B).drop k) = GP.tok ((bs B).drop (B.size)) ∧ CP w wr (B) true v xs) (fun t _ => B.size - (intOf t).toNat)
  case atStart => exact ⟨B.size, .slice none 0 0, [], by omega, by simp, rfl, rfl, CP.start w _ _⟩
  case round =>
    obtain ⟨k, v, xs, hk, hxl, rfl, hE, hC⟩ := hrel
    have HE := hid_of hE
    have HC := hid_of hC
    have hzz := hC.size
    obtain ⟨⟨q0, q1, q2⟩, qf⟩ := cells3 hC.pat
    have qf1 := qf 1
    have QR := hid_of (cells3 hC.res)
    clear hE hC qf
    by_cases hlt2 : k < B.size
    · clear q0 q2 QR
      have tok1 : True := trivial
      have hx := extract_end B k
      cases h2 : two ((bs B).drop k) with
      | true =>
        obtain ⟨hk2, ht⟩ := tok_at_two B k h2
        have HT : Hid ((xs ++ [257]) ++ GP.tok ((bs B).drop (k + 2)) = GP.tok ((bs B).drop (B.size))) := by unfold Hid; rw [List.append_assoc, List.singleton_append, ← ht]; exact HE.out
        have H2 := hid_of h2
        clear h2 ht
        go_wp2_with (first
          | (go_at_call 19; refine (hasPrefix_any _ _ (by rw [mk_size, List.length_drop, bs_length]; omega)).mono ?_; rintro e w' ⟨rfl, rfl⟩; rw [bs_mk, H2.out])
          | (at_builtin; have _t := tok1; refine wpList_append_lies (w'.alloc (.cells #[.int .i64 257] 35)) (by rfl) _ _ 24 (by rfl) (w.heap.size + 2) 35 i35 (.int .i64 0) 1 8 Try.underlying24 hi hz0 hz1 hz2 rfl (by omega) v xs.length (cI xs) (by rfl) (HC.out.alloc _).own ⟨w'.heap.size, 0, none⟩ 1 1 [.int .i64 257] (by rfl) rfl (cell_one_new _ _ _) (by simp [Value.oneCell']) (by omega) (by unfold maxLen; omega) (by omega) (HC.out.alloc _).size _ rfl ?_; intro g c w1 hown hgr hat hlt9; obtain ⟨⟨p0, p1, p2⟩, pf⟩ := cells3 ((HC.out.alloc _).kept hgr).2.1; have pf1 := pf 1; have HN := hid_of ((HC.out.alloc _).next (news := [257]) hown hgr); clear hown hgr hat pf p0 p2 q1 qf1 HC tok1))
        go_roundw
        case rel => exact ⟨k + 2, _, xs ++ [257], hk2, by simp; omega, by go_num, HT.out, HN.out⟩
        case measure => simp [intOf]; omega
      | false =>
        have H2 := hid_of h2
        by_cases h42 : B[k] = 42
        · have ht := tok_at_one B k hlt2 h2 h42
          have HT : Hid ((xs ++ [256]) ++ GP.tok ((bs B).drop (k + 1)) = GP.tok ((bs B).drop (B.size))) := by unfold Hid; rw [List.append_assoc, List.singleton_append, ← ht]; exact HE.out
          have hb : ((B[k].toNat : Int) == 42) = true := by rw [h42]; rfl
          clear h2 ht h42
          go_wp2_with (first
            | (go_at_call 19; refine (hasPrefix_any _ _ (by rw [mk_size, List.length_drop, bs_length]; omega)).mono ?_; rintro e w' ⟨rfl, rfl⟩; rw [bs_mk, H2.out])
            | (at_builtin; have _t := tok1; refine wpList_append_lies (w'.alloc (.cells #[.int .i64 256] 35)) (by rfl) _ _ 24 (by rfl) (w.heap.size + 2) 35 i35 (.int .i64 0) 1 8 Try.underlying24 hi hz0 hz1 hz2 rfl (by omega) v xs.length (cI xs) (by rfl) (HC.out.alloc _).own ⟨w'.heap.size, 0, none⟩ 1 1 [.int .i64 256] (by rfl) rfl (cell_one_new _ _ _) (by simp [Value.oneCell']) (by omega) (by unfold maxLen; omega) (by omega) (HC.out.alloc _).size _ rfl ?_; intro g c w1 hown hgr hat hlt9; obtain ⟨⟨p0, p1, p2⟩, pf⟩ := cells3 ((HC.out.alloc _).kept hgr).2.1; have pf1 := pf 1; have HN := hid_of ((HC.out.alloc _).next (news := [256]) hown hgr); clear hown hgr hat pf p0 p2 q1 qf1 HC tok1))
          go_roundw
          case rel => exact ⟨k + 1, _, xs ++ [256], by omega, by simp; omega, by go_num, HT.out, HN.out⟩
          case measure => simp [intOf]; omega
        · have ht := tok_at_lit B k hlt2 h42
          have HT : Hid ((xs ++ [(B[k].toNat : Int)]) ++ GP.tok ((bs B).drop (k + 1)) = GP.tok ((bs B).drop (B.size))) := by unfold Hid; rw [List.append_assoc, List.singleton_append, ← ht]; exact HE.out
          have hb : ((B[k].toNat : Int) == 42) = false := by rw [show (42 : Int) = ((42 : UInt8).toNat : Int) from rfl, byte_eq]; simpa using h42
          have hk0 : (0 : Int) ≤ (k : Int) := by omega
          have hk1 : (k : Int) < (B.size : Int) := by omega
          have hwr : IntKind.i64.wrap (B[k].toNat : Int) = (B[k].toNat : Int) := by rw [IntKind.wrap_i64]; have := B[k].toNat_lt; omega
          clear h2 ht h42
          go_wp2_with (go_at_call 19; refine (hasPrefix_any _ _ (by rw [mk_size, List.length_drop, bs_length]; omega)).mono ?_; rintro e w' ⟨rfl, rfl⟩; rw [bs_mk, H2.out])
          have qa := fun o => (cells3 (HC.out.alloc o).pat).1.2.1
          go_region_law ((refine step_append_lies _ (by rfl) _ _ 24 (by rfl) (w.heap.size + 2) 35 i35 (.int .i64 0) 1 8 Try.underlying24 hi hz0 hz1 hz2 rfl (by omega) v xs.length (cI xs) (by rfl) (HC.out.alloc _).drew.own ⟨w'.heap.size, 0, none⟩ 1 1 [.int .i64 (B[k].toNat : Int)] (by rfl) (by rfl) (cell_one_new w' (.int .i64 (B[k].toNat : Int)) 35) (by simp [Value.oneCell']) (by omega) (by unfold maxLen; omega) (by omega) (HC.out.alloc _).drew.size _ rfl ?_; intro g c w1 hown hgr hat hlt9; obtain ⟨⟨p0, p1, p2⟩, pf⟩ := cells3 ((HC.out.alloc _).drew.kept hgr).2.1; have pf1 := pf 1; have HN := hid_of ((HC.out.alloc _).drew.next (news := [(B[k].toNat : Int)]) hown hgr); clear hown hgr hat pf p0 p2 q1 qf1))
          all_goals
            go_wp2_with fail
            go_roundw
            case rel => exact ⟨k + 1, _, xs ++ [(B[k].toNat : Int)], by omega, by simp; omega, by go_num, HT.out, HN.out⟩
            case measure => simp [intOf]; omega
    · have HX : Hid (xs = GP.tok ((bs B).drop (B.size))) := by
        have h := HE.out
        rw [tok_at_end B k (by omega), List.append_nil] at h
        exact h
      clear HE
      clear QR
      have tok1 : True := trivial
      go_wp2_with (at_builtin; have _t := tok1; refine wpList_append_lies (wr.alloc (.cells #[.int .i64 47, .int .i64 257] 35)) (by rfl) _ _ 24 (by rfl) (w.heap.size + 2) 35 i35 (.int .i64 0) 1 8 Try.underlying24 hi hz0 hz1 hz2 rfl (by omega) v xs.length (cI xs) (by rfl) (HC.out.alloc _).own ⟨wr.heap.size, 0, none⟩ 2 2 [.int .i64 47, .int .i64 257] (by rfl) rfl (World.news_of_block (cs := #[.int .i64 47, .int .i64 257]) (heap_alloc_new wr _)) (by simp [Value.oneCell']) (by omega) (by unfold maxLen; omega) (by omega) (HC.out.alloc _).size _ rfl ?_; intro g c w1 hown hgr hat hlt9; obtain ⟨⟨p0, p1, p2⟩, pf⟩ := cells3 ((HC.out.alloc _).kept hgr).2.1; have pf1 := pf 1; obtain ⟨⟨r0, r1, r2⟩, rf⟩ := cells3 ((HC.out.alloc _).kept hgr).1; have rf0 := rf 0; have rf1 := rf 1; have rf2 := rf 2; have HN := hid_of ((HC.out.alloc _).next (news := [47, 257]) hown hgr); clear hown hgr hat pf rf q0 q1 q2 qf1 HC tok1)
      exact bodyPost_ret (v := .agg #[.string (B), .slice (some ⟨g, 0, none⟩) (xs.length + 2) c, .bool true]) (by simp [results, Try.results9, go_sem, r0, r1, r2]) rfl ⟨_, rfl, by rw [← HX.out]; exact HN.out.done⟩

set_option maxHeartbeats 2000000 in
set_option maxRecDepth 100000 in
theorem compile_dp (s B : ByteArray) (w : World) (hB : s.extract 0 (s.size - 1) = B) (hs1 : 1 ≤ s.size) (hs : B.size ≤ 65536) (hss : s.size ≤ 65537) (hd : GP.isDir (bs s) = true) (L : Nat) (hl : litI (bs B) = (L : Int)) (hlt : L < B.size) :
    Calls Try.prog 9 #[.string s] w fun e w' => ∃ v, e = .returned (.agg #[.string (B.extract 0 L), v, .bool true]) ∧
      w'.ownsRow (w.heap.size + 2) 35 1 v (GP.tok ((bs B).drop L) ++ [47, 257]).length (cI (GP.tok ((bs B).drop L) ++ [47, 257])) ∧ Below w.heap.size w w' ∧ w.heap.size + 2 ≤ w'.heap.size := by
  obtain ⟨i35, hi, hz0, hz1, hz2⟩ := info_parts info35
  have HD := hid_of hd
  have HL := hid_of hl
  clear hd hl
  go_enter Try.func9, Try.ntmps9
  go_wp2_with fail
  refine (hasSuffix_any s _ (by omega)).mono ?_
  rintro e w1 ⟨rfl, hw⟩
  replace hw := hw.symm
  subst hw
  rw [HD.out]
  go_wp2_with fail
  refine (indexStar_any B _).mono ?_
  rintro e w1 ⟨rfl, hw⟩
  replace hw := hw.symm
  subst hw
  rw [HL.out]
  go_wp2_with fail
  go_loopw [5] (fun t wr => ∃ (k : Nat) (v : Value) (xs : List Int), k ≤ B.size ∧ xs.length ≤ k ∧ t = .int .i64 k ∧ xs ++ GP.tok ((bs B).drop k) = GP.tok ((bs B).drop (L)) ∧ CP w wr (B.extract 0 L) true v xs) (fun t _ => B.size - (intOf t).toNat)
  case atStart => exact ⟨L, .slice none 0 0, [], by omega, by simp, rfl, rfl, CP.start w _ _⟩
  case round =>
    obtain ⟨k, v, xs, hk, hxl, rfl, hE, hC⟩ := hrel
    have HE := hid_of hE
    have HC := hid_of hC
    have hzz := hC.size
    obtain ⟨⟨q0, q1, q2⟩, qf⟩ := cells3 hC.pat
    have qf1 := qf 1
    have QR := hid_of (cells3 hC.res)
    clear hE hC qf
    by_cases hlt2 : k < B.size
    · clear q0 q2 QR
      have tok1 : True := trivial
      have hx := extract_end B k
      cases h2 : two ((bs B).drop k) with
      | true =>
        obtain ⟨hk2, ht⟩ := tok_at_two B k h2
        have HT : Hid ((xs ++ [257]) ++ GP.tok ((bs B).drop (k + 2)) = GP.tok ((bs B).drop (L))) := by unfold Hid; rw [List.append_assoc, List.singleton_append, ← ht]; exact HE.out
        have H2 := hid_of h2
        clear h2 ht
        go_wp2_with (first
          | (go_at_call 19; refine (hasPrefix_any _ _ (by rw [mk_size, List.length_drop, bs_length]; omega)).mono ?_; rintro e w' ⟨rfl, rfl⟩; rw [bs_mk, H2.out])
          | (at_builtin; have _t := tok1; refine wpList_append_lies (w'.alloc (.cells #[.int .i64 257] 35)) (by rfl) _ _ 24 (by rfl) (w.heap.size + 2) 35 i35 (.int .i64 0) 1 8 Try.underlying24 hi hz0 hz1 hz2 rfl (by omega) v xs.length (cI xs) (by rfl) (HC.out.alloc _).own ⟨w'.heap.size, 0, none⟩ 1 1 [.int .i64 257] (by rfl) rfl (cell_one_new _ _ _) (by simp [Value.oneCell']) (by omega) (by unfold maxLen; omega) (by omega) (HC.out.alloc _).size _ rfl ?_; intro g c w1 hown hgr hat hlt9; obtain ⟨⟨p0, p1, p2⟩, pf⟩ := cells3 ((HC.out.alloc _).kept hgr).2.1; have pf1 := pf 1; have HN := hid_of ((HC.out.alloc _).next (news := [257]) hown hgr); clear hown hgr hat pf p0 p2 q1 qf1 HC tok1))
        go_roundw
        case rel => exact ⟨k + 2, _, xs ++ [257], hk2, by simp; omega, by go_num, HT.out, HN.out⟩
        case measure => simp [intOf]; omega
      | false =>
        have H2 := hid_of h2
        by_cases h42 : B[k] = 42
        · have ht := tok_at_one B k hlt2 h2 h42
          have HT : Hid ((xs ++ [256]) ++ GP.tok ((bs B).drop (k + 1)) = GP.tok ((bs B).drop (L))) := by unfold Hid; rw [List.append_assoc, List.singleton_append, ← ht]; exact HE.out
          have hb : ((B[k].toNat : Int) == 42) = true := by rw [h42]; rfl
          clear h2 ht h42
          go_wp2_with (first
            | (go_at_call 19; refine (hasPrefix_any _ _ (by rw [mk_size, List.length_drop, bs_length]; omega)).mono ?_; rintro e w' ⟨rfl, rfl⟩; rw [bs_mk, H2.out])
            | (at_builtin; have _t := tok1; refine wpList_append_lies (w'.alloc (.cells #[.int .i64 256] 35)) (by rfl) _ _ 24 (by rfl) (w.heap.size + 2) 35 i35 (.int .i64 0) 1 8 Try.underlying24 hi hz0 hz1 hz2 rfl (by omega) v xs.length (cI xs) (by rfl) (HC.out.alloc _).own ⟨w'.heap.size, 0, none⟩ 1 1 [.int .i64 256] (by rfl) rfl (cell_one_new _ _ _) (by simp [Value.oneCell']) (by omega) (by unfold maxLen; omega) (by omega) (HC.out.alloc _).size _ rfl ?_; intro g c w1 hown hgr hat hlt9; obtain ⟨⟨p0, p1, p2⟩, pf⟩ := cells3 ((HC.out.alloc _).kept hgr).2.1; have pf1 := pf 1; have HN := hid_of ((HC.out.alloc _).next (news := [256]) hown hgr); clear hown hgr hat pf p0 p2 q1 qf1 HC tok1))
          go_roundw
          case rel => exact ⟨k + 1, _, xs ++ [256], by omega, by simp; omega, by go_num, HT.out, HN.out⟩
          case measure => simp [intOf]; omega
        · have ht := tok_at_lit B k hlt2 h42
          have HT : Hid ((xs ++ [(B[k].toNat : Int)]) ++ GP.tok ((bs B).drop (k + 1)) = GP.tok ((bs B).drop (L))) := by unfold Hid; rw [List.append_assoc, List.singleton_append, ← ht]; exact HE.out
          have hb : ((B[k].toNat : Int) == 42) = false := by rw [show (42 : Int) = ((42 : UInt8).toNat : Int) from rfl, byte_eq]; simpa using h42
          have hk0 : (0 : Int) ≤ (k : Int) := by omega
          have hk1 : (k : Int) < (B.size : Int) := by omega
          have hwr : IntKind.i64.wrap (B[k].toNat : Int) = (B[k].toNat : Int) := by rw [IntKind.wrap_i64]; have := B[k].toNat_lt; omega
          clear h2 ht h42
          go_wp2_with (go_at_call 19; refine (hasPrefix_any _ _ (by rw [mk_size, List.length_drop, bs_length]; omega)).mono ?_; rintro e w' ⟨rfl, rfl⟩; rw [bs_mk, H2.out])
          have qa := fun o => (cells3 (HC.out.alloc o).pat).1.2.1
          go_region_law ((refine step_append_lies _ (by rfl) _ _ 24 (by rfl) (w.heap.size + 2) 35 i35 (.int .i64 0) 1 8 Try.underlying24 hi hz0 hz1 hz2 rfl (by omega) v xs.length (cI xs) (by rfl) (HC.out.alloc _).drew.own ⟨w'.heap.size, 0, none⟩ 1 1 [.int .i64 (B[k].toNat : Int)] (by rfl) (by rfl) (cell_one_new w' (.int .i64 (B[k].toNat : Int)) 35) (by simp [Value.oneCell']) (by omega) (by unfold maxLen; omega) (by omega) (HC.out.alloc _).drew.size _ rfl ?_; intro g c w1 hown hgr hat hlt9; obtain ⟨⟨p0, p1, p2⟩, pf⟩ := cells3 ((HC.out.alloc _).drew.kept hgr).2.1; have pf1 := pf 1; have HN := hid_of ((HC.out.alloc _).drew.next (news := [(B[k].toNat : Int)]) hown hgr); clear hown hgr hat pf p0 p2 q1 qf1))
          all_goals
            go_wp2_with fail
            go_roundw
            case rel => exact ⟨k + 1, _, xs ++ [(B[k].toNat : Int)], by omega, by simp; omega, by go_num, HT.out, HN.out⟩
            case measure => simp [intOf]; omega
    · have HX : Hid (xs = GP.tok ((bs B).drop (L))) := by
        have h := HE.out
        rw [tok_at_end B k (by omega), List.append_nil] at h
        exact h
      clear HE
      clear QR
      have tok1 : True := trivial
      go_wp2_with (at_builtin; have _t := tok1; refine wpList_append_lies (wr.alloc (.cells #[.int .i64 47, .int .i64 257] 35)) (by rfl) _ _ 24 (by rfl) (w.heap.size + 2) 35 i35 (.int .i64 0) 1 8 Try.underlying24 hi hz0 hz1 hz2 rfl (by omega) v xs.length (cI xs) (by rfl) (HC.out.alloc _).own ⟨wr.heap.size, 0, none⟩ 2 2 [.int .i64 47, .int .i64 257] (by rfl) rfl (World.news_of_block (cs := #[.int .i64 47, .int .i64 257]) (heap_alloc_new wr _)) (by simp [Value.oneCell']) (by omega) (by unfold maxLen; omega) (by omega) (HC.out.alloc _).size _ rfl ?_; intro g c w1 hown hgr hat hlt9; obtain ⟨⟨p0, p1, p2⟩, pf⟩ := cells3 ((HC.out.alloc _).kept hgr).2.1; have pf1 := pf 1; obtain ⟨⟨r0, r1, r2⟩, rf⟩ := cells3 ((HC.out.alloc _).kept hgr).1; have rf0 := rf 0; have rf1 := rf 1; have rf2 := rf 2; have HN := hid_of ((HC.out.alloc _).next (news := [47, 257]) hown hgr); clear hown hgr hat pf rf q0 q1 q2 qf1 HC tok1)
      exact bodyPost_ret (v := .agg #[.string (B.extract 0 L), .slice (some ⟨g, 0, none⟩) (xs.length + 2) c, .bool true]) (by simp [results, Try.results9, go_sem, r0, r1, r2]) rfl ⟨_, rfl, by rw [← HX.out]; exact HN.out.done⟩

end Go.Proofs.Qxb6603042a
