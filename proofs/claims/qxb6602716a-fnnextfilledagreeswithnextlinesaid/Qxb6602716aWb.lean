/- Walks: nextLine. -/
import Derived.Test.Qxb6602716aWa
namespace Go.Proofs.Qxb6602716a
open Go.RowKit

theorem drewN_alloc (w : World) (o : Obj) : ∀ n, (w.alloc o).drewN n = (w.drewN n).alloc o
  | 0 => rfl
  | _ + 1 => rfl
theorem drewN_size (w : World) : ∀ n, (w.drewN n).heap.size = w.heap.size
  | 0 => rfl
  | _ + 1 => rfl

set_option maxHeartbeats 400000 in
theorem nextLine_feed (T r : ByteArray) (off line e : Nat) (w : World) (hT : T.size ≤ 1048576) (ho : off ≤ T.size) (hl : line ≤ T.size) (he : CL.fd ((bs T).drop off) = some e) :
    Calls Try.prog 21 #[.pointer (some ⟨w.heap.size, 0, none⟩)] (w.alloc (.cells #[.string T, .int .i64 (off : Int), .int .i64 (line : Int), .string r, .slice none 0 0, .slice none 0 0] 39)) fun en w' =>
      en = .returned (.bool true) ∧ ∃ n, w' = (w.alloc (.cells #[.string T, .int .i64 ((off + (e + 1) : Nat) : Int), .int .i64 ((line + 1 : Nat) : Int), .string (mk (CL.trim (((bs T).drop off).take e))), .slice none 0 0, .slice none 0 0] 39)).drewN n := by
  have hlt := (CL.fd_some he).1
  rw [List.length_drop, bs_length] at hlt
  have HF : Hid (fdI (bs (T.extract off T.size)) = (e : Int)) := by rw [extract_end, bs_mk]; unfold fdI; rw [he]; rfl
  have HX : Hid ((T.extract off T.size).extract 0 e = mk (((bs T).drop off).take e)) := by rw [extract_end, extract_start, bs_mk]; rfl
  have HZ : ((T.extract off T.size)).size = T.size - off := by simp
  clear he
  go_enter Try.func21, Try.ntmps21
  go_wp2_with fail
  go_quiet (fail)
  rw [drewN_alloc]
  obtain ⟨w1, hw1, hz1⟩ : ∃ w1 : World, w1 = w.drewN nq ∧ w1.heap.size = w.heap.size := ⟨_, rfl, drewN_size w nq⟩
  rw [← hw1, ← hz1]
  have HW : Hid (w1 = w.drewN nq) := hw1
  clear hw1
  go_wp2_with fail
  refine (indexFeed_any _ _).mono ?_
  rintro en w2 ⟨rfl, hw⟩
  subst hw
  rw [HF.out]
  go_wp2_with fail
  rw [HX.out]
  refine (trimSuffix_any _ _ (by rw [mk_size, List.length_take]; omega)).mono ?_
  rintro en w2 ⟨rfl, hw⟩
  subst hw
  rw [bs_mk]
  go_wp2_with fail
  go_ret
  refine ⟨rfl, nq, ?_⟩
  rw [drewN_alloc, ← HW.out]

theorem isEmpty_mk (l : List UInt8) : (mk l).toList.isEmpty = l.isEmpty := by rw [toList_bs, bs_mk]

set_option maxHeartbeats 400000 in
theorem nextLine_last (T r : ByteArray) (off line : Nat) (w : World) (hT : T.size ≤ 1048576) (ho : off ≤ T.size) (hl : line ≤ T.size) (he : CL.fd ((bs T).drop off) = none) (ht : CL.trim ((bs T).drop off) ≠ []) :
    Calls Try.prog 21 #[.pointer (some ⟨w.heap.size, 0, none⟩)] (w.alloc (.cells #[.string T, .int .i64 (off : Int), .int .i64 (line : Int), .string r, .slice none 0 0, .slice none 0 0] 39)) fun en w' =>
      en = .returned (.bool true) ∧ ∃ n, w' = (w.alloc (.cells #[.string T, .int .i64 (T.size : Int), .int .i64 ((line + 1 : Nat) : Int), .string (mk (CL.trim ((bs T).drop off))), .slice none 0 0, .slice none 0 0] 39)).drewN n := by
  have HF : Hid (fdI (bs (T.extract off T.size)) = -1) := by rw [extract_end, bs_mk]; unfold fdI; rw [he]; rfl
  have HX : Hid (T.extract off T.size = mk ((bs T).drop off)) := extract_end T off
  have HE : (mk (CL.trim ((bs T).drop off))).toList.isEmpty = false := by rw [isEmpty_mk]; simpa using ht
  clear he ht
  go_enter Try.func21, Try.ntmps21
  go_wp2_with fail
  go_quiet (fail)
  rw [drewN_alloc]
  obtain ⟨w1, hw1, hz1⟩ : ∃ w1 : World, w1 = w.drewN nq ∧ w1.heap.size = w.heap.size := ⟨_, rfl, drewN_size w nq⟩
  rw [← hw1, ← hz1]
  have HW : Hid (w1 = w.drewN nq) := hw1
  clear hw1
  go_wp2_with fail
  refine (indexFeed_any _ _).mono ?_
  rintro en w2 ⟨rfl, hw⟩
  subst hw
  rw [HF.out]
  go_wp2_with fail
  rw [HX.out]
  refine (trimSuffix_any _ _ (by rw [mk_size, List.length_drop, bs_length]; omega)).mono ?_
  rintro en w2 ⟨rfl, hw⟩
  subst hw
  rw [bs_mk]
  go_wp2_with fail
  go_ret
  refine ⟨rfl, nq, ?_⟩
  rw [drewN_alloc, ← HW.out]
  rfl

set_option maxHeartbeats 400000 in
theorem nextLine_stop (T r : ByteArray) (off line : Nat) (w : World) (hT : T.size ≤ 1048576) (ho : off ≤ T.size) (he : CL.fd ((bs T).drop off) = none) (ht : CL.trim ((bs T).drop off) = []) :
    Calls Try.prog 21 #[.pointer (some ⟨w.heap.size, 0, none⟩)] (w.alloc (.cells #[.string T, .int .i64 (off : Int), .int .i64 (line : Int), .string r, .slice none 0 0, .slice none 0 0] 39)) fun en w' =>
      en = .returned (.bool false) ∧ ∃ n, w' = (w.alloc (.cells #[.string T, .int .i64 (T.size : Int), .int .i64 (line : Int), .string r, .slice none 0 0, .slice none 0 0] 39)).drewN n := by
  have HF : Hid (fdI (bs (T.extract off T.size)) = -1) := by rw [extract_end, bs_mk]; unfold fdI; rw [he]; rfl
  have HX : Hid (T.extract off T.size = mk ((bs T).drop off)) := extract_end T off
  have HE : (mk (CL.trim ((bs T).drop off))).toList.isEmpty = true := by rw [isEmpty_mk]; simpa using ht
  clear he ht
  go_enter Try.func21, Try.ntmps21
  go_wp2_with fail
  go_quiet (fail)
  rw [drewN_alloc]
  obtain ⟨w1, hw1, hz1⟩ : ∃ w1 : World, w1 = w.drewN nq ∧ w1.heap.size = w.heap.size := ⟨_, rfl, drewN_size w nq⟩
  rw [← hw1, ← hz1]
  have HW : Hid (w1 = w.drewN nq) := hw1
  clear hw1
  go_wp2_with fail
  refine (indexFeed_any _ _).mono ?_
  rintro en w2 ⟨rfl, hw⟩
  subst hw
  rw [HF.out]
  go_wp2_with fail
  rw [HX.out]
  refine (trimSuffix_any _ _ (by rw [mk_size, List.length_drop, bs_length]; omega)).mono ?_
  rintro en w2 ⟨rfl, hw⟩
  subst hw
  rw [bs_mk]
  go_wp2_with fail
  go_ret
  refine ⟨rfl, nq, ?_⟩
  rw [drewN_alloc, ← HW.out]

/-- nextLine where there is a line. -/
theorem nextLine_yes (T r : ByteArray) (off line m : Nat) (l : List UInt8) (w : World) (hT : T.size ≤ 1048576) (ho : off ≤ T.size) (hl : line ≤ T.size) (hn : CL.nl ((bs T).drop off) = some (m, l)) :
    Calls Try.prog 21 #[.pointer (some ⟨w.heap.size, 0, none⟩)] (w.alloc (.cells #[.string T, .int .i64 (off : Int), .int .i64 (line : Int), .string r, .slice none 0 0, .slice none 0 0] 39)) fun en w' =>
      en = .returned (.bool true) ∧ ∃ n, w' = (w.alloc (.cells #[.string T, .int .i64 ((off + m : Nat) : Int), .int .i64 ((line + 1 : Nat) : Int), .string (mk l), .slice none 0 0, .slice none 0 0] 39)).drewN n := by
  unfold CL.nl at hn
  cases hf : CL.fd ((bs T).drop off) with
  | some e =>
    rw [hf] at hn
    simp only [Option.some.injEq, Prod.mk.injEq] at hn
    obtain ⟨rfl, rfl⟩ := hn
    exact nextLine_feed T r off line e w hT ho hl hf
  | none =>
    rw [hf] at hn
    simp only at hn
    split at hn
    · cases hn
    · rename_i ht
      simp only [Option.some.injEq, Prod.mk.injEq] at hn
      obtain ⟨rfl, rfl⟩ := hn
      rw [List.length_drop, bs_length, show off + (T.size - off) = T.size from by omega]
      exact nextLine_last T r off line w hT ho hl hf ht

/-- nextLine where there is none. -/
theorem nextLine_no (T r : ByteArray) (off line : Nat) (w : World) (hT : T.size ≤ 1048576) (ho : off ≤ T.size) (hn : CL.nl ((bs T).drop off) = none) :
    Calls Try.prog 21 #[.pointer (some ⟨w.heap.size, 0, none⟩)] (w.alloc (.cells #[.string T, .int .i64 (off : Int), .int .i64 (line : Int), .string r, .slice none 0 0, .slice none 0 0] 39)) fun en w' =>
      en = .returned (.bool false) ∧ ∃ n, w' = (w.alloc (.cells #[.string T, .int .i64 (T.size : Int), .int .i64 (line : Int), .string r, .slice none 0 0, .slice none 0 0] 39)).drewN n := by
  unfold CL.nl at hn
  cases hf : CL.fd ((bs T).drop off) with
  | some e => rw [hf] at hn; simp at hn
  | none =>
    rw [hf] at hn
    simp only at hn
    split at hn
    · rename_i ht
      exact nextLine_stop T r off line w hT ho hf ht
    · cases hn

theorem below_new {w : World} {o : Obj} {n m : Nat} : Below w.heap.size w (((w.alloc o).drewN n).drewN m) :=
  ⟨rfl, rfl, rfl, by simp, fun k hk => Below.heap_alloc w o k hk⟩

set_option maxHeartbeats 400000 in
theorem zzNextLine_yes (T r : ByteArray) (off line m : Nat) (l : List UInt8) (w : World) (hT : T.size ≤ 1048576) (ho : off ≤ T.size) (hl : line ≤ T.size) (hn : CL.nl ((bs T).drop off) = some (m, l)) :
    Calls Try.prog 8 #[.string T, .int .i64 (off : Int), .int .i64 (line : Int), .string r] w fun en w' =>
      en = .returned (.tuple #[.bool true, .int .i64 ((off + m : Nat) : Int), .int .i64 ((line + 1 : Nat) : Int), .string (mk l)]) ∧ Below w.heap.size w w' := by
  have HN := hid_of (nextLine_yes T r off line m l w hT ho hl hn)
  clear hn
  go_enter Try.func8, Try.ntmps8
  go_wp2_with fail
  refine HN.out.mono ?_
  rintro en w1 ⟨rfl, n, hw⟩
  subst hw
  go_wp2_with fail
  go_quiet (fail)
  go_wp2_with fail
  exact bodyPost_ret (v := .tuple #[.bool true, .int .i64 ((off + m : Nat) : Int), .int .i64 ((line + 1 : Nat) : Int), .string (mk l)]) (by simp [results, Try.results8, go_sem]) rfl ⟨rfl, below_new⟩

set_option maxHeartbeats 400000 in
theorem zzNextLine_no (T r : ByteArray) (off line : Nat) (w : World) (hT : T.size ≤ 1048576) (ho : off ≤ T.size) (hn : CL.nl ((bs T).drop off) = none) :
    Calls Try.prog 8 #[.string T, .int .i64 (off : Int), .int .i64 (line : Int), .string r] w fun en w' =>
      en = .returned (.tuple #[.bool false, .int .i64 (T.size : Int), .int .i64 (line : Int), .string r]) ∧ Below w.heap.size w w' := by
  have HN := hid_of (nextLine_no T r off line w hT ho hn)
  clear hn
  go_enter Try.func8, Try.ntmps8
  go_wp2_with fail
  refine HN.out.mono ?_
  rintro en w1 ⟨rfl, n, hw⟩
  subst hw
  go_wp2_with fail
  go_quiet (fail)
  go_wp2_with fail
  exact bodyPost_ret (v := .tuple #[.bool false, .int .i64 (T.size : Int), .int .i64 (line : Int), .string r]) (by simp [results, Try.results8, go_sem]) rfl ⟨rfl, below_new⟩

end Go.Proofs.Qxb6602716a
