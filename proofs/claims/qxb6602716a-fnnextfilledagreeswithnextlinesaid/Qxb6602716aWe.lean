/- Walks: nextFilled. -/
import Derived.Test.Qxb6602716aWd
import Derived.Test.Qxb6602716aPlainB
import Derived.Deep.LoopGhost
namespace Go.Proofs.Qxb6602716a
open Go.RowKit

/-- nextLine in a world that has drawn. -/
theorem nextLine_yes' (T r : ByteArray) (off line m n : Nat) (l : List UInt8) (w : World) (hT : T.size ≤ 1048576) (ho : off ≤ T.size) (hl : line ≤ T.size) (hn : CL.nl ((bs T).drop off) = some (m, l)) :
    Calls Try.prog 21 #[.pointer (some ⟨w.heap.size, 0, none⟩)] ((w.alloc (.cells #[.string T, .int .i64 (off : Int), .int .i64 (line : Int), .string r, .slice none 0 0, .slice none 0 0] 39)).drewN n) fun en w' =>
      en = .returned (.bool true) ∧ ∃ n, w' = (w.alloc (.cells #[.string T, .int .i64 ((off + m : Nat) : Int), .int .i64 ((line + 1 : Nat) : Int), .string (mk l), .slice none 0 0, .slice none 0 0] 39)).drewN n := by
  have h := nextLine_yes T r off line m l (w.drewN n) hT ho hl hn
  rw [drewN_size, ← drewN_alloc] at h
  refine h.mono ?_
  rintro e w' ⟨rfl, k, rfl⟩
  exact ⟨rfl, n + k, by rw [← drewN_alloc, World.drewN_drewN]⟩

theorem nextLine_no' (T r : ByteArray) (off line n : Nat) (w : World) (hT : T.size ≤ 1048576) (ho : off ≤ T.size) (hn : CL.nl ((bs T).drop off) = none) :
    Calls Try.prog 21 #[.pointer (some ⟨w.heap.size, 0, none⟩)] ((w.alloc (.cells #[.string T, .int .i64 (off : Int), .int .i64 (line : Int), .string r, .slice none 0 0, .slice none 0 0] 39)).drewN n) fun en w' =>
      en = .returned (.bool false) ∧ ∃ n, w' = (w.alloc (.cells #[.string T, .int .i64 (T.size : Int), .int .i64 (line : Int), .string r, .slice none 0 0, .slice none 0 0] 39)).drewN n := by
  have h := nextLine_no T r off line (w.drewN n) hT ho hn
  rw [drewN_size, ← drewN_alloc] at h
  refine h.mono ?_
  rintro e w' ⟨rfl, k, rfl⟩
  exact ⟨rfl, n + k, by rw [← drewN_alloc, World.drewN_drewN]⟩

/-- What nextFilled leaves. -/
def Filled (T : ByteArray) (off k : Nat) (w : World) (en : Ending) (w' : World) : Prop :=
  (∃ (k' off' : Nat) (l : List UInt8) (n : Nat), en = .returned (.bool true) ∧ l ≠ [] ∧ CL.E (bs T) off k = (k', off', l) :: CL.E (bs T) off' k' ∧ CL.N (bs T) off' k' = CL.N (bs T) off k ∧ off < off' ∧ off' ≤ T.size ∧ k' ≤ off' ∧
    w' = (w.alloc (.cells #[.string T, .int .i64 (off' : Int), .int .i64 (k' : Int), .string (mk l), .slice none 0 0, .slice none 0 0] 39)).drewN n) ∨
  (∃ (k' : Nat) (r : ByteArray) (n : Nat), en = .returned (.bool false) ∧ CL.E (bs T) off k = [] ∧ k' = CL.N (bs T) off k ∧ k' ≤ T.size ∧
    w' = (w.alloc (.cells #[.string T, .int .i64 (T.size : Int), .int .i64 (k' : Int), .string r, .slice none 0 0, .slice none 0 0] 39)).drewN n)

set_option maxHeartbeats 400000 in
theorem nextFilled_any (T r0 : ByteArray) (off0 k0 : Nat) (w : World) (hT : T.size ≤ 1048576) (ho : off0 ≤ T.size) (hk : k0 ≤ off0) :
    Calls Try.prog 22 #[.pointer (some ⟨w.heap.size, 0, none⟩)] (w.alloc (.cells #[.string T, .int .i64 (off0 : Int), .int .i64 (k0 : Int), .string r0, .slice none 0 0, .slice none 0 0] 39)) fun en w' => Filled T off0 k0 w en w' := by
  go_enter Try.func22, Try.ntmps22
  go_wp2_with fail
  go_loopg [] (T.size - off0) (fun gk wr => ∃ (off k n : Nat) (r : ByteArray), gk = T.size - off ∧ off0 ≤ off ∧ off ≤ T.size ∧ k ≤ off ∧ CL.E (bs T) off k = CL.E (bs T) off0 k0 ∧ CL.N (bs T) off k = CL.N (bs T) off0 k0 ∧
      wr = (w.alloc (.cells #[.string T, .int .i64 (off : Int), .int .i64 (k : Int), .string r, .slice none 0 0, .slice none 0 0] 39)).drewN n)
  case atStart => exact ⟨off0, k0, 0, r0, rfl, Nat.le_refl _, ho, hk, rfl, rfl, rfl⟩
  case round =>
    obtain ⟨off, k, n, r, hgk, h0, h1, h2, hE, hN, rfl⟩ := hrel
    have HG := hid_of hgk
    have HE := hid_of hE
    have HN := hid_of hN
    have hlen : off ≤ (bs T).length := by rw [bs_length]; exact h1
    clear hgk hE hN
    cases hn : CL.nl ((bs T).drop off) with
    | none =>
      have HL := hid_of hn
      have HA : Hid (CL.E (bs T) off0 k0 = []) := HE.out.symm.trans (CL.E_none hlen hn)
      have HB : Hid (k = CL.N (bs T) off0 k0) := (CL.N_none hlen hn).symm.trans HN.out
      clear hn hlen
      go_wp2_with fail
      refine (nextLine_no' T r off k n w hT h1 HL.out).mono ?_
      rintro e w1 ⟨rfl, n1, hw1⟩
      subst hw1
      go_wp2_with fail
      go_ret
      exact .inr ⟨k, r, n1, rfl, HA.out, HB.out, by omega, rfl⟩
    | some p =>
      obtain ⟨m, l⟩ := p
      have HL := hid_of hn
      obtain ⟨hm1, hm2, _⟩ := CL.nl_bd hn
      rw [List.length_drop, bs_length] at hm2
      by_cases hl : l = []
      · subst hl
        have HA : Hid (CL.E (bs T) (off + m) (k + 1) = CL.E (bs T) off0 k0) := (CL.E_blank hlen hn).symm.trans HE.out
        have HB : Hid (CL.N (bs T) (off + m) (k + 1) = CL.N (bs T) off0 k0) := (CL.N_some hlen hn).symm.trans HN.out
        have t1 : (mk []).toList = [] := toList_bs _
        clear hn hlen
        go_wp2_with fail
        refine (nextLine_yes' T r off k m n [] w hT h1 (by omega) HL.out).mono ?_
        rintro e w1 ⟨rfl, n1, hw1⟩
        subst hw1
        go_wp2_with fail
        go_roundg (T.size - (off + m))
        case measure => rw [HG.out]; omega
        case rel => exact ⟨off + m, k + 1, n1, mk [], rfl, by omega, by omega, by omega, HA.out, HB.out, rfl⟩
      · have HA : Hid (CL.E (bs T) off0 k0 = (k + 1, off + m, l) :: CL.E (bs T) (off + m) (k + 1)) := HE.out.symm.trans (CL.E_full hlen hn hl)
        have HB : Hid (CL.N (bs T) (off + m) (k + 1) = CL.N (bs T) off0 k0) := (CL.N_some hlen hn).symm.trans HN.out
        have t1 : (mk l).toList.isEmpty = false := by rw [isEmpty_mk]; exact List.isEmpty_eq_false_iff.2 hl
        have HX := hid_of hl
        clear hn hlen hl
        go_wp2_with fail
        refine (nextLine_yes' T r off k m n l w hT h1 (by omega) HL.out).mono ?_
        rintro e w1 ⟨rfl, n1, hw1⟩
        subst hw1
        go_wp2_with fail
        go_ret
        exact .inl ⟨k + 1, off + m, l, n1, rfl, HX.out, HA.out, HB.out, by omega, by omega, by omega, rfl⟩

/-- What ZZNextFilled answers. -/
def Answer (T : ByteArray) (off k : Nat) (w : World) (en : Ending) (w' : World) : Prop :=
  (∃ (k' off' : Nat) (l : List UInt8), en = .returned (.tuple #[.bool true, .int .i64 (off' : Int), .int .i64 (k' : Int), .string (mk l)]) ∧ l ≠ [] ∧ CL.E (bs T) off k = (k', off', l) :: CL.E (bs T) off' k' ∧ CL.N (bs T) off' k' = CL.N (bs T) off k ∧ off < off' ∧ off' ≤ T.size ∧ k' ≤ off' ∧ Below w.heap.size w w') ∨
  (∃ (k' : Nat) (r : ByteArray), en = .returned (.tuple #[.bool false, .int .i64 (T.size : Int), .int .i64 (k' : Int), .string r]) ∧ CL.E (bs T) off k = [] ∧ k' = CL.N (bs T) off k ∧ k' ≤ T.size ∧ Below w.heap.size w w')

set_option maxHeartbeats 400000 in
theorem zzNextFilled_any (T r0 : ByteArray) (off k : Nat) (w : World) (hT : T.size ≤ 1048576) (ho : off ≤ T.size) (hk : k ≤ off) :
    Calls Try.prog 13 #[.string T, .int .i64 (off : Int), .int .i64 (k : Int), .string r0] w fun en w' => Answer T off k w en w' := by
  go_enter Try.func13, Try.ntmps13
  go_wp2_with fail
  refine (nextFilled_any T r0 off k w hT ho hk).mono ?_
  rintro e w1 (⟨k', off', l, n, rfl, hl, hE, hN, h1, h2, h3, hw⟩ | ⟨k', r, n, rfl, hE, hN, h1, hw⟩)
  · have HX := hid_of (And.intro hl (And.intro hE hN))
    clear hl hE hN
    subst hw
    go_wp2_with fail
    go_quiet (fail)
    go_wp2_with fail
    exact bodyPost_ret (v := .tuple #[.bool true, .int .i64 (off' : Int), .int .i64 (k' : Int), .string (mk l)]) (by simp [results, Try.results13, go_sem]) rfl (.inl ⟨k', off', l, rfl, HX.out.1, HX.out.2.1, HX.out.2.2, h1, h2, h3, below_new⟩)
  · have HX := hid_of (And.intro hE hN)
    clear hE hN
    subst hw
    go_wp2_with fail
    go_quiet (fail)
    go_wp2_with fail
    exact bodyPost_ret (v := .tuple #[.bool false, .int .i64 (T.size : Int), .int .i64 (k' : Int), .string r]) (by simp [results, Try.results13, go_sem]) rfl (.inr ⟨k', r, rfl, HX.out.1, HX.out.2, h1, below_new⟩)

end Go.Proofs.Qxb6602716a
