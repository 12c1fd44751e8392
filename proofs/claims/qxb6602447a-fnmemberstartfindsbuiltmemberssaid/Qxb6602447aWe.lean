/- Walks: memberStart. -/
import Derived.Test.Qxb6602447aWd
namespace Go.Proofs.Qxb6602447a
open Go.RowKit

/-- A member of an object at i: its name's quote, the end of its name, its colon; no blank around the colon. -/
structure Mem (d : List Int) (i ne : Nat) : Prop where
  lt : ne < d.length
  room : i + 2 ≤ ne
  quote : d.getD i 0 = 34
  name : JF.ans (i + 1) (JF.strE (d.drop (i + 1)) false) = (ne : Int)
  s0 : JF.skip (d.drop ne) = 0
  colon : d.getD ne 0 = 58
  s1 : JF.skip (d.drop (ne + 1)) = 0

theorem row_convert {w : World} {b o : Nat} {d : List Int} (hr : Row w b o d) (j n c : Nat) (h : j + n ≤ d.length) :
    (convert 22 9 (.slice (some ⟨b, o + j, none⟩) n c)).run Try.prog w = .ok (.string (strOfNums ((d.drop j).take n))) w := by
  refine run_convert_bytes_arg w 22 5 Try.underlying22 Try.underlying5 b (o + j) n c ((d.drop j).take n) ?_ ?_ 9 Try.underlying9
  · simp; omega
  · intro i hi
    have := hr (j + i) (by omega)
    rw [← Nat.add_assoc] at this
    rw [this]
    congr 2
    simp only [List.getD, List.getElem?_take, List.getElem?_drop, if_pos hi]

set_option maxHeartbeats 400000 in
theorem memberStart_first (b o cap ne : Nat) (d : List Int) (s : ByteArray) (w : World) (hr : Row w b o d) (hm : d.length ≤ 4000000) (hcap : d.length ≤ cap)
    (k0 : JF.skip (d.drop 0) = 0) (k1 : JF.skip (d.drop 1) = 0) (hbr : d.getD 0 0 = 123) (hM : Mem d 1 ne)
    (hs : s = strOfNums ((d.drop 2).take (ne - 3))) :
    Calls Try.prog 25 #[.slice (some ⟨b, o, none⟩) d.length cap, .string s] w fun e w' => e = .returned (.tuple #[.int .i64 ((ne : Int) + 1), .bool true]) ∧ w' = w := by
  obtain ⟨lt, room, quote, name, s0, colon, s1⟩ := hM
  have hpos : 0 < d.length := by omega
  have c0 := hr 0 (by omega)
  rw [hbr, Nat.add_zero] at c0
  have c1 := hr 1 (by omega)
  rw [quote] at c1
  have c2 := hr ne (by omega)
  rw [colon] at c2
  have H : Hid (Row w b o d ∧ JF.skip (d.drop 0) = 0 ∧ JF.skip (d.drop 1) = 0 ∧ JF.ans (1 + 1) (JF.strE (d.drop (1 + 1)) false) = (ne : Int) ∧ JF.skip (d.drop ne) = 0 ∧ JF.skip (d.drop (ne + 1)) = 0) := ⟨hr, k0, k1, name, s0, s1⟩
  have HS : Hid (s = strOfNums ((d.drop 2).take (ne - 3))) := hs
  have hcv := row_convert hr 2 (ne - 1 - 2) (cap - 2) (by omega)
  rw [show ne - 1 - 2 = ne - 3 from by omega, ← hs, show ne - 3 = ne - 1 - 2 from by omega] at hcv
  clear hr k0 k1 name s0 s1 hbr quote colon hs
  have t0 : ((0 : Int) == (d.length : Int)) = false := by simp; omega
  have t2 : ((ne : Int) == (d.length : Int)) = false := by simp; omega
  go_enter Try.func25, Try.ntmps25
  go_wp2_with fail
  refine (space_any _ _ _ d _ _ H.out.1 (by omega) (by omega) hm).mono ?_
  rintro e w' ⟨rfl, rfl⟩
  rw [show (0 : Int).toNat = 0 from rfl, H.out.2.1]
  go_wp2_with fail
  refine (space_any _ _ _ d _ _ H.out.1 (by omega) (by omega) hm).mono ?_
  rintro e w' ⟨rfl, rfl⟩
  rw [show (1 : Int).toNat = 1 from rfl, H.out.2.2.1]
  go_wp2_with fail
  refine wp_loop_rounds 1 ?_
  rw [rounds_succ]
  go_wp2_with fail
  refine (stringEnd_any _ _ _ d _ _ H.out.1 (by omega) (by omega) hm).mono ?_
  rintro e w' ⟨rfl, rfl⟩
  rw [show (1 : Int).toNat = 1 from rfl, H.out.2.2.2.1]
  go_wp2_with fail
  refine (space_any _ _ _ d _ _ H.out.1 (by omega) (by omega) hm).mono ?_
  rintro e w' ⟨rfl, rfl⟩
  rw [Int.toNat_natCast, H.out.2.2.2.2.1]
  go_wp2_with fail
  refine (space_any _ _ _ d _ _ H.out.1 (by omega) (by omega) hm).mono ?_
  rintro e w' ⟨rfl, rfl⟩
  rw [show ((ne : Int) + 1).toNat = ne + 1 from by omega, H.out.2.2.2.2.2]
  go_wp2_with fail
  go_ret2
  exact ⟨rfl, rfl⟩

set_option maxHeartbeats 1000000 in
theorem memberStart_second (b o cap ne e1 nf : Nat) (d : List Int) (s s1 : ByteArray) (w : World) (hr : Row w b o d) (hb : Bytes d) (hm : d.length ≤ 4000000) (hcap : d.length ≤ cap)
    (k0 : JF.skip (d.drop 0) = 0) (k1 : JF.skip (d.drop 1) = 0) (hbr : d.getD 0 0 = 123) (hM : Mem d 1 ne)
    (hs1 : s1 = strOfNums ((d.drop 2).take (ne - 3))) (hne : (s1.toList == s.toList) = false)
    (hv : JF.ans (ne + 1) (JF.valE (d.drop (ne + 1))) = (e1 : Int)) (he : ne + 1 ≤ e1) (k2 : JF.skip (d.drop e1) = 0) (hcm : d.getD e1 0 = 44) (k3 : JF.skip (d.drop (e1 + 1)) = 0)
    (hN : Mem d (e1 + 1) nf) (hs : s = strOfNums ((d.drop (e1 + 2)).take (nf - 1 - (e1 + 2)))) :
    Calls Try.prog 25 #[.slice (some ⟨b, o, none⟩) d.length cap, .string s] w fun e w' => e = .returned (.tuple #[.int .i64 ((nf : Int) + 1), .bool true]) ∧ ∃ n, w' = w.drewN n := by
  obtain ⟨lt, room, quote, name, s0, colon, ss1⟩ := hM
  obtain ⟨lt2, room2, quote2, name2, s02, colon2, ss12⟩ := hN
  have hpos : 0 < d.length := by omega
  have c0 := hr 0 (by omega)
  rw [hbr, Nat.add_zero] at c0
  have c1 := hr 1 (by omega)
  rw [quote] at c1
  have c2 := hr ne (by omega)
  rw [colon] at c2
  have c3 := hr e1 (by omega)
  rw [hcm] at c3
  have c4 := hr (e1 + 1) (by omega)
  rw [quote2] at c4
  have c5 := hr nf (by omega)
  rw [colon2] at c5
  have H : Hid (Row w b o d ∧ JF.skip (d.drop 0) = 0 ∧ JF.skip (d.drop 1) = 0 ∧ JF.ans (1 + 1) (JF.strE (d.drop (1 + 1)) false) = (ne : Int) ∧ JF.skip (d.drop ne) = 0 ∧ JF.skip (d.drop (ne + 1)) = 0) := ⟨hr, k0, k1, name, s0, ss1⟩
  have H2 : Hid (Bytes d ∧ JF.ans (ne + 1) (JF.valE (d.drop (ne + 1))) = (e1 : Int) ∧ JF.skip (d.drop e1) = 0 ∧ JF.skip (d.drop (e1 + 1)) = 0) := ⟨hb, hv, k2, k3⟩
  have H3 : Hid (JF.ans (e1 + 1 + 1) (JF.strE (d.drop (e1 + 1 + 1)) false) = (nf : Int) ∧ JF.skip (d.drop nf) = 0 ∧ JF.skip (d.drop (nf + 1)) = 0) := ⟨name2, s02, ss12⟩
  have hcv := row_convert hr 2 (ne - 1 - 2) (cap - 2) (by omega)
  rw [show ne - 1 - 2 = ne - 3 from by omega, ← hs1, show ne - 3 = ne - 1 - 2 from by omega] at hcv
  have HC : Hid (∀ n, (convert 22 9 (.slice (some ⟨b, o + (e1 + 2), none⟩) (nf - 1 - (e1 + 2)) (cap - (e1 + 2)))).run Try.prog (w.drewN n) = .ok (.string s) (w.drewN n)) := by
    intro n
    have := row_convert (hr.drewN n) (e1 + 2) (nf - 1 - (e1 + 2)) (cap - (e1 + 2)) (by omega)
    rw [← hs] at this
    exact this
  clear hr k0 k1 name s0 ss1 hbr quote colon hs k2 k3 hv hb hcm name2 s02 ss12 quote2 colon2 hs1
  have t0 : ((0 : Int) == (d.length : Int)) = false := by simp; omega
  have t2 : ((ne : Int) == (d.length : Int)) = false := by simp; omega
  have t3 : ((e1 : Int) == (d.length : Int)) = false := by simp; omega
  have t4 : ((nf : Int) == (d.length : Int)) = false := by simp; omega
  go_enter Try.func25, Try.ntmps25
  go_wp2_with fail
  refine (space_any _ _ _ d _ _ H.out.1 (by omega) (by omega) hm).mono ?_
  rintro e w' ⟨rfl, rfl⟩
  rw [show (0 : Int).toNat = 0 from rfl, H.out.2.1]
  go_wp2_with fail
  refine (space_any _ _ _ d _ _ H.out.1 (by omega) (by omega) hm).mono ?_
  rintro e w' ⟨rfl, rfl⟩
  rw [show (1 : Int).toNat = 1 from rfl, H.out.2.2.1]
  go_wp2_with fail
  refine wp_loop_rounds 2 ?_
  rw [rounds_succ]
  go_wp2_with fail
  refine (stringEnd_any _ _ _ d _ _ H.out.1 (by omega) (by omega) hm).mono ?_
  rintro e w' ⟨rfl, rfl⟩
  rw [show (1 : Int).toNat = 1 from rfl, H.out.2.2.2.1]
  go_wp2_with fail
  refine (space_any _ _ _ d _ _ H.out.1 (by omega) (by omega) hm).mono ?_
  rintro e w' ⟨rfl, rfl⟩
  rw [Int.toNat_natCast, H.out.2.2.2.2.1]
  go_wp2_with fail
  refine (space_any _ _ _ d _ _ H.out.1 (by omega) (by omega) hm).mono ?_
  rintro e w' ⟨rfl, rfl⟩
  rw [show ((ne : Int) + 1).toNat = ne + 1 from by omega, H.out.2.2.2.2.2]
  go_wp2_with fail
  refine (valueEnd_any _ _ _ d _ _ H.out.1 H2.out.1 (by omega) (by omega) hm).mono ?_
  rintro e w'' ⟨rfl, n, rfl⟩
  rw [show ((ne : Int) + 1).toNat = ne + 1 from by omega, H2.out.2.1]
  have hcv2 := HC.out n
  clear hcv
  go_wp2_with fail
  refine (space_any _ _ _ d _ _ (H.out.1.drewN n) (by omega) (by omega) hm).mono ?_
  rintro e wx ⟨rfl, hwx⟩
  subst hwx
  rw [Int.toNat_natCast, H2.out.2.2.1]
  go_wp2_with fail
  refine (space_any _ _ _ d _ _ (H.out.1.drewN n) (by omega) (by omega) hm).mono ?_
  rintro e wx ⟨rfl, hwx⟩
  subst hwx
  rw [show ((e1 : Int) + 1).toNat = e1 + 1 from by omega, H2.out.2.2.2]
  go_wp2_with fail
  rw [rounds_succ]
  go_wp2_with fail
  refine (stringEnd_any _ _ _ d _ _ (H.out.1.drewN n) (by omega) (by omega) hm).mono ?_
  rintro e wx ⟨rfl, hwx⟩
  subst hwx
  rw [show ((e1 : Int) + 1).toNat = e1 + 1 from by omega, H3.out.1]
  go_wp2_with fail
  refine (space_any _ _ _ d _ _ (H.out.1.drewN n) (by omega) (by omega) hm).mono ?_
  rintro e wx ⟨rfl, hwx⟩
  subst hwx
  rw [Int.toNat_natCast, H3.out.2.1]
  go_wp2_with fail
  refine (space_any _ _ _ d _ _ (H.out.1.drewN n) (by omega) (by omega) hm).mono ?_
  rintro e wx ⟨rfl, hwx⟩
  subst hwx
  rw [show ((nf : Int) + 1).toNat = nf + 1 from by omega, H3.out.2.2]
  go_wp2_with fail
  go_ret2
  exact ⟨rfl, n, rfl⟩

end Go.Proofs.Qxb6602447a
