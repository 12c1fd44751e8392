/- The walk of FnNextFilledAgreesWithNextLine. -/
import Derived.Test.Qxb6602716aWf
namespace Go.Proofs.Qxb6602716a
open Go.RowKit

set_option maxHeartbeats 400000 in
theorem zzBytes12 (T : ByteArray) (w : World) (hT : T.size ≤ maxLen) :
    Calls Try.prog 12 #[.string T] w fun e w' => (∃ b, e = .returned (.bool b)) ∧ w' = w := by
  unfold maxLen at hT
  go_enter Try.func12, Try.ntmps12
  go_wp2
  all_goals
    go_ret
    exact ⟨⟨_, rfl⟩, rfl⟩

theorem gath_snoc {w wr : World} {vl vo vr : Value} {xs : List Ent} {k off : Nat} {l : List UInt8}
    (h : Rows3 w wr vl vo vr (xs.length + 1) (xs.length + 1) (xs.length + 1) (cL xs ++ [.int .i64 ((k : Int) + 1)]) (cO xs ++ [.int .i64 (off : Int)]) (cR xs ++ [.string (mk l)])) : Gath w wr vl vo vr (xs ++ [(k + 1, off, l)]) := by
  unfold Gath
  rw [List.length_append]
  simpa [cL, cO, cR] using h

theorem own_form {w : World} {base : Nat} {e : TypeId} {v : Value} {n : Nat} {xs : List Value} (h : w.ownsRow base e 1 v n xs) : ∃ a c, v = .slice a n c := by
  rcases h.2 with ⟨h1, h2⟩ | ⟨g, c, _, h1, _⟩
  · exact ⟨none, 0, by rw [h1, h2]⟩
  · exact ⟨_, c, h1⟩

/-- The j-th filled line, read back. -/
theorem gath_at {w wr : World} {g3 g4 g5 c3 c4 c5 : Nat} {xs ys : List Ent} {j k off : Nat} {l : List UInt8}
    (h : Gath w wr (.slice (some ⟨g3, 0, none⟩) xs.length c3) (.slice (some ⟨g4, 0, none⟩) xs.length c4) (.slice (some ⟨g5, 0, none⟩) xs.length c5) xs) (hd : xs.drop j = (k, off, l) :: ys) :
    j < xs.length ∧ wr.cell? ⟨g3, j, none⟩ = some (.int .i64 (k : Int)) ∧ wr.cell? ⟨g4, j, none⟩ = some (.int .i64 (off : Int)) ∧ wr.cell? ⟨g5, j, none⟩ = some (.string (mk l)) ∧ xs.drop (j + 1) = ys := by
  have hj : j < xs.length := by
    rcases Nat.lt_or_ge j xs.length with h | h
    · exact h
    · rw [List.drop_eq_nil_of_le h] at hd; cases hd
  rw [List.drop_eq_getElem_cons hj] at hd
  simp only [List.cons.injEq] at hd
  obtain ⟨h1, h2⟩ := hd
  refine ⟨hj, ?_, ?_, ?_, h2⟩
  · rw [h.l.cellAt j (by omega), cL, List.getElem?_map, List.getElem?_eq_getElem hj, h1]; rfl
  · rw [h.o.cellAt j (by omega), cO, List.getElem?_map, List.getElem?_eq_getElem hj, h1]; rfl
  · rw [h.r.cellAt j (by omega), cR, List.getElem?_map, List.getElem?_eq_getElem hj, h1]; rfl

set_option maxHeartbeats 1000000 in
set_option maxRecDepth 100000 in
theorem agrees_all (T : ByteArray) (w : World) (hT : T.size ≤ maxLen) :
    Calls Try.prog 4 #[.string T] w fun e w' => e = .returned (.bool true) ∧ Below w.heap.size w w' := by
  by_cases hbig : 1048576 < T.size
  · go_enter Try.func4, Try.ntmps4
    go_wp2_with fail
    refine (zzBytes12 T w hT).mono ?_
    unfold maxLen at hT
    rintro e w' ⟨⟨b, rfl⟩, hw⟩
    replace hw := hw.symm
    subst hw
    cases b
    all_goals
      go_wp2_with fail
      go_ret
      exact ⟨rfl, Below.refl _ _⟩
  have hs : T.size ≤ 1048576 := by omega
  clear hbig
  obtain ⟨i3, hi3, hz30, hz31, hz32⟩ := info_parts info3
  obtain ⟨i9, hi9, hz90, hz91, hz92⟩ := info_parts info9
  go_enter Try.func4, Try.ntmps4
  go_wp2_with fail
  refine (zzBytes12 T w hT).mono ?_
  clear hT
  rintro e w' ⟨⟨b, rfl⟩, hw⟩
  replace hw := hw.symm
  subst hw
  cases b
  · go_wp2_with fail
    go_ret
    exact ⟨rfl, Below.refl _ _⟩
  go_wp2_with fail
  go_loopw [3, 4, 5, 6, 7, 8, 9, 10] (fun vl vo vr o l r d s wr => ∃ (off k : Nat) (rest : ByteArray) (xs : List Ent), off ≤ T.size ∧ k ≤ off ∧ o = .int .i64 off ∧ l = .int .i64 k ∧ r = .string rest ∧ d = .bool false ∧ s = .int .i64 k ∧
      xs.length ≤ k ∧ xs ++ CL.E (bs T) off k = CL.E (bs T) 0 0 ∧ CL.N (bs T) off k = CL.N (bs T) 0 0 ∧ Gath w wr vl vo vr xs)
    (fun _ _ _ o _ _ _ _ _ => T.size - (intOf o).toNat)
  case atStart => exact ⟨0, 0, _, [], Nat.zero_le _, Nat.le_refl _, rfl, rfl, rfl, rfl, rfl, Nat.le_refl _, rfl, rfl, Rows3.start w⟩
  case round =>
    obtain ⟨off, k, rest, xs, ho, hk, rfl, rfl, rfl, rfl, rfl, hxl, hE, hN, hG⟩ := hrel
    have HE := hid_of hE
    have HN := hid_of hN
    have HG := hid_of hG
    have hlen : off ≤ (bs T).length := by rw [bs_length]; exact ho
    clear hE hN hG
    cases hn : CL.nl ((bs T).drop off) with
    | none =>
      have HL := hid_of hn
      have HX : Hid (xs = CL.E (bs T) 0 0 ∧ CL.N (bs T) 0 0 = k) := by
        have h1 := HE.out
        have h2 := HN.out
        rw [CL.E_none hlen hn, List.append_nil] at h1
        rw [CL.N_none hlen hn] at h2
        exact ⟨h1, h2.symm⟩
      clear hn HE HN
      go_wp2_with fail
      refine (zzNextLine_no T rest off k _ hs ho HL.out).mono ?_
      rintro e w1 ⟨rfl, hb1⟩
      have HG1 : Hid (Gath w w1 u3 u4 u5 xs) := Rows3.later HG.out hb1
      clear hb1 HG HL
      go_wp2_with fail
      by_cases hpos : 0 < xs.length
      · obtain ⟨g3, c3, h3, _, _⟩ := HG1.out.l.form hpos
        obtain ⟨g4, c4, h4, _, _⟩ := HG1.out.o.form hpos
        obtain ⟨g5, c5, h5, _, _⟩ := HG1.out.r.form hpos
        subst h3 h4 h5
        go_loopw [6, 7, 8, 16, 17] (fun o l r j s wr => ∃ (off k' jj : Nat) (rest : ByteArray), off ≤ T.size ∧ k' ≤ off ∧ jj ≤ off ∧ jj ≤ xs.length ∧ o = .int .i64 off ∧ l = .int .i64 k' ∧ r = .string rest ∧ j = .int .i64 jj ∧ s = .int .i64 jj ∧
            xs.drop jj = CL.E (bs T) off k' ∧ CL.N (bs T) off k' = k ∧ Below w1.heap.size w1 wr)
          (fun o _ _ _ _ _ => T.size - (intOf o).toNat)
        case atStart => exact ⟨0, 0, 0, _, Nat.zero_le _, Nat.le_refl _, Nat.le_refl _, Nat.zero_le _, rfl, rfl, rfl, rfl, rfl, HX.out.1, HX.out.2, Below.refl _ _⟩
        case round =>
          obtain ⟨of2, k2, jj, rest2, ho2, hk2, hj2, hjx, rfl, rfl, rfl, rfl, rfl, hD, hM, hB⟩ := hrel
          have HD := hid_of hD
          have HM := hid_of hM
          have HG2 : Hid (Gath w wr (.slice (some ⟨g3, 0, none⟩) xs.length c3) (.slice (some ⟨g4, 0, none⟩) xs.length c4) (.slice (some ⟨g5, 0, none⟩) xs.length c5) xs) := Rows3.later HG1.out hB
          have HB := hid_of hB
          clear hD hM hB
          go_wp2_with fail
          refine (zzNextFilled_any T rest2 of2 k2 _ hs ho2 hk2).mono ?_
          rintro e w2 (⟨k3, of3, l3, rfl, hl3, hE3, hN3, q1, q2, q3, hb3⟩ | ⟨k3, r3, rfl, hE3, hN3, q1, hb3⟩)
          · have HG3 : Hid (Gath w w2 (.slice (some ⟨g3, 0, none⟩) xs.length c3) (.slice (some ⟨g4, 0, none⟩) xs.length c4) (.slice (some ⟨g5, 0, none⟩) xs.length c5) xs) := Rows3.later HG2.out hb3
            have HB3 := hid_of (HB.out.trans (hb3.mono HB.out.size))
            obtain ⟨hjl, hcl, hco, hcr, hdr⟩ := gath_at HG3.out (HD.out.trans hE3)
            have HZ := hid_of (And.intro hdr (hN3.trans HM.out))
            clear hl3 hE3 hN3 hb3 HD HM HB HG2 hdr
            go_wp2_with fail
            go_roundw
            case rel => exact ⟨of3, k3, jj + 1, mk l3, q2, q3, by omega, by omega, rfl, rfl, rfl, by go_num, by go_num, HZ.out.1, HZ.out.2, HB3.out⟩
            case measure => simp [intOf]; omega
          · have hjx2 : jj = xs.length := by
              have h := HD.out.trans hE3
              have := congrArg List.length h
              rw [List.length_drop, List.length_nil] at this
              omega
            have hk3 : k3 = k := hN3.trans HM.out
            have HB3 := hid_of (below_trans HG2.out.bel hb3)
            clear hE3 hN3 hb3 HD HM HB HG2
            subst hjx2 hk3
            have q4 : (r3.toList == r3.toList) = true := by simp
            go_wp2_with fail
            refine (zzNextFilled_end T r3 k3 _ hs).mono ?_
            rintro e w4 ⟨rfl, hb4⟩
            have HB4 := hid_of (below_trans HB3.out hb4)
            clear hb4
            go_wp2_with fail
            go_ret
            exact ⟨rfl, HB4.out⟩
      · have hnil : xs = [] := List.eq_nil_of_length_eq_zero (by omega)
        obtain ⟨a3, c3, h3⟩ := own_form HG1.out.l
        obtain ⟨a4, c4, h4⟩ := own_form HG1.out.o
        obtain ⟨a5, c5, h5⟩ := own_form HG1.out.r
        subst h3 h4 h5
        have HE0 : Hid (CL.E (bs T) 0 0 = []) := HX.out.1.symm.trans hnil
        go_loopw [6, 7, 8, 16, 17] (fun o l r j s wr => ∃ rest : ByteArray, o = .int .i64 0 ∧ l = .int .i64 0 ∧ r = .string rest ∧ j = .int .i64 0 ∧ s = .int .i64 0 ∧ Below w1.heap.size w1 wr)
          (fun _ _ _ _ _ _ => 0)
        case atStart => exact ⟨_, rfl, rfl, rfl, rfl, rfl, Below.refl _ _⟩
        case round =>
          obtain ⟨rest2, rfl, rfl, rfl, rfl, rfl, hB⟩ := hrel
          have HB := hid_of hB
          clear hB
          go_wp2_with fail
          refine (zzNextFilled_any T rest2 0 0 _ hs (Nat.zero_le _) (Nat.le_refl _)).mono ?_
          rintro e w2 (⟨k3, of3, l3, rfl, hl3, hE3, hN3, q1, q2, q3, hb3⟩ | ⟨k3, r3, rfl, hE3, hN3, q1, hb3⟩)
          · exact absurd (HE0.out.symm.trans hE3) (by simp)
          · have hk3 : k3 = k := hN3.trans HX.out.2
            have HB3 := hid_of (below_trans HG1.out.bel (HB.out.trans (hb3.mono HB.out.size)))
            have hx0 : xs.length = 0 := by rw [hnil]; rfl
            clear hE3 hN3 hb3 HB HX HG1 HE0 hnil hpos
            subst hk3
            have q4 : (r3.toList == r3.toList) = true := by simp
            go_wp2_with fail
            refine (zzNextFilled_end T r3 k3 _ hs).mono ?_
            rintro e w4 ⟨rfl, hb4⟩
            have HB4 := hid_of (below_trans HB3.out hb4)
            clear hb4
            go_wp2_with fail
            go_ret
            exact ⟨rfl, HB4.out⟩
    | some p =>
      obtain ⟨m, l⟩ := p
      have HL := hid_of hn
      obtain ⟨hm1, hm2, _⟩ := CL.nl_bd hn
      rw [List.length_drop, bs_length] at hm2
      by_cases hl : l = []
      · subst hl
        have HA : Hid (xs ++ CL.E (bs T) (off + m) (k + 1) = CL.E (bs T) 0 0) := by unfold Hid; rw [← CL.E_blank hlen hn]; exact HE.out
        have HB : Hid (CL.N (bs T) (off + m) (k + 1) = CL.N (bs T) 0 0) := (CL.N_some hlen hn).symm.trans HN.out
        have t1 : (mk []).toList = [] := toList_bs _
        clear hn hlen HE HN
        go_wp2_with fail
        refine (zzNextLine_yes T rest off k m [] _ hs ho (by omega) HL.out).mono ?_
        rintro e w1 ⟨rfl, hb1⟩
        have HG1 : Hid (Gath w w1 u3 u4 u5 xs) := Rows3.later HG.out hb1
        clear hb1 HG
        go_wp2_with fail
        go_roundw
        case rel => exact ⟨off + m, k + 1, mk [], xs, by omega, by omega, by go_num, by go_num, rfl, rfl, by go_num, by omega, HA.out, HB.out, HG1.out⟩
        case measure => simp [intOf]; omega
      · have HA : Hid ((xs ++ [(k + 1, off + m, l)]) ++ CL.E (bs T) (off + m) (k + 1) = CL.E (bs T) 0 0) := by
          unfold Hid; rw [List.append_assoc, List.singleton_append, ← CL.E_full hlen hn hl]; exact HE.out
        have HB : Hid (CL.N (bs T) (off + m) (k + 1) = CL.N (bs T) 0 0) := (CL.N_some hlen hn).symm.trans HN.out
        have t1 : (mk l).toList.isEmpty = false := by rw [isEmpty_mk]; exact List.isEmpty_eq_false_iff.2 hl
        clear hn hlen HE HN hl
        have tok1 : True := trivial
        have tok2 : True := trivial
        have tok3 : True := trivial
        go_wp2_with fail
        refine (zzNextLine_yes T rest off k m l _ hs ho (by omega) HL.out).mono ?_
        rintro e w1 ⟨rfl, hb1⟩
        have HG1 : Hid (Gath w w1 u3 u4 u5 xs) := Rows3.later HG.out hb1
        clear hb1 HG
        go_wp2_with (first
          | (at_builtin; have _t := tok1; refine wpList_append_lies (w1.alloc (.cells #[.int .i64 ((k : Int) + 1)] 3)) (by rfl) _ _ 28 (by rfl) w.heap.size 3 i3 (.int .i64 0) 1 8 Try.underlying28 hi3 hz30 hz31 hz32 rfl (by omega) u3 xs.length (cL xs) (by rfl) (Rows3.alloc HG1.out _).l ⟨w1.heap.size, 0, none⟩ 1 1 [.int .i64 ((k : Int) + 1)] (by rfl) rfl (cell_one_new _ _ _) (by simp [Value.oneCell']) (by omega) (by unfold maxLen; omega) (by omega) (Rows3.alloc HG1.out _).bel.size _ rfl ?_; intro g1 c1 w2 hown1 hgr1 hat1 hlt1; have HR1 := hid_of (Rows3.addL (Rows3.alloc HG1.out _) hown1 hgr1 hat1); clear hown1 hgr1 hat1 hlt1 HG1 tok1)
          | (at_builtin; have _t := tok2; refine wpList_append_lies (w2.alloc (.cells #[.int .i64 ((off : Int) + (m : Int))] 3)) (by rfl) _ _ 28 (by rfl) w.heap.size 3 i3 (.int .i64 0) 1 8 Try.underlying28 hi3 hz30 hz31 hz32 rfl (by omega) u4 xs.length (cO xs) (by rfl) (Rows3.alloc HR1.out _).o ⟨w2.heap.size, 0, none⟩ 1 1 [.int .i64 ((off : Int) + (m : Int))] (by rfl) rfl (cell_one_new _ _ _) (by simp [Value.oneCell']) (by omega) (by unfold maxLen; omega) (by omega) (Rows3.alloc HR1.out _).bel.size _ rfl ?_; intro g2 c2 w3 hown2 hgr2 hat2 hlt2; have HR2 := hid_of (Rows3.addO (Rows3.alloc HR1.out _) hown2 hgr2 hat2); clear hown2 hgr2 hat2 hlt2 HR1 tok2)
          | (at_builtin; have _t := tok3; refine wpList_append_lies (w3.alloc (.cells #[.string (mk l)] 9)) (by rfl) _ _ 29 (by rfl) w.heap.size 9 i9 (.string ByteArray.empty) 1 16 Try.underlying29 hi9 hz90 hz91 hz92 rfl (by omega) u5 xs.length (cR xs) (by rfl) (Rows3.alloc HR2.out _).r ⟨w3.heap.size, 0, none⟩ 1 1 [.string (mk l)] (by rfl) rfl (cell_one_new _ _ _) (by simp [Value.oneCell']) (by omega) (by unfold maxLen; omega) (by omega) (Rows3.alloc HR2.out _).bel.size _ rfl ?_; intro g3 c3 w4 hown3 hgr3 hat3 hlt3; have HR3 := hid_of (Rows3.addR (Rows3.alloc HR2.out _) hown3 hgr3 hat3); clear hown3 hgr3 hat3 hlt3 HR2 tok3))
        go_roundw
        case rel =>
          refine ⟨off + m, k + 1, mk l, xs ++ [(k + 1, off + m, l)], by omega, by omega, by go_num, by go_num, rfl, rfl, by go_num, ?_, HA.out, HB.out, gath_snoc (off := off + m) HR3.out⟩
          rw [List.length_append, List.length_singleton]; omega
        case measure => simp [intOf]; omega

end Go.Proofs.Qxb6602716a
