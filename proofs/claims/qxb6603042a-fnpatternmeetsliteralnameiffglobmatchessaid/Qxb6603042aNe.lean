/- Walks: Matches. -/
import Derived.Test.Qxb6603042aNb
import Derived.Test.Qxb6603042aNd
namespace Go.Proofs.Qxb6603042a.M
open Go.RowKit
set_option linter.unusedVariables false

/-- All of the body's tokens match the name's first j bytes. -/
def upto (P N : ByteArray) (j : Nat) : Bool := GP.dp (GP.tok (GP.body (bs P))) (GP.nums (bs N)) (GP.tok (GP.body (bs P))).length j

theorem glob_yes {P N : ByteArray} (h : upto P N N.size = true) : GP.glob (bs P) (bs N) = true := by
  unfold GP.glob; unfold upto at h; rw [bs_length, h]; rfl
theorem glob_no {P N : ByteArray} (hd : GP.isDir (bs P) = false) (h : upto P N N.size = false) : GP.glob (bs P) (bs N) = false := by
  unfold GP.glob; unfold upto at h; rw [bs_length, h, hd]; rfl
theorem glob_under {P N : ByteArray} (hd : GP.isDir (bs P) = true) (k : Nat) (hk : k < N.size) (h47 : N[k] = 47) (h : upto P N k = true) : GP.glob (bs P) (bs N) = true := by
  unfold GP.glob; unfold upto at h
  rw [hd, Bool.true_and, bs_length, Bool.or_eq_true]
  right
  rw [List.any_eq_true]
  refine ⟨k, List.mem_range.2 hk, ?_⟩
  rw [GP.nums_getD (bs N) k (by rw [bs_length]; exact hk), get_bs N k hk, h47, h]; rfl
theorem glob_none {P N : ByteArray} (h : upto P N N.size = false) (h2 : ∀ k (hk : k < N.size), ¬ (N[k] = 47 ∧ upto P N k = true)) : GP.glob (bs P) (bs N) = false := by
  cases hg : GP.glob (bs P) (bs N) with
  | false => rfl
  | true =>
    unfold GP.glob at hg
    unfold upto at h h2
    rw [bs_length, h, Bool.false_or, Bool.and_eq_true, List.any_eq_true] at hg
    obtain ⟨_, k, hk, hk2⟩ := hg
    rw [List.mem_range] at hk
    rw [Bool.and_eq_true, GP.nums_getD (bs N) k (by rw [bs_length]; exact hk), get_bs N k hk, beq_iff_eq] at hk2
    exact absurd ⟨UInt8.toNat_inj.1 (by have := hk2.1; show N[k].toNat = 47; omega), hk2.2⟩ (h2 k hk)

theorem row_of {w : World} {b g c : Nat} {xs : List Int} (h : w.ownsRow b 3 1 (.slice (some ⟨g, 0, none⟩) xs.length c) xs.length (cI xs)) : RowI w g xs ∧ g < w.heap.size := by
  have hc := (own_cells h).2 ⟨g, 0, none⟩ rfl
  refine ⟨fun i hi => ?_, hc.1.2⟩
  have := hc.2 i (.int .i64 (xs.getD i 0)) (by simp [cI, hi])
  have e : (⟨g, 0, none⟩ : Addr).add i = ⟨g, i, none⟩ := by
    unfold Addr.add; split
    · rename_i h; subst h; rfl
    · simp
  rwa [e] at this

theorem upto_cell {w : World} {P N B : ByteArray} {g : Nat} (hB : bs B = GP.body (bs P)) (h : BRow w g (drow (GP.tok (bs B)) (GP.nums (bs N)) (N.size + 1) (GP.tok (bs B)).length)) : ∀ k, k ≤ N.size → w.cell? ⟨g, k, none⟩ = some (.bool (upto P N k)) := by
  intro k hk
  rw [h.cell (by rw [drow_length]; omega), drow_at _ _ _ _ _ (by omega), hB]; rfl

def Matched (P N : ByteArray) (w : World) (e : Ending) (w' : World) : Prop := e = .returned (.bool (GP.glob (bs P) (bs N))) ∧ Below w.heap.size w w'

set_option maxRecDepth 8000 in
set_option maxHeartbeats 1000000 in
theorem matches_nil (P N : ByteArray) (w : World) (hP : P.size ≤ 65536) (hN : N.size ≤ 65536) (h0 : P.size = 0) :
    Calls Try.prog 11 #[.string P, .string N] w fun e w' => Matched P N w e w' := by
  have hd := dir_none P h0
  have h0' : ¬ (0 : Int) < (P.size : Int) := by omega
  have HD := hid_of hd
  have HBODY : Hid (bs P = GP.body (bs P)) := by unfold Hid GP.body; rw [hd]; rfl
  have HBS : Hid (P.size ≤ 70000) := by unfold Hid; omega
  have HTL : Hid ((GP.tok (bs P)).length ≤ 70000) := by have := GP.tok_length (bs P); rw [bs_length] at this; unfold Hid; omega
  clear hd
  cases he : upto P N N.size with
  | true =>
    have HG := hid_of (glob_yes he)
    go_enter Try.func11, Try.ntmps11
    go_wp2_with (first
        | (go_at_call 22; refine (tokens_any (P) _ HBS.out).mono ?_; rintro e w1 ⟨g1, c1, rfl, ho, hb1⟩; have HO := hid_of (row_of ho); have HB1 := hid_of hb1; clear ho hb1)
        | (go_at_call 21; refine (prefix_any g1 c1 (GP.tok (bs (P))) N (N.size + 1) rfl _ HTL.out (by omega) HO.out.1 HO.out.2).mono ?_; rintro e w2 ⟨g2, rfl, hrow, hg2, hb2⟩; have HC := hid_of (upto_cell HBODY.out hrow); have hcell := HC.out N.size (Nat.le_refl _); rw [he] at hcell; have HB2 := hid_of (HB1.out.trans (hb2.mono HB1.out.size)); clear hrow hg2 hb2))
    go_ret
    exact ⟨ret_bool HG.out.symm, HB2.out⟩
  | false =>
    have HG := hid_of (glob_no HD.out he)
    go_enter Try.func11, Try.ntmps11
    go_wp2_with (first
        | (go_at_call 22; refine (tokens_any (P) _ HBS.out).mono ?_; rintro e w1 ⟨g1, c1, rfl, ho, hb1⟩; have HO := hid_of (row_of ho); have HB1 := hid_of hb1; clear ho hb1)
        | (go_at_call 21; refine (prefix_any g1 c1 (GP.tok (bs (P))) N (N.size + 1) rfl _ HTL.out (by omega) HO.out.1 HO.out.2).mono ?_; rintro e w2 ⟨g2, rfl, hrow, hg2, hb2⟩; have HC := hid_of (upto_cell HBODY.out hrow); have hcell := HC.out N.size (Nat.le_refl _); rw [he] at hcell; have HB2 := hid_of (HB1.out.trans (hb2.mono HB1.out.size)); clear hrow hg2 hb2))
    go_ret
    exact ⟨ret_bool HG.out.symm, HB2.out⟩

set_option maxRecDepth 8000 in
set_option maxHeartbeats 1000000 in
theorem matches_no (P N : ByteArray) (w : World) (hP : P.size ≤ 65536) (hN : N.size ≤ 65536) (h1 : 1 ≤ P.size) (h47 : P[P.size - 1] ≠ 47) :
    Calls Try.prog 11 #[.string P, .string N] w fun e w' => Matched P N w e w' := by
  have hd : GP.isDir (bs P) = false := by rw [dir_last P h1]; simpa using h47
  have hb : ((P[P.size - 1].toNat : Int) == 47) = false := by rw [show (47 : Int) = ((47 : UInt8).toNat : Int) from rfl, byte_eq]; simpa using h47
  have hi : ((P.size : Int) - 1).toNat = P.size - 1 := by omega
  have hi0 : (0 : Int) ≤ (P.size : Int) - 1 := by omega
  have hi1 : (P.size : Int) - 1 < (P.size : Int) := by omega
  have hgt : (0 : Int) < (P.size : Int) := by omega
  have HD := hid_of hd
  have HBODY : Hid (bs P = GP.body (bs P)) := by unfold Hid GP.body; rw [hd]; rfl
  have HBS : Hid (P.size ≤ 70000) := by unfold Hid; omega
  have HTL : Hid ((GP.tok (bs P)).length ≤ 70000) := by have := GP.tok_length (bs P); rw [bs_length] at this; unfold Hid; omega
  clear hd
  cases he : upto P N N.size with
  | true =>
    have HG := hid_of (glob_yes he)
    go_enter Try.func11, Try.ntmps11
    go_wp2_with (first
        | (go_at_call 22; refine (tokens_any (P) _ HBS.out).mono ?_; rintro e w1 ⟨g1, c1, rfl, ho, hb1⟩; have HO := hid_of (row_of ho); have HB1 := hid_of hb1; clear ho hb1)
        | (go_at_call 21; refine (prefix_any g1 c1 (GP.tok (bs (P))) N (N.size + 1) rfl _ HTL.out (by omega) HO.out.1 HO.out.2).mono ?_; rintro e w2 ⟨g2, rfl, hrow, hg2, hb2⟩; have HC := hid_of (upto_cell HBODY.out hrow); have hcell := HC.out N.size (Nat.le_refl _); rw [he] at hcell; have HB2 := hid_of (HB1.out.trans (hb2.mono HB1.out.size)); clear hrow hg2 hb2))
    go_ret
    exact ⟨ret_bool HG.out.symm, HB2.out⟩
  | false =>
    have HG := hid_of (glob_no HD.out he)
    go_enter Try.func11, Try.ntmps11
    go_wp2_with (first
        | (go_at_call 22; refine (tokens_any (P) _ HBS.out).mono ?_; rintro e w1 ⟨g1, c1, rfl, ho, hb1⟩; have HO := hid_of (row_of ho); have HB1 := hid_of hb1; clear ho hb1)
        | (go_at_call 21; refine (prefix_any g1 c1 (GP.tok (bs (P))) N (N.size + 1) rfl _ HTL.out (by omega) HO.out.1 HO.out.2).mono ?_; rintro e w2 ⟨g2, rfl, hrow, hg2, hb2⟩; have HC := hid_of (upto_cell HBODY.out hrow); have hcell := HC.out N.size (Nat.le_refl _); rw [he] at hcell; have HB2 := hid_of (HB1.out.trans (hb2.mono HB1.out.size)); clear hrow hg2 hb2))
    go_ret
    exact ⟨ret_bool HG.out.symm, HB2.out⟩

set_option maxRecDepth 8000 in
set_option maxHeartbeats 1000000 in
theorem matches_dir (P N : ByteArray) (w : World) (hP : P.size ≤ 65536) (hN : N.size ≤ 65536) (h1 : 1 ≤ P.size) (h47 : P[P.size - 1] = 47) :
    Calls Try.prog 11 #[.string P, .string N] w fun e w' => Matched P N w e w' := by
  have hd : GP.isDir (bs P) = true := by rw [dir_last P h1]; simpa using h47
  have hb : ((P[P.size - 1].toNat : Int) == 47) = true := by rw [h47]; rfl
  have hi : ((P.size : Int) - 1).toNat = P.size - 1 := by omega
  have hi0 : (0 : Int) ≤ (P.size : Int) - 1 := by omega
  have hi1 : (P.size : Int) - 1 < (P.size : Int) := by omega
  have hgt : (0 : Int) < (P.size : Int) := by omega
  have HD := hid_of hd
  have HBODY : Hid (bs (P.extract 0 (P.size - 1)) = GP.body (bs P)) := dir_body hd
  have HBS : Hid ((P.extract 0 (P.size - 1)).size ≤ 70000) := by unfold Hid; simp; omega
  have HTL : Hid ((GP.tok (bs (P.extract 0 (P.size - 1)))).length ≤ 70000) := by have := GP.tok_length (bs (P.extract 0 (P.size - 1))); rw [bs_length] at this; have h2 := HBS.out; unfold Hid; omega
  clear hd h47
  cases he : upto P N N.size with
  | true =>
    have HG := hid_of (glob_yes he)
    go_enter Try.func11, Try.ntmps11
    go_wp2_with (first
        | (go_at_call 22; refine (tokens_any (P.extract 0 (P.size - 1)) _ HBS.out).mono ?_; rintro e w1 ⟨g1, c1, rfl, ho, hb1⟩; have HO := hid_of (row_of ho); have HB1 := hid_of hb1; clear ho hb1)
        | (go_at_call 21; refine (prefix_any g1 c1 (GP.tok (bs (P.extract 0 (P.size - 1)))) N (N.size + 1) rfl _ HTL.out (by omega) HO.out.1 HO.out.2).mono ?_; rintro e w2 ⟨g2, rfl, hrow, hg2, hb2⟩; have HC := hid_of (upto_cell HBODY.out hrow); have hcell := HC.out N.size (Nat.le_refl _); rw [he] at hcell; have HB2 := hid_of (HB1.out.trans (hb2.mono HB1.out.size)); clear hrow hg2 hb2))
    go_ret
    exact ⟨ret_bool HG.out.symm, HB2.out⟩
  | false =>
    have HE := hid_of he
    go_enter Try.func11, Try.ntmps11
    go_wp2_with (first
        | (go_at_call 22; refine (tokens_any (P.extract 0 (P.size - 1)) _ HBS.out).mono ?_; rintro e w1 ⟨g1, c1, rfl, ho, hb1⟩; have HO := hid_of (row_of ho); have HB1 := hid_of hb1; clear ho hb1)
        | (go_at_call 21; refine (prefix_any g1 c1 (GP.tok (bs (P.extract 0 (P.size - 1)))) N (N.size + 1) rfl _ HTL.out (by omega) HO.out.1 HO.out.2).mono ?_; rintro e w2 ⟨g2, rfl, hrow, hg2, hb2⟩; have HC := hid_of (upto_cell HBODY.out hrow); have hcell := HC.out N.size (Nat.le_refl _); rw [he] at hcell; have HB2 := hid_of (HB1.out.trans (hb2.mono HB1.out.size)); clear hrow hg2 hb2))
    clear hcell he
    go_loopw [8] (fun t wr => wr = w2 ∧ ∃ k : Nat, k ≤ N.size ∧ t = .int .i64 k ∧ Hid (∀ x (hx : x < N.size), x < k → ¬ (N[x] = 47 ∧ upto P N x = true))) (fun t _ => N.size - (intOf t).toNat)
    case atStart => exact ⟨rfl, 0, Nat.zero_le _, rfl, fun x _ hx => absurd hx (Nat.not_lt_zero _)⟩
    case round =>
      obtain ⟨hwr, k, hk, rfl, HN⟩ := hrel
      replace hwr := hwr.symm
      subst hwr
      by_cases hlt : k < N.size
      · have hc := HC.out k hk
        by_cases h47 : N[k] = 47
        · have hb : ((N[k].toNat : Int) == 47) = true := by rw [h47]; rfl
          cases hu : upto P N k with
          | true =>
            have HG := hid_of (glob_under HD.out k hlt h47 hu)
            rw [hu] at hc
            clear hu h47 HN
            go_wp2_with fail
            go_ret
            exact ⟨ret_bool HG.out.symm, HB2.out⟩
          | false =>
            have HM : Hid (∀ x (hx : x < N.size), x < k + 1 → ¬ (N[x] = 47 ∧ upto P N x = true)) := by
              intro x hx hx2
              by_cases e : x = k
              · subst e; rw [hu]; intro h; exact absurd h.2 (by decide)
              · exact HN.out x hx (by omega)
            rw [hu] at hc
            clear hu h47 HN
            go_wp2_with fail
            go_roundw
            case rel => exact ⟨trivial, k + 1, by omega, by go_num, HM⟩
            case measure => simp [intOf]; omega
        · have hb : ((N[k].toNat : Int) == 47) = false := by rw [show (47 : Int) = ((47 : UInt8).toNat : Int) from rfl, byte_eq]; simpa using h47
          have HM : Hid (∀ x (hx : x < N.size), x < k + 1 → ¬ (N[x] = 47 ∧ upto P N x = true)) := by
            intro x hx hx2
            by_cases e : x = k
            · subst e; intro h; exact h47 h.1
            · exact HN.out x hx (by omega)
          clear h47 HN hc
          go_wp2_with fail
          go_roundw
          case rel => exact ⟨trivial, k + 1, by omega, by go_num, HM⟩
          case measure => simp [intOf]; omega
      · have hk' : k = N.size := by omega
        subst hk'
        have HG := hid_of (glob_none HE.out (fun x hx => HN.out x hx hx))
        clear HN
        go_wp2_with fail
        go_ret
        exact ⟨ret_bool HG.out.symm, HB2.out⟩

theorem matches_any (P N : ByteArray) (w : World) (hP : P.size ≤ 65536) (hN : N.size ≤ 65536) :
    Calls Try.prog 11 #[.string P, .string N] w fun e w' => Matched P N w e w' := by
  by_cases h0 : P.size = 0
  · exact matches_nil P N w hP hN h0
  · have h1 : 1 ≤ P.size := by omega
    by_cases h47 : P[P.size - 1] = 47
    · exact matches_dir P N w hP hN h1 h47
    · exact matches_no P N w hP hN h1 h47
end Go.Proofs.Qxb6603042a.M
