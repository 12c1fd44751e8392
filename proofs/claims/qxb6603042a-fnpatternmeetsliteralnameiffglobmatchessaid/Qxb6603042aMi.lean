/- ZZMeets; a pattern meets itself. -/
import Derived.Test.Qxb6603042aMg
import Derived.Test.Qxb6603042aWh
namespace Go.Proofs.Qxb6603042a.M
open Go.RowKit
set_option linter.unusedVariables false

/-- 'meets', whatever the prefixes. -/
theorem meets_any (pre1 pre2 : ByteArray) (a1 a2 : Option Addr) (c1 c2 b1 b2 : Nat) (d1 d2 : Bool) (xs1 xs2 : List Int) (w : World) (h1 : pre1.size + xs1.length ≤ 1100) (h2 : pre2.size + xs2.length ≤ 1100)
    (hn0 : ∀ x ∈ xs1, 0 ≤ x) (hn0' : ∀ x ∈ xs2, 0 ≤ x)
    (o1 : w.ownsRow b1 35 1 (.slice a1 xs1.length c1) xs1.length (cI xs1)) (o2 : w.ownsRow b2 35 1 (.slice a2 xs2.length c2) xs2.length (cI xs2)) :
    Calls Try.prog 20 #[.agg #[.string pre1, .slice a1 xs1.length c1, .bool d1], .agg #[.string pre2, .slice a2 xs2.length c2, .bool d2]] w fun e w' => ∃ r, e = .returned (.bool r) ∧ Meets pre1 d1 xs1 pre2 d2 xs2 r ∧ Below w.heap.size w w' := by
  by_cases heq : (bs pre1).take (min pre1.size pre2.size) = (bs pre2).take (min pre1.size pre2.size)
  · exact meets_try pre1 pre2 a1 a2 c1 c2 b1 b2 d1 d2 xs1 xs2 w (by omega) (by omega) (by omega) (by omega) _ _ rfl rfl h1 h2 hn0 hn0' o1 o2 heq
  · refine (meets_apart pre1 pre2 a1 a2 c1 c2 xs1.length xs2.length d1 d2 w (by omega) (by omega) heq).mono ?_
    rintro e w' ⟨rfl, hb⟩
    exact ⟨false, rfl, by unfold Meets; rw [if_neg heq], hb⟩

set_option maxHeartbeats 400000 in
theorem zzmeets_any (pre1 pre2 : ByteArray) (a1 a2 : Option Addr) (c1 c2 b1 b2 : Nat) (d1 d2 : Bool) (xs1 xs2 : List Int) (w : World) (h1 : pre1.size + xs1.length ≤ 1100) (h2 : pre2.size + xs2.length ≤ 1100)
    (hn0 : ∀ x ∈ xs1, 0 ≤ x) (hn0' : ∀ x ∈ xs2, 0 ≤ x)
    (o1 : w.ownsRow b1 35 1 (.slice a1 xs1.length c1) xs1.length (cI xs1)) (o2 : w.ownsRow b2 35 1 (.slice a2 xs2.length c2) xs2.length (cI xs2)) :
    Calls Try.prog 10 #[.agg #[.string pre1, .slice a1 xs1.length c1, .bool d1], .agg #[.string pre2, .slice a2 xs2.length c2, .bool d2]] w fun e w' => ∃ r, e = .returned (.bool r) ∧ Meets pre1 d1 xs1 pre2 d2 xs2 r ∧ Below w.heap.size w w' := by
  have O1 := hid_of o1
  have O2 := hid_of o2
  have N1 := hid_of hn0
  have N2 := hid_of hn0'
  have S1 := hid_of h1
  have S2 := hid_of h2
  clear o1 o2 hn0 hn0' h1 h2
  go_enter Try.func10, Try.ntmps10
  go_wp2_with (go_at_call 20; refine (meets_any pre1 pre2 a1 a2 c1 c2 b1 b2 d1 d2 xs1 xs2 _ S1.out S2.out N1.out N2.out ((O1.out.alloc _).alloc _) ((O2.out.alloc _).alloc _)).mono ?_; rintro e w' ⟨r, rfl, hr, hb⟩; have HR := hid_of hr; have HB := hid_of ((((Below.refl w.heap.size w).alloc (Nat.le_refl _) _).alloc (by simp) _).trans (hb.mono (by simp; omega))); clear hr hb)
  go_ret
  exact ⟨r, rfl, HR.out, HB.out⟩

/-! ### The plain law -/
theorem reach_step {a b : List Int} {n : Nat} {p q : Nat × Nat} (h : GP.Reach a b n p) (hq : q ∈ GP.succ a b p.1 p.2) : GP.Reach a b n q := by
  obtain ⟨k, hk⟩ := h
  exact ⟨k + 1, p, hk, hq⟩

theorem diagonal (A : List Int) (n : Nat) : ∀ k, n + k ≤ A.length → GP.Reach A A n (n + k, n + k) := by
  intro k
  induction k with
  | zero => intro _; exact ⟨0, rfl⟩
  | succ k ih =>
    intro h
    have h0 := ih (by omega)
    have hlt : n + k < A.length := by omega
    rcases Int.lt_or_le (A.getD (n + k) 0) 256 with h1 | h1
    · refine reach_step h0 ?_
      have hadv : GP.adv A (n + k) (A.getD (n + k) 0) = (n + (k + 1), true) := by
        unfold GP.adv
        rw [if_neg (by omega), if_neg (by omega), if_neg (by omega)]
        simp; omega
      refine succ3_in (x := A.getD (n + k) 0) ?_ ?_
      · unfold GP.lits
        show _ ∈ (if GP.litr A (n + k) = true then [A.getD (n + k) 0] else []) ++ _
        rw [litr_yes hlt h1]
        simp
      · unfold GP.succ3
        show _ ∈ (if ((GP.adv A (n + k) (A.getD (n + k) 0)).2 && (GP.adv A (n + k) (A.getD (n + k) 0)).2) = true then _ else _)
        rw [hadv]; simp
    · have hw : GP.wild A (n + k) = true := by simp only [GP.wild, Bool.and_eq_true, decide_eq_true_eq]; exact ⟨hlt, h1⟩
      have s1 : GP.Reach A A n (n + (k + 1), n + k) := by
        refine reach_step h0 ?_
        unfold GP.succ
        show _ ∈ ((if GP.wild A (n + k) = true then _ else _) ++ _) ++ _
        rw [hw]; simp; omega
      refine reach_step s1 ?_
      unfold GP.succ
      show _ ∈ (_ ++ (if GP.wild A (n + k) = true then _ else _)) ++ _
      rw [hw]; simp; omega

theorem meets_self (pre : ByteArray) (d : Bool) (xs : List Int) (r : Bool) (h : Meets pre d xs pre d xs r) : r = true := by
  unfold Meets at h
  rw [if_pos rfl] at h
  refine h.2 ⟨(pre.size + xs.length, pre.size + xs.length), ?_, ?_⟩
  · have := diagonal (litsOf (bs pre) ++ xs) (min pre.size pre.size) xs.length (by rw [List.length_append, litsOf_length, bs_length]; omega)
    rwa [Nat.min_self] at this ⊢
  · unfold endsAt; simp

/-! ### The law's walk -/
theorem steps_pos (l : List UInt8) : ∀ x ∈ GP.steps l, 0 ≤ x := by
  intro x hx
  unfold GP.steps at hx
  rcases List.mem_append.1 hx with hx | hx
  · obtain ⟨i, hi, rfl⟩ := List.mem_iff_getElem.1 hx
    exact (GP.canon_at _ i hi (GP.canon_tok _)).1.1
  · split at hx
    · simp at hx; omega
    · cases hx

theorem whole_len (s : List UInt8) : (GP.pre s).length + (GP.steps s).length ≤ s.length + 2 := by
  unfold GP.pre GP.steps GP.rest
  have h1 := GP.tok_length ((GP.body s).drop (GP.lit (GP.body s)))
  have h2 := GP.lit_le (GP.body s)
  have h3 : (GP.body s).length ≤ s.length := by
    unfold GP.body; split
    · rw [List.length_dropLast]; omega
    · exact Nat.le_refl _
  rw [List.length_drop] at h1
  rw [List.length_take, List.length_append]
  split <;> simp <;> omega

theorem zz13_any (s : ByteArray) (w : World) (h : s.size ≤ maxLen) : Calls Try.prog 13 #[.string s] w fun e w' => e = .returned (.bool (decide (s.size ≤ 1048576))) ∧ w' = w := by
  unfold maxLen at h
  by_cases hb : 1048576 < s.size
  · have hd : decide (s.size ≤ 1048576) = false := by simp; omega
    rw [hd]
    go_enter Try.func13, Try.ntmps13
    go_wp2_with fail
    go_ret
    exact ⟨rfl, rfl⟩
  · have hd : decide (s.size ≤ 1048576) = true := by simp; omega
    rw [hd]
    go_enter Try.func13, Try.ntmps13
    go_wp2_with fail
    go_ret
    exact ⟨rfl, rfl⟩

theorem self_all (s : ByteArray) (w : World) (hm : s.size ≤ maxLen) :
    Calls Try.prog 5 #[.string s] w fun e w' => e = .returned (.bool true) ∧ Below w.heap.size w w' := by
  have hz := zz13_any s w hm
  unfold maxLen at hm
  by_cases hb : 1048576 < s.size
  · have hd : decide (s.size ≤ 1048576) = false := by simp; omega
    rw [hd] at hz
    go_enter Try.func5, Try.ntmps5
    go_wp2_with (go_at_call 13; refine hz.mono ?_; rintro e w' ⟨rfl, hw⟩; subst hw)
    go_ret
    exact ⟨rfl, Below.refl _ _⟩
  have hd : decide (s.size ≤ 1048576) = true := by simp; omega
  rw [hd] at hz
  by_cases hk : 1024 < s.size
  · go_enter Try.func5, Try.ntmps5
    go_wp2_with (go_at_call 13; refine hz.mono ?_; rintro e w' ⟨rfl, hw⟩; subst hw)
    go_ret
    exact ⟨rfl, Below.refl _ _⟩
  have hs : s.size ≤ 1024 := by omega
  have HL : Hid ((mk (GP.pre (bs s))).size + (GP.steps (bs s)).length ≤ 1100) := by
    have := whole_len (bs s); rw [bs_length] at this; rw [Hid, mk_size]; omega
  have HP := hid_of (steps_pos (bs s))
  clear hm hb hd
  go_enter Try.func5, Try.ntmps5
  go_wp2_with (first
    | (go_at_call 13; refine hz.mono ?_; rintro e w' ⟨rfl, hw⟩; replace hw := hw.symm; subst hw)
    | (go_at_call 9; refine (compile_any s _ (by omega)).mono ?_; rintro e w1 ⟨v, rfl, ho, hb1, -⟩; obtain ⟨a, c, rfl⟩ := own_form ho; have HO := hid_of ho; have HB := hid_of hb1; clear ho hb1)
    | (go_at_call 10; refine (zzmeets_any (mk (GP.pre (bs s))) (mk (GP.pre (bs s))) a a c c (w.heap.size + 2) (w.heap.size + 2) (GP.isDir (bs s)) (GP.isDir (bs s)) (GP.steps (bs s)) (GP.steps (bs s)) _ HL.out HL.out HP.out HP.out (HO.out.alloc _) (HO.out.alloc _)).mono ?_; rintro e w2 ⟨r, rfl, hr, hb2⟩; have hrt := meets_self _ _ _ _ hr; subst hrt; have HB2 := hid_of ((HB.out.alloc HB.out.size _).trans (hb2.mono (by have := HB.out.size; simp; omega))); clear hr hb2))
  go_ret
  exact ⟨rfl, HB2.out⟩
end Go.Proofs.Qxb6603042a.M
