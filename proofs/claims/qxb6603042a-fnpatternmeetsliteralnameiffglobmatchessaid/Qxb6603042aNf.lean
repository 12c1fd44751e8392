/- The law: a pattern meets a literal name iff the glob matches. -/
import Derived.Test.Qxb6603042aMi
import Derived.Test.Qxb6603042aNe
namespace Go.Proofs.Qxb6603042a.M
open Go.RowKit
set_option linter.unusedVariables false

theorem litsOf_nums (l : List UInt8) : litsOf l = GP.nums l := rfl

theorem meets_glob (P N : List UInt8) (hN : GP.isLit N = true) (r : Bool)
    (h : Meets (mk (GP.pre P)) (GP.isDir P) (GP.steps P) (mk (GP.pre N)) (GP.isDir N) (GP.steps N) r) : r = GP.glob P N := by
  unfold Meets at h
  rw [GP.lit_pre hN, GP.lit_steps hN, GP.lit_dir hN] at h
  simp only [mk_size, bs_mk, litsOf_nums, List.append_nil, List.length_nil, Nat.add_zero] at h
  apply GP.search_glob
  by_cases ht : (GP.pre P).take (min (GP.pre P).length N.length) = N.take (min (GP.pre P).length N.length)
  · rw [if_pos ht] at h ⊢
    rw [h]
    have key : ∀ q : Nat × Nat, (endsAt ((GP.pre P).length + (GP.steps P).length) (GP.isDir P) q.1 && endsAt N.length false q.2) = true ↔ ((q.1 = (GP.all P).length ∨ (GP.isDir P = true ∧ q.1 + 2 = (GP.all P).length)) ∧ q.2 = N.length) := by
      intro q
      rw [← GP.all_long]
      unfold endsAt
      simp only [Bool.false_and, Bool.or_false, Bool.and_eq_true, Bool.or_eq_true, beq_iff_eq]
      constructor
      · rintro ⟨h1 | ⟨h1, h2⟩, h3⟩
        · exact ⟨.inl (by omega), by omega⟩
        · exact ⟨.inr ⟨h1, by omega⟩, by omega⟩
      · rintro ⟨h1 | ⟨h1, h2⟩, h3⟩
        · exact ⟨.inl (by omega), by omega⟩
        · exact ⟨.inr ⟨h1, by omega⟩, by omega⟩
    constructor
    · rintro ⟨q, h1, h2⟩; exact ⟨q, h1, (key q).1 h2⟩
    · rintro ⟨q, h1, h2⟩; exact ⟨q, h1, (key q).2 h2⟩
  · rw [if_neg ht] at h ⊢
    exact h

set_option maxRecDepth 8000 in
set_option maxHeartbeats 1000000 in
theorem law_all (P N : ByteArray) (w : World) (hp : P.size ≤ maxLen) (hn : N.size ≤ maxLen) :
    Calls Try.prog 3 #[.string P, .string N] w fun e w' => e = .returned (.bool true) ∧ Below w.heap.size w w' := by
  have hz := zz7_any P N w hp hn
  unfold maxLen at hp hn
  by_cases hb : 1048576 < P.size + N.size
  · have hd : decide (P.size + N.size ≤ 1048576) = false := by simp; omega
    rw [hd] at hz
    go_enter Try.func3, Try.ntmps3
    go_wp2_with (go_at_call 7; refine hz.mono ?_; rintro e w' ⟨rfl, hw⟩; replace hw := hw.symm; subst hw)
    go_ret
    exact ⟨rfl, Below.refl _ _⟩
  have hd : decide (P.size + N.size ≤ 1048576) = true := by simp; omega
  rw [hd] at hz
  clear hd
  by_cases hk : 1024 < P.size
  · go_enter Try.func3, Try.ntmps3
    go_wp2_with (go_at_call 7; refine hz.mono ?_; rintro e w' ⟨rfl, hw⟩; replace hw := hw.symm; subst hw)
    go_ret
    exact ⟨rfl, Below.refl _ _⟩
  by_cases hk2 : 1024 < N.size
  · go_enter Try.func3, Try.ntmps3
    go_wp2_with (go_at_call 7; refine hz.mono ?_; rintro e w' ⟨rfl, hw⟩; replace hw := hw.symm; subst hw)
    go_ret
    exact ⟨rfl, Below.refl _ _⟩
  have hs : P.size ≤ 1024 := by omega
  have hs2 : N.size ≤ 1024 := by omega
  clear hb hp hn
  have h8 := lit8_any N w (by omega)
  cases hl : GP.isLit (bs N) with
  | false =>
    rw [hl] at h8
    clear hl
    go_enter Try.func3, Try.ntmps3
    go_wp2_with (first
      | (go_at_call 7; refine hz.mono ?_; rintro e w' ⟨rfl, hw⟩; replace hw := hw.symm; subst hw)
      | (go_at_call 8; refine h8.mono ?_; rintro e w' ⟨rfl, hw⟩; replace hw := hw.symm; subst hw))
    go_ret
    exact ⟨rfl, Below.refl _ _⟩
  | true =>
    rw [hl] at h8
    have HLIT := hid_of hl
    clear hl
    have HL1 : Hid ((mk (GP.pre (bs P))).size + (GP.steps (bs P)).length ≤ 1100) := by
      have := whole_len (bs P); rw [bs_length] at this; rw [Hid, mk_size]; omega
    have HL2 : Hid ((mk (GP.pre (bs N))).size + (GP.steps (bs N)).length ≤ 1100) := by
      have := whole_len (bs N); rw [bs_length] at this; rw [Hid, mk_size]; omega
    have HP1 := hid_of (steps_pos (bs P))
    have HP2 := hid_of (steps_pos (bs N))
    have tok1 : True := trivial
    go_enter Try.func3, Try.ntmps3
    go_upto_region 11 with (first
      | (go_at_call 7; refine hz.mono ?_; rintro e w' ⟨rfl, hw⟩; replace hw := hw.symm; subst hw)
      | (go_at_call 8; refine h8.mono ?_; rintro e w' ⟨rfl, hw⟩; replace hw := hw.symm; subst hw)
      | (go_at_call 9; have _t := tok1; refine (compile_any P _ (by omega)).mono ?_; rintro e w1 ⟨v, rfl, ho, hb1, -⟩; obtain ⟨a, c, rfl⟩ := own_form ho; have HO := hid_of ho; have HB := hid_of hb1; clear ho hb1 tok1)
      | (go_at_call 9; refine (compile_any N _ (by omega)).mono ?_; rintro e w3 ⟨v2, rfl, ho, hb3, -⟩; obtain ⟨a2, c2, rfl⟩ := own_form ho; have HO2 := hid_of ho; have HB2 := hid_of hb3; clear ho hb3))
    have z2 : (w1.alloc (.cells #[.string (mk (GP.pre (bs P))), .slice a (GP.steps (bs P)).length c, .bool (GP.isDir (bs P))] 26)).heap.size = w1.heap.size + 1 := by simp
    have x1 := heap_alloc_new w1 (.cells #[.string (mk (GP.pre (bs P))), .slice a (GP.steps (bs P)).length c, .bool (GP.isDir (bs P))] 26)
    have o1 := HO.out.alloc (.cells #[.string (mk (GP.pre (bs P))), .slice a (GP.steps (bs P)).length c, .bool (GP.isDir (bs P))] 26)
    have b1 := HB.out.alloc HB.out.size (.cells #[.string (mk (GP.pre (bs P))), .slice a (GP.steps (bs P)).length c, .bool (GP.isDir (bs P))] 26)
    generalize w1.alloc (.cells #[.string (mk (GP.pre (bs P))), .slice a (GP.steps (bs P)).length c, .bool (GP.isDir (bs P))] 26) = w2 at *
    have o3 := own_below o1 HB2.out
    have x3 := (HB2.out.block w1.heap.size (by omega)).trans x1
    have hs3 := HB2.out.size
    have bw3 : Below w.heap.size w w3 := b1.trans (HB2.out.mono (by have := HB.out.size; omega))
    have x4 := heap_alloc_new w3 (.cells #[.string (mk (GP.pre (bs N))), .slice a2 (GP.steps (bs N)).length c2, .bool (GP.isDir (bs N))] 26)
    have o4 := o3.alloc (.cells #[.string (mk (GP.pre (bs N))), .slice a2 (GP.steps (bs N)).length c2, .bool (GP.isDir (bs N))] 26)
    have o5 := HO2.out.alloc (.cells #[.string (mk (GP.pre (bs N))), .slice a2 (GP.steps (bs N)).length c2, .bool (GP.isDir (bs N))] 26)
    have y4 : (w3.alloc (.cells #[.string (mk (GP.pre (bs N))), .slice a2 (GP.steps (bs N)).length c2, .bool (GP.isDir (bs N))] 26)).heap[w1.heap.size]? = _ := (Below.heap_alloc w3 _ _ (by omega)).trans x3
    have bw4 := bw3.alloc bw3.size (.cells #[.string (mk (GP.pre (bs N))), .slice a2 (GP.steps (bs N)).length c2, .bool (GP.isDir (bs N))] 26)
    generalize w3.alloc (.cells #[.string (mk (GP.pre (bs N))), .slice a2 (GP.steps (bs N)).length c2, .bool (GP.isDir (bs N))] 26) = w4 at *
    obtain ⟨⟨p0, p1, p2⟩, -⟩ := cells3 y4
    obtain ⟨⟨q0, q1, q2⟩, -⟩ := cells3 x4
    have O4 := hid_of o4
    have O5 := hid_of o5
    have B4 := hid_of bw4
    clear o1 o3 o4 o5 x1 x3 x4 y4 bw3 bw4 b1 hs3 z2 HO HO2 HB HB2 hz h8
    go_wp2_with (first
      | (go_at_call 10; refine (zzmeets_any (mk (GP.pre (bs P))) (mk (GP.pre (bs N))) a a2 c c2 _ _ (GP.isDir (bs P)) (GP.isDir (bs N)) (GP.steps (bs P)) (GP.steps (bs N)) _ HL1.out HL2.out HP1.out HP2.out O4.out O5.out).mono ?_; rintro e w5 ⟨r, rfl, hr, hb5⟩; have hg := meets_glob _ _ HLIT.out _ hr; subst hg; have HB5 := hid_of (B4.out.trans (hb5.mono B4.out.size)); clear hr hb5)
      | (go_at_call 11; refine (matches_any P N _ (by omega) (by omega)).mono ?_; rintro e w6 ⟨rfl, hb6⟩; have HB6 := hid_of (HB5.out.trans (hb6.mono HB5.out.size)); clear hb6))
    go_ret
    exact ⟨rfl, HB6.out⟩
end Go.Proofs.Qxb6603042a.M
