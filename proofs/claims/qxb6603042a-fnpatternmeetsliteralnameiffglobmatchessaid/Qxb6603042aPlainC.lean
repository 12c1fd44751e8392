/- Plain laws: the glob's table, and the search against a literal name. No Go in sight. -/
import Derived.Test.Qxb6603042aPlainB
namespace GP

/-- A row of the glob's table, out of the row ahead of it: c: the token. -/
def dpRow (c : Int) (B : List Int) (prev : Nat → Bool) : Nat → Bool
  | 0 => if c = 257 then prev 0 else if c = 256 then prev 0 else false
  | j + 1 =>
    if c = 257 then prev (j + 1) || dpRow c B prev j
    else if c = 256 then prev (j + 1) || (!(B.getD j 0 == 47) && dpRow c B prev j)
    else (B.getD j 0 == c) && prev j

/-- The first i tokens match the first j bytes. -/
def dp (A B : List Int) : Nat → Nat → Bool
  | 0 => fun j => j == 0
  | i + 1 => dpRow (A.getD i 0) B (dp A B i)

theorem dp_z (A B : List Int) (j : Nat) : dp A B 0 j = (j == 0) := rfl
theorem dp_0 (A B : List Int) (i : Nat) : dp A B (i + 1) 0 = if A.getD i 0 = 257 then dp A B i 0 else if A.getD i 0 = 256 then dp A B i 0 else false := rfl
theorem dp_s (A B : List Int) (i j : Nat) : dp A B (i + 1) (j + 1) = if A.getD i 0 = 257 then dp A B i (j + 1) || dp A B (i + 1) j else if A.getD i 0 = 256 then dp A B i (j + 1) || (!(B.getD j 0 == 47) && dp A B (i + 1) j) else (B.getD j 0 == A.getD i 0) && dp A B i j := rfl

/-- What follows a pair, against a literal name. -/
theorem succ_lit {A B : List Int} {i j : Nat} (hA : ∀ k, k < A.length → A.getD k 0 ≤ 257) (hB : ∀ k, k < B.length → 0 ≤ B.getD k 0 ∧ B.getD k 0 < 256) (hi : i ≤ A.length) (hj : j ≤ B.length) (p : Nat × Nat) :
    p ∈ succ A B i j ↔ (i < A.length ∧ 256 ≤ A.getD i 0 ∧ p = (i + 1, j)) ∨ (i < A.length ∧ j < B.length ∧ A.getD i 0 = 257 ∧ p = (i, j + 1)) ∨ (i < A.length ∧ j < B.length ∧ A.getD i 0 = 256 ∧ B.getD j 0 ≠ 47 ∧ p = (i, j + 1)) ∨ (i < A.length ∧ j < B.length ∧ A.getD i 0 < 256 ∧ B.getD j 0 = A.getD i 0 ∧ p = (i + 1, j + 1)) := by
  have hwb : wild B j = false := by
    unfold wild
    by_cases h : j < B.length
    · have := (hB j h).2
      rw [decide_eq_false (show ¬ 256 ≤ B.getD j 0 by omega), Bool.and_false]
    · rw [decide_eq_false h]; rfl
  -- the byte of the name
  have hadvB : ∀ c, adv B j c = if j = B.length then (j, false) else (j + 1, B.getD j 0 == c) := by
    intro c
    unfold adv
    by_cases h : j = B.length
    · rw [if_pos h, if_pos h]
    · have := hB j (by omega)
      rw [if_neg h, if_neg h, if_neg (by omega), if_neg (by omega)]
  have hadvA : ∀ c, i < A.length → adv A i c = if A.getD i 0 = 257 then (i, true) else if A.getD i 0 = 256 then (i, !(c == 47)) else (i + 1, A.getD i 0 == c) := by
    intro c h
    unfold adv
    rw [if_neg (by omega)]
  have hend : ∀ c, i = A.length → adv A i c = (i, false) := by
    intro c h
    unfold adv
    rw [if_pos h]
  have key : ∀ c, p ∈ succ3 A B i j c ↔ (i < A.length ∧ j < B.length ∧ B.getD j 0 = c ∧ ((A.getD i 0 = 257 ∧ p = (i, j + 1)) ∨ (A.getD i 0 = 256 ∧ c ≠ 47 ∧ p = (i, j + 1)) ∨ (A.getD i 0 < 256 ∧ A.getD i 0 = c ∧ p = (i + 1, j + 1)))) := by
    intro c
    unfold succ3
    rw [hadvB c]
    by_cases hjl : j = B.length
    · rw [if_pos hjl]
      simp only [Bool.and_false, Bool.false_eq_true, if_false, List.not_mem_nil, false_iff]
      rintro ⟨_, h, _⟩; omega
    · rw [if_neg hjl]
      by_cases hil : i = A.length
      · rw [hend c hil]
        simp only [Bool.false_and, Bool.false_eq_true, if_false, List.not_mem_nil, false_iff]
        rintro ⟨h, _⟩; omega
      · have h1 : i < A.length := by omega
        have h2 : j < B.length := by omega
        have hm := hA i h1
        rw [hadvA c h1]
        by_cases e1 : A.getD i 0 = 257
        · rw [if_pos e1]
          by_cases e : B.getD j 0 = c
          · have eb : (B.getD j 0 == c) = true := by simpa using e
            simp only [eb, Bool.and_self, if_true, List.mem_singleton]
            constructor
            · intro h; exact ⟨h1, h2, e, .inl ⟨e1, h⟩⟩
            · rintro ⟨_, _, _, h | h | h⟩
              · exact h.2
              · omega
              · omega
          · have eb : (B.getD j 0 == c) = false := by simpa using e
            simp only [eb, Bool.and_false, Bool.false_eq_true, if_false, List.not_mem_nil, false_iff]
            rintro ⟨_, _, h, _⟩; exact e h
        · rw [if_neg e1]
          by_cases e2 : A.getD i 0 = 256
          · rw [if_pos e2]
            by_cases e : B.getD j 0 = c
            · have eb : (B.getD j 0 == c) = true := by simpa using e
              by_cases e4 : c = 47
              · have ec : (c == 47) = true := by simpa using e4
                simp only [ec, Bool.not_true, Bool.false_and, Bool.false_eq_true, if_false, List.not_mem_nil, false_iff]
                rintro ⟨_, _, _, h | h | h⟩
                · omega
                · exact h.2.1 e4
                · omega
              · have ec : (c == 47) = false := by simpa using e4
                simp only [ec, eb, Bool.not_false, Bool.and_self, if_true, List.mem_singleton]
                constructor
                · intro h; exact ⟨h1, h2, e, .inr (.inl ⟨e2, e4, h⟩)⟩
                · rintro ⟨_, _, _, h | h | h⟩
                  · omega
                  · exact h.2.2
                  · omega
            · have eb : (B.getD j 0 == c) = false := by simpa using e
              simp only [eb, Bool.and_false, Bool.false_eq_true, if_false, List.not_mem_nil, false_iff]
              rintro ⟨_, _, h, _⟩; exact e h
          · rw [if_neg e2]
            by_cases e : B.getD j 0 = c
            · have eb : (B.getD j 0 == c) = true := by simpa using e
              by_cases e4 : A.getD i 0 = c
              · have ec : (A.getD i 0 == c) = true := by simpa using e4
                simp only [ec, eb, Bool.and_self, if_true, List.mem_singleton]
                constructor
                · intro h; exact ⟨h1, h2, e, .inr (.inr ⟨by omega, e4, h⟩)⟩
                · rintro ⟨_, _, _, h | h | h⟩
                  · exact absurd h.1 e1
                  · exact absurd h.1 e2
                  · exact h.2.2
              · have ec : (A.getD i 0 == c) = false := by simpa using e4
                simp only [ec, Bool.false_and, Bool.false_eq_true, if_false, List.not_mem_nil, false_iff]
                rintro ⟨_, _, _, h | h | h⟩
                · exact e1 h.1
                · exact e2 h.1
                · exact e4 h.2.1
            · have eb : (B.getD j 0 == c) = false := by simpa using e
              simp only [eb, Bool.and_false, Bool.false_eq_true, if_false, List.not_mem_nil, false_iff]
              rintro ⟨_, _, h, _⟩; exact e h
  unfold succ
  rw [hwb]
  simp only [Bool.false_eq_true, if_false, List.append_nil, List.mem_append, List.mem_flatMap]
  constructor
  · rintro (h | ⟨c, hc, h⟩)
    · split at h
      · rename_i hw
        simp only [wild, Bool.and_eq_true, decide_eq_true_eq] at hw
        simp only [List.mem_singleton] at h
        exact .inl ⟨hw.1, hw.2, h⟩
      · cases h
    · obtain ⟨h1, h2, h3, h4⟩ := (key c).1 h
      rcases h4 with h4 | h4 | h4
      · exact .inr (.inl ⟨h1, h2, h4.1, h4.2⟩)
      · exact .inr (.inr (.inl ⟨h1, h2, h4.1, by rw [h3]; exact h4.2.1, h4.2.2⟩))
      · exact .inr (.inr (.inr ⟨h1, h2, h4.1, by rw [h3]; exact h4.2.1.symm, h4.2.2⟩))
  · have hmem : j < B.length → B.getD j 0 ∈ lits A i B j := by
      intro h
      have := (hB j h).2
      unfold lits litr
      rw [decide_eq_true h, decide_eq_true (show B.getD j 0 < 256 from this)]
      simp
    rintro (⟨h1, h2, h3⟩ | ⟨h1, h2, h3, h4⟩ | ⟨h1, h2, h3, h4, h5⟩ | ⟨h1, h2, h3, h4, h5⟩)
    · left
      have hw : wild A i = true := by simp only [wild, Bool.and_eq_true, decide_eq_true_eq]; exact ⟨h1, h2⟩
      rw [hw]; simpa using h3
    · exact .inr ⟨_, hmem h2, (key _).2 ⟨h1, h2, rfl, .inl ⟨h3, h4⟩⟩⟩
    · exact .inr ⟨_, hmem h2, (key _).2 ⟨h1, h2, rfl, .inr (.inl ⟨h3, h4, h5⟩)⟩⟩
    · exact .inr ⟨_, hmem h2, (key _).2 ⟨h1, h2, rfl, .inr (.inr ⟨h3, h4.symm, h5⟩)⟩⟩

theorem reach_next {A B : List Int} {n : Nat} {p q : Nat × Nat} (h : Reach A B n p) (hq : q ∈ succ A B p.1 p.2) : Reach A B n q := by
  obtain ⟨k, hk⟩ := h
  exact ⟨k + 1, p, hk, hq⟩

theorem dp_skip {A B : List Int} {i j : Nat} (hw : A.getD i 0 = 257 ∨ A.getD i 0 = 256) (h : dp A B i j = true) : dp A B (i + 1) j = true := by
  cases j with
  | zero =>
    rw [dp_0]
    by_cases e : A.getD i 0 = 257
    · rw [if_pos e]; exact h
    · rw [if_neg e, if_pos (hw.resolve_left e)]; exact h
  | succ j =>
    rw [dp_s]
    by_cases e : A.getD i 0 = 257
    · rw [if_pos e, h, Bool.true_or]
    · rw [if_neg e, if_pos (hw.resolve_left e), h, Bool.true_or]

/-- A wildcard that has taken bytes up to j. -/
theorem dp_stay {A B : List Int} (hA : ∀ k, k < A.length → 0 ≤ A.getD k 0 ∧ A.getD k 0 ≤ 257) (hB : ∀ k, k < B.length → 0 ≤ B.getD k 0 ∧ B.getD k 0 < 256) {i : Nat} (hi : i < A.length) (hw : A.getD i 0 = 257 ∨ A.getD i 0 = 256) (ih : ∀ j, j ≤ B.length → dp A B i j = true → Reach A B 0 (i, j)) :
    ∀ j, j ≤ B.length → dp A B (i + 1) j = true → Reach A B 0 (i, j) := by
  intro j
  induction j with
  | zero =>
    intro hj h
    rw [dp_0] at h
    by_cases e : A.getD i 0 = 257
    · rw [if_pos e] at h; exact ih 0 hj h
    · rw [if_neg e, if_pos (hw.resolve_left e)] at h; exact ih 0 hj h
  | succ j jh =>
    intro hj h
    rw [dp_s] at h
    by_cases e : A.getD i 0 = 257
    · rw [if_pos e, Bool.or_eq_true] at h
      rcases h with h | h
      · exact ih _ hj h
      · exact reach_next (jh (by omega) h) ((succ_lit (fun k hk => (hA k hk).2) hB (Nat.le_of_lt hi) (by show j ≤ _; omega) _).2 (.inr (.inl ⟨hi, by show j < _; omega, e, rfl⟩)))
    · have e2 := hw.resolve_left e
      rw [if_neg e, if_pos e2, Bool.or_eq_true, Bool.and_eq_true] at h
      rcases h with h | h
      · exact ih _ hj h
      · exact reach_next (jh (by omega) h.2) ((succ_lit (fun k hk => (hA k hk).2) hB (Nat.le_of_lt hi) (by show j ≤ _; omega) _).2 (.inr (.inr (.inl ⟨hi, by show j < _; omega, e2, by simpa using h.1, rfl⟩))))

theorem dp_reach {A B : List Int} (hA : ∀ k, k < A.length → 0 ≤ A.getD k 0 ∧ A.getD k 0 ≤ 257) (hB : ∀ k, k < B.length → 0 ≤ B.getD k 0 ∧ B.getD k 0 < 256) : ∀ i j, i ≤ A.length → j ≤ B.length → dp A B i j = true → Reach A B 0 (i, j) := by
  intro i
  induction i with
  | zero =>
    intro j _ _ h
    rw [dp_z] at h
    have : j = 0 := by simpa using h
    subst this
    exact ⟨0, rfl⟩
  | succ i ih =>
    intro j hi hj h
    by_cases hw : A.getD i 0 = 257 ∨ A.getD i 0 = 256
    · have := dp_stay hA hB (by omega) hw (fun j hj h => ih j (by omega) hj h) j hj h
      exact reach_next this ((succ_lit (fun k hk => (hA k hk).2) hB (by show i ≤ _; omega) hj _).2 (.inl ⟨by omega, by show 256 ≤ A.getD i 0; omega, rfl⟩))
    · have e1 : ¬ A.getD i 0 = 257 := fun e => hw (.inl e)
      have e2 : ¬ A.getD i 0 = 256 := fun e => hw (.inr e)
      have hm := hA i (by omega)
      cases j with
      | zero => rw [dp_0, if_neg e1, if_neg e2] at h; cases h
      | succ j =>
        rw [dp_s, if_neg e1, if_neg e2, Bool.and_eq_true] at h
        refine reach_next (ih j (by omega) (by omega) h.2) ((succ_lit (fun k hk => (hA k hk).2) hB (by show i ≤ _; omega) (by show j ≤ _; omega) _).2 (.inr (.inr (.inr ⟨by omega, by show j < _; omega, by show A.getD i 0 < 256; omega, by simpa using h.1, rfl⟩))))

theorem reach_dp {A B : List Int} (hA : ∀ k, k < A.length → 0 ≤ A.getD k 0 ∧ A.getD k 0 ≤ 257) (hB : ∀ k, k < B.length → 0 ≤ B.getD k 0 ∧ B.getD k 0 < 256) : ∀ k (q : Nat × Nat), reachN A B 0 k q → q.1 ≤ A.length ∧ q.2 ≤ B.length ∧ (dp A B q.1 q.2 = true ∨ (q.1 < A.length ∧ 256 ≤ A.getD q.1 0 ∧ dp A B (q.1 + 1) q.2 = true)) := by
  intro k
  induction k with
  | zero =>
    intro q h
    simp only [reachN] at h
    subst h
    exact ⟨Nat.zero_le _, Nat.zero_le _, .inl (by rw [dp_z]; rfl)⟩
  | succ k ih =>
    intro q h
    obtain ⟨⟨i, j⟩, hr, hs⟩ := h
    obtain ⟨r1, r2, r3⟩ := ih _ hr
    simp only at r1 r2 r3 hs
    obtain ⟨s1, s2⟩ := succ_le r1 r2 hs
    refine ⟨s1, s2, ?_⟩
    have up : i < A.length → 256 ≤ A.getD i 0 → dp A B (i + 1) j = true := by
      intro h1 h2
      have := hA i h1
      rcases r3 with r3 | r3
      · exact dp_skip (by omega) r3
      · exact r3.2.2
    rcases (succ_lit (fun k hk => (hA k hk).2) hB r1 r2 q).1 hs with ⟨h1, h2, rfl⟩ | ⟨h1, h2, h3, rfl⟩ | ⟨h1, h2, h3, h4, rfl⟩ | ⟨h1, h2, h3, h4, rfl⟩
    · exact .inl (up h1 h2)
    · refine .inr ⟨h1, by show 256 ≤ A.getD i 0; omega, ?_⟩
      show dp A B (i + 1) (j + 1) = true
      rw [dp_s, if_pos h3, up h1 (by omega), Bool.or_true]
    · refine .inr ⟨h1, by show 256 ≤ A.getD i 0; omega, ?_⟩
      show dp A B (i + 1) (j + 1) = true
      have e : (B.getD j 0 == 47) = false := by simpa using h4
      rw [dp_s, if_neg (by omega), if_pos h3, up h1 (by omega), e]
      simp
    · left
      show dp A B (i + 1) (j + 1) = true
      have e : (B.getD j 0 == A.getD i 0) = true := by simpa using h4
      rw [dp_s, if_neg (by omega), if_neg (by omega), e, Bool.true_and]
      rcases r3 with r3 | r3
      · exact r3
      · omega
end GP
