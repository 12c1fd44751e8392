/- Plain laws: the search against a literal name answers as the glob's table. No Go in sight. -/
import Derived.Test.Qxb6603042aPlain
import Derived.Test.Qxb6603042aPlainC
namespace GP

/-- From the start: along the diagonal over the first n literals, and on from (n, n). -/
theorem reach_from {A B : List Int} (hA : ∀ k, k < A.length → 0 ≤ A.getD k 0 ∧ A.getD k 0 ≤ 257) (hB : ∀ k, k < B.length → 0 ≤ B.getD k 0 ∧ B.getD k 0 < 256) {n : Nat} (hl : ∀ x, x < n → A.getD x 0 < 256) :
    ∀ k (q : Nat × Nat), reachN A B 0 k q → (q.1 < n ∧ q.2 = q.1 ∧ ∀ x, x < q.1 → A.getD x 0 = B.getD x 0) ∨ ((∀ x, x < n → A.getD x 0 = B.getD x 0) ∧ Reach A B n q) := by
  intro k
  induction k with
  | zero =>
    intro q h
    simp only [reachN] at h
    subst h
    by_cases e : n = 0
    · subst e
      exact .inr ⟨fun x hx => absurd hx (Nat.not_lt_zero _), ⟨0, rfl⟩⟩
    · exact .inl ⟨by show 0 < n; omega, rfl, fun x hx => absurd hx (Nat.not_lt_zero _)⟩
  | succ k ih =>
    intro q h
    obtain ⟨⟨i, j⟩, hr, hs⟩ := h
    obtain ⟨r1, r2, _⟩ := reach_dp hA hB k _ hr
    simp only at r1 r2 hs
    rcases ih _ hr with ⟨h1, h2, h3⟩ | ⟨h1, h2⟩
    · simp only at h1 h2 h3
      subst h2
      have hlt := hl j h1
      rcases (succ_lit (fun k hk => (hA k hk).2) hB r1 r2 q).1 hs with ⟨s1, s2, rfl⟩ | ⟨s1, s2, s3, rfl⟩ | ⟨s1, s2, s3, s4, rfl⟩ | ⟨s1, s2, s3, s4, rfl⟩
      · omega
      · omega
      · omega
      · have hall : ∀ x, x < j + 1 → A.getD x 0 = B.getD x 0 := by
          intro x hx
          by_cases e : x = j
          · subst e; exact s4.symm
          · exact h3 x (by omega)
        by_cases e : j + 1 = n
        · subst e
          exact .inr ⟨hall, ⟨0, rfl⟩⟩
        · exact .inl ⟨by show j + 1 < n; omega, rfl, hall⟩
    · exact .inr ⟨h1, reach_next h2 hs⟩

theorem reach_diag {A B : List Int} (hA : ∀ k, k < A.length → 0 ≤ A.getD k 0 ∧ A.getD k 0 ≤ 257) (hB : ∀ k, k < B.length → 0 ≤ B.getD k 0 ∧ B.getD k 0 < 256) {n : Nat} (hnA : n ≤ A.length) (hnB : n ≤ B.length) (hl : ∀ x, x < n → A.getD x 0 < 256) (he : ∀ x, x < n → A.getD x 0 = B.getD x 0) :
    ∀ m, m ≤ n → Reach A B 0 (m, m) := by
  intro m
  induction m with
  | zero => intro _; exact ⟨0, rfl⟩
  | succ m ih =>
    intro hm
    exact reach_next (ih (by omega)) ((succ_lit (fun k hk => (hA k hk).2) hB (by show m ≤ _; omega) (by show m ≤ _; omega) _).2 (.inr (.inr (.inr ⟨by show m < _; omega, by show m < _; omega, hl m (by omega), (he m (by omega)).symm, rfl⟩))))

theorem reach_join {A B : List Int} {n : Nat} (h0 : Reach A B 0 (n, n)) : ∀ k (q : Nat × Nat), reachN A B n k q → Reach A B 0 q := by
  intro k
  induction k with
  | zero => intro q h; simp only [reachN] at h; subst h; exact h0
  | succ k ih =>
    intro q h
    obtain ⟨p, hp, hs⟩ := h
    exact reach_next (ih p hp) hs

theorem search_dp {A B : List Int} (hA : ∀ k, k < A.length → 0 ≤ A.getD k 0 ∧ A.getD k 0 ≤ 257) (hB : ∀ k, k < B.length → 0 ≤ B.getD k 0 ∧ B.getD k 0 < 256) {n i j : Nat} (hnA : n ≤ A.length) (hnB : n ≤ B.length) (hl : ∀ x, x < n → A.getD x 0 < 256) (hi : n ≤ i) (hiA : i ≤ A.length) (hj : j ≤ B.length) (hlit : i < A.length → A.getD i 0 < 256) :
    ((∀ x, x < n → A.getD x 0 = B.getD x 0) ∧ Reach A B n (i, j)) ↔ dp A B i j = true := by
  constructor
  · rintro ⟨h1, k, hk⟩
    obtain ⟨k2, hk2⟩ := reach_join (reach_diag hA hB hnA hnB hl h1 n (Nat.le_refl _)) k _ hk
    obtain ⟨_, _, h | ⟨h2, h3, _⟩⟩ := reach_dp hA hB k2 _ hk2
    · exact h
    · have := hlit h2
      simp only at h3
      omega
  · intro h
    obtain ⟨k, hk⟩ := dp_reach hA hB i j hiA hj h
    rcases reach_from hA hB hl k _ hk with ⟨h1, _⟩ | h1
    · simp only at h1; omega
    · exact h1

theorem getD_left (T S : List Int) (i : Nat) (h : i < T.length) : (T ++ S).getD i 0 = T.getD i 0 := by
  rw [List.getD_eq_getElem?_getD, List.getD_eq_getElem?_getD, List.getElem?_append_left h]

theorem dp_append (T S B : List Int) : ∀ i j, i ≤ T.length → dp (T ++ S) B i j = dp T B i j := by
  intro i
  induction i with
  | zero => intro j _; rw [dp_z, dp_z]
  | succ i ih =>
    intro j hi
    induction j with
    | zero => rw [dp_0, dp_0, getD_left T S i (by omega), ih 0 (by omega)]
    | succ j jh => rw [dp_s, dp_s, getD_left T S i (by omega), ih _ (by omega), ih _ (by omega), jh]

theorem dp_dir (T B : List Int) : ∀ j, dp (T ++ [47, 257]) B (T.length + 2) j = true ↔ ∃ k, k < j ∧ B.getD k 0 = 47 ∧ dp T B T.length k = true := by
  have e1 : (T ++ [47, 257]).getD T.length 0 = 47 := by
    rw [List.getD_eq_getElem?_getD, List.getElem?_append_right (Nat.le_refl _)]; simp
  have e2 : (T ++ [47, 257]).getD (T.length + 1) 0 = 257 := by
    rw [List.getD_eq_getElem?_getD, List.getElem?_append_right (Nat.le_succ _)]; simp
  intro j
  induction j with
  | zero =>
    rw [dp_0, if_pos e2, dp_0, e1]
    simp
  | succ j ih =>
    rw [dp_s, if_pos e2, Bool.or_eq_true, ih, dp_s, e1, if_neg (by decide), if_neg (by decide), Bool.and_eq_true, dp_append T _ B _ _ (Nat.le_refl _)]
    constructor
    · rintro (⟨h1, h2⟩ | ⟨k, h1, h2⟩)
      · exact ⟨j, Nat.lt_succ_self _, by simpa using h1, h2⟩
      · exact ⟨k, by omega, h2⟩
    · rintro ⟨k, h1, h2, h3⟩
      by_cases e : k = j
      · subst e; exact .inl ⟨by simpa using h2, h3⟩
      · exact .inr ⟨k, by omega, h2, h3⟩

/-! The bytes of a name, and the pattern's whole list of tokens. -/
def nums (l : List UInt8) : List Int := l.map fun b => (b.toNat : Int)
theorem nums_length (l : List UInt8) : (nums l).length = l.length := by simp [nums]
theorem nums_getD (l : List UInt8) (k : Nat) (h : k < l.length) : (nums l).getD k 0 = (l[k].toNat : Int) := by
  simp [nums, h]
theorem nums_bound (l : List UInt8) (k : Nat) (h : k < (nums l).length) : 0 ≤ (nums l).getD k 0 ∧ (nums l).getD k 0 < 256 := by
  rw [nums_length] at h
  rw [nums_getD l k h]
  have := l[k].toNat_lt
  omega

theorem tok_nums : ∀ (l m : List UInt8), 42 ∉ l → tok (l ++ m) = nums l ++ tok m := by
  intro l m
  induction l with
  | nil => intro _; rfl
  | cons c t ih =>
    intro h
    rw [List.mem_cons, not_or] at h
    show tok (c :: (t ++ m)) = _
    rw [tok_lit c _ (fun e => h.1 e.symm), ih h.2]
    rfl

/-- All of a pattern's tokens: the head's bytes, then the steps. -/
def all (s : List UInt8) : List Int := nums (pre s) ++ steps s

theorem pre_not (s : List UInt8) : 42 ∉ pre s := lit_not _

theorem all_eq (s : List UInt8) : all s = tok (body s) ++ (if isDir s then [47, 257] else []) := by
  unfold all steps rest
  rw [← List.append_assoc, ← tok_nums _ _ (pre_not s)]
  unfold pre
  rw [List.take_append_drop]

theorem tok_bound (s : List UInt8) (k : Nat) (h : k < (tok s).length) : 0 ≤ (tok s).getD k 0 ∧ (tok s).getD k 0 ≤ 257 := by
  have := (canon_at (tok s) k h (canon_tok s)).1
  rw [List.getD_eq_getElem?_getD, List.getElem?_eq_getElem h]
  exact ⟨this.1, this.2.1⟩

theorem all_bound (s : List UInt8) (k : Nat) (h : k < (all s).length) : 0 ≤ (all s).getD k 0 ∧ (all s).getD k 0 ≤ 257 := by
  rw [all_eq] at h ⊢
  by_cases hk : k < (tok (body s)).length
  · rw [getD_left _ _ _ hk]; exact tok_bound _ _ hk
  · rw [List.length_append] at h
    cases hd : isDir s with
    | false => rw [hd] at h; simp at h; omega
    | true =>
      rw [hd] at h
      simp only [if_true, List.length_cons, List.length_nil] at h ⊢
      rw [List.getD_eq_getElem?_getD, List.getElem?_append_right (by omega)]
      have : k - (tok (body s)).length = 0 ∨ k - (tok (body s)).length = 1 := by omega
      rcases this with e | e <;> rw [e] <;> simp

/-! A literal name. -/
def isLit (s : List UInt8) : Bool := !(s.contains 42) && !(isDir s)

theorem lit_all : ∀ (l : List UInt8), 42 ∉ l → lit l = l.length := by
  intro l
  induction l with
  | nil => intro _; rfl
  | cons c t ih =>
    intro h
    rw [List.mem_cons, not_or] at h
    rw [lit, if_neg (fun e => h.1 e.symm), ih h.2]; rfl

theorem isLit_iff (s : List UInt8) : isLit s = true ↔ 42 ∉ s ∧ isDir s = false := by
  unfold isLit
  simp

theorem lit_dir {s : List UInt8} (h : isLit s = true) : isDir s = false := ((isLit_iff s).1 h).2
theorem lit_body {s : List UInt8} (h : isLit s = true) : body s = s := by unfold body; rw [lit_dir h]; rfl
theorem lit_pre {s : List UInt8} (h : isLit s = true) : pre s = s := by
  unfold pre
  rw [lit_body h, lit_all s ((isLit_iff s).1 h).1, List.take_length]
theorem lit_steps {s : List UInt8} (h : isLit s = true) : steps s = [] := by
  unfold steps rest
  rw [lit_body h, lit_all s ((isLit_iff s).1 h).1, lit_dir h, List.drop_length]
  rfl
theorem lit_allt {s : List UInt8} (h : isLit s = true) : all s = nums s := by
  unfold all; rw [lit_pre h, lit_steps h, List.append_nil]

/-- The glob's answer, as the checker's text computes it. -/
def glob (P N : List UInt8) : Bool :=
  dp (tok (body P)) (nums N) (tok (body P)).length N.length || (isDir P && (List.range N.length).any fun k => (nums N).getD k 0 == 47 && dp (tok (body P)) (nums N) (tok (body P)).length k)

theorem glob_iff (P N : List UInt8) : glob P N = true ↔ dp (all P) (nums N) (all P).length N.length = true ∨ (isDir P = true ∧ dp (all P) (nums N) ((all P).length - 2) N.length = true) := by
  unfold glob
  rw [all_eq]
  cases hd : isDir P with
  | false => simp
  | true =>
    simp only [if_true, List.length_append, List.length_cons, List.length_nil, Bool.true_and, true_and, Bool.or_eq_true]
    rw [show (tok (body P)).length + (0 + 1 + 1) - 2 = (tok (body P)).length by omega, dp_append _ _ _ _ _ (Nat.le_refl _)]
    rw [show (tok (body P)).length + (0 + 1 + 1) = (tok (body P)).length + 2 by omega, dp_dir]
    simp only [List.any_eq_true, List.mem_range, Bool.and_eq_true, beq_iff_eq]
    exact Or.comm

theorem all_long (s : List UInt8) : (all s).length = (pre s).length + (steps s).length := by unfold all; rw [List.length_append, nums_length]

/-- The search's answer against a literal name is the glob's. -/
theorem search_glob (P N : List UInt8) (r : Bool)
    (hm : if (pre P).take (min (pre P).length N.length) = N.take (min (pre P).length N.length) then
      (r = true ↔ ∃ q : Nat × Nat, Reach (all P) (nums N) (min (pre P).length N.length) q ∧ ((q.1 = (all P).length ∨ (isDir P = true ∧ q.1 + 2 = (all P).length)) ∧ q.2 = N.length)) else r = false) :
    r = glob P N := by
  have hn1 : min (pre P).length N.length ≤ (pre P).length := Nat.min_le_left _ _
  have hn2 : min (pre P).length N.length ≤ N.length := Nat.min_le_right _ _
  generalize min (pre P).length N.length = n at *
  have hnA : n ≤ (all P).length := by rw [all_long]; omega
  have hnB : n ≤ (nums N).length := by rw [nums_length]; exact hn2
  have hget : ∀ x, x < n → (all P).getD x 0 = (nums (pre P)).getD x 0 := fun x hx => by
    unfold all; exact getD_left _ _ _ (by rw [nums_length]; omega)
  have hl : ∀ x, x < n → (all P).getD x 0 < 256 := fun x hx => by
    rw [hget x hx]; exact (nums_bound _ _ (by rw [nums_length]; omega)).2
  have heq : (pre P).take n = N.take n ↔ ∀ x, x < n → (all P).getD x 0 = (nums N).getD x 0 := by
    constructor
    · intro h x hx
      rw [hget x hx, nums_getD _ x (by omega), nums_getD _ x (by omega)]
      have h1 : ((pre P).take n)[x]? = (N.take n)[x]? := by rw [h]
      rw [List.getElem?_take, List.getElem?_take, if_pos hx, if_pos hx, List.getElem?_eq_getElem (by omega), List.getElem?_eq_getElem (by omega)] at h1
      rw [Option.some.inj h1]
    · intro h
      apply List.ext_getElem?
      intro x
      rw [List.getElem?_take, List.getElem?_take]
      by_cases hx : x < n
      · rw [if_pos hx, if_pos hx, List.getElem?_eq_getElem (by omega), List.getElem?_eq_getElem (by omega)]
        have := h x hx
        rw [hget x hx, nums_getD _ x (by omega), nums_getD _ x (by omega)] at this
        congr 1
        exact UInt8.toNat_inj.1 (by omega)
      · rw [if_neg hx, if_neg hx]
  have s1 := search_dp (all_bound P) (nums_bound N) (n := n) (i := (all P).length) (j := N.length) hnA hnB hl hnA (Nat.le_refl _) (by rw [nums_length]; exact Nat.le_refl _) (fun h => absurd h (Nat.lt_irrefl _))
  have s2 : isDir P = true → (((∀ x, x < n → (all P).getD x 0 = (nums N).getD x 0) ∧ Reach (all P) (nums N) n ((all P).length - 2, N.length)) ↔ dp (all P) (nums N) ((all P).length - 2) N.length = true) := by
    intro hd
    have hlen : (steps P).length = (rest P).length + 2 := by unfold steps; rw [hd]; simp
    have h2 : (all P).length = (tok (body P)).length + 2 := by rw [all_eq, hd]; simp
    have h3 := all_long P
    refine search_dp (all_bound P) (nums_bound N) (n := n) hnA hnB hl (by omega) (by omega) (by rw [nums_length]; exact Nat.le_refl _) (fun _ => ?_)
    rw [h2, show (tok (body P)).length + 2 - 2 = (tok (body P)).length by omega, all_eq, hd]
    rw [List.getD_eq_getElem?_getD, List.getElem?_append_right (Nat.le_refl _)]
    simp
  have hdl : isDir P = true → 2 ≤ (all P).length := by intro hd; rw [all_eq, hd]; simp
  rw [Bool.eq_iff_iff, glob_iff]
  by_cases ht : (pre P).take n = N.take n
  · rw [if_pos ht] at hm
    have ha := heq.1 ht
    rw [hm, ← s1]
    constructor
    · rintro ⟨⟨i, j⟩, hr, h1 | ⟨hd, h1⟩, h2⟩
      · simp only at h1 h2; subst h1; subst h2
        exact .inl ⟨ha, hr⟩
      · simp only at h1 h2; subst h2
        have : i = (all P).length - 2 := by omega
        subst this
        exact .inr ⟨hd, (s2 hd).1 ⟨ha, hr⟩⟩
    · rintro (⟨_, h⟩ | ⟨hd, h⟩)
      · exact ⟨_, h, .inl rfl, rfl⟩
      · exact ⟨_, ((s2 hd).2 h).2, .inr ⟨hd, by have := hdl hd; show (all P).length - 2 + 2 = _; omega⟩, rfl⟩
  · rw [if_neg ht] at hm
    subst hm
    constructor
    · intro h; cases h
    · rintro (h | ⟨hd, h⟩)
      · exact absurd (heq.2 (s1.2 h).1) ht
      · exact absurd (heq.2 ((s2 hd).2 h).1) ht
end GP
