/- Plain laws of the search over pairs of places: no Go in sight. -/
namespace GP

/-- The step that follows place i once it has taken the byte c, and whether it takes it. -/
def adv (s : List Int) (i : Nat) (c : Int) : Nat × Bool :=
  if i = s.length then (i, false)
  else if s.getD i 0 = 257 then (i, true)
  else if s.getD i 0 = 256 then (i, !(c == 47))
  else (i + 1, s.getD i 0 == c)

/-- Is place i a wildcard's? a literal's? -/
def wild (s : List Int) (i : Nat) : Bool := decide (i < s.length) && decide (256 ≤ s.getD i 0)
def litr (s : List Int) (i : Nat) : Bool := decide (i < s.length) && decide (s.getD i 0 < 256)

def lits (a : List Int) (i : Nat) (b : List Int) (j : Nat) : List Int :=
  (if litr a i then [a.getD i 0] else []) ++ (if litr b j then [b.getD j 0] else [])

def succ3 (a b : List Int) (i j : Nat) (c : Int) : List (Nat × Nat) :=
  if (adv a i c).2 && (adv b j c).2 then [((adv a i c).1, (adv b j c).1)] else []

def succ (a b : List Int) (i j : Nat) : List (Nat × Nat) :=
  (if wild a i then [(i + 1, j)] else []) ++ (if wild b j then [(i, j + 1)] else []) ++ (lits a i b j).flatMap (succ3 a b i j)

/-- Reached in k steps from the pair (n, n). -/
def reachN (a b : List Int) (n : Nat) : Nat → Nat × Nat → Prop
  | 0, p => p = (n, n)
  | k + 1, p => ∃ q, reachN a b n k q ∧ p ∈ succ a b q.1 q.2
def Reach (a b : List Int) (n : Nat) (p : Nat × Nat) : Prop := ∃ k, reachN a b n k p

theorem adv_le {s : List Int} {i : Nat} {c : Int} (h : i ≤ s.length) (ht : (adv s i c).2 = true) : (adv s i c).1 ≤ s.length := by
  unfold adv at ht ⊢
  by_cases h1 : i = s.length
  · rw [if_pos h1] at ht; cases ht
  · rw [if_neg h1]
    split
    · exact h
    · split
      · exact h
      · show i + 1 ≤ s.length; omega

theorem succ_le {a b : List Int} {i j : Nat} {p : Nat × Nat} (hi : i ≤ a.length) (hj : j ≤ b.length) (h : p ∈ succ a b i j) : p.1 ≤ a.length ∧ p.2 ≤ b.length := by
  unfold succ at h
  rw [List.mem_append, List.mem_append] at h
  rcases h with (h | h) | h
  · split at h
    · rename_i hw
      simp at h; subst h
      simp [wild] at hw
      exact ⟨by simp; omega, hj⟩
    · cases h
  · split at h
    · rename_i hw
      simp at h; subst h
      simp [wild] at hw
      exact ⟨hi, by simp; omega⟩
    · cases h
  · rw [List.mem_flatMap] at h
    obtain ⟨c, _, hc⟩ := h
    unfold succ3 at hc
    split at hc
    · rename_i hw
      simp at hc; subst hc
      rw [Bool.and_eq_true] at hw
      exact ⟨adv_le hi hw.1, adv_le hj hw.2⟩
    · cases hc

/-- A pair's place in the table. -/
def idx (W : Nat) (p : Nat × Nat) : Nat := p.1 * W + p.2

theorem idx_inj {W : Nat} {p q : Nat × Nat} (hp : p.2 < W) (hq : q.2 < W) (h : idx W p = idx W q) : p = q := by
  obtain ⟨i, j⟩ := p
  obtain ⟨k, l⟩ := q
  simp only [idx] at *
  have h1 : i = k := by
    have e1 : (i * W + j) / W = i := by rw [Nat.mul_comm, Nat.mul_add_div (by omega), Nat.div_eq_of_lt hp]; omega
    have e2 : (k * W + l) / W = k := by rw [Nat.mul_comm, Nat.mul_add_div (by omega), Nat.div_eq_of_lt hq]; omega
    rw [← e1, h, e2]
  subst h1
  have : j = l := by omega
  rw [this]
theorem idx_lt {W la : Nat} {p : Nat × Nat} (h1 : p.1 ≤ la) (h2 : p.2 < W) : idx W p < (la + 1) * W := by
  unfold idx
  have : p.1 * W + W ≤ (la + 1) * W := by
    rw [← Nat.succ_mul]
    exact Nat.mul_le_mul_right _ (by omega)
  omega

/-- Mark a pair, and queue it where it was not marked. -/
def put (W : Nat) (T : List Bool) (Q : List (Nat × Nat)) (p : Nat × Nat) : List Bool × List (Nat × Nat) :=
  if T.getD (idx W p) false then (T, Q) else (T.set (idx W p) true, Q ++ [p])

/-- The search's invariant; 'cur': the pair in hand; 'done': those of its followers that have been marked. -/
structure BI (a b : List Int) (n : Nat) (acc : Nat → Nat → Bool) (T : List Bool) (Q : List (Nat × Nat)) (cur : Option (Nat × Nat)) (done : List (Nat × Nat)) : Prop where
  len : T.length = (a.length + 1) * (b.length + 1)
  start : T.getD (idx (b.length + 1) (n, n)) false = true
  inQ : ∀ p ∈ Q, p.1 ≤ a.length ∧ p.2 ≤ b.length ∧ T.getD (idx (b.length + 1) p) false = true
  sound : ∀ p : Nat × Nat, p.1 ≤ a.length → p.2 ≤ b.length → T.getD (idx (b.length + 1) p) false = true → Reach a b n p
  closed : ∀ p : Nat × Nat, p.1 ≤ a.length → p.2 ≤ b.length → T.getD (idx (b.length + 1) p) false = true → p ∈ Q ∨ cur = some p ∨ (acc p.1 p.2 = false ∧ ∀ s ∈ succ a b p.1 p.2, T.getD (idx (b.length + 1) s) false = true)
  curIn : ∀ p, cur = some p → p.1 ≤ a.length ∧ p.2 ≤ b.length ∧ Reach a b n p
  doneIn : ∀ s ∈ done, T.getD (idx (b.length + 1) s) false = true

section
variable {a b : List Int} {n : Nat} {acc : Nat → Nat → Bool} {T : List Bool} {Q : List (Nat × Nat)} {cur : Option (Nat × Nat)} {done : List (Nat × Nat)} {p : Nat × Nat}

theorem BI.pop (h : BI a b n acc T (p :: Q) none []) : BI a b n acc T Q (some p) [] := by
  have hp := h.inQ p (List.mem_cons_self ..)
  refine ⟨h.len, h.start, fun q hq => h.inQ q (List.mem_cons_of_mem _ hq), h.sound, ?_, ?_, fun s hs => by cases hs⟩
  · intro q h1 h2 h3
    rcases h.closed q h1 h2 h3 with h4 | h4 | h4
    · rcases List.mem_cons.1 h4 with e | e
      · exact .inr (.inl (by rw [e]))
      · exact .inl e
    · cases h4
    · exact .inr (.inr h4)
  · intro q e
    cases e
    exact ⟨hp.1, hp.2.1, h.sound p hp.1 hp.2.1 hp.2.2⟩

theorem getD_set (T : List Bool) (i k : Nat) (hi : i < T.length) : (T.set i true).getD k false = if k = i then true else T.getD k false := by
  simp only [List.getD, List.getElem?_set]
  by_cases e : i = k
  · subst e; simp [hi]
  · rw [if_neg e, if_neg (fun h => e h.symm)]

theorem BI.put {s : Nat × Nat} (h : BI a b n acc T Q (some p) done) (hs : s ∈ succ a b p.1 p.2) :
    BI a b n acc (put (b.length + 1) T Q s).1 (put (b.length + 1) T Q s).2 (some p) (done ++ [s]) := by
  obtain ⟨p1, p2, p3⟩ := h.curIn p rfl
  obtain ⟨s1, s2⟩ := succ_le p1 p2 hs
  have hlt : idx (b.length + 1) s < T.length := by rw [h.len]; exact idx_lt s1 (by omega)
  unfold GP.put
  by_cases hT : T.getD (idx (b.length + 1) s) false = true
  · rw [if_pos hT]
    refine ⟨h.len, h.start, h.inQ, h.sound, h.closed, h.curIn, fun x hx => ?_⟩
    rcases List.mem_append.1 hx with hx | hx
    · exact h.doneIn x hx
    · simp at hx; subst hx; exact hT
  · rw [if_neg hT]
    have mono : ∀ x, T.getD (idx (b.length + 1) x) false = true → (T.set (idx (b.length + 1) s) true).getD (idx (b.length + 1) x) false = true := by
      intro x hx
      rw [getD_set _ _ _ hlt]; split
      · rfl
      · exact hx
    have new : (T.set (idx (b.length + 1) s) true).getD (idx (b.length + 1) s) false = true := by rw [getD_set _ _ _ hlt, if_pos rfl]
    have back : ∀ x : Nat × Nat, x.2 ≤ b.length → (T.set (idx (b.length + 1) s) true).getD (idx (b.length + 1) x) false = true → x = s ∨ T.getD (idx (b.length + 1) x) false = true := by
      intro x hx2 hx
      rw [getD_set _ _ _ hlt] at hx
      split at hx
      · rename_i e; exact .inl (idx_inj (by omega) (by omega) e)
      · exact .inr hx
    have hr : Reach a b n s := by
      obtain ⟨k, hk⟩ := p3
      exact ⟨k + 1, p, hk, hs⟩
    refine ⟨by rw [List.length_set]; exact h.len, mono _ h.start, ?_, ?_, ?_, h.curIn, ?_⟩
    · intro q hq
      rcases List.mem_append.1 hq with hq | hq
      · have := h.inQ q hq; exact ⟨this.1, this.2.1, mono _ this.2.2⟩
      · simp at hq; subst hq; exact ⟨s1, s2, new⟩
    · intro q h1 h2 h3
      rcases back q h2 h3 with e | e
      · rw [e]; exact hr
      · exact h.sound q h1 h2 e
    · intro q h1 h2 h3
      rcases back q h2 h3 with e | e
      · exact .inl (List.mem_append.2 (.inr (by simp [e])))
      · rcases h.closed q h1 h2 e with h4 | h4 | h4
        · exact .inl (List.mem_append.2 (.inl h4))
        · exact .inr (.inl h4)
        · exact .inr (.inr ⟨h4.1, fun x hx => mono _ (h4.2 x hx)⟩)
    · intro x hx
      rcases List.mem_append.1 hx with hx | hx
      · exact mono _ (h.doneIn x hx)
      · simp at hx; subst hx; exact new

theorem BI.finish (h : BI a b n acc T Q (some p) (succ a b p.1 p.2)) (ha : acc p.1 p.2 = false) : BI a b n acc T Q none [] := by
  refine ⟨h.len, h.start, h.inQ, h.sound, ?_, fun q e => (by cases e), fun s hs => (by cases hs)⟩
  intro q h1 h2 h3
  rcases h.closed q h1 h2 h3 with h4 | h4 | h4
  · exact .inl h4
  · simp only [Option.some.injEq] at h4
    subst h4
    exact .inr (.inr ⟨ha, h.doneIn⟩)
  · exact .inr (.inr h4)

/-- The queue has run dry: nothing that accepts can be reached. -/
theorem BI.dry (h : BI a b n acc T [] none []) (hn1 : n ≤ a.length) (hn2 : n ≤ b.length) : ∀ q, Reach a b n q → acc q.1 q.2 = false := by
  have key : ∀ k q, reachN a b n k q → q.1 ≤ a.length ∧ q.2 ≤ b.length ∧ T.getD (idx (b.length + 1) q) false = true := by
    intro k
    induction k with
    | zero => intro q hq; simp only [reachN] at hq; subst hq; exact ⟨hn1, hn2, h.start⟩
    | succ k ih =>
      intro q hq
      obtain ⟨r, hr, hs⟩ := hq
      obtain ⟨r1, r2, r3⟩ := ih r hr
      obtain ⟨s1, s2⟩ := succ_le r1 r2 hs
      rcases h.closed r r1 r2 r3 with h4 | h4 | h4
      · cases h4
      · cases h4
      · exact ⟨s1, s2, h4.2 q hs⟩
  rintro q ⟨k, hk⟩
  obtain ⟨q1, q2, q3⟩ := key k q hk
  rcases h.closed q q1 q2 q3 with h4 | h4 | h4
  · cases h4
  · cases h4
  · exact h4.1
end

/-- How many pairs are not yet marked. -/
def unmarked (T : List Bool) : Nat := T.count false

theorem count_set (T : List Bool) : ∀ (i : Nat), T.getD i true = false → (T.set i true).count false + 1 = T.count false := by
  induction T with
  | nil => intro i h; simp at h
  | cons x t ih =>
    intro i h
    cases i with
    | zero => simp at h; subst h; simp
    | succ i =>
      have := ih i (by simpa using h)
      simp only [List.set_cons_succ, List.count_cons]
      omega

theorem put_count (W : Nat) (T : List Bool) (Q : List (Nat × Nat)) (p : Nat × Nat) (h : idx W p < T.length) : unmarked (put W T Q p).1 + (put W T Q p).2.length = unmarked T + Q.length := by
  unfold put unmarked
  by_cases hT : T.getD (idx W p) false = true
  · rw [if_pos hT]
  · rw [if_neg hT]
    have h2 : T.getD (idx W p) true = false := by
      rw [Bool.not_eq_true] at hT
      simpa [List.getD, List.getElem?_eq_getElem h] using hT
    have := count_set T (idx W p) h2
    simp only [List.length_append, List.length_singleton]
    omega

theorem put_len (W : Nat) (T : List Bool) (Q : List (Nat × Nat)) (p : Nat × Nat) : (put W T Q p).1.length = T.length := by
  unfold put; split
  · rfl
  · simp

end GP
