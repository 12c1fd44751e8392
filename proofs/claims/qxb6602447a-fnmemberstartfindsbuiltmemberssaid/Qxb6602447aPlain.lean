/- Plain functions and plain laws of the JSON reader: no Go in sight. -/
namespace JF

/-- Is the number one of JSON's four blanks? -/
def sp (c : Int) : Bool := c == 32 || c == 9 || c == 13 || c == 10
/-- Does the number end a bare literal? -/
def stop (c : Int) : Bool := c == 44 || c == 125 || c == 93 || c == 32 || c == 9 || c == 13 || c == 10

/-- How many blanks a list opens with. -/
def skip : List Int → Nat
  | [] => 0
  | c :: t => if sp c then skip t + 1 else 0

/-- How many numbers a list opens with that end no literal. -/
def litE : List Int → Nat
  | [] => 0
  | c :: t => if stop c then 0 else litE t + 1

/-- Behind an opening quote: how far the string reaches, its closing quote counted in; 'esc': a backslash stands just ahead. -/
def strE : List Int → Bool → Option Nat
  | [], _ => none
  | _ :: t, true => (strE t false).map (· + 1)
  | c :: t, false => if c == 34 then some 1 else if c == 92 then (strE t true).map (· + 1) else (strE t false).map (· + 1)

/-- Inside brackets: 'st' 0: outside a string; 1: inside one; 2: behind a backslash. -/
def nestE : List Int → Nat → Int → Option Nat
  | [], _, _ => none
  | c :: t, 0, dep =>
    if c == 34 then (nestE t 1 dep).map (· + 1)
    else if c == 123 || c == 91 then (nestE t 0 (dep + 1)).map (· + 1)
    else if c == 125 || c == 93 then (if dep - 1 == 0 then some 1 else (nestE t 0 (dep - 1)).map (· + 1))
    else (nestE t 0 dep).map (· + 1)
  | c :: t, 1, dep => if c == 34 then (nestE t 0 dep).map (· + 1) else if c == 92 then (nestE t 2 dep).map (· + 1) else (nestE t 1 dep).map (· + 1)
  | _ :: t, _, dep => (nestE t 1 dep).map (· + 1)

/-- How far the value reaches that a list opens with. -/
def valE : List Int → Option Nat
  | [] => none
  | c :: t =>
    if c == 34 then (strE t false).map (· + 1)
    else if c == 123 || c == 91 then nestE (c :: t) 0 0
    else if stop c then none else some (litE (c :: t))

/-- The Go answer: an index, or -1. -/
def ans (i : Nat) : Option Nat → Int
  | none => -1
  | some k => (i : Int) + k

theorem strE_app : ∀ (l r : List Int) (e : Bool), strE l e = some l.length → strE (l ++ r) e = some l.length
  | [], _, _, h => by simp [strE] at h
  | c :: t, r, true, h => by
    simp only [strE, List.cons_append, List.length_cons, Option.map_eq_some_iff] at h ⊢
    obtain ⟨a, ha, hb⟩ := h
    have : a = t.length := by omega
    subst this
    exact ⟨_, strE_app t r false ha, rfl⟩
  | c :: t, r, false, h => by
    simp only [strE, List.cons_append, List.length_cons] at h ⊢
    split
    · rename_i hc; rw [if_pos hc] at h; exact h
    · rename_i hc; rw [if_neg hc] at h
      split
      · rename_i hd; rw [if_pos hd] at h
        simp only [Option.map_eq_some_iff] at h ⊢
        obtain ⟨a, ha, hb⟩ := h
        have : a = t.length := by omega
        subst this
        exact ⟨_, strE_app t r true ha, rfl⟩
      · rename_i hd; rw [if_neg hd] at h
        simp only [Option.map_eq_some_iff] at h ⊢
        obtain ⟨a, ha, hb⟩ := h
        have : a = t.length := by omega
        subst this
        exact ⟨_, strE_app t r false ha, rfl⟩

theorem map_len {o : Option Nat} {n : Nat} (h : o.map (· + 1) = some (n + 1)) : o = some n := by
  cases o with
  | none => simp at h
  | some a => simp at h; rw [h]

theorem nestE_app : ∀ (l r : List Int) (st : Nat) (dep : Int), nestE l st dep = some l.length → nestE (l ++ r) st dep = some l.length
  | [], _, _, _, h => by simp [nestE] at h
  | c :: t, r, 0, dep, h => by
    simp only [nestE, List.cons_append, List.length_cons] at h ⊢
    split
    · rename_i hc; rw [if_pos hc] at h; rw [nestE_app t r _ _ (map_len h)]; rfl
    · rename_i hc; rw [if_neg hc] at h
      split
      · rename_i hd; rw [if_pos hd] at h; rw [nestE_app t r _ _ (map_len h)]; rfl
      · rename_i hd; rw [if_neg hd] at h
        split
        · rename_i he; rw [if_pos he] at h
          split
          · rename_i hf; rw [if_pos hf] at h; exact h
          · rename_i hf; rw [if_neg hf] at h; rw [nestE_app t r _ _ (map_len h)]; rfl
        · rename_i he; rw [if_neg he] at h; rw [nestE_app t r _ _ (map_len h)]; rfl
  | c :: t, r, 1, dep, h => by
    simp only [nestE, List.cons_append, List.length_cons] at h ⊢
    split
    · rename_i hc; rw [if_pos hc] at h; rw [nestE_app t r _ _ (map_len h)]; rfl
    · rename_i hc; rw [if_neg hc] at h
      split
      · rename_i hd; rw [if_pos hd] at h; rw [nestE_app t r _ _ (map_len h)]; rfl
      · rename_i hd; rw [if_neg hd] at h; rw [nestE_app t r _ _ (map_len h)]; rfl
  | c :: t, r, (n + 2), dep, h => by
    simp only [nestE, List.cons_append, List.length_cons] at h ⊢
    rw [nestE_app t r _ _ (map_len h)]; rfl

theorem litE_app : ∀ (l r : List Int), litE l = l.length → litE (l ++ 44 :: r) = l.length
  | [], r, _ => by simp [litE, stop]
  | c :: t, r, h => by
    simp only [litE, List.cons_append, List.length_cons] at h ⊢
    split
    · rename_i hc; rw [if_pos hc] at h; omega
    · rename_i hc; rw [if_neg hc] at h; rw [litE_app t r (by omega)]

/-- A whole value, a comma behind it: it reaches as far. -/
theorem valE_app (l r : List Int) (h : valE l = some l.length) : valE (l ++ 44 :: r) = some l.length := by
  cases l with
  | nil => simp [valE] at h
  | cons c t =>
    simp only [valE, List.cons_append] at h ⊢
    split
    · rename_i hc; rw [if_pos hc] at h
      rw [strE_app t _ _ (map_len h)]; rfl
    · rename_i hc; rw [if_neg hc] at h
      split
      · rename_i hd; rw [if_pos hd] at h
        have := nestE_app (c :: t) (44 :: r) 0 0 h
        rwa [List.cons_append] at this
      · rename_i hd; rw [if_neg hd] at h
        split
        · rename_i he; rw [if_pos he] at h; cases h
        · rename_i he; rw [if_neg he] at h
          have := litE_app (c :: t) r (Option.some.inj h)
          rw [List.cons_append] at this
          rw [this]

/-- A whole value opens with no blank. -/
theorem valE_head (c : Int) (t : List Int) (n : Nat) (h : valE (c :: t) = some n) : sp c = false := by
  simp only [valE] at h
  cases hs : sp c with
  | false => rfl
  | true =>
    have hc : c = 32 ∨ c = 9 ∨ c = 13 ∨ c = 10 := by simpa [sp, or_assoc] using hs
    rcases hc with rfl | rfl | rfl | rfl <;> simp [stop] at h

/-- A string inside brackets, read at one go. -/
theorem nestE_str : ∀ (l : List Int) (e : Bool) (dep : Int),
    nestE l (if e then 2 else 1) dep = (match strE l e with | none => none | some k => (nestE (l.drop k) 0 dep).map (· + k))
  | [], e, dep => by simp [nestE, strE]
  | c :: t, true, dep => by
    have ih := nestE_str t false dep
    simp only [if_true, nestE, strE]
    simp only [Bool.false_eq_true, if_false] at ih
    rw [ih]
    cases strE t false with
    | none => rfl
    | some k =>
      simp only [Option.map_some, List.drop_succ_cons]
      cases nestE (t.drop k) 0 dep <;> simp <;> omega
  | c :: t, false, dep => by
    have ih := nestE_str t false dep
    have ih2 := nestE_str t true dep
    simp only [Bool.false_eq_true, if_false, if_true] at ih ih2
    simp only [Bool.false_eq_true, if_false, nestE, strE]
    split
    · simp
    · split
      · rw [ih2]
        cases strE t true with
        | none => rfl
        | some k =>
          simp only [Option.map_some, List.drop_succ_cons]
          cases nestE (t.drop k) 0 dep <;> simp <;> omega
      · rw [ih]
        cases strE t false with
        | none => rfl
        | some k =>
          simp only [Option.map_some, List.drop_succ_cons]
          cases nestE (t.drop k) 0 dep <;> simp <;> omega

theorem skip_le : ∀ l : List Int, skip l ≤ l.length
  | [] => by simp [skip]
  | c :: t => by simp only [skip, List.length_cons]; have := skip_le t; split <;> omega

theorem litE_le : ∀ l : List Int, litE l ≤ l.length
  | [] => by simp [litE]
  | c :: t => by simp only [litE, List.length_cons]; have := litE_le t; split <;> omega

theorem strE_bd : ∀ (l : List Int) (e : Bool) (k : Nat), strE l e = some k → 1 ≤ k ∧ k ≤ l.length
  | [], _, _, h => by simp [strE] at h
  | c :: t, true, k, h => by
    simp only [strE, Option.map_eq_some_iff] at h
    obtain ⟨a, ha, rfl⟩ := h
    have := strE_bd t _ _ ha
    simp; omega
  | c :: t, false, k, h => by
    simp only [strE] at h
    split at h
    · simp at h; subst h; simp
    · split at h
      · simp only [Option.map_eq_some_iff] at h
        obtain ⟨a, ha, rfl⟩ := h
        have := strE_bd t _ _ ha
        simp; omega
      · simp only [Option.map_eq_some_iff] at h
        obtain ⟨a, ha, rfl⟩ := h
        have := strE_bd t _ _ ha
        simp; omega

/-- A text without quote and backslash, a quote behind it. -/
theorem strE_clean : ∀ (l r : List Int), (∀ c ∈ l, c ≠ 34 ∧ c ≠ 92) → strE (l ++ 34 :: r) false = some (l.length + 1)
  | [], r, _ => by simp [strE]
  | c :: t, r, h => by
    have h1 := h c (List.mem_cons_self ..)
    have ih := strE_clean t r (fun x hx => h x (List.mem_cons_of_mem _ hx))
    simp only [List.cons_append, strE]
    rw [if_neg (by simpa using h1.1), if_neg (by simpa using h1.2), ih]
    rfl

end JF
