/- Plain functions and laws of the pattern compiler: no Go in sight. -/
namespace GP

/-- A pattern's body as tokens: a byte, 256 for a lone star, 257 for two. -/
def tok : List UInt8 → List Int
  | [] => []
  | [c] => if c = 42 then [256] else [(c.toNat : Int)]
  | c :: d :: t => if c = 42 then (if d = 42 then 257 :: tok t else 256 :: tok (d :: t)) else (c.toNat : Int) :: tok (d :: t)

/-- How many bytes stand ahead of the first star. -/
def lit : List UInt8 → Nat
  | [] => 0
  | c :: t => if c = 42 then 0 else lit t + 1

def isDir (s : List UInt8) : Bool := decide (s.getLast? = some 47)
def body (s : List UInt8) : List UInt8 := if isDir s then s.dropLast else s
def pre (s : List UInt8) : List UInt8 := (body s).take (lit (body s))
def rest (s : List UInt8) : List Int := tok ((body s).drop (lit (body s)))
def steps (s : List UInt8) : List Int := rest s ++ (if isDir s then [47, 257] else [])

theorem tok_two (t : List UInt8) : tok (42 :: 42 :: t) = 257 :: tok t := by simp [tok]
theorem tok_one (t : List UInt8) (h : ∀ d r, t = d :: r → d ≠ 42) : tok (42 :: t) = 256 :: tok t := by
  cases t with
  | nil => simp [tok]
  | cons d r => have := h d r rfl; simp [tok, this]
theorem tok_lit (c : UInt8) (t : List UInt8) (h : c ≠ 42) : tok (c :: t) = (c.toNat : Int) :: tok t := by
  cases t with
  | nil => simp [tok, h]
  | cons d r => simp [tok, h]

theorem lit_le : ∀ l : List UInt8, lit l ≤ l.length
  | [] => by simp [lit]
  | c :: t => by simp only [lit, List.length_cons]; have := lit_le t; split <;> omega
theorem lit_not : ∀ (l : List UInt8), 42 ∉ l.take (lit l)
  | [] => by simp
  | c :: t => by
    simp only [lit]
    split
    · simp
    · rename_i h
      rw [List.take_succ_cons]
      simp only [List.mem_cons, not_or]
      exact ⟨fun e => h e.symm, lit_not t⟩
theorem lit_head : ∀ (l : List UInt8) (c : UInt8) (t : List UInt8), l.drop (lit l) = c :: t → c = 42
  | [], c, t, h => by simp at h
  | d :: r, c, t, h => by
    simp only [lit] at h
    split at h
    · rename_i e
      simp only [List.drop_zero, List.cons.injEq] at h
      rw [← h.1, e]
    · rw [List.drop_succ_cons] at h
      exact lit_head r c t h

theorem tok_length : ∀ l : List UInt8, (tok l).length ≤ l.length
  | [] => by simp [tok]
  | [c] => by simp only [tok]; split <;> simp
  | c :: d :: t => by
    have h1 := tok_length t
    have h2 := tok_length (d :: t)
    simp only [tok]
    split
    · split
      · simp; omega
      · simp at h2 ⊢; omega
    · simp at h2 ⊢; omega

/-- A token as text. -/
def render1 (x : Int) : List UInt8 := if x = 256 then [42] else if x = 257 then [42, 42] else [UInt8.ofNat x.toNat]
def render (xs : List Int) : List UInt8 := xs.flatMap render1

theorem render_lit (c : UInt8) : render1 (c.toNat : Int) = [c] := by
  have := c.toNat_lt
  unfold render1
  rw [if_neg (by omega), if_neg (by omega)]
  simp

theorem render_tok : ∀ l : List UInt8, render (tok l) = l
  | [] => rfl
  | [c] => by
    by_cases h : c = 42
    · subst h; rfl
    · rw [tok_lit c [] h]; simp [render, tok, render_lit]
  | c :: d :: t => by
    have h1 := render_tok t
    have h2 := render_tok (d :: t)
    by_cases h : c = 42
    · subst h
      by_cases hd : d = 42
      · subst hd
        rw [tok_two]
        show render1 257 ++ render (tok t) = _
        rw [h1]; rfl
      · rw [tok_one _ (fun x r e => by simp at e; rw [← e.1]; exact hd)]
        show render1 256 ++ render (tok (d :: t)) = _
        rw [h2]; rfl
    · rw [tok_lit c _ h]
      show render1 (c.toNat : Int) ++ render (tok (d :: t)) = _
      rw [h2, render_lit]; rfl

/-- Is a list of tokens canonical: each in range, no literal star, no lone star ahead of a wildcard? -/
def okTok (x : Int) : Prop := 0 ≤ x ∧ x ≤ 257 ∧ x ≠ 42
def canon : List Int → Prop
  | [] => True
  | x :: t => okTok x ∧ (x = 256 → ∀ y r, t = y :: r → y < 256) ∧ canon t

theorem tok_head (l : List UInt8) (y : Int) (r : List Int) (h : tok l = y :: r) (hl : ∀ d t, l = d :: t → d ≠ 42) : y < 256 := by
  cases l with
  | nil => simp [tok] at h
  | cons d t =>
    have hd := hl d t rfl
    rw [tok_lit d t hd] at h
    simp only [List.cons.injEq] at h
    have := d.toNat_lt
    omega

theorem okTok_lit (c : UInt8) (h : c ≠ 42) : okTok (c.toNat : Int) := by
  have := c.toNat_lt
  refine ⟨by omega, by omega, fun e => h (UInt8.toNat_inj.1 ?_)⟩
  show c.toNat = 42
  omega

theorem canon_tok : ∀ l : List UInt8, canon (tok l)
  | [] => trivial
  | [c] => by
    by_cases h : c = 42
    · subst h; exact ⟨⟨by omega, by omega, by omega⟩, fun _ y r e => by simp at e, trivial⟩
    · rw [tok_lit c [] h]
      exact ⟨okTok_lit c h, fun e => by have := c.toNat_lt; omega, trivial⟩
  | c :: d :: t => by
    have h1 := canon_tok t
    have h2 := canon_tok (d :: t)
    by_cases h : c = 42
    · subst h
      by_cases hd : d = 42
      · subst hd
        rw [tok_two]
        exact ⟨⟨by omega, by omega, by omega⟩, fun e => by omega, h1⟩
      · have hdd : ∀ x r, d :: t = x :: r → x ≠ 42 := fun x r e => by simp at e; rw [← e.1]; exact hd
        rw [tok_one _ hdd]
        exact ⟨⟨by omega, by omega, by omega⟩, fun _ y r e => tok_head _ y r e hdd, h2⟩
    · rw [tok_lit c _ h]
      exact ⟨okTok_lit c h, fun e => by have := c.toNat_lt; omega, h2⟩

theorem canon_at : ∀ (l : List Int) (i : Nat) (h : i < l.length), canon l → okTok l[i] ∧ (l[i] = 256 → ∀ h2 : i + 1 < l.length, l[i + 1] < 256)
  | [], i, h, _ => by simp at h
  | x :: t, 0, _, hc => by
    refine ⟨hc.1, fun e h2 => ?_⟩
    cases t with
    | nil => simp at h2
    | cons y r => exact hc.2.1 e y r rfl
  | x :: t, i + 1, h, hc => by
    have := canon_at t i (by simpa using h) hc.2.2
    refine ⟨by simpa using this.1, fun e h2 => ?_⟩
    have := this.2 (by simpa using e) (by simpa using h2)
    simpa using this

theorem rest_head (s : List UInt8) (y : Int) (r : List Int) (h : rest s = y :: r) : 256 ≤ y := by
  unfold rest at h
  cases hl : (body s).drop (lit (body s)) with
  | nil => rw [hl] at h; simp [tok] at h
  | cons c t =>
    have hc := lit_head _ c t hl
    subst hc
    rw [hl] at h
    cases t with
    | nil => simp [tok] at h; omega
    | cons d t' =>
      by_cases hd : d = 42
      · subst hd; rw [tok_two] at h; simp at h; omega
      · rw [tok_one _ (fun x r e => by simp at e; rw [← e.1]; exact hd)] at h; simp at h; omega

/-- Rendered back, a compiled pattern gives its text again. -/
theorem render_back (s : List UInt8) : pre s ++ render (rest s) ++ (if isDir s then [47] else []) = s := by
  unfold pre rest
  rw [render_tok, List.take_append_drop]
  unfold body
  split
  · rename_i h
    have hl : s.getLast? = some 47 := of_decide_eq_true h
    have hne : s ≠ [] := by intro e; subst e; simp at hl
    rw [List.getLast?_eq_some_getLast hne] at hl
    have := List.dropLast_concat_getLast hne
    rw [Option.some.inj hl] at this
    exact this
  · simp

end GP
