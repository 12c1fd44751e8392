/- Plain functions and laws of the line reader: no Go in sight. -/
namespace CL

/-- The place of the first line feed. -/
def fd : List UInt8 → Option Nat
  | [] => none
  | c :: t => if c == 10 then some 0 else (fd t).map (· + 1)

/-- A text without one carriage return at its end. -/
def trim (l : List UInt8) : List UInt8 := if l.getLast? = some 13 then l.dropLast else l

/-- The next line of what is left: how many bytes it takes up, and its text. -/
def nl (l : List UInt8) : Option (Nat × List UInt8) :=
  match fd l with
  | some e => some (e + 1, trim (l.take e))
  | none => if trim l = [] then none else some (l.length, trim l)

/-- What stands behind the last line feed. -/
def lastTail : List UInt8 → List UInt8
  | [] => []
  | c :: t => if 10 ∈ t then lastTail t else if c = 10 then t else c :: t

/-- How many lines a text has. -/
def cnt (l : List UInt8) : Nat := l.count 10 + (if lastTail l = [] ∨ lastTail l = [13] then 0 else 1)

theorem fd_none : ∀ {l : List UInt8}, fd l = none → 10 ∉ l
  | [], _ => by simp
  | c :: t, h => by
    simp only [fd] at h
    split at h
    · cases h
    · rename_i hc
      have := fd_none (l := t) (by simpa using h)
      simp only [beq_iff_eq] at hc
      simp [this]
      exact fun e => hc e.symm

theorem fd_some : ∀ {l : List UInt8} {e : Nat}, fd l = some e → e < l.length ∧ 10 ∉ l.take e ∧ l = l.take e ++ 10 :: l.drop (e + 1)
  | [], _, h => by simp [fd] at h
  | c :: t, e, h => by
    simp only [fd] at h
    split at h
    · rename_i hc
      simp only [Option.some.injEq] at h
      subst h
      simp only [beq_iff_eq] at hc
      subst hc
      simp
    · rename_i hc
      simp only [Option.map_eq_some_iff] at h
      obtain ⟨a, ha, rfl⟩ := h
      obtain ⟨h1, h2, h3⟩ := fd_some ha
      simp only [beq_iff_eq] at hc
      refine ⟨by simp; omega, ?_, ?_⟩
      · simp only [List.take_succ_cons, List.mem_cons, not_or]
        exact ⟨fun e => hc e.symm, h2⟩
      · rw [List.take_succ_cons, List.drop_succ_cons, List.cons_append, ← h3]

theorem trim_sub (l : List UInt8) : ∀ c ∈ trim l, c ∈ l := by
  intro c hc
  unfold trim at hc
  split at hc
  · exact List.dropLast_subset l hc
  · exact hc

theorem trim_or (l : List UInt8) : l = trim l ∨ l = trim l ++ [13] := by
  unfold trim
  split
  · rename_i h
    right
    have hne : l ≠ [] := by intro e; subst e; simp at h
    have hl : l.getLast hne = 13 := by
      rw [List.getLast?_eq_some_getLast hne] at h
      exact Option.some.inj h
    have := List.dropLast_concat_getLast hne
    rw [hl] at this
    exact this.symm
  · left; rfl

theorem trim_nil {l : List UInt8} (h : trim l = []) : l = [] ∨ l = [13] := by
  rcases trim_or l with e | e
  · left; rw [e, h]
  · right; rw [e, h]; rfl

theorem trim_nil_iff (l : List UInt8) : trim l = [] ↔ (l = [] ∨ l = [13]) := by
  constructor
  · exact trim_nil
  · rintro (rfl | rfl) <;> rfl

theorem lastTail_none : ∀ {l : List UInt8}, 10 ∉ l → lastTail l = l
  | [], _ => rfl
  | c :: t, h => by
    simp only [List.mem_cons, not_or] at h
    rw [lastTail, if_neg h.2, if_neg (fun e => h.1 e.symm)]

theorem lastTail_app : ∀ (p q : List UInt8), lastTail (p ++ 10 :: q) = lastTail q
  | [], q => by
    rw [List.nil_append, lastTail]
    split
    · rfl
    · rename_i h; rw [if_pos rfl, lastTail_none h]
  | c :: p, q => by
    rw [List.cons_append, lastTail, if_pos (by simp), lastTail_app p q]

theorem cnt_feed {l : List UInt8} {e : Nat} (h : fd l = some e) : cnt l = cnt (l.drop (e + 1)) + 1 := by
  obtain ⟨h1, h2, h3⟩ := fd_some h
  have hc : l.count 10 = (l.drop (e + 1)).count 10 + 1 := by
    conv => lhs; rw [h3]
    rw [List.count_append, List.count_cons, List.count_eq_zero.2 h2]
    simp
  have ht : lastTail l = lastTail (l.drop (e + 1)) := by
    conv => lhs; rw [h3]
    exact lastTail_app _ _
  unfold cnt
  rw [hc, ht]
  omega

theorem cnt_nil : cnt [] = 0 := by simp [cnt, lastTail]

theorem cnt_last {l : List UInt8} (h : fd l = none) : cnt l = if trim l = [] then 0 else 1 := by
  have h1 := fd_none h
  unfold cnt
  rw [List.count_eq_zero.2 h1, lastTail_none h1]
  by_cases e : l = [] ∨ l = [13]
  · rw [if_pos e, if_pos ((trim_nil_iff l).2 e)]
  · rw [if_neg e, if_neg (fun x => e (trim_nil x))]

/-- One line more: the count goes down by one. -/
theorem cnt_step {l : List UInt8} {m : Nat} {r : List UInt8} (h : nl l = some (m, r)) : cnt l = cnt (l.drop m) + 1 := by
  unfold nl at h
  cases hf : fd l with
  | some e =>
    rw [hf] at h
    simp only [Option.some.injEq, Prod.mk.injEq] at h
    obtain ⟨rfl, _⟩ := h
    exact cnt_feed hf
  | none =>
    rw [hf] at h
    simp only at h
    split at h
    · cases h
    · rename_i ht
      simp only [Option.some.injEq, Prod.mk.injEq] at h
      obtain ⟨rfl, _⟩ := h
      rw [cnt_last hf, if_neg ht, List.drop_eq_nil_of_le (Nat.le_refl _), cnt_nil]

theorem cnt_stop {l : List UInt8} (h : nl l = none) : cnt l = 0 ∧ (l = [] ∨ l = [13]) := by
  unfold nl at h
  cases hf : fd l with
  | some e => rw [hf] at h; simp at h
  | none =>
    rw [hf] at h
    simp only at h
    split at h
    · rename_i ht
      rw [cnt_last hf, if_pos ht]
      exact ⟨rfl, trim_nil ht⟩
    · cases h

theorem nl_bd {l : List UInt8} {m : Nat} {r : List UInt8} (h : nl l = some (m, r)) : 1 ≤ m ∧ m ≤ l.length ∧ 10 ∉ r := by
  unfold nl at h
  cases hf : fd l with
  | some e =>
    rw [hf] at h
    simp only [Option.some.injEq, Prod.mk.injEq] at h
    obtain ⟨rfl, rfl⟩ := h
    obtain ⟨h1, h2, h3⟩ := fd_some hf
    exact ⟨by omega, by omega, fun x => h2 (trim_sub _ _ x)⟩
  | none =>
    rw [hf] at h
    simp only at h
    split at h
    · cases h
    · rename_i ht
      simp only [Option.some.injEq, Prod.mk.injEq] at h
      obtain ⟨rfl, rfl⟩ := h
      have hne : l ≠ [] := by intro e; subst e; exact ht rfl
      have : 0 < l.length := List.length_pos_iff.2 hne
      exact ⟨by omega, by omega, fun x => fd_none hf (trim_sub _ _ x)⟩

/-- The piece of text that a line took up: its text and one of the ends. -/
theorem nl_piece {l : List UInt8} {m : Nat} {r : List UInt8} (h : nl l = some (m, r)) :
    ∃ e : List UInt8, l.take m = r ++ e ∧ (e = [10] ∨ e = [13, 10] ∨ (m = l.length ∧ (e = [] ∨ e = [13]))) := by
  unfold nl at h
  cases hf : fd l with
  | some k =>
    rw [hf] at h
    simp only [Option.some.injEq, Prod.mk.injEq] at h
    obtain ⟨rfl, rfl⟩ := h
    obtain ⟨h1, h2, h3⟩ := fd_some hf
    have ht : l.take (k + 1) = l.take k ++ [10] := by
      conv => lhs; rw [h3]
      rw [List.take_append, List.length_take, Nat.min_eq_left (by omega), List.take_of_length_le (by rw [List.length_take]; omega), show k + 1 - k = 1 from by omega]
      rfl
    rcases trim_or (l.take k) with e | e
    · exact ⟨[10], by rw [ht, ← e], .inl rfl⟩
    · refine ⟨[13, 10], ?_, .inr (.inl rfl)⟩
      rw [ht]
      conv => lhs; rw [e]
      simp
  | none =>
    rw [hf] at h
    simp only at h
    split at h
    · cases h
    · rename_i ht
      simp only [Option.some.injEq, Prod.mk.injEq] at h
      obtain ⟨rfl, rfl⟩ := h
      rw [List.take_of_length_le (Nat.le_refl _)]
      rcases trim_or l with e | e
      · exact ⟨[], by rw [List.append_nil]; exact e, .inr (.inr ⟨rfl, .inl rfl⟩)⟩
      · exact ⟨[13], e, .inr (.inr ⟨rfl, .inr rfl⟩)⟩

theorem nl_nil : nl [] = none := rfl

end CL
