/- The search's states, round by round. -/
import Derived.Test.Qxb6603042aMf
namespace Go.Proofs.Qxb6603042a.M
open Go.RowKit
set_option linter.unusedVariables false

theorem SW.below {w5 w w' : World} {L : Nat} {T : List Bool} {g : Nat} {Q : List (Nat × Nat)} (h : SW w5 w L T g Q) (hb : Below w.heap.size w w') : SW w5 w' L T g Q := by
  obtain ⟨off, cap, h⟩ := h
  have hs := h.size
  have hg := h.lt
  have hz := hb.size
  refine ⟨off, cap, by rw [hb.block _ (by omega)]; exact h.row, by rw [hb.block _ (by omega)]; exact h.hdr, by rw [hb.block _ (by omega)]; exact h.qh, ?_, ?_, ?_, h.far, by omega, h.le, h.bel.trans (hb.mono (by omega)), by omega⟩
  · intro j hj
    rw [hb.cell (p := ⟨g, off + 2 * j, none⟩) hg, hb.cell (p := ⟨g, off + 2 * j + 1, none⟩) hg]; exact h.qc j hj
  · intro k hk
    rw [hb.cell (p := ⟨g, off + k, none⟩) hg]; exact h.qr k hk
  · intro k
    rw [hb.frozen (p := ⟨g, k, none⟩) hg]; exact h.qf k

theorem SW.lower {w5 w : World} {L : Nat} {T : List Bool} {g : Nat} {Q : List (Nat × Nat)} (h : SW w5 w L T g Q) : Below L w5 w := by
  obtain ⟨_, _, h⟩ := h; exact h.bel

theorem SR.drewN {w5 w : World} {L : Nat} {T : List Bool} {hd : Value} {g off cap : Nat} {Q : List (Nat × Nat)} (h : SR w5 w L T hd g off cap Q) (k : Nat) : SR w5 (w.drewN k) L T hd g off cap Q :=
  ⟨h.row, h.hdr, h.qh, h.qc, h.qr, h.qf, h.far, h.lt, h.le, below_drewN h.bel k, h.size⟩

theorem SR.popped {w5 w : World} {L : Nat} {T : List Bool} {hd : Value} {g off cap : Nat} {p : Nat × Nat} {Q : List (Nat × Nat)} (h : SR w5 w L T hd g off cap (p :: Q)) (k : Nat) :
    SW w5 ((w.drewN k).setCell ⟨L + 3, 0, none⟩ (.slice (if cap = 1 then some ⟨g, off, none⟩ else some ⟨g, off + 2, none⟩) Q.length (cap - 1))) L T g Q := by
  refine ⟨if cap = 1 then off else off + 2, cap - 1, ?_⟩
  have := (h.pop.drewN k).setHd (.slice (if cap = 1 then some ⟨g, off, none⟩ else some ⟨g, off + 2, none⟩) Q.length (cap - 1))
  have e : (if cap = 1 then some (⟨g, off, none⟩ : Addr) else some ⟨g, off + 2, none⟩) = some ⟨g, if cap = 1 then off else off + 2, none⟩ := by split <;> rfl
  rw [e] at this ⊢
  exact this

/-- The state of the search between two statements of a round. -/
def RD (w5 : World) (L : Nat) (A B : List Int) (n : Nat) (acc : Nat → Nat → Bool) (cur : Option (Nat × Nat)) (D : List (Nat × Nat)) (c : Nat) (X : Nat → World → Prop) (w : World) : Prop :=
  ∃ T g Q, SW w5 w L T g Q ∧ GP.BI A B n acc T Q cur D ∧ GP.unmarked T + Q.length = c ∧ X g w

section
variable {w5 w w' : World} {L n c : Nat} {A B : List Int} {acc : Nat → Nat → Bool} {p : Nat × Nat} {cur : Option (Nat × Nat)} {D : List (Nat × Nat)} {X : Nat → World → Prop}

theorem RD.below (h : RD w5 L A B n acc cur D c X w) (hb : Below w.heap.size w w') (hX : ∀ g, g < w.heap.size → X g w → X g w') : RD w5 L A B n acc cur D c X w' := by
  obtain ⟨T, g, Q, h1, h2, h3, h4⟩ := h
  have hg : g < w.heap.size := by obtain ⟨_, _, h⟩ := h1; exact h.lt
  exact ⟨T, g, Q, h1.below hb, h2, h3, hX g hg h4⟩

theorem RD.lower (h : RD w5 L A B n acc cur D c X w) : Below L w5 w := by
  obtain ⟨_, _, _, h, _⟩ := h; exact h.lower

/-- The closure's call, seen from the search's state. -/
theorem reach_rd (h : RD w5 L A B n acc (some p) D c X w) (s8 : Nat) (h8 : w5.cell? ⟨s8, 0, none⟩ = some (.int .i64 ((B.length : Int) + 1))) (hs8 : s8 < L) (hA : A.length ≤ 1100) (hB : B.length ≤ 1100) (hcc : c ≤ 2000000) (i j : Nat) (hs : (i, j) ∈ GP.succ A B p.1 p.2)
    (hX : ∀ g g' w', X g w → FR L w w' g g' → g < w.heap.size → X g' w') :
    Calls Try.prog 27 #[.int .i64 (i : Int), .int .i64 (j : Int), .pointer (some ⟨L + 1, 0, none⟩), .pointer (some ⟨s8, 0, none⟩), .pointer (some ⟨L + 3, 0, none⟩)] w fun e w' => e = .returned (.tuple #[]) ∧ RD w5 L A B n acc (some p) (D ++ [(i, j)]) c X w' := by
  obtain ⟨T, g, Q, h1, h2, h3, h4⟩ := h
  have hg : g < w.heap.size := by obtain ⟨_, _, h⟩ := h1; exact h.lt
  have hc := h2.curIn p rfl
  have hle := GP.succ_le hc.1 hc.2.1 hs
  have hM : (A.length + 1) * (B.length + 1) ≤ 1212201 := Nat.le_trans (Nat.mul_le_mul (show A.length + 1 ≤ 1101 by omega) (show B.length + 1 ≤ 1101 by omega)) (by decide)
  have hidx : GP.idx (B.length + 1) (i, j) < T.length := by rw [h2.len]; exact GP.idx_lt hle.1 (by have := hle.2; simp at this ⊢; omega)
  have hcnt := GP.put_count (B.length + 1) T Q (i, j) hidx
  have hTl := h2.len
  have hput := h2.put hs
  have hQ : Q.length ≤ 2000000 := by omega
  refine (reach_any w5 w L T g Q i j (B.length + 1) (i * (B.length + 1)) s8 h1 (by simpa using h8) hs8 rfl hidx (by omega) hQ).mono ?_
  rintro e w' ⟨rfl, g', hs', hf⟩
  exact ⟨rfl, _, g', _, hs', hput, hcnt.trans h3, hX g g' w' h4 hf hg⟩
end

/-- The row of literals, beside the queue. -/
def LX (L : Nat) (ao : Option Addr) (xs : List Int) (g : Nat) (w : World) : Prop :=
  ∀ k, k < xs.length → ∃ h, ao = some ⟨h, 0, none⟩ ∧ h ≠ g ∧ L + 4 ≤ h ∧ h < w.heap.size ∧ w.cell? ⟨h, k, none⟩ = some (.int .u8 (xs.getD k 0))

theorem RD.lits {w5 w w' : World} {L n c : Nat} {A B : List Int} {acc : Nat → Nat → Bool} {cur : Option (Nat × Nat)} {D : List (Nat × Nat)} {X : Nat → World → Prop} (h : RD w5 L A B n acc cur D c X w)
    (hb : Below w.heap.size w w') {ao : Option Addr} {cv : Nat} {xs : List Int} (ho : w'.ownsRow w.heap.size 5 1 (.slice ao xs.length cv) xs.length (cU xs)) : RD w5 L A B n acc cur D c (LX L ao xs) w' := by
  obtain ⟨T, g, Q, h1, h2, h3, -⟩ := h
  have hg : g < w.heap.size ∧ L + 4 ≤ w.heap.size := by obtain ⟨_, _, h⟩ := h1; exact ⟨h.lt, h.size⟩
  refine ⟨T, g, Q, h1.below hb, h2, h3, ?_⟩
  intro k hk
  obtain ⟨ha, hc⟩ := own_cells ho
  cases ao with
  | none => exact absurd (ha rfl).1 (by omega)
  | some ad =>
    obtain ⟨g2, cap2, hv, -, -⟩ := World.ownsRow.form ho (by omega)
    cases hv
    obtain ⟨⟨e1, e2⟩, e3⟩ := hc _ rfl
    refine ⟨g2, rfl, by simp at e1; omega, by simp at e1; omega, e2, ?_⟩
    have := e3 k (.int .u8 (xs.getD k 0)) (by simp [cU, List.getD, List.getElem?_eq_getElem hk])
    simpa [Addr.add_lit] using this

theorem LX.reach {L : Nat} {ao : Option Addr} {xs : List Int} (g g' : Nat) (w w' : World) (h : LX L ao xs g w) (hf : FR L w w' g g') (hg : g < w.heap.size) : LX L ao xs g' w' := by
  intro k hk
  obtain ⟨b, h1, h2, h3, h4, h5⟩ := h k hk
  have hz := hf.size
  refine ⟨b, h1, by rcases hf.own with e | e <;> omega, h3, by omega, ?_⟩
  rw [World.cell?_of_block (w := w) (a := ⟨b, k, none⟩) (hf.blk b h4 h3 h2)]; exact h5

theorem lits_ok {A B : List Int} {i j : Nat} (pa : Place A i) (pb : Place B j) : ∀ x ∈ GP.lits A i B j, 0 ≤ x ∧ x < 256 := by
  intro x hx
  unfold GP.lits at hx
  rcases List.mem_append.1 hx with hx | hx
  · rcases pa with rfl | ⟨ha, ha0, ha1⟩ | ⟨ha, ha1⟩
    · rw [litr_end] at hx; cases hx
    · rw [litr_yes ha ha1, if_pos rfl, List.mem_singleton] at hx; subst hx; exact ⟨ha0, ha1⟩
    · rw [litr_no ha1] at hx; cases hx
  · rcases pb with rfl | ⟨ha, ha0, ha1⟩ | ⟨ha, ha1⟩
    · rw [litr_end] at hx; cases hx
    · rw [litr_yes ha ha1, if_pos rfl, List.mem_singleton] at hx; subst hx; exact ⟨ha0, ha1⟩
    · rw [litr_no ha1] at hx; cases hx

theorem lits_len (A B : List Int) (i j : Nat) : (GP.lits A i B j).length ≤ 2 := by
  unfold GP.lits
  rw [List.length_append]
  split <;> split <;> simp

theorem take_flat (f : Int → List (Nat × Nat)) (xs : List Int) (k : Nat) (h : k < xs.length) : (xs.take (k + 1)).flatMap f = (xs.take k).flatMap f ++ f (xs.getD k 0) := by
  rw [List.take_succ_eq_append_getElem h, List.flatMap_append]
  simp [List.getD, List.getElem?_eq_getElem h]

theorem succ3_in {A B : List Int} {i j : Nat} {x : Int} {s : Nat × Nat} (hx : x ∈ GP.lits A i B j) (hs : s ∈ GP.succ3 A B i j x) : s ∈ GP.succ A B i j := by
  unfold GP.succ
  exact List.mem_append.2 (.inr (List.mem_flatMap.2 ⟨x, hx, hs⟩))

theorem lits_pos (l : List UInt8) (xs : List Int) (h : ∀ x ∈ xs, 0 ≤ x) : ∀ x ∈ litsOf l ++ xs, 0 ≤ x := by
  intro x hx
  rcases List.mem_append.1 hx with hx | hx
  · simp only [litsOf, List.mem_map] at hx
    obtain ⟨b, _, rfl⟩ := hx
    omega
  · exact h x hx

theorem place_of {A : List Int} (h : ∀ x ∈ A, 0 ≤ x) {i : Nat} (hi : i ≤ A.length) : Place A i := by
  rcases Nat.lt_or_ge i A.length with h1 | h1
  · have h0 : 0 ≤ A.getD i 0 := by
      rw [List.getD, List.getElem?_eq_getElem h1]; exact h _ (List.getElem_mem h1)
    rcases Int.lt_or_le (A.getD i 0) 256 with h2 | h2
    · exact .inr (.inl ⟨h1, h0, h2⟩)
    · exact .inr (.inr ⟨h1, h2⟩)
  · exact .inl (by omega)

theorem count_start (M k : Nat) (h : k < M) : GP.unmarked ((List.replicate M false).set k true) + 1 = M := by
  have := GP.count_set (List.replicate M false) k (by simp [h])
  simpa [GP.unmarked] using this

theorem BI_start (A B : List Int) (n : Nat) (acc : Nat → Nat → Bool) (hA : n ≤ A.length) (hB : n ≤ B.length) :
    GP.BI A B n acc ((List.replicate ((A.length + 1) * (B.length + 1)) false).set (GP.idx (B.length + 1) (n, n)) true) [(n, n)] none [] := by
  have hlt : GP.idx (B.length + 1) (n, n) < (A.length + 1) * (B.length + 1) := GP.idx_lt hA (by show n < B.length + 1; omega)
  have hlt' : GP.idx (B.length + 1) (n, n) < (List.replicate ((A.length + 1) * (B.length + 1)) false).length := by simpa using hlt
  have hst : ((List.replicate ((A.length + 1) * (B.length + 1)) false).set (GP.idx (B.length + 1) (n, n)) true).getD (GP.idx (B.length + 1) (n, n)) false = true := by
    rw [GP.getD_set _ _ _ hlt', if_pos rfl]
  have hon : ∀ q : Nat × Nat, q.2 ≤ B.length → ((List.replicate ((A.length + 1) * (B.length + 1)) false).set (GP.idx (B.length + 1) (n, n)) true).getD (GP.idx (B.length + 1) q) false = true → q = (n, n) := by
    intro q hq h
    rw [GP.getD_set _ _ _ hlt'] at h
    split at h
    · rename_i e
      exact GP.idx_inj (W := B.length + 1) (by omega) (by show n < B.length + 1; omega) e
    · exfalso
      simp only [List.getD, List.getElem?_replicate] at h
      split at h <;> simp at h
  refine ⟨by simp, hst, ?_, ?_, ?_, fun p e => (by cases e), fun s hs => (by cases hs)⟩
  · intro q hq
    simp at hq; subst hq
    exact ⟨hA, hB, hst⟩
  · intro q h1 h2 h3
    rw [hon q h2 h3]
    exact ⟨0, rfl⟩
  · intro q h1 h2 h3
    exact .inl (by rw [hon q h2 h3]; simp)

theorem static_rows {wc w5 : World} {base gA la cA : Nat} {A : List Int} (h : wc.ownsRow base 35 1 (.slice (some ⟨gA, 0, none⟩) la cA) la (cI A)) (hb : Below wc.heap.size wc w5) : RowI w5 gA A ∧ gA < wc.heap.size ∧ A.length = la := by
  have hl := h.lt gA rfl
  have hlen : A.length = la := by have := h.1; simpa [cI] using this
  refine ⟨?_, hl.2, hlen⟩
  intro i hi
  rw [hb.cell (p := ⟨gA, i, none⟩) hl.2, h.cellAt i (by omega)]
  simp [cI, List.getD, List.getElem?_eq_getElem hi]
end Go.Proofs.Qxb6603042a.M
