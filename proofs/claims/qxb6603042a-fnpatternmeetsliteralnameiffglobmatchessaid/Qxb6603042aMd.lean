/- The search's world: the table of marks, the queue that moves. -/
import Derived.Test.Qxb6603042aMc
import Derived.Deep.AppendSrc
import Derived.Deep.MidRow
import Derived.Deep.Upon
import Derived.Lib.LazyBuf
namespace Go.Proofs.Qxb6603042a.M
open Go.RowKit

theorem info41 : (Try.prog.info? 41).map (fun i => (i.zero, i.size, i.bytes)) = some (some (.agg #[.int .i64 0, .int .i64 0]), 2, 16) := by kernel_rfl

/-- The world of the search: w5: the world ahead of the table; L its size: the table at L, its variable at L + 1, the queue's variable at L + 3; the queue itself at L + 2 or at a later block. -/
structure SR (w5 wr : World) (L : Nat) (T : List Bool) (hd : Value) (g off cap : Nat) (Q : List (Nat × Nat)) : Prop where
  row : wr.heap[L]? = some (.cells (T.map Value.bool).toArray 4 (0, 0))
  hdr : wr.heap[L + 1]? = some (.cells #[.slice (some ⟨L, 0, none⟩) T.length T.length] 37 (0, 0))
  qh : wr.heap[L + 3]? = some (.cells #[hd] 42 (0, 0))
  qc : ∀ j (h : j < Q.length), wr.cell? ⟨g, off + 2 * j, none⟩ = some (.int .i64 (Q[j].1 : Int)) ∧ wr.cell? ⟨g, off + 2 * j + 1, none⟩ = some (.int .i64 (Q[j].2 : Int))
  qr : ∀ k, k < cap * 2 → (wr.cell? ⟨g, off + k, none⟩).isSome = true
  qf : ∀ k, wr.frozen? ⟨g, k, none⟩ = false
  far : g = L + 2 ∨ L + 4 ≤ g
  lt : g < wr.heap.size
  le : Q.length ≤ cap
  bel : Below L w5 wr
  size : L + 4 ≤ wr.heap.size

/-- What a step leaves of the blocks behind the search's variables. -/
structure FR (L : Nat) (w w' : World) (g g' : Nat) : Prop where
  blk : ∀ k, k < w.heap.size → L + 4 ≤ k → k ≠ g → w'.heap[k]? = w.heap[k]?
  size : w.heap.size ≤ w'.heap.size
  own : g' = g ∨ w.heap.size ≤ g'

theorem FR.refl (L : Nat) (w : World) (g : Nat) : FR L w w g g := ⟨fun _ _ _ _ => rfl, Nat.le_refl _, .inl rfl⟩
theorem FR.trans {L : Nat} {w w' w'' : World} {g g' g'' : Nat} (h : FR L w w' g g') (k : FR L w' w'' g' g'') : FR L w w'' g g'' := by
  have h1 := h.size
  have k1 := k.size
  refine ⟨fun x h2 h3 h4 => ?_, by omega, ?_⟩
  · rw [k.blk x (by omega) h3 (by rcases h.own with e | e <;> omega), h.blk x h2 h3 h4]
  · rcases h.own with e | e <;> rcases k.own with e2 | e2
    · exact .inl (e2.trans e)
    · exact .inr (by omega)
    · exact .inr (by omega)
    · exact .inr (by omega)

section
variable {w5 w : World} {L : Nat} {T : List Bool} {hd : Value} {g off cap : Nat} {Q : List (Nat × Nat)}

theorem SR.alloc (h : SR w5 w L T hd g off cap Q) (o : Obj) : SR w5 (w.alloc o) L T hd g off cap Q := by
  have hs := h.size
  have hg := h.lt
  have hb := (Below.refl w.heap.size w).alloc (Nat.le_refl _) o
  refine ⟨by rw [hb.block _ (by omega)]; exact h.row, by rw [hb.block _ (by omega)]; exact h.hdr, by rw [hb.block _ (by omega)]; exact h.qh, ?_, ?_, ?_, h.far, by simp; omega, h.le, h.bel.alloc (by omega) o, by simp; omega⟩
  · intro j hj
    rw [hb.cell (p := ⟨g, off + 2 * j, none⟩) hg, hb.cell (p := ⟨g, off + 2 * j + 1, none⟩) hg]; exact h.qc j hj
  · intro k hk
    rw [hb.cell (p := ⟨g, off + k, none⟩) hg]; exact h.qr k hk
  · intro k
    rw [hb.frozen (p := ⟨g, k, none⟩) hg]; exact h.qf k

theorem SR.mark (h : SR w5 w L T hd g off cap Q) (k : Nat) : SR w5 (w.setCell ⟨L, k, none⟩ (.bool true)) L (T.set k true) hd g off cap Q := by
  have hs := h.size
  have hg := h.lt
  have hne : g ≠ L := by rcases h.far with e | e <;> omega
  have hb : ∀ x, x ≠ L → (w.setCell ⟨L, k, none⟩ (.bool true)).heap[x]? = w.heap[x]? := fun x hx => Below.heap_setCell _ _ _ _ hx
  have hcell : ∀ o, (w.setCell ⟨L, k, none⟩ (.bool true)).cell? ⟨g, o, none⟩ = w.cell? ⟨g, o, none⟩ := fun o => World.cell?_of_block (w := w) (hb g hne)
  have hz : (w.setCell ⟨L, k, none⟩ (.bool true)).heap.size = w.heap.size := by simp [World.setCell]
  refine ⟨?_, by rw [hb _ (by omega), List.length_set]; exact h.hdr, by rw [hb _ (by omega)]; exact h.qh, ?_, ?_, ?_, h.far, by omega, h.le, h.bel.setCell (Nat.le_refl _) _, by omega⟩
  · have := h.row
    simp [World.setCell, Array.getElem?_modify, this]
  · intro j hj
    rw [hcell, hcell]; exact h.qc j hj
  · intro x hx
    rw [hcell]; exact h.qr x hx
  · intro x
    rw [World.frozen?_of_block (hb g hne)]; exact h.qf x

theorem SR.setHd (h : SR w5 w L T hd g off cap Q) (v : Value) : SR w5 (w.setCell ⟨L + 3, 0, none⟩ v) L T v g off cap Q := by
  have hs := h.size
  have hg := h.lt
  have hne : g ≠ L + 3 := by rcases h.far with e | e <;> omega
  have hb : ∀ x, x ≠ L + 3 → (w.setCell ⟨L + 3, 0, none⟩ v).heap[x]? = w.heap[x]? := fun x hx => Below.heap_setCell _ _ _ _ hx
  have hcell : ∀ o, (w.setCell ⟨L + 3, 0, none⟩ v).cell? ⟨g, o, none⟩ = w.cell? ⟨g, o, none⟩ := fun o => World.cell?_of_block (w := w) (hb g hne)
  have hz : (w.setCell ⟨L + 3, 0, none⟩ v).heap.size = w.heap.size := by simp [World.setCell]
  refine ⟨by rw [hb _ (by omega)]; exact h.row, by rw [hb _ (by omega)]; exact h.hdr, ?_, ?_, ?_, ?_, h.far, by omega, h.le, h.bel.setCell (by simp) _, by omega⟩
  · have := h.qh
    simp [World.setCell, Array.getElem?_modify, this]
  · intro j hj
    rw [hcell, hcell]; exact h.qc j hj
  · intro x hx
    rw [hcell]; exact h.qr x hx
  · intro x
    rw [World.frozen?_of_block (hb g hne)]; exact h.qf x

theorem SR.drew (h : SR w5 w L T hd g off cap Q) : SR w5 w.drew L T hd g off cap Q := ⟨h.row, h.hdr, h.qh, h.qc, h.qr, h.qf, h.far, h.lt, h.le, h.bel.drew, h.size⟩

/-- The first of the queue is taken. -/
theorem SR.pop {p : Nat × Nat} (h : SR w5 w L T hd g off cap (p :: Q)) : SR w5 w L T hd g (if cap = 1 then off else off + 2) (cap - 1) Q := by
  have hl := h.le
  simp at hl
  refine ⟨h.row, h.hdr, h.qh, ?_, ?_, h.qf, h.far, h.lt, by omega, h.bel, h.size⟩
  · intro j hj
    have := h.qc (j + 1) (by simpa using hj)
    rw [if_neg (by omega)]
    simp only [List.getElem_cons_succ] at this
    rw [show off + 2 + 2 * j = off + 2 * (j + 1) from by omega]
    exact this
  · intro k hk
    by_cases e : cap = 1
    · omega
    · rw [if_neg e, show off + 2 + k = off + (2 + k) from by omega]
      exact h.qr _ (by omega)

theorem FR.alloc (L : Nat) (w : World) (g : Nat) (o : Obj) : FR L w (w.alloc o) g g :=
  ⟨fun k hk _ _ => ((Below.refl w.heap.size w).alloc (Nat.le_refl _) o).block k hk, by simp, .inl rfl⟩
theorem FR.setCell (L : Nat) (w : World) (g : Nat) (a : Addr) (ha : a.block < L + 4) (v : Value) : FR L w (w.setCell a v) g g :=
  ⟨fun k _ h2 _ => Below.heap_setCell _ _ _ _ (by omega), by simp [World.setCell], .inl rfl⟩

/-- The queue's cells. -/
def qCells (Q : List (Nat × Nat)) : List Value := Q.flatMap fun p => [.int .i64 (p.1 : Int), .int .i64 (p.2 : Int)]
theorem qCells_length (Q : List (Nat × Nat)) : (qCells Q).length = 2 * Q.length := by
  induction Q with
  | nil => rfl
  | cons p t ih => simp [qCells] at ih ⊢; omega
theorem qCells_at (Q : List (Nat × Nat)) : ∀ (j : Nat) (h : j < Q.length), (qCells Q)[2 * j]? = some (.int .i64 (Q[j].1 : Int)) ∧ (qCells Q)[2 * j + 1]? = some (.int .i64 (Q[j].2 : Int)) := by
  induction Q with
  | nil => intro j h; simp at h
  | cons p t ih =>
    intro j h
    cases j with
    | zero => simp [qCells]
    | succ j =>
      have := ih j (by simpa using h)
      rw [show 2 * (j + 1) = 2 * j + 1 + 1 from by omega]
      simpa [qCells] using this

/-- 'append' onto the queue. -/
theorem run_append_q (ty : TypeId) (h : SR w5 w L T hd g off cap Q) (ad : Addr) (c : Nat) (i j : Nat) (h0 : w.cell? (ad.add 0) = some (.int .i64 (i : Int))) (h1 : w.cell? (ad.add 1) = some (.int .i64 (j : Int))) (hQ : Q.length ≤ 2000000) :
    ∃ g' off' cap' w', (Builtin.append_ #[42, 42] ty #[.slice (some ⟨g, off, none⟩) Q.length cap, .slice (some ad) 1 c]).run Try.prog w = .ok (.slice (some ⟨g', off', none⟩) (Q.length + 1) cap') w' ∧
      SR w5 w' L T hd g' off' cap' (Q ++ [(i, j)]) ∧ FR L w w' g g' := by
  obtain ⟨i41, hi, hz0, hz1, hz2⟩ := info_parts info41
  have hs := h.size
  have hg := h.lt
  have hle := h.le
  have hsrc : Src Try.prog i41.size 42 (.slice (some ad) 1 c) 1 [.int .i64 (i : Int), .int .i64 (j : Int)] w := by
    refine Src.ofSlice w Try.underlying42 ad 1 c _ (by rw [hz1]; rfl) ?_ (by simp [Value.oneCell'])
    intro k u hk
    match k with
    | 0 => simp at hk; rw [← hk]; exact h0
    | 1 => simp at hk; rw [← hk]; exact h1
    | k + 2 => simp at hk
  by_cases hroom : Q.length + 1 ≤ cap
  · have hex : ∀ x, x < 2 → (w.cell? ⟨g, off + Q.length * 2 + x, none⟩).isSome = true := by
      intro x hx
      rw [show off + Q.length * 2 + x = off + (Q.length * 2 + x) from by omega]
      exact h.qr _ (by omega)
    have hrun := run_append_room_src (P := Try.prog) w 42 42 ty 41 i41 Try.underlying42 hi g off Q.length cap (.slice (some ad) 1 c) 1 _ hsrc hroom (by rw [hz1]; exact fun x hx => hex x (by simpa using hx)) (fun x _ => h.qf _)
    rw [hz1] at hrun
    have hne : ∀ x, x < w.heap.size → x ≠ g → (w.setCells g (off + Q.length * 2) [.int .i64 (i : Int), .int .i64 (j : Int)]).heap[x]? = w.heap[x]? := fun x hx hn => World.heap_setCells_other _ _ _ _ hx hn
    have hsz : (w.setCells g (off + Q.length * 2) [.int .i64 (i : Int), .int .i64 (j : Int)]).heap.size = w.heap.size := by simp [World.setCells, World.setCell]
    have hL : L ≠ g ∧ L + 1 ≠ g ∧ L + 3 ≠ g ∧ L ≤ g := by rcases h.far with e | e <;> omega
    refine ⟨g, off, cap, _, hrun, ⟨?_, ?_, ?_, ?_, ?_, ?_, h.far, by omega, by simpa using hroom, below_setCells hL.2.2.2 _ _ _ h.bel, by omega⟩, ⟨fun k hk _ hn => hne k hk hn, by omega, .inl rfl⟩⟩
    · rw [hne _ (by omega) hL.1]; exact h.row
    · rw [hne _ (by omega) hL.2.1]; exact h.hdr
    · rw [hne _ (by omega) hL.2.2.1]; exact h.qh
    · intro k hk
      simp at hk
      by_cases e : k < Q.length
      · rw [World.cell?_setCells_out g _ _ _ _ (fun _ _ => .inl (by simp; omega)), World.cell?_setCells_out g _ _ _ _ (fun _ _ => .inl (by simp; omega)), List.getElem_append_left e]
        exact h.qc k e
      · have e2 : k = Q.length := by omega
        subst e2
        have key := World.cell?_setCells_in g [.int .i64 (i : Int), .int .i64 (j : Int)] (off + Q.length * 2) w (fun x hx => hex x (by simpa using hx))
        have k0 := key 0 (by simp)
        have k1 := key 1 (by simp)
        rw [show off + 2 * Q.length = off + Q.length * 2 + 0 from by omega]
        exact ⟨by simpa using k0, by simpa using k1⟩
    · intro k hk
      exact World.isSome_setCells _ _ _ _ _ (h.qr k hk)
    · intro k
      rw [World.frozen?_setCells]; exact h.qf k
  · have hcap : cap = Q.length := by omega
    have holdc : ∀ k u, (qCells Q)[k]? = some u → w.cell? ((⟨g, off, none⟩ : Addr).add k) = some u := by
      intro k u hk
      rw [Addr.add_lit]
      have hk2 : k < 2 * Q.length := by rw [← qCells_length]; exact (List.getElem?_eq_some_iff.1 hk).1
      rcases Nat.mod_two_eq_zero_or_one k with e | e
      · obtain ⟨m, rfl⟩ : ∃ m, k = 2 * m := ⟨k / 2, by omega⟩
        rw [(h.qc m (by omega)).1, ← hk, (qCells_at Q m (by omega)).1]
      · obtain ⟨m, rfl⟩ : ∃ m, k = 2 * m + 1 := ⟨k / 2, by omega⟩
        rw [← Nat.add_assoc, (h.qc m (by omega)).2, ← hk, (qCells_at Q m (by omega)).2]
    have hold := run_firstCells_some (P := Try.prog) w.drew i41.size Q.length ⟨g, off, none⟩ Q.length cap (qCells Q) (by rw [hz1, qCells_length]; omega) (by simpa using holdc)
    have hfit := growslice_fits (need := Q.length + 1) (old := cap) (bytes := i41.bytes) (by omega) (by rw [hz2]; omega)
    have hrun := run_append_grow_src (P := Try.prog) w 42 42 ty 41 i41 _ Try.underlying42 hi hz0 (some ⟨g, off, none⟩) Q.length cap (qCells Q) hold (.slice (some ad) 1 c) 1 _ hsrc (by omega) (by omega) hfit
    have hcg := grownCap_ge w (Q.length + 1) cap 41
    generalize grownCap w (Q.length + 1) cap 41 = C at hrun hcg
    have hD := h.drew
    generalize hcur : ((qCells Q ++ [Value.int .i64 (i : Int), Value.int .i64 (j : Int)]).toArray ++ Builtin.zeroCells (Value.agg #[Value.int .i64 0, Value.int .i64 0]).cells (C - (Q.length + 1))) = cur at hrun
    have hblk : (w.drew.alloc (.cells cur 41)).heap[w.heap.size]? = some (.cells cur 41 (0, 0)) := heap_alloc_new w.drew _
    have hcell : ∀ o, (w.drew.alloc (.cells cur 41)).cell? ⟨w.heap.size, o, none⟩ = cur[o]? := fun o => cell_of_row _ _ o cur 41 (0, 0) hblk
    have hlen : cur.size = C * 2 := by
      rw [← hcur, Array.size_append]
      simp [qCells_length, Builtin.zeroCells, Value.cells]
      omega
    have hA := hD.alloc (.cells cur 41)
    have hfr := FR.alloc L w g (.cells cur 41)
    refine ⟨w.heap.size, 0, C, _, hrun, ⟨hA.row, hA.hdr, hA.qh, ?_, ?_, ?_, .inr hs, by simp, by simpa using hcg, hA.bel, hA.size⟩, ⟨hfr.blk, hfr.size, .inr (Nat.le_refl _)⟩⟩
    · intro k hk
      simp only [List.length_append, List.length_singleton] at hk
      rw [hcell, hcell]
      have hq := qCells_at (Q ++ [(i, j)]) k (by simpa using hk)
      have hq2 : qCells (Q ++ [(i, j)]) = qCells Q ++ [Value.int .i64 (i : Int), Value.int .i64 (j : Int)] := by simp [qCells]
      rw [hq2] at hq
      have hlt : 2 * k + 1 < (qCells Q ++ [Value.int .i64 (i : Int), Value.int .i64 (j : Int)]).length := by rw [List.length_append, qCells_length]; simp; omega
      rw [← hcur, Array.getElem?_append_left (by simp at hlt ⊢; omega), Array.getElem?_append_left (by simp at hlt ⊢; omega)]
      simpa using hq
    · intro k hk
      rw [hcell, Array.getElem?_eq_getElem (by omega)]; rfl
    · intro k
      exact Lib.frozen_of_heap hblk _

/-- The same at a list of operations. -/
theorem wpList_append_q {ops : Array Oper} {rest : List Oper} {o : Oper} {a : Act} {K : Exit → Act → World → Prop} (hgd : o.guard = none) (s x : Operand)
    (ho : o.op = .call { callee := .builtin .append, args := #[s, x], argTypes := #[42, 42] }) (h : SR w5 w L T hd g off cap Q) (ad : Addr) (c : Nat) (i j : Nat)
    (hs : a.eval s = .slice (some ⟨g, off, none⟩) Q.length cap) (hx : a.eval x = .slice (some ad) 1 c)
    (h0 : w.cell? (ad.add 0) = some (.int .i64 (i : Int))) (h1 : w.cell? (ad.add 1) = some (.int .i64 (j : Int))) (hQ : Q.length ≤ 2000000)
    (hK : ∀ g' off' cap' w', SR w5 w' L T hd g' off' cap' (Q ++ [(i, j)]) → FR L w w' g g' → wpList Try.prog ops K rest (a.put o.dst (.slice (some ⟨g', off', none⟩) (Q.length + 1) cap')) w') : wpList Try.prog ops K (o :: rest) a w :=
  wpList_plain hgd fun _ hK' => by
    obtain ⟨g', off', cap', w', hr, h2, h3⟩ := run_append_q o.type h ad c i j h0 h1 hQ
    unfold Oper.wp execOp
    simp only [ho, resolve, invoke, builtin, Sem.run_bind, Sem.run_pure, Result.andThen_ok, List.map_toArray, List.map_cons, List.map_nil, hs, hx, hr]
    exact hK' _ _ (hK g' off' cap' w' h2 h3)
end
end Go.Proofs.Qxb6603042a.M
