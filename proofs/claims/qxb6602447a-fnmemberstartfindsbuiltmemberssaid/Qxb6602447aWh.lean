/- The top law's walk: building the object. -/
import Derived.Test.Qxb6602447aWg
import Derived.Lib.AppendStr
import Derived.Deep.AppendLies
namespace Go.Proofs.Qxb6602447a
open Go.RowKit

/-- 'append(b, s...)', s a string, within the capacity. -/
theorem wpList_append_fits_str {P : Program} (w : World) {ops : Array Oper} {rest : List Oper} {o : Oper} {a : Act} {Q : Exit → Act → World → Prop}
    (hg : o.guard = none) (sl x : Operand) (t u : TypeId) (hop : o.op = Op.call { callee := Callee.builtin Builtin.append, args := #[sl, x], argTypes := #[t, u] })
    (base : Nat) (e : TypeId) (i : TypeInfo) (h1 : P.underlying t = some (.slice e)) (hu : P.underlying u = some .string) (h2 : P.info? e = some i) (h4 : i.size = 1)
    (g k cap : Nat) (xs : List Value) (hs : a.eval sl = .slice (some ⟨g, 0, none⟩) k cap) (hown : w.ownsRow base e 1 (.slice (some ⟨g, 0, none⟩) k cap) k xs) (s : ByteArray) (hx : a.eval x = .string s) (b1 : k + s.size ≤ cap)
    (hK : ∀ w', w'.ownsRow base e 1 (.slice (some ⟨g, 0, none⟩) (k + s.size) cap) (k + s.size) (xs ++ Lib.strCells s) → w.grownBy w' (some g) → wpList P ops Q rest (a.put o.dst (.slice (some ⟨g, 0, none⟩) (k + s.size) cap)) w') :
    wpList P ops Q (o :: rest) a w := by
  refine wpList_plain hg fun K hK' => ?_
  have hlen : (xs ++ Lib.strCells s).length = (k + s.size) * 1 := by
    have := hown.1
    rw [List.length_append, this, Lib.strCells_length]; omega
  rcases hown.2 with ⟨hv, _⟩ | ⟨g', cap', cur, hv, hbg, hgg, hnc, hcm, hcs, htake⟩
  · simp at hv
  · simp only [Value.slice.injEq, Option.some.injEq, Addr.mk.injEq] at hv
    obtain ⟨⟨rfl, _, _⟩, _, rfl⟩ := hv
    have hr := Lib.run_append_room_string (P := P) w t u o.type e i h1 hu h2 h4 g k cap cur hgg s b1 (by omega)
    unfold Oper.wp
    simp [execOp, hop, resolve, invoke, builtin, hs, hx, hr, Result.andThen]
    refine hK' _ _ (hK _ ⟨hlen, .inr ⟨g, cap, _, rfl, hbg, setRow_heap w g cur _ e _ hgg, b1, hcm, ?_, ?_⟩⟩ ⟨rfl, rfl, rfl, by simp, fun j _ hj => setRow_other w g j _ (fun e => hj (by simp [e]))⟩)
    · simp only [List.size_toArray, List.length_append, List.length_take, List.length_drop, Array.length_toList, Lib.strCells_length]
      omega
    · have ht' : cur.toList.take k = xs := by simpa using htake
      rw [ht', ← hlen]
      show List.take (xs ++ Lib.strCells s).length (xs ++ (Lib.strCells s ++ _)) = _
      rw [← List.append_assoc]
      exact List.take_left

/-- What holds while the object is built: the row is the call's own; nothing that was there has turned; the cloned value lies in its own block. -/
structure Inv (w W : World) (vb g cap k : Nat) (xs : List Value) (v : List Int) : Prop where
  own : W.ownsRow w.heap.size 5 1 (.slice (some ⟨g, 0, none⟩) k cap) k xs
  bel : Below w.heap.size w W
  row : Row W vb 0 v
  lt : vb < g
  base : w.heap.size ≤ vb
  size : g < W.heap.size

theorem row_grown {W W' : World} {vb g : Nat} {v : List Int} (h : Row W vb 0 v) (hg : W.grownBy W' (some g)) (hlt : vb < g) (hs : g < W.heap.size) : Row W' vb 0 v := by
  intro i hi
  rw [hg.cell_far _ (show vb < W.heap.size by omega) (by simp; omega)]
  exact h i hi

theorem row_alloc {W : World} {vb : Nat} {v : List Int} (h : Row W vb 0 v) (o : Obj) (hlt : vb < W.heap.size) : Row (W.alloc o) vb 0 v := by
  intro i hi
  have hb := Below.heap_alloc W o vb hlt
  rw [World.cell?_of_block (w := W) (a := ⟨vb, 0 + i, none⟩) hb]
  exact h i hi

theorem Inv.alloc {w W : World} {vb g cap k : Nat} {xs : List Value} {v : List Int} (h : Inv w W vb g cap k xs v) (o : Obj) : Inv w (W.alloc o) vb g cap k xs v := by
  have hb := h.base; have hlt := h.lt; have hs := h.size
  exact ⟨h.own.alloc o, h.bel.alloc (by omega) o, row_alloc h.row o (by omega), h.lt, h.base, by simp; omega⟩

theorem Inv.step {w W W' : World} {vb g cap k k' : Nat} {xs ys : List Value} {v : List Int} (h : Inv w W vb g cap k xs v)
    (own : W'.ownsRow w.heap.size 5 1 (.slice (some ⟨g, 0, none⟩) k' cap) k' ys) (hg : W.grownBy W' (some g)) : Inv w W' vb g cap k' ys v := by
  have hb := h.base; have hlt := h.lt; have hs := h.size; have hz := h.bel.size; have hgs := hg.size
  refine ⟨own, h.bel.grown hg (by omega) (fun j hj => by simp at hj; omega), row_grown h.row hg h.lt h.size, h.lt, h.base, by omega⟩

theorem cells_two (W : World) (x y : Value) : ∀ j u, [x, y][j]? = some u → (W.alloc (.cells #[x, y] 5)).cell? ((⟨W.heap.size, 0, none⟩ : Addr).add j) = some u :=
  World.news_of_block (cs := #[x, y]) (heap_alloc_new W _)
theorem cells_four (W : World) (x y z u : Value) : ∀ j r, [x, y, z, u][j]? = some r → (W.alloc (.cells #[x, y, z, u] 5)).cell? ((⟨W.heap.size, 0, none⟩ : Addr).add j) = some r :=
  World.news_of_block (cs := #[x, y, z, u]) (heap_alloc_new W _)

/-- The object's cells. -/
def cellsOf (l : List Int) : List Value := l.map (Value.int .u8)

theorem built_cells (s t : ByteArray) (v : List Int) :
    [] ++ [Value.int .u8 123, Value.int .u8 34] ++ Lib.strCells s ++ [Value.int .u8 34, Value.int .u8 58] ++ cellsOf v ++ [Value.int .u8 44, Value.int .u8 34] ++ Lib.strCells t ++ [Value.int .u8 34, Value.int .u8 58, Value.int .u8 48, Value.int .u8 125]
      = cellsOf (JF.built (ints s) v (ints t)) := by
  simp [cellsOf, JF.built, ints, Lib.strCells, Function.comp_def]

theorem row_of_own {W : World} {base g cap k : Nat} {l : List Int} (h : W.ownsRow base 5 1 (.slice (some ⟨g, 0, none⟩) k cap) k (cellsOf l)) (hk : l.length = k) : Row W g 0 l := by
  intro i hi
  rw [Nat.zero_add, h.cellAt i (by omega)]
  simp [cellsOf, List.getElem?_eq_getElem hi, List.getD]

theorem bytes_of (l : List Int) (h : ∀ c ∈ l, 0 ≤ c ∧ c < 256) : Bytes l := by
  intro i
  by_cases hi : i < l.length
  · rw [getD_get l i hi]; exact h _ (List.getElem_mem hi)
  · simp [List.getD, List.getElem?_eq_none (Nat.le_of_not_lt hi)]

theorem built_bytes (s t : ByteArray) (v : List Int) (hv : ∀ c ∈ v, 0 ≤ c ∧ c < 256) : Bytes (JF.built (ints s) v (ints t)) := by
  have hi : ∀ (s : ByteArray), ∀ c ∈ ints s, 0 ≤ c ∧ c < 256 := by
    intro s c hc
    obtain ⟨x, hx, rfl⟩ := List.mem_map.1 hc
    have := x.toNat_lt
    omega
  apply bytes_of
  intro c hc
  simp only [JF.built, List.mem_cons, List.mem_append, List.not_mem_nil, or_false] at hc
  rcases hc with h | h | h | h | h | h | h | h | h | h | h | h | h
  all_goals first | exact hi _ c h | exact hv c h | omega

theorem clone_row {w : World} {v : List Int} {C : Array Value} (hz : ∀ i, i < v.length → C[i]? = some (.int .u8 (v.getD i 0))) : Row (w.alloc (.cells C 5)) w.heap.size 0 v := by
  intro i hi
  rw [Nat.zero_add, cell_of_row _ w.heap.size i C 5 (0, 0) (heap_alloc_new w _)]
  exact hz i hi

theorem ans_len {v : List Int} (h : JF.ans 0 (JF.valE v) = (v.length : Int)) : JF.valE v = some v.length := by
  cases hv : JF.valE v with
  | none => rw [hv] at h; simp only [JF.ans] at h; omega
  | some k => rw [hv] at h; simp only [JF.ans] at h; rw [show k = v.length from by omega]

theorem hid_of {p : Prop} (h : p) : Hid p := h

theorem row_news {W : World} {vb : Nat} {v : List Int} (h : Row W vb 0 v) : ∀ j u, (cellsOf v)[j]? = some u → W.cell? ((⟨vb, 0, none⟩ : Addr).add j) = some u := by
  intro j u hu
  have hj : j < v.length := by
    rcases Nat.lt_or_ge j v.length with h | h
    · exact h
    · rw [List.getElem?_eq_none (by simpa [cellsOf] using h)] at hu; cases hu
  rw [Addr.add_lit, h j hj]
  rw [cellsOf, List.getElem?_map, List.getElem?_eq_getElem hj] at hu
  simp only [Option.map_some, Option.some.injEq] at hu
  rw [getD_get v j hj, hu]
theorem cells_one (v : List Int) : ∀ u ∈ cellsOf v, u.oneCell' = true := ints_oneCell .u8 v

theorem inv_start {w w4 W5 : World} {c0 : Nat} {v : List Int} (R4 : Row w4 w.heap.size 0 v) (B4 : Below w.heap.size w w4) (Z4 : w4.heap.size = w.heap.size + 1)
    (own5 : W5.ownsRow w.heap.size 5 1 (.slice (some ⟨w4.heap.size, 0, none⟩) 0 c0) 0 []) (gr5 : w4.grownBy W5 none) : Inv w W5 w.heap.size w4.heap.size c0 0 [] v := by
  refine ⟨own5, B4.grown gr5 B4.size (fun k hk => by cases hk), ?_, by omega, Nat.le_refl _, ?_⟩
  · intro i hi
    rw [gr5.cell_far _ (show w.heap.size < w4.heap.size by omega) (by simp)]
    exact R4 i hi
  · exact (own5.lt w4.heap.size rfl).2

set_option maxHeartbeats 1000000 in
set_option maxRecDepth 100000 in
theorem top_main (s t : ByteArray) (b o cap : Nat) (v : List Int) (w : World) (hs : s.size ≤ 262144) (ht : t.size ≤ 262144) (hl : v.length ≤ 262144)
    (hr : Row w b o v) (hby : ∀ c ∈ v, 0 ≤ c ∧ c < 256) (hbw : b < w.heap.size)
    (hne : (s.toList == t.toList) = false) (hds : dirty s.data.toList = false) (hdt : dirty t.data.toList = false) :
    Calls Try.prog 7 #[.string s, .string t, .slice (some ⟨b, o, none⟩) v.length cap] w fun e w' => e = .returned (.bool true) ∧ Below w.heap.size w w' := by
  have HD : Hid (dirty s.data.toList = false ∧ dirty t.data.toList = false) := ⟨hds, hdt⟩
  clear hds hdt
  have HR : Hid (Row w b o v) := hr
  have HY : Hid (∀ c ∈ v, 0 ≤ c ∧ c < 256) := hby
  clear hr hby
  go_enter Try.func7, Try.ntmps7
  go_wp2_with fail
  refine (zzBytes_any s t _ v.length cap w (by unfold maxLen; omega) (by unfold maxLen; omega) (by unfold maxLen; omega)).mono ?_
  rintro e w' ⟨⟨bl, rfl⟩, hw⟩
  replace hw := hw.symm
  subst hw
  cases bl
  · go_wp2_with fail
    go_ret
    exact ⟨rfl, Below.refl _ _⟩
  go_wp2_with fail
  refine (dirty_any s _ (by unfold maxLen; omega)).mono ?_
  rintro e w1 ⟨rfl, hw⟩
  replace hw := hw.symm
  subst hw
  rw [HD.out.1]
  go_wp2_with fail
  refine (dirty_any t _ (by unfold maxLen; omega)).mono ?_
  rintro e w2 ⟨rfl, hw⟩
  replace hw := hw.symm
  subst hw
  rw [HD.out.2]
  go_wp2_with fail
  refine (clone_some b o v.length cap v _ HR.out (Nat.le_refl _) (by omega) hbw).mono ?_
  rintro e w3 ⟨rfl, C, hw3, hC, hCz⟩
  have R3 : Hid (Row w3 w.heap.size 0 v) := by rw [hw3]; exact clone_row hCz
  have B3 : Hid (Below w.heap.size w w3) := by rw [hw3]; exact (Below.refl _ _).alloc (Nat.le_refl _) _
  have Z3 : Hid (w3.heap.size = w.heap.size + 1) := by rw [hw3]; simp [Hid]
  clear hw3 hC hCz C HR
  go_wp2_with fail
  refine (zzValue_of _ _ _ _ _ (valueEnd_any _ _ _ v _ _ R3.out (bytes_of v HY.out) (by omega) (by omega) (by omega))).mono ?_
  rintro e w4 ⟨rfl, n, hw4⟩
  rw [show (0 : Int).toNat = 0 from rfl, List.drop_zero]
  have R4 : Hid (Row w4 w.heap.size 0 v) := by rw [hw4]; exact R3.out.drewN n
  have B4 : Hid (Below w.heap.size w w4) := by rw [hw4]; exact ⟨B3.out.os, B3.out.tape, B3.out.output, B3.out.size, B3.out.block⟩
  have Z4 : Hid (w4.heap.size = w.heap.size + 1) := by rw [hw4]; exact Z3.out
  clear hw4 R3 B3 Z3
  generalize hA : JF.ans 0 (JF.valE v) = A
  by_cases hv : A = (v.length : Int)
  · subst hv
    have HV : Hid (JF.valE v = some v.length) := ans_len hA
    clear hA
    obtain ⟨i, hi, hz0, hz1, hz2⟩ := info_parts info5
    obtain ⟨c0, hc0⟩ : ∃ c0 : Nat, c0 = s.size + t.size + v.length + 10 := ⟨_, rfl⟩
    have hc1 : c0 ≤ s.size + t.size + v.length + 10 := by omega
    have hc2 : s.size + t.size + v.length + 10 ≤ c0 := by omega
    have HC0 : Hid (c0 = s.size + t.size + v.length + 10) := hc0
    clear hc0
    have tok0 : True := trivial
    have tok1 : True := trivial
    have tok2 : True := trivial
    have tok3 : True := trivial
    have tok4 : True := trivial
    have tok5 : True := trivial
    have tok6 : True := trivial
    have tok7 : True := trivial
    go_wp2_with (first
      | (at_make; have _t := tok0; refine wpList_make_own w4 rfl _ _ 22 rfl w.heap.size 5 i (.int .u8 0) 1 Try.underlying22 hi hz0 hz1 .i64 .i64 _ c0 rfl rfl (by omega) (by rw [hz2]; omega) (by unfold maxLen; omega) B4.out.size ?_; intro W5 own5 gr5; have I5 : Hid (Inv w W5 w.heap.size w4.heap.size c0 0 [] v) := inv_start R4.out B4.out Z4.out own5 gr5; clear own5 gr5 tok0)
      | (at_builtin; have _t := tok1; refine wpList_append_fits (W5.alloc (.cells #[.int .u8 123, .int .u8 34] 5)) rfl _ _ 22 rfl w.heap.size 5 i 1 Try.underlying22 hi hz1 w4.heap.size 0 c0 [] rfl (I5.out.alloc _).own ⟨W5.heap.size, 0, none⟩ 2 2 [.int .u8 123, .int .u8 34] rfl rfl (cells_two W5 _ _) (by simp [Value.oneCell']) (by omega) ?_; intro W6 own6 gr6; have I6 : Hid (Inv w W6 w.heap.size w4.heap.size c0 2 ([] ++ [.int .u8 123, .int .u8 34]) v) := (I5.out.alloc _).step own6 gr6; clear own6 gr6 I5 tok1)
      | (at_builtin; have _t := tok2; refine wpList_append_fits_str W6 rfl _ _ 22 9 rfl w.heap.size 5 i Try.underlying22 Try.underlying9 hi hz1 w4.heap.size 2 c0 _ rfl I6.out.own s rfl (by omega) ?_; intro W7 own7 gr7; have I7 : Hid (Inv w W7 w.heap.size w4.heap.size c0 (2 + s.size) ([] ++ [.int .u8 123, .int .u8 34] ++ Lib.strCells s) v) := I6.out.step own7 gr7; clear own7 gr7 I6 tok2)
      | (at_builtin; have _t := tok3; refine wpList_append_fits (W7.alloc (.cells #[.int .u8 34, .int .u8 58] 5)) rfl _ _ 22 rfl w.heap.size 5 i 1 Try.underlying22 hi hz1 w4.heap.size (2 + s.size) c0 _ rfl (I7.out.alloc _).own ⟨W7.heap.size, 0, none⟩ 2 2 [.int .u8 34, .int .u8 58] rfl rfl (cells_two W7 _ _) (by simp [Value.oneCell']) (by omega) ?_; intro W8 own8 gr8; have I8 : Hid (Inv w W8 w.heap.size w4.heap.size c0 (2 + s.size + 2) ([] ++ [.int .u8 123, .int .u8 34] ++ Lib.strCells s ++ [.int .u8 34, .int .u8 58]) v) := (I7.out.alloc _).step own8 gr8; clear own8 gr8 I7 tok3)
      | (at_builtin; have _t := tok4; refine wpList_append_fits W8 rfl _ _ 22 rfl w.heap.size 5 i 1 Try.underlying22 hi hz1 w4.heap.size (2 + s.size + 2) c0 _ rfl I8.out.own ⟨w.heap.size, 0, none⟩ v.length v.length (cellsOf v) rfl (by simp [cellsOf]) (row_news I8.out.row) (cells_one v) (by omega) ?_; intro W9 own9 gr9; have I9 : Hid (Inv w W9 w.heap.size w4.heap.size c0 (2 + s.size + 2 + v.length) ([] ++ [.int .u8 123, .int .u8 34] ++ Lib.strCells s ++ [.int .u8 34, .int .u8 58] ++ cellsOf v) v) := I8.out.step own9 gr9; clear own9 gr9 I8 tok4)
      | (at_builtin; have _t := tok5; refine wpList_append_fits (W9.alloc (.cells #[.int .u8 44, .int .u8 34] 5)) rfl _ _ 22 rfl w.heap.size 5 i 1 Try.underlying22 hi hz1 w4.heap.size (2 + s.size + 2 + v.length) c0 _ rfl (I9.out.alloc _).own ⟨W9.heap.size, 0, none⟩ 2 2 [.int .u8 44, .int .u8 34] rfl rfl (cells_two W9 _ _) (by simp [Value.oneCell']) (by omega) ?_; intro W10 own10 gr10; have I10 : Hid (Inv w W10 w.heap.size w4.heap.size c0 (2 + s.size + 2 + v.length + 2) ([] ++ [.int .u8 123, .int .u8 34] ++ Lib.strCells s ++ [.int .u8 34, .int .u8 58] ++ cellsOf v ++ [.int .u8 44, .int .u8 34]) v) := (I9.out.alloc _).step own10 gr10; clear own10 gr10 I9 tok5)
      | (at_builtin; have _t := tok6; refine wpList_append_fits_str W10 rfl _ _ 22 9 rfl w.heap.size 5 i Try.underlying22 Try.underlying9 hi hz1 w4.heap.size (2 + s.size + 2 + v.length + 2) c0 _ rfl I10.out.own t rfl (by omega) ?_; intro W11 own11 gr11; have I11 : Hid (Inv w W11 w.heap.size w4.heap.size c0 (2 + s.size + 2 + v.length + 2 + t.size) ([] ++ [.int .u8 123, .int .u8 34] ++ Lib.strCells s ++ [.int .u8 34, .int .u8 58] ++ cellsOf v ++ [.int .u8 44, .int .u8 34] ++ Lib.strCells t) v) := I10.out.step own11 gr11; clear own11 gr11 I10 tok6)
      | (at_builtin; have _t := tok7; refine wpList_append_fits (W11.alloc (.cells #[.int .u8 34, .int .u8 58, .int .u8 48, .int .u8 125] 5)) rfl _ _ 22 rfl w.heap.size 5 i 1 Try.underlying22 hi hz1 w4.heap.size (2 + s.size + 2 + v.length + 2 + t.size) c0 _ rfl (I11.out.alloc _).own ⟨W11.heap.size, 0, none⟩ 4 4 [.int .u8 34, .int .u8 58, .int .u8 48, .int .u8 125] rfl rfl (cells_four W11 _ _ _ _) (by simp [Value.oneCell']) (by omega) ?_; intro W12 own12 gr12; have I12 : Hid (Inv w W12 w.heap.size w4.heap.size c0 (2 + s.size + 2 + v.length + 2 + t.size + 4) ([] ++ [.int .u8 123, .int .u8 34] ++ Lib.strCells s ++ [.int .u8 34, .int .u8 58] ++ cellsOf v ++ [.int .u8 44, .int .u8 34] ++ Lib.strCells t ++ [.int .u8 34, .int .u8 58, .int .u8 48, .int .u8 125]) v) := (I11.out.alloc _).step own12 gr12; clear own12 gr12 I11 tok7))
    have hL : (JF.built (ints s) v (ints t)).length = 2 + s.size + 2 + v.length + 2 + t.size + 4 := by rw [JF.built_length, ints_length, ints_length]; omega
    have R12 : Row W12 w4.heap.size 0 (JF.built (ints s) v (ints t)) := by
      have h := I12.out.own
      rw [built_cells] at h
      exact row_of_own h hL
    have F := zzMember_of _ _ _ _ _ (built_first w4.heap.size c0 s t v W12 R12 (by omega) (by omega) HD.out.1 HV.out)
    have G := zzMember_of _ _ _ _ _ (built_second w4.heap.size c0 s t v W12 R12 (built_bytes s t v HY.out) (by omega) (by omega) HD.out.1 HD.out.2 hne HV.out)
    rw [hL] at F G
    have HG := hid_of G
    have HB : Hid (Below w.heap.size w W12) := I12.out.bel
    clear G R12 hL I12 hne
    refine F.mono ?_
    clear F
    rintro e W13 ⟨rfl, hw⟩
    replace hw := hw.symm
    subst hw
    go_wp2_with fail
    refine HG.out.mono ?_
    rintro e W14 ⟨rfl, m, hw⟩
    have HE : Hid (Below w.heap.size w W14) := by rw [hw]; exact ⟨HB.out.os, HB.out.tape, HB.out.output, HB.out.size, HB.out.block⟩
    clear hw HB HG
    have q1 : ((s.size : Int) + 4 == (s.size : Int) + 4) = true := by simp
    go_wp2_with fail
    go_ret
    exact ⟨rfl, HE.out⟩
  · have hv' : (A != (v.length : Int)) = true := by simpa using hv
    clear hv hA
    go_wp2_with fail
    go_ret
    exact ⟨rfl, B4.out⟩

end Go.Proofs.Qxb6602447a
