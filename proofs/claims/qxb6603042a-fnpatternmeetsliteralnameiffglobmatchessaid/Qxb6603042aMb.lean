/- Walks: literals. -/
import Derived.Test.Qxb6603042aMa
namespace Go.Proofs.Qxb6603042a.M
open Go.RowKit
set_option linter.unusedVariables false

theorem info5 : (Try.prog.info? 5).map (fun i => (i.zero, i.size, i.bytes)) = some (some (.int .u8 0), 1, 1) := by kernel_rfl

def cU (xs : List Int) : List Value := xs.map (Value.int .u8)

theorem wrap_b (z : Int) (h0 : 0 ≤ z) (h1 : z < 256) : IntKind.u8.wrap z = z := by
  unfold IntKind.wrap
  simp [IntKind.bits, IntKind.signed]
  omega

/-- Where a place stands: at the end; at a literal; at a wildcard. -/
def Place (xs : List Int) (i : Nat) : Prop := i = xs.length ∨ (i < xs.length ∧ 0 ≤ xs.getD i 0 ∧ xs.getD i 0 < 256) ∨ (i < xs.length ∧ 256 ≤ xs.getD i 0)

theorem litr_end {xs : List Int} : GP.litr xs xs.length = false := by simp [GP.litr]
theorem litr_yes {xs : List Int} {i : Nat} (h : i < xs.length) (h2 : xs.getD i 0 < 256) : GP.litr xs i = true := by
  unfold GP.litr; rw [decide_eq_true h, decide_eq_true h2]; rfl
theorem litr_no {xs : List Int} {i : Nat} (h2 : 256 ≤ xs.getD i 0) : GP.litr xs i = false := by
  unfold GP.litr; rw [decide_eq_false (show ¬ xs.getD i 0 < 256 by omega), Bool.and_false]

def Lits (w : World) (xs : List Int) (e : Ending) (w' : World) : Prop := ∃ v, e = .returned v ∧ w'.ownsRow w.heap.size 5 1 v xs.length (cU xs) ∧ Below w.heap.size w w'

theorem grown_below {w W w1 : World} {v : Value} (hb : Below w.heap.size w W) (hown : ∀ k, v.ownBlock = some k → w.heap.size ≤ k) (gr : W.grownBy w1 v.ownBlock) : Below w.heap.size w w1 :=
  hb.grown gr hb.size hown

set_option maxHeartbeats 400000 in
theorem lits_EE (ga ca gb cb : Nat) (A B : List Int) (w : World) (hA : A.length ≤ 70000) (hB : B.length ≤ 70000) (ra : RowI w ga A) (rb : RowI w gb B) (la : ga < w.heap.size) (lb : gb < w.heap.size) :
    Calls Try.prog 29 #[.slice (some ⟨ga, 0, none⟩) A.length ca, .int .i64 (A.length : Int), .slice (some ⟨gb, 0, none⟩) B.length cb, .int .i64 (B.length : Int)] w fun e w' => Lits w (GP.lits A A.length B B.length) e w' := by
  obtain ⟨i5, hi5, hz0, hz1, hz2⟩ := info_parts info5
  have HL : Hid (GP.lits A A.length B B.length = []) := by unfold Hid GP.lits; rw [litr_end, litr_end]; rfl
  clear ra rb
  go_enter Try.func29, Try.ntmps29
  go_wp2_with fail
  go_ret
  exact ⟨_, rfl, by rw [HL.out]; exact World.ownsRow_nil .., Below.refl _ _⟩

set_option maxHeartbeats 400000 in
theorem lits_EL (ga ca gb cb j : Nat) (A B : List Int) (w : World) (hA : A.length ≤ 70000) (hB : B.length ≤ 70000) (ra : RowI w ga A) (rb : RowI w gb B) (la : ga < w.heap.size) (lb : gb < w.heap.size) (hb : j < B.length) (hb0 : 0 ≤ B.getD j 0) (hb1 : B.getD j 0 < 256) :
    Calls Try.prog 29 #[.slice (some ⟨ga, 0, none⟩) A.length ca, .int .i64 (A.length : Int), .slice (some ⟨gb, 0, none⟩) B.length cb, .int .i64 (j : Int)] w fun e w' => Lits w (GP.lits A A.length B j) e w' := by
  obtain ⟨i5, hi5, hz0, hz1, hz2⟩ := info_parts info5
  have HL : Hid (GP.lits A A.length B j = [B.getD j 0]) := by unfold Hid GP.lits; rw [litr_end, litr_yes hb hb1]; rfl
  have hcb := rb j hb
  generalize B.getD j 0 = y at hcb HL hb1 hb0
  have hwy := wrap_b y hb0 hb1
  clear ra rb
  have tok2 : True := trivial
  go_enter Try.func29, Try.ntmps29
  go_wp2_with (at_builtin; have _t := tok2; refine wpList_append_lies (w.alloc (.cells #[.int .u8 y] 5)) (by rfl) _ _ 32 (by rfl) w.heap.size 5 i5 (.int .u8 0) 1 1 Try.underlying32 hi5 hz0 hz1 hz2 rfl (by omega) (.slice none 0 0) 0 [] (by rfl) (World.ownsRow_nil _ _ _ _) ⟨w.heap.size, 0, none⟩ 1 1 [.int .u8 y] (by rfl) rfl (cell_one_new _ _ _) (by simp [Value.oneCell']) (by omega) (by unfold maxLen; omega) (by omega) (by simp) _ rfl ?_; intro g2 c2 w2 hown2 hgr2 hat2 hlt2; have HO2 := hid_of hown2; have HB2 : Hid (Below w.heap.size w w2) := grown_below ((Below.refl _ _).alloc (Nat.le_refl _) _) (fun k e => by cases e) hgr2; clear hown2 hgr2 hat2 hlt2 tok2)
  go_ret
  exact ⟨_, rfl, by rw [HL.out]; exact HO2.out, HB2.out⟩

set_option maxHeartbeats 400000 in
theorem lits_EW (ga ca gb cb j : Nat) (A B : List Int) (w : World) (hA : A.length ≤ 70000) (hB : B.length ≤ 70000) (ra : RowI w ga A) (rb : RowI w gb B) (la : ga < w.heap.size) (lb : gb < w.heap.size) (hb : j < B.length) (hb1 : 256 ≤ B.getD j 0) :
    Calls Try.prog 29 #[.slice (some ⟨ga, 0, none⟩) A.length ca, .int .i64 (A.length : Int), .slice (some ⟨gb, 0, none⟩) B.length cb, .int .i64 (j : Int)] w fun e w' => Lits w (GP.lits A A.length B j) e w' := by
  obtain ⟨i5, hi5, hz0, hz1, hz2⟩ := info_parts info5
  have HL : Hid (GP.lits A A.length B j = []) := by unfold Hid GP.lits; rw [litr_end, litr_no hb1]; rfl
  have hcb := rb j hb
  generalize B.getD j 0 = y at hcb HL hb1
  clear ra rb
  go_enter Try.func29, Try.ntmps29
  go_wp2_with fail
  go_ret
  exact ⟨_, rfl, by rw [HL.out]; exact World.ownsRow_nil .., Below.refl _ _⟩

set_option maxHeartbeats 400000 in
theorem lits_LE (ga ca gb cb i : Nat) (A B : List Int) (w : World) (hA : A.length ≤ 70000) (hB : B.length ≤ 70000) (ra : RowI w ga A) (rb : RowI w gb B) (la : ga < w.heap.size) (lb : gb < w.heap.size) (ha : i < A.length) (ha0 : 0 ≤ A.getD i 0) (ha1 : A.getD i 0 < 256) :
    Calls Try.prog 29 #[.slice (some ⟨ga, 0, none⟩) A.length ca, .int .i64 (i : Int), .slice (some ⟨gb, 0, none⟩) B.length cb, .int .i64 (B.length : Int)] w fun e w' => Lits w (GP.lits A i B B.length) e w' := by
  obtain ⟨i5, hi5, hz0, hz1, hz2⟩ := info_parts info5
  have HL : Hid (GP.lits A i B B.length = [A.getD i 0]) := by unfold Hid GP.lits; rw [litr_yes ha ha1, litr_end]; rfl
  have hca := ra i ha
  generalize A.getD i 0 = x at hca HL ha1 ha0
  have hwx := wrap_b x ha0 ha1
  clear ra rb
  have tok1 : True := trivial
  go_enter Try.func29, Try.ntmps29
  go_wp2_with (at_builtin; have _t := tok1; refine wpList_append_lies (w.alloc (.cells #[.int .u8 x] 5)) (by rfl) _ _ 32 (by rfl) w.heap.size 5 i5 (.int .u8 0) 1 1 Try.underlying32 hi5 hz0 hz1 hz2 rfl (by omega) (.slice none 0 0) 0 [] (by rfl) (World.ownsRow_nil _ _ _ _) ⟨w.heap.size, 0, none⟩ 1 1 [.int .u8 x] (by rfl) rfl (cell_one_new _ _ _) (by simp [Value.oneCell']) (by omega) (by unfold maxLen; omega) (by omega) (by simp) _ rfl ?_; intro g1 c1 w1 hown1 hgr1 hat1 hlt1; have HO1 := hid_of hown1; have HB1 : Hid (Below w.heap.size w w1) := grown_below ((Below.refl _ _).alloc (Nat.le_refl _) _) (fun k e => by cases e) hgr1; clear hown1 hgr1 hat1 hlt1 tok1)
  go_ret
  exact ⟨_, rfl, by rw [HL.out]; exact HO1.out, HB1.out⟩

set_option maxHeartbeats 400000 in
theorem lits_LL (ga ca gb cb i j : Nat) (A B : List Int) (w : World) (hA : A.length ≤ 70000) (hB : B.length ≤ 70000) (ra : RowI w ga A) (rb : RowI w gb B) (la : ga < w.heap.size) (lb : gb < w.heap.size) (ha : i < A.length) (ha0 : 0 ≤ A.getD i 0) (ha1 : A.getD i 0 < 256) (hb : j < B.length) (hb0 : 0 ≤ B.getD j 0) (hb1 : B.getD j 0 < 256) :
    Calls Try.prog 29 #[.slice (some ⟨ga, 0, none⟩) A.length ca, .int .i64 (i : Int), .slice (some ⟨gb, 0, none⟩) B.length cb, .int .i64 (j : Int)] w fun e w' => Lits w (GP.lits A i B j) e w' := by
  obtain ⟨i5, hi5, hz0, hz1, hz2⟩ := info_parts info5
  have HL : Hid (GP.lits A i B j = [A.getD i 0, B.getD j 0]) := by unfold Hid GP.lits; rw [litr_yes ha ha1, litr_yes hb hb1]; rfl
  have hca := ra i ha
  generalize A.getD i 0 = x at hca HL ha1 ha0
  have hcb := rb j hb
  generalize B.getD j 0 = y at hcb HL hb1 hb0
  have hwx := wrap_b x ha0 ha1
  have hwy := wrap_b y hb0 hb1
  clear ra rb
  have tok1 : True := trivial
  have tok2 : True := trivial
  go_enter Try.func29, Try.ntmps29
  go_wp2_with (first
    | (at_builtin; have _t := tok1; refine wpList_append_lies (w.alloc (.cells #[.int .u8 x] 5)) (by rfl) _ _ 32 (by rfl) w.heap.size 5 i5 (.int .u8 0) 1 1 Try.underlying32 hi5 hz0 hz1 hz2 rfl (by omega) (.slice none 0 0) 0 [] (by rfl) (World.ownsRow_nil _ _ _ _) ⟨w.heap.size, 0, none⟩ 1 1 [.int .u8 x] (by rfl) rfl (cell_one_new _ _ _) (by simp [Value.oneCell']) (by omega) (by unfold maxLen; omega) (by omega) (by simp) _ rfl ?_; intro g1 c1 w1 hown1 hgr1 hat1 hlt1; have HO1 := hid_of hown1; have HB1 : Hid (Below w.heap.size w w1) := grown_below ((Below.refl _ _).alloc (Nat.le_refl _) _) (fun k e => by cases e) hgr1; have hcb1 := (Below.cell HB1 (p := ⟨gb, j, none⟩) lb).trans hcb; clear hown1 hgr1 hat1 hlt1 tok1)
    | (at_builtin; have _t := tok2; refine wpList_append_lies (w1.alloc (.cells #[.int .u8 y] 5)) (by rfl) _ _ 32 (by rfl) w.heap.size 5 i5 (.int .u8 0) 1 1 Try.underlying32 hi5 hz0 hz1 hz2 rfl (by omega) (.slice (some ⟨g1, 0, none⟩) 1 c1) 1 [.int .u8 x] (by rfl) (HO1.out.alloc _) ⟨w1.heap.size, 0, none⟩ 1 1 [.int .u8 y] (by rfl) rfl (cell_one_new _ _ _) (by simp [Value.oneCell']) (by omega) (by unfold maxLen; omega) (by omega) (by have := HB1.out.size; simp; omega) _ rfl ?_; intro g2 c2 w2 hown2 hgr2 hat2 hlt2; have HO2 := hid_of hown2; have HB2 : Hid (Below w.heap.size w w2) := grown_below (HB1.out.alloc HB1.out.size _) (fun k e => (HO1.out.lt k e).1) hgr2; clear hown2 hgr2 hat2 hlt2 tok2))
  go_ret
  exact ⟨_, rfl, by rw [HL.out]; exact HO2.out, HB2.out⟩

set_option maxHeartbeats 400000 in
theorem lits_LW (ga ca gb cb i j : Nat) (A B : List Int) (w : World) (hA : A.length ≤ 70000) (hB : B.length ≤ 70000) (ra : RowI w ga A) (rb : RowI w gb B) (la : ga < w.heap.size) (lb : gb < w.heap.size) (ha : i < A.length) (ha0 : 0 ≤ A.getD i 0) (ha1 : A.getD i 0 < 256) (hb : j < B.length) (hb1 : 256 ≤ B.getD j 0) :
    Calls Try.prog 29 #[.slice (some ⟨ga, 0, none⟩) A.length ca, .int .i64 (i : Int), .slice (some ⟨gb, 0, none⟩) B.length cb, .int .i64 (j : Int)] w fun e w' => Lits w (GP.lits A i B j) e w' := by
  obtain ⟨i5, hi5, hz0, hz1, hz2⟩ := info_parts info5
  have HL : Hid (GP.lits A i B j = [A.getD i 0]) := by unfold Hid GP.lits; rw [litr_yes ha ha1, litr_no hb1]; rfl
  have hca := ra i ha
  generalize A.getD i 0 = x at hca HL ha1 ha0
  have hcb := rb j hb
  generalize B.getD j 0 = y at hcb HL hb1
  have hwx := wrap_b x ha0 ha1
  clear ra rb
  have tok1 : True := trivial
  go_enter Try.func29, Try.ntmps29
  go_wp2_with (at_builtin; have _t := tok1; refine wpList_append_lies (w.alloc (.cells #[.int .u8 x] 5)) (by rfl) _ _ 32 (by rfl) w.heap.size 5 i5 (.int .u8 0) 1 1 Try.underlying32 hi5 hz0 hz1 hz2 rfl (by omega) (.slice none 0 0) 0 [] (by rfl) (World.ownsRow_nil _ _ _ _) ⟨w.heap.size, 0, none⟩ 1 1 [.int .u8 x] (by rfl) rfl (cell_one_new _ _ _) (by simp [Value.oneCell']) (by omega) (by unfold maxLen; omega) (by omega) (by simp) _ rfl ?_; intro g1 c1 w1 hown1 hgr1 hat1 hlt1; have HO1 := hid_of hown1; have HB1 : Hid (Below w.heap.size w w1) := grown_below ((Below.refl _ _).alloc (Nat.le_refl _) _) (fun k e => by cases e) hgr1; have hcb1 := (Below.cell HB1 (p := ⟨gb, j, none⟩) lb).trans hcb; clear hown1 hgr1 hat1 hlt1 tok1)
  go_ret
  exact ⟨_, rfl, by rw [HL.out]; exact HO1.out, HB1.out⟩

set_option maxHeartbeats 400000 in
theorem lits_WE (ga ca gb cb i : Nat) (A B : List Int) (w : World) (hA : A.length ≤ 70000) (hB : B.length ≤ 70000) (ra : RowI w ga A) (rb : RowI w gb B) (la : ga < w.heap.size) (lb : gb < w.heap.size) (ha : i < A.length) (ha1 : 256 ≤ A.getD i 0) :
    Calls Try.prog 29 #[.slice (some ⟨ga, 0, none⟩) A.length ca, .int .i64 (i : Int), .slice (some ⟨gb, 0, none⟩) B.length cb, .int .i64 (B.length : Int)] w fun e w' => Lits w (GP.lits A i B B.length) e w' := by
  obtain ⟨i5, hi5, hz0, hz1, hz2⟩ := info_parts info5
  have HL : Hid (GP.lits A i B B.length = []) := by unfold Hid GP.lits; rw [litr_no ha1, litr_end]; rfl
  have hca := ra i ha
  generalize A.getD i 0 = x at hca HL ha1
  clear ra rb
  go_enter Try.func29, Try.ntmps29
  go_wp2_with fail
  go_ret
  exact ⟨_, rfl, by rw [HL.out]; exact World.ownsRow_nil .., Below.refl _ _⟩

set_option maxHeartbeats 400000 in
theorem lits_WL (ga ca gb cb i j : Nat) (A B : List Int) (w : World) (hA : A.length ≤ 70000) (hB : B.length ≤ 70000) (ra : RowI w ga A) (rb : RowI w gb B) (la : ga < w.heap.size) (lb : gb < w.heap.size) (ha : i < A.length) (ha1 : 256 ≤ A.getD i 0) (hb : j < B.length) (hb0 : 0 ≤ B.getD j 0) (hb1 : B.getD j 0 < 256) :
    Calls Try.prog 29 #[.slice (some ⟨ga, 0, none⟩) A.length ca, .int .i64 (i : Int), .slice (some ⟨gb, 0, none⟩) B.length cb, .int .i64 (j : Int)] w fun e w' => Lits w (GP.lits A i B j) e w' := by
  obtain ⟨i5, hi5, hz0, hz1, hz2⟩ := info_parts info5
  have HL : Hid (GP.lits A i B j = [B.getD j 0]) := by unfold Hid GP.lits; rw [litr_no ha1, litr_yes hb hb1]; rfl
  have hca := ra i ha
  generalize A.getD i 0 = x at hca HL ha1
  have hcb := rb j hb
  generalize B.getD j 0 = y at hcb HL hb1 hb0
  have hwy := wrap_b y hb0 hb1
  clear ra rb
  have tok2 : True := trivial
  go_enter Try.func29, Try.ntmps29
  go_wp2_with (at_builtin; have _t := tok2; refine wpList_append_lies (w.alloc (.cells #[.int .u8 y] 5)) (by rfl) _ _ 32 (by rfl) w.heap.size 5 i5 (.int .u8 0) 1 1 Try.underlying32 hi5 hz0 hz1 hz2 rfl (by omega) (.slice none 0 0) 0 [] (by rfl) (World.ownsRow_nil _ _ _ _) ⟨w.heap.size, 0, none⟩ 1 1 [.int .u8 y] (by rfl) rfl (cell_one_new _ _ _) (by simp [Value.oneCell']) (by omega) (by unfold maxLen; omega) (by omega) (by simp) _ rfl ?_; intro g2 c2 w2 hown2 hgr2 hat2 hlt2; have HO2 := hid_of hown2; have HB2 : Hid (Below w.heap.size w w2) := grown_below ((Below.refl _ _).alloc (Nat.le_refl _) _) (fun k e => by cases e) hgr2; clear hown2 hgr2 hat2 hlt2 tok2)
  go_ret
  exact ⟨_, rfl, by rw [HL.out]; exact HO2.out, HB2.out⟩

set_option maxHeartbeats 400000 in
theorem lits_WW (ga ca gb cb i j : Nat) (A B : List Int) (w : World) (hA : A.length ≤ 70000) (hB : B.length ≤ 70000) (ra : RowI w ga A) (rb : RowI w gb B) (la : ga < w.heap.size) (lb : gb < w.heap.size) (ha : i < A.length) (ha1 : 256 ≤ A.getD i 0) (hb : j < B.length) (hb1 : 256 ≤ B.getD j 0) :
    Calls Try.prog 29 #[.slice (some ⟨ga, 0, none⟩) A.length ca, .int .i64 (i : Int), .slice (some ⟨gb, 0, none⟩) B.length cb, .int .i64 (j : Int)] w fun e w' => Lits w (GP.lits A i B j) e w' := by
  obtain ⟨i5, hi5, hz0, hz1, hz2⟩ := info_parts info5
  have HL : Hid (GP.lits A i B j = []) := by unfold Hid GP.lits; rw [litr_no ha1, litr_no hb1]; rfl
  have hca := ra i ha
  generalize A.getD i 0 = x at hca HL ha1
  have hcb := rb j hb
  generalize B.getD j 0 = y at hcb HL hb1
  clear ra rb
  go_enter Try.func29, Try.ntmps29
  go_wp2_with fail
  go_ret
  exact ⟨_, rfl, by rw [HL.out]; exact World.ownsRow_nil .., Below.refl _ _⟩

theorem literals_any (ga ca gb cb i j : Nat) (A B : List Int) (w : World) (hA : A.length ≤ 70000) (hB : B.length ≤ 70000) (ra : RowI w ga A) (rb : RowI w gb B) (la : ga < w.heap.size) (lb : gb < w.heap.size) (pa : Place A i) (pb : Place B j) :
    Calls Try.prog 29 #[.slice (some ⟨ga, 0, none⟩) A.length ca, .int .i64 (i : Int), .slice (some ⟨gb, 0, none⟩) B.length cb, .int .i64 (j : Int)] w fun e w' => Lits w (GP.lits A i B j) e w' := by
  rcases pa with rfl | ⟨ha, ha0, ha1⟩ | ⟨ha, ha1⟩
  · rcases pb with rfl | ⟨hb, hb0, hb1⟩ | ⟨hb, hb1⟩
    · exact lits_EE ga ca gb cb A B w hA hB ra rb la lb
    · exact lits_EL ga ca gb cb j A B w hA hB ra rb la lb hb hb0 hb1
    · exact lits_EW ga ca gb cb j A B w hA hB ra rb la lb hb hb1
  · rcases pb with rfl | ⟨hb, hb0, hb1⟩ | ⟨hb, hb1⟩
    · exact lits_LE ga ca gb cb i A B w hA hB ra rb la lb ha ha0 ha1
    · exact lits_LL ga ca gb cb i j A B w hA hB ra rb la lb ha ha0 ha1 hb hb0 hb1
    · exact lits_LW ga ca gb cb i j A B w hA hB ra rb la lb ha ha0 ha1 hb hb1
  · rcases pb with rfl | ⟨hb, hb0, hb1⟩ | ⟨hb, hb1⟩
    · exact lits_WE ga ca gb cb i A B w hA hB ra rb la lb ha ha1
    · exact lits_WL ga ca gb cb i j A B w hA hB ra rb la lb ha ha1 hb hb0 hb1
    · exact lits_WW ga ca gb cb i j A B w hA hB ra rb la lb ha ha1 hb hb1

end Go.Proofs.Qxb6603042a.M
