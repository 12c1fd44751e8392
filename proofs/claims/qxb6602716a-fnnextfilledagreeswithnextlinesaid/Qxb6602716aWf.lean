/- Walks: ZZNextFilled at the end; the three rows of the law. -/
import Derived.Test.Qxb6602716aWe
import Derived.Deep.AppendLies
namespace Go.Proofs.Qxb6602716a
open Go.RowKit

theorem nl_end (T : ByteArray) : CL.nl ((bs T).drop T.size) = none := by
  rw [List.drop_eq_nil_of_le (by rw [bs_length]; exact Nat.le_refl _)]; rfl

set_option maxHeartbeats 400000 in
theorem nextFilled_end (T r : ByteArray) (k : Nat) (w : World) (hT : T.size ≤ 1048576) :
    Calls Try.prog 22 #[.pointer (some ⟨w.heap.size, 0, none⟩)] (w.alloc (.cells #[.string T, .int .i64 (T.size : Int), .int .i64 (k : Int), .string r, .slice none 0 0, .slice none 0 0] 39)) fun en w' =>
      en = .returned (.bool false) ∧ ∃ n, w' = (w.alloc (.cells #[.string T, .int .i64 (T.size : Int), .int .i64 (k : Int), .string r, .slice none 0 0, .slice none 0 0] 39)).drewN n := by
  go_enter Try.func22, Try.ntmps22
  go_wp2_with fail
  refine wp_loop_rounds 1 ?_
  rw [rounds_succ]
  go_wp2_with fail
  refine (nextLine_no T r T.size k w hT (Nat.le_refl _) (nl_end T)).mono ?_
  rintro e w1 ⟨rfl, n1, hw1⟩
  subst hw1
  go_wp2_with fail
  go_ret
  exact ⟨rfl, n1, rfl⟩

set_option maxHeartbeats 400000 in
theorem zzNextFilled_end (T r : ByteArray) (k : Nat) (w : World) (hT : T.size ≤ 1048576) :
    Calls Try.prog 13 #[.string T, .int .i64 (T.size : Int), .int .i64 (k : Int), .string r] w fun en w' =>
      en = .returned (.tuple #[.bool false, .int .i64 (T.size : Int), .int .i64 (k : Int), .string r]) ∧ Below w.heap.size w w' := by
  go_enter Try.func13, Try.ntmps13
  go_wp2_with fail
  refine (nextFilled_end T r k w hT).mono ?_
  rintro e w1 ⟨rfl, n, hw⟩
  subst hw
  go_wp2_with fail
  go_quiet (fail)
  go_wp2_with fail
  exact bodyPost_ret (v := .tuple #[.bool false, .int .i64 (T.size : Int), .int .i64 (k : Int), .string r]) (by simp [results, Try.results13, go_sem]) rfl ⟨rfl, below_new⟩

abbrev Ent := Nat × Nat × List UInt8
def cL (xs : List Ent) : List Value := xs.map fun e => .int .i64 (e.1 : Int)
def cO (xs : List Ent) : List Value := xs.map fun e => .int .i64 (e.2.1 : Int)
def cR (xs : List Ent) : List Value := xs.map fun e => .string (mk e.2.2)

/-- Two values lie in two rows. -/
def Apart (u v : Value) : Prop := u.ownBlock = none ∨ u.ownBlock ≠ v.ownBlock

/-- The three rows that the law gathers. -/
structure Rows3 (w wr : World) (vl vo vr : Value) (a b c : Nat) (L O R : List Value) : Prop where
  l : wr.ownsRow w.heap.size 3 1 vl a L
  o : wr.ownsRow w.heap.size 3 1 vo b O
  r : wr.ownsRow w.heap.size 9 1 vr c R
  lo : Apart vl vo
  lr : Apart vl vr
  ol : Apart vo vl
  or : Apart vo vr
  rl : Apart vr vl
  ro : Apart vr vo
  bel : Below w.heap.size w wr

theorem grown_of_below {a b : World} (h : Below a.heap.size a b) (row : Option Nat) : a.grownBy b row :=
  ⟨h.os, h.tape, h.output, h.size, fun k hk _ => h.block k hk⟩

section
variable {w wr w1 : World} {vl vo vr : Value} {a b c : Nat} {L O R : List Value}
theorem Rows3.later (h : Rows3 w wr vl vo vr a b c L O R) (hb : Below wr.heap.size wr w1) : Rows3 w w1 vl vo vr a b c L O R := by
  have g := grown_of_below hb none
  have n : ∀ v : Value, v.ownBlock = none ∨ v.ownBlock ≠ none := fun v => by cases v.ownBlock <;> simp
  exact ⟨h.l.kept g (n _), h.o.kept g (n _), h.r.kept g (n _), h.lo, h.lr, h.ol, h.or, h.rl, h.ro, below_trans h.bel hb⟩

theorem Rows3.alloc (h : Rows3 w wr vl vo vr a b c L O R) (o : Obj) : Rows3 w (wr.alloc o) vl vo vr a b c L O R :=
  h.later ((Below.refl _ _).alloc (Nat.le_refl _) o)

theorem apart_new {W : World} {u v : Value} {g n k : Nat} (hu : Apart u v) (hv : ∀ k, v.ownBlock = some k → k < W.heap.size) (hat : u.ownBlock = some g ∨ g = W.heap.size) :
    Apart (.slice (some ⟨g, 0, none⟩) n k) v ∧ Apart v (.slice (some ⟨g, 0, none⟩) n k) := by
  have key : v.ownBlock ≠ some g := by
    intro e
    rcases hat with h | h
    · rcases hu with hu | hu
      · rw [h] at hu; cases hu
      · exact hu (h.trans e.symm)
    · have := hv g e; omega
  exact ⟨.inr fun e => key e.symm, .inr fun e => key e⟩

theorem Rows3.addL {g k : Nat} {x : Value} (h : Rows3 w wr vl vo vr a b c L O R) (own : w1.ownsRow w.heap.size 3 1 (.slice (some ⟨g, 0, none⟩) (a + 1) k) (a + 1) (L ++ [x])) (gr : wr.grownBy w1 vl.ownBlock) (hat : vl.ownBlock = some g ∨ g = wr.heap.size) :
    Rows3 w w1 (.slice (some ⟨g, 0, none⟩) (a + 1) k) vo vr (a + 1) b c (L ++ [x]) O R := by
  have p1 := apart_new (n := a + 1) (k := k) h.lo (fun j hj => (h.o.lt j hj).2) hat
  have p2 := apart_new (n := a + 1) (k := k) h.lr (fun j hj => (h.r.lt j hj).2) hat
  exact ⟨own, h.o.kept gr (h.ol), h.r.kept gr (h.rl), p1.1, p2.1, p1.2, h.or, p2.2, h.ro, h.bel.grown gr h.bel.size (fun j hj => (h.l.lt j hj).1)⟩
theorem Rows3.addO {g k : Nat} {x : Value} (h : Rows3 w wr vl vo vr a b c L O R) (own : w1.ownsRow w.heap.size 3 1 (.slice (some ⟨g, 0, none⟩) (b + 1) k) (b + 1) (O ++ [x])) (gr : wr.grownBy w1 vo.ownBlock) (hat : vo.ownBlock = some g ∨ g = wr.heap.size) :
    Rows3 w w1 vl (.slice (some ⟨g, 0, none⟩) (b + 1) k) vr a (b + 1) c L (O ++ [x]) R := by
  have p1 := apart_new (n := b + 1) (k := k) h.ol (fun j hj => (h.l.lt j hj).2) hat
  have p2 := apart_new (n := b + 1) (k := k) h.or (fun j hj => (h.r.lt j hj).2) hat
  exact ⟨h.l.kept gr h.lo, own, h.r.kept gr h.ro, p1.2, h.lr, p1.1, p2.1, h.rl, p2.2, h.bel.grown gr h.bel.size (fun j hj => (h.o.lt j hj).1)⟩
theorem Rows3.addR {g k : Nat} {x : Value} (h : Rows3 w wr vl vo vr a b c L O R) (own : w1.ownsRow w.heap.size 9 1 (.slice (some ⟨g, 0, none⟩) (c + 1) k) (c + 1) (R ++ [x])) (gr : wr.grownBy w1 vr.ownBlock) (hat : vr.ownBlock = some g ∨ g = wr.heap.size) :
    Rows3 w w1 vl vo (.slice (some ⟨g, 0, none⟩) (c + 1) k) a b (c + 1) L O (R ++ [x]) := by
  have p1 := apart_new (n := c + 1) (k := k) h.rl (fun j hj => (h.l.lt j hj).2) hat
  have p2 := apart_new (n := c + 1) (k := k) h.ro (fun j hj => (h.o.lt j hj).2) hat
  exact ⟨h.l.kept gr h.lr, h.o.kept gr h.or, own, h.lo, p1.2, h.ol, p2.2, p1.1, p2.1, h.bel.grown gr h.bel.size (fun j hj => (h.r.lt j hj).1)⟩
end

theorem Rows3.start (w : World) : Rows3 w w (.slice none 0 0) (.slice none 0 0) (.slice none 0 0) 0 0 0 [] [] [] :=
  ⟨World.ownsRow_nil .., World.ownsRow_nil .., World.ownsRow_nil .., .inl rfl, .inl rfl, .inl rfl, .inl rfl, .inl rfl, .inl rfl, Below.refl _ _⟩

/-- The three rows of a list of filled lines. -/
def Gath (w wr : World) (vl vo vr : Value) (xs : List Ent) : Prop := Rows3 w wr vl vo vr xs.length xs.length xs.length (cL xs) (cO xs) (cR xs)

theorem info3 : (Try.prog.info? 3).map (fun i => (i.zero, i.size, i.bytes)) = some (some (.int .i64 0), 1, 8) := by kernel_rfl
theorem info9 : (Try.prog.info? 9).map (fun i => (i.zero, i.size, i.bytes)) = some (some (.string ByteArray.empty), 1, 16) := by kernel_rfl

end Go.Proofs.Qxb6602716a
