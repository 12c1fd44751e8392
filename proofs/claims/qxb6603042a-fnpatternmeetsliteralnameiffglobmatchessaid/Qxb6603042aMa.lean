/- Walks: advance, ends, literals, whole. -/
import Derived.Test.Qxb6603042aRows
import Derived.Test.Qxb6603042aPlainB
import Derived.WalkKit
import Derived.WalkSpells
import Derived.WalkLawsBesides
import Derived.Lib.Bytealg
import Derived.Deep.QuietTactic
import Derived.BigQuiet
import Derived.Deep.AppendLies
import Derived.Deep.RegionHeld3
import Derived.Deep.OwnRows
namespace Go.Proofs.Qxb6603042a.M
open Go.RowKit

theorem hid_of {p : Prop} (h : p) : Hid p := h
theorem ret_bool {a b : Bool} (h : a = b) : Ending.returned (.bool a) = .returned (.bool b) := by rw [h]

/-- A row of numbers. -/
def RowI (w : World) (g : Nat) (xs : List Int) : Prop := ∀ i, i < xs.length → w.cell? ⟨g, i, none⟩ = some (.int .i64 (xs.getD i 0))

theorem RowI.below {w w' : World} {g : Nat} {xs : List Int} {B : Nat} (h : RowI w g xs) (hb : Below B w w') (hg : g < B) : RowI w' g xs := by
  intro i hi
  rw [hb.cell (p := ⟨g, i, none⟩) hg]; exact h i hi

theorem wrap_i (z : Int) (h0 : 0 ≤ z) (h1 : z < 1000000) : IntKind.i64.wrap z = z := by rw [IntKind.wrap_i64]; omega

set_option maxHeartbeats 400000 in
theorem advance_any (g c i : Nat) (xs : List Int) (cc : Int) (w : World) (hn : xs.length ≤ 70000) (hi : i ≤ xs.length) (hr : RowI w g xs) (h0 : 0 ≤ cc) (h1 : cc < 256) :
    Calls Try.prog 30 #[.slice (some ⟨g, 0, none⟩) xs.length c, .int .i64 (i : Int), .int .u8 cc] w fun e w' => e = .returned (.tuple #[.int .i64 ((GP.adv xs i cc).1 : Int), .bool (GP.adv xs i cc).2]) ∧ w' = w := by
  by_cases hl : i = xs.length
  · subst hl
    have HA : Hid (GP.adv xs xs.length cc = (xs.length, false)) := by unfold Hid GP.adv; rw [if_pos rfl]
    go_enter Try.func30, Try.ntmps30
    go_wp2_with fail
    go_ret2
    rw [HA.out]
    exact ⟨rfl, rfl⟩
  · have hlt : i < xs.length := by omega
    have hne : ((i : Int) == (xs.length : Int)) = false := by simp; omega
    have hc := hr i hlt
    have HA := hid_of (show GP.adv xs i cc = (if xs.getD i 0 = 257 then (i, true) else if xs.getD i 0 = 256 then (i, !(cc == 47)) else (i + 1, xs.getD i 0 == cc)) by unfold GP.adv; rw [if_neg hl])
    generalize xs.getD i 0 = x at hc HA
    have hw := wrap_i cc h0 (by omega)
    clear hr hl
    by_cases h257 : x = 257
    · subst h257
      go_enter Try.func30, Try.ntmps30
      go_wp2_with fail
      go_ret2
      rw [HA.out]
      exact ⟨rfl, rfl⟩
    · have b257 : (x == 257) = false := by simpa using h257
      by_cases h256 : x = 256
      · subst h256
        go_enter Try.func30, Try.ntmps30
        go_wp2_with fail
        go_ret2
        rw [HA.out]
        exact ⟨rfl, rfl⟩
      · have b256 : (x == 256) = false := by simpa using h256
        rw [if_neg h257, if_neg h256] at HA
        clear h257 h256
        go_enter Try.func30, Try.ntmps30
        go_wp2_with fail
        go_ret2
        rw [HA.out]
        exact ⟨rfl, rfl⟩

/-- May a name end at place i of a pattern of n steps? -/
def endsAt (n : Nat) (d : Bool) (i : Nat) : Bool := ((i : Int) == (n : Int)) || (d && ((i : Int) == (n : Int) - 2))

set_option maxHeartbeats 400000 in
theorem ends_any (pre : ByteArray) (a : Option Addr) (n c : Nat) (d : Bool) (i : Nat) (w : World) (hp : pre.size ≤ 70000) (hn : n ≤ 70000) :
    Calls Try.prog 28 #[.agg #[.string pre, .slice a n c, .bool d], .int .i64 (i : Int)] w fun e w' => e = .returned (.bool (endsAt (pre.size + n) d i)) ∧ Below w.heap.size w w' := by
  cases hq : ((i : Int) == ((pre.size : Int) + (n : Int))) with
  | true =>
    have HE : Hid (endsAt (pre.size + n) d i = true) := by unfold Hid endsAt; rw [show ((pre.size + n : Nat) : Int) = (pre.size : Int) + (n : Int) from by omega, hq]; rfl
    go_enter Try.func28, Try.ntmps28
    go_wp2_with fail
    go_ret
    exact ⟨ret_bool HE.out.symm, (Below.refl _ _).alloc (Nat.le_refl _) _⟩
  | false =>
    have HE : Hid (endsAt (pre.size + n) d i = (d && ((i : Int) == (pre.size : Int) + (n : Int) - 2))) := by unfold Hid endsAt; rw [show ((pre.size + n : Nat) : Int) = (pre.size : Int) + (n : Int) from by omega, hq]; rfl
    cases d
    all_goals
      go_enter Try.func28, Try.ntmps28
      go_wp2_with fail
      go_ret
      exact ⟨ret_bool HE.out.symm, (Below.refl _ _).alloc (Nat.le_refl _) _⟩

end Go.Proofs.Qxb6603042a.M
