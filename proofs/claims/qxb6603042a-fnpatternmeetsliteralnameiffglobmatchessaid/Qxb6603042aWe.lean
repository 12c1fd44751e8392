/- Walks: ZZPatternParts, policyB1SameBytes, the bounds. -/
import Derived.Test.Qxb6603042aWd
namespace Go.Proofs.Qxb6603042a
open Go.RowKit

theorem info3 : (Try.prog.info? 3).map (fun i => (i.zero, i.size, i.bytes)) = some (some (.int .i64 0), 1, 8) := by kernel_rfl

/-- A row of numbers that a slice leads to: nothing is asked where there is none. -/
def Ints (w : World) (a : Option Addr) (xs : List Int) : Prop := xs = [] ∨ ∃ g, a = some ⟨g, 0, none⟩ ∧ g < w.heap.size ∧ ∀ i, i < xs.length → w.cell? ⟨g, i, none⟩ = some (.int .i64 (xs.getD i 0))

theorem ints_of_own {w : World} {base : Nat} {e : TypeId} {v : Value} {xs : List Int} (h : w.ownsRow base e 1 v xs.length (cI xs)) : ∃ a c, v = .slice a xs.length c ∧ Ints w a xs := by
  rcases h.2 with ⟨h1, h2⟩ | ⟨g, c, cur, h1, _, hg, _⟩
  · exact ⟨none, 0, by rw [h1, h2], .inl (List.eq_nil_of_length_eq_zero h2)⟩
  · refine ⟨_, c, h1, .inr ⟨g, rfl, (Array.getElem?_eq_some_iff.1 hg).1, fun i hi => ?_⟩⟩
    subst h1
    rw [h.cellAt i (by omega)]
    simp [cI, List.getElem?_eq_getElem hi, List.getD]

theorem Ints.below {w w' : World} {a : Option Addr} {xs : List Int} (h : Ints w a xs) (hb : Below w.heap.size w w') : Ints w' a xs := by
  rcases h with h | ⟨g, h1, h2, h3⟩
  · exact .inl h
  · refine .inr ⟨g, h1, by have := hb.size; omega, fun i hi => ?_⟩
    rw [hb.cell (p := ⟨g, i, none⟩) h2]; exact h3 i hi

set_option maxHeartbeats 400000 in
theorem parts_any (pre : ByteArray) (a : Option Addr) (c : Nat) (d : Bool) (xs : List Int) (w : World) (hn : xs.length ≤ 70000) (hx : Ints w a xs) :
    Calls Try.prog 15 #[.agg #[.string pre, .slice a xs.length c, .bool d]] w fun e w' => ∃ g C, e = .returned (.tuple #[.string pre, .slice (some ⟨g, 0, none⟩) xs.length xs.length, .bool d]) ∧
      w.heap.size ≤ g ∧ w'.heap[g]? = some (.cells C 3 (0, 0)) ∧ C.size = xs.length ∧ (∀ i, i < xs.length → C[i]? = some (.int .i64 (xs.getD i 0))) ∧ Below w.heap.size w w' := by
  have hmk := run_make_row' (P := Try.prog) 29 3 (.int .i64 0) 8 Try.underlying29 info3 rfl .i64 .i64 xs.length (by omega) (by omega)
  have HX := hid_of hx
  clear hx
  go_enter Try.func15, Try.ntmps15
  go_wp2_with fail
  go_loopw [6] (fun t wr => ∃ (k : Nat) (C : Array Value), k ≤ xs.length ∧ t = .int .i64 k ∧ wr = (w.alloc (.cells #[.string pre, .slice a xs.length c, .bool d] 26)).alloc (.cells C 3) ∧ C.size = xs.length ∧ ∀ i, i < k → C[i]? = some (.int .i64 (xs.getD i 0))) (fun t _ => xs.length - (intOf t).toNat)
  case atStart => exact ⟨0, _, by omega, rfl, rfl, by simp [madeCells], fun i hi => by omega⟩
  case round =>
    obtain ⟨k, C, hk, rfl, rfl, hC, hd⟩ := hrel
    have HD := hid_of hd
    clear hd hmk
    by_cases hlt : k < xs.length
    · rcases HX.out with h | ⟨g, rfl, hg, hcell⟩
      · rw [h] at hlt; simp at hlt
      have hc := hcell k hlt
      have hkc : k < C.size := by omega
      clear hcell
      generalize hz : xs.getD k 0 = z at hc
      have HZ := hid_of hz
      clear hz
      go_wp2_with fail
      go_roundw
      case rel =>
        refine ⟨k + 1, C.setIfInBounds k (.int .i64 z), by omega, by go_num, rfl, by simpa using hC, fun i hi => ?_⟩
        rw [Array.getElem?_setIfInBounds]
        by_cases e : k = i
        · subst e
          rw [if_pos rfl, if_pos hkc, HZ.out]
        · rw [if_neg e]
          exact HD.out i (by omega)
      case measure => simp [intOf]; omega
    · have hk2 : k = xs.length := by omega
      have HK := hid_of hk2
      clear hk2
      go_wp2_with fail
      go_quiet (fail)
      go_wp2_with fail
      go_ret3
      refine ⟨w.heap.size + 1, C, rfl, by omega, ?_, hC, fun i hi => HD.out i (by have := HK.out; omega), ?_⟩
      · have := heap_alloc_new (w.alloc (.cells #[.string pre, .slice a xs.length c, .bool d] 26)) (.cells C 3)
        simpa using this
      · exact ⟨rfl, rfl, rfl, by simp; omega, fun k hk => by
          have h1 := Below.heap_alloc (w.alloc (.cells #[.string pre, .slice a xs.length c, .bool d] 26)) (.cells C 3) k (by simp; omega)
          have h2 := Below.heap_alloc w (.cells #[.string pre, .slice a xs.length c, .bool d] 26) k hk
          exact h1.trans h2⟩

theorem drewN_add (w : World) (n m : Nat) : (w.drewN n).drewN m = w.drewN (n + m) := World.drewN_drewN ..

set_option maxHeartbeats 400000 in
theorem same_yes (g c : Nat) (s : ByteArray) (w : World) (hs : s.size ≤ 70000) (hrow : ∀ i (h : i < s.size), w.cell? ⟨g, i, none⟩ = some (.int .u8 (s[i].toNat : Int))) :
    Calls Try.prog 16 #[.slice (some ⟨g, 0, none⟩) s.size c, .string s] w fun e w' => e = .returned (.bool true) ∧ ∃ n, w' = w.drewN n := by
  have HR := hid_of hrow
  clear hrow
  go_enter Try.func16, Try.ntmps16
  go_wp2_with fail
  go_loopw [5] (fun t wr => (∃ k : Nat, k ≤ s.size ∧ t = .int .i64 k) ∧ ∃ n, wr = w.drewN n) (fun t _ => s.size - (intOf t).toNat)
  case atStart => exact ⟨⟨0, Nat.zero_le _, rfl⟩, 0, rfl⟩
  case round =>
    obtain ⟨⟨k, hk, rfl⟩, n, rfl⟩ := hrel
    by_cases hlt : k < s.size
    · have hc := HR.out k hlt
      have hk0 : (0 : Int) ≤ (k : Int) := by omega
      have hk1 : (k : Int) < (s.size : Int) := by omega
      have hne : ((s[k].toNat : Int) != (s[k].toNat : Int)) = false := by simp
      go_wp2_with fail
      go_quiet (fail)
      go_wp2_with fail
      go_roundw
      case rel => exact ⟨⟨k + 1, by omega, by go_num⟩, _, rfl⟩
      case measure => simp [intOf]; omega
    · go_wp2_with fail
      go_ret
      exact ⟨rfl, n, rfl⟩

set_option maxHeartbeats 400000 in
theorem zzBytes14 (s : ByteArray) (w : World) (hs : s.size ≤ maxLen) :
    Calls Try.prog 14 #[.string s] w fun e w' => (∃ b, e = .returned (.bool b)) ∧ w' = w := by
  unfold maxLen at hs
  go_enter Try.func14, Try.ntmps14
  go_wp2
  all_goals
    go_ret
    exact ⟨⟨_, rfl⟩, rfl⟩

end Go.Proofs.Qxb6603042a
