/- Walks: jfCloneBytes, zzBytes. -/
import Derived.Test.Qxb6602447aWe
import Derived.Deep.OwnRows
namespace Go.Proofs.Qxb6602447a
open Go.RowKit

theorem info5 : (Try.prog.info? 5).map (fun i => (i.zero, i.size, i.bytes)) = some (some (.int .u8 0), 1, 1) := by kernel_rfl

set_option maxHeartbeats 400000 in
theorem clone_nil (w : World) :
    Calls Try.prog 10 #[.slice none 0 0] w fun e w' => e = .returned (.slice none 0 0) ∧ w' = w := by
  have hnil := fun (w : World) (a : Option Addr) (n c : Nat) => Lib.run_eql_slice_nil (P := Try.prog) w 22 5 a n c 0 0 Try.underlying22
  go_enter Try.func10, Try.ntmps10
  go_wp2_with fail
  go_ret
  exact ⟨rfl, rfl⟩

set_option maxHeartbeats 400000 in
theorem clone_some (b o len cap : Nat) (zs : List Int) (w : World) (hr : Row w b o zs) (hl : len ≤ zs.length) (hm : len ≤ 4000000) (hbw : b < w.heap.size) :
    Calls Try.prog 10 #[.slice (some ⟨b, o, none⟩) len cap] w fun e w' => e = .returned (.slice (some ⟨w.heap.size, 0, none⟩) len len) ∧
      ∃ C : Array Value, w' = w.alloc (.cells C 5) ∧ C.size = len ∧ ∀ i, i < len → C[i]? = some (.int .u8 (zs.getD i 0)) := by
  have hnil := fun (w : World) (a : Option Addr) (n c : Nat) => Lib.run_eql_slice_nil (P := Try.prog) w 22 5 a n c 0 0 Try.underlying22
  have hmk := run_make_row' (P := Try.prog) 22 5 (.int .u8 0) 1 Try.underlying22 info5 rfl .i64 .i64 len (by omega) (by omega)
  go_enter Try.func10, Try.ntmps10
  go_wp2_with fail
  go_loopw [4] (fun t wr => ∃ (k : Nat) (C : Array Value), k ≤ len ∧ t = .int .i64 k ∧ wr = w.alloc (.cells C 5) ∧ C.size = len ∧ ∀ i, i < k → C[i]? = some (.int .u8 (zs.getD i 0))) (fun t _ => len - (intOf t).toNat)
  case atStart => exact ⟨0, _, by omega, rfl, rfl, by simp [madeCells], fun i hi => by omega⟩
  case round =>
    obtain ⟨k, C, hk, rfl, rfl, hC, hd⟩ := hrel
    have HD : Hid (∀ i, i < k → C[i]? = some (.int .u8 (zs.getD i 0))) := hd
    clear hd
    by_cases hlt : k < len
    · have hc := hr k (by omega)
      have hkc : k < C.size := by omega
      clear hr hmk hnil
      generalize hz : zs.getD k 0 = z at hc
      have HZ : Hid (zs.getD k 0 = z) := hz
      clear hz
      go_wp2_with fail
      go_roundw
      case rel =>
        refine ⟨k + 1, C.setIfInBounds k (.int .u8 z), by omega, by go_num, rfl, by simpa using hC, fun i hi => ?_⟩
        rw [Array.getElem?_setIfInBounds]
        by_cases e : k = i
        · subst e
          rw [if_pos rfl, if_pos hkc, HZ.out]
        · rw [if_neg e]
          exact HD.out i (by omega)
      case measure => simp [intOf]; omega
    · go_wp2_with fail
      go_ret
      exact ⟨rfl, C, rfl, hC, fun i hi => HD.out i (by omega)⟩

set_option maxHeartbeats 400000 in
theorem zzBytes_any (s t : ByteArray) (a : Option Addr) (len cap : Nat) (w : World) (hs : s.size ≤ maxLen) (ht : t.size ≤ maxLen) (hl : len ≤ maxLen) :
    Calls Try.prog 18 #[.string s, .string t, .slice a len cap] w fun e w' => (∃ bl, e = .returned (.bool bl)) ∧ w' = w := by
  unfold maxLen at hs ht hl
  go_enter Try.func18, Try.ntmps18
  go_wp2_with fail
  all_goals
    go_ret
    exact ⟨⟨_, rfl⟩, rfl⟩

end Go.Proofs.Qxb6602447a
