/- FnCompilePatternIsCanonicalAndRendersBack, whole. -/
import Derived.Test.Qxb6603042aWg
namespace Go.Proofs.Qxb6603042a
open Go.RowKit

set_option maxHeartbeats 400000 in
set_option maxRecDepth 100000 in
theorem canon_big (s : ByteArray) (w : World) (hm : s.size ≤ maxLen) (hb : 65536 < s.size) :
    Calls Try.prog 6 #[.string s] w fun e w' => e = .returned (.bool true) ∧ Below w.heap.size w w' := by
  have HZ := hid_of (zzBytes14 s w hm)
  unfold maxLen at hm
  go_enter Try.func6, Try.ntmps6
  go_wp2_with fail
  refine HZ.out.mono ?_
  rintro e w' ⟨⟨b, rfl⟩, hw⟩
  replace hw := hw.symm
  subst hw
  cases b
  all_goals
    go_wp2_with fail
    go_ret
    exact ⟨rfl, Below.refl _ _⟩

theorem pre_len (l : List UInt8) : (GP.pre l).length ≤ l.length := by
  have h := congrArg List.length (GP.render_back l)
  rw [List.length_append, List.length_append] at h
  omega
theorem rest_len (l : List UInt8) : (GP.rest l).length ≤ l.length := by
  unfold GP.rest
  have h1 := GP.tok_length ((GP.body l).drop (GP.lit (GP.body l)))
  rw [List.length_drop] at h1
  have h2 : (GP.body l).length ≤ l.length := by
    unfold GP.body; split
    · rw [List.length_dropLast]; omega
    · exact Nat.le_refl _
  omega

theorem canon_all (s : ByteArray) (w : World) (hm : s.size ≤ maxLen) :
    Calls Try.prog 6 #[.string s] w fun e w' => e = .returned (.bool true) ∧ Below w.heap.size w w' := by
  by_cases hb : 65536 < s.size
  · exact canon_big s w hm hb
  have hs : s.size ≤ 65536 := by omega
  have hp : (mk (GP.pre (bs s))).size ≤ s.size := by rw [mk_size, ← bs_length]; exact pre_len _
  have hr : (GP.rest (bs s)).length ≤ s.size := by rw [← bs_length]; exact rest_len _
  cases hd : GP.isDir (bs s) with
  | true =>
    have hS : GP.steps (bs s) = GP.rest (bs s) ++ [47, 257] := by unfold GP.steps; rw [hd]; rfl
    by_cases h0 : 0 < (GP.rest (bs s)).length
    · exact canon_df s (mk (GP.pre (bs s))) _ _ w hs (dir_size hd) h0 hd rfl rfl rfl hS hp hr
    · exact canon_de s (mk (GP.pre (bs s))) _ _ w hs (dir_size hd) (by omega) hd rfl rfl rfl hS hp hr
  | false =>
    have hS : GP.steps (bs s) = GP.rest (bs s) := by unfold GP.steps; rw [hd]; simp
    by_cases hz : 1 ≤ s.size
    · by_cases h0 : 0 < (GP.rest (bs s)).length
      · exact canon_n1f s (mk (GP.pre (bs s))) _ _ w hs hz h0 hd rfl rfl rfl hS hp hr
      · exact canon_n1e s (mk (GP.pre (bs s))) _ _ w hs hz (by omega) hd rfl rfl rfl hS hp hr
    · exact canon_n0 s (mk (GP.pre (bs s))) _ _ w hs (by omega) (by omega) hd rfl rfl rfl hS hp hr

end Go.Proofs.Qxb6603042a
