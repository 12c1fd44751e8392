/- Walks: PrefixMatches. -/
import Derived.Test.Qxb6603042aNc
import Derived.Deep.DeepCutAuto
import Derived.Deep.CutRange
import Derived.Deep.LoopGhost
namespace Go.Proofs.Qxb6603042a.M
open Go.RowKit
set_option linter.unusedVariables false

/-- What PrefixMatches answers. -/
def Pref (xs B : List Int) (M : Nat) (w : World) (e : Ending) (w' : World) : Prop :=
  ∃ g, e = .returned (.slice (some ⟨g, 0, none⟩) M M) ∧ BRow w' g (drow xs B M xs.length) ∧ g < w'.heap.size ∧ Below w.heap.size w w'

set_option maxRecDepth 8000 in
set_option maxHeartbeats 1000000 in
theorem prefix_any (a : Nat) (c : Nat) (xs : List Int) (N : ByteArray) (M : Nat) (hMN : M = N.size + 1) (w : World) (hn : xs.length ≤ 70000) (hN : N.size ≤ 70000) (hr : RowI w a xs) (ha : a < w.heap.size) :
    Calls Try.prog 21 #[.slice (some ⟨a, 0, none⟩) xs.length c, .string N] w fun e w' => Pref xs (GP.nums (bs N)) M w e w' := by
  have hM : (N.size : Int) + 1 = (M : Int) := by omega
  have HMN := hid_of hMN
  have hm0 : 0 < M := by omega
  have hM1 : M ≤ 70001 := by omega
  clear hMN
  have hmk := run_make_row' (P := Try.prog) 37 4 (.bool false) 1 Try.underlying37 info4 rfl .i64 .i64 M (by omega) (by omega)
  have HR := hid_of hr
  clear hr
  go_enter Try.func21, Try.ntmps21
  go_upto_region 2 with fail
  have b2 := BRow.new w M
  have z2 : (w.alloc (.cells (madeCells #[.bool false] M) 4)).heap.size = w.heap.size + 1 := by simp
  have e2 := (Below.refl w.heap.size w).alloc (Nat.le_refl _) (.cells (madeCells #[.bool false] M) 4)
  generalize w.alloc (.cells (madeCells #[.bool false] M) 4) = w2 at *
  have c2 := b2.cell (j := 0) (by rw [List.length_replicate]; exact hm0)
  have f2 := b2.frozen 0
  have B2 := hid_of b2
  have E2 := hid_of e2
  have Z2 := hid_of z2
  clear b2 e2 z2
  go_upto_region 3 with fail
  have B3 : Hid (BRow (w2.setCell ⟨w.heap.size, 0, none⟩ (.bool true)) w.heap.size (drow xs (GP.nums (bs N)) M 0)) := by
    unfold Hid; rw [← drow_start _ _ M hm0]; exact B2.out.set 0 true
  have E3 := hid_of (E2.out.setCell (p := ⟨w.heap.size, 0, none⟩) (Nat.le_refl _) (.bool true))
  have Z3 : Hid ((w2.setCell ⟨w.heap.size, 0, none⟩ (.bool true)).heap.size = w.heap.size + 1) := by unfold Hid; simpa [World.setCell] using Z2.out
  generalize w2.setCell ⟨w.heap.size, 0, none⟩ (.bool true) = w3 at *
  clear c2 f2 B2 E2 Z2
  go_wp2_with fail
  go_loopw [5, 6] (fun o t wr => ∃ (k g : Nat), k ≤ xs.length ∧ t = .int .i64 k ∧ o = .slice (some ⟨g, 0, none⟩) M M ∧ Hid (BRow wr g (drow xs (GP.nums (bs N)) M k)) ∧ Hid (g < wr.heap.size) ∧ Hid (Below w.heap.size w wr)) (fun _ t _ => xs.length - (intOf t).toNat)
  case atStart => exact ⟨0, w.heap.size, Nat.zero_le _, rfl, rfl, B3, by unfold Hid; rw [Z3.out]; omega, E3⟩
  case round =>
    obtain ⟨k, g, hk, rfl, rfl, HB, HG, HE⟩ := hrel
    clear B3 E3 Z3
    by_cases hlt : k < xs.length
    · have hc := (HR.out.below HE.out ha) k hlt
      generalize hx : xs.getD k 0 = x at hc
      have HX := hid_of hx
      clear hx
      go_upto_region 8 with fail
      have I0 := hid_of (IN.start HB.out HG.out)
      generalize World.alloc _ _ = w4 at *
      have HM := hid_of hM
      clear hmk hM hc HB
      go_wp2_with fail
      go_loopw [9] (fun t wx => ∃ j : Nat, j ≤ M ∧ t = .int .i64 j ∧ Hid (IN wr g xs (GP.nums (bs N)) M k j wx)) (fun t _ => M - (intOf t).toNat)
      case atStart => exact ⟨0, Nat.zero_le _, rfl, I0⟩
      case round =>
        obtain ⟨j, hj, rfl, I⟩ := hrel
        clear I0
        by_cases hjM : j < M
        · have hle : j ≤ N.size := by have := HMN.out; omega
          obtain ⟨c1, c2, f2⟩ := I.out.cells hjM
          generalize hrj : GP.dp xs (GP.nums (bs N)) k j = rj at c1
          have HRJ := hid_of hrj
          clear hrj
          by_cases h0 : 0 < j
          · obtain ⟨c3, c4⟩ := I.out.back hjM h0
            generalize hr1 : GP.dp xs (GP.nums (bs N)) k (j - 1) = r1 at c3
            generalize hn1 : GP.dp xs (GP.nums (bs N)) (k + 1) (j - 1) = n1 at c4
            have HR1 := hid_of hr1
            have HN1 := hid_of hn1
            clear hr1 hn1
            have hlt1 : j - 1 < N.size := by omega
            have hB := GP.nums_getD (bs N) (j - 1) (by rw [bs_length]; omega)
            rw [get_bs N (j - 1) (by omega)] at hB
            have HBB := hid_of hB
            clear hB
            have hi : ((j : Int) - 1).toNat = j - 1 := by omega
            have hi0 : (0 : Int) ≤ (j : Int) - 1 := by omega
            have hi1 : (j : Int) - 1 < (N.size : Int) := by omega
            have hi2 : (j : Int) - 1 < (M : Int) := by omega
            have hgt : (0 : Int) < (j : Int) := by omega
            by_cases h257 : x = 257
            · subst h257
              have HV : Hid (GP.dp xs (GP.nums (bs N)) (k + 1) j = (rj || n1)) := by unfold Hid; rw [dp_257 h0 HX.out, HRJ.out, HN1.out]
              cases rj with
              | true =>
                go_wp2_with fail
                go_roundw
                case rel => exact ⟨j + 1, by omega, by go_num, I.out.step HV.out⟩
                case measure => simp [intOf]; omega
              | false =>
                go_wp2_with fail
                go_roundw
                case rel => exact ⟨j + 1, by omega, by go_num, I.out.step HV.out⟩
                case measure => simp [intOf]; omega
            · have b257 : (x == 257) = false := by simpa using h257
              by_cases h256 : x = 256
              · subst h256
                have HV : Hid (GP.dp xs (GP.nums (bs N)) (k + 1) j = (rj || (!((N[j - 1].toNat : Int) == 47) && n1))) := by unfold Hid; rw [dp_256 h0 HX.out, HRJ.out, HN1.out, HBB.out]
                clear h257
                cases rj with
                | true =>
                  go_wp2_with fail
                  go_roundw
                  case rel => exact ⟨j + 1, by omega, by go_num, I.out.step HV.out⟩
                  case measure => simp [intOf]; omega
                | false =>
                  cases hq : ((N[j - 1].toNat : Int) == 47) with
                  | true =>
                    have hq' : ((N[j - 1].toNat : Int) != 47) = false := by rw [bne, hq]; rfl
                    rw [hq] at HV
                    go_wp2_with fail
                    go_roundw
                    case rel => exact ⟨j + 1, by omega, by go_num, I.out.step HV.out⟩
                    case measure => simp [intOf]; omega
                  | false =>
                    have hq' : ((N[j - 1].toNat : Int) != 47) = true := by rw [bne, hq]; rfl
                    rw [hq] at HV
                    go_wp2_with fail
                    go_roundw
                    case rel => exact ⟨j + 1, by omega, by go_num, I.out.step HV.out⟩
                    case measure => simp [intOf]; omega
              · have b256 : (x == 256) = false := by simpa using h256
                have HV : Hid (GP.dp xs (GP.nums (bs N)) (k + 1) j = (((N[j - 1].toNat : Int) == x) && r1)) := by unfold Hid; rw [dp_lit h0 (by rw [HX.out]; exact h257) (by rw [HX.out]; exact h256), HR1.out, HBB.out, HX.out]
                have hwr : IntKind.i64.wrap (N[j - 1].toNat : Int) = (N[j - 1].toNat : Int) := by rw [IntKind.wrap_i64]; have := N[j - 1].toNat_lt; omega
                clear h257 h256
                cases hq : ((N[j - 1].toNat : Int) == x) with
                | true =>
                  rw [hq] at HV
                  go_wp2_with fail
                  go_roundw
                  case rel => exact ⟨j + 1, by omega, by go_num, I.out.step HV.out⟩
                  case measure => simp [intOf]; omega
                | false =>
                  rw [hq] at HV
                  go_wp2_with fail
                  go_roundw
                  case rel => exact ⟨j + 1, by omega, by go_num, I.out.step HV.out⟩
                  case measure => simp [intOf]; omega
          · have hj0 : j = 0 := by omega
            subst hj0
            by_cases h257 : x = 257
            · subst h257
              have HV : Hid (GP.dp xs (GP.nums (bs N)) (k + 1) 0 = rj) := by unfold Hid; rw [dp_257_0 HX.out, HRJ.out]
              cases rj with
              | true =>
                go_wp2_with fail
                go_roundw
                case rel => exact ⟨1, by omega, by go_num, I.out.step HV.out⟩
                case measure => simp [intOf]; omega
              | false =>
                go_wp2_with fail
                go_roundw
                case rel => exact ⟨1, by omega, by go_num, I.out.step HV.out⟩
                case measure => simp [intOf]; omega
            · have b257 : (x == 257) = false := by simpa using h257
              by_cases h256 : x = 256
              · subst h256
                have HV : Hid (GP.dp xs (GP.nums (bs N)) (k + 1) 0 = rj) := by unfold Hid; rw [dp_256_0 HX.out, HRJ.out]
                clear h257
                cases rj with
                | true =>
                  go_wp2_with fail
                  go_roundw
                  case rel => exact ⟨1, by omega, by go_num, I.out.step HV.out⟩
                  case measure => simp [intOf]; omega
                | false =>
                  go_wp2_with fail
                  go_roundw
                  case rel => exact ⟨1, by omega, by go_num, I.out.step HV.out⟩
                  case measure => simp [intOf]; omega
              · have b256 : (x == 256) = false := by simpa using h256
                have HV : Hid (GP.dp xs (GP.nums (bs N)) (k + 1) 0 = false) := by unfold Hid; rw [dp_lit_0 (by rw [HX.out]; exact h257) (by rw [HX.out]; exact h256)]
                clear h257 h256
                go_wp2_with fail
                go_roundw
                case rel => exact ⟨1, by omega, by go_num, I.out.step HV.out⟩
                case measure => simp [intOf]; omega
        · have hj' : j = M := by omega
          subst hj'
          have hnle : ¬ (j : Int) ≤ (N.size : Int) := by have := HMN.out; omega
          go_wp2_with fail
          go_roundw
          case rel => exact ⟨k + 1, _, by omega, by go_num, rfl, by have := I.out.nxt; rw [mid_end] at this; exact this, by have := I.out.size; unfold Hid; omega, HE.out.trans (I.out.bel.mono HE.out.size)⟩
          case measure => simp [intOf]; omega
    · have hk' : k = xs.length := by omega
      subst hk'
      go_wp2_with fail
      go_ret
      exact ⟨g, rfl, HB.out, HG.out, HE.out⟩
end Go.Proofs.Qxb6603042a.M
