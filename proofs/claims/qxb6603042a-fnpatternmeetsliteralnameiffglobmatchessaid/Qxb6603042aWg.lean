/- The walk of FnCompilePatternIsCanonicalAndRendersBack, a directory's pattern. -/
import Derived.Test.Qxb6603042aWf
namespace Go.Proofs.Qxb6603042a
open Go.RowKit
set_option linter.unusedVariables false

set_option maxHeartbeats 4000000 in
set_option maxRecDepth 100000 in
theorem canon_de (s pre : ByteArray) (R S : List Int) (w : World) (hs : s.size ≤ 65536) (hpos : 1 ≤ s.size) (hRz : R.length ≤ 0) (hd : GP.isDir (bs s) = true) (hpre : bs pre = GP.pre (bs s)) (hR : GP.rest (bs s) = R) (hst : GP.steps (bs s) = S) (hSR : S = R ++ [47, 257])
    (hplen : pre.size ≤ s.size) (hRl : R.length ≤ s.size) :
    Calls Try.prog 6 #[.string s] w fun e w' => e = .returned (.bool true) ∧ Below w.heap.size w w' := by
  have hpm : mk (GP.pre (bs s)) = pre := by rw [← hpre, mk_bs]
  have HCP := compile_any s w hs
  unfold Compiled at HCP
  rw [hst, hpm, hd] at HCP
  have hSl : S.length = R.length + 2 := by simp [hSR]
  have HSL := hid_of hSl
  have hS1 : S.length ≤ R.length + 2 := by omega
  have hS2 : R.length + 2 ≤ S.length := by omega
  have HC := hid_of HCP
  have HDR := hid_of hd
  have HPRE := hid_of hpre
  have HRE := hid_of hR
  have HSR := hid_of hSR
  clear HCP hd hpre hR hst hpm hSR hSl
  have hlast : ((s[s.size - 1]'(by omega)).toNat : Int) = 47 := by rw [last_dir s hpos HDR.out]; rfl
  have hlb : (((s[s.size - 1]'(by omega)).toNat : Int) == 47) = true := by rw [hlast]; rfl
  clear hlast
  have HZ := hid_of (zzBytes14 s w (by unfold maxLen; omega))
  go_enter Try.func6, Try.ntmps6
  go_wp2_with fail
  refine HZ.out.mono ?_
  rintro e w' ⟨⟨b, rfl⟩, hw⟩
  replace hw := hw.symm
  subst hw
  clear HZ
  cases b
  · go_wp2_with fail
    go_ret
    exact ⟨rfl, Below.refl _ _⟩
  go_wp2_with fail
  refine HC.out.mono ?_
  rintro e w1 ⟨v, rfl, hown, hbel, hsz⟩
  obtain ⟨a, c, hv, hin⟩ := ints_of_own hown
  subst hv
  have HB1 := hid_of hbel
  have HI1 := hid_of hin
  clear hown hbel hin HC
  go_wp2_with fail
  refine (parts_any pre a c true S w1 (by omega) HI1.out).mono ?_
  rintro e w2 ⟨g, C, rfl, hg1, hg2, hg3, hg4, hg5⟩
  have hg6 : g < w2.heap.size := (Array.getElem?_eq_some_iff.1 hg2).1
  have HB2 : Hid (Below w.heap.size w w2) := HB1.out.trans (hg5.mono HB1.out.size)
  have HROW : Hid (∀ i, i < S.length → w2.cell? ⟨g, i, none⟩ = some (.int .i64 (S.getD i 0))) := by
    intro i hi
    rw [cell_of_row w2 g i C 3 (0, 0) hg2]; exact hg4 i hi
  clear hg1 hg2 hg3 hg4 hg5 HB1 HI1 hsz
  have HRW : Hid (∀ i, i < R.length → w2.cell? ⟨g, i, none⟩ = some (.int .i64 (R.getD i 0))) := by
    intro i hi
    rw [HROW.out i (by omega)]
    have := HSR.out
    subst this
    first | rfl | (congr 2; simp [List.getD, List.getElem?_append_left hi])
  have hc47 : w2.cell? ⟨g, S.length - 2, none⟩ = some (.int .i64 47) := by
    rw [HROW.out _ (by omega)]; have := HSR.out; subst this; congr 2; simp [List.getD]
  have hc257 : w2.cell? ⟨g, S.length - 1, none⟩ = some (.int .i64 257) := by
    rw [HROW.out _ (by omega)]; have := HSR.out; subst this; congr 2; simp [List.getD]
  go_wp2_with fail
  rw [show S.length - 2 = R.length from by omega]
  clear HSL HSR HROW hS1 hS2
  have HNS : Hid (∀ k (h : k < pre.size), ((pre[k].toNat : Int) == 42) = false) := fun k h => pre_not s pre HPRE.out k h
  go_loop [7] (fun t => ∃ k : Nat, k ≤ pre.size ∧ t = .int .i64 k) (fun t => pre.size - (intOf t).toNat)
  case atStart => exact ⟨0, Nat.zero_le _, rfl⟩
  case round =>
    obtain ⟨k, hk, rfl⟩ := hrel
    by_cases hlt : k < pre.size
    · have hb := HNS.out k hlt
      go_wp2_with fail
      go_round
      case rel => exact ⟨k + 1, by omega, by go_num⟩
      case measure => simp [intOf]; omega
    · clear HNS
      obtain ⟨i5, hi5, hz50, hz51, hz52⟩ := info_parts info5
      have HTK : Hid (∀ k, k < R.length → GP.okTok (R.getD k 0) ∧ (R.getD k 0 = 256 → k + 1 < R.length → R.getD (k + 1) 0 < 256)) := fun k h => toks_ok s R HRE.out k h
      have HFIN := hid_of (render_fin s pre R HPRE.out HRE.out)
      rw [HDR.out] at HFIN
      go_wp2_with fail
      go_loop [8] (fun t => ∃ k : Nat, k ≤ R.length ∧ t = .int .i64 k) (fun t => R.length - (intOf t).toNat)
      case atStart => exact ⟨0, Nat.zero_le _, rfl⟩
      case round =>
        obtain ⟨k2, hk2, rfl⟩ := hrel
        by_cases hlt2 : k2 < R.length
        · exact absurd hlt2 (by omega)
        · have tok0 : True := trivial
          go_wp2_with (at_make; have _t := tok0; refine wpList_make_own w2 rfl _ _ 32 rfl w2.heap.size 5 i5 (.int .u8 0) 1 Try.underlying32 hi5 hz50 hz51 .i64 .i64 _ (s.size + 1) rfl rfl (by omega) (by rw [hz52]; omega) (by unfold maxLen; omega) (Nat.le_refl _) ?_; intro W5 own5 gr5; have HO5 := hid_of own5; have HG5 : Hid (Below w2.heap.size w2 W5) := (Below.refl _ _).grown gr5 (Nat.le_refl _) (fun k hk => by cases hk); clear own5 gr5 tok0)
          go_loopw [9, 10] (fun o t wr => ∃ k : Nat, k ≤ pre.size ∧ t = .int .i64 k ∧ o = .slice (some ⟨w2.heap.size, 0, none⟩) k (s.size + 1) ∧ wr.ownsRow w2.heap.size 5 1 (.slice (some ⟨w2.heap.size, 0, none⟩) k (s.size + 1)) k (cB ((bs pre).take k)) ∧ Below w2.heap.size w2 wr) (fun _ t _ => pre.size - (intOf t).toNat)
          case atStart => exact ⟨0, Nat.zero_le _, rfl, rfl, HO5.out, HG5.out⟩
          case round =>
            obtain ⟨k3, hk3, rfl, rfl, ho3, hb3⟩ := hrel
            have HO3 := hid_of ho3
            have HB3 := hid_of hb3
            clear ho3 hb3 HO5 HG5
            by_cases hlt3 : k3 < pre.size
            · have tok1 : True := trivial
              have HCB := hid_of (cB_snoc pre k3 hlt3)
              go_wp2_with (at_builtin; have _t := tok1; refine wpList_append_fits (wr.alloc (.cells #[.int .u8 (pre[k3].toNat : Int)] 5)) rfl _ _ 32 rfl w2.heap.size 5 i5 1 Try.underlying32 hi5 hz51 w2.heap.size k3 (s.size + 1) _ rfl (HO3.out.alloc _) ⟨wr.heap.size, 0, none⟩ 1 1 [.int .u8 (pre[k3].toNat : Int)] rfl rfl (cell_one_new _ _ _) (by simp [Value.oneCell']) (by omega) ?_; intro W6 own6 gr6; have HO6 := hid_of own6; have HB6 : Hid (Below w2.heap.size w2 W6) := (HB3.out.alloc HB3.out.size _).grown gr6 (by have := HB3.out.size; simp; omega) (fun k hk => by simp at hk; omega); clear own6 gr6 tok1 HO3 HB3)
              go_roundw
              case rel => exact ⟨k3 + 1, by omega, by go_num, rfl, by rw [HCB.out]; exact HO6.out, HB6.out⟩
              case measure => simp [intOf]; omega
            · have hk3' : k3 = pre.size := by omega
              subst hk3'
              have HO4 : Hid (wr.ownsRow w2.heap.size 5 1 (.slice (some ⟨w2.heap.size, 0, none⟩) pre.size (s.size + 1)) pre.size (cB (bs pre ++ GP.render (R.take 0)))) := by
                have h := HO3.out
                rw [List.take_of_length_le (by rw [bs_length]; exact Nat.le_refl _)] at h
                unfold Hid
                rw [show bs pre ++ GP.render (R.take 0) = bs pre from by simp [GP.render]]
                exact h
              clear HO3
              go_wp2_with fail
              go_loopw [9, 11] (fun o t wr => ∃ k m : Nat, k ≤ R.length ∧ t = .int .i64 k ∧ m = pre.size + (GP.render (R.take k)).length ∧ o = .slice (some ⟨w2.heap.size, 0, none⟩) m (s.size + 1) ∧ wr.ownsRow w2.heap.size 5 1 (.slice (some ⟨w2.heap.size, 0, none⟩) m (s.size + 1)) m (cB (bs pre ++ GP.render (R.take k))) ∧ Below w2.heap.size w2 wr) (fun _ t _ => R.length - (intOf t).toNat)
              case atStart => exact ⟨0, pre.size, Nat.zero_le _, rfl, by simp [GP.render], rfl, HO4.out, HB3.out⟩
              case round =>
                obtain ⟨k4, m, hk4, rfl, hm, rfl, ho7, hb7⟩ := hrel
                have HO7 := hid_of ho7
                have HB7 := hid_of hb7
                have HM := hid_of hm
                have hle4 : m + 1 ≤ s.size := by have h1 := fin_len s pre R _ HFIN.out; have h2 := render_le R k4; simp at h1; omega
                clear ho7 hb7 HO4 HB3 hm
                have tok1 : True := trivial
                by_cases hlt4 : k4 < R.length
                · exact absurd hlt4 (by omega)
                · have HT : Hid (R.take k4 = R) := List.take_of_length_le (by omega)
                  have hmm : m + 1 = s.size := by have h1 := fin_len s pre R _ HFIN.out; have h3 := HM.out; rw [HT.out] at h3; simp at h1; omega
                  rw [HT.out] at HO7
                  clear hle4
                  go_wp2_with (at_builtin; have _t := tok1; refine wpList_append_fits (wr.alloc (.cells #[.int .u8 47] 5)) rfl _ _ 32 rfl w2.heap.size 5 i5 1 Try.underlying32 hi5 hz51 w2.heap.size (m) (s.size + 1) _ rfl (HO7.out.alloc _) ⟨wr.heap.size, 0, none⟩ 1 1 [.int .u8 47] rfl rfl (cell_one_new _ _ _) (by simp [Value.oneCell']) (by omega) ?_; intro W8 own8 gr8; have HO8 := hid_of own8; have HB8 : Hid (Below w2.heap.size w2 W8) := (HB7.out.alloc HB7.out.size _).grown gr8 (by have := HB7.out.size; simp; omega) (fun k hk => by simp at hk; omega); clear own8 gr8 tok1 HO7 HB7)
                  have HF := HFIN.out
                  simp only [if_true] at HF
                  have HO10 : Hid (W8.ownsRow w2.heap.size 5 1 (.slice (some ⟨w2.heap.size, 0, none⟩) s.size (s.size + 1)) s.size (cB (bs s))) := by
                    have h := HO8.out
                    rw [hmm] at h
                    unfold Hid
                    rw [← HF, cB_app]
                    exact h
                  have HS := hid_of (same_yes w2.heap.size (s.size + 1) s W8 (by omega) (same_cells s W8 _ _ _ HO10.out))
                  clear HF HO10 HO8
                  refine HS.out.mono ?_
                  rintro e w9 ⟨rfl, n9, hw9⟩
                  have HFB : Hid (Below w.heap.size w w9) := by
                    rw [hw9]
                    have := HB2.out.trans (HB8.out.mono HB2.out.size)
                    exact ⟨this.os, this.tape, this.output, this.size, this.block⟩
                  clear hw9
                  go_wp2_with fail
                  go_ret
                  exact ⟨rfl, HFB.out⟩

set_option maxHeartbeats 4000000 in
set_option maxRecDepth 100000 in
theorem canon_df (s pre : ByteArray) (R S : List Int) (w : World) (hs : s.size ≤ 65536) (hpos : 1 ≤ s.size) (hRz : 0 < R.length) (hd : GP.isDir (bs s) = true) (hpre : bs pre = GP.pre (bs s)) (hR : GP.rest (bs s) = R) (hst : GP.steps (bs s) = S) (hSR : S = R ++ [47, 257])
    (hplen : pre.size ≤ s.size) (hRl : R.length ≤ s.size) :
    Calls Try.prog 6 #[.string s] w fun e w' => e = .returned (.bool true) ∧ Below w.heap.size w w' := by
  have hpm : mk (GP.pre (bs s)) = pre := by rw [← hpre, mk_bs]
  have HCP := compile_any s w hs
  unfold Compiled at HCP
  rw [hst, hpm, hd] at HCP
  have hSl : S.length = R.length + 2 := by simp [hSR]
  have HSL := hid_of hSl
  have hS1 : S.length ≤ R.length + 2 := by omega
  have hS2 : R.length + 2 ≤ S.length := by omega
  have HC := hid_of HCP
  have HDR := hid_of hd
  have HPRE := hid_of hpre
  have HRE := hid_of hR
  have HSR := hid_of hSR
  clear HCP hd hpre hR hst hpm hSR hSl
  have hlast : ((s[s.size - 1]'(by omega)).toNat : Int) = 47 := by rw [last_dir s hpos HDR.out]; rfl
  have hlb : (((s[s.size - 1]'(by omega)).toNat : Int) == 47) = true := by rw [hlast]; rfl
  clear hlast
  have HZ := hid_of (zzBytes14 s w (by unfold maxLen; omega))
  go_enter Try.func6, Try.ntmps6
  go_wp2_with fail
  refine HZ.out.mono ?_
  rintro e w' ⟨⟨b, rfl⟩, hw⟩
  replace hw := hw.symm
  subst hw
  clear HZ
  cases b
  · go_wp2_with fail
    go_ret
    exact ⟨rfl, Below.refl _ _⟩
  go_wp2_with fail
  refine HC.out.mono ?_
  rintro e w1 ⟨v, rfl, hown, hbel, hsz⟩
  obtain ⟨a, c, hv, hin⟩ := ints_of_own hown
  subst hv
  have HB1 := hid_of hbel
  have HI1 := hid_of hin
  clear hown hbel hin HC
  go_wp2_with fail
  refine (parts_any pre a c true S w1 (by omega) HI1.out).mono ?_
  rintro e w2 ⟨g, C, rfl, hg1, hg2, hg3, hg4, hg5⟩
  have hg6 : g < w2.heap.size := (Array.getElem?_eq_some_iff.1 hg2).1
  have HB2 : Hid (Below w.heap.size w w2) := HB1.out.trans (hg5.mono HB1.out.size)
  have HROW : Hid (∀ i, i < S.length → w2.cell? ⟨g, i, none⟩ = some (.int .i64 (S.getD i 0))) := by
    intro i hi
    rw [cell_of_row w2 g i C 3 (0, 0) hg2]; exact hg4 i hi
  clear hg1 hg2 hg3 hg4 hg5 HB1 HI1 hsz
  have HRW : Hid (∀ i, i < R.length → w2.cell? ⟨g, i, none⟩ = some (.int .i64 (R.getD i 0))) := by
    intro i hi
    rw [HROW.out i (by omega)]
    have := HSR.out
    subst this
    first | rfl | (congr 2; simp [List.getD, List.getElem?_append_left hi])
  have hc47 : w2.cell? ⟨g, S.length - 2, none⟩ = some (.int .i64 47) := by
    rw [HROW.out _ (by omega)]; have := HSR.out; subst this; congr 2; simp [List.getD]
  have hc257 : w2.cell? ⟨g, S.length - 1, none⟩ = some (.int .i64 257) := by
    rw [HROW.out _ (by omega)]; have := HSR.out; subst this; congr 2; simp [List.getD]
  go_wp2_with fail
  rw [show S.length - 2 = R.length from by omega]
  clear HSL HSR HROW hS1 hS2
  have HNS : Hid (∀ k (h : k < pre.size), ((pre[k].toNat : Int) == 42) = false) := fun k h => pre_not s pre HPRE.out k h
  go_loop [7] (fun t => ∃ k : Nat, k ≤ pre.size ∧ t = .int .i64 k) (fun t => pre.size - (intOf t).toNat)
  case atStart => exact ⟨0, Nat.zero_le _, rfl⟩
  case round =>
    obtain ⟨k, hk, rfl⟩ := hrel
    by_cases hlt : k < pre.size
    · have hb := HNS.out k hlt
      go_wp2_with fail
      go_round
      case rel => exact ⟨k + 1, by omega, by go_num⟩
      case measure => simp [intOf]; omega
    · clear HNS
      obtain ⟨i5, hi5, hz50, hz51, hz52⟩ := info_parts info5
      have HTK : Hid (∀ k, k < R.length → GP.okTok (R.getD k 0) ∧ (R.getD k 0 = 256 → k + 1 < R.length → R.getD (k + 1) 0 < 256)) := fun k h => toks_ok s R HRE.out k h
      have HFIN := hid_of (render_fin s pre R HPRE.out HRE.out)
      rw [HDR.out] at HFIN
      have hc0 := HRW.out 0 hRz
      have hr0 := rest_first s R HRE.out hRz
      generalize R.getD 0 0 = r0 at hc0 hr0
      go_wp2_with fail
      go_loop [8] (fun t => ∃ k : Nat, k ≤ R.length ∧ t = .int .i64 k) (fun t => R.length - (intOf t).toNat)
      case atStart => exact ⟨0, Nat.zero_le _, rfl⟩
      case round =>
        obtain ⟨k2, hk2, rfl⟩ := hrel
        by_cases hlt2 : k2 < R.length
        · have hc := HRW.out k2 hlt2
          obtain ⟨⟨t1, t2, t3⟩, t4⟩ := HTK.out k2 hlt2
          generalize R.getD k2 0 = z at hc t1 t2 t3 t4
          have n42 : (z == 42) = false := by simpa using t3
          clear t3
          by_cases h256 : z = 256
          · subst h256
            by_cases hn : k2 + 1 < R.length
            · have hc2 := HRW.out (k2 + 1) hn
              have hy := t4 rfl hn
              generalize R.getD (k2 + 1) 0 = y at hc2 hy
              clear t4
              go_wp2_with fail
              go_round
              case rel => exact ⟨k2 + 1, by omega, by go_num⟩
              case measure => simp [intOf]; omega
            · clear t4
              go_wp2_with fail
              go_round
              case rel => exact ⟨k2 + 1, by omega, by go_num⟩
              case measure => simp [intOf]; omega
          · have b256 : (z == 256) = false := by simpa using h256
            clear t4 h256
            go_wp2_with fail
            go_round
            case rel => exact ⟨k2 + 1, by omega, by go_num⟩
            case measure => simp [intOf]; omega
        · have tok0 : True := trivial
          go_wp2_with (at_make; have _t := tok0; refine wpList_make_own w2 rfl _ _ 32 rfl w2.heap.size 5 i5 (.int .u8 0) 1 Try.underlying32 hi5 hz50 hz51 .i64 .i64 _ (s.size + 1) rfl rfl (by omega) (by rw [hz52]; omega) (by unfold maxLen; omega) (Nat.le_refl _) ?_; intro W5 own5 gr5; have HO5 := hid_of own5; have HG5 : Hid (Below w2.heap.size w2 W5) := (Below.refl _ _).grown gr5 (Nat.le_refl _) (fun k hk => by cases hk); clear own5 gr5 tok0)
          go_loopw [9, 10] (fun o t wr => ∃ k : Nat, k ≤ pre.size ∧ t = .int .i64 k ∧ o = .slice (some ⟨w2.heap.size, 0, none⟩) k (s.size + 1) ∧ wr.ownsRow w2.heap.size 5 1 (.slice (some ⟨w2.heap.size, 0, none⟩) k (s.size + 1)) k (cB ((bs pre).take k)) ∧ Below w2.heap.size w2 wr) (fun _ t _ => pre.size - (intOf t).toNat)
          case atStart => exact ⟨0, Nat.zero_le _, rfl, rfl, HO5.out, HG5.out⟩
          case round =>
            obtain ⟨k3, hk3, rfl, rfl, ho3, hb3⟩ := hrel
            have HO3 := hid_of ho3
            have HB3 := hid_of hb3
            clear ho3 hb3 HO5 HG5
            by_cases hlt3 : k3 < pre.size
            · have tok1 : True := trivial
              have HCB := hid_of (cB_snoc pre k3 hlt3)
              go_wp2_with (at_builtin; have _t := tok1; refine wpList_append_fits (wr.alloc (.cells #[.int .u8 (pre[k3].toNat : Int)] 5)) rfl _ _ 32 rfl w2.heap.size 5 i5 1 Try.underlying32 hi5 hz51 w2.heap.size k3 (s.size + 1) _ rfl (HO3.out.alloc _) ⟨wr.heap.size, 0, none⟩ 1 1 [.int .u8 (pre[k3].toNat : Int)] rfl rfl (cell_one_new _ _ _) (by simp [Value.oneCell']) (by omega) ?_; intro W6 own6 gr6; have HO6 := hid_of own6; have HB6 : Hid (Below w2.heap.size w2 W6) := (HB3.out.alloc HB3.out.size _).grown gr6 (by have := HB3.out.size; simp; omega) (fun k hk => by simp at hk; omega); clear own6 gr6 tok1 HO3 HB3)
              go_roundw
              case rel => exact ⟨k3 + 1, by omega, by go_num, rfl, by rw [HCB.out]; exact HO6.out, HB6.out⟩
              case measure => simp [intOf]; omega
            · have hk3' : k3 = pre.size := by omega
              subst hk3'
              have HO4 : Hid (wr.ownsRow w2.heap.size 5 1 (.slice (some ⟨w2.heap.size, 0, none⟩) pre.size (s.size + 1)) pre.size (cB (bs pre ++ GP.render (R.take 0)))) := by
                have h := HO3.out
                rw [List.take_of_length_le (by rw [bs_length]; exact Nat.le_refl _)] at h
                unfold Hid
                rw [show bs pre ++ GP.render (R.take 0) = bs pre from by simp [GP.render]]
                exact h
              clear HO3
              go_wp2_with fail
              go_loopw [9, 11] (fun o t wr => ∃ k m : Nat, k ≤ R.length ∧ t = .int .i64 k ∧ m = pre.size + (GP.render (R.take k)).length ∧ o = .slice (some ⟨w2.heap.size, 0, none⟩) m (s.size + 1) ∧ wr.ownsRow w2.heap.size 5 1 (.slice (some ⟨w2.heap.size, 0, none⟩) m (s.size + 1)) m (cB (bs pre ++ GP.render (R.take k))) ∧ Below w2.heap.size w2 wr) (fun _ t _ => R.length - (intOf t).toNat)
              case atStart => exact ⟨0, pre.size, Nat.zero_le _, rfl, by simp [GP.render], rfl, HO4.out, HB3.out⟩
              case round =>
                obtain ⟨k4, m, hk4, rfl, hm, rfl, ho7, hb7⟩ := hrel
                have HO7 := hid_of ho7
                have HB7 := hid_of hb7
                have HM := hid_of hm
                have hle4 : m + 1 ≤ s.size := by have h1 := fin_len s pre R _ HFIN.out; have h2 := render_le R k4; simp at h1; omega
                clear ho7 hb7 HO4 HB3 hm
                have tok1 : True := trivial
                by_cases hlt4 : k4 < R.length
                · have hc := HRW.out k4 hlt4
                  have hg7 : ∀ o : Obj, (wr.alloc o).cell? ⟨g, k4, none⟩ = some (.int .i64 (R.getD k4 0)) := by
                    intro o
                    rw [(HB7.out.alloc HB7.out.size o).cell (p := ⟨g, k4, none⟩) hg6]; exact hc
                  have hg8 : wr.cell? ⟨g, k4, none⟩ = some (.int .i64 (R.getD k4 0)) := by
                    rw [HB7.out.cell (p := ⟨g, k4, none⟩) hg6]; exact hc
                  obtain ⟨⟨t1, t2, t3⟩, t4⟩ := HTK.out k4 hlt4
                  have HRT := hid_of (render_take R k4 hlt4)
                  have hle5 : m + (GP.render1 (R.getD k4 0)).length + 1 ≤ s.size := by
                    have h1 := fin_len s pre R _ HFIN.out; have h2 := render_le R (k4 + 1); have h3 := HM.out
                    rw [HRT.out, List.length_append] at h2; simp at h1; omega
                  clear hc t4
                  generalize R.getD k4 0 = z at hg7 hg8 t1 t2 t3 HRT hle5
                  by_cases h256 : z = 256
                  · subst h256
                    have e1 : (GP.render1 256).length = 1 := rfl
                    rw [e1] at hle5
                    clear hg7 e1
                    go_wp2_with (at_builtin; have _t := tok1; refine wpList_append_fits (wr.alloc (.cells #[.int .u8 42] 5)) rfl _ _ 32 rfl w2.heap.size 5 i5 1 Try.underlying32 hi5 hz51 w2.heap.size (m) (s.size + 1) _ rfl (HO7.out.alloc _) ⟨wr.heap.size, 0, none⟩ 1 1 [.int .u8 42] rfl rfl (cell_one_new _ _ _) (by simp [Value.oneCell']) (by omega) ?_; intro W8 own8 gr8; have HO8 := hid_of own8; have HB8 : Hid (Below w2.heap.size w2 W8) := (HB7.out.alloc HB7.out.size _).grown gr8 (by have := HB7.out.size; simp; omega) (fun k hk => by simp at hk; omega); clear own8 gr8 tok1 HO7 HB7)
                    go_roundw
                    case rel =>
                      refine ⟨k4 + 1, m + 1, by omega, by go_num, ?_, rfl, ?_, HB8.out⟩
                      · rw [HRT.out, List.length_append, HM.out]; rfl
                      · rw [HRT.out, ← List.append_assoc, cB_app]; exact HO8.out
                    case measure => simp [intOf]; omega
                  · have b256 : (z == 256) = false := by simpa using h256
                    by_cases h257 : z = 257
                    · subst h257
                      have e1 : (GP.render1 257).length = 2 := rfl
                      rw [e1] at hle5
                      have tok2 : True := trivial
                      clear hg7 e1
                      go_wp2_with (first
                        | (at_builtin; have _t := tok1; refine wpList_append_fits (wr.alloc (.cells #[.int .u8 42] 5)) rfl _ _ 32 rfl w2.heap.size 5 i5 1 Try.underlying32 hi5 hz51 w2.heap.size (m) (s.size + 1) _ rfl (HO7.out.alloc _) ⟨wr.heap.size, 0, none⟩ 1 1 [.int .u8 42] rfl rfl (cell_one_new _ _ _) (by simp [Value.oneCell']) (by omega) ?_; intro W8 own8 gr8; have HO8 := hid_of own8; have HB8 : Hid (Below w2.heap.size w2 W8) := (HB7.out.alloc HB7.out.size _).grown gr8 (by have := HB7.out.size; simp; omega) (fun k hk => by simp at hk; omega); clear own8 gr8 tok1 HO7 HB7)
                        | (at_builtin; have _t := tok2; refine wpList_append_fits (W8.alloc (.cells #[.int .u8 42] 5)) rfl _ _ 32 rfl w2.heap.size 5 i5 1 Try.underlying32 hi5 hz51 w2.heap.size (m + 1) (s.size + 1) _ rfl (HO8.out.alloc _) ⟨W8.heap.size, 0, none⟩ 1 1 [.int .u8 42] rfl rfl (cell_one_new _ _ _) (by simp [Value.oneCell']) (by omega) ?_; intro W9 own9 gr9; have HO9 := hid_of own9; have HB9 : Hid (Below w2.heap.size w2 W9) := (HB8.out.alloc HB8.out.size _).grown gr9 (by have := HB8.out.size; simp; omega) (fun k hk => by simp at hk; omega); clear own9 gr9 tok2 HO8 HB8))
                      go_roundw
                      case rel =>
                        refine ⟨k4 + 1, m + 1 + 1, by omega, by go_num, ?_, rfl, ?_, HB9.out⟩
                        · rw [HRT.out, List.length_append, HM.out]; rfl
                        · rw [HRT.out, ← List.append_assoc, cB_app]
                          have := HO9.out
                          rw [List.append_assoc] at this
                          exact this
                      case measure => simp [intOf]; omega
                    · have b257 : (z == 257) = false := by simpa using h257
                      have hz256 : z < 256 := by omega
                      have e0 := render_lit_byte z t1 hz256
                      have HCZ := hid_of (cB_byte z t1 hz256)
                      have hwz := wrap_u8 z t1 hz256
                      rw [e0] at hle5 HRT
                      simp only [List.length_singleton] at hle5
                      clear hg7 e0 h256 h257
                      go_wp2_with (at_builtin; have _t := tok1; refine wpList_append_fits (wr.alloc (.cells #[.int .u8 z] 5)) rfl _ _ 32 rfl w2.heap.size 5 i5 1 Try.underlying32 hi5 hz51 w2.heap.size (m) (s.size + 1) _ rfl (HO7.out.alloc _) ⟨wr.heap.size, 0, none⟩ 1 1 [.int .u8 z] rfl rfl (cell_one_new _ _ _) (by simp [Value.oneCell']) (by omega) ?_; intro W8 own8 gr8; have HO8 := hid_of own8; have HB8 : Hid (Below w2.heap.size w2 W8) := (HB7.out.alloc HB7.out.size _).grown gr8 (by have := HB7.out.size; simp; omega) (fun k hk => by simp at hk; omega); clear own8 gr8 tok1 HO7 HB7)
                      go_roundw
                      case rel =>
                        refine ⟨k4 + 1, m + 1, by omega, by go_num, ?_, rfl, ?_, HB8.out⟩
                        · rw [HRT.out, List.length_append, HM.out]; rfl
                        · rw [HRT.out, ← List.append_assoc, cB_app, HCZ.out]; exact HO8.out
                      case measure => simp [intOf]; omega
                · have HT : Hid (R.take k4 = R) := List.take_of_length_le (by omega)
                  have hmm : m + 1 = s.size := by have h1 := fin_len s pre R _ HFIN.out; have h3 := HM.out; rw [HT.out] at h3; simp at h1; omega
                  rw [HT.out] at HO7
                  clear hle4
                  go_wp2_with (at_builtin; have _t := tok1; refine wpList_append_fits (wr.alloc (.cells #[.int .u8 47] 5)) rfl _ _ 32 rfl w2.heap.size 5 i5 1 Try.underlying32 hi5 hz51 w2.heap.size (m) (s.size + 1) _ rfl (HO7.out.alloc _) ⟨wr.heap.size, 0, none⟩ 1 1 [.int .u8 47] rfl rfl (cell_one_new _ _ _) (by simp [Value.oneCell']) (by omega) ?_; intro W8 own8 gr8; have HO8 := hid_of own8; have HB8 : Hid (Below w2.heap.size w2 W8) := (HB7.out.alloc HB7.out.size _).grown gr8 (by have := HB7.out.size; simp; omega) (fun k hk => by simp at hk; omega); clear own8 gr8 tok1 HO7 HB7)
                  have HF := HFIN.out
                  simp only [if_true] at HF
                  have HO10 : Hid (W8.ownsRow w2.heap.size 5 1 (.slice (some ⟨w2.heap.size, 0, none⟩) s.size (s.size + 1)) s.size (cB (bs s))) := by
                    have h := HO8.out
                    rw [hmm] at h
                    unfold Hid
                    rw [← HF, cB_app]
                    exact h
                  have HS := hid_of (same_yes w2.heap.size (s.size + 1) s W8 (by omega) (same_cells s W8 _ _ _ HO10.out))
                  clear HF HO10 HO8
                  refine HS.out.mono ?_
                  rintro e w9 ⟨rfl, n9, hw9⟩
                  have HFB : Hid (Below w.heap.size w w9) := by
                    rw [hw9]
                    have := HB2.out.trans (HB8.out.mono HB2.out.size)
                    exact ⟨this.os, this.tape, this.output, this.size, this.block⟩
                  clear hw9
                  go_wp2_with fail
                  go_ret
                  exact ⟨rfl, HFB.out⟩

end Go.Proofs.Qxb6603042a
