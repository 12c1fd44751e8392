/- meets: the setting up. -/
import Derived.Test.Qxb6603042aMh
namespace Go.Proofs.Qxb6603042a.M
open Go.RowKit
set_option linter.unusedVariables false

set_option maxRecDepth 8000 in
set_option maxHeartbeats 1000000 in
theorem meets_try (pre1 pre2 : ByteArray) (a1 a2 : Option Addr) (c1 c2 b1 b2 : Nat) (d1 d2 : Bool) (xs1 xs2 : List Int) (w : World) (hp1 : pre1.size ≤ 70000) (hp2 : pre2.size ≤ 70000) (hx1 : xs1.length ≤ 70000) (hx2 : xs2.length ≤ 70000) (la lb : Nat) (hla : la = pre1.size + xs1.length) (hlb : lb = pre2.size + xs2.length) (hla' : la ≤ 1100) (hlb' : lb ≤ 1100) (hn0 : ∀ x ∈ xs1, 0 ≤ x) (hn0' : ∀ x ∈ xs2, 0 ≤ x)
    (o1 : w.ownsRow b1 35 1 (.slice a1 xs1.length c1) xs1.length (cI xs1)) (o2 : w.ownsRow b2 35 1 (.slice a2 xs2.length c2) xs2.length (cI xs2))
    (heq : (bs pre1).take (min pre1.size pre2.size) = (bs pre2).take (min pre1.size pre2.size)) :
    Calls Try.prog 20 #[.agg #[.string pre1, .slice a1 xs1.length c1, .bool d1], .agg #[.string pre2, .slice a2 xs2.length c2, .bool d2]] w fun e w' => ∃ r, e = .returned (.bool r) ∧ Meets pre1 d1 xs1 pre2 d2 xs2 r ∧ Below w.heap.size w w' := by
  have hmin : min (pre1.size : Int) (pre2.size : Int) = ((min pre1.size pre2.size : Nat) : Int) := by omega
  have hl1 : min pre1.size pre2.size ≤ pre1.size := by omega
  have hl2 : min pre1.size pre2.size ≤ pre2.size := by omega
  have HM : Hid (∀ r, (r = true ↔ ∃ q, GP.Reach (litsOf (bs pre1) ++ xs1) (litsOf (bs pre2) ++ xs2) (min pre1.size pre2.size) q ∧ (endsAt la d1 q.1 && endsAt lb d2 q.2) = true) → Meets pre1 d1 xs1 pre2 d2 xs2 r) := by
    intro r hr; unfold Meets; rw [if_pos heq, ← hla, ← hlb]; exact hr
  generalize min pre1.size pre2.size = n at *
  have ht : ((pre1.extract 0 n).toList == (pre2.extract 0 n).toList) = true := by
    rw [toList_bs, toList_bs, extract_start, extract_start, bs_mk, bs_mk]
    simpa using heq
  have H1 := hid_of o1
  have H2 := hid_of o2
  clear o1 o2 heq
  go_enter Try.func20, Try.ntmps20
  go_wp2_with fail
  go_quiet (fail)
  go_upto_region 4 with fail
  generalize hwq : World.drewN _ _ = wq
  obtain ⟨hz, x1, x2, hb0⟩ := boxes _ _ _ _ _ hwq
  obtain ⟨⟨p0, p1, p2⟩, -⟩ := cells3 x1
  obtain ⟨⟨q0, q1, q2⟩, -⟩ := cells3 x2
  have X1 := hid_of x1
  have X2 := hid_of x2
  have H1' := hid_of (own_below H1.out hb0)
  have H2' := hid_of (own_below H2.out hb0)
  have B0 := hid_of hb0
  have Hz := hid_of hz
  clear hwq x1 x2 hb0 hz H1 H2
  go_cut [6, 7] (fun s6 s7 wx => ∃ gA cA gB cB, s6 = .slice (some ⟨gA, 0, none⟩) la cA ∧ s7 = .slice (some ⟨gB, 0, none⟩) lb cB ∧ wx.ownsRow (w.heap.size + 2) 35 1 (.slice (some ⟨gA, 0, none⟩) la cA) la (cI (litsOf (bs pre1) ++ xs1)) ∧ wx.ownsRow (w.heap.size + 2) 35 1 (.slice (some ⟨gB, 0, none⟩) lb cB) lb (cI (litsOf (bs pre2) ++ xs2)) ∧ Below (w.heap.size + 2) wq wx)
  case first =>
    have tok1 : True := trivial
    go_region_with (go_at_call 26; first
      | (have _t := tok1; refine (whole_any pre1 a1 c1 b1 d1 xs1 _ hp1 hx1 (by first | exact H1'.out | exact H1'.out.drew | exact H1'.out.drew.drew)).mono ?_; rintro e w1 ⟨gA, cA, rfl, hoA, hbA⟩; have hBA : Below wq.heap.size wq w1 := ⟨hbA.os, hbA.tape, hbA.output, hbA.size, hbA.block⟩; have BA := hid_of hBA; have OA := hid_of (show w1.ownsRow (wq.heap.size + 1) 35 1 _ _ _ from hoA); obtain ⟨⟨r0, r1, r2⟩, _⟩ := cells3 ((hBA.block (w.heap.size + 1) (by rw [Hz.out]; omega)).trans X2.out); have H2'' := hid_of (own_below H2'.out hBA); clear hoA hbA hBA tok1)
      | (refine (whole_any pre2 a2 c2 b2 d2 xs2 _ hp2 hx2 (by first | exact H2''.out | exact H2''.out.drew | exact H2''.out.drew.drew)).mono ?_; rintro e w2 ⟨gB, cB, rfl, hoB, hbB⟩; have hBB : Below w1.heap.size w1 w2 := ⟨hbB.os, hbB.tape, hbB.output, hbB.size, hbB.block⟩; have BB := hid_of hBB; have OB := hid_of (show w2.ownsRow (w1.heap.size + 1) 35 1 _ _ _ from hoB); clear hoB hbB hBB))
    all_goals
      go_wp2_with fail
      go_meet
      refine ⟨gA, cA, gB, cB, by rw [hla], by rw [hlb], ?_, ?_, ?_⟩
      · rw [hla]; exact own_le (own_below OA.out BB.out) (by rw [Hz.out]; omega)
      · rw [hlb]; exact own_le OB.out (by have := BA.out.size; rw [Hz.out] at this; omega)
      · rw [← Hz.out]; exact BA.out.trans (BB.out.mono BA.out.size)
  case rest =>
    obtain ⟨gA, cA, gB, cB, rfl, rfl, oA, oB, hb2⟩ := hcut
    have hAp := lits_pos (bs pre1) xs1 hn0
    have hBp := lits_pos (bs pre2) xs2 hn0'
    generalize litsOf (bs pre1) ++ xs1 = A at *
    generalize litsOf (bs pre2) ++ xs2 = B at *
    obtain ⟨-, -, hAl⟩ := static_rows oA (Below.refl _ _)
    obtain ⟨-, -, hBl⟩ := static_rows oB (Below.refl _ _)
    subst hAl
    subst hBl
    have HAp := hid_of hAp
    have HBp := hid_of hBp
    have hnA : n ≤ A.length := by omega
    have hnB : n ≤ B.length := by omega
    have HNA := hid_of hnA
    have HNB := hid_of hnB
    have HA1 := hid_of hla'
    have HB1 := hid_of hlb'
    clear hAp hBp hn0 hn0' hp1 hp2 hx1 hx2
    have hmul : ((A.length : Int) + 1) * ((B.length : Int) + 1) = (((A.length + 1) * (B.length + 1) : Nat) : Int) := by simp
    have hM : (A.length + 1) * (B.length + 1) ≤ 1212201 := Nat.le_trans (Nat.mul_le_mul (show A.length + 1 ≤ 1101 by omega) (show B.length + 1 ≤ 1101 by omega)) (by decide)
    have hmn : (n : Int) * ((B.length : Int) + 1) = ((n * (B.length + 1) : Nat) : Int) := by simp
    have hidx : n * (B.length + 1) + n < (A.length + 1) * (B.length + 1) := GP.idx_lt (p := (n, n)) (by show n ≤ A.length; omega) (by show n < B.length + 1; omega)
    have HMM := hid_of (Eq.refl ((A.length + 1) * (B.length + 1)))
    have HMN := hid_of (Eq.refl (n * (B.length + 1)))
    revert HMM HMN
    generalize hMdef : (A.length + 1) * (B.length + 1) = M at hmul hM hidx
    generalize hmdef : n * (B.length + 1) = m at hmn hidx
    intro HMM HMN
    have HMd := hid_of hMdef
    have Hmd := hid_of hmdef
    have hk0 : (0 : Int) ≤ (m : Int) + (n : Int) := by omega
    have hk1 : (m : Int) + (n : Int) < (M : Int) := by omega
    have hk2 : ((m : Int) + (n : Int)).toNat = m + n := by omega
    have hwmn : wrap64 ((m : Int) + (n : Int)) = (m : Int) + (n : Int) := by unfold wrap64; omega
    have hwm : IntKind.i64.wrap (((A.length : Int) + 1) * ((B.length : Int) + 1)) = (M : Int) := by clear hwmn; rw [hmul, IntKind.wrap_i64]; omega
    have hwn : IntKind.i64.wrap ((n : Int) * ((B.length : Int) + 1)) = (m : Int) := by clear hwm hwmn; rw [hmn, IntKind.wrap_i64]; omega
    have hmk := run_make_row' (P := Try.prog) 37 4 (.bool false) 1 Try.underlying37 info4 rfl .i64 .i64 M (by clear hwm hwn hwmn; omega) (by clear hwm hwn hwmn; omega)
    have OA := hid_of oA
    have OB := hid_of oB
    have B2 := hid_of hb2
    clear oA oB hb2 hmul hmn hMdef hmdef HMM HMN
    have hwm' : wrap64 (((A.length : Int) + 1) * ((B.length : Int) + 1)) = (M : Int) := wrap64_of hwm
    have hwn' : wrap64 ((n : Int) * ((B.length : Int) + 1)) = (m : Int) := wrap64_of hwn
    have HLA := hid_of hla
    have HLB := hid_of hlb
    clear hla hlb
    go_upto_region 8 with fail
    generalize hL : wc.heap.size + 1 = L
    have SZ0 := SR.start (wc.alloc (.cells #[.int .i64 ((B.length : Int) + 1)] 3)) L M n (by simp [hL])
    generalize hwz : World.alloc _ _ = wz
    have SZ : SR (wc.alloc (.cells #[.int .i64 ((B.length : Int) + 1)] 3)) wz L (List.replicate M false) (.slice (some ⟨L + 2, 0, none⟩) 1 1) (L + 2) 0 1 [(n, n)] := by rw [← hwz]; exact SZ0
    have w5c : (wc.alloc (.cells #[.int .i64 ((B.length : Int) + 1)] 3)).heap[wc.heap.size]? = some (.cells #[.int .i64 ((B.length : Int) + 1)] 3 (0, 0)) := heap_alloc_new wc _
    have w5b : Below wc.heap.size wc (wc.alloc (.cells #[.int .i64 ((B.length : Int) + 1)] 3)) := (Below.refl _ _).alloc (Nat.le_refl _) _
    have w5s : (wc.alloc (.cells #[.int .i64 ((B.length : Int) + 1)] 3)).heap.size = L := by simp [hL]
    clear SZ0 hwz
    generalize wc.alloc (.cells #[.int .i64 ((B.length : Int) + 1)] 3) = w5 at SZ w5c w5b w5s
    have c5 := (one_cell w5c).1
    have c8 : wz.cell? ⟨wc.heap.size, 0, none⟩ = some (.int .i64 ((B.length : Int) + 1)) := (SZ.bel.cell (p := ⟨wc.heap.size, 0, none⟩) (by show wc.heap.size < L; omega)).trans c5
    obtain ⟨z1, y1⟩ := one_cell SZ.hdr
    rw [List.length_replicate] at z1
    have cT : wz.cell? ⟨L, m + n, none⟩ = some (.bool false) := by
      rw [cell_of_row wz L (m + n) _ 4 (0, 0) SZ.row]
      simp [hidx]
    have fT : wz.frozen? ⟨L, m + n, none⟩ = false := Lib.frozen_of_heap SZ.row _
    have HSZ := hid_of SZ
    have HC5 := hid_of c5
    have HB5 := hid_of w5b
    have HS5 := hid_of w5s
    have hmf : ∀ (fn : Fn) (first cap : Array Value) (w : World), (Instr.makeFunc fn first cap).run Try.prog w = .ok (.func fn first cap) w := fun _ _ _ _ => rfl
    clear SZ w5c w5b w5s c5
    rw [show L + 1 + 1 + 1 = L + 3 from rfl]
    have HidL := hid_of hL
    have Hidx := hid_of hidx
    have HMle := hid_of hM
    clear hwm hwm' hmk hmin ht p0 p1 p2 q0 q1 q2 hl1 hl2 hL
    clear hM hla' hlb' hidx hnA hnB
    go_upto_region 9 with fail
    have S9 := hid_of (HSZ.out.mark (m + n))
    generalize World.setCell wz _ _ = w9 at *
    clear cT fT c8 z1 y1 HSZ hk0 hk1 hk2 hwmn hwn hwn'
    go_wp2_with fail
    have B5 := hid_of (B2.out.trans (HB5.out.mono (by have := B2.out.size; rw [Hz.out] at this; exact this)))
    have hkL : w.heap.size + 2 ≤ wc.heap.size := by have := B2.out.size; rw [Hz.out] at this; exact this
    obtain ⟨ra, lA, -⟩ := static_rows OA.out HB5.out
    obtain ⟨rb, lB, -⟩ := static_rows OB.out HB5.out
    have RA := hid_of ra
    have RB := hid_of rb
    have LA : gA < L := by have := HidL.out; omega
    have LB : gB < L := by have := HidL.out; omega
    have L8 : wc.heap.size < L := by have := HidL.out; omega
    have K1 := hid_of (show w5.heap[w.heap.size]? = _ from (B5.out.block w.heap.size (by omega)).trans X1.out)
    have K2 := hid_of (show w5.heap[w.heap.size + 1]? = _ from (B5.out.block (w.heap.size + 1) (by omega)).trans X2.out)
    have KB := hid_of (show Below w.heap.size w w5 from B0.out.trans (B5.out.mono (by omega)))
    have kL : w.heap.size + 1 < L := by omega
    generalize wc.heap.size = s8 at *
    clear ra rb lA lB B5 X1 X2 B0 B2 OA OB HB5 H1' H2'
    go_loopg [] M (fun gk wr => gk ≤ M ∧ RD w5 L A B n (fun i j => endsAt A.length d1 i && endsAt B.length d2 j) none [] gk (fun _ _ => True) wr)
    case atStart =>
      refine ⟨Nat.le_refl _, _, L + 2, [(n, n)], ⟨0, 1, S9.out⟩, ?_, ?_, trivial⟩
      · have := BI_start A B n (fun i j => endsAt A.length d1 i && endsAt B.length d2 j) HNA.out HNB.out
        unfold GP.idx at this
        simp only [HMd.out, Hmd.out] at this
        exact this
      · exact count_start M (m + n) Hidx.out
    case round =>
      obtain ⟨hgk, T, g, Q, ⟨off, cap, hsr⟩, hbi, hcnt, -⟩ := hrel
      have HGK := hid_of hgk
      clear hgk
      have HSR := hid_of hsr
      have HBI := hid_of hbi
      have HCT := hid_of hcnt
      obtain ⟨c3, f3⟩ := one_cell hsr.qh
      have hbel := hsr.bel
      obtain ⟨⟨p0, p1, p2⟩, -⟩ := cells3 ((hbel.block w.heap.size (by omega)).trans K1.out)
      obtain ⟨⟨q0, q1, q2⟩, -⟩ := cells3 ((hbel.block (w.heap.size + 1) (by omega)).trans K2.out)
      cases Q with
      | nil =>
        have HF := hid_of (HBI.out.dry HNA.out HNB.out)
        have HBL := hid_of (KB.out.trans (hbel.mono (by omega)))
        clear hsr hbi hcnt hbel
        go_wp2_with fail
        go_ret
        refine ⟨false, rfl, HM.out false ?_, HBL.out⟩
        constructor
        · intro h; cases h
        · rintro ⟨q, hq, ha⟩
          rw [HF.out q hq] at ha; cases ha
      | cons p Q =>
        obtain ⟨pi, pj⟩ := p
        have k0 := (hsr.qc 0 (by simp)).1
        have k1 := (hsr.qc 0 (by simp)).2
        simp only [Nat.mul_zero, Nat.add_zero, List.getElem_cons_zero] at k0 k1
        simp only [List.length_cons] at c3
        have hlen : (0 : Int) < ((Q.length + 1 : Nat) : Int) := by omega
        clear hsr hbi hcnt hbel
        go_wp2_with fail
        go_quiet (fail)
        go_upto_region 13 with fail
        have hpop := HSR.out.popped nq
        generalize World.setCell (wr.drewN nq) _ _ = w13 at *
        obtain ⟨c, hc⟩ : ∃ c, c + 1 = gk := ⟨gk - 1, by have := HCT.out; simp at this; omega⟩
        have R0 : Hid (RD w5 L A B n (fun i j => endsAt A.length d1 i && endsAt B.length d2 j) (some (pi, pj)) [] c (fun _ _ => True) w13) :=
          ⟨T, g, Q, hpop, HBI.out.pop, by have := HCT.out; simp at this; omega, trivial⟩
        have HC := hid_of hc
        clear hpop hc c3 f3 p0 p1 p2 q0 q1 q2 k0 k1 hlen HSR HBI HCT
        obtain ⟨⟨p0, p1, p2⟩, -⟩ := cells3 ((R0.out.lower.block w.heap.size (by omega)).trans K1.out)
        obtain ⟨⟨q0, q1, q2⟩, -⟩ := cells3 ((R0.out.lower.block (w.heap.size + 1) (by omega)).trans K2.out)
        have hs1 : pre1.size ≤ 70000 := by have := HLA.out; have := HA1.out; omega
        have hs2 : pre2.size ≤ 70000 := by have := HLB.out; have := HB1.out; omega
        have hs3 : xs1.length ≤ 70000 := by have := HLA.out; have := HA1.out; omega
        have hs4 : xs2.length ≤ 70000 := by have := HLB.out; have := HB1.out; omega
        go_cut [81] (fun s81 wx => s81 = .bool (endsAt A.length d1 pi && endsAt B.length d2 pj) ∧ RD w5 L A B n (fun i j => endsAt A.length d1 i && endsAt B.length d2 j) (some (pi, pj)) [] c (fun _ _ => True) wx)
        case first =>
          cases he1 : endsAt A.length d1 pi with
          | false =>
            have tok1 : True := trivial
            go_wp2_with (go_at_call 28; have _t := tok1; refine (ends_any pre1 a1 xs1.length c1 d1 pi _ hs1 hs3).mono ?_; rintro e w14 ⟨rfl, hb⟩; rw [← HLA.out, he1]; have R1 := hid_of (R0.out.below hb (fun _ _ h => h)); clear hb tok1)
            all_goals
              go_meet
              exact ⟨by rw [he1]; rfl, R1.out⟩
          | true =>
            have tok1 : True := trivial
            go_wp2_with (go_at_call 28; first
              | (have _t := tok1; refine (ends_any pre1 a1 xs1.length c1 d1 pi _ hs1 hs3).mono ?_; rintro e w14 ⟨rfl, hb⟩; rw [← HLA.out, he1]; have R1 := hid_of (R0.out.below hb (fun _ _ h => h)); obtain ⟨⟨r0, r1, r2⟩, -⟩ := cells3 ((R1.out.lower.block (w.heap.size + 1) (by omega)).trans K2.out); clear hb tok1)
              | (refine (ends_any pre2 a2 xs2.length c2 d2 pj _ hs2 hs4).mono ?_; rintro e w15 ⟨rfl, hb⟩; rw [← HLB.out]; have R2 := hid_of (R1.out.below hb (fun _ _ h => h)); clear hb))
            all_goals
              go_meet
              exact ⟨by rw [he1]; rfl, R2.out⟩
        case rest =>
          obtain ⟨rfl, R1⟩ := hcut
          have HR1 := hid_of R1
          clear R1 R0 p0 p1 p2 q0 q1 q2
          cases hacc : (endsAt A.length d1 pi && endsAt B.length d2 pj) with
          | true =>
            go_wp2_with fail
            go_ret
            obtain ⟨T', g', Q', h1, h2, -, -⟩ := HR1.out
            refine ⟨true, rfl, HM.out true ⟨fun _ => ⟨(pi, pj), (h2.curIn _ rfl).2.2, hacc⟩, fun _ => rfl⟩, KB.out.trans (h1.lower.mono (by omega))⟩
          | false =>
            have hcur : pi ≤ A.length ∧ pj ≤ B.length := by obtain ⟨T', g', Q', h1, h2, -, -⟩ := HR1.out; exact ⟨(h2.curIn _ rfl).1, (h2.curIn _ rfl).2.1⟩
            have PA := hid_of (place_of HAp.out hcur.1)
            have PB := hid_of (place_of HBp.out hcur.2)
            have HCU := hid_of hcur
            clear hcur hs1 hs2 hs3 hs4
            have raA := hid_of (RA.out.below HR1.out.lower LA)
            go_upto_region 15 with fail
            go_cut [92] (fun s92 wx => s92 = .bool (GP.wild A pi) ∧ RD w5 L A B n (fun i j => endsAt A.length d1 i && endsAt B.length d2 j) (some (pi, pj)) [] c (fun _ _ => True) wx)
            case first =>
              have hla1 : A.length ≤ 1100 := HA1.out
              rcases PA.out with hE | ⟨hi, hx0, hx1⟩ | ⟨hi, hx1⟩
              · have hwd : GP.wild A pi = false := by rw [hE]; simp [GP.wild]
                subst hE
                go_wp2_with fail
                all_goals
                  go_meet
                  exact ⟨by first | (rw [hwd]; done) | (rw [hwd]; simp; omega), HR1.out⟩
              · have hwd : GP.wild A pi = false := by simp only [GP.wild, Bool.and_eq_false_iff, decide_eq_false_iff_not]; exact .inr (by omega)
                have hca := raA.out pi hi
                have hlt : (pi : Int) < (A.length : Int) := by omega
                generalize A.getD pi 0 = x at *
                clear hi hx0
                go_wp2_with fail
                all_goals
                  go_meet
                  exact ⟨by first | (rw [hwd]; done) | (rw [hwd]; simp; omega), HR1.out⟩
              · have hwd : GP.wild A pi = true := by simp only [GP.wild, Bool.and_eq_true, decide_eq_true_eq]; exact ⟨hi, hx1⟩
                have hca := raA.out pi hi
                have hlt : (pi : Int) < (A.length : Int) := by omega
                generalize A.getD pi 0 = x at *
                clear hi
                go_wp2_with fail
                all_goals
                  go_meet
                  exact ⟨by first | (rw [hwd]; done) | (rw [hwd]; simp; omega), HR1.out⟩
            case rest =>
            obtain ⟨rfl, R2⟩ := hcut
            have HR3a0 := hid_of R2
            clear R2 HR1 raA
            go_upto_if 92 with fail
            go_cut [] (fun wx => RD w5 L A B n (fun i j => endsAt A.length d1 i && endsAt B.length d2 j) (some (pi, pj)) (if GP.wild A pi then [(pi + 1, pj)] else []) c (fun _ _ => True) wx)
            case first =>
              cases hwa : GP.wild A pi with
              | false =>
                go_wp2_with fail
                all_goals
                  go_meet
                  rw [hwa]
                  simpa using HR3a0.out
              | true =>
                have hsu : (pi + 1, pj) ∈ GP.succ A B pi pj := by unfold GP.succ; rw [hwa]; simp
                have hpi : pi ≤ 1100 := by have := HCU.out; have := HA1.out; omega
                have HSU := hid_of hsu
                clear hsu
                go_wp2_with (go_at_call 27; refine (reach_rd HR3a0.out s8 HC5.out L8 HA1.out HB1.out (by have := HGK.out; have := HMle.out; have := HC.out; omega) (pi + 1) (pj) HSU.out (fun _ _ _ _ _ _ => trivial)).mono ?_; rintro e w16 ⟨rfl, R3⟩; have HR3 := hid_of R3; clear R3)
                all_goals
                  go_meet
                  rw [hwa]
                  simpa using HR3.out
            case rest =>
            have HR3a := hid_of hcut
            clear hcut HR3a0
            have raB := hid_of (RB.out.below HR3a.out.lower LB)
            go_upto_region 17 with fail
            go_cut [108] (fun s108 wx => s108 = .bool (GP.wild B pj) ∧ RD w5 L A B n (fun i j => endsAt A.length d1 i && endsAt B.length d2 j) (some (pi, pj)) (if GP.wild A pi then [(pi + 1, pj)] else []) c (fun _ _ => True) wx)
            case first =>
              have hla1 : B.length ≤ 1100 := HB1.out
              rcases PB.out with hE | ⟨hi, hx0, hx1⟩ | ⟨hi, hx1⟩
              · have hwd : GP.wild B pj = false := by rw [hE]; simp [GP.wild]
                subst hE
                go_wp2_with fail
                all_goals
                  go_meet
                  exact ⟨by first | (rw [hwd]; done) | (rw [hwd]; simp; omega), HR3a.out⟩
              · have hwd : GP.wild B pj = false := by simp only [GP.wild, Bool.and_eq_false_iff, decide_eq_false_iff_not]; exact .inr (by omega)
                have hca := raB.out pj hi
                have hlt : (pj : Int) < (B.length : Int) := by omega
                generalize B.getD pj 0 = x at *
                clear hi hx0
                go_wp2_with fail
                all_goals
                  go_meet
                  exact ⟨by first | (rw [hwd]; done) | (rw [hwd]; simp; omega), HR3a.out⟩
              · have hwd : GP.wild B pj = true := by simp only [GP.wild, Bool.and_eq_true, decide_eq_true_eq]; exact ⟨hi, hx1⟩
                have hca := raB.out pj hi
                have hlt : (pj : Int) < (B.length : Int) := by omega
                generalize B.getD pj 0 = x at *
                clear hi
                go_wp2_with fail
                all_goals
                  go_meet
                  exact ⟨by first | (rw [hwd]; done) | (rw [hwd]; simp; omega), HR3a.out⟩
            case rest =>
            obtain ⟨rfl, R2⟩ := hcut
            have HR3b0 := hid_of R2
            clear R2 HR3a raB
            go_upto_if 108 with fail
            go_cut [] (fun wx => RD w5 L A B n (fun i j => endsAt A.length d1 i && endsAt B.length d2 j) (some (pi, pj)) ((if GP.wild A pi then [(pi + 1, pj)] else []) ++ if GP.wild B pj then [(pi, pj + 1)] else []) c (fun _ _ => True) wx)
            case first =>
              cases hwa : GP.wild B pj with
              | false =>
                go_wp2_with fail
                all_goals
                  go_meet
                  rw [hwa]
                  simpa using HR3b0.out
              | true =>
                have hsu : (pi, pj + 1) ∈ GP.succ A B pi pj := by unfold GP.succ; rw [hwa]; simp
                have hpi : pj ≤ 1100 := by have := HCU.out; have := HB1.out; omega
                have HSU := hid_of hsu
                clear hsu
                go_wp2_with (go_at_call 27; refine (reach_rd HR3b0.out s8 HC5.out L8 HA1.out HB1.out (by have := HGK.out; have := HMle.out; have := HC.out; omega) (pi) (pj + 1) HSU.out (fun _ _ _ _ _ _ => trivial)).mono ?_; rintro e w16 ⟨rfl, R3⟩; have HR3 := hid_of R3; clear R3)
                all_goals
                  go_meet
                  rw [hwa]
                  simpa using HR3.out
            case rest =>
            have HR3b := hid_of hcut
            clear hcut HR3b0
            go_upto_region 19 with fail
            have raA := hid_of (RA.out.below HR3b.out.lower LA)
            have raB := hid_of (RB.out.below HR3b.out.lower LB)
            have hla1 : A.length ≤ 70000 := by have := HA1.out; omega
            have hlb1 : B.length ≤ 70000 := by have := HB1.out; omega
            have hsz : gA < wc.heap.size ∧ gB < wc.heap.size := by
              obtain ⟨_, _, _, ⟨_, _, h⟩, -⟩ := HR3b.out
              have := h.size
              omega
            obtain ⟨xs, HXS⟩ : ∃ xs, GP.lits A pi B pj = xs := ⟨_, rfl⟩
            have HXO := hid_of (HXS ▸ lits_ok PA.out PB.out)
            have hxl : xs.length ≤ 2 := HXS ▸ lits_len A B pi pj
            have HX := hid_of HXS
            clear HXS
            go_wp2_with (go_at_call 29; refine (literals_any gA cA gB cB pi pj A B _ hla1 hlb1 raA.out raB.out hsz.1 hsz.2 PA.out PB.out).mono ?_; rintro e w18 ⟨v, rfl, hov, hb⟩; rw [HX.out] at hov; obtain ⟨ao, cv, rfl⟩ := own_form hov; have HR4 := hid_of (HR3b.out.lits hb hov); clear hov hb HR3b raA raB)
            go_loopg [120] xs.length (fun gk2 t wx => ∃ k : Nat, k ≤ xs.length ∧ t = .int .i64 k ∧ gk2 = xs.length - k ∧ RD w5 L A B n (fun i j => endsAt A.length d1 i && endsAt B.length d2 j) (some (pi, pj)) (((if GP.wild A pi then [(pi + 1, pj)] else []) ++ if GP.wild B pj then [(pi, pj + 1)] else []) ++ (xs.take k).flatMap (GP.succ3 A B pi pj)) c (LX L ao xs) wx)
            case atStart => exact ⟨0, Nat.zero_le _, rfl, rfl, by simpa using HR4.out⟩
            case round =>
              obtain ⟨k, hk, rfl, hgk2, hrd⟩ := hrel
              have HRD := hid_of hrd
              have HG2 := hid_of hgk2
              clear hrd hgk2 HR4
              by_cases hlt : k < xs.length
              · obtain ⟨h, hao, hcell⟩ : ∃ h, ao = some ⟨h, 0, none⟩ ∧ wr.cell? ⟨h, k, none⟩ = some (.int .u8 (xs.getD k 0)) := by
                  obtain ⟨_, _, _, _, _, _, hX⟩ := HRD.out
                  obtain ⟨h, h1, _, _, _, h5⟩ := hX k hlt
                  exact ⟨h, h1, h5⟩
                subst hao
                have hmem : xs.getD k 0 ∈ xs := by
                  rw [List.getD, List.getElem?_eq_getElem hlt]; exact List.getElem_mem hlt
                have hcc := HXO.out _ hmem
                have HMEM : Hid (xs.getD k 0 ∈ GP.lits A pi B pj) := by unfold Hid; rw [HX.out]; exact hmem
                have HTK := hid_of (take_flat (GP.succ3 A B pi pj) xs k hlt)
                clear hmem
                generalize xs.getD k 0 = cc at *
                have raA := hid_of (RA.out.below HRD.out.lower LA)
                have raB := hid_of (RB.out.below HRD.out.lower LB)
                obtain ⟨ni, ba, hadA⟩ : ∃ ni ba, GP.adv A pi cc = (ni, ba) := ⟨_, _, rfl⟩
                obtain ⟨nj, bb, hadB⟩ : ∃ nj bb, GP.adv B pj cc = (nj, bb) := ⟨_, _, rfl⟩
                cases ba with
                | false =>
                  have tok1 : True := trivial
                  have tok2 : True := trivial
                  have HS3 : Hid (GP.succ3 A B pi pj cc = []) := by unfold Hid GP.succ3; rw [hadA, hadB]; rfl
                  go_wp2_with (first
                    | (go_at_call 30; have _t := tok1; refine (advance_any gA cA pi A cc _ hla1 HCU.out.1 raA.out hcc.1 hcc.2).mono ?_; rintro e w' ⟨rfl, hw⟩; replace hw := hw.symm; subst hw; rw [hadA]; clear tok1)
                    | (go_at_call 30; have _t := tok2; refine (advance_any gB cB pj B cc _ hlb1 HCU.out.2 raB.out hcc.1 hcc.2).mono ?_; rintro e w' ⟨rfl, hw⟩; replace hw := hw.symm; subst hw; rw [hadB]; clear tok2))
                  all_goals
                    go_roundg (xs.length - (k + 1))
                    case rel =>
                      refine ⟨k + 1, by omega, by go_num, rfl, ?_⟩
                      rw [HTK.out, HS3.out, List.append_nil]
                      exact HRD.out
                    case measure => have := HG2.out; omega

                | true =>
                  cases bb with
                  | false =>
                    have tok1 : True := trivial
                    have tok2 : True := trivial
                    have HS3 : Hid (GP.succ3 A B pi pj cc = []) := by unfold Hid GP.succ3; rw [hadA, hadB]; rfl
                    go_wp2_with (first
                      | (go_at_call 30; have _t := tok1; refine (advance_any gA cA pi A cc _ hla1 HCU.out.1 raA.out hcc.1 hcc.2).mono ?_; rintro e w' ⟨rfl, hw⟩; replace hw := hw.symm; subst hw; rw [hadA]; clear tok1)
                      | (go_at_call 30; have _t := tok2; refine (advance_any gB cB pj B cc _ hlb1 HCU.out.2 raB.out hcc.1 hcc.2).mono ?_; rintro e w' ⟨rfl, hw⟩; replace hw := hw.symm; subst hw; rw [hadB]; clear tok2))
                    all_goals
                      go_roundg (xs.length - (k + 1))
                      case rel =>
                        refine ⟨k + 1, by omega, by go_num, rfl, ?_⟩
                        rw [HTK.out, HS3.out, List.append_nil]
                        exact HRD.out
                      case measure => have := HG2.out; omega

                  | true =>
                    have tok1 : True := trivial
                    have tok2 : True := trivial
                    have HS3 : Hid (GP.succ3 A B pi pj cc = [(ni, nj)]) := by unfold Hid GP.succ3; rw [hadA, hadB]; rfl
                    go_wp2_with (first
                      | (go_at_call 30; have _t := tok1; refine (advance_any gA cA pi A cc _ hla1 HCU.out.1 raA.out hcc.1 hcc.2).mono ?_; rintro e w' ⟨rfl, hw⟩; replace hw := hw.symm; subst hw; rw [hadA]; clear tok1)
                      | (go_at_call 30; have _t := tok2; refine (advance_any gB cB pj B cc _ hlb1 HCU.out.2 raB.out hcc.1 hcc.2).mono ?_; rintro e w' ⟨rfl, hw⟩; replace hw := hw.symm; subst hw; rw [hadB]; clear tok2)
                      | (go_at_call 27; refine (reach_rd HRD.out s8 HC5.out L8 HA1.out HB1.out (by have := HGK.out; have := HMle.out; have := HC.out; omega) ni nj (by show (ni, nj) ∈ GP.succ A B pi pj; exact succ3_in HMEM.out (by rw [HS3.out]; simp)) (fun g g' w' h hf hg => LX.reach g g' _ w' h hf hg)).mono ?_; rintro e w20 ⟨rfl, R5⟩; have HR5 := hid_of R5; clear R5))
                    all_goals
                      go_roundg (xs.length - (k + 1))
                      case rel =>
                        refine ⟨k + 1, by omega, by go_num, rfl, ?_⟩
                        rw [HTK.out, HS3.out, ← List.append_assoc]
                        exact HR5.out
                      case measure => have := HG2.out; omega

              · have hkk : k = xs.length := by omega
                subst hkk
                have HFIN : Hid (RD w5 L A B n (fun i j => endsAt A.length d1 i && endsAt B.length d2 j) none [] c (fun _ _ => True) wr) := by
                  obtain ⟨T', g', Q', h1, h2, h3, -⟩ := HRD.out
                  refine ⟨T', g', Q', h1, GP.BI.finish (p := (pi, pj)) ?_ hacc, h3, trivial⟩
                  have e : GP.succ A B pi pj = ((if GP.wild A pi then [(pi + 1, pj)] else []) ++ if GP.wild B pj then [(pi, pj + 1)] else []) ++ (xs.take xs.length).flatMap (GP.succ3 A B pi pj) := by
                    rw [List.take_length, ← HX.out]; rfl
                  rw [e]; exact h2
                clear HRD
                go_wp2_with fail
                all_goals
                  go_roundg c
                  case rel => exact ⟨by have := HGK.out; have := HC.out; omega, HFIN.out⟩
                  case measure => have := HC.out; omega
end Go.Proofs.Qxb6603042a.M
