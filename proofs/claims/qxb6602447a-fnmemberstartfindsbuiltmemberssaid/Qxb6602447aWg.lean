/- ZZMemberStart and ZZValueEnd at the built object. -/
import Derived.Test.Qxb6602447aWf
import Derived.Test.Qxb6602447aPlainB
namespace Go.Proofs.Qxb6602447a
open Go.RowKit

/-- A text's bytes as numbers. -/
def ints (s : ByteArray) : List Int := s.data.toList.map fun c => (c.toNat : Int)

theorem ints_length (s : ByteArray) : (ints s).length = s.size := by
  rw [ints, List.length_map, Array.length_toList]; rfl

theorem strOfNums_ints (s : ByteArray) : strOfNums (ints s) = s := by
  obtain ⟨⟨l⟩⟩ := s
  simp only [strOfNums, ints, List.map_map]
  congr 2
  rw [List.map_congr_left (g := id)]
  · simp
  · intro c _
    simp

theorem ints_clean (s : ByteArray) (h : dirty s.data.toList = false) : ∀ c ∈ ints s, c ≠ 34 ∧ c ≠ 92 := by
  intro c hc
  obtain ⟨x, hx, rfl⟩ := List.mem_map.1 hc
  have := List.any_eq_false.1 h x hx
  have e1 := byte_eq x 34 (by omega)
  have e2 := byte_eq x 92 (by omega)
  change (x == 34) = _ at e1
  change (x == 92) = _ at e2
  rw [e1, e2] at this
  simpa using this

theorem mem1 (o v n : List Int) (ho : ∀ c ∈ o, c ≠ 34 ∧ c ≠ 92) (c : Int) (t : List Int) (hv : v = c :: t) (hc : JF.sp c = false) : Mem (JF.built o v n) 1 (o.length + 3) := by
  refine ⟨by rw [JF.built_length]; omega, by omega, rfl, ?_, ?_, JF.getD_of_drop (JF.dropA o v n), ?_⟩
  · rw [show 1 + 1 = 2 from rfl, JF.drop2, JF.strE_clean _ _ ho]
    simp only [JF.ans]; omega
  · rw [JF.dropA]; exact JF.skip_cons rfl
  · rw [show o.length + 3 + 1 = o.length + 4 from rfl, JF.dropB, hv]; exact JF.skip_cons hc

theorem mem2 (o v n : List Int) (hn : ∀ c ∈ n, c ≠ 34 ∧ c ≠ 92) : Mem (JF.built o v n) (o.length + 4 + v.length + 1) (o.length + 4 + v.length + 2 + n.length + 1) := by
  refine ⟨by rw [JF.built_length]; omega, by omega, JF.getD_of_drop (JF.dropD o v n), ?_, ?_, JF.getD_of_drop (JF.dropF o v n), ?_⟩
  · rw [show o.length + 4 + v.length + 1 + 1 = o.length + 4 + v.length + 2 from rfl, JF.dropE, JF.strE_clean _ _ hn]
    simp only [JF.ans]; omega
  · rw [JF.dropF]; exact JF.skip_cons rfl
  · rw [JF.dropG]; exact JF.skip_cons rfl

theorem built_first (b cap : Nat) (s t : ByteArray) (v : List Int) (w : World) (hr : Row w b 0 (JF.built (ints s) v (ints t))) (hm : (JF.built (ints s) v (ints t)).length ≤ 4000000) (hcap : (JF.built (ints s) v (ints t)).length ≤ cap)
    (hs : dirty s.data.toList = false) (hv : JF.valE v = some v.length) :
    Calls Try.prog 25 #[.slice (some ⟨b, 0, none⟩) (JF.built (ints s) v (ints t)).length cap, .string s] w fun e w' => e = .returned (.tuple #[.int .i64 ((s.size : Int) + 4), .bool true]) ∧ w' = w := by
  obtain ⟨c, tl, hct⟩ : ∃ c tl, v = c :: tl := by
    cases v with
    | nil => simp [JF.valE] at hv
    | cons c tl => exact ⟨c, tl, rfl⟩
  have hc : JF.sp c = false := by rw [hct] at hv; exact JF.valE_head c tl _ hv
  have h := memberStart_first b 0 cap ((ints s).length + 3) (JF.built (ints s) v (ints t)) s w hr hm hcap (JF.skip_cons rfl) (JF.skip_cons rfl) rfl (mem1 _ _ _ (ints_clean s hs) c tl hct hc) (by
    rw [JF.drop2, Nat.add_sub_cancel, List.take_left, strOfNums_ints])
  refine h.mono fun e w' hh => ⟨?_, hh.2⟩
  rw [hh.1, ints_length, show ((s.size + 3 : Nat) : Int) + 1 = (s.size : Int) + 4 from by omega]

theorem built_second (b cap : Nat) (s t : ByteArray) (v : List Int) (w : World) (hr : Row w b 0 (JF.built (ints s) v (ints t))) (hb : Bytes (JF.built (ints s) v (ints t))) (hm : (JF.built (ints s) v (ints t)).length ≤ 4000000) (hcap : (JF.built (ints s) v (ints t)).length ≤ cap)
    (hs : dirty s.data.toList = false) (ht : dirty t.data.toList = false) (hne : (s.toList == t.toList) = false) (hv : JF.valE v = some v.length) :
    Calls Try.prog 25 #[.slice (some ⟨b, 0, none⟩) (JF.built (ints s) v (ints t)).length cap, .string t] w fun e w' => e = .returned (.tuple #[.int .i64 ((s.size : Int) + v.length + t.size + 8), .bool true]) ∧ ∃ n, w' = w.drewN n := by
  obtain ⟨c, tl, hct⟩ : ∃ c tl, v = c :: tl := by
    cases v with
    | nil => simp [JF.valE] at hv
    | cons c tl => exact ⟨c, tl, rfl⟩
  have hc : JF.sp c = false := by rw [hct] at hv; exact JF.valE_head c tl _ hv
  have h := memberStart_second b 0 cap ((ints s).length + 3) ((ints s).length + 4 + v.length) ((ints s).length + 4 + v.length + 2 + (ints t).length + 1) (JF.built (ints s) v (ints t)) t s w hr hb hm hcap (JF.skip_cons rfl) (JF.skip_cons rfl) rfl
    (mem1 _ _ _ (ints_clean s hs) c tl hct hc) (by rw [JF.drop2, Nat.add_sub_cancel, List.take_left, strOfNums_ints]) hne
    (by rw [show (ints s).length + 3 + 1 = (ints s).length + 4 from rfl, JF.dropB, JF.valE_app _ _ hv]; simp only [JF.ans]; omega) (by omega)
    (by rw [JF.dropC]; exact JF.skip_cons rfl) (JF.getD_of_drop (JF.dropC _ _ _)) (by rw [JF.dropD]; exact JF.skip_cons rfl)
    (mem2 _ _ _ (ints_clean t ht)) (by
      rw [JF.dropE, show (ints s).length + 4 + v.length + 2 + (ints t).length + 1 - 1 - ((ints s).length + 4 + v.length + 2) = (ints t).length from by omega, List.take_left, strOfNums_ints])
  refine h.mono fun e w' hh => ⟨?_, hh.2⟩
  rw [hh.1, ints_length, ints_length, show ((s.size + 4 + v.length + 2 + t.size + 1 : Nat) : Int) + 1 = (s.size : Int) + v.length + t.size + 8 from by omega]

set_option maxHeartbeats 400000 in
theorem zzMember_of (v s : Value) (w : World) (a : Int) (R : World → Prop) (h : Calls Try.prog 25 #[v, s] w fun e w' => e = .returned (.tuple #[.int .i64 a, .bool true]) ∧ R w') :
    Calls Try.prog 16 #[v, s] w fun e w' => e = .returned (.tuple #[.int .i64 a, .bool true]) ∧ R w' := by
  have H : Hid (Calls Try.prog 25 #[v, s] w fun e w' => e = .returned (.tuple #[.int .i64 a, .bool true]) ∧ R w') := h
  clear h
  go_enter Try.func16, Try.ntmps16
  go_wp2_with fail
  refine H.out.mono ?_
  rintro e w' ⟨rfl, hR⟩
  have HR : Hid (R w') := hR
  clear hR
  go_wp2_with fail
  go_ret2
  exact ⟨rfl, HR.out⟩

set_option maxHeartbeats 400000 in
theorem zzValue_of (v : Value) (i : Int) (w : World) (a : Int) (R : World → Prop) (h : Calls Try.prog 23 #[v, .int .i64 i] w fun e w' => e = .returned (.int .i64 a) ∧ R w') :
    Calls Try.prog 11 #[v, .int .i64 i] w fun e w' => e = .returned (.int .i64 a) ∧ R w' := by
  have H : Hid (Calls Try.prog 23 #[v, .int .i64 i] w fun e w' => e = .returned (.int .i64 a) ∧ R w') := h
  clear h
  go_enter Try.func11, Try.ntmps11
  go_wp2_with fail
  refine H.out.mono ?_
  rintro e w' ⟨rfl, hR⟩
  have HR : Hid (R w') := hR
  clear hR
  go_wp2_with fail
  go_ret
  exact ⟨rfl, HR.out⟩

end Go.Proofs.Qxb6602447a
