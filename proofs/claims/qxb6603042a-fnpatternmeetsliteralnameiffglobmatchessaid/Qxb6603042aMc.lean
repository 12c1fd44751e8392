/- Walks: whole. -/
import Derived.Test.Qxb6603042aMb
import Derived.Test.Qxb6603042aWd
namespace Go.Proofs.Qxb6603042a.M
open Go.RowKit

/-- The whole of a pattern's steps. -/
def litsOf (l : List UInt8) : List Int := l.map fun b => (b.toNat : Int)
theorem litsOf_length (l : List UInt8) : (litsOf l).length = l.length := by simp [litsOf]
theorem litsOf_take (l : List UInt8) (k : Nat) (h : k < l.length) : litsOf (l.take k) ++ [(l[k].toNat : Int)] = litsOf (l.take (k + 1)) := by
  rw [List.take_succ_eq_append_getElem h]; unfold litsOf; rw [List.map_append]; rfl

theorem own_cells {w : World} {base : Nat} {e : TypeId} {a : Option Addr} {n c : Nat} {xs : List Value} (h : w.ownsRow base e 1 (.slice a n c) n xs) :
    (a = none → n = 0 ∧ c = 0) ∧ ∀ ad, a = some ad → (base ≤ ad.block ∧ ad.block < w.heap.size) ∧ ∀ j u, xs[j]? = some u → w.cell? (ad.add j) = some u := by
  have hl := h.lt
  have hc := @World.ownsRow.cells _ _ _ _ _ _ _ h
  rcases h.2 with ⟨h1, h2⟩ | ⟨g, cap, cur, h1, hb, _⟩
  · cases h1
    exact ⟨fun _ => ⟨rfl, rfl⟩, fun ad e => by cases e⟩
  · cases h1
    refine ⟨fun e => (by cases e), fun ad e => ?_⟩
    cases e
    exact ⟨hl g rfl, hc rfl⟩

def Whole (pre : ByteArray) (xs : List Int) (w : World) (e : Ending) (w' : World) : Prop :=
  ∃ g c, e = .returned (.slice (some ⟨g, 0, none⟩) (pre.size + xs.length) c) ∧ w'.ownsRow (w.heap.size + 1) 35 1 (.slice (some ⟨g, 0, none⟩) (pre.size + xs.length) c) (pre.size + xs.length) (cI (litsOf (bs pre) ++ xs)) ∧ Below w.heap.size w w'

set_option maxHeartbeats 1000000 in
theorem whole_any (pre : ByteArray) (a : Option Addr) (sc base : Nat) (d : Bool) (xs : List Int) (w : World) (hp : pre.size ≤ 70000) (hn : xs.length ≤ 70000) (hown : w.ownsRow base 35 1 (.slice a xs.length sc) xs.length (cI xs)) :
    Calls Try.prog 26 #[.agg #[.string pre, .slice a xs.length sc, .bool d]] w fun e w' => Whole pre xs w e w' := by
  obtain ⟨i35, hi, hz0, hz1, hz2⟩ := info_parts info35
  have HS := hid_of hown
  clear hown
  have tok0 : True := trivial
  go_enter Try.func26, Try.ntmps26
  go_wp2_with (at_make; have _t := tok0; refine wpList_make_own _ rfl _ _ 24 rfl (w.heap.size + 1) 35 i35 (.int .i64 0) 1 Try.underlying24 hi hz0 hz1 .i64 .i64 _ (pre.size + xs.length) rfl rfl (by omega) (by rw [hz2]; omega) (by unfold maxLen; omega) (by simp) ?_; intro W5 own5 gr5; have HO5 := hid_of own5; have HG5 : Hid (Below (w.heap.size + 1) (w.alloc (.cells #[.string pre, .slice a xs.length sc, .bool d] 26)) W5) := (Below.refl _ _).grown gr5 (by simp) (fun k hk => by cases hk); clear own5 gr5 tok0)
  have hza : (w.alloc (.cells #[.string pre, .slice a xs.length sc, .bool d] 26)).heap.size = w.heap.size + 1 := by simp
  rw [hza] at HO5
  clear hza
  go_loopw [3, 4] (fun o t wr => ∃ k : Nat, k ≤ pre.size ∧ t = .int .i64 k ∧ o = .slice (some ⟨w.heap.size + 1, 0, none⟩) k (pre.size + xs.length) ∧ wr.ownsRow (w.heap.size + 1) 35 1 (.slice (some ⟨w.heap.size + 1, 0, none⟩) k (pre.size + xs.length)) k (cI (litsOf ((bs pre).take k))) ∧ Below (w.heap.size + 1) (w.alloc (.cells #[.string pre, .slice a xs.length sc, .bool d] 26)) wr) (fun _ t _ => pre.size - (intOf t).toNat)
  case atStart => exact ⟨0, Nat.zero_le _, rfl, rfl, HO5.out, HG5.out⟩
  case round =>
    obtain ⟨k, hk, rfl, rfl, ho3, hb3⟩ := hrel
    have HO3 := hid_of ho3
    have HB3 := hid_of hb3
    have hbox : wr.heap[w.heap.size]? = some (.cells #[.string pre, .slice a xs.length sc, .bool d] 26 (0, 0)) := by rw [hb3.block _ (Nat.lt_succ_self _)]; exact heap_alloc_new w _
    obtain ⟨⟨q0, q1, q2⟩, _⟩ := cells3 hbox
    clear hbox ho3 hb3 HO5 HG5
    by_cases hlt : k < pre.size
    · have HT := hid_of (litsOf_take (bs pre) k (by rw [bs_length]; exact hlt))
      rw [get_bs pre k hlt] at HT
      have tok1 : True := trivial
      have hwr : IntKind.i64.wrap (pre[k].toNat : Int) = (pre[k].toNat : Int) := by rw [IntKind.wrap_i64]; have := pre[k].toNat_lt; omega
      go_wp2_with (at_builtin; have _t := tok1; refine wpList_append_fits (wr.alloc (.cells #[.int .i64 (pre[k].toNat : Int)] 35)) rfl _ _ 24 rfl (w.heap.size + 1) 35 i35 1 Try.underlying24 hi hz1 (w.heap.size + 1) k (pre.size + xs.length) _ rfl (HO3.out.alloc _) ⟨wr.heap.size, 0, none⟩ 1 1 [.int .i64 (pre[k].toNat : Int)] rfl rfl (cell_one_new _ _ _) (by simp [Value.oneCell']) (by omega) ?_; intro W6 own6 gr6; have HO6 := hid_of own6; have HB6 : Hid (Below (w.heap.size + 1) (w.alloc (.cells #[.string pre, .slice a xs.length sc, .bool d] 26)) W6) := (HB3.out.alloc (by have := HB3.out.size; simp at this; omega) _).grown gr6 (by have := HB3.out.size; simp at this ⊢; omega) (fun k hk => by simp at hk; omega); clear own6 gr6 tok1 HO3 HB3)
      go_roundw
      case rel => exact ⟨k + 1, by omega, by go_num, rfl, by rw [← HT.out]; simpa [cI] using HO6.out, HB6.out⟩
      case measure => simp [intOf]; omega
    · have hk' : k = pre.size := by omega
      subst hk'
      have tok1 : True := trivial
      have hcs := own_cells HS.out
      have hsrc : ∀ ad, a = some ad → ∀ j u, (cI xs)[j]? = some u → wr.cell? (ad.add j) = some u := by
        intro ad had j u hu
        obtain ⟨⟨_, h2⟩, h3⟩ := hcs.2 ad had
        have hb : (ad.add j).block = ad.block := by unfold Addr.add; split <;> rfl
        rw [HB3.out.cell (p := ad.add j) (by omega)]
        rw [((Below.refl w.heap.size w).alloc (Nat.le_refl _) _).cell (p := ad.add j) (by omega)]
        exact h3 j u hu
      have hlen : (cI xs).length = xs.length := by simp [cI]
      have HC := hid_of hsrc
      have HN := hid_of hcs.1
      clear hcs hsrc
      go_wp2_with (at_builtin; have _t := tok1; refine wpList_append_fits_any wr rfl _ _ 24 rfl (w.heap.size + 1) 35 i35 1 Try.underlying24 hi hz1 (w.heap.size + 1) pre.size (pre.size + xs.length) _ rfl HO3.out a xs.length sc (cI xs) rfl (by omega) HN.out HC.out (by simp [cI, Value.oneCell']) (by omega) ?_; intro W6 own6 gr6; have HO6 := hid_of own6; have HB6 : Hid (Below (w.heap.size + 1) (w.alloc (.cells #[.string pre, .slice a xs.length sc, .bool d] 26)) W6) := HB3.out.grown gr6 (by have := HB3.out.size; simp at this ⊢; omega) (fun k hk => by simp at hk; omega); clear own6 gr6 tok1 HO3 HB3)
      go_ret
      refine ⟨_, _, rfl, ?_, ?_⟩
      · have h := HO6.out
        rw [List.take_of_length_le (by rw [bs_length]; exact Nat.le_refl _)] at h
        rw [show cI (litsOf (bs pre) ++ xs) = cI (litsOf (bs pre)) ++ cI xs from by simp [cI]]
        exact h
      · exact ((Below.refl _ _).alloc (Nat.le_refl _) _).trans (HB6.out.mono (Nat.le_succ _))
end Go.Proofs.Qxb6603042a.M
