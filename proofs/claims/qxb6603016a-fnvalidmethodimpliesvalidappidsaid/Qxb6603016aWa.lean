/- Walks and plain laws: validMethod, validAppID, the token model. -/
import Derived.Test.Qxb6603016aRows
import Derived.WalkKit
import Derived.WalkSpells
import Derived.WalkLawsBesides
import Derived.Lib.Bytealg
namespace Go.Proofs.Qxb6603016a
open Go.RowKit

theorem ret_bool {a b : Bool} (h : a = b) : Ending.returned (.bool a) = .returned (.bool b) := by rw [h]
theorem hid_of {p : Prop} (h : p) : Hid p := h

/-! ### Plain -/
def letter (c : Int) : Bool := (decide (97 ≤ c) && decide (c ≤ 122)) || (decide (65 ≤ c) && decide (c ≤ 90)) || (decide (48 ≤ c) && decide (c ≤ 57))
def special (c : Int) : Bool := decide (0 ≤ Lib.indexByte [33, 35, 36, 37, 38, 39, 42, 43, 45, 46, 94, 95, 96, 124, 126] c.toNat.toUInt8)
def okM (c : Int) : Bool := letter c || special c
def hasB (l : List UInt8) (c : Int) : Bool := l.any fun x => ((x.toNat : Int) == c)
def okT (c : Int) : Bool := decide (33 ≤ c) && decide (c ≤ 126) && !hasB [34, 40, 41, 44, 47, 58, 59, 60, 61, 62, 63, 64, 91, 92, 93, 123, 125] c
def okA (c : Int) : Bool := !(decide (c ≤ 32)) && !(c == 127) && !(c == 58)

theorem okM_okT (c : Int) (h0 : 0 ≤ c) (h1 : c < 256) : okM c = okT c := by
  obtain ⟨n, rfl⟩ := Int.eq_ofNat_of_zero_le h0
  have key : ∀ n : Fin 256, okM (n.val : Int) = okT (n.val : Int) := by decide +kernel
  exact key ⟨n, by omega⟩
theorem okM_okA (c : Int) (h0 : 0 ≤ c) (h1 : c < 256) (h : okM c = true) : okA c = true := by
  obtain ⟨n, rfl⟩ := Int.eq_ofNat_of_zero_le h0
  have key : ∀ n : Fin 256, okM (n.val : Int) = true → okA (n.val : Int) = true := by decide +kernel
  exact key ⟨n, by omega⟩ h

/-- Every byte of a text passes a test. -/
def allB (p : Int → Bool) (l : List UInt8) : Bool := l.all fun c => p (c.toNat : Int)

theorem allB_congr {p q : Int → Bool} (h : ∀ c, 0 ≤ c → c < 256 → p c = q c) (l : List UInt8) : allB p l = allB q l := by
  unfold allB
  rw [List.all_congr rfl]
  intro c
  have := c.toNat_lt
  exact h _ (by omega) (by omega)
theorem allB_imp {p q : Int → Bool} (h : ∀ c, 0 ≤ c → c < 256 → p c = true → q c = true) (l : List UInt8) (hl : allB p l = true) : allB q l = true := by
  unfold allB at hl ⊢
  rw [List.all_eq_true] at hl ⊢
  intro c hc
  have := c.toNat_lt
  exact h _ (by omega) (by omega) (hl c hc)

theorem take_snoc (s : ByteArray) (k : Nat) (h : k < s.size) : s.data.toList.take (k + 1) = s.data.toList.take k ++ [s[k]] := by
  rw [List.take_succ_eq_append_getElem (by simpa using h)]; rfl
theorem allB_snoc (p : Int → Bool) (s : ByteArray) (k : Nat) (h : k < s.size) : allB p (s.data.toList.take (k + 1)) = (allB p (s.data.toList.take k) && p (s[k].toNat : Int)) := by
  rw [take_snoc s k h]; simp [allB]
theorem allB_miss (p : Int → Bool) (s : ByteArray) (k : Nat) (h : k < s.size) (hp : p (s[k].toNat : Int) = false) : allB p s.data.toList = false := by
  unfold allB
  rw [List.all_eq_false]
  exact ⟨s[k], List.getElem_mem (l := s.data.toList) (by simpa using h), by rw [hp]; simp⟩
theorem allB_end (p : Int → Bool) (s : ByteArray) (k : Nat) (h : s.size ≤ k) : allB p (s.data.toList.take k) = allB p s.data.toList := by
  rw [List.take_of_length_le (by simpa using h)]

theorem letter_yes {c : Int} (h : letter c = true) : (97 ≤ c ∧ c ≤ 122) ∨ (65 ≤ c ∧ c ≤ 90) ∨ (48 ≤ c ∧ c ≤ 57) := by
  simpa [letter, or_assoc] using h
theorem letter_no {c : Int} (h : letter c = false) : c < 48 ∨ (57 < c ∧ c < 65) ∨ (90 < c ∧ c < 97) ∨ 122 < c := by
  simp [letter] at h
  omega

/-! ### Walks -/
set_option maxHeartbeats 400000 in
theorem slIndexByte_any (s : ByteArray) (c : Int) (w : World) :
    Calls Try.prog 32 #[.string s, .int .u8 c] w fun e w' => e = .returned (.int .i64 (Lib.indexByte s.data.toList c.toNat.toUInt8)) ∧ w' = w := by
  go_enter Try.func32, Try.ntmps32
  go_wp2
  rw [run_callFunc_extern Try.func33 (by kernel_rfl) (by kernel_rfl) (by kernel_rfl) (e := Extern.BytealgIndexByte.indexByte) (by kernel_rfl), Lib.run_indexByteString]
  simp only [Result.andThen]
  rw [Oper.upon_value]
  go_wp2
  go_ret
  exact ⟨rfl, rfl⟩

set_option maxHeartbeats 400000 in
theorem indexByte_any (s : ByteArray) (c : Int) (w : World) :
    Calls Try.prog 30 #[.string s, .int .u8 c] w fun e w' => e = .returned (.int .i64 (Lib.indexByte s.data.toList c.toNat.toUInt8)) ∧ w' = w := by
  go_enter Try.func30, Try.ntmps30
  go_wp2_with (go_at_call 32; refine (slIndexByte_any _ _ _).mono ?_; rintro e w' ⟨rfl, rfl⟩)
  go_ret
  exact ⟨rfl, rfl⟩

/-- strings.IndexByte in the specials: a number of which only its sign is told. -/
theorem special_any (c : Int) (w : World) : Calls Try.prog 30 #[.string { data := #[33, 35, 36, 37, 38, 39, 42, 43, 45, 46, 94, 95, 96, 124, 126] }, .int .u8 c] w
    fun e w' => (∃ i : Int, e = .returned (.int .i64 i) ∧ decide (0 ≤ i) = special c) ∧ w' = w :=
  (indexByte_any _ c w).mono fun _ _ h => ⟨⟨_, h.1, rfl⟩, h.2⟩

set_option maxHeartbeats 400000 in
set_option maxRecDepth 100000 in
theorem validMethod_any (s : ByteArray) (w : World) (hs : s.size ≤ maxLen) :
    Calls Try.prog 28 #[.string s] w fun e w' => e = .returned (.bool (!s.toList.isEmpty && allB okM s.data.toList)) ∧ w' = w := by
  unfold maxLen at hs
  cases hem : s.toList.isEmpty with
  | true =>
    go_enter Try.func28, Try.ntmps28
    go_wp2_with fail
    go_ret
    exact ⟨rfl, rfl⟩
  | false =>
    simp only [Bool.not_false, Bool.true_and]
    generalize hA : allB okM s.data.toList = A
    have HA := hid_of hA
    clear hA
    go_enter Try.func28, Try.ntmps28
    go_wp2_with fail
    go_loop [3] (fun i => ∃ k : Nat, k ≤ s.size ∧ i = .int .i64 k ∧ allB okM (s.data.toList.take k) = true) (fun i => s.size - (intOf i).toNat)
    case atStart => exact ⟨0, Nat.zero_le _, rfl, by simp [allB]⟩
    case round =>
      obtain ⟨k, hk, rfl, hd⟩ := hrel
      have HD := hid_of hd
      clear hd
      by_cases hlt : k < s.size
      · have HN := hid_of (allB_snoc okM s k hlt)
        have HM := hid_of (allB_miss okM s k hlt)
        have hb := s[k].toNat_lt
        cases hle : letter (s[k].toNat : Int) with
        | true =>
          have HK : Hid (okM (s[k].toNat : Int) = true) := by unfold Hid okM; rw [hle]; rfl
          have hc := letter_yes hle
          clear hle HM
          rcases hc with ⟨h1, h2⟩ | ⟨h1, h2⟩ | ⟨h1, h2⟩
          all_goals
            go_wp2_with fail
            go_round
            case rel => exact ⟨k + 1, by omega, by go_num, by rw [HN.out, HD.out, HK.out]; rfl⟩
            case measure => simp [intOf]; omega
        | false =>
          have hc := letter_no hle
          cases hsp : special (s[k].toNat : Int) with
          | true =>
            have HK : Hid (okM (s[k].toNat : Int) = true) := by unfold Hid okM; rw [hsp, Bool.or_true]
            have HS := hid_of hsp
            clear hle hsp HM
            rcases hc with h1 | ⟨h1, h2⟩ | ⟨h1, h2⟩ | h1
            all_goals
              go_wp2_with (go_at_call 30; refine (special_any _ _).mono ?_; rintro e w' ⟨⟨i, rfl, hi⟩, rfl⟩; have hi2 : 0 ≤ i := (of_decide_eq_true (hi.trans HS.out)); clear hi)
              go_round
              case rel => exact ⟨k + 1, by omega, by go_num, by rw [HN.out, HD.out, HK.out]; rfl⟩
              case measure => simp [intOf]; omega
          | false =>
            have HK : Hid (allB okM s.data.toList = false) := HM.out (by unfold okM; rw [hsp, hle]; rfl)
            have HS := hid_of hsp
            clear hle hsp HM HN
            have b1 : 57 < (s[k].toNat : Int) → decide ((s[k].toNat : Int) ≤ 57) = false := fun h => by simpa using h
            have b2 : 90 < (s[k].toNat : Int) → decide ((s[k].toNat : Int) ≤ 90) = false := fun h => by simpa using h
            have b3 : 122 < (s[k].toNat : Int) → decide ((s[k].toNat : Int) ≤ 122) = false := fun h => by simpa using h
            rcases hc with h1 | ⟨h1, h2⟩ | ⟨h1, h2⟩ | h1
            all_goals
              first | replace b1 := b1 (by omega) | clear b1
              first | replace b2 := b2 (by omega) | clear b2
              first | replace b3 := b3 (by omega) | clear b3
              go_wp2_with (go_at_call 30; refine (special_any _ _).mono ?_; rintro e w' ⟨⟨i, rfl, hi⟩, rfl⟩; have hi2 : decide (0 ≤ i) = false := hi.trans HS.out; clear hi)
              go_ret
              exact ⟨ret_bool (by rw [← HA.out, HK.out]), rfl⟩
      · have HE := hid_of (allB_end okM s k (by omega))
        go_wp2_with fail
        go_ret
        exact ⟨ret_bool (by rw [← HA.out, ← HE.out, HD.out]), rfl⟩

end Go.Proofs.Qxb6603016a
