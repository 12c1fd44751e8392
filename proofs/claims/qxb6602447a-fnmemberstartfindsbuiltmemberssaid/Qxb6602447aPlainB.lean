/- Plain laws of the built object. -/
import Derived.Test.Qxb6602447aPlain
namespace JF

/-- The object that the law builds. -/
def built (o v n : List Int) : List Int := 123 :: 34 :: (o ++ 34 :: 58 :: (v ++ 44 :: 34 :: (n ++ [34, 58, 48, 125])))

theorem built_length (o v n : List Int) : (built o v n).length = o.length + v.length + n.length + 10 := by
  simp [built]; omega

theorem getD_of_drop {d t : List Int} {k : Nat} {c : Int} (h : d.drop k = c :: t) : d.getD k 0 = c := by
  have : (d.drop k).getD 0 0 = c := by rw [h]; rfl
  simpa [List.getD, List.getElem?_drop] using this

theorem skip_cons {c : Int} {t : List Int} (h : sp c = false) : skip (c :: t) = 0 := by
  rw [skip, if_neg (by rw [h]; simp)]

theorem drop_len (a b : List Int) : (a ++ b).drop a.length = b := by simp
theorem drop_one (a b : List Int) (c : Int) : (a ++ c :: b).drop (a.length + 1) = b := by
  rw [show a ++ c :: b = (a ++ [c]) ++ b from by simp, show a.length + 1 = (a ++ [c]).length from by simp]; exact drop_len _ _

section
variable (o v n : List Int)
theorem drop2 : (built o v n).drop 2 = o ++ 34 :: 58 :: (v ++ 44 :: 34 :: (n ++ [34, 58, 48, 125])) := rfl
theorem dropA : (built o v n).drop (o.length + 3) = 58 :: (v ++ 44 :: 34 :: (n ++ [34, 58, 48, 125])) := by
  rw [show o.length + 3 = 2 + (o.length + 1) from by omega, ← List.drop_drop, drop2, drop_one]
theorem dropB : (built o v n).drop (o.length + 4) = v ++ 44 :: 34 :: (n ++ [34, 58, 48, 125]) := by
  rw [show o.length + 4 = o.length + 3 + 1 from by omega, ← List.drop_drop, dropA]; rfl
theorem dropC : (built o v n).drop (o.length + 4 + v.length) = 44 :: 34 :: (n ++ [34, 58, 48, 125]) := by
  rw [← List.drop_drop, dropB, drop_len]
theorem dropD : (built o v n).drop (o.length + 4 + v.length + 1) = 34 :: (n ++ [34, 58, 48, 125]) := by
  rw [← List.drop_drop, dropC]; rfl
theorem dropE : (built o v n).drop (o.length + 4 + v.length + 2) = n ++ [34, 58, 48, 125] := by
  rw [← List.drop_drop, dropC]; rfl
theorem dropF : (built o v n).drop (o.length + 4 + v.length + 2 + n.length + 1) = [58, 48, 125] := by
  rw [← List.drop_drop, ← List.drop_drop, dropE, drop_len]; rfl
theorem dropG : (built o v n).drop (o.length + 4 + v.length + 2 + n.length + 1 + 1) = [48, 125] := by
  rw [← List.drop_drop, dropF]; rfl
end

end JF
