/- Plain laws of the filled lines. -/
import Derived.Test.Qxb6602716aPlain
namespace CL

/-- The filled lines from a place on: each with its number, the place behind it, its text. -/
def ent (T : List UInt8) : Nat → Nat → Nat → List (Nat × Nat × List UInt8)
  | 0, _, _ => []
  | n + 1, off, k =>
    match nl (T.drop off) with
    | none => []
    | some (m, r) => (if r = [] then [] else [(k + 1, off + m, r)]) ++ ent T n (off + m) (k + 1)

/-- The number of the last line. -/
def tot (T : List UInt8) : Nat → Nat → Nat → Nat
  | 0, _, k => k
  | n + 1, off, k =>
    match nl (T.drop off) with
    | none => k
    | some (m, _) => tot T n (off + m) (k + 1)

theorem ent_fuel (T : List UInt8) : ∀ (n n' off k : Nat), T.length < n + off → T.length < n' + off → off ≤ T.length → ent T n off k = ent T n' off k
  | 0, _, off, _, h, _, ho => by omega
  | _ + 1, 0, off, _, _, h, ho => by omega
  | n + 1, n' + 1, off, k, h, h', ho => by
    rw [ent, ent]
    cases hn : nl (T.drop off) with
    | none => rfl
    | some p =>
      obtain ⟨m, r⟩ := p
      obtain ⟨h1, h2, _⟩ := nl_bd hn
      rw [List.length_drop] at h2
      simp only
      rw [ent_fuel T n n' (off + m) (k + 1) (by omega) (by omega) (by omega)]

theorem tot_fuel (T : List UInt8) : ∀ (n n' off k : Nat), T.length < n + off → T.length < n' + off → off ≤ T.length → tot T n off k = tot T n' off k
  | 0, _, off, _, h, _, ho => by omega
  | _ + 1, 0, off, _, _, h, ho => by omega
  | n + 1, n' + 1, off, k, h, h', ho => by
    rw [tot, tot]
    cases hn : nl (T.drop off) with
    | none => rfl
    | some p =>
      obtain ⟨m, r⟩ := p
      obtain ⟨h1, h2, _⟩ := nl_bd hn
      rw [List.length_drop] at h2
      simp only
      rw [tot_fuel T n n' (off + m) (k + 1) (by omega) (by omega) (by omega)]

def E (T : List UInt8) (off k : Nat) : List (Nat × Nat × List UInt8) := ent T (T.length + 1 - off) off k
def N (T : List UInt8) (off k : Nat) : Nat := tot T (T.length + 1 - off) off k

theorem E_none {T : List UInt8} {off k : Nat} (ho : off ≤ T.length) (h : nl (T.drop off) = none) : E T off k = [] := by
  unfold E
  rw [show T.length + 1 - off = (T.length - off) + 1 from by omega, ent, h]
theorem E_some {T : List UInt8} {off k m : Nat} {r : List UInt8} (ho : off ≤ T.length) (h : nl (T.drop off) = some (m, r)) :
    E T off k = (if r = [] then [] else [(k + 1, off + m, r)]) ++ E T (off + m) (k + 1) := by
  obtain ⟨h1, h2, _⟩ := nl_bd h
  rw [List.length_drop] at h2
  unfold E
  rw [show T.length + 1 - off = (T.length - off) + 1 from by omega, ent, h]
  simp only
  rw [ent_fuel T (T.length - off) (T.length + 1 - (off + m)) (off + m) (k + 1) (by omega) (by omega) (by omega)]
theorem N_none {T : List UInt8} {off k : Nat} (ho : off ≤ T.length) (h : nl (T.drop off) = none) : N T off k = k := by
  unfold N
  rw [show T.length + 1 - off = (T.length - off) + 1 from by omega, tot, h]
theorem N_some {T : List UInt8} {off k m : Nat} {r : List UInt8} (ho : off ≤ T.length) (h : nl (T.drop off) = some (m, r)) :
    N T off k = N T (off + m) (k + 1) := by
  obtain ⟨h1, h2, _⟩ := nl_bd h
  rw [List.length_drop] at h2
  unfold N
  rw [show T.length + 1 - off = (T.length - off) + 1 from by omega, tot, h]
  simp only
  rw [tot_fuel T (T.length - off) (T.length + 1 - (off + m)) (off + m) (k + 1) (by omega) (by omega) (by omega)]

theorem E_blank {T : List UInt8} {off k m : Nat} (ho : off ≤ T.length) (h : nl (T.drop off) = some (m, [])) : E T off k = E T (off + m) (k + 1) := by
  rw [E_some ho h, if_pos rfl, List.nil_append]
theorem E_full {T : List UInt8} {off k m : Nat} {r : List UInt8} (ho : off ≤ T.length) (h : nl (T.drop off) = some (m, r)) (hr : r ≠ []) : E T off k = (k + 1, off + m, r) :: E T (off + m) (k + 1) := by
  rw [E_some ho h, if_neg hr]; rfl

/-- Not more lines than bytes: each filled line's number and place. -/
theorem E_length (T : List UInt8) : ∀ (n off k : Nat), (ent T n off k).length ≤ n
  | 0, _, _ => by simp [ent]
  | n + 1, off, k => by
    rw [ent]
    cases nl (T.drop off) with
    | none => simp
    | some p =>
      obtain ⟨m, r⟩ := p
      have := E_length T n (off + m) (k + 1)
      simp only [List.length_append]
      split <;> simp <;> omega

theorem E_len (T : List UInt8) (off k : Nat) : (E T off k).length ≤ T.length + 1 := by
  have := E_length T (T.length + 1 - off) off k
  unfold E; omega

end CL
