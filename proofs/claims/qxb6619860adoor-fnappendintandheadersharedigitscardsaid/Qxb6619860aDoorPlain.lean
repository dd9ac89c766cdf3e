/-
  THE PLAIN MATHEMATICS OF A DECIMAL NUMERAL READ BACK: no Go in sight. ('Lib.decDigits', 'Lib.itoa': the shelf's own functions.)
-/
import Derived.Lib.ItoaNum
namespace Go.Proofs.Qxb6619860aDoor

/-- What the first t of u's m digits spell. -/
def pre (u m t : Nat) : Nat := u / 10 ^ (m - t)
/-- The digit at place t of m, from the left. -/
def dig (u m t : Nat) : Nat := u / 10 ^ (m - 1 - t) % 10

theorem pre_zero {u m : Nat} (h : u < 10 ^ m) : pre u m 0 = 0 := Nat.div_eq_of_lt h
theorem pre_end (u m : Nat) : pre u m m = u := by unfold pre; rw [Nat.sub_self]; exact Nat.div_one u
theorem pre_le (u m t : Nat) : pre u m t ≤ u := Nat.div_le_self _ _
theorem dig_lt (u m t : Nat) : dig u m t < 10 := Nat.mod_lt _ (by decide)
theorem pre_succ {u m t : Nat} (h : t < m) : pre u m (t + 1) = pre u m t * 10 + dig u m t := by
  unfold pre dig
  have e1 : m - (t + 1) = m - 1 - t := by omega
  have e2 : m - t = (m - 1 - t) + 1 := by omega
  rw [e1, e2, Nat.pow_succ, ← Nat.div_div_eq_div_mul]
  omega

theorem pow_le_of_nDigits (u : Nat) : ¬ u < 10 → 10 ^ (Lib.nDigits u - 1) ≤ u := by
  induction u using Nat.strongRecOn with
  | _ u ih =>
    intro h
    rw [Lib.nDigits_big h, Nat.add_sub_cancel]
    by_cases h2 : u / 10 < 10
    · rw [Lib.nDigits_small h2]; omega
    · have := ih (u / 10) (by omega) h2
      have hp := Lib.nDigits_pos (u / 10)
      rw [show Lib.nDigits (u / 10) = (Lib.nDigits (u / 10) - 1) + 1 by omega, Nat.pow_succ]
      omega

/-- The first digit is nought for 0 alone. -/
theorem first_zero {u : Nat} (h : dig u (Lib.nDigits u) 0 = 0) : u = 0 ∧ Lib.nDigits u = 1 := by
  unfold dig at h
  rw [Nat.sub_zero] at h
  by_cases h10 : u < 10
  · have e := Lib.nDigits_small h10
    rw [e] at h ⊢
    simp at h
    exact ⟨by omega, rfl⟩
  · have h1 := pow_le_of_nDigits u h10
    have h2 := Lib.lt_pow_nDigits u
    have hp := Lib.nDigits_pos u
    rw [show Lib.nDigits u = (Lib.nDigits u - 1) + 1 by omega, Nat.pow_succ] at h2
    have hlt : u / 10 ^ (Lib.nDigits u - 1) < 10 := Nat.div_lt_of_lt_mul h2
    have hpos : 1 ≤ u / 10 ^ (Lib.nDigits u - 1) := (Nat.one_le_div_iff (Nat.pos_of_ne_zero (by intro e; rw [e] at h2; omega))).2 h1
    rw [Nat.mod_eq_of_lt hlt] at h
    omega

/-- A byte's number. -/
def bt (l : List UInt8) (j : Nat) : Int := ((l.getD j 0).toNat : Int)

theorem bt_range (l : List UInt8) (j : Nat) : 0 ≤ bt l j ∧ bt l j ≤ 255 := by
  unfold bt
  have := (l.getD j 0).toNat_lt
  omega

theorem bt_append_left (l m : List UInt8) {j : Nat} (h : j < l.length) : bt (l ++ m) j = bt l j := by
  unfold bt
  rw [List.getD_eq_getElem?_getD, List.getD_eq_getElem?_getD, List.getElem?_append_left h]
theorem bt_append_right (l m : List UInt8) (j : Nat) : bt (l ++ m) (l.length + j) = bt m j := by
  unfold bt
  rw [List.getD_eq_getElem?_getD, List.getD_eq_getElem?_getD, List.getElem?_append_right (by omega), Nat.add_sub_cancel_left]
theorem bt_cons_zero (c : UInt8) (l : List UInt8) : bt (c :: l) 0 = (c.toNat : Int) := rfl
theorem bt_cons_succ (c : UInt8) (l : List UInt8) (j : Nat) : bt (c :: l) (j + 1) = bt l j := rfl

theorem bt_decDigits (u t : Nat) (h : t < Lib.nDigits u) : bt (Lib.decDigits u) t = 48 + (dig u (Lib.nDigits u) t : Int) := by
  unfold bt
  rw [Lib.decDigits_eq, List.getD_eq_getElem?_getD, List.getElem?_map, List.getElem?_range h]
  have hd := dig_lt u (Lib.nDigits u) t
  simp only [Option.map_some, Option.getD_some]
  unfold Lib.dg
  show ((UInt8.ofNat (48 + dig u (Lib.nDigits u) t)).toNat : Int) = _
  rw [UInt8.toNat_ofNat', Nat.mod_eq_of_lt (by omega)]
  omega

end Go.Proofs.Qxb6619860aDoor
