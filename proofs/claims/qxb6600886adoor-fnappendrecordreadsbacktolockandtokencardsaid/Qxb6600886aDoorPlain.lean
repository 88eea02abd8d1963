/-
  PLAIN: the decimal numeral's digits and prefixes as numbers; a record as a list of numbers.
-/
import Derived.Test.Qxb6600886aDoorClone
namespace Go.Proofs.Qxb6600886aDoor
open Go.RowKit

/-- the k-th digit of u, as a byte's number -/
def dI (u k : Nat) : Nat := 48 + u / 10 ^ (Lib.nDigits u - 1 - k) % 10
/-- the number that the first k digits of u say -/
def pre (u k : Nat) : Nat := u / 10 ^ (Lib.nDigits u - k)
theorem dI_lo (u k : Nat) : 48 ≤ dI u k ∧ dI u k ≤ 57 := by
  have := Nat.mod_lt (u / 10 ^ (Lib.nDigits u - 1 - k)) (show 0 < 10 by omega)
  unfold dI
  omega
theorem pre_zero (u : Nat) : pre u 0 = 0 := Nat.div_eq_of_lt (by simpa using Lib.lt_pow_nDigits u)
theorem pre_all (u : Nat) : pre u (Lib.nDigits u) = u := by simp [pre]
theorem pre_succ (u k : Nat) (h : k < Lib.nDigits u) : pre u (k + 1) = pre u k * 10 + (dI u k - 48) := by
  unfold pre dI
  rw [show Lib.nDigits u - k = (Lib.nDigits u - 1 - k) + 1 from by omega, show Lib.nDigits u - (k + 1) = Lib.nDigits u - 1 - k from by omega, Nat.pow_succ, ← Nat.div_div_eq_div_mul]
  omega
theorem pre_le (u k : Nat) : pre u k ≤ u := Nat.div_le_self _ _
theorem pow_le (u : Nat) : 10 ≤ u → 10 ^ (Lib.nDigits u - 1) ≤ u := by
  induction u using Nat.strongRecOn with
  | _ u ih =>
    intro h
    rw [Lib.nDigits_big (by omega), Nat.add_sub_cancel]
    by_cases h2 : u / 10 < 10
    · rw [Lib.nDigits_small h2]; omega
    · have := ih (u / 10) (by omega) (by omega)
      have hp := Lib.nDigits_pos (u / 10)
      have e : 10 ^ Lib.nDigits (u / 10) = 10 ^ (Lib.nDigits (u / 10) - 1) * 10 := by rw [← Nat.pow_succ]; congr 1; omega
      rw [e]
      omega
theorem first_digit (u : Nat) (h : 1 < Lib.nDigits u) : dI u 0 ≠ 48 := by
  have h10 : 10 ≤ u := by
    by_cases h' : u < 10
    · rw [Lib.nDigits_small h'] at h; omega
    · omega
  have hp := pow_le u h10
  have hlt := Lib.lt_pow_nDigits u
  have e : 10 ^ Lib.nDigits u = 10 ^ (Lib.nDigits u - 1) * 10 := by rw [← Nat.pow_succ]; congr 1; omega
  have h1 : 1 ≤ u / 10 ^ (Lib.nDigits u - 1) := (Nat.le_div_iff_mul_le (Nat.pow_pos (by omega))).2 (by omega)
  have h2 : u / 10 ^ (Lib.nDigits u - 1) < 10 := Nat.div_lt_of_lt_mul (by rw [← e]; exact hlt)
  unfold dI
  rw [Nat.sub_zero, Nat.mod_eq_of_lt h2]
  omega
theorem dec_get (u k : Nat) (h : k < Lib.nDigits u) : (Lib.byteCells (Lib.decDigits u))[k]? = some (.int .u8 (dI u k : Int)) := by
  rw [Lib.decDigits_eq]
  simp [Lib.byteCells, h, Lib.dg, dI]
  generalize (u : Int) / 10 ^ (Lib.nDigits u - 1 - k) = q
  omega

/-- what a record reads as, place by place -/
theorem rec_get_t (t r : ByteArray) (u k : Nat) (h : k < t.size) : (recCells t r u)[k]? = some (.int .u8 ((t[k]'h).toNat : Int)) := by
  unfold recCells
  rw [List.getElem?_append_left (by rw [Lib.strCells_length]; exact h)]
  simp [Lib.strCells, h]
  rfl
theorem rec_get_s1 (t r : ByteArray) (u : Nat) : (recCells t r u)[t.size]? = some (.int .u8 32) := by
  unfold recCells
  rw [List.getElem?_append_right (by rw [Lib.strCells_length]; omega), Lib.strCells_length, Nat.sub_self]
  rfl
theorem rec_tail (t r : ByteArray) (u k : Nat) : (recCells t r u)[t.size + 1 + k]? = (Lib.strCells r ++ ([Value.int .u8 32] ++ (Lib.byteCells (Lib.decDigits u) ++ [Value.int .u8 10])))[k]? := by
  unfold recCells
  rw [List.getElem?_append_right (by rw [Lib.strCells_length]; omega), Lib.strCells_length, show t.size + 1 + k - t.size = k + 1 from by omega]
  rfl
theorem rec_get_r (t r : ByteArray) (u k : Nat) (h : k < r.size) : (recCells t r u)[t.size + 1 + k]? = some (.int .u8 ((r[k]'h).toNat : Int)) := by
  rw [rec_tail, List.getElem?_append_left (by rw [Lib.strCells_length]; exact h)]
  simp [Lib.strCells, h]
  rfl
theorem rec_get_s2 (t r : ByteArray) (u : Nat) : (recCells t r u)[t.size + 1 + r.size]? = some (.int .u8 32) := by
  rw [rec_tail, List.getElem?_append_right (by rw [Lib.strCells_length]; omega), Lib.strCells_length, Nat.sub_self]
  rfl
theorem rec_tail2 (t r : ByteArray) (u k : Nat) : (recCells t r u)[t.size + 1 + r.size + 1 + k]? = (Lib.byteCells (Lib.decDigits u) ++ [Value.int .u8 10])[k]? := by
  rw [show t.size + 1 + r.size + 1 + k = t.size + 1 + (r.size + 1 + k) from by omega, rec_tail, List.getElem?_append_right (by rw [Lib.strCells_length]; omega), Lib.strCells_length, show r.size + 1 + k - r.size = k + 1 from by omega]
  rfl
theorem rec_get_d (t r : ByteArray) (u k : Nat) (h : k < Lib.nDigits u) : (recCells t r u)[t.size + 1 + r.size + 1 + k]? = some (.int .u8 (dI u k : Int)) := by
  rw [rec_tail2, List.getElem?_append_left (by rw [Lib.byteCells_length, Lib.decDigits_length]; exact h), dec_get u k h]
theorem rec_get_end (t r : ByteArray) (u : Nat) : (recCells t r u)[t.size + 1 + r.size + 1 + Lib.nDigits u]? = some (.int .u8 10) := by
  rw [rec_tail2, List.getElem?_append_right (by rw [Lib.byteCells_length, Lib.decDigits_length]; omega), Lib.byteCells_length, Lib.decDigits_length, Nat.sub_self]
  rfl
theorem recLen_eq (t r : ByteArray) (u : Nat) : recLen t r u = t.size + 1 + r.size + 1 + Lib.nDigits u + 1 := by
  unfold recLen
  rw [Lib.decDigits_length]
  omega

end Go.Proofs.Qxb6600886aDoor
