/-
  THE PLAIN LAWS of zzItoa: the digits of a number. No Go in sight.
-/
import Derived.Test.Qxb6603729aDoorPlain
namespace Go.Proofs.Qxb6603729aDoor

/-- The byte of the digit that stands k places from the right. -/
def dg (U k : Nat) : Nat := 48 + U / 10 ^ k % 10
theorem dg_bd (U k : Nat) : 48 ≤ dg U k ∧ dg U k ≤ 57 := by
  unfold dg; omega
/-- The last k digits. -/
def lastK (U : Nat) : Nat → List UInt8
  | 0 => []
  | k + 1 => UInt8.ofNat (dg U k) :: lastK U k
theorem byte_dg (U k : Nat) : (UInt8.ofNat (dg U k)).toNat = dg U k := by
  have := dg_bd U k
  rw [UInt8.toNat_ofNat']
  omega
theorem lastK_length (U k : Nat) : (lastK U k).length = k := by
  induction k with
  | zero => rfl
  | succ k ih => rw [lastK, List.length_cons, ih]
theorem lastK_at (U k j : Nat) (h : j < (lastK U k).length) : ((lastK U k)[j]).toNat = dg U (k - 1 - j) := by
  induction k generalizing j with
  | zero => simp [lastK] at h
  | succ k ih =>
    match j with
    | 0 => exact byte_dg U k
    | j + 1 =>
      have h' : j < (lastK U k).length := by
        simp only [lastK, List.length_cons] at h
        omega
      have e := ih j h'
      have e2 : k + 1 - 1 - (j + 1) = k - 1 - j := by omega
      rw [e2, ← e]
      rfl
theorem lastK_allD (U k : Nat) : AllD (lastK U k) := by
  intro c hc
  obtain ⟨j, hj, e⟩ := List.getElem_of_mem hc
  rw [← e, lastK_at U k j hj]
  exact dg_bd _ _
theorem lastK_dec (U k acc : Nat) : decA acc (lastK U k) = acc * 10 ^ k + U % 10 ^ k := by
  induction k generalizing acc with
  | zero => rw [lastK, decA_nil, Nat.pow_zero, Nat.mul_one, Nat.mod_one]; rfl
  | succ k ih =>
    rw [lastK, decA_cons, byte_dg, ih, Nat.mod_pow_succ, Nat.pow_succ]
    have e : dg U k - 48 = U / 10 ^ k % 10 := by unfold dg; omega
    rw [e, Nat.add_mul, Nat.mul_assoc acc, Nat.mul_comm 10 (10 ^ k), Nat.mul_comm (U / 10 ^ k % 10)]
    omega
theorem lastK_whole {U k : Nat} (h : U / 10 ^ k = 0) : decA 0 (lastK U k) = U := by
  have hp : 0 < 10 ^ k := Nat.pow_pos (by omega)
  rw [lastK_dec, Nat.zero_mul, Nat.zero_add, Nat.mod_eq_of_lt ((Nat.div_eq_zero_iff_lt hp).1 h)]
theorem lastK_lead {U k : Nat} (hk : 0 < k) (h : U / 10 ^ k = 0) (h' : 0 < U / 10 ^ (k - 1)) : ¬ Lead (lastK U k) := by
  obtain ⟨k, rfl⟩ : ∃ m, k = m + 1 := ⟨k - 1, by omega⟩
  rw [Nat.add_sub_cancel] at h'
  rintro (e | ⟨e, _⟩)
  · have := lastK_length U (k + 1)
    rw [e] at this
    simp at this
  · rw [lastK, List.headD_cons, byte_dg] at e
    unfold dg at e
    rw [Nat.pow_succ, ← Nat.div_div_eq_div_mul] at h
    generalize U / 10 ^ k = z at *
    omega
theorem small19 {U k : Nat} (hU : U ≤ 9223372036854775808) (hk : 19 ≤ k) : U / 10 ^ k = 0 := by
  have h1 : 10 ^ 19 ≤ 10 ^ k := Nat.pow_le_pow_right (by omega) hk
  have h2 : (10 : Nat) ^ 19 = 10000000000000000000 := by decide
  exact Nat.div_eq_of_lt (by omega)
theorem next_div (U k : Nat) : U / 10 ^ k / 10 = U / 10 ^ (k + 1) := by
  rw [Nat.pow_succ, Nat.div_div_eq_div_mul]
theorem minus_not (l : List UInt8) : ¬ AllD (45 :: l) := fun h => by
  have := h 45 (by simp)
  have e : (45 : UInt8).toNat = 45 := rfl
  omega
end Go.Proofs.Qxb6603729aDoor
