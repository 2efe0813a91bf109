import Derived.Test.Qxb6604193aDoorW1
import Derived.Test.Qxb6604193aDoorW2
namespace Go.Proofs.Qxb6604193aDoor
open Go.RowKit Go.Lib

theorem pow_nd (u : Nat) : 1 ≤ u → 10 ^ (nDigits u - 1) ≤ u := by
  induction u using Nat.strongRecOn with
  | _ u ih =>
    intro h1
    by_cases h : u < 10
    · rw [nDigits_small h]; simpa using h1
    · rw [nDigits_big h]
      have h2 := ih (u / 10) (by omega) (by omega)
      have h3 := nDigits_pos (u / 10)
      obtain ⟨d, hd⟩ : ∃ d, nDigits (u / 10) = d + 1 := ⟨nDigits (u / 10) - 1, by omega⟩
      rw [hd] at h2 ⊢
      simp only [Nat.add_sub_cancel] at h2 ⊢
      rw [Nat.pow_succ]
      omega
theorem nd_le (u : Nat) (h : u ≤ 9223372036854775808) : nDigits u ≤ 19 := by
  by_cases h0 : u = 0
  · subst h0; rw [nDigits_small (by omega)]; omega
  · have h1 := pow_nd u (by omega)
    by_cases h2 : nDigits u ≤ 19
    · exact h2
    · have h3 : 10 ^ 19 ≤ 10 ^ (nDigits u - 1) := Nat.pow_le_pow_right (by omega) (by omega)
      omega
def Dg (u j : Nat) : Nat := u / 10 ^ (nDigits u - 1 - j) % 10
def Vl (u j : Nat) : Nat := u / 10 ^ (nDigits u - j)
theorem Vl_zero (u : Nat) : Vl u 0 = 0 := Nat.div_eq_of_lt (lt_pow_nDigits u)
theorem Vl_end (u : Nat) : Vl u (nDigits u) = u := by simp [Vl]
theorem Vl_le (u j : Nat) : Vl u j ≤ u := Nat.div_le_self _ _
theorem Vl_succ (u j : Nat) (h : j < nDigits u) : Vl u (j + 1) = Vl u j * 10 + Dg u j := by
  unfold Vl Dg
  rw [show nDigits u - j = (nDigits u - (j + 1)) + 1 by omega, show nDigits u - 1 - j = nDigits u - (j + 1) by omega, Nat.pow_succ, ← Nat.div_div_eq_div_mul]
  omega
theorem Dg_le (u j : Nat) : Dg u j ≤ 9 := by unfold Dg; omega
theorem digit_at (u j : Nat) (h : j < (decDigits u).length) : ((decDigits u)[j].toNat : Int) = 48 + (Dg u j : Int) := by
  have hl := decDigits_length u
  have he : (decDigits u)[j] = dg u (nDigits u - 1 - j) := by simp [decDigits_eq]
  rw [he]
  have := Dg_le u j
  unfold Dg at this ⊢
  unfold dg
  simp
  omega
end Go.Proofs.Qxb6604193aDoor
