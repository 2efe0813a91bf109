/-
  PLAIN ARITHMETIC OF THE UVARINT's LENGTH: no Go in sight.
-/
import Derived.Lib.BitFns
import Derived.Lib.ItoaNum
namespace Go.Proofs.Qxb6603636a

/-- How many bytes the uvarint of n takes, for n below 2^35. -/
def uvl (n : Nat) : Nat := if n < 128 then 1 else if n < 16384 then 2 else if n < 2097152 then 3 else if n < 268435456 then 4 else 5
theorem uvl_small (n : Nat) (h : n < 128) : uvl n = 1 := by unfold uvl; (repeat' split) <;> omega
theorem uvl_step (n : Nat) (h : 128 ≤ n) (h2 : n < 34359738368) : uvl n = uvl (n / 128) + 1 := by unfold uvl; (repeat' split) <;> omega
theorem uvl_pos (n : Nat) : 1 ≤ uvl n ∧ uvl n ≤ 5 := by unfold uvl; (repeat' split) <;> omega

theorem or_one (n : Nat) : n ||| 1 = 2 * (n / 2) + 1 := by
  have h1 : (n ||| 1) / 2 = n / 2 := by rw [Nat.or_div_two]; simp
  have h2 : (n ||| 1) % 2 = 1 := by
    rw [Nat.or_mod_two_eq_one]; simp
  omega

theorem bl_le (x k : Nat) (hx : x < 18446744073709551616) (h0 : x ≠ 0) : Lib.bitLen x ≤ k ↔ x < 2 ^ k := by
  obtain ⟨h1, h2, h3⟩ := Lib.bitLenAux_bounds 64 x (by omega) h0
  show Lib.bitLenAux 64 x ≤ k ↔ _
  constructor
  · intro h
    exact Nat.lt_of_lt_of_le h3 (Nat.pow_le_pow_right (by omega) h)
  · intro h
    apply Classical.byContradiction
    intro hn
    have : 2 ^ k ≤ 2 ^ (Lib.bitLenAux 64 x - 1) := Nat.pow_le_pow_right (by omega) (by omega)
    omega

theorem bitLen_uvl (n : Nat) (h : n < 34359738368) : (Lib.bitLen (n ||| 1) + 6) / 7 = uvl n := by
  have e := or_one n
  have hx : n ||| 1 < 18446744073709551616 := by omega
  have h0 : n ||| 1 ≠ 0 := by omega
  have b0 := bl_le _ 0 hx h0
  have b1 := bl_le _ 7 hx h0
  have b2 := bl_le _ 14 hx h0
  have b3 := bl_le _ 21 hx h0
  have b4 := bl_le _ 28 hx h0
  have b5 := bl_le _ 35 hx h0
  simp only [Nat.reducePow] at b0 b1 b2 b3 b4 b5
  generalize Lib.bitLen (n ||| 1) = bl at *
  generalize n ||| 1 = x at *
  unfold uvl; (repeat' split) <;> omega

theorem bitLen_bound (n : Nat) (h : n < 34359738368) : Lib.bitLen (n ||| 1) ≤ 35 := by
  have e := or_one n
  rw [bl_le _ 35 (by omega) (by omega)]
  simp only [Nat.reducePow]
  omega
end Go.Proofs.Qxb6603636a
