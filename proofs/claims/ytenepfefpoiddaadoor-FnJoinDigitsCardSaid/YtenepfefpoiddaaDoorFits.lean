/- Multiplying by the base again and again with a mark for what does not fit in 64 bits: as two laws do it. -/
import Derived.Test.YtenepfefpoiddaaDoorEnvP
namespace Go.Proofs.YtenepfefpoiddaaDoor
open Go.RowKit

/-- After j rounds: the product, if it fits; the mark tells whether it does. -/
structure FitsInv (b x j : Nat) (want : Nat) (fits : Bool) : Prop where
  lt : want < 18446744073709551616
  eq : fits = true → want = x * b ^ j
  is : fits = decide (x * b ^ j < 18446744073709551616)

theorem FitsInv.start (b x : Nat) (hx : x < 18446744073709551616) : FitsInv b x 0 x true := ⟨hx, fun _ => by simp, by simp [hx]⟩

theorem FitsInv.step {b x j want : Nat} {fits : Bool} (hb : 2 ≤ b) (h : FitsInv b x j want fits) :
    ∃ want' : Nat, IntKind.u64.wrap ((want : Int) * (b : Int)) = (want' : Int) ∧ FitsInv b x (j + 1) want' (if 18446744073709551615 / b < want then false else fits) := by
  obtain ⟨h1, h2, h3⟩ := h
  have t1 := Nat.div_add_mod 18446744073709551615 b
  have t2 : 18446744073709551615 % b < b := Nat.mod_lt _ (by omega)
  have ep : x * b ^ (j + 1) = x * b ^ j * b := by rw [Nat.pow_succ, Nat.mul_assoc]
  refine ⟨want * b % 18446744073709551616, by rw [IntKind.wrap_u64, ← Int.natCast_mul]; omega, Nat.mod_lt _ (by decide), ?_, ?_⟩
  · intro hf
    split at hf
    · exact absurd hf (by decide)
    · rename_i hle
      have e := h2 hf
      have h4 : want * b ≤ 18446744073709551615 / b * b := Nat.mul_le_mul_right _ (by omega)
      rw [Nat.mul_comm (_ / b) b] at h4
      rw [ep, ← e, Nat.mod_eq_of_lt (by omega)]
  · rw [ep]
    by_cases hfit : x * b ^ j < 18446744073709551616
    · have hft : fits = true := by rw [h3]; simpa using hfit
      have e := h2 hft
      rw [← e]
      split
      · rename_i hgt
        have h4 : (18446744073709551615 / b + 1) * b ≤ want * b := Nat.mul_le_mul_right _ hgt
        rw [Nat.add_mul, Nat.mul_comm (_ / b) b] at h4
        symm
        simp
        omega
      · have h4 : want * b ≤ 18446744073709551615 / b * b := Nat.mul_le_mul_right _ (by omega)
        rw [Nat.mul_comm (_ / b) b] at h4
        rw [hft]
        symm
        simp
        omega
    · have hff : fits = false := by rw [h3]; simpa using hfit
      have h4 : x * b ^ j * 1 ≤ x * b ^ j * b := Nat.mul_le_mul_left _ (by omega)
      rw [hff, ite_self]
      symm
      simp
      omega

theorem top_quo (b : Nat) : 18446744073709551615 / (b : Int) = ((18446744073709551615 / b : Nat) : Int) := by
  rw [Int.natCast_ediv]; rfl
end Go.Proofs.YtenepfefpoiddaaDoor
