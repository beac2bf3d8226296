/-
  The plain law of the rounding: no Go in sight.
-/
import Derived.Test.Qxb6612180aDoorRound
namespace Go.Proofs.Qxb6612180aDoor

theorem mag_mul (a b : Int) (hb : 0 ≤ b) : mag (a * b) = mag a * b := by
  unfold mag
  rw [Int.natAbs_mul, Int.natCast_mul, Int.natAbs_of_nonneg hb]

theorem strip_spec : ∀ (p : Nat) (q : Int), (strip p q).2 ≤ p ∧ (strip p q).1 * 10 ^ (p - (strip p q).2) = q ∧ (0 < (strip p q).2 → ¬ (strip p q).1.tmod 10 = 0)
  | 0, q => ⟨Nat.le_refl _, by simp [strip], fun h => absurd h (Nat.lt_irrefl _)⟩
  | p + 1, q => by
    by_cases h : q.tmod 10 = 0
    · rw [strip_step p q h]
      obtain ⟨h1, h2, h3⟩ := strip_spec p (q.tdiv 10)
      refine ⟨by omega, ?_, h3⟩
      rw [show p + 1 - (strip p (q.tdiv 10)).2 = (p - (strip p (q.tdiv 10)).2) + 1 by omega, Int.pow_succ, ← Int.mul_assoc, h2]
      have := Int.mul_tdiv_add_tmod q 10
      omega
    · rw [strip_stop p q h]
      exact ⟨Nat.le_refl _, by simp, fun _ => h⟩

theorem pow10_pos (n : Nat) : (0 : Int) < 10 ^ n := Int.pow_pos (by decide)
theorem pow10_le {n : Nat} (h : n ≤ 18) : (10 : Int) ^ n ≤ 1000000000000000000 := by
  have h1 : (10 : Nat) ^ n ≤ 10 ^ 18 := Nat.pow_le_pow_right (by decide) h
  have h2 : ((10 ^ n : Nat) : Int) ≤ ((10 ^ 18 : Nat) : Int) := Int.ofNat_le.2 h1
  rw [Int.natCast_pow] at h2
  simpa using h2

/-- The rounding's number of units: the nearest, a tie away from zero. -/
theorem rnd0_spec (coef U : Int) (hU : 0 < U) : 2 * mag (coef - rnd0 coef U * U) ≤ U ∧ (2 * mag (coef - rnd0 coef U * U) = U → mag coef < mag (rnd0 coef U * U)) := by
  have hdm := Int.mul_tdiv_add_tmod coef U
  have hlt := Int.tmod_lt_of_pos coef hU
  have hlt' : -U < coef.tmod U := by
    have := Int.tmod_lt_of_pos (-coef) hU
    rw [Int.neg_tmod] at this
    omega
  have hsg : (0 ≤ coef → 0 ≤ coef.tmod U ∧ 0 ≤ U * coef.tdiv U) ∧ (coef ≤ 0 → coef.tmod U ≤ 0 ∧ U * coef.tdiv U ≤ 0) := by
    constructor
    · intro h
      exact ⟨Int.tmod_nonneg U h, Int.mul_nonneg (by omega) (Int.tdiv_nonneg h (by omega))⟩
    · intro h
      have h1 := Int.tmod_nonneg U (show 0 ≤ -coef by omega)
      have h2 := Int.mul_nonneg (show 0 ≤ U by omega) (Int.tdiv_nonneg (show 0 ≤ -coef by omega) (show 0 ≤ U by omega))
      rw [Int.neg_tmod] at h1
      rw [Int.neg_tdiv, Int.mul_neg] at h2
      omega
  unfold rnd0
  generalize coef.tmod U = T at *
  have hc := Int.mul_comm (coef.tdiv U) U
  by_cases h : U ≤ 2 * mag T
  · rw [if_pos h]
    unfold sign
    unfold mag at *
    rw [Int.add_mul, hc]
    generalize U * coef.tdiv U = D at *
    by_cases h1 : coef < 0
    · rw [if_pos h1]
      omega
    · rw [if_neg h1]
      by_cases h2 : 0 < coef
      · rw [if_pos h2]
        omega
      · rw [if_neg h2]
        omega
  · rw [if_neg h, hc]
    unfold mag at *
    generalize U * coef.tdiv U = D at *
    omega

/-- All that the law asks of Round's answer, where places < scale. -/
theorem round_law (coef : Int) (k places : Nat) (hk1 : 1 ≤ k) (hk : places + k ≤ 18) (h1 : -1000000000000000000 < coef) (h2 : coef < 1000000000000000000) :
    ∃ rc : Int, ∃ rs : Nat, strip places (rnd0 coef (10 ^ k)) = (rc, rs) ∧ rs ≤ places ∧ -1000000000000000000 < rc ∧ rc < 1000000000000000000 ∧ (0 < rs → ¬ rc.tmod 10 = 0) ∧
      mag rc * 10 ^ (places + k - rs) ≤ 2000000000000000000 ∧ 2 * mag (coef - rc * 10 ^ (places + k - rs)) ≤ 10 ^ k ∧ (2 * mag (coef - rc * 10 ^ (places + k - rs)) = 10 ^ k → mag coef < mag rc * 10 ^ (places + k - rs)) := by
  have hU := pow10_pos k
  have hU2 := pow10_le (show k ≤ 18 by omega)
  obtain ⟨r1, r2⟩ := rnd0_spec coef (10 ^ k) hU
  obtain ⟨s1, s2, s3⟩ := strip_spec places (rnd0 coef (10 ^ k))
  generalize hq : rnd0 coef (10 ^ k) = q at *
  refine ⟨(strip places q).1, (strip places q).2, rfl, s1, ?_⟩
  generalize (strip places q).1 = rc at *
  generalize (strip places q).2 = rs at *
  have e1 : rc * 10 ^ (places + k - rs) = q * 10 ^ k := by
    rw [show places + k - rs = (places - rs) + k by omega, Int.pow_add, ← Int.mul_assoc, s2]
  have hP := pow10_pos (places + k - rs)
  have e2 : mag rc * 10 ^ (places + k - rs) = mag (q * 10 ^ k) := by rw [← e1, mag_mul _ _ (by omega)]
  have e3 : mag rc * 10 ≤ mag rc * 10 ^ (places + k - rs) := by
    have h10 : (10 : Int) ≤ 10 ^ (places + k - rs) := by
      obtain ⟨m, hm⟩ : ∃ m, places + k - rs = m + 1 := ⟨places + k - rs - 1, by omega⟩
      have := pow10_pos m
      rw [hm, Int.pow_succ]
      omega
    exact Int.mul_le_mul_of_nonneg_left h10 (by unfold mag; omega)
  rw [e1] at *
  rw [e2] at e3 ⊢
  unfold mag at *
  generalize q * 10 ^ k = V at *
  refine ⟨by omega, by omega, s3, by omega, r1, r2⟩

#print axioms round_law
end Go.Proofs.Qxb6612180aDoor
