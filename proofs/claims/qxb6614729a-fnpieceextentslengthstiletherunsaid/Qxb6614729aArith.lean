/-
  The plain arithmetic of the pieces: q = ceil(t / p).
-/
import Derived.WalkKit
namespace Go.Proofs.Qxb6614729a

theorem q_bounds {p t q : Int} (hp : 1 ≤ p) (hq : (t + p - 1) / p = q) : q * p ≤ t + p - 1 ∧ t + p - 1 < q * p + p := by
  subst hq
  have h1 := Int.ediv_mul_le (t + p - 1) (b := p) (by omega)
  have h2 := Int.lt_ediv_add_one_mul_self (t + p - 1) (b := p) (by omega)
  rw [Int.add_mul, Int.one_mul] at h2
  exact ⟨h1, h2⟩

theorem q_nonneg {p t q : Int} (hp : 1 ≤ p) (ht : 0 ≤ t) (hq : (t + p - 1) / p = q) : 0 ≤ q := by
  subst hq
  exact Int.ediv_nonneg (by omega) (by omega)

theorem q_le {p t q : Int} (hp : 1 ≤ p) (ht : 0 ≤ t) (hq : (t + p - 1) / p = q) : q ≤ t + p - 1 := by
  subst hq
  exact Int.ediv_le_self _ (by omega)

/-- Piece i starts within the run. -/
theorem start_le {p t q i : Int} (hp : 1 ≤ p) (hq : (t + p - 1) / p = q) (h0 : 0 ≤ i) (hi : i < q) : 0 ≤ i * p ∧ i * p ≤ t - 1 := by
  obtain ⟨h1, _⟩ := q_bounds hp hq
  refine ⟨Int.mul_nonneg h0 (by omega), ?_⟩
  have h2 : (i + 1) * p ≤ q * p := Int.mul_le_mul_of_nonneg_right (by omega) (by omega)
  rw [Int.add_mul, Int.one_mul] at h2
  omega

theorem last_eq {p t q i : Int} (hp : 1 ≤ p) (hq : (t + p - 1) / p = q) (hi : i = q - 1) : min p (t - i * p) = t - i * p ∧ (t - 1) % p + 1 = t - i * p := by
  obtain ⟨h1, h2⟩ := q_bounds hp hq
  subst hi
  rw [Int.sub_mul, Int.one_mul]
  refine ⟨by simp only [Int.min_def]; split <;> omega, ?_⟩
  have e : (t - 1) = (t - 1 - (q * p - p)) + p * (q - 1) := by rw [Int.mul_sub, Int.mul_one, Int.mul_comm p q]; omega
  have h3 : (t - 1) % p = t - 1 - (q * p - p) := by
    have h4 := Int.add_mul_emod_self_left (t - 1 - (q * p - p)) p (q - 1)
    rw [← e] at h4
    rw [h4]
    exact Int.emod_eq_of_lt (by omega) (by omega)
  omega

theorem mid_eq {p t q i : Int} (hp : 1 ≤ p) (hq : (t + p - 1) / p = q) (hi : i < q - 1) : min p (t - i * p) = p ∧ (i + 1) * p = i * p + p ∧ i * p + p ≤ t - 1 := by
  obtain ⟨h1, h2⟩ := q_bounds hp hq
  have h3 : (i + 2) * p ≤ q * p := Int.mul_le_mul_of_nonneg_right (by omega) (by omega)
  rw [Int.add_mul] at h3
  refine ⟨by simp only [Int.min_def]; split <;> omega, by rw [Int.add_mul, Int.one_mul], by omega⟩

theorem all_len {p t q : Int} (hp : 1 ≤ p) (hq : (t + p - 1) / p = q) (ht : 1 ≤ t) : 1 ≤ q := by
  obtain ⟨h1, h2⟩ := q_bounds hp hq
  by_cases h : 1 ≤ q
  · exact h
  · have : q * p ≤ 0 * p := Int.mul_le_mul_of_nonneg_right (by omega) (by omega)
    omega

end Go.Proofs.Qxb6614729a
