import Derived.Lib.ItoaNum
namespace Go.Proofs.Qxb6608830aDoor
open Go.Lib

theorem nDigits_le : ∀ (k u : Nat), u < 10 ^ (k + 1) → nDigits u ≤ k + 1
  | 0, u, h => by rw [nDigits_small (by simpa using h)]; omega
  | k + 1, u, h => by
    by_cases h10 : u < 10
    · rw [nDigits_small h10]; omega
    · rw [nDigits_big h10]
      have := nDigits_le k (u / 10) (by rw [Nat.pow_succ] at h; omega)
      omega

theorem pow_le_nDigits : ∀ (k u : Nat), nDigits u = k + 2 → 10 ^ (k + 1) ≤ u
  | 0, u, h => by
    by_cases h10 : u < 10
    · rw [nDigits_small h10] at h; omega
    · simp; omega
  | k + 1, u, h => by
    by_cases h10 : u < 10
    · rw [nDigits_small h10] at h; omega
    · rw [nDigits_big h10] at h
      have := pow_le_nDigits k (u / 10) (by omega)
      rw [Nat.pow_succ]; omega

/-- The k-th digit from the left, and the number that the first k digits spell. -/
def Dg (u k : Nat) : Nat := u / 10 ^ (nDigits u - 1 - k) % 10
def Vl (u k : Nat) : Nat := u / 10 ^ (nDigits u - k)

theorem Dg_le (u k : Nat) : Dg u k ≤ 9 := by unfold Dg; omega
theorem Vl_zero (u : Nat) : Vl u 0 = 0 := by
  unfold Vl; exact Nat.div_eq_of_lt (lt_pow_nDigits u)
theorem Vl_end (u : Nat) : Vl u (nDigits u) = u := by unfold Vl; simp
theorem Vl_le (u k : Nat) : Vl u k ≤ u := Nat.div_le_self _ _
theorem Vl_succ (u k : Nat) (h : k < nDigits u) : Vl u (k + 1) = Vl u k * 10 + Dg u k := by
  unfold Vl Dg
  have e : nDigits u - k = (nDigits u - 1 - k) + 1 := by omega
  have e2 : nDigits u - (k + 1) = nDigits u - 1 - k := by omega
  rw [e, e2, Nat.pow_succ, ← Nat.div_div_eq_div_mul]
  omega
theorem Dg_lead (u : Nat) (h : nDigits u ≠ 1) : Dg u 0 ≠ 0 := by
  have h1 := nDigits_pos u
  obtain ⟨k, hk⟩ : ∃ k, nDigits u = k + 2 := ⟨nDigits u - 2, by omega⟩
  have hl := pow_le_nDigits k u hk
  have hu := lt_pow_nDigits u
  unfold Dg
  rw [hk] at hu ⊢
  have e : k + 2 - 1 - 0 = k + 1 := by omega
  rw [e]
  have hq : u / 10 ^ (k + 1) < 10 := by
    rw [Nat.div_lt_iff_lt_mul (Nat.pow_pos (by omega))]
    rw [Nat.pow_succ] at hu
    omega
  have hp : 1 ≤ u / 10 ^ (k + 1) := by
    rw [Nat.le_div_iff_mul_le (Nat.pow_pos (by omega))]
    omega
  omega
theorem decDigits_at (u k : Nat) (h : k < nDigits u) : (decDigits u)[k]? = some (UInt8.ofNat (48 + Dg u k)) := by
  rw [decDigits_eq]
  simp [h, dg, Dg]
theorem ofNat_digit (d : Nat) (h : d ≤ 9) : (UInt8.ofNat (48 + d)).toNat = 48 + d := by
  simp [UInt8.toNat_ofNat']; omega
end Go.Proofs.Qxb6608830aDoor
