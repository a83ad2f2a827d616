/-
  float64(n) is the nearest: plain facts.
-/
import Derived.Test.Qxb6604352aPlainB
namespace Go.Proofs.Qxb6604352a
open Ieee

theorem rnd_near (m u : Nat) (hu : u = 2 ^ (m.log2 - 52)) : rnd m = half u m * u ∧ 2 * (rnd m : Int) - 2 * m ≤ u ∧ 2 * (m : Int) - 2 * rnd m ≤ u ∧
    ((2 * (rnd m : Int) - 2 * m = u ∨ 2 * (m : Int) - 2 * rnd m = u) → 1 < u → half u m % 2 = 0) := by
  have hp : 0 < u := by rw [hu]; exact Nat.two_pow_pos _
  have e : rnd m = half u m * u := by unfold rnd; rw [← hu]
  have hd := Nat.div_add_mod m u
  have hl : m % u < u := Nat.mod_lt _ hp
  have hc := half_cases u m
  have e1 : (m / u + 1) * u = u * (m / u) + u := by rw [Nat.add_mul, Nat.one_mul, Nat.mul_comm]
  have e2 : (m / u) * u = u * (m / u) := Nat.mul_comm _ _
  refine ⟨e, ?_, ?_, ?_⟩
  · rw [e]; rcases hc with ⟨h1, h2⟩ | ⟨h1, h2⟩ | ⟨h1, _, h2⟩ | ⟨h1, _, h2⟩ <;> rw [h2] <;> omega
  · rw [e]; rcases hc with ⟨h1, h2⟩ | ⟨h1, h2⟩ | ⟨h1, _, h2⟩ | ⟨h1, _, h2⟩ <;> rw [h2] <;> omega
  · rw [e]; intro ht h1u
    rcases hc with ⟨h1, h2⟩ | ⟨h1, h2⟩ | ⟨h1, h3, h2⟩ | ⟨h1, h3, h2⟩ <;> rw [h2] at ht ⊢ <;> omega

theorem rnd_fix (k d : Nat) (h1 : 4503599627370496 ≤ k) (h2 : k ≤ 9007199254740992) : rnd (k * 2 ^ d) = k * 2 ^ d := by
  have hd := Nat.two_pow_pos d
  by_cases hk : k = 9007199254740992
  · have e : k * 2 ^ d = 2 ^ (53 + d) := by rw [hk, Nat.pow_add]
    have hl : (2 ^ (53 + d)).log2 = 53 + d := Nat.log2_two_pow
    rw [e]
    unfold rnd
    rw [hl]
    have e2 : 2 ^ (53 + d) = 4503599627370496 * 2 ^ (53 + d - 52) := by
      rw [show (4503599627370496 : Nat) = 2 ^ 52 by decide, ← Nat.pow_add]; congr 1; omega
    have hc := half_cases (2 ^ (53 + d - 52)) (2 ^ (53 + d))
    have hp := Nat.two_pow_pos (53 + d - 52)
    have m0 : 2 ^ (53 + d) % 2 ^ (53 + d - 52) = 0 := by rw [e2]; exact Nat.mul_mod_left _ _
    have q0 : 2 ^ (53 + d) / 2 ^ (53 + d - 52) = 4503599627370496 := by rw [e2]; exact Nat.mul_div_cancel _ hp
    rw [m0, q0] at hc
    have hh : half (2 ^ (53 + d - 52)) (2 ^ (53 + d)) = 4503599627370496 := by omega
    rw [hh, ← e2]
  · have hne : k * 2 ^ d ≠ 0 := by
      have := Nat.mul_le_mul h1 hd
      omega
    have hl : (k * 2 ^ d).log2 = 52 + d := by
      refine (Nat.log2_eq_iff hne).2 ⟨?_, ?_⟩
      · rw [Nat.pow_add]; exact Nat.mul_le_mul_right _ h1
      · rw [show 52 + d + 1 = 53 + d by omega, Nat.pow_add]; exact (Nat.mul_lt_mul_right hd).2 (by omega)
    unfold rnd
    rw [hl, show 52 + d - 52 = d by omega]
    have hc := half_cases (2 ^ d) (k * 2 ^ d)
    rw [Nat.mul_mod_left, Nat.mul_div_cancel _ hd] at hc
    have hh : half (2 ^ d) (k * 2 ^ d) = k := by omega
    rw [hh]

theorem rnd_small (m : Nat) (h : m.log2 ≤ 52) : rnd m = m := by
  unfold rnd
  rw [show m.log2 - 52 = 0 by omega, Nat.pow_zero, half_one, Nat.mul_one]

theorem rnd_idem (m : Nat) : rnd (rnd m) = rnd m := by
  by_cases h : m.log2 ≤ 52
  · rw [rnd_small m h, rnd_small m h]
  · have hm : m ≠ 0 := by intro e; subst e; exact h (by decide)
    have l1 := Nat.log2_self_le hm
    have l2 := Nat.lt_log2_self (n := m)
    have hp : 2 ^ m.log2 = 4503599627370496 * 2 ^ (m.log2 - 52) := by
      rw [show (4503599627370496 : Nat) = 2 ^ 52 by decide, ← Nat.pow_add]; congr 1; omega
    have hp2 : 2 ^ (m.log2 + 1) = 9007199254740992 * 2 ^ (m.log2 - 52) := by
      rw [show (9007199254740992 : Nat) = 2 ^ 53 by decide, ← Nat.pow_add]; congr 1; omega
    have hk := half_bounds (2 ^ (m.log2 - 52)) m (Nat.two_pow_pos _) (by omega) (by omega)
    exact rnd_fix _ _ hk.1 hk.2

theorem rnd_63 : rnd 9223372036854775808 = 9223372036854775808 := by
  have := rnd_fix 4503599627370496 11 (by omega) (by omega)
  simpa using this
theorem rnd_62 : rnd 4611686018427387904 = 4611686018427387904 := by
  have := rnd_fix 4503599627370496 10 (by omega) (by omega)
  simpa using this
theorem rnd_le (m : Nat) (h : m ≤ 9223372036854775808) : rnd m ≤ 9223372036854775808 := by
  have := rnd_mono m _ h
  rw [rnd_63] at this
  exact this
theorem rnd_one : rnd 1 = 1 := rnd_small 1 (by decide)
theorem rnd_pos (m : Nat) (h : 0 < m) : 0 < rnd m := by
  have := rnd_mono 1 m h
  rw [rnd_one] at this
  omega

/-- What rounds to 2^63 from below lies at most 512 below it. -/
theorem rnd_top (m : Nat) (h : m < 9223372036854775808) (ht : rnd m = 9223372036854775808) : 9223372036854775296 ≤ m := by
  by_cases h2 : m < 4611686018427387904
  · have := rnd_mono m 4611686018427387904 (by omega)
    rw [rnd_62] at this
    omega
  · have hl : m.log2 = 62 := (Nat.log2_eq_iff (by omega)).2 ⟨by omega, by omega⟩
    have := half_cases 1024 m
    unfold rnd at ht
    rw [hl] at ht
    have e : (2 : Nat) ^ (62 - 52) = 1024 := by decide
    rw [e] at ht
    omega

theorem RI_idem (n : Int) : RI (RI n) = RI n := by
  have hz : rnd n.natAbs = 0 → n = 0 := by
    intro h
    rcases Nat.eq_zero_or_pos n.natAbs with h1 | h1
    · omega
    · have := rnd_pos _ h1; omega
  by_cases hn : n < 0
  · have h1 : RI n = -(rnd n.natAbs : Int) := by unfold RI; rw [if_pos hn]
    have h2 := rnd_pos n.natAbs (by omega)
    have h3 : (RI n).natAbs = rnd n.natAbs := by rw [h1]; omega
    have h4 : RI n < 0 := by rw [h1]; omega
    have h5 : RI (RI n) = -(rnd (RI n).natAbs : Int) := by
      rw [show RI (RI n) = if RI n < 0 then -(rnd (RI n).natAbs : Int) else (rnd (RI n).natAbs : Int) from rfl, if_pos h4]
    rw [h5, h3, rnd_idem, h1]
  · have h1 : RI n = (rnd n.natAbs : Int) := by unfold RI; rw [if_neg hn]
    have h3 : (RI n).natAbs = rnd n.natAbs := by rw [h1]; omega
    have h4 : ¬ RI n < 0 := by rw [h1]; omega
    have h5 : RI (RI n) = (rnd (RI n).natAbs : Int) := by
      rw [show RI (RI n) = if RI n < 0 then -(rnd (RI n).natAbs : Int) else (rnd (RI n).natAbs : Int) from rfl, if_neg h4]
    rw [h5, h3, rnd_idem, h1]

/-- Cut towards zero. -/
theorem cut_zero (neg : Bool) (n drop : Nat) (h : drop ≤ n.log2 + 2) : Toward.zero.cut neg n drop = n / 2 ^ drop := by
  unfold Toward.cut
  rw [Nat.min_eq_left h, Nat.one_shiftLeft]
  rfl
theorem cut_zero_zero (neg : Bool) (drop : Nat) : Toward.zero.cut neg 0 drop = 0 := by
  unfold Toward.cut
  simp

theorem stands_toInt {x : Nat} {N : Int} (h : Stands x N) : (double.read x).toInt .zero = some N := by
  obtain ⟨s, M, p, hr, hv⟩ := h
  rw [hr]
  unfold Datum.toInt Datum.integral
  dsimp only
  obtain ⟨S, hS⟩ : ∃ S : Nat, S = 1074 := ⟨_, rfl⟩
  have hv' : signed s M p = N * ((2 ^ S : Nat) : Int) := by rw [hS]; exact hv
  have ep : ((p : Int) - 1074) = (p : Int) - (S : Int) := by omega
  rw [ep]
  clear hv hr ep hS
  have hpS := Nat.two_pow_pos S
  have key : ∃ A : Nat, Toward.zero.cut s (M <<< ((p : Int) - (S : Int)).toNat) (-((p : Int) - (S : Int))).toNat = A ∧ M * 2 ^ p = A * 2 ^ S ∧ N.natAbs = A := by
    have hA : M * 2 ^ p = N.natAbs * 2 ^ S := by
      have h1 : (signed s M p).natAbs = M * 2 ^ p := by
        unfold signed
        simp only [Nat.shiftLeft_eq]
        cases s <;> simp only [if_true, Bool.false_eq_true, if_false] <;> omega
      rw [← h1, hv', Int.natAbs_mul, Int.natAbs_natCast]
    refine ⟨N.natAbs, ?_, hA, rfl⟩
    by_cases hp : S ≤ p
    · have e1 : ((p : Int) - (S : Int)).toNat = p - S := by omega
      have e2 : (-((p : Int) - (S : Int))).toNat = 0 := by omega
      rw [e1, e2, cut_zero _ _ _ (by omega), Nat.pow_zero, Nat.div_one, Nat.shiftLeft_eq]
      have e3 : 2 ^ p = 2 ^ (p - S) * 2 ^ S := by rw [← Nat.pow_add]; congr 1; omega
      rw [e3, ← Nat.mul_assoc] at hA
      exact Nat.eq_of_mul_eq_mul_right hpS hA
    · have e1 : ((p : Int) - (S : Int)).toNat = 0 := by omega
      have e2 : (-((p : Int) - (S : Int))).toNat = S - p := by omega
      rw [e1, e2, Nat.shiftLeft_zero]
      have e3 : 2 ^ S = 2 ^ (S - p) * 2 ^ p := by rw [← Nat.pow_add]; congr 1; omega
      rw [e3, ← Nat.mul_assoc] at hA
      have hM : M = N.natAbs * 2 ^ (S - p) := Nat.eq_of_mul_eq_mul_right (Nat.two_pow_pos p) hA
      by_cases hz : N.natAbs = 0
      · rw [hM, hz, Nat.zero_mul, cut_zero_zero]
      · have hge : 2 ^ (S - p) ≤ M := by rw [hM]; exact Nat.le_mul_of_pos_left _ (by omega)
        have hM0 : M ≠ 0 := by have := Nat.two_pow_pos (S - p); omega
        have hlog : S - p ≤ M.log2 := (Nat.le_log2 hM0).2 hge
        rw [cut_zero _ _ _ (by omega), hM, Nat.mul_div_cancel _ (Nat.two_pow_pos _)]
  obtain ⟨A, h1, h2, h3⟩ := key
  rw [h1]
  congr 1
  have hpS' : (0 : Int) < ((2 ^ S : Nat) : Int) := by omega
  unfold signed at hv' ⊢
  simp only [Nat.shiftLeft_eq] at hv' ⊢
  rw [h2] at hv'
  cases s
  · simp only [Bool.false_eq_true, if_false, Nat.pow_zero, Nat.mul_one] at hv' ⊢
    rw [Int.natCast_mul] at hv'
    exact Int.eq_of_mul_eq_mul_right (by omega) hv'
  · simp only [if_true, Nat.pow_zero, Nat.mul_one] at hv' ⊢
    rw [Int.natCast_mul, ← Int.neg_mul] at hv'
    exact Int.eq_of_mul_eq_mul_right (by omega) hv'

theorem toIntVal {x : Nat} {N : Int} (h : Stands x N) (h1 : -9223372036854775808 ≤ N) (h2 : N ≤ 9223372036854775807) : floatToIntVal .f64 x .i64 = some N := by
  unfold floatToIntVal
  have e : (FloatKind.f64.decode x).toInt .zero = some N := stands_toInt h
  rw [e]
  dsimp only
  rw [if_pos]
  simp [IntKind.min, IntKind.max, IntKind.signed, IntKind.bits]
  omega

theorem stands_lo : Stands 14114281232179134464 (-9223372036854775808) := by
  have h := stands_int (-9223372036854775808) (by decide)
  have e1 : floatOfInt .f64 (-9223372036854775808) = 14114281232179134464 := by decide +kernel
  have e2 : RI (-9223372036854775808) = -9223372036854775808 := by
    unfold RI; rw [if_pos (by decide)]
    have : (-9223372036854775808 : Int).natAbs = 9223372036854775808 := rfl
    rw [this, rnd_63]; rfl
  rw [e1, e2] at h
  exact h
theorem stands_hi : Stands 4890909195324358656 9223372036854775808 := by
  have h := stands_int 9223372036854775808 (by decide)
  have e1 : floatOfInt .f64 9223372036854775808 = 4890909195324358656 := by decide +kernel
  have e2 : RI 9223372036854775808 = 9223372036854775808 := by
    unfold RI; rw [if_neg (by decide)]
    have : (9223372036854775808 : Int).natAbs = 9223372036854775808 := rfl
    rw [this, rnd_63]; rfl
  rw [e1, e2] at h
  exact h

end Go.Proofs.Qxb6604352a
