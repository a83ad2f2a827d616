import Derived.Test.Qxb6604352aWalkC
import Derived.Test.Qxb6604352aPlainC
namespace Go.Proofs.Qxb6604352a
open Go.RowKit

theorem cmp_lt_false {a b : Int} (h : b ≤ a) : (some (compare a b) == some Ordering.lt) = false := by
  rcases compare_ge _ _ h with h3 | h3 <;> rw [h3] <;> rfl
theorem cmp_eq_false {a b : Int} (h : a ≠ b) : (some (compare a b) == some Ordering.eq) = false := by
  have : compare a b ≠ Ordering.eq := by
    show compareOfLessAndEq a b ≠ _
    unfold compareOfLessAndEq
    split
    · intro e; cases e
    · intro e; cases e
  cases hc : compare a b <;> simp_all

/-- b1IsNearestFloat(n, float64(n)). -/
theorem near_any (n : Int) (h1 : -9223372036854775808 ≤ n) (h2 : n ≤ 9223372036854775807) (w : World) :
    Calls Try.prog 9 #[.int .i64 n, .float .f64 (floatOfInt .f64 n)] w fun e w' => e = .returned (.bool true) ∧ w' = w := by
  have hst := stands_int n (by omega)
  have o0 : FloatKind.f64.format.order (floatOfInt .f64 n) (floatOfInt .f64 n) = some .eq := order_self_finite _ (stands_finite hst)
  have olo : FloatKind.f64.format.order (floatOfInt .f64 n) 14114281232179134464 = some (compare (RI n) (-9223372036854775808)) := stands_order hst stands_lo
  have ohi : FloatKind.f64.format.order (floatOfInt .f64 n) 4890909195324358656 = some (compare (RI n) 9223372036854775808) := stands_order hst stands_hi
  have hle := rnd_le n.natAbs (by omega)
  have hb : -9223372036854775808 ≤ RI n ∧ RI n ≤ 9223372036854775808 := by
    unfold RI; split <;> omega
  have c1 : (FloatKind.f64.format.order (floatOfInt .f64 n) 14114281232179134464 == some .lt) = false := by rw [olo]; exact cmp_lt_false hb.1
  have c2 : (FloatKind.f64.format.order (floatOfInt .f64 n) 4890909195324358656 == some .gt) = false := by rw [ohi]; exact not_gt hb.2
  by_cases ht : RI n = 9223372036854775808
  · have c3 : (FloatKind.f64.format.order (floatOfInt .f64 n) 4890909195324358656 == some .eq) = true := by rw [ohi, ht, compare_self]; rfl
    refine near_top n _ w o0 c1 c2 c3 ?_
    unfold RI at ht
    by_cases hn : n < 0
    · rw [if_pos hn] at ht; omega
    · rw [if_neg hn] at ht
      have := rnd_top n.natAbs (by omega) (by omega)
      omega
  · have c3 : (FloatKind.f64.format.order (floatOfInt .f64 n) 4890909195324358656 == some .eq) = false := by rw [ohi]; exact cmp_eq_false ht
    have hcv : ∀ w, (convert 22 2 (.float .f64 (floatOfInt .f64 n))).run Try.prog w = .ok (.int .i64 (RI n)) w := fun w =>
      run_convert_float_int w 22 2 .f64 .i64 _ (RI n) (by kernel_rfl) Try.underlying2 (toIntVal hst hb.1 (by omega))
    have hst2 : Stands (floatOfInt .f64 (RI n)) (RI n) := by
      have := stands_int (RI n) (by omega)
      rw [RI_idem] at this
      exact this
    have o4 : FloatKind.f64.format.order (floatOfInt .f64 (RI n)) (floatOfInt .f64 n) = some .eq := by
      have := stands_order hst2 hst
      rw [compare_self] at this
      exact this
    obtain ⟨u, hu⟩ : ∃ u : Nat, u = 2 ^ (n.natAbs.log2 - 52) := ⟨_, rfl⟩
    obtain ⟨r1, r2, r3, r4⟩ := rnd_near n.natAbs u hu
    have hup : 0 < u := by rw [hu]; exact Nat.two_pow_pos _
    by_cases hn : n < 0
    · have hk : RI n = -(rnd n.natAbs : Int) := by unfold RI; rw [if_pos hn]
      have hp := rnd_pos n.natAbs (by omega)
      have hneg : RI n = (-(half u n.natAbs : Int)) * (u : Int) := by rw [hk, r1, Int.natCast_mul, Int.neg_mul]
      refine near_neg n.natAbs u n (RI n) _ w o0 c1 c2 c3 hcv o4 (show n = _ by omega) (by omega) hn h1 hu (by omega) hb.1 (by omega) (by omega) ?_ ?_
      · rw [hneg]; exact Int.mul_tmod_left _ _
      · intro h5 h6
        have h7 := r4 (by omega) h6
        rw [hneg, Int.mul_tdiv_cancel _ (by omega)]
        omega
    · have hk : RI n = (rnd n.natAbs : Int) := by unfold RI; rw [if_neg hn]
      have hpos : RI n = (half u n.natAbs : Int) * (u : Int) := by rw [hk, r1, Int.natCast_mul]
      obtain ⟨m, hm⟩ : ∃ m : Nat, n = (m : Int) := ⟨n.natAbs, by omega⟩
      have hmn : n.natAbs = m := by omega
      rw [hmn] at hu r1 r2 r3 r4 hk hpos
      have goal := near_pos m u (RI n) (floatOfInt .f64 n) w o0 c1 c2 c3 hcv o4 (by omega) hu (by omega) (by omega) (by omega) (by omega) (by rw [hpos]; exact Int.mul_emod_left _ _) (by
        intro h5 h6
        have h7 := r4 (by omega) h6
        rw [hpos, Int.mul_ediv_cancel _ (by omega)]
        omega)
      rw [← hm] at goal
      exact goal

end Go.Proofs.Qxb6604352a
