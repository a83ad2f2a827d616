/-
  Which words are accepted: plain facts.
-/
import Derived.Test.Qxb6604352aPlain
import Derived.Test.Qxb6604352aWalkA
namespace Go.Proofs.Qxb6604352a
open Ieee

theorem eb : double.binade = 4503599627370496 := by decide
theorem ei : double.infRung = 9218868437227405312 := by decide
theorem es : double.signWeight = 9223372036854775808 := by decide
theorem el : double.leastPlace = -1074 := by decide

theorem absW_eq (x : Nat) (h : x < 18446744073709551616) : absW x = x % 9223372036854775808 := by
  unfold absW
  have h1 := u64_andNot_nat x 9223372036854775808 h (by omega)
  have h2 : x &&& (18446744073709551615 - 9223372036854775808) = x % 9223372036854775808 := by
    have := Nat.and_two_pow_sub_one_eq_mod x 63
    simpa using this
  rw [h2] at h1
  have h3 : ((9223372036854775808 : Nat) : Int) = 9223372036854775808 := rfl
  rw [h3] at h1
  rw [h1, Int.toNat_natCast]

theorem read_finite (x : Nat) (h : x % 9223372036854775808 < 9218868437227405312) :
    ∃ m p : Nat, p ≤ 2045 ∧ m ≤ 9007199254740991 ∧ double.read x = .number (x / 9223372036854775808 % 2 == 1) m ((p : Int) - 1074) ∧ double.read (x % 9223372036854775808) = .number false m ((p : Int) - 1074) := by
  have e1 : x % 9223372036854775808 % 9223372036854775808 = x % 9223372036854775808 := by omega
  have e2 : (x % 9223372036854775808 / 9223372036854775808 % 2 == 1) = false := by
    have : x % 9223372036854775808 / 9223372036854775808 = 0 := by omega
    rw [this]; rfl
  by_cases hb : x % 9223372036854775808 < 4503599627370496
  · refine ⟨x % 9223372036854775808, 0, by omega, by omega, ?_, ?_⟩
    · unfold Format.read; dsimp only; rw [eb, es, el, if_pos hb]; rfl
    · unfold Format.read; dsimp only; rw [eb, es, el, e1, e2, if_pos hb]; rfl
  · refine ⟨4503599627370496 + x % 9223372036854775808 % 4503599627370496, x % 9223372036854775808 / 4503599627370496 - 1, by omega, by omega, ?_, ?_⟩
    · unfold Format.read; dsimp only; rw [eb, es, ei, el, if_neg hb, if_pos h]
      congr 1
    · unfold Format.read; dsimp only; rw [eb, es, ei, el, e1, e2, if_neg hb, if_pos h]
      congr 1

theorem read_inf (x : Nat) (h : x % 9223372036854775808 = 9218868437227405312) :
    double.read x = .infinity (x / 9223372036854775808 % 2 == 1) ∧ double.read (x % 9223372036854775808) = .infinity false := by
  constructor
  · unfold Format.read; dsimp only; rw [eb, es, ei, h]; rfl
  · rw [h]; decide

theorem read_nan (x : Nat) (h : 9218868437227405312 < x % 9223372036854775808) :
    double.read x = .nan (x / 9223372036854775808 % 2 == 1) (x % 9223372036854775808 - 9218868437227405312) := by
  unfold Format.read; dsimp only; rw [eb, es, ei, if_neg (by omega), if_neg (by omega), if_neg (by omega)]

theorem compare_self (a : Int) : compare a a = Ordering.eq := by
  show compareOfLessAndEq a a = _
  unfold compareOfLessAndEq
  simp
theorem compare_le (a b : Int) (h : a ≤ b) : compare a b = Ordering.lt ∨ compare a b = Ordering.eq := by
  show compareOfLessAndEq a b = _ ∨ compareOfLessAndEq a b = _
  unfold compareOfLessAndEq
  by_cases h1 : a < b
  · left; simp [h1]
  · right
    have : a = b := by omega
    simp [this]
theorem compare_ge (a b : Int) (h : b ≤ a) : compare a b = Ordering.gt ∨ compare a b = Ordering.eq := by
  show compareOfLessAndEq a b = _ ∨ compareOfLessAndEq a b = _
  unfold compareOfLessAndEq
  have h1 : ¬ a < b := by omega
  by_cases h2 : a = b
  · right; simp [h2]
  · left; simp [h1, h2]

theorem not_gt {a b : Int} (h : a ≤ b) : (some (compare a b) == some Ordering.gt) = false := by
  rcases compare_le _ _ h with h3 | h3 <;> rw [h3] <;> rfl
theorem signed_le (m n p q : Nat) (h1 : m ≤ n) (h2 : p ≤ q) : signed false m p ≤ signed false n q := by
  unfold signed
  simp only [Bool.false_eq_true, if_false, Nat.shiftLeft_eq]
  exact Int.ofNat_le.2 (Nat.mul_le_mul h1 (Nat.pow_le_pow_right (by omega) h2))

theorem order_self_finite (x : Nat) (h : x % 9223372036854775808 < 9218868437227405312) : double.order x x = some .eq := by
  obtain ⟨m, p, _, _, h1, _⟩ := read_finite x h
  unfold Format.order
  rw [h1, order_numbers, compare_self]
theorem order_self_inf (x : Nat) (h : x % 9223372036854775808 = 9218868437227405312) : double.order x x = some .eq := by
  unfold Format.order
  rw [(read_inf x h).1]
  cases (x / 9223372036854775808 % 2 == 1) <;> rfl
theorem order_self_nan (x : Nat) (h : 9218868437227405312 < x % 9223372036854775808) (y : Nat) : double.order x y = none := by
  unfold Format.order
  rw [read_nan x h]
  rfl

theorem read_max : double.read 9218868437227405311 = .number false 9007199254740991 (((2045 : Nat) : Int) - 1074) := by decide

theorem inf_finite (x : Nat) (hx : x < 18446744073709551616) (h : x % 9223372036854775808 < 9218868437227405312) : infB x = false := by
  obtain ⟨m, p, hp, hm, _, h2⟩ := read_finite x h
  unfold infB Format.order
  rw [absW_eq x hx, h2, read_max, order_numbers]
  exact not_gt (signed_le m _ p _ hm hp)
theorem inf_inf (x : Nat) (hx : x < 18446744073709551616) (h : x % 9223372036854775808 = 9218868437227405312) : infB x = true := by
  unfold infB Format.order
  rw [absW_eq x hx, (read_inf x h).2, read_max]
  rfl

/-- Accepted just where the word is that of a number. -/
theorem finB_eq (x : Nat) (hx : x < 18446744073709551616) : finB x = decide (x % 9223372036854775808 < 9218868437227405312) := by
  unfold finB nanB
  rcases Nat.lt_trichotomy (x % 9223372036854775808) 9218868437227405312 with h | h | h
  · rw [order_self_finite x h, inf_finite x hx h, decide_eq_true h]; rfl
  · rw [order_self_inf x h, inf_inf x hx h, decide_eq_false (by omega)]; rfl
  · rw [order_self_nan x h, decide_eq_false (by omega)]; rfl

theorem stands_finite {x : Nat} {N : Int} (h : Stands x N) : x % 9223372036854775808 < 9218868437227405312 := by
  obtain ⟨s, M, p, hr, _⟩ := h
  rcases Nat.lt_trichotomy (x % 9223372036854775808) 9218868437227405312 with h | h | h
  · exact h
  · rw [(read_inf x h).1] at hr; cases hr
  · rw [read_nan x h] at hr; cases hr

theorem word_lt (n : Int) : floatOfInt .f64 n < 18446744073709551616 := by
  have h := double.write_lt (.number (decide (n < 0)) n.natAbs 0)
  have hw : double.width = 64 := by decide
  rw [hw] at h
  exact h

theorem fin_int (n : Int) (h : n.natAbs < 2 ^ 64) : finB (floatOfInt .f64 n) = true := by
  rw [finB_eq _ (word_lt n), decide_eq_true (stands_finite (stands_int n h))]

end Go.Proofs.Qxb6604352a
