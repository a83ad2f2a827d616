/-
  The plain mathematics of float64(n) over Ieee.double: no Go in sight.
-/
import Derived.Laws.FloatArith
namespace Go.Proofs.Qxb6604352a
open Ieee

/-- m / g to the nearest, between two the even one. -/
def half (g m : Nat) : Nat := m / g + (decide (g < 2 * (m % g)) || (g == 2 * (m % g) && m / g % 2 == 1)).toNat

theorem half_cases (g m : Nat) : (2 * (m % g) < g ∧ half g m = m / g) ∨ (g < 2 * (m % g) ∧ half g m = m / g + 1) ∨
    (2 * (m % g) = g ∧ m / g % 2 = 0 ∧ half g m = m / g) ∨ (2 * (m % g) = g ∧ m / g % 2 = 1 ∧ half g m = m / g + 1) := by
  unfold half
  rcases Nat.lt_trichotomy (2 * (m % g)) g with h | h | h
  · left
    have h1 : ¬ g < 2 * (m % g) := by omega
    have h2 : ¬ g = 2 * (m % g) := by omega
    simp [h, h1, h2]
  · right; right
    have h1 : ¬ g < 2 * (m % g) := by omega
    rcases Nat.mod_two_eq_zero_or_one (m / g) with h2 | h2
    · left; simp [h, h2]
    · right; simp [h, h2]
  · right; left
    simp [h]

theorem half_mono (g a b : Nat) (h : a ≤ b) : half g a ≤ half g b := by
  have h1 : a / g ≤ b / g := Nat.div_le_div_right h
  have ha := half_cases g a
  have hb := half_cases g b
  by_cases hq : a / g = b / g
  · have h3 : a % g ≤ b % g := by
      have e1 := Nat.div_add_mod a g
      have e2 := Nat.div_add_mod b g
      rw [hq] at e1
      omega
    omega
  · omega

theorem half_one (m : Nat) : half 1 m = m := by
  have := half_cases 1 m
  have h1 : m % 1 = 0 := Nat.mod_one m
  have h2 : m / 1 = m := Nat.div_one m
  rw [h2, h1] at this
  omega

theorem half_bounds (g m : Nat) (hg : 0 < g) (h1 : 4503599627370496 * g ≤ m) (h2 : m < 9007199254740992 * g) : 4503599627370496 ≤ half g m ∧ half g m ≤ 9007199254740992 := by
  have a : 4503599627370496 ≤ m / g := (Nat.le_div_iff_mul_le hg).2 h1
  have b : m / g < 9007199254740992 := (Nat.div_lt_iff_lt_mul hg).2 h2
  have := half_cases g m
  omega

theorem cut_even (neg : Bool) (n drop : Nat) (h : drop ≤ n.log2 + 2) : Toward.even.cut neg n drop = half (2 ^ drop) n := by
  unfold Toward.cut half
  rw [Nat.min_eq_left h, Nat.one_shiftLeft]

/-- The whole number that float64(m) stands for. -/
def rnd (m : Nat) : Nat := half (2 ^ (m.log2 - 52)) m * 2 ^ (m.log2 - 52)
def RI (n : Int) : Int := if n < 0 then -(rnd n.natAbs : Int) else (rnd n.natAbs : Int)

theorem rnd_zero : rnd 0 = 0 := by decide
theorem rnd_zero_mul (a b : Nat) : 0 * a = rnd 0 * b := by rw [rnd_zero, Nat.zero_mul, Nat.zero_mul]

/-- What the word of a sign and a rung with its significand reads as. -/
theorem read_word (neg : Bool) (E kept : Nat) (hE : E ≤ 1090) (h1 : 4503599627370496 ≤ kept) (h2 : kept ≤ 9007199254740992) :
    ∃ (M : Nat) (p : Nat), double.read (double.word neg (min (E * double.binade + kept) double.infRung)) = .number neg M ((p : Int) - 1074) ∧ M * 2 ^ p = kept * 2 ^ E := by
  have eb : double.binade = 4503599627370496 := by decide
  have ei : double.infRung = 9218868437227405312 := by decide
  have es : double.signWeight = 9223372036854775808 := by decide
  have el : double.leastPlace = -1074 := by decide
  have hm : min (E * 4503599627370496 + kept) 9218868437227405312 = E * 4503599627370496 + kept := by omega
  rw [eb, ei, hm]
  unfold Format.read
  dsimp only
  rw [eb, ei, es, el]
  have hneg : (double.word neg (E * 4503599627370496 + kept) / 9223372036854775808 % 2 == 1) = neg := by
    unfold Format.word
    rw [es]
    cases neg
    · simp; omega
    · simp; omega
  have hr : double.word neg (E * 4503599627370496 + kept) % 9223372036854775808 = E * 4503599627370496 + kept := by
    unfold Format.word
    rw [es]
    cases neg
    · simp; omega
    · simp; omega
  rw [hneg, hr]
  rw [if_neg (by omega), if_pos (by omega)]
  by_cases hk : kept = 9007199254740992
  · refine ⟨4503599627370496, E + 1, ?_, ?_⟩
    · congr 1
      · omega
      · omega
    · rw [hk, Nat.pow_succ]; omega
  · refine ⟨kept, E, ?_, rfl⟩
    congr 1
    · omega
    · omega

theorem log2_le (m : Nat) (h : m < 2 ^ 64) (h0 : m ≠ 0) : m.log2 ≤ 63 := by
  have := (Nat.log2_lt h0 (k := 64)).2 h
  omega

/-- float64(m)'s word. -/
theorem nearest_reads (neg : Bool) (m : Nat) (h : m < 2 ^ 64) :
    ∃ (M : Nat) (p : Nat), double.read (double.nearest neg m 0) = .number neg M ((p : Int) - 1074) ∧ M * 2 ^ p = rnd m * 2 ^ 1074 := by
  by_cases h0 : m = 0
  · subst h0
    refine ⟨0, 0, ?_, rnd_zero_mul _ _⟩
    cases neg <;> decide
  · have hL := log2_le m h h0
    have l1 := Nat.log2_self_le h0
    have l2 := Nat.lt_log2_self (n := m)
    unfold Format.nearest
    rw [if_neg h0]
    have el : double.leastPlace = -1074 := by decide
    have ef : double.fractionBits = 52 := rfl
    dsimp only
    rw [el, ef]
    have hlast : max ((0 : Int) + (m.log2 : Int) - ((52 : Nat) : Int)) (-1074) = (m.log2 : Int) - 52 := by omega
    rw [hlast]
    have hE : ((m.log2 : Int) - 52 - -1074).toNat = m.log2 + 1022 := by omega
    rw [hE]
    by_cases hb : 52 ≤ m.log2
    · have e1 : (0 - ((m.log2 : Int) - 52)).toNat = 0 := by omega
      have e2 : ((m.log2 : Int) - 52 - 0).toNat = m.log2 - 52 := by omega
      rw [e1, e2, Nat.shiftLeft_zero, cut_even neg m (m.log2 - 52) (by omega)]
      have hp : 2 ^ m.log2 = 4503599627370496 * 2 ^ (m.log2 - 52) := by
        rw [show (4503599627370496 : Nat) = 2 ^ 52 by decide, ← Nat.pow_add]; congr 1; omega
      have hp2 : 2 ^ (m.log2 + 1) = 9007199254740992 * 2 ^ (m.log2 - 52) := by
        rw [show (9007199254740992 : Nat) = 2 ^ 53 by decide, ← Nat.pow_add]; congr 1; omega
      have hk := half_bounds (2 ^ (m.log2 - 52)) m (Nat.two_pow_pos _) (by omega) (by omega)
      obtain ⟨M, p, hr, hv⟩ := read_word neg (m.log2 + 1022) (half (2 ^ (m.log2 - 52)) m) (by omega) hk.1 hk.2
      refine ⟨M, p, hr, ?_⟩
      rw [hv]
      unfold rnd
      rw [Nat.mul_assoc, ← Nat.pow_add 2 (m.log2 - 52) 1074, show m.log2 - 52 + 1074 = m.log2 + 1022 by omega]
    · have e1 : (0 - ((m.log2 : Int) - 52)).toNat = 52 - m.log2 := by omega
      have e2 : ((m.log2 : Int) - 52 - 0).toNat = 0 := by omega
      rw [e1, e2, cut_even neg _ 0 (by omega), Nat.pow_zero, half_one, Nat.shiftLeft_eq]
      have hp : 2 ^ m.log2 * 2 ^ (52 - m.log2) = 4503599627370496 := by
        rw [show (4503599627370496 : Nat) = 2 ^ 52 by decide, ← Nat.pow_add]; congr 1; omega
      have hp2 : 2 ^ (m.log2 + 1) * 2 ^ (52 - m.log2) = 9007199254740992 := by
        rw [show (9007199254740992 : Nat) = 2 ^ 53 by decide, ← Nat.pow_add]; congr 1; omega
      have hk1 : 4503599627370496 ≤ m * 2 ^ (52 - m.log2) := by rw [← hp]; exact Nat.mul_le_mul_right _ l1
      have hk2 : m * 2 ^ (52 - m.log2) ≤ 9007199254740992 := by rw [← hp2]; exact Nat.mul_le_mul_right _ (by omega)
      obtain ⟨M, p, hr, hv⟩ := read_word neg (m.log2 + 1022) (m * 2 ^ (52 - m.log2)) (by omega) hk1 hk2
      refine ⟨M, p, hr, ?_⟩
      rw [hv]
      unfold rnd
      rw [show m.log2 - 52 = 0 by omega, Nat.pow_zero, half_one, Nat.mul_one, Nat.mul_assoc, ← Nat.pow_add 2 (52 - m.log2) (m.log2 + 1022), show 52 - m.log2 + (m.log2 + 1022) = 1074 by omega]


/-! ### The value of a datum, scaled -/

theorem signed_mul (s : Bool) (m a b : Nat) : signed s m (a + b) = signed s m a * ((2 ^ b : Nat) : Int) := by
  unfold signed
  simp only [Nat.shiftLeft_eq, Nat.pow_add, ← Nat.mul_assoc]
  cases s
  · simp only [Bool.false_eq_true, if_false, Int.natCast_mul]
  · simp only [if_true, Int.natCast_mul, Int.neg_mul]

theorem compare_scale (a b c : Int) (hc : 0 < c) : compare (a * c) (b * c) = compare a b := by
  have h1 : a * c < b * c ↔ a < b := Int.mul_lt_mul_right hc
  have h2 : a * c = b * c ↔ a = b := Int.mul_eq_mul_right_iff (by omega)
  show compareOfLessAndEq (a * c) (b * c) = compareOfLessAndEq a b
  unfold compareOfLessAndEq
  simp only [h1, h2]

theorem order_numbers (s t : Bool) (m n p q : Nat) :
    Datum.order (.number s m ((p : Int) - 1074)) (.number t n ((q : Int) - 1074)) = some (compare (signed s m p) (signed t n q)) := by
  unfold Datum.order
  dsimp only
  congr 1
  obtain ⟨b, hb⟩ : ∃ b : Nat, b = min p q := ⟨_, rfl⟩
  have e1 : ((p : Int) - 1074 - min ((p : Int) - 1074) ((q : Int) - 1074)).toNat = p - b := by omega
  have e2 : ((q : Int) - 1074 - min ((p : Int) - 1074) ((q : Int) - 1074)).toNat = q - b := by omega
  rw [e1, e2]
  have f1 : signed s m p = signed s m (p - b) * ((2 ^ b : Nat) : Int) := by rw [← signed_mul]; congr 1; omega
  have f2 : signed t n q = signed t n (q - b) * ((2 ^ b : Nat) : Int) := by rw [← signed_mul]; congr 1; omega
  rw [f1, f2, compare_scale]
  have := Nat.two_pow_pos b
  omega

/-- The word x stands for the whole number N. -/
def Stands (x : Nat) (N : Int) : Prop := ∃ (s : Bool) (M p : Nat), double.read x = .number s M ((p : Int) - 1074) ∧ signed s M p = N * ((2 ^ 1074 : Nat) : Int)

theorem stands_order {x y : Nat} {N K : Int} (hx : Stands x N) (hy : Stands y K) : double.order x y = some (compare N K) := by
  obtain ⟨s, M, p, hr, hv⟩ := hx
  obtain ⟨t, L, q, hr2, hv2⟩ := hy
  unfold Format.order
  rw [hr, hr2, order_numbers, hv, hv2, compare_scale]
  have := Nat.two_pow_pos 1074
  omega

theorem stands_int (n : Int) (h : n.natAbs < 2 ^ 64) : Stands (floatOfInt .f64 n) (RI n) := by
  obtain ⟨M, p, hr, hv⟩ := nearest_reads (decide (n < 0)) n.natAbs h
  refine ⟨decide (n < 0), M, p, hr, ?_⟩
  unfold signed RI
  simp only [Nat.shiftLeft_eq, hv, decide_eq_true_eq]
  by_cases hn : n < 0
  · simp only [hn, if_true, Int.natCast_mul, Int.neg_mul]
  · simp only [hn, if_false, Int.natCast_mul]

theorem rnd_mono (a b : Nat) (h : a ≤ b) : rnd a ≤ rnd b := by
  by_cases ha : a = 0
  · subst ha; rw [rnd_zero]; omega
  by_cases hb : b = 0
  · omega
  have a1 := Nat.log2_self_le ha
  have a2 := Nat.lt_log2_self (n := a)
  have b1 := Nat.log2_self_le hb
  have b2 := Nat.lt_log2_self (n := b)
  by_cases he : a.log2 = b.log2
  · unfold rnd
    rw [he]
    exact Nat.mul_le_mul_right _ (half_mono _ _ _ h)
  · have hl : a.log2 < b.log2 := by
      rcases Nat.lt_trichotomy a.log2 b.log2 with h1 | h1 | h1
      · exact h1
      · exact absurd h1 he
      · have : 2 ^ (b.log2 + 1) ≤ 2 ^ a.log2 := Nat.pow_le_pow_right (by omega) h1
        omega
    have u : rnd a ≤ 2 ^ (a.log2 + 1) := by
      unfold rnd
      by_cases h52 : 52 ≤ a.log2
      · have hp : 2 ^ a.log2 = 4503599627370496 * 2 ^ (a.log2 - 52) := by
          rw [show (4503599627370496 : Nat) = 2 ^ 52 by decide, ← Nat.pow_add]; congr 1; omega
        have hp2 : 2 ^ (a.log2 + 1) = 9007199254740992 * 2 ^ (a.log2 - 52) := by
          rw [show (9007199254740992 : Nat) = 2 ^ 53 by decide, ← Nat.pow_add]; congr 1; omega
        have hk := half_bounds (2 ^ (a.log2 - 52)) a (Nat.two_pow_pos _) (by omega) (by omega)
        rw [hp2]
        exact Nat.mul_le_mul_right _ hk.2
      · rw [show a.log2 - 52 = 0 by omega, Nat.pow_zero, half_one, Nat.mul_one]; omega
    have l : 2 ^ b.log2 ≤ rnd b := by
      unfold rnd
      by_cases h52 : 52 ≤ b.log2
      · have hp : 2 ^ b.log2 = 4503599627370496 * 2 ^ (b.log2 - 52) := by
          rw [show (4503599627370496 : Nat) = 2 ^ 52 by decide, ← Nat.pow_add]; congr 1; omega
        have hp2 : 2 ^ (b.log2 + 1) = 9007199254740992 * 2 ^ (b.log2 - 52) := by
          rw [show (9007199254740992 : Nat) = 2 ^ 53 by decide, ← Nat.pow_add]; congr 1; omega
        have hk := half_bounds (2 ^ (b.log2 - 52)) b (Nat.two_pow_pos _) (by omega) (by omega)
        rw [hp]
        exact Nat.mul_le_mul_right _ hk.1
      · rw [show b.log2 - 52 = 0 by omega, Nat.pow_zero, half_one, Nat.mul_one]; omega
    have : 2 ^ (a.log2 + 1) ≤ 2 ^ b.log2 := Nat.pow_le_pow_right (by omega) hl
    omega

theorem RI_mono (a b : Int) (h : a ≤ b) : RI a ≤ RI b := by
  unfold RI
  by_cases ha : a < 0
  · by_cases hb : b < 0
    · rw [if_pos ha, if_pos hb]
      have := rnd_mono b.natAbs a.natAbs (by omega)
      omega
    · rw [if_pos ha, if_neg hb]
      omega
  · rw [if_neg ha, if_neg (by omega)]
    have := rnd_mono a.natAbs b.natAbs (by omega)
    omega

end Go.Proofs.Qxb6604352a
