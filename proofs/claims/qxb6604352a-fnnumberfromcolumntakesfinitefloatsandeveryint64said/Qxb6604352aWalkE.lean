import Derived.Test.Qxb6604352aWalkD
namespace Go.Proofs.Qxb6604352a
open Go.RowKit

set_option maxHeartbeats 400000 in
theorem zzB_yes (x : Nat) (n : Int) (s : ByteArray) (w : World) (h : (s.size : Int) ≤ 1048576) :
    Calls Try.prog 5 #[.float .f64 x, .int .i64 n, .string s] w fun e w' => e = .returned (.bool true) ∧ w' = w := by
  go_enter Try.func5, Try.ntmps5
  go_wp2
  go_ret
  exact ⟨rfl, rfl⟩
set_option maxHeartbeats 400000 in
theorem zzB_no (x : Nat) (n : Int) (s : ByteArray) (w : World) (h : 1048576 < (s.size : Int)) :
    Calls Try.prog 5 #[.float .f64 x, .int .i64 n, .string s] w fun e w' => e = .returned (.bool false) ∧ w' = w := by
  go_enter Try.func5, Try.ntmps5
  go_wp2
  go_ret
  exact ⟨rfl, rfl⟩

set_option maxHeartbeats 400000 in
theorem law_big (x : Nat) (n : Int) (s : ByteArray) (w : World) (h : 1048576 < (s.size : Int)) :
    Calls Try.prog 3 #[.float .f64 x, .int .i64 n, .string s] w fun e w' => e = .returned (.bool true) ∧ w' = w := by
  go_enter Try.func3, Try.ntmps3
  go_wp2_with (go_at_call 5; refine (zzB_no _ _ _ _ h).mono ?_; rintro e w' ⟨rfl, rfl⟩)
  go_ret
  exact ⟨rfl, rfl⟩

/-- The NaN that the tape picks. -/
def nanPick (w : World) (x y : Nat) : Nat := Question.cut (.nanBits .f64 x y) (w.tape w.drawn (.nanBits .f64 x y))
theorem nanPick_nan (w : World) (x y : Nat) : 9218868437227405312 < nanPick w x y % 9223372036854775808 := by
  unfold nanPick Question.cut
  dsimp only
  generalize w.tape w.drawn (.nanBits .f64 x y) = t
  have h1 : t % 2 < 2 := Nat.mod_lt _ (by omega)
  have h2 : t / 2 % (2 ^ 52 - 1) < 2 ^ 52 - 1 := Nat.mod_lt _ (by decide)
  generalize t / 2 % (2 ^ 52 - 1) = q at *
  omega
theorem sub_nan (x : Nat) (h : Ieee.double.sub x x = none) (w : World) :
    (binOp .sub 22 (.float .f64 x) (.float .f64 x)).run Try.prog w = .ok (.float .f64 (nanPick w x x)) w.drew := by
  have h' : FloatKind.f64.format.sub x x = none := h
  simp [binOp, Op.floatArith, h', nanPick, Question.forced]
theorem sub_fin (x : Nat) (h : x % 9223372036854775808 < 9218868437227405312) (w : World) :
    (binOp .sub 22 (.float .f64 x) (.float .f64 x)).run Try.prog w = .ok (.float .f64 0) w := by
  refine run_float_arith w .sub 22 .f64 x x 0 ?_
  show Ieee.double.sub x x = some 0
  obtain ⟨m, p, _, _, hr, _⟩ := read_finite x h
  unfold Ieee.Format.sub
  rw [hr]
  unfold Ieee.Datum.opposite Ieee.Datum.sum Ieee.signed
  dsimp only
  cases (x / 9223372036854775808 % 2 == 1)
  · simp [Ieee.Format.write, Ieee.Format.nearest, Ieee.Format.word, Int.add_right_neg]
  · simp [Ieee.Format.write, Ieee.Format.nearest, Ieee.Format.word, Int.add_left_neg]
theorem sub_inf (x : Nat) (h : x % 9223372036854775808 = 9218868437227405312) : Ieee.double.sub x x = none := by
  unfold Ieee.Format.sub
  rw [(read_inf x h).1]
  cases (x / 9223372036854775808 % 2 == 1) <;> rfl
theorem sub_nan' (x : Nat) (h : 9218868437227405312 < x % 9223372036854775808) : Ieee.double.sub x x = none := by
  unfold Ieee.Format.sub
  rw [read_nan x h]
  rfl

set_option maxHeartbeats 1000000 in
theorem law_nan (x : Nat) (n : Int) (s : ByteArray) (w : World) (h : (s.size : Int) ≤ 1048576) (hn1 : -9223372036854775808 ≤ n) (hn2 : n ≤ 9223372036854775807) (hx : x < 18446744073709551616) (hnan : 9218868437227405312 < x % 9223372036854775808) :
    Calls Try.prog 3 #[.float .f64 x, .int .i64 n, .string s] w fun e w' => e = .returned (.bool true) ∧ Grown w w' := by
  have hf : finB x = false := by rw [finB_eq x hx]; simp; omega
  have ho : FloatKind.f64.format.order x x = none := order_self_nan x hnan x
  have hsub := sub_nan x (sub_nan' x hnan)
  have hz : ∀ w, FloatKind.f64.format.order (nanPick w x x) 0 = none := fun w => order_self_nan _ (nanPick_nan w x x) 0
  clear hx hnan
  go_enter Try.func3, Try.ntmps3
  go_wp2_with (first | (go_at_call 5; refine (zzB_yes _ _ _ _ h).mono ?_; rintro e w' ⟨rfl, rfl⟩) | (go_at_call 6; refine (zzFloat _ _).mono ?_; rintro e w' ⟨rfl, rfl⟩) | (go_at_call 7; refine (zzInt _ _).mono ?_; rintro e w' ⟨rfl, rfl⟩) | (go_at_call 8; refine (zzString _ _).mono ?_; rintro e w' ⟨rfl, rfl⟩) | (go_at_call 9; refine (near_any n hn1 hn2 _).mono ?_; rintro e w' ⟨rfl, rfl⟩))
  go_ret
  exact ⟨rfl, (Grown.refl _).drew⟩

theorem read_zero : Ieee.double.read 0 = .number false 0 (((0 : Nat) : Int) - 1074) := by decide
theorem inf_not_zero (x : Nat) (h : x % 9223372036854775808 = 9218868437227405312) : (FloatKind.f64.format.order x 0 == some .eq) = false := by
  show (Ieee.double.order x 0 == some .eq) = false
  unfold Ieee.Format.order
  rw [(read_inf x h).1, read_zero]
  cases (x / 9223372036854775808 % 2 == 1) <;> rfl
theorem fin_not_zero (x : Nat) (h : x % 9223372036854775808 < 9218868437227405312) (hz : x % 9223372036854775808 ≠ 0) : (FloatKind.f64.format.order x 0 == some .eq) = false := by
  show (Ieee.double.order x 0 == some .eq) = false
  obtain ⟨m, p, _, _, hr, hr2⟩ := read_finite x h
  have hm : m ≠ 0 := by
    intro e
    subst e
    unfold Ieee.Format.read at hr2
    dsimp only at hr2
    rw [eb, es, ei, el] at hr2
    by_cases hb : x % 9223372036854775808 < 4503599627370496
    · rw [if_pos (by omega)] at hr2
      simp only [Ieee.Datum.number.injEq] at hr2
      omega
    · rw [if_neg (by omega), if_pos (by omega)] at hr2
      simp only [Ieee.Datum.number.injEq] at hr2
      omega
  unfold Ieee.Format.order
  rw [hr, read_zero, order_numbers]
  refine cmp_eq_false ?_
  have h2 := Nat.two_pow_pos p
  have h3 : 0 < m * 2 ^ p := Nat.mul_pos (by omega) h2
  unfold Ieee.signed
  simp only [Nat.shiftLeft_eq, Nat.zero_mul]
  generalize m * 2 ^ p = q at *
  cases (x / 9223372036854775808 % 2 == 1) <;> simp <;> omega

set_option maxHeartbeats 1000000 in
theorem law_inf (x : Nat) (n : Int) (s : ByteArray) (w : World) (h : (s.size : Int) ≤ 1048576) (hn1 : -9223372036854775808 ≤ n) (hn2 : n ≤ 9223372036854775807) (hx : x < 18446744073709551616) (hinf : x % 9223372036854775808 = 9218868437227405312) :
    Calls Try.prog 3 #[.float .f64 x, .int .i64 n, .string s] w fun e w' => e = .returned (.bool true) ∧ Grown w w' := by
  have hf : finB x = false := by rw [finB_eq x hx]; simp; omega
  have ho : FloatKind.f64.format.order x x = some .eq := order_self_inf x hinf
  have hsub := sub_nan x (sub_inf x hinf)
  have hx0 := inf_not_zero x hinf
  have hz : ∀ w, FloatKind.f64.format.order (nanPick w x x) 0 = none := fun w => order_self_nan _ (nanPick_nan w x x) 0
  have hx1 : (FloatKind.f64.format.order x 0 != some .eq) = true := by simp only [bne, hx0]; rfl
  clear hx hinf hx0
  go_enter Try.func3, Try.ntmps3
  go_wp2_with (first | (go_at_call 5; refine (zzB_yes _ _ _ _ h).mono ?_; rintro e w' ⟨rfl, rfl⟩) | (go_at_call 6; refine (zzFloat _ _).mono ?_; rintro e w' ⟨rfl, rfl⟩) | (go_at_call 7; refine (zzInt _ _).mono ?_; rintro e w' ⟨rfl, rfl⟩) | (go_at_call 8; refine (zzString _ _).mono ?_; rintro e w' ⟨rfl, rfl⟩) | (go_at_call 9; refine (near_any n hn1 hn2 _).mono ?_; rintro e w' ⟨rfl, rfl⟩))
  go_ret
  exact ⟨rfl, (Grown.refl _).drew⟩

theorem order00 : FloatKind.f64.format.order 0 0 = some .eq := by decide +kernel
set_option maxHeartbeats 1000000 in
theorem law_fin (x : Nat) (n : Int) (s : ByteArray) (w : World) (h : (s.size : Int) ≤ 1048576) (hn1 : -9223372036854775808 ≤ n) (hn2 : n ≤ 9223372036854775807) (hx : x < 18446744073709551616) (hfin : x % 9223372036854775808 < 9218868437227405312) (hnz : x % 9223372036854775808 ≠ 0) :
    Calls Try.prog 3 #[.float .f64 x, .int .i64 n, .string s] w fun e w' => e = .returned (.bool true) ∧ Grown w w' := by
  have hf : finB x = true := by rw [finB_eq x hx]; simp; omega
  have ho : FloatKind.f64.format.order x x = some .eq := order_self_finite x hfin
  have hsub := sub_fin x hfin
  have hx0 := fin_not_zero x hfin hnz
  have hx1 : (FloatKind.f64.format.order x 0 != some .eq) = true := by simp only [bne, hx0]; rfl
  have h00 := order00
  clear hx hfin hx0 hnz
  go_enter Try.func3, Try.ntmps3
  go_wp2_with (first | (go_at_call 5; refine (zzB_yes _ _ _ _ h).mono ?_; rintro e w' ⟨rfl, rfl⟩) | (go_at_call 6; refine (zzFloat _ _).mono ?_; rintro e w' ⟨rfl, rfl⟩) | (go_at_call 7; refine (zzInt _ _).mono ?_; rintro e w' ⟨rfl, rfl⟩) | (go_at_call 8; refine (zzString _ _).mono ?_; rintro e w' ⟨rfl, rfl⟩) | (go_at_call 9; refine (near_any n hn1 hn2 _).mono ?_; rintro e w' ⟨rfl, rfl⟩))
  go_ret
  exact ⟨rfl, Grown.refl _⟩

theorem quo0 (w : World) : (binOp .quo 22 (.float .f64 4607182418800017408) (.float .f64 0)).run Try.prog w = .ok (.float .f64 9218868437227405312) w :=
  run_float_arith w .quo 22 .f64 _ _ _ (by decide +kernel)
theorem quo1 (w : World) : (binOp .quo 22 (.float .f64 4607182418800017408) (.float .f64 9223372036854775808)).run Try.prog w = .ok (.float .f64 18442240474082181120) w :=
  run_float_arith w .quo 22 .f64 _ _ _ (by decide +kernel)

set_option maxHeartbeats 1000000 in
theorem law_zero (n : Int) (s : ByteArray) (w : World) (h : (s.size : Int) ≤ 1048576) (hn1 : -9223372036854775808 ≤ n) (hn2 : n ≤ 9223372036854775807) :
    Calls Try.prog 3 #[.float .f64 0, .int .i64 n, .string s] w fun e w' => e = .returned (.bool true) ∧ Grown w w' := by
  have hf : finB 0 = true := by rw [finB_eq 0 (by omega)]; simp
  have hsub := sub_fin 0 (by omega)
  have h00 := order00
  have hq := quo0
  have hii : FloatKind.f64.format.order 9218868437227405312 9218868437227405312 = some .eq := by decide +kernel
  go_enter Try.func3, Try.ntmps3
  go_wp2_with (first | (go_at_call 5; refine (zzB_yes _ _ _ _ h).mono ?_; rintro e w' ⟨rfl, rfl⟩) | (go_at_call 6; refine (zzFloat _ _).mono ?_; rintro e w' ⟨rfl, rfl⟩) | (go_at_call 7; refine (zzInt _ _).mono ?_; rintro e w' ⟨rfl, rfl⟩) | (go_at_call 8; refine (zzString _ _).mono ?_; rintro e w' ⟨rfl, rfl⟩) | (go_at_call 9; refine (near_any n hn1 hn2 _).mono ?_; rintro e w' ⟨rfl, rfl⟩))
  go_ret
  exact ⟨rfl, Grown.refl _⟩

set_option maxHeartbeats 1000000 in
theorem law_minus (n : Int) (s : ByteArray) (w : World) (h : (s.size : Int) ≤ 1048576) (hn1 : -9223372036854775808 ≤ n) (hn2 : n ≤ 9223372036854775807) :
    Calls Try.prog 3 #[.float .f64 9223372036854775808, .int .i64 n, .string s] w fun e w' => e = .returned (.bool true) ∧ Grown w w' := by
  have hf : finB 9223372036854775808 = true := by rw [finB_eq _ (by omega)]; simp
  have hsub := sub_fin 9223372036854775808 (by omega)
  have ho : FloatKind.f64.format.order 9223372036854775808 9223372036854775808 = some .eq := by decide +kernel
  have ho2 : FloatKind.f64.format.order 9223372036854775808 0 = some .eq := by decide +kernel
  have h00 := order00
  have hq := quo1
  have hii : FloatKind.f64.format.order 18442240474082181120 18442240474082181120 = some .eq := by decide +kernel
  go_enter Try.func3, Try.ntmps3
  go_wp2_with (first | (go_at_call 5; refine (zzB_yes _ _ _ _ h).mono ?_; rintro e w' ⟨rfl, rfl⟩) | (go_at_call 6; refine (zzFloat _ _).mono ?_; rintro e w' ⟨rfl, rfl⟩) | (go_at_call 7; refine (zzInt _ _).mono ?_; rintro e w' ⟨rfl, rfl⟩) | (go_at_call 8; refine (zzString _ _).mono ?_; rintro e w' ⟨rfl, rfl⟩) | (go_at_call 9; refine (near_any n hn1 hn2 _).mono ?_; rintro e w' ⟨rfl, rfl⟩))
  go_ret
  exact ⟨rfl, Grown.refl _⟩

theorem law_any (x : Nat) (n : Int) (s : ByteArray) (w : World) (hn1 : -9223372036854775808 ≤ n) (hn2 : n ≤ 9223372036854775807) (hx : x < 18446744073709551616) :
    Calls Try.prog 3 #[.float .f64 x, .int .i64 n, .string s] w fun e w' => e = .returned (.bool true) ∧ Grown w w' := by
  by_cases hs : 1048576 < (s.size : Int)
  · refine (law_big x n s w hs).mono ?_
    rintro e w' ⟨he, hw⟩
    subst hw
    exact ⟨he, Grown.refl _⟩
  · rcases Nat.lt_trichotomy (x % 9223372036854775808) 9218868437227405312 with h | h | h
    · by_cases hz : x % 9223372036854775808 = 0
      · have : x = 0 ∨ x = 9223372036854775808 := by omega
        rcases this with rfl | rfl
        · exact law_zero n s w (by omega) hn1 hn2
        · exact law_minus n s w (by omega) hn1 hn2
      · exact law_fin x n s w (by omega) hn1 hn2 hx h hz
    · exact law_inf x n s w (by omega) hn1 hn2 hx h
    · exact law_nan x n s w (by omega) hn1 hn2 hx h

end Go.Proofs.Qxb6604352a
