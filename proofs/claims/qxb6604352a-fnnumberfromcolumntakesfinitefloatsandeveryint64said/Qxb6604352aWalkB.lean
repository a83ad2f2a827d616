import Derived.Test.Qxb6604352aPlainB
namespace Go.Proofs.Qxb6604352a
open Go.RowKit


set_option maxHeartbeats 400000 in
theorem near_top (n : Int) (r : Nat) (w : World) (h0 : FloatKind.f64.format.order r r = some .eq) (h1 : (FloatKind.f64.format.order r 14114281232179134464 == some .lt) = false) (h2 : (FloatKind.f64.format.order r 4890909195324358656 == some .gt) = false)
    (h3 : (FloatKind.f64.format.order r 4890909195324358656 == some .eq) = true) (hn : 9223372036854775296 ≤ n) :
    Calls Try.prog 9 #[.int .i64 n, .float .f64 r] w fun e w' => e = .returned (.bool true) ∧ w' = w := by
  go_enter Try.func9, Try.ntmps9
  go_wp2
  go_ret
  exact ⟨by simp, rfl⟩

/-- b counts the binary digits of m so far, v is what is left. -/
def Counted (m b v : Nat) : Prop := v = m / 2 ^ b ∧ (b = 0 ∨ 2 ^ (b - 1) ≤ m)
theorem Counted.step {m b v : Nat} (h : Counted m b v) (hv : 0 < v) : Counted m (b + 1) (v / 2) := by
  obtain ⟨rfl, _⟩ := h
  refine ⟨by rw [Nat.div_div_eq_div_mul, Nat.pow_succ], Or.inr ?_⟩
  show 2 ^ b ≤ m
  have := (Nat.le_div_iff_mul_le (Nat.two_pow_pos b)).1 hv
  omega
theorem Counted.bound {m b v : Nat} (h : Counted m b v) (hm : m ≤ 9223372036854775808) : b ≤ 64 := by
  obtain ⟨_, h | h⟩ := h
  · omega
  · rcases Nat.lt_or_ge 64 b with h1 | h1
    · have : 2 ^ 64 ≤ 2 ^ (b - 1) := Nat.pow_le_pow_right (by omega) (by omega)
      omega
    · exact h1
theorem Counted.done {m b : Nat} (h : Counted m b 0) : b - 53 = m.log2 - 52 := by
  obtain ⟨h1, h2⟩ := h
  have h3 : m < 2 ^ b := by
    have := (Nat.div_lt_iff_lt_mul (Nat.two_pow_pos b)).1 (show m / 2 ^ b < 1 by omega)
    omega
  by_cases hm : m = 0
  · subst hm
    rcases h2 with h2 | h2
    · subst h2; decide
    · have := Nat.two_pow_pos (b - 1); omega
  · have hb : b ≠ 0 := by
      intro e; subst e; simp at h3; omega
    rcases h2 with h2 | h2
    · exact absurd h2 hb
    · have : m.log2 = b - 1 := (Nat.log2_eq_iff hm).2 ⟨h2, by rw [show b - 1 + 1 = b by omega]; exact h3⟩
      omega

theorem wrap_pow (d : Nat) (h : d ≤ 11) : IntKind.u64.wrap ((2 : Int) ^ d) = ((2 ^ d : Nat) : Int) := by
  have : ∀ d : Fin 12, IntKind.u64.wrap ((2 : Int) ^ d.val) = ((2 ^ d.val : Nat) : Int) := by decide
  exact this ⟨d, by omega⟩
theorem pow_bound (d : Nat) (h : d ≤ 11) : 2 ^ d ≤ 2048 := by
  have : ∀ d : Fin 12, 2 ^ d.val ≤ 2048 := by decide
  exact this ⟨d, by omega⟩

set_option maxHeartbeats 1000000 in
theorem near_pos (m u : Nat) (k : Int) (r : Nat) (w : World) (h0 : FloatKind.f64.format.order r r = some .eq) (h1 : (FloatKind.f64.format.order r 14114281232179134464 == some .lt) = false) (h2 : (FloatKind.f64.format.order r 4890909195324358656 == some .gt) = false)
    (h3 : (FloatKind.f64.format.order r 4890909195324358656 == some .eq) = false) (hcv : ∀ w, (convert 22 2 (.float .f64 r)).run Try.prog w = .ok (.int .i64 k) w)
    (h4 : FloatKind.f64.format.order (floatOfInt .f64 k) r = some .eq) (hn1 : (m : Int) ≤ 9223372036854775807)
    (hu : u = 2 ^ (m.log2 - 52)) (hk0 : 0 ≤ k) (hk1 : k ≤ 9223372036854775807) (f1 : 2 * (k - m) ≤ u) (f2 : 2 * (m - k) ≤ u) (f3 : k % u = 0) (f4 : 2 * (k - m) = u ∨ 2 * (m - k) = u → 1 < u → (k / u) % 2 = 0) :
    Calls Try.prog 9 #[.int .i64 m, .float .f64 r] w fun e w' => e = .returned (.bool true) ∧ w' = w := by
  have HU : Hid (u = 2 ^ (m.log2 - 52)) := hu
  have H4 : Hid (2 * (k - m) = u ∨ 2 * (m - k) = u → 1 < u → (k / u) % 2 = 0) := f4
  clear hu f4
  go_enter Try.func9, Try.ntmps9
  go_wp2
  clear h0 h1 h2 h3 h4 hcv
  go_loop [7, 8] (fun a c => ∃ b v : Nat, a = .int .i64 b ∧ c = .int .u64 v ∧ v ≤ m ∧ Counted m b v) (fun _ c => (intOf c).toNat)
  case atStart => exact ⟨0, m, rfl, rfl, by omega, by simp [Counted]⟩
  case round =>
    obtain ⟨b, v, rfl, rfl, hvm, hc⟩ := hrel
    have hb := hc.bound (by omega)
    by_cases hv : 0 < (v : Int)
    · have hst := hc.step (by omega)
      clear hc
      go_wp2
      go_round
      case rel => exact ⟨b + 1, v / 2, by go_num, by go_num, by omega, hst⟩
      case measure => simp [intOf]; omega
    · obtain rfl : v = 0 := by omega
      have hd := hc.done
      clear hc
      by_cases h53 : 53 < (b : Int)
      · have hwp := wrap_pow (b - 53) (by omega)
        have hpb := pow_bound (b - 53) (by omega)
        have hu1 : 2 ≤ u := by
          rw [HU.out, ← hd]
          have : 2 ^ 1 ≤ 2 ^ (b - 53) := Nat.pow_le_pow_right (by omega) (by omega)
          omega
        rw [hd, ← HU.out] at hwp hpb
        rw [← hd] at hwp
        have H5 : Hid (2 ^ (b - 53) = u) := by rw [HU.out, hd]; exact rfl
        clear hd HU
        have hu2 : 1 < (u : Int) := by omega
        have hu3 : (u : Int) ≤ 2048 := by omega
        have htm : ∀ q : Int, q % 2 = 0 → (q.tmod 2 != 0) = false := by
          intro q hq
          have : q.tmod 2 = 0 := Int.tmod_eq_zero_of_dvd (Int.dvd_of_emod_eq_zero hq)
          simp [this]
        by_cases hkn : (m : Int) ≤ k
        · by_cases ht : 2 * (k - m) = (u : Int)
          · have hev := htm _ (H4.out (Or.inl ht) (by omega))
            have htt : (2 * (k - m) == (u : Int)) = true := by simpa using ht
            clear ht htm
            go_wp2
            go_ret
            exact ⟨rfl, rfl⟩
          · have htt : (2 * (k - m) == (u : Int)) = false := by simpa using ht
            clear ht htm
            go_wp2
            go_ret
            exact ⟨rfl, rfl⟩
        · by_cases ht : 2 * (m - k) = (u : Int)
          · have hev := htm _ (H4.out (Or.inr ht) (by omega))
            have htt : (2 * (m - k) == (u : Int)) = true := by simpa using ht
            clear ht htm
            go_wp2
            go_ret
            exact ⟨rfl, rfl⟩
          · have htt : (2 * (m - k) == (u : Int)) = false := by simpa using ht
            clear ht htm
            go_wp2
            go_ret
            exact ⟨rfl, rfl⟩
      · have hu1 : u = 1 := by rw [HU.out, ← hd, show b - 53 = 0 by omega]
        obtain rfl : k = (m : Int) := by omega
        clear hd HU H4 f1 f2 f3 hu1
        go_wp2
        go_ret
        exact ⟨rfl, rfl⟩
end Go.Proofs.Qxb6604352a
