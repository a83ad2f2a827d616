import Derived.Test.Qxb6604352aWalkB
namespace Go.Proofs.Qxb6604352a
open Go.RowKit

theorem wrap_sub (a b : Int) (h1 : 0 ≤ a - b) (h2 : a - b ≤ 9223372036854775808) : IntKind.u64.wrap (IntKind.u64.wrap a - IntKind.u64.wrap b) = a - b := by
  simp only [IntKind.wrap, IntKind.signed, IntKind.bits]
  simp
  omega

set_option maxHeartbeats 1000000 in
theorem near_neg (m u : Nat) (n k : Int) (r : Nat) (w : World) (h0 : FloatKind.f64.format.order r r = some .eq) (h1 : (FloatKind.f64.format.order r 14114281232179134464 == some .lt) = false) (h2 : (FloatKind.f64.format.order r 4890909195324358656 == some .gt) = false)
    (h3 : (FloatKind.f64.format.order r 4890909195324358656 == some .eq) = false) (hcv : ∀ w, (convert 22 2 (.float .f64 r)).run Try.prog w = .ok (.int .i64 k) w)
    (h4 : FloatKind.f64.format.order (floatOfInt .f64 k) r = some .eq) (hn : Hid (n = -(m : Int))) (hm : m ≤ 9223372036854775808) (hn1 : n < 0) (hn2 : -9223372036854775808 ≤ n)
    (hu : u = 2 ^ (m.log2 - 52)) (hk0 : k < 0) (hk1 : -9223372036854775808 ≤ k) (f1 : 2 * (k - n) ≤ u) (f2 : 2 * (n - k) ≤ u) (f3 : k.tmod u = 0) (f4 : 2 * (k - n) = u ∨ 2 * (n - k) = u → 1 < u → (k.tdiv u) % 2 = 0) :
    Calls Try.prog 9 #[.int .i64 n, .float .f64 r] w fun e w' => e = .returned (.bool true) ∧ w' = w := by
  have HU : Hid (u = 2 ^ (m.log2 - 52)) := hu
  have H4 : Hid (2 * (k - n) = u ∨ 2 * (n - k) = u → 1 < u → (k.tdiv u) % 2 = 0) := f4
  clear hu f4
  go_enter Try.func9, Try.ntmps9
  go_wp2
  clear h0 h1 h2 h3 h4 hcv
  go_loop [7, 8] (fun a c => ∃ b v : Nat, a = .int .i64 b ∧ c = .int .u64 v ∧ v ≤ m ∧ Counted m b v) (fun _ c => (intOf c).toNat)
  case atStart => exact ⟨0, m, rfl, by have := hn.out; go_num, by omega, by simp [Counted]⟩
  case round =>
    obtain ⟨b, v, rfl, rfl, hvm, hc⟩ := hrel
    have hb := hc.bound (by omega)
    by_cases hv : 0 < (v : Int)
    · have hst := hc.step (by omega)
      clear hc
      go_wp2
      go_round
      case rel => exact ⟨b + 1, v / 2, by go_num, by go_num, by omega, hst⟩
      case measure => simp [intOf]; omega
    · obtain rfl : v = 0 := by omega
      have hd := hc.done
      clear hc
      by_cases h53 : 53 < (b : Int)
      · have hwp := wrap_pow (b - 53) (by omega)
        have hpb := pow_bound (b - 53) (by omega)
        have hu1 : 2 ≤ u := by
          rw [HU.out, ← hd]
          have : 2 ^ 1 ≤ 2 ^ (b - 53) := Nat.pow_le_pow_right (by omega) (by omega)
          omega
        rw [hd, ← HU.out] at hwp hpb
        rw [← hd] at hwp
        have H5 : Hid (2 ^ (b - 53) = u) := by rw [HU.out, hd]; exact rfl
        clear hd HU
        have hu2 : 1 < (u : Int) := by omega
        have hu3 : (u : Int) ≤ 2048 := by omega
        have htm : ∀ q : Int, q % 2 = 0 → (q.tmod 2 != 0) = false := by
          intro q hq
          have : q.tmod 2 = 0 := Int.tmod_eq_zero_of_dvd (Int.dvd_of_emod_eq_zero hq)
          simp [this]
        by_cases hkn : n ≤ k
        · have hws := wrap_sub k n (by omega) (by omega)
          by_cases ht : 2 * (k - n) = (u : Int)
          · have hev := htm _ (H4.out (Or.inl ht) (by omega))
            have htt : (2 * (k - n) == (u : Int)) = true := by simpa using ht
            clear ht htm
            go_wp2
            go_ret
            exact ⟨rfl, rfl⟩
          · have htt : (2 * (k - n) == (u : Int)) = false := by simpa using ht
            clear ht htm
            go_wp2
            go_ret
            exact ⟨rfl, rfl⟩
        · have hws := wrap_sub n k (by omega) (by omega)
          by_cases ht : 2 * (n - k) = (u : Int)
          · have hev := htm _ (H4.out (Or.inr ht) (by omega))
            have htt : (2 * (n - k) == (u : Int)) = true := by simpa using ht
            clear ht htm
            go_wp2
            go_ret
            exact ⟨rfl, rfl⟩
          · have htt : (2 * (n - k) == (u : Int)) = false := by simpa using ht
            clear ht htm
            go_wp2
            go_ret
            exact ⟨rfl, rfl⟩
      · have hu1 : u = 1 := by rw [HU.out, ← hd, show b - 53 = 0 by omega]
        obtain rfl : k = n := by omega
        have hws := wrap_sub k k (by omega) (by omega)
        have hz : k - k = 0 := by omega
        rw [hz] at hws
        rw [hu1] at f3
        clear hd HU H4 f1 f2 hu1 hz
        go_wp2
        go_ret
        exact ⟨rfl, rfl⟩
end Go.Proofs.Qxb6604352a
