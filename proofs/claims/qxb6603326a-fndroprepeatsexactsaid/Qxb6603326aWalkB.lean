/-
  The bound, the well-formedness test.
-/
import Derived.Test.Qxb6603326aWalkA
namespace Go.Proofs.Qxb6603326a
open Go.RowKit

/-- It gives some bool and leaves the world; where it is true the names are short. -/
def Short (S : Nat → ByteArray) (n : Nat) (w : World) (e : Ending) (w' : World) : Prop := ∃ t : Bool, e = .returned (.bool t) ∧ w' = w ∧ (t = true → ∀ k, k < n → (S k).size ≤ 1048576)

set_option maxHeartbeats 1000000 in
theorem zzB7 (a : Option Addr) (n cap : Nat) (S : Nat → ByteArray) (b : Option Addr) (m capb : Nat) (i : Int) (w : World) (hr : StrRow w a n S) (hn : n ≤ 140737488355328) (hm : m ≤ 140737488355328) (hz : ∀ i, (S i).size ≤ maxLen) :
    Calls Try.prog 7 #[.slice a n cap, .slice b m capb, .int .i64 i] w (Short S n w) := by
  go_enter Try.func7, Try.ntmps7
  by_cases h1 : (1048576 : Int) < n
  · go_wp2
    go_ret
    exact ⟨false, rfl, rfl, fun h => by cases h⟩
  · go_wp2
    go_loop [7, 8] (fun t i => ∃ (k : Nat) (x : Int), k ≤ n ∧ i = .int .i64 k ∧ t = .int .i64 x ∧ 0 ≤ x ∧ x ≤ 1048576 ∧ ∀ k0, k0 < k → (S k0).size ≤ 1048576) (fun _ i => n - (intOf i).toNat)
    case atStart => exact ⟨0, n, by omega, rfl, by go_num, by omega, by omega, fun k hk => by omega⟩
    case round =>
      obtain ⟨k, x, hk, rfl, rfl, hx0, hx1, hsh⟩ := hrel
      have HSH : Hid (∀ k0, k0 < k → (S k0).size ≤ 1048576) := hsh
      clear hsh
      by_cases hlt : (k : Int) < n
      · obtain ⟨b, off, rfl, hc⟩ := hr (by omega)
        have hs := hc k (by omega)
        have hsz := hz k
        clear hc hr hz
        unfold maxLen at hsz
        by_cases hbig : (1048576 : Int) < (S k).size
        · go_wp2
          go_ret
          exact ⟨false, rfl, rfl, fun h => by cases h⟩
        · by_cases hsum : (1048576 : Int) < x + (S k).size
          · go_wp2
            go_ret
            exact ⟨false, rfl, rfl, fun h => by cases h⟩
          · go_wp2
            go_round
            case rel => exact ⟨k + 1, x + (S k).size, by omega, by go_num, by go_num, by omega, by omega, fun k0 h0 => by
              rcases Nat.lt_or_ge k0 k with h | h
              · exact HSH.out k0 h
              · obtain rfl : k0 = k := by omega
                omega⟩
            case measure => simp [intOf]; omega
      · clear hr hz
        go_wp2
        all_goals (go_ret; first | exact ⟨false, rfl, rfl, fun h => by cases h⟩ | exact ⟨true, rfl, rfl, fun _ k0 h0 => HSH.out k0 (by omega)⟩)

/-- The test's answer; where it is true the chains are well formed. -/
def WFLeft (h : Nat → Int) (n m : Nat) (i : Int) (w : World) (e : Ending) (w' : World) : Prop :=
  ∃ t : Bool, e = .returned (.bool t) ∧ w' = w ∧ (t = true → m = n ∧ 0 ≤ i ∧ i < n ∧ WF h n)

set_option maxHeartbeats 2000000 in
theorem wellFormed (n : Nat) (b : Option Addr) (m capb : Nat) (h : Nat → Int) (i : Int) (w : World) (hr : IntRow w b m h) (hn : n ≤ 1048576) (_hm : m ≤ 1048576) :
    Calls Try.prog 8 #[.int .i64 n, .slice b m capb, .int .i64 i] w (WFLeft h n m i w) := by
  go_enter Try.func8, Try.ntmps8
  by_cases h1 : m = n
  · have HM : Hid (m = n) := h1
    have q1 : m ≤ n := by omega
    have q2 : n ≤ m := by omega
    have hb1 : ((m : Int) != n) = false := by simp; omega
    clear h1
    by_cases h2 : i < 0
    · go_wp2
      go_ret
      exact ⟨false, rfl, rfl, fun h => by cases h⟩
    · by_cases h3 : i < n
      · go_wp2
        go_loop [7] (fun k => ∃ k0 : Nat, k = .int .i64 k0 ∧ k0 ≤ n ∧ ∀ k, k < k0 → h k < 0 ∨ ((k : Int) < h k ∧ h k < n)) (fun k => n - (intOf k).toNat)
        case atStart => exact ⟨0, rfl, by omega, fun k hk => by omega⟩
        case round =>
          obtain ⟨k, rfl, hk, hwf⟩ := hrel
          by_cases hkn : (k : Int) < n
          · obtain ⟨bb, off, rfl, hc⟩ := hr (by omega)
            have hs := hc k (by omega)
            have hkm : (k : Int) < m := by omega
            have HW : Hid (∀ k0, k0 < k → h k0 < 0 ∨ ((k0 : Int) < h k0 ∧ h k0 < n)) := hwf
            clear hc hr hwf
            by_cases c1 : h k < 0
            · go_wp2
              go_round
              case rel => exact ⟨k + 1, by go_num, by omega, fun k0 h0 => by
                rcases Nat.lt_or_ge k0 k with h | h
                · exact HW.out k0 h
                · obtain rfl : k0 = k := by omega
                  exact Or.inl c1⟩
              case measure => simp [intOf]; omega
            · by_cases c2 : h k ≤ k
              · go_wp2
                go_ret
                exact ⟨false, rfl, rfl, fun h => by cases h⟩
              · by_cases c3 : h k < n
                · go_wp2
                  go_round
                  case rel => exact ⟨k + 1, by go_num, by omega, fun k0 h0 => by
                    rcases Nat.lt_or_ge k0 k with h | h
                    · exact HW.out k0 h
                    · obtain rfl : k0 = k := by omega
                      exact Or.inr ⟨by omega, c3⟩⟩
                  case measure => simp [intOf]; omega
                · go_wp2
                  go_ret
                  exact ⟨false, rfl, rfl, fun h => by cases h⟩
          · have HW : Hid (∀ k0, k0 < k → h k0 < 0 ∨ ((k0 : Int) < h k0 ∧ h k0 < n)) := hwf
            clear hr hwf
            go_wp2
            go_ret
            exact ⟨true, rfl, rfl, fun _ => ⟨HM.out, by omega, by omega, fun k0 h0 => HW.out k0 (by omega)⟩⟩
      · go_wp2
        go_ret
        exact ⟨false, rfl, rfl, fun h => by cases h⟩
  · have hb1 : ((m : Int) != n) = true := by simp; omega
    clear h1
    go_wp2
    go_ret
    exact ⟨false, rfl, rfl, fun h => by cases h⟩
end Go.Proofs.Qxb6603326a
