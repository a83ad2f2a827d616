/-
  Slices of strings and slices of such, as facts of the world; the walks that only read them.
-/
import Derived.Test.Qxb6604425aRows
import Derived.WalkKit
import Derived.WalkSpells
import Derived.WalkLawsBesides
namespace Go.Proofs.Qxb6604425a
open Go.RowKit

/-- A slice of strings at a, len long: each cell holds a string. -/
def StrRow (w : World) (a : Option Addr) (len : Nat) : Prop :=
  0 < len → ∃ b off, a = some ⟨b, off, none⟩ ∧ ∀ i, i < len → ∃ s : ByteArray, w.cell? ⟨b, off + i, none⟩ = some (.string s) ∧ s.size ≤ maxLen
/-- A slice of slices of strings. -/
def ListRow (w : World) (a : Option Addr) (len : Nat) : Prop :=
  0 < len → ∃ b off, a = some ⟨b, off, none⟩ ∧ ∀ i, i < len → ∃ a' l c, w.cell? ⟨b, off + i, none⟩ = some (.slice a' l c) ∧ StrRow w a' l ∧ l ≤ 8796093022208

/-- It gives some int and leaves the world. -/
def AnInt (w : World) (e : Ending) (w' : World) : Prop := ∃ t : Int, e = .returned (.int .i64 t) ∧ w' = w
/-- It gives some bool and leaves the world. -/
def ABool (w : World) (e : Ending) (w' : World) : Prop := ∃ t : Bool, e = .returned (.bool t) ∧ w' = w

set_option maxHeartbeats 400000 in
theorem strBytes (a : Option Addr) (len cap : Nat) (w : World) (hr : StrRow w a len) (hl : len ≤ 8796093022208) :
    Calls Try.prog 26 #[.slice a len cap] w (AnInt w) := by
  go_enter Try.func26, Try.ntmps26
  by_cases h1 : (1048576 : Int) < len
  · go_wp2
    go_ret
    exact ⟨_, rfl, rfl⟩
  · by_cases h2 : (1048576 : Int) < 16 * len
    · go_wp2
      go_ret
      exact ⟨_, rfl, rfl⟩
    · go_wp2
      go_loop [3, 4] (fun t i => ∃ (k : Nat) (x : Int), k ≤ len ∧ i = .int .i64 k ∧ t = .int .i64 x ∧ 0 ≤ x ∧ x ≤ 1048576) (fun _ i => len - (intOf i).toNat)
      case atStart => exact ⟨0, 16 * len, by omega, rfl, rfl, by omega, by omega⟩
      case round =>
        obtain ⟨k, x, hk, rfl, rfl, hx0, hx1⟩ := hrel
        by_cases hlt : (k : Int) < len
        · obtain ⟨b, off, rfl, hc⟩ := hr (by omega)
          obtain ⟨s, hs, hsz⟩ := hc k (by omega)
          clear hc hr
          unfold maxLen at hsz
          go_wp2
          · go_ret
            exact ⟨_, rfl, rfl⟩
          · go_ret
            exact ⟨_, rfl, rfl⟩
          · go_round
            case rel => exact ⟨k + 1, x + s.size, by omega, by go_num, by go_num, by omega, by omega⟩
            case measure => simp [intOf]; omega
        · go_wp2
          go_ret
          exact ⟨_, rfl, rfl⟩

set_option maxHeartbeats 1000000 in
theorem pairsBytes (a a2 : Option Addr) (len cap len2 cap2 : Nat) (w : World) (hr : StrRow w a len) (hl : len ≤ 8796093022208) (hr2 : ListRow w a2 len2) (hl2 : len2 ≤ 8796093022208) :
    Calls Try.prog 12 #[.slice a len cap, .slice a2 len2 cap2] w (AnInt w) := by
  go_enter Try.func12, Try.ntmps12
  go_wp2_with fail
  refine (strBytes a len cap w hr hl).mono ?_
  rintro e w' ⟨t, rfl, rfl⟩
  clear hr hl
  by_cases h1 : (1048576 : Int) < t
  · go_wp2
    go_ret
    exact ⟨_, rfl, rfl⟩
  · by_cases h2 : (1048576 : Int) < len2
    · go_wp2
      go_ret
      exact ⟨_, rfl, rfl⟩
    · by_cases h3 : (1048576 : Int) < wrap64 (t + 24 * len2)
      · go_wp2
        go_ret
        exact ⟨_, rfl, rfl⟩
      · go_wp2
        go_loop [5, 6] (fun t i => ∃ (k : Nat) (x : Int), k ≤ len2 ∧ i = .int .i64 k ∧ t = .int .i64 x) (fun _ i => len2 - (intOf i).toNat)
        case atStart => exact ⟨0, _, by omega, rfl, rfl⟩
        case round =>
          obtain ⟨k, x, hk, rfl, rfl⟩ := hrel
          by_cases hlt : (k : Int) < len2
          · obtain ⟨b, off, rfl, hc⟩ := hr2 (by omega)
            obtain ⟨a', l, c, hcell, hsr, hll⟩ := hc k (by omega)
            clear hc hr2
            go_wp2_with fail
            refine (strBytes a' l c _ hsr hll).mono ?_
            rintro e w2 ⟨t2, rfl, hw2⟩
            subst hw2
            clear hsr hll hcell
            by_cases h5 : (1048576 : Int) < wrap64 (x + t2)
            · go_wp2
              go_ret
              exact ⟨_, rfl, rfl⟩
            · go_wp2
              go_round
              case rel => exact ⟨k + 1, _, by omega, by go_num, rfl⟩
              case measure => simp [intOf]; omega
          · go_wp2
            go_ret
            exact ⟨_, rfl, rfl⟩

set_option maxHeartbeats 2000000 in
theorem zzBytes (a a2 : Option Addr) (len cap len2 cap2 : Nat) (nm : ByteArray) (w : World) (hr : StrRow w a len) (hl : len ≤ 8796093022208) (hr2 : ListRow w a2 len2) (hl2 : len2 ≤ 8796093022208) (_hnm : nm.size ≤ maxLen) :
    Calls Try.prog 11 #[.slice a len cap, .slice a2 len2 cap2, .string nm] w (ABool w) := by
  unfold maxLen at _hnm
  go_enter Try.func11, Try.ntmps11
  by_cases h1 : (1048576 : Int) < len
  · go_wp2
    go_ret
    exact ⟨_, rfl, rfl⟩
  · go_wp2
    go_loop [7, 8] (fun t i => ∃ (k : Nat) (x : Int), k ≤ len ∧ i = .int .i64 k ∧ t = .int .i64 x) (fun _ i => len - (intOf i).toNat)
    case atStart => exact ⟨0, _, by omega, rfl, rfl⟩
    case round =>
      obtain ⟨k, x, hk, rfl, rfl⟩ := hrel
      by_cases hlt : (k : Int) < len
      · obtain ⟨b, off, rfl, hc⟩ := hr (by omega)
        obtain ⟨s, hs, hsz⟩ := hc k (by omega)
        clear hc hr hr2
        unfold maxLen at hsz
        go_wp2
        · go_ret
          exact ⟨_, rfl, rfl⟩
        · go_ret
          exact ⟨_, rfl, rfl⟩
        · go_round
          case rel => exact ⟨k + 1, _, by omega, by go_num, rfl⟩
          case measure => simp [intOf]; omega
      · clear hr
        by_cases h2 : (1048576 : Int) < len2
        · go_wp2
          go_ret
          exact ⟨_, rfl, rfl⟩
        · by_cases h3 : (1048576 : Int) < wrap64 (x + len2)
          · go_wp2
            go_ret
            exact ⟨_, rfl, rfl⟩
          · go_wp2
            go_loop [7, 9] (fun t i => ∃ (k : Nat) (x : Int), k ≤ len2 ∧ i = .int .i64 k ∧ t = .int .i64 x) (fun _ i => len2 - (intOf i).toNat)
            case atStart => exact ⟨0, _, by omega, rfl, rfl⟩
            case round =>
              clear hlt hk h3
              obtain ⟨k2, y, hk2, rfl, rfl⟩ := hrel
              by_cases hlt : (k2 : Int) < len2
              · obtain ⟨b, off, rfl, hc⟩ := hr2 (by omega)
                obtain ⟨a', l, c, hcell, hsr, hll⟩ := hc k2 (by omega)
                clear hc hr2
                by_cases h4 : (1048576 : Int) < l
                · go_wp2
                  go_ret
                  exact ⟨_, rfl, rfl⟩
                · by_cases h5 : (1048576 : Int) < wrap64 (y + l)
                  · go_wp2
                    go_ret
                    exact ⟨_, rfl, rfl⟩
                  · go_wp2
                    go_loop [7, 10] (fun t i => ∃ (k : Nat) (x : Int), k ≤ l ∧ i = .int .i64 k ∧ t = .int .i64 x) (fun _ i => l - (intOf i).toNat)
                    case atStart => exact ⟨0, _, by omega, rfl, rfl⟩
                    case round =>
                      obtain ⟨k3, z, hk3, rfl, rfl⟩ := hrel
                      by_cases hlt3 : (k3 : Int) < l
                      · obtain ⟨b3, off3, rfl, hc3⟩ := hsr (by omega)
                        obtain ⟨s, hs, hsz⟩ := hc3 k3 (by omega)
                        clear hc3 hsr h5
                        unfold maxLen at hsz
                        go_wp2
                        · go_ret
                          exact ⟨_, rfl, rfl⟩
                        · go_ret
                          exact ⟨_, rfl, rfl⟩
                        · go_round
                          case rel => exact ⟨k3 + 1, _, by omega, by go_num, rfl⟩
                          case measure => simp [intOf]; omega
                      · clear hsr h5
                        go_wp2
                        go_round
                        case rel => exact ⟨k2 + 1, _, by omega, by go_num, rfl⟩
                        case measure => simp [intOf]; omega
              · go_wp2
                · go_ret
                  exact ⟨_, rfl, rfl⟩
                · go_ret
                  exact ⟨_, rfl, rfl⟩
                · go_ret
                  exact ⟨_, rfl, rfl⟩
end Go.Proofs.Qxb6604425a
