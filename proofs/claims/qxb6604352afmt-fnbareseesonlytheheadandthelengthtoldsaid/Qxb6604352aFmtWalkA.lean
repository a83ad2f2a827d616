import Derived.Test.Qxb6604352aFmtRows
import Derived.Test.Qxb6604352aFmtFacts
import Derived.WalkKit
import Derived.WalkSpells
import Derived.WalkLawsBesides
import Derived.Deep.RegionWith
namespace Go.Proofs.Qxb6604352aFmt
open Go.RowKit Go.Extern.Stop Go.Stop Go.Extern
attribute [local go_sem] call12 guardT fmtA fmtAr op3_100 op3_118 strict3

def cont (b : Int) : Bool := bits BinOp.and IntKind.u8 b 192 == 128

set_option maxHeartbeats 400000 in
theorem runeStart_any (b : Int) (w : World) :
    Calls Tryf.prog 11 #[.int .u8 b] w fun e w' => e = .returned (.bool (!cont b)) ∧ w' = w := by
  go_enter Tryf.func11, Tryf.ntmps11
  go_wp2
  go_ret
  exact ⟨rfl, rfl⟩

set_option maxHeartbeats 400000 in
theorem isCont_any (b : Int) (w : World) :
    Calls Tryf.prog 8 #[.int .u8 b] w fun e w' => e = .returned (.bool (cont b)) ∧ w' = w := by
  go_enter Tryf.func8, Tryf.ntmps8
  go_wp2
  go_ret
  exact ⟨rfl, rfl⟩

set_option maxHeartbeats 400000 in
theorem zzB5_yes (s : ByteArray) (w : World) (h : (s.size : Int) ≤ 1048576) :
    Calls Tryf.prog 5 #[.string s] w fun e w' => e = .returned (.bool true) ∧ w' = w := by
  go_enter Tryf.func5, Tryf.ntmps5
  go_wp2
  go_ret
  exact ⟨rfl, rfl⟩
set_option maxHeartbeats 400000 in
theorem zzB5_no (s : ByteArray) (w : World) (h : 1048576 < (s.size : Int)) :
    Calls Tryf.prog 5 #[.string s] w fun e w' => e = .returned (.bool false) ∧ w' = w := by
  go_enter Tryf.func5, Tryf.ntmps5
  go_wp2
  go_ret
  exact ⟨rfl, rfl⟩
set_option maxHeartbeats 400000 in
theorem zzB9_yes (s : ByteArray) (w : World) (h : (s.size : Int) ≤ 1048576) :
    Calls Tryf.prog 9 #[.string s] w fun e w' => e = .returned (.bool true) ∧ w' = w := by
  go_enter Tryf.func9, Tryf.ntmps9
  go_wp2
  go_ret
  exact ⟨rfl, rfl⟩
set_option maxHeartbeats 400000 in
theorem zzB9_no (s : ByteArray) (w : World) (h : 1048576 < (s.size : Int)) :
    Calls Tryf.prog 9 #[.string s] w fun e w' => e = .returned (.bool false) ∧ w' = w := by
  go_enter Tryf.func9, Tryf.ntmps9
  go_wp2
  go_ret
  exact ⟨rfl, rfl⟩

set_option maxHeartbeats 400000 in
theorem cut_short (s : ByteArray) (w : World) (h : (s.size : Int) ≤ 100) :
    Calls Tryf.prog 10 #[.string s] w fun e w' => e = .returned (.tuple #[.string s, .string ⟨#[]⟩]) ∧ w' = w := by
  go_enter Tryf.func10, Tryf.ntmps10
  go_wp2
  go_ret2
  exact ⟨rfl, rfl⟩

/-- What fmt.Sprintf is asked. -/
def reading (n : Int) : List (List UInt8) := [[46, 46, 46, 32, 40, 37, 100, 32, 98, 121, 116, 101, 115, 41], shape3, digits 8 (n % 18446744073709551616).toNat]

/-- The head's length: all behind it up to byte 100 are continuation bytes; at it there is none, unless it is 97. -/
def HeadAt (s : ByteArray) (n : Nat) : Prop :=
  ∃ (h : 100 < s.size) (h2 : n ≤ 100), (∀ i, n < i → (hi : i ≤ 100) → cont ((s[i]'(by omega)).toNat : Int) = true) ∧ (n = 97 ∨ cont ((s[n]'(by omega)).toNat : Int) = false)

/-- What 'cut' leaves of a long text. -/
def CutLeft (F : Interp) (s : ByteArray) (w : World) (e : Ending) (w' : World) : Prop :=
  ∃ n : Nat, 97 ≤ n ∧ n ≤ 100 ∧ HeadAt s n ∧ e = .returned (.tuple #[.string (s.extract 0 n), .string (FmtStop.textOf (F "fmt.Sprintf" (reading s.size) 0))]) ∧ Below w.heap.size w w'

set_option maxHeartbeats 800000 in
theorem cut_long (F : Interp) (s : ByteArray) (w : World) (hF : F.answers w.tape) (h : 100 < (s.size : Int)) (h2 : (s.size : Int) ≤ 1048576) :
    Calls Tryf.prog 10 #[.string s] w (CutLeft F s w) := by
  have hF' := answers_open hF
  go_enter Tryf.func10, Tryf.ntmps10
  go_wp2
  go_loop [4, 5] (fun a b => ∃ n : Nat, 97 ≤ n ∧ n ≤ 100 ∧ a = .int .i64 n ∧ b = .int .i64 (101 - n) ∧ Hid (∀ i, n < i → (hi : i ≤ 100) → cont ((s[i]'(by omega)).toNat : Int) = true)) (fun _ b => (5 - intOf b).toNat)
  case atStart => exact ⟨100, by omega, by omega, rfl, rfl, fun i h1 h2 => by omega⟩
  case round =>
    obtain ⟨n, hn1, hn2, rfl, rfl, HC⟩ := hrel
    have hns : n ≤ s.size := by omega
    by_cases h97 : n = 97
    · have hk : (4 : Int) ≤ 101 - n := by omega
      have hg : decide ((101 : Int) - n < 4) = false := by simp; omega
      have HN : Hid (n = 97) := h97
      clear h97
      go_wp2_with fail
      go_region_with (fail)
      all_goals (go_wp2; go_ret2)
      all_goals exact ⟨n, hn1, hn2, ⟨by omega, hn2, HC.out, .inl HN.out⟩, rfl, by (repeat' (first | exact Below.refl _ _ | refine Below.drew ?_ | refine Below.alloc ?_ (by simp) _))⟩
    · by_cases hc : cont ((s[n]'(by omega)).toNat : Int) = true
      · go_wp2_with (go_at_call 11; refine (runeStart_any _ _).mono ?_; rintro e w' ⟨rfl, rfl⟩)
        go_round
        case rel =>
          refine ⟨n - 1, by omega, by omega, ?_, ?_, ?_⟩
          · rw [show ((n - 1 : Nat) : Int) = (n : Int) - 1 from by omega]
          · rw [show ((n - 1 : Nat) : Int) = (n : Int) - 1 from by omega]; go_num
          · intro i h3 h4
            by_cases e : i = n
            · subst e; exact hc
            · exact HC.out i (by omega) h4
        case measure => simp [intOf]; omega
      · go_wp2_with (go_at_call 11; refine (runeStart_any _ _).mono ?_; rintro e w' ⟨rfl, rfl⟩)
        go_region_with (fail)
        all_goals (go_wp2; go_ret2)
        all_goals exact ⟨n, hn1, hn2, ⟨by omega, hn2, HC.out, .inr (by simpa using hc)⟩, rfl, by (repeat' (first | exact Below.refl _ _ | refine Below.drew ?_ | refine Below.alloc ?_ (by simp) _))⟩

end Go.Proofs.Qxb6604352aFmt
