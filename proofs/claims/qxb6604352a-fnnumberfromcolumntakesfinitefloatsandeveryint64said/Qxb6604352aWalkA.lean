import Derived.Test.Qxb6604352aRows
import Derived.Test.Qxb6604352aPlain
import Derived.WalkKit
import Derived.WalkSpells
import Derived.WalkLawsBesides
import Derived.Laws.BitsAllLaws
namespace Go.Proofs.Qxb6604352a
open Go.RowKit

theorem call15 (b : Nat) (w : World) : (callFunc 15 #[.float .f64 b]).run Try.prog w = .ok (.value (.int .u64 b)) w :=
  run_callFunc_extern (e := Extern.MathFloatBits.float64bits) Try.func15 (by kernel_rfl) (by kernel_rfl) (by kernel_rfl) (by kernel_rfl) #[.float .f64 b] w
theorem call14 (n : Int) (w : World) : (callFunc 14 #[.int .u64 n]).run Try.prog w = .ok (.value (.float .f64 n.toNat)) w :=
  run_callFunc_extern (e := Extern.MathFloatBits.float64frombits) Try.func14 (by kernel_rfl) (by kernel_rfl) (by kernel_rfl) (by kernel_rfl) #[.int .u64 n] w

theorem ta_f_f (x : Nat) (w : World) : (Instr.typeAssert (.iface 22 (.float .f64 x)) 20 22 true).run Try.prog w = .ok (.tuple #[.float .f64 x, .bool true]) w := by kernel_rfl
theorem ta_i_f (n : Int) (w : World) : (Instr.typeAssert (.iface 2 (.int .i64 n)) 20 22 true).run Try.prog w = .ok (.tuple #[.float .f64 0, .bool false]) w := by kernel_rfl
theorem ta_i_i (n : Int) (w : World) : (Instr.typeAssert (.iface 2 (.int .i64 n)) 20 2 true).run Try.prog w = .ok (.tuple #[.int .i64 n, .bool true]) w := by kernel_rfl
theorem ta_s_f (s : ByteArray) (w : World) : (Instr.typeAssert (.iface 9 (.string s)) 20 22 true).run Try.prog w = .ok (.tuple #[.float .f64 0, .bool false]) w := by kernel_rfl
theorem ta_s_i (s : ByteArray) (w : World) : (Instr.typeAssert (.iface 9 (.string s)) 20 2 true).run Try.prog w = .ok (.tuple #[.int .i64 0, .bool false]) w := by kernel_rfl

attribute [local go_sem] call14 call15 ta_f_f ta_i_f ta_i_i ta_s_f ta_s_i

set_option maxHeartbeats 400000 in
theorem isNaN_any (x : Nat) (w : World) :
    Calls Try.prog 11 #[.float .f64 x] w fun e w' => e = .returned (.bool (Ieee.double.order x x != some .eq)) ∧ w' = w := by
  go_enter Try.func11, Try.ntmps11
  go_wp2
  go_ret
  exact ⟨rfl, rfl⟩

/-- The word without its sign. -/
def absW (x : Nat) : Nat := (bits .andNot .u64 (x : Int) 9223372036854775808).toNat
def nanB (x : Nat) : Bool := Ieee.double.order x x != some .eq
def infB (x : Nat) : Bool := Ieee.double.order (absW x) 9218868437227405311 == some .gt

set_option maxHeartbeats 400000 in
theorem abs_any (x : Nat) (w : World) :
    Calls Try.prog 13 #[.float .f64 x] w fun e w' => e = .returned (.float .f64 (absW x)) ∧ w' = w := by
  go_enter Try.func13, Try.ntmps13
  go_wp2
  go_ret
  exact ⟨rfl, rfl⟩

set_option maxHeartbeats 400000 in
theorem isInf_any (x : Nat) (w : World) :
    Calls Try.prog 12 #[.float .f64 x, .int .i64 0] w fun e w' => e = .returned (.bool (infB x)) ∧ w' = w := by
  go_enter Try.func12, Try.ntmps12
  go_wp2_with (go_at_call 13; refine (abs_any _ _).mono ?_; rintro e w' ⟨rfl, rfl⟩)
  go_ret
  exact ⟨rfl, rfl⟩

theorem isNaN_yes (x : Nat) (w : World) (h : nanB x = true) : Calls Try.prog 11 #[.float .f64 x] w fun e w' => e = .returned (.bool true) ∧ w' = w := by
  refine (isNaN_any x w).mono ?_
  rintro e w' ⟨rfl, rfl⟩
  exact ⟨by rw [← h]; rfl, rfl⟩
theorem isNaN_no (x : Nat) (w : World) (h : nanB x = false) : Calls Try.prog 11 #[.float .f64 x] w fun e w' => e = .returned (.bool false) ∧ w' = w := by
  refine (isNaN_any x w).mono ?_
  rintro e w' ⟨rfl, rfl⟩
  exact ⟨by rw [← h]; rfl, rfl⟩

set_option maxHeartbeats 400000 in
theorem num_float_nan (x : Nat) (w : World) (h : nanB x = true) :
    Calls Try.prog 10 #[.iface 22 (.float .f64 x)] w fun e w' => e = .returned (.tuple #[.iface 22 (.float .f64 x), .bool false]) ∧ w' = w := by
  go_enter Try.func10, Try.ntmps10
  go_wp2_with (go_at_call 11; refine (isNaN_yes _ _ h).mono ?_; rintro e w' ⟨rfl, rfl⟩)
  go_ret2
  exact ⟨rfl, rfl⟩
set_option maxHeartbeats 400000 in
theorem num_float (x : Nat) (w : World) (h : nanB x = false) :
    Calls Try.prog 10 #[.iface 22 (.float .f64 x)] w fun e w' => e = .returned (.tuple #[.iface 22 (.float .f64 x), .bool (!infB x)]) ∧ w' = w := by
  go_enter Try.func10, Try.ntmps10
  go_wp2_with (first | (go_at_call 11; refine (isNaN_no _ _ h).mono ?_; rintro e w' ⟨rfl, rfl⟩) | (go_at_call 12; refine (isInf_any _ _).mono ?_; rintro e w' ⟨rfl, rfl⟩))
  go_ret2
  exact ⟨rfl, rfl⟩
set_option maxHeartbeats 400000 in
theorem num_int (n : Int) (w : World) :
    Calls Try.prog 10 #[.iface 2 (.int .i64 n)] w fun e w' => e = .returned (.tuple #[.iface 22 (.float .f64 (floatOfInt .f64 n)), .bool true]) ∧ w' = w := by
  go_enter Try.func10, Try.ntmps10
  go_wp2
  go_ret2
  exact ⟨rfl, rfl⟩
set_option maxHeartbeats 400000 in
theorem num_string (s : ByteArray) (w : World) :
    Calls Try.prog 10 #[.iface 9 (.string s)] w fun e w' => e = .returned (.tuple #[.nilIface, .bool false]) ∧ w' = w := by
  go_enter Try.func10, Try.ntmps10
  go_wp2
  go_ret2
  exact ⟨rfl, rfl⟩

/-- Accepted: neither a NaN nor infinite. -/
def finB (x : Nat) : Bool := !nanB x && !infB x
theorem num_float_any (x : Nat) (w : World) :
    Calls Try.prog 10 #[.iface 22 (.float .f64 x)] w fun e w' => e = .returned (.tuple #[.iface 22 (.float .f64 x), .bool (finB x)]) ∧ w' = w := by
  by_cases h : nanB x = true
  · have e : finB x = false := by simp [finB, h]
    rw [e]; exact num_float_nan x w h
  · have h' : nanB x = false := by simpa using h
    have e : finB x = !infB x := by simp [finB, h']
    rw [e]; exact num_float x w h'

set_option maxHeartbeats 400000 in
theorem zzFloat (x : Nat) (w : World) :
    Calls Try.prog 6 #[.float .f64 x] w fun e w' => e = .returned (.tuple #[.float .f64 x, .bool true, .bool (finB x)]) ∧ w' = w := by
  go_enter Try.func6, Try.ntmps6
  go_wp2_with (go_at_call 10; refine (num_float_any _ _).mono ?_; rintro e w' ⟨rfl, rfl⟩)
  go_ret3
  exact ⟨rfl, rfl⟩
set_option maxHeartbeats 400000 in
theorem zzInt (n : Int) (w : World) :
    Calls Try.prog 7 #[.int .i64 n] w fun e w' => e = .returned (.tuple #[.float .f64 (floatOfInt .f64 n), .bool true, .bool true]) ∧ w' = w := by
  go_enter Try.func7, Try.ntmps7
  go_wp2_with (go_at_call 10; refine (num_int _ _).mono ?_; rintro e w' ⟨rfl, rfl⟩)
  go_ret3
  exact ⟨rfl, rfl⟩
set_option maxHeartbeats 400000 in
theorem zzString (s : ByteArray) (w : World) :
    Calls Try.prog 8 #[.string s] w fun e w' => e = .returned (.tuple #[.bool true, .bool false]) ∧ w' = w := by
  go_enter Try.func8, Try.ntmps8
  go_wp2_with (go_at_call 10; refine (num_string _ _).mono ?_; rintro e w' ⟨rfl, rfl⟩)
  go_ret2
  exact ⟨rfl, rfl⟩

end Go.Proofs.Qxb6604352a
