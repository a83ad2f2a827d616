/-
  'FnNumberFromColumnKeepsTheOrderOfIntegers': the row, proved. The frame is the given shell's.
-/
import Derived.Test.Qxb6604352aRows
import Derived.Test.Qxb6604352aPlainB
import Derived.WalkKit
import Derived.ProofKit
import Derived.OpenShut
import Derived.ShutString
namespace Go.Proofs.Qxb6604352a.fnNumberFromColumnKeepsTheOrderOfIntegers
open Go.ChangeShapes Go.WideShapes Go.ChangeAt Go.RowKit
open Go.ChangeMaps (open_string shut_string)
set_option linter.unusedVariables false      -- a walk need not use every 'w<i>' (that an integer argument fits its kind)

theorem own : ownKnob Try.prog.godebug = none := by kernel_rfl

open Ieee in
theorem abs_of_wf {n : Int} (h : (Lit.int .i64 n).wf = true) : n.natAbs < 2 ^ 64 := by
  simp [Lit.wf, IntKind.min, IntKind.max, IntKind.signed, IntKind.bits] at h
  omega

theorem zzFloat_of (n : Int) (h : n.natAbs < 2 ^ 64) (w : World) :
    Calls Try.prog 6 #[.float .f64 (floatOfInt .f64 n)] w fun e w' => e = .returned (.tuple #[.float .f64 (floatOfInt .f64 n), .bool true, .bool true]) ∧ w' = w := by
  have := zzFloat (floatOfInt .f64 n) w
  rw [fin_int n h] at this
  exact this

set_option maxHeartbeats 1000000 in
theorem walk (a0 : Int) (a1 : Int) (w0 : (Lit.int .i64 a0).wf = true) (w1 : (Lit.int .i64 a1).wf = true) (w : World) :
    Calls Try.prog 4 #[.int .i64 a0, .int .i64 a1] w fun e w' => e = .returned (.bool true) ∧ Grown w w' := by
  have h0 := abs_of_wf w0
  have h1 := abs_of_wf w1
  have hs : FloatKind.f64.format.order (floatOfInt .f64 a0) (floatOfInt .f64 a0) = some .eq := order_self_finite _ (stands_finite (stands_int a0 h0))
  have ho : FloatKind.f64.format.order (floatOfInt .f64 a0) (floatOfInt .f64 a1) = some (compare (RI a0) (RI a1)) := stands_order (stands_int a0 h0) (stands_int a1 h1)
  clear w0 w1
  rcases Int.lt_trichotomy a0 a1 with hlt | he | hlt
  · have hm := compare_le _ _ (RI_mono a0 a1 (by omega))
    have hb : (a0 == a1) = false := by simp; omega
    have hle : (FloatKind.f64.format.order (floatOfInt .f64 a0) (floatOfInt .f64 a1) == some .lt || FloatKind.f64.format.order (floatOfInt .f64 a0) (floatOfInt .f64 a1) == some .eq) = true := by
      rw [ho]; rcases hm with h | h <;> rw [h] <;> rfl
    clear ho hm
    go_enter Try.func4, Try.ntmps4
    go_wp2_with (first | (go_at_call 7; refine (zzInt _ _).mono ?_; rintro e w' ⟨rfl, rfl⟩) | (go_at_call 6; refine (zzFloat_of a0 h0 _).mono ?_; rintro e w' ⟨rfl, rfl⟩))
    go_ret
    exact ⟨rfl, Grown.refl _⟩
  · subst he
    clear ho
    go_enter Try.func4, Try.ntmps4
    go_wp2_with (first | (go_at_call 7; refine (zzInt _ _).mono ?_; rintro e w' ⟨rfl, rfl⟩) | (go_at_call 6; refine (zzFloat_of a0 h0 _).mono ?_; rintro e w' ⟨rfl, rfl⟩))
    go_ret
    exact ⟨rfl, Grown.refl _⟩
  · have hm := compare_ge _ _ (RI_mono a1 a0 (by omega))
    have hb : (a0 == a1) = false := by simp; omega
    have hle : (FloatKind.f64.format.order (floatOfInt .f64 a0) (floatOfInt .f64 a1) == some .gt || FloatKind.f64.format.order (floatOfInt .f64 a0) (floatOfInt .f64 a1) == some .eq) = true := by
      rw [ho]; rcases hm with h | h <;> rw [h] <;> rfl
    clear ho hm
    go_enter Try.func4, Try.ntmps4
    go_wp2_with (first | (go_at_call 7; refine (zzInt _ _).mono ?_; rintro e w' ⟨rfl, rfl⟩) | (go_at_call 6; refine (zzFloat_of a0 h0 _).mono ?_; rintro e w' ⟨rfl, rfl⟩))
    go_ret
    exact ⟨rfl, Grown.refl _⟩

/-! ### THE ROW's STEP: WRITTEN OUT: LEAVE IT -/
set_option maxRecDepth 100000 in
theorem lifted (os : Os) (started : os.Started) (H : Type) (enc : TypeId × Value → H) :
    ReturnsInHanded {} Try.checked os 4 .any (Rows.fnNumberFromColumnKeepsTheOrderOfIntegersSpec.pre6 enc Try.prog Try.f4 Rows.fnNumberFromColumnKeepsTheOrderOfIntegersRow.domain false) (Rows.fnNumberFromColumnKeepsTheOrderOfIntegersSpec.post enc Try.prog Try.f4 false true false false) := by
  refine returnsInHanded_of_change (C := Try.checked) own started (by kernel_rfl) Try.func4
    (ChangeSpec.witness6 (enc := enc) (C := Try.checked) false ⟨#[], #[.int .i64 0, .int .i64 0], []⟩ 8 (by kernel_rfl) (by kernel_rfl) (by kernel_rfl) (by kernel_rfl)) ?_
  intro W base args ds gs before hval0 hW hcnd _
  have hval : ∀ (j : Nat) t v, Try.f4.params[j]? = some t → args[j]? = some v → Value.okWide Try.prog W .any base t v := hval0
  have hW' := hW
  obtain ⟨p, q, hA0, hV, rfl, hfz, hnd⟩ := hW
  have hA : DataW.TrodAll enc Try.prog W 0 (fun _ => true) true Try.f4.params.toList args.toList ds p := hA0
  rw [Try.params4] at hA hval
  obtain ⟨v0, vs0, d0, ds0, p0, q0, hargs, rfl, rfl, h0, r0⟩ := trodAll_cons hA
  obtain ⟨v1, vs1, d1, ds1, p1, q1, rfl, rfl, rfl, h1, r1⟩ := trodAll_cons r0
  obtain ⟨rfl, rfl, rfl⟩ := trodAll_nil r1
  obtain rfl : args = #[v0, v1] := by cases args; simp_all
  obtain ⟨rfl, rfl⟩ := trodVars_none hV
  obtain ⟨a0, rfl, rfl, rfl, w0⟩ := open_int Try.underlying2 (hval 0 2 v0 rfl rfl) h0
  obtain ⟨a1, rfl, rfl, rfl, w1⟩ := open_int Try.underlying2 (hval 1 2 v1 rfl rfl) h1
  clear hA0 hval0
  simp only [List.append_nil] at hW'
  refine (walk a0 a1 w0 w1 W).mono fun e W' ⟨he, hg⟩ => ?_
  subst he
  exact ⟨_, rfl, post_of_same (pa := []) (pv := []) hW' (fun _ _ _ => (trodAll_cons_mk (shut_bool Try.underlying4 _) trodAll_mk0)) (fun sp _ => (trodAll_cons_mk (shut_int Try.underlying2 w0) (trodAll_cons_mk (shut_int Try.underlying2 w1) trodAll_mk0))) (fun _ _ => rfl) rfl
    (hg.frame _) hg.2.1 (ok_one (by kernel_rfl) rfl (okWide_bool_mk Try.underlying4 _))⟩

theorem over : Rows.fnNumberFromColumnKeepsTheOrderOfIntegersRow.holds Try.pinned (OpenSpec.ofChange Rows.fnNumberFromColumnKeepsTheOrderOfIntegersSpec) :=
  OpenClaim.holds_of_wide 4 Try.f4 rfl rfl rfl rfl rfl rfl rfl ⟨rfl, rfl, rfl, rfl, rfl⟩ rfl rfl rfl rfl rfl (by kernel_rfl) Try.func4 (by kernel_rfl)
    (of_decide_eq_true (by kernel_rfl)) (by unfold Func.isWrapper; first | (rw [if_pos (by decide +kernel)]; kernel_rfl) | (rw [if_neg (by decide +kernel)]; exact ⟨rfl, rfl⟩))
    (fun os started H enc _ => lifted os started H enc)

/-- ████ THE STATEMENT ████ -/
theorem proved : Rows.FnNumberFromColumnKeepsTheOrderOfIntegersSaid :=
  over
end Go.Proofs.Qxb6604352a.fnNumberFromColumnKeepsTheOrderOfIntegers
namespace Go.Proofs.Qxb6604352a
theorem keepsTheOrder_holds : Rows.FnNumberFromColumnKeepsTheOrderOfIntegersSaid := fnNumberFromColumnKeepsTheOrderOfIntegers.proved
end Go.Proofs.Qxb6604352a
