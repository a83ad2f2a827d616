/-
  The complaints: fmt.Errorf by contracts.
-/
import Derived.Test.Qxb6604560aFmtRows
import Derived.Test.Qxb6604560aFmtFacts
import Derived.WalkKit
import Derived.WalkSpells
import Derived.WalkLawsBesides
namespace Go.Proofs.Qxb6604560aFmt
open Go.RowKit Go.Extern.Stop Go.Stop Go.Extern
attribute [local go_sem] call28 call59 guardT fmtA fmtAr fmtB fmtBr fmtC fmtCr act3_100w op3_100w act9_115w op9_115w op21_85s act56_119w isError56 str56 ptr59 elem59 isError59 ptr55 elem55 isError55

/-- Some error that is not nil; what was there stays. -/
def AnErr (w : World) (e : Ending) (w' : World) : Prop := ∃ t v, e = .returned (.iface t v) ∧ Below w.heap.size w w'

set_option maxHeartbeats 800000 in
theorem error58 (F : Interp) (c : Int) (w : World) (hF : F.answers w.tape) (h0 : 0 ≤ c) (h1 : c ≤ 255) :
    Calls Tryf.prog 58 #[.int .u8 c] w fun e w' => ∃ s : ByteArray, e = .returned (.string s) ∧ w' = (w.alloc (.cells #[.iface 21 (.int .i32 c)] 20)).drew := by
  have hF' := answers_open hF
  go_enter Tryf.func58, Tryf.ntmps58
  go_wp2
  go_ret
  exact ⟨_, rfl, rfl⟩

set_option maxHeartbeats 800000 in
theorem errLen (F : Interp) (what : ByteArray) (n m : Int) (b : Nat) (w : World) (hF : F.answers w.tape) (h0 : w.cell? ⟨b, 0, none⟩ = some (.iface 9 (.string what))) (h1 : w.cell? ⟨b, 1, none⟩ = some (.iface 3 (.int .i64 n))) (h2 : w.cell? ⟨b, 2, none⟩ = some (.iface 3 (.int .i64 m))) :
    Calls Tryf.prog 24 #[.string ⟨#[37, 115, 32, 104, 97, 115, 32, 37, 100, 32, 98, 121, 116, 101, 115, 44, 32, 119, 97, 110, 116, 32, 37, 100, 32, 104, 101, 120, 97, 100, 101, 99, 105, 109, 97, 108, 32, 100, 105, 103, 105, 116, 115]⟩, .slice (some ⟨b, 0, none⟩) 3 3] w (AnErr w) := by
  have hF' := answers_open hF
  go_enter Tryf.func24, Tryf.ntmps24
  go_wp2
  apply rows_value nextTurns
  case hr =>
    go_simp
    exact ⟨rfl, rfl⟩
  case h =>
    go_wp2
    go_ret
    exact ⟨_, _, rfl, by (repeat' (first | exact Below.refl _ _ | refine Below.drew ?_ | refine Below.alloc ?_ (by simp) _))⟩

set_option maxHeartbeats 1600000 in
theorem errWrap (F : Interp) (what : ByteArray) (c : Int) (b : Nat) (w : World) (hF : F.answers w.tape) (hc0 : 0 ≤ c) (hc1 : c ≤ 255) (h0 : w.cell? ⟨b, 0, none⟩ = some (.iface 9 (.string what))) (h1 : w.cell? ⟨b, 1, none⟩ = some (.iface 56 (.int .u8 c))) (hb : b < w.heap.size) :
    Calls Tryf.prog 24 #[.string ⟨#[114, 101, 97, 100, 105, 110, 103, 32, 37, 115, 58, 32, 37, 119]⟩, .slice (some ⟨b, 0, none⟩) 2 2] w (AnErr w) := by
  have hF' := answers_open hF
  go_enter Tryf.func24, Tryf.ntmps24
  go_wp2
  apply rows_call nextTurns
  case hr =>
    go_simp
    exact ⟨⟨rfl, rfl, rfl⟩, rfl⟩
  case hi => exact invokeError56 _ _
  case hc =>
    refine (error58 F c _ (by exact hF) hc0 hc1).mono fun e w₃ hx => ?_
    obtain ⟨s, he, hx⟩ := hx
    subst he; subst hx
    have h0' : ((w.alloc (.cells #[.iface 21 (.int .i32 c)] 20)).drew).cell? ⟨b, 0, none⟩ = some (.iface 9 (.string what)) := by
      rw [← h0]; exact ((Below.refl w.heap.size w).alloc (Nat.le_refl _) _).drew.cell (p := ⟨b, 0, none⟩) hb
    have h1' : ((w.alloc (.cells #[.iface 21 (.int .i32 c)] 20)).drew).cell? ⟨b, 1, none⟩ = some (.iface 56 (.int .u8 c)) := by
      rw [← h1]; exact ((Below.refl w.heap.size w).alloc (Nat.le_refl _) _).drew.cell (p := ⟨b, 1, none⟩) hb
    apply rows_value nextReturned
    case hr =>
      go_simp
      exact ⟨rfl, rfl⟩
    case h =>
      go_wp2
      go_ret
      exact ⟨_, _, rfl, by (repeat' (first | exact Below.refl _ _ | refine Below.drew ?_ | refine Below.alloc ?_ (by simp) _))⟩
end Go.Proofs.Qxb6604560aFmt
