/-
  The law 'FnDecodeHexRoundTrip': every input.
-/
import Derived.Test.Qxb6604560aFmtWalkH
namespace Go.Proofs.Qxb6604560aFmt
open Go.RowKit Go.Extern.Stop Go.Stop Go.Extern

set_option maxRecDepth 100000 in
set_option maxHeartbeats 1000000 in
theorem lawR_big (a : Option Addr) (n cap : Nat) (b : Option Addr) (m capb : Nat) (w : World) (hn : n ≤ 140737488355328) (hm : m ≤ 140737488355328) (h1 : (1048576 : Int) < n + m) :
    Calls Tryf.prog 4 #[.slice a n cap, .slice b m capb] w (LawLeftR w) := by
  go_enter Tryf.func4, Tryf.ntmps4
  go_wp2_with fail
  refine (zzB12 a b n cap m capb w).mono ?_
  rintro e w' ⟨t, rfl, hw'⟩
  subst hw'
  cases t with
  | false =>
    go_wp2
    go_ret
    exact ⟨rfl, Below.refl _ _⟩
  | true =>
    go_wp2
    go_ret
    exact ⟨rfl, Below.refl _ _⟩

set_option maxRecDepth 100000 in
set_option maxHeartbeats 2000000 in
theorem lawR_zero (a : Option Addr) (cap : Nat) (g : Nat → Int) (b : Option Addr) (m capb : Nat) (u : Nat → Bool) (w : World) (hu : BoolRow w b m u) (hm : m ≤ 1048576) :
    Calls Tryf.prog 4 #[.slice a 0 cap, .slice b m capb] w (LawLeftR w) := by
  have h1 : ¬ (1048576 : Int) < m := by omega
  go_enter Tryf.func4, Tryf.ntmps4
  go_wp2_with fail
  refine (zzB12 a b 0 cap m capb w).mono ?_
  rintro e w' ⟨t, rfl, hw'⟩
  subst hw'
  cases t with
  | false =>
    go_wp2
    go_ret
    exact ⟨rfl, Below.refl _ _⟩
  | true =>
    go_wp2_with fail
    refine (clone a 0 cap g _ (fun h => by omega) (by omega)).mono ?_
    rintro e w1 ⟨a1, c1, rfl, _, hb1⟩
    have hu1 := hu.below hb1
    have hsz1 := hb1.size
    go_wp2_with fail
    refine (cloneb b m capb u _ hu1 hm).mono ?_
    rintro e w2 ⟨a2, c2, rfl, _, hb2⟩
    have HB2 : Hid (Below w'.heap.size w' w2) := hb1.trans (hb2.mono hsz1)
    clear hu hu1 hb1 hb2
    have hmk : ∀ w : World, (Instr.makeSlice 22 (.int .i64 0) (.int .i64 0)).run Tryf.prog w = .ok (.slice (some ⟨w.heap.size, 0, none⟩) 0 0) (w.alloc (.cells (zeroB 0) 5)) := make22 0 (by omega)
    have hconv : ∀ (B : Nat) (w : World), (convert 22 9 (.slice (some ⟨B, 0, none⟩) 0 0)).run Tryf.prog w = .ok (.string (strT (fun _ => 0) 0)) w := fun B w => conv_back (fun _ => 0) 0 B 0 w (fun i hi => by omega)
    go_wp2
    refine wp_loop_rounds 1 ?_
    rw [rounds_succ]
    go_wp2
    refine wp_loop_rounds 1 ?_
    rw [rounds_succ]
    go_wp2_with fail
    refine (zz_none _ _ (strT (fun _ => 0) 0) _ _ (strT_size _ _)).mono ?_
    rintro e w5 ⟨rfl, hb5⟩
    clear hmk hconv
    go_wp2_with fail
    refine (sameB _ _ 0 _ _ g _ (by omega) (fun h => by omega) (fun h => by omega)).mono ?_
    rintro e w6 ⟨rfl, hb6⟩
    go_wp2
    go_ret
    have hA : Below w'.heap.size w' w5 := (((HB2.out.alloc HB2.out.size _).alloc (by have := HB2.out.size; simp; omega) _)).trans (hb5.mono (by have := HB2.out.size; simp; omega))
    exact ⟨rfl, hA.trans (hb6.mono hA.size)⟩

theorem lawR (F : Interp) (a : Option Addr) (n cap : Nat) (g : Nat → Int) (b : Option Addr) (m capb : Nat) (u : Nat → Bool) (ev : Value) (w : World) (hF : F.answers w.tape) (hr : ByteRow w a n g) (hu : BoolRow w b m u) (hg : ∀ i, 0 ≤ g i ∧ g i ≤ 255) (hn : n ≤ 140737488355328) (hm : m ≤ 140737488355328) (hE : w.cell? ⟨0, 0, none⟩ = some ev) :
    Calls Tryf.prog 4 #[.slice a n cap, .slice b m capb] w (LawLeftR w) := by
  by_cases h1 : (1048576 : Int) < n + m
  · exact lawR_big a n cap b m capb w hn hm h1
  · by_cases h0 : n = 0
    · subst h0
      exact lawR_zero a cap g b m capb u w hu (by omega)
    · exact lawR_pos F a n cap g b m capb u ev w hF hr hu hg (by omega) (by omega) (by omega) h1 hE
end Go.Proofs.Qxb6604560aFmt
