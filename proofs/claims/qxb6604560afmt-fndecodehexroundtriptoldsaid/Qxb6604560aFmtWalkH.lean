/-
  The law 'FnDecodeHexRoundTrip', walked.
-/
import Derived.Test.Qxb6604560aFmtWalkG
namespace Go.Proofs.Qxb6604560aFmt
open Go.RowKit Go.Extern.Stop Go.Stop Go.Extern

def LawLeftR (w : World) (e : Ending) (w' : World) : Prop := e = .returned (.bool true) ∧ Below w.heap.size w w'

theorem make22d (n N : Nat) (hN : N = 2 * n) (h : n ≤ 1048576) (w : World) :
    (Instr.makeSlice 22 (.int .i64 (2 * (n : Int))) (.int .i64 (2 * (n : Int)))).run Tryf.prog w = .ok (.slice (some ⟨w.heap.size, 0, none⟩) N N) (w.alloc (.cells (zeroB N) 5)) := by
  have e : (2 * (n : Int)) = (N : Int) := by omega
  rw [e]
  exact make22 N (by omega) w

set_option maxRecDepth 100000 in
set_option maxHeartbeats 4000000 in
theorem lawR_pos (F : Interp) (a : Option Addr) (n cap : Nat) (g : Nat → Int) (b : Option Addr) (m capb : Nat) (u : Nat → Bool) (ev : Value) (w : World) (hF : F.answers w.tape) (hr : ByteRow w a n g) (hu : BoolRow w b m u) (hg : ∀ i, 0 ≤ g i ∧ g i ≤ 255) (hn0 : 0 < n) (hn : n ≤ 1048576) (hm : m ≤ 1048576) (h1 : ¬ (1048576 : Int) < n + m) (hE : w.cell? ⟨0, 0, none⟩ = some ev) :
    Calls Tryf.prog 4 #[.slice a n cap, .slice b m capb] w (LawLeftR w) := by
  have h0lt : 0 < w.heap.size := lt_of_cell hE
  obtain ⟨N, hN⟩ : ∃ N : Nat, Hid (N = 2 * n) := ⟨_, rfl⟩
  have HGB : Hid (∀ i, 0 ≤ g i ∧ g i ≤ 255) := hg
  clear hg
  have hN1 : N ≤ 2 * n := Nat.le_of_eq hN.out
  have hN2 : 2 * n ≤ N := Nat.le_of_eq hN.out.symm
  go_enter Tryf.func4, Tryf.ntmps4
  go_wp2_with fail
  refine (zzB12 a b n cap m capb w).mono ?_
  rintro e w' ⟨t, rfl, hw'⟩
  subst hw'
  cases t with
  | false =>
    go_wp2
    go_ret
    exact ⟨rfl, Below.refl _ _⟩
  | true =>
    go_wp2_with fail
    refine (clone a n cap g _ hr hn).mono ?_
    rintro e w1 ⟨a1, c1, rfl, hrow1, hb1⟩
    obtain ⟨ha1, hro1⟩ := hrow1 hn0
    subst ha1
    have hu1 := hu.below hb1
    have hsz1 := hb1.size
    go_wp2_with fail
    refine (cloneb b m capb u _ hu1 hm).mono ?_
    rintro e w2 ⟨a2, c2, rfl, hrow2, hb2⟩
    have hD1 := hro1.lt
    have HB2 : Hid (Below w'.heap.size w' w2) := hb1.trans (hb2.mono hsz1)
    have hsz2 := hb2.size
    have hD : w2.rowIs w'.heap.size 5 n (fun i => .int .u8 (g i)) := hro1.of_block (hb2.block _ hD1)
    have hU : BoolRow w2 a2 m u := fun h0 => by
      obtain ⟨ha, hr⟩ := hrow2 h0
      exact ⟨w1.heap.size, 0, ha, fun i hi => by rw [Nat.zero_add]; exact hr.cell hi⟩
    clear hrow2 hro1 hr hu hu1 hb1 hb2
    have hmk := make22d n N hN.out hn
    go_wp2
    clear hmk
    go_loopw [6, 7, 8] (fun i _ _ wr => ∃ k : Nat, k ≤ n ∧ i = .int .i64 k ∧ wr.rowIs w2.heap.size 5 N (fun j => if j < 2 * k then .int .u8 (txt g m u j) else .int .u8 0) ∧ Below w2.heap.size w2 wr) (fun i _ _ _ => n - (intOf i).toNat)
    case atStart => exact ⟨0, by omega, rfl, (World.rowIs_made w2 (.int .u8 0) N 5).congr (fun i _ => by simp), (Below.refl _ _).alloc (Nat.le_refl _) _⟩
    case round =>
      obtain ⟨k, hk, rfl, hrow, hB⟩ := hrel
      by_cases hkn : (k : Int) < n
      · have hDk := hD.cell (i := k) (by omega)
        have hd1 : wr.cell? ⟨w'.heap.size, k, none⟩ = some (.int .u8 (g k)) := by rw [hB.cell (p := ⟨w'.heap.size, k, none⟩) (lt_of_cell hDk)]; exact hDk
        have hgk := HGB.out k
        have q0 : 0 ≤ g k / 16 := by omega
        have q1 : g k / 16 < 16 := by omega
        have r0 : 0 ≤ g k % 16 := by omega
        have r1 : g k % 16 < 16 := by omega
        have du1 := dgU (g k / 16) q0 q1 (by simp [ByteArray.size]; omega)
        have du2 := dgU (g k % 16) r0 r1 (by simp [ByteArray.size]; omega)
        have dl1 := dgL (g k / 16) q0 q1 (by simp [ByteArray.size]; omega)
        have dl2 := dgL (g k % 16) r0 r1 (by simp [ByteArray.size]; omega)
        have hN3 : 2 * k + 1 < N := by omega
        have hN4 : 2 * (k : Int) + 1 < N := by omega
        have hc0 : wr.cell? ⟨w2.heap.size, 2 * k, none⟩ = some (if 2 * k < 2 * k then .int .u8 (txt g m u (2 * k)) else .int .u8 0) := hrow.cell (by omega)
        rw [if_neg (by omega)] at hc0
        have hf0 := hrow.frozen (2 * k)
        have hc2 : wr.cell? ⟨w2.heap.size, 2 * k + 1, none⟩ = some (if 2 * k + 1 < 2 * k then .int .u8 (txt g m u (2 * k + 1)) else .int .u8 0) := hrow.cell (by omega)
        rw [if_neg (by omega)] at hc2
        by_cases t1 : 2 * (k : Int) < m
        · obtain ⟨bu, ou, rfl, hcu⟩ := hU (by omega)
          have hc1 := hcu (2 * k) (by omega)
          have hu1 : wr.cell? ⟨bu, ou + 2 * k, none⟩ = some (.bool (u (2 * k))) := by rw [hB.cell (p := ⟨bu, ou + 2 * k, none⟩) (lt_of_cell hc1)]; exact hc1
          by_cases t2 : 2 * (k : Int) + 1 < m
          · have hc3 := hcu (2 * k + 1) (by omega)
            clear hc1 hcu
            cases hut : u (2 * k) with
            | true =>
              rw [hut] at hu1
              cases hut2 : u (2 * k + 1) with
              | true =>
                have e1 : up m u (2 * k) = true := by unfold up; rw [hut, decide_eq_true (by omega)]; rfl
                have e2 : up m u (2 * k + 1) = true := by unfold up; rw [hut2, decide_eq_true (by omega)]; rfl
                have HR : Hid (((wr.setCell ⟨w2.heap.size, 2 * k, none⟩ (.int .u8 (dg true (g k / 16)))).setCell ⟨w2.heap.size, 2 * k + 1, none⟩ (.int .u8 (dg true (g k % 16)))).rowIs w2.heap.size 5 N (fun j => if j < 2 * (k + 1) then .int .u8 (txt g m u j) else .int .u8 0)) := row2 g m u _ N k true true wr e1 e2 hrow
                have HB : Hid (Below w2.heap.size w2 ((wr.setCell ⟨w2.heap.size, 2 * k, none⟩ (.int .u8 (dg true (g k / 16)))).setCell ⟨w2.heap.size, 2 * k + 1, none⟩ (.int .u8 (dg true (g k % 16))))) := (hB.setCell (Nat.le_refl _) _).setCell (Nat.le_refl _) _
                have hs1 : (wr.setCell ⟨w2.heap.size, 2 * k, none⟩ (.int .u8 (dg true (g k / 16)))).cell? ⟨w2.heap.size, 2 * k + 1, none⟩ = some (.int .u8 0) := by
                  have := (hrow.set (2 * k) (.int .u8 (dg true (g k / 16)))).cell (i := 2 * k + 1) (by omega)
                  rw [this, if_neg (by omega), if_neg (by omega)]
                have hs2 := (hrow.set (2 * k) (.int .u8 (dg true (g k / 16)))).frozen (2 * k + 1)
                have hB1 := hB.setCell (Nat.le_refl _) (p := ⟨w2.heap.size, 2 * k, none⟩) (.int .u8 (dg true (g k / 16)))
                have hu2 : (wr.setCell ⟨w2.heap.size, 2 * k, none⟩ (.int .u8 (dg true (g k / 16)))).cell? ⟨bu, ou + (2 * k + 1), none⟩ = some (.bool true) := by rw [hB1.cell (p := ⟨bu, ou + (2 * k + 1), none⟩) (lt_of_cell hc3), hc3, hut2]
                clear hB1
                clear e1 e2 hrow hB hDk hU hD HGB HB2 hE hF
                go_wp2
                go_roundw
                case rel => exact ⟨k + 1, by omega, by go_num, HR.out, HB.out⟩
                case measure => simp [intOf]; omega
              | false =>
                have e1 : up m u (2 * k) = true := by unfold up; rw [hut, decide_eq_true (by omega)]; rfl
                have e2 : up m u (2 * k + 1) = false := by unfold up; rw [hut2, decide_eq_true (by omega)]; rfl
                have HR : Hid (((wr.setCell ⟨w2.heap.size, 2 * k, none⟩ (.int .u8 (dg true (g k / 16)))).setCell ⟨w2.heap.size, 2 * k + 1, none⟩ (.int .u8 (dg false (g k % 16)))).rowIs w2.heap.size 5 N (fun j => if j < 2 * (k + 1) then .int .u8 (txt g m u j) else .int .u8 0)) := row2 g m u _ N k true false wr e1 e2 hrow
                have HB : Hid (Below w2.heap.size w2 ((wr.setCell ⟨w2.heap.size, 2 * k, none⟩ (.int .u8 (dg true (g k / 16)))).setCell ⟨w2.heap.size, 2 * k + 1, none⟩ (.int .u8 (dg false (g k % 16))))) := (hB.setCell (Nat.le_refl _) _).setCell (Nat.le_refl _) _
                have hs1 : (wr.setCell ⟨w2.heap.size, 2 * k, none⟩ (.int .u8 (dg true (g k / 16)))).cell? ⟨w2.heap.size, 2 * k + 1, none⟩ = some (.int .u8 0) := by
                  have := (hrow.set (2 * k) (.int .u8 (dg true (g k / 16)))).cell (i := 2 * k + 1) (by omega)
                  rw [this, if_neg (by omega), if_neg (by omega)]
                have hs2 := (hrow.set (2 * k) (.int .u8 (dg true (g k / 16)))).frozen (2 * k + 1)
                have hB1 := hB.setCell (Nat.le_refl _) (p := ⟨w2.heap.size, 2 * k, none⟩) (.int .u8 (dg true (g k / 16)))
                have hu2 : (wr.setCell ⟨w2.heap.size, 2 * k, none⟩ (.int .u8 (dg true (g k / 16)))).cell? ⟨bu, ou + (2 * k + 1), none⟩ = some (.bool false) := by rw [hB1.cell (p := ⟨bu, ou + (2 * k + 1), none⟩) (lt_of_cell hc3), hc3, hut2]
                clear hB1
                clear e1 e2 hrow hB hDk hU hD HGB HB2 hE hF
                go_wp2
                go_roundw
                case rel => exact ⟨k + 1, by omega, by go_num, HR.out, HB.out⟩
                case measure => simp [intOf]; omega
            | false =>
              rw [hut] at hu1
              cases hut2 : u (2 * k + 1) with
              | true =>
                have e1 : up m u (2 * k) = false := by unfold up; rw [hut, decide_eq_true (by omega)]; rfl
                have e2 : up m u (2 * k + 1) = true := by unfold up; rw [hut2, decide_eq_true (by omega)]; rfl
                have HR : Hid (((wr.setCell ⟨w2.heap.size, 2 * k, none⟩ (.int .u8 (dg false (g k / 16)))).setCell ⟨w2.heap.size, 2 * k + 1, none⟩ (.int .u8 (dg true (g k % 16)))).rowIs w2.heap.size 5 N (fun j => if j < 2 * (k + 1) then .int .u8 (txt g m u j) else .int .u8 0)) := row2 g m u _ N k false true wr e1 e2 hrow
                have HB : Hid (Below w2.heap.size w2 ((wr.setCell ⟨w2.heap.size, 2 * k, none⟩ (.int .u8 (dg false (g k / 16)))).setCell ⟨w2.heap.size, 2 * k + 1, none⟩ (.int .u8 (dg true (g k % 16))))) := (hB.setCell (Nat.le_refl _) _).setCell (Nat.le_refl _) _
                have hs1 : (wr.setCell ⟨w2.heap.size, 2 * k, none⟩ (.int .u8 (dg false (g k / 16)))).cell? ⟨w2.heap.size, 2 * k + 1, none⟩ = some (.int .u8 0) := by
                  have := (hrow.set (2 * k) (.int .u8 (dg false (g k / 16)))).cell (i := 2 * k + 1) (by omega)
                  rw [this, if_neg (by omega), if_neg (by omega)]
                have hs2 := (hrow.set (2 * k) (.int .u8 (dg false (g k / 16)))).frozen (2 * k + 1)
                have hB1 := hB.setCell (Nat.le_refl _) (p := ⟨w2.heap.size, 2 * k, none⟩) (.int .u8 (dg false (g k / 16)))
                have hu2 : (wr.setCell ⟨w2.heap.size, 2 * k, none⟩ (.int .u8 (dg false (g k / 16)))).cell? ⟨bu, ou + (2 * k + 1), none⟩ = some (.bool true) := by rw [hB1.cell (p := ⟨bu, ou + (2 * k + 1), none⟩) (lt_of_cell hc3), hc3, hut2]
                clear hB1
                clear e1 e2 hrow hB hDk hU hD HGB HB2 hE hF
                go_wp2
                go_roundw
                case rel => exact ⟨k + 1, by omega, by go_num, HR.out, HB.out⟩
                case measure => simp [intOf]; omega
              | false =>
                have e1 : up m u (2 * k) = false := by unfold up; rw [hut, decide_eq_true (by omega)]; rfl
                have e2 : up m u (2 * k + 1) = false := by unfold up; rw [hut2, decide_eq_true (by omega)]; rfl
                have HR : Hid (((wr.setCell ⟨w2.heap.size, 2 * k, none⟩ (.int .u8 (dg false (g k / 16)))).setCell ⟨w2.heap.size, 2 * k + 1, none⟩ (.int .u8 (dg false (g k % 16)))).rowIs w2.heap.size 5 N (fun j => if j < 2 * (k + 1) then .int .u8 (txt g m u j) else .int .u8 0)) := row2 g m u _ N k false false wr e1 e2 hrow
                have HB : Hid (Below w2.heap.size w2 ((wr.setCell ⟨w2.heap.size, 2 * k, none⟩ (.int .u8 (dg false (g k / 16)))).setCell ⟨w2.heap.size, 2 * k + 1, none⟩ (.int .u8 (dg false (g k % 16))))) := (hB.setCell (Nat.le_refl _) _).setCell (Nat.le_refl _) _
                have hs1 : (wr.setCell ⟨w2.heap.size, 2 * k, none⟩ (.int .u8 (dg false (g k / 16)))).cell? ⟨w2.heap.size, 2 * k + 1, none⟩ = some (.int .u8 0) := by
                  have := (hrow.set (2 * k) (.int .u8 (dg false (g k / 16)))).cell (i := 2 * k + 1) (by omega)
                  rw [this, if_neg (by omega), if_neg (by omega)]
                have hs2 := (hrow.set (2 * k) (.int .u8 (dg false (g k / 16)))).frozen (2 * k + 1)
                have hB1 := hB.setCell (Nat.le_refl _) (p := ⟨w2.heap.size, 2 * k, none⟩) (.int .u8 (dg false (g k / 16)))
                have hu2 : (wr.setCell ⟨w2.heap.size, 2 * k, none⟩ (.int .u8 (dg false (g k / 16)))).cell? ⟨bu, ou + (2 * k + 1), none⟩ = some (.bool false) := by rw [hB1.cell (p := ⟨bu, ou + (2 * k + 1), none⟩) (lt_of_cell hc3), hc3, hut2]
                clear hB1
                clear e1 e2 hrow hB hDk hU hD HGB HB2 hE hF
                go_wp2
                go_roundw
                case rel => exact ⟨k + 1, by omega, by go_num, HR.out, HB.out⟩
                case measure => simp [intOf]; omega
          · clear hc1 hcu
            cases hut : u (2 * k) with
            | true =>
              rw [hut] at hu1
              have e1 : up m u (2 * k) = true := by unfold up; rw [hut, decide_eq_true (by omega)]; rfl
              have e2 : up m u (2 * k + 1) = false := by unfold up; rw [decide_eq_false (by omega)]; rfl
              have HR : Hid (((wr.setCell ⟨w2.heap.size, 2 * k, none⟩ (.int .u8 (dg true (g k / 16)))).setCell ⟨w2.heap.size, 2 * k + 1, none⟩ (.int .u8 (dg false (g k % 16)))).rowIs w2.heap.size 5 N (fun j => if j < 2 * (k + 1) then .int .u8 (txt g m u j) else .int .u8 0)) := row2 g m u _ N k true false wr e1 e2 hrow
              have HB : Hid (Below w2.heap.size w2 ((wr.setCell ⟨w2.heap.size, 2 * k, none⟩ (.int .u8 (dg true (g k / 16)))).setCell ⟨w2.heap.size, 2 * k + 1, none⟩ (.int .u8 (dg false (g k % 16))))) := (hB.setCell (Nat.le_refl _) _).setCell (Nat.le_refl _) _
              have hs1 : (wr.setCell ⟨w2.heap.size, 2 * k, none⟩ (.int .u8 (dg true (g k / 16)))).cell? ⟨w2.heap.size, 2 * k + 1, none⟩ = some (.int .u8 0) := by
                have := (hrow.set (2 * k) (.int .u8 (dg true (g k / 16)))).cell (i := 2 * k + 1) (by omega)
                rw [this, if_neg (by omega), if_neg (by omega)]
              have hs2 := (hrow.set (2 * k) (.int .u8 (dg true (g k / 16)))).frozen (2 * k + 1)
              clear e1 e2 hrow hB hDk hU hD HGB HB2 hE hF
              go_wp2
              go_roundw
              case rel => exact ⟨k + 1, by omega, by go_num, HR.out, HB.out⟩
              case measure => simp [intOf]; omega
            | false =>
              rw [hut] at hu1
              have e1 : up m u (2 * k) = false := by unfold up; rw [hut, decide_eq_true (by omega)]; rfl
              have e2 : up m u (2 * k + 1) = false := by unfold up; rw [decide_eq_false (by omega)]; rfl
              have HR : Hid (((wr.setCell ⟨w2.heap.size, 2 * k, none⟩ (.int .u8 (dg false (g k / 16)))).setCell ⟨w2.heap.size, 2 * k + 1, none⟩ (.int .u8 (dg false (g k % 16)))).rowIs w2.heap.size 5 N (fun j => if j < 2 * (k + 1) then .int .u8 (txt g m u j) else .int .u8 0)) := row2 g m u _ N k false false wr e1 e2 hrow
              have HB : Hid (Below w2.heap.size w2 ((wr.setCell ⟨w2.heap.size, 2 * k, none⟩ (.int .u8 (dg false (g k / 16)))).setCell ⟨w2.heap.size, 2 * k + 1, none⟩ (.int .u8 (dg false (g k % 16))))) := (hB.setCell (Nat.le_refl _) _).setCell (Nat.le_refl _) _
              have hs1 : (wr.setCell ⟨w2.heap.size, 2 * k, none⟩ (.int .u8 (dg false (g k / 16)))).cell? ⟨w2.heap.size, 2 * k + 1, none⟩ = some (.int .u8 0) := by
                have := (hrow.set (2 * k) (.int .u8 (dg false (g k / 16)))).cell (i := 2 * k + 1) (by omega)
                rw [this, if_neg (by omega), if_neg (by omega)]
              have hs2 := (hrow.set (2 * k) (.int .u8 (dg false (g k / 16)))).frozen (2 * k + 1)
              clear e1 e2 hrow hB hDk hU hD HGB HB2 hE hF
              go_wp2
              go_roundw
              case rel => exact ⟨k + 1, by omega, by go_num, HR.out, HB.out⟩
              case measure => simp [intOf]; omega
        · have t2 : ¬ 2 * (k : Int) + 1 < m := by omega
          have e1 : up m u (2 * k) = false := by unfold up; rw [decide_eq_false (by omega)]; rfl
          have e2 : up m u (2 * k + 1) = false := by unfold up; rw [decide_eq_false (by omega)]; rfl
          have HR : Hid (((wr.setCell ⟨w2.heap.size, 2 * k, none⟩ (.int .u8 (dg false (g k / 16)))).setCell ⟨w2.heap.size, 2 * k + 1, none⟩ (.int .u8 (dg false (g k % 16)))).rowIs w2.heap.size 5 N (fun j => if j < 2 * (k + 1) then .int .u8 (txt g m u j) else .int .u8 0)) := row2 g m u _ N k false false wr e1 e2 hrow
          have HB : Hid (Below w2.heap.size w2 ((wr.setCell ⟨w2.heap.size, 2 * k, none⟩ (.int .u8 (dg false (g k / 16)))).setCell ⟨w2.heap.size, 2 * k + 1, none⟩ (.int .u8 (dg false (g k % 16))))) := (hB.setCell (Nat.le_refl _) _).setCell (Nat.le_refl _) _
          have hs1 : (wr.setCell ⟨w2.heap.size, 2 * k, none⟩ (.int .u8 (dg false (g k / 16)))).cell? ⟨w2.heap.size, 2 * k + 1, none⟩ = some (.int .u8 0) := by
            have := (hrow.set (2 * k) (.int .u8 (dg false (g k / 16)))).cell (i := 2 * k + 1) (by omega)
            rw [this, if_neg (by omega), if_neg (by omega)]
          have hs2 := (hrow.set (2 * k) (.int .u8 (dg false (g k / 16)))).frozen (2 * k + 1)
          clear e1 e2 hrow hB hDk hU hD HGB HB2 hE hF
          go_wp2
          go_roundw
          case rel => exact ⟨k + 1, by omega, by go_num, HR.out, HB.out⟩
          case measure => simp [intOf]; omega
      · have hBuf : wr.rowIs w2.heap.size 5 N (fun j => .int .u8 (txt g m u j)) := hrow.congr (fun j hj => by rw [if_pos (by omega)])
        have hD3 : wr.rowIs w'.heap.size 5 n (fun i => .int .u8 (g i)) := hD.of_block (hB.block _ hD.lt)
        have HB3 : Hid (Below w'.heap.size w' wr) := HB2.out.trans (hB.mono HB2.out.size)
        have hsz3 := hB.size
        clear hrow hB hD hU HB2
        obtain ⟨w3, hw3⟩ : ∃ w3 : World, w3 = wr := ⟨_, rfl⟩
        subst hw3
        have hmk := make22 n (by omega)
        go_wp2
        clear hmk
        go_loopw [10] (fun i wr => ∃ k : Nat, k ≤ n ∧ i = .int .i64 k ∧ wr.rowIs w3.heap.size 5 n (fun j => if j < k then .int .u8 (255 - g j) else .int .u8 0) ∧ Below w3.heap.size w3 wr) (fun i _ => n - (intOf i).toNat)
        case atStart => exact ⟨0, by omega, rfl, (World.rowIs_made w3 (.int .u8 0) n 5).congr (fun i _ => by simp), (Below.refl _ _).alloc (Nat.le_refl _) _⟩
        case round =>
          obtain ⟨k, hk, rfl, hrow, hB⟩ := hrel
          by_cases hkn : (k : Int) < n
          · have hDk := hD3.cell (i := k) (by omega)
            have hd1 : wr.cell? ⟨w'.heap.size, k, none⟩ = some (.int .u8 (g k)) := by rw [hB.cell (p := ⟨w'.heap.size, k, none⟩) (lt_of_cell hDk)]; exact hDk
            have hgk := HGB.out k
            have hx := xor_u8 (g k) hgk.1 hgk.2
            have hc0 : wr.cell? ⟨w3.heap.size, k, none⟩ = some (if k < k then .int .u8 (255 - g k) else .int .u8 0) := hrow.cell (by omega)
            rw [if_neg (by omega)] at hc0
            have hf0 := hrow.frozen k
            have HR : Hid ((wr.setCell ⟨w3.heap.size, k, none⟩ (.int .u8 (255 - g k))).rowIs w3.heap.size 5 n (fun i => if i < k + 1 then .int .u8 (255 - g i) else .int .u8 0)) := (hrow.set k _).congr (fun i hi => by
              by_cases h1 : i = k
              · subst h1; simp
              · by_cases h2 : i < k
                · rw [if_neg h1, if_pos h2, if_pos (by omega)]
                · rw [if_neg h1, if_neg h2, if_neg (by omega)])
            have HB : Hid (Below w3.heap.size w3 (wr.setCell ⟨w3.heap.size, k, none⟩ (.int .u8 (255 - g k)))) := hB.setCell (Nat.le_refl _) _
            clear hrow hB hDk
            go_wp2
            go_roundw
            case rel => exact ⟨k + 1, by omega, by go_num, HR.out, HB.out⟩
            case measure => simp [intOf]; omega
          · have hDst : wr.rowIs w3.heap.size 5 n (fun j => .int .u8 (255 - g j)) := hrow.congr (fun j hj => by rw [if_pos (by omega)])
            have hBl := hBuf.lt
            have hDl := hD3.lt
            have hD4 : wr.rowIs w'.heap.size 5 n (fun i => .int .u8 (g i)) := hD3.of_block (hB.block _ hDl)
            have hBuf4 : wr.rowIs w2.heap.size 5 N (fun j => .int .u8 (txt g m u j)) := hBuf.of_block (hB.block _ hBl)
            have HB4 : Hid (Below w'.heap.size w' wr) := HB3.out.trans (hB.mono HB3.out.size)
            have hsz4 := hB.size
            clear hrow hB hD3 hBuf
            obtain ⟨w4, hw4⟩ : ∃ w4 : World, w4 = wr := ⟨_, rfl⟩
            subst hw4
            have hF4 : F.answers w4.tape := by rw [HB4.out.tape]; exact hF
            have hE4 : w4.cell? ⟨0, 0, none⟩ = some ev := by rw [HB4.out.cell (p := ⟨0, 0, none⟩) h0lt]; exact hE
            have hconv := conv_back (txt g m u) N w2.heap.size N w4 (fun i hi => hBuf4.cell hi)
            have hne4 : 0 ≠ w3.heap.size := by omega
            have HD4 : Hid (w4.rowIs w'.heap.size 5 n (fun i => .int .u8 (g i))) := hD4
            have HBf4 : Hid (w4.rowIs w2.heap.size 5 N (fun j => .int .u8 (txt g m u j))) := hBuf4
            clear hD4 hBuf4
            go_wp2_with fail
            clear hconv
            refine (zz_some F w3.heap.size n n _ (strT (txt g m u) N) _ ev _ hF4 hn hn0 (by rw [strT_size]; exact hN.out) hDst hE4 hne4).mono ?_
            rintro e w5 ⟨k5, hfb, hor, hrow5, hg5⟩
            obtain ⟨hk5, hval⟩ := strT_all2 g m u n N k5 hN.out HGB.out hfb
            have he5 : e = .returned .nilIface := by
              rcases hor with ⟨_, h⟩ | ⟨h, _⟩
              · exact h
              · omega
            subst he5
            have hDst5 : ByteRow w5 (some ⟨w3.heap.size, 0, none⟩) n g := fun _ => ⟨_, 0, rfl, fun i hi => by
              rw [Nat.zero_add, hrow5.cell hi, if_pos (by omega), hval i hi]⟩
            have hsz5 := hg5.size
            have HB5 : Hid (Below w'.heap.size w' w5) := HB4.out.grown hg5 HB4.out.size (fun j hj => by cases hj; omega)
            have hD5 : w5.rowIs w'.heap.size 5 n (fun i => .int .u8 (g i)) := HD4.out.of_block (hg5.block _ HD4.out.lt (by simp; omega))
            have hBf5 : w5.rowIs w2.heap.size 5 N (fun j => .int .u8 (txt g m u j)) := HBf4.out.of_block (hg5.block _ HBf4.out.lt (by simp; omega))
            have hDat5 : ByteRow w5 (some ⟨w'.heap.size, 0, none⟩) n g := fun _ => ⟨_, 0, rfl, fun i hi => by
              rw [Nat.zero_add]; exact hD5.cell hi⟩
            clear hrow5 hor hfb hval hg5 hDst HD4 HBf4 hk5 hF4 hE4 HB4
            go_wp2_with fail
            refine (sameB (some ⟨w3.heap.size, 0, none⟩) (some ⟨w'.heap.size, 0, none⟩) n n c1 g _ hn hDst5 hDat5).mono ?_
            rintro e w6 ⟨rfl, hb6⟩
            have HB6 : Hid (Below w'.heap.size w' w6) := HB5.out.trans (hb6.mono HB5.out.size)
            have hD6 : w6.rowIs w'.heap.size 5 n (fun i => .int .u8 (g i)) := hD5.of_block (hb6.block _ hD5.lt)
            have hBf6 : Hid (w6.rowIs w2.heap.size 5 N (fun j => .int .u8 (txt g m u j))) := hBf5.of_block (hb6.block _ hBf5.lt)
            have hsz6 := hb6.size
            have hN0 : (0 : Int) < N := by omega
            clear hDst5 hDat5 hD5 hBf5 hb6 HB5
            have hmk := make22 n (by omega)
            go_wp2
            clear hmk
            go_loopw [13] (fun i wr => ∃ k : Nat, k ≤ n ∧ i = .int .i64 k ∧ wr.rowIs w6.heap.size 5 n (fun j => if j < k then .int .u8 (255 - g j) else .int .u8 0) ∧ Below w6.heap.size w6 wr) (fun i _ => n - (intOf i).toNat)
            case atStart => exact ⟨0, by omega, rfl, (World.rowIs_made w6 (.int .u8 0) n 5).congr (fun i _ => by simp), (Below.refl _ _).alloc (Nat.le_refl _) _⟩
            case round =>
              obtain ⟨k, hk, rfl, hrow, hB⟩ := hrel
              by_cases hkn : (k : Int) < n
              · have hDk := hD6.cell (i := k) (by omega)
                have hd1 : wr.cell? ⟨w'.heap.size, k, none⟩ = some (.int .u8 (g k)) := by rw [hB.cell (p := ⟨w'.heap.size, k, none⟩) (lt_of_cell hDk)]; exact hDk
                have hgk := HGB.out k
                have hx := xor_u8 (g k) hgk.1 hgk.2
                have hc0 : wr.cell? ⟨w6.heap.size, k, none⟩ = some (if k < k then .int .u8 (255 - g k) else .int .u8 0) := hrow.cell (by omega)
                rw [if_neg (by omega)] at hc0
                have hf0 := hrow.frozen k
                have HR : Hid ((wr.setCell ⟨w6.heap.size, k, none⟩ (.int .u8 (255 - g k))).rowIs w6.heap.size 5 n (fun i => if i < k + 1 then .int .u8 (255 - g i) else .int .u8 0)) := (hrow.set k _).congr (fun i hi => by
                  by_cases h1 : i = k
                  · subst h1; simp
                  · by_cases h2 : i < k
                    · rw [if_neg h1, if_pos h2, if_pos (by omega)]
                    · rw [if_neg h1, if_neg h2, if_neg (by omega)])
                have HB : Hid (Below w6.heap.size w6 (wr.setCell ⟨w6.heap.size, k, none⟩ (.int .u8 (255 - g k)))) := hB.setCell (Nat.le_refl _) _
                clear hrow hB hDk
                go_wp2
                go_roundw
                case rel => exact ⟨k + 1, by omega, by go_num, HR.out, HB.out⟩
                case measure => simp [intOf]; omega
              · have hSh : wr.rowIs w6.heap.size 5 n (fun j => .int .u8 (255 - g j)) := hrow.congr (fun j hj => by rw [if_pos (by omega)])
                have hDl := hD6.lt
                have hD7 : wr.rowIs w'.heap.size 5 n (fun i => .int .u8 (g i)) := hD6.of_block (hB.block _ hDl)
                have hBuf7 : wr.rowIs w2.heap.size 5 N (fun j => .int .u8 (txt g m u j)) := hBf6.out.of_block (hB.block _ hBf6.out.lt)
                have HB7 : Hid (Below w'.heap.size w' wr) := HB6.out.trans (hB.mono HB6.out.size)
                have hsz7 := hB.size
                clear hrow hB hD6 hBf6
                obtain ⟨w7, hw7⟩ : ∃ w7 : World, w7 = wr := ⟨_, rfl⟩
                subst hw7
                have hF7 : F.answers w7.tape := by rw [HB7.out.tape]; exact hF
                obtain ⟨L, hL⟩ : ∃ L : Nat, Hid (N = L + 1) := ⟨N - 1, by show N = N - 1 + 1; omega⟩
                have hNL : (N : Int) - 1 = (L : Int) := by have := hL.out; omega
                have hLN : L ≤ N := by have := hL.out; omega
                have hconv := conv_back (txt g m u) L w2.heap.size N w7 (fun i hi => hBuf7.cell (by have := hL.out; omega))
                have HSh : Hid (w7.rowIs w6.heap.size 5 n (fun j => .int .u8 (255 - g j))) := hSh
                have HD7 : Hid (w7.rowIs w'.heap.size 5 n (fun i => .int .u8 (g i))) := hD7
                clear hSh hD7 hBuf7
                go_wp2_with fail
                clear hconv
                refine (zz_len2 F (some ⟨w6.heap.size, 0, none⟩) n n (strT (txt g m u) L) _ _ hF7 hn (by rw [strT_size]; have := hL.out; omega) (by rw [strT_size]; have := hL.out; have := hN.out; omega)).mono ?_
                rintro e w8 ⟨t, v, rfl, hb8⟩
                have HB8 : Hid (Below w'.heap.size w' w8) := HB7.out.trans (hb8.mono HB7.out.size)
                have hS8 : w8.rowIs w6.heap.size 5 n (fun j => .int .u8 (255 - g j)) := HSh.out.of_block (hb8.block _ HSh.out.lt)
                have hD8 : w8.rowIs w'.heap.size 5 n (fun i => .int .u8 (g i)) := HD7.out.of_block (hb8.block _ HD7.out.lt)
                clear hb8 HSh HD7 HB7 hNL hLN
                go_wp2
                go_loopw [15] (fun i wr => ∃ k : Nat, k ≤ n ∧ i = .int .i64 k ∧ Below w8.heap.size w8 wr) (fun i _ => n - (intOf i).toNat)
                case atStart => exact ⟨0, by omega, rfl, Below.refl _ _⟩
                case round =>
                  obtain ⟨k, hk, rfl, hB⟩ := hrel
                  by_cases hkn : (k : Int) < n
                  · have hDk := hD8.cell (i := k) (by omega)
                    have hSk := hS8.cell (i := k) (by omega)
                    have hd1 : wr.cell? ⟨w'.heap.size, k, none⟩ = some (.int .u8 (g k)) := by rw [hB.cell (p := ⟨w'.heap.size, k, none⟩) (lt_of_cell hDk)]; exact hDk
                    have hd2 : wr.cell? ⟨w6.heap.size, k, none⟩ = some (.int .u8 (255 - g k)) := by rw [hB.cell (p := ⟨w6.heap.size, k, none⟩) (lt_of_cell hSk)]; exact hSk
                    have hgk := HGB.out k
                    have hx := xor_u8 (g k) hgk.1 hgk.2
                    have hbb : (255 - g k != 255 - g k) = false := by simp
                    clear hDk hSk hD8 hS8
                    go_wp2_with fail
                    go_quiet (fail)
                    go_wp2
                    go_roundw
                    case rel => exact ⟨k + 1, by omega, by go_num, below_drewN hB _⟩
                    case measure => simp [intOf]; omega
                  · go_wp2
                    go_ret
                    exact ⟨rfl, HB8.out.trans (hB.mono HB8.out.size)⟩
end Go.Proofs.Qxb6604560aFmt
