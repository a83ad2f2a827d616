import Derived.Test.Qxb6604352aFmtWalkB
import Derived.Deep.QuietTactic
import Derived.BigQuiet
namespace Go.Proofs.Qxb6604352aFmt
open Go.RowKit Go.Kit Go.Extern.Stop Go.Stop Go.Extern

set_option maxHeartbeats 400000 in
theorem lawA_big (s : ByteArray) (w : World) (h : 1048576 < (s.size : Int)) :
    Calls Tryf.prog 3 #[.string s] w fun e w' => e = .returned (.bool true) ∧ w' = w := by
  go_enter Tryf.func3, Tryf.ntmps3
  go_wp2_with (go_at_call 5; refine (zzB5_no _ _ h).mono ?_; rintro e w' ⟨rfl, rfl⟩)
  go_ret
  exact ⟨rfl, rfl⟩

set_option maxHeartbeats 400000 in
theorem lawA_short (s : ByteArray) (w : World) (h : (s.size : Int) ≤ 100) :
    Calls Tryf.prog 3 #[.string s] w fun e w' => e = .returned (.bool true) ∧ w' = w := by
  go_enter Tryf.func3, Tryf.ntmps3
  go_wp2_with (first | (go_at_call 5; refine (zzB5_yes _ _ (by omega)).mono ?_; rintro e w' ⟨rfl, rfl⟩) | (go_at_call 6; refine (bare_short _ _ h).mono ?_; rintro e w' ⟨rfl, rfl⟩))
  go_ret
  exact ⟨rfl, rfl⟩

/-- The same, the answer under a name. -/
theorem bare_named (F : Interp) (s : ByteArray) (w : World) (hF : F.told.answers w.tape) (h : 100 < (s.size : Int)) (h2 : (s.size : Int) ≤ 1048576) :
    Calls Tryf.prog 6 #[.string s] w fun e w' => ∃ (n : Nat) (G : ByteArray), e = .returned (.string G) ∧ 97 ≤ n ∧ n ≤ 100 ∧ HeadAt s n ∧ Hid (G = s.extract 0 n ++ sufB s.size) ∧ Below w.heap.size w w' := by
  refine (bare_long F s w hF h h2).mono ?_
  rintro e w' ⟨n, h3, h4, hh, rfl, hB⟩
  exact ⟨n, _, rfl, h3, h4, hh, rfl, hB⟩
theorem dec_named (n : Int) (w : World) (h : 0 < n) (h2 : n ≤ 1048576) :
    Calls Tryf.prog 7 #[.int .i64 n] w fun e w' => ∃ D : ByteArray, e = .returned (.string D) ∧ Hid (D = ⟨(Lib.itoa n).toArray⟩) ∧ Below w.heap.size w w' := by
  refine (dec_any n w h h2).mono ?_
  rintro e w' ⟨rfl, hB⟩
  exact ⟨_, rfl, rfl, hB⟩

theorem suf_eq (m : Int) (D : ByteArray) (hD : D = ⟨(Lib.itoa m).toArray⟩) : sufB m = ⟨#[46, 46, 46, 32, 40]⟩ ++ D ++ ⟨#[32, 98, 121, 116, 101, 115, 41]⟩ := by
  subst hD
  apply ByteArray.ext
  simp [sufB, sufL]

theorem head_facts (s G D : ByteArray) (n : Nat) (h : 100 < s.size) (h4 : n ≤ 100) (hG : G = s.extract 0 n ++ sufB s.size) (hD : D = ⟨(Lib.itoa s.size).toArray⟩) :
    G.size = n + (5 + D.size + 7) ∧ G.extract 0 n = s.extract 0 n ∧ G.extract n G.size = ⟨#[46, 46, 46, 32, 40]⟩ ++ D ++ ⟨#[32, 98, 121, 116, 101, 115, 41]⟩ := by
  have hs := suf_eq s.size D hD
  have hz : (s.extract 0 n).size = n := by simp; omega
  have hu : (sufB (s.size : Int)).size = 5 + D.size + 7 := by
    rw [hs]; simp only [ByteArray.size_append]; rfl
  refine ⟨by rw [hG]; simp only [ByteArray.size_append, hz, hu], ?_, ?_⟩
  · rw [hG]; exact ByteArray.extract_append_eq_left hz.symm
  · rw [hG, ← hs]; exact ByteArray.extract_append_eq_right hz.symm (by simp only [ByteArray.size_append, hz])

set_option maxHeartbeats 1000000 in
theorem lawA_long (F : Interp) (s : ByteArray) (w : World) (hF : F.told.answers w.tape) (h : 100 < (s.size : Int)) (h2 : (s.size : Int) ≤ 1048576) :
    Calls Tryf.prog 3 #[.string s] w fun e w' => e = .returned (.bool true) ∧ Below w.heap.size w w' := by
  go_enter Tryf.func3, Tryf.ntmps3
  go_wp2_with (go_at_call 5; refine (zzB5_yes _ _ h2).mono ?_; rintro e w' ⟨rfl, rfl⟩)
  refine (bare_named F s _ hF h h2).mono ?_
  rintro e w1 ⟨n, G, rfl, h3, h4, hh, HG, hB⟩
  go_wp2_with fail
  refine (dec_named _ _ (by omega) h2).mono ?_
  rintro e w2 ⟨D, rfl, HD, hB2⟩
  obtain ⟨hG1', hE1, hE2⟩ := head_facts s G D n (by omega) h4 HG.out HD.out
  have hG1 : (G.size : Int) = n + (5 + D.size + 7) := by omega
  have hG3 : D.size ≤ 30 := by
    have hl := Lib.itoa_length_le s.size (by omega) (by omega)
    rw [HD.out]; show (Lib.itoa s.size).toArray.size ≤ 30; simp; omega
  have hG2 : G.size ≤ 200 := by omega
  have HB : Hid (Below w'.heap.size w' w2) := hB.trans (hB2.mono hB.size)
  have hb1 : ((G.extract n G.size).toList == (⟨#[46, 46, 46, 32, 40]⟩ ++ D ++ ⟨#[32, 98, 121, 116, 101, 115, 41]⟩ : ByteArray).toList) = true := by rw [hE2]; simp
  have hb2 : ((G.extract 0 n).toList == (s.extract 0 n).toList) = true := by rw [hE1]; simp
  clear hE1 hE2 HG HD hB hB2 hG1'
  have hd1 : decide ((n : Int) < 97) = false := by simp; omega
  have hd2 : decide (100 < (n : Int)) = false := by simp; omega
  have hd3 : decide (n < 97) = false := by simp; omega
  have hd4 : decide (100 < n) = false := by simp; omega
  have hns : n ≤ s.size := by omega
  go_wp2
  go_quiet (fail)
  clear hb1 hb2 hd1 hd2 hd3 hd4 hG1 hG2 hG3
  obtain ⟨hsz, _, hall, hlast⟩ := hh
  have HA : Hid (∀ i, n < i → (hi : i ≤ 100) → cont ((s[i]'(by omega)).toNat : Int) = true) := hall
  clear hall
  by_cases h97 : n = 97
  · have hn : ¬ 97 < (n : Int) := by omega
    have hd : decide (97 < n) = false := by simp; omega
    clear h97 hlast
    go_wp2_with fail
    go_loop [6] (fun a => ∃ i : Nat, n < i ∧ i ≤ 101 ∧ a = .int .i64 i) (fun a => (101 - intOf a).toNat)
    case atStart => exact ⟨n + 1, by omega, by omega, by go_num⟩
    case round =>
      obtain ⟨i, hi1, hi2, rfl⟩ := hrel
      by_cases hi : (i : Int) ≤ 100
      · have hc := HA.out i hi1 (by omega)
        have his : i < s.size := by omega
        go_wp2_with (go_at_call 8; refine (isCont_any _ _).mono ?_; rintro e w' ⟨rfl, rfl⟩)
        go_round
        case rel => exact ⟨i + 1, by omega, by omega, by go_num⟩
        case measure => simp [intOf]; omega
      · go_wp2
        go_ret
        exact ⟨rfl, below_drewN HB.out _⟩
  · have hn : 97 < (n : Int) := by omega
    have hc0 : cont ((s[n]'(by omega)).toNat : Int) = false := by
      rcases hlast with h5 | h5
      · exact absurd h5 h97
      · exact h5
    have hns : n < s.size := by omega
    clear h97 hlast
    go_wp2_with (go_at_call 8; refine (isCont_any _ _).mono ?_; rintro e w' ⟨rfl, rfl⟩)
    go_loop [6] (fun a => ∃ i : Nat, n < i ∧ i ≤ 101 ∧ a = .int .i64 i) (fun a => (101 - intOf a).toNat)
    case atStart => exact ⟨n + 1, by omega, by omega, by go_num⟩
    case round =>
      obtain ⟨i, hi1, hi2, rfl⟩ := hrel
      by_cases hi : (i : Int) ≤ 100
      · have hc := HA.out i hi1 (by omega)
        have his : i < s.size := by omega
        go_wp2_with (go_at_call 8; refine (isCont_any _ _).mono ?_; rintro e w' ⟨rfl, rfl⟩)
        go_round
        case rel => exact ⟨i + 1, by omega, by omega, by go_num⟩
        case measure => simp [intOf]; omega
      · go_wp2
        go_ret
        exact ⟨rfl, below_drewN HB.out _⟩
end Go.Proofs.Qxb6604352aFmt
