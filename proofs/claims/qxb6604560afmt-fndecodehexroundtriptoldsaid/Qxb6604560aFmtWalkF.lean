/-
  The law 'FnDecodeHexRoundTrip': bools cloned.
-/
import Derived.Test.Qxb6604560aFmtWalkD
namespace Go.Proofs.Qxb6604560aFmt
open Go.RowKit Go.Extern.Stop Go.Stop Go.Extern

/-- A slice of bools that came in. -/
def BoolRow (w : World) (a : Option Addr) (n : Nat) (g : Nat → Bool) : Prop :=
  0 < n → ∃ b off, a = some ⟨b, off, none⟩ ∧ ∀ i, i < n → w.cell? ⟨b, off + i, none⟩ = some (.bool (g i))
theorem BoolRow.below {w w' : World} {a : Option Addr} {n : Nat} {g : Nat → Bool} (h : BoolRow w a n g) (hb : Below w.heap.size w w') : BoolRow w' a n g := fun h0 => by
  obtain ⟨b, off, ha, hc⟩ := h h0
  exact ⟨b, off, ha, fun i hi => by rw [hb.cell (p := ⟨b, off + i, none⟩) (lt_of_cell (hc i hi))]; exact hc i hi⟩

def CloneLeftB (n : Nat) (g : Nat → Bool) (w : World) (e : Ending) (w' : World) : Prop :=
  ∃ a' c', e = .returned (.slice a' n c') ∧ (0 < n → a' = some ⟨w.heap.size, 0, none⟩ ∧ w'.rowIs w.heap.size 4 n (fun i => .bool (g i))) ∧ Below w.heap.size w w'

def falseB (n : Nat) : Array Value := madeCells #[.bool false] n
theorem make30 (n : Nat) (h : n ≤ 2097152) (w : World) :
    (Instr.makeSlice 30 (.int .i64 (n : Int)) (.int .i64 (n : Int))).run Tryf.prog w = .ok (.slice (some ⟨w.heap.size, 0, none⟩) n n) (w.alloc (.cells (falseB n) 4)) :=
  run_make_row' (P := Tryf.prog) 30 4 (.bool false) 1 Tryf.underlying30 (by kernel_rfl) rfl .i64 .i64 n (by omega) (by omega) w

set_option maxHeartbeats 400000 in
theorem cloneb_nil (n cap : Nat) (g : Nat → Bool) (w : World) (hl : Hid (n = 0)) : Calls Tryf.prog 13 #[.slice none n cap] w (CloneLeftB n g w) := by
  have hnil := fun w => Lib.run_eql_slice_nil (P := Tryf.prog) w 30 4 none n cap 0 0 Tryf.underlying30
  go_enter Tryf.func13, Tryf.ntmps13
  go_wp2
  go_ret
  refine ⟨none, 0, ?_, fun h => by have := hl.out; omega, Below.refl _ _⟩
  rw [hl.out]; rfl

set_option maxHeartbeats 1000000 in
theorem cloneb_some (ad : Addr) (n cap : Nat) (g : Nat → Bool) (w : World) (hr : BoolRow w (some ad) n g) (hn : n ≤ 1048576) : Calls Tryf.prog 13 #[.slice (some ad) n cap] w (CloneLeftB n g w) := by
  have hnil := fun w => Lib.run_eql_slice_nil (P := Tryf.prog) w 30 4 (some ad) n cap 0 0 Tryf.underlying30
  have hmk := make30 n (by omega)
  go_enter Tryf.func13, Tryf.ntmps13
  go_wp2
  clear hnil hmk
  go_loopw [4] (fun i wr => ∃ k : Nat, k ≤ n ∧ i = .int .i64 k ∧ wr.rowIs w.heap.size 4 n (fun i => if i < k then .bool (g i) else .bool false) ∧ Below w.heap.size w wr) (fun i _ => n - (intOf i).toNat)
  case atStart => exact ⟨0, by omega, rfl, (World.rowIs_made w (.bool false) n 4).congr (fun i _ => by simp), (Below.refl _ _).alloc (Nat.le_refl _) _⟩
  case round =>
    obtain ⟨k, hk, rfl, hrow, hB⟩ := hrel
    by_cases hkn : (k : Int) < n
    · obtain ⟨b, off, ha, hc⟩ := hr (by omega)
      cases ha
      have hck := hc k (by omega)
      have hs1 : wr.cell? ⟨b, off + k, none⟩ = some (.bool (g k)) := by rw [hB.cell (p := ⟨b, off + k, none⟩) (lt_of_cell hck)]; exact hck
      have hd1 : wr.cell? ⟨w.heap.size, k, none⟩ = some (if k < k then .bool (g k) else .bool false) := hrow.cell (by omega)
      rw [if_neg (by omega)] at hd1
      have hd2 := hrow.frozen k
      have HR : Hid ((wr.setCell ⟨w.heap.size, k, none⟩ (.bool (g k))).rowIs w.heap.size 4 n (fun i => if i < k + 1 then .bool (g i) else .bool false)) := (hrow.set k _).congr (fun i hi => by
        by_cases h1 : i = k
        · subst h1; simp
        · by_cases h2 : i < k
          · rw [if_neg h1, if_pos h2, if_pos (by omega)]
          · rw [if_neg h1, if_neg h2, if_neg (by omega)])
      have HB : Hid (Below w.heap.size w (wr.setCell ⟨w.heap.size, k, none⟩ (.bool (g k)))) := hB.setCell (Nat.le_refl _) _
      clear hr hc hck hrow hB
      go_wp2
      go_roundw
      case rel => exact ⟨k + 1, by omega, by go_num, HR.out, HB.out⟩
      case measure => simp [intOf]; omega
    · go_wp2
      go_ret
      exact ⟨some ⟨w.heap.size, 0, none⟩, n, rfl, fun _ => ⟨rfl, hrow.congr (fun i hi => by rw [if_pos (by omega)])⟩, hB⟩

theorem cloneb (a : Option Addr) (n cap : Nat) (g : Nat → Bool) (w : World) (hr : BoolRow w a n g) (hn : n ≤ 1048576) : Calls Tryf.prog 13 #[.slice a n cap] w (CloneLeftB n g w) := by
  cases a with
  | none =>
    refine cloneb_nil n cap g w ?_
    show n = 0
    rcases Nat.eq_zero_or_pos n with h | h
    · exact h
    · obtain ⟨b, off, ha, _⟩ := hr h
      cases ha
  | some ad => exact cloneb_some ad n cap g w hr hn


set_option maxHeartbeats 400000 in
theorem zzB12 (a b : Option Addr) (n cap m capb : Nat) (w : World) : Calls Tryf.prog 12 #[.slice a n cap, .slice b m capb] w (ABool w) := by
  go_enter Tryf.func12, Tryf.ntmps12
  go_wp2
  all_goals (go_ret; exact ⟨_, rfl, rfl⟩)
end Go.Proofs.Qxb6604560aFmt
