/-
  Rows, clones, sameness.
-/
import Derived.Test.Qxb6603326aRows
import Derived.Test.Qxb6603326aPlain
import Derived.WalkKit
import Derived.WalkSpells
import Derived.WalkLawsBesides
import Derived.BigQuiet
import Derived.Deep.QuietTactic
import Derived.Deep.OwnRows
import Derived.RegionTactic
namespace Go.Proofs.Qxb6603326a
open Go.RowKit

/-- A slice of ints that came in. -/
def IntRow (w : World) (a : Option Addr) (n : Nat) (g : Nat → Int) : Prop :=
  0 < n → ∃ b off, a = some ⟨b, off, none⟩ ∧ ∀ i, i < n → w.cell? ⟨b, off + i, none⟩ = some (.int .i64 (g i))
theorem lt_of_cell {w : World} {b o : Nat} {v : Value} (h : w.cell? ⟨b, o, none⟩ = some v) : b < w.heap.size := by
  rcases Nat.lt_or_ge b w.heap.size with h1 | h1
  · exact h1
  · simp [World.cell?, Array.getElem?_eq_none h1] at h
theorem IntRow.below {w w' : World} {a : Option Addr} {n : Nat} {g : Nat → Int} (h : IntRow w a n g) (hb : Below w.heap.size w w') : IntRow w' a n g := fun h0 => by
  obtain ⟨b, off, ha, hc⟩ := h h0
  exact ⟨b, off, ha, fun i hi => by rw [hb.cell (p := ⟨b, off + i, none⟩) (lt_of_cell (hc i hi))]; exact hc i hi⟩

def CloneI (n : Nat) (g : Nat → Int) (w : World) (e : Ending) (w' : World) : Prop :=
  ∃ a' c', e = .returned (.slice a' n c') ∧ (0 < n → a' = some ⟨w.heap.size, 0, none⟩ ∧ w'.rowIs w.heap.size 3 n (fun i => .int .i64 (g i))) ∧ Below w.heap.size w w'

def zeroI (n : Nat) : Array Value := madeCells #[.int .i64 0] n
theorem make23 (n : Nat) (h : n ≤ 2097152) (w : World) :
    (Instr.makeSlice 23 (.int .i64 (n : Int)) (.int .i64 (n : Int))).run Try.prog w = .ok (.slice (some ⟨w.heap.size, 0, none⟩) n n) (w.alloc (.cells (zeroI n) 3)) :=
  run_make_row' (P := Try.prog) 23 3 (.int .i64 0) 8 Try.underlying23 (by kernel_rfl) rfl .i64 .i64 n (by omega) (by omega) w

set_option maxHeartbeats 400000 in
theorem clonei_nil (n cap : Nat) (g : Nat → Int) (w : World) (hl : Hid (n = 0)) : Calls Try.prog 9 #[.slice none n cap] w (CloneI n g w) := by
  have hnil := fun w => Lib.run_eql_slice_nil (P := Try.prog) w 23 3 none n cap 0 0 Try.underlying23
  go_enter Try.func9, Try.ntmps9
  go_wp2
  go_ret
  refine ⟨none, 0, ?_, fun h => by have := hl.out; omega, Below.refl _ _⟩
  rw [hl.out]; rfl

set_option maxHeartbeats 1000000 in
theorem clonei_some (ad : Addr) (n cap : Nat) (g : Nat → Int) (w : World) (hr : IntRow w (some ad) n g) (hn : n ≤ 1048576) : Calls Try.prog 9 #[.slice (some ad) n cap] w (CloneI n g w) := by
  have hnil := fun w => Lib.run_eql_slice_nil (P := Try.prog) w 23 3 (some ad) n cap 0 0 Try.underlying23
  have hmk := make23 n (by omega)
  go_enter Try.func9, Try.ntmps9
  go_wp2
  clear hnil hmk
  go_loopw [4] (fun i wr => ∃ k : Nat, k ≤ n ∧ i = .int .i64 k ∧ wr.rowIs w.heap.size 3 n (fun i => if i < k then .int .i64 (g i) else .int .i64 0) ∧ Below w.heap.size w wr) (fun i _ => n - (intOf i).toNat)
  case atStart => exact ⟨0, by omega, rfl, (World.rowIs_made w (.int .i64 0) n 3).congr (fun i _ => by simp), (Below.refl _ _).alloc (Nat.le_refl _) _⟩
  case round =>
    obtain ⟨k, hk, rfl, hrow, hB⟩ := hrel
    by_cases hkn : (k : Int) < n
    · obtain ⟨b, off, ha, hc⟩ := hr (by omega)
      cases ha
      have hck := hc k (by omega)
      have hs1 : wr.cell? ⟨b, off + k, none⟩ = some (.int .i64 (g k)) := by rw [hB.cell (p := ⟨b, off + k, none⟩) (lt_of_cell hck)]; exact hck
      have hd1 : wr.cell? ⟨w.heap.size, k, none⟩ = some (if k < k then .int .i64 (g k) else .int .i64 0) := hrow.cell (by omega)
      rw [if_neg (by omega)] at hd1
      have hd2 := hrow.frozen k
      have HR : Hid ((wr.setCell ⟨w.heap.size, k, none⟩ (.int .i64 (g k))).rowIs w.heap.size 3 n (fun i => if i < k + 1 then .int .i64 (g i) else .int .i64 0)) := (hrow.set k _).congr (fun i hi => by
        by_cases h1 : i = k
        · subst h1; simp
        · by_cases h2 : i < k
          · rw [if_neg h1, if_pos h2, if_pos (by omega)]
          · rw [if_neg h1, if_neg h2, if_neg (by omega)])
      have HB : Hid (Below w.heap.size w (wr.setCell ⟨w.heap.size, k, none⟩ (.int .i64 (g k)))) := hB.setCell (Nat.le_refl _) _
      clear hr hc hck hrow hB
      go_wp2
      go_roundw
      case rel => exact ⟨k + 1, by omega, by go_num, HR.out, HB.out⟩
      case measure => simp [intOf]; omega
    · go_wp2
      go_ret
      exact ⟨some ⟨w.heap.size, 0, none⟩, n, rfl, fun _ => ⟨rfl, hrow.congr (fun i hi => by rw [if_pos (by omega)])⟩, hB⟩

theorem clonei (a : Option Addr) (n cap : Nat) (g : Nat → Int) (w : World) (hr : IntRow w a n g) (hn : n ≤ 1048576) : Calls Try.prog 9 #[.slice a n cap] w (CloneI n g w) := by
  cases a with
  | none =>
    refine clonei_nil n cap g w ?_
    show n = 0
    rcases Nat.eq_zero_or_pos n with h | h
    · exact h
    · obtain ⟨b, off, ha, _⟩ := hr h
      cases ha
  | some ad => exact clonei_some ad n cap g w hr hn

set_option maxHeartbeats 1000000 in
/-- Two slices that hold the same bytes. -/
theorem sameB (a a2 : Option Addr) (n c1 c2 : Nat) (g : Nat → Int) (w : World) (hn : n ≤ 1048576) (h1 : IntRow w a n g) (h2 : IntRow w a2 n g) :
    Calls Try.prog 13 #[.slice a n c1, .slice a2 n c2] w fun e w' => e = .returned (.bool true) ∧ Below w.heap.size w w' := by
  go_enter Try.func13, Try.ntmps13
  go_wp2
  go_loopw [5] (fun i wr => ∃ k : Nat, k ≤ n ∧ i = .int .i64 k ∧ Below w.heap.size w wr) (fun i _ => n - (intOf i).toNat)
  case atStart => exact ⟨0, by omega, rfl, Below.refl _ _⟩
  case round =>
    obtain ⟨k, hk, rfl, hB⟩ := hrel
    by_cases hkn : (k : Int) < n
    · obtain ⟨b, off, rfl, hc⟩ := h1 (by omega)
      obtain ⟨b2, off2, rfl, hc2⟩ := h2 (by omega)
      have e1 := hc k (by omega)
      have e2 := hc2 k (by omega)
      have s1 : wr.cell? ⟨b, off + k, none⟩ = some (.int .i64 (g k)) := by rw [hB.cell (p := ⟨b, off + k, none⟩) (lt_of_cell e1)]; exact e1
      have s2 : wr.cell? ⟨b2, off2 + k, none⟩ = some (.int .i64 (g k)) := by rw [hB.cell (p := ⟨b2, off2 + k, none⟩) (lt_of_cell e2)]; exact e2
      have hbb : (g k != g k) = false := by simp
      clear h1 h2 hc hc2 e1 e2
      go_wp2_with fail
      go_quiet (fail)
      go_wp2
      go_roundw
      case rel => exact ⟨k + 1, by omega, by go_num, below_drewN hB _⟩
      case measure => simp [intOf]; omega
    · go_wp2
      go_ret
      exact ⟨rfl, hB⟩


/-- A slice of strings that came in. -/
def StrRow (w : World) (a : Option Addr) (n : Nat) (g : Nat → ByteArray) : Prop :=
  0 < n → ∃ b off, a = some ⟨b, off, none⟩ ∧ ∀ i, i < n → w.cell? ⟨b, off + i, none⟩ = some (.string (g i))
theorem StrRow.below {w w' : World} {a : Option Addr} {n : Nat} {g : Nat → ByteArray} (h : StrRow w a n g) (hb : Below w.heap.size w w') : StrRow w' a n g := fun h0 => by
  obtain ⟨b, off, ha, hc⟩ := h h0
  exact ⟨b, off, ha, fun i hi => by rw [hb.cell (p := ⟨b, off + i, none⟩) (lt_of_cell (hc i hi))]; exact hc i hi⟩

def CloneS (n : Nat) (g : Nat → ByteArray) (w : World) (e : Ending) (w' : World) : Prop :=
  ∃ a' c', e = .returned (.slice a' n c') ∧ (0 < n → a' = some ⟨w.heap.size, 0, none⟩ ∧ w'.rowIs w.heap.size 9 n (fun i => .string (g i))) ∧ Below w.heap.size w w'

def zeroS (n : Nat) : Array Value := madeCells #[.string ⟨#[]⟩] n
theorem make22 (n : Nat) (h : n ≤ 2097152) (w : World) :
    (Instr.makeSlice 22 (.int .i64 (n : Int)) (.int .i64 (n : Int))).run Try.prog w = .ok (.slice (some ⟨w.heap.size, 0, none⟩) n n) (w.alloc (.cells (zeroS n) 9)) :=
  run_make_row' (P := Try.prog) 22 9 (.string ⟨#[]⟩) 16 Try.underlying22 (by kernel_rfl) rfl .i64 .i64 n (by omega) (by omega) w

set_option maxHeartbeats 400000 in
theorem clones_nil (n cap : Nat) (g : Nat → ByteArray) (w : World) (hl : Hid (n = 0)) : Calls Try.prog 10 #[.slice none n cap] w (CloneS n g w) := by
  have hnil := fun w => Lib.run_eql_slice_nil (P := Try.prog) w 22 9 none n cap 0 0 Try.underlying22
  go_enter Try.func10, Try.ntmps10
  go_wp2
  go_ret
  refine ⟨none, 0, ?_, fun h => by have := hl.out; omega, Below.refl _ _⟩
  rw [hl.out]; rfl

set_option maxHeartbeats 1000000 in
theorem clones_some (ad : Addr) (n cap : Nat) (g : Nat → ByteArray) (w : World) (hr : StrRow w (some ad) n g) (hn : n ≤ 1048576) : Calls Try.prog 10 #[.slice (some ad) n cap] w (CloneS n g w) := by
  have hnil := fun w => Lib.run_eql_slice_nil (P := Try.prog) w 22 9 (some ad) n cap 0 0 Try.underlying22
  have hmk := make22 n (by omega)
  go_enter Try.func10, Try.ntmps10
  go_wp2
  clear hnil hmk
  go_loopw [4] (fun i wr => ∃ k : Nat, k ≤ n ∧ i = .int .i64 k ∧ wr.rowIs w.heap.size 9 n (fun i => if i < k then .string (g i) else .string ⟨#[]⟩) ∧ Below w.heap.size w wr) (fun i _ => n - (intOf i).toNat)
  case atStart => exact ⟨0, by omega, rfl, (World.rowIs_made w (.string ⟨#[]⟩) n 9).congr (fun i _ => by simp), (Below.refl _ _).alloc (Nat.le_refl _) _⟩
  case round =>
    obtain ⟨k, hk, rfl, hrow, hB⟩ := hrel
    by_cases hkn : (k : Int) < n
    · obtain ⟨b, off, ha, hc⟩ := hr (by omega)
      cases ha
      have hck := hc k (by omega)
      have hs1 : wr.cell? ⟨b, off + k, none⟩ = some (.string (g k)) := by rw [hB.cell (p := ⟨b, off + k, none⟩) (lt_of_cell hck)]; exact hck
      have hd1 : wr.cell? ⟨w.heap.size, k, none⟩ = some (if k < k then .string (g k) else .string ⟨#[]⟩) := hrow.cell (by omega)
      rw [if_neg (by omega)] at hd1
      have hd2 := hrow.frozen k
      have HR : Hid ((wr.setCell ⟨w.heap.size, k, none⟩ (.string (g k))).rowIs w.heap.size 9 n (fun i => if i < k + 1 then .string (g i) else .string ⟨#[]⟩)) := (hrow.set k _).congr (fun i hi => by
        by_cases h1 : i = k
        · subst h1; simp
        · by_cases h2 : i < k
          · rw [if_neg h1, if_pos h2, if_pos (by omega)]
          · rw [if_neg h1, if_neg h2, if_neg (by omega)])
      have HB : Hid (Below w.heap.size w (wr.setCell ⟨w.heap.size, k, none⟩ (.string (g k)))) := hB.setCell (Nat.le_refl _) _
      clear hr hc hck hrow hB
      go_wp2
      go_roundw
      case rel => exact ⟨k + 1, by omega, by go_num, HR.out, HB.out⟩
      case measure => simp [intOf]; omega
    · go_wp2
      go_ret
      exact ⟨some ⟨w.heap.size, 0, none⟩, n, rfl, fun _ => ⟨rfl, hrow.congr (fun i hi => by rw [if_pos (by omega)])⟩, hB⟩

theorem clones (a : Option Addr) (n cap : Nat) (g : Nat → ByteArray) (w : World) (hr : StrRow w a n g) (hn : n ≤ 1048576) : Calls Try.prog 10 #[.slice a n cap] w (CloneS n g w) := by
  cases a with
  | none =>
    refine clones_nil n cap g w ?_
    show n = 0
    rcases Nat.eq_zero_or_pos n with h | h
    · exact h
    · obtain ⟨b, off, ha, _⟩ := hr h
      cases ha
  | some ad => exact clones_some ad n cap g w hr hn


end Go.Proofs.Qxb6603326a
