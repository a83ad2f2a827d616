/-
  The clones.
-/
import Derived.Test.Qxb6604425aWalkA
import Derived.Laws.CopyRow
import Derived.Laws.IdiomCopy
import Derived.Deep.OwnRows
import Derived.Deep.Slices
namespace Go.Proofs.Qxb6604425a
open Go.RowKit

theorem lt_of_cell {w : World} {b o : Nat} {v : Value} (h : w.cell? ⟨b, o, none⟩ = some v) : b < w.heap.size := by
  rcases Nat.lt_or_ge b w.heap.size with h1 | h1
  · exact h1
  · simp [World.cell?, Array.getElem?_eq_none h1] at h

/-- Every cell that holds a string holds it still. -/
def KeepsStr (w w' : World) : Prop := ∀ b o s, w.cell? ⟨b, o, none⟩ = some (.string s) → w'.cell? ⟨b, o, none⟩ = some (.string s)
theorem keeps_below {w w' : World} (h : Below w.heap.size w w') : KeepsStr w w' := fun b o s hc => by
  rw [h.cell (p := ⟨b, o, none⟩) (lt_of_cell hc)]; exact hc
theorem StrRow.keeps {w w' : World} {a : Option Addr} {len : Nat} (h : StrRow w a len) (hk : KeepsStr w w') : StrRow w' a len := fun h0 => by
  obtain ⟨b, off, ha, hc⟩ := h h0
  refine ⟨b, off, ha, fun i hi => ?_⟩
  obtain ⟨s, h1, h2⟩ := hc i hi
  exact ⟨s, hk _ _ _ h1, h2⟩
theorem ListRow.below {w w' : World} {a : Option Addr} {len : Nat} (h : ListRow w a len) (hb : Below w.heap.size w w') : ListRow w' a len := fun h0 => by
  obtain ⟨b, off, ha, hc⟩ := h h0
  refine ⟨b, off, ha, fun i hi => ?_⟩
  obtain ⟨a', l, c, h1, h2, h3⟩ := hc i hi
  exact ⟨a', l, c, by rw [hb.cell (p := ⟨b, off + i, none⟩) (lt_of_cell h1)]; exact h1, h2.keeps (keeps_below hb), h3⟩

def emptyStrs (n : Nat) : Array Value := madeCells #[.string ⟨#[]⟩] n
theorem make29 (n : Nat) (h : n ≤ 8796093022208) (w : World) :
    (Instr.makeSlice 29 (.int .i64 (n : Int)) (.int .i64 (n : Int))).run Try.prog w = .ok (.slice (some ⟨w.heap.size, 0, none⟩) n n) (w.alloc (.cells (emptyStrs n) 9)) :=
  run_make_row' (P := Try.prog) 29 9 (.string ⟨#[]⟩) 16 Try.underlying29 (by kernel_rfl) rfl .i64 .i64 n (by omega) (by omega) w

theorem setRow_alloc (w : World) (cur arr : Array Value) (t : TypeId) : (w.alloc (.cells cur t)).setRow w.heap.size arr = w.alloc (.cells arr t) := by
  show ({ w with heap := (w.heap.push (.cells cur t)).modify w.heap.size _ } : World) = { w with heap := w.heap.push (.cells arr t) }
  congr 1
  apply Array.ext
  · simp
  · intro i h1 h2
    rw [Array.getElem_modify]
    by_cases e : w.heap.size = i
    · subst e; simp
    · have h3 : i < w.heap.size := by simp at h2; omega
      simp [e, Array.getElem_push, h3]

def strCells (S : Nat → ByteArray) (n : Nat) : Array Value := ((List.range n).map fun i => Value.string (S i)).toArray
theorem addr_add (b off j : Nat) : (⟨b, off, none⟩ : Addr).add j = ⟨b, off + j, none⟩ := by
  rcases Nat.eq_zero_or_pos j with h0 | h0
  · subst h0; rfl
  · simp [Addr.add]; omega

theorem copy29 (b off n cap : Nat) (S : Nat → ByteArray) (w : World) (ty : TypeId) (hc : ∀ i, i < n → w.cell? ⟨b, off + i, none⟩ = some (.string (S i))) :
    (Builtin.copy_ #[29, 29] ty #[.slice (some ⟨w.heap.size, 0, none⟩) n n, .slice (some ⟨b, off, none⟩) n cap]).run Try.prog (w.alloc (.cells (emptyStrs n) 9)) =
      .ok (.int .i64 n) (w.alloc (.cells (strCells S n) 9)) := by
  have hsz : (emptyStrs n).size = n := size_madeCells _ _
  have h1 := run_copy_row (P := Try.prog) (w.alloc (.cells (emptyStrs n) 9)) 29 29 ty 9 w.heap.size 0 n n ⟨b, off, none⟩ n cap (emptyStrs n) 9 ((List.range n).map fun i => Value.string (S i)) Try.underlying29 (by kernel_rfl) (heap_alloc_new _ _) (by simp)
    (fun j v hj => by
      have hjn : j < n := by
        have := (List.getElem?_eq_some_iff.1 hj).1
        simpa using this
      rw [List.getElem?_map, List.getElem?_range hjn] at hj
      cases hj
      rw [addr_add]
      have hcj := hc j hjn
      rw [← hcj]
      exact ((Below.refl w.heap.size w).alloc (Nat.le_refl _) _).cell (p := ⟨b, off + j, none⟩) (lt_of_cell hcj)) (by simp [hsz]) (by simp; intro a _; rfl)
  rw [h1, setRow_alloc]
  congr 3
  · simp
  · congr 1
    have : (emptyStrs n).toList.length = n := by simpa using hsz
    simp
    omega

def CloneLeft (len : Nat) (w : World) (e : Ending) (w' : World) : Prop :=
  ∃ a' c', e = .returned (.slice a' len c') ∧ StrRow w' a' len ∧ Below w.heap.size w w'

set_option maxHeartbeats 400000 in
theorem cloneStr_nil (len cap : Nat) (w : World) (hl : Hid (len = 0)) : Calls Try.prog 13 #[.slice none len cap] w (CloneLeft len w) := by
  have hnil := fun w => Lib.run_eql_slice_nil (P := Try.prog) w 29 9 none len cap 0 0 Try.underlying29
  go_enter Try.func13, Try.ntmps13
  go_wp2
  go_ret
  refine ⟨none, 0, ?_, fun h => by have := hl.out; omega, Below.refl _ _⟩
  rw [hl.out]; rfl

set_option maxHeartbeats 400000 in
theorem cloneStr_some (ad : Addr) (len cap : Nat) (w : World) (hr : StrRow w (some ad) len) (hl : len ≤ 8796093022208) : Calls Try.prog 13 #[.slice (some ad) len cap] w (CloneLeft len w) := by
  have hnil := fun w => Lib.run_eql_slice_nil (P := Try.prog) w 29 9 (some ad) len cap 0 0 Try.underlying29
  have hmk := make29 len hl
  by_cases h0 : len = 0
  · have hcp := fun w d => run_copy_none (P := Try.prog) w 29 29 3 9 (some d) (some ad) len len len cap Try.underlying29 (by kernel_rfl) (by simp [h0])
    have H0 : Hid (len = 0) := h0
    clear hr h0
    go_enter Try.func13, Try.ntmps13
    go_wp2
    go_ret
    exact ⟨some ⟨w.heap.size, 0, none⟩, len, rfl, fun h => by have := H0.out; omega, (Below.refl _ _).alloc (Nat.le_refl _) _⟩
  · obtain ⟨b, off, ha, hc⟩ := hr (by omega)
    cases ha
    obtain ⟨S, hS⟩ := Deep.choose_lt hc
    have hcp := copy29 b off len cap S w 3 (fun i hi => (hS i hi).1)
    have HS : Hid (∀ i, i < len → (S i).size ≤ maxLen) := fun i hi => (hS i hi).2
    clear hr hc hS
    go_enter Try.func13, Try.ntmps13
    go_wp2
    go_ret
    refine ⟨some ⟨w.heap.size, 0, none⟩, len, rfl, fun _ => ⟨w.heap.size, 0, rfl, fun i hi => ⟨S i, ?_, HS.out i hi⟩⟩, (Below.refl _ _).alloc (Nat.le_refl _) _⟩
    simp [strCells, hi]

theorem cloneStr (a : Option Addr) (len cap : Nat) (w : World) (hr : StrRow w a len) (hl : len ≤ 8796093022208) : Calls Try.prog 13 #[.slice a len cap] w (CloneLeft len w) := by
  cases a with
  | none =>
    refine cloneStr_nil len cap w ?_
    show len = 0
    rcases Nat.eq_zero_or_pos len with h | h
    · exact h
    · obtain ⟨b, off, ha, _⟩ := hr h
      cases ha
  | some ad => exact cloneStr_some ad len cap w hr hl

def emptyLists (n : Nat) : Array Value := madeCells #[.slice none 0 0] n
theorem make30 (n : Nat) (h : n ≤ 8796093022208) (w : World) :
    (Instr.makeSlice 30 (.int .i64 (n : Int)) (.int .i64 (n : Int))).run Try.prog w = .ok (.slice (some ⟨w.heap.size, 0, none⟩) n n) (w.alloc (.cells (emptyLists n) 29)) :=
  run_make_row' (P := Try.prog) 30 29 (.slice none 0 0) 24 Try.underlying30 (by kernel_rfl) rfl .i64 .i64 n (by omega) (by omega) w

/-- Block B holds a row of slices of strings that may be written. -/
def OwnLists (w : World) (B len : Nat) : Prop :=
  ∀ j, j < len → ∃ a' l c, w.cell? ⟨B, j, none⟩ = some (.slice a' l c) ∧ w.frozen? ⟨B, j, none⟩ = false ∧ StrRow w a' l ∧ l ≤ 8796093022208

theorem own_made (w : World) (n : Nat) : OwnLists (w.alloc (.cells (emptyLists n) 29)) w.heap.size n := fun j hj => by
  refine ⟨none, 0, 0, ?_, ?_, fun h => by omega, by omega⟩
  · have : (emptyLists n)[j]? = some (.slice none 0 0) := by
      unfold emptyLists madeCells
      simp [hj, Nat.mod_one]
    simp [this]
  · simp

theorem keeps_setCell {w : World} {B i : Nat} {a' : Option Addr} {l c : Nat} (h : w.cell? ⟨B, i, none⟩ = some (.slice a' l c)) (v : Value) : KeepsStr w (w.setCell ⟨B, i, none⟩ v) := fun b o s hc => by
  rw [World.cell?_setCell_other]
  · exact hc
  · intro e
    rw [e, hc] at h
    cases h

theorem OwnLists.step {wr w1 : World} {B len i : Nat} {a2 : Option Addr} {l2 c2 : Nat} (h : OwnLists wr B len) (hB : B < wr.heap.size) (hb : Below wr.heap.size wr w1) (hi : i < len) (hs : StrRow w1 a2 l2) (hl : l2 ≤ 8796093022208) :
    OwnLists (w1.setCell ⟨B, i, none⟩ (.slice a2 l2 c2)) B len := fun j hj => by
  obtain ⟨ai, li, ci, hci, _, _, _⟩ := h i hi
  have hci1 : w1.cell? ⟨B, i, none⟩ = some (.slice ai li ci) := by rw [hb.cell (p := ⟨B, i, none⟩) hB]; exact hci
  have hk := keeps_setCell hci1 (.slice a2 l2 c2)
  by_cases e : j = i
  · subst e
    refine ⟨a2, l2, c2, World.cell?_setCell_same _ _ _ hci1, ?_, hs.keeps hk, hl⟩
    obtain ⟨_, _, _, _, hf, _, _⟩ := h j hj
    rw [World.frozen?_setCell, hb.frozen (p := ⟨B, j, none⟩) hB]; exact hf
  · obtain ⟨a', l, c, hc, hf, hsr, hll⟩ := h j hj
    refine ⟨a', l, c, ?_, ?_, (hsr.keeps (keeps_below hb)).keeps hk, hll⟩
    · rw [World.cell?_setCell_other]
      · rw [hb.cell (p := ⟨B, j, none⟩) hB]; exact hc
      · intro e2; cases e2; exact e rfl
    · rw [World.frozen?_setCell, hb.frozen (p := ⟨B, j, none⟩) hB]; exact hf

def ListsLeft (len : Nat) (w : World) (e : Ending) (w' : World) : Prop :=
  ∃ a' c', e = .returned (.slice a' len c') ∧ ListRow w' a' len ∧ Below w.heap.size w w'

set_option maxHeartbeats 400000 in
theorem cloneLists_nil (len cap : Nat) (w : World) (hl : Hid (len = 0)) : Calls Try.prog 14 #[.slice none len cap] w (ListsLeft len w) := by
  have hnil := fun w => Lib.run_eql_slice_nil (P := Try.prog) w 30 29 none len cap 0 0 Try.underlying30
  go_enter Try.func14, Try.ntmps14
  go_wp2
  go_ret
  refine ⟨none, 0, ?_, fun h => by have := hl.out; omega, Below.refl _ _⟩
  rw [hl.out]; rfl

set_option maxHeartbeats 1000000 in
theorem cloneLists_some (ad : Addr) (len cap : Nat) (w : World) (hr : ListRow w (some ad) len) (hl : len ≤ 8796093022208) : Calls Try.prog 14 #[.slice (some ad) len cap] w (ListsLeft len w) := by
  have hnil := fun w => Lib.run_eql_slice_nil (P := Try.prog) w 30 29 (some ad) len cap 0 0 Try.underlying30
  have hmk := make30 len hl
  go_enter Try.func14, Try.ntmps14
  go_wp2
  clear hnil hmk
  go_loopw [4] (fun i wr => ∃ k : Nat, k ≤ len ∧ i = .int .i64 k ∧ OwnLists wr w.heap.size len ∧ Below w.heap.size w wr ∧ w.heap.size < wr.heap.size) (fun i _ => len - (intOf i).toNat)
  case atStart => exact ⟨0, by omega, rfl, own_made w len, (Below.refl _ _).alloc (Nat.le_refl _) _, by simp⟩
  case round =>
    obtain ⟨k, hk, rfl, hown, hB, hlt⟩ := hrel
    by_cases hkl : (k : Int) < len
    · obtain ⟨b, off, ha, hc⟩ := hr (by omega)
      cases ha
      obtain ⟨a', l, c, hcell, hsr, hll⟩ := hc k (by omega)
      have hcell1 : wr.cell? ⟨b, off + k, none⟩ = some (.slice a' l c) := by rw [hB.cell (p := ⟨b, off + k, none⟩) (lt_of_cell hcell)]; exact hcell
      have hsr1 := hsr.keeps (keeps_below hB)
      clear hcell hsr hc hr
      go_wp2_with fail
      refine (cloneStr a' l c _ hsr1 hll).mono ?_
      rintro e w1 ⟨a2, c2, rfl, hs2, hb1⟩
      obtain ⟨ai, li, ci, hci, hfi, _, _⟩ := hown k (by omega)
      have hci1 : w1.cell? ⟨w.heap.size, k, none⟩ = some (.slice ai li ci) := by rw [hb1.cell (p := ⟨w.heap.size, k, none⟩) hlt]; exact hci
      have hfi1 : w1.frozen? ⟨w.heap.size, k, none⟩ = false := by rw [hb1.frozen (p := ⟨w.heap.size, k, none⟩) hlt]; exact hfi
      have HO : Hid (OwnLists (w1.setCell ⟨w.heap.size, k, none⟩ (.slice a2 l c2)) w.heap.size len) := hown.step hlt hb1 (by omega) hs2 hll
      have HB : Hid (Below w.heap.size w (w1.setCell ⟨w.heap.size, k, none⟩ (.slice a2 l c2))) := (hB.trans (hb1.mono hB.size)).setCell (Nat.le_refl _) _
      have hsz := hb1.size
      clear hown hB hci hfi hcell1 hsr1 hs2 hb1
      go_wp2
      go_roundw
      case rel => exact ⟨k + 1, by omega, by go_num, HO.out, HB.out, by simp [World.setCell]; omega⟩
      case measure => simp [intOf]; omega
    · go_wp2
      go_ret
      refine ⟨some ⟨w.heap.size, 0, none⟩, len, rfl, fun _ => ⟨w.heap.size, 0, rfl, fun i hi => ?_⟩, hB⟩
      obtain ⟨a', l, c, h1, _, h2, h3⟩ := hown i hi
      exact ⟨a', l, c, by rw [Nat.zero_add]; exact h1, h2, h3⟩

theorem cloneLists (a : Option Addr) (len cap : Nat) (w : World) (hr : ListRow w a len) (hl : len ≤ 8796093022208) : Calls Try.prog 14 #[.slice a len cap] w (ListsLeft len w) := by
  cases a with
  | none =>
    refine cloneLists_nil len cap w ?_
    show len = 0
    rcases Nat.eq_zero_or_pos len with h | h
    · exact h
    · obtain ⟨b, off, ha, _⟩ := hr h
      cases ha
  | some ad => exact cloneLists_some ad len cap w hr hl
end Go.Proofs.Qxb6604425a
