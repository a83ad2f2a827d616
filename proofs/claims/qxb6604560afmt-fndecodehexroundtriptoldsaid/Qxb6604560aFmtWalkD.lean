/-
  Clones, sameness, ZZdecodeHex.
-/
import Derived.Test.Qxb6604560aFmtWalkC
import Derived.BigQuiet
import Derived.Deep.QuietTactic
namespace Go.Proofs.Qxb6604560aFmt
open Go.RowKit Go.Extern.Stop Go.Stop Go.Extern

/-- A slice of bytes that came in. -/
def ByteRow (w : World) (a : Option Addr) (n : Nat) (g : Nat → Int) : Prop :=
  0 < n → ∃ b off, a = some ⟨b, off, none⟩ ∧ ∀ i, i < n → w.cell? ⟨b, off + i, none⟩ = some (.int .u8 (g i))
theorem lt_of_cell {w : World} {b o : Nat} {v : Value} (h : w.cell? ⟨b, o, none⟩ = some v) : b < w.heap.size := by
  rcases Nat.lt_or_ge b w.heap.size with h1 | h1
  · exact h1
  · simp [World.cell?, Array.getElem?_eq_none h1] at h
theorem ByteRow.below {w w' : World} {a : Option Addr} {n : Nat} {g : Nat → Int} (h : ByteRow w a n g) (hb : Below w.heap.size w w') : ByteRow w' a n g := fun h0 => by
  obtain ⟨b, off, ha, hc⟩ := h h0
  exact ⟨b, off, ha, fun i hi => by rw [hb.cell (p := ⟨b, off + i, none⟩) (lt_of_cell (hc i hi))]; exact hc i hi⟩

def CloneLeft (n : Nat) (g : Nat → Int) (w : World) (e : Ending) (w' : World) : Prop :=
  ∃ a' c', e = .returned (.slice a' n c') ∧ (0 < n → a' = some ⟨w.heap.size, 0, none⟩ ∧ w'.rowIs w.heap.size 5 n (fun i => .int .u8 (g i))) ∧ Below w.heap.size w w'

def zeroB (n : Nat) : Array Value := madeCells #[.int .u8 0] n
theorem make22 (n : Nat) (h : n ≤ 2097152) (w : World) :
    (Instr.makeSlice 22 (.int .i64 (n : Int)) (.int .i64 (n : Int))).run Tryf.prog w = .ok (.slice (some ⟨w.heap.size, 0, none⟩) n n) (w.alloc (.cells (zeroB n) 5)) :=
  run_make_row' (P := Tryf.prog) 22 5 (.int .u8 0) 1 Tryf.underlying22 (by kernel_rfl) rfl .i64 .i64 n (by omega) (by omega) w

set_option maxHeartbeats 400000 in
theorem clone_nil (n cap : Nat) (g : Nat → Int) (w : World) (hl : Hid (n = 0)) : Calls Tryf.prog 8 #[.slice none n cap] w (CloneLeft n g w) := by
  have hnil := fun w => Lib.run_eql_slice_nil (P := Tryf.prog) w 22 5 none n cap 0 0 Tryf.underlying22
  go_enter Tryf.func8, Tryf.ntmps8
  go_wp2
  go_ret
  refine ⟨none, 0, ?_, fun h => by have := hl.out; omega, Below.refl _ _⟩
  rw [hl.out]; rfl

set_option maxHeartbeats 1000000 in
theorem clone_some (ad : Addr) (n cap : Nat) (g : Nat → Int) (w : World) (hr : ByteRow w (some ad) n g) (hn : n ≤ 1048576) : Calls Tryf.prog 8 #[.slice (some ad) n cap] w (CloneLeft n g w) := by
  have hnil := fun w => Lib.run_eql_slice_nil (P := Tryf.prog) w 22 5 (some ad) n cap 0 0 Tryf.underlying22
  have hmk := make22 n (by omega)
  go_enter Tryf.func8, Tryf.ntmps8
  go_wp2
  clear hnil hmk
  go_loopw [4] (fun i wr => ∃ k : Nat, k ≤ n ∧ i = .int .i64 k ∧ wr.rowIs w.heap.size 5 n (fun i => if i < k then .int .u8 (g i) else .int .u8 0) ∧ Below w.heap.size w wr) (fun i _ => n - (intOf i).toNat)
  case atStart => exact ⟨0, by omega, rfl, (World.rowIs_made w (.int .u8 0) n 5).congr (fun i _ => by simp), (Below.refl _ _).alloc (Nat.le_refl _) _⟩
  case round =>
    obtain ⟨k, hk, rfl, hrow, hB⟩ := hrel
    by_cases hkn : (k : Int) < n
    · obtain ⟨b, off, ha, hc⟩ := hr (by omega)
      cases ha
      have hck := hc k (by omega)
      have hs1 : wr.cell? ⟨b, off + k, none⟩ = some (.int .u8 (g k)) := by rw [hB.cell (p := ⟨b, off + k, none⟩) (lt_of_cell hck)]; exact hck
      have hd1 : wr.cell? ⟨w.heap.size, k, none⟩ = some (if k < k then .int .u8 (g k) else .int .u8 0) := hrow.cell (by omega)
      rw [if_neg (by omega)] at hd1
      have hd2 := hrow.frozen k
      have HR : Hid ((wr.setCell ⟨w.heap.size, k, none⟩ (.int .u8 (g k))).rowIs w.heap.size 5 n (fun i => if i < k + 1 then .int .u8 (g i) else .int .u8 0)) := (hrow.set k _).congr (fun i hi => by
        by_cases h1 : i = k
        · subst h1; simp
        · by_cases h2 : i < k
          · rw [if_neg h1, if_pos h2, if_pos (by omega)]
          · rw [if_neg h1, if_neg h2, if_neg (by omega)])
      have HB : Hid (Below w.heap.size w (wr.setCell ⟨w.heap.size, k, none⟩ (.int .u8 (g k)))) := hB.setCell (Nat.le_refl _) _
      clear hr hc hck hrow hB
      go_wp2
      go_roundw
      case rel => exact ⟨k + 1, by omega, by go_num, HR.out, HB.out⟩
      case measure => simp [intOf]; omega
    · go_wp2
      go_ret
      exact ⟨some ⟨w.heap.size, 0, none⟩, n, rfl, fun _ => ⟨rfl, hrow.congr (fun i hi => by rw [if_pos (by omega)])⟩, hB⟩

theorem clone (a : Option Addr) (n cap : Nat) (g : Nat → Int) (w : World) (hr : ByteRow w a n g) (hn : n ≤ 1048576) : Calls Tryf.prog 8 #[.slice a n cap] w (CloneLeft n g w) := by
  cases a with
  | none =>
    refine clone_nil n cap g w ?_
    show n = 0
    rcases Nat.eq_zero_or_pos n with h | h
    · exact h
    · obtain ⟨b, off, ha, _⟩ := hr h
      cases ha
  | some ad => exact clone_some ad n cap g w hr hn

set_option maxHeartbeats 1000000 in
/-- Two slices that hold the same bytes. -/
theorem sameB (a a2 : Option Addr) (n c1 c2 : Nat) (g : Nat → Int) (w : World) (hn : n ≤ 1048576) (h1 : ByteRow w a n g) (h2 : ByteRow w a2 n g) :
    Calls Tryf.prog 10 #[.slice a n c1, .slice a2 n c2] w fun e w' => e = .returned (.bool true) ∧ Below w.heap.size w w' := by
  go_enter Tryf.func10, Tryf.ntmps10
  go_wp2
  go_loopw [5] (fun i wr => ∃ k : Nat, k ≤ n ∧ i = .int .i64 k ∧ Below w.heap.size w wr) (fun i _ => n - (intOf i).toNat)
  case atStart => exact ⟨0, by omega, rfl, Below.refl _ _⟩
  case round =>
    obtain ⟨k, hk, rfl, hB⟩ := hrel
    by_cases hkn : (k : Int) < n
    · obtain ⟨b, off, rfl, hc⟩ := h1 (by omega)
      obtain ⟨b2, off2, rfl, hc2⟩ := h2 (by omega)
      have e1 := hc k (by omega)
      have e2 := hc2 k (by omega)
      have s1 : wr.cell? ⟨b, off + k, none⟩ = some (.int .u8 (g k)) := by rw [hB.cell (p := ⟨b, off + k, none⟩) (lt_of_cell e1)]; exact e1
      have s2 : wr.cell? ⟨b2, off2 + k, none⟩ = some (.int .u8 (g k)) := by rw [hB.cell (p := ⟨b2, off2 + k, none⟩) (lt_of_cell e2)]; exact e2
      have hbb : (g k != g k) = false := by simp
      clear h1 h2 hc hc2 e1 e2
      go_wp2_with fail
      go_quiet (fail)
      go_wp2
      go_roundw
      case rel => exact ⟨k + 1, by omega, by go_num, below_drewN hB _⟩
      case measure => simp [intOf]; omega
    · go_wp2
      go_ret
      exact ⟨rfl, hB⟩

set_option maxHeartbeats 400000 in
theorem zzDec (args : Array Value) (v0 v1 v2 : Value) (w : World) (Q : Ending → World → Prop) (ha : args = #[v0, v1, v2]) (h : Calls Tryf.prog 20 #[v0, v1, v2] w fun e w' => (∃ v, e = .returned v) ∧ Q e w') : Calls Tryf.prog 9 args w Q := by
  subst ha
  go_enter Tryf.func9, Tryf.ntmps9
  go_wp2_with fail
  refine h.mono ?_
  rintro e w' ⟨⟨v, rfl⟩, hq⟩
  have HQ : Hid (Q (.returned v) w') := hq
  clear hq h
  go_wp2
  exact HQ.out

/-- It gives some bool and leaves the world. -/
def ABool (w : World) (e : Ending) (w' : World) : Prop := ∃ t : Bool, e = .returned (.bool t) ∧ w' = w
set_option maxHeartbeats 400000 in
theorem zzB7 (a : Option Addr) (n cap : Nat) (s what : ByteArray) (w : World) : Calls Tryf.prog 7 #[.slice a n cap, .string s, .string what] w (ABool w) := by
  go_enter Tryf.func7, Tryf.ntmps7
  go_wp2
  all_goals (go_ret; exact ⟨_, rfl, rfl⟩)

theorem zz_len (F : Interp) (a : Option Addr) (n cap : Nat) (s what : ByteArray) (w : World) (hF : F.answers w.tape) (hn : n ≤ 1048576) (hs : s.size ≤ 1048576) (hne : s.size ≠ 2 * n) :
    Calls Tryf.prog 9 #[.slice a n cap, .string s, .string what] w (AnErr w) :=
  zzDec _ _ _ _ w _ rfl ((dec_len F a n cap s what w hF hn hs hne).mono fun e w' h => ⟨by obtain ⟨t, v, he, _⟩ := h; exact ⟨_, he⟩, h⟩)
theorem zz_none (a : Option Addr) (cap : Nat) (s what : ByteArray) (w : World) (hs : s.size = 0) :
    Calls Tryf.prog 9 #[.slice a 0 cap, .string s, .string what] w fun e w' => e = .returned .nilIface ∧ Below w.heap.size w w' :=
  zzDec _ _ _ _ w _ rfl ((dec_none a cap s what w hs).mono fun _ _ h => ⟨⟨_, h.1⟩, h⟩)
theorem zz_some (F : Interp) (B n cap : Nat) (f : Nat → Value) (s what : ByteArray) (ev : Value) (w : World) (hF : F.answers w.tape) (hn : n ≤ 1048576) (hn0 : 0 < n) (hs : s.size = 2 * n) (hrow : w.rowIs B 5 n f) (hE : w.cell? ⟨0, 0, none⟩ = some ev) (hB0 : 0 ≠ B) :
    Calls Tryf.prog 9 #[.slice (some ⟨B, 0, none⟩) n cap, .string s, .string what] w (DecLeft (bytesFn s.data.toList) B n f w) :=
  zzDec _ _ _ _ w _ rfl ((dec_some F B n cap f s what ev w hF hn hn0 hs hrow hE hB0).mono fun e w' h => ⟨by
    obtain ⟨k, _, h2 | h2, _⟩ := h
    · exact ⟨_, h2.2⟩
    · obtain ⟨_, t, v, he⟩ := h2
      exact ⟨_, he⟩, h⟩)

theorem bytesFn_at (s : ByteArray) (i : Nat) (h : i < s.size) : bytesFn s.data.toList i = (s[i].toNat : Int) := by
  unfold bytesFn
  have hl : i < s.data.toList.length := by simpa using h
  rw [List.getD_eq_getElem?_getD, List.getElem?_eq_getElem hl]
  rfl
theorem hv_bounds (c : Int) : -1 ≤ hv c ∧ hv c ≤ 15 := by
  unfold hv
  split
  · omega
  · split
    · omega
    · split <;> omega
end Go.Proofs.Qxb6604560aFmt
