/-
  dropRepeats.
-/
import Derived.Test.Qxb6603326aWalkD
import Derived.Maps.OwnSet
import Derived.Maps.Views
namespace Go.Proofs.Qxb6603326a
open Go.RowKit Go.Maps

theorem law : Keyed Try.prog 9 := string_keyed Try.underlying9
theorem zero4 (w : World) : (zeroValue 4).run Try.prog w = .ok (.bool false) w := by kernel_rfl
/-- An element reads as itself. -/
def heldR (v : Value) : Option (DataW Value × List MemPlace) := some (.held v, [])
def keyL (s : ByteArray) : Lit := .string s.data.toList
theorem keyL_inj {a b : ByteArray} (h : keyL a = keyL b) : a = b := by
  unfold keyL at h
  cases a; cases b
  simp at h
  rw [h]

/-- The map holds the names of the first p places. -/
def Seen (w : World) (M : Nat) (S : Nat → ByteArray) (c : Nat → Int) (p : Nat) : Prop :=
  ∃ m D, m ≤ p ∧ w.ownsMap Try.prog 9 heldR M m D ∧ IsMap D ∧ (∀ nm, (∃ b, b < p ∧ S (c b).toNat = nm) → D.atKey (keyL nm) (.held (.bool false)) = .held (.bool true)) ∧ (∀ nm, (¬ ∃ b, b < p ∧ S (c b).toNat = nm) → D.atKey (keyL nm) (.held (.bool false)) = .held (.bool false))
theorem Seen.kept {w w' : World} {M : Nat} {S : Nat → ByteArray} {c : Nat → Int} {p : Nat} {row : Option Nat} (h : Seen w M S c p) (hg : w.grownBy w' row) (hne : some M ≠ row) : Seen w' M S c p := by
  obtain ⟨m, D, h1, h2, h3⟩ := h
  exact ⟨m, D, h1, h2.kept hg hne, h3⟩
theorem Seen.lt {w : World} {M : Nat} {S : Nat → ByteArray} {c : Nat → Int} {p : Nat} (h : Seen w M S c p) : M < w.heap.size := by
  obtain ⟨m, D, h1, h2, h3⟩ := h
  exact h2.lt
theorem seen_none (w : World) (S : Nat → ByteArray) (c : Nat → Int) : Seen (w.alloc (.map #[] 0)) w.heap.size S c 0 :=
  ⟨0, .map [], Nat.le_refl _, World.ownsMap_made w _ _ _, isMap_empty, fun nm ⟨b, hb, _⟩ => by omega, fun nm _ => rfl⟩
theorem Seen.add {w : World} {M : Nat} {S : Nat → ByteArray} {c : Nat → Int} {p q : Nat} (h : Seen w M S c p) (hp : p ≤ 1048576) (hq : (c p).toNat = q) (hz : (S q).size ≤ maxLen) :
    ∃ w1, (Instr.mapUpdate 45 (.map (some M)) (.string (S q)) (.bool true)).run Try.prog w = .ok () w1 ∧ Seen w1 M S c (p + 1) ∧ w.grownBy w1 (some M) := by
  obtain ⟨m, D, h1, h2, h3, h4, h5⟩ := h
  obtain ⟨w1, hrun, hown, hg⟩ := h2.update (R := heldR) law Try.underlying45 (by unfold maxLen; omega) (WideMaps.keyOf_string_mk Try.underlying9 hz) (show heldR (.bool true) = some (.held (.bool true), []) from rfl)
  have hown' : w1.ownsMap Try.prog 9 heldR M (m + 1) (D.put (keyL (S q)) (.held (.bool true))) := hown
  refine ⟨w1, hrun, ⟨m + 1, _, by omega, hown', h3.put _ _, fun nm hnm => ?_, fun nm hnm => ?_⟩, hg⟩
  · by_cases e : S q = nm
    · subst e
      exact atKey_put_same h3 (show WideAt.IsKeyLit (keyL (S q)) from trivial) _ _
    · rw [atKey_put_other (fun e2 => e (keyL_inj (a := S q) (b := nm) e2.symm))]
      refine h4 nm ?_
      obtain ⟨b, hb, hbn⟩ := hnm
      refine ⟨b, ?_, hbn⟩
      rcases Nat.lt_or_ge b p with h6 | h6
      · exact h6
      · obtain rfl : b = p := by omega
        rw [hq] at hbn
        exact absurd hbn e
  · have e : S q ≠ nm := fun e => hnm ⟨p, by omega, by rw [hq]; exact e⟩
    rw [atKey_put_other (fun e2 => e (keyL_inj (a := S q) (b := nm) e2.symm))]
    exact h5 nm (fun ⟨b, hb, hbn⟩ => hnm ⟨b, by omega, hbn⟩)
theorem Seen.same {w : World} {M : Nat} {S : Nat → ByteArray} {c : Nat → Int} {p : Nat} (h : Seen w M S c p) (hold : ¬ New S c p) : Seen w M S c (p + 1) := by
  obtain ⟨m, D, h1, h2, h3, h4, h5⟩ := h
  have hex : ∃ b, b < p ∧ S (c b).toNat = S (c p).toNat := by
    by_cases hh : ∃ b, b < p ∧ S (c b).toNat = S (c p).toNat
    · exact hh
    · exact absurd (fun b hb e => hh ⟨b, hb, e⟩) hold
  refine ⟨m, D, by omega, h2, h3, fun nm hnm => h4 nm ?_, fun nm hnm => h5 nm (fun ⟨b, hb, e⟩ => hnm ⟨b, by omega, e⟩)⟩
  obtain ⟨b, hb, e⟩ := hnm
  rcases Nat.lt_or_ge b p with h6 | h6
  · exact ⟨b, h6, e⟩
  · obtain rfl : b = p := by omega
    obtain ⟨b1, hb1, e1⟩ := hex
    exact ⟨b1, hb1, e1.trans e⟩
theorem Seen.look_new {w : World} {M : Nat} {S : Nat → ByteArray} {c : Nat → Int} {p q : Nat} (h : Seen w M S c p) (hq : (c p).toNat = q) (hz : (S q).size ≤ maxLen) (hn : New S c p) :
    (Instr.lookup 45 (.map (some M)) (.string (S q)) false).run Try.prog w = .ok (.bool false) w := by
  obtain ⟨m, D, h1, h2, h3, h4, h5⟩ := h
  obtain ⟨v, ps, hrun, hv⟩ := h2.lookup law Try.underlying45 (zero4 w) (show heldR (.bool false) = some (.held (.bool false), []) from rfl) (WideMaps.keyOf_string_mk Try.underlying9 hz)
  rw [hrun]
  have e1 : D.atKey (.string (S q).data.toList) (.held (.bool false)) = .held (.bool false) := h5 (S q) (fun ⟨b, hb, e⟩ => hn b hb (by rw [hq]; exact e))
  rw [e1] at hv
  cases hv
  rfl
theorem Seen.look_old {w : World} {M : Nat} {S : Nat → ByteArray} {c : Nat → Int} {p q : Nat} (h : Seen w M S c p) (hq : (c p).toNat = q) (hz : (S q).size ≤ maxLen) (hn : ¬ New S c p) :
    (Instr.lookup 45 (.map (some M)) (.string (S q)) false).run Try.prog w = .ok (.bool true) w := by
  have hex : ∃ b, b < p ∧ S (c b).toNat = S q := by
    by_cases hh : ∃ b, b < p ∧ S (c b).toNat = S q
    · exact hh
    · exact absurd (fun b hb e => hh ⟨b, hb, by rw [hq] at e; exact e⟩) hn
  obtain ⟨m, D, h1, h2, h3, h4, h5⟩ := h
  obtain ⟨v, ps, hrun, hv⟩ := h2.lookup law Try.underlying45 (zero4 w) (show heldR (.bool false) = some (.held (.bool false), []) from rfl) (WideMaps.keyOf_string_mk Try.underlying9 hz)
  rw [hrun]
  have e1 : D.atKey (.string (S q).data.toList) (.held (.bool false)) = .held (.bool true) := h4 (S q) hex
  rw [e1] at hv
  cases hv
  rfl

theorem makeMap45 (w : World) : (Instr.makeMap 45 none).run Try.prog w = .ok (.map (some w.heap.size)) (w.alloc (.map #[] 0)) := by
  simp [Instr.makeMap]
theorem grown_new {w w1 w2 : World} {row : Option Nat} {M : Nat} (h : w.grownBy w1 row) (h2 : w1.grownBy w2 (some M)) (hM : w.heap.size ≤ M) : w.grownBy w2 row :=
  ⟨h2.os.trans h.os, h2.tape.trans h.tape, h2.output.trans h.output, Nat.le_trans h.size h2.size, fun k hk hne => (h2.block k (Nat.lt_of_lt_of_le hk h.size) (by simp; omega)).trans (h.block k hk hne)⟩
theorem grown_set {w w1 : World} {B : Nat} (h : w.grownBy w1 (some B)) (x : Nat) (v : Value) : w.grownBy (w1.setCell ⟨B, x, none⟩ v) (some B) :=
  h.trans ⟨rfl, rfl, rfl, by simp, fun k _ hk => Go.Deep.blk_setCell_other _ _ _ _ (by simpa using hk)⟩
theorem grown_drew {w w1 : World} {row : Option Nat} (h : w.grownBy w1 row) : w.grownBy w1.drew row := ⟨h.os, h.tape, h.output, h.size, h.block⟩
end Go.Proofs.Qxb6603326a
