/-
  The map of the pairs, the look-up, the last pair, sameness.
-/
import Derived.Test.Qxb6604425aWalkB
import Derived.Maps.OwnSet
import Derived.Maps.Views
import Derived.BigQuiet
import Derived.Deep.QuietTactic
import Derived.RegionTactic
namespace Go.Proofs.Qxb6604425a
open Go.RowKit Go.Maps

theorem law : Keyed Try.prog 9 := string_keyed Try.underlying9
theorem zero29 (w : World) : (zeroValue 29).run Try.prog w = .ok (.slice none 0 0) w := by kernel_rfl
/-- An element reads as itself. -/
def heldR (v : Value) : Option (DataW Value × List MemPlace) := some (.held v, [])
def keyL (s : ByteArray) : Lit := .string s.data.toList
/-- The map behind i pairs. -/
def mapD (S : Nat → ByteArray) (V : Nat → Value) : Nat → DataW Value
  | 0 => .map []
  | i + 1 => (mapD S V i).put (keyL (S i)) (.held (V i))
/-- The last pair's value among the first i. -/
def lastV (S : Nat → ByteArray) (V : Nat → Value) (nm : ByteArray) : Nat → Value
  | 0 => .slice none 0 0
  | i + 1 => if S i = nm then V i else lastV S V nm i
theorem mapD_isMap (S : Nat → ByteArray) (V : Nat → Value) : ∀ i, IsMap (mapD S V i)
  | 0 => isMap_empty
  | i + 1 => (mapD_isMap S V i).put _ _
theorem keyL_inj {a b : ByteArray} (h : keyL a = keyL b) : a = b := by
  unfold keyL at h
  cases a; cases b
  simp at h
  rw [h]
theorem mapD_at (S : Nat → ByteArray) (V : Nat → Value) (nm : ByteArray) : ∀ i, (mapD S V i).atKey (keyL nm) (.held (.slice none 0 0)) = .held (lastV S V nm i)
  | 0 => rfl
  | i + 1 => by
    unfold mapD lastV
    by_cases h : S i = nm
    · rw [if_pos h, h]
      exact atKey_put_same (mapD_isMap S V i) (show WideAt.IsKeyLit (keyL nm) from trivial) _ _
    · rw [if_neg h, atKey_put_other (fun e => h (keyL_inj e.symm)), mapD_at S V nm i]

theorem makeMap35 (n : Int) (w : World) : (Instr.makeMap 35 (some (.int .i64 n))).run Try.prog w = .ok (.map (some w.heap.size)) (w.alloc (.map #[] 0)) := by
  simp [Instr.makeMap]
  rfl

set_option maxHeartbeats 400000 in
theorem pairCount (a a2 : Option Addr) (len cap len2 cap2 : Nat) (w : World) :
    Calls Try.prog 27 #[.slice a len cap, .slice a2 len2 cap2] w fun e w' => e = .returned (.int .i64 ((min len len2 : Nat) : Int)) ∧ w' = w := by
  go_enter Try.func27, Try.ntmps27
  by_cases h : (len2 : Int) < len
  · go_wp2
    go_ret
    rw [Nat.min_eq_right (by omega)]
    exact ⟨rfl, rfl⟩
  · go_wp2
    go_ret
    rw [Nat.min_eq_left (by omega)]
    exact ⟨rfl, rfl⟩

def MapLeft (S : Nat → ByteArray) (V : Nat → Value) (m : Nat) (w : World) (e : Ending) (w' : World) : Prop :=
  e = .returned (.map (some w.heap.size)) ∧ w'.ownsMap Try.prog 9 heldR w.heap.size m (mapD S V m) ∧ Below w.heap.size w w'

set_option maxHeartbeats 400000 in
theorem pairMap_none (a a2 : Option Addr) (len cap len2 cap2 : Nat) (w : World) (h : Hid (min len len2 = 0)) :
    Calls Try.prog 15 #[.slice a len cap, .slice a2 len2 cap2] w fun e w' => e = .returned (.map none) ∧ w' = w := by
  go_enter Try.func15, Try.ntmps15
  go_wp2_with fail
  refine (pairCount a a2 len cap len2 cap2 w).mono ?_
  rw [h.out]
  rintro e w' ⟨rfl, rfl⟩
  go_wp2
  go_ret
  exact ⟨rfl, rfl⟩

set_option maxHeartbeats 1000000 in
theorem pairMap_some (b off b2 off2 len cap len2 cap2 m : Nat) (S : Nat → ByteArray) (A : Nat → Option Addr) (L C : Nat → Nat) (w : World) (hm : Hid (min len len2 = m)) (hm0 : 0 < (m : Int)) (hml : m ≤ len) (hml2 : m ≤ len2) (hmm : m ≤ 8796093022208)
    (hS : ∀ i, i < m → w.cell? ⟨b, off + i, none⟩ = some (.string (S i)) ∧ (S i).size ≤ maxLen)
    (hV : ∀ i, i < m → w.cell? ⟨b2, off2 + i, none⟩ = some (.slice (A i) (L i) (C i))) :
    Calls Try.prog 15 #[.slice (some ⟨b, off, none⟩) len cap, .slice (some ⟨b2, off2, none⟩) len2 cap2] w (MapLeft S (fun i => .slice (A i) (L i) (C i)) m w) := by
  have hmk := makeMap35 (m : Int)
  have hne : ((m : Int) == 0) = false := by simp; omega
  go_enter Try.func15, Try.ntmps15
  go_wp2_with fail
  refine (pairCount _ _ len cap len2 cap2 w).mono ?_
  rw [hm.out]
  rintro e w' ⟨rfl, rfl⟩
  go_wp2
  clear hmk
  go_loopw [7] (fun i wr => ∃ k : Nat, k ≤ m ∧ i = .int .i64 k ∧ wr.ownsMap Try.prog 9 heldR w'.heap.size k (mapD S (fun i => .slice (A i) (L i) (C i)) k) ∧ Below w'.heap.size w' wr) (fun i _ => m - (intOf i).toNat)
  case atStart => exact ⟨0, by omega, rfl, World.ownsMap_made _ _ _ _, (Below.refl _ _).alloc (Nat.le_refl _) _⟩
  case round =>
    obtain ⟨k, hk, rfl, hown, hB⟩ := hrel
    by_cases hkm : (k : Int) < m
    · obtain ⟨hs, hsz⟩ := hS k (by omega)
      have hv := hV k (by omega)
      have hs1 : wr.cell? ⟨b, off + k, none⟩ = some (.string (S k)) := by rw [hB.cell (p := ⟨b, off + k, none⟩) (lt_of_cell hs)]; exact hs
      have hv1 : wr.cell? ⟨b2, off2 + k, none⟩ = some (.slice (A k) (L k) (C k)) := by rw [hB.cell (p := ⟨b2, off2 + k, none⟩) (lt_of_cell hv)]; exact hv
      obtain ⟨w1, hrun, hown1, hg1⟩ := hown.drew.update (R := heldR) law Try.underlying35 (by unfold maxLen; omega) (WideMaps.keyOf_string_mk Try.underlying9 hsz) (show heldR (.slice (A k) (L k) (C k)) = some (.held (.slice (A k) (L k) (C k)), []) from rfl)
      have hkl : (k : Int) < len := by omega
      have hkl2 : (k : Int) < len2 := by omega
      clear hS hV hs hv hsz hown
      go_wp2_with fail
      go_region
      go_wp2
      go_roundw
      case rel => exact ⟨k + 1, by omega, by go_num, hown1, hB.drew.grown hg1 hB.size (fun j hj => by cases hj; exact Nat.le_refl _)⟩
      case measure => simp [intOf]; omega
    · obtain rfl : k = m := by omega
      go_wp2
      go_ret
      exact ⟨rfl, hown, hB⟩

theorem look_some (B m : Nat) (S : Nat → ByteArray) (V : Nat → Value) (nm : ByteArray) (w : World) (hown : w.ownsMap Try.prog 9 heldR B m (mapD S V m)) (hnm : nm.size ≤ maxLen) :
    (Instr.lookup 49 (.map (some B)) (.string nm) false).run Try.prog w = .ok (lastV S V nm m) w := by
  obtain ⟨v, ps, hrun, hv⟩ := hown.lookup law Try.underlying49 (zero29 w) (show heldR (.slice none 0 0) = some (.held (.slice none 0 0), []) from rfl) (WideMaps.keyOf_string_mk Try.underlying9 hnm)
  rw [hrun]
  have h1 : (mapD S V m).atKey (.string nm.data.toList) (.held (.slice none 0 0)) = .held (lastV S V nm m) := mapD_at S V nm m
  rw [h1] at hv
  cases hv
  rfl
theorem look_none (nm : ByteArray) (w : World) (hnm : nm.size ≤ maxLen) : (Instr.lookup 49 (.map none) (.string nm) false).run Try.prog w = .ok (.slice none 0 0) w :=
  Maps.look_nil false law Try.underlying49 (zero29 w) (WideMaps.keyOf_string_mk Try.underlying9 hnm)

set_option maxHeartbeats 400000 in
theorem values_of (mv v : Value) (nm : ByteArray) (w : World) (hl : (Instr.lookup 49 mv (.string nm) false).run Try.prog w = .ok v w) :
    Calls Try.prog 28 #[mv, .string nm] w fun e w' => e = .returned v ∧ w' = w := by
  go_enter Try.func28, Try.ntmps28
  go_wp2
  go_ret
  exact ⟨rfl, rfl⟩
set_option maxHeartbeats 400000 in
theorem zzValues (mv v : Value) (nm : ByteArray) (w : World) (hl : (Instr.lookup 49 mv (.string nm) false).run Try.prog w = .ok v w) :
    Calls Try.prog 16 #[mv, .string nm] w fun e w' => e = .returned v ∧ w' = w := by
  go_enter Try.func16, Try.ntmps16
  go_wp2_with (go_at_call 28; refine (values_of _ v _ _ hl).mono ?_; rintro e w' ⟨rfl, rfl⟩)
  go_ret
  exact ⟨rfl, rfl⟩

theorem bytes_ne {a b : ByteArray} (h : a ≠ b) : (a.toList == b.toList) = false := by
  rw [ByteArray.toList_eq, ByteArray.toList_eq, beq_eq_false_iff_ne]
  intro e
  apply h
  cases a; cases b
  simp at e
  rw [e]

set_option maxHeartbeats 400000 in
theorem lastPair_none (a a2 : Option Addr) (len cap len2 cap2 : Nat) (nm : ByteArray) (w : World) (h : Hid (min len len2 = 0)) :
    Calls Try.prog 18 #[.slice a len cap, .slice a2 len2 cap2, .string nm] w fun e w' => e = .returned (.slice none 0 0) ∧ w' = w := by
  go_enter Try.func18, Try.ntmps18
  go_wp2_with fail
  refine (pairCount a a2 len cap len2 cap2 w).mono ?_
  rw [h.out]
  rintro e w' ⟨rfl, rfl⟩
  go_wp2
  go_loop [7] (fun i => i = .int .i64 (-1)) (fun _ => 0)
  case atStart => exact rfl
  case round =>
    subst hrel
    go_wp2
    go_ret
    exact ⟨rfl, rfl⟩

set_option maxHeartbeats 1000000 in
theorem lastPair_some (b off b2 off2 len cap len2 cap2 m : Nat) (nm : ByteArray) (S : Nat → ByteArray) (A : Nat → Option Addr) (L C : Nat → Nat) (w : World) (hm : Hid (min len len2 = m)) (hm0 : 0 < (m : Int)) (hml : m ≤ len) (hml2 : m ≤ len2) (hmm : m ≤ 8796093022208)
    (hS : ∀ i, i < m → w.cell? ⟨b, off + i, none⟩ = some (.string (S i)))
    (hV : ∀ i, i < m → w.cell? ⟨b2, off2 + i, none⟩ = some (.slice (A i) (L i) (C i))) :
    Calls Try.prog 18 #[.slice (some ⟨b, off, none⟩) len cap, .slice (some ⟨b2, off2, none⟩) len2 cap2, .string nm] w fun e w' => e = .returned (lastV S (fun i => .slice (A i) (L i) (C i)) nm m) ∧ w' = w := by
  obtain ⟨R, hR⟩ : ∃ R, Hid (R = lastV S (fun i => .slice (A i) (L i) (C i)) nm m) := ⟨_, rfl⟩
  rw [← hR.out]
  go_enter Try.func18, Try.ntmps18
  go_wp2_with fail
  refine (pairCount _ _ len cap len2 cap2 w).mono ?_
  rw [hm.out]
  rintro e w' ⟨rfl, rfl⟩
  go_wp2
  go_loop [7] (fun i => (∃ j : Nat, j < m ∧ i = .int .i64 j ∧ Hid (R = lastV S (fun i => .slice (A i) (L i) (C i)) nm (j + 1))) ∨ (i = .int .i64 (-1) ∧ Hid (R = .slice none 0 0))) (fun i => (intOf i + 1).toNat)
  case atStart =>
    refine Or.inl ⟨m - 1, by omega, by go_num, ?_⟩
    show R = _
    rw [show m - 1 + 1 = m by omega]; exact hR.out
  case round =>
    rcases hrel with ⟨j, hj, rfl, HR⟩ | ⟨rfl, HR⟩
    · have hs := hS j hj
      have hv := hV j hj
      have hjl : (j : Int) < len := by omega
      have hjl2 : (j : Int) < len2 := by omega
      have hj0 : 0 ≤ (j : Int) := by omega
      clear hS hV
      by_cases he : S j = nm
      · have hb : ((S j).toList == nm.toList) = true := by rw [he]; simp
        go_wp2
        go_ret
        refine ⟨?_, rfl⟩
        rw [HR.out]
        unfold lastV
        rw [if_pos he]
        rfl
      · have hb := bytes_ne he
        have HE : Hid (R = lastV S (fun i => .slice (A i) (L i) (C i)) nm j) := by
          show R = _
          rw [HR.out]
          show (if S j = nm then _ else _) = _
          rw [if_neg he]
        clear he HR
        go_wp2
        go_round
        case rel =>
          rcases Nat.eq_zero_or_pos j with h0 | h0
          · subst h0
            exact Or.inr ⟨by go_num, HE⟩
          · refine Or.inl ⟨j - 1, by omega, by go_num, ?_⟩
            show R = _
            rw [show j - 1 + 1 = j by omega]; exact HE.out
        case measure => simp [intOf]
    · go_wp2
      go_ret
      exact ⟨by rw [HR.out]; rfl, rfl⟩

set_option maxHeartbeats 1000000 in
theorem sameStr (a : Option Addr) (l c : Nat) (w : World) (hr : StrRow w a l) (hl : l ≤ 8796093022208) :
    Calls Try.prog 17 #[.slice a l c, .slice a l c] w fun e w' => e = .returned (.bool true) ∧ Below w.heap.size w w' := by
  have hnil := fun w => Lib.run_eql_slice_nil (P := Try.prog) w 29 9 a l c 0 0 Try.underlying29
  go_enter Try.func17, Try.ntmps17
  go_wp2
  clear hnil
  go_loopw [5] (fun i wr => ∃ k : Nat, k ≤ l ∧ i = .int .i64 k ∧ Below w.heap.size w wr) (fun i _ => l - (intOf i).toNat)
  case atStart => exact ⟨0, by omega, rfl, Below.refl _ _⟩
  case round =>
    obtain ⟨k, hk, rfl, hB⟩ := hrel
    by_cases hkl : (k : Int) < l
    · obtain ⟨b, off, rfl, hc⟩ := hr (by omega)
      obtain ⟨s, hs, _⟩ := hc k (by omega)
      have hs1 : wr.cell? ⟨b, off + k, none⟩ = some (.string s) := by rw [hB.cell (p := ⟨b, off + k, none⟩) (lt_of_cell hs)]; exact hs
      have hbb : (s.toList == s.toList) = true := by simp
      clear hr hc hs
      go_wp2_with fail
      go_quiet (fail)
      go_wp2
      go_roundw
      case rel => exact ⟨k + 1, by omega, by go_num, below_drewN hB _⟩
      case measure => simp [intOf]; omega
    · go_wp2
      go_ret
      exact ⟨rfl, hB⟩

theorem lastV_slice (w : World) (S : Nat → ByteArray) (A : Nat → Option Addr) (L C : Nat → Nat) (nm : ByteArray) : ∀ m, (∀ i, i < m → StrRow w (A i) (L i) ∧ L i ≤ 8796093022208) →
    ∃ a l c, lastV S (fun i => .slice (A i) (L i) (C i)) nm m = .slice a l c ∧ StrRow w a l ∧ l ≤ 8796093022208
  | 0, _ => ⟨none, 0, 0, rfl, fun h => by omega, by omega⟩
  | m + 1, h => by
    unfold lastV
    by_cases e : S m = nm
    · rw [if_pos e]
      exact ⟨A m, L m, C m, rfl, (h m (by omega)).1, (h m (by omega)).2⟩
    · rw [if_neg e]
      exact lastV_slice w S A L C nm m (fun i hi => h i (by omega))

/-- What a clone of strings leaves, for the map. -/
theorem StrRow.names {w : World} {a : Option Addr} {len m : Nat} (h : StrRow w a len) (hm : m ≤ len) (h0 : 0 < m) : ∃ b off, a = some ⟨b, off, none⟩ ∧ ∃ S : Nat → ByteArray, ∀ i, i < m → w.cell? ⟨b, off + i, none⟩ = some (.string (S i)) ∧ (S i).size ≤ maxLen := by
  obtain ⟨b, off, ha, hc⟩ := h (by omega)
  exact ⟨b, off, ha, Deep.choose_lt (fun i hi => hc i (by omega))⟩
theorem ListRow.lists {w : World} {a : Option Addr} {len m : Nat} (h : ListRow w a len) (hm : m ≤ len) (h0 : 0 < m) : ∃ b off, a = some ⟨b, off, none⟩ ∧ ∃ (A : Nat → Option Addr) (L C : Nat → Nat), ∀ i, i < m → w.cell? ⟨b, off + i, none⟩ = some (.slice (A i) (L i) (C i)) ∧ StrRow w (A i) (L i) ∧ L i ≤ 8796093022208 := by
  obtain ⟨b, off, ha, hc⟩ := h (by omega)
  have h1 : ∀ i, i < m → ∃ x : Option Addr × Nat × Nat, w.cell? ⟨b, off + i, none⟩ = some (.slice x.1 x.2.1 x.2.2) ∧ StrRow w x.1 x.2.1 ∧ x.2.1 ≤ 8796093022208 := fun i hi => by
    obtain ⟨a', l, c, h1, h2, h3⟩ := hc i (by omega)
    exact ⟨(a', l, c), h1, h2, h3⟩
  obtain ⟨F, hF⟩ := Deep.choose_lt h1
  exact ⟨b, off, ha, fun i => (F i).1, fun i => (F i).2.1, fun i => (F i).2.2, hF⟩
end Go.Proofs.Qxb6604425a
