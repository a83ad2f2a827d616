/-
  The law 'FnDropRepeatsExact', walked.
-/
import Derived.Test.Qxb6603326aWalkG
namespace Go.Proofs.Qxb6603326a
open Go.RowKit Go.Maps

def LawLeft (w : World) (e : Ending) (w' : World) : Prop := e = .returned (.bool true) ∧ Below w.heap.size w w'

set_option maxHeartbeats 4000000 in
theorem lawD (a : Option Addr) (n cap : Nat) (S : Nat → ByteArray) (b : Option Addr) (m capb : Nat) (h : Nat → Int) (i : Int) (w : World) (hr : StrRow w a n S) (hx : IntRow w b m h) (hz : Hid (∀ i, (S i).size ≤ maxLen)) (hn : n ≤ 140737488355328) (hm : m ≤ 140737488355328) :
    Calls Try.prog 3 #[.slice a n cap, .slice b m capb, .int .i64 i] w (LawLeft w) := by
  go_enter Try.func3, Try.ntmps3
  go_wp2_with fail
  refine (zzB7 a n cap S b m capb i w hr hn hm hz.out).mono ?_
  rintro e w' ⟨t, rfl, hw', hsh⟩
  subst hw'
  cases t with
  | false =>
    clear hsh
    go_wp2
    go_ret
    exact ⟨rfl, Below.refl _ _⟩
  | true =>
    have HSH : Hid (∀ k, k < n → (S k).size ≤ 1048576) := hsh rfl
    clear hsh
    by_cases h1 : (4096 : Int) < n
    · go_wp2
      go_ret
      exact ⟨rfl, Below.refl _ _⟩
    · by_cases h2 : (4096 : Int) < m
      · go_wp2
        go_ret
        exact ⟨rfl, Below.refl _ _⟩
      · go_wp2
        go_loop [7, 8] (fun t i => ∃ (k : Nat) (x : Int), k ≤ n ∧ i = .int .i64 k ∧ t = .int .i64 x ∧ 0 ≤ x ∧ x ≤ 1048576) (fun _ i => n - (intOf i).toNat)
        case atStart => exact ⟨0, 8 * m, by omega, rfl, by go_num, by omega, by omega⟩
        case round =>
          obtain ⟨k, x, hk, rfl, rfl, hx0, hx1⟩ := hrel
          by_cases hlt : (k : Int) < n
          · obtain ⟨bb, off, rfl, hc⟩ := hr (by omega)
            have hs := hc k (by omega)
            have hsz := HSH.out k (by omega)
            clear hc hr hx
            go_wp2
            · go_ret
              exact ⟨rfl, Below.refl _ _⟩
            · go_round
              case rel => exact ⟨k + 1, x + (16 + (S k).size), by omega, by go_num, by go_num, by omega, by omega⟩
              case measure => simp [intOf]; omega
          · obtain ⟨wo, hwo⟩ : ∃ wo : World, wo = w' := ⟨_, rfl⟩
            subst hwo
            go_wp2_with fail
            refine (wellFormed n b m capb h i _ hx (by omega) (by omega)).mono ?_
            rintro e w' ⟨t, rfl, hw', hwf⟩
            subst hw'
            cases t with
            | false =>
              go_wp2
              go_ret
              exact ⟨rfl, Below.refl _ _⟩
            | true =>
              obtain ⟨hmn, hi0, hi1, hwf2⟩ := hwf rfl
              clear hwf
              obtain ⟨j, rfl⟩ : ∃ j : Nat, i = (j : Int) := ⟨i.toNat, by omega⟩
              subst hmn
              obtain ⟨l, hl⟩ := len_ex h j m hwf2 (by omega)
              have HL : Hid (Len (cs h j) m l) := hl
              have hm0 : 0 < m := by omega
              clear hwf2 hl
              go_wp2_with fail
              refine (clonei b m capb h _ hx (by omega)).mono ?_
              rintro e w1 ⟨a1, c1, rfl, hcl, hb1⟩
              obtain ⟨ha1, hX1⟩ := hcl hm0
              subst ha1
              have hr1 := hr.below hb1
              have hB1 := hX1.lt
              clear hcl hr hx
              go_wp2_with fail
              refine (clones a m cap S _ hr1 (by omega)).mono ?_
              rintro e w2 ⟨a2, c2, rfl, hcl, hb2⟩
              obtain ⟨ha2, hN2⟩ := hcl hm0
              subst ha2
              have hX2 := hX1.of_block (hb2.block _ hB1)
              have hA2 := hN2.lt
              clear hcl hr1 hX1
              go_wp2_with fail
              refine (model w1.heap.size w'.heap.size m c2 c1 j l S h _ hN2 hX2 HL (by omega)).mono ?_
              rintro e w3 ⟨B, cp, rfl, hB, hW3, hb3⟩
              have hsz1 := hb1.size
              have hsz2 := hb2.size
              have hX3 := hX2.of_block (hb3.block _ (by omega))
              have hN3 := hN2.of_block (hb3.block _ hA2)
              have HW3 : Hid (w3.rowIs B 3 m (fun x => .int .i64 (lk h (kap S (cs h j) l) (KL S (cs h j) l).length (cs h j l) x))) := hW3
              clear hX2 hN2 hW3
              go_wp2_with fail
              refine (zzDrop w1.heap.size w'.heap.size m c2 c1 j l S h _ hN3 hX3 (by omega) HL (by omega) hz).mono ?_
              rintro e w4 ⟨rfl, hG4, hg4⟩
              have hW4 := HW3.out.of_block (hg4.block _ HW3.out.lt (by simp; omega))
              have r1 : IntRow w4 (some ⟨w'.heap.size, 0, none⟩) m (lk h (kap S (cs h j) l) (KL S (cs h j) l).length (cs h j l)) := fun _ => ⟨_, 0, rfl, fun x hx => by rw [Nat.zero_add]; exact hG4.cell hx⟩
              have r2 : IntRow w4 (some ⟨B, 0, none⟩) m (lk h (kap S (cs h j) l) (KL S (cs h j) l).length (cs h j l)) := fun _ => ⟨_, 0, rfl, fun x hx => by rw [Nat.zero_add]; exact hW4.cell hx⟩
              have HB4 : Hid (Below w'.heap.size w' w4) := ((hb1.trans (hb2.mono hsz1)).trans (hb3.mono (by omega))).grown hg4 (by have := hb3.size; omega) (fun k hk => by cases hk; exact Nat.le_refl _)
              clear hG4 hg4 hW4 HW3 hX3 hN3 hb1 hb2 hb3
              go_wp2_with fail
              refine (sameB (some ⟨w'.heap.size, 0, none⟩) (some ⟨B, 0, none⟩) m c1 cp _ _ (by omega) r1 r2).mono ?_
              rintro e w5 ⟨rfl, hb5⟩
              go_wp2
              go_ret
              exact ⟨rfl, HB4.out.trans (hb5.mono HB4.out.size)⟩
end Go.Proofs.Qxb6603326a
