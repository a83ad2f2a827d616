/-
  The law 'FnHeaderValuesLastPairWins', walked.
-/
import Derived.Test.Qxb6604425aWalkC
namespace Go.Proofs.Qxb6604425a
open Go.RowKit Go.Maps

def LawLeft (w : World) (e : Ending) (w' : World) : Prop := e = .returned (.bool true) ∧ Below w.heap.size w w'

set_option maxHeartbeats 2000000 in
theorem lawH (a a2 : Option Addr) (len cap len2 cap2 : Nat) (nm : ByteArray) (w : World) (hr : StrRow w a len) (hl : len ≤ 8796093022208) (hr2 : ListRow w a2 len2) (hl2 : len2 ≤ 8796093022208) (hnm : nm.size ≤ maxLen) :
    Calls Try.prog 5 #[.slice a len cap, .slice a2 len2 cap2, .string nm] w (LawLeft w) := by
  go_enter Try.func5, Try.ntmps5
  go_wp2_with fail
  refine (zzBytes a a2 len cap len2 cap2 nm w hr hl hr2 hl2 hnm).mono ?_
  rintro e w' ⟨t, rfl, hw⟩
  subst hw
  cases t with
  | false =>
    go_wp2
    go_ret
    exact ⟨rfl, Below.refl _ _⟩
  | true =>
    by_cases h1 : (65536 : Int) < len
    · go_wp2
      go_ret
      exact ⟨rfl, Below.refl _ _⟩
    · by_cases h2 : (65536 : Int) < len2
      · go_wp2
        go_ret
        exact ⟨rfl, Below.refl _ _⟩
      · by_cases h3 : (65536 : Int) < nm.size
        · go_wp2
          go_ret
          exact ⟨rfl, Below.refl _ _⟩
        · go_wp2_with fail
          refine (pairsBytes a a2 len cap len2 cap2 w' hr hl hr2 hl2).mono ?_
          rintro e w2 ⟨t2, rfl, hw⟩
          subst hw
          by_cases h4 : (1048576 : Int) < wrap64 (t2 + nm.size)
          · go_wp2
            go_ret
            exact ⟨rfl, Below.refl _ _⟩
          · go_wp2_with fail
            refine (cloneStr a len cap _ hr hl).mono ?_
            rintro e w3 ⟨a3, c3, rfl, hr3, hb3⟩
            have hr2' := hr2.below hb3
            go_wp2_with fail
            refine (cloneLists a2 len2 cap2 _ hr2' hl2).mono ?_
            rintro e w4 ⟨a4, c4, rfl, hr4, hb4⟩
            have hr3' := hr3.keeps (keeps_below hb4)
            have HB : Hid (Below w2.heap.size w2 w4) := hb3.trans (hb4.mono hb3.size)
            clear hr hr2 hr2' hr3 hb3 hb4 h1 h2 h3 h4
            obtain ⟨m, hm⟩ : ∃ m, Hid (min len len2 = m) := ⟨_, rfl⟩
            by_cases hm0 : m = 0
            · have hz : Hid (min len len2 = 0) := by
                show _ = _
                rw [hm.out, hm0]
              go_wp2_with fail
              refine (pairMap_none _ _ len c3 len2 c4 _ hz).mono ?_
              rintro e w5 ⟨rfl, hw⟩
              subst hw
              go_wp2_with fail
              refine (zzValues _ _ nm _ (look_none nm _ hnm)).mono ?_
              rintro e w6 ⟨rfl, hw⟩
              subst hw
              go_wp2_with fail
              refine (lastPair_none _ _ len c3 len2 c4 nm _ hz).mono ?_
              rintro e w7 ⟨rfl, hw⟩
              subst hw
              go_wp2_with fail
              refine (sameStr none 0 0 _ (fun h => by omega) (by omega)).mono ?_
              rintro e w8 ⟨rfl, hb8⟩
              go_wp2
              go_ret
              exact ⟨rfl, HB.out.trans (hb8.mono HB.out.size)⟩
            · have hmin := hm.out
              obtain ⟨b, off, rfl, S, hS⟩ := hr3'.names (m := m) (by omega) (by omega)
              obtain ⟨b2, off2, rfl, A, L, C, hV⟩ := hr4.lists (m := m) (by omega) (by omega)
              go_wp2_with fail
              refine (pairMap_some b off b2 off2 len c3 len2 c4 m S A L C _ hm (by omega) (by omega) (by omega) (by omega) hS (fun i hi => (hV i hi).1)).mono ?_
              rintro e w5 ⟨rfl, hown, hb5⟩
              have hl5 := look_some _ m S _ nm w5 hown hnm
              go_wp2_with fail
              refine (zzValues _ _ nm _ hl5).mono ?_
              rintro e w6 ⟨rfl, hw⟩
              subst hw
              go_wp2_with fail
              refine (lastPair_some b off b2 off2 len c3 len2 c4 m nm S A L C _ hm (by omega) (by omega) (by omega) (by omega) (fun i hi => ?_) (fun i hi => ?_)).mono ?_
              · have := (hS i hi).1
                rw [hb5.cell (p := ⟨b, off + i, none⟩) (lt_of_cell this)]; exact this
              · have := (hV i hi).1
                rw [hb5.cell (p := ⟨b2, off2 + i, none⟩) (lt_of_cell this)]; exact this
              rintro e w7 ⟨rfl, hw⟩
              subst hw
              obtain ⟨a5, l5, c5, hlast, hs5, hl5'⟩ := lastV_slice w7 S A L C nm m (fun i hi => ⟨(hV i hi).2.1.keeps (keeps_below hb5), (hV i hi).2.2⟩)
              rw [hlast]
              go_wp2_with fail
              refine (sameStr a5 l5 c5 _ hs5 hl5').mono ?_
              rintro e w8 ⟨rfl, hb8⟩
              go_wp2
              go_ret
              exact ⟨rfl, (HB.out.trans (hb5.mono HB.out.size)).trans (hb8.mono (Nat.le_trans HB.out.size hb5.size))⟩
end Go.Proofs.Qxb6604425a
