/-
  dropRepeats, walked.
-/
import Derived.Test.Qxb6603326aWalkE
namespace Go.Proofs.Qxb6603326a
open Go.RowKit Go.Maps

def DropLeft (h : Nat → Int) (k : Nat → Nat) (R : Nat) (z : Int) (Bn n : Nat) (w : World) (e : Ending) (w' : World) : Prop :=
  (∃ v, e = .returned v) ∧ w'.rowIs Bn 3 n (fun x => .int .i64 (lk h k R z x)) ∧ w.grownBy w' (some Bn)

/-- How far the walk still has to go: what the link of prev says. -/
def togo (n Bn : Nat) (prev : Value) (w : World) : Nat :=
  match w.cell? ⟨Bn, (intOf prev).toNat, none⟩ with
  | some v => if intOf v < 0 then 0 else n + 1 - (intOf v).toNat
  | none => 0
theorem togo_at {n Bn a : Nat} {z : Int} {w : World} (h : w.cell? ⟨Bn, a, none⟩ = some (.int .i64 z)) : togo n Bn (.int .i64 (a : Int)) w = if z < 0 then 0 else n + 1 - z.toNat := by
  unfold togo
  simp only [intOf, Int.toNat_natCast, h]
  rfl

set_option maxRecDepth 100000 in
set_option maxHeartbeats 4000000 in
theorem drop (P A Bn n capA capB i l : Nat) (S : Nat → ByteArray) (h : Nat → Int) (w : World) (hP0 : w.cell? ⟨P, 0, none⟩ = some (.slice (some ⟨A, 0, none⟩) n capA)) (hP2 : w.cell? ⟨P, 2, none⟩ = some (.slice (some ⟨Bn, 0, none⟩) n capB))
    (hN : w.rowIs A 9 n (fun x => .string (S x))) (hX : w.rowIs Bn 3 n (fun x => .int .i64 (h x))) (hPB : P ≠ Bn) (hAB : A ≠ Bn) (hl : Hid (Len (cs h i) n l)) (hn : n ≤ 4096) (hz : Hid (∀ x, (S x).size ≤ maxLen)) :
    Calls Try.prog 18 #[.pointer (some ⟨P, 0, none⟩), .int .i64 (i : Int)] w (DropLeft h (kap S (cs h i) l) (KL S (cs h i) l).length (cs h i l) Bn n w) := by
  have hin : i < n := by have := hl.out.at_ 0 hl.out.pos; have e : cs h i 0 = (i : Int) := rfl; omega
  have hmk := makeMap45 w
  have hlpos : 0 < l := hl.out.pos
  have hln := hl.out.le
  have hneg : cs h i l < 0 := hl.out.stop
  have hPl := lt_of_cell hP0
  have hAl := hN.lt
  have hXl := hX.lt
  have g0 : w.grownBy (w.alloc (.map #[] 0)) (some Bn) := World.grownBy_alloc w _ _
  have hP0a : (w.alloc (.map #[] 0)).cell? ⟨P, 0, none⟩ = some (.slice (some ⟨A, 0, none⟩) n capA) := g0.cell hP0 (by simpa using hPB)
  have hNa : (w.alloc (.map #[] 0)).cell? ⟨A, i, none⟩ = some (.string (S i)) := g0.cell (hN.cell hin) (by simpa using hAB)
  obtain ⟨w1, hup, hseen, hg1⟩ := (seen_none w S (cs h i)).add (q := i) (by omega) (by show ((i : Int)).toNat = i; simp) (hz.out i)
  have G1 : w.grownBy w1 (some Bn) := grown_new g0 hg1 (Nat.le_refl _)
  have hX1 : w1.rowIs Bn 3 n (fun x => .int .i64 (h x)) := hX.of_block ((hg1.block Bn (by simp; omega) (by simp; omega)).trans (Go.Deep.blk_alloc_lt _ _ _ hXl))
  have hk0 : kap S (cs h i) l 0 = i := by
    have := kap_at (S := S) (c := cs h i) l 1 0 (by omega) (by rw [KL_one]; simp)
    rw [this, KL_one]
    show ((i : Int)).toNat = i
    simp
  have hX2 : Hid (w1.rowIs Bn 3 n (fun x => .int .i64 (lk h (kap S (cs h i) l) 1 (cs h i 1) x))) := hX1.congr (fun x hx => by
    show _ = Value.int .i64 (if x = kap S (cs h i) l 0 then h ((i : Int)).toNat else h x)
    rw [hk0]
    by_cases e1 : x = i
    · rw [if_pos e1, e1]; simp
    · rw [if_neg e1])
  have HS1 : Hid (Seen w1 w.heap.size S (cs h i) 1) := hseen
  have HG1 : Hid (w.grownBy w1 (some Bn)) := G1
  have hin' : (i : Int) < n := by omega
  clear hseen hg1 G1 hX1 g0
  go_enter Try.func18, Try.ntmps18
  go_wp2
  clear hmk hup hP0a hNa
  go_loopw [5, 6] (fun pv _ wr => ∃ p r : Nat, 0 < p ∧ p ≤ l ∧ (KL S (cs h i) p).length = r + 1 ∧ pv = .int .i64 (kap S (cs h i) l r : Int) ∧ wr.rowIs Bn 3 n (fun x => .int .i64 (lk h (kap S (cs h i) l) (r + 1) (cs h i p) x)) ∧ Seen wr w.heap.size S (cs h i) p ∧ w.grownBy wr (some Bn)) (fun pv _ wr => togo n Bn pv wr)
  case atStart => exact ⟨1, 0, by omega, by omega, by rw [KL_one]; rfl, by rw [hk0], hX2.out, HS1.out, HG1.out⟩
  case round =>
    obtain ⟨p, r, hp0, hp, hKr, rfl, hrow, hseen, hg⟩ := hrel
    obtain ⟨b1, hb1, hkb⟩ := kap_mem (S := S) (c := cs h i) l p r hp (by omega)
    have hkn : kap S (cs h i) l r < n := by have := hl.out.at_ b1 (by omega); omega
    obtain ⟨a, ha⟩ : ∃ a : Nat, kap S (cs h i) l r = a := ⟨_, rfl⟩
    have hca : wr.cell? ⟨Bn, a, none⟩ = some (.int .i64 (cs h i p)) := by rw [← ha, hrow.cell hkn, lk_last]
    have hP0w : wr.cell? ⟨P, 0, none⟩ = some (.slice (some ⟨A, 0, none⟩) n capA) := hg.cell hP0 (by simpa using hPB)
    have hP2w : wr.cell? ⟨P, 2, none⟩ = some (.slice (some ⟨Bn, 0, none⟩) n capB) := hg.cell hP2 (by simpa using hPB)
    have han : (a : Int) < n := by omega
    have hMB : w.heap.size ≠ Bn := by omega
    have HT := togo_at (n := n) hca
    have HA : Hid (kap S (cs h i) l r = a) := ha
    by_cases hpl : p < l
    · obtain ⟨v1, v2⟩ := hl.out.at_ p hpl
      obtain ⟨q, hq⟩ : ∃ q : Nat, cs h i p = (q : Int) := ⟨(cs h i p).toNat, by omega⟩
      have hqn : q < n := by omega
      have hqn' : (q : Int) < n := by omega
      have hqt : (cs h i p).toNat = q := by omega
      have hnq : wr.cell? ⟨A, q, none⟩ = some (.string (S q)) := hg.cell (hN.cell hqn) (by simpa using hAB)
      have hcq : wr.cell? ⟨Bn, q, none⟩ = some (.int .i64 (cs h i (p + 1))) := by
        rw [hrow.cell hqn, ← hqt, lk_here hl.out p hpl (r + 1) (by omega)]
      rw [hq] at hca HT
      have hdec : (if cs h i (p + 1) < 0 then 0 else n + 1 - (cs h i (p + 1)).toNat) < n + 1 - q := by
        rcases Nat.lt_or_ge (p + 1) l with h6 | h6
        · have k1 := hl.out.mono p (p + 1) (by omega) h6
          have k2 := hl.out.at_ (p + 1) h6
          rw [if_neg (by omega)]
          omega
        · obtain rfl : l = p + 1 := by omega
          rw [if_pos hneg]
          omega
      rw [if_neg (by omega), Int.toNat_natCast] at HT
      have HQ : Hid (cs h i p = (q : Int)) := hq
      by_cases hnew : New S (cs h i) p
      · have hlook := hseen.look_new hqt (hz.out q) hnew
        obtain ⟨w2, hup, hseen2, hg2⟩ := hseen.add (by omega) hqt (hz.out q)
        have hrow2 : w2.rowIs Bn 3 n (fun x => .int .i64 (lk h (kap S (cs h i) l) (r + 1) (cs h i p) x)) := hrow.of_block (hg2.block Bn hrow.lt (by simp; omega))
        have HR : Hid (w2.rowIs Bn 3 n (fun x => .int .i64 (lk h (kap S (cs h i) l) (r + 2) (cs h i (p + 1)) x))) := hrow2.congr (fun x hx => by rw [lk_new hl.out p hpl r hKr hnew])
        have HG : Hid (w.grownBy w2 (some Bn)) := grown_new hg hg2 (Nat.le_refl _)
        have HS : Hid (Seen w2 w.heap.size S (cs h i) (p + 1)) := hseen2
        have hkq : Hid (kap S (cs h i) l (r + 1) = q) := by show kap S (cs h i) l (r + 1) = q; rw [← hKr, kap_new l p hpl hnew, hqt]
        have hKn : Hid ((KL S (cs h i) (p + 1)).length = r + 2) := by show (KL S (cs h i) (p + 1)).length = r + 2; rw [KL_new hnew]; simp [hKr]
        have hcn : w2.cell? ⟨Bn, q, none⟩ = some (.int .i64 (cs h i (p + 1))) := by rw [World.cell?_of_block (hg2.block Bn hrow.lt (by simp; omega))]; exact hcq
        have HT2 := togo_at (n := n) hcn
        have HM : Hid (togo n Bn (.int .i64 (q : Int)) w2 < togo n Bn (.int .i64 (a : Int)) wr) := by show _ < _; rw [HT, HT2]; exact hdec
        clear hrow hrow2 hseen hseen2 hg hg2 HT HT2 hdec hcn hnew hqt v1 v2 hkb hX2 HS1 HG1
        go_wp2
        go_roundw
        case rel => exact ⟨p + 1, r + 1, by omega, by omega, hKn.out, by rw [hkq.out], HR.out, HS.out, HG.out⟩
        case measure => first | exact HM.out | (rw [HA.out]; exact HM.out)
      · have hlook := hseen.look_old hqt (hz.out q) hnew
        have hf := hrow.frozen a
        have hrs := hrow.set a (.int .i64 (cs h i (p + 1)))
        have HR : Hid ((wr.setCell ⟨Bn, a, none⟩ (.int .i64 (cs h i (p + 1)))).rowIs Bn 3 n (fun x => .int .i64 (lk h (kap S (cs h i) l) (r + 1) (cs h i (p + 1)) x))) := hrs.congr (fun x hx => by
          rw [← lk_set h (kap S (cs h i) l) r (cs h i p) (cs h i (p + 1)) x, ha]
          by_cases e1 : x = a
          · rw [if_pos e1, if_pos e1]
          · rw [if_neg e1, if_neg e1])
        have HG : Hid (w.grownBy (wr.setCell ⟨Bn, a, none⟩ (.int .i64 (cs h i (p + 1)))) (some Bn)) := grown_set hg a _
        have HS : Hid (Seen (wr.setCell ⟨Bn, a, none⟩ (.int .i64 (cs h i (p + 1)))) w.heap.size S (cs h i) (p + 1)) := (hseen.kept (grown_set (World.grownBy.refl wr (some Bn)) a (.int .i64 (cs h i (p + 1)))) (by simpa using hMB)).same hnew
        have hKn : Hid ((KL S (cs h i) (p + 1)).length = r + 1) := by show (KL S (cs h i) (p + 1)).length = r + 1; rw [KL_old hnew]; exact hKr
        have hcn : (wr.setCell ⟨Bn, a, none⟩ (.int .i64 (cs h i (p + 1)))).cell? ⟨Bn, a, none⟩ = some (.int .i64 (cs h i (p + 1))) := by rw [hrs.cell (i := a) (by omega), if_pos rfl]
        have HT2 := togo_at (n := n) hcn
        have HM : Hid (togo n Bn (.int .i64 (a : Int)) (wr.setCell ⟨Bn, a, none⟩ (.int .i64 (cs h i (p + 1)))) < togo n Bn (.int .i64 (a : Int)) wr) := by show _ < _; rw [HT, HT2]; exact hdec
        clear hrow hrs hseen hg HT HT2 hdec hcn hnew hqt v1 v2 hkb hX2 HS1 HG1
        go_wp2_with fail
        go_region
        go_wp2
        go_roundw
        case rel => exact ⟨p + 1, r, by omega, by omega, hKn.out, by rw [HA.out], HR.out.drew, HS.out, grown_drew HG.out⟩
        case measure => first | exact HM.out | (rw [HA.out]; exact HM.out)
    · obtain rfl : p = l := by omega
      have HR : Hid (wr.rowIs Bn 3 n (fun x => .int .i64 (lk h (kap S (cs h i) p) (r + 1) (cs h i p) x))) := hrow
      have HG : Hid (w.grownBy wr (some Bn)) := hg
      have HK : Hid ((KL S (cs h i) p).length = r + 1) := hKr
      clear hrow hg hseen HT hkb hX2 HS1 HG1 hKr
      go_wp2
      go_end0
      exact ⟨⟨_, rfl⟩, by rw [HK.out]; exact HR.out, HG.out⟩
end Go.Proofs.Qxb6603326a
