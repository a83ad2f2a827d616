/-
  dropRepeatsModel.
-/
import Derived.Test.Qxb6603326aWalkC
namespace Go.Proofs.Qxb6603326a
open Go.RowKit

theorem bytes_ne {a b : ByteArray} (h : a ≠ b) : (a.toList == b.toList) = false := by
  rw [ByteArray.toList_eq, ByteArray.toList_eq, beq_eq_false_iff_ne]
  intro e
  apply h
  cases a; cases b
  simp at e
  rw [e]

def lenOf : Value → Nat
  | .slice _ l _ => l
  | _ => 0

def ModelLeft (h : Nat → Int) (k : Nat → Nat) (R : Nat) (z : Int) (n : Nat) (w : World) (e : Ending) (w' : World) : Prop :=
  ∃ B cp, e = .returned (.slice (some ⟨B, 0, none⟩) n cp) ∧ w.heap.size ≤ B ∧ w'.rowIs B 3 n (fun x => .int .i64 (lk h k R z x)) ∧ Below w.heap.size w w'

set_option maxRecDepth 100000 in
set_option maxHeartbeats 4000000 in
theorem model (A Bn n capA capB i l : Nat) (S : Nat → ByteArray) (h : Nat → Int) (w : World) (hN : w.rowIs A 9 n (fun x => .string (S x))) (hX : w.rowIs Bn 3 n (fun x => .int .i64 (h x))) (hl : Hid (Len (cs h i) n l)) (hn : n ≤ 4096) :
    Calls Try.prog 11 #[.slice (some ⟨A, 0, none⟩) n capA, .slice (some ⟨Bn, 0, none⟩) n capB, .int .i64 (i : Int)] w (ModelLeft h (kap S (cs h i) l) (KL S (cs h i) l).length (cs h i l) n w) := by
  have hmk := make23_0 n (by omega)
  have hln : l ≤ n := hl.out.le
  have hneg : cs h i l < 0 := hl.out.stop
  have hAl := hN.lt
  have hXl := hX.lt
  go_enter Try.func11, Try.ntmps11
  go_wp2
  clear hmk
  go_loopw [8, 9, 10] (fun ch en k wr => ∃ p : Nat, p ≤ l ∧ ch = .slice (some ⟨w.heap.size, 0, none⟩) p n ∧ (∃ z, en = .int .i64 z ∧ (0 < p → z = cs h i p)) ∧ k = .int .i64 (cs h i p) ∧ wr.rowIs w.heap.size 3 n (fun x => if x < p then .int .i64 (cs h i x) else .int .i64 0) ∧ Below w.heap.size w wr) (fun ch _ _ _ => l - lenOf ch)
  case atStart => exact ⟨0, by omega, rfl, ⟨-1, rfl, fun h => by omega⟩, rfl, (World.rowIs_made w (.int .i64 0) n 3).congr (fun i _ => by simp), (Below.refl _ _).alloc (Nat.le_refl _) _⟩
  case round =>
    obtain ⟨p, hp, rfl, ⟨z, rfl, hz⟩, rfl, hrow, hB⟩ := hrel
    by_cases hpl : p < l
    · obtain ⟨h1, h2⟩ := hl.out.at_ p hpl
      obtain ⟨q, hq⟩ : ∃ q : Nat, cs h i p = (q : Int) := ⟨(cs h i p).toNat, by omega⟩
      have hqn : q < n := by omega
      have hcq : w.cell? ⟨Bn, q, none⟩ = some (.int .i64 (h q)) := hX.cell hqn
      have hnx : Hid (h q = cs h i (p + 1)) := by show h q = h (cs h i p).toNat; rw [hq]; rfl
      have hrowA := hrow.alloc (.cells #[.int .i64 (q : Int)] 3)
      have hc0 := hrowA.cell (i := p) (by omega)
      simp only [Nat.lt_irrefl, if_false] at hc0
      have hf0 := hrowA.frozen p
      have HB1 : Hid (Below w.heap.size w ((wr.alloc (.cells #[.int .i64 (q : Int)] 3)).setCell ⟨w.heap.size, p, none⟩ (.int .i64 (q : Int)))) := (hB.alloc hB.size _).setCell (Nat.le_refl _) _
      have hcq1 : ((wr.alloc (.cells #[.int .i64 (q : Int)] 3)).setCell ⟨w.heap.size, p, none⟩ (.int .i64 (q : Int))).cell? ⟨Bn, q, none⟩ = some (.int .i64 (h q)) := by rw [HB1.out.cell (p := ⟨Bn, q, none⟩) hXl]; exact hcq
      have HR1 : Hid (((wr.alloc (.cells #[.int .i64 (q : Int)] 3)).setCell ⟨w.heap.size, p, none⟩ (.int .i64 (q : Int))).rowIs w.heap.size 3 n (fun x => if x < p + 1 then .int .i64 (cs h i x) else .int .i64 0)) := (hrowA.set p _).congr (fun x hx => by
        by_cases e1 : x = p
        · rw [if_pos e1, if_pos (by omega), e1, hq]
        · by_cases e2 : x < p
          · rw [if_neg e1, if_pos e2, if_pos (by omega)]
          · rw [if_neg e1, if_neg e2, if_neg (by omega)])
      clear hrow hB hrowA hcq hz h1 h2
      go_wp2
      go_roundw
      case rel => exact ⟨p + 1, hpl, rfl, ⟨_, rfl, fun _ => hnx.out⟩, by rw [hnx.out], HR1.out, HB1.out⟩
      case measure => simp [lenOf]; omega
    · obtain rfl : p = l := by omega
      have hzc : z = cs h i p := hz hl.out.pos
      subst hzc
      have hCh : wr.rowIs w.heap.size 3 n (fun x => if x < p then .int .i64 (cs h i x) else .int .i64 0) := hrow
      have hChl := hCh.lt
      have hN1 : wr.rowIs A 9 n (fun x => .string (S x)) := hN.of_block (hB.block _ hAl)
      have hX1 : wr.rowIs Bn 3 n (fun x => .int .i64 (h x)) := hX.of_block (hB.block _ hXl)
      have HB1 : Hid (Below w.heap.size w wr) := hB
      have hsz1 := hB.size
      clear hrow hB hN hX hz
      obtain ⟨w1, hw1⟩ : ∃ w1 : World, w1 = wr := ⟨_, rfl⟩
      subst hw1
      have hmk := make23_0 p (by omega)
      have hlpos : 0 < p := hl.out.pos
      go_wp2
      clear hmk
      go_loopw [11, 12, 13, 14] (fun ke a _ _ wr => ∃ a0 : Nat, a0 ≤ p ∧ a = .int .i64 a0 ∧ ke = .slice (some ⟨w1.heap.size, 0, none⟩) (KL S (cs h i) a0).length p ∧ wr.rowIs w1.heap.size 3 p (fun x => if x < (KL S (cs h i) a0).length then .int .i64 (kap S (cs h i) p x) else .int .i64 0) ∧ Below w1.heap.size w1 wr) (fun _ a _ _ _ => p - (intOf a).toNat)
      case atStart => exact ⟨0, by omega, rfl, rfl, (World.rowIs_made w1 (.int .i64 0) p 3).congr (fun i _ => by simp [KL]), (Below.refl _ _).alloc (Nat.le_refl _) _⟩
      case round =>
        obtain ⟨a0, ha0, rfl, rfl, hrow, hB⟩ := hrel
        have hKl := KL_len (S := S) (c := cs h i) a0
        by_cases hap : (a0 : Int) < p
        · obtain ⟨g1, g2⟩ := hl.out.at_ a0 (by omega)
          obtain ⟨q, hq⟩ : ∃ q : Nat, cs h i a0 = (q : Int) := ⟨(cs h i a0).toNat, by omega⟩
          have hqn : q < n := by omega
          have hca : w1.cell? ⟨w.heap.size, a0, none⟩ = some (.int .i64 (q : Int)) := by rw [hCh.cell (i := a0) (by omega), if_pos (by omega), hq]
          have hna : w1.cell? ⟨A, q, none⟩ = some (.string (S q)) := hN1.cell hqn
          have hrl := hrow.lt
          obtain ⟨wa, hwa⟩ : ∃ wa : World, wa = wr := ⟨_, rfl⟩
          subst hwa
          go_wp2
          go_loopw [13, 14] (fun f b wi => ∃ b0 : Nat, b0 ≤ a0 ∧ f = .bool true ∧ b = .int .i64 b0 ∧ (∀ b1, b1 < b0 → S (cs h i b1).toNat ≠ S (cs h i a0).toNat) ∧ Below wa.heap.size wa wi) (fun _ b _ => a0 - (intOf b).toNat)
          case atStart => exact ⟨0, by omega, rfl, rfl, fun b hb => by omega, Below.refl _ _⟩
          case round =>
            obtain ⟨b0, hb0, rfl, rfl, hne, hBi⟩ := hrel
            have HNE : Hid (∀ b1, b1 < b0 → S (cs h i b1).toNat ≠ S (cs h i a0).toNat) := hne
            clear hne
            have hBw : Below w1.heap.size w1 wr := hB.trans (hBi.mono hB.size)
            have hrowi : wr.rowIs w1.heap.size 3 p (fun x => if x < (KL S (cs h i) a0).length then .int .i64 (kap S (cs h i) p x) else .int .i64 0) := hrow.of_block (hBi.block _ hrl)
            have hca1 : wr.cell? ⟨w.heap.size, a0, none⟩ = some (.int .i64 (q : Int)) := by rw [hBw.cell (p := ⟨w.heap.size, a0, none⟩) hChl]; exact hca
            by_cases hba : (b0 : Int) < a0
            · obtain ⟨g3, g4⟩ := hl.out.at_ b0 (by omega)
              obtain ⟨r, hr⟩ : ∃ r : Nat, cs h i b0 = (r : Int) := ⟨(cs h i b0).toNat, by omega⟩
              have hrn : r < n := by omega
              have hcb : w1.cell? ⟨w.heap.size, b0, none⟩ = some (.int .i64 (r : Int)) := by rw [hCh.cell (i := b0) (by omega), if_pos (by omega), hr]
              have hcb1 : wr.cell? ⟨w.heap.size, b0, none⟩ = some (.int .i64 (r : Int)) := by rw [hBw.cell (p := ⟨w.heap.size, b0, none⟩) hChl]; exact hcb
              have hnb : w1.cell? ⟨A, r, none⟩ = some (.string (S r)) := hN1.cell hrn
              have hA1 : A < w1.heap.size := by omega
              have hnb1 : wr.cell? ⟨A, r, none⟩ = some (.string (S r)) := by rw [hBw.cell (p := ⟨A, r, none⟩) hA1]; exact hnb
              have hna1 : wr.cell? ⟨A, q, none⟩ = some (.string (S q)) := by rw [hBw.cell (p := ⟨A, q, none⟩) hA1]; exact hna
              have HBw : Hid (Below w1.heap.size w1 wr) := hBw
              have HBi : Hid (Below wa.heap.size wa wr) := hBi
              have HRi : Hid (wr.rowIs w1.heap.size 3 p (fun x => if x < (KL S (cs h i) a0).length then .int .i64 (kap S (cs h i) p x) else .int .i64 0)) := hrowi
              have hrn' : (r : Int) < n := by omega
              have hqn' : (q : Int) < n := by omega
              have hbp : (b0 : Int) < p := by omega
              have HQ : Hid (cs h i a0 = (q : Int) ∧ cs h i b0 = (r : Int)) := ⟨hq, hr⟩
              clear hBw hBi hrowi hcb hnb hca hna hq hr g1 g2 g3 g4
              by_cases heq : S r = S q
              · have hEq : ((S r).toList == (S q).toList) = true := by rw [heq]; simp
                have HE : Hid (S r = S q) := heq
                clear heq
                go_wp2_with fail
                go_quiet (fail)
                go_wp2
                go_roundw
                case rel => exact ⟨a0 + 1, by omega, by go_num, by rw [KL_old (fun hn => hn b0 (by omega) (by rw [HQ.out.1, HQ.out.2]; exact HE.out))], by rw [KL_old (fun hn => hn b0 (by omega) (by rw [HQ.out.1, HQ.out.2]; exact HE.out))]; exact HRi.out, below_drewN HBw.out _⟩
                case measure => simp [intOf]; omega
              · have hEq : ((S r).toList == (S q).toList) = false := bytes_ne heq
                have HE : Hid (S r ≠ S q) := heq
                clear heq
                go_wp2_with fail
                go_quiet (fail)
                go_wp2
                go_roundw
                case rel => exact ⟨b0 + 1, by omega, rfl, by go_num, fun b1 hb1 => by
                  rcases Nat.lt_or_ge b1 b0 with h5 | h5
                  · exact HNE.out b1 h5
                  · obtain rfl : b1 = b0 := by omega
                    rw [HQ.out.1, HQ.out.2]
                    exact HE.out, below_drewN HBi.out _⟩
                case measure => simp [intOf]; omega
            · have hnew : New S (cs h i) a0 := fun b1 hb1 => HNE.out b1 (by omega)
              have HNW : Hid (New S (cs h i) a0) := hnew
              obtain ⟨K, hK⟩ : ∃ K : Nat, (KL S (cs h i) a0).length = K := ⟨_, rfl⟩
              have hkq : kap S (cs h i) p K = q := by rw [← hK, kap_new p a0 (by omega) hnew, hq]; rfl
              have hKL1 : Hid ((KL S (cs h i) (a0 + 1)).length = K + 1) := by show (KL S (cs h i) (a0 + 1)).length = K + 1; rw [KL_new hnew]; simp [hK]
              rw [hK] at hrowi hKl
              have hKp : K < p := by omega
              have hrowA := hrowi.alloc (.cells #[.int .i64 (q : Int)] 3)
              have hc0 := hrowA.cell (i := K) (by omega)
              simp only [Nat.lt_irrefl, if_false] at hc0
              have hf0 := hrowA.frozen K
              have HB1 : Hid (Below w1.heap.size w1 ((wr.alloc (.cells #[.int .i64 (q : Int)] 3)).setCell ⟨w1.heap.size, K, none⟩ (.int .i64 (q : Int)))) := (hBw.alloc hBw.size _).setCell (Nat.le_refl _) _
              have HR1 : Hid (((wr.alloc (.cells #[.int .i64 (q : Int)] 3)).setCell ⟨w1.heap.size, K, none⟩ (.int .i64 (q : Int))).rowIs w1.heap.size 3 p (fun x => if x < K + 1 then .int .i64 (kap S (cs h i) p x) else .int .i64 0)) := (hrowA.set K _).congr (fun x hx => by
                by_cases e1 : x = K
                · rw [if_pos e1, if_pos (by omega), e1, hkq]
                · by_cases e2 : x < K
                  · rw [if_neg e1, if_pos e2, if_pos (by omega)]
                  · rw [if_neg e1, if_neg e2, if_neg (by omega)])
              clear hrowi hrowA hBw hBi hnew hkq hrow hB hca hna hq g1 g2
              go_wp2
              go_roundw
              case rel => exact ⟨a0 + 1, by omega, by go_num, by rw [hKL1.out], by rw [hKL1.out]; exact HR1.out, HB1.out⟩
              case measure => simp [intOf]; omega
        · obtain rfl : a0 = p := by omega
          have hX2 : wr.rowIs Bn 3 n (fun x => .int .i64 (h x)) := hX1.of_block (hB.block _ (by omega))
          have hKe : Hid (wr.rowIs w1.heap.size 3 a0 (fun x => if x < (KL S (cs h i) a0).length then .int .i64 (kap S (cs h i) a0 x) else .int .i64 0)) := hrow
          have hKel := hrow.lt
          have HB2 : Hid (Below w.heap.size w wr) := HB1.out.trans (hB.mono HB1.out.size)
          have hRp : 0 < (KL S (cs h i) a0).length := KL_pos a0 hlpos
          have hkn : Hid (∀ x, x < (KL S (cs h i) a0).length → kap S (cs h i) a0 x < n) := fun x hx => by
            obtain ⟨b, hb, e⟩ := kap_mem (S := S) (c := cs h i) a0 a0 x (Nat.le_refl _) hx
            have := hl.out.at_ b hb
            omega
          have hRow : IntRow wr (some ⟨Bn, 0, none⟩) n h := fun _ => ⟨Bn, 0, rfl, fun x hx => by rw [Nat.zero_add]; exact hX2.cell hx⟩
          clear hrow hB hCh hN1 hX1 HB1 hX2
          obtain ⟨w2, hw2⟩ : ∃ w2 : World, w2 = wr := ⟨_, rfl⟩
          subst hw2
          have hsz2 := HB2.out.size
          go_wp2_with fail
          refine (clonei (some ⟨Bn, 0, none⟩) n capB h _ hRow (by omega)).mono ?_
          rintro e w3 ⟨a3, c3, rfl, hcl, hb3⟩
          obtain ⟨ha3, hW3⟩ := hcl (by omega)
          subst ha3
          have hW4 : Hid (w3.rowIs w2.heap.size 3 n (fun x => .int .i64 (lk h (kap S (cs h i) a0) 0 (kap S (cs h i) a0 0 : Int) x))) := hW3
          have hKe3 : w3.rowIs w1.heap.size 3 a0 (fun x => if x < (KL S (cs h i) a0).length then .int .i64 (kap S (cs h i) a0 x) else .int .i64 0) := hKe.out.of_block (hb3.block _ hKel)
          have hb3' : Hid (Below w2.heap.size w2 w3) := hb3
          clear hcl hW3 hRow hKe hb3
          go_wp2
          go_loopw [16] (fun a wr => ∃ b0 : Nat, b0 < (KL S (cs h i) a0).length ∧ a = .int .i64 b0 ∧ wr.rowIs w2.heap.size 3 n (fun x => .int .i64 (lk h (kap S (cs h i) a0) b0 (kap S (cs h i) a0 b0 : Int) x)) ∧ Below w2.heap.size w2 wr ∧ wr.rowIs w1.heap.size 3 a0 (fun x => if x < (KL S (cs h i) a0).length then .int .i64 (kap S (cs h i) a0 x) else .int .i64 0)) (fun a _ => (KL S (cs h i) a0).length - (intOf a).toNat)
          case atStart => exact ⟨0, by omega, rfl, hW4.out, hb3'.out, hKe3⟩
          case round =>
            obtain ⟨b0, hb0, rfl, hrow, hB, hKr⟩ := hrel
            have hkb := hkn.out b0 hb0
            obtain ⟨ka, hka⟩ : ∃ ka : Nat, Hid (kap S (cs h i) a0 b0 = ka) := ⟨_, rfl⟩
            have hkan : ka < n := by have := hka.out; omega
            have hK1 : wr.cell? ⟨w1.heap.size, b0, none⟩ = some (.int .i64 (ka : Int)) := by
              rw [hKr.cell (i := b0) (by omega), if_pos (by omega), hka.out]
            have hwc : wr.cell? ⟨w2.heap.size, ka, none⟩ = some (.int .i64 (lk h (kap S (cs h i) a0) b0 (kap S (cs h i) a0 b0 : Int) ka)) := hrow.cell hkan
            have hwf := hrow.frozen ka
            have hkan' : (ka : Int) < n := by omega
            have hneW : w1.heap.size ≠ w2.heap.size := by omega
            by_cases hb1 : (b0 : Int) + 1 < (KL S (cs h i) a0).length
            · obtain ⟨kb, hkb2⟩ : ∃ kb : Nat, Hid (kap S (cs h i) a0 (b0 + 1) = kb) := ⟨_, rfl⟩
              have hK2 : wr.cell? ⟨w1.heap.size, b0 + 1, none⟩ = some (.int .i64 (kb : Int)) := by
                rw [hKr.cell (i := b0 + 1) (by omega), if_pos (by omega), hkb2.out]
              have HR1 : Hid ((wr.setCell ⟨w2.heap.size, ka, none⟩ (.int .i64 (kb : Int))).rowIs w2.heap.size 3 n (fun x => .int .i64 (lk h (kap S (cs h i) a0) (b0 + 1) (kap S (cs h i) a0 (b0 + 1) : Int) x))) := (hrow.set ka _).congr (fun x hx => by
                show _ = Value.int .i64 (if x = kap S (cs h i) a0 b0 then (kap S (cs h i) a0 (b0 + 1) : Int) else lk h (kap S (cs h i) a0) b0 (kap S (cs h i) a0 b0 : Int) x)
                rw [hka.out, hkb2.out]
                by_cases e1 : x = ka
                · rw [if_pos e1, if_pos e1]
                · rw [if_neg e1, if_neg e1])
              have HK1 : Hid ((wr.setCell ⟨w2.heap.size, ka, none⟩ (.int .i64 (kb : Int))).rowIs w1.heap.size 3 a0 (fun x => if x < (KL S (cs h i) a0).length then .int .i64 (kap S (cs h i) a0 x) else .int .i64 0)) := hKr.setOther hneW _
              have HB1 : Hid (Below w2.heap.size w2 (wr.setCell ⟨w2.heap.size, ka, none⟩ (.int .i64 (kb : Int)))) := hB.setCell (Nat.le_refl _) _
              clear hrow hB hKr hKe3 hW4
              go_wp2_with fail
              go_region
              go_wp2
              go_roundw
              case rel => exact ⟨b0 + 1, by omega, by go_num, HR1.out.drew, HB1.out.drew, HK1.out.drew⟩
              case measure => simp [intOf]; omega
            · have HR1 : Hid ((wr.setCell ⟨w2.heap.size, ka, none⟩ (.int .i64 (cs h i a0))).rowIs w2.heap.size 3 n (fun x => .int .i64 (lk h (kap S (cs h i) a0) (b0 + 1) (cs h i a0) x))) := (hrow.set ka _).congr (fun x hx => by
                show _ = Value.int .i64 (if x = kap S (cs h i) a0 b0 then cs h i a0 else lk h (kap S (cs h i) a0) b0 (kap S (cs h i) a0 b0 : Int) x)
                rw [hka.out]
                by_cases e1 : x = ka
                · rw [if_pos e1, if_pos e1]
                · rw [if_neg e1, if_neg e1])
              have hBR : Hid ((KL S (cs h i) a0).length = b0 + 1) := by show (KL S (cs h i) a0).length = b0 + 1; omega
              have hb0' : ((KL S (cs h i) a0).length : Int) - 1 = (b0 : Int) := by omega
              have HB1 : Hid (Below w2.heap.size w2 (wr.setCell ⟨w2.heap.size, ka, none⟩ (.int .i64 (cs h i a0)))) := hB.setCell (Nat.le_refl _) _
              clear hrow hB hKr hKe3 hW4
              go_wp2
              go_ret
              exact ⟨w2.heap.size, c3, rfl, hsz2, by rw [hBR.out]; exact HR1.out, HB2.out.trans (HB1.out.mono HB2.out.size)⟩
end Go.Proofs.Qxb6603326a
