/-
  ZZDropRepeats.
-/
import Derived.Test.Qxb6603326aWalkF
namespace Go.Proofs.Qxb6603326a
open Go.RowKit Go.Maps

def ZLeft (h : Nat → Int) (k : Nat → Nat) (R : Nat) (z : Int) (Bn n capB : Nat) (w : World) (e : Ending) (w' : World) : Prop :=
  e = .returned (.slice (some ⟨Bn, 0, none⟩) n capB) ∧ w'.rowIs Bn 3 n (fun x => .int .i64 (lk h k R z x)) ∧ w.grownBy w' (some Bn)

set_option maxHeartbeats 2000000 in
theorem zzDrop (A Bn n capA capB i l : Nat) (S : Nat → ByteArray) (h : Nat → Int) (w : World)
    (hN : w.rowIs A 9 n (fun x => .string (S x))) (hX : w.rowIs Bn 3 n (fun x => .int .i64 (h x))) (hAB : A ≠ Bn) (hl : Hid (Len (cs h i) n l)) (hn : n ≤ 4096) (hz : Hid (∀ x, (S x).size ≤ maxLen)) :
    Calls Try.prog 12 #[.slice (some ⟨A, 0, none⟩) n capA, .slice (some ⟨Bn, 0, none⟩) n capB, .int .i64 (i : Int)] w (ZLeft h (kap S (cs h i) l) (KL S (cs h i) l).length (cs h i l) Bn n capB w) := by
  have hXl := hX.lt
  have hrA := World.rowIs_alloc w #[.slice (some ⟨A, 0, none⟩) n capA, .map none, .slice (some ⟨Bn, 0, none⟩) n capB] 39 (fun j => #[Value.slice (some ⟨A, 0, none⟩) n capA, .map none, .slice (some ⟨Bn, 0, none⟩) n capB].getD j undef) (fun j hj => match j, hj with | 0, _ => rfl | 1, _ => rfl | 2, _ => rfl)
  have hP0 : (w.alloc (.cells #[.slice (some ⟨A, 0, none⟩) n capA, .map none, .slice (some ⟨Bn, 0, none⟩) n capB] 39)).cell? ⟨w.heap.size, 0, none⟩ = some (.slice (some ⟨A, 0, none⟩) n capA) := hrA.cell (i := 0) (by simp)
  have hP2 : (w.alloc (.cells #[.slice (some ⟨A, 0, none⟩) n capA, .map none, .slice (some ⟨Bn, 0, none⟩) n capB] 39)).cell? ⟨w.heap.size, 2, none⟩ = some (.slice (some ⟨Bn, 0, none⟩) n capB) := hrA.cell (i := 2) (by simp)
  have hne : w.heap.size ≠ Bn := by omega
  have hN0 := hN.alloc (.cells #[.slice (some ⟨A, 0, none⟩) n capA, .map none, .slice (some ⟨Bn, 0, none⟩) n capB] 39)
  have hX0 := hX.alloc (.cells #[.slice (some ⟨A, 0, none⟩) n capA, .map none, .slice (some ⟨Bn, 0, none⟩) n capB] 39)
  clear hrA
  go_enter Try.func12, Try.ntmps12
  go_wp2_with fail
  refine (drop w.heap.size A Bn n capA capB i l S h _ hP0 hP2 hN0 hX0 hne hAB hl hn hz).mono ?_
  rintro e w1 ⟨⟨v, rfl⟩, hrow, hg⟩
  have hf : w1.cell? ⟨w.heap.size, 2, none⟩ = some (.slice (some ⟨Bn, 0, none⟩) n capB) := hg.cell hP2 (by simpa using hne)
  have HR : Hid (w1.rowIs Bn 3 n (fun x => .int .i64 (lk h (kap S (cs h i) l) (KL S (cs h i) l).length (cs h i l) x))) := hrow
  have HG : Hid (w.grownBy w1 (some Bn)) := (World.grownBy_alloc w _ _).trans hg
  clear hrow hg hP2 hP0 hN0 hX0
  go_wp2
  go_ret
  exact ⟨rfl, HR.out, HG.out⟩
end Go.Proofs.Qxb6603326a
