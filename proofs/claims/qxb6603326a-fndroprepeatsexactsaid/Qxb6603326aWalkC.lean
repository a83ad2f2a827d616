/-
  'make' with room, 'append' into room.
-/
import Derived.Test.Qxb6603326aWalkB
import Derived.Laws.AppendOwn
namespace Go.Proofs.Qxb6603326a
open Go.RowKit

theorem info3 : (Try.prog.info? 3).map (fun i => (i.zero, i.size, i.bytes)) = some (some (.int .i64 0), 1, 8) := by kernel_rfl
theorem make23_0 (c : Nat) (h : c ≤ 1048576) (w : World) :
    (Instr.makeSlice 23 (.int .i64 0) (.int .i64 (c : Int))).run Try.prog w = .ok (.slice (some ⟨w.heap.size, 0, none⟩) 0 c) (w.alloc (.cells (zeroI c) 3)) := by
  obtain ⟨i, hi, hzz⟩ := Option.map_eq_some_iff.1 info3
  simp only [Prod.mk.injEq] at hzz
  obtain ⟨hz, hs, hb⟩ := hzz
  have hr := run_make (P := Try.prog) w 23 3 i (.int .i64 0) Try.underlying23 hi hz .i64 .i64 0 c (by omega) (by omega) (by rw [hb]; omega) (by omega)
  simp only [Int.toNat_natCast, hs, Nat.mul_one] at hr
  exact hr

theorem append1 (B p N T : Nat) (v : Int) (f : Nat → Value) (w : World) (hrow : w.rowIs B 3 N f) (hp : p < N) (hc : w.cell? ⟨T, 0, none⟩ = some (.int .i64 v)) :
    ∃ w1, (Builtin.append_ #[23, 23] 23 #[.slice (some ⟨B, 0, none⟩) p N, .slice (some ⟨T, 0, none⟩) 1 1]).run Try.prog w = .ok (.slice (some ⟨B, 0, none⟩) (p + 1) N) w1 ∧
      w1.rowIs B 3 N (fun x => if x = p then .int .i64 v else f x) ∧ w.grownBy w1 (some B) := by
  obtain ⟨i, hi, hzz⟩ := Option.map_eq_some_iff.1 info3
  simp only [Prod.mk.injEq] at hzz
  obtain ⟨hz, hs, hb⟩ := hzz
  obtain ⟨cur, hg, hsz, hcur⟩ := hrow
  have hr := run_append_room (P := Try.prog) w 23 23 3 i Try.underlying23 hi B p N cur hg ⟨T, 0, none⟩ 1 1 [.int .i64 v] (by simp [hs]) (fun j u hj => by
    cases j with
    | zero =>
      simp at hj
      subst hj
      exact hc
    | succ j => simp at hj) (fun u hu => by
      simp at hu
      subst hu
      rfl) (by omega) (by simp [hs, hsz]; omega)
  refine ⟨_, hr, ⟨_, setRow_heap w B cur _ 3 _ hg, ?_, fun x hx => ?_⟩, ⟨rfl, rfl, rfl, by simp, fun k _ hk => setRow_other w B k _ (fun e => hk (by simp [e]))⟩⟩
  · simp [hs]; omega
  · have hcx := hcur x hx
    rw [hs, Nat.mul_one]
    by_cases hxp : x = p
    · subst hxp
      simp
      rw [List.getElem?_append_right (by simp; omega)]
      simp [hsz]
      rw [show x - min x N = 0 by omega]
      rfl
    · show _ = some (if x = p then _ else f x)
      rw [if_neg hxp]
      simp
      rcases Nat.lt_or_ge x p with h1 | h1
      · rw [List.getElem?_append_left (by simp; omega), List.getElem?_take_of_lt h1]
        simpa using hcx
      · rw [List.getElem?_append_right (by simp; omega)]
        simp [hsz]
        rw [show x - min p N = (x - p - 1) + 1 by omega]
        simp
        rw [show p + 1 + (x - p - 1) = x by omega]
        simpa using hcx
end Go.Proofs.Qxb6603326a
