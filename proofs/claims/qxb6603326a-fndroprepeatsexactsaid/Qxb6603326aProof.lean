/-
  'FnDropRepeatsExact': the row.
-/
import Derived.Test.Qxb6603326aRows
import Derived.Test.Qxb6603326aWalkH
import Derived.ProofKit
import Derived.SizedLaws
import Derived.SliceStrings
import Derived.OpenShut
namespace Go.Proofs.Qxb6603326a
open Go.ChangeShapes Go.WideShapes Go.ChangeAt Go.RowKit
open Go.ChangeMaps (open_string shut_string)

theorem own : ownKnob Try.prog.godebug = none := by kernel_rfl
theorem laidOut : laidOutB Try.prog = true := by kernel_rfl
theorem cells9 : Try.prog.cellsOf 9 = 1 := by kernel_rfl
theorem cells3 : Try.prog.cellsOf 3 = 1 := by kernel_rfl
theorem bytes9 : Try.prog.bytesOf 9 = 16 := by kernel_rfl
theorem bytes3 : Try.prog.bytesOf 3 = 8 := by kernel_rfl

theorem strRow_read {H : Type} {enc : TypeId × Value → H} {W : World} {base : Nat} {spare : Nat → Bool} {held : Bool} {fuel : Nat} {a : Option Addr} {l c : Nat} {d : DataW H} {p : List MemPlace} (h : DataW.trod enc Try.prog W base spare held fuel 22 [.slice a l c] = some (d, p)) :
    ∃ S, StrRow W a l S ∧ (∀ i, (S i).size ≤ maxLen) ∧ (l = 0 ∨ ∃ es sp, d = .slice es sp ∧ l ≤ es.length + sp.length) := by
  rcases open_strings Try.underlying22 Try.underlying9 cells9 h with ⟨hcs, _⟩ | ⟨b, len, cap, ss, hcs, _, hl, _, hz, hx, hcell, hws⟩
  · simp at hcs
    exact ⟨fun _ => ByteArray.empty, fun h => by omega, fun _ => Nat.zero_le _, Or.inl hcs.2.1⟩
  · simp at hcs
    obtain ⟨rfl, rfl, rfl⟩ := hcs
    have hss : l ≤ ss.length := by rw [hz]; split <;> omega
    refine ⟨fun i => ss.getD i ByteArray.empty, fun h0 => ?_, fun i => ?_, Or.inr ⟨_, _, congrArg Prod.fst hx, ?_⟩⟩
    · obtain ⟨b2, off, spot⟩ := b
      have hspot : spot = none := by simpa [Addr.add] using World.cell?_spot (hcell 0 (by omega))
      subst hspot
      refine ⟨b2, off, rfl, fun i hi => ?_⟩
      have := hcell i (by omega)
      rw [Go.WideShapes.add_plain] at this
      exact this
    · rcases Nat.lt_or_ge i ss.length with hi | hi
      · refine hws _ ?_
        show ss.getD i ByteArray.empty ∈ ss
        rw [List.getD_eq_getElem?_getD, List.getElem?_eq_getElem hi]
        exact List.getElem_mem _
      · show (ss.getD i ByteArray.empty).size ≤ maxLen
        rw [List.getD_eq_getElem?_getD, List.getElem?_eq_none hi]
        exact Nat.zero_le _
    · simp [strs]; omega

theorem intRow_read {H : Type} {enc : TypeId × Value → H} {W : World} {base : Nat} {spare : Nat → Bool} {held : Bool} {fuel : Nat} {a : Option Addr} {l c : Nat} {d : DataW H} {p : List MemPlace} (h : DataW.trod enc Try.prog W base spare held fuel 23 [.slice a l c] = some (d, p)) :
    ∃ g, IntRow W a l g ∧ (l = 0 ∨ ∃ es sp, d = .slice es sp ∧ l ≤ es.length + sp.length) := by
  rcases open_ints Try.underlying23 Try.underlying3 cells3 h with ⟨hcs, _⟩ | ⟨b, len, cap, zs, hcs, _, hl, _, hz, hx, hcell, _⟩
  · simp at hcs
    exact ⟨fun _ => 0, fun h => by omega, Or.inl hcs.2.1⟩
  · simp at hcs
    obtain ⟨rfl, rfl, rfl⟩ := hcs
    have hss : l ≤ zs.length := by rw [hz]; split <;> omega
    refine ⟨fun i => zs.getD i 0, fun h0 => ?_, Or.inr ⟨_, _, congrArg Prod.fst hx, ?_⟩⟩
    · obtain ⟨b2, off, rfl, hc⟩ := Go.ints_at hcell (by omega)
      exact ⟨b2, off, rfl, fun i hi => hc i (by omega)⟩
    · simp [lits]; omega

set_option maxRecDepth 100000 in
theorem lifted (os : Os) (started : os.Started) (H : Type) (enc : TypeId × Value → H) :
    ReturnsInHanded {} Try.checked os 3 .any (Rows.fnDropRepeatsExactSpec.pre6 enc Try.prog Try.f3 Rows.fnDropRepeatsExactRow.domain false) (Rows.fnDropRepeatsExactSpec.post enc Try.prog Try.f3 false true false false) := by
  refine returnsInHanded_of_change_sized (C := Try.checked) own started (by kernel_rfl) Try.func3
    (ChangeSpec.witness6 (enc := enc) (C := Try.checked) false ⟨#[], #[.slice none 0 0, .slice none 0 0, .int .i64 0], []⟩ 8 (by kernel_rfl) (by kernel_rfl) (by kernel_rfl) (by kernel_rfl)) ?_
  intro W base args ds gs before hval0 hW _ hsz0 _
  have hsz : (DataW.weightsEach Try.prog (Try.f3.params.toList ++ Rows.fnDropRepeatsExactSpec.plain.varTypes Try.prog) (ds ++ gs)).all (· ≤ reachBytes) = true := hsz0
  clear hsz0
  have hval : ∀ (j : Nat) t v, Try.f3.params[j]? = some t → args[j]? = some v → Value.okWide Try.prog W .any base t v := hval0
  have hW' := hW
  obtain ⟨p, q, hA0, hV, rfl, _, _⟩ := hW
  have hA : DataW.TrodAll enc Try.prog W 0 (fun _ => true) true Try.f3.params.toList args.toList ds p := hA0
  rw [Try.params3] at hA hval hsz
  obtain ⟨v0, v1, v2, d0, d1, d2, p0, p1, p2, hargs, rfl, rfl, h0, h1, h2⟩ := trodAll_three hA
  obtain rfl : args = #[v0, v1, v2] := by cases args; simp_all
  obtain ⟨rfl, rfl⟩ := trodVars_none hV
  obtain ⟨i, rfl, rfl, rfl, hi⟩ := open_int Try.underlying3 (hval 2 3 v2 rfl rfl) h2
  have h0k := h0
  have h1k := h1
  obtain ⟨a0, len, cap, rfl⟩ := okWide_slice Try.underlying22 (hval 0 22 v0 rfl rfl)
  obtain ⟨a1, len1, cap1, rfl⟩ := okWide_slice Try.underlying23 (hval 1 23 v1 rfl rfl)
  obtain ⟨fuel0, hf0⟩ := h0
  obtain ⟨fuel1, hf1⟩ := h1
  clear hA0 hval0
  simp only [List.append_nil] at hW'
  have hlt : ∀ x ∈ p0 ++ p1, x.block < W.heap.size := fun x hx => by simpa using hW'.lt x (by simpa using hx)
  obtain ⟨S, hr0, hz, hlen⟩ := strRow_read hf0
  obtain ⟨g, hr1, hlen1⟩ := intRow_read hf1
  have hl0 : len ≤ 140737488355328 := by
    rcases hlen with rfl | ⟨es, sp, hd, hle⟩
    · omega
    · have := sized_slice hsz (j := 0) (t := 22) (e := 9) rfl (by rw [hd]; rfl) Try.underlying22
      rw [bytes9] at this
      have := reachBytes_lt
      omega
  have hl1 : len1 ≤ 140737488355328 := by
    rcases hlen1 with rfl | ⟨es, sp, hd, hle⟩
    · omega
    · have := sized_slice hsz (j := 1) (t := 23) (e := 3) rfl (by rw [hd]; rfl) Try.underlying23
      rw [bytes3] at this
      have := reachBytes_lt
      omega
  refine (lawD a0 len cap S a1 len1 cap1 g i W hr0 hr1 hz hl0 hl1).mono fun e W' hend => ?_
  obtain ⟨he, hB⟩ := hend
  subst he
  refine ⟨_, rfl, _, _, _, [], p0 ++ (p1 ++ []), [], hW', ?_, ?_, rfl, hB.frame _, fun h => by cases h⟩
  · exact trodAll_mk1 (shut_bool Try.underlying4 true)
  · exact trodAll_mk3 (Below.trod laidOut (by kernel_rfl) (of_decide_eq_true (by kernel_rfl)) h0k hB (fun x hx => hlt x (by simp [hx]))) (Below.trod laidOut (by kernel_rfl) (of_decide_eq_true (by kernel_rfl)) h1k hB (fun x hx => hlt x (by simp [hx]))) (shut_int Try.underlying3 hi)

theorem dropRepeatsExact_holds : Rows.FnDropRepeatsExactSaid :=
  OpenClaim.holds_of_wide 3 Try.f3 rfl rfl rfl rfl rfl rfl rfl ⟨rfl, rfl, rfl, rfl, rfl⟩ rfl rfl rfl rfl rfl (by kernel_rfl) Try.func3 (by kernel_rfl)
    (of_decide_eq_true (by kernel_rfl)) (by unfold Func.isWrapper; first | (rw [if_pos (by decide +kernel)]; kernel_rfl) | (rw [if_neg (by decide +kernel)]; exact ⟨rfl, rfl⟩))
    (fun os started H enc _ => lifted os started H enc)
end Go.Proofs.Qxb6603326a
