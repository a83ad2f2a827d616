/-
  'FnHeaderValuesLastPairWins': the row, proved.
-/
import Derived.Test.Qxb6604425aRows
import Derived.Test.Qxb6604425aWalkD
import Derived.ProofKit
import Derived.SizedLaws
import Derived.SliceStrings
import Derived.Deep.Slices
namespace Go.Proofs.Qxb6604425a
open Go.ChangeShapes Go.WideShapes Go.ChangeAt Go.RowKit
open Go.ChangeMaps (open_string shut_string)

theorem own : ownKnob Try.prog.godebug = none := by kernel_rfl
theorem laidOut : laidOutB Try.prog = true := by kernel_rfl
theorem cells9 : Try.prog.cellsOf 9 = 1 := by kernel_rfl
theorem cells29 : Try.prog.cellsOf 29 = 1 := by kernel_rfl
theorem bytes9 : Try.prog.bytesOf 9 = 16 := by kernel_rfl
theorem bytes29 : Try.prog.bytesOf 29 = 24 := by kernel_rfl

theorem addr_form {w : World} {a : Addr} {v : Value} (h : w.cell? (a.add 0) = some v) : ∃ b off, a = ⟨b, off, none⟩ := by
  obtain ⟨b, off, spot⟩ := a
  have hspot : spot = none := by simpa [Addr.add] using World.cell?_spot h
  subst hspot
  exact ⟨b, off, rfl⟩

theorem strRow_read {H : Type} {enc : TypeId × Value → H} {W : World} {base : Nat} {spare : Nat → Bool} {held : Bool} {fuel : Nat} {cs : List Value} {x : DataW H × List MemPlace} (h : DataW.trod enc Try.prog W base spare held fuel 29 cs = some x) :
    ∃ a l c, cs = [.slice a l c] ∧ StrRow W a l ∧ (l = 0 ∨ ∃ es sp, x.1 = .slice es sp ∧ l ≤ es.length + sp.length) := by
  rcases open_strings Try.underlying29 Try.underlying9 cells9 h with ⟨rfl, _⟩ | ⟨a, len, cap, ss, rfl, _, hl, _, hz, rfl, hcell, hws⟩
  · exact ⟨none, 0, 0, rfl, fun h => by omega, Or.inl rfl⟩
  · have hss : len ≤ ss.length := by rw [hz]; split <;> omega
    refine ⟨some a, len, cap, rfl, fun h0 => ?_, Or.inr ⟨_, _, rfl, ?_⟩⟩
    · obtain ⟨b, off, rfl⟩ := addr_form (hcell 0 (by omega))
      refine ⟨b, off, rfl, fun i hi => ⟨ss.getD i ByteArray.empty, ?_, ?_⟩⟩
      · have := hcell i (by omega)
        rw [addr_add] at this
        exact this
      · refine hws _ ?_
        rw [List.getD_eq_getElem?_getD, List.getElem?_eq_getElem (by omega)]
        exact List.getElem_mem _
    · simp [strs]; omega

theorem weightsAll_mem {H : Type} {P : Program} {e : TypeId} {d : DataW H} {n : Nat} (hn : n ∈ d.weights P e) : ∀ l : List (DataW H), d ∈ l → n ∈ DataW.weightsAll P e l
  | [], h => by cases h
  | y :: r, h => by
    simp only [DataW.weightsAll, List.mem_append]
    rcases List.mem_cons.1 h with rfl | h
    · exact Or.inl hn
    · exact Or.inr (weightsAll_mem hn r h)

theorem reach_le {l : Nat} (h : l * 16 ≤ reachBytes) : l ≤ 8796093022208 := by
  have := reachBytes_lt
  omega

theorem listRow_read {H : Type} {enc : TypeId × Value → H} {W : World} {base : Nat} {spare : Nat → Bool} {held : Bool} {fuel : Nat} {cs : List Value} {x : DataW H × List MemPlace} (h : DataW.trod enc Try.prog W base spare held fuel 30 cs = some x)
    (hwt : ∀ n ∈ x.1.weights Try.prog 30, n ≤ reachBytes) :
    ∃ a l c, cs = [.slice a l c] ∧ ListRow W a l ∧ l ≤ 8796093022208 := by
  rcases Deep.open_slice1 Try.underlying30 cells29 h with ⟨rfl, _⟩ | ⟨a, len, cap, m, n, V, D, Pl, rfl, _, hl, _, hm, rfl, hcell⟩
  · exact ⟨none, 0, 0, rfl, fun h => by omega, by omega⟩
  · have hlm : len ≤ m := by rw [hm]; split <;> omega
    have hw0 := hwt ((len + (m - len)) * 24) (by simp [DataW.weights, Try.underlying30, bytes29])
    refine ⟨some a, len, cap, rfl, fun h0 => ?_, reach_le (by omega)⟩
    obtain ⟨b, off, rfl⟩ := addr_form (hcell 0 (by omega)).1
    refine ⟨b, off, rfl, fun i hi => ?_⟩
    obtain ⟨hc, ht⟩ := hcell i (by omega)
    rw [addr_add] at hc
    obtain ⟨a', l, c, hV, hs, hlen⟩ := strRow_read ht
    have hVi : V i = .slice a' l c := by simpa using hV
    refine ⟨a', l, c, by rw [hc, hVi], hs, ?_⟩
    rcases hlen with rfl | ⟨es, sp, hd, hle⟩
    · omega
    · have h1 : (es.length + sp.length) * 16 ≤ reachBytes := by
        refine hwt _ ?_
        simp only [DataW.weights, Try.underlying30, List.mem_cons, List.mem_append]
        refine Or.inr (Or.inl (weightsAll_mem (d := D i) ?_ _ (List.mem_map.2 ⟨i, by simpa using hi, rfl⟩)))
        have hd' : D i = .slice es sp := hd
        rw [hd']
        simp [DataW.weights, Try.underlying29, bytes9]
      exact reach_le (by omega)

set_option maxRecDepth 100000 in
theorem lifted (os : Os) (started : os.Started) (H : Type) (enc : TypeId × Value → H) :
    ReturnsInHanded {} Try.checked os 5 .any (Rows.fnHeaderValuesLastPairWinsSpec.pre6 enc Try.prog Try.f5 Rows.fnHeaderValuesLastPairWinsRow.domain false) (Rows.fnHeaderValuesLastPairWinsSpec.post enc Try.prog Try.f5 false true false false) := by
  refine returnsInHanded_of_change_sized (C := Try.checked) own started (by kernel_rfl) Try.func5
    (ChangeSpec.witness6 (enc := enc) (C := Try.checked) false ⟨#[], #[.slice none 0 0, .slice none 0 0, .string ⟨#[]⟩], []⟩ 8 (by kernel_rfl) (by kernel_rfl) (by kernel_rfl) (by kernel_rfl)) ?_
  intro W base args ds gs before hval0 hW _ hsz0 _
  have hsz : (DataW.weightsEach Try.prog (Try.f5.params.toList ++ Rows.fnHeaderValuesLastPairWinsSpec.plain.varTypes Try.prog) (ds ++ gs)).all (· ≤ reachBytes) = true := hsz0
  clear hsz0
  have hval : ∀ (j : Nat) t v, Try.f5.params[j]? = some t → args[j]? = some v → Value.okWide Try.prog W .any base t v := hval0
  have hW' := hW
  obtain ⟨p, q, hA0, hV, rfl, _, _⟩ := hW
  have hA : DataW.TrodAll enc Try.prog W 0 (fun _ => true) true Try.f5.params.toList args.toList ds p := hA0
  rw [Try.params5] at hA hval hsz
  obtain ⟨v0, v1, v2, d0, d1, d2, p0, p1, p2, hargs, rfl, rfl, h0, h1, h2⟩ := trodAll_three hA
  obtain rfl : args = #[v0, v1, v2] := by cases args; simp_all
  obtain ⟨rfl, rfl⟩ := trodVars_none hV
  obtain ⟨nm, rfl, rfl, rfl, hnm⟩ := open_string Try.underlying9 (hval 2 9 v2 rfl rfl) h2
  have h0k := h0
  have h1k := h1
  obtain ⟨a0, len, cap, rfl⟩ := okWide_slice Try.underlying29 (hval 0 29 v0 rfl rfl)
  obtain ⟨a1, len1, cap1, rfl⟩ := okWide_slice Try.underlying30 (hval 1 30 v1 rfl rfl)
  obtain ⟨fuel0, hf0⟩ := h0
  obtain ⟨fuel1, hf1⟩ := h1
  clear hA0 hval0
  simp only [List.append_nil] at hW'
  have hlt : ∀ x ∈ p0 ++ (p1 ++ []), x.block < W.heap.size := fun x hx => by simpa using hW'.lt x (by simpa using hx)
  obtain ⟨a', l, c, hcs, hr0, hlen⟩ := strRow_read hf0
  have e0 : a' = a0 ∧ l = len ∧ c = cap := by
    simp [Value.cells] at hcs
    exact ⟨hcs.1.symm, hcs.2.1.symm, hcs.2.2.symm⟩
  obtain ⟨rfl, rfl, rfl⟩ := e0
  have hl0 : l ≤ 8796093022208 := by
    rcases hlen with rfl | ⟨es, sp, hd, hle⟩
    · omega
    · have hd' : d0 = .slice es sp := hd
      have := sized_slice hsz (j := 0) (t := 29) (e := 9) rfl (by rw [hd']; rfl) Try.underlying29
      rw [bytes9] at this
      exact reach_le (by omega)
  obtain ⟨a'', l1, c1, hcs1, hr1, hl1⟩ := listRow_read hf1 (fun n hn => by
    have := List.all_eq_true.1 hsz n (DataW.weights_mem_each (j := 1) (t := 30) (d := d1) rfl rfl n hn)
    simpa using this)
  have e1 : a'' = a1 ∧ l1 = len1 ∧ c1 = cap1 := by
    simp [Value.cells] at hcs1
    exact ⟨hcs1.1.symm, hcs1.2.1.symm, hcs1.2.2.symm⟩
  obtain ⟨rfl, rfl, rfl⟩ := e1
  refine (lawH _ _ l c l1 c1 nm W hr0 hl0 hr1 hl1 hnm).mono fun e W' hend => ?_
  obtain ⟨he, hB⟩ := hend
  subst he
  refine ⟨_, rfl, _, _, _, [], p0 ++ (p1 ++ []), [], hW', ?_, ?_, rfl, hB.frame _, fun h => by cases h⟩
  · exact trodAll_mk1 (shut_bool Try.underlying4 true)
  · exact trodAll_mk3 (Below.trod laidOut (by kernel_rfl) (of_decide_eq_true (by kernel_rfl)) h0k hB (fun x hx => hlt x (by simp [hx]))) (Below.trod laidOut (by kernel_rfl) (of_decide_eq_true (by kernel_rfl)) h1k hB (fun x hx => hlt x (by simp [hx]))) (shut_string Try.underlying9 hnm)

theorem lastPairWins_holds : Rows.FnHeaderValuesLastPairWinsSaid :=
  OpenClaim.holds_of_wide 5 Try.f5 rfl rfl rfl rfl rfl rfl rfl ⟨rfl, rfl, rfl, rfl, rfl⟩ rfl rfl rfl rfl rfl (by kernel_rfl) Try.func5 (by kernel_rfl)
    (of_decide_eq_true (by kernel_rfl)) (by unfold Func.isWrapper; first | (rw [if_pos (by decide +kernel)]; kernel_rfl) | (rw [if_neg (by decide +kernel)]; exact ⟨rfl, rfl⟩))
    (fun os started H enc _ => lifted os started H enc)
end Go.Proofs.Qxb6604425a
