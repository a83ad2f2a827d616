/-
  'FnDecodeHexRoundTrip': the told and tied card.
-/
import Derived.Test.Qxb6604560aFmtProofX
import Derived.Test.Qxb6604560aFmtWalkI
import Derived.Deep.Grids
namespace Go.Proofs.Qxb6604560aFmt
open Go.ChangeShapes Go.WideShapes Go.ChangeAt Go.RowKit Go.Kit
open Go.ChangeMaps (open_string shut_string)
open Go.Extern.Stop Go.Stop Go.Extern

theorem cells4 : Tryf.prog.cellsOf 4 = 1 := by kernel_rfl
theorem bytes4 : Tryf.prog.bytesOf 4 = 1 := by kernel_rfl
theorem boolRow_read {H : Type} {enc : TypeId × Value → H} {W : World} {base : Nat} {spare : Nat → Bool} {held : Bool} {fuel : Nat} {a : Option Addr} {l c : Nat} {d : DataW H} {p : List MemPlace} (h : DataW.trod enc Tryf.prog W base spare held fuel 30 [.slice a l c] = some (d, p)) :
    ∃ g, BoolRow W a l g ∧ (l = 0 ∨ ∃ es sp, d = .slice es sp ∧ l ≤ es.length + sp.length) := by
  rcases Go.Deep.open_slice1 Tryf.underlying30 cells4 h with ⟨hcs, _⟩ | ⟨b, len, cap, m, n, V, D, Pl, hcs, _, hl, _, hm, hx, hcell⟩
  · simp at hcs
    exact ⟨fun _ => false, fun h => by omega, Or.inl hcs.2.1⟩
  · simp at hcs
    obtain ⟨rfl, rfl, rfl⟩ := hcs
    have hss : l ≤ m := by rw [hm]; split <;> omega
    have hV : ∀ i, i < m → ∃ t, V i = .bool t := fun i hi => by
      obtain ⟨t, ht, _⟩ := DataW.trod_bool Tryf.underlying4 (hcell i hi).2
      exact ⟨t, by simpa using ht⟩
    refine ⟨fun i => match V i with | .bool t => t | _ => false, fun h0 => ?_, Or.inr ⟨_, _, congrArg Prod.fst hx, ?_⟩⟩
    · obtain ⟨b2, off, spot⟩ := b
      have hspot : spot = none := by simpa [Addr.add] using World.cell?_spot (hcell 0 (by omega)).1
      subst hspot
      refine ⟨b2, off, rfl, fun i hi => ?_⟩
      obtain ⟨t, ht⟩ := hV i (by omega)
      have h1 := (hcell i (by omega)).1
      rw [Go.WideShapes.add_plain, ht] at h1
      simp only [h1, ht]
    · simp

set_option maxRecDepth 100000 in
theorem liftedR (os : Os) (started : os.Started) (H : Type) (enc : TypeId × Value → H) :
    ReturnsInTold none {} Tryf.checked os 4 .any Input.okWide ((OpenSpec.ofChange Rows.fnDecodeHexRoundTripSpec).preRow enc Tryf.prog Tryf.f4 [] false Rows.fnDecodeHexRoundTripRow.laid) (fun F => ((OpenSpec.ofChange Rows.fnDecodeHexRoundTripSpec).at F).post enc Tryf.prog Tryf.f4 false true false false) (aloneAtReturn Tryf.prog) nothingAlways := by
  refine returnsInTold_of_row (C := Tryf.checked) (s := OpenSpec.ofChange Rows.fnDecodeHexRoundTripSpec) (by kernel_rfl) own started (by kernel_rfl) Tryf.func4
    (OpenSpec.witness_stopped_at (enc := enc) (C := Tryf.checked) false (laidWorld os 0 lenS) #[.slice none 0 0, .slice none 0 0] rfl (by kernel_rfl) (by kernel_rfl) (by kernel_rfl)
      (OpenSpec.preRow_of_B rfl 8 (by kernel_rfl) (by kernel_rfl) (laidE_met os _))) ?_
  intro F W base args ds gs before _ hF hval0 hW _ _ hsz0 hL _
  have hsz : (DataW.weightsEach Tryf.prog (Tryf.f4.params.toList ++ (OpenSpec.ofChange Rows.fnDecodeHexRoundTripSpec).bare.plain.varTypes Tryf.prog) (ds ++ gs)).all (· ≤ reachBytes) = true := hsz0
  clear hsz0
  have hval : ∀ (j : Nat) t v, Tryf.f4.params[j]? = some t → args[j]? = some v → Value.okWide Tryf.prog W .any base t v := hval0
  have hW' := hW
  obtain ⟨p, q, hA0, hV, rfl, hfz, hnd⟩ := hW
  have hA : DataW.TrodAll enc Tryf.prog W 0 (fun _ => true) true Tryf.f4.params.toList args.toList ds p := hA0
  rw [Tryf.params4] at hA hval hsz
  obtain ⟨v0, v1, d0, d1, p0, p1, hargs, rfl, rfl, h0, h1⟩ := trodAll_two hA
  obtain rfl : args = #[v0, v1] := by cases args; simp_all
  obtain ⟨rfl, rfl⟩ := trodVars_none hV
  obtain ⟨a1, s1, hv1, hc1, hs1, hz1⟩ := laid_sentinel hL gE gEType Tryf.underlying26 row59 Tryf.underlying59 Tryf.underlying61 rfl rfl Tryf.underlying9 cells61 cells9
  have hg1 : W.cell? ⟨0, 0, none⟩ = some (.iface 59 (.pointer (some a1))) := by simpa using World.var?_cell gE hv1 0
  have h0k := h0
  have h1k := h1
  obtain ⟨a0, len, cap, rfl⟩ := okWide_slice Tryf.underlying22 (hval 0 22 v0 rfl rfl)
  obtain ⟨b0, lenb, capb, rfl⟩ := okWide_slice Tryf.underlying30 (hval 1 30 v1 rfl rfl)
  obtain ⟨fuel0, hf0⟩ := h0
  obtain ⟨fuel1, hf1⟩ := h1
  clear hA0 hval0
  simp only [List.append_nil] at hW'
  have hlt : ∀ x ∈ p0 ++ p1, x.block < W.heap.size := fun x hx => by simpa using hW'.lt x (by simpa using hx)
  obtain ⟨g, hr0, hg, hlen⟩ := byteRow_read hf0
  obtain ⟨u, hu0, hlenb⟩ := boolRow_read hf1
  have hl0 : len ≤ 140737488355328 := by
    rcases hlen with rfl | ⟨es, sp, hd, hle⟩
    · omega
    · have := sized_slice hsz (j := 0) (t := 22) (e := 5) rfl (by rw [hd]; rfl) Tryf.underlying22
      rw [bytes5] at this
      have := reachBytes_lt
      omega
  have hl1 : lenb ≤ 140737488355328 := by
    rcases hlenb with rfl | ⟨es, sp, hd, hle⟩
    · omega
    · have := sized_slice hsz (j := 1) (t := 30) (e := 4) rfl (by rw [hd]; rfl) Tryf.underlying30
      rw [bytes4] at this
      have := reachBytes_lt
      omega
  refine (lawR F.told a0 len cap g b0 lenb capb u _ W hF hr0 hu0 hg hl0 hl1 hg1).mono fun e W' hend => ?_
  obtain ⟨he, hB⟩ := hend
  subst he
  refine ⟨_, rfl, _, _, _, [], p0 ++ p1, [], hW', ?_, ?_, rfl, hB.frame _, fun h => by cases h⟩
  · exact trodAll_mk1 (shut_bool Tryf.underlying4 true)
  · exact trodAll_mk2 (Below.trod laidOut (by kernel_rfl) (of_decide_eq_true (by kernel_rfl)) h0k hB (fun x hx => hlt x (by simp [hx]))) (Below.trod laidOut (by kernel_rfl) (of_decide_eq_true (by kernel_rfl)) h1k hB (fun x hx => hlt x (by simp [hx])))

theorem decodeHexRoundTrip_holds : Rows.FnDecodeHexRoundTripToldSaid :=
  Claim7.holds_of_told_tied_any_at .later 4 Tryf.f4 "fmt.errorf, its operands' methods called" ["fmt.Sprintf"] [] _ _ _ [.sentinel] true (by kernel_rfl) rfl rfl rfl laidOut (by kernel_rfl) rfl ⟨rfl, rfl, rfl, rfl, rfl, rfl, rfl⟩ rfl rfl (by kernel_rfl) (by kernel_rfl) Tryf.func4 (by kernel_rfl)
    (of_decide_eq_true (by kernel_rfl)) (by unfold Func.isWrapper; first | (rw [if_pos (by decide +kernel)]; kernel_rfl) | (rw [if_neg (by decide +kernel)]; exact ⟨rfl, rfl⟩)) stops.symm rfl stopKnobs.symm (by kernel_rfl)
    (by kernel_rfl) (by kernel_rfl) (by kernel_rfl) (by kernel_rfl) (by kernel_rfl) (by kernel_rfl) (by kernel_rfl) (by kernel_rfl) (by kernel_rfl) rfl (by kernel_rfl) rfl rfl
    rfl rfl
    rfl (by kernel_rfl) (by kernel_rfl) (by kernel_rfl) (by decide) (by kernel_rfl) fnDecodeHexRoundTrip_row_tie
    (OpenClaim.moreEntering_of (by kernel_rfl) (by kernel_rfl) (by kernel_rfl) (by kernel_rfl) (by kernel_rfl) (by kernel_rfl) (by kernel_rfl) (by kernel_rfl) (by kernel_rfl) (by kernel_rfl))
    ⟨_, WideRow.started_initial, quiet _⟩
    (fun os started _ H enc _ => liftedR os started H enc)

end Go.Proofs.Qxb6604560aFmt
