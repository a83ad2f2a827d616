/-
  'FnDecodeHexExact': the told and tied card.
-/
import Derived.Test.Qxb6604560aFmtCards
import Derived.Test.Qxb6604560aFmtTie
import Derived.Test.Qxb6604560aFmtWalkE
import Derived.ProofKit
import Derived.Stop.JoinedAt
import Derived.Stop.Texts
import Derived.Stop.ErrReads
import Derived.Stop.LaidErr
import Derived.Stop.JoinedTold
import Derived.SizedLaws
import Derived.OpenShut
import Derived.SevenToldRow
import Derived.SevenTiedAt
namespace Go.Proofs.Qxb6604560aFmt
open Go.ChangeShapes Go.WideShapes Go.ChangeAt Go.RowKit Go.Kit
open Go.ChangeMaps (open_string shut_string)
open Go.Extern.Stop Go.Stop Go.Extern

theorem own : ownKnob Tryf.prog.godebug = none := by kernel_rfl
theorem laidOut : laidOutB Tryf.prog = true := by kernel_rfl
theorem stops : Tryf.pinned.checked.prog.stops = ["fmt.errorf, its operands' methods called", "fmt.Sprintf"] := by kernel_rfl
theorem stopKnobs : Tryf.pinned.checked.prog.stopKnobs = [] := by kernel_rfl
theorem quiet (os : Os) : Stop.quiet Tryf.pinned.checked.prog os := by
  intro k hk
  rw [stopKnobs] at hk
  cases hk
theorem gE : Tryf.prog.globalNamed "encoding/hex.ErrLength" = some 0 := by kernel_rfl
theorem gEType : (Tryf.prog.globals[0]?).map (·.type) = some 26 := by kernel_rfl
theorem cells61 : Tryf.prog.cellsOf 61 = 1 := by kernel_rfl
theorem cells9 : Tryf.prog.cellsOf 9 = 1 := by kernel_rfl
theorem cells5 : Tryf.prog.cellsOf 5 = 1 := by kernel_rfl
theorem bytes5 : Tryf.prog.bytesOf 5 = 1 := by kernel_rfl
theorem star : "*" ++ "errors.errorString" = "*errors.errorString" := by decide
theorem row59 (u : TypeId) (h : Tryf.prog.typeName? 3 u = some "*errors.errorString") : u = 59 :=
  typeName_ptr_named (nm := "errors.errorString") (by rw [star]; kernel_rfl) (by kernel_rfl) (by decide) u (by rw [star]; exact h)
abbrev lenS : ByteArray := { data := #[101, 110, 99, 111, 100, 105, 110, 103, 47, 104, 101, 120, 58, 32, 111, 100, 100, 32, 108, 101, 110, 103, 116, 104, 32, 104, 101, 120, 32, 115, 116, 114, 105, 110, 103] }
noncomputable def low : Nat := (World.holding Tryf.prog default ⟨#[], #[], []⟩).heap.size
noncomputable def laidWorld (os : Os) (g : Nat) (s : ByteArray) : World :=
  let w0 := World.holding Tryf.prog os ⟨#[.cells #[.string s] 61], #[], []⟩
  { w0 with heap := w0.heap.modify g fun
      | .cells _ t frozen => .cells #[.iface 59 (.pointer (some ⟨low, 0, none⟩))] t frozen
      | o => o }
theorem laidE_met (os : Os) (args : Array Value) : laidMet Tryf.prog Rows.fnDecodeHexExactRow.laid ((laidWorld os 0 lenS).forCall (fun _ _ => 0) ⟨#[], args, []⟩).memory :=
  laidMet_of_run (ps := [.cell 0 0, .cell low 0]) 8 (by kernel_rfl) (by kernel_rfl) (by kernel_rfl)

theorem byteRow_read {H : Type} {enc : TypeId × Value → H} {W : World} {base : Nat} {spare : Nat → Bool} {held : Bool} {fuel : Nat} {a : Option Addr} {l c : Nat} {d : DataW H} {p : List MemPlace} (h : DataW.trod enc Tryf.prog W base spare held fuel 22 [.slice a l c] = some (d, p)) :
    ∃ g, ByteRow W a l g ∧ (∀ i, 0 ≤ g i ∧ g i ≤ 255) ∧ (l = 0 ∨ ∃ es sp, d = .slice es sp ∧ l ≤ es.length + sp.length) := by
  rcases open_ints Tryf.underlying22 Tryf.underlying5 cells5 h with ⟨hcs, _⟩ | ⟨b, len, cap, zs, hcs, _, hl, _, hz, hx, hcell, hws⟩
  · simp at hcs
    exact ⟨fun _ => 0, fun h => by omega, fun _ => ⟨Int.le_refl 0, show (0 : Int) ≤ 255 by decide⟩, Or.inl hcs.2.1⟩
  · simp at hcs
    obtain ⟨rfl, rfl, rfl⟩ := hcs
    have hss : l ≤ zs.length := by rw [hz]; split <;> omega
    refine ⟨fun i => zs.getD i 0, fun h0 => ?_, fun i => ?_, Or.inr ⟨_, _, congrArg Prod.fst hx, ?_⟩⟩
    · obtain ⟨b2, off, rfl, hc⟩ := ints_at hcell (by omega)
      exact ⟨b2, off, rfl, fun i hi => hc i (by omega)⟩
    · rcases Nat.lt_or_ge i zs.length with hi | hi
      · have := hws (zs.getD i 0) (by rw [List.getD_eq_getElem?_getD, List.getElem?_eq_getElem hi]; exact List.getElem_mem _)
        simp only [Lit.wf] at this
        simp [IntKind.min, IntKind.max, IntKind.signed, IntKind.bits] at this
        simpa using this
      · simp [List.getD_eq_getElem?_getD, List.getElem?_eq_none hi]
    · simp [lits]; omega

set_option maxRecDepth 100000 in
theorem liftedX (os : Os) (started : os.Started) (H : Type) (enc : TypeId × Value → H) :
    ReturnsInTold none {} Tryf.checked os 3 .any Input.okWide ((OpenSpec.ofChange Rows.fnDecodeHexExactSpec).preRow enc Tryf.prog Tryf.f3 [] false Rows.fnDecodeHexExactRow.laid) (fun F => ((OpenSpec.ofChange Rows.fnDecodeHexExactSpec).at F).post enc Tryf.prog Tryf.f3 false true false false) (aloneAtReturn Tryf.prog) nothingAlways := by
  refine returnsInTold_of_row (C := Tryf.checked) (s := OpenSpec.ofChange Rows.fnDecodeHexExactSpec) (by kernel_rfl) own started (by kernel_rfl) Tryf.func3
    (OpenSpec.witness_stopped_at (enc := enc) (C := Tryf.checked) false (laidWorld os 0 lenS) #[.slice none 0 0, .string ⟨#[]⟩, .string ⟨#[]⟩] rfl (by kernel_rfl) (by kernel_rfl) (by kernel_rfl)
      (OpenSpec.preRow_of_B rfl 8 (by kernel_rfl) (by kernel_rfl) (laidE_met os _))) ?_
  intro F W base args ds gs before _ hF hval0 hW _ _ hsz0 hL _
  have hsz : (DataW.weightsEach Tryf.prog (Tryf.f3.params.toList ++ (OpenSpec.ofChange Rows.fnDecodeHexExactSpec).bare.plain.varTypes Tryf.prog) (ds ++ gs)).all (· ≤ reachBytes) = true := hsz0
  clear hsz0
  have hval : ∀ (j : Nat) t v, Tryf.f3.params[j]? = some t → args[j]? = some v → Value.okWide Tryf.prog W .any base t v := hval0
  have hW' := hW
  obtain ⟨p, q, hA0, hV, rfl, hfz, hnd⟩ := hW
  have hA : DataW.TrodAll enc Tryf.prog W 0 (fun _ => true) true Tryf.f3.params.toList args.toList ds p := hA0
  rw [Tryf.params3] at hA hval hsz
  obtain ⟨v0, v1, v2, d0, d1, d2, p0, p1, p2, hargs, rfl, rfl, h0, h1, h2⟩ := trodAll_three hA
  obtain rfl : args = #[v0, v1, v2] := by cases args; simp_all
  obtain ⟨rfl, rfl⟩ := trodVars_none hV
  obtain ⟨s, rfl, rfl, rfl, hs⟩ := open_string Tryf.underlying9 (hval 1 9 v1 rfl rfl) h1
  obtain ⟨what, rfl, rfl, rfl, hwh⟩ := open_string Tryf.underlying9 (hval 2 9 v2 rfl rfl) h2
  obtain ⟨a1, s1, hv1, hc1, hs1, hz1⟩ := laid_sentinel hL gE gEType Tryf.underlying26 row59 Tryf.underlying59 Tryf.underlying61 rfl rfl Tryf.underlying9 cells61 cells9
  have hg1 : W.cell? ⟨0, 0, none⟩ = some (.iface 59 (.pointer (some a1))) := by simpa using World.var?_cell gE hv1 0
  have h0k := h0
  obtain ⟨a0, len, cap, rfl⟩ := okWide_slice Tryf.underlying22 (hval 0 22 v0 rfl rfl)
  obtain ⟨fuel0, hf0⟩ := h0
  clear hA0 hval0
  simp only [List.append_nil] at hW'
  have hlt : ∀ x ∈ p0, x.block < W.heap.size := fun x hx => by simpa using hW'.lt x (by simpa using hx)
  obtain ⟨g, hr0, _, hlen⟩ := byteRow_read hf0
  have hl0 : len ≤ 140737488355328 := by
    rcases hlen with rfl | ⟨es, sp, hd, hle⟩
    · omega
    · have := sized_slice hsz (j := 0) (t := 22) (e := 5) rfl (by rw [hd]; rfl) Tryf.underlying22
      rw [bytes5] at this
      have := reachBytes_lt
      omega
  have hss : s.size ≤ 140737488355328 := by
    have := sized_string hsz (j := 1) (t := 9) rfl rfl
    have h2 := reachBytes_lt
    simp at this
    omega
  have hsw : what.size ≤ 140737488355328 := by
    have := sized_string hsz (j := 2) (t := 9) rfl rfl
    have h2 := reachBytes_lt
    simp at this
    omega
  refine (lawX F.told a0 len cap g s what _ W hF hr0 hl0 hss hsw hg1).mono fun e W' hend => ?_
  obtain ⟨he, hB⟩ := hend
  subst he
  refine ⟨_, rfl, _, _, _, [], p0 ++ [], [], hW', ?_, ?_, rfl, hB.frame _, fun h => by cases h⟩
  · exact trodAll_mk1 (shut_bool Tryf.underlying4 true)
  · exact trodAll_mk3 (Below.trod laidOut (by kernel_rfl) (of_decide_eq_true (by kernel_rfl)) h0k hB hlt) (shut_string Tryf.underlying9 hs) (shut_string Tryf.underlying9 hwh)

theorem decodeHexExact_holds : Rows.FnDecodeHexExactToldSaid :=
  Claim7.holds_of_told_tied_any_at .later 3 Tryf.f3 "fmt.errorf, its operands' methods called" ["fmt.Sprintf"] [] _ _ _ [.sentinel] true (by kernel_rfl) rfl rfl rfl laidOut (by kernel_rfl) rfl ⟨rfl, rfl, rfl, rfl, rfl, rfl, rfl⟩ rfl rfl (by kernel_rfl) (by kernel_rfl) Tryf.func3 (by kernel_rfl)
    (of_decide_eq_true (by kernel_rfl)) (by unfold Func.isWrapper; first | (rw [if_pos (by decide +kernel)]; kernel_rfl) | (rw [if_neg (by decide +kernel)]; exact ⟨rfl, rfl⟩)) stops.symm rfl stopKnobs.symm (by kernel_rfl)
    (by kernel_rfl) (by kernel_rfl) (by kernel_rfl) (by kernel_rfl) (by kernel_rfl) (by kernel_rfl) (by kernel_rfl) (by kernel_rfl) (by kernel_rfl) rfl (by kernel_rfl) rfl rfl
    rfl rfl
    rfl (by kernel_rfl) (by kernel_rfl) (by kernel_rfl) (by decide) (by kernel_rfl) fnDecodeHexExact_row_tie
    (OpenClaim.moreEntering_of (by kernel_rfl) (by kernel_rfl) (by kernel_rfl) (by kernel_rfl) (by kernel_rfl) (by kernel_rfl) (by kernel_rfl) (by kernel_rfl) (by kernel_rfl) (by kernel_rfl))
    ⟨_, WideRow.started_initial, quiet _⟩
    (fun os started _ H enc _ => liftedX os started H enc)

end Go.Proofs.Qxb6604560aFmt
