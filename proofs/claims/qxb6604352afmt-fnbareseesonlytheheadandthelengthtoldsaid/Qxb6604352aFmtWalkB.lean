import Derived.Test.Qxb6604352aFmtWalkA
import Derived.Stop.Texts
import Derived.Stop.JoinedTold
import Derived.Stop.FmtTextKit
namespace Go.Proofs.Qxb6604352aFmt
open Go.RowKit Go.Kit Go.Extern.Stop Go.Stop Go.Extern

theorem t_parse : (FmtText.parse [46, 46, 46, 32, 40, 37, 100, 32, 98, 121, 116, 101, 115, 41]).map FmtText.glue = some [.lit [46, 46, 46, 32, 40], .verb {} 100, .lit [32, 98, 121, 116, 101, 115, 41]] := by rfl
def sufL (n : Int) : List UInt8 := [46, 46, 46, 32, 40] ++ (Lib.itoa n ++ [32, 98, 121, 116, 101, 115, 41])
theorem t_text (n : Int) (hw : (Lit.int .i64 n).wf = true) : FmtText.text "fmt.Sprintf" (reading n) = some (sufL n) := by
  have hi := FmtText.operand_int_at (sh := shape3) (k := .i64) rfl rfl n hw
  rw [reading, FmtText.text_sprintf_glued t_parse (FmtText.operands_cons hi FmtText.operands_nil)]
  simp [FmtText.render, FmtText.printArg_d _ _ hw, sufL]

/-- The words that stand for the rest of a text of n bytes. -/
def sufB (n : Int) : ByteArray := ⟨(sufL n).toArray⟩
theorem sufB_size (n : Int) (h0 : 0 ≤ n) (h1 : n ≤ 1048576) : (sufB n).size ≤ 33 := by
  have hl := Lib.itoa_length_le n (by omega) (by omega)
  simp [sufB, sufL, ByteArray.size]; omega
theorem suf_told (F : Interp) (n : Int) (h0 : 0 ≤ n) (h1 : n ≤ 1048576) : FmtStop.textOf (F.told "fmt.Sprintf" (reading n) 0) = sufB n := by
  have hw : (Lit.int .i64 n).wf = true := by simp [Lit.wf, IntKind.min, IntKind.max, IntKind.signed, IntKind.bits]; omega
  have hl := FmtText.itoa_length_le hw
  have ht := told_string F (t_text n hw) (by simp [sufL]; omega)
  have := textOf_list F.told "fmt.Sprintf" (reading n)
  rw [ht] at this
  rw [sufB, ← this]

set_option maxHeartbeats 400000 in
theorem bare_short (s : ByteArray) (w : World) (h : (s.size : Int) ≤ 100) :
    Calls Tryf.prog 6 #[.string s] w fun e w' => e = .returned (.string s) ∧ w' = w := by
  have hz : s ++ ⟨#[]⟩ = s := by apply ByteArray.ext; simp
  go_enter Tryf.func6, Tryf.ntmps6
  go_wp2_with (go_at_call 10; refine (cut_short _ _ h).mono ?_; rintro e w' ⟨rfl, rfl⟩)
  go_ret
  exact ⟨rfl, rfl⟩

def BareLeft (s : ByteArray) (w : World) (e : Ending) (w' : World) : Prop :=
  ∃ n : Nat, 97 ≤ n ∧ n ≤ 100 ∧ HeadAt s n ∧ e = .returned (.string (s.extract 0 n ++ sufB s.size)) ∧ Below w.heap.size w w'

theorem cut_told (F : Interp) (s : ByteArray) (w : World) (hF : F.told.answers w.tape) (h : 100 < (s.size : Int)) (h2 : (s.size : Int) ≤ 1048576) :
    Calls Tryf.prog 10 #[.string s] w fun e w' => ∃ n : Nat, 97 ≤ n ∧ n ≤ 100 ∧ HeadAt s n ∧ e = .returned (.tuple #[.string (s.extract 0 n), .string (sufB s.size)]) ∧ Below w.heap.size w w' := by
  refine (cut_long F.told s w hF h h2).mono ?_
  rintro e w' ⟨n, h3, h4, hh, rfl, hB⟩
  exact ⟨n, h3, h4, hh, by rw [suf_told F _ (by omega) h2], hB⟩

set_option maxHeartbeats 400000 in
theorem bare_long (F : Interp) (s : ByteArray) (w : World) (hF : F.told.answers w.tape) (h : 100 < (s.size : Int)) (h2 : (s.size : Int) ≤ 1048576) :
    Calls Tryf.prog 6 #[.string s] w (BareLeft s w) := by
  have hz := sufB_size s.size (by omega) h2
  go_enter Tryf.func6, Tryf.ntmps6
  go_wp2_with fail
  refine (cut_told F s _ hF h h2).mono ?_
  rintro e w' ⟨n, h3, h4, hh, rfl, hB⟩
  have hz2 : (s.extract 0 n).size ≤ 100 := by simp; omega
  go_wp2
  go_ret
  exact ⟨n, h3, h4, hh, rfl, hB⟩

theorem nDigits_le : ∀ (k u : Nat), u < 10 ^ (k + 1) → Lib.nDigits u ≤ k + 1
  | 0, u, h => by rw [Lib.nDigits_small (by simpa using h)]; omega
  | k + 1, u, h => by
    by_cases h1 : u < 10
    · rw [Lib.nDigits_small h1]; omega
    · rw [Lib.nDigits_big h1]
      have := nDigits_le k (u / 10) (by rw [Nat.pow_succ] at h; omega)
      omega
theorem dec_step (m N : Nat) (L : List UInt8) (h0 : 0 < m) (h : Lib.decDigits m ++ L = Lib.decDigits N) :
    (0 < m / 10 → Lib.decDigits (m / 10) ++ (UInt8.ofNat (48 + m % 10) :: L) = Lib.decDigits N) ∧ (m / 10 = 0 → UInt8.ofNat (48 + m % 10) :: L = Lib.decDigits N) := by
  by_cases hm : m < 10
  · have e : m / 10 = 0 := by omega
    have e2 : m % 10 = m := by omega
    rw [Lib.decDigits, dif_pos hm] at h
    rw [e, e2]
    exact ⟨fun h => by omega, fun _ => by simpa using h⟩
  · rw [Lib.decDigits, dif_neg hm] at h
    exact ⟨fun _ => by simpa using h, fun h => by omega⟩
theorem drop_set (zs : List Int) (k : Nat) (v : Int) (h : 0 < k) (h2 : k ≤ zs.length) : (zs.set (k - 1) v).drop (k - 1) = v :: zs.drop k := by
  rw [List.drop_eq_getElem_cons (by simp; omega)]
  simp
  rw [show k - 1 + 1 = k by omega, List.drop_set_of_lt (by omega)]

theorem alen29 : Tryf.prog.arrayLen 29 = 20 := by kernel_rfl
theorem size29 (w : World) : (sizeOf (Tryf.prog.elem 29)).run Tryf.prog w = .ok 1 w := by kernel_rfl
theorem slice20 (b k : Nat) (hk : k < 20) (w : World) : (Instr.sliceAt 29 (.pointer (some ⟨b, 0, none⟩)) (some (.int .i64 (k : Int))) none none).run Tryf.prog w = .ok (.slice (some ⟨b, k, none⟩) (20 - k) (20 - k)) w := by
  rw [run_sliceAt_array_l w 29 ⟨b, 0, none⟩ (by kernel_rfl) .i64 (k : Int) (by omega) (by rw [alen29]; omega), size29, alen29]
  simp [slicedAt, Result.andThen, Addr.add, show ¬ 20 = k by omega]
  omega
theorem conv20 (w : World) (zs : List Int) (k : Nat) (L : List UInt8) (hd : zs.drop k = L.map fun b => (b.toNat : Int)) (hl : k + L.length = 20) (cap : Nat) :
    (convert 26 9 (.slice (some ⟨w.heap.size, k, none⟩) (20 - k) cap)).run Tryf.prog (w.alloc (.cells (zs.map (Value.int .u8)).toArray 29)) = .ok (.string ⟨L.toArray⟩) (w.alloc (.cells (zs.map (Value.int .u8)).toArray 29)) := by
  have e : 20 - k = L.length := by omega
  rw [e]
  refine run_convert_bytes_back _ 26 9 5 _ cap L Tryf.underlying26 Tryf.underlying5 Tryf.underlying9 fun j hj => ?_
  have h1 : (zs.drop k)[j]? = some (L[j].toNat : Int) := by rw [hd]; simp [hj]
  rw [List.getElem?_drop] at h1
  have ea : (⟨w.heap.size, k, none⟩ : Addr).add j = ⟨w.heap.size, k + j, none⟩ := by unfold Addr.add; split <;> simp_all
  rw [ea]
  simp [h1]

set_option maxHeartbeats 400000 in
theorem dec_any (n : Int) (w : World) (h : 0 < n) (h2 : n ≤ 1048576) :
    Calls Tryf.prog 7 #[.int .i64 n] w fun e w' => e = .returned (.string ⟨(Lib.itoa n).toArray⟩) ∧ Below w.heap.size w w' := by
  go_enter Tryf.func7, Tryf.ntmps7
  go_wp2
  go_loopw [0, 4] (fun a b w' => ∃ (m k : Nat) (zs : List Int) (L : List UInt8), k ≤ 20 ∧ m ≤ n ∧ zs.length = 20 ∧ a = .int .i64 m ∧ b = .int .i64 k ∧ w' = w.alloc (.cells (zs.map (Value.int .u8)).toArray 29) ∧
      Hid ((0 < m → Lib.decDigits m ++ L = Lib.decDigits n.toNat) ∧ (m = 0 → L = Lib.decDigits n.toNat)) ∧ Hid (zs.drop k = L.map fun b => (b.toNat : Int)) ∧ Hid (k + L.length = 20)) (fun a _ _ => (intOf a).toNat)
  case atStart => exact ⟨n.toNat, 20, List.replicate 20 0, [], by omega, by omega, rfl, by go_num, rfl, rfl, ⟨by simp, by omega⟩, rfl, rfl⟩
  case round =>
    obtain ⟨m, k, zs, L, hk, hm, hz, rfl, rfl, rfl, HL, HD, HK⟩ := hrel
    by_cases hm0 : 0 < (m : Int)
    · have hk0 : 1 < (k : Int) := by
        have h3 := congrArg List.length (HL.out.1 (by omega))
        have h4 := HK.out
        rw [List.length_append, Lib.decDigits_length, Lib.decDigits_length] at h3
        have h5 := nDigits_le 6 n.toNat (by omega)
        omega
      obtain ⟨v, hv⟩ : ∃ v, zs[k - 1]? = some v := ⟨zs[k - 1]'(by omega), by simp⟩
      go_wp2
      go_roundw
      case rel =>
        have hst := dec_step m n.toNat L (by omega) (HL.out.1 (by omega))
        have hkl := HK.out
        refine ⟨m / 10, k - 1, zs.set (k - 1) (48 + m % 10), UInt8.ofNat (48 + m % 10) :: L, by omega, by omega, by simp [hz], by go_num, by go_num, by simp, hst, ?_, ?_⟩
        · show _ = _
          rw [drop_set zs k _ (by omega) (by omega), HD.out]
          simp
          omega
        · show _ = _
          simp; omega
      case measure => simp [intOf]; omega
    · have hm1 : m = 0 := by omega
      have hL := HL.out.2 hm1
      have hk1 : k < 20 := by
        have h3 := congrArg List.length hL
        have h4 := HK.out
        rw [Lib.decDigits_length] at h3
        have h5 : 0 < Lib.nDigits n.toNat := by
          by_cases h1 : n.toNat < 10
          · rw [Lib.nDigits_small h1]; omega
          · rw [Lib.nDigits_big h1]; omega
        omega
      have hsl := slice20 w.heap.size k hk1
      have hcv := conv20 w zs k L HD.out HK.out (20 - k)
      have HR : Hid (L = Lib.itoa n) := by
        show _ = _
        rw [hL, Lib.itoa, if_neg (by omega)]
      clear hm1 hL
      go_wp2
      go_ret
      have hR := HR.out
      subst hR
      exact ⟨rfl, (Below.refl _ _).alloc (Nat.le_refl _) _⟩
end Go.Proofs.Qxb6604352aFmt
