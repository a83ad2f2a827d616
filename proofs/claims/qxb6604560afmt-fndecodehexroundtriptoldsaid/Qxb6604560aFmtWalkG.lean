/-
  The law 'FnDecodeHexRoundTrip': digits.
-/
import Derived.Test.Qxb6604560aFmtWalkF
import Derived.Laws.BytesArg
import Derived.Laws.BitsLemmas
namespace Go.Proofs.Qxb6604560aFmt
open Go.RowKit Go.Extern.Stop Go.Stop Go.Extern

/-- The digit of value x, in upper case where t. -/
def dg (t : Bool) (x : Int) : Int := if x < 10 then 48 + x else if t then 55 + x else 87 + x
theorem hv_dg (t : Bool) (x : Int) (h0 : 0 ≤ x) (h1 : x < 16) : hv (dg t x) = x := by
  unfold dg hv
  by_cases h : x < 10
  · rw [if_pos h, if_pos (by omega)]; omega
  · rw [if_neg h]
    cases t
    · rw [if_neg Bool.false_ne_true, if_neg (by omega), if_pos (by omega)]; omega
    · rw [if_pos rfl, if_neg (by omega), if_neg (by omega), if_pos (by omega)]; omega
theorem dg_bounds (t : Bool) (x : Int) (h0 : 0 ≤ x) (h1 : x < 16) : 0 ≤ dg t x ∧ dg t x ≤ 255 := by
  unfold dg
  split
  · omega
  · split <;> omega

def up (m : Nat) (u : Nat → Bool) (j : Nat) : Bool := decide (j < m) && u j
/-- The text's byte j. -/
def txt (g : Nat → Int) (m : Nat) (u : Nat → Bool) (j : Nat) : Int := dg (up m u j) (if j % 2 = 0 then g (j / 2) / 16 else g (j / 2) % 16)
theorem txt_even (g : Nat → Int) (m : Nat) (u : Nat → Bool) (k : Nat) : txt g m u (2 * k) = dg (up m u (2 * k)) (g k / 16) := by
  unfold txt
  rw [if_pos (by omega), show 2 * k / 2 = k by omega]
theorem txt_odd (g : Nat → Int) (m : Nat) (u : Nat → Bool) (k : Nat) : txt g m u (2 * k + 1) = dg (up m u (2 * k + 1)) (g k % 16) := by
  unfold txt
  rw [if_neg (by omega), show (2 * k + 1) / 2 = k by omega]
theorem txt_bounds (g : Nat → Int) (m : Nat) (u : Nat → Bool) (hg : ∀ i, 0 ≤ g i ∧ g i ≤ 255) (j : Nat) : 0 ≤ txt g m u j ∧ txt g m u j ≤ 255 := by
  have := hg (j / 2)
  unfold txt
  split
  · exact dg_bounds _ _ (by omega) (by omega)
  · exact dg_bounds _ _ (by omega) (by omega)

def strT (X : Nat → Int) (k : Nat) : ByteArray := strOfNums ((List.range k).map X)
theorem strT_size (X : Nat → Int) (k : Nat) : (strT X k).size = k := by
  unfold strT strOfNums
  simp [ByteArray.size]
theorem strT_at (X : Nat → Int) (k j : Nat) (hj : j < k) (h : 0 ≤ X j ∧ X j ≤ 255) : bytesFn (strT X k).data.toList j = X j := by
  unfold strT strOfNums bytesFn
  simp only [List.getD_eq_getElem?_getD, List.map_map, List.getElem?_map, List.getElem?_range hj, Option.map_some, Option.getD_some, Function.comp_apply]
  rw [UInt8.toNat_ofNat', Nat.mod_eq_of_lt (by omega)]
  omega
/-- 'string(b)' over a row. -/
theorem conv_back (X : Nat → Int) (k B cap : Nat) (w : World) (hc : ∀ i, i < k → w.cell? ⟨B, i, none⟩ = some (.int .u8 (X i))) :
    (convert 22 9 (.slice (some ⟨B, 0, none⟩) k cap)).run Tryf.prog w = .ok (.string (strT X k)) w :=
  run_convert_bytes_arg (P := Tryf.prog) w 22 5 Tryf.underlying22 Tryf.underlying5 B 0 k cap ((List.range k).map X) (by simp) (fun i hi => by
    rw [Nat.zero_add, hc i hi, List.getD_eq_getElem?_getD, List.getElem?_map, List.getElem?_range hi]
    rfl) 9 Tryf.underlying9
theorem strT_all (g : Nat → Int) (m : Nat) (u : Nat → Bool) (n k : Nat) (hg : ∀ i, 0 ≤ g i ∧ g i ≤ 255) (h : FirstBad (bytesFn (strT (txt g m u) (2 * n)).data.toList) n k) : k = n ∧ ∀ i, i < n → hv (bytesFn (strT (txt g m u) (2 * n)).data.toList (2 * i)) * 16 + hv (bytesFn (strT (txt g m u) (2 * n)).data.toList (2 * i + 1)) = g i := by
  have ha : ∀ i, i < n → hv (bytesFn (strT (txt g m u) (2 * n)).data.toList (2 * i)) = g i / 16 := fun i hi => by
    rw [strT_at _ _ _ (by omega) (txt_bounds g m u hg _), txt_even]
    exact hv_dg _ _ (by have := hg i; omega) (by have := hg i; omega)
  have hb : ∀ i, i < n → hv (bytesFn (strT (txt g m u) (2 * n)).data.toList (2 * i + 1)) = g i % 16 := fun i hi => by
    rw [strT_at _ _ _ (by omega) (txt_bounds g m u hg _), txt_odd]
    exact hv_dg _ _ (by have := hg i; omega) (by have := hg i; omega)
  refine ⟨h.unique ⟨Nat.le_refl _, fun i hi => ?_, fun h => by omega⟩, fun i hi => ?_⟩
  · rw [ha i hi, hb i hi]
    have := hg i
    omega
  · rw [ha i hi, hb i hi]
    omega
theorem strT_all2 (g : Nat → Int) (m : Nat) (u : Nat → Bool) (n N k : Nat) (hN : N = 2 * n) (hg : ∀ i, 0 ≤ g i ∧ g i ≤ 255) (h : FirstBad (bytesFn (strT (txt g m u) N).data.toList) n k) : k = n ∧ ∀ i, i < n → hv (bytesFn (strT (txt g m u) N).data.toList (2 * i)) * 16 + hv (bytesFn (strT (txt g m u) N).data.toList (2 * i + 1)) = g i := by
  subst hN
  exact strT_all g m u n k hg h
set_option maxRecDepth 100000 in
theorem xor_fin : ∀ p : Fin 256, bits BinOp.xor IntKind.u8 (if IntKind.u8.signed = true then -1 else IntKind.u8.max) (p.val : Int) = 255 - (p.val : Int) := by decide +kernel
theorem xor_u8 (x : Int) (h0 : 0 ≤ x) (h1 : x ≤ 255) : bits BinOp.xor IntKind.u8 (if IntKind.u8.signed = true then -1 else IntKind.u8.max) x = 255 - x := by
  have := xor_fin ⟨x.toNat, by omega⟩
  simp only [Int.toNat_of_nonneg h0] at this
  exact this

set_option maxHeartbeats 800000 in
theorem dec_len2 (F : Interp) (a : Option Addr) (n cap : Nat) (s what : ByteArray) (w : World) (hF : F.answers w.tape) (hn : n ≤ 1048576) (_hs : s.size ≤ 2097152) (hne : s.size ≠ 2 * n) :
    Calls Tryf.prog 20 #[.slice a n cap, .string s, .string what] w (AnErr w) := by
  have hneq : (((s.size : Nat) : Int) != 2 * (n : Int)) = true := by simp; omega
  clear hne
  go_enter Tryf.func20, Tryf.ntmps20
  go_wp2_with (go_at_call 23; refine (encLen n _ hn).mono ?_; rintro e w' ⟨rfl, rfl⟩)
  refine (errLen F what (s.size : Int) (2 * (n : Int)) _ _ (by exact hF) (by simp) (by simp) (by simp)).mono ?_
  rintro e w2 ⟨t, v, rfl, hb⟩
  go_wp2
  go_ret
  exact ⟨t, v, rfl, ((Below.refl _ _).alloc (Nat.le_refl _) _).trans (hb.mono (by simp))⟩
theorem zz_len2 (F : Interp) (a : Option Addr) (n cap : Nat) (s what : ByteArray) (w : World) (hF : F.answers w.tape) (hn : n ≤ 1048576) (hs : s.size ≤ 2097152) (hne : s.size ≠ 2 * n) :
    Calls Tryf.prog 9 #[.slice a n cap, .string s, .string what] w (AnErr w) :=
  zzDec _ _ _ _ w _ rfl ((dec_len2 F a n cap s what w hF hn hs hne).mono fun e w' h => ⟨by obtain ⟨t, v, he, _⟩ := h; exact ⟨_, he⟩, h⟩)
theorem dgU_fin : ∀ p : Fin 16, (((({ data := #[48, 49, 50, 51, 52, 53, 54, 55, 56, 57, 65, 66, 67, 68, 69, 70] } : ByteArray)[p.val]'p.isLt).toNat : Nat) : Int) = dg true (p.val : Int) := by decide
theorem dgL_fin : ∀ p : Fin 16, (((({ data := #[48, 49, 50, 51, 52, 53, 54, 55, 56, 57, 97, 98, 99, 100, 101, 102] } : ByteArray)[p.val]'p.isLt).toNat : Nat) : Int) = dg false (p.val : Int) := by decide
theorem dgU (x : Int) (h0 : 0 ≤ x) (h1 : x < 16) (pf : x.toNat < ({ data := #[48, 49, 50, 51, 52, 53, 54, 55, 56, 57, 65, 66, 67, 68, 69, 70] } : ByteArray).size) : (((({ data := #[48, 49, 50, 51, 52, 53, 54, 55, 56, 57, 65, 66, 67, 68, 69, 70] } : ByteArray)[x.toNat]'pf).toNat : Nat) : Int) = dg true x := by
  have := dgU_fin ⟨x.toNat, by omega⟩
  rw [show dg true x = dg true ((x.toNat : Nat) : Int) by rw [Int.toNat_of_nonneg h0]]
  exact this
theorem dgL (x : Int) (h0 : 0 ≤ x) (h1 : x < 16) (pf : x.toNat < ({ data := #[48, 49, 50, 51, 52, 53, 54, 55, 56, 57, 97, 98, 99, 100, 101, 102] } : ByteArray).size) : (((({ data := #[48, 49, 50, 51, 52, 53, 54, 55, 56, 57, 97, 98, 99, 100, 101, 102] } : ByteArray)[x.toNat]'pf).toNat : Nat) : Int) = dg false x := by
  have := dgL_fin ⟨x.toNat, by omega⟩
  rw [show dg false x = dg false ((x.toNat : Nat) : Int) by rw [Int.toNat_of_nonneg h0]]
  exact this

/-- Two digits more. -/
theorem row2 (g : Nat → Int) (m : Nat) (u : Nat → Bool) (B N k : Nat) (t1 t2 : Bool) (w : World) (e1 : up m u (2 * k) = t1) (e2 : up m u (2 * k + 1) = t2) (h : w.rowIs B 5 N (fun j => if j < 2 * k then .int .u8 (txt g m u j) else .int .u8 0)) :
    ((w.setCell ⟨B, 2 * k, none⟩ (.int .u8 (dg t1 (g k / 16)))).setCell ⟨B, 2 * k + 1, none⟩ (.int .u8 (dg t2 (g k % 16)))).rowIs B 5 N (fun j => if j < 2 * (k + 1) then .int .u8 (txt g m u j) else .int .u8 0) := by
  refine ((h.set (2 * k) _).set (2 * k + 1) _).congr (fun j hj => ?_)
  by_cases h1 : j = 2 * k + 1
  · subst h1
    rw [if_pos rfl, if_pos (by omega), txt_odd, e2]
  · by_cases h2 : j = 2 * k
    · subst h2
      rw [if_neg h1, if_pos rfl, if_pos (by omega), txt_even, e1]
    · by_cases h3 : j < 2 * k
      · rw [if_neg h1, if_neg h2, if_pos h3, if_pos (by omega)]
      · rw [if_neg h1, if_neg h2, if_neg h3, if_neg (by omega)]
end Go.Proofs.Qxb6604560aFmt
