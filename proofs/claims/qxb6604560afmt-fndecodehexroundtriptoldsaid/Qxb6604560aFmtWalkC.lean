/-
  decodeHex.
-/
import Derived.Test.Qxb6604560aFmtWalkB
import Derived.Test.Qxb6604560aFmtShelf
import Derived.Lib.ConvBytes
import Derived.Deep.OwnRows
namespace Go.Proofs.Qxb6604560aFmt
open Go.RowKit Go.Extern.Stop Go.Stop Go.Extern

set_option maxHeartbeats 400000 in
theorem encLen (n : Nat) (w : World) (h : n ≤ 1048576) : Calls Tryf.prog 23 #[.int .i64 n] w fun e w' => e = .returned (.int .i64 (2 * (n : Int))) ∧ w' = w := by
  go_enter Tryf.func23, Tryf.ntmps23
  go_wp2
  go_ret
  exact ⟨by rw [show 2 * (n : Int) = (n : Int) * 2 by omega]; rfl, rfl⟩

set_option maxHeartbeats 400000 in
theorem encLen0 (w : World) : Calls Tryf.prog 23 #[.int .i64 0] w fun e w' => e = .returned (.int .i64 0) ∧ w' = w := by
  go_enter Tryf.func23, Tryf.ntmps23
  go_wp2
  go_ret
  exact ⟨rfl, rfl⟩

/-- '[]byte(s)': a new block holds its bytes. -/
theorem convB (s : ByteArray) (w : World) : ∃ w1 cap, (convert 9 22 (.string s)).run Tryf.prog w = .ok (.slice (some ⟨w.heap.size, 0, none⟩) s.size cap) w1 ∧ Below w.heap.size w w1 ∧ w1.heap.size = w.heap.size + 1 ∧
    ∀ j, j < s.size → w1.cell? ⟨w.heap.size, j, none⟩ = some (.int .u8 ((Lib.Hx.numsOf s).getD j 0)) := by
  refine ⟨_, _, Lib.run_convert_string_bytes (P := Tryf.prog) w 9 22 5 s Tryf.underlying9 Tryf.underlying22 Tryf.underlying5, ⟨rfl, rfl, rfl, ?_, fun k hk => Lib.bytesWorld_at_old w 5 s k hk⟩, Lib.bytesWorld_size w 5 s, fun j hj => ?_⟩
  · rw [Lib.bytesWorld_size]; omega
  · rw [Lib.bytesWorld_cell w 5 s j hj, Lib.Hx.numsOf_getD]
    rfl

set_option maxHeartbeats 800000 in
/-- A text whose length is not twice dst's. -/
theorem dec_len (F : Interp) (a : Option Addr) (n cap : Nat) (s what : ByteArray) (w : World) (hF : F.answers w.tape) (hn : n ≤ 1048576) (_hs : s.size ≤ 1048576) (hne : s.size ≠ 2 * n) :
    Calls Tryf.prog 20 #[.slice a n cap, .string s, .string what] w (AnErr w) := by
  have hneq : (((s.size : Nat) : Int) != 2 * (n : Int)) = true := by simp; omega
  clear hne
  go_enter Tryf.func20, Tryf.ntmps20
  go_wp2_with (go_at_call 23; refine (encLen n _ hn).mono ?_; rintro e w' ⟨rfl, rfl⟩)
  refine (errLen F what (s.size : Int) (2 * (n : Int)) _ _ (by exact hF) (by simp) (by simp) (by simp)).mono ?_
  rintro e w2 ⟨t, v, rfl, hb⟩
  go_wp2
  go_ret
  exact ⟨t, v, rfl, ((Below.refl _ _).alloc (Nat.le_refl _) _).trans (hb.mono (by simp))⟩

set_option maxHeartbeats 400000 in
/-- Nothing to decode. -/
theorem dec25_none (a b : Option Addr) (ca cb : Nat) (w : World) : Calls Tryf.prog 25 #[.slice a 0 ca, .slice b 0 cb] w fun e w' => e = .returned (.tuple #[.int .i64 0, .nilIface]) ∧ w' = w := by
  go_enter Tryf.func25, Tryf.ntmps25
  go_wp2
  refine wp_loop_rounds 1 ?_
  rw [rounds_succ]
  go_wp2
  go_ret2
  exact ⟨rfl, rfl⟩

set_option maxHeartbeats 800000 in
theorem dec_none (a : Option Addr) (cap : Nat) (s what : ByteArray) (w : World) (hs : s.size = 0) :
    Calls Tryf.prog 20 #[.slice a 0 cap, .string s, .string what] w fun e w' => e = .returned .nilIface ∧ Below w.heap.size w w' := by
  obtain ⟨w1, cp, hrun, hb, _, _⟩ := convB s w
  go_enter Tryf.func20, Tryf.ntmps20
  go_wp2_with (first | (go_at_call 23; refine (encLen0 _).mono ?_; rintro e w' ⟨rfl, rfl⟩) | (go_at_call 25; refine (dec25_none _ _ _ _ _).mono ?_; rintro e w' ⟨rfl, rfl⟩))
  go_ret
  exact ⟨rfl, hb⟩

/-- What decodeHex leaves where the length fits. -/
def DecLeft (X : Nat → Int) (B n : Nat) (f : Nat → Value) (w : World) (e : Ending) (w' : World) : Prop :=
  ∃ k, FirstBad X n k ∧ ((k = n ∧ e = .returned .nilIface) ∨ (k < n ∧ ∃ t v, e = .returned (.iface t v))) ∧
    w'.rowIs B 5 n (fun i => if i < k then .int .u8 (hv (X (2 * i)) * 16 + hv (X (2 * i + 1))) else f i) ∧ w.grownBy w' (some B)

/-- What Decode leaves. -/
def Dec25Left (X : Nat → Int) (B n k : Nat) (f : Nat → Value) (w : World) (e : Ending) (w' : World) : Prop :=
  ∃ m : Int, ((k = n ∧ e = .returned (.tuple #[.int .i64 m, .nilIface])) ∨ (k < n ∧ ∃ c : Int, 0 ≤ c ∧ c ≤ 255 ∧ e = .returned (.tuple #[.int .i64 m, .iface 56 (.int .u8 c)]))) ∧
    w'.rowIs B 5 n (fun i => if i < k then .int .u8 (hv (X (2 * i)) * 16 + hv (X (2 * i + 1))) else f i) ∧ w.grownBy w' (some B)

theorem dec25_some (B n cap bs cp : Nat) (f : Nat → Value) (s : ByteArray) (ev : Value) (w : World) (hn : n ≤ 1048576) (hs : s.size = 2 * n) (hrow : w.rowIs B 5 n f) (hE : w.cell? ⟨0, 0, none⟩ = some ev) (hB0 : 0 ≠ B) (hne : B ≠ bs)
    (hcell : ∀ j, j < s.size → w.cell? ⟨bs, j, none⟩ = some (.int .u8 ((Lib.Hx.numsOf s).getD j 0))) :
    ∃ k, FirstBad (bytesFn s.data.toList) n k ∧ Calls Tryf.prog 25 #[.slice (some ⟨B, 0, none⟩) n cap, .slice (some ⟨bs, 0, none⟩) s.size cp] w (Dec25Left (bytesFn s.data.toList) B n k f w) := by
  have hdec := hexDecode 5 B 0 n cap n f bs 0 s.size cp (Lib.Hx.numsOf s) w ev (Lib.Hx.numsOf_length s) (fun i _ => Lib.Hx.numsOf_range s i) (fun i hi => by rw [Nat.zero_add]; exact hcell i hi) hrow (by omega) (by omega) hne (by omega) hE hB0
  rw [Lib.Hx.bytesOf_numsOf] at hdec
  obtain ⟨k, hfb, hkl, hdv, hend⟩ := decode_spec n s.data.toList (by rw [← hs]; simp)
  have hkn := hfb.1
  have hrP : ∀ i, i < n → Lib.Hx.rowP f 0 (Lib.Hx.decode s.data.toList).1 i = if i < k then .int .u8 (hv (bytesFn s.data.toList (2 * i)) * 16 + hv (bytesFn s.data.toList (2 * i + 1))) else f i := fun i hi => by
    unfold Lib.Hx.rowP
    by_cases hik : i < k
    · rw [if_pos ⟨by omega, by omega⟩, if_pos hik, ← hdv i hik, Nat.sub_zero]
      rfl
    · rw [if_neg (by omega), if_neg hik]
  refine ⟨k, hfb, hdec.mono ?_⟩
  rintro e w' ⟨he, hr, hg⟩
  refine ⟨((Lib.Hx.decode s.data.toList).1.length : Int), ?_, hr.congr hrP, hg⟩
  rcases hend with ⟨h1, h2⟩ | ⟨h1, c, h2⟩
  · exact Or.inl ⟨h1, by rw [he, h2]; rfl⟩
  · exact Or.inr ⟨h1, (c.toNat : Int), by omega, by have := c.toNat_lt; omega, by rw [he, h2]; rfl⟩

theorem grownBy_of_below {w w' : World} (h : Below w.heap.size w w') (row : Option Nat) : w.grownBy w' row := ⟨h.os, h.tape, h.output, h.size, fun k hk _ => h.block k hk⟩

set_option maxHeartbeats 1600000 in
theorem dec_some (F : Interp) (B n cap : Nat) (f : Nat → Value) (s what : ByteArray) (ev : Value) (w : World) (hF : F.answers w.tape) (hn : n ≤ 1048576) (_hn0 : 0 < n) (hs : Hid (s.size = 2 * n)) (hrow : w.rowIs B 5 n f) (hE : w.cell? ⟨0, 0, none⟩ = some ev) (hB0 : 0 ≠ B) :
    Calls Tryf.prog 20 #[.slice (some ⟨B, 0, none⟩) n cap, .string s, .string what] w (DecLeft (bytesFn s.data.toList) B n f w) := by
  obtain ⟨w1, cp, hrun, hb, hsz1, hcell⟩ := convB s w
  have hs' := hs.out
  have hBlt := hrow.lt
  have hrow1 : w1.rowIs B 5 n f := hrow.of_block (hb.block B hBlt)
  have hE1 : w1.cell? ⟨0, 0, none⟩ = some ev := by rw [hb.cell (p := ⟨0, 0, none⟩) (show 0 < w.heap.size by omega)]; exact hE
  obtain ⟨k, hfb, hdec⟩ := dec25_some B n cap w.heap.size cp f s ev w1 hn hs' hrow1 hE1 hB0 (by omega) hcell
  have HD : Hid (Calls Tryf.prog 25 #[.slice (some ⟨B, 0, none⟩) n cap, .slice (some ⟨w.heap.size, 0, none⟩) s.size cp] w1 (Dec25Left (bytesFn s.data.toList) B n k f w1)) := hdec
  have hneq : (((s.size : Nat) : Int) != 2 * (n : Int)) = false := by simp; omega
  have hF1 : F.answers w1.tape := by rw [hb.tape]; exact hF
  clear hdec hcell hrow1 hE1 hE hrow hs'
  go_enter Tryf.func20, Tryf.ntmps20
  go_wp2_with (go_at_call 23; refine (encLen n _ hn).mono ?_; rintro e w' ⟨rfl, rfl⟩)
  refine (HD.out).mono ?_
  rintro e w3 ⟨m, hor, hrow3, hg3⟩
  have hgw : World.grownBy _ w3 (some B) := (grownBy_of_below hb (some B)).trans hg3
  have hB3 := hrow3.lt
  have hF3 : F.answers w3.tape := by rw [hg3.tape]; exact hF1
  rcases hor with ⟨hk, rfl⟩ | ⟨hk, c, hc0, hc1, rfl⟩
  · have HK : Hid (k = n) := hk
    clear hk
    go_wp2
    go_ret
    exact ⟨k, hfb, Or.inl ⟨HK.out, rfl⟩, hrow3, hgw⟩
  · go_wp2_with fail
    refine (errWrap F what c _ _ (by exact hF3) hc0 hc1 (by simp) (by simp) (by simp)).mono ?_
    rintro e w4 ⟨t, v, rfl, hb4⟩
    have hb3 : Below w3.heap.size w3 w4 := ((Below.refl _ _).alloc (Nat.le_refl _) _).trans (hb4.mono (by simp))
    go_wp2
    go_ret
    exact ⟨k, hfb, Or.inr ⟨hk, t, v, rfl⟩, hrow3.of_block (hb3.block B hB3), hgw.trans (grownBy_of_below hb3 _)⟩
end Go.Proofs.Qxb6604560aFmt
