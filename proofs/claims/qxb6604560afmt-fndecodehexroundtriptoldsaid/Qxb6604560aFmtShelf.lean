/-
  encoding/hex.Decode at this dump: the shelf's contract, laid in plain words by the kit's tool for this program.
-/
import Derived.Shelf.Hex.Tagged
import Derived.Test.Qxb6604560aFmtProg
namespace Go.Proofs.Qxb6604560aFmt
open Go.Shelf
def lays44_ren : Go.Shelf.Ren := ⟨fun | 44 => 25 | n => n, fun | 30 => 22 | 3 => 3 | 35 => 26 | 4 => 4 | 0 => 0 | 5 => 5 | 9 => 9 | 47 => 56 | 46 => 33 | 45 => 39 | n => n, fun | 0 => 0 | n => n⟩
theorem lays44 : Lays.p44 Tryf.prog lays44_ren := {
  mixed := by kernel_rfl
  f44 := Tryf.func25.trans (congrArg some (by kernel_rfl))
  t0 := Tryf.underlying0
  a0 := Tryf.isAgg0
  z0 := Tryf.sizeOf0
  v0 := Tryf.zeroValue0
  t3 := Tryf.underlying3
  a3 := Tryf.isAgg3
  z3 := Tryf.sizeOf3
  v3 := Tryf.zeroValue3
  t4 := Tryf.underlying4
  a4 := Tryf.isAgg4
  z4 := Tryf.sizeOf4
  v4 := Tryf.zeroValue4
  t5 := Tryf.underlying5
  a5 := Tryf.isAgg5
  z5 := Tryf.sizeOf5
  v5 := Tryf.zeroValue5
  t9 := Tryf.underlying9
  a9 := Tryf.isAgg9
  z9 := Tryf.sizeOf9
  v9 := Tryf.zeroValue9
  t30 := Tryf.underlying22
  a30 := Tryf.isAgg22
  z30 := Tryf.sizeOf22
  v30 := Tryf.zeroValue22
  t35 := Tryf.underlying26
  a35 := Tryf.isAgg26
  z35 := Tryf.sizeOf26
  v35 := Tryf.zeroValue26
  t45 := Tryf.underlying39
  a45 := Tryf.isAgg39
  z45 := Tryf.sizeOf39
  v45 := Tryf.zeroValue39
  t46 := Tryf.underlying33
  a46 := Tryf.isAgg33
  z46 := Tryf.sizeOf33
  v46 := Tryf.zeroValue33
  t47 := Tryf.underlying56
  a47 := Tryf.isAgg56
  z47 := Tryf.sizeOf56
  v47 := Tryf.zeroValue56
  g0 := by kernel_rfl }
open Go.RowKit Go.Lib in
/-- encoding/hex.Decode where src is not nil and lies in another block than dst. -/
theorem hexDecode (T : TypeId) (bd od nd cd N : Nat) (f : Nat → Value) (bs os n cs : Nat) (xs : List Int) (w : World) (ev : Value) (hx : xs.length = n) (hr : ∀ i, i < n → 0 ≤ xs.getD i 0 ∧ xs.getD i 0 < 256) (hsrc : ∀ i, i < n → w.cell? ⟨bs, os + i, none⟩ = some (.int .u8 (xs.getD i 0))) (hrow : w.rowIs bd T N f) (hfit : od + nd ≤ N) (hlen : n / 2 ≤ nd) (hne : bd ≠ bs) (hbig : n ≤ 4611686018427387903) (hE : w.cell? ⟨0, 0, none⟩ = some ev) (hgb : 0 ≠ bd) :
    Calls Tryf.prog 25 #[.slice (some ⟨bd, od, none⟩) nd cd, .slice (some ⟨bs, os, none⟩) n cs] w fun e w' =>
      e = .returned (.tuple #[.int .i64 ((Hx.decode (Lib.bytesOf xs)).1.length : Int), Hx.errVal 56 ev (Hx.decode (Lib.bytesOf xs)).2]) ∧ w'.rowIs bd T N (Hx.rowP f od (Hx.decode (Lib.bytesOf xs)).1) ∧ w.grownBy w' (some bd) := Any.hex_Decode_tag lays44 T bd od nd cd N f bs os n cs xs w ev hx hr hsrc hrow hfit hlen hne hbig hE hgb
end Go.Proofs.Qxb6604560aFmt
