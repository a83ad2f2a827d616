import Derived.Test.Qxb6604352aFmtWalkD
namespace Go.Proofs.Qxb6604352aFmt
open Go.RowKit Go.Kit Go.Extern.Stop Go.Stop Go.Extern

set_option maxHeartbeats 400000 in
theorem lawB_big (s : ByteArray) (w : World) (h : 1048576 < (s.size : Int)) :
    Calls Tryf.prog 4 #[.string s] w fun e w' => e = .returned (.bool true) ∧ w' = w := by
  go_enter Tryf.func4, Tryf.ntmps4
  go_wp2_with (go_at_call 9; refine (zzB9_no _ _ h).mono ?_; rintro e w' ⟨rfl, rfl⟩)
  go_ret
  exact ⟨rfl, rfl⟩

set_option maxHeartbeats 400000 in
theorem lawB_short (s : ByteArray) (w : World) (h : (s.size : Int) ≤ 100) :
    Calls Tryf.prog 4 #[.string s] w fun e w' => e = .returned (.bool true) ∧ w' = w := by
  go_enter Tryf.func4, Tryf.ntmps4
  go_wp2_with (first | (go_at_call 9; refine (zzB9_yes _ _ (by omega)).mono ?_; rintro e w' ⟨rfl, rfl⟩) | (go_at_call 6; refine (bare_short _ _ h).mono ?_; rintro e w' ⟨rfl, rfl⟩))
  go_ret
  exact ⟨rfl, rfl⟩

def zerosL (n : Nat) : List Int := List.replicate n 0
def copiedL (s : ByteArray) : List Int := (s.data.toList.take 101).map (fun b => (b.toNat : Int)) ++ (zerosL s.size).drop 101
theorem makeZ (n : Nat) (h : n ≤ 1048576) (w : World) :
    (Instr.makeSlice 26 (.int .i64 (n : Int)) (.int .i64 (n : Int))).run Tryf.prog w = .ok (.slice (some ⟨w.heap.size, 0, none⟩) n n) (w.alloc (.cells ((zerosL n).map (Value.int .u8)).toArray 5)) := make26 n h w
theorem copyZ (w : World) (s : ByteArray) (hs : 101 ≤ s.size) (ty : TypeId) :
    (Builtin.copy_ #[26, 9] ty #[.slice (some ⟨w.heap.size, 0, none⟩) s.size s.size, .string (s.extract 0 101)]).run Tryf.prog (w.alloc (.cells ((zerosL s.size).map (Value.int .u8)).toArray 5)) =
      .ok (.int .i64 101) (w.alloc (.cells ((copiedL s).map (Value.int .u8)).toArray 5)) := copy26 s.size w (zerosL s.size) s hs hs (by simp [zerosL]) ty
theorem copied_length (s : ByteArray) (hs : 101 ≤ s.size) : (copiedL s).length = s.size := by simp [copiedL, zerosL]; omega
theorem copied_at (s : ByteArray) (hs : 101 ≤ s.size) (j : Nat) (hj : j < 101) : (copiedL s)[j]? = some ((s[j]'(by omega)).toNat : Int) := by
  have hl : s.data.toList.length = s.size := by simp
  unfold copiedL
  rw [List.getElem?_append_left (by rw [List.length_map, List.length_take]; omega), List.getElem?_map, List.getElem?_take_of_lt hj, List.getElem?_eq_getElem (by omega)]
  rfl

/-- What the bytes hold while a loop writes c from place 101 on. -/
def Filled (s : ByteArray) (c : UInt8) (zs : List Int) (i : Nat) : Prop :=
  ∃ (h : 101 ≤ s.size), (∀ j (hj : j < 101), zs[j]? = some ((s[j]'(by omega)).toNat : Int)) ∧ (∀ j, 101 ≤ j → j < i → zs[j]? = some (c.toNat : Int))
theorem Filled.step {s : ByteArray} {c : UInt8} {zs : List Int} {i : Nat} (h : Filled s c zs i) (hi : 101 ≤ i) (h2 : i < zs.length) : Filled s c (zs.set i (c.toNat : Int)) (i + 1) := by
  obtain ⟨h0, h1, h3⟩ := h
  refine ⟨h0, fun j hj => ?_, fun j hj hj2 => ?_⟩
  · rw [List.getElem?_set_ne (by omega)]; exact h1 j hj
  · by_cases e : i = j
    · subst e; rw [List.getElem?_set_self h2]
    · rw [List.getElem?_set_ne e]; exact h3 j hj (by omega)
theorem Filled.conv {s : ByteArray} {c : UInt8} {zs : List Int} {i : Nat} (h : Filled s c zs i) (hz : zs.length = s.size) (hi : s.size ≤ i) (w : World) :
    (convert 26 9 (.slice (some ⟨w.heap.size, 0, none⟩) s.size s.size)).run Tryf.prog (w.alloc (.cells (zs.map (Value.int .u8)).toArray 5)) = .ok (.string (tailed s c)) (w.alloc (.cells (zs.map (Value.int .u8)).toArray 5)) := by
  obtain ⟨h0, h1, h3⟩ := h
  exact conv26 w zs s c h0 hz h1 (fun j a b => h3 j a (by omega))
theorem Filled.anew {s : ByteArray} {c d : UInt8} {zs : List Int} {i : Nat} (h : Filled s c zs i) : Filled s d zs 101 := by
  obtain ⟨h0, h1, _⟩ := h
  exact ⟨h0, h1, fun j a b => by omega⟩

theorem bare_again (F : Interp) (s G O : ByteArray) (c : UInt8) (n : Nat) (h : 100 < (s.size : Int)) (h2 : (s.size : Int) ≤ 1048576) (h3 : 97 ≤ n) (hh : HeadAt s n) (hG : G = s.extract 0 n ++ sufB s.size) (hO : O = tailed s c) (w : World) (hF : F.told.answers w.tape) (W : World) (hW : W.tape = w.tape) :
    Calls Tryf.prog 6 #[.string O] W fun e w' => e = .returned (.string G) ∧ Below W.heap.size W w' := by
  have hsz : O.size = s.size := by rw [hO]; exact tailed_size s c (by omega)
  refine (bare_named F O W (by rw [hW]; exact hF) (by omega) (by omega)).mono ?_
  rintro e w' ⟨m, G2, rfl, h4, h5, hh2, HG2, hB⟩
  have hg := HG2.out
  rw [hO] at hg hh2
  rw [bare_same s G G2 c n m h3 h4 h5 hh hh2 hG hg]
  exact ⟨rfl, hB⟩

set_option maxHeartbeats 1000000 in
theorem lawB_long (F : Interp) (s : ByteArray) (w : World) (hF : F.told.answers w.tape) (h : 100 < (s.size : Int)) (h2 : (s.size : Int) ≤ 1048576) :
    Calls Tryf.prog 4 #[.string s] w fun e w' => e = .returned (.bool true) ∧ Below w.heap.size w w' := by
  have hmk := makeZ s.size (by omega)
  go_enter Tryf.func4, Tryf.ntmps4
  go_wp2_with (go_at_call 9; refine (zzB9_yes _ _ h2).mono ?_; rintro e w' ⟨rfl, rfl⟩)
  refine (bare_named F s _ hF h h2).mono ?_
  rintro e w1 ⟨n, G, rfl, h3, h4, hh, HG, hB⟩
  have HB : Hid (Below w'.heap.size w' w1) := hB
  clear hB
  have h101 : 101 ≤ s.size := by omega
  have hcp := copyZ w1 s h101 3
  go_wp2
  clear hmk hcp
  go_loopw [5] (fun a w2 => ∃ (i : Nat) (zs : List Int), 101 ≤ i ∧ i ≤ s.size ∧ zs.length = s.size ∧ a = .int .i64 i ∧ w2 = w1.alloc (.cells (zs.map (Value.int .u8)).toArray 5) ∧ Filled s 35 zs i) (fun a _ => s.size - (intOf a).toNat)
  case atStart => exact ⟨101, copiedL s, by omega, by omega, copied_length s h101, rfl, rfl, ⟨h101, copied_at s h101, fun j a b => by omega⟩⟩
  case round =>
    obtain ⟨i, zs, hi1, hi2, hz, rfl, rfl, hf⟩ := hrel
    by_cases hi : (i : Int) < s.size
    · obtain ⟨v, hv⟩ : ∃ v, zs[i]? = some v := ⟨zs[i]'(by omega), by simp⟩
      go_wp2
      go_roundw
      case rel => exact ⟨i + 1, zs.set i 35, by omega, by omega, by simp [hz], by go_num, by simp, hf.step hi1 (by omega)⟩
      case measure => simp [intOf]; omega
    · have hcv := hf.conv hz (by omega) w1
      obtain ⟨O, HO⟩ : ∃ O, Hid (O = tailed s 35) := ⟨_, rfl⟩
      rw [← HO.out] at hcv
      obtain ⟨hs97, hx97⟩ := bare_head s G n h3 h4 hh HG.out
      have hb : ((G.extract 0 97).toList == (s.extract 0 97).toList) = true := by rw [hx97]; simp
      clear hx97
      have hF1 : F.told.answers w1.tape := by rw [HB.out.tape]; exact hF
      by_cases he : (O.toList == s.toList) = true
      · go_wp2
        clear hcv he HO
        go_loopw [7] (fun a w2 => ∃ (i : Nat) (zs : List Int), 101 ≤ i ∧ i ≤ s.size ∧ zs.length = s.size ∧ a = .int .i64 i ∧ w2 = w1.alloc (.cells (zs.map (Value.int .u8)).toArray 5) ∧ Filled s 126 zs i) (fun a _ => s.size - (intOf a).toNat)
        case atStart => exact ⟨101, zs, by omega, by omega, hz, rfl, rfl, hf.anew⟩
        case round =>
          clear hf hi hi1 hi2 hz
          obtain ⟨k, zs, hi1, hi2, hz, rfl, rfl, hf⟩ := hrel
          by_cases hi : (k : Int) < s.size
          · obtain ⟨v, hv⟩ : ∃ v, zs[k]? = some v := ⟨zs[k]'(by omega), by simp⟩
            go_wp2
            go_roundw
            case rel => exact ⟨k + 1, zs.set k 126, by omega, by omega, by simp [hz], by go_num, by simp, hf.step hi1 (by omega)⟩
            case measure => simp [intOf]; omega
          · have hcv := hf.conv hz (by omega) w1
            obtain ⟨O2, HO⟩ : ∃ O2, Hid (O2 = tailed s 126) := ⟨_, rfl⟩
            rw [← HO.out] at hcv
            go_wp2
            have hcall := bare_again F s G O2 126 n h h2 h3 hh HG.out HO.out w1 hF1
            have hd : decide ((97 : Int) ≤ G.size) = true := by simp; omega
            have hbb : (G.toList == G.toList) = true := by simp
            have hs97' : (97 : Int) ≤ G.size := by omega
            have hss : (97 : Int) ≤ s.size := by omega
            clear hcv hf HG HO hF hF1 hh hi hi1 hi2 h3 h4
            refine wp_region_any (by kernel_rfl) ?_
            change wpAny _ _ _ _ _ _ _ (World.drew _)
            refine wpAny_take (i := 0) (v := .string O2) rfl (by kernel_rfl) (by kernel_rfl) (by kernel_rfl) (fun _ _ _ h => h) (Or.inl ⟨by kernel_rfl, by intro w; go_simp⟩) ?_
            refine wpAny_take (i := 2) (v := .string G) rfl (by kernel_rfl) (by kernel_rfl) (by kernel_rfl) (fun _ _ _ h => h) (Or.inl ⟨by kernel_rfl, by intro w; go_simp⟩) ?_
            refine wpAny_ready (rs := [1]) (by kernel_rfl) (by simp) ?_
            refine AllReady.cons rfl (fun K hK => ?_) AllReady.nil
            go_simp
            go_wp2_with (go_at_call 6; refine (hcall _ (by rfl)).mono ?_; rintro e w2 ⟨rfl, hB2⟩)
            refine wpAny_take (i := 3) (v := .bool true) rfl (by kernel_rfl) (by kernel_rfl) (by kernel_rfl) (fun _ _ _ h => h) (Or.inl ⟨by kernel_rfl, by intro w; go_simp⟩) ?_
            refine wpAny_take (i := 4) (v := .bool true) rfl (by kernel_rfl) (by kernel_rfl) (by kernel_rfl) (fun _ _ _ h => h) (Or.inl ⟨by kernel_rfl, by intro w; go_simp⟩) ?_
            refine wpAny_take (i := 5) (v := .string G) rfl (by kernel_rfl) (by kernel_rfl) (by kernel_rfl) (fun _ _ _ h => h) (Or.inl ⟨by kernel_rfl, by intro w; go_simp⟩) ?_
            refine wpAny_take (i := 6) (v := .int .i64 G.size) rfl (by kernel_rfl) (by kernel_rfl) (by kernel_rfl) (fun _ _ _ h => h) (Or.inl ⟨by kernel_rfl, by intro w; go_simp⟩) ?_
            refine wpAny_take (i := 7) (v := .bool true) rfl (by kernel_rfl) (by kernel_rfl) (by kernel_rfl) (fun _ _ _ h => h) (Or.inl ⟨by kernel_rfl, by intro w; go_simp⟩) ?_
            refine wpAny_take (i := 8) (v := .bool true) rfl (by kernel_rfl) (by kernel_rfl) (by kernel_rfl) (fun _ _ _ h => h) (Or.inl ⟨by kernel_rfl, by intro w; go_simp⟩) ?_
            refine wpAny_take (i := 9) (v := .bool true) rfl (by kernel_rfl) (by kernel_rfl) (by kernel_rfl) (fun _ _ _ h => h) (Or.inl ⟨by kernel_rfl, by intro w; go_simp⟩) ?_
            refine wpAny_take (i := 10) (v := .string G) rfl (by kernel_rfl) (by kernel_rfl) (by kernel_rfl) (fun _ _ _ h => h) (Or.inl ⟨by kernel_rfl, by intro w; go_simp⟩) ?_
            refine wpAny_take (i := 12) (v := .string s) rfl (by kernel_rfl) (by kernel_rfl) (by kernel_rfl) (fun _ _ _ h => h) (Or.inl ⟨by kernel_rfl, by intro w; go_simp⟩) ?_
            refine wpAny_take (i := 11) (v := .string (G.extract 0 97)) rfl (by kernel_rfl) (by kernel_rfl) (by kernel_rfl) (fun _ _ _ h => h) (Or.inl ⟨by kernel_rfl, by intro w; go_simp⟩) ?_
            refine wpAny_take (i := 13) (v := .string (s.extract 0 97)) rfl (by kernel_rfl) (by kernel_rfl) (by kernel_rfl) (fun _ _ _ h => h) (Or.inl ⟨by kernel_rfl, by intro w; go_simp⟩) ?_
            refine wpAny_take (i := 14) (v := .bool true) rfl (by kernel_rfl) (by kernel_rfl) (by kernel_rfl) (fun _ _ _ h => h) (Or.inl ⟨by kernel_rfl, by intro w; go_simp⟩) ?_
            refine wpAny_take (i := 15) (v := .bool true) rfl (by kernel_rfl) (by kernel_rfl) (by kernel_rfl) (fun _ _ _ h => h) (Or.inl ⟨by kernel_rfl, by intro w; go_simp⟩) ?_
            refine wpAny_take (i := 16) (v := .bool true) rfl (by kernel_rfl) (by kernel_rfl) (by kernel_rfl) (fun _ _ _ h => h) (Or.inl ⟨by kernel_rfl, by intro w; go_simp⟩) ?_
            refine wpAny_done (by kernel_rfl) ?_ _
            go_wp2
            go_ret
            exact ⟨by kernel_rfl, ((HB.out.alloc HB.out.size _).drew).trans (hB2.mono (by have := HB.out.size; simp; omega))⟩
      · have he' : (O.toList == s.toList) = false := by simpa using he
        clear he
        go_wp2
        have hcall := bare_again F s G O 35 n h h2 h3 hh HG.out HO.out w1 hF1
        have hd : decide ((97 : Int) ≤ G.size) = true := by simp; omega
        have hbb : (G.toList == G.toList) = true := by simp
        have hs97' : (97 : Int) ≤ G.size := by omega
        have hss : (97 : Int) ≤ s.size := by omega
        clear hcv hf HG HO hF hF1 hh hi hi1 hi2 h3 h4
        refine wp_region_any (by kernel_rfl) ?_
        change wpAny _ _ _ _ _ _ _ (World.drew _)
        refine wpAny_take (i := 0) (v := .string O) rfl (by kernel_rfl) (by kernel_rfl) (by kernel_rfl) (fun _ _ _ h => h) (Or.inl ⟨by kernel_rfl, by intro w; go_simp⟩) ?_
        refine wpAny_take (i := 2) (v := .string G) rfl (by kernel_rfl) (by kernel_rfl) (by kernel_rfl) (fun _ _ _ h => h) (Or.inl ⟨by kernel_rfl, by intro w; go_simp⟩) ?_
        refine wpAny_ready (rs := [1]) (by kernel_rfl) (by simp) ?_
        refine AllReady.cons rfl (fun K hK => ?_) AllReady.nil
        go_simp
        go_wp2_with (go_at_call 6; refine (hcall _ (by rfl)).mono ?_; rintro e w2 ⟨rfl, hB2⟩)
        refine wpAny_take (i := 3) (v := .bool true) rfl (by kernel_rfl) (by kernel_rfl) (by kernel_rfl) (fun _ _ _ h => h) (Or.inl ⟨by kernel_rfl, by intro w; go_simp⟩) ?_
        refine wpAny_take (i := 4) (v := .bool true) rfl (by kernel_rfl) (by kernel_rfl) (by kernel_rfl) (fun _ _ _ h => h) (Or.inl ⟨by kernel_rfl, by intro w; go_simp⟩) ?_
        refine wpAny_take (i := 5) (v := .string G) rfl (by kernel_rfl) (by kernel_rfl) (by kernel_rfl) (fun _ _ _ h => h) (Or.inl ⟨by kernel_rfl, by intro w; go_simp⟩) ?_
        refine wpAny_take (i := 6) (v := .int .i64 G.size) rfl (by kernel_rfl) (by kernel_rfl) (by kernel_rfl) (fun _ _ _ h => h) (Or.inl ⟨by kernel_rfl, by intro w; go_simp⟩) ?_
        refine wpAny_take (i := 7) (v := .bool true) rfl (by kernel_rfl) (by kernel_rfl) (by kernel_rfl) (fun _ _ _ h => h) (Or.inl ⟨by kernel_rfl, by intro w; go_simp⟩) ?_
        refine wpAny_take (i := 8) (v := .bool true) rfl (by kernel_rfl) (by kernel_rfl) (by kernel_rfl) (fun _ _ _ h => h) (Or.inl ⟨by kernel_rfl, by intro w; go_simp⟩) ?_
        refine wpAny_take (i := 9) (v := .bool true) rfl (by kernel_rfl) (by kernel_rfl) (by kernel_rfl) (fun _ _ _ h => h) (Or.inl ⟨by kernel_rfl, by intro w; go_simp⟩) ?_
        refine wpAny_take (i := 10) (v := .string G) rfl (by kernel_rfl) (by kernel_rfl) (by kernel_rfl) (fun _ _ _ h => h) (Or.inl ⟨by kernel_rfl, by intro w; go_simp⟩) ?_
        refine wpAny_take (i := 12) (v := .string s) rfl (by kernel_rfl) (by kernel_rfl) (by kernel_rfl) (fun _ _ _ h => h) (Or.inl ⟨by kernel_rfl, by intro w; go_simp⟩) ?_
        refine wpAny_take (i := 11) (v := .string (G.extract 0 97)) rfl (by kernel_rfl) (by kernel_rfl) (by kernel_rfl) (fun _ _ _ h => h) (Or.inl ⟨by kernel_rfl, by intro w; go_simp⟩) ?_
        refine wpAny_take (i := 13) (v := .string (s.extract 0 97)) rfl (by kernel_rfl) (by kernel_rfl) (by kernel_rfl) (fun _ _ _ h => h) (Or.inl ⟨by kernel_rfl, by intro w; go_simp⟩) ?_
        refine wpAny_take (i := 14) (v := .bool true) rfl (by kernel_rfl) (by kernel_rfl) (by kernel_rfl) (fun _ _ _ h => h) (Or.inl ⟨by kernel_rfl, by intro w; go_simp⟩) ?_
        refine wpAny_take (i := 15) (v := .bool true) rfl (by kernel_rfl) (by kernel_rfl) (by kernel_rfl) (fun _ _ _ h => h) (Or.inl ⟨by kernel_rfl, by intro w; go_simp⟩) ?_
        refine wpAny_take (i := 16) (v := .bool true) rfl (by kernel_rfl) (by kernel_rfl) (by kernel_rfl) (fun _ _ _ h => h) (Or.inl ⟨by kernel_rfl, by intro w; go_simp⟩) ?_
        refine wpAny_done (by kernel_rfl) ?_ _
        go_wp2
        go_ret
        exact ⟨by kernel_rfl, ((HB.out.alloc HB.out.size _).drew).trans (hB2.mono (by have := HB.out.size; simp; omega))⟩
end Go.Proofs.Qxb6604352aFmt
