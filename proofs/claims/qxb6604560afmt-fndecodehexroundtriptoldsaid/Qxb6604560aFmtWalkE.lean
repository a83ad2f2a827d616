/-
  The law 'FnDecodeHexExact', walked.
-/
import Derived.Test.Qxb6604560aFmtWalkD
namespace Go.Proofs.Qxb6604560aFmt
open Go.RowKit Go.Extern.Stop Go.Stop Go.Extern

def LawLeft (w : World) (e : Ending) (w' : World) : Prop := e = .returned (.bool true) ∧ Below w.heap.size w w'

theorem hexValueF (c : Int) (w : World) (h0 : 0 ≤ c) (h1 : c ≤ 255) : Calls Tryf.prog 11 #[.int .u8 c] w fun e w' => e = .returned (.int .i64 (hv c)) ∧ w = w' :=
  (hexValue c w h0 h1).mono fun _ _ h => ⟨h.1, h.2.symm⟩

set_option maxHeartbeats 4000000 in
theorem lawX (F : Interp) (a : Option Addr) (n cap : Nat) (g : Nat → Int) (s what : ByteArray) (ev : Value) (w : World) (hF : F.answers w.tape) (hr : ByteRow w a n g) (hn : n ≤ 140737488355328) (hs : s.size ≤ 140737488355328) (hw : what.size ≤ 140737488355328) (hE : w.cell? ⟨0, 0, none⟩ = some ev) :
    Calls Tryf.prog 3 #[.slice a n cap, .string s, .string what] w (LawLeft w) := by
  have h0lt : 0 < w.heap.size := lt_of_cell hE
  go_enter Tryf.func3, Tryf.ntmps3
  go_wp2_with fail
  refine (zzB7 a n cap s what w).mono ?_
  rintro e w' ⟨t, rfl, hw'⟩
  subst hw'
  cases t with
  | false =>
    go_wp2
    go_ret
    exact ⟨rfl, Below.refl _ _⟩
  | true =>
    by_cases h1 : (1048576 : Int) < n + s.size + what.size
    · go_wp2
      go_ret
      exact ⟨rfl, Below.refl _ _⟩
    · have hn1 : n ≤ 1048576 := by omega
      have hs1 : s.size ≤ 1048576 := by omega
      go_wp2_with fail
      refine (clone a n cap g _ hr hn1).mono ?_
      rintro e w1 ⟨a1, c1, rfl, hrow1, hb1⟩
      have hr1 := hr.below hb1
      go_wp2_with fail
      refine (clone a n cap g _ hr1 hn1).mono ?_
      rintro e w2 ⟨a2, c2, rfl, hrow2, hb2⟩
      have HB2 : Hid (Below w'.heap.size w' w2) := hb1.trans (hb2.mono hb1.size)
      have hF2 : F.answers w2.tape := by rw [HB2.out.tape]; exact hF
      have hE2 : w2.cell? ⟨0, 0, none⟩ = some ev := by rw [HB2.out.cell (p := ⟨0, 0, none⟩) h0lt]; exact hE
      have hsz1 := hb1.size
      have horig : ByteRow w2 a1 n g := fun h0 => by
        obtain ⟨ha, hr⟩ := hrow1 h0
        have hlt := hr.lt
        exact ⟨w'.heap.size, 0, ha, fun i hi => by rw [Nat.zero_add, hb2.cell (p := ⟨w'.heap.size, i, none⟩) hlt]; exact hr.cell hi⟩
      by_cases hne : s.size = 2 * n
      · have HS : Hid (s.size = 2 * n) := hne
        have hss : 2 * n ≤ s.size := by omega
        have hss2 : s.size ≤ 2 * n := by omega
        have hneq : (((s.size : Nat) : Int) != 2 * (n : Int)) = false := by simp; omega
        clear hne
        by_cases hn0 : n = 0
        · subst hn0
          have hs0 : s.size = 0 := by omega
          have hb00 : ((0 : Int) == 0) = true := rfl
          clear hss hss2 hneq HS hs hr hr1 hrow1 hrow2 horig
          go_wp2_with fail
          refine (zz_none a2 c2 s what _ hs0).mono ?_
          rintro e w3 ⟨rfl, hb3⟩
          go_wp2
          refine wp_loop_rounds 1 ?_
          rw [rounds_succ]
          go_wp2
          refine wp_loop_rounds 1 ?_
          rw [rounds_succ]
          go_wp2
          go_ret
          exact ⟨rfl, HB2.out.trans (hb3.mono HB2.out.size)⟩
        · have hn0' : 0 < n := by omega
          obtain ⟨ha1, hro1⟩ := hrow1 hn0'
          obtain ⟨ha2, hro2⟩ := hrow2 hn0'
          subst ha1
          subst ha2
          have hlo := hro1.lt
          have hl1 : 0 ≠ w1.heap.size := by omega
          go_wp2_with fail
          refine (zz_some F w1.heap.size n c2 _ s what ev _ hF2 hn1 hn0' HS.out hro2 hE2 hl1).mono ?_
          rintro e w3 ⟨k, hfb, hor, hrow3, hg3⟩
          have hgb := hb2.size
          have HG : Hid (Below w'.heap.size w' w3) := HB2.out.grown hg3 HB2.out.size (fun j hj => by cases hj; exact hsz1)
          have h3o : ∀ i, i < n → w3.cell? ⟨w'.heap.size, i, none⟩ = some (.int .u8 (g i)) := fun i hi => by
            obtain ⟨b, off, hab, hcb⟩ := horig hn0'
            cases hab
            have := hcb i hi
            rw [Nat.zero_add] at this
            rw [← this]
            exact World.cell?_of_block (hg3.block w'.heap.size (lt_of_cell this) (by simp; omega))
          have FB : Hid (FirstBad (bytesFn s.data.toList) n k) := hfb
          have hkn := hfb.1
          clear hfb hro1 hro2 hrow1 hrow2 horig hr hr1 hE hE2 hF2 hg3
          rcases hor with ⟨hk, rfl⟩ | ⟨hk, t, v, rfl⟩
          · have HK : Hid (k = n) := hk
            have hkn2 : n ≤ k := by omega
            clear hk
            go_wp2
            go_loop [10, 11] (fun b i => b = .int .i64 n ∧ ∃ j : Nat, j ≤ n ∧ i = .int .i64 j) (fun _ i => n - (intOf i).toNat)
            case atStart => exact ⟨rfl, 0, by omega, rfl⟩
            case round =>
              obtain ⟨rfl, j, hj, rfl⟩ := hrel
              by_cases hjn : (j : Int) < n
              · have hg := FB.out.2.1 j (by omega)
                rw [bytesFn_at s (2 * j) (by omega), bytesFn_at s (2 * j + 1) (by omega)] at hg
                have i1 : 2 * j < s.size := by omega
                have i2 : 2 * j + 1 < s.size := by omega
                have x1 := (s[2 * j]'i1).toNat_lt
                have x2 := (s[2 * j + 1]'i2).toNat_lt
                obtain ⟨hg1, hg2⟩ := hg
                go_wp2_with (go_at_call 11; refine (hexValueF _ _ (by omega) (by omega)).mono ?_; rintro e wq ⟨rfl, rfl⟩)
                go_round
                case rel => exact ⟨rfl, j + 1, by omega, by go_num⟩
                case measure => simp [intOf]; omega
              · have hb1 : ((n : Int) == n) = true := by simp
                obtain ⟨wo, hwo⟩ : ∃ wo : World, wo = w' := ⟨_, rfl⟩
                subst hwo
                go_wp2
                go_loopw [12, 13] (fun i _ wr => ∃ j : Nat, j ≤ n ∧ i = .int .i64 j ∧ Below w3.heap.size w3 wr) (fun i _ _ => n - (intOf i).toNat)
                case atStart => exact ⟨0, by omega, rfl, Below.refl _ _⟩
                case round =>
                  obtain ⟨j, hj, rfl, hBr⟩ := hrel
                  by_cases hjn : (j : Int) < n
                  · have co := h3o j (by omega)
                    have co1 : wr.cell? ⟨wo.heap.size, j, none⟩ = some (.int .u8 (g j)) := by rw [hBr.cell (p := ⟨wo.heap.size, j, none⟩) (lt_of_cell co)]; exact co
                    have cd := hrow3.cell (i := j) (by omega)
                    have cd1 : wr.cell? ⟨w1.heap.size, j, none⟩ = some (if j < k then .int .u8 (hv (bytesFn s.data.toList (2 * j)) * 16 + hv (bytesFn s.data.toList (2 * j + 1))) else .int .u8 (g j)) := by rw [hBr.cell (p := ⟨w1.heap.size, j, none⟩) (lt_of_cell cd)]; exact cd
                    clear co cd h3o hrow3
                    by_cases hjk : j < k
                    · have i1 : 2 * j < s.size := by omega
                      have i2 : 2 * j + 1 < s.size := by omega
                      obtain ⟨p, hpj⟩ : ∃ p : Nat, p = 2 * j := ⟨_, rfl⟩
                      obtain ⟨q, hqj⟩ : ∃ q : Nat, q = 2 * j + 1 := ⟨_, rfl⟩
                      have u1 : IntKind.i64.wrap (2 * (j : Int)) = (p : Int) := by rw [IntWalk.i64_in _ (by omega)]; omega
                      have u2 : IntKind.i64.wrap ((p : Int) + 1) = (q : Int) := by rw [IntWalk.i64_in _ (by omega)]; omega
                      rw [← hpj] at i1
                      rw [← hqj] at i2
                      rw [if_pos hjk, ← hqj, ← hpj, bytesFn_at s p i1, bytesFn_at s q i2] at cd1
                      have hg := FB.out.2.1 j hjk
                      rw [← hqj, ← hpj, bytesFn_at s p i1, bytesFn_at s q i2] at hg
                      have hp := (hv_bounds ((s[p]'i1).toNat : Int)).2
                      have hq := (hv_bounds ((s[q]'i2).toNat : Int)).2
                      have x1 := (s[p]'i1).toNat_lt
                      have x2 := (s[q]'i2).toNat_lt
                      have hjk' : (j : Int) < k := by omega
                      obtain ⟨hg1, hg2⟩ := hg
                      have u3 : IntKind.i64.wrap (hv ((s[p]'i1).toNat : Int) * 16) = hv ((s[p]'i1).toNat : Int) * 16 := IntWalk.i64_in _ (by omega)
                      have u4 : IntKind.i64.wrap (hv ((s[p]'i1).toNat : Int) * 16 + hv ((s[q]'i2).toNat : Int)) = hv ((s[p]'i1).toNat : Int) * 16 + hv ((s[q]'i2).toNat : Int) := IntWalk.i64_in _ (by omega)
                      have u5 : IntKind.u8.wrap (hv ((s[p]'i1).toNat : Int) * 16 + hv ((s[q]'i2).toNat : Int)) = hv ((s[p]'i1).toNat : Int) * 16 + hv ((s[q]'i2).toNat : Int) := by rw [IntKind.wrap_u8]; omega
                      have hbb : (hv ((s[p]'i1).toNat : Int) * 16 + hv ((s[q]'i2).toNat : Int) != hv ((s[p]'i1).toNat : Int) * 16 + hv ((s[q]'i2).toNat : Int)) = false := by simp
                      have HPJ : Hid (p = 2 * j ∧ q = 2 * j + 1) := ⟨hpj, hqj⟩
                      clear hpj hqj
                      go_wp2_with fail
                      go_quiet ((go_at_call 11; exact Calls.quiet_of_same (hexValue _ _ (by omega) (by omega))))
                      go_wp2
                      go_roundw
                      case rel => exact ⟨j + 1, by omega, by go_num, below_drewN hBr _⟩
                      case measure => simp [intOf]; omega
                    · exact absurd hjk (by omega)
                  · go_wp2
                    go_ret
                    exact ⟨rfl, HG.out.trans (hBr.mono HG.out.size)⟩
          · have hb0 : ((k : Int) == n) = false := by simp; omega
            go_wp2
            go_loop [10, 11] (fun b i => b = .int .i64 n ∧ ∃ j : Nat, j ≤ k ∧ i = .int .i64 j) (fun _ i => n - (intOf i).toNat)
            case atStart => exact ⟨rfl, 0, by omega, rfl⟩
            case round =>
              obtain ⟨rfl, j, hj, rfl⟩ := hrel
              have hjn : (j : Int) < n := by omega
              have i1 : 2 * j < s.size := by omega
              have i2 : 2 * j + 1 < s.size := by omega
              have x1 := (s[2 * j]'i1).toNat_lt
              have x2 := (s[2 * j + 1]'i2).toNat_lt
              by_cases hjk : j < k
              · have hg := FB.out.2.1 j hjk
                rw [bytesFn_at s (2 * j) (by omega), bytesFn_at s (2 * j + 1) (by omega)] at hg
                obtain ⟨hg1, hg2⟩ := hg
                go_wp2_with (go_at_call 11; refine (hexValueF _ _ (by omega) (by omega)).mono ?_; rintro e wq ⟨rfl, rfl⟩)
                go_round
                case rel => exact ⟨rfl, j + 1, by omega, by go_num⟩
                case measure => simp [intOf]; omega
              · have hg := FB.out.2.2 hk
                obtain rfl : k = j := by omega
                rw [bytesFn_at s (2 * k) (by omega), bytesFn_at s (2 * k + 1) (by omega)] at hg
                obtain ⟨wo, hwo⟩ : ∃ wo : World, wo = w' := ⟨_, rfl⟩
                subst hwo
                by_cases hg1 : hv ((s[2 * k]'i1).toNat : Int) < 0
                · clear hg
                  go_wp2_with (go_at_call 11; refine (hexValueF _ _ (by omega) (by omega)).mono ?_; rintro e wq ⟨rfl, rfl⟩)
                  go_loopw [12, 13] (fun i _ wr => ∃ j : Nat, j ≤ n ∧ i = .int .i64 j ∧ Below w3.heap.size w3 wr) (fun i _ _ => n - (intOf i).toNat)
                  case atStart => exact ⟨0, by omega, rfl, Below.refl _ _⟩
                  case round =>
                    obtain ⟨j, hj, rfl, hBr⟩ := hrel
                    by_cases hjn : (j : Int) < n
                    · have co := h3o j (by omega)
                      have co1 : wr.cell? ⟨wo.heap.size, j, none⟩ = some (.int .u8 (g j)) := by rw [hBr.cell (p := ⟨wo.heap.size, j, none⟩) (lt_of_cell co)]; exact co
                      have cd := hrow3.cell (i := j) (by omega)
                      have cd1 : wr.cell? ⟨w1.heap.size, j, none⟩ = some (if j < k then .int .u8 (hv (bytesFn s.data.toList (2 * j)) * 16 + hv (bytesFn s.data.toList (2 * j + 1))) else .int .u8 (g j)) := by rw [hBr.cell (p := ⟨w1.heap.size, j, none⟩) (lt_of_cell cd)]; exact cd
                      clear co cd h3o hrow3
                      by_cases hjk : j < k
                      · have i1 : 2 * j < s.size := by omega
                        have i2 : 2 * j + 1 < s.size := by omega
                        obtain ⟨p, hpj⟩ : ∃ p : Nat, p = 2 * j := ⟨_, rfl⟩
                        obtain ⟨q, hqj⟩ : ∃ q : Nat, q = 2 * j + 1 := ⟨_, rfl⟩
                        have u1 : IntKind.i64.wrap (2 * (j : Int)) = (p : Int) := by rw [IntWalk.i64_in _ (by omega)]; omega
                        have u2 : IntKind.i64.wrap ((p : Int) + 1) = (q : Int) := by rw [IntWalk.i64_in _ (by omega)]; omega
                        rw [← hpj] at i1
                        rw [← hqj] at i2
                        rw [if_pos hjk, ← hqj, ← hpj, bytesFn_at s p i1, bytesFn_at s q i2] at cd1
                        have hg := FB.out.2.1 j hjk
                        rw [← hqj, ← hpj, bytesFn_at s p i1, bytesFn_at s q i2] at hg
                        have hp := (hv_bounds ((s[p]'i1).toNat : Int)).2
                        have hq := (hv_bounds ((s[q]'i2).toNat : Int)).2
                        have x1 := (s[p]'i1).toNat_lt
                        have x2 := (s[q]'i2).toNat_lt
                        have hjk' : (j : Int) < k := by omega
                        obtain ⟨hg1, hg2⟩ := hg
                        have u3 : IntKind.i64.wrap (hv ((s[p]'i1).toNat : Int) * 16) = hv ((s[p]'i1).toNat : Int) * 16 := IntWalk.i64_in _ (by omega)
                        have u4 : IntKind.i64.wrap (hv ((s[p]'i1).toNat : Int) * 16 + hv ((s[q]'i2).toNat : Int)) = hv ((s[p]'i1).toNat : Int) * 16 + hv ((s[q]'i2).toNat : Int) := IntWalk.i64_in _ (by omega)
                        have u5 : IntKind.u8.wrap (hv ((s[p]'i1).toNat : Int) * 16 + hv ((s[q]'i2).toNat : Int)) = hv ((s[p]'i1).toNat : Int) * 16 + hv ((s[q]'i2).toNat : Int) := by rw [IntKind.wrap_u8]; omega
                        have hbb : (hv ((s[p]'i1).toNat : Int) * 16 + hv ((s[q]'i2).toNat : Int) != hv ((s[p]'i1).toNat : Int) * 16 + hv ((s[q]'i2).toNat : Int)) = false := by simp
                        have HPJ : Hid (p = 2 * j ∧ q = 2 * j + 1) := ⟨hpj, hqj⟩
                        clear hpj hqj
                        go_wp2_with fail
                        go_quiet ((go_at_call 11; exact Calls.quiet_of_same (hexValue _ _ (by omega) (by omega))))
                        go_wp2
                        go_roundw
                        case rel => exact ⟨j + 1, by omega, by go_num, below_drewN hBr _⟩
                        case measure => simp [intOf]; omega
                      · rw [if_neg hjk] at cd1
                        have hjk' : ¬ (j : Int) < k := by omega
                        have hbb : (g j != g j) = false := by simp
                        go_wp2
                        go_roundw
                        case rel => exact ⟨j + 1, by omega, by go_num, hBr⟩
                        case measure => simp [intOf]; omega
                    · go_wp2
                      go_ret
                      exact ⟨rfl, HG.out.trans (hBr.mono HG.out.size)⟩
                · have hg2 : hv ((s[2 * k + 1]'i2).toNat : Int) < 0 := by omega
                  clear hg
                  go_wp2_with (go_at_call 11; refine (hexValueF _ _ (by omega) (by omega)).mono ?_; rintro e wq ⟨rfl, rfl⟩)
                  go_loopw [12, 13] (fun i _ wr => ∃ j : Nat, j ≤ n ∧ i = .int .i64 j ∧ Below w3.heap.size w3 wr) (fun i _ _ => n - (intOf i).toNat)
                  case atStart => exact ⟨0, by omega, rfl, Below.refl _ _⟩
                  case round =>
                    obtain ⟨j, hj, rfl, hBr⟩ := hrel
                    by_cases hjn : (j : Int) < n
                    · have co := h3o j (by omega)
                      have co1 : wr.cell? ⟨wo.heap.size, j, none⟩ = some (.int .u8 (g j)) := by rw [hBr.cell (p := ⟨wo.heap.size, j, none⟩) (lt_of_cell co)]; exact co
                      have cd := hrow3.cell (i := j) (by omega)
                      have cd1 : wr.cell? ⟨w1.heap.size, j, none⟩ = some (if j < k then .int .u8 (hv (bytesFn s.data.toList (2 * j)) * 16 + hv (bytesFn s.data.toList (2 * j + 1))) else .int .u8 (g j)) := by rw [hBr.cell (p := ⟨w1.heap.size, j, none⟩) (lt_of_cell cd)]; exact cd
                      clear co cd h3o hrow3
                      by_cases hjk : j < k
                      · have i1 : 2 * j < s.size := by omega
                        have i2 : 2 * j + 1 < s.size := by omega
                        obtain ⟨p, hpj⟩ : ∃ p : Nat, p = 2 * j := ⟨_, rfl⟩
                        obtain ⟨q, hqj⟩ : ∃ q : Nat, q = 2 * j + 1 := ⟨_, rfl⟩
                        have u1 : IntKind.i64.wrap (2 * (j : Int)) = (p : Int) := by rw [IntWalk.i64_in _ (by omega)]; omega
                        have u2 : IntKind.i64.wrap ((p : Int) + 1) = (q : Int) := by rw [IntWalk.i64_in _ (by omega)]; omega
                        rw [← hpj] at i1
                        rw [← hqj] at i2
                        rw [if_pos hjk, ← hqj, ← hpj, bytesFn_at s p i1, bytesFn_at s q i2] at cd1
                        have hg := FB.out.2.1 j hjk
                        rw [← hqj, ← hpj, bytesFn_at s p i1, bytesFn_at s q i2] at hg
                        have hp := (hv_bounds ((s[p]'i1).toNat : Int)).2
                        have hq := (hv_bounds ((s[q]'i2).toNat : Int)).2
                        have x1 := (s[p]'i1).toNat_lt
                        have x2 := (s[q]'i2).toNat_lt
                        have hjk' : (j : Int) < k := by omega
                        obtain ⟨hg1, hg2⟩ := hg
                        have u3 : IntKind.i64.wrap (hv ((s[p]'i1).toNat : Int) * 16) = hv ((s[p]'i1).toNat : Int) * 16 := IntWalk.i64_in _ (by omega)
                        have u4 : IntKind.i64.wrap (hv ((s[p]'i1).toNat : Int) * 16 + hv ((s[q]'i2).toNat : Int)) = hv ((s[p]'i1).toNat : Int) * 16 + hv ((s[q]'i2).toNat : Int) := IntWalk.i64_in _ (by omega)
                        have u5 : IntKind.u8.wrap (hv ((s[p]'i1).toNat : Int) * 16 + hv ((s[q]'i2).toNat : Int)) = hv ((s[p]'i1).toNat : Int) * 16 + hv ((s[q]'i2).toNat : Int) := by rw [IntKind.wrap_u8]; omega
                        have hbb : (hv ((s[p]'i1).toNat : Int) * 16 + hv ((s[q]'i2).toNat : Int) != hv ((s[p]'i1).toNat : Int) * 16 + hv ((s[q]'i2).toNat : Int)) = false := by simp
                        have HPJ : Hid (p = 2 * j ∧ q = 2 * j + 1) := ⟨hpj, hqj⟩
                        clear hpj hqj
                        go_wp2_with fail
                        go_quiet ((go_at_call 11; exact Calls.quiet_of_same (hexValue _ _ (by omega) (by omega))))
                        go_wp2
                        go_roundw
                        case rel => exact ⟨j + 1, by omega, by go_num, below_drewN hBr _⟩
                        case measure => simp [intOf]; omega
                      · rw [if_neg hjk] at cd1
                        have hjk' : ¬ (j : Int) < k := by omega
                        have hbb : (g j != g j) = false := by simp
                        go_wp2
                        go_roundw
                        case rel => exact ⟨j + 1, by omega, by go_num, hBr⟩
                        case measure => simp [intOf]; omega
                    · go_wp2
                      go_ret
                      exact ⟨rfl, HG.out.trans (hBr.mono HG.out.size)⟩
      · have hneq : (((s.size : Nat) : Int) != 2 * (n : Int)) = true := by simp; omega
        go_wp2_with fail
        refine (zz_len F a2 n c2 s what _ hF2 hn1 hs1 hne).mono ?_
        rintro e w3 ⟨t, v, rfl, hb3⟩
        have h3o := horig.below hb3
        have h3d : ByteRow w3 a2 n g := fun h0 => by
          obtain ⟨ha, hr⟩ := hrow2 h0
          have hlt := hr.lt
          exact ⟨w1.heap.size, 0, ha, fun i hi => by rw [Nat.zero_add, hb3.cell (p := ⟨w1.heap.size, i, none⟩) hlt]; exact hr.cell hi⟩
        clear hne hr hr1 hrow1 hrow2 horig
        go_wp2_with fail
        refine (sameB a2 a1 n c2 c1 g _ hn1 h3d h3o).mono ?_
        rintro e w4 ⟨rfl, hb4⟩
        go_wp2
        go_ret
        exact ⟨rfl, (HB2.out.trans (hb3.mono HB2.out.size)).trans (hb4.mono (Nat.le_trans HB2.out.size hb3.size))⟩
end Go.Proofs.Qxb6604560aFmt
