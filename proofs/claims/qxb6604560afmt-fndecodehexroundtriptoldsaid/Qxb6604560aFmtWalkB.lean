/-
  hexValue, Decode.
-/
import Derived.Test.Qxb6604560aFmtWalkA
import Derived.Lib.HexFns
import Derived.Lib.HexFns2
namespace Go.Proofs.Qxb6604560aFmt
open Go.RowKit Go.Extern.Stop Go.Stop Go.Extern

/-- The value of a hexadecimal digit, in either case, or -1. -/
def hv (c : Int) : Int := if 48 ≤ c ∧ c ≤ 57 then c - 48 else if 97 ≤ c ∧ c ≤ 102 then c - 97 + 10 else if 65 ≤ c ∧ c ≤ 70 then c - 65 + 10 else -1

set_option maxHeartbeats 800000 in
theorem hexValue (c : Int) (w : World) (h0 : 0 ≤ c) (h1 : c ≤ 255) : Calls Tryf.prog 11 #[.int .u8 c] w fun e w' => e = .returned (.int .i64 (hv c)) ∧ w' = w := by
  by_cases a : 48 ≤ c ∧ c ≤ 57
  · have e : hv c = c - 48 := by unfold hv; rw [if_pos a]
    obtain ⟨a1, a2⟩ := a
    rw [e]
    clear e
    go_enter Tryf.func11, Tryf.ntmps11
    go_wp2
    go_ret
    exact ⟨rfl, rfl⟩
  · by_cases b : 97 ≤ c ∧ c ≤ 102
    · have e : hv c = c - 97 + 10 := by unfold hv; rw [if_neg a, if_pos b]
      obtain ⟨b1, b2⟩ := b
      rw [e]
      clear e
      have a3 : 57 < c := by omega
      clear a
      go_enter Tryf.func11, Tryf.ntmps11
      go_wp2
      go_ret
      exact ⟨rfl, rfl⟩
    · by_cases d : 65 ≤ c ∧ c ≤ 70
      · have e : hv c = c - 65 + 10 := by unfold hv; rw [if_neg a, if_neg b, if_pos d]
        obtain ⟨d1, d2⟩ := d
        rw [e]
        clear e
        have a3 : 57 < c := by omega
        have a4 : c < 97 := by omega
        clear a b
        go_enter Tryf.func11, Tryf.ntmps11
        go_wp2
        go_ret
        exact ⟨rfl, rfl⟩
      · have e : hv c = -1 := by unfold hv; rw [if_neg a, if_neg b, if_neg d]
        rw [e]
        clear e
        go_enter Tryf.func11, Tryf.ntmps11
        go_wp2
        all_goals first | (exfalso; omega) | (go_ret; exact ⟨rfl, rfl⟩)

/-! ### What Decode decodes, by digits' values -/

set_option maxRecDepth 100000 in
theorem v_fin : ∀ c : Fin 256, (hv (c.val : Int) < 0 → 15 < Lib.Hx.v (UInt8.ofNat c.val)) ∧ (0 ≤ hv (c.val : Int) → ((Lib.Hx.v (UInt8.ofNat c.val) : Nat) : Int) = hv (c.val : Int) ∧ Lib.Hx.v (UInt8.ofNat c.val) ≤ 15) := by decide +kernel
theorem v_of (c : UInt8) : (hv (c.toNat : Int) < 0 → 15 < Lib.Hx.v c) ∧ (0 ≤ hv (c.toNat : Int) → ((Lib.Hx.v c : Nat) : Int) = hv (c.toNat : Int) ∧ Lib.Hx.v c ≤ 15) := by
  have h := v_fin ⟨c.toNat, c.toNat_lt⟩
  have e : UInt8.ofNat c.toNat = c := by simp
  simp only [e] at h
  exact h

/-- k is the first pair that holds a non-digit, or n. -/
def FirstBad (X : Nat → Int) (n k : Nat) : Prop := k ≤ n ∧ (∀ i, i < k → 0 ≤ hv (X (2 * i)) ∧ 0 ≤ hv (X (2 * i + 1))) ∧ (k < n → hv (X (2 * k)) < 0 ∨ hv (X (2 * k + 1)) < 0)
theorem FirstBad.unique {X : Nat → Int} {n k j : Nat} (h : FirstBad X n k) (h2 : FirstBad X n j) : k = j := by
  obtain ⟨a1, a2, a3⟩ := h
  obtain ⟨b1, b2, b3⟩ := h2
  rcases Nat.lt_trichotomy k j with h | h | h
  · have c := b2 k h
    have d := a3 (by omega)
    omega
  · exact h
  · have c := a2 j h
    have d := b3 (by omega)
    omega

def bytesFn (l : List UInt8) (i : Nat) : Int := ((l.getD i 0).toNat : Int)

theorem decode_spec : ∀ (n : Nat) (l : List UInt8), l.length = 2 * n → ∃ k, FirstBad (bytesFn l) n k ∧ (Lib.Hx.decode l).1.length = k ∧
    (∀ i, i < k → (((Lib.Hx.decode l).1.getD i 0).toNat : Int) = hv (bytesFn l (2 * i)) * 16 + hv (bytesFn l (2 * i + 1))) ∧ ((k = n ∧ (Lib.Hx.decode l).2 = .ok) ∨ (k < n ∧ ∃ c, (Lib.Hx.decode l).2 = .bad c))
  | 0, l, h => by
    have : l = [] := List.length_eq_zero_iff.1 (by omega)
    subst this
    exact ⟨0, ⟨by omega, fun i hi => by omega, fun h => by omega⟩, by rw [Lib.Hx.decode_nil]; rfl, fun i hi => by omega, Or.inl ⟨rfl, by rw [Lib.Hx.decode_nil]⟩⟩
  | n + 1, [], h => by simp at h
  | n + 1, [_], h => by simp at h; omega
  | n + 1, p :: q :: t, h => by
    obtain ⟨k, hf, hl, hd, he⟩ := decode_spec n t (by simp at h; omega)
    have hp := v_of p
    have hq := v_of q
    have e0 : bytesFn (p :: q :: t) 0 = (p.toNat : Int) := rfl
    have e1 : bytesFn (p :: q :: t) 1 = (q.toNat : Int) := rfl
    have es : ∀ i, bytesFn (p :: q :: t) (i + 2) = bytesFn t i := fun i => rfl
    by_cases hp0 : hv (p.toNat : Int) < 0
    · have : Lib.Hx.decode (p :: q :: t) = ([], .bad p) := by rw [Lib.Hx.decode_two, if_pos (hp.1 hp0)]
      rw [this]
      exact ⟨0, ⟨by omega, fun i hi => by omega, fun _ => Or.inl hp0⟩, rfl, fun i hi => by omega, Or.inr ⟨by omega, p, rfl⟩⟩
    · by_cases hq0 : hv (q.toNat : Int) < 0
      · have : Lib.Hx.decode (p :: q :: t) = ([], .bad q) := by
          rw [Lib.Hx.decode_two, if_neg (by have := (hp.2 (by omega)).2; omega), if_pos (hq.1 hq0)]
        rw [this]
        exact ⟨0, ⟨by omega, fun i hi => by omega, fun _ => Or.inr hq0⟩, rfl, fun i hi => by omega, Or.inr ⟨by omega, q, rfl⟩⟩
      · have p2 := hp.2 (by omega)
        have q2 := hq.2 (by omega)
        have : Lib.Hx.decode (p :: q :: t) = (UInt8.ofNat (Lib.Hx.v p * 16 + Lib.Hx.v q) :: (Lib.Hx.decode t).1, (Lib.Hx.decode t).2) := by
          rw [Lib.Hx.decode_two, if_neg (by omega), if_neg (by omega)]
        rw [this]
        obtain ⟨f1, f2, f3⟩ := hf
        refine ⟨k + 1, ⟨by omega, fun i hi => ?_, fun hk => ?_⟩, by simp [hl], fun i hi => ?_, ?_⟩
        · cases i with
          | zero => exact ⟨by show 0 ≤ hv (p.toNat : Int); omega, by show 0 ≤ hv (q.toNat : Int); omega⟩
          | succ i =>
            have := f2 i (by omega)
            rw [show 2 * (i + 1) = 2 * i + 2 by omega, show 2 * i + 2 + 1 = 2 * i + 1 + 2 by omega, es, es]
            exact this
        · have := f3 (by omega)
          rw [show 2 * (k + 1) = 2 * k + 2 by omega, show 2 * k + 2 + 1 = 2 * k + 1 + 2 by omega, es, es]
          exact this
        · cases i with
          | zero =>
            show ((UInt8.ofNat (Lib.Hx.v p * 16 + Lib.Hx.v q)).toNat : Int) = hv (p.toNat : Int) * 16 + hv (q.toNat : Int)
            rw [UInt8.toNat_ofNat', Nat.mod_eq_of_lt (by omega)]
            omega
          | succ i =>
            have := hd i (by omega)
            rw [show 2 * (i + 1) = 2 * i + 2 by omega, show 2 * i + 2 + 1 = 2 * i + 1 + 2 by omega, es, es]
            exact this
        · rcases he with ⟨h1, h2⟩ | ⟨h1, c, h2⟩
          · exact Or.inl ⟨by omega, h2⟩
          · exact Or.inr ⟨by omega, c, h2⟩
end Go.Proofs.Qxb6604560aFmt
