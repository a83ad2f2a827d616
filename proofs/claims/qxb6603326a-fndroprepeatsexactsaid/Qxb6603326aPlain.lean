/-
  The chain, what is kept of it, and the links; no Go in sight.
-/
namespace Go.Proofs.Qxb6603326a

/-- The chain from i: place 0 is i, each next place is where h leads. -/
def cs (h : Nat → Int) (i : Nat) : Nat → Int
  | 0 => i
  | p + 1 => h (cs h i p).toNat

def WF (h : Nat → Int) (n : Nat) : Prop := ∀ k, k < n → h k < 0 ∨ ((k : Int) < h k ∧ h k < n)

/-- l is the chain's length. -/
structure Len (c : Nat → Int) (n l : Nat) : Prop where
  pos : 0 < l
  le : l ≤ n
  stop : c l < 0
  at_ : ∀ p, p < l → (p : Int) ≤ c p ∧ c p < n
  mono : ∀ a b, a < b → b < l → c a < c b

theorem len_from (h : Nat → Int) (i n : Nat) (hw : WF h n) : ∀ (d p : Nat), (∀ q, q ≤ p → (q : Int) ≤ cs h i q ∧ cs h i q < n) → n - p ≤ d → ∃ l, p < l ∧ cs h i l < 0 ∧ ∀ q, q < l → (q : Int) ≤ cs h i q ∧ cs h i q < n
  | 0, p, hq, hd => by
    have := hq p (Nat.le_refl _)
    omega
  | d + 1, p, hq, hd => by
    have hp := hq p (Nat.le_refl _)
    have e : cs h i (p + 1) = h (cs h i p).toNat := rfl
    rcases hw (cs h i p).toNat (by omega) with h1 | h1
    · exact ⟨p + 1, by omega, by rw [e]; exact h1, fun q hq' => hq q (by omega)⟩
    · obtain ⟨l, h2, h3, h4⟩ := len_from h i n hw d (p + 1) (fun q hq' => by
        rcases Nat.lt_or_ge p q with h5 | h5
        · obtain rfl : q = p + 1 := by omega
          rw [e]
          omega
        · exact hq q h5) (by omega)
      exact ⟨l, by omega, h3, h4⟩

theorem len_ex (h : Nat → Int) (i n : Nat) (hw : WF h n) (hi : i < n) : ∃ l, Len (cs h i) n l := by
  obtain ⟨l, h1, h2, h3⟩ := len_from h i n hw n 0 (fun q hq => by
    obtain rfl : q = 0 := by omega
    show (0 : Int) ≤ (i : Int) ∧ (i : Int) < n
    omega) (by omega)
  refine ⟨l, ⟨h1, ?_, h2, h3, ?_⟩⟩
  · have := h3 (l - 1) (by omega)
    omega
  · intro a b hab hb
    have step : ∀ p, p + 1 < l → cs h i p < cs h i (p + 1) := fun p hp => by
      have h5 := h3 p (by omega)
      have h6 := h3 (p + 1) hp
      have e : cs h i (p + 1) = h (cs h i p).toNat := rfl
      rcases hw (cs h i p).toNat (by omega) with h1 | h1
      · omega
      · omega
    induction b with
    | zero => omega
    | succ b ih =>
      have h7 := step b hb
      rcases Nat.lt_or_ge a b with h | h
      · have := ih h (by omega)
        omega
      · obtain rfl : a = b := by omega
        exact h7

/-- The name at place p is not the name at an earlier place. -/
def New (S : Nat → ByteArray) (c : Nat → Int) (p : Nat) : Prop := ∀ b, b < p → S (c b).toNat ≠ S (c p).toNat

open Classical in
/-- What is kept of the first p places. -/
noncomputable def KL (S : Nat → ByteArray) (c : Nat → Int) : Nat → List Nat
  | 0 => []
  | p + 1 => if New S c p then KL S c p ++ [(c p).toNat] else KL S c p
section
variable {S : Nat → ByteArray} {c : Nat → Int}
theorem KL_new {p : Nat} (h : New S c p) : KL S c (p + 1) = KL S c p ++ [(c p).toNat] := by
  rw [KL]
  exact if_pos h
theorem KL_old {p : Nat} (h : ¬ New S c p) : KL S c (p + 1) = KL S c p := by
  rw [KL]
  exact if_neg h
theorem KL_prefix (p : Nat) : ∀ q, p ≤ q → ∃ t, KL S c q = KL S c p ++ t
  | 0, h => by
    obtain rfl : p = 0 := by omega
    exact ⟨[], by simp⟩
  | q + 1, h => by
    rcases Nat.lt_or_ge q p with h1 | h1
    · obtain rfl : p = q + 1 := by omega
      exact ⟨[], by simp⟩
    · obtain ⟨t, ht⟩ := KL_prefix p q h1
      by_cases hn : New S c q
      · exact ⟨t ++ [(c q).toNat], by rw [KL_new hn, ht, List.append_assoc]⟩
      · exact ⟨t, by rw [KL_old hn, ht]⟩
theorem KL_mem : ∀ (p x : Nat), x ∈ KL S c p → ∃ b, b < p ∧ x = (c b).toNat
  | 0, x, h => by cases h
  | p + 1, x, h => by
    by_cases hn : New S c p
    · rw [KL_new hn, List.mem_append, List.mem_singleton] at h
      rcases h with h | h
      · obtain ⟨b, hb, e⟩ := KL_mem p x h
        exact ⟨b, by omega, e⟩
      · exact ⟨p, by omega, h⟩
    · rw [KL_old hn] at h
      obtain ⟨b, hb, e⟩ := KL_mem p x h
      exact ⟨b, by omega, e⟩
theorem KL_len : ∀ p : Nat, (KL S c p).length ≤ p
  | 0 => by simp [KL]
  | p + 1 => by
    have := KL_len p
    by_cases hn : New S c p
    · rw [KL_new hn]; simp; omega
    · rw [KL_old hn]; omega
theorem KL_one : KL S c 1 = [(c 0).toNat] := by
  rw [KL_new (fun b hb => by omega)]
  rfl
theorem KL_pos (p : Nat) (h : 0 < p) : 0 < (KL S c p).length := by
  obtain ⟨t, ht⟩ := KL_prefix (S := S) (c := c) 1 p h
  rw [ht, KL_one]
  simp
/-- The kept places, in order. -/
noncomputable def kap (S : Nat → ByteArray) (c : Nat → Int) (l : Nat) (a : Nat) : Nat := (KL S c l).getD a 0
theorem kap_at (l p a : Nat) (hp : p ≤ l) (ha : a < (KL S c p).length) : kap S c l a = (KL S c p).getD a 0 := by
  obtain ⟨t, ht⟩ := KL_prefix (S := S) (c := c) p l hp
  unfold kap
  rw [ht, List.getD_eq_getElem?_getD, List.getElem?_append_left ha, List.getD_eq_getElem?_getD]
theorem kap_new (l p : Nat) (hp : p < l) (hn : New S c p) : kap S c l (KL S c p).length = (c p).toNat := by
  rw [kap_at l (p + 1) _ hp (by rw [KL_new hn]; simp), KL_new hn, List.getD_eq_getElem?_getD, List.getElem?_append_right (Nat.le_refl _)]
  simp
theorem kap_mem (l p a : Nat) (hp : p ≤ l) (ha : a < (KL S c p).length) : ∃ b, b < p ∧ kap S c l a = (c b).toNat := by
  rw [kap_at l p a hp ha, List.getD_eq_getElem?_getD, List.getElem?_eq_getElem ha]
  exact KL_mem p _ (List.getElem_mem _)
end

/-- The links behind r kept places: each leads to the next kept one, the last to e; every other link as it was. -/
def lk (h : Nat → Int) (k : Nat → Nat) : Nat → Int → Nat → Int
  | 0, _ => h
  | r + 1, e => fun x => if x = k r then e else lk h k r (k r : Int) x
theorem lk_other (h : Nat → Int) (k : Nat → Nat) (x : Nat) : ∀ (r : Nat) (e : Int), (∀ a, a < r → k a ≠ x) → lk h k r e x = h x
  | 0, _, _ => rfl
  | r + 1, e, hk => by
    show (if x = k r then e else _) = _
    rw [if_neg (fun e => hk r (by omega) e.symm)]
    exact lk_other h k x r _ (fun a ha => hk a (by omega))
theorem lk_last (h : Nat → Int) (k : Nat → Nat) (r : Nat) (e : Int) : lk h k (r + 1) e (k r) = e := by
  show (if k r = k r then e else _) = _
  rw [if_pos rfl]
theorem lk_set (h : Nat → Int) (k : Nat → Nat) (r : Nat) (e e' : Int) (x : Nat) : (if x = k r then e' else lk h k (r + 1) e x) = lk h k (r + 1) e' x := by
  show (if x = k r then e' else (if x = k r then e else _)) = (if x = k r then e' else _)
  by_cases hx : x = k r
  · rw [if_pos hx, if_pos hx]
  · rw [if_neg hx, if_neg hx, if_neg hx]

section
variable {S : Nat → ByteArray} {h : Nat → Int} {i n l : Nat}
/-- At place p the link of that place is as it was. -/
theorem lk_here (hl : Len (cs h i) n l) (p : Nat) (hp : p < l) (r : Nat) (hr : r ≤ (KL S (cs h i) p).length) (e : Int) : lk h (kap S (cs h i) l) r e (cs h i p).toNat = cs h i (p + 1) := by
  rw [lk_other]
  · rfl
  · intro a ha
    obtain ⟨b, hb, e⟩ := kap_mem (S := S) (c := cs h i) l p a (by omega) (by omega)
    rw [e]
    have h1 := hl.mono b p hb hp
    have h2 := hl.at_ b (by omega)
    omega
/-- A new name: the links are as they were. -/
theorem lk_new (hl : Len (cs h i) n l) (p : Nat) (hp : p < l) (r : Nat) (hr : (KL S (cs h i) p).length = r + 1) (hn : New S (cs h i) p) (x : Nat) :
    lk h (kap S (cs h i) l) (r + 2) (cs h i (p + 1)) x = lk h (kap S (cs h i) l) (r + 1) (cs h i p) x := by
  have hk : kap S (cs h i) l (r + 1) = (cs h i p).toNat := by rw [← hr]; exact kap_new l p hp hn
  have h0 := hl.at_ p hp
  show (if x = kap S (cs h i) l (r + 1) then _ else lk h _ (r + 1) (kap S (cs h i) l (r + 1) : Int) x) = _
  rw [hk]
  by_cases hx : x = (cs h i p).toNat
  · rw [if_pos hx, hx, lk_here hl p hp (r + 1) (by omega)]
  · rw [if_neg hx, show (((cs h i p).toNat : Nat) : Int) = cs h i p by omega]
end
end Go.Proofs.Qxb6603326a
