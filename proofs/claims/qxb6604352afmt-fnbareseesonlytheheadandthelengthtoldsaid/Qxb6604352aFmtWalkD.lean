import Derived.Test.Qxb6604352aFmtWalkC
import Derived.Lib.BufferWrite
import Derived.Deep.OwnRows
namespace Go.Proofs.Qxb6604352aFmt
open Go.RowKit Go.Kit Go.Extern.Stop Go.Stop Go.Extern

theorem setRow_alloc (w : World) (cur arr : Array Value) (t : TypeId) : (w.alloc (.cells cur t)).setRow w.heap.size arr = w.alloc (.cells arr t) := by
  show ({ w with heap := (w.heap.push (.cells cur t)).modify w.heap.size _ } : World) = { w with heap := w.heap.push (.cells arr t) }
  congr 1
  apply Array.ext
  · simp
  · intro i h1 h2
    rw [Array.getElem_modify]
    by_cases e : w.heap.size = i
    · subst e; simp
    · have h3 : i < w.heap.size := by simp at h2; omega
      simp [e, Array.getElem_push, h3]

theorem make26 (n : Nat) (h : n ≤ 1048576) (w : World) :
    (Instr.makeSlice 26 (.int .i64 (n : Int)) (.int .i64 (n : Int))).run Tryf.prog w = .ok (.slice (some ⟨w.heap.size, 0, none⟩) n n) (w.alloc (.cells ((List.replicate n (0 : Int)).map (Value.int .u8)).toArray 5)) := by
  have h1 := run_make_row' (P := Tryf.prog) 26 5 (.int .u8 0) 1 Tryf.underlying26 (by kernel_rfl) rfl .i64 .i64 n (by omega) (by omega) w
  rw [h1]
  congr 3
  apply Array.toList_inj.1
  apply List.ext_getElem
  · simp [madeCells]
  · intro i h1 h2
    simp [madeCells, Nat.mod_one]

theorem copy26 (n : Nat) (w : World) (zs : List Int) (s : ByteArray) (hs : 101 ≤ s.size) (hn : 101 ≤ n) (hz : zs.length = n) (ty : TypeId) :
    (Builtin.copy_ #[26, 9] ty #[.slice (some ⟨w.heap.size, 0, none⟩) n n, .string (s.extract 0 101)]).run Tryf.prog (w.alloc (.cells (zs.map (Value.int .u8)).toArray 5)) =
      .ok (.int .i64 101) (w.alloc (.cells (((s.data.toList.take 101).map (fun b => (b.toNat : Int)) ++ zs.drop 101).map (Value.int .u8)).toArray 5)) := by
  have hsz : (s.extract 0 101).size = 101 := by simp; omega
  have h1 := Lib.run_copy_row_string (P := Tryf.prog) (w.alloc (.cells (zs.map (Value.int .u8)).toArray 5)) 26 9 ty 5 w.heap.size 0 n n (s.extract 0 101) (zs.map (Value.int .u8)).toArray 5 Tryf.underlying26 (by kernel_rfl) (heap_alloc_new _ _) (by omega) (by simp; omega)
  rw [h1, setRow_alloc, hsz]
  congr 3
  simp [Lib.byteCells]
  rfl

/-- The first 101 bytes of s, then the byte c as often as the length asks. -/
def tailed (s : ByteArray) (c : UInt8) : ByteArray := ⟨(s.data.toList.take 101 ++ List.replicate (s.size - 101) c).toArray⟩

theorem tl_left (s : ByteArray) (c : UInt8) (k : Nat) (hs : 101 ≤ s.size) (j : Nat) (hj : j < 101) (h : j < (s.data.toList.take 101 ++ List.replicate k c).length) :
    (s.data.toList.take 101 ++ List.replicate k c)[j] = s[j]'(by omega) := by
  have hl : s.data.toList.length = s.size := by simp
  rw [List.getElem_append_left (by rw [List.length_take]; omega), List.getElem_take]
  rfl
theorem tl_right (s : ByteArray) (c : UInt8) (k : Nat) (hs : 101 ≤ s.size) (j : Nat) (hj : ¬ j < 101) (h : j < (s.data.toList.take 101 ++ List.replicate k c).length) :
    (s.data.toList.take 101 ++ List.replicate k c)[j] = c := by
  have hl : s.data.toList.length = s.size := by simp
  rw [List.getElem_append_right (by rw [List.length_take]; omega)]
  simp

theorem conv26 (w : World) (zs : List Int) (s : ByteArray) (c : UInt8) (hs : 101 ≤ s.size) (hz : zs.length = s.size)
    (h1 : ∀ j (hj : j < 101), zs[j]? = some ((s[j]'(by omega)).toNat : Int)) (h2 : ∀ j, 101 ≤ j → j < s.size → zs[j]? = some (c.toNat : Int)) :
    (convert 26 9 (.slice (some ⟨w.heap.size, 0, none⟩) s.size s.size)).run Tryf.prog (w.alloc (.cells (zs.map (Value.int .u8)).toArray 5)) = .ok (.string (tailed s c)) (w.alloc (.cells (zs.map (Value.int .u8)).toArray 5)) := by
  have hl : s.data.toList.length = s.size := by simp
  have e : s.size = (s.data.toList.take 101 ++ List.replicate (s.size - 101) c).length := by simp; omega
  have hh : (convert 26 9 (.slice (some ⟨w.heap.size, 0, none⟩) (s.data.toList.take 101 ++ List.replicate (s.size - 101) c).length s.size)).run Tryf.prog (w.alloc (.cells (zs.map (Value.int .u8)).toArray 5)) = .ok (.string (tailed s c)) (w.alloc (.cells (zs.map (Value.int .u8)).toArray 5)) := by
    refine run_convert_bytes_back _ 26 9 5 _ s.size _ Tryf.underlying26 Tryf.underlying5 Tryf.underlying9 fun j hj => ?_
    have ea : (⟨w.heap.size, 0, none⟩ : Addr).add j = ⟨w.heap.size, j, none⟩ := by
      rcases Nat.eq_zero_or_pos j with h0 | h0
      · subst h0; rfl
      · simp [Addr.add]; omega
    rw [ea]
    by_cases hj1 : j < 101
    · rw [tl_left s c _ hs j hj1 hj]
      have := h1 j hj1
      simp [this]
    · rw [tl_right s c _ hs j hj1 hj]
      have := h2 j (by omega) (by omega)
      simp [this]
  rw [← e] at hh
  exact hh

theorem tailed_size (s : ByteArray) (c : UInt8) (hs : 101 ≤ s.size) : (tailed s c).size = s.size := by
  show (s.data.toList.take 101 ++ List.replicate (s.size - 101) c).toArray.size = s.size
  simp; omega
theorem tailed_at (s : ByteArray) (c : UInt8) (hs : 101 ≤ s.size) (i : Nat) (hi : i ≤ 100) (h3 : i < (tailed s c).size) : (tailed s c)[i] = s[i]'(by omega) := by
  rw [← tl_left s c (s.size - 101) hs i (by omega) (by simp; omega)]
  rfl
/-- The head's length is fixed by the first 101 bytes. -/
theorem headAt_unique (s t : ByteArray) (n m : Nat) (h3 : 97 ≤ n) (h4 : 97 ≤ m) (hs : HeadAt s n) (ht : HeadAt t m) (h : ∀ i (h1 : i < s.size) (h2 : i < t.size), i ≤ 100 → s[i] = t[i]) : n = m := by
  obtain ⟨s1, s2, s3, s4⟩ := hs
  obtain ⟨t1, t2, t3, t4⟩ := ht
  rcases Nat.lt_trichotomy n m with hlt | he | hlt
  · have a := s3 m hlt t2
    rcases t4 with t4 | t4
    · omega
    · rw [h m (by omega) (by omega) t2] at a
      rw [a] at t4; cases t4
  · exact he
  · have a := t3 n hlt s2
    rcases s4 with s4 | s4
    · omega
    · rw [h n (by omega) (by omega) s2, a] at s4; cases s4
theorem tailed_extract (s : ByteArray) (c : UInt8) (hs : 101 ≤ s.size) (n : Nat) (hn : n ≤ 100) : (tailed s c).extract 0 n = s.extract 0 n := by
  apply ByteArray.ext
  apply Array.toList_inj.1
  rw [Lib.extract_data, Lib.extract_data]
  have hl : s.data.toList.length = s.size := by simp
  show List.take (n - 0) (List.drop 0 (s.data.toList.take 101 ++ List.replicate (s.size - 101) c)) = _
  rw [List.drop_zero, List.drop_zero, List.take_append_of_le_length (by rw [List.length_take]; omega), List.take_take, Nat.min_eq_left (by omega)]
theorem bare_same (s G G2 : ByteArray) (c : UInt8) (n m : Nat) (h3 : 97 ≤ n) (h4 : 97 ≤ m) (h5 : m ≤ 100) (hs : HeadAt s n) (ht : HeadAt (tailed s c) m) (hG : G = s.extract 0 n ++ sufB s.size) (hG2 : G2 = (tailed s c).extract 0 m ++ sufB (tailed s c).size) : G2 = G := by
  have hs1 : 101 ≤ s.size := hs.1
  have e := headAt_unique s (tailed s c) n m h3 h4 hs ht (fun i h1 h2 hi => (tailed_at s c hs1 i hi h2).symm)
  subst e
  rw [hG, hG2, tailed_size s c hs1, tailed_extract s c hs1 n h5]
theorem bare_head (s G : ByteArray) (n : Nat) (h3 : 97 ≤ n) (h4 : n ≤ 100) (hs : HeadAt s n) (hG : G = s.extract 0 n ++ sufB s.size) : 97 ≤ G.size ∧ G.extract 0 97 = s.extract 0 97 := by
  have hs1 : 101 ≤ s.size := hs.1
  have hz : (s.extract 0 n).size = n := by simp; omega
  refine ⟨by rw [hG]; simp only [ByteArray.size_append, hz]; omega, ?_⟩
  rw [hG, ByteArray.extract_append, hz, show 97 - n = 0 by omega]
  apply ByteArray.ext
  apply Array.toList_inj.1
  rw [ByteArray.data_append, Array.toList_append, Lib.extract_data, Lib.extract_data, Lib.extract_data, Lib.extract_data]
  simp [List.take_take, h3]
end Go.Proofs.Qxb6604352aFmt
