/-
  Plain lemmas on bytes, continued: pieces of a text, its leading digits.
-/
import Derived.Test.YbulkcmjuPlain
import Derived.Lib.IndexBytes
namespace Go.Proofs.Ybulkcmju

/-- Byte i of s, 0 past its end. -/
def ch (s : ByteArray) (i : Nat) : UInt8 := s.data.toList.getD i 0

theorem ch_get (s : ByteArray) (i : Nat) (h : i < s.size) : s[i] = ch s i := by
  unfold ch
  have h' : i < s.data.toList.length := h
  rw [List.getD_eq_getElem?_getD, List.getElem?_eq_getElem h']
  rfl

theorem ch_end (s : ByteArray) (i : Nat) (h : s.size ≤ i) : ch s i = 0 := by
  unfold ch
  have h' : s.data.toList.length ≤ i := h
  rw [List.getD_eq_getElem?_getD, List.getElem?_eq_none h']
  rfl

theorem dig0 : digB 0 = false := by decide

theorem ch_dig (s : ByteArray) (i : Nat) (h : digB (ch s i) = true) : i < s.size := by
  by_cases e : i < s.size
  · exact e
  · rw [ch_end s i (by omega), dig0] at h
    cases h

theorem lead_ge (l : List UInt8) (k : Nat) : k ≤ lead l ↔ ∀ j, j < k → digB (l.getD j 0) = true := by
  induction l generalizing k with
  | nil =>
    simp only [lead, List.takeWhile_nil, List.length_nil, List.getD_nil, dig0]
    constructor
    · intro h j hj; omega
    · intro h
      by_cases e : k = 0
      · omega
      · have := h 0 (by omega); cases this
  | cons a t ih =>
    by_cases ha : digB a = true
    · have e : lead (a :: t) = lead t + 1 := by simp [lead, ha]
      rw [e]
      match k with
      | 0 => simp
      | k + 1 =>
        rw [Nat.add_le_add_iff_right, ih]
        constructor
        · intro h j hj
          match j with
          | 0 => simpa using ha
          | j + 1 => simpa using h j (by omega)
        · intro h j hj
          simpa using h (j + 1) (by omega)
    · have ha' : digB a = false := by simpa using ha
      have e : lead (a :: t) = 0 := by simp [lead, ha']
      rw [e]
      constructor
      · intro h j hj; omega
      · intro h
        by_cases e : k = 0
        · omega
        · have := h 0 (by omega)
          simp [ha'] at this

theorem tail_size (s : ByteArray) (a : Nat) : (s.extract a s.size).size = s.size - a := by simp

theorem tail_ch (s : ByteArray) (a j : Nat) : ch (s.extract a s.size) j = ch s (a + j) := by
  unfold ch
  rw [Lib.extract_to_end, List.getD_eq_getElem?_getD, List.getD_eq_getElem?_getD, List.getElem?_drop]

theorem piece_ch (s : ByteArray) (a b j : Nat) (h : j < b - a) : ch (s.extract a b) j = ch s (a + j) := by
  unfold ch
  rw [Lib.extract_data, List.getD_eq_getElem?_getD, List.getD_eq_getElem?_getD, List.getElem?_take, if_pos h, List.getElem?_drop]

theorem bytes_ext {a b : ByteArray} (h : a.data.toList = b.data.toList) : a = b := by
  cases a with | mk a => cases b with | mk b =>
  simp at h
  rw [h]

theorem tail_tail (s : ByteArray) (a b : Nat) : (s.extract a s.size).extract b (s.extract a s.size).size = s.extract (a + b) s.size := by
  apply bytes_ext
  rw [Lib.extract_to_end, Lib.extract_to_end, Lib.extract_to_end, List.drop_drop]

theorem lead_ch (s : ByteArray) (k : Nat) : k ≤ lead s.data.toList ↔ ∀ j, j < k → digB (ch s j) = true := lead_ge _ _

theorem lead_tail (s : ByteArray) (a k : Nat) : k ≤ lead (s.extract a s.size).data.toList ↔ ∀ j, j < k → digB (ch s (a + j)) = true := by
  rw [lead_ch]
  simp only [tail_ch]

theorem lead_size (s : ByteArray) : lead s.data.toList ≤ s.size := lead_le _

end Go.Proofs.Ybulkcmju
