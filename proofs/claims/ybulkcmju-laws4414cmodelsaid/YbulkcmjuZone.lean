/-
  scanZone computes a plain function: 'zfun'.
-/
import Derived.Test.YbulkcmjuScan2
import Derived.Test.YbulkcmjuPlain2
namespace Go.Proofs.Ybulkcmju
open Go.RowKit

structure Zn where
  t : ByteArray
  f : Int
  n : Bool
  h : Int
  m : Int
  d : ByteArray
abbrev Zn.val (z : Zn) : Value := zval z.t z.f z.n z.h z.m z.d
abbrev Zn.none : Zn := ⟨⟨#[]⟩, 0, false, 0, 0, ⟨#[]⟩⟩

/-- The head of a signed designator: a sign and two digits. -/
def headB (s : ByteArray) : Bool := decide (3 ≤ s.size) && (decide ((ch s 0).toNat = 43) || decide ((ch s 0).toNat = 45)) && digB (ch s 1) && digB (ch s 2)
def negB (s : ByteArray) : Bool := decide ((ch s 0).toNat = 45)
def extB (s : ByteArray) : Bool := decide (s.size = 6) && decide ((ch s 3).toNat = 58) && digB (ch s 4) && digB (ch s 5)
def basB (s : ByteArray) : Bool := decide (s.size = 5) && digB (ch s 3) && digB (ch s 4)
def decB (s : ByteArray) : Bool := decide (5 ≤ s.size) && decide ((ch s 3).toNat = 46) && decide (s.size - 4 ≤ lead (s.extract 4 s.size).data.toList)

def zfun (s : ByteArray) : Zn × Bool :=
  if (s.toList == [90]) = true then (⟨s, 0, false, 0, 0, ⟨#[]⟩⟩, true)
  else if headB s = false then (Zn.none, false)
  else if s.size = 3 then (⟨s, 1, negB s, two (ch s 1) (ch s 2), 0, ⟨#[]⟩⟩, true)
  else if extB s = true then (⟨s, 2, negB s, two (ch s 1) (ch s 2), two (ch s 4) (ch s 5), ⟨#[]⟩⟩, true)
  else if basB s = true then (⟨s, 3, negB s, two (ch s 1) (ch s 2), two (ch s 3) (ch s 4), ⟨#[]⟩⟩, true)
  else if decB s = true then (⟨s, 4, negB s, two (ch s 1) (ch s 2), 0, s.extract 4 s.size⟩, true)
  else (Zn.none, false)

theorem headB_iff (s : ByteArray) : headB s = true ↔ 3 ≤ s.size ∧ ((ch s 0).toNat = 43 ∨ (ch s 0).toNat = 45) ∧ digB (ch s 1) = true ∧ digB (ch s 2) = true := by
  simp [headB, and_assoc]
theorem extB_iff (s : ByteArray) : extB s = true ↔ s.size = 6 ∧ (ch s 3).toNat = 58 ∧ digB (ch s 4) = true ∧ digB (ch s 5) = true := by
  simp [extB, and_assoc]
theorem basB_iff (s : ByteArray) : basB s = true ↔ s.size = 5 ∧ digB (ch s 3) = true ∧ digB (ch s 4) = true := by
  simp [basB, and_assoc]
theorem decB_iff (s : ByteArray) : decB s = true ↔ 5 ≤ s.size ∧ (ch s 3).toNat = 46 ∧ s.size - 4 ≤ lead (s.extract 4 s.size).data.toList := by
  simp [decB, and_assoc]

theorem lead2 (s : ByteArray) (a : Nat) : 2 ≤ lead (s.extract a s.size).data.toList ↔ digB (ch s a) = true ∧ digB (ch s (a + 1)) = true := by
  rw [lead_tail]
  constructor
  · intro h; exact ⟨h 0 (by omega), h 1 (by omega)⟩
  · rintro ⟨h0, h1⟩ j hj
    match j, hj with
    | 0, _ => exact h0
    | 1, _ => exact h1

theorem dig_not {c : UInt8} (h : digB c = true) : 48 ≤ c.toNat ∧ c.toNat ≤ 57 := (digB_iff c).1 h

theorem beq_no {a b : Int} (h : ¬ a = b) : (a == b) = false := by simpa using h

set_option maxRecDepth 10000 in
theorem scan_any (s : ByteArray) (hs : s.size ≤ maxLen) (w : World) :
    Calls Yba.prog 8 #[.string s] w fun e w' => e = .returned (.tuple #[(zfun s).1.val, .bool (zfun s).2]) ∧ Below w.heap.size w w' := by
  unfold zfun
  by_cases hZ : (s.toList == [90]) = true
  · rw [if_pos hZ]
    exact scan_Z s hZ w
  rw [if_neg hZ]
  have hZ' : (s.toList == [90]) = false := by simpa using hZ
  by_cases hH : headB s = false
  · rw [if_pos hH]
    have hno : ¬ (3 ≤ s.size ∧ ((ch s 0).toNat = 43 ∨ (ch s 0).toNat = 45) ∧ digB (ch s 1) = true ∧ digB (ch s 2) = true) := fun h => by rw [(headB_iff s).2 h] at hH; cases hH
    by_cases h0 : s.size = 0
    · exact scan_empty s hZ' h0 w
    have hn : 0 < s.size := by omega
    have e0 := ch_get s 0 hn
    by_cases hsg : (ch s 0).toNat = 43 ∨ (ch s 0).toNat = 45
    · have hl : lead (s.extract 1 s.size).data.toList < 2 := by
        apply Nat.lt_of_not_le
        rw [lead2]
        rintro ⟨a, b⟩
        exact hno ⟨ch_dig s 2 b, hsg, a, b⟩
      refine scan_few s _ (negB s) hZ' hn hs ?_ rfl hl w
      rw [e0]
      rcases hsg with h | h
      · exact .inl ⟨by simp [negB, h], by omega⟩
      · exact .inr ⟨by simp [negB, h], by omega⟩
    · exact scan_sign s hZ' hn (by rw [e0]; omega) (by rw [e0]; omega) w
  rw [if_neg hH]
  have hH' : headB s = true := by simpa using hH
  obtain ⟨h3, hsg, d1, d2⟩ := (headB_iff s).1 hH'
  have hn : 0 < s.size := by omega
  have e0 := ch_get s 0 hn
  have hSg : Sg s[0] (negB s) := by
    rw [e0]
    rcases hsg with h | h
    · exact .inl ⟨by simp [negB, h], by omega⟩
    · exact .inr ⟨by simp [negB, h], by omega⟩
  have hl : 2 ≤ lead (s.extract 1 s.size).data.toList := (lead2 s 1).2 ⟨d1, d2⟩
  have tz : (s.extract 1 3).size = 2 := by simp; omega
  have t0 : (s.extract 1 3)[0] = ch s 1 := (ch_get _ 0 (by omega)).trans (piece_ch s 1 3 0 (by omega))
  have t1 : (s.extract 1 3)[1] = ch s 2 := (ch_get _ 1 (by omega)).trans (piece_ch s 1 3 1 (by omega))
  have rz : (s.extract 3 s.size).size = s.size - 3 := tail_size s 3
  have g0 : digB (s.extract 1 3)[0] = true := by rw [t0]; exact d1
  have g1 : digB (s.extract 1 3)[1] = true := by rw [t1]; exact d2
  have et : two (ch s 1) (ch s 2) = two (s.extract 1 3)[0] (s.extract 1 3)[1] := by rw [t0, t1]
  rw [et]
  by_cases c3 : s.size = 3
  · rw [if_pos c3]
    exact scan_hours s _ _ _ (negB s) hZ' hn h3 hs hSg rfl hl rfl tz g0 g1 rfl (by omega) w
  rw [if_neg c3]
  have rn : 0 < (s.extract 3 s.size).size := by omega
  have r0 : (s.extract 3 s.size)[0] = ch s 3 := (ch_get _ 0 rn).trans (tail_ch s 3 0)
  have eu : (s.extract 3 s.size).extract 1 (s.extract 3 s.size).size = s.extract 4 s.size := tail_tail s 3 1
  have uz : (s.extract 4 s.size).size = s.size - 4 := tail_size s 4
  have ul := lead_size (s.extract 4 s.size)
  have rl := lead_size (s.extract 3 s.size)
  by_cases cE : extB s = true
  · rw [if_pos cE]
    obtain ⟨h6, hc, d4, d5⟩ := (extB_iff s).1 cE
    have u0 : (s.extract 4 s.size)[0]'(by omega) = ch s 4 := (ch_get _ 0 (by omega)).trans (tail_ch s 4 0)
    have u1 : (s.extract 4 s.size)[1]'(by omega) = ch s 5 := (ch_get _ 1 (by omega)).trans (tail_ch s 4 1)
    have h2 := (lead2 s 4).2 ⟨d4, d5⟩
    rw [← u0, ← u1]
    exact scan_ext s _ _ _ _ (negB s) hZ' hn h3 hs hSg rfl hl rfl tz g0 g1 rfl (by omega) (by rw [r0]; omega) eu (by omega) (by omega) (by rw [u0]; exact d4) (by rw [u1]; exact d5) w
  rw [if_neg cE]
  have nE : ¬ (s.size = 6 ∧ (ch s 3).toNat = 58 ∧ digB (ch s 4) = true ∧ digB (ch s 5) = true) := fun h => cE ((extB_iff s).2 h)
  by_cases cB : basB s = true
  · rw [if_pos cB]
    obtain ⟨h5, d3, d4⟩ := (basB_iff s).1 cB
    have u0 : (s.extract 3 s.size)[0]'(by omega) = ch s 3 := (ch_get _ 0 (by omega)).trans (tail_ch s 3 0)
    have u1 : (s.extract 3 s.size)[1]'(by omega) = ch s 4 := (ch_get _ 1 (by omega)).trans (tail_ch s 3 1)
    have h2 := (lead2 s 3).2 ⟨d3, d4⟩
    rw [← u0, ← u1]
    exact scan_bas s _ _ _ (negB s) hZ' hn h3 hs hSg rfl hl rfl tz g0 g1 rfl (by omega) (by omega) (by rw [u0]; exact d3) (by rw [u1]; exact d4) w
  rw [if_neg cB]
  have nB : ¬ (s.size = 5 ∧ digB (ch s 3) = true ∧ digB (ch s 4) = true) := fun h => cB ((basB_iff s).2 h)
  by_cases cD : decB s = true
  · rw [if_pos cD]
    obtain ⟨h5, hc, hld⟩ := (decB_iff s).1 cD
    by_cases k5 : s.size = 5
    · refine scan_dec2 s _ _ _ _ (negB s) hZ' hn h3 hs hSg rfl hl rfl tz g0 g1 rfl rn eu (by omega) (by rw [r0]; omega) ?_ (by omega) w
      have : ¬ 1 ≤ lead (s.extract 3 s.size).data.toList := by
        rw [lead_tail]
        intro h
        have := dig_not (h 0 (by omega))
        simp at this
        omega
      omega
    by_cases k6 : s.size = 6
    · exact scan_dec3 s _ _ _ _ (negB s) hZ' hn h3 hs hSg rfl hl rfl tz g0 g1 rfl rn eu (by omega) (by rw [r0]; omega) (by omega) w
    exact scan_dec4 s _ _ _ _ (negB s) hZ' hn h3 hs hSg rfl hl rfl tz g0 g1 rfl rn eu (by omega) (by rw [r0]; omega) (by omega) w
  rw [if_neg cD]
  have nD : ¬ (5 ≤ s.size ∧ (ch s 3).toNat = 46 ∧ s.size - 4 ≤ lead (s.extract 4 s.size).data.toList) := fun h => cD ((decB_iff s).2 h)
  by_cases k4 : s.size = 4
  · exact scan_no1 s _ _ _ _ (negB s) hZ' hn h3 hs hSg rfl hl rfl tz g0 g1 rfl rn eu (by omega) w
  by_cases k5 : s.size = 5
  · have hlr : ¬ 2 ≤ lead (s.extract 3 s.size).data.toList := by
      rw [lead2]
      rintro ⟨a, b⟩
      exact nB ⟨k5, a, b⟩
    by_cases hc : (ch s 3).toNat = 46
    · exact scan_no2d s _ _ _ _ (negB s) hZ' hn h3 hs hSg rfl hl rfl tz g0 g1 rfl rn eu (by omega) (by rw [r0]; omega) (beq_no (by omega)) (beq_no (by omega)) w
    · exact scan_no2 s _ _ _ _ (negB s) hZ' hn h3 hs hSg rfl hl rfl tz g0 g1 rfl rn eu (by omega) (by rw [r0]; omega) (beq_no (by omega)) w
  by_cases k6 : s.size = 6
  · by_cases hc : (ch s 3).toNat = 46
    · exact scan_no3d s _ _ _ _ (negB s) hZ' hn h3 hs hSg rfl hl rfl tz g0 g1 rfl rn eu (by omega) (by rw [r0]; omega) (beq_no (by omega)) w
    by_cases hc5 : (ch s 3).toNat = 58
    · have hlu : ¬ 2 ≤ lead (s.extract 4 s.size).data.toList := by
        rw [lead2]
        rintro ⟨a, b⟩
        exact nE ⟨k6, hc5, a, b⟩
      exact scan_no3c s _ _ _ _ (negB s) hZ' hn h3 hs hSg rfl hl rfl tz g0 g1 rfl rn eu (by omega) (by rw [r0]; omega) (beq_no (by omega)) w
    · exact scan_no3 s _ _ _ _ (negB s) hZ' hn h3 hs hSg rfl hl rfl tz g0 g1 rfl rn eu (by omega) (by rw [r0]; omega) (by rw [r0]; omega) w
  by_cases hc : (ch s 3).toNat = 46
  · exact scan_no4d s _ _ _ _ (negB s) hZ' hn h3 hs hSg rfl hl rfl tz g0 g1 rfl rn eu (by omega) (by rw [r0]; omega) (beq_no (by omega)) w
  · exact scan_no4 s _ _ _ _ (negB s) hZ' hn h3 hs hSg rfl hl rfl tz g0 g1 rfl rn eu (by omega) (by rw [r0]; omega) w
end Go.Proofs.Ybulkcmju
