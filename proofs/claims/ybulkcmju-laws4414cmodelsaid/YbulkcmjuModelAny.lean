/-
  zzs4414cmodel computes zfun.
-/
import Derived.Test.YbulkcmjuModel2
import Derived.Test.YbulkcmjuModel3
namespace Go.Proofs.Ybulkcmju
open Go.RowKit

theorem dec_all (s : ByteArray) (h5 : 5 ≤ s.size) (hc : (ch s 3).toNat = 46) (hd : ∀ j (h : j < s.size), 4 ≤ j → digB s[j] = true) : decB s = true := by
  refine (decB_iff s).2 ⟨h5, hc, ?_⟩
  rw [lead_tail]
  intro j hj
  have hj2 : 4 + j < s.size := by omega
  rw [← ch_get s (4 + j) hj2]
  exact hd _ hj2 (by omega)

theorem dec_not (s : ByteArray) (hd : ∃ j, ∃ h : j < s.size, 4 ≤ j ∧ digB s[j] = false) : ¬ decB s = true := by
  intro e
  obtain ⟨j, h, h4, hf⟩ := hd
  have := ((decB_iff s).1 e).2.2
  rw [lead_tail] at this
  have hj := this (j - 4) (by omega)
  rw [show 4 + (j - 4) = j by omega, ← ch_get s j h, hf] at hj
  cases hj

theorem dig46 {c : UInt8} (h : c.toNat = 46) : digB c = false := by
  rw [← Bool.not_eq_true, digB_iff]; omega

set_option maxRecDepth 10000 in
theorem model_any (s : ByteArray) (hs : s.size ≤ maxLen) (w : World) :
    Calls Yba.prog 9 #[.string s] w fun e w' => e = .returned (.tuple #[(zfun s).1.val, .bool (zfun s).2]) ∧ Below w.heap.size w w' := by
  have hs63 : s.size ≤ 9223372036854775807 := by unfold maxLen at hs; omega
  unfold zfun
  by_cases hZ : (s.toList == [90]) = true
  · rw [if_pos hZ]
    exact model_Z s hZ w
  rw [if_neg hZ]
  have hZ' : (s.toList == [90]) = false := by simpa using hZ
  by_cases hH : headB s = false
  · rw [if_pos hH]
    have hno : ¬ (3 ≤ s.size ∧ ((ch s 0).toNat = 43 ∨ (ch s 0).toNat = 45) ∧ digB (ch s 1) = true ∧ digB (ch s 2) = true) := fun h => by rw [(headB_iff s).2 h] at hH; cases hH
    by_cases h3 : 3 ≤ s.size
    · have e0 := ch_get s 0 (by omega)
      have e1 := ch_get s 1 (by omega)
      have e2 := ch_get s 2 (by omega)
      by_cases hsg : (ch s 0).toNat = 43 ∨ (ch s 0).toNat = 45
      · have hSg : Sg s[0] (negB s) := by
          rw [e0]
          rcases hsg with h | h
          · exact .inl ⟨by simp [negB, h], by omega⟩
          · exact .inr ⟨by simp [negB, h], by omega⟩
        by_cases d1 : digB (ch s 1) = true
        · have d2 : digB (ch s 2) = false := by
            rw [← Bool.not_eq_true]
            exact fun d2 => hno ⟨h3, hsg, d1, d2⟩
          exact model_d2 s (negB s) hZ' h3 hs hSg (by rw [e1]; exact d1) (by rw [e2]; exact d2) w
        · exact model_d1 s (negB s) hZ' h3 hs hSg (by rw [e1]; simpa using d1) w
      · exact model_sign s hZ' (by omega) hs63 (by omega) (by rw [e0]; omega) (by rw [e0]; omega) w
    · exact model_short s hZ' (by omega) w
  rw [if_neg hH]
  have hH' : headB s = true := by simpa using hH
  obtain ⟨h3, hsg, d1, d2⟩ := (headB_iff s).1 hH'
  have e0 := ch_get s 0 (by omega)
  have e1 := ch_get s 1 (by omega)
  have e2 := ch_get s 2 (by omega)
  have hSg : Sg s[0] (negB s) := by
    rw [e0]
    rcases hsg with h | h
    · exact .inl ⟨by simp [negB, h], by omega⟩
    · exact .inr ⟨by simp [negB, h], by omega⟩
  have g1 : digB s[1] = true := by rw [e1]; exact d1
  have g2 : digB s[2] = true := by rw [e2]; exact d2
  rw [← e1, ← e2]
  by_cases c3 : s.size = 3
  · rw [if_pos c3]
    exact model_3 s (negB s) hZ' h3 hs hSg g1 g2 (by omega) w
  rw [if_neg c3]
  have e3 := ch_get s 3 (by omega)
  by_cases cE : extB s = true
  · rw [if_pos cE]
    obtain ⟨h6, hc, d4, d5⟩ := (extB_iff s).1 cE
    have e4 := ch_get s 4 (by omega)
    have e5 := ch_get s 5 (by omega)
    rw [← e4, ← e5]
    exact model_6 s (negB s) hZ' h3 hs hSg g1 g2 h6 (by rw [e3]; omega) (by rw [e4]; exact d4) (by rw [e5]; exact d5) w
  rw [if_neg cE]
  have nE : ¬ (s.size = 6 ∧ (ch s 3).toNat = 58 ∧ digB (ch s 4) = true ∧ digB (ch s 5) = true) := fun h => cE ((extB_iff s).2 h)
  by_cases cB : basB s = true
  · rw [if_pos cB]
    obtain ⟨h5, d3, d4⟩ := (basB_iff s).1 cB
    have e4 := ch_get s 4 (by omega)
    rw [← e3, ← e4]
    exact model_5 s (negB s) hZ' h3 hs hSg g1 g2 h5 (by rw [e3]; exact d3) (by rw [e4]; exact d4) w
  rw [if_neg cB]
  have nB : ¬ (s.size = 5 ∧ digB (ch s 3) = true ∧ digB (ch s 4) = true) := fun h => cB ((basB_iff s).2 h)
  by_cases k4 : s.size = 4
  · have cD : ¬ decB s = true := fun h => by have := ((decB_iff s).1 h).1; omega
    rw [if_neg cD]
    exact model_n4 s (negB s) hZ' h3 hs hSg g1 g2 k4 w
  by_cases hc : (ch s 3).toNat = 46
  · have fin : ∀ (e : Ending) (w' : World), ((e = .returned (.tuple #[zval s 4 (negB s) (two s[1] s[2]) 0 (s.extract 4 s.size), .bool true]) ∧ ∀ j (h : j < s.size), 4 ≤ j → digB s[j] = true) ∨ (e = .returned (.tuple #[zero, .bool false]) ∧ ∃ j, ∃ h : j < s.size, 4 ≤ j ∧ digB s[j] = false)) ∧ Below w.heap.size w w' →
        e = .returned (.tuple #[(if decB s = true then ((⟨s, 4, negB s, two s[1] s[2], 0, s.extract 4 s.size⟩, true) : Zn × Bool) else (Zn.none, false)).1.val, .bool (if decB s = true then ((⟨s, 4, negB s, two s[1] s[2], 0, s.extract 4 s.size⟩, true) : Zn × Bool) else (Zn.none, false)).2]) ∧ Below w.heap.size w w' := by
      rintro e w' ⟨h, hb⟩
      refine ⟨?_, hb⟩
      rcases h with ⟨rfl, hd⟩ | ⟨rfl, hd⟩
      · rw [if_pos (dec_all s (by omega) hc hd)]
      · rw [if_neg (dec_not s hd)]
    by_cases k5 : s.size = 5
    · exact (model_dec5 s (negB s) hZ' h3 hs hSg g1 g2 (by omega) (by omega) (by rw [e3]; exact dig46 hc) (by rw [e3]; omega) w).mono fin
    by_cases k6 : s.size = 6
    · exact (model_dec6 s (negB s) hZ' h3 hs hSg g1 g2 (by omega) (by omega) (by rw [e3]; omega) w).mono fin
    exact (model_dec7 s (negB s) hZ' h3 hs hSg g1 g2 (by omega) (by rw [e3]; omega) w).mono fin
  have cD : ¬ decB s = true := fun h => hc ((decB_iff s).1 h).2.1
  rw [if_neg cD]
  by_cases k5 : s.size = 5
  · have e4 := ch_get s 4 (by omega)
    by_cases d3 : digB (ch s 3) = true
    · have d4 : digB (ch s 4) = false := by
        rw [← Bool.not_eq_true]
        exact fun d4 => nB ⟨k5, d3, d4⟩
      exact model_n5a s (negB s) hZ' h3 hs hSg g1 g2 k5 (by rw [e3]; exact d3) (by rw [e4]; exact d4) w
    · exact model_n5b s (negB s) hZ' h3 hs hSg g1 g2 k5 (by rw [e3]; simpa using d3) (by rw [e3]; omega) w
  by_cases k6 : s.size = 6
  · have e4 := ch_get s 4 (by omega)
    have e5 := ch_get s 5 (by omega)
    by_cases hc5 : (ch s 3).toNat = 58
    · by_cases d4 : digB (ch s 4) = true
      · have d5 : digB (ch s 5) = false := by
          rw [← Bool.not_eq_true]
          exact fun d5 => nE ⟨k6, hc5, d4, d5⟩
        exact model_n6b s (negB s) hZ' h3 hs hSg g1 g2 k6 (by rw [e3]; omega) (by rw [e4]; exact d4) (by rw [e5]; exact d5) w
      · exact model_n6a s (negB s) hZ' h3 hs hSg g1 g2 k6 (by rw [e3]; omega) (by rw [e4]; simpa using d4) w
    · exact model_n6c s (negB s) hZ' h3 hs hSg g1 g2 k6 (by rw [e3]; omega) (by rw [e3]; omega) w
  exact model_n7 s (negB s) hZ' h3 hs hSg g1 g2 (by omega) (by rw [e3]; omega) w

end Go.Proofs.Ybulkcmju
