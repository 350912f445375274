/-
  zzs4414aexpect computes one plain relation.
-/
import Derived.Test.YbulkcmjuTime2
import Derived.Test.YbulkcmjuExpB
import Derived.Test.YbulkcmjuExp1
import Derived.Test.YbulkcmjuExp2
import Derived.Test.YbulkcmjuExp3
import Derived.Test.YbulkcmjuExp4
import Derived.Test.YbulkcmjuExp5
import Derived.Test.YbulkcmjuExp6
import Derived.Test.YbulkcmjuExp7
namespace Go.Proofs.Ybulkcmju
open Go.RowKit
set_option linter.unusedVariables false

/-- The length of the separator that stands behind the hour. -/
def sepW (s : ByteArray) : Nat := if (ch s 2).toNat = 58 then 1 else 0
/-- What the clock's part of a text comes to. -/
def APost (s : ByteArray) (ph pm ps : Int) (pf : ByteArray) (pu u1 u2 u3 : Int) (c : List Value) (rest : ByteArray) (ok : Bool) : Prop :=
  (¬ D2 s 0 ∧ c = isoL ph pm ps pf pu ∧ rest = ⟨#[]⟩ ∧ ok = false) ∨
  (D2 s 0 ∧ ∃ p m' sc' u', Clk (sepW s) s pm ps u1 u2 u3 p m' sc' u' ∧ Fin2 s p pf (two (ch s 0) (ch s 1)) m' sc' u' c rest ok)

theorem clk_one {e : Nat} {s : ByteArray} {m sc u1 u2 u3 : Int} {p p' : Nat} {m1 s1 v1 m2 s2 v2 : Int} (h : Clk e s m sc u1 u2 u3 p m1 s1 v1) (k : Clk e s m sc u1 u2 u3 p' m2 s2 v2) : p = p' ∧ m1 = m2 ∧ s1 = s2 ∧ v1 = v2 := by
  rcases h with ⟨a, rfl, rfl, rfl, rfl⟩ | ⟨a, b, rfl, rfl, rfl, rfl⟩ | ⟨a, b, rfl, rfl, rfl, rfl⟩ <;> rcases k with ⟨c, rfl, rfl, rfl, rfl⟩ | ⟨c, d, rfl, rfl, rfl, rfl⟩ | ⟨c, d, rfl, rfl, rfl, rfl⟩ <;> first | exact ⟨rfl, rfl, rfl, rfl⟩ | exact absurd a c | exact absurd c a | exact absurd b d | exact absurd d b
theorem tail_one {s : ByteArray} {p : Nat} {pf : ByteArray} {q q' : Nat} {fr fr' : ByteArray} (h : TailOk s p pf q fr) (k : TailOk s p pf q' fr') : q = q' ∧ fr = fr' := by
  rcases h with ⟨a, h1, h2⟩ | ⟨a, n, hn, _, h1, h2⟩ <;> rcases k with ⟨c, k1, k2⟩ | ⟨c, n', hn', _, k1, k2⟩
  · exact ⟨h1.trans k1.symm, h2.trans k2.symm⟩
  · exact absurd c a
  · exact absurd a c
  · have e : n = n' := hn.trans hn'.symm
    rw [e] at h1 h2
    exact ⟨h1.trans k1.symm, h2.trans k2.symm⟩
theorem tail_not {s : ByteArray} {p : Nat} {pf : ByteArray} {q : Nat} {fr : ByteArray} (h : TailOk s p pf q fr) (k : TailNo s p) : False := by
  rcases h with ⟨a, _⟩ | ⟨_, n, hn, h0, _⟩
  · exact a k.1
  · have := k.2; omega
theorem fin_one {s : ByteArray} {p : Nat} {pf : ByteArray} {h m sc u : Int} {c c' : List Value} {r r' : ByteArray} {ok ok' : Bool} (a : Fin2 s p pf h m sc u c r ok) (b : Fin2 s p pf h m sc u c' r' ok') : c = c' ∧ r = r' ∧ ok = ok' := by
  rcases a with ⟨q, fr, t, rfl, rfl, rfl⟩ | ⟨t, rfl, rfl, rfl⟩ <;> rcases b with ⟨q', fr', t', rfl, rfl, rfl⟩ | ⟨t', rfl, rfl, rfl⟩
  · obtain ⟨rfl, rfl⟩ := tail_one t t'
    exact ⟨rfl, rfl, rfl⟩
  · exact (tail_not t t').elim
  · exact (tail_not t' t).elim
  · exact ⟨rfl, rfl, rfl⟩
theorem post_one {s : ByteArray} {ph pm ps : Int} {pf : ByteArray} {pu u1 u2 u3 : Int} {c c' : List Value} {r r' : ByteArray} {ok ok' : Bool} (a : APost s ph pm ps pf pu u1 u2 u3 c r ok) (b : APost s ph pm ps pf pu u1 u2 u3 c' r' ok') : c = c' ∧ r = r' ∧ ok = ok' := by
  rcases a with ⟨x, rfl, rfl, rfl⟩ | ⟨x, p, m, sc, u, k, f⟩ <;> rcases b with ⟨y, rfl, rfl, rfl⟩ | ⟨y, p', m', sc', u', k', f'⟩
  · exact ⟨rfl, rfl, rfl⟩
  · exact absurd y x
  · exact absurd x y
  · obtain ⟨rfl, rfl, rfl, rfl⟩ := clk_one k k'
    exact fin_one f f'

theorem leafA {s : ByteArray} {ph pm ps : Int} {pf : ByteArray} {pu u1 u2 u3 : Int} {p : Nat} {m sc u : Int} {w : World} (hD : D2 s 0) (hc : Clk (sepW s) s pm ps u1 u2 u3 p m sc u)
    (H : Calls Yba.prog 10 #[.string s, isoV ph pm ps pf pu] w fun e w' => ((∃ q fr, TailOk s p pf q fr ∧ e = .returned (.tuple #[.agg (isoL (two (ch s 0) (ch s 1)) m sc fr u).toArray, .string (s.extract q s.size), .bool true])) ∨ (TailNo s p ∧ e = .returned (.tuple #[.agg (isoL (two (ch s 0) (ch s 1)) m sc pf u).toArray, .string ⟨#[]⟩, .bool false]))) ∧ Below w.heap.size w w') :
    Calls Yba.prog 10 #[.string s, isoV ph pm ps pf pu] w fun e w' => (∃ c r ok, APost s ph pm ps pf pu u1 u2 u3 c r ok ∧ e = .returned (.tuple #[.agg c.toArray, .string r, .bool ok])) ∧ Below w.heap.size w w' := by
  refine H.mono ?_
  rintro e w' ⟨h, hb⟩
  refine ⟨?_, hb⟩
  rcases h with ⟨q, fr, t, rfl⟩ | ⟨t, rfl⟩
  · exact ⟨_, _, _, .inr ⟨hD, p, m, sc, u, hc, .inl ⟨q, fr, t, rfl, rfl, rfl⟩⟩, rfl⟩
  · exact ⟨_, _, _, .inr ⟨hD, p, m, sc, u, hc, .inr ⟨t, rfl, rfl, rfl⟩⟩, rfl⟩
theorem badA {s : ByteArray} {ph pm ps : Int} {pf : ByteArray} {pu : Int} (u1 u2 u3 : Int) {w : World} (hD : ¬ D2 s 0)
    (H : Calls Yba.prog 10 #[.string s, isoV ph pm ps pf pu] w fun e w' => e = .returned (.tuple #[.agg (isoL ph pm ps pf pu).toArray, .string ⟨#[]⟩, .bool false]) ∧ Below w.heap.size w w') :
    Calls Yba.prog 10 #[.string s, isoV ph pm ps pf pu] w fun e w' => (∃ c r ok, APost s ph pm ps pf pu u1 u2 u3 c r ok ∧ e = .returned (.tuple #[.agg c.toArray, .string r, .bool ok])) ∧ Below w.heap.size w w' := by
  refine H.mono ?_
  rintro e w' ⟨rfl, hb⟩
  exact ⟨⟨_, _, _, .inl ⟨hD, rfl, rfl, rfl⟩, rfl⟩, hb⟩
theorem dig_not (c : UInt8) (h : digB c = true) (k : Int) (hk : k < 48) : ((c.toNat : Int) == k) = false := by
  have := (digB_iff c).1 h
  simpa using (show ¬ (c.toNat : Int) = k by omega)
theorem not_d2_end {s : ByteArray} {i : Nat} (h : s.size < i + 2) : ¬ D2 s i := fun k => by have := d2_lt k; omega

set_option maxHeartbeats 1600000 in
theorem exp_any (s : ByteArray) (ph pm ps : Int) (pf : ByteArray) (pu u1 u2 u3 : Int) (hu1 : (3600000000000 : Int) = u1) (hu2 : (60000000000 : Int) = u2) (hu3 : (1000000000 : Int) = u3) (hs : s.size ≤ 1024) (w : World) :
    Calls Yba.prog 10 #[.string s, isoV ph pm ps pf pu] w fun e w' => (∃ c r ok, APost s ph pm ps pf pu u1 u2 u3 c r ok ∧ e = .returned (.tuple #[.agg c.toArray, .string r, .bool ok])) ∧ Below w.heap.size w w' := by
  by_cases h2 : s.size < 2
  · exact badA u1 u2 u3 (not_d2_end (by omega)) (exp_b0 s ph pm ps pf pu hs (by omega) w)
  have z2 : 2 ≤ s.size := by omega
  by_cases g0 : digB s[0] = true
  rotate_left
  · exact badA u1 u2 u3 (fun k => g0 (by rw [ch_get s 0 (by omega)]; exact k.1)) (exp_b1 s ph pm ps pf pu hs (by omega) (by simpa using g0) w)
  by_cases g1 : digB s[1] = true
  rotate_left
  · exact badA u1 u2 u3 (fun k => g1 (by rw [ch_get s 1 (by omega)]; exact k.2)) (exp_b2 s ph pm ps pf pu hs (by omega) g0 (by simpa using g1) w)
  have hD : D2 s 0 := ⟨by rw [← ch_get s 0 (by omega)]; exact g0, by rw [← ch_get s 1 (by omega)]; exact g1⟩
  by_cases h58 : (ch s 2).toNat = 58
  · have hW : sepW s = 1 := if_pos h58
    have z3 : 2 < s.size := by
      by_cases q : 2 < s.size
      · exact q
      · rw [ch_end s 2 (by omega)] at h58; cases h58
    have x58 : ((s[2].toNat : Int) == 58) = true := by rw [ch_get s 2 z3]; simpa using (show ((ch s 2).toNat : Int) = 58 by omega)
    have k44 : ((s[2].toNat : Int) == 44) = false := by rw [ch_get s 2 z3]; simpa using (show ¬ ((ch s 2).toNat : Int) = 44 by omega)
    have k46 : ((s[2].toNat : Int) == 46) = false := by rw [ch_get s 2 z3]; simpa using (show ¬ ((ch s 2).toNat : Int) = 46 by omega)
    by_cases z5 : s.size < 5
    · have H := exp_x3 s ph pm ps pf pu u1 u2 u3 hu1 hu2 hu3 hs (by omega) g0 g1 (by omega) x58 (by omega) (by omega) k44 k46 w
      simp only [ch_get] at H
      exact leafA hD (by rw [hW]; exact .inl ⟨not_d2_end (by omega), rfl, rfl, rfl, rfl⟩) H
    have z5 : 5 ≤ s.size := by omega
    by_cases d3 : digB s[3] = true
    rotate_left
    · have H := exp_x5a s ph pm ps pf pu u1 u2 u3 hu1 hu2 hu3 hs (by omega) g0 g1 (by omega) x58 (by omega) (by simpa using d3) (by omega) k44 k46 w
      simp only [ch_get] at H d3
      exact leafA hD (by rw [hW]; exact .inl ⟨fun k => d3 k.1, rfl, rfl, rfl, rfl⟩) H
    by_cases d4 : digB s[4] = true
    rotate_left
    · have H := exp_x5b s ph pm ps pf pu u1 u2 u3 hu1 hu2 hu3 hs (by omega) g0 g1 (by omega) x58 (by omega) d3 (by simpa using d4) (by omega) k44 k46 w
      simp only [ch_get] at H d4
      exact leafA hD (by rw [hW]; exact .inl ⟨fun k => d4 k.2, rfl, rfl, rfl, rfl⟩) H
    have D3 : D2 s 3 := ⟨by rw [← ch_get s 3 (by omega)]; exact d3, by rw [← ch_get s 4 (by omega)]; exact d4⟩
    by_cases z8 : s.size < 8
    · have hk : Clk (sepW s) s pm ps u1 u2 u3 5 (two (ch s 3) (ch s 4)) ps u2 := by
        rw [hW]; exact .inr (.inl ⟨D3, fun k => not_d2_end (s := s) (i := 6) (by omega) k.2, rfl, rfl, rfl, rfl⟩)
      by_cases z6 : s.size ≤ 5
      · have H := exp_x5e s ph pm ps pf pu u1 u2 u3 hu1 hu2 hu3 hs (by omega) g0 g1 (by omega) x58 (by omega) d3 d4 (by omega) (by omega) w
        simp only [ch_get] at H
        exact leafA hD hk H
      · have H := exp_x6 s ph pm ps pf pu u1 u2 u3 hu1 hu2 hu3 hs (by omega) g0 g1 (by omega) x58 (by omega) d3 d4 (by omega) (by omega) w
        simp only [ch_get] at H
        exact leafA hD hk H
    have z8 : 8 ≤ s.size := by omega
    by_cases c5 : ((s[5].toNat : Int) == 58) = true
    rotate_left
    · have H := exp_x8a s ph pm ps pf pu u1 u2 u3 hu1 hu2 hu3 hs (by omega) g0 g1 (by omega) x58 (by omega) d3 d4 (by simpa using c5) (by omega) w
      simp only [ch_get] at H c5
      refine leafA hD ?_ H
      rw [hW]
      refine .inr (.inl ⟨D3, fun k => ?_, rfl, rfl, rfl, rfl⟩)
      rcases k.1 with q | q
      · cases q
      · apply c5; simpa using (show ((ch s 5).toNat : Int) = 58 by have q2 : (ch s 5).toNat = 58 := q; omega)
    have C5 : (ch s 5).toNat = 58 := by rw [← ch_get s 5 (by omega)]; simp at c5; omega
    have j44 : ((s[5].toNat : Int) == 44) = false := by rw [ch_get s 5 (by omega)]; simpa using (show ¬ ((ch s 5).toNat : Int) = 44 by omega)
    have j46 : ((s[5].toNat : Int) == 46) = false := by rw [ch_get s 5 (by omega)]; simpa using (show ¬ ((ch s 5).toNat : Int) = 46 by omega)
    by_cases d6 : digB s[6] = true
    rotate_left
    · have H := exp_x8b s ph pm ps pf pu u1 u2 u3 hu1 hu2 hu3 hs (by omega) g0 g1 (by omega) x58 (by omega) d3 d4 c5 (by simpa using d6) (by omega) j44 j46 w
      simp only [ch_get] at H d6
      exact leafA hD (by rw [hW]; exact .inr (.inl ⟨D3, fun k => d6 k.2.1, rfl, rfl, rfl, rfl⟩)) H
    by_cases d7 : digB s[7] = true
    rotate_left
    · have H := exp_x8c s ph pm ps pf pu u1 u2 u3 hu1 hu2 hu3 hs (by omega) g0 g1 (by omega) x58 (by omega) d3 d4 c5 d6 (by simpa using d7) (by omega) j44 j46 w
      simp only [ch_get] at H d7
      exact leafA hD (by rw [hW]; exact .inr (.inl ⟨D3, fun k => d7 k.2.2, rfl, rfl, rfl, rfl⟩)) H
    have D6 : D2 s 6 := ⟨by rw [← ch_get s 6 (by omega)]; exact d6, by rw [← ch_get s 7 (by omega)]; exact d7⟩
    have hk : Clk (sepW s) s pm ps u1 u2 u3 8 (two (ch s 3) (ch s 4)) (two (ch s 6) (ch s 7)) u3 := by
      rw [hW]; exact .inr (.inr ⟨D3, ⟨.inr C5, D6⟩, rfl, rfl, rfl, rfl⟩)
    by_cases z9 : s.size ≤ 8
    · have H := exp_x8e s ph pm ps pf pu u1 u2 u3 hu1 hu2 hu3 hs (by omega) g0 g1 (by omega) x58 (by omega) d3 d4 c5 d6 d7 (by omega) w
      simp only [ch_get] at H
      exact leafA hD hk H
    · have H := exp_x9 s ph pm ps pf pu u1 u2 u3 hu1 hu2 hu3 hs (by omega) g0 g1 (by omega) x58 (by omega) d3 d4 c5 d6 d7 (by omega) w
      simp only [ch_get] at H
      exact leafA hD hk H
  · have hW : sepW s = 0 := if_neg h58
    by_cases z3 : s.size ≤ 2
    · have H := exp_n2 s ph pm ps pf pu u1 u2 u3 hu1 hu2 hu3 hs (by omega) g0 g1 (by omega) (by omega) w
      simp only [ch_get] at H
      exact leafA hD (by rw [hW]; exact .inl ⟨not_d2_end (by omega), rfl, rfl, rfl, rfl⟩) H
    have z3 : 2 < s.size := by omega
    have n58 : ((s[2].toNat : Int) == 58) = false := by rw [ch_get s 2 z3]; simpa using (show ¬ ((ch s 2).toNat : Int) = 58 by omega)
    by_cases z4 : s.size < 4
    · have H := exp_n3 s ph pm ps pf pu u1 u2 u3 hu1 hu2 hu3 hs (by omega) g0 g1 (by omega) n58 (by omega) (by omega) w
      simp only [ch_get] at H
      exact leafA hD (by rw [hW]; exact .inl ⟨not_d2_end (by omega), rfl, rfl, rfl, rfl⟩) H
    have z4 : 4 ≤ s.size := by omega
    by_cases d2 : digB s[2] = true
    rotate_left
    · have H := exp_n4a s ph pm ps pf pu u1 u2 u3 hu1 hu2 hu3 hs (by omega) g0 g1 (by omega) n58 (by omega) (by simpa using d2) (by omega) w
      simp only [ch_get] at H d2
      exact leafA hD (by rw [hW]; exact .inl ⟨fun k => d2 k.1, rfl, rfl, rfl, rfl⟩) H
    by_cases d3 : digB s[3] = true
    rotate_left
    · have H := exp_n4b s ph pm ps pf pu u1 u2 u3 hu1 hu2 hu3 hs (by omega) g0 g1 (by omega) n58 (by omega) d2 (by simpa using d3) (by omega) (dig_not _ d2 44 (by omega)) (dig_not _ d2 46 (by omega)) w
      simp only [ch_get] at H d3
      exact leafA hD (by rw [hW]; exact .inl ⟨fun k => d3 k.2, rfl, rfl, rfl, rfl⟩) H
    have D3 : D2 s 2 := ⟨by rw [← ch_get s 2 (by omega)]; exact d2, by rw [← ch_get s 3 (by omega)]; exact d3⟩
    by_cases z6 : s.size < 6
    · have hk : Clk (sepW s) s pm ps u1 u2 u3 4 (two (ch s 2) (ch s 3)) ps u2 := by
        rw [hW]; exact .inr (.inl ⟨D3, fun k => not_d2_end (s := s) (i := 4) (by omega) k.2, rfl, rfl, rfl, rfl⟩)
      by_cases z5 : s.size ≤ 4
      · have H := exp_n4e s ph pm ps pf pu u1 u2 u3 hu1 hu2 hu3 hs (by omega) g0 g1 (by omega) n58 (by omega) d2 d3 (by omega) (by omega) w
        simp only [ch_get] at H
        exact leafA hD hk H
      · have H := exp_n5 s ph pm ps pf pu u1 u2 u3 hu1 hu2 hu3 hs (by omega) g0 g1 (by omega) n58 (by omega) d2 d3 (by omega) (by omega) w
        simp only [ch_get] at H
        exact leafA hD hk H
    have z6 : 6 ≤ s.size := by omega
    by_cases d4 : digB s[4] = true
    rotate_left
    · have H := exp_n6a s ph pm ps pf pu u1 u2 u3 hu1 hu2 hu3 hs (by omega) g0 g1 (by omega) n58 (by omega) d2 d3 (by simpa using d4) (by omega) w
      simp only [ch_get] at H d4
      exact leafA hD (by rw [hW]; exact .inr (.inl ⟨D3, fun k => d4 k.2.1, rfl, rfl, rfl, rfl⟩)) H
    by_cases d5 : digB s[5] = true
    rotate_left
    · have H := exp_n6b s ph pm ps pf pu u1 u2 u3 hu1 hu2 hu3 hs (by omega) g0 g1 (by omega) n58 (by omega) d2 d3 d4 (by simpa using d5) (by omega) (dig_not _ d4 44 (by omega)) (dig_not _ d4 46 (by omega)) w
      simp only [ch_get] at H d5
      exact leafA hD (by rw [hW]; exact .inr (.inl ⟨D3, fun k => d5 k.2.2, rfl, rfl, rfl, rfl⟩)) H
    have D6 : D2 s 4 := ⟨by rw [← ch_get s 4 (by omega)]; exact d4, by rw [← ch_get s 5 (by omega)]; exact d5⟩
    have hk : Clk (sepW s) s pm ps u1 u2 u3 6 (two (ch s 2) (ch s 3)) (two (ch s 4) (ch s 5)) u3 := by
      rw [hW]; exact .inr (.inr ⟨D3, ⟨.inl rfl, D6⟩, rfl, rfl, rfl, rfl⟩)
    by_cases z7 : s.size ≤ 6
    · have H := exp_n6e s ph pm ps pf pu u1 u2 u3 hu1 hu2 hu3 hs (by omega) g0 g1 (by omega) n58 (by omega) d2 d3 d4 d5 (by omega) w
      simp only [ch_get] at H
      exact leafA hD hk H
    · have H := exp_n7 s ph pm ps pf pu u1 u2 u3 hu1 hu2 hu3 hs (by omega) g0 g1 (by omega) n58 (by omega) d2 d3 d4 d5 (by omega) w
      simp only [ch_get] at H
      exact leafA hD hk H

end Go.Proofs.Ybulkcmju
