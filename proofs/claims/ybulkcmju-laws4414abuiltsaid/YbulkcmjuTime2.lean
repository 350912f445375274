/-
  The contract of scanTime, a theorem a way into its loop. (plain facts)
-/
import Derived.Test.YbulkcmjuTime
namespace Go.Proofs.Ybulkcmju
open Go.RowKit
set_option linter.unusedVariables false

/-- Two digits stand at place i. -/
def D2 (s : ByteArray) (i : Nat) : Prop := digB (ch s i) = true ∧ digB (ch s (i + 1)) = true
/-- The loop's state ahead of round k; e: the separator's length. -/
def St (e : Nat) (s : ByteArray) (h m sc : Int) (pf : ByteArray) (pu u1 u2 u3 : Int) (k : Nat) (r : ByteArray) (cs : List Value) : Prop :=
  (k = 0 ∧ r = s ∧ cs = isoL h m sc pf pu) ∨
  (k = 1 ∧ r = s.extract 2 s.size ∧ 2 ≤ s.size ∧ cs = isoL (two (ch s 0) (ch s 1)) m sc pf u1) ∨
  (k = 2 ∧ r = s.extract (4 + e) s.size ∧ 4 + e ≤ s.size ∧ D2 s (2 + e) ∧ cs = isoL (two (ch s 0) (ch s 1)) (two (ch s (2 + e)) (ch s (3 + e))) sc pf u2) ∨
  (k = 3 ∧ r = s.extract (6 + 2 * e) s.size ∧ 6 + 2 * e ≤ s.size ∧ D2 s (2 + e) ∧ (e = 0 ∨ (ch s (4 + e)).toNat = 58) ∧ D2 s (4 + 2 * e) ∧ cs = isoL (two (ch s 0) (ch s 1)) (two (ch s (2 + e)) (ch s (3 + e))) (two (ch s (4 + 2 * e)) (ch s (5 + 2 * e))) pf u3)
/-- How far the numbers of the clock reach, and what they are. -/
def Clk (e : Nat) (s : ByteArray) (m sc u1 u2 u3 : Int) (p : Nat) (m' sc' u' : Int) : Prop :=
  (¬ D2 s (2 + e) ∧ p = 2 ∧ m' = m ∧ sc' = sc ∧ u' = u1) ∨
  (D2 s (2 + e) ∧ ¬ ((e = 0 ∨ (ch s (4 + e)).toNat = 58) ∧ D2 s (4 + 2 * e)) ∧ p = 4 + e ∧ m' = two (ch s (2 + e)) (ch s (3 + e)) ∧ sc' = sc ∧ u' = u2) ∨
  (D2 s (2 + e) ∧ ((e = 0 ∨ (ch s (4 + e)).toNat = 58) ∧ D2 s (4 + 2 * e)) ∧ p = 6 + 2 * e ∧ m' = two (ch s (2 + e)) (ch s (3 + e)) ∧ sc' = two (ch s (4 + 2 * e)) (ch s (5 + 2 * e)) ∧ u' = u3)
/-- What scanTime leaves. -/
def Fin2 (s : ByteArray) (p : Nat) (pf : ByteArray) (h m sc u : Int) (cs : List Value) (rest : ByteArray) (ok : Bool) : Prop :=
  (∃ q fr, TailOk s p pf q fr ∧ cs = isoL h m sc fr u ∧ rest = s.extract q s.size ∧ ok = true) ∨ (TailNo s p ∧ cs = isoL h m sc pf u ∧ rest = ⟨#[]⟩ ∧ ok = false)

/-- What a call of scanTime does to the isoFields in block fb. -/
def TPost (e : Nat) (fb : Nat) (s : ByteArray) (m sc : Int) (pf : ByteArray) (u1 u2 u3 : Int) (w : World) (x : Ending) (w' : World) : Prop :=
  ∃ p m' sc' u' cs rest ok, Clk e s m sc u1 u2 u3 p m' sc' u' ∧ Fin2 s p pf (two (ch s 0) (ch s 1)) m' sc' u' cs rest ok ∧ x = .returned (.tuple #[.string rest, .bool ok]) ∧ Ch fb w w' cs

theorem emp_f {s : ByteArray} (h : 0 < s.size) : s.toList.isEmpty = false := by
  rw [ByteArray.toList_eq]
  rw [List.isEmpty_eq_false_iff]
  intro k
  have : s.data.toList.length = 0 := by rw [k]; rfl
  have h2 : s.data.toList.length = s.size := by simp
  omega
theorem emp_t {s : ByteArray} (h : s.size = 0) : s.toList.isEmpty = true := by
  rw [ByteArray.toList_eq]
  rw [List.isEmpty_iff]
  apply List.eq_nil_of_length_eq_zero
  have h2 : s.data.toList.length = s.size := by simp
  omega

theorem d2_lead (s : ByteArray) (i : Nat) : D2 s i ↔ 2 ≤ lead (s.extract i s.size).data.toList := by
  rw [lead_tail]
  unfold D2
  constructor
  · intro ⟨h0, h1⟩ j hj
    rcases (show j = 0 ∨ j = 1 by omega) with rfl | rfl
    · exact h0
    · exact h1
  · intro h
    exact ⟨h 0 (by omega), h 1 (by omega)⟩
theorem d2_lt {s : ByteArray} {i : Nat} (h : D2 s i) : i + 2 ≤ s.size := by
  have := ch_dig s (i + 1) h.2
  omega

theorem tail_piece (s : ByteArray) (p a b : Nat) (hb : p + b ≤ s.size) : (s.extract p s.size).extract a b = s.extract (p + a) (p + b) := by
  apply bytes_ext
  simp
  rw [Nat.min_eq_left hb]

theorem fin_no {s r : ByteArray} {p : Nat} (pf : ByteArray) (h m sc u : Int) (hr : r = s.extract p s.size) (hs : ¬ Sep r 0) : Fin2 s p pf h m sc u (isoL h m sc pf u) r true := by
  refine .inl ⟨p, pf, .inl ⟨?_, rfl, rfl⟩, rfl, hr, rfl⟩
  intro k
  apply hs
  unfold Sep at k ⊢
  rw [hr, tail_ch, Nat.add_zero]
  exact k
theorem sep_tail {s r : ByteArray} {p : Nat} (hr : r = s.extract p s.size) (hs : Sep r 0) : Sep s p := by
  unfold Sep at hs ⊢
  rw [hr, tail_ch, Nat.add_zero] at hs
  exact hs
theorem fin_yes {s r : ByteArray} {p n : Nat} (pf : ByteArray) (h m sc u : Int) (hr : r = s.extract p s.size) (hs : Sep r 0) (hn : lead (r.extract 1 r.size).data.toList = n) (h0 : 0 < n) :
    Fin2 s p pf h m sc u (isoL h m sc (r.extract 1 (1 + n)) u) (r.extract (1 + n) r.size) true := by
  subst hr
  rw [tail_tail] at hn
  have hle : n ≤ s.size - (p + 1) := by rw [← hn, ← tail_size]; exact lead_size _
  refine .inl ⟨p + (1 + n), s.extract (p + 1) (p + 1 + n), .inr ⟨sep_tail rfl hs, n, hn.symm, h0, rfl, rfl⟩, ?_, tail_tail _ _ _, rfl⟩
  rw [tail_piece s p 1 (1 + n) (by omega), Nat.add_assoc]
theorem fin_bad {s r : ByteArray} {p : Nat} (pf : ByteArray) (h m sc u : Int) (hr : r = s.extract p s.size) (hs : Sep r 0) (hn : lead (r.extract 1 r.size).data.toList = 0) :
    Fin2 s p pf h m sc u (isoL h m sc pf u) ⟨#[]⟩ false := by
  subst hr
  rw [tail_tail] at hn
  exact .inr ⟨⟨sep_tail rfl hs, hn⟩, rfl, rfl, rfl⟩

theorem st_2 {e : Nat} {s r : ByteArray} (h m sc : Int) (pf : ByteArray) (pu u1 u2 u3 : Int) (hr : r = s.extract (2 + e) s.size) (hl : 2 ≤ lead r.data.toList) :
    St e s h m sc pf pu u1 u2 u3 2 (r.extract 2 r.size) (isoL (two (ch s 0) (ch s 1)) (two (ch r 0) (ch r 1)) sc pf u2) := by
  subst hr
  have hd := (d2_lead s (2 + e)).2 hl
  refine .inr (.inr (.inl ⟨rfl, ?_, ?_, hd, ?_⟩))
  · rw [tail_tail]; congr 1; omega
  · have := d2_lt hd; omega
  · rw [tail_ch, tail_ch, Nat.add_zero, show 2 + e + 1 = 3 + e by omega]
theorem st_3 {e : Nat} {s r : ByteArray} (h m sc : Int) (pf : ByteArray) (pu u1 u2 u3 : Int) (hD : D2 s (2 + e)) (hc : e = 0 ∨ (ch s (4 + e)).toNat = 58) (hr : r = s.extract (4 + 2 * e) s.size) (hl : 2 ≤ lead r.data.toList) :
    St e s h m sc pf pu u1 u2 u3 3 (r.extract 2 r.size) (isoL (two (ch s 0) (ch s 1)) (two (ch s (2 + e)) (ch s (3 + e))) (two (ch r 0) (ch r 1)) pf u3) := by
  subst hr
  have hd := (d2_lead s (4 + 2 * e)).2 hl
  refine .inr (.inr (.inr ⟨rfl, ?_, ?_, hD, hc, hd, ?_⟩))
  · rw [tail_tail]; congr 1; omega
  · have := d2_lt hd; omega
  · rw [tail_ch, tail_ch, Nat.add_zero, show 4 + 2 * e + 1 = 5 + 2 * e by omega]
theorem clk_1 {e : Nat} {s r : ByteArray} (m sc u1 u2 u3 : Int) (hr : r = s.extract (2 + e) s.size) (hl : ¬ 2 ≤ lead r.data.toList) : Clk e s m sc u1 u2 u3 2 m sc u1 := by
  subst hr
  exact .inl ⟨fun k => hl ((d2_lead s (2 + e)).1 k), rfl, rfl, rfl, rfl⟩
theorem clk_2 {e : Nat} {s r : ByteArray} (m sc u1 u2 u3 : Int) (hD : D2 s (2 + e)) (hr : r = s.extract (4 + 2 * e) s.size) (hl : ¬ 2 ≤ lead r.data.toList) : Clk e s m sc u1 u2 u3 (4 + e) (two (ch s (2 + e)) (ch s (3 + e))) sc u2 := by
  subst hr
  exact .inr (.inl ⟨hD, fun k => hl ((d2_lead s (4 + 2 * e)).1 k.2), rfl, rfl, rfl, rfl⟩)
theorem clk_2c {e : Nat} {s : ByteArray} (m sc u1 u2 u3 : Int) (hD : D2 s (2 + e)) (he : 0 < e) (hc : ¬ (ch s (4 + e)).toNat = 58) : Clk e s m sc u1 u2 u3 (4 + e) (two (ch s (2 + e)) (ch s (3 + e))) sc u2 :=
  .inr (.inl ⟨hD, fun k => k.1.elim (fun q => by omega) hc, rfl, rfl, rfl, rfl⟩)
theorem clk_3 {e : Nat} {s : ByteArray} (m sc u1 u2 u3 : Int) (hD : D2 s (2 + e)) (hc : e = 0 ∨ (ch s (4 + e)).toNat = 58) (hd : D2 s (4 + 2 * e)) : Clk e s m sc u1 u2 u3 (6 + 2 * e) (two (ch s (2 + e)) (ch s (3 + e))) (two (ch s (4 + 2 * e)) (ch s (5 + 2 * e))) u3 :=
  .inr (.inr ⟨hD, ⟨hc, hd⟩, rfl, rfl, rfl, rfl⟩)

end Go.Proofs.Ybulkcmju
