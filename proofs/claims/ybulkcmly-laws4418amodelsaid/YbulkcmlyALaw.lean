/-
  LawS4418AModel's walk.
-/
import Derived.Test.YbulkcmlyMulG
import Derived.Test.YbulkcmlyModelA
namespace Go.Proofs.Ybulkcmly
open Go.RowKit
set_option linter.unusedVariables false

theorem acopy_any (a : Option Addr) (n cap : Nat) (xs : List Int) (hn : (n : Int) ≤ 512) (hx : xs.length = n) (h0 : a = none → n = 0 ∧ cap = 0) (w : World) (s1 : At w a xs) :
    Calls Yba.prog 8 #[.slice a n cap, .int .i64 0] w fun e w' => ∃ a', e = .returned (.slice a' n n) ∧ At w' a' xs ∧ Below w.heap.size w w' := by
  cases a with
  | none =>
    obtain ⟨rfl, rfl⟩ := h0 rfl
    refine (acopy_nil w).mono ?_
    rintro e w' ⟨rfl, rfl⟩
    exact ⟨none, rfl, .inl (List.eq_nil_of_length_eq_zero hx), Below.refl _ _⟩
  | some x =>
    refine (acopy_some x n cap xs hn hx w s1).mono ?_
    rintro e w' ⟨rfl, h1, h2, h3, h4⟩
    exact ⟨_, rfl, .inr ⟨_, _, rfl, h1⟩, h4⟩

theorem bstep {w w1 w2 : World} (h : Below w.heap.size w w1) (k : Below w1.heap.size w1 w2) : Below w.heap.size w w2 := h.trans (k.mono h.size)
theorem Drawn.below {w w' : World} (h : Drawn w w') : Below w.heap.size w w' := by
  obtain ⟨q, rfl⟩ := h
  exact ⟨rfl, rfl, rfl, Nat.le_refl _, fun _ _ => rfl⟩

theorem model_big0 (a0 a1 : Option Addr) (n0 c0 n1 c1 : Nat) (w : World) (h : (512 : Int) < (n0 : Int)) :
    Calls Yba.prog 3 #[.slice a0 n0 c0, .slice a1 n1 c1] w fun e w' => e = .returned (.bool true) ∧ Below w.heap.size w w' := by
  go_enter Yba.func3, Yba.ntmps3
  go_wp2
  go_ret
  exact ⟨rfl, Below.refl _ _⟩
theorem model_big1 (a0 a1 : Option Addr) (n0 c0 n1 c1 : Nat) (w : World) (h0 : (n0 : Int) ≤ 512) (h : (512 : Int) < (n1 : Int)) :
    Calls Yba.prog 3 #[.slice a0 n0 c0, .slice a1 n1 c1] w fun e w' => e = .returned (.bool true) ∧ Below w.heap.size w w' := by
  go_enter Yba.func3, Yba.ntmps3
  go_wp2
  go_ret
  exact ⟨rfl, Below.refl _ _⟩

set_option maxHeartbeats 1600000 in
set_option maxRecDepth 100000 in
theorem model_law (a0 a1 : Option Addr) (n0 c0 n1 c1 : Nat) (xs ys : List Int) (h0 : (n0 : Int) ≤ 512) (h1 : (n1 : Int) ≤ 512) (xl : xs.length = n0) (yl : ys.length = n1) (z0 : a0 = none → n0 = 0 ∧ c0 = 0) (z1 : a1 = none → n1 = 0 ∧ c1 = 0) (hx : Words xs) (hy : Words ys) (w : World) (s0 : At w a0 xs) (s1 : At w a1 ys) :
    Calls Yba.prog 3 #[.slice a0 n0 c0, .slice a1 n1 c1] w fun e w' => e = .returned (.bool true) ∧ Below w.heap.size w w' := by
  have hmx : maxLen = 9223372036854775807 := rfl
  have A1 := hid (acopy_any a0 n0 c0 xs h0 xl z0 w s0)
  have A2 : Hid (∀ w1, Below w.heap.size w w1 → Calls Yba.prog 8 #[.slice a1 n1 c1, .int .i64 0] w1 fun e w' => ∃ a', e = .returned (.slice a' n1 n1) ∧ At w' a' ys ∧ Below w1.heap.size w1 w') := fun w1 b => acopy_any a1 n1 c1 ys h1 yl z1 w1 (s1.belowN b)
  have A3 : Hid (∀ b0 b1 w2, At w2 b0 xs → At w2 b1 ys → Calls Yba.prog 9 #[.slice b0 n0 n0, .slice b1 n1 n1] w2 fun e w' => ∃ rs : List Int, Words rs ∧ nv rs = nv xs * nv ys ∧ e = .returned (.slice (some ⟨w2.heap.size, 0, none⟩) (nrm rs) rs.length) ∧ Cells w' w2.heap.size 0 rs ∧ Below w2.heap.size w2 w') :=
    fun b0 b1 w2 t0 t1 => mul_walk b0 b1 n0 n0 n1 n1 xs ys (by omega) (by omega) xl yl (Nat.le_refl _) (by omega) (Nat.le_refl _) (by omega) hx hy w2 t0 t1
  have A4 : Hid (∀ w3, Below w.heap.size w w3 → Calls Yba.prog 10 #[.slice a0 n0 c0, .slice a1 n1 c1] w3 fun e w' => ∃ rs : List Int, rs.length = n0 + n1 ∧ Words rs ∧ nv rs = nv ys * nv xs ∧ e = .returned (.slice (some ⟨w3.heap.size, 0, none⟩) (nrm rs) (n0 + n1)) ∧ Cells w' w3.heap.size 0 rs ∧ Below w3.heap.size w3 w') :=
    fun w3 b => model_walk n0 n1 c0 c1 xs ys h0 h1 xl yl hx hy a0 a1 w3 (s0.belowN b) (s1.belowN b)
  have S : Hid (xs.length = n0 ∧ ys.length = n1 ∧ At w a0 xs ∧ At w a1 ys) := ⟨xl, yl, s0, s1⟩
  clear xl yl z0 z1 hx hy s0 s1 hmx
  go_enter Yba.func3, Yba.ntmps3
  go_wp2_with fail
  refine A1.out.mono ?_
  rintro e w1 ⟨b0, rfl, t0, bel1⟩
  have T1 : Hid (At w1 b0 xs ∧ Below w.heap.size w w1) := ⟨t0, bel1⟩
  have D2 := hid (A2.out w1 bel1)
  clear t0 bel1 A1 A2
  go_wp2_with fail
  refine D2.out.mono ?_
  rintro e w2 ⟨b1, rfl, t1, bel2⟩
  have T2 : Hid (At w2 b0 xs ∧ At w2 b1 ys ∧ Below w.heap.size w w2) := ⟨T1.out.1.belowN bel2, t1, bstep T1.out.2 bel2⟩
  have D3 := hid (A3.out b0 b1 w2 T2.out.1 T2.out.2.1)
  clear t1 bel2 A3 D2 T1
  go_wp2_with fail
  refine D3.out.mono ?_
  rintro e w3 ⟨rs, q1, q2, rfl, q3, bel3⟩
  have T3 : Hid (At w3 b0 xs ∧ At w3 b1 ys ∧ At w3 (some ⟨w2.heap.size, 0, none⟩) rs ∧ Words rs ∧ nv rs = nv xs * nv ys ∧ Below w.heap.size w w3) := ⟨T2.out.1.belowN bel3, T2.out.2.1.belowN bel3, .inr ⟨_, _, rfl, q3⟩, q1, q2, bstep T2.out.2.2 bel3⟩
  have D4 := hid (A4.out w3 T3.out.2.2.2.2.2)
  clear q1 q2 q3 bel3 D3 A4 T2
  go_wp2_with fail
  refine D4.out.mono ?_
  rintro e w4 ⟨rt, p0, p1, p2, rfl, p3, bel4⟩
  have E : Hid (nrm rs = nrm rt ∧ rs.take (nrm rs) = rt.take (nrm rt)) := nrm_eq T3.out.2.2.2.1 p1 (by rw [T3.out.2.2.2.2.1, p2, Int.mul_comm])
  have T4 : Hid (At w4 b0 xs ∧ At w4 b1 ys ∧ At w4 (some ⟨w2.heap.size, 0, none⟩) (rs.take (nrm rs)) ∧ At w4 (some ⟨w3.heap.size, 0, none⟩) (rs.take (nrm rs)) ∧ Below w.heap.size w w4) :=
    ⟨T3.out.1.belowN bel4, T3.out.2.1.belowN bel4, (T3.out.2.2.1.belowN bel4).take _, by rw [E.out.2]; exact At.take (.inr ⟨_, _, rfl, p3⟩) _, bstep T3.out.2.2.2.2.2 bel4⟩
  obtain ⟨L, hL⟩ : ∃ L, L = nrm rs := ⟨_, rfl⟩
  have eL : nrm rt = L := by rw [hL, E.out.1]
  rw [eL, ← hL]
  have lL : L ≤ 1024 := by have := nrm_le rt; omega
  have tl : (rs.take (nrm rs)).length = L := by have := nrm_le rs; rw [List.length_take]; omega
  have D5 := hid (aeq_at (some ⟨w2.heap.size, 0, none⟩) (some ⟨w3.heap.size, 0, none⟩) L rs.length (n0 + n1) (rs.take (nrm rs)) tl (by omega) w4 T4.out.2.2.1 T4.out.2.2.2.1)
  clear p0 p1 p2 p3 bel4 D4 T3 E eL hL tl
  go_wp2_with fail
  refine D5.out.mono ?_
  rintro e w5 ⟨rfl, dr5⟩
  have T5 : Hid (At w5 b0 xs ∧ At w5 b1 ys ∧ Below w.heap.size w w5) := ⟨T4.out.1.drawn dr5, T4.out.2.1.drawn dr5, bstep T4.out.2.2.2.2 dr5.below⟩
  have D6 := hid (aeq_at b0 a0 n0 n0 c0 xs S.out.1 (by omega) w5 T5.out.1 (S.out.2.2.1.belowN T5.out.2.2))
  clear D5 T4 dr5
  go_wp2_with fail
  refine D6.out.mono ?_
  rintro e w6 ⟨rfl, dr6⟩
  have T6 : Hid (At w6 b1 ys ∧ Below w.heap.size w w6) := ⟨T5.out.2.1.drawn dr6, bstep T5.out.2.2 dr6.below⟩
  have D7 := hid (aeq_at b1 a1 n1 n1 c1 ys S.out.2.1 (by omega) w6 T6.out.1 (S.out.2.2.2.belowN T6.out.2))
  clear D6 T5 dr6
  go_wp2_with fail
  refine D7.out.mono ?_
  rintro e w7 ⟨rfl, dr7⟩
  have T7 := hid (bstep T6.out.2 dr7.below)
  clear D7 T6 dr7
  go_wp2
  go_ret
  exact ⟨rfl, T7.out⟩
end Go.Proofs.Ybulkcmly
