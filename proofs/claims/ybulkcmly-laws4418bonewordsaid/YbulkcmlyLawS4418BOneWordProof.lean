/-
  The proof of 'Rows.LawS4418BOneWordSaid'. The frame is the guide's template (by its tool); the walk is ours.
-/
import Derived.Test.YbulkcmlyRows
import Derived.WalkKit
import Derived.ProofKit
import Derived.OpenShut
import Derived.ShutString
import Derived.Test.YbulkcmlyOne
namespace Go.Proofs.Ybulkcmly.lawS4418BOneWord
open Go.ChangeShapes Go.WideShapes Go.ChangeAt Go.RowKit
open Go.ChangeMaps (open_string shut_string)
set_option linter.unusedVariables false      -- a walk need not use every 'w<i>' (that an integer argument fits its kind)

theorem own : ownKnob Yba.prog.godebug = none := by kernel_rfl

/-! ### STEP 1: THE WALK: the Go text returns true, and writes nothing that was there. -/
theorem walk (a0 : Int) (a1 : Int) (a2 : Int) (a3 : Int) (a4 : Int) (w0 : (Lit.int .u64 a0).wf = true) (w1 : (Lit.int .u64 a1).wf = true) (w2 : (Lit.int .u8 a2).wf = true) (w3 : (Lit.int .u8 a3).wf = true) (w4 : (Lit.int .u8 a4).wf = true) (w : World) :
    Calls Yba.prog 6 #[.int .u64 a0, .int .u64 a1, .int .u8 a2, .int .u8 a3, .int .u8 a4] w fun e w' => e = .returned (.bool true) ∧ Below w.heap.size w w' := by
  have hx := bounds_u64 w0
  have hy := bounds_u64 w1
  obtain ⟨b2, c2⟩ := bounds_u8 w2
  obtain ⟨b3, c3⟩ := bounds_u8 w3
  obtain ⟨b4, c4⟩ := bounds_u8 w4
  have hx' : 0 ≤ a0 ∧ a0 < 18446744073709551616 := ⟨hx.1, by have := hx.2; omega⟩
  have hy' : 0 ≤ a1 ∧ a1 < 18446744073709551616 := ⟨hy.1, by have := hy.2; omega⟩
  obtain ⟨la, ela⟩ : ∃ la : Nat, (1 : Int) + a2 % 4 = la := ⟨(1 + a2 % 4).toNat, by omega⟩
  obtain ⟨lb, elb⟩ : ∃ lb : Nat, (1 : Int) + a3 % 4 = lb := ⟨(1 + a3 % 4).toNat, by omega⟩
  by_cases hlb : (lb : Int) ≤ la
  · obtain ⟨n, en⟩ : ∃ n : Nat, (la : Int) + a4 % 3 = n := ⟨((la : Int) + a4 % 3).toNat, by omega⟩
    by_cases h1 : a0 < a1
    · exact one_lt_a a0 a1 a2 a3 a4 la lb n hx' hy' b2 c2 b3 c3 b4 c4 ela elb hlb en h1 w
    by_cases h2 : a1 < a0
    · exact one_gt_a a0 a1 a2 a3 a4 la lb n hx' hy' b2 c2 b3 c3 b4 c4 ela elb hlb en h2 w
    · exact one_eq_a a0 a1 a2 a3 a4 la lb n hx' hy' b2 c2 b3 c3 b4 c4 ela elb hlb en (by omega) w
  · obtain ⟨n, en⟩ : ∃ n : Nat, (lb : Int) + a4 % 3 = n := ⟨((lb : Int) + a4 % 3).toNat, by omega⟩
    by_cases h1 : a0 < a1
    · exact one_lt_b a0 a1 a2 a3 a4 la lb n hx' hy' b2 c2 b3 c3 b4 c4 ela elb (by omega) en h1 w
    by_cases h2 : a1 < a0
    · exact one_gt_b a0 a1 a2 a3 a4 la lb n hx' hy' b2 c2 b3 c3 b4 c4 ela elb (by omega) en h2 w
    · exact one_eq_b a0 a1 a2 a3 a4 la lb n hx' hy' b2 c2 b3 c3 b4 c4 ela elb (by omega) en (by omega) w

/-! ### THE ROW's STEP: WRITTEN OUT: LEAVE IT -/
set_option maxRecDepth 100000 in
theorem lifted (os : Os) (started : os.Started) (H : Type) (enc : TypeId × Value → H) :
    ReturnsInHanded {} Yba.checked os 6 .any (Rows.lawS4418BOneWordSpec.pre6 enc Yba.prog Yba.f6 Rows.lawS4418BOneWordRow.domain false) (Rows.lawS4418BOneWordSpec.post enc Yba.prog Yba.f6 false true false false) := by
  refine returnsInHanded_of_change (C := Yba.checked) own started (by kernel_rfl) Yba.func6
    (ChangeSpec.witness6 (enc := enc) (C := Yba.checked) false ⟨#[], #[.int .u64 0, .int .u64 0, .int .u8 0, .int .u8 0, .int .u8 0], []⟩ 8 (by kernel_rfl) (by kernel_rfl) (by kernel_rfl) (by kernel_rfl)) ?_
  intro W base args ds gs before hval0 hW hcnd _
  have hval : ∀ (j : Nat) t v, Yba.f6.params[j]? = some t → args[j]? = some v → Value.okWide Yba.prog W .any base t v := hval0
  have hW' := hW
  obtain ⟨p, q, hA0, hV, rfl, hfz, hnd⟩ := hW
  have hA : DataW.TrodAll enc Yba.prog W 0 (fun _ => true) true Yba.f6.params.toList args.toList ds p := hA0
  rw [Yba.params6] at hA hval
  obtain ⟨v0, vs0, d0, ds0, p0, q0, hargs, rfl, rfl, h0, r0⟩ := trodAll_cons hA
  obtain ⟨v1, vs1, d1, ds1, p1, q1, rfl, rfl, rfl, h1, r1⟩ := trodAll_cons r0
  obtain ⟨v2, vs2, d2, ds2, p2, q2, rfl, rfl, rfl, h2, r2⟩ := trodAll_cons r1
  obtain ⟨v3, vs3, d3, ds3, p3, q3, rfl, rfl, rfl, h3, r3⟩ := trodAll_cons r2
  obtain ⟨v4, vs4, d4, ds4, p4, q4, rfl, rfl, rfl, h4, r4⟩ := trodAll_cons r3
  obtain ⟨rfl, rfl, rfl⟩ := trodAll_nil r4
  obtain rfl : args = #[v0, v1, v2, v3, v4] := by cases args; simp_all
  obtain ⟨rfl, rfl⟩ := trodVars_none hV
  obtain ⟨a0, rfl, rfl, rfl, w0⟩ := open_int Yba.underlying28 (hval 0 28 v0 rfl rfl) h0
  obtain ⟨a1, rfl, rfl, rfl, w1⟩ := open_int Yba.underlying28 (hval 1 28 v1 rfl rfl) h1
  obtain ⟨a2, rfl, rfl, rfl, w2⟩ := open_int Yba.underlying5 (hval 2 5 v2 rfl rfl) h2
  obtain ⟨a3, rfl, rfl, rfl, w3⟩ := open_int Yba.underlying5 (hval 3 5 v3 rfl rfl) h3
  obtain ⟨a4, rfl, rfl, rfl, w4⟩ := open_int Yba.underlying5 (hval 4 5 v4 rfl rfl) h4
  clear hA0 hval0
  simp only [List.append_nil] at hW'
  refine (walk a0 a1 a2 a3 a4 w0 w1 w2 w3 w4 W).mono fun e W' ⟨he, bel⟩ => ?_
  subst he
  exact ⟨_, rfl, _, _, _, [], [], [], hW', trodAll_mk1 (shut_bool Yba.underlying4 _), (trodAll_cons_mk (shut_int Yba.underlying28 w0) (trodAll_cons_mk (shut_int Yba.underlying28 w1) (trodAll_cons_mk (shut_int Yba.underlying5 w2) (trodAll_cons_mk (shut_int Yba.underlying5 w3) (trodAll_cons_mk (shut_int Yba.underlying5 w4) trodAll_mk0))))), rfl, bel.frame _, fun h => by cases h⟩

theorem over : Rows.lawS4418BOneWordRow.holds Yba.pinned (OpenSpec.ofChange Rows.lawS4418BOneWordSpec) :=
  OpenClaim.holds_of_wide 6 Yba.f6 rfl rfl rfl rfl rfl rfl rfl ⟨rfl, rfl, rfl, rfl, rfl⟩ rfl rfl rfl rfl rfl (by kernel_rfl) Yba.func6 (by kernel_rfl)
    (of_decide_eq_true (by kernel_rfl)) (by unfold Func.isWrapper; first | (rw [if_pos (by decide +kernel)]; kernel_rfl) | (rw [if_neg (by decide +kernel)]; exact ⟨rfl, rfl⟩))
    (fun os started H enc _ => lifted os started H enc)

/-- ████ THE STATEMENT ████ -/
theorem proved : Rows.LawS4418BOneWordSaid :=
  over
#print axioms proved
end Go.Proofs.Ybulkcmly.lawS4418BOneWord
