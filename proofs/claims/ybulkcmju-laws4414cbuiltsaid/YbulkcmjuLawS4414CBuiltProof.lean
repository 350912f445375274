/-
  The proof of 'Rows.LawS4414CBuiltSaid'. The frame is the guide's template (by its tool); the walk is ours.
-/
import Derived.Test.YbulkcmjuRows
import Derived.WalkKit
import Derived.ProofKit
import Derived.OpenShut
import Derived.ShutString
import Derived.Test.YbulkcmjuCBuiltWalk3
namespace Go.Proofs.Ybulkcmju.lawS4414CBuilt
open Go.ChangeShapes Go.WideShapes Go.ChangeAt Go.RowKit
open Go.ChangeMaps (open_string shut_string)
set_option linter.unusedVariables false      -- a walk need not use every 'w<i>' (that an integer argument fits its kind)

theorem own : ownKnob Yba.prog.godebug = none := by kernel_rfl

/-! ### STEP 1: THE WALK: the Go text returns true, and writes nothing that was there. -/
theorem u8_bounds {a : Int} (h : (Lit.int .u8 a).wf = true) : 0 ≤ a ∧ a ≤ 255 := bounds_u8 h
theorem mod10 (a : Int) (h : 0 ≤ a) : 48 + a % 100 % 10 = 48 + a % 10 := by omega
theorem size_nums (xs : List Int) (h : xs.length ≤ 2000) : (strOfNums xs).size ≤ maxLen := by rw [strOfNums_size]; unfold maxLen; omega

theorem big (a0 : Bool) (a1 : Int) (a2 : Int) (a3 : Int) (a4 : ByteArray) (h : (1024 : Int) < (a4.size : Int)) (w : World) :
    Calls Yba.prog 6 #[.bool a0, .int .u8 a1, .int .u8 a2, .int .u8 a3, .string a4] w fun e w' => e = .returned (.bool true) ∧ Below w.heap.size w w' := by
  go_enter Yba.func6, Yba.ntmps6
  go_wp2
  go_ret
  exact ⟨rfl, Below.refl _ _⟩

theorem digs_ok (s : ByteArray) : ∀ x ∈ dgs s s.size, 48 ≤ x ∧ x ≤ 57 := by
  intro x hx
  obtain ⟨c, _, rfl⟩ := List.mem_map.1 hx
  constructor <;> omega

theorem walk (a0 : Bool) (a1 : Int) (a2 : Int) (a3 : Int) (a4 : ByteArray) (w1 : (Lit.int .u8 a1).wf = true) (w2 : (Lit.int .u8 a2).wf = true) (w3 : (Lit.int .u8 a3).wf = true) (w4 : a4.size ≤ maxLen) (w : World) :
    Calls Yba.prog 6 #[.bool a0, .int .u8 a1, .int .u8 a2, .int .u8 a3, .string a4] w fun e w' => e = .returned (.bool true) ∧ Below w.heap.size w w' := by
  by_cases hbig : (1024 : Int) < (a4.size : Int)
  · exact big a0 a1 a2 a3 a4 hbig w
  have hs : (a4.size : Int) ≤ 1024 := by omega
  obtain ⟨b1, b2⟩ := u8_bounds w1
  obtain ⟨c1, c2⟩ := u8_bounds w2
  obtain ⟨d1, d2⟩ := u8_bounds w3
  have h0 : 0 ≤ a1 % 100 := by omega
  have h1 : a1 % 100 < 100 := by omega
  have m0 : 0 ≤ a2 % 100 := by omega
  have m1 : a2 % 100 < 100 := by omega
  have hk : a3 % 4 = 0 ∨ a3 % 4 = 1 ∨ a3 % 4 = 2 ∨ a3 % 4 = 3 := by omega
  have hdl := dgs_length a4 a4.size (Nat.le_refl _)
  cases a0
  · have hsg : SgI 43 false := .inl ⟨rfl, rfl⟩
    rcases hk with k | k | k | k
    · have z := built0 false 43 (a1 % 100) hsg h0 h1
      rw [mod10 a1 b1] at z
      exact walk0p a1 a2 a3 a4 _ w hs b1 b2 c1 c2 d1 d2 k rfl z (size_nums _ (by simp))
    · have z := built1 false 43 (a1 % 100) (a2 % 100) hsg h0 h1 m0 m1
      rw [mod10 a1 b1, mod10 a2 c1] at z
      exact walk1p a1 a2 a3 a4 _ w hs b1 b2 c1 c2 d1 d2 k rfl z (size_nums _ (by simp))
    · have z := built2 false 43 (a1 % 100) (a2 % 100) hsg h0 h1 m0 m1
      rw [mod10 a1 b1, mod10 a2 c1] at z
      exact walk2p a1 a2 a3 a4 _ w hs b1 b2 c1 c2 d1 d2 k rfl z (size_nums _ (by simp))
    · by_cases hs0 : (0 : Int) < (a4.size : Int)
      · have z := built3 false 43 (a1 % 100) (dgs a4 a4.size) hsg h0 h1 (by omega) (digs_ok a4)
        rw [mod10 a1 b1] at z
        exact walk3p a1 a2 a3 a4 _ _ w hs hs0 b1 b2 c1 c2 d1 d2 k rfl rfl z (size_nums _ (by simp only [List.length_cons]; omega))
      · have z := built3 false 43 (a1 % 100) (dgs a4 a4.size ++ [48]) hsg h0 h1 (by simp) (fun x hx => by rcases List.mem_append.1 hx with h | h; exact digs_ok a4 x h; simp at h; omega)
        rw [mod10 a1 b1] at z
        exact walk3zp a1 a2 a3 a4 _ _ w hs (by omega) b1 b2 c1 c2 d1 d2 k rfl rfl z (size_nums _ (by simp only [List.length_cons, List.length_append, List.length_nil]; omega))
  · have hsg : SgI 45 true := .inr ⟨rfl, rfl⟩
    rcases hk with k | k | k | k
    · have z := built0 true 45 (a1 % 100) hsg h0 h1
      rw [mod10 a1 b1] at z
      exact walk0n a1 a2 a3 a4 _ w hs b1 b2 c1 c2 d1 d2 k rfl z (size_nums _ (by simp))
    · have z := built1 true 45 (a1 % 100) (a2 % 100) hsg h0 h1 m0 m1
      rw [mod10 a1 b1, mod10 a2 c1] at z
      exact walk1n a1 a2 a3 a4 _ w hs b1 b2 c1 c2 d1 d2 k rfl z (size_nums _ (by simp))
    · have z := built2 true 45 (a1 % 100) (a2 % 100) hsg h0 h1 m0 m1
      rw [mod10 a1 b1, mod10 a2 c1] at z
      exact walk2n a1 a2 a3 a4 _ w hs b1 b2 c1 c2 d1 d2 k rfl z (size_nums _ (by simp))
    · by_cases hs0 : (0 : Int) < (a4.size : Int)
      · have z := built3 true 45 (a1 % 100) (dgs a4 a4.size) hsg h0 h1 (by omega) (digs_ok a4)
        rw [mod10 a1 b1] at z
        exact walk3n a1 a2 a3 a4 _ _ w hs hs0 b1 b2 c1 c2 d1 d2 k rfl rfl z (size_nums _ (by simp only [List.length_cons]; omega))
      · have z := built3 true 45 (a1 % 100) (dgs a4 a4.size ++ [48]) hsg h0 h1 (by simp) (fun x hx => by rcases List.mem_append.1 hx with h | h; exact digs_ok a4 x h; simp at h; omega)
        rw [mod10 a1 b1] at z
        exact walk3zn a1 a2 a3 a4 _ _ w hs (by omega) b1 b2 c1 c2 d1 d2 k rfl rfl z (size_nums _ (by simp only [List.length_cons, List.length_append, List.length_nil]; omega))

/-! ### THE ROW's STEP: WRITTEN OUT: LEAVE IT -/
set_option maxRecDepth 100000 in
theorem lifted (os : Os) (started : os.Started) (H : Type) (enc : TypeId × Value → H) :
    ReturnsInHanded {} Yba.checked os 6 .any (Rows.lawS4414CBuiltSpec.pre6 enc Yba.prog Yba.f6 Rows.lawS4414CBuiltRow.domain false) (Rows.lawS4414CBuiltSpec.post enc Yba.prog Yba.f6 false true false false) := by
  refine returnsInHanded_of_change (C := Yba.checked) own started (by kernel_rfl) Yba.func6
    (ChangeSpec.witness6 (enc := enc) (C := Yba.checked) false ⟨#[], #[.bool false, .int .u8 0, .int .u8 0, .int .u8 0, .string ByteArray.empty], []⟩ 8 (by kernel_rfl) (by kernel_rfl) (by kernel_rfl) (by kernel_rfl)) ?_
  intro W base args ds gs before hval0 hW hcnd _
  have hval : ∀ (j : Nat) t v, Yba.f6.params[j]? = some t → args[j]? = some v → Value.okWide Yba.prog W .any base t v := hval0
  have hW' := hW
  obtain ⟨p, q, hA0, hV, rfl, hfz, hnd⟩ := hW
  have hA : DataW.TrodAll enc Yba.prog W 0 (fun _ => true) true Yba.f6.params.toList args.toList ds p := hA0
  rw [Yba.params6] at hA hval
  obtain ⟨v0, vs0, d0, ds0, p0, q0, hargs, rfl, rfl, h0, r0⟩ := trodAll_cons hA
  obtain ⟨v1, vs1, d1, ds1, p1, q1, rfl, rfl, rfl, h1, r1⟩ := trodAll_cons r0
  obtain ⟨v2, vs2, d2, ds2, p2, q2, rfl, rfl, rfl, h2, r2⟩ := trodAll_cons r1
  obtain ⟨v3, vs3, d3, ds3, p3, q3, rfl, rfl, rfl, h3, r3⟩ := trodAll_cons r2
  obtain ⟨v4, vs4, d4, ds4, p4, q4, rfl, rfl, rfl, h4, r4⟩ := trodAll_cons r3
  obtain ⟨rfl, rfl, rfl⟩ := trodAll_nil r4
  obtain rfl : args = #[v0, v1, v2, v3, v4] := by cases args; simp_all
  obtain ⟨rfl, rfl⟩ := trodVars_none hV
  obtain ⟨a0, rfl, rfl, rfl⟩ := open_bool Yba.underlying4 (hval 0 4 v0 rfl rfl) h0
  obtain ⟨a1, rfl, rfl, rfl, w1⟩ := open_int Yba.underlying5 (hval 1 5 v1 rfl rfl) h1
  obtain ⟨a2, rfl, rfl, rfl, w2⟩ := open_int Yba.underlying5 (hval 2 5 v2 rfl rfl) h2
  obtain ⟨a3, rfl, rfl, rfl, w3⟩ := open_int Yba.underlying5 (hval 3 5 v3 rfl rfl) h3
  obtain ⟨a4, rfl, rfl, rfl, w4⟩ := open_string Yba.underlying9 (hval 4 9 v4 rfl rfl) h4
  clear hA0 hval0
  simp only [List.append_nil] at hW'
  refine (walk a0 a1 a2 a3 a4 w1 w2 w3 w4 W).mono fun e W' ⟨he, bel⟩ => ?_
  subst he
  exact ⟨_, rfl, _, _, _, [], [], [], hW', trodAll_mk1 (shut_bool Yba.underlying4 _), (trodAll_cons_mk (shut_bool Yba.underlying4 _) (trodAll_cons_mk (shut_int Yba.underlying5 w1) (trodAll_cons_mk (shut_int Yba.underlying5 w2) (trodAll_cons_mk (shut_int Yba.underlying5 w3) (trodAll_cons_mk (shut_string Yba.underlying9 w4) trodAll_mk0))))), rfl, bel.frame _, fun h => by cases h⟩

theorem over : Rows.lawS4414CBuiltRow.holds Yba.pinned (OpenSpec.ofChange Rows.lawS4414CBuiltSpec) :=
  OpenClaim.holds_of_wide 6 Yba.f6 rfl rfl rfl rfl rfl rfl rfl ⟨rfl, rfl, rfl, rfl, rfl⟩ rfl rfl rfl rfl rfl (by kernel_rfl) Yba.func6 (by kernel_rfl)
    (of_decide_eq_true (by kernel_rfl)) (by unfold Func.isWrapper; first | (rw [if_pos (by decide +kernel)]; kernel_rfl) | (rw [if_neg (by decide +kernel)]; exact ⟨rfl, rfl⟩))
    (fun os started H enc _ => lifted os started H enc)

/-- ████ THE STATEMENT ████ -/
theorem proved : Rows.LawS4414CBuiltSaid :=
  over
#print axioms proved
end Go.Proofs.Ybulkcmju.lawS4414CBuilt
