/-
  The proof of 'Rows.LawS4414CModelSaid'. The frame is the guide's template (by its tool); the walk is ours.
-/
import Derived.Test.YbulkcmjuRows
import Derived.WalkKit
import Derived.ProofKit
import Derived.OpenShut
import Derived.ShutString
import Derived.Test.YbulkcmjuModelAny
namespace Go.Proofs.Ybulkcmju.lawS4414CModel
open Go.ChangeShapes Go.WideShapes Go.ChangeAt Go.RowKit
open Go.ChangeMaps (open_string shut_string)
set_option linter.unusedVariables false      -- a walk need not use every 'w<i>' (that an integer argument fits its kind)

theorem own : ownKnob Yba.prog.godebug = none := by kernel_rfl

/-! ### STEP 1: THE WALK: the Go text returns true, and writes nothing that was there. -/
theorem bcell {W w1 : World} (hb : Below W.heap.size W w1) : (∀ b o, b < W.heap.size → w1.cell? ⟨b, o, none⟩ = W.cell? ⟨b, o, none⟩) ∧ (∀ b o, b < W.heap.size → w1.frozen? ⟨b, o, none⟩ = W.frozen? ⟨b, o, none⟩) :=
  ⟨fun b o h => hb.cell (p := ⟨b, o, none⟩) h, fun b o h => hb.frozen (p := ⟨b, o, none⟩) h⟩

theorem scan_z (s : ByteArray) (z : Zn) (ok : Bool) (hz : zfun s = (z, ok)) (hs : s.size ≤ maxLen) (w : World) :
    Calls Yba.prog 8 #[.string s] w fun e w' => e = .returned (.tuple #[z.val, .bool ok]) ∧ Below w.heap.size w w' := by
  have := scan_any s hs w
  rw [hz] at this
  exact this
theorem model_z (s : ByteArray) (z : Zn) (ok : Bool) (hz : zfun s = (z, ok)) (hs : s.size ≤ maxLen) (w : World) :
    Calls Yba.prog 9 #[.string s] w fun e w' => e = .returned (.tuple #[z.val, .bool ok]) ∧ Below w.heap.size w w' := by
  have := model_any s hs w
  rw [hz] at this
  exact this

theorem walk (a0 : ByteArray) (w0 : a0.size ≤ maxLen) (w : World) :
    Calls Yba.prog 5 #[.string a0] w fun e w' => e = .returned (.bool true) ∧ Below w.heap.size w w' := by
  by_cases hbig : (1024 : Int) < (a0.size : Int)
  · go_enter Yba.func5, Yba.ntmps5
    go_wp2
    go_ret
    exact ⟨rfl, Below.refl _ _⟩
  obtain ⟨z, ok, hz⟩ : ∃ z ok, zfun a0 = (z, ok) := ⟨_, _, rfl⟩
  have HZ : Hid (zfun a0 = (z, ok)) := hz
  clear hz
  obtain ⟨zt, zf, zn, zh, zm, zd⟩ := z
  cases ok
  · go_enter Yba.func5, Yba.ntmps5
    go_wp2_with (first | (go_at_call 8; refine (scan_z a0 _ _ HZ.out w0 _).mono ?_; rintro e w1 ⟨rfl, bel1⟩) | (go_at_call 9; refine (model_z a0 _ _ HZ.out w0 _).mono ?_; rintro e w2 ⟨rfl, bel2⟩; obtain ⟨hc2, hf2⟩ := bcell bel2; have hz2 : w1.heap.size < w2.heap.size := by have := bel2.size; simp at this; omega))
    go_ret
    exact ⟨rfl, ((bel1.alloc bel1.size _).trans (bel2.mono (by have := bel1.size; simp; omega))).alloc (by have := bel1.size; omega) _⟩
  · go_enter Yba.func5, Yba.ntmps5
    go_wp2_with (first | (go_at_call 8; refine (scan_z a0 _ _ HZ.out w0 _).mono ?_; rintro e w1 ⟨rfl, bel1⟩) | (go_at_call 9; refine (model_z a0 _ _ HZ.out w0 _).mono ?_; rintro e w2 ⟨rfl, bel2⟩; obtain ⟨hc2, hf2⟩ := bcell bel2; have hz2 : w1.heap.size < w2.heap.size := by have := bel2.size; simp at this; omega))
    go_ret
    exact ⟨rfl, ((bel1.alloc bel1.size _).trans (bel2.mono (by have := bel1.size; simp; omega))).alloc (by have := bel1.size; omega) _⟩

/-! ### THE ROW's STEP: WRITTEN OUT: LEAVE IT -/
set_option maxRecDepth 100000 in
theorem lifted (os : Os) (started : os.Started) (H : Type) (enc : TypeId × Value → H) :
    ReturnsInHanded {} Yba.checked os 5 .any (Rows.lawS4414CModelSpec.pre6 enc Yba.prog Yba.f5 Rows.lawS4414CModelRow.domain false) (Rows.lawS4414CModelSpec.post enc Yba.prog Yba.f5 false true false false) := by
  refine returnsInHanded_of_change (C := Yba.checked) own started (by kernel_rfl) Yba.func5
    (ChangeSpec.witness6 (enc := enc) (C := Yba.checked) false ⟨#[], #[.string ByteArray.empty], []⟩ 8 (by kernel_rfl) (by kernel_rfl) (by kernel_rfl) (by kernel_rfl)) ?_
  intro W base args ds gs before hval0 hW hcnd _
  have hval : ∀ (j : Nat) t v, Yba.f5.params[j]? = some t → args[j]? = some v → Value.okWide Yba.prog W .any base t v := hval0
  have hW' := hW
  obtain ⟨p, q, hA0, hV, rfl, hfz, hnd⟩ := hW
  have hA : DataW.TrodAll enc Yba.prog W 0 (fun _ => true) true Yba.f5.params.toList args.toList ds p := hA0
  rw [Yba.params5] at hA hval
  obtain ⟨v0, vs0, d0, ds0, p0, q0, hargs, rfl, rfl, h0, r0⟩ := trodAll_cons hA
  obtain ⟨rfl, rfl, rfl⟩ := trodAll_nil r0
  obtain rfl : args = #[v0] := by cases args; simp_all
  obtain ⟨rfl, rfl⟩ := trodVars_none hV
  obtain ⟨a0, rfl, rfl, rfl, w0⟩ := open_string Yba.underlying9 (hval 0 9 v0 rfl rfl) h0
  clear hA0 hval0
  simp only [List.append_nil] at hW'
  refine (walk a0 w0 W).mono fun e W' ⟨he, bel⟩ => ?_
  subst he
  exact ⟨_, rfl, _, _, _, [], [], [], hW', trodAll_mk1 (shut_bool Yba.underlying4 _), (trodAll_cons_mk (shut_string Yba.underlying9 w0) trodAll_mk0), rfl, bel.frame _, fun h => by cases h⟩

theorem over : Rows.lawS4414CModelRow.holds Yba.pinned (OpenSpec.ofChange Rows.lawS4414CModelSpec) :=
  OpenClaim.holds_of_wide 5 Yba.f5 rfl rfl rfl rfl rfl rfl rfl ⟨rfl, rfl, rfl, rfl, rfl⟩ rfl rfl rfl rfl rfl (by kernel_rfl) Yba.func5 (by kernel_rfl)
    (of_decide_eq_true (by kernel_rfl)) (by unfold Func.isWrapper; first | (rw [if_pos (by decide +kernel)]; kernel_rfl) | (rw [if_neg (by decide +kernel)]; exact ⟨rfl, rfl⟩))
    (fun os started H enc _ => lifted os started H enc)

/-- ████ THE STATEMENT ████ -/
theorem proved : Rows.LawS4414CModelSaid :=
  over
#print axioms proved
end Go.Proofs.Ybulkcmju.lawS4414CModel
