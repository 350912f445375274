/-
  The proof of 'Rows.LawS4418CFieldsSaid'. The frame follows the guide's template; the walk is ours.
-/
import Derived.Test.YbulkcmlyRows
import Derived.WalkKit
import Derived.ProofKit
import Derived.OpenShut
import Derived.ShutString
import Derived.ChangeOld
import Derived.Below
import Derived.Lib.SmallJoins
import Derived.Deep.Fields
import Derived.Test.YbulkcmlyFields
namespace Go.Proofs.Ybulkcmly.lawS4418CFields
open Go.ChangeShapes Go.WideShapes Go.ChangeAt Go.RowKit
open Go.ChangeMaps (open_string shut_string)
set_option linter.unusedVariables false

theorem own : ownKnob Yba.prog.godebug = none := by kernel_rfl
theorem laidOut : laidOutB Yba.prog = true := by kernel_rfl

/-- WHAT THE WALK IS TOLD OF A SLICE OF INTEGERS THAT CAME IN: it is nil; or it leads to a row of 'cap' cells, the numbers 'zs' (the first 'len' are its elements, the rest its spare room), each fitting its kind. -/
def IsRow (k : IntKind) (w : World) (a : Option Addr) (len cap : Nat) (zs : List Int) : Prop :=
  (a = none ∧ len = 0 ∧ cap = 0 ∧ zs = []) ∨
  ∃ x, a = some x ∧ len ≤ cap ∧ cap ≤ maxLen ∧ zs.length = cap ∧ (∀ i, i < zs.length → w.cell? (x.add i) = some (.int k (zs.getD i 0))) ∧ ∀ n ∈ zs, (Lit.int k n).wf = true

/-! ### THE WALK -/
theorem row_at {w : World} {a : Option Addr} {len cap : Nat} {zs : List Int} (h : IsRow .u64 w a len cap zs) : (zs.take len).length = len ∧ len ≤ cap ∧ cap ≤ maxLen ∧ Words (zs.take len) ∧ At w a (zs.take len) := by
  rcases h with ⟨rfl, rfl, rfl, rfl⟩ | ⟨x, rfl, h1, h2, h3, h4, h5⟩
  · exact ⟨rfl, Nat.le_refl _, by unfold maxLen; omega, words_nil, .inl rfl⟩
  · have hl : (zs.take len).length = len := by rw [List.length_take]; omega
    refine ⟨hl, h1, h2, words_mem.2 fun y hy => ?_, ?_⟩
    · have := bounds_u64 (h5 y (List.mem_of_mem_take hy))
      exact ⟨this.1, by have := this.2; omega⟩
    · by_cases e : 0 < len
      · obtain ⟨b, off, spot⟩ := x
        have hspot : spot = none := by simpa [Addr.add] using World.cell?_spot (h4 0 (by omega))
        subst hspot
        refine .inr ⟨b, off, rfl, fun i hi => ?_⟩
        have := h4 i (by omega)
        rw [add_at] at this
        rw [this]
        congr 2
        unfold wd
        rw [List.getD_eq_getElem?_getD, List.getD_eq_getElem?_getD, List.getElem?_take, if_pos (by omega)]
      · exact .inl (List.eq_nil_of_length_eq_zero (by omega))


theorem big (p m a f : Int) (ng : Bool) (x : Option Addr) (n cap : Nat) (e : Int) (sb : Bool) (w : World) (h : (1024 : Int) < (n : Int)) :
    Calls Yba.prog 7 #[inV p m a f ng (.slice x n cap) e, .bool sb] w fun r w' => r = .returned (.bool true) ∧ Below w.heap.size w w' := by
  go_enter Yba.func7, Yba.ntmps7
  go_wp2
  go_ret
  exact ⟨rfl, (Below.refl _ _).alloc (Nat.le_refl _) _⟩

theorem walk (p m a f : Int) (ng : Bool) (x : Option Addr) (n cap : Nat) (zs : List Int) (e : Int) (sb : Bool) (w : World) (h : IsRow .u64 w x n cap zs)
    (hm : (Lit.int .u8 m).wf = true) (ha : (Lit.int .u8 a).wf = true) (hf : (Lit.int .u8 f).wf = true) :
    Calls Yba.prog 7 #[inV p m a f ng (.slice x n cap) e, .bool sb] w fun r w' => r = .returned (.bool true) ∧ Below w.heap.size w w' := by
  by_cases hb : (1024 : Int) < (n : Int)
  · exact big p m a f ng x n cap e sb w hb
  obtain ⟨m0, m1⟩ := bounds_u8 hm
  obtain ⟨a0, a1⟩ := bounds_u8 ha
  obtain ⟨f0, f1⟩ := bounds_u8 hf
  obtain ⟨hx, _, _, _, s1⟩ := row_at h
  cases x with
  | none =>
    rcases h with ⟨_, rfl, rfl, _⟩ | ⟨x, h, _⟩
    · exact fields_nil p m a f ng e sb m0 m1 a0 a1 f0 f1 w
    · cases h
  | some x => exact fields_some p m a f ng e x n cap _ (by omega) hx sb m0 m1 a0 a1 f0 f1 w s1

/-! ### A STRUCT OF SEVEN ONE-CELL FIELDS, BY VALUE -/
theorem array7 {α : Type} {cs : Array α} (h : cs.size = 7) : ∃ c0 c1 c2 c3 c4 c5 c6, cs = #[c0, c1, c2, c3, c4, c5, c6] := by
  obtain ⟨l⟩ := cs
  match l, h with
  | [c0, c1, c2, c3, c4, c5, c6], _ => exact ⟨c0, c1, c2, c3, c4, c5, c6, rfl⟩

open Go.Deep in
theorem openN {H : Type} {enc : TypeId × Value → H} {P : Program} {w : World} {base : Nat} {spare : Nat → Bool} {held : Bool} {r : Reach} {b0 : Nat} {t : TypeId} {fs : Array Field} {v : Value} {d : DataW H} {p : List MemPlace} (hs : P.underlying t = some (.struct fs)) (hone : oneCellFields P fs = true)
    (hv : Value.okWide P w r b0 t v) (h : DataW.Trod enc P w base spare held t v d p) :
    ∃ cs : Array Value, v = .agg cs ∧ cs.size = P.cellsOf t ∧ ∀ (i : Nat) (f : Field), fs[i]? = some f → ∀ (c : Value), cs[i]? = some c → ∃ n y, DataW.trod enc P w base spare held n f.type [c] = some y := by
  obtain ⟨cs, rfl, hsz⟩ := okWide_struct hs hv
  refine ⟨cs, rfl, hsz, fun i f hi c hc => ?_⟩
  obtain ⟨fuel, hf⟩ := h
  obtain ⟨xs, n, _, _, _, hlen, hF⟩ := DataW.trod_struct hs hf
  obtain ⟨ho, hk⟩ := hone_of hone i f hi
  have hlt : i < xs.length := by
    rw [hlen]
    exact (Array.getElem?_eq_some_iff.1 hi).1
  refine ⟨n, xs[i], ?_⟩
  have := hF i f hi
  rw [ho, hk, List.getElem?_eq_getElem hlt] at this
  rw [← this]
  congr 1
  have hic : i < cs.size := (Array.getElem?_eq_some_iff.1 hc).1
  have hcv : cs[i] = c := (Array.getElem?_eq_some_iff.1 hc).2
  have e1 : ((Value.agg cs).cells).toList = cs.toList := rfl
  rw [e1, List.drop_eq_getElem_cons (by simpa using hic)]
  simp [hcv]

/-! ### THE ROW's STEP -/


set_option maxRecDepth 100000 in
theorem lifted (os : Os) (started : os.Started) (H : Type) (enc : TypeId × Value → H) :
    ReturnsInHanded {} Yba.checked os 7 .any (Rows.lawS4418CFieldsSpec.pre6 enc Yba.prog Yba.f7 Rows.lawS4418CFieldsRow.domain false) (Rows.lawS4418CFieldsSpec.post enc Yba.prog Yba.f7 false true false false) := by
  refine returnsInHanded_of_change (C := Yba.checked) own started (by kernel_rfl) Yba.func7
    (ChangeSpec.witness6 (enc := enc) (C := Yba.checked) false ⟨#[], #[.agg #[.int .u32 0, .int .u8 0, .int .u8 0, .int .u8 0, .bool false, .slice none 0 0, .int .i32 0], .bool false], []⟩ 8 (by kernel_rfl) (by kernel_rfl) (by kernel_rfl) (by kernel_rfl)) ?_
  intro W base args ds gs before hval0 hW hcnd _
  have hval : ∀ (j : Nat) t v, Yba.f7.params[j]? = some t → args[j]? = some v → Value.okWide Yba.prog W .any base t v := hval0
  have hW' := hW
  obtain ⟨p, q, hA0, hV, rfl, hfz, hnd⟩ := hW
  have hA : DataW.TrodAll enc Yba.prog W 0 (fun _ => true) true Yba.f7.params.toList args.toList ds p := hA0
  rw [Yba.params7] at hA hval
  obtain ⟨v0, vs0, d0, ds0, p0, q0, hargs, rfl, rfl, h0, r0⟩ := trodAll_cons hA
  obtain ⟨v1, vs1, d1, ds1, p1, q1, rfl, rfl, rfl, h1, r1⟩ := trodAll_cons r0
  obtain ⟨rfl, rfl, rfl⟩ := trodAll_nil r1
  obtain rfl : args = #[v0, v1] := by cases args; simp_all
  obtain ⟨rfl, rfl⟩ := trodVars_none hV
  have k0 := h0
  have lt0 : ∀ x ∈ p0, x.block < W.heap.size := by obtain ⟨m, hm⟩ := k0; exact DataW.trod_lt m _ _ _ hm
  obtain ⟨cs, rfl, hsz, hF⟩ := openN Yba.underlying38 (by kernel_rfl) (hval 0 38 v0 rfl rfl) h0
  obtain ⟨c0, c1, c2, c3, c4, c5, c6, rfl⟩ := array7 (hsz.trans (by kernel_rfl))
  obtain ⟨n0, y0, g0⟩ := hF 0 _ rfl c0 rfl
  obtain ⟨n1, y1, g1⟩ := hF 1 _ rfl c1 rfl
  obtain ⟨n2, y2, g2⟩ := hF 2 _ rfl c2 rfl
  obtain ⟨n3, y3, g3⟩ := hF 3 _ rfl c3 rfl
  obtain ⟨n4, y4, g4⟩ := hF 4 _ rfl c4 rfl
  obtain ⟨n5, y5, g5⟩ := hF 5 _ rfl c5 rfl
  obtain ⟨n6, y6, g6⟩ := hF 6 _ rfl c6 rfl
  obtain ⟨P0, hc0, _⟩ := DataW.trod_int Yba.underlying36 g0
  obtain ⟨P1, hc1, _, w1⟩ := DataW.trod_int Yba.underlying5 g1
  obtain ⟨P2, hc2, _, w2⟩ := DataW.trod_int Yba.underlying5 g2
  obtain ⟨P3, hc3, _, w3⟩ := DataW.trod_int Yba.underlying5 g3
  obtain ⟨P4, hc4, _⟩ := DataW.trod_bool Yba.underlying4 g4
  obtain ⟨P6, hc6, _⟩ := DataW.trod_int Yba.underlying21 g6
  obtain ⟨x, n, cap, zs, hc5, hrow⟩ : ∃ x n cap zs, c5 = .slice x n cap ∧ IsRow .u64 W x n cap zs := by
    rcases open_ints Yba.underlying22 Yba.underlying28 (by kernel_rfl) g5 with ⟨hcs, _⟩ | ⟨x, l, c, zs, hcs, _, hl, hm, hz, _, hcell, hwz⟩
    · simp at hcs
      exact ⟨none, 0, 0, [], hcs, .inl ⟨rfl, rfl, rfl, rfl⟩⟩
    · simp at hcs
      exact ⟨some x, l, c, zs, hcs, .inr ⟨_, rfl, hl, hm, by simpa using hz, hcell, hwz⟩⟩
  simp only [List.cons.injEq, and_true] at hc0 hc1 hc2 hc3 hc4 hc6
  subst hc0 hc1 hc2 hc3 hc4 hc5 hc6
  obtain ⟨sb, rfl, rfl, rfl⟩ := open_bool Yba.underlying4 (hval 1 4 v1 rfl rfl) h1
  clear hA0 hval0
  refine (walk P0 P1 P2 P3 P4 x n cap zs P6 sb W hrow w1 w2 w3).mono fun e W' ⟨he, bel⟩ => ?_
  subst he
  exact ⟨_, rfl, _, _, _, [], _, [], hW', trodAll_mk1 (shut_bool Yba.underlying4 _), (trodAll_cons_mk (Below.trod laidOut (by kernel_rfl) (of_decide_eq_true (by kernel_rfl)) k0 bel lt0) (trodAll_cons_mk (shut_bool Yba.underlying4 _) trodAll_mk0)), rfl, bel.frame _, fun h => by cases h⟩

theorem over : Rows.lawS4418CFieldsRow.holds Yba.pinned (OpenSpec.ofChange Rows.lawS4418CFieldsSpec) :=
  OpenClaim.holds_of_wide 7 Yba.f7 rfl rfl rfl rfl rfl rfl rfl ⟨rfl, rfl, rfl, rfl, rfl⟩ rfl rfl rfl rfl rfl (by kernel_rfl) Yba.func7 (by kernel_rfl)
    (of_decide_eq_true (by kernel_rfl)) (by unfold Func.isWrapper; first | (rw [if_pos (by decide +kernel)]; kernel_rfl) | (rw [if_neg (by decide +kernel)]; exact ⟨rfl, rfl⟩))
    (fun os started H enc _ => lifted os started H enc)

/-- ████ THE STATEMENT ████ -/
theorem proved : Rows.LawS4418CFieldsSaid := over
#print axioms proved
end Go.Proofs.Ybulkcmly.lawS4418CFields
