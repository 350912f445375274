/-
  mulBasic: z = x * y, a word of y at a time.
-/
import Derived.Test.YbulkcmlyMulB
import Derived.Test.YbulkcmlyOne
namespace Go.Proofs.Ybulkcmly
open Go.RowKit
set_option linter.unusedVariables false

theorem Cells.app {w : World} {b off : Nat} {a c : List Int} (h : Cells w b off a) (k : Cells w b (off + a.length) c) : Cells w b off (a ++ c) := by
  intro i hi
  by_cases e : i < a.length
  · rw [h i e]
    congr 2
    unfold wd
    rw [List.getD_eq_getElem?_getD, List.getD_eq_getElem?_getD, List.getElem?_append_left e]
  · have hl : i - a.length < c.length := by rw [List.length_append] at hi; omega
    have := k (i - a.length) hl
    rw [show off + a.length + (i - a.length) = off + i by omega] at this
    rw [this]
    congr 2
    unfold wd
    rw [List.getD_eq_getElem?_getD, List.getD_eq_getElem?_getD, List.getElem?_append_right (by omega)]

/-- What mulBasic has made behind k words of y. -/
def BasicSt (xs ys : List Int) (k : Nat) (ls : List Int) : Prop := ls.length = xs.length + k ∧ Words ls ∧ nv ls = nv xs * nv (ys.take k)

theorem nv_replicate (n : Nat) : nv (List.replicate n 0) = 0 := by
  induction n with
  | zero => rfl
  | succ n ih => rw [List.replicate_succ, nv_cons, ih]; rfl
theorem words_replicate (n : Nat) : Words (List.replicate n 0) := words_mem.2 fun x hx => by
  obtain ⟨_, rfl⟩ := List.mem_replicate.1 hx
  decide
theorem BasicSt.start (xs ys : List Int) : BasicSt xs ys 0 (List.replicate xs.length 0) := ⟨by simp, words_replicate _, by rw [nv_replicate]; simp [nv_nil]⟩
theorem BasicSt.step {xs ys ls rs : List Int} {k : Nat} {c : Int} (h : BasicSt xs ys k ls) (hr : rs.length = xs.length) (hw : Words rs) (hc : 0 ≤ c ∧ c < 18446744073709551616) (he : nv (ls.drop k) + nv xs * wd ys k = nv rs + c * pw xs.length) :
    BasicSt xs ys (k + 1) (ls.take k ++ rs ++ [c]) := by
  obtain ⟨h1, h2, h3⟩ := h
  have hk : (ls.take k).length = k := by rw [List.length_take]; omega
  refine ⟨by simp [hr, h1]; omega, ((h2.take k).append hw).append (words_one hc), ?_⟩
  rw [nv_snoc, nv_append, List.length_append, hk, hr, pw_add, take_past]
  rw [nv_split ls k (by omega)] at h3
  grind
end Go.Proofs.Ybulkcmly
