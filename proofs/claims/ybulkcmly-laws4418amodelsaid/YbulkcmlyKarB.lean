/-
  Worlds that differ in a set of cells.
-/
import Derived.Test.YbulkcmlyKarA
namespace Go.Proofs.Ybulkcmly
open Go.RowKit
set_option linter.unusedVariables false

/-- Cell o of block k lies among the n cells from (b, off) on. -/
def Rng (b off n k o : Nat) : Prop := k = b ∧ off ≤ o ∧ o < off + n
/-- w' is w with new blocks, draws, and writes to the cells of S alone. -/
structure Chg (S : Nat → Nat → Prop) (w w' : World) : Prop where
  os : w'.os = w.os
  tape : w'.tape = w.tape
  output : w'.output = w.output
  size : w.heap.size ≤ w'.heap.size
  block : ∀ k, k < w.heap.size → (∀ o, ¬ S k o) → w'.heap[k]? = w.heap[k]?
  cell : ∀ k o, k < w.heap.size → ¬ S k o → w'.cell? ⟨k, o, none⟩ = w.cell? ⟨k, o, none⟩
  frozen : ∀ k o, k < w.heap.size → w'.frozen? ⟨k, o, none⟩ = w.frozen? ⟨k, o, none⟩

theorem Chg.refl (S : Nat → Nat → Prop) (w : World) : Chg S w w := ⟨rfl, rfl, rfl, Nat.le_refl _, fun _ _ _ => rfl, fun _ _ _ _ => rfl, fun _ _ _ => rfl⟩
theorem Chg.trans {S : Nat → Nat → Prop} {w w1 w2 : World} (h : Chg S w w1) (k : Chg S w1 w2) : Chg S w w2 :=
  ⟨k.os.trans h.os, k.tape.trans h.tape, k.output.trans h.output, Nat.le_trans h.size k.size, fun j hj hn => (k.block j (Nat.lt_of_lt_of_le hj h.size) hn).trans (h.block j hj hn),
   fun j o hj hn => (k.cell j o (Nat.lt_of_lt_of_le hj h.size) hn).trans (h.cell j o hj hn), fun j o hj => (k.frozen j o (Nat.lt_of_lt_of_le hj h.size)).trans (h.frozen j o hj)⟩
theorem Chg.mono {S T : Nat → Nat → Prop} {w w1 : World} (h : Chg S w w1) (hs : ∀ k o, S k o → T k o) : Chg T w w1 :=
  ⟨h.os, h.tape, h.output, h.size, fun j hj hn => h.block j hj (fun o ho => hn o (hs j o ho)), fun j o hj hn => h.cell j o hj (fun ho => hn (hs j o ho)), h.frozen⟩
theorem Wr.chg {b off n : Nat} {w w' : World} (h : Wr b off n w w') (h0 : 0 < n) : Chg (Rng b off n) w w' := by
  refine ⟨h.os, h.tape, h.output, h.size, fun k hk hn => ?_, fun k o hk hn => ?_, fun k o hk => ?_⟩
  · by_cases e : k = b
    · subst e
      exact absurd ⟨rfl, Nat.le_refl _, by omega⟩ (hn off)
    · exact h.block k hk e
  · by_cases e : k = b
    · subst e
      exact h.cell o (by unfold Rng at hn; omega)
    · exact World.cell?_of_block (h.block k hk e)
  · by_cases e : k = b
    · subst e; exact h.frozen o
    · exact World.frozen?_of_block (h.block k hk e)
theorem Cells.chg {S : Nat → Nat → Prop} {w w' : World} {b off : Nat} {xs : List Int} (h : Cells w b off xs) (hc : Chg S w w') (hn : ∀ o, off ≤ o → o < off + xs.length → ¬ S b o) : Cells w' b off xs := fun i hi => by
  rw [hc.cell b (off + i) (h.lt (by omega)) (hn _ (by omega) (by omega))]
  exact h i hi
theorem Free.chg {S : Nat → Nat → Prop} {w w' : World} {b off n : Nat} (h : Free w b off n) (hc : Chg S w w') (hb : b < w.heap.size) : Free w' b off n := fun i hi => by
  rw [hc.frozen b (off + i) hb]
  exact h i hi
theorem Chg.below {S : Nat → Nat → Prop} {w w' : World} {B : Nat} (h : Chg S w w') (hs : ∀ k o, S k o → B ≤ k) (hB : B ≤ w.heap.size) : Below B w w' :=
  ⟨h.os, h.tape, h.output, h.size, fun k hk => h.block k (by omega) (fun o ho => by have := hs k o ho; omega)⟩
end Go.Proofs.Ybulkcmly
