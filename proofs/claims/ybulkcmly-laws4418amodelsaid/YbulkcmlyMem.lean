/-
  Words in memory: a row of uint64 cells; a world that differs in one range of one block.
-/
import Derived.Test.YbulkcmlyBits
namespace Go.Proofs.Ybulkcmly
open Go.RowKit

/-- Word i of xs, 0 past its end. -/
def wd (xs : List Int) (i : Nat) : Int := xs.getD i 0
/-- The cells at ⟨b, off⟩ hold the words xs. -/
def Cells (w : World) (b off : Nat) (xs : List Int) : Prop := ∀ i, i < xs.length → w.cell? ⟨b, off + i, none⟩ = some (.int .u64 (wd xs i))
/-- n cells from ⟨b, off⟩ on may be written. -/
def Free (w : World) (b off n : Nat) : Prop := ∀ i, i < n → w.frozen? ⟨b, off + i, none⟩ = false
/-- Each number is a word. -/
def Words (xs : List Int) : Prop := ∀ i, 0 ≤ wd xs i ∧ wd xs i < 18446744073709551616

theorem Cells.lt {w : World} {b off : Nat} {xs : List Int} (h : Cells w b off xs) (hn : 0 < xs.length) : b < w.heap.size := by
  have := h 0 hn
  unfold World.cell? at this
  by_cases hb : b < w.heap.size
  · exact hb
  · simp [Array.getElem?_eq_none (show w.heap.size ≤ b by omega)] at this

/-- w' is w with new blocks, draws, and writes to the cells off .. off + n - 1 of block b alone. -/
structure Wr (b off n : Nat) (w w' : World) : Prop where
  os : w'.os = w.os
  tape : w'.tape = w.tape
  output : w'.output = w.output
  size : w.heap.size ≤ w'.heap.size
  block : ∀ k, k < w.heap.size → k ≠ b → w'.heap[k]? = w.heap[k]?
  cell : ∀ o, (o < off ∨ off + n ≤ o) → w'.cell? ⟨b, o, none⟩ = w.cell? ⟨b, o, none⟩
  frozen : ∀ o, w'.frozen? ⟨b, o, none⟩ = w.frozen? ⟨b, o, none⟩

theorem Wr.refl (b off n : Nat) (w : World) : Wr b off n w w := ⟨rfl, rfl, rfl, Nat.le_refl _, fun _ _ _ => rfl, fun _ _ => rfl, fun _ => rfl⟩

theorem Wr.trans {b off n : Nat} {w w1 w2 : World} (h : Wr b off n w w1) (k : Wr b off n w1 w2) : Wr b off n w w2 :=
  ⟨k.os.trans h.os, k.tape.trans h.tape, k.output.trans h.output, Nat.le_trans h.size k.size, fun j hj hne => (k.block j (Nat.lt_of_lt_of_le hj h.size) hne).trans (h.block j hj hne),
   fun o ho => (k.cell o ho).trans (h.cell o ho), fun o => (k.frozen o).trans (h.frozen o)⟩

theorem Wr.mono {b off n off' n' : Nat} {w w1 : World} (h : Wr b off n w w1) (h1 : off' ≤ off) (h2 : off + n ≤ off' + n') : Wr b off' n' w w1 :=
  ⟨h.os, h.tape, h.output, h.size, h.block, fun o ho => h.cell o (by omega), h.frozen⟩

theorem Wr.drewN {b off n : Nat} {w w1 : World} (h : Wr b off n w w1) (q : Nat) : Wr b off n w (w1.drewN q) :=
  ⟨h.os, h.tape, h.output, h.size, h.block, fun o ho => by have := h.cell o ho; simpa using this, fun o => by have := h.frozen o; simpa using this⟩

theorem Wr.toBelow {b off n B : Nat} {w w' : World} (h : Wr b off n w w') (hB : B ≤ b) (hs : B ≤ w.heap.size) : Below B w w' :=
  ⟨h.os, h.tape, h.output, h.size, fun k hk => h.block k (by omega) (by omega)⟩

theorem Wr.setCell {b off n o : Nat} {w w1 : World} (h : Wr b off n w w1) (h1 : off ≤ o) (h2 : o < off + n) (v : Value) : Wr b off n w (w1.setCell ⟨b, o, none⟩ v) := by
  refine ⟨h.os, h.tape, h.output, ?_, fun k hk hne => ?_, fun o' ho => ?_, fun o' => ?_⟩
  · simpa using h.size
  · rw [Below.heap_setCell _ _ _ _ hne]; exact h.block k hk hne
  · rw [World.cell?_setCell_other w1 _ _ _ (by intro e; injection e with _ e2; omega)]
    exact h.cell o' ho
  · rw [World.frozen?_setCell]; exact h.frozen o'

theorem Wr.alloc {b off n : Nat} {w w1 : World} (h : Wr b off n w w1) (hb : b < w1.heap.size) (o : Obj) : Wr b off n w (w1.alloc o) := by
  have hk := Below.heap_alloc w1 o b hb
  refine ⟨h.os, h.tape, h.output, ?_, fun k hk hne => ?_, fun o' ho => ?_, fun o' => ?_⟩
  · have := h.size; simp; omega
  · rw [Below.heap_alloc _ _ _ (Nat.lt_of_lt_of_le hk h.size)]; exact h.block k hk hne
  · rw [← h.cell o' ho]; exact World.cell?_of_block hk
  · rw [← h.frozen o']; exact World.frozen?_of_block hk

theorem Wr.ofBelow {b off n : Nat} {w w' : World} (h : Below w.heap.size w w') (hb : b < w.heap.size) : Wr b off n w w' :=
  ⟨h.os, h.tape, h.output, h.size, fun k hk _ => h.block k hk, fun _ _ => h.cell hb, fun _ => h.frozen hb⟩

theorem Cells.kept {b off n b2 off2 : Nat} {w w' : World} {ys : List Int} (h : Cells w b2 off2 ys) (hw : Wr b off n w w') (hd : b2 ≠ b ∨ off2 + ys.length ≤ off ∨ off + n ≤ off2) : Cells w' b2 off2 ys := by
  intro i hi
  by_cases e : b2 = b
  · subst e
    rw [hw.cell (off2 + i) (by omega)]
    exact h i hi
  · rw [← h i hi]
    exact World.cell?_of_block (hw.block b2 (h.lt (by omega)) e)

theorem Cells.below {b off B : Nat} {w w' : World} {ys : List Int} (h : Cells w b off ys) (hw : Below B w w') (hb : b < B) : Cells w' b off ys := fun i hi => by
  rw [← h i hi]; exact hw.cell hb

theorem Free.kept {b off n b2 off2 n2 : Nat} {w w' : World} (h : Free w b2 off2 n2) (hw : Wr b off n w w') (hb2 : b2 < w.heap.size) : Free w' b2 off2 n2 := by
  intro i hi
  by_cases e : b2 = b
  · subst e; rw [hw.frozen]; exact h i hi
  · rw [← h i hi]; exact World.frozen?_of_block (hw.block b2 hb2 e)

theorem Free.below {b off n B : Nat} {w w' : World} (h : Free w b off n) (hw : Below B w w') (hb : b < B) : Free w' b off n := fun i hi => by
  rw [← h i hi]; exact hw.frozen hb

theorem Cells.sub {w : World} {b off : Nat} {xs : List Int} (h : Cells w b off xs) (k m : Nat) : Cells w b (off + k) ((xs.drop k).take m) := by
  intro i hi
  have hi2 : i < m ∧ k + i < xs.length := by
    rw [List.length_take, List.length_drop] at hi; omega
  rw [Nat.add_assoc, h (k + i) hi2.2]
  congr 2
  simp [wd, List.getD_eq_getElem?_getD, hi2.1, List.getElem?_drop]

theorem Cells.take {w : World} {b off : Nat} {xs : List Int} (h : Cells w b off xs) (m : Nat) : Cells w b off (xs.take m) := by
  have := h.sub 0 m
  simpa using this

theorem Cells.drop {w : World} {b off : Nat} {xs : List Int} (h : Cells w b off xs) (k : Nat) : Cells w b (off + k) (xs.drop k) := by
  have := h.sub k xs.length
  rwa [List.take_of_length_le (by simp)] at this

end Go.Proofs.Ybulkcmly
