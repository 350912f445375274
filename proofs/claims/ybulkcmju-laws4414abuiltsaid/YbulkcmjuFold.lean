/-
  A whole isoFields stored into a new block.
-/
import Derived.Test.YbulkcmjuTime2
import Derived.Laws.NewBlocks
namespace Go.Proofs.Ybulkcmju
open Go.RowKit

def over (c : Array Value) : Nat → List Value → Array Value
  | _, [] => c
  | o, v :: r => over (c.setIfInBounds o v) (o + 1) r
theorem over_size : ∀ (cs : List Value) (o : Nat) (c : Array Value), (over c o cs).size = c.size
  | [], _, _ => rfl
  | v :: r, o, c => by rw [over, over_size r]; simp
theorem over_get : ∀ (cs : List Value) (o : Nat) (c : Array Value) (i : Nat), i < c.size → (over c o cs)[i]? = if o ≤ i ∧ i < o + cs.length then cs[i - o]? else c[i]?
  | [], o, c, i, h => by
    rw [over, if_neg (by simp)]
  | v :: r, o, c, i, h => by
    rw [over, over_get r (o + 1) _ i (by simpa using h)]
    by_cases e : i = o
    · subst e
      rw [if_neg (by omega), if_pos (by simp)]
      simp [h]
    · by_cases q : o + 1 ≤ i ∧ i < o + 1 + r.length
      · rw [if_pos q, if_pos (by simp; omega)]
        rw [show i - o = (i - (o + 1)) + 1 by omega]
        simp
      · rw [if_neg q, if_neg (by simp; omega)]
        rw [Array.getElem?_setIfInBounds_ne (by omega)]
theorem over_all (c : Array Value) (cs : List Value) (h : c.size = cs.length) : over c 0 cs = cs.toArray := by
  apply Array.ext_getElem?
  intro i
  by_cases hi : i < c.size
  · rw [over_get cs 0 c i hi, if_pos (by omega)]
    simp
  · rw [Array.getElem?_eq_none (by rw [over_size]; omega), Array.getElem?_eq_none (by simp; omega)]
theorem fold_go (w : World) (t : TypeId) : ∀ (cs : List Value) (o : Nat) (c : Array Value), (w.alloc (.cells c t)).setCells w.heap.size o cs = w.alloc (.cells (over c o cs) t)
  | [], _, _ => rfl
  | v :: r, o, c => by
    rw [World.setCells, World.setCell_alloc_at _ _ _ _ _ rfl, fold_go w t r (o + 1), over]
/-- A store into a new block is the block with the stored cells. -/
theorem fold38 (w : World) (c : Array Value) (cs : List Value) (h : c.size = cs.length) : (w.alloc (.cells c 38)).setCells w.heap.size 0 cs = w.alloc (.cells cs.toArray 38) := by
  rw [fold_go, over_all c cs h]
theorem Wrt_one (w : World) (c : Array Value) (h : c.size = 19) : Wrt (w.alloc (.cells c 38)) w.heap.size := by
  have := there_of _ w.heap.size c 38 (heap_alloc_new w (.cells c 38))
  rwa [h] at this
theorem Has_one (w : World) (c : Array Value) (h : c.size = 19) : Has (w.alloc (.cells c 38)) w.heap.size := by
  have := range_of _ w.heap.size c 38 (0, 0) (heap_alloc_new w (.cells c 38))
  exact (isoAt_of (by simpa using h) this).2
theorem isoAt_one (w : World) (c : Array Value) (h : c.size = 19) : isoAt (w.alloc (.cells c 38)) w.heap.size = c := by
  have := range_of _ w.heap.size c 38 (0, 0) (heap_alloc_new w (.cells c 38))
  simpa using (isoAt_of (by simpa using h) this).1
end Go.Proofs.Ybulkcmju
