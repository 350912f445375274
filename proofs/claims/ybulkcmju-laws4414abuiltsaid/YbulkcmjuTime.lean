/-
  scanTime: its callees; an isoFields that is written where it lies.
-/
import Derived.Test.YbulkcmjuIso
import Derived.Deep.RegionWith
import Derived.BigQuiet
namespace Go.Proofs.Ybulkcmju
open Go.RowKit
set_option linter.unusedVariables false

theorem lite_nil (r : ByteArray) (hs : r.size ≤ 1024) (w : World) :
    Calls Yba.prog 18 #[.string r, .string ⟨#[]⟩] w fun e w' => e = .returned (.bool true) ∧ w' = w := by
  go_enter Yba.func18, Yba.ntmps18
  go_wp2
  go_ret
  exact ⟨by simp, rfl⟩

theorem pre_nil (r : ByteArray) (hs : r.size ≤ 1024) (w : World) :
    Calls Yba.prog 17 #[.string r, .string ⟨#[]⟩] w fun e w' => e = .returned (.bool true) ∧ w' = w := by
  go_enter Yba.func17, Yba.ntmps17
  go_wp2_with (go_at_call 18; refine (lite_nil _ hs _).mono ?_; rintro e w' ⟨rfl, rfl⟩)
  go_ret
  exact ⟨rfl, rfl⟩

theorem one_col (r : ByteArray) (h : 1 ≤ r.size) : ((r.extract 0 1).toList == [58]) = decide ((ch r 0).toNat = 58) := by
  have e : (r.extract 0 1).toList = [ch r 0] := by
    rw [ByteArray.toList_eq]
    apply List.ext_getElem
    · simp; omega
    · intro i h1 h2
      have hi : i = 0 := by simp at h2; omega
      subst hi
      have := ch_get r 0 (by omega)
      simp only [List.getElem_cons_zero]
      rw [← this]
      simp
      rfl
  rw [e]
  simp only [List.cons_beq_cons, Bool.and_true, beq_self_eq_true]
  rw [Bool.eq_iff_iff, beq_iff_eq, decide_eq_true_iff]
  exact ⟨fun h => by rw [h]; rfl, fun h => UInt8.toNat_inj.1 h⟩

theorem lite_col (r : ByteArray) (hs : r.size ≤ 1024) (w : World) :
    Calls Yba.prog 18 #[.string r, .string ⟨#[58]⟩] w fun e w' => e = .returned (.bool (decide ((ch r 0).toNat = 58))) ∧ w' = w := by
  by_cases h : (1 : Int) ≤ (r.size : Int)
  · go_enter Yba.func18, Yba.ntmps18
    go_wp2
    go_ret
    refine ⟨?_, rfl⟩
    show Ending.returned (Value.bool ((r.extract 0 1).toList == [58])) = _
    rw [one_col r (by omega)]
  · have h : (r.size : Int) < 1 := by omega
    go_enter Yba.func18, Yba.ntmps18
    go_wp2
    go_ret
    refine ⟨?_, rfl⟩
    rw [ch_end r 0 (by omega)]
    rfl

theorem pre_col (r : ByteArray) (hs : r.size ≤ 1024) (w : World) :
    Calls Yba.prog 17 #[.string r, .string ⟨#[58]⟩] w fun e w' => e = .returned (.bool (decide ((ch r 0).toNat = 58))) ∧ w' = w := by
  go_enter Yba.func17, Yba.ntmps17
  go_wp2_with (go_at_call 18; refine (lite_col _ hs _).mono ?_; rintro e w' ⟨rfl, rfl⟩)
  go_ret
  exact ⟨rfl, rfl⟩

/-- The two digits that stand ahead. -/
theorem rd2 (r t : ByteArray) (ht : r.extract 0 2 = t) (h : 2 ≤ lead r.data.toList) (w : World) :
    Calls Yba.prog 13 #[.string t] w fun e w' => e = .returned (.tuple #[.int .i64 (two (ch r 0) (ch r 1)), .bool true]) ∧ w' = w := by
  have hz : 2 ≤ r.size := Nat.le_trans h (lead_size r)
  have hd := (lead_ch r 2).1 h
  have e0 : ch t 0 = ch r 0 := by rw [← ht]; exact piece_ch r 0 2 0 (by omega)
  have e1 : ch t 1 = ch r 1 := by rw [← ht]; exact piece_ch r 0 2 1 (by omega)
  have hts : t.size = 2 := by rw [← ht]; simp; omega
  have k := read_two t hts (by rw [ch_get t 0 (by omega), e0]; exact hd 0 (by omega)) (by rw [ch_get t 1 (by omega), e1]; exact hd 1 (by omega)) w
  rw [ch_get t 0 (by omega), ch_get t 1 (by omega), e0, e1] at k
  exact k

/-! ### An isoFields in block b, written in place -/
structure Ch (b : Nat) (w0 W : World) (cs : List Value) : Prop where
  os : W.os = w0.os
  tape : W.tape = w0.tape
  output : W.output = w0.output
  size : w0.heap.size ≤ W.heap.size
  block : ∀ k, k < w0.heap.size → k ≠ b → W.heap[k]? = w0.heap[k]?
  range : W.rangeAt b 0 cs
  free : W.there b 0 19
  lt : b < W.heap.size

theorem Ch.drewN {b : Nat} {w0 W : World} {cs : List Value} (h : Ch b w0 W cs) (n : Nat) : Ch b w0 (W.drewN n) cs :=
  ⟨h.os, h.tape, h.output, h.size, h.block, fun j v hv => by have := h.range j v hv; simpa using this, fun j hj => by have := h.free j hj; simpa using this, h.lt⟩
theorem Ch.drew {b : Nat} {w0 W : World} {cs : List Value} (h : Ch b w0 W cs) : Ch b w0 W.drew cs :=
  ⟨h.os, h.tape, h.output, h.size, h.block, fun j v hv => by have := h.range j v hv; simpa using this, fun j hj => by have := h.free j hj; simpa using this, h.lt⟩
theorem Ch.alloc {b : Nat} {w0 W : World} {cs : List Value} (h : Ch b w0 W cs) (o : Obj) : Ch b w0 (W.alloc o) cs := by
  have hk := Below.heap_alloc W o b h.lt
  refine ⟨h.os, h.tape, h.output, by have := h.size; simp; omega, fun k h1 h2 => ?_, fun j v hv => ?_, fun j hj => ?_, by have := h.lt; simp; omega⟩
  · rw [Below.heap_alloc W o k (by have := h.size; omega)]; exact h.block k h1 h2
  · have := h.range j v hv
    unfold World.cell? at this ⊢
    simp only [hk]
    exact this
  · have := h.free j hj
    unfold World.cell? World.frozen? at this ⊢
    simp only [hk]
    exact this
theorem Ch.set {b : Nat} {w0 W : World} {cs : List Value} (h : Ch b w0 W cs) (j : Nat) (hj : j < 19) (v : Value) : Ch b w0 (W.setCell ⟨b, j, none⟩ v) (cs.set j v) := by
  refine ⟨h.os, h.tape, h.output, by simpa using h.size, fun k h1 h2 => ?_, fun i u hu => ?_, fun i hi => ?_, by simpa using h.lt⟩
  · rw [Below.heap_setCell _ _ _ _ h2]; exact h.block k h1 h2
  · by_cases e : i = j
    · subst e
      have hl : i < cs.length := by
        have := (List.getElem?_eq_some_iff.1 hu).1
        simpa using this
      rw [List.getElem?_set_self hl] at hu
      injection hu with hu
      subst hu
      have := World.cell?_setCells_in b [v] i W (fun q hq => by
        have hq0 : q = 0 := by simpa using hq
        subst hq0
        have := (h.free i hj).1
        simpa using this) 0 (by simp)
      simpa [World.setCells] using this
    · rw [World.cell?_setCell_other W _ _ _ (by intro e2; injection e2 with _ e3; omega)]
      rw [List.getElem?_set_ne (fun q => e q.symm)] at hu
      exact h.range i u hu
  · exact World.there_setCells h.free b j [v] i hi

theorem idx51_0 (p0 p1 p2 : Option Addr) (a0 a1 a2 : Int) (w : World) : (Instr.index 51 (.agg #[.pointer p0, .int .i64 a0, .pointer p1, .int .i64 a1, .pointer p2, .int .i64 a2]) (.int .i64 0)).run Yba.prog w = .ok (.agg #[.pointer p0, .int .i64 a0]) w := by kernel_rfl
theorem idx51_1 (p0 p1 p2 : Option Addr) (a0 a1 a2 : Int) (w : World) : (Instr.index 51 (.agg #[.pointer p0, .int .i64 a0, .pointer p1, .int .i64 a1, .pointer p2, .int .i64 a2]) (.int .i64 1)).run Yba.prog w = .ok (.agg #[.pointer p1, .int .i64 a1]) w := by kernel_rfl
theorem idx51_2 (p0 p1 p2 : Option Addr) (a0 a1 a2 : Int) (w : World) : (Instr.index 51 (.agg #[.pointer p0, .int .i64 a0, .pointer p1, .int .i64 a1, .pointer p2, .int .i64 a2]) (.int .i64 2)).run Yba.prog w = .ok (.agg #[.pointer p2, .int .i64 a2]) w := by kernel_rfl
end Go.Proofs.Ybulkcmju
