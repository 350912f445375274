/-
  SetInf, round, zzs4418cbuild: the contracts.
-/
import Derived.Test.YbulkcmlyOne
namespace Go.Proofs.Ybulkcmly
open Go.RowKit
set_option linter.unusedVariables false

theorem copy_gen (dT : TypeId) (hdT : Yba.prog.underlying dT = some (.slice 28)) (w : World) (b off n cap : Nat) (zs : List Int) (ao : Option Addr) (m cap2 : Nat) (xs : List Int) (hz : zs.length = n) (hx : xs.length = m) (hmn : m ≤ n) (hc : Cells w b off zs) (hf : Free w b off n) (hs : At w ao xs) :
    ∃ w', (∀ t2 ty, (Builtin.copy_ #[dT, t2] ty #[.slice (some ⟨b, off, none⟩) n cap, .slice ao m cap2]).run Yba.prog w = .ok (goInt m) w') ∧ Cells w' b off (xs ++ zs.drop m) ∧ Wr b off n w w' := by
  by_cases h0 : m = 0
  · subst h0
    have : xs = [] := List.eq_nil_of_length_eq_zero hx
    subst this
    exact ⟨w, fun t2 ty => run_copy_none w dT t2 ty 28 _ _ n cap 0 cap2 hdT Yba.size28 (by simp), by simpa using hc, Wr.refl _ _ _ _⟩
  · rcases hs with rfl | ⟨b1, o1, rfl, hs⟩
    · simp at hx; omega
    refine ⟨w.setCells b off (xs.map (Value.int .u64)), fun t2 ty => ?_, ?_, Wr.setCells b off n _ w (by rw [List.length_map]; omega)⟩
    · have := run_copy_cells (P := Yba.prog) w dT t2 ty 28 b off n cap ⟨b1, o1, none⟩ m cap2 (xs.map (Value.int .u64)) hdT Yba.size28 (by rw [List.length_map, hx]; exact (Nat.min_eq_left hmn).symm)
        (fun j v hj => by
          have hj' : j < xs.length := by
            have := (List.getElem?_eq_some_iff.1 hj).1
            simpa using this
          rw [List.getElem?_map, List.getElem?_eq_getElem hj'] at hj
          simp at hj
          have := hs j hj'
          rw [← wd_lt xs j hj', hj] at this
          rw [add_at]; exact this) (fun j hj => by rw [List.length_map] at hj; rw [hc j (by omega)]; rfl) (fun j hj => by rw [List.length_map] at hj; exact hf j (by omega)) (one_cells xs)
      rw [this, List.length_map, hx]
    · have := cells_set hc xs (by omega)
      rwa [hx] at this


/-- The input of the law, as a value. -/
abbrev inV (p m a f : Int) (ng : Bool) (v : Value) (e : Int) : Value := .agg #[.int .u32 p, .int .u8 m, .int .u8 a, .int .u8 f, .bool ng, v, .int .i32 e]
/-- What zzs4418cbuild makes of it. -/
abbrev flC (p m a f : Int) (ng : Bool) (v : Value) (e : Int) : Array Value := #[.int .u32 p, .int .u8 (m % 6), .int .i8 (a % 3 - 1), .int .u8 (f % 3), .bool ng, v, .int .i32 e]

theorem round_inf (f : Nat) (w : World) (a2 : Int) (c2 : w.cell? ⟨f, 2, none⟩ = some (.int .i8 a2)) (c3 : w.cell? ⟨f, 3, none⟩ = some (.int .u8 2)) (f2 : w.frozen? ⟨f, 2, none⟩ = false) :
    Calls Yba.prog 23 #[.pointer (some ⟨f, 0, none⟩)] w fun e w' => e = .returned (.tuple #[]) ∧ w' = w.setCell ⟨f, 2, none⟩ (.int .i8 0) := by
  go_enter Yba.func23, Yba.ntmps23
  go_wp2_with fail
  go_end0
  exact ⟨rfl, rfl⟩

theorem setInf_at (f : Nat) (sb : Bool) (w : World) (a2 a3 : Int) (a4 : Bool) (c2 : w.cell? ⟨f, 2, none⟩ = some (.int .i8 a2)) (c3 : w.cell? ⟨f, 3, none⟩ = some (.int .u8 a3)) (c4 : w.cell? ⟨f, 4, none⟩ = some (.bool a4))
    (f2 : w.frozen? ⟨f, 2, none⟩ = false) (f3 : w.frozen? ⟨f, 3, none⟩ = false) (f4 : w.frozen? ⟨f, 4, none⟩ = false) :
    Calls Yba.prog 17 #[.pointer (some ⟨f, 0, none⟩), .bool sb] w fun e w' => e = .returned (.pointer (some ⟨f, 0, none⟩)) ∧
      w' = ((w.setCell ⟨f, 3, none⟩ (.int .u8 2)).setCell ⟨f, 4, none⟩ (.bool sb)).setCell ⟨f, 2, none⟩ (.int .i8 0) := by
  go_enter Yba.func17, Yba.ntmps17
  go_wp2_with fail
  refine (round_inf f _ a2 (by simp [go_sem, c2]) (by simp [go_sem, c3]) (by simp [go_sem, f2])).mono ?_
  rintro e w' ⟨rfl, hw⟩
  rw [hw]
  go_wp2
  go_ret
  exact ⟨rfl, rfl⟩

theorem At.belowN {w w' : World} {ao : Option Addr} {xs : List Int} (h : At w ao xs) (hb : Below w.heap.size w w') : At w' ao xs := by
  rcases h with h | ⟨b, o, h1, h2⟩
  · exact .inl h
  · by_cases e : 0 < xs.length
    · exact .inr ⟨b, o, h1, h2.below hb (h2.lt e)⟩
    · exact .inl (List.eq_nil_of_length_eq_zero (by omega))

theorem build_nil (p m a f : Int) (ng : Bool) (e : Int) (m0 : 0 ≤ m) (m1 : m ≤ 255) (a0 : 0 ≤ a) (a1 : a ≤ 255) (f0 : 0 ≤ f) (f1 : f ≤ 255) (w : World) :
    Calls Yba.prog 16 #[inV p m a f ng (.slice none 0 0) e] w fun r w' => r = .returned (.pointer (some ⟨w.heap.size + 1, 0, none⟩)) ∧ w' = (w.alloc (.cells #[.int .u32 p, .int .u8 m, .int .u8 a, .int .u8 f, .bool ng, .slice none 0 0, .int .i32 e] 38)).alloc (.cells (flC p m a f ng (.slice none 0 0) e) 47) := by
  go_enter Yba.func16, Yba.ntmps16
  go_wp2
  go_ret
  exact ⟨rfl, rfl⟩

set_option maxHeartbeats 800000 in
theorem build_some (p m a f : Int) (ng : Bool) (x : Addr) (n cap : Nat) (xs : List Int) (e : Int) (m0 : 0 ≤ m) (m1 : m ≤ 255) (a0 : 0 ≤ a) (a1 : a ≤ 255) (f0 : 0 ≤ f) (f1 : f ≤ 255) (hn : (n : Int) ≤ 1024) (hx : xs.length = n) (w : World) (s1 : At w (some x) xs) :
    Calls Yba.prog 16 #[inV p m a f ng (.slice (some x) n cap) e] w fun r w' => ∃ F, r = .returned (.pointer (some ⟨F, 0, none⟩)) ∧ w.heap.size + 1 < F ∧ w'.heap[F]? = some (.cells (flC p m a f ng (.slice (some ⟨w.heap.size + 1, 0, none⟩) n n) e) 47 (0, 0)) ∧ Cells w' (w.heap.size + 1) 0 xs ∧ Below w.heap.size w w' := by
  obtain ⟨i0, hi, hz0, hz1, hz2⟩ := info_parts Yba.info28
  have HS := hid s1
  clear s1
  go_enter Yba.func16, Yba.ntmps16
  go_wp2_with (at_make; refine wpList_make_full _ rfl _ _ 24 rfl (w.heap.size + 1) 28 i0 (.int .u64 0) 1 Yba.underlying24 hi hz0 hz1 _ _ _ _ n rfl rfl (by first | rfl | omega) (by first | rfl | omega) (by rw [hz2]; omega) (by unfold maxLen; omega) (by simp) ?_)
  intro w2 ho2 hg2
  obtain ⟨cz2, fz2, lz2⟩ := made (w := w) ho2
  have hs2 : w.heap.size + 1 ≤ w2.heap.size := by omega
  have hb2 : w2.heap[w.heap.size]? = some (.cells #[.int .u32 p, .int .u8 m, .int .u8 a, .int .u8 f, .bool ng, .slice (some x) n cap, .int .i32 e] 38 (0, 0)) := by
    rw [hg2.block w.heap.size (by simp) (by simp)]
    exact heap_alloc_new w _
  have bel2 : Below w.heap.size w w2 := ((Below.refl _ _).alloc (Nat.le_refl _) _).grown hg2 (by simp) (by simp)
  obtain ⟨w3, hcp, hc3, hw3⟩ := copy_gen 24 Yba.underlying24 w2 (w.heap.size + 1) 0 n n (List.replicate n 0) (some x) n cap xs (by simp) hx (Nat.le_refl _) cz2 fz2 (HS.out.belowN bel2)
  have hb3 : w3.heap[w.heap.size]? = some (.cells #[.int .u32 p, .int .u8 m, .int .u8 a, .int .u8 f, .bool ng, .slice (some x) n cap, .int .i32 e] 38 (0, 0)) := by
    rw [hw3.block w.heap.size (by omega) (by omega)]
    exact hb2
  have hs3 : w.heap.size + 1 < w3.heap.size := by have := hw3.size; omega
  have BEL3 : Hid (Below w.heap.size w w3) := bel2.trans (hw3.toBelow (by omega) (by omega))
  rw [List.drop_of_length_le (by simp), List.append_nil] at hc3
  have CX := hid hc3
  have j5 : w2.cell? ⟨w.heap.size, 5, none⟩ = some (.slice (some x) n cap) := by simp [World.cell?, hb2]
  have k0 : w3.cell? ⟨w.heap.size, 0, none⟩ = some (.int .u32 p) := by simp [World.cell?, hb3]
  have k1 : w3.cell? ⟨w.heap.size, 1, none⟩ = some (.int .u8 m) := by simp [World.cell?, hb3]
  have k2 : w3.cell? ⟨w.heap.size, 2, none⟩ = some (.int .u8 a) := by simp [World.cell?, hb3]
  have k3 : w3.cell? ⟨w.heap.size, 3, none⟩ = some (.int .u8 f) := by simp [World.cell?, hb3]
  have k4 : w3.cell? ⟨w.heap.size, 4, none⟩ = some (.bool ng) := by simp [World.cell?, hb3]
  have k6 : w3.cell? ⟨w.heap.size, 6, none⟩ = some (.int .i32 e) := by simp [World.cell?, hb3]
  clear ho2 hg2 cz2 fz2 lz2 hb2 bel2 hw3 hb3 hc3 HS
  go_wp2
  go_ret
  exact ⟨w3.heap.size, rfl, hs3, heap_alloc_new _ _, CX.out.below ((Below.refl _ _).alloc (Nat.le_refl _) _) hs3, BEL3.out.alloc (by omega) _⟩
end Go.Proofs.Ybulkcmly
