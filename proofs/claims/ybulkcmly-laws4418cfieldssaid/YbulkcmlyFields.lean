/-
  The walk of LawS4418CFields.
-/
import Derived.Test.YbulkcmlyInf
import Derived.Lib.Builder
import Derived.Lib.SliceRun
namespace Go.Proofs.Ybulkcmly
open Go.RowKit
set_option linter.unusedVariables false

theorem ul39 : Yba.prog.underlying 39 = some (.pointer 47) := by kernel_rfl
theorem neq39 (a : Addr) (w : World) : (binOp .neq 39 (.pointer (some a)) (.pointer (some a))).run Yba.prog w = .ok (.bool false) w := by
  obtain ⟨j, hj⟩ : ∃ j, Yba.prog.info? 47 = some j := Option.isSome_iff_exists.1 (by kernel_rfl)
  exact Go.Lib.run_neq_ptr_same w a ul39 hj
theorem eq22 (a : Option Addr) (n c : Nat) (w : World) : (binOp .eql 22 (.slice a n c) (.slice none 0 0)).run Yba.prog w = .ok (.bool a.isNone) w := by
  exact Go.Lib.run_eql_slice_nil w 22 28 a n c 0 0 Yba.underlying22
theorem eq24 (a : Option Addr) (n c : Nat) (w : World) : (binOp .eql 24 (.slice a n c) (.slice none 0 0)).run Yba.prog w = .ok (.bool a.isNone) w := by
  exact Go.Lib.run_eql_slice_nil w 24 28 a n c 0 0 Yba.underlying24
theorem nq4 (a b : Bool) (w : World) : (binOp .neq 4 (.bool a) (.bool b)).run Yba.prog w = .ok (.bool (a != b)) w := by
  cases a <;> cases b <;> kernel_rfl
attribute [local go_sem] neq39 eq22 eq24 nq4
theorem cell_of_block {w : World} {b j : Nat} {C : Array Value} {t : TypeId} {fr : Nat × Nat} {v : Value} (h : w.heap[b]? = some (.cells C t fr)) (hv : C[j]? = some v) : w.cell? ⟨b, j, none⟩ = some v := by
  simp [World.cell?, h, hv]
theorem free_of_block {w : World} {b : Nat} {C : Array Value} {t : TypeId} (h : w.heap[b]? = some (.cells C t (0, 0))) (j : Nat) : w.frozen? ⟨b, j, none⟩ = false := by
  simp [World.frozen?, h]

set_option maxHeartbeats 3200000 in
set_option maxRecDepth 100000 in
theorem fields_nil (p m a f : Int) (ng : Bool) (e : Int) (sb : Bool) (m0 : 0 ≤ m) (m1 : m ≤ 255) (a0 : 0 ≤ a) (a1 : a ≤ 255) (f0 : 0 ≤ f) (f1 : f ≤ 255) (w : World) :
    Calls Yba.prog 7 #[inV p m a f ng (.slice none 0 0) e, .bool sb] w fun r w' => r = .returned (.bool true) ∧ Below w.heap.size w w' := by
  obtain ⟨i0, hi, hz0, hz1, hz2⟩ := info_parts Yba.info28
  have HB : Hid (Calls Yba.prog 16 #[inV p m a f ng (.slice none 0 0) e] (w.alloc (.cells #[.int .u32 p, .int .u8 m, .int .u8 a, .int .u8 f, .bool ng, (.slice none 0 0), .int .i32 e] 38)) fun r w' => ∃ F, r = .returned (.pointer (some ⟨F, 0, none⟩)) ∧ w.heap.size + 1 < F ∧ w'.heap[F]? = some (.cells (flC p m a f ng (.slice none 0 0) e) 47 (0, 0)) ∧ Below (w.heap.size + 1) (w.alloc (.cells #[.int .u32 p, .int .u8 m, .int .u8 a, .int .u8 f, .bool ng, (.slice none 0 0), .int .i32 e] 38)) w') := by
    refine (build_nil p m a f ng e m0 m1 a0 a1 f0 f1 _).mono ?_
    rintro r w' ⟨rfl, rfl⟩
    refine ⟨_, rfl, by simp, (by have := heap_alloc_new ((w.alloc (.cells #[.int .u32 p, .int .u8 m, .int .u8 a, .int .u8 f, .bool ng, (.slice none 0 0), .int .i32 e] 38)).alloc (.cells #[.int .u32 p, .int .u8 m, .int .u8 a, .int .u8 f, .bool ng, (.slice none 0 0), .int .i32 e] 38)) (.cells (flC p m a f ng (.slice none 0 0) e) 47); simpa using this), ?_⟩
    exact ((Below.refl _ _).alloc (by simp) _).alloc (by simp) _
  go_enter Yba.func7, Yba.ntmps7
  go_wp2_with fail
  refine HB.out.mono ?_
  rintro r w2 ⟨F, rfl, hF, hbF, bel2⟩
  have hFs : F < w2.heap.size := lt_of_block hbF
  have hbP : w2.heap[w.heap.size]? = some (.cells #[.int .u32 p, .int .u8 m, .int .u8 a, .int .u8 f, .bool ng, (.slice none 0 0), .int .i32 e] 38 (0, 0)) := by
    rw [bel2.block w.heap.size (by omega)]
    exact heap_alloc_new w _
  have j5 : w2.cell? ⟨w.heap.size, 5, none⟩ = some (.slice none 0 0) := cell_of_block hbP rfl
  have BEL2 : Hid (Below w.heap.size w w2) := ((Below.refl _ _).alloc (Nat.le_refl _) _).trans (bel2.mono (by omega))
  have HBF := hid hbF
  have HBP := hid hbP
  skip
  clear hbF hbP bel2
  go_wp2_with (at_make; refine wpList_make_full _ rfl _ _ 22 rfl w2.heap.size 28 i0 (.int .u64 0) 1 Yba.underlying22 hi hz0 hz1 _ _ _ _ 0 rfl rfl (by first | rfl | omega) (by first | rfl | omega) (by rw [hz2]; omega) (by unfold maxLen; omega) (Nat.le_refl _) ?_)
  intro w3 ho3 hg3
  obtain ⟨cz3, fz3, lz3⟩ := made (w := w2) ho3
  have hbF3 : w3.heap[F]? = some (.cells (flC p m a f ng (.slice none 0 0) e) 47 (0, 0)) := by
    rw [hg3.block F (by omega) (by simp)]
    exact HBF.out
  have hbP3 : w3.heap[w.heap.size]? = some (.cells #[.int .u32 p, .int .u8 m, .int .u8 a, .int .u8 f, .bool ng, (.slice none 0 0), .int .i32 e] 38 (0, 0)) := by
    rw [hg3.block w.heap.size (by omega) (by simp)]
    exact HBP.out
  have bel3 : Below w.heap.size w w3 := BEL2.out.grown hg3 (by omega) (by simp)
  obtain ⟨w4, hcp, hc4, hw4⟩ := copy_gen 22 Yba.underlying22 w3 w2.heap.size 0 0 0 (List.replicate 0 0) none 0 0 [] (by simp) rfl (Nat.le_refl _) cz3 fz3 (.inl rfl)
  have hbF4 : w4.heap[F]? = some (.cells (flC p m a f ng (.slice none 0 0) e) 47 (0, 0)) := by
    rw [hw4.block F (by omega) (by omega)]
    exact hbF3
  have hbP4 : w4.heap[w.heap.size]? = some (.cells #[.int .u32 p, .int .u8 m, .int .u8 a, .int .u8 f, .bool ng, (.slice none 0 0), .int .i32 e] 38 (0, 0)) := by
    rw [hw4.block w.heap.size (by omega) (by omega)]
    exact hbP3
  have bel4 : Below w.heap.size w w4 := bel3.trans (hw4.toBelow (by omega) (by omega))
  rw [List.drop_of_length_le (by simp), List.append_nil] at hc4

  have HI : Hid (Calls Yba.prog 17 #[.pointer (some ⟨F, 0, none⟩), .bool sb] w4 fun r w5 => r = .returned (.pointer (some ⟨F, 0, none⟩)) ∧ w5.cell? ⟨F, 0, none⟩ = some (.int .u32 p) ∧ w5.cell? ⟨F, 1, none⟩ = some (.int .u8 (m % 6)) ∧ w5.cell? ⟨F, 2, none⟩ = some (.int .i8 0) ∧ w5.cell? ⟨F, 3, none⟩ = some (.int .u8 2) ∧ w5.cell? ⟨F, 4, none⟩ = some (.bool sb) ∧ w5.cell? ⟨F, 5, none⟩ = some (.slice none 0 0) ∧ w5.cell? ⟨F, 6, none⟩ = some (.int .i32 e)
      ∧ w5.cell? ⟨w.heap.size, 0, none⟩ = some (.int .u32 p) ∧ w5.cell? ⟨w.heap.size, 1, none⟩ = some (.int .u8 m) ∧ w5.cell? ⟨w.heap.size, 5, none⟩ = some (.slice none 0 0) ∧ w5.cell? ⟨w.heap.size, 6, none⟩ = some (.int .i32 e) ∧ Hid (Below w.heap.size w w5 ∧ Cells w5 w2.heap.size 0 [])) := by
    have c0 : w4.cell? ⟨F, 0, none⟩ = some (.int .u32 p) := cell_of_block hbF4 rfl
    have c1 : w4.cell? ⟨F, 1, none⟩ = some (.int .u8 (m % 6)) := cell_of_block hbF4 rfl
    have c2 : w4.cell? ⟨F, 2, none⟩ = some (.int .i8 (a % 3 - 1)) := cell_of_block hbF4 rfl
    have c3 : w4.cell? ⟨F, 3, none⟩ = some (.int .u8 (f % 3)) := cell_of_block hbF4 rfl
    have c4 : w4.cell? ⟨F, 4, none⟩ = some (.bool ng) := cell_of_block hbF4 rfl
    have c5 : w4.cell? ⟨F, 5, none⟩ = some (.slice none 0 0) := cell_of_block hbF4 rfl
    have c6 : w4.cell? ⟨F, 6, none⟩ = some (.int .i32 e) := cell_of_block hbF4 rfl
    have ff := fun j => free_of_block hbF4 j
    refine (setInf_at F sb w4 _ _ _ c2 c3 c4 (ff 2) (ff 3) (ff 4)).mono ?_
    rintro r w5 ⟨rfl, rfl⟩
    have W : Wr F 0 7 w4 (((w4.setCell ⟨F, 3, none⟩ (.int .u8 2)).setCell ⟨F, 4, none⟩ (.bool sb)).setCell ⟨F, 2, none⟩ (.int .i8 0)) :=
      (((Wr.refl F 0 7 w4).setCell (by omega) (by omega) _).setCell (by omega) (by omega) _).setCell (by omega) (by omega) _
    have hP : (((w4.setCell ⟨F, 3, none⟩ (.int .u8 2)).setCell ⟨F, 4, none⟩ (.bool sb)).setCell ⟨F, 2, none⟩ (.int .i8 0)).heap[w.heap.size]? = some (.cells #[.int .u32 p, .int .u8 m, .int .u8 a, .int .u8 f, .bool ng, (.slice none 0 0), .int .i32 e] 38 (0, 0)) := by
      rw [W.block w.heap.size (by have := bel4.size; have := hw4.size; omega) (by omega)]; exact hbP4
    refine ⟨rfl, ?_, ?_, ?_, ?_, ?_, ?_, ?_, cell_of_block hP rfl, cell_of_block hP rfl, cell_of_block hP rfl, cell_of_block hP rfl, bel4.trans (W.toBelow (by omega) bel4.size), hc4.kept W (.inl (by omega))⟩
    all_goals simp [go_sem, c0, c1, c2, c3, c4, c5, c6]
  have k5 : w3.cell? ⟨w.heap.size, 5, none⟩ = some (.slice none 0 0) := cell_of_block hbP3 rfl
  clear ho3 hg3 cz3 fz3 lz3 hbF3 hbP3 bel3 hw4 hbF4 hbP4 bel4 hc4
  go_wp2_with fail
  refine HI.out.mono ?_
  clear HI
  rintro r w5 ⟨rfl, d0, d1, d2, d3, d4, d5, d6, e0, e1, e5, e6, R⟩
  go_wp2
  go_quiet (fail)
  go_wp2
  go_quiet (fail)
  go_wp2
  go_loopw [8] (fun i wr => ∃ k : Nat, k ≤ 0 ∧ i = .int .i64 k ∧ Drawn w5 wr) (fun i _ => 0 - (intOf i).toNat)
  case atStart => exact ⟨0, Nat.zero_le _, rfl, ((Drawn.refl _).more _).more _⟩
  case round =>
    obtain ⟨k, hk, rfl, hdr⟩ := hrel
    have HD := hid hdr
    clear hdr
    obtain rfl : k = 0 := by omega
    go_wp2
    go_ret
    exact ⟨rfl, by obtain ⟨q, hq⟩ := HD.out; rw [hq]; exact below_drewN R.out.1 _⟩


set_option maxHeartbeats 3200000 in
set_option maxRecDepth 100000 in
theorem fields_some (p m a f : Int) (ng : Bool) (e : Int) (x : Addr) (n cap : Nat) (xs : List Int) (hn : (n : Int) ≤ 1024) (hx : xs.length = n) (sb : Bool) (m0 : 0 ≤ m) (m1 : m ≤ 255) (a0 : 0 ≤ a) (a1 : a ≤ 255) (f0 : 0 ≤ f) (f1 : f ≤ 255) (w : World) (s1 : At w (some x) xs) :
    Calls Yba.prog 7 #[inV p m a f ng (.slice (some x) n cap) e, .bool sb] w fun r w' => r = .returned (.bool true) ∧ Below w.heap.size w w' := by
  obtain ⟨i0, hi, hz0, hz1, hz2⟩ := info_parts Yba.info28
  have HB : Hid (Calls Yba.prog 16 #[inV p m a f ng (.slice (some x) n cap) e] (w.alloc (.cells #[.int .u32 p, .int .u8 m, .int .u8 a, .int .u8 f, .bool ng, (.slice (some x) n cap), .int .i32 e] 38)) fun r w' => ∃ F, r = .returned (.pointer (some ⟨F, 0, none⟩)) ∧ w.heap.size + 2 < F ∧ w'.heap[F]? = some (.cells (flC p m a f ng (.slice (some ⟨w.heap.size + 2, 0, none⟩) n n) e) 47 (0, 0)) ∧ Cells w' (w.heap.size + 2) 0 xs ∧ Below (w.heap.size + 1) (w.alloc (.cells #[.int .u32 p, .int .u8 m, .int .u8 a, .int .u8 f, .bool ng, (.slice (some x) n cap), .int .i32 e] 38)) w') := by
    refine (build_some p m a f ng x n cap xs e m0 m1 a0 a1 f0 f1 hn hx _ (s1.belowN ((Below.refl _ _).alloc (Nat.le_refl _) _))).mono ?_
    rintro r w' ⟨F, rfl, h1, h2, h3, h4⟩
    simp only [World.size_alloc] at h1 h2 h3 h4
    exact ⟨F, rfl, h1, h2, h3, h4⟩
  have HS := hid s1
  clear s1
  go_enter Yba.func7, Yba.ntmps7
  go_wp2_with fail
  refine HB.out.mono ?_
  rintro r w2 ⟨F, rfl, hF, hbF, hcx, bel2⟩
  have hFs : F < w2.heap.size := lt_of_block hbF
  have hbP : w2.heap[w.heap.size]? = some (.cells #[.int .u32 p, .int .u8 m, .int .u8 a, .int .u8 f, .bool ng, (.slice (some x) n cap), .int .i32 e] 38 (0, 0)) := by
    rw [bel2.block w.heap.size (by omega)]
    exact heap_alloc_new w _
  have j5 : w2.cell? ⟨w.heap.size, 5, none⟩ = some (.slice (some x) n cap) := cell_of_block hbP rfl
  have BEL2 : Hid (Below w.heap.size w w2) := ((Below.refl _ _).alloc (Nat.le_refl _) _).trans (bel2.mono (by omega))
  have HBF := hid hbF
  have HBP := hid hbP
  have HCX := hid hcx
  clear hbF hbP bel2 hcx
  go_wp2_with (at_make; refine wpList_make_full _ rfl _ _ 22 rfl w2.heap.size 28 i0 (.int .u64 0) 1 Yba.underlying22 hi hz0 hz1 _ _ _ _ n rfl rfl (by first | rfl | omega) (by first | rfl | omega) (by rw [hz2]; omega) (by unfold maxLen; omega) (Nat.le_refl _) ?_)
  intro w3 ho3 hg3
  obtain ⟨cz3, fz3, lz3⟩ := made (w := w2) ho3
  have hbF3 : w3.heap[F]? = some (.cells (flC p m a f ng (.slice (some ⟨w.heap.size + 2, 0, none⟩) n n) e) 47 (0, 0)) := by
    rw [hg3.block F (by omega) (by simp)]
    exact HBF.out
  have hbP3 : w3.heap[w.heap.size]? = some (.cells #[.int .u32 p, .int .u8 m, .int .u8 a, .int .u8 f, .bool ng, (.slice (some x) n cap), .int .i32 e] 38 (0, 0)) := by
    rw [hg3.block w.heap.size (by omega) (by simp)]
    exact HBP.out
  have bel3 : Below w.heap.size w w3 := BEL2.out.grown hg3 (by omega) (by simp)
  obtain ⟨w4, hcp, hc4, hw4⟩ := copy_gen 22 Yba.underlying22 w3 w2.heap.size 0 n n (List.replicate n 0) (some x) n cap xs (by simp) hx (Nat.le_refl _) cz3 fz3 (HS.out.belowN bel3)
  have hbF4 : w4.heap[F]? = some (.cells (flC p m a f ng (.slice (some ⟨w.heap.size + 2, 0, none⟩) n n) e) 47 (0, 0)) := by
    rw [hw4.block F (by omega) (by omega)]
    exact hbF3
  have hbP4 : w4.heap[w.heap.size]? = some (.cells #[.int .u32 p, .int .u8 m, .int .u8 a, .int .u8 f, .bool ng, (.slice (some x) n cap), .int .i32 e] 38 (0, 0)) := by
    rw [hw4.block w.heap.size (by omega) (by omega)]
    exact hbP3
  have bel4 : Below w.heap.size w w4 := bel3.trans (hw4.toBelow (by omega) (by omega))
  rw [List.drop_of_length_le (by simp), List.append_nil] at hc4
  have hcx4 : Cells w4 (w.heap.size + 2) 0 xs := (HCX.out.below ((Below.refl _ _).grown hg3 (Nat.le_refl _) (by simp)) (by omega)).kept hw4 (.inl (by omega))
  have HI : Hid (Calls Yba.prog 17 #[.pointer (some ⟨F, 0, none⟩), .bool sb] w4 fun r w5 => r = .returned (.pointer (some ⟨F, 0, none⟩)) ∧ w5.cell? ⟨F, 0, none⟩ = some (.int .u32 p) ∧ w5.cell? ⟨F, 1, none⟩ = some (.int .u8 (m % 6)) ∧ w5.cell? ⟨F, 2, none⟩ = some (.int .i8 0) ∧ w5.cell? ⟨F, 3, none⟩ = some (.int .u8 2) ∧ w5.cell? ⟨F, 4, none⟩ = some (.bool sb) ∧ w5.cell? ⟨F, 5, none⟩ = some (.slice (some ⟨w.heap.size + 2, 0, none⟩) n n) ∧ w5.cell? ⟨F, 6, none⟩ = some (.int .i32 e)
      ∧ w5.cell? ⟨w.heap.size, 0, none⟩ = some (.int .u32 p) ∧ w5.cell? ⟨w.heap.size, 1, none⟩ = some (.int .u8 m) ∧ w5.cell? ⟨w.heap.size, 5, none⟩ = some (.slice (some x) n cap) ∧ w5.cell? ⟨w.heap.size, 6, none⟩ = some (.int .i32 e) ∧ Hid (Below w.heap.size w w5 ∧ Cells w5 w2.heap.size 0 xs ∧ Cells w5 (w.heap.size + 2) 0 xs)) := by
    have c0 : w4.cell? ⟨F, 0, none⟩ = some (.int .u32 p) := cell_of_block hbF4 rfl
    have c1 : w4.cell? ⟨F, 1, none⟩ = some (.int .u8 (m % 6)) := cell_of_block hbF4 rfl
    have c2 : w4.cell? ⟨F, 2, none⟩ = some (.int .i8 (a % 3 - 1)) := cell_of_block hbF4 rfl
    have c3 : w4.cell? ⟨F, 3, none⟩ = some (.int .u8 (f % 3)) := cell_of_block hbF4 rfl
    have c4 : w4.cell? ⟨F, 4, none⟩ = some (.bool ng) := cell_of_block hbF4 rfl
    have c5 : w4.cell? ⟨F, 5, none⟩ = some (.slice (some ⟨w.heap.size + 2, 0, none⟩) n n) := cell_of_block hbF4 rfl
    have c6 : w4.cell? ⟨F, 6, none⟩ = some (.int .i32 e) := cell_of_block hbF4 rfl
    have ff := fun j => free_of_block hbF4 j
    refine (setInf_at F sb w4 _ _ _ c2 c3 c4 (ff 2) (ff 3) (ff 4)).mono ?_
    rintro r w5 ⟨rfl, rfl⟩
    have W : Wr F 0 7 w4 (((w4.setCell ⟨F, 3, none⟩ (.int .u8 2)).setCell ⟨F, 4, none⟩ (.bool sb)).setCell ⟨F, 2, none⟩ (.int .i8 0)) :=
      (((Wr.refl F 0 7 w4).setCell (by omega) (by omega) _).setCell (by omega) (by omega) _).setCell (by omega) (by omega) _
    have hP : (((w4.setCell ⟨F, 3, none⟩ (.int .u8 2)).setCell ⟨F, 4, none⟩ (.bool sb)).setCell ⟨F, 2, none⟩ (.int .i8 0)).heap[w.heap.size]? = some (.cells #[.int .u32 p, .int .u8 m, .int .u8 a, .int .u8 f, .bool ng, (.slice (some x) n cap), .int .i32 e] 38 (0, 0)) := by
      rw [W.block w.heap.size (by have := bel4.size; have := hw4.size; omega) (by omega)]; exact hbP4
    refine ⟨rfl, ?_, ?_, ?_, ?_, ?_, ?_, ?_, cell_of_block hP rfl, cell_of_block hP rfl, cell_of_block hP rfl, cell_of_block hP rfl, bel4.trans (W.toBelow (by omega) bel4.size), hc4.kept W (.inl (by omega)), hcx4.kept W (.inl (by omega))⟩
    all_goals simp [go_sem, c0, c1, c2, c3, c4, c5, c6]
  have k5 : w3.cell? ⟨w.heap.size, 5, none⟩ = some (.slice (some x) n cap) := cell_of_block hbP3 rfl
  clear ho3 hg3 cz3 fz3 lz3 hbF3 hbP3 bel3 hw4 hbF4 hbP4 bel4 hc4 hcx4 HS
  go_wp2_with fail
  refine HI.out.mono ?_
  clear HI
  rintro r w5 ⟨rfl, d0, d1, d2, d3, d4, d5, d6, e0, e1, e5, e6, R⟩
  go_wp2
  go_quiet (fail)
  go_wp2
  go_quiet (fail)
  go_wp2
  go_loopw [8] (fun i wr => ∃ k : Nat, k ≤ n ∧ i = .int .i64 k ∧ Drawn w5 wr) (fun i _ => n - (intOf i).toNat)
  case atStart => exact ⟨0, Nat.zero_le _, rfl, ((Drawn.refl _).more _).more _⟩
  case round =>
    obtain ⟨k, hk, rfl, hdr⟩ := hrel
    have HD := hid hdr
    clear hdr
    by_cases hlt : k < n
    · have kz : wr.cell? ⟨w.heap.size + 2, k, none⟩ = some (.int .u64 (wd xs k)) := by
        have := R.out.2.2 k (by omega)
        obtain ⟨q, hq⟩ := HD.out
        rw [hq]
        rw [Nat.zero_add] at this
        simpa using this
      have ks : wr.cell? ⟨w2.heap.size, k, none⟩ = some (.int .u64 (wd xs k)) := by
        have := R.out.2.1 k (by omega)
        obtain ⟨q, hq⟩ := HD.out
        rw [hq]
        rw [Nat.zero_add] at this
        simpa using this
      have kF : wr.cell? ⟨F, 5, none⟩ = some (.slice (some ⟨w.heap.size + 2, 0, none⟩) n n) := by
        obtain ⟨q, hq⟩ := HD.out
        rw [hq]
        simpa using d5
      have i0 : (0 : Int) ≤ (k : Int) := by omega
      have i1 : (k : Int) < (n : Int) := by omega
      go_wp2
      go_quiet (fail)
      go_wp2
      go_roundw
      case rel => first | exact ⟨k + 1, by omega, by go_num, HD.out.more _⟩ | (refine ⟨trivial, ?_⟩; (repeat apply Exists.intro); exact ⟨⟨k + 1, by omega, by go_num, HD.out.more _⟩, rfl⟩)
      case measure => simp [intOf]; omega
    · obtain rfl : n = k := by omega
      clear hlt
      go_wp2
      go_ret
      exact ⟨rfl, by obtain ⟨q, hq⟩ := HD.out; rw [hq]; exact below_drewN R.out.1 _⟩


end Go.Proofs.Ybulkcmly
