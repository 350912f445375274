/-
  zzs4418aeq, zzs4418acopy.
-/
import Derived.Test.YbulkcmlyInf
import Derived.Lib.SliceRun
namespace Go.Proofs.Ybulkcmly
open Go.RowKit
set_option linter.unusedVariables false

/-- Two rows of the same words are equal. -/
theorem aeq_at (a1 a2 : Option Addr) (n cap1 cap2 : Nat) (xs : List Int) (hx : xs.length = n) (hn : (n : Int) ≤ 9223372036854775807) (w : World) (s1 : At w a1 xs) (s2 : At w a2 xs) :
    Calls Yba.prog 11 #[.slice a1 n cap1, .slice a2 n cap2] w fun e w' => e = .returned (.bool true) ∧ Drawn w w' := by
  have H : Hid (xs.length = n ∧ At w a1 xs ∧ At w a2 xs) := ⟨hx, s1, s2⟩
  clear hx s1 s2
  go_enter Yba.func11, Yba.ntmps11
  go_wp2
  go_loopw [5] (fun i wr => ∃ k : Nat, k ≤ n ∧ i = .int .i64 k ∧ Drawn w wr) (fun i _ => n - (intOf i).toNat)
  case atStart => exact ⟨0, Nat.zero_le _, rfl, Drawn.refl _⟩
  case round =>
    obtain ⟨k, hk, rfl, hdr⟩ := hrel
    have HD : Hid (Drawn w wr) := hdr
    clear hdr
    by_cases hlt : k < n
    · obtain ⟨hx, s1, s2⟩ := H.out
      rcases s1.drawn HD.out with he | ⟨b1, o1, rfl, c1⟩
      · rw [he] at hx; simp at hx; omega
      rcases s2.drawn HD.out with he | ⟨b2, o2, rfl, c2⟩
      · rw [he] at hx; simp at hx; omega
      have k1 := c1 k (by omega)
      have k2 := c2 k (by omega)
      have i0 : (0 : Int) ≤ (k : Int) := by omega
      have i1 : (k : Int) < (n : Int) := by omega
      clear hx s1 s2 c1 c2 H
      go_wp2
      go_quiet (fail)
      go_wp2
      go_roundw
      case rel => first | exact ⟨k + 1, by omega, by go_num, HD.out.more _⟩ | (refine ⟨trivial, ?_⟩; (repeat apply Exists.intro); exact ⟨⟨k + 1, by omega, by go_num, HD.out.more _⟩, rfl⟩)
      case measure => simp [intOf]; omega
    · obtain rfl : n = k := by omega
      clear hlt
      go_wp2
      go_ret
      exact ⟨rfl, HD.out⟩

theorem eqs22 (a : Option Addr) (n c : Nat) (w : World) : (binOp .eql 22 (.slice a n c) (.slice none 0 0)).run Yba.prog w = .ok (.bool a.isNone) w := by
  exact Go.Lib.run_eql_slice_nil w 22 28 a n c 0 0 Yba.underlying22
attribute [local go_sem] eqs22

theorem acopy_nil (w : World) : Calls Yba.prog 8 #[.slice none 0 0, .int .i64 0] w fun e w' => e = .returned (.slice none 0 0) ∧ w' = w := by
  go_enter Yba.func8, Yba.ntmps8
  go_wp2
  go_ret
  exact ⟨rfl, rfl⟩
set_option maxHeartbeats 800000 in
theorem acopy_some (x : Addr) (n cap : Nat) (xs : List Int) (hn : (n : Int) ≤ 512) (hx : xs.length = n) (w : World) (s1 : At w (some x) xs) :
    Calls Yba.prog 8 #[.slice (some x) n cap, .int .i64 0] w fun e w' => e = .returned (.slice (some ⟨w.heap.size, 0, none⟩) n n) ∧ Cells w' w.heap.size 0 xs ∧ Free w' w.heap.size 0 n ∧ w.heap.size < w'.heap.size ∧ Below w.heap.size w w' := by
  obtain ⟨i0, hi, hz0, hz1, hz2⟩ := info_parts Yba.info28
  have HS : Hid (At w (some x) xs) := s1
  clear s1
  go_enter Yba.func8, Yba.ntmps8
  go_wp2_with (at_make; refine wpList_make_full _ rfl _ _ 22 rfl w.heap.size 28 i0 (.int .u64 0) 1 Yba.underlying22 hi hz0 hz1 _ _ _ _ n rfl rfl (by first | rfl | omega) (by first | rfl | omega) (by rw [hz2]; omega) (by unfold maxLen; omega) (Nat.le_refl _) ?_)
  intro w2 ho2 hg2
  obtain ⟨cz2, fz2, lz2⟩ := made (w := w) ho2
  have bel2 : Below w.heap.size w w2 := (Below.refl _ _).grown hg2 (Nat.le_refl _) (by simp)
  obtain ⟨w3, hcp, hc3, hw3⟩ := copy_gen 22 Yba.underlying22 w2 w.heap.size 0 n n (List.replicate n 0) (some x) n cap xs (by simp) hx (Nat.le_refl _) cz2 fz2 (HS.out.belowN bel2)
  rw [List.drop_of_length_le (by simp), List.append_nil] at hc3
  have K : Hid (Cells w3 w.heap.size 0 xs ∧ Free w3 w.heap.size 0 n ∧ w.heap.size < w3.heap.size ∧ Below w.heap.size w w3) := ⟨hc3, fz2.kept hw3 lz2, by have := hw3.size; omega, bel2.trans (hw3.toBelow (Nat.le_refl _) bel2.size)⟩
  clear ho2 hg2 cz2 fz2 lz2 bel2 hc3 hw3 HS
  go_wp2
  go_ret
  exact ⟨rfl, K.out⟩
end Go.Proofs.Ybulkcmly
