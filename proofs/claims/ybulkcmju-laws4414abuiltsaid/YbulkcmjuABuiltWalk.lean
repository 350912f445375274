/-
  The walk of LawS4414ABuilt: the text is built in a slice of bytes; zzs4414acheck does the rest.
-/
import Derived.Test.YbulkcmjuCheck
import Derived.Laws.BytesArg
import Derived.OwnWalk
namespace Go.Proofs.Ybulkcmju
open Go.RowKit
set_option linter.unusedVariables false

theorem info5b : (Yba.prog.info? 5).map (fun i => (i.zero, i.size, i.bytes)) = some (some (.int .u8 0), 1, 1) := by kernel_rfl

/-- The bytes of a row in block b. -/
structure Row8 (b : Nat) (w0 W : World) (xs : List Int) : Prop where
  cells : ∀ i, i < xs.length → W.cell? ⟨b, i, none⟩ = some (.int .u8 (xs.getD i 0))
  free : ∀ i, i < xs.length → W.frozen? ⟨b, i, none⟩ = false
  below : Below b w0 W

theorem Row8.set {b k : Nat} {w0 W : World} {xs : List Int} (h : Row8 b w0 W xs) (hk : k < xs.length) (v : Int) : Row8 b w0 (W.setCell ⟨b, k, none⟩ (.int .u8 v)) (xs.set k v) := by
  refine ⟨fun i hi => ?_, fun i hi => ?_, h.below.setCell (p := ⟨b, k, none⟩) (Nat.le_refl _) _⟩
  · rw [List.length_set] at hi
    by_cases e : i = k
    · subst e
      have := World.cell?_setCells_in b [Value.int .u8 v] i W (fun q hq => by
        have hq0 : q = 0 := by simpa using hq
        subst hq0
        rw [Nat.add_zero, h.cells i hi]
        rfl) 0 (by simp)
      rw [List.getD_eq_getElem?_getD, List.getElem?_set_self hi]
      simpa [World.setCells] using this
    · rw [World.cell?_setCell_other W _ _ _ (by intro e2; injection e2 with _ e3; omega), h.cells i hi]
      rw [List.getD_eq_getElem?_getD, List.getD_eq_getElem?_getD, List.getElem?_set_ne (fun q => e q.symm)]
  · rw [List.length_set] at hi
    rw [World.frozen?_setCell]
    exact h.free i hi
theorem made8 {w0 w' : World} {n : Nat} (ho : w'.ownsRow w0.heap.size 5 1 (.slice (some ⟨w0.heap.size, 0, none⟩) n n) n (madeCells #[Value.int .u8 0] n).toList) (hb : Below w0.heap.size w0 w') : Row8 w0.heap.size w0 w' (List.replicate n 0) := by
  refine ⟨fun i hi => ?_, fun i hi => ho.frozenAt _, hb⟩
  rw [List.length_replicate] at hi
  rw [ho.cellAt i (by omega), toList_madeCells_one, List.getElem?_replicate, if_pos hi]
  rw [List.getD_eq_getElem?_getD, List.getElem?_replicate, if_pos hi]
  rfl
theorem Row8.conv {b n cap : Nat} {w0 W : World} {xs : List Int} {S : ByteArray} (h : Row8 b w0 W xs) (hl : xs.length = n) (hS : strOfNums xs = S) : (convert 22 9 (.slice (some ⟨b, 0, none⟩) n cap)).run Yba.prog W = .ok (.string S) W := by
  rw [← hS]
  refine run_convert_bytes_arg W 22 5 Yba.underlying22 Yba.underlying5 b 0 n cap xs hl (fun i hi => ?_) 9 Yba.underlying9
  rw [Nat.zero_add]
  exact h.cells i (by omega)

set_option maxHeartbeats 3200000 in
set_option maxRecDepth 100000 in
theorem built_any (a0 : Option Addr) (n cap : Nat) (zs : List Int) (ph pm ps : Int) (pf : ByteArray) (pu : Int) (hn : (n : Int) ≤ 1024) (w : World)
    (hz : ∀ k, k < n → ∃ b o, a0 = some ⟨b, o, none⟩ ∧ b < w.heap.size ∧ w.cell? ⟨b, o + k, none⟩ = some (.int .u8 (zs.getD k 0)) ∧ 0 ≤ zs.getD k 0 ∧ zs.getD k 0 ≤ 255) :
    Calls Yba.prog 3 #[.slice a0 n cap, .int .i64 ph, .int .i64 pm, .int .i64 ps, .string pf, .int .i64 pu] w fun e w' => e = .returned (.bool true) ∧ Below w.heap.size w w' := by
  obtain ⟨i0, hi, hz0, hz1, hz2⟩ := info_parts info5b
  have HZ : Hid (∀ k, k < n → ∃ b o, a0 = some ⟨b, o, none⟩ ∧ b < w.heap.size ∧ w.cell? ⟨b, o + k, none⟩ = some (.int .u8 (zs.getD k 0)) ∧ 0 ≤ zs.getD k 0 ∧ zs.getD k 0 ≤ 255) := hz
  have HK : Hid (∀ S : ByteArray, S.size ≤ 1024 → ∀ W, Calls Yba.prog 7 #[.string S, .int .i64 ph, .int .i64 pm, .int .i64 ps, .string pf, .int .i64 pu] W fun e w' => e = .returned (.bool true) ∧ Below W.heap.size W w') := fun S hS W => check_any S ph pm ps pf pu _ _ _ rfl rfl rfl hS W
  clear hz
  go_enter Yba.func3, Yba.ntmps3
  go_wp2_with (at_make; refine wpList_make_full _ rfl _ _ 22 rfl w.heap.size 5 i0 (.int .u8 0) 1 Yba.underlying22 hi hz0 hz1 _ _ _ _ n rfl rfl (by first | rfl | omega) (by first | rfl | omega) (by rw [hz2]; omega) (by unfold maxLen; omega) (Nat.le_refl _) ?_)
  intro w3 ho3 hg3
  have R0 : Hid (Row8 w.heap.size w w3 (List.replicate n 0)) := made8 ho3 ((Below.refl _ _).grown hg3 (Nat.le_refl _) (by simp))
  clear ho3 hg3
  go_wp2
  go_loopw [24, 14, 15] (fun i _ _ wr => ∃ (k : Nat) (xs : List Int), k ≤ n ∧ i = .int .i64 k ∧ Hid (xs.length = n ∧ Row8 w.heap.size w wr xs)) (fun i _ _ _ => n - (intOf i).toNat)
  case atStart => exact ⟨0, _, Nat.zero_le _, rfl, List.length_replicate, R0.out⟩
  case round =>
    obtain ⟨k, xs, hk, rfl, hr⟩ := hrel
    by_cases hlt : k < n
    · obtain ⟨hl, hrow⟩ := hr.out
      obtain ⟨b, o, rfl, hb, hc, z0, z1⟩ := HZ.out k hlt
      obtain ⟨z, ez⟩ : ∃ z, zs.getD k 0 = z := ⟨_, rfl⟩
      rw [ez] at hc z0 z1
      have kc : wr.cell? ⟨b, o + k, none⟩ = some (.int .u8 z) := by rw [hrow.below.cell (p := ⟨b, o + k, none⟩) hb]; exact hc
      have kz : wr.cell? ⟨w.heap.size, k, none⟩ = some (.int .u8 (xs.getD k 0)) := hrow.cells k (by omega)
      have kf : wr.frozen? ⟨w.heap.size, k, none⟩ = false := hrow.free k (by omega)
      have i0 : (0 : Int) ≤ (k : Int) := by omega
      have i1 : (k : Int) < (n : Int) := by omega
      have m0 : (0 : Int) ≤ z % 22 := by omega
      have m1 : z % 22 < 22 := by omega
      have R : Hid (∀ V, (xs.set k V).length = n ∧ Row8 w.heap.size w (wr.setCell ⟨w.heap.size, k, none⟩ (.int .u8 V)) (xs.set k V)) := fun V => ⟨by rw [List.length_set]; exact hl, hrow.set (by omega) V⟩
      clear hl hrow hr hc ez
      go_wp2
      go_roundw
      case rel => first | exact ⟨k + 1, _, by omega, by go_num, R.out _⟩ | (refine ⟨trivial, ?_⟩; (repeat apply Exists.intro); exact ⟨⟨k + 1, _, by omega, by go_num, R.out _⟩, rfl⟩)
      case measure => simp [intOf]; omega
    · obtain rfl : n = k := by omega
      clear hlt
      obtain ⟨S, hS⟩ : ∃ S, strOfNums xs = S := ⟨_, rfl⟩
      have hSz : S.size ≤ 1024 := by rw [← hS, strOfNums_size, hr.out.1]; omega
      have hcv := hr.out.2.conv (cap := n) hr.out.1 hS
      clear hS
      go_wp2_with (go_at_call 7; refine (HK.out S hSz _).mono ?_; rintro e w5 ⟨rfl, bel5⟩)
      go_ret
      exact ⟨rfl, hr.out.2.below.trans (bel5.mono hr.out.2.below.size)⟩
end Go.Proofs.Ybulkcmju
