/-
  mulBasic's walk.
-/
import Derived.Test.YbulkcmlyMulC
namespace Go.Proofs.Ybulkcmly
open Go.RowKit
set_option linter.unusedVariables false

set_option maxHeartbeats 1600000 in
theorem basic_at (b off N cap : Nat) (zs : List Int) (b2 off2 nx cap2 : Nat) (xs : List Int) (ay : Option Addr) (ny cap3 : Nat) (ys : List Int) (hzl : zs.length = N) (hxl : xs.length = nx) (hyl : ys.length = ny) (hN : N = nx + ny) (hNc : N ≤ cap) (hcm : cap ≤ maxLen) (h0 : 0 < nx)
    (hx : Words xs) (hy : Words ys) (w : World) (hc : Cells w b off zs) (hf : Free w b off N) (hcx : Cells w b2 off2 xs) (hdx : b2 ≠ b ∨ off2 + nx ≤ off ∨ off + N ≤ off2) (hsy : Src w ay ys b off N) :
    Calls Yba.prog 24 #[.slice (some ⟨b, off, none⟩) N cap, .slice (some ⟨b2, off2, none⟩) nx cap2, .slice ay ny cap3] w fun e w' => e = .returned (.tuple #[]) ∧ ∃ rs, rs.length = N ∧ Words rs ∧ nv rs = nv xs * nv ys ∧ Cells w' b off rs ∧ Wr b off N w w' := by
  have hmx : N ≤ 9223372036854775807 := by unfold maxLen at hcm; omega
  obtain ⟨w1, hcl, hc1, hw1⟩ := clear_to w b off N cap zs hzl (by omega) hc hf
  have H : Hid (xs.length = nx ∧ ys.length = ny ∧ N = nx + ny ∧ Words xs ∧ Words ys ∧ Free w b off N ∧ Cells w b2 off2 xs ∧ (b2 ≠ b ∨ off2 + nx ≤ off ∨ off + N ≤ off2) ∧ Src w ay ys b off N ∧ b < w.heap.size) := ⟨hxl, hyl, hN, hx, hy, hf, hcx, hdx, hsy, hc.lt (by omega)⟩
  have C1 : Hid (Cells w1 b off (List.replicate N 0) ∧ Wr b off N w w1) := ⟨hc1, hw1⟩
  have bn : (ny : Int) ≤ 9223372036854775807 := by omega
  have bN : (nx : Int) + (ny : Int) = (N : Int) := by omega
  have bx : (0 : Int) < (nx : Int) := by omega
  have bc : (N : Int) ≤ (cap : Int) := by omega
  have bm : (N : Int) ≤ 9223372036854775807 := by omega
  clear hzl hxl hyl hN hx hy hc hf hcx hdx hsy hc1 hw1
  go_enter Yba.func24, Yba.ntmps24
  go_wp2
  go_loopw [6, 7, 11] (fun _ _ i wr => ∃ (k : Nat) (ls : List Int), k ≤ ny ∧ i = .int .i64 k ∧ Hid (BasicSt xs ys k ls ∧ Cells wr b off (ls ++ List.replicate (ny - k) 0) ∧ Wr b off N w wr)) (fun _ _ i _ => ny - (intOf i).toNat)
  case atStart => exact ⟨0, _, Nat.zero_le _, rfl, BasicSt.start xs ys, by rw [List.replicate_append_replicate, H.out.1, Nat.sub_zero, ← H.out.2.2.1]; exact C1.out.1, C1.out.2⟩
  case round =>
    obtain ⟨k, ls, hk, rfl, hr⟩ := hrel
    by_cases hlt : k < ny
    · obtain ⟨hxl, hyl, hN, hx, hy, hf, hcx, hdx, hsy, hbs⟩ := H.out
      obtain ⟨hs, hcr, hwr⟩ := hr.out
      have hls := hs.1
      rcases hsy.kept hwr with he | ⟨b3, o3, rfl, hcy, hdy⟩
      · rw [he] at hyl; simp at hyl; omega
      have ky : wr.cell? ⟨b3, o3 + k, none⟩ = some (.int .u64 (wd ys k)) := hcy k (by omega)
      have HA : Hid (∀ cp, Calls Yba.prog 33 #[.slice (some ⟨b, off + k, none⟩) nx cp, .slice (some ⟨b2, off2, none⟩) nx cap2, .int .u64 (wd ys k)] wr fun e w' => ∃ c, e = .returned (.int .u64 c) ∧ w'.cell? ⟨b, off + (nx + k), none⟩ = some (.int .u64 0) ∧ w'.frozen? ⟨b, off + (nx + k), none⟩ = false ∧
          Hid (∃ ls', BasicSt xs ys (k + 1) ls' ∧ Cells (w'.setCell ⟨b, off + (nx + k), none⟩ (.int .u64 c)) b off (ls' ++ List.replicate (ny - (k + 1)) 0) ∧ Wr b off N w (w'.setCell ⟨b, off + (nx + k), none⟩ (.int .u64 c)))) := by
        intro cp
        have cw : Cells wr b (off + k) (ls.drop k) := by
          have := (hcr.drop k).take nx
          rwa [List.drop_append_of_le_length (by omega), List.take_append_of_le_length (by rw [List.length_drop]; omega), List.take_of_length_le (by rw [List.length_drop]; omega)] at this
        refine (addMul_at b (off + k) nx cp b2 off2 cap2 (ls.drop k) xs (wd ys k) (by rw [List.length_drop]; omega) hxl (by omega) (hs.2.1.drop k) hx (hy k) wr cw (fun i hi => by rw [Nat.add_assoc, hwr.frozen]; exact hf (k + i) (by omega)) (hcx.kept hwr (by omega)) (by omega)).mono ?_
        rintro e w2 ⟨rs, c, rfl, r1, r2, r3, r4, r5, r6⟩
        have st := hs.step (rs := rs) (c := c) (r1.trans hxl.symm) r2 r3 (by rw [hxl]; exact r4)
        have whole : Cells w2 b off ((ls.take k ++ rs) ++ List.replicate (ny - k) 0) := by
          have p1 : Cells w2 b off (ls.take k) := by
            have := (hcr.take k).kept r6 (.inr (.inl (by rw [List.length_take]; omega)))
            rwa [List.take_append_of_le_length (by omega)] at this
          have p3 : Cells w2 b (off + (nx + k)) (List.replicate (ny - k) 0) := by
            have := (hcr.drop (nx + k)).kept r6 (.inr (.inr (by omega)))
            rwa [List.drop_append, List.drop_of_length_le (by omega), List.nil_append, hls, hxl, Nat.sub_self, List.drop_zero] at this
          have hk2 : (ls.take k).length = k := by rw [List.length_take]; omega
          refine (p1.app (by rw [hk2]; exact r5)).app ?_
          rw [List.length_append, hk2, r1, Nat.add_comm k nx]
          exact p3
        have hpos : (ls.take k ++ rs).length = nx + k := by rw [List.length_append, List.length_take, r1]; omega
        have hz0 : w2.cell? ⟨b, off + (nx + k), none⟩ = some (.int .u64 0) := by
          have := whole (nx + k) (by rw [List.length_append, hpos, List.length_replicate]; omega)
          rw [this]
          congr 2
          unfold wd
          rw [List.getD_eq_getElem?_getD, List.getElem?_append_right (by omega), hpos, Nat.sub_self, List.getElem?_replicate, if_pos (by omega)]
          rfl
        have hw2 : Wr b off N w w2 := hwr.trans (r6.mono (by omega) (by omega))
        refine ⟨c, rfl, hz0, by rw [hw2.frozen]; exact hf (nx + k) (by omega), _, st, ?_, hw2.setCell (by omega) (by omega) _⟩
        have := whole.set (k := nx + k) (by rw [List.length_append, hpos, List.length_replicate]; omega) c
        rwa [List.set_append_right _ _ (by omega), hpos, Nat.sub_self, show ny - k = (ny - (k + 1)) + 1 by omega, List.replicate_succ, List.set_cons_zero, ← List.singleton_append, ← List.append_assoc] at this
      have i0 : (0 : Int) ≤ (k : Int) := by omega
      have i1 : (k : Int) < (ny : Int) := by omega
      have i2 : (k : Int) + (nx : Int) ≤ (cap : Int) := by omega
      have i3 : (nx : Int) + (k : Int) < (N : Int) := by omega
      clear hxl hyl hN hx hy hf hcx hdx hsy hbs hs hcr hwr hr hls hcy hdy
      go_wp2_with fail
      refine (HA.out _).mono ?_
      clear HA
      rintro e w2 ⟨c, rfl, kz, kf, R⟩
      go_wp2
      go_roundw
      case rel =>
        obtain ⟨ls2, R2⟩ := R.out
        first | exact ⟨k + 1, ls2, by omega, by go_num, R2⟩ | (refine ⟨trivial, ?_⟩; (repeat apply Exists.intro); exact ⟨⟨k + 1, ls2, by omega, by go_num, R2⟩, rfl⟩)
      case measure => simp [intOf]; omega
    · obtain rfl : ny = k := by omega
      clear hlt
      go_wp2
      go_end0
      obtain ⟨hxl, hyl, hN, hx, hy, hf, hcx, hdx, hsy, hbs⟩ := H.out
      obtain ⟨hs, hcr, hwr⟩ := hr.out
      rw [Nat.sub_self, List.replicate_zero, List.append_nil] at hcr
      refine ⟨rfl, ls, by rw [hs.1]; omega, hs.2.1, ?_, hcr, hwr⟩
      rw [hs.2.2, List.take_of_length_le (by omega)]
end Go.Proofs.Ybulkcmly
