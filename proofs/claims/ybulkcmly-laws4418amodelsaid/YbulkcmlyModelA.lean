/-
  zzs4418amodel: the schoolbook product, a row at a time.
-/
import Derived.Test.YbulkcmlyMulD
import Derived.Test.YbulkcmlyAEq
namespace Go.Proofs.Ybulkcmly
open Go.RowKit
set_option linter.unusedVariables false

set_option maxHeartbeats 3200000 in
set_option maxRecDepth 100000 in
theorem model_walk (nx ny cap1 cap2 : Nat) (xs ys : List Int) (hnx : (nx : Int) ≤ 512) (hny : (ny : Int) ≤ 512) (hxl : xs.length = nx) (hyl : ys.length = ny) (hx : Words xs) (hy : Words ys) (a1 a2 : Option Addr) (w : World) (s1 : At w a1 xs) (s2 : At w a2 ys) :
    Calls Yba.prog 10 #[.slice a1 nx cap1, .slice a2 ny cap2] w fun e w' => ∃ rs, rs.length = nx + ny ∧ Words rs ∧ nv rs = nv ys * nv xs ∧ e = .returned (.slice (some ⟨w.heap.size, 0, none⟩) (nrm rs) (nx + ny)) ∧ Cells w' w.heap.size 0 rs ∧ Below w.heap.size w w' := by
  obtain ⟨i0, hi, hz0, hz1, hz2⟩ := info_parts Yba.info28
  have H : Hid (xs.length = nx ∧ ys.length = ny ∧ Words xs ∧ Words ys ∧ At w a1 xs ∧ At w a2 ys) := ⟨hxl, hyl, hx, hy, s1, s2⟩
  clear hxl hyl hx hy s1 s2
  go_enter Yba.func10, Yba.ntmps10
  go_wp2_with (at_make; refine wpList_make_full _ rfl _ _ 22 rfl w.heap.size 28 i0 (.int .u64 0) 1 Yba.underlying22 hi hz0 hz1 _ _ _ _ (nx + ny) rfl rfl (by first | rfl | omega) (by first | rfl | omega) (by rw [hz2]; omega) (by unfold maxLen; omega) (Nat.le_refl _) ?_)
  intro w2 ho2 hg2
  obtain ⟨cz2, fz2, lz2⟩ := made (w := w) ho2
  have bel2 : Below w.heap.size w w2 := (Below.refl _ _).grown hg2 (Nat.le_refl _) (by simp)
  have R0 : Hid (Cells w2 w.heap.size 0 (List.replicate (nx + ny) 0) ∧ Free w2 w.heap.size 0 (nx + ny) ∧ w.heap.size < w2.heap.size ∧ Below w.heap.size w w2) := ⟨cz2, fz2, lz2, bel2⟩
  clear ho2 hg2 cz2 fz2 lz2 bel2
  go_wp2
  go_loopw [6, 7, 8, 9, 10, 11, 12, 13, 14] (fun i _ _ _ _ _ _ _ _ wr => ∃ (k : Nat) (ls : List Int), k ≤ nx ∧ i = .int .i64 k ∧ Hid (BasicSt ys xs k ls ∧ Cells wr w.heap.size 0 (ls ++ List.replicate (nx - k) 0) ∧ Free wr w.heap.size 0 (nx + ny) ∧ w.heap.size < wr.heap.size ∧ Below w.heap.size w wr)) (fun i _ _ _ _ _ _ _ _ _ => nx - (intOf i).toNat)
  case atStart => exact ⟨0, _, Nat.zero_le _, rfl, BasicSt.start ys xs, by rw [List.replicate_append_replicate, H.out.2.1, Nat.sub_zero, Nat.add_comm]; exact R0.out.1, R0.out.2⟩
  case round =>
    obtain ⟨k, ls, hk, rfl, hr⟩ := hrel
    by_cases hlt : k < nx
    · go_wp2
      obtain ⟨w5, rfl⟩ : ∃ w5, w5 = wr := ⟨wr, rfl⟩
      go_loopw [7, 8, 9, 10, 11, 12, 13, 14] (fun co j _ _ _ _ _ _ wr => ∃ (t : Nat) (cv : Int) (rs : List Int), t ≤ ny ∧ j = .int .i64 t ∧ co = .int .u64 cv ∧ Hid (MulSt (ls.drop k) ys (wd xs k) t rs cv ∧ Cells wr w.heap.size k (rs ++ (ls.drop k).drop t) ∧ Wr w.heap.size k ny w5 wr)) (fun _ j _ _ _ _ _ _ _ => ny - (intOf j).toNat)
      case atStart =>
        refine ⟨0, 0, [], Nat.zero_le _, rfl, rfl, MulSt.start _ _ _, ?_, Wr.refl _ _ _ _⟩
        obtain ⟨hs, hcr, _⟩ := hr.out
        have hls := hs.1
        have := (hcr.drop k).take ny
        rw [List.drop_append_of_le_length (by omega), List.take_append_of_le_length (by rw [List.length_drop]; have := H.out.2.1; omega), List.take_of_length_le (by rw [List.length_drop]; have := H.out.2.1; omega), Nat.zero_add] at this
        simpa using this
      case round =>
        obtain ⟨t, cv, rs, ht, rfl, rfl, hq⟩ := hrel
        by_cases hlt2 : t < ny
        · obtain ⟨hxl, hyl, hx, hy, s1, s2⟩ := H.out
          obtain ⟨hs, hcr, hfr, hbs, hbel⟩ := hr.out
          obtain ⟨ms, mc, mw⟩ := hq.out
          have hls := hs.1
          have belq : Below w.heap.size w wr := hbel.trans (mw.toBelow (Nat.le_refl _) (by omega))
          rcases s1 with he | ⟨b1, o1, rfl, c1⟩
          · rw [he] at hxl; simp at hxl; omega
          rcases s2 with he | ⟨b2, o2, rfl, c2⟩
          · rw [he] at hyl; simp at hyl; omega
          have kx : wr.cell? ⟨b1, o1 + k, none⟩ = some (.int .u64 (wd xs k)) := (c1.below belq (c1.lt (by omega))) k (by omega)
          have ky : wr.cell? ⟨b2, o2 + t, none⟩ = some (.int .u64 (wd ys t)) := (c2.below belq (c2.lt (by omega))) t (by omega)
          have dl : (ls.drop k).length = ny := by rw [List.length_drop]; omega
          have kz : wr.cell? ⟨w.heap.size, k + t, none⟩ = some (.int .u64 (wd (ls.drop k) t)) := by
            have := mc t (by rw [List.length_append, ms.1, List.length_drop]; omega)
            rwa [show wd (rs ++ (ls.drop k).drop t) t = wd (ls.drop k) t by unfold wd; rw [List.getD_eq_getElem?_getD, List.getElem?_append_right (by rw [ms.1]; omega), ms.1, List.getElem?_drop, List.getD_eq_getElem?_getD]; simp] at this
          have kf : wr.frozen? ⟨w.heap.size, k + t, none⟩ = false := by rw [mw.frozen]; have := hfr (k + t) (by omega); rwa [Nat.zero_add] at this
          have hzw : Words (ls.drop k) := hs.2.1.drop k
          have st := ms.step hzw hy (hx k)
          have R : Hid (∀ q, MulSt (ls.drop k) ys (wd xs k) (t + 1) (rs ++ [mulS (wd (ls.drop k) t) (wd ys t) (wd xs k) cv]) (mulC (wd (ls.drop k) t) (wd ys t) (wd xs k) cv) ∧ Cells ((wr.drewN q).setCell ⟨w.heap.size, k + t, none⟩ (.int .u64 (mulS (wd (ls.drop k) t) (wd ys t) (wd xs k) cv))) w.heap.size k ((rs ++ [mulS (wd (ls.drop k) t) (wd ys t) (wd xs k) cv]) ++ (ls.drop k).drop (t + 1)) ∧ Wr w.heap.size k ny w5 ((wr.drewN q).setCell ⟨w.heap.size, k + t, none⟩ (.int .u64 (mulS (wd (ls.drop k) t) (wd ys t) (wd xs k) cv)))) := fun q =>
            ⟨st, (show Cells (wr.drewN q) w.heap.size k (rs ++ (ls.drop k).drop t) from fun i hi => by simpa using mc i hi).put ms.1 (by omega) _, (mw.drewN q).setCell (by omega) (by omega) _⟩
          have q1 := mulC_steps (hzw t) (hy t) (hx k) ms.2.2.1
          have q2 := mulC_word (hzw t) (hy t) (hx k) ms.2.2.1
          unfold mulS mulC at R
          unfold mulC at q2
          rw [Int.mul_comm (wd ys t) (wd xs k)] at R q1 q2
          have HM := fun W => mul64r (wd xs k) (wd ys t) (hx k) (hy t) W
          have klib1 := fun W => add64r (wd xs k * wd ys t % 18446744073709551616) cv 0 (by omega) ms.2.2.1 (by decide) W
          have klib2 := fun W => add64r (wd (ls.drop k) t) (addR (wd xs k * wd ys t % 18446744073709551616) cv 0) 0 (hzw t) (addR_word _ _ _) (by decide) W
          generalize addR (wd (ls.drop k) t) (addR (wd xs k * wd ys t % 18446744073709551616) cv 0) 0 = s1 at *
          generalize carR (wd (ls.drop k) t) (addR (wd xs k * wd ys t % 18446744073709551616) cv 0) 0 = cc2 at *
          generalize addR (wd xs k * wd ys t % 18446744073709551616) cv 0 = lo2 at *
          generalize carR (wd xs k * wd ys t % 18446744073709551616) cv 0 = cc1 at *
          generalize wd xs k * wd ys t / 18446744073709551616 = hi at *
          generalize wd xs k * wd ys t % 18446744073709551616 = lo at *
          have HM2 : Hid (∀ W, Calls Yba.prog 20 #[.int .u64 (wd xs k), .int .u64 (wd ys t)] W fun e w' => e = .returned (.tuple #[.int .u64 hi, .int .u64 lo]) ∧ w' = W) := HM
          have e1 : IntKind.u64.wrap (hi + cc1) = hi + cc1 := by rw [IntKind.wrap_u64]; omega
          have e2 : IntKind.u64.wrap (hi + cc1 + cc2) = hi + cc1 + cc2 := by rw [IntKind.wrap_u64]; omega
          have j0 : (0 : Int) ≤ (t : Int) := by omega
          have j1 : (t : Int) < (ny : Int) := by omega
          have j2 : (0 : Int) ≤ (k : Int) := by omega
          have j3 : (k : Int) < (nx : Int) := by omega
          have j4 : (k : Int) + (t : Int) < (nx : Int) + (ny : Int) := by omega
          clear hxl hyl hx hy c1 c2 hs hcr hfr hbs hbel ms mc mw hls belq dl hzw st HM H hr hq
          go_wp2
          go_quiet ((go_at_call 20; exact Calls.quiet_of_same (HM2.out _)))
          go_wp2
          exact ⟨⟨t + 1, _, _, by omega, by go_num, rfl, R.out _⟩, by simp [intOf]; omega⟩
        · obtain rfl : ny = t := by omega
          clear hlt2
          have K : Hid (∃ ls', BasicSt ys xs (k + 1) ls' ∧ wr.cell? ⟨w.heap.size, k + ny, none⟩ = some (.int .u64 0) ∧ wr.frozen? ⟨w.heap.size, k + ny, none⟩ = false ∧ Cells (wr.setCell ⟨w.heap.size, k + ny, none⟩ (.int .u64 cv)) w.heap.size 0 (ls' ++ List.replicate (nx - (k + 1)) 0) ∧ Free (wr.setCell ⟨w.heap.size, k + ny, none⟩ (.int .u64 cv)) w.heap.size 0 (nx + ny) ∧ w.heap.size < (wr.setCell ⟨w.heap.size, k + ny, none⟩ (.int .u64 cv)).heap.size ∧ Below w.heap.size w (wr.setCell ⟨w.heap.size, k + ny, none⟩ (.int .u64 cv))) := by
            obtain ⟨hxl, hyl, hx, hy, s1, s2⟩ := H.out
            obtain ⟨hs, hcr, hfr, hbs, hbel⟩ := hr.out
            obtain ⟨ms, mc, mw⟩ := hq.out
            have hls := hs.1
            have dl : (ls.drop k).length = ny := by rw [List.length_drop]; omega
            have h4 := ms.2.2.2
            rw [List.take_of_length_le (by omega), List.take_of_length_le (by omega)] at h4
            rw [List.drop_of_length_le (by omega), List.append_nil] at mc
            have st := hs.step (rs := rs) (c := cv) (ms.1.trans hyl.symm) ms.2.1 ms.2.2.1 (by rw [hyl]; exact h4)
            have hk2 : (ls.take k).length = k := by rw [List.length_take]; omega
            have whole : Cells wr w.heap.size 0 ((ls.take k ++ rs) ++ List.replicate (nx - k) 0) := by
              have p1 : Cells wr w.heap.size 0 (ls.take k) := by
                have := (hcr.take k).kept mw (.inr (.inl (by rw [List.length_take]; omega)))
                rwa [List.take_append_of_le_length (by omega)] at this
              have p3 : Cells wr w.heap.size (0 + (ny + k)) (List.replicate (nx - k) 0) := by
                have := (hcr.drop (ny + k)).kept mw (.inr (.inr (by omega)))
                rwa [List.drop_append, List.drop_of_length_le (by omega), List.nil_append, hls, hyl, Nat.sub_self, List.drop_zero] at this
              refine (p1.app (by rw [hk2, Nat.zero_add]; exact mc)).app ?_
              rw [List.length_append, hk2, ms.1, Nat.add_comm k ny]
              exact p3
            have hpos : (ls.take k ++ rs).length = k + ny := by rw [List.length_append, hk2, ms.1]
            have hz0 : wr.cell? ⟨w.heap.size, k + ny, none⟩ = some (.int .u64 0) := by
              have := whole (k + ny) (by rw [List.length_append, hpos, List.length_replicate]; omega)
              rw [Nat.zero_add] at this
              rw [this]
              congr 2
              unfold wd
              rw [List.getD_eq_getElem?_getD, List.getElem?_append_right (by omega), hpos, Nat.sub_self, List.getElem?_replicate, if_pos (by omega)]
              rfl
            have fr : Free wr w.heap.size 0 (nx + ny) := fun i hi => by rw [mw.frozen]; exact hfr i hi
            refine ⟨_, st, hz0, by have := fr (k + ny) (by omega); rwa [Nat.zero_add] at this, ?_, fun i hi => by rw [World.frozen?_setCell]; exact fr i hi, by have := mw.size; simp; omega, (hbel.trans (mw.toBelow (Nat.le_refl _) (by omega))).setCell (p := ⟨w.heap.size, k + ny, none⟩) (Nat.le_refl _) _⟩
            have := whole.set (k := k + ny) (by rw [List.length_append, hpos, List.length_replicate]; omega) cv
            rwa [Nat.zero_add, List.set_append_right _ _ (by omega), hpos, Nat.sub_self, show nx - k = (nx - (k + 1)) + 1 by omega, List.replicate_succ, List.set_cons_zero, ← List.singleton_append, ← List.append_assoc] at this
          obtain ⟨ls2, st2, kz, kf, K2⟩ := K.out
          have KK : Hid (BasicSt ys xs (k + 1) ls2 ∧ Cells (wr.setCell ⟨w.heap.size, k + ny, none⟩ (.int .u64 cv)) w.heap.size 0 (ls2 ++ List.replicate (nx - (k + 1)) 0) ∧ Free (wr.setCell ⟨w.heap.size, k + ny, none⟩ (.int .u64 cv)) w.heap.size 0 (nx + ny) ∧ w.heap.size < (wr.setCell ⟨w.heap.size, k + ny, none⟩ (.int .u64 cv)).heap.size ∧ Below w.heap.size w (wr.setCell ⟨w.heap.size, k + ny, none⟩ (.int .u64 cv))) := ⟨st2, K2⟩
          have j2 : (0 : Int) ≤ (k : Int) := by omega
          have j4 : (k : Int) + (ny : Int) < (nx : Int) + (ny : Int) := by omega
          clear st2 K2 K hq
          go_wp2
          exact ⟨⟨k + 1, ls2, by omega, by go_num, KK⟩, by simp [intOf]; omega⟩
    · obtain rfl : nx = k := by omega
      clear hlt
      have K : Hid (ls.length = nx + ny ∧ Words ls ∧ nv ls = nv ys * nv xs ∧ Cells wr w.heap.size 0 ls ∧ Below w.heap.size w wr) := by
        obtain ⟨hxl, hyl, hx, hy, s1, s2⟩ := H.out
        obtain ⟨hs, hcr, hfr, hbs, hbel⟩ := hr.out
        rw [Nat.sub_self, List.replicate_zero, List.append_nil] at hcr
        have h3 := hs.2.2
        rw [List.take_of_length_le (by omega)] at h3
        exact ⟨by have := hs.1; omega, hs.2.1, h3, hcr, hbel⟩
      clear hr
      go_wp2
      go_loop [15] (fun i => ∃ m : Nat, m ≤ nx + ny ∧ i = .int .i64 m ∧ Hid (nrm ls = nrmTo ls m)) (fun i => (intOf i).toNat)
      case atStart => exact ⟨nx + ny, Nat.le_refl _, by go_num, by unfold nrm; rw [K.out.1]; exact rfl⟩
      case round =>
        obtain ⟨m, hm, rfl, hr⟩ := hrel
        by_cases h0 : 0 < m
        · obtain ⟨j, rfl⟩ : ∃ j, m = j + 1 := ⟨m - 1, by omega⟩
          have hcell : wr.cell? ⟨w.heap.size, j, none⟩ = some (.int .u64 (wd ls j)) := by have := K.out.2.2.2.1 j (by have := K.out.1; omega); rwa [Nat.zero_add] at this
          by_cases hz : wd ls j = 0
          · have hz2 : (wd ls j == 0) = true := by simpa using hz
            have HN : Hid (nrmTo ls (j + 1) = nrmTo ls j) := nrmTo_zero hz
            clear hz
            go_wp2
            go_round
            case rel => exact ⟨j, by omega, by go_num, hr.out.trans HN.out⟩
            case measure => simp [intOf]
          · have hz2 : (wd ls j == 0) = false := by simpa using hz
            have HN : Hid (nrmTo ls (j + 1) = j + 1) := nrmTo_pos hz
            clear hz
            go_wp2
            go_ret
            obtain ⟨k1, k2, k3, k4, k5⟩ := K.out
            exact ⟨ls, k1, k2, k3, by rw [hr.out, HN.out]; rfl, k4, k5⟩
        · obtain rfl : m = 0 := by omega
          go_wp2
          go_ret
          obtain ⟨k1, k2, k3, k4, k5⟩ := K.out
          exact ⟨ls, k1, k2, k3, by rw [hr.out]; rfl, k4, k5⟩
end Go.Proofs.Ybulkcmly
