/-
  subIn, addIn: the contracts, by values.
-/
import Derived.Test.YbulkcmlyVal
namespace Go.Proofs.Ybulkcmly
open Go.RowKit
set_option linter.unusedVariables false

set_option maxHeartbeats 1600000 in
theorem subIn_at (b off n cap b2 off2 m cap2 : Nat) (zs ys : List Int) (hl : zs.length = n) (hl2 : ys.length = m) (hmn : m ≤ n) (hn : n ≤ 9223372036854775807) (hz : Words zs) (hy : Words ys) (w : World)
    (hc : Cells w b off zs) (hf : Free w b off n) (hc2 : Cells w b2 off2 ys) (hd : b2 ≠ b ∨ off2 + m ≤ off ∨ off + n ≤ off2) :
    Calls Yba.prog 22 #[.slice (some ⟨b, off, none⟩) n cap, .slice (some ⟨b2, off2, none⟩) m cap2] w fun e w' => ∃ rs bo, e = .returned (.int .u64 bo) ∧ rs.length = n ∧ Words rs ∧ (0 ≤ bo ∧ bo ≤ 1) ∧ nv zs - nv ys = nv rs - bo * pw n ∧ Cells w' b off rs ∧ Wr b off n w w' := by
  have H : Hid (zs.length = n ∧ ys.length = m ∧ Words zs ∧ Words ys ∧ Cells w b off zs ∧ Free w b off n ∧ Cells w b2 off2 ys ∧ (b2 ≠ b ∨ off2 + m ≤ off ∨ off + n ≤ off2)) := ⟨hl, hl2, hz, hy, hc, hf, hc2, hd⟩
  clear hl hl2 hz hy hc hf hc2 hd
  go_enter Yba.func22, Yba.ntmps22
  go_wp2
  go_loopw [5, 11] (fun bo i wr => ∃ (k : Nat) (bv : Int) (ls : List Int), k ≤ m ∧ i = .int .i64 k ∧ bo = .int .u64 bv ∧ Hid (SubSt zs ys k ls bv ∧ Cells wr b off (ls ++ zs.drop k) ∧ Wr b off n w wr)) (fun _ i _ => m - (intOf i).toNat)
  case atStart => exact ⟨0, 0, [], Nat.zero_le _, rfl, rfl, SubSt.start zs ys, by simpa using H.out.2.2.2.2.1, Wr.refl _ _ _ _⟩
  case round =>
    obtain ⟨k, bv, ls, hk, rfl, rfl, hr⟩ := hrel
    by_cases hlt : k < m
    · obtain ⟨hl, hl2, hz, hy, hc, hf, hc2, hd⟩ := H.out
      obtain ⟨hs, hcr, hwr⟩ := hr.out
      have kz : wr.cell? ⟨b, off + k, none⟩ = some (.int .u64 (wd zs k)) := by
        have := hcr k (by rw [List.length_append, hs.1, List.length_drop]; omega)
        rwa [show wd (ls ++ zs.drop k) k = wd zs k by unfold wd; rw [List.getD_eq_getElem?_getD, List.getElem?_append_right (by rw [hs.1]; omega), hs.1, List.getElem?_drop, List.getD_eq_getElem?_getD]; simp] at this
      have ky : wr.cell? ⟨b2, off2 + k, none⟩ = some (.int .u64 (wd ys k)) := (hc2.kept hwr (by omega)) k (by omega)
      have kf : wr.frozen? ⟨b, off + k, none⟩ = false := by rw [hwr.frozen]; exact hf k (by omega)
      have klib := fun W => sub64r (wd zs k) (wd ys k) bv (hz k) (hy k) hs.2.2.1 W
      have R : Hid (SubSt zs ys (k + 1) (ls ++ [subR (wd zs k) (wd ys k) bv]) (borR (wd zs k) (wd ys k) bv) ∧ Cells (wr.setCell ⟨b, off + k, none⟩ (.int .u64 (subR (wd zs k) (wd ys k) bv))) b off ((ls ++ [subR (wd zs k) (wd ys k) bv]) ++ zs.drop (k + 1)) ∧ Wr b off n w (wr.setCell ⟨b, off + k, none⟩ (.int .u64 (subR (wd zs k) (wd ys k) bv)))) :=
        ⟨hs.step hz hy, hcr.put hs.1 (by omega) _, hwr.setCell (by omega) (by omega) _⟩
      clear hl hl2 hz hy hc hf hc2 hd hs hcr hwr hr
      go_wp2_with (simp only [klib])
      go_roundw
      case rel => exact ⟨k + 1, _, _, by omega, by go_num, rfl, R⟩
      case measure => simp [intOf]; omega
    · obtain rfl : m = k := by omega
      clear hlt
      go_wp2
      go_loopw [5, 8] (fun bo i wr => ∃ (k : Nat) (bv : Int) (ls : List Int), m ≤ k ∧ k ≤ n ∧ i = .int .i64 k ∧ bo = .int .u64 bv ∧ Hid (SubSt zs ys k ls bv ∧ Cells wr b off (ls ++ zs.drop k) ∧ Wr b off n w wr)) (fun _ i _ => n - (intOf i).toNat)
      case atStart => exact ⟨_, bv, ls, Nat.le_refl _, hmn, rfl, rfl, hr⟩
      case round =>
        obtain ⟨k, bv2, ls2, hmk, hkn, rfl, rfl, hr2⟩ := hrel
        have hbit : bv2 = 0 ∨ bv2 = 1 := by have := hr2.out.1.2.2.1; omega
        clear hr
        rcases hbit with rfl | rfl
        · go_wp2
          go_ret
          obtain ⟨hl, hl2, hz, hy, hc, hf, hc2, hd⟩ := H.out
          obtain ⟨hs, hcr, hwr⟩ := hr2.out
          have D := hs.done hz (by omega) (by omega) (.inl rfl)
          rw [hl] at D
          exact ⟨_, 0, rfl, by rw [List.length_append, hs.1, List.length_drop]; omega, D.1, hs.2.2.1, D.2, hcr, hwr⟩
        · by_cases hlt : k < n
          · obtain ⟨hl, hl2, hz, hy, hc, hf, hc2, hd⟩ := H.out
            obtain ⟨hs, hcr, hwr⟩ := hr2.out
            have kz : wr.cell? ⟨b, off + k, none⟩ = some (.int .u64 (wd zs k)) := by
              have := hcr k (by rw [List.length_append, hs.1, List.length_drop]; omega)
              rwa [show wd (ls2 ++ zs.drop k) k = wd zs k by unfold wd; rw [List.getD_eq_getElem?_getD, List.getElem?_append_right (by rw [hs.1]; omega), hs.1, List.getElem?_drop, List.getD_eq_getElem?_getD]; simp] at this
            have kf : wr.frozen? ⟨b, off + k, none⟩ = false := by rw [hwr.frozen]; exact hf k (by omega)
            have klib := fun W => sub64r (wd zs k) 0 1 (hz k) (by decide) hs.2.2.1 W
            have R : Hid (SubSt zs ys (k + 1) (ls2 ++ [subR (wd zs k) 0 1]) (borR (wd zs k) 0 1) ∧ Cells (wr.setCell ⟨b, off + k, none⟩ (.int .u64 (subR (wd zs k) 0 1))) b off ((ls2 ++ [subR (wd zs k) 0 1]) ++ zs.drop (k + 1)) ∧ Wr b off n w (wr.setCell ⟨b, off + k, none⟩ (.int .u64 (subR (wd zs k) 0 1)))) := by
              have st := hs.step hz hy
              rw [wd_end ys k (by omega)] at st
              exact ⟨st, hcr.put hs.1 (by omega) _, hwr.setCell (by omega) (by omega) _⟩
            clear hl hl2 hz hy hc hf hc2 hd hs hcr hwr hr2
            go_wp2_with (simp only [klib])
            go_roundw
            case rel => exact ⟨k + 1, _, _, by omega, by omega, by go_num, rfl, R⟩
            case measure => simp [intOf]; omega
          · obtain rfl : n = k := by omega
            go_wp2
            go_ret
            obtain ⟨hl, hl2, hz, hy, hc, hf, hc2, hd⟩ := H.out
            obtain ⟨hs, hcr, hwr⟩ := hr2.out
            have D := hs.done hz (by omega) (by omega) (.inr hl.symm)
            rw [hl] at D
            exact ⟨_, 1, rfl, by rw [List.length_append, hs.1, List.length_drop]; omega, D.1, hs.2.2.1, D.2, hcr, hwr⟩

set_option maxHeartbeats 400000 in
/-- Nothing is taken away or added. -/
theorem subIn_nil (a : Option Addr) (n cap : Nat) (ao : Option Addr) (cap2 : Nat) (hn : n ≤ 9223372036854775807) (w : World) :
    Calls Yba.prog 22 #[.slice a n cap, .slice ao 0 cap2] w fun e w' => e = .returned (.int .u64 0) ∧ w' = w := by
  go_enter Yba.func22, Yba.ntmps22
  go_wp2
  refine wp_loop_rounds 1 ?_
  rw [rounds_succ]
  go_wp2
  refine wp_loop_rounds 1 ?_
  rw [rounds_succ]
  go_wp2
  go_ret
  exact ⟨rfl, rfl⟩

set_option maxHeartbeats 1600000 in
theorem addIn_at (b off n cap b2 off2 m cap2 : Nat) (zs ys : List Int) (hl : zs.length = n) (hl2 : ys.length = m) (hmn : m ≤ n) (hn : n ≤ 9223372036854775807) (hz : Words zs) (hy : Words ys) (w : World)
    (hc : Cells w b off zs) (hf : Free w b off n) (hc2 : Cells w b2 off2 ys) (hd : b2 ≠ b ∨ off2 + m ≤ off ∨ off + n ≤ off2) :
    Calls Yba.prog 29 #[.slice (some ⟨b, off, none⟩) n cap, .slice (some ⟨b2, off2, none⟩) m cap2] w fun e w' => ∃ rs bo, e = .returned (.int .u64 bo) ∧ rs.length = n ∧ Words rs ∧ (0 ≤ bo ∧ bo ≤ 1) ∧ nv zs + nv ys = nv rs + bo * pw n ∧ Cells w' b off rs ∧ Wr b off n w w' := by
  have H : Hid (zs.length = n ∧ ys.length = m ∧ Words zs ∧ Words ys ∧ Cells w b off zs ∧ Free w b off n ∧ Cells w b2 off2 ys ∧ (b2 ≠ b ∨ off2 + m ≤ off ∨ off + n ≤ off2)) := ⟨hl, hl2, hz, hy, hc, hf, hc2, hd⟩
  clear hl hl2 hz hy hc hf hc2 hd
  go_enter Yba.func29, Yba.ntmps29
  go_wp2
  go_loopw [5, 11] (fun bo i wr => ∃ (k : Nat) (bv : Int) (ls : List Int), k ≤ m ∧ i = .int .i64 k ∧ bo = .int .u64 bv ∧ Hid (AddSt zs ys k ls bv ∧ Cells wr b off (ls ++ zs.drop k) ∧ Wr b off n w wr)) (fun _ i _ => m - (intOf i).toNat)
  case atStart => exact ⟨0, 0, [], Nat.zero_le _, rfl, rfl, AddSt.start zs ys, by simpa using H.out.2.2.2.2.1, Wr.refl _ _ _ _⟩
  case round =>
    obtain ⟨k, bv, ls, hk, rfl, rfl, hr⟩ := hrel
    by_cases hlt : k < m
    · obtain ⟨hl, hl2, hz, hy, hc, hf, hc2, hd⟩ := H.out
      obtain ⟨hs, hcr, hwr⟩ := hr.out
      have kz : wr.cell? ⟨b, off + k, none⟩ = some (.int .u64 (wd zs k)) := by
        have := hcr k (by rw [List.length_append, hs.1, List.length_drop]; omega)
        rwa [show wd (ls ++ zs.drop k) k = wd zs k by unfold wd; rw [List.getD_eq_getElem?_getD, List.getElem?_append_right (by rw [hs.1]; omega), hs.1, List.getElem?_drop, List.getD_eq_getElem?_getD]; simp] at this
      have ky : wr.cell? ⟨b2, off2 + k, none⟩ = some (.int .u64 (wd ys k)) := (hc2.kept hwr (by omega)) k (by omega)
      have kf : wr.frozen? ⟨b, off + k, none⟩ = false := by rw [hwr.frozen]; exact hf k (by omega)
      have klib := fun W => add64r (wd zs k) (wd ys k) bv (hz k) (hy k) hs.2.2.1 W
      have R : Hid (AddSt zs ys (k + 1) (ls ++ [addR (wd zs k) (wd ys k) bv]) (carR (wd zs k) (wd ys k) bv) ∧ Cells (wr.setCell ⟨b, off + k, none⟩ (.int .u64 (addR (wd zs k) (wd ys k) bv))) b off ((ls ++ [addR (wd zs k) (wd ys k) bv]) ++ zs.drop (k + 1)) ∧ Wr b off n w (wr.setCell ⟨b, off + k, none⟩ (.int .u64 (addR (wd zs k) (wd ys k) bv)))) :=
        ⟨hs.step hz hy, hcr.put hs.1 (by omega) _, hwr.setCell (by omega) (by omega) _⟩
      clear hl hl2 hz hy hc hf hc2 hd hs hcr hwr hr
      go_wp2_with (simp only [klib])
      go_roundw
      case rel => exact ⟨k + 1, _, _, by omega, by go_num, rfl, R⟩
      case measure => simp [intOf]; omega
    · obtain rfl : m = k := by omega
      clear hlt
      go_wp2
      go_loopw [5, 8] (fun bo i wr => ∃ (k : Nat) (bv : Int) (ls : List Int), m ≤ k ∧ k ≤ n ∧ i = .int .i64 k ∧ bo = .int .u64 bv ∧ Hid (AddSt zs ys k ls bv ∧ Cells wr b off (ls ++ zs.drop k) ∧ Wr b off n w wr)) (fun _ i _ => n - (intOf i).toNat)
      case atStart => exact ⟨_, bv, ls, Nat.le_refl _, hmn, rfl, rfl, hr⟩
      case round =>
        obtain ⟨k, bv2, ls2, hmk, hkn, rfl, rfl, hr2⟩ := hrel
        have hbit : bv2 = 0 ∨ bv2 = 1 := by have := hr2.out.1.2.2.1; omega
        clear hr
        rcases hbit with rfl | rfl
        · go_wp2
          go_ret
          obtain ⟨hl, hl2, hz, hy, hc, hf, hc2, hd⟩ := H.out
          obtain ⟨hs, hcr, hwr⟩ := hr2.out
          have D := hs.done hz (by omega) (by omega) (.inl rfl)
          rw [hl] at D
          exact ⟨_, 0, rfl, by rw [List.length_append, hs.1, List.length_drop]; omega, D.1, hs.2.2.1, D.2, hcr, hwr⟩
        · by_cases hlt : k < n
          · obtain ⟨hl, hl2, hz, hy, hc, hf, hc2, hd⟩ := H.out
            obtain ⟨hs, hcr, hwr⟩ := hr2.out
            have kz : wr.cell? ⟨b, off + k, none⟩ = some (.int .u64 (wd zs k)) := by
              have := hcr k (by rw [List.length_append, hs.1, List.length_drop]; omega)
              rwa [show wd (ls2 ++ zs.drop k) k = wd zs k by unfold wd; rw [List.getD_eq_getElem?_getD, List.getElem?_append_right (by rw [hs.1]; omega), hs.1, List.getElem?_drop, List.getD_eq_getElem?_getD]; simp] at this
            have kf : wr.frozen? ⟨b, off + k, none⟩ = false := by rw [hwr.frozen]; exact hf k (by omega)
            have klib := fun W => add64r (wd zs k) 0 1 (hz k) (by decide) hs.2.2.1 W
            have R : Hid (AddSt zs ys (k + 1) (ls2 ++ [addR (wd zs k) 0 1]) (carR (wd zs k) 0 1) ∧ Cells (wr.setCell ⟨b, off + k, none⟩ (.int .u64 (addR (wd zs k) 0 1))) b off ((ls2 ++ [addR (wd zs k) 0 1]) ++ zs.drop (k + 1)) ∧ Wr b off n w (wr.setCell ⟨b, off + k, none⟩ (.int .u64 (addR (wd zs k) 0 1)))) := by
              have st := hs.step hz hy
              rw [wd_end ys k (by omega)] at st
              exact ⟨st, hcr.put hs.1 (by omega) _, hwr.setCell (by omega) (by omega) _⟩
            clear hl hl2 hz hy hc hf hc2 hd hs hcr hwr hr2
            go_wp2_with (simp only [klib])
            go_roundw
            case rel => exact ⟨k + 1, _, _, by omega, by omega, by go_num, rfl, R⟩
            case measure => simp [intOf]; omega
          · obtain rfl : n = k := by omega
            go_wp2
            go_ret
            obtain ⟨hl, hl2, hz, hy, hc, hf, hc2, hd⟩ := H.out
            obtain ⟨hs, hcr, hwr⟩ := hr2.out
            have D := hs.done hz (by omega) (by omega) (.inr hl.symm)
            rw [hl] at D
            exact ⟨_, 1, rfl, by rw [List.length_append, hs.1, List.length_drop]; omega, D.1, hs.2.2.1, D.2, hcr, hwr⟩

set_option maxHeartbeats 400000 in
/-- Nothing is taken away or added. -/
theorem addIn_nil (a : Option Addr) (n cap : Nat) (ao : Option Addr) (cap2 : Nat) (hn : n ≤ 9223372036854775807) (w : World) :
    Calls Yba.prog 29 #[.slice a n cap, .slice ao 0 cap2] w fun e w' => e = .returned (.int .u64 0) ∧ w' = w := by
  go_enter Yba.func29, Yba.ntmps29
  go_wp2
  refine wp_loop_rounds 1 ?_
  rw [rounds_succ]
  go_wp2
  refine wp_loop_rounds 1 ?_
  rw [rounds_succ]
  go_wp2
  go_ret
  exact ⟨rfl, rfl⟩

end Go.Proofs.Ybulkcmly
