/-
  mulTo's walk.
-/
import Derived.Test.YbulkcmlyMulE
import Derived.Test.YbulkcmlyInf
namespace Go.Proofs.Ybulkcmly
open Go.RowKit
set_option linter.unusedVariables false

set_option maxHeartbeats 400000 in
theorem basic_nil (a a1 a2 : Option Addr) (c c1 c2 : Nat) (w : World) :
    Calls Yba.prog 24 #[.slice a 0 c, .slice a1 0 c1, .slice a2 0 c2] w fun e w' => e = .returned (.tuple #[]) ∧ w' = w := by
  have hcl := fun ty => clear_nil w a c ty
  go_enter Yba.func24, Yba.ntmps24
  go_wp2
  go_loopw [6, 7, 11] (fun _ _ i wr => i = .int .i64 0 ∧ wr = w) (fun _ _ i _ => 0)
  case atStart => exact ⟨rfl, rfl⟩
  case round =>
    obtain ⟨rfl, rfl⟩ := hrel
    go_wp2
    go_end0
    exact ⟨rfl, rfl⟩

set_option maxHeartbeats 400000 in
theorem mulTo_nil (a a1 a2 : Option Addr) (c c1 c2 : Nat) (w : World) :
    Calls Yba.prog 19 #[.slice a 0 c, .slice a1 0 c1, .slice a2 0 c2] w fun e w' => e = .returned (.tuple #[]) ∧ w' = w := by
  have HA := hid (basic_nil a a1 a2 c c1 c2 w)
  go_enter Yba.func19, Yba.ntmps19
  go_wp2_with fail
  refine HA.out.mono ?_
  rintro e w' ⟨rfl, K⟩
  go_wp2
  refine bodyPost_ret (results_none rfl _ _ _) rfl ?_
  exact ⟨rfl, rfl⟩

set_option maxHeartbeats 400000 in
theorem mulTo_small (ny : Nat) (hny : ny < 40) : MulToAt ny := by
  intro b off N cz b1 o1 nx c1 ay c2 xs ys w xl yl hx hy hN hnn h0 h512 z1 z2 x1 x2 y1 y2 rz fz cx zx sy
  obtain ⟨zs, zl, zc⟩ := rz
  have HA : Hid (Calls Yba.prog 24 #[.slice (some ⟨b, off, none⟩) N cz, .slice (some ⟨b1, o1, none⟩) nx c1, .slice ay ny c2] w fun e w' => e = .returned (.tuple #[]) ∧ ∃ rs : List Int, rs.length = N ∧ Words rs ∧ nv rs = nv xs * nv ys ∧ Cells w' b off rs ∧ Chg (Rng b off N) w w') := by
    refine (basic_at b off N cz zs b1 o1 nx c1 xs ay ny c2 ys zl xl yl hN z1 z2 h0 hx hy w zc fz cx zx sy).mono ?_
    rintro e w' ⟨rfl, rs, r1, r2, r3, r4, r5⟩
    exact ⟨rfl, rs, r1, r2, r3, r4, r5.chg (by omega)⟩
  have hi : (ny : Int) < 40 := by omega
  clear xl yl hx hy hN hnn h0 h512 z1 z2 x1 x2 y1 y2 zl zc fz cx zx sy hny
  go_enter Yba.func19, Yba.ntmps19
  go_wp2_with fail
  refine HA.out.mono ?_
  rintro e w' ⟨rfl, K⟩
  go_wp2
  refine bodyPost_ret (results_none rfl _ _ _) rfl ?_
  exact ⟨rfl, K⟩

set_option maxHeartbeats 1600000 in
set_option maxRecDepth 100000 in
theorem mulTo_eq (n b off N cz b1 o1 c1 b2 o2 c2 : Nat) (xs ys : List Int) (w : World) (h40 : 40 ≤ n) (xl : xs.length = n) (yl : ys.length = n) (hx : Words xs) (hy : Words ys) (hN : N = 2 * n) (h512 : n ≤ 512) (z1 : N ≤ cz) (z2 : cz ≤ maxLen) (x1 : n ≤ c1) (x2 : c1 ≤ maxLen) (y1 : n ≤ c2) (y2 : c2 ≤ maxLen) (rz : Room w b off N) (fz : Free w b off N) (cx : Cells w b1 o1 xs) (zx : b1 ≠ b ∨ o1 + n ≤ off ∨ off + N ≤ o1) (cy : Cells w b2 o2 ys) (zy : b2 ≠ b ∨ o2 + n ≤ off ∨ off + N ≤ o2) :
    Calls Yba.prog 19 #[.slice (some ⟨b, off, none⟩) N cz, .slice (some ⟨b1, o1, none⟩) n c1, .slice (some ⟨b2, o2, none⟩) n c2] w fun e w' => e = .returned (.tuple #[]) ∧ ∃ rs : List Int, rs.length = N ∧ Words rs ∧ nv rs = nv xs * nv ys ∧ Cells w' b off rs ∧ Chg (Rng b off N) w w' := by
  have hmx : maxLen = 9223372036854775807 := rfl
  have hsc := scr_le n
  obtain ⟨T, hT⟩ : ∃ T, T = scr n := ⟨_, rfl⟩
  rw [← hT] at hsc
  have HK : Hid (∀ w1, Below w.heap.size w w1 → Cells w1 w.heap.size 0 (List.replicate T 0) → Free w1 w.heap.size 0 T → Calls Yba.prog 28 #[.slice (some ⟨b, off, none⟩) N cz, .slice (some ⟨b1, o1, none⟩) n c1, .slice (some ⟨b2, o2, none⟩) n c2, .slice (some ⟨w.heap.size, 0, none⟩) T T] w1 fun e w' => e = .returned (.tuple #[]) ∧ ∃ rs : List Int, rs.length = N ∧ Words rs ∧ nv rs = nv xs * nv ys ∧ Cells w' b off rs ∧ Chg (Rng b off N) w w') := by
    intro w1 bel ct ft
    have lx := cx.lt (by omega)
    have ly := cy.lt (by omega)
    have lz := rz.lt (by omega)
    have g : Chg (Rng b off N) w w1 := Chg.ofBelow bel
    subst hN
    refine (kar_at n (by omega) h512 b off (2 * n) cz b1 o1 c1 b2 o2 c2 _ w.heap.size 0 T T xs ys w1 ⟨xl, yl, hx, hy, cx.below bel lx, cy.below bel ly, fz.below bel lz, ft, zx, zy, .inl (by omega), .inl (by omega), .inl (by omega), by obtain ⟨zs, a, c⟩ := rz; exact ⟨zs, a, c.below bel lz⟩, ct.room (by simp)⟩ rfl (by omega) z1 z2 x1 x2 y1 y2 (Nat.le_refl _) (by omega) (fun _ => rfl)).mono ?_
    rintro e w' ⟨rfl, rs, r1, r2, r3, r4, r5, r6⟩
    refine ⟨rfl, rs, r1, r2, r3, r4, Chg.old ((g.mono fun k o h => .inl h).trans (r6.mono fun k o h => ?_))⟩
    unfold KarS Rng at h
    unfold Rng
    omega
  obtain ⟨i0, hi, hz0, hz1, hz2⟩ := info_parts Yba.info28
  have HN := fun w => ntt_no n n (by omega) w
  have HS : Hid (∀ w, Calls Yba.prog 27 #[.int .i64 n] w fun e w' => e = .returned (.int .i64 T) ∧ w' = w) := by rw [hT]; exact fun w => scr_at n (by omega) w
  have i1 : (40 : Int) ≤ (n : Int) := by omega
  have i2 : (T : Int) ≤ 8192 := by omega
  have i3 : (n : Int) ≤ 512 := by omega
  clear h40 xl yl hx hy hN h512 z1 z2 x1 x2 y1 y2 rz fz cx zx cy zy hsc hT
  go_enter Yba.func19, Yba.ntmps19
  go_wp2_with (go_at_call 25; refine (HN _).mono ?_; rintro e w' ⟨rfl, hw⟩; rw [hw]; clear hw w')
  refine (HS.out _).mono ?_
  rintro e w' ⟨rfl, hw⟩
  rw [hw]
  clear hw w'
  go_wp2_with (at_make; refine wpList_make_full _ rfl _ _ 24 rfl w.heap.size 28 i0 (.int .u64 0) 1 Yba.underlying24 hi hz0 hz1 _ _ _ _ T rfl rfl (by first | rfl | omega) (by first | rfl | omega) (by rw [hz2]; omega) (by unfold maxLen; omega) (Nat.le_refl _) ?_)
  intro w2 ho2 hg2
  obtain ⟨ct2, ft2, lt2⟩ := made (w := w) ho2
  have bel2 : Below w.heap.size w w2 := (Below.refl _ _).grown hg2 (Nat.le_refl _) (by simp)
  have D := hid (HK.out w2 bel2 ct2 ft2)
  clear ho2 hg2 ct2 ft2 lt2 bel2 HK HS HN
  go_wp2_with fail
  refine D.out.mono ?_
  rintro e w' ⟨rfl, K⟩
  go_wp2
  refine bodyPost_ret (results_none rfl _ _ _) rfl ?_
  exact ⟨rfl, K⟩

set_option maxHeartbeats 1600000 in
set_option maxRecDepth 100000 in
theorem mulTo_loop (n nx b off N cz b1 o1 c1 b2 o2 c2 : Nat) (xs ys : List Int) (w : World) (h40 : 40 ≤ n) (hnx : n < nx) (xl : xs.length = nx) (yl : ys.length = n) (hx : Words xs) (hy : Words ys) (hN : N = nx + n) (h512 : nx ≤ 512) (z1 : N ≤ cz) (z2 : cz ≤ maxLen) (x1 : nx ≤ c1) (x2 : c1 ≤ maxLen) (y1 : n ≤ c2) (y2 : c2 ≤ maxLen) (rz : Room w b off N) (fz : Free w b off N) (cx : Cells w b1 o1 xs) (zx : b1 ≠ b ∨ o1 + nx ≤ off ∨ off + N ≤ o1) (cy : Cells w b2 o2 ys) (zy : b2 ≠ b ∨ o2 + n ≤ off ∨ off + N ≤ o2) (ih : ∀ r, r < n → MulToAt r) :
    Calls Yba.prog 19 #[.slice (some ⟨b, off, none⟩) N cz, .slice (some ⟨b1, o1, none⟩) nx c1, .slice (some ⟨b2, o2, none⟩) n c2] w fun e w' => e = .returned (.tuple #[]) ∧ ∃ rs : List Int, rs.length = N ∧ Words rs ∧ nv rs = nv xs * nv ys ∧ Cells w' b off rs ∧ Chg (Rng b off N) w w' := by
  have hmx : maxLen = 9223372036854775807 := rfl
  have hsc := scr_le n
  obtain ⟨T, hT⟩ : ∃ T, T = scr n := ⟨_, rfl⟩
  rw [← hT] at hsc
  obtain ⟨n2, hn2⟩ : ∃ n2, n2 = 2 * n := ⟨_, rfl⟩
  have lz := rz.lt (by omega)
  have HB : Hid (∀ bp, w.heap.size < bp → MB b off N b1 o1 nx b2 o2 n w.heap.size bp xs ys w) := fun bp hbp => ⟨xl, yl, hx, hy, cx, cy, fz, zx, zy, hN, by omega, by omega, by omega, lz, Nat.le_refl _, by omega, by omega⟩
  have A1 : Hid (∀ bp, w.heap.size < bp → ∀ i w1, MSt b off N n w.heap.size bp xs ys w i w1 → i + n ≤ nx → Calls Yba.prog 28 #[.slice (some ⟨bp, 0, none⟩) n2 n2, .slice (some ⟨b1, o1 + i, none⟩) n (c1 - i), .slice (some ⟨b2, o2, none⟩) n c2, .slice (some ⟨w.heap.size, 0, none⟩) T T] w1 fun e w' => e = .returned (.tuple #[]) ∧ MStP b off N n w.heap.size bp xs ys w i n2 w') :=
    fun bp hbp i w1 s hi => mt1 (HB.out bp hbp) i s hi _ _ _ _ _ _ _ _ hn2 hn2 rfl (by omega) (by omega) (by omega) (by omega) (by omega) hT hT
  have A2 : Hid (∀ bp, w.heap.size < bp → ∀ i L cp w1, MStP b off N n w.heap.size bp xs ys w i L w1 → i < nx → i + L ≤ N → Calls Yba.prog 29 #[.slice (some ⟨b, off + i, none⟩) (N - i) (cz - i), .slice (some ⟨bp, 0, none⟩) L cp] w1 fun e w' => ∃ c, e = .returned (.int .u64 c) ∧ MSt b off N n w.heap.size bp xs ys w (i + n) w') :=
    fun bp hbp i L cp w1 s hi hL => mt2 (HB.out bp hbp) i L s hi hL _ _ _ _ rfl rfl
  have A3 : Hid (∀ bp, w.heap.size < bp → ∀ i L w1, MSt b off N n w.heap.size bp xs ys w i w1 → i < nx → nx < i + n → L = nx - i + n → Calls Yba.prog 19 #[.slice (some ⟨bp, 0, none⟩) L n2, .slice (some ⟨b2, o2, none⟩) n c2, .slice (some ⟨b1, o1 + i, none⟩) (nx - i) (c1 - i)] w1 fun e w' => e = .returned (.tuple #[]) ∧ MStP b off N n w.heap.size bp xs ys w i L w') :=
    fun bp hbp i L w1 s hi hi2 hL => mt3 (HB.out bp hbp) i s hi hi2 (ih _ (by omega)) _ _ _ _ _ _ hL hn2 rfl rfl (by omega) (by omega) (by omega) (by omega)
  have A4 : Hid (∀ w1, Below w.heap.size w w1 → Cells w1 w.heap.size 0 (List.replicate T 0) → Free w1 w.heap.size 0 T → w.heap.size < w1.heap.size → ∃ w2, (∀ ty, (Builtin.clear_ #[24] ty #[.slice (some ⟨b, off, none⟩) N cz]).run Yba.prog w1 = .ok (.tuple #[]) w2) ∧ w.heap.size < w2.heap.size ∧ Hid (∀ w3, Below w2.heap.size w2 w3 → Cells w3 w2.heap.size 0 (List.replicate n2 0) → Free w3 w2.heap.size 0 n2 → MSt b off N n w.heap.size w2.heap.size xs ys w 0 w3)) := by
    intro w1 bel ct ft hlt
    obtain ⟨zs, zl, zc⟩ := rz
    have g : Chg (fun k o => Rng b off N k o ∨ w.heap.size ≤ k) w w1 := Chg.ofBelow bel
    obtain ⟨w2, k1, k2, k3⟩ := clear_to w1 b off N cz zs zl (by omega) (zc.below bel lz) (fz.below bel lz)
    have k4 := k3.size
    refine ⟨w2, k1, by omega, ?_⟩
    intro w3 bel3 cp fp
    have g2 := k3.chg (by omega)
    have g3 : Chg (fun k o => Rng b off N k o ∨ w.heap.size ≤ k) w2 w3 := Chg.ofBelow bel3
    have ct2 := ct.chg g2 (fun o _ _ => by unfold Rng; omega)
    have ft2 := ft.chg' g2 (ct.room (by simp))
    refine ⟨List.replicate N 0, by simp, words_replicate _, by rw [nv_replicate]; simp [nv_nil], k2.below bel3 (by omega), ?_, ?_, ?_, ?_, (g.trans (g2.mono fun k o h => .inl h)).trans g3⟩
    · rw [← hT]; exact (ct2.below bel3 (by omega)).room (by simp)
    · rw [← hT]; exact ft2.below bel3 (by omega)
    · rw [← hn2]; exact cp.room (by simp)
    · rw [← hn2]; exact fp
  have A5 : Hid (∀ bp i w1, nx ≤ i → MSt b off N n w.heap.size bp xs ys w i w1 → ∃ rs : List Int, rs.length = N ∧ Words rs ∧ nv rs = nv xs * nv ys ∧ Cells w1 b off rs ∧ Chg (Rng b off N) w w1) := by
    rintro bp i w1 hi ⟨zs, zl, wz, vz, cz, -, -, -, -, chg⟩
    rw [List.take_of_length_le (by omega)] at vz
    exact ⟨zs, zl, wz, vz, cz, chg.old⟩
  obtain ⟨i0, hi, hz0, hz1, hz2⟩ := info_parts Yba.info28
  have HN := fun w => ntt_no nx n (by omega) w
  have HS : Hid (∀ w, Calls Yba.prog 27 #[.int .i64 n] w fun e w' => e = .returned (.int .i64 T) ∧ w' = w) := by rw [hT]; exact fun w => scr_at n (by omega) w
  have i1 : (40 : Int) ≤ (n : Int) := by omega
  have i2 : (T : Int) ≤ 8192 := by omega
  have i3 : (nx : Int) ≤ 512 := by omega
  have i4 : (n : Int) < (nx : Int) := by omega
  have i5 : ¬ (nx : Int) = (n : Int) := by omega
  have i6 : 2 * (n : Int) = (n2 : Int) := by omega
  have i7 : (n2 : Int) ≤ 1024 := by omega
  have i8 : (N : Int) = (nx : Int) + (n : Int) := by omega
  have i9 : (N : Int) ≤ (cz : Int) := by omega
  have i10 : (nx : Int) ≤ (c1 : Int) := by omega
  have HE : Hid (n2 = 2 * n ∧ N = nx + n ∧ N ≤ cz ∧ nx ≤ c1) := ⟨hn2, hN, z1, x1⟩
  clear h40 hnx xl yl hx hy hN h512 z1 z2 x1 x2 y1 y2 rz fz cx zx cy zy hsc hT ih hn2 HB lz
  go_enter Yba.func19, Yba.ntmps19
  go_wp2_with (go_at_call 25; refine (HN _).mono ?_; rintro e w' ⟨rfl, hw⟩; rw [hw]; clear hw w')
  refine (HS.out _).mono ?_
  rintro e w' ⟨rfl, hw⟩
  rw [hw]
  clear hw w'
  go_wp2_with (at_make; refine wpList_make_full _ rfl _ _ 24 rfl w.heap.size 28 i0 (.int .u64 0) 1 Yba.underlying24 hi hz0 hz1 _ _ _ _ T rfl rfl (by first | rfl | omega) (by first | rfl | omega) (by rw [hz2]; omega) (by unfold maxLen; omega) (Nat.le_refl _) ?_)
  intro w2 ho2 hg2
  obtain ⟨ct2, ft2, lt2⟩ := made (w := w) ho2
  have bel2 : Below w.heap.size w w2 := (Below.refl _ _).grown hg2 (Nat.le_refl _) (by simp)
  obtain ⟨w3, hcl, lt3, R3⟩ := A4.out w2 bel2 ct2 ft2 lt2
  have L3 := hid lt3
  clear ho2 hg2 ct2 ft2 lt2 bel2 HS HN lt3 A4
  go_wp2_with (at_make; refine wpList_make_full _ rfl _ _ 24 rfl w3.heap.size 28 i0 (.int .u64 0) 1 Yba.underlying24 hi hz0 hz1 _ _ _ _ n2 rfl rfl (by first | rfl | omega) (by first | rfl | omega) (by rw [hz2]; omega) (by unfold maxLen; omega) (Nat.le_refl _) ?_)
  intro w4 ho4 hg4
  obtain ⟨ct4, ft4, lt4⟩ := made (w := w3) ho4
  have bel4 : Below w3.heap.size w3 w4 := (Below.refl _ _).grown hg4 (Nat.le_refl _) (by simp)
  have S0 := hid (R3.out w4 bel4 ct4 ft4)
  have LW := hid lt4
  obtain ⟨bp, hbp⟩ : ∃ bp, bp = w3.heap.size := ⟨_, rfl⟩
  rw [← hbp] at S0 L3 ⊢
  clear ho4 hg4 ct4 ft4 lt4 bel4 R3 hcl hbp LW
  go_wp2
  go_loopw [8, 9] (fun pv iv wr => ∃ i : Nat, i ≤ nx + n ∧ iv = .int .i64 i ∧ (i < nx → pv = .slice (some ⟨bp, 0, none⟩) n2 n2) ∧ Hid (MSt b off N n w.heap.size bp xs ys w i wr)) (fun _ iv _ => nx + n - (intOf iv).toNat)
  case atStart => exact ⟨0, Nat.zero_le _, rfl, fun _ => rfl, S0.out⟩
  case round =>
    obtain ⟨i, hi1, rfl, hpv, hr⟩ := hrel
    by_cases hlt : i < nx
    · obtain rfl := hpv hlt
      clear hpv
      by_cases hle : i + n ≤ nx
      · have D1 := hid (A1.out bp L3.out i wr hr.out hle)
        have D2 : Hid (∀ w5, MStP b off N n w.heap.size bp xs ys w i n2 w5 → Calls Yba.prog 29 #[.slice (some ⟨b, off + i, none⟩) (N - i) (cz - i), .slice (some ⟨bp, 0, none⟩) n2 n2] w5 fun e w' => ∃ c, e = .returned (.int .u64 c) ∧ MSt b off N n w.heap.size bp xs ys w (i + n) w') := fun w5 s => A2.out bp L3.out i n2 n2 w5 s hlt (by have := HE.out; omega)
        have j1 : (0 : Int) ≤ (i : Int) := by omega
        have j2 : (i : Int) < (nx : Int) := by omega
        have j3 : (i : Int) + (n : Int) ≤ (nx : Int) := by omega
        have j4 : (i : Int) + (n : Int) ≤ (c1 : Int) := by omega
        have j5 : (i : Int) ≤ (N : Int) := by omega
        have q1 : ¬ c1 = i := by omega
        have q2 : ¬ cz = i := by omega
        clear A1 A2 A3 hr hle
        go_wp2_with fail
        refine D1.out.mono ?_
        rintro e w5 ⟨rfl, S5⟩
        go_wp2_with fail
        refine (D2.out _ S5).mono ?_
        rintro e w6 ⟨cc, rfl, S6⟩
        go_wp2
        exact ⟨⟨i + n, by omega, by go_num, fun _ => rfl, S6⟩, by simp [intOf]; omega⟩
      · obtain ⟨L, hL⟩ : ∃ L, L = nx - i + n := ⟨_, rfl⟩
        have D3 := hid (A3.out bp L3.out i L wr hr.out hlt (by omega) hL)
        have D2 : Hid (∀ w5, MStP b off N n w.heap.size bp xs ys w i L w5 → Calls Yba.prog 29 #[.slice (some ⟨b, off + i, none⟩) (N - i) (cz - i), .slice (some ⟨bp, 0, none⟩) L n2] w5 fun e w' => ∃ c, e = .returned (.int .u64 c) ∧ MSt b off N n w.heap.size bp xs ys w (i + n) w') := fun w5 s => A2.out bp L3.out i L n2 w5 s hlt (by have := HE.out; omega)
        have j1 : (0 : Int) ≤ (i : Int) := by omega
        have j2 : (i : Int) < (nx : Int) := by omega
        have j3 : (nx : Int) < (i : Int) + (n : Int) := by omega
        have j4 : (nx : Int) - (i : Int) + (n : Int) = (L : Int) := by omega
        have j5 : (i : Int) ≤ (N : Int) := by omega
        have j6 : (L : Int) ≤ (n2 : Int) := by omega
        have q1 : ¬ c1 = i := by omega
        have q2 : ¬ cz = i := by omega
        clear A1 A2 A3 hr hle hL
        go_wp2_with fail
        refine D3.out.mono ?_
        rintro e w5 ⟨rfl, S5⟩
        go_wp2_with fail
        refine (D2.out _ S5).mono ?_
        rintro e w6 ⟨cc, rfl, S6⟩
        go_wp2
        exact ⟨⟨i + n, by omega, by go_num, fun h => absurd h (by omega), S6⟩, by simp [intOf]; omega⟩
    · clear hpv
      have D5 := hid (A5.out bp i wr (by omega) hr.out)
      have j1 : (nx : Int) ≤ (i : Int) := by omega
      clear A1 A2 A3 A5 hlt
      go_wp2
      go_end0
      exact ⟨rfl, D5.out⟩

theorem mulTo_at (ny : Nat) : MulToAt ny := by
  induction ny using Nat.strongRecOn with
  | _ n ih =>
    by_cases h40 : n < 40
    · exact mulTo_small n h40
    · intro b off N cz b1 o1 nx c1 ay c2 xs ys w xl yl hx hy hN hnn h0 h512 z1 z2 x1 x2 y1 y2 rz fz cx zx sy
      rcases sy with he | ⟨b2, o2, rfl, cy, zy⟩
      · rw [he] at yl
        simp at yl
        omega
      · rw [yl] at zy
        by_cases e : nx = n
        · subst e
          exact mulTo_eq nx b off N cz b1 o1 c1 b2 o2 c2 xs ys w (by omega) xl yl hx hy (by omega) h512 z1 z2 x1 x2 y1 y2 rz fz cx zx cy zy
        · exact mulTo_loop n nx b off N cz b1 o1 c1 b2 o2 c2 xs ys w (by omega) (by omega) xl yl hx hy hN h512 z1 z2 x1 x2 y1 y2 rz fz cx zx cy zy ih
end Go.Proofs.Ybulkcmly
