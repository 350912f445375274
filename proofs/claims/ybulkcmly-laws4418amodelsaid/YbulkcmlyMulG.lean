/-
  mul.
-/
import Derived.Test.YbulkcmlyMulF
namespace Go.Proofs.Ybulkcmly
open Go.RowKit
set_option linter.unusedVariables false

theorem nv_inj : ∀ (a b : List Int), Words a → Words b → a.length = b.length → nv a = nv b → a = b
  | [], [], _, _, _, _ => rfl
  | [], _ :: _, _, _, h, _ => by simp at h
  | _ :: _, [], _, _, h, _ => by simp at h
  | x :: a, y :: b, ha, hb, hl, hv => by
    have h1 := words_mem.1 ha x (by simp)
    have h2 := words_mem.1 hb y (by simp)
    rw [nv_cons, nv_cons] at hv
    have e1 : x = y := by omega
    have e2 : nv a = nv b := by omega
    have := nv_inj a b (ha.drop 1) (hb.drop 1) (by simpa using hl) e2
    rw [e1, this]

/-- Two numbers of the same value have the same words, once the zeros on top are off. -/
theorem nrm_eq {a b : List Int} (ha : Words a) (hb : Words b) (hv : nv a = nv b) : nrm a = nrm b ∧ a.take (nrm a) = b.take (nrm b) := by
  have e : nrm a = nrm b := by
    by_cases h1 : nrm a < nrm b
    · have := nv_lt_of_nrm ha hb h1; omega
    by_cases h2 : nrm b < nrm a
    · have := nv_lt_of_nrm hb ha h2; omega
    omega
  refine ⟨e, nv_inj _ _ (ha.take _) (hb.take _) ?_ ?_⟩
  · have := nrm_le a
    have := nrm_le b
    rw [List.length_take, List.length_take]
    omega
  · rw [← nv_nrm, ← nv_nrm, hv]

theorem At.take {w : World} {ao : Option Addr} {xs : List Int} (h : At w ao xs) (k : Nat) : At w ao (xs.take k) := by
  rcases h with rfl | ⟨b, o, rfl, hc⟩
  · exact .inl (by simp)
  · exact .inr ⟨b, o, rfl, hc.take k⟩

theorem mul_core (a1 a2 : Option Addr) (p c1 q c2 N : Nat) (xs ys : List Int) (w w2 : World) (xl : xs.length = p) (yl : ys.length = q) (hx : Words xs) (hy : Words ys) (hqp : q ≤ p) (hp : p ≤ 512) (x1 : p ≤ c1) (x2 : c1 ≤ maxLen) (y1 : q ≤ c2) (y2 : c2 ≤ maxLen) (s1 : At w a1 xs) (s2 : At w a2 ys) (hN : N = p + q)
    (bel : Below w.heap.size w w2) (cz : Cells w2 w.heap.size 0 (List.replicate N 0)) (fz : Free w2 w.heap.size 0 N) :
    Calls Yba.prog 19 #[.slice (some ⟨w.heap.size, 0, none⟩) N N, .slice a1 p c1, .slice a2 q c2] w2 fun e w' => e = .returned (.tuple #[]) ∧ ∃ rs : List Int, rs.length = N ∧ Words rs ∧ nv rs = nv xs * nv ys ∧ Cells w' w.heap.size 0 rs ∧ Below w.heap.size w w' := by
  by_cases h0 : 0 < p
  · rcases s1 with he | ⟨b1, o1, rfl, k1⟩
    · rw [he] at xl; simp at xl; omega
    have l1 := k1.lt (by omega)
    have sy : Src w2 a2 ys w.heap.size 0 N := by
      rcases s2 with he | ⟨b2, o2, rfl, k2⟩
      · exact .inl he
      · by_cases hq : 0 < q
        · have l2 := k2.lt (by omega)
          exact .inr ⟨b2, o2, rfl, k2.below bel l2, .inl (by omega)⟩
        · exact .inl (List.eq_nil_of_length_eq_zero (by omega))
    have hmx : maxLen = 9223372036854775807 := rfl
    refine (mulTo_at q w.heap.size 0 N N b1 o1 p c1 a2 c2 xs ys w2 xl yl hx hy hN hqp h0 hp (Nat.le_refl _) (by omega) x1 x2 y1 y2 (cz.room (by simp)) fz (k1.below bel l1) (.inl (by omega)) sy).mono ?_
    rintro e w' ⟨rfl, rs, r1, r2, r3, r4, r5⟩
    refine ⟨rfl, rs, r1, r2, r3, r4, bel.trans (r5.below (fun k o h => by unfold Rng at h; omega) bel.size)⟩
  · obtain rfl : p = 0 := by omega
    obtain rfl : q = 0 := by omega
    obtain rfl : N = 0 := by omega
    refine (mulTo_nil _ _ _ _ _ _ w2).mono ?_
    rintro e w' ⟨rfl, rfl⟩
    rw [List.eq_nil_of_length_eq_zero xl]
    exact ⟨rfl, [], rfl, words_nil, by simp [nv_nil], fun i hi => by simp at hi, bel⟩

set_option maxHeartbeats 1600000 in
set_option maxRecDepth 100000 in
theorem mul_walk (a1 a2 : Option Addr) (nx c1 ny c2 : Nat) (xs ys : List Int) (hnx : nx ≤ 512) (hny : ny ≤ 512) (xl : xs.length = nx) (yl : ys.length = ny) (x1 : nx ≤ c1) (x2 : c1 ≤ maxLen) (y1 : ny ≤ c2) (y2 : c2 ≤ maxLen) (hx : Words xs) (hy : Words ys) (w : World) (s1 : At w a1 xs) (s2 : At w a2 ys) :
    Calls Yba.prog 9 #[.slice a1 nx c1, .slice a2 ny c2] w fun e w' => ∃ rs : List Int, Words rs ∧ nv rs = nv xs * nv ys ∧ e = .returned (.slice (some ⟨w.heap.size, 0, none⟩) (nrm rs) rs.length) ∧ Cells w' w.heap.size 0 rs ∧ Below w.heap.size w w' := by
  have N1 := hid (norm_src a1 nx c1 xs xl x1 x2 w s1)
  have N2 := hid (norm_src a2 ny c2 ys yl y1 y2 w s2)
  obtain ⟨p, hp⟩ : ∃ p, p = nrm xs := ⟨_, rfl⟩
  obtain ⟨q, hq⟩ : ∃ q, q = nrm ys := ⟨_, rfl⟩
  have lp := nrm_le xs
  have lq := nrm_le ys
  have vx := nv_nrm xs
  have vy := nv_nrm ys
  rw [← hp] at N1 lp vx
  rw [← hq] at N2 lq vy
  have ep : (xs.take p).length = p := by rw [List.length_take]; omega
  have eq : (ys.take q).length = q := by rw [List.length_take]; omega
  have t1 := s1.take p
  have t2 := s2.take q
  have hmx : maxLen = 9223372036854775807 := rfl
  obtain ⟨N, hN⟩ : ∃ N, N = p + q := ⟨_, rfl⟩
  have FN : Hid (∀ w', ∀ rs : List Int, rs.length = N → Words rs → nv rs = nv xs * nv ys → Cells w' w.heap.size 0 rs → Calls Yba.prog 18 #[.slice (some ⟨w.heap.size, 0, none⟩) N N] w' fun e w'' => e = .returned (.slice (some ⟨w.heap.size, 0, none⟩) (nrm rs) rs.length) ∧ w'' = w') :=
    fun w' rs r1 r2 r3 r4 => by rw [r1]; exact norm_at w.heap.size 0 N N rs r1 (Nat.le_refl _) (by omega) w' r4
  obtain ⟨i0, hi, hz0, hz1, hz2⟩ := info_parts Yba.info28
  have j1 : (p : Int) + (q : Int) = (N : Int) := by omega
  have j2 : (p : Int) ≤ 512 := by omega
  have j3 : (q : Int) ≤ 512 := by omega
  have j4 : (N : Int) ≤ 1024 := by omega
  by_cases hpq : p < q
  · have HC : Hid (∀ w2, Below w.heap.size w w2 → Cells w2 w.heap.size 0 (List.replicate N 0) → Free w2 w.heap.size 0 N → Calls Yba.prog 19 #[.slice (some ⟨w.heap.size, 0, none⟩) N N, .slice a2 q c2, .slice a1 p c1] w2 fun e w' => e = .returned (.tuple #[]) ∧ ∃ rs : List Int, rs.length = N ∧ Words rs ∧ nv rs = nv xs * nv ys ∧ Cells w' w.heap.size 0 rs ∧ Below w.heap.size w w') := by
      intro w2 bel cz fz
      rw [vx, vy, Int.mul_comm]
      exact mul_core a2 a1 q c2 p c1 N (ys.take q) (xs.take p) w w2 eq ep (hy.take _) (hx.take _) (by omega) (by omega) (by omega) y2 (by omega) x2 t2 t1 (by omega) bel cz fz
    have j5 : (p : Int) < (q : Int) := by omega
    have j6 : (q : Int) + (p : Int) = (N : Int) := by omega
    clear hnx hny xl yl x1 x2 y1 y2 hx hy s1 s2 lp lq vx vy ep eq t1 t2 hmx hN hp hq hpq
    go_enter Yba.func9, Yba.ntmps9
    go_wp2_with fail
    refine N1.out.mono ?_
    rintro e w' ⟨rfl, hw⟩
    rw [hw]
    clear hw w'
    go_wp2_with fail
    refine N2.out.mono ?_
    rintro e w' ⟨rfl, hw⟩
    rw [hw]
    clear hw w'
    go_wp2_with (at_make; refine wpList_make_full _ rfl _ _ 24 rfl w.heap.size 28 i0 (.int .u64 0) 1 Yba.underlying24 hi hz0 hz1 _ _ _ _ N rfl rfl (by first | rfl | omega) (by first | rfl | omega) (by rw [hz2]; omega) (by unfold maxLen; omega) (Nat.le_refl _) ?_)
    intro w2 ho2 hg2
    obtain ⟨ct2, ft2, lt2⟩ := made (w := w) ho2
    have bel2 : Below w.heap.size w w2 := (Below.refl _ _).grown hg2 (Nat.le_refl _) (by simp)
    have D := hid (HC.out w2 bel2 ct2 ft2)
    clear ho2 hg2 ct2 ft2 lt2 bel2 HC N1 N2
    go_wp2_with fail
    refine D.out.mono ?_
    rintro e w3 ⟨rfl, rs, r1, r2, r3, r4, r5⟩
    have E := hid (FN.out w3 rs r1 r2 r3 r4)
    have R := hid (And.intro r2 (And.intro r3 (And.intro r4 r5)))
    clear r1 r2 r3 r4 r5 FN D
    go_wp2_with fail
    refine E.out.mono ?_
    rintro e w' ⟨rfl, hw⟩
    rw [hw]
    clear hw w'
    go_wp2
    go_ret
    exact ⟨rs, R.out.1, R.out.2.1, rfl, R.out.2.2.1, R.out.2.2.2⟩
  · have HC : Hid (∀ w2, Below w.heap.size w w2 → Cells w2 w.heap.size 0 (List.replicate N 0) → Free w2 w.heap.size 0 N → Calls Yba.prog 19 #[.slice (some ⟨w.heap.size, 0, none⟩) N N, .slice a1 p c1, .slice a2 q c2] w2 fun e w' => e = .returned (.tuple #[]) ∧ ∃ rs : List Int, rs.length = N ∧ Words rs ∧ nv rs = nv xs * nv ys ∧ Cells w' w.heap.size 0 rs ∧ Below w.heap.size w w') := by
      intro w2 bel cz fz
      rw [vx, vy]
      exact mul_core a1 a2 p c1 q c2 N (xs.take p) (ys.take q) w w2 ep eq (hx.take _) (hy.take _) (by omega) (by omega) (by omega) x2 (by omega) y2 t1 t2 (by omega) bel cz fz
    have j5 : (q : Int) ≤ (p : Int) := by omega
    clear hnx hny xl yl x1 x2 y1 y2 hx hy s1 s2 lp lq vx vy ep eq t1 t2 hmx hN hp hq hpq
    go_enter Yba.func9, Yba.ntmps9
    go_wp2_with fail
    refine N1.out.mono ?_
    rintro e w' ⟨rfl, hw⟩
    rw [hw]
    clear hw w'
    go_wp2_with fail
    refine N2.out.mono ?_
    rintro e w' ⟨rfl, hw⟩
    rw [hw]
    clear hw w'
    go_wp2_with (at_make; refine wpList_make_full _ rfl _ _ 24 rfl w.heap.size 28 i0 (.int .u64 0) 1 Yba.underlying24 hi hz0 hz1 _ _ _ _ N rfl rfl (by first | rfl | omega) (by first | rfl | omega) (by rw [hz2]; omega) (by unfold maxLen; omega) (Nat.le_refl _) ?_)
    intro w2 ho2 hg2
    obtain ⟨ct2, ft2, lt2⟩ := made (w := w) ho2
    have bel2 : Below w.heap.size w w2 := (Below.refl _ _).grown hg2 (Nat.le_refl _) (by simp)
    have D := hid (HC.out w2 bel2 ct2 ft2)
    clear ho2 hg2 ct2 ft2 lt2 bel2 HC N1 N2
    go_wp2_with fail
    refine D.out.mono ?_
    rintro e w3 ⟨rfl, rs, r1, r2, r3, r4, r5⟩
    have E := hid (FN.out w3 rs r1 r2 r3 r4)
    have R := hid (And.intro r2 (And.intro r3 (And.intro r4 r5)))
    clear r1 r2 r3 r4 r5 FN D
    go_wp2_with fail
    refine E.out.mono ?_
    rintro e w' ⟨rfl, hw⟩
    rw [hw]
    clear hw w'
    go_wp2
    go_ret
    exact ⟨rs, R.out.1, R.out.2.1, rfl, R.out.2.2.1, R.out.2.2.2⟩
end Go.Proofs.Ybulkcmly
