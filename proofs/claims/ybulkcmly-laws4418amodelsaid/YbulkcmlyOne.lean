/-
  The walk of LawS4418BOneWord.
-/
import Derived.Test.YbulkcmlyAbs2
namespace Go.Proofs.Ybulkcmly
open Go.RowKit
set_option linter.unusedVariables false

theorem Yba.info28 : (Yba.prog.info? 28).map (fun i => (i.zero, i.size, i.bytes)) = some (some (.int .u64 0), 1, 8) := by kernel_rfl

/-- What 'make' leaves. -/
theorem made {w w' : World} {base g n : Nat} (ho : w'.ownsRow base 28 1 (.slice (some ⟨g, 0, none⟩) n n) n (madeCells #[Value.int .u64 0] n).toList) : Cells w' g 0 (List.replicate n 0) ∧ Free w' g 0 n ∧ g < w'.heap.size := by
  refine ⟨fun i hi => ?_, fun i hi => ho.frozenAt _, (ho.lt _ rfl).2⟩
  rw [List.length_replicate] at hi
  rw [Nat.zero_add, ho.cellAt i (by omega)]
  rw [toList_madeCells_one, List.getElem?_replicate, if_pos hi]
  congr 2
  unfold wd
  rw [List.getD_eq_getElem?_getD, List.getElem?_replicate, if_pos hi]
  rfl

theorem Cells.set {w : World} {b off k : Nat} {zs : List Int} (h : Cells w b off zs) (hk : k < zs.length) (r : Int) : Cells (w.setCell ⟨b, off + k, none⟩ (.int .u64 r)) b off (zs.set k r) := by
  intro i hi
  rw [List.length_set] at hi
  by_cases e : k = i
  · subst e
    rw [World.cell?_setCell_same _ _ _ (h k hi)]
    congr 2
    unfold wd
    rw [List.getD_eq_getElem?_getD, List.getElem?_set_self hi]
    rfl
  · rw [World.cell?_setCell_other _ _ _ _ (by intro e2; injection e2 with _ e3; omega), h i hi]
    congr 2
    unfold wd
    rw [List.getD_eq_getElem?_getD, List.getD_eq_getElem?_getD, List.getElem?_set_ne e]

theorem set_zero (x : Int) (n : Nat) (h : 1 ≤ n) : (List.replicate n (0 : Int)).set 0 x = x :: List.replicate (n - 1) 0 := by
  obtain ⟨k, rfl⟩ : ∃ k, n = k + 1 := ⟨n - 1, by omega⟩
  simp [List.replicate_succ]
theorem Cells.other {w : World} {b b' off : Nat} {zs : List Int} (h : Cells w b off zs) (hne : b ≠ b') (o : Nat) (v : Value) : Cells (w.setCell ⟨b', o, none⟩ v) b off zs :=
  h.kept ((Wr.refl b' o 1 w).setCell (Nat.le_refl _) (by omega) v) (.inl hne)
theorem Cells.head {w : World} {b n : Nat} (h : Cells w b 0 (List.replicate n 0)) (hn : 1 ≤ n) (x : Int) : Cells (w.setCell ⟨b, 0, none⟩ (.int .u64 x)) b 0 (x :: List.replicate (n - 1) 0) := by
  have := h.set (k := 0) (by rw [List.length_replicate]; omega) x
  rw [set_zero x n hn] at this
  exact this

/-- A number of one word. -/
theorem one_word {rs : List Int} {d : Int} (hw : Words rs) (hd : nv rs = d) (h0 : 0 ≤ d) (h1 : d < 18446744073709551616) : wd rs 0 = d ∧ ∀ i, 1 ≤ i → wd rs i = 0 := by
  match rs with
  | [] => 
    rw [nv_nil] at hd
    exact ⟨by rw [← hd]; rfl, fun i hi => wd_end _ _ (by simp)⟩
  | x :: xs =>
    rw [nv_cons] at hd
    have hx := hw 0
    have e0 : wd (x :: xs) 0 = x := rfl
    rw [e0] at hx
    have hxs : Words xs := words_mem.2 fun y hy => words_mem.1 hw y (by simp [hy])
    have hb := nv_bound hxs
    have hz : nv xs = 0 := by omega
    refine ⟨by rw [e0]; omega, fun i hi => ?_⟩
    have all0 : ∀ (l : List Int), Words l → nv l = 0 → ∀ j, wd l j = 0 := by
      intro l
      induction l with
      | nil => intro _ _ j; exact wd_end _ _ (by simp)
      | cons y ys ih =>
        intro hwl hl j
        rw [nv_cons] at hl
        have hy := hwl 0
        have ey : wd (y :: ys) 0 = y := rfl
        rw [ey] at hy
        have hys : Words ys := words_mem.2 fun z hz => words_mem.1 hwl z (by simp [hz])
        have hb2 := nv_bound hys
        match j with
        | 0 => rw [ey]; omega
        | j + 1 => exact ih hys (by omega) j
    match i, hi with
    | i + 1, _ => exact all0 xs hxs hz i

theorem nv_one (x : Int) (k : Nat) : nv (x :: List.replicate k 0) = x := by rw [nv_cons, nv_zeros]; omega
theorem words_one_pad {x : Int} (h : 0 ≤ x ∧ x < 18446744073709551616) (k : Nat) : Words (x :: List.replicate k 0) := (words_one h).append (words_zeros k)

set_option maxHeartbeats 1600000 in
set_option maxRecDepth 100000 in
theorem one_lt_a (x y a2 a3 a4 : Int) (la lb n : Nat) (hx : 0 ≤ x ∧ x < 18446744073709551616) (hy : 0 ≤ y ∧ y < 18446744073709551616) (b2 : 0 ≤ a2) (c2 : a2 ≤ 255) (b3 : 0 ≤ a3) (c3 : a3 ≤ 255) (b4 : 0 ≤ a4) (c4 : a4 ≤ 255)
    (ela : (1 : Int) + a2 % 4 = la) (elb : (1 : Int) + a3 % 4 = lb) (hlb : (lb : Int) ≤ la) (en : (la : Int) + a4 % 3 = n) (hxy : x < y) (w : World) :
    Calls Yba.prog 6 #[.int .u64 x, .int .u64 y, .int .u8 a2, .int .u8 a3, .int .u8 a4] w fun e w' => e = .returned (.bool true) ∧ Below w.heap.size w w' := by
  obtain ⟨i0, hi, hz0, hz1, hz2⟩ := info_parts Yba.info28
  have la4 : 1 ≤ la ∧ la ≤ 4 := by omega
  have lb4 : 1 ≤ lb ∧ lb ≤ 4 := by omega
  have n6 : la ≤ n ∧ lb ≤ n ∧ n ≤ 6 := by omega
  have la0 : (0 : Int) < la := by omega
  have lb0 : (0 : Int) < lb := by omega
  have n0 : (0 : Int) < n := by omega
  skip
  go_enter Yba.func6, Yba.ntmps6
  go_wp2_with (at_make; refine wpList_make_full _ rfl _ _ 24 rfl w.heap.size 28 i0 (.int .u64 0) 1 Yba.underlying24 hi hz0 hz1 _ _ _ _ la rfl rfl ?pa ?pb ?pc ?pd ?pe ?_)
  case pa => first | rfl | omega
  case pb => first | rfl | omega
  case pc => rw [hz2]; omega
  case pd => unfold maxLen; omega
  case pe => simp
  intro w1 ho1 hg1
  obtain ⟨ca1, fa1, la1⟩ := made (w := w) ho1
  have bel1 : Below w.heap.size w w1 := (Below.refl _ _).grown hg1 (Nat.le_refl _) (by simp)
  have CA1 := hid ca1
  have FA1 := hid fa1
  clear ho1 hg1 ca1 fa1
  go_wp2_with (at_make; refine wpList_make_full _ rfl _ _ 24 rfl w1.heap.size 28 i0 (.int .u64 0) 1 Yba.underlying24 hi hz0 hz1 _ _ _ _ lb rfl rfl ?qa ?qb ?qc ?qd ?qe ?_)
  case qa => first | rfl | omega
  case qb => first | rfl | omega
  case qc => rw [hz2]; omega
  case qd => unfold maxLen; omega
  case qe => simp
  intro w2 ho2 hg2
  obtain ⟨cb2, fb2, lb2⟩ := made (w := w1) ho2
  have bel2 : Below w1.heap.size w1 w2 := (Below.refl _ _).grown hg2 (Nat.le_refl _) (by simp)
  have kA : w2.cell? ⟨w.heap.size, 0, none⟩ = some (.int .u64 (wd (List.replicate la 0) 0)) := by have := (CA1.out.below bel2 la1) 0 (by simp; omega); simpa using this
  have fA : w2.frozen? ⟨w.heap.size, 0, none⟩ = false := by have := (FA1.out.below bel2 la1) 0 (by omega); simpa using this
  have kB : w2.cell? ⟨w1.heap.size, 0, none⟩ = some (.int .u64 (wd (List.replicate lb 0) 0)) := by have := cb2 0 (by simp; omega); simpa using this
  have fB : w2.frozen? ⟨w1.heap.size, 0, none⟩ = false := by have := fb2 0 (by omega); simpa using this
  have CB2 := hid cb2
  have BEL2 := hid (bel1.trans (bel2.mono (Nat.le_of_lt la1)))
  have CA2 := hid (CA1.out.below bel2 la1)
  clear ho2 hg2 cb2 fb2 bel1 bel2 CA1 FA1
  go_wp2_with (at_make; refine wpList_make_full _ rfl _ _ 24 rfl w2.heap.size 28 i0 (.int .u64 0) 1 Yba.underlying24 hi hz0 hz1 _ _ _ _ n rfl rfl ?ra ?rb ?rc ?rd ?re ?_)
  case ra => first | rfl | omega
  case rb => first | rfl | omega
  case rc => rw [hz2]; omega
  case rd => unfold maxLen; omega
  case re => simp
  intro w3 ho3 hg3
  obtain ⟨cz3, fz3, lz3⟩ := made (w := w2) ho3
  have ne : w.heap.size ≠ w1.heap.size := by omega
  have bel3 : Below w2.heap.size ((w2.setCell ⟨w.heap.size, 0, none⟩ (.int .u64 x)).setCell ⟨w1.heap.size, 0, none⟩ (.int .u64 y)) w3 := (Below.refl _ _).grown hg3 (by simp) (by simp)
  have CA3 : Hid (Cells w3 w.heap.size 0 (x :: List.replicate (la - 1) 0)) := ((CA2.out.head la4.1 x).other ne 0 _).below bel3 (by omega)
  have CB3 : Hid (Cells w3 w1.heap.size 0 (y :: List.replicate (lb - 1) 0)) := ((CB2.out.other ne.symm 0 _).head lb4.1 y).below bel3 lb2
  have BEL3 : Hid (Below w.heap.size w w3) := ((BEL2.out.setCell (Nat.le_refl _) _).setCell (Nat.le_of_lt la1) _).trans (bel3.mono (by omega))
  have CZ3 := hid cz3
  have FZ3 := hid fz3
  clear ho3 hg3 cz3 fz3 bel3 CA2 CB2 BEL2 kA fA kB fB
  go_wp2
  go_loopw [17] (fun i wr => ∃ (k : Nat) (zs : List Int), k ≤ n ∧ i = .int .i64 k ∧ Hid (zs.length = n ∧ Cells wr w2.heap.size 0 zs ∧ Wr w2.heap.size 0 n w3 wr)) (fun i _ => n - (intOf i).toNat)
  case atStart => exact ⟨0, _, Nat.zero_le _, rfl, List.length_replicate, CZ3.out, Wr.refl _ _ _ _⟩
  case round =>
    obtain ⟨k, zs, hk, rfl, hr⟩ := hrel
    by_cases hlt : k < n
    · obtain ⟨hl, hc, hw⟩ := hr.out
      have kz : wr.cell? ⟨w2.heap.size, k, none⟩ = some (.int .u64 (wd zs k)) := by have := hc k (by omega); rwa [Nat.zero_add] at this
      have kf : wr.frozen? ⟨w2.heap.size, k, none⟩ = false := by rw [hw.frozen]; have := FZ3.out k hlt; rwa [Nat.zero_add] at this
      have R : Hid (∀ V, (zs.set k V).length = n ∧ Cells (wr.setCell ⟨w2.heap.size, k, none⟩ (.int .u64 V)) w2.heap.size 0 (zs.set k V) ∧ Wr w2.heap.size 0 n w3 (wr.setCell ⟨w2.heap.size, k, none⟩ (.int .u64 V))) := fun V => by
        have := hc.set (k := k) (by omega) V
        rw [Nat.zero_add] at this
        exact ⟨by rw [List.length_set]; exact hl, this, hw.setCell (Nat.zero_le _) (by omega) _⟩
      clear hl hc hw hr
      go_wp2
      go_roundw
      case rel => exact ⟨k + 1, _, by omega, by go_num, R.out _⟩
      case measure => simp [intOf]; omega
    · obtain rfl : n = k := by omega
      clear hlt
      go_wp2_with fail
      obtain ⟨hl, hc, hw⟩ := hr.out
      refine (absDiff_lt w2.heap.size 0 n n zs (some ⟨w.heap.size, 0, none⟩) la la (x :: List.replicate (la - 1) 0) (some ⟨w1.heap.size, 0, none⟩) lb lb (y :: List.replicate (lb - 1) 0) hl (by simp; omega) (by simp; omega) n6.1 n6.2.1 (Nat.le_refl _) (by unfold maxLen; omega) (Nat.le_refl _) (by unfold maxLen; omega) (Nat.le_refl _) (by unfold maxLen; omega)
        (words_one_pad hx _) (words_one_pad hy _) wr hc (fun i hi => by rw [hw.frozen]; exact FZ3.out i hi) (.inr ⟨_, _, rfl, CA3.out.kept hw (.inl (by omega)), .inl (by omega)⟩) (.inr ⟨_, _, rfl, CB3.out.kept hw (.inl (by omega)), .inl (by omega)⟩) (by rw [nv_one, nv_one]; omega)).mono ?_
      rintro e w5 ⟨rfl, rs, h1, h2, h3, h4, h5⟩
      rw [nv_one, nv_one] at h3
      obtain ⟨q0, q1⟩ := one_word h2 h3 (by omega) (by omega)
      have kz0 : w5.cell? ⟨w2.heap.size, 0, none⟩ = some (.int .u64 (y - x)) := by have := h4 0 (by omega); rwa [q0] at this
      have KZ : Hid (∀ k, 1 ≤ k → k < n → w5.cell? ⟨w2.heap.size, k, none⟩ = some (.int .u64 0)) := fun k hk1 hk2 => by have := h4 k (by omega); rwa [q1 k hk1, Nat.zero_add] at this
      have BEL5 : Hid (Below w.heap.size w w5) := BEL3.out.trans (((hw.trans h5).toBelow (by omega) (by omega)))
      clear hl hc hw hr h1 h2 h3 h4 h5 q0 q1
      go_wp2
      go_loop [20] (fun i => ∃ k : Nat, 1 ≤ k ∧ k ≤ n ∧ i = .int .i64 k) (fun i => n - (intOf i).toNat)
      case atStart => exact ⟨1, Nat.le_refl _, by omega, rfl⟩
      case round =>
        obtain ⟨k, hk1, hkn, rfl⟩ := hrel
        by_cases hlt : k < n
        · have kk := KZ.out k hk1 hlt
          go_wp2
          go_round
          case rel => exact ⟨k + 1, by omega, by omega, by go_num⟩
          case measure => simp [intOf]; omega
        · go_wp2
          go_ret
          exact ⟨rfl, BEL5.out⟩

set_option maxHeartbeats 1600000 in
set_option maxRecDepth 100000 in
theorem one_lt_b (x y a2 a3 a4 : Int) (la lb n : Nat) (hx : 0 ≤ x ∧ x < 18446744073709551616) (hy : 0 ≤ y ∧ y < 18446744073709551616) (b2 : 0 ≤ a2) (c2 : a2 ≤ 255) (b3 : 0 ≤ a3) (c3 : a3 ≤ 255) (b4 : 0 ≤ a4) (c4 : a4 ≤ 255)
    (ela : (1 : Int) + a2 % 4 = la) (elb : (1 : Int) + a3 % 4 = lb) (hlb : (la : Int) < lb) (en : (lb : Int) + a4 % 3 = n) (hxy : x < y) (w : World) :
    Calls Yba.prog 6 #[.int .u64 x, .int .u64 y, .int .u8 a2, .int .u8 a3, .int .u8 a4] w fun e w' => e = .returned (.bool true) ∧ Below w.heap.size w w' := by
  obtain ⟨i0, hi, hz0, hz1, hz2⟩ := info_parts Yba.info28
  have la4 : 1 ≤ la ∧ la ≤ 4 := by omega
  have lb4 : 1 ≤ lb ∧ lb ≤ 4 := by omega
  have n6 : la ≤ n ∧ lb ≤ n ∧ n ≤ 6 := by omega
  have la0 : (0 : Int) < la := by omega
  have lb0 : (0 : Int) < lb := by omega
  have n0 : (0 : Int) < n := by omega
  skip
  go_enter Yba.func6, Yba.ntmps6
  go_wp2_with (at_make; refine wpList_make_full _ rfl _ _ 24 rfl w.heap.size 28 i0 (.int .u64 0) 1 Yba.underlying24 hi hz0 hz1 _ _ _ _ la rfl rfl ?pa ?pb ?pc ?pd ?pe ?_)
  case pa => first | rfl | omega
  case pb => first | rfl | omega
  case pc => rw [hz2]; omega
  case pd => unfold maxLen; omega
  case pe => simp
  intro w1 ho1 hg1
  obtain ⟨ca1, fa1, la1⟩ := made (w := w) ho1
  have bel1 : Below w.heap.size w w1 := (Below.refl _ _).grown hg1 (Nat.le_refl _) (by simp)
  have CA1 := hid ca1
  have FA1 := hid fa1
  clear ho1 hg1 ca1 fa1
  go_wp2_with (at_make; refine wpList_make_full _ rfl _ _ 24 rfl w1.heap.size 28 i0 (.int .u64 0) 1 Yba.underlying24 hi hz0 hz1 _ _ _ _ lb rfl rfl ?qa ?qb ?qc ?qd ?qe ?_)
  case qa => first | rfl | omega
  case qb => first | rfl | omega
  case qc => rw [hz2]; omega
  case qd => unfold maxLen; omega
  case qe => simp
  intro w2 ho2 hg2
  obtain ⟨cb2, fb2, lb2⟩ := made (w := w1) ho2
  have bel2 : Below w1.heap.size w1 w2 := (Below.refl _ _).grown hg2 (Nat.le_refl _) (by simp)
  have kA : w2.cell? ⟨w.heap.size, 0, none⟩ = some (.int .u64 (wd (List.replicate la 0) 0)) := by have := (CA1.out.below bel2 la1) 0 (by simp; omega); simpa using this
  have fA : w2.frozen? ⟨w.heap.size, 0, none⟩ = false := by have := (FA1.out.below bel2 la1) 0 (by omega); simpa using this
  have kB : w2.cell? ⟨w1.heap.size, 0, none⟩ = some (.int .u64 (wd (List.replicate lb 0) 0)) := by have := cb2 0 (by simp; omega); simpa using this
  have fB : w2.frozen? ⟨w1.heap.size, 0, none⟩ = false := by have := fb2 0 (by omega); simpa using this
  have CB2 := hid cb2
  have BEL2 := hid (bel1.trans (bel2.mono (Nat.le_of_lt la1)))
  have CA2 := hid (CA1.out.below bel2 la1)
  clear ho2 hg2 cb2 fb2 bel1 bel2 CA1 FA1
  go_wp2_with (at_make; refine wpList_make_full _ rfl _ _ 24 rfl w2.heap.size 28 i0 (.int .u64 0) 1 Yba.underlying24 hi hz0 hz1 _ _ _ _ n rfl rfl ?ra ?rb ?rc ?rd ?re ?_)
  case ra => first | rfl | omega
  case rb => first | rfl | omega
  case rc => rw [hz2]; omega
  case rd => unfold maxLen; omega
  case re => simp
  intro w3 ho3 hg3
  obtain ⟨cz3, fz3, lz3⟩ := made (w := w2) ho3
  have ne : w.heap.size ≠ w1.heap.size := by omega
  have bel3 : Below w2.heap.size ((w2.setCell ⟨w.heap.size, 0, none⟩ (.int .u64 x)).setCell ⟨w1.heap.size, 0, none⟩ (.int .u64 y)) w3 := (Below.refl _ _).grown hg3 (by simp) (by simp)
  have CA3 : Hid (Cells w3 w.heap.size 0 (x :: List.replicate (la - 1) 0)) := ((CA2.out.head la4.1 x).other ne 0 _).below bel3 (by omega)
  have CB3 : Hid (Cells w3 w1.heap.size 0 (y :: List.replicate (lb - 1) 0)) := ((CB2.out.other ne.symm 0 _).head lb4.1 y).below bel3 lb2
  have BEL3 : Hid (Below w.heap.size w w3) := ((BEL2.out.setCell (Nat.le_refl _) _).setCell (Nat.le_of_lt la1) _).trans (bel3.mono (by omega))
  have CZ3 := hid cz3
  have FZ3 := hid fz3
  clear ho3 hg3 cz3 fz3 bel3 CA2 CB2 BEL2 kA fA kB fB
  go_wp2
  go_loopw [17] (fun i wr => ∃ (k : Nat) (zs : List Int), k ≤ n ∧ i = .int .i64 k ∧ Hid (zs.length = n ∧ Cells wr w2.heap.size 0 zs ∧ Wr w2.heap.size 0 n w3 wr)) (fun i _ => n - (intOf i).toNat)
  case atStart => exact ⟨0, _, Nat.zero_le _, rfl, List.length_replicate, CZ3.out, Wr.refl _ _ _ _⟩
  case round =>
    obtain ⟨k, zs, hk, rfl, hr⟩ := hrel
    by_cases hlt : k < n
    · obtain ⟨hl, hc, hw⟩ := hr.out
      have kz : wr.cell? ⟨w2.heap.size, k, none⟩ = some (.int .u64 (wd zs k)) := by have := hc k (by omega); rwa [Nat.zero_add] at this
      have kf : wr.frozen? ⟨w2.heap.size, k, none⟩ = false := by rw [hw.frozen]; have := FZ3.out k hlt; rwa [Nat.zero_add] at this
      have R : Hid (∀ V, (zs.set k V).length = n ∧ Cells (wr.setCell ⟨w2.heap.size, k, none⟩ (.int .u64 V)) w2.heap.size 0 (zs.set k V) ∧ Wr w2.heap.size 0 n w3 (wr.setCell ⟨w2.heap.size, k, none⟩ (.int .u64 V))) := fun V => by
        have := hc.set (k := k) (by omega) V
        rw [Nat.zero_add] at this
        exact ⟨by rw [List.length_set]; exact hl, this, hw.setCell (Nat.zero_le _) (by omega) _⟩
      clear hl hc hw hr
      go_wp2
      go_roundw
      case rel => exact ⟨k + 1, _, by omega, by go_num, R.out _⟩
      case measure => simp [intOf]; omega
    · obtain rfl : n = k := by omega
      clear hlt
      go_wp2_with fail
      obtain ⟨hl, hc, hw⟩ := hr.out
      refine (absDiff_lt w2.heap.size 0 n n zs (some ⟨w.heap.size, 0, none⟩) la la (x :: List.replicate (la - 1) 0) (some ⟨w1.heap.size, 0, none⟩) lb lb (y :: List.replicate (lb - 1) 0) hl (by simp; omega) (by simp; omega) n6.1 n6.2.1 (Nat.le_refl _) (by unfold maxLen; omega) (Nat.le_refl _) (by unfold maxLen; omega) (Nat.le_refl _) (by unfold maxLen; omega)
        (words_one_pad hx _) (words_one_pad hy _) wr hc (fun i hi => by rw [hw.frozen]; exact FZ3.out i hi) (.inr ⟨_, _, rfl, CA3.out.kept hw (.inl (by omega)), .inl (by omega)⟩) (.inr ⟨_, _, rfl, CB3.out.kept hw (.inl (by omega)), .inl (by omega)⟩) (by rw [nv_one, nv_one]; omega)).mono ?_
      rintro e w5 ⟨rfl, rs, h1, h2, h3, h4, h5⟩
      rw [nv_one, nv_one] at h3
      obtain ⟨q0, q1⟩ := one_word h2 h3 (by omega) (by omega)
      have kz0 : w5.cell? ⟨w2.heap.size, 0, none⟩ = some (.int .u64 (y - x)) := by have := h4 0 (by omega); rwa [q0] at this
      have KZ : Hid (∀ k, 1 ≤ k → k < n → w5.cell? ⟨w2.heap.size, k, none⟩ = some (.int .u64 0)) := fun k hk1 hk2 => by have := h4 k (by omega); rwa [q1 k hk1, Nat.zero_add] at this
      have BEL5 : Hid (Below w.heap.size w w5) := BEL3.out.trans (((hw.trans h5).toBelow (by omega) (by omega)))
      clear hl hc hw hr h1 h2 h3 h4 h5 q0 q1
      go_wp2
      go_loop [20] (fun i => ∃ k : Nat, 1 ≤ k ∧ k ≤ n ∧ i = .int .i64 k) (fun i => n - (intOf i).toNat)
      case atStart => exact ⟨1, Nat.le_refl _, by omega, rfl⟩
      case round =>
        obtain ⟨k, hk1, hkn, rfl⟩ := hrel
        by_cases hlt : k < n
        · have kk := KZ.out k hk1 hlt
          go_wp2
          go_round
          case rel => exact ⟨k + 1, by omega, by omega, by go_num⟩
          case measure => simp [intOf]; omega
        · go_wp2
          go_ret
          exact ⟨rfl, BEL5.out⟩

set_option maxHeartbeats 1600000 in
set_option maxRecDepth 100000 in
theorem one_gt_a (x y a2 a3 a4 : Int) (la lb n : Nat) (hx : 0 ≤ x ∧ x < 18446744073709551616) (hy : 0 ≤ y ∧ y < 18446744073709551616) (b2 : 0 ≤ a2) (c2 : a2 ≤ 255) (b3 : 0 ≤ a3) (c3 : a3 ≤ 255) (b4 : 0 ≤ a4) (c4 : a4 ≤ 255)
    (ela : (1 : Int) + a2 % 4 = la) (elb : (1 : Int) + a3 % 4 = lb) (hlb : (lb : Int) ≤ la) (en : (la : Int) + a4 % 3 = n) (hxy : y < x) (w : World) :
    Calls Yba.prog 6 #[.int .u64 x, .int .u64 y, .int .u8 a2, .int .u8 a3, .int .u8 a4] w fun e w' => e = .returned (.bool true) ∧ Below w.heap.size w w' := by
  obtain ⟨i0, hi, hz0, hz1, hz2⟩ := info_parts Yba.info28
  have la4 : 1 ≤ la ∧ la ≤ 4 := by omega
  have lb4 : 1 ≤ lb ∧ lb ≤ 4 := by omega
  have n6 : la ≤ n ∧ lb ≤ n ∧ n ≤ 6 := by omega
  have la0 : (0 : Int) < la := by omega
  have lb0 : (0 : Int) < lb := by omega
  have n0 : (0 : Int) < n := by omega
  skip
  go_enter Yba.func6, Yba.ntmps6
  go_wp2_with (at_make; refine wpList_make_full _ rfl _ _ 24 rfl w.heap.size 28 i0 (.int .u64 0) 1 Yba.underlying24 hi hz0 hz1 _ _ _ _ la rfl rfl ?pa ?pb ?pc ?pd ?pe ?_)
  case pa => first | rfl | omega
  case pb => first | rfl | omega
  case pc => rw [hz2]; omega
  case pd => unfold maxLen; omega
  case pe => simp
  intro w1 ho1 hg1
  obtain ⟨ca1, fa1, la1⟩ := made (w := w) ho1
  have bel1 : Below w.heap.size w w1 := (Below.refl _ _).grown hg1 (Nat.le_refl _) (by simp)
  have CA1 := hid ca1
  have FA1 := hid fa1
  clear ho1 hg1 ca1 fa1
  go_wp2_with (at_make; refine wpList_make_full _ rfl _ _ 24 rfl w1.heap.size 28 i0 (.int .u64 0) 1 Yba.underlying24 hi hz0 hz1 _ _ _ _ lb rfl rfl ?qa ?qb ?qc ?qd ?qe ?_)
  case qa => first | rfl | omega
  case qb => first | rfl | omega
  case qc => rw [hz2]; omega
  case qd => unfold maxLen; omega
  case qe => simp
  intro w2 ho2 hg2
  obtain ⟨cb2, fb2, lb2⟩ := made (w := w1) ho2
  have bel2 : Below w1.heap.size w1 w2 := (Below.refl _ _).grown hg2 (Nat.le_refl _) (by simp)
  have kA : w2.cell? ⟨w.heap.size, 0, none⟩ = some (.int .u64 (wd (List.replicate la 0) 0)) := by have := (CA1.out.below bel2 la1) 0 (by simp; omega); simpa using this
  have fA : w2.frozen? ⟨w.heap.size, 0, none⟩ = false := by have := (FA1.out.below bel2 la1) 0 (by omega); simpa using this
  have kB : w2.cell? ⟨w1.heap.size, 0, none⟩ = some (.int .u64 (wd (List.replicate lb 0) 0)) := by have := cb2 0 (by simp; omega); simpa using this
  have fB : w2.frozen? ⟨w1.heap.size, 0, none⟩ = false := by have := fb2 0 (by omega); simpa using this
  have CB2 := hid cb2
  have BEL2 := hid (bel1.trans (bel2.mono (Nat.le_of_lt la1)))
  have CA2 := hid (CA1.out.below bel2 la1)
  clear ho2 hg2 cb2 fb2 bel1 bel2 CA1 FA1
  go_wp2_with (at_make; refine wpList_make_full _ rfl _ _ 24 rfl w2.heap.size 28 i0 (.int .u64 0) 1 Yba.underlying24 hi hz0 hz1 _ _ _ _ n rfl rfl ?ra ?rb ?rc ?rd ?re ?_)
  case ra => first | rfl | omega
  case rb => first | rfl | omega
  case rc => rw [hz2]; omega
  case rd => unfold maxLen; omega
  case re => simp
  intro w3 ho3 hg3
  obtain ⟨cz3, fz3, lz3⟩ := made (w := w2) ho3
  have ne : w.heap.size ≠ w1.heap.size := by omega
  have bel3 : Below w2.heap.size ((w2.setCell ⟨w.heap.size, 0, none⟩ (.int .u64 x)).setCell ⟨w1.heap.size, 0, none⟩ (.int .u64 y)) w3 := (Below.refl _ _).grown hg3 (by simp) (by simp)
  have CA3 : Hid (Cells w3 w.heap.size 0 (x :: List.replicate (la - 1) 0)) := ((CA2.out.head la4.1 x).other ne 0 _).below bel3 (by omega)
  have CB3 : Hid (Cells w3 w1.heap.size 0 (y :: List.replicate (lb - 1) 0)) := ((CB2.out.other ne.symm 0 _).head lb4.1 y).below bel3 lb2
  have BEL3 : Hid (Below w.heap.size w w3) := ((BEL2.out.setCell (Nat.le_refl _) _).setCell (Nat.le_of_lt la1) _).trans (bel3.mono (by omega))
  have CZ3 := hid cz3
  have FZ3 := hid fz3
  clear ho3 hg3 cz3 fz3 bel3 CA2 CB2 BEL2 kA fA kB fB
  go_wp2
  go_loopw [17] (fun i wr => ∃ (k : Nat) (zs : List Int), k ≤ n ∧ i = .int .i64 k ∧ Hid (zs.length = n ∧ Cells wr w2.heap.size 0 zs ∧ Wr w2.heap.size 0 n w3 wr)) (fun i _ => n - (intOf i).toNat)
  case atStart => exact ⟨0, _, Nat.zero_le _, rfl, List.length_replicate, CZ3.out, Wr.refl _ _ _ _⟩
  case round =>
    obtain ⟨k, zs, hk, rfl, hr⟩ := hrel
    by_cases hlt : k < n
    · obtain ⟨hl, hc, hw⟩ := hr.out
      have kz : wr.cell? ⟨w2.heap.size, k, none⟩ = some (.int .u64 (wd zs k)) := by have := hc k (by omega); rwa [Nat.zero_add] at this
      have kf : wr.frozen? ⟨w2.heap.size, k, none⟩ = false := by rw [hw.frozen]; have := FZ3.out k hlt; rwa [Nat.zero_add] at this
      have R : Hid (∀ V, (zs.set k V).length = n ∧ Cells (wr.setCell ⟨w2.heap.size, k, none⟩ (.int .u64 V)) w2.heap.size 0 (zs.set k V) ∧ Wr w2.heap.size 0 n w3 (wr.setCell ⟨w2.heap.size, k, none⟩ (.int .u64 V))) := fun V => by
        have := hc.set (k := k) (by omega) V
        rw [Nat.zero_add] at this
        exact ⟨by rw [List.length_set]; exact hl, this, hw.setCell (Nat.zero_le _) (by omega) _⟩
      clear hl hc hw hr
      go_wp2
      go_roundw
      case rel => exact ⟨k + 1, _, by omega, by go_num, R.out _⟩
      case measure => simp [intOf]; omega
    · obtain rfl : n = k := by omega
      clear hlt
      go_wp2_with fail
      obtain ⟨hl, hc, hw⟩ := hr.out
      refine (absDiff_ge w2.heap.size 0 n n zs (some ⟨w.heap.size, 0, none⟩) la la (x :: List.replicate (la - 1) 0) (some ⟨w1.heap.size, 0, none⟩) lb lb (y :: List.replicate (lb - 1) 0) hl (by simp; omega) (by simp; omega) n6.1 n6.2.1 (Nat.le_refl _) (by unfold maxLen; omega) (Nat.le_refl _) (by unfold maxLen; omega) (Nat.le_refl _) (by unfold maxLen; omega)
        (words_one_pad hx _) (words_one_pad hy _) wr hc (fun i hi => by rw [hw.frozen]; exact FZ3.out i hi) (.inr ⟨_, _, rfl, CA3.out.kept hw (.inl (by omega)), .inl (by omega)⟩) (.inr ⟨_, _, rfl, CB3.out.kept hw (.inl (by omega)), .inl (by omega)⟩) (by rw [nv_one, nv_one]; omega)).mono ?_
      rintro e w5 ⟨rfl, rs, h1, h2, h3, h4, h5⟩
      rw [nv_one, nv_one] at h3
      obtain ⟨q0, q1⟩ := one_word h2 h3 (by omega) (by omega)
      have kz0 : w5.cell? ⟨w2.heap.size, 0, none⟩ = some (.int .u64 (x - y)) := by have := h4 0 (by omega); rwa [q0] at this
      have KZ : Hid (∀ k, 1 ≤ k → k < n → w5.cell? ⟨w2.heap.size, k, none⟩ = some (.int .u64 0)) := fun k hk1 hk2 => by have := h4 k (by omega); rwa [q1 k hk1, Nat.zero_add] at this
      have BEL5 : Hid (Below w.heap.size w w5) := BEL3.out.trans (((hw.trans h5).toBelow (by omega) (by omega)))
      clear hl hc hw hr h1 h2 h3 h4 h5 q0 q1
      go_wp2
      go_loop [20] (fun i => ∃ k : Nat, 1 ≤ k ∧ k ≤ n ∧ i = .int .i64 k) (fun i => n - (intOf i).toNat)
      case atStart => exact ⟨1, Nat.le_refl _, by omega, rfl⟩
      case round =>
        obtain ⟨k, hk1, hkn, rfl⟩ := hrel
        by_cases hlt : k < n
        · have kk := KZ.out k hk1 hlt
          go_wp2
          go_round
          case rel => exact ⟨k + 1, by omega, by omega, by go_num⟩
          case measure => simp [intOf]; omega
        · go_wp2
          go_ret
          exact ⟨rfl, BEL5.out⟩

set_option maxHeartbeats 1600000 in
set_option maxRecDepth 100000 in
theorem one_gt_b (x y a2 a3 a4 : Int) (la lb n : Nat) (hx : 0 ≤ x ∧ x < 18446744073709551616) (hy : 0 ≤ y ∧ y < 18446744073709551616) (b2 : 0 ≤ a2) (c2 : a2 ≤ 255) (b3 : 0 ≤ a3) (c3 : a3 ≤ 255) (b4 : 0 ≤ a4) (c4 : a4 ≤ 255)
    (ela : (1 : Int) + a2 % 4 = la) (elb : (1 : Int) + a3 % 4 = lb) (hlb : (la : Int) < lb) (en : (lb : Int) + a4 % 3 = n) (hxy : y < x) (w : World) :
    Calls Yba.prog 6 #[.int .u64 x, .int .u64 y, .int .u8 a2, .int .u8 a3, .int .u8 a4] w fun e w' => e = .returned (.bool true) ∧ Below w.heap.size w w' := by
  obtain ⟨i0, hi, hz0, hz1, hz2⟩ := info_parts Yba.info28
  have la4 : 1 ≤ la ∧ la ≤ 4 := by omega
  have lb4 : 1 ≤ lb ∧ lb ≤ 4 := by omega
  have n6 : la ≤ n ∧ lb ≤ n ∧ n ≤ 6 := by omega
  have la0 : (0 : Int) < la := by omega
  have lb0 : (0 : Int) < lb := by omega
  have n0 : (0 : Int) < n := by omega
  skip
  go_enter Yba.func6, Yba.ntmps6
  go_wp2_with (at_make; refine wpList_make_full _ rfl _ _ 24 rfl w.heap.size 28 i0 (.int .u64 0) 1 Yba.underlying24 hi hz0 hz1 _ _ _ _ la rfl rfl ?pa ?pb ?pc ?pd ?pe ?_)
  case pa => first | rfl | omega
  case pb => first | rfl | omega
  case pc => rw [hz2]; omega
  case pd => unfold maxLen; omega
  case pe => simp
  intro w1 ho1 hg1
  obtain ⟨ca1, fa1, la1⟩ := made (w := w) ho1
  have bel1 : Below w.heap.size w w1 := (Below.refl _ _).grown hg1 (Nat.le_refl _) (by simp)
  have CA1 := hid ca1
  have FA1 := hid fa1
  clear ho1 hg1 ca1 fa1
  go_wp2_with (at_make; refine wpList_make_full _ rfl _ _ 24 rfl w1.heap.size 28 i0 (.int .u64 0) 1 Yba.underlying24 hi hz0 hz1 _ _ _ _ lb rfl rfl ?qa ?qb ?qc ?qd ?qe ?_)
  case qa => first | rfl | omega
  case qb => first | rfl | omega
  case qc => rw [hz2]; omega
  case qd => unfold maxLen; omega
  case qe => simp
  intro w2 ho2 hg2
  obtain ⟨cb2, fb2, lb2⟩ := made (w := w1) ho2
  have bel2 : Below w1.heap.size w1 w2 := (Below.refl _ _).grown hg2 (Nat.le_refl _) (by simp)
  have kA : w2.cell? ⟨w.heap.size, 0, none⟩ = some (.int .u64 (wd (List.replicate la 0) 0)) := by have := (CA1.out.below bel2 la1) 0 (by simp; omega); simpa using this
  have fA : w2.frozen? ⟨w.heap.size, 0, none⟩ = false := by have := (FA1.out.below bel2 la1) 0 (by omega); simpa using this
  have kB : w2.cell? ⟨w1.heap.size, 0, none⟩ = some (.int .u64 (wd (List.replicate lb 0) 0)) := by have := cb2 0 (by simp; omega); simpa using this
  have fB : w2.frozen? ⟨w1.heap.size, 0, none⟩ = false := by have := fb2 0 (by omega); simpa using this
  have CB2 := hid cb2
  have BEL2 := hid (bel1.trans (bel2.mono (Nat.le_of_lt la1)))
  have CA2 := hid (CA1.out.below bel2 la1)
  clear ho2 hg2 cb2 fb2 bel1 bel2 CA1 FA1
  go_wp2_with (at_make; refine wpList_make_full _ rfl _ _ 24 rfl w2.heap.size 28 i0 (.int .u64 0) 1 Yba.underlying24 hi hz0 hz1 _ _ _ _ n rfl rfl ?ra ?rb ?rc ?rd ?re ?_)
  case ra => first | rfl | omega
  case rb => first | rfl | omega
  case rc => rw [hz2]; omega
  case rd => unfold maxLen; omega
  case re => simp
  intro w3 ho3 hg3
  obtain ⟨cz3, fz3, lz3⟩ := made (w := w2) ho3
  have ne : w.heap.size ≠ w1.heap.size := by omega
  have bel3 : Below w2.heap.size ((w2.setCell ⟨w.heap.size, 0, none⟩ (.int .u64 x)).setCell ⟨w1.heap.size, 0, none⟩ (.int .u64 y)) w3 := (Below.refl _ _).grown hg3 (by simp) (by simp)
  have CA3 : Hid (Cells w3 w.heap.size 0 (x :: List.replicate (la - 1) 0)) := ((CA2.out.head la4.1 x).other ne 0 _).below bel3 (by omega)
  have CB3 : Hid (Cells w3 w1.heap.size 0 (y :: List.replicate (lb - 1) 0)) := ((CB2.out.other ne.symm 0 _).head lb4.1 y).below bel3 lb2
  have BEL3 : Hid (Below w.heap.size w w3) := ((BEL2.out.setCell (Nat.le_refl _) _).setCell (Nat.le_of_lt la1) _).trans (bel3.mono (by omega))
  have CZ3 := hid cz3
  have FZ3 := hid fz3
  clear ho3 hg3 cz3 fz3 bel3 CA2 CB2 BEL2 kA fA kB fB
  go_wp2
  go_loopw [17] (fun i wr => ∃ (k : Nat) (zs : List Int), k ≤ n ∧ i = .int .i64 k ∧ Hid (zs.length = n ∧ Cells wr w2.heap.size 0 zs ∧ Wr w2.heap.size 0 n w3 wr)) (fun i _ => n - (intOf i).toNat)
  case atStart => exact ⟨0, _, Nat.zero_le _, rfl, List.length_replicate, CZ3.out, Wr.refl _ _ _ _⟩
  case round =>
    obtain ⟨k, zs, hk, rfl, hr⟩ := hrel
    by_cases hlt : k < n
    · obtain ⟨hl, hc, hw⟩ := hr.out
      have kz : wr.cell? ⟨w2.heap.size, k, none⟩ = some (.int .u64 (wd zs k)) := by have := hc k (by omega); rwa [Nat.zero_add] at this
      have kf : wr.frozen? ⟨w2.heap.size, k, none⟩ = false := by rw [hw.frozen]; have := FZ3.out k hlt; rwa [Nat.zero_add] at this
      have R : Hid (∀ V, (zs.set k V).length = n ∧ Cells (wr.setCell ⟨w2.heap.size, k, none⟩ (.int .u64 V)) w2.heap.size 0 (zs.set k V) ∧ Wr w2.heap.size 0 n w3 (wr.setCell ⟨w2.heap.size, k, none⟩ (.int .u64 V))) := fun V => by
        have := hc.set (k := k) (by omega) V
        rw [Nat.zero_add] at this
        exact ⟨by rw [List.length_set]; exact hl, this, hw.setCell (Nat.zero_le _) (by omega) _⟩
      clear hl hc hw hr
      go_wp2
      go_roundw
      case rel => exact ⟨k + 1, _, by omega, by go_num, R.out _⟩
      case measure => simp [intOf]; omega
    · obtain rfl : n = k := by omega
      clear hlt
      go_wp2_with fail
      obtain ⟨hl, hc, hw⟩ := hr.out
      refine (absDiff_ge w2.heap.size 0 n n zs (some ⟨w.heap.size, 0, none⟩) la la (x :: List.replicate (la - 1) 0) (some ⟨w1.heap.size, 0, none⟩) lb lb (y :: List.replicate (lb - 1) 0) hl (by simp; omega) (by simp; omega) n6.1 n6.2.1 (Nat.le_refl _) (by unfold maxLen; omega) (Nat.le_refl _) (by unfold maxLen; omega) (Nat.le_refl _) (by unfold maxLen; omega)
        (words_one_pad hx _) (words_one_pad hy _) wr hc (fun i hi => by rw [hw.frozen]; exact FZ3.out i hi) (.inr ⟨_, _, rfl, CA3.out.kept hw (.inl (by omega)), .inl (by omega)⟩) (.inr ⟨_, _, rfl, CB3.out.kept hw (.inl (by omega)), .inl (by omega)⟩) (by rw [nv_one, nv_one]; omega)).mono ?_
      rintro e w5 ⟨rfl, rs, h1, h2, h3, h4, h5⟩
      rw [nv_one, nv_one] at h3
      obtain ⟨q0, q1⟩ := one_word h2 h3 (by omega) (by omega)
      have kz0 : w5.cell? ⟨w2.heap.size, 0, none⟩ = some (.int .u64 (x - y)) := by have := h4 0 (by omega); rwa [q0] at this
      have KZ : Hid (∀ k, 1 ≤ k → k < n → w5.cell? ⟨w2.heap.size, k, none⟩ = some (.int .u64 0)) := fun k hk1 hk2 => by have := h4 k (by omega); rwa [q1 k hk1, Nat.zero_add] at this
      have BEL5 : Hid (Below w.heap.size w w5) := BEL3.out.trans (((hw.trans h5).toBelow (by omega) (by omega)))
      clear hl hc hw hr h1 h2 h3 h4 h5 q0 q1
      go_wp2
      go_loop [20] (fun i => ∃ k : Nat, 1 ≤ k ∧ k ≤ n ∧ i = .int .i64 k) (fun i => n - (intOf i).toNat)
      case atStart => exact ⟨1, Nat.le_refl _, by omega, rfl⟩
      case round =>
        obtain ⟨k, hk1, hkn, rfl⟩ := hrel
        by_cases hlt : k < n
        · have kk := KZ.out k hk1 hlt
          go_wp2
          go_round
          case rel => exact ⟨k + 1, by omega, by omega, by go_num⟩
          case measure => simp [intOf]; omega
        · go_wp2
          go_ret
          exact ⟨rfl, BEL5.out⟩

set_option maxHeartbeats 1600000 in
set_option maxRecDepth 100000 in
theorem one_eq_a (x y a2 a3 a4 : Int) (la lb n : Nat) (hx : 0 ≤ x ∧ x < 18446744073709551616) (hy : 0 ≤ y ∧ y < 18446744073709551616) (b2 : 0 ≤ a2) (c2 : a2 ≤ 255) (b3 : 0 ≤ a3) (c3 : a3 ≤ 255) (b4 : 0 ≤ a4) (c4 : a4 ≤ 255)
    (ela : (1 : Int) + a2 % 4 = la) (elb : (1 : Int) + a3 % 4 = lb) (hlb : (lb : Int) ≤ la) (en : (la : Int) + a4 % 3 = n) (hxy : x = y) (w : World) :
    Calls Yba.prog 6 #[.int .u64 x, .int .u64 y, .int .u8 a2, .int .u8 a3, .int .u8 a4] w fun e w' => e = .returned (.bool true) ∧ Below w.heap.size w w' := by
  obtain ⟨i0, hi, hz0, hz1, hz2⟩ := info_parts Yba.info28
  have la4 : 1 ≤ la ∧ la ≤ 4 := by omega
  have lb4 : 1 ≤ lb ∧ lb ≤ 4 := by omega
  have n6 : la ≤ n ∧ lb ≤ n ∧ n ≤ 6 := by omega
  have la0 : (0 : Int) < la := by omega
  have lb0 : (0 : Int) < lb := by omega
  have n0 : (0 : Int) < n := by omega
  subst hxy
  go_enter Yba.func6, Yba.ntmps6
  go_wp2_with (at_make; refine wpList_make_full _ rfl _ _ 24 rfl w.heap.size 28 i0 (.int .u64 0) 1 Yba.underlying24 hi hz0 hz1 _ _ _ _ la rfl rfl ?pa ?pb ?pc ?pd ?pe ?_)
  case pa => first | rfl | omega
  case pb => first | rfl | omega
  case pc => rw [hz2]; omega
  case pd => unfold maxLen; omega
  case pe => simp
  intro w1 ho1 hg1
  obtain ⟨ca1, fa1, la1⟩ := made (w := w) ho1
  have bel1 : Below w.heap.size w w1 := (Below.refl _ _).grown hg1 (Nat.le_refl _) (by simp)
  have CA1 := hid ca1
  have FA1 := hid fa1
  clear ho1 hg1 ca1 fa1
  go_wp2_with (at_make; refine wpList_make_full _ rfl _ _ 24 rfl w1.heap.size 28 i0 (.int .u64 0) 1 Yba.underlying24 hi hz0 hz1 _ _ _ _ lb rfl rfl ?qa ?qb ?qc ?qd ?qe ?_)
  case qa => first | rfl | omega
  case qb => first | rfl | omega
  case qc => rw [hz2]; omega
  case qd => unfold maxLen; omega
  case qe => simp
  intro w2 ho2 hg2
  obtain ⟨cb2, fb2, lb2⟩ := made (w := w1) ho2
  have bel2 : Below w1.heap.size w1 w2 := (Below.refl _ _).grown hg2 (Nat.le_refl _) (by simp)
  have kA : w2.cell? ⟨w.heap.size, 0, none⟩ = some (.int .u64 (wd (List.replicate la 0) 0)) := by have := (CA1.out.below bel2 la1) 0 (by simp; omega); simpa using this
  have fA : w2.frozen? ⟨w.heap.size, 0, none⟩ = false := by have := (FA1.out.below bel2 la1) 0 (by omega); simpa using this
  have kB : w2.cell? ⟨w1.heap.size, 0, none⟩ = some (.int .u64 (wd (List.replicate lb 0) 0)) := by have := cb2 0 (by simp; omega); simpa using this
  have fB : w2.frozen? ⟨w1.heap.size, 0, none⟩ = false := by have := fb2 0 (by omega); simpa using this
  have CB2 := hid cb2
  have BEL2 := hid (bel1.trans (bel2.mono (Nat.le_of_lt la1)))
  have CA2 := hid (CA1.out.below bel2 la1)
  clear ho2 hg2 cb2 fb2 bel1 bel2 CA1 FA1
  go_wp2_with (at_make; refine wpList_make_full _ rfl _ _ 24 rfl w2.heap.size 28 i0 (.int .u64 0) 1 Yba.underlying24 hi hz0 hz1 _ _ _ _ n rfl rfl ?ra ?rb ?rc ?rd ?re ?_)
  case ra => first | rfl | omega
  case rb => first | rfl | omega
  case rc => rw [hz2]; omega
  case rd => unfold maxLen; omega
  case re => simp
  intro w3 ho3 hg3
  obtain ⟨cz3, fz3, lz3⟩ := made (w := w2) ho3
  have ne : w.heap.size ≠ w1.heap.size := by omega
  have bel3 : Below w2.heap.size ((w2.setCell ⟨w.heap.size, 0, none⟩ (.int .u64 x)).setCell ⟨w1.heap.size, 0, none⟩ (.int .u64 x)) w3 := (Below.refl _ _).grown hg3 (by simp) (by simp)
  have CA3 : Hid (Cells w3 w.heap.size 0 (x :: List.replicate (la - 1) 0)) := ((CA2.out.head la4.1 x).other ne 0 _).below bel3 (by omega)
  have CB3 : Hid (Cells w3 w1.heap.size 0 (x :: List.replicate (lb - 1) 0)) := ((CB2.out.other ne.symm 0 _).head lb4.1 x).below bel3 lb2
  have BEL3 : Hid (Below w.heap.size w w3) := ((BEL2.out.setCell (Nat.le_refl _) _).setCell (Nat.le_of_lt la1) _).trans (bel3.mono (by omega))
  have CZ3 := hid cz3
  have FZ3 := hid fz3
  clear ho3 hg3 cz3 fz3 bel3 CA2 CB2 BEL2 kA fA kB fB
  go_wp2
  go_loopw [17] (fun i wr => ∃ (k : Nat) (zs : List Int), k ≤ n ∧ i = .int .i64 k ∧ Hid (zs.length = n ∧ Cells wr w2.heap.size 0 zs ∧ Wr w2.heap.size 0 n w3 wr)) (fun i _ => n - (intOf i).toNat)
  case atStart => exact ⟨0, _, Nat.zero_le _, rfl, List.length_replicate, CZ3.out, Wr.refl _ _ _ _⟩
  case round =>
    obtain ⟨k, zs, hk, rfl, hr⟩ := hrel
    by_cases hlt : k < n
    · obtain ⟨hl, hc, hw⟩ := hr.out
      have kz : wr.cell? ⟨w2.heap.size, k, none⟩ = some (.int .u64 (wd zs k)) := by have := hc k (by omega); rwa [Nat.zero_add] at this
      have kf : wr.frozen? ⟨w2.heap.size, k, none⟩ = false := by rw [hw.frozen]; have := FZ3.out k hlt; rwa [Nat.zero_add] at this
      have R : Hid (∀ V, (zs.set k V).length = n ∧ Cells (wr.setCell ⟨w2.heap.size, k, none⟩ (.int .u64 V)) w2.heap.size 0 (zs.set k V) ∧ Wr w2.heap.size 0 n w3 (wr.setCell ⟨w2.heap.size, k, none⟩ (.int .u64 V))) := fun V => by
        have := hc.set (k := k) (by omega) V
        rw [Nat.zero_add] at this
        exact ⟨by rw [List.length_set]; exact hl, this, hw.setCell (Nat.zero_le _) (by omega) _⟩
      clear hl hc hw hr
      go_wp2
      go_roundw
      case rel => exact ⟨k + 1, _, by omega, by go_num, R.out _⟩
      case measure => simp [intOf]; omega
    · obtain rfl : n = k := by omega
      clear hlt
      go_wp2_with fail
      obtain ⟨hl, hc, hw⟩ := hr.out
      refine (absDiff_ge w2.heap.size 0 n n zs (some ⟨w.heap.size, 0, none⟩) la la (x :: List.replicate (la - 1) 0) (some ⟨w1.heap.size, 0, none⟩) lb lb (x :: List.replicate (lb - 1) 0) hl (by simp; omega) (by simp; omega) n6.1 n6.2.1 (Nat.le_refl _) (by unfold maxLen; omega) (Nat.le_refl _) (by unfold maxLen; omega) (Nat.le_refl _) (by unfold maxLen; omega)
        (words_one_pad hx _) (words_one_pad hx _) wr hc (fun i hi => by rw [hw.frozen]; exact FZ3.out i hi) (.inr ⟨_, _, rfl, CA3.out.kept hw (.inl (by omega)), .inl (by omega)⟩) (.inr ⟨_, _, rfl, CB3.out.kept hw (.inl (by omega)), .inl (by omega)⟩) (by rw [nv_one, nv_one]; omega)).mono ?_
      rintro e w5 ⟨rfl, rs, h1, h2, h3, h4, h5⟩
      rw [nv_one, nv_one] at h3
      obtain ⟨q0, q1⟩ := one_word h2 h3 (by omega) (by omega)
      have kz0 : w5.cell? ⟨w2.heap.size, 0, none⟩ = some (.int .u64 0) := by have := h4 0 (by omega); rwa [q0, Int.sub_self] at this
      have KZ : Hid (∀ k, 1 ≤ k → k < n → w5.cell? ⟨w2.heap.size, k, none⟩ = some (.int .u64 0)) := fun k hk1 hk2 => by have := h4 k (by omega); rwa [q1 k hk1, Nat.zero_add] at this
      have BEL5 : Hid (Below w.heap.size w w5) := BEL3.out.trans (((hw.trans h5).toBelow (by omega) (by omega)))
      clear hl hc hw hr h1 h2 h3 h4 h5 q0 q1
      go_wp2
      go_loop [20] (fun i => ∃ k : Nat, 1 ≤ k ∧ k ≤ n ∧ i = .int .i64 k) (fun i => n - (intOf i).toNat)
      case atStart => exact ⟨1, Nat.le_refl _, by omega, rfl⟩
      case round =>
        obtain ⟨k, hk1, hkn, rfl⟩ := hrel
        by_cases hlt : k < n
        · have kk := KZ.out k hk1 hlt
          go_wp2
          go_round
          case rel => exact ⟨k + 1, by omega, by omega, by go_num⟩
          case measure => simp [intOf]; omega
        · go_wp2
          go_ret
          exact ⟨rfl, BEL5.out⟩

set_option maxHeartbeats 1600000 in
set_option maxRecDepth 100000 in
theorem one_eq_b (x y a2 a3 a4 : Int) (la lb n : Nat) (hx : 0 ≤ x ∧ x < 18446744073709551616) (hy : 0 ≤ y ∧ y < 18446744073709551616) (b2 : 0 ≤ a2) (c2 : a2 ≤ 255) (b3 : 0 ≤ a3) (c3 : a3 ≤ 255) (b4 : 0 ≤ a4) (c4 : a4 ≤ 255)
    (ela : (1 : Int) + a2 % 4 = la) (elb : (1 : Int) + a3 % 4 = lb) (hlb : (la : Int) < lb) (en : (lb : Int) + a4 % 3 = n) (hxy : x = y) (w : World) :
    Calls Yba.prog 6 #[.int .u64 x, .int .u64 y, .int .u8 a2, .int .u8 a3, .int .u8 a4] w fun e w' => e = .returned (.bool true) ∧ Below w.heap.size w w' := by
  obtain ⟨i0, hi, hz0, hz1, hz2⟩ := info_parts Yba.info28
  have la4 : 1 ≤ la ∧ la ≤ 4 := by omega
  have lb4 : 1 ≤ lb ∧ lb ≤ 4 := by omega
  have n6 : la ≤ n ∧ lb ≤ n ∧ n ≤ 6 := by omega
  have la0 : (0 : Int) < la := by omega
  have lb0 : (0 : Int) < lb := by omega
  have n0 : (0 : Int) < n := by omega
  subst hxy
  go_enter Yba.func6, Yba.ntmps6
  go_wp2_with (at_make; refine wpList_make_full _ rfl _ _ 24 rfl w.heap.size 28 i0 (.int .u64 0) 1 Yba.underlying24 hi hz0 hz1 _ _ _ _ la rfl rfl ?pa ?pb ?pc ?pd ?pe ?_)
  case pa => first | rfl | omega
  case pb => first | rfl | omega
  case pc => rw [hz2]; omega
  case pd => unfold maxLen; omega
  case pe => simp
  intro w1 ho1 hg1
  obtain ⟨ca1, fa1, la1⟩ := made (w := w) ho1
  have bel1 : Below w.heap.size w w1 := (Below.refl _ _).grown hg1 (Nat.le_refl _) (by simp)
  have CA1 := hid ca1
  have FA1 := hid fa1
  clear ho1 hg1 ca1 fa1
  go_wp2_with (at_make; refine wpList_make_full _ rfl _ _ 24 rfl w1.heap.size 28 i0 (.int .u64 0) 1 Yba.underlying24 hi hz0 hz1 _ _ _ _ lb rfl rfl ?qa ?qb ?qc ?qd ?qe ?_)
  case qa => first | rfl | omega
  case qb => first | rfl | omega
  case qc => rw [hz2]; omega
  case qd => unfold maxLen; omega
  case qe => simp
  intro w2 ho2 hg2
  obtain ⟨cb2, fb2, lb2⟩ := made (w := w1) ho2
  have bel2 : Below w1.heap.size w1 w2 := (Below.refl _ _).grown hg2 (Nat.le_refl _) (by simp)
  have kA : w2.cell? ⟨w.heap.size, 0, none⟩ = some (.int .u64 (wd (List.replicate la 0) 0)) := by have := (CA1.out.below bel2 la1) 0 (by simp; omega); simpa using this
  have fA : w2.frozen? ⟨w.heap.size, 0, none⟩ = false := by have := (FA1.out.below bel2 la1) 0 (by omega); simpa using this
  have kB : w2.cell? ⟨w1.heap.size, 0, none⟩ = some (.int .u64 (wd (List.replicate lb 0) 0)) := by have := cb2 0 (by simp; omega); simpa using this
  have fB : w2.frozen? ⟨w1.heap.size, 0, none⟩ = false := by have := fb2 0 (by omega); simpa using this
  have CB2 := hid cb2
  have BEL2 := hid (bel1.trans (bel2.mono (Nat.le_of_lt la1)))
  have CA2 := hid (CA1.out.below bel2 la1)
  clear ho2 hg2 cb2 fb2 bel1 bel2 CA1 FA1
  go_wp2_with (at_make; refine wpList_make_full _ rfl _ _ 24 rfl w2.heap.size 28 i0 (.int .u64 0) 1 Yba.underlying24 hi hz0 hz1 _ _ _ _ n rfl rfl ?ra ?rb ?rc ?rd ?re ?_)
  case ra => first | rfl | omega
  case rb => first | rfl | omega
  case rc => rw [hz2]; omega
  case rd => unfold maxLen; omega
  case re => simp
  intro w3 ho3 hg3
  obtain ⟨cz3, fz3, lz3⟩ := made (w := w2) ho3
  have ne : w.heap.size ≠ w1.heap.size := by omega
  have bel3 : Below w2.heap.size ((w2.setCell ⟨w.heap.size, 0, none⟩ (.int .u64 x)).setCell ⟨w1.heap.size, 0, none⟩ (.int .u64 x)) w3 := (Below.refl _ _).grown hg3 (by simp) (by simp)
  have CA3 : Hid (Cells w3 w.heap.size 0 (x :: List.replicate (la - 1) 0)) := ((CA2.out.head la4.1 x).other ne 0 _).below bel3 (by omega)
  have CB3 : Hid (Cells w3 w1.heap.size 0 (x :: List.replicate (lb - 1) 0)) := ((CB2.out.other ne.symm 0 _).head lb4.1 x).below bel3 lb2
  have BEL3 : Hid (Below w.heap.size w w3) := ((BEL2.out.setCell (Nat.le_refl _) _).setCell (Nat.le_of_lt la1) _).trans (bel3.mono (by omega))
  have CZ3 := hid cz3
  have FZ3 := hid fz3
  clear ho3 hg3 cz3 fz3 bel3 CA2 CB2 BEL2 kA fA kB fB
  go_wp2
  go_loopw [17] (fun i wr => ∃ (k : Nat) (zs : List Int), k ≤ n ∧ i = .int .i64 k ∧ Hid (zs.length = n ∧ Cells wr w2.heap.size 0 zs ∧ Wr w2.heap.size 0 n w3 wr)) (fun i _ => n - (intOf i).toNat)
  case atStart => exact ⟨0, _, Nat.zero_le _, rfl, List.length_replicate, CZ3.out, Wr.refl _ _ _ _⟩
  case round =>
    obtain ⟨k, zs, hk, rfl, hr⟩ := hrel
    by_cases hlt : k < n
    · obtain ⟨hl, hc, hw⟩ := hr.out
      have kz : wr.cell? ⟨w2.heap.size, k, none⟩ = some (.int .u64 (wd zs k)) := by have := hc k (by omega); rwa [Nat.zero_add] at this
      have kf : wr.frozen? ⟨w2.heap.size, k, none⟩ = false := by rw [hw.frozen]; have := FZ3.out k hlt; rwa [Nat.zero_add] at this
      have R : Hid (∀ V, (zs.set k V).length = n ∧ Cells (wr.setCell ⟨w2.heap.size, k, none⟩ (.int .u64 V)) w2.heap.size 0 (zs.set k V) ∧ Wr w2.heap.size 0 n w3 (wr.setCell ⟨w2.heap.size, k, none⟩ (.int .u64 V))) := fun V => by
        have := hc.set (k := k) (by omega) V
        rw [Nat.zero_add] at this
        exact ⟨by rw [List.length_set]; exact hl, this, hw.setCell (Nat.zero_le _) (by omega) _⟩
      clear hl hc hw hr
      go_wp2
      go_roundw
      case rel => exact ⟨k + 1, _, by omega, by go_num, R.out _⟩
      case measure => simp [intOf]; omega
    · obtain rfl : n = k := by omega
      clear hlt
      go_wp2_with fail
      obtain ⟨hl, hc, hw⟩ := hr.out
      refine (absDiff_ge w2.heap.size 0 n n zs (some ⟨w.heap.size, 0, none⟩) la la (x :: List.replicate (la - 1) 0) (some ⟨w1.heap.size, 0, none⟩) lb lb (x :: List.replicate (lb - 1) 0) hl (by simp; omega) (by simp; omega) n6.1 n6.2.1 (Nat.le_refl _) (by unfold maxLen; omega) (Nat.le_refl _) (by unfold maxLen; omega) (Nat.le_refl _) (by unfold maxLen; omega)
        (words_one_pad hx _) (words_one_pad hx _) wr hc (fun i hi => by rw [hw.frozen]; exact FZ3.out i hi) (.inr ⟨_, _, rfl, CA3.out.kept hw (.inl (by omega)), .inl (by omega)⟩) (.inr ⟨_, _, rfl, CB3.out.kept hw (.inl (by omega)), .inl (by omega)⟩) (by rw [nv_one, nv_one]; omega)).mono ?_
      rintro e w5 ⟨rfl, rs, h1, h2, h3, h4, h5⟩
      rw [nv_one, nv_one] at h3
      obtain ⟨q0, q1⟩ := one_word h2 h3 (by omega) (by omega)
      have kz0 : w5.cell? ⟨w2.heap.size, 0, none⟩ = some (.int .u64 0) := by have := h4 0 (by omega); rwa [q0, Int.sub_self] at this
      have KZ : Hid (∀ k, 1 ≤ k → k < n → w5.cell? ⟨w2.heap.size, k, none⟩ = some (.int .u64 0)) := fun k hk1 hk2 => by have := h4 k (by omega); rwa [q1 k hk1, Nat.zero_add] at this
      have BEL5 : Hid (Below w.heap.size w w5) := BEL3.out.trans (((hw.trans h5).toBelow (by omega) (by omega)))
      clear hl hc hw hr h1 h2 h3 h4 h5 q0 q1
      go_wp2
      go_loop [20] (fun i => ∃ k : Nat, 1 ≤ k ∧ k ≤ n ∧ i = .int .i64 k) (fun i => n - (intOf i).toNat)
      case atStart => exact ⟨1, Nat.le_refl _, by omega, rfl⟩
      case round =>
        obtain ⟨k, hk1, hkn, rfl⟩ := hrel
        by_cases hlt : k < n
        · have kk := KZ.out k hk1 hlt
          go_wp2
          go_round
          case rel => exact ⟨k + 1, by omega, by omega, by go_num⟩
          case measure => simp [intOf]; omega
        · go_wp2
          go_ret
          exact ⟨rfl, BEL5.out⟩

end Go.Proofs.Ybulkcmly
