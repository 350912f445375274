/-
  The walk of LawS4418BExact.
-/
import Derived.Test.YbulkcmlyCmp
import Derived.Test.YbulkcmlyOne
namespace Go.Proofs.Ybulkcmly
open Go.RowKit
set_option linter.unusedVariables false

/-! The plain law: adding back. -/
theorem nv_split_any (xs : List Int) (k : Nat) : nv xs = nv (xs.take k) + pw k * nv (xs.drop k) := by
  by_cases h : k ≤ xs.length
  · exact nv_split xs k h
  · rw [List.take_of_length_le (by omega), List.drop_of_length_le (by omega), nv_nil]; omega
theorem drop_step (xs : List Int) (k : Nat) : nv (xs.drop k) = wd xs k + 18446744073709551616 * nv (xs.drop (k + 1)) := by
  by_cases h : k < xs.length
  · rw [List.drop_eq_getElem_cons h, nv_cons, wd_lt xs k h]
  · rw [List.drop_of_length_le (by omega), List.drop_of_length_le (by omega), wd_end xs k (by omega), nv_nil]; rfl

/-- Behind k words: what was added is the first k words of the larger, and a carry. -/
def Bk (rs sm bg : List Int) (k : Nat) (c : Int) : Prop := (0 ≤ c ∧ c ≤ 1) ∧ nv (rs.take k) + nv (sm.take k) = nv (bg.take k) + c * pw k
theorem Bk.start (rs sm bg : List Int) : Bk rs sm bg 0 0 := ⟨by decide, by simp [nv_nil]⟩
theorem Bk.step {rs sm bg : List Int} {k : Nat} {c : Int} (h : Bk rs sm bg k c) (tot : nv rs + nv sm = nv bg) (w1 : Words rs) (w2 : Words sm) (w3 : Words bg) :
    addR (wd rs k) (wd sm k) c = wd bg k ∧ Bk rs sm bg (k + 1) (carR (wd rs k) (wd sm k) c) := by
  obtain ⟨hc, he⟩ := h
  have e1 := nv_split_any rs k
  have e2 := nv_split_any sm k
  have e3 := nv_split_any bg k
  have hp := pw_pos k
  have key : pw k * (nv (rs.drop k) + nv (sm.drop k) + c) = pw k * nv (bg.drop k) := by grind
  have key2 := Int.eq_of_mul_eq_mul_left (by omega) key
  have d1 := drop_step rs k
  have d2 := drop_step sm k
  have d3 := drop_step bg k
  have x1 := w1 k
  have x2 := w2 k
  have x3 := w3 k
  have ea := add_eq (wd rs k) (wd sm k) c
  have aw := addR_word (wd rs k) (wd sm k) c
  have hadd : addR (wd rs k) (wd sm k) c = wd bg k := by omega
  refine ⟨hadd, carR_bit x1 x2 hc, ?_⟩
  rw [take_past, take_past, take_past, pw_succ]
  rw [hadd] at ea
  generalize carR (wd rs k) (wd sm k) c = c' at *
  grind
theorem Bk.done {rs sm bg : List Int} {n : Nat} {c : Int} (h : Bk rs sm bg n c) (tot : nv rs + nv sm = nv bg) (h1 : rs.length ≤ n) (h2 : sm.length ≤ n) (h3 : bg.length ≤ n) : c = 0 := by
  obtain ⟨hc, he⟩ := h
  rw [List.take_of_length_le h1, List.take_of_length_le h2, List.take_of_length_le h3, tot] at he
  have hp := pw_pos n
  have : c = 0 ∨ c = 1 := by omega
  rcases this with h | h
  · exact h
  · rw [h] at he; omega
theorem cmp_max {xs ys : List Int} (hx : Words xs) (hy : Words ys) (n : Nat) (h1 : xs.length ≤ n) (h2 : ys.length ≤ n) : cmpTo xs ys n < 0 ↔ nv xs < nv ys := by
  rw [cmpTo_sign hx hy, List.take_of_length_le h1, List.take_of_length_le h2]
theorem At.below {w w' : World} {ao : Option Addr} {xs : List Int} (h : At w ao xs) (hb : Below w.heap.size w w') : At w' ao xs := by
  rcases h with h | ⟨b, o, h1, h2⟩
  · exact .inl h
  · by_cases e : 0 < xs.length
    · exact .inr ⟨b, o, h1, h2.below hb (h2.lt e)⟩
    · exact .inl (List.eq_nil_of_length_eq_zero (by omega))
theorem At.src {w : World} {ao : Option Addr} {xs : List Int} (h : At w ao xs) {B : Nat} (hB : ∀ b o, ao = some ⟨b, o, none⟩ → 0 < xs.length → b ≠ B) (off n : Nat) : Src w ao xs B off n := by
  rcases h with h | ⟨b, o, h1, h2⟩
  · exact .inl h
  · by_cases e : 0 < xs.length
    · exact .inr ⟨b, o, h1, h2, .inl (hB b o h1 e)⟩
    · exact .inl (List.eq_nil_of_length_eq_zero (by omega))
theorem At.lt {w : World} {ao : Option Addr} {xs : List Int} (h : At w ao xs) : ∀ b o, ao = some ⟨b, o, none⟩ → 0 < xs.length → b < w.heap.size := by
  intro b o e hn
  rcases h with rfl | ⟨b', o', h1, h2⟩
  · simp at hn
  · rw [h1] at e
    injection e with e
    injection e with e
    subst e
    exact h2.lt hn

set_option maxHeartbeats 3200000 in
set_option maxRecDepth 100000 in
theorem exact_lt_a (a1 a2 : Option Addr) (n1 cap1 n2 cap2 n : Nat) (xs ys : List Int) (p : Int) (p0 : 0 ≤ p) (p1 : p ≤ 255) (hn1 : (n1 : Int) ≤ 1024) (hn2 : (n2 : Int) ≤ 1024) (hm : (n2 : Int) ≤ n1) (hmd : decide (n1 < n2) = false) (en : (n1 : Int) + p % 3 = n) (hx : xs.length = n1) (hy : ys.length = n2) (h1c : n1 ≤ cap1) (h1m : cap1 ≤ maxLen) (h2c : n2 ≤ cap2) (h2m : cap2 ≤ maxLen)
    (wx : Words xs) (wy : Words ys) (hlt : nv xs < nv ys) (w : World) (s1 : At w a1 xs) (s2 : At w a2 ys) :
    Calls Yba.prog 5 #[.slice a1 n1 cap1, .slice a2 n2 cap2, .int .u8 p] w fun e w' => e = .returned (.bool true) ∧ Below w.heap.size w w' := by
  obtain ⟨i0, hi, hz0, hz1, hz2⟩ := info_parts Yba.info28
  have hn : n1 ≤ n ∧ n2 ≤ n ∧ n ≤ 1026 := by omega
  have H : Hid (xs.length = n1 ∧ ys.length = n2 ∧ Words xs ∧ Words ys ∧ At w a1 xs ∧ At w a2 ys ∧ nv xs < nv ys) := ⟨hx, hy, wx, wy, s1, s2, hlt⟩
  have hsg : decide (cmpTo xs ys n1 < 0) = true := decide_eq_true ((cmp_max wx wy n1 (by omega) (by omega)).2 hlt)
  clear hx hy wx wy s1 s2 hlt
  go_enter Yba.func5, Yba.ntmps5
  go_wp2_with (at_make; refine wpList_make_full _ rfl _ _ 24 rfl w.heap.size 28 i0 (.int .u64 0) 1 Yba.underlying24 hi hz0 hz1 _ _ _ _ n rfl rfl (by first | rfl | omega) (by first | rfl | omega) (by rw [hz2]; omega) (by unfold maxLen; omega) (Nat.le_refl _) ?_)
  intro w3 ho3 hg3
  obtain ⟨cz3, fz3, lz3⟩ := made (w := w) ho3
  have bel3 : Below w.heap.size w w3 := (Below.refl _ _).grown hg3 (Nat.le_refl _) (by simp)
  have BEL3 := hid bel3
  have CZ3 := hid cz3
  have FZ3 := hid fz3
  clear ho3 hg3 cz3 fz3 bel3
  go_wp2
  go_loopw [9] (fun i wr => ∃ (k : Nat) (zs : List Int), k ≤ n ∧ i = .int .i64 k ∧ Hid (zs.length = n ∧ Cells wr w.heap.size 0 zs ∧ Wr w.heap.size 0 n w3 wr)) (fun i _ => n - (intOf i).toNat)
  case atStart => exact ⟨0, _, Nat.zero_le _, rfl, List.length_replicate, CZ3.out, Wr.refl _ _ _ _⟩
  case round =>
    obtain ⟨k, zs, hk, rfl, hr⟩ := hrel
    by_cases hlt : k < n
    · obtain ⟨hl, hc, hw⟩ := hr.out
      have kz : wr.cell? ⟨w.heap.size, k, none⟩ = some (.int .u64 (wd zs k)) := by have := hc k (by omega); rwa [Nat.zero_add] at this
      have kf : wr.frozen? ⟨w.heap.size, k, none⟩ = false := by rw [hw.frozen]; have := FZ3.out k hlt; rwa [Nat.zero_add] at this
      have R : Hid (∀ V, (zs.set k V).length = n ∧ Cells (wr.setCell ⟨w.heap.size, k, none⟩ (.int .u64 V)) w.heap.size 0 (zs.set k V) ∧ Wr w.heap.size 0 n w3 (wr.setCell ⟨w.heap.size, k, none⟩ (.int .u64 V))) := fun V => by
        have := hc.set (k := k) (by omega) V
        rw [Nat.zero_add] at this
        exact ⟨by rw [List.length_set]; exact hl, this, hw.setCell (Nat.zero_le _) (by omega) _⟩
      clear hl hc hw hr
      go_wp2
      go_roundw
      case rel => first | exact ⟨k + 1, _, by omega, by go_num, R.out _⟩ | (refine ⟨trivial, ?_⟩; (repeat apply Exists.intro); exact ⟨⟨k + 1, _, by omega, by go_num, R.out _⟩, rfl⟩)
      case measure => simp [intOf]; omega
    · obtain rfl : n = k := by omega
      clear hlt
      go_wp2_with fail
      obtain ⟨hl, hc, hw⟩ := hr.out
      obtain ⟨hx, hy, wx, wy, s1, s2, hord⟩ := H.out
      have b4 : Below w.heap.size w wr := BEL3.out.trans (hw.toBelow (Nat.le_refl _) (by omega))
      refine (absDiff_lt w.heap.size 0 n n zs a1 n1 cap1 xs a2 n2 cap2 ys hl hx hy hn.1 hn.2.1 (Nat.le_refl _) (by unfold maxLen; omega) h1c h1m h2c h2m wx wy wr hc (fun i hi => by rw [hw.frozen]; exact FZ3.out i hi)
        ((s1.below b4).src (fun b o e h => by have := s1.lt b o e h; omega) 0 n) ((s2.below b4).src (fun b o e h => by have := s2.lt b o e h; omega) 0 n) (by omega)).mono ?_
      rintro e w5 ⟨rfl, rs, q1, q2, q3, q4, q5⟩
      have b5 : Below w.heap.size w w5 := b4.trans (q5.toBelow (Nat.le_refl _) b4.size)
      have t1 := s1.below b5
      have t2 := s2.below b5
      have K : Hid (rs.length = n ∧ Words rs ∧ nv rs + nv xs = nv ys ∧ Cells w5 w.heap.size 0 rs ∧ At w5 a1 xs ∧ At w5 a2 ys ∧ Below w.heap.size w w5) := ⟨q1, q2, by omega, q4, t1, t2, b5⟩
      clear hl hc hw hr hx hy wx wy s1 s2 hord b4 q1 q2 q3 q4 q5 b5 t1 t2
      go_wp2_with fail
      refine (bcmp_core a1 a2 n1 cap1 n2 cap2 n1 xs ys (by omega) (by omega) (.inl ⟨hm, rfl⟩) w5 (fun i h => bword_src a1 n1 cap1 xs H.out.1 (by omega) i h w5 K.out.2.2.2.2.1) (fun i h => bword_src a2 n2 cap2 ys H.out.2.1 (by omega) i h w5 K.out.2.2.2.2.2.1)).mono ?_
      rintro e w6 ⟨rfl, hw6⟩
      rw [hw6]
      clear hw6 w6
      go_wp2
      go_loopw [14, 15, 16] (fun c i _ wr => ∃ (k : Nat) (cv : Int), k ≤ n ∧ i = .int .i64 k ∧ c = .int .u64 cv ∧ Drawn w5 wr ∧ Hid (Bk rs xs ys k cv)) (fun _ i _ _ => n - (intOf i).toNat)
      case atStart => exact ⟨0, 0, Nat.zero_le _, rfl, rfl, Drawn.refl _, Bk.start _ _ _⟩
      case round =>
        obtain ⟨k, cv, hk, rfl, rfl, hdr, hb⟩ := hrel
        have HD := hid hdr
        clear hdr
        by_cases hlt : k < n
        · obtain ⟨hx, hy, wx, wy, s1, s2, hord⟩ := H.out
          obtain ⟨q1, q2, q3, q4, t1, t2, b5⟩ := K.out
          have kz : wr.cell? ⟨w.heap.size, k, none⟩ = some (.int .u64 (wd rs k)) := by
            have := q4 k (by omega)
            obtain ⟨q, hq⟩ := HD.out
            rw [hq]
            rw [Nat.zero_add] at this
            simpa using this
          have klib := fun W => add64r (wd rs k) (wd xs k) cv (q2 k) (wx k) hb.out.1 W
          have ST := hid (hb.out.step q3 q2 wx wy)
          have CS : Hid (∀ q, Calls Yba.prog 15 #[.slice a1 n1 cap1, .int .i64 (k : Nat)] (wr.drewN q) fun e w' => e = .returned (.int .u64 (wd xs k)) ∧ w' = wr.drewN q) := fun q => bword_src a1 n1 cap1 xs (by omega) (by omega) k (by omega) _ ((t1.drawn HD.out).drawn ⟨q, rfl⟩)
          have CB : Hid (∀ q, Calls Yba.prog 15 #[.slice a2 n2 cap2, .int .i64 (k : Nat)] (wr.drewN q) fun e w' => e = .returned (.int .u64 (wd ys k)) ∧ w' = wr.drewN q) := fun q => bword_src a2 n2 cap2 ys (by omega) (by omega) k (by omega) _ ((t2.drawn HD.out).drawn ⟨q, rfl⟩)
          have hne : (addR (wd rs k) (wd xs k) cv == wd ys k) = true := by simpa using ST.out.1
          have i0 : (0 : Int) ≤ (k : Int) := by omega
          have i1 : (k : Int) < (n : Int) := by omega
          clear hx hy wx wy s1 s2 hord q1 q2 q3 q4 t1 t2 b5
          go_wp2
          go_quiet ((go_at_call 15; exact Calls.quiet_of_same (CS.out _)))
          go_wp2_with fail
          refine (CB.out nq).mono ?_
          rintro e w7 ⟨rfl, hw7⟩
          rw [hw7]
          clear hw7 w7
          go_wp2
          go_roundw
          case rel => first | exact ⟨k + 1, _, by omega, by go_num, rfl, HD.out.more _, ST.out.2⟩ | (refine ⟨trivial, ?_⟩; (repeat apply Exists.intro); exact ⟨⟨k + 1, _, by omega, by go_num, rfl, HD.out.more _, ST.out.2⟩, rfl⟩)
          case measure => simp [intOf]; omega
        · obtain rfl : n = k := by omega
          obtain rfl : cv = 0 := hb.out.done K.out.2.2.1 (by have := K.out.1; omega) (by have := H.out.1; have := H.out.2.1; omega) (by have := H.out.1; have := H.out.2.1; omega)
          go_wp2
          go_ret
          exact ⟨rfl, by obtain ⟨q, hq⟩ := HD.out; rw [hq]; exact below_drewN K.out.2.2.2.2.2.2 _⟩

set_option maxHeartbeats 3200000 in
set_option maxRecDepth 100000 in
theorem exact_lt_b (a1 a2 : Option Addr) (n1 cap1 n2 cap2 n : Nat) (xs ys : List Int) (p : Int) (p0 : 0 ≤ p) (p1 : p ≤ 255) (hn1 : (n1 : Int) ≤ 1024) (hn2 : (n2 : Int) ≤ 1024) (hm : (n1 : Int) < n2) (hmd : decide (n1 < n2) = true) (en : (n2 : Int) + p % 3 = n) (hx : xs.length = n1) (hy : ys.length = n2) (h1c : n1 ≤ cap1) (h1m : cap1 ≤ maxLen) (h2c : n2 ≤ cap2) (h2m : cap2 ≤ maxLen)
    (wx : Words xs) (wy : Words ys) (hlt : nv xs < nv ys) (w : World) (s1 : At w a1 xs) (s2 : At w a2 ys) :
    Calls Yba.prog 5 #[.slice a1 n1 cap1, .slice a2 n2 cap2, .int .u8 p] w fun e w' => e = .returned (.bool true) ∧ Below w.heap.size w w' := by
  obtain ⟨i0, hi, hz0, hz1, hz2⟩ := info_parts Yba.info28
  have hn : n1 ≤ n ∧ n2 ≤ n ∧ n ≤ 1026 := by omega
  have H : Hid (xs.length = n1 ∧ ys.length = n2 ∧ Words xs ∧ Words ys ∧ At w a1 xs ∧ At w a2 ys ∧ nv xs < nv ys) := ⟨hx, hy, wx, wy, s1, s2, hlt⟩
  have hsg : decide (cmpTo xs ys n2 < 0) = true := decide_eq_true ((cmp_max wx wy n2 (by omega) (by omega)).2 hlt)
  clear hx hy wx wy s1 s2 hlt
  go_enter Yba.func5, Yba.ntmps5
  go_wp2_with (at_make; refine wpList_make_full _ rfl _ _ 24 rfl w.heap.size 28 i0 (.int .u64 0) 1 Yba.underlying24 hi hz0 hz1 _ _ _ _ n rfl rfl (by first | rfl | omega) (by first | rfl | omega) (by rw [hz2]; omega) (by unfold maxLen; omega) (Nat.le_refl _) ?_)
  intro w3 ho3 hg3
  obtain ⟨cz3, fz3, lz3⟩ := made (w := w) ho3
  have bel3 : Below w.heap.size w w3 := (Below.refl _ _).grown hg3 (Nat.le_refl _) (by simp)
  have BEL3 := hid bel3
  have CZ3 := hid cz3
  have FZ3 := hid fz3
  clear ho3 hg3 cz3 fz3 bel3
  go_wp2
  go_loopw [9] (fun i wr => ∃ (k : Nat) (zs : List Int), k ≤ n ∧ i = .int .i64 k ∧ Hid (zs.length = n ∧ Cells wr w.heap.size 0 zs ∧ Wr w.heap.size 0 n w3 wr)) (fun i _ => n - (intOf i).toNat)
  case atStart => exact ⟨0, _, Nat.zero_le _, rfl, List.length_replicate, CZ3.out, Wr.refl _ _ _ _⟩
  case round =>
    obtain ⟨k, zs, hk, rfl, hr⟩ := hrel
    by_cases hlt : k < n
    · obtain ⟨hl, hc, hw⟩ := hr.out
      have kz : wr.cell? ⟨w.heap.size, k, none⟩ = some (.int .u64 (wd zs k)) := by have := hc k (by omega); rwa [Nat.zero_add] at this
      have kf : wr.frozen? ⟨w.heap.size, k, none⟩ = false := by rw [hw.frozen]; have := FZ3.out k hlt; rwa [Nat.zero_add] at this
      have R : Hid (∀ V, (zs.set k V).length = n ∧ Cells (wr.setCell ⟨w.heap.size, k, none⟩ (.int .u64 V)) w.heap.size 0 (zs.set k V) ∧ Wr w.heap.size 0 n w3 (wr.setCell ⟨w.heap.size, k, none⟩ (.int .u64 V))) := fun V => by
        have := hc.set (k := k) (by omega) V
        rw [Nat.zero_add] at this
        exact ⟨by rw [List.length_set]; exact hl, this, hw.setCell (Nat.zero_le _) (by omega) _⟩
      clear hl hc hw hr
      go_wp2
      go_roundw
      case rel => first | exact ⟨k + 1, _, by omega, by go_num, R.out _⟩ | (refine ⟨trivial, ?_⟩; (repeat apply Exists.intro); exact ⟨⟨k + 1, _, by omega, by go_num, R.out _⟩, rfl⟩)
      case measure => simp [intOf]; omega
    · obtain rfl : n = k := by omega
      clear hlt
      go_wp2_with fail
      obtain ⟨hl, hc, hw⟩ := hr.out
      obtain ⟨hx, hy, wx, wy, s1, s2, hord⟩ := H.out
      have b4 : Below w.heap.size w wr := BEL3.out.trans (hw.toBelow (Nat.le_refl _) (by omega))
      refine (absDiff_lt w.heap.size 0 n n zs a1 n1 cap1 xs a2 n2 cap2 ys hl hx hy hn.1 hn.2.1 (Nat.le_refl _) (by unfold maxLen; omega) h1c h1m h2c h2m wx wy wr hc (fun i hi => by rw [hw.frozen]; exact FZ3.out i hi)
        ((s1.below b4).src (fun b o e h => by have := s1.lt b o e h; omega) 0 n) ((s2.below b4).src (fun b o e h => by have := s2.lt b o e h; omega) 0 n) (by omega)).mono ?_
      rintro e w5 ⟨rfl, rs, q1, q2, q3, q4, q5⟩
      have b5 : Below w.heap.size w w5 := b4.trans (q5.toBelow (Nat.le_refl _) b4.size)
      have t1 := s1.below b5
      have t2 := s2.below b5
      have K : Hid (rs.length = n ∧ Words rs ∧ nv rs + nv xs = nv ys ∧ Cells w5 w.heap.size 0 rs ∧ At w5 a1 xs ∧ At w5 a2 ys ∧ Below w.heap.size w w5) := ⟨q1, q2, by omega, q4, t1, t2, b5⟩
      clear hl hc hw hr hx hy wx wy s1 s2 hord b4 q1 q2 q3 q4 q5 b5 t1 t2
      go_wp2_with fail
      refine (bcmp_core a1 a2 n1 cap1 n2 cap2 n2 xs ys (by omega) (by omega) (.inr ⟨hm, rfl⟩) w5 (fun i h => bword_src a1 n1 cap1 xs H.out.1 (by omega) i h w5 K.out.2.2.2.2.1) (fun i h => bword_src a2 n2 cap2 ys H.out.2.1 (by omega) i h w5 K.out.2.2.2.2.2.1)).mono ?_
      rintro e w6 ⟨rfl, hw6⟩
      rw [hw6]
      clear hw6 w6
      go_wp2
      go_loopw [14, 15, 16] (fun c i _ wr => ∃ (k : Nat) (cv : Int), k ≤ n ∧ i = .int .i64 k ∧ c = .int .u64 cv ∧ Drawn w5 wr ∧ Hid (Bk rs xs ys k cv)) (fun _ i _ _ => n - (intOf i).toNat)
      case atStart => exact ⟨0, 0, Nat.zero_le _, rfl, rfl, Drawn.refl _, Bk.start _ _ _⟩
      case round =>
        obtain ⟨k, cv, hk, rfl, rfl, hdr, hb⟩ := hrel
        have HD := hid hdr
        clear hdr
        by_cases hlt : k < n
        · obtain ⟨hx, hy, wx, wy, s1, s2, hord⟩ := H.out
          obtain ⟨q1, q2, q3, q4, t1, t2, b5⟩ := K.out
          have kz : wr.cell? ⟨w.heap.size, k, none⟩ = some (.int .u64 (wd rs k)) := by
            have := q4 k (by omega)
            obtain ⟨q, hq⟩ := HD.out
            rw [hq]
            rw [Nat.zero_add] at this
            simpa using this
          have klib := fun W => add64r (wd rs k) (wd xs k) cv (q2 k) (wx k) hb.out.1 W
          have ST := hid (hb.out.step q3 q2 wx wy)
          have CS : Hid (∀ q, Calls Yba.prog 15 #[.slice a1 n1 cap1, .int .i64 (k : Nat)] (wr.drewN q) fun e w' => e = .returned (.int .u64 (wd xs k)) ∧ w' = wr.drewN q) := fun q => bword_src a1 n1 cap1 xs (by omega) (by omega) k (by omega) _ ((t1.drawn HD.out).drawn ⟨q, rfl⟩)
          have CB : Hid (∀ q, Calls Yba.prog 15 #[.slice a2 n2 cap2, .int .i64 (k : Nat)] (wr.drewN q) fun e w' => e = .returned (.int .u64 (wd ys k)) ∧ w' = wr.drewN q) := fun q => bword_src a2 n2 cap2 ys (by omega) (by omega) k (by omega) _ ((t2.drawn HD.out).drawn ⟨q, rfl⟩)
          have hne : (addR (wd rs k) (wd xs k) cv == wd ys k) = true := by simpa using ST.out.1
          have i0 : (0 : Int) ≤ (k : Int) := by omega
          have i1 : (k : Int) < (n : Int) := by omega
          clear hx hy wx wy s1 s2 hord q1 q2 q3 q4 t1 t2 b5
          go_wp2
          go_quiet ((go_at_call 15; exact Calls.quiet_of_same (CS.out _)))
          go_wp2_with fail
          refine (CB.out nq).mono ?_
          rintro e w7 ⟨rfl, hw7⟩
          rw [hw7]
          clear hw7 w7
          go_wp2
          go_roundw
          case rel => first | exact ⟨k + 1, _, by omega, by go_num, rfl, HD.out.more _, ST.out.2⟩ | (refine ⟨trivial, ?_⟩; (repeat apply Exists.intro); exact ⟨⟨k + 1, _, by omega, by go_num, rfl, HD.out.more _, ST.out.2⟩, rfl⟩)
          case measure => simp [intOf]; omega
        · obtain rfl : n = k := by omega
          obtain rfl : cv = 0 := hb.out.done K.out.2.2.1 (by have := K.out.1; omega) (by have := H.out.1; have := H.out.2.1; omega) (by have := H.out.1; have := H.out.2.1; omega)
          go_wp2
          go_ret
          exact ⟨rfl, by obtain ⟨q, hq⟩ := HD.out; rw [hq]; exact below_drewN K.out.2.2.2.2.2.2 _⟩

set_option maxHeartbeats 3200000 in
set_option maxRecDepth 100000 in
theorem exact_ge_a (a1 a2 : Option Addr) (n1 cap1 n2 cap2 n : Nat) (xs ys : List Int) (p : Int) (p0 : 0 ≤ p) (p1 : p ≤ 255) (hn1 : (n1 : Int) ≤ 1024) (hn2 : (n2 : Int) ≤ 1024) (hm : (n2 : Int) ≤ n1) (hmd : decide (n1 < n2) = false) (en : (n1 : Int) + p % 3 = n) (hx : xs.length = n1) (hy : ys.length = n2) (h1c : n1 ≤ cap1) (h1m : cap1 ≤ maxLen) (h2c : n2 ≤ cap2) (h2m : cap2 ≤ maxLen)
    (wx : Words xs) (wy : Words ys) (hge : ¬ nv xs < nv ys) (w : World) (s1 : At w a1 xs) (s2 : At w a2 ys) :
    Calls Yba.prog 5 #[.slice a1 n1 cap1, .slice a2 n2 cap2, .int .u8 p] w fun e w' => e = .returned (.bool true) ∧ Below w.heap.size w w' := by
  obtain ⟨i0, hi, hz0, hz1, hz2⟩ := info_parts Yba.info28
  have hn : n1 ≤ n ∧ n2 ≤ n ∧ n ≤ 1026 := by omega
  have H : Hid (xs.length = n1 ∧ ys.length = n2 ∧ Words xs ∧ Words ys ∧ At w a1 xs ∧ At w a2 ys ∧ ¬ nv xs < nv ys) := ⟨hx, hy, wx, wy, s1, s2, hge⟩
  have hsg : decide (cmpTo xs ys n1 < 0) = false := decide_eq_false (fun h => hge ((cmp_max wx wy n1 (by omega) (by omega)).1 h))
  clear hx hy wx wy s1 s2 hge
  go_enter Yba.func5, Yba.ntmps5
  go_wp2_with (at_make; refine wpList_make_full _ rfl _ _ 24 rfl w.heap.size 28 i0 (.int .u64 0) 1 Yba.underlying24 hi hz0 hz1 _ _ _ _ n rfl rfl (by first | rfl | omega) (by first | rfl | omega) (by rw [hz2]; omega) (by unfold maxLen; omega) (Nat.le_refl _) ?_)
  intro w3 ho3 hg3
  obtain ⟨cz3, fz3, lz3⟩ := made (w := w) ho3
  have bel3 : Below w.heap.size w w3 := (Below.refl _ _).grown hg3 (Nat.le_refl _) (by simp)
  have BEL3 := hid bel3
  have CZ3 := hid cz3
  have FZ3 := hid fz3
  clear ho3 hg3 cz3 fz3 bel3
  go_wp2
  go_loopw [9] (fun i wr => ∃ (k : Nat) (zs : List Int), k ≤ n ∧ i = .int .i64 k ∧ Hid (zs.length = n ∧ Cells wr w.heap.size 0 zs ∧ Wr w.heap.size 0 n w3 wr)) (fun i _ => n - (intOf i).toNat)
  case atStart => exact ⟨0, _, Nat.zero_le _, rfl, List.length_replicate, CZ3.out, Wr.refl _ _ _ _⟩
  case round =>
    obtain ⟨k, zs, hk, rfl, hr⟩ := hrel
    by_cases hlt : k < n
    · obtain ⟨hl, hc, hw⟩ := hr.out
      have kz : wr.cell? ⟨w.heap.size, k, none⟩ = some (.int .u64 (wd zs k)) := by have := hc k (by omega); rwa [Nat.zero_add] at this
      have kf : wr.frozen? ⟨w.heap.size, k, none⟩ = false := by rw [hw.frozen]; have := FZ3.out k hlt; rwa [Nat.zero_add] at this
      have R : Hid (∀ V, (zs.set k V).length = n ∧ Cells (wr.setCell ⟨w.heap.size, k, none⟩ (.int .u64 V)) w.heap.size 0 (zs.set k V) ∧ Wr w.heap.size 0 n w3 (wr.setCell ⟨w.heap.size, k, none⟩ (.int .u64 V))) := fun V => by
        have := hc.set (k := k) (by omega) V
        rw [Nat.zero_add] at this
        exact ⟨by rw [List.length_set]; exact hl, this, hw.setCell (Nat.zero_le _) (by omega) _⟩
      clear hl hc hw hr
      go_wp2
      go_roundw
      case rel => first | exact ⟨k + 1, _, by omega, by go_num, R.out _⟩ | (refine ⟨trivial, ?_⟩; (repeat apply Exists.intro); exact ⟨⟨k + 1, _, by omega, by go_num, R.out _⟩, rfl⟩)
      case measure => simp [intOf]; omega
    · obtain rfl : n = k := by omega
      clear hlt
      go_wp2_with fail
      obtain ⟨hl, hc, hw⟩ := hr.out
      obtain ⟨hx, hy, wx, wy, s1, s2, hord⟩ := H.out
      have b4 : Below w.heap.size w wr := BEL3.out.trans (hw.toBelow (Nat.le_refl _) (by omega))
      refine (absDiff_ge w.heap.size 0 n n zs a1 n1 cap1 xs a2 n2 cap2 ys hl hx hy hn.1 hn.2.1 (Nat.le_refl _) (by unfold maxLen; omega) h1c h1m h2c h2m wx wy wr hc (fun i hi => by rw [hw.frozen]; exact FZ3.out i hi)
        ((s1.below b4).src (fun b o e h => by have := s1.lt b o e h; omega) 0 n) ((s2.below b4).src (fun b o e h => by have := s2.lt b o e h; omega) 0 n) (by omega)).mono ?_
      rintro e w5 ⟨rfl, rs, q1, q2, q3, q4, q5⟩
      have b5 : Below w.heap.size w w5 := b4.trans (q5.toBelow (Nat.le_refl _) b4.size)
      have t1 := s1.below b5
      have t2 := s2.below b5
      have K : Hid (rs.length = n ∧ Words rs ∧ nv rs + nv ys = nv xs ∧ Cells w5 w.heap.size 0 rs ∧ At w5 a1 xs ∧ At w5 a2 ys ∧ Below w.heap.size w w5) := ⟨q1, q2, by omega, q4, t1, t2, b5⟩
      clear hl hc hw hr hx hy wx wy s1 s2 hord b4 q1 q2 q3 q4 q5 b5 t1 t2
      go_wp2_with fail
      refine (bcmp_core a1 a2 n1 cap1 n2 cap2 n1 xs ys (by omega) (by omega) (.inl ⟨hm, rfl⟩) w5 (fun i h => bword_src a1 n1 cap1 xs H.out.1 (by omega) i h w5 K.out.2.2.2.2.1) (fun i h => bword_src a2 n2 cap2 ys H.out.2.1 (by omega) i h w5 K.out.2.2.2.2.2.1)).mono ?_
      rintro e w6 ⟨rfl, hw6⟩
      rw [hw6]
      clear hw6 w6
      go_wp2
      go_loopw [14, 15, 16] (fun c i _ wr => ∃ (k : Nat) (cv : Int), k ≤ n ∧ i = .int .i64 k ∧ c = .int .u64 cv ∧ Drawn w5 wr ∧ Hid (Bk rs ys xs k cv)) (fun _ i _ _ => n - (intOf i).toNat)
      case atStart => exact ⟨0, 0, Nat.zero_le _, rfl, rfl, Drawn.refl _, Bk.start _ _ _⟩
      case round =>
        obtain ⟨k, cv, hk, rfl, rfl, hdr, hb⟩ := hrel
        have HD := hid hdr
        clear hdr
        by_cases hlt : k < n
        · obtain ⟨hx, hy, wx, wy, s1, s2, hord⟩ := H.out
          obtain ⟨q1, q2, q3, q4, t1, t2, b5⟩ := K.out
          have kz : wr.cell? ⟨w.heap.size, k, none⟩ = some (.int .u64 (wd rs k)) := by
            have := q4 k (by omega)
            obtain ⟨q, hq⟩ := HD.out
            rw [hq]
            rw [Nat.zero_add] at this
            simpa using this
          have klib := fun W => add64r (wd rs k) (wd ys k) cv (q2 k) (wy k) hb.out.1 W
          have ST := hid (hb.out.step q3 q2 wy wx)
          have CS : Hid (∀ q, Calls Yba.prog 15 #[.slice a2 n2 cap2, .int .i64 (k : Nat)] (wr.drewN q) fun e w' => e = .returned (.int .u64 (wd ys k)) ∧ w' = wr.drewN q) := fun q => bword_src a2 n2 cap2 ys (by omega) (by omega) k (by omega) _ ((t2.drawn HD.out).drawn ⟨q, rfl⟩)
          have CB : Hid (∀ q, Calls Yba.prog 15 #[.slice a1 n1 cap1, .int .i64 (k : Nat)] (wr.drewN q) fun e w' => e = .returned (.int .u64 (wd xs k)) ∧ w' = wr.drewN q) := fun q => bword_src a1 n1 cap1 xs (by omega) (by omega) k (by omega) _ ((t1.drawn HD.out).drawn ⟨q, rfl⟩)
          have hne : (addR (wd rs k) (wd ys k) cv == wd xs k) = true := by simpa using ST.out.1
          have i0 : (0 : Int) ≤ (k : Int) := by omega
          have i1 : (k : Int) < (n : Int) := by omega
          clear hx hy wx wy s1 s2 hord q1 q2 q3 q4 t1 t2 b5
          go_wp2
          go_quiet ((go_at_call 15; exact Calls.quiet_of_same (CS.out _)))
          go_wp2_with fail
          refine (CB.out nq).mono ?_
          rintro e w7 ⟨rfl, hw7⟩
          rw [hw7]
          clear hw7 w7
          go_wp2
          go_roundw
          case rel => first | exact ⟨k + 1, _, by omega, by go_num, rfl, HD.out.more _, ST.out.2⟩ | (refine ⟨trivial, ?_⟩; (repeat apply Exists.intro); exact ⟨⟨k + 1, _, by omega, by go_num, rfl, HD.out.more _, ST.out.2⟩, rfl⟩)
          case measure => simp [intOf]; omega
        · obtain rfl : n = k := by omega
          obtain rfl : cv = 0 := hb.out.done K.out.2.2.1 (by have := K.out.1; omega) (by have := H.out.1; have := H.out.2.1; omega) (by have := H.out.1; have := H.out.2.1; omega)
          go_wp2
          go_ret
          exact ⟨rfl, by obtain ⟨q, hq⟩ := HD.out; rw [hq]; exact below_drewN K.out.2.2.2.2.2.2 _⟩

set_option maxHeartbeats 3200000 in
set_option maxRecDepth 100000 in
theorem exact_ge_b (a1 a2 : Option Addr) (n1 cap1 n2 cap2 n : Nat) (xs ys : List Int) (p : Int) (p0 : 0 ≤ p) (p1 : p ≤ 255) (hn1 : (n1 : Int) ≤ 1024) (hn2 : (n2 : Int) ≤ 1024) (hm : (n1 : Int) < n2) (hmd : decide (n1 < n2) = true) (en : (n2 : Int) + p % 3 = n) (hx : xs.length = n1) (hy : ys.length = n2) (h1c : n1 ≤ cap1) (h1m : cap1 ≤ maxLen) (h2c : n2 ≤ cap2) (h2m : cap2 ≤ maxLen)
    (wx : Words xs) (wy : Words ys) (hge : ¬ nv xs < nv ys) (w : World) (s1 : At w a1 xs) (s2 : At w a2 ys) :
    Calls Yba.prog 5 #[.slice a1 n1 cap1, .slice a2 n2 cap2, .int .u8 p] w fun e w' => e = .returned (.bool true) ∧ Below w.heap.size w w' := by
  obtain ⟨i0, hi, hz0, hz1, hz2⟩ := info_parts Yba.info28
  have hn : n1 ≤ n ∧ n2 ≤ n ∧ n ≤ 1026 := by omega
  have H : Hid (xs.length = n1 ∧ ys.length = n2 ∧ Words xs ∧ Words ys ∧ At w a1 xs ∧ At w a2 ys ∧ ¬ nv xs < nv ys) := ⟨hx, hy, wx, wy, s1, s2, hge⟩
  have hsg : decide (cmpTo xs ys n2 < 0) = false := decide_eq_false (fun h => hge ((cmp_max wx wy n2 (by omega) (by omega)).1 h))
  clear hx hy wx wy s1 s2 hge
  go_enter Yba.func5, Yba.ntmps5
  go_wp2_with (at_make; refine wpList_make_full _ rfl _ _ 24 rfl w.heap.size 28 i0 (.int .u64 0) 1 Yba.underlying24 hi hz0 hz1 _ _ _ _ n rfl rfl (by first | rfl | omega) (by first | rfl | omega) (by rw [hz2]; omega) (by unfold maxLen; omega) (Nat.le_refl _) ?_)
  intro w3 ho3 hg3
  obtain ⟨cz3, fz3, lz3⟩ := made (w := w) ho3
  have bel3 : Below w.heap.size w w3 := (Below.refl _ _).grown hg3 (Nat.le_refl _) (by simp)
  have BEL3 := hid bel3
  have CZ3 := hid cz3
  have FZ3 := hid fz3
  clear ho3 hg3 cz3 fz3 bel3
  go_wp2
  go_loopw [9] (fun i wr => ∃ (k : Nat) (zs : List Int), k ≤ n ∧ i = .int .i64 k ∧ Hid (zs.length = n ∧ Cells wr w.heap.size 0 zs ∧ Wr w.heap.size 0 n w3 wr)) (fun i _ => n - (intOf i).toNat)
  case atStart => exact ⟨0, _, Nat.zero_le _, rfl, List.length_replicate, CZ3.out, Wr.refl _ _ _ _⟩
  case round =>
    obtain ⟨k, zs, hk, rfl, hr⟩ := hrel
    by_cases hlt : k < n
    · obtain ⟨hl, hc, hw⟩ := hr.out
      have kz : wr.cell? ⟨w.heap.size, k, none⟩ = some (.int .u64 (wd zs k)) := by have := hc k (by omega); rwa [Nat.zero_add] at this
      have kf : wr.frozen? ⟨w.heap.size, k, none⟩ = false := by rw [hw.frozen]; have := FZ3.out k hlt; rwa [Nat.zero_add] at this
      have R : Hid (∀ V, (zs.set k V).length = n ∧ Cells (wr.setCell ⟨w.heap.size, k, none⟩ (.int .u64 V)) w.heap.size 0 (zs.set k V) ∧ Wr w.heap.size 0 n w3 (wr.setCell ⟨w.heap.size, k, none⟩ (.int .u64 V))) := fun V => by
        have := hc.set (k := k) (by omega) V
        rw [Nat.zero_add] at this
        exact ⟨by rw [List.length_set]; exact hl, this, hw.setCell (Nat.zero_le _) (by omega) _⟩
      clear hl hc hw hr
      go_wp2
      go_roundw
      case rel => first | exact ⟨k + 1, _, by omega, by go_num, R.out _⟩ | (refine ⟨trivial, ?_⟩; (repeat apply Exists.intro); exact ⟨⟨k + 1, _, by omega, by go_num, R.out _⟩, rfl⟩)
      case measure => simp [intOf]; omega
    · obtain rfl : n = k := by omega
      clear hlt
      go_wp2_with fail
      obtain ⟨hl, hc, hw⟩ := hr.out
      obtain ⟨hx, hy, wx, wy, s1, s2, hord⟩ := H.out
      have b4 : Below w.heap.size w wr := BEL3.out.trans (hw.toBelow (Nat.le_refl _) (by omega))
      refine (absDiff_ge w.heap.size 0 n n zs a1 n1 cap1 xs a2 n2 cap2 ys hl hx hy hn.1 hn.2.1 (Nat.le_refl _) (by unfold maxLen; omega) h1c h1m h2c h2m wx wy wr hc (fun i hi => by rw [hw.frozen]; exact FZ3.out i hi)
        ((s1.below b4).src (fun b o e h => by have := s1.lt b o e h; omega) 0 n) ((s2.below b4).src (fun b o e h => by have := s2.lt b o e h; omega) 0 n) (by omega)).mono ?_
      rintro e w5 ⟨rfl, rs, q1, q2, q3, q4, q5⟩
      have b5 : Below w.heap.size w w5 := b4.trans (q5.toBelow (Nat.le_refl _) b4.size)
      have t1 := s1.below b5
      have t2 := s2.below b5
      have K : Hid (rs.length = n ∧ Words rs ∧ nv rs + nv ys = nv xs ∧ Cells w5 w.heap.size 0 rs ∧ At w5 a1 xs ∧ At w5 a2 ys ∧ Below w.heap.size w w5) := ⟨q1, q2, by omega, q4, t1, t2, b5⟩
      clear hl hc hw hr hx hy wx wy s1 s2 hord b4 q1 q2 q3 q4 q5 b5 t1 t2
      go_wp2_with fail
      refine (bcmp_core a1 a2 n1 cap1 n2 cap2 n2 xs ys (by omega) (by omega) (.inr ⟨hm, rfl⟩) w5 (fun i h => bword_src a1 n1 cap1 xs H.out.1 (by omega) i h w5 K.out.2.2.2.2.1) (fun i h => bword_src a2 n2 cap2 ys H.out.2.1 (by omega) i h w5 K.out.2.2.2.2.2.1)).mono ?_
      rintro e w6 ⟨rfl, hw6⟩
      rw [hw6]
      clear hw6 w6
      go_wp2
      go_loopw [14, 15, 16] (fun c i _ wr => ∃ (k : Nat) (cv : Int), k ≤ n ∧ i = .int .i64 k ∧ c = .int .u64 cv ∧ Drawn w5 wr ∧ Hid (Bk rs ys xs k cv)) (fun _ i _ _ => n - (intOf i).toNat)
      case atStart => exact ⟨0, 0, Nat.zero_le _, rfl, rfl, Drawn.refl _, Bk.start _ _ _⟩
      case round =>
        obtain ⟨k, cv, hk, rfl, rfl, hdr, hb⟩ := hrel
        have HD := hid hdr
        clear hdr
        by_cases hlt : k < n
        · obtain ⟨hx, hy, wx, wy, s1, s2, hord⟩ := H.out
          obtain ⟨q1, q2, q3, q4, t1, t2, b5⟩ := K.out
          have kz : wr.cell? ⟨w.heap.size, k, none⟩ = some (.int .u64 (wd rs k)) := by
            have := q4 k (by omega)
            obtain ⟨q, hq⟩ := HD.out
            rw [hq]
            rw [Nat.zero_add] at this
            simpa using this
          have klib := fun W => add64r (wd rs k) (wd ys k) cv (q2 k) (wy k) hb.out.1 W
          have ST := hid (hb.out.step q3 q2 wy wx)
          have CS : Hid (∀ q, Calls Yba.prog 15 #[.slice a2 n2 cap2, .int .i64 (k : Nat)] (wr.drewN q) fun e w' => e = .returned (.int .u64 (wd ys k)) ∧ w' = wr.drewN q) := fun q => bword_src a2 n2 cap2 ys (by omega) (by omega) k (by omega) _ ((t2.drawn HD.out).drawn ⟨q, rfl⟩)
          have CB : Hid (∀ q, Calls Yba.prog 15 #[.slice a1 n1 cap1, .int .i64 (k : Nat)] (wr.drewN q) fun e w' => e = .returned (.int .u64 (wd xs k)) ∧ w' = wr.drewN q) := fun q => bword_src a1 n1 cap1 xs (by omega) (by omega) k (by omega) _ ((t1.drawn HD.out).drawn ⟨q, rfl⟩)
          have hne : (addR (wd rs k) (wd ys k) cv == wd xs k) = true := by simpa using ST.out.1
          have i0 : (0 : Int) ≤ (k : Int) := by omega
          have i1 : (k : Int) < (n : Int) := by omega
          clear hx hy wx wy s1 s2 hord q1 q2 q3 q4 t1 t2 b5
          go_wp2
          go_quiet ((go_at_call 15; exact Calls.quiet_of_same (CS.out _)))
          go_wp2_with fail
          refine (CB.out nq).mono ?_
          rintro e w7 ⟨rfl, hw7⟩
          rw [hw7]
          clear hw7 w7
          go_wp2
          go_roundw
          case rel => first | exact ⟨k + 1, _, by omega, by go_num, rfl, HD.out.more _, ST.out.2⟩ | (refine ⟨trivial, ?_⟩; (repeat apply Exists.intro); exact ⟨⟨k + 1, _, by omega, by go_num, rfl, HD.out.more _, ST.out.2⟩, rfl⟩)
          case measure => simp [intOf]; omega
        · obtain rfl : n = k := by omega
          obtain rfl : cv = 0 := hb.out.done K.out.2.2.1 (by have := K.out.1; omega) (by have := H.out.1; have := H.out.2.1; omega) (by have := H.out.1; have := H.out.2.1; omega)
          go_wp2
          go_ret
          exact ⟨rfl, by obtain ⟨q, hq⟩ := HD.out; rw [hq]; exact below_drewN K.out.2.2.2.2.2.2 _⟩

end Go.Proofs.Ybulkcmly
