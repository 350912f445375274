/-
  addMul: z += x * y, y a word.
-/
import Derived.Test.YbulkcmlyMulA
namespace Go.Proofs.Ybulkcmly
open Go.RowKit
set_option linter.unusedVariables false

/-- One word of z + x * y + c, and what is carried. -/
def mulS (z x y c : Int) : Int := addR z (addR (x * y % 18446744073709551616) c 0) 0
def mulC (z x y c : Int) : Int := x * y / 18446744073709551616 + carR (x * y % 18446744073709551616) c 0 + carR z (addR (x * y % 18446744073709551616) c 0) 0
theorem mul_eq (z x y c : Int) : z + x * y + c = mulS z x y c + mulC z x y c * 18446744073709551616 := by
  unfold mulS mulC
  have e1 := add_eq (x * y % 18446744073709551616) c 0
  have e2 := add_eq z (addR (x * y % 18446744073709551616) c 0) 0
  generalize x * y = p at *
  omega
theorem mulS_word (z x y c : Int) : 0 ≤ mulS z x y c ∧ mulS z x y c < 18446744073709551616 := addR_word _ _ _
theorem mul_le {x y : Int} (hx : 0 ≤ x ∧ x < 18446744073709551616) (hy : 0 ≤ y ∧ y < 18446744073709551616) : 0 ≤ x * y ∧ x * y ≤ 18446744073709551615 * 18446744073709551615 :=
  ⟨Int.mul_nonneg hx.1 hy.1, Int.mul_le_mul (by omega) (by omega) hy.1 (by decide)⟩
theorem mulC_word {z x y c : Int} (hz : 0 ≤ z ∧ z < 18446744073709551616) (hx : 0 ≤ x ∧ x < 18446744073709551616) (hy : 0 ≤ y ∧ y < 18446744073709551616) (hc : 0 ≤ c ∧ c < 18446744073709551616) :
    0 ≤ mulC z x y c ∧ mulC z x y c < 18446744073709551616 := by
  have e := mul_eq z x y c
  have s := mulS_word z x y c
  have m := mul_le hx hy
  generalize x * y = p at *
  omega
/-- The carry's two steps do not wrap. -/
theorem mulC_steps {z x y c : Int} (hz : 0 ≤ z ∧ z < 18446744073709551616) (hx : 0 ≤ x ∧ x < 18446744073709551616) (hy : 0 ≤ y ∧ y < 18446744073709551616) (hc : 0 ≤ c ∧ c < 18446744073709551616) :
    0 ≤ x * y / 18446744073709551616 + carR (x * y % 18446744073709551616) c 0 ∧ x * y / 18446744073709551616 + carR (x * y % 18446744073709551616) c 0 < 18446744073709551616 := by
  have h := mulC_word hz hx hy hc
  have b := carR_bit (x := z) (y := addR (x * y % 18446744073709551616) c 0) (c := 0) hz (addR_word _ _ _) (by decide)
  have b2 := carR_bit (x := x * y % 18446744073709551616) (y := c) (c := 0) (by omega) hc (by decide)
  have m := mul_le hx hy
  unfold mulC at h
  generalize x * y = p at *
  omega

def MulSt (zs xs : List Int) (y : Int) (k : Nat) (ls : List Int) (c : Int) : Prop := ls.length = k ∧ Words ls ∧ (0 ≤ c ∧ c < 18446744073709551616) ∧ nv (zs.take k) + nv (xs.take k) * y = nv ls + c * pw k
theorem MulSt.start (zs xs : List Int) (y : Int) : MulSt zs xs y 0 [] 0 := ⟨rfl, words_nil, by decide, by simp [nv_nil]⟩
theorem MulSt.step {zs xs ls : List Int} {y : Int} {k : Nat} {c : Int} (h : MulSt zs xs y k ls c) (hz : Words zs) (hx : Words xs) (hy : 0 ≤ y ∧ y < 18446744073709551616) :
    MulSt zs xs y (k + 1) (ls ++ [mulS (wd zs k) (wd xs k) y c]) (mulC (wd zs k) (wd xs k) y c) := by
  obtain ⟨h1, h2, h3, h4⟩ := h
  refine ⟨by simp [h1], h2.append (words_one (mulS_word _ _ _ _)), mulC_word (hz k) (hx k) hy h3, ?_⟩
  have e := mul_eq (wd zs k) (wd xs k) y c
  rw [take_past, take_past, nv_snoc, h1, pw_succ]
  generalize mulS (wd zs k) (wd xs k) y c = r at *
  generalize mulC (wd zs k) (wd xs k) y c = c' at *
  grind

set_option maxHeartbeats 1600000 in
theorem addMul_at (b off n cap b2 off2 cap2 : Nat) (zs xs : List Int) (y : Int) (hl : zs.length = n) (hl2 : xs.length = n) (hn : n ≤ 9223372036854775807) (hz : Words zs) (hx : Words xs) (hy : 0 ≤ y ∧ y < 18446744073709551616) (w : World)
    (hc : Cells w b off zs) (hf : Free w b off n) (hc2 : Cells w b2 off2 xs) (hd : b2 ≠ b ∨ off2 + n ≤ off ∨ off + n ≤ off2) :
    Calls Yba.prog 33 #[.slice (some ⟨b, off, none⟩) n cap, .slice (some ⟨b2, off2, none⟩) n cap2, .int .u64 y] w fun e w' => ∃ rs c, e = .returned (.int .u64 c) ∧ rs.length = n ∧ Words rs ∧ (0 ≤ c ∧ c < 18446744073709551616) ∧ nv zs + nv xs * y = nv rs + c * pw n ∧ Cells w' b off rs ∧ Wr b off n w w' := by
  have H : Hid (zs.length = n ∧ xs.length = n ∧ Words zs ∧ Words xs ∧ (0 ≤ y ∧ y < 18446744073709551616) ∧ Cells w b off zs ∧ Free w b off n ∧ Cells w b2 off2 xs ∧ (b2 ≠ b ∨ off2 + n ≤ off ∨ off + n ≤ off2)) := ⟨hl, hl2, hz, hx, hy, hc, hf, hc2, hd⟩
  clear hl hl2 hz hx hy hc hf hc2 hd
  go_enter Yba.func33, Yba.ntmps33
  go_wp2
  go_loopw [7, 8, 9, 10, 11, 12, 15] (fun co _ _ _ _ _ i wr => ∃ (k : Nat) (cv : Int) (ls : List Int), k ≤ n ∧ i = .int .i64 k ∧ co = .int .u64 cv ∧ Hid (MulSt zs xs y k ls cv ∧ Cells wr b off (ls ++ zs.drop k) ∧ Wr b off n w wr)) (fun _ _ _ _ _ _ i _ => n - (intOf i).toNat)
  case atStart => exact ⟨0, 0, [], Nat.zero_le _, rfl, rfl, MulSt.start zs xs y, by simpa using H.out.2.2.2.2.2.1, Wr.refl _ _ _ _⟩
  case round =>
    obtain ⟨k, cv, ls, hk, rfl, rfl, hr⟩ := hrel
    by_cases hlt : k < n
    · obtain ⟨hl, hl2, hz, hx, hy, hc, hf, hc2, hd⟩ := H.out
      obtain ⟨hs, hcr, hwr⟩ := hr.out
      have kz : wr.cell? ⟨b, off + k, none⟩ = some (.int .u64 (wd zs k)) := by
        have := hcr k (by rw [List.length_append, hs.1, List.length_drop]; omega)
        rwa [show wd (ls ++ zs.drop k) k = wd zs k by unfold wd; rw [List.getD_eq_getElem?_getD, List.getElem?_append_right (by rw [hs.1]; omega), hs.1, List.getElem?_drop, List.getD_eq_getElem?_getD]; simp] at this
      have ky : wr.cell? ⟨b2, off2 + k, none⟩ = some (.int .u64 (wd xs k)) := (hc2.kept hwr (by omega)) k (by omega)
      have kf : wr.frozen? ⟨b, off + k, none⟩ = false := by rw [hwr.frozen]; exact hf k (by omega)
      have st := hs.step hz hx hy
      have R : Hid (MulSt zs xs y (k + 1) (ls ++ [mulS (wd zs k) (wd xs k) y cv]) (mulC (wd zs k) (wd xs k) y cv) ∧ Cells (wr.setCell ⟨b, off + k, none⟩ (.int .u64 (mulS (wd zs k) (wd xs k) y cv))) b off ((ls ++ [mulS (wd zs k) (wd xs k) y cv]) ++ zs.drop (k + 1)) ∧ Wr b off n w (wr.setCell ⟨b, off + k, none⟩ (.int .u64 (mulS (wd zs k) (wd xs k) y cv)))) :=
        ⟨st, hcr.put hs.1 (by omega) _, hwr.setCell (by omega) (by omega) _⟩
      have q1 := mulC_steps (hz k) (hx k) hy hs.2.2.1
      have q2 := mulC_word (hz k) (hx k) hy hs.2.2.1
      unfold mulS mulC at R
      unfold mulC at q2
      have HM := fun W => mul64r (wd xs k) y (hx k) hy W
      have klib1 := fun W => add64r (wd xs k * y % 18446744073709551616) cv 0 (by omega) hs.2.2.1 (by decide) W
      have klib2 := fun W => add64r (wd zs k) (addR (wd xs k * y % 18446744073709551616) cv 0) 0 (hz k) (addR_word _ _ _) (by decide) W
      generalize addR (wd zs k) (addR (wd xs k * y % 18446744073709551616) cv 0) 0 = s1 at *
      generalize carR (wd zs k) (addR (wd xs k * y % 18446744073709551616) cv 0) 0 = cc2 at *
      generalize addR (wd xs k * y % 18446744073709551616) cv 0 = lo2 at *
      generalize carR (wd xs k * y % 18446744073709551616) cv 0 = cc1 at *
      generalize wd xs k * y / 18446744073709551616 = hi at *
      generalize wd xs k * y % 18446744073709551616 = lo at *
      have HM2 : Hid (∀ W, Calls Yba.prog 20 #[.int .u64 (wd xs k), .int .u64 y] W fun e w' => e = .returned (.tuple #[.int .u64 hi, .int .u64 lo]) ∧ w' = W) := HM
      have e1 : IntKind.u64.wrap (hi + cc1) = hi + cc1 := by rw [IntKind.wrap_u64]; omega
      have e2 : IntKind.u64.wrap (hi + cc1 + cc2) = hi + cc1 + cc2 := by rw [IntKind.wrap_u64]; omega
      clear hl hl2 hz hx hy hc hf hc2 hd hs hcr hwr hr st HM
      go_wp2_with (first | (go_at_call 20; refine (HM2.out _).mono ?_; rintro e w9 ⟨rfl, hw9⟩; rw [hw9]; clear hw9 w9))
      go_roundw
      case rel => first | exact ⟨k + 1, _, _, by omega, by go_num, rfl, R⟩ | (refine ⟨trivial, ?_⟩; (repeat apply Exists.intro); exact ⟨⟨k + 1, _, _, by omega, by go_num, rfl, R⟩, rfl⟩)
      case measure => simp [intOf]; omega
    · obtain rfl : n = k := by omega
      clear hlt
      go_wp2
      go_ret
      obtain ⟨hl, hl2, hz, hx, hy, hc, hf, hc2, hd⟩ := H.out
      obtain ⟨hs, hcr, hwr⟩ := hr.out
      have h4 := hs.2.2.2
      rw [List.take_of_length_le (by omega), List.take_of_length_le (by omega)] at h4
      rw [List.drop_of_length_le (by omega), List.append_nil] at hcr
      exact ⟨ls, cv, rfl, hs.1, hs.2.1, hs.2.2.1, h4, hcr, hwr⟩
end Go.Proofs.Ybulkcmly
