/-
  absDiff.
-/
import Derived.Test.YbulkcmlyAbs
namespace Go.Proofs.Ybulkcmly
open Go.RowKit
set_option linter.unusedVariables false

theorem hid {p : Prop} (h : p) : Hid p := h

theorem Free.same {w w' : World} {b off n b' off' n' : Nat} (h : Free w b off n) (hw : Wr b off' n' w w') : Free w' b off n := fun i hi => by rw [hw.frozen]; exact h i hi
theorem Free.sub {w : World} {b off n : Nat} (h : Free w b off n) (k m : Nat) (hk : k + m ≤ n) : Free w b (off + k) m := fun i hi => by rw [Nat.add_assoc]; exact h (k + i) (by omega)

theorem subIn_src (b off n cap : Nat) (ao : Option Addr) (m cap2 : Nat) (zs ys : List Int) (hl : zs.length = n) (hl2 : ys.length = m) (hmn : m ≤ n) (hn : n ≤ 9223372036854775807) (hz : Words zs) (hy : Words ys) (w : World)
    (hc : Cells w b off zs) (hf : Free w b off n) (hs : Src w ao ys b off n) :
    Calls Yba.prog 22 #[.slice (some ⟨b, off, none⟩) n cap, .slice ao m cap2] w fun e w' => ∃ rs bo, e = .returned (.int .u64 bo) ∧ rs.length = n ∧ Words rs ∧ (0 ≤ bo ∧ bo ≤ 1) ∧ nv zs - nv ys = nv rs - bo * pw n ∧ Cells w' b off rs ∧ Wr b off n w w' := by
  rcases hs with rfl | ⟨b2, o2, rfl, hc2, hd⟩
  · simp at hl2; subst hl2
    refine (subIn_nil _ n cap ao cap2 hn w).mono fun e w' ⟨h1, h2⟩ => ?_
    subst h2
    exact ⟨zs, 0, h1, hl, hz, by decide, by simp [nv_nil], hc, Wr.refl _ _ _ _⟩
  · exact subIn_at b off n cap b2 o2 m cap2 zs ys hl hl2 hmn hn hz hy w hc hf hc2 (by rw [← hl2]; exact hd)

theorem addIn_src (b off n cap : Nat) (ao : Option Addr) (m cap2 : Nat) (zs ys : List Int) (hl : zs.length = n) (hl2 : ys.length = m) (hmn : m ≤ n) (hn : n ≤ 9223372036854775807) (hz : Words zs) (hy : Words ys) (w : World)
    (hc : Cells w b off zs) (hf : Free w b off n) (hs : Src w ao ys b off n) :
    Calls Yba.prog 29 #[.slice (some ⟨b, off, none⟩) n cap, .slice ao m cap2] w fun e w' => ∃ rs bo, e = .returned (.int .u64 bo) ∧ rs.length = n ∧ Words rs ∧ (0 ≤ bo ∧ bo ≤ 1) ∧ nv zs + nv ys = nv rs + bo * pw n ∧ Cells w' b off rs ∧ Wr b off n w w' := by
  rcases hs with rfl | ⟨b2, o2, rfl, hc2, hd⟩
  · simp at hl2; subst hl2
    refine (addIn_nil _ n cap ao cap2 hn w).mono fun e w' ⟨h1, h2⟩ => ?_
    subst h2
    exact ⟨zs, 0, h1, hl, hz, by decide, by simp [nv_nil], hc, Wr.refl _ _ _ _⟩
  · exact addIn_at b off n cap b2 o2 m cap2 zs ys hl hl2 hmn hn hz hy w hc hf hc2 (by rw [← hl2]; exact hd)

/-- copy(z, x), clear(z[len(x):]): z is x with zero words on top. -/
theorem pad_to (w : World) (b off n cap : Nat) (zs : List Int) (ao : Option Addr) (m cap2 : Nat) (xs : List Int) (hz : zs.length = n) (hx : xs.length = m) (hmn : m ≤ n) (hc : Cells w b off zs) (hf : Free w b off n) (hs : At w ao xs) :
    ∃ w2 w3, (∀ t2 ty, (Builtin.copy_ #[24, t2] ty #[.slice (some ⟨b, off, none⟩) n cap, .slice ao m cap2]).run Yba.prog w = .ok (goInt m) w2) ∧
      (∀ ty, ∀ x, (0 < n - m → x = some ⟨b, off + m, none⟩) → (Builtin.clear_ #[24] ty #[.slice x (n - m) (cap - m)]).run Yba.prog w2 = .ok (.tuple #[]) w3) ∧ Cells w3 b off (xs ++ List.replicate (n - m) 0) ∧ Wr b off n w w3 := by
  obtain ⟨w2, h1, h2, h3⟩ := copy_to w b off n cap zs ao m cap2 xs hz hx hmn hc hf hs
  by_cases e : 0 < n - m
  · have c2 := h2.drop m
    rw [List.drop_append_of_le_length (by omega), List.drop_of_length_le (by omega), List.nil_append] at c2
    obtain ⟨w3, k1, k2, k3⟩ := clear_to w2 b (off + m) (n - m) (cap - m) (zs.drop m) (by rw [List.length_drop]; omega) e c2 ((hf.same (b' := b) h3).sub m (n - m) (by omega))
    refine ⟨w2, w3, h1, fun ty x hx => by rw [hx e]; exact k1 ty, ?_, h3.trans (k3.mono (by omega) (by omega))⟩
    intro i hi
    by_cases hi2 : i < m
    · rw [k3.cell (off + i) (by omega), h2 i (by rw [List.length_append]; omega)]
      congr 2
      unfold wd
      rw [List.getD_eq_getElem?_getD, List.getD_eq_getElem?_getD, List.getElem?_append_left (by omega), List.getElem?_append_left (by omega)]
    · have := k2 (i - m) (by rw [List.length_replicate]; rw [List.length_append, List.length_replicate] at hi; omega)
      rw [show off + m + (i - m) = off + i by omega] at this
      rw [this]
      congr 2
      unfold wd
      rw [List.getD_eq_getElem?_getD, List.getD_eq_getElem?_getD, List.getElem?_append_right (by omega), hx]
  · have e2 : n - m = 0 := by omega
    rw [e2]
    refine ⟨w2, w2, h1, fun ty x _ => clear_nil w2 x _ ty, ?_, h3⟩
    have : zs.drop m = [] := List.drop_of_length_le (by omega)
    rw [this] at h2
    simpa using h2

theorem nv_zeros : ∀ k, nv (List.replicate k 0) = 0
  | 0 => rfl
  | k + 1 => by rw [List.replicate_succ, nv_cons, nv_zeros k]; rfl
theorem words_zeros (k : Nat) : Words (List.replicate k 0) := words_mem.2 fun x hx => by
  rw [List.mem_replicate] at hx
  rw [hx.2]
  decide
theorem nv_pad (xs : List Int) (k : Nat) : nv (xs ++ List.replicate k 0) = nv xs := by rw [nv_append, nv_zeros]; omega

/-- No borrow is left where the difference is not negative. -/
theorem no_borrow {x y r bo : Int} {n : Nat} (hr : 0 ≤ r ∧ r < pw n) (hy : 0 ≤ y) (hxy : y ≤ x) (hb : 0 ≤ bo ∧ bo ≤ 1) (e : x - y = r - bo * pw n) : r = x - y := by
  have : bo = 0 ∨ bo = 1 := by omega
  rcases this with rfl | rfl
  · omega
  · omega

set_option maxHeartbeats 1600000 in
theorem absDiff_ge (b off n cap : Nat) (zs : List Int) (a1 : Option Addr) (n1 cap1 : Nat) (xs : List Int) (a2 : Option Addr) (n2 cap2 : Nat) (ys : List Int) (hz : zs.length = n) (hx : xs.length = n1) (hy : ys.length = n2) (h1n : n1 ≤ n) (h2n : n2 ≤ n)
    (hnc : n ≤ cap) (hcm : cap ≤ maxLen) (h1c : n1 ≤ cap1) (h1m : cap1 ≤ maxLen) (h2c : n2 ≤ cap2) (h2m : cap2 ≤ maxLen) (wx : Words xs) (wy : Words ys) (w : World) (hc : Cells w b off zs) (hf : Free w b off n) (s1 : Src w a1 xs b off n) (s2 : Src w a2 ys b off n) (hge : ¬ nv xs < nv ys) :
    Calls Yba.prog 12 #[.slice (some ⟨b, off, none⟩) n cap, .slice a1 n1 cap1, .slice a2 n2 cap2] w fun e w' => e = .returned (.bool false) ∧ ∃ rs, rs.length = n ∧ Words rs ∧ nv rs = nv xs - nv ys ∧ Cells w' b off rs ∧ Wr b off n w w' := by
  have hm : n ≤ 9223372036854775807 := by unfold maxLen at hcm; omega
  have hcap : cap ≤ 9223372036854775807 := by unfold maxLen at hcm; omega
  have hsg : decide (cmpN xs ys < 0) = false := decide_eq_false (by rw [cmpN_sign wx wy]; exact hge)
  have H : Hid (zs.length = n ∧ xs.length = n1 ∧ ys.length = n2 ∧ Words xs ∧ Words ys ∧ Cells w b off zs ∧ Free w b off n ∧ Src w a1 xs b off n ∧ Src w a2 ys b off n ∧ ¬ nv xs < nv ys) := ⟨hz, hx, hy, wx, wy, hc, hf, s1, s2, hge⟩
  clear hz hx hy wx wy hc hf s1 s2 hge
  have fin : ∀ (w3 : World), Cells w3 b off (xs ++ List.replicate (n - n1) 0) → Wr b off n w w3 → Calls Yba.prog 22 #[.slice (some ⟨b, off, none⟩) n cap, .slice a2 n2 cap2] w3 fun e w' => (∃ bo, e = .returned (.int .u64 bo)) ∧ ∃ rs, rs.length = n ∧ Words rs ∧ nv rs = nv xs - nv ys ∧ Cells w' b off rs ∧ Wr b off n w w' := by
    intro w3 hc3 hw3
    obtain ⟨hz, hx, hy, wx, wy, hc, hf, s1, s2, hge⟩ := H.out
    refine (subIn_src b off n cap a2 n2 cap2 (xs ++ List.replicate (n - n1) 0) ys (by rw [List.length_append, List.length_replicate]; omega) (by omega) (by omega) hm (wx.append (words_zeros _)) wy w3 hc3 (hf.same (b' := b) hw3) (s2.kept hw3)).mono ?_
    rintro e w' ⟨rs, bo, rfl, h1, h2, h3, h4, h5, h6⟩
    have hb := nv_bound h2
    rw [h1] at hb
    rw [nv_pad] at h4
    exact ⟨⟨bo, rfl⟩, rs, h1, h2, no_borrow hb (nv_bound wy).1 (by omega) h3 h4, h5, hw3.trans h6⟩
  have HF := hid fin
  clear fin
  by_cases ec : cap = n1
  · obtain rfl : cap = n := by omega
    obtain rfl : n1 = cap := by omega
    go_enter Yba.func12, Yba.ntmps12
    go_wp2_with fail
    refine (norm_src a1 n1 cap1 xs H.out.2.1 h1c h1m w H.out.2.2.2.2.2.2.2.1.at).mono ?_
    rintro e w' ⟨rfl, hw⟩
    rw [hw]
    clear hw w'
    go_wp2_with fail
    refine (norm_src a2 n2 cap2 ys H.out.2.2.1 h2c h2m w H.out.2.2.2.2.2.2.2.2.1.at).mono ?_
    rintro e w' ⟨rfl, hw⟩
    rw [hw]
    clear hw w'
    go_wp2_with fail
    refine (cmp_src a1 a2 cap1 cap2 xs ys (by have := H.out.2.1; omega) (by have := H.out.2.2.1; omega) w H.out.2.2.2.2.2.2.2.1.at H.out.2.2.2.2.2.2.2.2.1.at).mono ?_
    rintro e w1 ⟨rfl, hd⟩
    obtain ⟨w2, w3, hcp, hcl0, hc3, hw3⟩ : ∃ w2 w3, (∀ t2 ty, (Builtin.copy_ #[24, t2] ty #[.slice (some ⟨b, off, none⟩) n1 n1, .slice a1 n1 cap1]).run Yba.prog w1 = .ok (goInt n1) w2) ∧
        (∀ ty, ∀ x, (0 < n1 - n1 → x = some ⟨b, off + n1, none⟩) → (Builtin.clear_ #[24] ty #[.slice x (n1 - n1) (n1 - n1)]).run Yba.prog w2 = .ok (.tuple #[]) w3) ∧ Cells w3 b off (xs ++ List.replicate (n1 - n1) 0) ∧ Wr b off n1 w1 w3 := by
      obtain ⟨hz, hx, hy, wx, wy, hc, hf, s1, s2, hge⟩ := H.out
      have hw := hd.wr b off n1
      exact pad_to w1 b off n1 n1 zs a1 n1 cap1 xs hz hx h1n (fun i hi => by obtain ⟨q, rfl⟩ := hd; simpa using hc i hi) (hf.same (b' := b) hw) (s1.at.drawn hd)
    have RC : Hid (Cells w3 b off (xs ++ List.replicate (n1 - n1) 0)) := hc3
    have RW : Hid (Wr b off n1 w w3) := (hd.wr b off n1).trans hw3
    clear hc3 hw3 hd
    have hcl : ∀ ty, (Builtin.clear_ #[24] ty #[.slice (some ⟨b, off, none⟩) 0 0]).run Yba.prog w2 = .ok (.tuple #[]) w3 := fun ty => by have := hcl0 ty (some ⟨b, off, none⟩) (fun h => absurd h (by omega)); simpa using this
    clear hcl0
    go_wp2_with fail
    refine (HF.out w3 RC.out RW.out).mono ?_
    rintro e w4 ⟨⟨bo, rfl⟩, hres⟩
    go_wp2
    go_ret
    exact ⟨rfl, hres⟩
  ·
    go_enter Yba.func12, Yba.ntmps12
    go_wp2_with fail
    refine (norm_src a1 n1 cap1 xs H.out.2.1 h1c h1m w H.out.2.2.2.2.2.2.2.1.at).mono ?_
    rintro e w' ⟨rfl, hw⟩
    rw [hw]
    clear hw w'
    go_wp2_with fail
    refine (norm_src a2 n2 cap2 ys H.out.2.2.1 h2c h2m w H.out.2.2.2.2.2.2.2.2.1.at).mono ?_
    rintro e w' ⟨rfl, hw⟩
    rw [hw]
    clear hw w'
    go_wp2_with fail
    refine (cmp_src a1 a2 cap1 cap2 xs ys (by have := H.out.2.1; omega) (by have := H.out.2.2.1; omega) w H.out.2.2.2.2.2.2.2.1.at H.out.2.2.2.2.2.2.2.2.1.at).mono ?_
    rintro e w1 ⟨rfl, hd⟩
    obtain ⟨w2, w3, hcp, hcl0, hc3, hw3⟩ : ∃ w2 w3, (∀ t2 ty, (Builtin.copy_ #[24, t2] ty #[.slice (some ⟨b, off, none⟩) n cap, .slice a1 n1 cap1]).run Yba.prog w1 = .ok (goInt n1) w2) ∧
        (∀ ty, ∀ x, (0 < n - n1 → x = some ⟨b, off + n1, none⟩) → (Builtin.clear_ #[24] ty #[.slice x (n - n1) (cap - n1)]).run Yba.prog w2 = .ok (.tuple #[]) w3) ∧ Cells w3 b off (xs ++ List.replicate (n - n1) 0) ∧ Wr b off n w1 w3 := by
      obtain ⟨hz, hx, hy, wx, wy, hc, hf, s1, s2, hge⟩ := H.out
      have hw := hd.wr b off n
      exact pad_to w1 b off n cap zs a1 n1 cap1 xs hz hx h1n (fun i hi => by obtain ⟨q, rfl⟩ := hd; simpa using hc i hi) (hf.same (b' := b) hw) (s1.at.drawn hd)
    have RC : Hid (Cells w3 b off (xs ++ List.replicate (n - n1) 0)) := hc3
    have RW : Hid (Wr b off n w w3) := (hd.wr b off n).trans hw3
    clear hc3 hw3 hd
    have hcl := fun ty => hcl0 ty (some ⟨b, off + n1, none⟩) (fun _ => rfl)
    clear hcl0
    go_wp2_with fail
    refine (HF.out w3 RC.out RW.out).mono ?_
    rintro e w4 ⟨⟨bo, rfl⟩, hres⟩
    go_wp2
    go_ret
    exact ⟨rfl, hres⟩

set_option maxHeartbeats 1600000 in
theorem absDiff_lt (b off n cap : Nat) (zs : List Int) (a1 : Option Addr) (n1 cap1 : Nat) (xs : List Int) (a2 : Option Addr) (n2 cap2 : Nat) (ys : List Int) (hz : zs.length = n) (hx : xs.length = n1) (hy : ys.length = n2) (h1n : n1 ≤ n) (h2n : n2 ≤ n)
    (hnc : n ≤ cap) (hcm : cap ≤ maxLen) (h1c : n1 ≤ cap1) (h1m : cap1 ≤ maxLen) (h2c : n2 ≤ cap2) (h2m : cap2 ≤ maxLen) (wx : Words xs) (wy : Words ys) (w : World) (hc : Cells w b off zs) (hf : Free w b off n) (s1 : Src w a1 xs b off n) (s2 : Src w a2 ys b off n) (hlt : nv xs < nv ys) :
    Calls Yba.prog 12 #[.slice (some ⟨b, off, none⟩) n cap, .slice a1 n1 cap1, .slice a2 n2 cap2] w fun e w' => e = .returned (.bool true) ∧ ∃ rs, rs.length = n ∧ Words rs ∧ nv rs = nv ys - nv xs ∧ Cells w' b off rs ∧ Wr b off n w w' := by
  have hm : n ≤ 9223372036854775807 := by unfold maxLen at hcm; omega
  have hcap : cap ≤ 9223372036854775807 := by unfold maxLen at hcm; omega
  have hsg : decide (cmpN xs ys < 0) = true := decide_eq_true (by rw [cmpN_sign wx wy]; exact hlt)
  have hsg2 : cmpN xs ys < 0 := (cmpN_sign wx wy).2 hlt
  have H : Hid (zs.length = n ∧ xs.length = n1 ∧ ys.length = n2 ∧ Words xs ∧ Words ys ∧ Cells w b off zs ∧ Free w b off n ∧ Src w a1 xs b off n ∧ Src w a2 ys b off n ∧ nv xs < nv ys) := ⟨hz, hx, hy, wx, wy, hc, hf, s1, s2, hlt⟩
  clear hz hx hy wx wy hc hf s1 s2 hlt
  have fin : ∀ (w3 : World), Cells w3 b off (ys ++ List.replicate (n - n2) 0) → Wr b off n w w3 → Calls Yba.prog 22 #[.slice (some ⟨b, off, none⟩) n cap, .slice a1 n1 cap1] w3 fun e w' => (∃ bo, e = .returned (.int .u64 bo)) ∧ ∃ rs, rs.length = n ∧ Words rs ∧ nv rs = nv ys - nv xs ∧ Cells w' b off rs ∧ Wr b off n w w' := by
    intro w3 hc3 hw3
    obtain ⟨hz, hx, hy, wx, wy, hc, hf, s1, s2, hge⟩ := H.out
    refine (subIn_src b off n cap a1 n1 cap1 (ys ++ List.replicate (n - n2) 0) xs (by rw [List.length_append, List.length_replicate]; omega) (by omega) (by omega) hm (wy.append (words_zeros _)) wx w3 hc3 (hf.same (b' := b) hw3) (s1.kept hw3)).mono ?_
    rintro e w' ⟨rs, bo, rfl, h1, h2, h3, h4, h5, h6⟩
    have hb := nv_bound h2
    rw [h1] at hb
    rw [nv_pad] at h4
    exact ⟨⟨bo, rfl⟩, rs, h1, h2, no_borrow hb (nv_bound wx).1 (by omega) h3 h4, h5, hw3.trans h6⟩
  have HF := hid fin
  clear fin
  by_cases ec : cap = n2
  · obtain rfl : cap = n := by omega
    obtain rfl : n2 = cap := by omega
    go_enter Yba.func12, Yba.ntmps12
    go_wp2_with fail
    refine (norm_src a1 n1 cap1 xs H.out.2.1 h1c h1m w H.out.2.2.2.2.2.2.2.1.at).mono ?_
    rintro e w' ⟨rfl, hw⟩
    rw [hw]
    clear hw w'
    go_wp2_with fail
    refine (norm_src a2 n2 cap2 ys H.out.2.2.1 h2c h2m w H.out.2.2.2.2.2.2.2.2.1.at).mono ?_
    rintro e w' ⟨rfl, hw⟩
    rw [hw]
    clear hw w'
    go_wp2_with fail
    refine (cmp_src a1 a2 cap1 cap2 xs ys (by have := H.out.2.1; omega) (by have := H.out.2.2.1; omega) w H.out.2.2.2.2.2.2.2.1.at H.out.2.2.2.2.2.2.2.2.1.at).mono ?_
    rintro e w1 ⟨rfl, hd⟩
    obtain ⟨w2, w3, hcp, hcl0, hc3, hw3⟩ : ∃ w2 w3, (∀ t2 ty, (Builtin.copy_ #[24, t2] ty #[.slice (some ⟨b, off, none⟩) n2 n2, .slice a2 n2 cap2]).run Yba.prog w1 = .ok (goInt n2) w2) ∧
        (∀ ty, ∀ x, (0 < n2 - n2 → x = some ⟨b, off + n2, none⟩) → (Builtin.clear_ #[24] ty #[.slice x (n2 - n2) (n2 - n2)]).run Yba.prog w2 = .ok (.tuple #[]) w3) ∧ Cells w3 b off (ys ++ List.replicate (n2 - n2) 0) ∧ Wr b off n2 w1 w3 := by
      obtain ⟨hz, hx, hy, wx, wy, hc, hf, s1, s2, hge⟩ := H.out
      have hw := hd.wr b off n2
      exact pad_to w1 b off n2 n2 zs a2 n2 cap2 ys hz hy h2n (fun i hi => by obtain ⟨q, rfl⟩ := hd; simpa using hc i hi) (hf.same (b' := b) hw) (s2.at.drawn hd)
    have RC : Hid (Cells w3 b off (ys ++ List.replicate (n2 - n2) 0)) := hc3
    have RW : Hid (Wr b off n2 w w3) := (hd.wr b off n2).trans hw3
    clear hc3 hw3 hd
    have hcl : ∀ ty, (Builtin.clear_ #[24] ty #[.slice (some ⟨b, off, none⟩) 0 0]).run Yba.prog w2 = .ok (.tuple #[]) w3 := fun ty => by have := hcl0 ty (some ⟨b, off, none⟩) (fun h => absurd h (by omega)); simpa using this
    clear hcl0
    go_wp2_with fail
    refine (HF.out w3 RC.out RW.out).mono ?_
    rintro e w4 ⟨⟨bo, rfl⟩, hres⟩
    go_wp2
    go_ret
    exact ⟨rfl, hres⟩
  ·
    go_enter Yba.func12, Yba.ntmps12
    go_wp2_with fail
    refine (norm_src a1 n1 cap1 xs H.out.2.1 h1c h1m w H.out.2.2.2.2.2.2.2.1.at).mono ?_
    rintro e w' ⟨rfl, hw⟩
    rw [hw]
    clear hw w'
    go_wp2_with fail
    refine (norm_src a2 n2 cap2 ys H.out.2.2.1 h2c h2m w H.out.2.2.2.2.2.2.2.2.1.at).mono ?_
    rintro e w' ⟨rfl, hw⟩
    rw [hw]
    clear hw w'
    go_wp2_with fail
    refine (cmp_src a1 a2 cap1 cap2 xs ys (by have := H.out.2.1; omega) (by have := H.out.2.2.1; omega) w H.out.2.2.2.2.2.2.2.1.at H.out.2.2.2.2.2.2.2.2.1.at).mono ?_
    rintro e w1 ⟨rfl, hd⟩
    obtain ⟨w2, w3, hcp, hcl0, hc3, hw3⟩ : ∃ w2 w3, (∀ t2 ty, (Builtin.copy_ #[24, t2] ty #[.slice (some ⟨b, off, none⟩) n cap, .slice a2 n2 cap2]).run Yba.prog w1 = .ok (goInt n2) w2) ∧
        (∀ ty, ∀ x, (0 < n - n2 → x = some ⟨b, off + n2, none⟩) → (Builtin.clear_ #[24] ty #[.slice x (n - n2) (cap - n2)]).run Yba.prog w2 = .ok (.tuple #[]) w3) ∧ Cells w3 b off (ys ++ List.replicate (n - n2) 0) ∧ Wr b off n w1 w3 := by
      obtain ⟨hz, hx, hy, wx, wy, hc, hf, s1, s2, hge⟩ := H.out
      have hw := hd.wr b off n
      exact pad_to w1 b off n cap zs a2 n2 cap2 ys hz hy h2n (fun i hi => by obtain ⟨q, rfl⟩ := hd; simpa using hc i hi) (hf.same (b' := b) hw) (s2.at.drawn hd)
    have RC : Hid (Cells w3 b off (ys ++ List.replicate (n - n2) 0)) := hc3
    have RW : Hid (Wr b off n w w3) := (hd.wr b off n).trans hw3
    clear hc3 hw3 hd
    have hcl := fun ty => hcl0 ty (some ⟨b, off + n2, none⟩) (fun _ => rfl)
    clear hcl0
    go_wp2_with fail
    refine (HF.out w3 RC.out RW.out).mono ?_
    rintro e w4 ⟨⟨bo, rfl⟩, hres⟩
    go_wp2
    go_ret
    exact ⟨rfl, hres⟩

end Go.Proofs.Ybulkcmly
