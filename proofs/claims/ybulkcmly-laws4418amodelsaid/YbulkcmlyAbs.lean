/-
  copy, clear; norm, cmp, subIn, addIn at whatever source; absDiff.
-/
import Derived.Test.YbulkcmlyNorm
import Derived.Test.YbulkcmlyInc
import Derived.Lib.SliceRun
import Derived.Laws.IdiomCopy
namespace Go.Proofs.Ybulkcmly
open Go.RowKit
set_option linter.unusedVariables false

theorem Yba.size28 : (Yba.prog.info? 28).map (·.size) = some 1 := by kernel_rfl
theorem zero28 (w : World) : (zeroValue 28).run Yba.prog w = .ok (.int .u64 0) w := by kernel_rfl

/-- The words xs lie at ao (where there are any). -/
def At (w : World) (ao : Option Addr) (xs : List Int) : Prop := xs = [] ∨ ∃ b o, ao = some ⟨b, o, none⟩ ∧ Cells w b o xs
/-- .. and apart from the n cells at ⟨b, off⟩. -/
def Src (w : World) (ao : Option Addr) (xs : List Int) (b off n : Nat) : Prop := xs = [] ∨ ∃ b1 o1, ao = some ⟨b1, o1, none⟩ ∧ Cells w b1 o1 xs ∧ (b1 ≠ b ∨ o1 + xs.length ≤ off ∨ off + n ≤ o1)
theorem Src.at {w : World} {ao : Option Addr} {xs : List Int} {b off n : Nat} (h : Src w ao xs b off n) : At w ao xs := by
  rcases h with h | ⟨b1, o1, h1, h2, _⟩
  · exact .inl h
  · exact .inr ⟨b1, o1, h1, h2⟩
theorem Src.kept {w w' : World} {ao : Option Addr} {xs : List Int} {b off n : Nat} (h : Src w ao xs b off n) (hw : Wr b off n w w') : Src w' ao xs b off n := by
  rcases h with h | ⟨b1, o1, h1, h2, h3⟩
  · exact .inl h
  · exact .inr ⟨b1, o1, h1, h2.kept hw h3, h3⟩
theorem At.drawn {w w' : World} {ao : Option Addr} {xs : List Int} (h : At w ao xs) (hw : Drawn w w') : At w' ao xs := by
  obtain ⟨q, rfl⟩ := hw
  rcases h with h | ⟨b1, o1, h1, h2⟩
  · exact .inl h
  · exact .inr ⟨b1, o1, h1, fun i hi => by simpa using h2 i hi⟩
theorem Drawn.wr {w w' : World} (h : Drawn w w') (b off n : Nat) : Wr b off n w w' := by
  obtain ⟨q, rfl⟩ := h
  exact (Wr.refl b off n w).drewN q

theorem norm_src (ao : Option Addr) (n cap : Nat) (xs : List Int) (hl : xs.length = n) (hnc : n ≤ cap) (hcm : cap ≤ maxLen) (w : World) (hc : At w ao xs) :
    Calls Yba.prog 18 #[.slice ao n cap] w fun e w' => e = .returned (.slice ao (nrm xs) cap) ∧ w' = w := by
  rcases hc with rfl | ⟨b, o, rfl, hc⟩
  · simp at hl; subst hl
    exact norm_nil ao cap hcm w
  · exact norm_at b o n cap xs hl hnc hcm w hc

theorem cmp_zero (a1 a2 : Option Addr) (cap cap2 : Nat) (w : World) :
    Calls Yba.prog 21 #[.slice a1 0 cap, .slice a2 0 cap2] w fun e w' => e = .returned (.int .i64 0) ∧ w' = w := by
  go_enter Yba.func21, Yba.ntmps21
  go_wp2
  refine wp_loop_rounds 1 ?_
  rw [rounds_succ]
  go_wp2
  go_ret
  exact ⟨rfl, rfl⟩

/-- What cmp says of two numbers without zero words on top. -/
def cmpN (xs ys : List Int) : Int := if nrm xs < nrm ys then -1 else if nrm ys < nrm xs then 1 else cmpTo xs ys (nrm xs)

theorem cmp_src (a1 a2 : Option Addr) (cap cap2 : Nat) (xs ys : List Int) (hn : xs.length ≤ 9223372036854775807) (hn2 : ys.length ≤ 9223372036854775807) (w : World) (hc : At w a1 xs) (hc2 : At w a2 ys) :
    Calls Yba.prog 21 #[.slice a1 (nrm xs) cap, .slice a2 (nrm ys) cap2] w fun e w' => e = .returned (.int .i64 (cmpN xs ys)) ∧ Drawn w w' := by
  have l1 := nrm_le xs
  have l2 := nrm_le ys
  unfold cmpN
  by_cases e : nrm xs = nrm ys
  · rw [if_neg (by omega), if_neg (by omega)]
    by_cases z : nrm xs = 0
    · rw [z, ← e, z]
      exact (cmp_zero a1 a2 cap cap2 w).mono fun e w' ⟨h1, h2⟩ => ⟨h1, h2 ▸ Drawn.refl w⟩
    · rcases hc with rfl | ⟨b, o, rfl, hc⟩
      · exact absurd rfl z
      rcases hc2 with rfl | ⟨b2, o2, rfl, hc2⟩
      · exact absurd e z
      rw [← e]
      exact cmp_at b o b2 o2 (nrm xs) cap cap2 xs ys (by omega) (by omega) (by omega) w hc hc2
  · refine (cmp_len a1 a2 (nrm xs) (nrm ys) cap cap2 e (by omega) (by omega) w).mono fun e' w' ⟨h1, h2⟩ => ⟨?_, h2 ▸ Drawn.refl w⟩
    rw [h1]
    congr 2
    by_cases h : nrm xs < nrm ys
    · rw [if_pos h, if_pos h]
    · rw [if_neg h, if_neg h, if_pos (by omega)]

/-! The plain law: cmp orders by value. -/
theorem nv_zero_top (xs : List Int) : ∀ k, k ≤ xs.length → nv (xs.take k) = nv (xs.take (nrmTo xs k))
  | 0, _ => rfl
  | k + 1, h => by
    by_cases z : wd xs k = 0
    · rw [nrmTo_zero z, nv_take_succ xs k (by omega), z, Int.mul_zero, Int.add_zero]
      exact nv_zero_top xs k (by omega)
    · rw [nrmTo_pos z]
theorem nv_nrm (xs : List Int) : nv xs = nv (xs.take (nrm xs)) := by
  have := nv_zero_top xs xs.length (Nat.le_refl _)
  rwa [List.take_length] at this
theorem nrmTo_top (xs : List Int) : ∀ k, 0 < nrmTo xs k → ¬ wd xs (nrmTo xs k - 1) = 0
  | 0, h => absurd h (by simp [nrmTo])
  | k + 1, h => by
    by_cases z : wd xs k = 0
    · rw [nrmTo_zero z] at h ⊢
      exact nrmTo_top xs k h
    · rw [nrmTo_pos z]; simpa using z
theorem take_bound {xs : List Int} (h : Words xs) (k : Nat) : 0 ≤ nv (xs.take k) ∧ nv (xs.take k) < pw k := by
  have := nv_bound (h.take k)
  refine ⟨this.1, ?_⟩
  by_cases hk : k ≤ xs.length
  · rw [List.length_take, Nat.min_eq_left hk] at this; exact this.2
  · have e : (xs.take k).length = xs.length := by rw [List.length_take]; omega
    rw [e] at this
    have hm : pw xs.length ≤ pw k := by
      obtain ⟨d, rfl⟩ : ∃ d, k = xs.length + d := ⟨k - xs.length, by omega⟩
      rw [pw_add]
      have a := pw_pos xs.length
      have b := pw_pos d
      have : pw xs.length * 1 ≤ pw xs.length * pw d := Int.mul_le_mul_of_nonneg_left (by omega) (by omega)
      omega
    omega
theorem pw_le_nrm {xs : List Int} (h : Words xs) (hp : 0 < nrm xs) : pw (nrm xs - 1) ≤ nv xs := by
  have ht := nrmTo_top xs xs.length hp
  have hw := h (nrm xs - 1)
  have hl := nrm_le xs
  rw [nv_nrm xs]
  have e : nrm xs = (nrm xs - 1) + 1 := by omega
  rw [e, nv_take_succ xs (nrm xs - 1) (by omega), Nat.add_sub_cancel]
  have b := (take_bound h (nrm xs - 1)).1
  have hx : 1 ≤ wd xs (nrm xs - 1) := by
    have : ¬ wd xs (nrm xs - 1) = 0 := ht
    omega
  have : pw (nrm xs - 1) * 1 ≤ pw (nrm xs - 1) * wd xs (nrm xs - 1) := Int.mul_le_mul_of_nonneg_left hx (Int.le_of_lt (pw_pos _))
  omega
theorem pw_mono {a b : Nat} (h : a ≤ b) : pw a ≤ pw b := by
  obtain ⟨d, rfl⟩ : ∃ d, b = a + d := ⟨b - a, by omega⟩
  rw [pw_add]
  have p := pw_pos a
  have q := pw_pos d
  have : pw a * 1 ≤ pw a * pw d := Int.mul_le_mul_of_nonneg_left (by omega) (by omega)
  omega
theorem nv_lt_of_nrm {xs ys : List Int} (hx : Words xs) (hy : Words ys) (h : nrm xs < nrm ys) : nv xs < nv ys := by
  have a := (take_bound hx (nrm xs)).2
  rw [← nv_nrm] at a
  have b := pw_le_nrm hy (by omega)
  have c := pw_mono (show nrm xs ≤ nrm ys - 1 by omega)
  omega
theorem cmpTo_sign {xs ys : List Int} (hx : Words xs) (hy : Words ys) : ∀ k, (cmpTo xs ys k < 0 ↔ nv (xs.take k) < nv (ys.take k))
  | 0 => by simp [cmpTo, nv_nil]
  | k + 1 => by
    have ih := cmpTo_sign hx hy k
    have bx := take_bound hx k
    have by' := take_bound hy k
    rw [take_past, take_past]
    have wx := hx k
    have wy := hy k
    by_cases h1 : wd xs k < wd ys k
    · rw [cmpTo_lt h1]
      have : pw k * (wd xs k + 1) ≤ pw k * wd ys k := Int.mul_le_mul_of_nonneg_left (by omega) (Int.le_of_lt (pw_pos _))
      rw [Int.mul_add] at this
      constructor
      · intro _; omega
      · intro _; decide
    · by_cases h2 : wd ys k < wd xs k
      · rw [cmpTo_gt h2]
        have : pw k * (wd ys k + 1) ≤ pw k * wd xs k := Int.mul_le_mul_of_nonneg_left (by omega) (Int.le_of_lt (pw_pos _))
        rw [Int.mul_add] at this
        constructor
        · intro h; omega
        · intro _; omega
      · have e : wd xs k = wd ys k := by omega
        rw [cmpTo_eq e, ih, e]
        omega
theorem cmpN_sign {xs ys : List Int} (hx : Words xs) (hy : Words ys) : cmpN xs ys < 0 ↔ nv xs < nv ys := by
  unfold cmpN
  by_cases h1 : nrm xs < nrm ys
  · rw [if_pos h1]
    exact ⟨fun _ => nv_lt_of_nrm hx hy h1, fun _ => by decide⟩
  · by_cases h2 : nrm ys < nrm xs
    · rw [if_neg h1, if_pos h2]
      have := nv_lt_of_nrm hy hx h2
      constructor
      · intro h; omega
      · intro h; omega
    · have e : nrm xs = nrm ys := by omega
      rw [if_neg h1, if_neg h2, cmpTo_sign hx hy, nv_nrm xs, nv_nrm ys, ← e]

/-! copy and clear. -/
theorem setCells_heap (b : Nat) : ∀ (vs : List Value) (o : Nat) (w : World) (k : Nat), k ≠ b → (w.setCells b o vs).heap[k]? = w.heap[k]?
  | [], _, _, _, _ => rfl
  | v :: r, o, w, k, h => by
    show ((w.setCell ⟨b, o, none⟩ v).setCells b (o + 1) r).heap[k]? = _
    rw [setCells_heap b r (o + 1) _ k h, Below.heap_setCell _ _ _ _ h]
theorem setCells_rest (b : Nat) : ∀ (vs : List Value) (o : Nat) (w : World), (w.setCells b o vs).os = w.os ∧ (w.setCells b o vs).tape = w.tape ∧ (w.setCells b o vs).output = w.output ∧ (w.setCells b o vs).heap.size = w.heap.size
  | [], _, _ => ⟨rfl, rfl, rfl, rfl⟩
  | v :: r, o, w => by
    show ((w.setCell ⟨b, o, none⟩ v).setCells b (o + 1) r).os = _ ∧ ((w.setCell ⟨b, o, none⟩ v).setCells b (o + 1) r).tape = _ ∧ ((w.setCell ⟨b, o, none⟩ v).setCells b (o + 1) r).output = _ ∧ ((w.setCell ⟨b, o, none⟩ v).setCells b (o + 1) r).heap.size = _
    obtain ⟨a, c, d, e⟩ := setCells_rest b r (o + 1) (w.setCell ⟨b, o, none⟩ v)
    exact ⟨a, c, d, e.trans (by simp)⟩
theorem Wr.setCells (b off n : Nat) (vs : List Value) (w : World) (h : vs.length ≤ n) : Wr b off n w (w.setCells b off vs) := by
  obtain ⟨a, c, d, e⟩ := setCells_rest b vs off w
  refine ⟨a, c, d, by omega, fun k _ hne => setCells_heap b vs off w k hne, fun o ho => ?_, fun o => World.frozen?_setCells b vs off w _⟩
  exact World.cell?_setCells_out b vs off w ⟨b, o, none⟩ (fun _ _ => by show o < off ∨ off + vs.length ≤ o; omega)

theorem cells_set {w : World} {b off : Nat} {zs : List Int} (h : Cells w b off zs) (xs : List Int) (hl : xs.length ≤ zs.length) :
    Cells (w.setCells b off (xs.map (Value.int .u64))) b off (xs ++ zs.drop xs.length) := by
  intro i hi
  have hi2 : i < zs.length := by rw [List.length_append, List.length_drop] at hi; omega
  by_cases e : i < xs.length
  · have := World.cell?_setCells_in b (xs.map (Value.int .u64)) off w (fun j hj => by rw [List.length_map] at hj; rw [h j (by omega)]; rfl) i (by rw [List.length_map]; exact e)
    rw [this, List.getElem_map]
    congr 2
    rw [wd_lt xs i e]
    unfold wd
    rw [List.getD_eq_getElem?_getD, List.getD_eq_getElem?_getD, List.getElem?_append_left e]
  · rw [World.cell?_setCells_out b _ off w ⟨b, off + i, none⟩ (fun _ _ => by show off + i < off ∨ off + (xs.map (Value.int .u64)).length ≤ off + i; rw [List.length_map]; omega), h i hi2]
    congr 2
    unfold wd
    rw [List.getD_eq_getElem?_getD, List.getD_eq_getElem?_getD, List.getElem?_append_right (by omega), List.getElem?_drop, show xs.length + (i - xs.length) = i by omega]

theorem add_at (b o j : Nat) : (⟨b, o, none⟩ : Addr).add j = ⟨b, o + j, none⟩ := by unfold Addr.add; split <;> simp_all

theorem one_cells (xs : List Int) : ∀ v ∈ xs.map (Value.int .u64), v.oneCell' = true := by
  intro v hv
  obtain ⟨x, _, rfl⟩ := List.mem_map.1 hv
  rfl

theorem copy_to (w : World) (b off n cap : Nat) (zs : List Int) (ao : Option Addr) (m cap2 : Nat) (xs : List Int) (hz : zs.length = n) (hx : xs.length = m) (hmn : m ≤ n) (hc : Cells w b off zs) (hf : Free w b off n) (hs : At w ao xs) :
    ∃ w', (∀ t2 ty, (Builtin.copy_ #[24, t2] ty #[.slice (some ⟨b, off, none⟩) n cap, .slice ao m cap2]).run Yba.prog w = .ok (goInt m) w') ∧ Cells w' b off (xs ++ zs.drop m) ∧ Wr b off n w w' := by
  by_cases h0 : m = 0
  · subst h0
    have : xs = [] := List.eq_nil_of_length_eq_zero hx
    subst this
    exact ⟨w, fun t2 ty => run_copy_none w 24 t2 ty 28 _ _ n cap 0 cap2 Yba.underlying24 Yba.size28 (by simp), by simpa using hc, Wr.refl _ _ _ _⟩
  · rcases hs with rfl | ⟨b1, o1, rfl, hs⟩
    · simp at hx; omega
    refine ⟨w.setCells b off (xs.map (Value.int .u64)), fun t2 ty => ?_, ?_, Wr.setCells b off n _ w (by rw [List.length_map]; omega)⟩
    · have := run_copy_cells (P := Yba.prog) w 24 t2 ty 28 b off n cap ⟨b1, o1, none⟩ m cap2 (xs.map (Value.int .u64)) Yba.underlying24 Yba.size28 (by rw [List.length_map, hx]; exact (Nat.min_eq_left hmn).symm)
        (fun j v hj => by
          have hj' : j < xs.length := by
            have := (List.getElem?_eq_some_iff.1 hj).1
            simpa using this
          rw [List.getElem?_map, List.getElem?_eq_getElem hj'] at hj
          simp at hj
          have := hs j hj'
          rw [← wd_lt xs j hj', hj] at this
          rw [add_at]; exact this) (fun j hj => by rw [List.length_map] at hj; rw [hc j (by omega)]; rfl) (fun j hj => by rw [List.length_map] at hj; exact hf j (by omega)) (one_cells xs)
      rw [this, List.length_map, hx]
    · have := cells_set hc xs (by omega)
      rwa [hx] at this

theorem clear_to (w : World) (b off n cap : Nat) (zs : List Int) (hz : zs.length = n) (hn : 0 < n) (hc : Cells w b off zs) (hf : Free w b off n) :
    ∃ w', (∀ ty, (Builtin.clear_ #[24] ty #[.slice (some ⟨b, off, none⟩) n cap]).run Yba.prog w = .ok (.tuple #[]) w') ∧ Cells w' b off (List.replicate n 0) ∧ Wr b off n w w' := by
  refine ⟨w.setCells b off (List.replicate n (.int .u64 0)), fun ty => Lib.run_clear_slice w 24 28 ty (.int .u64 0) Yba.underlying24 zero28 rfl rfl b off n cap hn (fun j hj => by rw [hc j (by omega)]; rfl) hf, ?_, Wr.setCells b off n _ w (by simp)⟩
  have := cells_set hc (List.replicate n 0) (by simp [hz])
  rw [List.map_replicate, List.length_replicate, List.drop_of_length_le (by omega), List.append_nil] at this
  exact this
theorem clear_nil (w : World) (ao : Option Addr) (cap : Nat) (ty : TypeId) : (Builtin.clear_ #[24] ty #[.slice ao 0 cap]).run Yba.prog w = .ok (.tuple #[]) w := by
  cases ao <;> simp [Builtin.clear_, run_underlying Yba.underlying24]

end Go.Proofs.Ybulkcmly
