/-
  The number that words write: plain arithmetic, no Go in sight.
-/
import Derived.Test.YbulkcmlyMem
namespace Go.Proofs.Ybulkcmly
open Go.RowKit

def nv : List Int → Int
  | [] => 0
  | x :: xs => x + 18446744073709551616 * nv xs
def pw (k : Nat) : Int := 18446744073709551616 ^ k

theorem pw_zero : pw 0 = 1 := rfl
theorem pw_succ (k : Nat) : pw (k + 1) = pw k * 18446744073709551616 := Int.pow_succ _ _
theorem pw_add (a b : Nat) : pw (a + b) = pw a * pw b := Int.pow_add _ _ _
theorem pw_pos (k : Nat) : 0 < pw k := by
  induction k with
  | zero => rw [pw_zero]; decide
  | succ k ih => rw [pw_succ]; omega

theorem nv_nil : nv [] = 0 := rfl
theorem nv_cons (x : Int) (xs : List Int) : nv (x :: xs) = x + 18446744073709551616 * nv xs := rfl
theorem nv_append (a b : List Int) : nv (a ++ b) = nv a + pw a.length * nv b := by
  induction a with
  | nil => simp [nv_nil, pw_zero]
  | cons x a ih =>
    rw [List.cons_append, nv_cons, nv_cons, ih, List.length_cons, pw_succ]
    grind
theorem nv_snoc (a : List Int) (x : Int) : nv (a ++ [x]) = nv a + pw a.length * x := by
  rw [nv_append]
  simp [nv_cons, nv_nil]

theorem wd_lt (xs : List Int) (k : Nat) (h : k < xs.length) : xs[k] = wd xs k := by
  unfold wd
  rw [List.getD_eq_getElem?_getD, List.getElem?_eq_getElem h]
  rfl
theorem wd_end (xs : List Int) (k : Nat) (h : xs.length ≤ k) : wd xs k = 0 := by
  unfold wd
  rw [List.getD_eq_getElem?_getD, List.getElem?_eq_none h]
  rfl
theorem take_snoc (xs : List Int) (k : Nat) (h : k < xs.length) : xs.take (k + 1) = xs.take k ++ [wd xs k] := by
  rw [List.take_succ_eq_append_getElem h, wd_lt xs k h]
theorem nv_take_succ (xs : List Int) (k : Nat) (h : k < xs.length) : nv (xs.take (k + 1)) = nv (xs.take k) + pw k * wd xs k := by
  rw [take_snoc xs k h, nv_snoc, List.length_take, Nat.min_eq_left (by omega)]
theorem nv_split (xs : List Int) (k : Nat) (h : k ≤ xs.length) : nv xs = nv (xs.take k) + pw k * nv (xs.drop k) := by
  conv => lhs; rw [← List.take_append_drop k xs, nv_append, List.length_take, Nat.min_eq_left h]

theorem words_mem {xs : List Int} : Words xs ↔ ∀ x ∈ xs, 0 ≤ x ∧ x < 18446744073709551616 := by
  constructor
  · intro h x hx
    obtain ⟨i, hi, rfl⟩ := List.getElem_of_mem hx
    rw [wd_lt xs i hi]
    exact h i
  · intro h i
    by_cases hi : i < xs.length
    · rw [← wd_lt xs i hi]; exact h _ (List.getElem_mem hi)
    · rw [wd_end xs i (by omega)]; constructor <;> decide
theorem Words.append {a b : List Int} (ha : Words a) (hb : Words b) : Words (a ++ b) := by
  rw [words_mem] at *
  intro x hx
  rcases List.mem_append.1 hx with h | h
  · exact ha x h
  · exact hb x h
theorem words_nil : Words [] := words_mem.2 (by simp)
theorem words_one {x : Int} (h : 0 ≤ x ∧ x < 18446744073709551616) : Words [x] := words_mem.2 (by simpa using h)
theorem Words.take {a : List Int} (h : Words a) (k : Nat) : Words (a.take k) := words_mem.2 fun x hx => words_mem.1 h x (List.mem_of_mem_take hx)
theorem Words.drop {a : List Int} (h : Words a) (k : Nat) : Words (a.drop k) := words_mem.2 fun x hx => words_mem.1 h x (List.mem_of_mem_drop hx)

theorem nv_bound {xs : List Int} (h : Words xs) : 0 ≤ nv xs ∧ nv xs < pw xs.length := by
  rw [words_mem] at h
  induction xs with
  | nil => rw [nv_nil, List.length_nil, pw_zero]; decide
  | cons x xs ih =>
    have h1 := h x (by simp)
    have h2 := ih fun y hy => h y (by simp [hy])
    rw [nv_cons, List.length_cons, pw_succ]
    omega

/-! Subtraction and addition word by word. -/
def subR (x y b : Int) : Int := (x - y - b) % 18446744073709551616
def borR (x y b : Int) : Int := bor x (y + b)
def addR (x y c : Int) : Int := (x + y + c) % 18446744073709551616
def carR (x y c : Int) : Int := (x + y + c) / 18446744073709551616

theorem subR_word (x y b : Int) : 0 ≤ subR x y b ∧ subR x y b < 18446744073709551616 := by unfold subR; omega
theorem borR_bit (x y b : Int) : 0 ≤ borR x y b ∧ borR x y b ≤ 1 := by unfold borR bor; split <;> omega
theorem sub_eq {x y b : Int} (hx : 0 ≤ x ∧ x < 18446744073709551616) (hy : 0 ≤ y ∧ y < 18446744073709551616) (hb : 0 ≤ b ∧ b ≤ 1) : x - y - b = subR x y b - borR x y b * 18446744073709551616 := by
  unfold subR borR bor; split <;> omega
theorem addR_word (x y c : Int) : 0 ≤ addR x y c ∧ addR x y c < 18446744073709551616 := by unfold addR; omega
theorem carR_bit {x y c : Int} (hx : 0 ≤ x ∧ x < 18446744073709551616) (hy : 0 ≤ y ∧ y < 18446744073709551616) (hc : 0 ≤ c ∧ c ≤ 1) : 0 ≤ carR x y c ∧ carR x y c ≤ 1 := by unfold carR; omega
theorem add_eq (x y c : Int) : x + y + c = addR x y c + carR x y c * 18446744073709551616 := by unfold addR carR; omega

theorem sub64r (x y b : Int) (hx : 0 ≤ x ∧ x < 18446744073709551616) (hy : 0 ≤ y ∧ y < 18446744073709551616) (hb : 0 ≤ b ∧ b ≤ 1) (w : World) :
    (callFunc 30 #[.int .u64 x, .int .u64 y, .int .u64 b]).run Yba.prog w = .ok (.value (.tuple #[.int .u64 (subR x y b), .int .u64 (borR x y b)])) w :=
  sub64 x y b hx.1 hy.1 hy.2 hb.1 hb.2 w
theorem add64r (x y c : Int) (hx : 0 ≤ x ∧ x < 18446744073709551616) (hy : 0 ≤ y ∧ y < 18446744073709551616) (hc : 0 ≤ c ∧ c ≤ 1) (w : World) :
    (callFunc 14 #[.int .u64 x, .int .u64 y, .int .u64 c]).run Yba.prog w = .ok (.value (.tuple #[.int .u64 (addR x y c), .int .u64 (carR x y c)])) w :=
  add64 x y c hx.1 hy.1 hc.1 hc.2 w

/-- Behind k words: what has been made of them, and the borrow. -/
def SubSt (zs ys : List Int) (k : Nat) (ls : List Int) (b : Int) : Prop := ls.length = k ∧ Words ls ∧ (0 ≤ b ∧ b ≤ 1) ∧ nv (zs.take k) - nv (ys.take k) = nv ls - b * pw k
def AddSt (zs ys : List Int) (k : Nat) (ls : List Int) (c : Int) : Prop := ls.length = k ∧ Words ls ∧ (0 ≤ c ∧ c ≤ 1) ∧ nv (zs.take k) + nv (ys.take k) = nv ls + c * pw k

theorem SubSt.start (zs ys : List Int) : SubSt zs ys 0 [] 0 := ⟨rfl, words_nil, by decide, by simp [nv_nil]⟩
theorem AddSt.start (zs ys : List Int) : AddSt zs ys 0 [] 0 := ⟨rfl, words_nil, by decide, by simp [nv_nil]⟩

theorem take_past (ys : List Int) (k : Nat) : nv (ys.take (k + 1)) = nv (ys.take k) + pw k * wd ys k := by
  by_cases h : k < ys.length
  · exact nv_take_succ ys k h
  · rw [wd_end ys k (by omega), List.take_of_length_le (by omega), List.take_of_length_le (by omega)]; omega

theorem SubSt.step {zs ys ls : List Int} {k : Nat} {b : Int} (h : SubSt zs ys k ls b) (hz : Words zs) (hy : Words ys) : SubSt zs ys (k + 1) (ls ++ [subR (wd zs k) (wd ys k) b]) (borR (wd zs k) (wd ys k) b) := by
  obtain ⟨h1, h2, h3, h4⟩ := h
  refine ⟨by simp [h1], h2.append (words_one (subR_word _ _ _)), borR_bit _ _ _, ?_⟩
  have e := sub_eq (hz k) (hy k) h3
  rw [take_past, take_past, nv_snoc, h1, pw_succ]
  generalize subR (wd zs k) (wd ys k) b = r at *
  generalize borR (wd zs k) (wd ys k) b = b' at *
  grind
theorem AddSt.step {zs ys ls : List Int} {k : Nat} {c : Int} (h : AddSt zs ys k ls c) (hz : Words zs) (hy : Words ys) : AddSt zs ys (k + 1) (ls ++ [addR (wd zs k) (wd ys k) c]) (carR (wd zs k) (wd ys k) c) := by
  obtain ⟨h1, h2, h3, h4⟩ := h
  refine ⟨by simp [h1], h2.append (words_one (addR_word _ _ _)), carR_bit (hz k) (hy k) h3, ?_⟩
  have e := add_eq (wd zs k) (wd ys k) c
  rw [take_past, take_past, nv_snoc, h1, pw_succ]
  generalize addR (wd zs k) (wd ys k) c = r at *
  generalize carR (wd zs k) (wd ys k) c = c' at *
  grind

/-- The end: nothing is borrowed any more, or no word is left. -/
theorem SubSt.done {zs ys ls : List Int} {k : Nat} {b : Int} (h : SubSt zs ys k ls b) (hz : Words zs) (hk : k ≤ zs.length) (hy : ys.length ≤ k) (he : b = 0 ∨ k = zs.length) :
    Words (ls ++ zs.drop k) ∧ nv zs - nv ys = nv (ls ++ zs.drop k) - b * pw zs.length := by
  obtain ⟨h1, h2, h3, h4⟩ := h
  refine ⟨h2.append (hz.drop k), ?_⟩
  rw [nv_append, h1, nv_split zs k hk]
  rw [List.take_of_length_le hy] at h4
  rcases he with rfl | rfl
  · simp only [Int.zero_mul, Int.sub_zero] at *; omega
  · omega
theorem AddSt.done {zs ys ls : List Int} {k : Nat} {c : Int} (h : AddSt zs ys k ls c) (hz : Words zs) (hk : k ≤ zs.length) (hy : ys.length ≤ k) (he : c = 0 ∨ k = zs.length) :
    Words (ls ++ zs.drop k) ∧ nv zs + nv ys = nv (ls ++ zs.drop k) + c * pw zs.length := by
  obtain ⟨h1, h2, h3, h4⟩ := h
  refine ⟨h2.append (hz.drop k), ?_⟩
  rw [nv_append, h1, nv_split zs k hk]
  rw [List.take_of_length_le hy] at h4
  rcases he with rfl | rfl
  · simp only [Int.zero_mul, Int.add_zero] at *; omega
  · omega

/-- A store at word k. -/
theorem Cells.put {w : World} {b off k : Nat} {ls zs : List Int} (h : Cells w b off (ls ++ zs.drop k)) (hl : ls.length = k) (hk : k < zs.length) (r : Int) :
    Cells (w.setCell ⟨b, off + k, none⟩ (.int .u64 r)) b off ((ls ++ [r]) ++ zs.drop (k + 1)) := by
  intro i hi
  have hlen : i < zs.length := by
    simp [hl] at hi; omega
  have hlen2 : i < (ls ++ zs.drop k).length := by simp [hl]; omega
  by_cases e : i = k
  · subst e
    rw [World.cell?_setCell_same _ _ _ (h i hlen2)]
    congr 2
    unfold wd
    rw [List.getD_eq_getElem?_getD, List.getElem?_append_left (by simp [hl]), List.getElem?_append_right (by omega), hl]
    simp
  · rw [World.cell?_setCell_other _ _ _ _ (by intro e2; injection e2 with _ e3; omega), h i hlen2]
    congr 2
    unfold wd
    rw [List.getD_eq_getElem?_getD, List.getD_eq_getElem?_getD]
    by_cases hik : i < k
    · rw [List.getElem?_append_left (by omega), List.getElem?_append_left (by simp [hl]; omega), List.getElem?_append_left (by omega)]
    · rw [List.getElem?_append_right (by omega), List.getElem?_append_right (by simp [hl]; omega), List.getElem?_drop, List.getElem?_drop]
      congr 2
      simp [hl]
      omega

end Go.Proofs.Ybulkcmly
