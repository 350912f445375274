/-
  norm, cmp: the contracts.
-/
import Derived.Test.YbulkcmlyMem
import Derived.Deep.QuietTactic
import Derived.BigQuiet
namespace Go.Proofs.Ybulkcmly
open Go.RowKit
set_option linter.unusedVariables false

/-- The length that is left of the first k words without the zero words on top. -/
def nrmTo (xs : List Int) : Nat → Nat
  | 0 => 0
  | k + 1 => if wd xs k = 0 then nrmTo xs k else k + 1
def nrm (xs : List Int) : Nat := nrmTo xs xs.length
theorem nrmTo_le (xs : List Int) : ∀ k, nrmTo xs k ≤ k
  | 0 => Nat.le_refl _
  | k + 1 => by
    unfold nrmTo
    split
    · exact Nat.le_succ_of_le (nrmTo_le xs k)
    · exact Nat.le_refl _
theorem nrm_le (xs : List Int) : nrm xs ≤ xs.length := nrmTo_le _ _

theorem nrmTo_zero {xs : List Int} {j : Nat} (h : wd xs j = 0) : nrmTo xs (j + 1) = nrmTo xs j := by simp [nrmTo, h]
theorem nrmTo_pos {xs : List Int} {j : Nat} (h : ¬ wd xs j = 0) : nrmTo xs (j + 1) = j + 1 := by simp [nrmTo, h]

theorem norm_at (b off n cap : Nat) (xs : List Int) (hl : xs.length = n) (hnc : n ≤ cap) (hcm : cap ≤ maxLen) (w : World) (hc : Cells w b off xs) :
    Calls Yba.prog 18 #[.slice (some ⟨b, off, none⟩) n cap] w fun e w' => e = .returned (.slice (some ⟨b, off, none⟩) (nrm xs) cap) ∧ w' = w := by
  unfold maxLen at hcm
  have HL : Hid (xs.length = n) := hl
  have HC : Hid (Cells w b off xs) := hc
  clear hl hc
  go_enter Yba.func18, Yba.ntmps18
  go_wp2
  go_loop [3] (fun i => ∃ k : Nat, k ≤ n ∧ i = .int .i64 k ∧ Hid (nrm xs = nrmTo xs k)) (fun i => (intOf i).toNat)
  case atStart => exact ⟨n, Nat.le_refl _, rfl, by unfold nrm; rw [HL.out]; exact rfl⟩
  case round =>
    obtain ⟨k, hk, rfl, hr⟩ := hrel
    by_cases h0 : 0 < k
    · obtain ⟨j, rfl⟩ : ∃ j, k = j + 1 := ⟨k - 1, by omega⟩
      have hcell : w.cell? ⟨b, off + j, none⟩ = some (.int .u64 (wd xs j)) := HC.out j (by have := HL.out; omega)
      by_cases hz : wd xs j = 0
      · have hz2 : (wd xs j == 0) = true := by simpa using hz
        have HN : Hid (nrmTo xs (j + 1) = nrmTo xs j) := nrmTo_zero hz
        clear hz
        go_wp2
        go_round
        case rel => exact ⟨j, by omega, rfl, hr.out.trans HN.out⟩
        case measure => simp [intOf]
      · have hz2 : (wd xs j == 0) = false := by simpa using hz
        have HN : Hid (nrmTo xs (j + 1) = j + 1) := nrmTo_pos hz
        clear hz
        go_wp2
        go_ret
        exact ⟨by rw [hr.out, HN.out]; rfl, rfl⟩
    · obtain rfl : k = 0 := by omega
      go_wp2
      go_ret
      exact ⟨by rw [hr.out]; rfl, rfl⟩

/-- An empty slice, wherever it lies. -/
theorem norm_nil (ao : Option Addr) (cap : Nat) (hcm : cap ≤ maxLen) (w : World) :
    Calls Yba.prog 18 #[.slice ao 0 cap] w fun e w' => e = .returned (.slice ao 0 cap) ∧ w' = w := by
  unfold maxLen at hcm
  go_enter Yba.func18, Yba.ntmps18
  go_wp2
  refine wp_loop_rounds 1 ?_
  rw [rounds_succ]
  go_wp2
  go_ret
  exact ⟨rfl, rfl⟩

/-- The first k words of both, compared from the top. -/
def cmpTo (xs ys : List Int) : Nat → Int
  | 0 => 0
  | k + 1 => if wd xs k < wd ys k then -1 else if wd ys k < wd xs k then 1 else cmpTo xs ys k
theorem cmpTo_lt {xs ys : List Int} {j : Nat} (h : wd xs j < wd ys j) : cmpTo xs ys (j + 1) = -1 := by simp [cmpTo, h]
theorem cmpTo_gt {xs ys : List Int} {j : Nat} (h : wd ys j < wd xs j) : cmpTo xs ys (j + 1) = 1 := by
  have : ¬ wd xs j < wd ys j := by omega
  simp [cmpTo, h, this]
theorem cmpTo_eq {xs ys : List Int} {j : Nat} (h : wd xs j = wd ys j) : cmpTo xs ys (j + 1) = cmpTo xs ys j := by simp [cmpTo, h]

theorem cmp_len (a1 a2 : Option Addr) (n n2 cap cap2 : Nat) (h : n ≠ n2) (hn : n ≤ 9223372036854775807) (hn2 : n2 ≤ 9223372036854775807) (w : World) :
    Calls Yba.prog 21 #[.slice a1 n cap, .slice a2 n2 cap2] w fun e w' => e = .returned (.int .i64 (if n < n2 then -1 else 1)) ∧ w' = w := by
  have h1 : ((n : Int) == (n2 : Int)) = false := by simpa using (show ¬ (n : Int) = (n2 : Int) by omega)
  by_cases h2 : n < n2
  · rw [if_pos h2]
    go_enter Yba.func21, Yba.ntmps21
    go_wp2
    go_ret
    exact ⟨rfl, rfl⟩
  · rw [if_neg h2]
    go_enter Yba.func21, Yba.ntmps21
    go_wp2
    go_ret
    exact ⟨rfl, rfl⟩

/-- w' is w behind some draws. -/
def Drawn (w w' : World) : Prop := ∃ q, w' = w.drewN q
theorem Drawn.refl (w : World) : Drawn w w := ⟨0, rfl⟩
theorem Drawn.more {w w' : World} (h : Drawn w w') (k : Nat) : Drawn w (w'.drewN k) := by
  obtain ⟨q, rfl⟩ := h
  exact ⟨q + k, by simp⟩

theorem cmp_at (b off b2 off2 n cap cap2 : Nat) (xs ys : List Int) (hl : n ≤ xs.length) (hl2 : n ≤ ys.length) (hn : n ≤ 9223372036854775807) (w : World) (hc : Cells w b off xs) (hc2 : Cells w b2 off2 ys) :
    Calls Yba.prog 21 #[.slice (some ⟨b, off, none⟩) n cap, .slice (some ⟨b2, off2, none⟩) n cap2] w fun e w' => e = .returned (.int .i64 (cmpTo xs ys n)) ∧ Drawn w w' := by
  have HC : Hid (Cells w b off xs) := hc
  have HC2 : Hid (Cells w b2 off2 ys) := hc2
  have HL : Hid (n ≤ xs.length ∧ n ≤ ys.length) := ⟨hl, hl2⟩
  clear hc hc2 hl hl2
  go_enter Yba.func21, Yba.ntmps21
  go_wp2
  go_loopw [5] (fun i wr => ∃ k : Nat, k ≤ n ∧ i = .int .i64 ((k : Int) - 1) ∧ Drawn w wr ∧ Hid (cmpTo xs ys n = cmpTo xs ys k)) (fun i _ => (intOf i + 1).toNat)
  case atStart => exact ⟨n, Nat.le_refl _, rfl, Drawn.refl w, rfl⟩
  case round =>
    obtain ⟨k, hk, rfl, ⟨q, rfl⟩, hr⟩ := hrel
    by_cases h0 : 0 < k
    · obtain ⟨j, rfl⟩ : ∃ j, k = j + 1 := ⟨k - 1, by omega⟩
      have hcell : w.cell? ⟨b, off + j, none⟩ = some (.int .u64 (wd xs j)) := HC.out j (by have := HL.out; omega)
      have hcell2 : w.cell? ⟨b2, off2 + j, none⟩ = some (.int .u64 (wd ys j)) := HC2.out j (by have := HL.out; omega)
      have i0 : (0 : Int) ≤ (j : Int) := by omega
      have i1 : (j : Int) < (n : Int) := by omega
      by_cases hlt : wd xs j < wd ys j
      · go_wp2
        go_quiet (fail)
        go_wp2
        go_ret
        exact ⟨by rw [hr.out, cmpTo_lt hlt]; rfl, Drawn.more ⟨q, rfl⟩ _⟩
      · by_cases hgt : wd ys j < wd xs j
        · go_wp2
          go_quiet (fail)
          go_wp2
          go_quiet (fail)
          go_wp2
          go_ret
          exact ⟨by rw [hr.out, cmpTo_gt hgt]; rfl, (Drawn.more ⟨q, rfl⟩ _).more _⟩
        · have HE : Hid (wd xs j = wd ys j) := show wd xs j = wd ys j by omega
          go_wp2
          go_quiet (fail)
          go_wp2
          go_quiet (fail)
          go_wp2
          go_roundw
          case rel => exact ⟨j, by omega, by go_num, ⟨_, rfl⟩, hr.out.trans (cmpTo_eq HE.out)⟩
          case measure => simp [intOf]
    · obtain rfl : k = 0 := by omega
      go_wp2
      go_ret
      exact ⟨by rw [hr.out]; rfl, q, rfl⟩
end Go.Proofs.Ybulkcmly
