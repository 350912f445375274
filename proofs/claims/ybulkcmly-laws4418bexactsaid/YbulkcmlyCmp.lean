/-
  zzs4418bword, zzs4418bcmp; the plain law of the addition back.
-/
import Derived.Test.YbulkcmlyAbs2
namespace Go.Proofs.Ybulkcmly
open Go.RowKit
set_option linter.unusedVariables false

theorem bword_in (b off n cap : Nat) (i : Nat) (v : Int) (hi : i < n) (hn : n ≤ 1024) (w : World) (hc : w.cell? ⟨b, off + i, none⟩ = some (.int .u64 v)) :
    Calls Yba.prog 15 #[.slice (some ⟨b, off, none⟩) n cap, .int .i64 i] w fun e w' => e = .returned (.int .u64 v) ∧ w' = w := by
  have h1 : (i : Int) < (n : Int) := by omega
  go_enter Yba.func15, Yba.ntmps15
  go_wp2
  go_ret
  exact ⟨rfl, rfl⟩

theorem bword_out (ao : Option Addr) (n cap : Nat) (i : Nat) (hi : n ≤ i) (hi2 : i ≤ 2000) (w : World) :
    Calls Yba.prog 15 #[.slice ao n cap, .int .i64 i] w fun e w' => e = .returned (.int .u64 0) ∧ w' = w := by
  have h1 : ¬ (i : Int) < (n : Int) := by omega
  go_enter Yba.func15, Yba.ntmps15
  go_wp2
  go_ret
  exact ⟨rfl, rfl⟩

theorem bword_src (ao : Option Addr) (n cap : Nat) (xs : List Int) (hl : xs.length = n) (hn : n ≤ 1024) (i : Nat) (hi : i ≤ 2000) (w : World) (hc : At w ao xs) :
    Calls Yba.prog 15 #[.slice ao n cap, .int .i64 i] w fun e w' => e = .returned (.int .u64 (wd xs i)) ∧ w' = w := by
  by_cases h : i < n
  · rcases hc with rfl | ⟨b, o, rfl, hc⟩
    · simp at hl; omega
    · exact bword_in b o n cap i _ h hn w (hc i (by omega))
  · rw [wd_end xs i (by omega)]
    exact bword_out ao n cap i (by omega) hi w

set_option maxHeartbeats 800000 in
theorem bcmp_a (a1 a2 : Option Addr) (n1 cap1 n2 cap2 : Nat) (xs ys : List Int) (hn1 : n1 ≤ 1024) (hn2 : n2 ≤ 1024) (hm : (n2 : Int) ≤ n1) (hmd : decide (n1 < n2) = false) (w : World)
    (C1 : Hid (∀ i, i ≤ 2000 → Calls Yba.prog 15 #[.slice a1 n1 cap1, .int .i64 (i : Nat)] w fun e w' => e = .returned (.int .u64 (wd xs i)) ∧ w' = w))
    (C2 : Hid (∀ i, i ≤ 2000 → Calls Yba.prog 15 #[.slice a2 n2 cap2, .int .i64 (i : Nat)] w fun e w' => e = .returned (.int .u64 (wd ys i)) ∧ w' = w)) :
    Calls Yba.prog 13 #[.slice a1 n1 cap1, .slice a2 n2 cap2] w fun e w' => e = .returned (.int .i64 (cmpTo xs ys n1)) ∧ w' = w := by
  go_enter Yba.func13, Yba.ntmps13
  go_wp2
  go_loop [6] (fun i => ∃ k : Nat, k ≤ n1 ∧ i = .int .i64 ((k : Int) - 1) ∧ Hid (cmpTo xs ys n1 = cmpTo xs ys k)) (fun i => (intOf i + 1).toNat)
  case atStart => exact ⟨n1, Nat.le_refl _, rfl, rfl⟩
  case round =>
    obtain ⟨k, hk, rfl, hr⟩ := hrel
    by_cases h0 : 0 < k
    · obtain ⟨j, rfl⟩ : ∃ j, k = j + 1 := ⟨k - 1, by omega⟩
      have hj : j ≤ 2000 := by omega
      have ej : (((j + 1 : Nat) : Int) - 1) = (j : Int) := by omega
      have i0 : (0 : Int) ≤ (j : Int) := by omega
      rw [ej]
      clear ej
      by_cases hlt : wd xs j < wd ys j
      · go_wp2_with fail
        refine (C1.out j hj).mono ?_
        rintro e w' ⟨rfl, hw⟩
        rw [hw]
        clear hw w'
        go_wp2_with fail
        refine (C2.out j hj).mono ?_
        rintro e w' ⟨rfl, hw⟩
        rw [hw]
        clear hw w'
        go_wp2
        go_ret
        exact ⟨by rw [hr.out, cmpTo_lt hlt]; rfl, rfl⟩
      · by_cases hgt : wd ys j < wd xs j
        · go_wp2_with fail
          refine (C1.out j hj).mono ?_
          rintro e w' ⟨rfl, hw⟩
          rw [hw]
          clear hw w'
          go_wp2_with fail
          refine (C2.out j hj).mono ?_
          rintro e w' ⟨rfl, hw⟩
          rw [hw]
          clear hw w'
          go_wp2
          go_ret
          exact ⟨by rw [hr.out, cmpTo_gt hgt]; rfl, rfl⟩
        · have HE : Hid (wd xs j = wd ys j) := show wd xs j = wd ys j by omega
          go_wp2_with fail
          refine (C1.out j hj).mono ?_
          rintro e w' ⟨rfl, hw⟩
          rw [hw]
          clear hw w'
          go_wp2_with fail
          refine (C2.out j hj).mono ?_
          rintro e w' ⟨rfl, hw⟩
          rw [hw]
          clear hw w'
          go_wp2
          go_round
          case rel => first | exact ⟨j, by omega, by go_num, hr.out.trans (cmpTo_eq HE.out)⟩ | (refine ⟨trivial, ?_⟩; (repeat apply Exists.intro); exact ⟨⟨j, by omega, by go_num, hr.out.trans (cmpTo_eq HE.out)⟩, rfl⟩)
          case measure => simp [intOf]
    · obtain rfl : k = 0 := by omega
      go_wp2
      go_ret
      exact ⟨by rw [hr.out]; rfl, rfl⟩

set_option maxHeartbeats 800000 in
theorem bcmp_b (a1 a2 : Option Addr) (n1 cap1 n2 cap2 : Nat) (xs ys : List Int) (hn1 : n1 ≤ 1024) (hn2 : n2 ≤ 1024) (hm : (n1 : Int) < n2) (hmd : decide (n1 < n2) = true) (w : World)
    (C1 : Hid (∀ i, i ≤ 2000 → Calls Yba.prog 15 #[.slice a1 n1 cap1, .int .i64 (i : Nat)] w fun e w' => e = .returned (.int .u64 (wd xs i)) ∧ w' = w))
    (C2 : Hid (∀ i, i ≤ 2000 → Calls Yba.prog 15 #[.slice a2 n2 cap2, .int .i64 (i : Nat)] w fun e w' => e = .returned (.int .u64 (wd ys i)) ∧ w' = w)) :
    Calls Yba.prog 13 #[.slice a1 n1 cap1, .slice a2 n2 cap2] w fun e w' => e = .returned (.int .i64 (cmpTo xs ys n2)) ∧ w' = w := by
  go_enter Yba.func13, Yba.ntmps13
  go_wp2
  go_loop [6] (fun i => ∃ k : Nat, k ≤ n2 ∧ i = .int .i64 ((k : Int) - 1) ∧ Hid (cmpTo xs ys n2 = cmpTo xs ys k)) (fun i => (intOf i + 1).toNat)
  case atStart => exact ⟨n2, Nat.le_refl _, rfl, rfl⟩
  case round =>
    obtain ⟨k, hk, rfl, hr⟩ := hrel
    by_cases h0 : 0 < k
    · obtain ⟨j, rfl⟩ : ∃ j, k = j + 1 := ⟨k - 1, by omega⟩
      have hj : j ≤ 2000 := by omega
      have ej : (((j + 1 : Nat) : Int) - 1) = (j : Int) := by omega
      have i0 : (0 : Int) ≤ (j : Int) := by omega
      rw [ej]
      clear ej
      by_cases hlt : wd xs j < wd ys j
      · go_wp2_with fail
        refine (C1.out j hj).mono ?_
        rintro e w' ⟨rfl, hw⟩
        rw [hw]
        clear hw w'
        go_wp2_with fail
        refine (C2.out j hj).mono ?_
        rintro e w' ⟨rfl, hw⟩
        rw [hw]
        clear hw w'
        go_wp2
        go_ret
        exact ⟨by rw [hr.out, cmpTo_lt hlt]; rfl, rfl⟩
      · by_cases hgt : wd ys j < wd xs j
        · go_wp2_with fail
          refine (C1.out j hj).mono ?_
          rintro e w' ⟨rfl, hw⟩
          rw [hw]
          clear hw w'
          go_wp2_with fail
          refine (C2.out j hj).mono ?_
          rintro e w' ⟨rfl, hw⟩
          rw [hw]
          clear hw w'
          go_wp2
          go_ret
          exact ⟨by rw [hr.out, cmpTo_gt hgt]; rfl, rfl⟩
        · have HE : Hid (wd xs j = wd ys j) := show wd xs j = wd ys j by omega
          go_wp2_with fail
          refine (C1.out j hj).mono ?_
          rintro e w' ⟨rfl, hw⟩
          rw [hw]
          clear hw w'
          go_wp2_with fail
          refine (C2.out j hj).mono ?_
          rintro e w' ⟨rfl, hw⟩
          rw [hw]
          clear hw w'
          go_wp2
          go_round
          case rel => first | exact ⟨j, by omega, by go_num, hr.out.trans (cmpTo_eq HE.out)⟩ | (refine ⟨trivial, ?_⟩; (repeat apply Exists.intro); exact ⟨⟨j, by omega, by go_num, hr.out.trans (cmpTo_eq HE.out)⟩, rfl⟩)
          case measure => simp [intOf]
    · obtain rfl : k = 0 := by omega
      go_wp2
      go_ret
      exact ⟨by rw [hr.out]; rfl, rfl⟩

set_option maxHeartbeats 800000 in
theorem bcmp_core (a1 a2 : Option Addr) (n1 cap1 n2 cap2 n : Nat) (xs ys : List Int) (hn1 : n1 ≤ 1024) (hn2 : n2 ≤ 1024) (hmax : ((n2 : Int) ≤ n1 ∧ n = n1) ∨ ((n1 : Int) < n2 ∧ n = n2)) (w : World)
    (c1 : ∀ i, i ≤ 2000 → Calls Yba.prog 15 #[.slice a1 n1 cap1, .int .i64 (i : Nat)] w fun e w' => e = .returned (.int .u64 (wd xs i)) ∧ w' = w)
    (c2 : ∀ i, i ≤ 2000 → Calls Yba.prog 15 #[.slice a2 n2 cap2, .int .i64 (i : Nat)] w fun e w' => e = .returned (.int .u64 (wd ys i)) ∧ w' = w) :
    Calls Yba.prog 13 #[.slice a1 n1 cap1, .slice a2 n2 cap2] w fun e w' => e = .returned (.int .i64 (cmpTo xs ys n)) ∧ w' = w := by
  have C1 := hid c1
  have C2 := hid c2
  clear c1 c2
  rcases hmax with ⟨hm, hnn⟩ | ⟨hm, hnn⟩
  · have hmd : decide (n1 < n2) = false := decide_eq_false (by omega)
    subst hnn
    exact bcmp_a a1 a2 n cap1 n2 cap2 xs ys hn1 hn2 hm hmd w C1 C2
  · have hmd : decide (n1 < n2) = true := decide_eq_true (by omega)
    subst hnn
    exact bcmp_b a1 a2 n1 cap1 n cap2 xs ys hn1 hn2 hm hmd w C1 C2
end Go.Proofs.Ybulkcmly
