/-
  karatsubaScratch, useNTT.
-/
import Derived.Test.YbulkcmlyMulD
namespace Go.Proofs.Ybulkcmly
open Go.RowKit
set_option linter.unusedVariables false

/-- The words of working storage. -/
def scr (n : Nat) : Nat := if h : n < 40 then 0 else 6 * (n - n / 2) + 1 + scr (n - n / 2)
termination_by n
decreasing_by omega

theorem scr_lt {n : Nat} (h : n < 40) : scr n = 0 := by rw [scr]; simp [h]
theorem scr_ge {n : Nat} (h : ¬ n < 40) : scr n = 6 * (n - n / 2) + 1 + scr (n - n / 2) := by rw [scr]; simp [h]
theorem scr_le (n : Nat) : scr n ≤ 13 * n := by
  induction n using Nat.strongRecOn with
  | _ n ih =>
    by_cases h : n < 40
    · rw [scr_lt h]; omega
    · rw [scr_ge h]
      have := ih (n - n / 2) (by omega)
      omega

set_option maxHeartbeats 400000 in
set_option maxRecDepth 100000 in
theorem ntt_no (m n : Nat) (hn : (n : Int) < 4000) (w : World) :
    Calls Yba.prog 25 #[.int .i64 m, .int .i64 n] w fun e w' => e = .returned (.bool false) ∧ w' = w := by
  go_enter Yba.func25, Yba.ntmps25
  go_wp2
  go_ret
  exact ⟨rfl, rfl⟩

set_option maxHeartbeats 400000 in
theorem scr_at (n : Nat) (hn : n ≤ 1024) (w : World) :
    Calls Yba.prog 27 #[.int .i64 n] w fun e w' => e = .returned (.int .i64 (scr n)) ∧ w' = w := by
  go_enter Yba.func27, Yba.ntmps27
  go_wp2
  go_loop [0, 3] (fun a s => ∃ (k t : Nat), k ≤ n ∧ t ≤ 13 * n ∧ a = .int .i64 k ∧ s = .int .i64 t ∧ Hid (t + scr k = scr n)) (fun a _ => (intOf a).toNat)
  case atStart => exact ⟨n, 0, Nat.le_refl _, by omega, rfl, rfl, Nat.zero_add _⟩
  case round =>
    obtain ⟨k, t, hk, ht, rfl, rfl, hr⟩ := hrel
    by_cases hlt : k < 40
    · have h1 : (k : Int) < 40 := by omega
      have e : t = scr n := by have := hr.out; rw [scr_lt hlt] at this; exact this
      clear hlt hr
      go_wp2
      go_ret
      exact ⟨rfl, rfl⟩
    · have h1 : (40 : Int) ≤ (k : Int) := by omega
      have e := hr.out
      rw [scr_ge hlt] at e
      have b1 := scr_le n
      have R : Hid (t + (6 * (k - k / 2) + 1) + scr (k - k / 2) = scr n ∧ t + (6 * (k - k / 2) + 1) ≤ 13 * n) := ⟨by omega, by omega⟩
      clear e b1 hr hlt
      go_wp2
      go_round
      case rel => exact ⟨k - k / 2, t + (6 * (k - k / 2) + 1), by omega, R.out.2, by go_num, by go_num, R.out.1⟩
      case measure => simp [intOf]; omega
end Go.Proofs.Ybulkcmly
