/-
  The contracts of the leaves: leadingDigits, readDigits (two digits), the digit tests.
-/
import Derived.Test.YbulkcmjuRows
import Derived.Test.YbulkcmjuPlain
import Derived.WalkKit
import Derived.WalkSpells
import Derived.WalkLawsBesides
namespace Go.Proofs.Ybulkcmju
open Go.RowKit

theorem ret_int {k : IntKind} {a b : Int} (h : a = b) : Ending.returned (.int k a) = .returned (.int k b) := by rw [h]

theorem lead_at (s : ByteArray) (k : Nat) (hk : k ≤ s.size) (h1 : ∀ j (h : j < s.size), j < k → digB s[j] = true)
    (h2 : ∀ h : k < s.size, digB s[k] = false) : lead s.data.toList = k :=
  lead_eq _ k (by simpa using hk) (fun j h hj => h1 j (by simpa using h) hj) (fun h => h2 (by simpa using h))

set_option maxHeartbeats 400000 in
theorem leading_any (s : ByteArray) (w : World) (hs : s.size ≤ maxLen) :
    Calls Yba.prog 12 #[.string s] w fun e w' => e = .returned (.int .i64 (lead s.data.toList)) ∧ w' = w := by
  unfold maxLen at hs
  go_enter Yba.func12, Yba.ntmps12
  go_wp2
  go_loop [3] (fun n => ∃ k : Nat, k ≤ s.size ∧ n = .int .i64 k ∧ Hid (∀ j (h : j < s.size), j < k → digB s[j] = true)) (fun n => s.size - (intOf n).toNat)
  case atStart => exact ⟨0, Nat.zero_le _, rfl, fun j h hj => absurd hj (by omega)⟩
  case round =>
    obtain ⟨k, hk, rfl, hd⟩ := hrel
    by_cases hlt : k < s.size
    · by_cases hg : digB s[k] = true
      · have hg2 := (digB_iff _).1 hg
        have h48 : (48 : Int) ≤ (s[k].toNat : Int) := by omega
        have h57 : (s[k].toNat : Int) ≤ 57 := by omega
        have HG : Hid (digB s[k] = true) := hg
        clear hg hg2
        go_wp2
        go_round
        case rel => exact ⟨k + 1, by omega, by go_num, fun j h hj => by by_cases e : j = k; (subst e; exact HG.out); exact hd.out j h (by omega)⟩
        case measure => simp [intOf]; omega
      · have hn : digB s[k] = false := by simpa using hg
        have HN : Hid (digB s[k] = false) := hn
        have hg2 : ¬ (48 ≤ s[k].toNat ∧ s[k].toNat ≤ 57) := fun h => hg ((digB_iff _).2 h)
        have HL : Hid (lead s.data.toList = k) := lead_at s k hk hd.out (fun _ => HN.out)
        clear hg hn
        by_cases h48 : (48 : Int) ≤ (s[k].toNat : Int)
        · have h57 : ¬ (s[k].toNat : Int) ≤ 57 := by omega
          clear hg2
          go_wp2
          go_ret
          exact ⟨ret_int (by rw [HL.out]), rfl⟩
        · clear hg2
          go_wp2
          go_ret
          exact ⟨ret_int (by rw [HL.out]), rfl⟩
    · go_wp2
      go_ret
      exact ⟨ret_int (by rw [lead_at s k hk hd.out (fun h => absurd h hlt)]), rfl⟩

/-- The number that two digits write. -/
def two (c0 c1 : UInt8) : Int := ((c0.toNat : Int) - 48) * 10 + ((c1.toNat : Int) - 48)

set_option maxHeartbeats 400000 in
theorem read_two (s : ByteArray) (hz : s.size = 2) (g0 : digB s[0] = true) (g1 : digB s[1] = true) (w : World) :
    Calls Yba.prog 13 #[.string s] w fun e w' => e = .returned (.tuple #[.int .i64 (two s[0] s[1]), .bool true]) ∧ w' = w := by
  have p0 := (digB_iff _).1 g0
  have p1 := (digB_iff _).1 g1
  have a48 : (48 : Int) ≤ (s[0].toNat : Int) := by omega
  have a57 : (s[0].toNat : Int) ≤ 57 := by omega
  have b48 : (48 : Int) ≤ (s[1].toNat : Int) := by omega
  have b57 : (s[1].toNat : Int) ≤ 57 := by omega
  clear p0 p1 g0 g1
  unfold two
  go_enter Yba.func13, Yba.ntmps13
  go_wp2
  go_loop [2, 3, 4] (fun v _ i => (i = .int .i64 0 ∧ v = .int .i64 0) ∨ (i = .int .i64 1 ∧ v = .int .i64 ((s[0].toNat : Int) - 48)) ∨ (i = .int .i64 2 ∧ v = .int .i64 (((s[0].toNat : Int) - 48) * 10 + ((s[1].toNat : Int) - 48)))) (fun _ _ i => 2 - (intOf i).toNat)
  case atStart => exact .inl ⟨rfl, rfl⟩
  case round =>
    rcases hrel with ⟨rfl, rfl⟩ | ⟨rfl, rfl⟩ | ⟨rfl, rfl⟩
    · go_wp2
      go_round
      case rel => exact .inr (.inl ⟨by go_num, by go_num⟩)
      case measure => simp [intOf]
    · go_wp2
      go_round
      case rel => exact .inr (.inr ⟨by go_num, by go_num⟩)
      case measure => simp [intOf]
    · go_wp2
      go_ret2
      exact ⟨rfl, rfl⟩

theorem cdig_any (c : UInt8) (w : World) : Calls Yba.prog 14 #[.int .u8 c.toNat] w fun e w' => e = .returned (.bool (digB c)) ∧ w' = w := by
  by_cases h1 : (48 : Int) ≤ (c.toNat : Int)
  · by_cases h2 : (c.toNat : Int) ≤ 57
    · rw [show digB c = true from (digB_iff c).2 ⟨by omega, by omega⟩]
      go_enter Yba.func14, Yba.ntmps14
      go_wp2
      go_ret
      exact ⟨rfl, rfl⟩
    · rw [show digB c = false by rw [← Bool.not_eq_true, digB_iff]; omega]
      go_enter Yba.func14, Yba.ntmps14
      go_wp2
      go_ret
      exact ⟨rfl, rfl⟩
  · rw [show digB c = false by rw [← Bool.not_eq_true, digB_iff]; omega]
    go_enter Yba.func14, Yba.ntmps14
    go_wp2
    go_ret
    exact ⟨rfl, rfl⟩

theorem adig_any (c : UInt8) (w : World) : Calls Yba.prog 15 #[.int .u8 c.toNat] w fun e w' => e = .returned (.bool (digB c)) ∧ w' = w := by
  by_cases h1 : (48 : Int) ≤ (c.toNat : Int)
  · by_cases h2 : (c.toNat : Int) ≤ 57
    · rw [show digB c = true from (digB_iff c).2 ⟨by omega, by omega⟩]
      go_enter Yba.func15, Yba.ntmps15
      go_wp2
      go_ret
      exact ⟨rfl, rfl⟩
    · rw [show digB c = false by rw [← Bool.not_eq_true, digB_iff]; omega]
      go_enter Yba.func15, Yba.ntmps15
      go_wp2
      go_ret
      exact ⟨rfl, rfl⟩
  · rw [show digB c = false by rw [← Bool.not_eq_true, digB_iff]; omega]
    go_enter Yba.func15, Yba.ntmps15
    go_wp2
    go_ret
    exact ⟨rfl, rfl⟩

end Go.Proofs.Ybulkcmju
