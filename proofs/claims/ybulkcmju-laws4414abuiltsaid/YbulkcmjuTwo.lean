/-
  zzs4414atwo; the values of an isoFields.
-/
import Derived.Test.YbulkcmjuLeaf
import Derived.Test.YbulkcmjuPlain2
import Derived.Deep.QuietTactic
import Derived.BigQuiet
import Derived.RegionTactic
import Derived.Deep.RegionWith
namespace Go.Proofs.Ybulkcmju
open Go.RowKit
set_option linter.unusedVariables false

/-- An isoFields as the check makes it: the hour, the minute, the second, the fraction and its unit; all else is fixed. -/
abbrev isoV (h m s : Int) (fr : ByteArray) (u : Int) : Value := .agg #[.int .i64 7, .int .i64 3, .int .i64 4, .int .i64 h, .int .i64 m, .int .i64 s, .string ⟨#[50, 48, 50, 54]⟩, .int .i64 2, .int .i64 5, .int .i64 6, .int .i64 2, .string fr, .int .i64 u, .string ⟨#[90]⟩, .int .i64 0, .bool false, .int .i64 0, .int .i64 0, .string ⟨#[]⟩]

theorem atwo_0 (s : ByteArray) (h : 1 < s.size) (g0 : digB s[0] = true) (g1 : digB s[1] = true) (w : World) :
    Calls Yba.prog 16 #[.string s, .int .i64 0] w fun e w' => e = .returned (.int .i64 (two s[0] s[1])) ∧ w' = w.drew := by
  have p0 := (digB_iff _).1 g0
  have p1 := (digB_iff _).1 g1
  have a48 : (48 : Int) ≤ (s[0].toNat : Int) := by omega
  have a57 : (s[0].toNat : Int) ≤ 57 := by omega
  have b48 : (48 : Int) ≤ (s[1].toNat : Int) := by omega
  have b57 : (s[1].toNat : Int) ≤ 57 := by omega
  have i1 : (1 : Int) < (s.size : Int) := by omega
  have i2 : 0 < s.size := by omega
  clear p0 p1 g0 g1
  unfold two
  go_enter Yba.func16, Yba.ntmps16
  go_wp2
  go_region
  go_wp2
  go_ret
  exact ⟨rfl, rfl⟩

theorem atwo_2 (s : ByteArray) (h : 3 < s.size) (g0 : digB s[2] = true) (g1 : digB s[3] = true) (w : World) :
    Calls Yba.prog 16 #[.string s, .int .i64 2] w fun e w' => e = .returned (.int .i64 (two s[2] s[3])) ∧ w' = w.drew := by
  have p0 := (digB_iff _).1 g0
  have p1 := (digB_iff _).1 g1
  have a48 : (48 : Int) ≤ (s[2].toNat : Int) := by omega
  have a57 : (s[2].toNat : Int) ≤ 57 := by omega
  have b48 : (48 : Int) ≤ (s[3].toNat : Int) := by omega
  have b57 : (s[3].toNat : Int) ≤ 57 := by omega
  have i1 : (3 : Int) < (s.size : Int) := by omega
  have i2 : (2 : Int) < (s.size : Int) := by omega
  clear p0 p1 g0 g1
  unfold two
  go_enter Yba.func16, Yba.ntmps16
  go_wp2
  go_region
  go_wp2
  go_ret
  exact ⟨rfl, rfl⟩

theorem atwo_3 (s : ByteArray) (h : 4 < s.size) (g0 : digB s[3] = true) (g1 : digB s[4] = true) (w : World) :
    Calls Yba.prog 16 #[.string s, .int .i64 3] w fun e w' => e = .returned (.int .i64 (two s[3] s[4])) ∧ w' = w.drew := by
  have p0 := (digB_iff _).1 g0
  have p1 := (digB_iff _).1 g1
  have a48 : (48 : Int) ≤ (s[3].toNat : Int) := by omega
  have a57 : (s[3].toNat : Int) ≤ 57 := by omega
  have b48 : (48 : Int) ≤ (s[4].toNat : Int) := by omega
  have b57 : (s[4].toNat : Int) ≤ 57 := by omega
  have i1 : (4 : Int) < (s.size : Int) := by omega
  have i2 : (3 : Int) < (s.size : Int) := by omega
  clear p0 p1 g0 g1
  unfold two
  go_enter Yba.func16, Yba.ntmps16
  go_wp2
  go_region
  go_wp2
  go_ret
  exact ⟨rfl, rfl⟩

theorem atwo_4 (s : ByteArray) (h : 5 < s.size) (g0 : digB s[4] = true) (g1 : digB s[5] = true) (w : World) :
    Calls Yba.prog 16 #[.string s, .int .i64 4] w fun e w' => e = .returned (.int .i64 (two s[4] s[5])) ∧ w' = w.drew := by
  have p0 := (digB_iff _).1 g0
  have p1 := (digB_iff _).1 g1
  have a48 : (48 : Int) ≤ (s[4].toNat : Int) := by omega
  have a57 : (s[4].toNat : Int) ≤ 57 := by omega
  have b48 : (48 : Int) ≤ (s[5].toNat : Int) := by omega
  have b57 : (s[5].toNat : Int) ≤ 57 := by omega
  have i1 : (5 : Int) < (s.size : Int) := by omega
  have i2 : (4 : Int) < (s.size : Int) := by omega
  clear p0 p1 g0 g1
  unfold two
  go_enter Yba.func16, Yba.ntmps16
  go_wp2
  go_region
  go_wp2
  go_ret
  exact ⟨rfl, rfl⟩

theorem atwo_6 (s : ByteArray) (h : 7 < s.size) (g0 : digB s[6] = true) (g1 : digB s[7] = true) (w : World) :
    Calls Yba.prog 16 #[.string s, .int .i64 6] w fun e w' => e = .returned (.int .i64 (two s[6] s[7])) ∧ w' = w.drew := by
  have p0 := (digB_iff _).1 g0
  have p1 := (digB_iff _).1 g1
  have a48 : (48 : Int) ≤ (s[6].toNat : Int) := by omega
  have a57 : (s[6].toNat : Int) ≤ 57 := by omega
  have b48 : (48 : Int) ≤ (s[7].toNat : Int) := by omega
  have b57 : (s[7].toNat : Int) ≤ 57 := by omega
  have i1 : (7 : Int) < (s.size : Int) := by omega
  have i2 : (6 : Int) < (s.size : Int) := by omega
  clear p0 p1 g0 g1
  unfold two
  go_enter Yba.func16, Yba.ntmps16
  go_wp2
  go_region
  go_wp2
  go_ret
  exact ⟨rfl, rfl⟩

end Go.Proofs.Ybulkcmju
