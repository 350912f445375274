/-
  The contract of zzs4414cmodel, a theorem a shape of the designator.
-/
import Derived.Test.YbulkcmjuZone
import Derived.RegionTactic
namespace Go.Proofs.Ybulkcmju
open Go.RowKit
set_option linter.unusedVariables false

theorem model_Z (s : ByteArray) (hZ : (s.toList == [90]) = true) (w : World) :
    Calls Yba.prog 9 #[.string s] w fun e w' => e = .returned (.tuple #[zval s 0 false 0 0 ⟨#[]⟩, .bool true]) ∧ Below w.heap.size w w' := by
  go_enter Yba.func9, Yba.ntmps9
  go_wp2_with (go_at_call 14; refine (cdig_any _ _).mono ?_; rintro e w' ⟨rfl, rfl⟩)
  exact bodyPost_ret (v := .tuple #[zval s 0 false 0 0 ⟨#[]⟩, .bool true]) (by simp [results, Yba.results9, go_sem]) rfl ⟨rfl, (Below.refl _ _).alloc (Nat.le_refl _) _⟩

theorem model_short (s : ByteArray) (hZ : (s.toList == [90]) = false) (h3 : (s.size : Int) < 3) (w : World) :
    Calls Yba.prog 9 #[.string s] w fun e w' => e = .returned (.tuple #[zero, .bool false]) ∧ Below w.heap.size w w' := by
  go_enter Yba.func9, Yba.ntmps9
  go_wp2_with (go_at_call 14; refine (cdig_any _ _).mono ?_; rintro e w' ⟨rfl, rfl⟩)
  exact bodyPost_ret (v := .tuple #[zero, .bool false]) (by simp [results, Yba.results9, go_sem]) rfl ⟨rfl, (Below.refl _ _).alloc (Nat.le_refl _) _⟩

theorem model_sign (s : ByteArray) (hZ : (s.toList == [90]) = false) (h3 : (3 : Int) ≤ s.size) (hs : s.size ≤ 9223372036854775807) (hn : 0 < s.size) (h1 : ¬ (s[0].toNat : Int) = 43) (h2 : ¬ (s[0].toNat : Int) = 45) (w : World) :
    Calls Yba.prog 9 #[.string s] w fun e w' => e = .returned (.tuple #[zero, .bool false]) ∧ Below w.heap.size w w' := by
  go_enter Yba.func9, Yba.ntmps9
  go_wp2_with (go_at_call 14; refine (cdig_any _ _).mono ?_; rintro e w' ⟨rfl, rfl⟩)
  exact bodyPost_ret (v := .tuple #[zero, .bool false]) (by simp [results, Yba.results9, go_sem]) rfl ⟨rfl, (Below.refl _ _).alloc (Nat.le_refl _) _⟩

set_option maxHeartbeats 1600000 in
theorem model_d1 (s : ByteArray) (neg : Bool) (hZ : (s.toList == [90]) = false) (h3 : 3 ≤ s.size) (hs : s.size ≤ maxLen) (h1 : Sg s[0] neg) (g1 : digB s[1] = false) (w : World) :
    Calls Yba.prog 9 #[.string s] w fun e w' => e = .returned (.tuple #[zero, .bool false]) ∧ Below w.heap.size w w' := by
  unfold maxLen at hs
  rcases h1 with ⟨rfl, h1⟩ | ⟨rfl, h1⟩
  · go_enter Yba.func9, Yba.ntmps9
    go_wp2_with (go_at_call 14; refine (cdig_any _ _).mono ?_; rintro e w' ⟨rfl, rfl⟩)
    exact bodyPost_ret (v := .tuple #[zero, .bool false]) (by simp [results, Yba.results9, go_sem]) rfl ⟨rfl, (Below.refl _ _).alloc (Nat.le_refl _) _⟩
  · go_enter Yba.func9, Yba.ntmps9
    go_wp2_with (go_at_call 14; refine (cdig_any _ _).mono ?_; rintro e w' ⟨rfl, rfl⟩)
    exact bodyPost_ret (v := .tuple #[zero, .bool false]) (by simp [results, Yba.results9, go_sem]) rfl ⟨rfl, (Below.refl _ _).alloc (Nat.le_refl _) _⟩

set_option maxHeartbeats 1600000 in
theorem model_d2 (s : ByteArray) (neg : Bool) (hZ : (s.toList == [90]) = false) (h3 : 3 ≤ s.size) (hs : s.size ≤ maxLen) (h1 : Sg s[0] neg) (g1 : digB s[1] = true) (g2 : digB s[2] = false) (w : World) :
    Calls Yba.prog 9 #[.string s] w fun e w' => e = .returned (.tuple #[zero, .bool false]) ∧ Below w.heap.size w w' := by
  unfold maxLen at hs
  rcases h1 with ⟨rfl, h1⟩ | ⟨rfl, h1⟩
  · go_enter Yba.func9, Yba.ntmps9
    go_wp2_with (go_at_call 14; refine (cdig_any _ _).mono ?_; rintro e w' ⟨rfl, rfl⟩)
    exact bodyPost_ret (v := .tuple #[zero, .bool false]) (by simp [results, Yba.results9, go_sem]) rfl ⟨rfl, (Below.refl _ _).alloc (Nat.le_refl _) _⟩
  · go_enter Yba.func9, Yba.ntmps9
    go_wp2_with (go_at_call 14; refine (cdig_any _ _).mono ?_; rintro e w' ⟨rfl, rfl⟩)
    exact bodyPost_ret (v := .tuple #[zero, .bool false]) (by simp [results, Yba.results9, go_sem]) rfl ⟨rfl, (Below.refl _ _).alloc (Nat.le_refl _) _⟩

set_option maxHeartbeats 1600000 in
theorem model_3 (s : ByteArray) (neg : Bool) (hZ : (s.toList == [90]) = false) (h3 : 3 ≤ s.size) (hs : s.size ≤ maxLen) (h1 : Sg s[0] neg) (g1 : digB s[1] = true) (g2 : digB s[2] = true) (k3 : (s.size : Int) ≤ 3) (w : World) :
    Calls Yba.prog 9 #[.string s] w fun e w' => e = .returned (.tuple #[zval s 1 neg (two s[1] s[2]) 0 ⟨#[]⟩, .bool true]) ∧ Below w.heap.size w w' := by
  unfold maxLen at hs
  have p1 := dig_not g1
  have a1 : (48 : Int) ≤ (s[1].toNat : Int) := by omega
  have c1 : (s[1].toNat : Int) ≤ 57 := by omega
  clear p1
  have p2 := dig_not g2
  have a2 : (48 : Int) ≤ (s[2].toNat : Int) := by omega
  have c2 : (s[2].toNat : Int) ≤ 57 := by omega
  clear p2
  unfold two
  rcases h1 with ⟨rfl, h1⟩ | ⟨rfl, h1⟩
  · go_enter Yba.func9, Yba.ntmps9
    go_wp2_with (go_at_call 14; refine (cdig_any _ _).mono ?_; rintro e w' ⟨rfl, rfl⟩)
    go_region
    go_wp2_with (go_at_call 14; refine (cdig_any _ _).mono ?_; rintro e w' ⟨rfl, rfl⟩)
    exact bodyPost_ret (v := .tuple #[zval s 1 false (((s[1].toNat : Int) - 48) * 10 + ((s[2].toNat : Int) - 48)) 0 ⟨#[]⟩, .bool true]) (by simp [results, Yba.results9, go_sem]) rfl ⟨rfl, (((Below.refl _ _).alloc (Nat.le_refl _) _).alloc (by simp) _).drew⟩
  · go_enter Yba.func9, Yba.ntmps9
    go_wp2_with (go_at_call 14; refine (cdig_any _ _).mono ?_; rintro e w' ⟨rfl, rfl⟩)
    go_region
    go_wp2_with (go_at_call 14; refine (cdig_any _ _).mono ?_; rintro e w' ⟨rfl, rfl⟩)
    exact bodyPost_ret (v := .tuple #[zval s 1 true (((s[1].toNat : Int) - 48) * 10 + ((s[2].toNat : Int) - 48)) 0 ⟨#[]⟩, .bool true]) (by simp [results, Yba.results9, go_sem]) rfl ⟨rfl, (((Below.refl _ _).alloc (Nat.le_refl _) _).alloc (by simp) _).drew⟩

end Go.Proofs.Ybulkcmju
