/-
  The contract of zzs4414cmodel, further shapes.
-/
import Derived.Test.YbulkcmjuModel
import Derived.RegionTactic
namespace Go.Proofs.Ybulkcmju
open Go.RowKit
set_option linter.unusedVariables false

set_option maxHeartbeats 1600000 in
theorem model_6 (s : ByteArray) (neg : Bool) (hZ : (s.toList == [90]) = false) (h3 : 3 ≤ s.size) (hs : s.size ≤ maxLen) (h1 : Sg s[0] neg) (g1 : digB s[1] = true) (g2 : digB s[2] = true) (k6 : s.size = 6) (hc : (s[3].toNat : Int) = 58) (g4 : digB s[4] = true) (g5 : digB s[5] = true) (w : World) :
    Calls Yba.prog 9 #[.string s] w fun e w' => e = .returned (.tuple #[zval s 2 neg (two s[1] s[2]) (two s[4] s[5]) ⟨#[]⟩, .bool true]) ∧ Below w.heap.size w w' := by
  unfold maxLen at hs
  have p1 := dig_not g1
  have a1 : (48 : Int) ≤ (s[1].toNat : Int) := by omega
  have c1 : (s[1].toNat : Int) ≤ 57 := by omega
  clear p1
  have p2 := dig_not g2
  have a2 : (48 : Int) ≤ (s[2].toNat : Int) := by omega
  have c2 : (s[2].toNat : Int) ≤ 57 := by omega
  clear p2
  have p4 := dig_not g4
  have a4 : (48 : Int) ≤ (s[4].toNat : Int) := by omega
  have c4 : (s[4].toNat : Int) ≤ 57 := by omega
  clear p4
  have p5 := dig_not g5
  have a5 : (48 : Int) ≤ (s[5].toNat : Int) := by omega
  have c5 : (s[5].toNat : Int) ≤ 57 := by omega
  clear p5
  unfold two
  rcases h1 with ⟨rfl, h1⟩ | ⟨rfl, h1⟩
  · go_enter Yba.func9, Yba.ntmps9
    go_wp2_with (go_at_call 14; refine (cdig_any _ _).mono ?_; rintro e w' ⟨rfl, rfl⟩)
    go_region
    go_wp2_with (go_at_call 14; refine (cdig_any _ _).mono ?_; rintro e w' ⟨rfl, rfl⟩)
    go_region
    go_wp2_with (go_at_call 14; refine (cdig_any _ _).mono ?_; rintro e w' ⟨rfl, rfl⟩)
    exact bodyPost_ret (v := .tuple #[zval s 2 false (((s[1].toNat : Int) - 48) * 10 + ((s[2].toNat : Int) - 48)) (((s[4].toNat : Int) - 48) * 10 + ((s[5].toNat : Int) - 48)) ⟨#[]⟩, .bool true]) (by simp [results, Yba.results9, go_sem]) rfl ⟨rfl, (((Below.refl _ _).alloc (Nat.le_refl _) _).alloc (by simp) _).drew.drew⟩
  · go_enter Yba.func9, Yba.ntmps9
    go_wp2_with (go_at_call 14; refine (cdig_any _ _).mono ?_; rintro e w' ⟨rfl, rfl⟩)
    go_region
    go_wp2_with (go_at_call 14; refine (cdig_any _ _).mono ?_; rintro e w' ⟨rfl, rfl⟩)
    go_region
    go_wp2_with (go_at_call 14; refine (cdig_any _ _).mono ?_; rintro e w' ⟨rfl, rfl⟩)
    exact bodyPost_ret (v := .tuple #[zval s 2 true (((s[1].toNat : Int) - 48) * 10 + ((s[2].toNat : Int) - 48)) (((s[4].toNat : Int) - 48) * 10 + ((s[5].toNat : Int) - 48)) ⟨#[]⟩, .bool true]) (by simp [results, Yba.results9, go_sem]) rfl ⟨rfl, (((Below.refl _ _).alloc (Nat.le_refl _) _).alloc (by simp) _).drew.drew⟩

set_option maxHeartbeats 1600000 in
theorem model_5 (s : ByteArray) (neg : Bool) (hZ : (s.toList == [90]) = false) (h3 : 3 ≤ s.size) (hs : s.size ≤ maxLen) (h1 : Sg s[0] neg) (g1 : digB s[1] = true) (g2 : digB s[2] = true) (k5 : s.size = 5) (g3 : digB s[3] = true) (g4 : digB s[4] = true) (w : World) :
    Calls Yba.prog 9 #[.string s] w fun e w' => e = .returned (.tuple #[zval s 3 neg (two s[1] s[2]) (two s[3] s[4]) ⟨#[]⟩, .bool true]) ∧ Below w.heap.size w w' := by
  unfold maxLen at hs
  have p1 := dig_not g1
  have a1 : (48 : Int) ≤ (s[1].toNat : Int) := by omega
  have c1 : (s[1].toNat : Int) ≤ 57 := by omega
  clear p1
  have p2 := dig_not g2
  have a2 : (48 : Int) ≤ (s[2].toNat : Int) := by omega
  have c2 : (s[2].toNat : Int) ≤ 57 := by omega
  clear p2
  have p3 := dig_not g3
  have a3 : (48 : Int) ≤ (s[3].toNat : Int) := by omega
  have c3 : (s[3].toNat : Int) ≤ 57 := by omega
  clear p3
  have p4 := dig_not g4
  have a4 : (48 : Int) ≤ (s[4].toNat : Int) := by omega
  have c4 : (s[4].toNat : Int) ≤ 57 := by omega
  clear p4
  unfold two
  rcases h1 with ⟨rfl, h1⟩ | ⟨rfl, h1⟩
  · go_enter Yba.func9, Yba.ntmps9
    go_wp2_with (go_at_call 14; refine (cdig_any _ _).mono ?_; rintro e w' ⟨rfl, rfl⟩)
    go_region
    go_wp2_with (go_at_call 14; refine (cdig_any _ _).mono ?_; rintro e w' ⟨rfl, rfl⟩)
    go_region
    go_wp2_with (go_at_call 14; refine (cdig_any _ _).mono ?_; rintro e w' ⟨rfl, rfl⟩)
    exact bodyPost_ret (v := .tuple #[zval s 3 false (((s[1].toNat : Int) - 48) * 10 + ((s[2].toNat : Int) - 48)) (((s[3].toNat : Int) - 48) * 10 + ((s[4].toNat : Int) - 48)) ⟨#[]⟩, .bool true]) (by simp [results, Yba.results9, go_sem]) rfl ⟨rfl, (((Below.refl _ _).alloc (Nat.le_refl _) _).alloc (by simp) _).drew.drew⟩
  · go_enter Yba.func9, Yba.ntmps9
    go_wp2_with (go_at_call 14; refine (cdig_any _ _).mono ?_; rintro e w' ⟨rfl, rfl⟩)
    go_region
    go_wp2_with (go_at_call 14; refine (cdig_any _ _).mono ?_; rintro e w' ⟨rfl, rfl⟩)
    go_region
    go_wp2_with (go_at_call 14; refine (cdig_any _ _).mono ?_; rintro e w' ⟨rfl, rfl⟩)
    exact bodyPost_ret (v := .tuple #[zval s 3 true (((s[1].toNat : Int) - 48) * 10 + ((s[2].toNat : Int) - 48)) (((s[3].toNat : Int) - 48) * 10 + ((s[4].toNat : Int) - 48)) ⟨#[]⟩, .bool true]) (by simp [results, Yba.results9, go_sem]) rfl ⟨rfl, (((Below.refl _ _).alloc (Nat.le_refl _) _).alloc (by simp) _).drew.drew⟩

set_option maxHeartbeats 1600000 in
theorem model_n4 (s : ByteArray) (neg : Bool) (hZ : (s.toList == [90]) = false) (h3 : 3 ≤ s.size) (hs : s.size ≤ maxLen) (h1 : Sg s[0] neg) (g1 : digB s[1] = true) (g2 : digB s[2] = true) (k4 : s.size = 4) (w : World) :
    Calls Yba.prog 9 #[.string s] w fun e w' => e = .returned (.tuple #[zero, .bool false]) ∧ Below w.heap.size w w' := by
  unfold maxLen at hs
  have p1 := dig_not g1
  have a1 : (48 : Int) ≤ (s[1].toNat : Int) := by omega
  have c1 : (s[1].toNat : Int) ≤ 57 := by omega
  clear p1
  have p2 := dig_not g2
  have a2 : (48 : Int) ≤ (s[2].toNat : Int) := by omega
  have c2 : (s[2].toNat : Int) ≤ 57 := by omega
  clear p2
  rcases h1 with ⟨rfl, h1⟩ | ⟨rfl, h1⟩
  · go_enter Yba.func9, Yba.ntmps9
    go_wp2_with (go_at_call 14; refine (cdig_any _ _).mono ?_; rintro e w' ⟨rfl, rfl⟩)
    go_region
    go_wp2_with (go_at_call 14; refine (cdig_any _ _).mono ?_; rintro e w' ⟨rfl, rfl⟩)
    exact bodyPost_ret (v := .tuple #[zero, .bool false]) (by simp [results, Yba.results9, go_sem]) rfl ⟨rfl, (((Below.refl _ _).alloc (Nat.le_refl _) _).alloc (by simp) _).drew⟩
  · go_enter Yba.func9, Yba.ntmps9
    go_wp2_with (go_at_call 14; refine (cdig_any _ _).mono ?_; rintro e w' ⟨rfl, rfl⟩)
    go_region
    go_wp2_with (go_at_call 14; refine (cdig_any _ _).mono ?_; rintro e w' ⟨rfl, rfl⟩)
    exact bodyPost_ret (v := .tuple #[zero, .bool false]) (by simp [results, Yba.results9, go_sem]) rfl ⟨rfl, (((Below.refl _ _).alloc (Nat.le_refl _) _).alloc (by simp) _).drew⟩

set_option maxHeartbeats 1600000 in
theorem model_n5a (s : ByteArray) (neg : Bool) (hZ : (s.toList == [90]) = false) (h3 : 3 ≤ s.size) (hs : s.size ≤ maxLen) (h1 : Sg s[0] neg) (g1 : digB s[1] = true) (g2 : digB s[2] = true) (k5 : s.size = 5) (g3 : digB s[3] = true) (g4 : digB s[4] = false) (w : World) :
    Calls Yba.prog 9 #[.string s] w fun e w' => e = .returned (.tuple #[zero, .bool false]) ∧ Below w.heap.size w w' := by
  unfold maxLen at hs
  have p1 := dig_not g1
  have a1 : (48 : Int) ≤ (s[1].toNat : Int) := by omega
  have c1 : (s[1].toNat : Int) ≤ 57 := by omega
  clear p1
  have p2 := dig_not g2
  have a2 : (48 : Int) ≤ (s[2].toNat : Int) := by omega
  have c2 : (s[2].toNat : Int) ≤ 57 := by omega
  clear p2
  have p3 := dig_not g3
  have a3 : (48 : Int) ≤ (s[3].toNat : Int) := by omega
  have c3 : (s[3].toNat : Int) ≤ 57 := by omega
  clear p3
  rcases h1 with ⟨rfl, h1⟩ | ⟨rfl, h1⟩
  · go_enter Yba.func9, Yba.ntmps9
    go_wp2_with (go_at_call 14; refine (cdig_any _ _).mono ?_; rintro e w' ⟨rfl, rfl⟩)
    go_region
    go_wp2_with (go_at_call 14; refine (cdig_any _ _).mono ?_; rintro e w' ⟨rfl, rfl⟩)
    exact bodyPost_ret (v := .tuple #[zero, .bool false]) (by simp [results, Yba.results9, go_sem]) rfl ⟨rfl, (((Below.refl _ _).alloc (Nat.le_refl _) _).alloc (by simp) _).drew⟩
  · go_enter Yba.func9, Yba.ntmps9
    go_wp2_with (go_at_call 14; refine (cdig_any _ _).mono ?_; rintro e w' ⟨rfl, rfl⟩)
    go_region
    go_wp2_with (go_at_call 14; refine (cdig_any _ _).mono ?_; rintro e w' ⟨rfl, rfl⟩)
    exact bodyPost_ret (v := .tuple #[zero, .bool false]) (by simp [results, Yba.results9, go_sem]) rfl ⟨rfl, (((Below.refl _ _).alloc (Nat.le_refl _) _).alloc (by simp) _).drew⟩

set_option maxHeartbeats 1600000 in
theorem model_n5b (s : ByteArray) (neg : Bool) (hZ : (s.toList == [90]) = false) (h3 : 3 ≤ s.size) (hs : s.size ≤ maxLen) (h1 : Sg s[0] neg) (g1 : digB s[1] = true) (g2 : digB s[2] = true) (k5 : s.size = 5) (g3 : digB s[3] = false) (hc : ¬ (s[3].toNat : Int) = 46) (w : World) :
    Calls Yba.prog 9 #[.string s] w fun e w' => e = .returned (.tuple #[zero, .bool false]) ∧ Below w.heap.size w w' := by
  unfold maxLen at hs
  have p1 := dig_not g1
  have a1 : (48 : Int) ≤ (s[1].toNat : Int) := by omega
  have c1 : (s[1].toNat : Int) ≤ 57 := by omega
  clear p1
  have p2 := dig_not g2
  have a2 : (48 : Int) ≤ (s[2].toNat : Int) := by omega
  have c2 : (s[2].toNat : Int) ≤ 57 := by omega
  clear p2
  rcases h1 with ⟨rfl, h1⟩ | ⟨rfl, h1⟩
  · go_enter Yba.func9, Yba.ntmps9
    go_wp2_with (go_at_call 14; refine (cdig_any _ _).mono ?_; rintro e w' ⟨rfl, rfl⟩)
    go_region
    go_wp2_with (go_at_call 14; refine (cdig_any _ _).mono ?_; rintro e w' ⟨rfl, rfl⟩)
    exact bodyPost_ret (v := .tuple #[zero, .bool false]) (by simp [results, Yba.results9, go_sem]) rfl ⟨rfl, (((Below.refl _ _).alloc (Nat.le_refl _) _).alloc (by simp) _).drew⟩
  · go_enter Yba.func9, Yba.ntmps9
    go_wp2_with (go_at_call 14; refine (cdig_any _ _).mono ?_; rintro e w' ⟨rfl, rfl⟩)
    go_region
    go_wp2_with (go_at_call 14; refine (cdig_any _ _).mono ?_; rintro e w' ⟨rfl, rfl⟩)
    exact bodyPost_ret (v := .tuple #[zero, .bool false]) (by simp [results, Yba.results9, go_sem]) rfl ⟨rfl, (((Below.refl _ _).alloc (Nat.le_refl _) _).alloc (by simp) _).drew⟩

set_option maxHeartbeats 1600000 in
theorem model_n6a (s : ByteArray) (neg : Bool) (hZ : (s.toList == [90]) = false) (h3 : 3 ≤ s.size) (hs : s.size ≤ maxLen) (h1 : Sg s[0] neg) (g1 : digB s[1] = true) (g2 : digB s[2] = true) (k6 : s.size = 6) (hc : (s[3].toNat : Int) = 58) (g4 : digB s[4] = false) (w : World) :
    Calls Yba.prog 9 #[.string s] w fun e w' => e = .returned (.tuple #[zero, .bool false]) ∧ Below w.heap.size w w' := by
  unfold maxLen at hs
  have p1 := dig_not g1
  have a1 : (48 : Int) ≤ (s[1].toNat : Int) := by omega
  have c1 : (s[1].toNat : Int) ≤ 57 := by omega
  clear p1
  have p2 := dig_not g2
  have a2 : (48 : Int) ≤ (s[2].toNat : Int) := by omega
  have c2 : (s[2].toNat : Int) ≤ 57 := by omega
  clear p2
  rcases h1 with ⟨rfl, h1⟩ | ⟨rfl, h1⟩
  · go_enter Yba.func9, Yba.ntmps9
    go_wp2_with (go_at_call 14; refine (cdig_any _ _).mono ?_; rintro e w' ⟨rfl, rfl⟩)
    go_region
    go_wp2_with (go_at_call 14; refine (cdig_any _ _).mono ?_; rintro e w' ⟨rfl, rfl⟩)
    exact bodyPost_ret (v := .tuple #[zero, .bool false]) (by simp [results, Yba.results9, go_sem]) rfl ⟨rfl, (((Below.refl _ _).alloc (Nat.le_refl _) _).alloc (by simp) _).drew⟩
  · go_enter Yba.func9, Yba.ntmps9
    go_wp2_with (go_at_call 14; refine (cdig_any _ _).mono ?_; rintro e w' ⟨rfl, rfl⟩)
    go_region
    go_wp2_with (go_at_call 14; refine (cdig_any _ _).mono ?_; rintro e w' ⟨rfl, rfl⟩)
    exact bodyPost_ret (v := .tuple #[zero, .bool false]) (by simp [results, Yba.results9, go_sem]) rfl ⟨rfl, (((Below.refl _ _).alloc (Nat.le_refl _) _).alloc (by simp) _).drew⟩

set_option maxHeartbeats 1600000 in
theorem model_n6b (s : ByteArray) (neg : Bool) (hZ : (s.toList == [90]) = false) (h3 : 3 ≤ s.size) (hs : s.size ≤ maxLen) (h1 : Sg s[0] neg) (g1 : digB s[1] = true) (g2 : digB s[2] = true) (k6 : s.size = 6) (hc : (s[3].toNat : Int) = 58) (g4 : digB s[4] = true) (g5 : digB s[5] = false) (w : World) :
    Calls Yba.prog 9 #[.string s] w fun e w' => e = .returned (.tuple #[zero, .bool false]) ∧ Below w.heap.size w w' := by
  unfold maxLen at hs
  have p1 := dig_not g1
  have a1 : (48 : Int) ≤ (s[1].toNat : Int) := by omega
  have c1 : (s[1].toNat : Int) ≤ 57 := by omega
  clear p1
  have p2 := dig_not g2
  have a2 : (48 : Int) ≤ (s[2].toNat : Int) := by omega
  have c2 : (s[2].toNat : Int) ≤ 57 := by omega
  clear p2
  rcases h1 with ⟨rfl, h1⟩ | ⟨rfl, h1⟩
  · go_enter Yba.func9, Yba.ntmps9
    go_wp2_with (go_at_call 14; refine (cdig_any _ _).mono ?_; rintro e w' ⟨rfl, rfl⟩)
    go_region
    go_wp2_with (go_at_call 14; refine (cdig_any _ _).mono ?_; rintro e w' ⟨rfl, rfl⟩)
    exact bodyPost_ret (v := .tuple #[zero, .bool false]) (by simp [results, Yba.results9, go_sem]) rfl ⟨rfl, (((Below.refl _ _).alloc (Nat.le_refl _) _).alloc (by simp) _).drew⟩
  · go_enter Yba.func9, Yba.ntmps9
    go_wp2_with (go_at_call 14; refine (cdig_any _ _).mono ?_; rintro e w' ⟨rfl, rfl⟩)
    go_region
    go_wp2_with (go_at_call 14; refine (cdig_any _ _).mono ?_; rintro e w' ⟨rfl, rfl⟩)
    exact bodyPost_ret (v := .tuple #[zero, .bool false]) (by simp [results, Yba.results9, go_sem]) rfl ⟨rfl, (((Below.refl _ _).alloc (Nat.le_refl _) _).alloc (by simp) _).drew⟩

set_option maxHeartbeats 1600000 in
theorem model_n6c (s : ByteArray) (neg : Bool) (hZ : (s.toList == [90]) = false) (h3 : 3 ≤ s.size) (hs : s.size ≤ maxLen) (h1 : Sg s[0] neg) (g1 : digB s[1] = true) (g2 : digB s[2] = true) (k6 : s.size = 6) (hc : ¬ (s[3].toNat : Int) = 58) (hc2 : ¬ (s[3].toNat : Int) = 46) (w : World) :
    Calls Yba.prog 9 #[.string s] w fun e w' => e = .returned (.tuple #[zero, .bool false]) ∧ Below w.heap.size w w' := by
  unfold maxLen at hs
  have p1 := dig_not g1
  have a1 : (48 : Int) ≤ (s[1].toNat : Int) := by omega
  have c1 : (s[1].toNat : Int) ≤ 57 := by omega
  clear p1
  have p2 := dig_not g2
  have a2 : (48 : Int) ≤ (s[2].toNat : Int) := by omega
  have c2 : (s[2].toNat : Int) ≤ 57 := by omega
  clear p2
  rcases h1 with ⟨rfl, h1⟩ | ⟨rfl, h1⟩
  · go_enter Yba.func9, Yba.ntmps9
    go_wp2_with (go_at_call 14; refine (cdig_any _ _).mono ?_; rintro e w' ⟨rfl, rfl⟩)
    go_region
    go_wp2_with (go_at_call 14; refine (cdig_any _ _).mono ?_; rintro e w' ⟨rfl, rfl⟩)
    exact bodyPost_ret (v := .tuple #[zero, .bool false]) (by simp [results, Yba.results9, go_sem]) rfl ⟨rfl, (((Below.refl _ _).alloc (Nat.le_refl _) _).alloc (by simp) _).drew⟩
  · go_enter Yba.func9, Yba.ntmps9
    go_wp2_with (go_at_call 14; refine (cdig_any _ _).mono ?_; rintro e w' ⟨rfl, rfl⟩)
    go_region
    go_wp2_with (go_at_call 14; refine (cdig_any _ _).mono ?_; rintro e w' ⟨rfl, rfl⟩)
    exact bodyPost_ret (v := .tuple #[zero, .bool false]) (by simp [results, Yba.results9, go_sem]) rfl ⟨rfl, (((Below.refl _ _).alloc (Nat.le_refl _) _).alloc (by simp) _).drew⟩

set_option maxHeartbeats 1600000 in
theorem model_n7 (s : ByteArray) (neg : Bool) (hZ : (s.toList == [90]) = false) (h3 : 3 ≤ s.size) (hs : s.size ≤ maxLen) (h1 : Sg s[0] neg) (g1 : digB s[1] = true) (g2 : digB s[2] = true) (k7 : (7 : Int) ≤ s.size) (hc : ¬ (s[3].toNat : Int) = 46) (w : World) :
    Calls Yba.prog 9 #[.string s] w fun e w' => e = .returned (.tuple #[zero, .bool false]) ∧ Below w.heap.size w w' := by
  unfold maxLen at hs
  have p1 := dig_not g1
  have a1 : (48 : Int) ≤ (s[1].toNat : Int) := by omega
  have c1 : (s[1].toNat : Int) ≤ 57 := by omega
  clear p1
  have p2 := dig_not g2
  have a2 : (48 : Int) ≤ (s[2].toNat : Int) := by omega
  have c2 : (s[2].toNat : Int) ≤ 57 := by omega
  clear p2
  rcases h1 with ⟨rfl, h1⟩ | ⟨rfl, h1⟩
  · go_enter Yba.func9, Yba.ntmps9
    go_wp2_with (go_at_call 14; refine (cdig_any _ _).mono ?_; rintro e w' ⟨rfl, rfl⟩)
    go_region
    go_wp2_with (go_at_call 14; refine (cdig_any _ _).mono ?_; rintro e w' ⟨rfl, rfl⟩)
    exact bodyPost_ret (v := .tuple #[zero, .bool false]) (by simp [results, Yba.results9, go_sem]) rfl ⟨rfl, (((Below.refl _ _).alloc (Nat.le_refl _) _).alloc (by simp) _).drew⟩
  · go_enter Yba.func9, Yba.ntmps9
    go_wp2_with (go_at_call 14; refine (cdig_any _ _).mono ?_; rintro e w' ⟨rfl, rfl⟩)
    go_region
    go_wp2_with (go_at_call 14; refine (cdig_any _ _).mono ?_; rintro e w' ⟨rfl, rfl⟩)
    exact bodyPost_ret (v := .tuple #[zero, .bool false]) (by simp [results, Yba.results9, go_sem]) rfl ⟨rfl, (((Below.refl _ _).alloc (Nat.le_refl _) _).alloc (by simp) _).drew⟩

end Go.Proofs.Ybulkcmju
