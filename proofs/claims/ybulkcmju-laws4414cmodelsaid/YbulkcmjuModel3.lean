/-
  The contract of zzs4414cmodel, the decimal form.
-/
import Derived.Test.YbulkcmjuModel
import Derived.RegionTactic
namespace Go.Proofs.Ybulkcmju
open Go.RowKit
set_option linter.unusedVariables false

theorem cdig_46 (w : World) : Calls Yba.prog 14 #[.int .u8 46] w fun e w' => e = .returned (.bool false) ∧ w' = w := by
  have h := cdig_any 46 w
  rw [show digB 46 = false by decide] at h
  exact h

set_option maxHeartbeats 3200000 in
theorem model_dec5 (s : ByteArray) (neg : Bool) (hZ : (s.toList == [90]) = false) (h3 : 3 ≤ s.size) (hs : s.size ≤ maxLen) (h1 : Sg s[0] neg) (g1 : digB s[1] = true) (g2 : digB s[2] = true) (k5 : (5 : Int) ≤ s.size) (k5b : (s.size : Int) ≤ 5) (g3 : digB s[3] = false) (hc : (s[3].toNat : Int) = 46) (w : World) :
    Calls Yba.prog 9 #[.string s] w fun e w' => ((e = .returned (.tuple #[zval s 4 neg (two s[1] s[2]) 0 (s.extract 4 s.size), .bool true]) ∧ ∀ j (h : j < s.size), 4 ≤ j → digB s[j] = true) ∨ (e = .returned (.tuple #[zero, .bool false]) ∧ ∃ j, ∃ h : j < s.size, 4 ≤ j ∧ digB s[j] = false)) ∧ Below w.heap.size w w' := by
  unfold maxLen at hs
  have p1 := dig_not g1
  have a1 : (48 : Int) ≤ (s[1].toNat : Int) := by omega
  have c1 : (s[1].toNat : Int) ≤ 57 := by omega
  clear p1
  have p2 := dig_not g2
  have a2 : (48 : Int) ≤ (s[2].toNat : Int) := by omega
  have c2 : (s[2].toNat : Int) ≤ 57 := by omega
  clear p2
  unfold two
  rcases h1 with ⟨rfl, h1⟩ | ⟨rfl, h1⟩
  · go_enter Yba.func9, Yba.ntmps9
    go_wp2_with (first | (go_at_call_of 14 (Value.int IntKind.u8 46); refine (cdig_46 _).mono ?_; rintro e w' ⟨rfl, rfl⟩) | (go_at_call 14; refine (cdig_any _ _).mono ?_; rintro e w' ⟨rfl, rfl⟩))
    go_region
    go_wp2_with (first | (go_at_call_of 14 (Value.int IntKind.u8 46); refine (cdig_46 _).mono ?_; rintro e w' ⟨rfl, rfl⟩) | (go_at_call 14; refine (cdig_any _ _).mono ?_; rintro e w' ⟨rfl, rfl⟩))
    go_loop [6] (fun i => ∃ k : Nat, 4 ≤ k ∧ k ≤ s.size ∧ i = .int .i64 k ∧ Hid (∀ j (h : j < s.size), 4 ≤ j → j < k → digB s[j] = true)) (fun i => s.size - (intOf i).toNat)
    case atStart => exact ⟨4, Nat.le_refl _, by omega, rfl, fun j h a b => absurd a (by omega)⟩
    case round =>
      obtain ⟨k, hk4, hk, rfl, hd⟩ := hrel
      by_cases hlt : k < s.size
      · by_cases hg : digB s[k] = true
        · go_wp2_with (first | (go_at_call_of 14 (Value.int IntKind.u8 46); refine (cdig_46 _).mono ?_; rintro e w' ⟨rfl, rfl⟩) | (go_at_call 14; refine (cdig_any _ _).mono ?_; rintro e w' ⟨rfl, rfl⟩))
          go_round
          case rel => exact ⟨k + 1, by omega, by omega, by go_num, fun j h a b => by by_cases e : j = k; (subst e; exact hg); exact hd.out j h a (by omega)⟩
          case measure => simp [intOf]; omega
        · have hg2 : digB s[k] = false := by simpa using hg
          clear hg
          go_wp2_with (first | (go_at_call_of 14 (Value.int IntKind.u8 46); refine (cdig_46 _).mono ?_; rintro e w' ⟨rfl, rfl⟩) | (go_at_call 14; refine (cdig_any _ _).mono ?_; rintro e w' ⟨rfl, rfl⟩))
          exact bodyPost_ret (v := .tuple #[zero, .bool false]) (by simp [results, Yba.results9, go_sem]) rfl ⟨.inr ⟨rfl, k, hlt, hk4, hg2⟩, (((Below.refl _ _).alloc (Nat.le_refl _) _).alloc (by simp) _).drew⟩
      · go_wp2_with (first | (go_at_call_of 14 (Value.int IntKind.u8 46); refine (cdig_46 _).mono ?_; rintro e w' ⟨rfl, rfl⟩) | (go_at_call 14; refine (cdig_any _ _).mono ?_; rintro e w' ⟨rfl, rfl⟩))
        exact bodyPost_ret (v := .tuple #[zval s 4 false (((s[1].toNat : Int) - 48) * 10 + ((s[2].toNat : Int) - 48)) 0 (s.extract 4 s.size), .bool true]) (by simp [results, Yba.results9, go_sem]) rfl ⟨.inl ⟨rfl, fun j h a => hd.out j h a (by omega)⟩, (((Below.refl _ _).alloc (Nat.le_refl _) _).alloc (by simp) _).drew⟩
  · go_enter Yba.func9, Yba.ntmps9
    go_wp2_with (first | (go_at_call_of 14 (Value.int IntKind.u8 46); refine (cdig_46 _).mono ?_; rintro e w' ⟨rfl, rfl⟩) | (go_at_call 14; refine (cdig_any _ _).mono ?_; rintro e w' ⟨rfl, rfl⟩))
    go_region
    go_wp2_with (first | (go_at_call_of 14 (Value.int IntKind.u8 46); refine (cdig_46 _).mono ?_; rintro e w' ⟨rfl, rfl⟩) | (go_at_call 14; refine (cdig_any _ _).mono ?_; rintro e w' ⟨rfl, rfl⟩))
    go_loop [6] (fun i => ∃ k : Nat, 4 ≤ k ∧ k ≤ s.size ∧ i = .int .i64 k ∧ Hid (∀ j (h : j < s.size), 4 ≤ j → j < k → digB s[j] = true)) (fun i => s.size - (intOf i).toNat)
    case atStart => exact ⟨4, Nat.le_refl _, by omega, rfl, fun j h a b => absurd a (by omega)⟩
    case round =>
      obtain ⟨k, hk4, hk, rfl, hd⟩ := hrel
      by_cases hlt : k < s.size
      · by_cases hg : digB s[k] = true
        · go_wp2_with (first | (go_at_call_of 14 (Value.int IntKind.u8 46); refine (cdig_46 _).mono ?_; rintro e w' ⟨rfl, rfl⟩) | (go_at_call 14; refine (cdig_any _ _).mono ?_; rintro e w' ⟨rfl, rfl⟩))
          go_round
          case rel => exact ⟨k + 1, by omega, by omega, by go_num, fun j h a b => by by_cases e : j = k; (subst e; exact hg); exact hd.out j h a (by omega)⟩
          case measure => simp [intOf]; omega
        · have hg2 : digB s[k] = false := by simpa using hg
          clear hg
          go_wp2_with (first | (go_at_call_of 14 (Value.int IntKind.u8 46); refine (cdig_46 _).mono ?_; rintro e w' ⟨rfl, rfl⟩) | (go_at_call 14; refine (cdig_any _ _).mono ?_; rintro e w' ⟨rfl, rfl⟩))
          exact bodyPost_ret (v := .tuple #[zero, .bool false]) (by simp [results, Yba.results9, go_sem]) rfl ⟨.inr ⟨rfl, k, hlt, hk4, hg2⟩, (((Below.refl _ _).alloc (Nat.le_refl _) _).alloc (by simp) _).drew⟩
      · go_wp2_with (first | (go_at_call_of 14 (Value.int IntKind.u8 46); refine (cdig_46 _).mono ?_; rintro e w' ⟨rfl, rfl⟩) | (go_at_call 14; refine (cdig_any _ _).mono ?_; rintro e w' ⟨rfl, rfl⟩))
        exact bodyPost_ret (v := .tuple #[zval s 4 true (((s[1].toNat : Int) - 48) * 10 + ((s[2].toNat : Int) - 48)) 0 (s.extract 4 s.size), .bool true]) (by simp [results, Yba.results9, go_sem]) rfl ⟨.inl ⟨rfl, fun j h a => hd.out j h a (by omega)⟩, (((Below.refl _ _).alloc (Nat.le_refl _) _).alloc (by simp) _).drew⟩

set_option maxHeartbeats 3200000 in
theorem model_dec6 (s : ByteArray) (neg : Bool) (hZ : (s.toList == [90]) = false) (h3 : 3 ≤ s.size) (hs : s.size ≤ maxLen) (h1 : Sg s[0] neg) (g1 : digB s[1] = true) (g2 : digB s[2] = true) (k6 : (6 : Int) ≤ s.size) (k6b : (s.size : Int) ≤ 6) (hc : (s[3].toNat : Int) = 46) (w : World) :
    Calls Yba.prog 9 #[.string s] w fun e w' => ((e = .returned (.tuple #[zval s 4 neg (two s[1] s[2]) 0 (s.extract 4 s.size), .bool true]) ∧ ∀ j (h : j < s.size), 4 ≤ j → digB s[j] = true) ∨ (e = .returned (.tuple #[zero, .bool false]) ∧ ∃ j, ∃ h : j < s.size, 4 ≤ j ∧ digB s[j] = false)) ∧ Below w.heap.size w w' := by
  unfold maxLen at hs
  have p1 := dig_not g1
  have a1 : (48 : Int) ≤ (s[1].toNat : Int) := by omega
  have c1 : (s[1].toNat : Int) ≤ 57 := by omega
  clear p1
  have p2 := dig_not g2
  have a2 : (48 : Int) ≤ (s[2].toNat : Int) := by omega
  have c2 : (s[2].toNat : Int) ≤ 57 := by omega
  clear p2
  unfold two
  rcases h1 with ⟨rfl, h1⟩ | ⟨rfl, h1⟩
  · go_enter Yba.func9, Yba.ntmps9
    go_wp2_with (first | (go_at_call_of 14 (Value.int IntKind.u8 46); refine (cdig_46 _).mono ?_; rintro e w' ⟨rfl, rfl⟩) | (go_at_call 14; refine (cdig_any _ _).mono ?_; rintro e w' ⟨rfl, rfl⟩))
    go_region
    go_wp2_with (first | (go_at_call_of 14 (Value.int IntKind.u8 46); refine (cdig_46 _).mono ?_; rintro e w' ⟨rfl, rfl⟩) | (go_at_call 14; refine (cdig_any _ _).mono ?_; rintro e w' ⟨rfl, rfl⟩))
    go_loop [6] (fun i => ∃ k : Nat, 4 ≤ k ∧ k ≤ s.size ∧ i = .int .i64 k ∧ Hid (∀ j (h : j < s.size), 4 ≤ j → j < k → digB s[j] = true)) (fun i => s.size - (intOf i).toNat)
    case atStart => exact ⟨4, Nat.le_refl _, by omega, rfl, fun j h a b => absurd a (by omega)⟩
    case round =>
      obtain ⟨k, hk4, hk, rfl, hd⟩ := hrel
      by_cases hlt : k < s.size
      · by_cases hg : digB s[k] = true
        · go_wp2_with (first | (go_at_call_of 14 (Value.int IntKind.u8 46); refine (cdig_46 _).mono ?_; rintro e w' ⟨rfl, rfl⟩) | (go_at_call 14; refine (cdig_any _ _).mono ?_; rintro e w' ⟨rfl, rfl⟩))
          go_round
          case rel => exact ⟨k + 1, by omega, by omega, by go_num, fun j h a b => by by_cases e : j = k; (subst e; exact hg); exact hd.out j h a (by omega)⟩
          case measure => simp [intOf]; omega
        · have hg2 : digB s[k] = false := by simpa using hg
          clear hg
          go_wp2_with (first | (go_at_call_of 14 (Value.int IntKind.u8 46); refine (cdig_46 _).mono ?_; rintro e w' ⟨rfl, rfl⟩) | (go_at_call 14; refine (cdig_any _ _).mono ?_; rintro e w' ⟨rfl, rfl⟩))
          exact bodyPost_ret (v := .tuple #[zero, .bool false]) (by simp [results, Yba.results9, go_sem]) rfl ⟨.inr ⟨rfl, k, hlt, hk4, hg2⟩, (((Below.refl _ _).alloc (Nat.le_refl _) _).alloc (by simp) _).drew⟩
      · go_wp2_with (first | (go_at_call_of 14 (Value.int IntKind.u8 46); refine (cdig_46 _).mono ?_; rintro e w' ⟨rfl, rfl⟩) | (go_at_call 14; refine (cdig_any _ _).mono ?_; rintro e w' ⟨rfl, rfl⟩))
        exact bodyPost_ret (v := .tuple #[zval s 4 false (((s[1].toNat : Int) - 48) * 10 + ((s[2].toNat : Int) - 48)) 0 (s.extract 4 s.size), .bool true]) (by simp [results, Yba.results9, go_sem]) rfl ⟨.inl ⟨rfl, fun j h a => hd.out j h a (by omega)⟩, (((Below.refl _ _).alloc (Nat.le_refl _) _).alloc (by simp) _).drew⟩
  · go_enter Yba.func9, Yba.ntmps9
    go_wp2_with (first | (go_at_call_of 14 (Value.int IntKind.u8 46); refine (cdig_46 _).mono ?_; rintro e w' ⟨rfl, rfl⟩) | (go_at_call 14; refine (cdig_any _ _).mono ?_; rintro e w' ⟨rfl, rfl⟩))
    go_region
    go_wp2_with (first | (go_at_call_of 14 (Value.int IntKind.u8 46); refine (cdig_46 _).mono ?_; rintro e w' ⟨rfl, rfl⟩) | (go_at_call 14; refine (cdig_any _ _).mono ?_; rintro e w' ⟨rfl, rfl⟩))
    go_loop [6] (fun i => ∃ k : Nat, 4 ≤ k ∧ k ≤ s.size ∧ i = .int .i64 k ∧ Hid (∀ j (h : j < s.size), 4 ≤ j → j < k → digB s[j] = true)) (fun i => s.size - (intOf i).toNat)
    case atStart => exact ⟨4, Nat.le_refl _, by omega, rfl, fun j h a b => absurd a (by omega)⟩
    case round =>
      obtain ⟨k, hk4, hk, rfl, hd⟩ := hrel
      by_cases hlt : k < s.size
      · by_cases hg : digB s[k] = true
        · go_wp2_with (first | (go_at_call_of 14 (Value.int IntKind.u8 46); refine (cdig_46 _).mono ?_; rintro e w' ⟨rfl, rfl⟩) | (go_at_call 14; refine (cdig_any _ _).mono ?_; rintro e w' ⟨rfl, rfl⟩))
          go_round
          case rel => exact ⟨k + 1, by omega, by omega, by go_num, fun j h a b => by by_cases e : j = k; (subst e; exact hg); exact hd.out j h a (by omega)⟩
          case measure => simp [intOf]; omega
        · have hg2 : digB s[k] = false := by simpa using hg
          clear hg
          go_wp2_with (first | (go_at_call_of 14 (Value.int IntKind.u8 46); refine (cdig_46 _).mono ?_; rintro e w' ⟨rfl, rfl⟩) | (go_at_call 14; refine (cdig_any _ _).mono ?_; rintro e w' ⟨rfl, rfl⟩))
          exact bodyPost_ret (v := .tuple #[zero, .bool false]) (by simp [results, Yba.results9, go_sem]) rfl ⟨.inr ⟨rfl, k, hlt, hk4, hg2⟩, (((Below.refl _ _).alloc (Nat.le_refl _) _).alloc (by simp) _).drew⟩
      · go_wp2_with (first | (go_at_call_of 14 (Value.int IntKind.u8 46); refine (cdig_46 _).mono ?_; rintro e w' ⟨rfl, rfl⟩) | (go_at_call 14; refine (cdig_any _ _).mono ?_; rintro e w' ⟨rfl, rfl⟩))
        exact bodyPost_ret (v := .tuple #[zval s 4 true (((s[1].toNat : Int) - 48) * 10 + ((s[2].toNat : Int) - 48)) 0 (s.extract 4 s.size), .bool true]) (by simp [results, Yba.results9, go_sem]) rfl ⟨.inl ⟨rfl, fun j h a => hd.out j h a (by omega)⟩, (((Below.refl _ _).alloc (Nat.le_refl _) _).alloc (by simp) _).drew⟩

set_option maxHeartbeats 3200000 in
theorem model_dec7 (s : ByteArray) (neg : Bool) (hZ : (s.toList == [90]) = false) (h3 : 3 ≤ s.size) (hs : s.size ≤ maxLen) (h1 : Sg s[0] neg) (g1 : digB s[1] = true) (g2 : digB s[2] = true) (k7 : (7 : Int) ≤ s.size) (hc : (s[3].toNat : Int) = 46) (w : World) :
    Calls Yba.prog 9 #[.string s] w fun e w' => ((e = .returned (.tuple #[zval s 4 neg (two s[1] s[2]) 0 (s.extract 4 s.size), .bool true]) ∧ ∀ j (h : j < s.size), 4 ≤ j → digB s[j] = true) ∨ (e = .returned (.tuple #[zero, .bool false]) ∧ ∃ j, ∃ h : j < s.size, 4 ≤ j ∧ digB s[j] = false)) ∧ Below w.heap.size w w' := by
  unfold maxLen at hs
  have p1 := dig_not g1
  have a1 : (48 : Int) ≤ (s[1].toNat : Int) := by omega
  have c1 : (s[1].toNat : Int) ≤ 57 := by omega
  clear p1
  have p2 := dig_not g2
  have a2 : (48 : Int) ≤ (s[2].toNat : Int) := by omega
  have c2 : (s[2].toNat : Int) ≤ 57 := by omega
  clear p2
  unfold two
  rcases h1 with ⟨rfl, h1⟩ | ⟨rfl, h1⟩
  · go_enter Yba.func9, Yba.ntmps9
    go_wp2_with (first | (go_at_call_of 14 (Value.int IntKind.u8 46); refine (cdig_46 _).mono ?_; rintro e w' ⟨rfl, rfl⟩) | (go_at_call 14; refine (cdig_any _ _).mono ?_; rintro e w' ⟨rfl, rfl⟩))
    go_region
    go_wp2_with (first | (go_at_call_of 14 (Value.int IntKind.u8 46); refine (cdig_46 _).mono ?_; rintro e w' ⟨rfl, rfl⟩) | (go_at_call 14; refine (cdig_any _ _).mono ?_; rintro e w' ⟨rfl, rfl⟩))
    go_loop [6] (fun i => ∃ k : Nat, 4 ≤ k ∧ k ≤ s.size ∧ i = .int .i64 k ∧ Hid (∀ j (h : j < s.size), 4 ≤ j → j < k → digB s[j] = true)) (fun i => s.size - (intOf i).toNat)
    case atStart => exact ⟨4, Nat.le_refl _, by omega, rfl, fun j h a b => absurd a (by omega)⟩
    case round =>
      obtain ⟨k, hk4, hk, rfl, hd⟩ := hrel
      by_cases hlt : k < s.size
      · by_cases hg : digB s[k] = true
        · go_wp2_with (first | (go_at_call_of 14 (Value.int IntKind.u8 46); refine (cdig_46 _).mono ?_; rintro e w' ⟨rfl, rfl⟩) | (go_at_call 14; refine (cdig_any _ _).mono ?_; rintro e w' ⟨rfl, rfl⟩))
          go_round
          case rel => exact ⟨k + 1, by omega, by omega, by go_num, fun j h a b => by by_cases e : j = k; (subst e; exact hg); exact hd.out j h a (by omega)⟩
          case measure => simp [intOf]; omega
        · have hg2 : digB s[k] = false := by simpa using hg
          clear hg
          go_wp2_with (first | (go_at_call_of 14 (Value.int IntKind.u8 46); refine (cdig_46 _).mono ?_; rintro e w' ⟨rfl, rfl⟩) | (go_at_call 14; refine (cdig_any _ _).mono ?_; rintro e w' ⟨rfl, rfl⟩))
          exact bodyPost_ret (v := .tuple #[zero, .bool false]) (by simp [results, Yba.results9, go_sem]) rfl ⟨.inr ⟨rfl, k, hlt, hk4, hg2⟩, (((Below.refl _ _).alloc (Nat.le_refl _) _).alloc (by simp) _).drew⟩
      · go_wp2_with (first | (go_at_call_of 14 (Value.int IntKind.u8 46); refine (cdig_46 _).mono ?_; rintro e w' ⟨rfl, rfl⟩) | (go_at_call 14; refine (cdig_any _ _).mono ?_; rintro e w' ⟨rfl, rfl⟩))
        exact bodyPost_ret (v := .tuple #[zval s 4 false (((s[1].toNat : Int) - 48) * 10 + ((s[2].toNat : Int) - 48)) 0 (s.extract 4 s.size), .bool true]) (by simp [results, Yba.results9, go_sem]) rfl ⟨.inl ⟨rfl, fun j h a => hd.out j h a (by omega)⟩, (((Below.refl _ _).alloc (Nat.le_refl _) _).alloc (by simp) _).drew⟩
  · go_enter Yba.func9, Yba.ntmps9
    go_wp2_with (first | (go_at_call_of 14 (Value.int IntKind.u8 46); refine (cdig_46 _).mono ?_; rintro e w' ⟨rfl, rfl⟩) | (go_at_call 14; refine (cdig_any _ _).mono ?_; rintro e w' ⟨rfl, rfl⟩))
    go_region
    go_wp2_with (first | (go_at_call_of 14 (Value.int IntKind.u8 46); refine (cdig_46 _).mono ?_; rintro e w' ⟨rfl, rfl⟩) | (go_at_call 14; refine (cdig_any _ _).mono ?_; rintro e w' ⟨rfl, rfl⟩))
    go_loop [6] (fun i => ∃ k : Nat, 4 ≤ k ∧ k ≤ s.size ∧ i = .int .i64 k ∧ Hid (∀ j (h : j < s.size), 4 ≤ j → j < k → digB s[j] = true)) (fun i => s.size - (intOf i).toNat)
    case atStart => exact ⟨4, Nat.le_refl _, by omega, rfl, fun j h a b => absurd a (by omega)⟩
    case round =>
      obtain ⟨k, hk4, hk, rfl, hd⟩ := hrel
      by_cases hlt : k < s.size
      · by_cases hg : digB s[k] = true
        · go_wp2_with (first | (go_at_call_of 14 (Value.int IntKind.u8 46); refine (cdig_46 _).mono ?_; rintro e w' ⟨rfl, rfl⟩) | (go_at_call 14; refine (cdig_any _ _).mono ?_; rintro e w' ⟨rfl, rfl⟩))
          go_round
          case rel => exact ⟨k + 1, by omega, by omega, by go_num, fun j h a b => by by_cases e : j = k; (subst e; exact hg); exact hd.out j h a (by omega)⟩
          case measure => simp [intOf]; omega
        · have hg2 : digB s[k] = false := by simpa using hg
          clear hg
          go_wp2_with (first | (go_at_call_of 14 (Value.int IntKind.u8 46); refine (cdig_46 _).mono ?_; rintro e w' ⟨rfl, rfl⟩) | (go_at_call 14; refine (cdig_any _ _).mono ?_; rintro e w' ⟨rfl, rfl⟩))
          exact bodyPost_ret (v := .tuple #[zero, .bool false]) (by simp [results, Yba.results9, go_sem]) rfl ⟨.inr ⟨rfl, k, hlt, hk4, hg2⟩, (((Below.refl _ _).alloc (Nat.le_refl _) _).alloc (by simp) _).drew⟩
      · go_wp2_with (first | (go_at_call_of 14 (Value.int IntKind.u8 46); refine (cdig_46 _).mono ?_; rintro e w' ⟨rfl, rfl⟩) | (go_at_call 14; refine (cdig_any _ _).mono ?_; rintro e w' ⟨rfl, rfl⟩))
        exact bodyPost_ret (v := .tuple #[zval s 4 true (((s[1].toNat : Int) - 48) * 10 + ((s[2].toNat : Int) - 48)) 0 (s.extract 4 s.size), .bool true]) (by simp [results, Yba.results9, go_sem]) rfl ⟨.inl ⟨rfl, fun j h a => hd.out j h a (by omega)⟩, (((Below.refl _ _).alloc (Nat.le_refl _) _).alloc (by simp) _).drew⟩

end Go.Proofs.Ybulkcmju
