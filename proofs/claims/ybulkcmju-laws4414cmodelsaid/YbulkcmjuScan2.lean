/-
  The contract of scanZone, further shapes: a decimal fraction; what is refused behind the hours.
-/
import Derived.Test.YbulkcmjuScan
namespace Go.Proofs.Ybulkcmju
open Go.RowKit
set_option linter.unusedVariables false

set_option maxHeartbeats 1600000 in
theorem scan_dec2 (s q t r u : ByteArray) (neg : Bool) (hZ : (s.toList == [90]) = false) (hn : 0 < s.size) (h3 : 3 ≤ s.size) (hs : s.size ≤ maxLen) (h1 : Sg s[0] neg) (hq : s.extract 1 s.size = q) (hl : 2 ≤ lead q.data.toList)
    (ht : s.extract 1 3 = t) (hz : t.size = 2) (g0 : digB t[0] = true) (g1 : digB t[1] = true) (hr : s.extract 3 s.size = r) (hn0 : 0 < r.size) (hu : r.extract 1 r.size = u) (hr2 : r.size = 2) (hc : (r[0].toNat : Int) = 46) (hlr : lead r.data.toList = 0) (hlu : lead u.data.toList = 1) (w : World) :
    Calls Yba.prog 8 #[.string s] w fun e w' => e = .returned (.tuple #[zval s 4 neg (two t[0] t[1]) 0 u, .bool true]) ∧ Below w.heap.size w w' := by
  have hne := empty_false hn
  have hre := empty_false hn0
  have hqs : q.size ≤ maxLen := by rw [← hq]; simp; omega
  have hrs : r.size ≤ maxLen := by rw [← hr]; simp; omega
  have hus : u.size ≤ maxLen := by rw [← hu]; simp; omega
  have hr63 : r.size ≤ 9223372036854775807 := by unfold maxLen at hrs; omega
  have G0 : Hid (digB t[0] = true) := g0
  have G1 : Hid (digB t[1] = true) := g1
  have hd : decide ((lead q.data.toList : Int) < 2) = false := decide_eq_false (by omega)
  clear g0 g1 hl
  rw [hr2] at hu
  unfold maxLen at hs
  rcases h1 with ⟨rfl, h1⟩ | ⟨rfl, h1⟩
  · go_enter Yba.func8, Yba.ntmps8
    go_wp2_with (first | (go_at_call_of 12 q; refine (leading_any q _ hqs).mono ?_; rintro e w' ⟨rfl, rfl⟩) | (go_at_call_of 13 t; refine (read_two t hz G0.out G1.out _).mono ?_; rintro e w' ⟨rfl, rfl⟩) | (go_at_call_of 12 r; refine (leading_any r _ hrs).mono ?_; rintro e w' ⟨rfl, rfl⟩) | (go_at_call_of 12 u; refine (leading_any u _ hus).mono ?_; rintro e w' ⟨rfl, rfl⟩))
    all_goals exact bodyPost_ret (v := .tuple #[zval s 4 false (two t[0] t[1]) 0 u, .bool true]) (by simp [results, Yba.results8, go_sem]) rfl ⟨rfl, (Below.refl _ _).alloc (Nat.le_refl _) _⟩
  · go_enter Yba.func8, Yba.ntmps8
    go_wp2_with (first | (go_at_call_of 12 q; refine (leading_any q _ hqs).mono ?_; rintro e w' ⟨rfl, rfl⟩) | (go_at_call_of 13 t; refine (read_two t hz G0.out G1.out _).mono ?_; rintro e w' ⟨rfl, rfl⟩) | (go_at_call_of 12 r; refine (leading_any r _ hrs).mono ?_; rintro e w' ⟨rfl, rfl⟩) | (go_at_call_of 12 u; refine (leading_any u _ hus).mono ?_; rintro e w' ⟨rfl, rfl⟩))
    all_goals exact bodyPost_ret (v := .tuple #[zval s 4 true (two t[0] t[1]) 0 u, .bool true]) (by simp [results, Yba.results8, go_sem]) rfl ⟨rfl, (Below.refl _ _).alloc (Nat.le_refl _) _⟩

set_option maxHeartbeats 1600000 in
theorem scan_dec3 (s q t r u : ByteArray) (neg : Bool) (hZ : (s.toList == [90]) = false) (hn : 0 < s.size) (h3 : 3 ≤ s.size) (hs : s.size ≤ maxLen) (h1 : Sg s[0] neg) (hq : s.extract 1 s.size = q) (hl : 2 ≤ lead q.data.toList)
    (ht : s.extract 1 3 = t) (hz : t.size = 2) (g0 : digB t[0] = true) (g1 : digB t[1] = true) (hr : s.extract 3 s.size = r) (hn0 : 0 < r.size) (hu : r.extract 1 r.size = u) (hr3 : r.size = 3) (hc : (r[0].toNat : Int) = 46) (hlu : lead u.data.toList = 2) (w : World) :
    Calls Yba.prog 8 #[.string s] w fun e w' => e = .returned (.tuple #[zval s 4 neg (two t[0] t[1]) 0 u, .bool true]) ∧ Below w.heap.size w w' := by
  have hne := empty_false hn
  have hre := empty_false hn0
  have hqs : q.size ≤ maxLen := by rw [← hq]; simp; omega
  have hrs : r.size ≤ maxLen := by rw [← hr]; simp; omega
  have hus : u.size ≤ maxLen := by rw [← hu]; simp; omega
  have hr63 : r.size ≤ 9223372036854775807 := by unfold maxLen at hrs; omega
  have G0 : Hid (digB t[0] = true) := g0
  have G1 : Hid (digB t[1] = true) := g1
  have hd : decide ((lead q.data.toList : Int) < 2) = false := decide_eq_false (by omega)
  clear g0 g1 hl
  rw [hr3] at hu
  unfold maxLen at hs
  rcases h1 with ⟨rfl, h1⟩ | ⟨rfl, h1⟩
  · go_enter Yba.func8, Yba.ntmps8
    go_wp2_with (first | (go_at_call_of 12 q; refine (leading_any q _ hqs).mono ?_; rintro e w' ⟨rfl, rfl⟩) | (go_at_call_of 13 t; refine (read_two t hz G0.out G1.out _).mono ?_; rintro e w' ⟨rfl, rfl⟩) | (go_at_call_of 12 r; refine (leading_any r _ hrs).mono ?_; rintro e w' ⟨rfl, rfl⟩) | (go_at_call_of 12 u; refine (leading_any u _ hus).mono ?_; rintro e w' ⟨rfl, rfl⟩))
    all_goals exact bodyPost_ret (v := .tuple #[zval s 4 false (two t[0] t[1]) 0 u, .bool true]) (by simp [results, Yba.results8, go_sem]) rfl ⟨rfl, (Below.refl _ _).alloc (Nat.le_refl _) _⟩
  · go_enter Yba.func8, Yba.ntmps8
    go_wp2_with (first | (go_at_call_of 12 q; refine (leading_any q _ hqs).mono ?_; rintro e w' ⟨rfl, rfl⟩) | (go_at_call_of 13 t; refine (read_two t hz G0.out G1.out _).mono ?_; rintro e w' ⟨rfl, rfl⟩) | (go_at_call_of 12 r; refine (leading_any r _ hrs).mono ?_; rintro e w' ⟨rfl, rfl⟩) | (go_at_call_of 12 u; refine (leading_any u _ hus).mono ?_; rintro e w' ⟨rfl, rfl⟩))
    all_goals exact bodyPost_ret (v := .tuple #[zval s 4 true (two t[0] t[1]) 0 u, .bool true]) (by simp [results, Yba.results8, go_sem]) rfl ⟨rfl, (Below.refl _ _).alloc (Nat.le_refl _) _⟩

set_option maxHeartbeats 1600000 in
theorem scan_dec4 (s q t r u : ByteArray) (neg : Bool) (hZ : (s.toList == [90]) = false) (hn : 0 < s.size) (h3 : 3 ≤ s.size) (hs : s.size ≤ maxLen) (h1 : Sg s[0] neg) (hq : s.extract 1 s.size = q) (hl : 2 ≤ lead q.data.toList)
    (ht : s.extract 1 3 = t) (hz : t.size = 2) (g0 : digB t[0] = true) (g1 : digB t[1] = true) (hr : s.extract 3 s.size = r) (hn0 : 0 < r.size) (hu : r.extract 1 r.size = u) (hr4 : (3 : Int) < r.size) (hc : (r[0].toNat : Int) = 46) (hlu : (lead u.data.toList : Int) = (r.size : Int) - 1) (w : World) :
    Calls Yba.prog 8 #[.string s] w fun e w' => e = .returned (.tuple #[zval s 4 neg (two t[0] t[1]) 0 u, .bool true]) ∧ Below w.heap.size w w' := by
  have hne := empty_false hn
  have hre := empty_false hn0
  have hqs : q.size ≤ maxLen := by rw [← hq]; simp; omega
  have hrs : r.size ≤ maxLen := by rw [← hr]; simp; omega
  have hus : u.size ≤ maxLen := by rw [← hu]; simp; omega
  have hr63 : r.size ≤ 9223372036854775807 := by unfold maxLen at hrs; omega
  have G0 : Hid (digB t[0] = true) := g0
  have G1 : Hid (digB t[1] = true) := g1
  have hd : decide ((lead q.data.toList : Int) < 2) = false := decide_eq_false (by omega)
  clear g0 g1 hl
  unfold maxLen at hs
  rcases h1 with ⟨rfl, h1⟩ | ⟨rfl, h1⟩
  · go_enter Yba.func8, Yba.ntmps8
    go_wp2_with (first | (go_at_call_of 12 q; refine (leading_any q _ hqs).mono ?_; rintro e w' ⟨rfl, rfl⟩) | (go_at_call_of 13 t; refine (read_two t hz G0.out G1.out _).mono ?_; rintro e w' ⟨rfl, rfl⟩) | (go_at_call_of 12 r; refine (leading_any r _ hrs).mono ?_; rintro e w' ⟨rfl, rfl⟩) | (go_at_call_of 12 u; refine (leading_any u _ hus).mono ?_; rintro e w' ⟨rfl, rfl⟩))
    all_goals exact bodyPost_ret (v := .tuple #[zval s 4 false (two t[0] t[1]) 0 u, .bool true]) (by simp [results, Yba.results8, go_sem]) rfl ⟨rfl, (Below.refl _ _).alloc (Nat.le_refl _) _⟩
  · go_enter Yba.func8, Yba.ntmps8
    go_wp2_with (first | (go_at_call_of 12 q; refine (leading_any q _ hqs).mono ?_; rintro e w' ⟨rfl, rfl⟩) | (go_at_call_of 13 t; refine (read_two t hz G0.out G1.out _).mono ?_; rintro e w' ⟨rfl, rfl⟩) | (go_at_call_of 12 r; refine (leading_any r _ hrs).mono ?_; rintro e w' ⟨rfl, rfl⟩) | (go_at_call_of 12 u; refine (leading_any u _ hus).mono ?_; rintro e w' ⟨rfl, rfl⟩))
    all_goals exact bodyPost_ret (v := .tuple #[zval s 4 true (two t[0] t[1]) 0 u, .bool true]) (by simp [results, Yba.results8, go_sem]) rfl ⟨rfl, (Below.refl _ _).alloc (Nat.le_refl _) _⟩

set_option maxHeartbeats 1600000 in
theorem scan_no1 (s q t r u : ByteArray) (neg : Bool) (hZ : (s.toList == [90]) = false) (hn : 0 < s.size) (h3 : 3 ≤ s.size) (hs : s.size ≤ maxLen) (h1 : Sg s[0] neg) (hq : s.extract 1 s.size = q) (hl : 2 ≤ lead q.data.toList)
    (ht : s.extract 1 3 = t) (hz : t.size = 2) (g0 : digB t[0] = true) (g1 : digB t[1] = true) (hr : s.extract 3 s.size = r) (hn0 : 0 < r.size) (hu : r.extract 1 r.size = u) (hr1 : r.size = 1) (w : World) :
    Calls Yba.prog 8 #[.string s] w fun e w' => e = .returned (.tuple #[zero, .bool false]) ∧ Below w.heap.size w w' := by
  have hne := empty_false hn
  have hre := empty_false hn0
  have hqs : q.size ≤ maxLen := by rw [← hq]; simp; omega
  have hrs : r.size ≤ maxLen := by rw [← hr]; simp; omega
  have hus : u.size ≤ maxLen := by rw [← hu]; simp; omega
  have hr63 : r.size ≤ 9223372036854775807 := by unfold maxLen at hrs; omega
  have G0 : Hid (digB t[0] = true) := g0
  have G1 : Hid (digB t[1] = true) := g1
  have hd : decide ((lead q.data.toList : Int) < 2) = false := decide_eq_false (by omega)
  clear g0 g1 hl
  rw [hr1] at hu
  unfold maxLen at hs
  rcases h1 with ⟨rfl, h1⟩ | ⟨rfl, h1⟩
  · go_enter Yba.func8, Yba.ntmps8
    go_wp2_with (first | (go_at_call_of 12 q; refine (leading_any q _ hqs).mono ?_; rintro e w' ⟨rfl, rfl⟩) | (go_at_call_of 13 t; refine (read_two t hz G0.out G1.out _).mono ?_; rintro e w' ⟨rfl, rfl⟩) | (go_at_call_of 12 r; refine (leading_any r _ hrs).mono ?_; rintro e w' ⟨rfl, rfl⟩) | (go_at_call_of 12 u; refine (leading_any u _ hus).mono ?_; rintro e w' ⟨rfl, rfl⟩))
    all_goals exact bodyPost_ret (v := .tuple #[zero, .bool false]) (by simp [results, Yba.results8, go_sem]) rfl ⟨rfl, (Below.refl _ _).alloc (Nat.le_refl _) _⟩
  · go_enter Yba.func8, Yba.ntmps8
    go_wp2_with (first | (go_at_call_of 12 q; refine (leading_any q _ hqs).mono ?_; rintro e w' ⟨rfl, rfl⟩) | (go_at_call_of 13 t; refine (read_two t hz G0.out G1.out _).mono ?_; rintro e w' ⟨rfl, rfl⟩) | (go_at_call_of 12 r; refine (leading_any r _ hrs).mono ?_; rintro e w' ⟨rfl, rfl⟩) | (go_at_call_of 12 u; refine (leading_any u _ hus).mono ?_; rintro e w' ⟨rfl, rfl⟩))
    all_goals exact bodyPost_ret (v := .tuple #[zero, .bool false]) (by simp [results, Yba.results8, go_sem]) rfl ⟨rfl, (Below.refl _ _).alloc (Nat.le_refl _) _⟩

set_option maxHeartbeats 1600000 in
theorem scan_no2 (s q t r u : ByteArray) (neg : Bool) (hZ : (s.toList == [90]) = false) (hn : 0 < s.size) (h3 : 3 ≤ s.size) (hs : s.size ≤ maxLen) (h1 : Sg s[0] neg) (hq : s.extract 1 s.size = q) (hl : 2 ≤ lead q.data.toList)
    (ht : s.extract 1 3 = t) (hz : t.size = 2) (g0 : digB t[0] = true) (g1 : digB t[1] = true) (hr : s.extract 3 s.size = r) (hn0 : 0 < r.size) (hu : r.extract 1 r.size = u) (hr2 : r.size = 2) (hc : ¬ (r[0].toNat : Int) = 46) (hlr : ((lead r.data.toList : Int) == 2) = false) (w : World) :
    Calls Yba.prog 8 #[.string s] w fun e w' => e = .returned (.tuple #[zero, .bool false]) ∧ Below w.heap.size w w' := by
  have hne := empty_false hn
  have hre := empty_false hn0
  have hqs : q.size ≤ maxLen := by rw [← hq]; simp; omega
  have hrs : r.size ≤ maxLen := by rw [← hr]; simp; omega
  have hus : u.size ≤ maxLen := by rw [← hu]; simp; omega
  have hr63 : r.size ≤ 9223372036854775807 := by unfold maxLen at hrs; omega
  have G0 : Hid (digB t[0] = true) := g0
  have G1 : Hid (digB t[1] = true) := g1
  have hd : decide ((lead q.data.toList : Int) < 2) = false := decide_eq_false (by omega)
  clear g0 g1 hl
  rw [hr2] at hu
  unfold maxLen at hs
  rcases h1 with ⟨rfl, h1⟩ | ⟨rfl, h1⟩
  · go_enter Yba.func8, Yba.ntmps8
    go_wp2_with (first | (go_at_call_of 12 q; refine (leading_any q _ hqs).mono ?_; rintro e w' ⟨rfl, rfl⟩) | (go_at_call_of 13 t; refine (read_two t hz G0.out G1.out _).mono ?_; rintro e w' ⟨rfl, rfl⟩) | (go_at_call_of 12 r; refine (leading_any r _ hrs).mono ?_; rintro e w' ⟨rfl, rfl⟩) | (go_at_call_of 12 u; refine (leading_any u _ hus).mono ?_; rintro e w' ⟨rfl, rfl⟩))
    all_goals exact bodyPost_ret (v := .tuple #[zero, .bool false]) (by simp [results, Yba.results8, go_sem]) rfl ⟨rfl, (Below.refl _ _).alloc (Nat.le_refl _) _⟩
  · go_enter Yba.func8, Yba.ntmps8
    go_wp2_with (first | (go_at_call_of 12 q; refine (leading_any q _ hqs).mono ?_; rintro e w' ⟨rfl, rfl⟩) | (go_at_call_of 13 t; refine (read_two t hz G0.out G1.out _).mono ?_; rintro e w' ⟨rfl, rfl⟩) | (go_at_call_of 12 r; refine (leading_any r _ hrs).mono ?_; rintro e w' ⟨rfl, rfl⟩) | (go_at_call_of 12 u; refine (leading_any u _ hus).mono ?_; rintro e w' ⟨rfl, rfl⟩))
    all_goals exact bodyPost_ret (v := .tuple #[zero, .bool false]) (by simp [results, Yba.results8, go_sem]) rfl ⟨rfl, (Below.refl _ _).alloc (Nat.le_refl _) _⟩

set_option maxHeartbeats 1600000 in
theorem scan_no2d (s q t r u : ByteArray) (neg : Bool) (hZ : (s.toList == [90]) = false) (hn : 0 < s.size) (h3 : 3 ≤ s.size) (hs : s.size ≤ maxLen) (h1 : Sg s[0] neg) (hq : s.extract 1 s.size = q) (hl : 2 ≤ lead q.data.toList)
    (ht : s.extract 1 3 = t) (hz : t.size = 2) (g0 : digB t[0] = true) (g1 : digB t[1] = true) (hr : s.extract 3 s.size = r) (hn0 : 0 < r.size) (hu : r.extract 1 r.size = u) (hr2 : r.size = 2) (hc : (r[0].toNat : Int) = 46) (hlr : ((lead r.data.toList : Int) == 2) = false) (hlu : ((lead u.data.toList : Int) == 1) = false) (w : World) :
    Calls Yba.prog 8 #[.string s] w fun e w' => e = .returned (.tuple #[zero, .bool false]) ∧ Below w.heap.size w w' := by
  have hne := empty_false hn
  have hre := empty_false hn0
  have hqs : q.size ≤ maxLen := by rw [← hq]; simp; omega
  have hrs : r.size ≤ maxLen := by rw [← hr]; simp; omega
  have hus : u.size ≤ maxLen := by rw [← hu]; simp; omega
  have hr63 : r.size ≤ 9223372036854775807 := by unfold maxLen at hrs; omega
  have G0 : Hid (digB t[0] = true) := g0
  have G1 : Hid (digB t[1] = true) := g1
  have hd : decide ((lead q.data.toList : Int) < 2) = false := decide_eq_false (by omega)
  clear g0 g1 hl
  rw [hr2] at hu
  unfold maxLen at hs
  rcases h1 with ⟨rfl, h1⟩ | ⟨rfl, h1⟩
  · go_enter Yba.func8, Yba.ntmps8
    go_wp2_with (first | (go_at_call_of 12 q; refine (leading_any q _ hqs).mono ?_; rintro e w' ⟨rfl, rfl⟩) | (go_at_call_of 13 t; refine (read_two t hz G0.out G1.out _).mono ?_; rintro e w' ⟨rfl, rfl⟩) | (go_at_call_of 12 r; refine (leading_any r _ hrs).mono ?_; rintro e w' ⟨rfl, rfl⟩) | (go_at_call_of 12 u; refine (leading_any u _ hus).mono ?_; rintro e w' ⟨rfl, rfl⟩))
    all_goals exact bodyPost_ret (v := .tuple #[zero, .bool false]) (by simp [results, Yba.results8, go_sem]) rfl ⟨rfl, (Below.refl _ _).alloc (Nat.le_refl _) _⟩
  · go_enter Yba.func8, Yba.ntmps8
    go_wp2_with (first | (go_at_call_of 12 q; refine (leading_any q _ hqs).mono ?_; rintro e w' ⟨rfl, rfl⟩) | (go_at_call_of 13 t; refine (read_two t hz G0.out G1.out _).mono ?_; rintro e w' ⟨rfl, rfl⟩) | (go_at_call_of 12 r; refine (leading_any r _ hrs).mono ?_; rintro e w' ⟨rfl, rfl⟩) | (go_at_call_of 12 u; refine (leading_any u _ hus).mono ?_; rintro e w' ⟨rfl, rfl⟩))
    all_goals exact bodyPost_ret (v := .tuple #[zero, .bool false]) (by simp [results, Yba.results8, go_sem]) rfl ⟨rfl, (Below.refl _ _).alloc (Nat.le_refl _) _⟩

set_option maxHeartbeats 1600000 in
theorem scan_no3c (s q t r u : ByteArray) (neg : Bool) (hZ : (s.toList == [90]) = false) (hn : 0 < s.size) (h3 : 3 ≤ s.size) (hs : s.size ≤ maxLen) (h1 : Sg s[0] neg) (hq : s.extract 1 s.size = q) (hl : 2 ≤ lead q.data.toList)
    (ht : s.extract 1 3 = t) (hz : t.size = 2) (g0 : digB t[0] = true) (g1 : digB t[1] = true) (hr : s.extract 3 s.size = r) (hn0 : 0 < r.size) (hu : r.extract 1 r.size = u) (hr3 : r.size = 3) (hc : (r[0].toNat : Int) = 58) (hlu : ((lead u.data.toList : Int) == 2) = false) (w : World) :
    Calls Yba.prog 8 #[.string s] w fun e w' => e = .returned (.tuple #[zero, .bool false]) ∧ Below w.heap.size w w' := by
  have hne := empty_false hn
  have hre := empty_false hn0
  have hqs : q.size ≤ maxLen := by rw [← hq]; simp; omega
  have hrs : r.size ≤ maxLen := by rw [← hr]; simp; omega
  have hus : u.size ≤ maxLen := by rw [← hu]; simp; omega
  have hr63 : r.size ≤ 9223372036854775807 := by unfold maxLen at hrs; omega
  have G0 : Hid (digB t[0] = true) := g0
  have G1 : Hid (digB t[1] = true) := g1
  have hd : decide ((lead q.data.toList : Int) < 2) = false := decide_eq_false (by omega)
  clear g0 g1 hl
  rw [hr3] at hu
  unfold maxLen at hs
  rcases h1 with ⟨rfl, h1⟩ | ⟨rfl, h1⟩
  · go_enter Yba.func8, Yba.ntmps8
    go_wp2_with (first | (go_at_call_of 12 q; refine (leading_any q _ hqs).mono ?_; rintro e w' ⟨rfl, rfl⟩) | (go_at_call_of 13 t; refine (read_two t hz G0.out G1.out _).mono ?_; rintro e w' ⟨rfl, rfl⟩) | (go_at_call_of 12 r; refine (leading_any r _ hrs).mono ?_; rintro e w' ⟨rfl, rfl⟩) | (go_at_call_of 12 u; refine (leading_any u _ hus).mono ?_; rintro e w' ⟨rfl, rfl⟩))
    all_goals exact bodyPost_ret (v := .tuple #[zero, .bool false]) (by simp [results, Yba.results8, go_sem]) rfl ⟨rfl, (Below.refl _ _).alloc (Nat.le_refl _) _⟩
  · go_enter Yba.func8, Yba.ntmps8
    go_wp2_with (first | (go_at_call_of 12 q; refine (leading_any q _ hqs).mono ?_; rintro e w' ⟨rfl, rfl⟩) | (go_at_call_of 13 t; refine (read_two t hz G0.out G1.out _).mono ?_; rintro e w' ⟨rfl, rfl⟩) | (go_at_call_of 12 r; refine (leading_any r _ hrs).mono ?_; rintro e w' ⟨rfl, rfl⟩) | (go_at_call_of 12 u; refine (leading_any u _ hus).mono ?_; rintro e w' ⟨rfl, rfl⟩))
    all_goals exact bodyPost_ret (v := .tuple #[zero, .bool false]) (by simp [results, Yba.results8, go_sem]) rfl ⟨rfl, (Below.refl _ _).alloc (Nat.le_refl _) _⟩

set_option maxHeartbeats 1600000 in
theorem scan_no3d (s q t r u : ByteArray) (neg : Bool) (hZ : (s.toList == [90]) = false) (hn : 0 < s.size) (h3 : 3 ≤ s.size) (hs : s.size ≤ maxLen) (h1 : Sg s[0] neg) (hq : s.extract 1 s.size = q) (hl : 2 ≤ lead q.data.toList)
    (ht : s.extract 1 3 = t) (hz : t.size = 2) (g0 : digB t[0] = true) (g1 : digB t[1] = true) (hr : s.extract 3 s.size = r) (hn0 : 0 < r.size) (hu : r.extract 1 r.size = u) (hr3 : r.size = 3) (hc : (r[0].toNat : Int) = 46) (hlu : ((lead u.data.toList : Int) == 2) = false) (w : World) :
    Calls Yba.prog 8 #[.string s] w fun e w' => e = .returned (.tuple #[zero, .bool false]) ∧ Below w.heap.size w w' := by
  have hne := empty_false hn
  have hre := empty_false hn0
  have hqs : q.size ≤ maxLen := by rw [← hq]; simp; omega
  have hrs : r.size ≤ maxLen := by rw [← hr]; simp; omega
  have hus : u.size ≤ maxLen := by rw [← hu]; simp; omega
  have hr63 : r.size ≤ 9223372036854775807 := by unfold maxLen at hrs; omega
  have G0 : Hid (digB t[0] = true) := g0
  have G1 : Hid (digB t[1] = true) := g1
  have hd : decide ((lead q.data.toList : Int) < 2) = false := decide_eq_false (by omega)
  clear g0 g1 hl
  rw [hr3] at hu
  unfold maxLen at hs
  rcases h1 with ⟨rfl, h1⟩ | ⟨rfl, h1⟩
  · go_enter Yba.func8, Yba.ntmps8
    go_wp2_with (first | (go_at_call_of 12 q; refine (leading_any q _ hqs).mono ?_; rintro e w' ⟨rfl, rfl⟩) | (go_at_call_of 13 t; refine (read_two t hz G0.out G1.out _).mono ?_; rintro e w' ⟨rfl, rfl⟩) | (go_at_call_of 12 r; refine (leading_any r _ hrs).mono ?_; rintro e w' ⟨rfl, rfl⟩) | (go_at_call_of 12 u; refine (leading_any u _ hus).mono ?_; rintro e w' ⟨rfl, rfl⟩))
    all_goals exact bodyPost_ret (v := .tuple #[zero, .bool false]) (by simp [results, Yba.results8, go_sem]) rfl ⟨rfl, (Below.refl _ _).alloc (Nat.le_refl _) _⟩
  · go_enter Yba.func8, Yba.ntmps8
    go_wp2_with (first | (go_at_call_of 12 q; refine (leading_any q _ hqs).mono ?_; rintro e w' ⟨rfl, rfl⟩) | (go_at_call_of 13 t; refine (read_two t hz G0.out G1.out _).mono ?_; rintro e w' ⟨rfl, rfl⟩) | (go_at_call_of 12 r; refine (leading_any r _ hrs).mono ?_; rintro e w' ⟨rfl, rfl⟩) | (go_at_call_of 12 u; refine (leading_any u _ hus).mono ?_; rintro e w' ⟨rfl, rfl⟩))
    all_goals exact bodyPost_ret (v := .tuple #[zero, .bool false]) (by simp [results, Yba.results8, go_sem]) rfl ⟨rfl, (Below.refl _ _).alloc (Nat.le_refl _) _⟩

set_option maxHeartbeats 1600000 in
theorem scan_no3 (s q t r u : ByteArray) (neg : Bool) (hZ : (s.toList == [90]) = false) (hn : 0 < s.size) (h3 : 3 ≤ s.size) (hs : s.size ≤ maxLen) (h1 : Sg s[0] neg) (hq : s.extract 1 s.size = q) (hl : 2 ≤ lead q.data.toList)
    (ht : s.extract 1 3 = t) (hz : t.size = 2) (g0 : digB t[0] = true) (g1 : digB t[1] = true) (hr : s.extract 3 s.size = r) (hn0 : 0 < r.size) (hu : r.extract 1 r.size = u) (hr3 : r.size = 3) (hc : ¬ (r[0].toNat : Int) = 58) (hc2 : ¬ (r[0].toNat : Int) = 46) (w : World) :
    Calls Yba.prog 8 #[.string s] w fun e w' => e = .returned (.tuple #[zero, .bool false]) ∧ Below w.heap.size w w' := by
  have hne := empty_false hn
  have hre := empty_false hn0
  have hqs : q.size ≤ maxLen := by rw [← hq]; simp; omega
  have hrs : r.size ≤ maxLen := by rw [← hr]; simp; omega
  have hus : u.size ≤ maxLen := by rw [← hu]; simp; omega
  have hr63 : r.size ≤ 9223372036854775807 := by unfold maxLen at hrs; omega
  have G0 : Hid (digB t[0] = true) := g0
  have G1 : Hid (digB t[1] = true) := g1
  have hd : decide ((lead q.data.toList : Int) < 2) = false := decide_eq_false (by omega)
  clear g0 g1 hl
  rw [hr3] at hu
  unfold maxLen at hs
  rcases h1 with ⟨rfl, h1⟩ | ⟨rfl, h1⟩
  · go_enter Yba.func8, Yba.ntmps8
    go_wp2_with (first | (go_at_call_of 12 q; refine (leading_any q _ hqs).mono ?_; rintro e w' ⟨rfl, rfl⟩) | (go_at_call_of 13 t; refine (read_two t hz G0.out G1.out _).mono ?_; rintro e w' ⟨rfl, rfl⟩) | (go_at_call_of 12 r; refine (leading_any r _ hrs).mono ?_; rintro e w' ⟨rfl, rfl⟩) | (go_at_call_of 12 u; refine (leading_any u _ hus).mono ?_; rintro e w' ⟨rfl, rfl⟩))
    all_goals exact bodyPost_ret (v := .tuple #[zero, .bool false]) (by simp [results, Yba.results8, go_sem]) rfl ⟨rfl, (Below.refl _ _).alloc (Nat.le_refl _) _⟩
  · go_enter Yba.func8, Yba.ntmps8
    go_wp2_with (first | (go_at_call_of 12 q; refine (leading_any q _ hqs).mono ?_; rintro e w' ⟨rfl, rfl⟩) | (go_at_call_of 13 t; refine (read_two t hz G0.out G1.out _).mono ?_; rintro e w' ⟨rfl, rfl⟩) | (go_at_call_of 12 r; refine (leading_any r _ hrs).mono ?_; rintro e w' ⟨rfl, rfl⟩) | (go_at_call_of 12 u; refine (leading_any u _ hus).mono ?_; rintro e w' ⟨rfl, rfl⟩))
    all_goals exact bodyPost_ret (v := .tuple #[zero, .bool false]) (by simp [results, Yba.results8, go_sem]) rfl ⟨rfl, (Below.refl _ _).alloc (Nat.le_refl _) _⟩

set_option maxHeartbeats 1600000 in
theorem scan_no4d (s q t r u : ByteArray) (neg : Bool) (hZ : (s.toList == [90]) = false) (hn : 0 < s.size) (h3 : 3 ≤ s.size) (hs : s.size ≤ maxLen) (h1 : Sg s[0] neg) (hq : s.extract 1 s.size = q) (hl : 2 ≤ lead q.data.toList)
    (ht : s.extract 1 3 = t) (hz : t.size = 2) (g0 : digB t[0] = true) (g1 : digB t[1] = true) (hr : s.extract 3 s.size = r) (hn0 : 0 < r.size) (hu : r.extract 1 r.size = u) (hr4 : (3 : Int) < r.size) (hc : (r[0].toNat : Int) = 46) (hlu : ((lead u.data.toList : Int) == (r.size : Int) - 1) = false) (w : World) :
    Calls Yba.prog 8 #[.string s] w fun e w' => e = .returned (.tuple #[zero, .bool false]) ∧ Below w.heap.size w w' := by
  have hne := empty_false hn
  have hre := empty_false hn0
  have hqs : q.size ≤ maxLen := by rw [← hq]; simp; omega
  have hrs : r.size ≤ maxLen := by rw [← hr]; simp; omega
  have hus : u.size ≤ maxLen := by rw [← hu]; simp; omega
  have hr63 : r.size ≤ 9223372036854775807 := by unfold maxLen at hrs; omega
  have G0 : Hid (digB t[0] = true) := g0
  have G1 : Hid (digB t[1] = true) := g1
  have hd : decide ((lead q.data.toList : Int) < 2) = false := decide_eq_false (by omega)
  clear g0 g1 hl
  unfold maxLen at hs
  rcases h1 with ⟨rfl, h1⟩ | ⟨rfl, h1⟩
  · go_enter Yba.func8, Yba.ntmps8
    go_wp2_with (first | (go_at_call_of 12 q; refine (leading_any q _ hqs).mono ?_; rintro e w' ⟨rfl, rfl⟩) | (go_at_call_of 13 t; refine (read_two t hz G0.out G1.out _).mono ?_; rintro e w' ⟨rfl, rfl⟩) | (go_at_call_of 12 r; refine (leading_any r _ hrs).mono ?_; rintro e w' ⟨rfl, rfl⟩) | (go_at_call_of 12 u; refine (leading_any u _ hus).mono ?_; rintro e w' ⟨rfl, rfl⟩))
    all_goals exact bodyPost_ret (v := .tuple #[zero, .bool false]) (by simp [results, Yba.results8, go_sem]) rfl ⟨rfl, (Below.refl _ _).alloc (Nat.le_refl _) _⟩
  · go_enter Yba.func8, Yba.ntmps8
    go_wp2_with (first | (go_at_call_of 12 q; refine (leading_any q _ hqs).mono ?_; rintro e w' ⟨rfl, rfl⟩) | (go_at_call_of 13 t; refine (read_two t hz G0.out G1.out _).mono ?_; rintro e w' ⟨rfl, rfl⟩) | (go_at_call_of 12 r; refine (leading_any r _ hrs).mono ?_; rintro e w' ⟨rfl, rfl⟩) | (go_at_call_of 12 u; refine (leading_any u _ hus).mono ?_; rintro e w' ⟨rfl, rfl⟩))
    all_goals exact bodyPost_ret (v := .tuple #[zero, .bool false]) (by simp [results, Yba.results8, go_sem]) rfl ⟨rfl, (Below.refl _ _).alloc (Nat.le_refl _) _⟩

set_option maxHeartbeats 1600000 in
theorem scan_no4 (s q t r u : ByteArray) (neg : Bool) (hZ : (s.toList == [90]) = false) (hn : 0 < s.size) (h3 : 3 ≤ s.size) (hs : s.size ≤ maxLen) (h1 : Sg s[0] neg) (hq : s.extract 1 s.size = q) (hl : 2 ≤ lead q.data.toList)
    (ht : s.extract 1 3 = t) (hz : t.size = 2) (g0 : digB t[0] = true) (g1 : digB t[1] = true) (hr : s.extract 3 s.size = r) (hn0 : 0 < r.size) (hu : r.extract 1 r.size = u) (hr4 : (3 : Int) < r.size) (hc : ¬ (r[0].toNat : Int) = 46) (w : World) :
    Calls Yba.prog 8 #[.string s] w fun e w' => e = .returned (.tuple #[zero, .bool false]) ∧ Below w.heap.size w w' := by
  have hne := empty_false hn
  have hre := empty_false hn0
  have hqs : q.size ≤ maxLen := by rw [← hq]; simp; omega
  have hrs : r.size ≤ maxLen := by rw [← hr]; simp; omega
  have hus : u.size ≤ maxLen := by rw [← hu]; simp; omega
  have hr63 : r.size ≤ 9223372036854775807 := by unfold maxLen at hrs; omega
  have G0 : Hid (digB t[0] = true) := g0
  have G1 : Hid (digB t[1] = true) := g1
  have hd : decide ((lead q.data.toList : Int) < 2) = false := decide_eq_false (by omega)
  clear g0 g1 hl
  unfold maxLen at hs
  rcases h1 with ⟨rfl, h1⟩ | ⟨rfl, h1⟩
  · go_enter Yba.func8, Yba.ntmps8
    go_wp2_with (first | (go_at_call_of 12 q; refine (leading_any q _ hqs).mono ?_; rintro e w' ⟨rfl, rfl⟩) | (go_at_call_of 13 t; refine (read_two t hz G0.out G1.out _).mono ?_; rintro e w' ⟨rfl, rfl⟩) | (go_at_call_of 12 r; refine (leading_any r _ hrs).mono ?_; rintro e w' ⟨rfl, rfl⟩) | (go_at_call_of 12 u; refine (leading_any u _ hus).mono ?_; rintro e w' ⟨rfl, rfl⟩))
    all_goals exact bodyPost_ret (v := .tuple #[zero, .bool false]) (by simp [results, Yba.results8, go_sem]) rfl ⟨rfl, (Below.refl _ _).alloc (Nat.le_refl _) _⟩
  · go_enter Yba.func8, Yba.ntmps8
    go_wp2_with (first | (go_at_call_of 12 q; refine (leading_any q _ hqs).mono ?_; rintro e w' ⟨rfl, rfl⟩) | (go_at_call_of 13 t; refine (read_two t hz G0.out G1.out _).mono ?_; rintro e w' ⟨rfl, rfl⟩) | (go_at_call_of 12 r; refine (leading_any r _ hrs).mono ?_; rintro e w' ⟨rfl, rfl⟩) | (go_at_call_of 12 u; refine (leading_any u _ hus).mono ?_; rintro e w' ⟨rfl, rfl⟩))
    all_goals exact bodyPost_ret (v := .tuple #[zero, .bool false]) (by simp [results, Yba.results8, go_sem]) rfl ⟨rfl, (Below.refl _ _).alloc (Nat.le_refl _) _⟩

end Go.Proofs.Ybulkcmju
