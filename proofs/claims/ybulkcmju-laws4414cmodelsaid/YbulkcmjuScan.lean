/-
  The contract of scanZone, a theorem a shape of the designator.
-/
import Derived.Test.YbulkcmjuLeaf
import Derived.Deep.DeepMust
import Derived.Outline
import Derived.Deep.RegionWith
namespace Go.Proofs.Ybulkcmju
open Go.RowKit
set_option linter.unusedVariables false

/-- A zone as the model holds it. -/
abbrev zval (s : ByteArray) (f : Int) (neg : Bool) (h m : Int) (d : ByteArray) : Value := .agg #[.string s, .int .i64 f, .bool neg, .int .i64 h, .int .i64 m, .string d]
abbrev zero : Value := zval ⟨#[]⟩ 0 false 0 0 ⟨#[]⟩

theorem empty_false {s : ByteArray} (h : 0 < s.size) : s.toList.isEmpty = false := by
  rw [ByteArray.toList_eq]
  have e2 : s.data.toList.length = s.size := rfl
  rw [List.isEmpty_eq_false_iff]
  intro e
  rw [e] at e2
  simp at e2
  omega
theorem empty_true {s : ByteArray} (h : s.size = 0) : s.toList.isEmpty = true := by
  rw [ByteArray.toList_eq]
  have e2 : s.data.toList.length = s.size := rfl
  rw [List.isEmpty_iff]
  exact List.length_eq_zero_iff.1 (by omega)

theorem scan_Z (s : ByteArray) (hZ : (s.toList == [90]) = true) (w : World) :
    Calls Yba.prog 8 #[.string s] w fun e w' => e = .returned (.tuple #[zval s 0 false 0 0 ⟨#[]⟩, .bool true]) ∧ Below w.heap.size w w' := by
  go_enter Yba.func8, Yba.ntmps8
  go_wp2
  exact bodyPost_ret (v := .tuple #[zval s 0 false 0 0 ⟨#[]⟩, .bool true]) (by simp [results, Yba.results8, go_sem]) rfl ⟨rfl, (Below.refl _ _).alloc (Nat.le_refl _) _⟩

theorem scan_empty (s : ByteArray) (hZ : (s.toList == [90]) = false) (h0 : s.size = 0) (w : World) :
    Calls Yba.prog 8 #[.string s] w fun e w' => e = .returned (.tuple #[zero, .bool false]) ∧ Below w.heap.size w w' := by
  have he := empty_true h0
  go_enter Yba.func8, Yba.ntmps8
  go_wp2
  exact bodyPost_ret (v := .tuple #[zero, .bool false]) (by simp [results, Yba.results8, go_sem]) rfl ⟨rfl, (Below.refl _ _).alloc (Nat.le_refl _) _⟩

theorem scan_sign (s : ByteArray) (hZ : (s.toList == [90]) = false) (hn : 0 < s.size) (h1 : ¬ (s[0].toNat : Int) = 43) (h2 : ¬ (s[0].toNat : Int) = 45) (w : World) :
    Calls Yba.prog 8 #[.string s] w fun e w' => e = .returned (.tuple #[zero, .bool false]) ∧ Below w.heap.size w w' := by
  have hne := empty_false hn
  go_enter Yba.func8, Yba.ntmps8
  go_wp2
  exact bodyPost_ret (v := .tuple #[zero, .bool false]) (by simp [results, Yba.results8, go_sem]) rfl ⟨rfl, (Below.refl _ _).alloc (Nat.le_refl _) _⟩

/-- The sign is '+' (not negative) or '-' (negative). -/
def Sg (c : UInt8) (neg : Bool) : Prop := (neg = false ∧ (c.toNat : Int) = 43) ∨ (neg = true ∧ (c.toNat : Int) = 45)

theorem scan_few (s q : ByteArray) (neg : Bool) (hZ : (s.toList == [90]) = false) (hn : 0 < s.size) (hs : s.size ≤ maxLen) (h1 : Sg s[0] neg) (hq : s.extract 1 s.size = q) (hl : lead q.data.toList < 2) (w : World) :
    Calls Yba.prog 8 #[.string s] w fun e w' => e = .returned (.tuple #[zero, .bool false]) ∧ Below w.heap.size w w' := by
  have hne := empty_false hn
  have hqs : q.size ≤ maxLen := by rw [← hq]; simp; omega
  have hl2 : (lead q.data.toList : Int) < 2 := by omega
  clear hl
  unfold maxLen at hs
  rcases h1 with ⟨rfl, h1⟩ | ⟨rfl, h1⟩
  · go_enter Yba.func8, Yba.ntmps8
    go_wp2_with (go_at_call 12; refine (leading_any _ _ hqs).mono ?_; rintro e w' ⟨rfl, rfl⟩)
    exact bodyPost_ret (v := .tuple #[zero, .bool false]) (by simp [results, Yba.results8, go_sem]) rfl ⟨rfl, (Below.refl _ _).alloc (Nat.le_refl _) _⟩
  · go_enter Yba.func8, Yba.ntmps8
    go_wp2_with (go_at_call 12; refine (leading_any _ _ hqs).mono ?_; rintro e w' ⟨rfl, rfl⟩)
    exact bodyPost_ret (v := .tuple #[zero, .bool false]) (by simp [results, Yba.results8, go_sem]) rfl ⟨rfl, (Below.refl _ _).alloc (Nat.le_refl _) _⟩

set_option maxHeartbeats 1600000 in
theorem scan_hours (s q t r : ByteArray) (neg : Bool) (hZ : (s.toList == [90]) = false) (hn : 0 < s.size) (h3 : 3 ≤ s.size) (hs : s.size ≤ maxLen) (h1 : Sg s[0] neg) (hq : s.extract 1 s.size = q) (hl : 2 ≤ lead q.data.toList)
    (ht : s.extract 1 3 = t) (hz : t.size = 2) (g0 : digB t[0] = true) (g1 : digB t[1] = true) (hr : s.extract 3 s.size = r) (hr0 : r.size = 0) (w : World) :
    Calls Yba.prog 8 #[.string s] w fun e w' => e = .returned (.tuple #[zval s 1 neg (two t[0] t[1]) 0 ⟨#[]⟩, .bool true]) ∧ Below w.heap.size w w' := by
  have hne := empty_false hn
  have hqs : q.size ≤ maxLen := by rw [← hq]; simp; omega
  have hrs : r.size ≤ maxLen := by rw [← hr]; simp; omega
  have G0 : Hid (digB t[0] = true) := g0
  have G1 : Hid (digB t[1] = true) := g1
  have hd : decide ((lead q.data.toList : Int) < 2) = false := decide_eq_false (by omega)
  clear g0 g1 hl
  have hre := empty_true hr0
  clear hr0
  unfold maxLen at hs
  rcases h1 with ⟨rfl, h1⟩ | ⟨rfl, h1⟩
  · go_enter Yba.func8, Yba.ntmps8
    go_wp2_with (first | (go_at_call_of 12 q; refine (leading_any q _ hqs).mono ?_; rintro e w' ⟨rfl, rfl⟩) | (go_at_call_of 13 t; refine (read_two t hz G0.out G1.out _).mono ?_; rintro e w' ⟨rfl, rfl⟩))
    all_goals exact bodyPost_ret (v := .tuple #[zval s 1 false (two t[0] t[1]) 0 ⟨#[]⟩, .bool true]) (by simp [results, Yba.results8, go_sem]) rfl ⟨rfl, (Below.refl _ _).alloc (Nat.le_refl _) _⟩
  · go_enter Yba.func8, Yba.ntmps8
    go_wp2_with (first | (go_at_call_of 12 q; refine (leading_any q _ hqs).mono ?_; rintro e w' ⟨rfl, rfl⟩) | (go_at_call_of 13 t; refine (read_two t hz G0.out G1.out _).mono ?_; rintro e w' ⟨rfl, rfl⟩))
    all_goals exact bodyPost_ret (v := .tuple #[zval s 1 true (two t[0] t[1]) 0 ⟨#[]⟩, .bool true]) (by simp [results, Yba.results8, go_sem]) rfl ⟨rfl, (Below.refl _ _).alloc (Nat.le_refl _) _⟩

set_option maxHeartbeats 1600000 in
theorem scan_ext (s q t r u : ByteArray) (neg : Bool) (hZ : (s.toList == [90]) = false) (hn : 0 < s.size) (h3 : 3 ≤ s.size) (hs : s.size ≤ maxLen) (h1 : Sg s[0] neg) (hq : s.extract 1 s.size = q) (hl : 2 ≤ lead q.data.toList)
    (ht : s.extract 1 3 = t) (hz : t.size = 2) (g0 : digB t[0] = true) (g1 : digB t[1] = true) (hr : s.extract 3 s.size = r) (hr3 : r.size = 3) (hc : (r[0].toNat : Int) = 58) (hu : r.extract 1 r.size = u) (hlu : lead u.data.toList = 2) (uz : u.size = 2) (u0 : digB u[0] = true) (u1 : digB u[1] = true) (w : World) :
    Calls Yba.prog 8 #[.string s] w fun e w' => e = .returned (.tuple #[zval s 2 neg (two t[0] t[1]) (two u[0] u[1]) ⟨#[]⟩, .bool true]) ∧ Below w.heap.size w w' := by
  have hne := empty_false hn
  have hqs : q.size ≤ maxLen := by rw [← hq]; simp; omega
  have hrs : r.size ≤ maxLen := by rw [← hr]; simp; omega
  have G0 : Hid (digB t[0] = true) := g0
  have G1 : Hid (digB t[1] = true) := g1
  have hd : decide ((lead q.data.toList : Int) < 2) = false := decide_eq_false (by omega)
  clear g0 g1 hl
  have hre := empty_false (s := r) (by omega)
  have U0 : Hid (digB u[0] = true) := u0
  have U1 : Hid (digB u[1] = true) := u1
  have hus : u.size ≤ maxLen := by rw [uz]; decide
  clear u0 u1
  rw [hr3] at hu
  unfold maxLen at hs
  rcases h1 with ⟨rfl, h1⟩ | ⟨rfl, h1⟩
  · go_enter Yba.func8, Yba.ntmps8
    go_wp2_with (first | (go_at_call_of 12 q; refine (leading_any q _ hqs).mono ?_; rintro e w' ⟨rfl, rfl⟩) | (go_at_call_of 13 t; refine (read_two t hz G0.out G1.out _).mono ?_; rintro e w' ⟨rfl, rfl⟩) | (go_at_call_of 12 u; refine (leading_any u _ hus).mono ?_; rintro e w' ⟨rfl, rfl⟩) | (go_at_call_of 13 u; refine (read_two u uz U0.out U1.out _).mono ?_; rintro e w' ⟨rfl, rfl⟩))
    all_goals exact bodyPost_ret (v := .tuple #[zval s 2 false (two t[0] t[1]) (two u[0] u[1]) ⟨#[]⟩, .bool true]) (by simp [results, Yba.results8, go_sem]) rfl ⟨rfl, (Below.refl _ _).alloc (Nat.le_refl _) _⟩
  · go_enter Yba.func8, Yba.ntmps8
    go_wp2_with (first | (go_at_call_of 12 q; refine (leading_any q _ hqs).mono ?_; rintro e w' ⟨rfl, rfl⟩) | (go_at_call_of 13 t; refine (read_two t hz G0.out G1.out _).mono ?_; rintro e w' ⟨rfl, rfl⟩) | (go_at_call_of 12 u; refine (leading_any u _ hus).mono ?_; rintro e w' ⟨rfl, rfl⟩) | (go_at_call_of 13 u; refine (read_two u uz U0.out U1.out _).mono ?_; rintro e w' ⟨rfl, rfl⟩))
    all_goals exact bodyPost_ret (v := .tuple #[zval s 2 true (two t[0] t[1]) (two u[0] u[1]) ⟨#[]⟩, .bool true]) (by simp [results, Yba.results8, go_sem]) rfl ⟨rfl, (Below.refl _ _).alloc (Nat.le_refl _) _⟩

set_option maxHeartbeats 1600000 in
theorem scan_bas (s q t r : ByteArray) (neg : Bool) (hZ : (s.toList == [90]) = false) (hn : 0 < s.size) (h3 : 3 ≤ s.size) (hs : s.size ≤ maxLen) (h1 : Sg s[0] neg) (hq : s.extract 1 s.size = q) (hl : 2 ≤ lead q.data.toList)
    (ht : s.extract 1 3 = t) (hz : t.size = 2) (g0 : digB t[0] = true) (g1 : digB t[1] = true) (hr : s.extract 3 s.size = r) (hr2 : r.size = 2) (hlr : lead r.data.toList = 2) (u0 : digB r[0] = true) (u1 : digB r[1] = true) (w : World) :
    Calls Yba.prog 8 #[.string s] w fun e w' => e = .returned (.tuple #[zval s 3 neg (two t[0] t[1]) (two r[0] r[1]) ⟨#[]⟩, .bool true]) ∧ Below w.heap.size w w' := by
  have hne := empty_false hn
  have hqs : q.size ≤ maxLen := by rw [← hq]; simp; omega
  have hrs : r.size ≤ maxLen := by rw [← hr]; simp; omega
  have G0 : Hid (digB t[0] = true) := g0
  have G1 : Hid (digB t[1] = true) := g1
  have hd : decide ((lead q.data.toList : Int) < 2) = false := decide_eq_false (by omega)
  clear g0 g1 hl
  have hre := empty_false (s := r) (by omega)
  have U0 : Hid (digB r[0] = true) := u0
  have U1 : Hid (digB r[1] = true) := u1
  clear u0 u1
  unfold maxLen at hs
  rcases h1 with ⟨rfl, h1⟩ | ⟨rfl, h1⟩
  · go_enter Yba.func8, Yba.ntmps8
    go_wp2_with (first | (go_at_call_of 12 q; refine (leading_any q _ hqs).mono ?_; rintro e w' ⟨rfl, rfl⟩) | (go_at_call_of 13 t; refine (read_two t hz G0.out G1.out _).mono ?_; rintro e w' ⟨rfl, rfl⟩) | (go_at_call_of 12 r; refine (leading_any r _ hrs).mono ?_; rintro e w' ⟨rfl, rfl⟩) | (go_at_call_of 13 r; refine (read_two r hr2 U0.out U1.out _).mono ?_; rintro e w' ⟨rfl, rfl⟩))
    all_goals exact bodyPost_ret (v := .tuple #[zval s 3 false (two t[0] t[1]) (two r[0] r[1]) ⟨#[]⟩, .bool true]) (by simp [results, Yba.results8, go_sem]) rfl ⟨rfl, (Below.refl _ _).alloc (Nat.le_refl _) _⟩
  · go_enter Yba.func8, Yba.ntmps8
    go_wp2_with (first | (go_at_call_of 12 q; refine (leading_any q _ hqs).mono ?_; rintro e w' ⟨rfl, rfl⟩) | (go_at_call_of 13 t; refine (read_two t hz G0.out G1.out _).mono ?_; rintro e w' ⟨rfl, rfl⟩) | (go_at_call_of 12 r; refine (leading_any r _ hrs).mono ?_; rintro e w' ⟨rfl, rfl⟩) | (go_at_call_of 13 r; refine (read_two r hr2 U0.out U1.out _).mono ?_; rintro e w' ⟨rfl, rfl⟩))
    all_goals exact bodyPost_ret (v := .tuple #[zval s 3 true (two t[0] t[1]) (two r[0] r[1]) ⟨#[]⟩, .bool true]) (by simp [results, Yba.results8, go_sem]) rfl ⟨rfl, (Below.refl _ _).alloc (Nat.le_refl _) _⟩

end Go.Proofs.Ybulkcmju
