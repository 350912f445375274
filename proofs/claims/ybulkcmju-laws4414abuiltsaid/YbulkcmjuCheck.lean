/-
  zzs4414acheck returns true.
-/
import Derived.Test.YbulkcmjuTimeN
import Derived.Test.YbulkcmjuTimeX
import Derived.Test.YbulkcmjuTimeS
import Derived.Test.YbulkcmjuExpAny
import Derived.Laws.StructEq
import Derived.Test.YbulkcmjuFold
namespace Go.Proofs.Ybulkcmju
open Go.RowKit
set_option linter.unusedVariables false

set_option maxHeartbeats 1600000 in
theorem time_b (fb : Nat) (s : ByteArray) (hs : s.size ≤ 1024) (hl : (lead s.data.toList : Int) < 2) (w : World) :
    Calls Yba.prog 11 #[.pointer (some ⟨fb, 0, none⟩), .string s] w fun e w' => e = .returned (.tuple #[.string ⟨#[]⟩, .bool false]) ∧ w' = w := by
  go_enter Yba.func11, Yba.ntmps11
  go_wp2_with (go_at_call 12; refine (leading_any _ _ (by unfold maxLen; omega)).mono ?_; rintro e w9 ⟨rfl, hw9⟩; rw [hw9]; clear hw9 w9)
  exact bodyPost_ret (v := .tuple #[.string ⟨#[]⟩, .bool false]) (by simp [results, Yba.results11, go_sem]) rfl ⟨rfl, rfl⟩

theorem d2_zero (s : ByteArray) : D2 s 0 ↔ 2 ≤ lead s.data.toList := by
  rw [lead_ch]
  unfold D2
  constructor
  · intro ⟨h0, h1⟩ j hj
    rcases (show j = 0 ∨ j = 1 by omega) with rfl | rfl
    · exact h0
    · exact h1
  · intro h
    exact ⟨h 0 (by omega), h 1 (by omega)⟩

theorem time_any (fb : Nat) (s : ByteArray) (h m sc : Int) (pf : ByteArray) (pu u1 u2 u3 : Int) (hu1 : (3600000000000 : Int) = u1) (hu2 : (60000000000 : Int) = u2) (hu3 : (1000000000 : Int) = u3) (hs : s.size ≤ 1024) (w : World) (hw : Ch fb w w (isoL h m sc pf pu)) :
    Calls Yba.prog 11 #[.pointer (some ⟨fb, 0, none⟩), .string s] w fun e w' => ∃ c r ok, APost s h m sc pf pu u1 u2 u3 c r ok ∧ e = .returned (.tuple #[.string r, .bool ok]) ∧ Ch fb w w' c := by
  by_cases hl : 2 ≤ lead s.data.toList
  rotate_left
  · refine (time_b fb s hs (by omega) w).mono ?_
    rintro e w' ⟨rfl, rfl⟩
    exact ⟨_, _, _, .inl ⟨fun k => hl ((d2_zero s).1 k), rfl, rfl, rfl⟩, rfl, hw⟩
  have hD := (d2_zero s).2 hl
  have fin : ∀ e x w', sepW s = e → TPost e fb s m sc pf u1 u2 u3 w x w' → ∃ c r ok, APost s h m sc pf pu u1 u2 u3 c r ok ∧ x = .returned (.tuple #[.string r, .bool ok]) ∧ Ch fb w w' c := by
    rintro e x w' rfl ⟨p, m', sc', u', cs, rest, ok, a, b, c, d⟩
    exact ⟨cs, rest, ok, .inr ⟨hD, p, m', sc', u', a, b⟩, c, d⟩
  by_cases h58 : (ch s 2).toNat = 58
  · have z3 : 2 < s.size := by
      by_cases q : 2 < s.size
      · exact q
      · rw [ch_end s 2 (by omega)] at h58; cases h58
    have x58 : ((s[2].toNat : Int) == 58) = true := by rw [ch_get s 2 z3]; simpa using (show ((ch s 2).toNat : Int) = 58 by omega)
    exact (time_x fb s h m sc pf pu u1 u2 u3 hu1 hu2 hu3 hs (by omega) (by omega) x58 w hw).mono (fin 1 · · (if_pos h58))
  · by_cases z3 : s.size ≤ 2
    · exact (time_s fb s h m sc pf pu u1 u2 u3 hu1 hu2 hu3 hs (by omega) (by omega) w hw).mono (fin 0 · · (if_neg h58))
    have z3 : 2 < s.size := by omega
    have n58 : ((s[2].toNat : Int) == 58) = false := by rw [ch_get s 2 z3]; simpa using (show ¬ ((ch s 2).toNat : Int) = 58 by omega)
    exact (time_n fb s h m sc pf pu u1 u2 u3 hu1 hu2 hu3 hs (by omega) (by omega) n58 w hw).mono (fin 0 · · (if_neg h58))

theorem APost.iso {s : ByteArray} {ph pm ps : Int} {pf : ByteArray} {pu u1 u2 u3 : Int} {c : List Value} {r : ByteArray} {ok : Bool} (a : APost s ph pm ps pf pu u1 u2 u3 c r ok) : ∃ h m sc fr u, c = isoL h m sc fr u := by
  rcases a with ⟨_, rfl, _⟩ | ⟨_, p, m, sc, u, _, f⟩
  · exact ⟨_, _, _, _, _, rfl⟩
  · rcases f with ⟨q, fr, _, rfl, _⟩ | ⟨_, rfl, _⟩
    · exact ⟨_, _, _, _, _, rfl⟩
    · exact ⟨_, _, _, _, _, rfl⟩
theorem ch_of {W : World} {b : Nat} {h m sc : Int} {fr : ByteArray} {u : Int} (hb : W.heap[b]? = some (.cells (isoL h m sc fr u).toArray 38 (0, 0))) : Ch b W W (isoL h m sc fr u) := by
  refine ⟨rfl, rfl, rfl, Nat.le_refl _, fun _ _ _ => rfl, ?_, ?_, ?_⟩
  · have := range_of W b _ _ _ hb
    simpa using this
  · have := there_of W b _ _ hb
    exact this
  · by_cases q : b < W.heap.size
    · exact q
    · rw [Array.getElem?_eq_none (by omega)] at hb; cases hb
theorem Ch.toBelow {b : Nat} {w0 W : World} {cs : List Value} (h : Ch b w0 W cs) (B : Nat) (hB : B ≤ b) (hs : B ≤ w0.heap.size) : Below B w0 W :=
  ⟨h.os, h.tape, h.output, h.size, fun k hk => h.block k (by omega) (by omega)⟩
theorem eq38 (h m s : Int) (fr : ByteArray) (u : Int) (w : World) : (binOp .eql 38 (.agg #[(.int .i64 7), (.int .i64 3), (.int .i64 4), (.int .i64 h), (.int .i64 m), (.int .i64 s), (.string ⟨#[50, 48, 50, 54]⟩), (.int .i64 2), (.int .i64 5), (.int .i64 6), (.int .i64 2), (.string fr), (.int .i64 u), (.string ⟨#[90]⟩), (.int .i64 0), (.bool false), (.int .i64 0), (.int .i64 0), (.string ⟨#[]⟩)]) (.agg #[(.int .i64 7), (.int .i64 3), (.int .i64 4), (.int .i64 h), (.int .i64 m), (.int .i64 s), (.string ⟨#[50, 48, 50, 54]⟩), (.int .i64 2), (.int .i64 5), (.int .i64 6), (.int .i64 2), (.string fr), (.int .i64 u), (.string ⟨#[90]⟩), (.int .i64 0), (.bool false), (.int .i64 0), (.int .i64 0), (.string ⟨#[]⟩)])).run Yba.prog w = .ok (.bool true) w := by
  simp [go_sem]
attribute [local go_sem] eq38 ld38_at st38_at iso_lit fold38 Wrt_one Has_one isoAt_one
attribute [local go_sem ↓] exec_load38 exec_store38

set_option maxHeartbeats 3200000 in
set_option maxRecDepth 100000 in
theorem check_any (s : ByteArray) (ph pm ps : Int) (pf : ByteArray) (pu u1 u2 u3 : Int) (hu1 : (3600000000000 : Int) = u1) (hu2 : (60000000000 : Int) = u2) (hu3 : (1000000000 : Int) = u3) (hs : s.size ≤ 1024) (w : World) :
    Calls Yba.prog 7 #[.string s, .int .i64 ph, .int .i64 pm, .int .i64 ps, .string pf, .int .i64 pu] w fun e w' => e = .returned (.bool true) ∧ Below w.heap.size w w' := by
  have HB : Hid (Calls Yba.prog 10 #[.string s, .agg #[(.int .i64 7), (.int .i64 3), (.int .i64 4), (.int .i64 ph), (.int .i64 pm), (.int .i64 ps), (.string ⟨#[50, 48, 50, 54]⟩), (.int .i64 2), (.int .i64 5), (.int .i64 6), (.int .i64 2), (.string pf), (.int .i64 pu), (.string ⟨#[90]⟩), (.int .i64 0), (.bool false), (.int .i64 0), (.int .i64 0), (.string ⟨#[]⟩)]] (w.alloc (.cells #[(.int .i64 7), (.int .i64 3), (.int .i64 4), (.int .i64 ph), (.int .i64 pm), (.int .i64 ps), (.string ⟨#[50, 48, 50, 54]⟩), (.int .i64 2), (.int .i64 5), (.int .i64 6), (.int .i64 2), (.string pf), (.int .i64 pu), (.string ⟨#[90]⟩), (.int .i64 0), (.bool false), (.int .i64 0), (.int .i64 0), (.string ⟨#[]⟩)] 38)) fun x w' => ∃ h m s' f u r ok, x = .returned (.tuple #[.agg #[(.int .i64 7), (.int .i64 3), (.int .i64 4), (.int .i64 h), (.int .i64 m), (.int .i64 s'), (.string ⟨#[50, 48, 50, 54]⟩), (.int .i64 2), (.int .i64 5), (.int .i64 6), (.int .i64 2), (.string f), (.int .i64 u), (.string ⟨#[90]⟩), (.int .i64 0), (.bool false), (.int .i64 0), (.int .i64 0), (.string ⟨#[]⟩)], .string r, .bool ok]) ∧ Hid (APost s ph pm ps pf pu u1 u2 u3 (isoL h m s' f u) r ok ∧ Below (w.heap.size + 1) (w.alloc (.cells #[(.int .i64 7), (.int .i64 3), (.int .i64 4), (.int .i64 ph), (.int .i64 pm), (.int .i64 ps), (.string ⟨#[50, 48, 50, 54]⟩), (.int .i64 2), (.int .i64 5), (.int .i64 6), (.int .i64 2), (.string pf), (.int .i64 pu), (.string ⟨#[90]⟩), (.int .i64 0), (.bool false), (.int .i64 0), (.int .i64 0), (.string ⟨#[]⟩)] 38)) w')) := by
    refine (exp_any s ph pm ps pf pu u1 u2 u3 hu1 hu2 hu3 hs _).mono ?_
    rintro x w' ⟨⟨c, r, ok, hA, rfl⟩, hb⟩
    obtain ⟨h, m, sc, fr, u, rfl⟩ := hA.iso
    simp only [World.size_alloc] at hb
    exact ⟨h, m, sc, fr, u, r, ok, rfl, hA, hb⟩
  have HT : Hid (∀ W, Ch w.heap.size W W (isoL ph pm ps pf pu) → Calls Yba.prog 11 #[.pointer (some ⟨w.heap.size, 0, none⟩), .string s] W fun e w' => ∃ c r ok, APost s ph pm ps pf pu u1 u2 u3 c r ok ∧ e = .returned (.tuple #[.string r, .bool ok]) ∧ Ch w.heap.size W w' c) := fun W h => time_any w.heap.size s ph pm ps pf pu u1 u2 u3 hu1 hu2 hu3 hs W h
  clear hu1 hu2 hu3
  go_enter Yba.func7, Yba.ntmps7
  go_wp2_with fail
  refine HB.out.mono ?_
  clear HB
  rintro x w1 ⟨h, m, s', f, u, r, ok, rfl, HA⟩
  have hsz : w.heap.size < w1.heap.size := by have := HA.out.2.size; simp at this; omega
  go_wp2_with fail
  have hb1 : w1.heap[w.heap.size]? = some (.cells (isoL ph pm ps pf pu).toArray 38 (0, 0)) := by
    rw [HA.out.2.block w.heap.size (by omega)]
    exact heap_alloc_new w _
  refine (HT.out _ (ch_of (by rw [Below.heap_alloc _ _ _ hsz]; exact hb1))).mono ?_
  clear HT
  rintro x w3 ⟨c2, r2, ok2, hA2, rfl, hC⟩
  obtain ⟨rfl, rfl, rfl⟩ := post_one HA.out.1 hA2
  have hbW : w3.heap[w1.heap.size]? = some (.cells #[(.int .i64 7), (.int .i64 3), (.int .i64 4), (.int .i64 h), (.int .i64 m), (.int .i64 s'), (.string ⟨#[50, 48, 50, 54]⟩), (.int .i64 2), (.int .i64 5), (.int .i64 6), (.int .i64 2), (.string f), (.int .i64 u), (.string ⟨#[90]⟩), (.int .i64 0), (.bool false), (.int .i64 0), (.int .i64 0), (.string ⟨#[]⟩)] 38 (0, 0)) := by
    rw [hC.block w1.heap.size (by simp) (by omega)]
    exact heap_alloc_new w1 _
  have HBEL : Hid (Below w.heap.size w w3) := (((Below.refl _ _).alloc (Nat.le_refl _) _).trans (HA.out.2.mono (by omega))).trans (((Below.refl _ _).alloc (by omega) _).trans (hC.toBelow w.heap.size (Nat.le_refl _) (by simp; omega)))
  have hF : isoAt w3 w.heap.size = #[(.int .i64 7), (.int .i64 3), (.int .i64 4), (.int .i64 h), (.int .i64 m), (.int .i64 s'), (.string ⟨#[50, 48, 50, 54]⟩), (.int .i64 2), (.int .i64 5), (.int .i64 6), (.int .i64 2), (.string f), (.int .i64 u), (.string ⟨#[90]⟩), (.int .i64 0), (.bool false), (.int .i64 0), (.int .i64 0), (.string ⟨#[]⟩)] ∧ Has w3 w.heap.size := isoAt_of rfl hC.range
  have hG : isoAt w3 w1.heap.size = #[(.int .i64 7), (.int .i64 3), (.int .i64 4), (.int .i64 h), (.int .i64 m), (.int .i64 s'), (.string ⟨#[50, 48, 50, 54]⟩), (.int .i64 2), (.int .i64 5), (.int .i64 6), (.int .i64 2), (.string f), (.int .i64 u), (.string ⟨#[90]⟩), (.int .i64 0), (.bool false), (.int .i64 0), (.int .i64 0), (.string ⟨#[]⟩)] ∧ Has w3 w1.heap.size := by
    have := range_of w3 w1.heap.size _ _ _ hbW
    exact isoAt_of rfl this
  obtain ⟨hF1, hF2⟩ := hF
  obtain ⟨hG1, hG2⟩ := hG
  clear hb1 hbW hC hA2 HA
  go_wp2
  go_ret
  exact ⟨rfl, HBEL.out⟩

end Go.Proofs.Ybulkcmju
