/-
  The contract of scanTime, a theorem a way into its loop. (TimeS)
-/
import Derived.Test.YbulkcmjuTime2
namespace Go.Proofs.Ybulkcmju
open Go.RowKit
set_option linter.unusedVariables false
attribute [local go_sem] idx51_0 idx51_1 idx51_2

set_option maxHeartbeats 3200000 in
set_option maxRecDepth 100000 in
theorem time_s (fb : Nat) (s : ByteArray) (h m sc : Int) (pf : ByteArray) (pu u1 u2 u3 : Int) (hu1 : (3600000000000 : Int) = u1) (hu2 : (60000000000 : Int) = u2) (hu3 : (1000000000 : Int) = u3) (hs : s.size ≤ 1024) (hl : (2 : Int) ≤ (lead s.data.toList : Int)) (lt3 : (s.size : Int) ≤ 2) (w : World) (hw : Ch fb w w (isoL h m sc pf pu)) :
    Calls Yba.prog 11 #[.pointer (some ⟨fb, 0, none⟩), .string s] w fun e w' => TPost 0 fb s m sc pf u1 u2 u3 w e w' := by
  have HW : Hid (Ch fb w w (isoL h m sc pf pu)) := hw
  clear hw
  skip
  go_enter Yba.func11, Yba.ntmps11
  go_wp2_with (go_at_call 12; refine (leading_any _ _ (by unfold maxLen; omega)).mono ?_; rintro e w9 ⟨rfl, hw9⟩; rw [hw9]; clear hw9 w9)
  go_quiet (fail)
  go_wp2
  go_loopw [4, 7, 8, 38] (fun a b c d wr => ∃ (k : Nat) (r : ByteArray) (cs : List Value), a = .string r ∧ d = .int .i64 k ∧ r.size ≤ 1024 ∧ k ≤ 3 ∧ Hid (St 0 s h m sc pf pu u1 u2 u3 k r cs ∧ Ch fb w wr cs)) (fun a b c d wr => 3 - (intOf d).toNat)
  case atStart => exact ⟨0, s, _, rfl, rfl, hs, by omega, .inl ⟨rfl, rfl, rfl⟩, HW.out.drewN _⟩
  case round =>
    obtain ⟨k, r, cs, rfl, rfl, hr, hk, HC⟩ := hrel
    rcases (show k = 0 ∨ k = 1 ∨ k = 2 ∨ k = 3 by omega) with rfl | rfl | rfl | rfl
    · obtain ⟨hst, hch⟩ := HC.out
      rcases hst with ⟨_, rfl, rfl⟩ | ⟨hx, _⟩ | ⟨hx, _⟩ | ⟨hx, _⟩
      rotate_left
      · omega
      · omega
      · omega
      have c3 : wr.cell? ⟨fb, 3, none⟩ = some (.int .i64 h) := hch.range 3 _ rfl
      have c12 : wr.cell? ⟨fb, 12, none⟩ = some (.int .i64 pu) := hch.range 12 _ rfl
      have f3 : wr.frozen? ⟨fb, 3, none⟩ = false := (hch.free 3 (by omega)).2
      have f12 : wr.frozen? ⟨fb, 12, none⟩ = false := (hch.free 12 (by omega)).2
      have hlt : fb < wr.heap.size := hch.lt
      have HL : Hid (2 ≤ lead r.data.toList) := (show 2 ≤ lead r.data.toList by omega)
      have hr2 : (2 : Int) ≤ (r.size : Int) := by have := lead_size r; omega
      have HCH : Hid (Ch fb w wr (isoL h m sc pf pu)) := hch
      clear hch HC
      go_wp2
      go_region_with (go_at_call 13; refine (rd2 r _ rfl HL.out _).mono ?_; rintro e w9 ⟨rfl, hw9⟩; rw [hw9]; clear hw9 w9)
      all_goals go_wp2
      all_goals exact ⟨⟨1, _, isoL (two (ch r 0) (ch r 1)) m sc pf u1, rfl, by go_num, by simp; omega, by omega, .inr (.inl ⟨rfl, rfl, by omega, rfl⟩), by repeat (first | exact ((HCH.out.set 3 (by omega) _).set 12 (by omega) _).alloc _ | apply Ch.drew | apply Ch.drewN)⟩, by simp [intOf]⟩
    · obtain ⟨hst, hch⟩ := HC.out
      rcases hst with ⟨hx, _⟩ | ⟨_, HR, hsz, rfl⟩ | ⟨hx, _⟩ | ⟨hx, _⟩
      · omega
      rotate_left
      · omega
      · omega
      have hr9 : Hid (r = s.extract 2 s.size) := HR
      skip
      clear HR
      have c4 : wr.cell? ⟨fb, 4, none⟩ = some (.int .i64 m) := hch.range 4 _ rfl
      have c11 : wr.cell? ⟨fb, 11, none⟩ = some (.string pf) := hch.range 11 _ rfl
      have c12 : wr.cell? ⟨fb, 12, none⟩ = some (.int .i64 u1) := hch.range 12 _ rfl
      have f4 : wr.frozen? ⟨fb, 4, none⟩ = false := (hch.free 4 (by omega)).2
      have f11 : wr.frozen? ⟨fb, 11, none⟩ = false := (hch.free 11 (by omega)).2
      have f12 : wr.frozen? ⟨fb, 12, none⟩ = false := (hch.free 12 (by omega)).2
      have hlt : fb < wr.heap.size := hch.lt
      have HCH : Hid (Ch fb w wr (isoL (two (ch s 0) (ch s 1)) m sc pf u1)) := hch
      clear hch HC
      have HR1 : Hid (r = s.extract 2 s.size) := hr9
      have hls : r.size ≤ maxLen := by unfold maxLen; omega
      have hz0 : r.size = 0 := by rw [hr9.out, tail_size]; omega
      have hz1 := lead_size r
      have HNL : Hid (¬ 2 ≤ lead r.data.toList) := (show ¬ 2 ≤ lead r.data.toList by omega)
      have hle2 : (lead r.data.toList : Int) < 2 := by omega
      have he : r.toList.isEmpty = true := emp_t hz0
      have SEP : Hid (¬ Sep r 0) := sep_end r 0 (by omega)
      clear hz0 hz1
      go_wp2_with (first | (go_at_call 17; refine (pre_nil r hr _).mono ?_; rintro e w9 ⟨rfl, hw9⟩; rw [hw9]; clear hw9 w9) | (go_at_call_of 12 r; refine (leading_any r _ hls).mono ?_; rintro e w9 ⟨rfl, hw9⟩; rw [hw9]; clear hw9 w9))
      all_goals exact bodyPost_ret (v := .tuple #[.string r, .bool true]) (by simp [results, Yba.results11, go_sem]) rfl ⟨2, _, _, _, _, _, _, clk_1 (e := 0) m sc u1 u2 u3 HR1.out HNL.out, fin_no pf _ _ _ _ hr9.out (SEP.out), rfl, by repeat (first | exact HCH.out.alloc _ | apply Ch.drew | apply Ch.drewN)⟩
    · obtain ⟨hst, hch⟩ := HC.out
      rcases hst with ⟨hx, _⟩ | ⟨hx, _⟩ | ⟨_, _, hsz, _⟩ | ⟨hx, _⟩ <;> omega
    · obtain ⟨hst, hch⟩ := HC.out
      rcases hst with ⟨hx, _⟩ | ⟨hx, _⟩ | ⟨hx, _⟩ | ⟨_, _, hsz, _⟩ <;> omega
end Go.Proofs.Ybulkcmju
