/-
  The contract of scanTime, a theorem a way into its loop. (TimeX)
-/
import Derived.Test.YbulkcmjuTime2
namespace Go.Proofs.Ybulkcmju
open Go.RowKit
set_option linter.unusedVariables false
attribute [local go_sem] idx51_0 idx51_1 idx51_2

set_option maxHeartbeats 3200000 in
set_option maxRecDepth 100000 in
theorem time_x (fb : Nat) (s : ByteArray) (h m sc : Int) (pf : ByteArray) (pu u1 u2 u3 : Int) (hu1 : (3600000000000 : Int) = u1) (hu2 : (60000000000 : Int) = u2) (hu3 : (1000000000 : Int) = u3) (hs : s.size ≤ 1024) (hl : (2 : Int) ≤ (lead s.data.toList : Int)) (gt2 : (2 : Int) < s.size) (x58 : ((s[2].toNat : Int) == 58) = true) (w : World) (hw : Ch fb w w (isoL h m sc pf pu)) :
    Calls Yba.prog 11 #[.pointer (some ⟨fb, 0, none⟩), .string s] w fun e w' => TPost 1 fb s m sc pf u1 u2 u3 w e w' := by
  have HW : Hid (Ch fb w w (isoL h m sc pf pu)) := hw
  clear hw
  have HX : Hid ((ch s 2).toNat = 58) := (show (ch s 2).toNat = 58 by rw [← ch_get s 2 (by omega)]; simp at x58; omega)
  go_enter Yba.func11, Yba.ntmps11
  go_wp2_with (go_at_call 12; refine (leading_any _ _ (by unfold maxLen; omega)).mono ?_; rintro e w9 ⟨rfl, hw9⟩; rw [hw9]; clear hw9 w9)
  go_quiet (fail)
  go_wp2
  go_loopw [4, 7, 8, 38] (fun a b c d wr => ∃ (k : Nat) (r : ByteArray) (cs : List Value), a = .string r ∧ d = .int .i64 k ∧ r.size ≤ 1024 ∧ k ≤ 3 ∧ Hid (St 1 s h m sc pf pu u1 u2 u3 k r cs ∧ Ch fb w wr cs)) (fun a b c d wr => 3 - (intOf d).toNat)
  case atStart => exact ⟨0, s, _, rfl, rfl, hs, by omega, .inl ⟨rfl, rfl, rfl⟩, HW.out.drewN _⟩
  case round =>
    obtain ⟨k, r, cs, rfl, rfl, hr, hk, HC⟩ := hrel
    rcases (show k = 0 ∨ k = 1 ∨ k = 2 ∨ k = 3 by omega) with rfl | rfl | rfl | rfl
    · obtain ⟨hst, hch⟩ := HC.out
      rcases hst with ⟨_, rfl, rfl⟩ | ⟨hx, _⟩ | ⟨hx, _⟩ | ⟨hx, _⟩
      rotate_left
      · omega
      · omega
      · omega
      have c3 : wr.cell? ⟨fb, 3, none⟩ = some (.int .i64 h) := hch.range 3 _ rfl
      have c12 : wr.cell? ⟨fb, 12, none⟩ = some (.int .i64 pu) := hch.range 12 _ rfl
      have f3 : wr.frozen? ⟨fb, 3, none⟩ = false := (hch.free 3 (by omega)).2
      have f12 : wr.frozen? ⟨fb, 12, none⟩ = false := (hch.free 12 (by omega)).2
      have hlt : fb < wr.heap.size := hch.lt
      have HL : Hid (2 ≤ lead r.data.toList) := (show 2 ≤ lead r.data.toList by omega)
      have hr2 : (2 : Int) ≤ (r.size : Int) := by have := lead_size r; omega
      have HCH : Hid (Ch fb w wr (isoL h m sc pf pu)) := hch
      clear hch HC
      go_wp2
      go_region_with (go_at_call 13; refine (rd2 r _ rfl HL.out _).mono ?_; rintro e w9 ⟨rfl, hw9⟩; rw [hw9]; clear hw9 w9)
      all_goals go_wp2
      all_goals exact ⟨⟨1, _, isoL (two (ch r 0) (ch r 1)) m sc pf u1, rfl, by go_num, by simp; omega, by omega, .inr (.inl ⟨rfl, rfl, by omega, rfl⟩), by repeat (first | exact ((HCH.out.set 3 (by omega) _).set 12 (by omega) _).alloc _ | apply Ch.drew | apply Ch.drewN)⟩, by simp [intOf]⟩
    · obtain ⟨hst, hch⟩ := HC.out
      rcases hst with ⟨hx, _⟩ | ⟨_, HR, hsz, rfl⟩ | ⟨hx, _⟩ | ⟨hx, _⟩
      · omega
      rotate_left
      · omega
      · omega
      have hr9 : Hid (r = s.extract 2 s.size) := HR
      skip
      clear HR
      have c4 : wr.cell? ⟨fb, 4, none⟩ = some (.int .i64 m) := hch.range 4 _ rfl
      have c11 : wr.cell? ⟨fb, 11, none⟩ = some (.string pf) := hch.range 11 _ rfl
      have c12 : wr.cell? ⟨fb, 12, none⟩ = some (.int .i64 u1) := hch.range 12 _ rfl
      have f4 : wr.frozen? ⟨fb, 4, none⟩ = false := (hch.free 4 (by omega)).2
      have f11 : wr.frozen? ⟨fb, 11, none⟩ = false := (hch.free 11 (by omega)).2
      have f12 : wr.frozen? ⟨fb, 12, none⟩ = false := (hch.free 12 (by omega)).2
      have hlt : fb < wr.heap.size := hch.lt
      have HCH : Hid (Ch fb w wr (isoL (two (ch s 0) (ch s 1)) m sc pf u1)) := hch
      clear hch HC
      have HP : Hid ((ch r 0).toNat = 58) := (show (ch r 0).toNat = 58 by rw [hr9.out, tail_ch]; exact HX.out)
      have hp : decide ((ch r 0).toNat = 58) = true := decide_eq_true HP.out
      have hr1 : (1 : Int) ≤ (r.size : Int) := by
        have hz : (ch r 0).toNat = 58 := of_decide_eq_true hp
        by_cases q : 0 < r.size
        · omega
        · rw [ch_end r 0 (by omega)] at hz; cases hz
      obtain ⟨r1, h1⟩ : ∃ r1, r.extract 1 r.size = r1 := ⟨_, rfl⟩
      have hr1s : r1.size ≤ 1024 := by rw [← h1]; simp; omega
      have HR1 : Hid (r1 = s.extract 3 s.size) := (show r1 = s.extract 3 s.size by rw [← h1, hr9.out, tail_tail])
      have hls : r1.size ≤ maxLen := by unfold maxLen; omega
      by_cases hle : 2 ≤ lead r1.data.toList
      · have HL : Hid (2 ≤ lead r1.data.toList) := hle
        have hr2 : (2 : Int) ≤ (r1.size : Int) := by have := lead_size r1; omega
        have hle2 : (2 : Int) ≤ (lead r1.data.toList : Int) := by omega
        clear hle
        go_wp2_with (first | (go_at_call 17; refine (pre_col r hr _).mono ?_; rintro e w9 ⟨rfl, hw9⟩; rw [hw9]; clear hw9 w9) | (go_at_call_of 12 r1; refine (leading_any r1 _ hls).mono ?_; rintro e w9 ⟨rfl, hw9⟩; rw [hw9]; clear hw9 w9))
        go_region_with (go_at_call 13; refine (rd2 r1 _ rfl HL.out _).mono ?_; rintro e w9 ⟨rfl, hw9⟩; rw [hw9]; clear hw9 w9)
        all_goals go_wp2
        all_goals exact ⟨⟨2, _, isoL (two (ch s 0) (ch s 1)) (two (ch r1 0) (ch r1 1)) sc pf u2, rfl, by go_num, by simp; omega, by omega, st_2 (e := 1) h m sc pf pu u1 u2 u3 HR1.out HL.out, by repeat (first | exact ((HCH.out.set 4 (by omega) _).set 12 (by omega) _).alloc _ | apply Ch.drew | apply Ch.drewN)⟩, by simp [intOf]⟩
      · have HNL : Hid (¬ 2 ≤ lead r1.data.toList) := hle
        have hle2 : (lead r1.data.toList : Int) < 2 := by omega
        clear hle
        by_cases z : ¬ 0 < r.size
        · have he : r.toList.isEmpty = true := emp_t (by omega)
          have SEP : Hid (¬ Sep r 0) := sep_end r 0 (by omega)
          clear z
          go_wp2_with (first | (go_at_call 17; refine (pre_col r hr _).mono ?_; rintro e w9 ⟨rfl, hw9⟩; rw [hw9]; clear hw9 w9) | (go_at_call_of 12 r1; refine (leading_any r1 _ hls).mono ?_; rintro e w9 ⟨rfl, hw9⟩; rw [hw9]; clear hw9 w9))
          all_goals exact bodyPost_ret (v := .tuple #[.string r, .bool true]) (by simp [results, Yba.results11, go_sem]) rfl ⟨2, _, _, _, _, _, _, clk_1 (e := 1) m sc u1 u2 u3 HR1.out HNL.out, fin_no pf _ _ _ _ hr9.out (SEP.out), rfl, by repeat (first | exact HCH.out.alloc _ | apply Ch.drew | apply Ch.drewN)⟩
        · have he : r.toList.isEmpty = false := emp_f (by omega)
          have z0 : (0 : Int) < (r.size : Int) := by omega
          have z1 : 0 < r.size := by omega
          by_cases k44 : ((r[0].toNat : Int) == 44) = true
          ·
            have SEP : Hid (Sep r 0) := sep_of r 0 (by omega) (.inl k44)
            obtain ⟨q, hq⟩ : ∃ q, r.extract 1 r.size = q := ⟨_, rfl⟩
            have hqs : q.size ≤ maxLen := by rw [← hq]; unfold maxLen; simp; omega
            have hqz : q.size = r.size - 1 := by rw [← hq]; simp
            have HQ : Hid (r.extract 1 r.size = q) := hq
            have hnz := lead_size q
            obtain ⟨n, hn⟩ : ∃ n, lead q.data.toList = n := ⟨_, rfl⟩
            have HN : Hid (lead (r.extract 1 r.size).data.toList = n) := (show lead (r.extract 1 r.size).data.toList = n by rw [hq]; exact hn)
            have e1 : q = r1 := hq.symm.trans h1
            subst e1
            clear h1
            have hle3 : (n : Int) < 2 := by rw [← hn]; exact hle2
            clear hle2
            rw [hn] at hnz
            have b2 : (1 : Int) + (n : Int) ≤ (r.size : Int) := by omega
            clear hqz hnz
            by_cases hn0 : n = 0
            · subst hn0
              go_wp2_with (first | (go_at_call 17; refine (pre_col r hr _).mono ?_; rintro e w9 ⟨rfl, hw9⟩; rw [hw9]; clear hw9 w9) | (go_at_call_of 12 q; refine (leading_any q _ hqs).mono ?_; rintro e w9 ⟨rfl, hw9⟩; rw [hw9]; clear hw9 w9))
              all_goals exact bodyPost_ret (v := .tuple #[.string ⟨#[]⟩, .bool false]) (by simp [results, Yba.results11, go_sem]) rfl ⟨2, _, _, _, _, _, _, clk_1 (e := 1) m sc u1 u2 u3 HR1.out HNL.out, fin_bad pf _ _ _ _ hr9.out SEP.out HN.out, rfl, by repeat (first | exact HCH.out.alloc _ | apply Ch.drew | apply Ch.drewN)⟩
            · have hn1 : ((n : Int) == 0) = false := by simpa using (show ¬ (n : Int) = 0 by omega)
              have b1 : (1 : Int) ≤ (1 : Int) + (n : Int) := by omega
              have b0 : (0 : Int) ≤ (n : Int) := by omega
              go_wp2_with (first | (go_at_call 17; refine (pre_col r hr _).mono ?_; rintro e w9 ⟨rfl, hw9⟩; rw [hw9]; clear hw9 w9) | (go_at_call_of 12 q; refine (leading_any q _ hqs).mono ?_; rintro e w9 ⟨rfl, hw9⟩; rw [hw9]; clear hw9 w9))
              all_goals exact bodyPost_ret (v := .tuple #[.string (r.extract (1 + n) r.size), .bool true]) (by simp [results, Yba.results11, go_sem]) rfl ⟨2, _, _, _, isoL _ _ _ (r.extract 1 (1 + n)) _, r.extract (1 + n) r.size, true, clk_1 (e := 1) m sc u1 u2 u3 HR1.out HNL.out, fin_yes pf _ _ _ _ hr9.out SEP.out HN.out (by omega), rfl, by repeat (first | exact (HCH.out.set 11 (by omega) _).alloc _ | apply Ch.drew | apply Ch.drewN)⟩
          have k44f : ((r[0].toNat : Int) == 44) = false := by simpa using k44
          clear k44
          by_cases k46 : ((r[0].toNat : Int) == 46) = true
          ·
            have SEP : Hid (Sep r 0) := sep_of r 0 (by omega) (.inr k46)
            obtain ⟨q, hq⟩ : ∃ q, r.extract 1 r.size = q := ⟨_, rfl⟩
            have hqs : q.size ≤ maxLen := by rw [← hq]; unfold maxLen; simp; omega
            have hqz : q.size = r.size - 1 := by rw [← hq]; simp
            have HQ : Hid (r.extract 1 r.size = q) := hq
            have hnz := lead_size q
            obtain ⟨n, hn⟩ : ∃ n, lead q.data.toList = n := ⟨_, rfl⟩
            have HN : Hid (lead (r.extract 1 r.size).data.toList = n) := (show lead (r.extract 1 r.size).data.toList = n by rw [hq]; exact hn)
            have e1 : q = r1 := hq.symm.trans h1
            subst e1
            clear h1
            have hle3 : (n : Int) < 2 := by rw [← hn]; exact hle2
            clear hle2
            rw [hn] at hnz
            have b2 : (1 : Int) + (n : Int) ≤ (r.size : Int) := by omega
            clear hqz hnz
            by_cases hn0 : n = 0
            · subst hn0
              go_wp2_with (first | (go_at_call 17; refine (pre_col r hr _).mono ?_; rintro e w9 ⟨rfl, hw9⟩; rw [hw9]; clear hw9 w9) | (go_at_call_of 12 q; refine (leading_any q _ hqs).mono ?_; rintro e w9 ⟨rfl, hw9⟩; rw [hw9]; clear hw9 w9))
              all_goals exact bodyPost_ret (v := .tuple #[.string ⟨#[]⟩, .bool false]) (by simp [results, Yba.results11, go_sem]) rfl ⟨2, _, _, _, _, _, _, clk_1 (e := 1) m sc u1 u2 u3 HR1.out HNL.out, fin_bad pf _ _ _ _ hr9.out SEP.out HN.out, rfl, by repeat (first | exact HCH.out.alloc _ | apply Ch.drew | apply Ch.drewN)⟩
            · have hn1 : ((n : Int) == 0) = false := by simpa using (show ¬ (n : Int) = 0 by omega)
              have b1 : (1 : Int) ≤ (1 : Int) + (n : Int) := by omega
              have b0 : (0 : Int) ≤ (n : Int) := by omega
              go_wp2_with (first | (go_at_call 17; refine (pre_col r hr _).mono ?_; rintro e w9 ⟨rfl, hw9⟩; rw [hw9]; clear hw9 w9) | (go_at_call_of 12 q; refine (leading_any q _ hqs).mono ?_; rintro e w9 ⟨rfl, hw9⟩; rw [hw9]; clear hw9 w9))
              all_goals exact bodyPost_ret (v := .tuple #[.string (r.extract (1 + n) r.size), .bool true]) (by simp [results, Yba.results11, go_sem]) rfl ⟨2, _, _, _, isoL _ _ _ (r.extract 1 (1 + n)) _, r.extract (1 + n) r.size, true, clk_1 (e := 1) m sc u1 u2 u3 HR1.out HNL.out, fin_yes pf _ _ _ _ hr9.out SEP.out HN.out (by omega), rfl, by repeat (first | exact (HCH.out.set 11 (by omega) _).alloc _ | apply Ch.drew | apply Ch.drewN)⟩
          have k46f : ((r[0].toNat : Int) == 46) = false := by simpa using k46
          clear k46
          have SEP : Hid (¬ Sep r 0) := sep_no r 0 (by omega) ⟨k44f, k46f⟩
          go_wp2_with (first | (go_at_call 17; refine (pre_col r hr _).mono ?_; rintro e w9 ⟨rfl, hw9⟩; rw [hw9]; clear hw9 w9) | (go_at_call_of 12 r1; refine (leading_any r1 _ hls).mono ?_; rintro e w9 ⟨rfl, hw9⟩; rw [hw9]; clear hw9 w9))
          all_goals exact bodyPost_ret (v := .tuple #[.string r, .bool true]) (by simp [results, Yba.results11, go_sem]) rfl ⟨2, _, _, _, _, _, _, clk_1 (e := 1) m sc u1 u2 u3 HR1.out HNL.out, fin_no pf _ _ _ _ hr9.out (SEP.out), rfl, by repeat (first | exact HCH.out.alloc _ | apply Ch.drew | apply Ch.drewN)⟩
    · obtain ⟨hst, hch⟩ := HC.out
      rcases hst with ⟨hx, _⟩ | ⟨hx, _⟩ | ⟨_, HR, hsz, hD, rfl⟩ | ⟨hx, _⟩
      · omega
      · omega
      rotate_left
      · omega
      have hr9 : Hid (r = s.extract 5 s.size) := HR
      have HD : Hid (D2 s 3) := hD
      clear HR hD
      have c4 : wr.cell? ⟨fb, 5, none⟩ = some (.int .i64 sc) := hch.range 5 _ rfl
      have c11 : wr.cell? ⟨fb, 11, none⟩ = some (.string pf) := hch.range 11 _ rfl
      have c12 : wr.cell? ⟨fb, 12, none⟩ = some (.int .i64 u2) := hch.range 12 _ rfl
      have f4 : wr.frozen? ⟨fb, 5, none⟩ = false := (hch.free 5 (by omega)).2
      have f11 : wr.frozen? ⟨fb, 11, none⟩ = false := (hch.free 11 (by omega)).2
      have f12 : wr.frozen? ⟨fb, 12, none⟩ = false := (hch.free 12 (by omega)).2
      have hlt : fb < wr.heap.size := hch.lt
      have HCH : Hid (Ch fb w wr (isoL (two (ch s 0) (ch s 1)) (two (ch s 3) (ch s 4)) sc pf u2)) := hch
      clear hch HC
      by_cases hpp : (ch r 0).toNat = 58
      rotate_left
      · have hp : decide ((ch r 0).toNat = 58) = false := decide_eq_false hpp
        have HNP : Hid (¬ (ch s 5).toNat = 58) := (show ¬ (ch s 5).toNat = 58 by rw [hr9.out, tail_ch] at hpp; exact hpp)
        clear hpp
        by_cases z : ¬ 0 < r.size
        · have he : r.toList.isEmpty = true := emp_t (by omega)
          have SEP : Hid (¬ Sep r 0) := sep_end r 0 (by omega)
          clear z
          go_wp2_with (go_at_call 17; refine (pre_col r hr _).mono ?_; rintro e w9 ⟨rfl, hw9⟩; rw [hw9]; clear hw9 w9)
          all_goals exact bodyPost_ret (v := .tuple #[.string r, .bool true]) (by simp [results, Yba.results11, go_sem]) rfl ⟨5, _, _, _, _, _, _, clk_2c (e := 1) m sc u1 u2 u3 HD.out (by omega) HNP.out, fin_no pf _ _ _ _ hr9.out (SEP.out), rfl, by repeat (first | exact HCH.out.alloc _ | apply Ch.drew | apply Ch.drewN)⟩
        · have he : r.toList.isEmpty = false := emp_f (by omega)
          have z0 : (0 : Int) < (r.size : Int) := by omega
          have z1 : 0 < r.size := by omega
          by_cases k44 : ((r[0].toNat : Int) == 44) = true
          ·
            have SEP : Hid (Sep r 0) := sep_of r 0 (by omega) (.inl k44)
            obtain ⟨q, hq⟩ : ∃ q, r.extract 1 r.size = q := ⟨_, rfl⟩
            have hqs : q.size ≤ maxLen := by rw [← hq]; unfold maxLen; simp; omega
            have hqz : q.size = r.size - 1 := by rw [← hq]; simp
            have HQ : Hid (r.extract 1 r.size = q) := hq
            have hnz := lead_size q
            obtain ⟨n, hn⟩ : ∃ n, lead q.data.toList = n := ⟨_, rfl⟩
            have HN : Hid (lead (r.extract 1 r.size).data.toList = n) := (show lead (r.extract 1 r.size).data.toList = n by rw [hq]; exact hn)
            rw [hn] at hnz
            have b2 : (1 : Int) + (n : Int) ≤ (r.size : Int) := by omega
            clear hqz hnz
            by_cases hn0 : n = 0
            · subst hn0
              go_wp2_with (first | (go_at_call 17; refine (pre_col r hr _).mono ?_; rintro e w9 ⟨rfl, hw9⟩; rw [hw9]; clear hw9 w9) | (go_at_call_of 12 q; refine (leading_any q _ hqs).mono ?_; rintro e w9 ⟨rfl, hw9⟩; rw [hw9]; clear hw9 w9))
              all_goals exact bodyPost_ret (v := .tuple #[.string ⟨#[]⟩, .bool false]) (by simp [results, Yba.results11, go_sem]) rfl ⟨5, _, _, _, _, _, _, clk_2c (e := 1) m sc u1 u2 u3 HD.out (by omega) HNP.out, fin_bad pf _ _ _ _ hr9.out SEP.out HN.out, rfl, by repeat (first | exact HCH.out.alloc _ | apply Ch.drew | apply Ch.drewN)⟩
            · have hn1 : ((n : Int) == 0) = false := by simpa using (show ¬ (n : Int) = 0 by omega)
              have b1 : (1 : Int) ≤ (1 : Int) + (n : Int) := by omega
              have b0 : (0 : Int) ≤ (n : Int) := by omega
              go_wp2_with (first | (go_at_call 17; refine (pre_col r hr _).mono ?_; rintro e w9 ⟨rfl, hw9⟩; rw [hw9]; clear hw9 w9) | (go_at_call_of 12 q; refine (leading_any q _ hqs).mono ?_; rintro e w9 ⟨rfl, hw9⟩; rw [hw9]; clear hw9 w9))
              all_goals exact bodyPost_ret (v := .tuple #[.string (r.extract (1 + n) r.size), .bool true]) (by simp [results, Yba.results11, go_sem]) rfl ⟨5, _, _, _, isoL _ _ _ (r.extract 1 (1 + n)) _, r.extract (1 + n) r.size, true, clk_2c (e := 1) m sc u1 u2 u3 HD.out (by omega) HNP.out, fin_yes pf _ _ _ _ hr9.out SEP.out HN.out (by omega), rfl, by repeat (first | exact (HCH.out.set 11 (by omega) _).alloc _ | apply Ch.drew | apply Ch.drewN)⟩
          have k44f : ((r[0].toNat : Int) == 44) = false := by simpa using k44
          clear k44
          by_cases k46 : ((r[0].toNat : Int) == 46) = true
          ·
            have SEP : Hid (Sep r 0) := sep_of r 0 (by omega) (.inr k46)
            obtain ⟨q, hq⟩ : ∃ q, r.extract 1 r.size = q := ⟨_, rfl⟩
            have hqs : q.size ≤ maxLen := by rw [← hq]; unfold maxLen; simp; omega
            have hqz : q.size = r.size - 1 := by rw [← hq]; simp
            have HQ : Hid (r.extract 1 r.size = q) := hq
            have hnz := lead_size q
            obtain ⟨n, hn⟩ : ∃ n, lead q.data.toList = n := ⟨_, rfl⟩
            have HN : Hid (lead (r.extract 1 r.size).data.toList = n) := (show lead (r.extract 1 r.size).data.toList = n by rw [hq]; exact hn)
            rw [hn] at hnz
            have b2 : (1 : Int) + (n : Int) ≤ (r.size : Int) := by omega
            clear hqz hnz
            by_cases hn0 : n = 0
            · subst hn0
              go_wp2_with (first | (go_at_call 17; refine (pre_col r hr _).mono ?_; rintro e w9 ⟨rfl, hw9⟩; rw [hw9]; clear hw9 w9) | (go_at_call_of 12 q; refine (leading_any q _ hqs).mono ?_; rintro e w9 ⟨rfl, hw9⟩; rw [hw9]; clear hw9 w9))
              all_goals exact bodyPost_ret (v := .tuple #[.string ⟨#[]⟩, .bool false]) (by simp [results, Yba.results11, go_sem]) rfl ⟨5, _, _, _, _, _, _, clk_2c (e := 1) m sc u1 u2 u3 HD.out (by omega) HNP.out, fin_bad pf _ _ _ _ hr9.out SEP.out HN.out, rfl, by repeat (first | exact HCH.out.alloc _ | apply Ch.drew | apply Ch.drewN)⟩
            · have hn1 : ((n : Int) == 0) = false := by simpa using (show ¬ (n : Int) = 0 by omega)
              have b1 : (1 : Int) ≤ (1 : Int) + (n : Int) := by omega
              have b0 : (0 : Int) ≤ (n : Int) := by omega
              go_wp2_with (first | (go_at_call 17; refine (pre_col r hr _).mono ?_; rintro e w9 ⟨rfl, hw9⟩; rw [hw9]; clear hw9 w9) | (go_at_call_of 12 q; refine (leading_any q _ hqs).mono ?_; rintro e w9 ⟨rfl, hw9⟩; rw [hw9]; clear hw9 w9))
              all_goals exact bodyPost_ret (v := .tuple #[.string (r.extract (1 + n) r.size), .bool true]) (by simp [results, Yba.results11, go_sem]) rfl ⟨5, _, _, _, isoL _ _ _ (r.extract 1 (1 + n)) _, r.extract (1 + n) r.size, true, clk_2c (e := 1) m sc u1 u2 u3 HD.out (by omega) HNP.out, fin_yes pf _ _ _ _ hr9.out SEP.out HN.out (by omega), rfl, by repeat (first | exact (HCH.out.set 11 (by omega) _).alloc _ | apply Ch.drew | apply Ch.drewN)⟩
          have k46f : ((r[0].toNat : Int) == 46) = false := by simpa using k46
          clear k46
          have SEP : Hid (¬ Sep r 0) := sep_no r 0 (by omega) ⟨k44f, k46f⟩
          go_wp2_with (go_at_call 17; refine (pre_col r hr _).mono ?_; rintro e w9 ⟨rfl, hw9⟩; rw [hw9]; clear hw9 w9)
          all_goals exact bodyPost_ret (v := .tuple #[.string r, .bool true]) (by simp [results, Yba.results11, go_sem]) rfl ⟨5, _, _, _, _, _, _, clk_2c (e := 1) m sc u1 u2 u3 HD.out (by omega) HNP.out, fin_no pf _ _ _ _ hr9.out (SEP.out), rfl, by repeat (first | exact HCH.out.alloc _ | apply Ch.drew | apply Ch.drewN)⟩
      have HP : Hid ((ch s 5).toNat = 58) := (show (ch s 5).toNat = 58 by rw [hr9.out, tail_ch] at hpp; exact hpp)
      have hp : decide ((ch r 0).toNat = 58) = true := decide_eq_true hpp
      clear hpp
      have hr1 : (1 : Int) ≤ (r.size : Int) := by
        have hz : (ch r 0).toNat = 58 := of_decide_eq_true hp
        by_cases q : 0 < r.size
        · omega
        · rw [ch_end r 0 (by omega)] at hz; cases hz
      obtain ⟨r1, h1⟩ : ∃ r1, r.extract 1 r.size = r1 := ⟨_, rfl⟩
      have hr1s : r1.size ≤ 1024 := by rw [← h1]; simp; omega
      have HR1 : Hid (r1 = s.extract 6 s.size) := (show r1 = s.extract 6 s.size by rw [← h1, hr9.out, tail_tail])
      have hls : r1.size ≤ maxLen := by unfold maxLen; omega
      by_cases hle : 2 ≤ lead r1.data.toList
      · have HL : Hid (2 ≤ lead r1.data.toList) := hle
        have hr2 : (2 : Int) ≤ (r1.size : Int) := by have := lead_size r1; omega
        have hle2 : (2 : Int) ≤ (lead r1.data.toList : Int) := by omega
        clear hle
        go_wp2_with (first | (go_at_call 17; refine (pre_col r hr _).mono ?_; rintro e w9 ⟨rfl, hw9⟩; rw [hw9]; clear hw9 w9) | (go_at_call_of 12 r1; refine (leading_any r1 _ hls).mono ?_; rintro e w9 ⟨rfl, hw9⟩; rw [hw9]; clear hw9 w9))
        go_region_with (go_at_call 13; refine (rd2 r1 _ rfl HL.out _).mono ?_; rintro e w9 ⟨rfl, hw9⟩; rw [hw9]; clear hw9 w9)
        all_goals go_wp2
        all_goals exact ⟨⟨3, _, isoL (two (ch s 0) (ch s 1)) (two (ch s 3) (ch s 4)) (two (ch r1 0) (ch r1 1)) pf u3, rfl, by go_num, by simp; omega, by omega, st_3 (e := 1) h m sc pf pu u1 u2 u3 HD.out (.inr HP.out) HR1.out HL.out, by repeat (first | exact ((HCH.out.set 5 (by omega) _).set 12 (by omega) _).alloc _ | apply Ch.drew | apply Ch.drewN)⟩, by simp [intOf]⟩
      · have HNL : Hid (¬ 2 ≤ lead r1.data.toList) := hle
        have hle2 : (lead r1.data.toList : Int) < 2 := by omega
        clear hle
        by_cases z : ¬ 0 < r.size
        · have he : r.toList.isEmpty = true := emp_t (by omega)
          have SEP : Hid (¬ Sep r 0) := sep_end r 0 (by omega)
          clear z
          go_wp2_with (first | (go_at_call 17; refine (pre_col r hr _).mono ?_; rintro e w9 ⟨rfl, hw9⟩; rw [hw9]; clear hw9 w9) | (go_at_call_of 12 r1; refine (leading_any r1 _ hls).mono ?_; rintro e w9 ⟨rfl, hw9⟩; rw [hw9]; clear hw9 w9))
          all_goals exact bodyPost_ret (v := .tuple #[.string r, .bool true]) (by simp [results, Yba.results11, go_sem]) rfl ⟨5, _, _, _, _, _, _, clk_2 (e := 1) m sc u1 u2 u3 HD.out HR1.out HNL.out, fin_no pf _ _ _ _ hr9.out (SEP.out), rfl, by repeat (first | exact HCH.out.alloc _ | apply Ch.drew | apply Ch.drewN)⟩
        · have he : r.toList.isEmpty = false := emp_f (by omega)
          have z0 : (0 : Int) < (r.size : Int) := by omega
          have z1 : 0 < r.size := by omega
          by_cases k44 : ((r[0].toNat : Int) == 44) = true
          ·
            have SEP : Hid (Sep r 0) := sep_of r 0 (by omega) (.inl k44)
            obtain ⟨q, hq⟩ : ∃ q, r.extract 1 r.size = q := ⟨_, rfl⟩
            have hqs : q.size ≤ maxLen := by rw [← hq]; unfold maxLen; simp; omega
            have hqz : q.size = r.size - 1 := by rw [← hq]; simp
            have HQ : Hid (r.extract 1 r.size = q) := hq
            have hnz := lead_size q
            obtain ⟨n, hn⟩ : ∃ n, lead q.data.toList = n := ⟨_, rfl⟩
            have HN : Hid (lead (r.extract 1 r.size).data.toList = n) := (show lead (r.extract 1 r.size).data.toList = n by rw [hq]; exact hn)
            have e1 : q = r1 := hq.symm.trans h1
            subst e1
            clear h1
            have hle3 : (n : Int) < 2 := by rw [← hn]; exact hle2
            clear hle2
            rw [hn] at hnz
            have b2 : (1 : Int) + (n : Int) ≤ (r.size : Int) := by omega
            clear hqz hnz
            by_cases hn0 : n = 0
            · subst hn0
              go_wp2_with (first | (go_at_call 17; refine (pre_col r hr _).mono ?_; rintro e w9 ⟨rfl, hw9⟩; rw [hw9]; clear hw9 w9) | (go_at_call_of 12 q; refine (leading_any q _ hqs).mono ?_; rintro e w9 ⟨rfl, hw9⟩; rw [hw9]; clear hw9 w9))
              all_goals exact bodyPost_ret (v := .tuple #[.string ⟨#[]⟩, .bool false]) (by simp [results, Yba.results11, go_sem]) rfl ⟨5, _, _, _, _, _, _, clk_2 (e := 1) m sc u1 u2 u3 HD.out HR1.out HNL.out, fin_bad pf _ _ _ _ hr9.out SEP.out HN.out, rfl, by repeat (first | exact HCH.out.alloc _ | apply Ch.drew | apply Ch.drewN)⟩
            · have hn1 : ((n : Int) == 0) = false := by simpa using (show ¬ (n : Int) = 0 by omega)
              have b1 : (1 : Int) ≤ (1 : Int) + (n : Int) := by omega
              have b0 : (0 : Int) ≤ (n : Int) := by omega
              go_wp2_with (first | (go_at_call 17; refine (pre_col r hr _).mono ?_; rintro e w9 ⟨rfl, hw9⟩; rw [hw9]; clear hw9 w9) | (go_at_call_of 12 q; refine (leading_any q _ hqs).mono ?_; rintro e w9 ⟨rfl, hw9⟩; rw [hw9]; clear hw9 w9))
              all_goals exact bodyPost_ret (v := .tuple #[.string (r.extract (1 + n) r.size), .bool true]) (by simp [results, Yba.results11, go_sem]) rfl ⟨5, _, _, _, isoL _ _ _ (r.extract 1 (1 + n)) _, r.extract (1 + n) r.size, true, clk_2 (e := 1) m sc u1 u2 u3 HD.out HR1.out HNL.out, fin_yes pf _ _ _ _ hr9.out SEP.out HN.out (by omega), rfl, by repeat (first | exact (HCH.out.set 11 (by omega) _).alloc _ | apply Ch.drew | apply Ch.drewN)⟩
          have k44f : ((r[0].toNat : Int) == 44) = false := by simpa using k44
          clear k44
          by_cases k46 : ((r[0].toNat : Int) == 46) = true
          ·
            have SEP : Hid (Sep r 0) := sep_of r 0 (by omega) (.inr k46)
            obtain ⟨q, hq⟩ : ∃ q, r.extract 1 r.size = q := ⟨_, rfl⟩
            have hqs : q.size ≤ maxLen := by rw [← hq]; unfold maxLen; simp; omega
            have hqz : q.size = r.size - 1 := by rw [← hq]; simp
            have HQ : Hid (r.extract 1 r.size = q) := hq
            have hnz := lead_size q
            obtain ⟨n, hn⟩ : ∃ n, lead q.data.toList = n := ⟨_, rfl⟩
            have HN : Hid (lead (r.extract 1 r.size).data.toList = n) := (show lead (r.extract 1 r.size).data.toList = n by rw [hq]; exact hn)
            have e1 : q = r1 := hq.symm.trans h1
            subst e1
            clear h1
            have hle3 : (n : Int) < 2 := by rw [← hn]; exact hle2
            clear hle2
            rw [hn] at hnz
            have b2 : (1 : Int) + (n : Int) ≤ (r.size : Int) := by omega
            clear hqz hnz
            by_cases hn0 : n = 0
            · subst hn0
              go_wp2_with (first | (go_at_call 17; refine (pre_col r hr _).mono ?_; rintro e w9 ⟨rfl, hw9⟩; rw [hw9]; clear hw9 w9) | (go_at_call_of 12 q; refine (leading_any q _ hqs).mono ?_; rintro e w9 ⟨rfl, hw9⟩; rw [hw9]; clear hw9 w9))
              all_goals exact bodyPost_ret (v := .tuple #[.string ⟨#[]⟩, .bool false]) (by simp [results, Yba.results11, go_sem]) rfl ⟨5, _, _, _, _, _, _, clk_2 (e := 1) m sc u1 u2 u3 HD.out HR1.out HNL.out, fin_bad pf _ _ _ _ hr9.out SEP.out HN.out, rfl, by repeat (first | exact HCH.out.alloc _ | apply Ch.drew | apply Ch.drewN)⟩
            · have hn1 : ((n : Int) == 0) = false := by simpa using (show ¬ (n : Int) = 0 by omega)
              have b1 : (1 : Int) ≤ (1 : Int) + (n : Int) := by omega
              have b0 : (0 : Int) ≤ (n : Int) := by omega
              go_wp2_with (first | (go_at_call 17; refine (pre_col r hr _).mono ?_; rintro e w9 ⟨rfl, hw9⟩; rw [hw9]; clear hw9 w9) | (go_at_call_of 12 q; refine (leading_any q _ hqs).mono ?_; rintro e w9 ⟨rfl, hw9⟩; rw [hw9]; clear hw9 w9))
              all_goals exact bodyPost_ret (v := .tuple #[.string (r.extract (1 + n) r.size), .bool true]) (by simp [results, Yba.results11, go_sem]) rfl ⟨5, _, _, _, isoL _ _ _ (r.extract 1 (1 + n)) _, r.extract (1 + n) r.size, true, clk_2 (e := 1) m sc u1 u2 u3 HD.out HR1.out HNL.out, fin_yes pf _ _ _ _ hr9.out SEP.out HN.out (by omega), rfl, by repeat (first | exact (HCH.out.set 11 (by omega) _).alloc _ | apply Ch.drew | apply Ch.drewN)⟩
          have k46f : ((r[0].toNat : Int) == 46) = false := by simpa using k46
          clear k46
          have SEP : Hid (¬ Sep r 0) := sep_no r 0 (by omega) ⟨k44f, k46f⟩
          go_wp2_with (first | (go_at_call 17; refine (pre_col r hr _).mono ?_; rintro e w9 ⟨rfl, hw9⟩; rw [hw9]; clear hw9 w9) | (go_at_call_of 12 r1; refine (leading_any r1 _ hls).mono ?_; rintro e w9 ⟨rfl, hw9⟩; rw [hw9]; clear hw9 w9))
          all_goals exact bodyPost_ret (v := .tuple #[.string r, .bool true]) (by simp [results, Yba.results11, go_sem]) rfl ⟨5, _, _, _, _, _, _, clk_2 (e := 1) m sc u1 u2 u3 HD.out HR1.out HNL.out, fin_no pf _ _ _ _ hr9.out (SEP.out), rfl, by repeat (first | exact HCH.out.alloc _ | apply Ch.drew | apply Ch.drewN)⟩
    · obtain ⟨hst, hch⟩ := HC.out
      rcases hst with ⟨hx, _⟩ | ⟨hx, _⟩ | ⟨hx, _⟩ | ⟨_, HR, hsz, hD, hcc, hDD, rfl⟩
      · omega
      · omega
      · omega
      have hr9 : Hid (r = s.extract 8 s.size) := HR
      have HK : Hid (Clk 1 s m sc u1 u2 u3 8 (two (ch s 3) (ch s 4)) (two (ch s 6) (ch s 7)) u3) := clk_3 m sc u1 u2 u3 hD hcc hDD
      clear HR hD hcc hDD
      have c11 : wr.cell? ⟨fb, 11, none⟩ = some (.string pf) := hch.range 11 _ rfl
      have f11 : wr.frozen? ⟨fb, 11, none⟩ = false := (hch.free 11 (by omega)).2
      have hlt : fb < wr.heap.size := hch.lt
      have HCH : Hid (Ch fb w wr (isoL (two (ch s 0) (ch s 1)) (two (ch s 3) (ch s 4)) (two (ch s 6) (ch s 7)) pf u3)) := hch
      clear hch HC
      by_cases z : ¬ 0 < r.size
      · have he : r.toList.isEmpty = true := emp_t (by omega)
        have SEP : Hid (¬ Sep r 0) := sep_end r 0 (by omega)
        clear z
        go_wp2_with fail
        all_goals exact bodyPost_ret (v := .tuple #[.string r, .bool true]) (by simp [results, Yba.results11, go_sem]) rfl ⟨8, _, _, _, _, _, _, HK.out, fin_no pf _ _ _ _ hr9.out (SEP.out), rfl, by repeat (first | exact HCH.out | apply Ch.drew | apply Ch.drewN)⟩
      · have he : r.toList.isEmpty = false := emp_f (by omega)
        have z0 : (0 : Int) < (r.size : Int) := by omega
        have z1 : 0 < r.size := by omega
        by_cases k44 : ((r[0].toNat : Int) == 44) = true
        ·
          have SEP : Hid (Sep r 0) := sep_of r 0 (by omega) (.inl k44)
          obtain ⟨q, hq⟩ : ∃ q, r.extract 1 r.size = q := ⟨_, rfl⟩
          have hqs : q.size ≤ maxLen := by rw [← hq]; unfold maxLen; simp; omega
          have hqz : q.size = r.size - 1 := by rw [← hq]; simp
          have HQ : Hid (r.extract 1 r.size = q) := hq
          have hnz := lead_size q
          obtain ⟨n, hn⟩ : ∃ n, lead q.data.toList = n := ⟨_, rfl⟩
          have HN : Hid (lead (r.extract 1 r.size).data.toList = n) := (show lead (r.extract 1 r.size).data.toList = n by rw [hq]; exact hn)
          rw [hn] at hnz
          have b2 : (1 : Int) + (n : Int) ≤ (r.size : Int) := by omega
          clear hqz hnz
          by_cases hn0 : n = 0
          · subst hn0
            go_wp2_with (first | (go_at_call_of 12 q; refine (leading_any q _ hqs).mono ?_; rintro e w9 ⟨rfl, hw9⟩; rw [hw9]; clear hw9 w9))
            all_goals exact bodyPost_ret (v := .tuple #[.string ⟨#[]⟩, .bool false]) (by simp [results, Yba.results11, go_sem]) rfl ⟨8, _, _, _, _, _, _, HK.out, fin_bad pf _ _ _ _ hr9.out SEP.out HN.out, rfl, by repeat (first | exact HCH.out | apply Ch.drew | apply Ch.drewN)⟩
          · have hn1 : ((n : Int) == 0) = false := by simpa using (show ¬ (n : Int) = 0 by omega)
            have b1 : (1 : Int) ≤ (1 : Int) + (n : Int) := by omega
            have b0 : (0 : Int) ≤ (n : Int) := by omega
            go_wp2_with (first | (go_at_call_of 12 q; refine (leading_any q _ hqs).mono ?_; rintro e w9 ⟨rfl, hw9⟩; rw [hw9]; clear hw9 w9))
            all_goals exact bodyPost_ret (v := .tuple #[.string (r.extract (1 + n) r.size), .bool true]) (by simp [results, Yba.results11, go_sem]) rfl ⟨8, _, _, _, isoL _ _ _ (r.extract 1 (1 + n)) _, r.extract (1 + n) r.size, true, HK.out, fin_yes pf _ _ _ _ hr9.out SEP.out HN.out (by omega), rfl, by repeat (first | exact HCH.out.set 11 (by omega) _ | apply Ch.drew | apply Ch.drewN)⟩
        have k44f : ((r[0].toNat : Int) == 44) = false := by simpa using k44
        clear k44
        by_cases k46 : ((r[0].toNat : Int) == 46) = true
        ·
          have SEP : Hid (Sep r 0) := sep_of r 0 (by omega) (.inr k46)
          obtain ⟨q, hq⟩ : ∃ q, r.extract 1 r.size = q := ⟨_, rfl⟩
          have hqs : q.size ≤ maxLen := by rw [← hq]; unfold maxLen; simp; omega
          have hqz : q.size = r.size - 1 := by rw [← hq]; simp
          have HQ : Hid (r.extract 1 r.size = q) := hq
          have hnz := lead_size q
          obtain ⟨n, hn⟩ : ∃ n, lead q.data.toList = n := ⟨_, rfl⟩
          have HN : Hid (lead (r.extract 1 r.size).data.toList = n) := (show lead (r.extract 1 r.size).data.toList = n by rw [hq]; exact hn)
          rw [hn] at hnz
          have b2 : (1 : Int) + (n : Int) ≤ (r.size : Int) := by omega
          clear hqz hnz
          by_cases hn0 : n = 0
          · subst hn0
            go_wp2_with (first | (go_at_call_of 12 q; refine (leading_any q _ hqs).mono ?_; rintro e w9 ⟨rfl, hw9⟩; rw [hw9]; clear hw9 w9))
            all_goals exact bodyPost_ret (v := .tuple #[.string ⟨#[]⟩, .bool false]) (by simp [results, Yba.results11, go_sem]) rfl ⟨8, _, _, _, _, _, _, HK.out, fin_bad pf _ _ _ _ hr9.out SEP.out HN.out, rfl, by repeat (first | exact HCH.out | apply Ch.drew | apply Ch.drewN)⟩
          · have hn1 : ((n : Int) == 0) = false := by simpa using (show ¬ (n : Int) = 0 by omega)
            have b1 : (1 : Int) ≤ (1 : Int) + (n : Int) := by omega
            have b0 : (0 : Int) ≤ (n : Int) := by omega
            go_wp2_with (first | (go_at_call_of 12 q; refine (leading_any q _ hqs).mono ?_; rintro e w9 ⟨rfl, hw9⟩; rw [hw9]; clear hw9 w9))
            all_goals exact bodyPost_ret (v := .tuple #[.string (r.extract (1 + n) r.size), .bool true]) (by simp [results, Yba.results11, go_sem]) rfl ⟨8, _, _, _, isoL _ _ _ (r.extract 1 (1 + n)) _, r.extract (1 + n) r.size, true, HK.out, fin_yes pf _ _ _ _ hr9.out SEP.out HN.out (by omega), rfl, by repeat (first | exact HCH.out.set 11 (by omega) _ | apply Ch.drew | apply Ch.drewN)⟩
        have k46f : ((r[0].toNat : Int) == 46) = false := by simpa using k46
        clear k46
        have SEP : Hid (¬ Sep r 0) := sep_no r 0 (by omega) ⟨k44f, k46f⟩
        go_wp2_with fail
        all_goals exact bodyPost_ret (v := .tuple #[.string r, .bool true]) (by simp [results, Yba.results11, go_sem]) rfl ⟨8, _, _, _, _, _, _, HK.out, fin_no pf _ _ _ _ hr9.out (SEP.out), rfl, by repeat (first | exact HCH.out | apply Ch.drew | apply Ch.drewN)⟩

end Go.Proofs.Ybulkcmju
