/-
  The contract of zzs4414aexpect, a theorem a way through it. (Exp1)
-/
import Derived.Test.YbulkcmjuIso
namespace Go.Proofs.Ybulkcmju
open Go.RowKit
set_option linter.unusedVariables false
attribute [local go_sem ↓] exec_load38 exec_store38
attribute [local go_sem] ld38_at st38_at isoAt_drew Has_drew Wrt_drew Has_two isoAt_two Wrt_two iso_lit

set_option maxHeartbeats 6400000 in
set_option maxRecDepth 100000 in
theorem exp_n2 (s : ByteArray) (ph pm ps : Int) (pf : ByteArray) (pu u1 u2 u3 : Int) (hu1 : (3600000000000 : Int) = u1) (hu2 : (60000000000 : Int) = u2) (hu3 : (1000000000 : Int) = u3) (hs : s.size ≤ 1024) (h2 : 2 ≤ s.size) (g0 : digB s[0] = true) (g1 : digB s[1] = true) (lt3 : (s.size : Int) ≤ 2) (ke : (s.size : Int) ≤ 2) (w : World) :
    Calls Yba.prog 10 #[.string s, isoV ph pm ps pf pu] w fun e w' => ((∃ q fr, TailOk s 2 pf q fr ∧ e = .returned (.tuple #[.agg (isoL (two s[0] s[1]) (pm) (ps) fr u1).toArray, .string (s.extract q s.size), .bool true])) ∨ (TailNo s 2 ∧ e = .returned (.tuple #[.agg (isoL (two s[0] s[1]) (pm) (ps) pf u1).toArray, .string ⟨#[]⟩, .bool false]))) ∧ Below w.heap.size w w' := by
  go_enter Yba.func10, Yba.ntmps10
  go_upto_if 148 with (first | (go_at_call_of 15 (Value.int IntKind.u8 44); refine (adig_44 _).mono ?_; rintro e w' ⟨rfl, rfl⟩) | (go_at_call_of 15 (Value.int IntKind.u8 46); refine (adig_46 _).mono ?_; rintro e w' ⟨rfl, rfl⟩) | (go_at_call_of 15 (Value.int IntKind.u8 58); refine (adig_58 _).mono ?_; rintro e w' ⟨rfl, rfl⟩) | (go_at_call 15; refine (adig_any _ _).mono ?_; rintro e w' ⟨rfl, rfl⟩) | (go_at_call_of 16 (Value.int IntKind.i64 0); refine (atwo_0 s (by omega) g0 g1 _).mono ?_; rintro e w' ⟨rfl, rfl⟩))
  go_cut [7] (fun pos wc => ∃ (q : Nat) (cs : List Value), pos = .int .i64 q ∧ q ≤ s.size ∧ Hid (∃ fr, cs = isoL (two s[0] s[1]) (pm) (ps) fr u1 ∧ wc.rangeAt w.heap.size 0 cs ∧ wc.there (w.heap.size + 1) 0 19 ∧ Below w.heap.size w wc ∧ TailOk s 2 pf q fr))
  case first =>
    go_wp2_with (first | (go_at_call_of 15 (Value.int IntKind.u8 44); refine (adig_44 _).mono ?_; rintro e w' ⟨rfl, rfl⟩) | (go_at_call_of 15 (Value.int IntKind.u8 46); refine (adig_46 _).mono ?_; rintro e w' ⟨rfl, rfl⟩) | (go_at_call_of 15 (Value.int IntKind.u8 58); refine (adig_58 _).mono ?_; rintro e w' ⟨rfl, rfl⟩) | (go_at_call 15; refine (adig_any _ _).mono ?_; rintro e w' ⟨rfl, rfl⟩) | (go_at_call_of 16 (Value.int IntKind.i64 0); refine (atwo_0 s (by omega) g0 g1 _).mono ?_; rintro e w' ⟨rfl, rfl⟩))
    go_meet
    exact ⟨2, isoL (two s[0] s[1]) (pm) (ps) pf u1, by go_num, by omega, pf, rfl, (two_new w (two s[0] s[1]) (pm) (ps) pf u1 _ rfl _ rfl).1, (two_new w (two s[0] s[1]) (pm) (ps) pf u1 _ rfl _ rfl).2, by repeat (first | exact (((Below.refl _ _).alloc (Nat.le_refl _) _).alloc (by simp) _) | apply Below.drew | apply below_drewN), .inl ⟨sep_end s 2 (by omega), rfl, rfl⟩⟩
  case rest =>
    obtain ⟨q, cs, rfl, hq, hr⟩ := hcut
    obtain ⟨hA, hI, hT⟩ : isoAt wc w.heap.size = cs.toArray ∧ Iso cs.toArray ∧ Has wc w.heap.size ∧ Wrt wc (w.heap.size + 1) := by
      obtain ⟨fr, rfl, a, b, _⟩ := hr.out
      exact ⟨(isoAt_of rfl a).1, ⟨rfl, all_oneCell_toArray (isoL_one _ _ _ _ _)⟩, (isoAt_of rfl a).2, b⟩
    obtain ⟨hH, hW⟩ := hT
    have hH1 : Has wc.drew w.heap.size := hH
    have hW1 : Wrt wc.drew (w.heap.size + 1) := by rw [Wrt_drew]; exact hW
    have hA1 : isoAt wc.drew w.heap.size = cs.toArray := hA
    have q0 : (0 : Int) ≤ (q : Int) := by omega
    have q1 : (q : Int) ≤ (s.size : Int) := by omega
    clear hu1 hu2 hu3
    go_wp2
    go_region
    all_goals (try go_wp2)
    have hset : (loadVar 38 ⟨w.heap.size + 1, 0, none⟩).run Yba.prog (wc.drew.setCells (w.heap.size + 1) 0 cs) = .ok (.agg cs.toArray) (wc.drew.setCells (w.heap.size + 1) 0 cs) := by simpa using set_reads wc.drew (w.heap.size + 1) cs.toArray hW1 hI
    obtain ⟨fr, hfr, _, _, hbel, htl⟩ := hr.out
    exact bodyPost_ret (v := .tuple #[.agg cs.toArray, .string (s.extract q s.size), .bool true]) (by simp [results, Yba.results10, hset, asAddr]) rfl ⟨.inl ⟨q, fr, htl, by rw [hfr]⟩, below_set _ (by omega) _ _ _ hbel.drew⟩

set_option maxHeartbeats 6400000 in
set_option maxRecDepth 100000 in
theorem exp_n3 (s : ByteArray) (ph pm ps : Int) (pf : ByteArray) (pu u1 u2 u3 : Int) (hu1 : (3600000000000 : Int) = u1) (hu2 : (60000000000 : Int) = u2) (hu3 : (1000000000 : Int) = u3) (hs : s.size ≤ 1024) (h2 : 3 ≤ s.size) (g0 : digB s[0] = true) (g1 : digB s[1] = true) (gt2 : (2 : Int) < s.size) (n58 : ((s[2].toNat : Int) == 58) = false) (lt4 : (s.size : Int) < 4) (kn : (2 : Int) < s.size) (w : World) :
    Calls Yba.prog 10 #[.string s, isoV ph pm ps pf pu] w fun e w' => ((∃ q fr, TailOk s 2 pf q fr ∧ e = .returned (.tuple #[.agg (isoL (two s[0] s[1]) (pm) (ps) fr u1).toArray, .string (s.extract q s.size), .bool true])) ∨ (TailNo s 2 ∧ e = .returned (.tuple #[.agg (isoL (two s[0] s[1]) (pm) (ps) pf u1).toArray, .string ⟨#[]⟩, .bool false]))) ∧ Below w.heap.size w w' := by
  by_cases k44 : ((s[2].toNat : Int) == 44) = true
  ·
    have SEP : Hid (Sep s 2) := sep_of s 2 (by omega) (.inl k44)
    go_enter Yba.func10, Yba.ntmps10
    go_upto_if 148 with (first | (go_at_call_of 15 (Value.int IntKind.u8 44); refine (adig_44 _).mono ?_; rintro e w' ⟨rfl, rfl⟩) | (go_at_call_of 15 (Value.int IntKind.u8 46); refine (adig_46 _).mono ?_; rintro e w' ⟨rfl, rfl⟩) | (go_at_call_of 15 (Value.int IntKind.u8 58); refine (adig_58 _).mono ?_; rintro e w' ⟨rfl, rfl⟩) | (go_at_call 15; refine (adig_any _ _).mono ?_; rintro e w' ⟨rfl, rfl⟩) | (go_at_call_of 16 (Value.int IntKind.i64 0); refine (atwo_0 s (by omega) g0 g1 _).mono ?_; rintro e w' ⟨rfl, rfl⟩))
    go_cut [7] (fun pos wc => ∃ (q : Nat) (cs : List Value), pos = .int .i64 q ∧ q ≤ s.size ∧ Hid (∃ fr, cs = isoL (two s[0] s[1]) (pm) (ps) fr u1 ∧ wc.rangeAt w.heap.size 0 cs ∧ wc.there (w.heap.size + 1) 0 19 ∧ Below w.heap.size w wc ∧ TailOk s 2 pf q fr))
    case first =>
      go_wp2_with (first | (go_at_call_of 15 (Value.int IntKind.u8 44); refine (adig_44 _).mono ?_; rintro e w' ⟨rfl, rfl⟩) | (go_at_call_of 15 (Value.int IntKind.u8 46); refine (adig_46 _).mono ?_; rintro e w' ⟨rfl, rfl⟩) | (go_at_call_of 15 (Value.int IntKind.u8 58); refine (adig_58 _).mono ?_; rintro e w' ⟨rfl, rfl⟩) | (go_at_call 15; refine (adig_any _ _).mono ?_; rintro e w' ⟨rfl, rfl⟩) | (go_at_call_of 16 (Value.int IntKind.i64 0); refine (atwo_0 s (by omega) g0 g1 _).mono ?_; rintro e w' ⟨rfl, rfl⟩))
      go_loop [10] (fun n => ∃ k : Nat, 3 + k ≤ s.size ∧ n = .int .i64 k ∧ Hid (∀ j, j < k → digB (ch s (3 + j)) = true)) (fun n => s.size - (intOf n).toNat)
      case atStart => exact ⟨0, by omega, rfl, fun j hj => absurd hj (by omega)⟩
      case round =>
        obtain ⟨k, hk, rfl, hd⟩ := hrel
        by_cases hlt : 3 + k < s.size
        · exact absurd hlt (by omega)
        · have HL : Hid (lead (s.extract 3 s.size).data.toList = k) := lead_stop s 3 k hd.out (by rw [ch_end s _ (by omega)]; exact dig0)
          by_cases hk0 : k = 0
          · subst hk0
            go_wp2_with (first | (go_at_call_of 15 (Value.int IntKind.u8 44); refine (adig_44 _).mono ?_; rintro e w' ⟨rfl, rfl⟩) | (go_at_call_of 15 (Value.int IntKind.u8 46); refine (adig_46 _).mono ?_; rintro e w' ⟨rfl, rfl⟩) | (go_at_call_of 15 (Value.int IntKind.u8 58); refine (adig_58 _).mono ?_; rintro e w' ⟨rfl, rfl⟩) | (go_at_call 15; refine (adig_any _ _).mono ?_; rintro e w' ⟨rfl, rfl⟩) | (go_at_call_of 16 (Value.int IntKind.i64 0); refine (atwo_0 s (by omega) g0 g1 _).mono ?_; rintro e w' ⟨rfl, rfl⟩))
            all_goals exact bodyPost_ret (v := .tuple #[.agg (isoL (two s[0] s[1]) (pm) (ps) pf u1).toArray, .string ⟨#[]⟩, .bool false]) (res10 _ (w.heap.size + 1) _ _ _ _ rfl rfl rfl (set_reads_lit _ _ (two s[0] s[1]) (pm) (ps) pf u1 (by (try simp only [Wrt_drew]); exact Wrt_two _ _ _ rfl))) rfl ⟨.inr ⟨⟨SEP.out, HL.out⟩, rfl⟩, below_set _ (by omega) _ _ _ (by repeat (first | exact (((Below.refl _ _).alloc (Nat.le_refl _) _).alloc (by simp) _) | apply Below.drew | apply below_drewN))⟩
          · have hk1 : ((k : Int) == 0) = false := by simpa using (show ¬ (k : Int) = 0 by omega)
            go_wp2_with (first | (go_at_call_of 15 (Value.int IntKind.u8 44); refine (adig_44 _).mono ?_; rintro e w' ⟨rfl, rfl⟩) | (go_at_call_of 15 (Value.int IntKind.u8 46); refine (adig_46 _).mono ?_; rintro e w' ⟨rfl, rfl⟩) | (go_at_call_of 15 (Value.int IntKind.u8 58); refine (adig_58 _).mono ?_; rintro e w' ⟨rfl, rfl⟩) | (go_at_call 15; refine (adig_any _ _).mono ?_; rintro e w' ⟨rfl, rfl⟩) | (go_at_call_of 16 (Value.int IntKind.i64 0); refine (atwo_0 s (by omega) g0 g1 _).mono ?_; rintro e w' ⟨rfl, rfl⟩))
            all_goals go_meet
            all_goals exact ⟨2 + (1 + k), isoL (two s[0] s[1]) (pm) (ps) (s.extract 3 (3 + k)) u1, by go_num, by omega, (s.extract 3 (3 + k)), rfl, (two_new w (two s[0] s[1]) (pm) (ps) (s.extract 3 (3 + k)) u1 _ rfl _ rfl).1, (two_new w (two s[0] s[1]) (pm) (ps) (s.extract 3 (3 + k)) u1 _ rfl _ rfl).2, by repeat (first | exact (((Below.refl _ _).alloc (Nat.le_refl _) _).alloc (by simp) _) | apply Below.drew | apply below_drewN), .inr ⟨SEP.out, k, HL.out.symm, by omega, rfl, rfl⟩⟩
    case rest =>
      obtain ⟨q, cs, rfl, hq, hr⟩ := hcut
      obtain ⟨hA, hI, hT⟩ : isoAt wc w.heap.size = cs.toArray ∧ Iso cs.toArray ∧ Has wc w.heap.size ∧ Wrt wc (w.heap.size + 1) := by
        obtain ⟨fr, rfl, a, b, _⟩ := hr.out
        exact ⟨(isoAt_of rfl a).1, ⟨rfl, all_oneCell_toArray (isoL_one _ _ _ _ _)⟩, (isoAt_of rfl a).2, b⟩
      obtain ⟨hH, hW⟩ := hT
      have hH1 : Has wc.drew w.heap.size := hH
      have hW1 : Wrt wc.drew (w.heap.size + 1) := by rw [Wrt_drew]; exact hW
      have hA1 : isoAt wc.drew w.heap.size = cs.toArray := hA
      have q0 : (0 : Int) ≤ (q : Int) := by omega
      have q1 : (q : Int) ≤ (s.size : Int) := by omega
      clear hu1 hu2 hu3
      go_wp2
      go_region
      all_goals (try go_wp2)
      have hset : (loadVar 38 ⟨w.heap.size + 1, 0, none⟩).run Yba.prog (wc.drew.setCells (w.heap.size + 1) 0 cs) = .ok (.agg cs.toArray) (wc.drew.setCells (w.heap.size + 1) 0 cs) := by simpa using set_reads wc.drew (w.heap.size + 1) cs.toArray hW1 hI
      obtain ⟨fr, hfr, _, _, hbel, htl⟩ := hr.out
      exact bodyPost_ret (v := .tuple #[.agg cs.toArray, .string (s.extract q s.size), .bool true]) (by simp [results, Yba.results10, hset, asAddr]) rfl ⟨.inl ⟨q, fr, htl, by rw [hfr]⟩, below_set _ (by omega) _ _ _ hbel.drew⟩
  have k44f : ((s[2].toNat : Int) == 44) = false := by simpa using k44
  clear k44
  by_cases k46 : ((s[2].toNat : Int) == 46) = true
  ·
    have SEP : Hid (Sep s 2) := sep_of s 2 (by omega) (.inr k46)
    go_enter Yba.func10, Yba.ntmps10
    go_upto_if 148 with (first | (go_at_call_of 15 (Value.int IntKind.u8 44); refine (adig_44 _).mono ?_; rintro e w' ⟨rfl, rfl⟩) | (go_at_call_of 15 (Value.int IntKind.u8 46); refine (adig_46 _).mono ?_; rintro e w' ⟨rfl, rfl⟩) | (go_at_call_of 15 (Value.int IntKind.u8 58); refine (adig_58 _).mono ?_; rintro e w' ⟨rfl, rfl⟩) | (go_at_call 15; refine (adig_any _ _).mono ?_; rintro e w' ⟨rfl, rfl⟩) | (go_at_call_of 16 (Value.int IntKind.i64 0); refine (atwo_0 s (by omega) g0 g1 _).mono ?_; rintro e w' ⟨rfl, rfl⟩))
    go_cut [7] (fun pos wc => ∃ (q : Nat) (cs : List Value), pos = .int .i64 q ∧ q ≤ s.size ∧ Hid (∃ fr, cs = isoL (two s[0] s[1]) (pm) (ps) fr u1 ∧ wc.rangeAt w.heap.size 0 cs ∧ wc.there (w.heap.size + 1) 0 19 ∧ Below w.heap.size w wc ∧ TailOk s 2 pf q fr))
    case first =>
      go_wp2_with (first | (go_at_call_of 15 (Value.int IntKind.u8 44); refine (adig_44 _).mono ?_; rintro e w' ⟨rfl, rfl⟩) | (go_at_call_of 15 (Value.int IntKind.u8 46); refine (adig_46 _).mono ?_; rintro e w' ⟨rfl, rfl⟩) | (go_at_call_of 15 (Value.int IntKind.u8 58); refine (adig_58 _).mono ?_; rintro e w' ⟨rfl, rfl⟩) | (go_at_call 15; refine (adig_any _ _).mono ?_; rintro e w' ⟨rfl, rfl⟩) | (go_at_call_of 16 (Value.int IntKind.i64 0); refine (atwo_0 s (by omega) g0 g1 _).mono ?_; rintro e w' ⟨rfl, rfl⟩))
      go_loop [10] (fun n => ∃ k : Nat, 3 + k ≤ s.size ∧ n = .int .i64 k ∧ Hid (∀ j, j < k → digB (ch s (3 + j)) = true)) (fun n => s.size - (intOf n).toNat)
      case atStart => exact ⟨0, by omega, rfl, fun j hj => absurd hj (by omega)⟩
      case round =>
        obtain ⟨k, hk, rfl, hd⟩ := hrel
        by_cases hlt : 3 + k < s.size
        · exact absurd hlt (by omega)
        · have HL : Hid (lead (s.extract 3 s.size).data.toList = k) := lead_stop s 3 k hd.out (by rw [ch_end s _ (by omega)]; exact dig0)
          by_cases hk0 : k = 0
          · subst hk0
            go_wp2_with (first | (go_at_call_of 15 (Value.int IntKind.u8 44); refine (adig_44 _).mono ?_; rintro e w' ⟨rfl, rfl⟩) | (go_at_call_of 15 (Value.int IntKind.u8 46); refine (adig_46 _).mono ?_; rintro e w' ⟨rfl, rfl⟩) | (go_at_call_of 15 (Value.int IntKind.u8 58); refine (adig_58 _).mono ?_; rintro e w' ⟨rfl, rfl⟩) | (go_at_call 15; refine (adig_any _ _).mono ?_; rintro e w' ⟨rfl, rfl⟩) | (go_at_call_of 16 (Value.int IntKind.i64 0); refine (atwo_0 s (by omega) g0 g1 _).mono ?_; rintro e w' ⟨rfl, rfl⟩))
            all_goals exact bodyPost_ret (v := .tuple #[.agg (isoL (two s[0] s[1]) (pm) (ps) pf u1).toArray, .string ⟨#[]⟩, .bool false]) (res10 _ (w.heap.size + 1) _ _ _ _ rfl rfl rfl (set_reads_lit _ _ (two s[0] s[1]) (pm) (ps) pf u1 (by (try simp only [Wrt_drew]); exact Wrt_two _ _ _ rfl))) rfl ⟨.inr ⟨⟨SEP.out, HL.out⟩, rfl⟩, below_set _ (by omega) _ _ _ (by repeat (first | exact (((Below.refl _ _).alloc (Nat.le_refl _) _).alloc (by simp) _) | apply Below.drew | apply below_drewN))⟩
          · have hk1 : ((k : Int) == 0) = false := by simpa using (show ¬ (k : Int) = 0 by omega)
            go_wp2_with (first | (go_at_call_of 15 (Value.int IntKind.u8 44); refine (adig_44 _).mono ?_; rintro e w' ⟨rfl, rfl⟩) | (go_at_call_of 15 (Value.int IntKind.u8 46); refine (adig_46 _).mono ?_; rintro e w' ⟨rfl, rfl⟩) | (go_at_call_of 15 (Value.int IntKind.u8 58); refine (adig_58 _).mono ?_; rintro e w' ⟨rfl, rfl⟩) | (go_at_call 15; refine (adig_any _ _).mono ?_; rintro e w' ⟨rfl, rfl⟩) | (go_at_call_of 16 (Value.int IntKind.i64 0); refine (atwo_0 s (by omega) g0 g1 _).mono ?_; rintro e w' ⟨rfl, rfl⟩))
            all_goals go_meet
            all_goals exact ⟨2 + (1 + k), isoL (two s[0] s[1]) (pm) (ps) (s.extract 3 (3 + k)) u1, by go_num, by omega, (s.extract 3 (3 + k)), rfl, (two_new w (two s[0] s[1]) (pm) (ps) (s.extract 3 (3 + k)) u1 _ rfl _ rfl).1, (two_new w (two s[0] s[1]) (pm) (ps) (s.extract 3 (3 + k)) u1 _ rfl _ rfl).2, by repeat (first | exact (((Below.refl _ _).alloc (Nat.le_refl _) _).alloc (by simp) _) | apply Below.drew | apply below_drewN), .inr ⟨SEP.out, k, HL.out.symm, by omega, rfl, rfl⟩⟩
    case rest =>
      obtain ⟨q, cs, rfl, hq, hr⟩ := hcut
      obtain ⟨hA, hI, hT⟩ : isoAt wc w.heap.size = cs.toArray ∧ Iso cs.toArray ∧ Has wc w.heap.size ∧ Wrt wc (w.heap.size + 1) := by
        obtain ⟨fr, rfl, a, b, _⟩ := hr.out
        exact ⟨(isoAt_of rfl a).1, ⟨rfl, all_oneCell_toArray (isoL_one _ _ _ _ _)⟩, (isoAt_of rfl a).2, b⟩
      obtain ⟨hH, hW⟩ := hT
      have hH1 : Has wc.drew w.heap.size := hH
      have hW1 : Wrt wc.drew (w.heap.size + 1) := by rw [Wrt_drew]; exact hW
      have hA1 : isoAt wc.drew w.heap.size = cs.toArray := hA
      have q0 : (0 : Int) ≤ (q : Int) := by omega
      have q1 : (q : Int) ≤ (s.size : Int) := by omega
      clear hu1 hu2 hu3
      go_wp2
      go_region
      all_goals (try go_wp2)
      have hset : (loadVar 38 ⟨w.heap.size + 1, 0, none⟩).run Yba.prog (wc.drew.setCells (w.heap.size + 1) 0 cs) = .ok (.agg cs.toArray) (wc.drew.setCells (w.heap.size + 1) 0 cs) := by simpa using set_reads wc.drew (w.heap.size + 1) cs.toArray hW1 hI
      obtain ⟨fr, hfr, _, _, hbel, htl⟩ := hr.out
      exact bodyPost_ret (v := .tuple #[.agg cs.toArray, .string (s.extract q s.size), .bool true]) (by simp [results, Yba.results10, hset, asAddr]) rfl ⟨.inl ⟨q, fr, htl, by rw [hfr]⟩, below_set _ (by omega) _ _ _ hbel.drew⟩
  have k46f : ((s[2].toNat : Int) == 46) = false := by simpa using k46
  clear k46
  have SEP : Hid (¬ Sep s 2) := sep_no s 2 (by omega) ⟨k44f, k46f⟩
  go_enter Yba.func10, Yba.ntmps10
  go_upto_if 148 with (first | (go_at_call_of 15 (Value.int IntKind.u8 44); refine (adig_44 _).mono ?_; rintro e w' ⟨rfl, rfl⟩) | (go_at_call_of 15 (Value.int IntKind.u8 46); refine (adig_46 _).mono ?_; rintro e w' ⟨rfl, rfl⟩) | (go_at_call_of 15 (Value.int IntKind.u8 58); refine (adig_58 _).mono ?_; rintro e w' ⟨rfl, rfl⟩) | (go_at_call 15; refine (adig_any _ _).mono ?_; rintro e w' ⟨rfl, rfl⟩) | (go_at_call_of 16 (Value.int IntKind.i64 0); refine (atwo_0 s (by omega) g0 g1 _).mono ?_; rintro e w' ⟨rfl, rfl⟩))
  go_cut [7] (fun pos wc => ∃ (q : Nat) (cs : List Value), pos = .int .i64 q ∧ q ≤ s.size ∧ Hid (∃ fr, cs = isoL (two s[0] s[1]) (pm) (ps) fr u1 ∧ wc.rangeAt w.heap.size 0 cs ∧ wc.there (w.heap.size + 1) 0 19 ∧ Below w.heap.size w wc ∧ TailOk s 2 pf q fr))
  case first =>
    go_wp2_with (first | (go_at_call_of 15 (Value.int IntKind.u8 44); refine (adig_44 _).mono ?_; rintro e w' ⟨rfl, rfl⟩) | (go_at_call_of 15 (Value.int IntKind.u8 46); refine (adig_46 _).mono ?_; rintro e w' ⟨rfl, rfl⟩) | (go_at_call_of 15 (Value.int IntKind.u8 58); refine (adig_58 _).mono ?_; rintro e w' ⟨rfl, rfl⟩) | (go_at_call 15; refine (adig_any _ _).mono ?_; rintro e w' ⟨rfl, rfl⟩) | (go_at_call_of 16 (Value.int IntKind.i64 0); refine (atwo_0 s (by omega) g0 g1 _).mono ?_; rintro e w' ⟨rfl, rfl⟩))
    go_meet
    exact ⟨2, isoL (two s[0] s[1]) (pm) (ps) pf u1, by go_num, by omega, pf, rfl, (two_new w (two s[0] s[1]) (pm) (ps) pf u1 _ rfl _ rfl).1, (two_new w (two s[0] s[1]) (pm) (ps) pf u1 _ rfl _ rfl).2, by repeat (first | exact (((Below.refl _ _).alloc (Nat.le_refl _) _).alloc (by simp) _) | apply Below.drew | apply below_drewN), .inl ⟨SEP.out, rfl, rfl⟩⟩
  case rest =>
    obtain ⟨q, cs, rfl, hq, hr⟩ := hcut
    obtain ⟨hA, hI, hT⟩ : isoAt wc w.heap.size = cs.toArray ∧ Iso cs.toArray ∧ Has wc w.heap.size ∧ Wrt wc (w.heap.size + 1) := by
      obtain ⟨fr, rfl, a, b, _⟩ := hr.out
      exact ⟨(isoAt_of rfl a).1, ⟨rfl, all_oneCell_toArray (isoL_one _ _ _ _ _)⟩, (isoAt_of rfl a).2, b⟩
    obtain ⟨hH, hW⟩ := hT
    have hH1 : Has wc.drew w.heap.size := hH
    have hW1 : Wrt wc.drew (w.heap.size + 1) := by rw [Wrt_drew]; exact hW
    have hA1 : isoAt wc.drew w.heap.size = cs.toArray := hA
    have q0 : (0 : Int) ≤ (q : Int) := by omega
    have q1 : (q : Int) ≤ (s.size : Int) := by omega
    clear hu1 hu2 hu3
    go_wp2
    go_region
    all_goals (try go_wp2)
    have hset : (loadVar 38 ⟨w.heap.size + 1, 0, none⟩).run Yba.prog (wc.drew.setCells (w.heap.size + 1) 0 cs) = .ok (.agg cs.toArray) (wc.drew.setCells (w.heap.size + 1) 0 cs) := by simpa using set_reads wc.drew (w.heap.size + 1) cs.toArray hW1 hI
    obtain ⟨fr, hfr, _, _, hbel, htl⟩ := hr.out
    exact bodyPost_ret (v := .tuple #[.agg cs.toArray, .string (s.extract q s.size), .bool true]) (by simp [results, Yba.results10, hset, asAddr]) rfl ⟨.inl ⟨q, fr, htl, by rw [hfr]⟩, below_set _ (by omega) _ _ _ hbel.drew⟩

set_option maxHeartbeats 6400000 in
set_option maxRecDepth 100000 in
theorem exp_n4b (s : ByteArray) (ph pm ps : Int) (pf : ByteArray) (pu u1 u2 u3 : Int) (hu1 : (3600000000000 : Int) = u1) (hu2 : (60000000000 : Int) = u2) (hu3 : (1000000000 : Int) = u3) (hs : s.size ≤ 1024) (h2 : 4 ≤ s.size) (g0 : digB s[0] = true) (g1 : digB s[1] = true) (gt2 : (2 : Int) < s.size) (n58 : ((s[2].toNat : Int) == 58) = false) (ge4 : (4 : Int) ≤ s.size) (d2 : digB s[2] = true) (d3 : digB s[3] = false) (kn : (2 : Int) < s.size) (k44 : ((s[2].toNat : Int) == 44) = false) (k46 : ((s[2].toNat : Int) == 46) = false) (w : World) :
    Calls Yba.prog 10 #[.string s, isoV ph pm ps pf pu] w fun e w' => ((∃ q fr, TailOk s 2 pf q fr ∧ e = .returned (.tuple #[.agg (isoL (two s[0] s[1]) (pm) (ps) fr u1).toArray, .string (s.extract q s.size), .bool true])) ∨ (TailNo s 2 ∧ e = .returned (.tuple #[.agg (isoL (two s[0] s[1]) (pm) (ps) pf u1).toArray, .string ⟨#[]⟩, .bool false]))) ∧ Below w.heap.size w w' := by
  go_enter Yba.func10, Yba.ntmps10
  go_upto_if 148 with (first | (go_at_call_of 15 (Value.int IntKind.u8 44); refine (adig_44 _).mono ?_; rintro e w' ⟨rfl, rfl⟩) | (go_at_call_of 15 (Value.int IntKind.u8 46); refine (adig_46 _).mono ?_; rintro e w' ⟨rfl, rfl⟩) | (go_at_call_of 15 (Value.int IntKind.u8 58); refine (adig_58 _).mono ?_; rintro e w' ⟨rfl, rfl⟩) | (go_at_call 15; refine (adig_any _ _).mono ?_; rintro e w' ⟨rfl, rfl⟩) | (go_at_call_of 16 (Value.int IntKind.i64 0); refine (atwo_0 s (by omega) g0 g1 _).mono ?_; rintro e w' ⟨rfl, rfl⟩))
  go_cut [7] (fun pos wc => ∃ (q : Nat) (cs : List Value), pos = .int .i64 q ∧ q ≤ s.size ∧ Hid (∃ fr, cs = isoL (two s[0] s[1]) (pm) (ps) fr u1 ∧ wc.rangeAt w.heap.size 0 cs ∧ wc.there (w.heap.size + 1) 0 19 ∧ Below w.heap.size w wc ∧ TailOk s 2 pf q fr))
  case first =>
    go_wp2_with (first | (go_at_call_of 15 (Value.int IntKind.u8 44); refine (adig_44 _).mono ?_; rintro e w' ⟨rfl, rfl⟩) | (go_at_call_of 15 (Value.int IntKind.u8 46); refine (adig_46 _).mono ?_; rintro e w' ⟨rfl, rfl⟩) | (go_at_call_of 15 (Value.int IntKind.u8 58); refine (adig_58 _).mono ?_; rintro e w' ⟨rfl, rfl⟩) | (go_at_call 15; refine (adig_any _ _).mono ?_; rintro e w' ⟨rfl, rfl⟩) | (go_at_call_of 16 (Value.int IntKind.i64 0); refine (atwo_0 s (by omega) g0 g1 _).mono ?_; rintro e w' ⟨rfl, rfl⟩))
    go_meet
    exact ⟨2, isoL (two s[0] s[1]) (pm) (ps) pf u1, by go_num, by omega, pf, rfl, (two_new w (two s[0] s[1]) (pm) (ps) pf u1 _ rfl _ rfl).1, (two_new w (two s[0] s[1]) (pm) (ps) pf u1 _ rfl _ rfl).2, by repeat (first | exact (((Below.refl _ _).alloc (Nat.le_refl _) _).alloc (by simp) _) | apply Below.drew | apply below_drewN), .inl ⟨sep_no s 2 (by omega) ⟨k44, k46⟩, rfl, rfl⟩⟩
  case rest =>
    obtain ⟨q, cs, rfl, hq, hr⟩ := hcut
    obtain ⟨hA, hI, hT⟩ : isoAt wc w.heap.size = cs.toArray ∧ Iso cs.toArray ∧ Has wc w.heap.size ∧ Wrt wc (w.heap.size + 1) := by
      obtain ⟨fr, rfl, a, b, _⟩ := hr.out
      exact ⟨(isoAt_of rfl a).1, ⟨rfl, all_oneCell_toArray (isoL_one _ _ _ _ _)⟩, (isoAt_of rfl a).2, b⟩
    obtain ⟨hH, hW⟩ := hT
    have hH1 : Has wc.drew w.heap.size := hH
    have hW1 : Wrt wc.drew (w.heap.size + 1) := by rw [Wrt_drew]; exact hW
    have hA1 : isoAt wc.drew w.heap.size = cs.toArray := hA
    have q0 : (0 : Int) ≤ (q : Int) := by omega
    have q1 : (q : Int) ≤ (s.size : Int) := by omega
    clear hu1 hu2 hu3
    go_wp2
    go_region
    all_goals (try go_wp2)
    have hset : (loadVar 38 ⟨w.heap.size + 1, 0, none⟩).run Yba.prog (wc.drew.setCells (w.heap.size + 1) 0 cs) = .ok (.agg cs.toArray) (wc.drew.setCells (w.heap.size + 1) 0 cs) := by simpa using set_reads wc.drew (w.heap.size + 1) cs.toArray hW1 hI
    obtain ⟨fr, hfr, _, _, hbel, htl⟩ := hr.out
    exact bodyPost_ret (v := .tuple #[.agg cs.toArray, .string (s.extract q s.size), .bool true]) (by simp [results, Yba.results10, hset, asAddr]) rfl ⟨.inl ⟨q, fr, htl, by rw [hfr]⟩, below_set _ (by omega) _ _ _ hbel.drew⟩

set_option maxHeartbeats 6400000 in
set_option maxRecDepth 100000 in
theorem exp_n4e (s : ByteArray) (ph pm ps : Int) (pf : ByteArray) (pu u1 u2 u3 : Int) (hu1 : (3600000000000 : Int) = u1) (hu2 : (60000000000 : Int) = u2) (hu3 : (1000000000 : Int) = u3) (hs : s.size ≤ 1024) (h2 : 4 ≤ s.size) (g0 : digB s[0] = true) (g1 : digB s[1] = true) (gt2 : (2 : Int) < s.size) (n58 : ((s[2].toNat : Int) == 58) = false) (ge4 : (4 : Int) ≤ s.size) (d2 : digB s[2] = true) (d3 : digB s[3] = true) (lt6 : (s.size : Int) < 6) (ke : (s.size : Int) ≤ 4) (w : World) :
    Calls Yba.prog 10 #[.string s, isoV ph pm ps pf pu] w fun e w' => ((∃ q fr, TailOk s 4 pf q fr ∧ e = .returned (.tuple #[.agg (isoL (two s[0] s[1]) (two s[2] s[3]) (ps) fr u2).toArray, .string (s.extract q s.size), .bool true])) ∨ (TailNo s 4 ∧ e = .returned (.tuple #[.agg (isoL (two s[0] s[1]) (two s[2] s[3]) (ps) pf u2).toArray, .string ⟨#[]⟩, .bool false]))) ∧ Below w.heap.size w w' := by
  go_enter Yba.func10, Yba.ntmps10
  go_upto_if 148 with (first | (go_at_call_of 15 (Value.int IntKind.u8 44); refine (adig_44 _).mono ?_; rintro e w' ⟨rfl, rfl⟩) | (go_at_call_of 15 (Value.int IntKind.u8 46); refine (adig_46 _).mono ?_; rintro e w' ⟨rfl, rfl⟩) | (go_at_call_of 15 (Value.int IntKind.u8 58); refine (adig_58 _).mono ?_; rintro e w' ⟨rfl, rfl⟩) | (go_at_call 15; refine (adig_any _ _).mono ?_; rintro e w' ⟨rfl, rfl⟩) | (go_at_call_of 16 (Value.int IntKind.i64 0); refine (atwo_0 s (by omega) g0 g1 _).mono ?_; rintro e w' ⟨rfl, rfl⟩) | (go_at_call_of 16 (Value.int IntKind.i64 2); refine (atwo_2 s (by omega) d2 d3 _).mono ?_; rintro e w' ⟨rfl, rfl⟩))
  go_cut [7] (fun pos wc => ∃ (q : Nat) (cs : List Value), pos = .int .i64 q ∧ q ≤ s.size ∧ Hid (∃ fr, cs = isoL (two s[0] s[1]) (two s[2] s[3]) (ps) fr u2 ∧ wc.rangeAt w.heap.size 0 cs ∧ wc.there (w.heap.size + 1) 0 19 ∧ Below w.heap.size w wc ∧ TailOk s 4 pf q fr))
  case first =>
    go_wp2_with (first | (go_at_call_of 15 (Value.int IntKind.u8 44); refine (adig_44 _).mono ?_; rintro e w' ⟨rfl, rfl⟩) | (go_at_call_of 15 (Value.int IntKind.u8 46); refine (adig_46 _).mono ?_; rintro e w' ⟨rfl, rfl⟩) | (go_at_call_of 15 (Value.int IntKind.u8 58); refine (adig_58 _).mono ?_; rintro e w' ⟨rfl, rfl⟩) | (go_at_call 15; refine (adig_any _ _).mono ?_; rintro e w' ⟨rfl, rfl⟩) | (go_at_call_of 16 (Value.int IntKind.i64 0); refine (atwo_0 s (by omega) g0 g1 _).mono ?_; rintro e w' ⟨rfl, rfl⟩) | (go_at_call_of 16 (Value.int IntKind.i64 2); refine (atwo_2 s (by omega) d2 d3 _).mono ?_; rintro e w' ⟨rfl, rfl⟩))
    go_meet
    exact ⟨4, isoL (two s[0] s[1]) (two s[2] s[3]) (ps) pf u2, by go_num, by omega, pf, rfl, (two_new w (two s[0] s[1]) (two s[2] s[3]) (ps) pf u2 _ rfl _ rfl).1, (two_new w (two s[0] s[1]) (two s[2] s[3]) (ps) pf u2 _ rfl _ rfl).2, by repeat (first | exact (((Below.refl _ _).alloc (Nat.le_refl _) _).alloc (by simp) _) | apply Below.drew | apply below_drewN), .inl ⟨sep_end s 4 (by omega), rfl, rfl⟩⟩
  case rest =>
    obtain ⟨q, cs, rfl, hq, hr⟩ := hcut
    obtain ⟨hA, hI, hT⟩ : isoAt wc w.heap.size = cs.toArray ∧ Iso cs.toArray ∧ Has wc w.heap.size ∧ Wrt wc (w.heap.size + 1) := by
      obtain ⟨fr, rfl, a, b, _⟩ := hr.out
      exact ⟨(isoAt_of rfl a).1, ⟨rfl, all_oneCell_toArray (isoL_one _ _ _ _ _)⟩, (isoAt_of rfl a).2, b⟩
    obtain ⟨hH, hW⟩ := hT
    have hH1 : Has wc.drew w.heap.size := hH
    have hW1 : Wrt wc.drew (w.heap.size + 1) := by rw [Wrt_drew]; exact hW
    have hA1 : isoAt wc.drew w.heap.size = cs.toArray := hA
    have q0 : (0 : Int) ≤ (q : Int) := by omega
    have q1 : (q : Int) ≤ (s.size : Int) := by omega
    clear hu1 hu2 hu3
    go_wp2
    go_region
    all_goals (try go_wp2)
    have hset : (loadVar 38 ⟨w.heap.size + 1, 0, none⟩).run Yba.prog (wc.drew.setCells (w.heap.size + 1) 0 cs) = .ok (.agg cs.toArray) (wc.drew.setCells (w.heap.size + 1) 0 cs) := by simpa using set_reads wc.drew (w.heap.size + 1) cs.toArray hW1 hI
    obtain ⟨fr, hfr, _, _, hbel, htl⟩ := hr.out
    exact bodyPost_ret (v := .tuple #[.agg cs.toArray, .string (s.extract q s.size), .bool true]) (by simp [results, Yba.results10, hset, asAddr]) rfl ⟨.inl ⟨q, fr, htl, by rw [hfr]⟩, below_set _ (by omega) _ _ _ hbel.drew⟩

end Go.Proofs.Ybulkcmju
