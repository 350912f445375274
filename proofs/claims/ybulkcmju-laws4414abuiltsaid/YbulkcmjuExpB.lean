/-
  The contract of zzs4414aexpect, a theorem a way through it. (bad)
-/
import Derived.Test.YbulkcmjuIso
namespace Go.Proofs.Ybulkcmju
open Go.RowKit
set_option linter.unusedVariables false
attribute [local go_sem ↓] exec_load38 exec_store38
attribute [local go_sem] ld38_at st38_at isoAt_drew Has_drew Wrt_drew Has_two isoAt_two Wrt_two iso_lit

set_option maxHeartbeats 1600000 in
set_option maxRecDepth 100000 in
theorem exp_b0 (s : ByteArray) (ph pm ps : Int) (pf : ByteArray) (pu : Int) (hs : s.size ≤ 1024) (hb : (s.size : Int) < 2) (w : World) :
    Calls Yba.prog 10 #[.string s, isoV ph pm ps pf pu] w fun e w' => e = .returned (.tuple #[.agg (isoL ph pm ps pf pu).toArray, .string ⟨#[]⟩, .bool false]) ∧ Below w.heap.size w w' := by
  go_enter Yba.func10, Yba.ntmps10
  go_wp2_with (first | (go_at_call 15; refine (adig_any _ _).mono ?_; rintro e w' ⟨rfl, rfl⟩))
  all_goals exact bodyPost_ret (v := .tuple #[.agg (isoL ph pm ps pf pu).toArray, .string ⟨#[]⟩, .bool false]) (res10 _ (w.heap.size + 1) _ _ _ _ rfl rfl rfl (set_reads_lit _ _ ph pm ps pf pu (by (try simp only [Wrt_drew]); exact Wrt_two _ _ _ rfl))) rfl ⟨rfl, below_set _ (by omega) _ _ _ (by repeat (first | exact (((Below.refl _ _).alloc (Nat.le_refl _) _).alloc (by simp) _) | apply Below.drew | apply below_drewN))⟩

set_option maxHeartbeats 1600000 in
set_option maxRecDepth 100000 in
theorem exp_b1 (s : ByteArray) (ph pm ps : Int) (pf : ByteArray) (pu : Int) (hs : s.size ≤ 1024) (hb : (2 : Int) ≤ s.size) (h0 : digB s[0] = false) (w : World) :
    Calls Yba.prog 10 #[.string s, isoV ph pm ps pf pu] w fun e w' => e = .returned (.tuple #[.agg (isoL ph pm ps pf pu).toArray, .string ⟨#[]⟩, .bool false]) ∧ Below w.heap.size w w' := by
  go_enter Yba.func10, Yba.ntmps10
  go_wp2_with (first | (go_at_call 15; refine (adig_any _ _).mono ?_; rintro e w' ⟨rfl, rfl⟩))
  all_goals exact bodyPost_ret (v := .tuple #[.agg (isoL ph pm ps pf pu).toArray, .string ⟨#[]⟩, .bool false]) (res10 _ (w.heap.size + 1) _ _ _ _ rfl rfl rfl (set_reads_lit _ _ ph pm ps pf pu (by (try simp only [Wrt_drew]); exact Wrt_two _ _ _ rfl))) rfl ⟨rfl, below_set _ (by omega) _ _ _ (by repeat (first | exact (((Below.refl _ _).alloc (Nat.le_refl _) _).alloc (by simp) _) | apply Below.drew | apply below_drewN))⟩

set_option maxHeartbeats 1600000 in
set_option maxRecDepth 100000 in
theorem exp_b2 (s : ByteArray) (ph pm ps : Int) (pf : ByteArray) (pu : Int) (hs : s.size ≤ 1024) (hb : (2 : Int) ≤ s.size) (h0 : digB s[0] = true) (h1 : digB s[1] = false) (w : World) :
    Calls Yba.prog 10 #[.string s, isoV ph pm ps pf pu] w fun e w' => e = .returned (.tuple #[.agg (isoL ph pm ps pf pu).toArray, .string ⟨#[]⟩, .bool false]) ∧ Below w.heap.size w w' := by
  go_enter Yba.func10, Yba.ntmps10
  go_wp2_with (first | (go_at_call 15; refine (adig_any _ _).mono ?_; rintro e w' ⟨rfl, rfl⟩))
  all_goals exact bodyPost_ret (v := .tuple #[.agg (isoL ph pm ps pf pu).toArray, .string ⟨#[]⟩, .bool false]) (res10 _ (w.heap.size + 1) _ _ _ _ rfl rfl rfl (set_reads_lit _ _ ph pm ps pf pu (by (try simp only [Wrt_drew]); exact Wrt_two _ _ _ rfl))) rfl ⟨rfl, below_set _ (by omega) _ _ _ (by repeat (first | exact (((Below.refl _ _).alloc (Nat.le_refl _) _).alloc (by simp) _) | apply Below.drew | apply below_drewN))⟩

end Go.Proofs.Ybulkcmju
