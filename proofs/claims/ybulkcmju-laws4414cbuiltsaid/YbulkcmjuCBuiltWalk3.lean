/-
  The walk of LawS4414CBuilt at the decimal form.
-/
import Derived.Test.YbulkcmjuCBuiltWalk
namespace Go.Proofs.Ybulkcmju
open Go.RowKit

/-- The digits that are made of the first k bytes. -/
def dgs (s : ByteArray) (k : Nat) : List Int := (s.data.toList.take k).map fun c => 48 + (c.toNat : Int) % 10
theorem dgs_succ (s : ByteArray) (k : Nat) (h : k < s.size) : dgs s (k + 1) = dgs s k ++ [48 + (s[k].toNat : Int) % 10] := by
  unfold dgs
  rw [List.take_succ_eq_append_getElem (by simpa using h), List.map_append]
  rfl
theorem dgs_length (s : ByteArray) (k : Nat) (h : k ≤ s.size) : (dgs s k).length = k := by
  unfold dgs
  rw [List.length_map, List.length_take]
  have : s.data.toList.length = s.size := rfl
  omega

set_option maxHeartbeats 1600000 in
set_option maxRecDepth 100000 in
theorem walk3p (a1 a2 a3 : Int) (s S D : ByteArray) (w : World) (hs : (s.size : Int) ≤ 1024) (hs0 : (0 : Int) < (s.size : Int)) (b1 : 0 ≤ a1) (b2 : a1 ≤ 255) (c1 : 0 ≤ a2) (c2 : a2 ≤ 255) (d1 : 0 ≤ a3) (d2 : a3 ≤ 255) (hk : a3 % 4 = 3)
    (hS : strOfNums (43 :: (48 + a1 % 100 / 10) :: (48 + a1 % 10) :: 46 :: dgs s s.size) = S) (hD : strOfNums (dgs s s.size) = D) (hz : zfun S = (⟨S, 4, false, a1 % 100, 0, D⟩, true)) (hSz : S.size ≤ maxLen) :
    Calls Yba.prog 6 #[.bool false, .int .u8 a1, .int .u8 a2, .int .u8 a3, .string s] w fun e w' => e = .returned (.bool true) ∧ Below w.heap.size w w' := by
  obtain ⟨i0, hi, hz0, hz1, hz2⟩ := info_parts Yba.info5
  have HS : Hid (strOfNums (43 :: (48 + a1 % 100 / 10) :: (48 + a1 % 10) :: 46 :: dgs s s.size) = S) := hS
  have HD : Hid (strOfNums (dgs s s.size) = D) := hD
  have HZ : Hid (zfun S = (⟨S, 4, false, a1 % 100, 0, D⟩, true)) := hz
  clear hS hz hD
  go_enter Yba.func6, Yba.ntmps6
  go_wp2_with (at_make; refine wpList_make_own _ rfl _ _ 22 rfl w.heap.size 5 i0 (.int .u8 0) 1 Yba.underlying22 hi hz0 hz1 _ _ _ (s.size + 8) rfl rfl ?hC ?hb2 ?hb3 ?hb4 ?_)
  case hC => omega
  case hb2 => rw [hz2]; omega
  case hb3 => unfold maxLen; omega
  case hb4 => exact Nat.le_refl _
  intro w1 hown1 hg1
  have hs1 := hg1.size
  go_wp2_with (at_builtin; refine wpList_append_fits _ rfl (.tmp 36) (.tmp 46) 22 rfl w.heap.size 5 i0 1 Yba.underlying22 hi hz1 w.heap.size 0 (s.size + 8) [] rfl (hown1.alloc _) ⟨w1.heap.size, 0, none⟩ 3 3 _ rfl ?hlen (new_cells _ _ _) ?hone ?hcap ?_)
  case hone => exact ⟨rfl, rfl, rfl⟩
  case hcap => omega
  intro w2 hown2 hg2
  have bel2 : Below w.heap.size w w2 := (((Below.refl _ _).grown hg1 (Nat.le_refl _) (by simp)).alloc hs1 _).grown hg2 (by simp; omega) (by simp)
  have hs2 : w.heap.size ≤ w2.heap.size := bel2.size
  have hlt2 : w.heap.size < w2.heap.size := (hown2.lt _ rfl).2
  clear hown1 hg1 hg2 hs1
  go_wp2_with (at_make; refine wpList_make_own _ rfl _ _ 22 rfl w2.heap.size 5 i0 (.int .u8 0) 1 Yba.underlying22 hi hz0 hz1 _ _ _ (s.size + 1) rfl rfl ?hCd ?hb2d ?hb3d ?hb4d ?_)
  case hCd => omega
  case hb2d => rw [hz2]; omega
  case hb3d => unfold maxLen; omega
  case hb4d => exact Nat.le_refl _
  intro w3 hown3 hg3
  have hob : w3.ownsRow w.heap.size 5 1 (.slice (some ⟨w.heap.size, 0, none⟩) 3 (s.size + 8)) 3 ([43, 48 + a1 % 100 / 10, 48 + a1 % 10].map (Value.int .u8)) := hown2.kept hg3 (.inr (by simp [Value.ownBlock]))
  have bel3 : Below w.heap.size w w3 := bel2.grown hg3 hs2 (by simp)
  have hlt3 : w2.heap.size < w3.heap.size := (hown3.lt _ rfl).2
  clear hown2 bel2 hg3
  go_wp2
  go_loopw [15, 17] (fun v i wr => ∃ k : Nat, k ≤ s.size ∧ i = .int .i64 k ∧ v = .slice (some ⟨w2.heap.size, 0, none⟩) k (s.size + 1) ∧ wr.ownsRow w2.heap.size 5 1 (.slice (some ⟨w2.heap.size, 0, none⟩) k (s.size + 1)) k ((dgs s k).map (Value.int .u8)) ∧
      wr.ownsRow w.heap.size 5 1 (.slice (some ⟨w.heap.size, 0, none⟩) 3 (s.size + 8)) 3 ([43, 48 + a1 % 100 / 10, 48 + a1 % 10].map (Value.int .u8)) ∧ Below w.heap.size w wr ∧ w2.heap.size < wr.heap.size) (fun _ i _ => s.size - (intOf i).toNat)
  case atStart => exact ⟨0, Nat.zero_le _, rfl, rfl, hown3, hob, bel3, hlt3⟩
  case round =>
    obtain ⟨k, hk2, rfl, rfl, hod, hobr, belr, hltr⟩ := hrel
    clear hob bel3 hlt3 hown3
    by_cases hlt : k < s.size
    · go_wp2_with (at_builtin; refine wpList_append_fits _ rfl (.tmp 90) (.tmp 96) 22 rfl w2.heap.size 5 i0 1 Yba.underlying22 hi hz1 w2.heap.size k (s.size + 1) _ rfl (hod.alloc _) ⟨wr.heap.size, 0, none⟩ 1 1 _ rfl ?hlenr (new_cells _ _ _) ?honer ?hcapr ?_)
      case honer => rfl
      case hcapr => omega
      intro w4 hown4 hg4
      have hod4 : w4.ownsRow w2.heap.size 5 1 (.slice (some ⟨w2.heap.size, 0, none⟩) (k + 1) (s.size + 1)) (k + 1) ((dgs s (k + 1)).map (Value.int .u8)) := by rw [dgs_succ s k hlt, List.map_append]; exact hown4
      have hob4 := (hobr.alloc _).kept hg4 (.inr (by simp [Value.ownBlock]; omega))
      have bel4 : Below w.heap.size w w4 := (belr.alloc (by omega) _).grown hg4 (by simp; omega) (by simp; omega)
      have hlt4 : w2.heap.size < w4.heap.size := (hod4.lt _ rfl).2
      clear hown4 hg4 hod hobr belr hltr
      go_wp2
      go_roundw
      case rel => exact ⟨k + 1, by omega, by go_num, rfl, hod4, hob4, bel4, hlt4⟩
      case measure => simp [intOf]; omega
    · obtain rfl : k = s.size := by omega
      clear hlt
      go_wp2_with (at_builtin; refine wpList_append_fits _ rfl (.tmp 104) (.tmp 105) 22 rfl w.heap.size 5 i0 1 Yba.underlying22 hi hz1 w.heap.size 3 (s.size + 8) _ rfl (hobr.alloc _) ⟨wr.heap.size, 0, none⟩ 1 1 _ rfl ?hlenx (new_cells _ _ _) ?honex ?hcapx ?_)
      case honex => rfl
      case hcapx => omega
      intro w5 hown5 hg5
      have hod5 := (hod.alloc _).kept hg5 (.inr (by simp [Value.ownBlock]; omega))
      have bel5 : Below w.heap.size w w5 := (belr.alloc (by omega) _).grown hg5 (by simp; omega) (by simp)
      have hlt5 : w2.heap.size < w5.heap.size := (hod5.lt _ rfl).2
      clear hg5 hod hobr belr hltr
      go_wp2_with (at_builtin; refine wpList_append_fits _ rfl (.tmp 107) (.tmp 108) 22 rfl w.heap.size 5 i0 1 Yba.underlying22 hi hz1 w.heap.size 4 (s.size + 8) _ rfl hown5 ⟨w2.heap.size, 0, none⟩ s.size (s.size + 1) ((dgs s s.size).map (Value.int .u8)) rfl ?hleny (hod5.cells rfl) ?honey ?hcapy ?_)
      case hleny => simp [dgs_length]
      case honey => intro u hu; obtain ⟨x, _, rfl⟩ := List.mem_map.1 hu; rfl
      case hcapy => omega
      intro w6 hown6 hg6
      have hod6 := hod5.kept hg6 (.inr (by simp [Value.ownBlock]; omega))
      have bel6 : Below w.heap.size w w6 := bel5.grown hg6 (by omega) (by simp)
      have hs6 : w.heap.size ≤ w6.heap.size := bel6.size
      have hcv := conv_own (xs := 43 :: (48 + a1 % 100 / 10) :: (48 + a1 % 10) :: 46 :: dgs s s.size) hown6 (by simp [dgs_length]; omega) HS.out
      have hcd := fun (o : Obj) => conv_own (w := w6.alloc o) (xs := dgs s s.size) (hod6.alloc o) (dgs_length s _ (Nat.le_refl _)) HD.out
      have BEL : Hid (Below w.heap.size w w6) := bel6
      clear hown5 hg6 hod5 bel5 hlt5 hown6 bel6 hod6
      go_wp2_with (go_at_call 8; refine (scan_of S _ _ HZ.out hSz _).mono ?_; rintro e wz ⟨rfl, belz⟩; obtain ⟨hcz, hfz⟩ := bcell belz; have hzz : w6.heap.size < wz.heap.size := by have := belz.size; simp at this; omega)
      go_ret
      exact ⟨rfl, ((BEL.out.alloc hs6 _).trans (belz.mono (by simp; omega))).alloc (by omega) _⟩

set_option maxHeartbeats 1600000 in
set_option maxRecDepth 100000 in
theorem walk3n (a1 a2 a3 : Int) (s S D : ByteArray) (w : World) (hs : (s.size : Int) ≤ 1024) (hs0 : (0 : Int) < (s.size : Int)) (b1 : 0 ≤ a1) (b2 : a1 ≤ 255) (c1 : 0 ≤ a2) (c2 : a2 ≤ 255) (d1 : 0 ≤ a3) (d2 : a3 ≤ 255) (hk : a3 % 4 = 3)
    (hS : strOfNums (45 :: (48 + a1 % 100 / 10) :: (48 + a1 % 10) :: 46 :: dgs s s.size) = S) (hD : strOfNums (dgs s s.size) = D) (hz : zfun S = (⟨S, 4, true, a1 % 100, 0, D⟩, true)) (hSz : S.size ≤ maxLen) :
    Calls Yba.prog 6 #[.bool true, .int .u8 a1, .int .u8 a2, .int .u8 a3, .string s] w fun e w' => e = .returned (.bool true) ∧ Below w.heap.size w w' := by
  obtain ⟨i0, hi, hz0, hz1, hz2⟩ := info_parts Yba.info5
  have HS : Hid (strOfNums (45 :: (48 + a1 % 100 / 10) :: (48 + a1 % 10) :: 46 :: dgs s s.size) = S) := hS
  have HD : Hid (strOfNums (dgs s s.size) = D) := hD
  have HZ : Hid (zfun S = (⟨S, 4, true, a1 % 100, 0, D⟩, true)) := hz
  clear hS hz hD
  go_enter Yba.func6, Yba.ntmps6
  go_wp2_with (at_make; refine wpList_make_own _ rfl _ _ 22 rfl w.heap.size 5 i0 (.int .u8 0) 1 Yba.underlying22 hi hz0 hz1 _ _ _ (s.size + 8) rfl rfl ?hC ?hb2 ?hb3 ?hb4 ?_)
  case hC => omega
  case hb2 => rw [hz2]; omega
  case hb3 => unfold maxLen; omega
  case hb4 => exact Nat.le_refl _
  intro w1 hown1 hg1
  have hs1 := hg1.size
  go_wp2_with (at_builtin; refine wpList_append_fits _ rfl (.tmp 36) (.tmp 46) 22 rfl w.heap.size 5 i0 1 Yba.underlying22 hi hz1 w.heap.size 0 (s.size + 8) [] rfl (hown1.alloc _) ⟨w1.heap.size, 0, none⟩ 3 3 _ rfl ?hlen (new_cells _ _ _) ?hone ?hcap ?_)
  case hone => exact ⟨rfl, rfl, rfl⟩
  case hcap => omega
  intro w2 hown2 hg2
  have bel2 : Below w.heap.size w w2 := (((Below.refl _ _).grown hg1 (Nat.le_refl _) (by simp)).alloc hs1 _).grown hg2 (by simp; omega) (by simp)
  have hs2 : w.heap.size ≤ w2.heap.size := bel2.size
  have hlt2 : w.heap.size < w2.heap.size := (hown2.lt _ rfl).2
  clear hown1 hg1 hg2 hs1
  go_wp2_with (at_make; refine wpList_make_own _ rfl _ _ 22 rfl w2.heap.size 5 i0 (.int .u8 0) 1 Yba.underlying22 hi hz0 hz1 _ _ _ (s.size + 1) rfl rfl ?hCd ?hb2d ?hb3d ?hb4d ?_)
  case hCd => omega
  case hb2d => rw [hz2]; omega
  case hb3d => unfold maxLen; omega
  case hb4d => exact Nat.le_refl _
  intro w3 hown3 hg3
  have hob : w3.ownsRow w.heap.size 5 1 (.slice (some ⟨w.heap.size, 0, none⟩) 3 (s.size + 8)) 3 ([45, 48 + a1 % 100 / 10, 48 + a1 % 10].map (Value.int .u8)) := hown2.kept hg3 (.inr (by simp [Value.ownBlock]))
  have bel3 : Below w.heap.size w w3 := bel2.grown hg3 hs2 (by simp)
  have hlt3 : w2.heap.size < w3.heap.size := (hown3.lt _ rfl).2
  clear hown2 bel2 hg3
  go_wp2
  go_loopw [15, 17] (fun v i wr => ∃ k : Nat, k ≤ s.size ∧ i = .int .i64 k ∧ v = .slice (some ⟨w2.heap.size, 0, none⟩) k (s.size + 1) ∧ wr.ownsRow w2.heap.size 5 1 (.slice (some ⟨w2.heap.size, 0, none⟩) k (s.size + 1)) k ((dgs s k).map (Value.int .u8)) ∧
      wr.ownsRow w.heap.size 5 1 (.slice (some ⟨w.heap.size, 0, none⟩) 3 (s.size + 8)) 3 ([45, 48 + a1 % 100 / 10, 48 + a1 % 10].map (Value.int .u8)) ∧ Below w.heap.size w wr ∧ w2.heap.size < wr.heap.size) (fun _ i _ => s.size - (intOf i).toNat)
  case atStart => exact ⟨0, Nat.zero_le _, rfl, rfl, hown3, hob, bel3, hlt3⟩
  case round =>
    obtain ⟨k, hk2, rfl, rfl, hod, hobr, belr, hltr⟩ := hrel
    clear hob bel3 hlt3 hown3
    by_cases hlt : k < s.size
    · go_wp2_with (at_builtin; refine wpList_append_fits _ rfl (.tmp 90) (.tmp 96) 22 rfl w2.heap.size 5 i0 1 Yba.underlying22 hi hz1 w2.heap.size k (s.size + 1) _ rfl (hod.alloc _) ⟨wr.heap.size, 0, none⟩ 1 1 _ rfl ?hlenr (new_cells _ _ _) ?honer ?hcapr ?_)
      case honer => rfl
      case hcapr => omega
      intro w4 hown4 hg4
      have hod4 : w4.ownsRow w2.heap.size 5 1 (.slice (some ⟨w2.heap.size, 0, none⟩) (k + 1) (s.size + 1)) (k + 1) ((dgs s (k + 1)).map (Value.int .u8)) := by rw [dgs_succ s k hlt, List.map_append]; exact hown4
      have hob4 := (hobr.alloc _).kept hg4 (.inr (by simp [Value.ownBlock]; omega))
      have bel4 : Below w.heap.size w w4 := (belr.alloc (by omega) _).grown hg4 (by simp; omega) (by simp; omega)
      have hlt4 : w2.heap.size < w4.heap.size := (hod4.lt _ rfl).2
      clear hown4 hg4 hod hobr belr hltr
      go_wp2
      go_roundw
      case rel => exact ⟨k + 1, by omega, by go_num, rfl, hod4, hob4, bel4, hlt4⟩
      case measure => simp [intOf]; omega
    · obtain rfl : k = s.size := by omega
      clear hlt
      go_wp2_with (at_builtin; refine wpList_append_fits _ rfl (.tmp 104) (.tmp 105) 22 rfl w.heap.size 5 i0 1 Yba.underlying22 hi hz1 w.heap.size 3 (s.size + 8) _ rfl (hobr.alloc _) ⟨wr.heap.size, 0, none⟩ 1 1 _ rfl ?hlenx (new_cells _ _ _) ?honex ?hcapx ?_)
      case honex => rfl
      case hcapx => omega
      intro w5 hown5 hg5
      have hod5 := (hod.alloc _).kept hg5 (.inr (by simp [Value.ownBlock]; omega))
      have bel5 : Below w.heap.size w w5 := (belr.alloc (by omega) _).grown hg5 (by simp; omega) (by simp)
      have hlt5 : w2.heap.size < w5.heap.size := (hod5.lt _ rfl).2
      clear hg5 hod hobr belr hltr
      go_wp2_with (at_builtin; refine wpList_append_fits _ rfl (.tmp 107) (.tmp 108) 22 rfl w.heap.size 5 i0 1 Yba.underlying22 hi hz1 w.heap.size 4 (s.size + 8) _ rfl hown5 ⟨w2.heap.size, 0, none⟩ s.size (s.size + 1) ((dgs s s.size).map (Value.int .u8)) rfl ?hleny (hod5.cells rfl) ?honey ?hcapy ?_)
      case hleny => simp [dgs_length]
      case honey => intro u hu; obtain ⟨x, _, rfl⟩ := List.mem_map.1 hu; rfl
      case hcapy => omega
      intro w6 hown6 hg6
      have hod6 := hod5.kept hg6 (.inr (by simp [Value.ownBlock]; omega))
      have bel6 : Below w.heap.size w w6 := bel5.grown hg6 (by omega) (by simp)
      have hs6 : w.heap.size ≤ w6.heap.size := bel6.size
      have hcv := conv_own (xs := 45 :: (48 + a1 % 100 / 10) :: (48 + a1 % 10) :: 46 :: dgs s s.size) hown6 (by simp [dgs_length]; omega) HS.out
      have hcd := fun (o : Obj) => conv_own (w := w6.alloc o) (xs := dgs s s.size) (hod6.alloc o) (dgs_length s _ (Nat.le_refl _)) HD.out
      have BEL : Hid (Below w.heap.size w w6) := bel6
      clear hown5 hg6 hod5 bel5 hlt5 hown6 bel6 hod6
      go_wp2_with (go_at_call 8; refine (scan_of S _ _ HZ.out hSz _).mono ?_; rintro e wz ⟨rfl, belz⟩; obtain ⟨hcz, hfz⟩ := bcell belz; have hzz : w6.heap.size < wz.heap.size := by have := belz.size; simp at this; omega)
      go_ret
      exact ⟨rfl, ((BEL.out.alloc hs6 _).trans (belz.mono (by simp; omega))).alloc (by omega) _⟩

set_option maxHeartbeats 1600000 in
set_option maxRecDepth 100000 in
theorem walk3zp (a1 a2 a3 : Int) (s S D : ByteArray) (w : World) (hs : (s.size : Int) ≤ 1024) (hs0 : (s.size : Int) ≤ 0) (b1 : 0 ≤ a1) (b2 : a1 ≤ 255) (c1 : 0 ≤ a2) (c2 : a2 ≤ 255) (d1 : 0 ≤ a3) (d2 : a3 ≤ 255) (hk : a3 % 4 = 3)
    (hS : strOfNums (43 :: (48 + a1 % 100 / 10) :: (48 + a1 % 10) :: 46 :: (dgs s s.size ++ [48])) = S) (hD : strOfNums (dgs s s.size ++ [48]) = D) (hz : zfun S = (⟨S, 4, false, a1 % 100, 0, D⟩, true)) (hSz : S.size ≤ maxLen) :
    Calls Yba.prog 6 #[.bool false, .int .u8 a1, .int .u8 a2, .int .u8 a3, .string s] w fun e w' => e = .returned (.bool true) ∧ Below w.heap.size w w' := by
  obtain ⟨i0, hi, hz0, hz1, hz2⟩ := info_parts Yba.info5
  have HS : Hid (strOfNums (43 :: (48 + a1 % 100 / 10) :: (48 + a1 % 10) :: 46 :: (dgs s s.size ++ [48])) = S) := hS
  have HD : Hid (strOfNums (dgs s s.size ++ [48]) = D) := hD
  have HZ : Hid (zfun S = (⟨S, 4, false, a1 % 100, 0, D⟩, true)) := hz
  clear hS hz hD
  go_enter Yba.func6, Yba.ntmps6
  go_wp2_with (at_make; refine wpList_make_own _ rfl _ _ 22 rfl w.heap.size 5 i0 (.int .u8 0) 1 Yba.underlying22 hi hz0 hz1 _ _ _ (s.size + 8) rfl rfl ?hC ?hb2 ?hb3 ?hb4 ?_)
  case hC => omega
  case hb2 => rw [hz2]; omega
  case hb3 => unfold maxLen; omega
  case hb4 => exact Nat.le_refl _
  intro w1 hown1 hg1
  have hs1 := hg1.size
  go_wp2_with (at_builtin; refine wpList_append_fits _ rfl (.tmp 36) (.tmp 46) 22 rfl w.heap.size 5 i0 1 Yba.underlying22 hi hz1 w.heap.size 0 (s.size + 8) [] rfl (hown1.alloc _) ⟨w1.heap.size, 0, none⟩ 3 3 _ rfl ?hlen (new_cells _ _ _) ?hone ?hcap ?_)
  case hone => exact ⟨rfl, rfl, rfl⟩
  case hcap => omega
  intro w2 hown2 hg2
  have bel2 : Below w.heap.size w w2 := (((Below.refl _ _).grown hg1 (Nat.le_refl _) (by simp)).alloc hs1 _).grown hg2 (by simp; omega) (by simp)
  have hs2 : w.heap.size ≤ w2.heap.size := bel2.size
  have hlt2 : w.heap.size < w2.heap.size := (hown2.lt _ rfl).2
  clear hown1 hg1 hg2 hs1
  go_wp2_with (at_make; refine wpList_make_own _ rfl _ _ 22 rfl w2.heap.size 5 i0 (.int .u8 0) 1 Yba.underlying22 hi hz0 hz1 _ _ _ (s.size + 1) rfl rfl ?hCd ?hb2d ?hb3d ?hb4d ?_)
  case hCd => omega
  case hb2d => rw [hz2]; omega
  case hb3d => unfold maxLen; omega
  case hb4d => exact Nat.le_refl _
  intro w3 hown3 hg3
  have hob : w3.ownsRow w.heap.size 5 1 (.slice (some ⟨w.heap.size, 0, none⟩) 3 (s.size + 8)) 3 ([43, 48 + a1 % 100 / 10, 48 + a1 % 10].map (Value.int .u8)) := hown2.kept hg3 (.inr (by simp [Value.ownBlock]))
  have bel3 : Below w.heap.size w w3 := bel2.grown hg3 hs2 (by simp)
  have hlt3 : w2.heap.size < w3.heap.size := (hown3.lt _ rfl).2
  clear hown2 bel2 hg3
  go_wp2
  go_loopw [15, 17] (fun v i wr => ∃ k : Nat, k ≤ s.size ∧ i = .int .i64 k ∧ v = .slice (some ⟨w2.heap.size, 0, none⟩) k (s.size + 1) ∧ wr.ownsRow w2.heap.size 5 1 (.slice (some ⟨w2.heap.size, 0, none⟩) k (s.size + 1)) k ((dgs s k).map (Value.int .u8)) ∧
      wr.ownsRow w.heap.size 5 1 (.slice (some ⟨w.heap.size, 0, none⟩) 3 (s.size + 8)) 3 ([43, 48 + a1 % 100 / 10, 48 + a1 % 10].map (Value.int .u8)) ∧ Below w.heap.size w wr ∧ w2.heap.size < wr.heap.size) (fun _ i _ => s.size - (intOf i).toNat)
  case atStart => exact ⟨0, Nat.zero_le _, rfl, rfl, hown3, hob, bel3, hlt3⟩
  case round =>
    obtain ⟨k, hk2, rfl, rfl, hod, hobr, belr, hltr⟩ := hrel
    clear hob bel3 hlt3 hown3
    by_cases hlt : k < s.size
    · exact absurd hlt (by omega)
    · obtain rfl : k = s.size := by omega
      clear hlt
      go_wp2_with (at_builtin; refine wpList_append_fits _ rfl (.tmp 101) (.tmp 102) 22 rfl w2.heap.size 5 i0 1 Yba.underlying22 hi hz1 w2.heap.size s.size (s.size + 1) _ rfl (hod.alloc _) ⟨wr.heap.size, 0, none⟩ 1 1 _ rfl ?hlenw (new_cells _ _ _) ?honew ?hcapw ?_)
      case honew => rfl
      case hcapw => omega
      intro w4 hown4 hg4
      have hod4 : w4.ownsRow w2.heap.size 5 1 (.slice (some ⟨w2.heap.size, 0, none⟩) (s.size + 1) (s.size + 1)) (s.size + 1) ((dgs s s.size ++ [48]).map (Value.int .u8)) := by rw [List.map_append]; exact hown4
      have hob4 := (hobr.alloc _).kept hg4 (.inr (by simp [Value.ownBlock]; omega))
      have bel4 : Below w.heap.size w w4 := (belr.alloc (by omega) _).grown hg4 (by simp; omega) (by simp; omega)
      have hlt4 : w2.heap.size < w4.heap.size := (hod4.lt _ rfl).2
      clear hown4 hg4 hod hobr belr hltr
      go_wp2_with (at_builtin; refine wpList_append_fits _ rfl (.tmp 104) (.tmp 105) 22 rfl w.heap.size 5 i0 1 Yba.underlying22 hi hz1 w.heap.size 3 (s.size + 8) _ rfl (hob4.alloc _) ⟨w4.heap.size, 0, none⟩ 1 1 _ rfl ?hlenx (new_cells _ _ _) ?honex ?hcapx ?_)
      case honex => rfl
      case hcapx => omega
      intro w5 hown5 hg5
      have hod5 := (hod4.alloc _).kept hg5 (.inr (by simp [Value.ownBlock]; omega))
      have bel5 : Below w.heap.size w w5 := (bel4.alloc (by omega) _).grown hg5 (by simp; omega) (by simp)
      have hlt5 : w2.heap.size < w5.heap.size := (hod5.lt _ rfl).2
      clear hg5 hod4 hob4 bel4 hlt4
      go_wp2_with (at_builtin; refine wpList_append_fits _ rfl (.tmp 107) (.tmp 108) 22 rfl w.heap.size 5 i0 1 Yba.underlying22 hi hz1 w.heap.size 4 (s.size + 8) _ rfl hown5 ⟨w2.heap.size, 0, none⟩ (s.size + 1) (s.size + 1) ((dgs s s.size ++ [48]).map (Value.int .u8)) rfl ?hleny (hod5.cells rfl) ?honey ?hcapy ?_)
      case hleny => simp [dgs_length]
      case honey => intro u hu; obtain ⟨x, _, rfl⟩ := List.mem_map.1 hu; rfl
      case hcapy => omega
      intro w6 hown6 hg6
      have hod6 := hod5.kept hg6 (.inr (by simp [Value.ownBlock]; omega))
      have bel6 : Below w.heap.size w w6 := bel5.grown hg6 (by omega) (by simp)
      have hs6 : w.heap.size ≤ w6.heap.size := bel6.size
      have hcv := conv_own (n := 4 + (s.size + 1)) (xs := 43 :: (48 + a1 % 100 / 10) :: (48 + a1 % 10) :: 46 :: (dgs s s.size ++ [48])) (by simpa [List.map_append] using hown6) (by simp only [List.length_cons, List.length_append, List.length_nil, dgs_length s _ (Nat.le_refl _)]; omega) HS.out
      have hcd := fun (o : Obj) => conv_own (w := w6.alloc o) (xs := dgs s s.size ++ [48]) (hod6.alloc o) (by rw [List.length_append, dgs_length s _ (Nat.le_refl _)]; rfl) HD.out
      have BEL : Hid (Below w.heap.size w w6) := bel6
      clear hown5 hg6 hod5 bel5 hlt5 hown6 bel6 hod6
      go_wp2_with (go_at_call 8; refine (scan_of S _ _ HZ.out hSz _).mono ?_; rintro e wz ⟨rfl, belz⟩; obtain ⟨hcz, hfz⟩ := bcell belz; have hzz : w6.heap.size < wz.heap.size := by have := belz.size; simp at this; omega)
      go_ret
      exact ⟨rfl, ((BEL.out.alloc hs6 _).trans (belz.mono (by simp; omega))).alloc (by omega) _⟩

set_option maxHeartbeats 1600000 in
set_option maxRecDepth 100000 in
theorem walk3zn (a1 a2 a3 : Int) (s S D : ByteArray) (w : World) (hs : (s.size : Int) ≤ 1024) (hs0 : (s.size : Int) ≤ 0) (b1 : 0 ≤ a1) (b2 : a1 ≤ 255) (c1 : 0 ≤ a2) (c2 : a2 ≤ 255) (d1 : 0 ≤ a3) (d2 : a3 ≤ 255) (hk : a3 % 4 = 3)
    (hS : strOfNums (45 :: (48 + a1 % 100 / 10) :: (48 + a1 % 10) :: 46 :: (dgs s s.size ++ [48])) = S) (hD : strOfNums (dgs s s.size ++ [48]) = D) (hz : zfun S = (⟨S, 4, true, a1 % 100, 0, D⟩, true)) (hSz : S.size ≤ maxLen) :
    Calls Yba.prog 6 #[.bool true, .int .u8 a1, .int .u8 a2, .int .u8 a3, .string s] w fun e w' => e = .returned (.bool true) ∧ Below w.heap.size w w' := by
  obtain ⟨i0, hi, hz0, hz1, hz2⟩ := info_parts Yba.info5
  have HS : Hid (strOfNums (45 :: (48 + a1 % 100 / 10) :: (48 + a1 % 10) :: 46 :: (dgs s s.size ++ [48])) = S) := hS
  have HD : Hid (strOfNums (dgs s s.size ++ [48]) = D) := hD
  have HZ : Hid (zfun S = (⟨S, 4, true, a1 % 100, 0, D⟩, true)) := hz
  clear hS hz hD
  go_enter Yba.func6, Yba.ntmps6
  go_wp2_with (at_make; refine wpList_make_own _ rfl _ _ 22 rfl w.heap.size 5 i0 (.int .u8 0) 1 Yba.underlying22 hi hz0 hz1 _ _ _ (s.size + 8) rfl rfl ?hC ?hb2 ?hb3 ?hb4 ?_)
  case hC => omega
  case hb2 => rw [hz2]; omega
  case hb3 => unfold maxLen; omega
  case hb4 => exact Nat.le_refl _
  intro w1 hown1 hg1
  have hs1 := hg1.size
  go_wp2_with (at_builtin; refine wpList_append_fits _ rfl (.tmp 36) (.tmp 46) 22 rfl w.heap.size 5 i0 1 Yba.underlying22 hi hz1 w.heap.size 0 (s.size + 8) [] rfl (hown1.alloc _) ⟨w1.heap.size, 0, none⟩ 3 3 _ rfl ?hlen (new_cells _ _ _) ?hone ?hcap ?_)
  case hone => exact ⟨rfl, rfl, rfl⟩
  case hcap => omega
  intro w2 hown2 hg2
  have bel2 : Below w.heap.size w w2 := (((Below.refl _ _).grown hg1 (Nat.le_refl _) (by simp)).alloc hs1 _).grown hg2 (by simp; omega) (by simp)
  have hs2 : w.heap.size ≤ w2.heap.size := bel2.size
  have hlt2 : w.heap.size < w2.heap.size := (hown2.lt _ rfl).2
  clear hown1 hg1 hg2 hs1
  go_wp2_with (at_make; refine wpList_make_own _ rfl _ _ 22 rfl w2.heap.size 5 i0 (.int .u8 0) 1 Yba.underlying22 hi hz0 hz1 _ _ _ (s.size + 1) rfl rfl ?hCd ?hb2d ?hb3d ?hb4d ?_)
  case hCd => omega
  case hb2d => rw [hz2]; omega
  case hb3d => unfold maxLen; omega
  case hb4d => exact Nat.le_refl _
  intro w3 hown3 hg3
  have hob : w3.ownsRow w.heap.size 5 1 (.slice (some ⟨w.heap.size, 0, none⟩) 3 (s.size + 8)) 3 ([45, 48 + a1 % 100 / 10, 48 + a1 % 10].map (Value.int .u8)) := hown2.kept hg3 (.inr (by simp [Value.ownBlock]))
  have bel3 : Below w.heap.size w w3 := bel2.grown hg3 hs2 (by simp)
  have hlt3 : w2.heap.size < w3.heap.size := (hown3.lt _ rfl).2
  clear hown2 bel2 hg3
  go_wp2
  go_loopw [15, 17] (fun v i wr => ∃ k : Nat, k ≤ s.size ∧ i = .int .i64 k ∧ v = .slice (some ⟨w2.heap.size, 0, none⟩) k (s.size + 1) ∧ wr.ownsRow w2.heap.size 5 1 (.slice (some ⟨w2.heap.size, 0, none⟩) k (s.size + 1)) k ((dgs s k).map (Value.int .u8)) ∧
      wr.ownsRow w.heap.size 5 1 (.slice (some ⟨w.heap.size, 0, none⟩) 3 (s.size + 8)) 3 ([45, 48 + a1 % 100 / 10, 48 + a1 % 10].map (Value.int .u8)) ∧ Below w.heap.size w wr ∧ w2.heap.size < wr.heap.size) (fun _ i _ => s.size - (intOf i).toNat)
  case atStart => exact ⟨0, Nat.zero_le _, rfl, rfl, hown3, hob, bel3, hlt3⟩
  case round =>
    obtain ⟨k, hk2, rfl, rfl, hod, hobr, belr, hltr⟩ := hrel
    clear hob bel3 hlt3 hown3
    by_cases hlt : k < s.size
    · exact absurd hlt (by omega)
    · obtain rfl : k = s.size := by omega
      clear hlt
      go_wp2_with (at_builtin; refine wpList_append_fits _ rfl (.tmp 101) (.tmp 102) 22 rfl w2.heap.size 5 i0 1 Yba.underlying22 hi hz1 w2.heap.size s.size (s.size + 1) _ rfl (hod.alloc _) ⟨wr.heap.size, 0, none⟩ 1 1 _ rfl ?hlenw (new_cells _ _ _) ?honew ?hcapw ?_)
      case honew => rfl
      case hcapw => omega
      intro w4 hown4 hg4
      have hod4 : w4.ownsRow w2.heap.size 5 1 (.slice (some ⟨w2.heap.size, 0, none⟩) (s.size + 1) (s.size + 1)) (s.size + 1) ((dgs s s.size ++ [48]).map (Value.int .u8)) := by rw [List.map_append]; exact hown4
      have hob4 := (hobr.alloc _).kept hg4 (.inr (by simp [Value.ownBlock]; omega))
      have bel4 : Below w.heap.size w w4 := (belr.alloc (by omega) _).grown hg4 (by simp; omega) (by simp; omega)
      have hlt4 : w2.heap.size < w4.heap.size := (hod4.lt _ rfl).2
      clear hown4 hg4 hod hobr belr hltr
      go_wp2_with (at_builtin; refine wpList_append_fits _ rfl (.tmp 104) (.tmp 105) 22 rfl w.heap.size 5 i0 1 Yba.underlying22 hi hz1 w.heap.size 3 (s.size + 8) _ rfl (hob4.alloc _) ⟨w4.heap.size, 0, none⟩ 1 1 _ rfl ?hlenx (new_cells _ _ _) ?honex ?hcapx ?_)
      case honex => rfl
      case hcapx => omega
      intro w5 hown5 hg5
      have hod5 := (hod4.alloc _).kept hg5 (.inr (by simp [Value.ownBlock]; omega))
      have bel5 : Below w.heap.size w w5 := (bel4.alloc (by omega) _).grown hg5 (by simp; omega) (by simp)
      have hlt5 : w2.heap.size < w5.heap.size := (hod5.lt _ rfl).2
      clear hg5 hod4 hob4 bel4 hlt4
      go_wp2_with (at_builtin; refine wpList_append_fits _ rfl (.tmp 107) (.tmp 108) 22 rfl w.heap.size 5 i0 1 Yba.underlying22 hi hz1 w.heap.size 4 (s.size + 8) _ rfl hown5 ⟨w2.heap.size, 0, none⟩ (s.size + 1) (s.size + 1) ((dgs s s.size ++ [48]).map (Value.int .u8)) rfl ?hleny (hod5.cells rfl) ?honey ?hcapy ?_)
      case hleny => simp [dgs_length]
      case honey => intro u hu; obtain ⟨x, _, rfl⟩ := List.mem_map.1 hu; rfl
      case hcapy => omega
      intro w6 hown6 hg6
      have hod6 := hod5.kept hg6 (.inr (by simp [Value.ownBlock]; omega))
      have bel6 : Below w.heap.size w w6 := bel5.grown hg6 (by omega) (by simp)
      have hs6 : w.heap.size ≤ w6.heap.size := bel6.size
      have hcv := conv_own (n := 4 + (s.size + 1)) (xs := 45 :: (48 + a1 % 100 / 10) :: (48 + a1 % 10) :: 46 :: (dgs s s.size ++ [48])) (by simpa [List.map_append] using hown6) (by simp only [List.length_cons, List.length_append, List.length_nil, dgs_length s _ (Nat.le_refl _)]; omega) HS.out
      have hcd := fun (o : Obj) => conv_own (w := w6.alloc o) (xs := dgs s s.size ++ [48]) (hod6.alloc o) (by rw [List.length_append, dgs_length s _ (Nat.le_refl _)]; rfl) HD.out
      have BEL : Hid (Below w.heap.size w w6) := bel6
      clear hown5 hg6 hod5 bel5 hlt5 hown6 bel6 hod6
      go_wp2_with (go_at_call 8; refine (scan_of S _ _ HZ.out hSz _).mono ?_; rintro e wz ⟨rfl, belz⟩; obtain ⟨hcz, hfz⟩ := bcell belz; have hzz : w6.heap.size < wz.heap.size := by have := belz.size; simp at this; omega)
      go_ret
      exact ⟨rfl, ((BEL.out.alloc hs6 _).trans (belz.mono (by simp; omega))).alloc (by omega) _⟩

end Go.Proofs.Ybulkcmju
