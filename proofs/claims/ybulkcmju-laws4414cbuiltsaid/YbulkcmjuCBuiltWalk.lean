/-
  The walk of LawS4414CBuilt, a theorem a form.
-/
import Derived.Test.YbulkcmjuBuilt
import Derived.Deep.AppendLies
namespace Go.Proofs.Ybulkcmju
open Go.RowKit
theorem Yba.info5 : (Yba.prog.info? 5).map (fun i => (i.zero, i.size, i.bytes)) = some (some (.int .u8 0), 1, 1) := by kernel_rfl

/-- 'string(b)' of an owned row of bytes. -/
theorem conv_own {w : World} {base g n cap : Nat} {xs : List Int} {S : ByteArray} (h : w.ownsRow base 5 1 (.slice (some ⟨g, 0, none⟩) n cap) n (xs.map (Value.int .u8))) (hl : xs.length = n) (hS : strOfNums xs = S) :
    (convert 22 9 (.slice (some ⟨g, 0, none⟩) n cap)).run Yba.prog w = .ok (.string S) w := by
  rw [← hS]
  refine run_convert_bytes_arg w 22 5 Yba.underlying22 Yba.underlying5 g 0 n cap xs hl (fun i hi => ?_) 9 Yba.underlying9
  rw [Nat.zero_add, h.cellAt i (by omega), List.getElem?_map, List.getElem?_eq_getElem (by omega), List.getD_eq_getElem?_getD, List.getElem?_eq_getElem (by omega)]
  rfl

theorem new_cells (w : World) (cs : Array Value) (t : TypeId) : ∀ (j : Nat) (u : Value), cs.toList[j]? = some u → (w.alloc (.cells cs t)).cell? ((⟨w.heap.size, 0, none⟩ : Addr).add j) = some u :=
  World.news_of_block (heap_alloc_new w _)

theorem scan_of (s : ByteArray) (z : Zn) (ok : Bool) (hz : zfun s = (z, ok)) (hs : s.size ≤ maxLen) (w : World) :
    Calls Yba.prog 8 #[.string s] w fun e w' => e = .returned (.tuple #[z.val, .bool ok]) ∧ Below w.heap.size w w' := by
  have := scan_any s hs w
  rw [hz] at this
  exact this

theorem bcell {W w1 : World} (hb : Below W.heap.size W w1) : (∀ b o, b < W.heap.size → w1.cell? ⟨b, o, none⟩ = W.cell? ⟨b, o, none⟩) ∧ (∀ b o, b < W.heap.size → w1.frozen? ⟨b, o, none⟩ = W.frozen? ⟨b, o, none⟩) :=
  ⟨fun b o h => hb.cell (p := ⟨b, o, none⟩) h, fun b o h => hb.frozen (p := ⟨b, o, none⟩) h⟩

set_option maxHeartbeats 1600000 in
set_option maxRecDepth 100000 in
theorem walk0p (a1 a2 a3 : Int) (s S : ByteArray) (w : World) (hs : (s.size : Int) ≤ 1024) (b1 : 0 ≤ a1) (b2 : a1 ≤ 255) (c1 : 0 ≤ a2) (c2 : a2 ≤ 255) (d1 : 0 ≤ a3) (d2 : a3 ≤ 255) (hk : a3 % 4 = 0)
    (hS : strOfNums [43, 48 + a1 % 100 / 10, 48 + a1 % 10] = S) (hz : zfun S = (⟨S, 1, false, a1 % 100, 0, ⟨#[]⟩⟩, true)) (hSz : S.size ≤ maxLen) :
    Calls Yba.prog 6 #[.bool false, .int .u8 a1, .int .u8 a2, .int .u8 a3, .string s] w fun e w' => e = .returned (.bool true) ∧ Below w.heap.size w w' := by
  obtain ⟨i0, hi, hz0, hz1, hz2⟩ := info_parts Yba.info5
  have HS : Hid (strOfNums [43, 48 + a1 % 100 / 10, 48 + a1 % 10] = S) := hS
  have HZ : Hid (zfun S = (⟨S, 1, false, a1 % 100, 0, ⟨#[]⟩⟩, true)) := hz
  clear hS hz
  go_enter Yba.func6, Yba.ntmps6
  go_wp2_with (at_make; refine wpList_make_own _ rfl _ _ 22 rfl w.heap.size 5 i0 (.int .u8 0) 1 Yba.underlying22 hi hz0 hz1 _ _ _ (s.size + 8) rfl rfl ?hC ?hb2 ?hb3 ?hb4 ?_)
  case hC => omega
  case hb2 => rw [hz2]; omega
  case hb3 => unfold maxLen; omega
  case hb4 => exact Nat.le_refl _
  intro w1 hown1 hg1
  have hs1 := hg1.size
  go_wp2_with (at_builtin; refine wpList_append_fits _ rfl (.tmp 36) (.tmp 46) 22 rfl w.heap.size 5 i0 1 Yba.underlying22 hi hz1 w.heap.size 0 (s.size + 8) [] rfl (hown1.alloc _) ⟨w1.heap.size, 0, none⟩ 3 3 _ rfl ?hlen (new_cells _ _ _) ?hone ?hcap ?_)
  case hone => exact ⟨rfl, rfl, rfl⟩
  case hcap => omega
  intro w2 hown2 hg2
  have bel2 : Below w.heap.size w w2 := (((Below.refl _ _).grown hg1 (Nat.le_refl _) (by simp)).alloc hs1 _).grown hg2 (by simp; omega) (by simp)
  have hs2 : w.heap.size ≤ w2.heap.size := bel2.size
  have hcv := conv_own (xs := [43, 48 + a1 % 100 / 10, 48 + a1 % 10]) hown2 rfl HS.out
  have BEL : Hid (Below w.heap.size w w2) := bel2
  clear hown1 hg1 hown2 hg2 hs1 bel2
  go_wp2_with (go_at_call 8; refine (scan_of S _ _ HZ.out hSz _).mono ?_; rintro e wz ⟨rfl, belz⟩; obtain ⟨hcz, hfz⟩ := bcell belz; have hzz : w2.heap.size < wz.heap.size := by have := belz.size; simp at this; omega)
  go_ret
  exact ⟨rfl, ((BEL.out.alloc hs2 _).trans (belz.mono (by simp; omega))).alloc (by omega) _⟩

set_option maxHeartbeats 1600000 in
set_option maxRecDepth 100000 in
theorem walk1p (a1 a2 a3 : Int) (s S : ByteArray) (w : World) (hs : (s.size : Int) ≤ 1024) (b1 : 0 ≤ a1) (b2 : a1 ≤ 255) (c1 : 0 ≤ a2) (c2 : a2 ≤ 255) (d1 : 0 ≤ a3) (d2 : a3 ≤ 255) (hk : a3 % 4 = 1)
    (hS : strOfNums [43, 48 + a1 % 100 / 10, 48 + a1 % 10, 58, 48 + a2 % 100 / 10, 48 + a2 % 10] = S) (hz : zfun S = (⟨S, 2, false, a1 % 100, a2 % 100, ⟨#[]⟩⟩, true)) (hSz : S.size ≤ maxLen) :
    Calls Yba.prog 6 #[.bool false, .int .u8 a1, .int .u8 a2, .int .u8 a3, .string s] w fun e w' => e = .returned (.bool true) ∧ Below w.heap.size w w' := by
  obtain ⟨i0, hi, hz0, hz1, hz2⟩ := info_parts Yba.info5
  have HS : Hid (strOfNums [43, 48 + a1 % 100 / 10, 48 + a1 % 10, 58, 48 + a2 % 100 / 10, 48 + a2 % 10] = S) := hS
  have HZ : Hid (zfun S = (⟨S, 2, false, a1 % 100, a2 % 100, ⟨#[]⟩⟩, true)) := hz
  clear hS hz
  go_enter Yba.func6, Yba.ntmps6
  go_wp2_with (at_make; refine wpList_make_own _ rfl _ _ 22 rfl w.heap.size 5 i0 (.int .u8 0) 1 Yba.underlying22 hi hz0 hz1 _ _ _ (s.size + 8) rfl rfl ?hC ?hb2 ?hb3 ?hb4 ?_)
  case hC => omega
  case hb2 => rw [hz2]; omega
  case hb3 => unfold maxLen; omega
  case hb4 => exact Nat.le_refl _
  intro w1 hown1 hg1
  have hs1 := hg1.size
  go_wp2_with (at_builtin; refine wpList_append_fits _ rfl (.tmp 36) (.tmp 46) 22 rfl w.heap.size 5 i0 1 Yba.underlying22 hi hz1 w.heap.size 0 (s.size + 8) [] rfl (hown1.alloc _) ⟨w1.heap.size, 0, none⟩ 3 3 _ rfl ?hlen (new_cells _ _ _) ?hone ?hcap ?_)
  case hone => exact ⟨rfl, rfl, rfl⟩
  case hcap => omega
  intro w2 hown2 hg2
  have bel2 : Below w.heap.size w w2 := (((Below.refl _ _).grown hg1 (Nat.le_refl _) (by simp)).alloc hs1 _).grown hg2 (by simp; omega) (by simp)
  have hs2 : w.heap.size ≤ w2.heap.size := bel2.size
  go_wp2_with (at_builtin; refine wpList_append_fits _ rfl (.tmp 54) (.tmp 63) 22 rfl w.heap.size 5 i0 1 Yba.underlying22 hi hz1 w.heap.size _ (s.size + 8) _ rfl (hown2.alloc _) ⟨w2.heap.size, 0, none⟩ 3 3 _ rfl ?hlen2 (new_cells _ _ _) ?hone2 ?hcap2 ?_)
  case hone2 => exact ⟨rfl, rfl, rfl⟩
  case hcap2 => omega
  intro w3 hown3 hg3
  have bel3 : Below w.heap.size w w3 := (bel2.alloc hs2 _).grown hg3 (by simp; omega) (by simp)
  have hs3 : w.heap.size ≤ w3.heap.size := bel3.size
  have hcv := conv_own (xs := [43, 48 + a1 % 100 / 10, 48 + a1 % 10, 58, 48 + a2 % 100 / 10, 48 + a2 % 10]) hown3 rfl HS.out
  have BEL : Hid (Below w.heap.size w w3) := bel3
  clear hown1 hg1 hown2 hg2 hs1 bel2 hown3 hg3 bel3 hs2
  go_wp2_with (go_at_call 8; refine (scan_of S _ _ HZ.out hSz _).mono ?_; rintro e wz ⟨rfl, belz⟩; obtain ⟨hcz, hfz⟩ := bcell belz; have hzz : w3.heap.size < wz.heap.size := by have := belz.size; simp at this; omega)
  go_ret
  exact ⟨rfl, ((BEL.out.alloc hs3 _).trans (belz.mono (by simp; omega))).alloc (by omega) _⟩

set_option maxHeartbeats 1600000 in
set_option maxRecDepth 100000 in
theorem walk2p (a1 a2 a3 : Int) (s S : ByteArray) (w : World) (hs : (s.size : Int) ≤ 1024) (b1 : 0 ≤ a1) (b2 : a1 ≤ 255) (c1 : 0 ≤ a2) (c2 : a2 ≤ 255) (d1 : 0 ≤ a3) (d2 : a3 ≤ 255) (hk : a3 % 4 = 2)
    (hS : strOfNums [43, 48 + a1 % 100 / 10, 48 + a1 % 10, 48 + a2 % 100 / 10, 48 + a2 % 10] = S) (hz : zfun S = (⟨S, 3, false, a1 % 100, a2 % 100, ⟨#[]⟩⟩, true)) (hSz : S.size ≤ maxLen) :
    Calls Yba.prog 6 #[.bool false, .int .u8 a1, .int .u8 a2, .int .u8 a3, .string s] w fun e w' => e = .returned (.bool true) ∧ Below w.heap.size w w' := by
  obtain ⟨i0, hi, hz0, hz1, hz2⟩ := info_parts Yba.info5
  have HS : Hid (strOfNums [43, 48 + a1 % 100 / 10, 48 + a1 % 10, 48 + a2 % 100 / 10, 48 + a2 % 10] = S) := hS
  have HZ : Hid (zfun S = (⟨S, 3, false, a1 % 100, a2 % 100, ⟨#[]⟩⟩, true)) := hz
  clear hS hz
  go_enter Yba.func6, Yba.ntmps6
  go_wp2_with (at_make; refine wpList_make_own _ rfl _ _ 22 rfl w.heap.size 5 i0 (.int .u8 0) 1 Yba.underlying22 hi hz0 hz1 _ _ _ (s.size + 8) rfl rfl ?hC ?hb2 ?hb3 ?hb4 ?_)
  case hC => omega
  case hb2 => rw [hz2]; omega
  case hb3 => unfold maxLen; omega
  case hb4 => exact Nat.le_refl _
  intro w1 hown1 hg1
  have hs1 := hg1.size
  go_wp2_with (at_builtin; refine wpList_append_fits _ rfl (.tmp 36) (.tmp 46) 22 rfl w.heap.size 5 i0 1 Yba.underlying22 hi hz1 w.heap.size 0 (s.size + 8) [] rfl (hown1.alloc _) ⟨w1.heap.size, 0, none⟩ 3 3 _ rfl ?hlen (new_cells _ _ _) ?hone ?hcap ?_)
  case hone => exact ⟨rfl, rfl, rfl⟩
  case hcap => omega
  intro w2 hown2 hg2
  have bel2 : Below w.heap.size w w2 := (((Below.refl _ _).grown hg1 (Nat.le_refl _) (by simp)).alloc hs1 _).grown hg2 (by simp; omega) (by simp)
  have hs2 : w.heap.size ≤ w2.heap.size := bel2.size
  go_wp2_with (at_builtin; refine wpList_append_fits _ rfl (.tmp 67) (.tmp 76) 22 rfl w.heap.size 5 i0 1 Yba.underlying22 hi hz1 w.heap.size _ (s.size + 8) _ rfl (hown2.alloc _) ⟨w2.heap.size, 0, none⟩ 2 2 _ rfl ?hlen2 (new_cells _ _ _) ?hone2 ?hcap2 ?_)
  case hone2 => exact ⟨rfl, rfl⟩
  case hcap2 => omega
  intro w3 hown3 hg3
  have bel3 : Below w.heap.size w w3 := (bel2.alloc hs2 _).grown hg3 (by simp; omega) (by simp)
  have hs3 : w.heap.size ≤ w3.heap.size := bel3.size
  have hcv := conv_own (xs := [43, 48 + a1 % 100 / 10, 48 + a1 % 10, 48 + a2 % 100 / 10, 48 + a2 % 10]) hown3 rfl HS.out
  have BEL : Hid (Below w.heap.size w w3) := bel3
  clear hown1 hg1 hown2 hg2 hs1 bel2 hown3 hg3 bel3 hs2
  go_wp2_with (go_at_call 8; refine (scan_of S _ _ HZ.out hSz _).mono ?_; rintro e wz ⟨rfl, belz⟩; obtain ⟨hcz, hfz⟩ := bcell belz; have hzz : w3.heap.size < wz.heap.size := by have := belz.size; simp at this; omega)
  go_ret
  exact ⟨rfl, ((BEL.out.alloc hs3 _).trans (belz.mono (by simp; omega))).alloc (by omega) _⟩

set_option maxHeartbeats 1600000 in
set_option maxRecDepth 100000 in
theorem walk0n (a1 a2 a3 : Int) (s S : ByteArray) (w : World) (hs : (s.size : Int) ≤ 1024) (b1 : 0 ≤ a1) (b2 : a1 ≤ 255) (c1 : 0 ≤ a2) (c2 : a2 ≤ 255) (d1 : 0 ≤ a3) (d2 : a3 ≤ 255) (hk : a3 % 4 = 0)
    (hS : strOfNums [45, 48 + a1 % 100 / 10, 48 + a1 % 10] = S) (hz : zfun S = (⟨S, 1, true, a1 % 100, 0, ⟨#[]⟩⟩, true)) (hSz : S.size ≤ maxLen) :
    Calls Yba.prog 6 #[.bool true, .int .u8 a1, .int .u8 a2, .int .u8 a3, .string s] w fun e w' => e = .returned (.bool true) ∧ Below w.heap.size w w' := by
  obtain ⟨i0, hi, hz0, hz1, hz2⟩ := info_parts Yba.info5
  have HS : Hid (strOfNums [45, 48 + a1 % 100 / 10, 48 + a1 % 10] = S) := hS
  have HZ : Hid (zfun S = (⟨S, 1, true, a1 % 100, 0, ⟨#[]⟩⟩, true)) := hz
  clear hS hz
  go_enter Yba.func6, Yba.ntmps6
  go_wp2_with (at_make; refine wpList_make_own _ rfl _ _ 22 rfl w.heap.size 5 i0 (.int .u8 0) 1 Yba.underlying22 hi hz0 hz1 _ _ _ (s.size + 8) rfl rfl ?hC ?hb2 ?hb3 ?hb4 ?_)
  case hC => omega
  case hb2 => rw [hz2]; omega
  case hb3 => unfold maxLen; omega
  case hb4 => exact Nat.le_refl _
  intro w1 hown1 hg1
  have hs1 := hg1.size
  go_wp2_with (at_builtin; refine wpList_append_fits _ rfl (.tmp 36) (.tmp 46) 22 rfl w.heap.size 5 i0 1 Yba.underlying22 hi hz1 w.heap.size 0 (s.size + 8) [] rfl (hown1.alloc _) ⟨w1.heap.size, 0, none⟩ 3 3 _ rfl ?hlen (new_cells _ _ _) ?hone ?hcap ?_)
  case hone => exact ⟨rfl, rfl, rfl⟩
  case hcap => omega
  intro w2 hown2 hg2
  have bel2 : Below w.heap.size w w2 := (((Below.refl _ _).grown hg1 (Nat.le_refl _) (by simp)).alloc hs1 _).grown hg2 (by simp; omega) (by simp)
  have hs2 : w.heap.size ≤ w2.heap.size := bel2.size
  have hcv := conv_own (xs := [45, 48 + a1 % 100 / 10, 48 + a1 % 10]) hown2 rfl HS.out
  have BEL : Hid (Below w.heap.size w w2) := bel2
  clear hown1 hg1 hown2 hg2 hs1 bel2
  go_wp2_with (go_at_call 8; refine (scan_of S _ _ HZ.out hSz _).mono ?_; rintro e wz ⟨rfl, belz⟩; obtain ⟨hcz, hfz⟩ := bcell belz; have hzz : w2.heap.size < wz.heap.size := by have := belz.size; simp at this; omega)
  go_ret
  exact ⟨rfl, ((BEL.out.alloc hs2 _).trans (belz.mono (by simp; omega))).alloc (by omega) _⟩

set_option maxHeartbeats 1600000 in
set_option maxRecDepth 100000 in
theorem walk1n (a1 a2 a3 : Int) (s S : ByteArray) (w : World) (hs : (s.size : Int) ≤ 1024) (b1 : 0 ≤ a1) (b2 : a1 ≤ 255) (c1 : 0 ≤ a2) (c2 : a2 ≤ 255) (d1 : 0 ≤ a3) (d2 : a3 ≤ 255) (hk : a3 % 4 = 1)
    (hS : strOfNums [45, 48 + a1 % 100 / 10, 48 + a1 % 10, 58, 48 + a2 % 100 / 10, 48 + a2 % 10] = S) (hz : zfun S = (⟨S, 2, true, a1 % 100, a2 % 100, ⟨#[]⟩⟩, true)) (hSz : S.size ≤ maxLen) :
    Calls Yba.prog 6 #[.bool true, .int .u8 a1, .int .u8 a2, .int .u8 a3, .string s] w fun e w' => e = .returned (.bool true) ∧ Below w.heap.size w w' := by
  obtain ⟨i0, hi, hz0, hz1, hz2⟩ := info_parts Yba.info5
  have HS : Hid (strOfNums [45, 48 + a1 % 100 / 10, 48 + a1 % 10, 58, 48 + a2 % 100 / 10, 48 + a2 % 10] = S) := hS
  have HZ : Hid (zfun S = (⟨S, 2, true, a1 % 100, a2 % 100, ⟨#[]⟩⟩, true)) := hz
  clear hS hz
  go_enter Yba.func6, Yba.ntmps6
  go_wp2_with (at_make; refine wpList_make_own _ rfl _ _ 22 rfl w.heap.size 5 i0 (.int .u8 0) 1 Yba.underlying22 hi hz0 hz1 _ _ _ (s.size + 8) rfl rfl ?hC ?hb2 ?hb3 ?hb4 ?_)
  case hC => omega
  case hb2 => rw [hz2]; omega
  case hb3 => unfold maxLen; omega
  case hb4 => exact Nat.le_refl _
  intro w1 hown1 hg1
  have hs1 := hg1.size
  go_wp2_with (at_builtin; refine wpList_append_fits _ rfl (.tmp 36) (.tmp 46) 22 rfl w.heap.size 5 i0 1 Yba.underlying22 hi hz1 w.heap.size 0 (s.size + 8) [] rfl (hown1.alloc _) ⟨w1.heap.size, 0, none⟩ 3 3 _ rfl ?hlen (new_cells _ _ _) ?hone ?hcap ?_)
  case hone => exact ⟨rfl, rfl, rfl⟩
  case hcap => omega
  intro w2 hown2 hg2
  have bel2 : Below w.heap.size w w2 := (((Below.refl _ _).grown hg1 (Nat.le_refl _) (by simp)).alloc hs1 _).grown hg2 (by simp; omega) (by simp)
  have hs2 : w.heap.size ≤ w2.heap.size := bel2.size
  go_wp2_with (at_builtin; refine wpList_append_fits _ rfl (.tmp 54) (.tmp 63) 22 rfl w.heap.size 5 i0 1 Yba.underlying22 hi hz1 w.heap.size _ (s.size + 8) _ rfl (hown2.alloc _) ⟨w2.heap.size, 0, none⟩ 3 3 _ rfl ?hlen2 (new_cells _ _ _) ?hone2 ?hcap2 ?_)
  case hone2 => exact ⟨rfl, rfl, rfl⟩
  case hcap2 => omega
  intro w3 hown3 hg3
  have bel3 : Below w.heap.size w w3 := (bel2.alloc hs2 _).grown hg3 (by simp; omega) (by simp)
  have hs3 : w.heap.size ≤ w3.heap.size := bel3.size
  have hcv := conv_own (xs := [45, 48 + a1 % 100 / 10, 48 + a1 % 10, 58, 48 + a2 % 100 / 10, 48 + a2 % 10]) hown3 rfl HS.out
  have BEL : Hid (Below w.heap.size w w3) := bel3
  clear hown1 hg1 hown2 hg2 hs1 bel2 hown3 hg3 bel3 hs2
  go_wp2_with (go_at_call 8; refine (scan_of S _ _ HZ.out hSz _).mono ?_; rintro e wz ⟨rfl, belz⟩; obtain ⟨hcz, hfz⟩ := bcell belz; have hzz : w3.heap.size < wz.heap.size := by have := belz.size; simp at this; omega)
  go_ret
  exact ⟨rfl, ((BEL.out.alloc hs3 _).trans (belz.mono (by simp; omega))).alloc (by omega) _⟩

set_option maxHeartbeats 1600000 in
set_option maxRecDepth 100000 in
theorem walk2n (a1 a2 a3 : Int) (s S : ByteArray) (w : World) (hs : (s.size : Int) ≤ 1024) (b1 : 0 ≤ a1) (b2 : a1 ≤ 255) (c1 : 0 ≤ a2) (c2 : a2 ≤ 255) (d1 : 0 ≤ a3) (d2 : a3 ≤ 255) (hk : a3 % 4 = 2)
    (hS : strOfNums [45, 48 + a1 % 100 / 10, 48 + a1 % 10, 48 + a2 % 100 / 10, 48 + a2 % 10] = S) (hz : zfun S = (⟨S, 3, true, a1 % 100, a2 % 100, ⟨#[]⟩⟩, true)) (hSz : S.size ≤ maxLen) :
    Calls Yba.prog 6 #[.bool true, .int .u8 a1, .int .u8 a2, .int .u8 a3, .string s] w fun e w' => e = .returned (.bool true) ∧ Below w.heap.size w w' := by
  obtain ⟨i0, hi, hz0, hz1, hz2⟩ := info_parts Yba.info5
  have HS : Hid (strOfNums [45, 48 + a1 % 100 / 10, 48 + a1 % 10, 48 + a2 % 100 / 10, 48 + a2 % 10] = S) := hS
  have HZ : Hid (zfun S = (⟨S, 3, true, a1 % 100, a2 % 100, ⟨#[]⟩⟩, true)) := hz
  clear hS hz
  go_enter Yba.func6, Yba.ntmps6
  go_wp2_with (at_make; refine wpList_make_own _ rfl _ _ 22 rfl w.heap.size 5 i0 (.int .u8 0) 1 Yba.underlying22 hi hz0 hz1 _ _ _ (s.size + 8) rfl rfl ?hC ?hb2 ?hb3 ?hb4 ?_)
  case hC => omega
  case hb2 => rw [hz2]; omega
  case hb3 => unfold maxLen; omega
  case hb4 => exact Nat.le_refl _
  intro w1 hown1 hg1
  have hs1 := hg1.size
  go_wp2_with (at_builtin; refine wpList_append_fits _ rfl (.tmp 36) (.tmp 46) 22 rfl w.heap.size 5 i0 1 Yba.underlying22 hi hz1 w.heap.size 0 (s.size + 8) [] rfl (hown1.alloc _) ⟨w1.heap.size, 0, none⟩ 3 3 _ rfl ?hlen (new_cells _ _ _) ?hone ?hcap ?_)
  case hone => exact ⟨rfl, rfl, rfl⟩
  case hcap => omega
  intro w2 hown2 hg2
  have bel2 : Below w.heap.size w w2 := (((Below.refl _ _).grown hg1 (Nat.le_refl _) (by simp)).alloc hs1 _).grown hg2 (by simp; omega) (by simp)
  have hs2 : w.heap.size ≤ w2.heap.size := bel2.size
  go_wp2_with (at_builtin; refine wpList_append_fits _ rfl (.tmp 67) (.tmp 76) 22 rfl w.heap.size 5 i0 1 Yba.underlying22 hi hz1 w.heap.size _ (s.size + 8) _ rfl (hown2.alloc _) ⟨w2.heap.size, 0, none⟩ 2 2 _ rfl ?hlen2 (new_cells _ _ _) ?hone2 ?hcap2 ?_)
  case hone2 => exact ⟨rfl, rfl⟩
  case hcap2 => omega
  intro w3 hown3 hg3
  have bel3 : Below w.heap.size w w3 := (bel2.alloc hs2 _).grown hg3 (by simp; omega) (by simp)
  have hs3 : w.heap.size ≤ w3.heap.size := bel3.size
  have hcv := conv_own (xs := [45, 48 + a1 % 100 / 10, 48 + a1 % 10, 48 + a2 % 100 / 10, 48 + a2 % 10]) hown3 rfl HS.out
  have BEL : Hid (Below w.heap.size w w3) := bel3
  clear hown1 hg1 hown2 hg2 hs1 bel2 hown3 hg3 bel3 hs2
  go_wp2_with (go_at_call 8; refine (scan_of S _ _ HZ.out hSz _).mono ?_; rintro e wz ⟨rfl, belz⟩; obtain ⟨hcz, hfz⟩ := bcell belz; have hzz : w3.heap.size < wz.heap.size := by have := belz.size; simp at this; omega)
  go_ret
  exact ⟨rfl, ((BEL.out.alloc hs3 _).trans (belz.mono (by simp; omega))).alloc (by omega) _⟩

end Go.Proofs.Ybulkcmju
