/-
  karatsuba's walk.
-/
import Derived.Test.YbulkcmlyKarE
import Derived.Deep.RegionWith
import Derived.BigQuiet
namespace Go.Proofs.Ybulkcmly
open Go.RowKit
set_option linter.unusedVariables false

theorem none_drew (w : World) : Chg (fun _ _ => False) w w.drew := Chg.drew _ _
theorem none_drewN (w : World) (q : Nat) : Chg (fun _ _ => False) w ((w.drewN q).drew) := (Chg.drewN _ _ _).trans (Chg.drew _ _)

set_option maxHeartbeats 3200000 in
set_option maxRecDepth 100000 in
theorem kar_big (n h m R b off N cz b1 o1 c1 b2 o2 c2 bt ot T ct H2 M2 M4 M6 M7 : Nat) (xs ys : List Int) (w : World) (B : KB b off b1 o1 b2 o2 bt ot h m R xs ys w) (ih1 : KarAt h) (ih2 : KarAt m) (hn : n = h + m) (hdiv : n / 2 = h) (h40 : 40 ≤ n) (h512 : n ≤ 512) (hN : N = 2 * n) (hT : T = 6 * m + 1 + R) (z1 : N ≤ cz) (z2 : cz ≤ maxLen) (x1 : n ≤ c1) (x2 : c1 ≤ maxLen) (y1 : n ≤ c2) (y2 : c2 ≤ maxLen) (t1 : T ≤ ct) (t2 : ct ≤ maxLen) (hct : 6 * m + 1 < ct)
    (e2 : H2 = 2 * h) (f2 : M2 = 2 * m) (f4 : M4 = 4 * m) (f6 : M6 = 6 * m) (f7 : M7 = 6 * m + 1) :
    Calls Yba.prog 28 #[.slice (some ⟨b, off, none⟩) N cz, .slice (some ⟨b1, o1, none⟩) n c1, .slice (some ⟨b2, o2, none⟩) n c2, .slice (some ⟨bt, ot, none⟩) T ct] w fun e w' => e = .returned (.tuple #[]) ∧ KarPost n b off bt ot T xs ys w w' := by
  have hmx : maxLen = 9223372036854775807 := rfl
  obtain ⟨sx, hsx⟩ : ∃ sx, sx = decide (nv (xs.drop h) < nv (xs.take h)) := ⟨_, rfl⟩
  obtain ⟨sy, hsy⟩ : ∃ sy, sy = decide (nv (ys.take h) < nv (ys.drop h)) := ⟨_, rfl⟩
  have A1 : Hid (Calls Yba.prog 28 #[.slice (some ⟨b, off, none⟩) H2 cz, .slice (some ⟨b1, o1, none⟩) h c1, .slice (some ⟨b2, o2, none⟩) h c2, .slice (some ⟨bt, ot, none⟩) T ct] w.drew fun e w' => e = .returned (.tuple #[]) ∧ KSt b off bt ot h m R xs ys w 1 w') :=
    ks1 B ih1 (none_drew _) H2 cz c1 c2 T ct e2 hT (by omega) z2 (by omega) x2 (by omega) y2 t1 t2
  have A2 : Hid (∀ w1, KSt b off bt ot h m R xs ys w 1 w1 → Calls Yba.prog 28 #[.slice (some ⟨b, off + H2, none⟩) (N - H2) (cz - H2), .slice (some ⟨b1, o1 + h, none⟩) (n - h) (c1 - h), .slice (some ⟨b2, o2 + h, none⟩) (n - h) (c2 - h), .slice (some ⟨bt, ot, none⟩) T ct] w1.drew fun e w' => e = .returned (.tuple #[]) ∧ KSt b off bt ot h m R xs ys w 2 w') :=
    fun w1 s => ks2 B ih2 (s.draw (none_drew _)) _ _ _ _ _ T ct _ _ (by omega) (by omega) (by omega) (by omega) hT (by omega) (by omega) (by omega) (by omega) (by omega) (by omega) t1 t2
  have A3 : Hid (∀ w1 q, KSt b off bt ot h m R xs ys w 2 w1 → Calls Yba.prog 12 #[.slice (some ⟨bt, ot, none⟩) m ct, .slice (some ⟨b1, o1 + h, none⟩) (n - h) (c1 - h), .slice (some ⟨b1, o1, none⟩) h c1] (w1.drewN q).drew fun e w' => e = .returned (.bool sx) ∧ KSt b off bt ot h m R xs ys w 3 w') :=
    fun w1 q s => ks3 B (s.draw (none_drewN _ q)) sx hsx _ _ _ _ (by omega) (by omega) (by omega) (by omega) (by omega) (by omega) (by omega)
  have A4 : Hid (∀ w1, KSt b off bt ot h m R xs ys w 3 w1 → Calls Yba.prog 12 #[.slice (some ⟨bt, ot + m, none⟩) (M2 - m) (ct - m), .slice (some ⟨b2, o2, none⟩) h c2, .slice (some ⟨b2, o2 + h, none⟩) (n - h) (c2 - h)] w1.drew fun e w' => e = .returned (.bool sy) ∧ KSt b off bt ot h m R xs ys w 4 w') :=
    fun w1 s => ks4 B (s.draw (none_drew _)) sy hsy _ _ _ _ _ (by omega) (by omega) (by omega) (by omega) (by omega) (by omega) (by omega) (by omega)
  have A5 : Hid (∀ w1, KSt b off bt ot h m R xs ys w 4 w1 → Calls Yba.prog 28 #[.slice (some ⟨bt, ot + M2, none⟩) (M4 - M2) (ct - M2), .slice (some ⟨bt, ot, none⟩) m ct, .slice (some ⟨bt, ot + m, none⟩) (M2 - m) (ct - m), .slice (some ⟨bt, ot + M7, none⟩) (T - M7) (ct - M7)] w1 fun e w' => e = .returned (.tuple #[]) ∧ KSt b off bt ot h m R xs ys w 5 w') :=
    fun w1 s => ks5 B ih2 s _ (fun _ => by congr 2; omega) _ _ _ _ _ _ _ _ (by omega) (by omega) (by omega) (by omega) (by omega) (by omega) (by omega) (by omega) (by omega) (by omega) (by omega) (by omega)
  have A6 : Hid (∀ w1, KSt b off bt ot h m R xs ys w 5 w1 → ∃ w2, (∀ t2 ty, (Builtin.copy_ #[24, t2] ty #[.slice (some ⟨bt, ot + M4, none⟩) (M7 - M4) (ct - M4), .slice (some ⟨b, off + H2, none⟩) (N - H2) (cz - H2)]).run Yba.prog w1 = .ok (goInt ((N - H2 : Nat) : Int)) w2) ∧ w2.frozen? ⟨bt, ot + M4 + M2, none⟩ = false ∧ (∃ v, w2.cell? ⟨bt, ot + M4 + M2, none⟩ = some (.int .u64 v)) ∧
      KSt b off bt ot h m R xs ys w 6 (w2.setCell ⟨bt, ot + M4 + M2, none⟩ (.int .u64 0))) :=
    fun w1 s => ks6 B s _ _ _ _ _ _ _ (by omega) (by omega) (by omega) (by omega) (by omega)
  have A7 : Hid (∀ w1, KSt b off bt ot h m R xs ys w 6 w1 → Calls Yba.prog 29 #[.slice (some ⟨bt, ot + M4, none⟩) (M7 - M4) (ct - M4), .slice (some ⟨b, off, none⟩) H2 cz] w1 fun e w' => ∃ c, e = .returned (.int .u64 c) ∧ KSt b off bt ot h m R xs ys w 7 w') :=
    fun w1 s => ks7 B s _ _ _ _ _ (by omega) (by omega) (by omega) (by omega)
  have A8 : Hid (∀ w1, KSt b off bt ot h m R xs ys w 7 w1 → sx = sy → Calls Yba.prog 29 #[.slice (some ⟨bt, ot + M4, none⟩) (M7 - M4) (ct - M4), .slice (some ⟨bt, ot + M2, none⟩) (M4 - M2) (ct - M2)] w1 fun e w' => ∃ c, e = .returned (.int .u64 c) ∧ KSt b off bt ot h m R xs ys w 8 w') :=
    fun w1 s hs => ks8a B s sx hsx (hs.trans hsy) _ _ _ _ _ _ (by omega) (by omega) (by omega) (by omega) (by omega)
  have A9 : Hid (∀ w1, KSt b off bt ot h m R xs ys w 7 w1 → sx ≠ sy → Calls Yba.prog 22 #[.slice (some ⟨bt, ot + M4, none⟩) (M7 - M4) (ct - M4), .slice (some ⟨bt, ot + M2, none⟩) (M4 - M2) (ct - M2)] w1 fun e w' => ∃ c, e = .returned (.int .u64 c) ∧ KSt b off bt ot h m R xs ys w 8 w') :=
    fun w1 s hs => ks8s B s sx sy hsx hsy hs _ _ _ _ _ _ (by omega) (by omega) (by omega) (by omega) (by omega)
  have A10 : Hid (∀ w1, KSt b off bt ot h m R xs ys w 8 w1 → Calls Yba.prog 29 #[.slice (some ⟨b, off + h, none⟩) (N - h) (cz - h), .slice (some ⟨bt, ot + M4, none⟩) (M7 - M4) (ct - M4)] w1 fun e w' => ∃ c, e = .returned (.int .u64 c) ∧ KarPost n b off bt ot T xs ys w w') :=
    fun w1 s => ks9 B s _ _ _ _ _ _ _ hn hT (by omega) (by omega) (by omega) (by omega)
  have i1 : (40 : Int) ≤ (n : Int) := by omega
  have i2 : (n : Int) ≤ 512 := by omega
  have i3 : (n : Int) / 2 = (h : Int) := by omega
  have i4 : (n : Int) - (h : Int) = (m : Int) := by omega
  have j1 : 2 * (h : Int) = (H2 : Int) := by omega
  have j2 : 2 * (m : Int) = (M2 : Int) := by omega
  have j3 : 4 * (m : Int) = (M4 : Int) := by omega
  have j4 : 6 * (m : Int) = (M6 : Int) := by omega
  have j5 : (M6 : Int) + 1 = (M7 : Int) := by omega
  have k1 : (h : Int) ≤ (n : Int) := by omega
  have k2 : (h : Int) ≤ (c1 : Int) := by omega
  have k3 : (h : Int) ≤ (c2 : Int) := by omega
  have k4 : (H2 : Int) ≤ (N : Int) := by omega
  have k5 : (H2 : Int) ≤ (cz : Int) := by omega
  have k6 : (N : Int) ≤ (cz : Int) := by omega
  have k7 : (n : Int) ≤ (c1 : Int) := by omega
  have k8 : (n : Int) ≤ (c2 : Int) := by omega
  have k9 : (H2 : Int) ≤ 1024 := by omega
  have k10 : (M2 : Int) ≤ 4096 := by omega
  have k11 : (M4 : Int) ≤ 4096 := by omega
  have k12 : (M7 : Int) ≤ 4096 := by omega
  have k13 : (M7 : Int) ≤ (T : Int) := by omega
  have k15 : (T : Int) ≤ (ct : Int) := by omega
  have k16 : (m : Int) ≤ (M2 : Int) := by omega
  have k17 : (M2 : Int) ≤ (M4 : Int) := by omega
  have k18 : (M4 : Int) ≤ (M7 : Int) := by omega
  have k19 : (h : Int) ≤ (N : Int) := by omega
  have k20 : (m : Int) ≤ (ct : Int) := by omega
  have k21 : (M2 : Int) ≤ (ct : Int) := by omega
  have k22 : (M4 : Int) ≤ (ct : Int) := by omega
  have k23 : (M7 : Int) ≤ (ct : Int) := by omega
  have k24 : (M6 : Int) ≤ 4096 := by omega
  have k25 : M2 < M7 - M4 := by omega
  have v1 : IntKind.i64.wrap (H2 : Int) = (H2 : Int) := by rw [IntKind.wrap_i64]; omega
  have q1 : ¬ cz = H2 := by omega
  have q2 : ¬ c1 = h := by omega
  have q3 : ¬ c2 = h := by omega
  have q4 : ¬ ct = m := by omega
  have q5 : ¬ ct = M2 := by omega
  have q6 : ¬ ct = M4 := by omega
  have q8 : ¬ cz = h := by omega
  have q7 : ¬ ct = M7 := by omega
  have HN := fun w => ntt_no n n (by omega) w
  clear B ih1 ih2 hn hdiv h40 h512 hN hT z1 z2 x1 x2 y1 y2 t1 t2 hct e2 f2 f4 f6 f7 hmx hsx hsy
  go_enter Yba.func28, Yba.ntmps28
  go_wp2_with (go_at_call 25; refine (HN _).mono ?_; rintro e w' ⟨rfl, hw⟩; rw [hw]; clear hw w')
  go_region_with (go_at_call 28; refine A1.out.mono ?_; rintro e w1 ⟨rfl, S1⟩)
  go_wp2
  go_region_with (go_at_call 28; refine (A2.out _ S1).mono ?_; rintro e w2 ⟨rfl, S2⟩)
  go_wp2
  go_quiet (fail)
  go_wp2
  go_region_with (go_at_call 12; refine (A3.out _ _ S2).mono ?_; rintro e w3 ⟨rfl, S3⟩)
  go_wp2
  go_region_with (go_at_call 12; refine (A4.out _ S3).mono ?_; rintro e w4 ⟨rfl, S4⟩)
  go_wp2_with fail
  refine (A5.out _ S4).mono ?_
  rintro e w5 ⟨rfl, S5⟩
  obtain ⟨w6, hcp, hfr, ⟨v6, hcl⟩, S6⟩ := A6.out _ S5
  clear A1 A2 A3 A4 A5 A6 S1 S2 S3 S4 S5
  go_wp2_with fail
  refine (A7.out _ S6).mono ?_
  rintro e w7 ⟨cc7, rfl, S7⟩
  have D8 : Hid (sx = sy → Calls Yba.prog 29 #[.slice (some ⟨bt, ot + M4, none⟩) (M7 - M4) (ct - M4), .slice (some ⟨bt, ot + M2, none⟩) (M4 - M2) (ct - M2)] w7 fun e w' => ∃ c, e = .returned (.int .u64 c) ∧ KSt b off bt ot h m R xs ys w 8 w') := A8.out _ S7
  have D9 : Hid (sx ≠ sy → Calls Yba.prog 22 #[.slice (some ⟨bt, ot + M4, none⟩) (M7 - M4) (ct - M4), .slice (some ⟨bt, ot + M2, none⟩) (M4 - M2) (ct - M2)] w7 fun e w' => ∃ c, e = .returned (.int .u64 c) ∧ KSt b off bt ot h m R xs ys w 8 w') := A9.out _ S7
  clear A7 A8 A9 S6 S7 hcp hfr hcl
  cases sx <;> cases sy
  · go_wp2_with fail
    refine (D8.out (by decide)).mono ?_
    rintro e w8 ⟨cc8, rfl, S8⟩
    go_wp2_with fail
    refine (A10.out _ S8).mono ?_
    rintro e w9 ⟨cc9, rfl, S9⟩
    go_wp2
    go_end0
    exact ⟨rfl, S9⟩
  · go_wp2_with fail
    refine (D9.out (by decide)).mono ?_
    rintro e w8 ⟨cc8, rfl, S8⟩
    go_wp2_with fail
    refine (A10.out _ S8).mono ?_
    rintro e w9 ⟨cc9, rfl, S9⟩
    go_wp2
    go_end0
    exact ⟨rfl, S9⟩
  · go_wp2_with fail
    refine (D9.out (by decide)).mono ?_
    rintro e w8 ⟨cc8, rfl, S8⟩
    go_wp2_with fail
    refine (A10.out _ S8).mono ?_
    rintro e w9 ⟨cc9, rfl, S9⟩
    go_wp2
    go_end0
    exact ⟨rfl, S9⟩
  · go_wp2_with fail
    refine (D8.out (by decide)).mono ?_
    rintro e w8 ⟨cc8, rfl, S8⟩
    go_wp2_with fail
    refine (A10.out _ S8).mono ?_
    rintro e w9 ⟨cc9, rfl, S9⟩
    go_wp2
    go_end0
    exact ⟨rfl, S9⟩

set_option maxHeartbeats 3200000 in
set_option maxRecDepth 100000 in
theorem kar_big0 (n h m R b off N cz b1 o1 c1 b2 o2 c2 bt ot H2 M2 M4 M6 M7 : Nat) (xs ys : List Int) (w : World) (B : KB b off b1 o1 b2 o2 bt ot h m R xs ys w) (ih1 : KarAt h) (ih2 : KarAt m) (hn : n = h + m) (hdiv : n / 2 = h) (h40 : 40 ≤ n) (h512 : n ≤ 512) (hN : N = 2 * n) (hT : M7 = 6 * m + 1 + R) (z1 : N ≤ cz) (z2 : cz ≤ maxLen) (x1 : n ≤ c1) (x2 : c1 ≤ maxLen) (y1 : n ≤ c2) (y2 : c2 ≤ maxLen) (t1 : M7 ≤ M7) (t2 : M7 ≤ maxLen)
    (e2 : H2 = 2 * h) (f2 : M2 = 2 * m) (f4 : M4 = 4 * m) (f6 : M6 = 6 * m) (f7 : M7 = 6 * m + 1) :
    Calls Yba.prog 28 #[.slice (some ⟨b, off, none⟩) N cz, .slice (some ⟨b1, o1, none⟩) n c1, .slice (some ⟨b2, o2, none⟩) n c2, .slice (some ⟨bt, ot, none⟩) M7 M7] w fun e w' => e = .returned (.tuple #[]) ∧ KarPost n b off bt ot M7 xs ys w w' := by
  have hmx : maxLen = 9223372036854775807 := rfl
  obtain ⟨sx, hsx⟩ : ∃ sx, sx = decide (nv (xs.drop h) < nv (xs.take h)) := ⟨_, rfl⟩
  obtain ⟨sy, hsy⟩ : ∃ sy, sy = decide (nv (ys.take h) < nv (ys.drop h)) := ⟨_, rfl⟩
  have A1 : Hid (Calls Yba.prog 28 #[.slice (some ⟨b, off, none⟩) H2 cz, .slice (some ⟨b1, o1, none⟩) h c1, .slice (some ⟨b2, o2, none⟩) h c2, .slice (some ⟨bt, ot, none⟩) M7 M7] w.drew fun e w' => e = .returned (.tuple #[]) ∧ KSt b off bt ot h m R xs ys w 1 w') :=
    ks1 B ih1 (none_drew _) H2 cz c1 c2 M7 M7 e2 hT (by omega) z2 (by omega) x2 (by omega) y2 t1 t2
  have A2 : Hid (∀ w1, KSt b off bt ot h m R xs ys w 1 w1 → Calls Yba.prog 28 #[.slice (some ⟨b, off + H2, none⟩) (N - H2) (cz - H2), .slice (some ⟨b1, o1 + h, none⟩) (n - h) (c1 - h), .slice (some ⟨b2, o2 + h, none⟩) (n - h) (c2 - h), .slice (some ⟨bt, ot, none⟩) M7 M7] w1.drew fun e w' => e = .returned (.tuple #[]) ∧ KSt b off bt ot h m R xs ys w 2 w') :=
    fun w1 s => ks2 B ih2 (s.draw (none_drew _)) _ _ _ _ _ M7 M7 _ _ (by omega) (by omega) (by omega) (by omega) hT (by omega) (by omega) (by omega) (by omega) (by omega) (by omega) t1 t2
  have A3 : Hid (∀ w1 q, KSt b off bt ot h m R xs ys w 2 w1 → Calls Yba.prog 12 #[.slice (some ⟨bt, ot, none⟩) m M7, .slice (some ⟨b1, o1 + h, none⟩) (n - h) (c1 - h), .slice (some ⟨b1, o1, none⟩) h c1] (w1.drewN q).drew fun e w' => e = .returned (.bool sx) ∧ KSt b off bt ot h m R xs ys w 3 w') :=
    fun w1 q s => ks3 B (s.draw (none_drewN _ q)) sx hsx _ _ _ _ (by omega) (by omega) (by omega) (by omega) (by omega) (by omega) (by omega)
  have A4 : Hid (∀ w1, KSt b off bt ot h m R xs ys w 3 w1 → Calls Yba.prog 12 #[.slice (some ⟨bt, ot + m, none⟩) (M2 - m) (M7 - m), .slice (some ⟨b2, o2, none⟩) h c2, .slice (some ⟨b2, o2 + h, none⟩) (n - h) (c2 - h)] w1.drew fun e w' => e = .returned (.bool sy) ∧ KSt b off bt ot h m R xs ys w 4 w') :=
    fun w1 s => ks4 B (s.draw (none_drew _)) sy hsy _ _ _ _ _ (by omega) (by omega) (by omega) (by omega) (by omega) (by omega) (by omega) (by omega)
  have A5 : Hid (∀ w1, KSt b off bt ot h m R xs ys w 4 w1 → Calls Yba.prog 28 #[.slice (some ⟨bt, ot + M2, none⟩) (M4 - M2) (M7 - M2), .slice (some ⟨bt, ot, none⟩) m M7, .slice (some ⟨bt, ot + m, none⟩) (M2 - m) (M7 - m), .slice (some ⟨bt, ot, none⟩) 0 0] w1 fun e w' => e = .returned (.tuple #[]) ∧ KSt b off bt ot h m R xs ys w 5 w') :=
    fun w1 s => ks5 B ih2 s _ (fun _ => by omega) _ _ _ _ _ _ _ _ (by omega) (by omega) (by omega) (by omega) (by omega) (by omega) (by omega) (by omega) (by omega) (by omega) (by omega) (by omega)
  have A6 : Hid (∀ w1, KSt b off bt ot h m R xs ys w 5 w1 → ∃ w2, (∀ t2 ty, (Builtin.copy_ #[24, t2] ty #[.slice (some ⟨bt, ot + M4, none⟩) (M7 - M4) (M7 - M4), .slice (some ⟨b, off + H2, none⟩) (N - H2) (cz - H2)]).run Yba.prog w1 = .ok (goInt ((N - H2 : Nat) : Int)) w2) ∧ w2.frozen? ⟨bt, ot + M4 + M2, none⟩ = false ∧ (∃ v, w2.cell? ⟨bt, ot + M4 + M2, none⟩ = some (.int .u64 v)) ∧
      KSt b off bt ot h m R xs ys w 6 (w2.setCell ⟨bt, ot + M4 + M2, none⟩ (.int .u64 0))) :=
    fun w1 s => ks6 B s _ _ _ _ _ _ _ (by omega) (by omega) (by omega) (by omega) (by omega)
  have A7 : Hid (∀ w1, KSt b off bt ot h m R xs ys w 6 w1 → Calls Yba.prog 29 #[.slice (some ⟨bt, ot + M4, none⟩) (M7 - M4) (M7 - M4), .slice (some ⟨b, off, none⟩) H2 cz] w1 fun e w' => ∃ c, e = .returned (.int .u64 c) ∧ KSt b off bt ot h m R xs ys w 7 w') :=
    fun w1 s => ks7 B s _ _ _ _ _ (by omega) (by omega) (by omega) (by omega)
  have A8 : Hid (∀ w1, KSt b off bt ot h m R xs ys w 7 w1 → sx = sy → Calls Yba.prog 29 #[.slice (some ⟨bt, ot + M4, none⟩) (M7 - M4) (M7 - M4), .slice (some ⟨bt, ot + M2, none⟩) (M4 - M2) (M7 - M2)] w1 fun e w' => ∃ c, e = .returned (.int .u64 c) ∧ KSt b off bt ot h m R xs ys w 8 w') :=
    fun w1 s hs => ks8a B s sx hsx (hs.trans hsy) _ _ _ _ _ _ (by omega) (by omega) (by omega) (by omega) (by omega)
  have A9 : Hid (∀ w1, KSt b off bt ot h m R xs ys w 7 w1 → sx ≠ sy → Calls Yba.prog 22 #[.slice (some ⟨bt, ot + M4, none⟩) (M7 - M4) (M7 - M4), .slice (some ⟨bt, ot + M2, none⟩) (M4 - M2) (M7 - M2)] w1 fun e w' => ∃ c, e = .returned (.int .u64 c) ∧ KSt b off bt ot h m R xs ys w 8 w') :=
    fun w1 s hs => ks8s B s sx sy hsx hsy hs _ _ _ _ _ _ (by omega) (by omega) (by omega) (by omega) (by omega)
  have A10 : Hid (∀ w1, KSt b off bt ot h m R xs ys w 8 w1 → Calls Yba.prog 29 #[.slice (some ⟨b, off + h, none⟩) (N - h) (cz - h), .slice (some ⟨bt, ot + M4, none⟩) (M7 - M4) (M7 - M4)] w1 fun e w' => ∃ c, e = .returned (.int .u64 c) ∧ KarPost n b off bt ot M7 xs ys w w') :=
    fun w1 s => ks9 B s _ _ _ _ _ _ _ hn hT (by omega) (by omega) (by omega) (by omega)
  have i1 : (40 : Int) ≤ (n : Int) := by omega
  have i2 : (n : Int) ≤ 512 := by omega
  have i3 : (n : Int) / 2 = (h : Int) := by omega
  have i4 : (n : Int) - (h : Int) = (m : Int) := by omega
  have j1 : 2 * (h : Int) = (H2 : Int) := by omega
  have j2 : 2 * (m : Int) = (M2 : Int) := by omega
  have j3 : 4 * (m : Int) = (M4 : Int) := by omega
  have j4 : 6 * (m : Int) = (M6 : Int) := by omega
  have j5 : (M6 : Int) + 1 = (M7 : Int) := by omega
  have k1 : (h : Int) ≤ (n : Int) := by omega
  have k2 : (h : Int) ≤ (c1 : Int) := by omega
  have k3 : (h : Int) ≤ (c2 : Int) := by omega
  have k4 : (H2 : Int) ≤ (N : Int) := by omega
  have k5 : (H2 : Int) ≤ (cz : Int) := by omega
  have k6 : (N : Int) ≤ (cz : Int) := by omega
  have k7 : (n : Int) ≤ (c1 : Int) := by omega
  have k8 : (n : Int) ≤ (c2 : Int) := by omega
  have k9 : (H2 : Int) ≤ 1024 := by omega
  have k10 : (M2 : Int) ≤ 4096 := by omega
  have k11 : (M4 : Int) ≤ 4096 := by omega
  have k12 : (M7 : Int) ≤ 4096 := by omega
  have k13 : (M7 : Int) ≤ (M7 : Int) := by omega
  have k15 : (M7 : Int) ≤ (M7 : Int) := by omega
  have k16 : (m : Int) ≤ (M2 : Int) := by omega
  have k17 : (M2 : Int) ≤ (M4 : Int) := by omega
  have k18 : (M4 : Int) ≤ (M7 : Int) := by omega
  have k19 : (h : Int) ≤ (N : Int) := by omega
  have k20 : (m : Int) ≤ (M7 : Int) := by omega
  have k21 : (M2 : Int) ≤ (M7 : Int) := by omega
  have k22 : (M4 : Int) ≤ (M7 : Int) := by omega
  have k23 : (M7 : Int) ≤ (M7 : Int) := by omega
  have k24 : (M6 : Int) ≤ 4096 := by omega
  have k25 : M2 < M7 - M4 := by omega
  have v1 : IntKind.i64.wrap (H2 : Int) = (H2 : Int) := by rw [IntKind.wrap_i64]; omega
  have q1 : ¬ cz = H2 := by omega
  have q2 : ¬ c1 = h := by omega
  have q3 : ¬ c2 = h := by omega
  have q4 : ¬ M7 = m := by omega
  have q5 : ¬ M7 = M2 := by omega
  have q6 : ¬ M7 = M4 := by omega
  have q8 : ¬ cz = h := by omega
  have HN := fun w => ntt_no n n (by omega) w
  clear B ih1 ih2 hn hdiv h40 h512 hN hT z1 z2 x1 x2 y1 y2 t1 t2 e2 f2 f4 f6 f7 hmx hsx hsy
  go_enter Yba.func28, Yba.ntmps28
  go_wp2_with (go_at_call 25; refine (HN _).mono ?_; rintro e w' ⟨rfl, hw⟩; rw [hw]; clear hw w')
  go_region_with (go_at_call 28; refine A1.out.mono ?_; rintro e w1 ⟨rfl, S1⟩)
  go_wp2
  go_region_with (go_at_call 28; refine (A2.out _ S1).mono ?_; rintro e w2 ⟨rfl, S2⟩)
  go_wp2
  go_quiet (fail)
  go_wp2
  go_region_with (go_at_call 12; refine (A3.out _ _ S2).mono ?_; rintro e w3 ⟨rfl, S3⟩)
  go_wp2
  go_region_with (go_at_call 12; refine (A4.out _ S3).mono ?_; rintro e w4 ⟨rfl, S4⟩)
  go_wp2_with fail
  refine (A5.out _ S4).mono ?_
  rintro e w5 ⟨rfl, S5⟩
  obtain ⟨w6, hcp, hfr, ⟨v6, hcl⟩, S6⟩ := A6.out _ S5
  clear A1 A2 A3 A4 A5 A6 S1 S2 S3 S4 S5
  go_wp2_with fail
  refine (A7.out _ S6).mono ?_
  rintro e w7 ⟨cc7, rfl, S7⟩
  have D8 : Hid (sx = sy → Calls Yba.prog 29 #[.slice (some ⟨bt, ot + M4, none⟩) (M7 - M4) (M7 - M4), .slice (some ⟨bt, ot + M2, none⟩) (M4 - M2) (M7 - M2)] w7 fun e w' => ∃ c, e = .returned (.int .u64 c) ∧ KSt b off bt ot h m R xs ys w 8 w') := A8.out _ S7
  have D9 : Hid (sx ≠ sy → Calls Yba.prog 22 #[.slice (some ⟨bt, ot + M4, none⟩) (M7 - M4) (M7 - M4), .slice (some ⟨bt, ot + M2, none⟩) (M4 - M2) (M7 - M2)] w7 fun e w' => ∃ c, e = .returned (.int .u64 c) ∧ KSt b off bt ot h m R xs ys w 8 w') := A9.out _ S7
  clear A7 A8 A9 S6 S7 hcp hfr hcl
  cases sx <;> cases sy
  · go_wp2_with fail
    refine (D8.out (by decide)).mono ?_
    rintro e w8 ⟨cc8, rfl, S8⟩
    go_wp2_with fail
    refine (A10.out _ S8).mono ?_
    rintro e w9 ⟨cc9, rfl, S9⟩
    go_wp2
    go_end0
    exact ⟨rfl, S9⟩
  · go_wp2_with fail
    refine (D9.out (by decide)).mono ?_
    rintro e w8 ⟨cc8, rfl, S8⟩
    go_wp2_with fail
    refine (A10.out _ S8).mono ?_
    rintro e w9 ⟨cc9, rfl, S9⟩
    go_wp2
    go_end0
    exact ⟨rfl, S9⟩
  · go_wp2_with fail
    refine (D9.out (by decide)).mono ?_
    rintro e w8 ⟨cc8, rfl, S8⟩
    go_wp2_with fail
    refine (A10.out _ S8).mono ?_
    rintro e w9 ⟨cc9, rfl, S9⟩
    go_wp2
    go_end0
    exact ⟨rfl, S9⟩
  · go_wp2_with fail
    refine (D8.out (by decide)).mono ?_
    rintro e w8 ⟨cc8, rfl, S8⟩
    go_wp2_with fail
    refine (A10.out _ S8).mono ?_
    rintro e w9 ⟨cc9, rfl, S9⟩
    go_wp2
    go_end0
    exact ⟨rfl, S9⟩

end Go.Proofs.Ybulkcmly
