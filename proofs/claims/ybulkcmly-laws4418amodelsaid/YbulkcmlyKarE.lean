/-
  karatsuba: its stages.
-/
import Derived.Test.YbulkcmlyKarD
namespace Go.Proofs.Ybulkcmly
open Go.RowKit
set_option linter.unusedVariables false

/-- The pieces behind the i-th call. -/
def KSt (b off bt ot h m R : Nat) (xs ys : List Int) (w : World) (i : Nat) (w' : World) : Prop :=
  ∃ l1 l2 d e p q : List Int, KP b off bt ot h m R w w' l1 l2 d e p q ∧ (Words l1 ∧ nv l1 = nv (xs.take h) * nv (ys.take h)) ∧ (2 ≤ i → Words l2 ∧ nv l2 = nv (xs.drop h) * nv (ys.drop h)) ∧
    (3 ≤ i → Words d ∧ nv d = AbsD (nv (xs.drop h)) (nv (xs.take h))) ∧ (4 ≤ i → Words e ∧ nv e = AbsD (nv (ys.take h)) (nv (ys.drop h))) ∧ (5 ≤ i → Words p ∧ nv p = nv d * nv e) ∧
    (6 ≤ i → Words q ∧ (i = 6 → nv q = nv l2) ∧ (i = 7 → nv q = nv l2 + nv l1) ∧ (i = 8 → nv q = nv (xs.drop h) * nv (ys.take h) + nv (xs.take h) * nv (ys.drop h)))

theorem KSt.draw {b off bt ot h m R : Nat} {xs ys : List Int} {w w' W : World} {i : Nat} (s : KSt b off bt ot h m R xs ys w i w') (hd : Chg (fun _ _ => False) w' W) : KSt b off bt ot h m R xs ys w i W := by
  obtain ⟨l1, l2, d, e, p, q, K, r⟩ := s
  exact ⟨l1, l2, d, e, p, q, K.draw hd, r⟩

theorem ks1 {b off b1 o1 b2 o2 bt ot h m R : Nat} {xs ys : List Int} {w w1 : World} (B : KB b off b1 o1 b2 o2 bt ot h m R xs ys w) (ih : KarAt h) (hd : Chg (fun _ _ => False) w w1) (N cz c1 c2 T ct : Nat) (hN : N = 2 * h) (hT : T = 6 * m + 1 + R) (z1 : N ≤ cz) (z2 : cz ≤ maxLen) (x1 : h ≤ c1) (x2 : c1 ≤ maxLen) (y1 : h ≤ c2) (y2 : c2 ≤ maxLen) (t1 : T ≤ ct) (t2 : ct ≤ maxLen) :
    Calls Yba.prog 28 #[.slice (some ⟨b, off, none⟩) N cz, .slice (some ⟨b1, o1, none⟩) h c1, .slice (some ⟨b2, o2, none⟩) h c2, .slice (some ⟨bt, ot, none⟩) T ct] w1 fun e w' => e = .returned (.tuple #[]) ∧ KSt b off bt ot h m R xs ys w 1 w' := by
  refine (kar1 B ih hd N cz c1 c2 T ct hN hT z1 z2 x1 x2 y1 y2 t1 t2).mono ?_
  rintro e w' ⟨rfl, K⟩
  obtain ⟨l1, l2, d, e, p, q, K, k1, k2⟩ := K.out
  exact ⟨rfl, l1, l2, d, e, p, q, K, ⟨k1, k2⟩, by omega, by omega, by omega, by omega, by omega⟩

theorem ks2 {b off b1 o1 b2 o2 bt ot h m R : Nat} {xs ys : List Int} {w w1 : World} (B : KB b off b1 o1 b2 o2 bt ot h m R xs ys w) (ih : KarAt m) (s : KSt b off bt ot h m R xs ys w 1 w1) (A N cz c1 c2 T ct m1 m2 : Nat) (hA : A = off + 2 * h) (hN : N = 2 * m) (hm1 : m1 = m) (hm2 : m2 = m) (hT : T = 6 * m + 1 + R) (z1 : N ≤ cz) (z2 : cz ≤ maxLen) (x1 : m ≤ c1) (x2 : c1 ≤ maxLen) (y1 : m ≤ c2) (y2 : c2 ≤ maxLen) (t1 : T ≤ ct) (t2 : ct ≤ maxLen) :
    Calls Yba.prog 28 #[.slice (some ⟨b, A, none⟩) N cz, .slice (some ⟨b1, o1 + h, none⟩) m1 c1, .slice (some ⟨b2, o2 + h, none⟩) m2 c2, .slice (some ⟨bt, ot, none⟩) T ct] w1 fun e w' => e = .returned (.tuple #[]) ∧ KSt b off bt ot h m R xs ys w 2 w' := by
  obtain ⟨l1, l2, d, e, p, q, K, k1, -, -, -, -, -⟩ := s
  subst hA
  refine (kar2 B ih K N cz c1 c2 T ct m1 m2 hN hm1 hm2 hT z1 z2 x1 x2 y1 y2 t1 t2).mono ?_
  rintro e w' ⟨rfl, K⟩
  obtain ⟨l2, d, e, p, q, K, k2⟩ := K.out
  exact ⟨rfl, l1, l2, d, e, p, q, K, k1, fun _ => k2, by omega, by omega, by omega, by omega⟩

theorem ks3 {b off b1 o1 b2 o2 bt ot h m R : Nat} {xs ys : List Int} {w w1 : World} (B : KB b off b1 o1 b2 o2 bt ot h m R xs ys w) (s : KSt b off bt ot h m R xs ys w 2 w1) (sg : Bool) (hs : sg = decide (nv (xs.drop h) < nv (xs.take h))) (cd c1 c2 m1 : Nat) (hm1 : m1 = m) (z1 : m ≤ cd) (z2 : cd ≤ maxLen) (x1 : m ≤ c1) (x2 : c1 ≤ maxLen) (y1 : h ≤ c2) (y2 : c2 ≤ maxLen) :
    Calls Yba.prog 12 #[.slice (some ⟨bt, ot, none⟩) m cd, .slice (some ⟨b1, o1 + h, none⟩) m1 c1, .slice (some ⟨b1, o1, none⟩) h c2] w1 fun e' w' => e' = .returned (.bool sg) ∧ KSt b off bt ot h m R xs ys w 3 w' := by
  obtain ⟨l1, l2, d, e, p, q, K, k1, k2, -, -, -, -⟩ := s
  refine (kar3 B K sg hs cd c1 c2 m1 hm1 z1 z2 x1 x2 y1 y2).mono ?_
  rintro e' w' ⟨rfl, K⟩
  obtain ⟨d, K, k3⟩ := K.out
  exact ⟨rfl, l1, l2, d, e, p, q, K, k1, fun _ => k2 (by omega), fun _ => k3, by omega, by omega, by omega⟩

theorem ks4 {b off b1 o1 b2 o2 bt ot h m R : Nat} {xs ys : List Int} {w w1 : World} (B : KB b off b1 o1 b2 o2 bt ot h m R xs ys w) (s : KSt b off bt ot h m R xs ys w 3 w1) (sg : Bool) (hs : sg = decide (nv (ys.take h) < nv (ys.drop h))) (m0 cd c1 c2 m1 : Nat) (hm0 : m0 = m) (hm1 : m1 = m) (z1 : m ≤ cd) (z2 : cd ≤ maxLen) (x1 : m ≤ c1) (x2 : c1 ≤ maxLen) (y1 : h ≤ c2) (y2 : c2 ≤ maxLen) :
    Calls Yba.prog 12 #[.slice (some ⟨bt, ot + m, none⟩) m0 cd, .slice (some ⟨b2, o2, none⟩) h c2, .slice (some ⟨b2, o2 + h, none⟩) m1 c1] w1 fun e' w' => e' = .returned (.bool sg) ∧ KSt b off bt ot h m R xs ys w 4 w' := by
  obtain ⟨l1, l2, d, e, p, q, K, k1, k2, k3, -, -, -⟩ := s
  refine (kar4 B K sg hs m0 cd c1 c2 m1 hm0 hm1 z1 z2 x1 x2 y1 y2).mono ?_
  rintro e' w' ⟨rfl, K⟩
  obtain ⟨e, K, k4⟩ := K.out
  exact ⟨rfl, l1, l2, d, e, p, q, K, k1, fun _ => k2 (by omega), fun _ => k3 (by omega), fun _ => k4, by omega, by omega⟩

theorem ks5 {b off b1 o1 b2 o2 bt ot h m R : Nat} {xs ys : List Int} {w w1 : World} (B : KB b off b1 o1 b2 o2 bt ot h m R xs ys w) (ih : KarAt m) (s : KSt b off bt ot h m R xs ys w 4 w1) (ao : Option Addr) (ha : 0 < R → ao = some ⟨bt, ot + (6 * m + 1), none⟩)
    (A m2 N c0 c1 c2 R' ct : Nat) (hA : A = ot + 2 * m) (hN : N = 2 * m) (hm2 : m2 = m) (hR : R' = R) (z1 : N ≤ c0) (z2 : c0 ≤ maxLen) (x1 : m ≤ c1) (x2 : c1 ≤ maxLen) (y1 : m ≤ c2) (y2 : c2 ≤ maxLen) (t1 : R ≤ ct) (t2 : ct ≤ maxLen) :
    Calls Yba.prog 28 #[.slice (some ⟨bt, A, none⟩) N c0, .slice (some ⟨bt, ot, none⟩) m c1, .slice (some ⟨bt, ot + m, none⟩) m2 c2, .slice ao R' ct] w1 fun e' w' => e' = .returned (.tuple #[]) ∧ KSt b off bt ot h m R xs ys w 5 w' := by
  obtain ⟨l1, l2, d, e, p, q, K, k1, k2, k3, k4, -, -⟩ := s
  subst hA
  refine (kar5 B ih K (k3 (by omega)).1 (k4 (by omega)).1 ao ha m2 N c0 c1 c2 R' ct hN hm2 hR z1 z2 x1 x2 y1 y2 t1 t2).mono ?_
  rintro e' w' ⟨rfl, K⟩
  obtain ⟨p, K, k5⟩ := K.out
  exact ⟨rfl, l1, l2, d, e, p, q, K, k1, fun _ => k2 (by omega), fun _ => k3 (by omega), fun _ => k4 (by omega), fun _ => k5, by omega⟩

theorem ks6 {b off b1 o1 b2 o2 bt ot h m R : Nat} {xs ys : List Int} {w w1 : World} (B : KB b off b1 o1 b2 o2 bt ot h m R xs ys w) (s : KSt b off bt ot h m R xs ys w 5 w1) (A A2 A3 Q c0 L cz : Nat) (hA : A = ot + 4 * m) (hA2 : A2 = off + 2 * h) (hA3 : A3 = ot + 4 * m + 2 * m) (hQ : Q = 2 * m + 1) (hL : L = 2 * m) :
    ∃ w2, (∀ t2 ty, (Builtin.copy_ #[24, t2] ty #[.slice (some ⟨bt, A, none⟩) Q c0, .slice (some ⟨b, A2, none⟩) L cz]).run Yba.prog w1 = .ok (goInt L) w2) ∧ w2.frozen? ⟨bt, A3, none⟩ = false ∧ (∃ v, w2.cell? ⟨bt, A3, none⟩ = some (.int .u64 v)) ∧
      KSt b off bt ot h m R xs ys w 6 (w2.setCell ⟨bt, A3, none⟩ (.int .u64 0)) := by
  obtain ⟨l1, l2, d, e, p, q, K, k1, k2, k3, k4, k5, -⟩ := s
  subst hA hA2 hA3
  obtain ⟨w2, g1, g2, g3, K⟩ := kar6 B K (k2 (by omega)).1 Q c0 L cz hQ hL
  obtain ⟨q, K, k6, k7⟩ := K.out
  exact ⟨w2, g1, g2, g3, l1, l2, d, e, p, q, K, k1, fun _ => k2 (by omega), fun _ => k3 (by omega), fun _ => k4 (by omega), fun _ => k5 (by omega), fun _ => ⟨k6, fun _ => k7, by omega, by omega⟩⟩

theorem ks7 {b off b1 o1 b2 o2 bt ot h m R : Nat} {xs ys : List Int} {w w1 : World} (B : KB b off b1 o1 b2 o2 bt ot h m R xs ys w) (s : KSt b off bt ot h m R xs ys w 6 w1) (A Q c0 L cz : Nat) (hA : A = ot + 4 * m) (hQ : Q = 2 * m + 1) (hL : L = 2 * h) (hb : Q ≤ 9223372036854775807) :
    Calls Yba.prog 29 #[.slice (some ⟨bt, A, none⟩) Q c0, .slice (some ⟨b, off, none⟩) L cz] w1 fun e' w' => ∃ c, e' = .returned (.int .u64 c) ∧ KSt b off bt ot h m R xs ys w 7 w' := by
  obtain ⟨l1, l2, d, e, p, q, K, k1, k2, k3, k4, k5, k6⟩ := s
  subst hA
  have k2 := k2 (by omega)
  have k6 := k6 (by omega)
  refine (kar7 B K k1.1 k2.1 k6.1 (k6.2.1 rfl) Q c0 L cz hQ hL hb).mono ?_
  rintro e' w' ⟨⟨c, rfl⟩, K⟩
  obtain ⟨q, K, k7, k8⟩ := K.out
  exact ⟨c, rfl, l1, l2, d, e, p, q, K, k1, fun _ => k2, fun _ => k3 (by omega), fun _ => k4 (by omega), fun _ => k5 (by omega), fun _ => ⟨k7, by omega, fun _ => k8, by omega⟩⟩

theorem ks8a {b off b1 o1 b2 o2 bt ot h m R : Nat} {xs ys : List Int} {w w1 : World} (B : KB b off b1 o1 b2 o2 bt ot h m R xs ys w) (s : KSt b off bt ot h m R xs ys w 7 w1) (sg : Bool) (hs1 : sg = decide (nv (xs.drop h) < nv (xs.take h))) (hs2 : sg = decide (nv (ys.take h) < nv (ys.drop h))) (A A2 Q c0 L cz : Nat) (hA : A = ot + 4 * m) (hA2 : A2 = ot + 2 * m) (hQ : Q = 2 * m + 1) (hL : L = 2 * m) (hb : Q ≤ 9223372036854775807) :
    Calls Yba.prog 29 #[.slice (some ⟨bt, A, none⟩) Q c0, .slice (some ⟨bt, A2, none⟩) L cz] w1 fun e' w' => ∃ c, e' = .returned (.int .u64 c) ∧ KSt b off bt ot h m R xs ys w 8 w' := by
  obtain ⟨l1, l2, d, e, p, q, K, k1, k2, k3, k4, k5, k6⟩ := s
  subst hA hA2
  have k2 := k2 (by omega)
  have k3 := k3 (by omega)
  have k4 := k4 (by omega)
  have k5 := k5 (by omega)
  have k6 := k6 (by omega)
  refine (kar8a B K (sx := sg) (sy := sg) ⟨k1.1, k2.1, k5.1, k6.1, k1.2, k2.2, by rw [k5.2, k3.2, k4.2], k6.2.2.1 rfl, hs1, hs2⟩ rfl Q c0 L cz hQ hL hb).mono ?_
  rintro e' w' ⟨⟨c, rfl⟩, K⟩
  obtain ⟨q, K, k7, k8⟩ := K.out
  exact ⟨c, rfl, l1, l2, d, e, p, q, K, k1, fun _ => k2, fun _ => k3, fun _ => k4, fun _ => k5, fun _ => ⟨k7, by omega, by omega, fun _ => k8⟩⟩

theorem ks8s {b off b1 o1 b2 o2 bt ot h m R : Nat} {xs ys : List Int} {w w1 : World} (B : KB b off b1 o1 b2 o2 bt ot h m R xs ys w) (s : KSt b off bt ot h m R xs ys w 7 w1) (sx sy : Bool) (hs1 : sx = decide (nv (xs.drop h) < nv (xs.take h))) (hs2 : sy = decide (nv (ys.take h) < nv (ys.drop h))) (hne : sx ≠ sy) (A A2 Q c0 L cz : Nat) (hA : A = ot + 4 * m) (hA2 : A2 = ot + 2 * m) (hQ : Q = 2 * m + 1) (hL : L = 2 * m) (hb : Q ≤ 9223372036854775807) :
    Calls Yba.prog 22 #[.slice (some ⟨bt, A, none⟩) Q c0, .slice (some ⟨bt, A2, none⟩) L cz] w1 fun e' w' => ∃ c, e' = .returned (.int .u64 c) ∧ KSt b off bt ot h m R xs ys w 8 w' := by
  obtain ⟨l1, l2, d, e, p, q, K, k1, k2, k3, k4, k5, k6⟩ := s
  subst hA hA2
  have k2 := k2 (by omega)
  have k3 := k3 (by omega)
  have k4 := k4 (by omega)
  have k5 := k5 (by omega)
  have k6 := k6 (by omega)
  refine (kar8s B K (sx := sx) (sy := sy) ⟨k1.1, k2.1, k5.1, k6.1, k1.2, k2.2, by rw [k5.2, k3.2, k4.2], k6.2.2.1 rfl, hs1, hs2⟩ hne Q c0 L cz hQ hL hb).mono ?_
  rintro e' w' ⟨⟨c, rfl⟩, K⟩
  obtain ⟨q, K, k7, k8⟩ := K.out
  exact ⟨c, rfl, l1, l2, d, e, p, q, K, k1, fun _ => k2, fun _ => k3, fun _ => k4, fun _ => k5, fun _ => ⟨k7, by omega, by omega, fun _ => k8⟩⟩

theorem ks9 {b off b1 o1 b2 o2 bt ot h m R : Nat} {xs ys : List Int} {w w1 : World} (B : KB b off b1 o1 b2 o2 bt ot h m R xs ys w) (s : KSt b off bt ot h m R xs ys w 8 w1) (A L cz Q c0 n T : Nat) (hn : n = h + m) (hT : T = 6 * m + 1 + R) (hA : A = ot + 4 * m) (hQ : Q = 2 * m + 1) (hL : L = h + 2 * m) (hb : L ≤ 9223372036854775807) :
    Calls Yba.prog 29 #[.slice (some ⟨b, off + h, none⟩) L cz, .slice (some ⟨bt, A, none⟩) Q c0] w1 fun e' w' => ∃ c, e' = .returned (.int .u64 c) ∧ KarPost n b off bt ot T xs ys w w' := by
  obtain ⟨l1, l2, d, e, p, q, K, k1, k2, k3, k4, k5, k6⟩ := s
  subst hA hn hT
  have k2 := k2 (by omega)
  have k6 := k6 (by omega)
  refine (kar9 B K k1.1 k2.1 k1.2 k2.2 k6.1 (k6.2.2.2 rfl) L cz Q c0 hQ hL hb).mono ?_
  rintro e' w' ⟨⟨c, rfl⟩, K⟩
  exact ⟨c, rfl, K⟩

set_option maxHeartbeats 400000 in
theorem kar_small (n : Nat) (h0 : 0 < n) (hn : n < 40) : KarAt n := by
  intro b off N cz b1 o1 c1 b2 o2 c2 ao bt ot T ct xs ys w P hN hs z1 z2 x1 x2 y1 y2 t1 t2 ha
  subst hN
  obtain ⟨xl, yl, hx, hy, cx, cy, fz, ft, zx, zy, tx, ty, zt, ⟨zs, zl, zc⟩, rt⟩ := P
  have HA : Hid (Calls Yba.prog 24 #[.slice (some ⟨b, off, none⟩) (2 * n) cz, .slice (some ⟨b1, o1, none⟩) n c1, .slice (some ⟨b2, o2, none⟩) n c2] w fun e w' => e = .returned (.tuple #[]) ∧ KarPost n b off bt ot T xs ys w w') := by
    refine (basic_at b off (2 * n) cz zs b1 o1 n c1 xs (some ⟨b2, o2, none⟩) n c2 ys zl xl yl (by omega) z1 z2 h0 hx hy w zc fz cx zx (.inr ⟨_, _, rfl, cy, by rw [yl]; exact zy⟩)).mono ?_
    rintro e w' ⟨rfl, rs, r1, r2, r3, r4, r5⟩
    have g := r5.chg (by omega)
    exact ⟨rfl, rs, r1, r2, r3, r4, rt.chg g (fun o _ _ => by unfold Rng; omega), g.mono fun k o h => .inl h⟩
  have hi : (n : Int) < 40 := by omega
  clear hn hs z1 z2 x1 x2 y1 y2 t1 t2 ha xl yl hx hy cx cy fz ft zx zy tx ty zt zl zc rt h0
  go_enter Yba.func28, Yba.ntmps28
  go_wp2_with fail
  refine HA.out.mono ?_
  rintro e w' ⟨rfl, K⟩
  go_wp2
  refine bodyPost_ret (results_none rfl _ _ _) rfl ?_
  exact ⟨rfl, K⟩
end Go.Proofs.Ybulkcmly
