/-
  karatsuba: the calls that it makes, each by its contract, over the pieces.
-/
import Derived.Test.YbulkcmlyKarC
namespace Go.Proofs.Ybulkcmly
open Go.RowKit
set_option linter.unusedVariables false

theorem scr_mono (a b : Nat) (h : a ≤ b) : scr a ≤ scr b := by
  induction b using Nat.strongRecOn generalizing a with
  | _ b ih =>
    by_cases ha : a < 40
    · rw [scr_lt ha]; omega
    · rw [scr_ge ha, scr_ge (n := b) (by omega)]
      have := ih (b - b / 2) (by omega) (a - a / 2) (by omega)
      omega

/-- What karatsuba is given, for the long case. -/
structure KB (b off b1 o1 b2 o2 bt ot h m R : Nat) (xs ys : List Int) (w : World) : Prop where
  pre : KarPre (h + m) b off b1 o1 b2 o2 bt ot (6 * m + 1 + R) xs ys w
  hh : 0 < h
  hm : h ≤ m
  sc : scr m ≤ R

theorem KP.later {b off b1 o1 b2 o2 bt ot h m R : Nat} {xs ys : List Int} {w0 w : World} {l1 l2 d e p q : List Int} (B : KB b off b1 o1 b2 o2 bt ot h m R xs ys w0) (k : KP b off bt ot h m R w0 w l1 l2 d e p q) : KarPre (h + m) b off b1 o1 b2 o2 bt ot (6 * m + 1 + R) xs ys w :=
  B.pre.later k.chg k.room.2 k.room.1

theorem KarPre.low {b off b1 o1 b2 o2 bt ot T h m : Nat} {xs ys : List Int} {w : World} (p : KarPre (h + m) b off b1 o1 b2 o2 bt ot T xs ys w) : KarPre h b off b1 o1 b2 o2 bt ot T (xs.take h) (ys.take h) w := by
  obtain ⟨xl, yl, hx, hy, cx, cy, fz, ft, zx, zy, tx, ty, zt, rz, rt⟩ := p
  exact ⟨by rw [List.length_take]; omega, by rw [List.length_take]; omega, hx.take h, hy.take h, cx.take h, cy.take h, fun i hi => fz i (by omega), ft, by omega, by omega, by omega, by omega, by omega, (rz.split (2 * h) (by omega)).1, rt⟩
theorem KarPre.high {b off b1 o1 b2 o2 bt ot T h m : Nat} {xs ys : List Int} {w : World} (p : KarPre (h + m) b off b1 o1 b2 o2 bt ot T xs ys w) : KarPre m b (off + 2 * h) b1 (o1 + h) b2 (o2 + h) bt ot T (xs.drop h) (ys.drop h) w := by
  obtain ⟨xl, yl, hx, hy, cx, cy, fz, ft, zx, zy, tx, ty, zt, rz, rt⟩ := p
  refine ⟨by rw [List.length_drop]; omega, by rw [List.length_drop]; omega, hx.drop h, hy.drop h, cx.drop h, cy.drop h, fun i hi => by rw [Nat.add_assoc]; exact fz (2 * h + i) (by omega), ft, by omega, by omega, by omega, by omega, by omega, ?_, rt⟩
  have := (rz.split (2 * h) (by omega)).2
  rwa [show 2 * (h + m) - 2 * h = 2 * m by omega] at this

theorem kar1 {b off b1 o1 b2 o2 bt ot h m R : Nat} {xs ys : List Int} {w w1 : World} (B : KB b off b1 o1 b2 o2 bt ot h m R xs ys w) (ih : KarAt h) (hd : Chg (fun _ _ => False) w w1) (N cz c1 c2 T ct : Nat) (hN : N = 2 * h) (hT : T = 6 * m + 1 + R) (z1 : N ≤ cz) (z2 : cz ≤ maxLen) (x1 : h ≤ c1) (x2 : c1 ≤ maxLen) (y1 : h ≤ c2) (y2 : c2 ≤ maxLen) (t1 : T ≤ ct) (t2 : ct ≤ maxLen) :
    Calls Yba.prog 28 #[.slice (some ⟨b, off, none⟩) N cz, .slice (some ⟨b1, o1, none⟩) h c1, .slice (some ⟨b2, o2, none⟩) h c2, .slice (some ⟨bt, ot, none⟩) T ct] w1 fun e w' => e = .returned (.tuple #[]) ∧
      Hid (∃ l1 l2 d e p q, KP b off bt ot h m R w w' l1 l2 d e p q ∧ Words l1 ∧ nv l1 = nv (xs.take h) * nv (ys.take h)) := by
  subst hT
  have p1 := B.pre.later (hd.mono fun _ _ h => h.elim) (B.pre.rz.chg hd fun _ _ _ h => h) (B.pre.rt.chg hd fun _ _ _ h => h)
  have hs := scr_mono h m B.hm
  have hs2 := B.sc
  refine (ih b off N cz b1 o1 c1 b2 o2 c2 _ bt ot _ ct _ _ w1 p1.low hN (by omega) z1 z2 x1 x2 y1 y2 t1 t2 (fun _ => rfl)).mono ?_
  rintro e w' ⟨rfl, rs, r1, r2, r3, r4, r5, r6⟩
  have zt := p1.zt
  obtain ⟨l2, n2, k2⟩ := (p1.rz.split (2 * h) (by omega)).2
  obtain ⟨d, e, p, q, kp⟩ := KP.start (w0 := w) r1 (by rw [n2]; omega : l2.length = 2 * m) r4 (k2.chg r6 (fun o _ _ => by unfold KarS Rng; omega)) r5 ((hd.mono fun _ _ h => h.elim).trans (r6.mono fun k o h => by unfold KarS Rng at *; omega)) (by omega)
  exact ⟨rfl, rs, l2, d, e, p, q, kp, r2, r3⟩

theorem kar2 {b off b1 o1 b2 o2 bt ot h m R : Nat} {xs ys : List Int} {w w1 : World} (B : KB b off b1 o1 b2 o2 bt ot h m R xs ys w) (ih : KarAt m) {l1 l2 d e p q : List Int} (K : KP b off bt ot h m R w w1 l1 l2 d e p q) (N cz c1 c2 T ct m1 m2 : Nat) (hN : N = 2 * m) (hm1 : m1 = m) (hm2 : m2 = m) (hT : T = 6 * m + 1 + R) (z1 : N ≤ cz) (z2 : cz ≤ maxLen) (x1 : m ≤ c1) (x2 : c1 ≤ maxLen) (y1 : m ≤ c2) (y2 : c2 ≤ maxLen) (t1 : T ≤ ct) (t2 : ct ≤ maxLen) :
    Calls Yba.prog 28 #[.slice (some ⟨b, off + 2 * h, none⟩) N cz, .slice (some ⟨b1, o1 + h, none⟩) m1 c1, .slice (some ⟨b2, o2 + h, none⟩) m2 c2, .slice (some ⟨bt, ot, none⟩) T ct] w1 fun e w' => e = .returned (.tuple #[]) ∧
      Hid (∃ l2 d e p q, KP b off bt ot h m R w w' l1 l2 d e p q ∧ Words l2 ∧ nv l2 = nv (xs.drop h) * nv (ys.drop h)) := by
  subst hT hm1 hm2
  have p1 := K.later B
  have hs2 := B.sc
  refine (ih b (off + 2 * h) N cz b1 (o1 + h) c1 b2 (o2 + h) c2 _ bt ot _ ct _ _ w1 p1.high hN (by omega) z1 z2 x1 x2 y1 y2 t1 t2 (fun _ => rfl)).mono ?_
  rintro e w' ⟨rfl, rs, r1, r2, r3, r4, r5, r6⟩
  have zt := p1.zt
  have k1 := K.n1
  obtain ⟨d, e, p, q, kp⟩ := KP.start (w0 := w) K.n1 r1 (K.c1.chg r6 (fun o _ _ => by unfold KarS Rng; omega)) r4 r5 (K.chg.trans (r6.mono fun k o h => by unfold KarS Rng at *; omega)) (by omega)
  exact ⟨rfl, rs, d, e, p, q, kp, r2, r3⟩

def AbsD (x y : Int) : Int := if x < y then y - x else x - y

theorem kar3 {b off b1 o1 b2 o2 bt ot h m R : Nat} {xs ys : List Int} {w w1 : World} (B : KB b off b1 o1 b2 o2 bt ot h m R xs ys w) {l1 l2 d e p q : List Int} (K : KP b off bt ot h m R w w1 l1 l2 d e p q) (s : Bool) (hs : s = decide (nv (xs.drop h) < nv (xs.take h))) (cd c1 c2 m1 : Nat) (hm1 : m1 = m) (z1 : m ≤ cd) (z2 : cd ≤ maxLen) (x1 : m ≤ c1) (x2 : c1 ≤ maxLen) (y1 : h ≤ c2) (y2 : c2 ≤ maxLen) :
    Calls Yba.prog 12 #[.slice (some ⟨bt, ot, none⟩) m cd, .slice (some ⟨b1, o1 + h, none⟩) m1 c1, .slice (some ⟨b1, o1, none⟩) h c2] w1 fun e' w' => e' = .returned (.bool s) ∧
      Hid (∃ d, KP b off bt ot h m R w w' l1 l2 d e p q ∧ Words d ∧ nv d = AbsD (nv (xs.drop h)) (nv (xs.take h))) := by
  subst hm1
  have P := K.later B
  have hm0 : 0 < m1 := by have := B.hm; have := B.hh; omega
  have l0 : (xs.take h).length = h := by rw [List.length_take, P.xl]; omega
  have l9 : (xs.drop h).length = m1 := by rw [List.length_drop, P.xl]; omega
  have ff : Free w1 bt ot m1 := fun i hi => P.ft i (by omega)
  have tx := P.tx
  have s1 : Src w1 (some ⟨b1, o1 + h, none⟩) (xs.drop h) bt ot m1 := .inr ⟨b1, o1 + h, rfl, P.cx.drop h, by omega⟩
  have s2 : Src w1 (some ⟨b1, o1, none⟩) (xs.take h) bt ot m1 := .inr ⟨b1, o1, rfl, P.cx.take h, by omega⟩
  have hm := B.hm
  by_cases hl : nv (xs.drop h) < nv (xs.take h)
  · refine (absDiff_lt bt ot m1 cd d _ m1 c1 _ _ h c2 _ K.nd l9 l0 (Nat.le_refl _) hm z1 z2 x1 x2 y1 y2 (P.hx.drop h) (P.hx.take h) w1 K.cd ff s1 s2 hl).mono ?_
    rintro e w' ⟨rfl, rs, r1, r2, r3, r4, r5⟩
    exact ⟨by rw [hs, decide_eq_true hl], rs, K.putD hm0 r5 r1 r4, r2, by rw [r3, AbsD, if_pos hl]⟩
  · refine (absDiff_ge bt ot m1 cd d _ m1 c1 _ _ h c2 _ K.nd l9 l0 (Nat.le_refl _) hm z1 z2 x1 x2 y1 y2 (P.hx.drop h) (P.hx.take h) w1 K.cd ff s1 s2 hl).mono ?_
    rintro e w' ⟨rfl, rs, r1, r2, r3, r4, r5⟩
    exact ⟨by rw [hs, decide_eq_false hl], rs, K.putD hm0 r5 r1 r4, r2, by rw [r3, AbsD, if_neg hl]⟩

theorem kar4 {b off b1 o1 b2 o2 bt ot h m R : Nat} {xs ys : List Int} {w w1 : World} (B : KB b off b1 o1 b2 o2 bt ot h m R xs ys w) {l1 l2 d e p q : List Int} (K : KP b off bt ot h m R w w1 l1 l2 d e p q) (s : Bool) (hs : s = decide (nv (ys.take h) < nv (ys.drop h))) (m0 cd c1 c2 m1 : Nat) (hm0 : m0 = m) (hm1 : m1 = m) (z1 : m ≤ cd) (z2 : cd ≤ maxLen) (x1 : m ≤ c1) (x2 : c1 ≤ maxLen) (y1 : h ≤ c2) (y2 : c2 ≤ maxLen) :
    Calls Yba.prog 12 #[.slice (some ⟨bt, ot + m, none⟩) m0 cd, .slice (some ⟨b2, o2, none⟩) h c2, .slice (some ⟨b2, o2 + h, none⟩) m1 c1] w1 fun e' w' => e' = .returned (.bool s) ∧
      Hid (∃ e, KP b off bt ot h m R w w' l1 l2 d e p q ∧ Words e ∧ nv e = AbsD (nv (ys.take h)) (nv (ys.drop h))) := by
  subst hm0 hm1
  have P := K.later B
  have hm0 : 0 < m1 := by have := B.hm; have := B.hh; omega
  have l0 : (ys.take h).length = h := by rw [List.length_take, P.yl]; omega
  have l9 : (ys.drop h).length = m1 := by rw [List.length_drop, P.yl]; omega
  have ff : Free w1 bt (ot + m1) m1 := fun i hi => by rw [Nat.add_assoc]; exact P.ft (m1 + i) (by omega)
  have tx := P.ty
  have s1 : Src w1 (some ⟨b2, o2 + h, none⟩) (ys.drop h) bt (ot + m1) m1 := .inr ⟨b2, o2 + h, rfl, P.cy.drop h, by omega⟩
  have s2 : Src w1 (some ⟨b2, o2, none⟩) (ys.take h) bt (ot + m1) m1 := .inr ⟨b2, o2, rfl, P.cy.take h, by omega⟩
  have hm := B.hm
  by_cases hl : nv (ys.take h) < nv (ys.drop h)
  · refine (absDiff_lt bt (ot + m1) m1 cd e _ h c2 _ _ m1 c1 _ K.ne l0 l9 hm (Nat.le_refl _) z1 z2 y1 y2 x1 x2 (P.hy.take h) (P.hy.drop h) w1 K.ce ff s2 s1 hl).mono ?_
    rintro e w' ⟨rfl, rs, r1, r2, r3, r4, r5⟩
    exact ⟨by rw [hs, decide_eq_true hl], rs, K.putE hm0 r5 r1 r4, r2, by rw [r3, AbsD, if_pos hl]⟩
  · refine (absDiff_ge bt (ot + m1) m1 cd e _ h c2 _ _ m1 c1 _ K.ne l0 l9 hm (Nat.le_refl _) z1 z2 y1 y2 x1 x2 (P.hy.take h) (P.hy.drop h) w1 K.ce ff s2 s1 hl).mono ?_
    rintro e w' ⟨rfl, rs, r1, r2, r3, r4, r5⟩
    exact ⟨by rw [hs, decide_eq_false hl], rs, K.putE hm0 r5 r1 r4, r2, by rw [r3, AbsD, if_neg hl]⟩

theorem kar5 {b off b1 o1 b2 o2 bt ot h m R : Nat} {xs ys : List Int} {w w1 : World} (B : KB b off b1 o1 b2 o2 bt ot h m R xs ys w) (ih : KarAt m) {l1 l2 d e p q : List Int} (K : KP b off bt ot h m R w w1 l1 l2 d e p q) (hd : Words d) (he : Words e) (ao : Option Addr) (ha : 0 < R → ao = some ⟨bt, ot + (6 * m + 1), none⟩)
    (m2 N c0 c1 c2 R' ct : Nat) (hN : N = 2 * m) (hm2 : m2 = m) (hR : R' = R) (z1 : N ≤ c0) (z2 : c0 ≤ maxLen) (x1 : m ≤ c1) (x2 : c1 ≤ maxLen) (y1 : m ≤ c2) (y2 : c2 ≤ maxLen) (t1 : R ≤ ct) (t2 : ct ≤ maxLen) :
    Calls Yba.prog 28 #[.slice (some ⟨bt, ot + 2 * m, none⟩) N c0, .slice (some ⟨bt, ot, none⟩) m c1, .slice (some ⟨bt, ot + m, none⟩) m2 c2, .slice ao R' ct] w1 fun e' w' => e' = .returned (.tuple #[]) ∧
      Hid (∃ p, KP b off bt ot h m R w w' l1 l2 d e p q ∧ Words p ∧ nv p = nv d * nv e) := by
  subst hm2 hR
  have P := K.later B
  have pre : KarPre m2 bt (ot + 2 * m2) bt ot bt (ot + m2) bt (ot + (6 * m2 + 1)) R' d e w1 := by
    refine ⟨K.nd, K.ne, hd, he, K.cd, K.ce, fun i hi => by rw [Nat.add_assoc]; exact P.ft _ (by omega), fun i hi => by rw [Nat.add_assoc]; exact P.ft _ (by omega), by omega, by omega, by omega, by omega, by omega, K.cp.room K.np, K.rr⟩
  refine (ih bt (ot + 2 * m2) N c0 bt ot c1 bt (ot + m2) c2 ao bt (ot + (6 * m2 + 1)) R' ct d e w1 pre hN B.sc z1 z2 x1 x2 y1 y2 t1 t2 ha).mono ?_
  rintro e' w' ⟨rfl, rs, r1, r2, r3, r4, r5, r6⟩
  exact ⟨rfl, rs, K.putP r6 r1 r4 r5, r2, r3⟩

/-- copy(mid, z[2h:]); mid[2m] = 0. -/
theorem kar6 {b off b1 o1 b2 o2 bt ot h m R : Nat} {xs ys : List Int} {w w1 : World} (B : KB b off b1 o1 b2 o2 bt ot h m R xs ys w) {l1 l2 d e p q : List Int} (K : KP b off bt ot h m R w w1 l1 l2 d e p q) (hl : Words l2) (Q c0 L cz : Nat) (hQ : Q = 2 * m + 1) (hL : L = 2 * m) :
    ∃ w2, (∀ t2 ty, (Builtin.copy_ #[24, t2] ty #[.slice (some ⟨bt, ot + 4 * m, none⟩) Q c0, .slice (some ⟨b, off + 2 * h, none⟩) L cz]).run Yba.prog w1 = .ok (goInt L) w2) ∧ w2.frozen? ⟨bt, ot + 4 * m + 2 * m, none⟩ = false ∧ (∃ v, w2.cell? ⟨bt, ot + 4 * m + 2 * m, none⟩ = some (.int .u64 v)) ∧
      Hid (∃ q, KP b off bt ot h m R w (w2.setCell ⟨bt, ot + 4 * m + 2 * m, none⟩ (.int .u64 0)) l1 l2 d e p q ∧ Words q ∧ nv q = nv l2) := by
  have P := K.later B
  have zt := K.zt
  have fq : Free w1 bt (ot + 4 * m) Q := fun i hi => by rw [Nat.add_assoc]; exact P.ft _ (by omega)
  obtain ⟨w2, h1, h2, h3⟩ := copy_to w1 bt (ot + 4 * m) Q c0 q (some ⟨b, off + 2 * h, none⟩) L cz l2 (by rw [K.nq, hQ]) (by rw [K.n2, hL]) (by omega) K.cq fq (.inr ⟨_, _, rfl, K.c2⟩)
  subst hL hQ
  have n2 := K.n2
  have nq := K.nq
  have len : (l2 ++ q.drop (2 * m)).length = 2 * m + 1 := by rw [List.length_append, List.length_drop]; omega
  refine ⟨w2, h1, by rw [h3.frozen]; exact fq (2 * m) (by omega), ⟨_, h2 (2 * m) (by omega)⟩, (l2 ++ q.drop (2 * m)).set (2 * m) 0, K.putQ (h3.setCell (by omega) (by omega) _) (by rw [List.length_set]; exact len) (h2.set (by omega) 0), ?_⟩
  have eq : (l2 ++ q.drop (2 * m)).set (2 * m) 0 = l2 ++ [0] := by
    rw [List.set_append_right _ _ (by omega), n2, Nat.sub_self]
    have : (q.drop (2 * m)).length = 1 := by rw [List.length_drop]; omega
    obtain ⟨v, hv⟩ := List.length_eq_one_iff.1 this
    rw [hv]; rfl
  rw [eq]
  exact ⟨hl.append (words_one (by decide)), by rw [nv_snoc]; omega⟩

theorem dbl (m : Nat) : 2 * pw (2 * m) ≤ pw (2 * m + 1) := by
  rw [pw_succ]
  have := pw_pos (2 * m)
  omega

theorem kar7 {b off b1 o1 b2 o2 bt ot h m R : Nat} {xs ys : List Int} {w w1 : World} (B : KB b off b1 o1 b2 o2 bt ot h m R xs ys w) {l1 l2 d e p q : List Int} (K : KP b off bt ot h m R w w1 l1 l2 d e p q) (h1 : Words l1) (h2 : Words l2) (hq : Words q) (hv : nv q = nv l2) (Q c0 L cz : Nat) (hQ : Q = 2 * m + 1) (hL : L = 2 * h) (hb : Q ≤ 9223372036854775807) :
    Calls Yba.prog 29 #[.slice (some ⟨bt, ot + 4 * m, none⟩) Q c0, .slice (some ⟨b, off, none⟩) L cz] w1 fun e' w' => (∃ c, e' = .returned (.int .u64 c)) ∧
      Hid (∃ q, KP b off bt ot h m R w w' l1 l2 d e p q ∧ Words q ∧ nv q = nv l2 + nv l1) := by
  subst hQ hL
  have P := K.later B
  have zt := K.zt
  have hm := B.hm
  refine (addIn_src bt (ot + 4 * m) (2 * m + 1) c0 (some ⟨b, off, none⟩) (2 * h) cz q l1 K.nq K.n1 (by omega) hb hq h1 w1 K.cq (fun i hi => by rw [Nat.add_assoc]; exact P.ft _ (by omega)) (.inr ⟨_, _, rfl, K.c1, by rw [K.n1]; omega⟩)).mono ?_
  rintro e' w' ⟨rs, c, rfl, r1, r2, r3, r4, r5, r6⟩
  refine ⟨⟨c, rfl⟩, rs, K.putQ r6 r1 r5, r2, ?_⟩
  have b1 := nv_bound h1
  have b2 := nv_bound h2
  have br := nv_bound r2
  rw [K.n1] at b1
  rw [K.n2] at b2
  rw [r1] at br
  have := pw_mono (a := 2 * h) (b := 2 * m) (by omega)
  have := dbl m
  exact no_carry br r3 (by omega) (by rw [← r4, hv])

/-- The middle term. -/
theorem mid_eq (x0 x1 y0 y1 : Int) (sx sy : Bool) (h1 : sx = decide (x1 < x0)) (h2 : sy = decide (y0 < y1)) : x1 * y1 + x0 * y0 + (if sx = sy then AbsD x1 x0 * AbsD y0 y1 else - (AbsD x1 x0 * AbsD y0 y1)) = x1 * y0 + x0 * y1 := by
  unfold AbsD
  subst h1 h2
  by_cases a : x1 < x0 <;> by_cases c : y0 < y1 <;> simp only [a, c, decide_true, decide_false, if_true, if_false, reduceCtorEq] <;> grind

theorem mid_lt {h m : Nat} {x0 x1 y0 y1 : Int} (hm : h ≤ m) (a0 : 0 ≤ x0 ∧ x0 < pw h) (a1 : 0 ≤ x1 ∧ x1 < pw m) (b0 : 0 ≤ y0 ∧ y0 < pw h) (b1 : 0 ≤ y1 ∧ y1 < pw m) : 0 ≤ x1 * y0 + x0 * y1 ∧ x1 * y0 + x0 * y1 < pw (2 * m + 1) := by
  have e1 := mul_lt' a1 b0
  have e2 := mul_lt' a0 b1
  rw [← pw_add] at e1 e2
  have := pw_mono (a := m + h) (b := 2 * m) (by omega)
  have := pw_mono (a := h + m) (b := 2 * m) (by omega)
  have := dbl m
  omega

theorem KB.halves {b off b1 o1 b2 o2 bt ot h m R : Nat} {xs ys : List Int} {w : World} (B : KB b off b1 o1 b2 o2 bt ot h m R xs ys w) :
    (0 ≤ nv (xs.take h) ∧ nv (xs.take h) < pw h) ∧ (0 ≤ nv (xs.drop h) ∧ nv (xs.drop h) < pw m) ∧ (0 ≤ nv (ys.take h) ∧ nv (ys.take h) < pw h) ∧ (0 ≤ nv (ys.drop h) ∧ nv (ys.drop h) < pw m) := by
  have P := B.pre
  have a := nv_bound (P.hx.take h)
  have b := nv_bound (P.hx.drop h)
  have c := nv_bound (P.hy.take h)
  have d := nv_bound (P.hy.drop h)
  rw [List.length_take, P.xl, Nat.min_eq_left (by omega)] at a
  rw [List.length_take, P.yl, Nat.min_eq_left (by omega)] at c
  rw [List.length_drop, P.xl, Nat.add_sub_cancel_left] at b
  rw [List.length_drop, P.yl, Nat.add_sub_cancel_left] at d
  exact ⟨a, b, c, d⟩

/-- What the pieces hold ahead of the middle term's last step. -/
structure KV (h : Nat) (xs ys l1 l2 p q : List Int) (sx sy : Bool) : Prop where
  w1 : Words l1
  w2 : Words l2
  wp : Words p
  wq : Words q
  v1 : nv l1 = nv (xs.take h) * nv (ys.take h)
  v2 : nv l2 = nv (xs.drop h) * nv (ys.drop h)
  vp : nv p = AbsD (nv (xs.drop h)) (nv (xs.take h)) * AbsD (nv (ys.take h)) (nv (ys.drop h))
  vq : nv q = nv l2 + nv l1
  sx : sx = decide (nv (xs.drop h) < nv (xs.take h))
  sy : sy = decide (nv (ys.take h) < nv (ys.drop h))

theorem kar8a {b off b1 o1 b2 o2 bt ot h m R : Nat} {xs ys : List Int} {w w1 : World} (B : KB b off b1 o1 b2 o2 bt ot h m R xs ys w) {l1 l2 d e p q : List Int} (K : KP b off bt ot h m R w w1 l1 l2 d e p q) {sx sy : Bool} (V : KV h xs ys l1 l2 p q sx sy) (hs : sx = sy) (Q c0 L cz : Nat) (hQ : Q = 2 * m + 1) (hL : L = 2 * m) (hb : Q ≤ 9223372036854775807) :
    Calls Yba.prog 29 #[.slice (some ⟨bt, ot + 4 * m, none⟩) Q c0, .slice (some ⟨bt, ot + 2 * m, none⟩) L cz] w1 fun e' w' => (∃ c, e' = .returned (.int .u64 c)) ∧
      Hid (∃ q, KP b off bt ot h m R w w' l1 l2 d e p q ∧ Words q ∧ nv q = nv (xs.drop h) * nv (ys.take h) + nv (xs.take h) * nv (ys.drop h)) := by
  subst hQ hL
  have P := K.later B
  have hm := B.hm
  refine (addIn_src bt (ot + 4 * m) (2 * m + 1) c0 (some ⟨bt, ot + 2 * m, none⟩) (2 * m) cz q p K.nq K.np (by omega) hb V.wq V.wp w1 K.cq (fun i hi => by rw [Nat.add_assoc]; exact P.ft _ (by omega)) (.inr ⟨_, _, rfl, K.cp, by rw [K.np]; omega⟩)).mono ?_
  rintro e' w' ⟨rs, c, rfl, r1, r2, r3, r4, r5, r6⟩
  refine ⟨⟨c, rfl⟩, rs, K.putQ r6 r1 r5, r2, ?_⟩
  have br := nv_bound r2
  rw [r1] at br
  obtain ⟨a0, a1, c0, c1⟩ := B.halves
  have ml := mid_lt hm a0 a1 c0 c1
  have me := mid_eq (nv (xs.take h)) (nv (xs.drop h)) (nv (ys.take h)) (nv (ys.drop h)) sx sy V.sx V.sy
  rw [if_pos hs, ← V.v1, ← V.v2, ← V.vp, ← V.vq] at me
  rw [← me] at ml ⊢
  exact no_carry br r3 ml.2 r4

theorem kar8s {b off b1 o1 b2 o2 bt ot h m R : Nat} {xs ys : List Int} {w w1 : World} (B : KB b off b1 o1 b2 o2 bt ot h m R xs ys w) {l1 l2 d e p q : List Int} (K : KP b off bt ot h m R w w1 l1 l2 d e p q) {sx sy : Bool} (V : KV h xs ys l1 l2 p q sx sy) (hs : sx ≠ sy) (Q c0 L cz : Nat) (hQ : Q = 2 * m + 1) (hL : L = 2 * m) (hb : Q ≤ 9223372036854775807) :
    Calls Yba.prog 22 #[.slice (some ⟨bt, ot + 4 * m, none⟩) Q c0, .slice (some ⟨bt, ot + 2 * m, none⟩) L cz] w1 fun e' w' => (∃ c, e' = .returned (.int .u64 c)) ∧
      Hid (∃ q, KP b off bt ot h m R w w' l1 l2 d e p q ∧ Words q ∧ nv q = nv (xs.drop h) * nv (ys.take h) + nv (xs.take h) * nv (ys.drop h)) := by
  subst hQ hL
  have P := K.later B
  have hm := B.hm
  refine (subIn_src bt (ot + 4 * m) (2 * m + 1) c0 (some ⟨bt, ot + 2 * m, none⟩) (2 * m) cz q p K.nq K.np (by omega) hb V.wq V.wp w1 K.cq (fun i hi => by rw [Nat.add_assoc]; exact P.ft _ (by omega)) (.inr ⟨_, _, rfl, K.cp, by rw [K.np]; omega⟩)).mono ?_
  rintro e' w' ⟨rs, c, rfl, r1, r2, r3, r4, r5, r6⟩
  refine ⟨⟨c, rfl⟩, rs, K.putQ r6 r1 r5, r2, ?_⟩
  have br := nv_bound r2
  rw [r1] at br
  obtain ⟨a0, a1, c0, c1⟩ := B.halves
  have ml := mid_lt hm a0 a1 c0 c1
  have me := mid_eq (nv (xs.take h)) (nv (xs.drop h)) (nv (ys.take h)) (nv (ys.drop h)) sx sy V.sx V.sy
  rw [if_neg hs, ← V.v1, ← V.v2, ← V.vp, ← V.vq, ← Int.sub_eq_add_neg] at me
  rw [← me] at ml ⊢
  exact no_bor br r3 ml.1 r4

theorem kar9 {b off b1 o1 b2 o2 bt ot h m R : Nat} {xs ys : List Int} {w w1 : World} (B : KB b off b1 o1 b2 o2 bt ot h m R xs ys w) {l1 l2 d e p q : List Int} (K : KP b off bt ot h m R w w1 l1 l2 d e p q) (wl1 : Words l1) (wl2 : Words l2) (v1 : nv l1 = nv (xs.take h) * nv (ys.take h)) (v2 : nv l2 = nv (xs.drop h) * nv (ys.drop h)) (wq : Words q) (vq : nv q = nv (xs.drop h) * nv (ys.take h) + nv (xs.take h) * nv (ys.drop h))
    (L cz Q c0 : Nat) (hQ : Q = 2 * m + 1) (hL : L = h + 2 * m) (hb : L ≤ 9223372036854775807) :
    Calls Yba.prog 29 #[.slice (some ⟨b, off + h, none⟩) L cz, .slice (some ⟨bt, ot + 4 * m, none⟩) Q c0] w1 fun e' w' => (∃ c, e' = .returned (.int .u64 c)) ∧
      KarPost (h + m) b off bt ot (6 * m + 1 + R) xs ys w w' := by
  subst hQ hL
  have P := K.later B
  have hm := B.hm
  have hh := B.hh
  have zt := K.zt
  have n1 := K.n1
  have n2 := K.n2
  have cz0 : Cells w1 b off (l1 ++ l2) := K.c1.app (by rw [n1]; exact K.c2)
  have nz : (l1 ++ l2).length = 2 * h + 2 * m := by rw [List.length_append]; omega
  have wz := wl1.append wl2
  have lt : ((l1 ++ l2).take h).length = h := by rw [List.length_take]; omega
  refine (addIn_src b (off + h) (h + 2 * m) cz (some ⟨bt, ot + 4 * m, none⟩) (2 * m + 1) c0 ((l1 ++ l2).drop h) q (by rw [List.length_drop]; omega) K.nq (by omega) hb (wz.drop h) wq w1 (cz0.drop h) (fun i hi => by rw [Nat.add_assoc]; exact P.fz _ (by omega)) (.inr ⟨_, _, rfl, K.cq, by rw [K.nq]; omega⟩)).mono ?_
  rintro e' w' ⟨rs, c, rfl, r1, r2, r3, r4, r5, r6⟩
  have g := r6.chg (by omega)
  refine ⟨⟨c, rfl⟩, (l1 ++ l2).take h ++ rs, by rw [List.length_append]; omega, (wz.take h).append r2, ?_, ?_, K.room.1.chg g (fun o _ _ => by unfold Rng; omega), K.chg.trans (g.mono fun k o h => by unfold KarS Rng at *; omega)⟩
  · have sz := nv_split (l1 ++ l2) h (by omega)
    rw [nv_append l1 l2, n1, show 2 * h = h + h by omega, pw_add] at sz
    have sx := nv_split xs h (by rw [P.xl]; omega)
    have sy := nv_split ys h (by rw [P.yl]; omega)
    have whole : nv xs * nv ys = nv ((l1 ++ l2).take h) + pw h * (nv ((l1 ++ l2).drop h) + nv q) := by
      rw [Int.mul_add, ← Int.add_assoc, ← sz, sx, sy, v1, v2, vq]
      grind
    have bx := nv_bound P.hx
    have bY := nv_bound P.hy
    rw [P.xl] at bx
    rw [P.yl] at bY
    have bw := (mul_lt' bx bY).2
    rw [← pw_add, show h + m + (h + m) = h + (h + 2 * m) by omega, pw_add] at bw
    have bt := (nv_bound (wz.take h)).1
    have lt2 : pw h * (nv ((l1 ++ l2).drop h) + nv q) < pw h * pw (h + 2 * m) := by omega
    have lt3 : nv ((l1 ++ l2).drop h) + nv q < pw (h + 2 * m) := Int.lt_of_mul_lt_mul_left lt2 (Int.le_of_lt (pw_pos h))
    have br := nv_bound r2
    rw [r1] at br
    have e := no_carry br r3 lt3 r4
    rw [nv_append, lt, e, whole]
  · refine ((cz0.take h).chg g (fun o _ _ => by unfold Rng; omega)).app ?_
    rw [lt]
    exact r5
end Go.Proofs.Ybulkcmly
