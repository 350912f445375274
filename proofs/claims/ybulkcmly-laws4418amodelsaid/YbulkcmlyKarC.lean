/-
  karatsuba: what it is given, what it leaves; the pieces of its working storage.
-/
import Derived.Test.YbulkcmlyKarB
namespace Go.Proofs.Ybulkcmly
open Go.RowKit
set_option linter.unusedVariables false

/-- n cells from (b, off) on hold words of some kind. -/
def Room (w : World) (b off n : Nat) : Prop := ∃ zs : List Int, zs.length = n ∧ Cells w b off zs
/-- The cells that karatsuba may write. -/
def KarS (b off N bt ot T k o : Nat) : Prop := Rng b off N k o ∨ Rng bt ot T k o

structure KarPre (n b off b1 o1 b2 o2 bt ot T : Nat) (xs ys : List Int) (w : World) : Prop where
  xl : xs.length = n
  yl : ys.length = n
  hx : Words xs
  hy : Words ys
  cx : Cells w b1 o1 xs
  cy : Cells w b2 o2 ys
  fz : Free w b off (2 * n)
  ft : Free w bt ot T
  zx : b1 ≠ b ∨ o1 + n ≤ off ∨ off + 2 * n ≤ o1
  zy : b2 ≠ b ∨ o2 + n ≤ off ∨ off + 2 * n ≤ o2
  tx : b1 ≠ bt ∨ o1 + n ≤ ot ∨ ot + T ≤ o1
  ty : b2 ≠ bt ∨ o2 + n ≤ ot ∨ ot + T ≤ o2
  zt : bt ≠ b ∨ ot + T ≤ off ∨ off + 2 * n ≤ ot
  rz : Room w b off (2 * n)
  rt : Room w bt ot T

def KarPost (n b off bt ot T : Nat) (xs ys : List Int) (w w' : World) : Prop :=
  ∃ rs : List Int, rs.length = 2 * n ∧ Words rs ∧ nv rs = nv xs * nv ys ∧ Cells w' b off rs ∧ Room w' bt ot T ∧ Chg (KarS b off (2 * n) bt ot T) w w'

def KarAt (n : Nat) : Prop := ∀ (b off N cz b1 o1 c1 b2 o2 c2 : Nat) (ao : Option Addr) (bt ot T ct : Nat) (xs ys : List Int) (w : World),
  KarPre n b off b1 o1 b2 o2 bt ot T xs ys w → N = 2 * n → scr n ≤ T → N ≤ cz → cz ≤ maxLen → n ≤ c1 → c1 ≤ maxLen → n ≤ c2 → c2 ≤ maxLen → T ≤ ct → ct ≤ maxLen → (0 < T → ao = some ⟨bt, ot, none⟩) →
  Calls Yba.prog 28 #[.slice (some ⟨b, off, none⟩) N cz, .slice (some ⟨b1, o1, none⟩) n c1, .slice (some ⟨b2, o2, none⟩) n c2, .slice ao T ct] w fun e w' => e = .returned (.tuple #[]) ∧ KarPost n b off bt ot T xs ys w w'

theorem Room.split {w : World} {b off n : Nat} (h : Room w b off n) (k : Nat) (hk : k ≤ n) : Room w b off k ∧ Room w b (off + k) (n - k) := by
  obtain ⟨zs, hl, hc⟩ := h
  exact ⟨⟨zs.take k, by rw [List.length_take]; omega, hc.take k⟩, ⟨zs.drop k, by rw [List.length_drop]; omega, hc.drop k⟩⟩
theorem Room.join {w : World} {b off n m k : Nat} (h : Room w b off n) (g : Room w b (off + n) m) (hk : n + m = k) : Room w b off k := by
  obtain ⟨zs, hl, hc⟩ := h
  obtain ⟨ys, hl2, hc2⟩ := g
  exact ⟨zs ++ ys, by rw [List.length_append]; omega, hc.app (by rw [hl]; exact hc2)⟩
theorem Room.chg {S : Nat → Nat → Prop} {w w' : World} {b off n : Nat} (h : Room w b off n) (hc : Chg S w w') (hn : ∀ o, off ≤ o → o < off + n → ¬ S b o) : Room w' b off n := by
  obtain ⟨zs, hl, hk⟩ := h
  exact ⟨zs, hl, hk.chg hc (by rw [hl]; exact hn)⟩
theorem Cells.room {w : World} {b off n : Nat} {xs : List Int} (h : Cells w b off xs) (hl : xs.length = n) : Room w b off n := ⟨xs, hl, h⟩
theorem Room.lt {w : World} {b off n : Nat} (h : Room w b off n) (hn : 0 < n) : b < w.heap.size := by
  obtain ⟨zs, hl, hk⟩ := h
  exact hk.lt (by omega)
theorem Free.chg' {S : Nat → Nat → Prop} {w w' : World} {b off n : Nat} (h : Free w b off n) (hc : Chg S w w') (hr : Room w b off n) : Free w' b off n := fun i hi => by
  rw [hc.frozen b (off + i) (hr.lt (by omega))]
  exact h i hi
theorem Chg.drewN (S : Nat → Nat → Prop) (w : World) (q : Nat) : Chg S w (w.drewN q) :=
  ⟨rfl, rfl, rfl, Nat.le_refl _, fun _ _ _ => rfl, fun _ _ _ _ => by simp, fun _ _ _ => by simp⟩
theorem Chg.drew (S : Nat → Nat → Prop) (w : World) : Chg S w w.drew :=
  ⟨rfl, rfl, rfl, Nat.le_refl _, fun _ _ _ => rfl, fun _ _ _ _ => by simp, fun _ _ _ => by simp⟩

/-- What was given stands in a later world. -/
theorem KarPre.later {n b off b1 o1 b2 o2 bt ot T : Nat} {xs ys : List Int} {w w' : World} (h : KarPre n b off b1 o1 b2 o2 bt ot T xs ys w) (hc : Chg (KarS b off (2 * n) bt ot T) w w') (rz : Room w' b off (2 * n)) (rt : Room w' bt ot T) : KarPre n b off b1 o1 b2 o2 bt ot T xs ys w' := by
  obtain ⟨xl, yl, hx, hy, cx, cy, fz, ft, zx, zy, tx, ty, zt, _, _⟩ := h
  exact ⟨xl, yl, hx, hy, cx.chg hc (fun o h1 h2 => by unfold KarS Rng; omega), cy.chg hc (fun o h1 h2 => by unfold KarS Rng; omega), fz.chg' hc ‹_›, ft.chg' hc ‹_›, zx, zy, tx, ty, zt, rz, rt⟩

/-- The pieces of z and t. -/
structure KP (b off bt ot h m R : Nat) (w0 w : World) (l1 l2 d e p q : List Int) : Prop where
  n1 : l1.length = 2 * h
  n2 : l2.length = 2 * m
  nd : d.length = m
  ne : e.length = m
  np : p.length = 2 * m
  nq : q.length = 2 * m + 1
  c1 : Cells w b off l1
  c2 : Cells w b (off + 2 * h) l2
  cd : Cells w bt ot d
  ce : Cells w bt (ot + m) e
  cp : Cells w bt (ot + 2 * m) p
  cq : Cells w bt (ot + 4 * m) q
  rr : Room w bt (ot + (6 * m + 1)) R
  chg : Chg (KarS b off (2 * (h + m)) bt ot (6 * m + 1 + R)) w0 w
  zt : bt ≠ b ∨ ot + (6 * m + 1 + R) ≤ off ∨ off + 2 * (h + m) ≤ ot

theorem KP.start {b off bt ot h m R : Nat} {w0 w : World} {l1 l2 : List Int} (n1 : l1.length = 2 * h) (n2 : l2.length = 2 * m) (c1 : Cells w b off l1) (c2 : Cells w b (off + 2 * h) l2) (rt : Room w bt ot (6 * m + 1 + R))
    (chg : Chg (KarS b off (2 * (h + m)) bt ot (6 * m + 1 + R)) w0 w) (zt : bt ≠ b ∨ ot + (6 * m + 1 + R) ≤ off ∨ off + 2 * (h + m) ≤ ot) : ∃ d e p q, KP b off bt ot h m R w0 w l1 l2 d e p q := by
  obtain ⟨ts, tl, tc⟩ := rt
  have cut : ∀ k l, k + l ≤ ts.length → ((ts.drop k).take l).length = l ∧ Cells w bt (ot + k) ((ts.drop k).take l) := fun k l hl => ⟨by rw [List.length_take, List.length_drop]; omega, tc.sub k l⟩
  have d0 := cut 0 m (by omega)
  have e0 := cut m m (by omega)
  have p0 := cut (2 * m) (2 * m) (by omega)
  have q0 := cut (4 * m) (2 * m + 1) (by omega)
  have r0 := cut (6 * m + 1) R (by omega)
  exact ⟨_, _, _, _, n1, n2, d0.1, e0.1, p0.1, q0.1, c1, c2, d0.2, e0.2, p0.2, q0.2, r0.2.room r0.1, chg, zt⟩

theorem KP.room {b off bt ot h m R : Nat} {w0 w : World} {l1 l2 d e p q : List Int} (k : KP b off bt ot h m R w0 w l1 l2 d e p q) : Room w bt ot (6 * m + 1 + R) ∧ Room w b off (2 * (h + m)) := by
  obtain ⟨n1, n2, nd, ne, np, nq, c1, c2, cd, ce, cp, cq, rr, chg, zt⟩ := k
  have a1 := Room.join (cd.room nd) (ce.room ne) (k := 2 * m) (by omega)
  have a2 := a1.join (cp.room np) (k := 4 * m) (by omega)
  have a3 := a2.join (cq.room nq) (k := 6 * m + 1) (by omega)
  exact ⟨a3.join rr rfl, (c1.room n1).join (c2.room n2) (by omega)⟩

theorem KP.draw {b off bt ot h m R : Nat} {w0 w : World} {l1 l2 d e p q : List Int} (k : KP b off bt ot h m R w0 w l1 l2 d e p q) {w' : World} (hd : Chg (fun _ _ => False) w w') : KP b off bt ot h m R w0 w' l1 l2 d e p q := by
  obtain ⟨n1, n2, nd, ne, np, nq, c1, c2, cd, ce, cp, cq, rr, chg, zt⟩ := k
  exact ⟨n1, n2, nd, ne, np, nq, c1.chg hd fun _ _ _ h => h, c2.chg hd fun _ _ _ h => h, cd.chg hd fun _ _ _ h => h, ce.chg hd fun _ _ _ h => h, cp.chg hd fun _ _ _ h => h, cq.chg hd fun _ _ _ h => h, rr.chg hd fun _ _ _ h => h, chg.trans (hd.mono fun _ _ h => h.elim), zt⟩

theorem KP.putD {b off bt ot h m R : Nat} {w0 w w' : World} {l1 l2 d e p q d' : List Int} (k : KP b off bt ot h m R w0 w l1 l2 d e p q) (hm : 0 < m) (hw : Wr bt ot m w w') (n' : d'.length = m) (c' : Cells w' bt ot d') : KP b off bt ot h m R w0 w' l1 l2 d' e p q := by
  obtain ⟨n1, n2, nd, ne, np, nq, c1, c2, cd, ce, cp, cq, rr, chg, zt⟩ := k
  have g := hw.chg hm
  exact ⟨n1, n2, n', ne, np, nq, c1.chg g fun o _ _ => by unfold Rng; omega, c2.chg g fun o _ _ => by unfold Rng; omega, c', ce.chg g fun o _ _ => by unfold Rng; omega, cp.chg g fun o _ _ => by unfold Rng; omega, cq.chg g fun o _ _ => by unfold Rng; omega,
    rr.chg g fun o _ _ => by unfold Rng; omega, chg.trans (g.mono fun k o h => by unfold KarS Rng at *; omega), zt⟩
theorem KP.putE {b off bt ot h m R : Nat} {w0 w w' : World} {l1 l2 d e p q d' : List Int} (k : KP b off bt ot h m R w0 w l1 l2 d e p q) (hm : 0 < m) (hw : Wr bt (ot + m) m w w') (n' : d'.length = m) (c' : Cells w' bt (ot + m) d') : KP b off bt ot h m R w0 w' l1 l2 d d' p q := by
  obtain ⟨n1, n2, nd, ne, np, nq, c1, c2, cd, ce, cp, cq, rr, chg, zt⟩ := k
  have g := hw.chg hm
  exact ⟨n1, n2, nd, n', np, nq, c1.chg g fun o _ _ => by unfold Rng; omega, c2.chg g fun o _ _ => by unfold Rng; omega, cd.chg g fun o _ _ => by unfold Rng; omega, c', cp.chg g fun o _ _ => by unfold Rng; omega, cq.chg g fun o _ _ => by unfold Rng; omega,
    rr.chg g fun o _ _ => by unfold Rng; omega, chg.trans (g.mono fun k o h => by unfold KarS Rng at *; omega), zt⟩
theorem KP.putP {b off bt ot h m R : Nat} {w0 w w' : World} {l1 l2 d e p q d' : List Int} (k : KP b off bt ot h m R w0 w l1 l2 d e p q) (g : Chg (KarS bt (ot + 2 * m) (2 * m) bt (ot + (6 * m + 1)) R) w w') (n' : d'.length = 2 * m) (c' : Cells w' bt (ot + 2 * m) d') (r' : Room w' bt (ot + (6 * m + 1)) R) : KP b off bt ot h m R w0 w' l1 l2 d e d' q := by
  obtain ⟨n1, n2, nd, ne, np, nq, c1, c2, cd, ce, cp, cq, rr, chg, zt⟩ := k
  exact ⟨n1, n2, nd, ne, n', nq, c1.chg g fun o _ _ => by unfold KarS Rng; omega, c2.chg g fun o _ _ => by unfold KarS Rng; omega, cd.chg g fun o _ _ => by unfold KarS Rng; omega, ce.chg g fun o _ _ => by unfold KarS Rng; omega, c', cq.chg g fun o _ _ => by unfold KarS Rng; omega,
    r', chg.trans (g.mono fun k o h => by unfold KarS Rng at *; omega), zt⟩
theorem KP.putQ {b off bt ot h m R : Nat} {w0 w w' : World} {l1 l2 d e p q d' : List Int} (k : KP b off bt ot h m R w0 w l1 l2 d e p q) (hw : Wr bt (ot + 4 * m) (2 * m + 1) w w') (n' : d'.length = 2 * m + 1) (c' : Cells w' bt (ot + 4 * m) d') : KP b off bt ot h m R w0 w' l1 l2 d e p d' := by
  obtain ⟨n1, n2, nd, ne, np, nq, c1, c2, cd, ce, cp, cq, rr, chg, zt⟩ := k
  have g := hw.chg (by omega)
  exact ⟨n1, n2, nd, ne, np, n', c1.chg g fun o _ _ => by unfold Rng; omega, c2.chg g fun o _ _ => by unfold Rng; omega, cd.chg g fun o _ _ => by unfold Rng; omega, ce.chg g fun o _ _ => by unfold Rng; omega, cp.chg g fun o _ _ => by unfold Rng; omega, c',
    rr.chg g fun o _ _ => by unfold Rng; omega, chg.trans (g.mono fun k o h => by unfold KarS Rng at *; omega), zt⟩

/-- No carry is left where the sum fits. -/
theorem no_carry {s r bo P : Int} (hr : 0 ≤ r ∧ r < P) (hb : 0 ≤ bo ∧ bo ≤ 1) (hs : s < P) (e : s = r + bo * P) : r = s := by
  have : bo = 0 ∨ bo = 1 := by omega
  rcases this with rfl | rfl
  · omega
  · omega
theorem no_bor {s r bo P : Int} (hr : 0 ≤ r ∧ r < P) (hb : 0 ≤ bo ∧ bo ≤ 1) (hs : 0 ≤ s) (e : s = r - bo * P) : r = s := by
  have : bo = 0 ∨ bo = 1 := by omega
  rcases this with rfl | rfl
  · omega
  · omega
theorem mul_lt' {a b A B : Int} (ha : 0 ≤ a ∧ a < A) (hb : 0 ≤ b ∧ b < B) : 0 ≤ a * b ∧ a * b < A * B := by
  refine ⟨Int.mul_nonneg ha.1 hb.1, ?_⟩
  have h1 : a * b ≤ a * B := Int.mul_le_mul_of_nonneg_left (by omega) ha.1
  have h2 : a * B < A * B := Int.mul_lt_mul_of_pos_right ha.2 (by omega)
  omega
end Go.Proofs.Ybulkcmly
