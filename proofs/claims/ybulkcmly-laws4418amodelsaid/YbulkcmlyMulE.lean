/-
  mulTo: what it is given, its stages.
-/
import Derived.Test.YbulkcmlyKarG
namespace Go.Proofs.Ybulkcmly
open Go.RowKit
set_option linter.unusedVariables false

def MulToAt (ny : Nat) : Prop := ∀ (b off N cz b1 o1 nx c1 : Nat) (ay : Option Addr) (c2 : Nat) (xs ys : List Int) (w : World), xs.length = nx → ys.length = ny → Words xs → Words ys → N = nx + ny → ny ≤ nx → 0 < nx → nx ≤ 512 →
  N ≤ cz → cz ≤ maxLen → nx ≤ c1 → c1 ≤ maxLen → ny ≤ c2 → c2 ≤ maxLen → Room w b off N → Free w b off N → Cells w b1 o1 xs → (b1 ≠ b ∨ o1 + nx ≤ off ∨ off + N ≤ o1) → Src w ay ys b off N →
  Calls Yba.prog 19 #[.slice (some ⟨b, off, none⟩) N cz, .slice (some ⟨b1, o1, none⟩) nx c1, .slice ay ny c2] w fun e w' => e = .returned (.tuple #[]) ∧ ∃ rs : List Int, rs.length = N ∧ Words rs ∧ nv rs = nv xs * nv ys ∧ Cells w' b off rs ∧ Chg (Rng b off N) w w'

theorem Chg.ofBelow {S : Nat → Nat → Prop} {w w' : World} (h : Below w.heap.size w w') : Chg S w w' :=
  ⟨h.os, h.tape, h.output, h.size, fun k hk _ => h.block k hk, fun k o hk _ => h.cell hk, fun k o hk => h.frozen hk⟩
/-- What is written in new blocks does not count. -/
theorem Chg.old {S : Nat → Nat → Prop} {w w' : World} (h : Chg (fun k o => S k o ∨ w.heap.size ≤ k) w w') : Chg S w w' :=
  ⟨h.os, h.tape, h.output, h.size, fun k hk hn => h.block k hk (fun o ho => ho.elim (hn o) (by omega)), fun k o hk hn => h.cell k o hk (fun ho => ho.elim hn (by omega)), h.frozen⟩

structure MB (b off N b1 o1 nx b2 o2 n bt bp : Nat) (xs ys : List Int) (w : World) : Prop where
  xl : xs.length = nx
  yl : ys.length = n
  hx : Words xs
  hy : Words ys
  cx : Cells w b1 o1 xs
  cy : Cells w b2 o2 ys
  fz : Free w b off N
  zx : b1 ≠ b ∨ o1 + nx ≤ off ∨ off + N ≤ o1
  zy : b2 ≠ b ∨ o2 + n ≤ off ∨ off + N ≤ o2
  hN : N = nx + n
  n0 : 0 < n
  nn : n ≤ nx
  n5 : nx ≤ 512
  bb : b < w.heap.size
  t1 : w.heap.size ≤ bt
  p1 : w.heap.size ≤ bp
  tp : bt ≠ bp

def MSt (b off N n bt bp : Nat) (xs ys : List Int) (w : World) (i : Nat) (w' : World) : Prop :=
  ∃ zs : List Int, zs.length = N ∧ Words zs ∧ nv zs = nv (xs.take i) * nv ys ∧ Cells w' b off zs ∧ Room w' bt 0 (scr n) ∧ Free w' bt 0 (scr n) ∧ Room w' bp 0 (2 * n) ∧ Free w' bp 0 (2 * n) ∧ Chg (fun k o => Rng b off N k o ∨ w.heap.size ≤ k) w w'
/-- .. and a piece's product lies in p. -/
def MStP (b off N n bt bp : Nat) (xs ys : List Int) (w : World) (i L : Nat) (w' : World) : Prop :=
  MSt b off N n bt bp xs ys w i w' ∧ ∃ ps : List Int, ps.length = L ∧ Words ps ∧ nv ps = nv ((xs.drop i).take n) * nv ys ∧ Cells w' bp 0 ps

theorem mt1 {b off N b1 o1 nx b2 o2 n bt bp : Nat} {xs ys : List Int} {w w1 : World} (B : MB b off N b1 o1 nx b2 o2 n bt bp xs ys w) (i : Nat) (s : MSt b off N n bt bp xs ys w i w1) (hi : i + n ≤ nx) (P P2 A n' c1 c2 T T2 : Nat) (hP : P = 2 * n) (hP2 : P2 = 2 * n) (hA : A = o1 + i) (hn' : n' = n) (x1 : n ≤ c1) (x2 : c1 ≤ maxLen) (y1 : n ≤ c2) (y2 : c2 ≤ maxLen) (hT : T = scr n) (hT2 : T2 = scr n) :
    Calls Yba.prog 28 #[.slice (some ⟨bp, 0, none⟩) P P2, .slice (some ⟨b1, A, none⟩) n' c1, .slice (some ⟨b2, o2, none⟩) n c2, .slice (some ⟨bt, 0, none⟩) T T2] w1 fun e w' => e = .returned (.tuple #[]) ∧ MStP b off N n bt bp xs ys w i P w' := by
  obtain ⟨zs, zl, wz, vz, cz, rt, ft, rp, fp, chg⟩ := s
  obtain ⟨xl, yl, hx, hy, cx, cy, fz, zx, zy, hN, n0, nn, n5, bb, t1, p1, tp⟩ := B
  have lx := cx.lt (by omega)
  have ly := cy.lt (by omega)
  subst hP hP2 hA hn' hT hT2
  have cx1 := cx.chg chg (fun o _ _ => by unfold Rng; omega)
  have cy1 := cy.chg chg (fun o _ _ => by unfold Rng; omega)
  have pl : ((xs.drop i).take n').length = n' := by rw [List.length_take, List.length_drop]; omega
  have hs := scr_le n'
  have hmx : maxLen = 9223372036854775807 := rfl
  have pre : KarPre n' bp 0 b1 (o1 + i) b2 o2 bt 0 (scr n') ((xs.drop i).take n') ys w1 :=
    ⟨pl, yl, (hx.drop i).take n', hy, cx1.sub i n', cy1, fp, ft, .inl (by omega), .inl (by omega), .inl (by omega), .inl (by omega), .inl tp, rp, rt⟩
  refine (kar_at n' n0 (by omega) bp 0 (2 * n') (2 * n') b1 (o1 + i) c1 b2 o2 c2 _ bt 0 (scr n') (scr n') _ _ w1 pre rfl (Nat.le_refl _) (Nat.le_refl _) (by omega) x1 x2 y1 y2 (Nat.le_refl _) (by omega) (fun _ => rfl)).mono ?_
  rintro e w' ⟨rfl, rs, r1, r2, r3, r4, r5, r6⟩
  exact ⟨rfl, ⟨zs, zl, wz, vz, cz.chg r6 (fun o _ _ => by unfold KarS Rng; omega), r5, ft.chg' r6 rt, r4.room r1, fp.chg' r6 rp, chg.trans (r6.mono fun k o h => by unfold KarS Rng at h; omega)⟩, rs, r1, r2, r3, r4⟩

theorem mt2 {b off N b1 o1 nx b2 o2 n bt bp : Nat} {xs ys : List Int} {w w1 : World} (B : MB b off N b1 o1 nx b2 o2 n bt bp xs ys w) (i L : Nat) (s : MStP b off N n bt bp xs ys w i L w1) (hi : i < nx) (hL : i + L ≤ N) (A M cm cp : Nat) (hA : A = off + i) (hM : M = N - i) :
    Calls Yba.prog 29 #[.slice (some ⟨b, A, none⟩) M cm, .slice (some ⟨bp, 0, none⟩) L cp] w1 fun e w' => ∃ c, e = .returned (.int .u64 c) ∧ MSt b off N n bt bp xs ys w (i + n) w' := by
  obtain ⟨⟨zs, zl, wz, vz, cz, rt, ft, rp, fp, chg⟩, ps, pl, wp, vp, cps⟩ := s
  obtain ⟨xl, yl, hx, hy, cx, cy, fz, zx, zy, hN, n0, nn, n5, bb, t1, p1, tp⟩ := B
  subst hA hM
  have lt : (zs.take i).length = i := by rw [List.length_take]; omega
  refine (addIn_src b (off + i) (N - i) cm (some ⟨bp, 0, none⟩) L cp (zs.drop i) ps (by rw [List.length_drop]; omega) pl (by omega) (by omega) (wz.drop i) wp w1 (cz.drop i) (fun j hj => by rw [Nat.add_assoc, chg.frozen b _ bb]; exact fz _ (by omega)) (.inr ⟨_, _, rfl, cps, .inl (by omega)⟩)).mono ?_
  rintro e' w' ⟨rs, c, rfl, r1, r2, r3, r4, r5, r6⟩
  have g := r6.chg (by omega)
  have g' : Chg (Rng b off N) w1 w' := g.mono fun k o h => by unfold Rng at *; omega
  refine ⟨c, rfl, zs.take i ++ rs, by rw [List.length_append]; omega, (wz.take i).append r2, ?_, ?_, rt.chg g (fun o _ _ => by unfold Rng; omega), ft.chg' g rt, rp.chg g (fun o _ _ => by unfold Rng; omega), fp.chg' g rp, chg.trans (g'.mono fun k o h => .inl h)⟩
  · have sz := nv_split zs i (by omega)
    have sx : nv (xs.take (i + n)) = nv (xs.take i) + pw i * nv ((xs.drop i).take n) := by
      have := nv_append (xs.take i) ((xs.drop i).take n)
      rw [← List.take_add, List.length_take, Nat.min_eq_left (by omega)] at this
      exact this
    have whole : nv (xs.take (i + n)) * nv ys = nv (zs.take i) + pw i * (nv (zs.drop i) + nv ps) := by
      rw [Int.mul_add, ← Int.add_assoc, ← sz, sx, vz, vp]
      grind
    have bx := nv_bound (hx.take (i + n))
    have bY := nv_bound hy
    have px : nv (xs.take (i + n)) < pw nx := Int.lt_of_lt_of_le bx.2 (pw_mono (by rw [List.length_take]; omega))
    rw [yl] at bY
    have bw := (mul_lt' ⟨bx.1, px⟩ bY).2
    rw [← pw_add, ← hN, show N = i + (N - i) by omega, pw_add] at bw
    have bt := (nv_bound (wz.take i)).1
    have lt2 : pw i * (nv (zs.drop i) + nv ps) < pw i * pw (N - i) := by omega
    have lt3 : nv (zs.drop i) + nv ps < pw (N - i) := Int.lt_of_mul_lt_mul_left lt2 (Int.le_of_lt (pw_pos i))
    have br := nv_bound r2
    rw [r1] at br
    have e := no_carry br r3 lt3 r4
    rw [nv_append, lt, e, whole]
  · refine ((cz.take i).chg g (fun o _ _ => by unfold Rng; omega)).app ?_
    rw [lt]
    exact r5

theorem mt3 {b off N b1 o1 nx b2 o2 n bt bp : Nat} {xs ys : List Int} {w w1 : World} (B : MB b off N b1 o1 nx b2 o2 n bt bp xs ys w) (i : Nat) (s : MSt b off N n bt bp xs ys w i w1) (hi : i < nx) (hi2 : nx < i + n) (ih : MulToAt (nx - i)) (L c2 P2 A r c1 : Nat) (hL : L = nx - i + n) (hP2 : P2 = 2 * n) (hA : A = o1 + i) (hr : r = nx - i) (y1 : n ≤ c2) (y2 : c2 ≤ maxLen) (x1 : nx - i ≤ c1) (x2 : c1 ≤ maxLen) :
    Calls Yba.prog 19 #[.slice (some ⟨bp, 0, none⟩) L P2, .slice (some ⟨b2, o2, none⟩) n c2, .slice (some ⟨b1, A, none⟩) r c1] w1 fun e w' => e = .returned (.tuple #[]) ∧ MStP b off N n bt bp xs ys w i L w' := by
  obtain ⟨zs, zl, wz, vz, cz, rt, ft, rp, fp, chg⟩ := s
  obtain ⟨xl, yl, hx, hy, cx, cy, fz, zx, zy, hN, n0, nn, n5, bb, t1, p1, tp⟩ := B
  have lx := cx.lt (by omega)
  have ly := cy.lt (by omega)
  subst hP2 hA hr
  have cx1 := cx.chg chg (fun o _ _ => by unfold Rng; omega)
  have cy1 := cy.chg chg (fun o _ _ => by unfold Rng; omega)
  have hmx : maxLen = 9223372036854775807 := rfl
  have rp1 : Room w1 bp 0 L := (rp.split L (by omega)).1
  have rp2 := (rp.split L (by omega)).2
  refine (ih bp 0 L (2 * n) b2 o2 n c2 (some ⟨b1, o1 + i, none⟩) c1 ys (xs.drop i) w1 yl (by rw [List.length_drop]; omega) hy (hx.drop i) (by omega) (by omega) n0 (by omega) (by omega) (by omega) y1 y2 x1 x2 rp1 (fun j hj => fp j (by omega)) cy1 (.inl (by omega)) (.inr ⟨_, _, rfl, cx1.drop i, .inl (by omega)⟩)).mono ?_
  rintro e w' ⟨rfl, rs, r1, r2, r3, r4, r6⟩
  refine ⟨rfl, ⟨zs, zl, wz, vz, cz.chg r6 (fun o _ _ => by unfold Rng; omega), rt.chg r6 (fun o _ _ => by unfold Rng; omega), ft.chg' r6 rt, (r4.room r1).join (rp2.chg r6 (fun o _ _ => by unfold Rng; omega)) (by omega), fp.chg' r6 rp, chg.trans (r6.mono fun k o h => by unfold Rng at h; omega)⟩, rs, r1, r2, ?_, r4⟩
  rw [r3, Int.mul_comm, List.take_of_length_le (by rw [List.length_drop]; omega)]
end Go.Proofs.Ybulkcmly
