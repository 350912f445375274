/-
  karatsuba: by induction on the length.
-/
import Derived.Test.YbulkcmlyKarF
namespace Go.Proofs.Ybulkcmly
open Go.RowKit
set_option linter.unusedVariables false

theorem kar_at (n : Nat) (h0 : 0 < n) (h512 : n ≤ 512) : KarAt n := by
  induction n using Nat.strongRecOn with
  | _ n ih =>
    by_cases h40 : n < 40
    · exact kar_small n h0 h40
    · have ih1 := ih (n / 2) (by omega) (by omega) (by omega)
      have ih2 := ih (n - n / 2) (by omega) (by omega) (by omega)
      intro b off N cz b1 o1 c1 b2 o2 c2 ao bt ot T ct xs ys w P hN hs z1 z2 x1 x2 y1 y2 t1 t2 ha
      rw [scr_ge h40] at hs
      obtain rfl := ha (by omega)
      obtain ⟨R, hR⟩ : ∃ R, T = 6 * (n - n / 2) + 1 + R := ⟨T - (6 * (n - n / 2) + 1), by omega⟩
      have B : KB b off b1 o1 b2 o2 bt ot (n / 2) (n - n / 2) R xs ys w := ⟨by rw [← hR, show n / 2 + (n - n / 2) = n by omega]; exact P, by omega, by omega, by omega⟩
      by_cases hc : ct = 6 * (n - n / 2) + 1
      · obtain rfl : T = ct := by omega
        subst hc
        exact kar_big0 n (n / 2) (n - n / 2) R b off N cz b1 o1 c1 b2 o2 c2 bt ot _ _ _ _ _ xs ys w B ih1 ih2 (by omega) rfl (by omega) h512 hN hR z1 z2 x1 x2 y1 y2 t1 t2 rfl rfl rfl rfl rfl
      · exact kar_big n (n / 2) (n - n / 2) R b off N cz b1 o1 c1 b2 o2 c2 bt ot T ct _ _ _ _ _ xs ys w B ih1 ih2 (by omega) rfl (by omega) h512 hN hR z1 z2 x1 x2 y1 y2 t1 t2 (by omega) rfl rfl rfl rfl rfl
end Go.Proofs.Ybulkcmly
