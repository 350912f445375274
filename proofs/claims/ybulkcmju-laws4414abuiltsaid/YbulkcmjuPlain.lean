/-
  Plain functions on bytes for the seat b4414a: no Go in sight.
-/
namespace Go.Proofs.Ybulkcmju

def digB (c : UInt8) : Bool := decide (48 ≤ c.toNat) && decide (c.toNat ≤ 57)
def lead (l : List UInt8) : Nat := (l.takeWhile digB).length

theorem digB_iff (c : UInt8) : digB c = true ↔ 48 ≤ c.toNat ∧ c.toNat ≤ 57 := by simp [digB]

theorem lead_le (l : List UInt8) : lead l ≤ l.length := by
  unfold lead
  induction l with
  | nil => simp
  | cons a t ih =>
    simp only [List.takeWhile_cons]
    split
    · simp; exact ih
    · simp

/-- The first k bytes are digits; the next is none, or there is none. -/
theorem lead_eq (l : List UInt8) (k : Nat) (hk : k ≤ l.length) (h1 : ∀ j (h : j < l.length), j < k → digB l[j] = true)
    (h2 : ∀ h : k < l.length, digB l[k] = false) : lead l = k := by
  induction l generalizing k with
  | nil => simp at hk; subst hk; rfl
  | cons a t ih =>
    match k with
    | 0 =>
      have := h2 (by simp)
      simp at this
      simp [lead, this]
    | k + 1 =>
      have ha := h1 0 (by simp) (by omega)
      simp at ha
      have := ih k (by simpa using hk) (fun j h hj => by have := h1 (j + 1) (by simp; omega) (by omega); simpa using this) (fun h => by have := h2 (by simp; omega); simpa using this)
      simp [lead, ha] at this ⊢
      exact this

end Go.Proofs.Ybulkcmju
