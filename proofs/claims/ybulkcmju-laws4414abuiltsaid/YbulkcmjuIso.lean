/-
  An isoFields in memory; what stands behind the clock's numbers.
-/
import Derived.Test.YbulkcmjuTwo
import Derived.Deep.AppendLies
import Derived.Deep.RegionHeld3
import Derived.Deep.MidRow
import Derived.StillTactics
import Derived.Laws.Pointers
import Derived.Deep.DeepCutAuto
import Derived.Deep.Cut
namespace Go.Proofs.Ybulkcmju
open Go.RowKit
set_option linter.unusedVariables false

theorem Yba.size38 : (Yba.prog.info? 38).map (·.size) = some 19 := by kernel_rfl

/-- The cells of an isoFields. -/
def isoL (h m s : Int) (fr : ByteArray) (u : Int) : List Value := [.int .i64 7, .int .i64 3, .int .i64 4, .int .i64 h, .int .i64 m, .int .i64 s, .string ⟨#[50, 48, 50, 54]⟩, .int .i64 2, .int .i64 5, .int .i64 6, .int .i64 2, .string fr, .int .i64 u, .string ⟨#[90]⟩, .int .i64 0, .bool false, .int .i64 0, .int .i64 0, .string ⟨#[]⟩]
theorem isoL_len (h m s : Int) (fr : ByteArray) (u : Int) : (isoL h m s fr u).length = 19 := rfl
theorem isoL_one (h m s : Int) (fr : ByteArray) (u : Int) : ∀ v ∈ isoL h m s fr u, v.oneCell' = true := by
  intro v hv
  simp only [isoL, List.mem_cons, List.not_mem_nil, or_false] at hv
  rcases hv with rfl | rfl | rfl | rfl | rfl | rfl | rfl | rfl | rfl | rfl | rfl | rfl | rfl | rfl | rfl | rfl | rfl | rfl | rfl <;> rfl

theorem range_of (W : World) (b : Nat) (c : Array Value) (t : TypeId) (fr : Nat × Nat) (h : W.heap[b]? = some (.cells c t fr)) : W.rangeAt b 0 c.toList := fun j v hv => by
  have := World.news_of_block h j v hv
  rwa [Addr.add_mid] at this
theorem there_of (W : World) (b : Nat) (c : Array Value) (t : TypeId) (h : W.heap[b]? = some (.cells c t (0, 0))) : W.there b 0 c.size := fun j hj => by
  have hv : c.toList[j]? = some (c[j]'hj) := by simp [hj]
  have := range_of W b c t _ h j _ hv
  refine ⟨by rw [this]; rfl, ?_⟩
  simp [World.frozen?, h]
theorem heap_a (w : World) (A B : Obj) : ((w.alloc A).alloc B).heap[w.heap.size]? = some A := by
  rw [Below.heap_alloc _ _ _ (by simp)]; exact heap_alloc_new w A
theorem heap_b (w : World) (A B : Obj) : ((w.alloc A).alloc B).heap[w.heap.size + 1]? = some B := by
  have := heap_alloc_new (w.alloc A) B
  simpa using this
/-- Two new blocks. -/
theorem two_new (w : World) (h m s : Int) (fr : ByteArray) (u : Int) (Z : Array Value) (hZ : Z.size = 19) (W : World) (hW : W.heap = ((w.alloc (.cells (isoL h m s fr u).toArray 38)).alloc (.cells Z 38)).heap) : W.rangeAt w.heap.size 0 (isoL h m s fr u) ∧ W.there (w.heap.size + 1) 0 19 := by
  refine ⟨?_, ?_⟩
  · have := range_of W w.heap.size (isoL h m s fr u).toArray 38 (0, 0) (by rw [hW]; exact heap_a _ _ _)
    simpa using this
  · have := there_of W (w.heap.size + 1) Z 38 (by rw [hW]; exact heap_b _ _ _)
    rwa [hZ] at this

/-! A whole isoFields read or written where it lies: no unrolling. -/
/-- What the 19 cells of block b hold. -/
def isoAt (w : World) (b : Nat) : Array Value := ((List.range 19).map fun j => (w.cell? ⟨b, j, none⟩).getD undef).toArray
/-- The 19 cells are there. -/
def Has (w : World) (b : Nat) : Prop := ∀ j, j < 19 → (w.cell? ⟨b, j, none⟩).isSome = true
/-- The 19 cells are there and may be written. -/
def Wrt (w : World) (b : Nat) : Prop := w.there b 0 19
/-- 19 values, a cell each. -/
def Iso (c : Array Value) : Prop := c.size = 19 ∧ c.all (·.oneCell') = true
theorem isoAt_drew (w : World) (b : Nat) : isoAt w.drew b = isoAt w b := rfl
theorem Has_drew (w : World) (b : Nat) : Has w.drew b = Has w b := propext ⟨fun h => h, fun h => h⟩
theorem Wrt_drew (w : World) (b : Nat) : Wrt w.drew b = Wrt w b := by unfold Wrt; simp
theorem run_load38 (w : World) (b : Nat) (h : Has w b) : (Instr.loadAt 38 (.pointer (some ⟨b, 0, none⟩))).run Yba.prog w = .ok (.agg (isoAt w b)) w := by
  have hr : w.rangeAt b 0 (isoAt w b).toList := by
    intro j v hv
    have hj : j < 19 := by
      have := (List.getElem?_eq_some_iff.1 hv).1
      simpa [isoAt] using this
    have e : (isoAt w b).toList[j]? = some ((w.cell? ⟨b, j, none⟩).getD undef) := by
      simp [isoAt, hj]
    rw [e] at hv
    injection hv with hv
    obtain ⟨u, hu⟩ := Option.isSome_iff_exists.1 (h j hj)
    rw [Nat.zero_add, hu]
    rw [hu] at hv
    simpa using hv
  have := run_loadAt_mid (P := Yba.prog) w b 0 38 (isoAt w b).toList _ hr Yba.underlying38 rfl (by rw [Yba.size38]; simp [isoAt])
  simpa using this
theorem run_store38 (w : World) (b : Nat) (c : Array Value) (h : Wrt w b) (hc : Iso c) : (Instr.storeAt 38 (.pointer (some ⟨b, 0, none⟩)) (.agg c)).run Yba.prog w = .ok () (w.setCells b 0 c.toList) := by
  exact run_storeAt_mid (P := Yba.prog) w b 0 38 c (by rw [hc.1]; exact h) (by rw [Yba.size38, hc.1]) hc.2
theorem isoAt_of {w : World} {b : Nat} {cs : List Value} (hl : cs.length = 19) (h : w.rangeAt b 0 cs) : isoAt w b = cs.toArray ∧ Has w b := by
  have key : ∀ j (hj : j < 19), w.cell? ⟨b, j, none⟩ = some (cs[j]'(by omega)) := fun j hj => by
    have := h j (cs[j]'(by omega)) (List.getElem?_eq_getElem (by omega))
    rwa [Nat.zero_add] at this
  refine ⟨?_, fun j hj => by rw [key j hj]; rfl⟩
  unfold isoAt
  congr 1
  apply List.ext_getElem
  · simp [hl]
  · intro i h1 h2
    have hi : i < 19 := by simpa using h1
    simp [key i hi]

/-- The operations 'load' and 'store' of a whole isoFields, under a name. -/
def ld38 (P : Program) (v : Value) (w : World) : Result Next := Sem.run P (do pure (Next.value (← Instr.loadAt 38 v))) w
def st38 (P : Program) (v x : Value) (w : World) : Result Next := Sem.run P (do Instr.storeAt 38 v x; pure Next.skip) w
theorem exec_load38 (ρ : Operand → Value) (dst : Option Tmp) (x : Operand) (ty : TypeId) (pos : String) (after : Array Edge) (guard : Option (Nat × Bool)) (w : World) :
    (execOp ρ { dst, op := .load 38 x, type := ty, pos, after, guard }).run Yba.prog w = ld38 Yba.prog (ρ x) w := rfl
theorem exec_store38 (ρ : Operand → Value) (dst : Option Tmp) (x y : Operand) (ty : TypeId) (pos : String) (after : Array Edge) (guard : Option (Nat × Bool)) (w : World) :
    (execOp ρ { dst, op := .store 38 x y, type := ty, pos, after, guard }).run Yba.prog w = st38 Yba.prog (ρ x) (ρ y) w := rfl
theorem ld38_at (w : World) (b : Nat) (h : Has w b) : ld38 Yba.prog (.pointer (some ⟨b, 0, none⟩)) w = .ok (.value (.agg (isoAt w b))) w := by
  unfold ld38
  rw [Sem.run_bind, run_load38 w b h]
  rfl
theorem st38_at (w : World) (b : Nat) (c : Array Value) (h : Wrt w b) (hc : Iso c) : st38 Yba.prog (.pointer (some ⟨b, 0, none⟩)) (.agg c) w = .ok .skip (w.setCells b 0 c.toList) := by
  unfold st38
  rw [Sem.run_bind, run_store38 w b c h hc]
  rfl
theorem Has_two (w : World) (c : Array Value) (o : Obj) (h : c.size = 19) : Has ((w.alloc (.cells c 38)).alloc o) w.heap.size := by
  have := range_of _ w.heap.size c 38 (0, 0) (heap_a w (.cells c 38) o)
  exact (isoAt_of (by simpa using h) this).2
theorem isoAt_two (w : World) (c : Array Value) (o : Obj) (h : c.size = 19) : isoAt ((w.alloc (.cells c 38)).alloc o) w.heap.size = c := by
  have := range_of _ w.heap.size c 38 (0, 0) (heap_a w (.cells c 38) o)
  simpa using (isoAt_of (by simpa using h) this).1
theorem Wrt_two (w : World) (c : Array Value) (o : Obj) (h : c.size = 19) : Wrt ((w.alloc o).alloc (.cells c 38)) (w.heap.size + 1) := by
  have := there_of _ (w.heap.size + 1) c 38 (heap_b w o (.cells c 38))
  rwa [h] at this
theorem set_reads (w : World) (b : Nat) (c : Array Value) (h : Wrt w b) (hc : Iso c) : (loadVar 38 ⟨b, 0, none⟩).run Yba.prog (w.setCells b 0 c.toList) = .ok (.agg c) (w.setCells b 0 c.toList) := by
  have hr := World.rangeAt_setCells_same w b 0 c.toList (by rw [Array.length_toList, hc.1]; exact h)
  have := run_loadVar_mid (P := Yba.prog) (w.setCells b 0 c.toList) b 0 38 c.toList _ hr Yba.underlying38 rfl (by rw [Yba.size38, Array.length_toList, hc.1])
  simpa using this

theorem iso_lit (h m s : Int) (fr : ByteArray) (u : Int) : Iso #[.int .i64 7, .int .i64 3, .int .i64 4, .int .i64 h, .int .i64 m, .int .i64 s, .string ⟨#[50, 48, 50, 54]⟩, .int .i64 2, .int .i64 5, .int .i64 6, .int .i64 2, .string fr, .int .i64 u, .string ⟨#[90]⟩, .int .i64 0, .bool false, .int .i64 0, .int .i64 0, .string ⟨#[]⟩] := ⟨rfl, all_oneCell_toArray (isoL_one h m s fr u)⟩
theorem set_reads_lit (w : World) (b : Nat) (h m s : Int) (fr : ByteArray) (u : Int) (hW : Wrt w b) : (loadVar 38 ⟨b, 0, none⟩).run Yba.prog (w.setCells b 0 (isoL h m s fr u)) = .ok (.agg (isoL h m s fr u).toArray) (w.setCells b 0 (isoL h m s fr u)) := by
  have := set_reads w b (isoL h m s fr u).toArray hW ⟨rfl, all_oneCell_toArray (isoL_one _ _ _ _ _)⟩
  simpa using this

theorem res10 (T : Array Value) (E : Nat) (W : World) (cs : Array Value) (r ok : Value) (h4 : T.getD 4 undef = .pointer (some ⟨E, 0, none⟩)) (h5 : T.getD 5 undef = r) (h6 : T.getD 6 undef = ok)
    (hl : (loadVar 38 ⟨E, 0, none⟩).run Yba.prog W = .ok (.agg cs) W) : (results Yba.f10 T).run Yba.prog W = .ok (.tuple #[.agg cs, r, ok]) W := by
  unfold results
  rw [Yba.results10]
  simp only [List.mapM_toArray, List.mapM_cons, List.mapM_nil, h4, h5, h6]
  simp [asAddr, hl]

theorem below_set {B : Nat} {w0 : World} (b : Nat) (hb : B ≤ b) : ∀ (vs : List Value) (o : Nat) (w : World), Below B w0 w → Below B w0 (w.setCells b o vs)
  | [], _, _, h => h
  | v :: r, o, w, h => below_set b hb r (o + 1) _ (h.setCell (p := ⟨b, o, none⟩) hb v)

theorem adig_44 (w : World) : Calls Yba.prog 15 #[.int .u8 44] w fun e w' => e = .returned (.bool false) ∧ w' = w := by
  have h := adig_any 44 w
  rw [show digB 44 = false by decide] at h
  exact h
theorem adig_46 (w : World) : Calls Yba.prog 15 #[.int .u8 46] w fun e w' => e = .returned (.bool false) ∧ w' = w := by
  have h := adig_any 46 w
  rw [show digB 46 = false by decide] at h
  exact h
theorem adig_58 (w : World) : Calls Yba.prog 15 #[.int .u8 58] w fun e w' => e = .returned (.bool false) ∧ w' = w := by
  have h := adig_any 58 w
  rw [show digB 58 = false by decide] at h
  exact h

theorem lead_stop (s : ByteArray) (a k : Nat) (h : ∀ j, j < k → digB (ch s (a + j)) = true) (hn : digB (ch s (a + k)) = false) : lead (s.extract a s.size).data.toList = k := by
  have h1 := (lead_tail s a k).2 h
  have h2 : ¬ k + 1 ≤ lead (s.extract a s.size).data.toList := by
    rw [lead_tail]
    intro h3
    have := h3 k (by omega)
    rw [hn] at this
    cases this
  omega

/-- A decimal sign stands at place p. -/
def Sep (s : ByteArray) (p : Nat) : Prop := (ch s p).toNat = 44 ∨ (ch s p).toNat = 46
/-- What stands behind the numbers of the clock, from place p on, is read: the fraction is fr, the rest begins at place q. -/
def TailOk (s : ByteArray) (p : Nat) (pf : ByteArray) (q : Nat) (fr : ByteArray) : Prop :=
  (¬ Sep s p ∧ q = p ∧ fr = pf) ∨ (Sep s p ∧ ∃ k, k = lead (s.extract (p + 1) s.size).data.toList ∧ 0 < k ∧ q = p + (1 + k) ∧ fr = s.extract (p + 1) (p + 1 + k))
def TailNo (s : ByteArray) (p : Nat) : Prop := Sep s p ∧ lead (s.extract (p + 1) s.size).data.toList = 0

theorem sep_of (s : ByteArray) (p : Nat) (hp : p < s.size) (h : ((s[p].toNat : Int) == 44) = true ∨ ((s[p].toNat : Int) == 46) = true) : Sep s p := by
  unfold Sep
  rw [← ch_get s p hp]
  rcases h with h | h <;> simp at h <;> omega
theorem sep_no (s : ByteArray) (p : Nat) (hp : p < s.size) (h : ((s[p].toNat : Int) == 44) = false ∧ ((s[p].toNat : Int) == 46) = false) : ¬ Sep s p := by
  unfold Sep
  rw [← ch_get s p hp]
  obtain ⟨h1, h2⟩ := h
  simp at h1 h2
  omega
theorem sep_end (s : ByteArray) (p : Nat) (hp : s.size ≤ p) : ¬ Sep s p := by
  unfold Sep
  rw [ch_end s p hp]
  decide

end Go.Proofs.Ybulkcmju
