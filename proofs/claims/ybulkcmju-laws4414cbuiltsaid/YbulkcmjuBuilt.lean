/-
  What zfun says of a designator that was built: no Go in sight, but for the names of values.
-/
import Derived.Test.YbulkcmjuZone
import Derived.Laws.BytesArg
namespace Go.Proofs.Ybulkcmju
open Go.RowKit

theorem u8_of {x : Int} (h0 : 0 ≤ x) (h1 : x ≤ 255) : ((UInt8.ofNat x.toNat).toNat : Int) = x := by
  have : x.toNat < 256 := by omega
  simp [Nat.mod_eq_of_lt this, Int.toNat_of_nonneg h0]

theorem ch_nums (xs : List Int) (i : Nat) : ch (strOfNums xs) i = UInt8.ofNat (xs.getD i 0).toNat := by
  unfold ch
  rw [strOfNums_data, List.getD_eq_getElem?_getD, List.getElem?_map, List.getD_eq_getElem?_getD]
  cases xs[i]? <;> rfl

theorem ch_num (xs : List Int) (i : Nat) (x : Int) (h : xs.getD i 0 = x) (h0 : 0 ≤ x) (h1 : x ≤ 255) : ((ch (strOfNums xs) i).toNat : Int) = x := by
  rw [ch_nums, h, u8_of h0 h1]

theorem dig_of {c : UInt8} (h0 : (48 : Int) ≤ (c.toNat : Int)) (h1 : (c.toNat : Int) ≤ 57) : digB c = true := (digB_iff c).2 ⟨by omega, by omega⟩

/-- The sign's byte. -/
def SgI (sg : Int) (neg : Bool) : Prop := (neg = false ∧ sg = 43) ∨ (neg = true ∧ sg = 45)

theorem not_Z (s : ByteArray) (h : 3 ≤ s.size) : ¬ (s.toList == [90]) = true := by
  rw [ByteArray.toList_eq]
  intro e
  have e1 : s.data.toList = [90] := by simpa using e
  have e2 : s.data.toList.length = s.size := rfl
  rw [e1] at e2
  simp at e2
  omega

/-- The head of what was built. -/
theorem built_head (xs : List Int) (neg : Bool) (sg h : Int) (hx : ∃ r, xs = sg :: (48 + h / 10) :: (48 + h % 10) :: r) (hsg : SgI sg neg) (h0 : 0 ≤ h) (h1 : h < 100) :
    headB (strOfNums xs) = true ∧ negB (strOfNums xs) = neg ∧ two (ch (strOfNums xs) 1) (ch (strOfNums xs) 2) = h := by
  obtain ⟨r, rfl⟩ := hx
  have e0 := ch_num (sg :: (48 + h / 10) :: (48 + h % 10) :: r) 0 sg rfl (by rcases hsg with ⟨_, rfl⟩ | ⟨_, rfl⟩ <;> omega) (by rcases hsg with ⟨_, rfl⟩ | ⟨_, rfl⟩ <;> omega)
  have e1 := ch_num (sg :: (48 + h / 10) :: (48 + h % 10) :: r) 1 (48 + h / 10) rfl (by omega) (by omega)
  have e2 := ch_num (sg :: (48 + h / 10) :: (48 + h % 10) :: r) 2 (48 + h % 10) rfl (by omega) (by omega)
  refine ⟨(headB_iff _).2 ⟨by rw [strOfNums_size]; simp, ?_, dig_of (by omega) (by omega), dig_of (by omega) (by omega)⟩, ?_, ?_⟩
  · rcases hsg with ⟨_, rfl⟩ | ⟨_, rfl⟩
    · exact .inl (by omega)
    · exact .inr (by omega)
  · unfold negB
    rcases hsg with ⟨rfl, rfl⟩ | ⟨rfl, rfl⟩
    · simp; omega
    · simp; omega
  · unfold two
    rw [e1, e2]
    omega

theorem built0 (neg : Bool) (sg h : Int) (hsg : SgI sg neg) (h0 : 0 ≤ h) (h1 : h < 100) :
    zfun (strOfNums [sg, 48 + h / 10, 48 + h % 10]) = (⟨strOfNums [sg, 48 + h / 10, 48 + h % 10], 1, neg, h, 0, ⟨#[]⟩⟩, true) := by
  obtain ⟨a, b, c⟩ := built_head _ neg sg h ⟨[], rfl⟩ hsg h0 h1
  have hz : (strOfNums [sg, 48 + h / 10, 48 + h % 10]).size = 3 := by rw [strOfNums_size]; rfl
  unfold zfun
  rw [if_neg (not_Z _ (by omega)), if_neg (by rw [a]; simp), if_pos hz, b, c]

theorem built1 (neg : Bool) (sg h m : Int) (hsg : SgI sg neg) (h0 : 0 ≤ h) (h1 : h < 100) (m0 : 0 ≤ m) (m1 : m < 100) :
    zfun (strOfNums [sg, 48 + h / 10, 48 + h % 10, 58, 48 + m / 10, 48 + m % 10]) = (⟨strOfNums [sg, 48 + h / 10, 48 + h % 10, 58, 48 + m / 10, 48 + m % 10], 2, neg, h, m, ⟨#[]⟩⟩, true) := by
  obtain ⟨a, b, c⟩ := built_head _ neg sg h ⟨[58, 48 + m / 10, 48 + m % 10], rfl⟩ hsg h0 h1
  have hz : (strOfNums [sg, 48 + h / 10, 48 + h % 10, 58, 48 + m / 10, 48 + m % 10]).size = 6 := by rw [strOfNums_size]; rfl
  have e3 := ch_num [sg, 48 + h / 10, 48 + h % 10, 58, 48 + m / 10, 48 + m % 10] 3 58 rfl (by omega) (by omega)
  have e4 := ch_num [sg, 48 + h / 10, 48 + h % 10, 58, 48 + m / 10, 48 + m % 10] 4 (48 + m / 10) rfl (by omega) (by omega)
  have e5 := ch_num [sg, 48 + h / 10, 48 + h % 10, 58, 48 + m / 10, 48 + m % 10] 5 (48 + m % 10) rfl (by omega) (by omega)
  have hE : extB (strOfNums [sg, 48 + h / 10, 48 + h % 10, 58, 48 + m / 10, 48 + m % 10]) = true := (extB_iff _).2 ⟨hz, by omega, dig_of (by omega) (by omega), dig_of (by omega) (by omega)⟩
  have e2 : two (ch (strOfNums [sg, 48 + h / 10, 48 + h % 10, 58, 48 + m / 10, 48 + m % 10]) 4) (ch (strOfNums [sg, 48 + h / 10, 48 + h % 10, 58, 48 + m / 10, 48 + m % 10]) 5) = m := by
    unfold two; rw [e4, e5]; omega
  unfold zfun
  rw [if_neg (not_Z _ (by omega)), if_neg (by rw [a]; simp), if_neg (by omega), if_pos hE, b, c, e2]

theorem built2 (neg : Bool) (sg h m : Int) (hsg : SgI sg neg) (h0 : 0 ≤ h) (h1 : h < 100) (m0 : 0 ≤ m) (m1 : m < 100) :
    zfun (strOfNums [sg, 48 + h / 10, 48 + h % 10, 48 + m / 10, 48 + m % 10]) = (⟨strOfNums [sg, 48 + h / 10, 48 + h % 10, 48 + m / 10, 48 + m % 10], 3, neg, h, m, ⟨#[]⟩⟩, true) := by
  obtain ⟨a, b, c⟩ := built_head _ neg sg h ⟨[48 + m / 10, 48 + m % 10], rfl⟩ hsg h0 h1
  have hz : (strOfNums [sg, 48 + h / 10, 48 + h % 10, 48 + m / 10, 48 + m % 10]).size = 5 := by rw [strOfNums_size]; rfl
  have e3 := ch_num [sg, 48 + h / 10, 48 + h % 10, 48 + m / 10, 48 + m % 10] 3 (48 + m / 10) rfl (by omega) (by omega)
  have e4 := ch_num [sg, 48 + h / 10, 48 + h % 10, 48 + m / 10, 48 + m % 10] 4 (48 + m % 10) rfl (by omega) (by omega)
  have hE : ¬ extB (strOfNums [sg, 48 + h / 10, 48 + h % 10, 48 + m / 10, 48 + m % 10]) = true := fun h => by have := ((extB_iff _).1 h).1; omega
  have hB : basB (strOfNums [sg, 48 + h / 10, 48 + h % 10, 48 + m / 10, 48 + m % 10]) = true := (basB_iff _).2 ⟨hz, dig_of (by omega) (by omega), dig_of (by omega) (by omega)⟩
  have e2 : two (ch (strOfNums [sg, 48 + h / 10, 48 + h % 10, 48 + m / 10, 48 + m % 10]) 3) (ch (strOfNums [sg, 48 + h / 10, 48 + h % 10, 48 + m / 10, 48 + m % 10]) 4) = m := by
    unfold two; rw [e3, e4]; omega
  unfold zfun
  rw [if_neg (not_Z _ (by omega)), if_neg (by rw [a]; simp), if_neg (by omega), if_neg hE, if_pos hB, b, c, e2]

theorem built3 (neg : Bool) (sg h : Int) (ds : List Int) (hsg : SgI sg neg) (h0 : 0 ≤ h) (h1 : h < 100) (hn : 0 < ds.length) (hd : ∀ x ∈ ds, 48 ≤ x ∧ x ≤ 57) :
    zfun (strOfNums (sg :: (48 + h / 10) :: (48 + h % 10) :: 46 :: ds)) = (⟨strOfNums (sg :: (48 + h / 10) :: (48 + h % 10) :: 46 :: ds), 4, neg, h, 0, strOfNums ds⟩, true) := by
  obtain ⟨a, b, c⟩ := built_head _ neg sg h ⟨46 :: ds, rfl⟩ hsg h0 h1
  have hz : (strOfNums (sg :: (48 + h / 10) :: (48 + h % 10) :: 46 :: ds)).size = ds.length + 4 := by rw [strOfNums_size]; rfl
  have e3 := ch_num (sg :: (48 + h / 10) :: (48 + h % 10) :: 46 :: ds) 3 46 rfl (by omega) (by omega)
  have ex : (strOfNums (sg :: (48 + h / 10) :: (48 + h % 10) :: 46 :: ds)).extract 4 (strOfNums (sg :: (48 + h / 10) :: (48 + h % 10) :: 46 :: ds)).size = strOfNums ds := by
    apply bytes_ext
    rw [Lib.extract_to_end, strOfNums_data, strOfNums_data]
    rfl
  have hl : ds.length ≤ lead (strOfNums ds).data.toList := by
    rw [lead_ch]
    intro j hj
    rw [ch_nums]
    have hm := hd (ds.getD j 0) (by rw [List.getD_eq_getElem?_getD, List.getElem?_eq_getElem hj]; exact List.getElem_mem hj)
    have := u8_of (x := ds.getD j 0) (by omega) (by omega)
    exact dig_of (by omega) (by omega)
  have hE : ¬ extB (strOfNums (sg :: (48 + h / 10) :: (48 + h % 10) :: 46 :: ds)) = true := fun h => by have := ((extB_iff _).1 h).2.1; omega
  have hB : ¬ basB (strOfNums (sg :: (48 + h / 10) :: (48 + h % 10) :: 46 :: ds)) = true := fun h => by
    have := (digB_iff _).1 ((basB_iff _).1 h).2.1; omega
  have hD : decB (strOfNums (sg :: (48 + h / 10) :: (48 + h % 10) :: 46 :: ds)) = true := (decB_iff _).2 ⟨by omega, by omega, by rw [ex]; omega⟩
  unfold zfun
  rw [if_neg (not_Z _ (by omega)), if_neg (by rw [a]; simp), if_neg (by omega), if_neg hE, if_neg hB, if_pos hD, b, c, ex]

end Go.Proofs.Ybulkcmju
