import Derived.WalkKit
namespace Go.Proofs.Qxb6617335a.Bm
set_option linter.unusedVariables false

/-- the byte values of a text -/
def bv (s : ByteArray) : List Int := s.data.toList.map fun b => (b.toNat : Int)
/-- do the numbers spell the text? -/
def same (s : ByteArray) (zs : List Int) : Bool := zs == bv s
/-- what bytesMark answers for bytes that are not nil -/
def mark (s : ByteArray) (zs : List Int) : Int := if same s zs then 1 else 2

theorem bv_length (s : ByteArray) : (bv s).length = s.size := by
  simp [bv]

theorem bv_get (s : ByteArray) (k : Nat) (h : k < s.size) : (bv s).getD k 0 = ((s[k]).toNat : Int) := by
  have h2 : k < s.data.toList.length := by simpa using h
  simp only [bv, List.getD_eq_getElem?_getD, List.getElem?_map, List.getElem?_eq_getElem h2]
  rfl

theorem ext_getD {xs ys : List Int} (hl : xs.length = ys.length) (h : ∀ j, j < xs.length → xs.getD j 0 = ys.getD j 0) : xs = ys := by
  apply List.ext_getElem hl
  intro i h1 h2
  have := h i h1
  simpa [List.getD_eq_getElem?_getD, h1, h2] using this

theorem mark_len {s : ByteArray} {zs : List Int} (h : zs.length ≠ s.size) : mark s zs = 2 := by
  have : same s zs = false := by
    simp only [same, beq_eq_false_iff_ne]
    intro e
    exact h (by rw [e, bv_length])
  simp [mark, this]

theorem mark_diff {s : ByteArray} {zs : List Int} {k : Nat} (hk : k < s.size) (h : zs.getD k 0 ≠ ((s[k]).toNat : Int)) : mark s zs = 2 := by
  have : same s zs = false := by
    simp only [same, beq_eq_false_iff_ne]
    intro e
    exact h (by rw [e, bv_get])
  simp [mark, this]

theorem mark_all {s : ByteArray} {zs : List Int} (hl : zs.length = s.size) (h : ∀ j, j < zs.length → zs.getD j 0 = (bv s).getD j 0) : mark s zs = 1 := by
  have : same s zs = true := by
    simp only [same, beq_iff_eq]
    exact ext_getD (by rw [hl, bv_length]) h
  simp [mark, this]

theorem mark_cases (s : ByteArray) (zs : List Int) : mark s zs = 1 ∨ mark s zs = 2 := by
  unfold mark; split <;> simp


theorem bv_extract (s : ByteArray) (a b : Nat) : bv (s.extract a b) = ((bv s).take b).drop a := by
  apply List.ext_getElem
  · simp [bv_length, ByteArray.size_extract]
  · intro i h1 h2
    rw [bv_length] at h1
    have h3 := bv_get (s.extract a b) i h1
    rw [ByteArray.size_extract] at h1
    have h4 := bv_get s (a + i) (by omega)
    have h5 : i < (bv (s.extract a b)).length := by rw [bv_length, ByteArray.size_extract]; omega
    have h6 : a + i < (bv s).length := by rw [bv_length]; omega
    simp only [List.getD_eq_getElem?_getD, List.getElem?_eq_getElem h5, Option.getD_some] at h3
    simp only [List.getD_eq_getElem?_getD, List.getElem?_eq_getElem h6, Option.getD_some] at h4
    rw [h3]
    simp only [List.getElem_drop, List.getElem_take, h4, ByteArray.getElem_extract]

theorem same_cut (s : ByteArray) (zs : List Int) (k : Nat) (hz : k ≤ zs.length) (hk : k ≤ s.size) :
    same s zs = (same (s.extract 0 k) (zs.take k) && same (s.extract k s.size) (zs.drop k)) := by
  rw [Bool.eq_iff_iff, Bool.and_eq_true]
  simp only [same, beq_iff_eq, bv_extract]
  have e : (bv s).take s.size = bv s := List.take_of_length_le (by rw [bv_length]; exact Nat.le_refl _)
  rw [e, List.drop_zero]
  constructor
  · rintro rfl; exact ⟨rfl, rfl⟩
  · rintro ⟨h1, h2⟩
    rw [← List.take_append_drop k zs, h1, h2, List.take_append_drop]

/-- the mark of the whole out of the marks of the two parts -/
theorem mark_cut (s : ByteArray) (zs : List Int) (k : Nat) (hz : k ≤ zs.length) (hk : k ≤ s.size) :
    mark s zs = if mark (s.extract 0 k) (zs.take k) = 1 ∧ mark (s.extract k s.size) (zs.drop k) = 1 then 1 else 2 := by
  unfold mark
  rw [same_cut s zs k hz hk]
  cases same (s.extract 0 k) (zs.take k) <;> cases same (s.extract k s.size) (zs.drop k) <;> simp

end Go.Proofs.Qxb6617335a.Bm
