import Derived.WalkKit
namespace Go.Proofs.Qxb6617546a.Or
set_option linter.unusedVariables false

/-- v, or d where v is empty -/
def orr (v d : ByteArray) : ByteArray := if v.size = 0 then d else v
/-- the first that is not empty, d where there is none -/
def first : List ByteArray → ByteArray → ByteArray
  | [], d => d
  | x :: xs, d => orr x (first xs d)

theorem empty_of {x : ByteArray} (h : x.size = 0) : x = ⟨#[]⟩ := by
  apply ByteArray.ext
  exact Array.eq_empty_of_size_eq_zero h

theorem orr_yes {v d : ByteArray} (h : v.size = 0) : orr v d = d := by simp [orr, h]
theorem orr_no {v d : ByteArray} (h : v.size ≠ 0) : orr v d = v := by simp [orr, h]
theorem orr_empty (d : ByteArray) : orr ⟨#[]⟩ d = d := rfl
theorem orr_end (x : ByteArray) : orr x ⟨#[]⟩ = x := by
  by_cases h : x.size = 0
  · rw [orr_yes h, empty_of h]
  · rw [orr_no h]
theorem orr_assoc (a b c : ByteArray) : orr (orr a b) c = orr a (orr b c) := by
  by_cases h : a.size = 0
  · rw [orr_yes h, orr_yes h]
  · rw [orr_no h, orr_no h, orr_no h]

/-- the chain from the left is the chain from the right -/
theorem first_or : ∀ (xs : List ByteArray) (d : ByteArray), orr (first xs ⟨#[]⟩) d = first xs d
  | [], d => rfl
  | x :: xs, d => by rw [first, first, orr_assoc, first_or xs d]

theorem first_append : ∀ (xs ys : List ByteArray) (d : ByteArray), first (xs ++ ys) d = first xs (first ys d)
  | [], ys, d => rfl
  | x :: xs, ys, d => by rw [List.cons_append, first, first, first_append xs ys d]

theorem first_snoc (xs : List ByteArray) (x : ByteArray) : first (xs ++ [x]) ⟨#[]⟩ = orr (first xs ⟨#[]⟩) x := by
  rw [first_append, ← first_or xs, first, first, orr_end]

theorem drop_cons (ss : List ByteArray) (k : Nat) (h : k < ss.length) : ss.drop k = ss.getD k ByteArray.empty :: ss.drop (k + 1) := by
  rw [List.drop_eq_getElem_cons h]
  simp [List.getD_eq_getElem?_getD, h]

theorem take_snoc (ss : List ByteArray) (k : Nat) (h : k < ss.length) : ss.take (k + 1) = ss.take k ++ [ss.getD k ByteArray.empty] := by
  rw [List.take_succ_eq_append_getElem h]
  simp [List.getD_eq_getElem?_getD, h]
end Go.Proofs.Qxb6617546a.Or
