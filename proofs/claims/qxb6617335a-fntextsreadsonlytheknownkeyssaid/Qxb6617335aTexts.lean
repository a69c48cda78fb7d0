import Derived.Test.Qxb6617335aRows
import Derived.Test.Qxb6617335aTextsPlain
import Derived.WalkKit
import Derived.ProofKit
import Derived.WalkSpells
namespace Go.Proofs.Qxb6617335a.Tx
open Go.RowKit
set_option linter.unusedVariables false

theorem size20 (k1 k2 : Int) (s : ByteArray) (w : World) (hs : s.size ≤ maxLen) :
    Calls Try.prog 20 #[.int .u8 k1, .int .u8 k2, .string s] w fun e w' => (∃ b, e = .returned (.bool b)) ∧ w' = w := by
  unfold maxLen at hs
  go_enter Try.func20, Try.ntmps20
  go_wp2
  all_goals (go_ret; exact ⟨⟨_, rfl⟩, rfl⟩)

theorem size23 (k : Int) (s : ByteArray) (w : World) (hs : s.size ≤ maxLen) :
    Calls Try.prog 23 #[.int .u8 k, .string s] w fun e w' => (∃ b, e = .returned (.bool b)) ∧ w' = w := by
  unfold maxLen at hs
  go_enter Try.func23, Try.ntmps23
  go_wp2
  all_goals (go_ret; exact ⟨⟨_, rfl⟩, rfl⟩)

/-- a pointer that is nil or leads to the text -/
def Reads (p : Option Addr) (t : ByteArray) (w : World) : Prop := ∀ a, p = some a → w.cell? a = some (.string t)

theorem Reads.later {p : Option Addr} {t : ByteArray} {w w' : World} (h : Reads p t w) (hb : Below w.heap.size w w') : Reads p t w' :=
  fun a ha => cell_later hb (h a ha)

theorem nil22 (p : Option Addr) (t : ByteArray) (w : World) (H : Reads p t w) :
    Calls Try.prog 22 #[.pointer p, .string t] w fun e w' => e = .returned (.bool true) ∧ w = w' := by
  cases p with
  | none =>
    clear H
    go_enter Try.func22, Try.ntmps22
    go_wp2
    go_ret
    exact ⟨rfl, rfl⟩
  | some a =>
    have hc := H a rfl
    clear H
    go_enter Try.func22, Try.ntmps22
    go_wp2
    go_ret
    exact ⟨by simp, rfl⟩

def nil? (b : Bool) (a : Addr) : Option Addr := if b then some a else none

theorem texts21 (k : Int) (t : ByteArray) (w : World) :
    Calls Try.prog 21 #[.int .u8 k, .string t] w fun e w' => e = .returned (.tuple #[.pointer (nil? (c1 k) ⟨w.heap.size, 0, none⟩), .pointer (nil? (c2 k) ⟨w.heap.size, 0, none⟩)]) ∧ w' = w.alloc (.cells #[.string t] 9) := by
  have e11 : bits .and .u8 1 1 = 1 := by decide
  have e12 : bits .and .u8 1 2 = 0 := by decide
  by_cases h0 : k = 0
  · subst h0
    have g1 : c1 0 = true := by decide
    have g2 : c2 0 = false := by decide
    rw [g1, g2]
    go_enter Try.func21, Try.ntmps21
    go_wp2
    go_ret2
    exact ⟨rfl, rfl⟩
  · have h0' : (k == 0) = false := by simp [h0]
    have h0'' : (k != 0) = true := by simp [h0]
    have g1 : c1 k = (bits .and .u8 k 1 != 0) := by simp [c1, h0']
    have g2 : c2 k = (bits .and .u8 k 2 != 0) := by simp [c2, h0'']
    rw [g1, g2]
    clear g1 g2
    cases h1 : (bits .and .u8 k 1 != 0) <;> cases h2 : (bits .and .u8 k 2 != 0)
    all_goals
      go_enter Try.func21, Try.ntmps21
      go_wp2
      go_ret2
      exact ⟨rfl, rfl⟩

/-- what the laws use of Texts -/
theorem texts (k : Int) (t : ByteArray) (w : World) :
    Calls Try.prog 21 #[.int .u8 k, .string t] w fun e w' => ∃ p1 p2 : Option Addr, e = .returned (.tuple #[.pointer p1, .pointer p2]) ∧ Hid (p1.isNone = !c1 k) ∧ Hid (p2.isNone = !c2 k) ∧ Hid (Reads p1 t w') ∧ Hid (Reads p2 t w') ∧ Below w.heap.size w w' := by
  refine (texts21 k t w).mono ?_
  rintro e w' ⟨rfl, rfl⟩
  have hc : (w.alloc (.cells #[.string t] 9)).cell? ⟨w.heap.size, 0, none⟩ = some (.string t) := by simp
  have hr : ∀ b, Reads (nil? b ⟨w.heap.size, 0, none⟩) t (w.alloc (.cells #[.string t] 9)) := by
    intro b a ha
    cases b
    · cases ha
    · cases ha; exact hc
  have hi : ∀ b, (nil? b ⟨w.heap.size, 0, none⟩).isNone = !b := by intro b; cases b <;> rfl
  exact ⟨_, _, rfl, hi _, hi _, hr _, hr _, (Below.refl _ _).alloc (Nat.le_refl _) _⟩
end Go.Proofs.Qxb6617335a.Tx
