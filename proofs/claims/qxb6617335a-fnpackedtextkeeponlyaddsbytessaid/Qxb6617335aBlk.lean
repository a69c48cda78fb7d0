import Derived.Test.Qxb6617335aRows
import Derived.WalkKit
import Derived.WalkSpells
import Derived.WalkLawsBesides
import Derived.BigQuiet
import Derived.Deep.QuietTactic
namespace Go.Proofs.Qxb6617335a.Own
open Go.RowKit
set_option linter.unusedVariables false

/-- block g holds just the cells L, none of them frozen -/
def Blk (w : World) (g : Nat) (e : TypeId) (L : List Value) : Prop := w.heap[g]? = some (.cells L.toArray e (0, 0))

section
variable {w w' : World} {g B : Nat} {e : TypeId} {L : List Value}
theorem Blk.cell (h : Blk w g e L) (j : Nat) (hj : j < L.length) : w.cell? ⟨g, j, none⟩ = some L[j] := by
  rw [cell_of_row w g j _ e (0, 0) h]; simp [hj]
theorem Blk.some (h : Blk w g e L) (j : Nat) (hj : j < L.length) : ∃ v, w.cell? ⟨g, j, none⟩ = .some v := ⟨_, h.cell j hj⟩
theorem Blk.free (h : Blk w g e L) (j : Nat) : w.frozen? ⟨g, j, none⟩ = false := frozen_of_row w g j _ e h
theorem Blk.lt (h : Blk w g e L) : g < w.heap.size := (Array.getElem?_eq_some_iff.1 h).1
theorem Blk.set (h : Blk w g e L) (j : Nat) (u : Value) : Blk (w.setCell ⟨g, j, none⟩ u) g e (L.set j u) := by
  have := heap_setCell_same w g j _ e u h
  unfold Blk
  rw [this]
  simp
theorem Blk.later (h : Blk w g e L) (hb : Below B w w') (hg : g < B) : Blk w' g e L := (hb.block g hg).trans h
theorem Blk.other (h : Blk w g e L) (a : Addr) (u : Value) (ha : a.block ≠ g) : Blk (w.setCell a u) g e L := (Below.heap_setCell w a u g (fun x => ha x.symm)).trans h
theorem Blk.drewN (h : Blk w g e L) (n : Nat) : Blk (w.drewN n) g e L := h
end

/-- a row that the call has just made, as a block -/
theorem blk_of_row {w1 : World} {g n : Nat} {e : TypeId} {xs : List Value} (h : w1.ownsRow g e 1 (.slice (some ⟨g, 0, none⟩) n n) n xs) : Blk w1 g e xs := by
  obtain ⟨h1, h2⟩ := h
  rcases h2 with ⟨h2, _⟩ | ⟨g', cap, cur, hv, hg, hh, _, _, hcs, hx⟩
  · cases h2
  · injection hv with hv1 hv2 hv3
    injection hv1 with hv1
    injection hv1 with hv1
    subst hv1 hv3
    rw [Nat.mul_one] at hcs hx h1
    unfold Blk
    rw [List.take_of_length_le (by simp; omega)] at hx
    rw [hh, ← hx]

/-- 'make([]T, n)', T of one cell: a block of n zeros; the world behind it a variable -/
theorem wpList_make_blk (w : World) {ops : Array Oper} {rest : List Oper} {o : Oper} {a : Act} {Q : Exit → Act → World → Prop}
    (hg : o.guard = none) (l : Operand) (t e : TypeId) (hop : o.op = Op.makeSlice t l l) (z : Value) (by' : Nat) (hinfo : (Try.prog.info? e).map (fun i => (i.zero, i.size, i.bytes)) = some (some z, 1, by')) (hz : z.cells = #[z])
    (ht : Try.prog.underlying t = some (.slice e)) (n : Nat) (L : Int) (hl : a.eval l = .int .i64 L) (hL : L = (n : Int)) (b2 : by' * n ≤ 281474976710656) (b3 : n ≤ maxLen)
    (hK : ∀ w', Blk w' w.heap.size e (List.replicate n z) → Below w.heap.size w w' → w.heap.size < w'.heap.size → wpList Try.prog ops Q rest (a.put o.dst (.slice (some ⟨w.heap.size, 0, none⟩) n n)) w') :
    wpList Try.prog ops Q (o :: rest) a w := by
  obtain ⟨i0, hi, hz0, hz1, hz2⟩ := info_parts hinfo
  refine wpList_make_full w hg l l t hop w.heap.size e i0 z 1 ht hi hz0 hz1 .i64 .i64 L L n hl hl hL hL (by rw [hz2]; exact b2) b3 (Nat.le_refl _) ?_
  intro w1 hown hgrow
  have hb := blk_of_row hown
  rw [hz, Nat.mul_one, toList_madeCells_one] at hb
  exact hK w1 hb ((Below.refl _ _).grown hgrow (Nat.le_refl _) (by intro k hk; cases hk)) hb.lt

theorem info_int : (Try.prog.info? 3).map (fun i => (i.zero, i.size, i.bytes)) = some (some (.int .i64 0), 1, 8) := by kernel_rfl
theorem info_byte : (Try.prog.info? 5).map (fun i => (i.zero, i.size, i.bytes)) = some (some (.int .u8 0), 1, 1) := by kernel_rfl
end Go.Proofs.Qxb6617335a.Own
