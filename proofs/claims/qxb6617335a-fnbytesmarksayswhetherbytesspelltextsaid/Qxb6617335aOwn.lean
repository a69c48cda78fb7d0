import Derived.Test.Qxb6617335aRows
import Derived.WalkKit
import Derived.WalkSpells
import Derived.Laws.CopyOwn
namespace Go.Proofs.Qxb6617335a.Own
open Go.RowKit
set_option linter.unusedVariables false

theorem info3 : (Try.prog.info? 3).map (fun i => (i.zero, i.size, i.bytes)) = some (some (.int .i64 0), 1, 8) := by kernel_rfl
theorem size3 : (Try.prog.info? 3).map (·.size) = some 1 := by kernel_rfl

/-- a row that the call has just made, as a block -/
theorem row_block {w1 : World} {g n : Nat} {e : TypeId} {xs : List Value} (h : w1.ownsRow g e 1 (.slice (some ⟨g, 0, none⟩) n n) n xs) :
    w1.heap[g]? = some (.cells xs.toArray e (0, 0)) ∧ xs.length = n := by
  obtain ⟨h1, h2⟩ := h
  rcases h2 with ⟨h2, _⟩ | ⟨g', cap, cur, hv, hg, hh, _, _, hcs, hx⟩
  · cases h2
  · injection hv with hv1 hv2 hv3
    injection hv1 with hv1
    injection hv1 with hv1
    subst hv1 hv3
    rw [Nat.mul_one] at hcs hx h1
    refine ⟨?_, h1⟩
    rw [List.take_of_length_le (by simp; omega)] at hx
    rw [hh, ← hx]

theorem cells_block {w : World} {g : Nat} {zs : List Int} (h : w.heap[g]? = some (.cells (zs.map (Value.int .i64)).toArray 3 (0, 0))) :
    ∀ j, j < zs.length → w.cell? ⟨g, j, none⟩ = some (.int .i64 (zs.getD j 0)) := by
  intro j hj
  simp [World.cell?, h, hj]

/-- 'make([]int, n)': a block of n zeros, the world behind it a variable -/
theorem wpList_make_ints (w : World) {ops : Array Oper} {rest : List Oper} {o : Oper} {a : Act} {Q : Exit → Act → World → Prop}
    (hg : o.guard = none) (l : Operand) (hop : o.op = Op.makeSlice 23 l l) (n : Nat) (L : Int) (hl : a.eval l = .int .i64 L) (hL : L = (n : Int)) (b2 : 8 * n ≤ 281474976710656)
    (hK : ∀ w', Hid (w'.heap[w.heap.size]? = some (.cells ((List.replicate n (0 : Int)).map (Value.int .i64)).toArray 3 (0, 0))) → Below w.heap.size w w' → w.heap.size < w'.heap.size →
      wpList Try.prog ops Q rest (a.put o.dst (.slice (some ⟨w.heap.size, 0, none⟩) n n)) w') :
    wpList Try.prog ops Q (o :: rest) a w := by
  obtain ⟨i0, hi, hz0, hz1, hz2⟩ := info_parts info3
  refine wpList_make_full w hg l l 23 hop w.heap.size 3 i0 (.int .i64 0) 1 Try.underlying23 hi hz0 hz1 .i64 .i64 L L n hl hl hL hL (by rw [hz2]; exact b2) (by unfold maxLen; omega) (Nat.le_refl _) ?_
  intro w1 hown hgrow
  have hb := row_block hown
  have hm : (madeCells (Value.int .i64 0).cells (n * 1)).toList = (List.replicate n (0 : Int)).map (Value.int .i64) := by
    simp only [madeCells, Value.cells, Nat.mul_one]
    apply List.ext_getElem
    · simp
    · intro i h1 h2
      have e : i % 1 = 0 := Nat.mod_one i
      simp [e]
  rw [hm] at hb
  refine hK w1 hb.1 ((Below.refl _ _).grown hgrow (Nat.le_refl _) (by intro k hk; cases hk)) ?_
  have := hb.1
  exact (Array.getElem?_eq_some_iff.1 this).1

/-- 'copy(dst, src)' of n ints into a block of the call's own that is n cells long -/
theorem splice_whole {α : Type} (L cs : List α) (h : L.length = cs.length) : splice L 0 cs = cs := by
  simp [splice, ← h]

theorem copy_ints (w : World) (g n : Nat) (x : Addr) (c : Nat) (L : List Value) (zs : List Int) (hg : w.heap[g]? = some (.cells L.toArray 3 (0, 0))) (hL : L.length = n) (hz : zs.length = n)
    (hc : ∀ j, j < n → w.cell? (x.add j) = some (.int .i64 (zs.getD j 0))) :
    ∃ w', (Builtin.copy_ #[23, 23] 3 #[.slice (some ⟨g, 0, none⟩) n n, .slice (some x) n c]).run Try.prog w = .ok (goInt n) w' ∧
      Hid (w'.heap[g]? = some (.cells (zs.map (Value.int .i64)).toArray 3 (0, 0))) ∧ Below g w w' ∧ w'.heap.size = w.heap.size := by
  by_cases h0 : n = 0
  · subst h0
    refine ⟨w, ?_, ?_, Below.refl _ _, rfl⟩
    · exact run_copy_none (P := Try.prog) w 23 23 3 3 _ _ 0 0 0 c Try.underlying23 size3 (by simp)
    · obtain rfl : zs = [] := List.eq_nil_of_length_eq_zero hz
      obtain rfl : L = [] := List.eq_nil_of_length_eq_zero hL
      exact hg
  · have hlen : (zs.map (Value.int .i64)).length = n := by simp [hz]
    have hrun := run_copy_row (P := Try.prog) w 23 23 3 3 g 0 n n x n c L.toArray 3 (zs.map (Value.int .i64)) Try.underlying23 size3 hg (by simp [hz]) (fun j v hv => by
      have hj : j < n := by
        have := (List.getElem?_eq_some_iff.1 hv).1
        omega
      rw [hc j hj]
      simp only [List.getElem?_map, List.getElem?_eq_getElem (show j < zs.length by omega), Option.map_some] at hv
      rw [← hv]
      simp [hz, hj]) (by simp [hz, hL]) (fun v hv => by
        obtain ⟨z, _, rfl⟩ := List.mem_map.1 hv
        rfl)
    rw [hlen] at hrun
    refine ⟨_, hrun, ?_, below_setRow (Below.refl _ _) (Nat.le_refl _) _, ?_⟩
    · have h2 := setRow_heap w g _ (L.toArray.toList.take 0 ++ zs.map (Value.int .i64) ++ L.toArray.toList.drop (0 + n)).toArray 3 _ hg
      refine h2.trans ?_
      congr 2
      simp [← hL]
    · simp [World.setRow]
end Go.Proofs.Qxb6617335a.Own
