import Derived.Test.Qxb6617335aSpells
import Derived.Test.Qxb6617335aOwn
namespace Go.Proofs.Qxb6617335a.Says
open Go.RowKit Bm Own Spells
set_option linter.unusedVariables false

set_option maxHeartbeats 400000 in
theorem walk_out (s : ByteArray) (a : Option Addr) (n c : Nat) (w : World) (hs : s.size ≤ maxLen) (hn : n ≤ maxLen) (ho : 524288 < s.size ∨ 65536 < n) :
    Calls Try.prog 6 #[.string s, .slice a n c] w fun e w' => e = .returned (.bool true) ∧ Below w.heap.size w w' := by
  have H17 : Hid (Calls Try.prog 17 #[.string s, .slice a n c] w fun e w' => (∃ b, e = .returned (.bool b)) ∧ w' = w) := size17 s a n c w hs hn
  unfold maxLen at hs hn
  go_enter Try.func6, Try.ntmps6
  go_wp2_with fail
  refine H17.out.mono ?_
  rintro e w' ⟨⟨b, rfl⟩, rfl⟩
  cases b
  · go_wp2
    go_ret
    exact ⟨rfl, Below.refl _ _⟩
  · by_cases h1 : 524288 < s.size
    · go_wp2
      go_ret
      exact ⟨rfl, Below.refl _ _⟩
    · have h2 : 65536 < n := by omega
      go_wp2
      go_ret
      exact ⟨rfl, Below.refl _ _⟩

set_option maxHeartbeats 400000 in
theorem walk_nil (s : ByteArray) (w : World) (hs : s.size ≤ maxLen) (h1 : ¬ 524288 < s.size) :
    Calls Try.prog 6 #[.string s, .slice none 0 0] w fun e w' => e = .returned (.bool true) ∧ Below w.heap.size w w' := by
  have H17 : Hid (Calls Try.prog 17 #[.string s, .slice none 0 0] w fun e w' => (∃ b, e = .returned (.bool b)) ∧ w' = w) := size17 s none 0 0 w hs (by unfold maxLen; omega)
  have q : ∀ (w : World) (a : Option Addr) (n c n' c' : Nat), (binOp .eql 23 (.slice a n c) (.slice none n' c')).run Try.prog w = .ok (.bool a.isNone) w := fun w a n c n' c' => Lib.run_eql_slice_nil w _ _ a n c n' c' Try.underlying23
  have q' : ∀ (w : World) (a : Option Addr) (n c n' c' : Nat), (binOp .neq 23 (.slice a n c) (.slice none n' c')).run Try.prog w = .ok (.bool (!a.isNone)) w := fun w a n c n' c' => run_neq_slice_nil_any w _ _ a n c n' c' Try.underlying23
  unfold maxLen at hs
  go_enter Try.func6, Try.ntmps6
  go_wp2_with fail
  refine H17.out.mono ?_
  rintro e w' ⟨⟨b, rfl⟩, rfl⟩
  cases b
  · go_wp2
    go_ret
    exact ⟨rfl, Below.refl _ _⟩
  · go_wp2_with fail
    refine (mark15_nil _ _).mono ?_
    rintro e w' ⟨rfl, rfl⟩
    go_wp2
    go_ret
    exact ⟨rfl, Below.refl _ _⟩

theorem copied (w w1 : World) (x : Addr) (n c : Nat) (zs : List Int) (HG : Hid (w1.heap[w.heap.size]? = some (.cells ((List.replicate n (0 : Int)).map (Value.int .i64)).toArray 3 (0, 0)))) (HZ : Hid (zs.length = n))
    (HC : Hid (∀ i, i < zs.length → w.cell? (x.add i) = some (.int .i64 (zs.getD i 0)))) (hb : Below w.heap.size w w1) :
    ∃ w2, (Builtin.copy_ #[23, 23] 3 #[.slice (some ⟨w.heap.size, 0, none⟩) n n, .slice (some x) n c]).run Try.prog w1 = .ok (goInt n) w2 ∧
      Hid (∀ j, j < n → w2.cell? ⟨w.heap.size, j, none⟩ = some (.int .i64 (zs.getD j 0))) ∧ Below w.heap.size w w2 := by
  obtain ⟨w2, h1, h2, h3, h4⟩ := copy_ints w1 w.heap.size n x c _ zs HG.out (by simp) HZ.out (fun j hj => by
    have := HC.out j (by rw [HZ.out]; exact hj)
    exact cell_later hb this)
  exact ⟨w2, h1, fun j hj => cells_block h2.out j (by rw [HZ.out]; exact hj), hb.trans h3⟩

set_option maxHeartbeats 1000000 in
theorem walk_in (s : ByteArray) (x : Addr) (n c : Nat) (zs : List Int) (w : World) (hs : s.size ≤ maxLen) (h1 : ¬ 524288 < s.size) (h2 : ¬ 65536 < n)
    (hz : zs.length = n) (hc : ∀ i, i < zs.length → w.cell? (x.add i) = some (.int .i64 (zs.getD i 0))) :
    Calls Try.prog 6 #[.string s, .slice (some x) n c] w fun e w' => e = .returned (.bool true) ∧ Below w.heap.size w w' := by
  have H17 : Hid (Calls Try.prog 17 #[.string s, .slice (some x) n c] w fun e w' => (∃ b, e = .returned (.bool b)) ∧ w' = w) := size17 s (some x) n c w hs (by unfold maxLen; omega)
  have q : ∀ (w : World) (a : Option Addr) (n c n' c' : Nat), (binOp .eql 23 (.slice a n c) (.slice none n' c')).run Try.prog w = .ok (.bool a.isNone) w := fun w a n c n' c' => Lib.run_eql_slice_nil w _ _ a n c n' c' Try.underlying23
  have q' : ∀ (w : World) (a : Option Addr) (n c n' c' : Nat), (binOp .neq 23 (.slice a n c) (.slice none n' c')).run Try.prog w = .ok (.bool (!a.isNone)) w := fun w a n c n' c' => run_neq_slice_nil_any w _ _ a n c n' c' Try.underlying23
  unfold maxLen at hs
  have HZ : Hid (zs.length = n) := hz
  have HC : Hid (∀ i, i < zs.length → w.cell? (x.add i) = some (.int .i64 (zs.getD i 0))) := hc
  clear hz hc
  go_enter Try.func6, Try.ntmps6
  go_wp2_with fail
  refine H17.out.mono ?_
  rintro e w' ⟨⟨b, rfl⟩, rfl⟩
  cases b
  · go_wp2
    go_ret
    exact ⟨rfl, Below.refl _ _⟩
  · go_wp2_with (first
      | (at_make; refine wpList_make_ints _ rfl (.tmp 20) rfl n _ rfl rfl (by omega) ?_; intro w1 HG1 hb1 hz1; obtain ⟨w2, hrun, HG2, hb2⟩ := copied w' w1 x n c zs HG1 HZ HC hb1))
    clear hrun hz1 hb1 HG1
    refine (mark15 s w'.heap.size 0 n n zs w2 (by unfold maxLen; exact hs) (by unfold maxLen; omega) HZ.out (by simpa using HG2.out)).mono ?_
    rintro e w3 ⟨rfl, rfl⟩
    generalize hm : Bm.mark s zs = m
    have HM : Hid (Bm.mark s zs = m) := hm
    clear hm
    go_wp2_with fail
    refine (spells18 s w'.heap.size n zs w3 (by unfold maxLen; exact hs) h2 HZ.out HG2.out).mono ?_
    rintro e w4 ⟨rfl, hb4⟩
    have HB : Hid (Below w'.heap.size w' w4) := hb2.trans (hb4.mono hb2.size)
    clear hb2 hb4 HG2 HC H17
    cases hsm : same s zs
    · have hm2 : m = 2 := by rw [← HM.out, Bm.mark, hsm]; rfl
      subst hm2
      clear hsm HM
      go_wp2
      go_ret
      exact ⟨rfl, HB.out⟩
    · have hm2 : m = 1 := by rw [← HM.out, Bm.mark, hsm]; rfl
      subst hm2
      clear hsm HM
      go_wp2
      go_ret
      exact ⟨rfl, HB.out⟩

theorem walk_some (s : ByteArray) (x : Addr) (n c : Nat) (zs : List Int) (w : World) (hs : s.size ≤ maxLen) (hn : n ≤ maxLen) (hz : zs.length = n) (hc : ∀ i, i < zs.length → w.cell? (x.add i) = some (.int .i64 (zs.getD i 0))) :
    Calls Try.prog 6 #[.string s, .slice (some x) n c] w fun e w' => e = .returned (.bool true) ∧ Below w.heap.size w w' := by
  by_cases ho : 524288 < s.size ∨ 65536 < n
  · exact walk_out s (some x) n c w hs hn ho
  · exact walk_in s x n c zs w hs (by omega) (by omega) hz hc
theorem walk_none (s : ByteArray) (w : World) (hs : s.size ≤ maxLen) :
    Calls Try.prog 6 #[.string s, .slice none 0 0] w fun e w' => e = .returned (.bool true) ∧ Below w.heap.size w w' := by
  by_cases ho : 524288 < s.size ∨ 65536 < 0
  · exact walk_out s none 0 0 w hs (by unfold maxLen; omega) ho
  · exact walk_nil s w hs (by omega)
end Go.Proofs.Qxb6617335a.Says
