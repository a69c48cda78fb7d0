import Derived.Test.Qxb6617335aMark
import Derived.Test.Qxb6617335aOwn
import Derived.WalkLawsBesides
import Derived.Laws.CopyOwn
import Derived.BigQuiet
import Derived.Deep.QuietTactic
namespace Go.Proofs.Qxb6617335a.Joins
open Go.RowKit Bm Own
set_option linter.unusedVariables false

set_option maxHeartbeats 400000 in
theorem walk_out (s : ByteArray) (a : Option Addr) (n c : Nat) (i : Int) (w : World) (hs : s.size ≤ maxLen) (hn : n ≤ maxLen) (ho : 524288 < s.size ∨ 65536 < n ∨ i < 0 ∨ (s.size : Int) < i ∨ (n : Int) < i) :
    Calls Try.prog 7 #[.string s, .slice a n c, .int .i64 i] w fun e w' => e = .returned (.bool true) ∧ Below w.heap.size w w' := by
  have h19 := size19 s a n c i w hs hn
  have H19 : Hid (Calls Try.prog 19 #[.string s, .slice a n c, .int .i64 i] w fun e w' => (∃ b, e = .returned (.bool b)) ∧ w' = w) := h19
  clear h19
  unfold maxLen at hs hn
  go_enter Try.func7, Try.ntmps7
  go_wp2_with fail
  refine H19.out.mono ?_
  rintro e w' ⟨⟨b, rfl⟩, rfl⟩
  cases b
  · go_wp2
    go_ret
    exact ⟨rfl, Below.refl _ _⟩
  · by_cases h1 : 524288 < s.size
    · go_wp2
      go_ret
      exact ⟨rfl, Below.refl _ _⟩
    · by_cases h2 : 65536 < n
      · go_wp2
        go_ret
        exact ⟨rfl, Below.refl _ _⟩
      · by_cases h3 : i < 0
        · go_wp2
          go_ret
          exact ⟨rfl, Below.refl _ _⟩
        · by_cases h4 : (s.size : Int) < i
          · go_wp2
            go_ret
            exact ⟨rfl, Below.refl _ _⟩
          · have h5 : (n : Int) < i := by omega
            go_wp2
            go_ret
            exact ⟨rfl, Below.refl _ _⟩

set_option maxHeartbeats 400000 in
theorem walk_nil (s : ByteArray) (i : Int) (w : World) (hs : s.size ≤ maxLen) (h1 : ¬ 524288 < s.size) (h3 : ¬ i < 0) (h4 : ¬ (s.size : Int) < i) (h5 : ¬ (0 : Int) < i) :
    Calls Try.prog 7 #[.string s, .slice none 0 0, .int .i64 i] w fun e w' => e = .returned (.bool true) ∧ Below w.heap.size w w' := by
  have H19 : Hid (Calls Try.prog 19 #[.string s, .slice none 0 0, .int .i64 i] w fun e w' => (∃ b, e = .returned (.bool b)) ∧ w' = w) := size19 s none 0 0 i w hs (by simp)
  have q : ∀ (w : World) (a : Option Addr) (n c n' c' : Nat), (binOp .eql 23 (.slice a n c) (.slice none n' c')).run Try.prog w = .ok (.bool a.isNone) w := fun w a n c n' c' => Lib.run_eql_slice_nil w _ _ a n c n' c' Try.underlying23
  have q' : ∀ (w : World) (a : Option Addr) (n c n' c' : Nat), (binOp .neq 23 (.slice a n c) (.slice none n' c')).run Try.prog w = .ok (.bool (!a.isNone)) w := fun w a n c n' c' => run_neq_slice_nil_any w _ _ a n c n' c' Try.underlying23
  unfold maxLen at hs
  go_enter Try.func7, Try.ntmps7
  go_wp2_with fail
  refine H19.out.mono ?_
  rintro e w' ⟨⟨b, rfl⟩, rfl⟩
  cases b
  · go_wp2
    go_ret
    exact ⟨rfl, Below.refl _ _⟩
  · go_wp2_with fail
    refine (mark15_nil _ _).mono ?_
    rintro e w' ⟨rfl, rfl⟩
    go_wp2
    go_ret
    exact ⟨rfl, Below.refl _ _⟩

theorem copied (w w1 : World) (x : Addr) (n c : Nat) (zs : List Int) (HG : Hid (w1.heap[w.heap.size]? = some (.cells ((List.replicate n (0 : Int)).map (Value.int .i64)).toArray 3 (0, 0)))) (HZ : Hid (zs.length = n))
    (HC : Hid (∀ i, i < zs.length → w.cell? (x.add i) = some (.int .i64 (zs.getD i 0)))) (hb : Below w.heap.size w w1) :
    ∃ w2, (Builtin.copy_ #[23, 23] 3 #[.slice (some ⟨w.heap.size, 0, none⟩) n n, .slice (some x) n c]).run Try.prog w1 = .ok (goInt n) w2 ∧
      Hid (∀ j, j < n → w2.cell? ⟨w.heap.size, j, none⟩ = some (.int .i64 (zs.getD j 0))) ∧ Below w.heap.size w w2 ∧ Hid (w2.heap.size = w1.heap.size) := by
  obtain ⟨w2, h1, h2, h3, h4⟩ := copy_ints w1 w.heap.size n x c _ zs HG.out (by simp) HZ.out (fun j hj => by
    have := HC.out j (by rw [HZ.out]; exact hj)
    exact cell_later hb this)
  exact ⟨w2, h1, fun j hj => cells_block h2.out j (by rw [HZ.out]; exact hj), hb.trans h3, h4⟩

theorem left15 (s : ByteArray) (g n k : Nat) (zs : List Int) (W : World) (q : Nat) (hs : s.size ≤ 2 ^ 63 - 1) (hn : ¬ 65536 < n) (hk : (k : Int) ≤ n) (hks : (k : Int) ≤ s.size) (HZ : Hid (zs.length = n))
    (HG : Hid (∀ j, j < n → W.cell? ⟨g, j, none⟩ = some (.int .i64 (zs.getD j 0)))) :
    Calls Try.prog 15 #[.string (s.extract 0 k), .slice (some ⟨g, 0, none⟩) k n] (W.drewN q) fun e w' => e = .returned (.int .u64 (Bm.mark (s.extract 0 k) (zs.take k))) ∧ w' = W.drewN q := by
  refine mark15 (s.extract 0 k) g 0 k n (zs.take k) (W.drewN q) (by simp only [ByteArray.size_extract]; unfold maxLen; omega) (by unfold maxLen; omega) (by have := HZ.out; simp; omega) ?_
  intro i hi
  have h := HG.out i (by omega)
  rw [Nat.zero_add]
  refine Eq.trans ?_ (h.trans ?_)
  · rfl
  · simp [hi]

theorem right15 (s : ByteArray) (g n k : Nat) (zs : List Int) (W : World) (q : Nat) (hs : s.size ≤ 2 ^ 63 - 1) (hn : ¬ 65536 < n) (hk : (k : Int) ≤ n) (hks : (k : Int) ≤ s.size) (HZ : Hid (zs.length = n))
    (HG : Hid (∀ j, j < n → W.cell? ⟨g, j, none⟩ = some (.int .i64 (zs.getD j 0)))) :
    Calls Try.prog 15 #[.string (s.extract k s.size), .slice (some ⟨g, k, none⟩) (n - k) (n - k)] (W.drewN q) fun e w' => e = .returned (.int .u64 (Bm.mark (s.extract k s.size) (zs.drop k))) ∧ w' = W.drewN q := by
  refine mark15 (s.extract k s.size) g k (n - k) (n - k) (zs.drop k) (W.drewN q) (by simp only [ByteArray.size_extract]; unfold maxLen; omega) (by unfold maxLen; omega) (by have := HZ.out; simp; omega) ?_
  intro i hi
  have h := HG.out (k + i) (by omega)
  refine Eq.trans ?_ (h.trans ?_)
  · rfl
  · simp

theorem rightend15 (s : ByteArray) (g k : Nat) (zs : List Int) (W : World) (hs : s.size ≤ 2 ^ 63 - 1) (HZ : Hid (zs.length = k)) :
    Calls Try.prog 15 #[.string (s.extract k s.size), .slice (some ⟨g, 0, none⟩) 0 0] W fun e w' => e = .returned (.int .u64 (Bm.mark (s.extract k s.size) (zs.drop k))) ∧ w' = W := by
  refine mark15 (s.extract k s.size) g 0 0 0 (zs.drop k) W (by simp only [ByteArray.size_extract]; unfold maxLen; omega) (by unfold maxLen; omega) (by have := HZ.out; simp; omega) ?_
  intro i hi
  omega

set_option maxHeartbeats 1000000 in
theorem walk_in (s : ByteArray) (x : Addr) (n c k : Nat) (zs : List Int) (w : World) (hs : s.size ≤ maxLen) (h1 : ¬ 524288 < s.size) (h2 : ¬ 65536 < n) (h4 : ¬ (s.size : Int) < k) (h5 : ¬ (n : Int) < k)
    (hz : zs.length = n) (hc : ∀ i, i < zs.length → w.cell? (x.add i) = some (.int .i64 (zs.getD i 0))) :
    Calls Try.prog 7 #[.string s, .slice (some x) n c, .int .i64 k] w fun e w' => e = .returned (.bool true) ∧ Below w.heap.size w w' := by
  have H19 : Hid (Calls Try.prog 19 #[.string s, .slice (some x) n c, .int .i64 k] w fun e w' => (∃ b, e = .returned (.bool b)) ∧ w' = w) := size19 s (some x) n c k w hs (by unfold maxLen; omega)
  have q : ∀ (w : World) (a : Option Addr) (n c n' c' : Nat), (binOp .eql 23 (.slice a n c) (.slice none n' c')).run Try.prog w = .ok (.bool a.isNone) w := fun w a n c n' c' => Lib.run_eql_slice_nil w _ _ a n c n' c' Try.underlying23
  have q' : ∀ (w : World) (a : Option Addr) (n c n' c' : Nat), (binOp .neq 23 (.slice a n c) (.slice none n' c')).run Try.prog w = .ok (.bool (!a.isNone)) w := fun w a n c n' c' => run_neq_slice_nil_any w _ _ a n c n' c' Try.underlying23
  unfold maxLen at hs
  have HZ : Hid (zs.length = n) := hz
  have HC : Hid (∀ i, i < zs.length → w.cell? (x.add i) = some (.int .i64 (zs.getD i 0))) := hc
  clear hz hc
  go_enter Try.func7, Try.ntmps7
  go_wp2_with fail
  refine H19.out.mono ?_
  rintro e w' ⟨⟨b, rfl⟩, rfl⟩
  cases b
  · go_wp2
    go_ret
    exact ⟨rfl, Below.refl _ _⟩
  · go_wp2_with (first
      | (at_make; refine wpList_make_ints _ rfl (.tmp 40) rfl n _ rfl rfl (by omega) ?_; intro w1 HG1 hb1 hz1; obtain ⟨w2, hrun, HG2, hb2, hsz⟩ := copied w' w1 x n c zs HG1 HZ HC hb1))
    clear hrun hz1 hb1 HG1
    refine (mark15 s w'.heap.size 0 n n zs w2 (by unfold maxLen; exact hs) (by unfold maxLen; omega) HZ.out (by simpa using HG2.out)).mono ?_
    rintro e w3 ⟨rfl, rfl⟩
    generalize hm : Bm.mark s zs = m
    have HM : Hid (Bm.mark s zs = m) := hm
    clear hm
    go_wp2_with fail
    go_quiet ((go_at_call 15; exact Calls.quiet_of_same (left15 s w'.heap.size n k zs w3 _ hs h2 h5 h4 HZ HG2)))
    generalize hl : Bm.mark (s.extract 0 k) (zs.take k) = ml
    have HL : Hid (Bm.mark (s.extract 0 k) (zs.take k) = ml) := hl
    clear hl
    have HC1 : Hid (m = if ml = 1 ∧ Bm.mark (s.extract k s.size) (zs.drop k) = 1 then 1 else 2) := by
      rw [← HM.out, ← HL.out]; exact mark_cut s zs k (by rw [HZ.out]; omega) (by omega)
    have HL1 : Hid (ml = 1 ∨ ml = 2) := by rw [← HL.out]; exact mark_cases _ _
    have HR1 : Hid (Bm.mark (s.extract k s.size) (zs.drop k) = 1 ∨ Bm.mark (s.extract k s.size) (zs.drop k) = 2) := mark_cases _ _
    by_cases hkn : k = n
    · subst hkn
      go_wp2_with fail
      go_quiet ((go_at_call 15; exact (rightend15 s w'.heap.size k zs _ hs HZ).mono fun e w ⟨he, hw⟩ => ⟨he, _, hw⟩))
      generalize Bm.mark (s.extract k s.size) (zs.drop k) = mr at *
      clear HG2 HC HL HM HZ H19
      rcases HL1.out with rfl | rfl <;> rcases HR1.out with rfl | rfl <;> simp only [true_and, false_and, and_false, if_true, if_false, Hid, Int.reduceEq] at HC1 <;> subst HC1 <;> clear HL1 HR1 <;> go_wp2 <;> go_ret <;> exact ⟨rfl, below_drewN hb2 _⟩
    · have hkn' : k < n := by omega
      go_wp2_with fail
      go_quiet ((go_at_call 15; exact (right15 s w'.heap.size n k zs w3 _ hs h2 h5 h4 HZ HG2).mono fun e w ⟨he, hw⟩ => ⟨he, _, hw⟩))
      generalize Bm.mark (s.extract k s.size) (zs.drop k) = mr at *
      clear HG2 HC HL HM HZ H19
      rcases HL1.out with rfl | rfl <;> rcases HR1.out with rfl | rfl <;> simp only [true_and, false_and, and_false, if_true, if_false, Hid, Int.reduceEq] at HC1 <;> subst HC1 <;> clear HL1 HR1 <;> go_wp2 <;> go_ret <;> exact ⟨rfl, below_drewN hb2 _⟩

theorem walk_some (s : ByteArray) (x : Addr) (n c : Nat) (i : Int) (zs : List Int) (w : World) (hs : s.size ≤ maxLen) (hn : n ≤ maxLen) (hz : zs.length = n) (hc : ∀ i, i < zs.length → w.cell? (x.add i) = some (.int .i64 (zs.getD i 0))) :
    Calls Try.prog 7 #[.string s, .slice (some x) n c, .int .i64 i] w fun e w' => e = .returned (.bool true) ∧ Below w.heap.size w w' := by
  by_cases ho : 524288 < s.size ∨ 65536 < n ∨ i < 0 ∨ (s.size : Int) < i ∨ (n : Int) < i
  · exact walk_out s (some x) n c i w hs hn ho
  · obtain ⟨k, rfl⟩ := Int.eq_ofNat_of_zero_le (show 0 ≤ i by omega)
    exact walk_in s x n c k zs w hs (by omega) (by omega) (by omega) (by omega) hz hc
theorem walk_none (s : ByteArray) (i : Int) (w : World) (hs : s.size ≤ maxLen) :
    Calls Try.prog 7 #[.string s, .slice none 0 0, .int .i64 i] w fun e w' => e = .returned (.bool true) ∧ Below w.heap.size w w' := by
  by_cases ho : 524288 < s.size ∨ 65536 < 0 ∨ i < 0 ∨ (s.size : Int) < i ∨ ((0 : Nat) : Int) < i
  · exact walk_out s none 0 0 i w hs (by unfold maxLen; omega) ho
  · exact walk_nil s i w hs (by omega) (by omega) (by omega) (by omega)
end Go.Proofs.Qxb6617335a.Joins
