import Derived.Test.Qxb6617546aWalk
namespace Go.Proofs.Qxb6617546a.Or
open Go.RowKit
set_option linter.unusedVariables false

set_option maxHeartbeats 1000000 in
theorem walk_big (b off n c : Nat) (ss : List ByteArray) (d : ByteArray) (w : World) (hc : ∀ i, i < n → w.cell? ⟨b, off + i, none⟩ = some (.string (ss.getD i ByteArray.empty))) (hM : ∀ i, i < n → (ss.getD i ByteArray.empty).size ≤ maxLen)
    (hn : n ≤ maxLen) (hd : d.size ≤ maxLen) (ho : 65536 < n ∨ 1048576 < d.size) :
    Calls Try.prog 3 #[.slice (some ⟨b, off, none⟩) n c, .string d] w fun e w' => e = .returned (.bool true) ∧ w = w' := by
  have H4 : Hid (Calls Try.prog 4 #[.slice (some ⟨b, off, none⟩) n c, .string d] w fun e w' => SomeBool e ∧ w = w') := size4 b off n c ss d w hc hM hn hd
  clear hc hM
  unfold maxLen at hn hd
  go_enter Try.func3, Try.ntmps3
  go_wp2_with fail
  refine H4.out.mono ?_
  rintro e _ ⟨⟨bb, rfl⟩, rfl⟩
  cases bb
  · go_wp2
    go_ret
    exact ⟨rfl, rfl⟩
  · by_cases h1 : 65536 < n
    · go_wp2
      go_ret
      exact ⟨rfl, rfl⟩
    · have h2 : 1048576 < d.size := by omega
      go_wp2
      go_ret
      exact ⟨rfl, rfl⟩

set_option maxHeartbeats 1000000 in
theorem walk_zero (a : Option Addr) (c : Nat) (d : ByteArray) (w : World) (hd : d.size ≤ maxLen) :
    Calls Try.prog 3 #[.slice a 0 c, .string d] w fun e w' => e = .returned (.bool true) ∧ w = w' := by
  have H4 : Hid (Calls Try.prog 4 #[.slice a 0 c, .string d] w fun e w' => SomeBool e ∧ w = w') := size4_0 a c d w hd
  have HO : Hid (∀ w, Calls Try.prog 5 #[.string ⟨#[]⟩, .string d] w fun e w' => e = .returned (.string d) ∧ w = w') := fun w => by
    have := or5 ⟨#[]⟩ d w
    rw [orr_empty] at this
    exact this
  unfold maxLen at hd
  go_enter Try.func3, Try.ntmps3
  go_wp2_with fail
  refine H4.out.mono ?_
  rintro e _ ⟨⟨bb, rfl⟩, rfl⟩
  cases bb
  · go_wp2
    go_ret
    exact ⟨rfl, rfl⟩
  · by_cases h1 : 1048576 < d.size
    · go_wp2
      go_ret
      exact ⟨rfl, rfl⟩
    · go_wp2
      refine wp_loop_rounds 1 ?_
      rw [rounds_succ]
      go_wp2
      refine wp_loop_rounds 1 ?_
      rw [rounds_succ]
      go_wp2
      refine wp_loop_rounds 1 ?_
      rw [rounds_succ]
      go_wp2
      refine wp_loop_rounds 1 ?_
      rw [rounds_succ]
      go_wp2_with fail
      refine (HO.out w).mono ?_
      rintro e _ ⟨rfl, rfl⟩
      go_wp2
      go_ret
      exact ⟨rfl, rfl⟩

theorem walk_any (a : Option Addr) (n c : Nat) (ss : List ByteArray) (d : ByteArray) (w : World) (hl : ss.length = n) (hA : 0 < n → ∃ x, a = some x ∧ ∀ i, i < n → w.cell? (x.add i) = some (.string (ss.getD i ByteArray.empty)))
    (hM : ∀ i, i < n → (ss.getD i ByteArray.empty).size ≤ maxLen) (hn : n ≤ maxLen) (hd : d.size ≤ maxLen) :
    Calls Try.prog 3 #[.slice a n c, .string d] w fun e w' => e = .returned (.bool true) ∧ w = w' := by
  by_cases h0 : n = 0
  · subst h0
    exact walk_zero a c d w hd
  · obtain ⟨x, rfl, hc⟩ := hA (by omega)
    have h1 := hc 0 (by omega)
    obtain ⟨b, off, spot⟩ := x
    have hspot : spot = none := by simpa [Addr.add] using World.cell?_spot h1
    subst hspot
    have hc' : ∀ i, i < n → w.cell? ⟨b, off + i, none⟩ = some (.string (ss.getD i ByteArray.empty)) := fun i hi => by
      have := hc i hi
      have e : (⟨b, off, none⟩ : Addr).add i = ⟨b, off + i, none⟩ := by cases i <;> simp [Addr.add]
      rw [e] at this
      exact this
    by_cases ho : 65536 < n ∨ 1048576 < d.size
    · exact walk_big b off n c ss d w hc' hM hn hd ho
    · exact walk_in b off n c ss d w hc' hM hl (by omega) (by omega)
end Go.Proofs.Qxb6617546a.Or
