import Derived.Test.Qxb6617335aRows
import Derived.Test.Qxb6617335aMarkPlain
import Derived.WalkKit
import Derived.ProofKit
import Derived.WalkSpells
namespace Go.Proofs.Qxb6617335a.Bm
open Go.RowKit
set_option linter.unusedVariables false

/-- the bound on lengths, law by law: it answers some bool and touches nothing -/
theorem size17 (s : ByteArray) (a : Option Addr) (n c : Nat) (w : World) (hs : s.size ≤ maxLen) (hn : n ≤ maxLen) :
    Calls Try.prog 17 #[.string s, .slice a n c] w fun e w' => (∃ b, e = .returned (.bool b)) ∧ w' = w := by
  unfold maxLen at hs hn
  go_enter Try.func17, Try.ntmps17
  go_wp2
  all_goals (go_ret; exact ⟨⟨_, rfl⟩, rfl⟩)

theorem size19 (s : ByteArray) (a : Option Addr) (n c : Nat) (i : Int) (w : World) (hs : s.size ≤ maxLen) (hn : n ≤ maxLen) :
    Calls Try.prog 19 #[.string s, .slice a n c, .int .i64 i] w fun e w' => (∃ b, e = .returned (.bool b)) ∧ w' = w := by
  unfold maxLen at hs hn
  go_enter Try.func19, Try.ntmps19
  go_wp2
  all_goals (go_ret; exact ⟨⟨_, rfl⟩, rfl⟩)

theorem byte64 (b : UInt8) : wrap64 (b.toNat : Int) = (b.toNat : Int) := by
  have := b.toNat_lt
  simp only [wrap64]
  omega

theorem ret_int {k : IntKind} {a b : Int} (h : a = b) : Ending.returned (.int k a) = .returned (.int k b) := by rw [h]

/-- nil bytes -/
theorem mark28_nil (s : ByteArray) (w : World) :
    Calls Try.prog 28 #[.string s, .slice none 0 0] w fun e w' => e = .returned (.int .u64 0) ∧ w' = w := by
  have q : ∀ (w : World) (a : Option Addr) (n c n' c' : Nat), (binOp .eql 23 (.slice a n c) (.slice none n' c')).run Try.prog w = .ok (.bool a.isNone) w := fun w a n c n' c' => Lib.run_eql_slice_nil w _ _ a n c n' c' Try.underlying23
  go_enter Try.func28, Try.ntmps28
  go_wp2
  go_ret
  exact ⟨rfl, rfl⟩

set_option maxHeartbeats 400000 in
/-- bytes that are not nil -/
theorem mark28 (s : ByteArray) (b off n c : Nat) (zs : List Int) (w : World) (hs : s.size ≤ maxLen) (hn : n ≤ maxLen) (hz : zs.length = n)
    (hc : ∀ i, i < n → w.cell? ⟨b, off + i, none⟩ = some (.int .i64 (zs.getD i 0))) :
    Calls Try.prog 28 #[.string s, .slice (some ⟨b, off, none⟩) n c] w fun e w' => e = .returned (.int .u64 (mark s zs)) ∧ w' = w := by
  have q : ∀ (w : World) (a : Option Addr) (n c n' c' : Nat), (binOp .eql 23 (.slice a n c) (.slice none n' c')).run Try.prog w = .ok (.bool a.isNone) w := fun w a n c n' c' => Lib.run_eql_slice_nil w _ _ a n c n' c' Try.underlying23
  unfold maxLen at hs hn
  by_cases hl : n = s.size
  · have hl' : ((n : Int) != (s.size : Int)) = false := by simp [hl]
    have HZ : Hid (zs.length = n) := hz
    have HL : Hid (n = s.size) := hl
    have HC : Hid (∀ i, i < n → w.cell? ⟨b, off + i, none⟩ = some (.int .i64 (zs.getD i 0))) := hc
    have hle : n ≤ s.size := by omega
    have hle' : s.size ≤ n := by omega
    clear hz hl hc
    go_enter Try.func28, Try.ntmps28
    go_wp2
    go_loop [16] (fun i => ∃ k : Nat, k ≤ n ∧ i = .int .i64 k ∧ Hid (∀ j, j < k → zs.getD j 0 = (bv s).getD j 0)) (fun i => n - (intOf i).toNat)
    case atStart => exact ⟨0, Nat.zero_le _, rfl, fun j h => absurd h (by omega)⟩
    case round =>
      obtain ⟨k, hk, rfl, H⟩ := hrel
      by_cases hlt : k < n
      · have hcell := HC.out k hlt
        have hks : k < s.size := by omega
        have hbv := bv_get s k hks
        have HB : Hid ((bv s).getD k 0 = ((s[k]).toNat : Int)) := hbv
        clear hbv
        have hw8 : wrap64 ((s[k]).toNat : Int) = ((s[k]).toNat : Int) := byte64 _
        by_cases he : zs.getD k 0 = ((s[k]).toNat : Int)
        · rw [he] at hcell
          have HE : Hid (zs.getD k 0 = ((s[k]).toNat : Int)) := he
          clear he
          go_wp2
          go_round
          case rel => exact ⟨k + 1, by omega, by go_num, fun j hj => by
            by_cases hjk : j = k
            · subst hjk; rw [HE.out, HB.out]
            · exact H.out j (by omega)⟩
          case measure => simp [intOf]; omega
        · have ht : (zs[k]?.getD 0 != ((s[k]).toNat : Int)) = true := by simpa using he
          have HM : Hid (mark s zs = 2) := mark_diff hks he
          clear he
          go_wp2
          go_ret
          exact ⟨ret_int HM.out.symm, rfl⟩
      · go_wp2
        go_ret
        exact ⟨ret_int (mark_all (by rw [HZ.out]; omega) (fun j hj => H.out j (by rw [HZ.out] at hj; omega))).symm, rfl⟩
  · have hl' : ((n : Int) != (s.size : Int)) = true := by simp; omega
    go_enter Try.func28, Try.ntmps28
    go_wp2
    go_ret
    exact ⟨ret_int (mark_len (by omega)).symm, rfl⟩

theorem mark15_nil (s : ByteArray) (w : World) :
    Calls Try.prog 15 #[.string s, .slice none 0 0] w fun e w' => e = .returned (.int .u64 0) ∧ w' = w := by
  go_enter Try.func15, Try.ntmps15
  go_wp2_with (go_at_call 28; refine (mark28_nil _ _).mono ?_; rintro e w' ⟨rfl, rfl⟩)
  go_ret
  exact ⟨rfl, rfl⟩

theorem mark15 (s : ByteArray) (b off n c : Nat) (zs : List Int) (w : World) (hs : s.size ≤ maxLen) (hn : n ≤ maxLen) (hz : zs.length = n)
    (hc : ∀ i, i < n → w.cell? ⟨b, off + i, none⟩ = some (.int .i64 (zs.getD i 0))) :
    Calls Try.prog 15 #[.string s, .slice (some ⟨b, off, none⟩) n c] w fun e w' => e = .returned (.int .u64 (mark s zs)) ∧ w' = w := by
  have h := mark28 s b off n c zs w hs hn hz hc
  generalize mark s zs = m at h
  have H : Hid (Calls Try.prog 28 #[.string s, .slice (some ⟨b, off, none⟩) n c] w fun e w' => e = .returned (.int .u64 m) ∧ w' = w) := h
  clear h hc hz
  go_enter Try.func15, Try.ntmps15
  go_wp2_with fail
  refine H.out.mono ?_
  rintro e w' ⟨rfl, rfl⟩
  go_wp2
  go_ret
  exact ⟨rfl, rfl⟩

end Go.Proofs.Qxb6617335a.Bm
