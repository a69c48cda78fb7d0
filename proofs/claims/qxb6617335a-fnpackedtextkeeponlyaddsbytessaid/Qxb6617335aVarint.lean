import Derived.Test.Qxb6617335aRows
import Derived.Test.Qxb6617335aPiecePlain
import Derived.Test.Qxb6617335aBits
import Derived.WalkKit
import Derived.ProofKit
import Derived.WalkSpells
import Derived.WalkLawsBesides
import Derived.BigQuiet
import Derived.Deep.QuietTactic
namespace Go.Proofs.Qxb6617335a.Pc
open Go.RowKit
set_option linter.unusedVariables false

theorem ret_int {k : IntKind} {a b : Int} (h : a = b) : Ending.returned (.int k a) = .returned (.int k b) := by rw [h]

set_option maxHeartbeats 400000 in
/-- zzVarintEnd -/
theorem vend24 (s : ByteArray) (p : Nat) (w : World) (hs : s.size ≤ 1048576) (hp : p ≤ s.size) :
    Calls Try.prog 24 #[.string s, .int .i64 p] w fun e w' => (∃ r : Int, e = .returned (.int .i64 r) ∧ ((∃ q : Nat, r = (q : Int) ∧ VEnd s p q) ∨ r = -1)) ∧ w = w' := by
  go_enter Try.func24, Try.ntmps24
  go_wp2
  go_loop [5] (fun i => ∃ k : Nat, p ≤ k ∧ k ≤ s.size ∧ i = .int .i64 k ∧ Hid (∀ q, p ≤ q → q < k → 128 ≤ byteAt s q)) (fun i => s.size - (intOf i).toNat)
  case atStart => exact ⟨p, Nat.le_refl _, hp, rfl, fun q h1 h2 => absurd h1 (by omega)⟩
  case round =>
    obtain ⟨k, hk1, hk2, rfl, H⟩ := hrel
    by_cases hlt : k < s.size
    · have HB : Hid (byteAt s k = (s[k]).toNat) := byteAt_eq s k hlt
      by_cases hb : ((s[k]).toNat : Int) < 128
      · go_wp2
        go_ret
        exact ⟨⟨_, rfl, .inl ⟨k + 1, by omega, by omega, by omega, by rw [Nat.add_sub_cancel, HB.out]; omega, fun q h1 h2 => H.out q h1 (by omega)⟩⟩, rfl⟩
      · go_wp2
        go_round
        case rel => exact ⟨k + 1, by omega, by omega, by go_num, fun q h1 h2 => by
          by_cases hq : q = k
          · subst hq; rw [HB.out]; omega
          · exact H.out q h1 (by omega)⟩
        case measure => simp [intOf]; omega
    · go_wp2
      go_ret
      exact ⟨⟨_, rfl, .inr rfl⟩, rfl⟩

set_option maxHeartbeats 400000 in
/-- zzVarintValue -/
theorem vval25 (s : ByteArray) (p e : Nat) (w : World) (hs : s.size ≤ 1048576) (hp : p < e) (he : e ≤ s.size) :
    Calls Try.prog 25 #[.string s, .int .i64 p, .int .i64 e] w fun r w' => r = .returned (.int .u64 (vv s p (e - p) : Nat)) ∧ w = w' := by
  go_enter Try.func25, Try.ntmps25
  go_wp2
  go_loop [7, 8] (fun v i => ∃ k : Nat, p ≤ k ∧ k ≤ e ∧ i = .int .i64 ((k : Int) - 1) ∧ v = .int .u64 (vv s k (e - k) : Nat)) (fun _ i => (intOf i + 1).toNat)
  case atStart => exact ⟨e, by omega, Nat.le_refl _, rfl, by rw [Nat.sub_self]; rfl⟩
  case round =>
    obtain ⟨k, hk1, hk2, rfl, rfl⟩ := hrel
    by_cases hlt : p < k
    · have hv := vv_lt s k (e - k)
      have HV : Hid (vv s (k - 1) (e - (k - 1)) = (byteAt s (k - 1) % 128 + 128 * vv s k (e - k)) % 18446744073709551616) := by
        rw [show e - (k - 1) = (e - k) + 1 by omega]
        have := rfl (a := vv s (k - 1) (e - k + 1))
        simp only [vv, Hid]
        rw [show k - 1 + 1 = k by omega]
      generalize vv s k (e - k) = v at *
      obtain ⟨j, rfl⟩ : ∃ j, k = j + 1 := ⟨k - 1, by omega⟩
      have hj : j < s.size := by omega
      have HB : Hid (byteAt s j = (s[j]).toNat) := byteAt_eq s j hj
      go_wp2
      go_round
      case rel => exact ⟨j, by omega, by omega, rfl, by
        rw [or_step v (s[j]).toNat (s[j]).toNat_lt hv, ← HB.out]
        have := HV.out
        rw [Nat.add_sub_cancel] at this
        rw [this]⟩
      case measure => simp [intOf]
    · have hkp : k = p := by omega
      subst hkp
      go_wp2
      go_ret
      exact ⟨rfl, rfl⟩

theorem ofNat2 (u : Nat) (h : u < 18446744073709551616) : (0 : Int) ≤ (u : Int) ∧ (u : Int) ≤ 18446744073709551615 := by omega

set_option maxHeartbeats 400000 in
/-- zzZigZag -/
theorem zigzag26 (u : Nat) (w : World) (hu : u < 18446744073709551616) :
    Calls Try.prog 26 #[.int .u64 u] w fun r w' => r = .returned (.int .i64 (zz u)) ∧ w = w' := by
  by_cases h : u % 2 = 0
  · have HZ : Hid (zz u = (u : Int) / 2) := by simp only [Hid, zz, if_pos h]; omega
    go_enter Try.func26, Try.ntmps26
    go_wp2
    go_ret
    exact ⟨ret_int HZ.out.symm, rfl⟩
  · have HZ : Hid (zz u = -((u : Int) / 2) - 1) := by simp only [Hid, zz, if_neg h]; omega
    go_enter Try.func26, Try.ntmps26
    go_wp2
    go_ret
    exact ⟨ret_int HZ.out.symm, rfl⟩
end Go.Proofs.Qxb6617335a.Pc
