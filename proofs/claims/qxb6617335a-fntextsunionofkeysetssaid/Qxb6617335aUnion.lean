import Derived.Test.Qxb6617335aTexts
namespace Go.Proofs.Qxb6617335a.Union
open Go.RowKit Tx
set_option linter.unusedVariables false

theorem parts (k1 k2 : Int) (w1 : (Lit.int .u8 k1).wf = true) (w2 : (Lit.int .u8 k2).wf = true) (h1 : (k1 == 0) = false) (h2 : (k2 == 0) = false) :
    c1 k1 = (bits .and .u8 k1 1 != 0) ∧ c2 k1 = (bits .and .u8 k1 2 != 0) ∧ c1 (bits .or .u8 k1 k2) = (c1 k1 || c1 k2) ∧ c2 (bits .or .u8 k1 k2) = (c2 k1 || c2 k2) := by
  obtain ⟨a, rfl, ha⟩ := nat_of_u8 w1
  obtain ⟨b, rfl, hb⟩ := nat_of_u8 w2
  obtain ⟨c, hc, hc1, hc2, hc3, hc4⟩ := or_parts a b ha hb
  rw [hc]
  simp only [c1, c2, and1 a ha, and2 a ha, and1 b hb, and2 b hb, and1 c hc1, and2 c hc1]
  have ha0 : a ≠ 0 := by intro e; subst e; simp at h1
  have hb0 : b ≠ 0 := by intro e; subst e; simp at h2
  have hc0 : c ≠ 0 := by intro e; exact ha0 (hc2.1 e).1
  have e1 : (c % 2 = 0) ↔ (a % 2 = 0 ∧ b % 2 = 0) := hc3
  have e2 : (c / 2 % 2 = 0) ↔ (a / 2 % 2 = 0 ∧ b / 2 % 2 = 0) := hc4
  have z : ∀ n : Nat, n ≠ 0 → ((n : Int) == 0) = false ∧ ((n : Int) != 0) = true := by
    intro n hn; constructor <;> simp [hn]
  rw [(z a ha0).1, (z a ha0).2, (z b hb0).1, (z b hb0).2, (z c hc0).1, (z c hc0).2]
  have t : ∀ n : Nat, (((n % 2 : Nat) : Int) != 0) = decide (n % 2 ≠ 0) := by
    intro n; rw [Bool.eq_iff_iff]; simp; omega
  have t2 : ∀ n : Nat, (((n / 2 % 2 * 2 : Nat) : Int) != 0) = decide (n / 2 % 2 ≠ 0) := by
    intro n; rw [Bool.eq_iff_iff]; simp; omega
  rw [t a, t b, t c, t2 a, t2 b, t2 c]
  refine ⟨by simp, by simp, ?_, ?_⟩
  · rw [Bool.eq_iff_iff]; simp; omega
  · rw [Bool.eq_iff_iff]; simp; omega

set_option maxHeartbeats 1000000 in
theorem walk_out (k1 k2 : Int) (s : ByteArray) (w : World) (hs : s.size ≤ maxLen) (ho : 1048576 < s.size ∨ k1 = 0 ∨ k2 = 0) :
    Calls Try.prog 8 #[.int .u8 k1, .int .u8 k2, .string s] w fun e w' => e = .returned (.bool true) ∧ Below w.heap.size w w' := by
  have H20 : Hid (Calls Try.prog 20 #[.int .u8 k1, .int .u8 k2, .string s] w fun e w' => (∃ b, e = .returned (.bool b)) ∧ w' = w) := size20 k1 k2 s w hs
  unfold maxLen at hs
  go_enter Try.func8, Try.ntmps8
  go_wp2_with fail
  refine H20.out.mono ?_
  rintro e w' ⟨⟨b, rfl⟩, rfl⟩
  cases b
  · go_wp2
    go_ret
    exact ⟨rfl, Below.refl _ _⟩
  · by_cases h1 : 1048576 < s.size
    · go_wp2
      go_ret
      exact ⟨rfl, Below.refl _ _⟩
    · by_cases h2 : k1 = 0
      · have h2' : (k1 == 0) = true := by simp [h2]
        clear h2 ho
        go_wp2
        go_ret
        exact ⟨rfl, Below.refl _ _⟩
      · have h2' : (k1 == 0) = false := by simp [h2]
        have h3' : (k2 == 0) = true := by simp; omega
        clear h2 ho
        go_wp2
        go_ret
        exact ⟨rfl, Below.refl _ _⟩

set_option maxHeartbeats 2000000 in
theorem walk_in (k1 k2 : Int) (s : ByteArray) (w : World) (w1 : (Lit.int .u8 k1).wf = true) (w2 : (Lit.int .u8 k2).wf = true) (h1 : ¬ 1048576 < s.size) (h2 : (k1 == 0) = false) (h3 : (k2 == 0) = false) :
    Calls Try.prog 8 #[.int .u8 k1, .int .u8 k2, .string s] w fun e w' => e = .returned (.bool true) ∧ Below w.heap.size w w' := by
  have H20 : Hid (Calls Try.prog 20 #[.int .u8 k1, .int .u8 k2, .string s] w fun e w' => (∃ b, e = .returned (.bool b)) ∧ w' = w) := size20 k1 k2 s w (by unfold maxLen; omega)
  have HP : Hid (c1 k1 = (bits .and .u8 k1 1 != 0) ∧ c2 k1 = (bits .and .u8 k1 2 != 0) ∧ c1 (bits .or .u8 k1 k2) = (c1 k1 || c1 k2) ∧ c2 (bits .or .u8 k1 k2) = (c2 k1 || c2 k2)) := parts k1 k2 w1 w2 h2 h3
  clear w1 w2
  go_enter Try.func8, Try.ntmps8
  go_wp2_with fail
  refine H20.out.mono ?_
  rintro e w' ⟨⟨b, rfl⟩, rfl⟩
  cases b
  · go_wp2
    go_ret
    exact ⟨rfl, Below.refl _ _⟩
  · go_wp2_with fail
    refine (texts _ _ _).mono ?_
    rintro e v1 ⟨u1, u2, rfl, HU1, HU2, RU1, RU2, hb1⟩
    go_wp2_with fail
    refine (texts _ _ _).mono ?_
    rintro e v2 ⟨a1, a2, rfl, HA1, HA2, RA1, RA2, hb2⟩
    go_wp2_with fail
    refine (texts _ _ _).mono ?_
    rintro e v3 ⟨b1, b2, rfl, HB1, HB2, RB1, RB2, hb3⟩
    have ru1 : Hid (Reads u1 s v3) := (RU1.out.later hb2).later hb3
    have ru2 : Hid (Reads u2 s v3) := (RU2.out.later hb2).later hb3
    have ra1 : Hid (Reads a1 s v3) := RA1.out.later hb3
    have ra2 : Hid (Reads a2 s v3) := RA2.out.later hb3
    have hb : Hid (Below w'.heap.size w' v3) := (hb1.trans (hb2.mono hb1.size)).trans (hb3.mono (Nat.le_trans hb1.size hb2.size))
    clear RU1 RU2 RA1 RA2 hb1 hb2 hb3
    go_wp2_with fail
    refine (nil22 u1 s v3 ru1.out).mono ?_
    rintro e _ ⟨rfl, rfl⟩
    go_wp2_with fail
    refine (nil22 u2 s v3 ru2.out).mono ?_
    rintro e _ ⟨rfl, rfl⟩
    go_wp2_with fail
    refine (nil22 a1 s v3 ra1.out).mono ?_
    rintro e _ ⟨rfl, rfl⟩
    go_wp2_with fail
    refine (nil22 a2 s v3 ra2.out).mono ?_
    rintro e _ ⟨rfl, rfl⟩
    go_wp2_with fail
    refine (nil22 b1 s v3 RB1.out).mono ?_
    rintro e _ ⟨rfl, rfl⟩
    go_wp2_with fail
    refine (nil22 b2 s v3 RB2.out).mono ?_
    rintro e _ ⟨rfl, rfl⟩
    have hu1 : u1.isNone = (a1.isNone && b1.isNone) := by rw [HU1.out, HA1.out, HB1.out, HP.out.2.2.1]; simp
    have hu2 : u2.isNone = (a2.isNone && b2.isNone) := by rw [HU2.out, HA2.out, HB2.out, HP.out.2.2.2]; simp
    have ha1 : a1.isNone = !(bits .and .u8 k1 1 != 0) := by rw [HA1.out, HP.out.1]
    have ha2 : a2.isNone = !(bits .and .u8 k1 2 != 0) := by rw [HA2.out, HP.out.2.1]
    clear HU1 HA1 HB1 HU2 HA2 HB2 ru1 ru2 ra1 ra2 RB1 RB2 HP H20
    cases e1 : (bits .and .u8 k1 1 != 0) <;> cases e2 : (bits .and .u8 k1 2 != 0) <;> cases f1 : b1.isNone <;> cases f2 : b2.isNone
    all_goals
      rw [e1] at ha1
      rw [e2] at ha2
      rw [f1, ha1] at hu1
      rw [f2, ha2] at hu2
      simp only [Bool.not_true, Bool.not_false, Bool.and_true, Bool.and_false] at ha1 ha2 hu1 hu2
      go_wp2
      go_ret
      exact ⟨rfl, hb.out⟩

theorem walk_any (k1 k2 : Int) (s : ByteArray) (w : World) (w1 : (Lit.int .u8 k1).wf = true) (w2 : (Lit.int .u8 k2).wf = true) (hs : s.size ≤ maxLen) :
    Calls Try.prog 8 #[.int .u8 k1, .int .u8 k2, .string s] w fun e w' => e = .returned (.bool true) ∧ Below w.heap.size w w' := by
  by_cases ho : 1048576 < s.size ∨ k1 = 0 ∨ k2 = 0
  · exact walk_out k1 k2 s w hs ho
  · exact walk_in k1 k2 s w w1 w2 (by omega) (by simp; omega) (by simp; omega)
end Go.Proofs.Qxb6617335a.Union
