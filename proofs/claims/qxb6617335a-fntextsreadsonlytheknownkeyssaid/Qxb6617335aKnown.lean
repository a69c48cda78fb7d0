import Derived.Test.Qxb6617335aTexts
namespace Go.Proofs.Qxb6617335a.Known
open Go.RowKit Tx
set_option linter.unusedVariables false

/-- what the set of k's known keys is, where k is not empty -/
theorem parts (k : Int) (w1 : (Lit.int .u8 k).wf = true) (h1 : (k == 0) = false) :
    c1 k = (bits .and .u8 k 1 != 0) ∧ c2 k = (bits .and .u8 k 2 != 0) ∧
    ((bits .and .u8 k 3 == 0) = true → c1 k = false ∧ c2 k = false) ∧
    ((bits .and .u8 k 3 == 0) = false → c1 (bits .and .u8 k 3) = c1 k ∧ c2 (bits .and .u8 k 3) = c2 k) := by
  obtain ⟨a, rfl, ha⟩ := nat_of_u8 w1
  have ha0 : a ≠ 0 := by intro e; subst e; simp at h1
  have hb : a % 4 < 256 := by omega
  simp only [c1, c2, and3 a ha, and1 a ha, and2 a ha, and1 (a % 4) hb, and2 (a % 4) hb]
  have e1 : a % 4 % 2 = a % 2 := by omega
  have e2 : a % 4 / 2 % 2 = a / 2 % 2 := by omega
  rw [e1, e2]
  have z : ∀ n : Nat, n ≠ 0 → ((n : Int) == 0) = false ∧ ((n : Int) != 0) = true := by
    intro n hn; constructor <;> simp [hn]
  rw [(z a ha0).1, (z a ha0).2]
  refine ⟨by simp, by simp, ?_, ?_⟩
  · intro h
    have h4 : a % 4 = 0 := by
      have h' : ((a % 4 : Nat) : Int) = 0 := by simpa using h
      omega
    have h5 : a % 2 = 0 := by omega
    have h6 : a / 2 % 2 = 0 := by omega
    rw [h5, h6]
    exact ⟨by decide, by decide⟩
  · intro h
    rw [h]
    have h7 : (((a % 4 : Nat) : Int) != 0) = true := by rw [bne, h]; rfl
    rw [h7]
    exact ⟨rfl, rfl⟩

set_option maxHeartbeats 1000000 in
theorem walk_out (k : Int) (s : ByteArray) (w : World) (hs : s.size ≤ maxLen) (h1 : 1048576 < s.size) :
    Calls Try.prog 9 #[.int .u8 k, .string s] w fun e w' => e = .returned (.bool true) ∧ Below w.heap.size w w' := by
  have H20 : Hid (Calls Try.prog 23 #[.int .u8 k, .string s] w fun e w' => (∃ b, e = .returned (.bool b)) ∧ w' = w) := size23 k s w hs
  unfold maxLen at hs
  go_enter Try.func9, Try.ntmps9
  go_wp2_with fail
  refine H20.out.mono ?_
  rintro e w' ⟨⟨b, rfl⟩, rfl⟩
  cases b
  all_goals
    go_wp2
    go_ret
    exact ⟨rfl, Below.refl _ _⟩

set_option maxHeartbeats 2000000 in
theorem walk_zero (s : ByteArray) (w : World) (h1 : ¬ 1048576 < s.size) :
    Calls Try.prog 9 #[.int .u8 0, .string s] w fun e w' => e = .returned (.bool true) ∧ Below w.heap.size w w' := by
  have H20 : Hid (Calls Try.prog 23 #[.int .u8 0, .string s] w fun e w' => (∃ b, e = .returned (.bool b)) ∧ w' = w) := size23 0 s w (by unfold maxLen; omega)
  have e03 : bits .and .u8 0 3 = 0 := by decide
  have G : Hid (c1 0 = true ∧ c2 0 = false ∧ c1 1 = true ∧ c2 1 = false) := by unfold Hid; decide
  go_enter Try.func9, Try.ntmps9
  go_wp2_with fail
  refine H20.out.mono ?_
  rintro e w' ⟨⟨b, rfl⟩, rfl⟩
  cases b
  · go_wp2
    go_ret
    exact ⟨rfl, Below.refl _ _⟩
  · go_wp2_with fail
    refine (texts _ _ _).mono ?_
    rintro e v1 ⟨a1, a2, rfl, HA1, HA2, RA1, RA2, hb1⟩
    have ha1 : a1.isNone = false := by rw [HA1.out, G.out.1]; rfl
    have ha2 : a2.isNone = true := by rw [HA2.out, G.out.2.1]; rfl
    go_wp2_with fail
    refine (nil22 a1 s v1 RA1.out).mono ?_
    rintro e _ ⟨rfl, rfl⟩
    go_wp2_with fail
    refine (nil22 a2 s v1 RA2.out).mono ?_
    rintro e _ ⟨rfl, rfl⟩
    go_wp2_with fail
    refine (texts _ _ _).mono ?_
    rintro e v2 ⟨b1, b2, rfl, HB1, HB2, RB1, RB2, hb2⟩
    have hbb : Hid (Below w'.heap.size w' v2) := hb1.trans (hb2.mono hb1.size)
    have hb1' : b1.isNone = false := by rw [HB1.out, G.out.2.2.1]; rfl
    have hb2' : b2.isNone = true := by rw [HB2.out, G.out.2.2.2]; rfl
    go_wp2_with fail
    refine (nil22 b1 s v2 RB1.out).mono ?_
    rintro e _ ⟨rfl, rfl⟩
    go_wp2
    go_ret
    exact ⟨rfl, hbb.out⟩

set_option maxHeartbeats 2000000 in
theorem walk_in (k : Int) (s : ByteArray) (w : World) (w1 : (Lit.int .u8 k).wf = true) (h1 : ¬ 1048576 < s.size) (h2 : (k == 0) = false) :
    Calls Try.prog 9 #[.int .u8 k, .string s] w fun e w' => e = .returned (.bool true) ∧ Below w.heap.size w w' := by
  have H20 : Hid (Calls Try.prog 23 #[.int .u8 k, .string s] w fun e w' => (∃ b, e = .returned (.bool b)) ∧ w' = w) := size23 k s w (by unfold maxLen; omega)
  obtain ⟨P1, P2, P3, P4⟩ := parts k w1 h2
  have HP1 : Hid (c1 k = (bits .and .u8 k 1 != 0)) := P1
  have HP2 : Hid (c2 k = (bits .and .u8 k 2 != 0)) := P2
  have HP3 : Hid ((bits .and .u8 k 3 == 0) = true → c1 k = false ∧ c2 k = false) := P3
  have HP4 : Hid ((bits .and .u8 k 3 == 0) = false → c1 (bits .and .u8 k 3) = c1 k ∧ c2 (bits .and .u8 k 3) = c2 k) := P4
  clear w1 P1 P2 P3 P4
  go_enter Try.func9, Try.ntmps9
  go_wp2_with fail
  refine H20.out.mono ?_
  rintro e w' ⟨⟨b, rfl⟩, rfl⟩
  cases b
  · go_wp2
    go_ret
    exact ⟨rfl, Below.refl _ _⟩
  · go_wp2_with fail
    refine (texts _ _ _).mono ?_
    rintro e v1 ⟨a1, a2, rfl, HA1, HA2, RA1, RA2, hb1⟩
    have hb1' : Hid (Below w'.heap.size w' v1) := hb1
    go_wp2_with fail
    refine (nil22 a1 s v1 RA1.out).mono ?_
    rintro e _ ⟨rfl, rfl⟩
    go_wp2_with fail
    refine (nil22 a2 s v1 RA2.out).mono ?_
    rintro e _ ⟨rfl, rfl⟩
    by_cases h3 : (bits .and .u8 k 3 == 0) = true
    · have ha1 : a1.isNone = true := by rw [HA1.out, (HP3.out h3).1]; rfl
      have ha2 : a2.isNone = true := by rw [HA2.out, (HP3.out h3).2]; rfl
      clear hb1
      go_wp2
      go_ret
      exact ⟨rfl, hb1'.out⟩
    · have h3' : (bits .and .u8 k 3 == 0) = false := by simpa using h3
      clear h3
      go_wp2_with fail
      refine (texts _ _ _).mono ?_
      rintro e v2 ⟨b1, b2, rfl, HB1, HB2, RB1, RB2, hb2⟩
      have hbb : Hid (Below w'.heap.size w' v2) := hb1.trans (hb2.mono hb1.size)
      clear hb1 hb2
      go_wp2_with fail
      refine (nil22 b1 s v2 RB1.out).mono ?_
      rintro e _ ⟨rfl, rfl⟩
      go_wp2_with fail
      refine (nil22 b2 s v2 RB2.out).mono ?_
      rintro e _ ⟨rfl, rfl⟩
      have hbq1 : b1.isNone = a1.isNone := by rw [HB1.out, HA1.out, (HP4.out h3').1]
      have hbq2 : b2.isNone = a2.isNone := by rw [HB2.out, HA2.out, (HP4.out h3').2]
      have ha1 : a1.isNone = !(bits .and .u8 k 1 != 0) := by rw [HA1.out, HP1.out]
      have ha2 : a2.isNone = !(bits .and .u8 k 2 != 0) := by rw [HA2.out, HP2.out]
      clear HA1 HA2 HB1 HB2 RA1 RA2 RB1 RB2 HP1 HP2 HP3 HP4 H20
      cases e1 : (bits .and .u8 k 1 != 0) <;> cases e2 : (bits .and .u8 k 2 != 0)
      all_goals
        rw [e1] at ha1
        rw [e2] at ha2
        rw [ha1] at hbq1
        rw [ha2] at hbq2
        simp only [Bool.not_true, Bool.not_false] at ha1 ha2 hbq1 hbq2
        go_wp2
        go_ret
        exact ⟨rfl, hbb.out⟩

theorem walk_any (k : Int) (s : ByteArray) (w : World) (w1 : (Lit.int .u8 k).wf = true) (hs : s.size ≤ maxLen) :
    Calls Try.prog 9 #[.int .u8 k, .string s] w fun e w' => e = .returned (.bool true) ∧ Below w.heap.size w w' := by
  by_cases ho : 1048576 < s.size
  · exact walk_out k s w hs ho
  · by_cases h0 : k = 0
    · subst h0; exact walk_zero s w ho
    · exact walk_in k s w w1 ho (by simp [h0])
end Go.Proofs.Qxb6617335a.Known
