import Derived.Test.Qxb6617335aZz
import Derived.Test.Qxb6617335aModel
namespace Go.Proofs.Qxb6617335a.One
open Go.RowKit Own Pc
set_option linter.unusedVariables false

theorem size10 (s : ByteArray) (p : Int) (keep : Bool) (w : World) (hs : s.size ≤ maxLen) :
    Calls Try.prog 10 #[.string s, .int .i64 p, .bool keep] w fun e w' => (∃ b, e = .returned (.bool b)) ∧ w = w' := by
  unfold maxLen at hs
  go_enter Try.func10, Try.ntmps10
  go_wp2
  all_goals (go_ret; exact ⟨⟨_, rfl⟩, rfl⟩)

theorem len {s : ByteArray} {p : Nat} {keep : Bool} {text : ByteArray} {bs : Option (List Int)} {mark e2 : Nat} (h : Piece s p keep text bs mark e2) : ∀ zs, bs = some zs → zs.length ≤ s.size := by
  obtain ⟨e, hv, n, hn, hm, hle, ht, h⟩ := h
  intro zs hz
  rcases h with ⟨h1, h2, h3⟩ | ⟨h1, h2, h3, h4⟩ | ⟨h1, ce, c, ys, h2, h3, h4, h5, h6⟩
  · cases keep
    · rw [h3] at hz; cases hz
    · rw [h3] at hz
      simp only [if_true, Option.some.injEq] at hz
      rw [← hz, Bm.bv_length, ht, ByteArray.size_extract]
      omega
  · rw [h4] at hz; cases hz
  · cases keep
    · rw [h6] at hz; cases hz
    · rw [h6] at hz
      simp only [if_true, Option.some.injEq] at hz
      rw [← hz, h5.length]
      omega

set_option maxHeartbeats 400000 in
theorem walk_out (s : ByteArray) (p : Int) (keep : Bool) (w : World) (hs : s.size ≤ maxLen) (ho : 1048576 < s.size ∨ p < 0 ∨ (s.size : Int) < p) :
    Calls Try.prog 3 #[.string s, .int .i64 p, .bool keep] w fun e w' => e = .returned (.bool true) ∧ Below w.heap.size w w' := by
  have H10 : Hid (Calls Try.prog 10 #[.string s, .int .i64 p, .bool keep] w fun e w' => (∃ b, e = .returned (.bool b)) ∧ w = w') := size10 s p keep w hs
  unfold maxLen at hs
  go_enter Try.func3, Try.ntmps3
  go_wp2_with fail
  refine H10.out.mono ?_
  rintro e _ ⟨⟨b, rfl⟩, rfl⟩
  cases b
  · go_wp2
    go_ret
    exact ⟨rfl, Below.refl _ _⟩
  · by_cases h1 : 1048576 < s.size
    · go_wp2
      go_ret
      exact ⟨rfl, Below.refl _ _⟩
    · by_cases h2 : p < 0
      · go_wp2
        go_ret
        exact ⟨rfl, Below.refl _ _⟩
      · have h3 : (s.size : Int) < p := by omega
        go_wp2
        go_ret
        exact ⟨rfl, Below.refl _ _⟩

set_option maxHeartbeats 1000000 in
theorem walk_in (s : ByteArray) (p : Nat) (keep : Bool) (w : World) (hs : s.size ≤ 1048576) (hp : p ≤ s.size) :
    Calls Try.prog 3 #[.string s, .int .i64 p, .bool keep] w fun e w' => e = .returned (.bool true) ∧ Below w.heap.size w w' := by
  have H10 : Hid (Calls Try.prog 10 #[.string s, .int .i64 p, .bool keep] w fun e w' => (∃ b, e = .returned (.bool b)) ∧ w = w') := size10 s p keep w (by unfold maxLen; omega)
  go_enter Try.func3, Try.ntmps3
  go_wp2_with fail
  refine H10.out.mono ?_
  rintro e _ ⟨⟨b, rfl⟩, rfl⟩
  cases b
  · go_wp2
    go_ret
    exact ⟨rfl, Below.refl _ _⟩
  · go_wp2_with fail
    refine (model11 s p keep w hs hp).mono ?_
    rintro r w1 ⟨ok, text, a, n, mark, e2, rfl, hok, hb1⟩
    have HB1 : Hid (Below w.heap.size w w1) := hb1
    cases ok
    · clear hok hb1
      go_wp2
      go_ret
      exact ⟨rfl, HB1.out⟩
    · obtain ⟨bs, hP, hI⟩ := hok rfl
      have HP : Hid (Piece s p keep text bs mark e2) := hP
      have HI : Hid (Ints w1 (.slice a n n) bs) := hI
      clear hok hb1 hP hI
      go_wp2_with fail
      refine (zzpacked12 s p keep text bs mark e2 w1 hs HP.out).mono ?_
      rintro r w2 ⟨v, rfl, hI2, hb2⟩
      obtain ⟨a2, n2, hv⟩ := hI2.shape
      rw [hv]
      rw [hv] at hI2
      have HI2 : Hid (Ints w2 (.slice a2 n2 n2) bs) := hI2
      have HI1 : Hid (Ints w2 (.slice a n n) bs) := HI.out.later hb2
      have HB2 : Hid (Below w.heap.size w w2) := HB1.out.trans (hb2.mono HB1.out.size)
      clear hv hI2 hb2
      go_wp2_with fail
      refine (same13 _ _ bs w2 HI2.out HI1.out (fun zs hz => Nat.le_trans (len HP.out zs hz) hs)).mono ?_
      rintro r w3 ⟨rfl, nq, rfl⟩
      go_wp2
      go_ret
      exact ⟨rfl, below_drewN HB2.out nq⟩

theorem walk_any (s : ByteArray) (p : Int) (keep : Bool) (w : World) (hs : s.size ≤ maxLen) :
    Calls Try.prog 3 #[.string s, .int .i64 p, .bool keep] w fun e w' => e = .returned (.bool true) ∧ Below w.heap.size w w' := by
  by_cases ho : 1048576 < s.size ∨ p < 0 ∨ (s.size : Int) < p
  · exact walk_out s p keep w hs ho
  · obtain ⟨q, rfl⟩ := Int.eq_ofNat_of_zero_le (show 0 ≤ p by omega)
    exact walk_in s q keep w (by omega) (by omega)
end Go.Proofs.Qxb6617335a.One
