import Derived.Test.Qxb6617335aOne
namespace Go.Proofs.Qxb6617335a.Onl
open Go.RowKit Own Pc
set_option linter.unusedVariables false

theorem size16 (s : ByteArray) (p : Int) (keep : Bool) (t : ByteArray) (w : World) (hs : s.size ≤ maxLen) (ht : t.size ≤ maxLen) :
    Calls Try.prog 16 #[.string s, .int .i64 p, .bool keep, .string t] w fun e w' => (∃ b, e = .returned (.bool b)) ∧ w = w' := by
  unfold maxLen at hs ht
  go_enter Try.func16, Try.ntmps16
  go_wp2
  all_goals (go_ret; exact ⟨⟨_, rfl⟩, rfl⟩)

set_option maxHeartbeats 400000 in
theorem walk_out (s : ByteArray) (p : Int) (keep : Bool) (t : ByteArray) (w : World) (hs : s.size ≤ maxLen) (ht : t.size ≤ maxLen) (ho : 524288 < s.size ∨ 524288 < t.size ∨ p < 0 ∨ (s.size : Int) < p) :
    Calls Try.prog 5 #[.string s, .int .i64 p, .bool keep, .string t] w fun e w' => e = .returned (.bool true) ∧ Below w.heap.size w w' := by
  have H16 : Hid (Calls Try.prog 16 #[.string s, .int .i64 p, .bool keep, .string t] w fun e w' => (∃ b, e = .returned (.bool b)) ∧ w = w') := size16 s p keep t w hs ht
  unfold maxLen at hs ht
  go_enter Try.func5, Try.ntmps5
  go_wp2_with fail
  refine H16.out.mono ?_
  rintro e _ ⟨⟨b, rfl⟩, rfl⟩
  cases b
  · go_wp2
    go_ret
    exact ⟨rfl, Below.refl _ _⟩
  · by_cases h1 : 524288 < s.size
    · go_wp2
      go_ret
      exact ⟨rfl, Below.refl _ _⟩
    · by_cases h1b : 524288 < t.size
      · go_wp2
        go_ret
        exact ⟨rfl, Below.refl _ _⟩
      · by_cases h2 : p < 0
        · go_wp2
          go_ret
          exact ⟨rfl, Below.refl _ _⟩
        · have h3 : (s.size : Int) < p := by omega
          go_wp2
          go_ret
          exact ⟨rfl, Below.refl _ _⟩

theorem within {s : ByteArray} {p : Nat} {keep : Bool} {text : ByteArray} {bs : Option (List Int)} {mark e2 : Nat} (h : Piece s p keep text bs mark e2) : p ≤ e2 ∧ e2 ≤ s.size := by
  obtain ⟨e, hv, n, hn, hm, hle, ht, h⟩ := h
  have hpe := hv.1
  rcases h with ⟨h1, h2, _⟩ | ⟨h1, h2, h3, _⟩ | ⟨h1, ce, c, zs, h2, h3, h4, h5, _⟩
  · omega
  · omega
  · have := h2.1
    have := h5.far
    have := h5.le h2.2.1
    omega

set_option maxHeartbeats 1000000 in
theorem walk_in (s : ByteArray) (p : Nat) (keep : Bool) (t : ByteArray) (w : World) (hs : s.size ≤ 524288) (ht : t.size ≤ 524288) (hp : p ≤ s.size) :
    Calls Try.prog 5 #[.string s, .int .i64 p, .bool keep, .string t] w fun e w' => e = .returned (.bool true) ∧ Below w.heap.size w w' := by
  have H16 : Hid (Calls Try.prog 16 #[.string s, .int .i64 p, .bool keep, .string t] w fun e w' => (∃ b, e = .returned (.bool b)) ∧ w = w') := size16 s p keep t w (by unfold maxLen; omega) (by unfold maxLen; omega)
  go_enter Try.func5, Try.ntmps5
  go_wp2_with fail
  refine H16.out.mono ?_
  rintro e _ ⟨⟨b, rfl⟩, rfl⟩
  cases b
  · go_wp2
    go_ret
    exact ⟨rfl, Below.refl _ _⟩
  · go_wp2_with fail
    refine (model11 s p keep w (by omega) hp).mono ?_
    rintro r w1 ⟨ok, text, a, n, mark, e2, rfl, hok, hb1⟩
    have HB1 : Hid (Below w.heap.size w w1) := hb1
    cases ok
    · clear hok hb1
      go_wp2
      go_ret
      exact ⟨rfl, HB1.out⟩
    · obtain ⟨bs, hP, hI⟩ := hok rfl
      obtain ⟨he1, he2⟩ := within hP
      have HP : Hid (Piece s p keep text bs mark e2) := hP
      have HP2 : Hid (Piece (s.extract p e2 ++ t) 0 keep text bs mark (e2 - p)) := hP.cut (alike_cat s t p e2 he1 he2)
      have hsu : (s.extract p e2 ++ t).size ≤ 1048576 := by rw [ByteArray.size_append, ByteArray.size_extract]; omega
      clear hok hb1 hP hI
      go_wp2_with fail
      refine (zzpacked12 s p keep text bs mark e2 w1 (by omega) HP.out).mono ?_
      rintro r w2 ⟨v, rfl, hI2, hb2⟩
      obtain ⟨a2, n2, hv⟩ := hI2.shape
      rw [hv]
      rw [hv] at hI2
      have HI2 : Hid (Ints w2 (.slice a2 n2 n2) bs) := hI2
      have HB2 : Hid (Below w.heap.size w w2) := HB1.out.trans (hb2.mono HB1.out.size)
      clear hv hI2 hb2
      go_wp2_with fail
      have H12 := zzpacked12 (s.extract p e2 ++ t) 0 keep text bs mark (e2 - p) w2 hsu HP2.out
      obtain ⟨q, hq⟩ : ∃ q, q = e2 - p := ⟨_, rfl⟩
      rw [← hq, show (((0 : Nat) : Int)) = 0 from rfl] at H12
      refine H12.mono ?_
      clear H12
      rintro r w3 ⟨v, rfl, hI3, hb3⟩
      have hq' : (e2 : Int) - (p : Int) = (q : Int) := by omega
      obtain ⟨a3, n3, hv⟩ := hI3.shape
      rw [hv]
      rw [hv] at hI3
      have HI3 : Hid (Ints w3 (.slice a3 n3 n3) bs) := hI3
      have HI1 : Hid (Ints w3 (.slice a2 n2 n2) bs) := HI2.out.later hb3
      have HB3 : Hid (Below w.heap.size w w3) := HB2.out.trans (hb3.mono HB2.out.size)
      clear hv hI3 hb3 hq
      go_wp2_with fail
      refine (same13 _ _ bs w3 HI1.out HI3.out (fun zs hz => Nat.le_trans (One.len HP.out zs hz) (by omega))).mono ?_
      rintro r w4 ⟨rfl, nq, rfl⟩
      go_wp2
      go_ret
      exact ⟨rfl, below_drewN HB3.out nq⟩

theorem walk_any (s : ByteArray) (p : Int) (keep : Bool) (t : ByteArray) (w : World) (hs : s.size ≤ maxLen) (ht : t.size ≤ maxLen) :
    Calls Try.prog 5 #[.string s, .int .i64 p, .bool keep, .string t] w fun e w' => e = .returned (.bool true) ∧ Below w.heap.size w w' := by
  by_cases ho : 524288 < s.size ∨ 524288 < t.size ∨ p < 0 ∨ (s.size : Int) < p
  · exact walk_out s p keep t w hs ht ho
  · obtain ⟨q, rfl⟩ := Int.eq_ofNat_of_zero_le (show 0 ≤ p by omega)
    exact walk_in s q keep t w (by omega) (by omega) (by omega)
end Go.Proofs.Qxb6617335a.Onl
