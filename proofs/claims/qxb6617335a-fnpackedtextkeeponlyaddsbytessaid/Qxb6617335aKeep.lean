import Derived.Test.Qxb6617335aOne
import Derived.Test.Qxb6617335aMark
namespace Go.Proofs.Qxb6617335a.Keep
open Go.RowKit Own Pc
set_option linter.unusedVariables false

theorem size14 (s : ByteArray) (p : Int) (w : World) (hs : s.size ≤ maxLen) :
    Calls Try.prog 14 #[.string s, .int .i64 p] w fun e w' => (∃ b, e = .returned (.bool b)) ∧ w = w' := by
  unfold maxLen at hs
  go_enter Try.func14, Try.ntmps14
  go_wp2
  all_goals (go_ret; exact ⟨⟨_, rfl⟩, rfl⟩)

set_option maxHeartbeats 400000 in
theorem walk_out (s : ByteArray) (p : Int) (w : World) (hs : s.size ≤ maxLen) (ho : 1048576 < s.size ∨ p < 0 ∨ (s.size : Int) < p) :
    Calls Try.prog 4 #[.string s, .int .i64 p] w fun e w' => e = .returned (.bool true) ∧ Below w.heap.size w w' := by
  have H14 : Hid (Calls Try.prog 14 #[.string s, .int .i64 p] w fun e w' => (∃ b, e = .returned (.bool b)) ∧ w = w') := size14 s p w hs
  unfold maxLen at hs
  go_enter Try.func4, Try.ntmps4
  go_wp2_with fail
  refine H14.out.mono ?_
  rintro e _ ⟨⟨b, rfl⟩, rfl⟩
  cases b
  · go_wp2
    go_ret
    exact ⟨rfl, Below.refl _ _⟩
  · by_cases h1 : 1048576 < s.size
    · go_wp2
      go_ret
      exact ⟨rfl, Below.refl _ _⟩
    · by_cases h2 : p < 0
      · go_wp2
        go_ret
        exact ⟨rfl, Below.refl _ _⟩
      · have h3 : (s.size : Int) < p := by omega
        go_wp2
        go_ret
        exact ⟨rfl, Below.refl _ _⟩

/-- what bytesMark says of the bytes that a reading with keep hands back -/
theorem judged {s : ByteArray} {p : Nat} {text : ByteArray} {bs : Option (List Int)} {mark e2 : Nat} (h : Piece s p true text bs mark e2) :
    text.size ≤ s.size ∧ ((mark = 1 ∧ ∃ zs, bs = some zs ∧ Bm.mark text zs = 1) ∨ (mark = 2 ∧ ∃ zs, bs = some zs) ∨ ((mark = 0 ∨ mark = 3) ∧ bs = none)) := by
  obtain ⟨e, hv, n, hn, hm, hle, rfl, h⟩ := h
  have hm4 : mark < 4 := by omega
  refine ⟨by rw [ByteArray.size_extract]; omega, ?_⟩
  rcases h with ⟨h1, h2, h3⟩ | ⟨h1, h2, h3, h4⟩ | ⟨h1, ce, c, ys, h2, h3, h4, h5, h6⟩
  · exact .inl ⟨h1, _, h3, by simp [Bm.mark, Bm.same]⟩
  · exact .inr (.inr ⟨by omega, h4⟩)
  · exact .inr (.inl ⟨h1, _, h6⟩)

/-- ZZBytesMark at a slice that is a whole block -/
theorem mark_ints (text : ByteArray) (a : Option Addr) (n : Nat) (zs : List Int) (w : World) (ht : text.size ≤ 1048576) (hz : zs.length ≤ 1048576) (h : Ints w (.slice a n n) (some zs)) :
    Calls Try.prog 15 #[.string text, .slice a n n] w fun e w' => e = .returned (.int .u64 (Bm.mark text zs)) ∧ w' = w := by
  obtain ⟨g, h1, h2⟩ := h
  injection h1 with h1 h3 _
  subst h1 h3
  refine Bm.mark15 text g 0 zs.length zs.length zs w (by unfold maxLen; omega) (by unfold maxLen; omega) rfl ?_
  intro i hi
  rw [Nat.zero_add, h2.cell i (by simpa using hi)]
  simp [hi]

set_option maxHeartbeats 2000000 in
theorem walk_in (s : ByteArray) (p : Nat) (w : World) (hs : s.size ≤ 1048576) (hp : p ≤ s.size) :
    Calls Try.prog 4 #[.string s, .int .i64 p] w fun e w' => e = .returned (.bool true) ∧ Below w.heap.size w w' := by
  have H14 : Hid (Calls Try.prog 14 #[.string s, .int .i64 p] w fun e w' => (∃ b, e = .returned (.bool b)) ∧ w = w') := size14 s p w (by unfold maxLen; omega)
  have q' : ∀ (w : World) (a : Option Addr) (n c n' c' : Nat), (binOp .neq 23 (.slice a n c) (.slice none n' c')).run Try.prog w = .ok (.bool (!a.isNone)) w := fun w a n c n' c' => run_neq_slice_nil_any w _ _ a n c n' c' Try.underlying23
  go_enter Try.func4, Try.ntmps4
  go_wp2_with fail
  refine H14.out.mono ?_
  rintro e _ ⟨⟨b, rfl⟩, rfl⟩
  cases b
  · go_wp2
    go_ret
    exact ⟨rfl, Below.refl _ _⟩
  · go_wp2_with fail
    refine (model11 s p true w hs hp).mono ?_
    rintro r w1 ⟨ok, text, a, n, mark, e2, rfl, hok, hb1⟩
    have HB1 : Hid (Below w.heap.size w w1) := hb1
    cases ok
    · clear hok hb1
      go_wp2
      go_ret
      exact ⟨rfl, HB1.out⟩
    · obtain ⟨bs, hP, hI⟩ := hok rfl
      have HP : Hid (Piece s p true text bs mark e2) := hP
      clear hok hb1 hP hI
      go_wp2_with fail
      refine (zzpacked12 s p true text bs mark e2 w1 hs HP.out).mono ?_
      rintro r w2 ⟨v, rfl, hI2, hb2⟩
      obtain ⟨a2, n2, hv⟩ := hI2.shape
      rw [hv]
      rw [hv] at hI2
      have HI2 : Hid (Ints w2 (.slice a2 n2 n2) bs) := hI2
      have HB2 : Hid (Below w.heap.size w w2) := HB1.out.trans (hb2.mono HB1.out.size)
      clear hv hI2 hb2
      go_wp2_with fail
      refine (zzpacked12 s p false text none mark e2 w2 hs HP.out.drop).mono ?_
      rintro r w3 ⟨v, rfl, hI3, hb3⟩
      have hv : v = .slice none 0 0 := hI3
      rw [hv]
      have HI3 : Hid (Ints w3 (.slice a2 n2 n2) bs) := HI2.out.later hb3
      have HB3 : Hid (Below w.heap.size w w3) := HB2.out.trans (hb3.mono HB2.out.size)
      clear hv hI3 hb3
      have HT : Hid (text.size ≤ 1048576) := Nat.le_trans (judged HP.out).1 hs
      have HZ : Hid (∀ zs, bs = some zs → zs.length ≤ 1048576) := fun zs hz => Nat.le_trans (One.len HP.out zs hz) hs
      rcases (judged HP.out).2 with ⟨rfl, zs, rfl, hm⟩ | ⟨rfl, zs, rfl⟩ | ⟨hm, rfl⟩
      · have HM : Hid (Bm.mark text zs = 1) := hm
        clear hm
        go_wp2_with fail
        refine (mark_ints text a2 n2 zs w3 HT.out (HZ.out zs rfl) HI3.out).mono ?_
        rintro r _ ⟨rfl, rfl⟩
        rw [HM.out]
        go_wp2
        go_ret
        exact ⟨rfl, HB3.out⟩
      · go_wp2_with fail
        refine (mark_ints text a2 n2 zs w3 HT.out (HZ.out zs rfl) HI3.out).mono ?_
        rintro r _ ⟨rfl, rfl⟩
        rcases Bm.mark_cases text zs with hm | hm
        all_goals
          rw [hm]
          clear hm
          go_wp2
          go_ret
          exact ⟨rfl, HB3.out⟩
      · have hv2 : (Value.slice a2 n2 n2) = .slice none 0 0 := HI3.out
        injection hv2 with hv2 hv3 _
        subst hv2 hv3
        rcases hm with rfl | rfl
        all_goals
          go_wp2_with fail
          refine (Bm.mark15_nil text w3).mono ?_
          rintro r _ ⟨rfl, rfl⟩
          go_wp2
          go_ret
          exact ⟨rfl, HB3.out⟩

theorem walk_any (s : ByteArray) (p : Int) (w : World) (hs : s.size ≤ maxLen) :
    Calls Try.prog 4 #[.string s, .int .i64 p] w fun e w' => e = .returned (.bool true) ∧ Below w.heap.size w w' := by
  by_cases ho : 1048576 < s.size ∨ p < 0 ∨ (s.size : Int) < p
  · exact walk_out s p w hs ho
  · obtain ⟨q, rfl⟩ := Int.eq_ofNat_of_zero_le (show 0 ≤ p by omega)
    exact walk_in s q w (by omega) (by omega)
end Go.Proofs.Qxb6617335a.Keep
