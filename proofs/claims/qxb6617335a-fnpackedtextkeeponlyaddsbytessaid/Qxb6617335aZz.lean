import Derived.Test.Qxb6617335aPacked
namespace Go.Proofs.Qxb6617335a.Pc
open Go.RowKit Own
set_option linter.unusedVariables false

/-- (*reader).packedText at a whole piece -/
theorem packed27 (s : ByteArray) (p R : Nat) (keep : Bool) (text : ByteArray) (bs : Option (List Int)) (mark e2 : Nat) (w : World) (hs : s.size ≤ 1048576) (hP : Piece s p keep text bs mark e2) (hR : Rd w R s p) :
    Calls Try.prog 27 #[.pointer (some ⟨R, 0, none⟩), .bool keep] w fun r w' => ∃ v, r = .returned (.tuple #[.string text, v, .int .u64 mark]) ∧ Ints w' v bs ∧ Rd w' R s e2 ∧ Below R w w' := by
  obtain ⟨e, hv, n, hn, hm, hle, rfl, h⟩ := hP
  have hm4 : mark < 4 := by omega
  rcases h with ⟨rfl, rfl, rfl⟩ | ⟨h1, h2, rfl, rfl⟩ | ⟨rfl, ce, c, zs, h2, h3, h4, h5, rfl⟩
  · cases keep
    · refine (packed_none s p e n 1 R false w hs hv hn hm hle hR (.inr (.inr ⟨rfl, rfl⟩))).mono ?_
      rintro r w' ⟨rfl, hr, ho⟩
      exact ⟨_, rfl, rfl, hr, ho.below (Nat.le_refl _)⟩
    · exact packed_text s p e n R w hs hv hn hm hle hR
  · refine (packed_none s p e n mark R keep w hs hv hn hm hle hR (by omega)).mono ?_
    rintro r w' ⟨rfl, hr, ho⟩
    exact ⟨_, rfl, rfl, hr, ho.below (Nat.le_refl _)⟩
  · cases keep
    · refine (packed_skip s p e n ce c e2 R zs w hs hv hn hm hle h2 h3 h4 h5 hR).mono ?_
      rintro r w' ⟨rfl, hr, ho⟩
      exact ⟨_, rfl, rfl, hr, ho.below (Nat.le_refl _)⟩
    · exact packed_list s p e n ce c e2 R zs w hs hv hn hm hle h2 h3 h4 h5 hR

theorem Ints.shape {w : World} {v : Value} {bs : Option (List Int)} (h : Ints w v bs) : ∃ a n, v = .slice a n n := by
  cases bs with
  | none => exact ⟨none, 0, h⟩
  | some zs => obtain ⟨g, h1, _⟩ := h; exact ⟨_, _, h1⟩

set_option maxHeartbeats 1000000 in
/-- ZZPackedText at a whole piece -/
theorem zzpacked12 (s : ByteArray) (p : Nat) (keep : Bool) (text : ByteArray) (bs : Option (List Int)) (mark e2 : Nat) (w : World) (hs : s.size ≤ 1048576) (hP : Piece s p keep text bs mark e2) :
    Calls Try.prog 12 #[.string s, .int .i64 p, .bool keep] w fun r w' => ∃ v, r = .returned (.tuple #[.string text, v, .int .u64 mark, .int .i64 e2]) ∧ Ints w' v bs ∧ Below w.heap.size w w' := by
  have hR : Rd (w.alloc (.cells #[.string s, .int .i64 p] 48)) w.heap.size s p := heap_alloc_new w _
  have H27 : Hid (Calls Try.prog 27 #[.pointer (some ⟨w.heap.size, 0, none⟩), .bool keep] (w.alloc (.cells #[.string s, .int .i64 p] 48)) fun r w' => ∃ v, r = .returned (.tuple #[.string text, v, .int .u64 mark]) ∧ Ints w' v bs ∧ Rd w' w.heap.size s e2 ∧ Below w.heap.size (w.alloc (.cells #[.string s, .int .i64 p] 48)) w') :=
    packed27 s p w.heap.size keep text bs mark e2 _ hs hP hR
  clear hP hR
  go_enter Try.func12, Try.ntmps12
  go_wp2_with fail
  refine H27.out.mono ?_
  rintro r w1 ⟨v, rfl, hI, hr, hb⟩
  obtain ⟨a, n, hv⟩ := hI.shape
  rw [hv]
  rw [hv] at hI
  have HI : Hid (Ints w1 (.slice a n n) bs) := hI
  have HB : Hid (Below w.heap.size w w1) := ((Below.refl _ _).alloc (Nat.le_refl _) _).trans hb
  have hpos := hr.pos
  clear hI hb hr hv H27
  go_wp2
  exact bodyPost_ret (v := .tuple #[.string text, .slice a n n, .int .u64 mark, .int .i64 e2]) (by simp [results, Try.results12, go_sem]) rfl ⟨_, rfl, HI.out, HB.out⟩

set_option maxHeartbeats 1000000 in
/-- zzSameInts at two slices of the same numbers -/
theorem same13 (v1 v2 : Value) (bs : Option (List Int)) (w : World) (h1 : Ints w v1 bs) (h2 : Ints w v2 bs) (hl : ∀ zs, bs = some zs → zs.length ≤ 1048576) :
    Calls Try.prog 13 #[v1, v2] w fun r w' => r = .returned (.bool true) ∧ ∃ n, w' = w.drewN n := by
  have q : ∀ (w : World) (a : Option Addr) (n c n' c' : Nat), (binOp .eql 23 (.slice a n c) (.slice none n' c')).run Try.prog w = .ok (.bool a.isNone) w := fun w a n c n' c' => Lib.run_eql_slice_nil w _ _ a n c n' c' Try.underlying23
  cases bs with
  | none =>
    rw [show v1 = .slice none 0 0 from h1, show v2 = .slice none 0 0 from h2]
    clear h1 h2 hl
    go_enter Try.func13, Try.ntmps13
    go_wp2
    refine wp_loop_rounds 1 ?_
    rw [rounds_succ]
    go_wp2
    go_ret
    exact ⟨rfl, 0, rfl⟩
  | some zs =>
    obtain ⟨g1, rfl, B1⟩ := h1
    obtain ⟨g2, rfl, B2⟩ := h2
    have hl' := hl zs rfl
    clear hl
    have HC1 : Hid (∀ j, j < zs.length → w.cell? ⟨g1, j, none⟩ = some (.int .i64 (zs.getD j 0))) := fun j hj => by
      rw [B1.cell j (by simpa using hj)]; simp [hj]
    have HC2 : Hid (∀ j, j < zs.length → w.cell? ⟨g2, j, none⟩ = some (.int .i64 (zs.getD j 0))) := fun j hj => by
      rw [B2.cell j (by simpa using hj)]; simp [hj]
    clear B1 B2
    generalize hn : zs.length = n at *
    clear hn
    go_enter Try.func13, Try.ntmps13
    go_wp2
    go_loopw [5] (fun i wr => ∃ k m : Nat, k ≤ n ∧ i = .int .i64 k ∧ wr = w.drewN m) (fun i _ => n - (intOf i).toNat)
    case atStart => exact ⟨0, 0, Nat.zero_le _, rfl, rfl⟩
    case round =>
      obtain ⟨k, m, hk, rfl, rfl⟩ := hrel
      by_cases hlt : k < n
      · have c1 := HC1.out k hlt
        have c2 := HC2.out k hlt
        generalize zs.getD k 0 = z at c1 c2
        have hk' : (k : Int) < (n : Int) := by omega
        go_wp2
        go_quiet (fail)
        go_wp2
        go_roundw
        case rel => exact ⟨k + 1, _, by omega, by go_num, rfl⟩
        case measure => simp [intOf]; omega
      · go_wp2
        go_ret
        exact ⟨rfl, m, rfl⟩
end Go.Proofs.Qxb6617335a.Pc
