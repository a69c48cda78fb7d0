import Derived.Test.Qxb6617335aPacked
namespace Go.Proofs.Qxb6617335a.Pc
open Go.RowKit Own
set_option linter.unusedVariables false

/-- what zzModelPiece hands back -/
def Ans (s : ByteArray) (p : Nat) (keep : Bool) (w : World) (r : Ending) (w' : World) : Prop :=
  ∃ (ok : Bool) (text : ByteArray) (a : Option Addr) (n mark e2 : Nat), r = .returned (.tuple #[.bool ok, .string text, .slice a n n, .int .u64 mark, .int .i64 e2]) ∧
    (ok = true → ∃ bs, Piece s p keep text bs mark e2 ∧ Ints w' (.slice a n n) bs) ∧ Below w.heap.size w w'

theorem Ans.no (s : ByteArray) (p : Nat) (keep : Bool) (w w' : World) (hb : Below w.heap.size w w') :
    Ans s p keep w (.returned (.tuple #[.bool false, .string ⟨#[]⟩, .slice none 0 0, .int .u64 0, .int .i64 0])) w' :=
  ⟨false, _, _, _, 0, 0, rfl, (fun h => by cases h), hb⟩

/-- a made slice of c ints into which ys have been written -/
def grow (ys : List Int) (c : Nat) : List Value := ys.map (Value.int .i64) ++ List.replicate (c - ys.length) (.int .i64 0)
theorem grow_nil (c : Nat) : grow [] c = List.replicate c (.int .i64 0) := by simp [grow]
theorem grow_length (ys : List Int) (c : Nat) (h : ys.length ≤ c) : (grow ys c).length = c := by simp [grow]; omega
theorem grow_all (ys : List Int) (c : Nat) (h : ys.length = c) : grow ys c = ys.map (Value.int .i64) := by
  unfold grow; rw [h, Nat.sub_self]; simp
theorem grow_snoc (ys : List Int) (c j : Nat) (z : Int) (h : ys.length = j) (hj : j < c) : (grow ys c).set j (.int .i64 z) = grow (ys ++ [z]) c := by
  unfold grow
  have h1 : (ys.map (Value.int .i64)).length = j := by simp [h]
  have h2 : List.replicate (c - ys.length) (Value.int .i64 0) = .int .i64 0 :: List.replicate (c - (ys ++ [z]).length) (.int .i64 0) := by
    rw [show c - ys.length = (c - (ys ++ [z]).length) + 1 by simp; omega, List.replicate_succ]
  rw [h2, List.set_append_right _ _ (by omega), h1, Nat.sub_self, List.set_cons_zero, List.map_append]
  simp

theorem Ans.yes {s : ByteArray} {p : Nat} {keep : Bool} {w w' : World} {text : ByteArray} {a : Option Addr} {n mark e2 : Nat} {bs : Option (List Int)} (um en : Int) (hum : um = (mark : Int)) (hen : en = (e2 : Int))
    (hP : Piece s p keep text bs mark e2) (hI : Ints w' (.slice a n n) bs) (hb : Below w.heap.size w w') :
    Ans s p keep w (.returned (.tuple #[.bool true, .string text, .slice a n n, .int .u64 um, .int .i64 en])) w' := by
  subst hum hen
  exact ⟨true, text, a, n, mark, e2, rfl, (fun _ => ⟨bs, hP, hI⟩), hb⟩

set_option maxRecDepth 20000 in
set_option maxHeartbeats 4000000 in
theorem model11 (s : ByteArray) (p : Nat) (keep : Bool) (w : World) (hs : s.size ≤ 1048576) (hp : p ≤ s.size) :
    Calls Try.prog 11 #[.string s, .int .i64 p, .bool keep] w fun r w' => Ans s p keep w r w' := by
  go_enter Try.func11, Try.ntmps11
  go_wp2_with fail
  refine (vend24 s p w hs hp).mono ?_
  rintro r _ ⟨⟨r, rfl, hr⟩, rfl⟩
  rcases hr with ⟨e, rfl, hv⟩ | rfl
  · have he1 := hv.1
    have he2 := hv.2.1
    have HV : Hid (VEnd s p e) := hv
    clear hv
    go_wp2_with fail
    refine (vval25 s p e w hs he1 he2).mono ?_
    rintro r _ ⟨rfl, rfl⟩
    have hlt := vv_lt s p (e - p)
    generalize hu : vv s p (e - p) = u at hlt
    have HU : Hid (vv s p (e - p) = u) := hu
    clear hu
    by_cases hbig : ((s.size : Int) - (e : Int)) < (u : Int) / 4
    · go_wp2
      exact bodyPost_ret (v := .tuple #[.bool false, .string ⟨#[]⟩, .slice none 0 0, .int .u64 0, .int .i64 0]) (by simp [results, Try.results11, go_sem]) rfl (Ans.no s p keep w w (Below.refl _ _))
    · obtain ⟨n, hn⟩ : ∃ n, n = u / 4 := ⟨_, rfl⟩
      obtain ⟨m, hm⟩ : ∃ m, m = u % 4 := ⟨_, rfl⟩
      have hq : (u : Int) / 4 = (n : Int) := by omega
      have hqm : (u : Int) % 4 = (m : Int) := by omega
      have HN : Hid (n = vv s p (e - p) / 4) := by rw [HU.out]; exact hn
      have HM : Hid (m = vv s p (e - p) % 4) := by rw [HU.out]; exact hm
      have hm4 : m < 4 := by omega
      have hle : e + n ≤ s.size := by omega
      have hle' : (n : Int) ≤ (s.size : Int) - (e : Int) := by omega
      clear hbig hn hm HU
      have hTs : (s.extract e (e + n)).size = n := by rw [ByteArray.size_extract]; omega
      rcases (show m = 0 ∨ m = 1 ∨ m = 2 ∨ m = 3 by omega) with rfl | rfl | rfl | rfl
      · go_wp2
        exact bodyPost_ret (v := .tuple #[.bool true, .string (s.extract e (e + n)), .slice none 0 0, .int .u64 ((u : Int) % 4), .int .i64 ((e : Int) + (n : Int))]) (by simp [results, Try.results11, go_sem]) rfl
          (Ans.yes (mark := 0) (e2 := e + n) (bs := none) _ _ hqm (by omega) ⟨e, HV.out, n, HN.out, HM.out, hle, rfl, .inr (.inl ⟨by omega, by omega, rfl, rfl⟩)⟩ rfl (Below.refl _ _))
      · cases keep
        · go_wp2
          exact bodyPost_ret (v := .tuple #[.bool true, .string (s.extract e (e + n)), .slice none 0 0, .int .u64 ((u : Int) % 4), .int .i64 ((e : Int) + (n : Int))]) (by simp [results, Try.results11, go_sem]) rfl
            (Ans.yes (mark := 1) (e2 := e + n) (bs := none) _ _ hqm (by omega) ⟨e, HV.out, n, HN.out, HM.out, hle, rfl, .inl ⟨rfl, rfl, rfl⟩⟩ rfl (Below.refl _ _))
        · have hn20 : n ≤ 1048576 := by omega
          go_wp2_with (at_make; refine wpList_make_blk _ rfl (.tmp 61) 23 3 rfl (.int .i64 0) 8 info_int rfl Try.underlying23 n _ rfl rfl (by omega) (by unfold maxLen; omega) ?_; intro w3 hblk hb3 hlt3)
          generalize hT : s.extract e (e + n) = T at hTs
          have HT : Hid (T = s.extract e (e + n)) := hT.symm
          clear hT
          have HBL : Hid ((Bm.bv T).length = n) := by rw [Bm.bv_length, hTs]; exact rfl
          rw [← fill_zero (Bm.bv T) n] at hblk
          go_loopw [14] (fun i wr => ∃ k : Nat, k ≤ n ∧ i = .int .i64 k ∧ Blk wr w.heap.size 3 (fill (Bm.bv T) n k) ∧ Below w.heap.size w wr) (fun i _ => n - (intOf i).toNat)
          case atStart => exact ⟨0, Nat.zero_le _, rfl, hblk, hb3⟩
          case round =>
            obtain ⟨k, hk, rfl, hB, hb⟩ := hrel
            by_cases hlk : k < n
            · have hkT : k < T.size := by omega
              have hw8 : wrap64 ((T[k]).toNat : Int) = ((T[k]).toNat : Int) := byte64 _
              have hfr := hB.free k
              obtain ⟨old, hcl⟩ := hB.some k (by rw [fill_length (Bm.bv T) n k HBL.out hk]; exact hlk)
              have HS : Hid (Blk (wr.setCell ⟨w.heap.size, k, none⟩ (.int .i64 ((T[k]).toNat : Int))) w.heap.size 3 (fill (Bm.bv T) n (k + 1))) := by
                have := hB.set k (.int .i64 ((Bm.bv T).getD k 0))
                rw [fill_succ (Bm.bv T) n k HBL.out hlk, Bm.bv_get T k hkT] at this
                exact this
              go_wp2
              go_roundw
              case rel => exact ⟨k + 1, by omega, by go_num, HS.out, hb.setCell (Nat.le_refl _) _⟩
              case measure => simp [intOf]; omega
            · have hkn : k = n := by omega
              subst hkn
              have HB' : Hid (Blk wr w.heap.size 3 ((Bm.bv T).map (Value.int .i64))) := by rw [fill_all _ _ HBL.out] at hB; exact hB
              have HW' : Hid (Below w.heap.size w wr) := hb
              clear hB hblk hb3 hb
              go_wp2
              exact bodyPost_ret (v := .tuple #[.bool true, .string T, .slice (some ⟨w.heap.size, 0, none⟩) k k, .int .u64 1, .int .i64 ((e : Int) + (k : Int))]) (by simp [results, Try.results11, go_sem]) rfl
                (Ans.yes (mark := 1) (e2 := e + k) (bs := some (Bm.bv T)) _ _ rfl (by omega) ⟨e, HV.out, k, HN.out, HM.out, hle, HT.out, .inl ⟨rfl, rfl, rfl⟩⟩ ⟨_, by rw [HBL.out], HB'.out⟩ HW'.out)
      · go_wp2_with fail
        obtain ⟨E, hE⟩ : ∃ E, E = e + n := ⟨_, rfl⟩
        rw [show ((e : Int) + (n : Int)) = (E : Int) by omega]
        have hEs : E ≤ s.size := by omega
        have HE : Hid (E = e + n) := hE
        clear hE
        refine (vend24 s E w hs hEs).mono ?_
        rintro r _ ⟨⟨r, rfl, hr⟩, rfl⟩
        rcases hr with ⟨ce, rfl, hv2⟩ | rfl
        · have hce1 := hv2.1
          have hce2 := hv2.2.1
          have HV2 : Hid (VEnd s E ce) := hv2
          clear hv2
          go_wp2_with fail
          refine (vval25 s E ce w hs hce1 hce2).mono ?_
          rintro r _ ⟨rfl, rfl⟩
          have hclt := vv_lt s E (ce - E)
          generalize hc : vv s E (ce - E) = c at hclt
          have HC : Hid (c = vv s E (ce - E)) := hc.symm
          clear hc
          by_cases hbig : ((s.size : Int) - (ce : Int)) < (c : Int)
          · go_wp2
            exact bodyPost_ret (v := .tuple #[.bool false, .string ⟨#[]⟩, .slice none 0 0, .int .u64 0, .int .i64 0]) (by simp [results, Try.results11, go_sem]) rfl (Ans.no s p keep w w (Below.refl _ _))
          · have hc20 : c ≤ 1048576 := by omega
            have hc2 : c ≤ s.size - ce := by omega
            have hbig' : (c : Int) ≤ (s.size : Int) - (ce : Int) := by omega
            clear hbig
            generalize hT : s.extract e (e + n) = T at hTs
            have HT : Hid (T = s.extract e (e + n)) := hT.symm
            clear hT
            cases keep
            · go_wp2
              go_loopw [7, 8, 9, 10, 18] (fun tx b mk en i wr => tx = .string T ∧ b = .slice none 0 0 ∧ mk = .int .u64 2 ∧ ∃ (j q : Nat) (ys : List Int), j ≤ c ∧ q ≤ s.size ∧ i = .int .i64 j ∧ en = .int .i64 q ∧ Listed s ce j ys q ∧ wr = w) (fun _ _ _ _ i _ => c - (intOf i).toNat)
              case atStart => exact ⟨rfl, rfl, rfl, 0, ce, [], Nat.zero_le _, hce2, rfl, rfl, ⟨rfl, rfl⟩, rfl⟩
              case round =>
                obtain ⟨rfl, rfl, rfl, j, q, ys, hj, hqs, rfl, rfl, hL, rfl⟩ := hrel
                have HLj : Hid (Listed s ce j ys q) := hL
                clear hL
                by_cases hlj : j < c
                · go_wp2_with fail
                  refine (vend24 s q wr hs hqs).mono ?_
                  rintro r _ ⟨⟨r, rfl, hr⟩, rfl⟩
                  rcases hr with ⟨q2, rfl, hv3⟩ | rfl
                  · have hq1 := hv3.1
                    have hq2 := hv3.2.1
                    have HV3 : Hid (VEnd s q q2) := hv3
                    clear hv3
                    go_wp2_with fail
                    refine (vval25 s q q2 wr hs hq1 hq2).mono ?_
                    rintro r _ ⟨rfl, rfl⟩
                    have hvl := vv_lt s q (q2 - q)
                    generalize hvq : vv s q (q2 - q) = vq at hvl
                    have HVQ : Hid (vq = vv s q (q2 - q)) := hvq.symm
                    clear hvq
                    go_wp2_with fail
                    refine (zigzag26 vq wr hvl).mono ?_
                    rintro r _ ⟨rfl, rfl⟩
                    generalize hzq : zz vq = z
                    have HZ : Hid (z = zz (vv s q (q2 - q))) := by rw [← HVQ.out]; exact hzq.symm
                    clear hzq
                    go_wp2
                    go_roundw
                    case rel => exact ⟨rfl, rfl, rfl, j + 1, q2, ys ++ [z], by omega, by omega, by go_num, rfl, ⟨ys, q, HLj.out, HV3.out, by rw [HZ.out]⟩, trivial⟩
                    case measure => simp [intOf]; omega
                  · go_wp2
                    exact bodyPost_ret (v := .tuple #[.bool false, .string ⟨#[]⟩, .slice none 0 0, .int .u64 0, .int .i64 0]) (by simp [results, Try.results11, go_sem]) rfl (Ans.no s p false wr wr (Below.refl _ _))
                · have hjc : j = c := by omega
                  subst hjc
                  go_wp2
                  exact bodyPost_ret (v := .tuple #[.bool true, .string T, .slice none 0 0, .int .u64 2, .int .i64 (q : Int)]) (by simp [results, Try.results11, go_sem]) rfl
                    (Ans.yes (mark := 2) (e2 := q) (bs := none) _ _ rfl rfl ⟨e, HV.out, n, HN.out, HM.out, hle, HT.out, .inr (.inr ⟨rfl, ce, j, ys, by rw [← HE.out]; exact HV2.out, by rw [← HE.out]; exact HC.out, hc2, HLj.out, rfl⟩)⟩ rfl (Below.refl _ _))
            · go_wp2_with (at_make; refine wpList_make_blk _ rfl (.tmp 105) 23 3 rfl (.int .i64 0) 8 info_int rfl Try.underlying23 c _ rfl rfl (by omega) (by unfold maxLen; omega) ?_; intro w3 hblk hb3 hlt3)
              have hblk0 : Blk w3 w.heap.size 3 (grow [] c) := by rw [grow_nil]; exact hblk
              clear hblk
              go_loopw [7, 8, 9, 10, 18] (fun tx b mk en i wr => tx = .string T ∧ b = .slice (some ⟨w.heap.size, 0, none⟩) c c ∧ mk = .int .u64 2 ∧ ∃ (j q : Nat) (ys : List Int), j ≤ c ∧ q ≤ s.size ∧ i = .int .i64 j ∧ en = .int .i64 q ∧ Listed s ce j ys q ∧ Blk wr w.heap.size 3 (grow ys c) ∧ Below w.heap.size w wr) (fun _ _ _ _ i _ => c - (intOf i).toNat)
              case atStart => exact ⟨rfl, rfl, rfl, 0, ce, [], Nat.zero_le _, hce2, rfl, rfl, ⟨rfl, rfl⟩, hblk0, hb3⟩
              case round =>
                obtain ⟨rfl, rfl, rfl, j, q, ys, hj, hqs, rfl, rfl, hL, hB, hb⟩ := hrel
                have HLj : Hid (Listed s ce j ys q) := hL
                have HYL : Hid (ys.length = j) := hL.length
                clear hL
                by_cases hlj : j < c
                · go_wp2_with fail
                  refine (vend24 s q wr hs hqs).mono ?_
                  rintro r _ ⟨⟨r, rfl, hr⟩, rfl⟩
                  rcases hr with ⟨q2, rfl, hv3⟩ | rfl
                  · have hq1 := hv3.1
                    have hq2 := hv3.2.1
                    have HV3 : Hid (VEnd s q q2) := hv3
                    clear hv3
                    go_wp2_with fail
                    refine (vval25 s q q2 wr hs hq1 hq2).mono ?_
                    rintro r _ ⟨rfl, rfl⟩
                    have hvl := vv_lt s q (q2 - q)
                    generalize hvq : vv s q (q2 - q) = vq at hvl
                    have HVQ : Hid (vq = vv s q (q2 - q)) := hvq.symm
                    clear hvq
                    go_wp2_with fail
                    refine (zigzag26 vq wr hvl).mono ?_
                    rintro r _ ⟨rfl, rfl⟩
                    generalize hzq : zz vq = z
                    have HZ : Hid (z = zz (vv s q (q2 - q))) := by rw [← HVQ.out]; exact hzq.symm
                    clear hzq
                    have hfr := hB.free j
                    obtain ⟨old, hcl⟩ := hB.some j (by rw [grow_length ys c (by rw [HYL.out]; exact hj)]; exact hlj)
                    have HS : Hid (Blk (wr.setCell ⟨w.heap.size, j, none⟩ (.int .i64 z)) w.heap.size 3 (grow (ys ++ [z]) c)) := by
                      have := hB.set j (.int .i64 z)
                      rw [grow_snoc ys c j z HYL.out hlj] at this
                      exact this
                    go_wp2
                    go_roundw
                    case rel => exact ⟨rfl, rfl, rfl, j + 1, q2, ys ++ [z], by omega, by omega, by go_num, rfl, ⟨ys, q, HLj.out, HV3.out, by rw [HZ.out]⟩, HS.out, hb.setCell (Nat.le_refl _) _⟩
                    case measure => simp [intOf]; omega
                  · have HW' : Hid (Below w.heap.size w wr) := hb
                    clear hb hB
                    go_wp2
                    exact bodyPost_ret (v := .tuple #[.bool false, .string ⟨#[]⟩, .slice none 0 0, .int .u64 0, .int .i64 0]) (by simp [results, Try.results11, go_sem]) rfl (Ans.no s p true w wr HW'.out)
                · have hjc : j = c := by omega
                  subst hjc
                  have HB' : Hid (Blk wr w.heap.size 3 (ys.map (Value.int .i64))) := by rw [grow_all ys j HYL.out] at hB; exact hB
                  have HW' : Hid (Below w.heap.size w wr) := hb
                  clear hb hB
                  go_wp2
                  exact bodyPost_ret (v := .tuple #[.bool true, .string T, .slice (some ⟨w.heap.size, 0, none⟩) j j, .int .u64 2, .int .i64 (q : Int)]) (by simp [results, Try.results11, go_sem]) rfl
                    (Ans.yes (mark := 2) (e2 := q) (bs := some ys) _ _ rfl rfl ⟨e, HV.out, n, HN.out, HM.out, hle, HT.out, .inr (.inr ⟨rfl, ce, j, ys, by rw [← HE.out]; exact HV2.out, by rw [← HE.out]; exact HC.out, hc2, HLj.out, rfl⟩)⟩ ⟨_, by rw [HYL.out], HB'.out⟩ HW'.out)
        · go_wp2
          exact bodyPost_ret (v := .tuple #[.bool false, .string ⟨#[]⟩, .slice none 0 0, .int .u64 0, .int .i64 0]) (by simp [results, Try.results11, go_sem]) rfl (Ans.no s p keep w w (Below.refl _ _))
      · go_wp2
        exact bodyPost_ret (v := .tuple #[.bool true, .string (s.extract e (e + n)), .slice none 0 0, .int .u64 ((u : Int) % 4), .int .i64 ((e : Int) + (n : Int))]) (by simp [results, Try.results11, go_sem]) rfl
          (Ans.yes (mark := 3) (e2 := e + n) (bs := none) _ _ hqm (by omega) ⟨e, HV.out, n, HN.out, HM.out, hle, rfl, .inr (.inl ⟨by omega, by omega, rfl, rfl⟩)⟩ rfl (Below.refl _ _))
  · go_wp2
    exact bodyPost_ret (v := .tuple #[.bool false, .string ⟨#[]⟩, .slice none 0 0, .int .u64 0, .int .i64 0]) (by simp [results, Try.results11, go_sem]) rfl (Ans.no s p keep w w (Below.refl _ _))
end Go.Proofs.Qxb6617335a.Pc
