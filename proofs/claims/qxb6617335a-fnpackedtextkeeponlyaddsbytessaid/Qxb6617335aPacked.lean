import Derived.Test.Qxb6617335aReader
namespace Go.Proofs.Qxb6617335a.Pc
open Go.RowKit Own
set_option linter.unusedVariables false

theorem and3 (u : Nat) (hu : u < 18446744073709551616) : bits .and .u64 (u : Int) 3 = ((u % 4 : Nat) : Int) := by
  have := u64_and_nat u 3 hu (by decide)
  rw [nat_mask2] at this
  exact this

/-- a slice of ints: nil, or a whole block -/
def Ints (w : World) (v : Value) : Option (List Int) → Prop
  | none => v = .slice none 0 0
  | some zs => ∃ g, v = .slice (some ⟨g, 0, none⟩) zs.length zs.length ∧ Blk w g 3 (zs.map (Value.int .i64))

theorem Ints.later {w w' : World} {v : Value} {bs : Option (List Int)} (h : Ints w v bs) (hb : Below w.heap.size w w') : Ints w' v bs := by
  cases bs with
  | none => exact h
  | some zs =>
    obtain ⟨g, h1, h2⟩ := h
    exact ⟨g, h1, h2.later hb h2.lt⟩

set_option maxHeartbeats 1000000 in
/-- (*reader).packedText, where no bytes are made -/
theorem packed_none (s : ByteArray) (p e n m R : Nat) (keep : Bool) (w : World) (hs : s.size ≤ 1048576) (hv : VEnd s p e) (hn : n = vv s p (e - p) / 4) (hm : m = vv s p (e - p) % 4) (hle : e + n ≤ s.size) (hR : Rd w R s p)
    (hmk : m = 0 ∨ m = 3 ∨ m = 1 ∧ keep = false) :
    Calls Try.prog 27 #[.pointer (some ⟨R, 0, none⟩), .bool keep] w fun r w' => r = .returned (.tuple #[.string (s.extract e (e + n)), .slice none 0 0, .int .u64 m]) ∧ Rd w' R s (e + n) ∧ Only R w w' := by
  have H29 : Hid (Calls Try.prog 29 #[.pointer (some ⟨R, 0, none⟩)] w fun r w' => r = .returned (.int .u64 (vv s p (e - p) : Nat)) ∧ Rd w' R s e ∧ Only R w w') := uvarint29 s p e R w hs hv hR
  clear hv hR
  have hlt := vv_lt s p (e - p)
  generalize vv s p (e - p) = u at *
  have HN : Hid (n = u / 4) := hn
  have ha3 := and3 u hlt
  rw [← hm] at ha3
  clear hm hn
  rcases hmk with rfl | rfl | ⟨rfl, rfl⟩
  all_goals
    go_enter Try.func27, Try.ntmps27
    go_wp2_with fail
    refine H29.out.mono ?_
    rintro r w1 ⟨rfl, hr1, ho1⟩
    go_wp2_with fail
    rw [show (u : Int) / 4 = (n : Int) by have := HN.out; omega]
    refine (text30 s e n R w1 hs hle hr1).mono ?_
    rintro r w2 ⟨rfl, hr2, ho2⟩
    have HO : Hid (Only R w w2) := ho1.trans ho2
    have HR : Hid (Rd w2 R s (e + n)) := hr2
    clear ho1 ho2 hr1 hr2
    go_wp2
    go_ret3
    exact ⟨rfl, HR.out, HO.out⟩

/-- what stands in a made slice of n ints behind k rounds -/
def fill (xs : List Int) (n k : Nat) : List Value := (xs.take k).map (Value.int .i64) ++ List.replicate (n - k) (.int .i64 0)

theorem fill_zero (xs : List Int) (n : Nat) : fill xs n 0 = List.replicate n (.int .i64 0) := by simp [fill]
theorem fill_length (xs : List Int) (n k : Nat) (hz : xs.length = n) (hk : k ≤ n) : (fill xs n k).length = n := by simp [fill]; omega
theorem fill_all (xs : List Int) (n : Nat) (hz : xs.length = n) : fill xs n n = xs.map (Value.int .i64) := by
  unfold fill
  rw [List.take_of_length_le (by omega), Nat.sub_self]
  simp
theorem fill_succ (xs : List Int) (n k : Nat) (hz : xs.length = n) (hk : k < n) : (fill xs n k).set k (.int .i64 (xs.getD k 0)) = fill xs n (k + 1) := by
  unfold fill
  have h1 : ((xs.take k).map (Value.int .i64)).length = k := by simp; omega
  have h2 : List.replicate (n - k) (Value.int .i64 0) = .int .i64 0 :: List.replicate (n - (k + 1)) (.int .i64 0) := by
    rw [show n - k = (n - (k + 1)) + 1 by omega, List.replicate_succ]
  rw [h2, List.set_append_right _ _ (by omega), h1, Nat.sub_self, List.set_cons_zero, List.take_succ_eq_append_getElem (by omega), List.map_append]
  simp [List.getD_eq_getElem?_getD, List.getElem?_eq_getElem (show k < xs.length by omega)]

theorem byte64 (b : UInt8) : wrap64 (b.toNat : Int) = (b.toNat : Int) := by
  have := b.toNat_lt
  simp only [wrap64]
  omega

theorem Rd.later {w w' : World} {R p B : Nat} {s : ByteArray} (h : Rd w R s p) (hb : Below B w w') (hR : R < B) : Rd w' R s p := Blk.later h hb hR

set_option maxHeartbeats 1000000 in
/-- (*reader).packedText, the text's own bytes kept -/
theorem packed_text (s : ByteArray) (p e n R : Nat) (w : World) (hs : s.size ≤ 1048576) (hv : VEnd s p e) (hn : n = vv s p (e - p) / 4) (hm : 1 = vv s p (e - p) % 4) (hle : e + n ≤ s.size) (hR : Rd w R s p) :
    Calls Try.prog 27 #[.pointer (some ⟨R, 0, none⟩), .bool true] w fun r w' => ∃ v, r = .returned (.tuple #[.string (s.extract e (e + n)), v, .int .u64 (1 : Nat)]) ∧ Ints w' v (some (Bm.bv (s.extract e (e + n)))) ∧ Rd w' R s (e + n) ∧ Below R w w' := by
  have H29 : Hid (Calls Try.prog 29 #[.pointer (some ⟨R, 0, none⟩)] w fun r w' => r = .returned (.int .u64 (vv s p (e - p) : Nat)) ∧ Rd w' R s e ∧ Only R w w') := uvarint29 s p e R w hs hv hR
  clear hv hR
  have hlt := vv_lt s p (e - p)
  generalize vv s p (e - p) = u at *
  have HN : Hid (n = u / 4) := hn
  have ha3 := and3 u hlt
  rw [← hm] at ha3
  clear hm hn
  have hTs : (s.extract e (e + n)).size = n := by rw [ByteArray.size_extract]; omega
  obtain ⟨T, hT⟩ : ∃ T, T = s.extract e (e + n) := ⟨_, rfl⟩
  rw [← hT] at hTs
  rw [← hT]
  have HT : Hid (T = s.extract e (e + n)) := hT
  clear hT
  go_enter Try.func27, Try.ntmps27
  go_wp2_with fail
  refine H29.out.mono ?_
  rintro r w1 ⟨rfl, hr1, ho1⟩
  go_wp2_with fail
  rw [show (u : Int) / 4 = (n : Int) by have := HN.out; omega]
  have H30 := text30 s e n R w1 hs hle hr1
  rw [← HT.out] at H30
  refine H30.mono ?_
  clear H30
  rintro r w2 ⟨rfl, hr2, ho2⟩
  have HO : Hid (Only R w w2) := ho1.trans ho2
  clear ho1 ho2 hr1
  have hn20 : n ≤ 1048576 := by omega
  have HBL : Hid ((Bm.bv T).length = n) := by rw [Bm.bv_length, hTs]; exact rfl
  go_wp2_with (at_make; refine wpList_make_blk _ rfl (.tmp 28) 23 3 rfl (.int .i64 0) 8 info_int rfl Try.underlying23 n _ rfl rfl (by omega) (by unfold maxLen; omega) ?_; intro w3 hblk hb3 hlt3)
  rw [← fill_zero (Bm.bv T) n] at hblk
  have hrR : R < w2.heap.size := Blk.lt hr2
  go_loopw [32] (fun i wr => ∃ k : Nat, k ≤ n ∧ i = .int .i64 k ∧ Blk wr w2.heap.size 3 (fill (Bm.bv T) n k) ∧ Below w2.heap.size w2 wr) (fun i _ => n - (intOf i).toNat)
  case atStart => exact ⟨0, Nat.zero_le _, rfl, hblk, hb3⟩
  case round =>
    obtain ⟨k, hk, rfl, hB, hb⟩ := hrel
    by_cases hlk : k < n
    · have hkT : k < T.size := by omega
      have hw8 : wrap64 ((T[k]).toNat : Int) = ((T[k]).toNat : Int) := byte64 _
      have hfr := hB.free k
      obtain ⟨old, hcl⟩ := hB.some k (by rw [fill_length (Bm.bv T) n k HBL.out hk]; exact hlk)
      have HS : Hid (Blk (wr.setCell ⟨w2.heap.size, k, none⟩ (.int .i64 ((T[k]).toNat : Int))) w2.heap.size 3 (fill (Bm.bv T) n (k + 1))) := by
        have := hB.set k (.int .i64 ((Bm.bv T).getD k 0))
        rw [fill_succ (Bm.bv T) n k HBL.out hlk, Bm.bv_get T k hkT] at this
        exact this
      go_wp2
      go_roundw
      case rel => exact ⟨k + 1, by omega, by go_num, HS.out, hb.setCell (Nat.le_refl _) _⟩
      case measure => simp [intOf]; omega
    · have hkn : k = n := by omega
      subst hkn
      have HB' : Hid (Blk wr w2.heap.size 3 ((Bm.bv T).map (Value.int .i64))) := by rw [fill_all _ _ HBL.out] at hB; exact hB
      have HR' : Hid (Rd wr R s (e + k)) := hr2.later hb hrR
      have HW' : Hid (Below R w wr) := (HO.out.below (Nat.le_refl _)).trans (hb.mono (Nat.le_of_lt hrR))
      clear hB hblk hb3
      go_wp2
      go_ret3
      refine ⟨_, rfl, ⟨_, ?_, HB'.out⟩, HR'.out, HW'.out⟩
      rw [HBL.out]
      rfl

theorem Listed.step {s : ByteArray} {p c q r : Nat} {zs : List Int} (h : Listed s p c zs q) (j : Nat) (hj : j < c) (hr : Listed s p j (zs.take j) r) : ∃ q2, VEnd s r q2 ∧ zs.getD j 0 = zz (vv s r (q2 - r)) ∧ Listed s p (j + 1) (zs.take (j + 1)) q2 := by
  obtain ⟨q1, q2, h1, h2, h3, h4⟩ := h.next j hj
  obtain ⟨_, rfl⟩ := h1.uniq hr
  exact ⟨q2, h2, h3, h4⟩

set_option maxRecDepth 20000 in
set_option maxHeartbeats 2000000 in
/-- (*reader).packedText, the listed numbers kept -/
theorem packed_list (s : ByteArray) (p e n ce c e2 R : Nat) (zs : List Int) (w : World) (hs : s.size ≤ 1048576) (hv : VEnd s p e) (hn : n = vv s p (e - p) / 4) (hm : 2 = vv s p (e - p) % 4) (hle : e + n ≤ s.size)
    (hv2 : VEnd s (e + n) ce) (hc : c = vv s (e + n) (ce - (e + n))) (hc2 : c ≤ s.size - ce) (hL : Listed s ce c zs e2) (hR : Rd w R s p) :
    Calls Try.prog 27 #[.pointer (some ⟨R, 0, none⟩), .bool true] w fun r w' => ∃ v, r = .returned (.tuple #[.string (s.extract e (e + n)), v, .int .u64 (2 : Nat)]) ∧ Ints w' v (some zs) ∧ Rd w' R s e2 ∧ Below R w w' := by
  have H29 : Hid (Calls Try.prog 29 #[.pointer (some ⟨R, 0, none⟩)] w fun r w' => r = .returned (.int .u64 (vv s p (e - p) : Nat)) ∧ Rd w' R s e ∧ Only R w w') := uvarint29 s p e R w hs hv hR
  have H29b : Hid (∀ w, Rd w R s (e + n) → Calls Try.prog 29 #[.pointer (some ⟨R, 0, none⟩)] w fun r w' => r = .returned (.int .u64 (c : Nat)) ∧ Rd w' R s ce ∧ Only R w w') := by
    intro w hr; rw [hc]; exact uvarint29 s (e + n) ce R w hs hv2 hr
  have hc20 : c ≤ 1048576 := by omega
  clear hv hR hv2 hc
  have hlt := vv_lt s p (e - p)
  generalize vv s p (e - p) = u at *
  have HN : Hid (n = u / 4) := hn
  have ha3 := and3 u hlt
  rw [← hm] at ha3
  clear hm hn
  have HLL : Hid (zs.length = c) := hL.length
  have HL : Hid (Listed s ce c zs e2) := hL
  clear hL
  go_enter Try.func27, Try.ntmps27
  go_wp2_with fail
  refine H29.out.mono ?_
  rintro r w1 ⟨rfl, hr1, ho1⟩
  go_wp2_with fail
  rw [show (u : Int) / 4 = (n : Int) by have := HN.out; omega]
  refine (text30 s e n R w1 hs hle hr1).mono ?_
  rintro r w2 ⟨rfl, hr2, ho2⟩
  have ho12 := ho1.trans ho2
  clear ho1 ho2 hr1
  go_wp2_with fail
  refine (H29b.out w2 hr2).mono ?_
  rintro r w3 ⟨rfl, hr3, ho3⟩
  have HO : Hid (Only R w w3) := ho12.trans ho3
  clear ho12 ho3 hr2
  have hrR : R < w3.heap.size := Blk.lt hr3
  go_wp2_with (at_make; refine wpList_make_blk _ rfl (.tmp 50) 23 3 rfl (.int .i64 0) 8 info_int rfl Try.underlying23 c _ rfl rfl (by omega) (by unfold maxLen; omega) ?_; intro w4 hblk hb4 hlt4)
  rw [← fill_zero zs c] at hblk
  go_loopw [53] (fun i wr => ∃ j q : Nat, j ≤ c ∧ i = .int .i64 j ∧ Listed s ce j (zs.take j) q ∧ Rd wr R s q ∧ Blk wr w3.heap.size 3 (fill zs c j) ∧ Below R w wr) (fun i _ => c - (intOf i).toNat)
  case atStart => exact ⟨0, ce, Nat.zero_le _, rfl, ⟨by simp, rfl⟩, hr3.later hb4 hrR, hblk, (HO.out.below (Nat.le_refl _)).trans (hb4.mono (Nat.le_of_lt hrR))⟩
  case round =>
    obtain ⟨j, q, hj, rfl, hLj, hr, hB, hb⟩ := hrel
    by_cases hlj : j < c
    · obtain ⟨q2, hv, hz, hL2⟩ := HL.out.step j hlj hLj
      have H31 : Hid (Calls Try.prog 31 #[.pointer (some ⟨R, 0, none⟩)] wr fun r w' => r = .returned (.int .i64 (zz (vv s q (q2 - q)))) ∧ Rd w' R s q2 ∧ Only R wr w') := varint31 s q q2 R wr hs hv hr
      rw [← hz] at H31
      have HL2 : Hid (Listed s ce (j + 1) (zs.take (j + 1)) q2) := hL2
      clear hv hz hL2 hLj
      go_wp2_with fail
      refine H31.out.mono ?_
      rintro r w5 ⟨rfl, hr5, ho5⟩
      have hB5 : Blk w5 w3.heap.size 3 (fill zs c j) := ho5.blk hB (by omega)
      have hb5 : Below R w w5 := hb.trans (ho5.below (Nat.le_refl _))
      have hfr := hB5.free j
      obtain ⟨old, hcl⟩ := hB5.some j (by rw [fill_length zs c j HLL.out hj]; exact hlj)
      have HS : Hid (Blk (w5.setCell ⟨w3.heap.size, j, none⟩ (.int .i64 (zs.getD j 0))) w3.heap.size 3 (fill zs c (j + 1))) := by
        have := hB5.set j (.int .i64 (zs.getD j 0))
        rw [fill_succ zs c j HLL.out hlj] at this
        exact this
      have HR' : Hid (Rd (w5.setCell ⟨w3.heap.size, j, none⟩ (.int .i64 (zs.getD j 0))) R s q2) := Blk.other hr5 _ _ (by intro h; simp at h; omega)
      have HW' : Hid (Below R w (w5.setCell ⟨w3.heap.size, j, none⟩ (.int .i64 (zs.getD j 0)))) := hb5.setCell (by simp; omega) _
      generalize zs.getD j 0 = z at *
      clear hB hb hr ho5 hB5 hb5 hr5 H31 hblk hb4
      go_wp2
      go_roundw
      case rel => exact ⟨j + 1, q2, by omega, by go_num, HL2.out, HR'.out, HS.out, HW'.out⟩
      case measure => simp [intOf]; omega
    · have hjc : j = c := by omega
      subst hjc
      have HB' : Hid (Blk wr w3.heap.size 3 (zs.map (Value.int .i64))) := by rw [fill_all _ _ HLL.out] at hB; exact hB
      have HR' : Hid (Rd wr R s e2) := by
        rw [List.take_of_length_le (by rw [HLL.out]; exact Nat.le_refl _)] at hLj
        obtain ⟨_, rfl⟩ := hLj.uniq HL.out
        exact hr
      have HW' : Hid (Below R w wr) := hb
      clear hB hblk hb4 hb hr hLj
      go_wp2
      go_ret3
      refine ⟨_, rfl, ⟨_, ?_, HB'.out⟩, HR'.out, HW'.out⟩
      rw [HLL.out]
      rfl

set_option maxRecDepth 20000 in
set_option maxHeartbeats 2000000 in
/-- (*reader).packedText, the listed numbers passed over -/
theorem packed_skip (s : ByteArray) (p e n ce c e2 R : Nat) (zs : List Int) (w : World) (hs : s.size ≤ 1048576) (hv : VEnd s p e) (hn : n = vv s p (e - p) / 4) (hm : 2 = vv s p (e - p) % 4) (hle : e + n ≤ s.size)
    (hv2 : VEnd s (e + n) ce) (hc : c = vv s (e + n) (ce - (e + n))) (hc2 : c ≤ s.size - ce) (hL : Listed s ce c zs e2) (hR : Rd w R s p) :
    Calls Try.prog 27 #[.pointer (some ⟨R, 0, none⟩), .bool false] w fun r w' => r = .returned (.tuple #[.string (s.extract e (e + n)), .slice none 0 0, .int .u64 (2 : Nat)]) ∧ Rd w' R s e2 ∧ Only R w w' := by
  have H29 : Hid (Calls Try.prog 29 #[.pointer (some ⟨R, 0, none⟩)] w fun r w' => r = .returned (.int .u64 (vv s p (e - p) : Nat)) ∧ Rd w' R s e ∧ Only R w w') := uvarint29 s p e R w hs hv hR
  have H29b : Hid (∀ w, Rd w R s (e + n) → Calls Try.prog 29 #[.pointer (some ⟨R, 0, none⟩)] w fun r w' => r = .returned (.int .u64 (c : Nat)) ∧ Rd w' R s ce ∧ Only R w w') := by
    intro w hr; rw [hc]; exact uvarint29 s (e + n) ce R w hs hv2 hr
  have hc20 : c ≤ 1048576 := by omega
  clear hv hR hv2 hc
  have hlt := vv_lt s p (e - p)
  generalize vv s p (e - p) = u at *
  have HN : Hid (n = u / 4) := hn
  have ha3 := and3 u hlt
  rw [← hm] at ha3
  clear hm hn
  have HLL : Hid (zs.length = c) := hL.length
  have HL : Hid (Listed s ce c zs e2) := hL
  clear hL
  go_enter Try.func27, Try.ntmps27
  go_wp2_with fail
  refine H29.out.mono ?_
  rintro r w1 ⟨rfl, hr1, ho1⟩
  go_wp2_with fail
  rw [show (u : Int) / 4 = (n : Int) by have := HN.out; omega]
  refine (text30 s e n R w1 hs hle hr1).mono ?_
  rintro r w2 ⟨rfl, hr2, ho2⟩
  have ho12 := ho1.trans ho2
  clear ho1 ho2 hr1
  go_wp2_with fail
  refine (H29b.out w2 hr2).mono ?_
  rintro r w3 ⟨rfl, hr3, ho3⟩
  have HO : Hid (Only R w w3) := ho12.trans ho3
  clear ho12 ho3 hr2
  go_wp2
  go_loopw [53] (fun i wr => ∃ j q : Nat, j ≤ c ∧ i = .int .i64 j ∧ Listed s ce j (zs.take j) q ∧ Rd wr R s q ∧ Only R w wr) (fun i _ => c - (intOf i).toNat)
  case atStart => exact ⟨0, ce, Nat.zero_le _, rfl, ⟨by simp, rfl⟩, hr3, HO.out⟩
  case round =>
    obtain ⟨j, q, hj, rfl, hLj, hr, hb⟩ := hrel
    by_cases hlj : j < c
    · obtain ⟨q2, hv, hz, hL2⟩ := HL.out.step j hlj hLj
      have H31 : Hid (Calls Try.prog 31 #[.pointer (some ⟨R, 0, none⟩)] wr fun r w' => r = .returned (.int .i64 (zz (vv s q (q2 - q)))) ∧ Rd w' R s q2 ∧ Only R wr w') := varint31 s q q2 R wr hs hv hr
      rw [← hz] at H31
      have HL2 : Hid (Listed s ce (j + 1) (zs.take (j + 1)) q2) := hL2
      clear hv hz hL2 hLj
      generalize zs.getD j 0 = z at *
      go_wp2_with fail
      refine H31.out.mono ?_
      rintro r w5 ⟨rfl, hr5, ho5⟩
      have HR' : Hid (Rd w5 R s q2) := hr5
      have HW' : Hid (Only R w w5) := hb.trans ho5
      clear hb hr ho5 hr5 H31
      go_wp2
      go_roundw
      case rel => exact ⟨j + 1, q2, by omega, by go_num, HL2.out, HR'.out, HW'.out⟩
      case measure => simp [intOf]; omega
    · have hjc : j = c := by omega
      subst hjc
      have HR' : Hid (Rd wr R s e2) := by
        rw [List.take_of_length_le (by rw [HLL.out]; exact Nat.le_refl _)] at hLj
        obtain ⟨_, rfl⟩ := hLj.uniq HL.out
        exact hr
      have HW' : Hid (Only R w wr) := hb
      clear hb hr hLj
      go_wp2
      go_ret3
      exact ⟨rfl, HR'.out, HW'.out⟩
end Go.Proofs.Qxb6617335a.Pc
