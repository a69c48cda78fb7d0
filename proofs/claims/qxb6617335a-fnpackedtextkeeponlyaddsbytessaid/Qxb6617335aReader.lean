import Derived.Test.Qxb6617335aVarint
import Derived.Test.Qxb6617335aBlk
namespace Go.Proofs.Qxb6617335a.Pc
open Go.RowKit Own
set_option linter.unusedVariables false

/-- a reader of s at 'at': block R -/
def Rd (w : World) (R : Nat) (s : ByteArray) (p : Nat) : Prop := Blk w R 48 [.string s, .int .i64 p]

/-- of memory, at most block R has turned -/
structure Only (R : Nat) (w w' : World) : Prop where
  os : w'.os = w.os
  tape : w'.tape = w.tape
  output : w'.output = w.output
  size : w'.heap.size = w.heap.size
  block : ∀ k, k ≠ R → w'.heap[k]? = w.heap[k]?

section
variable {R B g : Nat} {w w' w'' : World} {e : TypeId} {L : List Value}
theorem Only.refl (R : Nat) (w : World) : Only R w w := ⟨rfl, rfl, rfl, rfl, fun _ _ => rfl⟩
theorem Only.trans (h : Only R w w') (k : Only R w' w'') : Only R w w'' :=
  ⟨k.os.trans h.os, k.tape.trans h.tape, k.output.trans h.output, k.size.trans h.size, fun i hi => (k.block i hi).trans (h.block i hi)⟩
theorem Only.drewN (h : Only R w w') (n : Nat) : Only R w (w'.drewN n) := ⟨h.os, h.tape, h.output, h.size, h.block⟩
theorem Only.setCell (h : Only R w w') (o : Nat) (u : Value) : Only R w (w'.setCell ⟨R, o, none⟩ u) :=
  h.trans ⟨rfl, rfl, rfl, by simp [World.setCell], fun k hk => Below.heap_setCell _ _ _ _ hk⟩
theorem Only.below (h : Only R w w') (hB : B ≤ R) : Below B w w' := ⟨h.os, h.tape, h.output, Nat.le_of_eq h.size.symm, fun k hk => h.block k (by omega)⟩
theorem Only.blk (h : Only R w w') (hb : Blk w g e L) (hg : g ≠ R) : Blk w' g e L := (h.block g hg).trans hb
end

section
variable {R p q : Nat} {w : World} {s : ByteArray}
theorem Rd.str (h : Rd w R s p) : w.cell? ⟨R, 0, none⟩ = some (.string s) := Blk.cell h 0 (by simp)
theorem Rd.pos (h : Rd w R s p) : w.cell? ⟨R, 1, none⟩ = some (.int .i64 p) := Blk.cell h 1 (by simp)
theorem Rd.free (h : Rd w R s p) (o : Nat) : w.frozen? ⟨R, o, none⟩ = false := Blk.free h o
theorem Rd.move (h : Rd w R s p) (n : Nat) (v : Int) (q : Nat) (hv : v = (q : Int)) : Rd ((w.drewN n).setCell ⟨R, 1, none⟩ (.int .i64 v)) R s q := by
  rw [hv]; exact Blk.set (Blk.drewN h n) 1 (.int .i64 q)
theorem Rd.move' (h : Rd w R s p) (v : Int) (q : Nat) (hv : v = (q : Int)) : Rd (w.setCell ⟨R, 1, none⟩ (.int .i64 v)) R s q := by
  rw [hv]; exact Blk.set h 1 (.int .i64 q)
theorem Rd.drewN (h : Rd w R s p) (n : Nat) : Rd (w.drewN n) R s p := h
end

set_option maxRecDepth 20000 in
set_option maxHeartbeats 1000000 in
/-- (*reader).uvarint -/
theorem uvarint29 (s : ByteArray) (p e R : Nat) (w : World) (hs : s.size ≤ 1048576) (hv : VEnd s p e) (hR : Rd w R s p) :
    Calls Try.prog 29 #[.pointer (some ⟨R, 0, none⟩)] w fun r w' => r = .returned (.int .u64 (vv s p (e - p) : Nat)) ∧ Rd w' R s e ∧ Only R w w' := by
  obtain ⟨v1, v2, v3, v4⟩ := hv
  have V3 : Hid (byteAt s (e - 1) < 128) := v3
  have V4 : Hid (∀ q, p ≤ q → q < e - 1 → 128 ≤ byteAt s q) := v4
  clear v3 v4
  go_enter Try.func29, Try.ntmps29
  go_wp2
  go_loopw [3, 4] (fun v i wr => ∃ j k : Nat, Hid (k = p + j) ∧ k < e ∧ v = .int .u64 (vv s p j : Nat) ∧ i = .int .i64 (7 * j : Nat) ∧ Rd wr R s k ∧ Only R w wr) (fun _ i _ => 7 * (e - p) - (intOf i).toNat)
  case atStart => exact ⟨0, p, rfl, by omega, rfl, rfl, hR, Only.refl _ _⟩
  case round =>
    obtain ⟨j, k, HK, hj, rfl, rfl, hr, ho⟩ := hrel
    have c0 := hr.str
    have c1 := hr.pos
    have f1 := hr.free 1
    have hvl := vv_lt s p j
    have hk : k < s.size := by omega
    have hk' : (k : Int) < (s.size : Int) := by omega
    have hj20 : j < 1048576 := by have := HK.out; omega
    have HB : Hid (byteAt s k = (s[k]).toNat) := byteAt_eq s k hk
    have HV : Hid (vv s p (j + 1) = (vv s p j + (byteAt s k % 128) * 2 ^ (7 * j)) % 18446744073709551616) := by have := vv_snoc s j p; rw [HK.out]; exact this
    have HO : Hid (∀ x, (s[k]).toNat % 128 * 2 ^ (7 * j) % 18446744073709551616 = x → bits .or .u64 (vv s p j : Int) (x : Int) = ((vv s p (j + 1) : Nat) : Int)) := by
      intro x hx
      rw [← hx, or_fwd _ _ _ hvl (vv_lt_pow s j p), HV.out, HB.out]
    clear HV
    by_cases hlast : k = e - 1
    · have hb : ((s[k]).toNat : Int) < 128 := by have := V3.out; rw [← hlast, HB.out] at this; omega
      have HL : Hid (k = e - 1) := hlast
      clear hlast
      go_wp2
      go_quiet (fail)
      go_wp2
      rw [shl_step (s[k]).toNat j (s[k]).toNat_lt]
      generalize hx : (s[k]).toNat % 128 * 2 ^ (7 * j) % 18446744073709551616 = x
      have HX : Hid ((s[k]).toNat % 128 * 2 ^ (7 * j) % 18446744073709551616 = x) := hx
      clear hx
      go_wp2
      go_ret
      have he : e - p = j + 1 := by have := HL.out; have := HK.out; omega
      exact ⟨ret_int (by rw [HO.out x HX.out, he]), hr.move nq _ e (by have := HL.out; omega), (ho.drewN nq).setCell _ _⟩
    · have hb : ¬ ((s[k]).toNat : Int) < 128 := by have := V4.out k (by have := HK.out; omega) (by omega); rw [HB.out] at this; omega
      have HL : Hid (k ≠ e - 1) := hlast
      clear hlast
      go_wp2
      go_quiet (fail)
      go_wp2
      rw [shl_step (s[k]).toNat j (s[k]).toNat_lt]
      generalize hx : (s[k]).toNat % 128 * 2 ^ (7 * j) % 18446744073709551616 = x
      have HX : Hid ((s[k]).toNat % 128 * 2 ^ (7 * j) % 18446744073709551616 = x) := hx
      clear hx
      go_wp2
      go_roundw
      case rel => exact ⟨j + 1, k + 1, by have := HK.out; unfold Hid; omega, by have := HL.out; omega, congrArg (Value.int .u64) (HO.out x HX.out), by go_num, hr.move nq _ (k + 1) (by omega), (ho.drewN nq).setCell _ _⟩
      case measure => have := HK.out; simp [intOf]; omega

set_option maxHeartbeats 1000000 in
/-- (*reader).text -/
theorem text30 (s : ByteArray) (p n R : Nat) (w : World) (hs : s.size ≤ 1048576) (hn : p + n ≤ s.size) (hR : Rd w R s p) :
    Calls Try.prog 30 #[.pointer (some ⟨R, 0, none⟩), .int .i64 n] w fun r w' => r = .returned (.string (s.extract p (p + n))) ∧ Rd w' R s (p + n) ∧ Only R w w' := by
  have c1 := hR.pos
  have f1 := hR.free 1
  have hR2 := hR.move' ((p : Int) + (n : Int)) (p + n) (by omega)
  have c0' := hR2.str
  have c1' : (w.setCell ⟨R, 1, none⟩ (.int .i64 ((p : Int) + (n : Int)))).cell? ⟨R, 1, none⟩ = some (.int .i64 ((p : Int) + (n : Int))) := by
    have := hR2.pos; rw [show ((p + n : Nat) : Int) = (p : Int) + (n : Int) by omega] at this; exact this
  have HR2 : Hid (Rd (w.setCell ⟨R, 1, none⟩ (.int .i64 ((p : Int) + (n : Int)))) R s (p + n)) := hR2
  clear hR hR2
  go_enter Try.func30, Try.ntmps30
  go_wp2
  go_quiet (fail)
  go_wp2
  go_ret
  exact ⟨rfl, HR2.out.drewN nq, ((Only.refl _ _).setCell _ _).drewN nq⟩

theorem zz_bits (u : Nat) (hu : u < 18446744073709551616) : bits .xor .i64 ((u : Int) / 2) (wrap64 (-wrap64 (bits .and .u64 (u : Int) 1))) = zz u := by
  have a1 : bits .and .u64 (u : Int) 1 = ((u % 2 : Nat) : Int) := by
    have := u64_and_nat u 1 hu (by decide)
    rw [nat_mask1] at this
    exact this
  rw [a1, show (u : Int) / 2 = ((u / 2 : Nat) : Int) by omega]
  unfold zz
  by_cases h : u % 2 = 0
  · rw [if_pos h, h, show wrap64 (-wrap64 ((0 : Nat) : Int)) = 0 by unfold wrap64; omega]
    exact xor_zero _ (by omega)
  · rw [if_neg h, show u % 2 = 1 by omega, show wrap64 (-wrap64 ((1 : Nat) : Int)) = -1 by unfold wrap64; omega]
    exact xor_neg1 _ (by omega)

set_option maxHeartbeats 1000000 in
/-- (*reader).varint -/
theorem varint31 (s : ByteArray) (p e R : Nat) (w : World) (hs : s.size ≤ 1048576) (hv : VEnd s p e) (hR : Rd w R s p) :
    Calls Try.prog 31 #[.pointer (some ⟨R, 0, none⟩)] w fun r w' => r = .returned (.int .i64 (zz (vv s p (e - p)))) ∧ Rd w' R s e ∧ Only R w w' := by
  have H29 : Hid (Calls Try.prog 29 #[.pointer (some ⟨R, 0, none⟩)] w fun r w' => r = .returned (.int .u64 (vv s p (e - p) : Nat)) ∧ Rd w' R s e ∧ Only R w w') := uvarint29 s p e R w hs hv hR
  clear hv hR
  have hlt := vv_lt s p (e - p)
  generalize vv s p (e - p) = u at *
  go_enter Try.func31, Try.ntmps31
  go_wp2_with fail
  refine H29.out.mono ?_
  rintro r w1 ⟨rfl, hr1, ho1⟩
  go_wp2
  go_ret
  exact ⟨ret_int (zz_bits u hlt), hr1, ho1⟩

end Go.Proofs.Qxb6617335a.Pc
