import Derived.Test.Qxb6617335aMark
import Derived.Test.Qxb6617335aBlk
namespace Go.Proofs.Qxb6617335a.Spells
open Go.RowKit Bm Own
set_option linter.unusedVariables false

/-- what stands in the buffer behind k rounds -/
def buf (zs : List Int) (n k : Nat) : List Value := (zs.take k).map (Value.int .u8) ++ List.replicate (n - k) (.int .u8 0)

theorem buf_zero (zs : List Int) (n : Nat) : buf zs n 0 = List.replicate n (.int .u8 0) := by simp [buf]
theorem buf_length (zs : List Int) (n k : Nat) (hz : zs.length = n) (hk : k ≤ n) : (buf zs n k).length = n := by simp [buf]; omega
theorem buf_succ (zs : List Int) (n k : Nat) (hz : zs.length = n) (hk : k < n) : (buf zs n k).set k (.int .u8 (zs.getD k 0)) = buf zs n (k + 1) := by
  unfold buf
  have h1 : ((zs.take k).map (Value.int .u8)).length = k := by simp; omega
  have h2 : List.replicate (n - k) (Value.int .u8 0) = .int .u8 0 :: List.replicate (n - (k + 1)) (.int .u8 0) := by
    rw [show n - k = (n - (k + 1)) + 1 by omega, List.replicate_succ]
  rw [h2, List.set_append_right _ _ (by omega), h1, Nat.sub_self, List.set_cons_zero, List.take_succ_eq_append_getElem (by omega), List.map_append]
  simp [List.getD_eq_getElem?_getD, List.getElem?_eq_getElem (show k < zs.length by omega)]

/-- the string that the buffer's bytes make -/
def strOf (zs : List Int) : ByteArray := zs.foldl (fun r n => r.push (UInt8.ofNat n.toNat)) ByteArray.empty

theorem bv_push (r : ByteArray) (z : Int) (h : 0 ≤ z ∧ z ≤ 255) : bv (r.push (UInt8.ofNat z.toNat)) = bv r ++ [z] := by
  simp only [bv, ByteArray.data_push, Array.toList_push, List.map_append, List.map_cons, List.map_nil]
  congr 2
  simp only [UInt8.toNat_ofNat']
  omega

theorem bv_fold (zs : List Int) : ∀ (r : ByteArray), (∀ z ∈ zs, 0 ≤ z ∧ z ≤ 255) → bv (zs.foldl (fun r n => r.push (UInt8.ofNat n.toNat)) r) = bv r ++ zs := by
  induction zs with
  | nil => intro r _; simp
  | cons z zs ih =>
    intro r h
    rw [List.foldl_cons, ih _ (fun x hx => h x (List.mem_cons_of_mem _ hx)), bv_push r z (h z List.mem_cons_self)]
    simp

theorem bv_strOf (zs : List Int) (h : ∀ z ∈ zs, 0 ≤ z ∧ z ≤ 255) : bv (strOf zs) = zs := by
  unfold strOf
  rw [bv_fold zs _ h]
  rfl

theorem map_inj : ∀ (l m : List UInt8), (l.map fun b => (b.toNat : Int)) = (m.map fun b => (b.toNat : Int)) → l = m
  | [], [], _ => rfl
  | [], _ :: _, h => by simp at h
  | _ :: _, [], h => by simp at h
  | a :: l, b :: m, h => by
    simp only [List.map_cons, List.cons.injEq] at h
    have h1 : a.toNat = b.toNat := by omega
    rw [UInt8.toNat_inj.1 h1, map_inj l m h.2]

theorem same_str (S s : ByteArray) (zs : List Int) (h : bv S = zs) : (S.toList == s.toList) = same s zs := by
  rw [ByteArray.toList_eq, ByteArray.toList_eq, same, Bool.eq_iff_iff, beq_iff_eq, beq_iff_eq, ← h]
  constructor
  · intro e; simp only [bv, e]
  · intro e; exact map_inj _ _ e

theorem ret_bool {a b : Bool} (h : a = b) : Ending.returned (.bool a) = .returned (.bool b) := by rw [h]

theorem conv18 (w : World) (g n : Nat) (zs : List Int) (hB : Blk w g 5 (zs.map (Value.int .u8))) (hz : zs.length = n) :
    (convert 51 9 (.slice (some ⟨g, 0, none⟩) n n)).run Try.prog w = .ok (.string (strOf zs)) w := by
  rw [run_convert_bytes_string w 51 9 5 _ n n Try.underlying51 Try.underlying5 Try.underlying9]
  refine run_bytesToString w ⟨g, 0, none⟩ n n zs ?_
  have h := run_loadCells_list (P := Try.prog) w ⟨g, 0, none⟩ (zs.map (Value.int .u8)) (fun j v hv => by
    obtain ⟨hj, hv⟩ := List.getElem?_eq_some_iff.1 hv
    have := hB.cell j hj
    rw [hv] at this
    have e : (⟨g, 0, none⟩ : Addr).add j = ⟨g, j, none⟩ := by
      cases j <;> simp [Addr.add]
    rw [e]; exact this)
  simpa [hz] using h

set_option maxHeartbeats 1000000 in
theorem spells18 (s : ByteArray) (b n : Nat) (zs : List Int) (w : World) (hs : s.size ≤ maxLen) (hn : ¬ 65536 < n) (hz : zs.length = n)
    (hc : ∀ i, i < n → w.cell? ⟨b, i, none⟩ = some (.int .i64 (zs.getD i 0))) :
    Calls Try.prog 18 #[.slice (some ⟨b, 0, none⟩) n n, .string s] w fun e w' => e = .returned (.bool (same s zs)) ∧ Below w.heap.size w w' := by
  have HZ : Hid (zs.length = n) := hz
  have HC : Hid (∀ i, i < n → w.cell? ⟨b, i, none⟩ = some (.int .i64 (zs.getD i 0))) := hc
  clear hz hc
  unfold maxLen at hs
  go_enter Try.func18, Try.ntmps18
  go_wp2_with (at_make; refine wpList_make_blk _ rfl (.tmp 8) 51 5 rfl (.int .u8 0) 1 info_byte rfl Try.underlying51 n _ rfl rfl (by omega) (by unfold maxLen; omega) ?_; intro w1 hblk hb1 hlt1)
  rw [← buf_zero zs n] at hblk
  go_loopw [6] (fun i wr => ∃ k : Nat, k ≤ n ∧ i = .int .i64 k ∧ Hid (∀ j, j < k → 0 ≤ zs.getD j 0 ∧ zs.getD j 0 ≤ 255) ∧ Blk wr w.heap.size 5 (buf zs n k) ∧ Below w.heap.size w wr) (fun i _ => n - (intOf i).toNat)
  case atStart => exact ⟨0, Nat.zero_le _, rfl, fun j h => absurd h (by omega), hblk, hb1⟩
  case round =>
    obtain ⟨k, hk, rfl, H, hB, hb⟩ := hrel
    by_cases hlt : k < n
    · have hcell : wr.cell? ⟨b, k, none⟩ = some (.int .i64 (zs.getD k 0)) := cell_later hb (HC.out k hlt)
      generalize hzk : zs.getD k 0 = z at hcell
      have HK : Hid (zs.getD k 0 = z) := hzk
      clear hzk
      by_cases hr : 0 ≤ z ∧ z ≤ 255
      · obtain ⟨hr1, hr2⟩ := hr
        have hfr := hB.free k
        obtain ⟨old, hcl⟩ := hB.some k (by rw [buf_length zs n k HZ.out hk]; exact hlt)
        have HS : Hid (Blk (wr.setCell ⟨w.heap.size, k, none⟩ (.int .u8 z)) w.heap.size 5 (buf zs n (k + 1))) := by
          have := hB.set k (.int .u8 z)
          rw [← HK.out, buf_succ zs n k HZ.out hlt] at this
          rw [← HK.out]
          exact this
        go_wp2
        go_roundw
        case rel => exact ⟨k + 1, by omega, by go_num, fun j hj => by
          by_cases hjk : j = k
          · subst hjk; rw [HK.out]; exact ⟨hr1, hr2⟩
          · exact H.out j (by omega), HS.out, hb.setCell (Nat.le_refl _) _⟩
        case measure => simp [intOf]; omega
      · have HF : Hid (same s zs = false) := by
          have hzk := HK.out
          simp only [Hid, same, beq_eq_false_iff_ne]
          intro e
          apply hr
          rw [e] at hzk
          by_cases hks : k < s.size
          · rw [bv_get s k hks] at hzk
            have := (s[k]).toNat_lt
            omega
          · have : (bv s).length = s.size := bv_length s
            have hl := HZ.out
            rw [e] at hl
            omega
        by_cases hr0 : z < 0
        · go_wp2
          go_ret
          exact ⟨ret_bool HF.out.symm, hb⟩
        · have hr9 : 255 < z := by omega
          go_wp2
          go_ret
          exact ⟨ret_bool HF.out.symm, hb⟩
    · have hkn : k = n := by omega
      subst hkn
      have hB' : Blk wr w.heap.size 5 (zs.map (Value.int .u8)) := by
        have := hB
        unfold buf at this
        rw [List.take_of_length_le (by rw [HZ.out]; exact Nat.le_refl _), Nat.sub_self] at this
        simpa using this
      have hconv := conv18 wr w.heap.size k zs hB' HZ.out
      generalize hS : strOf zs = S at hconv
      have HS : Hid (bv S = zs) := by
        rw [← hS]
        refine bv_strOf zs (fun z hz => ?_)
        obtain ⟨j, hj, rfl⟩ := List.getElem_of_mem hz
        have := H.out j (by rw [HZ.out] at hj; exact hj)
        simpa [List.getD_eq_getElem?_getD, hj] using this
      clear hS hB hB' hblk
      go_wp2
      go_ret
      exact ⟨ret_bool (same_str S s zs HS.out), hb⟩
end Go.Proofs.Qxb6617335a.Spells
