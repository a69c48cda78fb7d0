import Derived.Test.Qxb6617335aMarkPlain
namespace Go.Proofs.Qxb6617335a.Pc
open Go.Proofs.Qxb6617335a.Bm (bv bv_length bv_get)
set_option linter.unusedVariables false

/-- the byte of s at place i, 0 beyond its end -/
def byteAt (s : ByteArray) (i : Nat) : Nat := (s.data.toList.getD i 0).toNat

theorem byteAt_eq (s : ByteArray) (k : Nat) (h : k < s.size) : byteAt s k = (s[k]).toNat := by
  have h2 : k < s.data.toList.length := by simpa using h
  simp only [byteAt, List.getD_eq_getElem?_getD, List.getElem?_eq_getElem h2, Option.getD_some]
  rfl

theorem byteAt_lt (s : ByteArray) (k : Nat) : byteAt s k < 256 := UInt8.toNat_lt _

/-- the varint that starts at p ends just ahead of e -/
def VEnd (s : ByteArray) (p e : Nat) : Prop := p < e ∧ e ≤ s.size ∧ byteAt s (e - 1) < 128 ∧ ∀ q, p ≤ q → q < e - 1 → 128 ≤ byteAt s q

theorem VEnd.uniq {s : ByteArray} {p e e' : Nat} (h : VEnd s p e) (h' : VEnd s p e') : e = e' := by
  obtain ⟨h1, h2, h3, h4⟩ := h
  obtain ⟨k1, k2, k3, k4⟩ := h'
  rcases Nat.lt_trichotomy e e' with hlt | he | hgt
  · have := k4 (e - 1) (by omega) (by omega); omega
  · exact he
  · have := h4 (e' - 1) (by omega) (by omega); omega

/-- the value of the m bytes from p on, the least part first, as a uint64 holds it -/
def vv (s : ByteArray) : Nat → Nat → Nat
  | _, 0 => 0
  | p, m + 1 => (byteAt s p % 128 + 128 * vv s (p + 1) m) % 18446744073709551616

theorem vv_lt (s : ByteArray) (p m : Nat) : vv s p m < 18446744073709551616 := by
  cases m with
  | zero => simp [vv]
  | succ m => simp only [vv]; omega

theorem vv_lt_pow (s : ByteArray) : ∀ (m p : Nat), vv s p m < 2 ^ (7 * m)
  | 0, p => by simp [vv]
  | m + 1, p => by
    have ih := vv_lt_pow s m (p + 1)
    have e : 2 ^ (7 * (m + 1)) = 128 * 2 ^ (7 * m) := by
      rw [show 7 * (m + 1) = 7 * m + 7 by omega, Nat.pow_add]; omega
    simp only [vv]
    rw [e]
    omega

theorem vv_snoc (s : ByteArray) : ∀ (m p : Nat), vv s p (m + 1) = (vv s p m + (byteAt s (p + m) % 128) * 2 ^ (7 * m)) % 18446744073709551616
  | 0, p => by simp [vv]
  | m + 1, p => by
    have ih := vv_snoc s m (p + 1)
    have e : 2 ^ (7 * (m + 1)) = 128 * 2 ^ (7 * m) := by
      rw [show 7 * (m + 1) = 7 * m + 7 by omega, Nat.pow_add]; omega
    have e1 : vv s p (m + 1 + 1) = (byteAt s p % 128 + 128 * vv s (p + 1) (m + 1)) % 18446744073709551616 := rfl
    have e2 : vv s p (m + 1) = (byteAt s p % 128 + 128 * vv s (p + 1) m) % 18446744073709551616 := rfl
    rw [e1, e2, ih, e, show p + 1 + m = p + (m + 1) by omega]
    have e3 : byteAt s (p + (m + 1)) % 128 * (128 * 2 ^ (7 * m)) = 128 * (byteAt s (p + (m + 1)) % 128 * 2 ^ (7 * m)) := by
      rw [← Nat.mul_assoc, Nat.mul_comm (byteAt s (p + (m + 1)) % 128) 128, Nat.mul_assoc]
    rw [e3]
    generalize byteAt s (p + (m + 1)) % 128 * 2 ^ (7 * m) = y
    generalize vv s (p + 1) m = v
    omega

/-- zig-zag undone -/
def zz (u : Nat) : Int := if u % 2 = 0 then ((u / 2 : Nat) : Int) else -((u / 2 : Nat) : Int) - 1

/-- c signed varints from p on: their numbers, and where the last one ends -/
def Listed (s : ByteArray) (p : Nat) : Nat → List Int → Nat → Prop
  | 0, zs, q => zs = [] ∧ q = p
  | c + 1, zs, q => ∃ zs' q', Listed s p c zs' q' ∧ VEnd s q' q ∧ zs = zs' ++ [zz (vv s q' (q - q'))]

theorem Listed.length {s : ByteArray} {p : Nat} : ∀ {c : Nat} {zs : List Int} {q : Nat}, Listed s p c zs q → zs.length = c
  | 0, zs, q, h => by rw [h.1]; rfl
  | c + 1, zs, q, ⟨zs', q', h, _, e⟩ => by rw [e]; simp [Listed.length h]

theorem Listed.far {s : ByteArray} {p : Nat} : ∀ {c : Nat} {zs : List Int} {q : Nat}, Listed s p c zs q → p + c ≤ q
  | 0, zs, q, h => by rw [h.2]; omega
  | c + 1, zs, q, ⟨zs', q', h, hv, e⟩ => by
    have := Listed.far h
    have := hv.1
    omega

theorem Listed.le {s : ByteArray} {p : Nat} (hp : p ≤ s.size) : ∀ {c : Nat} {zs : List Int} {q : Nat}, Listed s p c zs q → q ≤ s.size
  | 0, zs, q, h => by rw [h.2]; exact hp
  | c + 1, zs, q, ⟨zs', q', h, hv, e⟩ => hv.2.1

theorem Listed.uniq {s : ByteArray} {p : Nat} : ∀ {c : Nat} {zs ys : List Int} {q r : Nat}, Listed s p c zs q → Listed s p c ys r → zs = ys ∧ q = r
  | 0, _, _, _, _, h, k => ⟨h.1.trans k.1.symm, h.2.trans k.2.symm⟩
  | c + 1, _, _, _, _, ⟨zs', q', h, hv, e⟩, ⟨ys', r', k, kv, f⟩ => by
    obtain ⟨rfl, rfl⟩ := Listed.uniq h k
    have := hv.uniq kv
    subst this
    exact ⟨e.trans f.symm, rfl⟩

/-- what stands at round j of a reading that comes to its end -/
theorem Listed.next {s : ByteArray} {p : Nat} : ∀ {c : Nat} {zs : List Int} {q : Nat}, Listed s p c zs q → ∀ j, j < c → ∃ q1 q2, Listed s p j (zs.take j) q1 ∧ VEnd s q1 q2 ∧ zs.getD j 0 = zz (vv s q1 (q2 - q1)) ∧ Listed s p (j + 1) (zs.take (j + 1)) q2
  | 0, _, _, _, j, hj => by omega
  | c + 1, zs, q, ⟨zs', q', h, hv, e⟩, j, hj => by
    have hl := h.length
    by_cases hjc : j < c
    · obtain ⟨q1, q2, h1, h2, h3, h4⟩ := Listed.next h j hjc
      subst e
      refine ⟨q1, q2, ?_, h2, ?_, ?_⟩
      · rw [List.take_append_of_le_length (by omega)]; exact h1
      · rw [← h3, List.getD_eq_getElem?_getD, List.getD_eq_getElem?_getD, List.getElem?_append_left (by omega)]
      · rw [List.take_append_of_le_length (by omega)]; exact h4
    · have hj' : j = zs'.length := by omega
      subst e
      refine ⟨q', q, ?_, hv, ?_, ?_⟩
      · rw [hj', List.take_left, hl]; exact h
      · rw [hj']; simp
      · rw [List.take_of_length_le (by simp; omega)]
        have hjc' : j = c := by omega
        rw [hjc']
        exact ⟨zs', q', h, hv, rfl⟩

/-- a whole packed piece of s at p -/
def Piece (s : ByteArray) (p : Nat) (keep : Bool) (text : ByteArray) (bs : Option (List Int)) (mark e2 : Nat) : Prop :=
  ∃ e, VEnd s p e ∧ ∃ n, n = vv s p (e - p) / 4 ∧ mark = vv s p (e - p) % 4 ∧ e + n ≤ s.size ∧ text = s.extract e (e + n) ∧
   ((mark = 1 ∧ e2 = e + n ∧ bs = if keep then some (bv text) else none) ∨
    (mark ≠ 1 ∧ mark ≠ 2 ∧ e2 = e + n ∧ bs = none) ∨
    (mark = 2 ∧ ∃ ce c zs, VEnd s (e + n) ce ∧ c = vv s (e + n) (ce - (e + n)) ∧ c ≤ s.size - ce ∧ Listed s ce c zs e2 ∧ bs = if keep then some zs else none))

/-- without keep: the same text, mark and end, no bytes -/
theorem Piece.drop {s : ByteArray} {p : Nat} {text : ByteArray} {bs : Option (List Int)} {mark e2 : Nat} (h : Piece s p true text bs mark e2) : Piece s p false text none mark e2 := by
  obtain ⟨e, hv, n, hn, hm, hle, ht, h⟩ := h
  refine ⟨e, hv, n, hn, hm, hle, ht, ?_⟩
  rcases h with ⟨h1, h2, _⟩ | ⟨h1, h2, h3, _⟩ | ⟨h1, ce, c, zs, h2, h3, h4, h5, _⟩
  · exact .inl ⟨h1, h2, rfl⟩
  · exact .inr (.inl ⟨h1, h2, h3, rfl⟩)
  · exact .inr (.inr ⟨h1, ce, c, zs, h2, h3, h4, h5, rfl⟩)

/-! ### a piece is read alike where it is cut out -/

/-- u holds at i what s holds at d + i, as long as d + i < m -/
def Alike (s u : ByteArray) (d m : Nat) : Prop := m ≤ s.size ∧ m - d ≤ u.size ∧ ∀ i, d ≤ i → i < m → byteAt u (i - d) = byteAt s i

theorem VEnd.cut {s u : ByteArray} {d m p e : Nat} (ha : Alike s u d m) (hp : d ≤ p) (he : e ≤ m) (h : VEnd s p e) : VEnd u (p - d) (e - d) := by
  obtain ⟨h1, h2, h3, h4⟩ := h
  obtain ⟨a1, a2, a3⟩ := ha
  refine ⟨by omega, by omega, ?_, ?_⟩
  · have := a3 (e - 1) (by omega) (by omega)
    rw [show e - d - 1 = e - 1 - d by omega, this]; exact h3
  · intro q hq1 hq2
    have := a3 (q + d) (by omega) (by omega)
    rw [show q + d - d = q by omega] at this
    rw [this]
    exact h4 (q + d) (by omega) (by omega)

theorem vv_cut {s u : ByteArray} {d m : Nat} (ha : Alike s u d m) : ∀ (k p : Nat), d ≤ p → p + k ≤ m → vv u (p - d) k = vv s p k
  | 0, _, _, _ => rfl
  | k + 1, p, hp, hk => by
    have ih := vv_cut ha k (p + 1) (by omega) (by omega)
    simp only [vv]
    rw [ha.2.2 p hp (by omega), show p - d + 1 = p + 1 - d by omega, ih]

theorem Listed.cut {s u : ByteArray} {d m p : Nat} (ha : Alike s u d m) (hp : d ≤ p) : ∀ {c : Nat} {zs : List Int} {q : Nat}, q ≤ m → Listed s p c zs q → Listed u (p - d) c zs (q - d)
  | 0, _, _, _, h => ⟨h.1, by rw [h.2]⟩
  | c + 1, zs, q, hq, ⟨zs', q', h, hv, e⟩ => by
    have h1 := hv.1
    have h2 := h.far
    refine ⟨zs', q' - d, Listed.cut ha hp (by omega) h, hv.cut ha (by omega) hq, ?_⟩
    rw [show q - d - (q' - d) = q - q' by omega, vv_cut ha (q - q') q' (by omega) (by omega)]
    exact e

theorem bytes_ext {a b : ByteArray} (hl : a.size = b.size) (h : ∀ i, i < a.size → byteAt a i = byteAt b i) : a = b := by
  apply ByteArray.ext
  apply Array.ext
  · exact hl
  · intro i h1 h2
    have := h i h1
    rw [byteAt_eq a i h1, byteAt_eq b i h2] at this
    exact UInt8.toNat_inj.1 this

theorem byteAt_extract (s : ByteArray) (a b i : Nat) (h : a + i < b) (hb : b ≤ s.size) : byteAt (s.extract a b) i = byteAt s (a + i) := by
  have h1 : i < (s.extract a b).size := by rw [ByteArray.size_extract]; omega
  rw [byteAt_eq _ _ h1, byteAt_eq s (a + i) (by omega), ByteArray.getElem_extract]

theorem Piece.cut {s u : ByteArray} {p : Nat} {keep : Bool} {text : ByteArray} {bs : Option (List Int)} {mark e2 : Nat} (h : Piece s p keep text bs mark e2) (ha : Alike s u p e2) : Piece u 0 keep text bs mark (e2 - p) := by
  obtain ⟨e, hv, n, hn, hm, hle, ht, h⟩ := h
  have hpe := hv.1
  have he2 : e + n ≤ e2 ∧ e2 ≤ s.size := by
    rcases h with ⟨h1, h2, _⟩ | ⟨h1, h2, h3, _⟩ | ⟨h1, ce, c, zs, h2, h3, h4, h5, _⟩
    · omega
    · omega
    · have := h2.1
      have := h5.far
      have := h5.le h2.2.1
      omega
  obtain ⟨he2, he3⟩ := he2
  have hv0 := hv.cut ha (Nat.le_refl _) (by omega)
  rw [Nat.sub_self] at hv0
  have hvv := vv_cut ha (e - p) p (Nat.le_refl _) (by omega)
  rw [Nat.sub_self] at hvv
  refine ⟨e - p, hv0, n, ?_, ?_, ?_, ?_, ?_⟩
  · rw [Nat.sub_zero, hvv]; exact hn
  · rw [Nat.sub_zero, hvv]; exact hm
  · have := ha.2.1; omega
  · rw [ht]
    have hu := ha.2.1
    refine bytes_ext (by rw [ByteArray.size_extract, ByteArray.size_extract]; omega) (fun i hi => ?_)
    rw [ByteArray.size_extract] at hi
    rw [byteAt_extract s e (e + n) i (by omega) hle, byteAt_extract u (e - p) (e - p + n) i (by omega) (by omega)]
    have := ha.2.2 (e + i) (by omega) (by omega)
    rw [show e + i - p = e - p + i by omega] at this
    exact this.symm
  · rcases h with ⟨h1, h2, h3⟩ | ⟨h1, h2, h3, h4⟩ | ⟨h1, ce, c, zs, h2, h3, h4, h5, h6⟩
    · exact .inl ⟨h1, by omega, h3⟩
    · exact .inr (.inl ⟨h1, h2, by omega, h4⟩)
    · have k1 := h2.1
      have k2 := h5.far
      have h2' := h2.cut ha (by omega) (by omega)
      rw [show e + n - p = e - p + n by omega] at h2'
      refine .inr (.inr ⟨h1, ce - p, c, zs, h2', ?_, ?_, h5.cut ha (by omega) (Nat.le_refl _), h6⟩)
      · have := vv_cut ha (ce - (e + n)) (e + n) (by omega) (by omega)
        rw [show e + n - p = e - p + n by omega] at this
        rw [show ce - p - (e - p + n) = ce - (e + n) by omega, this]
        exact h3
      · have := ha.2.1; omega

theorem alike_cat (s t : ByteArray) (p e : Nat) (hp : p ≤ e) (he : e ≤ s.size) : Alike s (s.extract p e ++ t) p e := by
  have hs : (s.extract p e ++ t).size = (e - p) + t.size := by rw [ByteArray.size_append, ByteArray.size_extract]; omega
  refine ⟨he, by omega, fun i h1 h2 => ?_⟩
  have h3 : i - p < (s.extract p e).size := by rw [ByteArray.size_extract]; omega
  have h4 : i - p < (s.extract p e ++ t).size := by omega
  rw [byteAt_eq _ _ h4, byteAt_eq s i (by omega), ByteArray.getElem_append_left h3, ByteArray.getElem_extract]
  congr 2
  omega
end Go.Proofs.Qxb6617335a.Pc
