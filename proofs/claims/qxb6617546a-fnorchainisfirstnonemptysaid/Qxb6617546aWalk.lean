import Derived.Test.Qxb6617546aRows
import Derived.Test.Qxb6617546aPlain
import Derived.WalkKit
import Derived.ProofKit
import Derived.WalkSpells
import Derived.WalkLawsBesides
namespace Go.Proofs.Qxb6617546a.Or
open Go.RowKit
set_option linter.unusedVariables false

theorem ret_str {a b : ByteArray} (h : a = b) : Ending.returned (.string a) = .returned (.string b) := by rw [h]

theorem or6 (v d : ByteArray) (w : World) :
    Calls Try.prog 6 #[.string v, .string d] w fun e w' => e = .returned (.string (orr v d)) ∧ w = w' := by
  by_cases h : v.size = 0
  · rw [orr_yes h, empty_of h]
    clear h
    go_enter Try.func6, Try.ntmps6
    go_wp2
    go_ret
    exact ⟨rfl, rfl⟩
  · have h' : v.toList.isEmpty = false := by
      rw [ByteArray.toList_eq, List.isEmpty_eq_false_iff]
      intro e
      apply h
      have : v.data.toList.length = 0 := by rw [e]; rfl
      simpa using this
    rw [orr_no h]
    clear h
    go_enter Try.func6, Try.ntmps6
    go_wp2
    go_ret
    exact ⟨rfl, rfl⟩

theorem or5 (v d : ByteArray) (w : World) :
    Calls Try.prog 5 #[.string v, .string d] w fun e w' => e = .returned (.string (orr v d)) ∧ w = w' := by
  have H : Hid (Calls Try.prog 6 #[.string v, .string d] w fun e w' => e = .returned (.string (orr v d)) ∧ w = w') := or6 v d w
  generalize orr v d = r at *
  go_enter Try.func5, Try.ntmps5
  go_wp2_with fail
  refine H.out.mono ?_
  rintro e _ ⟨rfl, rfl⟩
  go_wp2
  go_ret
  exact ⟨rfl, rfl⟩

def SomeBool (e : Ending) : Prop := ∃ b, e = .returned (.bool b)

set_option maxHeartbeats 1000000 in
/-- the bound on lengths: it answers some bool and touches nothing -/
theorem size4 (b off n c : Nat) (ss : List ByteArray) (d : ByteArray) (w : World) (hc : ∀ i, i < n → w.cell? ⟨b, off + i, none⟩ = some (.string (ss.getD i ByteArray.empty))) (hM : ∀ i, i < n → (ss.getD i ByteArray.empty).size ≤ maxLen) (hn : n ≤ maxLen) (hd : d.size ≤ maxLen) :
    Calls Try.prog 4 #[.slice (some ⟨b, off, none⟩) n c, .string d] w fun e w' => SomeBool e ∧ w = w' := by
  have HC : Hid (∀ i, i < n → w.cell? ⟨b, off + i, none⟩ = some (.string (ss.getD i ByteArray.empty))) := hc
  have HM : Hid (∀ i, i < n → (ss.getD i ByteArray.empty).size ≤ maxLen) := hM
  clear hc hM
  unfold maxLen at hn hd
  by_cases hbig : 1048576 < n
  · go_enter Try.func4, Try.ntmps4
    go_wp2
    go_ret
    exact ⟨⟨_, rfl⟩, rfl⟩
  · go_enter Try.func4, Try.ntmps4
    go_wp2
    go_loop [5, 6] (fun t i => ∃ (k : Nat) (z : Nat), k ≤ n ∧ i = .int .i64 k ∧ z ≤ 1048576 ∧ t = .int .i64 z) (fun _ i => n - (intOf i).toNat)
    case atStart => exact ⟨0, n, Nat.zero_le _, rfl, by omega, rfl⟩
    case round =>
      obtain ⟨k, z, hk, rfl, hz, rfl⟩ := hrel
      by_cases hlt : k < n
      · have hcell := HC.out k hlt
        have hmx := HM.out k hlt
        unfold maxLen at hmx
        generalize ss.getD k ByteArray.empty = x at hcell hmx
        by_cases h1 : 1048576 < x.size
        · go_wp2
          go_ret
          exact ⟨⟨_, rfl⟩, rfl⟩
        · by_cases h2 : 1048576 < z + x.size
          · go_wp2
            go_ret
            exact ⟨⟨_, rfl⟩, rfl⟩
          · go_wp2
            go_round
            case rel => exact ⟨k + 1, z + x.size, by omega, by go_num, by omega, by go_num⟩
            case measure => simp [intOf]; omega
      · go_wp2
        all_goals (go_ret; exact ⟨⟨_, rfl⟩, rfl⟩)

set_option maxHeartbeats 400000 in
theorem size4_0 (a : Option Addr) (c : Nat) (d : ByteArray) (w : World) (hd : d.size ≤ maxLen) :
    Calls Try.prog 4 #[.slice a 0 c, .string d] w fun e w' => SomeBool e ∧ w = w' := by
  unfold maxLen at hd
  go_enter Try.func4, Try.ntmps4
  go_wp2
  refine wp_loop_rounds 1 ?_
  rw [rounds_succ]
  go_wp2
  all_goals (go_ret; exact ⟨⟨_, rfl⟩, rfl⟩)

theorem want_step (ss : List ByteArray) (k : Nat) (d x : ByteArray) (hk : k < ss.length) (hx : ss.getD k ByteArray.empty = x) : first (ss.drop k) d = orr x (first (ss.drop (k + 1)) d) := by
  rw [drop_cons ss k hk, hx]; rfl

theorem left_step (ss : List ByteArray) (k : Nat) (x : ByteArray) (hk : k < ss.length) (hx : ss.getD k ByteArray.empty = x) : first (ss.take (k + 1)) ⟨#[]⟩ = orr (first (ss.take k) ⟨#[]⟩) x := by
  rw [take_snoc ss k hk, hx, first_snoc]

set_option maxRecDepth 20000 in
set_option maxHeartbeats 4000000 in
theorem walk_in (b off n c : Nat) (ss : List ByteArray) (d : ByteArray) (w : World) (hc : ∀ i, i < n → w.cell? ⟨b, off + i, none⟩ = some (.string (ss.getD i ByteArray.empty))) (hM : ∀ i, i < n → (ss.getD i ByteArray.empty).size ≤ maxLen)
    (hl : ss.length = n) (hn : n ≤ 65536) (hd : d.size ≤ 1048576) :
    Calls Try.prog 3 #[.slice (some ⟨b, off, none⟩) n c, .string d] w fun e w' => e = .returned (.bool true) ∧ w = w' := by
  have H4 : Hid (Calls Try.prog 4 #[.slice (some ⟨b, off, none⟩) n c, .string d] w fun e w' => SomeBool e ∧ w = w') := size4 b off n c ss d w hc hM (by unfold maxLen; omega) (by unfold maxLen; omega)
  have HC : Hid (∀ i, i < n → w.cell? ⟨b, off + i, none⟩ = some (.string (ss.getD i ByteArray.empty))) := hc
  have HM : Hid (∀ i, i < n → (ss.getD i ByteArray.empty).size ≤ maxLen) := hM
  have HL : Hid (ss.length = n) := hl
  clear hc hM hl
  go_enter Try.func3, Try.ntmps3
  go_wp2_with fail
  refine H4.out.mono ?_
  rintro e _ ⟨⟨bb, rfl⟩, rfl⟩
  cases bb
  · go_wp2
    go_ret
    exact ⟨rfl, rfl⟩
  · go_wp2
    go_loop [5, 6] (fun t i => ∃ (k : Nat) (z : Nat), k ≤ n ∧ i = .int .i64 k ∧ z ≤ 1048576 ∧ t = .int .i64 z) (fun _ i => n - (intOf i).toNat)
    case atStart => exact ⟨0, d.size, Nat.zero_le _, rfl, hd, rfl⟩
    case round =>
      obtain ⟨k, z, hk, rfl, hz, rfl⟩ := hrel
      by_cases hlt : k < n
      · have hcell := HC.out k hlt
        have hmx := HM.out k hlt
        unfold maxLen at hmx
        generalize ss.getD k ByteArray.empty = x at hcell hmx
        by_cases h1 : 1048576 < x.size
        · go_wp2
          go_ret
          exact ⟨rfl, rfl⟩
        · by_cases h2 : 1048576 < z + 16 + x.size
          · go_wp2
            go_ret
            exact ⟨rfl, rfl⟩
          · go_wp2
            go_round
            case rel => exact ⟨k + 1, z + 16 + x.size, by omega, by go_num, by omega, by go_num⟩
            case measure => simp [intOf]; omega
      · go_wp2
        clear hk hlt hz
        go_loop [7, 8] (fun v i => ∃ k : Nat, k ≤ n ∧ i = .int .i64 k ∧ v = .string d ∧ Hid (first ss d = first (ss.drop k) d)) (fun _ i => n - (intOf i).toNat)
        case atStart => exact ⟨0, Nat.zero_le _, rfl, rfl, rfl⟩
        case round =>
          obtain ⟨k2, hk2, rfl, rfl, HF⟩ := hrel
          by_cases hlt2 : k2 < n
          · have hcell := HC.out k2 hlt2
            have hmx := HM.out k2 hlt2
            unfold maxLen at hmx
            generalize hx : ss.getD k2 ByteArray.empty = x at hcell hmx
            have HX : Hid (first (ss.drop k2) d = orr x (first (ss.drop (k2 + 1)) d)) := want_step ss k2 d x (by rw [HL.out]; omega) hx
            clear hx
            by_cases hxe : x.size = 0
            · have HN : Hid (first ss d = first (ss.drop (k2 + 1)) d) := by rw [HF.out, HX.out, orr_yes hxe]; exact rfl
              have hxe' : ((x.size : Int) != 0) = false := by simp [hxe]
              clear hxe
              go_wp2
              go_round
              case rel => exact ⟨k2 + 1, by omega, by go_num, rfl, HN⟩
              case measure => simp [intOf]; omega
            · have hxe' : ((x.size : Int) != 0) = true := by rw [bne_iff_ne]; omega
              have HW : Hid (first ss d = x) := by rw [HF.out, HX.out, orr_no hxe]; exact rfl
              clear hxe
              go_wp2
              go_loop [9, 10] (fun v i => ∃ k : Nat, k ≤ n ∧ i = .int .i64 ((k : Int) - 1) ∧ v = .string (first (ss.drop k) d)) (fun _ i => (intOf i + 1).toNat)
              case atStart => exact ⟨n, Nat.le_refl _, rfl, by rw [List.drop_of_length_le (by rw [HL.out]; exact Nat.le_refl _)]; rfl⟩
              case round =>
                obtain ⟨k3, hk3, rfl, rfl⟩ := hrel
                by_cases hlt3 : 0 < k3
                · obtain ⟨j, rfl⟩ : ∃ j, k3 = j + 1 := ⟨k3 - 1, by omega⟩
                  have hcell := HC.out j (by omega)
                  generalize hx : ss.getD j ByteArray.empty = y at hcell
                  have HX : Hid (first (ss.drop j) d = orr y (first (ss.drop (j + 1)) d)) := want_step ss j d y (by rw [HL.out]; omega) hx
                  clear hx
                  generalize first (ss.drop (j + 1)) d = rr at *
                  go_wp2_with fail
                  refine (or5 y rr w).mono ?_
                  rintro e _ ⟨rfl, rfl⟩
                  rw [← HX.out]
                  generalize hr' : first (ss.drop j) d = rn
                  have HR' : Hid (rn = first (ss.drop j) d) := hr'.symm
                  clear hr'
                  go_wp2
                  go_round
                  case rel => exact ⟨j, by omega, rfl, by rw [HR'.out]⟩
                  case measure => simp [intOf]
                · have hk0 : k3 = 0 := by omega
                  subst hk0
                  rw [List.drop_zero, HW.out]
                  go_wp2
                  go_loop [11, 12] (fun v i => ∃ k : Nat, k ≤ n ∧ i = .int .i64 k ∧ v = .string (first (ss.take k) ⟨#[]⟩)) (fun _ i => n - (intOf i).toNat)
                  case atStart => exact ⟨0, Nat.zero_le _, rfl, rfl⟩
                  case round =>
                    obtain ⟨k4, hk4, rfl, rfl⟩ := hrel
                    by_cases hlt4 : k4 < n
                    · have hcell := HC.out k4 hlt4
                      generalize hx : ss.getD k4 ByteArray.empty = y at hcell
                      have HX : Hid (first (ss.take (k4 + 1)) ⟨#[]⟩ = orr (first (ss.take k4) ⟨#[]⟩) y) := left_step ss k4 y (by rw [HL.out]; omega) hx
                      clear hx
                      generalize first (ss.take k4) ⟨#[]⟩ = rr at *
                      go_wp2_with fail
                      refine (or5 rr y w).mono ?_
                      rintro e _ ⟨rfl, rfl⟩
                      rw [← HX.out]
                      generalize hr' : first (ss.take (k4 + 1)) ⟨#[]⟩ = rn
                      have HR' : Hid (rn = first (ss.take (k4 + 1)) ⟨#[]⟩) := hr'.symm
                      clear hr'
                      go_wp2
                      go_round
                      case rel => exact ⟨k4 + 1, by omega, by go_num, by rw [HR'.out]⟩
                      case measure => simp [intOf]; omega
                    · have hk4n : k4 = n := by omega
                      subst hk4n
                      rw [List.take_of_length_le (by rw [HL.out]; exact Nat.le_refl _)]
                      have HX : Hid (orr (first ss ⟨#[]⟩) d = x) := (first_or ss d).trans HW.out
                      generalize first ss ⟨#[]⟩ = rr at *
                      go_wp2_with fail
                      refine (or5 rr d w).mono ?_
                      rintro e _ ⟨rfl, rfl⟩
                      rw [HX.out]
                      go_wp2
                      go_ret
                      exact ⟨rfl, rfl⟩
          · have hkn : k2 = n := by omega
            have HW : Hid (first ss d = d) := by rw [HF.out, List.drop_of_length_le (by rw [HL.out]; omega)]; exact rfl
            clear hkn
            go_wp2
            go_loop [9, 10] (fun v i => ∃ k : Nat, k ≤ n ∧ i = .int .i64 ((k : Int) - 1) ∧ v = .string (first (ss.drop k) d)) (fun _ i => (intOf i + 1).toNat)
            case atStart => exact ⟨n, Nat.le_refl _, rfl, by rw [List.drop_of_length_le (by rw [HL.out]; exact Nat.le_refl _)]; rfl⟩
            case round =>
              obtain ⟨k3, hk3, rfl, rfl⟩ := hrel
              by_cases hlt3 : 0 < k3
              · obtain ⟨j, rfl⟩ : ∃ j, k3 = j + 1 := ⟨k3 - 1, by omega⟩
                have hcell := HC.out j (by omega)
                generalize hx : ss.getD j ByteArray.empty = y at hcell
                have HX : Hid (first (ss.drop j) d = orr y (first (ss.drop (j + 1)) d)) := want_step ss j d y (by rw [HL.out]; omega) hx
                clear hx
                generalize first (ss.drop (j + 1)) d = rr at *
                go_wp2_with fail
                refine (or5 y rr w).mono ?_
                rintro e _ ⟨rfl, rfl⟩
                rw [← HX.out]
                generalize hr' : first (ss.drop j) d = rn
                have HR' : Hid (rn = first (ss.drop j) d) := hr'.symm
                clear hr'
                go_wp2
                go_round
                case rel => exact ⟨j, by omega, rfl, by rw [HR'.out]⟩
                case measure => simp [intOf]
              · have hk0 : k3 = 0 := by omega
                subst hk0
                rw [List.drop_zero, HW.out]
                go_wp2
                go_loop [11, 12] (fun v i => ∃ k : Nat, k ≤ n ∧ i = .int .i64 k ∧ v = .string (first (ss.take k) ⟨#[]⟩)) (fun _ i => n - (intOf i).toNat)
                case atStart => exact ⟨0, Nat.zero_le _, rfl, rfl⟩
                case round =>
                  obtain ⟨k4, hk4, rfl, rfl⟩ := hrel
                  by_cases hlt4 : k4 < n
                  · have hcell := HC.out k4 hlt4
                    generalize hx : ss.getD k4 ByteArray.empty = y at hcell
                    have HX : Hid (first (ss.take (k4 + 1)) ⟨#[]⟩ = orr (first (ss.take k4) ⟨#[]⟩) y) := left_step ss k4 y (by rw [HL.out]; omega) hx
                    clear hx
                    generalize first (ss.take k4) ⟨#[]⟩ = rr at *
                    go_wp2_with fail
                    refine (or5 rr y w).mono ?_
                    rintro e _ ⟨rfl, rfl⟩
                    rw [← HX.out]
                    generalize hr' : first (ss.take (k4 + 1)) ⟨#[]⟩ = rn
                    have HR' : Hid (rn = first (ss.take (k4 + 1)) ⟨#[]⟩) := hr'.symm
                    clear hr'
                    go_wp2
                    go_round
                    case rel => exact ⟨k4 + 1, by omega, by go_num, by rw [HR'.out]⟩
                    case measure => simp [intOf]; omega
                  · have hk4n : k4 = n := by omega
                    subst hk4n
                    rw [List.take_of_length_le (by rw [HL.out]; exact Nat.le_refl _)]
                    have HX : Hid (orr (first ss ⟨#[]⟩) d = d) := (first_or ss d).trans HW.out
                    generalize first ss ⟨#[]⟩ = rr at *
                    go_wp2_with fail
                    refine (or5 rr d w).mono ?_
                    rintro e _ ⟨rfl, rfl⟩
                    rw [HX.out]
                    go_wp2
                    go_ret
                    exact ⟨rfl, rfl⟩
end Go.Proofs.Qxb6617546a.Or
