/-
  The walks of the small functions: ZZescapeInvisible, zzVisible, zzHexVal, zzAllVisible, zzCountInvisible, the three zzBytes.
-/
import Derived.Test.Qxb6617208aEsc
namespace Go.Proofs.Qxb6617208a
open Go.RowKit
set_option linter.unusedVariables false

theorem ret_bool {a b : Bool} (h : a = b) : Ending.returned (.bool a) = .returned (.bool b) := by rw [h]
theorem ret_int {k : IntKind} {a b : Int} (h : a = b) : Ending.returned (.int k a) = .returned (.int k b) := by rw [h]

set_option maxHeartbeats 400000 in
theorem zesc_any (s : ByteArray) (w : World) (hs : s.size ≤ 16777216) :
    Calls Try.prog 7 #[.string s] w fun e w' => e = .returned (.string (escB s)) ∧ Below w.heap.size w w' := by
  go_enter Try.func7, Try.ntmps7
  go_wp2_with (go_at_call 14; refine (esc_any s _ hs).mono ?_; rintro e w' ⟨rfl, hb⟩)
  go_ret
  exact ⟨rfl, hb⟩

set_option maxHeartbeats 400000 in
theorem vis_yes (c : UInt8) (w : World) (h : vis c = true) :
    Calls Try.prog 8 #[.int .u8 (c.toNat : Int)] w fun e w' => e = .returned (.bool true) ∧ w' = w := by
  simp only [vis, Bool.and_eq_true, decide_eq_true_eq] at h
  have h1 : (33 : Int) ≤ (c.toNat : Int) := by omega
  have h2 : (c.toNat : Int) ≤ 126 := by omega
  clear h
  go_enter Try.func8, Try.ntmps8
  go_wp2
  go_ret
  exact ⟨by first | rfl | exact ret_bool (by simp [h1, h2]), rfl⟩

set_option maxHeartbeats 400000 in
theorem vis_no (c : UInt8) (w : World) (h : vis c = false) :
    Calls Try.prog 8 #[.int .u8 (c.toNat : Int)] w fun e w' => e = .returned (.bool false) ∧ w' = w := by
  have h' : (c.toNat : Int) < 33 ∨ (33 ≤ (c.toNat : Int) ∧ 126 < (c.toNat : Int)) := by
    simp only [vis, Bool.and_eq_false_iff, decide_eq_false_iff_not] at h
    omega
  clear h
  rcases h' with h1 | ⟨h1, h2⟩
  all_goals
    go_enter Try.func8, Try.ntmps8
    go_wp2
    go_ret
    exact ⟨by first | rfl | (exact ret_bool (by simp; omega)), rfl⟩

set_option maxHeartbeats 400000 in
theorem hex_dig (c : UInt8) (w : World) (h1 : (48 : Int) ≤ (c.toNat : Int)) (h2 : (c.toNat : Int) ≤ 57) :
    Calls Try.prog 9 #[.int .u8 (c.toNat : Int)] w fun e w' => e = .returned (.int .i64 ((c.toNat : Int) - 48)) ∧ w' = w := by
  go_enter Try.func9, Try.ntmps9
  go_wp2
  go_ret
  exact ⟨rfl, rfl⟩

set_option maxHeartbeats 400000 in
theorem hex_let (c : UInt8) (w : World) (h1 : (65 : Int) ≤ (c.toNat : Int)) (h2 : (c.toNat : Int) ≤ 70) :
    Calls Try.prog 9 #[.int .u8 (c.toNat : Int)] w fun e w' => e = .returned (.int .i64 ((c.toNat : Int) - 65 + 10)) ∧ w' = w := by
  have h0 : ¬ (c.toNat : Int) ≤ 57 := by omega
  go_enter Try.func9, Try.ntmps9
  go_wp2
  go_ret
  exact ⟨rfl, rfl⟩

theorem hexd_dig : ∀ n : Nat, n < 10 → (hexd n).toNat = 48 + n := by decide +kernel
theorem hexd_let : ∀ n : Nat, n < 16 → 10 ≤ n → (hexd n).toNat = 55 + n := by decide +kernel

/-- zzHexVal at a digit that escapeInvisible writes. -/
theorem hex_any (n : Nat) (hn : n < 16) (w : World) :
    Calls Try.prog 9 #[.int .u8 ((hexd n).toNat : Int)] w fun e w' => e = .returned (.int .i64 (n : Int)) ∧ w' = w := by
  by_cases h : n < 10
  · have e := hexd_dig n h
    refine (hex_dig (hexd n) w (by omega) (by omega)).mono ?_
    rintro e' w' ⟨rfl, rfl⟩
    exact ⟨ret_int (by omega), rfl⟩
  · have e := hexd_let n hn (by omega)
    refine (hex_let (hexd n) w (by omega) (by omega)).mono ?_
    rintro e' w' ⟨rfl, rfl⟩
    exact ⟨ret_int (by omega), rfl⟩

set_option maxHeartbeats 400000 in
theorem all_any (s : ByteArray) (w : World) (hs : s.size ≤ 1073741824) :
    Calls Try.prog 12 #[.string s] w fun e w' => e = .returned (.bool (allVis s)) ∧ w' = w := by
  go_enter Try.func12, Try.ntmps12
  go_wp2
  go_loop [3] (fun i => ∃ k : Nat, k ≤ s.size ∧ i = .int .i64 k ∧ Hid ((s.data.toList.take k).all vis = true)) (fun i => s.size - (intOf i).toNat)
  case atStart => exact ⟨0, Nat.zero_le _, rfl, rfl⟩
  case round =>
    obtain ⟨k, hk, rfl, HA⟩ := hrel
    by_cases hlt : k < s.size
    · have HV : Hid (vis s[k] = true ∨ vis s[k] = false) := by
        show vis s[k] = true ∨ vis s[k] = false
        cases vis s[k] <;> simp
      rcases HV.out with hv | hv
      · have HV1 : Hid (vis s[k] = true) := hv
        clear hv HV
        go_wp2_with (go_at_call 8; refine (vis_yes s[k] _ HV1.out).mono ?_; rintro e w' ⟨rfl, hw⟩; obtain rfl := hw.symm)
        go_round
        case rel => exact ⟨k + 1, by omega, by go_num, by
          show (s.data.toList.take (k + 1)).all vis = true
          rw [take_snoc s k hlt, List.all_append, HA.out]; simp [HV1.out]⟩
        case measure => simp [intOf]; omega
      · have HV1 : Hid (vis s[k] = false) := hv
        clear hv HV
        go_wp2_with (go_at_call 8; refine (vis_no s[k] _ HV1.out).mono ?_; rintro e w' ⟨rfl, hw⟩; obtain rfl := hw.symm)
        go_ret
        refine ⟨ret_bool ?_, rfl⟩
        symm
        rw [Bool.eq_false_iff]
        intro hall
        unfold allVis at hall
        have := List.all_eq_true.1 hall s[k] (List.mem_of_getElem? (i := k) (by rw [List.getElem?_eq_getElem (by simpa using hlt)]; rfl))
        rw [HV1.out] at this
        cases this
    · have hk' : s.data.toList.take k = s.data.toList := List.take_of_length_le (by simp; omega)
      rw [hk'] at HA
      clear hk'
      go_wp2
      go_ret
      exact ⟨ret_bool (by unfold allVis; exact HA.out.symm), rfl⟩

set_option maxHeartbeats 400000 in
theorem count_any (s : ByteArray) (w : World) (hs : s.size ≤ 1073741824) :
    Calls Try.prog 11 #[.string s] w fun e w' => e = .returned (.int .i64 (inv s.data.toList : Int)) ∧ w' = w := by
  go_enter Try.func11, Try.ntmps11
  go_wp2
  go_loop [3, 4] (fun n i => ∃ k m : Nat, k ≤ s.size ∧ m ≤ k ∧ i = .int .i64 k ∧ n = .int .i64 m ∧ Hid (m = inv (s.data.toList.take k))) (fun _ i => s.size - (intOf i).toNat)
  case atStart => exact ⟨0, 0, Nat.zero_le _, Nat.le_refl _, rfl, rfl, rfl⟩
  case round =>
    obtain ⟨k, m, hk, hm, rfl, rfl, HA⟩ := hrel
    by_cases hlt : k < s.size
    · have HV : Hid (vis s[k] = true ∨ vis s[k] = false) := by
        show vis s[k] = true ∨ vis s[k] = false
        cases vis s[k] <;> simp
      rcases HV.out with hv | hv
      · have HV1 : Hid (vis s[k] = true) := hv
        clear hv HV
        go_wp2_with (go_at_call 8; refine (vis_yes s[k] _ HV1.out).mono ?_; rintro e w' ⟨rfl, hw⟩; obtain rfl := hw.symm)
        go_round
        case rel => exact ⟨k + 1, m, by omega, by omega, by go_num, rfl, by
          show m = inv (s.data.toList.take (k + 1))
          rw [take_snoc s k hlt, inv_snoc, ← HA.out]; simp [HV1.out]⟩
        case measure => simp [intOf]; omega
      · have HV1 : Hid (vis s[k] = false) := hv
        clear hv HV
        go_wp2_with (go_at_call 8; refine (vis_no s[k] _ HV1.out).mono ?_; rintro e w' ⟨rfl, hw⟩; obtain rfl := hw.symm)
        go_round
        case rel => exact ⟨k + 1, m + 1, by omega, by omega, by go_num, by go_num, by
          show m + 1 = inv (s.data.toList.take (k + 1))
          rw [take_snoc s k hlt, inv_snoc, ← HA.out]; simp [HV1.out]⟩
        case measure => simp [intOf]; omega
    · have hk' : s.data.toList.take k = s.data.toList := List.take_of_length_le (by simp; omega)
      rw [hk'] at HA
      clear hk'
      go_wp2
      go_ret
      exact ⟨ret_int (by rw [HA.out]), rfl⟩

set_option maxHeartbeats 400000 in
theorem zb6_small (s : ByteArray) (w : World) (h : s.size ≤ 1048576) : Calls Try.prog 6 #[.string s] w fun e w' => e = .returned (.bool true) ∧ w' = w := by
  go_enter Try.func6, Try.ntmps6
  go_wp2
  go_ret
  exact ⟨rfl, rfl⟩
set_option maxHeartbeats 400000 in
theorem zb6_great (s : ByteArray) (w : World) (hs : s.size ≤ maxLen) (h : 1048576 < s.size) : Calls Try.prog 6 #[.string s] w fun e w' => e = .returned (.bool false) ∧ w' = w := by
  unfold maxLen at hs
  go_enter Try.func6, Try.ntmps6
  go_wp2
  go_ret
  exact ⟨rfl, rfl⟩
set_option maxHeartbeats 400000 in
theorem zb10_small (s : ByteArray) (k : Int) (w : World) (h : s.size ≤ 1048576) : Calls Try.prog 10 #[.string s, .int .i64 k] w fun e w' => e = .returned (.bool true) ∧ w' = w := by
  go_enter Try.func10, Try.ntmps10
  go_wp2
  go_ret
  exact ⟨rfl, rfl⟩
set_option maxHeartbeats 400000 in
theorem zb10_great (s : ByteArray) (k : Int) (w : World) (hs : s.size ≤ maxLen) (h : 1048576 < s.size) : Calls Try.prog 10 #[.string s, .int .i64 k] w fun e w' => e = .returned (.bool false) ∧ w' = w := by
  unfold maxLen at hs
  go_enter Try.func10, Try.ntmps10
  go_wp2
  go_ret
  exact ⟨rfl, rfl⟩
set_option maxHeartbeats 400000 in
theorem zb13_small (s : ByteArray) (w : World) (h : s.size ≤ 1048576) : Calls Try.prog 13 #[.string s] w fun e w' => e = .returned (.bool true) ∧ w' = w := by
  go_enter Try.func13, Try.ntmps13
  go_wp2
  go_ret
  exact ⟨rfl, rfl⟩
set_option maxHeartbeats 400000 in
theorem zb13_great (s : ByteArray) (w : World) (hs : s.size ≤ maxLen) (h : 1048576 < s.size) : Calls Try.prog 13 #[.string s] w fun e w' => e = .returned (.bool false) ∧ w' = w := by
  unfold maxLen at hs
  go_enter Try.func13, Try.ntmps13
  go_wp2
  go_ret
  exact ⟨rfl, rfl⟩

end Go.Proofs.Qxb6617208a
