/-
  The walks of zzIsDigit, zzHasPointOrExponent, zzNumeralShape.
-/
import Derived.Test.Qxb6617227aDig
import Derived.Test.Qxb6617227aFin
import Derived.Deep.DeepCutAuto
import Derived.Deep.CutBlock
namespace Go.Proofs.Qxb6617227a
open Go.RowKit
set_option linter.unusedVariables false

set_option maxHeartbeats 400000 in
theorem zd_yes (c : UInt8) (w : World) (h : dg c = true) :
    Calls Try.prog 28 #[.int .u8 (c.toNat : Int)] w fun e w' => e = .returned (.bool true) ∧ w' = w := by
  simp only [dg, Bool.and_eq_true, decide_eq_true_eq] at h
  have h1 : (48 : Int) ≤ (c.toNat : Int) := by omega
  have h2 : (c.toNat : Int) ≤ 57 := by omega
  clear h
  go_enter Try.func28, Try.ntmps28
  go_wp2
  go_ret
  exact ⟨rfl, rfl⟩

set_option maxHeartbeats 400000 in
theorem zd_no (c : UInt8) (w : World) (h : dg c = false) :
    Calls Try.prog 28 #[.int .u8 (c.toNat : Int)] w fun e w' => e = .returned (.bool false) ∧ w' = w := by
  have h' : (c.toNat : Int) < 48 ∨ (48 ≤ (c.toNat : Int) ∧ 57 < (c.toNat : Int)) := by
    simp only [dg, Bool.and_eq_false_iff, decide_eq_false_iff_not] at h
    omega
  clear h
  rcases h' with h1 | ⟨h1, h2⟩
  all_goals
    go_enter Try.func28, Try.ntmps28
    go_wp2
    go_ret
    exact ⟨by first | rfl | (exact ret_bool (by simp; omega)), rfl⟩

theorem take_snoc (s : ByteArray) (k : Nat) (h : k < s.size) : s.data.toList.take (k + 1) = s.data.toList.take k ++ [s[k]] := by
  rw [List.take_succ_eq_append_getElem (by simpa using h)]; rfl

/-- The three tests of a byte, as the walk writes them. -/
theorem byte_cases (c : UInt8) : (((c.toNat : Int) == 46) = true ∧ (isP c || isE c) = true) ∨
    (((c.toNat : Int) == 46) = false ∧ ((c.toNat : Int) == 101) = true ∧ (isP c || isE c) = true) ∨
    (((c.toNat : Int) == 46) = false ∧ ((c.toNat : Int) == 101) = false ∧ ((c.toNat : Int) == 69) = true ∧ (isP c || isE c) = true) ∨
    (((c.toNat : Int) == 46) = false ∧ ((c.toNat : Int) == 101) = false ∧ ((c.toNat : Int) == 69) = false ∧ (isP c || isE c) = false) := by
  simp [isP, isE]
  omega

set_option maxHeartbeats 800000 in
theorem has_any (s : ByteArray) (w : World) (hs : s.size ≤ 1073741824) :
    Calls Try.prog 22 #[.string s] w fun e w' => e = .returned (.bool (poe s.data.toList)) ∧ w' = w := by
  go_enter Try.func22, Try.ntmps22
  go_wp2
  go_loop [3] (fun i => ∃ k : Nat, k ≤ s.size ∧ i = .int .i64 k ∧ Hid (poe (s.data.toList.take k) = false)) (fun i => s.size - (intOf i).toNat)
  case atStart => exact ⟨0, Nat.zero_le _, rfl, rfl⟩
  case round =>
    obtain ⟨k, hk, rfl, HA⟩ := hrel
    by_cases hlt : k < s.size
    · have hyes : (isP s[k] || isE s[k]) = true → poe s.data.toList = true := by
        intro h
        exact List.any_eq_true.2 ⟨s[k], List.mem_of_getElem? (i := k) (by rw [List.getElem?_eq_getElem (by simpa using hlt)]; rfl), h⟩
      have HY : Hid ((isP s[k] || isE s[k]) = true → poe s.data.toList = true) := hyes
      clear hyes
      rcases byte_cases s[k] with ⟨h1, h2⟩ | ⟨h1, h2, h3⟩ | ⟨h1, h2, h3, h4⟩ | ⟨h1, h2, h3, h4⟩
      · have HP := HY.out h2
        have HP' : Hid (poe s.data.toList = true) := HP
        clear HP h2
        go_wp2
        go_ret
        exact ⟨ret_bool (by rw [HP'.out]), rfl⟩
      · have HP := HY.out h3
        have HP' : Hid (poe s.data.toList = true) := HP
        clear HP h3
        go_wp2
        go_ret
        exact ⟨ret_bool (by rw [HP'.out]), rfl⟩
      · have HP := HY.out h4
        have HP' : Hid (poe s.data.toList = true) := HP
        clear HP h4
        go_wp2
        go_ret
        exact ⟨ret_bool (by rw [HP'.out]), rfl⟩
      · have HN : Hid ((isP s[k] || isE s[k]) = false) := h4
        clear h4
        go_wp2
        go_round
        case rel => exact ⟨k + 1, by omega, by go_num, by
          show poe (s.data.toList.take (k + 1)) = false
          have h5 := HA.out
          have h6 := HN.out
          unfold poe at h5 ⊢
          rw [take_snoc s k hlt, List.any_append, h5]
          simpa using h6⟩
        case measure => simp [intOf]; omega
    · have hk' : s.data.toList.take k = s.data.toList := List.take_of_length_le (by simp; omega)
      rw [hk'] at HA
      clear hk'
      go_wp2
      go_ret
      exact ⟨ret_bool (by rw [HA.out]), rfl⟩

end Go.Proofs.Qxb6617227a
