/-
  The walk of FnEscapeInvisibleReadsBackByteByByte.
-/
import Derived.Test.Qxb6617208aSmall
namespace Go.Proofs.Qxb6617208a
open Go.RowKit
set_option linter.unusedVariables false

theorem list_cut (l : List UInt8) (k : Nat) (h : k < l.length) : l = l.take k ++ l[k] :: l.drop (k + 1) := by
  rw [← List.drop_eq_getElem_cons h, List.take_append_drop]

/-- The escape of s at the place where byte k is written. -/
theorem esc_at (s t : ByteArray) (k : Nat) (hlt : k < s.size) (ht : t.data.toList = escL s.data.toList) (i : Nat) (c : UInt8) (hc : (esc s[k])[i]? = some c) :
    ∃ h : (escL (s.data.toList.take k)).length + i < t.size, t[(escL (s.data.toList.take k)).length + i] = c := by
  have hk : k < s.data.toList.length := by simpa using hlt
  have e := list_cut s.data.toList k hk
  have hsk : s.data.toList[k] = s[k] := rfl
  rw [hsk] at e
  have e2 : t.data.toList = escL (s.data.toList.take k) ++ (esc s[k] ++ escL (s.data.toList.drop (k + 1))) := by
    rw [ht]
    conv => lhs; rw [e]
    rw [escL_append, escL_cons]
  have hi : i < (esc s[k]).length := (List.getElem?_eq_some_iff.1 hc).1
  have h3 : t.data.toList[(escL (s.data.toList.take k)).length + i]? = some c := by
    rw [e2, List.getElem?_append_right (by omega), Nat.add_sub_cancel_left, List.getElem?_append_left hi]
    exact hc
  obtain ⟨h4, h5⟩ := List.getElem?_eq_some_iff.1 h3
  exact ⟨by simpa using h4, h5⟩

theorem hex_at (c : UInt8) (n : Nat) (hn : n < 16) (h : c = hexd n) (w : World) :
    Calls Try.prog 9 #[.int .u8 (c.toNat : Int)] w fun e w' => e = .returned (.int .i64 (n : Int)) ∧ w' = w := by
  subst h
  exact hex_any n hn w

set_option maxHeartbeats 400000 in
theorem lawA_great (s : ByteArray) (w : World) (hs : s.size ≤ maxLen) (h : 1048576 < s.size) :
    Calls Try.prog 3 #[.string s] w fun e w' => e = .returned (.bool true) ∧ w' = w := by
  go_enter Try.func3, Try.ntmps3
  go_wp2_with (go_at_call 6; refine (zb6_great s _ hs h).mono ?_; rintro e w' ⟨rfl, hw⟩; obtain rfl := hw.symm)
  go_ret
  exact ⟨rfl, rfl⟩

set_option maxHeartbeats 800000 in
theorem lawA_small (s : ByteArray) (w : World) (h : s.size ≤ 1048576) :
    Calls Try.prog 3 #[.string s] w fun e w' => e = .returned (.bool true) ∧ Below w.heap.size w w' := by
  obtain ⟨t, ht⟩ : ∃ t, t = escB s := ⟨_, rfl⟩
  have HT : Hid (t.data.toList = escL s.data.toList) := by rw [ht]; exact escB_list s
  have hts : t.size ≤ 3 * s.size := by
    rw [ht, escB_size]
    have := escL_len s.data.toList
    have := inv_le s.data.toList
    have : s.data.toList.length = s.size := by simp
    omega
  have hx : ∀ w : World, Calls Try.prog 7 #[.string s] w fun e w' => e = .returned (.string t) ∧ Below w.heap.size w w' := fun w => by rw [ht]; exact zesc_any s w (by omega)
  have HX : Hid (∀ w : World, Calls Try.prog 7 #[.string s] w fun e w' => e = .returned (.string t) ∧ Below w.heap.size w w') := hx
  clear hx ht
  go_enter Try.func3, Try.ntmps3
  go_wp2_with (first
    | (go_at_call 6; refine (zb6_small s _ h).mono ?_; rintro e w' ⟨rfl, hw⟩; obtain rfl := hw.symm)
    | (go_at_call 7; refine (HX.out _).mono ?_; rintro e w1 ⟨rfl, hb⟩))
  have HB : Hid (Below w.heap.size w w1) := hb
  clear hb
  go_loop [4, 5] (fun j i => ∃ k m : Nat, k ≤ s.size ∧ m ≤ 3 * k ∧ i = .int .i64 k ∧ j = .int .i64 m ∧ Hid (m = (escL (s.data.toList.take k)).length)) (fun _ i => s.size - (intOf i).toNat)
  case atStart => exact ⟨0, 0, Nat.zero_le _, Nat.zero_le _, rfl, rfl, rfl⟩
  case round =>
    obtain ⟨k, m, hk, hm, rfl, rfl, HM⟩ := hrel
    by_cases hlt : k < s.size
    · have hle := escL_take_le s.data.toList (k + 1)
      by_cases hv : vis s[k] = true
      · have e1 := esc_at s t k hlt HT.out 0 s[k] (by rw [esc_vis _ hv]; rfl)
        obtain ⟨h1, h2⟩ := e1
        have HN : Hid (m + 1 = (escL (s.data.toList.take (k + 1))).length) := by
          show m + 1 = (escL (s.data.toList.take (k + 1))).length
          rw [take_snoc s k hlt, escL_snoc, List.length_append, esc_vis _ hv, ← HM.out]; rfl
        have hmt : m < t.size := by have := HM.out; omega
        have hq : ((t[m].toNat : Int) != (s[k].toNat : Int)) = false := by
          have e : t[m] = s[k] := by
            rw [← h2]; congr 1
          rw [e]; simp
        have HV : Hid (vis s[k] = true) := hv
        clear hv h1 h2
        go_wp2_with (go_at_call 8; refine (vis_yes s[k] _ HV.out).mono ?_; rintro e w' ⟨rfl, hw⟩; obtain rfl := hw.symm)
        go_round
        case rel => exact ⟨k + 1, m + 1, by omega, by have := HN.out; omega, by go_num, by go_num, HN⟩
        case measure => simp [intOf]; omega
      · have hv' : vis s[k] = false := by simpa using hv
        obtain ⟨a1, a2⟩ := esc_at s t k hlt HT.out 0 37 (by rw [esc_inv _ hv']; rfl)
        obtain ⟨b1, b2⟩ := esc_at s t k hlt HT.out 1 (hexd (s[k].toNat / 16)) (by rw [esc_inv _ hv']; rfl)
        obtain ⟨c1, c2⟩ := esc_at s t k hlt HT.out 2 (hexd (s[k].toNat % 16)) (by rw [esc_inv _ hv']; rfl)
        have HN : Hid (m + 3 = (escL (s.data.toList.take (k + 1))).length) := by
          show m + 3 = (escL (s.data.toList.take (k + 1))).length
          rw [take_snoc s k hlt, escL_snoc, List.length_append, esc_inv _ hv', ← HM.out]; rfl
        have hmt : m + 2 < t.size := by have := HM.out; omega
        have hq : ((t[m].toNat : Int) != 37) = false := by
          have e : t[m] = 37 := by rw [← a2]; congr 1
          rw [e]; rfl
        have HB1 : Hid (t[m + 1] = hexd (s[k].toNat / 16)) := by
          show t[m + 1] = hexd (s[k].toNat / 16)
          rw [← b2]; congr 1; have := HM.out; omega
        have HB2 : Hid (t[m + 2] = hexd (s[k].toNat % 16)) := by
          show t[m + 2] = hexd (s[k].toNat % 16)
          rw [← c2]; congr 1; have := HM.out; omega
        have HV : Hid (vis s[k] = false) := hv'
        have hlt8 : s[k].toNat < 256 := s[k].toNat_lt
        clear hv hv' a1 a2 b1 b2 c1 c2
        go_wp2_with (go_at_call 8; refine (vis_no s[k] _ HV.out).mono ?_; rintro e w' ⟨rfl, hw⟩; obtain rfl := hw.symm)
        refine (hex_at t[m + 1] (s[k].toNat / 16) (by omega) HB1.out _).mono ?_
        rintro e w' ⟨rfl, hw⟩; obtain rfl := hw.symm
        go_wp2_with fail
        refine (hex_at t[m + 2] (s[k].toNat % 16) (by omega) HB2.out _).mono ?_
        rintro e w' ⟨rfl, hw⟩; obtain rfl := hw.symm
        go_wp2
        go_round
        case rel => exact ⟨k + 1, m + 3, by omega, by have := HN.out; omega, by go_num, by go_num, HN⟩
        case measure => simp [intOf]; omega
    · have hk' : s.data.toList.take k = s.data.toList := List.take_of_length_le (by simp; omega)
      have hmt : ((m : Int) == (t.size : Int)) = true := by
        have h1 := HM.out
        rw [hk', ← HT.out] at h1
        have h2 : t.data.toList.length = t.size := by simp
        rw [h1, h2]; simp
      clear hk'
      go_wp2
      go_ret
      exact ⟨rfl, HB.out⟩

end Go.Proofs.Qxb6617208a
