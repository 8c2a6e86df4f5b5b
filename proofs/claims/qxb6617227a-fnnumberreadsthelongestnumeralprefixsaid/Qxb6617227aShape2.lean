/-
  The walk of zzNumeralShape.
-/
import Derived.Test.Qxb6617227aShape
namespace Go.Proofs.Qxb6617227a
open Go.RowKit
set_option linter.unusedVariables false

theorem isE_cases (c : UInt8) : (((c.toNat : Int) == 101) = true ∧ isE c = true) ∨ (((c.toNat : Int) == 101) = false ∧ ((c.toNat : Int) == 69) = true ∧ isE c = true) ∨ (((c.toNat : Int) == 101) = false ∧ ((c.toNat : Int) == 69) = false ∧ isE c = false) := by
  simp [isE]; omega
theorem isS_cases (c : UInt8) : (((c.toNat : Int) == 43) = true ∧ isS c = true) ∨ (((c.toNat : Int) == 43) = false ∧ ((c.toNat : Int) == 45) = true ∧ isS c = true) ∨ (((c.toNat : Int) == 43) = false ∧ ((c.toNat : Int) == 45) = false ∧ isS c = false) := by
  simp [isS]; omega
theorem isP_cases (c : UInt8) : (((c.toNat : Int) == 46) = true ∧ isP c = true) ∨ (((c.toNat : Int) == 46) = false ∧ isP c = false) := by
  simp [isP]; omega

/-- Is there a sign at t? -/
def sgB (s : ByteArray) (t : Nat) : Bool := match s.data.toList[t]? with | some c => isS c | none => false
theorem sgB_at {s : ByteArray} {t : Nat} (h : t < s.size) : sgB s t = isS s[t] := by
  unfold sgB
  rw [List.getElem?_eq_getElem (by simpa using h)]
  rfl
theorem sgB_end {s : ByteArray} {t : Nat} (h : s.size ≤ t) : sgB s t = false := by
  unfold sgB
  rw [List.getElem?_eq_none (by simpa using h)]
theorem fin_take' (st : Nat) (s : ByteArray) (k : Nat) (h : k < s.size) : fin st (s.data.toList.take (k + 1)) = (fin st (s.data.toList.take k)).bind fun x => step x s[k] :=
  fin_take st s.data.toList k (by simpa using h)
theorem take_all (s : ByteArray) (k : Nat) (h : s.size ≤ k) : s.data.toList.take k = s.data.toList := List.take_of_length_le (by simpa using h)

theorem ret_two {a b c d : Bool} (h1 : a = c) (h2 : b = d) : Ending.returned (.tuple #[.bool a, .bool b]) = .returned (.tuple #[.bool c, .bool d]) := by rw [h1, h2]

set_option maxRecDepth 100000 in
set_option maxHeartbeats 1600000 in
theorem shape_any (s : ByteArray) (w : World) (hs : s.size ≤ 1073741824) :
    Calls Try.prog 21 #[.string s] w fun e w' => e = .returned (.tuple #[.bool (viab s.data.toList), .bool (whol s.data.toList)]) ∧ w' = w := by
  go_enter Try.func21, Try.ntmps21
  go_upto_block 0 with fail
  go_cut [4, 5] (fun e i wx => ∃ k : Nat, k ≤ s.size ∧ e = .int .i64 k ∧ w = wx ∧ Hid (∀ j (h : j < s.size), j < k → isE s[j] = false) ∧ Hid (∀ h : k < s.size, isE s[k] = true))
  case first =>
    go_wp2_with fail
    go_loopg [4, 5] (s.size + 1) (fun n e i wr => ∃ k : Nat, k ≤ s.size ∧ n = s.size + 1 - k ∧ i = .int .i64 k ∧ e = .int .i64 s.size ∧ w = wr ∧ Hid (∀ j (h : j < s.size), j < k → isE s[j] = false))
    case atStart => exact ⟨0, Nat.zero_le _, rfl, rfl, rfl, rfl, fun j _ h => by omega⟩
    case round =>
      obtain ⟨k, hk, hgk, rfl, rfl, rfl, HA⟩ := hrel
      have HK : Hid (gk = s.size + 1 - k) := hgk
      clear hgk
      by_cases hlt : k < s.size
      · rcases isE_cases s[k] with ⟨h1, h2⟩ | ⟨h1, h2, h3⟩ | ⟨h1, h2, h3⟩
        · have HE : Hid (isE s[k] = true) := h2
          clear h2
          go_wp2
          go_meet
          case rel => exact ⟨k, hk, rfl, rfl, HA, fun _ => HE.out⟩
        · have HE : Hid (isE s[k] = true) := h3
          clear h3
          go_wp2
          go_meet
          case rel => exact ⟨k, hk, rfl, rfl, HA, fun _ => HE.out⟩
        · have HE : Hid (isE s[k] = false) := h3
          clear h3
          go_wp2
          go_roundg (s.size + 1 - (k + 1))
          case measure => have := HK.out; omega
          case rel => exact ⟨k + 1, by omega, rfl, by go_num, rfl, rfl, fun j h hj => by
            rcases Nat.lt_or_ge j k with h' | h'
            · exact HA.out j h h'
            · obtain rfl : j = k := by omega
              exact HE.out⟩
      · go_wp2
        go_meet
        case rel => exact ⟨s.size, Nat.le_refl _, rfl, rfl, fun j h hj => HA.out j h (by omega), fun h => by omega⟩
  case rest =>
    obtain ⟨e, he, rfl, rfl, HA, HE⟩ := hcut
    go_wp2_with fail
    go_loop [6, 7] (fun pt i => ∃ k n : Nat, k ≤ e ∧ n ≤ k ∧ i = .int .i64 k ∧ pt = .int .i64 n ∧ Hid (fin 0 (s.data.toList.take k) = stOf n)) (fun _ i => e - (intOf i).toNat)
    case atStart => exact ⟨0, 0, Nat.zero_le _, Nat.le_refl _, rfl, rfl, rfl⟩
    case round =>
      obtain ⟨k, n, hk, hn, rfl, rfl, HF⟩ := hrel
      by_cases hlt : k < e
      · have hls : k < s.size := by omega
        rcases isP_cases s[k] with ⟨h1, h2⟩ | ⟨h1, h2⟩
        · have HN : Hid (fin 0 (s.data.toList.take (k + 1)) = stOf (n + 1)) := by
            show fin 0 (s.data.toList.take (k + 1)) = stOf (n + 1)
            rw [fin_take' 0 s k hls, HF.out, stOf_point n s[k] h2]
          clear h2
          go_wp2
          go_round
          case rel => exact ⟨k + 1, n + 1, by omega, by omega, by go_num, by go_num, HN⟩
          case measure => simp [intOf]; omega
        · rcases (show dg s[k] = true ∨ dg s[k] = false by cases dg s[k] <;> simp) with hd | hd
          · have HN : Hid (fin 0 (s.data.toList.take (k + 1)) = stOf n) := by
              show fin 0 (s.data.toList.take (k + 1)) = stOf n
              rw [fin_take' 0 s k hls, HF.out, stOf_digit n s[k] hd]
            have HD : Hid (dg s[k] = true) := hd
            clear h2 hd
            go_wp2_with (go_at_call 28; refine (zd_yes s[k] _ HD.out).mono ?_; rintro e w' ⟨rfl, hw⟩; obtain rfl := hw.symm)
            go_round
            case rel => exact ⟨k + 1, n, by omega, by omega, by go_num, rfl, HN⟩
            case measure => simp [intOf]; omega
          · have HN : Hid (fin 0 s.data.toList = none) := by
              show fin 0 s.data.toList = none
              refine fin_dead 0 _ (k + 1) ?_
              rw [fin_take' 0 s k hls, HF.out, stOf_other n s[k] h2 hd (HA.out k hls hlt)]
            have HD : Hid (dg s[k] = false) := hd
            clear h2 hd
            go_wp2_with (go_at_call 28; refine (zd_no s[k] _ HD.out).mono ?_; rintro e w' ⟨rfl, hw⟩; obtain rfl := hw.symm)
            go_ret2
            have hv := viab_none HN.out
            exact ⟨ret_two hv.1.symm hv.2.symm, rfl⟩
      · obtain rfl : k = e := by omega
        by_cases hn2 : 1 < n
        · have HN : Hid (fin 0 s.data.toList = none) := by
            show fin 0 s.data.toList = none
            refine fin_dead 0 _ k ?_
            rw [HF.out]
            unfold stOf
            rw [if_neg (by omega), if_neg (by omega)]
          go_wp2
          go_ret2
          have hv := viab_none HN.out
          exact ⟨ret_two hv.1.symm hv.2.symm, rfl⟩
        · by_cases hes : k = s.size
          · have hb : ((k : Int) == (s.size : Int)) = true := by simp; omega
            have HN : Hid (∃ x, fin 0 s.data.toList = some x ∧ x ≠ 2 ∧ x ≠ 3) := by
              show ∃ x, fin 0 s.data.toList = some x ∧ x ≠ 2 ∧ x ≠ 3
              have h1 := HF.out
              rw [take_all s k (by omega)] at h1
              rw [h1]
              unfold stOf
              by_cases h0 : n = 0
              · exact ⟨0, by rw [if_pos h0], by omega, by omega⟩
              · exact ⟨1, by rw [if_neg h0, if_pos (by omega)], by omega, by omega⟩
            clear hes
            go_wp2
            go_ret2
            obtain ⟨x, h1, h2, h3⟩ := HN.out
            have hv := viab_some h1
            exact ⟨ret_two hv.1.symm (by rw [hv.2]; simp [h2, h3]), rfl⟩
          · have hb : ((k : Int) == (s.size : Int)) = false := by simp; omega
            have hls : k < s.size := by omega
            have HN : Hid (fin 0 (s.data.toList.take (k + 1)) = some 2) := by
              show fin 0 (s.data.toList.take (k + 1)) = some 2
              rw [fin_take' 0 s k hls, HF.out, stOf_e n (by omega) s[k] (HE.out hls)]
            clear hes
            go_upto_region 20 with fail
            obtain ⟨t, ht⟩ : ∃ t, t = k + 1 := ⟨_, rfl⟩
            rw [← ht] at HN
            rw [show ((k : Int) + 1) = (t : Int) from by omega]
            have htl : t ≤ s.size := by omega
            clear ht
            go_cut [68] (fun b wx => b = .bool (sgB s t) ∧ w = wx)
            case first =>
              by_cases hlt2 : t < s.size
              · rcases isS_cases s[t] with ⟨h1, h2⟩ | ⟨h1, h2, h3⟩ | ⟨h1, h2, h3⟩
                · have HB : Hid (sgB s t = true) := (sgB_at hlt2).trans h2
                  clear h2
                  go_wp2
                  go_meet
                  case rel => exact ⟨by rw [HB.out], rfl⟩
                · have HB : Hid (sgB s t = true) := (sgB_at hlt2).trans h3
                  clear h3
                  go_wp2
                  go_meet
                  case rel => exact ⟨by rw [HB.out], rfl⟩
                · have HB : Hid (sgB s t = false) := (sgB_at hlt2).trans h3
                  clear h3
                  go_wp2
                  go_meet
                  case rel => exact ⟨by rw [HB.out], rfl⟩
              · have hge' : decide ((t : Int) < (s.size : Int)) = false := by simp; omega
                have HB : Hid (sgB s t = false) := sgB_end (by omega)
                go_wp2
                go_meet
                case rel => exact ⟨by rw [HB.out], rfl⟩
            case rest =>
              obtain ⟨rfl, rfl⟩ := hcut
              go_upto_if 68 with fail
              go_cut [8] (fun tv wx => ∃ t2 x : Nat, tv = .int .i64 t2 ∧ w = wx ∧ t2 ≤ s.size ∧ (x = 2 ∨ x = 3) ∧ Hid (fin 0 (s.data.toList.take t2) = some x) ∧ Hid (x = 2 → ∀ h : t2 < s.size, isS s[t2] = false))
              case first =>
                rcases (show sgB s t = true ∨ sgB s t = false by cases sgB s t <;> simp) with hb2 | hb2
                · rw [hb2]
                  have hlt2 : t < s.size := by
                    rcases Nat.lt_or_ge t s.size with h' | h'
                    · exact h'
                    · rw [sgB_end h'] at hb2; cases hb2
                  have HN2 : Hid (fin 0 (s.data.toList.take (t + 1)) = some 3) := by
                    show fin 0 (s.data.toList.take (t + 1)) = some 3
                    rw [fin_take' 0 s t hlt2, HN.out]
                    rw [sgB_at hlt2] at hb2
                    exact step2_sign _ hb2
                  clear hb2
                  go_wp2
                  go_meet
                  case rel => exact ⟨t + 1, 3, by go_num, rfl, by omega, Or.inr rfl, HN2, fun h => by cases h⟩
                · rw [hb2]
                  have HS : Hid (∀ h : t < s.size, isS s[t] = false) := fun h => (sgB_at h).symm.trans hb2
                  clear hb2
                  go_wp2
                  go_meet
                  case rel => exact ⟨t, 2, rfl, rfl, htl, Or.inl rfl, HN, fun _ => HS.out⟩
              case rest =>
                obtain ⟨t2, x, rfl, rfl, ht2, hx, HX, HS⟩ := hcut
                go_wp2_with fail
                go_loop [9] (fun i => ∃ r : Nat, t2 ≤ r ∧ r ≤ s.size ∧ i = .int .i64 r ∧ Hid (fin 0 (s.data.toList.take r) = some (if r = t2 then x else 4))) (fun i => s.size - (intOf i).toNat)
                case atStart => exact ⟨t2, Nat.le_refl _, ht2, rfl, by
                  show fin 0 (s.data.toList.take t2) = some (if t2 = t2 then x else 4)
                  rw [if_pos rfl]; exact HX.out⟩
                case round =>
                  obtain ⟨r, hr1, hr2, rfl, HR⟩ := hrel
                  by_cases hlt3 : r < s.size
                  · have hx3 : (if r = t2 then x else 4) = 2 ∨ (if r = t2 then x else 4) = 3 ∨ (if r = t2 then x else 4) = 4 := by
                      split
                      · rcases hx with h | h <;> simp [h]
                      · simp
                    have HX3 : Hid ((if r = t2 then x else 4) = 2 ∨ (if r = t2 then x else 4) = 3 ∨ (if r = t2 then x else 4) = 4) := hx3
                    clear hx3
                    rcases (show dg s[r] = true ∨ dg s[r] = false by cases dg s[r] <;> simp) with hd | hd
                    · have HN3 : Hid (fin 0 (s.data.toList.take (r + 1)) = some (if r + 1 = t2 then x else 4)) := by
                        show fin 0 (s.data.toList.take (r + 1)) = some (if r + 1 = t2 then x else 4)
                        rw [if_neg (by omega), fin_take' 0 s r hlt3, HR.out]
                        exact exp_digit _ HX3.out _ hd
                      have HD : Hid (dg s[r] = true) := hd
                      clear hd
                      go_wp2_with (go_at_call 28; refine (zd_yes s[r] _ HD.out).mono ?_; rintro e w' ⟨rfl, hw⟩; obtain rfl := hw.symm)
                      go_round
                      case rel => exact ⟨r + 1, by omega, by omega, by go_num, HN3⟩
                      case measure => simp [intOf]; omega
                    · have HN3 : Hid (fin 0 s.data.toList = none) := by
                        show fin 0 s.data.toList = none
                        refine fin_dead 0 _ (r + 1) ?_
                        rw [fin_take' 0 s r hlt3, HR.out]
                        refine exp_none _ HX3.out _ hd (fun h2 => ?_)
                        by_cases hrt : r = t2
                        · subst hrt
                          rw [if_pos rfl] at h2
                          exact HS.out h2 hlt3
                        · rw [if_neg hrt] at h2; omega
                      have HD : Hid (dg s[r] = false) := hd
                      clear hd
                      go_wp2_with (go_at_call 28; refine (zd_no s[r] _ HD.out).mono ?_; rintro e w' ⟨rfl, hw⟩; obtain rfl := hw.symm)
                      go_ret2
                      have hv := viab_none HN3.out
                      exact ⟨ret_two hv.1.symm hv.2.symm, rfl⟩
                  · have HF3 : Hid (fin 0 s.data.toList = some (if s.size = t2 then x else 4)) := by
                      show fin 0 s.data.toList = some (if s.size = t2 then x else 4)
                      have h1 := HR.out
                      obtain rfl : r = s.size := by omega
                      rw [take_all s _ (Nat.le_refl _)] at h1
                      exact h1
                    go_wp2
                    go_ret2
                    have hv := viab_some HF3.out
                    refine ⟨ret_two hv.1.symm ?_, rfl⟩
                    rw [hv.2]
                    by_cases h4 : s.size = t2
                    · rw [if_pos h4]
                      rcases hx with h | h <;> simp [h, h4]
                    · rw [if_neg h4]
                      simp; omega

end Go.Proofs.Qxb6617227a
