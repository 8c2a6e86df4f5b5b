/-
  The walk of escapeInvisible.
-/
import Derived.Test.Qxb6617208aSteps
namespace Go.Proofs.Qxb6617208a
open Go.RowKit
set_option linter.unusedVariables false

set_option maxHeartbeats 400000 in
theorem esc_any (s : ByteArray) (w : World) (hs : s.size ≤ 16777216) :
    Calls Try.prog 14 #[.string s] w fun e w' => e = .returned (.string (escB s)) ∧ Below w.heap.size w w' := by
  have n1 := fun (w : World) (a : Option Addr) (l c : Nat) => run_neq_slice_nil_any (P := Try.prog) w 28 5 a l c 0 0 Try.underlying28
  have n2 := fun (w : World) (a : Option Addr) (l c : Nat) => Lib.run_eql_slice_nil (P := Try.prog) w 28 5 a l c 0 0 Try.underlying28
  go_enter Try.func14, Try.ntmps14
  go_wp2
  go_loopw [3, 4] (fun v i wr => ∃ k : Nat, k ≤ s.size ∧ i = .int .i64 k ∧ Below w.heap.size w wr ∧
      Hid ((v = .slice none 0 0 ∧ (s.data.toList.take k).all vis = true) ∨ ∃ g cap, v = .slice (some ⟨g, 0, none⟩) (escL (s.data.toList.take k)).length cap ∧ Own w.heap.size wr g cap (escL (s.data.toList.take k))))
    (fun _ i _ => s.size - (intOf i).toNat)
  case atStart => exact ⟨0, Nat.zero_le _, rfl, Below.refl _ _, Or.inl ⟨rfl, rfl⟩⟩
  case round =>
    obtain ⟨k, hk, rfl, hbr, HR⟩ := hrel
    by_cases hlt : k < s.size
    · rcases HR.out with ⟨rfl, hall⟩ | ⟨g, cap, rfl, hown⟩
      · have HA : Hid ((s.data.toList.take k).all vis = true) := hall
        clear hall HR
        by_cases hv : 33 ≤ (s[k].toNat : Int) ∧ (s[k].toNat : Int) ≤ 126
        · obtain ⟨hv1, hv2⟩ := hv
          go_wp2
          go_roundw
          case rel => exact ⟨k + 1, by omega, by go_num, hbr, Or.inl ⟨rfl, by
            rw [take_snoc s k hlt, List.all_append, HA.out]
            simp [vis]; omega⟩⟩
          case measure => simp [intOf]; omega
        · obtain ⟨o, hmk⟩ := run_mk (s.size + 8) (by omega)
          have hmk1 := fun w => (hmk w).1
          have HM : Hid (∀ w : World, ∀ B, B ≤ w.heap.size → Own B (w.alloc o) w.heap.size (s.size + 8) []) := fun w => (hmk w).2
          simp only [Int.natCast_add, Int.cast_ofNat_Int] at hmk1
          clear hmk
          have hwr : IntKind.i64.wrap ((s.size : Int) + 8) = (s.size : Int) + 8 := by rw [IntKind.wrap_i64]; omega
          have hv' : (s[k].toNat : Int) < 33 ∨ (33 ≤ (s[k].toNat : Int) ∧ 126 < (s[k].toNat : Int)) := by omega
          clear hv
          have H4 : Hid (([] : List UInt8).length + (s.extract 0 k).size ≤ 1073741824) := by
            show ([] : List UInt8).length + (s.extract 0 k).size ≤ 1073741824
            simp; omega
          have H5 : Hid (w.heap.size ≤ (wr.alloc o).drew.heap.size) := by
            show w.heap.size ≤ (wr.alloc o).drew.heap.size
            have := hbr.size; simp; omega
          have H6 : Hid ([] ++ (s.extract 0 k).data.toList = escL (s.data.toList.take k)) := by
            show [] ++ (s.extract 0 k).data.toList = escL (s.data.toList.take k)
            rw [escL_vis _ HA.out]; simp
          rcases hv' with hv | ⟨hv1, hv2⟩
          all_goals
            go_wp2
            go_region_law (refine step_app_str rfl (.tmp 32) (.tmp 35) rfl w.heap.size wr.heap.size (s.size + 8) 0 [] rfl (s.extract 0 k) rfl rfl (HM.out wr _ hbr.size) H4.out H5.out (escL (s.data.toList.take k)) H6.out ?_; intro g1 cap1 w1 hown1 hb1)
            have hi1 := run_hex_hi s[k]
            have hi2 := run_hex_lo s[k]
            have hi3 := and15 s[k]
            have hz1 : w.heap.size ≤ w1.heap.size := Nat.le_trans (by have := hbr.size; simp; omega) hb1.size
            have HO1 : Hid (Own w.heap.size w1 g1 cap1 (escL (s.data.toList.take k))) := hown1
            have HB1 : Hid (Below w.heap.size w w1) := (hbr.alloc hbr.size o).drew.trans hb1
            have HE : Hid (escL (s.data.toList.take k) ++ [37, hexd (s[k].toNat / 16), hexd (s[k].toNat % 16)] = escL (s.data.toList.take (k + 1))) := by
              show escL (s.data.toList.take k) ++ [37, hexd (s[k].toNat / 16), hexd (s[k].toNat % 16)] = escL (s.data.toList.take (k + 1))
              rw [take_snoc s k hlt, escL_snoc, esc_inv s[k] (by simp [vis]; omega)]
            have HL : Hid ((escL (s.data.toList.take k)).length + 3 ≤ 1073741824) := by
              show (escL (s.data.toList.take k)).length + 3 ≤ 1073741824
              have := escL_take_le s.data.toList k; omega
            clear hown1 hb1 H4 H5 H6
            go_wp2
            go_region_law (refine step_app rfl (.tmp 37) (.tmp 44) rfl w.heap.size g1 cap1 (escL (s.data.toList.take k)) rfl ⟨w1.heap.size, 0, none⟩ 3 3 [37, hexd (s[k].toNat / 16), hexd (s[k].toNat % 16)] rfl (HO1.out.alloc _).drew rfl (cell_three_bytes w1 s[k]) HL.out (by simp; omega) (escL (s.data.toList.take (k + 1))) HE.out ?_; intro g2 cap2 w2 hown2 hb2)
            all_goals
              have HO2 : Hid (Own w.heap.size w2 g2 cap2 (escL (s.data.toList.take (k + 1)))) := hown2
              have HB2 : Hid (Below w.heap.size w w2) := (HB1.out.alloc hz1 _).drew.trans hb2
              clear hown2 hb2
              go_wp2
              go_roundw
              case rel => exact ⟨k + 1, by omega, by go_num, HB2.out, Or.inr ⟨g2, cap2, rfl, HO2.out⟩⟩
              case measure => simp [intOf]; omega
      · have HO1 : Hid (Own w.heap.size wr g cap (escL (s.data.toList.take k))) := hown
        have hzr := hbr.size
        have HL : Hid ((escL (s.data.toList.take k)).length + 3 ≤ 1073741824) := by
          show (escL (s.data.toList.take k)).length + 3 ≤ 1073741824
          have := escL_take_le s.data.toList k; omega
        clear hown HR
        by_cases hv : 33 ≤ (s[k].toNat : Int) ∧ (s[k].toNat : Int) ≤ 126
        · obtain ⟨hv1, hv2⟩ := hv
          have HE : Hid (escL (s.data.toList.take k) ++ [s[k]] = escL (s.data.toList.take (k + 1))) := by
            show escL (s.data.toList.take k) ++ [s[k]] = escL (s.data.toList.take (k + 1))
            rw [take_snoc s k hlt, escL_snoc, esc_vis s[k] (by simp [vis]; omega)]
          go_wp2_with (at_builtin; refine wpList_app _ rfl (.tmp 23) (.tmp 25) rfl w.heap.size g cap (escL (s.data.toList.take k)) rfl ⟨wr.heap.size, 0, none⟩ 1 1 [s[k]] rfl (HO1.out.alloc _) rfl (cell_one_byte wr s[k]) (Nat.le_trans (by omega) HL.out) (by simp; omega) (escL (s.data.toList.take (k + 1))) HE.out ?_; intro g2 cap2 w2 hown2 hb2; have HO2 : Hid (Own w.heap.size w2 g2 cap2 (escL (s.data.toList.take (k + 1)))) := hown2; have HB2 : Hid (Below w.heap.size w w2) := (hbr.alloc hzr _).trans hb2; clear hown2 hb2)
          go_roundw
          case rel => exact ⟨k + 1, by omega, by go_num, HB2.out, Or.inr ⟨g2, cap2, rfl, HO2.out⟩⟩
          case measure => simp [intOf]; omega
        · have hv' : (s[k].toNat : Int) < 33 ∨ (33 ≤ (s[k].toNat : Int) ∧ 126 < (s[k].toNat : Int)) := by omega
          have HE : Hid (escL (s.data.toList.take k) ++ [37, hexd (s[k].toNat / 16), hexd (s[k].toNat % 16)] = escL (s.data.toList.take (k + 1))) := by
            show escL (s.data.toList.take k) ++ [37, hexd (s[k].toNat / 16), hexd (s[k].toNat % 16)] = escL (s.data.toList.take (k + 1))
            rw [take_snoc s k hlt, escL_snoc, esc_inv s[k] (by simp [vis]; omega)]
          clear hv
          have hi1 := run_hex_hi s[k]
          have hi2 := run_hex_lo s[k]
          have hi3 := and15 s[k]
          rcases hv' with hv | ⟨hv1, hv2⟩
          all_goals
            go_wp2
            go_region_law (refine step_app rfl (.tmp 37) (.tmp 44) rfl w.heap.size g cap (escL (s.data.toList.take k)) rfl ⟨wr.heap.size, 0, none⟩ 3 3 [37, hexd (s[k].toNat / 16), hexd (s[k].toNat % 16)] rfl (HO1.out.alloc _).drew rfl (cell_three_bytes wr s[k]) HL.out (by simp; omega) (escL (s.data.toList.take (k + 1))) HE.out ?_; intro g2 cap2 w2 hown2 hb2)
            all_goals
              have HO2 : Hid (Own w.heap.size w2 g2 cap2 (escL (s.data.toList.take (k + 1)))) := hown2
              have HB2 : Hid (Below w.heap.size w w2) := (hbr.alloc hzr _).drew.trans hb2
              clear hown2 hb2
              go_wp2
              go_roundw
              case rel => exact ⟨k + 1, by omega, by go_num, HB2.out, Or.inr ⟨g2, cap2, rfl, HO2.out⟩⟩
              case measure => simp [intOf]; omega
    · have hk' : s.data.toList.take k = s.data.toList := List.take_of_length_le (by simp; omega)
      rcases HR.out with ⟨rfl, hall⟩ | ⟨g, cap, rfl, hown⟩
      · rw [hk'] at hall
        have HA : Hid (s.data.toList.all vis = true) := hall
        clear hall HR hk'
        go_wp2
        go_ret
        exact ⟨by rw [(escB_fixed s).2 HA.out]; rfl, hbr⟩
      · rw [hk'] at hown ⊢
        have hcv := hown.conv
        clear HR hk' hown
        go_wp2
        go_ret
        exact ⟨rfl, hbr⟩

end Go.Proofs.Qxb6617208a
