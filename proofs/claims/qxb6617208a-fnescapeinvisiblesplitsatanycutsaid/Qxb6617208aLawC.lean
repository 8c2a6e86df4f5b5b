/-
  The walk of FnEscapeInvisibleSplitsAtAnyCut.
-/
import Derived.Test.Qxb6617208aLawB
namespace Go.Proofs.Qxb6617208a
open Go.RowKit
set_option linter.unusedVariables false

set_option maxHeartbeats 400000 in
theorem lawC_great (s : ByteArray) (k : Int) (w : World) (hs : s.size ≤ maxLen) (h : 1048576 < s.size) :
    Calls Try.prog 4 #[.string s, .int .i64 k] w fun e w' => e = .returned (.bool true) ∧ w' = w := by
  go_enter Try.func4, Try.ntmps4
  go_wp2_with (go_at_call 10; refine (zb10_great s k _ hs h).mono ?_; rintro e w' ⟨rfl, hw⟩; obtain rfl := hw.symm)
  go_ret
  exact ⟨rfl, rfl⟩

set_option maxHeartbeats 400000 in
theorem lawC_out (s : ByteArray) (k : Int) (w : World) (h : s.size ≤ 1048576) (hk : k < 0 ∨ (s.size : Int) < k) :
    Calls Try.prog 4 #[.string s, .int .i64 k] w fun e w' => e = .returned (.bool true) ∧ w' = w := by
  rcases hk with hk | hk
  · go_enter Try.func4, Try.ntmps4
    go_wp2_with (go_at_call 10; refine (zb10_small s k _ h).mono ?_; rintro e w' ⟨rfl, hw⟩; obtain rfl := hw.symm)
    go_ret
    exact ⟨rfl, rfl⟩
  · have hk0 : ¬ k < 0 := by omega
    go_enter Try.func4, Try.ntmps4
    go_wp2_with (go_at_call 10; refine (zb10_small s k _ h).mono ?_; rintro e w' ⟨rfl, hw⟩; obtain rfl := hw.symm)
    go_ret
    exact ⟨rfl, rfl⟩

set_option maxHeartbeats 400000 in
theorem lawC_walk (s ta tb t : ByteArray) (k n : Nat) (w : World) (h : s.size ≤ 1048576) (hk : k ≤ s.size) (hn : n ≤ s.size)
    (hsa : ta.size ≤ 4194304) (hsb : tb.size ≤ 4194304)
    (hxa : ∀ w : World, Calls Try.prog 7 #[.string (s.extract 0 k)] w fun e w' => e = .returned (.string ta) ∧ Below w.heap.size w w')
    (hxb : ∀ w : World, Calls Try.prog 7 #[.string (s.extract k s.size)] w fun e w' => e = .returned (.string tb) ∧ Below w.heap.size w w')
    (hxt : ∀ w : World, Calls Try.prog 7 #[.string s] w fun e w' => e = .returned (.string t) ∧ Below w.heap.size w w')
    (hct : ∀ w : World, Calls Try.prog 11 #[.string s] w fun e w' => e = .returned (.int .i64 (n : Int)) ∧ w' = w)
    (hal : ∀ w : World, Calls Try.prog 12 #[.string t] w fun e w' => e = .returned (.bool true) ∧ w' = w)
    (hts : ((t.size : Int) == (s.size : Int) + 2 * (n : Int)) = true) (heq : ((ta ++ tb).toList == t.toList) = true) :
    Calls Try.prog 4 #[.string s, .int .i64 (k : Int)] w fun e w' => e = .returned (.bool true) ∧ Below w.heap.size w w' := by
  have HXA : Hid (∀ w : World, Calls Try.prog 7 #[.string (s.extract 0 k)] w fun e w' => e = .returned (.string ta) ∧ Below w.heap.size w w') := hxa
  have HXB : Hid (∀ w : World, Calls Try.prog 7 #[.string (s.extract k s.size)] w fun e w' => e = .returned (.string tb) ∧ Below w.heap.size w w') := hxb
  have HXT : Hid (∀ w : World, Calls Try.prog 7 #[.string s] w fun e w' => e = .returned (.string t) ∧ Below w.heap.size w w') := hxt
  have HCT : Hid (∀ w : World, Calls Try.prog 11 #[.string s] w fun e w' => e = .returned (.int .i64 (n : Int)) ∧ w' = w) := hct
  have HAL : Hid (∀ w : World, Calls Try.prog 12 #[.string t] w fun e w' => e = .returned (.bool true) ∧ w' = w) := hal
  clear hxa hxb hxt hct hal
  go_enter Try.func4, Try.ntmps4
  go_wp2_with (first
    | (go_at_call 10; refine (zb10_small s _ _ h).mono ?_; rintro e w' ⟨rfl, hw⟩; obtain rfl := hw.symm)
    | fail)
  refine (HXA.out _).mono ?_
  rintro e w1 ⟨rfl, hb1⟩
  have HB1 : Hid (Below w.heap.size w w1) := hb1
  have hs1 := hb1.size
  clear hb1
  go_wp2_with fail
  refine (HXB.out _).mono ?_
  rintro e w2 ⟨rfl, hb2⟩
  have hs2 := Nat.le_trans hs1 hb2.size
  have HB2 : Hid (Below w.heap.size w w2) := HB1.out.trans (hb2.mono hs1)
  clear hb2
  go_wp2_with fail
  refine (HXT.out _).mono ?_
  rintro e w3 ⟨rfl, hb3⟩
  have HB3 : Hid (Below w.heap.size w w3) := HB2.out.trans (hb3.mono hs2)
  clear hb3
  go_wp2_with (first
    | (go_at_call 11; refine (HCT.out _).mono ?_; rintro e w' ⟨rfl, hw⟩; obtain rfl := hw.symm)
    | (go_at_call 12; refine (HAL.out _).mono ?_; rintro e w' ⟨rfl, hw⟩; obtain rfl := hw.symm))
  go_ret
  exact ⟨rfl, HB3.out⟩

theorem extract_lo (s : ByteArray) (k : Nat) (hk : k ≤ s.size) : (s.extract 0 k).data.toList = s.data.toList.take k := by
  simp

theorem extract_hi (s : ByteArray) (k : Nat) (hk : k ≤ s.size) : (s.extract k s.size).data.toList = s.data.toList.drop k := by
  simp
  exact List.take_of_length_le (by simp)

theorem lawC_in (s : ByteArray) (k : Nat) (w : World) (h : s.size ≤ 1048576) (hk : k ≤ s.size) :
    Calls Try.prog 4 #[.string s, .int .i64 (k : Int)] w fun e w' => e = .returned (.bool true) ∧ Below w.heap.size w w' := by
  have e1 := extract_lo s k hk
  have e2 := extract_hi s k hk
  have z1 : (s.extract 0 k).size ≤ s.size := by simp; omega
  have z2 : (s.extract k s.size).size ≤ s.size := by simp
  have y1 := escB_size_le (s.extract 0 k)
  have y2 := escB_size_le (s.extract k s.size)
  have y3 := escB_size_le s
  have hl : s.data.toList.length = s.size := by simp
  have hiv := inv_le s.data.toList
  refine lawC_walk s (escB (s.extract 0 k)) (escB (s.extract k s.size)) (escB s) k (inv s.data.toList) w h hk (by omega) (by omega) (by omega)
    (fun w => zesc_any _ w (by omega)) (fun w => zesc_any _ w (by omega)) (fun w => zesc_any _ w (by omega)) (fun w => count_any s w (by omega)) (fun w => ?_) ?_ ?_
  · have := all_any (escB s) w (by omega)
    have hv : allVis (escB s) = true := by unfold allVis; rw [escB_list]; exact escL_all _
    rw [hv] at this
    exact this
  · have := escB_size s
    have := escL_len s.data.toList
    simp only [beq_iff_eq]
    omega
  · rw [beq_iff_eq, ByteArray.toList_eq, ByteArray.toList_eq]
    have : (escB (s.extract 0 k) ++ escB (s.extract k s.size)).data.toList = (escB (s.extract 0 k)).data.toList ++ (escB (s.extract k s.size)).data.toList := by simp
    rw [this, escB_list, escB_list, escB_list, e1, e2, ← escL_append, List.take_append_drop]

end Go.Proofs.Qxb6617208a
