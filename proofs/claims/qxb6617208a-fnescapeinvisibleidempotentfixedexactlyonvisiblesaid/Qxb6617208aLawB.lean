/-
  The walk of FnEscapeInvisibleIdempotentFixedExactlyOnVisible.
-/
import Derived.Test.Qxb6617208aSmall
namespace Go.Proofs.Qxb6617208a
open Go.RowKit
set_option linter.unusedVariables false

set_option maxHeartbeats 400000 in
theorem lawB_great (s : ByteArray) (w : World) (hs : s.size ≤ maxLen) (h : 1048576 < s.size) :
    Calls Try.prog 5 #[.string s] w fun e w' => e = .returned (.bool true) ∧ w' = w := by
  go_enter Try.func5, Try.ntmps5
  go_wp2_with (go_at_call 13; refine (zb13_great s _ hs h).mono ?_; rintro e w' ⟨rfl, hw⟩; obtain rfl := hw.symm)
  go_ret
  exact ⟨rfl, rfl⟩

theorem escB_size_le (s : ByteArray) : (escB s).size ≤ 3 * s.size := by
  rw [escB_size]
  have := escL_len s.data.toList
  have := inv_le s.data.toList
  have : s.data.toList.length = s.size := by simp
  omega

/-- The walk over whatever the escape and its escape are, given what each call hands back. -/
theorem lawB_walk (s t : ByteArray) (b : Bool) (w : World) (h : s.size ≤ 1048576)
    (hx : ∀ w : World, Calls Try.prog 7 #[.string s] w fun e w' => e = .returned (.string t) ∧ Below w.heap.size w w')
    (hy : ∀ w : World, Calls Try.prog 7 #[.string t] w fun e w' => e = .returned (.string t) ∧ Below w.heap.size w w')
    (hz : ∀ w : World, Calls Try.prog 12 #[.string s] w fun e w' => e = .returned (.bool b) ∧ w' = w)
    (hq : (t.toList == s.toList) = b) :
    Calls Try.prog 5 #[.string s] w fun e w' => e = .returned (.bool true) ∧ Below w.heap.size w w' := by
  have HX : Hid (∀ w : World, Calls Try.prog 7 #[.string s] w fun e w' => e = .returned (.string t) ∧ Below w.heap.size w w') := hx
  have HY : Hid (∀ w : World, Calls Try.prog 7 #[.string t] w fun e w' => e = .returned (.string t) ∧ Below w.heap.size w w') := hy
  have HZ : Hid (∀ w : World, Calls Try.prog 12 #[.string s] w fun e w' => e = .returned (.bool b) ∧ w' = w) := hz
  clear hx hy hz
  go_enter Try.func5, Try.ntmps5
  go_wp2_with (first
    | (go_at_call 13; refine (zb13_small s _ h).mono ?_; rintro e w' ⟨rfl, hw⟩; obtain rfl := hw.symm)
    | fail)
  refine (HX.out _).mono ?_
  rintro e w1 ⟨rfl, hb1⟩
  have HB1 : Hid (Below w.heap.size w w1) := hb1
  have hs1 := hb1.size
  clear hb1
  go_wp2_with fail
  refine (HY.out _).mono ?_
  rintro e w2 ⟨rfl, hb2⟩
  have HB2 : Hid (Below w.heap.size w w2) := HB1.out.trans (hb2.mono hs1)
  clear hb2
  go_wp2_with (go_at_call 12; refine (HZ.out _).mono ?_; rintro e w' ⟨rfl, hw⟩; obtain rfl := hw.symm)
  go_ret
  refine ⟨?_, HB2.out⟩
  cases b <;> simp

theorem lawB_small (s : ByteArray) (w : World) (h : s.size ≤ 1048576) :
    Calls Try.prog 5 #[.string s] w fun e w' => e = .returned (.bool true) ∧ Below w.heap.size w w' := by
  have h3 := escB_size_le s
  refine lawB_walk s (escB s) (allVis s) w h (fun w => zesc_any s w (by omega)) (fun w => ?_) (fun w => all_any s w (by omega)) ?_
  · have := zesc_any (escB s) w (by omega)
    rw [escB_idem] at this
    exact this
  · rw [Bool.eq_iff_iff, beq_iff_eq, ByteArray.toList_eq, ByteArray.toList_eq]
    show _ ↔ s.data.toList.all vis = true
    rw [← escB_fixed]
    constructor
    · intro h; exact ByteArray.ext (Array.toList_inj.1 h)
    · intro h; rw [h]

end Go.Proofs.Qxb6617208a
