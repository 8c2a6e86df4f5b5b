/-
  The walk of FnNumberIgnoresTextPastItsEnd.
-/
import Derived.Test.Qxb6617227aZz
namespace Go.Proofs.Qxb6617227a
open Go.RowKit
set_option linter.unusedVariables false

/-- ZZNumber hands back just this. -/
def Zz (src : ByteArray) (p : Nat) (kd : Int) (tx : ByteArray) (q : Nat) : Prop :=
  ∀ w : World, Calls Try.prog 20 #[.string src, .int .i64 (p : Int)] w fun e w' => e = .returned (.tuple #[.int .u8 kd, .string tx, .int .i64 (p : Int), .int .i64 (q : Int), .int .i64 (q : Int)]) ∧ Below w.heap.size w w'

set_option maxHeartbeats 400000 in
theorem lawI_great (s : ByteArray) (p k : Int) (w : World) (hs : s.size ≤ maxLen) (h : 1048576 < s.size) :
    Calls Try.prog 8 #[.string s, .int .i64 p, .int .i64 k] w fun e w' => e = .returned (.bool true) ∧ w' = w := by
  go_enter Try.func8, Try.ntmps8
  go_wp2_with (go_at_call 23; refine (zb23_great s p k _ hs h).mono ?_; rintro e w' ⟨rfl, hw⟩; obtain rfl := hw.symm)
  go_ret
  exact ⟨rfl, rfl⟩

set_option maxHeartbeats 400000 in
theorem lawI_out (s : ByteArray) (p k : Int) (w : World) (h : s.size ≤ 1048576) (hk : p < 0 ∨ (0 ≤ p ∧ (s.size : Int) < p) ∨ (0 ≤ p ∧ p ≤ (s.size : Int) ∧ k < p) ∨ (0 ≤ p ∧ p ≤ (s.size : Int) ∧ p ≤ k ∧ (s.size : Int) < k)) :
    Calls Try.prog 8 #[.string s, .int .i64 p, .int .i64 k] w fun e w' => e = .returned (.bool true) ∧ w' = w := by
  rcases hk with h1 | ⟨h1, h2⟩ | ⟨h1, h2, h3⟩ | ⟨h1, h2, h3, h4⟩
  all_goals
    go_enter Try.func8, Try.ntmps8
    go_wp2_with (go_at_call 23; refine (zb23_small s p k _ h).mono ?_; rintro e w' ⟨rfl, hw⟩; obtain rfl := hw.symm)
    go_ret
    exact ⟨rfl, rfl⟩

set_option maxRecDepth 100000 in
set_option maxHeartbeats 1600000 in
/-- The cut falls at or past the token's end. -/
theorem lawI_past (src tx : ByteArray) (p q k : Nat) (kd : Int) (w : World) (h : src.size ≤ 1048576) (h1 : p ≤ q) (h2 : q ≤ k) (h3 : k ≤ src.size)
    (hx : Zz src p kd tx q) (hy : Zz (src.extract 0 k) p kd tx q) (hk : kd = 7 ∨ ((kd = 2 ∨ kd = 3) ∧ tx = src.extract p q)) :
    Calls Try.prog 8 #[.string src, .int .i64 (p : Int), .int .i64 (k : Int)] w fun e w' => e = .returned (.bool true) ∧ Below w.heap.size w w' := by
  have HX : Hid (Zz src p kd tx q) := hx
  have HY : Hid (Zz (src.extract 0 k) p kd tx q) := hy
  clear hx hy
  rcases hk with rfl | ⟨rfl | rfl, rfl⟩
  all_goals
    go_enter Try.func8, Try.ntmps8
    go_wp2_with (first
      | (go_at_call 23; refine (zb23_small src _ _ _ h).mono ?_; rintro e w' ⟨rfl, hw⟩; obtain rfl := hw.symm)
      | fail)
    refine (HX.out _).mono ?_
    rintro e w1 ⟨rfl, hb1⟩
    have HB1 : Hid (Below w.heap.size w w1) := hb1
    have hs1 := hb1.size
    clear hb1
    go_wp2_with fail
    refine (HY.out _).mono ?_
    rintro e w2 ⟨rfl, hb2⟩
    have HB2 : Hid (Below w.heap.size w w2) := HB1.out.trans (hb2.mono hs1)
    clear hb2
    go_wp2
    go_ret
    exact ⟨rfl, HB2.out⟩

set_option maxRecDepth 100000 in
set_option maxHeartbeats 1600000 in
/-- The cut falls inside the token. -/
theorem lawI_inside (src tx tx' : ByteArray) (p q k : Nat) (kd kd' : Int) (w : World) (h : src.size ≤ 1048576) (h1 : p ≤ k) (h2 : k < q) (h3 : q ≤ src.size)
    (hx : Zz src p kd tx q) (hy : Zz (src.extract 0 k) p kd' tx' k) (hk : kd = 7 ∨ ((kd = 2 ∨ kd = 3) ∧ tx = src.extract p q)) (hk' : kd' = 7 ∨ ((kd' = 2 ∨ kd' = 3) ∧ tx' = src.extract p k)) :
    Calls Try.prog 8 #[.string src, .int .i64 (p : Int), .int .i64 (k : Int)] w fun e w' => e = .returned (.bool true) ∧ Below w.heap.size w w' := by
  have HX : Hid (Zz src p kd tx q) := hx
  have HY : Hid (Zz (src.extract 0 k) p kd' tx' k) := hy
  clear hx hy
  rcases hk with rfl | ⟨rfl | rfl, rfl⟩ <;> rcases hk' with rfl | ⟨rfl | rfl, rfl⟩
  all_goals
    go_enter Try.func8, Try.ntmps8
    go_wp2_with (first
      | (go_at_call 23; refine (zb23_small src _ _ _ h).mono ?_; rintro e w' ⟨rfl, hw⟩; obtain rfl := hw.symm)
      | fail)
    refine (HX.out _).mono ?_
    rintro e w1 ⟨rfl, hb1⟩
    have HB1 : Hid (Below w.heap.size w w1) := hb1
    have hs1 := hb1.size
    clear hb1
    go_wp2_with fail
    refine (HY.out _).mono ?_
    rintro e w2 ⟨rfl, hb2⟩
    have HB2 : Hid (Below w.heap.size w w2) := HB1.out.trans (hb2.mono hs1)
    clear hb2
    go_wp2
    go_ret
    exact ⟨rfl, HB2.out⟩

end Go.Proofs.Qxb6617227a
