/-
  The walk of FnNumberReadsTheLongestNumeralPrefix.
-/
import Derived.Test.Qxb6617227aZz
import Derived.Test.Qxb6617227aShape2
namespace Go.Proofs.Qxb6617227a
open Go.RowKit
set_option linter.unusedVariables false

/-- ZZNumber hands back just this. -/
def Zn (src : ByteArray) (p : Nat) (kd : Int) (tx : ByteArray) (q : Nat) : Prop :=
  ∀ w : World, Calls Try.prog 20 #[.string src, .int .i64 (p : Int)] w fun e w' => e = .returned (.tuple #[.int .u8 kd, .string tx, .int .i64 (p : Int), .int .i64 (q : Int), .int .i64 (q : Int)]) ∧ Below w.heap.size w w'
/-- zzNumeralShape hands back just this. -/
def Sh (s : ByteArray) (a b : Bool) : Prop := ∀ w : World, Calls Try.prog 21 #[.string s] w fun e w' => e = .returned (.tuple #[.bool a, .bool b]) ∧ w' = w
/-- zzHasPointOrExponent hands back just this. -/
def Pe (s : ByteArray) (a : Bool) : Prop := ∀ w : World, Calls Try.prog 22 #[.string s] w fun e w' => e = .returned (.bool a) ∧ w' = w

set_option maxHeartbeats 400000 in
theorem lawL_great (s : ByteArray) (p : Int) (w : World) (hs : s.size ≤ maxLen) (h : 1048576 < s.size) :
    Calls Try.prog 7 #[.string s, .int .i64 p] w fun e w' => e = .returned (.bool true) ∧ w' = w := by
  go_enter Try.func7, Try.ntmps7
  go_wp2_with (go_at_call 19; refine (zb19_great s p _ hs h).mono ?_; rintro e w' ⟨rfl, hw⟩; obtain rfl := hw.symm)
  go_ret
  exact ⟨rfl, rfl⟩

set_option maxHeartbeats 400000 in
theorem lawL_out (s : ByteArray) (p : Int) (w : World) (h : s.size ≤ 1048576) (hk : p < 0 ∨ (0 ≤ p ∧ (s.size : Int) < p)) :
    Calls Try.prog 7 #[.string s, .int .i64 p] w fun e w' => e = .returned (.bool true) ∧ w' = w := by
  rcases hk with h1 | ⟨h1, h2⟩
  all_goals
    go_enter Try.func7, Try.ntmps7
    go_wp2_with (go_at_call 19; refine (zb19_small s p _ h).mono ?_; rintro e w' ⟨rfl, hw⟩; obtain rfl := hw.symm)
    go_ret
    exact ⟨rfl, rfl⟩

set_option maxRecDepth 100000 in
set_option maxHeartbeats 1600000 in
/-- The token is broken. -/
theorem lawL_bad (src : ByteArray) (p q : Nat) (b2 : Bool) (w : World) (h : src.size ≤ 1048576) (h1 : p ≤ q) (h2 : q ≤ src.size)
    (hx : Zn src p 7 badMsg q) (hs : Sh (src.extract p q) true false) (hm : q < src.size → Sh (src.extract p (q + 1)) false b2) :
    Calls Try.prog 7 #[.string src, .int .i64 (p : Int)] w fun e w' => e = .returned (.bool true) ∧ Below w.heap.size w w' := by
  have HX : Hid (Zn src p 7 ⟨#[101, 120, 112, 111, 110, 101, 110, 116, 32, 119, 105, 116, 104, 111, 117, 116, 32, 100, 105, 103, 105, 116, 115]⟩ q) := hx
  have HS : Hid (Sh (src.extract p q) true false) := hs
  have HM : Hid (q < src.size → Sh (src.extract p (q + 1)) false b2) := hm
  clear hx hs hm
  by_cases hlt : q < src.size
  · have hlt' : (q : Int) < (src.size : Int) := by omega
    go_enter Try.func7, Try.ntmps7
    go_wp2_with (first
      | (go_at_call 19; refine (zb19_small src _ _ h).mono ?_; rintro e w' ⟨rfl, hw⟩; obtain rfl := hw.symm)
      | (go_at_call 20; refine (HX.out _).mono ?_; rintro e w1 ⟨rfl, hb1⟩; have HB1 : Hid (Below w.heap.size w w1) := hb1; clear hb1))
    refine (HS.out _).mono ?_
    rintro e w' ⟨rfl, hw⟩; obtain rfl := hw.symm
    go_wp2_with fail
    refine (HM.out hlt _).mono ?_
    rintro e w' ⟨rfl, hw⟩; obtain rfl := hw.symm
    go_wp2
    go_ret
    exact ⟨rfl, HB1.out⟩
  · have hlt' : ¬ (q : Int) < (src.size : Int) := by omega
    go_enter Try.func7, Try.ntmps7
    go_wp2_with (first
      | (go_at_call 19; refine (zb19_small src _ _ h).mono ?_; rintro e w' ⟨rfl, hw⟩; obtain rfl := hw.symm)
      | (go_at_call 20; refine (HX.out _).mono ?_; rintro e w1 ⟨rfl, hb1⟩; have HB1 : Hid (Below w.heap.size w w1) := hb1; clear hb1))
    refine (HS.out _).mono ?_
    rintro e w' ⟨rfl, hw⟩; obtain rfl := hw.symm
    go_wp2
    go_ret
    exact ⟨rfl, HB1.out⟩

set_option maxRecDepth 100000 in
set_option maxHeartbeats 1600000 in
/-- The token is a numeral. -/
theorem lawL_good (src : ByteArray) (p q : Nat) (kd : Int) (pe b2 : Bool) (w : World) (h : src.size ≤ 1048576) (h1 : p ≤ q) (h2 : q ≤ src.size)
    (hx : Zn src p kd (src.extract p q) q) (hs : Sh (src.extract p q) true true) (hm : q < src.size → Sh (src.extract p (q + 1)) false b2) (hp : Pe (src.extract p q) pe) (hk : (pe = true ∧ kd = 3) ∨ (pe = false ∧ kd = 2)) :
    Calls Try.prog 7 #[.string src, .int .i64 (p : Int)] w fun e w' => e = .returned (.bool true) ∧ Below w.heap.size w w' := by
  have HX : Hid (Zn src p kd (src.extract p q) q) := hx
  have HS : Hid (Sh (src.extract p q) true true) := hs
  have HM : Hid (q < src.size → Sh (src.extract p (q + 1)) false b2) := hm
  have HP : Hid (Pe (src.extract p q) pe) := hp
  clear hx hs hm hp
  rcases hk with ⟨rfl, rfl⟩ | ⟨rfl, rfl⟩
  all_goals
    by_cases hlt : q < src.size
    · have hlt' : (q : Int) < (src.size : Int) := by omega
      go_enter Try.func7, Try.ntmps7
      go_wp2_with (first
        | (go_at_call 19; refine (zb19_small src _ _ h).mono ?_; rintro e w' ⟨rfl, hw⟩; obtain rfl := hw.symm)
        | (go_at_call 20; refine (HX.out _).mono ?_; rintro e w1 ⟨rfl, hb1⟩; have HB1 : Hid (Below w.heap.size w w1) := hb1; clear hb1))
      refine (HS.out _).mono ?_
      rintro e w' ⟨rfl, hw⟩; obtain rfl := hw.symm
      go_wp2_with fail
      refine (HM.out hlt _).mono ?_
      rintro e w' ⟨rfl, hw⟩; obtain rfl := hw.symm
      go_wp2_with (go_at_call 22; refine (HP.out _).mono ?_; rintro e w' ⟨rfl, hw⟩; obtain rfl := hw.symm)
      go_ret
      exact ⟨rfl, HB1.out⟩
    · have hlt' : ¬ (q : Int) < (src.size : Int) := by omega
      go_enter Try.func7, Try.ntmps7
      go_wp2_with (first
        | (go_at_call 19; refine (zb19_small src _ _ h).mono ?_; rintro e w' ⟨rfl, hw⟩; obtain rfl := hw.symm)
        | (go_at_call 20; refine (HX.out _).mono ?_; rintro e w1 ⟨rfl, hb1⟩; have HB1 : Hid (Below w.heap.size w w1) := hb1; clear hb1))
      refine (HS.out _).mono ?_
      rintro e w' ⟨rfl, hw⟩; obtain rfl := hw.symm
      go_wp2_with (go_at_call 22; refine (HP.out _).mono ?_; rintro e w' ⟨rfl, hw⟩; obtain rfl := hw.symm)
      go_ret
      exact ⟨rfl, HB1.out⟩

end Go.Proofs.Qxb6617227a
