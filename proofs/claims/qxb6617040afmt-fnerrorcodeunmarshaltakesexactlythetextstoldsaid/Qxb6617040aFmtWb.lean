/-
  The walk of zzIsWireWord at a word of the wire's make.
-/
import Derived.Test.Qxb6617040aFmtTables
namespace Go.Proofs.Qxb6617040aFmt
open Go.RowKit
set_option linter.unusedVariables false

/-- A word of the wire: not empty, no underscore at its head or its end, letters and underscores alone. -/
def wireWord (s : ByteArray) : Prop :=
  ∃ h : 0 < s.size, s.size ≤ 1000 ∧ s[0].toNat ≠ 95 ∧ (s[s.size - 1]'(by omega)).toNat ≠ 95 ∧ ∀ i (hi : i < s.size), (97 ≤ s[i].toNat ∧ s[i].toNat ≤ 122) ∨ s[i].toNat = 95

set_option maxHeartbeats 400000 in
theorem word_true (s : ByteArray) (w : World) (hw : wireWord s) :
    Calls Tryf.prog 8 #[.string s] w fun e w' => e = .returned (.bool true) ∧ w' = w := by
  obtain ⟨h0, hs, ha, hb, hall⟩ := hw
  have ha' : ((s[0].toNat : Int) == 95) = false := beq_eq_false_iff_ne.2 (by omega)
  have hb' : (((s[s.size - 1]'(by omega)).toNat : Int) == 95) = false := beq_eq_false_iff_ne.2 (by omega)
  have HA : Hid (∀ i (hi : i < s.size), (97 ≤ s[i].toNat ∧ s[i].toNat ≤ 122) ∨ s[i].toNat = 95) := hall
  have hz : ((s.size : Int) == 0) = false := beq_eq_false_iff_ne.2 (by omega)
  clear hall ha hb
  go_enter Tryf.func8, Tryf.ntmps8
  go_wp2
  go_loop [3] (fun i => ∃ k : Nat, k ≤ s.size ∧ i = .int .i64 k) (fun i => s.size - (intOf i).toNat)
  case atStart => exact ⟨0, Nat.zero_le _, rfl⟩
  case round =>
    obtain ⟨k, hk, rfl⟩ := hrel
    by_cases hlt : k < s.size
    · have hx := HA.out k hlt
      by_cases h95 : s[k].toNat = 95
      · have h95' : ((s[k].toNat : Int) != 95) = false := by simp [h95]
        clear hx h95
        go_wp2
        all_goals
          go_round
          case rel => exact ⟨k + 1, by omega, by go_num⟩
          case measure => simp [intOf]; omega
      · have h1 : (97 : Int) ≤ (s[k].toNat : Int) := by omega
        have h2 : (s[k].toNat : Int) ≤ 122 := by omega
        clear hx h95
        go_wp2
        all_goals
          go_round
          case rel => exact ⟨k + 1, by omega, by go_num⟩
          case measure => simp [intOf]; omega
    · go_wp2
      go_ret
      exact ⟨rfl, rfl⟩

end Go.Proofs.Qxb6617040aFmt
