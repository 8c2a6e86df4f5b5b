/-
  Walks of the small functions: lookupText, formatText, String, zzIsWireWord, zzBytes.
-/
import Derived.Test.Qxb6617040aFmtTables
namespace Go.Proofs.Qxb6617040aFmt
open Go.RowKit
set_option linter.unusedVariables false

set_option maxHeartbeats 400000 in
theorem look_code (b n c : Nat) (s : ByteArray) (w : World) (hc : c < n) (hn : n ≤ 1000) (hne : s.toList.isEmpty = false) (hcell : w.cell? ⟨b, c * 2, none⟩ = some (.string s)) :
    Calls Tryf.prog 17 #[.slice (some ⟨b, 0, none⟩) n n, .int .i64 c] w fun e w' => e = .returned (.tuple #[.string s, .bool true]) ∧ w' = w := by
  go_enter Tryf.func17, Tryf.ntmps17
  go_wp2
  go_ret2
  exact ⟨rfl, rfl⟩

set_option maxHeartbeats 400000 in
theorem look_state (b n c : Nat) (s : ByteArray) (w : World) (hc : c < n) (hn : n ≤ 1000) (hne : s.toList.isEmpty = false) (hcell : w.cell? ⟨b, c * 2, none⟩ = some (.string s)) :
    Calls Tryf.prog 15 #[.slice (some ⟨b, 0, none⟩) n n, .int .i64 c] w fun e w' => e = .returned (.tuple #[.string s, .bool true]) ∧ w' = w := by
  go_enter Tryf.func15, Tryf.ntmps15
  go_wp2
  go_ret2
  exact ⟨rfl, rfl⟩

set_option maxHeartbeats 400000 in
theorem format_code (b n c : Nat) (s nm : ByteArray) (w : World) (hc : c < n) (hn : n ≤ 1000) (hne : s.toList.isEmpty = false) (hcell : w.cell? ⟨b, c * 2, none⟩ = some (.string s)) :
    Calls Tryf.prog 13 #[.slice (some ⟨b, 0, none⟩) n n, .int .i64 c, .string nm] w fun e w' => e = .returned (.string s) ∧ w' = w := by
  go_enter Tryf.func13, Tryf.ntmps13
  go_wp2_with (go_at_call 17; refine (look_code _ _ _ _ _ hc hn hne hcell).mono ?_; rintro e w' ⟨rfl, rfl⟩)
  go_ret
  exact ⟨rfl, rfl⟩

set_option maxHeartbeats 400000 in
theorem format_state (b n c : Nat) (s nm : ByteArray) (w : World) (hc : c < n) (hn : n ≤ 1000) (hne : s.toList.isEmpty = false) (hcell : w.cell? ⟨b, c * 2, none⟩ = some (.string s)) :
    Calls Tryf.prog 12 #[.slice (some ⟨b, 0, none⟩) n n, .int .i64 c, .string nm] w fun e w' => e = .returned (.string s) ∧ w' = w := by
  go_enter Tryf.func12, Tryf.ntmps12
  go_wp2_with (go_at_call 15; refine (look_state _ _ _ _ _ hc hn hne hcell).mono ?_; rintro e w' ⟨rfl, rfl⟩)
  go_ret
  exact ⟨rfl, rfl⟩

set_option maxHeartbeats 400000 in
theorem str_code (c : Nat) (s : ByteArray) (w : World) (hc : c < 11) (hne : s.toList.isEmpty = false) (hcell : w.cell? ⟨1, c * 2, none⟩ = some (.string s)) :
    Calls Tryf.prog 9 #[.int .i64 c] w fun e w' => e = .returned (.string s) ∧ w' = w := by
  go_enter Tryf.func9, Tryf.ntmps9
  go_wp2_with (go_at_call 13; refine (format_code 1 11 c s _ _ hc (by omega) hne hcell).mono ?_; rintro e w' ⟨rfl, rfl⟩)
  go_ret
  exact ⟨rfl, rfl⟩

set_option maxHeartbeats 400000 in
theorem str_state (c : Nat) (s : ByteArray) (w : World) (hc : c < 6) (hne : s.toList.isEmpty = false) (hcell : w.cell? ⟨0, c * 2, none⟩ = some (.string s)) :
    Calls Tryf.prog 7 #[.int .i64 c] w fun e w' => e = .returned (.string s) ∧ w' = w := by
  go_enter Tryf.func7, Tryf.ntmps7
  go_wp2_with (go_at_call 12; refine (format_state 0 6 c s _ _ hc (by omega) hne hcell).mono ?_; rintro e w' ⟨rfl, rfl⟩)
  go_ret
  exact ⟨rfl, rfl⟩

end Go.Proofs.Qxb6617040aFmt
