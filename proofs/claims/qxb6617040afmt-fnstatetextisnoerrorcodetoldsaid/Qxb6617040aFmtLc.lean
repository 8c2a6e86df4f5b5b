/-
  The law FnStateTextIsNoErrorCode: its walk.
-/
import Derived.Test.Qxb6617040aFmtLa
namespace Go.Proofs.Qxb6617040aFmt
open Go.RowKit Go.Extern.Stop Go.Stop Go.Extern
set_option linter.unusedVariables false

set_option maxHeartbeats 400000 in
theorem sn_out (c st : Int) (w : World) (h : c < 1 ∨ 5 < c) :
    Calls Tryf.prog 6 #[.int .i64 c, .int .i64 st] w fun e w' => e = .returned (.bool true) ∧ w' = w := by
  rcases h with h | h
  · go_enter Tryf.func6, Tryf.ntmps6
    go_wp2
    go_ret
    exact ⟨rfl, rfl⟩
  · have h' : ¬ c < 1 := by omega
    go_enter Tryf.func6, Tryf.ntmps6
    go_wp2
    go_ret
    exact ⟨rfl, rfl⟩

set_option maxHeartbeats 400000 in
theorem sn_in (c : Nat) (st : Int) (s es : ByteArray) (a : Addr) (w : World) (h1 : 1 ≤ c) (h2 : c ≤ 5) (ht : Tabs es a w) (hc : w.cell? ⟨0, c * 2, none⟩ = some (.string s)) (hne : s.toList.isEmpty = false) (hww : wireWord s)
    (ho : ∀ i, i < 11 → ¬ hit tx s i) :
    Calls Tryf.prog 6 #[.int .i64 c, .int .i64 st] w fun e w' => e = .returned (.bool true) ∧ Below w.heap.size w w' := by
  have HW : Hid (wireWord s) := hww
  have HT : Hid (Tabs es a w) := ht
  have HO : Hid (∀ i, i < 11 → ¬ hit tx s i) := ho
  clear ht hww ho
  obtain ⟨cap, o, hcv, htx⟩ := bytes_made (w.alloc (.cells #[.int .i64 st] 26)) s
  simp only [World.size_alloc] at htx
  have HX : Hid (Txt (w.heap.size + 1 + 1) ((w.alloc (.cells #[.int .i64 st] 26)).alloc o).drew (.slice (some ⟨w.heap.size + 1, 0, none⟩) s.size cap) s) := htx
  clear htx
  simp only [World.size_alloc] at hcv
  go_enter Tryf.func6, Tryf.ntmps6
  go_wp2_with (first
    | (go_at_call 7; refine (str_state c s _ (by omega) hne hc).mono ?_; rintro e w' ⟨rfl, hw⟩; obtain rfl := hw.symm)
    | (go_at_call 8; refine (word_true s _ HW.out).mono ?_; rintro e w' ⟨rfl, hw⟩; obtain rfl := hw.symm)
    | fail)
  have hb0 : Below w.heap.size w ((w.alloc (.cells #[.int .i64 st] 26)).alloc o).drew := (((Below.refl _ _).alloc (Nat.le_refl _) _).alloc (by simp) _).drew
  refine (umt_no tx tn _ s es a (w.heap.size + 1 + 1) _ _ (HT.out.laid hb0 (by omega) (by simp) HX.out) HO.out).mono ?_
  rintro e w' ⟨⟨u, x, rfl⟩, hb1⟩
  have hb2 : Below w.heap.size w w' := hb0.trans (hb1.mono (by simp; omega))
  have hcw : w'.cell? ⟨w.heap.size, 0, none⟩ = some (.int .i64 st) := (hb1.cell (p := ⟨w.heap.size, 0, none⟩) (by simp; omega)).trans (by simp)
  go_wp2
  go_ret
  exact ⟨rfl, hb2⟩

end Go.Proofs.Qxb6617040aFmt
