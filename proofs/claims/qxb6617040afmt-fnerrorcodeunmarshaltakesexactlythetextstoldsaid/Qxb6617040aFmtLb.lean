/-
  The law FnErrorCodeUnmarshalTakesExactlyTheTexts: its walk.
-/
import Derived.Test.Qxb6617040aFmtLa
import Derived.Test.Qxb6617040aFmtPl
namespace Go.Proofs.Qxb6617040aFmt
open Go.RowKit Go.Extern.Stop Go.Stop Go.Extern
set_option linter.unusedVariables false

set_option maxHeartbeats 400000 in
theorem zb_small (ao : Option Addr) (n cap : Nat) (st : Int) (w : World) (h : n ≤ 1048576) :
    Calls Tryf.prog 11 #[.slice ao n cap, .int .i64 st] w fun e w' => e = .returned (.bool true) ∧ w' = w := by
  go_enter Tryf.func11, Tryf.ntmps11
  go_wp2
  go_ret
  exact ⟨rfl, rfl⟩

set_option maxHeartbeats 400000 in
theorem zb_great (ao : Option Addr) (n cap : Nat) (st : Int) (w : World) (h : 1048576 < n) :
    Calls Tryf.prog 11 #[.slice ao n cap, .int .i64 st] w fun e w' => e = .returned (.bool false) ∧ w' = w := by
  go_enter Tryf.func11, Tryf.ntmps11
  go_wp2
  go_ret
  exact ⟨rfl, rfl⟩

set_option maxHeartbeats 400000 in
theorem ut_great (ao : Option Addr) (n cap : Nat) (st : Int) (w : World) (h : 65536 < n) :
    Calls Tryf.prog 5 #[.slice ao n cap, .int .i64 st] w fun e w' => e = .returned (.bool true) ∧ w' = w := by
  by_cases hg : 1048576 < n
  · go_enter Tryf.func5, Tryf.ntmps5
    go_wp2_with (go_at_call 11; refine (zb_great _ _ _ _ _ hg).mono ?_; rintro e w' ⟨rfl, hw⟩; obtain rfl := hw.symm)
    go_ret
    exact ⟨rfl, rfl⟩
  · have hs : n ≤ 1048576 := by omega
    go_enter Tryf.func5, Tryf.ntmps5
    go_wp2_with (go_at_call 11; refine (zb_small _ _ _ _ _ hs).mono ?_; rintro e w' ⟨rfl, hw⟩; obtain rfl := hw.symm)
    go_ret
    exact ⟨rfl, rfl⟩

theorem Txt.shape {B : Nat} {w : World} {v : Value} {s : ByteArray} (h : Txt B w v s) : ∃ ao cap, v = .slice ao s.size cap := by
  rcases h with ⟨rfl, rfl⟩ | ⟨a, cap, rfl, _⟩
  · exact ⟨none, 0, rfl⟩
  · exact ⟨some a, cap, rfl⟩

set_option maxHeartbeats 400000 in
theorem ut_hit (ao : Option Addr) (cap : Nat) (st : Int) (s es : ByteArray) (a : Addr) (w : World) (j : Nat) (h1 : 1 ≤ j) (h2 : j ≤ 10) (hs : s.size ≤ 65536) (ht : Tabs es a w) (htx : Txt w.heap.size w (.slice ao s.size cap) s)
    (hne : s.toList.isEmpty = false) (hh : hit tx s j) (ho : ∀ i, i < j → ¬ hit tx s i) (hc : w.cell? ⟨1, j * 2, none⟩ = some (.string s)) :
    Calls Tryf.prog 5 #[.slice ao s.size cap, .int .i64 st] w fun e w' => e = .returned (.bool true) ∧ Below w.heap.size w w' := by
  have HT : Hid (Tabs es a w) := ht
  have HX : Hid (Txt w.heap.size w (.slice ao s.size cap) s) := htx
  have HH : Hid (hit tx s j) := hh
  have HO : Hid (∀ i, i < j → ¬ hit tx s i) := ho
  have HC : Hid (w.cell? ⟨1, j * 2, none⟩ = some (.string s)) := hc
  clear ht htx hh ho hc
  have hb0 : Below w.heap.size w (w.alloc (.cells #[.int .i64 st] 26)) := (Below.refl _ _).alloc (Nat.le_refl _) _
  go_enter Tryf.func5, Tryf.ntmps5
  go_wp2_with (first
    | (go_at_call 11; refine (zb_small _ _ _ _ _ (by omega)).mono ?_; rintro e w' ⟨rfl, hw⟩; obtain rfl := hw.symm)
    | fail)
  refine (umt_yes tx tn _ s es a w.heap.size w.heap.size st _ (HT.out.laid hb0 (by omega) (by simp) (HX.out.later hb0)) j (by omega) HH.out HO.out (by simp) (by simp) (by simp)).mono ?_
  rintro e w' ⟨rfl, w1, hb1, hw'⟩
  have hb2 : Below w.heap.size w w1 := hb0.trans (hb1.mono (by simp))
  have hb3 : Below w.heap.size w w' := by rw [hw']; exact hb2.setCell (Nat.le_refl _) _
  have hcw : w1.cell? ⟨w.heap.size, 0, none⟩ = some (.int .i64 st) := (hb1.cell (p := ⟨w.heap.size, 0, none⟩) (by simp)).trans (by simp)
  have hcw2 : w'.cell? ⟨w.heap.size, 0, none⟩ = some (.int .i64 j) := by rw [hw']; exact World.cell?_setCell_same _ _ _ hcw
  clear hw' hb1 hb2 hcw
  have hcv := (HX.out.later hb3.drew).conv
  have hcj : w'.drew.cell? ⟨1, j * 2, none⟩ = some (.string s) := (hb3.drew.cell (p := ⟨1, j * 2, none⟩) (by have := HT.out.two; show 1 < w.heap.size; omega)).trans HC.out
  have HJ : Hid (w'.drew.cell? ⟨1, j * 2, none⟩ = some (.string s)) := hcj
  clear hcj
  go_wp2_with fail
  go_region_with (go_at_call 9; refine (str_code j s _ ?_ hne ?_).mono ?_; omega; exact HJ.out; rintro e w2 ⟨rfl, hw⟩; obtain rfl := hw.symm)
  all_goals go_wp2
  all_goals go_ret
  all_goals exact ⟨rfl, hb3.drew⟩

set_option maxHeartbeats 800000 in
theorem ut_miss (T : Nat → ByteArray) (ao : Option Addr) (cap : Nat) (st : Int) (s es : ByteArray) (a : Addr) (w : World) (hs : s.size ≤ 65536) (ht : Tabs es a w) (htx : Txt w.heap.size w (.slice ao s.size cap) s) (hst : (st != st) = false)
    (ho : ∀ i, i < 11 → ¬ hit tx s i) (hT : ∀ k, k < 11 → w.cell? ⟨1, k * 2, none⟩ = some (.string (T k))) (hTe : ∀ k, k < 11 → 1 ≤ k → (T k).toList.isEmpty = false) (hTq : ∀ k, k < 11 → 1 ≤ k → ((T k).toList == s.toList) = false) :
    Calls Tryf.prog 5 #[.slice ao s.size cap, .int .i64 st] w fun e w' => e = .returned (.bool true) ∧ Below w.heap.size w w' := by
  have HT : Hid (Tabs es a w) := ht
  have HX : Hid (Txt w.heap.size w (.slice ao s.size cap) s) := htx
  have HO : Hid (∀ i, i < 11 → ¬ hit tx s i) := ho
  have HC : Hid (∀ k, k < 11 → w.cell? ⟨1, k * 2, none⟩ = some (.string (T k))) := hT
  have HE : Hid (∀ k, k < 11 → 1 ≤ k → (T k).toList.isEmpty = false) := hTe
  have HQ : Hid (∀ k, k < 11 → 1 ≤ k → ((T k).toList == s.toList) = false) := hTq
  clear ht htx ho hT hTe hTq
  have hb0 : Below w.heap.size w (w.alloc (.cells #[.int .i64 st] 26)) := (Below.refl _ _).alloc (Nat.le_refl _) _
  go_enter Tryf.func5, Tryf.ntmps5
  go_wp2_with (first
    | (go_at_call 11; refine (zb_small _ _ _ _ _ (by omega)).mono ?_; rintro e w' ⟨rfl, hw⟩; obtain rfl := hw.symm)
    | fail)
  refine (umt_no tx tn _ s es a w.heap.size _ _ (HT.out.laid hb0 (by omega) (by simp) (HX.out.later hb0)) HO.out).mono ?_
  rintro e w' ⟨⟨u, x, rfl⟩, hb1⟩
  have hb2 : Below w.heap.size w w' := hb0.trans (hb1.mono (by simp))
  have hcw : w'.cell? ⟨w.heap.size, 0, none⟩ = some (.int .i64 st) := (hb1.cell (p := ⟨w.heap.size, 0, none⟩) (by simp)).trans (by simp)
  clear hb1
  go_wp2
  go_loopw [7] (fun i wr => ∃ k : Nat, 1 ≤ k ∧ k ≤ 11 ∧ i = .int .i64 k ∧ Below w.heap.size w wr) (fun i _ => 11 - (intOf i).toNat)
  case atStart => exact ⟨1, by omega, by omega, rfl, hb2⟩
  case round =>
    obtain ⟨k, hk1, hk, rfl, hbr⟩ := hrel
    by_cases hlt : k < 11
    · have hcv := (HX.out.later hbr.drew).conv
      have hne := HE.out k hlt hk1
      have HJ : Hid (wr.drew.cell? ⟨1, k * 2, none⟩ = some (.string (T k))) := (hbr.drew.cell (p := ⟨1, k * 2, none⟩) (by have := HT.out.two; show 1 < w.heap.size; omega)).trans (HC.out k hlt)
      have hq := HQ.out k hlt hk1
      go_wp2_with fail
      go_region_with (go_at_call 9; refine (str_code k (T k) _ ?_ hne ?_).mono ?_; omega; exact HJ.out; rintro e w2 ⟨rfl, hw⟩; obtain rfl := hw.symm)
      all_goals go_wp2
      all_goals
        go_roundw
        case rel => exact ⟨k + 1, by omega, by omega, by go_num, hbr.drew⟩
        case measure => simp [intOf]; omega
    · go_wp2
      go_ret
      exact ⟨rfl, hbr⟩

end Go.Proofs.Qxb6617040aFmt
