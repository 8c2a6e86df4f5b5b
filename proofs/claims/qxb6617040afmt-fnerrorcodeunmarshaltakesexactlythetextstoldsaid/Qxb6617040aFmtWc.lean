/-
  The walk of unmarshalText.
-/
import Derived.Test.Qxb6617040aFmtFm
namespace Go.Proofs.Qxb6617040aFmt
open Go.RowKit Go.Extern.Stop Go.Stop Go.Extern
set_option linter.unusedVariables false

/-- Entry i of the table T is no empty text, and it is s. -/
def hit (T : Nat → ByteArray) (s : ByteArray) (i : Nat) : Prop := (T i).toList.isEmpty = false ∧ ((T i).toList == s.toList) = true

set_option maxHeartbeats 400000 in
theorem unm_any (T : Nat → ByteArray) (N : Nat → Int) (tv : Value) (s es : ByteArray) (a : Addr) (w : World)
    (htv : Txt w.heap.size w tv s) (ha : a.block < w.heap.size) (hes : w.cell? a = some (.string es)) (h1 : 1 < w.heap.size)
    (hT : ∀ k, k < 11 → w.cell? ⟨1, k * 2, none⟩ = some (.string (T k))) (hN : ∀ k, k < 11 → w.cell? ⟨1, k * 2 + 1, none⟩ = some (.int .i64 (N k))) :
    Calls Tryf.prog 14 #[.slice (some ⟨1, 0, none⟩) 11 11, tv, .iface 52 (.pointer (some a))] w fun e w' => Below w.heap.size w w' ∧
      ((∃ j, j < 11 ∧ hit T s j ∧ (∀ i, i < j → ¬ hit T s i) ∧ e = .returned (.tuple #[.int .i64 j, .nilIface])) ∨
       ((∀ i, i < 11 → ¬ hit T s i) ∧ ∃ u x, e = .returned (.tuple #[.int .i64 0, .iface u x]))) := by
  have HT : Hid (Txt w.heap.size w tv s) := htv
  have HC : Hid (∀ k, k < 11 → w.cell? ⟨1, k * 2, none⟩ = some (.string (T k))) := hT
  have HN : Hid (∀ k, k < 11 → w.cell? ⟨1, k * 2 + 1, none⟩ = some (.int .i64 (N k))) := hN
  have HE : Hid (w.cell? a = some (.string es)) := hes
  clear htv hT hN hes
  go_enter Tryf.func14, Tryf.ntmps14
  go_wp2
  go_loopw [12] (fun i wr => ∃ k : Nat, k ≤ 11 ∧ i = .int .i64 k ∧ Below w.heap.size w wr ∧ Hid (∀ i, i < k → ¬ hit T s i))
    (fun i _ => 11 - (intOf i).toNat)
  case atStart => exact ⟨0, by omega, rfl, Below.refl _ _, fun i hi => by omega⟩
  case round =>
    obtain ⟨k, hk, rfl, hbr, HI⟩ := hrel
    by_cases hlt : k < 11
    · have c0 : wr.cell? ⟨1, k * 2, none⟩ = some (.string (T k)) := (hbr.cell (p := ⟨1, k * 2, none⟩) h1).trans (HC.out k hlt)
      have c1 : wr.cell? ⟨1, k * 2 + 1, none⟩ = some (.int .i64 (N k)) := (hbr.cell (p := ⟨1, k * 2 + 1, none⟩) h1).trans (HN.out k hlt)
      have hcv := fun (o : Obj) => (HT.out.later (hbr.alloc (o := o) hbr.size)).conv
      have HI2 := HI.out
      by_cases he : (T k).toList.isEmpty = true
      · clear HI2
        go_wp2
        go_roundw
        case rel => exact ⟨k + 1, by omega, by go_num, hbr.alloc hbr.size _, fun i hi => by
          rcases Nat.lt_or_ge i k with h | h
          · exact HI.out i h
          · obtain rfl : i = k := by omega
            intro hh; exact absurd (he.symm.trans hh.1) (by simp)⟩
        case measure => simp [intOf]; omega
      · have he' : (T k).toList.isEmpty = false := by simpa using he
        clear he
        by_cases hq : ((T k).toList == s.toList) = true
        · clear HI2
          go_wp2
          go_ret2
          exact ⟨hbr.alloc hbr.size _, Or.inl ⟨k, hlt, ⟨he', hq⟩, HI.out, rfl⟩⟩
        · have hq' : ((T k).toList == s.toList) = false := by simpa using hq
          clear HI2 hq
          go_wp2
          go_roundw
          case rel => exact ⟨k + 1, by omega, by go_num, hbr.alloc hbr.size _, fun i hi => by
            rcases Nat.lt_or_ge i k with h | h
            · exact HI.out i h
            · obtain rfl : i = k := by omega
              intro hh; exact absurd (hq'.symm.trans hh.2) (by simp)⟩
          case measure => simp [intOf]; omega
    · have hk11 : k = 11 := by omega
      subst hk11
      have hop1 := fun (o : Obj) => opPlain52 "fmt.errorf" a es (wr.alloc o) (by
        have := (hbr.alloc (o := o) hbr.size).cell ha
        rw [this]; exact HE.out)
      obtain ⟨X, hX⟩ := (HT.out.later (hbr.alloc (o := .cells #[.iface 52 (.pointer (some a)), .iface 30 tv] 20) hbr.size)).op
      have hop2 := hX "fmt.errorf"
      clear hX
      go_wp2
      go_ret2
      exact ⟨((hbr.alloc hbr.size _).alloc (by have := hbr.size; simp; omega) _).drew, Or.inr ⟨HI.out, _, _, rfl⟩⟩

end Go.Proofs.Qxb6617040aFmt
