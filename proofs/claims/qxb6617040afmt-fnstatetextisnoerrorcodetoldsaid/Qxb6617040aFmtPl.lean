/-
  The plain laws on the two tables: no Go in sight.
-/
import Derived.Test.Qxb6617040aFmtWb
import Derived.Test.Qxb6617040aFmtWc
namespace Go.Proofs.Qxb6617040aFmt
open Go.RowKit
set_option linter.unusedVariables false

def wordL (l : List UInt8) : Bool := decide (l.length ≤ 1000) && decide (0 < l.length) && !(l.head? == some 95) && !(l.getLast? == some 95) && l.all (fun b => (decide (97 ≤ b.toNat) && decide (b.toNat ≤ 122)) || decide (b.toNat = 95))

theorem word_of_list (s : ByteArray) (h : wordL s.data.toList = true) : wireWord s := by
  simp only [wordL, Bool.and_eq_true, decide_eq_true_eq, Bool.not_eq_true', List.all_eq_true, Bool.or_eq_true] at h
  obtain ⟨⟨⟨⟨h1, h2⟩, h3⟩, h4⟩, h5⟩ := h
  have hl : s.data.toList.length = s.size := by simp
  rw [hl] at h1 h2
  have hat : ∀ i (hi : i < s.size), s.data.toList[i]? = some s[i] := fun i hi => by
    rw [List.getElem?_eq_getElem (by omega)]; rfl
  have hne : ∀ b : UInt8, ((some b == some 95) = false) → b.toNat ≠ 95 := by
    intro b hb hc
    have : b = 95 := UInt8.toNat_inj.1 hc
    subst this
    exact absurd hb (by decide)
  refine ⟨h2, h1, ?_, ?_, fun i hi => ?_⟩
  · apply hne
    rw [List.head?_eq_getElem?, hat 0 h2] at h3
    exact h3
  · apply hne
    rw [List.getLast?_eq_getElem?, hl, hat (s.size - 1) (by omega)] at h4
    exact h4
  · have := h5 s[i] (List.mem_of_getElem? (hat i hi))
    simpa using this

theorem tx_words : ∀ c, c < 11 → 1 ≤ c → wordL (tx c).data.toList = true := by decide +kernel
theorem sx_words : ∀ c, c < 6 → 1 ≤ c → wordL (sx c).data.toList = true := by decide +kernel
theorem tx_apart : ∀ i, i < 11 → ∀ j, j < 11 → ((tx i).data.toList == (tx j).data.toList) = true → i = j := by decide +kernel
theorem tx_some : ∀ c, c < 11 → 1 ≤ c → (tx c).data.toList.isEmpty = false := by decide +kernel
theorem sx_some : ∀ c, c < 6 → 1 ≤ c → (sx c).data.toList.isEmpty = false := by decide +kernel
theorem sx_tx : ∀ i, i < 6 → 1 ≤ i → ∀ j, j < 11 → ((tx j).data.toList == (sx i).data.toList) = false := by decide +kernel

theorem tx_word (c : Nat) (h1 : 1 ≤ c) (h2 : c ≤ 10) : wireWord (tx c) := word_of_list _ (tx_words c (by omega) h1)
theorem sx_word (c : Nat) (h1 : 1 ≤ c) (h2 : c ≤ 5) : wireWord (sx c) := word_of_list _ (sx_words c (by omega) h1)
theorem tx_ne (c : Nat) (h1 : 1 ≤ c) (h2 : c ≤ 10) : (tx c).toList.isEmpty = false := by rw [ByteArray.toList_eq]; exact tx_some c (by omega) h1
theorem sx_ne (c : Nat) (h1 : 1 ≤ c) (h2 : c ≤ 5) : (sx c).toList.isEmpty = false := by rw [ByteArray.toList_eq]; exact sx_some c (by omega) h1
theorem tx_hit (c : Nat) (h1 : 1 ≤ c) (h2 : c ≤ 10) : hit tx (tx c) c := ⟨tx_ne c h1 h2, by simp⟩
theorem tx_first (c : Nat) (h1 : 1 ≤ c) (h2 : c ≤ 10) : ∀ i, i < c → ¬ hit tx (tx c) i := by
  intro i hi hh
  have := hh.2
  rw [ByteArray.toList_eq, ByteArray.toList_eq] at this
  have := tx_apart i (by omega) c (by omega) this
  omega
theorem sx_none (c : Nat) (h1 : 1 ≤ c) (h2 : c ≤ 5) : ∀ i, i < 11 → ¬ hit tx (sx c) i := by
  intro i hi hh
  have := hh.2
  rw [ByteArray.toList_eq, ByteArray.toList_eq, sx_tx c (by omega) h1 i hi] at this
  cases this
/-- A hit is at 1 or later, and its text is the string. -/
theorem hit_eq {s : ByteArray} {j : Nat} (hj : j < 11) (hh : hit tx s j) : 1 ≤ j ∧ tx j = s := by
  obtain ⟨h1, h2⟩ := hh
  constructor
  · rcases Nat.eq_zero_or_pos j with h | h
    · subst h; rw [ByteArray.toList_eq] at h1; exact absurd h1 (by decide)
    · exact h
  · rw [ByteArray.toList_eq, ByteArray.toList_eq] at h2
    have := eq_of_beq h2
    exact ByteArray.ext (Array.toList_inj.1 this)

end Go.Proofs.Qxb6617040aFmt
