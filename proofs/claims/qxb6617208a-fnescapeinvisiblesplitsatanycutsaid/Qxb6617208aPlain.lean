/-
  The plain functions of this seat: what escapeInvisible gives, as lists of bytes; and the plain laws on them. No Go in sight.
-/
import Derived.WalkKit
namespace Go.Proofs.Qxb6617208a
set_option linter.unusedVariables false

/-- Visible ASCII. -/
def vis (c : UInt8) : Bool := decide (33 ≤ c.toNat) && decide (c.toNat ≤ 126)
/-- The upper-case hexadecimal digit of n. -/
def hexd (n : Nat) : UInt8 := if n < 10 then UInt8.ofNat (48 + n) else UInt8.ofNat (55 + n)
/-- One byte, escaped. -/
def esc (c : UInt8) : List UInt8 := if vis c then [c] else [37, hexd (c.toNat / 16), hexd (c.toNat % 16)]
/-- A list of bytes, escaped. -/
def escL (l : List UInt8) : List UInt8 := l.flatMap esc
/-- A string, escaped. -/
def escB (s : ByteArray) : ByteArray := ⟨(escL s.data.toList).toArray⟩
/-- Every byte is visible. -/
def allVis (s : ByteArray) : Bool := s.data.toList.all vis
/-- How many bytes are not visible. -/
def inv (l : List UInt8) : Nat := (l.filter fun c => !vis c).length

theorem escB_list (s : ByteArray) : (escB s).data.toList = escL s.data.toList := by simp [escB]
theorem escB_size (s : ByteArray) : (escB s).size = (escL s.data.toList).length := by
  show (escB s).data.size = _
  simp [escB]

theorem escL_append (a b : List UInt8) : escL (a ++ b) = escL a ++ escL b := by simp [escL]
theorem escL_nil : escL [] = [] := rfl
theorem escL_cons (c : UInt8) (l : List UInt8) : escL (c :: l) = esc c ++ escL l := by simp [escL]
theorem escL_snoc (l : List UInt8) (c : UInt8) : escL (l ++ [c]) = escL l ++ esc c := by simp [escL]

theorem esc_vis (c : UInt8) (h : vis c = true) : esc c = [c] := by simp [esc, h]
theorem esc_inv (c : UInt8) (h : vis c = false) : esc c = [37, hexd (c.toNat / 16), hexd (c.toNat % 16)] := by simp [esc, h]

theorem escL_vis : ∀ (l : List UInt8), l.all vis = true → escL l = l
  | [], _ => rfl
  | c :: l, h => by
    simp only [List.all_cons, Bool.and_eq_true] at h
    rw [escL_cons, esc_vis c h.1, escL_vis l h.2]
    rfl

theorem esc_len (c : UInt8) : (esc c).length = 1 + 2 * (if vis c then 0 else 1) := by
  unfold esc; split <;> simp_all

theorem escL_len : ∀ (l : List UInt8), (escL l).length = l.length + 2 * inv l
  | [] => rfl
  | c :: l => by
    rw [escL_cons, List.length_append, escL_len l, esc_len]
    cases h : vis c <;> simp [inv, h] <;> omega

theorem inv_le (l : List UInt8) : inv l ≤ l.length := List.length_filter_le _ _

theorem hexd_all : ∀ n, n < 16 → vis (hexd n) = true := by decide +kernel
theorem esc_all (c : UInt8) : (esc c).all vis = true := by
  cases h : vis c with
  | true => rw [esc_vis c h]; simp [h]
  | false =>
    rw [esc_inv c h]
    have h1 := hexd_all (c.toNat / 16) (by have := c.toNat_lt; omega)
    have h2 := hexd_all (c.toNat % 16) (by omega)
    simp [h1, h2]
    decide

theorem escL_all : ∀ (l : List UInt8), (escL l).all vis = true
  | [] => rfl
  | c :: l => by rw [escL_cons, List.all_append, esc_all, escL_all l]; rfl

theorem inv_zero : ∀ (l : List UInt8), inv l = 0 ↔ l.all vis = true
  | [] => by simp [inv]
  | c :: l => by
    have := inv_zero l
    cases h : vis c <;> simp_all [inv]

theorem escB_idem (s : ByteArray) : escB (escB s) = escB s := by
  apply ByteArray.ext
  apply Array.toList_inj.1
  rw [escB_list, escB_list]
  exact escL_vis _ (escL_all _)

theorem escB_fixed (s : ByteArray) : escB s = s ↔ s.data.toList.all vis = true := by
  constructor
  · intro h
    have h1 := escB_size s
    rw [h, escL_len] at h1
    have : s.data.toList.length = s.size := by simp
    exact (inv_zero _).1 (by omega)
  · intro h
    apply ByteArray.ext
    apply Array.toList_inj.1
    rw [escB_list]
    exact escL_vis _ h

theorem inv_snoc (l : List UInt8) (c : UInt8) : inv (l ++ [c]) = inv l + (if vis c then 0 else 1) := by
  cases h : vis c <;> simp [inv, h]

theorem take_snoc (s : ByteArray) (k : Nat) (h : k < s.size) : s.data.toList.take (k + 1) = s.data.toList.take k ++ [s[k]] := by
  rw [List.take_succ_eq_append_getElem (by simpa using h)]; rfl

theorem escL_take_le (l : List UInt8) (k : Nat) : (escL (l.take k)).length ≤ 3 * k := by
  have h1 := escL_len (l.take k)
  have h2 := inv_le (l.take k)
  have h3 : (l.take k).length ≤ k := List.length_take_le _ _
  omega

end Go.Proofs.Qxb6617208a
