/-
  The plain functions of this seat: a numeral's automaton, and the plain laws on it. No Go in sight.
  States: 0 digits · 1 digits behind a point · 2 behind the e · 3 behind the exponent's sign · 4 the exponent's digits.
-/
import Derived.WalkKit
namespace Go.Proofs.Qxb6617227a
set_option linter.unusedVariables false

/-- A decimal digit. -/
def dg (c : UInt8) : Bool := decide (48 ≤ c.toNat) && decide (c.toNat ≤ 57)
/-- e or E. -/
def isE (c : UInt8) : Bool := decide (c.toNat = 101) || decide (c.toNat = 69)
/-- A sign. -/
def isS (c : UInt8) : Bool := decide (c.toNat = 43) || decide (c.toNat = 45)
/-- A point. -/
def isP (c : UInt8) : Bool := decide (c.toNat = 46)

/-- One step of the automaton. -/
def step (st : Nat) (c : UInt8) : Option Nat :=
  if st = 0 then (if dg c then some 0 else if isP c then some 1 else if isE c then some 2 else none)
  else if st = 1 then (if dg c then some 1 else if isE c then some 2 else none)
  else if st = 2 then (if dg c then some 4 else if isS c then some 3 else none)
  else (if dg c then some 4 else none)

/-- The automaton run as far as it goes: the last state, and how many bytes it took. -/
def run : Nat → List UInt8 → Nat × Nat
  | st, [] => (st, 0)
  | st, c :: l => match step st c with
    | none => (st, 0)
    | some st' => ((run st' l).1, (run st' l).2 + 1)

/-- .. from place q of l on: the last state, and the place where it stands. -/
def E (l : List UInt8) (st q : Nat) : Nat × Nat := ((run st (l.drop q)).1, q + (run st (l.drop q)).2)

theorem E_step {l : List UInt8} {st st' q : Nat} (hq : q < l.length) (h : step st l[q] = some st') : E l st q = E l st' (q + 1) := by
  unfold E
  rw [List.drop_eq_getElem_cons hq]
  simp only [run, h]
  congr 1
  omega

theorem E_stop {l : List UInt8} {st q : Nat} (hq : q < l.length) (h : step st l[q] = none) : E l st q = (st, q) := by
  unfold E
  rw [List.drop_eq_getElem_cons hq]
  simp only [run, h]
  rfl

theorem E_end {l : List UInt8} {st q : Nat} (hq : l.length ≤ q) : E l st q = (st, q) := by
  unfold E
  rw [List.drop_eq_nil_of_le hq]
  rfl

/-- Where the digits from q on end. -/
def dgEnd (l : List UInt8) (q : Nat) : Nat := q + ((l.drop q).takeWhile dg).length

theorem dgEnd_ge (l : List UInt8) (q : Nat) : q ≤ dgEnd l q := by unfold dgEnd; omega
theorem dgEnd_step {l : List UInt8} {q : Nat} (hq : q < l.length) (h : dg l[q] = true) : dgEnd l q = dgEnd l (q + 1) := by
  unfold dgEnd
  rw [List.drop_eq_getElem_cons hq, List.takeWhile_cons_of_pos h]
  simp only [List.length_cons]
  omega
theorem dgEnd_stop {l : List UInt8} {q : Nat} (hq : q < l.length) (h : dg l[q] = false) : dgEnd l q = q := by
  unfold dgEnd
  rw [List.drop_eq_getElem_cons hq, List.takeWhile_cons_of_neg (by simp [h])]
  rfl
theorem dgEnd_end {l : List UInt8} {q : Nat} (hq : l.length ≤ q) : dgEnd l q = q := by
  unfold dgEnd
  rw [List.drop_eq_nil_of_le hq]
  rfl
theorem dgEnd_le (l : List UInt8) (q : Nat) (h : q ≤ l.length) : dgEnd l q ≤ l.length := by
  unfold dgEnd
  have := (List.takeWhile_sublist (p := dg) (l := l.drop q)).length_le
  rw [List.length_drop] at this
  omega
/-- At the end of the digits there is none. -/
theorem dgEnd_none (l : List UInt8) : ∀ (n q : Nat), l.length - q ≤ n → (h : dgEnd l q < l.length) → dg l[dgEnd l q] = false
  | 0, q, hn, h => by
    have := dgEnd_ge l q
    omega
  | n + 1, q, hn, h => by
    have hq : q < l.length := by have := dgEnd_ge l q; omega
    cases hd : dg l[q] with
    | true =>
      have e := dgEnd_step hq hd
      have := dgEnd_none l n (q + 1) (by omega) (by omega)
      simpa [e] using this
    | false =>
      have e := dgEnd_stop hq hd
      simpa [e] using hd
theorem dgEnd_not (l : List UInt8) (q : Nat) (h : dgEnd l q < l.length) : dg l[dgEnd l q] = false := dgEnd_none l (l.length - q) q (Nat.le_refl _) h
theorem dgEnd_idem (l : List UInt8) (q : Nat) (hq : q ≤ l.length) : dgEnd l (dgEnd l q) = dgEnd l q := by
  by_cases h : dgEnd l q < l.length
  · exact dgEnd_stop h (dgEnd_not l q h)
  · exact dgEnd_end (by omega)

/-- Digits in a state that takes them and stays. -/
theorem E_digits (l : List UInt8) (st : Nat) (hst : ∀ c, dg c = true → step st c = some st) : ∀ (n q : Nat), l.length - q ≤ n → E l st q = E l st (dgEnd l q)
  | 0, q, hn => by rw [dgEnd_end (by omega)]
  | n + 1, q, hn => by
    by_cases hq : q < l.length
    · cases hd : dg l[q] with
      | true => rw [dgEnd_step hq hd, E_step hq (hst _ hd)]; exact E_digits l st hst n (q + 1) (by omega)
      | false => rw [dgEnd_stop hq hd]
    · rw [dgEnd_end (by omega)]
theorem step0_dg (c : UInt8) (h : dg c = true) : step 0 c = some 0 := by simp [step, h]
theorem step1_dg (c : UInt8) (h : dg c = true) : step 1 c = some 1 := by simp [step, h]
theorem step2_dg (c : UInt8) (h : dg c = true) : step 2 c = some 4 := by simp [step, h]
theorem step3_dg (c : UInt8) (h : dg c = true) : step 3 c = some 4 := by simp [step, h]
theorem step4_dg (c : UInt8) (h : dg c = true) : step 4 c = some 4 := by simp [step, h]
theorem E_digits0 (l : List UInt8) (q : Nat) : E l 0 q = E l 0 (dgEnd l q) := E_digits l 0 step0_dg _ q (Nat.le_refl _)
theorem E_digits1 (l : List UInt8) (q : Nat) : E l 1 q = E l 1 (dgEnd l q) := E_digits l 1 step1_dg _ q (Nat.le_refl _)
theorem E_digits4 (l : List UInt8) (q : Nat) : E l 4 q = E l 4 (dgEnd l q) := E_digits l 4 step4_dg _ q (Nat.le_refl _)

/-- The exponent's digits: some. -/
theorem E_exp_some (l : List UInt8) (st q : Nat) (hst : ∀ c, dg c = true → step st c = some 4) (hq : q ≤ l.length) (h : q < dgEnd l q) : E l st q = (4, dgEnd l q) := by
  have hlt : q < l.length := by have := dgEnd_le l q hq; omega
  have hd : dg l[q] = true := by
    cases hd : dg l[q] with
    | true => rfl
    | false => have := dgEnd_stop hlt hd; omega
  rw [E_step hlt (hst _ hd), E_digits4, dgEnd_step hlt hd]
  by_cases h2 : dgEnd l (q + 1) < l.length
  · exact E_stop h2 (by simp [step, dgEnd_not l (q + 1) h2])
  · exact E_end (by omega)
/-- The exponent's digits: none. -/
theorem E_exp_none (l : List UInt8) (st q : Nat) (hq : q ≤ l.length) (h : dgEnd l q = q) (hst : (hlt : q < l.length) → dg l[q] = false → step st l[q] = none) : E l st q = (st, q) := by
  by_cases hlt : q < l.length
  · have hd := dgEnd_not l q (by omega)
    have hd' : dg l[q] = false := by simpa [h] using hd
    exact E_stop hlt (hst hlt hd')
  · exact E_end (by omega)

theorem run_le : ∀ (st : Nat) (l : List UInt8), (run st l).2 ≤ l.length
  | st, [] => Nat.le_refl _
  | st, c :: l => by
    simp only [run]
    cases step st c with
    | none => simp
    | some st' => have := run_le st' l; simp; omega
theorem E_ge (l : List UInt8) (st q : Nat) : q ≤ (E l st q).2 := by unfold E; simp
theorem E_le (l : List UInt8) (st q : Nat) (hq : q ≤ l.length) : (E l st q).2 ≤ l.length := by
  unfold E
  have := run_le st (l.drop q)
  rw [List.length_drop] at this
  simp
  omega

/-! ### The run on a text that is cut -/
theorem run_take_all : ∀ (st : Nat) (l : List UInt8) (n : Nat), (run st l).2 ≤ n → run st (l.take n) = run st l
  | st, [], n, _ => by simp
  | st, c :: l, 0, h => by
    have h' := h
    simp only [run] at h'
    cases hs : step st c with
    | none => simp [run, hs]
    | some st' => rw [hs] at h'; simp at h'
  | st, c :: l, n + 1, h => by
    rw [List.take_succ_cons]
    simp only [run] at h ⊢
    cases hs : step st c with
    | none => rfl
    | some st' =>
      rw [hs] at h
      simp only at h ⊢
      rw [run_take_all st' l n (by omega)]
theorem run_take_cut : ∀ (st : Nat) (l : List UInt8) (n : Nat), n ≤ (run st l).2 → (run st (l.take n)).2 = n
  | st, [], n, h => by simp [run] at h; subst h; rfl
  | st, c :: l, 0, h => by simp [run]
  | st, c :: l, n + 1, h => by
    rw [List.take_succ_cons]
    simp only [run] at h ⊢
    cases hs : step st c with
    | none => rw [hs] at h; simp at h
    | some st' =>
      rw [hs] at h
      simp only at h ⊢
      rw [run_take_cut st' l n (by omega)]

/-- The token's kind by the last state. -/
def kindOf (st : Nat) : Int := if st = 0 then 2 else if st = 2 ∨ st = 3 then 7 else 3
/-- The words for a broken literal. -/
def badMsg : ByteArray := ⟨#[101, 120, 112, 111, 110, 101, 110, 116, 32, 119, 105, 116, 104, 111, 117, 116, 32, 100, 105, 103, 105, 116, 115]⟩

end Go.Proofs.Qxb6617227a
