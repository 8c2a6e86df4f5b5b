/-
  The automaton over a whole text: where it stands at the end, if it has taken every byte. No Go in sight.
-/
import Derived.Test.Qxb6617227aPlain
namespace Go.Proofs.Qxb6617227a
set_option linter.unusedVariables false

/-- The state behind the whole text. -/
def fin : Nat → List UInt8 → Option Nat
  | st, [] => some st
  | st, c :: l => (step st c).bind fun st' => fin st' l

/-- .. behind a text that may be dead already. -/
def finO (o : Option Nat) (l : List UInt8) : Option Nat := o.bind fun st => fin st l

theorem fin_append : ∀ (st : Nat) (a b : List UInt8), fin st (a ++ b) = finO (fin st a) b
  | st, [], b => rfl
  | st, c :: a, b => by
    show (step st c).bind (fun st' => fin st' (a ++ b)) = finO ((step st c).bind fun st' => fin st' a) b
    cases step st c with
    | none => rfl
    | some st' => exact fin_append st' a b

theorem fin_snoc (st : Nat) (a : List UInt8) (c : UInt8) : fin st (a ++ [c]) = (fin st a).bind fun s => step s c := by
  rw [fin_append]
  unfold finO
  cases fin st a with
  | none => rfl
  | some s =>
    show (step s c).bind (fun st' => some st') = step s c
    cases step s c <;> rfl

/-- A text whose beginning is dead is dead. -/
theorem fin_dead (st : Nat) (l : List UInt8) (i : Nat) (h : fin st (l.take i) = none) : fin st l = none := by
  rw [← List.take_append_drop i l, fin_append, h]
  rfl

theorem fin_take (st : Nat) (l : List UInt8) (i : Nat) (h : i < l.length) : fin st (l.take (i + 1)) = (fin st (l.take i)).bind fun s => step s l[i] := by
  rw [List.take_succ_eq_append_getElem h, fin_snoc]

/-- Some text added makes it a numeral. -/
def viab (l : List UInt8) : Bool := (fin 0 l).isSome
/-- It is a numeral. -/
def whol (l : List UInt8) : Bool := match fin 0 l with | some s => decide (s ≠ 2) && decide (s ≠ 3) | none => false

theorem viab_none {l : List UInt8} (h : fin 0 l = none) : viab l = false ∧ whol l = false := by simp [viab, whol, h]
theorem viab_some {l : List UInt8} {s : Nat} (h : fin 0 l = some s) : viab l = true ∧ whol l = (decide (s ≠ 2) && decide (s ≠ 3)) := by simp [viab, whol, h]

/-- The state behind a mantissa of digits and so many points. -/
def stOf (n : Nat) : Option Nat := if n = 0 then some 0 else if n = 1 then some 1 else none

theorem stOf_digit (n : Nat) (c : UInt8) (h : dg c = true) : ((stOf n).bind fun s => step s c) = stOf n := by
  unfold stOf
  split
  · simp [step, h]
  · split
    · simp [step, h]
    · rfl
theorem dg_notP (c : UInt8) (h : isP c = true) : dg c = false ∧ isE c = false := by
  simp [isP] at h
  simp [dg, isE, h]
theorem stOf_point (n : Nat) (c : UInt8) (h : isP c = true) : ((stOf n).bind fun s => step s c) = stOf (n + 1) := by
  have h1 := dg_notP c h
  unfold stOf
  match n with
  | 0 => simp [step, h, h1]
  | 1 => simp [step, h1]
  | n + 2 => simp
theorem stOf_other (n : Nat) (c : UInt8) (h1 : isP c = false) (h2 : dg c = false) (h3 : isE c = false) : ((stOf n).bind fun s => step s c) = none := by
  unfold stOf
  split
  · simp [step, h1, h2, h3]
  · split
    · simp [step, h2, h3]
    · rfl
theorem isE_not (c : UInt8) (h : isE c = true) : dg c = false ∧ isP c = false := by
  simp [isE] at h
  rcases h with h | h <;> simp [dg, isP, h]
theorem isS_not (c : UInt8) (h : isS c = true) : dg c = false := by
  simp [isS] at h
  rcases h with h | h <;> simp [dg, h]
theorem stOf_e (n : Nat) (hn : n ≤ 1) (c : UInt8) (h : isE c = true) : ((stOf n).bind fun s => step s c) = some 2 := by
  have h1 := isE_not c h
  unfold stOf
  match n, hn with
  | 0, _ => simp [step, h, h1]
  | 1, _ => simp [step, h, h1]
theorem step2_sign (c : UInt8) (h : isS c = true) : step 2 c = some 3 := by simp [step, isS_not c h, h]
theorem exp_digit (s : Nat) (h : s = 2 ∨ s = 3 ∨ s = 4) (c : UInt8) (hd : dg c = true) : step s c = some 4 := by
  rcases h with rfl | rfl | rfl <;> simp [step, hd]
theorem exp_none (s : Nat) (h : s = 2 ∨ s = 3 ∨ s = 4) (c : UInt8) (hd : dg c = false) (hs : s = 2 → isS c = false) : step s c = none := by
  rcases h with rfl | rfl | rfl
  · simp [step, hd, hs rfl]
  · simp [step, hd]
  · simp [step, hd]

/-! ### the run and the whole -/
theorem fin_of_run : ∀ (st : Nat) (l : List UInt8), fin st (l.take (run st l).2) = some (run st l).1
  | st, [] => rfl
  | st, c :: l => by
    simp only [run]
    cases hs : step st c with
    | none => rfl
    | some st' =>
      simp only [List.take_succ_cons, fin, hs]
      exact fin_of_run st' l
/-- One byte more than the run takes: dead. -/
theorem fin_past_run : ∀ (st : Nat) (l : List UInt8), (run st l).2 < l.length → fin st (l.take ((run st l).2 + 1)) = none
  | st, [], h => by simp [run] at h
  | st, c :: l, h => by
    simp only [run] at h ⊢
    cases hs : step st c with
    | none => simp [fin, hs]
    | some st' =>
      rw [hs] at h
      simp only [List.length_cons] at h
      simp only [List.take_succ_cons, fin, hs]
      exact fin_past_run st' l (by omega)

/-- A point or an exponent is in it: the state is no longer 0. -/
def poe (l : List UInt8) : Bool := l.any fun c => isP c || isE c
theorem step_zero (s : Nat) (c : UInt8) (h : step s c = some 0) : s = 0 ∧ dg c = true := by
  unfold step at h
  split at h
  · rename_i h0
    refine ⟨h0, ?_⟩
    cases hd : dg c with
    | true => rfl
    | false => rw [hd] at h; simp at h; split at h <;> (first | cases h | (split at h <;> cases h))
  · split at h
    · split at h
      · cases h
      · split at h <;> cases h
    · split at h
      · split at h
        · cases h
        · split at h <;> cases h
      · split at h <;> cases h
theorem dg_plain (c : UInt8) (h : dg c = true) : isP c = false ∧ isE c = false := by
  simp [dg] at h
  simp [isP, isE]
  omega
theorem fin_zero : ∀ (st : Nat) (l : List UInt8), fin st l = some 0 → st = 0 ∧ poe l = false
  | st, [], h => by simp [fin] at h; exact ⟨h, rfl⟩
  | st, c :: l, h => by
    simp only [fin] at h
    cases hs : step st c with
    | none => rw [hs] at h; cases h
    | some st' =>
      rw [hs] at h
      obtain ⟨rfl, h2⟩ := fin_zero st' l h
      obtain ⟨rfl, h3⟩ := step_zero st c hs
      have := dg_plain c h3
      refine ⟨rfl, ?_⟩
      simp only [poe, List.any_cons] at h2 ⊢
      rw [h2]
      simp [this]
theorem fin_plain : ∀ (l : List UInt8) (s : Nat), fin 0 l = some s → poe l = false → s = 0
  | [], s, h, _ => by simp [fin] at h; exact h.symm
  | c :: l, s, h, hp => by
    simp only [poe, List.any_cons, Bool.or_eq_false_iff] at hp
    simp only [fin] at h
    cases hd : dg c with
    | true =>
      rw [step0_dg c hd] at h
      exact fin_plain l s h (by simpa [poe] using hp.2)
    | false =>
      have : step 0 c = none := by simp [step, hd, hp.1.1, hp.1.2]
      rw [this] at h
      cases h
theorem poe_state (l : List UInt8) (s : Nat) (h : fin 0 l = some s) : poe l = decide (s ≠ 0) := by
  cases hp : poe l with
  | false => rw [fin_plain l s h hp]; rfl
  | true =>
    by_cases h0 : s = 0
    · subst h0
      have := (fin_zero 0 l h).2
      rw [hp] at this
      cases this
    · simp [h0]

end Go.Proofs.Qxb6617227a
