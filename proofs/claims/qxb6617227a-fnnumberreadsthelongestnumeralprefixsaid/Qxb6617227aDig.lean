/-
  The walks of isDigit, (*lexer).digits, (*lexer).token.
-/
import Derived.Test.Qxb6617227aProg
import Derived.Test.Qxb6617227aPlain
import Derived.WalkKit
import Derived.WalkSpells
import Derived.WalkLawsBesides
import Derived.Deep.QuietTactic
import Derived.BigQuiet
import Derived.Deep.LoopGhost
namespace Go.Proofs.Qxb6617227a
open Go.RowKit
set_option linter.unusedVariables false

/-- The lexer at block bl: over src, at place r. -/
structure Lx (bl : Nat) (src : ByteArray) (r : Nat) (w : World) : Prop where
  c0 : w.cell? ⟨bl, 0, none⟩ = some (.string src)
  c1 : w.cell? ⟨bl, 1, none⟩ = some (.int .i64 (r : Int))
  fz : w.frozen? ⟨bl, 1, none⟩ = false

/-- Of memory block bl alone may have turned. -/
structure Only (bl : Nat) (w w' : World) : Prop where
  os : w'.os = w.os
  tape : w'.tape = w.tape
  output : w'.output = w.output
  size : w'.heap.size = w.heap.size
  block : ∀ k, k ≠ bl → w'.heap[k]? = w.heap[k]?

theorem Only.refl (bl : Nat) (w : World) : Only bl w w := ⟨rfl, rfl, rfl, rfl, fun _ _ => rfl⟩
theorem Only.trans {bl : Nat} {a b c : World} (h : Only bl a b) (k : Only bl b c) : Only bl a c :=
  ⟨k.os.trans h.os, k.tape.trans h.tape, k.output.trans h.output, k.size.trans h.size, fun i hi => (k.block i hi).trans (h.block i hi)⟩
theorem Only.drewN {bl : Nat} {a w : World} (h : Only bl a w) (n : Nat) : Only bl a (w.drewN n) := ⟨h.os, h.tape, h.output, h.size, h.block⟩
theorem Only.setCell {bl : Nat} {a w : World} (h : Only bl a w) (o : Nat) (v : Value) : Only bl a (w.setCell ⟨bl, o, none⟩ v) :=
  h.trans ⟨rfl, rfl, rfl, by simp [World.setCell], fun k hk => Below.heap_setCell _ _ _ _ hk⟩
theorem Only.cell {bl : Nat} {w w' : World} (h : Only bl w w') {p : Addr} (hp : p.block ≠ bl) : w'.cell? p = w.cell? p := World.cell?_of_block (h.block p.block hp)
theorem Only.frozen {bl : Nat} {w w' : World} (h : Only bl w w') {p : Addr} (hp : p.block ≠ bl) : w'.frozen? p = w.frozen? p := World.frozen?_of_block (h.block p.block hp)

theorem Lx.drewN {bl : Nat} {src : ByteArray} {r : Nat} {w : World} (h : Lx bl src r w) (n : Nat) : Lx bl src r (w.drewN n) := ⟨h.c0, h.c1, h.fz⟩
theorem Lx.put {bl : Nat} {src : ByteArray} {r : Nat} {w : World} (h : Lx bl src r w) (q : Nat) : Lx bl src q (w.setCell ⟨bl, 1, none⟩ (.int .i64 (q : Int))) where
  c0 := (World.cell?_setCell_other _ _ _ _ (by simp)).trans h.c0
  c1 := World.cell?_setCell_same _ _ _ h.c1
  fz := by simpa using h.fz

set_option maxHeartbeats 400000 in
theorem isd_yes (c : UInt8) (w : World) (h : dg c = true) :
    Calls Try.prog 35 #[.int .u8 (c.toNat : Int)] w fun e w' => e = .returned (.bool true) ∧ w' = w := by
  simp only [dg, Bool.and_eq_true, decide_eq_true_eq] at h
  have h1 : (48 : Int) ≤ (c.toNat : Int) := by omega
  have h2 : (c.toNat : Int) ≤ 57 := by omega
  clear h
  go_enter Try.func35, Try.ntmps35
  go_wp2
  go_ret
  exact ⟨rfl, rfl⟩

theorem ret_bool {a b : Bool} (h : a = b) : Ending.returned (.bool a) = .returned (.bool b) := by rw [h]
theorem ret_int {k : IntKind} {a b : Int} (h : a = b) : Ending.returned (.int k a) = .returned (.int k b) := by rw [h]

set_option maxHeartbeats 400000 in
theorem isd_no (c : UInt8) (w : World) (h : dg c = false) :
    Calls Try.prog 35 #[.int .u8 (c.toNat : Int)] w fun e w' => e = .returned (.bool false) ∧ w' = w := by
  have h' : (c.toNat : Int) < 48 ∨ (48 ≤ (c.toNat : Int) ∧ 57 < (c.toNat : Int)) := by
    simp only [dg, Bool.and_eq_false_iff, decide_eq_false_iff_not] at h
    omega
  clear h
  rcases h' with h1 | ⟨h1, h2⟩
  all_goals
    go_enter Try.func35, Try.ntmps35
    go_wp2
    go_ret
    exact ⟨by first | rfl | (exact ret_bool (by simp; omega)), rfl⟩

set_option maxHeartbeats 800000 in
theorem digits_any (bl : Nat) (src : ByteArray) (p : Nat) (w : World) (hs : src.size ≤ 1073741824) (hp : p ≤ src.size) (hl : Lx bl src p w) :
    Calls Try.prog 31 #[.pointer (some ⟨bl, 0, none⟩)] w fun e w' => e = .returned (.bool (decide (p < dgEnd src.data.toList p))) ∧ Lx bl src (dgEnd src.data.toList p) w' ∧ Only bl w w' := by
  have c0 := hl.c0
  have c1 := hl.c1
  have HL : Hid (Lx bl src p w) := hl
  clear hl
  go_enter Try.func31, Try.ntmps31
  go_wp2
  clear c0 c1
  go_loopg [] (src.size - p) (fun k wr => ∃ r : Nat, p ≤ r ∧ r ≤ src.size ∧ k = src.size - r ∧ Hid (Lx bl src r wr) ∧ Hid (Only bl w wr) ∧ Hid (dgEnd src.data.toList p = dgEnd src.data.toList r))
  case atStart => exact ⟨p, Nat.le_refl _, hp, rfl, HL, Only.refl _ _, rfl⟩
  case round =>
    obtain ⟨r, hr1, hr2, hk, HR, HW, HD⟩ := hrel
    have HK : Hid (gk = src.size - r) := hk
    clear hk
    have c0 := HR.out.c0
    have c1 := HR.out.c1
    have fz := HR.out.fz
    by_cases hlt : r < src.size
    · have hlt' : (r : Int) < (src.size : Int) := by omega
      by_cases hd : dg src[r] = true
      · have HV : Hid (dg src[r] = true) := hd
        clear hd
        go_wp2
        go_quiet ((go_at_call 35; exact Calls.quiet_of_same (isd_yes src[r] _ HV.out)))
        go_wp2
        have hput := (HR.out.put (r + 1)).drewN nq
        have hone := (HW.out.setCell 1 (.int .i64 ((r + 1 : Nat) : Int))).drewN nq
        rw [show ((r + 1 : Nat) : Int) = (r : Int) + 1 from by omega] at hput hone
        go_roundg (src.size - (r + 1))
        case measure => have := HK.out; omega
        case rel => exact ⟨r + 1, by omega, by omega, rfl, hput, hone, HD.out.trans (dgEnd_step (by simpa using hlt) HV.out)⟩
      · have hd' : dg src[r] = false := by simpa using hd
        have HV : Hid (dg src[r] = false) := hd'
        clear hd hd'
        go_wp2
        go_quiet ((go_at_call 35; exact Calls.quiet_of_same (isd_no src[r] _ HV.out)))
        go_wp2
        go_ret
        have hD := HD.out.trans (dgEnd_stop (by simpa using hlt) HV.out)
        rw [hD]
        exact ⟨ret_bool (by simp), HR.out.drewN nq, HW.out.drewN nq⟩
    · have hge : decide ((r : Int) < (src.size : Int)) = false := by simp; omega
      go_wp2
      go_quiet (fail)
      go_wp2
      go_ret
      have hD := HD.out.trans (dgEnd_end (by simp; omega))
      rw [hD]
      exact ⟨ret_bool (by simp), HR.out.drewN nq, HW.out.drewN nq⟩

theorem four0 (w : World) (bt : Nat) (a b c d : Value) {t : Value} (h : w.cell? ⟨bt, 0, none⟩ = some t) :
    ((((w.setCell ⟨bt, 0, none⟩ a).setCell ⟨bt, 1, none⟩ b).setCell ⟨bt, 2, none⟩ c).setCell ⟨bt, 3, none⟩ d).cell? ⟨bt, 0, none⟩ = some a := by
  rw [World.cell?_setCell_other _ _ _ _ (by simp), World.cell?_setCell_other _ _ _ _ (by simp), World.cell?_setCell_other _ _ _ _ (by simp)]
  exact World.cell?_setCell_same _ _ _ h
theorem four1 (w : World) (bt : Nat) (a b c d : Value) {t : Value} (h : w.cell? ⟨bt, 1, none⟩ = some t) :
    ((((w.setCell ⟨bt, 0, none⟩ a).setCell ⟨bt, 1, none⟩ b).setCell ⟨bt, 2, none⟩ c).setCell ⟨bt, 3, none⟩ d).cell? ⟨bt, 1, none⟩ = some b := by
  rw [World.cell?_setCell_other _ _ _ _ (by simp), World.cell?_setCell_other _ _ _ _ (by simp)]
  exact World.cell?_setCell_same _ _ _ ((World.cell?_setCell_other _ _ _ _ (by simp)).trans h)
theorem four2 (w : World) (bt : Nat) (a b c d : Value) {t : Value} (h : w.cell? ⟨bt, 2, none⟩ = some t) :
    ((((w.setCell ⟨bt, 0, none⟩ a).setCell ⟨bt, 1, none⟩ b).setCell ⟨bt, 2, none⟩ c).setCell ⟨bt, 3, none⟩ d).cell? ⟨bt, 2, none⟩ = some c := by
  rw [World.cell?_setCell_other _ _ _ _ (by simp)]
  exact World.cell?_setCell_same _ _ _ ((World.cell?_setCell_other _ _ _ _ (by simp)).trans ((World.cell?_setCell_other _ _ _ _ (by simp)).trans h))
theorem four3 (w : World) (bt : Nat) (a b c d : Value) {t : Value} (h : w.cell? ⟨bt, 3, none⟩ = some t) :
    ((((w.setCell ⟨bt, 0, none⟩ a).setCell ⟨bt, 1, none⟩ b).setCell ⟨bt, 2, none⟩ c).setCell ⟨bt, 3, none⟩ d).cell? ⟨bt, 3, none⟩ = some d :=
  World.cell?_setCell_same _ _ _ ((World.cell?_setCell_other _ _ _ _ (by simp)).trans ((World.cell?_setCell_other _ _ _ _ (by simp)).trans ((World.cell?_setCell_other _ _ _ _ (by simp)).trans h)))

set_option maxHeartbeats 400000 in
theorem token_any (bl bt : Nat) (src : ByteArray) (q : Nat) (kd : Int) (tx : ByteArray) (st : Int) (t0 t1 t2 t3 : Value) (w : World) (hne : bl ≠ bt) (hl : Lx bl src q w)
    (d0 : w.cell? ⟨bt, 0, none⟩ = some t0) (d1 : w.cell? ⟨bt, 1, none⟩ = some t1) (d2 : w.cell? ⟨bt, 2, none⟩ = some t2) (d3 : w.cell? ⟨bt, 3, none⟩ = some t3)
    (f0 : w.frozen? ⟨bt, 0, none⟩ = false) (f1 : w.frozen? ⟨bt, 1, none⟩ = false) (f2 : w.frozen? ⟨bt, 2, none⟩ = false) (f3 : w.frozen? ⟨bt, 3, none⟩ = false) :
    Calls Try.prog 32 #[.pointer (some ⟨bl, 0, none⟩), .pointer (some ⟨bt, 0, none⟩), .int .u8 kd, .string tx, .int .i64 st] w fun e w' => e = .returned (.tuple #[]) ∧ Only bt w w' ∧
      w'.cell? ⟨bt, 0, none⟩ = some (.int .u8 kd) ∧ w'.cell? ⟨bt, 1, none⟩ = some (.string tx) ∧ w'.cell? ⟨bt, 2, none⟩ = some (.int .i64 st) ∧ w'.cell? ⟨bt, 3, none⟩ = some (.int .i64 (q : Int)) := by
  have c0 := hl.c0
  have c1 := hl.c1
  clear hl
  go_enter Try.func32, Try.ntmps32
  go_wp2
  go_end0
  refine ⟨rfl, ((((Only.refl bt w).setCell 0 _).setCell 1 _).setCell 2 _).setCell 3 _, four0 w bt _ _ _ _ d0, four1 w bt _ _ _ _ d1, four2 w bt _ _ _ _ d2, four3 w bt _ _ _ _ d3⟩

end Go.Proofs.Qxb6617227a
