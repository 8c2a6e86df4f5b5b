/-
  The walk of UnmarshalText.
-/
import Derived.Test.Qxb6617040aFmtWc
import Derived.Deep.RegionWith
namespace Go.Proofs.Qxb6617040aFmt
open Go.RowKit Go.Extern.Stop Go.Stop Go.Extern
set_option linter.unusedVariables false

/-- What the walk of unmarshalText asks of a world. -/
structure Laid (T : Nat → ByteArray) (N : Nat → Int) (tv : Value) (s es : ByteArray) (a : Addr) (B : Nat) (w : World) : Prop where
  size : B ≤ w.heap.size
  two : 2 < B
  text : Txt B w tv s
  ptr : a.block < B
  msg : w.cell? a = some (.string es)
  var : w.cell? ⟨2, 0, none⟩ = some (.iface 52 (.pointer (some a)))
  texts : ∀ k, k < 11 → w.cell? ⟨1, k * 2, none⟩ = some (.string (T k))
  nums : ∀ k, k < 11 → w.cell? ⟨1, k * 2 + 1, none⟩ = some (.int .i64 (N k))

theorem Txt.more {B C : Nat} {w : World} {v : Value} {s : ByteArray} (h : Txt B w v s) (hb : B ≤ C) : Txt C w v s := by
  rcases h with h | ⟨a, cap, hv, ha, hc⟩
  · exact Or.inl h
  · exact Or.inr ⟨a, cap, hv, fun h => Nat.lt_of_lt_of_le (ha h) hb, hc⟩

theorem Laid.later {T : Nat → ByteArray} {N : Nat → Int} {tv : Value} {s es : ByteArray} {a : Addr} {B : Nat} {w w' : World} (h : Laid T N tv s es a B w) (hb : Below B w w') : Laid T N tv s es a B w' where
  size := Nat.le_trans h.size hb.size
  two := h.two
  text := h.text.later hb
  ptr := h.ptr
  msg := (hb.cell h.ptr).trans h.msg
  var := (hb.cell (p := ⟨2, 0, none⟩) h.two).trans h.var
  texts := fun k hk => (hb.cell (p := ⟨1, k * 2, none⟩) (by have := h.two; show 1 < B; omega)).trans (h.texts k hk)
  nums := fun k hk => (hb.cell (p := ⟨1, k * 2 + 1, none⟩) (by have := h.two; show 1 < B; omega)).trans (h.nums k hk)

theorem unm_yes (T : Nat → ByteArray) (N : Nat → Int) (tv : Value) (s es : ByteArray) (a : Addr) (B : Nat) (w : World) (hl : Laid T N tv s es a B w) (j : Nat) (hj : j < 11) (hh : hit T s j) (ho : ∀ i, i < j → ¬ hit T s i) :
    Calls Tryf.prog 14 #[.slice (some ⟨1, 0, none⟩) 11 11, tv, .iface 52 (.pointer (some a))] w fun e w' => e = .returned (.tuple #[.int .i64 j, .nilIface]) ∧ Below w.heap.size w w' := by
  refine (unm_any T N tv s es a w (hl.text.more hl.size) (Nat.lt_of_lt_of_le hl.ptr hl.size) hl.msg (by have := hl.two; have := hl.size; omega) hl.texts hl.nums).mono ?_
  rintro e w' ⟨hb, ⟨i, hi, hhi, hoi, he⟩ | ⟨hno, _⟩⟩
  · have : i = j := by
      rcases Nat.lt_trichotomy i j with h | h | h
      · exact absurd hhi (ho i h)
      · exact h
      · exact absurd hh (hoi j h)
    subst this
    exact ⟨he, hb⟩
  · exact absurd hh (hno j hj)

theorem unm_no (T : Nat → ByteArray) (N : Nat → Int) (tv : Value) (s es : ByteArray) (a : Addr) (B : Nat) (w : World) (hl : Laid T N tv s es a B w) (ho : ∀ i, i < 11 → ¬ hit T s i) :
    Calls Tryf.prog 14 #[.slice (some ⟨1, 0, none⟩) 11 11, tv, .iface 52 (.pointer (some a))] w fun e w' => ∃ u x, e = .returned (.tuple #[.int .i64 0, .iface u x]) ∧ Below w.heap.size w w' := by
  refine (unm_any T N tv s es a w (hl.text.more hl.size) (Nat.lt_of_lt_of_le hl.ptr hl.size) hl.msg (by have := hl.two; have := hl.size; omega) hl.texts hl.nums).mono ?_
  rintro e w' ⟨hb, ⟨i, hi, hhi, hoi, he⟩ | ⟨hno, u, x, he⟩⟩
  · exact absurd hhi (ho i hi)
  · exact ⟨u, x, he, hb⟩

set_option maxHeartbeats 400000 in
theorem umt_no (T : Nat → ByteArray) (N : Nat → Int) (tv : Value) (s es : ByteArray) (a : Addr) (B : Nat) (p : Addr) (w : World) (hl : Laid T N tv s es a B w) (ho : ∀ i, i < 11 → ¬ hit T s i) :
    Calls Tryf.prog 10 #[.pointer (some p), tv] w fun e w' => (∃ u x, e = .returned (.iface u x)) ∧ Below w.heap.size w w' := by
  have HL : Hid (Laid T N tv s es a B w) := hl
  have HO : Hid (∀ i, i < 11 → ¬ hit T s i) := ho
  have hg := hl.var
  clear hl ho
  go_enter Tryf.func10, Tryf.ntmps10
  go_wp2
  go_region_with (go_at_call 14; refine (unm_no T N tv s es a B _ ?_ HO.out).mono ?_; exact HL.out.later ((Below.refl _ _).drew); rintro e w' ⟨u, x, rfl, hb⟩)
  all_goals go_wp2
  all_goals go_ret
  all_goals exact ⟨⟨_, _, rfl⟩, by simpa using ((Below.refl _ _).drew).trans hb⟩

set_option maxHeartbeats 400000 in
theorem umt_yes (T : Nat → ByteArray) (N : Nat → Int) (tv : Value) (s es : ByteArray) (a : Addr) (B : Nat) (bc : Nat) (v0 : Int) (w : World) (hl : Laid T N tv s es a B w) (j : Nat) (hj : j < 11) (hh : hit T s j) (ho : ∀ i, i < j → ¬ hit T s i)
    (hbc : bc < w.heap.size) (hcc : w.cell? ⟨bc, 0, none⟩ = some (.int .i64 v0)) (hcf : w.frozen? ⟨bc, 0, none⟩ = false) :
    Calls Tryf.prog 10 #[.pointer (some ⟨bc, 0, none⟩), tv] w fun e w' => e = .returned .nilIface ∧ ∃ w1, Below w.heap.size w w1 ∧ w' = w1.setCell ⟨bc, 0, none⟩ (.int .i64 j) := by
  have HL : Hid (Laid T N tv s es a B w) := hl
  have HO : Hid (∀ i, i < j → ¬ hit T s i) := ho
  have HH : Hid (hit T s j) := hh
  have HC : Hid (w.cell? ⟨bc, 0, none⟩ = some (.int .i64 v0)) := hcc
  have HZ : Hid (w.frozen? ⟨bc, 0, none⟩ = false) := hcf
  have hg := hl.var
  clear hl ho hh hcc hcf
  go_enter Tryf.func10, Tryf.ntmps10
  go_wp2
  go_region_with (go_at_call 14; refine (unm_yes T N tv s es a B _ ?_ j hj HH.out HO.out).mono ?_; exact HL.out.later ((Below.refl _ _).drew); rintro e w' ⟨rfl, hb⟩; have hb' : Below w.heap.size w w' := by simpa using ((Below.refl _ _).drew).trans hb)
  all_goals
    have hc1 := (hb'.cell (p := ⟨bc, 0, none⟩) hbc).trans HC.out
    have hf1 := (hb'.frozen (p := ⟨bc, 0, none⟩) hbc).trans HZ.out
    go_wp2
    go_ret
    exact ⟨rfl, _, hb', rfl⟩

end Go.Proofs.Qxb6617040aFmt
