/-
  The law FnErrorCodeTextRoundTrip: its walk.
-/
import Derived.Test.Qxb6617040aFmtWa
import Derived.Test.Qxb6617040aFmtWb
import Derived.Test.Qxb6617040aFmtWd
namespace Go.Proofs.Qxb6617040aFmt
open Go.RowKit Go.Extern.Stop Go.Stop Go.Extern
set_option linter.unusedVariables false

/-- The two tables and the sentinel as the program's text lays them. -/
structure Tabs (es : ByteArray) (a : Addr) (w : World) : Prop where
  two : 2 < w.heap.size
  ptr : a.block < w.heap.size
  msg : w.cell? a = some (.string es)
  var : w.cell? ⟨2, 0, none⟩ = some (.iface 52 (.pointer (some a)))
  texts : ∀ k, k < 11 → w.cell? ⟨1, k * 2, none⟩ = some (.string (tx k))
  nums : ∀ k, k < 11 → w.cell? ⟨1, k * 2 + 1, none⟩ = some (.int .i64 (tn k))

theorem Tabs.laid {es : ByteArray} {a : Addr} {w w' : World} (h : Tabs es a w) (hb : Below w.heap.size w w') {tv : Value} {s : ByteArray} {B : Nat} (hB : w.heap.size ≤ B) (hB' : B ≤ w'.heap.size) (ht : Txt B w' tv s) : Laid tx tn tv s es a B w' where
  size := hB'
  two := Nat.lt_of_lt_of_le h.two hB
  text := ht
  ptr := Nat.lt_of_lt_of_le h.ptr hB
  msg := (hb.cell h.ptr).trans h.msg
  var := (hb.cell (p := ⟨2, 0, none⟩) h.two).trans h.var
  texts := fun k hk => (hb.cell (p := ⟨1, k * 2, none⟩) (by have := h.two; show 1 < w.heap.size; omega)).trans (h.texts k hk)
  nums := fun k hk => (hb.cell (p := ⟨1, k * 2 + 1, none⟩) (by have := h.two; show 1 < w.heap.size; omega)).trans (h.nums k hk)

set_option maxHeartbeats 400000 in
theorem rt_out (c : Int) (w : World) (h : c < 1 ∨ 10 < c) :
    Calls Tryf.prog 4 #[.int .i64 c] w fun e w' => e = .returned (.bool true) ∧ w' = w := by
  rcases h with h | h
  · go_enter Tryf.func4, Tryf.ntmps4
    go_wp2
    go_ret
    exact ⟨rfl, rfl⟩
  · have h' : ¬ c < 1 := by omega
    go_enter Tryf.func4, Tryf.ntmps4
    go_wp2
    go_ret
    exact ⟨rfl, rfl⟩

/-- '[]byte(s)' and what it leaves. -/
theorem bytes_made (w : World) (s : ByteArray) : ∃ cap o, (convert 9 30 (.string s)).run Tryf.prog w = .ok (.slice (some ⟨w.heap.size, 0, none⟩) s.size cap) (w.alloc o).drew ∧ Txt (w.heap.size + 1) (w.alloc o).drew (.slice (some ⟨w.heap.size, 0, none⟩) s.size cap) s := by
  have h := run_bytes_of_string (P := Tryf.prog) w 9 30 5 s Tryf.underlying9 Tryf.underlying30 Tryf.underlying5
  refine ⟨_, _, h, Or.inr ⟨_, _, rfl, fun _ => by simp, fun j hj => ?_⟩⟩
  have e : (⟨w.heap.size, 0, none⟩ : Addr).add j = ⟨w.heap.size, j, none⟩ := by unfold Addr.add; split <;> simp_all
  have hj' : j < s.data.size := by simpa using hj
  rw [e]
  show (w.drew.alloc _).cell? ⟨w.drew.heap.size, j, none⟩ = _
  rw [World.cell?_alloc_mark, bytesRow_at s _ j hj']
  simp

set_option maxHeartbeats 400000 in
theorem rt_in (c : Nat) (es : ByteArray) (a : Addr) (w : World) (h1 : 1 ≤ c) (h2 : c ≤ 10) (ht : Tabs es a w) (hne : (tx c).toList.isEmpty = false) (hww : wireWord (tx c))
    (hh : hit tx (tx c) c) (ho : ∀ i, i < c → ¬ hit tx (tx c) i) :
    Calls Tryf.prog 4 #[.int .i64 c] w fun e w' => e = .returned (.bool true) ∧ Below w.heap.size w w' := by
  obtain ⟨s, hs⟩ : ∃ s, s = tx c := ⟨_, rfl⟩
  have hc := ht.texts c (by omega)
  rw [← hs] at hne hww hh ho hc
  have HW : Hid (wireWord s) := hww
  have HT : Hid (Tabs es a w) := ht
  have HH : Hid (hit tx s c) := hh
  have HO : Hid (∀ i, i < c → ¬ hit tx s i) := ho
  clear hs ht hww hh ho
  obtain ⟨cap, o, hcv, htx⟩ := bytes_made (w.alloc (.cells #[.int .i64 0] 26)) s
  simp only [World.size_alloc] at htx
  have HX : Hid (Txt (w.heap.size + 1 + 1) ((w.alloc (.cells #[.int .i64 0] 26)).alloc o).drew (.slice (some ⟨w.heap.size + 1, 0, none⟩) s.size cap) s) := htx
  clear htx
  simp only [World.size_alloc] at hcv
  go_enter Tryf.func4, Tryf.ntmps4
  go_wp2_with (first
    | (go_at_call 9; refine (str_code c s _ (by omega) hne hc).mono ?_; rintro e w' ⟨rfl, hw⟩; obtain rfl := hw.symm)
    | (go_at_call 8; refine (word_true s _ HW.out).mono ?_; rintro e w' ⟨rfl, hw⟩; obtain rfl := hw.symm)
    | fail)
  have hb0 : Below w.heap.size w ((w.alloc (.cells #[.int .i64 0] 26)).alloc o).drew := (((Below.refl _ _).alloc (Nat.le_refl _) _).alloc (by simp) _).drew
  refine (umt_yes tx tn _ s es a (w.heap.size + 1 + 1) w.heap.size 0 _ (HT.out.laid hb0 (by omega) (by simp) HX.out) c (by omega) HH.out HO.out (by simp; omega) (by simp) (by simp)).mono ?_
  rintro e w' ⟨rfl, w1, hb1, rfl⟩
  have hb2 : Below w.heap.size w w1 := hb0.trans (hb1.mono (by simp; omega))
  have hcw : w1.cell? ⟨w.heap.size, 0, none⟩ = some (.int .i64 0) := (hb1.cell (p := ⟨w.heap.size, 0, none⟩) (by simp; omega)).trans (by simp)
  have hcw2 : (w1.setCell ⟨w.heap.size, 0, none⟩ (.int .i64 c)).cell? ⟨w.heap.size, 0, none⟩ = some (.int .i64 c) := World.cell?_setCell_same _ _ _ hcw
  go_wp2
  go_ret
  exact ⟨rfl, hb2.setCell (Nat.le_refl _) _⟩

end Go.Proofs.Qxb6617040aFmt
