/-
  The walk of ZZNumber and of the two zzBytes.
-/
import Derived.Test.Qxb6617227aNum
namespace Go.Proofs.Qxb6617227a
open Go.RowKit
set_option linter.unusedVariables false

theorem Done.lx {bl bt : Nat} {src : ByteArray} {p : Nat} {kd : Int} {tx : ByteArray} {q : Nat} {w w' : World} (h : Done bl bt src p kd tx q w w') (hne : bl ≠ bt) : w'.cell? ⟨bl, 1, none⟩ = some (.int .i64 (q : Int)) := by
  obtain ⟨w1, h1, h2, h3⟩ := h.mid
  exact (h3.cell (p := ⟨bl, 1, none⟩) hne).trans h2.c1

theorem Done.below {bl bt : Nat} {src : ByteArray} {p : Nat} {kd : Int} {tx : ByteArray} {q : Nat} {w w' : World} (h : Done bl bt src p kd tx q w w') (B : Nat) (h1 : B ≤ bl) (h2 : B ≤ bt) : Below B w w' := by
  obtain ⟨w1, a, _, b⟩ := h.mid
  refine ⟨b.os.trans a.os, b.tape.trans a.tape, b.output.trans a.output, Nat.le_of_eq (a.size.symm.trans b.size.symm), fun k hk => ?_⟩
  rw [b.block k (by omega), a.block k (by omega)]

set_option maxRecDepth 100000 in
set_option maxHeartbeats 800000 in
theorem zz_walk (src : ByteArray) (p : Nat) (kd : Int) (tx : ByteArray) (q : Nat) (w : World)
    (hn : ∀ (bl bt : Nat) (w : World), bl ≠ bt → Lx bl src p w → Tk bt w → Calls Try.prog 27 #[.pointer (some ⟨bl, 0, none⟩), .pointer (some ⟨bt, 0, none⟩)] w fun e w' => e = .returned (.tuple #[]) ∧ Done bl bt src p kd tx q w w') :
    Calls Try.prog 20 #[.string src, .int .i64 (p : Int)] w fun e w' => e = .returned (.tuple #[.int .u8 kd, .string tx, .int .i64 (p : Int), .int .i64 (q : Int), .int .i64 (q : Int)]) ∧ Below w.heap.size w w' := by
  have HN : Hid (∀ (bl bt : Nat) (w : World), bl ≠ bt → Lx bl src p w → Tk bt w → Calls Try.prog 27 #[.pointer (some ⟨bl, 0, none⟩), .pointer (some ⟨bt, 0, none⟩)] w fun e w' => e = .returned (.tuple #[]) ∧ Done bl bt src p kd tx q w w') := hn
  clear hn
  go_enter Try.func20, Try.ntmps20
  go_wp2_with fail
  refine (HN.out w.heap.size (w.heap.size + 1) _ (by omega) ⟨?_, ?_, ?_⟩ ⟨?_, ?_, ?_, ?_, ?_, ?_, ?_, ?_⟩).mono ?_
  · simp
  · simp
  · simp
  · exact ⟨.int .u8 0, by simp⟩
  · exact ⟨.string { data := #[] }, by simp⟩
  · exact ⟨.int .i64 0, by simp⟩
  · exact ⟨.int .i64 0, by simp⟩
  · simp
  · simp
  · simp
  · simp
  · rintro e w1 ⟨rfl, hd⟩
    have hb : Below w.heap.size w w1 := (((Below.refl _ _).alloc (Nat.le_refl _) _).alloc (by simp) _).trans (hd.below w.heap.size (Nat.le_refl _) (by omega))
    have HB : Hid (Below w.heap.size w w1) := hb
    have k0 := hd.k0
    have k1 := hd.k1
    have k2 := hd.k2
    have k3 := hd.k3
    have k4 := hd.lx (by omega)
    clear hd hb
    go_wp2
    go_quiet (fail)
    go_wp2
    exact bodyPost_ret (v := .tuple #[.int .u8 kd, .string tx, .int .i64 (p : Int), .int .i64 (q : Int), .int .i64 (q : Int)]) (by simp [results, Try.results20, go_sem]) rfl ⟨rfl, HB.out.trans ⟨rfl, rfl, rfl, Nat.le_refl _, fun _ _ => rfl⟩⟩

/-- ZZNumber at a place in the text. -/
theorem zz_any (src : ByteArray) (p : Nat) (w : World) (hs : src.size ≤ 1073741824) (hp : p ≤ src.size) :
    Calls Try.prog 20 #[.string src, .int .i64 (p : Int)] w fun e w' =>
      e = .returned (.tuple #[.int .u8 (kindOf (E src.data.toList 0 p).1), .string (txOf src p (E src.data.toList 0 p).1 (E src.data.toList 0 p).2), .int .i64 (p : Int), .int .i64 ((E src.data.toList 0 p).2 : Int), .int .i64 ((E src.data.toList 0 p).2 : Int)]) ∧ Below w.heap.size w w' :=
  zz_walk src p _ _ _ w (fun bl bt w hne hl ht => number_any bl bt src p w hs hp hne hl ht)

set_option maxHeartbeats 400000 in
theorem zb19_small (s : ByteArray) (k : Int) (w : World) (h : s.size ≤ 1048576) : Calls Try.prog 19 #[.string s, .int .i64 k] w fun e w' => e = .returned (.bool true) ∧ w' = w := by
  go_enter Try.func19, Try.ntmps19
  go_wp2
  go_ret
  exact ⟨rfl, rfl⟩
set_option maxHeartbeats 400000 in
theorem zb19_great (s : ByteArray) (k : Int) (w : World) (hs : s.size ≤ maxLen) (h : 1048576 < s.size) : Calls Try.prog 19 #[.string s, .int .i64 k] w fun e w' => e = .returned (.bool false) ∧ w' = w := by
  unfold maxLen at hs
  go_enter Try.func19, Try.ntmps19
  go_wp2
  go_ret
  exact ⟨rfl, rfl⟩
set_option maxHeartbeats 400000 in
theorem zb23_small (s : ByteArray) (p k : Int) (w : World) (h : s.size ≤ 1048576) : Calls Try.prog 23 #[.string s, .int .i64 p, .int .i64 k] w fun e w' => e = .returned (.bool true) ∧ w' = w := by
  go_enter Try.func23, Try.ntmps23
  go_wp2
  go_ret
  exact ⟨rfl, rfl⟩
set_option maxHeartbeats 400000 in
theorem zb23_great (s : ByteArray) (p k : Int) (w : World) (hs : s.size ≤ maxLen) (h : 1048576 < s.size) : Calls Try.prog 23 #[.string s, .int .i64 p, .int .i64 k] w fun e w' => e = .returned (.bool false) ∧ w' = w := by
  unfold maxLen at hs
  go_enter Try.func23, Try.ntmps23
  go_wp2
  go_ret
  exact ⟨rfl, rfl⟩

end Go.Proofs.Qxb6617227a
