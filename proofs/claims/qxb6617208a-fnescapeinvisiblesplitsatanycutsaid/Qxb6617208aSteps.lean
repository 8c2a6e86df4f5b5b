/-
  append and make on the call's own []byte in this program: as runs, as a law for the walk, as steps of a region that draws its order.
-/
import Derived.Test.Qxb6617208aProg
import Derived.Test.Qxb6617208aPlain
import Derived.WalkKit
import Derived.WalkSpells
import Derived.WalkLawsBesides
import Derived.Lib.AppendStr
import Derived.Deep.RegionLaw
import Derived.Laws.IdiomStrings
namespace Go.Proofs.Qxb6617208a
open Go.RowKit
set_option linter.unusedVariables false

theorem info5 : (Try.prog.info? 5).map (fun i => (i.zero, i.size, i.bytes)) = some (some (.int .u8 0), 1, 1) := by kernel_rfl

/-- The bytes as cells. -/
def cellsL (l : List UInt8) : List Value := l.map fun b => Value.int .u8 (b.toNat : Int)
theorem cellsL_len (l : List UInt8) : (cellsL l).length = l.length := by simp [cellsL]
theorem cellsL_append (a b : List UInt8) : cellsL (a ++ b) = cellsL a ++ cellsL b := by simp [cellsL]

/-- The slice at the head of block g, of capacity cap, owns just these bytes; g is one of the call's own blocks. -/
def Own (B : Nat) (w : World) (g cap : Nat) (bs : List UInt8) : Prop := w.ownsRow B 5 1 (.slice (some ⟨g, 0, none⟩) bs.length cap) bs.length (cellsL bs)

theorem Own.ge {B : Nat} {w : World} {g cap : Nat} {bs : List UInt8} (h : Own B w g cap bs) : B ≤ g ∧ g < w.heap.size := by
  obtain ⟨_, ⟨h, _⟩ | ⟨g', cap', cur, h, hb, hh, _⟩⟩ := h
  · cases h
  · simp only [Value.slice.injEq, Option.some.injEq, Addr.mk.injEq, and_true] at h
    obtain ⟨rfl, _⟩ := h
    exact ⟨hb, (Array.getElem?_eq_some_iff.1 hh).1⟩

theorem form_of {B : Nat} {w : World} {v : Value} {n : Nat} {xs : List Value} (h : w.ownsRow B 5 1 v n xs) (hv : v ≠ .slice none 0 0) : ∃ g cap, v = .slice (some ⟨g, 0, none⟩) n cap := by
  obtain ⟨_, ⟨h, _⟩ | ⟨g', cap', cur, h, _⟩⟩ := h
  · exact absurd h hv
  · exact ⟨_, _, h⟩

theorem run_app (w : World) (ty : TypeId) (B g cap : Nat) (bs : List UInt8) (hown : Own B w g cap bs) (ad : Addr) (m c : Nat) (news : List UInt8) (hn : news.length = m)
    (hc : ∀ j u, (cellsL news)[j]? = some u → w.cell? (ad.add j) = some u) (hb : bs.length + m ≤ 1073741824) (hB : B ≤ w.heap.size) :
    ∃ g' cap' w', (Builtin.append_ #[28, 28] ty #[.slice (some ⟨g, 0, none⟩) bs.length cap, .slice (some ad) m c]).run Try.prog w = .ok (.slice (some ⟨g', 0, none⟩) (bs.length + m) cap') w' ∧ Own B w' g' cap' (bs ++ news) ∧ Below B w w' := by
  obtain ⟨i0, hi, hz0, hz1, hz2⟩ := info_parts info5
  obtain ⟨v', w', hrun, r1, r2, r3⟩ := run_append_own (P := Try.prog) w B 28 ty 5 i0 (.int .u8 0) 1 1 Try.underlying28 hi hz0 hz1 hz2 rfl (by decide) _ _ _ hown ad m c (cellsL news) (by rw [cellsL_len]; omega) hc
    (by intro u hu; obtain ⟨b, _, rfl⟩ := List.mem_map.1 hu; rfl) (by unfold maxLen; omega) (by omega) hB
  obtain ⟨g', cap', rfl⟩ := form_of r1 (fun h => by have := (r3.1 h).1; cases this)
  refine ⟨g', cap', w', hrun, ?_, ?_⟩
  · have e1 : (bs ++ news).length = bs.length + m := by simp [hn]
    unfold Own
    rw [e1, cellsL_append]
    exact r1
  · refine (Below.refl _ _).grown r2 hB (fun k hk => ?_)
    simp [Value.ownBlock] at hk
    subst hk
    exact hown.ge.1

theorem run_app_str (w : World) (ty : TypeId) (B g cap : Nat) (bs : List UInt8) (hown : Own B w g cap bs) (s : ByteArray) (hb : bs.length + s.size ≤ 1073741824) (hB : B ≤ w.heap.size) :
    ∃ g' cap' w', (Builtin.append_ #[28, 9] ty #[.slice (some ⟨g, 0, none⟩) bs.length cap, .string s]).run Try.prog w = .ok (.slice (some ⟨g', 0, none⟩) (bs.length + s.size) cap') w' ∧ Own B w' g' cap' (bs ++ s.data.toList) ∧ Below B w w' := by
  obtain ⟨i0, hi, hz0, hz1, hz2⟩ := info_parts info5
  obtain ⟨v', w', hrun, r1, r2, r3⟩ := Lib.run_append_own_string (P := Try.prog) w B 28 9 ty 5 i0 Try.underlying28 Try.underlying9 hi hz0 hz1 hz2 _ _ _ hown s (by unfold maxLen; omega) (by omega) hB
  obtain ⟨g', cap', rfl⟩ := form_of r1 (fun h => by have := (r3.1 h).1; cases this)
  refine ⟨g', cap', w', hrun, ?_, ?_⟩
  · have e1 : (bs ++ s.data.toList).length = bs.length + s.size := by simp
    unfold Own
    rw [e1, cellsL_append]
    exact r1
  · refine (Below.refl _ _).grown r2 hB (fun k hk => ?_)
    simp [Value.ownBlock] at hk
    subst hk
    exact hown.ge.1

/-- The digits' string. -/
abbrev hexS : ByteArray := { data := #[48, 49, 50, 51, 52, 53, 54, 55, 56, 57, 65, 66, 67, 68, 69, 70] }
theorem hexS_at : ∀ n : Nat, n < 16 → hexS.data.toList[n]? = some (hexd n) := by decide +kernel
theorem run_hex (w : World) (n : Nat) (hn : n < 16) : (Instr.index 9 (.string hexS) (.int .u8 (n : Int))).run Try.prog w = .ok (.int .u8 ((hexd n).toNat : Int)) w := by
  rw [run_index_string w 9 hexS .u8 (n : Int) Try.underlying9, dif_pos ⟨by omega, by show (n : Int) < (16 : Nat); omega⟩]
  congr 3
  have h := hexS_at n hn
  have hl : n < hexS.data.toList.length := hn
  rw [List.getElem?_eq_getElem hl] at h
  have e : hexS[(n : Int).toNat]'(by show (n : Int).toNat < 16; omega) = hexS.data.toList[n] := by
    simp only [Int.toNat_natCast]; rfl
  rw [e, Option.some.inj h]
theorem run_hex_hi (c : UInt8) (w : World) : (Instr.index 9 (.string hexS) (.int .u8 ((c.toNat : Int) / 16))).run Try.prog w = .ok (.int .u8 ((hexd (c.toNat / 16)).toNat : Int)) w := by
  have h := run_hex w (c.toNat / 16) (by have := c.toNat_lt; omega)
  have e : ((c.toNat / 16 : Nat) : Int) = (c.toNat : Int) / 16 := by omega
  rw [e] at h
  exact h
theorem run_hex_lo (c : UInt8) (w : World) : (Instr.index 9 (.string hexS) (.int .u8 ((c.toNat : Int) % 16))).run Try.prog w = .ok (.int .u8 ((hexd (c.toNat % 16)).toNat : Int)) w := by
  have h := run_hex w (c.toNat % 16) (by omega)
  have e : ((c.toNat % 16 : Nat) : Int) = (c.toNat : Int) % 16 := by omega
  rw [e] at h
  exact h
theorem and15_all : ∀ u : Fin 256, bits BinOp.and IntKind.u8 (u.val : Int) 15 = (u.val : Int) % 16 := by decide +kernel
theorem and15 (c : UInt8) : bits BinOp.and IntKind.u8 (c.toNat : Int) 15 = (c.toNat : Int) % 16 := and15_all ⟨c.toNat, c.toNat_lt⟩

/-- 'make([]byte, 0, n)'. -/
theorem run_mk (n : Nat) (hn : n ≤ 1073741824) : ∃ o : Obj, ∀ w : World, (Instr.makeSlice 28 (.int .i64 0) (.int .i64 (n : Int))).run Try.prog w = .ok (.slice (some ⟨w.heap.size, 0, none⟩) 0 n) (w.alloc o) ∧
    ∀ B, B ≤ w.heap.size → Own B (w.alloc o) w.heap.size n [] := by
  obtain ⟨i0, hi, hz0, hz1, hz2⟩ := info_parts info5
  refine ⟨.cells (madeCells #[.int .u8 0] (n * 1)) 5, fun w => ?_⟩
  have hr := run_make (P := Try.prog) w 28 5 i0 (.int .u8 0) Try.underlying28 hi hz0 .i64 .i64 0 n (Int.le_refl _) (by omega) (by rw [hz2]; omega) (by omega)
  rw [hz1] at hr
  simp only [Int.toNat_zero, Int.toNat_natCast] at hr
  refine ⟨hr, fun B hB => ?_⟩
  exact World.ownsRow_made w _ n hB (by unfold maxLen; omega) (size_madeCells _ _)

theorem cell_three_new (w : World) (a b c : Value) (t : TypeId) : ∀ j u, [a, b, c][j]? = some u → (w.alloc (.cells #[a, b, c] t)).drew.cell? ((⟨w.heap.size, 0, none⟩ : Addr).add j) = some u := by
  intro j u hj
  match j, hj with
  | 0, hj => simp at hj; subst hj; simp [Addr.add]
  | 1, hj => simp at hj; subst hj; simp [Addr.add]
  | 2, hj => simp at hj; subst hj; simp [Addr.add]
  | j + 3, hj => simp at hj

theorem cell_one_byte (w : World) (b : UInt8) : ∀ j u, (cellsL [b])[j]? = some u → (w.alloc (.cells #[.int .u8 (b.toNat : Int)] 5)).cell? ((⟨w.heap.size, 0, none⟩ : Addr).add j) = some u := by
  intro j u hj
  match j, hj with
  | 0, hj => simp [cellsL] at hj; subst hj; simp [Addr.add]
  | j + 1, hj => simp [cellsL] at hj

theorem cell_three_bytes (w : World) (b : UInt8) : ∀ j u, (cellsL [37, hexd (b.toNat / 16), hexd (b.toNat % 16)])[j]? = some u →
    (w.alloc (.cells #[.int .u8 37, .int .u8 ((hexd (b.toNat / 16)).toNat : Int), .int .u8 ((hexd (b.toNat % 16)).toNat : Int)] 5)).drew.cell? ((⟨w.heap.size, 0, none⟩ : Addr).add j) = some u :=
  fun j u hj => cell_three_new w _ _ _ 5 j u hj

theorem Own.alloc {B : Nat} {w : World} {g cap : Nat} {bs : List UInt8} (h : Own B w g cap bs) (o : Obj) : Own B (w.alloc o) g cap bs := World.ownsRow.alloc h o
theorem Own.drew {B : Nat} {w : World} {g cap : Nat} {bs : List UInt8} (h : Own B w g cap bs) : Own B w.drew g cap bs := World.ownsRow.drew h

theorem Own.conv {B : Nat} {w : World} {g cap : Nat} {bs : List UInt8} (h : Own B w g cap bs) : (convert 28 9 (.slice (some ⟨g, 0, none⟩) bs.length cap)).run Try.prog w = .ok (.string ⟨bs.toArray⟩) w := by
  refine run_convert_bytes_back (P := Try.prog) w 28 9 5 ⟨g, 0, none⟩ cap bs Try.underlying28 Try.underlying5 Try.underlying9 (fun j hj => ?_)
  obtain ⟨_, ⟨h, _⟩ | ⟨g', cap', cur, h, hb, hh, hle, hm, hsz, htk⟩⟩ := h
  · cases h
  · simp only [Value.slice.injEq, Option.some.injEq, Addr.mk.injEq, and_true] at h
    obtain ⟨rfl, _⟩ := h
    have e : (⟨g, 0, none⟩ : Addr).add j = ⟨g, j, none⟩ := by unfold Addr.add; split <;> simp_all
    rw [e]
    have h2 : (cur.toList.take (bs.length * 1))[j]? = (cellsL bs)[j]? := by rw [htk]
    rw [List.getElem?_take_of_lt (by omega)] at h2
    simp only [World.cell?, hh]
    simpa [cellsL, List.getElem?_eq_getElem hj] using h2

/-- append OF A SLICE, as one step of a region that draws. -/
theorem step_app {ops : Array Oper} {o : Oper} {a : Act} {w : World} {K : Act → World → Prop} {Q : Exit → Act → World → Prop} {E : Prop}
    (hg : o.guard = none) (s x : Operand) (hop : o.op = Op.call { callee := Callee.builtin Builtin.append, args := #[s, x], argTypes := #[28, 28] })
    (B g cap : Nat) (bs : List UInt8) (hs : a.eval s = .slice (some ⟨g, 0, none⟩) bs.length cap) (ad : Addr) (m c : Nat) (news : List UInt8) (hx : a.eval x = .slice (some ad) m c)
    (hown : Own B w g cap bs) (hn : news.length = m) (hc : ∀ j u, (cellsL news)[j]? = some u → w.cell? (ad.add j) = some u) (hb : bs.length + m ≤ 1073741824) (hB : B ≤ w.heap.size) (out : List UInt8) (hout : bs ++ news = out)
    (hK : ∀ g' cap' w', Own B w' g' cap' out → Below B w w' → K (a.put o.dst (.slice (some ⟨g', 0, none⟩) out.length cap')) w') :
    if Region.wanted o (yielded ops a.tmps) = true then Oper.wp Try.prog o a w K Q else E := by
  have hw : Region.wanted o (yielded ops a.tmps) = true := by simp [Region.wanted, hg]
  rw [if_pos hw]
  obtain ⟨g', cap', w', hrun, r1, r2⟩ := run_app w o.type B g cap bs hown ad m c news hn hc hb hB
  have e1 : bs.length + m = out.length := by rw [← hout, List.length_append, hn]
  rw [e1] at hrun
  rw [hout] at r1
  unfold Oper.wp
  simp [execOp, hop, resolve, invoke, builtin, hs, hx, hrun, Result.andThen]
  exact hK g' cap' w' r1 r2

/-- append OF A STRING, as one step of a region that draws. -/
theorem step_app_str {ops : Array Oper} {o : Oper} {a : Act} {w : World} {K : Act → World → Prop} {Q : Exit → Act → World → Prop} {E : Prop}
    (hg : o.guard = none) (s x : Operand) (hop : o.op = Op.call { callee := Callee.builtin Builtin.append, args := #[s, x], argTypes := #[28, 9] })
    (B g cap n : Nat) (bs : List UInt8) (hs : a.eval s = .slice (some ⟨g, 0, none⟩) n cap) (str : ByteArray) (hx : a.eval x = .string str) (hnl : n = bs.length)
    (hown : Own B w g cap bs) (hb : bs.length + str.size ≤ 1073741824) (hB : B ≤ w.heap.size) (out : List UInt8) (hout : bs ++ str.data.toList = out)
    (hK : ∀ g' cap' w', Own B w' g' cap' out → Below B w w' → K (a.put o.dst (.slice (some ⟨g', 0, none⟩) out.length cap')) w') :
    if Region.wanted o (yielded ops a.tmps) = true then Oper.wp Try.prog o a w K Q else E := by
  have hw : Region.wanted o (yielded ops a.tmps) = true := by simp [Region.wanted, hg]
  rw [if_pos hw]
  subst hnl
  obtain ⟨g', cap', w', hrun, r1, r2⟩ := run_app_str w o.type B g cap bs hown str hb hB
  have e1 : bs.length + str.size = out.length := by rw [← hout]; simp
  rw [e1] at hrun
  rw [hout] at r1
  unfold Oper.wp
  simp [execOp, hop, resolve, invoke, builtin, hs, hx, hrun, Result.andThen]
  exact hK g' cap' w' r1 r2

/-- append OF A SLICE, for the walk. -/
theorem wpList_app {ops : Array Oper} {rest : List Oper} {o : Oper} {a : Act} {Q : Exit → Act → World → Prop} (w : World)
    (hg : o.guard = none) (s x : Operand) (hop : o.op = Op.call { callee := Callee.builtin Builtin.append, args := #[s, x], argTypes := #[28, 28] })
    (B g cap : Nat) (bs : List UInt8) (hs : a.eval s = .slice (some ⟨g, 0, none⟩) bs.length cap) (ad : Addr) (m c : Nat) (news : List UInt8) (hx : a.eval x = .slice (some ad) m c)
    (hown : Own B w g cap bs) (hn : news.length = m) (hc : ∀ j u, (cellsL news)[j]? = some u → w.cell? (ad.add j) = some u) (hb : bs.length + m ≤ 1073741824) (hB : B ≤ w.heap.size) (out : List UInt8) (hout : bs ++ news = out)
    (hK : ∀ g' cap' w', Own B w' g' cap' out → Below B w w' → wpList Try.prog ops Q rest (a.put o.dst (.slice (some ⟨g', 0, none⟩) out.length cap')) w') :
    wpList Try.prog ops Q (o :: rest) a w := by
  refine wpList_plain hg fun K hK' => ?_
  obtain ⟨g', cap', w', hrun, r1, r2⟩ := run_app w o.type B g cap bs hown ad m c news hn hc hb hB
  have e1 : bs.length + m = out.length := by rw [← hout, List.length_append, hn]
  rw [e1] at hrun
  rw [hout] at r1
  unfold Oper.wp
  simp [execOp, hop, resolve, invoke, builtin, hs, hx, hrun, Result.andThen]
  exact hK' _ _ (hK g' cap' w' r1 r2)

end Go.Proofs.Qxb6617208a
