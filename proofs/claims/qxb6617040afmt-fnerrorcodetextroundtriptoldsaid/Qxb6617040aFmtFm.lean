/-
  THE CLOSED FACTS FOR A WALK OVER fmt.errorf in this program (after the worked examples' texts of this kind): the format, the operands, the two error types.
-/
import Derived.Test.Qxb6617040aFmtTables
import Derived.Stop.CallBack
import Derived.Stop.IfaceNil
import Derived.Laws.Cells
import Derived.Laws.BytesArg
import Derived.Laws.IdiomStrings
import Derived.Stop.FmtTextSlices
import GoSem.ClaimData
namespace Go.Proofs.Qxb6617040aFmt
open Go.RowKit Go.Extern.Stop Go.Stop Go.Extern
set_option linter.unusedVariables false

@[go_sem] theorem call19 (args : Array Value) (w : World) : (callFunc 19 args).run Tryf.prog w = ((FmtStop.errorf #[9, 49] #[28] args).run Tryf.prog w).andThen fun v w' => .ok (.value v) w' :=
  run_callFunc_extern Tryf.func19 (by kernel_rfl) (by kernel_rfl) (by kernel_rfl) (by kernel_rfl) args w

@[go_sem] theorem fguard (name : String) (w : World) : (FmtStop.guard name).run Tryf.prog w = .ok () w := by kernel_rfl

@[go_sem] theorem fmt0 : FmtStop.printed? ⟨#[37, 119, 58, 32, 37, 113]⟩ 2 = some [(0, 119, false), (1, 113, false)] := by kernel_rfl
@[go_sem] theorem fmt0r (w : World) : (FmtDoors.printed ⟨#[37, 119, 58, 32, 37, 113]⟩ 2).run Tryf.prog w = .ok [(0, 119, false), (1, 113, false)] w := by kernel_rfl

@[go_sem] theorem ptr52 (w : World) : (FmtStop.ptrTo "errors.errorString").run Tryf.prog w = .ok 52 w := by kernel_rfl
@[go_sem] theorem elem52 (w : World) : (elemOf 52).run Tryf.prog w = .ok 54 w := by kernel_rfl
@[go_sem] theorem isError52 (w : World) : (FmtDoors.textMethod 52 "Error").run Tryf.prog w = .ok true w := by kernel_rfl
theorem name52 : Tryf.prog.typeName? 3 52 = some "*errors.errorString" := by kernel_rfl
def plain52 : List UInt8 := 14 :: FmtStop.pack "*errors.errorString".toUTF8.data.toList
theorem opPlain52 (name : String) (a : Addr) (s : ByteArray) (w : World) (hc : w.cell? a = some (.string s)) :
    (FmtStop.operand name true 119 false (.iface 52 (.pointer (some a)))).run Tryf.prog w = .ok (plain52, s.data.toList) w := by
  have h1 : (typeStr 52).run Tryf.prog w = .ok "*errors.errorString" w := by kernel_rfl
  have d2 : Tryf.t52.desc = .pointer 54 := rfl
  have d3 : Tryf.t54.desc = .named "errors.errorString" 53 := rfl
  simp [FmtStop.operand, h1, d2, d3, run_load, hc, plain52]
@[go_sem] theorem ptr51 (w : World) : (FmtStop.ptrTo "fmt.wrapError").run Tryf.prog w = .ok 51 w := by kernel_rfl
@[go_sem] theorem elem51 (w : World) : (elemOf 51).run Tryf.prog w = .ok 72 w := by kernel_rfl
@[go_sem] theorem isError51 (w : World) : (FmtDoors.textMethod 51 "Error").run Tryf.prog w = .ok true w := by kernel_rfl

/-- The shape of []uint8. -/
def shape30 : List UInt8 := 13 :: (FmtStop.pack "[]uint8".toUTF8.data.toList ++ 6 :: FmtStop.pack "uint8".toUTF8.data.toList)

theorem value5 (name : String) (x : Int) (w : World) : (FmtStop.value name FmtStop.depth 5 [.int .u8 x]).run Tryf.prog w = .ok (digits 8 (x % 2 ^ 64).toNat) w := by kernel_rfl

theorem values5 (name : String) (w : World) : ∀ xs : List Int, (List.mapM ((fun c => FmtStop.value name FmtStop.depth 5 [c]) ∘ Value.int IntKind.u8) xs).run Tryf.prog w = .ok (xs.map fun x => digits 8 (x % 18446744073709551616).toNat) w
  | [] => by simp [List.mapM_nil]
  | x :: xs => by
    have ih := values5 name w xs
    have h := value5 name x w
    simp [List.mapM_cons, h, ih, Result.andThen]

theorem opBytes (name : String) (a : Addr) (cap : Nat) (xs : List Int) (w : World) (hc : ∀ j v, (xs.map (Value.int .u8))[j]? = some v → w.cell? (a.add j) = some v) :
    (FmtStop.operand name true 113 false (.iface 30 (.slice (some a) xs.length cap))).run Tryf.prog w = .ok (shape30, 1 :: (digits 8 xs.length ++ FmtText.intValues xs)) w := by
  have h1 : (typeStr 30).run Tryf.prog w = .ok "[]uint8" w := by kernel_rfl
  have d2 : Tryf.t30.desc = .slice 5 := rfl
  have hb : (FmtStop.bare (FmtStop.asked true 113 false) 30).run Tryf.prog w = .ok true w := by kernel_rfl
  have hs : (FmtStop.scalar 5).run Tryf.prog w = .ok true w := by kernel_rfl
  have hy : (Extern.Stop.isByte 5).run Tryf.prog w = .ok true w := by kernel_rfl
  have hw : Tryf.prog.funcs.any (·.name == FmtStop.writeWord) = true := by kernel_rfl
  have hsh : (FmtStop.shape name (FmtStop.asked true 113 false) FmtStop.depth 5).run Tryf.prog w = .ok (6 :: FmtStop.pack "uint8".toUTF8.data.toList) w := by kernel_rfl
  have hl := run_loadCells_list (P := Tryf.prog) w a (xs.map (Value.int .u8)) hc
  rw [List.length_map] at hl
  simp [FmtStop.operand, h1, hb, hs, hy, hsh, hl, values5, shape30, FmtText.intValues]
  intro hno
  obtain ⟨i, hi, _, _, he⟩ := Array.any_iff_exists.1 hw
  exact absurd (by simpa using he) (hno i hi)

theorem opNil (name : String) (w : World) : (FmtStop.operand name true 113 false (.iface 30 (.slice none 0 0))).run Tryf.prog w = .ok (shape30, [0]) w := by kernel_rfl

/-- THE SLICE OF BYTES v READS, IN THE WORLD w, AS THE STRING s; what it points to lies below block B. -/
def Txt (B : Nat) (w : World) (v : Value) (s : ByteArray) : Prop :=
  (v = .slice none 0 0 ∧ s = ByteArray.empty) ∨
    ∃ (a : Addr) (cap : Nat), v = .slice (some a) s.size cap ∧ (0 < s.data.toList.length → a.block < B) ∧ ∀ j (h : j < s.data.toList.length), w.cell? (a.add j) = some (.int .u8 (s.data.toList[j].toNat : Int))

theorem Txt.later {B : Nat} {w w' : World} {v : Value} {s : ByteArray} (h : Txt B w v s) (hb : Below B w w') : Txt B w' v s := by
  rcases h with h | ⟨a, cap, hv, ha, hc⟩
  · exact Or.inl h
  · refine Or.inr ⟨a, cap, hv, ha, fun j hj => ?_⟩
    have : (a.add j).block < B := by unfold Addr.add; split <;> exact ha (by omega)
    rw [hb.cell this]
    exact hc j hj

theorem Txt.conv {B : Nat} {w : World} {v : Value} {s : ByteArray} (h : Txt B w v s) : (convert 30 9 v).run Tryf.prog w = .ok (.string s) w := by
  rcases h with ⟨rfl, rfl⟩ | ⟨a, cap, rfl, ha, hc⟩
  · exact run_convert_bytes_nil w 30 5 Tryf.underlying30 Tryf.underlying5 0 0 9 Tryf.underlying9
  · have := run_convert_bytes_back (P := Tryf.prog) w 30 9 5 a cap s.data.toList Tryf.underlying30 Tryf.underlying5 Tryf.underlying9 hc
    have hl : s.data.toList.length = s.size := by simp
    rw [hl] at this
    rw [this]

theorem Txt.op {B : Nat} {w : World} {v : Value} {s : ByteArray} (h : Txt B w v s) : ∃ X, ∀ name : String, (FmtStop.operand name true 113 false (.iface 30 v)).run Tryf.prog w = .ok (shape30, X) w := by
  rcases h with ⟨rfl, rfl⟩ | ⟨a, cap, rfl, ha, hc⟩
  · exact ⟨_, fun name => opNil name w⟩
  · have hl : (s.data.toList.map fun b => (b.toNat : Int)).length = s.size := by simp
    refine ⟨1 :: (digits 8 (s.data.toList.map fun b => (b.toNat : Int)).length ++ FmtText.intValues (s.data.toList.map fun b => (b.toNat : Int))), fun name => ?_⟩
    rw [← hl]
    refine opBytes name a cap _ w (fun j v hj => ?_)
    rw [List.getElem?_map, List.getElem?_map] at hj
    obtain ⟨z, hz1, rfl⟩ := Option.map_eq_some_iff.1 hj
    obtain ⟨y, hy1, rfl⟩ := Option.map_eq_some_iff.1 hz1
    obtain ⟨hjl, rfl⟩ := List.getElem?_eq_some_iff.1 hy1
    exact hc j hjl

end Go.Proofs.Qxb6617040aFmt
