/-
  What the proofs of this seat's three cards share: closed facts, what 'laid' gives, a start that fits, the named variables read again.
-/
import Derived.Test.Qxb6617040aFmtTie
import Derived.Test.Qxb6617040aFmtCards
import Derived.Test.Qxb6617040aFmtLa
import Derived.ProofKit
import Derived.Stop.JoinedAt
import Derived.Stop.JoinedTold
import Derived.Stop.Texts
import Derived.Stop.ErrReads
import Derived.Stop.LaidErr
import Derived.ShutString
import Derived.OpenShut
import Derived.OpenVars
import Derived.SevenTiedAt
namespace Go.Proofs.Qxb6617040aFmt
open Go.ChangeShapes Go.WideShapes Go.ChangeAt Go.RowKit Go.Kit
open Go.ChangeMaps (open_string shut_string)
open Go.Extern.Stop Go.Stop Go.Extern
set_option linter.unusedVariables false

theorem own : ownKnob Tryf.prog.godebug = none := by kernel_rfl
theorem laidOut : laidOutB Tryf.pinned.checked.prog = true := by kernel_rfl
theorem stops : Tryf.pinned.checked.prog.stops = ["fmt.Sprintf", "fmt.errorf"] := by kernel_rfl
theorem stopKnobs : Tryf.pinned.checked.prog.stopKnobs = [] := by kernel_rfl
theorem quiet (os : Os) : Stop.quiet Tryf.pinned.checked.prog os := by
  intro k hk
  rw [stopKnobs] at hk
  cases hk

/-- The variables' names, as the given rows spell them. -/
def nState : String := Rows.fnStateTextIsNoErrorCodeSpec.vars.getD 0 "x"
def nCodes : String := Rows.fnStateTextIsNoErrorCodeSpec.vars.getD 1 "x"
def nErr : String := Rows.fnStateTextIsNoErrorCodeSpec.vars.getD 2 "x"
theorem gState : Tryf.prog.globalNamed nState = some 0 := by kernel_rfl
theorem gCodes : Tryf.prog.globalNamed nCodes = some 1 := by kernel_rfl
theorem gErr : Tryf.prog.globalNamed nErr = some 2 := by kernel_rfl
theorem gStateType : (Tryf.prog.globals[0]?).map (·.type) = some 38 := by kernel_rfl
theorem gCodesType : (Tryf.prog.globals[1]?).map (·.type) = some 40 := by kernel_rfl
theorem gErrType : (Tryf.prog.globals[2]?).map (·.type) = some 28 := by kernel_rfl
theorem cells54 : Tryf.prog.cellsOf 54 = 1 := by kernel_rfl
theorem cells9 : Tryf.prog.cellsOf 9 = 1 := by kernel_rfl
theorem cells3 : Tryf.prog.cellsOf 3 = 1 := by kernel_rfl
theorem cells37 : Tryf.prog.cellsOf 37 = 2 := by kernel_rfl
theorem cells38 : Tryf.prog.cellsOf 38 = 12 := by kernel_rfl
theorem cells40 : Tryf.prog.cellsOf 40 = 22 := by kernel_rfl
theorem star : "*" ++ "errors.errorString" = "*errors.errorString" := by decide
theorem row52 (u : TypeId) (h : Tryf.prog.typeName? 3 u = some "*errors.errorString") : u = 52 :=
  typeName_ptr_named (nm := "errors.errorString") (by rw [star]; kernel_rfl) (by kernel_rfl) (by decide) u (by rw [star]; exact h)

theorem ba_of_list {s : ByteArray} {l : List UInt8} (h : s.data.toList = l) : s = ⟨l.toArray⟩ := by
  cases s with | mk d => simp at h; simp [← h]

/-- An array of wire forms that reads as the listed data holds them, cell for cell. -/
theorem wire_cells {W : World} {sp : Nat → Bool} {held : Bool} {fuel : Nat} {t : TypeId} {n : Nat} {cs : List Value} {ds : List (DataW Unit)} {p : List MemPlace} {enc : TypeId × Value → Unit}
    (ht : Tryf.prog.underlying t = some (.array n 37)) (h : DataW.trod enc Tryf.prog W 0 sp held fuel t cs = some (.agg ds, p)) :
    ∀ (k : Nat) (s : List UInt8) (z : Int), k < n → ds[k]? = some (.agg [.lit (.string s), .lit (.int .i64 z)]) → cs[k * 2]? = some (.string ⟨s.toArray⟩) ∧ cs[k * 2 + 1]? = some (.int .i64 z) := by
  obtain ⟨xs, m, _, hx, hl, hn, hf⟩ := DataW.trod_array ht h
  intro k s z hk hd
  simp only [Prod.mk.injEq, DataW.agg.injEq] at hx
  obtain ⟨hx, _⟩ := hx
  have hfk := hf k hk
  rw [cells37] at hfk
  have hxk : k < xs.length := by omega
  rw [List.getElem?_eq_getElem hxk] at hfk
  have hd' : (xs[k]).1 = .agg [.lit (.string s), .lit (.int .i64 z)] := by
    rw [hx, List.getElem?_map, List.getElem?_eq_getElem hxk] at hd
    simpa using hd
  obtain ⟨y0, y1, m', he, hl2, h0, h1⟩ := trod_struct2 Tryf.underlying37 hfk
  rw [he] at hd'
  simp only [DataW.agg.injEq, List.cons.injEq, and_true] at hd'
  obtain ⟨hd0, hd1⟩ := hd'
  obtain ⟨sb, hc0, hy0, _⟩ := DataW.trod_string Tryf.underlying9 h0
  obtain ⟨i0, hc1, hy1, _⟩ := DataW.trod_int Tryf.underlying3 h1
  rw [hy0] at hd0
  rw [hy1] at hd1
  simp only [DataW.lit.injEq, Lit.string.injEq, Lit.int.injEq, true_and] at hd0 hd1
  have hcl : k * 2 + 1 < cs.length := by
    have : ((cs.drop (k * 2)).take 2).length = 2 := hl2.trans cells37
    simp only [List.length_take, List.length_drop] at this
    omega
  have e0 : ((cs.drop (k * 2)).take 2)[0]? = some (.string sb) := by
    have := congrArg (fun l => l[0]?) hc0
    simpa [cells9] using this
  have e1 : ((cs.drop (k * 2)).take 2)[1]? = some (.int .i64 i0) := by
    have := congrArg (fun l => l[0]?) hc1
    simpa [cells3] using this
  rw [List.getElem?_take_of_lt (by omega), List.getElem?_drop] at e0 e1
  rw [Nat.add_zero] at e0
  exact ⟨by rw [e0, ba_of_list hd0], by rw [e1, hd1]⟩

theorem tx_data (k : Nat) (hk : k < 11) : ∃ ds : List (DataW Unit), Rows.laid_example_com_orders_without_oversell_orders_without_oversell_sale_errorCodeWire = .agg ds ∧ ds[k]? = some (.agg [.lit (.string (tx k).data.toList), .lit (.int .i64 (tn k))]) := by
  refine ⟨_, rfl, ?_⟩
  match k, hk with
  | 0, _ => rfl
  | 1, _ => rfl
  | 2, _ => rfl
  | 3, _ => rfl
  | 4, _ => rfl
  | 5, _ => rfl
  | 6, _ => rfl
  | 7, _ => rfl
  | 8, _ => rfl
  | 9, _ => rfl
  | 10, _ => rfl

theorem sx_data (k : Nat) (hk : k < 6) : ∃ ds : List (DataW Unit), Rows.laid_example_com_orders_without_oversell_orders_without_oversell_sale_stateWire = .agg ds ∧ ds[k]? = some (.agg [.lit (.string (sx k).data.toList), .lit (.int .i64 0)]) := by
  refine ⟨_, rfl, ?_⟩
  match k, hk with
  | 0, _ => rfl
  | 1, _ => rfl
  | 2, _ => rfl
  | 3, _ => rfl
  | 4, _ => rfl
  | 5, _ => rfl

theorem codes_of_laid {W : World} {r : List (String × DataW Unit)} (h : laidMet Tryf.prog ((nCodes, Rows.laid_example_com_orders_without_oversell_orders_without_oversell_sale_errorCodeWire) :: r) W) :
    1 < W.heap.size ∧ (∀ k, k < 11 → W.cell? ⟨1, k * 2, none⟩ = some (.string (tx k))) ∧ ∀ k, k < 11 → W.cell? ⟨1, k * 2 + 1, none⟩ = some (.int .i64 (tn k)) := by
  obtain ⟨ps, ⟨g, t, cs, fuel, p, q, hg, ht, hvar, hd, _, _⟩, _⟩ := h
  obtain rfl := Option.some.inj (gCodes.symm.trans hg)
  obtain rfl := Option.some.inj (gCodesType.symm.trans ht)
  have key : ∀ k, k < 11 → W.cell? ⟨1, k * 2, none⟩ = some (.string (tx k)) ∧ W.cell? ⟨1, k * 2 + 1, none⟩ = some (.int .i64 (tn k)) := by
    intro k hk
    obtain ⟨ds, hds, hk2⟩ := tx_data k hk
    rw [hds] at hd
    obtain ⟨h0, h1⟩ := wire_cells Tryf.underlying40 hd k _ _ hk hk2
    rw [World.var?_cell gCodes hvar, World.var?_cell gCodes hvar]
    refine ⟨?_, by simpa using h1⟩
    simpa using h0
  refine ⟨?_, fun k hk => (key k hk).1, fun k hk => (key k hk).2⟩
  rcases Nat.lt_or_ge 1 W.heap.size with h | h
  · exact h
  · have := (key 0 (by omega)).1
    simp [World.cell?, Array.getElem?_eq_none h] at this

theorem states_of_laid {W : World} {r : List (String × DataW Unit)} (h : laidMet Tryf.prog ((nState, Rows.laid_example_com_orders_without_oversell_orders_without_oversell_sale_stateWire) :: r) W) :
    ∀ k, k < 6 → W.cell? ⟨0, k * 2, none⟩ = some (.string (sx k)) := by
  obtain ⟨ps, ⟨g, t, cs, fuel, p, q, hg, ht, hvar, hd, _, _⟩, _⟩ := h
  obtain rfl := Option.some.inj (gState.symm.trans hg)
  obtain rfl := Option.some.inj (gStateType.symm.trans ht)
  intro k hk
  obtain ⟨ds, hds, hk2⟩ := sx_data k hk
  rw [hds] at hd
  obtain ⟨h0, h1⟩ := wire_cells Tryf.underlying38 hd k _ _ hk hk2
  rw [World.var?_cell gState hvar]
  simpa using h0

theorem tabs_of_laid {W : World} {r : List (String × DataW Unit)} (h : laidMet Tryf.prog ((nErr, Rows.laid_example_com_orders_without_oversell_orders_without_oversell_sale_ErrUnknownErrorCode) :: (nCodes, Rows.laid_example_com_orders_without_oversell_orders_without_oversell_sale_errorCodeWire) :: r) W) :
    ∃ es a, Tabs es a W := by
  obtain ⟨a0, s0, hv0, hc0, hs0, hz0⟩ := laid_sentinel h gErr gErrType Tryf.underlying28 row52 Tryf.underlying52 Tryf.underlying54 rfl rfl Tryf.underlying9 cells54 cells9
  obtain ⟨h1, ht, hn⟩ := codes_of_laid h.tail
  have hg : W.cell? ⟨2, 0, none⟩ = some (.iface 52 (.pointer (some a0))) := by simpa using World.var?_cell gErr hv0 0
  refine ⟨s0, a0, ?_, ?_, hc0, hg, ht, hn⟩
  · rcases Nat.lt_or_ge 2 W.heap.size with h | h
    · exact h
    · simp [World.cell?, Array.getElem?_eq_none h] at hg
  · rcases Nat.lt_or_ge a0.block W.heap.size with h | h
    · exact h
    · simp [World.cell?, Array.getElem?_eq_none h] at hc0

/-! ### One start that fits -/
def codeCells : Array Value := ((List.range 11).flatMap fun k => [Value.string (tx k), Value.int .i64 (tn k)]).toArray
def stateCells : Array Value := ((List.range 6).flatMap fun k => [Value.string (sx k), Value.int .i64 0]).toArray
def errText : ByteArray := ⟨#[117, 110, 107, 110, 111, 119, 110, 32, 101, 114, 114, 111, 114, 32, 99, 111, 100, 101]⟩
/-- The settled world with one block more, an errors.errorString; the three variables as the program's text lays them. -/
def witWorld (P : Program) (os : Os) : World :=
  let w0 := World.holding P os ⟨#[.cells #[.string errText] 54], #[], []⟩
  let low := (World.holding P default ⟨#[], #[], []⟩).heap.size
  let put := fun (cs : Array Value) (o : Obj) => match o with
      | .cells _ t frozen => Obj.cells cs t frozen
      | o => o
  { w0 with heap := ((w0.heap.modify 0 (put stateCells)).modify 1 (put codeCells)).modify 2 (put #[.iface 52 (.pointer (some ⟨low, 0, none⟩))]) }

theorem met_three (os : Os) (args : Array Value) : laidMet Tryf.prog Rows.fnStateTextIsNoErrorCodeRow.laid ((witWorld Tryf.prog os).forCall (fun _ _ => 0) ⟨#[], args, []⟩).memory :=
  laidMet_of_run' 8 (by kernel_rfl) (by kernel_rfl)
theorem met_two (os : Os) (args : Array Value) : laidMet Tryf.prog Rows.fnErrorCodeTextRoundTripRow.laid ((witWorld Tryf.prog os).forCall (fun _ _ => 0) ⟨#[], args, []⟩).memory :=
  laidMet_of_run' 8 (by kernel_rfl) (by kernel_rfl)

end Go.Proofs.Qxb6617040aFmt
