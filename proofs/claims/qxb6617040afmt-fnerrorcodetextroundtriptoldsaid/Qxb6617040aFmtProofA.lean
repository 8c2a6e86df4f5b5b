/-
  THE TOLD AND TIED CARD OF FnErrorCodeTextRoundTrip.
-/
import Derived.Test.Qxb6617040aFmtPr
import Derived.Test.Qxb6617040aFmtPl
namespace Go.Proofs.Qxb6617040aFmt.roundTrip
open Go.ChangeShapes Go.WideShapes Go.ChangeAt Go.RowKit Go.Kit
open Go.ChangeMaps (open_string shut_string)
open Go.Extern.Stop Go.Stop Go.Extern
set_option linter.unusedVariables false

theorem walk (c : Int) (es : ByteArray) (a : Addr) (w : World) (ht : Tabs es a w) :
    Calls Tryf.prog 4 #[.int .i64 c] w fun e w' => e = .returned (.bool true) ∧ Below w.heap.size w w' := by
  by_cases h : 1 ≤ c ∧ c ≤ 10
  · obtain ⟨n, rfl⟩ : ∃ n : Nat, c = n := ⟨c.toNat, by omega⟩
    have h1 : 1 ≤ n := by omega
    have h2 : n ≤ 10 := by omega
    exact rt_in n es a w h1 h2 ht (tx_ne n h1 h2) (tx_word n h1 h2) (tx_hit n h1 h2) (tx_first n h1 h2)
  · refine (rt_out c w (by omega)).mono ?_
    rintro e w' ⟨rfl, rfl⟩
    exact ⟨rfl, Below.refl _ _⟩

set_option maxRecDepth 100000 in
theorem lifted (os : Os) (started : os.Started) (H : Type) (enc : TypeId × Value → H) :
    ReturnsInTold none {} Tryf.checked os 4 .any Input.okWide ((OpenSpec.ofChange Rows.fnErrorCodeTextRoundTripSpec).preRow enc Tryf.prog Tryf.f4 [] false Rows.fnErrorCodeTextRoundTripRow.laid)
      (fun F => ((OpenSpec.ofChange Rows.fnErrorCodeTextRoundTripSpec).at F).post enc Tryf.prog Tryf.f4 false true false false) (aloneAtReturn Tryf.prog) nothingAlways := by
  refine returnsInTold_of_row (C := Tryf.checked) (s := OpenSpec.ofChange Rows.fnErrorCodeTextRoundTripSpec) (by kernel_rfl) own started (by kernel_rfl) Tryf.func4
    (OpenSpec.witness_stopped_at (enc := enc) (C := Tryf.checked) false (witWorld Tryf.prog os) #[.int .i64 0] rfl (by kernel_rfl) (by kernel_rfl) (by kernel_rfl)
      (OpenSpec.preRow_of_B rfl 8 (by kernel_rfl) (by kernel_rfl) (met_two os _))) ?_
  intro F W base args ds gs before _ hF hval0 hW _ _ _ hL _
  have hval : ∀ (j : Nat) t v, Tryf.f4.params[j]? = some t → args[j]? = some v → Value.okWide Tryf.prog W .any base t v := hval0
  have hW' := hW
  obtain ⟨p, q, hA0, hV0, rfl, hfz, hnd⟩ := hW
  have hA : DataW.TrodAll enc Tryf.prog W 0 (fun _ => true) true Tryf.f4.params.toList args.toList ds p := hA0
  have hV : DataW.TrodVars enc Tryf.prog W (fun _ => true) [nCodes, nErr] gs q := hV0
  rw [Tryf.params4] at hA hval
  obtain ⟨v0, d0, rfl, rfl, h0⟩ := trodAll_one hA
  obtain ⟨c, rfl, rfl, rfl, wc⟩ := open_int Tryf.underlying26 (hval 0 26 v0 rfl rfl) h0
  obtain ⟨es, a, ht⟩ := tabs_of_laid hL
  obtain ⟨_, _, _, _, g0, _, _, _, _, _, g1, _, rfl, _⟩ := trodVars_two hV
  clear hA0 hval0
  refine (walk c es a W ht).mono fun e W' ⟨he, hb⟩ => ?_
  subst he
  refine ⟨_, rfl, _, _, _, [], [], q, hW', trodAll_mk1 (shut_bool Tryf.underlying4 _), trodAll_mk1 (shut_int Tryf.underlying26 wc), ?_, hb.frame _, fun h => by cases h⟩
  exact Below.trodVars laidOut hb (by kernel_rfl) hV

theorem proved : Rows.FnErrorCodeTextRoundTripToldSaid :=
  Claim7.holds_of_told_tied_any_at .later 4 Tryf.f4 "fmt.Sprintf" ["fmt.errorf"] [] _ _ _ _ _ (by kernel_rfl) rfl rfl rfl laidOut (by kernel_rfl) rfl ⟨rfl, rfl, rfl, rfl, rfl, rfl, rfl⟩ rfl rfl (by kernel_rfl) (by kernel_rfl) Tryf.func4 (by kernel_rfl)
    (of_decide_eq_true (by kernel_rfl)) (by unfold Func.isWrapper; first | (rw [if_pos (by decide +kernel)]; kernel_rfl) | (rw [if_neg (by decide +kernel)]; exact ⟨rfl, rfl⟩)) stops.symm rfl stopKnobs.symm (by kernel_rfl)
    (by kernel_rfl) (by kernel_rfl) (by kernel_rfl) (by kernel_rfl) (by kernel_rfl) (by kernel_rfl) (by kernel_rfl) (by kernel_rfl) (by kernel_rfl) rfl (by kernel_rfl) rfl rfl
    rfl rfl
    rfl (by kernel_rfl) (by kernel_rfl) (by kernel_rfl) (by decide) (by kernel_rfl) fnErrorCodeTextRoundTrip_row_tie
    (OpenClaim.moreEntering_of (by kernel_rfl) (by kernel_rfl) (by kernel_rfl) (by kernel_rfl) (by kernel_rfl) (by kernel_rfl) (by kernel_rfl) (by kernel_rfl) (by kernel_rfl) (by kernel_rfl))
    ⟨_, WideRow.started_initial, quiet _⟩
    (fun os started _ H enc _ => lifted os started H enc)
#print axioms proved
end Go.Proofs.Qxb6617040aFmt.roundTrip
