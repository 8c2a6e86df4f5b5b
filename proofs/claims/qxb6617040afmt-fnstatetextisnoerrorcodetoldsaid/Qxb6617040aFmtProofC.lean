/-
  THE TOLD AND TIED CARD OF FnStateTextIsNoErrorCode.
-/
import Derived.Test.Qxb6617040aFmtPr
import Derived.Test.Qxb6617040aFmtPl
import Derived.Test.Qxb6617040aFmtLc
namespace Go.Proofs.Qxb6617040aFmt.stateNoCode
open Go.ChangeShapes Go.WideShapes Go.ChangeAt Go.RowKit Go.Kit
open Go.ChangeMaps (open_string shut_string)
open Go.Extern.Stop Go.Stop Go.Extern
set_option linter.unusedVariables false

theorem walk (c st : Int) (es : ByteArray) (a : Addr) (w : World) (ht : Tabs es a w) (hs : ∀ k, k < 6 → w.cell? ⟨0, k * 2, none⟩ = some (.string (sx k))) :
    Calls Tryf.prog 6 #[.int .i64 c, .int .i64 st] w fun e w' => e = .returned (.bool true) ∧ Below w.heap.size w w' := by
  by_cases h : 1 ≤ c ∧ c ≤ 5
  · obtain ⟨n, rfl⟩ : ∃ n : Nat, c = n := ⟨c.toNat, by omega⟩
    have h1 : 1 ≤ n := by omega
    have h2 : n ≤ 5 := by omega
    exact sn_in n st (sx n) es a w h1 h2 ht (hs n (by omega)) (sx_ne n h1 h2) (sx_word n h1 h2) (sx_none n h1 h2)
  · refine (sn_out c st w (by omega)).mono ?_
    rintro e w' ⟨rfl, rfl⟩
    exact ⟨rfl, Below.refl _ _⟩

theorem three {H : Type} {enc : TypeId × Value → H} {W : World} {n0 n1 n2 : String} {gs : List (DataW H)} {q : List MemPlace} (h : DataW.TrodVars enc Tryf.prog W (fun _ => true) [n0, n1, n2] gs q) : ∃ g0 g1 g2, gs = [g0, g1, g2] := by
  cases gs with
  | nil => simp [DataW.TrodVars] at h
  | cons d ds =>
    obtain ⟨g0, t0, cs0, f0, p0, q0, h1, h2, h3, h4, hs, e⟩ := h
    obtain ⟨_, _, _, _, x0, _, _, _, _, _, x1, _, rfl, _⟩ := trodVars_two hs
    exact ⟨_, _, _, rfl⟩

set_option maxRecDepth 100000 in
theorem lifted (os : Os) (started : os.Started) (H : Type) (enc : TypeId × Value → H) :
    ReturnsInTold none {} Tryf.checked os 6 .any Input.okWide ((OpenSpec.ofChange Rows.fnStateTextIsNoErrorCodeSpec).preRow enc Tryf.prog Tryf.f6 [] false Rows.fnStateTextIsNoErrorCodeRow.laid)
      (fun F => ((OpenSpec.ofChange Rows.fnStateTextIsNoErrorCodeSpec).at F).post enc Tryf.prog Tryf.f6 false true false false) (aloneAtReturn Tryf.prog) nothingAlways := by
  refine returnsInTold_of_row (C := Tryf.checked) (s := OpenSpec.ofChange Rows.fnStateTextIsNoErrorCodeSpec) (by kernel_rfl) own started (by kernel_rfl) Tryf.func6
    (OpenSpec.witness_stopped_at (enc := enc) (C := Tryf.checked) false (witWorld Tryf.prog os) #[.int .i64 0, .int .i64 0] rfl (by kernel_rfl) (by kernel_rfl) (by kernel_rfl)
      (OpenSpec.preRow_of_B rfl 8 (by kernel_rfl) (by kernel_rfl) (met_three os _))) ?_
  intro F W base args ds gs before _ hF hval0 hW _ _ _ hL _
  have hval : ∀ (j : Nat) t v, Tryf.f6.params[j]? = some t → args[j]? = some v → Value.okWide Tryf.prog W .any base t v := hval0
  have hW' := hW
  obtain ⟨p, q, hA0, hV0, rfl, hfz, hnd⟩ := hW
  have hA : DataW.TrodAll enc Tryf.prog W 0 (fun _ => true) true Tryf.f6.params.toList args.toList ds p := hA0
  have hV : DataW.TrodVars enc Tryf.prog W (fun _ => true) [nState, nCodes, nErr] gs q := hV0
  rw [Tryf.params6] at hA hval
  obtain ⟨v0, v1, d0, d1, p0, p1, rfl, rfl, rfl, h0, h1⟩ := trodAll_two hA
  obtain ⟨c, rfl, rfl, rfl, wc⟩ := open_int Tryf.underlying22 (hval 0 22 v0 rfl rfl) h0
  obtain ⟨st, rfl, rfl, rfl, wst⟩ := open_int Tryf.underlying26 (hval 1 26 v1 rfl rfl) h1
  obtain ⟨es, a, ht⟩ := tabs_of_laid hL
  have hs := states_of_laid hL.tail.tail
  obtain ⟨g0, g1, g2, rfl⟩ := three hV
  clear hA0 hval0
  refine (walk c st es a W ht hs).mono fun e W' ⟨he, hb⟩ => ?_
  subst he
  refine ⟨_, rfl, _, _, _, [], [] ++ [], q, hW', trodAll_mk1 (shut_bool Tryf.underlying4 _), trodAll_mk2 (shut_int Tryf.underlying22 wc) (shut_int Tryf.underlying26 wst), ?_, hb.frame _, fun h => by cases h⟩
  exact Below.trodVars laidOut hb (by kernel_rfl) hV

theorem proved : Rows.FnStateTextIsNoErrorCodeToldSaid :=
  Claim7.holds_of_told_tied_any_at .later 6 Tryf.f6 "fmt.Sprintf" ["fmt.errorf"] [] _ _ _ _ _ (by kernel_rfl) rfl rfl rfl laidOut (by kernel_rfl) rfl ⟨rfl, rfl, rfl, rfl, rfl, rfl, rfl⟩ rfl rfl (by kernel_rfl) (by kernel_rfl) Tryf.func6 (by kernel_rfl)
    (of_decide_eq_true (by kernel_rfl)) (by unfold Func.isWrapper; first | (rw [if_pos (by decide +kernel)]; kernel_rfl) | (rw [if_neg (by decide +kernel)]; exact ⟨rfl, rfl⟩)) stops.symm rfl stopKnobs.symm (by kernel_rfl)
    (by kernel_rfl) (by kernel_rfl) (by kernel_rfl) (by kernel_rfl) (by kernel_rfl) (by kernel_rfl) (by kernel_rfl) (by kernel_rfl) (by kernel_rfl) rfl (by kernel_rfl) rfl rfl
    rfl rfl
    rfl (by kernel_rfl) (by kernel_rfl) (by kernel_rfl) (by decide) (by kernel_rfl) fnStateTextIsNoErrorCode_row_tie
    (OpenClaim.moreEntering_of (by kernel_rfl) (by kernel_rfl) (by kernel_rfl) (by kernel_rfl) (by kernel_rfl) (by kernel_rfl) (by kernel_rfl) (by kernel_rfl) (by kernel_rfl) (by kernel_rfl))
    ⟨_, WideRow.started_initial, quiet _⟩
    (fun os started _ H enc _ => lifted os started H enc)
#print axioms proved
end Go.Proofs.Qxb6617040aFmt.stateNoCode
