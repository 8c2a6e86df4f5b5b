/-
  THE TOLD AND TIED CARD OF FnErrorCodeUnmarshalTakesExactlyTheTexts.
-/
import Derived.Test.Qxb6617040aFmtPr
import Derived.Test.Qxb6617040aFmtPl
import Derived.Test.Qxb6617040aFmtLb
import Derived.ChangeSlices
import Derived.Carry
namespace Go.Proofs.Qxb6617040aFmt.takesTexts
open Go.ChangeShapes Go.WideShapes Go.ChangeAt Go.RowKit Go.Kit
open Go.ChangeMaps (open_string shut_string)
open Go.Extern.Stop Go.Stop Go.Extern
set_option linter.unusedVariables false

theorem walk (tv : Value) (s : ByteArray) (st : Int) (es : ByteArray) (a : Addr) (w : World) (ht : Tabs es a w) (htx : Txt w.heap.size w tv s) :
    Calls Tryf.prog 5 #[tv, .int .i64 st] w fun e w' => e = .returned (.bool true) ∧ Below w.heap.size w w' := by
  obtain ⟨ao, cap, rfl⟩ := htx.shape
  by_cases hs : s.size ≤ 65536
  · by_cases hx : ∃ j, j < 11 ∧ hit tx s j
    · obtain ⟨j, hj, hh⟩ := hx
      obtain ⟨h1, he⟩ := hit_eq hj hh
      subst he
      exact ut_hit ao cap st (tx j) es a w j h1 (by omega) hs ht htx (tx_ne j h1 (by omega)) hh (tx_first j h1 (by omega)) (ht.texts j hj)
    · have ho : ∀ i, i < 11 → ¬ hit tx s i := fun i hi hh => hx ⟨i, hi, hh⟩
      refine ut_miss tx ao cap st s es a w hs ht htx (by simp) ho ht.texts (fun k hk h1 => tx_ne k h1 (by omega)) (fun k hk h1 => ?_)
      cases hq : ((tx k).toList == s.toList) with
      | false => rfl
      | true => exact absurd ⟨tx_ne k h1 (by omega), hq⟩ (ho k hk)
  · refine (ut_great ao s.size cap st w (by omega)).mono ?_
    rintro e w' ⟨rfl, rfl⟩
    exact ⟨rfl, Below.refl _ _⟩

theorem cell_lt {W : World} {a : Addr} {v : Value} (h : W.cell? a = some v) : a.block < W.heap.size := by
  rcases Nat.lt_or_ge a.block W.heap.size with h' | h'
  · exact h'
  · simp [World.cell?, Array.getElem?_eq_none h'] at h

theorem txt_of_ints {W : World} {a : Addr} {len cap : Nat} {zs : List Int} (hb : len ≤ zs.length) (hcell : ∀ i, i < zs.length → W.cell? (a.add i) = some (.int .u8 (zs.getD i 0))) (hw : ∀ z ∈ zs, (Lit.int .u8 z).wf = true) (hlt : 0 < len → a.block < W.heap.size) :
    Txt W.heap.size W (.slice (some a) len cap) (strOfNums (zs.take len)) := by
  have hl : (strOfNums (zs.take len)).size = len := by rw [strOfNums_size, List.length_take]; omega
  have hsz : (strOfNums (zs.take len)).data.toList.length = (strOfNums (zs.take len)).size := by simp
  refine Or.inr ⟨a, cap, by rw [hl], fun h => hlt (by omega), fun j hj => ?_⟩
  have hj' : j < len := by
    have : (strOfNums (zs.take len)).data.toList.length = (strOfNums (zs.take len)).size := by simp
    omega
  rw [hcell j (by omega)]
  have hz : zs.getD j 0 = zs[j]'(by omega) := by simp [List.getD, List.getElem?_eq_getElem (show j < zs.length by omega)]
  have hbd := bounds_u8 (hw zs[j] (List.getElem_mem (by omega)))
  have he : (strOfNums (zs.take len)).data.toList[j] = UInt8.ofNat (zs[j]).toNat := by simp [strOfNums_data]
  rw [hz, he]
  congr 2
  simp
  omega

set_option maxRecDepth 100000 in
theorem lifted (os : Os) (started : os.Started) (H : Type) (enc : TypeId × Value → H) :
    ReturnsInTold none {} Tryf.checked os 5 .any Input.okWide ((OpenSpec.ofChange Rows.fnErrorCodeUnmarshalTakesExactlyTheTextsSpec).preRow enc Tryf.prog Tryf.f5 [] false Rows.fnErrorCodeUnmarshalTakesExactlyTheTextsRow.laid)
      (fun F => ((OpenSpec.ofChange Rows.fnErrorCodeUnmarshalTakesExactlyTheTextsSpec).at F).post enc Tryf.prog Tryf.f5 false true false false) (aloneAtReturn Tryf.prog) nothingAlways := by
  refine returnsInTold_of_row (C := Tryf.checked) (s := OpenSpec.ofChange Rows.fnErrorCodeUnmarshalTakesExactlyTheTextsSpec) (by kernel_rfl) own started (by kernel_rfl) Tryf.func5
    (OpenSpec.witness_stopped_at (enc := enc) (C := Tryf.checked) false (witWorld Tryf.prog os) #[.slice none 0 0, .int .i64 0] rfl (by kernel_rfl) (by kernel_rfl) (by kernel_rfl)
      (OpenSpec.preRow_of_B rfl 8 (by kernel_rfl) (by kernel_rfl) (met_two os _))) ?_
  intro F W base args ds gs before _ hF hval0 hW _ _ _ hL _
  have hval : ∀ (j : Nat) t v, Tryf.f5.params[j]? = some t → args[j]? = some v → Value.okWide Tryf.prog W .any base t v := hval0
  have hW' := hW
  obtain ⟨p, q, hA0, hV0, rfl, hfz, hnd⟩ := hW
  have hA : DataW.TrodAll enc Tryf.prog W 0 (fun _ => true) true Tryf.f5.params.toList args.toList ds p := hA0
  have hV : DataW.TrodVars enc Tryf.prog W (fun _ => true) [nCodes, nErr] gs q := hV0
  rw [Tryf.params5] at hA hval
  obtain ⟨v0, v1, d0, d1, p0, p1, rfl, rfl, rfl, h0, h1⟩ := trodAll_two hA
  obtain ⟨a0, len, cap, rfl⟩ := okWide_slice Tryf.underlying30 (hval 0 30 v0 rfl rfl)
  obtain ⟨st, rfl, rfl, rfl, wst⟩ := open_int Tryf.underlying26 (hval 1 26 v1 rfl rfl) h1
  have h0k := h0
  obtain ⟨fuel, hf⟩ := h0
  obtain ⟨es, a, ht⟩ := tabs_of_laid hL
  obtain ⟨_, _, _, _, g0, _, _, _, _, _, g1, _, rfl, _⟩ := trodVars_two hV
  clear hA0 hval0
  have hlt : ∀ x ∈ p0, x.block < W.heap.size := fun x hx => by simpa using hW'.lt x (by simp [hx])
  have hargs : ∀ (W' : World), Below W.heap.size W W' → DataW.Trod enc Tryf.prog W' 0 (fun b => decide (b < W.heap.size)) true 30 (.slice a0 len cap) d0 p0 :=
    fun W' hn => Below.trod laidOut (by kernel_rfl) (of_decide_eq_true (by kernel_rfl)) h0k hn hlt
  have htx : ∃ s, Txt W.heap.size W (.slice a0 len cap) s := by
    rcases open_ints Tryf.underlying30 Tryf.underlying5 (by kernel_rfl) hf with ⟨hcs, hx⟩ | ⟨a, len', cap', zs, hcs, hab, hl, hm, hz, hx, hcell, hwz⟩
    · simp [Value.cells] at hcs
      obtain ⟨rfl, rfl, rfl⟩ := hcs
      exact ⟨_, Or.inl ⟨rfl, rfl⟩⟩
    · simp [Value.cells] at hcs
      obtain ⟨rfl, rfl, rfl⟩ := hcs
      simp only [if_true] at hz
      refine ⟨_, txt_of_ints (by omega) hcell hwz (fun h => ?_)⟩
      have := cell_lt (hcell 0 (by omega))
      simpa [Addr.add] using this
  obtain ⟨s, htx⟩ := htx
  refine (walk _ s st es a W ht htx).mono fun e W' ⟨he, hb⟩ => ?_
  subst he
  refine ⟨_, rfl, _, _, _, [], p0 ++ [], q, hW', trodAll_mk1 (shut_bool Tryf.underlying4 _), trodAll_mk2 (hargs _ hb) (shut_int Tryf.underlying26 wst), ?_, hb.frame _, fun h => by cases h⟩
  exact Below.trodVars laidOut hb (by kernel_rfl) hV

theorem proved : Rows.FnErrorCodeUnmarshalTakesExactlyTheTextsToldSaid :=
  Claim7.holds_of_told_tied_any_at .later 5 Tryf.f5 "fmt.Sprintf" ["fmt.errorf"] [] _ _ _ _ _ (by kernel_rfl) rfl rfl rfl laidOut (by kernel_rfl) rfl ⟨rfl, rfl, rfl, rfl, rfl, rfl, rfl⟩ rfl rfl (by kernel_rfl) (by kernel_rfl) Tryf.func5 (by kernel_rfl)
    (of_decide_eq_true (by kernel_rfl)) (by unfold Func.isWrapper; first | (rw [if_pos (by decide +kernel)]; kernel_rfl) | (rw [if_neg (by decide +kernel)]; exact ⟨rfl, rfl⟩)) stops.symm rfl stopKnobs.symm (by kernel_rfl)
    (by kernel_rfl) (by kernel_rfl) (by kernel_rfl) (by kernel_rfl) (by kernel_rfl) (by kernel_rfl) (by kernel_rfl) (by kernel_rfl) (by kernel_rfl) rfl (by kernel_rfl) rfl rfl
    rfl rfl
    rfl (by kernel_rfl) (by kernel_rfl) (by kernel_rfl) (by decide) (by kernel_rfl) fnErrorCodeUnmarshalTakesExactlyTheTexts_row_tie
    (OpenClaim.moreEntering_of (by kernel_rfl) (by kernel_rfl) (by kernel_rfl) (by kernel_rfl) (by kernel_rfl) (by kernel_rfl) (by kernel_rfl) (by kernel_rfl) (by kernel_rfl) (by kernel_rfl))
    ⟨_, WideRow.started_initial, quiet _⟩
    (fun os started _ H enc _ => lifted os started H enc)
#print axioms proved
end Go.Proofs.Qxb6617040aFmt.takesTexts
