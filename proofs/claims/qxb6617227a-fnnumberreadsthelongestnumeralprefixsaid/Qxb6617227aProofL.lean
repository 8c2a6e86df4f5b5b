/-
  FnNumberReadsTheLongestNumeralPrefix: the row.
-/
import Derived.Test.Qxb6617227aRows
import Derived.Test.Qxb6617227aLawL
import Derived.ProofKit
import Derived.OpenShut
import Derived.ShutString
namespace Go.Proofs.Qxb6617227a.longestPrefix
open Go.ChangeShapes Go.WideShapes Go.ChangeAt Go.RowKit
open Go.ChangeMaps (open_string shut_string)
set_option linter.unusedVariables false

theorem own : ownKnob Try.prog.godebug = none := by kernel_rfl

theorem extract_list (s : ByteArray) (i j : Nat) : (s.extract i j).data.toList = (s.data.toList.drop i).take (j - i) := by
  simp

theorem walk (a0 : ByteArray) (a1 : Int) (w0 : a0.size ≤ maxLen) (w : World) :
    Calls Try.prog 7 #[.string a0, .int .i64 a1] w fun e w' => e = .returned (.bool true) ∧ Below w.heap.size w w' := by
  by_cases h : a0.size ≤ 1048576
  · by_cases hk : 0 ≤ a1 ∧ a1 ≤ (a0.size : Int)
    · obtain ⟨p, rfl⟩ : ∃ p : Nat, a1 = p := ⟨a1.toNat, by omega⟩
      have hlen : a0.data.toList.length = a0.size := by simp
      have hle := E_le a0.data.toList 0 p (by omega)
      have hge := E_ge a0.data.toList 0 p
      have hx : Zn a0 p (kindOf (E a0.data.toList 0 p).1) (txOf a0 p (E a0.data.toList 0 p).1 (E a0.data.toList 0 p).2) (E a0.data.toList 0 p).2 := fun w => zz_any a0 p w (by omega) (by omega)
      have e1 : (E a0.data.toList 0 p).1 = (run 0 (a0.data.toList.drop p)).1 := rfl
      have e2 : (E a0.data.toList 0 p).2 = p + (run 0 (a0.data.toList.drop p)).2 := rfl
      have hf := fin_of_run 0 (a0.data.toList.drop p)
      have hf2 := fin_past_run 0 (a0.data.toList.drop p)
      rw [← e1] at hf
      obtain ⟨st, hst⟩ : ∃ st, st = (E a0.data.toList 0 p).1 := ⟨_, rfl⟩
      obtain ⟨q, hq⟩ : ∃ q, q = (E a0.data.toList 0 p).2 := ⟨_, rfl⟩
      rw [← hst, ← hq] at hx
      rw [← hst] at hf
      rw [← hq] at hle hge e2
      have hn : (run 0 (a0.data.toList.drop p)).2 = q - p := by omega
      rw [hn] at hf hf2
      have hl : (a0.extract p q).data.toList = (a0.data.toList.drop p).take (q - p) := extract_list a0 p q
      have hfin : fin 0 (a0.extract p q).data.toList = some st := by rw [hl]; exact hf
      have hv := viab_some hfin
      have hsz : (a0.extract p q).size ≤ a0.size := by simp; omega
      have hsh : Sh (a0.extract p q) true (decide (st ≠ 2) && decide (st ≠ 3)) := by
        intro w
        have := shape_any (a0.extract p q) w (by omega)
        rw [hv.1, hv.2] at this
        exact this
      have hm : q < a0.size → Sh (a0.extract p (q + 1)) false false := by
        intro hlt w
        have hsz2 : (a0.extract p (q + 1)).size ≤ a0.size := by simp; omega
        have := shape_any (a0.extract p (q + 1)) w (by omega)
        have hd : fin 0 (a0.extract p (q + 1)).data.toList = none := by
          rw [extract_list, show q + 1 - p = q - p + 1 from by omega]
          exact hf2 (by rw [List.length_drop]; omega)
        have hv2 := viab_none hd
        rw [hv2.1, hv2.2] at this
        exact this
      by_cases hbad : st = 2 ∨ st = 3
      · have hw : (decide (st ≠ 2) && decide (st ≠ 3)) = false := by rcases hbad with rfl | rfl <;> rfl
        have hk7 : kindOf st = 7 ∧ txOf a0 p st q = badMsg := by
          refine ⟨?_, by unfold txOf; rw [if_pos hbad]⟩
          rcases hbad with rfl | rfl <;> rfl
        rw [hw] at hsh
        rw [hk7.1, hk7.2] at hx
        exact lawL_bad a0 p q false w h hge (by omega) hx hsh hm
      · have hw : (decide (st ≠ 2) && decide (st ≠ 3)) = true := by simp; omega
        have ht : txOf a0 p st q = a0.extract p q := by unfold txOf; rw [if_neg hbad]
        rw [hw] at hsh
        rw [ht] at hx
        have hp : Pe (a0.extract p q) (decide (st ≠ 0)) := by
          intro w
          have := has_any (a0.extract p q) w (by omega)
          rw [poe_state _ st hfin] at this
          exact this
        refine lawL_good a0 p q _ _ false w h hge (by omega) hx hsh hm hp ?_
        by_cases h0 : st = 0
        · subst h0; exact Or.inr ⟨rfl, rfl⟩
        · refine Or.inl ⟨by simp [h0], ?_⟩
          unfold kindOf
          rw [if_neg h0, if_neg hbad]
    · refine (lawL_out a0 a1 w h (by omega)).mono ?_
      rintro e w' ⟨rfl, rfl⟩
      exact ⟨rfl, Below.refl _ _⟩
  · refine (lawL_great a0 a1 w w0 (by omega)).mono ?_
    rintro e w' ⟨rfl, rfl⟩
    exact ⟨rfl, Below.refl _ _⟩

set_option maxRecDepth 100000 in
theorem lifted (os : Os) (started : os.Started) (H : Type) (enc : TypeId × Value → H) :
    ReturnsInHanded {} Try.checked os 7 .any (Rows.fnNumberReadsTheLongestNumeralPrefixSpec.pre6 enc Try.prog Try.f7 Rows.fnNumberReadsTheLongestNumeralPrefixRow.domain false) (Rows.fnNumberReadsTheLongestNumeralPrefixSpec.post enc Try.prog Try.f7 false true false false) := by
  refine returnsInHanded_of_change (C := Try.checked) own started (by kernel_rfl) Try.func7
    (ChangeSpec.witness6 (enc := enc) (C := Try.checked) false ⟨#[], #[.string ByteArray.empty, .int .i64 0], []⟩ 8 (by kernel_rfl) (by kernel_rfl) (by kernel_rfl) (by kernel_rfl)) ?_
  intro W base args ds gs before hval0 hW hcnd _
  have hval : ∀ (j : Nat) t v, Try.f7.params[j]? = some t → args[j]? = some v → Value.okWide Try.prog W .any base t v := hval0
  have hW' := hW
  obtain ⟨p, q, hA0, hV, rfl, hfz, hnd⟩ := hW
  have hA : DataW.TrodAll enc Try.prog W 0 (fun _ => true) true Try.f7.params.toList args.toList ds p := hA0
  rw [Try.params7] at hA hval
  obtain ⟨v0, vs0, d0, ds0, p0, q0, hargs, rfl, rfl, h0, r0⟩ := trodAll_cons hA
  obtain ⟨v1, vs1, d1, ds1, p1, q1, rfl, rfl, rfl, h1, r1⟩ := trodAll_cons r0
  obtain ⟨rfl, rfl, rfl⟩ := trodAll_nil r1
  obtain rfl : args = #[v0, v1] := by cases args; simp_all
  obtain ⟨rfl, rfl⟩ := trodVars_none hV
  obtain ⟨a0, rfl, rfl, rfl, w0⟩ := open_string Try.underlying9 (hval 0 9 v0 rfl rfl) h0
  obtain ⟨a1, rfl, rfl, rfl, w1⟩ := open_int Try.underlying3 (hval 1 3 v1 rfl rfl) h1
  clear hA0 hval0
  refine (walk a0 a1 w0 W).mono fun e W' ⟨he, hb⟩ => ?_
  subst he
  exact ⟨_, rfl, _, _, _, [], [] ++ ([] ++ []), [], hW', trodAll_mk1 (shut_bool Try.underlying4 _), trodAll_cons_mk (shut_string Try.underlying9 w0) (trodAll_cons_mk (shut_int Try.underlying3 w1) trodAll_mk0), rfl, hb.frame _, fun h => by cases h⟩

theorem proved : Rows.FnNumberReadsTheLongestNumeralPrefixSaid :=
  OpenClaim.holds_of_wide 7 Try.f7 rfl rfl rfl rfl rfl rfl rfl ⟨rfl, rfl, rfl, rfl, rfl⟩ rfl rfl rfl rfl rfl (by kernel_rfl) Try.func7 (by kernel_rfl)
    (of_decide_eq_true (by kernel_rfl)) (by unfold Func.isWrapper; first | (rw [if_pos (by decide +kernel)]; kernel_rfl) | (rw [if_neg (by decide +kernel)]; exact ⟨rfl, rfl⟩))
    (fun os started H enc _ => lifted os started H enc)
#print axioms proved
end Go.Proofs.Qxb6617227a.longestPrefix
