/-
  FnNumberIgnoresTextPastItsEnd: the row.
-/
import Derived.Test.Qxb6617227aRows
import Derived.Test.Qxb6617227aLawI
import Derived.ProofKit
import Derived.OpenShut
import Derived.ShutString
namespace Go.Proofs.Qxb6617227a.ignoresPast
open Go.ChangeShapes Go.WideShapes Go.ChangeAt Go.RowKit
open Go.ChangeMaps (open_string shut_string)
set_option linter.unusedVariables false

theorem own : ownKnob Try.prog.godebug = none := by kernel_rfl

theorem kind_cases (src : ByteArray) (p st q : Nat) : kindOf st = 7 ∨ ((kindOf st = 2 ∨ kindOf st = 3) ∧ txOf src p st q = src.extract p q) := by
  by_cases h : st = 2 ∨ st = 3
  · left; rcases h with rfl | rfl <;> rfl
  · right
    refine ⟨?_, by unfold txOf; rw [if_neg h]⟩
    unfold kindOf
    rw [if_neg h]
    split
    · exact Or.inl rfl
    · exact Or.inr rfl

theorem ext_list {a b : ByteArray} (h : a.data.toList = b.data.toList) : a = b := ByteArray.ext (Array.toList_inj.1 h)

theorem extract_list (s : ByteArray) (i j : Nat) : (s.extract i j).data.toList = (s.data.toList.take j).drop i := by
  simp [List.drop_take]

theorem extract_cut (s : ByteArray) (p q k : Nat) (h : q ≤ k) : (s.extract 0 k).extract p q = s.extract p q := by
  apply ext_list
  rw [extract_list, extract_list, extract_list, List.drop_zero, List.take_take, Nat.min_eq_left h]

theorem cut_drop (l : List UInt8) (p k : Nat) (h : p ≤ k) : (l.take k).drop p = (l.drop p).take (k - p) := by
  rw [List.drop_take]

theorem E_past (l : List UInt8) (p k : Nat) (h : (E l 0 p).2 ≤ k) : E (l.take k) 0 p = E l 0 p := by
  have hp : p ≤ k := Nat.le_trans (E_ge l 0 p) h
  unfold E at h ⊢
  rw [cut_drop l p k hp, run_take_all 0 (l.drop p) (k - p) (by simp at h; omega)]

theorem E_inside (l : List UInt8) (p k : Nat) (hp : p ≤ k) (h : k < (E l 0 p).2) : (E (l.take k) 0 p).2 = k := by
  unfold E at h ⊢
  simp only at h ⊢
  rw [cut_drop l p k hp, run_take_cut 0 (l.drop p) (k - p) (by omega)]
  omega

theorem walk (a0 : ByteArray) (a1 a2 : Int) (w0 : a0.size ≤ maxLen) (w : World) :
    Calls Try.prog 8 #[.string a0, .int .i64 a1, .int .i64 a2] w fun e w' => e = .returned (.bool true) ∧ Below w.heap.size w w' := by
  by_cases h : a0.size ≤ 1048576
  · by_cases hk : 0 ≤ a1 ∧ a1 ≤ (a0.size : Int) ∧ a1 ≤ a2 ∧ a2 ≤ (a0.size : Int)
    · obtain ⟨p, rfl⟩ : ∃ p : Nat, a1 = p := ⟨a1.toNat, by omega⟩
      obtain ⟨k, rfl⟩ : ∃ k : Nat, a2 = k := ⟨a2.toNat, by omega⟩
      have hlen : a0.data.toList.length = a0.size := by simp
      have hle := E_le a0.data.toList 0 p (by omega)
      have hge := E_ge a0.data.toList 0 p
      have hx : Zz a0 p (kindOf (E a0.data.toList 0 p).1) (txOf a0 p (E a0.data.toList 0 p).1 (E a0.data.toList 0 p).2) (E a0.data.toList 0 p).2 := fun w => zz_any a0 p w (by omega) (by omega)
      have hsz : (a0.extract 0 k).size = k := by simp; omega
      have hls : (a0.extract 0 k).data.toList = a0.data.toList.take k := by rw [extract_list, List.drop_zero]
      have hy0 : Zz (a0.extract 0 k) p _ _ _ := fun w => zz_any (a0.extract 0 k) p w (by omega) (by omega)
      rw [hls] at hy0
      by_cases hc : (E a0.data.toList 0 p).2 ≤ k
      · have hy : Zz (a0.extract 0 k) p (kindOf (E a0.data.toList 0 p).1) (txOf a0 p (E a0.data.toList 0 p).1 (E a0.data.toList 0 p).2) (E a0.data.toList 0 p).2 := by
          rw [E_past _ _ _ hc] at hy0
          have e : txOf (a0.extract 0 k) p (E a0.data.toList 0 p).1 (E a0.data.toList 0 p).2 = txOf a0 p (E a0.data.toList 0 p).1 (E a0.data.toList 0 p).2 := by
            unfold txOf
            rw [extract_cut _ _ _ _ hc]
          rw [e] at hy0
          exact hy0
        exact lawI_past a0 _ p _ k _ w h hge hc (by omega) hx hy (kind_cases a0 p _ _)
      · have hin := E_inside a0.data.toList p k (by omega) (by omega)
        rw [hin] at hy0
        refine lawI_inside a0 _ _ p _ k _ _ w h (by omega) (by omega) (by omega) hx hy0 (kind_cases a0 p _ _) ?_
        rcases kind_cases (a0.extract 0 k) p (E (a0.data.toList.take k) 0 p).1 k with h1 | ⟨h1, h2⟩
        · exact Or.inl h1
        · exact Or.inr ⟨h1, by rw [h2, extract_cut _ _ _ _ (Nat.le_refl _)]⟩
    · refine (lawI_out a0 a1 a2 w h (by omega)).mono ?_
      rintro e w' ⟨rfl, rfl⟩
      exact ⟨rfl, Below.refl _ _⟩
  · refine (lawI_great a0 a1 a2 w w0 (by omega)).mono ?_
    rintro e w' ⟨rfl, rfl⟩
    exact ⟨rfl, Below.refl _ _⟩

set_option maxRecDepth 100000 in
theorem lifted (os : Os) (started : os.Started) (H : Type) (enc : TypeId × Value → H) :
    ReturnsInHanded {} Try.checked os 8 .any (Rows.fnNumberIgnoresTextPastItsEndSpec.pre6 enc Try.prog Try.f8 Rows.fnNumberIgnoresTextPastItsEndRow.domain false) (Rows.fnNumberIgnoresTextPastItsEndSpec.post enc Try.prog Try.f8 false true false false) := by
  refine returnsInHanded_of_change (C := Try.checked) own started (by kernel_rfl) Try.func8
    (ChangeSpec.witness6 (enc := enc) (C := Try.checked) false ⟨#[], #[.string ByteArray.empty, .int .i64 0, .int .i64 0], []⟩ 8 (by kernel_rfl) (by kernel_rfl) (by kernel_rfl) (by kernel_rfl)) ?_
  intro W base args ds gs before hval0 hW hcnd _
  have hval : ∀ (j : Nat) t v, Try.f8.params[j]? = some t → args[j]? = some v → Value.okWide Try.prog W .any base t v := hval0
  have hW' := hW
  obtain ⟨p, q, hA0, hV, rfl, hfz, hnd⟩ := hW
  have hA : DataW.TrodAll enc Try.prog W 0 (fun _ => true) true Try.f8.params.toList args.toList ds p := hA0
  rw [Try.params8] at hA hval
  obtain ⟨v0, vs0, d0, ds0, p0, q0, hargs, rfl, rfl, h0, r0⟩ := trodAll_cons hA
  obtain ⟨v1, vs1, d1, ds1, p1, q1, rfl, rfl, rfl, h1, r1⟩ := trodAll_cons r0
  obtain ⟨v2, vs2, d2, ds2, p2, q2, rfl, rfl, rfl, h2, r2⟩ := trodAll_cons r1
  obtain ⟨rfl, rfl, rfl⟩ := trodAll_nil r2
  obtain rfl : args = #[v0, v1, v2] := by cases args; simp_all
  obtain ⟨rfl, rfl⟩ := trodVars_none hV
  obtain ⟨a0, rfl, rfl, rfl, w0⟩ := open_string Try.underlying9 (hval 0 9 v0 rfl rfl) h0
  obtain ⟨a1, rfl, rfl, rfl, w1⟩ := open_int Try.underlying3 (hval 1 3 v1 rfl rfl) h1
  obtain ⟨a2, rfl, rfl, rfl, w2⟩ := open_int Try.underlying3 (hval 2 3 v2 rfl rfl) h2
  clear hA0 hval0
  refine (walk a0 a1 a2 w0 W).mono fun e W' ⟨he, hb⟩ => ?_
  subst he
  exact ⟨_, rfl, _, _, _, [], [] ++ ([] ++ ([] ++ [])), [], hW', trodAll_mk1 (shut_bool Try.underlying4 _), trodAll_cons_mk (shut_string Try.underlying9 w0) (trodAll_cons_mk (shut_int Try.underlying3 w1) (trodAll_cons_mk (shut_int Try.underlying3 w2) trodAll_mk0)), rfl, hb.frame _, fun h => by cases h⟩

theorem proved : Rows.FnNumberIgnoresTextPastItsEndSaid :=
  OpenClaim.holds_of_wide 8 Try.f8 rfl rfl rfl rfl rfl rfl rfl ⟨rfl, rfl, rfl, rfl, rfl⟩ rfl rfl rfl rfl rfl (by kernel_rfl) Try.func8 (by kernel_rfl)
    (of_decide_eq_true (by kernel_rfl)) (by unfold Func.isWrapper; first | (rw [if_pos (by decide +kernel)]; kernel_rfl) | (rw [if_neg (by decide +kernel)]; exact ⟨rfl, rfl⟩))
    (fun os started H enc _ => lifted os started H enc)
#print axioms proved
end Go.Proofs.Qxb6617227a.ignoresPast
