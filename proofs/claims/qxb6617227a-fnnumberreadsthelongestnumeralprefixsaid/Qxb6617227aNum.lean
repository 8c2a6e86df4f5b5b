/-
  The walk of (*lexer).number.
-/
import Derived.Test.Qxb6617227aDig
import Derived.Deep.DeepCutAuto
import Derived.Deep.RegionWith
namespace Go.Proofs.Qxb6617227a
open Go.RowKit
set_option linter.unusedVariables false

/-- Does the byte at q, if there is one, pass the test f? -/
def tB (f : UInt8 → Bool) (src : ByteArray) (q : Nat) : Bool := match src.data.toList[q]? with | some c => f c | none => false
theorem tB_at {f : UInt8 → Bool} {src : ByteArray} {q : Nat} (h : q < src.size) : tB f src q = f src[q] := by
  unfold tB
  rw [List.getElem?_eq_getElem (by simpa using h)]
  rfl
theorem tB_end {f : UInt8 → Bool} {src : ByteArray} {q : Nat} (h : src.size ≤ q) : tB f src q = false := by
  unfold tB
  rw [List.getElem?_eq_none (by simpa using h)]

/-- The token at block bt: four cells that may be written. -/
structure Tk (bt : Nat) (w : World) : Prop where
  d0 : ∃ t, w.cell? ⟨bt, 0, none⟩ = some t
  d1 : ∃ t, w.cell? ⟨bt, 1, none⟩ = some t
  d2 : ∃ t, w.cell? ⟨bt, 2, none⟩ = some t
  d3 : ∃ t, w.cell? ⟨bt, 3, none⟩ = some t
  f0 : w.frozen? ⟨bt, 0, none⟩ = false
  f1 : w.frozen? ⟨bt, 1, none⟩ = false
  f2 : w.frozen? ⟨bt, 2, none⟩ = false
  f3 : w.frozen? ⟨bt, 3, none⟩ = false

theorem Tk.only {bl bt : Nat} {w w' : World} (h : Tk bt w) (ho : Only bl w w') (hne : bt ≠ bl) : Tk bt w' where
  d0 := by rw [ho.cell (p := ⟨bt, 0, none⟩) hne]; exact h.d0
  d1 := by rw [ho.cell (p := ⟨bt, 1, none⟩) hne]; exact h.d1
  d2 := by rw [ho.cell (p := ⟨bt, 2, none⟩) hne]; exact h.d2
  d3 := by rw [ho.cell (p := ⟨bt, 3, none⟩) hne]; exact h.d3
  f0 := by rw [ho.frozen (p := ⟨bt, 0, none⟩) hne]; exact h.f0
  f1 := by rw [ho.frozen (p := ⟨bt, 1, none⟩) hne]; exact h.f1
  f2 := by rw [ho.frozen (p := ⟨bt, 2, none⟩) hne]; exact h.f2
  f3 := by rw [ho.frozen (p := ⟨bt, 3, none⟩) hne]; exact h.f3

/-- What number leaves: the lexer at q; the token; of memory the two blocks alone may have turned. -/
structure Done (bl bt : Nat) (src : ByteArray) (p : Nat) (kd : Int) (tx : ByteArray) (q : Nat) (w w' : World) : Prop where
  mid : ∃ w1, Only bl w w1 ∧ Lx bl src q w1 ∧ Only bt w1 w'
  k0 : w'.cell? ⟨bt, 0, none⟩ = some (.int .u8 kd)
  k1 : w'.cell? ⟨bt, 1, none⟩ = some (.string tx)
  k2 : w'.cell? ⟨bt, 2, none⟩ = some (.int .i64 (p : Int))
  k3 : w'.cell? ⟨bt, 3, none⟩ = some (.int .i64 (q : Int))

theorem token_done (bl bt : Nat) (src : ByteArray) (p q : Nat) (kd : Int) (tx : ByteArray) (w w1 : World) (hne : bl ≠ bt) (hl : Lx bl src q w1) (ho : Only bl w w1) (ht : Tk bt w) :
    Calls Try.prog 32 #[.pointer (some ⟨bl, 0, none⟩), .pointer (some ⟨bt, 0, none⟩), .int .u8 kd, .string tx, .int .i64 (p : Int)] w1 fun e w' => e = .returned (.tuple #[]) ∧ Done bl bt src p kd tx q w w' := by
  have h := ht.only ho (Ne.symm hne)
  obtain ⟨t0, d0⟩ := h.d0
  obtain ⟨t1, d1⟩ := h.d1
  obtain ⟨t2, d2⟩ := h.d2
  obtain ⟨t3, d3⟩ := h.d3
  refine (token_any bl bt src q kd tx p t0 t1 t2 t3 w1 hne hl d0 d1 d2 d3 h.f0 h.f1 h.f2 h.f3).mono ?_
  rintro e w' ⟨rfl, h1, h2, h3, h4, h5⟩
  exact ⟨rfl, ⟨w1, ho, hl, h1⟩, h2, h3, h4, h5⟩

/-- The text of a token that ends at q in state st. -/
def txOf (src : ByteArray) (p : Nat) (st q : Nat) : ByteArray := if st = 2 ∨ st = 3 then badMsg else src.extract p q

theorem Lx.drew {bl : Nat} {src : ByteArray} {r : Nat} {w : World} (h : Lx bl src r w) : Lx bl src r w.drew := ⟨h.c0, h.c1, h.fz⟩
theorem Only.drew {bl : Nat} {a w : World} (h : Only bl a w) : Only bl a w.drew := ⟨h.os, h.tape, h.output, h.size, h.block⟩

theorem step2_none (c : UInt8) (h1 : dg c = false) (h2 : isS c = false) : step 2 c = none := by simp [step, h1, h2]
theorem step3_none (c : UInt8) (h1 : dg c = false) : step 3 c = none := by simp [step, h1]

theorem isE_yes1 (src : ByteArray) (q : Nat) (h : q < src.size) (h1 : ((src[q].toNat : Int) == 101) = true) : tB isE src q = true := by
  rw [tB_at h]; simp [isE] at h1 ⊢; omega
theorem isE_two (src : ByteArray) (q : Nat) (h : q < src.size) (h1 : ((src[q].toNat : Int) == 101) = false) : ((src[q].toNat : Int) == 69) = tB isE src q := by
  rw [tB_at h, Bool.eq_iff_iff]; simp [isE] at h1 ⊢; omega
theorem isS_yes1 (src : ByteArray) (q : Nat) (h : q < src.size) (h1 : ((src[q].toNat : Int) == 43) = true) : tB isS src q = true := by
  rw [tB_at h]; simp [isS] at h1 ⊢; omega
theorem isS_two (src : ByteArray) (q : Nat) (h : q < src.size) (h1 : ((src[q].toNat : Int) == 43) = false) : ((src[q].toNat : Int) == 45) = tB isS src q := by
  rw [tB_at h, Bool.eq_iff_iff]; simp [isS] at h1 ⊢; omega
theorem bool_cases (b : Bool) : b = true ∨ b = false := by cases b <;> simp
theorem tB_lt {f : UInt8 → Bool} {src : ByteArray} {q : Nat} (h : tB f src q = true) : q < src.size := by
  rcases Nat.lt_or_ge q src.size with h' | h'
  · exact h'
  · rw [tB_end h'] at h; cases h

theorem tB_isP (src : ByteArray) (q : Nat) (h : q < src.size) : ((src[q].toNat : Int) == 46) = tB isP src q := by
  rw [tB_at h, Bool.eq_iff_iff]
  simp [isP]
  omega

/-- digits at a place r, its end under a name. -/
theorem digits_at (bl : Nat) (src : ByteArray) (r : Nat) (hs : src.size ≤ 1073741824) (hr : r ≤ src.size) :
    ∃ q : Nat, q = dgEnd src.data.toList r ∧ r ≤ q ∧ q ≤ src.size ∧ tB dg src q = false ∧
      (∀ w, Lx bl src r w → Calls Try.prog 31 #[.pointer (some ⟨bl, 0, none⟩)] w fun e w' => e = .returned (.bool (decide (r < q))) ∧ Lx bl src q w' ∧ Only bl w w') := by
  refine ⟨_, rfl, dgEnd_ge _ _, by simpa using dgEnd_le src.data.toList r (by simpa using hr), ?_, fun w h => digits_any bl src r w hs hr h⟩
  by_cases h : dgEnd src.data.toList r < src.size
  · rw [tB_at h]; exact dgEnd_not _ _ (by simpa using h)
  · exact tB_end (by omega)

theorem Lx.next {bl : Nat} {src : ByteArray} {r : Nat} {w : World} (h : Lx bl src r w) : Lx bl src (r + 1) (w.setCell ⟨bl, 1, none⟩ (.int .i64 ((r : Int) + 1))) := by
  have := h.put (r + 1)
  rwa [show ((r + 1 : Nat) : Int) = (r : Int) + 1 from by omega] at this

set_option maxRecDepth 100000 in
set_option maxHeartbeats 3200000 in
theorem number_any (bl bt : Nat) (src : ByteArray) (p : Nat) (w : World) (hs : src.size ≤ 1073741824) (hp : p ≤ src.size) (hne : bl ≠ bt) (hl : Lx bl src p w) (ht : Tk bt w) :
    Calls Try.prog 27 #[.pointer (some ⟨bl, 0, none⟩), .pointer (some ⟨bt, 0, none⟩)] w fun e w' => e = .returned (.tuple #[]) ∧
      Done bl bt src p (kindOf (E src.data.toList 0 p).1) (txOf src p (E src.data.toList 0 p).1 (E src.data.toList 0 p).2) (E src.data.toList 0 p).2 w w' := by
  have c0 := hl.c0
  have c1 := hl.c1
  have HL : Hid (Lx bl src p w) := hl
  have HT : Hid (Tk bt w) := ht
  obtain ⟨q1, hq1, hge, hle, hn1, hd1⟩ := digits_at bl src p hs hp
  have HD1 : Hid (∀ w, Lx bl src p w → Calls Try.prog 31 #[.pointer (some ⟨bl, 0, none⟩)] w fun e w' => e = .returned (.bool (decide (p < q1))) ∧ Lx bl src q1 w' ∧ Only bl w w') := hd1
  have HE1 : Hid (E src.data.toList 0 p = E src.data.toList 0 q1) := by
    show E src.data.toList 0 p = E src.data.toList 0 q1
    rw [hq1]; exact E_digits0 _ _
  have HN1 : Hid (tB dg src q1 = false) := hn1
  clear hl ht hq1 hn1 hd1
  go_enter Try.func27, Try.ntmps27
  go_wp2_with (go_at_call 31; refine (HD1.out _ HL.out).mono ?_; rintro e w1 ⟨rfl, hl1, ho1⟩)
  have HL1 : Hid (Lx bl src q1 w1) := hl1
  have HO1 : Hid (Only bl w w1) := ho1
  have e0 := hl1.c0
  have e1 := hl1.c1
  have e2 := hl1.fz
  clear hl1 ho1 c0 c1
  go_cut [33] (fun b wx => ∃ n, b = .bool (tB isP src q1) ∧ wx = w1.drewN n)
  case first =>
    by_cases hlt : q1 < src.size
    · have hlt' : (q1 : Int) < (src.size : Int) := by omega
      go_quiet (fail)
      go_wp2
      go_meet
      case rel => exact ⟨_, by rw [tB_isP src q1 hlt], rfl⟩
    · have hge' : decide ((q1 : Int) < (src.size : Int)) = false := by simp; omega
      go_quiet (fail)
      go_wp2
      go_meet
      case rel => exact ⟨_, by rw [tB_end (by omega)], rfl⟩
  case rest =>
    obtain ⟨n1, rfl, rfl⟩ := hcut
    go_upto_if 33 with fail
    go_cut [5] (fun kd wx => ∃ st q : Nat, kd = .int .u8 (kindOf st) ∧ (st = 0 ∨ st = 1) ∧ p ≤ q ∧ q ≤ src.size ∧ Hid (Lx bl src q wx) ∧ Hid (Only bl w wx) ∧ Hid (E src.data.toList 0 p = E src.data.toList st q) ∧ Hid (tB dg src q = false) ∧ Hid (st = 0 → tB isP src q = false))
    case first =>
      by_cases hb : tB isP src q1 = true
      · have hlt : q1 < src.size := by
          rcases Nat.lt_or_ge q1 src.size with h | h
          · exact h
          · rw [tB_end h] at hb; cases hb
        obtain ⟨q2, hq2, hge2, hle2, hn2, hd2⟩ := digits_at bl src (q1 + 1) hs (by omega)
        have HD2 : Hid (∀ w, Lx bl src (q1 + 1) w → Calls Try.prog 31 #[.pointer (some ⟨bl, 0, none⟩)] w fun e w' => e = .returned (.bool (decide (q1 + 1 < q2))) ∧ Lx bl src q2 w' ∧ Only bl w w') := hd2
        have HE2 : Hid (E src.data.toList 0 p = E src.data.toList 1 q2) := by
          show E src.data.toList 0 p = E src.data.toList 1 q2
          rw [HE1.out, E_step (st' := 1) (by simpa using hlt) ?_, E_digits1, ← hq2]
          have h1 := HN1.out
          rw [tB_at hlt] at h1 hb
          show step 0 src[q1] = some 1
          simp [step, h1, hb]
        have HN2 : Hid (tB dg src q2 = false) := hn2
        clear hq2 hn2 hd2
        rw [hb]
        clear hb
        go_wp2_with (go_at_call 31; refine (HD2.out _ (HL1.out.drewN n1).next).mono ?_; rintro e w2 ⟨rfl, hl2, ho2⟩)
        have HL2 : Hid (Lx bl src q2 w2) := hl2
        have HO2 : Hid (Only bl w w2) := ((HO1.out.drewN n1).setCell 1 _).trans ho2
        clear hl2 ho2
        go_wp2
        go_meet
        case rel => exact ⟨1, q2, rfl, Or.inr rfl, by omega, hle2, HL2, HO2, HE2, HN2, fun h => by cases h⟩
      · have hb' : tB isP src q1 = false := by simpa using hb
        have HBB : Hid (tB isP src q1 = false) := hb'
        rw [hb']
        clear hb hb'
        go_wp2
        go_meet
        case rel => exact ⟨0, q1, rfl, Or.inl rfl, hge, hle, HL1.out.drewN n1, HO1.out.drewN n1, HE1, HN1, fun _ => HBB.out⟩
    case rest =>
      obtain ⟨st, q, rfl, hst, hpq, hqs, HLq, HOq, HEq, HNq, HPq⟩ := hcut
      clear e0 e1 e2
      have g0 := HLq.out.c0
      have g1 := HLq.out.c1
      have g2 := HLq.out.fz
      obtain ⟨w2, hw2⟩ : ∃ w2, w2 = wc := ⟨_, rfl⟩
      subst hw2
      go_wp2_with fail
      go_cut [76] (fun b wx => ∃ n, b = .bool (tB isE src q) ∧ wx = w2.drewN n)
      case first =>
        by_cases hlt : q < src.size
        · have hlt' : (q : Int) < (src.size : Int) := by omega
          rcases bool_cases ((src[q].toNat : Int) == 101) with h1 | h1
          · have HB := isE_yes1 src q hlt h1
            have HB' : Hid (tB isE src q = true) := HB
            clear HB
            go_quiet (fail)
            go_wp2
            go_meet
            case rel => exact ⟨_, by rw [HB'.out], rfl⟩
          · have HB : Hid (((src[q].toNat : Int) == 69) = tB isE src q) := isE_two src q hlt h1
            go_quiet (fail)
            go_wp2
            go_meet
            case rel => exact ⟨_, by rw [HB.out], rfl⟩
        · have hge' : decide ((q : Int) < (src.size : Int)) = false := by simp; omega
          go_quiet (fail)
          go_wp2
          go_meet
          case rel => exact ⟨_, by rw [tB_end (by omega)], rfl⟩
      case rest =>
        obtain ⟨n2, rfl, rfl⟩ := hcut
        rcases bool_cases (tB isE src q) with hb | hb
        · rw [hb]
          have HB : Hid (tB isE src q = true) := hb
          have hlt : q < src.size := tB_lt hb
          clear hb
          go_wp2_with fail
          have HL3 : Hid (Lx bl src (q + 1) ((w2.drewN n2).setCell ⟨bl, 1, none⟩ (.int .i64 ((q : Int) + 1)))) := (HLq.out.drewN n2).next
          have HO3 : Hid (Only bl w ((w2.drewN n2).setCell ⟨bl, 1, none⟩ (.int .i64 ((q : Int) + 1)))) := (HOq.out.drewN n2).setCell 1 _
          obtain ⟨w3, hw3⟩ : ∃ w3, w3 = (w2.drewN n2).setCell ⟨bl, 1, none⟩ (.int .i64 ((q : Int) + 1)) := ⟨_, rfl⟩
          rw [← hw3] at HL3 HO3 ⊢
          clear hw3 g0 g1 g2
          obtain ⟨r, hr⟩ : ∃ r, r = q + 1 := ⟨_, rfl⟩
          rw [← hr] at HL3
          have hr1 : p ≤ r := by omega
          have hr2 : r ≤ src.size := by omega
          have HE3 : Hid (E src.data.toList 0 p = E src.data.toList 2 r) := by
            show E src.data.toList 0 p = E src.data.toList 2 r
            rw [HEq.out, hr]
            have h1 := HNq.out
            have h2 := HPq.out
            have h3 := HB.out
            rw [tB_at hlt] at h1 h2 h3
            refine E_step (by simpa using hlt) ?_
            show step st src[q] = some 2
            rcases hst with rfl | rfl
            · simp [step, h1, h2 rfl, h3]
            · simp [step, h1, h3]
          clear hr HB HLq HOq HEq HNq HPq hlt
          have k0 := HL3.out.c0
          have k1 := HL3.out.c1
          have k2 := HL3.out.fz
          go_cut [117] (fun b wx => ∃ n, b = .bool (tB isS src r) ∧ wx = w3.drewN n)
          case first =>
            by_cases hlt2 : r < src.size
            · have hlt' : (r : Int) < (src.size : Int) := by omega
              rcases bool_cases ((src[r].toNat : Int) == 43) with h1 | h1
              · have HB' : Hid (tB isS src r = true) := isS_yes1 src r hlt2 h1
                go_quiet (fail)
                go_wp2
                go_meet
                case rel => exact ⟨_, by rw [HB'.out], rfl⟩
              · have HB : Hid (((src[r].toNat : Int) == 45) = tB isS src r) := isS_two src r hlt2 h1
                go_quiet (fail)
                go_wp2
                go_meet
                case rel => exact ⟨_, by rw [HB.out], rfl⟩
            · have hge' : decide ((r : Int) < (src.size : Int)) = false := by simp; omega
              go_quiet (fail)
              go_wp2
              go_meet
              case rel => exact ⟨_, by rw [tB_end (by omega)], rfl⟩
          case rest =>
            obtain ⟨n3, rfl, rfl⟩ := hcut
            go_upto_if 117 with fail
            go_cut [] (fun wx => ∃ st r4 : Nat, (st = 2 ∨ st = 3) ∧ p ≤ r4 ∧ r4 ≤ src.size ∧ Hid (Lx bl src r4 wx) ∧ Hid (Only bl w wx) ∧ Hid (E src.data.toList 0 p = E src.data.toList st r4) ∧ Hid (st = 2 → tB isS src r4 = false))
            case first =>
              rcases bool_cases (tB isS src r) with hb | hb
              · rw [hb]
                have hlt2 : r < src.size := tB_lt hb
                have HE4 : Hid (E src.data.toList 0 p = E src.data.toList 3 (r + 1)) := by
                  show E src.data.toList 0 p = E src.data.toList 3 (r + 1)
                  rw [HE3.out]
                  rw [tB_at hlt2] at hb
                  refine E_step (by simpa using hlt2) ?_
                  show step 2 src[r] = some 3
                  have hdn : dg src[r] = false := by
                    simp [isS] at hb
                    simp [dg]
                    omega
                  simp [step, hdn, hb]
                clear hb
                go_wp2
                go_meet
                case rel => exact ⟨3, r + 1, Or.inr rfl, by omega, by omega, (HL3.out.drewN n3).next, (HO3.out.drewN n3).setCell 1 _, HE4, fun h => by cases h⟩
              · rw [hb]
                have HBB : Hid (tB isS src r = false) := hb
                clear hb
                go_wp2
                go_meet
                case rel => exact ⟨2, r, Or.inl rfl, hr1, hr2, HL3.out.drewN n3, HO3.out.drewN n3, HE3, fun _ => HBB.out⟩
            case rest =>
              obtain ⟨st4, r4, hst4, h41, h42, HL4, HO4, HE4, HS4⟩ := hcut
              clear k0 k1 k2
              obtain ⟨w4, hw4⟩ : ∃ w4, w4 = wc := ⟨_, rfl⟩
              subst hw4
              obtain ⟨q5, hq5, hge5, hle5, hn5, hd5⟩ := digits_at bl src r4 hs h42
              have HD5 : Hid (∀ w, Lx bl src r4 w → Calls Try.prog 31 #[.pointer (some ⟨bl, 0, none⟩)] w fun e w' => e = .returned (.bool (decide (r4 < q5))) ∧ Lx bl src q5 w' ∧ Only bl w w') := hd5
              have HQ5 : Hid (q5 = dgEnd src.data.toList r4) := hq5
              clear hd5 hn5 hq5
              by_cases hx : r4 < q5
              · have HF : Hid (E src.data.toList 0 p = (4, q5)) := by
                  show E src.data.toList 0 p = (4, q5)
                  rw [HE4.out, HQ5.out]
                  refine E_exp_some _ _ _ ?_ (by simpa using h42) (by rw [← HQ5.out]; exact hx)
                  rcases hst4 with rfl | rfl
                  · exact step2_dg
                  · exact step3_dg
                go_wp2_with (go_at_call 31; refine (HD5.out _ HL4.out).mono ?_; rintro e w5 ⟨rfl, hl5, ho5⟩; have HL5 : Hid (Lx bl src q5 w5) := hl5; have HO5 : Hid (Only bl w w5) := HO4.out.trans ho5; have m0 := hl5.c0; have m1 := hl5.c1; clear hl5 ho5)
                go_region_with (go_at_call 32; refine (token_done bl bt src p q5 3 (src.extract p q5) w _ hne ?_ ?_ HT.out).mono ?_; exact HL5.out.drew; exact HO5.out.drew; rintro e w6 ⟨rfl, hd6⟩)
                all_goals
                  have HX6 : Hid (Done bl bt src p 3 (src.extract p q5) q5 w w6) := hd6
                  clear hd6
                  go_wp2
                  go_end0
                  refine ⟨rfl, ?_⟩
                  rw [HF.out]
                  exact HX6.out
              · have HF : Hid (E src.data.toList 0 p = (st4, q5)) := by
                  show E src.data.toList 0 p = (st4, q5)
                  have hqe : q5 = r4 := by omega
                  rw [HE4.out, hqe]
                  refine E_exp_none _ _ _ (by simpa using h42) (by rw [← HQ5.out]; exact hqe) (fun hlt hd => ?_)
                  rcases hst4 with rfl | rfl
                  · have h2 := HS4.out rfl
                    rw [tB_at (by simpa using hlt)] at h2
                    have h3 : isS src.data.toList[r4] = false := h2
                    exact step2_none _ hd h3
                  · exact step3_none _ hd
                go_wp2_with (go_at_call 31; refine (HD5.out _ HL4.out).mono ?_; rintro e w5 ⟨rfl, hl5, ho5⟩; have HL5 : Hid (Lx bl src q5 w5) := hl5; have HO5 : Hid (Only bl w w5) := HO4.out.trans ho5; clear hl5 ho5)
                refine (token_done bl bt src p q5 7 badMsg w _ hne HL5.out HO5.out HT.out).mono ?_
                rintro e w6 ⟨rfl, hd6⟩
                have HX6 : Hid (Done bl bt src p 7 badMsg q5 w w6) := hd6
                clear hd6
                go_wp2
                refine bodyPost_ret (results_none rfl _ _ _) rfl ?_
                refine ⟨rfl, ?_⟩
                rw [HF.out]
                have hk : kindOf st4 = 7 ∧ txOf src p st4 q5 = badMsg := by
                  rcases hst4 with rfl | rfl <;> exact ⟨rfl, rfl⟩
                show Done bl bt src p (kindOf st4) (txOf src p st4 q5) q5 w w6
                rw [hk.1, hk.2]
                exact HX6.out
        · rw [hb]
          have HF : Hid (E src.data.toList 0 p = (st, q)) := by
            show E src.data.toList 0 p = (st, q)
            rw [HEq.out]
            by_cases hlt : q < src.size
            · have h1 := HNq.out
              have h2 := HPq.out
              rw [tB_at hlt] at h1 h2 hb
              refine E_stop (by simpa using hlt) ?_
              show step st src[q] = none
              rcases hst with rfl | rfl
              · simp [step, h1, h2 rfl, hb]
              · simp [step, h1, hb]
            · exact E_end (by simp; omega)
          clear hb
          go_wp2_with fail
          go_region_with (go_at_call 32; refine (token_done bl bt src p q (kindOf st) (src.extract p q) w _ hne ?_ ?_ HT.out).mono ?_; exact (HLq.out.drewN n2).drew; exact (HOq.out.drewN n2).drew; rintro e w3 ⟨rfl, hd3⟩)
          all_goals
            have HX3 : Hid (Done bl bt src p (kindOf st) (src.extract p q) q w w3) := hd3
            clear hd3
            go_wp2
            go_end0
            refine ⟨rfl, ?_⟩
            rw [HF.out]
            have ht : txOf src p st q = src.extract p q := by
              unfold txOf; rcases hst with rfl | rfl <;> rfl
            show Done bl bt src p (kindOf st) (txOf src p st q) q w w3
            rw [ht]
            exact HX3.out

end Go.Proofs.Qxb6617227a
