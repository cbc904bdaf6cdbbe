/-
  'Rows.FnCompareHoldingsAntisymmetricSaid': after the shell that was given; the walk's end is said by 'Below'.
-/
import Derived.Test.Qxb6604156aRows
import Derived.Test.Qxb6604156aHoldWalk
import Derived.WalkKit
import Derived.ProofKit
import Derived.OpenShut
import Derived.ShutString
namespace Go.Proofs.Qxb6604156a.fnCompareHoldingsAntisymmetric
open Go.ChangeShapes Go.WideShapes Go.ChangeAt Go.RowKit
open Go.ChangeMaps (open_string shut_string)
set_option linter.unusedVariables false      -- a walk need not use every 'w<i>' (that an integer argument fits its kind)

theorem own : ownKnob Try.prog.godebug = none := by kernel_rfl

/-! ### THE WALK -/
/-- Too long together. -/
theorem walk_long (a0 a1 a2 a3 : ByteArray) (w : World) (m0 : a0.size ≤ 9223372036854775807) (m1 : a1.size ≤ 9223372036854775807) (m2 : a2.size ≤ 9223372036854775807) (m3 : a3.size ≤ 9223372036854775807) (h : 1048576 < a0.size + a1.size + a2.size + a3.size) :
    Calls Try.prog 6 #[.string a0, .string a1, .string a2, .string a3] w fun e w' => e = .returned (.bool true) ∧ Below w.heap.size w w' := by
  go_enter Try.func6, Try.ntmps6
  go_wp2_with fail
  refine (zzBytes13_no a0 a1 a2 a3 w m0 m1 m2 m3 h).mono ?_
  rintro e x0 ⟨rfl, hx0⟩
  rw [hx0]
  clear hx0 x0
  go_wp2
  go_ret
  exact ⟨rfl, Below.refl _ _⟩

set_option maxHeartbeats 1600000 in
/-- The main way. -/
theorem walk_main (a0 a1 a2 a3 : ByteArray) (w : World) (h : a0.size + a1.size + a2.size + a3.size ≤ 1048576) :
    Calls Try.prog 6 #[.string a0, .string a1, .string a2, .string a3] w fun e w' => e = .returned (.bool true) ∧ Below w.heap.size w w' := by
  have HS := hidH h
  have t0 : decide ((1048576 : Int) < (a0.size : Int)) = false := decide_eq_false (by omega)
  have t1 : decide ((1048576 : Int) < (a1.size : Int)) = false := decide_eq_false (by omega)
  have t2 : decide ((1048576 : Int) < (a2.size : Int)) = false := decide_eq_false (by omega)
  have t3 : decide ((1048576 : Int) < (a3.size : Int)) = false := decide_eq_false (by omega)
  have s1 := cmpS_swap a0 a2
  have s2 := cmpS_swap a1 a3
  rcases cmpS_three a0 a2 with c | c | c
  · have e1 : Hid (cmpH a0 a1 a2 a3 = -1) := show cmpH a0 a1 a2 a3 = -1 by unfold cmpH; rw [c]; rfl
    have e2 : Hid (cmpH a2 a3 a0 a1 = 1) := show cmpH a2 a3 a0 a1 = 1 by unfold cmpH; rw [s1, c]; rfl
    have hs : (a0.toList == a2.toList) = false := ne_of_cmpS a0 a2 (by rw [c]; decide)
    clear s1 s2 c
    go_enter Try.func6, Try.ntmps6
    go_wp2_with fail
    refine (zzBytes13_yes a0 a1 a2 a3 w HS.out).mono ?_
    rintro e x0 ⟨rfl, hx0⟩
    rw [hx0]
    clear hx0 x0
    go_wp2_with fail
    refine (zzHold_any a0 a1 a2 a3 _).mono ?_
    rw [e1.out]
    rintro e x1 ⟨rfl, b1⟩
    go_wp2_with fail
    refine (zzHold_any a2 a3 a0 a1 _).mono ?_
    rw [e2.out]
    rintro e x2 ⟨rfl, b2⟩
    go_wp2
    go_ret
    exact ⟨rfl, b1.trans (b2.mono b1.size)⟩
  · have e1 : Hid (cmpH a0 a1 a2 a3 = 1) := show cmpH a0 a1 a2 a3 = 1 by unfold cmpH; rw [c]; rfl
    have e2 : Hid (cmpH a2 a3 a0 a1 = -1) := show cmpH a2 a3 a0 a1 = -1 by unfold cmpH; rw [s1, c]; rfl
    have hs : (a0.toList == a2.toList) = false := ne_of_cmpS a0 a2 (by rw [c]; decide)
    clear s1 s2 c
    go_enter Try.func6, Try.ntmps6
    go_wp2_with fail
    refine (zzBytes13_yes a0 a1 a2 a3 w HS.out).mono ?_
    rintro e x0 ⟨rfl, hx0⟩
    rw [hx0]
    clear hx0 x0
    go_wp2_with fail
    refine (zzHold_any a0 a1 a2 a3 _).mono ?_
    rw [e1.out]
    rintro e x1 ⟨rfl, b1⟩
    go_wp2_with fail
    refine (zzHold_any a2 a3 a0 a1 _).mono ?_
    rw [e2.out]
    rintro e x2 ⟨rfl, b2⟩
    go_wp2
    go_ret
    exact ⟨rfl, b1.trans (b2.mono b1.size)⟩
  · have q := cmpS_zero a0 a2 c
    subst q
    rcases cmpS_three a1 a3 with c' | c' | c'
    · have e1 : Hid (cmpH a0 a1 a0 a3 = -1) := show cmpH a0 a1 a0 a3 = -1 by unfold cmpH; rw [c, if_pos rfl, c']
      have e2 : Hid (cmpH a0 a3 a0 a1 = 1) := show cmpH a0 a3 a0 a1 = 1 by unfold cmpH; rw [c, if_pos rfl, s2, c']; rfl
      have hs : (a1.toList == a3.toList) = false := ne_of_cmpS a1 a3 (by rw [c']; decide)
      clear s1 s2 c c'
      go_enter Try.func6, Try.ntmps6
      go_wp2_with fail
      refine (zzBytes13_yes a0 a1 a0 a3 w HS.out).mono ?_
      rintro e x0 ⟨rfl, hx0⟩
      rw [hx0]
      clear hx0 x0
      go_wp2_with fail
      refine (zzHold_any a0 a1 a0 a3 _).mono ?_
      rw [e1.out]
      rintro e x1 ⟨rfl, b1⟩
      go_wp2_with fail
      refine (zzHold_any a0 a3 a0 a1 _).mono ?_
      rw [e2.out]
      rintro e x2 ⟨rfl, b2⟩
      go_wp2
      go_ret
      exact ⟨rfl, b1.trans (b2.mono b1.size)⟩
    · have e1 : Hid (cmpH a0 a1 a0 a3 = 1) := show cmpH a0 a1 a0 a3 = 1 by unfold cmpH; rw [c, if_pos rfl, c']
      have e2 : Hid (cmpH a0 a3 a0 a1 = -1) := show cmpH a0 a3 a0 a1 = -1 by unfold cmpH; rw [c, if_pos rfl, s2, c']
      have hs : (a1.toList == a3.toList) = false := ne_of_cmpS a1 a3 (by rw [c']; decide)
      clear s1 s2 c c'
      go_enter Try.func6, Try.ntmps6
      go_wp2_with fail
      refine (zzBytes13_yes a0 a1 a0 a3 w HS.out).mono ?_
      rintro e x0 ⟨rfl, hx0⟩
      rw [hx0]
      clear hx0 x0
      go_wp2_with fail
      refine (zzHold_any a0 a1 a0 a3 _).mono ?_
      rw [e1.out]
      rintro e x1 ⟨rfl, b1⟩
      go_wp2_with fail
      refine (zzHold_any a0 a3 a0 a1 _).mono ?_
      rw [e2.out]
      rintro e x2 ⟨rfl, b2⟩
      go_wp2
      go_ret
      exact ⟨rfl, b1.trans (b2.mono b1.size)⟩
    · have q' := cmpS_zero a1 a3 c'
      subst q'
      have e1 : Hid (cmpH a0 a1 a0 a1 = 0) := show cmpH a0 a1 a0 a1 = 0 by unfold cmpH; rw [c, if_pos rfl, c']
      clear s1 s2 c c'
      go_enter Try.func6, Try.ntmps6
      go_wp2_with fail
      refine (zzBytes13_yes a0 a1 a0 a1 w HS.out).mono ?_
      rintro e x0 ⟨rfl, hx0⟩
      rw [hx0]
      clear hx0 x0
      go_wp2_with fail
      refine (zzHold_any a0 a1 a0 a1 _).mono ?_
      rw [e1.out]
      rintro e x1 ⟨rfl, b1⟩
      go_wp2_with fail
      refine (zzHold_any a0 a1 a0 a1 _).mono ?_
      rw [e1.out]
      rintro e x2 ⟨rfl, b2⟩
      go_wp2
      go_ret
      exact ⟨rfl, b1.trans (b2.mono b1.size)⟩

theorem walk (a0 : ByteArray) (a1 : ByteArray) (a2 : ByteArray) (a3 : ByteArray) (w0 : a0.size ≤ maxLen) (w1 : a1.size ≤ maxLen) (w2 : a2.size ≤ maxLen) (w3 : a3.size ≤ maxLen) (w : World) :
    Calls Try.prog 6 #[.string a0, .string a1, .string a2, .string a3] w fun e w' => e = .returned (.bool true) ∧ Below w.heap.size w w' := by
  unfold maxLen at w0 w1 w2 w3
  by_cases h : 1048576 < a0.size + a1.size + a2.size + a3.size
  · exact walk_long a0 a1 a2 a3 w (by omega) (by omega) (by omega) (by omega) h
  · exact walk_main a0 a1 a2 a3 w (by omega)

/-! ### THE ROW's STEP: as the shell has it, but for 'Below' -/
set_option maxRecDepth 100000 in
theorem lifted (os : Os) (started : os.Started) (H : Type) (enc : TypeId × Value → H) :
    ReturnsInHanded {} Try.checked os 6 .any (Rows.fnCompareHoldingsAntisymmetricSpec.pre6 enc Try.prog Try.f6 Rows.fnCompareHoldingsAntisymmetricRow.domain false) (Rows.fnCompareHoldingsAntisymmetricSpec.post enc Try.prog Try.f6 false true false false) := by
  refine returnsInHanded_of_change (C := Try.checked) own started (by kernel_rfl) Try.func6
    (ChangeSpec.witness6 (enc := enc) (C := Try.checked) false ⟨#[], #[.string ByteArray.empty, .string ByteArray.empty, .string ByteArray.empty, .string ByteArray.empty], []⟩ 8 (by kernel_rfl) (by kernel_rfl) (by kernel_rfl) (by kernel_rfl)) ?_
  intro W base args ds gs before hval0 hW hcnd _
  have hval : ∀ (j : Nat) t v, Try.f6.params[j]? = some t → args[j]? = some v → Value.okWide Try.prog W .any base t v := hval0
  have hW' := hW
  obtain ⟨p, q, hA0, hV, rfl, hfz, hnd⟩ := hW
  have hA : DataW.TrodAll enc Try.prog W 0 (fun _ => true) true Try.f6.params.toList args.toList ds p := hA0
  rw [Try.params6] at hA hval
  obtain ⟨v0, vs0, d0, ds0, p0, q0, hargs, rfl, rfl, h0, r0⟩ := trodAll_cons hA
  obtain ⟨v1, vs1, d1, ds1, p1, q1, rfl, rfl, rfl, h1, r1⟩ := trodAll_cons r0
  obtain ⟨v2, vs2, d2, ds2, p2, q2, rfl, rfl, rfl, h2, r2⟩ := trodAll_cons r1
  obtain ⟨v3, vs3, d3, ds3, p3, q3, rfl, rfl, rfl, h3, r3⟩ := trodAll_cons r2
  obtain ⟨rfl, rfl, rfl⟩ := trodAll_nil r3
  obtain rfl : args = #[v0, v1, v2, v3] := by cases args; simp_all
  obtain ⟨rfl, rfl⟩ := trodVars_none hV
  obtain ⟨a0, rfl, rfl, rfl, w0⟩ := open_string Try.underlying9 (hval 0 9 v0 rfl rfl) h0
  obtain ⟨a1, rfl, rfl, rfl, w1⟩ := open_string Try.underlying9 (hval 1 9 v1 rfl rfl) h1
  obtain ⟨a2, rfl, rfl, rfl, w2⟩ := open_string Try.underlying9 (hval 2 9 v2 rfl rfl) h2
  obtain ⟨a3, rfl, rfl, rfl, w3⟩ := open_string Try.underlying9 (hval 3 9 v3 rfl rfl) h3
  clear hA0 hval0
  simp only [List.append_nil] at hW'
  refine (walk a0 a1 a2 a3 w0 w1 w2 w3 W).mono fun e W' ⟨he, bel⟩ => ?_
  subst he
  exact ⟨_, rfl, _, _, _, [], [], [], hW', trodAll_mk1 (shut_bool Try.underlying4 _), (trodAll_cons_mk (shut_string Try.underlying9 w0) (trodAll_cons_mk (shut_string Try.underlying9 w1) (trodAll_cons_mk (shut_string Try.underlying9 w2) (trodAll_cons_mk (shut_string Try.underlying9 w3) trodAll_mk0)))), rfl, bel.frame _, fun h => by cases h⟩

theorem over : Rows.fnCompareHoldingsAntisymmetricRow.holds Try.pinned (OpenSpec.ofChange Rows.fnCompareHoldingsAntisymmetricSpec) :=
  OpenClaim.holds_of_wide 6 Try.f6 rfl rfl rfl rfl rfl rfl rfl ⟨rfl, rfl, rfl, rfl, rfl⟩ rfl rfl rfl rfl rfl (by kernel_rfl) Try.func6 (by kernel_rfl)
    (of_decide_eq_true (by kernel_rfl)) (by unfold Func.isWrapper; first | (rw [if_pos (by decide +kernel)]; kernel_rfl) | (rw [if_neg (by decide +kernel)]; exact ⟨rfl, rfl⟩))
    (fun os started H enc _ => lifted os started H enc)

/-- ████ THE STATEMENT ████ -/
theorem proved : Rows.FnCompareHoldingsAntisymmetricSaid :=
  over
#print axioms proved
end Go.Proofs.Qxb6604156a.fnCompareHoldingsAntisymmetric
