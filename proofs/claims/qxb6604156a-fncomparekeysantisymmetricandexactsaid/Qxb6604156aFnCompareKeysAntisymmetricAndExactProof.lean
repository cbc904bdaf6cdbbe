/-
  'Rows.FnCompareKeysAntisymmetricAndExactSaid': after the shell that was given; the walk's end is said by 'Below'.
-/
import Derived.Test.Qxb6604156aRows
import Derived.Test.Qxb6604156aKeys
import Derived.WalkKit
import Derived.ProofKit
import Derived.OpenShut
import Derived.ShutString
namespace Go.Proofs.Qxb6604156a.fnCompareKeysAntisymmetricAndExact
open Go.ChangeShapes Go.WideShapes Go.ChangeAt Go.RowKit
open Go.ChangeMaps (open_string shut_string)
set_option linter.unusedVariables false      -- a walk need not use every 'w<i>' (that an integer argument fits its kind)

theorem own : ownKnob Try.prog.godebug = none := by kernel_rfl

/-! ### THE WALK -/
set_option maxHeartbeats 400000 in
theorem walk (a0 : Int) (a1 : Int) (a2 : Int) (a3 : Int) (w0 : (Lit.int .u64 a0).wf = true) (w1 : (Lit.int .u64 a1).wf = true) (w2 : (Lit.int .u64 a2).wf = true) (w3 : (Lit.int .u64 a3).wf = true) (w : World) :
    Calls Try.prog 5 #[.int .u64 a0, .int .u64 a1, .int .u64 a2, .int .u64 a3] w fun e w' => e = .returned (.bool true) ∧ Below w.heap.size w w' := by
  clear w0 w1 w2 w3
  by_cases h1 : a0 < a2 ∨ (a0 = a2 ∧ a1 < a3)
  · have e1 : Hid (cmpK a0 a1 a2 a3 = -1) := show cmpK a0 a1 a2 a3 = -1 by unfold cmpK; rw [if_pos h1]
    have e2 : Hid (cmpK a2 a3 a0 a1 = 1) := show cmpK a2 a3 a0 a1 = 1 by unfold cmpK; rw [if_neg (by omega), if_pos h1]
    rcases h1 with h1 | ⟨rfl, h1⟩
    · have hs : (a0 == a2) = false := beq_eq_false_iff_ne.2 (by omega)
      go_enter Try.func5, Try.ntmps5
      go_wp2_with fail
      refine (zzCompareKeys_any a0 a1 a2 a3 _).mono ?_
      rw [e1.out]
      rintro e w1 ⟨rfl, b1⟩
      go_wp2_with fail
      refine (zzCompareKeys_any a2 a3 a0 a1 _).mono ?_
      rw [e2.out]
      rintro e w2 ⟨rfl, b2⟩
      go_wp2
      go_ret
      exact ⟨rfl, b1.trans (b2.mono b1.size)⟩
    · have hs : (a1 == a3) = false := beq_eq_false_iff_ne.2 (by omega)
      go_enter Try.func5, Try.ntmps5
      go_wp2_with fail
      refine (zzCompareKeys_any a0 a1 a0 a3 _).mono ?_
      rw [e1.out]
      rintro e w1 ⟨rfl, b1⟩
      go_wp2_with fail
      refine (zzCompareKeys_any a0 a3 a0 a1 _).mono ?_
      rw [e2.out]
      rintro e w2 ⟨rfl, b2⟩
      go_wp2
      go_ret
      exact ⟨rfl, b1.trans (b2.mono b1.size)⟩
  · by_cases h2 : a2 < a0 ∨ (a2 = a0 ∧ a3 < a1)
    · have e1 : Hid (cmpK a0 a1 a2 a3 = 1) := show cmpK a0 a1 a2 a3 = 1 by unfold cmpK; rw [if_neg h1, if_pos h2]
      have e2 : Hid (cmpK a2 a3 a0 a1 = -1) := show cmpK a2 a3 a0 a1 = -1 by unfold cmpK; rw [if_pos h2]
      clear h1
      rcases h2 with h1 | ⟨rfl, h1⟩
      · have hs : (a0 == a2) = false := beq_eq_false_iff_ne.2 (by omega)
        go_enter Try.func5, Try.ntmps5
        go_wp2_with fail
        refine (zzCompareKeys_any a0 a1 a2 a3 _).mono ?_
        rw [e1.out]
        rintro e w1 ⟨rfl, b1⟩
        go_wp2_with fail
        refine (zzCompareKeys_any a2 a3 a0 a1 _).mono ?_
        rw [e2.out]
        rintro e w2 ⟨rfl, b2⟩
        go_wp2
        go_ret
        exact ⟨rfl, b1.trans (b2.mono b1.size)⟩
      · have hs : (a1 == a3) = false := beq_eq_false_iff_ne.2 (by omega)
        go_enter Try.func5, Try.ntmps5
        go_wp2_with fail
        refine (zzCompareKeys_any a2 a1 a2 a3 _).mono ?_
        rw [e1.out]
        rintro e w1 ⟨rfl, b1⟩
        go_wp2_with fail
        refine (zzCompareKeys_any a2 a3 a2 a1 _).mono ?_
        rw [e2.out]
        rintro e w2 ⟨rfl, b2⟩
        go_wp2
        go_ret
        exact ⟨rfl, b1.trans (b2.mono b1.size)⟩
    · have q1 : a0 = a2 := by omega
      have q2 : a1 = a3 := by omega
      subst q1 q2
      have e1 : Hid (cmpK a0 a1 a0 a1 = 0) := show cmpK a0 a1 a0 a1 = 0 by unfold cmpK; rw [if_neg h1, if_neg h2]
      clear h1 h2
      go_enter Try.func5, Try.ntmps5
      go_wp2_with fail
      refine (zzCompareKeys_any a0 a1 a0 a1 _).mono ?_
      rw [e1.out]
      rintro e w1 ⟨rfl, b1⟩
      go_wp2_with fail
      refine (zzCompareKeys_any a0 a1 a0 a1 _).mono ?_
      rw [e1.out]
      rintro e w2 ⟨rfl, b2⟩
      go_wp2
      go_ret
      exact ⟨rfl, b1.trans (b2.mono b1.size)⟩

/-! ### THE ROW's STEP: as the shell has it, but for 'Below' -/
set_option maxRecDepth 100000 in
theorem lifted (os : Os) (started : os.Started) (H : Type) (enc : TypeId × Value → H) :
    ReturnsInHanded {} Try.checked os 5 .any (Rows.fnCompareKeysAntisymmetricAndExactSpec.pre6 enc Try.prog Try.f5 Rows.fnCompareKeysAntisymmetricAndExactRow.domain false) (Rows.fnCompareKeysAntisymmetricAndExactSpec.post enc Try.prog Try.f5 false true false false) := by
  refine returnsInHanded_of_change (C := Try.checked) own started (by kernel_rfl) Try.func5
    (ChangeSpec.witness6 (enc := enc) (C := Try.checked) false ⟨#[], #[.int .u64 0, .int .u64 0, .int .u64 0, .int .u64 0], []⟩ 8 (by kernel_rfl) (by kernel_rfl) (by kernel_rfl) (by kernel_rfl)) ?_
  intro W base args ds gs before hval0 hW hcnd _
  have hval : ∀ (j : Nat) t v, Try.f5.params[j]? = some t → args[j]? = some v → Value.okWide Try.prog W .any base t v := hval0
  have hW' := hW
  obtain ⟨p, q, hA0, hV, rfl, hfz, hnd⟩ := hW
  have hA : DataW.TrodAll enc Try.prog W 0 (fun _ => true) true Try.f5.params.toList args.toList ds p := hA0
  rw [Try.params5] at hA hval
  obtain ⟨v0, vs0, d0, ds0, p0, q0, hargs, rfl, rfl, h0, r0⟩ := trodAll_cons hA
  obtain ⟨v1, vs1, d1, ds1, p1, q1, rfl, rfl, rfl, h1, r1⟩ := trodAll_cons r0
  obtain ⟨v2, vs2, d2, ds2, p2, q2, rfl, rfl, rfl, h2, r2⟩ := trodAll_cons r1
  obtain ⟨v3, vs3, d3, ds3, p3, q3, rfl, rfl, rfl, h3, r3⟩ := trodAll_cons r2
  obtain ⟨rfl, rfl, rfl⟩ := trodAll_nil r3
  obtain rfl : args = #[v0, v1, v2, v3] := by cases args; simp_all
  obtain ⟨rfl, rfl⟩ := trodVars_none hV
  obtain ⟨a0, rfl, rfl, rfl, w0⟩ := open_int Try.underlying24 (hval 0 24 v0 rfl rfl) h0
  obtain ⟨a1, rfl, rfl, rfl, w1⟩ := open_int Try.underlying24 (hval 1 24 v1 rfl rfl) h1
  obtain ⟨a2, rfl, rfl, rfl, w2⟩ := open_int Try.underlying24 (hval 2 24 v2 rfl rfl) h2
  obtain ⟨a3, rfl, rfl, rfl, w3⟩ := open_int Try.underlying24 (hval 3 24 v3 rfl rfl) h3
  clear hA0 hval0
  simp only [List.append_nil] at hW'
  refine (walk a0 a1 a2 a3 w0 w1 w2 w3 W).mono fun e W' ⟨he, bel⟩ => ?_
  subst he
  exact ⟨_, rfl, _, _, _, [], [], [], hW', trodAll_mk1 (shut_bool Try.underlying4 _), (trodAll_cons_mk (shut_int Try.underlying24 w0) (trodAll_cons_mk (shut_int Try.underlying24 w1) (trodAll_cons_mk (shut_int Try.underlying24 w2) (trodAll_cons_mk (shut_int Try.underlying24 w3) trodAll_mk0)))), rfl, bel.frame _, fun h => by cases h⟩

theorem over : Rows.fnCompareKeysAntisymmetricAndExactRow.holds Try.pinned (OpenSpec.ofChange Rows.fnCompareKeysAntisymmetricAndExactSpec) :=
  OpenClaim.holds_of_wide 5 Try.f5 rfl rfl rfl rfl rfl rfl rfl ⟨rfl, rfl, rfl, rfl, rfl⟩ rfl rfl rfl rfl rfl (by kernel_rfl) Try.func5 (by kernel_rfl)
    (of_decide_eq_true (by kernel_rfl)) (by unfold Func.isWrapper; first | (rw [if_pos (by decide +kernel)]; kernel_rfl) | (rw [if_neg (by decide +kernel)]; exact ⟨rfl, rfl⟩))
    (fun os started H enc _ => lifted os started H enc)

/-- ████ THE STATEMENT ████ -/
theorem proved : Rows.FnCompareKeysAntisymmetricAndExactSaid :=
  over
#print axioms proved
end Go.Proofs.Qxb6604156a.fnCompareKeysAntisymmetricAndExact
