/-
  'Rows.FnCompareKeysIsBigEndianByteOrderSaid': after the shell that was given; the walk's end is said by 'Below'.
-/
import Derived.Test.Qxb6604156aRows
import Derived.Test.Qxb6604156aBytes16
import Derived.Test.Qxb6604156aCmp16
import Derived.WalkKit
import Derived.ProofKit
import Derived.OpenShut
import Derived.ShutString
namespace Go.Proofs.Qxb6604156a.fnCompareKeysIsBigEndianByteOrder
open Go.ChangeShapes Go.WideShapes Go.ChangeAt Go.RowKit
open Go.ChangeMaps (open_string shut_string)
set_option linter.unusedVariables false      -- a walk need not use every 'w<i>' (that an integer argument fits its kind)

theorem own : ownKnob Try.prog.godebug = none := by kernel_rfl

/-! ### THE WALK -/
set_option maxHeartbeats 400000 in
theorem walk (a0 : Int) (a1 : Int) (a2 : Int) (a3 : Int) (w0 : (Lit.int .u64 a0).wf = true) (w1 : (Lit.int .u64 a1).wf = true) (w2 : (Lit.int .u64 a2).wf = true) (w3 : (Lit.int .u64 a3).wf = true) (w : World) :
    Calls Try.prog 4 #[.int .u64 a0, .int .u64 a1, .int .u64 a2, .int .u64 a3] w fun e w' => e = .returned (.bool true) ∧ Below w.heap.size w w' := by
  have B0 := hid16 (bounds_u64 w0)
  have B1 := hid16 (bounds_u64 w1)
  have B2 := hid16 (bounds_u64 w2)
  have B3 := hid16 (bounds_u64 w3)
  have law := hid16 (Pl.cmp_kb a0 a1 a2 a3 B0.out B1.out B2.out B3.out)
  have e0 : Hid (Pl.cmpL (Pl.kb a0 a1) (Pl.kb a2 a3) = cmpK a0 a1 a2 a3) := law.out
  clear w0 w1 w2 w3 law
  go_enter Try.func4, Try.ntmps4
  go_wp2_with fail
  refine (zzCompareKeys_any a0 a1 a2 a3 _).mono ?_
  rintro e x1 ⟨rfl, b1⟩
  go_wp2_with fail
  refine (keyBytes_any a0 a1 _ B0.out.1 B0.out.2 B1.out.1 B1.out.2).mono ?_
  rintro e x2 ⟨rfl, b2⟩
  go_wp2_with fail
  refine (keyBytes_any a2 a3 _ B2.out.1 B2.out.2 B3.out.1 B3.out.2).mono ?_
  rintro e x3 ⟨rfl, b3⟩
  go_wp2_with fail
  refine (compare16_any (kbA a0 a1) (kbA a2 a3) (Pl.kb a0 a1) (Pl.kb a2 a3) _ rfl rfl rfl rfl (kbA_at a0 a1) (kbA_at a2 a3)).mono ?_
  rw [e0.out]
  generalize cmpK a0 a1 a2 a3 = c
  rintro e x4 ⟨rfl, b4⟩
  go_wp2
  go_ret
  exact ⟨by simp, ((b1.trans (b2.mono b1.size)).trans (b3.mono (Nat.le_trans b1.size b2.size))).trans (b4.mono (Nat.le_trans (Nat.le_trans b1.size b2.size) b3.size))⟩

/-! ### THE ROW's STEP: as the shell has it, but for 'Below' -/
set_option maxRecDepth 100000 in
theorem lifted (os : Os) (started : os.Started) (H : Type) (enc : TypeId × Value → H) :
    ReturnsInHanded {} Try.checked os 4 .any (Rows.fnCompareKeysIsBigEndianByteOrderSpec.pre6 enc Try.prog Try.f4 Rows.fnCompareKeysIsBigEndianByteOrderRow.domain false) (Rows.fnCompareKeysIsBigEndianByteOrderSpec.post enc Try.prog Try.f4 false true false false) := by
  refine returnsInHanded_of_change (C := Try.checked) own started (by kernel_rfl) Try.func4
    (ChangeSpec.witness6 (enc := enc) (C := Try.checked) false ⟨#[], #[.int .u64 0, .int .u64 0, .int .u64 0, .int .u64 0], []⟩ 8 (by kernel_rfl) (by kernel_rfl) (by kernel_rfl) (by kernel_rfl)) ?_
  intro W base args ds gs before hval0 hW hcnd _
  have hval : ∀ (j : Nat) t v, Try.f4.params[j]? = some t → args[j]? = some v → Value.okWide Try.prog W .any base t v := hval0
  have hW' := hW
  obtain ⟨p, q, hA0, hV, rfl, hfz, hnd⟩ := hW
  have hA : DataW.TrodAll enc Try.prog W 0 (fun _ => true) true Try.f4.params.toList args.toList ds p := hA0
  rw [Try.params4] at hA hval
  obtain ⟨v0, vs0, d0, ds0, p0, q0, hargs, rfl, rfl, h0, r0⟩ := trodAll_cons hA
  obtain ⟨v1, vs1, d1, ds1, p1, q1, rfl, rfl, rfl, h1, r1⟩ := trodAll_cons r0
  obtain ⟨v2, vs2, d2, ds2, p2, q2, rfl, rfl, rfl, h2, r2⟩ := trodAll_cons r1
  obtain ⟨v3, vs3, d3, ds3, p3, q3, rfl, rfl, rfl, h3, r3⟩ := trodAll_cons r2
  obtain ⟨rfl, rfl, rfl⟩ := trodAll_nil r3
  obtain rfl : args = #[v0, v1, v2, v3] := by cases args; simp_all
  obtain ⟨rfl, rfl⟩ := trodVars_none hV
  obtain ⟨a0, rfl, rfl, rfl, w0⟩ := open_int Try.underlying24 (hval 0 24 v0 rfl rfl) h0
  obtain ⟨a1, rfl, rfl, rfl, w1⟩ := open_int Try.underlying24 (hval 1 24 v1 rfl rfl) h1
  obtain ⟨a2, rfl, rfl, rfl, w2⟩ := open_int Try.underlying24 (hval 2 24 v2 rfl rfl) h2
  obtain ⟨a3, rfl, rfl, rfl, w3⟩ := open_int Try.underlying24 (hval 3 24 v3 rfl rfl) h3
  clear hA0 hval0
  simp only [List.append_nil] at hW'
  refine (walk a0 a1 a2 a3 w0 w1 w2 w3 W).mono fun e W' ⟨he, bel⟩ => ?_
  subst he
  exact ⟨_, rfl, _, _, _, [], [], [], hW', trodAll_mk1 (shut_bool Try.underlying4 _), (trodAll_cons_mk (shut_int Try.underlying24 w0) (trodAll_cons_mk (shut_int Try.underlying24 w1) (trodAll_cons_mk (shut_int Try.underlying24 w2) (trodAll_cons_mk (shut_int Try.underlying24 w3) trodAll_mk0)))), rfl, bel.frame _, fun h => by cases h⟩

theorem over : Rows.fnCompareKeysIsBigEndianByteOrderRow.holds Try.pinned (OpenSpec.ofChange Rows.fnCompareKeysIsBigEndianByteOrderSpec) :=
  OpenClaim.holds_of_wide 4 Try.f4 rfl rfl rfl rfl rfl rfl rfl ⟨rfl, rfl, rfl, rfl, rfl⟩ rfl rfl rfl rfl rfl (by kernel_rfl) Try.func4 (by kernel_rfl)
    (of_decide_eq_true (by kernel_rfl)) (by unfold Func.isWrapper; first | (rw [if_pos (by decide +kernel)]; kernel_rfl) | (rw [if_neg (by decide +kernel)]; exact ⟨rfl, rfl⟩))
    (fun os started H enc _ => lifted os started H enc)

/-- ████ THE STATEMENT ████ -/
theorem proved : Rows.FnCompareKeysIsBigEndianByteOrderSaid :=
  over
#print axioms proved
end Go.Proofs.Qxb6604156a.fnCompareKeysIsBigEndianByteOrder
