/-
  'Rows.FnDecodeRangeInvertsAppendRangeSaid': after the shell that was given.
-/
import Derived.Test.Qxb6603786aRows
import Derived.Test.Qxb6603786aInvWalk
import Derived.WalkKit
import Derived.ProofKit
import Derived.OpenShut
import Derived.ShutString
import Derived.ChangeOld
import Derived.Below
namespace Go.Proofs.Qxb6603786a.fnDecodeRangeInvertsAppendRange
open Go.ChangeShapes Go.WideShapes Go.ChangeAt Go.RowKit
open Go.ChangeMaps (open_string shut_string)
set_option linter.unusedVariables false

theorem own : ownKnob Try.prog.godebug = none := by kernel_rfl
theorem laidOut : laidOutB Try.prog = true := by kernel_rfl

/-- WHAT THE WALK IS TOLD OF A SLICE OF INTEGERS THAT CAME IN: it is nil; or it leads to a row of 'cap' cells, the numbers 'zs' (the first 'len' are its elements, the rest its spare room), each fitting its kind. -/
def IsRow (k : IntKind) (w : World) (a : Option Addr) (len cap : Nat) (zs : List Int) : Prop :=
  (a = none ∧ len = 0 ∧ cap = 0 ∧ zs = []) ∨
  ∃ x, a = some x ∧ len ≤ cap ∧ cap ≤ maxLen ∧ zs.length = cap ∧ (∀ i, i < zs.length → w.cell? (x.add i) = some (.int k (zs.getD i 0))) ∧ ∀ n ∈ zs, (Lit.int k n).wf = true

/-! ### THE WALK, ALL WAYS -/
theorem row_len {w : World} {a : Option Addr} {n c : Nat} {z : List Int} (h : IsRow .u8 w a n c z) : n ≤ 9223372036854775807 := by
  rcases h with ⟨_, h, _, _⟩ | ⟨x, _, h1, h2, _⟩
  · omega
  · unfold maxLen at h2; omega

/-- A row that came in, by its elements. -/
theorem row_els {w : World} {a : Option Addr} {n c : Nat} {z : List Int} (h : IsRow .u8 w a n c z) : ∃ l : List Int, l.length = n ∧ Rd w a l ∧ (a = none → n = 0) ∧ Pl.Bts l := by
  rcases h with ⟨rfl, rfl, rfl, rfl⟩ | ⟨x, rfl, h1, h2, h3, h4, h5⟩
  · exact ⟨[], rfl, .inl rfl, fun _ => rfl, fun z hz => by simp at hz⟩
  · exact ⟨z.take n, by simp; omega, rd_take (by omega) h4, fun h => (by cases h), fun y hy => bounds_u8 (h5 y (List.mem_of_mem_take hy))⟩

theorem walk (a0 : Option Addr) (len0 cap0 : Nat) (z0 : List Int) (a1 : Int) (a2 : Int) (a3 : Option Addr) (len3 cap3 : Nat) (z3 : List Int) (a4 : Int) (w : World) (w0 : IsRow .u8 w a0 len0 cap0 z0) (w1 : (Lit.int .i64 a1).wf = true) (w2 : (Lit.int .u64 a2).wf = true) (w3 : IsRow .u8 w a3 len3 cap3 z3) (w4 : (Lit.int .i64 a4).wf = true) :
    Calls Try.prog 4 #[.slice a0 len0 cap0, .int .i64 a1, .int .u64 a2, .slice a3 len3 cap3, .int .i64 a4] w fun e w' => e = .returned (.bool true) ∧ Below w.heap.size w w' := by
  have b2 := bounds_u64 w2
  have hm0 := row_len w0
  have hm3 := row_len w3
  by_cases hl : 1048576 < len0 ∨ (len0 ≤ 1048576 ∧ 1048576 < len3) ∨ (len0 ≤ 1048576 ∧ len3 ≤ 1048576 ∧ 1048576 < len0 + len3)
  · exact inv_long a0 len0 cap0 a1 a2 a3 len3 cap3 a4 w hm0 hm3 hl
  by_cases hh : 524288 < len0 ∨ (len0 ≤ 524288 ∧ 524288 < len3)
  · exact inv_half a0 len0 cap0 a1 a2 a3 len3 cap3 a4 w (by omega) hh
  by_cases ho : a1 < 0 ∨ (0 ≤ a1 ∧ 255 < a1)
  · exact inv_out a0 len0 cap0 a1 a2 a3 len3 cap3 a4 w (by omega) (by omega) ho
  have h0 : 0 ≤ a1 := by omega
  have h1 : a1 ≤ 255 := by omega
  obtain ⟨l0, q1, q2, q3, q4⟩ := row_els w0
  obtain ⟨l3, t1, t2, t3, t4⟩ := row_els w3
  have lt_of : (a2 / 2 ^ (4 * a1).toNat == 0) = true → a2 < 2 ^ (4 * a1).toNat := by
    intro hp
    have hP : (0 : Int) < 2 ^ (4 * a1).toNat := Int.pow_pos (by decide)
    have e : a2 / 2 ^ (4 * a1).toNat = 0 := by simpa using hp
    have := Int.lt_mul_ediv_self_add (x := a2) hP
    rw [e] at this
    omega
  have main : (16 ≤ a1 ∨ a1 < 16 ∧ (a2 / 2 ^ (4 * a1).toNat == 0) = true) → Calls Try.prog 4 #[.slice a0 len0 cap0, .int .i64 a1, .int .u64 a2, .slice a3 len3 cap3, .int .i64 a4] w fun e w' => e = .returned (.bool true) ∧ Below w.heap.size w w' := by
    intro hd
    by_cases hM : a4 < a1
    · exact inv_deep a0 len0 cap0 a1 a2 a3 len3 cap3 a4 w (by omega) (by omega) h0 h1 hd hM
    · refine inv_main a0 len0 cap0 l0 a1 a2 a3 len3 cap3 l3 a4 w (by omega) (by omega) h0 h1 b2.1 b2.2 hd hM q1 q2 q3 t1 t2 t3 t4 ?_
      refine Pl.inv_law a1 a2 a4 l3 h0 h1 b2.1 b2.2 (fun h16 => ?_) (by omega)
      rcases hd with hd | ⟨_, hp⟩
      · omega
      · exact lt_of hp
  by_cases h16 : a1 < 16
  · cases hp : (a2 / 2 ^ (4 * a1).toNat == 0)
    · exact inv_bits a0 len0 cap0 a1 a2 a3 len3 cap3 a4 w (by omega) (by omega) h0 h16 hp
    · exact main (.inr ⟨h16, hp⟩)
  · exact main (.inl (by omega))

/-! ### THE ROW's STEP: as the shell has it -/
set_option maxRecDepth 100000 in
theorem lifted (os : Os) (started : os.Started) (H : Type) (enc : TypeId × Value → H) :
    ReturnsInHanded {} Try.checked os 4 .any (Rows.fnDecodeRangeInvertsAppendRangeSpec.pre6 enc Try.prog Try.f4 Rows.fnDecodeRangeInvertsAppendRangeRow.domain false) (Rows.fnDecodeRangeInvertsAppendRangeSpec.post enc Try.prog Try.f4 false true false false) := by
  refine returnsInHanded_of_change (C := Try.checked) own started (by kernel_rfl) Try.func4
    (ChangeSpec.witness6 (enc := enc) (C := Try.checked) false ⟨#[], #[.slice none 0 0, .int .i64 0, .int .u64 0, .slice none 0 0, .int .i64 0], []⟩ 8 (by kernel_rfl) (by kernel_rfl) (by kernel_rfl) (by kernel_rfl)) ?_
  intro W base args ds gs before hval0 hW hcnd _
  have hval : ∀ (j : Nat) t v, Try.f4.params[j]? = some t → args[j]? = some v → Value.okWide Try.prog W .any base t v := hval0
  have hW' := hW
  obtain ⟨p, q, hA0, hV, rfl, hfz, hnd⟩ := hW
  have hA : DataW.TrodAll enc Try.prog W 0 (fun _ => true) true Try.f4.params.toList args.toList ds p := hA0
  rw [Try.params4] at hA hval
  obtain ⟨v0, vs0, d0, ds0, p0, q0, hargs, rfl, rfl, h0, r0⟩ := trodAll_cons hA
  obtain ⟨v1, vs1, d1, ds1, p1, q1, rfl, rfl, rfl, h1, r1⟩ := trodAll_cons r0
  obtain ⟨v2, vs2, d2, ds2, p2, q2, rfl, rfl, rfl, h2, r2⟩ := trodAll_cons r1
  obtain ⟨v3, vs3, d3, ds3, p3, q3, rfl, rfl, rfl, h3, r3⟩ := trodAll_cons r2
  obtain ⟨v4, vs4, d4, ds4, p4, q4, rfl, rfl, rfl, h4, r4⟩ := trodAll_cons r3
  obtain ⟨rfl, rfl, rfl⟩ := trodAll_nil r4
  obtain rfl : args = #[v0, v1, v2, v3, v4] := by cases args; simp_all
  obtain ⟨rfl, rfl⟩ := trodVars_none hV
  obtain ⟨a0, len0, cap0, rfl⟩ := okWide_slice Try.underlying22 (hval 0 22 v0 rfl rfl)
  have k0 := h0
  have lt0 : ∀ x ∈ p0, x.block < W.heap.size := by obtain ⟨m, hm⟩ := k0; exact DataW.trod_lt m _ _ _ hm
  obtain ⟨z0, w0⟩ : ∃ zs, IsRow .u8 W a0 len0 cap0 zs := by
    obtain ⟨fuel, hf⟩ := h0
    rcases open_ints Try.underlying22 Try.underlying5 (by kernel_rfl) hf with ⟨hcs, _⟩ | ⟨x, l, c, zs, hcs, _, hl, hm, hz, _, hcell, hwz⟩
    · simp [Value.cells] at hcs
      obtain ⟨rfl, rfl, rfl⟩ := hcs
      exact ⟨[], .inl ⟨rfl, rfl, rfl, rfl⟩⟩
    · simp [Value.cells] at hcs
      obtain ⟨rfl, rfl, rfl⟩ := hcs
      exact ⟨zs, .inr ⟨_, rfl, hl, hm, by simpa using hz, hcell, hwz⟩⟩
  obtain ⟨a1, rfl, rfl, rfl, w1⟩ := open_int Try.underlying3 (hval 1 3 v1 rfl rfl) h1
  obtain ⟨a2, rfl, rfl, rfl, w2⟩ := open_int Try.underlying27 (hval 2 27 v2 rfl rfl) h2
  obtain ⟨a3, len3, cap3, rfl⟩ := okWide_slice Try.underlying22 (hval 3 22 v3 rfl rfl)
  have k3 := h3
  have lt3 : ∀ x ∈ p3, x.block < W.heap.size := by obtain ⟨m, hm⟩ := k3; exact DataW.trod_lt m _ _ _ hm
  obtain ⟨z3, w3⟩ : ∃ zs, IsRow .u8 W a3 len3 cap3 zs := by
    obtain ⟨fuel, hf⟩ := h3
    rcases open_ints Try.underlying22 Try.underlying5 (by kernel_rfl) hf with ⟨hcs, _⟩ | ⟨x, l, c, zs, hcs, _, hl, hm, hz, _, hcell, hwz⟩
    · simp [Value.cells] at hcs
      obtain ⟨rfl, rfl, rfl⟩ := hcs
      exact ⟨[], .inl ⟨rfl, rfl, rfl, rfl⟩⟩
    · simp [Value.cells] at hcs
      obtain ⟨rfl, rfl, rfl⟩ := hcs
      exact ⟨zs, .inr ⟨_, rfl, hl, hm, by simpa using hz, hcell, hwz⟩⟩
  obtain ⟨a4, rfl, rfl, rfl, w4⟩ := open_int Try.underlying3 (hval 4 3 v4 rfl rfl) h4
  clear hA0 hval0
  refine (walk a0 len0 cap0 z0 a1 a2 a3 len3 cap3 z3 a4 W w0 w1 w2 w3 w4).mono fun e W' ⟨he, bel⟩ => ?_
  subst he
  exact ⟨_, rfl, _, _, _, [], _, [], hW', trodAll_mk1 (shut_bool Try.underlying4 _), (trodAll_cons_mk (Below.trod laidOut (by kernel_rfl) (of_decide_eq_true (by kernel_rfl)) k0 bel lt0) (trodAll_cons_mk (shut_int Try.underlying3 w1) (trodAll_cons_mk (shut_int Try.underlying27 w2) (trodAll_cons_mk (Below.trod laidOut (by kernel_rfl) (of_decide_eq_true (by kernel_rfl)) k3 bel lt3) (trodAll_cons_mk (shut_int Try.underlying3 w4) trodAll_mk0))))), rfl, bel.frame _, fun h => by cases h⟩

theorem over : Rows.fnDecodeRangeInvertsAppendRangeRow.holds Try.pinned (OpenSpec.ofChange Rows.fnDecodeRangeInvertsAppendRangeSpec) :=
  OpenClaim.holds_of_wide 4 Try.f4 rfl rfl rfl rfl rfl rfl rfl ⟨rfl, rfl, rfl, rfl, rfl⟩ rfl rfl rfl rfl rfl (by kernel_rfl) Try.func4 (by kernel_rfl)
    (of_decide_eq_true (by kernel_rfl)) (by unfold Func.isWrapper; first | (rw [if_pos (by decide +kernel)]; kernel_rfl) | (rw [if_neg (by decide +kernel)]; exact ⟨rfl, rfl⟩))
    (fun os started H enc _ => lifted os started H enc)

/-- ████ THE STATEMENT ████ -/
theorem proved : Rows.FnDecodeRangeInvertsAppendRangeSaid := over
#print axioms proved
end Go.Proofs.Qxb6603786a.fnDecodeRangeInvertsAppendRange
