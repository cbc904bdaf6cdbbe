/-
  'Rows.FnAppendRangeKeepsOrderSaid': after the shell that was given; the walk's end is said by 'Below'.
-/
import Derived.Test.Qxb6603786aRows
import Derived.Test.Qxb6603786aShape
import Derived.WalkKit
import Derived.ProofKit
import Derived.OpenShut
import Derived.ShutString
namespace Go.Proofs.Qxb6603786a.fnAppendRangeKeepsOrder
open Go.ChangeShapes Go.WideShapes Go.ChangeAt Go.RowKit
open Go.ChangeMaps (open_string shut_string)
set_option linter.unusedVariables false      -- a walk need not use every 'w<i>' (that an integer argument fits its kind)

theorem own : ownKnob Try.prog.godebug = none := by kernel_rfl

/-! ### THE WALK -/
/-- The depth is out of range. -/
theorem walk_out (d p q : Int) (h : d < 0 ∨ 255 < d) (w : World) :
    Calls Try.prog 6 #[.int .i64 d, .int .u64 p, .int .u64 q] w fun e w' => e = .returned (.bool true) ∧ Below w.heap.size w w' := by
  rcases h with h | h
  · go_enter Try.func6, Try.ntmps6
    go_wp2
    go_ret
    exact ⟨rfl, Below.refl _ _⟩
  · have h0 : ¬ d < 0 := by omega
    go_enter Try.func6, Try.ntmps6
    go_wp2
    go_ret
    exact ⟨rfl, Below.refl _ _⟩

/-- The first number has too many bits. -/
theorem walk_p (d p q : Int) (h0 : 0 ≤ d) (h1 : d < 16) (hp : (p / 2 ^ (4 * d).toNat == 0) = false) (w : World) :
    Calls Try.prog 6 #[.int .i64 d, .int .u64 p, .int .u64 q] w fun e w' => e = .returned (.bool true) ∧ Below w.heap.size w w' := by
  have hp' : (p / 2 ^ (4 * d).toNat != 0) = true := by rw [bne, hp]; rfl
  go_enter Try.func6, Try.ntmps6
  go_wp2
  go_ret
  exact ⟨rfl, Below.refl _ _⟩

/-- The second number has too many bits. -/
theorem walk_q (d p q : Int) (h0 : 0 ≤ d) (h1 : d < 16) (hp : (p / 2 ^ (4 * d).toNat == 0) = true) (hq : (q / 2 ^ (4 * d).toNat == 0) = false) (w : World) :
    Calls Try.prog 6 #[.int .i64 d, .int .u64 p, .int .u64 q] w fun e w' => e = .returned (.bool true) ∧ Below w.heap.size w w' := by
  have hp' : (p / 2 ^ (4 * d).toNat != 0) = false := by rw [bne, hp]; rfl
  have hq' : (q / 2 ^ (4 * d).toNat != 0) = true := by rw [bne, hq]; rfl
  go_enter Try.func6, Try.ntmps6
  go_wp2
  go_ret
  exact ⟨rfl, Below.refl _ _⟩

/-- The main way. -/
theorem walk_main (d p q : Int) (h0 : 0 ≤ d) (h1 : d ≤ 255) (hp0 : 0 ≤ p) (hp1 : p ≤ 18446744073709551615) (hq0 : 0 ≤ q) (hq1 : q ≤ 18446744073709551615)
    (hd : 16 ≤ d ∨ d < 16 ∧ (p / 2 ^ (4 * d).toNat == 0) = true ∧ (q / 2 ^ (4 * d).toNat == 0) = true) (hcmp : Hid (Pl.cmpL (Pl.enc d p) (Pl.enc d q) = Pl.cmpI p q)) (w : World) :
    Calls Try.prog 6 #[.int .i64 d, .int .u64 p, .int .u64 q] w fun e w' => e = .returned (.bool true) ∧ Below w.heap.size w w' := by
  have hcn : (Pl.cnt d : Int) = (d + 1) / 2 := Pl.cnt_nonneg d h0
  have hcb : Pl.cnt d ≤ 128 := by omega
  clear hcn
  have key : ∀ (r s : Int), r = s → (r == s) = true := fun r s h => by simp [h]
  rcases hd with hd | ⟨hd, hp, hq⟩
  all_goals
    try have hp' : (p / 2 ^ (4 * d).toNat != 0) = false := by rw [bne, hp]; rfl
    try have hq' : (q / 2 ^ (4 * d).toNat != 0) = false := by rw [bne, hq]; rfl
    try have hd' : decide (d < 16) = false := decide_eq_false (by omega)
    go_enter Try.func6, Try.ntmps6
    go_wp2_with fail
    refine (zzAppend_nil d p _ (by omega) (by omega) hp0 hp1).mono ?_
    rintro e w1 ⟨g1, cap1, rfl, a1, a2, a6, bel1⟩
    have A6 : Hid (∀ j, j < 1 + Pl.cnt d → w1.cell? ⟨g1, j, none⟩ = some (.int .u8 ((Pl.enc d p).getD j 0))) := a6
    clear a6
    go_wp2_with fail
    refine (zzAppend_nil d q _ (by omega) (by omega) hq0 hq1).mono ?_
    rintro e w2 ⟨g2, cap2, rfl, b1, b2, b6, bel2⟩
    have B6 : Hid (∀ j, j < 1 + Pl.cnt d → w2.cell? ⟨g2, j, none⟩ = some (.int .u8 ((Pl.enc d q).getD j 0))) := b6
    have C6 : Hid (∀ j, j < 1 + Pl.cnt d → w2.cell? ⟨g1, j, none⟩ = some (.int .u8 ((Pl.enc d p).getD j 0))) := fun j hj => (bel2.cell (by exact a2)).trans (A6.out j hj)
    clear b6
    by_cases hlt : p < q
    · have hw : Pl.cmpI p q = -1 := by unfold Pl.cmpI; rw [if_pos hlt]
      rw [hw] at hcmp
      clear hw
      go_wp2_with fail
      refine (compareBytes_any g1 0 (1 + Pl.cnt d) cap1 g2 0 (1 + Pl.cnt d) cap2 (Pl.enc d p) (Pl.enc d q) _ (Pl.enc_length d p) (Pl.enc_length d q) (by omega) (by omega) (fun j hj => by rw [Nat.zero_add]; exact C6.out j hj) (fun j hj => by rw [Nat.zero_add]; exact B6.out j hj)).mono ?_
      rw [hcmp.out]
      rintro e w3 ⟨rfl, nq, rfl⟩
      go_wp2
      go_ret
      exact ⟨rfl, below_drewN' (bel1.trans (bel2.mono bel1.size)) _⟩
    · by_cases hgt : q < p
      · have hw : Pl.cmpI p q = 1 := by unfold Pl.cmpI; rw [if_neg hlt, if_pos hgt]
        rw [hw] at hcmp
        clear hw
        go_wp2_with fail
        refine (compareBytes_any g1 0 (1 + Pl.cnt d) cap1 g2 0 (1 + Pl.cnt d) cap2 (Pl.enc d p) (Pl.enc d q) _ (Pl.enc_length d p) (Pl.enc_length d q) (by omega) (by omega) (fun j hj => by rw [Nat.zero_add]; exact C6.out j hj) (fun j hj => by rw [Nat.zero_add]; exact B6.out j hj)).mono ?_
        rw [hcmp.out]
        rintro e w3 ⟨rfl, nq, rfl⟩
        go_wp2
        go_ret
        exact ⟨rfl, below_drewN' (bel1.trans (bel2.mono bel1.size)) _⟩
      · have hw : Pl.cmpI p q = 0 := by unfold Pl.cmpI; rw [if_neg hlt, if_neg hgt]
        rw [hw] at hcmp
        clear hw
        go_wp2_with fail
        refine (compareBytes_any g1 0 (1 + Pl.cnt d) cap1 g2 0 (1 + Pl.cnt d) cap2 (Pl.enc d p) (Pl.enc d q) _ (Pl.enc_length d p) (Pl.enc_length d q) (by omega) (by omega) (fun j hj => by rw [Nat.zero_add]; exact C6.out j hj) (fun j hj => by rw [Nat.zero_add]; exact B6.out j hj)).mono ?_
        rw [hcmp.out]
        rintro e w3 ⟨rfl, nq, rfl⟩
        go_wp2
        go_ret
        exact ⟨rfl, below_drewN' (bel1.trans (bel2.mono bel1.size)) _⟩

theorem walk (a0 : Int) (a1 : Int) (a2 : Int) (w0 : (Lit.int .i64 a0).wf = true) (w1 : (Lit.int .u64 a1).wf = true) (w2 : (Lit.int .u64 a2).wf = true) (w : World) :
    Calls Try.prog 6 #[.int .i64 a0, .int .u64 a1, .int .u64 a2] w fun e w' => e = .returned (.bool true) ∧ Below w.heap.size w w' := by
  have b1 := bounds_u64 w1
  have b2 := bounds_u64 w2
  by_cases h : a0 < 0 ∨ 255 < a0
  · exact walk_out a0 a1 a2 h w
  have h0 : 0 ≤ a0 := by omega
  have h1 : a0 ≤ 255 := by omega
  have lt_of : ∀ p : Int, (p / 2 ^ (4 * a0).toNat == 0) = true → 0 ≤ p → p < 2 ^ (4 * a0).toNat := by
    intro p hp hp0
    have hP : (0 : Int) < 2 ^ (4 * a0).toNat := Int.pow_pos (by decide)
    have e : p / 2 ^ (4 * a0).toNat = 0 := by simpa using hp
    have := Int.lt_mul_ediv_self_add (x := p) hP
    rw [e] at this
    omega
  by_cases h16 : a0 < 16
  · cases hp : (a1 / 2 ^ (4 * a0).toNat == 0)
    · exact walk_p a0 a1 a2 h0 h16 hp w
    · cases hq : (a2 / 2 ^ (4 * a0).toNat == 0)
      · exact walk_q a0 a1 a2 h0 h16 hp hq w
      · exact walk_main a0 a1 a2 h0 h1 b1.1 (by omega) b2.1 (by omega) (.inr ⟨h16, hp, hq⟩) (Pl.cmp_enc a0 a1 a2 h0 b1.1 (by omega) b2.1 (by omega) (fun _ => lt_of a1 hp b1.1) (fun _ => lt_of a2 hq b2.1)) w
  · exact walk_main a0 a1 a2 h0 h1 b1.1 (by omega) b2.1 (by omega) (.inl (by omega)) (Pl.cmp_enc a0 a1 a2 h0 b1.1 (by omega) b2.1 (by omega) (fun h => absurd h h16) (fun h => absurd h h16)) w

/-! ### THE ROW's STEP: as the shell has it, but for 'Below' -/
set_option maxRecDepth 100000 in
theorem lifted (os : Os) (started : os.Started) (H : Type) (enc : TypeId × Value → H) :
    ReturnsInHanded {} Try.checked os 6 .any (Rows.fnAppendRangeKeepsOrderSpec.pre6 enc Try.prog Try.f6 Rows.fnAppendRangeKeepsOrderRow.domain false) (Rows.fnAppendRangeKeepsOrderSpec.post enc Try.prog Try.f6 false true false false) := by
  refine returnsInHanded_of_change (C := Try.checked) own started (by kernel_rfl) Try.func6
    (ChangeSpec.witness6 (enc := enc) (C := Try.checked) false ⟨#[], #[.int .i64 0, .int .u64 0, .int .u64 0], []⟩ 8 (by kernel_rfl) (by kernel_rfl) (by kernel_rfl) (by kernel_rfl)) ?_
  intro W base args ds gs before hval0 hW hcnd _
  have hval : ∀ (j : Nat) t v, Try.f6.params[j]? = some t → args[j]? = some v → Value.okWide Try.prog W .any base t v := hval0
  have hW' := hW
  obtain ⟨p, q, hA0, hV, rfl, hfz, hnd⟩ := hW
  have hA : DataW.TrodAll enc Try.prog W 0 (fun _ => true) true Try.f6.params.toList args.toList ds p := hA0
  rw [Try.params6] at hA hval
  obtain ⟨v0, vs0, d0, ds0, p0, q0, hargs, rfl, rfl, h0, r0⟩ := trodAll_cons hA
  obtain ⟨v1, vs1, d1, ds1, p1, q1, rfl, rfl, rfl, h1, r1⟩ := trodAll_cons r0
  obtain ⟨v2, vs2, d2, ds2, p2, q2, rfl, rfl, rfl, h2, r2⟩ := trodAll_cons r1
  obtain ⟨rfl, rfl, rfl⟩ := trodAll_nil r2
  obtain rfl : args = #[v0, v1, v2] := by cases args; simp_all
  obtain ⟨rfl, rfl⟩ := trodVars_none hV
  obtain ⟨a0, rfl, rfl, rfl, w0⟩ := open_int Try.underlying3 (hval 0 3 v0 rfl rfl) h0
  obtain ⟨a1, rfl, rfl, rfl, w1⟩ := open_int Try.underlying27 (hval 1 27 v1 rfl rfl) h1
  obtain ⟨a2, rfl, rfl, rfl, w2⟩ := open_int Try.underlying27 (hval 2 27 v2 rfl rfl) h2
  clear hA0 hval0
  simp only [List.append_nil] at hW'
  refine (walk a0 a1 a2 w0 w1 w2 W).mono fun e W' ⟨he, bel⟩ => ?_
  subst he
  exact ⟨_, rfl, _, _, _, [], [], [], hW', trodAll_mk1 (shut_bool Try.underlying4 _), (trodAll_cons_mk (shut_int Try.underlying3 w0) (trodAll_cons_mk (shut_int Try.underlying27 w1) (trodAll_cons_mk (shut_int Try.underlying27 w2) trodAll_mk0))), rfl, bel.frame _, fun h => by cases h⟩

theorem over : Rows.fnAppendRangeKeepsOrderRow.holds Try.pinned (OpenSpec.ofChange Rows.fnAppendRangeKeepsOrderSpec) :=
  OpenClaim.holds_of_wide 6 Try.f6 rfl rfl rfl rfl rfl rfl rfl ⟨rfl, rfl, rfl, rfl, rfl⟩ rfl rfl rfl rfl rfl (by kernel_rfl) Try.func6 (by kernel_rfl)
    (of_decide_eq_true (by kernel_rfl)) (by unfold Func.isWrapper; first | (rw [if_pos (by decide +kernel)]; kernel_rfl) | (rw [if_neg (by decide +kernel)]; exact ⟨rfl, rfl⟩))
    (fun os started H enc _ => lifted os started H enc)

/-- ████ THE STATEMENT ████ -/
theorem proved : Rows.FnAppendRangeKeepsOrderSaid :=
  over
#print axioms proved
end Go.Proofs.Qxb6603786a.fnAppendRangeKeepsOrder
