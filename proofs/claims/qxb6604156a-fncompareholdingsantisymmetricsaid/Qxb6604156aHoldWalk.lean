/-
  THE WALKS of compareHoldings(17), ZZcompareHoldings(14), zzBytes(13).
-/
import Derived.Test.Qxb6604156aHold
namespace Go.Proofs.Qxb6604156a
open Go.RowKit

/-- What compareHoldings answers: the accounts decide, the classes where they tie. -/
def cmpH (a0 a1 b0 b1 : ByteArray) : Int := if cmpS a0 b0 = 0 then cmpS a1 b1 else cmpS a0 b0

theorem hidH {p : Prop} (h : p) : Hid p := h

set_option maxHeartbeats 400000 in
theorem compareHoldings_any (a0 a1 b0 b1 : ByteArray) (w : World) :
    Calls Try.prog 17 #[.agg #[.string a0, .string a1], .agg #[.string b0, .string b1]] w fun e w' => e = .returned (.int .i64 (cmpH a0 a1 b0 b1)) ∧ Below w.heap.size w w' := by
  have HB : Hid (Below w.heap.size w ((w.alloc (.cells #[.string a0, .string a1] 38)).alloc (.cells #[.string b0, .string b1] 38))) := ((Below.refl _ _).alloc (Nat.le_refl _) _).alloc (by simp) _
  have k1 : ∀ wx, Hid (Calls Try.prog 19 #[.string a0, .string b0] wx fun e w' => e = .returned (.int .i64 (cmpS a0 b0)) ∧ w' = wx) := fun wx => strings_Compare a0 b0 wx
  have k2 : ∀ wx, Hid (Calls Try.prog 19 #[.string a1, .string b1] wx fun e w' => e = .returned (.int .i64 (cmpS a1 b1)) ∧ w' = wx) := fun wx => strings_Compare a1 b1 wx
  have K1 := hidH k1
  have K2 := hidH k2
  clear k1 k2
  by_cases hz : cmpS a0 b0 = 0
  · have e1 : cmpH a0 a1 b0 b1 = cmpS a1 b1 := by unfold cmpH; rw [if_pos hz]
    rw [e1]
    rw [hz] at K1
    clear e1 hz
    generalize cmpS a1 b1 = c at *
    go_enter Try.func17, Try.ntmps17
    go_wp2_with fail
    refine ((K1.out _).out).mono ?_
    rintro e w1 ⟨rfl, rfl⟩
    go_wp2_with fail
    refine ((K2.out _).out).mono ?_
    rintro e w1 ⟨rfl, rfl⟩
    go_wp2
    go_ret
    exact ⟨rfl, HB.out⟩
  · have e1 : cmpH a0 a1 b0 b1 = cmpS a0 b0 := by unfold cmpH; rw [if_neg hz]
    rw [e1]
    have h1 : (cmpS a0 b0 == 0) = false := beq_eq_false_iff_ne.2 hz
    have h2 : (cmpS a0 b0 != 0) = true := by rw [bne, h1]; rfl
    clear e1 hz
    generalize cmpS a0 b0 = c at *
    go_enter Try.func17, Try.ntmps17
    go_wp2_with fail
    refine ((K1.out _).out).mono ?_
    rintro e w1 ⟨rfl, rfl⟩
    go_wp2
    go_ret
    exact ⟨rfl, HB.out⟩

theorem zzHold_any (a0 a1 b0 b1 : ByteArray) (w : World) :
    Calls Try.prog 14 #[.string a0, .string a1, .string b0, .string b1] w fun e w' => e = .returned (.int .i64 (cmpH a0 a1 b0 b1)) ∧ Below w.heap.size w w' := by
  go_enter Try.func14, Try.ntmps14
  go_wp2_with fail
  refine (compareHoldings_any a0 a1 b0 b1 _).mono ?_
  rintro e w1 ⟨rfl, b1⟩
  go_wp2
  go_ret
  exact ⟨rfl, b1⟩

/-- The lengths are within the bound. -/
theorem zzBytes13_yes (a b c d : ByteArray) (w : World) (h : a.size + b.size + c.size + d.size ≤ 1048576) :
    Calls Try.prog 13 #[.string a, .string b, .string c, .string d] w fun e w' => e = .returned (.bool true) ∧ w' = w := by
  go_enter Try.func13, Try.ntmps13
  go_wp2
  go_ret
  exact ⟨rfl, rfl⟩

/-- They are not. -/
theorem zzBytes13_no (a b c d : ByteArray) (w : World) (ma : a.size ≤ 9223372036854775807) (mb : b.size ≤ 9223372036854775807) (mc : c.size ≤ 9223372036854775807) (md : d.size ≤ 9223372036854775807) (h : 1048576 < a.size + b.size + c.size + d.size) :
    Calls Try.prog 13 #[.string a, .string b, .string c, .string d] w fun e w' => e = .returned (.bool false) ∧ w' = w := by
  have ways : 1048576 < a.size ∨ (a.size ≤ 1048576 ∧ 1048576 < b.size) ∨ (a.size + b.size ≤ 2097152 ∧ a.size ≤ 1048576 ∧ b.size ≤ 1048576 ∧ 1048576 < a.size + b.size) ∨ (a.size + b.size ≤ 1048576 ∧ 1048576 < c.size) ∨
      (a.size + b.size ≤ 1048576 ∧ c.size ≤ 1048576 ∧ 1048576 < a.size + b.size + c.size) ∨ (a.size + b.size + c.size ≤ 1048576 ∧ 1048576 < d.size) ∨ (a.size + b.size + c.size ≤ 1048576 ∧ d.size ≤ 1048576) := by omega
  rcases ways with h1 | ⟨h1, h2⟩ | ⟨_, h1, h2, h3⟩ | ⟨h1, h2⟩ | ⟨h1, h2, h3⟩ | ⟨h1, h2⟩ | ⟨h1, h2⟩
  all_goals
    go_enter Try.func13, Try.ntmps13
    go_wp2
    go_ret
    exact ⟨rfl, rfl⟩

end Go.Proofs.Qxb6604156a
