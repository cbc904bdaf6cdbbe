/-
  THE WALKS of CompareString(20), strings.Compare(19), compareHoldings(17), ZZcompareHoldings(14), zzBytes(13). The first two after the shelf's templates.
-/
import Derived.Test.Qxb6604156aRows
import Derived.WalkKit
import Derived.WalkSpells
import Derived.WalkLawsBesides
import Derived.Lib.Strings
import Derived.Lib.Slices
import Derived.Lib.Walk
import Derived.Lib.Bytealg
namespace Go.Proofs.Qxb6604156a
open Go.RowKit

set_option maxHeartbeats 1000000 in
set_option maxRecDepth 100000 in
theorem bytealg_CompareString (a b : ByteArray) (w : World) :
    Calls Try.prog 20 #[.string a, .string b] w fun e w' => e = .returned (.int .i64 (Lib.compareBytes a.data.toList b.data.toList)) ∧ w' = w := by
  go_enter Try.func20, Try.ntmps20
  go_wp2
  rw [run_callFunc_extern Try.func21 (by kernel_rfl) (by kernel_rfl) (by kernel_rfl) (e := Extern.BytealgCompare.compare) (by kernel_rfl), Lib.run_compareString]
  simp only [Result.andThen]
  rw [Oper.upon_value]
  go_wp2
  go_ret
  exact ⟨rfl, rfl⟩

set_option maxHeartbeats 1000000 in
theorem strings_Compare (a b : ByteArray) (w : World) :
    Calls Try.prog 19 #[.string a, .string b] w fun e w' => e = .returned (.int .i64 (Lib.compareBytes a.data.toList b.data.toList)) ∧ w' = w := by
  go_enter Try.func19, Try.ntmps19
  go_wp2_with (go_at_call 20; refine (bytealg_CompareString _ _ _).mono ?_; rintro e w' ⟨rfl, rfl⟩)
  go_ret
  exact ⟨rfl, rfl⟩

/-! ### the plain law -/
def cmpS (a b : ByteArray) : Int := Lib.compareBytes a.data.toList b.data.toList

theorem cmpB_swap : ∀ (a b : List UInt8), Lib.compareBytes b a = - Lib.compareBytes a b
  | [], [] => rfl
  | [], _ :: _ => rfl
  | _ :: _, [] => rfl
  | x :: a, y :: b => by
    have ih := cmpB_swap a b
    simp only [Lib.compareBytes]
    by_cases h1 : x < y
    · have h2 : ¬ y < x := UInt8.not_lt.2 (UInt8.le_of_lt h1)
      simp [h1, h2]
    · by_cases h2 : y < x
      · simp [h1, h2]
      · simp [h1, h2, ih]

theorem cmpB_zero : ∀ (a b : List UInt8), Lib.compareBytes a b = 0 → a = b
  | [], [], _ => rfl
  | [], _ :: _, h => by simp [Lib.compareBytes] at h
  | _ :: _, [], h => by simp [Lib.compareBytes] at h
  | x :: a, y :: b, h => by
    simp only [Lib.compareBytes] at h
    by_cases h1 : x < y
    · simp [h1] at h
    · by_cases h2 : y < x
      · simp [h1, h2] at h
      · simp [h1, h2] at h
        have e : x = y := UInt8.le_antisymm (UInt8.not_lt.1 h2) (UInt8.not_lt.1 h1)
        rw [e, cmpB_zero a b h]

theorem cmpB_self : ∀ (a : List UInt8), Lib.compareBytes a a = 0
  | [] => rfl
  | x :: a => by
    simp only [Lib.compareBytes]
    have h1 : ¬ x < x := UInt8.lt_irrefl x
    simp [cmpB_self a]

theorem cmpB_three : ∀ (a b : List UInt8), Lib.compareBytes a b = -1 ∨ Lib.compareBytes a b = 1 ∨ Lib.compareBytes a b = 0
  | [], [] => .inr (.inr rfl)
  | [], _ :: _ => .inl rfl
  | _ :: _, [] => .inr (.inl rfl)
  | x :: a, y :: b => by
    have ih := cmpB_three a b
    simp only [Lib.compareBytes]
    by_cases h1 : x < y
    · simp [h1]
    · by_cases h2 : y < x
      · simp [h1, h2]
      · simpa [h1, h2] using ih

theorem cmpS_swap (a b : ByteArray) : cmpS b a = - cmpS a b := cmpB_swap _ _
theorem cmpS_self (a : ByteArray) : cmpS a a = 0 := cmpB_self _
theorem cmpS_zero (a b : ByteArray) (h : cmpS a b = 0) : a = b := by
  have e := cmpB_zero _ _ h
  obtain ⟨⟨la⟩⟩ := a
  obtain ⟨⟨lb⟩⟩ := b
  simp at e
  subst e
  rfl
theorem cmpS_three (a b : ByteArray) : cmpS a b = -1 ∨ cmpS a b = 1 ∨ cmpS a b = 0 := cmpB_three _ _
theorem ne_of_cmpS (a b : ByteArray) (h : cmpS a b ≠ 0) : (a.toList == b.toList) = false := by
  rw [ByteArray.toList_eq, ByteArray.toList_eq]
  rw [beq_eq_false_iff_ne]
  intro e
  apply h
  unfold cmpS
  rw [e]
  exact cmpB_self _

end Go.Proofs.Qxb6604156a
