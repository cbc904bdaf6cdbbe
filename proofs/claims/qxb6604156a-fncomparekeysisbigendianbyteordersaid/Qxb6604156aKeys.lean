/-
  THE WALKS of idKey.less(18), compareKeys(16), ZZcompareKeys(10).
-/
import Derived.Test.Qxb6604156aRows
import Derived.WalkKit
import Derived.WalkSpells
import Derived.WalkLawsBesides
import Derived.Deep.QuietTactic
import Derived.BigQuiet
namespace Go.Proofs.Qxb6604156a
open Go.RowKit

/-- The order of two keys: the high word first. -/
def LessK (ah al bh bl : Int) : Prop := ah < bh ∨ (ah = bh ∧ al < bl)

theorem less_yes (ah al bh bl : Int) (w : World) (h : LessK ah al bh bl) :
    Calls Try.prog 18 #[.agg #[.int .u64 ah, .int .u64 al], .agg #[.int .u64 bh, .int .u64 bl]] w fun e w' => e = .returned (.bool true) ∧ Below w.heap.size w w' := by
  rcases h with h | ⟨rfl, h⟩
  · go_enter Try.func18, Try.ntmps18
    go_wp2
    go_ret
    exact ⟨rfl, ((Below.refl _ _).alloc (Nat.le_refl _) _).alloc (by simp) _⟩
  · go_enter Try.func18, Try.ntmps18
    go_wp2
    go_ret
    exact ⟨rfl, ((Below.refl _ _).alloc (Nat.le_refl _) _).alloc (by simp) _⟩

theorem less_no (ah al bh bl : Int) (w : World) (h : bh < ah ∨ (ah = bh ∧ bl ≤ al)) :
    Calls Try.prog 18 #[.agg #[.int .u64 ah, .int .u64 al], .agg #[.int .u64 bh, .int .u64 bl]] w fun e w' => e = .returned (.bool false) ∧ Below w.heap.size w w' := by
  rcases h with h | ⟨rfl, h⟩
  · have h1 : decide (ah < bh) = false := decide_eq_false (by omega)
    have h2 : (ah == bh) = false := beq_eq_false_iff_ne.2 (by omega)
    go_enter Try.func18, Try.ntmps18
    go_wp2
    go_ret
    exact ⟨rfl, ((Below.refl _ _).alloc (Nat.le_refl _) _).alloc (by simp) _⟩
  · have h1 : decide (al < bl) = false := decide_eq_false (by omega)
    go_enter Try.func18, Try.ntmps18
    go_wp2
    go_ret
    exact ⟨rfl, ((Below.refl _ _).alloc (Nat.le_refl _) _).alloc (by simp) _⟩

/-- What compareKeys answers. -/
def cmpK (ah al bh bl : Int) : Int := if ah < bh ∨ (ah = bh ∧ al < bl) then -1 else if bh < ah ∨ (bh = ah ∧ bl < al) then 1 else 0

set_option maxHeartbeats 400000 in
theorem compareKeys_any (ah al bh bl : Int) (w : World) :
    Calls Try.prog 16 #[.agg #[.int .u64 ah, .int .u64 al], .agg #[.int .u64 bh, .int .u64 bl]] w fun e w' => e = .returned (.int .i64 (cmpK ah al bh bl)) ∧ Below w.heap.size w w' := by
  have H1 : Hid (Below w.heap.size w ((w.alloc (.cells #[.int .u64 ah, .int .u64 al] 34)).alloc (.cells #[.int .u64 bh, .int .u64 bl] 34))) := ((Below.refl _ _).alloc (Nat.le_refl _) _).alloc (by simp) _
  by_cases h1 : ah < bh ∨ (ah = bh ∧ al < bl)
  · have e1 : cmpK ah al bh bl = -1 := by unfold cmpK; rw [if_pos h1]
    rw [e1]
    have G1 : Hid (LessK ah al bh bl) := h1
    clear h1 e1
    go_enter Try.func16, Try.ntmps16
    go_wp2_with fail
    refine (less_yes ah al bh bl _ G1.out).mono ?_
    rintro e w1 ⟨rfl, b1⟩
    go_wp2
    go_ret
    exact ⟨rfl, H1.out.trans (b1.mono (by simp; omega))⟩
  · by_cases h2 : bh < ah ∨ (bh = ah ∧ bl < al)
    · have e1 : cmpK ah al bh bl = 1 := by unfold cmpK; rw [if_neg h1, if_pos h2]
      rw [e1]
      have G1 : Hid (bh < ah ∨ (ah = bh ∧ bl ≤ al)) := show _ ∨ _ by omega
      have G2 : Hid (LessK bh bl ah al) := h2
      clear h1 h2 e1
      go_enter Try.func16, Try.ntmps16
      go_wp2_with fail
      refine (less_no ah al bh bl _ G1.out).mono ?_
      rintro e w1 ⟨rfl, b1⟩
      have k0 : w1.cell? ⟨w.heap.size, 0, none⟩ = some (.int .u64 ah) := (b1.cell (by simp; omega)).trans (by simp)
      have k1 : w1.cell? ⟨w.heap.size, 1, none⟩ = some (.int .u64 al) := (b1.cell (by simp; omega)).trans (by simp)
      have k2 : w1.cell? ⟨w.heap.size + 1, 0, none⟩ = some (.int .u64 bh) := (b1.cell (by simp)).trans (by simp)
      have k3 : w1.cell? ⟨w.heap.size + 1, 1, none⟩ = some (.int .u64 bl) := (b1.cell (by simp)).trans (by simp)
      go_wp2_with fail
      refine (less_yes bh bl ah al _ G2.out).mono ?_
      rintro e w2 ⟨rfl, b2⟩
      go_wp2
      go_ret
      exact ⟨rfl, (H1.out.trans (b1.mono (by simp; omega))).trans (b2.mono (by have := b1.size; simp at this; omega))⟩
    · have e1 : cmpK ah al bh bl = 0 := by unfold cmpK; rw [if_neg h1, if_neg h2]
      rw [e1]
      have G1 : Hid (bh < ah ∨ (ah = bh ∧ bl ≤ al)) := show _ ∨ _ by omega
      have G2 : Hid (ah < bh ∨ (bh = ah ∧ al ≤ bl)) := show _ ∨ _ by omega
      clear h1 h2 e1
      go_enter Try.func16, Try.ntmps16
      go_wp2_with fail
      refine (less_no ah al bh bl _ G1.out).mono ?_
      rintro e w1 ⟨rfl, b1⟩
      have k0 : w1.cell? ⟨w.heap.size, 0, none⟩ = some (.int .u64 ah) := (b1.cell (by simp; omega)).trans (by simp)
      have k1 : w1.cell? ⟨w.heap.size, 1, none⟩ = some (.int .u64 al) := (b1.cell (by simp; omega)).trans (by simp)
      have k2 : w1.cell? ⟨w.heap.size + 1, 0, none⟩ = some (.int .u64 bh) := (b1.cell (by simp)).trans (by simp)
      have k3 : w1.cell? ⟨w.heap.size + 1, 1, none⟩ = some (.int .u64 bl) := (b1.cell (by simp)).trans (by simp)
      go_wp2_with fail
      refine (less_no bh bl ah al _ G2.out).mono ?_
      rintro e w2 ⟨rfl, b2⟩
      go_wp2
      go_ret
      exact ⟨rfl, (H1.out.trans (b1.mono (by simp; omega))).trans (b2.mono (by have := b1.size; simp at this; omega))⟩

theorem zzCompareKeys_any (ah al bh bl : Int) (w : World) :
    Calls Try.prog 10 #[.int .u64 ah, .int .u64 al, .int .u64 bh, .int .u64 bl] w fun e w' => e = .returned (.int .i64 (cmpK ah al bh bl)) ∧ Below w.heap.size w w' := by
  go_enter Try.func10, Try.ntmps10
  go_wp2_with fail
  refine (compareKeys_any ah al bh bl _).mono ?_
  rintro e w1 ⟨rfl, b1⟩
  go_wp2
  go_ret
  exact ⟨rfl, b1⟩

end Go.Proofs.Qxb6604156a
