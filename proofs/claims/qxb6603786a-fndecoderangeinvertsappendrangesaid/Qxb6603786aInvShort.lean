/-
  FnDecodeRangeInvertsAppendRange(4): the short ways.
-/
import Derived.Test.Qxb6603786aMatchWalk
import Derived.Test.Qxb6603786aInvPlain
namespace Go.Proofs.Qxb6603786a
open Go.RowKit

/-- The lengths are too great. -/
theorem inv_long (a0 : Option Addr) (n0 c0 : Nat) (d p : Int) (a3 : Option Addr) (n3 c3 : Nat) (M : Int) (w : World) (hm0 : n0 ≤ 9223372036854775807) (hm3 : n3 ≤ 9223372036854775807)
    (h : 1048576 < n0 ∨ (n0 ≤ 1048576 ∧ 1048576 < n3) ∨ (n0 ≤ 1048576 ∧ n3 ≤ 1048576 ∧ 1048576 < n0 + n3)) :
    Calls Try.prog 4 #[.slice a0 n0 c0, .int .i64 d, .int .u64 p, .slice a3 n3 c3, .int .i64 M] w fun e w' => e = .returned (.bool true) ∧ Below w.heap.size w w' := by
  rcases h with h | ⟨h, h'⟩ | ⟨h, h', h''⟩
  all_goals
    go_enter Try.func4, Try.ntmps4
    go_wp2
    go_ret
    exact ⟨rfl, Below.refl _ _⟩

/-- One is longer than 2^19. -/
theorem inv_half (a0 : Option Addr) (n0 c0 : Nat) (d p : Int) (a3 : Option Addr) (n3 c3 : Nat) (M : Int) (w : World) (hs : n0 + n3 ≤ 1048576) (h : 524288 < n0 ∨ (n0 ≤ 524288 ∧ 524288 < n3)) :
    Calls Try.prog 4 #[.slice a0 n0 c0, .int .i64 d, .int .u64 p, .slice a3 n3 c3, .int .i64 M] w fun e w' => e = .returned (.bool true) ∧ Below w.heap.size w w' := by
  rcases h with h | ⟨h, h'⟩
  all_goals
    go_enter Try.func4, Try.ntmps4
    go_wp2
    go_ret
    exact ⟨rfl, Below.refl _ _⟩

/-- The depth is out of range. -/
theorem inv_out (a0 : Option Addr) (n0 c0 : Nat) (d p : Int) (a3 : Option Addr) (n3 c3 : Nat) (M : Int) (w : World) (hs0 : n0 ≤ 524288) (hs3 : n3 ≤ 524288) (h : d < 0 ∨ (0 ≤ d ∧ 255 < d)) :
    Calls Try.prog 4 #[.slice a0 n0 c0, .int .i64 d, .int .u64 p, .slice a3 n3 c3, .int .i64 M] w fun e w' => e = .returned (.bool true) ∧ Below w.heap.size w w' := by
  rcases h with h | ⟨h, h'⟩
  all_goals
    go_enter Try.func4, Try.ntmps4
    go_wp2
    go_ret
    exact ⟨rfl, Below.refl _ _⟩

/-- The number has too many bits. -/
theorem inv_bits (a0 : Option Addr) (n0 c0 : Nat) (d p : Int) (a3 : Option Addr) (n3 c3 : Nat) (M : Int) (w : World) (hs0 : n0 ≤ 524288) (hs3 : n3 ≤ 524288) (h0 : 0 ≤ d) (h16 : d < 16) (hp : (p / 2 ^ (4 * d).toNat == 0) = false) :
    Calls Try.prog 4 #[.slice a0 n0 c0, .int .i64 d, .int .u64 p, .slice a3 n3 c3, .int .i64 M] w fun e w' => e = .returned (.bool true) ∧ Below w.heap.size w w' := by
  have hp' : (p / 2 ^ (4 * d).toNat != 0) = true := by rw [bne, hp]; rfl
  go_enter Try.func4, Try.ntmps4
  go_wp2
  go_ret
  exact ⟨rfl, Below.refl _ _⟩

/-- maxDepth is too small. -/
theorem inv_deep (a0 : Option Addr) (n0 c0 : Nat) (d p : Int) (a3 : Option Addr) (n3 c3 : Nat) (M : Int) (w : World) (hs0 : n0 ≤ 524288) (hs3 : n3 ≤ 524288) (h0 : 0 ≤ d) (h1 : d ≤ 255)
    (hd : 16 ≤ d ∨ d < 16 ∧ (p / 2 ^ (4 * d).toNat == 0) = true) (hM : M < d) :
    Calls Try.prog 4 #[.slice a0 n0 c0, .int .i64 d, .int .u64 p, .slice a3 n3 c3, .int .i64 M] w fun e w' => e = .returned (.bool true) ∧ Below w.heap.size w w' := by
  rcases hd with hd | ⟨hd, hp⟩
  all_goals
    try have hp' : (p / 2 ^ (4 * d).toNat != 0) = false := by rw [bne, hp]; rfl
    try have hd' : decide (d < 16) = false := decide_eq_false (by omega)
    go_enter Try.func4, Try.ntmps4
    go_wp2
    go_ret
    exact ⟨rfl, Below.refl _ _⟩

end Go.Proofs.Qxb6603786a
