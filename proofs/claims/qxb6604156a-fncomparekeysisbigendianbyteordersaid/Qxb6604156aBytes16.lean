/-
  THE WALK of zzKeyBytes(12): eight rounds, each written out.
-/
import Derived.Test.Qxb6604156aKeys
import Derived.Test.Qxb6604156aOrder
namespace Go.Proofs.Qxb6604156a
open Go.RowKit

/-- The array that zzKeyBytes hands back. -/
def kbA (hi lo : Int) : Array Value := #[.int .u8 (hi / 72057594037927936), .int .u8 (hi / 281474976710656 % 256), .int .u8 (hi / 1099511627776 % 256), .int .u8 (hi / 4294967296 % 256), .int .u8 (hi / 16777216 % 256), .int .u8 (hi / 65536 % 256), .int .u8 (hi / 256 % 256), .int .u8 (hi % 256), .int .u8 (lo / 72057594037927936), .int .u8 (lo / 281474976710656 % 256), .int .u8 (lo / 1099511627776 % 256), .int .u8 (lo / 4294967296 % 256), .int .u8 (lo / 16777216 % 256), .int .u8 (lo / 65536 % 256), .int .u8 (lo / 256 % 256), .int .u8 (lo % 256)]

theorem kbA_at (hi lo : Int) (k : Nat) (h : k < 16) : (kbA hi lo)[k]? = some (.int .u8 ((Pl.kb hi lo).getD k 0)) := by
  match k, h with
  | 0, _ => rfl
  | 1, _ => rfl
  | 2, _ => rfl
  | 3, _ => rfl
  | 4, _ => rfl
  | 5, _ => rfl
  | 6, _ => rfl
  | 7, _ => rfl
  | 8, _ => rfl
  | 9, _ => rfl
  | 10, _ => rfl
  | 11, _ => rfl
  | 12, _ => rfl
  | 13, _ => rfl
  | 14, _ => rfl
  | 15, _ => rfl
  | n + 16, h => exact absurd h (by omega)

set_option maxHeartbeats 1000000 in
theorem keyBytes_any (hi lo : Int) (w : World) (h0 : 0 ≤ hi) (h1 : hi ≤ 18446744073709551615) (l0 : 0 ≤ lo) (l1 : lo ≤ 18446744073709551615) :
    Calls Try.prog 12 #[.int .u64 hi, .int .u64 lo] w fun e w' => e = .returned (.agg (kbA hi lo)) ∧ Below w.heap.size w w' := by
  go_enter Try.func12, Try.ntmps12
  go_wp2
  refine wp_loop_rounds 9 ?_
  iterate 9 (rw [rounds_succ]; go_wp2)
  refine bodyPost_ret (v := .agg (kbA hi lo)) (by simp [results, Try.results12, go_sem, kbA]) rfl ⟨rfl, ?_⟩
  exact ((Below.refl _ _).alloc (Nat.le_refl _) _).alloc (by simp) _

end Go.Proofs.Qxb6604156a
