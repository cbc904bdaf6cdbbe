/-
  THE WALK of zzCompare16(11).
-/
import Derived.Test.Qxb6604156aKeys
import Derived.Test.Qxb6604156aOrder
namespace Go.Proofs.Qxb6604156a
open Go.RowKit

theorem ret_int {k : IntKind} {a b : Int} (h : a = b) : Ending.returned (.int k a) = .returned (.int k b) := by rw [h]
theorem hid16 {p : Prop} (h : p) : Hid p := h
theorem below_drewN16 {B : Nat} {a w : World} (h : Below B a w) (n : Nat) : Below B a (w.drewN n) := h.trans ⟨rfl, rfl, rfl, Nat.le_refl _, fun _ _ => rfl⟩

set_option maxHeartbeats 1000000 in
theorem compare16_any (xs ys : Array Value) (xl yl : List Int) (w : World) (hx : xs.size = 16) (hy : ys.size = 16) (hxl : xl.length = 16) (hyl : yl.length = 16)
    (hxs : ∀ k, k < 16 → xs[k]? = some (.int .u8 (xl.getD k 0))) (hys : ∀ k, k < 16 → ys[k]? = some (.int .u8 (yl.getD k 0))) :
    Calls Try.prog 11 #[.agg xs, .agg ys] w fun e w' => e = .returned (.int .i64 (Pl.cmpL xl yl)) ∧ Below w.heap.size w w' := by
  have HX := hid16 hxs
  have HY := hid16 hys
  have HXL := hid16 hxl
  have HYL := hid16 hyl
  have HB : Hid (Below w.heap.size w ((w.alloc (.cells xs 27)).alloc (.cells ys 27))) := ((Below.refl _ _).alloc (Nat.le_refl _) _).alloc (by simp) _
  clear hxs hys hxl hyl
  go_enter Try.func11, Try.ntmps11
  go_wp2
  go_loopw [5] (fun i wr => ∃ (k q : Nat), k ≤ 16 ∧ i = .int .i64 k ∧ Hid (Pl.cmpL (xl.drop k) (yl.drop k) = Pl.cmpL xl yl) ∧ wr = ((w.alloc (.cells xs 27)).alloc (.cells ys 27)).drewN q) (fun i _ => 16 - (intOf i).toNat)
  case atStart => exact ⟨0, 0, by omega, rfl, rfl, rfl⟩
  case round =>
    obtain ⟨k, q, hk, rfl, HC, rfl⟩ := hrel
    by_cases hlt : k < 16
    · have Hs := hid16 (Pl.cmpL_step xl yl k (by rw [HXL.out]; exact hlt) (by rw [HYL.out]; exact hlt))
      have kx : k < xs.size := by omega
      have ky : k < ys.size := by omega
      have g1 : xs[k]'kx = .int .u8 (xl.getD k 0) := by have := HX.out k hlt; rw [Array.getElem?_eq_getElem kx] at this; exact Option.some.inj this
      have g2 : ys[k]'ky = .int .u8 (yl.getD k 0) := by have := HY.out k hlt; rw [Array.getElem?_eq_getElem ky] at this; exact Option.some.inj this
      generalize xl.getD k 0 = x at *
      generalize yl.getD k 0 = y at *
      rcases (show x < y ∨ y < x ∨ x = y by omega) with hc | hc | heq
      · go_wp2
        go_quiet (fail)
        go_wp2
        go_ret
        refine ⟨ret_int ?_, below_drewN16 (below_drewN16 HB.out _) _⟩
        rw [← HC.out, Hs.out, if_pos hc]
      · go_wp2
        go_quiet (fail)
        go_wp2
        go_quiet (fail)
        go_wp2
        go_ret
        refine ⟨ret_int ?_, ?_⟩
        · rw [← HC.out, Hs.out, if_neg (by omega), if_pos hc]
        · exact below_drewN16 (below_drewN16 (below_drewN16 HB.out _) _) _
      · subst heq
        go_wp2
        go_quiet (fail)
        go_wp2
        go_quiet (fail)
        go_wp2
        go_roundw
        case rel => exact ⟨k + 1, _, by omega, by go_num, show _ = _ by rw [← HC.out, Hs.out, if_neg (by omega), if_neg (by omega)], rfl⟩
        case measure => simp [intOf]; omega
    · have hk' : k = 16 := by omega
      subst hk'
      go_wp2
      go_ret
      refine ⟨ret_int ?_, below_drewN16 HB.out _⟩
      rw [← HC.out, List.drop_of_length_le (by rw [HXL.out]; omega), List.drop_of_length_le (by rw [HYL.out]; omega)]
      rfl

end Go.Proofs.Qxb6604156a
