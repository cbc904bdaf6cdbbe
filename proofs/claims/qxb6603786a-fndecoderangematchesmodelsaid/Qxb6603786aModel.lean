/-
  THE WALK of modelDecodeRange(12).
-/
import Derived.Test.Qxb6603786aDecR
import Derived.Test.Qxb6603786aModelPlain
namespace Go.Proofs.Qxb6603786a
open Go.RowKit

/-- Failed, or nothing there. -/
theorem model_none (ao : Option Addr) (n cap : Nat) (f : Bool) (M : Int) (w : World) (h : f = true ∨ f = false ∧ n = 0) :
    Calls Try.prog 12 #[.slice ao n cap, .bool f, .int .i64 M] w fun e w' => e = .returned (.tuple #[.int .i64 0, .int .u64 0, .int .i64 0, .bool true]) ∧ w' = w := by
  rcases h with rfl | ⟨rfl, rfl⟩
  all_goals
    go_enter Try.func12, Try.ntmps12
    go_wp2
    exact bodyPost_ret (v := .tuple #[.int .i64 0, .int .u64 0, .int .i64 0, .bool true]) (by simp [results, Try.results12, go_sem]) rfl ⟨rfl, rfl⟩

/-- Too deep. -/
theorem model_deep (b o n cap : Nat) (d M : Int) (w : World) (hn : 1 ≤ n) (h0 : 0 ≤ d) (h1 : d ≤ 255) (hc : w.cell? ⟨b, o, none⟩ = some (.int .u8 d)) (hM : M < d) :
    Calls Try.prog 12 #[.slice (some ⟨b, o, none⟩) n cap, .bool false, .int .i64 M] w fun e w' => e = .returned (.tuple #[.int .i64 0, .int .u64 0, .int .i64 0, .bool true]) ∧ w' = w := by
  go_enter Try.func12, Try.ntmps12
  go_wp2
  exact bodyPost_ret (v := .tuple #[.int .i64 0, .int .u64 0, .int .i64 0, .bool true]) (by simp [results, Try.results12, go_sem]) rfl ⟨rfl, rfl⟩

/-- The high nibble is set. -/
theorem model_refuse (b o n cap : Nat) (d z M : Int) (w : World) (hn : 2 ≤ n) (hnm : n ≤ 1048576) (h0 : 0 ≤ d) (h1 : d < 16) (hc : w.cell? ⟨b, o, none⟩ = some (.int .u8 d)) (hz : w.cell? ⟨b, o + 1, none⟩ = some (.int .u8 z)) (hM : ¬ M < d) (hodd : d % 2 = 1) (hz1 : 16 ≤ z) :
    Calls Try.prog 12 #[.slice (some ⟨b, o, none⟩) n cap, .bool false, .int .i64 M] w fun e w' => e = .returned (.tuple #[.int .i64 0, .int .u64 0, .int .i64 0, .bool true]) ∧ w' = w := by
  have hb : (d % 2 == 1) = true := by simp [hodd]
  have ho1 : 1 ≤ d % 2 := by omega
  clear hodd
  go_enter Try.func12, Try.ntmps12
  go_wp2
  exact bodyPost_ret (v := .tuple #[.int .i64 0, .int .u64 0, .int .i64 0, .bool true]) (by simp [results, Try.results12, go_sem]) rfl ⟨rfl, rfl⟩

theorem wrap_acc (m c : Int) : IntKind.u64.wrap (IntKind.u64.wrap (m * 256) + c) = Pl.acc m c := by
  rw [IntKind.wrap_u64, IntKind.wrap_u64]; unfold Pl.acc; omega
theorem wrap_acc0 (m : Int) : IntKind.u64.wrap (IntKind.u64.wrap (m * 256)) = Pl.acc m 0 := by
  rw [IntKind.wrap_u64, IntKind.wrap_u64]; unfold Pl.acc; omega
theorem wrap_acc1 (m : Int) : IntKind.u64.wrap (m * 256) = Pl.acc m 0 := by
  rw [IntKind.wrap_u64]; unfold Pl.acc; omega

set_option maxHeartbeats 3200000 in
/-- The model reads the number. -/
theorem model_good (b o n cap : Nat) (d M : Int) (tl : List Int) (k s : Nat) (w : World) (hn1 : tl.length + 1 ≤ n) (hn2 : n ≤ tl.length + 1) (hnm : n ≤ 1048576) (h0 : 0 ≤ d) (h1 : d ≤ 255) (hc : w.cell? ⟨b, o, none⟩ = some (.int .u8 d))
    (hcs : ∀ j, j < tl.length → w.cell? ⟨b, o + (1 + j), none⟩ = some (.int .u8 (tl.getD j 0))) (Hbt : Hid (Pl.Bts tl)) (hM : ¬ M < d) (Hnr : Hid (¬ (d < 16 ∧ d % 2 = 1 ∧ 16 ≤ tl.getD 0 0)))
    (hk1 : (k : Int) ≤ d / 2 + d % 2) (hk2 : d / 2 + d % 2 ≤ (k : Int)) (Hs : Hid (s = k - 8)) :
    Calls Try.prog 12 #[.slice (some ⟨b, o, none⟩) n cap, .bool false, .int .i64 M] w fun e w' => e = .returned (.tuple #[.int .i64 d, .int .u64 (Pl.mv tl s (k - s)), .int .i64 (if tl.length < k then 0 else 1 + (k : Int)), .bool (decide (tl.length < k))]) ∧ w' = w := by
  have hcz : 1 < n → w.cell? ⟨b, o + 1, none⟩ = some (.int .u8 (tl.getD 0 0)) := fun h => hcs 0 (by omega)
  have HCS := hid hcs
  have hMb : decide (M < d) = false := decide_eq_false hM
  have hs8 := Hs.out
  have hsk : s ≤ k := by omega
  have hsk2 : k ≤ s + 8 := by omega
  have hz0 := (Pl.getD_bd tl Hbt.out 0).1
  have hz9 := (Pl.getD_bd tl Hbt.out 0).2
  clear hcs hs8
  have hHz := hid (rfl : tl.getD 0 0 = tl.getD 0 0)
  have hnr : d < 16 → 1 ≤ d % 2 → tl.getD 0 0 < 16 := fun x y => by
    have hh := Hnr.out
    rcases Int.lt_or_le (tl.getD 0 0) 16 with hlt | hge
    · exact hlt
    · exact absurd ⟨x, by omega, hge⟩ hh
  have hsv : (8 < k ∧ (s : Int) = d / 2 + d % 2 - 8) ∨ (k ≤ 8 ∧ (s : Int) = 0) := by have := Hs.out; omega
  generalize tl.getD 0 0 = z at hcz hz0 hz9 hnr
  clear Hnr hHz
  have tree : (1 < n ∧ 8 < k) ∨ (1 < n ∧ k ≤ 8 ∧ 16 ≤ d) ∨ (1 < n ∧ d < 16 ∧ 1 ≤ d % 2 ∧ z < 16) ∨ (1 < n ∧ d < 16 ∧ 0 < d ∧ d % 2 ≤ 0) ∨ (1 < n ∧ d ≤ 0) ∨
      (n ≤ 1 ∧ 8 < k) ∨ (n ≤ 1 ∧ k ≤ 8 ∧ 16 ≤ d) ∨ (n ≤ 1 ∧ d < 16 ∧ 1 ≤ d % 2) ∨ (n ≤ 1 ∧ d < 16 ∧ 0 < d ∧ d % 2 ≤ 0) ∨ (n ≤ 1 ∧ d ≤ 0) := by
    by_cases x1 : d < 16
    · by_cases x2 : 1 ≤ d % 2
      · have := hnr x1 x2; omega
      · omega
    · omega
  clear hnr
  rcases tree with ⟨t1, t2⟩ | ⟨t1, t2, t3⟩ | ⟨t1, t2, t3, t4⟩ | ⟨t1, t2, t3, t4⟩ | ⟨t1, t2⟩ | ⟨t1, t2⟩ | ⟨t1, t2, t3⟩ | ⟨t1, t2, t3⟩ | ⟨t1, t2, t3, t4⟩ | ⟨t1, t2⟩
  all_goals
    have Hs1 : Hid ((s : Int) = if 8 < k then d / 2 + d % 2 - 8 else 0) := by
      show (s : Int) = _
      split <;> omega
    clear hsv
    try have hcz' := hcz t1
    clear hcz
    go_enter Try.func12, Try.ntmps12
    go_wp2
    go_loop [15, 16] (fun v j => ∃ jn : Nat, s ≤ jn ∧ jn ≤ k ∧ j = .int .i64 jn ∧ v = .int .u64 (Pl.mv tl s (jn - s))) (fun _ j => k - (intOf j).toNat)
    case atStart => exact ⟨s, Nat.le_refl _, hsk, by rw [Hs1.out]; first | rw [if_pos (by omega)] | rw [if_neg (by omega)], by rw [Nat.sub_self]; rfl⟩
    case round =>
      obtain ⟨jn, hj1, hj2, rfl, rfl⟩ := hrel
      have hmb := Pl.mv_bd tl s (jn - s)
      by_cases hjk : jn < k
      · have Hstep := hid (show Pl.mv tl s (jn + 1 - s) = Pl.acc (Pl.mv tl s (jn - s)) (tl.getD jn 0) by
          rw [show jn + 1 - s = (jn - s) + 1 by omega]
          show Pl.acc (Pl.mv tl s (jn - s)) (tl.getD (s + (jn - s)) 0) = _
          rw [show s + (jn - s) = jn by omega])
        have hgb := Pl.getD_bd tl Hbt.out jn
        by_cases hja : jn < tl.length
        · have hcx := HCS.out jn hja
          generalize Pl.mv tl s (jn - s) = m at *
          generalize tl.getD jn 0 = c at *
          first
          | (exfalso; omega)
          | (go_wp2
             go_round
             case rel => exact ⟨jn + 1, by omega, by omega, by go_num, by rw [Hstep.out, wrap_acc]⟩
             case measure => simp [intOf]; omega)
        · have hg0 : tl.getD jn 0 = 0 := by simp [List.getD, show tl.length ≤ jn by omega]
          rw [hg0] at Hstep
          clear hgb hg0
          generalize Pl.mv tl s (jn - s) = m at *
          first
          | (exfalso; omega)
          | (go_wp2
             go_round
             case rel => exact ⟨jn + 1, by omega, by omega, by go_num, by rw [Hstep.out]; first | rw [wrap_acc] | rw [wrap_acc0] | rw [wrap_acc1]⟩
             case measure => simp [intOf]; omega)
      · have hjk' : jn = k := by omega
        subst hjk'
        by_cases hl : tl.length < jn
        · have e1 : Hid ((if tl.length < jn then (0 : Int) else 1 + (jn : Int)) = 0) := if_pos hl
          have e2 : Hid (decide (tl.length < jn) = true) := decide_eq_true hl
          first
          | (exfalso; omega)
          | (go_wp2
             refine bodyPost_ret (v := .tuple #[.int .i64 d, .int .u64 (Pl.mv tl s (jn - s)), .int .i64 0, .bool true]) (by simp [results, Try.results12, go_sem]) rfl ?_
             first | exact ⟨rfl, rfl⟩ | (rw [e1.out, e2.out]; exact ⟨rfl, rfl⟩))
        · have e1 : Hid ((if tl.length < jn then (0 : Int) else 1 + (jn : Int)) = 1 + (jn : Int)) := if_neg hl
          have e2 : Hid (decide (tl.length < jn) = false) := decide_eq_false hl
          first
          | (exfalso; omega)
          | (go_wp2
             refine bodyPost_ret (v := .tuple #[.int .i64 d, .int .u64 (Pl.mv tl s (jn - s)), .int .i64 (1 + (jn : Int)), .bool false]) (by simp [results, Try.results12, go_sem] <;> omega) rfl ?_
             first | exact ⟨rfl, rfl⟩ | (rw [e1.out, e2.out]; exact ⟨rfl, rfl⟩))

end Go.Proofs.Qxb6603786a
