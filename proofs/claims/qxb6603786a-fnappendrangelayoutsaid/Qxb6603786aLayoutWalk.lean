/-
  THE WALKS of FnAppendRangeLayout.
-/
import Derived.Test.Qxb6603786aClone
namespace Go.Proofs.Qxb6603786a.fnAppendRangeLayout
open Go.RowKit

/-! ### THE WALK -/
/-- Too long. -/
theorem walk_long (a0 : Option Addr) (n cap : Nat) (d p : Int) (w : World) (h : 1048576 < n) (hm : n ≤ 9223372036854775807) :
    Calls Try.prog 5 #[.slice a0 n cap, .int .i64 d, .int .u64 p] w fun e w' => e = .returned (.bool true) ∧ Below w.heap.size w w' := by
  go_enter Try.func5, Try.ntmps5
  go_wp2
  go_ret
  exact ⟨rfl, Below.refl _ _⟩

/-- The depth is out of range. -/
theorem walk_out (a0 : Option Addr) (n cap : Nat) (d p : Int) (w : World) (h : n ≤ 1048576) (hd : d < -65536 ∨ 65536 < d) :
    Calls Try.prog 5 #[.slice a0 n cap, .int .i64 d, .int .u64 p] w fun e w' => e = .returned (.bool true) ∧ Below w.heap.size w w' := by
  rcases hd with hd | hd
  · go_enter Try.func5, Try.ntmps5
    go_wp2
    go_ret
    exact ⟨rfl, Below.refl _ _⟩
  · have hd' : ¬ d < -65536 := by omega
    go_enter Try.func5, Try.ntmps5
    go_wp2
    go_ret
    exact ⟨rfl, Below.refl _ _⟩

set_option maxHeartbeats 800000 in
/-- The main way. -/
theorem walk_main (a0 : Option Addr) (n cap : Nat) (zs : List Int) (d p : Int) (w : World) (h : n ≤ 1048576) (hd1 : -65536 ≤ d) (hd2 : d ≤ 65536) (hp0 : 0 ≤ p) (hp1 : p ≤ 18446744073709551615)
    (Hn : Hid (zs.length = n)) (Hr : Hid (Rd w a0 zs)) (Hnil : Hid (a0 = none → n = 0)) :
    Calls Try.prog 5 #[.slice a0 n cap, .int .i64 d, .int .u64 p] w fun e w' => e = .returned (.bool true) ∧ Below w.heap.size w w' := by
  have hb1 : decide ((1048576 : Int) < (n : Int)) = false := decide_eq_false (by omega)
  have hb2 : decide (d < -65536) = false := decide_eq_false (by omega)
  have hb3 : decide (65536 < d) = false := decide_eq_false (by omega)
  have hcd : Pl.cnt d ≤ 32768 := by have := tdiv2_bd (d + 1) (by omega) (by omega); unfold Pl.cnt; omega
  have part2 : ∃ k : Int, 0 ≤ k ∧ k ≤ 40000 ∧ (Pl.cnt d : Int) ≤ k ∧ k ≤ (Pl.cnt d : Int) ∧ k = if 0 < d then d / 2 + d % 2 else 0 := by
    by_cases h0 : 0 < d
    · have := Pl.cnt_pos d h0
      exact ⟨d / 2 + d % 2, by omega, by omega, by omega, by omega, by rw [if_pos h0]⟩
    · have := Pl.cnt_neg d (by omega)
      exact ⟨0, by omega, by omega, by omega, by omega, by rw [if_neg h0]⟩
  have hcn1 : 0 < d → (Pl.cnt d : Int) ≤ d / 2 + d % 2 := fun h0 => (Pl.cnt_pos d h0).1
  have hcn2 : 0 < d → d / 2 + d % 2 ≤ (Pl.cnt d : Int) := fun h0 => (Pl.cnt_pos d h0).2
  have hcn3 : d ≤ 0 → Pl.cnt d ≤ 0 := fun h0 => by rw [Pl.cnt_neg d h0]; omega
  have Hold : Hid (∀ j, j < n → (zs ++ Pl.enc d p).getD j 0 = zs.getD j 0) := fun j hj => Pl.enc_old zs d p j (by rw [Hn.out]; exact hj)
  have Hhead : Hid ((zs ++ Pl.enc d p).getD n 0 = d % 256) := Pl.enc_head zs n d p Hn.out
  have Hat : Hid (∀ r m, r < Pl.cnt d → m + r = n + Pl.cnt d → (zs ++ Pl.enc d p).getD m 0 = Pl.q8 p r % 256) := fun r m h1 h2 => Pl.enc_at zs n d p Hn.out r m h1 h2
  clear part2
  go_enter Try.func5, Try.ntmps5
  go_wp2_with (first | (go_at_call 16; go_in))
  refine (cloneBytes_all a0 n cap zs _ Hn.out h Hr.out Hnil.out).mono ?_
  rintro e w1 ⟨ao, rfl, c1, c2, c3, c4, c5, bel1⟩
  have C1 := hid c1
  have C2 := hid c2
  have C3 := hid c3
  have C4 := hid c4
  clear c1 c2 c3 c4 c5
  go_wp2_with fail
  refine (zzAppend_cells ao n zs d p _ hd1 hd2 hp0 hp1 Hn.out (by omega) C1.out C3.out).mono ?_
  rintro e w2 ⟨g, cap2, rfl, a1, a2, a3, a4, a5, a6, bel2⟩
  have A6 := hid a6
  have Rn : Hid (Rd w2 (some ⟨g, 0, none⟩) zs) := .inr ⟨g, 0, rfl, fun j hj => by rw [Nat.zero_add, ← Hold.out j (by rw [← Hn.out]; exact hj)]; exact a6 j (by rw [Hn.out] at hj; omega)⟩
  have Ro : Hid (Rd w2 ao zs) := rd_of Hn.out C1.out C4.out (fun b hb j hj => (bel2.cell (by have e := C4.out b hb; have hlt := C2.out b hb; subst e; rw [Addr.add_lit]; exact hlt)).trans (C3.out b hb j hj))
  have hc0 : w2.cell? ⟨g, n, none⟩ = some (.int .u8 (d % 256)) := by have := a6 n (by omega); rwa [Hhead.out] at this
  unfold maxLen at a4
  clear a5 a6
  by_cases h0 : 0 < d
  all_goals
    first
    | (have hq1 := hcn1 h0; have hq2 := hcn2 h0; clear hcn1 hcn2 hcn3)
    | (have hq1 := hcn3 (by omega); clear hcn1 hcn2 hcn3)
    go_wp2_with fail
    refine (bytesEqual_any (some ⟨g, 0, none⟩) n cap2 ao n n zs zs _ Hn.out Hn.out (by omega) (by omega) Rn.out Ro.out).mono ?_
    rintro e w3 ⟨rfl, nq, rfl⟩
    rw [decide_eq_true rfl]
    go_wp2
    go_loop [9, 10] (fun pv jv => ∃ (r m : Nat), r ≤ Pl.cnt d ∧ m + r = n + Pl.cnt d ∧ jv = .int .i64 m ∧ pv = .int .u64 (Pl.q8 p r)) (fun _ jv => (intOf jv).toNat)
    case atStart => exact ⟨0, n + Pl.cnt d, Nat.zero_le _, rfl, by go_num, by rw [Pl.q8_zero]⟩
    case round =>
      obtain ⟨r, m, hr1, hr2, rfl, rfl⟩ := hrel
      have hm1 : m ≤ n + Pl.cnt d := by omega
      have HR : Hid (m + r = n + Pl.cnt d) := hr2
      have hqb := Pl.q8_bd p r hp0
      by_cases hlt : n < m
      · have hcx : w2.cell? ⟨g, m, none⟩ = some (.int .u8 (Pl.q8 p r % 256)) := by
          have e := A6.out m (by omega)
          rwa [Hat.out r m (by omega) hr2] at e
        clear hr2 hc0
        first
        | (exfalso; omega)
        | (go_wp2
           go_round
           case rel => exact ⟨r + 1, m - 1, by have := HR.out; omega, by have := HR.out; omega, by go_num, by rw [Pl.q8_succ]⟩
           case measure => simp [intOf]; omega)
      · clear hr2 hc0
        go_wp2
        go_ret
        exact ⟨rfl, below_drewN' (bel1.trans (bel2.mono bel1.size)) _⟩

end Go.Proofs.Qxb6603786a.fnAppendRangeLayout
