/-
  THE WALKS of compareBytes, bytesEqual.
-/
import Derived.Test.Qxb6603786aRows
import Derived.Test.Qxb6603786aPlain
import Derived.WalkKit
import Derived.WalkSpells
import Derived.WalkLawsBesides
import Derived.Deep.QuietTactic
import Derived.BigQuiet
namespace Go.Proofs.Qxb6603786a
open Go.RowKit

theorem ret_int {k : IntKind} {a b : Int} (h : a = b) : Ending.returned (.int k a) = .returned (.int k b) := by rw [h]

theorem cmpL_step (xs ys : List Int) (k : Nat) (h1 : k < xs.length) (h2 : k < ys.length) :
    Pl.cmpL (xs.drop k) (ys.drop k) = if xs.getD k 0 < ys.getD k 0 then -1 else if ys.getD k 0 < xs.getD k 0 then 1 else Pl.cmpL (xs.drop (k + 1)) (ys.drop (k + 1)) := by
  rw [List.drop_eq_getElem_cons h1, List.drop_eq_getElem_cons h2]
  simp [Pl.cmpL, List.getD, h1, h2]

theorem cmpL_end (xs ys : List Int) (k : Nat) (hk : k = min xs.length ys.length) :
    Pl.cmpL (xs.drop k) (ys.drop k) = if xs.length < ys.length then -1 else if ys.length < xs.length then 1 else 0 := by
  by_cases h1 : xs.length < ys.length
  · rw [if_pos h1, List.drop_of_length_le (by omega)]
    rw [List.drop_eq_getElem_cons (by omega)]; rfl
  · rw [if_neg h1]
    by_cases h2 : ys.length < xs.length
    · rw [if_pos h2, List.drop_of_length_le (l := ys) (by omega)]
      rw [List.drop_eq_getElem_cons (by omega)]; rfl
    · rw [if_neg h2, List.drop_of_length_le (by omega), List.drop_of_length_le (by omega)]; rfl

set_option maxHeartbeats 800000 in
theorem compareBytes_any (b1 o1 n1 c1 b2 o2 n2 c2 : Nat) (xs ys : List Int) (w : World) (hx : xs.length = n1) (hy : ys.length = n2) (hn1 : n1 ≤ 8388608) (hn2 : n2 ≤ 8388608)
    (hc1 : ∀ j, j < n1 → w.cell? ⟨b1, o1 + j, none⟩ = some (.int .u8 (xs.getD j 0))) (hc2 : ∀ j, j < n2 → w.cell? ⟨b2, o2 + j, none⟩ = some (.int .u8 (ys.getD j 0))) :
    Calls Try.prog 17 #[.slice (some ⟨b1, o1, none⟩) n1 c1, .slice (some ⟨b2, o2, none⟩) n2 c2] w fun e w' => e = .returned (.int .i64 (Pl.cmpL xs ys)) ∧ ∃ q, w' = w.drewN q := by
  by_cases hmin : n2 < n1
  all_goals
    go_enter Try.func17, Try.ntmps17
    go_wp2
    go_loopw [6] (fun i wr => ∃ (k q : Nat), k ≤ n1 ∧ k ≤ n2 ∧ i = .int .i64 k ∧ Pl.cmpL (xs.drop k) (ys.drop k) = Pl.cmpL xs ys ∧ wr = w.drewN q) (fun i _ => n1 - (intOf i).toNat)
    case atStart => exact ⟨0, 0, by omega, by omega, rfl, rfl, rfl⟩
    case round =>
      obtain ⟨k, q, hk1, hk2, rfl, hcmp, rfl⟩ := hrel
      have Hx : Hid (xs.length = n1) := hx
      have Hy : Hid (ys.length = n2) := hy
      have Hc : Hid (Pl.cmpL (xs.drop k) (ys.drop k) = Pl.cmpL xs ys) := hcmp
      clear hcmp hx hy
      by_cases hk : k < n1 ∧ k < n2
      · obtain ⟨hka, hkb⟩ := hk
        have Hs : Hid _ := cmpL_step xs ys k (by rw [Hx.out]; omega) (by rw [Hy.out]; omega)
        have g1 : w.cell? ⟨b1, o1 + k, none⟩ = some (.int .u8 (xs.getD k 0)) := hc1 k hka
        have g2 : w.cell? ⟨b2, o2 + k, none⟩ = some (.int .u8 (ys.getD k 0)) := hc2 k hkb
        generalize xs.getD k 0 = x at *
        generalize ys.getD k 0 = y at *
        clear hc1 hc2
        rcases (show x < y ∨ y < x ∨ x = y by omega) with hlt | hlt | heq
        · go_wp2
          go_quiet (fail)
          go_wp2
          go_ret
          refine ⟨ret_int ?_, ?_⟩
          · rw [← Hc.out, Hs.out, if_pos hlt]
          · exact ⟨_, World.drewN_drewN _ _ _⟩
        · go_wp2
          go_quiet (fail)
          go_wp2
          go_quiet (fail)
          go_wp2
          go_ret
          refine ⟨ret_int ?_, ?_⟩
          · rw [← Hc.out, Hs.out, if_neg (by omega), if_pos hlt]
          · first | exact ⟨_, rfl⟩ | (simp only [World.drewN_drewN]; exact ⟨_, rfl⟩)
        · subst heq
          go_wp2
          go_quiet (fail)
          go_wp2
          go_quiet (fail)
          go_wp2
          go_roundw
          case rel => exact ⟨k + 1, _, by omega, by omega, by go_num, by rw [← Hc.out, Hs.out, if_neg (by omega), if_neg (by omega)], rfl⟩
          case measure => simp [intOf]; omega
      · have hend := cmpL_end xs ys k (by rw [Hx.out, Hy.out]; omega)
        rw [Hx.out, Hy.out, Hc.out] at hend
        have He : Hid _ := hend
        clear hend hc1 hc2
        by_cases hlt : n1 < n2
        · first
          | (exfalso; omega)
          | (go_wp2
             go_ret
             exact ⟨ret_int (by rw [He.out, if_pos hlt]), _, rfl⟩)
        · by_cases hlt2 : n2 < n1
          · first
            | (exfalso; omega)
            | (go_wp2
               go_ret
               exact ⟨ret_int (by rw [He.out, if_neg (by omega), if_pos hlt2]), _, rfl⟩)
          · first
            | (exfalso; omega)
            | (go_wp2
               go_ret
               exact ⟨ret_int (by rw [He.out, if_neg (by omega), if_neg (by omega)]), _, rfl⟩)

/-- A slice of bytes that can be read: the numbers zs lie at its address (of an empty one nothing is asked). -/
def Rd (w : World) (a : Option Addr) (zs : List Int) : Prop :=
  zs = [] ∨ ∃ b o, a = some ⟨b, o, none⟩ ∧ ∀ j, j < zs.length → w.cell? ⟨b, o + j, none⟩ = some (.int .u8 (zs.getD j 0))

theorem ret_bool {a b : Bool} (h : a = b) : Ending.returned (.bool a) = .returned (.bool b) := by rw [h]

theorem eq_of_getD (xs ys : List Int) (n : Nat) (hx : xs.length = n) (hy : ys.length = n) (h : ∀ j, j < n → xs.getD j 0 = ys.getD j 0) : xs = ys := by
  apply List.ext_getElem (by omega)
  intro j h1 h2
  have := h j (by omega)
  simpa [List.getD, h1, h2] using this

set_option maxHeartbeats 800000 in
theorem bytesEqual_any (a1 : Option Addr) (n1 c1 : Nat) (a2 : Option Addr) (n2 c2 : Nat) (xs ys : List Int) (w : World) (hx : xs.length = n1) (hy : ys.length = n2) (hn1 : n1 ≤ 8388608) (hn2 : n2 ≤ 8388608)
    (r1 : Rd w a1 xs) (r2 : Rd w a2 ys) :
    Calls Try.prog 13 #[.slice a1 n1 c1, .slice a2 n2 c2] w fun e w' => e = .returned (.bool (decide (xs = ys))) ∧ ∃ q, w' = w.drewN q := by
  by_cases hne : n1 = n2
  · by_cases hz : n1 = 0
    · have ex : xs = [] := List.eq_nil_of_length_eq_zero (by omega)
      have ey : ys = [] := List.eq_nil_of_length_eq_zero (by omega)
      subst ex ey hne hz
      clear hx hy r1 r2
      go_enter Try.func13, Try.ntmps13
      go_wp2
      refine wp_loop_rounds 1 ?_
      rw [rounds_succ]
      go_wp2
      go_ret
      exact ⟨rfl, 0, rfl⟩
    · rcases r1 with rfl | ⟨b1, o1, rfl, hc1⟩
      · simp at hx; omega
      rcases r2 with rfl | ⟨b2, o2, rfl, hc2⟩
      · simp at hy; omega
      subst hne
      rw [hx] at hc1
      rw [hy] at hc2
      have Hx : Hid (xs.length = n1) := hx
      have Hy : Hid (ys.length = n1) := hy
      clear hx hy
      go_enter Try.func13, Try.ntmps13
      go_wp2
      go_loopw [5] (fun i wr => ∃ (k q : Nat), k ≤ n1 ∧ i = .int .i64 k ∧ (∀ j, j < k → xs.getD j 0 = ys.getD j 0) ∧ wr = w.drewN q) (fun i _ => n1 - (intOf i).toNat)
      case atStart => exact ⟨0, 0, by omega, rfl, fun j h => by omega, rfl⟩
      case round =>
        obtain ⟨k, q, hk1, rfl, hall, rfl⟩ := hrel
        have Ha : Hid (∀ j, j < k → xs.getD j 0 = ys.getD j 0) := hall
        clear hall
        by_cases hk : k < n1
        · have g1 : w.cell? ⟨b1, o1 + k, none⟩ = some (.int .u8 (xs.getD k 0)) := hc1 k hk
          have g2 : w.cell? ⟨b2, o2 + k, none⟩ = some (.int .u8 (ys.getD k 0)) := hc2 k hk
          obtain ⟨x, ex⟩ : ∃ x, x = xs.getD k 0 := ⟨_, rfl⟩
          obtain ⟨y, ey⟩ : ∃ y, y = ys.getD k 0 := ⟨_, rfl⟩
          rw [← ex] at g1
          rw [← ey] at g2
          have Ex : Hid (x = xs.getD k 0) := ex
          have Ey : Hid (y = ys.getD k 0) := ey
          clear ex ey hc1 hc2
          by_cases hxy : x = y
          · subst hxy
            go_wp2
            go_quiet (fail)
            go_wp2
            go_roundw
            case rel =>
              refine ⟨k + 1, _, by omega, by go_num, ?_, rfl⟩
              intro j hj
              by_cases h : j < k
              · exact Ha.out j h
              · have : j = k := by omega
                subst this
                rw [← Ex.out, ← Ey.out]
            case measure => simp [intOf]; omega
          · have hb : (x == y) = false := beq_eq_false_iff_ne.2 hxy
            have hb2 : (x != y) = true := by rw [bne_iff_ne]; exact hxy
            go_wp2
            go_quiet (fail)
            go_wp2
            go_ret
            refine ⟨ret_bool ?_, ?_⟩
            · symm
              apply decide_eq_false
              intro h
              apply hxy
              rw [Ex.out, Ey.out, h]
            · first | exact ⟨_, rfl⟩ | (simp only [World.drewN_drewN]; exact ⟨_, rfl⟩)
        · clear hc1 hc2
          go_wp2
          go_ret
          refine ⟨ret_bool ?_, _, rfl⟩
          symm
          apply decide_eq_true
          exact eq_of_getD xs ys n1 Hx.out Hy.out (fun j hj => Ha.out j (by omega))
  · have hd : decide (xs = ys) = false := by
      apply decide_eq_false
      intro h
      rw [h] at hx
      omega
    rw [hd]
    clear hd hx hy r1 r2
    have hb : ((n1 : Int) == (n2 : Int)) = false := beq_eq_false_iff_ne.2 (by omega)
    have hb2 : ((n1 : Int) != (n2 : Int)) = true := by rw [bne_iff_ne]; omega
    go_enter Try.func13, Try.ntmps13
    go_wp2
    go_ret
    exact ⟨rfl, 0, rfl⟩

end Go.Proofs.Qxb6603786a
