/-
  FnDecodeRangeInvertsAppendRange(4): the main way.
-/
import Derived.Test.Qxb6603786aInvShort
namespace Go.Proofs.Qxb6603786a
open Go.RowKit

theorem rd_below {w w' : World} {ao : Option Addr} {zs : List Int} (h : Rd w ao zs) (hb : Below w.heap.size w w') : Rd w' ao zs := rd_kept h (Below.grownBy hb)

theorem take_snoc (l : List Int) (k : Nat) (h : k < l.length) : (l.take k).map (Value.int .u8) ++ [.int .u8 (l.getD k 0)] = (l.take (k + 1)).map (Value.int .u8) := by
  rw [List.take_succ_eq_append_getElem h, List.map_append]
  congr 1
  simp [List.getD, h]

theorem enc_getD (pre : List Int) (n0 : Nat) (d p : Int) (k : Nat) (hn : pre.length = n0) : (pre ++ Pl.enc d p).getD (n0 + k) 0 = (Pl.enc d p).getD k 0 := by
  subst hn
  simp only [List.getD]
  rw [List.getElem?_append_right (by omega), Nat.add_sub_cancel_left]

theorem below_drewN_left {B n : Nat} {w w' : World} (h : Below B (w.drewN n) w') : Below B w w' := ⟨h.os, h.tape, h.output, h.size, h.block⟩

/-- A new decoder over a row that can be read, whatever its capacity. -/
theorem dec_new2 {w : World} {g n cap : Nat} {zs : List Int} {f : Bool} (hn : zs.length = n) (hnc : n ≤ cap) (hm : cap ≤ 9223372036854775807) (hlt : g < w.heap.size) (hr : Rd w (some ⟨g, 0, none⟩) zs) :
    Dec (w.alloc (.cells #[.slice (some ⟨g, 0, none⟩) n cap, .bool f] 43)) w.heap.size zs f (some ⟨g, 0, none⟩) n cap := by
  refine ⟨heap_alloc_new w _, hn, hnc, hm, ?_⟩
  rcases hr with rfl | ⟨b, o, hb, hc⟩
  · exact .inl rfl
  · simp at hb
    obtain ⟨rfl, rfl⟩ := hb
    exact .inr ⟨g, 0, rfl, hlt, fun j hj => (World.grownBy_alloc w _ none).cell (hc j (by omega)) (by simp)⟩

set_option maxHeartbeats 3200000 in
theorem inv_main (a0 : Option Addr) (n0 c0 : Nat) (pre : List Int) (d p : Int) (a3 : Option Addr) (n3 c3 : Nat) (tl : List Int) (M : Int) (w : World) (hs0 : n0 ≤ 524288) (hs3 : n3 ≤ 524288) (h0 : 0 ≤ d) (h1 : d ≤ 255) (hp0 : 0 ≤ p) (hp1 : p ≤ 18446744073709551615)
    (hd : 16 ≤ d ∨ d < 16 ∧ (p / 2 ^ (4 * d).toNat == 0) = true) (hM : ¬ M < d)
    (Hn0 : Hid (pre.length = n0)) (Hr0 : Hid (Rd w a0 pre)) (Hnil0 : Hid (a0 = none → n0 = 0)) (Hn3 : Hid (tl.length = n3)) (Hr3 : Hid (Rd w a3 tl)) (Hnil3 : Hid (a3 = none → n3 = 0)) (Hb3 : Hid (Pl.Bts tl))
    (HD : Hid (Pl.decR (Pl.enc d p ++ tl) false M = (d, p, tl, false))) :
    Calls Try.prog 4 #[.slice a0 n0 c0, .int .i64 d, .int .u64 p, .slice a3 n3 c3, .int .i64 M] w fun e w' => e = .returned (.bool true) ∧ Below w.heap.size w w' := by
  have hcn : (Pl.cnt d : Int) = (d + 1) / 2 := Pl.cnt_nonneg d h0
  have hcb : Pl.cnt d ≤ 128 := by omega
  have Hold : Hid (∀ j, j < n0 → (pre ++ Pl.enc d p).getD j 0 = pre.getD j 0) := fun j hj => Pl.enc_old pre d p j (by rw [Hn0.out]; exact hj)
  have hb1 : decide ((1048576 : Int) < (n0 : Int)) = false := decide_eq_false (by omega)
  have hb2 : decide ((1048576 : Int) < (n3 : Int)) = false := decide_eq_false (by omega)
  have hb3 : decide ((524288 : Int) < (n0 : Int)) = false := decide_eq_false (by omega)
  have hb4 : decide ((524288 : Int) < (n3 : Int)) = false := decide_eq_false (by omega)
  have hb5 : decide (d < 0) = false := decide_eq_false (by omega)
  have hb6 : decide (255 < d) = false := decide_eq_false (by omega)
  have hb7 : decide (M < d) = false := decide_eq_false hM
  obtain ⟨i0, hi, hz0, hz1, hz2⟩ := info_parts Try.info5
  clear hcn
  rcases hd with hd | ⟨hd, hp⟩
  all_goals
    try have hp' : (p / 2 ^ (4 * d).toNat != 0) = false := by rw [bne, hp]; rfl
    try have hd' : decide (d < 16) = false := decide_eq_false (by omega)
    go_enter Try.func4, Try.ntmps4
    go_wp2_with (first | (go_at_call 14; go_in))
    refine (cloneBytes_all a0 n0 c0 pre _ Hn0.out (by omega) Hr0.out Hnil0.out).mono ?_
    rintro e w1 ⟨ao, rfl, c1, c2, c3', c4, c5, bel1⟩
    have C1 := hid c1
    have C2 := hid c2
    have C3 := hid c3'
    have C4 := hid c4
    clear c1 c2 c3' c4 c5
    go_wp2_with fail
    refine (cloneBytes_all a3 n3 c3 tl _ Hn3.out (by omega) (rd_below Hr3.out bel1) Hnil3.out).mono ?_
    rintro e w2 ⟨at3, rfl, c1, c2, c3', c4, c5, bel2⟩
    have T2 := hid c2
    have RT := hid (rd_of Hn3.out c1 c4 c3')
    have P2 := hid (fun (b : Addr) (hb : ao = some b) (j : Nat) (hj : j < n0) => (bel2.cell (by have e := C4.out b hb; have hlt := C2.out b hb; subst e; rw [Addr.add_lit]; exact hlt)).trans (C3.out b hb j hj))
    clear c1 c2 c3' c4 c5
    go_wp2_with fail
    refine (zzAppend_cells ao n0 pre d p _ (by omega) (by omega) hp0 hp1 Hn0.out (by omega) C1.out P2.out).mono ?_
    rintro e w3 ⟨g, cap3, rfl, x1, x2, x3, x4, x5, x6, bel3⟩
    have hg2 : w2.heap.size ≤ g := x1
    have X6 := hid x6
    have X5 := hid x5
    unfold maxLen at x4
    have RN := hid (show Rd w3 (some ⟨g, 0, none⟩) pre from .inr ⟨g, 0, rfl, fun j hj => by rw [Nat.zero_add, ← Hold.out j (by rw [← Hn0.out]; exact hj)]; exact x6 j (by rw [Hn0.out] at hj; omega)⟩)
    have RO := hid (rd_below (rd_of Hn0.out C1.out C4.out P2.out) bel3)
    have RT3 := hid (rd_below RT.out bel3)
    clear x5 x6
    go_wp2_with fail
    refine (bytesEqual_any (some ⟨g, 0, none⟩) n0 cap3 ao n0 n0 pre pre w3 Hn0.out Hn0.out (by omega) (by omega) RN.out RO.out).mono ?_
    rintro e w3' ⟨rfl, nq, rfl⟩
    rw [decide_eq_true rfl]
    go_wp2_with (first | (at_make; refine wpList_make_own _ rfl _ _ 22 rfl w3.heap.size 5 i0 (.int .u8 0) 1 Try.underlying22 hi hz0 hz1 _ _ _ (1 + Pl.cnt d + n3) rfl rfl (by omega) ?_ ?_ ?_ ?_))
    · rw [hz2]; omega
    · unfold maxLen; omega
    · simp
    intro w4 hown4 hgrow4
    have HO4 := hid hown4
    have HB4 := hid (below_drewN_left ((Below.refl w3.heap.size (w3.drewN nq)).grown hgrow4 (by simp) (fun k h => by cases h)))
    clear hown4 hgrow4
    go_wp2
    go_loopw [12, 13] (fun v i wr => ∃ k : Nat, k ≤ 1 + Pl.cnt d ∧ i = .int .i64 ((n0 : Int) + (k : Int)) ∧ Hid (wr.ownsRow w3.heap.size 5 1 v k (((Pl.enc d p).take k).map (Value.int .u8))) ∧ Hid (Below w3.heap.size w3 wr))
      (fun _ i _ => n0 + 1 + Pl.cnt d - (intOf i).toNat)
    case atStart => exact ⟨0, Nat.zero_le _, by go_num, by simpa using HO4, HB4⟩
    case round =>
      clear HO4 HB4
      obtain ⟨k, hk, rfl, HO, HB⟩ := hrel
      have hsz := HB.out.size
      by_cases hlt : k < 1 + Pl.cnt d
      · have hcx : wr.cell? ⟨g, n0 + k, none⟩ = some (.int .u8 ((Pl.enc d p).getD k 0)) := by
          rw [HB.out.cell (by exact x2), ← enc_getD pre n0 d p k Hn0.out]
          exact X6.out (n0 + k) (by omega)
        have HT := hid (take_snoc (Pl.enc d p) k (by rw [Pl.enc_length]; omega))
        generalize (Pl.enc d p).getD k 0 = z at *
        go_wp2_with (first | (at_builtin; refine wpList_append_own _ rfl _ _ 22 rfl w3.heap.size 5 i0 (.int .u8 0) 1 1 Try.underlying22 hi hz0 hz1 hz2 rfl (by decide) _ _ _ rfl (HO.out.alloc _) ⟨wr.heap.size, 0, none⟩ 1 1 [.int .u8 z] rfl rfl ?_ ?_ ?_ ?_ ?_ ?_))
        · exact cell_one_new _ _ _
        · intro u hu; simp at hu; subst hu; rfl
        · unfold maxLen; omega
        · omega
        · simp; omega
        intro v2 w5 hown5 hgrow5 _
        rw [← List.map_take, HT.out] at hown5
        have HO5 := hid hown5
        have HB5 := hid ((HB.out.alloc hsz _).grown hgrow5 (by simp; omega) (fun k h => (HO.out.lt k h).1))
        clear hown5 hgrow5 hcx
        go_wp2
        go_roundw
        case rel => exact ⟨k + 1, by omega, by go_num, HO5, HB5⟩
        case measure => simp [intOf]; omega
      · have HO' : Hid (wr.ownsRow w3.heap.size 5 1 u12 (1 + Pl.cnt d) ((Pl.enc d p).map (Value.int .u8))) := by
          have := HO.out
          rw [List.take_of_length_le (by rw [Pl.enc_length]; omega), show k = 1 + Pl.cnt d by omega] at this
          exact this
        clear HO
        have HB0 := hid HB.out
        clear HB
        go_wp2
        go_loopw [12, 14] (fun v i wr => ∃ k : Nat, k ≤ n3 ∧ i = .int .i64 (k : Int) ∧ Hid (wr.ownsRow w3.heap.size 5 1 v (1 + Pl.cnt d + k) ((Pl.enc d p ++ tl.take k).map (Value.int .u8))) ∧ Hid (Below w3.heap.size w3 wr))
          (fun _ i _ => n3 - (intOf i).toNat)
        case atStart => exact ⟨0, Nat.zero_le _, rfl, by simpa using HO', HB0⟩
        case round =>
          clear HO' HB0 hsz
          obtain ⟨k, hk, rfl, HO, HB⟩ := hrel
          have hsz := HB.out.size
          by_cases hlt2 : k < n3
          · have hex : ∃ b o, at3 = some ⟨b, o, none⟩ ∧ b < w3.heap.size ∧ w3.cell? ⟨b, o + k, none⟩ = some (.int .u8 (tl.getD k 0)) := by
              rcases RT3.out with hnil | ⟨b, o, hb, hc⟩
              · have := Hn3.out; rw [hnil] at this; simp at this; omega
              · have hc' := hc k (by rw [Hn3.out]; exact hlt2)
                exact ⟨b, o, hb, World.block_lt_of_cell? w3 _ hc', hc'⟩
            obtain ⟨b, o, hb, hlt3, hc⟩ := hex
            have hcx : wr.cell? ⟨b, o + k, none⟩ = some (.int .u8 (tl.getD k 0)) := (HB.out.cell (by exact hlt3)).trans hc
            have HT := hid (take_snoc tl k (by rw [Hn3.out]; exact hlt2))
            clear hc
            subst hb
            generalize tl.getD k 0 = z at *
            go_wp2_with (first | (at_builtin; refine wpList_append_own _ rfl _ _ 22 rfl w3.heap.size 5 i0 (.int .u8 0) 1 1 Try.underlying22 hi hz0 hz1 hz2 rfl (by decide) _ _ _ rfl (HO.out.alloc _) ⟨wr.heap.size, 0, none⟩ 1 1 [.int .u8 z] rfl rfl ?_ ?_ ?_ ?_ ?_ ?_))
            · exact cell_one_new _ _ _
            · intro u hu; simp at hu; subst hu; rfl
            · unfold maxLen; omega
            · omega
            · simp; omega
            intro v2 w5 hown5 hgrow5 _
            have e5 : (Pl.enc d p ++ tl.take (k + 1)).map (Value.int .u8) = (Pl.enc d p ++ tl.take k).map (Value.int .u8) ++ [.int .u8 z] := by
              rw [List.map_append, ← HT.out, List.map_append, List.append_assoc]
            have HO5 : Hid (w5.ownsRow w3.heap.size 5 1 v2 (1 + Pl.cnt d + (k + 1)) ((Pl.enc d p ++ tl.take (k + 1)).map (Value.int .u8))) := by
              rw [e5]
              simpa [Hid, Nat.add_assoc] using hown5
            have HB5 := hid ((HB.out.alloc hsz _).grown hgrow5 (by simp; omega) (fun k h => (HO.out.lt k h).1))
            clear hown5 hgrow5 hcx e5
            go_wp2
            go_roundw
            case rel => exact ⟨k + 1, by omega, by go_num, HO5, HB5⟩
            case measure => simp [intOf]; omega
          · have hfin : wr.ownsRow w3.heap.size 5 1 u12 (1 + Pl.cnt d + n3) ((Pl.enc d p ++ tl).map (Value.int .u8)) := by
              have := HO.out
              rw [List.take_of_length_le (by rw [Hn3.out]; omega), show k = n3 by omega] at this
              exact this
            clear HO
            obtain ⟨gi, capi, hv, y1, y2, y3, y4, y5, y6⟩ := own_shape hfin (by omega)
            unfold maxLen at y4
            subst hv
            have HRI := hid (show Rd wr (some ⟨gi, 0, none⟩) (Pl.enc d p ++ tl) from .inr ⟨gi, 0, rfl, fun j hj => by rw [Nat.zero_add]; exact y6 j (by omega)⟩)
            have HTI := hid (rd_below RT3.out HB.out)
            have hltT : Hid (∀ b, at3 = some b → b.block < wr.heap.size) := fun b hb => Nat.lt_of_lt_of_le (T2.out b hb) (by have := bel3.size; omega)
            have Hlen := hid y5
            have HBts := hid (Pl.bts_append (Pl.enc_bts d p) Hb3.out)
            have HBW := hid (show Below w.heap.size w wr from ((bel1.trans (bel2.mono bel1.size)).trans (bel3.mono (by have := bel1.size; have := bel2.size; omega))).trans (HB.out.mono (by have := bel1.size; have := bel2.size; have := bel3.size; omega)))
            clear hfin y5 y6
            have hDec := hid (dec_new2 (f := false) Hlen.out y3 (by omega) y2 HRI.out)
            have kD := hid (zzDecodeRange_any wr.heap.size (Pl.enc d p ++ tl) false (some ⟨gi, 0, none⟩) (1 + Pl.cnt d + n3) capi M _ hDec.out HBts.out)
            rw [HD.out] at kD
            go_wp2_with fail
            refine (zzNew_any _ false _ (some ⟨gi, 0, none⟩) (1 + Pl.cnt d + n3) capi rfl).mono ?_
            rintro e wN ⟨rfl, rfl⟩
            go_wp2_with fail
            refine (kD.out).mono ?_
            rintro e w6 ⟨rfl, a6, n6, c6, hd6, hf6, hg6⟩
            have hd6' := dec_kept hd6 (World.grownBy_alloc w6 (.cells #[.int .i64 d, .int .u64 p] 29) none)
            have HD6 := hid hd6'.1
            have hn6 : tl.length = n6 := hd6.2.1
            have hn6' : n3 = n6 := by rw [← hn6, Hn3.out]
            rw [← hn6'] at HD6
            have hRdR := hid (rd_of_dec hd6')
            have hRdT := hid (rd_kept (rd_grown HTI.out hg6 hltT.out) (World.grownBy_alloc w6 (.cells #[.int .i64 d, .int .u64 p] 29) none))
            have Hbel := hid (((HBW.out.alloc HBW.out.size (.cells #[.slice (some ⟨gi, 0, none⟩) (1 + Pl.cnt d + n3) capi, .bool false] 43)).grown hg6 (by simp; have := HBW.out.size; omega) (fun k h => by cases h; exact HBW.out.size)).alloc (by have := hg6.size; have := HBW.out.size; simp at *; omega) (.cells #[.int .i64 d, .int .u64 p] 29))
            clear hd6 hd6' hf6 hg6 hn6 hn6'
            go_wp2_with fail
            refine (zzState_any wr.heap.size a6 n3 c6 false _ HD6.out).mono ?_
            rintro e w7 ⟨rfl, nq7, rfl⟩
            go_wp2_with fail
            refine (bytesEqual_any a6 n3 c6 at3 n3 n3 tl tl ((w6.alloc (.cells #[.int .i64 d, .int .u64 p] 29)).drewN nq7) Hn3.out Hn3.out (by omega) (by omega) hRdR.out hRdT.out).mono ?_
            rintro e w8 ⟨rfl, nq8, rfl⟩
            rw [decide_eq_true rfl]
            go_wp2
            go_ret
            exact ⟨rfl, below_drewN' Hbel.out _⟩

end Go.Proofs.Qxb6603786a
