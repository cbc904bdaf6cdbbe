/-
  THE WALK of decodeRange(18), ZZDecodeRange(10).
-/
import Derived.Test.Qxb6603786aDec
import Derived.Laws.BitsAllLaws
import Derived.Deep.RegionWith
namespace Go.Proofs.Qxb6603786a
open Go.RowKit

theorem or_acc (v c : Int) (hc0 : 0 ≤ c) (hc1 : c ≤ 255) : bits .or .u64 (v * 256 % 18446744073709551616) c = Pl.acc v c := by
  rw [u64_or _ _ (by omega) (by omega) hc0 (by omega), Pl.or_low v c hc0 hc1]
  have := Pl.acc_bd v c
  omega

/-- A block of a Range. -/
def RB (w : World) (R : Nat) (d v : Int) : Prop := w.heap[R]? = some (.cells #[.int .i64 d, .int .u64 v] 29 (0, 0))
theorem RB.c0 {w : World} {R : Nat} {d v : Int} (h : RB w R d v) : w.cell? ⟨R, 0, none⟩ = some (.int .i64 d) := by unfold RB at h; simp [World.cell?, h]
theorem RB.c1 {w : World} {R : Nat} {d v : Int} (h : RB w R d v) : w.cell? ⟨R, 1, none⟩ = some (.int .u64 v) := by unfold RB at h; simp [World.cell?, h]
theorem RB.z0 {w : World} {R : Nat} {d v : Int} (h : RB w R d v) : w.frozen? ⟨R, 0, none⟩ = false := by unfold RB at h; simp [World.frozen?, h]
theorem RB.z1 {w : World} {R : Nat} {d v : Int} (h : RB w R d v) : w.frozen? ⟨R, 1, none⟩ = false := by unfold RB at h; simp [World.frozen?, h]
theorem RB.lt {w : World} {R : Nat} {d v : Int} (h : RB w R d v) : R < w.heap.size := lt_of_block h
theorem RB.set1 {w : World} {R : Nat} {d v : Int} (h : RB w R d v) (u : Int) : RB (w.setCell ⟨R, 1, none⟩ (.int .u64 u)) R d u := by
  have := heap_setCell_same w R 1 _ _ (.int .u64 u) h
  unfold RB; rw [this]; rfl
theorem RB.kept {w w' : World} {R : Nat} {d v : Int} {D : Nat} (h : RB w R d v) (hg : w.grownBy w' (some D)) (hne : R ≠ D) : RB w' R d v := by
  unfold RB; rw [hg.block R h.lt (by simpa using hne)]; exact h

theorem RB.new (w : World) (d v : Int) : RB (w.alloc (.cells #[.int .i64 d, .int .u64 v] 29)) w.heap.size d v := heap_alloc_new w _
theorem DB.kept {w w' : World} {D : Nat} {s : Value} {f : Bool} (h : DB w D s f) (hg : w.grownBy w' none) : DB w' D s f := by
  unfold DB; rw [hg.block D h.lt (by simp)]; exact h
theorem RB.set2 {w : World} {R : Nat} {d v : Int} (h : RB w R d v) (d' v' : Int) : RB ((w.setCell ⟨R, 0, none⟩ (.int .i64 d')).setCell ⟨R, 1, none⟩ (.int .u64 v')) R d' v' := by
  have h1 := heap_setCell_same w R 0 _ _ (.int .i64 d') h
  have h2 := heap_setCell_same _ R 1 _ _ (.int .u64 v') h1
  unfold RB; rw [h2]; rfl

theorem grown_of_drew {w w' : World} {r : Option Nat} (h : w.drew.grownBy w' r) : w.grownBy w' r := ⟨h.os, h.tape, h.output, h.size, h.block⟩
theorem dec_drew {w : World} {D : Nat} {zs : List Int} {f : Bool} {ao : Option Addr} {n cap : Nat} (h : Dec w D zs f ao n cap) : Dec w.drew D zs f ao n cap := h

/-- What decodeRange leaves: the decoder's state, nil where it has failed; nothing else that was there has turned. -/
def Left (w w' : World) (D : Nat) (r : Int × Int × List Int × Bool) : Prop :=
  ∃ ao n cap, Dec w' D r.2.2.1 r.2.2.2 ao n cap ∧ r.2.2.2 = ao.isNone ∧ w.grownBy w' (some D)

set_option maxHeartbeats 800000 in
theorem decodeRange_any (D : Nat) (zs : List Int) (f : Bool) (ao : Option Addr) (n cap : Nat) (M : Int) (w : World) (h : Dec w D zs f ao n cap) (hb : Pl.Bts zs) :
    Calls Try.prog 18 #[.pointer (some ⟨D, 0, none⟩), .int .i64 M] w fun e w' => e = .returned (.agg #[.int .i64 (Pl.decR zs f M).1, .int .u64 (Pl.decR zs f M).2.1]) ∧
      Left w w' D (Pl.decR zs f M) := by
  have hDlt : D < w.heap.size := h.1.lt
  have hvb := Pl.stepV_bd zs f hb
  have Hb1 := hid (Pl.stepZ_bts zs f hb)
  obtain ⟨hv0, hv1⟩ := hvb
  have H := hid h
  clear h hb
  by_cases hM : M < Pl.stepV zs f
  · have e1 : Pl.decR zs f M = (0, 0, [], true) := by unfold Pl.decR; rw [if_pos hM]
    rw [e1]
    clear e1
    go_enter Try.func18, Try.ntmps18
    go_wp2_with fail
    refine (byte_any D zs f ao n cap _ (dec_kept H.out (World.grownBy_alloc _ _ _))).mono ?_
    generalize Pl.stepV zs f = d at *
    generalize Pl.stepZ zs f = z1 at *
    generalize Pl.stepF zs f = f1 at *
    rintro e w1 ⟨rfl, ao1, n1, cap1, hdec1, hf1, hg1⟩
    have hne : w.heap.size ≠ D := by omega
    have R0 : RB w1 w.heap.size 0 0 := (RB.new w 0 0).kept hg1 hne
    have hw1 : w.heap.size < w1.heap.size := R0.lt
    have HD1 := hid (hdec1.1.kept (World.grownBy_alloc w1 (.cells #[.int .i64 d, .int .u64 0] 29) none))
    have HR0 := hid R0
    clear hdec1 R0
    go_wp2_with fail
    refine (fail_any D _ _ _ HD1.out).mono ?_
    rintro e w2 ⟨rfl, hd2, hg2⟩
    have R2 : RB w2 w.heap.size 0 0 := (HR0.out.kept (World.grownBy_alloc w1 _ (some D)) hne).kept hg2 hne
    have c0 := R2.c0
    have c1 := R2.c1
    have z0 := R2.z0
    have z1' := R2.z1
    have HD2 := hid hd2
    have HR2 := hid R2
    clear hd2 R2
    go_wp2
    have hG : w.grownBy w2 (some D) := grown_trans (grown_trans (grown_trans (World.grownBy_alloc w _ _) hg1) (World.grownBy_alloc w1 _ _)) hg2
    exact bodyPost_ret (v := .agg #[.int .i64 0, .int .u64 0]) (by simp [results, Try.results18, go_sem, c0, c1]) rfl ⟨rfl, none, 0, 0, dec_set (dec_set (dec_nil HD2.out) hDlt _) hDlt _, rfl, grown_own (grown_own hG (Nat.le_refl _) _) (Nat.le_refl _) _⟩
  · have HdR : Hid (Pl.decR zs f M = if Pl.stepV zs f < 16 ∧ (Pl.dloop (Pl.cnt (Pl.stepV zs f)) 0 (Pl.stepZ zs f) (Pl.stepF zs f)).1 / 2 ^ (4 * Pl.stepV zs f).toNat ≠ 0 then (0, 0, [], true) else (Pl.stepV zs f, Pl.dloop (Pl.cnt (Pl.stepV zs f)) 0 (Pl.stepZ zs f) (Pl.stepF zs f))) := by
      show Pl.decR zs f M = _
      unfold Pl.decR; rw [if_neg hM]
    have hMb : decide (M < Pl.stepV zs f) = false := decide_eq_false hM
    go_enter Try.func18, Try.ntmps18
    go_wp2_with fail
    refine (byte_any D zs f ao n cap _ (dec_kept H.out (World.grownBy_alloc _ _ _))).mono ?_
    generalize Pl.stepV zs f = d at *
    generalize Pl.stepZ zs f = z1 at *
    generalize Pl.stepF zs f = f1 at *
    rintro e w1 ⟨rfl, ao1, n1, cap1, hdec1, hf1, hg1⟩
    have hne : w.heap.size ≠ D := by omega
    have R0 : RB w1 w.heap.size 0 0 := (RB.new w 0 0).kept hg1 hne
    have hw1 : w.heap.size < w1.heap.size := R0.lt
    have HD1 := hid (dec_kept hdec1 (World.grownBy_alloc w1 (.cells #[.int .i64 d, .int .u64 0] 29) none))
    have HR0 := hid (R0.kept (World.grownBy_alloc w1 (.cells #[.int .i64 d, .int .u64 0] 29) (some D)) hne)
    have HR1 := hid (RB.new w1 d 0)
    have HG1 := hid (grown_trans (grown_trans (World.grownBy_alloc w (.cells #[.int .i64 0, .int .u64 0] 29) (some D)) hg1) (World.grownBy_alloc w1 (.cells #[.int .i64 d, .int .u64 0] 29) (some D)))
    have HF1 := hid hf1
    have hcn : (Pl.cnt d : Int) = (d + 1) / 2 := Pl.cnt_nonneg d hv0
    have HC := hid hcn
    have hcb : Pl.cnt d ≤ 128 := by omega
    clear hdec1 R0 hg1 hf1 hcn
    go_wp2
    go_loopw [21] (fun i wr => ∃ (k : Nat) (v : Int) (zz : List Int) (ff : Bool) (aw : Option Addr) (nw cw : Nat), k ≤ Pl.cnt d ∧ i = .int .i64 k ∧ Hid (Pl.dloop (Pl.cnt d - k) v zz ff = Pl.dloop (Pl.cnt d) 0 z1 f1) ∧ Hid (Pl.Bts zz) ∧
        0 ≤ v ∧ v ≤ 18446744073709551615 ∧ Hid (Dec wr D zz ff aw nw cw) ∧ Hid (ff = aw.isNone) ∧ Hid (RB wr w1.heap.size d v) ∧ Hid (RB wr w.heap.size 0 0) ∧ Hid (w.grownBy wr (some D))) (fun i _ => Pl.cnt d - (intOf i).toNat)
    case atStart => exact ⟨0, 0, z1, f1, ao1, n1, cap1, Nat.zero_le _, rfl, rfl, Hb1, by omega, by omega, HD1, HF1, HR1, HR0, HG1⟩
    case round =>
      clear HD1 HR1 HR0 HG1 HF1 Hb1
      obtain ⟨k, v, zz, ff, aw, nw, cw, hk, rfl, HL, HB, hv2, hv3, HD, HF, HR, HR0, HG⟩ := hrel
      by_cases hlt : k < Pl.cnt d
      · have hlt' : (k : Int) < (d + 1) / 2 := by rw [← HC.out]; omega
        have cP := HR.out.c1
        have zP := HR.out.z1
        have hsv := Pl.stepV_bd zz ff HB.out
        obtain ⟨hs0, hs1⟩ := hsv
        go_wp2
        go_region_with (go_at_call 20; refine (byte_any D zz ff aw nw cw _ (dec_drew HD.out)).mono ?_; rintro e w2 ⟨rfl, a2, n2, c2, hd2, hf2, hg2'⟩; have hg2 := grown_of_drew hg2'; have HD2 := hid hd2; have HF2 := hid hf2; have HG2 := hid hg2; have HR2 := hid (HR.out.kept hg2 (by omega)); have HR02 := hid (HR0.out.kept hg2 (by omega)); have cP2 := HR2.out.c1; have zP2 := HR2.out.z1; clear hd2 hf2 hg2 hg2')
        all_goals
          have hor : bits .or .u64 (IntKind.u64.wrap (v * 256)) (IntKind.u64.wrap (Pl.stepV zz ff)) = Pl.acc v (Pl.stepV zz ff) := by
            rw [IntKind.wrap_u64, IntKind.wrap_u64, Int.emod_eq_of_lt hs0 (by omega), or_acc v _ hs0 hs1]
          rw [hor]
          clear hor cP zP cP2 zP2
          go_wp2
          go_roundw
          case rel =>
            refine ⟨k + 1, Pl.acc v (Pl.stepV zz ff), Pl.stepZ zz ff, Pl.stepF zz ff, a2, n2, c2, by omega, by go_num, ?_, Pl.stepZ_bts zz ff HB.out, (Pl.acc_bd _ _).1, (Pl.acc_bd _ _).2, dec_set HD2.out (by omega) _, HF2, HR2.out.set1 _, ?_, ?_⟩
            · have := HL.out
              rw [show Pl.cnt d - k = (Pl.cnt d - (k + 1)) + 1 by omega, Pl.dloop_succ] at this
              exact this
            · show RB _ _ _ _
              unfold RB
              rw [heap_setCell_other _ ⟨w1.heap.size, 1, none⟩ w.heap.size _ (by simp; omega)]
              exact HR02.out
            · exact grown_own (grown_trans HG.out HG2.out) (by omega) _
          case measure => simp [intOf]; omega
      · have hk' : k = Pl.cnt d := by omega
        have hdl := HL.out
        rw [hk', Nat.sub_self] at hdl
        have hge : ¬ ((k : Int) < (d + 1) / 2) := by rw [← HC.out]; omega
        have c0 := HR.out.c0
        have c1 := HR.out.c1
        have y0 := HR0.out.c0
        have y1 := HR0.out.c1
        have q0 := HR0.out.z0
        have q1 := HR0.out.z1
        have e1 := hid (show Pl.dloop (Pl.cnt d) 0 z1 f1 = (v, zz, ff) from hdl.symm)
        rw [e1.out] at HdR
        clear hdl hk'
        by_cases hbad : d < 16 ∧ v / 2 ^ (4 * d).toNat ≠ 0
        · have HR' := HdR.out
          rw [if_pos hbad] at HR'
          obtain ⟨hd16, hvb⟩ := hbad
          have hvb' : (v / 2 ^ (4 * d).toNat != 0) = true := by rw [bne_iff_ne]; exact hvb
          have hvb'' : (v / 2 ^ (4 * d).toNat == 0) = false := beq_eq_false_iff_ne.2 hvb
          have HRR := hid HR'
          clear HR' HdR hvb
          go_wp2_with fail
          refine (fail_any D _ _ _ HD.out.1).mono ?_
          rintro e w2 ⟨rfl, hd2, hg2⟩
          have R2 : RB w2 w.heap.size 0 0 := HR0.out.kept hg2 hne
          have k0 := R2.c0
          have k1 := R2.c1
          have z0 := R2.z0
          have z1' := R2.z1
          have HD2 := hid hd2
          have HG2 := hid hg2
          clear hd2 hg2 R2
          go_wp2
          refine bodyPost_ret (v := .agg #[.int .i64 0, .int .u64 0]) (by simp [results, Try.results18, go_sem, k0, k1]) rfl ?_
          rw [HRR.out]
          exact ⟨rfl, none, 0, 0, dec_set (dec_set (dec_nil HD2.out) hDlt _) hDlt _, rfl, grown_own (grown_own (grown_trans HG.out HG2.out) (Nat.le_refl _) _) (Nat.le_refl _) _⟩
        · have HR' := HdR.out
          rw [if_neg hbad] at HR'
          have HRR := hid HR'
          clear HR' HdR
          by_cases hd16 : d < 16
          · have hvb : v / 2 ^ (4 * d).toNat = 0 := by
              by_cases hx : v / 2 ^ (4 * d).toNat = 0
              · exact hx
              · exact absurd ⟨hd16, hx⟩ hbad
            have hvb' : (v / 2 ^ (4 * d).toNat != 0) = false := by rw [hvb]; rfl
            have hvb'' : (v / 2 ^ (4 * d).toNat == 0) = true := by rw [hvb]; rfl
            clear hvb hbad
            go_wp2
            refine bodyPost_ret (v := .agg #[.int .i64 d, .int .u64 v]) (by simp [results, Try.results18, go_sem, y0, y1]) rfl ?_
            rw [HRR.out]
            exact ⟨rfl, aw, nw, cw, dec_set (dec_set HD.out hDlt _) hDlt _, HF.out, grown_own (grown_own HG.out (Nat.le_refl _) _) (Nat.le_refl _) _⟩
          · have hd16' : decide (d < 16) = false := decide_eq_false hd16
            clear hbad
            go_wp2
            refine bodyPost_ret (v := .agg #[.int .i64 d, .int .u64 v]) (by simp [results, Try.results18, go_sem, y0, y1]) rfl ?_
            rw [HRR.out]
            exact ⟨rfl, aw, nw, cw, dec_set (dec_set HD.out hDlt _) hDlt _, HF.out, grown_own (grown_own HG.out (Nat.le_refl _) _) (Nat.le_refl _) _⟩

set_option maxHeartbeats 800000 in
theorem zzDecodeRange_any (D : Nat) (zs : List Int) (f : Bool) (ao : Option Addr) (n cap : Nat) (M : Int) (w : World) (h : Dec w D zs f ao n cap) (hb : Pl.Bts zs) :
    Calls Try.prog 10 #[.pointer (some ⟨D, 0, none⟩), .int .i64 M] w fun e w' => e = .returned (.agg #[.int .i64 (Pl.decR zs f M).1, .int .u64 (Pl.decR zs f M).2.1]) ∧
      Left w w' D (Pl.decR zs f M) := by
  have hDlt : D < w.heap.size := h.1.lt
  have hne : w.heap.size ≠ D := by omega
  have H := hid h
  have HB := hid hb
  clear h hb
  have key := hid (decodeRange_any D zs f ao n cap M)
  generalize Pl.decR zs f M = r at *
  obtain ⟨d, v, z, ff⟩ := r
  go_enter Try.func10, Try.ntmps10
  go_wp2_with fail
  refine (key.out _ (dec_kept H.out (World.grownBy_alloc _ _ _)) HB.out).mono ?_
  rintro e w1 ⟨rfl, ao1, n1, c1, hd1, hf1, hg1⟩
  have R0 : RB w1 w.heap.size 0 0 := (RB.new w 0 0).kept hg1 hne
  have k0 := R0.c0
  have k1 := R0.c1
  have z0 := R0.z0
  have z1' := R0.z1
  have HD := hid hd1
  have HF := hid hf1
  have HG := hid (grown_trans (World.grownBy_alloc w _ _) hg1)
  clear R0 hd1 hf1 hg1
  go_wp2
  exact bodyPost_ret (v := .agg #[.int .i64 d, .int .u64 v]) (by simp [results, Try.results10, go_sem, k0, k1]) rfl ⟨rfl, ao1, n1, c1, dec_set (dec_set HD.out hDlt _) hDlt _, HF.out, grown_own (grown_own HG.out (Nat.le_refl _) _) (Nat.le_refl _) _⟩

/-- ZZNewDecoder lays the decoder's block. -/
theorem zzNew_any (s : Value) (f : Bool) (w : World) (ao : Option Addr) (n cap : Nat) (hs : s = .slice ao n cap) :
    Calls Try.prog 9 #[s, .bool f] w fun e w' => e = .returned (.pointer (some ⟨w.heap.size, 0, none⟩)) ∧ w' = w.alloc (.cells #[s, .bool f] 43) := by
  subst hs
  go_enter Try.func9, Try.ntmps9
  go_wp2
  go_ret
  exact ⟨rfl, rfl⟩

/-- ZZDecoderState reads it. -/
theorem zzState_any (D : Nat) (ao : Option Addr) (n cap : Nat) (f : Bool) (w : World) (h : DB w D (.slice ao n cap) f) :
    Calls Try.prog 11 #[.pointer (some ⟨D, 0, none⟩)] w fun e w' => e = .returned (.tuple #[.slice ao n cap, .bool f]) ∧ ∃ q, w' = w.drewN q := by
  have c0 := h.c0
  have c1 := h.c1
  clear h
  go_enter Try.func11, Try.ntmps11
  go_wp2
  go_quiet (fail)
  go_wp2
  go_ret2
  exact ⟨rfl, _, rfl⟩

end Go.Proofs.Qxb6603786a
