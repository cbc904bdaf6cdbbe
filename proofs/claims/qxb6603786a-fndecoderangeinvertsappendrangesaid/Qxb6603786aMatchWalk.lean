/-
  THE WALKS of FnDecodeRangeMatchesModel(3).
-/
import Derived.Test.Qxb6603786aModel
namespace Go.Proofs.Qxb6603786a
open Go.RowKit

theorem model_any (ao : Option Addr) (n cap : Nat) (zs : List Int) (f : Bool) (M : Int) (w : World) (hn : zs.length = n) (hnm : n ≤ 1048576) (hr : Rd w ao zs) (hb : Pl.Bts zs) :
    Calls Try.prog 12 #[.slice ao n cap, .bool f, .int .i64 M] w fun e w' => e = .returned (.tuple #[.int .i64 (Pl.modelR zs f M).1, .int .u64 (Pl.modelR zs f M).2.1, .int .i64 (Pl.modelR zs f M).2.2.1, .bool (Pl.modelR zs f M).2.2.2]) ∧ w' = w := by
  match zs, f, hn, hr, hb with
  | zs, true, hn, _, _ =>
    have e : Pl.modelR zs true M = (0, 0, 0, true) := by simp [Pl.modelR]
    rw [e]
    exact model_none ao n cap true M w (.inl rfl)
  | [], false, hn, _, _ =>
    have e : Pl.modelR [] false M = (0, 0, 0, true) := by simp [Pl.modelR]
    rw [e]
    exact model_none ao n cap false M w (.inr ⟨rfl, by simpa using hn.symm⟩)
  | d :: tl, false, hn, hr, hb =>
    have hd := hb d (by simp)
    have htl : Pl.Bts tl := fun z hz => hb z (by simp [hz])
    have hn' : tl.length + 1 = n := by simpa using hn
    rcases hr with h | ⟨b, o, rfl, hc⟩
    · cases h
    have hc0 : w.cell? ⟨b, o, none⟩ = some (.int .u8 d) := hc 0 (by simp)
    have hcs : ∀ j, j < tl.length → w.cell? ⟨b, o + (1 + j), none⟩ = some (.int .u8 (tl.getD j 0)) := fun j hj => by
      rw [Nat.add_comm 1 j]; exact hc (j + 1) (by simpa using hj)
    by_cases hM : M < d
    · have e : Pl.modelR (d :: tl) false M = (0, 0, 0, true) := by simp [Pl.modelR, hM]
      rw [e]
      exact model_deep b o n cap d M w (by omega) hd.1 hd.2 hc0 hM
    by_cases hr : d < 16 ∧ d % 2 = 1 ∧ 16 ≤ tl.getD 0 0
    · have e : Pl.modelR (d :: tl) false M = (0, 0, 0, true) := by simp only [Pl.modelR]; rw [if_neg hM, if_pos hr]
      rw [e]
      have hl : 0 < tl.length := by
        cases tl with
        | nil => simp at hr
        | cons _ _ => simp
      exact model_refuse b o n cap d (tl.getD 0 0) M w (by omega) hnm hd.1 hr.1 hc0 (hcs 0 hl) hM hr.2.1 hr.2.2
    · have hcn := Pl.cnt_nonneg d hd.1
      have e : Pl.modelR (d :: tl) false M = (d, Pl.mv tl (Pl.cnt d - 8) (Pl.cnt d - (Pl.cnt d - 8)), (if tl.length < Pl.cnt d then 0 else 1 + (Pl.cnt d : Int)), decide (tl.length < Pl.cnt d)) := by
        simp only [Pl.modelR]
        rw [if_neg hM, if_neg hr]
        by_cases hl : tl.length < Pl.cnt d <;> simp [hl]
      rw [e]
      exact model_good b o n cap d M tl (Pl.cnt d) (Pl.cnt d - 8) w (by omega) (by omega) hnm hd.1 hd.2 hc0 hcs htl hM hr (by omega) (by omega) rfl

/-- A new decoder over a row that can be read. -/
theorem dec_new {w : World} {ao : Option Addr} {n : Nat} {zs : List Int} {f : Bool} (hn : zs.length = n) (hm : n ≤ 9223372036854775807) (hlt : ∀ b, ao = some b → b.block < w.heap.size) (hr : Rd w ao zs) :
    Dec (w.alloc (.cells #[.slice ao n n, .bool f] 43)) w.heap.size zs f ao n n := by
  refine ⟨heap_alloc_new w _, hn, Nat.le_refl _, hm, ?_⟩
  rcases hr with rfl | ⟨b, o, rfl, hc⟩
  · exact .inl rfl
  · exact .inr ⟨b, o, rfl, hlt _ rfl, fun j hj => (World.grownBy_alloc w _ none).cell (hc j (by omega)) (by simp)⟩

theorem rd_kept {w w' : World} {ao : Option Addr} {zs : List Int} (h : Rd w ao zs) (hg : w.grownBy w' none) : Rd w' ao zs := by
  rcases h with h | ⟨b, o, rfl, hc⟩
  · exact .inl h
  · exact .inr ⟨b, o, rfl, fun j hj => hg.cell (hc j hj) (by simp)⟩

/-- Behind a new block and writes to it alone. -/
theorem rd_grown {w w' : World} {ob : Obj} {ao : Option Addr} {zs : List Int} (h : Rd w ao zs) (hg : (w.alloc ob).grownBy w' (some w.heap.size)) (hlt : ∀ b, ao = some b → b.block < w.heap.size) : Rd w' ao zs := by
  rcases h with h | ⟨b, o, rfl, hc⟩
  · exact .inl h
  · have hb : b < w.heap.size := hlt _ rfl
    exact .inr ⟨b, o, rfl, fun j hj => hg.cell ((World.grownBy_alloc w ob none).cell (hc j hj) (by simp)) (by simp; omega)⟩

theorem rd_of_dec {w : World} {D : Nat} {zs : List Int} {f : Bool} {ao : Option Addr} {n cap : Nat} (h : Dec w D zs f ao n cap) : Rd w ao zs := by
  obtain ⟨_, hn, _, _, h5⟩ := h
  rcases h5 with h5 | ⟨b, o, rfl, _, hc⟩
  · exact .inl h5
  · exact .inr ⟨b, o, rfl, fun j hj => hc j (by omega)⟩

theorem rd_drop {w : World} {b : Nat} {zs : List Int} (h : Rd w (some ⟨b, 0, none⟩) zs) (u : Nat) : Rd w (some ⟨b, u, none⟩) (zs.drop u) := by
  rcases h with rfl | ⟨b', o, hb, hc⟩
  · exact .inl (by simp)
  · simp at hb
    obtain ⟨rfl, rfl⟩ := hb
    refine .inr ⟨b, u, rfl, fun j hj => ?_⟩
    have hj' : u + j < zs.length := by simp at hj; omega
    have := hc (u + j) hj'
    rw [Nat.zero_add] at this
    rw [this]
    simp [List.getD, List.getElem?_drop]

/-- Too long. -/
theorem match_long (a0 : Option Addr) (n cap : Nat) (f : Bool) (M : Int) (w : World) (h : 1048576 < n) (hm : n ≤ 9223372036854775807) :
    Calls Try.prog 3 #[.slice a0 n cap, .bool f, .int .i64 M] w fun e w' => e = .returned (.bool true) ∧ Below w.heap.size w w' := by
  go_enter Try.func3, Try.ntmps3
  go_wp2
  go_ret
  exact ⟨rfl, Below.refl _ _⟩

set_option maxHeartbeats 1600000 in
/-- The decoder ends failed. -/
theorem match_fails (a0 : Option Addr) (n cap : Nat) (zs : List Int) (f : Bool) (M : Int) (d v u : Int) (rest : List Int) (w : World) (h : n ≤ 1048576)
    (Hn : Hid (zs.length = n)) (Hr : Hid (Rd w a0 zs)) (Hnil : Hid (a0 = none → n = 0)) (Hb : Hid (Pl.Bts zs)) (HD : Hid (Pl.decR zs f M = (d, v, rest, true))) (HM : Hid (Pl.modelR zs f M = (d, v, u, true))) :
    Calls Try.prog 3 #[.slice a0 n cap, .bool f, .int .i64 M] w fun e w' => e = .returned (.bool true) ∧ Below w.heap.size w w' := by
  have hb1 : decide ((1048576 : Int) < (n : Int)) = false := decide_eq_false (by omega)
  have hq := q22
  go_enter Try.func3, Try.ntmps3
  go_wp2_with (first | (go_at_call 7; go_in))
  refine (cloneBytes_all a0 n cap zs _ Hn.out h Hr.out Hnil.out).mono ?_
  rintro e w1 ⟨ao, rfl, c1, c2, c3, c4, c5, bel1⟩
  have C1 := hid c1
  have C2 := hid c2
  have C3 := hid c3
  have C4 := hid c4
  clear c1 c2 c3 c4 c5
  go_wp2_with fail
  refine (zzNew_any _ f _ ao n n rfl).mono ?_
  rintro e w2 ⟨rfl, rfl⟩
  have hRd1 := hid (rd_of Hn.out C1.out C4.out C3.out)
  have hDec := hid (dec_new (f := f) Hn.out (by omega : n ≤ 9223372036854775807) C2.out hRd1.out)
  have kD := hid (zzDecodeRange_any w1.heap.size zs f ao n n M _ hDec.out Hb.out)
  rw [HD.out] at kD
  go_wp2_with fail
  refine (kD.out).mono ?_
  rintro e w3 ⟨rfl, a3, n3, c3, hd3, hf3, hg3⟩
  have HD3 := hid (hd3.1.kept (World.grownBy_alloc w3 (.cells #[.int .i64 d, .int .u64 v] 29) none))
  have hRd3 := hid (rd_kept (rd_grown hRd1.out hg3 C2.out) (World.grownBy_alloc w3 (.cells #[.int .i64 d, .int .u64 v] 29) none))
  have Hbel := hid (((bel1.alloc bel1.size (.cells #[.slice ao n n, .bool f] 43)).grown hg3 (by simp; have := bel1.size; omega) (fun k h => by cases h; exact bel1.size)).alloc (by have := hg3.size; have := bel1.size; simp at *; omega) (.cells #[.int .i64 d, .int .u64 v] 29))
  have Hf3 := hid hf3
  clear hd3 hf3 hg3
  go_wp2_with fail
  refine (zzState_any w1.heap.size a3 n3 c3 true _ HD3.out).mono ?_
  rintro e w4 ⟨rfl, nq, rfl⟩
  go_wp2_with fail
  have kM := hid (model_any ao n n zs f M ((w3.alloc (.cells #[.int .i64 d, .int .u64 v] 29)).drewN nq) Hn.out h hRd3.out Hb.out)
  rw [HM.out] at kM
  refine (kM.out).mono ?_
  rintro e w5 ⟨rfl, rfl⟩
  go_wp2
  go_ret
  exact ⟨ret_bool Hf3.out.symm, below_drewN' Hbel.out _⟩

set_option maxHeartbeats 1600000 in
/-- The decoder reads on. -/
theorem match_good (a0 : Option Addr) (n cap : Nat) (zs : List Int) (M : Int) (d v : Int) (u : Nat) (w : World) (h : n ≤ 1048576) (hn0 : 1 ≤ n) (hu : u ≤ n)
    (Hn : Hid (zs.length = n)) (Hr : Hid (Rd w a0 zs)) (Hnil : Hid (a0 = none → n = 0)) (Hb : Hid (Pl.Bts zs)) (HD : Hid (Pl.decR zs false M = (d, v, zs.drop u, false))) (HM : Hid (Pl.modelR zs false M = (d, v, (u : Int), false))) :
    Calls Try.prog 3 #[.slice a0 n cap, .bool false, .int .i64 M] w fun e w' => e = .returned (.bool true) ∧ Below w.heap.size w w' := by
  have hb1 : decide ((1048576 : Int) < (n : Int)) = false := decide_eq_false (by omega)
  have hq := q22
  go_enter Try.func3, Try.ntmps3
  go_wp2_with (first | (go_at_call 7; go_in))
  refine (cloneBytes_all a0 n cap zs _ Hn.out h Hr.out Hnil.out).mono ?_
  rintro e w1 ⟨ao, rfl, c1, c2, c3, c4, c5, bel1⟩
  have hao : ao = some ⟨w.heap.size, 0, none⟩ := by
    cases ao with
    | none => have := c1 rfl; omega
    | some b => rw [c4 b rfl]
  subst hao
  have C2 := hid c2
  have hRd1 := hid (rd_of Hn.out c1 c4 c3)
  clear c1 c2 c3 c4 c5
  go_wp2_with fail
  refine (zzNew_any _ false _ (some ⟨w.heap.size, 0, none⟩) n n rfl).mono ?_
  rintro e w2 ⟨rfl, rfl⟩
  have hDec := hid (dec_new (f := false) Hn.out (by omega : n ≤ 9223372036854775807) C2.out hRd1.out)
  have kD := hid (zzDecodeRange_any w1.heap.size zs false (some ⟨w.heap.size, 0, none⟩) n n M _ hDec.out Hb.out)
  rw [HD.out] at kD
  go_wp2_with fail
  refine (kD.out).mono ?_
  rintro e w3 ⟨rfl, a3, n3, c3, hd3, hf3, hg3⟩
  have hd3' := dec_kept hd3 (World.grownBy_alloc w3 (.cells #[.int .i64 d, .int .u64 v] 29) none)
  have HD3 := hid hd3'.1
  have hn3 : (zs.drop u).length = n3 := hd3.2.1
  have hn3' : n - u = n3 := by rw [← hn3, List.length_drop, Hn.out]
  subst hn3'
  have hRdR := hid (rd_of_dec hd3')
  have hRd3 := hid (rd_kept (rd_grown hRd1.out hg3 C2.out) (World.grownBy_alloc w3 (.cells #[.int .i64 d, .int .u64 v] 29) none))
  have Hbel := hid (((bel1.alloc bel1.size (.cells #[.slice (some ⟨w.heap.size, 0, none⟩) n n, .bool false] 43)).grown hg3 (by simp; have := bel1.size; omega) (fun k h => by cases h; exact bel1.size)).alloc (by have := hg3.size; have := bel1.size; simp at *; omega) (.cells #[.int .i64 d, .int .u64 v] 29))
  have ha3 : ∃ x, a3 = some x := by
    cases a3 with
    | none => simp at hf3
    | some x => exact ⟨x, rfl⟩
  obtain ⟨x3, rfl⟩ := ha3
  clear hd3 hd3' hf3 hg3 hn3
  go_wp2_with fail
  refine (zzState_any w1.heap.size (some x3) (n - u) c3 false _ HD3.out).mono ?_
  rintro e w4 ⟨rfl, nq, rfl⟩
  go_wp2_with fail
  have kM := hid (model_any (some ⟨w.heap.size, 0, none⟩) n n zs false M ((w3.alloc (.cells #[.int .i64 d, .int .u64 v] 29)).drewN nq) Hn.out h hRd3.out Hb.out)
  rw [HM.out] at kM
  refine (kM.out).mono ?_
  rintro e w5 ⟨rfl, rfl⟩
  by_cases hun : u < n
  · go_wp2_with fail
    refine (bytesEqual_any (some x3) (n - u) c3 (some ⟨w.heap.size, u, none⟩) (n - u) (n - u) (zs.drop u) (zs.drop u) ((w3.alloc (.cells #[.int .i64 d, .int .u64 v] 29)).drewN nq) (by rw [List.length_drop, Hn.out]) (by rw [List.length_drop, Hn.out]) (by omega) (by omega) hRdR.out (rd_drop hRd3.out u)).mono ?_
    rintro e w6 ⟨rfl, nq2, rfl⟩
    rw [decide_eq_true rfl]
    go_wp2
    go_ret
    exact ⟨rfl, below_drewN' Hbel.out _⟩
  · have hE := hid (show zs.drop u = [] from List.drop_of_length_le (by rw [Hn.out]; omega))
    go_wp2_with fail
    refine (bytesEqual_any (some x3) (n - u) c3 (some ⟨w.heap.size, 0, none⟩) (n - u) (n - u) (zs.drop u) (zs.drop u) ((w3.alloc (.cells #[.int .i64 d, .int .u64 v] 29)).drewN nq) (by rw [List.length_drop, Hn.out]) (by rw [List.length_drop, Hn.out]) (by omega) (by omega) hRdR.out (.inl hE.out)).mono ?_
    rintro e w6 ⟨rfl, nq2, rfl⟩
    rw [decide_eq_true rfl]
    go_wp2
    go_ret
    exact ⟨rfl, below_drewN' Hbel.out _⟩

/-- All ways. -/
theorem match_any (a0 : Option Addr) (n cap : Nat) (zs : List Int) (f : Bool) (M : Int) (w : World) (h : n ≤ 1048576) (hn : zs.length = n) (hr : Rd w a0 zs) (hnil : a0 = none → n = 0) (hb : Pl.Bts zs) :
    Calls Try.prog 3 #[.slice a0 n cap, .bool f, .int .i64 M] w fun e w' => e = .returned (.bool true) ∧ Below w.heap.size w w' := by
  have law := Pl.model_law zs f M hb
  cases hD : Pl.decR zs f M with
  | mk d r1 =>
    obtain ⟨v, rest, fl⟩ := r1
    cases hM : Pl.modelR zs f M with
    | mk d' r2 =>
      obtain ⟨v', u, fl'⟩ := r2
      rw [hD, hM] at law
      simp only at law
      obtain ⟨rfl, rfl, rfl, hrest⟩ := law
      cases fl with
      | true => exact match_fails a0 n cap zs f M d v u rest w h hn hr hnil hb hD hM
      | false =>
        obtain ⟨un, rfl, hu1, _, rfl⟩ := hrest rfl
        have hf : f = false ∧ 1 ≤ n := by
          cases f with
          | true => simp [Pl.modelR] at hM
          | false =>
            refine ⟨rfl, ?_⟩
            cases zs with
            | nil => simp [Pl.modelR] at hM
            | cons _ _ => simp at hn; omega
        obtain ⟨rfl, hn1⟩ := hf
        exact match_good a0 n cap zs M d v un w h hn1 (by omega) hn hr hnil hb hD hM

end Go.Proofs.Qxb6603786a
