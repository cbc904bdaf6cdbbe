/-
  THE WALKS of Decoder.Fail(21), fixed(23), Byte(20), ZZNewDecoder(9), ZZDecoderState(11).
-/
import Derived.Test.Qxb6603786aClone
namespace Go.Proofs.Qxb6603786a
open Go.RowKit

/-- The decoder's block: its slice, its flag. -/
def DB (w : World) (D : Nat) (s : Value) (f : Bool) : Prop := w.heap[D]? = some (.cells #[s, .bool f] 43 (0, 0))

theorem DB.c0 {w : World} {D : Nat} {s : Value} {f : Bool} (h : DB w D s f) : w.cell? ⟨D, 0, none⟩ = some s := by unfold DB at h; simp [World.cell?, h]
theorem DB.c1 {w : World} {D : Nat} {s : Value} {f : Bool} (h : DB w D s f) : w.cell? ⟨D, 1, none⟩ = some (.bool f) := by unfold DB at h; simp [World.cell?, h]
theorem DB.z0 {w : World} {D : Nat} {s : Value} {f : Bool} (h : DB w D s f) : w.frozen? ⟨D, 0, none⟩ = false := by unfold DB at h; simp [World.frozen?, h]
theorem DB.z1 {w : World} {D : Nat} {s : Value} {f : Bool} (h : DB w D s f) : w.frozen? ⟨D, 1, none⟩ = false := by unfold DB at h; simp [World.frozen?, h]
theorem DB.lt {w : World} {D : Nat} {s : Value} {f : Bool} (h : DB w D s f) : D < w.heap.size := lt_of_block h
theorem DB.set0 {w : World} {D : Nat} {s : Value} {f : Bool} (h : DB w D s f) (u : Value) : DB (w.setCell ⟨D, 0, none⟩ u) D u f := by
  have := heap_setCell_same w D 0 _ _ u h
  unfold DB; rw [this]; rfl
theorem DB.set1 {w : World} {D : Nat} {s : Value} {f : Bool} (h : DB w D s f) (b : Bool) : DB (w.setCell ⟨D, 1, none⟩ (.bool b)) D s b := by
  have := heap_setCell_same w D 1 _ _ (.bool b) h
  unfold DB; rw [this]; rfl

theorem grown_set (w : World) (D o : Nat) (u : Value) : w.grownBy (w.setCell ⟨D, o, none⟩ u) (some D) :=
  ⟨rfl, rfl, rfl, by simp, fun k _ hk => heap_setCell_other w ⟨D, o, none⟩ k u (fun e => hk (by simp [e]))⟩
theorem grown_trans {a b c : World} {r : Option Nat} (h : a.grownBy b r) (k : b.grownBy c r) : a.grownBy c r :=
  ⟨k.os.trans h.os, k.tape.trans h.tape, k.output.trans h.output, Nat.le_trans h.size k.size, fun i hi hr => (k.block i (Nat.lt_of_lt_of_le hi h.size) hr).trans (h.block i hi hr)⟩
theorem grown_drewN (w : World) (n : Nat) (r : Option Nat) : w.grownBy (w.drewN n) r := ⟨rfl, rfl, rfl, Nat.le_refl _, fun _ _ _ => rfl⟩

set_option maxHeartbeats 400000 in
theorem fail_any (D : Nat) (s : Value) (f : Bool) (w : World) (h : DB w D s f) :
    Calls Try.prog 21 #[.pointer (some ⟨D, 0, none⟩)] w fun e w' => e = .returned (.tuple #[]) ∧ DB w' D (.slice none 0 0) true ∧ w.grownBy w' (some D) := by
  have hc0 := h.c0
  have hc1 := h.c1
  have hz0 := h.z0
  have hz1 := h.z1
  have H := hid h
  clear h
  go_enter Try.func21, Try.ntmps21
  go_wp2
  go_end0
  exact ⟨rfl, (H.out.set1 true).set0 _, grown_trans (grown_set _ _ _ _) (grown_set _ _ _ _)⟩

theorem mk1 (w : World) : (Instr.makeSlice 22 (.int .i64 1) (.int .i64 1)).run Try.prog w = .ok (.slice (some ⟨w.heap.size, 0, none⟩) 1 1) (w.alloc (.cells #[.int .u8 0] 5)) := by kernel_rfl

set_option maxHeartbeats 400000 in
/-- fixed(1) where nothing can be taken. -/
theorem fixed_bad (D : Nat) (ao : Option Addr) (n cap : Nat) (f : Bool) (w : World) (h : DB w D (.slice ao n cap) f) (hbad : f = true ∨ (f = false ∧ n = 0)) :
    Calls Try.prog 23 #[.pointer (some ⟨D, 0, none⟩), .int .i64 1] w fun e w' => ∃ g, e = .returned (.slice (some ⟨g, 0, none⟩) 1 1) ∧ w'.cell? ⟨g, 0, none⟩ = some (.int .u8 0) ∧
      DB w' D (.slice none 0 0) true ∧ w.grownBy w' (some D) := by
  have hmk := mk1
  have hc0 := h.c0
  have hc1 := h.c1
  have H := hid h
  clear h
  rcases hbad with rfl | ⟨rfl, rfl⟩
  all_goals
    go_enter Try.func23, Try.ntmps23
    go_wp2_with (go_at_call 21; refine (fail_any D _ _ _ H.out).mono ?_; rintro e w1 ⟨rfl, hd1, hg1⟩)
    go_ret
    refine ⟨w1.heap.size, rfl, by simp, ?_, ?_⟩
    · unfold DB
      rw [Below.heap_alloc w1 _ D hd1.lt]
      exact hd1
    · exact grown_trans hg1 (World.grownBy_alloc _ _ _)

set_option maxHeartbeats 400000 in
/-- fixed(1) where there is a byte. -/
theorem fixed_good (D b o n cap : Nat) (w : World) (h : DB w D (.slice (some ⟨b, o, none⟩) n cap) false) (hn : 1 ≤ n) (hc : n ≤ cap) (hm : cap ≤ 9223372036854775807) :
    Calls Try.prog 23 #[.pointer (some ⟨D, 0, none⟩), .int .i64 1] w fun e w' => e = .returned (.slice (some ⟨b, o, none⟩) 1 1) ∧
      ∃ ao, (1 < cap → ao = ⟨b, o + 1, none⟩) ∧ DB w' D (.slice (some ao) (n - 1) (cap - 1)) false ∧ w.grownBy w' (some D) := by
  have hc0 := h.c0
  have hc1 := h.c1
  have hz0 := h.z0
  have H := hid h
  clear h
  by_cases hcap : 1 < cap
  · go_enter Try.func23, Try.ntmps23
    go_wp2
    go_ret
    exact ⟨rfl, _, fun _ => rfl, H.out.set0 _, grown_set _ _ _ _⟩
  · go_enter Try.func23, Try.ntmps23
    go_wp2
    go_ret
    exact ⟨rfl, _, fun h => absurd h hcap, H.out.set0 _, grown_set _ _ _ _⟩

/-- The decoder over D has zs left and the flag f. -/
def Dec (w : World) (D : Nat) (zs : List Int) (f : Bool) (ao : Option Addr) (n cap : Nat) : Prop :=
  DB w D (.slice ao n cap) f ∧ zs.length = n ∧ n ≤ cap ∧ cap ≤ 9223372036854775807 ∧ (zs = [] ∨ ∃ b o, ao = some ⟨b, o, none⟩ ∧ b < D ∧ ∀ j, j < n → w.cell? ⟨b, o + j, none⟩ = some (.int .u8 (zs.getD j 0)))

theorem dec_nil {w : World} {D : Nat} (h : DB w D (.slice none 0 0) true) : Dec w D [] true none 0 0 := ⟨h, rfl, Nat.le_refl _, by omega, .inl rfl⟩

theorem dec_kept {w w' : World} {D : Nat} {zs : List Int} {f : Bool} {ao : Option Addr} {n cap : Nat} (h : Dec w D zs f ao n cap) (hg : w.grownBy w' none) : Dec w' D zs f ao n cap := by
  obtain ⟨h1, h2, h3, h4, h5⟩ := h
  refine ⟨?_, h2, h3, h4, ?_⟩
  · unfold DB; rw [hg.block D h1.lt (by simp)]; exact h1
  · rcases h5 with h5 | ⟨b, o, rfl, hb, hc⟩
    · exact .inl h5
    · exact .inr ⟨b, o, rfl, hb, fun j hj => hg.cell (hc j hj) (by simp)⟩

/-- A store into a block behind D turns nothing of the decoder. -/
theorem dec_set {w : World} {D : Nat} {zs : List Int} {f : Bool} {ao : Option Addr} {n cap : Nat} (h : Dec w D zs f ao n cap) {R o : Nat} (hR : D < R) (u : Value) : Dec (w.setCell ⟨R, o, none⟩ u) D zs f ao n cap := by
  obtain ⟨h1, h2, h3, h4, h5⟩ := h
  refine ⟨?_, h2, h3, h4, ?_⟩
  · unfold DB; rw [heap_setCell_other w ⟨R, o, none⟩ D u (by simp; omega)]; exact h1
  · rcases h5 with h5 | ⟨b, o', rfl, hb, hc⟩
    · exact .inl h5
    · exact .inr ⟨b, o', rfl, hb, fun j hj => (grown_set w R o u).cell (hc j hj) (by simp; omega)⟩

/-- A store into a block of the call's own. -/
theorem grown_own {w x : World} {r : Option Nat} (h : w.grownBy x r) {R o : Nat} (hR : w.heap.size ≤ R) (u : Value) : w.grownBy (x.setCell ⟨R, o, none⟩ u) r :=
  ⟨h.os, h.tape, h.output, by simpa using h.size, fun k hk hr => (heap_setCell_other x ⟨R, o, none⟩ k u (by simp; omega)).trans (h.block k hk hr)⟩

set_option maxHeartbeats 400000 in
theorem byte_any (D : Nat) (zs : List Int) (f : Bool) (ao : Option Addr) (n cap : Nat) (w : World) (h : Dec w D zs f ao n cap) :
    Calls Try.prog 20 #[.pointer (some ⟨D, 0, none⟩)] w fun e w' => e = .returned (.int .u8 (Pl.stepV zs f)) ∧
      ∃ ao' n' cap', Dec w' D (Pl.stepZ zs f) (Pl.stepF zs f) ao' n' cap' ∧ Pl.stepF zs f = ao'.isNone ∧ w.grownBy w' (some D) := by
  obtain ⟨h1, h2, h3, h4, h5⟩ := h
  by_cases hb : f = true ∨ (f = false ∧ n = 0)
  · have e1 : Pl.stepV zs f = 0 := by
      rcases hb with rfl | ⟨rfl, rfl⟩
      · rfl
      · rw [List.eq_nil_of_length_eq_zero h2]; rfl
    have e2 : Pl.stepZ zs f = [] := by
      rcases hb with rfl | ⟨rfl, rfl⟩
      · rfl
      · rw [List.eq_nil_of_length_eq_zero h2]; rfl
    have e3 : Pl.stepF zs f = true := by
      rcases hb with rfl | ⟨rfl, rfl⟩
      · rfl
      · rw [List.eq_nil_of_length_eq_zero h2]; rfl
    rw [e1, e2, e3]
    clear e1 e2 e3 h2 h3 h4 h5
    go_enter Try.func20, Try.ntmps20
    go_wp2_with fail
    refine (fixed_bad D ao n cap f w h1 hb).mono ?_
    rintro e w1 ⟨g, rfl, hg0, hd1, hg1⟩
    have HD := hid hd1
    clear hd1
    go_wp2
    go_ret
    exact ⟨rfl, none, 0, 0, dec_nil HD.out, rfl, hg1⟩
  · have hf : f = false := by
      cases f
      · rfl
      · exact absurd (Or.inl rfl) hb
    subst hf
    have hn0 : n ≠ 0 := fun h => hb (.inr ⟨rfl, h⟩)
    rcases h5 with rfl | ⟨b, o, rfl, hbD, hc⟩
    · simp at h2; omega
    obtain ⟨z, rest, rfl⟩ : ∃ z rest, zs = z :: rest := by
      cases zs with
      | nil => simp at h2; omega
      | cons z r => exact ⟨z, r, rfl⟩
    have hz := hc 0 (by omega)
    simp only [Nat.add_zero] at hz
    have hz' : w.cell? ⟨b, o, none⟩ = some (.int .u8 z) := hz
    have HC := hid hc
    have H2 := hid h2
    clear hc h2 hz hb
    show Calls Try.prog 20 #[.pointer (some ⟨D, 0, none⟩)] w fun e w' => e = .returned (.int .u8 z) ∧ ∃ ao' n' cap', Dec w' D rest false ao' n' cap' ∧ false = ao'.isNone ∧ w.grownBy w' (some D)
    go_enter Try.func20, Try.ntmps20
    go_wp2_with fail
    refine (fixed_good D b o n cap w h1 (by omega) h3 h4).mono ?_
    rintro e w1 ⟨rfl, ad, had, hd1, hg1⟩
    have hz1 : w1.cell? ⟨b, o, none⟩ = some (.int .u8 z) := hg1.cell hz' (by simp; omega)
    have HD := hid hd1
    have HA := hid had
    clear hd1 had
    go_wp2
    go_ret
    refine ⟨rfl, some ad, n - 1, cap - 1, ⟨HD.out, ?_, by omega, by omega, ?_⟩, rfl, hg1⟩
    · have := H2.out; simp at this; omega
    · by_cases hr : rest = []
      · exact .inl hr
      · have hl : 1 < n := by
          have := H2.out
          have : 0 < rest.length := List.length_pos_iff.2 hr
          simp at *; omega
        refine .inr ⟨b, o + 1, by rw [HA.out (by omega)], hbD, fun j hj => ?_⟩
        have := HC.out (j + 1) (by omega)
        rw [show o + 1 + j = o + (j + 1) by omega]
        exact hg1.cell this (by simp; omega)

end Go.Proofs.Qxb6603786a
