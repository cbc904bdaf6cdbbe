/-
  THE WALK of cloneBytes.
-/
import Derived.Test.Qxb6603786aShape
namespace Go.Proofs.Qxb6603786a
open Go.RowKit

theorem q22 (w : World) (a : Option Addr) (n c n' c' : Nat) : (binOp .eql 22 (.slice a n c) (.slice none n' c')).run Try.prog w = .ok (.bool a.isNone) w :=
  Lib.run_eql_slice_nil w _ _ a n c n' c' Try.underlying22

/-- What has been copied after k rounds. -/
def part (zs : List Int) (k : Nat) : List Int := zs.take k ++ List.replicate (zs.length - k) 0

theorem part_zero (zs : List Int) : part zs 0 = List.replicate zs.length 0 := by simp [part]
theorem part_all (zs : List Int) (k : Nat) (h : zs.length ≤ k) : part zs k = zs := by
  simp [part, show zs.length - k = 0 by omega, List.take_of_length_le h]
theorem part_length (zs : List Int) (k : Nat) (h : k ≤ zs.length) : (part zs k).length = zs.length := by simp [part]; omega
theorem part_set (zs : List Int) (k : Nat) (h : k < zs.length) : (part zs k).set k (zs.getD k 0) = part zs (k + 1) := by
  unfold part
  rw [List.set_append, if_neg (by simp; omega)]
  have e1 : k - (zs.take k).length = 0 := by simp; omega
  obtain ⟨m, hm⟩ : ∃ m, zs.length - k = m + 1 := ⟨zs.length - k - 1, by omega⟩
  rw [e1, hm, List.replicate_succ, List.set_cons_zero, List.take_succ_eq_append_getElem h, List.append_assoc]
  simp [List.getD, h, show zs.length - (k + 1) = m by omega]

set_option maxHeartbeats 400000 in
theorem cloneBytes_nil (n cap : Nat) (w : World) :
    Calls Try.prog 8 #[.slice none n cap] w fun e w' => e = .returned (.slice none 0 0) ∧ w' = w := by
  have hq := q22
  go_enter Try.func8, Try.ntmps8
  go_wp2
  go_ret
  exact ⟨rfl, rfl⟩

set_option maxHeartbeats 400000 in
theorem cloneBytes_any (ad : Addr) (n cap : Nat) (zs : List Int) (w : World) (hn : zs.length = n) (hnb : n ≤ 1048576) (hr : Rd w (some ad) zs) :
    Calls Try.prog 8 #[.slice (some ad) n cap] w fun e w' => e = .returned (.slice (some ⟨w.heap.size, 0, none⟩) n n) ∧
      w'.ownsRow w.heap.size 5 1 (.slice (some ⟨w.heap.size, 0, none⟩) n n) n (zs.map (Value.int .u8)) ∧ Below w.heap.size w w' := by
  obtain ⟨i0, hi, hz0, hz1, hz2⟩ := info_parts Try.info5
  have hq := q22
  have hcl : ∀ k, k < n → ∃ b o, ad = ⟨b, o, none⟩ ∧ b < w.heap.size ∧ w.cell? ⟨b, o + k, none⟩ = some (.int .u8 (zs.getD k 0)) := by
    intro k hk
    rcases hr with rfl | ⟨b, o, hb, hc⟩
    · simp at hn; omega
    · have hc' := hc k (by omega)
      have := World.block_lt_of_cell? w _ hc'
      simp at hb
      exact ⟨b, o, hb, this, hc'⟩
  go_enter Try.func8, Try.ntmps8
  go_wp2_with (first | (at_make; refine wpList_make_full _ rfl _ _ 22 rfl w.heap.size 5 i0 (.int .u8 0) 1 Try.underlying22 hi hz0 hz1 _ _ _ _ n rfl rfl rfl rfl ?b2 ?b3 (Nat.le_refl _) ?_))
  case b2 => rw [hz2]; omega
  case b3 => unfold maxLen; omega
  intro w0 hown0 hgrow0
  have hmk : (madeCells #[Value.int .u8 0] n).toList = (part zs 0).map (Value.int .u8) := by
    rw [part_zero, hn, toList_madeCells_one]; simp
  rw [hmk] at hown0
  have hbel0 : Below w.heap.size w w0 := (Below.refl _ _).grown hgrow0 (Nat.le_refl _) (fun k h => by cases h)
  clear hmk hgrow0
  go_wp2
  go_loopw [4] (fun i wr => ∃ k : Nat, k ≤ n ∧ i = .int .i64 k ∧ wr.ownsRow w.heap.size 5 1 (.slice (some ⟨w.heap.size, 0, none⟩) n n) n ((part zs k).map (Value.int .u8)) ∧ Below w.heap.size w wr) (fun i _ => n - (intOf i).toNat)
  case atStart => exact ⟨0, Nat.zero_le _, rfl, hown0, hbel0⟩
  case round =>
    clear hown0 hbel0
    obtain ⟨k, hk, rfl, hown, hbel⟩ := hrel
    by_cases hkn : k < n
    · obtain ⟨b, o, hb, hlt, hc⟩ := hcl k hkn
      have hc' : wr.cell? ⟨b, o + k, none⟩ = some (.int .u8 (zs.getD k 0)) := (hbel.cell (by exact hlt)).trans hc
      have hfz : wr.frozen? ⟨w.heap.size, k, none⟩ = false := hown.frozenAt k
      have hold : ∃ u, wr.cell? ⟨w.heap.size, k, none⟩ = some u := by
        rw [hown.cellAt k (by omega)]
        have hl : k < ((part zs k).map (Value.int .u8)).length := by rw [List.length_map, part_length zs k (by omega)]; omega
        exact ⟨_, List.getElem?_eq_getElem hl⟩
      obtain ⟨u, hold⟩ := hold
      have hst := hown.stored k (.int .u8 (zs.getD k 0))
      have hset : ((part zs k).map (Value.int .u8)).set k (.int .u8 (zs.getD k 0)) = (part zs (k + 1)).map (Value.int .u8) := by
        rw [← part_set zs k (by omega), List.map_set]
      rw [hset] at hst
      have hbel2 : Below w.heap.size w (wr.setCell ⟨w.heap.size, k, none⟩ (.int .u8 (zs.getD k 0))) := hbel.setCell (Nat.le_refl _) _
      have HS := hst.1
      subst hb
      clear hst hset hc hcl hr hq
      generalize zs.getD k 0 = z at *
      go_wp2
      go_roundw
      case rel => exact ⟨k + 1, by omega, by go_num, HS, hbel2⟩
      case measure => simp [intOf]; omega
    · go_wp2
      go_ret
      refine ⟨rfl, ?_, hbel⟩
      rw [part_all zs k (by omega)] at hown
      exact hown

/-- Both ways in one: nil stays nil; anything else is copied into memory of the call's own. -/
theorem cloneBytes_all (a : Option Addr) (n cap : Nat) (zs : List Int) (w : World) (hn : zs.length = n) (hnb : n ≤ 1048576) (hr : Rd w a zs) (hnil : a = none → n = 0) :
    Calls Try.prog 8 #[.slice a n cap] w fun e w' => ∃ ao, e = .returned (.slice ao n n) ∧ (ao = none → n = 0) ∧ (∀ b, ao = some b → b.block < w'.heap.size) ∧
      (∀ b, ao = some b → ∀ j, j < n → w'.cell? (b.add j) = some (.int .u8 (zs.getD j 0))) ∧ (∀ b, ao = some b → b = ⟨w.heap.size, 0, none⟩) ∧ (a = none ↔ ao = none) ∧ Below w.heap.size w w' := by
  cases a with
  | none =>
    refine (cloneBytes_nil n cap w).mono ?_
    rintro e w' ⟨rfl, rfl⟩
    have h0 := hnil rfl
    subst h0
    exact ⟨none, rfl, fun _ => rfl, fun b h => (by cases h), fun b h => (by cases h), fun b h => (by cases h), ⟨fun _ => rfl, fun _ => rfl⟩, Below.refl _ _⟩
  | some ad =>
    refine (cloneBytes_any ad n cap zs w hn hnb hr).mono ?_
    rintro e w' ⟨rfl, hown, hbel⟩
    refine ⟨_, rfl, fun h => (by cases h), fun b h => ?_, fun b h j hj => ?_, fun b h => (by cases h; rfl), ⟨fun h => (by cases h), fun h => (by cases h)⟩, hbel⟩
    · cases h
      have := hown.lt w.heap.size rfl
      exact this.2
    · cases h
      rw [Addr.add_lit, hown.cellAt _ (by omega), Nat.zero_add, List.getElem?_map, List.getElem?_eq_getElem (by omega)]
      simp [List.getD, show j < zs.length by omega]

/-- A row at 'Option Addr' whose cells are known can be read. -/
theorem rd_of {w : World} {ao : Option Addr} {zs : List Int} {n g : Nat} (hn : zs.length = n) (hnone : ao = none → n = 0) (hb : ∀ b, ao = some b → b = ⟨g, 0, none⟩) (hc : ∀ b, ao = some b → ∀ j, j < n → w.cell? (b.add j) = some (.int .u8 (zs.getD j 0))) : Rd w ao zs := by
  cases ao with
  | none => exact .inl (List.eq_nil_of_length_eq_zero (by rw [hn]; exact hnone rfl))
  | some b =>
    have e := hb b rfl
    subst e
    exact .inr ⟨g, 0, rfl, fun j hj => by rw [← Addr.add_lit]; exact hc _ rfl j (by omega)⟩

theorem hid {p : Prop} (h : p) : Hid p := h

/-- A row that came in can be read. -/
theorem rd_take {w : World} {x : Addr} {n : Nat} {zs : List Int} (hl : n ≤ zs.length) (hc : ∀ i, i < zs.length → w.cell? (x.add i) = some (.int .u8 (zs.getD i 0))) : Rd w (some x) (zs.take n) := by
  by_cases h0 : n = 0
  · subst h0; exact .inl (by simp)
  · obtain ⟨b, o, sp⟩ := x
    have hsp : sp = none := by simpa [Addr.add] using World.cell?_spot (hc 0 (by omega))
    subst hsp
    refine .inr ⟨b, o, rfl, fun j hj => ?_⟩
    have hj' : j < n := by simp at hj; omega
    rw [← Addr.add_lit, hc j (by omega)]
    simp [List.getD, hj']

end Go.Proofs.Qxb6603786a
