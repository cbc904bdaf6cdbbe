/-
  FROM 'ownsRow' TO CELLS; ZZAppendRange by the shape of what it hands back.
-/
import Derived.Test.Qxb6603786aApp
import Derived.Test.Qxb6603786aCmp
namespace Go.Proofs.Qxb6603786a
open Go.RowKit

/-- What is owned and not empty: a slice at the head of a block of the call's own. -/
theorem own_shape {w : World} {base n : Nat} {v : Value} {zs : List Int} (h : w.ownsRow base 5 1 v n (zs.map (Value.int .u8))) (hn : 0 < n) :
    ∃ g cap, v = .slice (some ⟨g, 0, none⟩) n cap ∧ base ≤ g ∧ g < w.heap.size ∧ n ≤ cap ∧ cap ≤ maxLen ∧ zs.length = n ∧ ∀ j, j < n → w.cell? ⟨g, j, none⟩ = some (.int .u8 (zs.getD j 0)) := by
  have hlen : zs.length = n := by have := h.1; simpa using this
  rcases h.2 with ⟨_, h0⟩ | ⟨g, cap, cur, rfl, hb, hg, hnc, hm, hs, ht⟩
  · omega
  · refine ⟨g, cap, rfl, hb, (Array.getElem?_eq_some_iff.1 hg).1, hnc, hm, hlen, fun j hj => ?_⟩
    rw [h.cellAt j (by omega), List.getElem?_map, List.getElem?_eq_getElem (by omega)]
    simp [List.getD, show j < zs.length by omega]

theorem Below.grownBy {w w' : World} (h : Below w.heap.size w w') : w.grownBy w' none := ⟨h.os, h.tape, h.output, h.size, fun k hk _ => h.block k hk⟩

theorem below_drewN' {B : Nat} {a w : World} (h : Below B a w) (n : Nat) : Below B a (w.drewN n) := h.trans ⟨rfl, rfl, rfl, Nat.le_refl _, fun _ _ => rfl⟩

theorem zzAppend_cells (ao : Option Addr) (n : Nat) (zs : List Int) (d p : Int) (w : World) (h1 : -65536 ≤ d) (h2 : d ≤ 65536) (hp0 : 0 ≤ p) (hp1 : p ≤ 18446744073709551615) (hn : zs.length = n) (hnb : n ≤ 2097152)
    (hnone : ao = none → n = 0) (hcell : ∀ b, ao = some b → ∀ j, j < n → w.cell? (b.add j) = some (.int .u8 (zs.getD j 0))) :
    Calls Try.prog 15 #[.slice ao n n, .agg #[.int .i64 d, .int .u64 p]] w fun e w' => ∃ g cap, e = .returned (.slice (some ⟨g, 0, none⟩) (n + 1 + Pl.cnt d) cap) ∧
      w.heap.size ≤ g ∧ g < w'.heap.size ∧ n + 1 + Pl.cnt d ≤ cap ∧ cap ≤ maxLen ∧ (zs ++ Pl.enc d p).length = n + 1 + Pl.cnt d ∧
      (∀ j, j < n + 1 + Pl.cnt d → w'.cell? ⟨g, j, none⟩ = some (.int .u8 ((zs ++ Pl.enc d p).getD j 0))) ∧ Below w.heap.size w w' := by
  refine (zzAppendRange_any ao n zs d p w h1 h2 hp0 hp1 hn hnb hnone hcell).mono ?_
  rintro e w' ⟨v, rfl, hown, hbel⟩
  obtain ⟨g, cap, rfl, a1, a2, a3, a4, a5, a6⟩ := own_shape hown (by omega)
  exact ⟨g, cap, rfl, a1, a2, a3, a4, a5, a6, hbel⟩

/-- The same behind nil. -/
theorem zzAppend_nil (d p : Int) (w : World) (h1 : -65536 ≤ d) (h2 : d ≤ 65536) (hp0 : 0 ≤ p) (hp1 : p ≤ 18446744073709551615) :
    Calls Try.prog 15 #[.slice none 0 0, .agg #[.int .i64 d, .int .u64 p]] w fun e w' => ∃ g cap, e = .returned (.slice (some ⟨g, 0, none⟩) (1 + Pl.cnt d) cap) ∧
      w.heap.size ≤ g ∧ g < w'.heap.size ∧ (∀ j, j < 1 + Pl.cnt d → w'.cell? ⟨g, j, none⟩ = some (.int .u8 ((Pl.enc d p).getD j 0))) ∧ Below w.heap.size w w' := by
  refine (zzAppend_cells none 0 [] d p w h1 h2 hp0 hp1 rfl (by omega) (fun _ => rfl) (fun b hb => by cases hb)).mono ?_
  rintro e w' ⟨g, cap, rfl, a1, a2, a3, a4, a5, a6, bel⟩
  rw [Nat.zero_add] at a6
  simp only [List.nil_append] at a6
  exact ⟨g, cap, by rw [Nat.zero_add], a1, a2, a6, bel⟩

end Go.Proofs.Qxb6603786a
