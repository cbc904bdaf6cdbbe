/-
  THE WALKS of rangeLen, appendRange, ZZAppendRange.
-/
import Derived.Test.Qxb6603786aRows
import Derived.Test.Qxb6603786aPlain
import Derived.WalkKit
import Derived.WalkSpells
import Derived.WalkLawsBesides
import Derived.ArgAppend
namespace Go.Proofs.Qxb6603786a
open Go.RowKit

theorem Try.info5 : (Try.prog.info? 5).map (fun i => (i.zero, i.size, i.bytes)) = some (some (.int .u8 0), 1, 1) := by kernel_rfl

theorem tdiv2_bd (x : Int) (h1 : -65535 ≤ x) (h2 : x ≤ 65537) : -32768 ≤ x.tdiv 2 ∧ x.tdiv 2 ≤ 32768 := by
  by_cases h : 0 ≤ x
  · rw [Int.tdiv_eq_ediv_of_nonneg h]; omega
  · have : x = -(-x) := by omega
    rw [this, Int.neg_tdiv, Int.tdiv_eq_ediv_of_nonneg (by omega)]; omega

set_option maxHeartbeats 400000 in
theorem rangeLen_any (d p : Int) (w : World) (h1 : -65536 ≤ d) (h2 : d ≤ 65536) :
    Calls Try.prog 22 #[.agg #[.int .i64 d, .int .u64 p]] w fun e w' => e = .returned (.int .i64 (1 + (d + 1).tdiv 2)) ∧ w' = w.alloc (.cells #[.int .i64 d, .int .u64 p] 29) := by
  have hb := tdiv2_bd (d + 1) (by omega) (by omega)
  obtain ⟨hb1, hb2⟩ := hb
  go_enter Try.func22, Try.ntmps22
  go_wp2
  go_ret
  exact ⟨rfl, rfl⟩

theorem ownsRow_mono {w : World} {base base' : Nat} {e : TypeId} {size : Nat} {v : Value} {n : Nat} {xs : List Value} (h : w.ownsRow base e size v n xs) (hb : base' ≤ base) : w.ownsRow base' e size v n xs := by
  refine ⟨h.1, ?_⟩
  rcases h.2 with h2 | ⟨g, cap, cur, hv, hg, r⟩
  · exact .inl h2
  · exact .inr ⟨g, cap, cur, hv, by omega, r⟩

theorem olds_cell {w : World} {o1 o2 : Obj} {b : Addr} {n : Nat} {zs : List Int} (hn : zs.length = n) (hc : ∀ j, j < n → w.cell? (b.add j) = some (.int .u8 (zs.getD j 0))) (j : Nat) (u : Value) (hj : (zs.map (Value.int .u8))[j]? = some u) :
    ((w.alloc o1).alloc o2).cell? (b.add j) = some u := by
  have hjn : j < n := by
    have := (List.getElem?_eq_some_iff.1 hj).1
    simpa [hn] using this
  have hu : u = .int .u8 (zs.getD j 0) := by
    rw [List.getElem?_map, List.getElem?_eq_getElem (by omega)] at hj
    simp at hj
    rw [← hj]; simp [List.getD, show j < zs.length by omega]
  rw [hu]
  exact (World.grownBy_alloc _ o2 none).cell ((World.grownBy_alloc w o1 none).cell (hc j hjn) (by simp)) (by simp)

set_option maxHeartbeats 400000 in
theorem appendRange_any (ao : Option Addr) (n : Nat) (zs : List Int) (d p : Int) (w : World) (h1 : -65536 ≤ d) (h2 : d ≤ 65536) (hp0 : 0 ≤ p) (hp1 : p ≤ 18446744073709551615) (hn : zs.length = n) (hnb : n ≤ 2097152)
    (hnone : ao = none → n = 0) (hcell : ∀ b, ao = some b → ∀ j, j < n → w.cell? (b.add j) = some (.int .u8 (zs.getD j 0))) :
    Calls Try.prog 19 #[.slice ao n n, .agg #[.int .i64 d, .int .u64 p]] w fun e w' => ∃ v, e = .returned v ∧
      w'.ownsRow w.heap.size 5 1 v (n + 1 + Pl.cnt d) ((zs ++ Pl.enc d p).map (Value.int .u8)) ∧ Below w.heap.size w w' := by
  obtain ⟨i0, hi, hz0, hz1, hz2⟩ := info_parts Try.info5
  have hb := tdiv2_bd (d + 1) (by omega) (by omega)
  obtain ⟨hb1, hb2⟩ := hb
  have hnews : ∀ (u : Value) (wx : World) (hu : wx.cell? ⟨w.heap.size + 1, 0, none⟩ = some u) (j : Nat) (x : Value), [u][j]? = some x → wx.cell? ((⟨w.heap.size + 1, 0, none⟩ : Addr).add j) = some x := by
    intro u wx hu j x hj
    match j, hj with
    | 0, hj => simp at hj; subst hj; simpa [Addr.add] using hu
  go_enter Try.func19, Try.ntmps19
  go_wp2_with (first | (at_builtin; refine wpList_append_grows _ rfl _ _ 22 rfl 5 i0 (.int .u8 0) 1 1 Try.underlying22 hi hz0 hz1 hz2 rfl (by decide) ao n n (zs.map (Value.int .u8)) rfl ?a1 ?a2 ?a3 ⟨w.heap.size + 1, 0, none⟩ 1 1 [.int .u8 (d % 256)] rfl rfl ?c1 ?c2 ?c3 ?c4 ?c5 ?_))
  case a1 => exact fun h => ⟨hnone h, hnone h⟩
  case a2 => simp [hn]
  case a3 => exact fun b hb j u hj => olds_cell hn (hcell b hb) j u hj
  case c1 => exact hnews _ _ (by simp)
  case c2 => intro u hu; simp at hu; subst hu; rfl
  case c3 => omega
  case c4 => unfold maxLen; omega
  case c5 => omega
  intro v' w1 hown hgrow
  have hbel : Below (w.heap.size + 1) (w.alloc (.cells #[.int .i64 d, .int .u64 p] 29)) w1 :=
    ((Below.refl _ _).alloc (by simp) _).grown hgrow (by simp) (fun k h => by cases h)
  have hown1 := (ownsRow_mono (base' := w.heap.size + 1) hown (by omega))
  have hsz : w.heap.size + 2 ≤ w1.heap.size := by have := hgrow.size; simpa using this
  have hc0 : w1.cell? ⟨w.heap.size, 0, none⟩ = some (.int .i64 d) := (hbel.cell (by simp)).trans (by simp)
  have hc1 : w1.cell? ⟨w.heap.size, 1, none⟩ = some (.int .u64 p) := (hbel.cell (by simp)).trans (by simp)
  clear hown hgrow hnews
  go_wp2_with (go_at_call 22; refine (rangeLen_any _ _ _ h1 h2).mono ?_; rintro e w2 ⟨rfl, rfl⟩)
  go_loopw [0, 5] (fun v i wr => ∃ (c : Int) (acc : List Int), -40000 ≤ c ∧ c ≤ 40000 ∧ i = .int .i64 c ∧ acc ++ Pl.be p (c + 1).toNat = Pl.be p (Pl.cnt d) ∧
      wr.ownsRow (w.heap.size + 1) 5 1 v (n + 1 + acc.length) ((zs ++ d % 256 :: acc).map (Value.int .u8)) ∧ Below (w.heap.size + 1) (w.alloc (.cells #[.int .i64 d, .int .u64 p] 29)) wr)
    (fun _ i _ => (intOf i + 1).toNat)
  case atStart => exact ⟨_, [], by omega, by omega, rfl, by simp only [List.nil_append, Pl.cnt]; congr 1; omega, by simpa using hown1.alloc _, hbel.alloc (by have := hbel.size; simpa using this) _⟩
  case round =>
    clear hown1 hbel hc0 hc1 hsz
    obtain ⟨c, acc, hcl, hcu, rfl, hacc, hown, hbel⟩ := hrel
    have hlen : acc.length ≤ Pl.cnt d := by have := congrArg List.length hacc; simp [Pl.be_length] at this; omega
    have hcd : Pl.cnt d ≤ 32768 := by unfold Pl.cnt; omega
    have hsz : w.heap.size + 1 ≤ wr.heap.size := by have := hbel.size; simpa using this
    have hc1 : wr.cell? ⟨w.heap.size, 1, none⟩ = some (.int .u64 p) := (hbel.cell (by simp)).trans (by simp)
    by_cases hc : 0 ≤ c
    · obtain ⟨m, rfl⟩ := Int.eq_ofNat_of_zero_le hc
      have hsh : Op.shift .shr .u64 p .i64 (8 * (m : Int)) = pure (.int .u64 (Pl.q8 p m)) := by
        rw [shift_shr_any _ _ _ _ (by omega)]
        show pure (Value.int .u64 (p / 2 ^ min (8 * (m : Int)).toNat 64)) = _
        rw [Pl.shr_q8 p m hp0 hp1]
      have hcx : ((m : Int) + 1).toNat = m + 1 := by omega
      rw [hcx, Pl.be_succ] at hacc
      have Hacc : Hid (acc ++ Pl.q8 p m % 256 :: Pl.be p m = Pl.be p (Pl.cnt d)) := hacc
      have hl2 : acc.length + 1 ≤ Pl.cnt d := by have := congrArg List.length hacc; simp [Pl.be_length] at this; omega
      clear hacc hcx
      go_wp2_with (first | (at_builtin; refine wpList_append_own _ rfl _ _ 22 rfl (w.heap.size + 1) 5 i0 (.int .u8 0) 1 1 Try.underlying22 hi hz0 hz1 hz2 rfl (by decide) _ _ _ rfl (hown.alloc _) ⟨wr.heap.size, 0, none⟩ 1 1 [.int .u8 (Pl.q8 p m % 256)] rfl rfl ?d1 ?d2 ?d3 ?d4 ?d5 ?_))
      case d1 => exact cell_one_new _ _ _
      case d2 => intro u hu; simp at hu; subst hu; rfl
      case d3 => unfold maxLen; omega
      case d4 => omega
      case d5 => simp; omega
      intro v2 w2 hown2 hgrow2 _
      have hbel2 : Below (w.heap.size + 1) (w.alloc (.cells #[.int .i64 d, .int .u64 p] 29)) w2 :=
        (hbel.alloc (by omega) _).grown hgrow2 (by simp; omega) (fun k h => (hown.lt k h).1)
      clear hgrow2 hown hbel hc1
      go_wp2
      go_roundw
      case rel =>
        refine ⟨(m : Int) - 1, acc ++ [Pl.q8 p m % 256], by omega, by omega, rfl, ?_, ?_, hbel2⟩
        · rw [show ((m : Int) - 1 + 1).toNat = m from by omega]
          simpa using Hacc.out
        · simpa [Nat.add_assoc] using hown2
      case measure => simp [intOf]
    · go_wp2
      go_ret
      have hm : (c + 1).toNat = 0 := by omega
      rw [hm] at hacc
      simp only [Pl.be, List.append_nil] at hacc
      refine ⟨u0, rfl, ?_, ?_⟩
      · have := ownsRow_mono (base' := w.heap.size) hown (by omega)
        rw [hacc, Pl.be_length, List.map_append] at this
        exact this
      · exact ((Below.refl _ _).alloc (Nat.le_refl _) _).trans (hbel.mono (by omega))

/-- ZZAppendRange hands on. -/
theorem zzAppendRange_any (ao : Option Addr) (n : Nat) (zs : List Int) (d p : Int) (w : World) (h1 : -65536 ≤ d) (h2 : d ≤ 65536) (hp0 : 0 ≤ p) (hp1 : p ≤ 18446744073709551615) (hn : zs.length = n) (hnb : n ≤ 2097152)
    (hnone : ao = none → n = 0) (hcell : ∀ b, ao = some b → ∀ j, j < n → w.cell? (b.add j) = some (.int .u8 (zs.getD j 0))) :
    Calls Try.prog 15 #[.slice ao n n, .agg #[.int .i64 d, .int .u64 p]] w fun e w' => ∃ v, e = .returned v ∧
      w'.ownsRow w.heap.size 5 1 v (n + 1 + Pl.cnt d) ((zs ++ Pl.enc d p).map (Value.int .u8)) ∧ Below w.heap.size w w' := by
  go_enter Try.func15, Try.ntmps15
  go_wp2_with fail
  refine (appendRange_any ao n zs d p _ h1 h2 hp0 hp1 hn hnb hnone ?_).mono ?_
  · intro b hb j hj
    exact (World.grownBy_alloc w _ none).cell (hcell b hb j hj) (by simp)
  rintro e w' ⟨v, rfl, hown, hbel⟩
  go_wp2
  go_ret
  exact ⟨v, rfl, ownsRow_mono hown (by simp), ((Below.refl _ _).alloc (Nat.le_refl _) _).trans (hbel.mono (by simp))⟩

end Go.Proofs.Qxb6603786a
