/-
  THE PLAIN LAW of the model: what modelDecodeRange computes is what decodeRange does. No Go in sight.
-/
import Derived.Test.Qxb6603786aPlain
namespace Go.Proofs.Qxb6603786a.Pl

/-- The bytes tl[s], tl[s+1], .. (m of them, zeros behind the end), gathered into a 64-bit number. -/
def mv (tl : List Int) (s : Nat) : Nat → Int
  | 0 => 0
  | m + 1 => acc (mv tl s m) (tl.getD (s + m) 0)

theorem mv_bd (tl : List Int) (s m : Nat) : 0 ≤ mv tl s m ∧ mv tl s m ≤ 18446744073709551615 := by
  cases m with
  | zero => simp [mv]
  | succ m => exact acc_bd _ _

/-- The model's answer: depth, number, bytes used, failed. -/
def modelR (zs : List Int) (f : Bool) (M : Int) : Int × Int × Int × Bool :=
  match zs, f with
  | _, true => (0, 0, 0, true)
  | [], false => (0, 0, 0, true)
  | d :: tl, false =>
    if M < d then (0, 0, 0, true)
    else if d < 16 ∧ d % 2 = 1 ∧ 16 ≤ tl.getD 0 0 then (0, 0, 0, true)
    else if tl.length < cnt d then (d, mv tl (cnt d - 8) (cnt d - (cnt d - 8)), 0, true)
    else (d, mv tl (cnt d - 8) (cnt d - (cnt d - 8)), 1 + (cnt d : Int), false)

/-! ### dloop by mv -/
theorem dloop_gen (tl : List Int) : ∀ (k m : Nat) (v : Int), v = mv tl 0 m →
    dloop k v (tl.drop m) (decide (tl.length < m)) = (mv tl 0 (m + k), tl.drop (m + k), decide (tl.length < m + k)) := by
  intro k
  induction k with
  | zero => intro m v hv; simp [dloop, hv]
  | succ k ih =>
    intro m v hv
    rw [dloop_succ]
    have e1 : stepV (tl.drop m) (decide (tl.length < m)) = tl.getD m 0 := by
      unfold stepV
      by_cases h : m < tl.length
      · rw [List.drop_eq_getElem_cons h]
        simp [show ¬ tl.length < m by omega, List.getD, h]
      · rw [List.drop_of_length_le (by omega)]
        simp [List.getD, show tl.length ≤ m by omega]
    have e2 : stepZ (tl.drop m) (decide (tl.length < m)) = tl.drop (m + 1) := by
      unfold stepZ
      by_cases h : tl.length < m
      · simp [h]; omega
      · simp [h]
    have e3 : stepF (tl.drop m) (decide (tl.length < m)) = decide (tl.length < m + 1) := by
      unfold stepF
      by_cases h : m < tl.length
      · rw [List.drop_eq_getElem_cons h, decide_eq_false (show ¬ tl.length < m by omega), decide_eq_false (show ¬ tl.length < m + 1 by omega)]; rfl
      · rw [List.drop_of_length_le (by omega), decide_eq_true (show tl.length < m + 1 by omega)]; simp
    rw [e1, e2, e3, ih (m + 1) (acc v (tl.getD m 0)) (by simp [mv, hv])]
    rw [show m + 1 + k = m + (k + 1) by omega]

theorem dloop_mv (tl : List Int) (k : Nat) : dloop k 0 tl false = (mv tl 0 k, tl.drop k, decide (tl.length < k)) := by
  have := dloop_gen tl k 0 0 rfl
  simpa using this

/-! ### eight bytes forget what stood before -/
def sm (tl : List Int) (s : Nat) : Nat → Int
  | 0 => 0
  | m + 1 => sm tl s m * 256 + tl.getD (s + m) 0

theorem mv_sm (tl : List Int) (s m : Nat) : mv tl s m = sm tl s m % 18446744073709551616 := by
  induction m with
  | zero => rfl
  | succ m ih =>
    simp only [mv, sm, acc, ih]
    omega

theorem sm_split (tl : List Int) (s m : Nat) : sm tl 0 (s + m) = sm tl 0 s * 256 ^ m + sm tl s m := by
  induction m with
  | zero => simp [sm]
  | succ m ih =>
    rw [show s + (m + 1) = (s + m) + 1 by omega]
    simp only [sm, ih, Nat.zero_add]
    have e : (256 : Int) ^ (m + 1) = 256 ^ m * 256 := Int.pow_succ _ _
    rw [e, Int.add_mul, Int.mul_assoc]
    omega

theorem mv_last (tl : List Int) (k : Nat) : mv tl (k - 8) (k - (k - 8)) = mv tl 0 k := by
  by_cases h : k ≤ 8
  · rw [show k - 8 = 0 by omega, Nat.sub_zero]
  · rw [mv_sm, mv_sm, show k - (k - 8) = 8 by omega]
    have e := sm_split tl (k - 8) 8
    rw [show k - 8 + 8 = k by omega] at e
    rw [e]
    have p : (256 : Int) ^ 8 = 18446744073709551616 := by decide
    rw [p]
    omega

/-! ### the refusal -/
theorem getD_bd (tl : List Int) (h : Bts tl) (i : Nat) : 0 ≤ tl.getD i 0 ∧ tl.getD i 0 ≤ 255 := by
  by_cases hi : i < tl.length
  · simpa [List.getD, hi] using h tl[i] (List.getElem_mem hi)
  · simp [List.getD, show tl.length ≤ i by omega]

theorem sm_bd (tl : List Int) (h : Bts tl) (s m : Nat) : 0 ≤ sm tl s m ∧ sm tl s m < 256 ^ m := by
  induction m with
  | zero => simp [sm]
  | succ m ih =>
    have g := getD_bd tl h (s + m)
    simp only [sm]
    rw [Int.pow_succ]
    omega

theorem pow_le256 (i j : Nat) (h : i ≤ j) : (256 : Int) ^ i ≤ 256 ^ j := by
  rw [pow_256, pow_256]
  exact pow_le _ _ (by omega)

theorem mv_small (tl : List Int) (h : Bts tl) (k : Nat) (hk : k ≤ 8) : mv tl 0 k = sm tl 0 k := by
  rw [mv_sm]
  have b := sm_bd tl h 0 k
  have p := pow_le256 k 8 hk
  have e : (256 : Int) ^ 8 = 18446744073709551616 := by decide
  exact Int.emod_eq_of_lt b.1 (by omega)

theorem refuse_iff (d : Int) (tl : List Int) (h : Bts tl) (h0 : 0 ≤ d) (h16 : d < 16) : (mv tl 0 (cnt d) / 2 ^ (4 * d).toNat ≠ 0) ↔ (d % 2 = 1 ∧ 16 ≤ tl.getD 0 0) := by
  have hc := cnt_nonneg d h0
  rw [mv_small tl h _ (by omega)]
  by_cases hodd : d % 2 = 1
  · obtain ⟨m, hm⟩ : ∃ m, cnt d = 1 + m := ⟨cnt d - 1, by omega⟩
    have e4 : (4 * d).toNat = 8 * m + 4 := by omega
    have g := getD_bd tl h 0
    have b := sm_bd tl h 1 m
    have s1 : sm tl 0 1 = tl.getD 0 0 := by simp [sm]
    rw [hm, sm_split, s1, e4, Int.pow_add, ← pow_256]
    have hP := pow_pos m
    generalize (256 : Int) ^ m = P at *
    generalize sm tl 1 m = r at *
    generalize tl.getD 0 0 = z at *
    have e16 : (2 : Int) ^ 4 = 16 := by decide
    rw [e16, ← Int.ediv_ediv_of_nonneg (Int.le_of_lt hP), Int.mul_comm z P, Int.add_comm, Int.add_mul_ediv_left _ _ (by omega), Int.ediv_eq_zero_of_lt b.1 b.2]
    constructor
    · intro hne; exact ⟨hodd, by omega⟩
    · intro ⟨_, hz⟩; omega
  · constructor
    · intro hne
      exfalso
      apply hne
      have e4 : (4 * d).toNat = 8 * cnt d := by omega
      have b := sm_bd tl h 0 (cnt d)
      rw [e4, ← pow_256]
      exact Int.ediv_eq_zero_of_lt b.1 b.2
    · intro ⟨h1, _⟩; exact absurd h1 hodd

/-- THE LAW: the model says what decodeRange does. -/
theorem model_law (zs : List Int) (f : Bool) (M : Int) (hb : Bts zs) :
    (decR zs f M).1 = (modelR zs f M).1 ∧ (decR zs f M).2.1 = (modelR zs f M).2.1 ∧ (decR zs f M).2.2.2 = (modelR zs f M).2.2.2 ∧
    ((modelR zs f M).2.2.2 = false → ∃ u : Nat, (modelR zs f M).2.2.1 = (u : Int) ∧ u ≤ zs.length ∧ u ≤ 200 ∧ (decR zs f M).2.2.1 = zs.drop u) := by
  have bad : ∀ zs : List Int, ∀ f : Bool, (f = true ∨ zs = []) → decR zs f M = (0, 0, [], true) := by
    intro zs f h
    have e1 : stepV zs f = 0 := by rcases h with rfl | rfl <;> cases f <;> rfl
    have e2 : stepZ zs f = [] := by rcases h with rfl | rfl <;> cases f <;> rfl
    have e3 : stepF zs f = true := by rcases h with rfl | rfl <;> cases f <;> rfl
    have e4 : cnt 0 = 0 := by decide
    unfold decR
    rw [e1, e2, e3, e4]
    split
    · rfl
    · simp [dloop]
  match zs, f, hb with
  | zs, true, _ =>
    rw [bad zs true (.inl rfl)]
    simp [modelR]
  | [], false, _ =>
    rw [bad [] false (.inr rfl)]
    simp [modelR]
  | d :: tl, false, hb =>
    have hd := hb d (by simp)
    have htl : Bts tl := fun z hz => hb z (by simp [hz])
    have hc := cnt_nonneg d hd.1
    have e1 : stepV (d :: tl) false = d := rfl
    have e2 : stepZ (d :: tl) false = tl := rfl
    have e3 : stepF (d :: tl) false = false := rfl
    unfold decR
    rw [e1, e2, e3, dloop_mv]
    simp only [modelR]
    by_cases hM : M < d
    · simp [hM]
    · rw [if_neg hM, if_neg hM]
      by_cases hr : d < 16 ∧ d % 2 = 1 ∧ 16 ≤ tl.getD 0 0
      · have : d < 16 ∧ mv tl 0 (cnt d) / 2 ^ (4 * d).toNat ≠ 0 := ⟨hr.1, (refuse_iff d tl htl hd.1 hr.1).2 hr.2⟩
        rw [if_pos hr, if_pos this]
        simp
      · have : ¬ (d < 16 ∧ mv tl 0 (cnt d) / 2 ^ (4 * d).toNat ≠ 0) := fun h => hr ⟨h.1, (refuse_iff d tl htl hd.1 h.1).1 h.2⟩
        rw [if_neg hr, if_neg this]
        by_cases hl : tl.length < cnt d
        · simp [hl, mv_last]
        · simp only [hl, if_false, mv_last, decide_false, true_and]
          intro _
          refine ⟨1 + cnt d, by omega, by simp; omega, by omega, ?_⟩
          rw [Nat.add_comm, List.drop_succ_cons]

end Go.Proofs.Qxb6603786a.Pl
