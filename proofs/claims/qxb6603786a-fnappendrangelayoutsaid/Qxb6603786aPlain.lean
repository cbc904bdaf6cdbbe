/-
  THE PLAIN LAWS: bytes of a number, big-endian; the order of byte lists. No Go in sight.
-/
namespace Go.Proofs.Qxb6603786a.Pl

/-- The last k bytes of p, the highest first. -/
def be (p : Int) : Nat → List Int
  | 0 => []
  | k + 1 => (p / 256 ^ k) % 256 :: be p k

theorem be_length (p : Int) (k : Nat) : (be p k).length = k := by
  induction k with
  | zero => rfl
  | succ k ih => simp [be, ih]

/-- How two lists of numbers compare, the first that differs deciding. -/
def cmpL : List Int → List Int → Int
  | [], [] => 0
  | [], _ :: _ => -1
  | _ :: _, [] => 1
  | a :: as, b :: bs => if a < b then -1 else if b < a then 1 else cmpL as bs

def cmpI (a b : Int) : Int := if a < b then -1 else if b < a then 1 else 0

theorem pow_pos (k : Nat) : (0 : Int) < 256 ^ k := Int.pow_pos (by decide)

/-- p mod 256^(k+1), parted into the top byte and the rest. -/
theorem mod_split (p : Int) (k : Nat) : p % 256 ^ (k + 1) = (p / 256 ^ k % 256) * 256 ^ k + p % 256 ^ k := by
  have hP := pow_pos k
  generalize hM : (256 : Int) ^ k = M at *
  have e : (256 : Int) ^ (k + 1) = M * 256 := by rw [Int.pow_succ, hM]
  rw [e]
  have h1 := Int.mul_ediv_add_emod p M
  have h2 := Int.mul_ediv_add_emod (p / M) 256
  have r1 := Int.emod_nonneg p (show M ≠ 0 by omega)
  have r2 := Int.emod_lt_of_pos p hP
  have s1 := Int.emod_nonneg (p / M) (show (256 : Int) ≠ 0 by decide)
  have s2 := Int.emod_lt_of_pos (p / M) (show (0 : Int) < 256 by decide)
  generalize p / M % 256 = a at *
  generalize p / M / 256 = q at *
  generalize p % M = r at *
  generalize p / M = d at *
  have hp : p = (a * M + r) + M * 256 * q := by
    rw [← h1, ← h2]
    rw [Int.mul_add, Int.mul_comm M a, Int.mul_assoc]
    omega
  have hb : a * M + r < M * 256 := by
    have : a * M ≤ 255 * M := Int.mul_le_mul_of_nonneg_right (by omega) (by omega)
    omega
  have h0 : 0 ≤ a * M + r := by
    have : 0 ≤ a * M := Int.mul_nonneg s1 (by omega)
    omega
  rw [hp, Int.add_mul_emod_self_left, Int.emod_eq_of_lt h0 hb]

theorem cmpI_two (a b r s M : Int) (hr : 0 ≤ r) (hr' : r < M) (hs : 0 ≤ s) (hs' : s < M) :
    cmpI (a * M + r) (b * M + s) = if a < b then -1 else if b < a then 1 else cmpI r s := by
  by_cases h1 : a < b
  · have : (a + 1) * M ≤ b * M := Int.mul_le_mul_of_nonneg_right (by omega) (by omega)
    rw [Int.add_mul] at this
    rw [if_pos h1]; unfold cmpI; rw [if_pos (by omega)]
  · rw [if_neg h1]
    by_cases h2 : b < a
    · have : (b + 1) * M ≤ a * M := Int.mul_le_mul_of_nonneg_right (by omega) (by omega)
      rw [Int.add_mul] at this
      rw [if_pos h2]; unfold cmpI; rw [if_neg (by omega), if_pos (by omega)]
    · rw [if_neg h2]
      have : a = b := by omega
      subst this
      unfold cmpI
      by_cases h3 : r < s
      · rw [if_pos (by omega), if_pos h3]
      · rw [if_neg (by omega), if_neg h3]
        by_cases h4 : s < r
        · rw [if_pos (by omega), if_pos h4]
        · rw [if_neg (by omega), if_neg h4]

theorem cmp_be (p q : Int) (k : Nat) : cmpL (be p k) (be q k) = cmpI (p % 256 ^ k) (q % 256 ^ k) := by
  induction k with
  | zero => simp [be, cmpL, cmpI]
  | succ k ih =>
    have hP := pow_pos k
    rw [mod_split p k, mod_split q k, cmpI_two _ _ _ _ _ (Int.emod_nonneg p (by omega)) (Int.emod_lt_of_pos p hP) (Int.emod_nonneg q (by omega)) (Int.emod_lt_of_pos q hP)]
    simp only [be, cmpL, ih]

/-- p shifted right by 8*m bits. -/
def q8 (p : Int) (m : Nat) : Int := p / 256 ^ m

theorem shr_q8 (p : Int) (m : Nat) (h0 : 0 ≤ p) (h1 : p ≤ 18446744073709551615) : p / 2 ^ min (8 * (m : Int)).toNat 64 = q8 p m := by
  unfold q8
  have e8 : (256 : Int) ^ m = 2 ^ (8 * m) := by rw [Int.pow_mul]; rfl
  have e1 : (8 * (m : Int)).toNat = 8 * m := by omega
  rw [e8, e1]
  by_cases h : 8 * m ≤ 64
  · rw [Nat.min_eq_left h]
  · rw [Nat.min_eq_right (by omega)]
    have e : (2 : Int) ^ 64 = 18446744073709551616 := by decide
    have hle : (2 : Int) ^ 64 ≤ 2 ^ (8 * m) := by exact_mod_cast Nat.pow_le_pow_right (by decide) (by omega)
    rw [Int.ediv_eq_zero_of_lt h0 (by omega), Int.ediv_eq_zero_of_lt h0 (by omega)]

theorem be_succ (p : Int) (m : Nat) : be p (m + 1) = q8 p m % 256 :: be p m := rfl

/-- The bytes that a range takes. -/
def cnt (d : Int) : Nat := ((d + 1).tdiv 2).toNat
def enc (d p : Int) : List Int := d % 256 :: be p (cnt d)

theorem enc_length (d p : Int) : (enc d p).length = 1 + cnt d := by simp [enc, be_length]; omega

theorem cnt_nonneg (d : Int) (h : 0 ≤ d) : (cnt d : Int) = (d + 1) / 2 := by
  unfold cnt
  rw [Int.tdiv_eq_ediv_of_nonneg (by omega)]
  omega

theorem pow_le (i j : Nat) (h : i ≤ j) : (2 : Int) ^ i ≤ 2 ^ j := by
  exact_mod_cast Nat.pow_le_pow_right (by decide) h

theorem pow_256 (k : Nat) : (256 : Int) ^ k = 2 ^ (8 * k) := by
  rw [Int.pow_mul]; rfl

theorem fits_of_depth (d p : Int) (h0 : 0 ≤ d) (hp0 : 0 ≤ p) (hp : p < 18446744073709551616) (h : d < 16 → p < 2 ^ (4 * d).toNat) : p % 256 ^ cnt d = p := by
  have hc := cnt_nonneg d h0
  apply Int.emod_eq_of_lt hp0
  rw [pow_256]
  by_cases hd : d < 16
  · exact Int.lt_of_lt_of_le (h hd) (pow_le _ _ (by omega))
  · have : (2 : Int) ^ 64 ≤ 2 ^ (8 * cnt d) := pow_le _ _ (by omega)
    have e : (2 : Int) ^ 64 = 18446744073709551616 := by decide
    omega

/-- THE LAW OF ORDER. -/
theorem cmp_enc (d p q : Int) (h0 : 0 ≤ d) (hp0 : 0 ≤ p) (hp : p < 18446744073709551616) (hq0 : 0 ≤ q) (hq : q < 18446744073709551616) (h1 : d < 16 → p < 2 ^ (4 * d).toNat) (h2 : d < 16 → q < 2 ^ (4 * d).toNat) :
    cmpL (enc d p) (enc d q) = cmpI p q := by
  unfold enc
  simp only [cmpL]
  rw [if_neg (by omega), if_neg (by omega), cmp_be, fits_of_depth d p h0 hp0 hp h1, fits_of_depth d q h0 hq0 hq h2]

theorem q8_zero (p : Int) : q8 p 0 = p := by simp [q8]
theorem q8_succ (p : Int) (r : Nat) : q8 p r / 256 = q8 p (r + 1) := by
  unfold q8
  rw [Int.ediv_ediv_of_nonneg (Int.le_of_lt (pow_pos r)), Int.pow_succ]
theorem q8_bd (p : Int) (r : Nat) (h0 : 0 ≤ p) : 0 ≤ q8 p r ∧ q8 p r ≤ p := by
  unfold q8
  exact ⟨Int.ediv_nonneg h0 (Int.le_of_lt (pow_pos r)), Int.ediv_le_self _ h0⟩

theorem be_getD (p : Int) (k i : Nat) (h : i < k) : (be p k).getD i 0 = q8 p (k - 1 - i) % 256 := by
  induction k generalizing i with
  | zero => omega
  | succ k ih =>
    cases i with
    | zero => simp [be, q8, List.getD]
    | succ i =>
      have := ih i (by omega)
      rw [show k + 1 - 1 - (i + 1) = k - 1 - i by omega, ← this]
      simp [be, List.getD]

theorem enc_at (zs : List Int) (n : Nat) (d p : Int) (hn : zs.length = n) (r m : Nat) (hr : r < cnt d) (hm : m + r = n + cnt d) : (zs ++ enc d p).getD m 0 = q8 p r % 256 := by
  have h1 : m = zs.length + (1 + (cnt d - 1 - r)) := by omega
  have h2 : (zs ++ enc d p).getD m 0 = (be p (cnt d)).getD (cnt d - 1 - r) 0 := by
    rw [h1]
    unfold enc
    simp only [List.getD]
    rw [List.getElem?_append_right (by omega)]
    rw [show zs.length + (1 + (cnt d - 1 - r)) - zs.length = (cnt d - 1 - r) + 1 by omega, List.getElem?_cons_succ]
  rw [h2, be_getD p (cnt d) _ (by omega), show cnt d - 1 - (cnt d - 1 - r) = r by omega]

theorem enc_head (zs : List Int) (n : Nat) (d p : Int) (hn : zs.length = n) : (zs ++ enc d p).getD n 0 = d % 256 := by
  subst hn
  simp [enc, List.getD]

theorem enc_old (zs : List Int) (d p : Int) (j : Nat) (hj : j < zs.length) : (zs ++ enc d p).getD j 0 = zs.getD j 0 := by
  simp [List.getD, List.getElem?_append_left hj]

theorem cnt_pos (d : Int) (h : 0 < d) : (cnt d : Int) ≤ d / 2 + d % 2 ∧ d / 2 + d % 2 ≤ (cnt d : Int) := by
  have := cnt_nonneg d (by omega)
  omega

theorem cnt_neg (d : Int) (h : d ≤ 0) : cnt d = 0 := by
  unfold cnt
  by_cases h1 : 0 ≤ d
  · have : d = 0 := by omega
    subst this; decide
  · have : (d + 1) = -(-(d + 1)) := by omega
    rw [this, Int.neg_tdiv, Int.tdiv_eq_ediv_of_nonneg (by omega)]; omega

/-! ### The decoder, as plain functions: what is left, whether it has failed -/
def Bts (zs : List Int) : Prop := ∀ z ∈ zs, 0 ≤ z ∧ z ≤ 255
def stepV (zs : List Int) (f : Bool) : Int := if f then 0 else zs.headD 0
def stepZ (zs : List Int) (f : Bool) : List Int := if f then [] else zs.tail
def stepF (zs : List Int) (f : Bool) : Bool := f || zs.isEmpty

theorem stepV_bd (zs : List Int) (f : Bool) (h : Bts zs) : 0 ≤ stepV zs f ∧ stepV zs f ≤ 255 := by
  unfold stepV
  cases f
  · cases zs with
    | nil => simp
    | cons z r => simpa using h z (by simp)
  · simp
theorem stepZ_bts (zs : List Int) (f : Bool) (h : Bts zs) : Bts (stepZ zs f) := by
  unfold stepZ
  cases f
  · intro z hz; exact h z (List.mem_of_mem_tail (by simpa using hz))
  · intro z hz; simp at hz
theorem stepZ_length (zs : List Int) (f : Bool) : (stepZ zs f).length ≤ zs.length := by
  unfold stepZ; cases f <;> simp

/-- One byte more at the low end of a 64-bit number. -/
def acc (v c : Int) : Int := (v * 256 + c) % 18446744073709551616
theorem acc_bd (v c : Int) : 0 ≤ acc v c ∧ acc v c ≤ 18446744073709551615 := by unfold acc; omega

def dloop : Nat → Int → List Int → Bool → Int × List Int × Bool
  | 0, v, zs, f => (v, zs, f)
  | k + 1, v, zs, f => dloop k (acc v (stepV zs f)) (stepZ zs f) (stepF zs f)

/-- What decodeRange hands back and leaves: depth, number, bytes, flag. -/
def decR (zs : List Int) (f : Bool) (M : Int) : Int × Int × List Int × Bool :=
  if M < stepV zs f then (0, 0, [], true)
  else if stepV zs f < 16 ∧ (dloop (cnt (stepV zs f)) 0 (stepZ zs f) (stepF zs f)).1 / 2 ^ (4 * stepV zs f).toNat ≠ 0 then (0, 0, [], true)
  else (stepV zs f, dloop (cnt (stepV zs f)) 0 (stepZ zs f) (stepF zs f))

theorem dloop_succ (k : Nat) (v : Int) (zs : List Int) (f : Bool) : dloop (k + 1) v zs f = dloop k (acc v (stepV zs f)) (stepZ zs f) (stepF zs f) := rfl

theorem or_low (v c : Int) (hc0 : 0 ≤ c) (hc1 : c ≤ 255) : ((v * 256 % 18446744073709551616).toNat ||| c.toNat : Nat) = (acc v c).toNat := by
  unfold acc
  obtain ⟨m, hm⟩ : ∃ m : Nat, (v * 256 % 18446744073709551616).toNat = 2 ^ 8 * m := ⟨(v % 72057594037927936).toNat, by omega⟩
  rw [hm, ← Nat.two_pow_add_eq_or_of_lt (show c.toNat < 2 ^ 8 by omega) m, ← hm]
  omega

end Go.Proofs.Qxb6603786a.Pl
