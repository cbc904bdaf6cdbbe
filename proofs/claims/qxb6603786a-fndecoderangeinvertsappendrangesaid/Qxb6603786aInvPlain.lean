/-
  THE PLAIN LAW: reading back what appendRange wrote. No Go in sight.
-/
import Derived.Test.Qxb6603786aModelPlain
namespace Go.Proofs.Qxb6603786a.Pl

theorem mod_low (x P : Int) (hP : 0 < P) : (x / 256 % P) * 256 + x % 256 = x % (P * 256) := by
  have h1 := Int.mul_ediv_add_emod x 256
  have h2 := Int.mul_ediv_add_emod (x / 256) P
  have r1 := Int.emod_nonneg x (show (256 : Int) ≠ 0 by decide)
  have r2 := Int.emod_lt_of_pos x (show (0 : Int) < 256 by decide)
  have s1 := Int.emod_nonneg (x / 256) (show P ≠ 0 by omega)
  have s2 := Int.emod_lt_of_pos (x / 256) hP
  generalize x / 256 % P = a at *
  generalize x / 256 / P = q at *
  generalize x % 256 = r at *
  generalize x / 256 = y at *
  have hx : x = (a * 256 + r) + (P * 256) * q := by
    rw [← h1, ← h2, Int.mul_add, ← Int.mul_assoc, Int.mul_comm 256 P]
    omega
  have hlt : a * 256 + r < P * 256 := by omega
  rw [hx, Int.add_mul_emod_self_left, Int.emod_eq_of_lt (by omega) hlt]

theorem sm_be (p : Int) (k : Nat) (t : List Int) : ∀ m, m ≤ k → sm (be p k ++ t) 0 m = q8 p (k - m) % 256 ^ m := by
  intro m
  induction m with
  | zero => intro _; simp [sm, Int.emod_one]
  | succ m ih =>
    intro hm
    simp only [sm, Nat.zero_add]
    rw [ih (by omega)]
    have hg : (be p k ++ t).getD m 0 = q8 p (k - 1 - m) % 256 := by
      rw [← be_getD p k m (by omega)]
      simp only [List.getD]
      rw [List.getElem?_append_left (by rw [be_length]; omega)]
    rw [hg, show k - m = (k - 1 - m) + 1 by omega, ← q8_succ, show k - (m + 1) = k - 1 - m by omega]
    rw [Int.pow_succ]
    exact mod_low _ _ (pow_pos m)

theorem enc_bts (d p : Int) : Bts (enc d p) := by
  intro z hz
  unfold enc at hz
  simp only [List.mem_cons] at hz
  rcases hz with rfl | hz
  · omega
  · have : ∀ k, z ∈ be p k → 0 ≤ z ∧ z ≤ 255 := by
      intro k
      induction k with
      | zero => intro h; simp [be] at h
      | succ k ih =>
        intro h
        simp only [be, List.mem_cons] at h
        rcases h with rfl | h
        · omega
        · exact ih h
    exact this _ hz

theorem bts_append {a b : List Int} (ha : Bts a) (hb : Bts b) : Bts (a ++ b) := by
  intro z hz
  simp only [List.mem_append] at hz
  rcases hz with h | h
  · exact ha z h
  · exact hb z h

/-- THE LAW: what appendRange wrote is read back, whatever follows. -/
theorem inv_law (d p M : Int) (tail : List Int) (h0 : 0 ≤ d) (h1 : d ≤ 255) (hp0 : 0 ≤ p) (hp : p ≤ 18446744073709551615) (h : d < 16 → p < 2 ^ (4 * d).toNat) (hM : d ≤ M) :
    decR (enc d p ++ tail) false M = (d, p, tail, false) := by
  have e0 : enc d p ++ tail = d :: (be p (cnt d) ++ tail) := by
    unfold enc; rw [Int.emod_eq_of_lt h0 (by omega)]; rfl
  have e1 : stepV (d :: (be p (cnt d) ++ tail)) false = d := rfl
  have e2 : stepZ (d :: (be p (cnt d) ++ tail)) false = be p (cnt d) ++ tail := rfl
  have e3 : stepF (d :: (be p (cnt d) ++ tail)) false = false := rfl
  have hmv : mv (be p (cnt d) ++ tail) 0 (cnt d) = p := by
    rw [mv_sm, sm_be p (cnt d) tail (cnt d) (Nat.le_refl _), Nat.sub_self, q8_zero, fits_of_depth d p h0 hp0 (by omega) h]
    exact Int.emod_eq_of_lt hp0 (by omega)
  unfold decR
  rw [e0, e1, e2, e3, dloop_mv, hmv, if_neg (by omega)]
  have hno : ¬ (d < 16 ∧ p / 2 ^ (4 * d).toNat ≠ 0) := by
    rintro ⟨h16, hne⟩
    exact hne (Int.ediv_eq_zero_of_lt hp0 (h h16))
  rw [if_neg hno]
  have e4 : (be p (cnt d) ++ tail).drop (cnt d) = tail := by
    rw [List.drop_append_of_le_length (by rw [be_length]; omega), List.drop_of_length_le (by rw [be_length]; omega)]
    rfl
  have e5 : decide ((be p (cnt d) ++ tail).length < cnt d) = false := by
    apply decide_eq_false
    rw [List.length_append, be_length]; omega
  rw [e4, e5]

end Go.Proofs.Qxb6603786a.Pl
