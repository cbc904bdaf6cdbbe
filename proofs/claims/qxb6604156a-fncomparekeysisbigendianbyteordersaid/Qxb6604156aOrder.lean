/-
  THE PLAIN LAW: the order of lists of bytes; two words by their big-endian bytes. No Go in sight.
-/
namespace Go.Proofs.Qxb6604156a.Pl

/-- How two lists of numbers compare, the first that differs deciding. -/
def cmpL : List Int → List Int → Int
  | [], [] => 0
  | [], _ :: _ => -1
  | _ :: _, [] => 1
  | a :: as, b :: bs => if a < b then -1 else if b < a then 1 else cmpL as bs

theorem cmpL_step (xs ys : List Int) (k : Nat) (h1 : k < xs.length) (h2 : k < ys.length) :
    cmpL (xs.drop k) (ys.drop k) = if xs.getD k 0 < ys.getD k 0 then -1 else if ys.getD k 0 < xs.getD k 0 then 1 else cmpL (xs.drop (k + 1)) (ys.drop (k + 1)) := by
  rw [List.drop_eq_getElem_cons h1, List.drop_eq_getElem_cons h2]
  simp [cmpL, List.getD, h1, h2]

/-- The bytes of a key, the high word first, each word's highest byte first. -/
def kb (hi lo : Int) : List Int :=
  [hi / 72057594037927936, hi / 281474976710656 % 256, hi / 1099511627776 % 256, hi / 4294967296 % 256, hi / 16777216 % 256, hi / 65536 % 256, hi / 256 % 256, hi % 256,
   lo / 72057594037927936, lo / 281474976710656 % 256, lo / 1099511627776 % 256, lo / 4294967296 % 256, lo / 16777216 % 256, lo / 65536 % 256, lo / 256 % 256, lo % 256]

/-- A byte list ahead of another: the first list decides, the rest where it ties. -/
def then3 (c r : Int) : Int := if c < 0 then -1 else if 0 < c then 1 else r

def sgn (x y : Int) : Int := if x < y then -1 else if y < x then 1 else 0

theorem cmpL_cons (a b : Int) (as bs : List Int) : cmpL (a :: as) (b :: bs) = then3 (sgn a b) (cmpL as bs) := by
  simp only [cmpL, then3, sgn]
  by_cases h1 : a < b
  · simp [h1]
  · by_cases h2 : b < a <;> simp [h1, h2]

/-- The low k+1 bytes of a word: its byte k, then the low k. -/
theorem low_step (x y M R : Int) (hM : 0 < M) (r : Int) (hR : R = M * 256) :
    then3 (sgn (x / M % 256) (y / M % 256)) (then3 (sgn (x % M) (y % M)) r) = then3 (sgn (x % R) (y % R)) r := by
  subst hR
  have key : ∀ z : Int, z % (M * 256) = (z / M % 256) * M + z % M := by
    intro z
    have h1 := Int.mul_ediv_add_emod z M
    have h2 := Int.mul_ediv_add_emod (z / M) 256
    have r1 := Int.emod_nonneg z (show M ≠ 0 by omega)
    have r2 := Int.emod_lt_of_pos z hM
    have s1 := Int.emod_nonneg (z / M) (show (256 : Int) ≠ 0 by decide)
    have s2 := Int.emod_lt_of_pos (z / M) (show (0 : Int) < 256 by decide)
    generalize z / M % 256 = a at *
    generalize z / M / 256 = q at *
    generalize z % M = b at *
    generalize z / M = d at *
    have hp : z = (a * M + b) + M * 256 * q := by
      rw [← h1, ← h2, Int.mul_add, Int.mul_comm M a, Int.mul_assoc]; omega
    have hb : a * M + b < M * 256 := by
      have : a * M ≤ 255 * M := Int.mul_le_mul_of_nonneg_right (by omega) (by omega)
      omega
    have h0 : 0 ≤ a * M + b := by
      have : 0 ≤ a * M := Int.mul_nonneg s1 (by omega)
      omega
    rw [hp, Int.add_mul_emod_self_left, Int.emod_eq_of_lt h0 hb]
  rw [key x, key y]
  have rx1 := Int.emod_nonneg x (show M ≠ 0 by omega)
  have rx2 := Int.emod_lt_of_pos x hM
  have ry1 := Int.emod_nonneg y (show M ≠ 0 by omega)
  have ry2 := Int.emod_lt_of_pos y hM
  generalize x / M % 256 = a at *
  generalize y / M % 256 = b at *
  generalize x % M = p at *
  generalize y % M = q at *
  by_cases h1 : a < b
  · have : (a + 1) * M ≤ b * M := Int.mul_le_mul_of_nonneg_right (by omega) (by omega)
    rw [Int.add_mul] at this
    have e : sgn (a * M + p) (b * M + q) = -1 := by unfold sgn; rw [if_pos (by omega)]
    have e' : sgn a b = -1 := by unfold sgn; rw [if_pos h1]
    rw [e, e']; rfl
  · by_cases h2 : b < a
    · have : (b + 1) * M ≤ a * M := Int.mul_le_mul_of_nonneg_right (by omega) (by omega)
      rw [Int.add_mul] at this
      have e : sgn (a * M + p) (b * M + q) = 1 := by unfold sgn; rw [if_neg (by omega), if_pos (by omega)]
      have e' : sgn a b = 1 := by unfold sgn; rw [if_neg h1, if_pos h2]
      rw [e, e']; rfl
    · have hab : a = b := by omega
      subst hab
      have e' : sgn a a = 0 := by unfold sgn; rw [if_neg h1, if_neg h1]
      have e : sgn (a * M + p) (a * M + q) = sgn p q := by
        unfold sgn
        by_cases h3 : p < q
        · rw [if_pos h3, if_pos (by omega)]
        · rw [if_neg h3, if_neg (by omega)]
          by_cases h4 : q < p
          · rw [if_pos h4, if_pos (by omega)]
          · rw [if_neg h4, if_neg (by omega)]
      rw [e, e']; rfl

/-- A word by its eight bytes. -/
theorem word (x y : Int) (x0 : 0 ≤ x) (x1 : x ≤ 18446744073709551615) (y0 : 0 ≤ y) (y1 : y ≤ 18446744073709551615) (as bs : List Int) :
    cmpL (x / 72057594037927936 :: x / 281474976710656 % 256 :: x / 1099511627776 % 256 :: x / 4294967296 % 256 :: x / 16777216 % 256 :: x / 65536 % 256 :: x / 256 % 256 :: x % 256 :: as)
      (y / 72057594037927936 :: y / 281474976710656 % 256 :: y / 1099511627776 % 256 :: y / 4294967296 % 256 :: y / 16777216 % 256 :: y / 65536 % 256 :: y / 256 % 256 :: y % 256 :: bs) = then3 (sgn x y) (cmpL as bs) := by
  have ex : x / 72057594037927936 = x / 72057594037927936 % 256 := (Int.emod_eq_of_lt (by omega) (by omega)).symm
  have ey : y / 72057594037927936 = y / 72057594037927936 % 256 := (Int.emod_eq_of_lt (by omega) (by omega)).symm
  have fx : x % 18446744073709551616 = x := Int.emod_eq_of_lt x0 (by omega)
  have fy : y % 18446744073709551616 = y := Int.emod_eq_of_lt y0 (by omega)
  rw [ex, ey]
  simp only [cmpL_cons]
  rw [low_step x y 256 65536 (by decide) _ (by decide), low_step x y 65536 16777216 (by decide) _ (by decide), low_step x y 16777216 4294967296 (by decide) _ (by decide), low_step x y 4294967296 1099511627776 (by decide) _ (by decide),
    low_step x y 1099511627776 281474976710656 (by decide) _ (by decide), low_step x y 281474976710656 72057594037927936 (by decide) _ (by decide), low_step x y 72057594037927936 18446744073709551616 (by decide) _ (by decide), fx, fy]

/-- THE LAW: keys order as their bytes do. -/
theorem cmp_kb (ah al bh bl : Int) (h1 : 0 ≤ ah ∧ ah ≤ 18446744073709551615) (h2 : 0 ≤ al ∧ al ≤ 18446744073709551615) (h3 : 0 ≤ bh ∧ bh ≤ 18446744073709551615) (h4 : 0 ≤ bl ∧ bl ≤ 18446744073709551615) :
    cmpL (kb ah al) (kb bh bl) = if ah < bh ∨ (ah = bh ∧ al < bl) then -1 else if bh < ah ∨ (bh = ah ∧ bl < al) then 1 else 0 := by
  unfold kb
  rw [word ah bh h1.1 h1.2 h3.1 h3.2, word al bl h2.1 h2.2 h4.1 h4.2]
  have e : cmpL [] [] = 0 := rfl
  rw [e]
  unfold then3 sgn
  repeat' split
  all_goals omega

theorem kb_length (hi lo : Int) : (kb hi lo).length = 16 := rfl

end Go.Proofs.Qxb6604156a.Pl
