/-
  THE WALKS of FnValidIDIsAlphabetBytes(3).
-/
import Derived.Test.Qxb6604156aValid
namespace Go.Proofs.Qxb6604156a
open Go.RowKit

theorem zzValid_any (s : ByteArray) (w : World) (hs : 0 < s.size) :
    Calls Try.prog 9 #[.string s] w fun e w' => e = .returned (.bool (okS s)) ∧ Below w.heap.size w w' := by
  go_enter Try.func9, Try.ntmps9
  go_wp2_with fail
  refine (validID_any s _ hs).mono ?_
  rintro e w1 ⟨rfl, b1⟩
  go_wp2
  go_ret
  exact ⟨rfl, b1⟩

theorem zzValid_empty (w : World) :
    Calls Try.prog 9 #[.string ⟨#[]⟩] w fun e w' => e = .returned (.bool false) ∧ Below w.heap.size w w' := by
  go_enter Try.func9, Try.ntmps9
  go_wp2_with fail
  refine (validID_empty _).mono ?_
  rintro e w1 ⟨rfl, b1⟩
  go_wp2
  go_ret
  exact ⟨rfl, b1⟩

theorem valid_long (s : ByteArray) (w : World) (h : 1048576 < s.size) (hm : s.size ≤ 9223372036854775807) :
    Calls Try.prog 3 #[.string s] w fun e w' => e = .returned (.bool true) ∧ Below w.heap.size w w' := by
  go_enter Try.func3, Try.ntmps3
  go_wp2
  go_ret
  exact ⟨rfl, Below.refl _ _⟩

theorem valid_none (w : World) :
    Calls Try.prog 3 #[.string ⟨#[]⟩] w fun e w' => e = .returned (.bool true) ∧ Below w.heap.size w w' := by
  go_enter Try.func3, Try.ntmps3
  go_wp2
  refine wp_loop_rounds 1 ?_
  rw [rounds_succ]
  go_wp2_with fail
  refine (zzValid_empty _).mono ?_
  rintro e w1 ⟨rfl, b1⟩
  go_wp2
  go_ret
  exact ⟨rfl, b1⟩

/-- The first k bytes are of the alphabet. -/
def okT (s : ByteArray) (k : Nat) : Bool := (s.data.toList.take k).all fun c => okN c.toNat

theorem okT_succ (s : ByteArray) (k : Nat) (h : k < s.size) : okT s (k + 1) = (okT s k && okN (s[k]'h).toNat) := by
  unfold okT
  have h' : k < s.data.toList.length := by simpa using h
  rw [List.take_succ_eq_append_getElem h', List.all_append]
  simp
  rfl

theorem okT_all (s : ByteArray) : okT s s.size = okS s := by
  unfold okT okS
  rw [List.take_of_length_le (by simp)]

theorem zzBytes7 (s : ByteArray) (w : World) (h : s.size ≤ 1048576) :
    Calls Try.prog 7 #[.string s] w fun e w' => e = .returned (.bool true) ∧ w' = w := by
  go_enter Try.func7, Try.ntmps7
  go_wp2
  go_ret
  exact ⟨rfl, rfl⟩

set_option maxHeartbeats 400000 in
theorem valid_some (s : ByteArray) (w : World) (h0 : 0 < s.size) (h : s.size ≤ 1048576) :
    Calls Try.prog 3 #[.string s] w fun e w' => e = .returned (.bool true) ∧ Below w.heap.size w w' := by
  have hb1 : decide ((1048576 : Int) < (s.size : Int)) = false := decide_eq_false (by omega)
  have hb2 : decide ((0 : Int) < (s.size : Int)) = true := decide_eq_true (by omega)
  go_enter Try.func3, Try.ntmps3
  go_wp2_with fail
  refine (zzBytes7 s w h).mono ?_
  rintro e w0 ⟨rfl, hw0⟩
  rw [hw0]
  clear hw0 w0
  go_wp2
  go_loopw [3, 4] (fun b i wr => ∃ k : Nat, k ≤ s.size ∧ i = .int .i64 k ∧ b = .bool (okT s k) ∧ Hid (Below w.heap.size w wr)) (fun _ i _ => s.size - (intOf i).toNat)
  case atStart => exact ⟨0, Nat.zero_le _, rfl, rfl, Below.refl _ _⟩
  case round =>
    obtain ⟨k, hk, rfl, rfl, HB⟩ := hrel
    by_cases hlt : k < s.size
    · have HS := hid (okT_succ s k hlt)
      cases ho : okN (s[k]'hlt).toNat
      · have Ho := hid ho
        rw [ho, Bool.and_false] at HS
        clear ho
        go_wp2_with fail
        refine (inAlphabet_any (s[k]'hlt).toNat (by exact UInt8.toNat_lt _) wr).mono ?_
        rw [Ho.out]
        rintro e w1 ⟨rfl, hw1⟩
        rw [hw1]
        clear hw1
        go_wp2
        go_roundw
        case rel => exact ⟨k + 1, by omega, by go_num, by rw [HS.out], HB⟩
        case measure => simp [intOf]; omega
      · have Ho := hid ho
        rw [ho, Bool.and_true] at HS
        clear ho
        go_wp2_with fail
        refine (inAlphabet_any (s[k]'hlt).toNat (by exact UInt8.toNat_lt _) wr).mono ?_
        rw [Ho.out]
        rintro e w1 ⟨rfl, hw1⟩
        rw [hw1]
        clear hw1
        go_wp2
        go_roundw
        case rel => exact ⟨k + 1, by omega, by go_num, by rw [HS.out], HB⟩
        case measure => simp [intOf]; omega
    · have hk' : k = s.size := by omega
      subst hk'
      rw [okT_all]
      go_wp2_with fail
      refine (zzValid_any s wr h0).mono ?_
      generalize okS s = b
      rintro e w1 ⟨rfl, b1⟩
      cases b
      all_goals
        go_wp2
        go_ret
        exact ⟨rfl, HB.out.trans (b1.mono HB.out.size)⟩

end Go.Proofs.Qxb6604156a
