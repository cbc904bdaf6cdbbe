/-
  THE WALKS of zzInIDAlphabet(8), validID(15), ZZvalidID(9).
-/
import Derived.Test.Qxb6604156aRows
import Derived.WalkKit
import Derived.WalkSpells
import Derived.WalkLawsBesides
import Derived.Laws.RangeAny
namespace Go.Proofs.Qxb6604156a
open Go.RowKit

/-- The alphabet's bytes. -/
def okN (c : Nat) : Bool := decide ((97 ≤ c ∧ c ≤ 122) ∨ (48 ≤ c ∧ c ≤ 57) ∨ c = 45)
def tbl : List Nat := [97, 98, 99, 100, 101, 102, 103, 104, 105, 106, 107, 108, 109, 110, 111, 112, 113, 114, 115, 116, 117, 118, 119, 120, 121, 122, 48, 49, 50, 51, 52, 53, 54, 55, 56, 57, 45]

theorem okN_tbl : ∀ c : Fin 256, okN c.val = tbl.contains c.val := by decide +kernel

theorem ok_of_tbl (j : Nat) (h : j < 37) : okN (tbl.getD j 0) = true := by
  have : ∀ i : Fin 37, okN (tbl.getD i.val 0) = true := by decide +kernel
  exact this ⟨j, h⟩

theorem tbl_of_ok (c : Nat) (hc : c < 256) (h : okN c = true) : ∃ j, j < 37 ∧ tbl.getD j 0 = c := by
  have e := okN_tbl ⟨c, hc⟩
  simp only at e
  rw [h] at e
  have hm : c ∈ tbl := by simpa using e.symm
  obtain ⟨j, hj, he⟩ := List.getElem_of_mem hm
  exact ⟨j, hj, by simp [List.getD, hj, he]⟩

theorem S_at (k : Nat) (h : k < (⟨#[97, 98, 99, 100, 101, 102, 103, 104, 105, 106, 107, 108, 109, 110, 111, 112, 113, 114, 115, 116, 117, 118, 119, 120, 121, 122, 48, 49, 50, 51, 52, 53, 54, 55, 56, 57, 45]⟩ : ByteArray).size) : ((⟨#[97, 98, 99, 100, 101, 102, 103, 104, 105, 106, 107, 108, 109, 110, 111, 112, 113, 114, 115, 116, 117, 118, 119, 120, 121, 122, 48, 49, 50, 51, 52, 53, 54, 55, 56, 57, 45]⟩ : ByteArray)[k]).toNat = tbl.getD k 0 := by
  have a : ∀ i : Fin 37, ((⟨#[97, 98, 99, 100, 101, 102, 103, 104, 105, 106, 107, 108, 109, 110, 111, 112, 113, 114, 115, 116, 117, 118, 119, 120, 121, 122, 48, 49, 50, 51, 52, 53, 54, 55, 56, 57, 45]⟩ : ByteArray).data[i.val]'(i.isLt)).toNat = tbl.getD i.val 0 := by decide +kernel
  exact a ⟨k, h⟩

set_option maxHeartbeats 400000 in
theorem inAlphabet_any (c : Nat) (hc : c < 256) (w : World) :
    Calls Try.prog 8 #[.int .u8 (c : Int)] w fun e w' => e = .returned (.bool (okN c)) ∧ w' = w := by
  go_enter Try.func8, Try.ntmps8
  go_wp2
  go_loop [3] (fun i => ∃ k : Nat, k ≤ 37 ∧ i = .int .i64 k ∧ Hid (∀ j, j < k → tbl.getD j 0 ≠ c)) (fun i => 37 - (intOf i).toNat)
  case atStart => exact ⟨0, by omega, rfl, fun j h => by omega⟩
  case round =>
    obtain ⟨k, hk, rfl, HA⟩ := hrel
    by_cases hlt : k < 37
    · go_wp2
      · have hx := ‹((_ : Int) == (c : Int)) = true›
        rw [S_at k _] at hx
        have hx' : tbl.getD k 0 = c := by have e : ((tbl.getD k 0 : Nat) : Int) = (c : Int) := eq_of_beq hx; omega
        go_ret
        refine ⟨?_, rfl⟩
        show Ending.returned (.bool true) = _
        rw [← hx', ok_of_tbl k hlt]
      · have hx := ‹((_ : Int) == (c : Int)) = false›
        rw [S_at k _] at hx
        have hx' : tbl.getD k 0 ≠ c := by
          intro h
          rw [h] at hx
          simp at hx
        go_round
        case rel =>
          refine ⟨k + 1, by omega, by go_num, ?_⟩
          intro j hj
          by_cases hjk : j < k
          · exact HA.out j hjk
          · have : j = k := by omega
            subst this
            exact hx'
        case measure => simp [intOf]; omega
    · go_wp2
      go_ret
      refine ⟨?_, rfl⟩
      show Ending.returned (.bool false) = _
      cases ho : okN c
      · rfl
      · obtain ⟨j, hj, he⟩ := tbl_of_ok c hc ho
        exact absurd he (HA.out j (by omega))

theorem hid {p : Prop} (h : p) : Hid p := h
theorem ret_bool {a b : Bool} (h : a = b) : Ending.returned (.bool a) = .returned (.bool b) := by rw [h]

/-- Every byte is of the alphabet. -/
def okS (s : ByteArray) : Bool := s.data.toList.all fun c => okN c.toNat

/-- Every byte below place k is of the alphabet. -/
def OkTo (s : ByteArray) (k : Nat) : Prop := ∀ j (h : j < s.size), j < k → okN (s[j]'h).toNat = true

theorem okN_rune (r : Nat) (h : okN r = true) : (97 ≤ r ∧ r ≤ 122) ∨ (48 ≤ r ∧ r ≤ 57) ∨ r = 45 := by
  unfold okN at h; simpa using h
theorem okN_no (r : Nat) (h : okN r = false) : ¬ ((97 ≤ r ∧ r ≤ 122) ∨ (48 ≤ r ∧ r ≤ 57) ∨ r = 45) := by
  unfold okN at h; simpa using h

theorem okS_iff (s : ByteArray) : okS s = true ↔ OkTo s s.size := by
  unfold okS OkTo
  rw [List.all_eq_true]
  constructor
  · intro h j hj _
    exact h _ (by show s.data[j] ∈ s.data.toList; simp)
  · intro h c hc
    obtain ⟨j, hj, rfl⟩ := List.getElem_of_mem hc
    have hj' : j < s.size := by simpa using hj
    exact h j hj' hj'

theorem ne45 (c : Nat) (h : c ≠ 45) : ((c : Int) == 45) = false ∧ ((c : Int) != 45) = true := by
  have h' : ((c : Int) == 45) = false := beq_eq_false_iff_ne.2 (by omega)
  exact ⟨h', by rw [bne, h']; rfl⟩

/-- The empty string. -/
theorem validID_empty (w : World) : Calls Try.prog 15 #[.string ⟨#[]⟩] w fun e w' => e = .returned (.bool false) ∧ Below w.heap.size w w' := by
  go_enter Try.func15, Try.ntmps15
  go_wp2
  go_ret
  exact ⟨rfl, Below.refl _ _⟩

set_option maxHeartbeats 800000 in
theorem validID_any (s : ByteArray) (w : World) (hs : 0 < s.size) :
    Calls Try.prog 15 #[.string s] w fun e w' => e = .returned (.bool (okS s)) ∧ Below w.heap.size w w' := by
  have hne : s.toList.isEmpty = false := by
    cases hl : s.toList with
    | nil => exfalso; rw [toList_nil_iff_emptyBytes] at hl; subst hl; exact absurd hs (by decide)
    | cons _ _ => rfl
  go_enter Try.func15, Try.ntmps15
  go_wp2
  go_loopw [4] (fun _ w' => ∃ pos : Nat, w' = w.iter s pos ∧ Hid (OkTo s pos)) (fun _ w' => s.size - w'.iterPos w.heap.size)
  case atStart => exact ⟨0, rfl, fun j h hj => by omega⟩
  case round =>
    obtain ⟨pos, rfl, HO⟩ := hrel
    have HB : Hid (∀ p, Below w.heap.size w (w.iter s p)) := fun p => (Below.refl _ _).alloc (Nat.le_refl _) _
    by_cases hp : pos < s.size
    · by_cases ha : (s[pos]'hp).toNat < 128
      · have hnx : ∀ ty, (Instr.next (.pointer (some ⟨w.heap.size, 0, none⟩)) true ty).run Try.prog (w.iter s pos) = .ok (.tuple #[.bool true, .int .i64 pos, .int .i32 (s[pos]'hp).toNat]) (w.iter s (pos + 1)) := fun ty => run_next_ascii w s pos ty hp ha
        obtain ⟨c, hc⟩ : ∃ c, c = (s[pos]'hp).toNat := ⟨_, rfl⟩
        rw [← hc] at hnx
        have HC := hid hc
        rw [← hc] at ha
        clear hc
        cases ho : okN c
        · have hno := okN_no c ho
          have HF : Hid (okS s = false) := by
            cases hos : okS s
            · rfl
            · have := (okS_iff s).1 hos pos hp hp
              rw [← HC.out, ho] at this
              cases this
          have ways : (c < 48 ∧ c ≠ 45) ∨ (57 < c ∧ c < 97) ∨ 122 < c := by omega
          have hE := ne45 c (by omega)
          obtain ⟨hE1, hE2⟩ := hE
          clear hno ho
          rcases ways with ⟨h, _⟩ | ⟨h, h'⟩ | h
          · have tA : decide ((c : Int) < 97) = true := decide_eq_true (by omega)
            have tC : decide ((c : Int) < 48) = true := decide_eq_true (by omega)
            go_wp2
            go_ret
            exact ⟨ret_bool HF.out.symm, HB.out _⟩
          · have tA : decide ((c : Int) < 97) = true := decide_eq_true (by omega)
            have tC : decide ((c : Int) < 48) = false := decide_eq_false (by omega)
            have tD : decide ((57 : Int) < (c : Int)) = true := decide_eq_true (by omega)
            go_wp2
            go_ret
            exact ⟨ret_bool HF.out.symm, HB.out _⟩
          · have tA : decide ((c : Int) < 97) = false := decide_eq_false (by omega)
            have tB : decide ((122 : Int) < (c : Int)) = true := decide_eq_true (by omega)
            have tC : decide ((c : Int) < 48) = false := decide_eq_false (by omega)
            have tD : decide ((57 : Int) < (c : Int)) = true := decide_eq_true (by omega)
            go_wp2
            go_ret
            exact ⟨ret_bool HF.out.symm, HB.out _⟩
        · have hyes := okN_rune c ho
          have HN : Hid (OkTo s (pos + 1)) := fun j hj hlt => by
            by_cases h : j < pos
            · exact HO.out j hj h
            · have : j = pos := by omega
              subst this
              rw [← HC.out]; exact ho
          clear ho
          rcases hyes with ⟨h, h'⟩ | ⟨h, h'⟩ | h
          · have tA : decide ((c : Int) < 97) = false := decide_eq_false (by omega)
            have tB : decide ((122 : Int) < (c : Int)) = false := decide_eq_false (by omega)
            go_wp2
            go_roundw
            case rel => exact ⟨pos + 1, rfl, HN⟩
            case measure => simp; omega
          · have tA : decide ((c : Int) < 97) = true := decide_eq_true (by omega)
            have tC : decide ((c : Int) < 48) = false := decide_eq_false (by omega)
            have tD : decide ((57 : Int) < (c : Int)) = false := decide_eq_false (by omega)
            go_wp2
            go_roundw
            case rel => exact ⟨pos + 1, rfl, HN⟩
            case measure => simp; omega
          · subst h
            go_wp2
            go_roundw
            case rel => exact ⟨pos + 1, rfl, HN⟩
            case measure => simp; omega
      · have hnx : ∀ ty, (Instr.next (.pointer (some ⟨w.heap.size, 0, none⟩)) true ty).run Try.prog (w.iter s pos) = .ok (.tuple #[.bool true, .int .i64 pos, .int .i32 (Utf8.decode s pos).1]) (w.iter s (pos + (Utf8.decode s pos).2)) := fun ty => run_next_any w s pos ty hp
        have hhi := (decode_high s pos hp (by omega)).1
        have HF : Hid (okS s = false) := by
          cases hos : okS s
          · rfl
          · have h1 := (okS_iff s).1 hos pos hp hp
            have := okN_rune _ h1
            exfalso
            omega
        generalize (Utf8.decode s pos).1 = r at *
        generalize (Utf8.decode s pos).2 = wd at *
        clear ha
        have hE := ne45 r (by omega)
        obtain ⟨hE1, hE2⟩ := hE
        have tA : decide ((r : Int) < 97) = false := decide_eq_false (by omega)
        have tB : decide ((122 : Int) < (r : Int)) = true := decide_eq_true (by omega)
        have tC : decide ((r : Int) < 48) = false := decide_eq_false (by omega)
        have tD : decide ((57 : Int) < (r : Int)) = true := decide_eq_true (by omega)
        go_wp2
        go_ret
        exact ⟨ret_bool HF.out.symm, HB.out _⟩
    · have hnx : ∀ ty, (Instr.next (.pointer (some ⟨w.heap.size, 0, none⟩)) true ty).run Try.prog (w.iter s pos) = .ok (.tuple #[.bool false]) (w.iter s pos) := fun ty => run_next_end w s pos ty hp
      have HF : Hid (okS s = true) := (okS_iff s).2 (fun j h _ => HO.out j h (by omega))
      go_wp2
      go_ret
      exact ⟨ret_bool HF.out.symm, HB.out _⟩

end Go.Proofs.Qxb6604156a
