/-
  allDigits (function 18), its alias (11), zzDigitByDistance (19), zzAllDigitsBackward (12), the length bound (10), and the walk of the law FnAllDigitsAgreesWithBackwardModel (5).
-/
import Derived.Test.Qxb6603376aRows
import Derived.WalkKit
import Derived.WalkSpells
namespace Go.Proofs.Qxb6603376a
open Go.RowKit

def dg (n : Nat) : Bool := decide (48 ≤ n ∧ n ≤ 57)
def dgs (l : List UInt8) : Bool := l.all fun c => dg c.toNat

theorem take_snoc (s : ByteArray) (k : Nat) (h : k < s.size) : s.data.toList.take (k + 1) = s.data.toList.take k ++ [s[k]] := by
  rw [List.take_succ_eq_append_getElem (by simpa using h)]; rfl

theorem drop_cons (s : ByteArray) (k : Nat) (h : k < s.size) : s.data.toList.drop k = s[k] :: s.data.toList.drop (k + 1) := by
  rw [List.drop_eq_getElem_cons (by simpa using h)]; rfl

theorem dgs_bad (s : ByteArray) (k : Nat) (h : k < s.size) (hb : dg s[k].toNat = false) : dgs s.data.toList = false := by
  unfold dgs
  rw [List.all_eq_false]
  exact ⟨s[k], by rw [← List.take_append_drop k s.data.toList, drop_cons s k h]; simp, by simp [hb]⟩

theorem dgs_take (s : ByteArray) (k : Nat) (h : k < s.size) (h1 : dgs (s.data.toList.take k) = true) (h2 : dg s[k].toNat = true) :
    dgs (s.data.toList.take (k + 1)) = true := by
  unfold dgs at *
  rw [take_snoc s k h]; simp only [List.all_append, h1, List.all_cons, h2]; rfl

theorem dgs_drop (s : ByteArray) (k : Nat) (h : k < s.size) (h1 : dgs (s.data.toList.drop (k + 1)) = true) (h2 : dg s[k].toNat = true) :
    dgs (s.data.toList.drop k) = true := by
  unfold dgs at *
  rw [drop_cons s k h]; simp only [h1, List.all_cons, h2]; rfl

theorem ret_bool {a b : Bool} (h : a = b) : Ending.returned (.bool a) = .returned (.bool b) := by rw [h]

theorem dg_lo {n : Nat} (h : (n : Int) < 48) : dg n = false := by unfold dg; simp; omega
theorem dg_hi {n : Nat} (h : 57 < (n : Int)) : dg n = false := by unfold dg; simp; omega
theorem dg_in {n : Nat} (h : 48 ≤ (n : Int)) (h' : (n : Int) ≤ 57) : dg n = true := by unfold dg; simp; omega

set_option maxHeartbeats 400000 in
theorem allDigits_any (s : ByteArray) (w : World) (hs : s.size ≤ maxLen) :
    Calls Try.prog 18 #[.string s] w fun e w' => e = .returned (.bool (dgs s.data.toList)) ∧ w' = w := by
  unfold maxLen at hs
  go_enter Try.func18, Try.ntmps18
  go_wp2
  go_loop [3] (fun i => ∃ k : Nat, k ≤ s.size ∧ i = .int .i64 k ∧ dgs (s.data.toList.take k) = true) (fun i => s.size - (intOf i).toNat)
  case atStart => exact ⟨0, Nat.zero_le _, rfl, rfl⟩
  case round =>
    obtain ⟨k, hk, rfl, hd⟩ := hrel
    have HD : Hid (dgs (s.data.toList.take k) = true) := hd
    clear hd
    by_cases hlt : k < s.size
    · by_cases h1 : (s[k].toNat : Int) < 48
      · go_wp2
        go_ret
        exact ⟨ret_bool (dgs_bad s k hlt (dg_lo h1)).symm, rfl⟩
      · by_cases h2 : 57 < (s[k].toNat : Int)
        · go_wp2
          go_ret
          exact ⟨ret_bool (dgs_bad s k hlt (dg_hi h2)).symm, rfl⟩
        · go_wp2
          go_round
          case rel => exact ⟨k + 1, by omega, by go_num, dgs_take s k hlt HD.out (dg_in (by omega) (by omega))⟩
          case measure => simp [intOf]; omega
    · go_wp2
      go_ret
      exact ⟨ret_bool (by rw [← HD.out, List.take_of_length_le (by simp; omega)]), rfl⟩

theorem zallDigits_any (s : ByteArray) (w : World) (hs : s.size ≤ maxLen) :
    Calls Try.prog 11 #[.string s] w fun e w' => e = .returned (.bool (dgs s.data.toList)) ∧ w' = w := by
  go_enter Try.func11, Try.ntmps11
  go_wp2_with fail
  refine (allDigits_any _ _ hs).mono ?_
  rintro e w' ⟨rfl, rfl⟩
  go_wp2
  go_ret
  exact ⟨rfl, rfl⟩

theorem dist_any (n : Nat) (h : n ≤ 255) (w : World) :
    Calls Try.prog 19 #[.int .u8 n] w fun e w' => e = .returned (.bool (dg n)) ∧ w' = w := by
  go_enter Try.func19, Try.ntmps19
  go_wp2
  go_ret
  exact ⟨ret_bool (by unfold dg; rw [decide_eq_decide]; omega), rfl⟩

set_option maxHeartbeats 400000 in
theorem backward_any (s : ByteArray) (w : World) (hs : s.size ≤ maxLen) :
    Calls Try.prog 12 #[.string s] w fun e w' => e = .returned (.bool (dgs s.data.toList)) ∧ w' = w := by
  unfold maxLen at hs
  go_enter Try.func12, Try.ntmps12
  go_wp2
  go_loop [3] (fun i => ∃ k : Nat, k ≤ s.size ∧ i = .int .i64 k ∧ dgs (s.data.toList.drop k) = true) (fun i => (intOf i).toNat)
  case atStart => exact ⟨s.size, Nat.le_refl _, rfl, by rw [List.drop_of_length_le (by simp)]; rfl⟩
  case round =>
    obtain ⟨k, hk, rfl, hd⟩ := hrel
    have HD : Hid (dgs (s.data.toList.drop k) = true) := hd
    clear hd
    match k with
    | 0 =>
      go_wp2
      go_ret
      exact ⟨ret_bool HD.out.symm, rfl⟩
    | k + 1 =>
      have hlt : k < s.size := by omega
      cases hd : dg s[k].toNat
      · go_wp2_with fail
        refine (dist_any _ (by have := s[k].toNat_lt; omega) _).mono ?_
        rintro e w' ⟨rfl, rfl⟩
        go_wp2
        go_ret
        exact ⟨ret_bool (dgs_bad s k hlt hd).symm, rfl⟩
      · go_wp2_with fail
        refine (dist_any _ (by have := s[k].toNat_lt; omega) _).mono ?_
        rintro e w' ⟨rfl, rfl⟩
        go_wp2
        go_round
        case rel => exact ⟨k, by omega, by go_num, dgs_drop s k hlt HD.out hd⟩
        case measure => simp [intOf]

theorem dbytes_yes (s : ByteArray) (w : World) (h : s.size ≤ 1048576) :
    Calls Try.prog 10 #[.string s] w fun e w' => e = .returned (.bool true) ∧ w' = w := by
  go_enter Try.func10, Try.ntmps10
  go_wp2
  go_ret
  exact ⟨rfl, rfl⟩

theorem dbytes_no (s : ByteArray) (w : World) (h : 1048576 < s.size) :
    Calls Try.prog 10 #[.string s] w fun e w' => e = .returned (.bool false) ∧ w' = w := by
  go_enter Try.func10, Try.ntmps10
  go_wp2
  go_ret
  exact ⟨rfl, rfl⟩

set_option maxHeartbeats 400000 in
theorem digits_walk (s : ByteArray) (w0 : s.size ≤ maxLen) (w : World) :
    Calls Try.prog 5 #[.string s] w fun e w' => e = .returned (.bool true) ∧ Grown w w' := by
  by_cases hs : s.size ≤ 1048576
  · go_enter Try.func5, Try.ntmps5
    go_wp2_with fail
    refine (dbytes_yes _ _ hs).mono ?_
    rintro e w' ⟨rfl, rfl⟩
    go_wp2_with fail
    refine (zallDigits_any _ _ w0).mono ?_
    rintro e w' ⟨rfl, rfl⟩
    go_wp2_with fail
    refine (backward_any _ _ w0).mono ?_
    rintro e w' ⟨rfl, rfl⟩
    go_wp2_with fail
    go_ret
    exact ⟨ret_bool (by simp), Grown.refl _⟩
  · go_enter Try.func5, Try.ntmps5
    go_wp2_with fail
    refine (dbytes_no _ _ (by omega)).mono ?_
    rintro e w' ⟨rfl, rfl⟩
    go_wp2
    go_ret
    exact ⟨rfl, Grown.refl _⟩
end Go.Proofs.Qxb6603376a
