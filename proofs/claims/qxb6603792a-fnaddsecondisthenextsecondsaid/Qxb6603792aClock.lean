/-
  zzLeap (function 14), zzDaysBefore (15), daysIn (21).
-/
import Derived.Test.Qxb6603792aRows
import Derived.Test.Qxb6603792aCal
import Derived.WalkKit
import Derived.WalkSpells
namespace Go.Proofs.Qxb6603792a
open Go.RowKit

theorem retb {a b : Bool} (h : a = b) : Ending.returned (.bool a) = .returned (.bool b) := by rw [h]
theorem reti {k : IntKind} {a b : Int} (h : a = b) : Ending.returned (.int k a) = .returned (.int k b) := by rw [h]

theorem leap_1 {y : Int} (h : (y.tmod 400 == 0) = true) : true = leap y := by
  have h' : y.tmod 400 = 0 := by simpa using h
  unfold leap; rw [if_pos h']
theorem leap_2 {y : Int} (h : (y.tmod 400 == 0) = false) (h2 : (y.tmod 100 == 0) = true) : false = leap y := by
  have h' : ¬ y.tmod 400 = 0 := by simpa using h
  have h2' : y.tmod 100 = 0 := by simpa using h2
  unfold leap; rw [if_neg h', if_pos h2']
theorem leap_3 {y : Int} (h : (y.tmod 400 == 0) = false) (h2 : (y.tmod 100 == 0) = false) : (y.tmod 4 == 0) = leap y := by
  have h' : ¬ y.tmod 400 = 0 := by simpa using h
  have h2' : ¬ y.tmod 100 = 0 := by simpa using h2
  unfold leap; rw [if_neg h', if_neg h2', Bool.eq_iff_iff]; simp

set_option maxHeartbeats 400000 in
theorem leap_any (y : Int) (w : World) :
    Calls Try.prog 14 #[.int .i64 y] w fun e w' => e = .returned (.bool (leap y)) ∧ w' = w := by
  go_enter Try.func14, Try.ntmps14
  go_wp2
  · go_ret
    exact ⟨retb (leap_1 ‹_›), rfl⟩
  · go_ret
    exact ⟨retb (leap_2 ‹_› ‹_›), rfl⟩
  · go_ret
    exact ⟨retb (leap_3 ‹_› ‹_›), rfl⟩

theorem dim_two {y m : Int} (hm : (m == 2) = true) : dim (leap y) m = if leap y = true then 29 else 28 := by
  have hm' : m = 2 := by simpa using hm
  unfold dim; rw [if_pos hm']
theorem dim_a {y m : Int} (hm : (m == 2) = true) (h : (y.tmod 400 == 0) = true) : 29 = dim (leap y) m := by
  rw [dim_two hm, ← leap_1 h]; rfl
theorem dim_b {y m : Int} (hm : (m == 2) = true) (h1 : y.tmod 100 = 0) (h : (y.tmod 400 == 0) = false) : 28 = dim (leap y) m := by
  rw [dim_two hm, ← leap_2 h (by simpa using h1)]; rfl
theorem dim_c {y m : Int} (hm : (m == 2) = true) (h4 : y.tmod 4 = 0) (h1 : ¬ y.tmod 100 = 0) : 29 = dim (leap y) m := by
  have e : leap y = true := by
    unfold leap
    by_cases h : y.tmod 400 = 0
    · rw [if_pos h]
    · rw [if_neg h, if_neg h1]; simpa using h4
  rw [dim_two hm, e]; rfl
theorem dim_d {y m : Int} (hm : (m == 2) = true) (h4 : ¬ y.tmod 4 = 0) : 28 = dim (leap y) m := by
  have e : leap y = false := by
    unfold leap
    have h : ¬ y.tmod 400 = 0 := fun h => h4 (Int.tmod_eq_zero_of_dvd (Int.dvd_trans (by decide : (4 : Int) ∣ 400) (Int.dvd_of_tmod_eq_zero h)))
    rw [if_neg h]
    by_cases h1 : y.tmod 100 = 0
    · rw [if_pos h1]
    · rw [if_neg h1]; simpa using h4
  rw [dim_two hm, e]; rfl
theorem dim_30 {lp : Bool} {m : Int} (h : m = 4 ∨ m = 6 ∨ m = 9 ∨ m = 11) : 30 = dim lp m := by
  unfold dim; rw [if_neg (by omega), if_pos h]
theorem dim_31 {lp : Bool} {m : Int} (h2 : (m == 2) = false) (h4 : (m == 4) = false) (h6 : (m == 6) = false) (h9 : (m == 9) = false) (h11 : (m == 11) = false) : 31 = dim lp m := by
  simp only [beq_eq_false_iff_ne, ne_eq] at h2 h4 h6 h9 h11
  unfold dim; rw [if_neg (by omega), if_neg (by omega)]

set_option maxHeartbeats 400000 in
theorem dim_any (y m : Int) (w : World) :
    Calls Try.prog 21 #[.int .i64 y, .int .i64 m] w fun e w' => e = .returned (.int .i64 (dim (leap y) m)) ∧ w' = w := by
  go_enter Try.func21, Try.ntmps21
  go_wp2
  · go_ret
    exact ⟨reti (dim_a ‹_› ‹_›), rfl⟩
  · go_ret
    exact ⟨reti (dim_b ‹_› ‹_› ‹_›), rfl⟩
  · go_ret
    exact ⟨reti (dim_c ‹_› ‹_› ‹_›), rfl⟩
  · go_ret
    exact ⟨reti (dim_d ‹_› ‹_›), rfl⟩
  · go_ret
    exact ⟨reti (dim_30 (.inl (by simpa using ‹(m == 4) = true›))), rfl⟩
  · go_ret
    exact ⟨reti (dim_30 (.inr (.inl (by simpa using ‹(m == 6) = true›)))), rfl⟩
  · go_ret
    exact ⟨reti (dim_30 (.inr (.inr (.inl (by simpa using ‹(m == 9) = true›))))), rfl⟩
  · go_ret
    exact ⟨reti (dim_30 (.inr (.inr (.inr (by simpa using ‹(m == 11) = true›))))), rfl⟩
  · go_ret
    exact ⟨reti (dim_31 ‹_› ‹_› ‹_› ‹_› ‹_›), rfl⟩

set_option maxHeartbeats 400000 in
theorem db_any (m : Int) (lp : Bool) (w : World) (h1 : 1 ≤ m) (h2 : m ≤ 13) :
    Calls Try.prog 15 #[.int .i64 m, .bool lp] w fun e w' => e = .returned (.int .i64 (db m lp)) ∧ w' = w := by
  rcases month_cases m h1 h2 with h | h | h | h | h | h | h | h | h | h | h | h | h <;> subst h <;> cases lp
  all_goals (go_enter Try.func15, Try.ntmps15; go_wp2; go_ret; exact ⟨rfl, rfl⟩)
end Go.Proofs.Qxb6603792a
