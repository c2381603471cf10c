/-
  FnAddSecondIsTheNextSecond (function 6) at every input: the cases put together.
-/
import Derived.Test.Qxb6603792aSecond
import Derived.Test.Qxb6603792aDate
namespace Go.Proofs.Qxb6603792a
open Go.RowKit

theorem time_all (neg : Bool) (y mo d h mi s : Int) (w : World) (m0 : 0 ≤ mi) (m1 : mi ≤ 59) (s0 : 0 ≤ s) (s1 : s ≤ 59) (h0 : 0 ≤ h) :
    Calls Try.prog 6 #[.bool neg, .int .i64 y, .int .i64 mo, .int .i64 d, .int .i64 h, .int .i64 mi, .int .i64 s, .bool false] w
      fun e w' => e = .returned (.bool true) ∧ Grown w w' := by
  by_cases hf : 1073741824 < h
  · exact time_far neg y mo d h mi s w m0 m1 s0 s1 hf
  by_cases c1 : s < 59
  · exact time_walk neg y mo d h mi s h mi (s + 1) w m0 m1 s0 s1 h0 (by omega) (by omega) (by omega) (by omega)
      (zz_of neg false y mo d h mi s y mo d h mi (s + 1) fun w => add_sec neg y mo d h mi s false w s0 c1 m0 m1 (.inl rfl))
  obtain rfl : s = 59 := by omega
  by_cases c2 : mi < 59
  · exact time_walk neg y mo d h mi 59 h (mi + 1) 0 w m0 m1 s0 s1 h0 (by omega) (by omega) (by omega) (by omega)
      (zz_of neg false y mo d h mi 59 y mo d h (mi + 1) 0 fun w => add_min neg y mo d h mi false w m0 c2 (.inl rfl))
  obtain rfl : mi = 59 := by omega
  exact time_walk neg y mo d h 59 59 (h + 1) 0 0 w m0 m1 s0 s1 h0 (by omega) (by omega) (by omega) (by omega)
    (zz_of neg false y mo d h 59 59 y mo d (h + 1) 0 0 fun w => add_hour neg y mo d h false w h0 (by omega) (.inl rfl))

theorem date_all (neg : Bool) (y mo d h mi s : Int) (w : World) (m0 : 0 ≤ mi) (m1 : mi ≤ 59) (s0 : 0 ≤ s) (s1 : s ≤ 59) (h0 : 0 ≤ h) :
    Calls Try.prog 6 #[.bool neg, .int .i64 y, .int .i64 mo, .int .i64 d, .int .i64 h, .int .i64 mi, .int .i64 s, .bool true] w
      fun e w' => e = .returned (.bool true) ∧ Grown w w' := by
  by_cases ho : 23 < h ∨ y = 9223372036854775807 ∨ mo < 1 ∨ 12 < mo
  · exact date_out neg y mo d h mi s w m0 m1 s0 s1 h0 ho
  have hy : (y == 9223372036854775807) = false := by
    have : ¬ y = 9223372036854775807 := fun e => ho (.inr (.inl e))
    simpa using this
  have h1 : h ≤ 23 := by omega
  have o0 : 1 ≤ mo := by omega
  have o1 : mo ≤ 12 := by omega
  clear ho
  by_cases hd : d < 1 ∨ db (mo + 1) (leap y) - db mo (leap y) < d
  · exact date_day neg y mo d h mi s w m0 m1 s0 s1 h0 h1 hy o0 o1 hd
  have d0 : 1 ≤ d := by omega
  have d1 : d ≤ db (mo + 1) (leap y) - db mo (leap y) := by omega
  clear hd
  have bs := db_succ mo (leap y) o0 o1
  have bd := dim_bd (leap y) mo
  have d2 : d ≤ dim (leap y) mo := by omega
  by_cases c1 : s < 59
  · exact date_walk neg y mo d h mi s y mo d h mi (s + 1) w m0 m1 s0 s1 h0 h1 hy o0 o1 d0 d1
      (next_same (leap y) y _ mo d h mi s h mi (s + 1) o0 o1 d0 d2 (by omega) h0 h1 m0 m1 (by omega) (by omega))
      (zz_of neg true y mo d h mi s y mo d h mi (s + 1) fun w => add_sec neg y mo d h mi s true w s0 c1 m0 m1 (.inr (by omega)))
  obtain rfl : s = 59 := by omega
  by_cases c2 : mi < 59
  · exact date_walk neg y mo d h mi 59 y mo d h (mi + 1) 0 w m0 m1 s0 s1 h0 h1 hy o0 o1 d0 d1
      (next_same (leap y) y _ mo d h mi 59 h (mi + 1) 0 o0 o1 d0 d2 (by omega) h0 h1 (by omega) (by omega) (by omega) (by omega))
      (zz_of neg true y mo d h mi 59 y mo d h (mi + 1) 0 fun w => add_min neg y mo d h mi true w m0 c2 (.inr (by omega)))
  obtain rfl : mi = 59 := by omega
  by_cases c3 : h < 23
  · exact date_walk neg y mo d h 59 59 y mo d (h + 1) 0 0 w m0 m1 s0 s1 h0 h1 hy o0 o1 d0 d1
      (next_same (leap y) y _ mo d h 59 59 (h + 1) 0 0 o0 o1 d0 d2 (by omega) (by omega) (by omega) (by omega) (by omega) (by omega) (by omega))
      (zz_of neg true y mo d h 59 59 y mo d (h + 1) 0 0 fun w => add_hour neg y mo d h true w h0 (by omega) (.inr c3))
  obtain rfl : h = 23 := by omega
  by_cases c4 : d + 1 ≤ dim (leap y) mo
  · exact date_walk neg y mo d 23 59 59 y mo (d + 1) 0 0 0 w m0 m1 s0 s1 h0 h1 hy o0 o1 d0 d1
      (next_day (leap y) y _ mo d o0 o1 d0 c4)
      (zz_of neg true y mo d 23 59 59 y mo (d + 1) 0 0 0 fun w => add_day neg y mo d w d0 c4 o0 o1)
  by_cases c5 : mo < 12
  · exact date_walk neg y mo d 23 59 59 y (mo + 1) 1 0 0 0 w m0 m1 s0 s1 h0 h1 hy o0 o1 d0 d1
      (next_month (leap y) y _ mo d o0 c5 (by omega))
      (zz_of neg true y mo d 23 59 59 y (mo + 1) 1 0 0 0 fun w => add_month neg y mo d w d0 (by omega) (by omega) o0 c5)
  obtain rfl : mo = 12 := by omega
  exact date_walk neg y 12 d 23 59 59 (wrap64 (y + 1)) 1 1 0 0 0 w m0 m1 s0 s1 h0 h1 hy o0 o1 d0 d1
    (next_year (leap y) y _ d (by omega))
    (zz_of neg true y 12 d 23 59 59 (wrap64 (y + 1)) 1 1 0 0 0 fun w => add_year neg y d w d0 (by omega) (by omega))

theorem second_walk (neg : Bool) (y mo d h mi s : Int) (dt : Bool) (w : World) :
    Calls Try.prog 6 #[.bool neg, .int .i64 y, .int .i64 mo, .int .i64 d, .int .i64 h, .int .i64 mi, .int .i64 s, .bool dt] w
      fun e w' => e = .returned (.bool true) ∧ Grown w w' := by
  by_cases hb : mi < 0 ∨ 59 < mi ∨ s < 0 ∨ 59 < s ∨ h < 0
  · exact early neg dt y mo d h mi s w hb
  cases dt
  · exact time_all neg y mo d h mi s w (by omega) (by omega) (by omega) (by omega) (by omega)
  · exact date_all neg y mo d h mi s w (by omega) (by omega) (by omega) (by omega) (by omega)
end Go.Proofs.Qxb6603792a
