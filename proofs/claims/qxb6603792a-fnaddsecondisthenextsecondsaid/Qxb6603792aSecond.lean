/-
  The walk of the law FnAddSecondIsTheNextSecond (function 6).
-/
import Derived.Test.Qxb6603792aRows
import Derived.Test.Qxb6603792aAdd
import Derived.WalkKit
import Derived.WalkSpells
namespace Go.Proofs.Qxb6603792a
open Go.RowKit

/-! ### The ways that answer at once -/
set_option maxRecDepth 100000 in
set_option maxHeartbeats 400000 in
theorem early (neg dt : Bool) (y mo d h mi s : Int) (w : World) (hb : mi < 0 ∨ 59 < mi ∨ s < 0 ∨ 59 < s ∨ h < 0) :
    Calls Try.prog 6 #[.bool neg, .int .i64 y, .int .i64 mo, .int .i64 d, .int .i64 h, .int .i64 mi, .int .i64 s, .bool dt] w
      fun e w' => e = .returned (.bool true) ∧ Grown w w' := by
  by_cases h1 : mi < 0
  · go_enter Try.func6, Try.ntmps6
    go_wp2
    go_ret
    exact ⟨rfl, Grown.refl _⟩
  by_cases h2 : 59 < mi
  · go_enter Try.func6, Try.ntmps6
    go_wp2
    go_ret
    exact ⟨rfl, Grown.refl _⟩
  by_cases h3 : s < 0
  · go_enter Try.func6, Try.ntmps6
    go_wp2
    go_ret
    exact ⟨rfl, Grown.refl _⟩
  by_cases h4 : 59 < s
  · go_enter Try.func6, Try.ntmps6
    go_wp2
    go_ret
    exact ⟨rfl, Grown.refl _⟩
  have h5 : h < 0 := by omega
  clear hb
  go_enter Try.func6, Try.ntmps6
  go_wp2
  go_ret
  exact ⟨rfl, Grown.refl _⟩

/-! ### A TIME -/
set_option maxRecDepth 100000 in
set_option maxHeartbeats 400000 in
theorem time_far (neg : Bool) (y mo d h mi s : Int) (w : World) (m0 : 0 ≤ mi) (m1 : mi ≤ 59) (s0 : 0 ≤ s) (s1 : s ≤ 59) (h0 : 1073741824 < h) :
    Calls Try.prog 6 #[.bool neg, .int .i64 y, .int .i64 mo, .int .i64 d, .int .i64 h, .int .i64 mi, .int .i64 s, .bool false] w
      fun e w' => e = .returned (.bool true) ∧ Grown w w' := by
  go_enter Try.func6, Try.ntmps6
  go_wp2
  go_ret
  exact ⟨rfl, Grown.refl _⟩

set_option maxRecDepth 100000 in
set_option maxHeartbeats 400000 in
theorem time_walk (neg : Bool) (y mo d h mi s nh nmi ns : Int) (w : World) (m0 : 0 ≤ mi) (m1 : mi ≤ 59) (s0 : 0 ≤ s) (s1 : s ≤ 59) (h0 : 0 ≤ h) (h1 : h ≤ 1073741824)
    (e1 : (h * 3600 + mi * 60 + s + 1) % 60 = ns) (e2 : (h * 3600 + mi * 60 + s + 1) / 60 % 60 = nmi) (e3 : (h * 3600 + mi * 60 + s + 1) / 3600 = nh)
    (c : ∀ w, Calls Try.prog 16 #[.bool neg, .int .i64 y, .int .i64 mo, .int .i64 d, .int .i64 h, .int .i64 mi, .int .i64 s, .bool false] w
      fun e w' => e = .returned (.tuple #[.bool neg, .int .i64 y, .int .i64 mo, .int .i64 d, .int .i64 nh, .int .i64 nmi, .int .i64 ns]) ∧ Grown w w') :
    Calls Try.prog 6 #[.bool neg, .int .i64 y, .int .i64 mo, .int .i64 d, .int .i64 h, .int .i64 mi, .int .i64 s, .bool false] w
      fun e w' => e = .returned (.bool true) ∧ Grown w w' := by
  have C : Hid (∀ w, Calls Try.prog 16 _ w _) := c
  clear c
  go_enter Try.func6, Try.ntmps6
  go_wp2_with fail
  refine (C.out _).mono ?_
  rintro e w' ⟨rfl, hg⟩
  go_wp2_with fail
  go_ret
  exact ⟨rfl, hg⟩

/-! ### A datetime -/
set_option maxRecDepth 100000 in
set_option maxHeartbeats 400000 in
theorem date_out (neg : Bool) (y mo d h mi s : Int) (w : World) (m0 : 0 ≤ mi) (m1 : mi ≤ 59) (s0 : 0 ≤ s) (s1 : s ≤ 59) (h0 : 0 ≤ h) (hb : 23 < h ∨ y = 9223372036854775807 ∨ mo < 1 ∨ 12 < mo) :
    Calls Try.prog 6 #[.bool neg, .int .i64 y, .int .i64 mo, .int .i64 d, .int .i64 h, .int .i64 mi, .int .i64 s, .bool true] w
      fun e w' => e = .returned (.bool true) ∧ Grown w w' := by
  by_cases h1 : 23 < h
  · go_enter Try.func6, Try.ntmps6
    go_wp2
    go_ret
    exact ⟨rfl, Grown.refl _⟩
  cases h2 : (y == 9223372036854775807)
  · have h2' : ¬ y = 9223372036854775807 := by simpa using h2
    by_cases h3 : mo < 1
    · clear h2' hb
      go_enter Try.func6, Try.ntmps6
      go_wp2
      go_ret
      exact ⟨rfl, Grown.refl _⟩
    · have h4 : 12 < mo := by omega
      clear h2' hb
      go_enter Try.func6, Try.ntmps6
      go_wp2
      go_ret
      exact ⟨rfl, Grown.refl _⟩
  · clear hb
    go_enter Try.func6, Try.ntmps6
    go_wp2
    go_ret
    exact ⟨rfl, Grown.refl _⟩

end Go.Proofs.Qxb6603792a
