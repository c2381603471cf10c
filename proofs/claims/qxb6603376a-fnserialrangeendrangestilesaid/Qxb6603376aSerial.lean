/-
  The walk of serialRangeEnd (function 17) and of its alias (function 9), over the seat's given translation.
-/
import Derived.Test.Qxb6603376aRows
import Derived.WalkKit
import Derived.WalkSpells
namespace Go.Proofs.Qxb6603376a
open Go.RowKit

set_option maxHeartbeats 400000 in
theorem sre_lo (n : Int) (w : World) (h : n ≤ 100000000000) :
    Calls Try.prog 17 #[.int .i64 n] w fun e w' => e = .returned (.int .i64 100000000001) ∧ Grown w w' := by
  go_enter Try.func17, Try.ntmps17
  go_wp2
  refine wp_loop_rounds 1 ?_
  repeat any_goals (rw [rounds_succ]; go_wp2)
  go_ret
  exact ⟨rfl, (Grown.refl _).alloc _ _⟩

set_option maxHeartbeats 400000 in
theorem sre_mid (n : Int) (w : World) (h : 100000000000 < n) (h2 : n ≤ 200000000000) :
    Calls Try.prog 17 #[.int .i64 n] w fun e w' => e = .returned (.int .i64 200000000001) ∧ Grown w w' := by
  go_enter Try.func17, Try.ntmps17
  go_wp2
  refine wp_loop_rounds 2 ?_
  repeat any_goals (rw [rounds_succ]; go_wp2)
  go_ret
  exact ⟨rfl, (Grown.refl _).alloc _ _⟩

set_option maxHeartbeats 400000 in
theorem sre_hi (n : Int) (w : World) (h : 200000000000 < n) :
    Calls Try.prog 17 #[.int .i64 n] w fun e w' => e = .returned (.int .i64 1000000000000) ∧ Grown w w' := by
  go_enter Try.func17, Try.ntmps17
  go_wp2
  refine wp_loop_rounds 3 ?_
  repeat any_goals (rw [rounds_succ]; go_wp2)
  go_ret
  exact ⟨rfl, (Grown.refl _).alloc _ _⟩

theorem zsre_lo (n : Int) (w : World) (h : n ≤ 100000000000) :
    Calls Try.prog 9 #[.int .i64 n] w fun e w' => e = .returned (.int .i64 100000000001) ∧ Grown w w' := by
  go_enter Try.func9, Try.ntmps9
  go_wp2_with fail
  refine (sre_lo _ _ h).mono ?_
  rintro e w' ⟨rfl, hg⟩
  go_wp2
  go_ret
  exact ⟨rfl, hg⟩

theorem zsre_mid (n : Int) (w : World) (h : 100000000000 < n) (h2 : n ≤ 200000000000) :
    Calls Try.prog 9 #[.int .i64 n] w fun e w' => e = .returned (.int .i64 200000000001) ∧ Grown w w' := by
  go_enter Try.func9, Try.ntmps9
  go_wp2_with fail
  refine (sre_mid _ _ h h2).mono ?_
  rintro e w' ⟨rfl, hg⟩
  go_wp2
  go_ret
  exact ⟨rfl, hg⟩

theorem zsre_hi (n : Int) (w : World) (h : 200000000000 < n) :
    Calls Try.prog 9 #[.int .i64 n] w fun e w' => e = .returned (.int .i64 1000000000000) ∧ Grown w w' := by
  go_enter Try.func9, Try.ntmps9
  go_wp2_with fail
  refine (sre_hi _ _ h).mono ?_
  rintro e w' ⟨rfl, hg⟩
  go_wp2
  go_ret
  exact ⟨rfl, hg⟩

theorem grown_trans {a b c : World} (h : Grown a b) (k : Grown b c) : Grown a c :=
  ⟨World.keptBut_trans h.1 k.1, fun x => (k.2.1 x).trans (h.2.1 x), Nat.le_trans h.2.2 k.2.2⟩
end Go.Proofs.Qxb6603376a
