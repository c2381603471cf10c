/-
  (moment).addSecond (function 18), ZZAddSecond (16).
-/
import Derived.Test.Qxb6603792aRows
import Derived.Test.Qxb6603792aClock
import Derived.WalkKit
import Derived.WalkSpells
import Derived.Deep.QuietTactic
import Derived.BigQuiet
namespace Go.Proofs.Qxb6603792a
open Go.RowKit

theorem alloc_drewN (w : World) (o : Obj) (n : Nat) : (w.alloc o).drewN n = (w.drewN n).alloc o := rfl
theorem grown_drewN {a b : World} (h : Grown a b) (n : Nat) : Grown a (b.drewN n) := by
  induction n with
  | zero => exact h
  | succ n ih => exact ih.drew
theorem grown_trans {a b c : World} (h : Grown a b) (k : Grown b c) : Grown a c :=
  ⟨World.keptBut_trans h.1 k.1, fun x => (k.2.1 x).trans (h.2.1 x), Nat.le_trans h.2.2 k.2.2⟩

set_option maxHeartbeats 400000 in
theorem add_sec (neg : Bool) (y mo d h mi s : Int) (dt : Bool) (w : World) (s0 : 0 ≤ s) (s1 : s < 59) (m0 : 0 ≤ mi) (m1 : mi ≤ 59) (hh : dt = false ∨ h < 24) :
    Calls Try.prog 18 #[.agg #[.bool neg, .int .i64 y, .int .i64 mo, .int .i64 d, .int .i64 h, .int .i64 mi, .int .i64 s], .bool dt] w
      fun e w' => e = .returned (.agg #[.bool neg, .int .i64 y, .int .i64 mo, .int .i64 d, .int .i64 h, .int .i64 mi, .int .i64 (s + 1)]) ∧ Grown w w' := by
  rcases hh with rfl | hh
  · go_enter Try.func18, Try.ntmps18
    go_wp2
    refine bodyPost_ret (v := .agg #[.bool neg, .int .i64 y, .int .i64 mo, .int .i64 d, .int .i64 h, .int .i64 mi, .int .i64 (s + 1)]) (by simp [results, Try.results18, go_sem]) rfl ⟨rfl, ?_⟩
    exact ((Grown.refl _).alloc _ _).alloc _ _
  · cases dt
    · go_enter Try.func18, Try.ntmps18
      go_wp2
      refine bodyPost_ret (v := .agg #[.bool neg, .int .i64 y, .int .i64 mo, .int .i64 d, .int .i64 h, .int .i64 mi, .int .i64 (s + 1)]) (by simp [results, Try.results18, go_sem]) rfl ⟨rfl, ?_⟩
      exact ((Grown.refl _).alloc _ _).alloc _ _
    · go_enter Try.func18, Try.ntmps18
      go_wp2
      refine bodyPost_ret (v := .agg #[.bool neg, .int .i64 y, .int .i64 mo, .int .i64 d, .int .i64 h, .int .i64 mi, .int .i64 (s + 1)]) (by simp [results, Try.results18, go_sem]) rfl ⟨rfl, ?_⟩
      exact ((Grown.refl _).alloc _ _).alloc _ _

set_option maxHeartbeats 400000 in
theorem add_min (neg : Bool) (y mo d h mi : Int) (dt : Bool) (w : World) (m0 : 0 ≤ mi) (m1 : mi < 59) (hh : dt = false ∨ h < 24) :
    Calls Try.prog 18 #[.agg #[.bool neg, .int .i64 y, .int .i64 mo, .int .i64 d, .int .i64 h, .int .i64 mi, .int .i64 59], .bool dt] w
      fun e w' => e = .returned (.agg #[.bool neg, .int .i64 y, .int .i64 mo, .int .i64 d, .int .i64 h, .int .i64 (mi + 1), .int .i64 0]) ∧ Grown w w' := by
  rcases hh with rfl | hh
  · go_enter Try.func18, Try.ntmps18
    go_wp2
    refine bodyPost_ret (v := .agg #[.bool neg, .int .i64 y, .int .i64 mo, .int .i64 d, .int .i64 h, .int .i64 (mi + 1), .int .i64 0]) (by simp [results, Try.results18, go_sem]) rfl ⟨rfl, ?_⟩
    exact ((Grown.refl _).alloc _ _).alloc _ _
  · cases dt
    · go_enter Try.func18, Try.ntmps18
      go_wp2
      refine bodyPost_ret (v := .agg #[.bool neg, .int .i64 y, .int .i64 mo, .int .i64 d, .int .i64 h, .int .i64 (mi + 1), .int .i64 0]) (by simp [results, Try.results18, go_sem]) rfl ⟨rfl, ?_⟩
      exact ((Grown.refl _).alloc _ _).alloc _ _
    · go_enter Try.func18, Try.ntmps18
      go_wp2
      refine bodyPost_ret (v := .agg #[.bool neg, .int .i64 y, .int .i64 mo, .int .i64 d, .int .i64 h, .int .i64 (mi + 1), .int .i64 0]) (by simp [results, Try.results18, go_sem]) rfl ⟨rfl, ?_⟩
      exact ((Grown.refl _).alloc _ _).alloc _ _

set_option maxHeartbeats 400000 in
theorem add_hour (neg : Bool) (y mo d h : Int) (dt : Bool) (w : World) (h0 : 0 ≤ h) (h1 : h ≤ 1073741824) (hh : dt = false ∨ h < 23) :
    Calls Try.prog 18 #[.agg #[.bool neg, .int .i64 y, .int .i64 mo, .int .i64 d, .int .i64 h, .int .i64 59, .int .i64 59], .bool dt] w
      fun e w' => e = .returned (.agg #[.bool neg, .int .i64 y, .int .i64 mo, .int .i64 d, .int .i64 (h + 1), .int .i64 0, .int .i64 0]) ∧ Grown w w' := by
  rcases hh with rfl | hh
  · go_enter Try.func18, Try.ntmps18
    go_wp2
    refine bodyPost_ret (v := .agg #[.bool neg, .int .i64 y, .int .i64 mo, .int .i64 d, .int .i64 (h + 1), .int .i64 0, .int .i64 0]) (by simp [results, Try.results18, go_sem]) rfl ⟨rfl, ?_⟩
    exact ((Grown.refl _).alloc _ _).alloc _ _
  · cases dt
    · go_enter Try.func18, Try.ntmps18
      go_wp2
      refine bodyPost_ret (v := .agg #[.bool neg, .int .i64 y, .int .i64 mo, .int .i64 d, .int .i64 (h + 1), .int .i64 0, .int .i64 0]) (by simp [results, Try.results18, go_sem]) rfl ⟨rfl, ?_⟩
      exact ((Grown.refl _).alloc _ _).alloc _ _
    · go_enter Try.func18, Try.ntmps18
      go_wp2
      refine bodyPost_ret (v := .agg #[.bool neg, .int .i64 y, .int .i64 mo, .int .i64 d, .int .i64 (h + 1), .int .i64 0, .int .i64 0]) (by simp [results, Try.results18, go_sem]) rfl ⟨rfl, ?_⟩
      exact ((Grown.refl _).alloc _ _).alloc _ _

set_option maxHeartbeats 400000 in
theorem add_day (neg : Bool) (y mo d : Int) (w : World) (d0 : 1 ≤ d) (d1 : d + 1 ≤ dim (leap y) mo) (m0 : 1 ≤ mo) (m1 : mo ≤ 12) :
    Calls Try.prog 18 #[.agg #[.bool neg, .int .i64 y, .int .i64 mo, .int .i64 d, .int .i64 23, .int .i64 59, .int .i64 59], .bool true] w
      fun e w' => e = .returned (.agg #[.bool neg, .int .i64 y, .int .i64 mo, .int .i64 (d + 1), .int .i64 0, .int .i64 0, .int .i64 0]) ∧ Grown w w' := by
  have d2 : d ≤ 30 := by have := (dim_bd (leap y) mo).2; omega
  go_enter Try.func18, Try.ntmps18
  go_wp2_with fail
  go_quiet ((go_at_call 21; exact Calls.quiet_of_same (dim_any _ _ _)))
  rw [alloc_drewN, alloc_drewN]
  have hz : w.heap.size = (w.drewN nq).heap.size := rfl
  rw [hz]
  clear hz
  have hg : Hid (Grown w (w.drewN nq)) := grown_drewN (Grown.refl _) _
  generalize w.drewN nq = v at hg ⊢
  go_wp2
  refine bodyPost_ret (v := .agg #[.bool neg, .int .i64 y, .int .i64 mo, .int .i64 (d + 1), .int .i64 0, .int .i64 0, .int .i64 0]) (by simp [results, Try.results18, go_sem]) rfl ⟨rfl, ?_⟩
  exact (hg.out.alloc _ _).alloc _ _

set_option maxHeartbeats 400000 in
theorem add_month (neg : Bool) (y mo d : Int) (w : World) (d0 : 1 ≤ d) (d1 : dim (leap y) mo < d + 1) (d2 : d ≤ 31) (m0 : 1 ≤ mo) (m1 : mo < 12) :
    Calls Try.prog 18 #[.agg #[.bool neg, .int .i64 y, .int .i64 mo, .int .i64 d, .int .i64 23, .int .i64 59, .int .i64 59], .bool true] w
      fun e w' => e = .returned (.agg #[.bool neg, .int .i64 y, .int .i64 (mo + 1), .int .i64 1, .int .i64 0, .int .i64 0, .int .i64 0]) ∧ Grown w w' := by
  go_enter Try.func18, Try.ntmps18
  go_wp2_with fail
  go_quiet ((go_at_call 21; exact Calls.quiet_of_same (dim_any _ _ _)))
  rw [alloc_drewN, alloc_drewN]
  have hz : w.heap.size = (w.drewN nq).heap.size := rfl
  rw [hz]
  clear hz
  have hg : Hid (Grown w (w.drewN nq)) := grown_drewN (Grown.refl _) _
  generalize w.drewN nq = v at hg ⊢
  go_wp2
  refine bodyPost_ret (v := .agg #[.bool neg, .int .i64 y, .int .i64 (mo + 1), .int .i64 1, .int .i64 0, .int .i64 0, .int .i64 0]) (by simp [results, Try.results18, go_sem]) rfl ⟨rfl, ?_⟩
  exact (hg.out.alloc _ _).alloc _ _

set_option maxHeartbeats 400000 in
theorem add_year (neg : Bool) (y d : Int) (w : World) (d0 : 1 ≤ d) (d1 : dim (leap y) 12 < d + 1) (d2 : d ≤ 31) :
    Calls Try.prog 18 #[.agg #[.bool neg, .int .i64 y, .int .i64 12, .int .i64 d, .int .i64 23, .int .i64 59, .int .i64 59], .bool true] w
      fun e w' => e = .returned (.agg #[.bool neg, .int .i64 (wrap64 (y + 1)), .int .i64 1, .int .i64 1, .int .i64 0, .int .i64 0, .int .i64 0]) ∧ Grown w w' := by
  go_enter Try.func18, Try.ntmps18
  go_wp2_with fail
  go_quiet ((go_at_call 21; exact Calls.quiet_of_same (dim_any _ _ _)))
  rw [alloc_drewN, alloc_drewN]
  have hz : w.heap.size = (w.drewN nq).heap.size := rfl
  rw [hz]
  clear hz
  have hg : Hid (Grown w (w.drewN nq)) := grown_drewN (Grown.refl _) _
  generalize w.drewN nq = v at hg ⊢
  go_wp2
  refine bodyPost_ret (v := .agg #[.bool neg, .int .i64 (wrap64 (y + 1)), .int .i64 1, .int .i64 1, .int .i64 0, .int .i64 0, .int .i64 0]) (by simp [results, Try.results18, go_sem]) rfl ⟨rfl, ?_⟩
  exact (hg.out.alloc _ _).alloc _ _

set_option maxHeartbeats 400000 in
theorem zz_of (neg dt : Bool) (y mo d h mi s ny nmo nd nh nmi ns : Int)
    (c : ∀ w, Calls Try.prog 18 #[.agg #[.bool neg, .int .i64 y, .int .i64 mo, .int .i64 d, .int .i64 h, .int .i64 mi, .int .i64 s], .bool dt] w fun e w' => e = .returned (.agg #[.bool neg, .int .i64 ny, .int .i64 nmo, .int .i64 nd, .int .i64 nh, .int .i64 nmi, .int .i64 ns]) ∧ Grown w w') (w : World) :
    Calls Try.prog 16 #[.bool neg, .int .i64 y, .int .i64 mo, .int .i64 d, .int .i64 h, .int .i64 mi, .int .i64 s, .bool dt] w
      fun e w' => e = .returned (.tuple #[.bool neg, .int .i64 ny, .int .i64 nmo, .int .i64 nd, .int .i64 nh, .int .i64 nmi, .int .i64 ns]) ∧ Grown w w' := by
  have C : Hid (∀ w, Calls Try.prog 18 _ w _) := c
  clear c
  go_enter Try.func16, Try.ntmps16
  go_wp2_with fail
  refine (C.out _).mono ?_
  rintro e w' ⟨rfl, hg⟩
  go_wp2_with fail
  go_quiet (fail)
  go_wp2
  refine bodyPost_ret (v := .tuple #[.bool neg, .int .i64 ny, .int .i64 nmo, .int .i64 nd, .int .i64 nh, .int .i64 nmi, .int .i64 ns]) (by simp [results, Try.results16, go_sem]) rfl ⟨rfl, ?_⟩
  exact grown_drewN ((grown_trans ((Grown.refl _).alloc _ _) hg).alloc _ _) _
end Go.Proofs.Qxb6603792a
