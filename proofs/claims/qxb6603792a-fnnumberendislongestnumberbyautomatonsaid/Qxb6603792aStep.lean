/-
  zzNumStep (function 9), state by state; zzNumAccepts (10).
-/
import Derived.Test.Qxb6603792aRows
import Derived.Test.Qxb6603792aAuto
import Derived.WalkKit
import Derived.WalkSpells
import Derived.Deep.CutRange
namespace Go.Proofs.Qxb6603792a
open Go.RowKit

theorem rint {k : IntKind} {a b : Int} (h : a = b) : Ending.returned (.int k a) = .returned (.int k b) := by rw [h]
theorem rbool {a b : Bool} (h : a = b) : Ending.returned (.bool a) = .returned (.bool b) := by rw [h]
theorem nat_ne {c : Nat} {n : Nat} (h : ((c : Int) == (n : Int)) = false) : ¬ c = n := by
  intro e; subst e; simp at h
theorem nat_eq {c : Nat} {n : Nat} (h : ((c : Int) == (n : Int)) = true) : c = n := by
  have := of_decide_eq_true h; omega
theorem dg_of (c : Nat) (h : 48 ≤ (c : Int)) : decide ((c : Int) ≤ 57) = dg c := by
  unfold dg; rw [decide_eq_decide]; omega
theorem dg46 : dg 46 = false := rfl
theorem dg_lo (c : Nat) (h : (c : Int) < 48) : false = dg c := by
  unfold dg; symm; simp; omega
theorem ex_first (c : Nat) (h : ((c : Int) == 101) = true) : true = exB c := by
  have := nat_eq (n := 101) h
  unfold exB; symm; simp; omega
theorem ex_second (c : Nat) (h : ((c : Int) == 101) = false) : ((c : Int) == 69) = exB c := by
  have := nat_ne (n := 101) h
  unfold exB; rw [Bool.eq_iff_iff]; simp; omega
theorem sg_first (c : Nat) (h : ((c : Int) == 43) = true) : sgB c = true := by
  have := nat_eq (n := 43) h
  unfold sgB; simp; omega
theorem sg_second (c : Nat) (h : ((c : Int) == 45) = true) : sgB c = true := by
  have := nat_eq (n := 45) h
  unfold sgB; simp; omega
theorem sg_none (c : Nat) (h : ((c : Int) == 43) = false) (h2 : ((c : Int) == 45) = false) : sgB c = false := by
  have := nat_ne (n := 43) h
  have := nat_ne (n := 45) h2
  unfold sgB; simp; omega

set_option maxHeartbeats 400000 in
theorem step_0 (c : Nat) (pa : Bool) (w : World) :
    Calls Try.prog 9 #[.int .i64 0, .int .u8 c, .bool pa] w fun e w' => e = .returned (.int .i64 (stepN 0 c pa)) ∧ w' = w := by
  go_enter Try.func9, Try.ntmps9
  go_upto_region 1 with fail
  go_cut [7] from 9 to 14 (fun t wx => t = .bool (dg c) ∧ wx = w)
  case first =>
    by_cases h1 : 48 ≤ (c : Int)
    · go_wp2
      go_meet
      case rel => exact ⟨congrArg Value.bool (dg_of c h1), rfl⟩
    · go_wp2
      go_meet
      case rel => exact ⟨congrArg Value.bool (dg_lo c h1), rfl⟩
  case rest =>
    obtain ⟨rfl, rfl⟩ := hcut
    go_upto_region 2 with fail
    go_cut [8] from 9 to 20 (fun t wx => t = .bool (exB c) ∧ wx = wc)
    case first =>
      cases h1 : ((c : Int) == 101)
      · go_wp2
        go_meet
        case rel => exact ⟨congrArg Value.bool (ex_second c h1), rfl⟩
      · go_wp2
        go_meet
        case rel => exact ⟨congrArg Value.bool (ex_first c h1), rfl⟩
    case rest =>
      obtain ⟨rfl, rfl⟩ := hcut
      cases hd : dg c
      · cases h46 : ((c : Int) == 46)
        · have hn := nat_ne (n := 46) h46
          go_wp2
          go_ret
          exact ⟨rint (by simp [stepN, hd, hn]), rfl⟩
        · have hn := nat_eq (n := 46) h46
          have HN : Hid (c = 46) := hn
          clear hn
          go_wp2
          go_ret
          exact ⟨rint (by simp [stepN, HN.out, dg46]), rfl⟩
      · go_wp2
        go_ret
        exact ⟨rint (by simp [stepN, hd]), rfl⟩

set_option maxHeartbeats 400000 in
theorem step_1 (c : Nat) (pa : Bool) (w : World) :
    Calls Try.prog 9 #[.int .i64 1, .int .u8 c, .bool pa] w fun e w' => e = .returned (.int .i64 (stepN 1 c pa)) ∧ w' = w := by
  go_enter Try.func9, Try.ntmps9
  go_upto_region 1 with fail
  go_cut [7] from 9 to 14 (fun t wx => t = .bool (dg c) ∧ wx = w)
  case first =>
    by_cases h1 : 48 ≤ (c : Int)
    · go_wp2
      go_meet
      case rel => exact ⟨congrArg Value.bool (dg_of c h1), rfl⟩
    · go_wp2
      go_meet
      case rel => exact ⟨congrArg Value.bool (dg_lo c h1), rfl⟩
  case rest =>
    obtain ⟨rfl, rfl⟩ := hcut
    go_upto_region 2 with fail
    go_cut [8] from 9 to 20 (fun t wx => t = .bool (exB c) ∧ wx = wc)
    case first =>
      cases h1 : ((c : Int) == 101)
      · go_wp2
        go_meet
        case rel => exact ⟨congrArg Value.bool (ex_second c h1), rfl⟩
      · go_wp2
        go_meet
        case rel => exact ⟨congrArg Value.bool (ex_first c h1), rfl⟩
    case rest =>
      obtain ⟨rfl, rfl⟩ := hcut
      cases hd : dg c
      · cases h46 : ((c : Int) == 46)
        · have hn := nat_ne (n := 46) h46
          cases he : exB c
          · go_wp2
            go_ret
            exact ⟨rint (by simp [stepN, hd, hn, he]), rfl⟩
          · go_wp2
            go_ret
            exact ⟨rint (by simp [stepN, hd, hn, he]), rfl⟩
        · have hn := nat_eq (n := 46) h46
          have HN : Hid (c = 46) := hn
          clear hn
          go_wp2
          go_ret
          exact ⟨rint (by simp [stepN, HN.out, dg46]), rfl⟩
      · go_wp2
        go_ret
        exact ⟨rint (by simp [stepN, hd]), rfl⟩

set_option maxHeartbeats 400000 in
theorem step_2 (c : Nat) (pa : Bool) (w : World) :
    Calls Try.prog 9 #[.int .i64 2, .int .u8 c, .bool pa] w fun e w' => e = .returned (.int .i64 (stepN 2 c pa)) ∧ w' = w := by
  go_enter Try.func9, Try.ntmps9
  go_upto_region 1 with fail
  go_cut [7] from 9 to 14 (fun t wx => t = .bool (dg c) ∧ wx = w)
  case first =>
    by_cases h1 : 48 ≤ (c : Int)
    · go_wp2
      go_meet
      case rel => exact ⟨congrArg Value.bool (dg_of c h1), rfl⟩
    · go_wp2
      go_meet
      case rel => exact ⟨congrArg Value.bool (dg_lo c h1), rfl⟩
  case rest =>
    obtain ⟨rfl, rfl⟩ := hcut
    go_upto_region 2 with fail
    go_cut [8] from 9 to 20 (fun t wx => t = .bool (exB c) ∧ wx = wc)
    case first =>
      cases h1 : ((c : Int) == 101)
      · go_wp2
        go_meet
        case rel => exact ⟨congrArg Value.bool (ex_second c h1), rfl⟩
      · go_wp2
        go_meet
        case rel => exact ⟨congrArg Value.bool (ex_first c h1), rfl⟩
    case rest =>
      obtain ⟨rfl, rfl⟩ := hcut
      cases hd : dg c
      · go_wp2
        go_ret
        exact ⟨rint (by simp [stepN, hd]), rfl⟩
      · go_wp2
        go_ret
        exact ⟨rint (by simp [stepN, hd]), rfl⟩

set_option maxHeartbeats 400000 in
theorem step_3 (c : Nat) (pa : Bool) (w : World) :
    Calls Try.prog 9 #[.int .i64 3, .int .u8 c, .bool pa] w fun e w' => e = .returned (.int .i64 (stepN 3 c pa)) ∧ w' = w := by
  go_enter Try.func9, Try.ntmps9
  go_upto_region 1 with fail
  go_cut [7] from 9 to 14 (fun t wx => t = .bool (dg c) ∧ wx = w)
  case first =>
    by_cases h1 : 48 ≤ (c : Int)
    · go_wp2
      go_meet
      case rel => exact ⟨congrArg Value.bool (dg_of c h1), rfl⟩
    · go_wp2
      go_meet
      case rel => exact ⟨congrArg Value.bool (dg_lo c h1), rfl⟩
  case rest =>
    obtain ⟨rfl, rfl⟩ := hcut
    go_upto_region 2 with fail
    go_cut [8] from 9 to 20 (fun t wx => t = .bool (exB c) ∧ wx = wc)
    case first =>
      cases h1 : ((c : Int) == 101)
      · go_wp2
        go_meet
        case rel => exact ⟨congrArg Value.bool (ex_second c h1), rfl⟩
      · go_wp2
        go_meet
        case rel => exact ⟨congrArg Value.bool (ex_first c h1), rfl⟩
    case rest =>
      obtain ⟨rfl, rfl⟩ := hcut
      cases hd : dg c
      · cases he : exB c
        · go_wp2
          go_ret
          exact ⟨rint (by simp [stepN, hd, he]), rfl⟩
        · cases pa
          · go_wp2
            go_ret
            exact ⟨rint (by simp [stepN, hd, he]), rfl⟩
          · go_wp2
            go_ret
            exact ⟨rint (by simp [stepN, hd, he]), rfl⟩
      · go_wp2
        go_ret
        exact ⟨rint (by simp [stepN, hd]), rfl⟩

set_option maxHeartbeats 400000 in
theorem step_5 (c : Nat) (pa : Bool) (w : World) :
    Calls Try.prog 9 #[.int .i64 5, .int .u8 c, .bool pa] w fun e w' => e = .returned (.int .i64 (stepN 5 c pa)) ∧ w' = w := by
  go_enter Try.func9, Try.ntmps9
  go_upto_region 1 with fail
  go_cut [7] from 9 to 14 (fun t wx => t = .bool (dg c) ∧ wx = w)
  case first =>
    by_cases h1 : 48 ≤ (c : Int)
    · go_wp2
      go_meet
      case rel => exact ⟨congrArg Value.bool (dg_of c h1), rfl⟩
    · go_wp2
      go_meet
      case rel => exact ⟨congrArg Value.bool (dg_lo c h1), rfl⟩
  case rest =>
    obtain ⟨rfl, rfl⟩ := hcut
    go_upto_region 2 with fail
    go_cut [8] from 9 to 20 (fun t wx => t = .bool (exB c) ∧ wx = wc)
    case first =>
      cases h1 : ((c : Int) == 101)
      · go_wp2
        go_meet
        case rel => exact ⟨congrArg Value.bool (ex_second c h1), rfl⟩
      · go_wp2
        go_meet
        case rel => exact ⟨congrArg Value.bool (ex_first c h1), rfl⟩
    case rest =>
      obtain ⟨rfl, rfl⟩ := hcut
      cases hd : dg c
      · cases h43 : ((c : Int) == 43)
        · cases h45 : ((c : Int) == 45)
          · go_wp2
            go_ret
            exact ⟨rint (by simp [stepN, hd, sg_none c h43 h45]), rfl⟩
          · go_wp2
            go_ret
            exact ⟨rint (by simp [stepN, hd, sg_second c h45]), rfl⟩
        · go_wp2
          go_ret
          exact ⟨rint (by simp [stepN, hd, sg_first c h43]), rfl⟩
      · go_wp2
        go_ret
        exact ⟨rint (by simp [stepN, hd]), rfl⟩

set_option maxHeartbeats 400000 in
theorem step_6 (c : Nat) (pa : Bool) (w : World) :
    Calls Try.prog 9 #[.int .i64 6, .int .u8 c, .bool pa] w fun e w' => e = .returned (.int .i64 (stepN 6 c pa)) ∧ w' = w := by
  go_enter Try.func9, Try.ntmps9
  go_upto_region 1 with fail
  go_cut [7] from 9 to 14 (fun t wx => t = .bool (dg c) ∧ wx = w)
  case first =>
    by_cases h1 : 48 ≤ (c : Int)
    · go_wp2
      go_meet
      case rel => exact ⟨congrArg Value.bool (dg_of c h1), rfl⟩
    · go_wp2
      go_meet
      case rel => exact ⟨congrArg Value.bool (dg_lo c h1), rfl⟩
  case rest =>
    obtain ⟨rfl, rfl⟩ := hcut
    go_upto_region 2 with fail
    go_cut [8] from 9 to 20 (fun t wx => t = .bool (exB c) ∧ wx = wc)
    case first =>
      cases h1 : ((c : Int) == 101)
      · go_wp2
        go_meet
        case rel => exact ⟨congrArg Value.bool (ex_second c h1), rfl⟩
      · go_wp2
        go_meet
        case rel => exact ⟨congrArg Value.bool (ex_first c h1), rfl⟩
    case rest =>
      obtain ⟨rfl, rfl⟩ := hcut
      cases hd : dg c
      · cases he : exB c
        · go_wp2
          go_ret
          exact ⟨rint (by simp [stepN, hd, he]), rfl⟩
        · go_wp2
          go_ret
          exact ⟨rint (by simp [stepN, hd, he]), rfl⟩
      · go_wp2
        go_ret
        exact ⟨rint (by simp [stepN, hd]), rfl⟩

set_option maxHeartbeats 400000 in
theorem step_7 (c : Nat) (pa : Bool) (w : World) :
    Calls Try.prog 9 #[.int .i64 7, .int .u8 c, .bool pa] w fun e w' => e = .returned (.int .i64 (stepN 7 c pa)) ∧ w' = w := by
  go_enter Try.func9, Try.ntmps9
  go_upto_region 1 with fail
  go_cut [7] from 9 to 14 (fun t wx => t = .bool (dg c) ∧ wx = w)
  case first =>
    by_cases h1 : 48 ≤ (c : Int)
    · go_wp2
      go_meet
      case rel => exact ⟨congrArg Value.bool (dg_of c h1), rfl⟩
    · go_wp2
      go_meet
      case rel => exact ⟨congrArg Value.bool (dg_lo c h1), rfl⟩
  case rest =>
    obtain ⟨rfl, rfl⟩ := hcut
    go_upto_region 2 with fail
    go_cut [8] from 9 to 20 (fun t wx => t = .bool (exB c) ∧ wx = wc)
    case first =>
      cases h1 : ((c : Int) == 101)
      · go_wp2
        go_meet
        case rel => exact ⟨congrArg Value.bool (ex_second c h1), rfl⟩
      · go_wp2
        go_meet
        case rel => exact ⟨congrArg Value.bool (ex_first c h1), rfl⟩
    case rest =>
      obtain ⟨rfl, rfl⟩ := hcut
      cases hd : dg c
      · go_wp2
        go_ret
        exact ⟨rint (by simp [stepN, hd]), rfl⟩
      · go_wp2
        go_ret
        exact ⟨rint (by simp [stepN, hd]), rfl⟩

set_option maxHeartbeats 400000 in
theorem step_8 (c : Nat) (pa : Bool) (w : World) :
    Calls Try.prog 9 #[.int .i64 8, .int .u8 c, .bool pa] w fun e w' => e = .returned (.int .i64 (stepN 8 c pa)) ∧ w' = w := by
  go_enter Try.func9, Try.ntmps9
  go_upto_region 1 with fail
  go_cut [7] from 9 to 14 (fun t wx => t = .bool (dg c) ∧ wx = w)
  case first =>
    by_cases h1 : 48 ≤ (c : Int)
    · go_wp2
      go_meet
      case rel => exact ⟨congrArg Value.bool (dg_of c h1), rfl⟩
    · go_wp2
      go_meet
      case rel => exact ⟨congrArg Value.bool (dg_lo c h1), rfl⟩
  case rest =>
    obtain ⟨rfl, rfl⟩ := hcut
    go_upto_region 2 with fail
    go_cut [8] from 9 to 20 (fun t wx => t = .bool (exB c) ∧ wx = wc)
    case first =>
      cases h1 : ((c : Int) == 101)
      · go_wp2
        go_meet
        case rel => exact ⟨congrArg Value.bool (ex_second c h1), rfl⟩
      · go_wp2
        go_meet
        case rel => exact ⟨congrArg Value.bool (ex_first c h1), rfl⟩
    case rest =>
      obtain ⟨rfl, rfl⟩ := hcut
      cases hd : dg c
      · go_wp2
        go_ret
        exact ⟨rint (by simp [stepN, hd]), rfl⟩
      · go_wp2
        go_ret
        exact ⟨rint (by simp [stepN, hd]), rfl⟩

/-- The states that the automaton comes to. -/
def okS (st : Int) : Prop := st = 0 ∨ st = 1 ∨ st = 2 ∨ st = 3 ∨ st = 5 ∨ st = 6 ∨ st = 7 ∨ st = 8

theorem step_any (st : Int) (c : Nat) (pa : Bool) (w : World) (h : okS st) :
    Calls Try.prog 9 #[.int .i64 st, .int .u8 c, .bool pa] w fun e w' => e = .returned (.int .i64 (stepN st c pa)) ∧ w' = w := by
  rcases h with rfl | rfl | rfl | rfl | rfl | rfl | rfl | rfl
  · exact step_0 c pa w
  · exact step_1 c pa w
  · exact step_2 c pa w
  · exact step_3 c pa w
  · exact step_5 c pa w
  · exact step_6 c pa w
  · exact step_7 c pa w
  · exact step_8 c pa w

theorem stepN_ok (st : Int) (c : Nat) (pa : Bool) : stepN st c pa = -1 ∨ okS (stepN st c pa) := by
  unfold stepN okS
  repeat' split
  all_goals simp

theorem acc_any (st : Int) (pa : Bool) (w : World) (h : st = -1 ∨ okS st) :
    Calls Try.prog 10 #[.int .i64 st, .bool pa] w fun e w' => e = .returned (.bool (accN st pa)) ∧ w' = w := by
  rcases h with rfl | rfl | rfl | rfl | rfl | rfl | rfl | rfl | rfl <;> cases pa
  all_goals (go_enter Try.func10, Try.ntmps10; go_wp2; go_ret; exact ⟨rfl, rfl⟩)
end Go.Proofs.Qxb6603792a
