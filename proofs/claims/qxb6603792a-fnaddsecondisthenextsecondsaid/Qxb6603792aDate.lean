/-
  The walk of the law FnAddSecondIsTheNextSecond (function 6) at a datetime.
-/
import Derived.Test.Qxb6603792aRows
import Derived.Test.Qxb6603792aAdd
import Derived.WalkKit
import Derived.WalkSpells
import Derived.Deep.CutRange
namespace Go.Proofs.Qxb6603792a
open Go.RowKit

set_option maxRecDepth 100000 in
set_option maxHeartbeats 400000 in
theorem date_day (neg : Bool) (y mo d h mi s : Int) (w : World) (m0 : 0 ≤ mi) (m1 : mi ≤ 59) (s0 : 0 ≤ s) (s1 : s ≤ 59) (h0 : 0 ≤ h) (h1 : h ≤ 23) (hy : (y == 9223372036854775807) = false) (o0 : 1 ≤ mo) (o1 : mo ≤ 12)
    (hd : d < 1 ∨ db (mo + 1) (leap y) - db mo (leap y) < d) :
    Calls Try.prog 6 #[.bool neg, .int .i64 y, .int .i64 mo, .int .i64 d, .int .i64 h, .int .i64 mi, .int .i64 s, .bool true] w
      fun e w' => e = .returned (.bool true) ∧ Grown w w' := by
  by_cases h2 : d < 1
  · clear hd
    go_enter Try.func6, Try.ntmps6
    go_wp2_with (go_at_call 14; refine (leap_any _ _).mono ?_; rintro e w' ⟨rfl, rfl⟩)
    go_ret
    exact ⟨rfl, Grown.refl _⟩
  · have h3 : db (mo + 1) (leap y) - db mo (leap y) < d := by omega
    have b1 := db_bd (mo + 1) (leap y)
    have b2 := db_bd mo (leap y)
    clear hd
    go_enter Try.func6, Try.ntmps6
    go_wp2_with (go_at_call 14; refine (leap_any _ _).mono ?_; rintro e w' ⟨rfl, rfl⟩)
    refine (db_any _ _ _ (by omega) (by omega)).mono ?_
    rintro e w' ⟨rfl, rfl⟩
    go_wp2_with fail
    refine (db_any _ _ _ (by omega) (by omega)).mono ?_
    rintro e w' ⟨rfl, rfl⟩
    go_wp2_with fail
    go_ret
    exact ⟨rfl, Grown.refl _⟩

/-- The next second, by the count that the year's turn has set back. -/
theorem next_count {lp : Bool} {y y' t ny nmo nd nh nmi ns : Int} (n : Next lp y y' t ny nmo nd nh nmi ns) (t0 : 0 ≤ t) (t1 : t ≤ 31622400) :
    ∃ T D : Int, ((t == db 13 lp * 86400) = true ∧ T = 0 ∧ ny = y' ∨ (t == db 13 lp * 86400) = false ∧ T = t ∧ ny = y) ∧ 0 ≤ T ∧ T ≤ 31622400 ∧
      T % 60 = ns ∧ T / 60 % 60 = nmi ∧ T / 3600 % 24 = nh ∧ T / 86400 = D ∧ 0 ≤ D ∧ D ≤ 366 ∧ db nmo lp ≤ D ∧ (nmo = 12 ∨ D < db (nmo + 1) lp) ∧ D - db nmo lp + 1 = nd := by
  rcases n.how with ⟨e, rfl, rfl, rfl, rfl, rfl, rfl⟩ | ⟨e, rfl, rfl, rfl, rfl, e1, e2, rfl⟩
  · have b1 := db_one lp
    have b2 := db_succ 1 lp (by omega) (by omega)
    have b3 := dim_bd lp 1
    exact ⟨0, 0, .inl ⟨by simpa using e, rfl, rfl⟩, by omega, by omega, rfl, rfl, rfl, rfl, by omega, by omega, by omega, .inr (by omega), by omega⟩
  · exact ⟨t, t / 86400, .inr ⟨by simpa using e, rfl, rfl⟩, t0, t1, rfl, rfl, rfl, rfl, by omega, by omega, e1, e2, rfl⟩

set_option maxRecDepth 100000 in
set_option maxHeartbeats 400000 in
theorem date_walk (neg : Bool) (y mo d h mi s ny nmo nd nh nmi ns : Int) (w : World) (m0 : 0 ≤ mi) (m1 : mi ≤ 59) (s0 : 0 ≤ s) (s1 : s ≤ 59) (h0 : 0 ≤ h) (h1 : h ≤ 23) (hy : (y == 9223372036854775807) = false) (o0 : 1 ≤ mo) (o1 : mo ≤ 12)
    (d0 : 1 ≤ d) (d1 : d ≤ db (mo + 1) (leap y) - db mo (leap y))
    (n : Next (leap y) y (wrap64 (y + 1)) (count (leap y) mo d h mi s) ny nmo nd nh nmi ns)
    (c : ∀ w, Calls Try.prog 16 #[.bool neg, .int .i64 y, .int .i64 mo, .int .i64 d, .int .i64 h, .int .i64 mi, .int .i64 s, .bool true] w
      fun e w' => e = .returned (.tuple #[.bool neg, .int .i64 ny, .int .i64 nmo, .int .i64 nd, .int .i64 nh, .int .i64 nmi, .int .i64 ns]) ∧ Grown w w') :
    Calls Try.prog 6 #[.bool neg, .int .i64 y, .int .i64 mo, .int .i64 d, .int .i64 h, .int .i64 mi, .int .i64 s, .bool true] w
      fun e w' => e = .returned (.bool true) ∧ Grown w w' := by
  have C : Hid (∀ w, Calls Try.prog 16 _ w _) := c
  clear c
  have q0 := n.lo
  have q1 := n.hi
  have bm := db_bd mo (leap y)
  have b13 := db_bd 13 (leap y)
  have b1 := db_bd (mo + 1) (leap y)
  have bs := db_succ mo (leap y) o0 o1
  have bd := dim_bd (leap y) mo
  have dd : d ≤ 31 := by omega
  have NC := next_count n (by unfold count; omega) (by unfold count; have := (db_last mo (leap y) o0 o1).1; omega)
  unfold count at NC
  clear n bs bd
  obtain ⟨T, D, ht, T0, T1, e1, e2, e3, e4, D0, D1, x1, x2, e5⟩ := NC
  have E1 : Hid (T % 60 = ns) := e1
  have E2 : Hid (T / 60 % 60 = nmi) := e2
  have E3 : Hid (T / 3600 % 24 = nh) := e3
  have E4 : Hid (T / 86400 = D) := e4
  have E5 : Hid (D - db nmo (leap y) + 1 = nd) := e5
  have HT : Hid _ := ht
  clear e1 e2 e3 e4 e5 ht
  go_enter Try.func6, Try.ntmps6
  go_wp2_with (go_at_call 14; refine (leap_any _ _).mono ?_; rintro e w' ⟨rfl, rfl⟩)
  refine (db_any _ _ _ (by omega) (by omega)).mono ?_
  rintro e w' ⟨rfl, rfl⟩
  go_wp2_with fail
  refine (db_any _ _ _ (by omega) (by omega)).mono ?_
  rintro e w' ⟨rfl, rfl⟩
  go_wp2_with fail
  refine (db_any _ _ _ (by omega) (by omega)).mono ?_
  rintro e w' ⟨rfl, rfl⟩
  go_wp2_with fail
  refine (db_any _ _ _ (by omega) (by omega)).mono ?_
  rintro e w' ⟨rfl, rfl⟩
  go_upto_if 106 with fail
  go_cut [17, 24] from 34 to 108 (fun u t wx => u = .int .i64 ny ∧ t = .int .i64 T ∧ wx = w')
  case first =>
    rcases HT.out with ⟨ha, hb, hc⟩ | ⟨ha, hb, hc⟩
    · clear HT x1 x2 bm b13 b1 d1
      go_wp2
      go_meet
      case rel => exact ⟨by rw [hc], by rw [hb], rfl⟩
    · clear HT x1 x2 bm b13 b1 d1
      go_wp2
      go_meet
      case rel => exact ⟨by rw [hc], by rw [hb], rfl⟩
  case rest =>
    obtain ⟨rfl, rfl, rfl⟩ := hcut
    clear HT bm b13 b1 d1
    go_wp2_with fail
    rw [E1.out, E2.out, E3.out, E4.out]
    clear E1 E2 E3 E4 T0 T1
    go_loop [18] (fun t => ∃ m : Int, t = .int .i64 m ∧ 1 ≤ m ∧ m ≤ nmo) (fun t => (12 - intOf t).toNat)
    case atStart => exact ⟨1, rfl, by omega, q0⟩
    case round =>
      obtain ⟨m, rfl, k0, k1⟩ := hrel
      by_cases hm : m < nmo
      · have hle := db_mono (m + 1) nmo (leap y) (by omega) (by omega) (by omega)
        have hD : db (m + 1) (leap y) ≤ D := by omega
        clear hle x1 x2
        go_wp2_with fail
        refine (db_any _ _ _ (by omega) (by omega)).mono ?_
        rintro e w' ⟨rfl, rfl⟩
        go_wp2_with fail
        go_round
        case rel => exact ⟨m + 1, rfl, by omega, by omega⟩
        case measure => simp [intOf]; omega
      · obtain rfl : m = nmo := by omega
        have bn := db_bd m (leap y)
        by_cases hl : m < 12
        · have hD : D < db (m + 1) (leap y) := by omega
          clear hm x2
          go_wp2_with fail
          refine (db_any _ _ _ (by omega) (by omega)).mono ?_
          rintro e w' ⟨rfl, rfl⟩
          go_wp2_with fail
          refine (db_any _ _ _ (by omega) (by omega)).mono ?_
          rintro e w' ⟨rfl, rfl⟩
          go_wp2_with fail
          rw [E5.out]
          refine (C.out _).mono ?_
          rintro e w' ⟨rfl, hg⟩
          go_wp2_with fail
          go_ret
          exact ⟨rfl, hg⟩
        · clear hm x2
          go_wp2_with fail
          refine (db_any _ _ _ (by omega) (by omega)).mono ?_
          rintro e w' ⟨rfl, rfl⟩
          go_wp2_with fail
          rw [E5.out]
          refine (C.out _).mono ?_
          rintro e w' ⟨rfl, hg⟩
          go_wp2_with fail
          go_ret
          exact ⟨rfl, hg⟩
end Go.Proofs.Qxb6603792a
