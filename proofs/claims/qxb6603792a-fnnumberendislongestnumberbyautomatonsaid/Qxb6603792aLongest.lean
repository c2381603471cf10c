/-
  The length bound (function 8) and the walk of the law FnNumberEndIsLongestNumberByAutomaton (3).
-/
import Derived.Test.Qxb6603792aRows
import Derived.Test.Qxb6603792aNumber
import Derived.Test.Qxb6603792aStep
import Derived.WalkKit
import Derived.WalkSpells
namespace Go.Proofs.Qxb6603792a
open Go.RowKit

theorem bytes8_yes (s : ByteArray) (v u : Value) (w : World) (h : s.size ≤ 1048576) :
    Calls Try.prog 8 #[.string s, v, u] w fun e w' => e = .returned (.bool true) ∧ w' = w := by
  go_enter Try.func8, Try.ntmps8
  go_wp2
  go_ret
  exact ⟨rfl, rfl⟩

theorem bytes8_no (s : ByteArray) (v u : Value) (w : World) (h : 1048576 < s.size) :
    Calls Try.prog 8 #[.string s, v, u] w fun e w' => e = .returned (.bool false) ∧ w' = w := by
  go_enter Try.func8, Try.ntmps8
  go_wp2
  go_ret
  exact ⟨rfl, rfl⟩

/-- Maximal munch over the string, from place k on. -/
def munchS (s : ByteArray) (pa : Bool) (st : Int) (k want : Nat) : Nat := munch pa (s.data.toList.drop k) st k want

theorem munchS_start (s : ByteArray) (pa : Bool) (i : Nat) : munchS s pa 0 i i = nE s i pa := munch0 pa _ i
theorem munchS_end (s : ByteArray) (pa : Bool) (st : Int) (k want : Nat) (h : ¬ k < s.size) : munchS s pa st k want = want := by
  unfold munchS; rw [drop_end s k h]; rfl
theorem munchS_dead (s : ByteArray) (pa : Bool) (k want : Nat) : munchS s pa (-1) k want = want := munch_dead pa _ k want
theorem munchS_yes (s : ByteArray) (pa : Bool) (st st' : Int) (k want : Nat) (h : k < s.size) (h0 : ¬ st < 0) (e : stepN st s[k].toNat pa = st') (ha : accN st' pa = true) :
    munchS s pa st k want = munchS s pa st' (k + 1) (k + 1) := by
  unfold munchS; rw [drop_cons s k h, munch_step pa _ _ st st' k want h0 e, if_pos ha]
theorem munchS_no (s : ByteArray) (pa : Bool) (st st' : Int) (k want : Nat) (h : k < s.size) (h0 : ¬ st < 0) (e : stepN st s[k].toNat pa = st') (ha : accN st' pa = false) :
    munchS s pa st k want = munchS s pa st' (k + 1) want := by
  unfold munchS; rw [drop_cons s k h, munch_step pa _ _ st st' k want h0 e, if_neg (by simp [ha])]

theorem okS_pos {st : Int} (h : okS st) : 0 ≤ st := by unfold okS at h; omega

set_option maxHeartbeats 400000 in
theorem longest_walk (s : ByteArray) (x : Int) (pa : Bool) (w : World) :
    Calls Try.prog 3 #[.string s, .int .i64 x, .bool pa] w fun e w' => e = .returned (.bool true) ∧ Grown w w' := by
  by_cases hs : s.size ≤ 1048576
  · by_cases hx : x < 0
    · go_enter Try.func3, Try.ntmps3
      go_wp2_with fail
      refine (bytes8_yes _ _ _ _ hs).mono ?_
      rintro e w' ⟨rfl, rfl⟩
      go_wp2
      go_ret
      exact ⟨rfl, Grown.refl _⟩
    · obtain ⟨i, rfl⟩ : ∃ i : Nat, x = i := ⟨x.toNat, by omega⟩
      by_cases hi : i < s.size
      · go_enter Try.func3, Try.ntmps3
        go_wp2_with fail
        refine (bytes8_yes _ _ _ _ hs).mono ?_
        rintro e w' ⟨rfl, rfl⟩
        go_wp2_with fail
        go_loop [7, 8, 9] (fun t u v => ∃ (k want : Nat) (st : Int), t = .int .i64 want ∧ u = .int .i64 st ∧ v = .int .i64 k ∧ k ≤ s.size ∧ (st = -1 ∨ okS st) ∧ munchS s pa st k want = nE s i pa) (fun _ _ v => s.size - (intOf v).toNat)
        case atStart => exact ⟨i, i, 0, rfl, rfl, rfl, by omega, .inr (.inl rfl), munchS_start s pa i⟩
        case round =>
          obtain ⟨k, want, st, rfl, rfl, rfl, hk, hst, hm⟩ := hrel
          have HM : Hid (munchS s pa st k want = nE s i pa) := hm
          clear hm
          by_cases hlt : k < s.size
          · rcases hst with rfl | hok
            · have HE : Hid (nE s i pa = want) := by rw [← HM.out]; exact munchS_dead s pa k want
              go_wp2_with fail
              refine (zzNumberEnd_any _ _ _ hs _).mono ?_
              rintro e w' ⟨rfl, rfl⟩
              rw [HE.out]
              go_wp2_with fail
              go_ret
              exact ⟨rbool (by simp), Grown.refl _⟩
            · have hp := okS_pos hok
              have HO : Hid (okS st) := hok
              clear hok
              go_wp2_with fail
              refine (step_any _ _ _ _ HO.out).mono ?_
              rintro e w' ⟨rfl, rfl⟩
              have hok' := stepN_ok st s[k].toNat pa
              generalize HS : stepN st s[k].toNat pa = st' at hok' ⊢
              have HS' : Hid (stepN st s[k].toNat pa = st') := HS
              have HO' : Hid (st' = -1 ∨ okS st') := hok'
              clear HS hok'
              go_wp2_with fail
              refine (acc_any _ _ _ HO'.out).mono ?_
              rintro e w' ⟨rfl, rfl⟩
              cases ha : accN st' pa
              · go_wp2_with fail
                go_round
                case rel => exact ⟨k + 1, want, st', rfl, rfl, by go_num, by omega, HO'.out, by rw [← munchS_no s pa st st' k want hlt (by omega) HS'.out ha]; exact HM.out⟩
                case measure => simp [intOf]; omega
              · go_wp2_with fail
                go_round
                case rel => exact ⟨k + 1, k + 1, st', by go_num, rfl, by go_num, by omega, HO'.out, by rw [← munchS_yes s pa st st' k want hlt (by omega) HS'.out ha]; exact HM.out⟩
                case measure => simp [intOf]; omega
          · have HE : Hid (nE s i pa = want) := by rw [← HM.out]; exact munchS_end s pa st k want hlt
            clear hst
            go_wp2_with fail
            refine (zzNumberEnd_any _ _ _ hs _).mono ?_
            rintro e w' ⟨rfl, rfl⟩
            rw [HE.out]
            go_wp2_with fail
            go_ret
            exact ⟨rbool (by simp), Grown.refl _⟩
      · go_enter Try.func3, Try.ntmps3
        go_wp2_with fail
        refine (bytes8_yes _ _ _ _ hs).mono ?_
        rintro e w' ⟨rfl, rfl⟩
        go_wp2_with fail
        refine (zzNumberEnd_any _ _ _ hs _).mono ?_
        rintro e w' ⟨rfl, rfl⟩
        rw [nE_past s i pa hi]
        go_wp2_with fail
        go_ret
        exact ⟨rbool (by simp), Grown.refl _⟩
  · go_enter Try.func3, Try.ntmps3
    go_wp2_with fail
    refine (bytes8_no _ _ _ _ (by omega)).mono ?_
    rintro e w' ⟨rfl, rfl⟩
    go_wp2
    go_ret
    exact ⟨rfl, Grown.refl _⟩
end Go.Proofs.Qxb6603792a
