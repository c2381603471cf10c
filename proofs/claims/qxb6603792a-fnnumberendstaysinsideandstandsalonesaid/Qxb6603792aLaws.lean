/-
  The length bounds (functions 12, 13) and the walks of the laws FnNumberEndStaysInsideAndStandsAlone (4) and FnNumberEndIgnoresTextBefore (5).
-/
import Derived.Test.Qxb6603792aRows
import Derived.Test.Qxb6603792aNumber
import Derived.WalkKit
import Derived.WalkSpells
namespace Go.Proofs.Qxb6603792a
open Go.RowKit

theorem bytes12_yes (s : ByteArray) (v u : Value) (w : World) (h : s.size ≤ 1048576) :
    Calls Try.prog 12 #[.string s, v, u] w fun e w' => e = .returned (.bool true) ∧ w' = w := by
  go_enter Try.func12, Try.ntmps12
  go_wp2
  go_ret
  exact ⟨rfl, rfl⟩

theorem bytes12_no (s : ByteArray) (v u : Value) (w : World) (h : 1048576 < s.size) :
    Calls Try.prog 12 #[.string s, v, u] w fun e w' => e = .returned (.bool false) ∧ w' = w := by
  go_enter Try.func12, Try.ntmps12
  go_wp2
  go_ret
  exact ⟨rfl, rfl⟩

theorem bytes13_yes (p s : ByteArray) (v u : Value) (w : World) (h : p.size + s.size ≤ 1048576) :
    Calls Try.prog 13 #[.string p, .string s, v, u] w fun e w' => e = .returned (.bool true) ∧ w' = w := by
  go_enter Try.func13, Try.ntmps13
  go_wp2
  go_ret
  exact ⟨rfl, rfl⟩

theorem bytes13_no (p s : ByteArray) (v u : Value) (w : World) (hp : p.size ≤ maxLen) (hs : s.size ≤ maxLen) (h : 1048576 < p.size + s.size) :
    Calls Try.prog 13 #[.string p, .string s, v, u] w fun e w' => e = .returned (.bool false) ∧ w' = w := by
  unfold maxLen at hp hs
  go_enter Try.func13, Try.ntmps13
  go_wp2
  all_goals go_ret
  all_goals exact ⟨rfl, rfl⟩

/-! ### Law 4 -/
theorem nE_cut (s : ByteArray) (i : Nat) (pa : Bool) : nE (s.extract 0 (nE s i pa)) i pa = nE s i pa := by
  have e : (s.extract 0 (nE s i pa)).data.toList = s.data.toList.take (nE s i pa) := by
    rw [ByteArray.data_extract, Array.toList_extract, List.extract_eq_take_drop]
    rfl
  have e2 : (s.extract 0 (nE s i pa)).data.toList.drop i = (s.data.toList.drop i).take (numLen (s.data.toList.drop i) pa) := by
    rw [e, List.drop_take]
    congr 1
    unfold nE; omega
  have e3 : nE (s.extract 0 (nE s i pa)) i pa = i + numLen ((s.extract 0 (nE s i pa)).data.toList.drop i) pa := rfl
  rw [e3, e2, numLen_take]; rfl

theorem nE_mono (s : ByteArray) (i : Nat) : nE s i false ≤ nE s i true := by
  have := numLen_mono (s.data.toList.drop i)
  unfold nE; omega

set_option maxHeartbeats 400000 in
theorem stays_walk (s : ByteArray) (x : Int) (pa : Bool) (w : World) :
    Calls Try.prog 4 #[.string s, .int .i64 x, .bool pa] w fun e w' => e = .returned (.bool true) ∧ Grown w w' := by
  by_cases hs : s.size ≤ 1048576
  · by_cases hx : x < 0
    · go_enter Try.func4, Try.ntmps4
      go_wp2_with fail
      refine (bytes12_yes _ _ _ _ hs).mono ?_
      rintro e w' ⟨rfl, rfl⟩
      go_wp2
      go_ret
      exact ⟨rfl, Grown.refl _⟩
    · obtain ⟨i, rfl⟩ : ∃ i : Nat, x = i := ⟨x.toNat, by omega⟩
      by_cases hi : i < s.size
      · have hge := nE_ge s i pa
        have hle := nE_le s i pa (by omega)
        have HC : Hid (nE (s.extract 0 (nE s i pa)) i pa = nE s i pa) := nE_cut s i pa
        have hm := nE_mono s i
        go_enter Try.func4, Try.ntmps4
        go_wp2_with fail
        refine (bytes12_yes _ _ _ _ hs).mono ?_
        rintro e w' ⟨rfl, rfl⟩
        go_wp2_with fail
        refine (zzNumberEnd_any _ _ _ hs _).mono ?_
        rintro e w' ⟨rfl, rfl⟩
        generalize HR : nE s i pa = r at hge hle HC ⊢
        clear HR
        go_wp2_with fail
        refine (zzNumberEnd_any _ _ _ (by rw [ByteArray.size_extract]; omega) _).mono ?_
        rintro e w' ⟨rfl, rfl⟩
        rw [HC.out]
        go_wp2_with fail
        refine (zzNumberEnd_any _ _ _ hs _).mono ?_
        rintro e w' ⟨rfl, rfl⟩
        go_wp2_with fail
        refine (zzNumberEnd_any _ _ _ hs _).mono ?_
        rintro e w' ⟨rfl, rfl⟩
        go_wp2_with fail
        go_ret
        exact ⟨rfl, Grown.refl _⟩
      · go_enter Try.func4, Try.ntmps4
        go_wp2_with fail
        refine (bytes12_yes _ _ _ _ hs).mono ?_
        rintro e w' ⟨rfl, rfl⟩
        go_wp2_with fail
        refine (zzNumberEnd_any _ _ _ hs _).mono ?_
        rintro e w' ⟨rfl, rfl⟩
        rw [nE_past s i pa hi]
        go_wp2_with fail
        go_ret
        exact ⟨ret_bool (by simp), Grown.refl _⟩
  · go_enter Try.func4, Try.ntmps4
    go_wp2_with fail
    refine (bytes12_no _ _ _ _ (by omega)).mono ?_
    rintro e w' ⟨rfl, rfl⟩
    go_wp2
    go_ret
    exact ⟨rfl, Grown.refl _⟩

/-! ### Law 5 -/
theorem nE_before (p s : ByteArray) (i : Nat) (pa : Bool) : nE (p ++ s) (p.size + i) pa = p.size + nE s i pa := by
  have e : (p ++ s).data.toList.drop (p.size + i) = s.data.toList.drop i := by
    rw [ByteArray.data_append, Array.toList_append]
    have h : p.data.toList.length = p.size := by simp
    rw [← h, List.drop_length_add_append]
  unfold nE
  rw [e]; omega

set_option maxHeartbeats 400000 in
theorem before_walk (p s : ByteArray) (x : Int) (pa : Bool) (w0 : p.size ≤ maxLen) (w1 : s.size ≤ maxLen) (w : World) :
    Calls Try.prog 5 #[.string p, .string s, .int .i64 x, .bool pa] w fun e w' => e = .returned (.bool true) ∧ Grown w w' := by
  by_cases hs : p.size + s.size ≤ 1048576
  · by_cases hx : x < 0
    · go_enter Try.func5, Try.ntmps5
      go_wp2_with fail
      refine (bytes13_yes _ _ _ _ _ hs).mono ?_
      rintro e w' ⟨rfl, rfl⟩
      go_wp2
      go_ret
      exact ⟨rfl, Grown.refl _⟩
    · obtain ⟨i, rfl⟩ : ∃ i : Nat, x = i := ⟨x.toNat, by omega⟩
      by_cases hi : i ≤ s.size
      · have hge := nE_ge s i pa
        have hle := nE_le s i pa hi
        have HB : Hid (nE (p ++ s) (p.size + i) pa = p.size + nE s i pa) := nE_before p s i pa
        go_enter Try.func5, Try.ntmps5
        go_wp2_with fail
        refine (bytes13_yes _ _ _ _ _ hs).mono ?_
        rintro e w' ⟨rfl, rfl⟩
        go_wp2_with fail
        refine (zzNumberEnd_at _ _ (p.size + i) (by omega) _ (by rw [ByteArray.size_append]; omega) _).mono ?_
        rintro e w' ⟨rfl, rfl⟩
        rw [HB.out]
        go_wp2_with fail
        refine (zzNumberEnd_any _ _ _ (by omega) _).mono ?_
        rintro e w' ⟨rfl, rfl⟩
        generalize HR : nE s i pa = r at hge hle HB ⊢
        clear HR HB
        go_wp2_with fail
        go_ret
        exact ⟨rfl, Grown.refl _⟩
      · go_enter Try.func5, Try.ntmps5
        go_wp2_with fail
        refine (bytes13_yes _ _ _ _ _ hs).mono ?_
        rintro e w' ⟨rfl, rfl⟩
        go_wp2_with fail
        go_ret
        exact ⟨rfl, Grown.refl _⟩
  · go_enter Try.func5, Try.ntmps5
    go_wp2_with fail
    refine (bytes13_no _ _ _ _ _ w0 w1 (by omega)).mono ?_
    rintro e w' ⟨rfl, rfl⟩
    go_wp2
    go_ret
    exact ⟨rfl, Grown.refl _⟩
end Go.Proofs.Qxb6603792a
