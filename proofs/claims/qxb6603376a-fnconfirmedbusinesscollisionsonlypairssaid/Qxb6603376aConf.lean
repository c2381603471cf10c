/-
  confirmedBusiness (function 20), its alias (15), the length bound (16), and the walk of the law FnConfirmedBusinessCollisionsOnlyPairs (8).
-/
import Derived.Test.Qxb6603376aRows
import Derived.WalkKit
import Derived.WalkSpells
import Derived.Deep.QuietTactic
import Derived.BigQuiet
namespace Go.Proofs.Qxb6603376a
open Go.RowKit

/-- What confirmedBusiness answers: '0xy' becomes '1xy', all else stays. -/
def conf (a : ByteArray) : ByteArray :=
  if h : a.size = 3 then (if (a[0]'(by omega)).toNat = 48 then ({ data := #[49] } ++ a.extract 1 3) else a) else a

set_option maxHeartbeats 400000 in
theorem conf_any (a : ByteArray) (w : World) (_h : a.size ≤ 1048576) :
    Calls Try.prog 20 #[.string a] w fun e w' => e = .returned (.string (conf a)) ∧ w' = w := by
  by_cases h3 : a.size = 3
  · have h3' : (a.size : Int) = 3 := by omega
    by_cases h4 : (a[0]'(by omega)).toNat = 48
    · have e : conf a = { data := #[49] } ++ a.extract 1 3 := by unfold conf; rw [dif_pos h3, if_pos h4]
      rw [e]; clear e
      have h5 : (((a[0]'(by omega)).toNat : Int) == 48) = true := by rw [h4]; rfl
      clear h4
      go_enter Try.func20, Try.ntmps20
      go_wp2
      go_ret
      exact ⟨rfl, rfl⟩
    · have e : conf a = a := by unfold conf; rw [dif_pos h3, if_neg h4]
      rw [e]; clear e
      have h5 : (((a[0]'(by omega)).toNat : Int) == 48) = false := by simpa using (by omega : ¬ (((a[0]'(by omega)).toNat : Int) = 48))
      clear h4
      go_enter Try.func20, Try.ntmps20
      go_wp2
      go_ret
      exact ⟨rfl, rfl⟩
  · have e : conf a = a := by unfold conf; rw [dif_neg h3]
    rw [e]; clear e
    have h3' : ¬ (a.size : Int) = 3 := by omega
    clear h3
    go_enter Try.func20, Try.ntmps20
    go_wp2
    go_ret
    exact ⟨rfl, rfl⟩

theorem zconf_any (a : ByteArray) (w : World) (h : a.size ≤ 1048576) :
    Calls Try.prog 15 #[.string a] w fun e w' => e = .returned (.string (conf a)) ∧ w' = w := by
  go_enter Try.func15, Try.ntmps15
  go_wp2_with fail
  refine (conf_any _ _ h).mono ?_
  rintro e w' ⟨rfl, rfl⟩
  go_wp2
  go_ret
  exact ⟨rfl, rfl⟩

theorem bytes_yes (a b : ByteArray) (w : World) (h : a.size + b.size ≤ 1048576) :
    Calls Try.prog 16 #[.string a, .string b] w fun e w' => e = .returned (.bool true) ∧ w' = w := by
  go_enter Try.func16, Try.ntmps16
  go_wp2
  go_ret
  exact ⟨rfl, rfl⟩

theorem bytes_no (a b : ByteArray) (w : World) (ha : a.size ≤ maxLen) (hb : b.size ≤ maxLen) (h : 1048576 < a.size + b.size) :
    Calls Try.prog 16 #[.string a, .string b] w fun e w' => e = .returned (.bool false) ∧ w' = w := by
  unfold maxLen at ha hb
  go_enter Try.func16, Try.ntmps16
  go_wp2
  all_goals go_ret
  all_goals exact ⟨rfl, rfl⟩

/-! ### The plain law -/
theorem extract_three (s : ByteArray) (h : s.size = 3) : (s.extract 1 3).data.toList = s.data.toList.drop 1 := by
  rw [ByteArray.data_extract, Array.toList_extract, List.extract_eq_take_drop]
  have hl : s.data.toList.length = 3 := by simpa using h
  rw [List.take_of_length_le (by rw [List.length_drop]; omega)]

def confL : List UInt8 → List UInt8
  | [x, y, z] => if x.toNat = 48 then [49, y, z] else [x, y, z]
  | l => l

theorem confL_law (l m : List UInt8) (hne : l ≠ m) (he : confL l = confL m) :
    ∃ y z, (l = [48, y, z] ∧ m = [49, y, z]) ∨ (l = [49, y, z] ∧ m = [48, y, z]) := by
  have k48 : ∀ x : UInt8, x.toNat = 48 → x = 48 := fun x h => UInt8.toNat_inj.mp h
  have len : ∀ k : List UInt8, (confL k).length = k.length := by
    intro k
    unfold confL
    split
    · split <;> rfl
    · rfl
  have hl : l.length = m.length := by rw [← len l, he, len m]
  by_cases h3 : l.length = 3
  · match l, m, h3, hl with
    | [x, y, z], [x', y', z'], _, _ =>
      simp only [confL] at he
      by_cases hx : x.toNat = 48
      · by_cases hx' : x'.toNat = 48
        · rw [if_pos hx, if_pos hx'] at he
          simp only [List.cons.injEq] at he
          exact absurd (by rw [k48 x hx, k48 x' hx', he.2.1, he.2.2.1]) hne
        · rw [if_pos hx, if_neg hx'] at he
          simp only [List.cons.injEq] at he
          exact ⟨y, z, .inl ⟨by rw [k48 x hx], by rw [← he.1, ← he.2.1, ← he.2.2.1]⟩⟩
      · by_cases hx' : x'.toNat = 48
        · rw [if_neg hx, if_pos hx'] at he
          simp only [List.cons.injEq] at he
          exact ⟨y, z, .inr ⟨by rw [he.1], by rw [k48 x' hx', he.2.1, he.2.2.1]⟩⟩
        · rw [if_neg hx, if_neg hx'] at he
          exact absurd he hne
  · have idl : ∀ k : List UInt8, k.length ≠ 3 → confL k = k := by
      intro k hk
      unfold confL
      split
      · exact absurd rfl hk
      · rfl
    rw [idl l h3, idl m (by omega)] at he
    exact absurd he hne

theorem byte_at (a : ByteArray) (x y z : UInt8) (h : a.data.toList = [x, y, z]) (h0 : 0 < a.size) : a[0]'h0 = x := by
  obtain ⟨d⟩ := a
  obtain ⟨l⟩ := d
  simp only at h
  subst h
  rfl

theorem conf_list (a : ByteArray) : (conf a).data.toList = confL a.data.toList := by
  unfold conf
  by_cases h3 : a.size = 3
  · rw [dif_pos h3]
    have hl : a.data.toList.length = 3 := by simpa using h3
    match hd : a.data.toList, hl with
    | [x, y, z], _ =>
      have hb := byte_at a x y z hd (by omega)
      rw [hb]
      simp only [confL]
      by_cases hx : x.toNat = 48
      · rw [if_pos hx, if_pos hx, ByteArray.data_append, Array.toList_append, extract_three a h3, hd]
        rfl
      · rw [if_neg hx, if_neg hx, hd]
  · rw [dif_neg h3]
    have hl : a.data.toList.length ≠ 3 := by simpa using h3
    unfold confL
    split
    · rename_i heq
      exact absurd (by rw [heq]; rfl) hl
    · rfl

/-- A collision of two different codes, in the walk's own forms. -/
theorem pairs (a b : ByteArray) (h1 : (a.toList == b.toList) = false) (h2 : ((conf a).toList == (conf b).toList) = true) :
    a.size = 3 ∧ b.size = 3 ∧ ((a.extract 1 3).toList == (b.extract 1 3).toList) = true ∧
      (∀ (ha : 0 < a.size) (hb : 0 < b.size), (a[0]'ha = 48 ∧ b[0]'hb = 49) ∨ (a[0]'ha = 49 ∧ b[0]'hb = 48)) := by
  rw [ByteArray.toList_eq, ByteArray.toList_eq] at h1 h2
  have hne : a.data.toList ≠ b.data.toList := by simpa using h1
  have he : confL a.data.toList = confL b.data.toList := by
    rw [← conf_list, ← conf_list]; simpa using h2
  obtain ⟨y, z, h⟩ := confL_law _ _ hne he
  have sz : ∀ c : ByteArray, ∀ x, c.data.toList = [x, y, z] → c.size = 3 := by
    intro c x hc
    have := congrArg List.length hc
    simpa using this
  have ex : ∀ c : ByteArray, ∀ x, c.data.toList = [x, y, z] → (c.extract 1 3).toList = [y, z] := by
    intro c x hc
    rw [ByteArray.toList_eq, extract_three c (sz c x hc), hc]
    rfl
  rcases h with ⟨ha, hb⟩ | ⟨ha, hb⟩
  · exact ⟨sz a _ ha, sz b _ hb, by rw [ex a _ ha, ex b _ hb]; simp, fun p q => .inl ⟨byte_at a _ _ _ ha p, byte_at b _ _ _ hb q⟩⟩
  · exact ⟨sz a _ ha, sz b _ hb, by rw [ex a _ ha, ex b _ hb]; simp, fun p q => .inr ⟨byte_at a _ _ _ ha p, byte_at b _ _ _ hb q⟩⟩

theorem grown_drewN (w : World) (n : Nat) : Grown w (w.drewN n) := by
  induction n with
  | zero => exact Grown.refl _
  | succ n ih => exact ih.drew

set_option maxHeartbeats 400000 in
theorem collisions_walk (a b : ByteArray) (w0 : a.size ≤ maxLen) (w1 : b.size ≤ maxLen) (w : World) :
    Calls Try.prog 8 #[.string a, .string b] w fun e w' => e = .returned (.bool true) ∧ Grown w w' := by
  by_cases hs : a.size + b.size ≤ 1048576
  · cases h1 : (a.toList == b.toList)
    · cases h2 : ((conf a).toList == (conf b).toList)
      · go_enter Try.func8, Try.ntmps8
        go_wp2_with fail
        refine (bytes_yes _ _ _ hs).mono ?_
        rintro e w' ⟨rfl, rfl⟩
        go_wp2_with fail
        refine (zconf_any _ _ (by omega)).mono ?_
        rintro e w' ⟨rfl, rfl⟩
        go_wp2_with fail
        refine (zconf_any _ _ (by omega)).mono ?_
        rintro e w' ⟨rfl, rfl⟩
        go_wp2_with fail
        go_ret
        exact ⟨rfl, Grown.refl _⟩
      · obtain ⟨ha, hb, hx, hc⟩ := pairs a b h1 h2
        have ha' : (a.size : Int) = 3 := by omega
        have hb' : (b.size : Int) = 3 := by omega
        rcases hc (by omega) (by omega) with ⟨ea, eb⟩ | ⟨ea, eb⟩
        · have p1 : (((a[0]'(by omega)).toNat : Int) == 48) = true := by rw [ea]; rfl
          have p2 : (((b[0]'(by omega)).toNat : Int) == 49) = true := by rw [eb]; rfl
          clear hc ea eb
          go_enter Try.func8, Try.ntmps8
          go_wp2_with fail
          refine (bytes_yes _ _ _ hs).mono ?_
          rintro e w' ⟨rfl, rfl⟩
          go_wp2_with fail
          refine (zconf_any _ _ (by omega)).mono ?_
          rintro e w' ⟨rfl, rfl⟩
          go_wp2_with fail
          refine (zconf_any _ _ (by omega)).mono ?_
          rintro e w' ⟨rfl, rfl⟩
          go_wp2_with fail
          go_quiet (fail)
          go_wp2
          go_ret
          exact ⟨rfl, grown_drewN _ _⟩
        · have p1 : (((a[0]'(by omega)).toNat : Int) == 49) = true := by rw [ea]; rfl
          have p2 : (((b[0]'(by omega)).toNat : Int) == 48) = true := by rw [eb]; rfl
          have p3 : (((a[0]'(by omega)).toNat : Int) == 48) = false := by rw [ea]; rfl
          clear hc ea eb
          go_enter Try.func8, Try.ntmps8
          go_wp2_with fail
          refine (bytes_yes _ _ _ hs).mono ?_
          rintro e w' ⟨rfl, rfl⟩
          go_wp2_with fail
          refine (zconf_any _ _ (by omega)).mono ?_
          rintro e w' ⟨rfl, rfl⟩
          go_wp2_with fail
          refine (zconf_any _ _ (by omega)).mono ?_
          rintro e w' ⟨rfl, rfl⟩
          go_wp2_with fail
          go_quiet (fail)
          go_wp2
          go_ret
          exact ⟨rfl, grown_drewN _ _⟩
    · go_enter Try.func8, Try.ntmps8
      go_wp2_with fail
      refine (bytes_yes _ _ _ hs).mono ?_
      rintro e w' ⟨rfl, rfl⟩
      go_wp2_with fail
      go_ret
      exact ⟨rfl, Grown.refl _⟩
  · go_enter Try.func8, Try.ntmps8
    go_wp2_with fail
    refine (bytes_no _ _ _ w0 w1 (by omega)).mono ?_
    rintro e w' ⟨rfl, rfl⟩
    go_wp2
    go_ret
    exact ⟨rfl, Grown.refl _⟩
end Go.Proofs.Qxb6603376a
