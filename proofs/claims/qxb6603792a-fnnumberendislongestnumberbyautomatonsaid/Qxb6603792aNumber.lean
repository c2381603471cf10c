/-
  isDigit (function 20), digitsEnd (19), numberEnd (17), its alias ZZNumberEnd (11).
-/
import Derived.Test.Qxb6603792aRows
import Derived.Test.Qxb6603792aPlain
import Derived.WalkKit
import Derived.WalkSpells
import Derived.Deep.DeepCutAuto
namespace Go.Proofs.Qxb6603792a
open Go.RowKit

theorem ret_bool {a b : Bool} (h : a = b) : Ending.returned (.bool a) = .returned (.bool b) := by rw [h]
theorem ret_int {k : IntKind} {a b : Int} (h : a = b) : Ending.returned (.int k a) = .returned (.int k b) := by rw [h]

theorem drop_cons (s : ByteArray) (k : Nat) (h : k < s.size) : s.data.toList.drop k = s[k] :: s.data.toList.drop (k + 1) := by
  rw [List.drop_eq_getElem_cons (by simpa using h)]; rfl

theorem drop_end (s : ByteArray) (k : Nat) (h : ¬ k < s.size) : s.data.toList.drop k = [] :=
  List.drop_of_length_le (by simp; omega)

theorem isDigit_any (n : Nat) (w : World) :
    Calls Try.prog 20 #[.int .u8 n] w fun e w' => e = .returned (.bool (dg n)) ∧ w' = w := by
  by_cases h : 48 ≤ (n : Int)
  · by_cases h2 : (n : Int) ≤ 57
    · go_enter Try.func20, Try.ntmps20
      go_wp2
      go_ret
      exact ⟨ret_bool (by unfold dg; symm; simp; omega), rfl⟩
    · go_enter Try.func20, Try.ntmps20
      go_wp2
      go_ret
      exact ⟨ret_bool (by unfold dg; symm; simp; omega), rfl⟩
  · go_enter Try.func20, Try.ntmps20
    go_wp2
    go_ret
    exact ⟨ret_bool (by unfold dg; symm; simp; omega), rfl⟩

/-- Where the digits that start at k end. -/
def dE (s : ByteArray) (k : Nat) : Nat := k + digLen (s.data.toList.drop k)

theorem dE_step (s : ByteArray) (k : Nat) (h : k < s.size) (hd : dg s[k].toNat = true) : dE s (k + 1) = dE s k := by
  unfold dE; rw [drop_cons s k h, digLen_cons_pos _ _ hd]; omega
theorem dE_stop (s : ByteArray) (k : Nat) (h : k < s.size) (hd : dg s[k].toNat = false) : dE s k = k := by
  unfold dE; rw [drop_cons s k h, digLen_cons_zero _ _ hd]; omega
theorem dE_end (s : ByteArray) (k : Nat) (h : ¬ k < s.size) : dE s k = k := by
  unfold dE; rw [drop_end s k h]; rfl

set_option maxHeartbeats 400000 in
theorem digitsEnd_any (s : ByteArray) (i : Nat) (hs : s.size ≤ 1048576) (w : World) :
    Calls Try.prog 19 #[.string s, .int .i64 i] w fun e w' => e = .returned (.int .i64 (dE s i)) ∧ w' = w := by
  go_enter Try.func19, Try.ntmps19
  go_wp2
  go_loop [1] (fun t => ∃ k : Nat, t = .int .i64 k ∧ dE s k = dE s i) (fun t => s.size - (intOf t).toNat)
  case atStart => exact ⟨i, rfl, rfl⟩
  case round =>
    obtain ⟨k, rfl, hd⟩ := hrel
    have HD : Hid (dE s k = dE s i) := hd
    clear hd
    by_cases hlt : k < s.size
    · cases hd : dg s[k].toNat
      · go_wp2_with fail
        refine (isDigit_any _ _).mono ?_
        rintro e w' ⟨rfl, rfl⟩
        go_wp2
        go_ret
        exact ⟨ret_int (by rw [← HD.out, dE_stop s k hlt hd]), rfl⟩
      · go_wp2_with fail
        refine (isDigit_any _ _).mono ?_
        rintro e w' ⟨rfl, rfl⟩
        go_wp2
        go_round
        case rel => exact ⟨k + 1, by go_num, by rw [dE_step s k hlt hd, HD.out]⟩
        case measure => simp [intOf]; omega
    · go_wp2
      go_ret
      exact ⟨ret_int (by rw [← HD.out, dE_end s k hlt]), rfl⟩

theorem digitsEnd_at (s : ByteArray) (x : Int) (i : Nat) (hx : x = i) (hs : s.size ≤ 1048576) (w : World) :
    Calls Try.prog 19 #[.string s, .int .i64 x] w fun e w' => e = .returned (.int .i64 (dE s i)) ∧ w' = w := by
  subst hx; exact digitsEnd_any s i hs w

/-- Does byte k read n? -/
def isB (s : ByteArray) (k n : Nat) : Bool := if h : k < s.size then decide (s[k].toNat = n) else false
theorem isB_at {s : ByteArray} {k : Nat} (n : Nat) (h : k < s.size) : ((s[k].toNat : Int) == n) = isB s k n := by
  unfold isB; rw [dif_pos h, Bool.eq_iff_iff]; simp; omega
theorem isB_end {s : ByteArray} {k : Nat} (n : Nat) (h : ¬ k < s.size) : isB s k n = false := by unfold isB; rw [dif_neg h]
theorem isB_yes {s : ByteArray} {k n : Nat} (h : k < s.size) (hc : (s[k].toNat : Int) = n) : isB s k n = true := by
  unfold isB; rw [dif_pos h]; simp; omega
theorem isB_no {s : ByteArray} {k n : Nat} (h : k < s.size) (hc : ¬ (s[k].toNat : Int) = n) : isB s k n = false := by
  unfold isB; rw [dif_pos h]; simp; omega
theorem of_isB {s : ByteArray} {k n : Nat} (h : isB s k n = true) : ∃ h : k < s.size, (s[k].toNat : Int) = n := by
  unfold isB at h
  split at h
  · rename_i hk; exact ⟨hk, by have := of_decide_eq_true h; omega⟩
  · cases h
theorem not_isB {s : ByteArray} {k n : Nat} (h : isB s k n = false) (hk : k < s.size) : ¬ (s[k].toNat : Int) = n := by
  unfold isB at h
  rw [dif_pos hk] at h
  have := of_decide_eq_false h
  omega

/-! ### The mantissa's end -/
def mE (s : ByteArray) (i : Nat) (pa : Bool) : Nat := i + mantLen (s.data.toList.drop i) pa

theorem mE_eq (s : ByteArray) (i : Nat) (pa : Bool) : mE s i pa = i + mantTail (dE s i - i) pa (s.data.toList.drop (dE s i)) := by
  unfold mE mantLen dE
  rw [List.drop_drop, Nat.add_sub_cancel_left]

theorem dE_ge (s : ByteArray) (i : Nat) : i ≤ dE s i := Nat.le_add_right _ _
theorem dE_le (s : ByteArray) (i : Nat) (h : i ≤ s.size) : dE s i ≤ s.size := by
  have h1 := digLen_le (s.data.toList.drop i)
  rw [List.length_drop] at h1
  have h2 : s.data.toList.length = s.size := by simp
  unfold dE; omega

theorem mE_end (s : ByteArray) (i j : Nat) (pa : Bool) (hj : dE s i = j) (h : ¬ j < s.size) : mE s i pa = j := by
  have := dE_ge s i
  rw [mE_eq, hj, drop_end s j h]; simp only [mantTail]; omega

theorem mE_nodot (s : ByteArray) (i j : Nat) (pa : Bool) (hj : dE s i = j) (h : j < s.size) (hc : ¬ (s[j].toNat : Int) = 46) : mE s i pa = j := by
  have := dE_ge s i
  rw [mE_eq, hj, drop_cons s j h]; simp only [mantTail]; rw [if_neg (by omega)]; omega

theorem digLen_at (s : ByteArray) (k : Nat) (h : k < s.size) (hd : dg s[k].toNat = true) : digLen (s.data.toList.drop k) ≠ 0 := by
  rw [drop_cons s k h, digLen_cons_pos _ _ hd]; omega

theorem digLen_no (s : ByteArray) (k : Nat) (hd : ∀ h : k < s.size, dg s[k].toNat = false) : digLen (s.data.toList.drop k) = 0 := by
  by_cases h : k < s.size
  · rw [drop_cons s k h, digLen_cons_zero _ _ (hd h)]
  · rw [drop_end s k h]; rfl

theorem mE_dig (s : ByteArray) (i j : Nat) (pa : Bool) (hj : dE s i = j) (h : j < s.size) (hc : (s[j].toNat : Int) = 46) (h1 : j + 1 < s.size) (hd : dg s[j + 1].toNat = true) :
    mE s i pa = dE s (j + 1) := by
  have := dE_ge s i
  rw [mE_eq, hj, drop_cons s j h]; simp only [mantTail]
  rw [if_pos (by omega), if_neg (digLen_at s _ h1 hd)]
  unfold dE; omega

theorem mE_lone (s : ByteArray) (i j : Nat) (pa : Bool) (hp : pa = true) (hj : dE s i = j) (h : j < s.size) (hc : (s[j].toNat : Int) = 46) (hd : ∀ h : j + 1 < s.size, dg s[j + 1].toNat = false) (hij : i < j) :
    mE s i pa = j + 1 := by
  rw [mE_eq, hj, drop_cons s j h]; simp only [mantTail]
  rw [if_pos (by omega), if_pos (digLen_no s _ hd), if_pos ⟨hp, by omega⟩]
  omega

theorem mE_none (s : ByteArray) (i j : Nat) (pa : Bool) (hj : dE s i = j) (h : j < s.size) (hc : (s[j].toNat : Int) = 46) (hd : ∀ h : j + 1 < s.size, dg s[j + 1].toNat = false) (hij : pa = false ∨ ¬ i < j) :
    mE s i pa = j := by
  have := dE_ge s i
  rw [mE_eq, hj, drop_cons s j h]; simp only [mantTail]
  rw [if_pos (by omega), if_pos (digLen_no s _ hd), if_neg (by intro hh; rcases hij with h | h <;> simp_all)]
  omega

theorem mE_ge (s : ByteArray) (i : Nat) (pa : Bool) : i ≤ mE s i pa := Nat.le_add_right _ _
theorem mE_le (s : ByteArray) (i : Nat) (pa : Bool) (h : i ≤ s.size) : mE s i pa ≤ s.size := by
  have h1 := mantLen_le (s.data.toList.drop i) pa
  rw [List.length_drop] at h1
  have h2 : s.data.toList.length = s.size := by simp
  unfold mE; omega

/-! ### The number's end -/
def nE (s : ByteArray) (i : Nat) (pa : Bool) : Nat := i + numLen (s.data.toList.drop i) pa

theorem nE_zero (s : ByteArray) (i m : Nat) (pa : Bool) (hm : mE s i pa = m) (h : m = i) : nE s i pa = i := by
  unfold mE at hm
  unfold nE numLen
  rw [if_pos (by omega)]; rfl

theorem nE_exp (s : ByteArray) (i m : Nat) (pa : Bool) (hm : mE s i pa = m) (h : ¬ m = i) : nE s i pa = m + expLen (s.data.toList.drop m) := by
  unfold mE at hm
  unfold nE numLen
  rw [if_neg (by omega), List.drop_drop, hm]; omega

/-- Is byte k an 'e' or an 'E'? -/
def isE (s : ByteArray) (k : Nat) : Bool := isB s k 101 || isB s k 69
/-- Is byte k a sign? -/
def isS (s : ByteArray) (k : Nat) : Bool := isB s k 43 || isB s k 45

theorem isE_at (s : ByteArray) (m : Nat) (h : m < s.size) : isE s m = true ↔ (s[m].toNat = 101 ∨ s[m].toNat = 69) := by
  unfold isE; rw [← isB_at 101 h, ← isB_at 69 h]; simp; omega
theorem isS_at (s : ByteArray) (m : Nat) (h : m < s.size) : isS s m = true ↔ (s[m].toNat = 43 ∨ s[m].toNat = 45) := by
  unfold isS; rw [← isB_at 43 h, ← isB_at 45 h]; simp; omega
theorem isE_lt (s : ByteArray) (m : Nat) (h : isE s m = true) : m < s.size := by
  by_cases hm : m < s.size
  · exact hm
  · unfold isE at h; rw [isB_end 101 hm, isB_end 69 hm] at h; cases h
theorem isS_lt (s : ByteArray) (m : Nat) (h : isS s m = true) : m < s.size := by
  by_cases hm : m < s.size
  · exact hm
  · unfold isS at h; rw [isB_end 43 hm, isB_end 45 hm] at h; cases h

theorem isE_first (s : ByteArray) (m : Nat) (h : m < s.size) (h1 : ((s[m].toNat : Int) == 101) = true) : true = isE s m := by
  have e : ((s[m].toNat : Int) == 101) = isB s m 101 := isB_at 101 h
  unfold isE; rw [← e, h1]; rfl
theorem isE_second (s : ByteArray) (m : Nat) (h : m < s.size) (h1 : ((s[m].toNat : Int) == 101) = false) : ((s[m].toNat : Int) == 69) = isE s m := by
  have e : ((s[m].toNat : Int) == 101) = isB s m 101 := isB_at 101 h
  have e2 : ((s[m].toNat : Int) == 69) = isB s m 69 := isB_at 69 h
  unfold isE; rw [← e, h1, ← e2]; rfl
theorem isS_first (s : ByteArray) (m : Nat) (h : m < s.size) (h1 : ((s[m].toNat : Int) == 43) = true) : true = isS s m := by
  have e : ((s[m].toNat : Int) == 43) = isB s m 43 := isB_at 43 h
  unfold isS; rw [← e, h1]; rfl
theorem isS_second (s : ByteArray) (m : Nat) (h : m < s.size) (h1 : ((s[m].toNat : Int) == 43) = false) : ((s[m].toNat : Int) == 45) = isS s m := by
  have e : ((s[m].toNat : Int) == 43) = isB s m 43 := isB_at 43 h
  have e2 : ((s[m].toNat : Int) == 45) = isB s m 45 := isB_at 45 h
  unfold isS; rw [← e, h1, ← e2]; rfl

theorem exp_noE (s : ByteArray) (m : Nat) (hE : isE s m = false) : m + expLen (s.data.toList.drop m) = m := by
  by_cases h : m < s.size
  · rw [drop_cons s m h]; simp only [expLen]
    rw [if_neg (by rw [← isE_at s m h, hE]; simp)]; rfl
  · rw [drop_end s m h]; rfl

theorem exp_E (s : ByteArray) (m : Nat) (hE : isE s m = true) : expLen (s.data.toList.drop m) = expTail (s.data.toList.drop (m + 1)) := by
  have h := isE_lt s m hE
  rw [drop_cons s m h]; simp only [expLen]
  rw [if_pos ((isE_at s m h).mp hE)]

theorem expTail_S (s : ByteArray) (k : Nat) (hS : isS s k = true) :
    expTail (s.data.toList.drop k) = if digLen (s.data.toList.drop (k + 1)) = 0 then 0 else 2 + digLen (s.data.toList.drop (k + 1)) := by
  have h := isS_lt s k hS
  rw [drop_cons s k h]; simp only [expTail]
  rw [if_pos ((isS_at s k h).mp hS)]

theorem expTail_noS (s : ByteArray) (k : Nat) (hS : isS s k = false) :
    expTail (s.data.toList.drop k) = if digLen (s.data.toList.drop k) = 0 then 0 else 1 + digLen (s.data.toList.drop k) := by
  by_cases h : k < s.size
  · rw [drop_cons s k h]; simp only [expTail]
    rw [if_neg (by rw [← isS_at s k h, hS]; simp)]
  · rw [drop_end s k h]; rfl

theorem exp_one (s : ByteArray) (m : Nat) (hE : isE s m = true) (hS : isS s (m + 1) = false) (hd : ∀ h : m + 1 < s.size, dg s[m + 1].toNat = false) :
    m + expLen (s.data.toList.drop m) = m := by
  rw [exp_E s m hE, expTail_noS s _ hS, if_pos (digLen_no s _ hd)]; rfl
theorem exp_one_dig (s : ByteArray) (m : Nat) (hE : isE s m = true) (hS : isS s (m + 1) = false) (h : m + 1 < s.size) (hd : dg s[m + 1].toNat = true) :
    m + expLen (s.data.toList.drop m) = dE s (m + 1) := by
  rw [exp_E s m hE, expTail_noS s _ hS, if_neg (digLen_at s _ h hd)]; unfold dE; omega
theorem exp_two (s : ByteArray) (m : Nat) (hE : isE s m = true) (hS : isS s (m + 1) = true) (hd : ∀ h : m + 2 < s.size, dg s[m + 2].toNat = false) :
    m + expLen (s.data.toList.drop m) = m := by
  rw [exp_E s m hE, expTail_S s _ hS, if_pos (digLen_no s (m + 2) hd)]; rfl
theorem exp_two_dig (s : ByteArray) (m : Nat) (hE : isE s m = true) (hS : isS s (m + 1) = true) (h : m + 2 < s.size) (hd : dg s[m + 2].toNat = true) :
    m + expLen (s.data.toList.drop m) = dE s (m + 2) := by
  rw [exp_E s m hE, expTail_S s _ hS, if_neg (digLen_at s (m + 2) h hd)]; unfold dE
  show m + (2 + digLen (s.data.toList.drop (m + 2))) = _
  omega

set_option maxHeartbeats 400000 in
theorem numberEnd_any (s : ByteArray) (i : Nat) (pa : Bool) (hs : s.size ≤ 1048576) (hi : i < s.size) (w : World) :
    Calls Try.prog 17 #[.string s, .int .i64 i, .bool pa] w fun e w' => e = .returned (.int .i64 (nE s i pa)) ∧ w' = w := by
  have hge := dE_ge s i
  have hle := dE_le s i (by omega)
  go_enter Try.func17, Try.ntmps17
  go_wp2_with fail
  refine (digitsEnd_any _ _ hs _).mono ?_
  rintro e w' ⟨rfl, rfl⟩
  generalize HJ : dE s i = j at hge hle ⊢
  have HJ' : Hid (dE s i = j) := HJ
  clear HJ
  go_upto_region 2 with fail
  go_cut [21] from 9 to 20 (fun t wx => t = .bool (isB s j 46) ∧ wx = w')
  case first =>
    by_cases hlt : j < s.size
    · go_wp2
      go_meet
      case rel => exact ⟨congrArg Value.bool (isB_at 46 hlt), rfl⟩
    · go_wp2
      go_meet
      case rel => exact ⟨congrArg Value.bool (isB_end 46 hlt).symm, rfl⟩
  case rest =>
    obtain ⟨rfl, rfl⟩ := hcut
    go_upto_if 21 with fail
    go_cut [2, 7] from 9 to 45 (fun _ t wx => t = .int .i64 (mE s i pa) ∧ wx = wc)
    case first =>
      cases hB : isB s j 46
      · go_wp2
        go_meet
        case rel =>
          refine ⟨?_, rfl⟩
          by_cases hlt : j < s.size
          · rw [mE_nodot s i j pa HJ'.out hlt (not_isB hB hlt)]
          · rw [mE_end s i j pa HJ'.out hlt]
      · obtain ⟨hlt, hc⟩ := of_isB hB
        have HC : Hid ((s[j].toNat : Int) = (46 : Nat)) := hc
        clear hc
        by_cases h1 : j + 1 < s.size
        · cases hd : dg s[j + 1].toNat
          · have HN : Hid (∀ h : j + 1 < s.size, dg s[j + 1].toNat = false) := fun _ => hd
            go_wp2_with fail
            refine (isDigit_any _ _).mono ?_
            rintro e w' ⟨rfl, rfl⟩
            go_wp2_with fail
            · go_meet
              case rel => exact ⟨by rw [mE_lone s i j _ (by assumption) HJ'.out hlt HC.out HN.out (by assumption)]; go_num, rfl⟩
            · go_meet
              case rel => exact ⟨by rw [mE_none s i j _ HJ'.out hlt HC.out HN.out (.inr (by assumption))], rfl⟩
            · go_meet
              case rel => exact ⟨by rw [mE_none s i j _ HJ'.out hlt HC.out HN.out (.inl (by simpa using ‹¬ pa = true›))], rfl⟩
          · go_wp2_with fail
            refine (isDigit_any _ _).mono ?_
            rintro e w' ⟨rfl, rfl⟩
            go_wp2_with fail
            refine (digitsEnd_at _ _ (j + 1) (by omega) hs _).mono ?_
            rintro e w' ⟨rfl, rfl⟩
            go_wp2_with fail
            go_meet
            case rel => exact ⟨by rw [mE_dig s i j pa HJ'.out hlt HC.out h1 hd], rfl⟩
        · have HN : Hid (∀ h : j + 1 < s.size, dg s[j + 1].toNat = false) := fun h => absurd h h1
          go_wp2_with fail
          · go_meet
            case rel => exact ⟨by rw [mE_lone s i j _ (by assumption) HJ'.out hlt HC.out HN.out (by assumption)]; go_num, rfl⟩
          · go_meet
            case rel => exact ⟨by rw [mE_none s i j _ HJ'.out hlt HC.out HN.out (.inr (by assumption))], rfl⟩
          · go_meet
            case rel => exact ⟨by rw [mE_none s i j _ HJ'.out hlt HC.out HN.out (.inl (by simpa using ‹¬ pa = true›))], rfl⟩
    case rest =>
      obtain ⟨rfl, rfl⟩ := hcut
      have hge2 := mE_ge s i pa
      have hle2 := mE_le s i pa (by omega)
      generalize HM : mE s i pa = m at hge2 hle2 ⊢
      have HM' : Hid (mE s i pa = m) := HM
      clear HM hge hle HJ'
      by_cases hmi : m = i
      · have hmi' : ((m : Int) == (i : Int)) = true := by simp [hmi]
        have HMI : Hid (m = i) := hmi
        clear hmi
        go_wp2
        go_ret
        exact ⟨ret_int (by rw [nE_zero s i m pa HM'.out HMI.out]), rfl⟩
      · go_upto_region 9 with fail
        go_cut [65] from 46 to 64 (fun t wx => t = .bool (isE s m) ∧ wx = wc)
        case first =>
          by_cases hlt : m < s.size
          · cases h1 : ((s[m].toNat : Int) == 101)
            · go_wp2
              go_meet
              case rel => exact ⟨congrArg Value.bool (isE_second s m hlt h1), rfl⟩
            · go_wp2
              go_meet
              case rel => exact ⟨congrArg Value.bool (isE_first s m hlt h1), rfl⟩
          · go_wp2
            go_meet
            case rel => exact ⟨congrArg Value.bool (by unfold isE; rw [isB_end 101 hlt, isB_end 69 hlt]; rfl), rfl⟩
        case rest =>
          obtain ⟨rfl, rfl⟩ := hcut
          cases hE : isE s m
          · go_wp2
            go_ret
            exact ⟨ret_int (by rw [nE_exp s i m pa HM'.out hmi, exp_noE s m hE]), rfl⟩
          · go_upto_region 11 with fail
            go_cut [83] from 46 to 82 (fun t wx => t = .bool (isS s (m + 1)) ∧ wx = wc)
            case first =>
              by_cases hlt : m + 1 < s.size
              · cases h1 : ((s[m + 1].toNat : Int) == 43)
                · go_wp2
                  go_meet
                  case rel => exact ⟨congrArg Value.bool (isS_second s (m + 1) hlt h1), rfl⟩
                · go_wp2
                  go_meet
                  case rel => exact ⟨congrArg Value.bool (isS_first s (m + 1) hlt h1), rfl⟩
              · go_wp2
                go_meet
                case rel => exact ⟨congrArg Value.bool (by unfold isS; rw [isB_end 43 hlt, isB_end 45 hlt]; rfl), rfl⟩
            case rest =>
              obtain ⟨rfl, rfl⟩ := hcut
              cases hS : isS s (m + 1)
              · by_cases h1 : m + 1 < s.size
                · cases hd : dg s[m + 1].toNat
                  · go_wp2_with fail
                    refine (isDigit_any _ _).mono ?_
                    rintro e w' ⟨rfl, rfl⟩
                    go_wp2_with fail
                    go_ret
                    exact ⟨ret_int (by rw [nE_exp s i m pa HM'.out hmi, exp_one s m hE hS (fun _ => hd)]), rfl⟩
                  · go_wp2_with fail
                    refine (isDigit_any _ _).mono ?_
                    rintro e w' ⟨rfl, rfl⟩
                    go_wp2_with fail
                    refine (digitsEnd_at _ _ (m + 1) (by omega) hs _).mono ?_
                    rintro e w' ⟨rfl, rfl⟩
                    go_wp2_with fail
                    go_ret
                    exact ⟨ret_int (by rw [nE_exp s i m pa HM'.out hmi, exp_one_dig s m hE hS h1 hd]), rfl⟩
                · go_wp2_with fail
                  go_ret
                  exact ⟨ret_int (by rw [nE_exp s i m pa HM'.out hmi, exp_one s m hE hS (fun h => absurd h h1)]), rfl⟩
              · by_cases h1 : m + 2 < s.size
                · cases hd : dg s[m + 2].toNat
                  · go_wp2_with fail
                    refine (isDigit_any _ _).mono ?_
                    rintro e w' ⟨rfl, rfl⟩
                    go_wp2_with fail
                    go_ret
                    exact ⟨ret_int (by rw [nE_exp s i m pa HM'.out hmi, exp_two s m hE hS (fun _ => hd)]), rfl⟩
                  · go_wp2_with fail
                    refine (isDigit_any _ _).mono ?_
                    rintro e w' ⟨rfl, rfl⟩
                    go_wp2_with fail
                    refine (digitsEnd_at _ _ (m + 2) (by omega) hs _).mono ?_
                    rintro e w' ⟨rfl, rfl⟩
                    go_wp2_with fail
                    go_ret
                    exact ⟨ret_int (by rw [nE_exp s i m pa HM'.out hmi, exp_two_dig s m hE hS h1 hd]), rfl⟩
                · go_wp2_with fail
                  go_ret
                  exact ⟨ret_int (by rw [nE_exp s i m pa HM'.out hmi, exp_two s m hE hS (fun h => absurd h h1)]), rfl⟩

theorem nE_past (s : ByteArray) (i : Nat) (pa : Bool) (h : ¬ i < s.size) : nE s i pa = i := by
  unfold nE; rw [drop_end s i h, numLen_nil]; rfl

set_option maxHeartbeats 400000 in
theorem numberEnd_past (s : ByteArray) (i : Nat) (pa : Bool) (hs : s.size ≤ 1048576) (hi : ¬ i < s.size) (w : World) :
    Calls Try.prog 17 #[.string s, .int .i64 i, .bool pa] w fun e w' => e = .returned (.int .i64 (nE s i pa)) ∧ w' = w := by
  have he := dE_end s i hi
  rw [nE_past s i pa hi]
  go_enter Try.func17, Try.ntmps17
  go_wp2_with fail
  refine (digitsEnd_any _ _ hs _).mono ?_
  rintro e w' ⟨rfl, rfl⟩
  rw [he]
  clear he
  go_wp2
  go_ret
  exact ⟨rfl, rfl⟩

theorem zzNumberEnd_any (s : ByteArray) (i : Nat) (pa : Bool) (hs : s.size ≤ 1048576) (w : World) :
    Calls Try.prog 11 #[.string s, .int .i64 i, .bool pa] w fun e w' => e = .returned (.int .i64 (nE s i pa)) ∧ w' = w := by
  have h : Calls Try.prog 17 #[.string s, .int .i64 i, .bool pa] w fun e w' => e = .returned (.int .i64 (nE s i pa)) ∧ w' = w := by
    by_cases hi : i < s.size
    · exact numberEnd_any s i pa hs hi w
    · exact numberEnd_past s i pa hs hi w
  go_enter Try.func11, Try.ntmps11
  go_wp2_with fail
  refine h.mono ?_
  rintro e w' ⟨rfl, rfl⟩
  clear h
  go_wp2
  go_ret
  exact ⟨rfl, rfl⟩

/-- The same, the index spelt as the caller spells it. -/
theorem zzNumberEnd_at (s : ByteArray) (x : Int) (i : Nat) (hx : x = i) (pa : Bool) (hs : s.size ≤ 1048576) (w : World) :
    Calls Try.prog 11 #[.string s, .int .i64 x, .bool pa] w fun e w' => e = .returned (.int .i64 (nE s i pa)) ∧ w' = w := by
  subst hx; exact zzNumberEnd_any s i pa hs w

theorem nE_ge (s : ByteArray) (i : Nat) (pa : Bool) : i ≤ nE s i pa := Nat.le_add_right _ _
theorem nE_le (s : ByteArray) (i : Nat) (pa : Bool) (h : i ≤ s.size) : nE s i pa ≤ s.size := by
  have h1 := numLen_le (s.data.toList.drop i) pa
  rw [List.length_drop] at h1
  have h2 : s.data.toList.length = s.size := by simp
  unfold nE; omega
end Go.Proofs.Qxb6603792a
