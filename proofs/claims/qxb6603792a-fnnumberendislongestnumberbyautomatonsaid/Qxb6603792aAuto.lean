/-
  The plain mathematics of the automaton: maximal munch finds the number's length. No Go in sight.
-/
import Derived.Test.Qxb6603792aPlain
namespace Go.Proofs.Qxb6603792a

def exB (c : Nat) : Bool := decide (c = 101 ∨ c = 69)
def sgB (c : Nat) : Bool := decide (c = 43 ∨ c = 45)

/-- One move of the automaton. -/
def stepN (st : Int) (c : Nat) (pa : Bool) : Int :=
  if st = 0 then (if dg c = true then 1 else if c = 46 then 2 else -1)
  else if st = 1 then (if dg c = true then 1 else if c = 46 then 3 else if exB c = true then 5 else -1)
  else if st = 2 then (if dg c = true then 6 else -1)
  else if st = 3 then (if dg c = true then 6 else if exB c = true ∧ pa = true then 5 else -1)
  else if st = 5 then (if dg c = true then 8 else if sgB c = true then 7 else -1)
  else if st = 6 then (if dg c = true then 6 else if exB c = true then 5 else -1)
  else if st = 7 then (if dg c = true then 8 else -1)
  else if st = 8 then (if dg c = true then 8 else -1)
  else -1

def accN (st : Int) (pa : Bool) : Bool := decide (st = 1 ∨ st = 6 ∨ st = 8 ∨ (st = 3 ∧ pa = true))

/-- Maximal munch: from state st at place k, the last accepted place so far being want. -/
def munch (pa : Bool) : List UInt8 → Int → Nat → Nat → Nat
  | [], _, _, want => want
  | c :: t, st, k, want => if st < 0 then want else munch pa t (stepN st c.toNat pa) (k + 1) (if accN (stepN st c.toNat pa) pa = true then k + 1 else want)

theorem munch_dead (pa : Bool) (l : List UInt8) (k w : Nat) : munch pa l (-1) k w = w := by
  cases l with
  | nil => rfl
  | cons c t => simp [munch]

theorem munch_step (pa : Bool) (c : UInt8) (t : List UInt8) (st st' : Int) (k w : Nat) (h0 : ¬ st < 0) (h : stepN st c.toNat pa = st') :
    munch pa (c :: t) st k w = munch pa t st' (k + 1) (if accN st' pa = true then k + 1 else w) := by
  simp only [munch]
  rw [if_neg h0, h]

theorem munch_die (pa : Bool) (c : UInt8) (t : List UInt8) (st : Int) (k w : Nat) (h0 : ¬ st < 0) (h : stepN st c.toNat pa = -1) :
    munch pa (c :: t) st k w = w := by
  rw [munch_step pa c t st (-1) k w h0 h, munch_dead, if_neg (by simp [accN])]

theorem ite_dig (k w n : Nat) : (if n = 0 then k + 1 else k + 1 + n) = if n + 1 = 0 then w else k + (n + 1) := by
  rw [if_neg (Nat.succ_ne_zero n)]
  split <;> omega

theorem munch8 (pa : Bool) (l : List UInt8) : ∀ k w, munch pa l 8 k w = if digLen l = 0 then w else k + digLen l := by
  induction l with
  | nil => intro k w; rfl
  | cons c t ih =>
    intro k w
    by_cases hc : dg c.toNat = true
    · rw [munch_step pa c t 8 8 k w (by omega) (by simp [stepN, hc]), if_pos (by simp [accN]), ih, digLen_cons_pos c t hc]
      exact ite_dig _ _ _
    · rw [munch_die pa c t 8 k w (by omega) (by simp [stepN, hc]), digLen_cons_zero c t (by simpa using hc)]; rfl

theorem munch7 (pa : Bool) (l : List UInt8) (k w : Nat) : munch pa l 7 k w = if digLen l = 0 then w else k + digLen l := by
  cases l with
  | nil => rfl
  | cons c t =>
    by_cases hc : dg c.toNat = true
    · rw [munch_step pa c t 7 8 k w (by omega) (by simp [stepN, hc]), if_pos (by simp [accN]), munch8, digLen_cons_pos c t hc]
      exact ite_dig _ _ _
    · rw [munch_die pa c t 7 k w (by omega) (by simp [stepN, hc]), digLen_cons_zero c t (by simpa using hc)]; rfl

theorem dg_sg {c : Nat} (h : dg c = true) : sgB c = false := by
  unfold dg at h; unfold sgB; have := of_decide_eq_true h; simp; omega
theorem dg_ex {c : Nat} (h : dg c = true) : exB c = false := by
  unfold dg at h; unfold exB; have := of_decide_eq_true h; simp; omega
theorem dg_dot {c : Nat} (h : dg c = true) : ¬ c = 46 := by
  unfold dg at h; have := of_decide_eq_true h; omega
theorem dot_dg {c : Nat} (h : c = 46) : dg c = false := by
  subst h; rfl
theorem dot_ex {c : Nat} (h : c = 46) : exB c = false := by
  subst h; rfl

theorem expTail_sg {c : UInt8} {t : List UInt8} (h : sgB c.toNat = true) : expTail (c :: t) = if digLen t = 0 then 0 else 2 + digLen t := by
  simp only [expTail]; rw [if_pos (by unfold sgB at h; exact of_decide_eq_true h)]
theorem expTail_nsg {c : UInt8} {t : List UInt8} (h : sgB c.toNat = false) : expTail (c :: t) = if digLen (c :: t) = 0 then 0 else 1 + digLen (c :: t) := by
  simp only [expTail]; rw [if_neg (by unfold sgB at h; exact of_decide_eq_false h)]

theorem munch5 (pa : Bool) (l : List UInt8) (k w : Nat) : munch pa l 5 (k + 1) w = if expTail l = 0 then w else k + expTail l := by
  cases l with
  | nil => rfl
  | cons c t =>
    by_cases hc : dg c.toNat = true
    · have e : expTail (c :: t) = digLen t + 2 := by
        rw [expTail_nsg (dg_sg hc), digLen_cons_pos c t hc, if_neg (Nat.succ_ne_zero _)]; omega
      rw [munch_step pa c t 5 8 (k + 1) w (by omega) (by simp [stepN, hc]), if_pos (by simp [accN]), munch8, e, if_neg (Nat.succ_ne_zero (digLen t + 1))]
      split <;> omega
    · by_cases hs : sgB c.toNat = true
      · rw [munch_step pa c t 5 7 (k + 1) w (by omega) (by simp [stepN, hc, hs]), if_neg (by simp [accN]), munch7, expTail_sg hs]
        by_cases hz : digLen t = 0
        · rw [if_pos hz, if_pos hz, if_pos rfl]
        · rw [if_neg hz, if_neg hz, if_neg (by omega)]; omega
      · rw [munch_die pa c t 5 (k + 1) w (by omega) (by simp [stepN, hc, hs]), expTail_nsg (by simpa using hs), digLen_cons_zero c t (by simpa using hc)]; rfl

theorem expLen_ex {c : UInt8} {t : List UInt8} (h : exB c.toNat = true) : expLen (c :: t) = expTail t := by
  simp only [expLen]; rw [if_pos (by unfold exB at h; exact of_decide_eq_true h)]
theorem expLen_no {c : UInt8} {t : List UInt8} (h : exB c.toNat = false) : expLen (c :: t) = 0 := by
  simp only [expLen]; rw [if_neg (by unfold exB at h; exact of_decide_eq_false h)]

/-- Behind an exponent's mark at place k, the last accepted place being k. -/
theorem munch5_exp (pa : Bool) (c : UInt8) (t : List UInt8) (k : Nat) (h : exB c.toNat = true) : munch pa t 5 (k + 1) k = k + expLen (c :: t) := by
  rw [munch5, expLen_ex h]
  split
  · rename_i hz; rw [hz]; rfl
  · rfl

theorem munch6 (pa : Bool) (l : List UInt8) : ∀ k, munch pa l 6 k k = k + (digLen l + expLen (l.drop (digLen l))) := by
  induction l with
  | nil => intro k; rfl
  | cons c t ih =>
    intro k
    by_cases hc : dg c.toNat = true
    · rw [munch_step pa c t 6 6 k k (by omega) (by simp [stepN, hc]), if_pos (by simp [accN]), ih, digLen_cons_pos c t hc, List.drop_succ_cons]; omega
    · have hc' : dg c.toNat = false := by simpa using hc
      rw [digLen_cons_zero c t hc', List.drop_zero]
      by_cases he : exB c.toNat = true
      · rw [munch_step pa c t 6 5 k k (by omega) (by simp [stepN, hc, he]), if_neg (by simp [accN]), munch5_exp pa c t k he]; omega
      · rw [munch_die pa c t 6 k k (by omega) (by simp [stepN, hc, he]), expLen_no (by simpa using he)]; rfl

/-- Behind a point: where a digit follows, states 2 and 3 move alike. -/
theorem munch_frac (pa : Bool) (l : List UInt8) (st : Int) (k w : Nat) (hs : st = 2 ∨ st = 3) (hz : digLen l ≠ 0) :
    munch pa l st k w = k + (digLen l + expLen (l.drop (digLen l))) := by
  cases l with
  | nil => exact absurd rfl hz
  | cons c t =>
    by_cases hc : dg c.toNat = true
    · have e : stepN st c.toNat pa = 6 := by rcases hs with rfl | rfl <;> simp [stepN, hc]
      rw [munch_step pa c t st 6 k w (by omega) e, if_pos (by simp [accN]), munch6, digLen_cons_pos c t hc, List.drop_succ_cons]; omega
    · exact absurd (digLen_cons_zero c t (by simpa using hc)) hz

theorem munch2_no (pa : Bool) (l : List UInt8) (k w : Nat) (hz : digLen l = 0) : munch pa l 2 k w = w := by
  cases l with
  | nil => rfl
  | cons c t =>
    by_cases hc : dg c.toNat = true
    · rw [digLen_cons_pos c t hc] at hz; omega
    · exact munch_die pa c t 2 k w (by omega) (by simp [stepN, hc])

theorem munch3_no (l : List UInt8) (k w : Nat) (hz : digLen l = 0) : munch false l 3 k w = w := by
  cases l with
  | nil => rfl
  | cons c t =>
    by_cases hc : dg c.toNat = true
    · rw [digLen_cons_pos c t hc] at hz; omega
    · exact munch_die false c t 3 k w (by omega) (by simp [stepN, hc])

theorem munch3_lone (l : List UInt8) (k : Nat) (hz : digLen l = 0) : munch true l 3 k k = k + expLen l := by
  cases l with
  | nil => rfl
  | cons c t =>
    by_cases hc : dg c.toNat = true
    · rw [digLen_cons_pos c t hc] at hz; omega
    · by_cases he : exB c.toNat = true
      · rw [munch_step true c t 3 5 k k (by omega) (by simp [stepN, hc, he]), if_neg (by simp [accN]), munch5_exp true c t k he]
      · rw [munch_die true c t 3 k k (by omega) (by simp [stepN, hc, he]), expLen_no (by simpa using he)]; rfl

/-- What follows the first digits. -/
def rest1 (pa : Bool) : List UInt8 → Nat
  | [] => 0
  | c :: t => if c.toNat = 46 then (if digLen t = 0 then (if pa = true then 1 + expLen t else 0) else 1 + digLen t + expLen (t.drop (digLen t))) else expLen (c :: t)

theorem munch1 (pa : Bool) (l : List UInt8) : ∀ k, munch pa l 1 k k = k + (digLen l + rest1 pa (l.drop (digLen l))) := by
  induction l with
  | nil => intro k; rfl
  | cons c t ih =>
    intro k
    by_cases hc : dg c.toNat = true
    · rw [munch_step pa c t 1 1 k k (by omega) (by simp [stepN, hc]), if_pos (by simp [accN]), ih, digLen_cons_pos c t hc, List.drop_succ_cons]; omega
    · have hc' : dg c.toNat = false := by simpa using hc
      rw [digLen_cons_zero c t hc', List.drop_zero]
      simp only [rest1]
      by_cases hd : c.toNat = 46
      · rw [if_pos hd, munch_step pa c t 1 3 k k (by omega) (by simp [stepN, hd, dot_dg rfl])]
        by_cases hz : digLen t = 0
        · rw [if_pos hz]
          cases pa
          · rw [munch3_no t _ _ hz, if_neg (by simp [accN]), if_neg (by simp)]; rfl
          · rw [if_pos (by simp [accN]), munch3_lone t _ hz, if_pos rfl]; omega
        · rw [if_neg hz, munch_frac pa t 3 _ _ (.inr rfl) hz]; omega
      · rw [if_neg hd]
        by_cases he : exB c.toNat = true
        · rw [munch_step pa c t 1 5 k k (by omega) (by simp [stepN, hc, hd, he]), if_neg (by simp [accN]), munch5_exp pa c t k he]; omega
        · rw [munch_die pa c t 1 k k (by omega) (by simp [stepN, hc, hd, he]), expLen_no (by simpa using he)]; rfl

theorem numLen_pos (l : List UInt8) (pa : Bool) (m : Nat) (h : mantLen l pa = m) (h0 : m ≠ 0) : numLen l pa = m + expLen (l.drop m) := by
  subst h
  unfold numLen
  rw [if_neg h0]
theorem numLen_zero (l : List UInt8) (pa : Bool) (h : mantLen l pa = 0) : numLen l pa = 0 := by
  unfold numLen
  rw [if_pos h]

/-- The mantissa, by what follows the first digits. -/
theorem mant_nil (l : List UInt8) (pa : Bool) (hr : l.drop (digLen l) = []) : mantLen l pa = digLen l := by
  unfold mantLen; rw [hr]; rfl
theorem mant_other (l : List UInt8) (pa : Bool) (c : UInt8) (t : List UInt8) (hr : l.drop (digLen l) = c :: t) (hd : ¬ c.toNat = 46) : mantLen l pa = digLen l := by
  unfold mantLen; rw [hr]; simp only [mantTail]; rw [if_neg hd]
theorem mant_frac (l : List UInt8) (pa : Bool) (c : UInt8) (t : List UInt8) (hr : l.drop (digLen l) = c :: t) (hd : c.toNat = 46) (hz : digLen t ≠ 0) : mantLen l pa = digLen l + 1 + digLen t := by
  unfold mantLen; rw [hr]; simp only [mantTail]; rw [if_pos hd, if_neg hz]
theorem mant_lone (l : List UInt8) (c : UInt8) (t : List UInt8) (hr : l.drop (digLen l) = c :: t) (hd : c.toNat = 46) (hz : digLen t = 0) (h0 : 0 < digLen l) : mantLen l true = digLen l + 1 := by
  unfold mantLen; rw [hr]; simp only [mantTail]; rw [if_pos hd, if_pos hz, if_pos (by simpa using h0)]
theorem mant_bare (l : List UInt8) (pa : Bool) (c : UInt8) (t : List UInt8) (hr : l.drop (digLen l) = c :: t) (hd : c.toNat = 46) (hz : digLen t = 0) (h0 : pa = false ∨ ¬ 0 < digLen l) : mantLen l pa = digLen l := by
  unfold mantLen; rw [hr]; simp only [mantTail]; rw [if_pos hd, if_pos hz, if_neg (by rcases h0 with h | h <;> simp_all)]

/-- numLen where digits stand first. -/
theorem numLen_digits (l : List UInt8) (pa : Bool) (h : digLen l ≠ 0) : numLen l pa = digLen l + rest1 pa (l.drop (digLen l)) := by
  match hr : l.drop (digLen l) with
  | [] => rw [numLen_pos l pa _ (mant_nil l pa hr) h, hr]; rfl
  | c :: t =>
    have hnext : ∀ n, l.drop (digLen l + 1 + n) = t.drop n := by
      intro n
      rw [Nat.add_assoc, ← List.drop_drop, hr, Nat.add_comm, List.drop_succ_cons]
    simp only [rest1]
    by_cases hd : c.toNat = 46
    · rw [if_pos hd]
      by_cases hz : digLen t = 0
      · rw [if_pos hz]
        cases pa
        · rw [numLen_pos l false _ (mant_bare l false c t hr hd hz (.inl rfl)) h, hr, expLen_no (dot_ex hd), if_neg (by simp)]
        · have := hnext 0
          rw [Nat.add_zero, List.drop_zero] at this
          rw [numLen_pos l true _ (mant_lone l c t hr hd hz (by omega)) (by omega), this, if_pos rfl]; omega
      · rw [if_neg hz, numLen_pos l pa _ (mant_frac l pa c t hr hd hz) (by omega), hnext]; omega
    · rw [if_neg hd, numLen_pos l pa _ (mant_other l pa c t hr hd) h, hr]

/-- THE PLAIN LAW: maximal munch from the start finds the number. -/
theorem munch0 (pa : Bool) (l : List UInt8) (k : Nat) : munch pa l 0 k k = k + numLen l pa := by
  cases l with
  | nil => rw [numLen_nil]; rfl
  | cons c t =>
    by_cases hc : dg c.toNat = true
    · rw [munch_step pa c t 0 1 k k (by omega) (by simp [stepN, hc]), if_pos (by simp [accN]), munch1,
        numLen_digits _ _ (by rw [digLen_cons_pos c t hc]; omega), digLen_cons_pos c t hc, List.drop_succ_cons]; omega
    · have hc' : dg c.toNat = false := by simpa using hc
      have h0 := digLen_cons_zero c t hc'
      have hr : (c :: t).drop (digLen (c :: t)) = c :: t := by rw [h0]; rfl
      by_cases hd : c.toNat = 46
      · rw [munch_step pa c t 0 2 k k (by omega) (by simp [stepN, hd, dot_dg rfl]), if_neg (by simp [accN])]
        by_cases hz : digLen t = 0
        · rw [munch2_no pa t _ _ hz, numLen_zero _ _ (by rw [mant_bare _ pa c t hr hd hz (.inr (by omega)), h0])]; rfl
        · rw [munch_frac pa t 2 _ _ (.inl rfl) hz, numLen_pos _ pa (1 + digLen t) (by rw [mant_frac _ pa c t hr hd hz, h0]) (by omega), Nat.add_comm 1 (digLen t), List.drop_succ_cons]; omega
      · rw [munch_die pa c t 0 k k (by omega) (by simp [stepN, hc, hd]), numLen_zero _ _ (by rw [mant_other _ pa c t hr hd, h0])]; rfl

end Go.Proofs.Qxb6603792a
