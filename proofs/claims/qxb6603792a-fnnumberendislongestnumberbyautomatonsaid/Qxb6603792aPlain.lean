/-
  The plain mathematics of a number at the head of a list of bytes: no Go in sight.
-/
namespace Go.Proofs.Qxb6603792a

def dg (n : Nat) : Bool := decide (48 ≤ n ∧ n ≤ 57)

/-- How many digits stand at the head. -/
def digLen : List UInt8 → Nat
  | [] => 0
  | c :: t => if dg c.toNat = true then digLen t + 1 else 0

/-- The length of the mantissa at the head: digits, a point and digits; 'pa': a lone point may end digits. -/
def mantTail (d : Nat) (pa : Bool) : List UInt8 → Nat
  | [] => d
  | c :: t => if c.toNat = 46 then (if digLen t = 0 then (if pa = true ∧ 0 < d then d + 1 else d) else d + 1 + digLen t) else d
def mantLen (l : List UInt8) (pa : Bool) : Nat := mantTail (digLen l) pa (l.drop (digLen l))

/-- The length of the exponent at the head: 0 where none stands there. -/
def expTail : List UInt8 → Nat
  | [] => 0
  | c :: t => if c.toNat = 43 ∨ c.toNat = 45 then (if digLen t = 0 then 0 else 2 + digLen t) else (if digLen (c :: t) = 0 then 0 else 1 + digLen (c :: t))
def expLen : List UInt8 → Nat
  | [] => 0
  | c :: t => if c.toNat = 101 ∨ c.toNat = 69 then expTail t else 0

/-- The length of the number at the head: 0 where none stands there. -/
def numLen (l : List UInt8) (pa : Bool) : Nat :=
  if mantLen l pa = 0 then 0 else mantLen l pa + expLen (l.drop (mantLen l pa))

theorem digLen_le (l : List UInt8) : digLen l ≤ l.length := by
  induction l with
  | nil => exact Nat.le_refl _
  | cons c t ih =>
    simp only [digLen, List.length_cons]
    split <;> omega

theorem digLen_cons_pos (c : UInt8) (t : List UInt8) (h : dg c.toNat = true) : digLen (c :: t) = digLen t + 1 := by
  simp only [digLen, h, if_true]

theorem digLen_cons_zero (c : UInt8) (t : List UInt8) (h : dg c.toNat = false) : digLen (c :: t) = 0 := by
  simp only [digLen, h]; rfl

theorem mantTail_le (d : Nat) (pa : Bool) (l : List UInt8) : mantTail d pa l ≤ d + l.length := by
  unfold mantTail
  split
  · exact Nat.le_add_right _ _
  · rename_i c t
    have := digLen_le t
    simp only [List.length_cons]
    split
    · split
      · split <;> omega
      · omega
    · omega

theorem mantLen_le (l : List UInt8) (pa : Bool) : mantLen l pa ≤ l.length := by
  unfold mantLen
  have h := mantTail_le (digLen l) pa (l.drop (digLen l))
  have h2 := digLen_le l
  rw [List.length_drop] at h
  omega

theorem expTail_le (l : List UInt8) : expTail l ≤ l.length + 1 := by
  unfold expTail
  split
  · exact Nat.zero_le _
  · rename_i c t
    have := digLen_le t
    have h2 := digLen_le (c :: t)
    simp only [List.length_cons] at *
    split <;> split <;> omega

theorem expLen_le (l : List UInt8) : expLen l ≤ l.length := by
  unfold expLen
  split
  · exact Nat.zero_le _
  · rename_i c t
    have := expTail_le t
    simp only [List.length_cons]
    split <;> omega

theorem numLen_le (l : List UInt8) (pa : Bool) : numLen l pa ≤ l.length := by
  unfold numLen
  split
  · exact Nat.zero_le _
  · have h := mantLen_le l pa
    have h2 := expLen_le (l.drop (mantLen l pa))
    rw [List.length_drop] at h2
    omega

theorem numLen_nil (pa : Bool) : numLen [] pa = 0 := by
  have := numLen_le [] pa
  simpa using this

/-! ### Cutting behind the number -/
theorem digLen_take (l : List UInt8) : ∀ n, digLen l ≤ n → digLen (l.take n) = digLen l := by
  induction l with
  | nil => intro n _; simp [digLen]
  | cons c t ih =>
    intro n hn
    by_cases hc : dg c.toNat = true
    · rw [digLen_cons_pos c t hc] at hn ⊢
      match n with
      | n + 1 => rw [List.take_succ_cons, digLen_cons_pos c _ hc, ih n (by omega)]
    · have hc' : dg c.toNat = false := by simpa using hc
      rw [digLen_cons_zero c t hc']
      match n with
      | 0 => rfl
      | n + 1 => rw [List.take_succ_cons, digLen_cons_zero c _ hc']

theorem mantTail_take (d : Nat) (pa : Bool) (l : List UInt8) (n : Nat) (h : mantTail d pa l ≤ d + n) :
    mantTail d pa (l.take n) = mantTail d pa l := by
  match l, n with
  | [], _ => rw [List.take_nil]
  | c :: t, 0 =>
    rw [List.take_zero]
    simp only [mantTail] at h ⊢
    split
    · rename_i hc
      rw [if_pos hc] at h
      split
      · rename_i hz
        rw [if_pos hz] at h
        split
        · rename_i hp; rw [if_pos hp] at h; omega
        · rfl
      · rename_i hz
        rw [if_neg hz] at h; omega
    · rfl
  | c :: t, n + 1 =>
    rw [List.take_succ_cons]
    simp only [mantTail] at h ⊢
    by_cases hc : c.toNat = 46
    · rw [if_pos hc] at h ⊢
      rw [if_pos hc]
      have hd : digLen (t.take n) = digLen t := by
        apply digLen_take
        by_cases hz : digLen t = 0
        · omega
        · rw [if_neg hz] at h; omega
      rw [hd]
    · rw [if_neg hc, if_neg hc]

theorem mantLen_take (l : List UInt8) (pa : Bool) (n : Nat) (h : mantLen l pa ≤ n) : mantLen (l.take n) pa = mantLen l pa := by
  have hge : digLen l ≤ mantLen l pa := by
    unfold mantLen mantTail
    split
    · exact Nat.le_refl _
    · split
      · split
        · split <;> omega
        · omega
      · exact Nat.le_refl _
  unfold mantLen at h ⊢
  have hd : digLen (l.take n) = digLen l := digLen_take l n (by unfold mantLen at hge; omega)
  rw [hd, List.drop_take]
  unfold mantLen at hge
  exact mantTail_take _ _ _ _ (by omega)

theorem expTail_take (l : List UInt8) (n : Nat) (h : expTail l ≤ n + 1) : expTail (l.take n) = expTail l := by
  match l, n with
  | [], _ => rw [List.take_nil]
  | c :: t, 0 =>
    rw [List.take_zero]
    simp only [expTail] at h ⊢
    split
    · rename_i hc
      rw [if_pos hc] at h
      split
      · rfl
      · rename_i hz; rw [if_neg hz] at h; omega
    · rename_i hc
      rw [if_neg hc] at h
      split
      · rfl
      · rename_i hz; rw [if_neg hz] at h; omega
  | c :: t, n + 1 =>
    rw [List.take_succ_cons]
    simp only [expTail] at h ⊢
    by_cases hc : c.toNat = 43 ∨ c.toNat = 45
    · rw [if_pos hc] at h ⊢
      rw [if_pos hc]
      have hd : digLen (t.take n) = digLen t := by
        apply digLen_take
        by_cases hz : digLen t = 0
        · omega
        · rw [if_neg hz] at h; omega
      rw [hd]
    · rw [if_neg hc] at h ⊢
      rw [if_neg hc]
      have hd : digLen (c :: t.take n) = digLen (c :: t) := by
        have := digLen_take (c :: t) (n + 1) (by
          by_cases hz : digLen (c :: t) = 0
          · omega
          · rw [if_neg hz] at h; omega)
        rwa [List.take_succ_cons] at this
      rw [hd]

theorem expLen_take (l : List UInt8) (n : Nat) (h : expLen l ≤ n) : expLen (l.take n) = expLen l := by
  match l, n with
  | [], _ => rw [List.take_nil]
  | c :: t, 0 =>
    rw [List.take_zero]
    have : expLen (c :: t) = 0 := by omega
    rw [this]; rfl
  | c :: t, n + 1 =>
    rw [List.take_succ_cons]
    simp only [expLen] at h ⊢
    by_cases hc : c.toNat = 101 ∨ c.toNat = 69
    · rw [if_pos hc] at h ⊢
      rw [if_pos hc]
      exact expTail_take t n h
    · rw [if_neg hc, if_neg hc]

/-- The number stands alone: cut behind it, it is the same number. -/
theorem numLen_take (l : List UInt8) (pa : Bool) : numLen (l.take (numLen l pa)) pa = numLen l pa := by
  by_cases hz : mantLen l pa = 0
  · have : numLen l pa = 0 := by unfold numLen; rw [if_pos hz]
    rw [this, List.take_zero, numLen_nil]
  · have e : numLen l pa = mantLen l pa + expLen (l.drop (mantLen l pa)) := by unfold numLen; rw [if_neg hz]
    have hm : mantLen (l.take (numLen l pa)) pa = mantLen l pa := mantLen_take l pa _ (by omega)
    have h1 : numLen (l.take (numLen l pa)) pa = mantLen l pa + expLen ((l.take (numLen l pa)).drop (mantLen l pa)) := by
      rw [numLen, hm, if_neg hz]
    rw [h1, List.drop_take, expLen_take _ _ (by omega), ← e]

/-! ### A lone point never makes it shorter -/
theorem numLen_mono (l : List UInt8) : numLen l false ≤ numLen l true := by
  by_cases hE : mantLen l false = mantLen l true
  · unfold numLen; rw [hE]; exact Nat.le_refl _
  · -- they part only where a point stands that no digit follows
    have hm : ∃ c t, l.drop (digLen l) = c :: t ∧ c.toNat = 46 ∧ digLen t = 0 ∧ 0 < digLen l := by
      unfold mantLen at hE
      match hd : l.drop (digLen l) with
      | [] => rw [hd] at hE; exact absurd rfl hE
      | c :: t =>
        rw [hd] at hE
        simp only [mantTail] at hE
        by_cases hc : c.toNat = 46
        · rw [if_pos hc, if_pos hc] at hE
          by_cases hz : digLen t = 0
          · rw [if_pos hz, if_pos hz] at hE
            by_cases hp : 0 < digLen l
            · exact ⟨c, t, rfl, hc, hz, hp⟩
            · have hp' : digLen l = 0 := by omega
              rw [hp'] at hE
              exact absurd rfl hE
          · rw [if_neg hz, if_neg hz] at hE; exact absurd rfl hE
        · rw [if_neg hc, if_neg hc] at hE; exact absurd rfl hE
    obtain ⟨c, t, hd, hc, hz, hp⟩ := hm
    have m0 : mantLen l false = digLen l := by
      unfold mantLen; rw [hd]; simp only [mantTail]; rw [if_pos hc, if_pos hz, if_neg (by simp)]
    have m1 : mantLen l true = digLen l + 1 := by
      unfold mantLen; rw [hd]; simp only [mantTail]; rw [if_pos hc, if_pos hz, if_pos (by simpa using hp)]
    have n0 : numLen l false = digLen l := by
      unfold numLen
      rw [m0, if_neg (by omega), hd]
      simp only [expLen]
      rw [if_neg (by omega)]; rfl
    have n1 : digLen l + 1 ≤ numLen l true := by
      unfold numLen
      rw [m1, if_neg (by omega)]
      exact Nat.le_add_right _ _
    omega

end Go.Proofs.Qxb6603792a
