/-
  The plain mathematics of the calendar: no Go in sight.
-/
namespace Go.Proofs.Qxb6603792a

/-- The Gregorian rule, by Go's own remainder. -/
def leap (y : Int) : Bool := if y.tmod 400 = 0 then true else if y.tmod 100 = 0 then false else decide (y.tmod 4 = 0)

/-- The days of the year before the first of month m. -/
def db0 (m : Int) : Int :=
  if m = 1 then 0 else if m = 2 then 31 else if m = 3 then 59 else if m = 4 then 90 else if m = 5 then 120 else if m = 6 then 151
  else if m = 7 then 181 else if m = 8 then 212 else if m = 9 then 243 else if m = 10 then 273 else if m = 11 then 304 else if m = 12 then 334 else 365
def db (m : Int) (lp : Bool) : Int := db0 m + (if lp = true ∧ 2 < m then 1 else 0)

/-- The days of month m. -/
def dim (lp : Bool) (m : Int) : Int :=
  if m = 2 then (if lp = true then 29 else 28) else if m = 4 ∨ m = 6 ∨ m = 9 ∨ m = 11 then 30 else 31

theorem month_cases (m : Int) (h1 : 1 ≤ m) (h2 : m ≤ 13) :
    m = 1 ∨ m = 2 ∨ m = 3 ∨ m = 4 ∨ m = 5 ∨ m = 6 ∨ m = 7 ∨ m = 8 ∨ m = 9 ∨ m = 10 ∨ m = 11 ∨ m = 12 ∨ m = 13 := by omega

theorem db_succ (m : Int) (lp : Bool) (h1 : 1 ≤ m) (h2 : m ≤ 12) : db (m + 1) lp = db m lp + dim lp m := by
  rcases month_cases m h1 (by omega) with h | h | h | h | h | h | h | h | h | h | h | h | h <;> subst h <;> cases lp <;> first | rfl | decide | omega

theorem dim_bd (lp : Bool) (m : Int) : 28 ≤ dim lp m ∧ dim lp m ≤ 31 := by
  unfold dim; split
  · split <;> omega
  · split <;> omega

theorem db_bd (m : Int) (lp : Bool) : 0 ≤ db m lp ∧ db m lp ≤ 366 := by
  unfold db db0
  repeat' split
  all_goals omega

theorem db_one (lp : Bool) : db 1 lp = 0 := by cases lp <;> rfl

theorem db_last (m : Int) (lp : Bool) (h1 : 1 ≤ m) (h2 : m ≤ 12) : db m lp + dim lp m ≤ db 13 lp ∧ (m < 12 → db m lp + dim lp m < db 13 lp) ∧ (m = 12 → db m lp + dim lp m = db 13 lp) := by
  rcases month_cases m h1 (by omega) with h | h | h | h | h | h | h | h | h | h | h | h | h <;> subst h <;> cases lp <;> first | decide | omega

/-- The months' firsts rise. -/
theorem db_mono (m n : Int) (lp : Bool) (h1 : 1 ≤ m) (h : m ≤ n) (h2 : n ≤ 13) : db m lp ≤ db n lp := by
  obtain ⟨k, rfl⟩ : ∃ k : Nat, n = m + k := ⟨(n - m).toNat, by omega⟩
  clear h
  induction k with
  | zero => simp
  | succ k ih =>
    have i := ih (by omega)
    have e := db_succ (m + k) lp (by omega) (by omega)
    have b := dim_bd lp (m + k)
    have e2 : m + ((k + 1 : Nat) : Int) = m + k + 1 := by omega
    rw [e2, e]; omega

/-- What the next second of a datetime reads, said by the count t of seconds since the year's start; y': the year behind y. -/
structure Next (lp : Bool) (y y' t ny nmo nd nh nmi ns : Int) : Prop where
  lo : 1 ≤ nmo
  hi : nmo ≤ 12
  how : (t = db 13 lp * 86400 ∧ ny = y' ∧ nmo = 1 ∧ nd = 1 ∧ nh = 0 ∧ nmi = 0 ∧ ns = 0) ∨
    (t ≠ db 13 lp * 86400 ∧ ny = y ∧ t % 60 = ns ∧ t / 60 % 60 = nmi ∧ t / 3600 % 24 = nh ∧ db nmo lp ≤ t / 86400 ∧ (nmo = 12 ∨ t / 86400 < db (nmo + 1) lp) ∧ t / 86400 - db nmo lp + 1 = nd)

def count (lp : Bool) (mo d h mi s : Int) : Int := (db mo lp + d - 1) * 86400 + h * 3600 + mi * 60 + s + 1

theorem next_same (lp : Bool) (y y' mo d h mi s nh nmi ns : Int) (m1 : 1 ≤ mo) (m2 : mo ≤ 12) (d1 : 1 ≤ d) (d2 : d ≤ dim lp mo)
    (e : nh * 3600 + nmi * 60 + ns = h * 3600 + mi * 60 + s + 1) (a : 0 ≤ nh) (b : nh ≤ 23) (c : 0 ≤ nmi) (f : nmi ≤ 59) (g : 0 ≤ ns) (i : ns ≤ 59) :
    Next lp y y' (count lp mo d h mi s) y mo d nh nmi ns := by
  have hs := db_succ mo lp m1 m2
  have hl := db_last mo lp m1 m2
  refine ⟨m1, m2, .inr ?_⟩
  unfold count
  rw [hs]
  generalize db mo lp = D at *
  generalize db 13 lp = Z at *
  generalize dim lp mo = L at *
  refine ⟨by omega, rfl, by omega, by omega, by omega, by omega, .inr (by omega), by omega⟩

theorem next_day (lp : Bool) (y y' mo d : Int) (m1 : 1 ≤ mo) (m2 : mo ≤ 12) (d1 : 1 ≤ d) (d2 : d + 1 ≤ dim lp mo) :
    Next lp y y' (count lp mo d 23 59 59) y mo (d + 1) 0 0 0 := by
  have hs := db_succ mo lp m1 m2
  have hl := db_last mo lp m1 m2
  refine ⟨m1, m2, .inr ?_⟩
  unfold count
  rw [hs]
  generalize db mo lp = D at *
  generalize db 13 lp = Z at *
  generalize dim lp mo = L at *
  refine ⟨by omega, rfl, by omega, by omega, by omega, by omega, .inr (by omega), by omega⟩

theorem next_month (lp : Bool) (y y' mo d : Int) (m1 : 1 ≤ mo) (m2 : mo < 12) (d2 : d = dim lp mo) :
    Next lp y y' (count lp mo d 23 59 59) y (mo + 1) 1 0 0 0 := by
  have hs := db_succ mo lp m1 (by omega)
  have hl := db_last mo lp m1 (by omega)
  have hs2 := db_succ (mo + 1) lp (by omega) (by omega)
  have hb := dim_bd lp (mo + 1)
  refine ⟨by omega, by omega, .inr ?_⟩
  unfold count
  rw [hs2, hs]
  generalize db mo lp = D at *
  generalize db 13 lp = Z at *
  generalize dim lp (mo + 1) = L2 at *
  generalize dim lp mo = L at *
  refine ⟨by omega, rfl, by omega, by omega, by omega, by omega, .inr (by omega), by omega⟩

theorem next_year (lp : Bool) (y y' d : Int) (d2 : d = dim lp 12) :
    Next lp y y' (count lp 12 d 23 59 59) y' 1 1 0 0 0 := by
  have hl := (db_last 12 lp (by omega) (by omega)).2.2 rfl
  refine ⟨by omega, by omega, .inl ⟨?_, rfl, rfl, rfl, rfl, rfl, rfl⟩⟩
  unfold count
  omega

end Go.Proofs.Qxb6603792a
