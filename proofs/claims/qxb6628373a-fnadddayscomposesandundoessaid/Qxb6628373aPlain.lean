namespace Go.Proofs.Qxb6628373a
set_option linter.unusedVariables false
set_option maxHeartbeats 4000000

abbrev leap (y : Int) : Prop := y % 4 = 0 ∧ (y % 100 ≠ 0 ∨ y % 400 = 0)

/-- the days of a month -/
def dim (y m : Int) : Int :=
  if m = 2 then (if leap y then 29 else 28) else if m = 4 ∨ m = 6 ∨ m = 9 ∨ m = 11 then 30 else 31

/-- the year that starts in March -/
def ya (y m : Int) : Int := if m ≤ 2 then y - 1 else y
def mpOf (m : Int) : Int := if 2 < m then m - 3 else m + 9

/-- the day number, in closed form -/
def dnum (y m d : Int) : Int :=
  (ya y m / 400) * 146097 + ((ya y m % 400) * 365 + (ya y m % 400) / 4 - (ya y m % 400) / 100 + ((153 * mpOf m + 2) / 5 + d - 1)) - 719468

def yoeOf (doe : Int) : Int := (doe - doe / 1460 + doe / 36524 - doe / 146096) / 365
def doyOf (doe : Int) : Int := doe - (365 * yoeOf doe + yoeOf doe / 4 - yoeOf doe / 100)
def mpAt (doe : Int) : Int := (5 * doyOf doe + 2) / 153
def dayAt (doe : Int) : Int := doyOf doe - (153 * mpAt doe + 2) / 5 + 1
def monAt (doe : Int) : Int := if mpAt doe < 10 then mpAt doe + 3 else mpAt doe - 9

def eraOf (z : Int) : Int := (z + 719468) / 146097
def doeOf (z : Int) : Int := (z + 719468) % 146097
def civM (z : Int) : Int := monAt (doeOf z)
def civD (z : Int) : Int := dayAt (doeOf z)
def civY (z : Int) : Int := yoeOf (doeOf z) + eraOf z * 400 + (if monAt (doeOf z) ≤ 2 then 1 else 0)

def Valid (y m d : Int) : Prop := 1 ≤ m ∧ m ≤ 12 ∧ 1 ≤ d ∧ d ≤ dim y m

theorem dim_ge (y m : Int) : 28 ≤ dim y m := by unfold dim; split <;> (try split) <;> omega
theorem dim_le (y m : Int) : dim y m ≤ 31 := by unfold dim; split <;> (try split) <;> omega

/-- the year's part of the day number -/
theorem yearPart (s : Int) : (s / 400) * 146097 + ((s % 400) * 365 + (s % 400) / 4 - (s % 400) / 100) = 365 * s + s / 4 - s / 100 + s / 400 := by
  omega

theorem dnum_eq (y m d : Int) : dnum y m d = 365 * ya y m + ya y m / 4 - ya y m / 100 + ya y m / 400 + ((153 * mpOf m + 2) / 5 + d - 1) - 719468 := by
  have := yearPart (ya y m)
  unfold dnum
  omega

theorem leap_step (y : Int) : (365 * y + y / 4 - y / 100 + y / 400) - (365 * (y - 1) + (y - 1) / 4 - (y - 1) / 100 + (y - 1) / 400) = if leap y then 366 else 365 := by
  by_cases h : leap y
  · rw [if_pos h]; unfold leap at h; omega
  · rw [if_neg h]; unfold leap at h; omega

/-- one month on, inside the year -/
theorem step_in {y m d : Int} (h1 : 1 ≤ m) (h2 : m < 12) : dnum y m d = dnum y (m + 1) (d - dim y m) := by
  rw [dnum_eq, dnum_eq]
  have hl := leap_step y
  have : m = 1 ∨ m = 2 ∨ m = 3 ∨ m = 4 ∨ m = 5 ∨ m = 6 ∨ m = 7 ∨ m = 8 ∨ m = 9 ∨ m = 10 ∨ m = 11 := by omega
  rcases this with rfl | rfl | rfl | rfl | rfl | rfl | rfl | rfl | rfl | rfl | rfl
  · simp [ya, mpOf, dim]; omega
  · rw [show ya y 2 = y - 1 from by simp [ya], show ya y (2 + 1) = y from by simp [ya], show mpOf 2 = 11 from by simp [mpOf],
      show mpOf (2 + 1) = 0 from by simp [mpOf], show dim y 2 = if leap y then 29 else 28 from by simp only [dim, if_true]]
    by_cases h : leap y
    · rw [if_pos h] at hl ⊢; omega
    · rw [if_neg h] at hl ⊢; omega
  all_goals (simp [ya, mpOf, dim]; omega)

/-- from December into January -/
theorem step_over {y d : Int} : dnum y 12 d = dnum (y + 1) 1 (d - dim y 12) := by
  rw [dnum_eq, dnum_eq]
  simp [ya, mpOf, dim]
  omega

theorem yoe_at {c q r t doe : Int} (hc : 0 ≤ c ∧ c ≤ 3) (hq : 0 ≤ q ∧ q ≤ 24) (hr : 0 ≤ r ∧ r ≤ 3) (ht : 0 ≤ t ∧ t ≤ 365)
    (h : t = 365 → r = 3 ∧ (q ≠ 24 ∨ c = 3)) (e : doe = 36524 * c + 1461 * q + 365 * r + t) :
    yoeOf doe = 100 * c + 4 * q + r := by
  unfold yoeOf
  have hc' : c = 0 ∨ c = 1 ∨ c = 2 ∨ c = 3 := by omega
  have hr' : r = 0 ∨ r = 1 ∨ r = 2 ∨ r = 3 := by omega
  have h0 : doe / 146096 = 0 ∨ (doe / 146096 = 1 ∧ doe = 146096) := by omega
  have h1 : doe / 36524 = c + doe / 146096 := by omega
  rw [h1]
  have h2 : doe / 1460 = 25 * c + q + (24 * c + q + 365 * r + t) / 1460 := by omega
  rw [h2]
  omega

theorem yoe_of {s t doe : Int} (hs : 0 ≤ s ∧ s < 400) (ht : 0 ≤ t ∧ t ≤ 365) (h : t = 365 → leap (s + 1))
    (e : doe = s * 365 + s / 4 - s / 100 + t) : yoeOf doe = s := by
  have := yoe_at (c := s / 100) (q := s % 100 / 4) (r := s % 4) (t := t) (doe := doe) (by omega) (by omega) (by omega) ht
    (by intro h'; have := h h'; unfold leap at this; omega) (by omega)
  rw [this]; omega

theorem civ_valid {y m d : Int} (h : Valid y m d) :
    civY (dnum y m d) = y ∧ civM (dnum y m d) = m ∧ civD (dnum y m d) = d := by
  obtain ⟨h1, h2, h3, h4⟩ := h
  have hd31 := dim_le y m
  -- the day of the year
  have ht : 0 ≤ (153 * mpOf m + 2) / 5 + d - 1 ∧ (153 * mpOf m + 2) / 5 + d - 1 ≤ 365 := by
    unfold dim at h4; unfold mpOf
    repeat' split at h4
    all_goals (split <;> omega)
  have hl : (153 * mpOf m + 2) / 5 + d - 1 = 365 → leap (ya y m % 400 + 1) := by
    intro he
    have hm : m = 2 := by
      unfold dim at h4; unfold mpOf at he
      repeat' split at h4
      all_goals (split at he <;> omega)
    subst hm
    have : leap y := by
      unfold dim at h4; simp [mpOf] at he
      simp at h4
      split at h4
      · assumption
      · omega
    unfold leap ya at *
    simp
    omega
  have hs : 0 ≤ ya y m % 400 ∧ ya y m % 400 < 400 := by omega
  have hdoe : doeOf (dnum y m d) = (ya y m % 400) * 365 + (ya y m % 400) / 4 - (ya y m % 400) / 100 + ((153 * mpOf m + 2) / 5 + d - 1) := by
    unfold doeOf dnum
    have := hl
    unfold leap at this
    omega
  have hera : eraOf (dnum y m d) = ya y m / 400 := by
    unfold eraOf dnum
    have := hl
    unfold leap at this
    omega
  have hyoe := yoe_of hs ht hl hdoe
  have hdoy : doyOf (doeOf (dnum y m d)) = (153 * mpOf m + 2) / 5 + d - 1 := by
    unfold doyOf; rw [hyoe, hdoe]; omega
  have hmp : mpAt (doeOf (dnum y m d)) = mpOf m := by
    unfold mpAt; rw [hdoy]
    unfold dim at h4; unfold mpOf
    have : m = 1 ∨ m = 2 ∨ m = 3 ∨ m = 4 ∨ m = 5 ∨ m = 6 ∨ m = 7 ∨ m = 8 ∨ m = 9 ∨ m = 10 ∨ m = 11 ∨ m = 12 := by omega
    rcases this with rfl | rfl | rfl | rfl | rfl | rfl | rfl | rfl | rfl | rfl | rfl | rfl
    all_goals (simp at h4 ⊢)
    all_goals (try split at h4)
    all_goals omega
  have hM : monAt (doeOf (dnum y m d)) = m := by
    unfold monAt; rw [hmp]; unfold mpOf; split <;> split <;> omega
  refine ⟨?_, hM, ?_⟩
  · unfold civY; rw [hM, hyoe, hera]; unfold ya; split <;> omega
  · unfold civD dayAt; rw [hdoy, hmp]; omega

/-- what the round trip tells -/
theorem valid_of_civ {y m d : Int} (h1 : 1 ≤ m) (h2 : m ≤ 12) (h3 : 1 ≤ d) (h4 : d ≤ 31)
    (e : civM (dnum y m d) = m) : Valid y m d := by
  refine ⟨h1, h2, h3, ?_⟩
  false_or_by_contra
  rename_i hn
  have hg := dim_ge y m
  by_cases h : m < 12
  · rw [step_in h1 h] at e
    have := dim_ge y (m + 1)
    have := (civ_valid (y := y) (m := m + 1) (d := d - dim y m) ⟨by omega, by omega, by omega, by omega⟩).2.1
    omega
  · obtain rfl : m = 12 := by omega
    rw [step_over] at e
    have := dim_ge (y + 1) 1
    have := (civ_valid (y := y + 1) (m := 1) (d := d - dim y 12) ⟨by omega, by omega, by omega, by omega⟩).2.1
    omega

end Go.Proofs.Qxb6628373a
