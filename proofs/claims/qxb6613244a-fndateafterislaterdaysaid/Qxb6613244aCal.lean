/-
  THE CALENDAR, with no Go in sight: the days of a month, the number of a day, and that numbers and yyyymmdd order real days alike.
-/
namespace Go.Proofs.Qxb6613244a.Cal

def leap (y : Int) : Bool := y % 4 == 0 && (y % 100 != 0 || y % 400 == 0)
def lp (y : Int) : Int := if leap y then 1 else 0
def dim (y m : Int) : Int := if m = 2 then (if leap y then 29 else 28) else if m = 4 ∨ m = 6 ∨ m = 9 ∨ m = 11 then 30 else 31
/-- The days of the first k months. -/
def cum (y : Int) : Nat → Int
  | 0 => 0
  | k + 1 => cum y k + dim y ((k : Int) + 1)
/-- The days of the years ahead of y. -/
def base (y : Int) : Int := (y - 1) * 365 + (y - 1) / 4 - (y - 1) / 100 + (y - 1) / 400
def dayNo (y m d : Int) : Int := base y + cum y (m - 1).toNat + d
def ymd (y m d : Int) : Int := y * 10000 + m * 100 + d
def Real (y m d : Int) : Prop := 1 ≤ y ∧ y ≤ 9999 ∧ 1 ≤ m ∧ m ≤ 12 ∧ 1 ≤ d ∧ d ≤ dim y m

theorem dim_bd (y m : Int) : 28 ≤ dim y m ∧ dim y m ≤ 31 := by
  unfold dim
  split
  · split <;> omega
  · split <;> omega

theorem cum_bd (y : Int) : ∀ k : Nat, 0 ≤ cum y k ∧ cum y k ≤ 31 * k
  | 0 => by simp [cum]
  | k + 1 => by
    have h1 := cum_bd y k
    have h2 := dim_bd y ((k : Int) + 1)
    simp only [cum]
    omega

theorem cum_mono (y : Int) (j : Nat) : ∀ k : Nat, j ≤ k → cum y j ≤ cum y k
  | 0, h => by
    have : j = 0 := by omega
    subst this
    exact Int.le_refl _
  | k + 1, h => by
    by_cases e : j = k + 1
    · subst e; exact Int.le_refl _
    · have h1 := cum_mono y j k (by omega)
      have h2 := dim_bd y ((k : Int) + 1)
      simp only [cum]
      omega

theorem cum_year (y : Int) : cum y 12 = 365 + lp y := by
  simp only [cum, dim, lp]
  cases leap y <;> decide

theorem cum_in (y m d : Int) (h : Real y m d) : cum y (m - 1).toNat + d ≤ cum y m.toNat := by
  obtain ⟨_, _, h3, _, _, h6⟩ := h
  have e : m.toNat = (m - 1).toNat + 1 := by omega
  rw [e]
  simp only [cum]
  have e2 : (((m - 1).toNat : Nat) : Int) + 1 = m := by omega
  rw [e2]
  omega

theorem lp_le (y : Int) : 0 ≤ lp y ∧ lp y ≤ 1 := by unfold lp; split <;> omega

theorem base_succ (y : Int) : base (y + 1) = base y + 365 + lp y := by
  unfold base lp leap
  by_cases h4 : y % 4 = 0
  · by_cases h100 : y % 100 = 0
    · by_cases h400 : y % 400 = 0
      · simp [h4, h100, h400]; omega
      · simp [h4, h100, h400]; omega
    · simp [h4, h100]; omega
  · simp [h4]; omega

theorem base_mono (y y' : Int) (h' : y ≤ y') : base y ≤ base y' := by unfold base; omega

theorem base_bd (y : Int) (h1 : 1 ≤ y) (h2 : y ≤ 9999) : 0 ≤ base y ∧ base y ≤ 4000000 := by unfold base; omega

/-- A REAL DAY THAT COMES EARLIER, BY YEAR, MONTH AND DAY, HAS THE LOWER NUMBER. -/
theorem dayNo_lt {y m d y' m' d' : Int} (h : Real y m d) (h' : Real y' m' d') (hl : y < y' ∨ (y = y' ∧ (m < m' ∨ (m = m' ∧ d < d')))) : dayNo y m d < dayNo y' m' d' := by
  have hin := cum_in y m d h
  obtain ⟨h1, h2, h3, h4, h5, h6⟩ := h
  obtain ⟨g1, g2, g3, g4, g5, g6⟩ := h'
  unfold dayNo
  rcases hl with hy | ⟨rfl, hm | ⟨rfl, hd⟩⟩
  · have a1 := cum_mono y m.toNat 12 (by omega)
    have a2 := cum_year y
    have a3 := base_succ y
    have a4 := base_mono (y + 1) y' (by omega)
    have a5 := (cum_bd y' (m' - 1).toNat).1
    omega
  · have a1 := cum_mono y m.toNat (m' - 1).toNat (by omega)
    omega
  · omega

theorem ymd_lt {y m d y' m' d' : Int} (h : Real y m d) (h' : Real y' m' d') (hl : y < y' ∨ (y = y' ∧ (m < m' ∨ (m = m' ∧ d < d')))) : ymd y m d < ymd y' m' d' := by
  have b1 := dim_bd y m
  have b2 := dim_bd y' m'
  obtain ⟨h1, h2, h3, h4, h5, h6⟩ := h
  obtain ⟨g1, g2, g3, g4, g5, g6⟩ := h'
  unfold ymd
  omega

/-- THE LAW: yyyymmdd and the day's number order two real days alike. -/
theorem alike {y m d y' m' d' : Int} (h : Real y m d) (h' : Real y' m' d') : ymd y' m' d' < ymd y m d ↔ dayNo y' m' d' < dayNo y m d := by
  rcases (show (y < y' ∨ (y = y' ∧ (m < m' ∨ (m = m' ∧ d < d')))) ∨ (y' < y ∨ (y' = y ∧ (m' < m ∨ (m' = m ∧ d' < d)))) ∨ (y = y' ∧ m = m' ∧ d = d') by omega) with hl | hl | ⟨rfl, rfl, rfl⟩
  · have a := dayNo_lt h h' hl
    have b := ymd_lt h h' hl
    omega
  · have a := dayNo_lt h' h hl
    have b := ymd_lt h' h hl
    omega
  · omega

theorem ymd_bd {y m d : Int} (h : Real y m d) : 0 < ymd y m d ∧ ymd y m d ≤ 99991231 := by
  have b1 := dim_bd y m
  obtain ⟨h1, h2, h3, h4, h5, h6⟩ := h
  unfold ymd
  omega

end Go.Proofs.Qxb6613244a.Cal
