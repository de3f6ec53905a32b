import PyProof.Rows.All
import Wide.All
import OpenK.AllK
import Wide.FinOn
import PySem.Challenge.RW_ad5035_01
/-! ad5035-01. Three parts. (1) The plain law (D0, M1 to M8): the program's functions and the law's own reckoning in plain integers, and that they agree.
(2) Floats (F1 to F3): every float of the program is a quarter, a quotient that is floored, or one of a few written tails; walk rules over these.
(3) The walk (C0, W1 to W27): one contract a def, proved once by the library's walk, used at its calls; the law last. -/
set_option Elab.async false
set_option maxRecDepth 100000
set_option maxHeartbeats 8000000
set_option linter.all false
set_option rowWalk.seconds 0
section
namespace Mine
open_top hd for PySem.Challenge.rw_ad5035_01
end Mine
end
/-! D0 -/
section
/-! ## Plain integers: the Gregorian and the Hebrew day counts, the law's own civil date -/
namespace Mine
/-- a Gregorian leap year -/
def leapB (y : Int) : Bool := decide (y % 4 = 0 ∧ (y % 100 ≠ 0 ∨ y % 400 = 0))
/-- a Gregorian month's length -/
def dimG (y m : Int) : Int := if m = 2 then (if leapB y = true then 29 else 28) else if m = 4 ∨ m = 6 ∨ m = 9 ∨ m = 11 then 30 else 31
/-- the Gregorian day (the half left off) -/
def gjd (y m d : Int) : Int := 1721425 - 1 + 365 * (y - 1) + (y - 1) / 4 - (y - 1) / 100 + (y - 1) / 400 + ((367 * m - 362) / 12 + (if m ≤ 2 then 0 else if leapB y = true then -1 else -2) + d)
/-- the Hebrew year's first delay -/
def d1 (y : Int) : Int :=
  let months := (235 * y - 234) / 19
  let day := months * 29 + (12084 + 13753 * months) / 25920
  if 3 * (day + 1) % 7 < 3 then day + 1 else day
/-- the second delay -/
def d2 (y : Int) : Int := if d1 (y + 1) - d1 y = 356 then 2 else if d1 y - d1 (y - 1) = 382 then 1 else 0
/-! the law's civil date of a day -/
def cR (n : Int) : Int := (n - 1721120) / 146097
def cL0 (n : Int) : Int := (n - 1721120) % 146097
def cH (n : Int) : Int := min (cL0 n / 36524) 3
def cL1 (n : Int) : Int := cL0 n - 36524 * cH n
def cF (n : Int) : Int := cL1 n / 1461
def cL2 (n : Int) : Int := cL1 n - 1461 * cF n
def cO (n : Int) : Int := min (cL2 n / 365) 3
def cL (n : Int) : Int := cL2 n - 365 * cO n
def cY (n : Int) : Int := 400 * cR n + 100 * cH n + 4 * cF n + cO n
def cMD (l : Int) : Int × Int :=
  if l < 31 then (3, l) else if l < 61 then (4, l - 31) else if l < 92 then (5, l - 61) else if l < 122 then (6, l - 92)
  else if l < 153 then (7, l - 122) else if l < 184 then (8, l - 153) else if l < 214 then (9, l - 184) else if l < 245 then (10, l - 214)
  else if l < 275 then (11, l - 245) else if l < 306 then (12, l - 275) else if l < 337 then (13, l - 306) else (14, l - 337)
def civY (n : Int) : Int := if 12 < (cMD (cL n)).1 then cY n + 1 else cY n
def civM (n : Int) : Int := if 12 < (cMD (cL n)).1 then (cMD (cL n)).1 - 12 else (cMD (cL n)).1
def civD (n : Int) : Int := (cMD (cL n)).2 + 1
end Mine
end
/-! M1 -/
section
namespace Mine
/-! ## The Gregorian calendar, in plain integers -/
theorem dimG_le (y m : Int) : 28 ≤ dimG y m ∧ dimG y m ≤ 31 := by
  unfold dimG; repeat' split
  all_goals omega
def jan1 (y : Int) : Int := 1721425 + 365 * (y - 1) + (y - 1) / 4 - (y - 1) / 100 + (y - 1) / 400
theorem gjd_jan1 (y : Int) : gjd y 1 1 = jan1 y := by
  unfold gjd jan1; rw [if_pos (by decide)]; omega
def leapI (y : Int) : Int := if leapB y = true then 1 else 0
theorem leapI_cases (y : Int) : (leapI y = 1 ∧ leapB y = true ∧ y % 4 = 0 ∧ (y % 100 ≠ 0 ∨ y % 400 = 0)) ∨ (leapI y = 0 ∧ leapB y = false ∧ ¬ (y % 4 = 0 ∧ (y % 100 ≠ 0 ∨ y % 400 = 0))) := by
  unfold leapI
  by_cases h : y % 4 = 0 ∧ (y % 100 ≠ 0 ∨ y % 400 = 0)
  · left
    have : leapB y = true := by unfold leapB; exact decide_eq_true h
    rw [if_pos this]; exact ⟨rfl, this, h⟩
  · right
    have : leapB y = false := by unfold leapB; exact decide_eq_false h
    rw [if_neg (by rw [this]; decide)]; exact ⟨rfl, this, h⟩
theorem jan1_succ (y : Int) : jan1 (y + 1) = jan1 y + 365 + leapI y := by
  unfold jan1
  rcases leapI_cases y with ⟨h, _, h2⟩ | ⟨h, _, h2⟩ <;> rw [h] <;> omega
theorem jan1_mono {y z : Int} (h : y < z) : jan1 (y + 1) ≤ jan1 z := by
  unfold jan1; omega

/-- the year as from_jd reckons it, from a day's distance a b c e -/
theorem year_core {z a b c e : Int} (ha : a = z / 146097) (hb : b = z % 146097 / 36524) (hc : c = z % 146097 % 36524 / 1461) (he : e = z % 146097 % 36524 % 1461 / 365) :
    ((b = 4 ∨ e = 4) → jan1 (a * 400 + b * 100 + c * 4 + e) ≤ z + 1721425 ∧ z + 1721425 ≤ jan1 (a * 400 + b * 100 + c * 4 + e) + 364 + leapI (a * 400 + b * 100 + c * 4 + e)) ∧
    ((b ≠ 4 ∧ e ≠ 4) → jan1 (a * 400 + b * 100 + c * 4 + e + 1) ≤ z + 1721425 ∧ z + 1721425 ≤ jan1 (a * 400 + b * 100 + c * 4 + e + 1) + 364 + leapI (a * 400 + b * 100 + c * 4 + e + 1)) := by
  have h1 : z = 146097 * a + z % 146097 := by omega
  have h2 : 0 ≤ z % 146097 ∧ z % 146097 < 146097 := by omega
  generalize z % 146097 = r1 at *
  have h3 : r1 = 36524 * b + r1 % 36524 := by omega
  have h4 : 0 ≤ r1 % 36524 ∧ r1 % 36524 < 36524 := by omega
  generalize r1 % 36524 = r2 at *
  have h5 : r2 = 1461 * c + r2 % 1461 := by omega
  have h6 : 0 ≤ r2 % 1461 ∧ r2 % 1461 < 1461 := by omega
  generalize r2 % 1461 = r3 at *
  have h7 : 365 * e ≤ r3 ∧ r3 < 365 * e + 365 := by omega
  clear ha hb hc he
  have hb4 : 0 ≤ b ∧ b ≤ 4 := by omega
  have hc24 : 0 ≤ c ∧ c ≤ 24 := by omega
  have he4 : 0 ≤ e ∧ e ≤ 4 := by omega
  constructor
  · intro hcase
    have hY : ∀ Y, Y = a * 400 + b * 100 + c * 4 + e → jan1 Y ≤ z + 1721425 ∧ z + 1721425 ≤ jan1 Y + 364 + leapI Y := by
      intro Y hY
      rcases hcase with h | h
      · -- the last day of a round of 400 years
        have hc0 : c = 0 := by omega
        have he0 : e = 0 := by omega
        have e1 : (Y - 1) / 4 = 100 * a + 99 := by omega
        have e2 : (Y - 1) / 100 = 4 * a + 3 := by omega
        have e3 : (Y - 1) / 400 = a := by omega
        unfold jan1
        rw [e1, e2, e3]
        rcases leapI_cases Y with ⟨h8, _, h9⟩ | ⟨h8, _, h9⟩ <;> rw [h8] <;> omega
      · by_cases hb44 : b = 4
        · exfalso; omega
        have e1 : (Y - 1) / 4 = 100 * a + 25 * b + c := by omega
        have e2 : (Y - 1) / 100 = 4 * a + b := by omega
        have e3 : (Y - 1) / 400 = a := by omega
        unfold jan1
        rw [e1, e2, e3]
        rcases leapI_cases Y with ⟨h8, _, h9⟩ | ⟨h8, _, h9⟩ <;> rw [h8] <;> omega
    exact hY _ rfl
  · intro hcase
    have hY : ∀ Y, Y = a * 400 + b * 100 + c * 4 + e + 1 → jan1 Y ≤ z + 1721425 ∧ z + 1721425 ≤ jan1 Y + 364 + leapI Y := by
      intro Y hY
      have e1 : (Y - 1) / 4 = 100 * a + 25 * b + c := by omega
      have e2 : (Y - 1) / 100 = 4 * a + b := by omega
      have e3 : (Y - 1) / 400 = a := by omega
      unfold jan1
      rw [e1, e2, e3]
      rcases leapI_cases Y with ⟨h8, _, h9⟩ | ⟨h8, _, h9⟩ <;> rw [h8] <;> omega
    exact hY _ rfl
/-- good: the year of the day n -/
def good (Y n : Int) : Prop := gjd Y 1 1 ≤ n ∧ n ≤ gjd Y 1 1 + 365 ∧ (leapB Y = false → n ≤ gjd Y 1 1 + 364)
theorem good_of {Y n : Int} (h : jan1 Y ≤ n ∧ n ≤ jan1 Y + 364 + leapI Y) : good Y n := by
  unfold good
  rw [gjd_jan1]
  rcases leapI_cases Y with ⟨h8, h9, _⟩ | ⟨h8, h9, _⟩
  · exact ⟨h.1, by omega, fun h2 => by rw [h9] at h2; cases h2⟩
  · exact ⟨h.1, by omega, fun _ => by omega⟩
theorem of_good {Y n : Int} (h : good Y n) : jan1 Y ≤ n ∧ n ≤ jan1 Y + 364 + leapI Y := by
  unfold good at h
  rw [gjd_jan1] at h
  rcases leapI_cases Y with ⟨h8, h9, _⟩ | ⟨h8, h9, _⟩
  · exact ⟨h.1, by omega⟩
  · exact ⟨h.1, by have := h.2.2 h9; omega⟩
theorem good_unique {Y Z n : Int} (h : good Y n) (h2 : good Z n) : Y = Z := by
  have a := of_good h
  have b := of_good h2
  have s1 := jan1_succ Y
  have s2 := jan1_succ Z
  rcases Int.lt_trichotomy Y Z with c | c | c
  · have := jan1_mono c; omega
  · exact c
  · have := jan1_mono c; omega
abbrev rawY (n : Int) : Int := (n - 1721425) / 146097 * 400 + (n - 1721425) % 146097 / 36524 * 100 + (n - 1721425) % 146097 % 36524 / 1461 * 4 + (n - 1721425) % 146097 % 36524 % 1461 / 365
theorem year_A (n : Int) (h : (n - 1721425) % 146097 / 36524 = 4 ∨ (n - 1721425) % 146097 % 36524 % 1461 / 365 = 4) : good ((n - 1721425) / 146097 * 400 + (n - 1721425) % 146097 / 36524 * 100 + (n - 1721425) % 146097 % 36524 / 1461 * 4 + (n - 1721425) % 146097 % 36524 % 1461 / 365) n := by
  have := (year_core (z := n - 1721425) rfl rfl rfl rfl).1 h
  rw [show n - 1721425 + 1721425 = n by omega] at this
  exact good_of this
theorem year_B (n : Int) (h : (n - 1721425) % 146097 / 36524 ≠ 4) (h2 : (n - 1721425) % 146097 % 36524 % 1461 / 365 ≠ 4) : good ((n - 1721425) / 146097 * 400 + (n - 1721425) % 146097 / 36524 * 100 + (n - 1721425) % 146097 % 36524 / 1461 * 4 + (n - 1721425) % 146097 % 36524 % 1461 / 365 + 1) n := by
  have := (year_core (z := n - 1721425) rfl rfl rfl rfl).2 ⟨h, h2⟩
  rw [show n - 1721425 + 1721425 = n by omega] at this
  exact good_of this

/-- the month's days ahead, behind 1 January -/
theorem gjd_rel (y m d : Int) : gjd y m d = jan1 y + ((367 * m - 362) / 12 + (if m ≤ 2 then 0 else leapI y - 2) + d - 1) := by
  unfold gjd jan1 leapI
  by_cases h : m ≤ 2
  · rw [if_pos h, if_pos h]; omega
  · rw [if_neg h, if_neg h]
    split <;> omega
theorem valid_range {y m d : Int} (hm1 : 1 ≤ m) (hm2 : m ≤ 12) (h1 : 1 ≤ d) (h2 : d ≤ dimG y m) : good y (gjd y m d) := by
  refine good_of ?_
  rw [gjd_rel]
  have hc : m = 1 ∨ m = 2 ∨ m = 3 ∨ m = 4 ∨ m = 5 ∨ m = 6 ∨ m = 7 ∨ m = 8 ∨ m = 9 ∨ m = 10 ∨ m = 11 ∨ m = 12 := by omega
  unfold dimG at h2
  rcases leapI_cases y with ⟨h8, h9, _⟩ | ⟨h8, h9, _⟩ <;> rw [h9] at h2 <;> rw [h8] <;>
    rcases hc with rfl | rfl | rfl | rfl | rfl | rfl | rfl | rfl | rfl | rfl | rfl | rfl <;> simp at h2 ⊢ <;> omega
end Mine
end
/-! M2 -/
section
namespace Mine
theorem cMD_cases (l : Int) (h0 : 0 ≤ l) (h1 : l < 366) : ∃ m d, cMD l = (m, d) ∧ 3 ≤ m ∧ m ≤ 14 ∧ 0 ≤ d ∧ l = (153 * m - 457) / 5 + d ∧ l < (153 * m - 304) / 5 := by
  have hl : (0 ≤ l ∧ l < 31) ∨ (31 ≤ l ∧ l < 61) ∨ (61 ≤ l ∧ l < 92) ∨ (92 ≤ l ∧ l < 122) ∨ (122 ≤ l ∧ l < 153) ∨ (153 ≤ l ∧ l < 184) ∨ (184 ≤ l ∧ l < 214) ∨ (214 ≤ l ∧ l < 245) ∨ (245 ≤ l ∧ l < 275) ∨ (275 ≤ l ∧ l < 306) ∨ (306 ≤ l ∧ l < 337) ∨ (337 ≤ l ∧ l < 366) := by omega
  rcases hl with ⟨a, b⟩ | ⟨a, b⟩ | ⟨a, b⟩ | ⟨a, b⟩ | ⟨a, b⟩ | ⟨a, b⟩ | ⟨a, b⟩ | ⟨a, b⟩ | ⟨a, b⟩ | ⟨a, b⟩ | ⟨a, b⟩ | ⟨a, b⟩
  · exact ⟨3, l - 0, by unfold cMD; rw [if_pos b]; simp, by decide, by decide, by omega, by omega, by omega⟩
  · exact ⟨4, l - 31, by unfold cMD; rw [if_neg (Int.not_lt.mpr (Int.le_trans (by decide : (31 : Int) ≤ 31) a)), if_pos b], by decide, by decide, by omega, by omega, by omega⟩
  · exact ⟨5, l - 61, by unfold cMD; rw [if_neg (Int.not_lt.mpr (Int.le_trans (by decide : (31 : Int) ≤ 61) a)), if_neg (Int.not_lt.mpr (Int.le_trans (by decide : (61 : Int) ≤ 61) a)), if_pos b], by decide, by decide, by omega, by omega, by omega⟩
  · exact ⟨6, l - 92, by unfold cMD; rw [if_neg (Int.not_lt.mpr (Int.le_trans (by decide : (31 : Int) ≤ 92) a)), if_neg (Int.not_lt.mpr (Int.le_trans (by decide : (61 : Int) ≤ 92) a)), if_neg (Int.not_lt.mpr (Int.le_trans (by decide : (92 : Int) ≤ 92) a)), if_pos b], by decide, by decide, by omega, by omega, by omega⟩
  · exact ⟨7, l - 122, by unfold cMD; rw [if_neg (Int.not_lt.mpr (Int.le_trans (by decide : (31 : Int) ≤ 122) a)), if_neg (Int.not_lt.mpr (Int.le_trans (by decide : (61 : Int) ≤ 122) a)), if_neg (Int.not_lt.mpr (Int.le_trans (by decide : (92 : Int) ≤ 122) a)), if_neg (Int.not_lt.mpr (Int.le_trans (by decide : (122 : Int) ≤ 122) a)), if_pos b], by decide, by decide, by omega, by omega, by omega⟩
  · exact ⟨8, l - 153, by unfold cMD; rw [if_neg (Int.not_lt.mpr (Int.le_trans (by decide : (31 : Int) ≤ 153) a)), if_neg (Int.not_lt.mpr (Int.le_trans (by decide : (61 : Int) ≤ 153) a)), if_neg (Int.not_lt.mpr (Int.le_trans (by decide : (92 : Int) ≤ 153) a)), if_neg (Int.not_lt.mpr (Int.le_trans (by decide : (122 : Int) ≤ 153) a)), if_neg (Int.not_lt.mpr (Int.le_trans (by decide : (153 : Int) ≤ 153) a)), if_pos b], by decide, by decide, by omega, by omega, by omega⟩
  · exact ⟨9, l - 184, by unfold cMD; rw [if_neg (Int.not_lt.mpr (Int.le_trans (by decide : (31 : Int) ≤ 184) a)), if_neg (Int.not_lt.mpr (Int.le_trans (by decide : (61 : Int) ≤ 184) a)), if_neg (Int.not_lt.mpr (Int.le_trans (by decide : (92 : Int) ≤ 184) a)), if_neg (Int.not_lt.mpr (Int.le_trans (by decide : (122 : Int) ≤ 184) a)), if_neg (Int.not_lt.mpr (Int.le_trans (by decide : (153 : Int) ≤ 184) a)), if_neg (Int.not_lt.mpr (Int.le_trans (by decide : (184 : Int) ≤ 184) a)), if_pos b], by decide, by decide, by omega, by omega, by omega⟩
  · exact ⟨10, l - 214, by unfold cMD; rw [if_neg (Int.not_lt.mpr (Int.le_trans (by decide : (31 : Int) ≤ 214) a)), if_neg (Int.not_lt.mpr (Int.le_trans (by decide : (61 : Int) ≤ 214) a)), if_neg (Int.not_lt.mpr (Int.le_trans (by decide : (92 : Int) ≤ 214) a)), if_neg (Int.not_lt.mpr (Int.le_trans (by decide : (122 : Int) ≤ 214) a)), if_neg (Int.not_lt.mpr (Int.le_trans (by decide : (153 : Int) ≤ 214) a)), if_neg (Int.not_lt.mpr (Int.le_trans (by decide : (184 : Int) ≤ 214) a)), if_neg (Int.not_lt.mpr (Int.le_trans (by decide : (214 : Int) ≤ 214) a)), if_pos b], by decide, by decide, by omega, by omega, by omega⟩
  · exact ⟨11, l - 245, by unfold cMD; rw [if_neg (Int.not_lt.mpr (Int.le_trans (by decide : (31 : Int) ≤ 245) a)), if_neg (Int.not_lt.mpr (Int.le_trans (by decide : (61 : Int) ≤ 245) a)), if_neg (Int.not_lt.mpr (Int.le_trans (by decide : (92 : Int) ≤ 245) a)), if_neg (Int.not_lt.mpr (Int.le_trans (by decide : (122 : Int) ≤ 245) a)), if_neg (Int.not_lt.mpr (Int.le_trans (by decide : (153 : Int) ≤ 245) a)), if_neg (Int.not_lt.mpr (Int.le_trans (by decide : (184 : Int) ≤ 245) a)), if_neg (Int.not_lt.mpr (Int.le_trans (by decide : (214 : Int) ≤ 245) a)), if_neg (Int.not_lt.mpr (Int.le_trans (by decide : (245 : Int) ≤ 245) a)), if_pos b], by decide, by decide, by omega, by omega, by omega⟩
  · exact ⟨12, l - 275, by unfold cMD; rw [if_neg (Int.not_lt.mpr (Int.le_trans (by decide : (31 : Int) ≤ 275) a)), if_neg (Int.not_lt.mpr (Int.le_trans (by decide : (61 : Int) ≤ 275) a)), if_neg (Int.not_lt.mpr (Int.le_trans (by decide : (92 : Int) ≤ 275) a)), if_neg (Int.not_lt.mpr (Int.le_trans (by decide : (122 : Int) ≤ 275) a)), if_neg (Int.not_lt.mpr (Int.le_trans (by decide : (153 : Int) ≤ 275) a)), if_neg (Int.not_lt.mpr (Int.le_trans (by decide : (184 : Int) ≤ 275) a)), if_neg (Int.not_lt.mpr (Int.le_trans (by decide : (214 : Int) ≤ 275) a)), if_neg (Int.not_lt.mpr (Int.le_trans (by decide : (245 : Int) ≤ 275) a)), if_neg (Int.not_lt.mpr (Int.le_trans (by decide : (275 : Int) ≤ 275) a)), if_pos b], by decide, by decide, by omega, by omega, by omega⟩
  · exact ⟨13, l - 306, by unfold cMD; rw [if_neg (Int.not_lt.mpr (Int.le_trans (by decide : (31 : Int) ≤ 306) a)), if_neg (Int.not_lt.mpr (Int.le_trans (by decide : (61 : Int) ≤ 306) a)), if_neg (Int.not_lt.mpr (Int.le_trans (by decide : (92 : Int) ≤ 306) a)), if_neg (Int.not_lt.mpr (Int.le_trans (by decide : (122 : Int) ≤ 306) a)), if_neg (Int.not_lt.mpr (Int.le_trans (by decide : (153 : Int) ≤ 306) a)), if_neg (Int.not_lt.mpr (Int.le_trans (by decide : (184 : Int) ≤ 306) a)), if_neg (Int.not_lt.mpr (Int.le_trans (by decide : (214 : Int) ≤ 306) a)), if_neg (Int.not_lt.mpr (Int.le_trans (by decide : (245 : Int) ≤ 306) a)), if_neg (Int.not_lt.mpr (Int.le_trans (by decide : (275 : Int) ≤ 306) a)), if_neg (Int.not_lt.mpr (Int.le_trans (by decide : (306 : Int) ≤ 306) a)), if_pos b], by decide, by decide, by omega, by omega, by omega⟩
  · exact ⟨14, l - 337, by unfold cMD; rw [if_neg (Int.not_lt.mpr (Int.le_trans (by decide : (31 : Int) ≤ 337) a)), if_neg (Int.not_lt.mpr (Int.le_trans (by decide : (61 : Int) ≤ 337) a)), if_neg (Int.not_lt.mpr (Int.le_trans (by decide : (92 : Int) ≤ 337) a)), if_neg (Int.not_lt.mpr (Int.le_trans (by decide : (122 : Int) ≤ 337) a)), if_neg (Int.not_lt.mpr (Int.le_trans (by decide : (153 : Int) ≤ 337) a)), if_neg (Int.not_lt.mpr (Int.le_trans (by decide : (184 : Int) ≤ 337) a)), if_neg (Int.not_lt.mpr (Int.le_trans (by decide : (214 : Int) ≤ 337) a)), if_neg (Int.not_lt.mpr (Int.le_trans (by decide : (245 : Int) ≤ 337) a)), if_neg (Int.not_lt.mpr (Int.le_trans (by decide : (275 : Int) ≤ 337) a)), if_neg (Int.not_lt.mpr (Int.le_trans (by decide : (306 : Int) ≤ 337) a)), if_neg (Int.not_lt.mpr (Int.le_trans (by decide : (337 : Int) ≤ 337) a))], by decide, by decide, by omega, by omega, by omega⟩

/-- the March year: its rounds, hundreds, fours, ones and the day left -/
theorem march_core (n : Int) : ∃ r h f o l : Int, cR n = r ∧ cH n = h ∧ cF n = f ∧ cO n = o ∧ cL n = l ∧
    n = 1721120 + 146097 * r + 36524 * h + 1461 * f + 365 * o + l ∧ 0 ≤ h ∧ h ≤ 3 ∧ 0 ≤ f ∧ f ≤ 24 ∧ 0 ≤ o ∧ o ≤ 3 ∧ 0 ≤ l ∧ l ≤ 365 ∧ (l = 365 → o = 3 ∧ (f = 24 → h = 3)) := by
  refine ⟨cR n, cH n, cF n, cO n, cL n, rfl, rfl, rfl, rfl, rfl, ?_⟩
  unfold cL cO cL2 cF cL1 cH cL0 cR
  have h1 : n - 1721120 = 146097 * ((n - 1721120) / 146097) + (n - 1721120) % 146097 := by omega
  have h2 : 0 ≤ (n - 1721120) % 146097 ∧ (n - 1721120) % 146097 < 146097 := by omega
  generalize (n - 1721120) / 146097 = r at *
  generalize (n - 1721120) % 146097 = l0 at *
  obtain ⟨h, hh⟩ : ∃ h, h = min (l0 / 36524) 3 := ⟨_, rfl⟩
  rw [← hh]
  have h3 : 0 ≤ h ∧ h ≤ 3 ∧ 36524 * h ≤ l0 ∧ (l0 < 36524 * h + 36524 ∨ (h = 3 ∧ l0 ≤ 36524 * h + 36524)) := by omega
  clear hh
  obtain ⟨l1, hl1⟩ : ∃ l1, l1 = l0 - 36524 * h := ⟨_, rfl⟩
  rw [← hl1]
  obtain ⟨f, hf⟩ : ∃ f, f = l1 / 1461 := ⟨_, rfl⟩
  rw [← hf]
  have h4 : 0 ≤ f ∧ f ≤ 24 ∧ 1461 * f ≤ l1 ∧ l1 < 1461 * f + 1461 := by omega
  clear hf
  obtain ⟨l2, hl2⟩ : ∃ l2, l2 = l1 - 1461 * f := ⟨_, rfl⟩
  rw [← hl2]
  obtain ⟨o, ho⟩ : ∃ o, o = min (l2 / 365) 3 := ⟨_, rfl⟩
  rw [← ho]
  have h5 : 0 ≤ o ∧ o ≤ 3 ∧ 365 * o ≤ l2 ∧ (l2 < 365 * o + 365 ∨ (o = 3 ∧ l2 ≤ 365 * o + 365)) := by omega
  clear ho
  refine ⟨by omega, by omega, by omega, by omega, by omega, by omega, by omega, by omega, by omega, ?_⟩
  intro hl
  refine ⟨by omega, fun _ => by omega⟩

theorem civ_ok (n : Int) : 1 ≤ civM n ∧ civM n ≤ 12 ∧ 1 ≤ civD n ∧ civD n ≤ dimG (civY n) (civM n) ∧ gjd (civY n) (civM n) (civD n) = n - 1 := by
  obtain ⟨r, h, f, o, l, e1, e2, e3, e4, e5, hn, b1, b2, b3, b4, b5, b6, b7, b8, hl⟩ := march_core n
  have hY : cY n = 400 * r + 100 * h + 4 * f + o := by unfold cY; rw [e1, e2, e3, e4]
  obtain ⟨m, d, hmd, hcase⟩ := cMD_cases l b7 (by omega)
  -- the year ahead, and the next
  have hj : jan1 (cY n + 1) = 1721119 + 146097 * r + 36524 * h + 1461 * f + 365 * o + 306 := by
    rw [hY]
    have a1 : (400 * r + 100 * h + 4 * f + o + 1 - 1) / 4 = 100 * r + 25 * h + f := by omega
    have a2 : (400 * r + 100 * h + 4 * f + o + 1 - 1) / 100 = 4 * r + h := by omega
    have a3 : (400 * r + 100 * h + 4 * f + o + 1 - 1) / 400 = r := by omega
    unfold jan1; rw [a1, a2, a3]; omega
  have hs := jan1_succ (cY n)
  unfold civY civM civD
  rw [e5, hmd]
  simp only
  by_cases hm : 12 < m
  · rw [if_pos hm, if_pos hm, gjd_rel, hj]
    unfold dimG
    -- January and February
    have hlp : l = 365 → leapB (cY n + 1) = true := by
      intro h9
      obtain ⟨o3, hf3⟩ := hl h9
      rcases leapI_cases (cY n + 1) with ⟨_, q, _⟩ | ⟨_, _, q⟩
      · exact q
      · exfalso; rw [hY] at q; apply q; omega
    by_cases h365 : l = 365
    · have hb := hlp h365
      have hm14 : m = 14 ∧ d = 28 := by omega
      rw [hm14.1, hm14.2, hb]
      simp
      omega
    · have hm2 : m = 13 ∨ m = 14 := by omega
      rcases hm2 with rfl | rfl
      · simp; omega
      · simp
        split <;> omega
  · rw [if_neg hm, if_neg hm, gjd_rel]
    unfold dimG
    obtain ⟨c1, c2, c3, c4, c5⟩ := hcase
    have hk : m = 3 ∨ m = 4 ∨ m = 5 ∨ m = 6 ∨ m = 7 ∨ m = 8 ∨ m = 9 ∨ m = 10 ∨ m = 11 ∨ m = 12 := by omega
    have hjy : jan1 (cY n) = 1721119 + 146097 * r + 36524 * h + 1461 * f + 365 * o + 306 - 365 - leapI (cY n) := by omega
    have hn2 := hn
    clear hs hj hl hY e1 e2 e3 e4 e5 hmd
    rcases hk with rfl | rfl | rfl | rfl | rfl | rfl | rfl | rfl | rfl | rfl
    all_goals (refine ⟨by decide, by decide, by omega, ?_, ?_⟩)
    all_goals simp
    all_goals omega

theorem from_ok {Y n la mo : Int} (hg : good Y n) (hla : (n - gjd Y 1 1 < 58 + leapI Y ∧ la = 0) ∨ (58 + leapI Y ≤ n - gjd Y 1 1 ∧ la = 2 - leapI Y)) (hmo : mo = ((n - gjd Y 1 1 + la) * 12 + 373) / 367) :
    Y = civY (n + 1) ∧ mo = civM (n + 1) ∧ n - gjd Y mo 1 + 1 = civD (n + 1) := by
  obtain ⟨m1, m2, d1, d2, hc⟩ := civ_ok (n + 1)
  have hg2 := valid_range m1 m2 d1 d2
  rw [hc, show n + 1 - 1 = n by omega] at hg2
  have hYc := good_unique hg hg2
  generalize civM (n + 1) = m at *
  generalize civD (n + 1) = d at *
  generalize civY (n + 1) = y at *
  subst hYc
  clear hg hg2
  rw [gjd_rel] at hc
  rw [gjd_rel Y 1 1, if_pos (by decide)] at hla hmo
  have hk : m = 1 ∨ m = 2 ∨ m = 3 ∨ m = 4 ∨ m = 5 ∨ m = 6 ∨ m = 7 ∨ m = 8 ∨ m = 9 ∨ m = 10 ∨ m = 11 ∨ m = 12 := by omega
  unfold dimG at d2
  have key : mo = m := by
    rcases leapI_cases Y with ⟨h8, h9, _⟩ | ⟨h8, h9, _⟩ <;> rw [h9] at d2 <;>
      rcases hk with rfl | rfl | rfl | rfl | rfl | rfl | rfl | rfl | rfl | rfl | rfl | rfl <;> simp at d2 hc <;> omega
  subst key
  exact ⟨rfl, rfl, by rw [gjd_rel]; omega⟩
end Mine
end
/-! M3 -/
section
namespace Mine
/-! ## The Hebrew year -/
/-- the first day of the Hebrew year (int(jd)) -/
def ny (y : Int) : Int := 347995 + d1 y + d2 y + 1 + 1
/-- a month's length -/
def mlen (y m : Int) : Int :=
  if m = 2 ∨ m = 4 ∨ m = 6 ∨ m = 10 ∨ m = 13 then 29 else if m = 12 ∧ ¬ (y * 7 + 1) % 19 < 7 then 29
  else if m = 8 ∧ (ny (y + 1) - ny y) % 10 ≠ 5 then 29 else if m = 9 ∧ (ny (y + 1) - ny y) % 10 = 3 then 29 else 30
/-- the 15th of Nisan (int(jd)) -/
def ns (y : Int) : Int := 347995 + d1 y + d2 y + 15 + 1 + mlen y 7 + mlen y 8 + mlen y 9 + mlen y 10 + mlen y 11 + mlen y 12 + (if (y * 7 + 1) % 19 < 7 then mlen y 13 else 0)
theorem d1_bd {y : Int} (h1 : -20 ≤ y) (h2 : y ≤ 150000000) : -10000 ≤ d1 y ∧ d1 y ≤ 60000000000 := by
  unfold d1; simp only; split <;> omega
theorem d2_bd (y : Int) : 0 ≤ d2 y ∧ d2 y ≤ 2 := by
  unfold d2; repeat' split
  all_goals omega
theorem ny_bd {y : Int} (h1 : -15 ≤ y) (h2 : y ≤ 140000000) : 300000 ≤ ny y ∧ ny y ≤ 60001000000 := by
  have a := d1_bd (y := y) (by omega) (by omega)
  have b := d2_bd y
  unfold ny; omega
theorem mlen_bd (y m : Int) : 29 ≤ mlen y m ∧ mlen y m ≤ 30 := by
  unfold mlen; repeat' split
  all_goals omega
end Mine
end
/-! M4 -/
section
namespace Mine
/-! ## The law's own reckoning; the Julian side -/
def marchN (a : Int) : Int := 32 * 492480 + 21715 + 765433 * ((12 * a + 17) % 19) + 123120 * (a % 4) - 1565 * a
def marchW (a : Int) : Int := (marchN a / 492480 + 3 * a + 5 * (a % 4) + 5) % 7
def march (a : Int) : Int :=
  if marchW a = 2 ∨ marchW a = 4 ∨ marchW a = 6 then marchN a / 492480 + 1
  else if marchW a = 1 ∧ 6 < (12 * a + 17) % 19 ∧ 311676 ≤ marchN a % 492480 then marchN a / 492480 + 2
  else if marchW a = 0 ∧ 11 < (12 * a + 17) % 19 ∧ 442111 ≤ marchN a % 492480 then marchN a / 492480 + 1
  else marchN a / 492480
def moons : List Int := [36, 25, 44, 33, 22, 41, 30, 49, 38, 27, 46, 35, 24, 43, 32, 21, 40, 29, 48]
def moon (y : Int) : Int := moons.getD (y % 19).toNat 0
def sund (y : Int) : Int := 1721117 + 365 * y + y / 4 + moon y + 1 + (5 - (1721117 + 365 * y + y / 4 + moon y)) % 7
/-- the Julian day (int(jd)) of a date in March or April -/
def jjd (y m d : Int) : Int := 1461 * (y + 4716) / 4 + (31 * (m + 1) - 2) + d - 1524 - 1
/-- Meeus: the Sunday, in days behind -92 March -/
def eD (y : Int) : Int := 113 + (19 * (y % 19) + 15) % 30 + (2 * (y % 4) + 4 * (y % 7) - (19 * (y % 19) + 15) % 30 + 6) % 7 + 1
/-- Easter's day (int(jd)) -/
def eN (y : Int) : Int := jjd y (eD y / 31) (eD y % 31 + 1)
theorem eD_bd (y : Int) : 114 ≤ eD y ∧ eD y ≤ 149 := by
  unfold eD; omega
theorem mMem (m : Int) : m ∈ [4, 6, 9, 11] ↔ (m = 4 ∨ m = 6 ∨ m = 9 ∨ m = 11) := by simp
end Mine
end
/-! M5 -/
section
namespace Mine
theorem civ_end {n Y M D : Int} (h : (M ≤ 12 ∧ 3 ≤ M ∧ Y = cY n ∧ cL n = (153 * M - 457) / 5 + D - 1 ∧ 1 ≤ D ∧ cL n < (153 * M - 304) / 5) ∨
    (M ≤ 2 ∧ 1 ≤ M ∧ Y = cY n + 1 ∧ cL n = (153 * (M + 12) - 457) / 5 + D - 1 ∧ 1 ≤ D ∧ cL n < (153 * (M + 12) - 304) / 5)) : Y = civY n ∧ M = civM n ∧ D = civD n := by
  obtain ⟨r, hh, f, o, l, e1, e2, e3, e4, e5, hn, b1, b2, b3, b4, b5, b6, b7, b8, hl⟩ := march_core n
  obtain ⟨m, d, hmd, c1, c2, c3, c4, c5⟩ := cMD_cases (cL n) (by omega) (by omega)
  unfold civY civM civD
  rw [hmd]
  simp only
  generalize cL n = l at *
  have hm : m = M ∨ m = M + 12 := by omega
  split <;> omega
theorem cL_bd (n : Int) : 0 ≤ cL n ∧ cL n ≤ 365 := by
  obtain ⟨r, hh, f, o, l, e1, e2, e3, e4, e5, hn, b1, b2, b3, b4, b5, b6, b7, b8, hl⟩ := march_core n
  omega
theorem fold0 (n : Int) : (n - 1721120).fdiv 146097 = cR n := Int.fdiv_eq_ediv_of_nonneg _ (by decide)
theorem fold1 (n : Int) : (n - 1721120).fmod 146097 = cL0 n := Int.fmod_eq_emod_of_nonneg _ (by decide)
theorem fold2 (n : Int) : (if 3 < cL0 n / 36524 then 3 else cL0 n / 36524) = cH n := by unfold cH; split <;> omega
theorem fold3 (n : Int) : cL0 n - 36524 * cH n = cL1 n := rfl
theorem fold4 (n : Int) : cL1 n / 1461 = cF n := rfl
theorem fold5 (n : Int) : cL1 n - 1461 * cF n = cL2 n := rfl
theorem fold6 (n : Int) : (if 3 < cL2 n / 365 then 3 else cL2 n / 365) = cO n := by unfold cO; split <;> omega
theorem fold7 (n : Int) : cL2 n - 365 * cO n = cL n := rfl
theorem fold8 (n : Int) : 400 * cR n + 100 * cH n + 4 * cF n + cO n = cY n := rfl
end Mine
end
/-! M6 -/
section
namespace Mine
/-! ## Gauss's Passover is the program's -/
def mo (a : Int) : Int := (235 * a - 234) / 19
def da (a : Int) : Int := mo a * 29 + (12084 + 13753 * mo a) / 25920
def rr (a : Int) : Int := (12084 + 13753 * mo a) % 25920
def dl (a : Int) : Int := if 3 * (da a + 1) % 7 < 3 then 1 else 0
theorem d1_eq (a : Int) : d1 a = da a + dl a := by
  unfold d1 dl da mo; simp only; split <;> omega
theorem dl_cases (a : Int) : (dl a = 1 ∧ (da a % 7 = 2 ∨ da a % 7 = 4 ∨ da a % 7 = 6)) ∨ (dl a = 0 ∧ (da a % 7 = 0 ∨ da a % 7 = 1 ∨ da a % 7 = 3 ∨ da a % 7 = 5)) := by
  unfold dl
  generalize da a = b
  have hw : b % 7 = 0 ∨ b % 7 = 1 ∨ b % 7 = 2 ∨ b % 7 = 3 ∨ b % 7 = 4 ∨ b % 7 = 5 ∨ b % 7 = 6 := by omega
  have hb : 3 * (b + 1) % 7 = (3 * (b % 7 + 1)) % 7 := by omega
  rw [hb]
  rcases hw with h | h | h | h | h | h | h <;> rw [h] <;> decide
theorem rr_bd (a : Int) : 0 ≤ rr a ∧ rr a < 25920 := by unfold rr; omega
theorem mo_step (a : Int) : ∃ g, 0 ≤ g ∧ g < 19 ∧ 19 * mo a + g = 235 * a - 234 ∧ (a * 7 + 1) % 19 = (g + 7) % 19 ∧ 19 * mo (a + 1) + (g + 7) % 19 = 235 * a + 1 := by
  refine ⟨(235 * a - 234) % 19, by omega, by omega, by unfold mo; omega, ?_, ?_⟩
  · have : a * 7 + 1 = (235 * a - 234) + 7 + 19 * (12 - 12 * a) := by omega
    rw [this, Int.add_mul_emod_self_left]
    omega
  · unfold mo
    have : 235 * (a + 1) - 234 = 235 * a - 234 + 235 := by omega
    rw [this]
    have e2 : 235 * a + 1 = 235 * a - 234 + 235 := by omega
    rw [e2]
    generalize 235 * a - 234 = z
    omega
theorem step_leap (a : Int) (h : (a * 7 + 1) % 19 < 7) : (rr a < 2651 ∧ da (a + 1) = da a + 383 ∧ rr (a + 1) = rr a + 23269) ∨ (2651 ≤ rr a ∧ da (a + 1) = da a + 384 ∧ rr (a + 1) = rr a + 23269 - 25920) := by
  have hm : mo (a + 1) = mo a + 13 := by
    obtain ⟨g, h1, h2, h3, h4, h5⟩ := mo_step a
    omega
  unfold da rr; rw [hm]; omega
theorem step_plain (a : Int) (h : ¬ (a * 7 + 1) % 19 < 7) : (rr a < 16404 ∧ da (a + 1) = da a + 354 ∧ rr (a + 1) = rr a + 9516) ∨ (16404 ≤ rr a ∧ da (a + 1) = da a + 355 ∧ rr (a + 1) = rr a + 9516 - 25920) := by
  have hm : mo (a + 1) = mo a + 12 := by
    obtain ⟨g, h1, h2, h3, h4, h5⟩ := mo_step a
    omega
  unfold da rr; rw [hm]; omega
/-- a year's step: its leap, its carry -/
theorem step (a : Int) : ((a * 7 + 1) % 19 < 7 ∧ ((rr a < 2651 ∧ da (a + 1) = da a + 383 ∧ rr (a + 1) = rr a + 23269) ∨ (2651 ≤ rr a ∧ da (a + 1) = da a + 384 ∧ rr (a + 1) = rr a - 2651))) ∨
    (7 ≤ (a * 7 + 1) % 19 ∧ ((rr a < 16404 ∧ da (a + 1) = da a + 354 ∧ rr (a + 1) = rr a + 9516) ∨ (16404 ≤ rr a ∧ da (a + 1) = da a + 355 ∧ rr (a + 1) = rr a - 16404))) := by
  by_cases h : (a * 7 + 1) % 19 < 7
  · have := step_leap a h; omega
  · have := step_plain a h; omega
theorem d1_step (a : Int) : ∃ c : Int, (d1 (a + 1) - d1 a = c + dl (a + 1) - dl a ∧ da (a + 1) = da a + c ∧
    (((a * 7 + 1) % 19 < 7 ∧ ((c = 383 ∧ rr a < 2651 ∧ rr (a + 1) = rr a + 23269) ∨ (c = 384 ∧ 2651 ≤ rr a ∧ rr (a + 1) = rr a - 2651))) ∨
     (7 ≤ (a * 7 + 1) % 19 ∧ ((c = 354 ∧ rr a < 16404 ∧ rr (a + 1) = rr a + 9516) ∨ (c = 355 ∧ 16404 ≤ rr a ∧ rr (a + 1) = rr a - 16404))))) := by
  refine ⟨da (a + 1) - da a, by rw [d1_eq, d1_eq]; omega, by omega, ?_⟩
  have := step a
  omega
/-- 356 days -/
theorem d356 (a : Int) : d1 (a + 1) - d1 a = 356 ↔ (dl a = 0 ∧ da a % 7 = 1 ∧ 7 ≤ (a * 7 + 1) % 19 ∧ 16404 ≤ rr a) := by
  obtain ⟨c, h1, h2, h3⟩ := d1_step a
  have e0 := dl_cases a
  have e1 := dl_cases (a + 1)
  rw [h2] at e1
  constructor
  · intro h
    have hc : c = 355 ∧ dl (a + 1) = 1 ∧ dl a = 0 := by omega
    obtain ⟨rfl, k1, k0⟩ := hc
    refine ⟨k0, ?_, by omega, by omega⟩
    omega
  · rintro ⟨k0, k1, k2, k3⟩
    have hc : c = 355 := by omega
    subst hc
    have : dl (a + 1) = 1 := by omega
    omega
/-- 382 days -/
theorem d382 (a : Int) : d1 (a + 1) - d1 a = 382 ↔ (dl (a + 1) = 0 ∧ da (a + 1) % 7 = 0 ∧ (a * 7 + 1) % 19 < 7 ∧ 23269 ≤ rr (a + 1)) := by
  obtain ⟨c, h1, h2, h3⟩ := d1_step a
  have e0 := dl_cases a
  have e1 := dl_cases (a + 1)
  have b0 := rr_bd a
  have b1 := rr_bd (a + 1)
  have h4 : da a = da (a + 1) - c := by omega
  rw [h4] at e0
  constructor
  · intro h
    have hc : c = 383 ∧ dl (a + 1) = 0 ∧ dl a = 1 := by omega
    obtain ⟨rfl, k1, k0⟩ := hc
    refine ⟨k1, ?_, by omega, by omega⟩
    omega
  · rintro ⟨k0, k1, k2, k3⟩
    have hc : c = 383 := by omega
    subst hc
    have : dl a = 1 := by omega
    omega
/-- the second delay of the year a + 1 -/
theorem d2_next (a : Int) :
    (d2 (a + 1) = 2 ∧ dl (a + 1) = 0 ∧ da (a + 1) % 7 = 1 ∧ 7 ≤ ((a + 1) * 7 + 1) % 19 ∧ 16404 ≤ rr (a + 1)) ∨
    (d2 (a + 1) = 1 ∧ dl (a + 1) = 0 ∧ da (a + 1) % 7 = 0 ∧ (a * 7 + 1) % 19 < 7 ∧ 23269 ≤ rr (a + 1)) ∨
    (d2 (a + 1) = 0 ∧ ¬ (dl (a + 1) = 0 ∧ da (a + 1) % 7 = 1 ∧ 7 ≤ ((a + 1) * 7 + 1) % 19 ∧ 16404 ≤ rr (a + 1)) ∧ ¬ (dl (a + 1) = 0 ∧ da (a + 1) % 7 = 0 ∧ (a * 7 + 1) % 19 < 7 ∧ 23269 ≤ rr (a + 1))) := by
  have h1 := d356 (a + 1)
  have h2 := d382 a
  unfold d2
  rw [show a + 1 - 1 = a by omega]
  split
  · left; exact ⟨rfl, h1.mp (by assumption)⟩
  · split
    · right; left; exact ⟨rfl, h2.mp (by assumption)⟩
    · right; right
      exact ⟨rfl, fun h => absurd (h1.mpr h) (by assumption), fun h => absurd (h2.mpr h) (by assumption)⟩
theorem g_next (a : Int) : ((a + 1) * 7 + 1) % 19 = ((a * 7 + 1) % 19 + 7) % 19 := by
  have : (a + 1) * 7 + 1 = a * 7 + 1 + 7 := by omega
  rw [this]
  generalize a * 7 + 1 = z
  omega
set_option maxHeartbeats 4000000 in
/-- the year's length -/
theorem year_len (a : Int) : ((a * 7 + 1) % 19 < 7 ∧ (ny (a + 1) - ny a = 383 ∨ ny (a + 1) - ny a = 384 ∨ ny (a + 1) - ny a = 385)) ∨
    (7 ≤ (a * 7 + 1) % 19 ∧ (ny (a + 1) - ny a = 353 ∨ ny (a + 1) - ny a = 354 ∨ ny (a + 1) - ny a = 355)) := by
  obtain ⟨c, h1, h2, h3⟩ := d1_step a
  have e0 := dl_cases a
  have e1 := dl_cases (a + 1)
  have n1 := d2_next a
  have n0 := d2_next (a - 1)
  rw [show a - 1 + 1 = a by omega] at n0
  have b0 := rr_bd a
  have b1 := rr_bd (a + 1)
  have hn : ny (a + 1) - ny a = (d1 (a + 1) - d1 a) + d2 (a + 1) - d2 a := by unfold ny; omega
  rw [hn, h1]
  clear hn h1
  rw [h2] at e1 n1
  have hg2 := g_next a
  have hg := g_next (a - 1)
  rw [show a - 1 + 1 = a by omega] at hg
  have hb : 0 ≤ (a * 7 + 1) % 19 ∧ (a * 7 + 1) % 19 < 19 := by omega
  have hb2 : 0 ≤ ((a - 1) * 7 + 1) % 19 ∧ ((a - 1) * 7 + 1) % 19 < 19 := by omega
  generalize (a * 7 + 1) % 19 = g at *
  generalize ((a - 1) * 7 + 1) % 19 = g0 at *
  generalize ((a + 1) * 7 + 1) % 19 = g1 at *
  generalize rr (a + 1) = r1 at *
  generalize rr a = r0 at *
  generalize dl (a + 1) = x1 at *
  generalize dl a = x0 at *
  generalize d2 (a + 1) = y1 at *
  generalize d2 a = y0 at *
  generalize da (a + 1) = z1 at *
  generalize da a = z0 at *
  obtain ⟨w0, hw0⟩ : ∃ w, w = z0 % 7 := ⟨_, rfl⟩
  obtain ⟨w1, hw1⟩ : ∃ w, w = (z0 + c) % 7 := ⟨_, rfl⟩
  have hw10 : w1 = (w0 + c) % 7 := by omega
  rw [← hw0] at e0 n0
  rw [← hw1] at n1
  rw [← hw1] at e1
  have hw : w0 = 0 ∨ w0 = 1 ∨ w0 = 2 ∨ w0 = 3 ∨ w0 = 4 ∨ w0 = 5 ∨ w0 = 6 := by omega
  clear hw0 hw1 h2
  try clear z1
  rcases h3 with ⟨k1, ⟨rfl, k2, k3⟩ | ⟨rfl, k2, k3⟩⟩ | ⟨k1, ⟨rfl, k2, k3⟩ | ⟨rfl, k2, k3⟩⟩ <;>
    rcases hw with rfl | rfl | rfl | rfl | rfl | rfl | rfl <;> (simp only [Int.reduceAdd, Int.reduceMod] at hw10; subst hw10; simp at e0 e1 n0 n1; obtain rfl := e0; obtain rfl := e1; simp at n0 n1 ⊢) <;> omega
end Mine
end
/-! M7 -/
section
namespace Mine
theorem mlen7 (a : Int) : mlen a 7 = 30 := by unfold mlen; simp
theorem mlen10 (a : Int) : mlen a 10 = 29 := by unfold mlen; simp
theorem mlen11 (a : Int) : mlen a 11 = 30 := by unfold mlen; simp
theorem mlen13 (a : Int) : mlen a 13 = 29 := by unfold mlen; simp
theorem mlen12 (a : Int) : mlen a 12 = if (a * 7 + 1) % 19 < 7 then 30 else 29 := by unfold mlen; simp; split <;> split <;> omega
theorem mlen8 (a : Int) : mlen a 8 = if (ny (a + 1) - ny a) % 10 ≠ 5 then 29 else 30 := by unfold mlen; simp
theorem mlen9 (a : Int) : mlen a 9 = if (ny (a + 1) - ny a) % 10 = 3 then 29 else 30 := by unfold mlen; simp
theorem ns_eq (a : Int) : ns a = ny (a + 1) - 163 := by
  have h := year_len a
  unfold ns
  rw [mlen7, mlen8, mlen9, mlen10, mlen11, mlen12, mlen13]
  have hn : ny a = 347995 + d1 a + d2 a + 1 + 1 := rfl
  generalize ny (a + 1) = z at *
  generalize ny a = x at *
  rcases h with ⟨h, h2⟩ | ⟨h, h2⟩
  · rw [if_pos h, if_pos h]
    rcases h2 with h2 | h2 | h2 <;> rw [h2] <;> simp <;> omega
  · have hL : ¬ (a * 7 + 1) % 19 < 7 := by omega
    rw [if_neg hL, if_neg hL]
    rcases h2 with h2 | h2 | h2 <;> rw [h2] <;> simp <;> omega

theorem gold_g (a : Int) : (12 * a + 17) % 19 = 18 - (a * 7 + 1) % 19 := by
  have : 12 * a + 17 = 18 - (a * 7 + 1) + 19 * a := by omega
  rw [this, Int.add_mul_emod_self_left]
  generalize a * 7 + 1 = z
  omega
/-- the law's march is the program's first day -/
theorem link (a : Int) : da (a + 1) = marchN a / 492480 + 365 * a + a / 4 - 58 ∧ 19 * rr (a + 1) = marchN a % 492480 := by
  obtain ⟨g, h1, h2, h3, h4, h5⟩ := mo_step a
  have hg := gold_g a
  have hM : marchN a = 19 * (12084 + 765433 * mo (a + 1)) - 492480 * (365 * a + a / 4 - 58) := by
    unfold marchN
    rw [hg, h4]
    omega
  rw [hM]
  unfold da rr
  generalize mo (a + 1) = m
  generalize hk : 365 * a + a / 4 - 58 = k
  have e1 : 19 * (12084 + 765433 * m) - 492480 * k = 19 * (12084 + 13753 * m) + 492480 * (29 * m - k) := by omega
  rw [e1, Int.add_mul_emod_self_left, Int.add_mul_ediv_left _ _ (by decide)]
  have e2 : (19 * (12084 + 13753 * m)) / 492480 = (12084 + 13753 * m) / 25920 := Int.mul_ediv_mul_of_pos (a := 19) (12084 + 13753 * m) 25920 (by decide)
  have e3 : (19 * (12084 + 13753 * m)) % 492480 = 19 * ((12084 + 13753 * m) % 25920) := Int.mul_emod_mul_of_pos (a := 19) (12084 + 13753 * m) 25920 (by decide)
  rw [e2, e3]
  constructor <;> omega
theorem week_eq (a : Int) : marchW a = da (a + 1) % 7 := by
  have h := (link a).1
  unfold marchW
  rw [h]
  omega
theorem march_eq (a : Int) : march a = marchN a / 492480 + dl (a + 1) + d2 (a + 1) := by
  have hw := week_eq a
  have hl := (link a).2
  have hg := gold_g a
  have hgn := g_next a
  have e1 := dl_cases (a + 1)
  have n1 := d2_next a
  rw [← hw] at e1 n1
  rw [hgn] at n1
  unfold march
  rw [hg, ← hl]
  generalize marchN a / 492480 = T
  generalize marchW a = wk at *
  generalize hgg : (a * 7 + 1) % 19 = g at *
  have hb : 0 ≤ g ∧ g < 19 := by omega
  generalize rr (a + 1) = r at *
  generalize dl (a + 1) = x at *
  generalize d2 (a + 1) = y at *
  clear hw hl hg hgn hgg
  rcases e1 with ⟨rfl, e1⟩ | ⟨rfl, e1⟩
  · rw [if_pos (by omega)]
    omega
  · rw [if_neg (by omega)]
    rcases n1 with ⟨rfl, j1, j2, j3, j4⟩ | ⟨rfl, j1, j2, j3, j4⟩ | ⟨rfl, j1, j2⟩
    · rw [if_pos (by omega)]; omega
    · rw [if_neg (by omega), if_pos (by omega)]; omega
    · rw [if_neg (by omega), if_neg (by omega)]; omega
theorem spr_ok (y : Int) : ns (y + 3760) + 1 = 1721117 + 365 * y + y / 4 + march (y + 3760) := by
  rw [ns_eq, march_eq]
  have h := (link (y + 3760)).1
  have hd := d1_eq (y + 3760 + 1)
  unfold ny
  omega

/-! ## Easter's Sunday -/
theorem moonT : ∀ i : Fin 19, moons.getD i.val 0 = 21 + (19 * (i.val : Int) + 15) % 30 := by decide
theorem moon_eq (y : Int) : moon y = 21 + (19 * (y % 19) + 15) % 30 := by
  have h := moonT ⟨(y % 19).toNat, by omega⟩
  unfold moon
  simp only at h
  rw [h]
  congr 4
  omega
theorem sun_ok (y : Int) : sund y = eN y + 1 := by
  have hE := eD_bd y
  have hj : eN y = 365 * y + y / 4 + eD y + 1721024 := by
    unfold eN jjd; omega
  rw [hj]
  unfold sund eD
  rw [moon_eq]
  generalize (19 * (y % 19) + 15) % 30 = d
  omega
end Mine
end
/-! M8 -/
section
namespace Mine
/-! ## The days between -/
def btw (y : Int) : Int := sund y - (1721117 + 365 * y + y / 4 + march (y + 3760))
/-- what the year's places alone make of the days between, in fifths of parts -/
def kk (i b : Int) : Int := 492480 * (21 + (19 * i + 15) % 30 + 1) - (32 * 492480 + 21715 + 765433 * ((12 * i + 12) % 19) + 123120 * b - 1565 * 3760)
theorem gold_y (y : Int) : (12 * (y + 3760) + 17) % 19 = (12 * (y % 19) + 12) % 19 := by omega
theorem march_cases (a : Int) : ∃ T p e : Int, march a = T + e ∧ marchN a = 492480 * T + p ∧ 0 ≤ p ∧ p < 492480 ∧ (e = 0 ∨ e = 1 ∨ (e = 2 ∧ 311676 ≤ p ∧ marchW a = 1 ∧ 6 < (12 * a + 17) % 19)) ∧ marchW a = (T + 3 * a + 5 * (a % 4) + 5) % 7 := by
  refine ⟨marchN a / 492480, marchN a % 492480, march a - marchN a / 492480, by omega, by omega, by omega, by omega, ?_, rfl⟩
  unfold march
  split
  · omega
  · split
    · omega
    · split <;> omega
/-- the parts, by their make -/
theorem parts_eq (y : Int) : ∃ T p e w : Int, 5 * (98496 * btw y - 313 * y) = kk (y % 19) (y % 4) + 492480 * (w - e) + p ∧ 0 ≤ p ∧ p < 492480 ∧ 0 ≤ w ∧ w ≤ 6 ∧
    (e = 0 ∨ e = 1 ∨ (e = 2 ∧ 311676 ≤ p ∧ (T + 3 * (y + 3760) + 5 * (y % 4) + 5) % 7 = 1 ∧ 6 < (12 * (y % 19) + 12) % 19)) ∧
    w = (5 - (1721117 + 365 * y + y / 4 + (21 + (19 * (y % 19) + 15) % 30))) % 7 ∧
    32 * 492480 + 21715 + 765433 * ((12 * (y % 19) + 12) % 19) + 123120 * (y % 4) - 1565 * (y + 3760) = 492480 * T + p := by
  obtain ⟨T, p, e, h1, h2, h3, h4, h5, h6⟩ := march_cases (y + 3760)
  have hp : (y + 3760) % 4 = y % 4 := by omega
  have hN : marchN (y + 3760) = 32 * 492480 + 21715 + 765433 * ((12 * (y % 19) + 12) % 19) + 123120 * (y % 4) - 1565 * (y + 3760) := by
    unfold marchN; rw [gold_y, hp]
  rw [hN] at h2
  rw [hp] at h6
  refine ⟨T, p, e, (5 - (1721117 + 365 * y + y / 4 + (21 + (19 * (y % 19) + 15) % 30))) % 7, ?_, h3, h4, by omega, by omega, ?_, rfl, h2⟩
  · unfold btw sund kk
    rw [h1, moon_eq]
    generalize (5 - (1721117 + 365 * y + y / 4 + (21 + (19 * (y % 19) + 15) % 30))) % 7 = w
    generalize (19 * (y % 19) + 15) % 30 = d at *
    generalize (12 * (y % 19) + 12) % 19 = g at *
    omega
  · rcases h5 with h | h | ⟨h, k1, k2, k3⟩
    · exact .inl h
    · exact .inr (.inl h)
    · exact .inr (.inr ⟨h, k1, by rw [← h6]; exact k2, by rw [← gold_y]; exact k3⟩)
theorem hiT : ∀ i : Fin 19, ∀ b : Fin 4, (i.val = 18 ∧ b.val = 0) ∨ kk (i.val : Int) (b.val : Int) + 492480 * 6 + 492479 ≤ 17681920 := by decide
theorem loT : ∀ i : Fin 19, ∀ b : Fin 4, (-1901235 ≤ kk (i.val : Int) (b.val : Int) - 492480) ∧ ((12 * (i.val : Int) + 12) % 19 ≤ 6 ∨ ((i.val = 0 ∧ b.val = 3) ∨ -1901235 ≤ kk (i.val : Int) (b.val : Int) - 2 * 492480 + 311676) ∧ -1901235 ≤ kk (i.val : Int) (b.val : Int) - 2 * 492480 + 492480 + 311676) := by decide
theorem par_hi (y : Int) : 98496 * btw y - 313 * y ≤ 3536384 := by
  obtain ⟨T, p, e, w, h1, h2, h3, h4, h5, h6, h7, h8⟩ := parts_eq y
  have ht := hiT ⟨(y % 19).toNat, by omega⟩ ⟨(y % 4).toNat, by omega⟩
  simp only at ht
  rw [show (((y % 19).toNat : Nat) : Int) = y % 19 by omega, show (((y % 4).toNat : Nat) : Int) = y % 4 by omega] at ht
  rcases ht with ⟨t1, t2⟩ | ht
  · have k1 : y % 19 = 18 := by omega
    have k2 : y % 4 = 0 := by omega
    rw [k1, k2] at h1 h8
    have hk : kk 18 0 = 14234845 := by decide
    rw [hk] at h1
    have he : 0 ≤ e := by omega
    obtain ⟨j, hj⟩ : ∃ j, y = 76 * j + 56 := ⟨y / 76, by omega⟩
    subst hj
    clear h7 h6 k1 k2
    generalize btw (76 * j + 56) = z at *
    have g0 : (12 * (18 : Int) + 12) % 19 = 0 := by decide
    rw [g0] at h8
    have hp : p = 17681924 - 14234845 - 492480 * 6 ∨ p ≤ 17681924 - 14234845 - 492480 * 6 ∨ 492480 ≤ p := by omega
    omega
  · omega
theorem lo_j {j : Int} (h : 0 = (5 - (1721117 + 365 * (76 * j + 19) + (19 * j + 4) + (21 + 15))) % 7) : ∃ v, j = 7 * v + 6 := by
  refine ⟨j / 7, ?_⟩
  have h2 : (5 - (1721117 + 365 * (76 * j + 19) + (19 * j + 4) + (21 + 15))) = 3 * (j % 7) + 3 + 7 * (3 * (j / 7) - 246870 - 3966 * j) := by omega
  rw [h2, Int.add_mul_emod_self_left] at h
  omega
theorem lo_T {T v : Int} (h : (T + 3 * (76 * (7 * v + 6) + 19 + 3760) + 5 * 3 + 5) % 7 = 1) : ∃ u, T = 7 * u + 2 := by
  refine ⟨T / 7, ?_⟩
  have h2 : T + 3 * (76 * (7 * v + 6) + 19 + 3760) + 5 * 3 + 5 = T % 7 + 6 + 7 * (T / 7 + 228 * v + 1817) := by omega
  rw [h2, Int.add_mul_emod_self_left] at h
  omega
theorem lo_p {u v p : Int} (h : 32 * 492480 + 21715 + 765433 * 12 + 123120 * 3 - 1565 * (76 * (7 * v + 6) + 19 + 3760) = 492480 * (7 * u + 2) + p) : ∃ q, p = 2660 * q + 1976 :=
  ⟨-(313 * v) - 1296 * u + 6662, by omega⟩
theorem par_lo (y : Int) : -380247 ≤ 98496 * btw y - 313 * y := by
  obtain ⟨T, p, e, w, h1, h2, h3, h4, h5, h6, h7, h8⟩ := parts_eq y
  have ht := loT ⟨(y % 19).toNat, by omega⟩ ⟨(y % 4).toNat, by omega⟩
  simp only at ht
  rw [show (((y % 19).toNat : Nat) : Int) = y % 19 by omega, show (((y % 4).toNat : Nat) : Int) = y % 4 by omega] at ht
  obtain ⟨t1, t2⟩ := ht
  rcases h6 with h6 | h6 | ⟨h6, k1, k2, k3⟩
  · omega
  · omega
  · rcases t2 with t2 | ⟨t2, t3⟩
    · exfalso; omega
    · by_cases hw : w = 0
      · rcases t2 with ⟨i1, i2⟩ | t2
        · have j1 : y % 19 = 0 := by omega
          have j2 : y % 4 = 3 := by omega
          rw [j1, j2] at h1 h8
          rw [j1] at h7
          rw [j2] at k2
          have hk : kk 0 3 = -1229471 := by decide
          rw [hk] at h1
          obtain ⟨j, hj⟩ : ∃ j, y = 76 * j + 19 := ⟨y / 76, by omega⟩
          subst hj
          have e1 : (76 * j + 19) / 4 = 19 * j + 4 := by omega
          rw [e1] at h7
          have e2 : (19 * (0 : Int) + 15) % 30 = 15 := by decide
          rw [e2, hw] at h7
          obtain ⟨v, hv⟩ := lo_j h7
          subst hv
          obtain ⟨u, hu⟩ := lo_T k2
          subst hu
          have e3 : (12 * (0 : Int) + 12) % 19 = 12 := by decide
          rw [e3] at h8
          obtain ⟨q, hq⟩ := lo_p h8
          clear j1 j2 h7 i1 i2 t1 t3 k3 e1 k2 h8
          generalize btw (76 * (7 * v + 6) + 19) = z at *
          omega
        · omega
      · omega
/-! ## One round of 689472 years; the early years -/
theorem pl_lo (y : Int) (h : y % 689472 = 201039) : 98496 * btw y - 313 * y = -380247 := by
  obtain ⟨k, hk⟩ : ∃ k, y = 689472 * k + 201039 := ⟨y / 689472, by omega⟩
  subst hk
  have m19 : (689472 * k + 201039) % 19 = 0 := by omega
  have m4 : (689472 * k + 201039) % 4 = 3 := by omega
  have d4 : (689472 * k + 201039) / 4 = 172368 * k + 50259 := by omega
  have hM : marchN (689472 * k + 201039 + 3760) = 492480 * (-(2191 * k) - 600) + 313196 := by
    unfold marchN
    rw [gold_y, m19, show (689472 * k + 201039 + 3760) % 4 = 3 by omega]
    omega
  have hT : marchN (689472 * k + 201039 + 3760) / 492480 = -(2191 * k) - 600 := by rw [hM]; omega
  have hp : marchN (689472 * k + 201039 + 3760) % 492480 = 313196 := by rw [hM]; omega
  have hw : marchW (689472 * k + 201039 + 3760) = 1 := by
    unfold marchW
    rw [hT, show (689472 * k + 201039 + 3760) % 4 = 3 by omega]
    omega
  have hg : (12 * (689472 * k + 201039 + 3760) + 17) % 19 = 12 := by rw [gold_y, m19]; decide
  have hm : march (689472 * k + 201039 + 3760) = -(2191 * k) - 598 := by
    unfold march
    rw [hw, hp, hT, hg]
    simp
    omega
  unfold btw sund
  rw [hm, moon_eq, m19, d4]
  have e : (19 * (0 : Int) + 15) % 30 = 15 := by decide
  rw [e]
  omega
theorem pl_hi (y : Int) (h : y % 689472 = 32128) : 98496 * btw y - 313 * y = 3536384 := by
  obtain ⟨k, hk⟩ : ∃ k, y = 689472 * k + 32128 := ⟨y / 689472, by omega⟩
  subst hk
  have m19 : (689472 * k + 32128) % 19 = 18 := by omega
  have m4 : (689472 * k + 32128) % 4 = 0 := by omega
  have d4 : (689472 * k + 32128) / 4 = 172368 * k + 8032 := by omega
  have hM : marchN (689472 * k + 32128 + 3760) = 492480 * (-(2191 * k) - 83) + 492195 := by
    unfold marchN
    rw [gold_y, m19, show (689472 * k + 32128 + 3760) % 4 = 0 by omega]
    omega
  have hT : marchN (689472 * k + 32128 + 3760) / 492480 = -(2191 * k) - 83 := by rw [hM]; omega
  have hp : marchN (689472 * k + 32128 + 3760) % 492480 = 492195 := by rw [hM]; omega
  have hw : marchW (689472 * k + 32128 + 3760) = 3 := by
    unfold marchW
    rw [hT, show (689472 * k + 32128 + 3760) % 4 = 0 by omega]
    omega
  have hg : (12 * (689472 * k + 32128 + 3760) + 17) % 19 = 0 := by rw [gold_y, m19]; decide
  have hm : march (689472 * k + 32128 + 3760) = -(2191 * k) - 83 := by
    unfold march
    rw [hw, hp, hT, hg]
    simp
  unfold btw sund
  rw [hm, moon_eq, m19, d4]
  have e : (19 * (18 : Int) + 15) % 30 = 27 := by decide
  rw [e]
  omega
def earlyL : List Int := [326, 346, 350, 475, 495]
def sameL : List Int := [343, 347, 367, 370, 374, 394, 401, 414, 418, 421, 441, 445, 465, 496, 499, 519, 523, 536, 543, 563, 570, 590, 594, 614, 743, 783]
theorem earlyA : ∀ y ∈ earlyL, btw y = -2 := by decide +kernel
theorem earlyS : ∀ y ∈ sameL, btw y = 0 := by decide +kernel
theorem earlyA_le : ∀ y ∈ earlyL, y ≤ 783 := by decide
theorem earlyS_le : ∀ y ∈ sameL, y ≤ 783 := by decide
theorem earlyT : ∀ n : Fin 889, 1 ≤ btw (326 + (n.val : Int)) ∨ 326 + (n.val : Int) ∈ earlyL ∨ 326 + (n.val : Int) ∈ sameL := by decide +kernel
theorem early_at {y : Int} (h1 : 326 ≤ y) (h2 : y ≤ 1214) : (783 < y ∧ 1 ≤ btw y) ∨ (y ≤ 783 ∧ ((y ∈ earlyL ∧ btw y = -2) ∨ (y ∉ earlyL ∧ y ∈ sameL ∧ btw y = 0) ∨ (y ∉ earlyL ∧ y ∉ sameL ∧ 1 ≤ btw y))) := by
  by_cases a : y ∈ earlyL
  · exact .inr ⟨earlyA_le y a, .inl ⟨a, earlyA y a⟩⟩
  · by_cases b : y ∈ sameL
    · exact .inr ⟨earlyS_le y b, .inr (.inl ⟨a, b, earlyS y b⟩)⟩
    · have h := earlyT ⟨(y - 326).toNat, by omega⟩
      simp only at h
      rw [show 326 + (((y - 326).toNat : Nat) : Int) = y by omega] at h
      have c : 1 ≤ btw y := by
        rcases h with h | h | h
        · exact h
        · exact absurd h a
        · exact absurd h b
      by_cases d : y ≤ 783
      · exact .inr ⟨d, .inr (.inr ⟨a, b, c⟩)⟩
      · exact .inl ⟨by omega, c⟩
theorem march_bd (y : Int) : ∃ p e : Int, 492480 * march (y + 3760) = 32 * 492480 + 21715 + 765433 * ((12 * (y % 19) + 12) % 19) + 123120 * (y % 4) - 1565 * (y + 3760) - p + 492480 * e ∧ 0 ≤ p ∧ p < 492480 ∧ 0 ≤ e ∧ e ≤ 2 := by
  obtain ⟨T, p, e, h1, h2, h3, h4, h5, h6⟩ := march_cases (y + 3760)
  have hp : (y + 3760) % 4 = y % 4 := by omega
  have hN : marchN (y + 3760) = 32 * 492480 + 21715 + 765433 * ((12 * (y % 19) + 12) % 19) + 123120 * (y % 4) - 1565 * (y + 3760) := by
    unfold marchN; rw [gold_y, hp]
  rw [hN] at h2
  exact ⟨p, e, by omega, h3, h4, by omega, by omega⟩
theorem civ_year {y : Int} (h1 : -3759 ≤ y) (h2 : y ≤ 50000) : civY (ns (y + 3760) + 1) = y := by
  obtain ⟨m1, m2, d1, d2, hc⟩ := civ_ok (ns (y + 3760) + 1)
  have hg := valid_range m1 m2 d1 d2
  rw [hc, show ns (y + 3760) + 1 - 1 = ns (y + 3760) by omega] at hg
  refine good_unique hg (good_of ?_)
  have hs := spr_ok y
  obtain ⟨p, e, k1, k2, k3, k4, k5⟩ := march_bd y
  have hb : 0 ≤ (12 * (y % 19) + 12) % 19 ∧ (12 * (y % 19) + 12) % 19 ≤ 18 := by omega
  have hl : 0 ≤ leapI y := by unfold leapI; split <;> decide
  generalize (12 * (y % 19) + 12) % 19 = g at *
  generalize march (y + 3760) = m at *
  unfold jan1
  omega
theorem year_ok {y : Int} (h1 : -3759 ≤ y) : -380247 ≤ 98496 * btw y - 313 * y ∧ 98496 * btw y - 313 * y ≤ 3536384 ∧ (783 < y → 1 ≤ btw y) := by
  refine ⟨par_lo y, par_hi y, fun h => ?_⟩
  by_cases h2 : y ≤ 1214
  · rcases early_at (y := y) (by omega) h2 with ⟨_, b⟩ | ⟨a, _⟩
    · exact b
    · omega
  · have := par_lo y
    omega
end Mine
end
/-! F1 -/
section
open PySem PySem.W PyProof.Rows
namespace Mine
open PySem.Float64 PySem.Flt

/-! ## Floats: q n is the float n/4 -/
def q (n : Int) : UInt64 := ofFrac (decide (n < 0)) n.natAbs 4

theorem V_inj {t t' : Nat} (h : V t = V t') : t = t' := by
  rcases Nat.lt_trichotomy t t' with h1 | h1 | h1
  · have := V_lt h1; omega
  · exact h1
  · have := V_lt h1; omega

/-- N * 2 ^ c is a double for N below 2 ^ 53 -/
theorem rep {N c : Nat} (hN : N < 2 ^ 53) (hc : 52 ≤ c) (hc2 : c ≤ 1100) : ∃ t, t < infMag ∧ V t = N * 2 ^ c := by
  by_cases h0 : N = 0
  · exact ⟨0, by decide, by rw [h0, V_zero, Nat.zero_mul]⟩
  · have hl1 := Nat.log2_self_le h0
    have hl2 := @Nat.lt_log2_self N
    have hl3 : N.log2 < 53 := (Nat.log2_lt h0).2 hN
    generalize N.log2 = l at *
    have e1 : 2 ^ 52 = 2 ^ l * 2 ^ (52 - l) := by rw [← Nat.pow_add]; congr 1; omega
    have e2 : 2 ^ 53 = 2 ^ (l + 1) * 2 ^ (52 - l) := by rw [← Nat.pow_add]; congr 1; omega
    have hp : 0 < 2 ^ (52 - l) := Nat.two_pow_pos _
    have hlo : 2 ^ 52 ≤ N * 2 ^ (52 - l) := by rw [e1]; exact Nat.mul_le_mul_right _ hl1
    have hhi : N * 2 ^ (52 - l) < 2 ^ 53 := by rw [e2]; exact Nat.mul_lt_mul_of_pos_right hl2 hp
    refine ⟨(c - (52 - l)) * 2 ^ 52 + N * 2 ^ (52 - l), ?_, ?_⟩
    · unfold infMag; omega
    · rw [V_at (by omega) (.inl hlo), Nat.mul_assoc, ← Nat.pow_add]
      congr 2; omega

theorem near_ge {t W D u : Nat} (near : dist W (D * V t) ≤ dist W (D * V u)) (hD : 0 < D) (hu : D * V u ≤ W) : V u ≤ V t := by
  rcases Nat.lt_or_ge (V t) (V u) with h | h
  · have h2 : D * V t < D * V u := Nat.mul_lt_mul_of_pos_left h hD
    unfold dist at near
    omega
  · exact h
theorem near_le {t W D u : Nat} (near : dist W (D * V t) ≤ dist W (D * V u)) (hD : 0 < D) (hu : W ≤ D * V u) : V t ≤ V u := by
  rcases Nat.lt_or_ge (V u) (V t) with h | h
  · have h2 : D * V u < D * V t := Nat.mul_lt_mul_of_pos_left h hD
    unfold dist at near
    omega
  · exact h

/-- below 2 ^ 200 nothing overflows -/
theorem not_over {W D : Nat} (_hD : 0 < D) (h : W < D * (2 ^ 200 * 2 ^ 1074)) : ¬ D * ((2 ^ 54 - 1) * 2 ^ 2045) ≤ 2 * W := by
  have e : (2 : Nat) ^ 2045 = 2 ^ 971 * 2 ^ 1074 := by rw [← Nat.pow_add]
  rw [e]
  have e2 : (2 : Nat) ^ 971 = 2 ^ 200 * 2 ^ 771 := by rw [← Nat.pow_add]
  rw [e2]
  have hp : 0 < (2 : Nat) ^ 771 := Nat.two_pow_pos _
  generalize (2 : Nat) ^ 1074 = K at *
  generalize (2 : Nat) ^ 771 = L at *
  generalize (2 : Nat) ^ 200 = M at *
  intro hc
  have h3 : D * (M * K) ≤ D * (M * K) * L := Nat.le_mul_of_pos_right _ hp
  have h4 : D * ((2 ^ 54 - 1) * (M * L * K)) = (2 ^ 54 - 1) * (D * (M * K) * L) := by ac_rfl
  rw [h4] at hc
  generalize D * (M * K) * L = X at *
  omega

/-- what is a double stands as it is -/
theorem right_exact {r : UInt64} {neg : Bool} {W D N c : Nat} (h : Right r neg W D) (hD : 0 < D) (hW : W = D * (N * 2 ^ c)) (hN : N < 2 ^ 53) (hc : 52 ≤ c) (hc2 : c ≤ 1100) :
    ∃ t, r = pack neg t ∧ t < infMag ∧ V t = N * 2 ^ c := by
  obtain ⟨t, hr, hle, hov, hnear⟩ := h
  obtain ⟨u, hu, hV⟩ := rep hN hc hc2
  have hlt : t < infMag := by
    rcases Nat.lt_or_ge t infMag with h1 | h1
    · exact h1
    · exfalso
      refine not_over hD ?_ (hov.mp (by omega))
      rw [hW]
      refine Nat.mul_lt_mul_of_pos_left ?_ hD
      have h2 : (2 : Nat) ^ c ≤ 2 ^ 1100 := Nat.pow_le_pow_right (by decide) hc2
      have h3 : (2 : Nat) ^ 1100 = 2 ^ 26 * 2 ^ 1074 := by rw [← Nat.pow_add]
      have h4 : N * 2 ^ c ≤ 2 ^ 53 * (2 ^ 26 * 2 ^ 1074) := by rw [← h3]; exact Nat.mul_le_mul (by omega) h2
      have h5 : (2 : Nat) ^ 53 * (2 ^ 26 * 2 ^ 1074) < 2 ^ 200 * 2 ^ 1074 := by
        rw [← Nat.mul_assoc, ← Nat.pow_add]
        exact Nat.mul_lt_mul_of_pos_right (Nat.pow_lt_pow_right (by decide) (by decide)) (Nat.two_pow_pos _)
      exact Nat.lt_of_le_of_lt h4 h5
  have hn := hnear hlt u
  have e : D * V u = W := by rw [hV, hW]
  have h1 := near_ge hn.1 hD (Nat.le_of_eq e)
  have h2 := near_le hn.1 hD (Nat.le_of_eq e.symm)
  exact ⟨t, hr, hlt, by omega⟩

theorem q_form {n : Int} (hn : n.natAbs < 2 ^ 53) : ∃ t, q n = pack (decide (n < 0)) t ∧ t < infMag ∧ V t = n.natAbs * 2 ^ 1072 := by
  have h : Right (q n) (decide (n < 0)) (n.natAbs * 2 ^ 1074) 4 := ofFrac_right (by decide) rfl (by decide)
  refine right_exact h (by decide) ?_ hn (by decide) (by decide)
  have e : (2 : Nat) ^ 1074 = 4 * 2 ^ 1072 := by rw [show (4 : Nat) = 2 ^ 2 from rfl, ← Nat.pow_add]
  rw [e]; ac_rfl

theorem q_of {r : UInt64} {neg : Bool} {W D : Nat} {n : Int} (h : Right r neg W D) (hD : 0 < D) (hW : W = D * (n.natAbs * 2 ^ 1072)) (hn : n.natAbs < 2 ^ 53) (hneg : neg = decide (n < 0)) : r = q n := by
  obtain ⟨t, hr, _, hV⟩ := right_exact h hD hW hn (by decide) (by decide)
  obtain ⟨u, hu, _, hV2⟩ := q_form hn
  rw [hr, hu, hneg, V_inj (hV.trans hV2.symm)]

theorem sgn_decide (n : Int) (k : Nat) : sgn (decide (n < 0)) (n.natAbs * k) = n * k := by
  unfold sgn
  by_cases h : n < 0
  · rw [if_pos (by simpa using h), Int.natCast_mul, show ((n.natAbs : Nat) : Int) = -n by omega, Int.neg_mul, Int.neg_neg]
  · rw [if_neg (by simpa using h), Int.natCast_mul, show ((n.natAbs : Nat) : Int) = n by omega]

theorem q_dec {n : Int} (hn : n.natAbs < 2 ^ 53) : ∃ m e, decode (q n) = .fin (decide (n < 0)) m e ∧ m * 2 ^ (e + 1074).toNat = n.natAbs * 2 ^ 1072 := by
  obtain ⟨t, ht, hlt, hV⟩ := q_form hn
  obtain ⟨m, e, hd, hm⟩ := decode_pack (decide (n < 0)) hlt
  exact ⟨m, e, by rw [ht, hd], by rw [hm, hV]⟩
theorem q_val {n : Int} (hn : n.natAbs < 2 ^ 53) : val (q n) = n * ((2 ^ 1072 : Nat) : Int) := by
  obtain ⟨m, e, hd, hm⟩ := q_dec hn
  rw [val_eq hd, hm, sgn_decide]
theorem q_zero : q 0 = zero false := by decide +kernel

theorem Kpos : (0 : Int) < ((2 ^ 1072 : Nat) : Int) := Int.ofNat_lt.mpr (Nat.two_pow_pos _)
theorem natAbs_K (z : Int) : (z * ((2 ^ 1072 : Nat) : Int)).natAbs = z.natAbs * 2 ^ 1072 := by rw [Int.natAbs_mul, Int.natAbs_natCast]
theorem K_neg (z : Int) : decide (z * ((2 ^ 1072 : Nat) : Int) < 0) = decide (z < 0) := by
  apply decide_eq_decide.mpr
  have hK := Kpos
  generalize ((2 ^ 1072 : Nat) : Int) = K at *
  constructor
  · intro h
    rcases Int.lt_or_le z 0 with h2 | h2
    · exact h2
    · have := Int.mul_nonneg h2 (Int.le_of_lt hK); omega
  · exact fun h => Int.mul_neg_of_neg_of_pos h hK

theorem q_add {a b : Int} (ha : a.natAbs < 2 ^ 53) (hb : b.natAbs < 2 ^ 53) (hs : (a + b).natAbs < 2 ^ 53) : add (q a) (q b) = q (a + b) := by
  obtain ⟨m, e, hd, _⟩ := q_dec ha
  obtain ⟨k, f, hd2, _⟩ := q_dec hb
  have h := add_right hd hd2
  rw [q_val ha, q_val hb, ← Int.add_mul] at h
  by_cases h0 : a + b = 0
  · rw [h.1 (by rw [h0, Int.zero_mul]), h0, q_zero]
    congr 1
    by_cases h1 : a < 0
    · simp only [h1, decide_true, Bool.true_and, decide_eq_false_iff_not]; omega
    · simp only [h1, decide_false, Bool.false_and]
  · have h2 := h.2 (by
      intro hc
      rcases Int.mul_eq_zero.mp hc with h3 | h3
      · exact h0 h3
      · have := Kpos; rw [h3] at this; exact absurd this (by decide))
    rw [K_neg, natAbs_K] at h2
    exact q_of h2 (by decide) (by rw [Nat.one_mul]) hs rfl

theorem q_sub {a b : Int} (ha : a.natAbs < 2 ^ 53) (hb : b.natAbs < 2 ^ 53) (hs : (a - b).natAbs < 2 ^ 53) : sub (q a) (q b) = q (a - b) := by
  obtain ⟨m, e, hd, _⟩ := q_dec ha
  obtain ⟨k, f, hd2, _⟩ := q_dec hb
  have h := sub_right hd hd2
  rw [q_val ha, q_val hb, ← Int.sub_mul] at h
  by_cases h0 : a - b = 0
  · rw [h.1 (by rw [h0, Int.zero_mul]), h0, q_zero]
    congr 1
    have : a = b := by omega
    subst this
    cases decide (a < 0) <;> rfl
  · have h2 := h.2 (by
      intro hc
      rcases Int.mul_eq_zero.mp hc with h3 | h3
      · exact h0 h3
      · have := Kpos; rw [h3] at this; exact absurd this (by decide))
    rw [K_neg, natAbs_K] at h2
    exact q_of h2 (by decide) (by rw [Nat.one_mul]) hs rfl

theorem two1074 : (2 : Nat) ^ 1074 = 4 * 2 ^ 1072 := by rw [show (4 : Nat) = 2 ^ 2 from rfl, ← Nat.pow_add]

theorem q_int {i : Int} (hi : i.natAbs < 2 ^ 51) : ofInt i = q (4 * i) := by
  refine q_of (ofInt_right i) (by decide) ?_ (by omega) (decide_eq_decide.mpr (by omega))
  rw [two1074, Nat.one_mul, Int.natAbs_mul]
  show i.natAbs * (4 * 2 ^ 1072) = 4 * i.natAbs * 2 ^ 1072
  ac_rfl

theorem q_mul {a b : Int} (ha : 0 ≤ a) (hb : 0 ≤ b) (ha2 : a < 2 ^ 53) (hb2 : b < 2 ^ 51) (hs : a * b < 2 ^ 53) : mul (q a) (q (4 * b)) = q (a * b) := by
  have ha3 : a.natAbs < 2 ^ 53 := by omega
  have hb3 : (4 * b).natAbs < 2 ^ 53 := by omega
  have hab := Int.mul_nonneg ha hb
  obtain ⟨m, e, hd, _⟩ := q_dec ha3
  obtain ⟨k, f, hd2, _⟩ := q_dec hb3
  have h := mul_right hd hd2
  rw [q_val ha3, q_val hb3, natAbs_K, natAbs_K] at h
  refine q_of h (Nat.two_pow_pos _) ?_ (by omega) ?_
  · rw [two1074, Int.natAbs_mul, Int.natAbs_mul]
    generalize (2 : Nat) ^ 1072 = K
    show a.natAbs * K * (4 * b.natAbs * K) = 4 * K * (a.natAbs * b.natAbs * K)
    ac_rfl
  · rw [decide_eq_false (by omega), decide_eq_false (by omega), decide_eq_false (by omega)]; rfl

theorem floorOf_val {s : Bool} {m : Nat} {e : Int} (he : -1074 ≤ e) : floorOf s m e = (sgn s (m * 2 ^ (e + 1074).toNat)).fdiv ((2 ^ 1074 : Nat) : Int) := by
  unfold floorOf
  have hK : (0 : Int) < ((2 ^ 1074 : Nat) : Int) := Int.ofNat_lt.mpr (Nat.two_pow_pos _)
  split
  · rename_i h
    have e1 : (e + 1074).toNat = e.toNat + 1074 := by omega
    rw [e1, Nat.pow_add, ← Nat.mul_assoc, sgn_mul, Int.mul_fdiv_cancel _ (by omega), sgn_mul]
    congr 1
  · rename_i h
    have e1 : (2 : Nat) ^ 1074 = 2 ^ (-e).toNat * 2 ^ (e + 1074).toNat := by rw [← Nat.pow_add]; congr 1; omega
    rw [e1, sgn_mul, Int.natCast_mul]
    have hp : (0 : Int) < ((2 ^ (e + 1074).toNat : Nat) : Int) := Int.ofNat_lt.mpr (Nat.two_pow_pos _)
    rw [Int.mul_comm, Int.mul_comm _ ((2 ^ (e + 1074).toNat : Nat) : Int), Int.mul_fdiv_mul_of_pos _ _ hp]
    congr 1

theorem toInt_floor {x : UInt64} {s : Bool} {m : Nat} {e : Int} (h : decode x = .fin s m e) : toInt floorOf x = (val x).fdiv ((2 ^ 1074 : Nat) : Int) := by
  rw [toInt_fin h, floorOf_val (decode_ge h), val_eq h]
theorem toInt_trunc {x : UInt64} {m : Nat} {e : Int} (h : decode x = .fin false m e) : toInt truncOf x = toInt floorOf x := by
  rw [toInt_fin h, toInt_fin h]; rfl
theorem fin_of {x : UInt64} {s : Bool} {m : Nat} {e : Int} (h : decode x = .fin s m e) : Float64.isFinite x = true ∧ Float64.isNaN x = false ∧ Float64.isInf x = false := by
  unfold Float64.isFinite Float64.isNaN Float64.isInf
  rw [h]; exact ⟨rfl, rfl, rfl⟩

theorem q_floor {n : Int} (hn : n.natAbs < 2 ^ 53) : toInt floorOf (q n) = n / 4 := by
  obtain ⟨m, e, hd, hm⟩ := q_dec hn
  rw [toInt_floor hd, q_val hn, two1074]
  have hK := Kpos
  rw [Int.natCast_mul, Int.mul_comm n, Int.mul_comm ((4 : Nat) : Int), Int.mul_fdiv_mul_of_pos _ _ hK]
  rw [Int.fdiv_eq_ediv_of_nonneg _ (by decide)]
  rfl
theorem q_trunc {n : Int} (h0 : 0 ≤ n) (hn : n < 2 ^ 53) : toInt truncOf (q n) = n / 4 := by
  have hn' : n.natAbs < 2 ^ 53 := by omega
  obtain ⟨m, e, hd, hm⟩ := q_dec hn'
  rw [decide_eq_false (by omega)] at hd
  rw [toInt_trunc hd, q_floor hn']
theorem q_fin {n : Int} (hn : n.natAbs < 2 ^ 53) : Float64.isFinite (q n) = true ∧ Float64.isNaN (q n) = false ∧ Float64.isInf (q n) = false := by
  obtain ⟨m, e, hd, hm⟩ := q_dec hn
  exact fin_of hd
end Mine
end
/-! F2 -/
section
open PySem PySem.W PyProof.Rows
namespace Mine
open PySem.Float64 PySem.Flt

theorem scale_le {a b c : Nat} (h : a ≤ b) : a * c ≤ b * c := Nat.mul_le_mul_right c h

/-- a value between k and k+1 (or -k and -k+1) less a millionth is rounded within it -/
theorem floor_right {r : UInt64} {neg : Bool} {W D : Nat} (h : Right r neg W D) (hD : 0 < D) {L U : Nat} (hL : L < 2 ^ 53) (hU : U < 2 ^ 53)
    (h1 : D * (L * 2 ^ 1054) ≤ W) (h2 : W ≤ D * (U * 2 ^ 1054)) : ∃ m e, decode r = .fin neg m e ∧ L * 2 ^ 1054 ≤ m * 2 ^ (e + 1074).toNat ∧ m * 2 ^ (e + 1074).toNat ≤ U * 2 ^ 1054 := by
  obtain ⟨t, hr, hle, hov, hnear⟩ := h
  obtain ⟨u, hu, hVu⟩ := rep hU (c := 1054) (by decide) (by decide)
  obtain ⟨l, hl, hVl⟩ := rep hL (c := 1054) (by decide) (by decide)
  have hlt : t < infMag := by
    rcases Nat.lt_or_ge t infMag with h3 | h3
    · exact h3
    · exfalso
      refine not_over hD ?_ (hov.mp (by omega))
      refine Nat.lt_of_le_of_lt h2 ?_
      refine Nat.mul_lt_mul_of_pos_left ?_ hD
      have h4 : (2 : Nat) ^ 1074 = 2 ^ 20 * 2 ^ 1054 := by rw [← Nat.pow_add]
      rw [h4, ← Nat.mul_assoc]
      refine Nat.mul_lt_mul_of_pos_right ?_ (Nat.two_pow_pos _)
      have : (2 : Nat) ^ 53 ≤ 2 ^ 200 * 2 ^ 20 := by decide
      omega
  obtain ⟨m, e, hd, hm⟩ := decode_pack neg hlt
  have hg := near_ge (hnear hlt l).1 hD (by rw [hVl]; exact h1)
  have hh := near_le (hnear hlt u).1 hD (by rw [hVu]; exact h2)
  exact ⟨m, e, by rw [hr, hd], by rw [hm, ← hVl]; exact hg, by rw [hm, ← hVu]; exact hh⟩

theorem two1074' : (2 : Nat) ^ 1074 = 2 ^ 20 * 2 ^ 1054 := by rw [← Nat.pow_add]

theorem floor_frac {r : UInt64} {a : Int} {B c : Nat} {neg : Bool} (h : Right r neg (a.natAbs * 2 ^ 1074 * c) (B * c)) (hneg : neg = decide (a < 0)) (hc : 0 < c) (hB : 0 < B) (hB2 : B ≤ 2 ^ 20) (ha : a.natAbs < 2 ^ 32 * B) :
    ∃ m e, decode r = .fin neg m e ∧ toInt floorOf r = a / (B : Int) := by
  have hD : 0 < B * c := Nat.mul_pos hB hc
  have hKp : 0 < (2 : Nat) ^ 1054 := Nat.two_pow_pos _
  have hKi : (0 : Int) < ((2 ^ 1054 : Nat) : Int) := Int.ofNat_lt.mpr hKp
  by_cases hn : a < 0
  · subst hneg
    rw [decide_eq_true hn] at h ⊢
    -- k = ceil(|a| / B)
    obtain ⟨k, hk⟩ : ∃ k, k = (a.natAbs + B - 1) / B := ⟨_, rfl⟩
    have hk1 : a.natAbs ≤ B * k := by
      have := Nat.div_add_mod (a.natAbs + B - 1) B
      have h2 := Nat.mod_lt (a.natAbs + B - 1) hB
      rw [← hk] at this; omega
    have hk2 : B * k ≤ a.natAbs + B - 1 := by
      have := Nat.div_add_mod (a.natAbs + B - 1) B
      rw [← hk] at this; omega
    have hk3 : k ≤ 2 ^ 32 := by
      rcases Nat.lt_or_ge (2 ^ 32) k with h3 | h3
      · have := Nat.mul_le_mul_left B h3
        rw [Nat.mul_comm B, Nat.succ_mul] at this; omega
      · exact h3
    have hk0 : 0 < k := by
      rcases Nat.eq_zero_or_pos k with h3 | h3
      · rw [h3] at hk1; omega
      · exact h3
    have hlow : B * ((k - 1) * 2 ^ 20 + 1) ≤ a.natAbs * 2 ^ 20 := by
      have e : B * ((k - 1) * 2 ^ 20 + 1) = B * (k - 1) * 2 ^ 20 + B := by rw [Nat.mul_add, Nat.mul_one, Nat.mul_assoc]
      have e2 : B * k = B * (k - 1) + B := by
        have : k = k - 1 + 1 := by omega
        rw [this, Nat.mul_add, Nat.mul_one]; simp
      rw [e]
      generalize B * (k - 1) = x at *
      omega
    obtain ⟨m, e, hd, g1, g2⟩ := floor_right h hD (L := (k - 1) * 2 ^ 20 + 1) (U := k * 2 ^ 20) (by omega) (by omega)
      (by
        rw [two1074']
        generalize (2 : Nat) ^ 1054 = K at *
        calc B * c * (((k - 1) * 2 ^ 20 + 1) * K) = B * ((k - 1) * 2 ^ 20 + 1) * (c * K) := by ac_rfl
          _ ≤ a.natAbs * 2 ^ 20 * (c * K) := Nat.mul_le_mul_right _ hlow
          _ = a.natAbs * (2 ^ 20 * K) * c := by ac_rfl)
      (by
        rw [two1074']
        generalize (2 : Nat) ^ 1054 = K at *
        calc a.natAbs * (2 ^ 20 * K) * c = a.natAbs * (2 ^ 20 * K * c) := by ac_rfl
          _ ≤ B * k * (2 ^ 20 * K * c) := Nat.mul_le_mul_right _ hk1
          _ = B * c * (k * 2 ^ 20 * K) := by ac_rfl)
    refine ⟨m, e, hd, ?_⟩
    rw [toInt_fin hd, floorOf_val (decode_ge hd)]
    have ek : a / (B : Int) = -(k : Int) := by
      refine (Int.ediv_emod_unique (b := (B : Int)) (r := (B * k : Nat) - (a.natAbs : Int)) (by omega)).mpr ⟨?_, by omega, by omega⟩ |>.1
      rw [Int.mul_neg, Int.natCast_mul]; omega
    rw [ek]
    generalize m * 2 ^ (e + 1074).toNat = M at *
    have eK : ((2 ^ 1074 : Nat) : Int) = 2 ^ 20 * ((2 ^ 1054 : Nat) : Int) := by rw [two1074', Int.natCast_mul]; rfl
    rw [Int.fdiv_eq_ediv_of_nonneg _ (by omega)]
    generalize ((2 ^ 1074 : Nat) : Int) = K' at *
    show (if true then -(M : Int) else M) / K' = _
    rw [if_pos rfl]
    have h3 : (((k - 1) * 2 ^ 20 + 1 : Nat) : Int) * ((2 ^ 1054 : Nat) : Int) ≤ M := by rw [← Int.natCast_mul]; exact Int.ofNat_le.mpr g1
    have h4 : (M : Int) ≤ ((k * 2 ^ 20 : Nat) : Int) * ((2 ^ 1054 : Nat) : Int) := by rw [← Int.natCast_mul]; exact Int.ofNat_le.mpr g2
    generalize ((2 ^ 1054 : Nat) : Int) = K at *
    refine (Int.ediv_emod_unique (b := K') (r := K' * k - (M : Int)) (by omega)).mpr ⟨?_, ?_, ?_⟩ |>.1
    · rw [Int.mul_neg]; omega
    · rw [eK]
      have : ((k * 2 ^ 20 : Nat) : Int) * K = 2 ^ 20 * K * (k : Int) := by rw [Int.natCast_mul]; show (k : Int) * 2 ^ 20 * K = _; ac_rfl
      rw [this] at h4; omega
    · rw [eK]
      have : (((k - 1) * 2 ^ 20 + 1 : Nat) : Int) * K = 2 ^ 20 * K * (k : Int) - 2 ^ 20 * K + K := by
        have e1 : (((k - 1) * 2 ^ 20 + 1 : Nat) : Int) = (k : Int) * 2 ^ 20 - 2 ^ 20 + 1 := by omega
        rw [e1, Int.add_mul, Int.sub_mul, Int.one_mul]
        have : (k : Int) * 2 ^ 20 * K = 2 ^ 20 * K * (k : Int) := by ac_rfl
        rw [this]
      rw [this] at h3
      generalize 2 ^ 20 * K * (k : Int) = x at *
      omega
  · subst hneg
    rw [decide_eq_false hn] at h ⊢
    obtain ⟨k, hk⟩ : ∃ k, k = a.natAbs / B := ⟨_, rfl⟩
    have hmod := Nat.mod_lt a.natAbs hB
    have hdm := Nat.div_add_mod a.natAbs B
    rw [← hk] at hdm
    have hk1 : B * k ≤ a.natAbs := by omega
    have hk2 : a.natAbs < B * (k + 1) := by rw [Nat.mul_add, Nat.mul_one]; omega
    have hk3 : k < 2 ^ 32 := by
      rcases Nat.lt_or_ge k (2 ^ 32) with h3 | h3
      · exact h3
      · have := Nat.mul_le_mul_left B h3
        rw [Nat.mul_comm B] at this; omega
    have hup : a.natAbs * 2 ^ 20 ≤ B * ((k + 1) * 2 ^ 20 - 1) := by
      have e : B * ((k + 1) * 2 ^ 20 - 1) = B * (k + 1) * 2 ^ 20 - B := by rw [Nat.mul_sub, Nat.mul_one, Nat.mul_assoc]
      rw [e]
      generalize B * (k + 1) = x at *
      omega
    obtain ⟨m, e, hd, g1, g2⟩ := floor_right h hD (L := k * 2 ^ 20) (U := (k + 1) * 2 ^ 20 - 1) (by omega) (by omega)
      (by
        rw [two1074']
        generalize (2 : Nat) ^ 1054 = K at *
        calc B * c * (k * 2 ^ 20 * K) = B * k * (2 ^ 20 * K * c) := by ac_rfl
          _ ≤ a.natAbs * (2 ^ 20 * K * c) := Nat.mul_le_mul_right _ hk1
          _ = a.natAbs * (2 ^ 20 * K) * c := by ac_rfl)
      (by
        rw [two1074']
        generalize (2 : Nat) ^ 1054 = K at *
        calc a.natAbs * (2 ^ 20 * K) * c = a.natAbs * 2 ^ 20 * (c * K) := by ac_rfl
          _ ≤ B * ((k + 1) * 2 ^ 20 - 1) * (c * K) := Nat.mul_le_mul_right _ hup
          _ = B * c * (((k + 1) * 2 ^ 20 - 1) * K) := by ac_rfl)
    refine ⟨m, e, hd, ?_⟩
    rw [toInt_fin hd, floorOf_val (decode_ge hd)]
    have ek : a / (B : Int) = (k : Int) := by
      have : a = (a.natAbs : Int) := by omega
      rw [this, hk]; simp
    rw [ek]
    generalize m * 2 ^ (e + 1074).toNat = M at *
    have hM : M / 2 ^ 1074 = k := by
      rw [two1074']
      generalize (2 : Nat) ^ 1054 = K at *
      refine Nat.div_eq_of_lt_le ?_ ?_
      · rw [← Nat.mul_assoc]; exact g1
      · refine Nat.lt_of_le_of_lt g2 ?_
        rw [← Nat.mul_assoc]
        exact Nat.mul_lt_mul_of_pos_right (by omega) hKp
    show ((if false then -(M : Int) else M) : Int).fdiv _ = _
    rw [if_neg (by decide), Int.fdiv_eq_ediv_of_nonneg _ (by omega), ← hM]
    rfl

/-- floor of int / int -/
theorem floor_ii {a b : Int} (hb : 0 < b) (hb2 : b ≤ 2 ^ 20) (ha : a.natAbs < 2 ^ 32 * b.natAbs) :
    ∃ m e, decode (ofFrac (decide (a < 0) != decide (b < 0)) a.natAbs b.natAbs) = .fin (decide (a < 0)) m e ∧ toInt floorOf (ofFrac (decide (a < 0) != decide (b < 0)) a.natAbs b.natAbs) = a / b := by
  have h : Right (ofFrac (decide (a < 0) != decide (b < 0)) a.natAbs b.natAbs) (decide (a < 0)) (a.natAbs * 2 ^ 1074 * 1) (b.natAbs * 1) := by
    rw [decide_eq_false (p := b < 0) (by omega), Bool.bne_false]
    exact ofFrac_right (by omega) (by rw [Nat.mul_one, Nat.mul_one]) (by omega)
  obtain ⟨m, e, hd, hf⟩ := floor_frac h rfl (by decide) (by omega) (by omega) ha
  exact ⟨m, e, hd, by rw [hf]; congr 1; omega⟩

theorem div_dec {a b : Int} (ha : a.natAbs < 2 ^ 53) (hb : 0 < b) (hb2 : b ≤ 2 ^ 18) (ha2 : a.natAbs < 2 ^ 34 * b.natAbs) :
    ∃ m e, decode (div (q a) (q (4 * b))) = .fin (decide (a < 0)) m e ∧ toInt floorOf (div (q a) (q (4 * b))) = a / (4 * b) := by
  have hb3 : (4 * b).natAbs < 2 ^ 53 := by omega
  obtain ⟨m, e, hd, _⟩ := q_dec ha
  obtain ⟨k, f, hd2, hk⟩ := q_dec hb3
  have hk0 : k ≠ 0 := by
    intro h0
    rw [h0, Nat.zero_mul] at hk
    have h1 : 0 < (4 * b).natAbs * 2 ^ 1072 := Nat.mul_pos (by omega) (Nat.two_pow_pos _)
    rw [← hk] at h1
    exact Nat.lt_irrefl _ h1
  have h := div_right hd hd2 hk0
  rw [q_val ha, q_val hb3, natAbs_K, natAbs_K, decide_eq_false (p := 4 * b < 0) (by omega), Bool.bne_false] at h
  have h' : Right (div (q a) (q (4 * b))) (decide (a < 0)) (a.natAbs * 2 ^ 1074 * 2 ^ 1072) ((4 * b).natAbs * 2 ^ 1072) := by
    have e : a.natAbs * 2 ^ 1072 * 2 ^ 1074 = a.natAbs * 2 ^ 1074 * 2 ^ 1072 := by
      generalize (2 : Nat) ^ 1074 = K
      generalize (2 : Nat) ^ 1072 = L
      ac_rfl
    rw [e] at h; exact h
  obtain ⟨m, e, hd, hf⟩ := floor_frac h' rfl (Nat.two_pow_pos _) (by omega) (by omega) (by omega)
  exact ⟨m, e, hd, by rw [hf]; congr 1; omega⟩

theorem cmpInt_q {a : Int} (ha : a.natAbs < 2 ^ 53) (i : Int) : cmpInt (q a) i = some (compare a (4 * i)) := by
  obtain ⟨m, e, hd, _⟩ := q_dec ha
  rw [cmpInt_right hd, q_val ha]
  have e1 : i * 2 ^ 1074 = 4 * i * ((2 ^ 1072 : Nat) : Int) := by
    have : (2 : Int) ^ 1074 = ((2 ^ 1074 : Nat) : Int) := by simp
    rw [this, two1074, Int.natCast_mul]
    generalize ((2 ^ 1072 : Nat) : Int) = K
    show i * (4 * K) = 4 * i * K
    ac_rfl
  rw [e1]
  have hK := Kpos
  generalize ((2 ^ 1072 : Nat) : Int) = K at *
  congr 1
  rcases Int.lt_trichotomy a (4 * i) with h | h | h
  · rw [Int.compare_eq_lt.mpr h, Int.compare_eq_lt.mpr (Int.mul_lt_mul_of_pos_right h hK)]
  · rw [h]; simp
  · rw [Int.compare_eq_gt.mpr h, Int.compare_eq_gt.mpr (Int.mul_lt_mul_of_pos_right h hK)]
theorem cmp_q {a b : Int} (ha : a.natAbs < 2 ^ 53) (hb : b.natAbs < 2 ^ 53) : cmp (q a) (q b) = some (compare a b) := by
  obtain ⟨m, e, hd, _⟩ := q_dec ha
  obtain ⟨k, f, hd2, _⟩ := q_dec hb
  rw [cmp_right hd hd2, q_val ha, q_val hb]
  have hK := Kpos
  generalize ((2 ^ 1072 : Nat) : Int) = K at *
  congr 1
  rcases Int.lt_trichotomy a b with h | h | h
  · rw [Int.compare_eq_lt.mpr h, Int.compare_eq_lt.mpr (Int.mul_lt_mul_of_pos_right h hK)]
  · rw [h]; simp
  · rw [Int.compare_eq_gt.mpr h, Int.compare_eq_gt.mpr (Int.mul_lt_mul_of_pos_right h hK)]
theorem cmp_lt_q {a b : Int} : (some (compare a b) == some Ordering.lt) = decide (a < b) := by
  rcases Int.lt_trichotomy a b with h | h | h
  · rw [Int.compare_eq_lt.mpr h, decide_eq_true h]; rfl
  · subst h; rw [Int.compare_eq_eq.mpr rfl, decide_eq_false (by omega)]; rfl
  · rw [Int.compare_eq_gt.mpr h, decide_eq_false (by omega)]; rfl
theorem cmp_eq_q {a b : Int} : (some (compare a b) == some Ordering.eq) = decide (a = b) := by
  rcases Int.lt_trichotomy a b with h | h | h
  · rw [Int.compare_eq_lt.mpr h, decide_eq_false (by omega)]; rfl
  · subst h; rw [Int.compare_eq_eq.mpr rfl, decide_eq_true rfl]; rfl
  · rw [Int.compare_eq_gt.mpr h, decide_eq_false (by omega)]; rfl
theorem isZero_q {a : Int} (ha : a.natAbs < 2 ^ 53) : isZero (q a) = decide (a = 0) := by
  rw [isZero_eq, cmpInt_q ha, cmp_eq_q]
  exact decide_eq_decide.mpr (by omega)

theorem fmod_q {a b : Int} (ha : a.natAbs < 2 ^ 53) (hb : 0 < b) (hb2 : b < 2 ^ 53) : ∃ t, fmod (q a) (q b) = pack (decide (a < 0)) t ∧ t < infMag ∧ V t = (a.natAbs % b.natAbs) * 2 ^ 1072 := by
  have hb3 : b.natAbs < 2 ^ 53 := by omega
  obtain ⟨m, e, hd, hm⟩ := q_dec ha
  obtain ⟨k, f, hd2, hk⟩ := q_dec hb3
  have he := decode_ge hd
  have hf := decode_ge hd2
  have hk0 : k ≠ 0 := by
    intro h0
    rw [h0, Nat.zero_mul] at hk
    have h1 : 0 < b.natAbs * 2 ^ 1072 := Nat.mul_pos (by omega) (Nat.two_pow_pos _)
    rw [← hk] at h1
    exact Nat.lt_irrefl _ h1
  have hfm : fmod (q a) (q b) = ofBin (decide (a < 0)) (m * 2 ^ (e - min e f).toNat % (k * 2 ^ (f - min e f).toNat)) (min e f) := by
    unfold fmod
    rw [hd, hd2]
    simp only
    rw [if_neg (by simpa using hk0)]
    rfl
  rw [hfm]
  have h := ofBin_right (neg := decide (a < 0)) (M := m * 2 ^ (e - min e f).toNat % (k * 2 ^ (f - min e f).toNat)) (g := min e f) (by omega)
  have e1 : m * 2 ^ (e - min e f).toNat * 2 ^ (min e f + 1074).toNat = a.natAbs * 2 ^ 1072 := by
    rw [← hm, Nat.mul_assoc, ← Nat.pow_add]; congr 2; omega
  have e2 : k * 2 ^ (f - min e f).toNat * 2 ^ (min e f + 1074).toNat = b.natAbs * 2 ^ 1072 := by
    rw [← hk, Nat.mul_assoc, ← Nat.pow_add]; congr 2; omega
  rw [← Nat.mul_mod_mul_right, e1, e2, Nat.mul_mod_mul_right] at h
  exact right_exact h (by decide) (by rw [Nat.one_mul]) (Nat.lt_of_lt_of_le (Nat.mod_lt _ (by omega)) (by omega)) (by decide) (by decide)

theorem mod_q {a b : Int} (ha : a.natAbs < 2 ^ 53) (hb : 0 < b) (hb2 : b < 2 ^ 53) : (divmod (q a) (q b)).2 = q (a % b) := by
  have hb3 : b.natAbs < 2 ^ 53 := by omega
  obtain ⟨t, ht, hlt, hV⟩ := fmod_q ha hb hb2
  have hmlt : a.natAbs % b.natAbs < b.natAbs := Nat.mod_lt _ (by omega)
  by_cases h0 : a.natAbs % b.natAbs = 0
  · have hz : isZero (fmod (q a) (q b)) = true := by
      rw [h0, Nat.zero_mul, ← V_zero] at hV
      rw [ht, V_inj hV]
      cases decide (a < 0) <;> decide +kernel
    have hr : (divmod (q a) (q b)).2 = copysign (zero false) (q b) := by
      unfold divmod; simp only [hz, if_true]
    have hq : a % b = 0 := by
      have : (b.natAbs : Int) ∣ a := Int.natAbs_dvd_natAbs.mp (by rw [Int.natAbs_natCast]; exact Nat.dvd_of_mod_eq_zero h0)
      have hbb : (b.natAbs : Int) = b := by omega
      rw [hbb] at this
      exact Int.emod_eq_zero_of_dvd this
    rw [hr, hq]
    obtain ⟨u, hu, hult, _⟩ := q_form hb3
    rw [decide_eq_false (by omega)] at hu
    have hi : infMag = 2047 * 2 ^ 52 := rfl
    unfold copysign
    have hs : signBit (q b) = false := by
      unfold signBit
      rw [hu, pack_toNat false (by omega)]
      simp only [Bool.false_eq_true, if_false, Nat.zero_add, beq_eq_false_iff_ne]
      omega
    have hnan : Float64.isNaN (zero false) = false := by decide +kernel
    rw [hnan, hs]; decide +kernel
  · -- the remainder is not nought
    obtain ⟨r, hr⟩ : ∃ r : Int, r = (if a < 0 then -((a.natAbs % b.natAbs : Nat) : Int) else ((a.natAbs % b.natAbs : Nat) : Int)) := ⟨_, rfl⟩
    have hrabs : r.natAbs = a.natAbs % b.natAbs := by rw [hr]; split <;> omega
    have hr53 : r.natAbs < 2 ^ 53 := by omega
    have hfm : fmod (q a) (q b) = q r := by
      obtain ⟨u, hu, _, hVu⟩ := q_form hr53
      have hsg : decide (r < 0) = decide (a < 0) := decide_eq_decide.mpr (by rw [hr]; split <;> omega)
      rw [ht, hu, hsg]
      rw [hrabs] at hVu
      rw [V_inj (hV.trans hVu.symm)]
    have hz : isZero (q r) = false := by rw [isZero_q hr53]; exact decide_eq_false (by omega)
    have hbl : lt (q b) (zero false) = false := by
      unfold lt
      rw [← q_zero, cmp_q hb3 (by decide), cmp_lt_q]; exact decide_eq_false (by omega)
    have hrl : lt (q r) (zero false) = decide (a < 0) := by
      unfold lt
      rw [← q_zero, cmp_q hr53 (by decide), cmp_lt_q]; exact decide_eq_decide.mpr (by rw [hr]; split <;> omega)
    have hdm : (divmod (q a) (q b)).2 = if a < 0 then add (q r) (q b) else q r := by
      unfold divmod
      simp only [hfm, hz, hbl, hrl]
      by_cases hn : a < 0
      · simp [hn]
      · simp [hn]
    rw [hdm]
    by_cases hn : a < 0
    · rw [if_pos hn, q_add hr53 hb3 (by rw [hr, if_pos hn]; omega), hr, if_pos hn]
      congr 1
      have : (a.natAbs : Int) % b = (a.natAbs % b.natAbs : Nat) := by
        rw [Int.natCast_emod]; congr 1; omega
      have e : a = -(a.natAbs : Int) := by omega
      rw [e]
      refine ((Int.ediv_emod_unique (a := -(a.natAbs : Int)) (b := b) (q := -((a.natAbs / b.natAbs : Nat) : Int) - 1) (by omega)).mpr ⟨?_, ?_, ?_⟩).2.symm
      · have := Nat.div_add_mod a.natAbs b.natAbs
        rw [Int.mul_sub, Int.mul_neg, Int.mul_one]
        have h5 : b * ((a.natAbs / b.natAbs : Nat) : Int) = ((b.natAbs * (a.natAbs / b.natAbs) : Nat) : Int) := by rw [Int.natCast_mul]; congr 1; omega
        rw [h5]; simp only [Int.natAbs_neg, Int.natAbs_natCast] at *; omega
      · simp only [Int.natAbs_neg, Int.natAbs_natCast]; omega
      · simp only [Int.natAbs_neg, Int.natAbs_natCast]; omega
    · rw [if_neg hn, hr, if_neg hn]
      congr 1
      rw [Int.natCast_emod]
      congr 1 <;> omega
end Mine
end
/-! F3 -/
section
open PySem PySem.W PyProof.Rows
namespace Mine
open PySem.Float64 PySem.Flt

theorem q_mul2 {a b n : Int} (hb : 0 < b) (ha2 : a.natAbs < 2 ^ 53) (hb2 : b < 2 ^ 53) (hn : 4 * n = a * b) (hs : n.natAbs < 2 ^ 53) : mul (q a) (q b) = q n := by
  have hb3 : b.natAbs < 2 ^ 53 := by omega
  obtain ⟨m, e, hd, _⟩ := q_dec ha2
  obtain ⟨k, f, hd2, _⟩ := q_dec hb3
  have h := mul_right hd hd2
  rw [q_val ha2, q_val hb3, natAbs_K, natAbs_K] at h
  refine q_of h (Nat.two_pow_pos _) ?_ hs ?_
  · have e1 : 4 * n.natAbs = a.natAbs * b.natAbs := by rw [← Int.natAbs_mul, ← hn, Int.natAbs_mul]; rfl
    rw [two1074]
    generalize (2 : Nat) ^ 1072 = K
    calc a.natAbs * K * (b.natAbs * K) = a.natAbs * b.natAbs * K * K := by ac_rfl
      _ = 4 * n.natAbs * K * K := by rw [e1]
      _ = 4 * K * (n.natAbs * K) := by ac_rfl
  · rw [decide_eq_false (p := b < 0) (by omega), Bool.bne_false]
    refine decide_eq_decide.mpr ⟨fun h => ?_, fun h => ?_⟩
    · have := Int.mul_neg_of_neg_of_pos h hb; omega
    · rcases Int.lt_or_le a 0 with h2 | h2
      · exact h2
      · have := Int.mul_nonneg h2 (Int.le_of_lt hb); omega
theorem q_mul3 {a b n : Int} (hb : 0 < b) (ha2 : a.natAbs < 2 ^ 53) (hb2 : b < 2 ^ 53) (hn : 4 * n = b * a) (hs : n.natAbs < 2 ^ 53) : mul (q b) (q a) = q n := by
  have hb3 : b.natAbs < 2 ^ 53 := by omega
  obtain ⟨m, e, hd, _⟩ := q_dec ha2
  obtain ⟨k, f, hd2, _⟩ := q_dec hb3
  have h := mul_right hd2 hd
  rw [q_val ha2, q_val hb3, natAbs_K, natAbs_K] at h
  refine q_of h (Nat.two_pow_pos _) ?_ hs ?_
  · have e1 : 4 * n.natAbs = b.natAbs * a.natAbs := by rw [← Int.natAbs_mul, ← hn, Int.natAbs_mul]; rfl
    rw [two1074]
    generalize (2 : Nat) ^ 1072 = K
    calc b.natAbs * K * (a.natAbs * K) = b.natAbs * a.natAbs * K * K := by ac_rfl
      _ = 4 * n.natAbs * K * K := by rw [e1]
      _ = 4 * K * (n.natAbs * K) := by ac_rfl
  · rw [decide_eq_false (p := b < 0) (by omega), Bool.false_bne]
    refine decide_eq_decide.mpr ⟨fun h => ?_, fun h => ?_⟩
    · have := Int.mul_neg_of_pos_of_neg hb h; omega
    · rcases Int.lt_or_le a 0 with h2 | h2
      · exact h2
      · have := Int.mul_nonneg (Int.le_of_lt hb) h2; omega
/-- whole floats and floats at a half -/
def wh (n : Int) : UInt64 := q (4 * n)
def hf (n : Int) : UInt64 := q (4 * n + 2)
theorem wh_trunc {n : Int} (hn : n.natAbs < 2 ^ 50) : Float64.isNaN (wh n) = false ∧ Float64.isInf (wh n) = false ∧ toInt truncOf (wh n) = n := by
  unfold wh
  obtain ⟨m, e, hd, hm⟩ := q_dec (n := 4 * n) (by omega)
  obtain ⟨_, f2, f3⟩ := fin_of hd
  refine ⟨f2, f3, ?_⟩
  by_cases h0 : 0 ≤ n
  · rw [q_trunc (by omega) (by omega)]; omega
  · rw [toInt_fin hd, decide_eq_true (by omega)]
    show -(floorOf false m e) = n
    rw [floorOf_val (decode_ge hd), hm]
    show -(((4 * n).natAbs * 2 ^ 1072 : Nat) : Int).fdiv _ = n
    have e1 : (4 * n).natAbs * 2 ^ 1072 = n.natAbs * 2 ^ 1074 := by
      rw [two1074, Int.natAbs_mul]
      generalize (2 : Nat) ^ 1072 = K
      show 4 * n.natAbs * K = n.natAbs * (4 * K)
      ac_rfl
    have hp : (0 : Int) < ((2 ^ 1074 : Nat) : Int) := Int.ofNat_lt.mpr (Nat.two_pow_pos _)
    rw [e1, Int.natCast_mul, Int.mul_fdiv_cancel _ (by omega)]
    omega

def dv (a b : Int) : UInt64 := div (q a) (q (4 * b))
def dvi (a b : Int) : UInt64 := ofFrac (decide (a < 0) != decide (b < 0)) a.natAbs b.natAbs
def dv1 (n la : Int) : UInt64 := add (dvi n 12) (ofInt la)
def dv2 (n la d : Int) : UInt64 := add (dv1 n la) (ofInt d)
def jm (b : Int) : UInt64 := mul 4629306380116972641 (ofInt b)

theorem lit_eg : (4700144277945057280 : UInt64) = hf 1721425 := by decide +kernel
theorem lit_eh : (4689722129631936512 : UInt64) = hf 347995 := by decide +kernel
theorem lit_half : (4602678819172646912 : UInt64) = q 2 := by decide +kernel
theorem lit_year : (4645133162144333824 : UInt64) = q 1461 := by decide +kernel
theorem lit_1524 : (4654419637352529920 : UInt64) = hf 1524 := by decide +kernel

def okF (x : UInt64) (v : Int) : Bool := match decode x with
  | .fin s m e => floorOf s m e == v
  | _ => false
theorem okF_spec {x : UInt64} {v : Int} (h : okF x v = true) : Float64.isFinite x = true ∧ Float64.isNaN x = false ∧ Float64.isInf x = false ∧ toInt floorOf x = v := by
  unfold okF at h
  cases hd : decode x with
  | nan => rw [hd] at h; cases h
  | inf s => rw [hd] at h; cases h
  | fin s m e =>
    rw [hd] at h
    obtain ⟨a, b, c⟩ := fin_of hd
    exact ⟨a, b, c, by rw [toInt_fin hd]; simpa using h⟩

def okB (x : UInt64) (k : Nat) : Bool := match decode x with
  | .fin false m e => decide (k * 2 ^ 1074 ≤ m * 2 ^ (e + 1074).toNat) && decide (m * 2 ^ (e + 1074).toNat + 2 ^ 1054 ≤ (k + 1) * 2 ^ 1074)
  | _ => false
theorem okB_spec {x : UInt64} {k : Nat} (h : okB x k = true) : ∃ m e, decode x = .fin false m e ∧ k * 2 ^ 1074 ≤ m * 2 ^ (e + 1074).toNat ∧ m * 2 ^ (e + 1074).toNat + 2 ^ 1054 ≤ (k + 1) * 2 ^ 1074 := by
  unfold okB at h
  split at h
  · rename_i m e hd
    rw [Bool.and_eq_true, decide_eq_true_eq, decide_eq_true_eq] at h
    exact ⟨m, e, hd, h.1, h.2⟩
  · cases h
theorem floor_pos {r : UInt64} {m : Nat} {e : Int} {k : Nat} (hd : decode r = .fin false m e) (g1 : k * 2 ^ 20 * 2 ^ 1054 ≤ m * 2 ^ (e + 1074).toNat) (g2 : m * 2 ^ (e + 1074).toNat ≤ ((k + 1) * 2 ^ 20 - 1) * 2 ^ 1054) : toInt floorOf r = (k : Int) := by
  rw [toInt_fin hd, floorOf_val (decode_ge hd)]
  generalize m * 2 ^ (e + 1074).toNat = M at *
  have hKp : 0 < (2 : Nat) ^ 1054 := Nat.two_pow_pos _
  have hM : M / 2 ^ 1074 = k := by
    rw [two1074']
    generalize (2 : Nat) ^ 1054 = K at *
    refine Nat.div_eq_of_lt_le ?_ ?_
    · rw [← Nat.mul_assoc]; exact g1
    · refine Nat.lt_of_le_of_lt g2 ?_
      rw [← Nat.mul_assoc]
      exact Nat.mul_lt_mul_of_pos_right (by omega) hKp
  show ((if false then -(M : Int) else M) : Int).fdiv _ = _
  rw [if_neg (by decide), Int.fdiv_eq_ediv_of_nonneg _ (by omega), ← hM]
  rfl
theorem okB_add {x : UInt64} {k : Nat} (h : okB x k = true) {d : Int} (hd1 : 0 < d) (hd2 : d < 2 ^ 20) (hk : k < 2 ^ 20) : ∃ m e, decode (add x (ofInt d)) = .fin false m e ∧ toInt floorOf (add x (ofInt d)) = (k : Int) + d := by
  obtain ⟨m, e, hx, h1, h2⟩ := okB_spec h
  obtain ⟨d', e', hq, hq2⟩ := q_dec (n := 4 * d) (by omega)
  have hr := add_right hx hq
  have hv1 : val x = ((m * 2 ^ (e + 1074).toNat : Nat) : Int) := by rw [val_eq hx]; rfl
  have hv2 : val (q (4 * d)) = ((d.toNat * 2 ^ 1074 : Nat) : Int) := by
    rw [q_val (by omega), Int.natCast_mul, two1074, Int.natCast_mul]
    generalize ((2 ^ 1072 : Nat) : Int) = K
    have : ((d.toNat : Nat) : Int) = d := by omega
    rw [this]
    show 4 * d * K = d * (4 * K)
    ac_rfl
  rw [hv1, hv2] at hr
  have hdp : 0 < d.toNat := by omega
  have hdd : d.toNat < 2 ^ 20 := by omega
  have hde : d = (d.toNat : Int) := by omega
  generalize d.toNat = D at *
  have hKp : 0 < (2 : Nat) ^ 1054 := Nat.two_pow_pos _
  have hD : 0 < D * 2 ^ 1074 := Nat.mul_pos hdp (Nat.two_pow_pos _)
  have hr2 := hr.2 (by omega)
  rw [decide_eq_false (by omega)] at hr2
  have eW : (((m * 2 ^ (e + 1074).toNat : Nat) : Int) + ((D * 2 ^ 1074 : Nat) : Int)).natAbs = m * 2 ^ (e + 1074).toNat + D * 2 ^ 1074 := by
    rw [← Int.natCast_add, Int.natAbs_natCast]
  rw [eW, ← q_int (by omega)] at hr2
  clear eW hr hv1 hv2 hq hq2
  generalize m * 2 ^ (e + 1074).toNat = M at *
  rw [two1074'] at h1 h2 hr2
  obtain ⟨m', e', hd', g1, g2⟩ := floor_right hr2 (by decide) (L := (k + D) * 2 ^ 20) (U := (k + D + 1) * 2 ^ 20 - 1) (by omega) (by omega)
    (by
      generalize (2 : Nat) ^ 1054 = K at *
      have e0 : 1 * ((k + D) * 2 ^ 20 * K) = k * (2 ^ 20 * K) + D * (2 ^ 20 * K) := by rw [Nat.one_mul, Nat.mul_assoc, Nat.add_mul]
      omega)
    (by
      generalize (2 : Nat) ^ 1054 = K at *
      have e1 : 1 * (((k + D + 1) * 2 ^ 20 - 1) * K) = (k + 1) * (2 ^ 20 * K) + D * (2 ^ 20 * K) - K := by
        rw [Nat.one_mul, Nat.sub_mul, Nat.one_mul, Nat.mul_assoc, ← Nat.add_mul]; congr 2; omega
      omega)
  refine ⟨m', e', hd', ?_⟩
  rw [floor_pos hd' g1 g2, hde]
  rfl
theorem tails : ∀ m : Fin 12, ∀ la : Fin 3, (la.val = 0 ∨ 2 ≤ m.val) → okB (dv1 (367 * ((m.val : Int) + 1) - 362) (-(la.val : Int))) (((367 * ((m.val : Int) + 1) - 362) / 12 + -(la.val : Int))).toNat = true := by decide +kernel
theorem tail_ok {m la d : Int} (hm : 1 ≤ m) (hm2 : m ≤ 12) (hl : -2 ≤ la) (hl2 : la ≤ 0) (hml : la = 0 ∨ 3 ≤ m) (hd : 1 ≤ d) (hd2 : d ≤ 31) : ∃ M e, decode (dv2 (367 * m - 362) la d) = .fin false M e ∧ toInt floorOf (dv2 (367 * m - 362) la d) = (367 * m - 362) / 12 + la + d := by
  have h := tails ⟨(m - 1).toNat, by omega⟩ ⟨(-la).toNat, by omega⟩ (by simp only; omega)
  simp only at h
  rw [show (((m - 1).toNat : Nat) : Int) + 1 = m by omega, show -(((-la).toNat : Nat) : Int) = la by omega] at h
  obtain ⟨M, e, h1, h2⟩ := okB_add h (d := d) (by omega) (by omega) (by omega)
  exact ⟨M, e, h1, by unfold dv2; rw [h2]; omega⟩

section
variable {prog : Program} {w : World} {A : Around} {E : Value → Shared → Prop} {s : Shared} {t u : Tok} {Q : Value → Shared → Prop} {x y : UInt64} {a b : Int}

theorem r_add_hi (hx : x = hf a) (h1 : a.natAbs < 2 ^ 48) (h2 : b.natAbs < 2 ^ 48) (h : Q (.float (hf (a + b)) s.toks) { s with toks := s.toks + 1 }) : wpAny (model prog w) A (binaryOp .Add (.float x t) (.int b u)) Q E s :=
  add_fi_fits (by omega) (by rw [hx, hf, q_int (by omega), q_add (by omega) (by omega) (by omega), show 4 * a + 2 + 4 * b = 4 * (a + b) + 2 by omega]; exact h)
theorem r_iadd_hi (hx : x = hf a) (h1 : a.natAbs < 2 ^ 48) (h2 : b.natAbs < 2 ^ 48) (h : Q (.float (hf (a + b)) s.toks) { s with toks := s.toks + 1 }) : wpAny (model prog w) A (inplaceOp .Add (.float x t) (.int b u)) Q E s :=
  iadd_fi_1 (PySem.Float64.ofInt_fits (by omega)) (by rw [hx, hf, q_int (by omega), q_add (by omega) (by omega) (by omega), show 4 * a + 2 + 4 * b = 4 * (a + b) + 2 by omega]; exact h)
theorem r_add_wi (hx : x = wh a) (h1 : a.natAbs < 2 ^ 48) (h2 : b.natAbs < 2 ^ 48) (h : Q (.float (wh (a + b)) s.toks) { s with toks := s.toks + 1 }) : wpAny (model prog w) A (binaryOp .Add (.float x t) (.int b u)) Q E s :=
  add_fi_fits (by omega) (by rw [hx, wh, q_int (by omega), q_add (by omega) (by omega) (by omega), show 4 * a + 4 * b = 4 * (a + b) by omega]; exact h)
theorem r_add_ih (h2 : b.natAbs < 2 ^ 48) (h : Q (.float (hf b) s.toks) { s with toks := s.toks + 1 }) : wpAny (model prog w) A (binaryOp .Add (.int b u) (.float 4602678819172646912 t)) Q E s :=
  add_if_fits (by omega) (by rw [lit_half, q_int (by omega), q_add (by omega) (by omega) (by omega)]; exact h)
theorem r_sub_hi (hx : x = hf a) (h1 : a.natAbs < 2 ^ 48) (h2 : b.natAbs < 2 ^ 48) (h : Q (.float (hf (a - b)) s.toks) { s with toks := s.toks + 1 }) : wpAny (model prog w) A (binaryOp .Sub (.float x t) (.int b u)) Q E s :=
  sub_fi_fits (by omega) (by rw [hx, hf, q_int (by omega), q_sub (by omega) (by omega) (by omega), show 4 * a + 2 - 4 * b = 4 * (a - b) + 2 by omega]; exact h)
theorem r_sub_ih (hx : x = hf a) (h1 : a.natAbs < 2 ^ 48) (h2 : b.natAbs < 2 ^ 48) (h : Q (.float (hf (b - a - 1)) s.toks) { s with toks := s.toks + 1 }) : wpAny (model prog w) A (binaryOp .Sub (.int b u) (.float x t)) Q E s :=
  sub_if_fits (by omega) (by rw [hx, hf, q_int (by omega), q_sub (by omega) (by omega) (by omega), show 4 * b - (4 * a + 2) = 4 * (b - a - 1) + 2 by omega]; exact h)
theorem r_sub_half (hx : x = hf a) (h1 : a.natAbs < 2 ^ 48) (h : Q (.float (wh a) s.toks) { s with toks := s.toks + 1 }) : wpAny (model prog w) A (binaryOp .Sub (.float x t) (.float 4602678819172646912 u)) Q E s :=
  sub_float (by rw [hx, hf, lit_half, q_sub (by omega) (by omega) (by omega), show 4 * a + 2 - 2 = 4 * a by omega]; exact h)
theorem r_sub_hh (hx : x = hf a) (hy : y = hf b) (h1 : a.natAbs < 2 ^ 48) (h2 : b.natAbs < 2 ^ 48) (h : Q (.float (wh (a - b)) s.toks) { s with toks := s.toks + 1 }) : wpAny (model prog w) A (binaryOp .Sub (.float x t) (.float y u)) Q E s :=
  sub_float (by rw [hx, hy, hf, hf, q_sub (by omega) (by omega) (by omega), show 4 * a + 2 - (4 * b + 2) = 4 * (a - b) by omega]; exact h)
theorem r_mul_wi (hx : x = wh a) (h2 : 0 < b) (h3 : a.natAbs < 2 ^ 48) (h4 : b < 2 ^ 48) (h5 : (a * b).natAbs < 2 ^ 50) (h : Q (.float (wh (a * b)) s.toks) { s with toks := s.toks + 1 }) : wpAny (model prog w) A (binaryOp .Mult (.float x t) (.int b u)) Q E s :=
  mul_fi_fits (by omega) (by rw [hx, wh, q_int (by omega), q_mul2 (n := 4 * (a * b)) (by omega) (by omega) (by omega) (by rw [show 4 * a * (4 * b) = 4 * (4 * (a * b)) by rw [Int.mul_assoc 4 a, Int.mul_left_comm a 4]]) (by omega)]; exact h)
theorem r_mul_2h (hx : x = hf a) (h3 : a.natAbs < 2 ^ 48) (h : Q (.float (wh (2 * a + 1)) s.toks) { s with toks := s.toks + 1 }) : wpAny (model prog w) A (binaryOp .Mult (.int 2 u) (.float x t)) Q E s :=
  mul_if_fits (by omega) (by rw [hx, hf, q_int (by omega), q_mul3 (n := 4 * (2 * a + 1)) (by omega) (by omega) (by omega) (by omega) (by omega)]; exact h)
theorem r_mul_year (h2 : 0 < b) (h4 : b < 2 ^ 40) (h : Q (.float (q (1461 * b)) s.toks) { s with toks := s.toks + 1 }) : wpAny (model prog w) A (binaryOp .Mult (.float 4645133162144333824 t) (.int b u)) Q E s :=
  mul_fi_fits (by omega) (by rw [lit_year, q_int (by omega), q_mul2 (n := 1461 * b) (by omega) (by omega) (by omega) (by rw [Int.mul_left_comm]) (by omega)]; exact h)
theorem r_mul_jm (h2 : b.natAbs < 2 ^ 48) (h : Q (.float (jm b) s.toks) { s with toks := s.toks + 1 }) : wpAny (model prog w) A (binaryOp .Mult (.float 4629306380116972641 t) (.int b u)) Q E s :=
  mul_fi_fits (by omega) h
theorem r_mod_wi (hA : A.handled = none) (hx : x = wh a) (h1 : a.natAbs < 2 ^ 50) (h2 : 0 < b) (h3 : b < 2 ^ 48) (h : Q (.float (wh (a % b)) s.toks) { s with toks := s.toks + 1 }) : wpAny (model prog w) A (binaryOp .Mod (.float x t) (.int b u)) Q E s :=
  mod_fi hA (fun ho => absurd (inf_of_over ho) (PySem.Float64.ofInt_fits (by omega))) (fun hz => by omega) (fun _ _ => by rw [hx, wh, q_int (by omega), mod_q (by omega) (by omega) (by omega), Int.mul_emod_mul_of_pos _ _ (by decide)]; exact h)
theorem r_div_wi (hA : A.handled = none) (hx : x = wh a) (h2 : 0 < b) (h3 : b < 2 ^ 48) (h : Q (.float (dv (4 * a) b) s.toks) { s with toks := s.toks + 1 }) : wpAny (model prog w) A (binaryOp .Div (.float x t) (.int b u)) Q E s :=
  truediv_fi hA (fun ho => absurd (inf_of_over ho) (PySem.Float64.ofInt_fits (by omega))) (fun hz => by omega) (fun _ _ => by rw [hx, wh, q_int (by omega)]; exact h)
theorem r_div_ii (hA : A.handled = none) (h1 : a.natAbs < 2 ^ 60) (h2 : 0 < b) (h : Q (.float (dvi a b) s.toks) { s with toks := s.toks + 1 }) : wpAny (model prog w) A (binaryOp .Div (.int a t) (.int b u)) Q E s :=
  div_ii_fits hA (Nat.lt_of_lt_of_le h1 (Nat.pow_le_pow_right (by decide) (by decide))) (fun hz => by omega) (fun _ _ => h)
theorem r_add_dv1 (h2 : b.natAbs < 2 ^ 48) (h : Q (.float (dv1 a b) s.toks) { s with toks := s.toks + 1 }) : wpAny (model prog w) A (binaryOp .Add (.float (dvi a 12) t) (.int b u)) Q E s :=
  add_fi_fits (by omega) h
theorem r_add_dv2 {c : Int} (h2 : b.natAbs < 2 ^ 48) (h : Q (.float (dv2 a c b) s.toks) { s with toks := s.toks + 1 }) : wpAny (model prog w) A (binaryOp .Add (.float (dv1 a c) t) (.int b u)) Q E s :=
  add_fi_fits (by omega) h

theorem r_lt_wi (hx : x = wh a) (h1 : a.natAbs < 2 ^ 50) (h : Q (.bool (decide (a < b))) s) : wpAny (model prog w) A (compareOp .Lt (.float x t) (.int b u)) Q E s :=
  lt_fi (by rw [hx, wh, cmpInt_q (by omega), cmp_lt_q, show decide (4 * a < 4 * b) = decide (a < b) from decide_eq_decide.mpr (by omega)]; exact h)
theorem r_eq_wi (hx : x = wh a) (h1 : a.natAbs < 2 ^ 50) (h : Q (.bool (decide (a = b))) s) : wpAny (model prog w) A (compareOp .Eq (.float x t) (.int b u)) Q E s :=
  eq_fi (by rw [hx, wh, cmpInt_q (by omega), cmp_eq_q, show decide (4 * a = 4 * b) = decide (a = b) from decide_eq_decide.mpr (by omega)]; exact h)
theorem r_ne_wi (hx : x = wh a) (h1 : a.natAbs < 2 ^ 50) (h : Q (.bool (decide (a ≠ b))) s) : wpAny (model prog w) A (compareOp .NotEq (.float x t) (.int b u)) Q E s :=
  ne_fi (by rw [hx, wh, cmpInt_q (by omega)]; have e : (some (compare (4 * a) (4 * b)) != some Ordering.eq) = decide (a ≠ b) := by rw [bne, cmp_eq_q, decide_not, show decide (4 * a = 4 * b) = decide (a = b) from decide_eq_decide.mpr (by omega)]
            rw [e]; exact h)
theorem r_truth_h {Q : Bool → Shared → Prop} (hx : x = hf a) (h1 : a.natAbs < 2 ^ 50) (h : Q true s) : wpAny (model prog w) A (truthy (.float x t)) Q E s :=
  truthy_float (by rw [hx, hf, isZero_q (by omega), decide_eq_false (by omega)]; exact h)

theorem r_floor_q (hA : A.handled = none) (h1 : a.natAbs < 2 ^ 53) (h : Q (.int (a / 4) s.toks) { s with toks := s.toks + 1 }) : wpAny (model prog w) A (call (.builtin "math.floor") [.float (q a) t]) Q E s := by
  obtain ⟨_, f2, f3⟩ := q_fin h1
  exact call_floor_float hA (fun c => by rw [f2] at c; cases c) (fun c => by rw [f3] at c; cases c) (fun _ => by rw [q_floor h1]; exact h)
theorem r_floor_w (hA : A.handled = none) (hx : x = wh a) (h1 : a.natAbs < 2 ^ 50) (h : Q (.int a s.toks) { s with toks := s.toks + 1 }) : wpAny (model prog w) A (call (.builtin "math.floor") [.float x t]) Q E s := by
  subst hx
  exact r_floor_q hA (by omega) (by rw [show 4 * a / 4 = a by omega]; exact h)
theorem r_int_h (hA : A.handled = none) (hx : x = hf a) (h0 : 0 ≤ a) (h1 : a < 2 ^ 50) (h : Q (.int a s.toks) { s with toks := s.toks + 1 }) : wpAny (model prog w) A (call (.type "int") [.float x t]) Q E s := by
  subst hx
  obtain ⟨_, f2, f3⟩ := q_fin (n := 4 * a + 2) (by omega)
  exact call_int_float3 hA (fun c => by unfold hf at c; rw [f2] at c; cases c) (fun c => by unfold hf at c; rw [f3] at c; cases c) (fun _ => by unfold hf; rw [q_trunc (by omega) (by omega), show (4 * a + 2) / 4 = a by omega]; exact h)
theorem r_int_w (hA : A.handled = none) (hx : x = wh a) (h1 : a.natAbs < 2 ^ 50) (h : Q (.int a s.toks) { s with toks := s.toks + 1 }) : wpAny (model prog w) A (call (.type "int") [.float x t]) Q E s := by
  subst hx
  obtain ⟨f2, f3, f4⟩ := wh_trunc h1
  exact call_int_float3 hA (fun c => by rw [f2] at c; cases c) (fun c => by rw [f3] at c; cases c) (fun _ => by rw [f4]; exact h)
theorem r_floor_dv (hA : A.handled = none) (h1 : a.natAbs < 2 ^ 50) (h2 : 0 < b) (h3 : b ≤ 2 ^ 18) (h4 : a.natAbs < 2 ^ 32 * b.natAbs) (h : Q (.int (a / b) s.toks) { s with toks := s.toks + 1 }) : wpAny (model prog w) A (call (.builtin "math.floor") [.float (dv (4 * a) b) t]) Q E s := by
  obtain ⟨m, e, hd, hf⟩ := div_dec (a := 4 * a) (b := b) (by omega) h2 h3 (by omega)
  obtain ⟨_, f2, f3⟩ := fin_of hd
  exact call_floor_float hA (fun c => by unfold dv at c; rw [f2] at c; cases c) (fun c => by unfold dv at c; rw [f3] at c; cases c) (fun _ => by unfold dv; rw [hf, Int.mul_ediv_mul_of_pos _ _ (by decide)]; exact h)
theorem r_floor_dvi (hA : A.handled = none) (h2 : 0 < b) (h3 : b ≤ 2 ^ 20) (h4 : a.natAbs < 2 ^ 32 * b.natAbs) (h : Q (.int (a / b) s.toks) { s with toks := s.toks + 1 }) : wpAny (model prog w) A (call (.builtin "math.floor") [.float (dvi a b) t]) Q E s := by
  obtain ⟨m, e, hd, hf⟩ := floor_ii h2 h3 h4
  obtain ⟨_, f2, f3⟩ := fin_of hd
  exact call_floor_float hA (fun c => by unfold dvi at c; rw [f2] at c; cases c) (fun c => by unfold dvi at c; rw [f3] at c; cases c) (fun _ => by unfold dvi; rw [hf]; exact h)
theorem r_trunc_dvi (hA : A.handled = none) (h0 : 0 ≤ a) (h2 : 0 < b) (h3 : b ≤ 2 ^ 20) (h4 : a.natAbs < 2 ^ 32 * b.natAbs) (h : Q (.int (a / b) s.toks) { s with toks := s.toks + 1 }) : wpAny (model prog w) A (call (.builtin "math.trunc") [.float (dvi a b) t]) Q E s := by
  obtain ⟨m, e, hd, hf⟩ := floor_ii h2 h3 h4
  obtain ⟨_, f2, f3⟩ := fin_of hd
  rw [decide_eq_false (p := a < 0) (by omega)] at hd
  have hd' := hd
  rw [show (false != decide (b < 0)) = (decide (a < 0) != decide (b < 0)) by rw [decide_eq_false (p := a < 0) (by omega)]] at hd'
  exact call_trunc_float hA (fun c => by unfold dvi at c; rw [f2] at c; cases c) (fun c => by unfold dvi at c; rw [f3] at c; cases c) (fun _ => by unfold dvi; rw [toInt_trunc hd', hf]; exact h)
theorem r_floor_tail {m c d : Int} (hA : A.handled = none) (ha : a = 367 * m - 362) (h1 : 1 ≤ m ∧ m ≤ 12) (h2 : -2 ≤ c ∧ c ≤ 0) (h2' : c = 0 ∨ 3 ≤ m) (h3 : 1 ≤ d ∧ d ≤ 31) (h : Q (.int (a / 12 + c + d) s.toks) { s with toks := s.toks + 1 }) : wpAny (model prog w) A (call (.builtin "math.floor") [.float (dv2 a c d) t]) Q E s := by
  obtain ⟨M, e, hd, hf⟩ := tail_ok h1.1 h1.2 h2.1 h2.2 h2' h3.1 h3.2
  rw [← ha] at hd hf
  obtain ⟨_, f2, f3⟩ := fin_of hd
  exact call_floor_float hA (fun g => by rw [f2] at g; cases g) (fun g => by rw [f3] at g; cases g) (fun _ => by rw [hf]; exact h)
theorem r_fdiv_ii (h2 : 0 < b) (h3 : b < 1073741824) (h : Q (.int (a / b) s.toks) { s with toks := s.toks + 1 }) : wpAny (model prog w) A (binaryOp .FloorDiv (.int a t) (.int b u)) Q E s :=
  floordiv_int (by omega) (by rw [Int.fdiv_eq_ediv_of_nonneg _ (by omega)]; exact h) (Or.inl (PyProof.noPylong_small (by omega)))
theorem r_mod_ii (h2 : 0 < b) (h : Q (.int (a % b) s.toks) { s with toks := s.toks + 1 }) : wpAny (model prog w) A (binaryOp .Mod (.int a t) (.int b u)) Q E s :=
  mod_int' (by omega) (by rw [Int.fmod_eq_emod_of_nonneg _ (by omega)]; exact h)
theorem jm_ok : okF (jm 4) 122 = true ∧ okF (jm 5) 153 = true := by decide +kernel
theorem r_floor_jm (hA : A.handled = none) (h1 : b = 4 ∨ b = 5) (h : Q (.int (31 * b - 2) s.toks) { s with toks := s.toks + 1 }) : wpAny (model prog w) A (call (.builtin "math.floor") [.float (jm b) t]) Q E s := by
  have hb : okF (jm b) (31 * b - 2) = true := by
    rcases h1 with rfl | rfl
    · exact jm_ok.1
    · exact jm_ok.2
  obtain ⟨_, f2, f3, f4⟩ := okF_spec hb
  exact call_floor_float hA (fun g => by rw [f2] at g; cases g) (fun g => by rw [f3] at g; cases g) (fun _ => by rw [f4]; exact h)
end
end Mine
end
/-! C0 -/
section
open PySem PySem.W PyProof.Rows
namespace Mine

/-! ## Contracts: what a call of a def hands back -/

/-- the answer is a scalar -/
def ConS (k : Nat) (f : Addr) (vs : List Value) (R : Tok → Value) : Prop :=
  ∀ (w : World) (p : Program) (loose : List Str) (mean : ExcName → Option Value) (mg mb : Str → Option Value) (news : List (Addr × Obj)) (dp un : Nat) (gd : Option (List Code)) (cn : Str) (cs : Scope) (a : Addr) (ccd : Value) (cl : List (Str × Addr)) (outer : List Env) (A₀ : Around) (base h₀ : Heap) (L : Addr) (m : Str → Option Value) (s : Shared) (Q E : Value → Shared → Prop),
    Below A₀ base outer h₀ → Fr h₀ L s.heap m → (hd.heap_39 w.params).In h₀ → News h₀ L s.heap news → Top p loose mean mg mb h₀ → cs.kind = .function → dp + k < recursionLimit → un + 8 * k < cLine →
    (∀ (t : Tok) (h' : Heap) (tk' : Nat), Fr h₀ L h' m → News h₀ L h' news → Q (R t) { s with heap := h', toks := tk' }) →
      wpAny (model PySem.Challenge.rw_ad5035_01.row.prog w) (ktrTop dp un gd cn cs L a ccd cl outer) (call (.ref f) vs) Q E s

abbrev tupO (vs : List Value) (n : Nat) : Obj := { cls := .type "tuple", data := .seq vs.toArray n }

/-- the answer is a new tuple -/
def ConT (k : Nat) (f : Addr) (vs : List Value) (R : List Int) : Prop :=
  ∀ (w : World) (p : Program) (loose : List Str) (mean : ExcName → Option Value) (mg mb : Str → Option Value) (news : List (Addr × Obj)) (dp un : Nat) (gd : Option (List Code)) (cn : Str) (cs : Scope) (a : Addr) (ccd : Value) (cl : List (Str × Addr)) (outer : List Env) (A₀ : Around) (base h₀ : Heap) (L : Addr) (m : Str → Option Value) (s : Shared) (Q E : Value → Shared → Prop),
    Below A₀ base outer h₀ → Fr h₀ L s.heap m → (hd.heap_39 w.params).In h₀ → News h₀ L s.heap news → Top p loose mean mg mb h₀ → cs.kind = .function → dp + k < recursionLimit → un + 8 * k < cLine →
    (∀ (x : Addr) (vs : List Value) (n : Nat) (h' : Heap) (tk' : Nat), IntsAre vs R → Fr h₀ L h' m → News h₀ L h' ((x, tupO vs n) :: news) → (∀ p ∈ news, p.1 < x) → Q (.ref x) { s with heap := h', toks := tk' }) →
      wpAny (model PySem.Challenge.rw_ad5035_01.row.prog w) (ktrTop dp un gd cn cs L a ccd cl outer) (call (.ref f) vs) Q E s

section
variable {h₀ h' : Heap} {L : Addr} {m : Str → Option Value} {news : List (Addr × Obj)} {s : Shared} {Q : Value → Shared → Prop} {t : Tok} {tk' : Nat}
theorem endF {x y : UInt64} (hret : ∀ (t : Tok) (h' : Heap) (tk' : Nat), Fr h₀ L h' m → News h₀ L h' news → Q (.float x t) { s with heap := h', toks := tk' }) (e : y = x) (F : Fr h₀ L h' m) (N : News h₀ L h' news) : Q (.float y t) { s with heap := h', toks := tk' } := by
  subst e
  exact hret t h' tk' F N
theorem endI {x y : Int} (hret : ∀ (t : Tok) (h' : Heap) (tk' : Nat), Fr h₀ L h' m → News h₀ L h' news → Q (.int x t) { s with heap := h', toks := tk' }) (e : y = x) (F : Fr h₀ L h' m) (N : News h₀ L h' news) : Q (.int y t) { s with heap := h', toks := tk' } := by
  subst e
  exact hret t h' tk' F N
theorem endB {x y : Bool} (hret : ∀ (t : Tok) (h' : Heap) (tk' : Nat), Fr h₀ L h' m → News h₀ L h' news → Q (.bool x) { s with heap := h', toks := tk' }) (e : y = x) (F : Fr h₀ L h' m) (N : News h₀ L h' news) : Q (.bool y) { s with heap := h', toks := tk' } := by
  subst e
  exact hret 0 h' tk' F N
end

section
variable {k : Nat} {f : Addr} {vs : List Value} {w : World} {p : Program} {loose : List Str} {mean : ExcName → Option Value} {mg mb : Str → Option Value} {news : List (Addr × Obj)} {dp un : Nat} {gd : Option (List Code)} {cn : Str} {cs : Scope} {a : Addr} {ccd : Value} {cl : List (Str × Addr)} {outer : List Env} {A₀ : Around} {base h₀ : Heap} {L : Addr} {m : Str → Option Value} {s : Shared} {Q E : Value → Shared → Prop}
theorem ConS.use {R : Tok → Value} (C : ConS k f vs R) (B : Below A₀ base outer h₀) (F : Fr h₀ L s.heap m) (X : (hd.heap_39 w.params).In h₀) (N : News h₀ L s.heap news) (T : Top p loose mean mg mb h₀) (hk : cs.kind = .function) (hd : dp + k < recursionLimit) (hu : un + 8 * k < cLine)
    (ret : ∀ (t : Tok) (h' : Heap) (tk' : Nat), Fr h₀ L h' m → News h₀ L h' news → Q (R t) { s with heap := h', toks := tk' }) :
    wpAny (model PySem.Challenge.rw_ad5035_01.row.prog w) (ktrTop dp un gd cn cs L a ccd cl outer) (call (.ref f) vs) Q E s := C _ _ _ _ _ _ _ _ _ _ _ _ _ _ _ _ _ _ _ _ _ _ _ _ B F X N T hk hd hu ret
theorem ConS.useP {R : Tok → Value} {P : Prop} (C : ConS k f vs R) (hP : P) (B : Below A₀ base outer h₀) (F : Fr h₀ L s.heap m) (X : (hd.heap_39 w.params).In h₀) (N : News h₀ L s.heap news) (T : Top p loose mean mg mb h₀) (hk : cs.kind = .function) (hd : dp + k < recursionLimit) (hu : un + 8 * k < cLine)
    (ret : P → ∀ (t : Tok) (h' : Heap) (tk' : Nat), Fr h₀ L h' m → News h₀ L h' news → Q (R t) { s with heap := h', toks := tk' }) :
    wpAny (model PySem.Challenge.rw_ad5035_01.row.prog w) (ktrTop dp un gd cn cs L a ccd cl outer) (call (.ref f) vs) Q E s := C _ _ _ _ _ _ _ _ _ _ _ _ _ _ _ _ _ _ _ _ _ _ _ _ B F X N T hk hd hu (ret hP)
theorem ConT.useP {R : List Int} {P : Prop} (C : ConT k f vs R) (hP : P) (B : Below A₀ base outer h₀) (F : Fr h₀ L s.heap m) (X : (hd.heap_39 w.params).In h₀) (N : News h₀ L s.heap news) (T : Top p loose mean mg mb h₀) (hk : cs.kind = .function) (hd : dp + k < recursionLimit) (hu : un + 8 * k < cLine)
    (ret : P → ∀ (x : Addr) (vs : List Value) (n : Nat) (h' : Heap) (tk' : Nat), IntsAre vs R → Fr h₀ L h' m → News h₀ L h' ((x, tupO vs n) :: news) → (∀ p ∈ news, p.1 < x) → Q (.ref x) { s with heap := h', toks := tk' }) :
    wpAny (model PySem.Challenge.rw_ad5035_01.row.prog w) (ktrTop dp un gd cn cs L a ccd cl outer) (call (.ref f) vs) Q E s := C _ _ _ _ _ _ _ _ _ _ _ _ _ _ _ _ _ _ _ _ _ _ _ _ B F X N T hk hd hu (ret hP)
theorem ConT.use {R : List Int} (C : ConT k f vs R) (B : Below A₀ base outer h₀) (F : Fr h₀ L s.heap m) (X : (hd.heap_39 w.params).In h₀) (N : News h₀ L s.heap news) (T : Top p loose mean mg mb h₀) (hk : cs.kind = .function) (hd : dp + k < recursionLimit) (hu : un + 8 * k < cLine)
    (ret : ∀ (x : Addr) (vs : List Value) (n : Nat) (h' : Heap) (tk' : Nat), IntsAre vs R → Fr h₀ L h' m → News h₀ L h' ((x, tupO vs n) :: news) → (∀ p ∈ news, p.1 < x) → Q (.ref x) { s with heap := h', toks := tk' }) :
    wpAny (model PySem.Challenge.rw_ad5035_01.row.prog w) (ktrTop dp un gd cn cs L a ccd cl outer) (call (.ref f) vs) Q E s := C _ _ _ _ _ _ _ _ _ _ _ _ _ _ _ _ _ _ _ _ _ _ _ _ B F X N T hk hd hu ret
end

theorem room_d {d k K c : Nat} (h : d + K < c) (hk : k + 1 ≤ K) : d + 1 + k < c := by omega
theorem room_u {u k K c : Nat} (h : u + 8 * K < c) (hk : k + 1 ≤ K) : u + 3 + 8 * k < c := by omega
theorem room_t {u c : Nat} (h : u + 8 * 22 < c) : u + 3 + 64 < c := by omega
theorem r_in_top {prog : Program} {w : World} {A : Around} {E : Value → Shared → Prop} {s : Shared} {K : Frag} {h₀ : Heap} {L a : Addr} {m : Str → Option Value} {l : List Value} {dd : Option Addr} {sl : Array (Option Value)} {n : Nat} {ns : List Int} {x : Int} {u : Tok} {Q : Value → Shared → Prop}
    (F : Fr h₀ L s.heap m) (X₀ : K.In h₀) (hl : K.lookup a = some ⟨.type "tuple", dd, .seq l.toArray n, sl⟩) (hi : IntsAre l ns) (h : Q (.bool (decide (x ∈ ns))) s) : wpAny (model prog w) A (compareOp .In (.int x u) (.ref a)) Q E s :=
  in_tuple_ints (tupK (X₀.keeps F.keep) hl) hi (by
    have e : ns.any (· == x) = decide (x ∈ ns) := by
      rw [Bool.eq_iff_iff]; simp
    rw [e]; exact h)

end Mine
end
section
open PySem PySem.W PyProof.Rows
local macro_rules | `(tactic| walk_at "binaryOp Add float int") => `(tactic| (refine' Mine.r_add_hi ?hx ?h1 ?h2 ?_; (case hx => (first | with_reducible exact rfl | with_reducible_and_instances exact Mine.lit_eg | with_reducible_and_instances exact Mine.lit_eh | with_reducible_and_instances exact Mine.lit_1524)); (case h1 => omega); (case h2 => omega); (try dsimp only)))
local macro_rules | `(tactic| walk_at "binaryOp Add float int") => `(tactic| (refine' Mine.r_add_wi ?hx ?h1 ?h2 ?_; (case hx => (first | with_reducible exact rfl | with_reducible_and_instances exact Mine.lit_eg | with_reducible_and_instances exact Mine.lit_eh | with_reducible_and_instances exact Mine.lit_1524)); (case h1 => omega); (case h2 => omega); (try dsimp only)))
local macro_rules | `(tactic| walk_at "inplaceOp Add float int") => `(tactic| (refine' Mine.r_iadd_hi ?hx ?h1 ?h2 ?_; (case hx => (first | with_reducible exact rfl | with_reducible_and_instances exact Mine.lit_eg | with_reducible_and_instances exact Mine.lit_eh | with_reducible_and_instances exact Mine.lit_1524)); (case h1 => omega); (case h2 => omega); (try dsimp only)))
local macro_rules | `(tactic| walk_at "binaryOp Add int float") => `(tactic| (refine' Mine.r_add_ih ?h2 ?_; (case h2 => omega); (try dsimp only)))
local macro_rules | `(tactic| walk_at "binaryOp Sub float int") => `(tactic| (refine' Mine.r_sub_hi ?hx ?h1 ?h2 ?_; (case hx => (first | with_reducible exact rfl | with_reducible_and_instances exact Mine.lit_eg | with_reducible_and_instances exact Mine.lit_eh | with_reducible_and_instances exact Mine.lit_1524)); (case h1 => omega); (case h2 => omega); (try dsimp only)))
local macro_rules | `(tactic| walk_at "binaryOp Sub int float") => `(tactic| (refine' Mine.r_sub_ih ?hx ?h1 ?h2 ?_; (case hx => (first | with_reducible exact rfl | with_reducible_and_instances exact Mine.lit_eg | with_reducible_and_instances exact Mine.lit_eh | with_reducible_and_instances exact Mine.lit_1524)); (case h1 => omega); (case h2 => omega); (try dsimp only)))
local macro_rules | `(tactic| walk_at "binaryOp Sub float float") => `(tactic| (refine' Mine.r_sub_hh ?hx ?hy ?h1 ?h2 ?_; (case hx => (first | with_reducible exact rfl | with_reducible_and_instances exact Mine.lit_eg | with_reducible_and_instances exact Mine.lit_eh | with_reducible_and_instances exact Mine.lit_1524)); (case hy => (first | with_reducible exact rfl | with_reducible_and_instances exact Mine.lit_eg | with_reducible_and_instances exact Mine.lit_eh | with_reducible_and_instances exact Mine.lit_1524)); (case h1 => omega); (case h2 => omega); (try dsimp only)))
local macro_rules | `(tactic| walk_at "binaryOp Sub float float") => `(tactic| (refine' Mine.r_sub_half ?hx ?h1 ?_; (case hx => (first | with_reducible exact rfl | with_reducible_and_instances exact Mine.lit_eg | with_reducible_and_instances exact Mine.lit_eh | with_reducible_and_instances exact Mine.lit_1524)); (case h1 => omega); (try dsimp only)))
local macro_rules | `(tactic| walk_at "binaryOp Mult float int") => `(tactic| (refine' Mine.r_mul_wi ?hx ?h2 ?h3 ?h4 ?h5 ?_; (case hx => (first | with_reducible exact rfl | with_reducible_and_instances exact Mine.lit_eg | with_reducible_and_instances exact Mine.lit_eh | with_reducible_and_instances exact Mine.lit_1524)); (case h2 => omega); (case h3 => omega); (case h4 => omega); (case h5 => omega); (try dsimp only)))
local macro_rules | `(tactic| walk_at "binaryOp Mult int float") => `(tactic| (refine' Mine.r_mul_2h ?hx ?h3 ?_; (case hx => (first | with_reducible exact rfl | with_reducible_and_instances exact Mine.lit_eg | with_reducible_and_instances exact Mine.lit_eh | with_reducible_and_instances exact Mine.lit_1524)); (case h3 => omega); (try dsimp only)))
local macro_rules | `(tactic| walk_at "binaryOp Mult float int") => `(tactic| (refine' Mine.r_mul_year ?h2 ?h4 ?_; (case h2 => omega); (case h4 => omega); (try dsimp only)))
local macro_rules | `(tactic| walk_at "binaryOp Mult float int") => `(tactic| (refine' Mine.r_mul_jm ?h2 ?_; (case h2 => omega); (try dsimp only)))
local macro_rules | `(tactic| walk_at "binaryOp Mod float int") => `(tactic| (refine' Mine.r_mod_wi ?hA ?hx ?h1 ?h2 ?h3 ?_; (case hA => with_unfolding_all exact rfl); (case hx => (first | with_reducible exact rfl | with_reducible_and_instances exact Mine.lit_eg | with_reducible_and_instances exact Mine.lit_eh | with_reducible_and_instances exact Mine.lit_1524)); (case h1 => omega); (case h2 => omega); (case h3 => omega); (try dsimp only)))
local macro_rules | `(tactic| walk_at "binaryOp Div float int") => `(tactic| (refine' Mine.r_div_wi ?hA ?hx ?h2 ?h3 ?_; (case hA => with_unfolding_all exact rfl); (case hx => (first | with_reducible exact rfl | with_reducible_and_instances exact Mine.lit_eg | with_reducible_and_instances exact Mine.lit_eh | with_reducible_and_instances exact Mine.lit_1524)); (case h2 => omega); (case h3 => omega); (try dsimp only)))
local macro_rules | `(tactic| walk_at "binaryOp Div int int") => `(tactic| (refine' Mine.r_div_ii ?hA ?h1 ?h2 ?_; (case hA => with_unfolding_all exact rfl); (case h1 => omega); (case h2 => omega); (try dsimp only)))
local macro_rules | `(tactic| walk_at "binaryOp Add float int") => `(tactic| (refine' Mine.r_add_dv1 ?h2 ?_; (case h2 => omega); (try dsimp only)))
local macro_rules | `(tactic| walk_at "binaryOp Add float int") => `(tactic| (refine' Mine.r_add_dv2 ?h2 ?_; (case h2 => omega); (try dsimp only)))
local macro_rules | `(tactic| walk_at "compareOp Lt float int") => `(tactic| (refine' Mine.r_lt_wi ?hx ?h1 ?_; (case hx => (first | with_reducible exact rfl | with_reducible_and_instances exact Mine.lit_eg | with_reducible_and_instances exact Mine.lit_eh | with_reducible_and_instances exact Mine.lit_1524)); (case h1 => omega); (try dsimp only)))
local macro_rules | `(tactic| walk_at "compareOp Eq float int") => `(tactic| (refine' Mine.r_eq_wi ?hx ?h1 ?_; (case hx => (first | with_reducible exact rfl | with_reducible_and_instances exact Mine.lit_eg | with_reducible_and_instances exact Mine.lit_eh | with_reducible_and_instances exact Mine.lit_1524)); (case h1 => omega); (try dsimp only)))
local macro_rules | `(tactic| walk_at "compareOp NotEq float int") => `(tactic| (refine' Mine.r_ne_wi ?hx ?h1 ?_; (case hx => (first | with_reducible exact rfl | with_reducible_and_instances exact Mine.lit_eg | with_reducible_and_instances exact Mine.lit_eh | with_reducible_and_instances exact Mine.lit_1524)); (case h1 => omega); (try dsimp only)))
local macro_rules | `(tactic| walk_at "truthy float") => `(tactic| (refine' Mine.r_truth_h ?hx ?h1 ?_; (case hx => (first | with_reducible exact rfl | with_reducible_and_instances exact Mine.lit_eg | with_reducible_and_instances exact Mine.lit_eh | with_reducible_and_instances exact Mine.lit_1524)); (case h1 => omega); (try dsimp only)))
local macro_rules | `(tactic| walk_at "call builtin:math.floor") => `(tactic| (refine' Mine.r_floor_w ?hA ?hx ?h1 ?_; (case hA => with_unfolding_all exact rfl); (case hx => (first | with_reducible exact rfl | with_reducible_and_instances exact Mine.lit_eg | with_reducible_and_instances exact Mine.lit_eh | with_reducible_and_instances exact Mine.lit_1524)); (case h1 => omega); (try dsimp only)))
local macro_rules | `(tactic| walk_at "call builtin:math.floor") => `(tactic| (refine' Mine.r_floor_q ?hA ?h1 ?_; (case hA => with_unfolding_all exact rfl); (case h1 => omega); (try dsimp only)))
local macro_rules | `(tactic| walk_at "call type:int") => `(tactic| (refine' Mine.r_int_w ?hA ?hx ?h1 ?_; (case hA => with_unfolding_all exact rfl); (case hx => (first | with_reducible exact rfl | with_reducible_and_instances exact Mine.lit_eg | with_reducible_and_instances exact Mine.lit_eh | with_reducible_and_instances exact Mine.lit_1524)); (case h1 => omega); (try dsimp only)))
local macro_rules | `(tactic| walk_at "call type:int") => `(tactic| (refine' Mine.r_int_h ?hA ?hx ?h0 ?h1 ?_; (case hA => with_unfolding_all exact rfl); (case hx => (first | with_reducible exact rfl | with_reducible_and_instances exact Mine.lit_eg | with_reducible_and_instances exact Mine.lit_eh | with_reducible_and_instances exact Mine.lit_1524)); (case h0 => omega); (case h1 => omega); (try dsimp only)))
local macro_rules | `(tactic| walk_at "call builtin:math.floor") => `(tactic| (refine' Mine.r_floor_dv ?hA ?h1 ?h2 ?h3 ?h4 ?_; (case hA => with_unfolding_all exact rfl); (case h1 => omega); (case h2 => omega); (case h3 => omega); (case h4 => omega); (try dsimp only)))
local macro_rules | `(tactic| walk_at "call builtin:math.floor") => `(tactic| (refine' Mine.r_floor_dvi ?hA ?h2 ?h3 ?h4 ?_; (case hA => with_unfolding_all exact rfl); (case h2 => omega); (case h3 => omega); (case h4 => omega); (try dsimp only)))
local macro_rules | `(tactic| walk_at "call builtin:math.trunc") => `(tactic| (refine' Mine.r_trunc_dvi ?hA ?h0 ?h2 ?h3 ?h4 ?_; (case hA => with_unfolding_all exact rfl); (case h0 => omega); (case h2 => omega); (case h3 => omega); (case h4 => omega); (try dsimp only)))
local macro_rules | `(tactic| walk_at "call builtin:math.floor") => `(tactic| (refine' Mine.r_floor_tail ?hA ?ha ?h1 ?h2 ?h2' ?h3 ?_; (case hA => with_unfolding_all exact rfl); (case ha => with_reducible exact rfl); (case h1 => omega); (case h2 => omega); (case h2' => omega); (case h3 => omega); (try dsimp only)))
local macro_rules | `(tactic| walk_at "call builtin:math.floor") => `(tactic| (refine' Mine.r_floor_jm ?hA ?h1 ?_; (case hA => with_unfolding_all exact rfl); (case h1 => omega); (try dsimp only)))
local macro_rules | `(tactic| walk_at "binaryOp FloorDiv int int") => `(tactic| (refine' Mine.r_fdiv_ii ?h2 ?h3 ?_; (case h2 => omega); (case h3 => omega); (try dsimp only)))
local macro_rules | `(tactic| walk_at "binaryOp Mod int int") => `(tactic| (refine' Mine.r_mod_ii ?h2 ?_; (case h2 => omega); (try dsimp only)))
local macro_rules | `(tactic| walk_at "compareOp In int ref") => `(tactic| (k_here; k_dflt (refine' Mine.r_in_top ?F ?X ?l ?i ?_; (case F => k_asm); (case X => k_asm); (case l => k_is); (case i => l_intsW)); (try dsimp only)))
/-! W4 -/
section

namespace Mine
theorem c_leap_h (y : Int) (t : Tok) : ConS 1 78 [.int y t] (fun _ => .bool (decide ((y * 7 + 1) % 19 < 7))) := by
  unfold ConS
  w_top off
  k_fill
  intros
  rename_i hret
  dsimp only at hret
  refine wpAny_call ?_
  k_dflt cell_enter
  k_steps
  all_goals (refine endB hret rfl (by k_asm) (by k_asm))
theorem c_delay_1 (y : Int) (t : Tok) (hy1 : -10 ≤ y) (hy2 : y ≤ 200000000) : ConS 1 92 [.int y t] (fun t => .int (d1 y) t) := by
  unfold ConS
  w_top off
  k_fill
  intros
  rename_i hret
  dsimp only at hret
  refine wpAny_call ?_
  k_dflt cell_enter
  k_steps
  all_goals (refine endI hret ?_ (by k_asm) (by k_asm))
  · simp only [d1]; rw [if_pos (by assumption)]
  · simp only [d1]; rw [if_neg (by assumption)]
end Mine
end
/-! W6 -/
section
local macro_rules | `(tactic| walk_at "pad 1") => `(tactic| skip)
local macro_rules | `(tactic| walk_at "pad 1") => `(tactic| skip)
local macro_rules | `(tactic| walk_at "pad 1") => `(tactic| skip)
local macro_rules | `(tactic| walk_at "pad 1") => `(tactic| skip)
local macro_rules | `(tactic| walk_at "pad 1") => `(tactic| skip)
local macro_rules | `(tactic| walk_at "pad 1") => `(tactic| skip)
local macro_rules | `(tactic| walk_at "pad 1") => `(tactic| skip)
local macro_rules | `(tactic| walk_at "pad 1") => `(tactic| skip)
local macro_rules | `(tactic| walk_at "pad 1") => `(tactic| skip)
local macro_rules | `(tactic| walk_at "pad 1") => `(tactic| skip)
local macro_rules | `(tactic| walk_at "pad 1") => `(tactic| skip)
local macro_rules | `(tactic| walk_at "pad 1") => `(tactic| skip)
local macro_rules | `(tactic| walk_at "pad 1") => `(tactic| skip)
local macro_rules | `(tactic| walk_at "call ref") => `(tactic| (k_here; k_dflt (refine' Mine.ConS.use (Mine.c_leap_h _ _) ?k1 ?k2 ?k3 ?k4 ?k5 ?kK ?kd ?ku ?_; (case k1 => k_asm); (case k2 => k_asm); (case k3 => k_asm); (case k4 => k_asm); (case k5 => k_asm); (case kK => first | exact rfl | assumption); (case kd => first | exact Mine.room_d (by assumption) (by decide) | ktr_room); (case ku => first | exact Mine.room_u (by assumption) (by decide) | ktr_units); intro t9 h9 tk9 F9 N9; (try dsimp only); (try k_fold))))
local macro_rules | `(tactic| walk_at "call ref") => `(tactic| (k_here; k_dflt (refine' Mine.ConS.use (Mine.c_delay_1 _ _ ?p0 ?p1) ?k1 ?k2 ?k3 ?k4 ?k5 ?kK ?kd ?ku ?_; (case p0 => first | assumption | omega); (case p1 => first | assumption | omega); (case k1 => k_asm); (case k2 => k_asm); (case k3 => k_asm); (case k4 => k_asm); (case k5 => k_asm); (case kK => first | exact rfl | assumption); (case kd => first | exact Mine.room_d (by assumption) (by decide) | ktr_room); (case ku => first | exact Mine.room_u (by assumption) (by decide) | ktr_units); intro t9 h9 tk9 F9 N9; (try dsimp only); (try k_fold))))
namespace Mine
theorem c_delay_2 (y : Int) (t : Tok) (hy1 : -5 ≤ y) (hy2 : y ≤ 150000000) : ConS 3 99 [.int y t] (fun t => .int (d2 y) t) := by
  unfold ConS
  w_top off
  k_fill
  intros
  rename_i hret
  dsimp only at hret
  refine wpAny_call ?_
  k_dflt cell_enter
  k_steps
  all_goals (refine endI hret ?_ (by k_asm) (by k_asm); unfold d2)
  · rw [if_pos (by assumption)]
  · rw [if_neg (by assumption), if_pos (by assumption)]
  · rw [if_neg (by assumption), if_neg (by assumption)]
theorem c_year_months (y : Int) (t : Tok) : ConS 3 85 [.int y t] (fun t => .int (if (y * 7 + 1) % 19 < 7 then 13 else 12) t) := by
  unfold ConS
  w_top off
  k_fill
  intros
  rename_i hret
  dsimp only at hret
  refine wpAny_call ?_
  k_dflt cell_enter
  k_steps
  all_goals (refine endI hret ?_ (by k_asm) (by k_asm))
  · rw [if_pos (by assumption)]
  · rw [if_neg (by assumption)]
end Mine
end
/-! W7 -/
section
local macro_rules | `(tactic| walk_at "pad 2") => `(tactic| skip)
local macro_rules | `(tactic| walk_at "pad 2") => `(tactic| skip)
local macro_rules | `(tactic| walk_at "pad 2") => `(tactic| skip)
local macro_rules | `(tactic| walk_at "pad 2") => `(tactic| skip)
local macro_rules | `(tactic| walk_at "pad 2") => `(tactic| skip)
local macro_rules | `(tactic| walk_at "pad 2") => `(tactic| skip)
local macro_rules | `(tactic| walk_at "pad 2") => `(tactic| skip)
local macro_rules | `(tactic| walk_at "pad 2") => `(tactic| skip)
local macro_rules | `(tactic| walk_at "pad 2") => `(tactic| skip)
local macro_rules | `(tactic| walk_at "pad 2") => `(tactic| skip)
local macro_rules | `(tactic| walk_at "pad 2") => `(tactic| skip)
local macro_rules | `(tactic| walk_at "pad 2") => `(tactic| skip)
local macro_rules | `(tactic| walk_at "pad 2") => `(tactic| skip)
local macro_rules | `(tactic| walk_at "call ref") => `(tactic| (k_here; k_dflt (refine' Mine.ConS.use (Mine.c_year_months _ _) ?k1 ?k2 ?k3 ?k4 ?k5 ?kK ?kd ?ku ?_; (case k1 => k_asm); (case k2 => k_asm); (case k3 => k_asm); (case k4 => k_asm); (case k5 => k_asm); (case kK => first | exact rfl | assumption); (case kd => first | exact Mine.room_d (by assumption) (by decide) | ktr_room); (case ku => first | exact Mine.room_u (by assumption) (by decide) | ktr_units); intro t9 h9 tk9 F9 N9; (try dsimp only); (try k_fold))))
local macro_rules | `(tactic| walk_at "call ref") => `(tactic| (k_here; k_dflt (refine' Mine.ConS.use (Mine.c_delay_1 _ _ ?p0 ?p1) ?k1 ?k2 ?k3 ?k4 ?k5 ?kK ?kd ?ku ?_; (case p0 => first | assumption | omega); (case p1 => first | assumption | omega); (case k1 => k_asm); (case k2 => k_asm); (case k3 => k_asm); (case k4 => k_asm); (case k5 => k_asm); (case kK => first | exact rfl | assumption); (case kd => first | exact Mine.room_d (by assumption) (by decide) | ktr_room); (case ku => first | exact Mine.room_u (by assumption) (by decide) | ktr_units); intro t9 h9 tk9 F9 N9; (try dsimp only); (try k_fold))))
local macro_rules | `(tactic| walk_at "call ref") => `(tactic| (k_here; k_dflt (refine' Mine.ConS.use (Mine.c_delay_2 _ _ ?p0 ?p1) ?k1 ?k2 ?k3 ?k4 ?k5 ?kK ?kd ?ku ?_; (case p0 => first | assumption | omega); (case p1 => first | assumption | omega); (case k1 => k_asm); (case k2 => k_asm); (case k3 => k_asm); (case k4 => k_asm); (case k5 => k_asm); (case kK => first | exact rfl | assumption); (case kd => first | exact Mine.room_d (by assumption) (by decide) | ktr_room); (case ku => first | exact Mine.room_u (by assumption) (by decide) | ktr_units); intro t9 h9 tk9 F9 N9; (try dsimp only); (try k_fold))))
namespace Mine
theorem c_to_jd_h7 (y : Int) (t u v : Tok) (hy1 : -3 ≤ y) (hy2 : y ≤ 120000000) : ConS 6 127 [.int y t, .int 7 u, .int 1 v] (fun t => .float (hf (ny y)) t) := by
  have hb1 := d1_bd (y := y) (by omega) (by omega)
  have hb2 := d2_bd y
  unfold ConS
  w_top off
  k_fill
  intros
  rename_i hret
  dsimp only at hret
  refine wpAny_call ?_
  k_dflt cell_enter
  k_steps
  all_goals (refine endF hret rfl (by k_asm) (by k_asm))
theorem f_to_jd_h7 {y : Int} (hy1 : -3 ≤ y) (hy2 : y ≤ 120000000) : 300000 ≤ ny y ∧ ny y ≤ 60001000000 := ny_bd (by omega) (by omega)
end Mine
end
/-! W8 -/
section
local macro_rules | `(tactic| walk_at "pad 3") => `(tactic| skip)
local macro_rules | `(tactic| walk_at "pad 3") => `(tactic| skip)
local macro_rules | `(tactic| walk_at "pad 3") => `(tactic| skip)
local macro_rules | `(tactic| walk_at "pad 3") => `(tactic| skip)
local macro_rules | `(tactic| walk_at "pad 3") => `(tactic| skip)
local macro_rules | `(tactic| walk_at "pad 3") => `(tactic| skip)
local macro_rules | `(tactic| walk_at "pad 3") => `(tactic| skip)
local macro_rules | `(tactic| walk_at "pad 3") => `(tactic| skip)
local macro_rules | `(tactic| walk_at "pad 3") => `(tactic| skip)
local macro_rules | `(tactic| walk_at "pad 3") => `(tactic| skip)
local macro_rules | `(tactic| walk_at "pad 3") => `(tactic| skip)
local macro_rules | `(tactic| walk_at "pad 3") => `(tactic| skip)
local macro_rules | `(tactic| walk_at "pad 3") => `(tactic| skip)
local macro_rules | `(tactic| walk_at "pad 3") => `(tactic| skip)
local macro_rules | `(tactic| walk_at "pad 3") => `(tactic| skip)
local macro_rules | `(tactic| walk_at "pad 3") => `(tactic| skip)
local macro_rules | `(tactic| walk_at "call ref") => `(tactic| (k_here; k_dflt (refine' Mine.ConS.useP (Mine.c_to_jd_h7 _ _ _ _ ?p0 ?p1) (Mine.f_to_jd_h7 ?p0 ?p1) ?k1 ?k2 ?k3 ?k4 ?k5 ?kK ?kd ?ku ?_; (case p0 => first | assumption | omega); (case p1 => first | assumption | omega); (case k1 => k_asm); (case k2 => k_asm); (case k3 => k_asm); (case k4 => k_asm); (case k5 => k_asm); (case kK => first | exact rfl | assumption); (case kd => first | exact Mine.room_d (by assumption) (by decide) | ktr_room); (case ku => first | exact Mine.room_u (by assumption) (by decide) | ktr_units); intro P9 t9 h9 tk9 F9 N9; (try dsimp only); (try k_fold))))
namespace Mine
theorem c_year_days (y : Int) (t : Tok) (hy1 : -3 ≤ y) (hy2 : y ≤ 110000000) : ConS 8 106 [.int y t] (fun t => .float (wh (ny (y + 1) - ny y)) t) := by
  unfold ConS
  w_top off
  k_fill
  intros
  rename_i hret
  dsimp only at hret
  refine wpAny_call ?_
  k_dflt cell_enter
  k_steps
  all_goals (refine endF hret rfl (by k_asm) (by k_asm))
theorem f_year_days {y : Int} (hy1 : -3 ≤ y) (hy2 : y ≤ 110000000) : -60001000000 ≤ ny (y + 1) - ny y ∧ ny (y + 1) - ny y ≤ 60001000000 := by
  have := ny_bd (y := y) (by omega) (by omega)
  have := ny_bd (y := y + 1) (by omega) (by omega)
  omega
end Mine
end
/-! W9 -/
section
local macro_rules | `(tactic| walk_at "pad 4") => `(tactic| skip)
local macro_rules | `(tactic| walk_at "pad 4") => `(tactic| skip)
local macro_rules | `(tactic| walk_at "pad 4") => `(tactic| skip)
local macro_rules | `(tactic| walk_at "pad 4") => `(tactic| skip)
local macro_rules | `(tactic| walk_at "pad 4") => `(tactic| skip)
local macro_rules | `(tactic| walk_at "pad 4") => `(tactic| skip)
local macro_rules | `(tactic| walk_at "pad 4") => `(tactic| skip)
local macro_rules | `(tactic| walk_at "pad 4") => `(tactic| skip)
local macro_rules | `(tactic| walk_at "pad 4") => `(tactic| skip)
local macro_rules | `(tactic| walk_at "pad 4") => `(tactic| skip)
local macro_rules | `(tactic| walk_at "pad 4") => `(tactic| skip)
local macro_rules | `(tactic| walk_at "pad 4") => `(tactic| skip)
local macro_rules | `(tactic| walk_at "pad 4") => `(tactic| skip)
local macro_rules | `(tactic| walk_at "pad 4") => `(tactic| skip)
local macro_rules | `(tactic| walk_at "pad 4") => `(tactic| skip)
local macro_rules | `(tactic| walk_at "call ref") => `(tactic| (k_here; k_dflt (refine' Mine.ConS.use (Mine.c_leap_h _ _) ?k1 ?k2 ?k3 ?k4 ?k5 ?kK ?kd ?ku ?_; (case k1 => k_asm); (case k2 => k_asm); (case k3 => k_asm); (case k4 => k_asm); (case k5 => k_asm); (case kK => first | exact rfl | assumption); (case kd => first | exact Mine.room_d (by assumption) (by decide) | ktr_room); (case ku => first | exact Mine.room_u (by assumption) (by decide) | ktr_units); intro t9 h9 tk9 F9 N9; (try dsimp only); (try k_fold))))
local macro_rules | `(tactic| walk_at "call ref") => `(tactic| (k_here; k_dflt (refine' Mine.ConS.useP (Mine.c_year_days _ _ ?p0 ?p1) (Mine.f_year_days ?p0 ?p1) ?k1 ?k2 ?k3 ?k4 ?k5 ?kK ?kd ?ku ?_; (case p0 => first | assumption | omega); (case p1 => first | assumption | omega); (case k1 => k_asm); (case k2 => k_asm); (case k3 => k_asm); (case k4 => k_asm); (case k5 => k_asm); (case kK => first | exact rfl | assumption); (case kd => first | exact Mine.room_d (by assumption) (by decide) | ktr_room); (case ku => first | exact Mine.room_u (by assumption) (by decide) | ktr_units); intro P9 t9 h9 tk9 F9 N9; (try dsimp only); (try k_fold))))
local macro_rules | `(tactic| walk_at "exec Raise some none") => `(tactic| (exfalso; omega))
namespace Mine
theorem c_mlen (y m : Int) (t u : Tok) (hy1 : -3 ≤ y) (hy2 : y ≤ 110000000) (hm1 : 1 ≤ m) (hm2 : m ≤ 13) : ConS 10 113 [.int y t, .int m u] (fun t => .int (mlen y m) t) := by
  unfold ConS
  w_top off
  k_fill
  intros
  rename_i hret
  dsimp only at hret
  refine wpAny_call ?_
  k_dflt cell_enter
  k_steps
  all_goals (refine endI hret ?_ (by k_asm) (by first | k_asm | exact cb_drop (by k_asm) (fun p hp => List.Mem.tail _ hp)); unfold mlen)
  all_goals (repeat' split)
  all_goals first
    | rfl
    | (exfalso; omega)
    | (exfalso; simp only [List.any_cons, List.any_nil, Bool.or_false, Bool.or_eq_true, Bool.or_eq_false_iff, beq_iff_eq, beq_eq_false_iff_ne, List.mem_cons, List.not_mem_nil, or_false, not_or, decide_eq_true_eq, decide_eq_false_iff_not] at *; omega)

theorem f_mlen {y m : Int} (_hy1 : -3 ≤ y) (_hy2 : y ≤ 110000000) (_hm1 : 1 ≤ m) (_hm2 : m ≤ 13) : 29 ≤ mlen y m ∧ mlen y m ≤ 30 := mlen_bd y m
end Mine
end
/-! W10 -/
section
local macro_rules | `(tactic| walk_at "pad 5") => `(tactic| skip)
local macro_rules | `(tactic| walk_at "pad 5") => `(tactic| skip)
local macro_rules | `(tactic| walk_at "pad 5") => `(tactic| skip)
local macro_rules | `(tactic| walk_at "pad 5") => `(tactic| skip)
local macro_rules | `(tactic| walk_at "pad 5") => `(tactic| skip)
local macro_rules | `(tactic| walk_at "pad 5") => `(tactic| skip)
local macro_rules | `(tactic| walk_at "pad 5") => `(tactic| skip)
local macro_rules | `(tactic| walk_at "pad 5") => `(tactic| skip)
local macro_rules | `(tactic| walk_at "pad 5") => `(tactic| skip)
local macro_rules | `(tactic| walk_at "pad 5") => `(tactic| skip)
local macro_rules | `(tactic| walk_at "pad 5") => `(tactic| skip)
local macro_rules | `(tactic| walk_at "pad 5") => `(tactic| skip)
local macro_rules | `(tactic| walk_at "pad 5") => `(tactic| skip)
local macro_rules | `(tactic| walk_at "pad 5") => `(tactic| skip)
local macro_rules | `(tactic| walk_at "pad 5") => `(tactic| skip)
local macro_rules | `(tactic| walk_at "pad 5") => `(tactic| skip)
local macro_rules | `(tactic| walk_at "pad 5") => `(tactic| skip)
local macro_rules | `(tactic| walk_at "pad 5") => `(tactic| skip)
local macro_rules | `(tactic| walk_at "call ref") => `(tactic| (k_here; k_dflt (refine' Mine.ConS.useP (Mine.c_mlen _ _ _ _ ?p0 ?p1 ?p2 ?p3) (Mine.f_mlen ?p0 ?p1 ?p2 ?p3) ?k1 ?k2 ?k3 ?k4 ?k5 ?kK ?kd ?ku ?_; (case p0 => first | assumption | omega); (case p1 => first | assumption | omega); (case p2 => first | assumption | omega); (case p3 => first | assumption | omega); (case k1 => k_asm); (case k2 => k_asm); (case k3 => k_asm); (case k4 => k_asm); (case k5 => k_asm); (case kK => first | exact rfl | assumption); (case kd => first | exact Mine.room_d (by assumption) (by decide) | ktr_room); (case ku => first | exact Mine.room_u (by assumption) (by decide) | ktr_units); intro P9 t9 h9 tk9 F9 N9; (try dsimp only); (try k_fold))))
namespace Mine
theorem c_mdays (y m : Int) (t u : Tok) (hy1 : -3 ≤ y) (hy2 : y ≤ 110000000) (hm1 : 1 ≤ m) (hm2 : m ≤ 13) : ConS 12 120 [.int y t, .int m u] (fun t => .int (mlen y m) t) := by
  unfold ConS
  w_top off
  k_fill
  intros
  rename_i hret
  dsimp only at hret
  refine wpAny_call ?_
  k_dflt cell_enter
  k_steps
  all_goals (refine endI hret rfl (by k_asm) (by k_asm))
theorem c_ym13 (y : Int) (t : Tok) (h : (y * 7 + 1) % 19 < 7) : ConS 3 85 [.int y t] (fun t => .int 13 t) := by
  have := c_year_months y t
  rw [if_pos h] at this
  exact this
theorem c_ym12 (y : Int) (t : Tok) (h : ¬ (y * 7 + 1) % 19 < 7) : ConS 3 85 [.int y t] (fun t => .int 12 t) := by
  have := c_year_months y t
  rw [if_neg h] at this
  exact this
theorem unr_gen {h₀ : Heap} {L I : Addr} {it : Obj} {rest : (Str → Option Value) → List (Addr × Obj) → Prop} {s₁ : Shared} {h' : Heap} {tk : Nat} {m' : Str → Option Value} {news : List (Addr × Obj)} (F : Fr h₀ L h' m') (N : News h₀ L h' ((I, it) :: news)) (hl : ∀ p ∈ news, p.1 < I) (r : rest m' news) : UnrEnd h₀ L s₁ I it rest { s₁ with heap := h', toks := tk } :=
  UnrEnd.intro F N news (fun _ hp => hp) (fun p hp => Nat.ne_of_lt (hl p hp)) r
end Mine
end
/-! W11 -/
section
local macro_rules | `(tactic| walk_at "pad 6") => `(tactic| skip)
local macro_rules | `(tactic| walk_at "pad 6") => `(tactic| skip)
local macro_rules | `(tactic| walk_at "pad 6") => `(tactic| skip)
local macro_rules | `(tactic| walk_at "pad 6") => `(tactic| skip)
local macro_rules | `(tactic| walk_at "pad 6") => `(tactic| skip)
local macro_rules | `(tactic| walk_at "pad 6") => `(tactic| skip)
local macro_rules | `(tactic| walk_at "pad 6") => `(tactic| skip)
local macro_rules | `(tactic| walk_at "pad 6") => `(tactic| skip)
local macro_rules | `(tactic| walk_at "pad 6") => `(tactic| skip)
local macro_rules | `(tactic| walk_at "pad 6") => `(tactic| skip)
local macro_rules | `(tactic| walk_at "pad 6") => `(tactic| skip)
local macro_rules | `(tactic| walk_at "pad 6") => `(tactic| skip)
local macro_rules | `(tactic| walk_at "pad 6") => `(tactic| skip)
local macro_rules | `(tactic| walk_at "pad 6") => `(tactic| skip)
local macro_rules | `(tactic| walk_at "call ref") => `(tactic| (k_here; k_dflt (refine' Mine.ConS.use (Mine.c_ym13 _ _ ?p0) ?k1 ?k2 ?k3 ?k4 ?k5 ?kK ?kd ?ku ?_; (case p0 => first | assumption | omega); (case k1 => k_asm); (case k2 => k_asm); (case k3 => k_asm); (case k4 => k_asm); (case k5 => k_asm); (case kK => first | exact rfl | assumption); (case kd => first | exact Mine.room_d (by assumption) (by decide) | ktr_room); (case ku => first | exact Mine.room_u (by assumption) (by decide) | ktr_units); intro t9 h9 tk9 F9 N9; (try dsimp only); (try k_fold))))
local macro_rules | `(tactic| walk_at "call ref") => `(tactic| (k_here; k_dflt (refine' Mine.ConS.use (Mine.c_ym12 _ _ ?p0) ?k1 ?k2 ?k3 ?k4 ?k5 ?kK ?kd ?ku ?_; (case p0 => first | assumption | omega); (case k1 => k_asm); (case k2 => k_asm); (case k3 => k_asm); (case k4 => k_asm); (case k5 => k_asm); (case kK => first | exact rfl | assumption); (case kd => first | exact Mine.room_d (by assumption) (by decide) | ktr_room); (case ku => first | exact Mine.room_u (by assumption) (by decide) | ktr_units); intro t9 h9 tk9 F9 N9; (try dsimp only); (try k_fold))))
local macro_rules | `(tactic| walk_at "call ref") => `(tactic| (k_here; k_dflt (refine' Mine.ConS.use (Mine.c_delay_1 _ _ ?p0 ?p1) ?k1 ?k2 ?k3 ?k4 ?k5 ?kK ?kd ?ku ?_; (case p0 => first | assumption | omega); (case p1 => first | assumption | omega); (case k1 => k_asm); (case k2 => k_asm); (case k3 => k_asm); (case k4 => k_asm); (case k5 => k_asm); (case kK => first | exact rfl | assumption); (case kd => first | exact Mine.room_d (by assumption) (by decide) | ktr_room); (case ku => first | exact Mine.room_u (by assumption) (by decide) | ktr_units); intro t9 h9 tk9 F9 N9; (try dsimp only); (try k_fold))))
local macro_rules | `(tactic| walk_at "call ref") => `(tactic| (k_here; k_dflt (refine' Mine.ConS.use (Mine.c_delay_2 _ _ ?p0 ?p1) ?k1 ?k2 ?k3 ?k4 ?k5 ?kK ?kd ?ku ?_; (case p0 => first | assumption | omega); (case p1 => first | assumption | omega); (case k1 => k_asm); (case k2 => k_asm); (case k3 => k_asm); (case k4 => k_asm); (case k5 => k_asm); (case kK => first | exact rfl | assumption); (case kd => first | exact Mine.room_d (by assumption) (by decide) | ktr_room); (case ku => first | exact Mine.room_u (by assumption) (by decide) | ktr_units); intro t9 h9 tk9 F9 N9; (try dsimp only); (try k_fold))))
local macro_rules | `(tactic| walk_at "call ref") => `(tactic| (k_here; k_dflt (refine' Mine.ConS.useP (Mine.c_mdays _ _ _ _ ?p0 ?p1 ?p2 ?p3) (Mine.f_mlen ?p0 ?p1 ?p2 ?p3) ?k1 ?k2 ?k3 ?k4 ?k5 ?kK ?kd ?ku ?_; (case p0 => first | assumption | omega); (case p1 => first | assumption | omega); (case p2 => first | assumption | omega); (case p3 => first | assumption | omega); (case k1 => k_asm); (case k2 => k_asm); (case k3 => k_asm); (case k4 => k_asm); (case k5 => k_asm); (case kK => first | exact rfl | assumption); (case kd => first | exact Mine.room_d (by assumption) (by decide) | ktr_room); (case ku => first | exact Mine.room_u (by assumption) (by decide) | ktr_units); intro P9 t9 h9 tk9 F9 N9; (try dsimp only); (try k_fold))))
local macro_rules | `(tactic| walk_at "UnrEnd") => `(tactic| (k_dflt (refine' Mine.unr_gen ?F ?N ?l ?_; (case F => k_asm); (case N => k_asm); (case l => assumption))))
namespace Mine
theorem c_to_jd_h15a (y : Int) (t u v : Tok) (hy1 : -3 ≤ y) (hy2 : y ≤ 105000000) (hL : (y * 7 + 1) % 19 < 7) : ConS 14 127 [.int y t, .int 1 u, .int 15 v] (fun t => .float (hf (ns y)) t) := by
  have hb1 := d1_bd (y := y) (by omega) (by omega)
  have hb2 := d2_bd y
  unfold ConS
  w_top off
  k_fill
  intros
  rename_i hret
  dsimp only at hret
  refine wpAny_call ?_
  k_dflt cell_enter
  k_steps
  all_goals (refine endF hret (congrArg hf ?_) (by k_asm) (by k_asm); unfold ns; rw [if_pos hL]; rfl)
theorem c_to_jd_h15b (y : Int) (t u v : Tok) (hy1 : -3 ≤ y) (hy2 : y ≤ 105000000) (hL : ¬ (y * 7 + 1) % 19 < 7) : ConS 14 127 [.int y t, .int 1 u, .int 15 v] (fun t => .float (hf (ns y)) t) := by
  have hb1 := d1_bd (y := y) (by omega) (by omega)
  have hb2 := d2_bd y
  unfold ConS
  w_top off
  k_fill
  intros
  rename_i hret
  dsimp only at hret
  refine wpAny_call ?_
  k_dflt cell_enter
  k_steps
  all_goals (refine endF hret (congrArg hf ?_) (by k_asm) (by k_asm); unfold ns; rw [if_neg hL, Int.add_zero]; rfl)
theorem c_to_jd_h15 (y : Int) (t u v : Tok) (hy1 : -3 ≤ y) (hy2 : y ≤ 105000000) : ConS 14 127 [.int y t, .int 1 u, .int 15 v] (fun t => .float (hf (ns y)) t) := by
  by_cases hL : (y * 7 + 1) % 19 < 7
  · exact c_to_jd_h15a y t u v hy1 hy2 hL
  · exact c_to_jd_h15b y t u v hy1 hy2 hL
theorem f_to_jd_h15 {y : Int} (hy1 : -3 ≤ y) (hy2 : y ≤ 105000000) : 300000 ≤ ns y ∧ ns y ≤ 60002000000 := by
  have a := d1_bd (y := y) (by omega) (by omega)
  have b := d2_bd y
  have := mlen_bd y 7
  have := mlen_bd y 8
  have := mlen_bd y 9
  have := mlen_bd y 10
  have := mlen_bd y 11
  have := mlen_bd y 12
  have := mlen_bd y 13
  unfold ns
  split <;> omega
end Mine
end
/-! W1 -/
section

namespace Mine
theorem c_isleap (y : Int) (t : Tok) : ConS 1 50 [.int y t] (fun _ => .bool (leapB y)) := by
  unfold ConS
  w_top off
  k_fill
  intros
  rename_i hret
  dsimp only at hret
  refine wpAny_call ?_
  k_dflt cell_enter
  k_steps
  all_goals (refine endB hret ?_ (by k_asm) (by k_asm))
  all_goals (rw [Bool.eq_iff_iff]; simp only [leapB, decide_eq_true_eq, bne_iff_ne, beq_iff_eq]; omega)
end Mine
end
/-! W2 -/
section
local macro_rules | `(tactic| walk_at "pad 8") => `(tactic| skip)
local macro_rules | `(tactic| walk_at "pad 8") => `(tactic| skip)
local macro_rules | `(tactic| walk_at "pad 8") => `(tactic| skip)
local macro_rules | `(tactic| walk_at "pad 8") => `(tactic| skip)
local macro_rules | `(tactic| walk_at "pad 8") => `(tactic| skip)
local macro_rules | `(tactic| walk_at "pad 8") => `(tactic| skip)
local macro_rules | `(tactic| walk_at "pad 8") => `(tactic| skip)
local macro_rules | `(tactic| walk_at "pad 8") => `(tactic| skip)
local macro_rules | `(tactic| walk_at "pad 8") => `(tactic| skip)
local macro_rules | `(tactic| walk_at "pad 8") => `(tactic| skip)
local macro_rules | `(tactic| walk_at "pad 8") => `(tactic| skip)
local macro_rules | `(tactic| walk_at "pad 8") => `(tactic| skip)
local macro_rules | `(tactic| walk_at "pad 8") => `(tactic| skip)
local macro_rules | `(tactic| walk_at "pad 8") => `(tactic| skip)
local macro_rules | `(tactic| walk_at "pad 8") => `(tactic| skip)
local macro_rules | `(tactic| walk_at "pad 8") => `(tactic| skip)
local macro_rules | `(tactic| walk_at "pad 8") => `(tactic| skip)
local macro_rules | `(tactic| walk_at "pad 8") => `(tactic| skip)
local macro_rules | `(tactic| walk_at "pad 8") => `(tactic| skip)
local macro_rules | `(tactic| walk_at "pad 8") => `(tactic| skip)
local macro_rules | `(tactic| walk_at "call ref") => `(tactic| (k_here; k_dflt (refine' Mine.ConS.use (Mine.c_isleap _ _) ?k1 ?k2 ?k3 ?k4 ?k5 ?kK ?kd ?ku ?_; (case k1 => k_asm); (case k2 => k_asm); (case k3 => k_asm); (case k4 => k_asm); (case k5 => k_asm); (case kK => first | exact rfl | assumption); (case kd => first | exact Mine.room_d (by assumption) (by decide) | ktr_room); (case ku => first | exact Mine.room_u (by assumption) (by decide) | ktr_units); intro t9 h9 tk9 F9 N9; (try dsimp only); (try k_fold))))
local macro_rules | `(tactic| walk_at "exec Raise some none") => `(tactic| (exfalso; (with_reducible rename (_ ≤ Mine.dimG _ _) => hD); simp only [Mine.dimG] at hD; (try simp only [List.mem_cons, List.not_mem_nil, or_false, decide_eq_true_eq, decide_eq_false_iff_not] at *); (repeat' split at hD) <;> (first | omega | (simp_all; done))))
namespace Mine
theorem c_legal_g (y m d : Int) (t u v : Tok) (h1 : 1 ≤ d) (h2 : d ≤ dimG y m) : ConS 2 57 [.int y t, .int m u, .int d v] (fun _ => .bool true) := by
  unfold ConS
  w_top off
  k_fill
  intros
  rename_i hret
  dsimp only at hret
  refine wpAny_call ?_
  k_dflt cell_enter
  k_steps
  all_goals (refine endB hret rfl (by k_asm) (by k_asm))
end Mine
end
/-! W3 -/
section
local macro_rules | `(tactic| walk_at "pad 9") => `(tactic| skip)
local macro_rules | `(tactic| walk_at "pad 9") => `(tactic| skip)
local macro_rules | `(tactic| walk_at "pad 9") => `(tactic| skip)
local macro_rules | `(tactic| walk_at "pad 9") => `(tactic| skip)
local macro_rules | `(tactic| walk_at "pad 9") => `(tactic| skip)
local macro_rules | `(tactic| walk_at "pad 9") => `(tactic| skip)
local macro_rules | `(tactic| walk_at "pad 9") => `(tactic| skip)
local macro_rules | `(tactic| walk_at "pad 9") => `(tactic| skip)
local macro_rules | `(tactic| walk_at "pad 9") => `(tactic| skip)
local macro_rules | `(tactic| walk_at "pad 9") => `(tactic| skip)
local macro_rules | `(tactic| walk_at "pad 9") => `(tactic| skip)
local macro_rules | `(tactic| walk_at "pad 9") => `(tactic| skip)
local macro_rules | `(tactic| walk_at "pad 9") => `(tactic| skip)
local macro_rules | `(tactic| walk_at "pad 9") => `(tactic| skip)
local macro_rules | `(tactic| walk_at "pad 9") => `(tactic| skip)
local macro_rules | `(tactic| walk_at "pad 9") => `(tactic| skip)
local macro_rules | `(tactic| walk_at "pad 9") => `(tactic| skip)
local macro_rules | `(tactic| walk_at "pad 9") => `(tactic| skip)
local macro_rules | `(tactic| walk_at "pad 9") => `(tactic| skip)
local macro_rules | `(tactic| walk_at "pad 9") => `(tactic| skip)
local macro_rules | `(tactic| walk_at "pad 9") => `(tactic| skip)
local macro_rules | `(tactic| walk_at "call ref") => `(tactic| (k_here; k_dflt (refine' Mine.ConS.use (Mine.c_isleap _ _) ?k1 ?k2 ?k3 ?k4 ?k5 ?kK ?kd ?ku ?_; (case k1 => k_asm); (case k2 => k_asm); (case k3 => k_asm); (case k4 => k_asm); (case k5 => k_asm); (case kK => first | exact rfl | assumption); (case kd => first | exact Mine.room_d (by assumption) (by decide) | ktr_room); (case ku => first | exact Mine.room_u (by assumption) (by decide) | ktr_units); intro t9 h9 tk9 F9 N9; (try dsimp only); (try k_fold))))
local macro_rules | `(tactic| walk_at "call ref") => `(tactic| (k_here; k_dflt (refine' Mine.ConS.use (Mine.c_legal_g _ _ _ _ _ _ ?p0 ?p1) ?k1 ?k2 ?k3 ?k4 ?k5 ?kK ?kd ?ku ?_; (case p0 => first | assumption | omega); (case p1 => first | assumption | omega); (case k1 => k_asm); (case k2 => k_asm); (case k3 => k_asm); (case k4 => k_asm); (case k5 => k_asm); (case kK => first | exact rfl | assumption); (case kd => first | exact Mine.room_d (by assumption) (by decide) | ktr_room); (case ku => first | exact Mine.room_u (by assumption) (by decide) | ktr_units); intro t9 h9 tk9 F9 N9; (try dsimp only); (try k_fold))))
namespace Mine
theorem c_to_jd_g (y m d : Int) (t u v : Tok) (hy1 : -10000 ≤ y) (hy2 : y ≤ 200000000) (hm1 : 1 ≤ m) (hm2 : m ≤ 12) (h1 : 1 ≤ d) (h2 : d ≤ dimG y m) : ConS 4 64 [.int y t, .int m u, .int d v] (fun t => .float (hf (gjd y m d)) t) := by
  have hd31 := (dimG_le y m).2
  unfold ConS
  w_top off
  k_fill
  intros
  rename_i hret
  dsimp only at hret
  refine wpAny_call ?_
  k_dflt cell_enter
  k_steps
  all_goals (refine endF hret ?_ (by k_asm) (by k_asm); refine congrArg hf ?_; unfold gjd)
  · rw [if_pos (by assumption)]; omega
  · rw [if_neg (by assumption), if_pos (by assumption)]; omega
  · rw [if_neg (by assumption), if_neg (by simp_all)]; omega
end Mine
end
/-! W3b -/
section

namespace Mine
theorem f_to_jd_g {y m d : Int} (hy1 : -10000 ≤ y) (hy2 : y ≤ 200000000) (hm1 : 1 ≤ m) (hm2 : m ≤ 12) (h1 : 1 ≤ d) (h2 : d ≤ dimG y m) : -4000000 ≤ gjd y m d ∧ gjd y m d ≤ 80000000000 := by
  have := (dimG_le y m).2
  unfold gjd
  repeat' split
  all_goals omega
theorem c_to_jd_gY {n : Int} (y : Int) (t u v : Tok) (hg : good y n) (hy1 : -10000 ≤ y) (hy2 : y ≤ 200000000) : ConS 4 64 [.int y t, .int 1 u, .int 1 v] (fun t => .float (hf (gjd y 1 1)) t) :=
  c_to_jd_g y 1 1 t u v hy1 hy2 (by decide) (by decide) (by decide) (Int.le_trans (by decide) (dimG_le y 1).1)
theorem f_to_jd_gY {n y : Int} (hg : good y n) (hy1 : -10000 ≤ y) (hy2 : y ≤ 200000000) : good y n ∧ (-10000 ≤ y ∧ y ≤ 200000000) ∧ gjd y 1 1 ≤ n ∧ n ≤ gjd y 1 1 + 364 + leapI y ∧ 0 ≤ leapI y ∧ leapI y ≤ 1 := by
  have h := of_good hg
  rw [← gjd_jan1] at h
  refine ⟨hg, ⟨hy1, hy2⟩, h.1, h.2, ?_⟩
  unfold leapI
  split <;> decide
theorem c_isleapI (y : Int) (t : Tok) : ConS 1 50 [.int y t] (fun _ => .bool (decide (leapI y = 1))) := by
  have h := c_isleap y t
  have e : leapB y = decide (leapI y = 1) := by
    unfold leapI
    cases leapB y <;> decide
  rw [e] at h
  exact h
theorem gy {Y n : Int} (_h : good Y n) : ∃ y, Y = y := ⟨Y, rfl⟩
theorem endT {h₀ h' : Heap} {L : Addr} {m : Str → Option Value} {news : List (Addr × Obj)} {s : Shared} {Q : Value → Shared → Prop} {tk' : Nat} {a b c a' b' c' : Int} {t1 t2 t3 : Tok} {n : Nat} {x : Addr}
    (hret : ∀ (x : Addr) (vs : List Value) (n : Nat) (h' : Heap) (tk' : Nat), IntsAre vs [a', b', c'] → Fr h₀ L h' m → News h₀ L h' ((x, tupO vs n) :: news) → (∀ p ∈ news, p.1 < x) → Q (.ref x) { s with heap := h', toks := tk' })
    (e : a = a' ∧ b = b' ∧ c = c') (F : Fr h₀ L h' m) (N : News h₀ L h' ((x, { cls := .type "tuple", data := .seq #[.int a t1, .int b t2, .int c t3] n }) :: news)) (l : ∀ p ∈ news, p.1 < x) : Q (.ref x) { s with heap := h', toks := tk' } := by
  obtain ⟨rfl, rfl, rfl⟩ := e
  exact hret x [.int a t1, .int b t2, .int c t3] n h' tk' (.cons _ _ (.cons _ _ (.cons _ _ .nil))) F N l
end Mine
end
/-! W5 -/
section
local macro_rules | `(tactic| walk_at "pad 11") => `(tactic| skip)
local macro_rules | `(tactic| walk_at "pad 11") => `(tactic| skip)
local macro_rules | `(tactic| walk_at "pad 11") => `(tactic| skip)
local macro_rules | `(tactic| walk_at "pad 11") => `(tactic| skip)
local macro_rules | `(tactic| walk_at "pad 11") => `(tactic| skip)
local macro_rules | `(tactic| walk_at "pad 11") => `(tactic| skip)
local macro_rules | `(tactic| walk_at "pad 11") => `(tactic| skip)
local macro_rules | `(tactic| walk_at "pad 11") => `(tactic| skip)
local macro_rules | `(tactic| walk_at "pad 11") => `(tactic| skip)
local macro_rules | `(tactic| walk_at "pad 11") => `(tactic| skip)
local macro_rules | `(tactic| walk_at "pad 11") => `(tactic| skip)
local macro_rules | `(tactic| walk_at "pad 11") => `(tactic| skip)
local macro_rules | `(tactic| walk_at "pad 11") => `(tactic| skip)
local macro_rules | `(tactic| walk_at "pad 11") => `(tactic| skip)
local macro_rules | `(tactic| walk_at "pad 11") => `(tactic| skip)
local macro_rules | `(tactic| walk_at "pad 11") => `(tactic| skip)
local macro_rules | `(tactic| walk_at "pad 11") => `(tactic| skip)
local macro_rules | `(tactic| walk_at "pad 11") => `(tactic| skip)
local macro_rules | `(tactic| walk_at "pad 11") => `(tactic| skip)
local macro_rules | `(tactic| walk_at "pad 11") => `(tactic| skip)
local macro_rules | `(tactic| walk_at "pad 11") => `(tactic| skip)
local macro_rules | `(tactic| walk_at "call ref") => `(tactic| (k_here; k_dflt (refine' Mine.ConS.use (Mine.c_isleapI _ _) ?k1 ?k2 ?k3 ?k4 ?k5 ?kK ?kd ?ku ?_; (case k1 => k_asm); (case k2 => k_asm); (case k3 => k_asm); (case k4 => k_asm); (case k5 => k_asm); (case kK => first | exact rfl | assumption); (case kd => first | exact Mine.room_d (by assumption) (by decide) | ktr_room); (case ku => first | exact Mine.room_u (by assumption) (by decide) | ktr_units); intro t9 h9 tk9 F9 N9; (try dsimp only); (try k_fold))))
local macro_rules | `(tactic| walk_at "call ref") => `(tactic| (k_here; k_dflt (refine' Mine.ConS.useP (Mine.c_to_jd_g _ _ _ _ _ _ ?p0 ?p1 ?p2 ?p3 ?p4 ?p5) (Mine.f_to_jd_g ?p0 ?p1 ?p2 ?p3 ?p4 ?p5) ?k1 ?k2 ?k3 ?k4 ?k5 ?kK ?kd ?ku ?_; (case p0 => first | assumption | omega | exact Int.le_trans (by decide : (1:Int) ≤ 28) (Mine.dimG_le _ _).1); (case p1 => first | assumption | omega | exact Int.le_trans (by decide : (1:Int) ≤ 28) (Mine.dimG_le _ _).1); (case p2 => first | assumption | omega | exact Int.le_trans (by decide : (1:Int) ≤ 28) (Mine.dimG_le _ _).1); (case p3 => first | assumption | omega | exact Int.le_trans (by decide : (1:Int) ≤ 28) (Mine.dimG_le _ _).1); (case p4 => first | assumption | omega | exact Int.le_trans (by decide : (1:Int) ≤ 28) (Mine.dimG_le _ _).1); (case p5 => first | assumption | omega | exact Int.le_trans (by decide : (1:Int) ≤ 28) (Mine.dimG_le _ _).1); (case k1 => k_asm); (case k2 => k_asm); (case k3 => k_asm); (case k4 => k_asm); (case k5 => k_asm); (case kK => first | exact rfl | assumption); (case kd => first | exact Mine.room_d (by assumption) (by decide) | ktr_room); (case ku => first | exact Mine.room_u (by assumption) (by decide) | ktr_units); intro P9 t9 h9 tk9 F9 N9; (try dsimp only); (try k_fold))))
local macro_rules | `(tactic| walk_at "call ref") => `(tactic| (k_here; k_dflt (refine' Mine.ConS.useP (Mine.c_to_jd_gY _ _ _ _ ?p0 ?p1 ?p2) (Mine.f_to_jd_gY ?p0 ?p1 ?p2) ?k1 ?k2 ?k3 ?k4 ?k5 ?kK ?kd ?ku ?_; (case p0 => first | with_reducible exact Mine.year_A _ (Or.inl (by assumption)) | with_reducible exact Mine.year_A _ (Or.inr (by assumption)) | with_reducible exact Mine.year_B _ (by assumption) (by assumption) | omega); (case p1 => first | with_reducible exact Mine.year_A _ (Or.inl (by assumption)) | with_reducible exact Mine.year_A _ (Or.inr (by assumption)) | with_reducible exact Mine.year_B _ (by assumption) (by assumption) | omega); (case p2 => first | with_reducible exact Mine.year_A _ (Or.inl (by assumption)) | with_reducible exact Mine.year_A _ (Or.inr (by assumption)) | with_reducible exact Mine.year_B _ (by assumption) (by assumption) | omega); (case k1 => k_asm); (case k2 => k_asm); (case k3 => k_asm); (case k4 => k_asm); (case k5 => k_asm); (case kK => first | exact rfl | assumption); (case kd => first | exact Mine.room_d (by assumption) (by decide) | ktr_room); (case ku => first | exact Mine.room_u (by assumption) (by decide) | ktr_units); intro P9 t9 h9 tk9 F9 N9; (obtain ⟨y0, hy0⟩ := Mine.gy P9.1); (rw [hy0] at F9 P9 ⊢); clear hy0; (try ((with_reducible rename ((_ : Int) % 146097 / 36524 = 4) => hp1); clear hp1)); (try ((with_reducible rename ((_ : Int) % 146097 / 36524 ≠ 4) => hp1); clear hp1)); (try ((with_reducible rename ((_ : Int) % 1461 / 365 = 4) => hp1); clear hp1)); (try ((with_reducible rename ((_ : Int) % 1461 / 365 ≠ 4) => hp1); clear hp1)); (try dsimp only); (try k_fold))))
local macro_rules | `(tactic| walk_at "eval Call Name") => `(tactic| (k_here; k_dflt (refine Call_ ?_)))
namespace Mine
theorem c_from_jd (n : Int) (t : Tok) (hn1 : 300000 ≤ n) (hn2 : n ≤ 70000000000) : ConT 7 71 [.float (hf n) t] [civY (n + 1), civM (n + 1), civD (n + 1)] := by
  unfold ConT
  w_top off
  k_fill
  intros
  rename_i hret
  refine wpAny_call ?_
  k_dflt cell_enter
  k_steps
  all_goals (refine endT hret ?_ (by k_asm) (by k_asm) (by assumption))
  all_goals ((with_reducible rename (Mine.good _ _ ∧ _) => hG); refine from_ok hG.1 ?_ rfl)
  all_goals first
    | (refine Or.inl ⟨?_, rfl⟩; (with_reducible rename (_ < (58 : Int) + _) => hq); (try simp only [decide_eq_true_eq] at hq); split at hq <;> omega)
    | (refine Or.inr ⟨?_, ?_⟩ <;> ((with_reducible rename (¬ (_ < (58 : Int) + _)) => hq); (try simp only [decide_eq_true_eq] at hq); split at hq <;> omega))
end Mine
end
/-! W5b -/
section

namespace Mine
theorem ints3 {vs : List Value} {a b c : Int} (h : IntsAre vs [a, b, c]) : ∃ t1 t2 t3, vs = [.int a t1, .int b t2, .int c t3] := by
  cases h with
  | cons _ t1 h => cases h with
    | cons _ t2 h => cases h with
      | cons _ t3 h => cases h with
        | nil => exact ⟨t1, t2, t3, rfl⟩
theorem c_from_jdY (n Y : Int) (t : Tok) (hn1 : 300000 ≤ n) (hn2 : n ≤ 70000000000) (hY : civY (n + 1) = Y) : ConT 7 71 [.float (hf n) t] [Y, civM (n + 1), civD (n + 1)] := by
  have := c_from_jd n t hn1 hn2
  rw [hY] at this
  exact this
theorem c_to_jd_gN (n y m d : Int) (t u v : Tok) (hy1 : -10000 ≤ y) (hy2 : y ≤ 200000000) (hm1 : 1 ≤ m) (hm2 : m ≤ 12) (h1 : 1 ≤ d) (h2 : d ≤ dimG y m) (hn : gjd y m d = n) : ConS 4 64 [.int y t, .int m u, .int d v] (fun t => .float (hf n) t) := by
  rw [← hn]
  exact c_to_jd_g y m d t u v hy1 hy2 hm1 hm2 h1 h2
theorem iter_tup2 {prog : Program} {w : World} {A : Around} {E : Value → Shared → Prop} {s : Shared} {env : Env} {h₀ : Heap} {target : Expr} {body : List Stmt} {Q : Flow → Shared → Prop} {ax : Addr} {a b : Value} {n : Nat} {m₀ : Str → Option Value} {news : List (Addr × Obj)}
    (hh : A.handled = none) (F : Fr h₀ env.locals s.heap m₀) (N : News h₀ env.locals s.heap ((ax, { cls := .type "tuple", data := .seq #[a, b] n }) :: news))
    (rest : ∀ I : Addr, (∀ p ∈ ((ax, ({ cls := .type "tuple", data := .seq #[a, b] n } : Obj)) :: news), p.1 < I) → ItemsRest prog w A E h₀ env target body Q s [(I, "tuple_iterator")] [(ax, { cls := .type "tuple", data := .seq #[a, b] n })] [.val a, .val b] m₀ ((ax, { cls := .type "tuple", data := .seq #[a, b] n }) :: news)) :
    wpAny (model prog w) A (pyIter (.ref ax)) (fun it s₂ => TurnsAt prog w A h₀ env target body Q E it s₂) E s :=
  iter_tupTurns (vs := [a, b]) hh F N (List.Mem.head _) rfl rfl rest
end Mine
end
/-! W12 -/
section
local macro_rules | `(tactic| walk_at "pad 13") => `(tactic| skip)
local macro_rules | `(tactic| walk_at "pad 13") => `(tactic| skip)
local macro_rules | `(tactic| walk_at "pad 13") => `(tactic| skip)
local macro_rules | `(tactic| walk_at "pad 13") => `(tactic| skip)
local macro_rules | `(tactic| walk_at "pad 13") => `(tactic| skip)
local macro_rules | `(tactic| walk_at "pad 13") => `(tactic| skip)
local macro_rules | `(tactic| walk_at "pad 13") => `(tactic| skip)
local macro_rules | `(tactic| walk_at "pad 13") => `(tactic| skip)
local macro_rules | `(tactic| walk_at "pad 13") => `(tactic| skip)
local macro_rules | `(tactic| walk_at "pad 13") => `(tactic| skip)
local macro_rules | `(tactic| walk_at "pad 13") => `(tactic| skip)
local macro_rules | `(tactic| walk_at "pad 13") => `(tactic| skip)
local macro_rules | `(tactic| walk_at "pad 13") => `(tactic| skip)
local macro_rules | `(tactic| walk_at "pad 13") => `(tactic| skip)
local macro_rules | `(tactic| walk_at "pad 13") => `(tactic| skip)
local macro_rules | `(tactic| walk_at "pad 13") => `(tactic| skip)
local macro_rules | `(tactic| walk_at "pad 13") => `(tactic| skip)
local macro_rules | `(tactic| walk_at "pad 13") => `(tactic| skip)
local macro_rules | `(tactic| walk_at "pad 13") => `(tactic| skip)
local macro_rules | `(tactic| walk_at "pad 13") => `(tactic| skip)
local macro_rules | `(tactic| walk_at "pad 13") => `(tactic| skip)
local macro_rules | `(tactic| walk_at "pad 13") => `(tactic| skip)
local macro_rules | `(tactic| walk_at "pad 13") => `(tactic| skip)
local macro_rules | `(tactic| walk_at "call ref") => `(tactic| (k_here; k_dflt (refine' Mine.ConS.useP (Mine.c_to_jd_h15 _ _ _ _ ?p0 ?p1) (Mine.f_to_jd_h15 ?p0 ?p1) ?k1 ?k2 ?k3 ?k4 ?k5 ?kK ?kd ?ku ?_; (case p0 => first | assumption | omega); (case p1 => first | assumption | omega); (case k1 => k_asm); (case k2 => k_asm); (case k3 => k_asm); (case k4 => k_asm); (case k5 => k_asm); (case kK => first | exact rfl | assumption); (case kd => first | exact Mine.room_d (by assumption) (by decide) | ktr_room); (case ku => first | exact Mine.room_u (by assumption) (by decide) | ktr_units); intro P9 t9 h9 tk9 F9 N9; (try dsimp only); (try k_fold))))
local macro_rules | `(tactic| walk_at "call ref") => `(tactic| (k_here; k_dflt (refine' Mine.ConT.use (Mine.c_from_jdY _ _ _ ?p0 ?p1 ?p2) ?k1 ?k2 ?k3 ?k4 ?k5 ?kK ?kd ?ku ?_; (case p0 => first | assumption | omega); (case p1 => first | assumption | omega); (case p2 => first | assumption | omega); (case k1 => k_asm); (case k2 => k_asm); (case k3 => k_asm); (case k4 => k_asm); (case k5 => k_asm); (case kK => first | exact rfl | assumption); (case kd => first | exact Mine.room_d (by assumption) (by decide) | ktr_room); (case ku => first | exact Mine.room_u (by assumption) (by decide) | ktr_units); intro x9 v9 n9 h9 tk9 I9 F9 N9 l9; (obtain ⟨t91, t92, t93, e9⟩ := Mine.ints3 I9); subst e9; clear I9; (try dsimp only); (try k_fold))))
local macro_rules | `(tactic| walk_at "call ref") => `(tactic| (k_here; k_dflt (refine' Mine.ConS.use (Mine.c_to_jd_gN _ _ _ _ _ _ _ ?p0 ?p1 ?p2 ?p3 ?p4 ?p5 ?p6) ?k1 ?k2 ?k3 ?k4 ?k5 ?kK ?kd ?ku ?_; (case p0 => first | assumption | omega); (case p1 => first | assumption | omega); (case p2 => first | assumption | omega); (case p3 => first | assumption | omega); (case p4 => first | assumption | omega); (case p5 => first | assumption | omega); (case p6 => first | assumption | omega); (case k1 => k_asm); (case k2 => k_asm); (case k3 => k_asm); (case k4 => k_asm); (case k5 => k_asm); (case kK => first | exact rfl | assumption); (case kd => first | exact Mine.room_d (by assumption) (by decide) | ktr_room); (case ku => first | exact Mine.room_u (by assumption) (by decide) | ktr_units); intro t9 h9 tk9 F9 N9; (try dsimp only); (try k_fold))))
local macro_rules | `(tactic| walk_at "pyIter ref") => `(tactic| (k_here; (with_reducible show wpAny _ _ (pyIter (Value.ref _)) (fun it s₂ => TurnsAt _ _ _ _ _ _ _ _ _ it s₂) _ _); k_dflt (refine' Mine.iter_tup2 ?a ?F ?N ?_; (case a => with_unfolding_all exact rfl); (case F => k_asm); (case N => k_asm)); intro i' l1))
namespace Mine
theorem c_gry (Y : Int) (t u v : Tok) (hY1 : -3759 ≤ Y) (hY2 : Y ≤ 50000) (hg : civY (ns (Y + 3760) + 1) = Y) : ConS 16 134 [.int Y t, .int 1 u, .int 15 v] (fun t => .float (hf (ns (Y + 3760))) t) := by
  obtain ⟨hc1, hc2, hc3, hc4, hc5⟩ := civ_ok (ns (Y + 3760) + 1)
  rw [hg] at hc4 hc5
  rw [show ns (Y + 3760) + 1 - 1 = ns (Y + 3760) by omega] at hc5
  unfold ConS
  w_top off
  k_fill
  intros
  rename_i hret
  dsimp only at hret
  refine wpAny_call ?_
  k_dflt cell_enter
  k_steps
  all_goals first
    | exact absurd rfl (by assumption)
    | (refine endF hret rfl (by k_asm) (by first | k_asm | (refine cb_drop (by k_asm) ?_; intro p hp; repeat (first | exact hp | refine List.Mem.tail _ ?_))))
theorem f_gry {Y : Int} (hY1 : -3759 ≤ Y) (hY2 : Y ≤ 50000) (_hg : civY (ns (Y + 3760) + 1) = Y) : 300000 ≤ ns (Y + 3760) ∧ ns (Y + 3760) ≤ 60002000000 := f_to_jd_h15 (by omega) (by omega)
end Mine
end
/-! W13 -/
section
local macro_rules | `(tactic| walk_at "pad 14") => `(tactic| skip)
local macro_rules | `(tactic| walk_at "pad 14") => `(tactic| skip)
local macro_rules | `(tactic| walk_at "pad 14") => `(tactic| skip)
local macro_rules | `(tactic| walk_at "pad 14") => `(tactic| skip)
local macro_rules | `(tactic| walk_at "pad 14") => `(tactic| skip)
local macro_rules | `(tactic| walk_at "pad 14") => `(tactic| skip)
local macro_rules | `(tactic| walk_at "pad 14") => `(tactic| skip)
local macro_rules | `(tactic| walk_at "pad 14") => `(tactic| skip)
local macro_rules | `(tactic| walk_at "pad 14") => `(tactic| skip)
local macro_rules | `(tactic| walk_at "pad 14") => `(tactic| skip)
local macro_rules | `(tactic| walk_at "pad 14") => `(tactic| skip)
local macro_rules | `(tactic| walk_at "pad 14") => `(tactic| skip)
local macro_rules | `(tactic| walk_at "pad 14") => `(tactic| skip)
local macro_rules | `(tactic| walk_at "pad 14") => `(tactic| skip)
local macro_rules | `(tactic| walk_at "pad 14") => `(tactic| skip)
local macro_rules | `(tactic| walk_at "pad 14") => `(tactic| skip)
local macro_rules | `(tactic| walk_at "pad 14") => `(tactic| skip)
local macro_rules | `(tactic| walk_at "pad 14") => `(tactic| skip)
local macro_rules | `(tactic| walk_at "pad 14") => `(tactic| skip)
local macro_rules | `(tactic| walk_at "pad 14") => `(tactic| skip)
local macro_rules | `(tactic| walk_at "pad 14") => `(tactic| skip)
local macro_rules | `(tactic| walk_at "pad 14") => `(tactic| skip)
local macro_rules | `(tactic| walk_at "pad 14") => `(tactic| skip)
local macro_rules | `(tactic| walk_at "pad 14") => `(tactic| skip)
local macro_rules | `(tactic| walk_at "pad 14") => `(tactic| skip)
local macro_rules | `(tactic| walk_at "pad 14") => `(tactic| skip)
local macro_rules | `(tactic| walk_at "call ref") => `(tactic| (k_here; k_dflt (refine' Mine.ConS.useP (Mine.c_gry _ _ _ _ ?p0 ?p1 ?p2) (Mine.f_gry ?p0 ?p1 ?p2) ?k1 ?k2 ?k3 ?k4 ?k5 ?kK ?kd ?ku ?_; (case p0 => first | assumption | omega); (case p1 => first | assumption | omega); (case p2 => first | assumption | omega); (case k1 => k_asm); (case k2 => k_asm); (case k3 => k_asm); (case k4 => k_asm); (case k5 => k_asm); (case kK => first | exact rfl | assumption); (case kd => first | exact Mine.room_d (by assumption) (by decide) | ktr_room); (case ku => first | exact Mine.room_u (by assumption) (by decide) | ktr_units); intro P9 t9 h9 tk9 F9 N9; (try dsimp only); (try k_fold))))
local macro_rules | `(tactic| walk_at "call ref") => `(tactic| (k_here; k_dflt (refine' Mine.ConT.use (Mine.c_from_jd _ _ ?p0 ?p1) ?k1 ?k2 ?k3 ?k4 ?k5 ?kK ?kd ?ku ?_; (case p0 => first | assumption | omega); (case p1 => first | assumption | omega); (case k1 => k_asm); (case k2 => k_asm); (case k3 => k_asm); (case k4 => k_asm); (case k5 => k_asm); (case kK => first | exact rfl | assumption); (case kd => first | exact Mine.room_d (by assumption) (by decide) | ktr_room); (case ku => first | exact Mine.room_u (by assumption) (by decide) | ktr_units); intro x9 v9 n9 h9 tk9 I9 F9 N9 l9; (obtain ⟨t91, t92, t93, e9⟩ := Mine.ints3 I9); subst e9; clear I9; (try dsimp only); (try k_fold))))
namespace Mine
theorem c_passover (Y : Int) (t : Tok) (hY1 : -3759 ≤ Y) (hY2 : Y ≤ 50000) (hg : civY (ns (Y + 3760) + 1) = Y) : ConT 18 201 [.int Y t] [civY (ns (Y + 3760) + 1), civM (ns (Y + 3760) + 1), civD (ns (Y + 3760) + 1)] := by
  unfold ConT
  w_top off
  k_fill
  intros
  rename_i hret
  refine wpAny_call ?_
  k_dflt (refine' code_def ?k1 ?k2 ?k3 ?k4 ?k5 ?kA ?kF ?kK ?k6 ?k7 ?k8 ?k9 ?kB ?_ ?c2 ?c3 ?c4 ?c5; (case kA => exact rfl); (case kF => exact rfl); (case kK => assumption); (case k1 => k_asm); (case k2 => k_asm); (case k3 => k_asm); (case k4 => k_asm); (case k5 => k_asm); (case k6 => k_is); (case k7 => k_is); (case k8 => ktr_room); (case k9 => exact binds_K (by k_in) rfl (by k_is) rfl rfl rfl); (case c5 => decide); (case kB => exact locs rfl); (case c2 => exact rfl); (case c3 => exact rfl); (case c4 => exact rfl); k_whole; intro g' L' h' FG' F' N' B' X' T'; (try dsimp only); (try k_fold))
  k_steps
  all_goals (refine endT hret ⟨rfl, rfl, rfl⟩ (by k_asm) (by k_asm) (by assumption))
end Mine
end
/-! W24a -/
section

namespace Mine
/-- the answer is a scalar; the ledger bears what H says -/
def ConW (k : Nat) (f : Addr) (vs : List Value) (H : List (Addr × Obj) → Prop) (R : Tok → Value) : Prop :=
  ∀ (w : World) (p : Program) (loose : List Str) (mean : ExcName → Option Value) (mg mb : Str → Option Value) (news : List (Addr × Obj)) (dp un : Nat) (gd : Option (List Code)) (cn : Str) (cs : Scope) (a : Addr) (ccd : Value) (cl : List (Str × Addr)) (outer : List Env) (A₀ : Around) (base h₀ : Heap) (L : Addr) (m : Str → Option Value) (s : Shared) (Q E : Value → Shared → Prop),
    Below A₀ base outer h₀ → Fr h₀ L s.heap m → (hd.heap_39 w.params).In h₀ → News h₀ L s.heap news → Top p loose mean mg mb h₀ → cs.kind = .function → dp + k < recursionLimit → un + 8 * k < cLine → H news →
    (∀ (t : Tok) (h' : Heap) (tk' : Nat), Fr h₀ L h' m → News h₀ L h' news → Q (R t) { s with heap := h', toks := tk' }) →
      wpAny (model PySem.Challenge.rw_ad5035_01.row.prog w) (ktrTop dp un gd cn cs L a ccd cl outer) (call (.ref f) vs) Q E s
theorem ConW.use {H : List (Addr × Obj) → Prop} {k : Nat} {f : Addr} {vs : List Value} {w : World} {p : Program} {loose : List Str} {mean : ExcName → Option Value} {mg mb : Str → Option Value} {news : List (Addr × Obj)} {dp un : Nat} {gd : Option (List Code)} {cn : Str} {cs : Scope} {a : Addr} {ccd : Value} {cl : List (Str × Addr)} {outer : List Env} {A₀ : Around} {base h₀ : Heap} {L : Addr} {m : Str → Option Value} {s : Shared} {Q E : Value → Shared → Prop}
    {R : Tok → Value} (C : ConW k f vs H R) (B : Below A₀ base outer h₀) (F : Fr h₀ L s.heap m) (X : (hd.heap_39 w.params).In h₀) (N : News h₀ L s.heap news) (T : Top p loose mean mg mb h₀) (hk : cs.kind = .function) (hd : dp + k < recursionLimit) (hu : un + 8 * k < cLine) (hH : H news)
    (ret : ∀ (t : Tok) (h' : Heap) (tk' : Nat), Fr h₀ L h' m → News h₀ L h' news → Q (R t) { s with heap := h', toks := tk' }) :
    wpAny (model PySem.Challenge.rw_ad5035_01.row.prog w) (ktrTop dp un gd cn cs L a ccd cl outer) (call (.ref f) vs) Q E s := C _ _ _ _ _ _ _ _ _ _ _ _ _ _ _ _ _ _ _ _ _ _ _ _ B F X N T hk hd hu hH ret
end Mine
end
/-! W24b -/
section

namespace Mine
theorem nameC_B {M : Model} {A : Around} {E : Value → Shared → Prop} {s : Shared} {K : Frag} {h₀ : Heap} {mg mb : Str → Option Value} {p : Program} {loose : List Str} {x : Str} {pos : Pos} {v : Value} {Q : Value → Shared → Prop} {env : Env}
    (hkeep : ∀ b o, h₀.get? b = some o → s.heap.get? b = some o) (X : K.In h₀) (T : TopRead p loose mg mb h₀) (e : nsIn K mainGlobals x = some none) (hv : bootBuiltins x = some v) (hn : x ≠ "__name__") (h : Q v s)
    (hk : env.scope.kind = .function := by rfl) (hx : env.kindOf x = some .globalImplicit := by rfl) (hd : (x == ("__debug__" : Str)) = false := by decide) (hg : env.globals = mainGlobals := by rfl) (hb : env.builtins = builtinsNs := by rfl) :
    wpAny M A (eval (.Name x pos) env) Q E s :=
  Calls.Name_function_global hk hx (Calls.loadGlobal_builtin (hg ▸ T.g.keeps hkeep) (mg_none_of X T.g e) (hb ▸ T.b.keeps hkeep) ((T.builtins x hn).trans hv) h) hd
theorem srcC_tup {prog : Program} {w : World} {A : Around} {E : Value → Shared → Prop} {s₁ : Shared} {h₀ : Heap} {L : Addr} {m : Str → Option Value} {news : List (Addr × Obj)} {env : Env} {elt : Expr} {x : Str} {ifs : List Expr} {scope : Scope} {Q : Value → Shared → Prop} {l : Addr} {items : Array Value}
    (hh : A.handled = none) (hl : s₁.heap.IsTuple l items) (hsz : items.size ≤ sizeLine) (F : Fr h₀ L s₁.heap m) (N : News h₀ L s₁.heap news)
    (g1 : ∀ C v s₃ m₃ E', v ∈ items.toList → s₃.heap.Ns C m₃ → m₃ x = some v → Fr h₀ L s₃.heap m →
        wpAny (model prog w) A (forIn ifs true fun c r => if r = true then do let ok ← isTrue c (compEnv scope C env) (eval c (compEnv scope C env)); pure (ForInStep.yield ok) else pure (ForInStep.yield r))
          (fun ok s₄ => ok = true ∧ Keeps s₃ s₄) E' s₃)
    (g2 : ∀ C v s₃ m₃ E', v ∈ items.toList → s₃.heap.Ns C m₃ → m₃ x = some v → Fr h₀ L s₃.heap m → wpAny (model prog w) A (eval elt (compEnv scope C env)) (fun _ s₄ => Keeps s₃ s₄) E' s₃)
    (g3 : ∀ D (ys : Array Value) h' tk, Fr h₀ L h' m → News h₀ L h' news → h'.IsList D ys → ys.size = items.size → Q (.ref D) { s₁ with heap := h', toks := tk }) :
    wpAny (model prog w) A (pyIter (.ref l)) (CompPost prog w A env scope x ifs elt Q) E s₁ := by
  have hlt : l < s₁.heap.objs.size := by obtain ⟨_, e, _⟩ := hl; exact Heap.lt_size e
  refine wpAny_pyIter_tuple hl ?_
  have up : ∀ (h' : Heap), (∀ b o', b ∉ [s₁.heap.objs.size] → (s₁.heap.push { cls := .type "tuple_iterator", data := .fields #[.ref l, .int 0 0] }).get? b = some o' → h'.get? b = some o') → ∀ b o', s₁.heap.get? b = some o' → h'.get? b = some o' :=
    fun h' hk b o' e => hk b o' (not_iter_of_old e) (Heap.get?_push_of_some _ e)
  refine ⟨fun _ => true, fun _ _ => True, s₁.heap.objs.size, [s₁.heap.objs.size, l], [s₁.heap.objs.size], items.size, _, _, rfl, Walks.tuple hh _ l (Nat.ne_of_lt hlt) items, hsz,
    ⟨⟨_, Heap.get?_push_size _ rfl, rfl, rfl⟩, hl.at fun o e => Heap.get?_push_of_some _ e⟩, ?_, ⟨?_, ?_⟩, ?_⟩
  · intro b hb
    show b < (s₁.heap.push _).objs.size
    rw [Heap.size_push]
    rcases List.mem_cons.mp hb with rfl | hb
    · exact Nat.lt_succ_self _
    · rw [List.mem_singleton.mp hb]; exact Nat.lt_succ_of_lt hlt
  · intro C i v s₃ m₃ E' hP hn hm hk htk
    exact g1 C v s₃ m₃ E' (List.mem_iff_getElem?.mpr ⟨i, by simpa using hP⟩) hn hm (F.keeps (up _ hk))
  · intro C i v s₃ m₃ E' hP hp hn hm hk htk
    exact wpAny_mono (g2 C v s₃ m₃ E' (List.mem_iff_getElem?.mpr ⟨i, by simpa using hP⟩) hn hm (F.keeps (up _ hk))) (fun r s₄ h₄ => ⟨trivial, h₄⟩) fun _ _ e => e
  · intro D h' tk ys vs' hnew hlD hplD hlen hP hF hk
    refine g3 D ys h' tk (F.keeps (up h' hk)) (N.grown (up h' hk)) hlD ?_
    have : ∀ {l1 l2 : List Value}, Paired (fun _ _ => True) l1 l2 → l2.length = l1.length := by
      intro l1 l2 h
      induction h with
      | nil => rfl
      | cons _ _ ih => simp [ih]
    have h2 := this hF
    rw [List.filter_eq_self.mpr (fun _ _ => rfl), hlen] at h2
    simpa using h2
theorem tup_of {h₀ h : Heap} {L : Addr} {news : List (Addr × Obj)} {x : Addr} {items : Array Value} {n : Nat} (N : News h₀ L h news) (hm : (x, ({ cls := .type "tuple", data := .seq items n } : Obj)) ∈ news) : h.IsTuple x items := ⟨_, (N _ hm).1, rfl, n, rfl⟩
theorem ints_mem {v : Value} {a b c : Int} {t1 t2 t3 : Tok} (h : v ∈ (#[.int a t1, .int b t2, .int c t3] : Array Value).toList) : ∃ i t, v = .int i t := by
  simp only [List.mem_cons, List.not_mem_nil, or_false] at h
  rcases h with h | h | h
  · exact ⟨_, _, h⟩
  · exact ⟨_, _, h⟩
  · exact ⟨_, _, h⟩
theorem len_three {prog : Program} {w : World} {A : Around} {E : Value → Shared → Prop} {s : Shared} {l : Addr} {ys : Array Value} {a b c : Value} {Q : Value → Shared → Prop} (hl : s.heap.IsList l ys) (hz : ys.size = (#[a, b, c] : Array Value).size)
    (h : Q (.int 3 (s.toks + 1)) { s with toks := s.toks + 1 + 1 }) : wpAny (model prog w) A (call (.builtin "len") [.ref l]) Q E s := by
  have e : ys.size = 3 := hz
  exact len_list hl (by rw [e]; decide) (by rw [e]; exact h)
theorem nameC_L {M : Model} {A : Around} {E : Value → Shared → Prop} {s : Shared} {x : Str} {pos : Pos} {v : Value} {Q : Value → Shared → Prop} {env : Env} {scope : Scope} {C : Addr} {m : Str → Option Value}
    (hn : s.heap.Ns C m) (hv : m x = some v) (h : Q v s) (hk : (compEnv scope C env).scope.kind = .function := by rfl) (hx : (compEnv scope C env).kindOf x = some .local := by rfl) (hd : (x == ("__debug__" : Str)) = false := by decide) :
    wpAny M A (eval (.Name x pos) (compEnv scope C env)) Q E s := wpAny_Name (wpAny_loadName_local hk hx hn hv h) hd
end Mine
end
/-! W24 -/
section
local macro_rules | `(tactic| walk_at "pad 17") => `(tactic| skip)
local macro_rules | `(tactic| walk_at "pad 17") => `(tactic| skip)
local macro_rules | `(tactic| walk_at "pad 17") => `(tactic| skip)
local macro_rules | `(tactic| walk_at "pad 17") => `(tactic| skip)
local macro_rules | `(tactic| walk_at "pad 17") => `(tactic| skip)
local macro_rules | `(tactic| walk_at "pad 17") => `(tactic| skip)
local macro_rules | `(tactic| walk_at "pad 17") => `(tactic| skip)
local macro_rules | `(tactic| walk_at "pad 17") => `(tactic| skip)
local macro_rules | `(tactic| walk_at "pad 17") => `(tactic| skip)
local macro_rules | `(tactic| walk_at "pad 17") => `(tactic| skip)
local macro_rules | `(tactic| walk_at "pad 17") => `(tactic| skip)
local macro_rules | `(tactic| walk_at "pad 17") => `(tactic| skip)
local macro_rules | `(tactic| walk_at "pad 17") => `(tactic| skip)
local macro_rules | `(tactic| walk_at "pad 17") => `(tactic| skip)
local macro_rules | `(tactic| walk_at "pad 17") => `(tactic| skip)
local macro_rules | `(tactic| walk_at "pad 17") => `(tactic| skip)
local macro_rules | `(tactic| walk_at "pad 17") => `(tactic| skip)
local macro_rules | `(tactic| walk_at "pad 17") => `(tactic| skip)
local macro_rules | `(tactic| walk_at "pad 17") => `(tactic| skip)
local macro_rules | `(tactic| walk_at "pad 17") => `(tactic| skip)
local macro_rules | `(tactic| walk_at "pad 17") => `(tactic| skip)
local macro_rules | `(tactic| walk_at "pad 17") => `(tactic| skip)
local macro_rules | `(tactic| walk_at "pad 17") => `(tactic| skip)
local macro_rules | `(tactic| walk_at "pad 17") => `(tactic| skip)
local macro_rules | `(tactic| walk_at "pad 17") => `(tactic| skip)
local macro_rules | `(tactic| walk_at "pad 17") => `(tactic| skip)
local macro_rules | `(tactic| walk_at "pad 17") => `(tactic| skip)
local macro_rules | `(tactic| walk_at "pyIter ref") => `(tactic| (k_here; k_dflt (refine' Mine.srcC_tup ?a ?l ?z ?F ?N ?g1 ?g2 ?g3; (case a => with_unfolding_all exact rfl); (case l => exact Mine.tup_of (by k_asm) (by assumption)); (case z => exact Nat.le_of_ble_eq_true rfl); (case F => k_asm); (case N => k_asm); (case' g1 => (intro C9 v9 s9 m9 E9 hv9 hn9 hm9 F9; obtain ⟨i9, t9, e9⟩ := Mine.ints_mem hv9; subst e9)); (case' g2 => (intro C9 v9 s9 m9 E9 hv9 hn9 hm9 F9; obtain ⟨i9, t9, e9⟩ := Mine.ints_mem hv9; subst e9)); (case' g3 => intro D9 ys9 h9 tk9 F9 N9 hl9 hz9))))
local macro_rules | `(tactic| walk_at "eval Name") => `(tactic| (k_here; (with_reducible show wpAny _ _ (eval (Expr.Name _ _) (compEnv _ _ _)) _ _ _); k_dflt (first | (refine' Mine.nameC_L ?n ?v ?_; (case n => assumption); (case v => assumption)) | (refine' Mine.nameC_B ?k ?X ?T ?e ?v ?n ?_; (case k => exact Fr.keep (by k_asm)); (case X => k_asm); (case T => k_asm); (case e => k_is); (case v => boot_fast); (case n => decide)))))
local macro_rules | `(tactic| walk_at "call builtin:len") => `(tactic| ((with_reducible show wpAny _ _ (call (Value.builtin "len") [Value.ref _]) _ _ _); k_dflt (refine' Mine.len_three ?l ?z ?_; (case l => assumption); (case z => assumption)); (try dsimp only)))
local macro_rules | `(tactic| walk_at "Keeps") => `(tactic| exact ⟨_, _, rfl, fun _ _ h => h⟩)
namespace Mine
theorem c_plain (x : Addr) (a b c : Int) (t1 t2 t3 : Tok) (n : Nat) : ConW 3 237 [.ref x] (fun news => (x, ({ cls := .type "tuple", data := .seq #[.int a t1, .int b t2, .int c t3] n } : Obj)) ∈ news) (fun _ => .bool true) := by
  unfold ConW
  w_top off
  k_fill
  intros
  rename_i hmem hret
  dsimp only at hret hmem
  refine wpAny_call ?_
  k_dflt cell_enter
  k_steps
  all_goals (refine endB hret rfl (by k_asm) (by k_asm))
end Mine
end
/-! W18 -/
section

namespace Mine
theorem fd_eq (a : Int) : a.fdiv 492480 = a / 492480 := Int.fdiv_eq_ediv_of_nonneg _ (by decide)
theorem fm_eq (a : Int) : a.fmod 492480 = a % 492480 := Int.fmod_eq_emod_of_nonneg _ (by decide)
theorem c_march (a : Int) (t : Tok) : ConS 1 218 [.int a t] (fun t => .int (march a) t) := by
  unfold ConS
  w_top off
  k_fill
  intros
  rename_i hret
  dsimp only at hret
  refine wpAny_call ?_
  k_dflt cell_enter
  k_steps
  all_goals (refine endI hret ?_ (by k_asm) (by first | k_asm | exact cb_drop (by k_asm) (fun p hp => List.Mem.tail _ hp) | exact cb_drop (by k_asm) (fun p hp => List.Mem.tail _ (List.Mem.tail _ hp)) | exact cb_drop (by k_asm) (fun p hp => List.Mem.tail _ (List.Mem.tail _ (List.Mem.tail _ hp)))))
  all_goals (simp only [fd_eq, fm_eq, List.any_cons, List.any_nil, Bool.or_false, Bool.or_eq_true, Bool.or_eq_false_iff, beq_iff_eq, beq_eq_false_iff_ne] at *)
  all_goals (unfold march marchW marchN)
  all_goals (repeat' split)
  all_goals first
    | rfl
    | (exfalso; omega)
end Mine
end
/-! W18b -/
section

namespace Mine
theorem c_sunday (y : Int) (t : Tok) : ConS 1 225 [.int y t] (fun t => .int (sund y) t) := by
  unfold ConS
  w_top off
  k_fill
  intros
  rename_i hret
  dsimp only at hret
  refine wpAny_call ?_
  k_dflt cell_enter
  k_steps
  all_goals (refine endI hret rfl (by k_asm) (by k_asm))
theorem c_noon (n : Int) (t : Tok) (h1 : 0 ≤ n) (h2 : n ≤ 90000000000) : ConS 1 244 [.float (hf n) t] (fun t => .int (n + 1) t) := by
  unfold ConS
  w_top off
  k_fill
  intros
  rename_i hret
  dsimp only at hret
  refine wpAny_call ?_
  k_dflt cell_enter
  k_steps
  all_goals (refine endI hret ?_ (by k_asm) (by k_asm))
  all_goals omega
end Mine
end
/-! W20a -/
section

namespace Mine
section
variable {prog : Program} {w : World} {A : Around} {E : Value → Shared → Prop} {s : Shared} {t u : Tok} {Q : Value → Shared → Prop} {n : Int}
theorem r_civ0 {h₀ : Heap} {L : Addr} {m : Str → Option Value} {news : List (Addr × Obj)} (F : Fr h₀ L s.heap m) (N : News h₀ L s.heap news)
    (h : ∀ h', Fr h₀ L h' m → News h₀ L h' ((s.heap.objs.size, { cls := .type "tuple", data := .seq #[.int (cR n) s.toks, .int (cL0 n) (s.toks + 1)] }) :: news) →
      Q (.ref s.heap.objs.size) { s with toks := s.toks + 1 + 1, heap := h' }) : wpAny (model prog w) A (call (.builtin "divmod") [.int (n - 1721120) t, .int 146097 u]) Q E s :=
  divmod_N F N (by decide) (by rw [fold0, fold1]; exact h) (Or.inl (PyProof.noPylong_small (by decide)))
theorem r_civ1 (h : Q (.int (cL1 n) s.toks) { s with toks := s.toks + 1 }) : wpAny (model prog w) A (inplaceOp .Sub (.int (cL0 n) t) (.int (36524 * if 3 < cL0 n / 36524 then 3 else cL0 n / 36524) u)) Q E s :=
  PyProof.Rows.isub_int (by rw [fold2, fold3]; exact h)
theorem r_civ2 (h : Q (.int (cL2 n) s.toks) { s with toks := s.toks + 1 }) : wpAny (model prog w) A (inplaceOp .Sub (.int (cL1 n) t) (.int (1461 * (cL1 n / 1461)) u)) Q E s :=
  PyProof.Rows.isub_int (by rw [fold4, fold5]; exact h)
theorem r_civ3 (h : Q (.int (cL n) s.toks) { s with toks := s.toks + 1 }) : wpAny (model prog w) A (inplaceOp .Sub (.int (cL2 n) t) (.int (365 * if 3 < cL2 n / 365 then 3 else cL2 n / 365) u)) Q E s :=
  PyProof.Rows.isub_int (by rw [fold6, fold7]; exact h)
end
theorem allLt_mem {d : Addr} : ∀ {l : List (Addr × Obj)}, AllLt d l → ∀ p ∈ l, p.1 < d
  | [], _, _, h => nomatch h
  | q :: r, h, p, hp => by
    rcases List.mem_cons.mp hp with rfl | hp
    · exact h.1
    · exact allLt_mem h.2 p hp
theorem endTs {h₀ h' : Heap} {L : Addr} {m : Str → Option Value} {news r : List (Addr × Obj)} {s : Shared} {Q : Value → Shared → Prop} {tk' : Nat} {a b c a' b' c' : Int} {t1 t2 t3 : Tok} {n : Nat} {x : Addr}
    (hret : ∀ (x : Addr) (vs : List Value) (n : Nat) (h' : Heap) (tk' : Nat), IntsAre vs [a', b', c'] → Fr h₀ L h' m → News h₀ L h' ((x, tupO vs n) :: news) → (∀ p ∈ news, p.1 < x) → Q (.ref x) { s with heap := h', toks := tk' })
    (N : News h₀ L h' ((x, { cls := .type "tuple", data := .seq #[.int a t1, .int b t2, .int c t3] n }) :: r)) (l : AllLt x r) (hs : ∀ p ∈ news, p ∈ r) (F : Fr h₀ L h' m) (e : a = a' ∧ b = b' ∧ c = c') : Q (.ref x) { s with heap := h', toks := tk' } := by
  refine endT (t1 := t1) (t2 := t2) (t3 := t3) (n := n) hret e F (fun p hp => ?_) (fun p hp => allLt_mem l _ (hs p hp))
  rcases List.mem_cons.mp hp with rfl | hp
  · exact N _ (List.Mem.head _)
  · exact N _ (List.Mem.tail _ (hs p hp))
end Mine
end
/-! W20 -/
section
local macro_rules | `(tactic| walk_at "pad 21") => `(tactic| skip)
local macro_rules | `(tactic| walk_at "pad 21") => `(tactic| skip)
local macro_rules | `(tactic| walk_at "pad 21") => `(tactic| skip)
local macro_rules | `(tactic| walk_at "pad 21") => `(tactic| skip)
local macro_rules | `(tactic| walk_at "pad 21") => `(tactic| skip)
local macro_rules | `(tactic| walk_at "pad 21") => `(tactic| skip)
local macro_rules | `(tactic| walk_at "pad 21") => `(tactic| skip)
local macro_rules | `(tactic| walk_at "pad 21") => `(tactic| skip)
local macro_rules | `(tactic| walk_at "pad 21") => `(tactic| skip)
local macro_rules | `(tactic| walk_at "pad 21") => `(tactic| skip)
local macro_rules | `(tactic| walk_at "pad 21") => `(tactic| skip)
local macro_rules | `(tactic| walk_at "pad 21") => `(tactic| skip)
local macro_rules | `(tactic| walk_at "pad 21") => `(tactic| skip)
local macro_rules | `(tactic| walk_at "pad 21") => `(tactic| skip)
local macro_rules | `(tactic| walk_at "pad 21") => `(tactic| skip)
local macro_rules | `(tactic| walk_at "pad 21") => `(tactic| skip)
local macro_rules | `(tactic| walk_at "pad 21") => `(tactic| skip)
local macro_rules | `(tactic| walk_at "pad 21") => `(tactic| skip)
local macro_rules | `(tactic| walk_at "pad 21") => `(tactic| skip)
local macro_rules | `(tactic| walk_at "pad 21") => `(tactic| skip)
local macro_rules | `(tactic| walk_at "pad 21") => `(tactic| skip)
local macro_rules | `(tactic| walk_at "pad 21") => `(tactic| skip)
local macro_rules | `(tactic| walk_at "pad 21") => `(tactic| skip)
local macro_rules | `(tactic| walk_at "pad 21") => `(tactic| skip)
local macro_rules | `(tactic| walk_at "pad 21") => `(tactic| skip)
local macro_rules | `(tactic| walk_at "pad 21") => `(tactic| skip)
local macro_rules | `(tactic| walk_at "pad 21") => `(tactic| skip)
local macro_rules | `(tactic| walk_at "pad 21") => `(tactic| skip)
local macro_rules | `(tactic| walk_at "pad 21") => `(tactic| skip)
local macro_rules | `(tactic| walk_at "pad 21") => `(tactic| skip)
local macro_rules | `(tactic| walk_at "pad 21") => `(tactic| skip)
local macro_rules | `(tactic| walk_at "pad 21") => `(tactic| skip)
local macro_rules | `(tactic| walk_at "pad 21") => `(tactic| skip)
local macro_rules | `(tactic| walk_at "call builtin:divmod") => `(tactic| (k_here; (with_reducible refine' Mine.r_civ0 ?F ?N ?_; (case F => k_asm); (case N => k_asm)); intro _ _ _))
local macro_rules | `(tactic| walk_at "inplaceOp Sub int int") => `(tactic| (first | with_reducible refine Mine.r_civ1 ?_ | with_reducible refine Mine.r_civ2 ?_ | with_reducible refine Mine.r_civ3 ?_))
namespace Mine
theorem c_civil (n : Int) (t : Tok) : ConT 1 232 [.int n t] [civY n, civM n, civD n] := by
  have hb := cL_bd n
  unfold ConT
  w_top off
  k_fill
  intros
  rename_i hret
  refine wpAny_call ?_
  k_dflt cell_enter
  k_steps
  all_goals (refine endTs hret (by k_asm) (by assumption) (by first | exact fun p hp => List.mem_append_right _ (List.Mem.tail _ (List.Mem.tail _ hp)) | exact fun p hp => List.Mem.tail _ (List.Mem.tail _ hp)) (by k_asm) ?_)
  all_goals (simp only [fold2, fold4, fold6, fold8])
  all_goals (refine civ_end ?_)
  all_goals omega
end Mine
end
/-! W21 -/
section
local macro_rules | `(tactic| walk_at "pad 22") => `(tactic| skip)
local macro_rules | `(tactic| walk_at "pad 22") => `(tactic| skip)
local macro_rules | `(tactic| walk_at "pad 22") => `(tactic| skip)
local macro_rules | `(tactic| walk_at "pad 22") => `(tactic| skip)
local macro_rules | `(tactic| walk_at "pad 22") => `(tactic| skip)
local macro_rules | `(tactic| walk_at "pad 22") => `(tactic| skip)
local macro_rules | `(tactic| walk_at "pad 22") => `(tactic| skip)
local macro_rules | `(tactic| walk_at "pad 22") => `(tactic| skip)
local macro_rules | `(tactic| walk_at "pad 22") => `(tactic| skip)
local macro_rules | `(tactic| walk_at "pad 22") => `(tactic| skip)
local macro_rules | `(tactic| walk_at "pad 22") => `(tactic| skip)
local macro_rules | `(tactic| walk_at "pad 22") => `(tactic| skip)
local macro_rules | `(tactic| walk_at "pad 22") => `(tactic| skip)
local macro_rules | `(tactic| walk_at "pad 22") => `(tactic| skip)
local macro_rules | `(tactic| walk_at "pad 22") => `(tactic| skip)
local macro_rules | `(tactic| walk_at "pad 22") => `(tactic| skip)
local macro_rules | `(tactic| walk_at "pad 22") => `(tactic| skip)
local macro_rules | `(tactic| walk_at "pad 22") => `(tactic| skip)
local macro_rules | `(tactic| walk_at "pad 22") => `(tactic| skip)
local macro_rules | `(tactic| walk_at "pad 22") => `(tactic| skip)
local macro_rules | `(tactic| walk_at "pad 22") => `(tactic| skip)
local macro_rules | `(tactic| walk_at "pad 22") => `(tactic| skip)
local macro_rules | `(tactic| walk_at "pad 22") => `(tactic| skip)
local macro_rules | `(tactic| walk_at "pad 22") => `(tactic| skip)
local macro_rules | `(tactic| walk_at "pad 22") => `(tactic| skip)
local macro_rules | `(tactic| walk_at "pad 22") => `(tactic| skip)
local macro_rules | `(tactic| walk_at "pad 22") => `(tactic| skip)
local macro_rules | `(tactic| walk_at "pad 22") => `(tactic| skip)
local macro_rules | `(tactic| walk_at "pad 22") => `(tactic| skip)
local macro_rules | `(tactic| walk_at "pad 22") => `(tactic| skip)
local macro_rules | `(tactic| walk_at "pad 22") => `(tactic| skip)
local macro_rules | `(tactic| walk_at "pad 22") => `(tactic| skip)
local macro_rules | `(tactic| walk_at "pad 22") => `(tactic| skip)
local macro_rules | `(tactic| walk_at "pad 22") => `(tactic| skip)
local macro_rules | `(tactic| walk_at "pad 22") => `(tactic| skip)
local macro_rules | `(tactic| walk_at "call ref") => `(tactic| (k_here; k_dflt (refine' Mine.ConS.use (Mine.c_to_jd_g _ _ _ _ _ _ ?p0 ?p1 ?p2 ?p3 ?p4 ?p5) ?k1 ?k2 ?k3 ?k4 ?k5 ?kK ?kd ?ku ?_; (case p0 => first | assumption | omega); (case p1 => first | assumption | omega); (case p2 => first | assumption | omega); (case p3 => first | assumption | omega); (case p4 => first | assumption | omega); (case p5 => first | assumption | omega); (case k1 => k_asm); (case k2 => k_asm); (case k3 => k_asm); (case k4 => k_asm); (case k5 => k_asm); (case kK => first | exact rfl | assumption); (case kd => first | exact Mine.room_d (by assumption) (by decide) | ktr_room); (case ku => first | exact Mine.room_u (by assumption) (by decide) | ktr_units); intro t9 h9 tk9 F9 N9; (try dsimp only); (try k_fold))))
namespace Mine
theorem c_from_g (y m d : Int) (t u v : Tok) (hy1 : -10000 ≤ y) (hy2 : y ≤ 200000000) (hm1 : 1 ≤ m) (hm2 : m ≤ 12) (h1 : 1 ≤ d) (h2 : d ≤ dimG y m) : ConS 6 208 [.int y t, .int m u, .int d v] (fun t => .float (hf (gjd y m d)) t) := by
  unfold ConS
  w_top off
  k_fill
  intros
  rename_i hret
  dsimp only at hret
  refine wpAny_call ?_
  k_dflt cell_enter
  k_steps
  all_goals (refine endF hret rfl (by k_asm) (by k_asm))
end Mine
end
/-! W14 -/
section

namespace Mine
theorem c_leap_j (y : Int) (t : Tok) : ConS 1 142 [.int y t] (fun _ => .bool (decide (y % 4 = 0))) := by
  unfold ConS
  w_top off
  k_fill
  intros
  rename_i hret
  dsimp only at hret
  refine wpAny_call ?_
  k_dflt cell_enter
  k_steps
  all_goals (refine endB hret ?_ (by k_asm) (by k_asm))
  all_goals rfl
end Mine
end
/-! W15 -/
section
local macro_rules | `(tactic| walk_at "pad 24") => `(tactic| skip)
local macro_rules | `(tactic| walk_at "pad 24") => `(tactic| skip)
local macro_rules | `(tactic| walk_at "pad 24") => `(tactic| skip)
local macro_rules | `(tactic| walk_at "pad 24") => `(tactic| skip)
local macro_rules | `(tactic| walk_at "pad 24") => `(tactic| skip)
local macro_rules | `(tactic| walk_at "pad 24") => `(tactic| skip)
local macro_rules | `(tactic| walk_at "pad 24") => `(tactic| skip)
local macro_rules | `(tactic| walk_at "pad 24") => `(tactic| skip)
local macro_rules | `(tactic| walk_at "pad 24") => `(tactic| skip)
local macro_rules | `(tactic| walk_at "pad 24") => `(tactic| skip)
local macro_rules | `(tactic| walk_at "pad 24") => `(tactic| skip)
local macro_rules | `(tactic| walk_at "pad 24") => `(tactic| skip)
local macro_rules | `(tactic| walk_at "pad 24") => `(tactic| skip)
local macro_rules | `(tactic| walk_at "pad 24") => `(tactic| skip)
local macro_rules | `(tactic| walk_at "pad 24") => `(tactic| skip)
local macro_rules | `(tactic| walk_at "pad 24") => `(tactic| skip)
local macro_rules | `(tactic| walk_at "pad 24") => `(tactic| skip)
local macro_rules | `(tactic| walk_at "pad 24") => `(tactic| skip)
local macro_rules | `(tactic| walk_at "pad 24") => `(tactic| skip)
local macro_rules | `(tactic| walk_at "pad 24") => `(tactic| skip)
local macro_rules | `(tactic| walk_at "pad 24") => `(tactic| skip)
local macro_rules | `(tactic| walk_at "pad 24") => `(tactic| skip)
local macro_rules | `(tactic| walk_at "pad 24") => `(tactic| skip)
local macro_rules | `(tactic| walk_at "pad 24") => `(tactic| skip)
local macro_rules | `(tactic| walk_at "pad 24") => `(tactic| skip)
local macro_rules | `(tactic| walk_at "pad 24") => `(tactic| skip)
local macro_rules | `(tactic| walk_at "pad 24") => `(tactic| skip)
local macro_rules | `(tactic| walk_at "pad 24") => `(tactic| skip)
local macro_rules | `(tactic| walk_at "pad 24") => `(tactic| skip)
local macro_rules | `(tactic| walk_at "pad 24") => `(tactic| skip)
local macro_rules | `(tactic| walk_at "pad 24") => `(tactic| skip)
local macro_rules | `(tactic| walk_at "pad 24") => `(tactic| skip)
local macro_rules | `(tactic| walk_at "pad 24") => `(tactic| skip)
local macro_rules | `(tactic| walk_at "pad 24") => `(tactic| skip)
local macro_rules | `(tactic| walk_at "pad 24") => `(tactic| skip)
local macro_rules | `(tactic| walk_at "pad 24") => `(tactic| skip)
local macro_rules | `(tactic| walk_at "pad 24") => `(tactic| skip)
local macro_rules | `(tactic| walk_at "call ref") => `(tactic| (k_here; k_dflt (refine' Mine.ConS.use (Mine.c_leap_j _ _) ?k1 ?k2 ?k3 ?k4 ?k5 ?kK ?kd ?ku ?_; (case k1 => k_asm); (case k2 => k_asm); (case k3 => k_asm); (case k4 => k_asm); (case k5 => k_asm); (case kK => first | exact rfl | assumption); (case kd => first | exact Mine.room_d (by assumption) (by decide) | ktr_room); (case ku => first | exact Mine.room_u (by assumption) (by decide) | ktr_units); intro t9 h9 tk9 F9 N9; (try dsimp only); (try k_fold))))
namespace Mine
theorem c_mlen_j (y m : Int) (t u : Tok) (hm : m = 3 ∨ m = 4) : ConS 3 149 [.int y t, .int m u] (fun t => .int (34 - m) t) := by
  unfold ConS
  w_top off
  k_fill
  intros
  rename_i hret
  dsimp only at hret
  refine wpAny_call ?_
  k_dflt cell_enter
  k_steps
  · exfalso; omega
  · exfalso; omega
  · refine endI hret ?_ (by k_asm) (by k_asm)
    rename m ∈ _ => hM; rw [mMem] at hM; omega
  · refine endI hret ?_ (by k_asm) (by k_asm)
    rename ¬ m ∈ _ => hM; rw [mMem] at hM; omega
end Mine
end
/-! W16 -/
section
local macro_rules | `(tactic| walk_at "pad 25") => `(tactic| skip)
local macro_rules | `(tactic| walk_at "pad 25") => `(tactic| skip)
local macro_rules | `(tactic| walk_at "pad 25") => `(tactic| skip)
local macro_rules | `(tactic| walk_at "pad 25") => `(tactic| skip)
local macro_rules | `(tactic| walk_at "pad 25") => `(tactic| skip)
local macro_rules | `(tactic| walk_at "pad 25") => `(tactic| skip)
local macro_rules | `(tactic| walk_at "pad 25") => `(tactic| skip)
local macro_rules | `(tactic| walk_at "pad 25") => `(tactic| skip)
local macro_rules | `(tactic| walk_at "pad 25") => `(tactic| skip)
local macro_rules | `(tactic| walk_at "pad 25") => `(tactic| skip)
local macro_rules | `(tactic| walk_at "pad 25") => `(tactic| skip)
local macro_rules | `(tactic| walk_at "pad 25") => `(tactic| skip)
local macro_rules | `(tactic| walk_at "pad 25") => `(tactic| skip)
local macro_rules | `(tactic| walk_at "pad 25") => `(tactic| skip)
local macro_rules | `(tactic| walk_at "pad 25") => `(tactic| skip)
local macro_rules | `(tactic| walk_at "pad 25") => `(tactic| skip)
local macro_rules | `(tactic| walk_at "pad 25") => `(tactic| skip)
local macro_rules | `(tactic| walk_at "pad 25") => `(tactic| skip)
local macro_rules | `(tactic| walk_at "pad 25") => `(tactic| skip)
local macro_rules | `(tactic| walk_at "pad 25") => `(tactic| skip)
local macro_rules | `(tactic| walk_at "pad 25") => `(tactic| skip)
local macro_rules | `(tactic| walk_at "pad 25") => `(tactic| skip)
local macro_rules | `(tactic| walk_at "pad 25") => `(tactic| skip)
local macro_rules | `(tactic| walk_at "pad 25") => `(tactic| skip)
local macro_rules | `(tactic| walk_at "pad 25") => `(tactic| skip)
local macro_rules | `(tactic| walk_at "pad 25") => `(tactic| skip)
local macro_rules | `(tactic| walk_at "pad 25") => `(tactic| skip)
local macro_rules | `(tactic| walk_at "pad 25") => `(tactic| skip)
local macro_rules | `(tactic| walk_at "pad 25") => `(tactic| skip)
local macro_rules | `(tactic| walk_at "pad 25") => `(tactic| skip)
local macro_rules | `(tactic| walk_at "pad 25") => `(tactic| skip)
local macro_rules | `(tactic| walk_at "pad 25") => `(tactic| skip)
local macro_rules | `(tactic| walk_at "pad 25") => `(tactic| skip)
local macro_rules | `(tactic| walk_at "pad 25") => `(tactic| skip)
local macro_rules | `(tactic| walk_at "pad 25") => `(tactic| skip)
local macro_rules | `(tactic| walk_at "pad 25") => `(tactic| skip)
local macro_rules | `(tactic| walk_at "pad 25") => `(tactic| skip)
local macro_rules | `(tactic| walk_at "call ref") => `(tactic| (k_here; k_dflt (refine' Mine.ConS.use (Mine.c_mlen_j _ _ _ _ ?p0) ?k1 ?k2 ?k3 ?k4 ?k5 ?kK ?kd ?ku ?_; (case p0 => first | assumption | omega); (case k1 => k_asm); (case k2 => k_asm); (case k3 => k_asm); (case k4 => k_asm); (case k5 => k_asm); (case kK => first | exact rfl | assumption); (case kd => first | exact Mine.room_d (by assumption) (by decide) | ktr_room); (case ku => first | exact Mine.room_u (by assumption) (by decide) | ktr_units); intro t9 h9 tk9 F9 N9; (try dsimp only); (try k_fold))))
local macro_rules | `(tactic| walk_at "exec Raise some none") => `(tactic| (exfalso; omega))
namespace Mine
theorem c_legal_j (y m d : Int) (t u v : Tok) (hm : m = 3 ∨ m = 4) (h1 : 1 ≤ d) (h2 : d ≤ 34 - m) : ConS 5 156 [.int y t, .int m u, .int d v] (fun _ => .bool true) := by
  unfold ConS
  w_top off
  k_fill
  intros
  rename_i hret
  dsimp only at hret
  refine wpAny_call ?_
  k_dflt cell_enter
  k_steps
  all_goals (refine endB hret rfl (by k_asm) (by k_asm))
end Mine
end
/-! W17 -/
section
local macro_rules | `(tactic| walk_at "pad 26") => `(tactic| skip)
local macro_rules | `(tactic| walk_at "pad 26") => `(tactic| skip)
local macro_rules | `(tactic| walk_at "pad 26") => `(tactic| skip)
local macro_rules | `(tactic| walk_at "pad 26") => `(tactic| skip)
local macro_rules | `(tactic| walk_at "pad 26") => `(tactic| skip)
local macro_rules | `(tactic| walk_at "pad 26") => `(tactic| skip)
local macro_rules | `(tactic| walk_at "pad 26") => `(tactic| skip)
local macro_rules | `(tactic| walk_at "pad 26") => `(tactic| skip)
local macro_rules | `(tactic| walk_at "pad 26") => `(tactic| skip)
local macro_rules | `(tactic| walk_at "pad 26") => `(tactic| skip)
local macro_rules | `(tactic| walk_at "pad 26") => `(tactic| skip)
local macro_rules | `(tactic| walk_at "pad 26") => `(tactic| skip)
local macro_rules | `(tactic| walk_at "pad 26") => `(tactic| skip)
local macro_rules | `(tactic| walk_at "pad 26") => `(tactic| skip)
local macro_rules | `(tactic| walk_at "pad 26") => `(tactic| skip)
local macro_rules | `(tactic| walk_at "pad 26") => `(tactic| skip)
local macro_rules | `(tactic| walk_at "pad 26") => `(tactic| skip)
local macro_rules | `(tactic| walk_at "pad 26") => `(tactic| skip)
local macro_rules | `(tactic| walk_at "pad 26") => `(tactic| skip)
local macro_rules | `(tactic| walk_at "pad 26") => `(tactic| skip)
local macro_rules | `(tactic| walk_at "pad 26") => `(tactic| skip)
local macro_rules | `(tactic| walk_at "pad 26") => `(tactic| skip)
local macro_rules | `(tactic| walk_at "pad 26") => `(tactic| skip)
local macro_rules | `(tactic| walk_at "pad 26") => `(tactic| skip)
local macro_rules | `(tactic| walk_at "pad 26") => `(tactic| skip)
local macro_rules | `(tactic| walk_at "pad 26") => `(tactic| skip)
local macro_rules | `(tactic| walk_at "pad 26") => `(tactic| skip)
local macro_rules | `(tactic| walk_at "pad 26") => `(tactic| skip)
local macro_rules | `(tactic| walk_at "pad 26") => `(tactic| skip)
local macro_rules | `(tactic| walk_at "pad 26") => `(tactic| skip)
local macro_rules | `(tactic| walk_at "pad 26") => `(tactic| skip)
local macro_rules | `(tactic| walk_at "pad 26") => `(tactic| skip)
local macro_rules | `(tactic| walk_at "pad 26") => `(tactic| skip)
local macro_rules | `(tactic| walk_at "pad 26") => `(tactic| skip)
local macro_rules | `(tactic| walk_at "pad 26") => `(tactic| skip)
local macro_rules | `(tactic| walk_at "pad 26") => `(tactic| skip)
local macro_rules | `(tactic| walk_at "pad 26") => `(tactic| skip)
local macro_rules | `(tactic| walk_at "pad 26") => `(tactic| skip)
local macro_rules | `(tactic| walk_at "pad 26") => `(tactic| skip)
local macro_rules | `(tactic| walk_at "call ref") => `(tactic| (k_here; k_dflt (refine' Mine.ConS.use (Mine.c_legal_j _ _ _ _ _ _ ?p0 ?p1 ?p2) ?k1 ?k2 ?k3 ?k4 ?k5 ?kK ?kd ?ku ?_; (case p0 => first | assumption | omega); (case p1 => first | assumption | omega); (case p2 => first | assumption | omega); (case k1 => k_asm); (case k2 => k_asm); (case k3 => k_asm); (case k4 => k_asm); (case k5 => k_asm); (case kK => first | exact rfl | assumption); (case kd => first | exact Mine.room_d (by assumption) (by decide) | ktr_room); (case ku => first | exact Mine.room_u (by assumption) (by decide) | ktr_units); intro t9 h9 tk9 F9 N9; (try dsimp only); (try k_fold))))
namespace Mine
theorem c_to_jd_j (y m d : Int) (t u v : Tok) (hy1 : -3800 ≤ y) (hy2 : y ≤ 110000000) (hm : m = 3 ∨ m = 4) (h1 : 1 ≤ d) (h2 : d ≤ 34 - m) : ConS 7 163 [.int y t, .int m u, .int d v] (fun t => .float (hf (jjd y m d)) t) := by
  unfold ConS
  w_top off
  k_fill
  intros
  rename_i hret
  dsimp only at hret
  refine wpAny_call ?_
  k_dflt cell_enter
  k_steps
  all_goals (refine endF hret rfl (by k_asm) (by k_asm))
theorem f_to_jd_j {y m d : Int} (hy1 : -3800 ≤ y) (hy2 : y ≤ 110000000) (hm : m = 3 ∨ m = 4) (h1 : 1 ≤ d) (h2 : d ≤ 34 - m) : 300000 ≤ jjd y m d ∧ jjd y m d ≤ 70000000000 := by
  unfold jjd; omega
end Mine
end
/-! W22 -/
section
local macro_rules | `(tactic| walk_at "pad 27") => `(tactic| skip)
local macro_rules | `(tactic| walk_at "pad 27") => `(tactic| skip)
local macro_rules | `(tactic| walk_at "pad 27") => `(tactic| skip)
local macro_rules | `(tactic| walk_at "pad 27") => `(tactic| skip)
local macro_rules | `(tactic| walk_at "pad 27") => `(tactic| skip)
local macro_rules | `(tactic| walk_at "pad 27") => `(tactic| skip)
local macro_rules | `(tactic| walk_at "pad 27") => `(tactic| skip)
local macro_rules | `(tactic| walk_at "pad 27") => `(tactic| skip)
local macro_rules | `(tactic| walk_at "pad 27") => `(tactic| skip)
local macro_rules | `(tactic| walk_at "pad 27") => `(tactic| skip)
local macro_rules | `(tactic| walk_at "pad 27") => `(tactic| skip)
local macro_rules | `(tactic| walk_at "pad 27") => `(tactic| skip)
local macro_rules | `(tactic| walk_at "pad 27") => `(tactic| skip)
local macro_rules | `(tactic| walk_at "pad 27") => `(tactic| skip)
local macro_rules | `(tactic| walk_at "pad 27") => `(tactic| skip)
local macro_rules | `(tactic| walk_at "pad 27") => `(tactic| skip)
local macro_rules | `(tactic| walk_at "pad 27") => `(tactic| skip)
local macro_rules | `(tactic| walk_at "pad 27") => `(tactic| skip)
local macro_rules | `(tactic| walk_at "pad 27") => `(tactic| skip)
local macro_rules | `(tactic| walk_at "pad 27") => `(tactic| skip)
local macro_rules | `(tactic| walk_at "pad 27") => `(tactic| skip)
local macro_rules | `(tactic| walk_at "pad 27") => `(tactic| skip)
local macro_rules | `(tactic| walk_at "pad 27") => `(tactic| skip)
local macro_rules | `(tactic| walk_at "pad 27") => `(tactic| skip)
local macro_rules | `(tactic| walk_at "pad 27") => `(tactic| skip)
local macro_rules | `(tactic| walk_at "pad 27") => `(tactic| skip)
local macro_rules | `(tactic| walk_at "pad 27") => `(tactic| skip)
local macro_rules | `(tactic| walk_at "pad 27") => `(tactic| skip)
local macro_rules | `(tactic| walk_at "pad 27") => `(tactic| skip)
local macro_rules | `(tactic| walk_at "pad 27") => `(tactic| skip)
local macro_rules | `(tactic| walk_at "pad 27") => `(tactic| skip)
local macro_rules | `(tactic| walk_at "pad 27") => `(tactic| skip)
local macro_rules | `(tactic| walk_at "pad 27") => `(tactic| skip)
local macro_rules | `(tactic| walk_at "pad 27") => `(tactic| skip)
local macro_rules | `(tactic| walk_at "pad 27") => `(tactic| skip)
local macro_rules | `(tactic| walk_at "pad 27") => `(tactic| skip)
local macro_rules | `(tactic| walk_at "pad 27") => `(tactic| skip)
local macro_rules | `(tactic| walk_at "pad 27") => `(tactic| skip)
local macro_rules | `(tactic| walk_at "pad 27") => `(tactic| skip)
local macro_rules | `(tactic| walk_at "call ref") => `(tactic| (k_here; k_dflt (refine' Mine.ConS.useP (Mine.c_to_jd_j _ _ _ _ _ _ ?p0 ?p1 ?p2 ?p3 ?p4) (Mine.f_to_jd_j ?p0 ?p1 ?p2 ?p3 ?p4) ?k1 ?k2 ?k3 ?k4 ?k5 ?kK ?kd ?ku ?_; (case p0 => first | assumption | omega); (case p1 => first | assumption | omega); (case p2 => first | assumption | omega); (case p3 => first | assumption | omega); (case p4 => first | assumption | omega); (case k1 => k_asm); (case k2 => k_asm); (case k3 => k_asm); (case k4 => k_asm); (case k5 => k_asm); (case kK => first | exact rfl | assumption); (case kd => first | exact Mine.room_d (by assumption) (by decide) | ktr_room); (case ku => first | exact Mine.room_u (by assumption) (by decide) | ktr_units); intro P9 t9 h9 tk9 F9 N9; (try dsimp only); (try k_fold))))
local macro_rules | `(tactic| walk_at "call ref") => `(tactic| (k_here; k_dflt (refine' Mine.ConT.use (Mine.c_from_jd _ _ ?p0 ?p1) ?k1 ?k2 ?k3 ?k4 ?k5 ?kK ?kd ?ku ?_; (case p0 => first | assumption | omega); (case p1 => first | assumption | omega); (case k1 => k_asm); (case k2 => k_asm); (case k3 => k_asm); (case k4 => k_asm); (case k5 => k_asm); (case kK => first | exact rfl | assumption); (case kd => first | exact Mine.room_d (by assumption) (by decide) | ktr_room); (case ku => first | exact Mine.room_u (by assumption) (by decide) | ktr_units); intro x9 v9 n9 h9 tk9 I9 F9 N9 l9; (obtain ⟨t91, t92, t93, e9⟩ := Mine.ints3 I9); subst e9; clear I9; (try dsimp only); (try k_fold))))
namespace Mine
theorem c_to_g (y m d : Int) (t u v : Tok) (hy1 : -3800 ≤ y) (hy2 : y ≤ 110000000) (hm : m = 3 ∨ m = 4) (h1 : 1 ≤ d) (h2 : d ≤ 34 - m) : ConT 9 170 [.int y t, .int m u, .int d v] [civY (jjd y m d + 1), civM (jjd y m d + 1), civD (jjd y m d + 1)] := by
  unfold ConT
  w_top off
  k_fill
  intros
  rename_i hret
  refine wpAny_call ?_
  k_dflt cell_enter
  k_steps
  all_goals (refine endT hret ⟨rfl, rfl, rfl⟩ (by k_asm) (by k_asm) (by assumption))
end Mine
end
/-! W19 -/
section

namespace Mine
theorem c_easter_j (y : Int) (t : Tok) : ConT 1 193 [.int y t] [y, eD y / 31, eD y % 31 + 1] := by
  have hE := eD_bd y
  unfold ConT
  w_top off
  k_fill
  intros
  rename_i hret
  refine wpAny_call ?_
  k_dflt (refine' code_def ?k1 ?k2 ?k3 ?k4 ?k5 ?kA ?kF ?kK ?k6 ?k7 ?k8 ?k9 ?kB ?_ ?c2 ?c3 ?c4 ?c5; (case kA => exact rfl); (case kF => exact rfl); (case kK => assumption); (case k1 => k_asm); (case k2 => k_asm); (case k3 => k_asm); (case k4 => k_asm); (case k5 => k_asm); (case k6 => k_is); (case k7 => k_is); (case k8 => ktr_room); (case k9 => exact binds_K (by k_in) rfl (by k_is) rfl rfl rfl); (case c5 => decide); (case kB => exact locs rfl); (case c2 => exact rfl); (case c3 => exact rfl); (case c4 => exact rfl); k_whole; intro g' L' h' FG' F' N' B' X' T'; (try dsimp only); (try k_fold))
  k_steps
  all_goals (refine endT hret ⟨rfl, rfl, rfl⟩ (by k_asm) (by k_asm) (by assumption))
end Mine
end
/-! W25a -/
section

namespace Mine
theorem eN_bd {y : Int} (h1 : -3800 ≤ y) (h2 : y ≤ 110000000) : 300000 ≤ eN y ∧ eN y ≤ 45000000000 := by
  have := eD_bd y
  unfold eN jjd; omega
theorem c_from_gN (n y m d : Int) (t u v : Tok) (hy1 : -10000 ≤ y) (hy2 : y ≤ 200000000) (hm1 : 1 ≤ m) (hm2 : m ≤ 12) (h1 : 1 ≤ d) (h2 : d ≤ dimG y m) (hn : gjd y m d = n) : ConS 6 208 [.int y t, .int m u, .int d v] (fun t => .float (hf n) t) := by
  rw [← hn]
  exact c_from_g y m d t u v hy1 hy2 hm1 hm2 h1 h2
/-- what the law asks of a year, in plain integers -/
def YearOk (y : Int) : Prop :=
  -380247 ≤ 98496 * (eN y + 1 - (ns (y + 3760) + 1)) - 313 * y ∧
  98496 * (eN y + 1 - (ns (y + 3760) + 1)) - 313 * y ≤ 3536384 ∧
  (783 < y → 1 ≤ eN y + 1 - (ns (y + 3760) + 1)) ∧
  (y % 689472 = 201039 → 98496 * (eN y + 1 - (ns (y + 3760) + 1)) - 313 * y = -380247) ∧
  (y % 689472 = 32128 → 98496 * (eN y + 1 - (ns (y + 3760) + 1)) - 313 * y = 3536384) ∧
  sund y = eN y + 1 ∧
  ns (y + 3760) + 1 = 1721117 + 365 * y + y / 4 + march (y + 3760) ∧
  (y ≤ 50000 → civY (ns (y + 3760) + 1) = y) ∧
  (326 ≤ y → y ≤ 783 → y ∈ [326, 346, 350, 475, 495] → eN y + 1 - (ns (y + 3760) + 1) = -2) ∧
  (326 ≤ y → y ≤ 783 → y ∉ [326, 346, 350, 475, 495] → y ∈ [343, 347, 367, 370, 374, 394, 401, 414, 418, 421, 441, 445, 465, 496, 499, 519, 523, 536, 543, 563, 570, 590, 594, 614, 743, 783] → eN y + 1 - (ns (y + 3760) + 1) = 0) ∧
  (326 ≤ y → y ≤ 783 → y ∉ [326, 346, 350, 475, 495] → y ∉ [343, 347, 367, 370, 374, 394, 401, 414, 418, 421, 441, 445, 465, 496, 499, 519, 523, 536, 543, 563, 570, 590, 594, 614, 743, 783] → 1 ≤ eN y + 1 - (ns (y + 3760) + 1))
end Mine
end
/-! W25b -/
section

namespace Mine
theorem shaped3 (a b c : Int) : SeqAt.shaped (.tuple [.int a, .int b, .int c]) = true := by
  first | rfl | (simp [SeqAt.shaped, PyData.canLay0, PyData.canLayAll0, PyData.depth, PyData.depthAll])
theorem reads3 {h₀ h : Heap} {L : Addr} {news : List (Addr × Obj)} {x : Addr} {a b c : Int} {t1 t2 t3 : Tok} {n : Nat} (N : News h₀ L h news) (hx : (x, ({ cls := .type "tuple", data := .seq #[.int a t1, .int b t2, .int c t3] n } : Obj)) ∈ news) :
    Reads h (.ref x) (.tuple [.int a, .int b, .int c]) [] :=
  reads_tuple_at (N _ hx).1 rfl rfl (ReadsAll.cons (as := []) (bs := []) (Reads.int _ _) (ReadsAll.cons (as := []) (bs := []) (Reads.int _ _) (ReadsAll.cons (as := []) (bs := []) (Reads.int _ _) ReadsAll.nil)))
theorem ne_tup3 {prog : Program} {w : World} {A : Around} {E : Value → Shared → Prop} {s : Shared} {Q : Value → Shared → Prop} {h₀ : Heap} {L : Addr} {news : List (Addr × Obj)} {x y : Addr} {a b c a' b' c' : Int} {t1 t2 t3 u1 u2 u3 : Tok} {n k : Nat} (N : News h₀ L s.heap news)
    (hx : (x, ({ cls := .type "tuple", data := .seq #[.int a t1, .int b t2, .int c t3] n } : Obj)) ∈ news) (hy : (y, ({ cls := .type "tuple", data := .seq #[.int a' u1, .int b' u2, .int c' u3] k } : Obj)) ∈ news)
    (hu : A.units + 64 < cLine) (e : a = a' ∧ b = b' ∧ c = c') (h : Q (.bool false) s) : wpAny (model prog w) A (compareOp .NotEq (.ref x) (.ref y)) Q E s := by
  obtain ⟨rfl, rfl, rfl⟩ := e
  refine ne_dataH (reads3 N hx) (reads3 N hy) (shaped3 a b c) (shaped3 a b c) hu ?_
  have e : PyData.eqv (.tuple [.int a, .int b, .int c]) (.tuple [.int a, .int b, .int c]) = true := by simp [PyData.eqv, PyData.eqvAll]
  rw [e]; exact h
end Mine
end
/-! W25c -/
section

namespace Mine
theorem c_passoverY (Y : Int) (t : Tok) (hY1 : -3759 ≤ Y) (hY2 : Y ≤ 50000) (hg : civY (ns (Y + 3760) + 1) = Y) : ConT 18 201 [.int Y t] [Y, civM (ns (Y + 3760) + 1), civD (ns (Y + 3760) + 1)] := by
  have := c_passover Y t hY1 hY2 hg
  rw [hg] at this
  exact this
theorem r_in_true {prog : Program} {w : World} {A : Around} {E : Value → Shared → Prop} {s : Shared} {K : Frag} {h₀ : Heap} {L a : Addr} {m : Str → Option Value} {l : List Value} {dd : Option Addr} {sl : Array (Option Value)} {n : Nat} {ns : List Int} {x : Int} {u : Tok} {Q : Value → Shared → Prop}
    (F : Fr h₀ L s.heap m) (X₀ : K.In h₀) (hl : K.lookup a = some ⟨.type "tuple", dd, .seq l.toArray n, sl⟩) (hi : IntsAre l ns) (hm : x ∈ ns) (h : Q (.bool true) s) : wpAny (model prog w) A (compareOp .In (.int x u) (.ref a)) Q E s :=
  r_in_top F X₀ hl hi (by rw [decide_eq_true hm]; exact h)
theorem r_in_false {prog : Program} {w : World} {A : Around} {E : Value → Shared → Prop} {s : Shared} {K : Frag} {h₀ : Heap} {L a : Addr} {m : Str → Option Value} {l : List Value} {dd : Option Addr} {sl : Array (Option Value)} {n : Nat} {ns : List Int} {x : Int} {u : Tok} {Q : Value → Shared → Prop}
    (F : Fr h₀ L s.heap m) (X₀ : K.In h₀) (hl : K.lookup a = some ⟨.type "tuple", dd, .seq l.toArray n, sl⟩) (hi : IntsAre l ns) (hm : x ∉ ns) (h : Q (.bool false) s) : wpAny (model prog w) A (compareOp .In (.int x u) (.ref a)) Q E s :=
  r_in_top F X₀ hl hi (by rw [decide_eq_false hm]; exact h)
end Mine
end
/-! W25A -/
section
local macro_rules | `(tactic| walk_at "pad 32") => `(tactic| skip)
local macro_rules | `(tactic| walk_at "pad 32") => `(tactic| skip)
local macro_rules | `(tactic| walk_at "pad 32") => `(tactic| skip)
local macro_rules | `(tactic| walk_at "pad 32") => `(tactic| skip)
local macro_rules | `(tactic| walk_at "pad 32") => `(tactic| skip)
local macro_rules | `(tactic| walk_at "pad 32") => `(tactic| skip)
local macro_rules | `(tactic| walk_at "pad 32") => `(tactic| skip)
local macro_rules | `(tactic| walk_at "pad 32") => `(tactic| skip)
local macro_rules | `(tactic| walk_at "pad 32") => `(tactic| skip)
local macro_rules | `(tactic| walk_at "pad 32") => `(tactic| skip)
local macro_rules | `(tactic| walk_at "pad 32") => `(tactic| skip)
local macro_rules | `(tactic| walk_at "pad 32") => `(tactic| skip)
local macro_rules | `(tactic| walk_at "pad 32") => `(tactic| skip)
local macro_rules | `(tactic| walk_at "pad 32") => `(tactic| skip)
local macro_rules | `(tactic| walk_at "pad 32") => `(tactic| skip)
local macro_rules | `(tactic| walk_at "pad 32") => `(tactic| skip)
local macro_rules | `(tactic| walk_at "pad 32") => `(tactic| skip)
local macro_rules | `(tactic| walk_at "pad 32") => `(tactic| skip)
local macro_rules | `(tactic| walk_at "pad 32") => `(tactic| skip)
local macro_rules | `(tactic| walk_at "pad 32") => `(tactic| skip)
local macro_rules | `(tactic| walk_at "pad 32") => `(tactic| skip)
local macro_rules | `(tactic| walk_at "pad 32") => `(tactic| skip)
local macro_rules | `(tactic| walk_at "pad 32") => `(tactic| skip)
local macro_rules | `(tactic| walk_at "pad 32") => `(tactic| skip)
local macro_rules | `(tactic| walk_at "pad 32") => `(tactic| skip)
local macro_rules | `(tactic| walk_at "pad 32") => `(tactic| skip)
local macro_rules | `(tactic| walk_at "pad 32") => `(tactic| skip)
local macro_rules | `(tactic| walk_at "pad 32") => `(tactic| skip)
local macro_rules | `(tactic| walk_at "pad 32") => `(tactic| skip)
local macro_rules | `(tactic| walk_at "pad 32") => `(tactic| skip)
local macro_rules | `(tactic| walk_at "pad 32") => `(tactic| skip)
local macro_rules | `(tactic| walk_at "pad 32") => `(tactic| skip)
local macro_rules | `(tactic| walk_at "pad 32") => `(tactic| skip)
local macro_rules | `(tactic| walk_at "pad 32") => `(tactic| skip)
local macro_rules | `(tactic| walk_at "pad 32") => `(tactic| skip)
local macro_rules | `(tactic| walk_at "pad 32") => `(tactic| skip)
local macro_rules | `(tactic| walk_at "pad 32") => `(tactic| skip)
local macro_rules | `(tactic| walk_at "call ref") => `(tactic| (k_here; k_dflt (refine' Mine.ConS.use (Mine.c_noon _ _ ?p0 ?p1) ?k1 ?k2 ?k3 ?k4 ?k5 ?kK ?kd ?ku ?_; (case p0 => first | assumption | omega); (case p1 => first | assumption | omega); (case k1 => k_asm); (case k2 => k_asm); (case k3 => k_asm); (case k4 => k_asm); (case k5 => k_asm); (case kK => first | exact rfl | assumption); (case kd => first | exact Mine.room_d (by assumption) (by decide) | ktr_room); (case ku => first | exact Mine.room_u (by assumption) (by decide) | ktr_units); intro t9 h9 tk9 F9 N9; (try dsimp only); (try k_fold))))
local macro_rules | `(tactic| walk_at "call ref") => `(tactic| (k_here; k_dflt (refine' Mine.ConS.use (Mine.c_sunday _ _) ?k1 ?k2 ?k3 ?k4 ?k5 ?kK ?kd ?ku ?_; (case k1 => k_asm); (case k2 => k_asm); (case k3 => k_asm); (case k4 => k_asm); (case k5 => k_asm); (case kK => first | exact rfl | assumption); (case kd => first | exact Mine.room_d (by assumption) (by decide) | ktr_room); (case ku => first | exact Mine.room_u (by assumption) (by decide) | ktr_units); intro t9 h9 tk9 F9 N9; (try dsimp only); (try k_fold))))
local macro_rules | `(tactic| walk_at "call ref") => `(tactic| (k_here; k_dflt (refine' Mine.ConS.use (Mine.c_march _ _) ?k1 ?k2 ?k3 ?k4 ?k5 ?kK ?kd ?ku ?_; (case k1 => k_asm); (case k2 => k_asm); (case k3 => k_asm); (case k4 => k_asm); (case k5 => k_asm); (case kK => first | exact rfl | assumption); (case kd => first | exact Mine.room_d (by assumption) (by decide) | ktr_room); (case ku => first | exact Mine.room_u (by assumption) (by decide) | ktr_units); intro t9 h9 tk9 F9 N9; (try dsimp only); (try k_fold))))
local macro_rules | `(tactic| walk_at "call ref") => `(tactic| (k_here; k_dflt (refine' Mine.ConS.use (Mine.c_from_gN _ _ _ _ _ _ _ ?p0 ?p1 ?p2 ?p3 ?p4 ?p5 ?p6) ?k1 ?k2 ?k3 ?k4 ?k5 ?kK ?kd ?ku ?_; (case p0 => first | assumption | omega); (case p1 => first | assumption | omega); (case p2 => first | assumption | omega); (case p3 => first | assumption | omega); (case p4 => first | assumption | omega); (case p5 => first | assumption | omega); (case p6 => first | assumption | omega); (case k1 => k_asm); (case k2 => k_asm); (case k3 => k_asm); (case k4 => k_asm); (case k5 => k_asm); (case kK => first | exact rfl | assumption); (case kd => first | exact Mine.room_d (by assumption) (by decide) | ktr_room); (case ku => first | exact Mine.room_u (by assumption) (by decide) | ktr_units); intro t9 h9 tk9 F9 N9; (try dsimp only); (try k_fold))))
local macro_rules | `(tactic| walk_at "call ref") => `(tactic| (k_here; k_dflt (refine' Mine.ConS.useP (Mine.c_to_jd_h15 _ _ _ _ ?p0 ?p1) (Mine.f_to_jd_h15 ?p0 ?p1) ?k1 ?k2 ?k3 ?k4 ?k5 ?kK ?kd ?ku ?_; (case p0 => first | assumption | omega); (case p1 => first | assumption | omega); (case k1 => k_asm); (case k2 => k_asm); (case k3 => k_asm); (case k4 => k_asm); (case k5 => k_asm); (case kK => first | exact rfl | assumption); (case kd => first | exact Mine.room_d (by assumption) (by decide) | ktr_room); (case ku => first | exact Mine.room_u (by assumption) (by decide) | ktr_units); intro P9 t9 h9 tk9 F9 N9; (try dsimp only); (try k_fold))))
local macro_rules | `(tactic| walk_at "call ref") => `(tactic| (k_here; k_dflt (refine' Mine.ConT.use (Mine.c_passoverY _ _ ?p0 ?p1 ?p2) ?k1 ?k2 ?k3 ?k4 ?k5 ?kK ?kd ?ku ?_; (case p0 => first | assumption | omega); (case p1 => first | assumption | omega); (case p2 => first | assumption | omega); (case k1 => k_asm); (case k2 => k_asm); (case k3 => k_asm); (case k4 => k_asm); (case k5 => k_asm); (case kK => first | exact rfl | assumption); (case kd => first | exact Mine.room_d (by assumption) (by decide) | ktr_room); (case ku => first | exact Mine.room_u (by assumption) (by decide) | ktr_units); intro x9 v9 n9 h9 tk9 I9 F9 N9 l9; (obtain ⟨t91, t92, t93, e9⟩ := Mine.ints3 I9); subst e9; clear I9; (try dsimp only); (try k_fold))))
local macro_rules | `(tactic| walk_at "call ref") => `(tactic| (k_here; k_dflt (refine' Mine.ConT.use (Mine.c_civil _ _) ?k1 ?k2 ?k3 ?k4 ?k5 ?kK ?kd ?ku ?_; (case k1 => k_asm); (case k2 => k_asm); (case k3 => k_asm); (case k4 => k_asm); (case k5 => k_asm); (case kK => first | exact rfl | assumption); (case kd => first | exact Mine.room_d (by assumption) (by decide) | ktr_room); (case ku => first | exact Mine.room_u (by assumption) (by decide) | ktr_units); intro x9 v9 n9 h9 tk9 I9 F9 N9 l9; (obtain ⟨t91, t92, t93, e9⟩ := Mine.ints3 I9); subst e9; clear I9; (try dsimp only); (try k_fold))))
local macro_rules | `(tactic| walk_at "call ref") => `(tactic| (k_here; k_dflt (refine' Mine.ConW.use (Mine.c_plain _ _ _ _ _ _ _ _) ?k1 ?k2 ?k3 ?k4 ?k5 ?kK ?kd ?ku ?kH ?_; (case k1 => k_asm); (case k2 => k_asm); (case k3 => k_asm); (case k4 => k_asm); (case k5 => k_asm); (case kK => first | exact rfl | assumption); (case kd => first | exact Mine.room_d (by assumption) (by decide) | ktr_room); (case ku => first | exact Mine.room_u (by assumption) (by decide) | ktr_units); (case kH => ((try dsimp only); first | assumption | exact List.Mem.head _ | exact List.Mem.tail _ (by assumption) | exact List.Mem.tail _ (List.Mem.head _) | exact List.Mem.tail _ (List.Mem.tail _ (by assumption)) | exact List.Mem.tail _ (List.Mem.tail _ (List.Mem.tail _ (by assumption))) | exact List.Mem.tail _ (List.Mem.tail _ (List.Mem.tail _ (List.Mem.tail _ (by assumption)))) | k_mem)); intro t9 h9 tk9 F9 N9; (try dsimp only); (try k_fold))))
local macro_rules | `(tactic| walk_at "compareOp NotEq ref ref") => `(tactic| (k_here; (with_reducible rename ((_ : Addr × Obj) ∈ _) => hm9); k_dflt (refine' Mine.ne_tup3 ?N ?x ?y ?u ?e ?_; (case N => k_asm); (case y => exact List.Mem.head _); (case x => first | exact hm9 | exact List.Mem.tail _ hm9 | exact List.Mem.tail _ (List.Mem.tail _ hm9) | exact List.Mem.tail _ (List.Mem.tail _ (List.Mem.tail _ hm9)) | exact List.Mem.head _ | exact List.Mem.tail _ (List.Mem.head _)); (case u => first | exact Mine.room_t (by assumption) | ktr_units); (case e => first | exact ⟨rfl, rfl, rfl⟩ | exact ⟨Eq.symm (by assumption), rfl, rfl⟩ | exact ⟨Eq.symm (by assumption), Eq.symm (by assumption), Eq.symm (by assumption)⟩)); (try dsimp only)))
namespace Mine
theorem c_yearA (y a b c : Int) (x : Addr) (t u1 u2 u3 : Tok) (k : Nat) (hy1 : 50000 < y) (hy2 : y ≤ 104996240) (ok : YearOk y)
    (ha : civY (eN y + 1) = a) (hb : civM (eN y + 1) = b) (hc : civD (eN y + 1) = c) :
    ConW 22 251 [.int y t, .ref x] (fun news => (x, ({ cls := .type "tuple", data := .seq #[.int a u1, .int b u2, .int c u3] k } : Obj)) ∈ news) (fun _ => .bool true) := by
  obtain ⟨o1, o2, o3, o4, o5, o6, o7, o8, o9, o10, o11⟩ := ok
  have hE := eN_bd (y := y) (by omega) (by omega)
  have hS := f_to_jd_h15 (y := y + 3760) (by omega) (by omega)
  obtain ⟨hc1, hc2, hc3, hc4, hc5⟩ := civ_ok (eN y + 1)
  rw [show eN y + 1 - 1 = eN y by omega] at hc5
  have hgY : -10000 ≤ civY (eN y + 1) ∧ civY (eN y + 1) ≤ 200000000 := by
    have := valid_range hc1 hc2 hc3 hc4
    rw [hc5] at this
    have := of_good this
    unfold jan1 leapI at this
    split at this <;> omega
  rw [ha] at hc4 hc5 hgY
  rw [hb] at hc1 hc2 hc4 hc5
  rw [hc] at hc3 hc4 hc5
  have q := o3 (by omega)
  clear o3 o8 o9 o10 o11
  have o4' := Flt.Hid.mk o4
  have o5' := Flt.Hid.mk o5
  clear o4 o5
  unfold ConW
  w_top off
  k_fill
  intros
  rename_i hmem hret
  dsimp only at hret hmem
  refine wpAny_call ?_
  k_dflt cell_enter
  k_steps
  all_goals first
    | (refine endB hret (beq_iff_eq.mpr o7) (by k_asm) (by first | k_asm | (refine cb_drop (by k_asm) ?_; intro p hp; repeat (first | exact hp | refine List.Mem.tail _ ?_))))
    | (exfalso; have q4 := o4'.out (by assumption); omega)
    | (exfalso; have q5 := o5'.out (by assumption); omega)
    | (exfalso; omega)
end Mine
end
/-! W25G -/
section
local macro_rules | `(tactic| walk_at "pad 33") => `(tactic| skip)
local macro_rules | `(tactic| walk_at "pad 33") => `(tactic| skip)
local macro_rules | `(tactic| walk_at "pad 33") => `(tactic| skip)
local macro_rules | `(tactic| walk_at "pad 33") => `(tactic| skip)
local macro_rules | `(tactic| walk_at "pad 33") => `(tactic| skip)
local macro_rules | `(tactic| walk_at "pad 33") => `(tactic| skip)
local macro_rules | `(tactic| walk_at "pad 33") => `(tactic| skip)
local macro_rules | `(tactic| walk_at "pad 33") => `(tactic| skip)
local macro_rules | `(tactic| walk_at "pad 33") => `(tactic| skip)
local macro_rules | `(tactic| walk_at "pad 33") => `(tactic| skip)
local macro_rules | `(tactic| walk_at "pad 33") => `(tactic| skip)
local macro_rules | `(tactic| walk_at "pad 33") => `(tactic| skip)
local macro_rules | `(tactic| walk_at "pad 33") => `(tactic| skip)
local macro_rules | `(tactic| walk_at "pad 33") => `(tactic| skip)
local macro_rules | `(tactic| walk_at "pad 33") => `(tactic| skip)
local macro_rules | `(tactic| walk_at "pad 33") => `(tactic| skip)
local macro_rules | `(tactic| walk_at "pad 33") => `(tactic| skip)
local macro_rules | `(tactic| walk_at "pad 33") => `(tactic| skip)
local macro_rules | `(tactic| walk_at "pad 33") => `(tactic| skip)
local macro_rules | `(tactic| walk_at "pad 33") => `(tactic| skip)
local macro_rules | `(tactic| walk_at "pad 33") => `(tactic| skip)
local macro_rules | `(tactic| walk_at "pad 33") => `(tactic| skip)
local macro_rules | `(tactic| walk_at "pad 33") => `(tactic| skip)
local macro_rules | `(tactic| walk_at "pad 33") => `(tactic| skip)
local macro_rules | `(tactic| walk_at "pad 33") => `(tactic| skip)
local macro_rules | `(tactic| walk_at "pad 33") => `(tactic| skip)
local macro_rules | `(tactic| walk_at "pad 33") => `(tactic| skip)
local macro_rules | `(tactic| walk_at "pad 33") => `(tactic| skip)
local macro_rules | `(tactic| walk_at "pad 33") => `(tactic| skip)
local macro_rules | `(tactic| walk_at "pad 33") => `(tactic| skip)
local macro_rules | `(tactic| walk_at "pad 33") => `(tactic| skip)
local macro_rules | `(tactic| walk_at "pad 33") => `(tactic| skip)
local macro_rules | `(tactic| walk_at "pad 33") => `(tactic| skip)
local macro_rules | `(tactic| walk_at "pad 33") => `(tactic| skip)
local macro_rules | `(tactic| walk_at "pad 33") => `(tactic| skip)
local macro_rules | `(tactic| walk_at "pad 33") => `(tactic| skip)
local macro_rules | `(tactic| walk_at "pad 33") => `(tactic| skip)
local macro_rules | `(tactic| walk_at "pad 33") => `(tactic| skip)
local macro_rules | `(tactic| walk_at "call ref") => `(tactic| (k_here; k_dflt (refine' Mine.ConS.use (Mine.c_noon _ _ ?p0 ?p1) ?k1 ?k2 ?k3 ?k4 ?k5 ?kK ?kd ?ku ?_; (case p0 => first | assumption | omega); (case p1 => first | assumption | omega); (case k1 => k_asm); (case k2 => k_asm); (case k3 => k_asm); (case k4 => k_asm); (case k5 => k_asm); (case kK => first | exact rfl | assumption); (case kd => first | exact Mine.room_d (by assumption) (by decide) | ktr_room); (case ku => first | exact Mine.room_u (by assumption) (by decide) | ktr_units); intro t9 h9 tk9 F9 N9; (try dsimp only); (try k_fold))))
local macro_rules | `(tactic| walk_at "call ref") => `(tactic| (k_here; k_dflt (refine' Mine.ConS.use (Mine.c_sunday _ _) ?k1 ?k2 ?k3 ?k4 ?k5 ?kK ?kd ?ku ?_; (case k1 => k_asm); (case k2 => k_asm); (case k3 => k_asm); (case k4 => k_asm); (case k5 => k_asm); (case kK => first | exact rfl | assumption); (case kd => first | exact Mine.room_d (by assumption) (by decide) | ktr_room); (case ku => first | exact Mine.room_u (by assumption) (by decide) | ktr_units); intro t9 h9 tk9 F9 N9; (try dsimp only); (try k_fold))))
local macro_rules | `(tactic| walk_at "call ref") => `(tactic| (k_here; k_dflt (refine' Mine.ConS.use (Mine.c_march _ _) ?k1 ?k2 ?k3 ?k4 ?k5 ?kK ?kd ?ku ?_; (case k1 => k_asm); (case k2 => k_asm); (case k3 => k_asm); (case k4 => k_asm); (case k5 => k_asm); (case kK => first | exact rfl | assumption); (case kd => first | exact Mine.room_d (by assumption) (by decide) | ktr_room); (case ku => first | exact Mine.room_u (by assumption) (by decide) | ktr_units); intro t9 h9 tk9 F9 N9; (try dsimp only); (try k_fold))))
local macro_rules | `(tactic| walk_at "call ref") => `(tactic| (k_here; k_dflt (refine' Mine.ConS.use (Mine.c_from_gN _ _ _ _ _ _ _ ?p0 ?p1 ?p2 ?p3 ?p4 ?p5 ?p6) ?k1 ?k2 ?k3 ?k4 ?k5 ?kK ?kd ?ku ?_; (case p0 => first | assumption | omega); (case p1 => first | assumption | omega); (case p2 => first | assumption | omega); (case p3 => first | assumption | omega); (case p4 => first | assumption | omega); (case p5 => first | assumption | omega); (case p6 => first | assumption | omega); (case k1 => k_asm); (case k2 => k_asm); (case k3 => k_asm); (case k4 => k_asm); (case k5 => k_asm); (case kK => first | exact rfl | assumption); (case kd => first | exact Mine.room_d (by assumption) (by decide) | ktr_room); (case ku => first | exact Mine.room_u (by assumption) (by decide) | ktr_units); intro t9 h9 tk9 F9 N9; (try dsimp only); (try k_fold))))
local macro_rules | `(tactic| walk_at "call ref") => `(tactic| (k_here; k_dflt (refine' Mine.ConS.useP (Mine.c_to_jd_h15 _ _ _ _ ?p0 ?p1) (Mine.f_to_jd_h15 ?p0 ?p1) ?k1 ?k2 ?k3 ?k4 ?k5 ?kK ?kd ?ku ?_; (case p0 => first | assumption | omega); (case p1 => first | assumption | omega); (case k1 => k_asm); (case k2 => k_asm); (case k3 => k_asm); (case k4 => k_asm); (case k5 => k_asm); (case kK => first | exact rfl | assumption); (case kd => first | exact Mine.room_d (by assumption) (by decide) | ktr_room); (case ku => first | exact Mine.room_u (by assumption) (by decide) | ktr_units); intro P9 t9 h9 tk9 F9 N9; (try dsimp only); (try k_fold))))
local macro_rules | `(tactic| walk_at "call ref") => `(tactic| (k_here; k_dflt (refine' Mine.ConT.use (Mine.c_passoverY _ _ ?p0 ?p1 ?p2) ?k1 ?k2 ?k3 ?k4 ?k5 ?kK ?kd ?ku ?_; (case p0 => first | assumption | omega); (case p1 => first | assumption | omega); (case p2 => first | assumption | omega); (case k1 => k_asm); (case k2 => k_asm); (case k3 => k_asm); (case k4 => k_asm); (case k5 => k_asm); (case kK => first | exact rfl | assumption); (case kd => first | exact Mine.room_d (by assumption) (by decide) | ktr_room); (case ku => first | exact Mine.room_u (by assumption) (by decide) | ktr_units); intro x9 v9 n9 h9 tk9 I9 F9 N9 l9; (obtain ⟨t91, t92, t93, e9⟩ := Mine.ints3 I9); subst e9; clear I9; (try dsimp only); (try k_fold))))
local macro_rules | `(tactic| walk_at "call ref") => `(tactic| (k_here; k_dflt (refine' Mine.ConT.use (Mine.c_civil _ _) ?k1 ?k2 ?k3 ?k4 ?k5 ?kK ?kd ?ku ?_; (case k1 => k_asm); (case k2 => k_asm); (case k3 => k_asm); (case k4 => k_asm); (case k5 => k_asm); (case kK => first | exact rfl | assumption); (case kd => first | exact Mine.room_d (by assumption) (by decide) | ktr_room); (case ku => first | exact Mine.room_u (by assumption) (by decide) | ktr_units); intro x9 v9 n9 h9 tk9 I9 F9 N9 l9; (obtain ⟨t91, t92, t93, e9⟩ := Mine.ints3 I9); subst e9; clear I9; (try dsimp only); (try k_fold))))
local macro_rules | `(tactic| walk_at "call ref") => `(tactic| (k_here; k_dflt (refine' Mine.ConW.use (Mine.c_plain _ _ _ _ _ _ _ _) ?k1 ?k2 ?k3 ?k4 ?k5 ?kK ?kd ?ku ?kH ?_; (case k1 => k_asm); (case k2 => k_asm); (case k3 => k_asm); (case k4 => k_asm); (case k5 => k_asm); (case kK => first | exact rfl | assumption); (case kd => first | exact Mine.room_d (by assumption) (by decide) | ktr_room); (case ku => first | exact Mine.room_u (by assumption) (by decide) | ktr_units); (case kH => ((try dsimp only); first | assumption | exact List.Mem.head _ | exact List.Mem.tail _ (by assumption) | exact List.Mem.tail _ (List.Mem.head _) | exact List.Mem.tail _ (List.Mem.tail _ (by assumption)) | exact List.Mem.tail _ (List.Mem.tail _ (List.Mem.tail _ (by assumption))) | exact List.Mem.tail _ (List.Mem.tail _ (List.Mem.tail _ (List.Mem.tail _ (by assumption)))) | k_mem)); intro t9 h9 tk9 F9 N9; (try dsimp only); (try k_fold))))
local macro_rules | `(tactic| walk_at "compareOp NotEq ref ref") => `(tactic| (k_here; (with_reducible rename ((_ : Addr × Obj) ∈ _) => hm9); k_dflt (refine' Mine.ne_tup3 ?N ?x ?y ?u ?e ?_; (case N => k_asm); (case y => exact List.Mem.head _); (case x => first | exact hm9 | exact List.Mem.tail _ hm9 | exact List.Mem.tail _ (List.Mem.tail _ hm9) | exact List.Mem.tail _ (List.Mem.tail _ (List.Mem.tail _ hm9)) | exact List.Mem.head _ | exact List.Mem.tail _ (List.Mem.head _)); (case u => first | exact Mine.room_t (by assumption) | ktr_units); (case e => first | exact ⟨rfl, rfl, rfl⟩ | exact ⟨Eq.symm (by assumption), rfl, rfl⟩ | exact ⟨Eq.symm (by assumption), Eq.symm (by assumption), Eq.symm (by assumption)⟩)); (try dsimp only)))
namespace Mine
theorem c_yearG (y a b c : Int) (x : Addr) (t u1 u2 u3 : Tok) (k : Nat) (hy1 : -3759 ≤ y) (hy2 : y ≤ 50000) (ok : YearOk y)
    (ha : civY (eN y + 1) = a) (hb : civM (eN y + 1) = b) (hc : civD (eN y + 1) = c) :
    ConW 22 251 [.int y t, .ref x] (fun news => (x, ({ cls := .type "tuple", data := .seq #[.int a u1, .int b u2, .int c u3] k } : Obj)) ∈ news) (fun _ => .bool true) := by
  obtain ⟨o1, o2, o3, o4, o5, o6, o7, o8, o9, o10, o11⟩ := ok
  have hE := eN_bd (y := y) (by omega) (by omega)
  have hS := f_to_jd_h15 (y := y + 3760) (by omega) (by omega)
  obtain ⟨hc1, hc2, hc3, hc4, hc5⟩ := civ_ok (eN y + 1)
  rw [show eN y + 1 - 1 = eN y by omega] at hc5
  have hgY : -10000 ≤ civY (eN y + 1) ∧ civY (eN y + 1) ≤ 200000000 := by
    have := valid_range hc1 hc2 hc3 hc4
    rw [hc5] at this
    have := of_good this
    unfold jan1 leapI at this
    split at this <;> omega
  rw [ha] at hc4 hc5 hgY
  rw [hb] at hc1 hc2 hc4 hc5
  rw [hc] at hc3 hc4 hc5
  have hcY := o8 (by omega)
  obtain ⟨hp1, hp2, hp3, hp4, hp5⟩ := civ_ok (ns (y + 3760) + 1)
  rw [hcY] at hp4 hp5
  rw [show ns (y + 3760) + 1 - 1 = ns (y + 3760) by omega] at hp5
  have o3' := Flt.Hid.mk o3
  have o9' := Flt.Hid.mk o9
  have o10' := Flt.Hid.mk o10
  have o11' := Flt.Hid.mk o11
  clear o3 o8 o9 o10 o11
  have o4' := Flt.Hid.mk o4
  have o5' := Flt.Hid.mk o5
  clear o4 o5
  unfold ConW
  w_top off
  k_fill
  intros
  rename_i hmem hret
  dsimp only at hret hmem
  refine wpAny_call ?_
  k_dflt cell_enter
  k_steps
  all_goals first
    | (refine endB hret (beq_iff_eq.mpr o7) (by k_asm) (by first | k_asm | (refine cb_drop (by k_asm) ?_; intro p hp; repeat (first | exact hp | refine List.Mem.tail _ ?_))))
    | (exfalso; have q4 := o4'.out (by assumption); omega)
    | (exfalso; have q5 := o5'.out (by assumption); omega)
    | (exfalso; have q3 := o3'.out (by omega); omega)
    | (exfalso; have q4 := o9'.out (by omega) (by omega) (by assumption); omega)
    | (exfalso; have q4 := o10'.out (by omega) (by omega) (by assumption) (by assumption); omega)
    | (exfalso; have q4 := o11'.out (by omega) (by omega) (by assumption) (by assumption); omega)
    | (exfalso; omega)
end Mine
end
/-! W26 -/
section
local macro_rules | `(tactic| walk_at "pad 34") => `(tactic| skip)
local macro_rules | `(tactic| walk_at "pad 34") => `(tactic| skip)
local macro_rules | `(tactic| walk_at "pad 34") => `(tactic| skip)
local macro_rules | `(tactic| walk_at "pad 34") => `(tactic| skip)
local macro_rules | `(tactic| walk_at "pad 34") => `(tactic| skip)
local macro_rules | `(tactic| walk_at "pad 34") => `(tactic| skip)
local macro_rules | `(tactic| walk_at "pad 34") => `(tactic| skip)
local macro_rules | `(tactic| walk_at "pad 34") => `(tactic| skip)
local macro_rules | `(tactic| walk_at "pad 34") => `(tactic| skip)
local macro_rules | `(tactic| walk_at "pad 34") => `(tactic| skip)
local macro_rules | `(tactic| walk_at "pad 34") => `(tactic| skip)
local macro_rules | `(tactic| walk_at "pad 34") => `(tactic| skip)
local macro_rules | `(tactic| walk_at "pad 34") => `(tactic| skip)
local macro_rules | `(tactic| walk_at "pad 34") => `(tactic| skip)
local macro_rules | `(tactic| walk_at "pad 34") => `(tactic| skip)
local macro_rules | `(tactic| walk_at "pad 34") => `(tactic| skip)
local macro_rules | `(tactic| walk_at "pad 34") => `(tactic| skip)
local macro_rules | `(tactic| walk_at "pad 34") => `(tactic| skip)
local macro_rules | `(tactic| walk_at "pad 34") => `(tactic| skip)
local macro_rules | `(tactic| walk_at "pad 34") => `(tactic| skip)
local macro_rules | `(tactic| walk_at "pad 34") => `(tactic| skip)
local macro_rules | `(tactic| walk_at "pad 34") => `(tactic| skip)
local macro_rules | `(tactic| walk_at "pad 34") => `(tactic| skip)
local macro_rules | `(tactic| walk_at "pad 34") => `(tactic| skip)
local macro_rules | `(tactic| walk_at "pad 34") => `(tactic| skip)
local macro_rules | `(tactic| walk_at "pad 34") => `(tactic| skip)
local macro_rules | `(tactic| walk_at "pad 34") => `(tactic| skip)
local macro_rules | `(tactic| walk_at "pad 34") => `(tactic| skip)
local macro_rules | `(tactic| walk_at "pad 34") => `(tactic| skip)
local macro_rules | `(tactic| walk_at "pad 34") => `(tactic| skip)
local macro_rules | `(tactic| walk_at "pad 34") => `(tactic| skip)
local macro_rules | `(tactic| walk_at "pad 34") => `(tactic| skip)
local macro_rules | `(tactic| walk_at "pad 34") => `(tactic| skip)
local macro_rules | `(tactic| walk_at "pad 34") => `(tactic| skip)
local macro_rules | `(tactic| walk_at "pad 34") => `(tactic| skip)
local macro_rules | `(tactic| walk_at "pad 34") => `(tactic| skip)
local macro_rules | `(tactic| walk_at "pad 34") => `(tactic| skip)
local macro_rules | `(tactic| walk_at "pad 34") => `(tactic| skip)
local macro_rules | `(tactic| walk_at "pad 34") => `(tactic| skip)
local macro_rules | `(tactic| walk_at "pad 34") => `(tactic| skip)
local macro_rules | `(tactic| walk_at "pad 34") => `(tactic| skip)
local macro_rules | `(tactic| walk_at "pad 34") => `(tactic| skip)
local macro_rules | `(tactic| walk_at "pad 34") => `(tactic| skip)
local macro_rules | `(tactic| walk_at "pad 34") => `(tactic| skip)
local macro_rules | `(tactic| walk_at "pad 34") => `(tactic| skip)
local macro_rules | `(tactic| walk_at "pad 34") => `(tactic| skip)
local macro_rules | `(tactic| walk_at "call ref") => `(tactic| (k_here; k_dflt (refine' Mine.ConT.use (Mine.c_easter_j _ _) ?k1 ?k2 ?k3 ?k4 ?k5 ?kK ?kd ?ku ?_; (case k1 => k_asm); (case k2 => k_asm); (case k3 => k_asm); (case k4 => k_asm); (case k5 => k_asm); (case kK => first | exact rfl | assumption); (case kd => first | exact Mine.room_d (by assumption) (by decide) | ktr_room); (case ku => first | exact Mine.room_u (by assumption) (by decide) | ktr_units); intro x9 v9 n9 h9 tk9 I9 F9 N9 l9; (obtain ⟨t91, t92, t93, e9⟩ := Mine.ints3 I9); subst e9; clear I9; (try dsimp only); (try k_fold))))
local macro_rules | `(tactic| walk_at "call ref") => `(tactic| (k_here; k_dflt (refine' Mine.ConT.use (Mine.c_to_g _ _ _ _ _ _ ?p0 ?p1 ?p2 ?p3 ?p4) ?k1 ?k2 ?k3 ?k4 ?k5 ?kK ?kd ?ku ?_; (case p0 => first | assumption | omega); (case p1 => first | assumption | omega); (case p2 => first | assumption | omega); (case p3 => first | assumption | omega); (case p4 => first | assumption | omega); (case k1 => k_asm); (case k2 => k_asm); (case k3 => k_asm); (case k4 => k_asm); (case k5 => k_asm); (case kK => first | exact rfl | assumption); (case kd => first | exact Mine.room_d (by assumption) (by decide) | ktr_room); (case ku => first | exact Mine.room_u (by assumption) (by decide) | ktr_units); intro x9 v9 n9 h9 tk9 I9 F9 N9 l9; (obtain ⟨t91, t92, t93, e9⟩ := Mine.ints3 I9); subst e9; clear I9; (try dsimp only); (try k_fold))))
namespace Mine
theorem endTl {h₀ h' : Heap} {L : Addr} {m : Str → Option Value} {news r : List (Addr × Obj)} {s : Shared} {Q : Value → Shared → Prop} {tk' : Nat} {a b c a' b' c' : Int} {t1 t2 t3 : Tok} {n : Nat} {x : Addr}
    (hret : ∀ (x : Addr) (vs : List Value) (n : Nat) (h' : Heap) (tk' : Nat), IntsAre vs [a', b', c'] → Fr h₀ L h' m → News h₀ L h' ((x, tupO vs n) :: news) → (∀ p ∈ news, p.1 < x) → Q (.ref x) { s with heap := h', toks := tk' })
    (N : News h₀ L h' ((x, { cls := .type "tuple", data := .seq #[.int a t1, .int b t2, .int c t3] n }) :: r)) (l : ∀ p ∈ r, p.1 < x) (hs : ∀ p ∈ news, p ∈ r) (F : Fr h₀ L h' m) (e : a = a' ∧ b = b' ∧ c = c') : Q (.ref x) { s with heap := h', toks := tk' } := by
  refine endT (t1 := t1) (t2 := t2) (t3 := t3) (n := n) hret e F (fun p hp => ?_) (fun p hp => l _ (hs p hp))
  rcases List.mem_cons.mp hp with rfl | hp
  · exact N _ (List.Mem.head _)
  · exact N _ (List.Mem.tail _ (hs p hp))
theorem c_easter (y : Int) (t u : Tok) (hy1 : -3800 ≤ y) (hy2 : y ≤ 110000000) : ConT 11 178 [.int y t, .str (Str.ofString "orthodox") u] [civY (eN y + 1), civM (eN y + 1), civD (eN y + 1)] := by
  have hE := eD_bd y
  have hm : eD y / 31 = 3 ∨ eD y / 31 = 4 := by omega
  unfold ConT
  w_top off
  k_fill
  intros
  rename_i hret
  refine wpAny_call ?_
  k_dflt (refine' code_def ?k1 ?k2 ?k3 ?k4 ?k5 ?kA ?kF ?kK ?k6 ?k7 ?k8 ?k9 ?kB ?_ ?c2 ?c3 ?c4 ?c5; (case kA => exact rfl); (case kF => exact rfl); (case kK => assumption); (case k1 => k_asm); (case k2 => k_asm); (case k3 => k_asm); (case k4 => k_asm); (case k5 => k_asm); (case k6 => k_is); (case k7 => k_is); (case k8 => ktr_room); (case k9 => exact binds_K (by k_in) rfl (by k_is) rfl rfl rfl); (case c5 => decide); (case kB => exact locs rfl); (case c2 => exact rfl); (case c3 => exact rfl); (case c4 => exact rfl); k_whole; intro g' L' h' FG' F' N' B' X' T'; (try dsimp only); (try k_fold))
  k_steps
  all_goals (refine endTl hret (by k_asm) (by assumption) (by exact fun p hp => List.Mem.tail _ hp) (by k_asm) ⟨rfl, rfl, rfl⟩)
end Mine
end
/-! W27a -/
section

namespace Mine
theorem yearOk {y : Int} (h1 : -3759 ≤ y) : YearOk y := by
  have hs := sun_ok y
  have hp := spr_ok y
  have hb : eN y + 1 - (ns (y + 3760) + 1) = btw y := by unfold btw; rw [hs, hp]
  obtain ⟨q1, q2, q3⟩ := year_ok h1
  unfold YearOk
  refine ⟨?_, ?_, ?_, ?_, ?_, hs, hp, fun h => civ_year h1 h, ?_, ?_, ?_⟩
  · rw [hb]; exact q1
  · rw [hb]; exact q2
  · rw [hb]; exact q3
  · rw [hb]; exact pl_lo y
  · rw [hb]; exact pl_hi y
  · intro a b m
    rw [hb]
    rcases early_at (y := y) a (by omega) with ⟨c, _⟩ | ⟨_, ⟨_, c⟩ | ⟨c, _⟩ | ⟨c, _⟩⟩
    · omega
    · exact c
    · exact absurd m c
    · exact absurd m c
  · intro a b m m2
    rw [hb]
    rcases early_at (y := y) a (by omega) with ⟨c, _⟩ | ⟨_, ⟨c, _⟩ | ⟨_, _, c⟩ | ⟨_, c, _⟩⟩
    · omega
    · exact absurd c m
    · exact c
    · exact absurd m2 c
  · intro a b m m2
    rw [hb]
    rcases early_at (y := y) a (by omega) with ⟨c, _⟩ | ⟨_, ⟨c, _⟩ | ⟨_, c, _⟩ | ⟨_, _, c⟩⟩
    · omega
    · exact absurd c m
    · exact absurd c m2
    · exact c
theorem c_year (y : Int) (x : Addr) (t u1 u2 u3 : Tok) (k : Nat) (hy1 : -3759 ≤ y) (hy2 : y ≤ 104996240) :
    ConW 22 251 [.int y t, .ref x] (fun news => (x, ({ cls := .type "tuple", data := .seq #[.int (civY (eN y + 1)) u1, .int (civM (eN y + 1)) u2, .int (civD (eN y + 1)) u3] k } : Obj)) ∈ news) (fun _ => .bool true) := by
  have ok := yearOk hy1
  by_cases h1 : 50000 < y
  · exact c_yearA y _ _ _ x t u1 u2 u3 k h1 hy2 ok rfl rfl rfl
  · exact c_yearG y _ _ _ x t u1 u2 u3 k hy1 (by omega) ok rfl rfl rfl
end Mine
end
/-! W27 -/
section
local macro_rules | `(tactic| walk_at "pad 36") => `(tactic| skip)
local macro_rules | `(tactic| walk_at "pad 36") => `(tactic| skip)
local macro_rules | `(tactic| walk_at "pad 36") => `(tactic| skip)
local macro_rules | `(tactic| walk_at "pad 36") => `(tactic| skip)
local macro_rules | `(tactic| walk_at "pad 36") => `(tactic| skip)
local macro_rules | `(tactic| walk_at "pad 36") => `(tactic| skip)
local macro_rules | `(tactic| walk_at "pad 36") => `(tactic| skip)
local macro_rules | `(tactic| walk_at "pad 36") => `(tactic| skip)
local macro_rules | `(tactic| walk_at "pad 36") => `(tactic| skip)
local macro_rules | `(tactic| walk_at "pad 36") => `(tactic| skip)
local macro_rules | `(tactic| walk_at "pad 36") => `(tactic| skip)
local macro_rules | `(tactic| walk_at "pad 36") => `(tactic| skip)
local macro_rules | `(tactic| walk_at "pad 36") => `(tactic| skip)
local macro_rules | `(tactic| walk_at "pad 36") => `(tactic| skip)
local macro_rules | `(tactic| walk_at "pad 36") => `(tactic| skip)
local macro_rules | `(tactic| walk_at "pad 36") => `(tactic| skip)
local macro_rules | `(tactic| walk_at "pad 36") => `(tactic| skip)
local macro_rules | `(tactic| walk_at "pad 36") => `(tactic| skip)
local macro_rules | `(tactic| walk_at "pad 36") => `(tactic| skip)
local macro_rules | `(tactic| walk_at "pad 36") => `(tactic| skip)
local macro_rules | `(tactic| walk_at "pad 36") => `(tactic| skip)
local macro_rules | `(tactic| walk_at "pad 36") => `(tactic| skip)
local macro_rules | `(tactic| walk_at "pad 36") => `(tactic| skip)
local macro_rules | `(tactic| walk_at "pad 36") => `(tactic| skip)
local macro_rules | `(tactic| walk_at "pad 36") => `(tactic| skip)
local macro_rules | `(tactic| walk_at "pad 36") => `(tactic| skip)
local macro_rules | `(tactic| walk_at "pad 36") => `(tactic| skip)
local macro_rules | `(tactic| walk_at "pad 36") => `(tactic| skip)
local macro_rules | `(tactic| walk_at "pad 36") => `(tactic| skip)
local macro_rules | `(tactic| walk_at "pad 36") => `(tactic| skip)
local macro_rules | `(tactic| walk_at "pad 36") => `(tactic| skip)
local macro_rules | `(tactic| walk_at "pad 36") => `(tactic| skip)
local macro_rules | `(tactic| walk_at "pad 36") => `(tactic| skip)
local macro_rules | `(tactic| walk_at "pad 36") => `(tactic| skip)
local macro_rules | `(tactic| walk_at "pad 36") => `(tactic| skip)
local macro_rules | `(tactic| walk_at "pad 36") => `(tactic| skip)
local macro_rules | `(tactic| walk_at "pad 36") => `(tactic| skip)
local macro_rules | `(tactic| walk_at "pad 36") => `(tactic| skip)
local macro_rules | `(tactic| walk_at "pad 36") => `(tactic| skip)
local macro_rules | `(tactic| walk_at "pad 36") => `(tactic| skip)
local macro_rules | `(tactic| walk_at "pad 36") => `(tactic| skip)
local macro_rules | `(tactic| walk_at "pad 36") => `(tactic| skip)
local macro_rules | `(tactic| walk_at "pad 36") => `(tactic| skip)
local macro_rules | `(tactic| walk_at "pad 36") => `(tactic| skip)
local macro_rules | `(tactic| walk_at "pad 36") => `(tactic| skip)
local macro_rules | `(tactic| walk_at "pad 36") => `(tactic| skip)
local macro_rules | `(tactic| walk_at "pad 36") => `(tactic| skip)
local macro_rules | `(tactic| walk_at "pad 36") => `(tactic| skip)
local macro_rules | `(tactic| walk_at "call ref") => `(tactic| (k_here; k_dflt (refine' Mine.ConT.use (Mine.c_easter _ _ _ ?p0 ?p1) ?k1 ?k2 ?k3 ?k4 ?k5 ?kK ?kd ?ku ?_; (case p0 => first | assumption | omega); (case p1 => first | assumption | omega); (case k1 => k_asm); (case k2 => k_asm); (case k3 => k_asm); (case k4 => k_asm); (case k5 => k_asm); (case kK => first | exact rfl | assumption); (case kd => first | exact Mine.room_d (by assumption) (by decide) | ktr_room); (case ku => first | exact Mine.room_u (by assumption) (by decide) | ktr_units); intro x9 v9 n9 h9 tk9 I9 F9 N9 l9; (obtain ⟨t91, t92, t93, e9⟩ := Mine.ints3 I9); subst e9; clear I9; (try dsimp only); (try k_fold))))
local macro_rules | `(tactic| walk_at "call ref") => `(tactic| (k_here; k_dflt (refine' Mine.ConW.use (Mine.c_year _ _ _ _ _ _ _ ?p1 ?p2) ?k1 ?k2 ?k3 ?k4 ?k5 ?kK ?kd ?ku ?kH ?_; (case k1 => k_asm); (case k2 => k_asm); (case k3 => k_asm); (case k4 => k_asm); (case k5 => k_asm); (case kK => first | exact rfl | assumption); (case kd => first | exact Mine.room_d (by assumption) (by decide) | ktr_room); (case ku => first | exact Mine.room_u (by assumption) (by decide) | ktr_units); (case kH => ((try dsimp only); first | exact List.Mem.head _ | k_mem)); (case p1 => omega); (case p2 => omega); intro t9 h9 tk9 F9 N9; (try dsimp only); (try k_fold))))
namespace Mine
theorem law_walk : PySem.Challenge.rw_ad5035_01.Holds := by
  w_top off
  apply hd
  (k_with "pyIter ref" => k_search (fun (pre : List Int) => True))
  w_strict (k_go0)
  (all_goals try k_fold)
  k_steps
end Mine
end
end
theorem PySem.Challenge.cw_ad5035_01_holds : PySem.Challenge.rw_ad5035_01.Holds := by
  exact Mine.law_walk
