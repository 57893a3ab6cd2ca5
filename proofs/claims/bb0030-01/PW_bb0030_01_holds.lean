import PyProof.Rows.All
import Wide.All
import OpenK.AllK
import Wide.FinOn
import PySem.Challenge.RW_bb0030_01
set_option Elab.async false

/-! 1. The plain law: the days and dates of both calendars, no program in sight. -/
namespace Bb
/-- Gregorian leap year, in the walk's own words. -/
def leapG (y : Int) : Bool := decide (y.fmod 4 = 0 ∧ (¬ y.fmod 100 = 0 ∨ y.fmod 400 = 0))
def leapJ (y : Int) : Bool := decide (y.fmod 4 = 0)
def dimG (y m : Int) : Int := if m = 2 then (if leapG y = true then 29 else 28) else if m = 4 ∨ m = 6 ∨ m = 9 ∨ m = 11 then 30 else 31
def dimJ (y m : Int) : Int := if m = 2 then (if leapJ y = true then 29 else 28) else if m = 4 ∨ m = 6 ∨ m = 9 ∨ m = 11 then 30 else 31
def LegalG (y m d : Int) : Prop := 0 < d ∧ d ≤ dimG y m
def LegalJ (y m d : Int) : Prop := 0 < d ∧ d ≤ dimJ y m

/-- Gregorian date to day number. -/
def adjG (y m : Int) : Int := if m ≤ 2 then 0 else if leapG y = true then -1 else -2
def jdG (y m d : Int) : Int := 1721426 - 1 + 365 * (y - 1) + (y - 1).fdiv 4 + -((y - 1).fdiv 100) + (y - 1).fdiv 400 + ((367 * m - 362).fdiv 12 + adjG y m + d)
/-- the second road (to_jd2) -/
def jd2core (y m d : Int) : Int := 2 - y.fdiv 100 + (y.fdiv 100).fdiv 4 + d + (1461 * (y + 4716)).fdiv 4 + (306001 * (m + 1)).fdiv 10000 - 1524
def jd2 (y m d : Int) : Int := if m ≤ 2 then jd2core (y - 1) (m + 12) d else jd2core y m d
/-- Julian date to day number. -/
def jdJcore (y m d : Int) : Int := (1461 * (y + 4716)).fdiv 4 + (306001 * (m + 1)).fdiv 10000 + d - 1524
def jdJ (y m d : Int) : Int := if m ≤ 2 then jdJcore (y - 1) (m + 12) d else jdJcore y m d
def apart (y m : Int) : Int := (if m < 3 then y - 1 else y).fdiv 100 - ((if m < 3 then y - 1 else y).fdiv 100).fdiv 4 - 2

/-- day number to Julian date -/
def jC (a : Int) : Int := (20 * (a + 1524) - 2442).fdiv 7305
def jD (a : Int) : Int := (1461 * jC a).fdiv 4
def jE (a : Int) : Int := ((a + 1524 - jD a) * 10000).fdiv 306001
def jMon (a : Int) : Int := if jE a < 14 then jE a - 1 else jE a - 13
def jYear (a : Int) : Int := if jMon a > 2 then jC a - 4716 else jC a - 4715
def jDay (a : Int) : Int := a + 1524 - jD a - (306001 * jE a).fdiv 10000

/-- day number to Gregorian date -/
def gQc (a : Int) : Int := (a - 1721426).fdiv 146097
def gDqc (a : Int) : Int := (a - 1721426).fmod 146097
def gCent (a : Int) : Int := (gDqc a).fdiv 36524
def gDcent (a : Int) : Int := (gDqc a).fmod 36524
def gQuad (a : Int) : Int := (gDcent a).fdiv 1461
def gDquad (a : Int) : Int := (gDcent a).fmod 1461
def gYi (a : Int) : Int := (gDquad a).fdiv 365
def gYear (a : Int) : Int := if gCent a = 4 ∨ gYi a = 4 then gQc a * 400 + gCent a * 100 + gQuad a * 4 + gYi a else gQc a * 400 + gCent a * 100 + gQuad a * 4 + gYi a + 1
def gYday (a : Int) : Int := a - jdG (gYear a) 1 1
def gAdj (a : Int) : Int := if gYday a < 58 + (if leapG (gYear a) = true then 1 else 0) then 0 else if leapG (gYear a) = true then 1 else 2
def gMon (a : Int) : Int := ((gYday a + gAdj a) * 12 + 373).fdiv 367
def gDay (a : Int) : Int := a - jdG (gYear a) (gMon a) 1 + 1

theorem fd (a : Int) {b : Int} (h : 0 ≤ b) : a.fdiv b = a / b := Int.fdiv_eq_ediv_of_nonneg a h
theorem fm (a : Int) {b : Int} (h : 0 ≤ b) : a.fmod b = a % b := Int.fmod_eq_emod_of_nonneg a h

theorem leapG_iff (y : Int) : leapG y = true ↔ (y % 4 = 0 ∧ (¬ y % 100 = 0 ∨ y % 400 = 0)) := by
  unfold leapG
  rw [decide_eq_true_iff, fm y (by decide), fm y (by decide), fm y (by decide)]
theorem leapJ_iff (y : Int) : leapJ y = true ↔ y % 4 = 0 := by
  unfold leapJ
  rw [decide_eq_true_iff, fm y (by decide)]

theorem legalG_first (y m : Int) : LegalG y m 1 := by
  unfold LegalG dimG
  refine ⟨by decide, ?_⟩
  split <;> split <;> decide

/-! The Julian side. -/
theorem jC_eq (a : Int) : jC a = (20 * (a + 1524) - 2442) / 7305 := fd _ (by decide)
theorem jD_eq (a : Int) : jD a = 1461 * jC a / 4 := fd _ (by decide)
theorem jE_eq (a : Int) : jE a = (a + 1524 - jD a) * 10000 / 306001 := fd _ (by decide)

theorem jE_facts (a : Int) : 4 ≤ jE a ∧ jE a ≤ 15 ∧ 123 ≤ a + 1524 - jD a ∧ a + 1524 - jD a ≤ 488 ∧ (a + 1524 - jD a = 488 → jC a % 4 = 3) ∧ 306001 * jE a ≤ (a + 1524 - jD a) * 10000 ∧ (a + 1524 - jD a) * 10000 < 306001 * jE a + 306001 := by
  have h1 := jC_eq a
  have h2 := jD_eq a
  have h3 := jE_eq a
  generalize jC a = c at *
  generalize jD a = D at *
  generalize jE a = e at *
  have k1 : 123 ≤ a + 1524 - D := by omega
  have k2 : a + 1524 - D ≤ 488 := by omega
  have k3 : a + 1524 - D = 488 → c % 4 = 3 := by omega
  refine ⟨?_, ?_, k1, k2, k3, ?_, ?_⟩ <;> omega

theorem jMon_range (a : Int) : 1 ≤ jMon a ∧ jMon a ≤ 12 := by
  have h := jE_facts a
  unfold jMon
  split <;> omega

theorem jdJ_J (a : Int) : jdJ (jYear a) (jMon a) (jDay a) = a := by
  have h := jE_facts a
  have hD := jD_eq a
  have key : jdJcore (jC a - 4716) (jE a - 1) (jDay a) = a := by
    unfold jdJcore jDay
    rw [show jC a - 4716 + 4716 = jC a by omega, show jE a - 1 + 1 = jE a by omega, fd (1461 * jC a) (by decide)]
    omega
  unfold jdJ jYear
  have hm : (jE a < 14 ∧ jMon a = jE a - 1) ∨ (¬ jE a < 14 ∧ jMon a = jE a - 13) := by unfold jMon; split <;> omega
  rcases hm with ⟨h1, h2⟩ | ⟨h1, h2⟩
  · rw [if_neg (by omega), if_pos (by omega), h2]
    exact key
  · rw [if_pos (by omega), if_neg (by omega), h2, show jC a - 4715 - 1 = jC a - 4716 by omega, show jE a - 13 + 12 = jE a - 1 by omega]
    exact key

theorem legalJ_J (a : Int) : LegalJ (jYear a) (jMon a) (jDay a) := by
  obtain ⟨h1, h2, h3, h4, h5, h6, h7⟩ := jE_facts a
  have hm : (jE a < 14 ∧ jMon a = jE a - 1) ∨ (¬ jE a < 14 ∧ jMon a = jE a - 13) := by unfold jMon; split <;> omega
  have hy : (jMon a > 2 ∧ jYear a = jC a - 4716) ∨ (¬ jMon a > 2 ∧ jYear a = jC a - 4715) := by unfold jYear; split <;> omega
  have hd : jDay a = a + 1524 - jD a - 306001 * jE a / 10000 := by unfold jDay; rw [fd _ (by decide)]
  have hl := leapJ_iff (jYear a)
  unfold LegalJ dimJ
  generalize leapJ (jYear a) = l at *
  generalize jC a = c at *
  generalize a + 1524 - jD a = r at *
  generalize jE a = e at *
  generalize jMon a = m at *
  generalize jYear a = y at *
  generalize jDay a = d at *
  have he : e = 4 ∨ e = 5 ∨ e = 6 ∨ e = 7 ∨ e = 8 ∨ e = 9 ∨ e = 10 ∨ e = 11 ∨ e = 12 ∨ e = 13 ∨ e = 14 ∨ e = 15 := by omega
  refine ⟨by rcases he with rfl | rfl | rfl | rfl | rfl | rfl | rfl | rfl | rfl | rfl | rfl | rfl <;> omega, ?_⟩
  by_cases hm2 : m = 2
  · rw [if_pos hm2]
    have he2 : e = 15 := by omega
    subst he2
    cases l with
    | true => rw [if_pos rfl]; omega
    | false =>
      rw [if_neg (by decide)]
      have : ¬ y % 4 = 0 := fun h => absurd (hl.mpr h) (by decide)
      omega
  · rw [if_neg hm2]
    split <;> rcases he with rfl | rfl | rfl | rfl | rfl | rfl | rfl | rfl | rfl | rfl | rfl | rfl <;> omega

/-! The two day numbers of one date. -/
theorem q400 (x : Int) : x / 100 / 4 = x / 400 := by
  rw [Int.ediv_ediv_of_nonneg (by decide)]
  rfl
theorem jd2_eq (y m d : Int) : jd2 y m d = jdJ y m d - apart y m := by
  unfold jd2 jdJ apart jd2core jdJcore
  split
  · rw [if_pos (by omega)]; omega
  · rw [if_neg (by omega)]; omega

theorem jdJ_eq (y m d : Int) (h1 : 1 ≤ m) (h2 : m ≤ 12) : jdJ y m d = jdG y m d + apart y m := by
  have hl := leapG_iff y
  unfold jdJ apart jdG adjG jdJcore
  simp only [fd _ (show (0 : Int) ≤ 4 by decide), fd _ (show (0 : Int) ≤ 100 by decide), fd _ (show (0 : Int) ≤ 400 by decide), fd _ (show (0 : Int) ≤ 12 by decide), fd _ (show (0 : Int) ≤ 10000 by decide)]
  by_cases hm : m ≤ 2
  · rw [if_pos hm, if_pos hm, if_pos (show m < 3 by omega)]
    have hm' : m = 1 ∨ m = 2 := by omega
    have := q400 (y - 1)
    rcases hm' with rfl | rfl <;> omega
  · rw [if_neg hm, if_neg hm, if_neg (show ¬ m < 3 by omega)]
    have e1 : (306001 * (m + 1)) / 10000 = (367 * m - 362) / 12 + 61 := by
      have hm' : m = 3 ∨ m = 4 ∨ m = 5 ∨ m = 6 ∨ m = 7 ∨ m = 8 ∨ m = 9 ∨ m = 10 ∨ m = 11 ∨ m = 12 := by omega
      rcases hm' with rfl | rfl | rfl | rfl | rfl | rfl | rfl | rfl | rfl | rfl <;> decide
    rw [e1]
    generalize (367 * m - 362) / 12 = x
    have hq := q400 y
    have e0 : 1461 * (y + 4716) / 4 = 365 * y + y / 4 + 1722519 := by omega
    rw [e0, hq]
    have hL : (if leapG y = true then (-1 : Int) else -2) = if (y % 4 = 0 ∧ (¬ y % 100 = 0 ∨ y % 400 = 0)) then -1 else -2 := by
      by_cases h : leapG y = true
      · rw [if_pos h, if_pos (hl.mp h)]
      · rw [if_neg h, if_neg (fun k => h (hl.mpr k))]
    rw [hL]
    by_cases k4 : y % 4 = 0
    · by_cases k100 : y % 100 = 0
      · by_cases k400 : y % 400 = 0
        · rw [if_pos ⟨k4, .inr k400⟩]; omega
        · rw [if_neg (by omega)]; omega
      · rw [if_pos ⟨k4, .inl k100⟩]; omega
    · rw [if_neg (fun k => k4 k.1)]; omega

/-! The Gregorian side. -/
theorem g_parts (a : Int) : a - 1721426 = 146097 * gQc a + 36524 * gCent a + 1461 * gQuad a + gDquad a ∧ 0 ≤ gCent a ∧ gCent a ≤ 4 ∧ 0 ≤ gQuad a ∧ gQuad a ≤ 24 ∧ 0 ≤ gYi a ∧ gYi a ≤ 4 ∧
    365 * gYi a ≤ gDquad a ∧ gDquad a < 365 * gYi a + 365 ∧ gDquad a ≤ 1460 ∧ 36524 * gCent a + 1461 * gQuad a + gDquad a < 146097 ∧ 1461 * gQuad a + gDquad a < 36524 := by
  have h1 : gQc a = (a - 1721426) / 146097 := fd _ (by decide)
  have h2 : gDqc a = (a - 1721426) % 146097 := fm _ (by decide)
  have h3 : gCent a = gDqc a / 36524 := fd _ (by decide)
  have h4 : gDcent a = gDqc a % 36524 := fm _ (by decide)
  have h5 : gQuad a = gDcent a / 1461 := fd _ (by decide)
  have h6 : gDquad a = gDcent a % 1461 := fm _ (by decide)
  have h7 : gYi a = gDquad a / 365 := fd _ (by decide)
  generalize gQc a = q at *
  generalize gDqc a = n at *
  generalize gCent a = c at *
  generalize gDcent a = r at *
  generalize gQuad a = k at *
  generalize gDquad a = s at *
  generalize gYi a = i at *
  have e1 : a - 1721426 = 146097 * q + n ∧ 0 ≤ n ∧ n < 146097 := by omega
  have e2 : n = 36524 * c + r ∧ 0 ≤ r ∧ r < 36524 ∧ 0 ≤ c ∧ c ≤ 4 := by omega
  have e3 : r = 1461 * k + s ∧ 0 ≤ s ∧ s < 1461 ∧ 0 ≤ k ∧ k ≤ 24 := by omega
  have e4 : 365 * i ≤ s ∧ s < 365 * i + 365 ∧ 0 ≤ i ∧ i ≤ 4 := by omega
  clear h1 h2 h3 h4 h5 h6 h7
  omega

theorem jdG_ediv (y m d : Int) : jdG y m d = 1721425 + 365 * (y - 1) + (y - 1) / 4 - (y - 1) / 100 + (y - 1) / 400 + (367 * m - 362) / 12 + adjG y m + d := by
  unfold jdG
  rw [fd _ (show (0 : Int) ≤ 4 by decide), fd _ (show (0 : Int) ≤ 100 by decide), fd _ (show (0 : Int) ≤ 400 by decide), fd _ (show (0 : Int) ≤ 12 by decide)]
  omega
theorem jdG_newyear (y : Int) : jdG y 1 1 = 1721426 + 365 * (y - 1) + (y - 1) / 4 - (y - 1) / 100 + (y - 1) / 400 := by
  rw [jdG_ediv]
  have e : adjG y 1 = 0 := by unfold adjG; rw [if_pos (by decide)]
  rw [e]
  omega

theorem gYday_facts (a : Int) : 0 ≤ gYday a ∧ gYday a ≤ 365 ∧ (gYday a = 365 → leapG (gYear a) = true) := by
  obtain ⟨h1, h2, h3, h4, h5, h6, h7, h8, h9, h10, h11, h12⟩ := g_parts a
  have hy : ((gCent a = 4 ∨ gYi a = 4) ∧ gYear a = gQc a * 400 + gCent a * 100 + gQuad a * 4 + gYi a) ∨ (¬ (gCent a = 4 ∨ gYi a = 4) ∧ gYear a = gQc a * 400 + gCent a * 100 + gQuad a * 4 + gYi a + 1) := by
    unfold gYear
    by_cases h : gCent a = 4 ∨ gYi a = 4
    · exact .inl ⟨h, if_pos h⟩
    · exact .inr ⟨h, if_neg h⟩
  have hl := leapG_iff (gYear a)
  have hd : gYday a = a - jdG (gYear a) 1 1 := rfl
  rw [jdG_newyear] at hd
  rw [hl]
  generalize gYday a = d at *
  generalize gYear a = y at *
  generalize gQc a = q at *
  generalize gCent a = c at *
  generalize gQuad a = k at *
  generalize gDquad a = s at *
  generalize gYi a = i at *
  clear hl
  by_cases hc : c = 4
  · subst hc
    have e1 : k = 0 := by omega
    have e2 : i = 0 := by omega
    subst e1
    subst e2
    have e3 : y = 400 * q + 400 := by omega
    subst e3
    omega
  · by_cases hi : i = 4
    · subst hi
      have e1 : k ≤ 23 := by omega
      have e3 : y - 1 = 400 * q + 100 * c + 4 * k + 3 := by omega
      have f1 : (y - 1) / 4 = 100 * q + 25 * c + k := by omega
      have f2 : (y - 1) / 100 = 4 * q + c := by omega
      have f3 : (y - 1) / 400 = q := by omega
      rw [f1, f2, f3] at hd
      have g1 : y % 4 = 0 := by omega
      have g2 : ¬ y % 100 = 0 := by omega
      refine ⟨by omega, by omega, fun _ => ⟨g1, .inl g2⟩⟩
    · have e3 : y - 1 = 400 * q + 100 * c + 4 * k + i := by omega
      have f1 : (y - 1) / 4 = 100 * q + 25 * c + k := by omega
      have f2 : (y - 1) / 100 = 4 * q + c := by omega
      have f3 : (y - 1) / 400 = q := by omega
      rw [f1, f2, f3] at hd
      refine ⟨by omega, by omega, fun h => by omega⟩

theorem gMon_facts (a : Int) : 1 ≤ gMon a ∧ gMon a ≤ 12 ∧ LegalG (gYear a) (gMon a) (gDay a) := by
  obtain ⟨h1, h2, h3⟩ := gYday_facts a
  have hm : gMon a = ((gYday a + gAdj a) * 12 + 373) / 367 := fd _ (by decide)
  have hd : gDay a = a - jdG (gYear a) (gMon a) 1 + 1 := rfl
  have hy : gYday a = a - jdG (gYear a) 1 1 := rfl
  rw [jdG_newyear] at hy
  rw [jdG_ediv] at hd
  have hd' : gDay a = gYday a - (367 * gMon a - 362) / 12 - adjG (gYear a) (gMon a) + 1 := by omega
  clear hd hy
  have ha : gAdj a = if gYday a < 58 + (if leapG (gYear a) = true then 1 else 0) then 0 else if leapG (gYear a) = true then 1 else 2 := rfl
  unfold LegalG dimG
  unfold adjG at hd'
  generalize gAdj a = j at *
  generalize gYday a = d at *
  generalize gMon a = m at *
  generalize gDay a = x at *
  cases hb : leapG (gYear a) with
  | true =>
    rw [hb] at hd' ha h3
    simp only [if_true] at hd' ha ⊢
    clear h3 hb
    by_cases hj : d < 58 + 1
    · rw [if_pos hj] at ha
      subst ha
      have hm' : m = 1 ∨ m = 2 := by omega
      rcases hm' with rfl | rfl
      · simp; simp at hd'; omega
      · simp; simp at hd'; omega
    · rw [if_neg hj] at ha
      subst ha
      have hm' : m = 2 ∨ m = 3 ∨ m = 4 ∨ m = 5 ∨ m = 6 ∨ m = 7 ∨ m = 8 ∨ m = 9 ∨ m = 10 ∨ m = 11 ∨ m = 12 := by omega
      rcases hm' with rfl | rfl | rfl | rfl | rfl | rfl | rfl | rfl | rfl | rfl | rfl <;> simp <;> simp at hd' <;> omega
  | false =>
    rw [hb] at hd' ha h3
    have h3' : ¬ d = 365 := fun h => absurd (h3 h) (by decide)
    simp only [Bool.false_eq_true, if_false] at hd' ha ⊢
    clear hb h3
    by_cases hj : d < 58 + 0
    · rw [if_pos hj] at ha
      subst ha
      have hm' : m = 1 ∨ m = 2 := by omega
      rcases hm' with rfl | rfl
      · simp; simp at hd'; omega
      · simp; simp at hd'; omega
    · rw [if_neg hj] at ha
      subst ha
      have hm' : m = 2 ∨ m = 3 ∨ m = 4 ∨ m = 5 ∨ m = 6 ∨ m = 7 ∨ m = 8 ∨ m = 9 ∨ m = 10 ∨ m = 11 ∨ m = 12 := by omega
      rcases hm' with rfl | rfl | rfl | rfl | rfl | rfl | rfl | rfl | rfl | rfl | rfl <;> simp <;> simp at hd' <;> omega
theorem legalG_G (a : Int) : LegalG (gYear a) (gMon a) (gDay a) := (gMon_facts a).2.2
theorem jdG_G (a : Int) : jdG (gYear a) (gMon a) (gDay a) = a := by
  have h : gDay a = a - jdG (gYear a) (gMon a) 1 + 1 := rfl
  rw [jdG_ediv] at h ⊢
  omega
theorem dim_le (y m : Int) : dimG y m ≤ dimJ y m := by
  unfold dimG dimJ
  have h1 := leapG_iff y
  have h2 := leapJ_iff y
  split
  · by_cases h : leapG y = true
    · rw [if_pos h, if_pos (h2.mpr (h1.mp h).1)]; decide
    · rw [if_neg h]; split <;> decide
  · exact Int.le_refl _
theorem legalJ_G (a : Int) : LegalJ (gYear a) (gMon a) (gDay a) := by
  have h := legalG_G a
  exact ⟨h.1, Int.le_trans h.2 (dim_le _ _)⟩
theorem jdJ_G (a : Int) : jdJ (gYear a) (gMon a) (gDay a) = a + apart (gYear a) (gMon a) := by
  have h := gMon_facts a
  rw [jdJ_eq _ _ _ h.1 h.2.1, jdG_G]
theorem jd2_G (a : Int) : jd2 (gYear a) (gMon a) (gDay a) = a := by
  rw [jd2_eq, jdJ_G]
  omega

/-! The Julian date as a Gregorian one. -/
theorem jdG_J (a : Int) : jdG (jYear a) (jMon a) (jDay a) = a - apart (jYear a) (jMon a) := by
  have h := jMon_range a
  have e := jdJ_eq (jYear a) (jMon a) (jDay a) h.1 h.2
  rw [jdJ_J] at e
  omega
theorem legalG_J (a : Int) (h : ¬ (jMon a = 2 ∧ jDay a = 29 ∧ (jYear a).fmod 100 = 0 ∧ ¬ (jYear a).fmod 400 = 0)) : LegalG (jYear a) (jMon a) (jDay a) := by
  obtain ⟨k1, k2⟩ := legalJ_J a
  rw [fm _ (show (0 : Int) ≤ 100 by decide), fm _ (show (0 : Int) ≤ 400 by decide)] at h
  refine ⟨k1, ?_⟩
  have h1 := leapG_iff (jYear a)
  have h2 := leapJ_iff (jYear a)
  unfold dimG
  unfold dimJ at k2
  by_cases hm : jMon a = 2
  · rw [if_pos hm] at k2 ⊢
    by_cases hg : leapG (jYear a) = true
    · rw [if_pos hg]
      split at k2 <;> omega
    · rw [if_neg hg]
      by_cases hj : leapJ (jYear a) = true
      · rw [if_pos hj] at k2
        have q4 := h2.mp hj
        have ng : ¬ (jYear a % 4 = 0 ∧ (¬ jYear a % 100 = 0 ∨ jYear a % 400 = 0)) := fun k => hg (h1.mpr k)
        omega
      · rw [if_neg hj] at k2
        exact k2
  · rw [if_neg hm] at k2 ⊢
    exact k2

/-! Where both dates are one and the same. -/
theorem legal_day (y m d l : Int) (h1 : 1 ≤ m) (h2 : m ≤ 12) (hd : d ≤ if m = 2 then (28 + l) else if m = 4 ∨ m = 6 ∨ m = 9 ∨ m = 11 then 30 else 31) (h0 : 0 < d) (hl0 : 0 ≤ l) (hl1 : l ≤ 1) (M : Int) (hM : M = if m ≤ 2 then m + 12 else m) :
    123 ≤ 306001 * (M + 1) / 10000 + d ∧ 306001 * (M + 1) / 10000 + d ≤ 487 + l ∧ (306001 * (M + 1) / 10000 + d) * 10000 / 306001 = M + 1 ∧ (306001 * (M + 1) / 10000 + d = 488 → m = 2) := by
  have hm : m = 1 ∨ m = 2 ∨ m = 3 ∨ m = 4 ∨ m = 5 ∨ m = 6 ∨ m = 7 ∨ m = 8 ∨ m = 9 ∨ m = 10 ∨ m = 11 ∨ m = 12 := by omega
  rcases hm with rfl | rfl | rfl | rfl | rfl | rfl | rfl | rfl | rfl | rfl | rfl | rfl <;> simp at hM hd <;> subst hM <;> omega

theorem dimJ_le (y m : Int) : dimJ y m ≤ if m = 2 then (28 + (if y % 4 = 0 then 1 else 0)) else if m = 4 ∨ m = 6 ∨ m = 9 ∨ m = 11 then 30 else 31 := by
  have h := leapJ_iff y
  unfold dimJ
  by_cases hm : m = 2
  · rw [if_pos hm, if_pos hm]
    by_cases hy : y % 4 = 0
    · rw [if_pos (h.mpr hy), if_pos hy]; decide
    · rw [if_neg (fun k => hy (h.mp k)), if_neg hy]; decide
  · rw [if_neg hm, if_neg hm]
    exact Int.le_refl _

theorem jdJ_inj (y m d a : Int) (h1 : 1 ≤ m) (h2 : m ≤ 12) (hL : LegalJ y m d) (ha : jdJ y m d = a) : jYear a = y ∧ jMon a = m ∧ jDay a = d := by
  have hYM : ∃ Y M, (M = if m ≤ 2 then m + 12 else m) ∧ (Y = if m ≤ 2 then y - 1 else y) ∧ jdJcore Y M d = a := by
    refine ⟨_, _, rfl, rfl, ?_⟩
    rw [← ha]
    unfold jdJ
    split <;> rfl
  obtain ⟨Y, M, hM, hY, hc⟩ := hYM
  have hl := legal_day y m d (if y % 4 = 0 then 1 else 0) h1 h2 (Int.le_trans hL.2 (dimJ_le y m)) hL.1 (by split <;> decide) (by split <;> decide) M hM
  obtain ⟨t1, t2, t3, t4⟩ := hl
  unfold jdJcore at hc
  rw [fd _ (show (0 : Int) ≤ 4 by decide), fd _ (show (0 : Int) ≤ 10000 by decide)] at hc
  have hD : jDay a = a + 1524 - jD a - 306001 * jE a / 10000 := by unfold jDay; rw [fd _ (by decide)]
  have hb : a + 1524 = 1461 * (Y + 4716) / 4 + (306001 * (M + 1) / 10000 + d) := by omega
  have hC : jC a = Y + 4716 := by
    rw [jC_eq, hb]
    generalize 306001 * (M + 1) / 10000 + d = t at *
    by_cases ht : t = 488
    · have hm2 := t4 ht
      rw [if_pos (by omega)] at hY
      have hy4 : y % 4 = 0 := by
        by_cases k : y % 4 = 0
        · exact k
        · rw [if_neg k] at t2; omega
      omega
    · have : t ≤ 487 := by
        revert t2
        split <;> intro t2 <;> omega
      omega
  have hD2 : jD a = 1461 * (Y + 4716) / 4 := by rw [jD_eq, hC]
  have hE : jE a = M + 1 := by
    rw [jE_eq, hD2, hb, ← t3]
    congr 2
    omega
  have hMon : jMon a = m := by
    unfold jMon
    rw [hE, hM]
    split <;> split <;> omega
  refine ⟨?_, hMon, ?_⟩
  · unfold jYear
    rw [hMon, hC, hY]
    split <;> split <;> omega
  · rw [hD, hE, hD2]
    omega

theorem apart0 (a : Int) : apart (gYear a) (gMon a) = 0 ↔ (1794168 ≤ a ∧ a ≤ 1830691) := by
  obtain ⟨h1, h2, h3⟩ := gMon_facts a
  have hj := jdJ_G a
  have hlG := leapG_iff (gYear a)
  have hLJ := legalJ_G a
  generalize gYear a = y at *
  generalize gMon a = m at *
  generalize gDay a = d at *
  have hl := legal_day y m d (if y % 4 = 0 then 1 else 0) h1 h2 (Int.le_trans hLJ.2 (dimJ_le y m)) hLJ.1 (by split <;> decide) (by split <;> decide) _ rfl
  obtain ⟨t1, t2, _, t4⟩ := hl
  have hA : apart y m = (if m ≤ 2 then y - 1 else y) / 100 - (if m ≤ 2 then y - 1 else y) / 100 / 4 - 2 := by
    unfold apart
    have e : (if m < 3 then y - 1 else y) = (if m ≤ 2 then y - 1 else y) := by split <;> split <;> omega
    rw [e, fd _ (show (0 : Int) ≤ 100 by decide), fd _ (show (0 : Int) ≤ 4 by decide)]
  have hc : jdJ y m d = 1461 * ((if m ≤ 2 then y - 1 else y) + 4716) / 4 + (306001 * ((if m ≤ 2 then m + 12 else m) + 1) / 10000 + d) - 1524 := by
    unfold jdJ jdJcore
    rw [fd _ (show (0 : Int) ≤ 4 by decide), fd _ (show (0 : Int) ≤ 10000 by decide), fd _ (show (0 : Int) ≤ 4 by decide), fd _ (show (0 : Int) ≤ 10000 by decide)]
    split <;> omega
  have t2' : 306001 * ((if m ≤ 2 then m + 12 else m) + 1) / 10000 + d ≤ 488 := by
    revert t2
    split <;> intro t2 <;> omega
  -- the 366th day of a year counted from March is the 29th of a leap February
  have t5 : 306001 * ((if m ≤ 2 then m + 12 else m) + 1) / 10000 + d = 488 → (y % 4 = 0 ∧ (¬ y % 100 = 0 ∨ y % 400 = 0)) ∧ m = 2 := by
    intro ht
    have hm2 := t4 ht
    refine ⟨?_, hm2⟩
    rw [if_pos (show m ≤ 2 by omega), hm2] at ht
    have hd29 : d = 29 := by omega
    have hdim := h3.2
    unfold dimG at hdim
    rw [if_pos hm2] at hdim
    by_cases hg : leapG y = true
    · exact hlG.mp hg
    · rw [if_neg hg] at hdim; omega
  generalize 306001 * ((if m ≤ 2 then m + 12 else m) + 1) / 10000 + d = t at *
  have t6 : t = 488 → ((if m ≤ 2 then y - 1 else y) = 199 ∨ (if m ≤ 2 then y - 1 else y) = 299) → False := by
    intro ht
    obtain ⟨k1, k2⟩ := t5 ht
    rw [if_pos (show m ≤ 2 by omega)]
    omega
  generalize (if m ≤ 2 then y - 1 else y) = Y at *
  rw [hj, hA] at hc
  rw [hA]
  have e0 : 1461 * (Y + 4716) / 4 = 365 * Y + Y / 4 + 1722519 := by omega
  rw [e0] at hc
  clear t2 t4 t5 hj hA e0 hlG hLJ h3
  constructor
  · intro h
    have hY : 200 ≤ Y ∧ Y ≤ 299 := by omega
    have hY100 : Y / 100 = 2 := by omega
    rw [hY100] at hc
    by_cases k : Y = 299
    · have : ¬ t = 488 := fun q => t6 q (.inr k)
      omega
    · omega
  · intro h
    have q := q400 Y
    rw [q] at hc
    have hY1 : 200 ≤ Y := by
      by_cases k : Y = 199
      · have : ¬ t = 488 := fun q => t6 q (.inl k)
        omega
      · by_cases k2 : Y ≤ 198
        · exfalso; omega
        · omega
    have hY2 : Y ≤ 299 := by
      by_cases k2 : 300 ≤ Y
      · exfalso; omega
      · omega
    omega

theorem same_iff (a : Int) : (jYear a = gYear a ∧ jMon a = gMon a ∧ jDay a = gDay a) ↔ (1794168 ≤ a ∧ a ≤ 1830691) := by
  rw [← apart0]
  have hj := jdJ_G a
  constructor
  · rintro ⟨e1, e2, e3⟩
    rw [← e1, ← e2, ← e3, jdJ_J] at hj
    rw [← e1, ← e2]
    omega
  · intro h
    rw [h] at hj
    have hm := gMon_facts a
    exact jdJ_inj _ _ _ a hm.1 hm.2.1 (legalJ_G a) (by omega)

/-! The ways of the walk, as the words above say them. -/
theorem jMon_lo {a : Int} (h : ((a + 1524 - (1461 * (20 * (a + 1524) - 2442).fdiv 7305).fdiv 4) * 10000).fdiv 306001 < 14) : jMon a = ((a + 1524 - (1461 * (20 * (a + 1524) - 2442).fdiv 7305).fdiv 4) * 10000).fdiv 306001 - 1 := if_pos h
theorem jMon_hi {a : Int} (h : ¬ ((a + 1524 - (1461 * (20 * (a + 1524) - 2442).fdiv 7305).fdiv 4) * 10000).fdiv 306001 < 14) : jMon a = ((a + 1524 - (1461 * (20 * (a + 1524) - 2442).fdiv 7305).fdiv 4) * 10000).fdiv 306001 - 13 := if_neg h
theorem jYear_lo {a : Int} (h : ((a + 1524 - (1461 * (20 * (a + 1524) - 2442).fdiv 7305).fdiv 4) * 10000).fdiv 306001 < 14) : jYear a = (20 * (a + 1524) - 2442).fdiv 7305 - 4716 := by
  have k := jE_facts a
  have m : jMon a = jE a - 1 := if_pos h
  have h' : jE a < 14 := h
  show (if jMon a > 2 then jC a - 4716 else jC a - 4715) = jC a - 4716
  rw [m, if_pos (by omega)]
theorem jYear_hi {a : Int} (h : ¬ ((a + 1524 - (1461 * (20 * (a + 1524) - 2442).fdiv 7305).fdiv 4) * 10000).fdiv 306001 < 14) : jYear a = (20 * (a + 1524) - 2442).fdiv 7305 - 4715 := by
  have k := jE_facts a
  have m : jMon a = jE a - 13 := if_neg h
  have h' : ¬ jE a < 14 := h
  show (if jMon a > 2 then jC a - 4716 else jC a - 4715) = jC a - 4715
  rw [m, if_neg (by omega)]
theorem jDay_is {a : Int} : jDay a = a + 1524 - (1461 * (20 * (a + 1524) - 2442).fdiv 7305).fdiv 4 - (306001 * ((a + 1524 - (1461 * (20 * (a + 1524) - 2442).fdiv 7305).fdiv 4) * 10000).fdiv 306001).fdiv 10000 := rfl
theorem gYear_c {a : Int} (h : ((a - 1721426).fmod 146097).fdiv 36524 = 4) : gYear a = (a - 1721426).fdiv 146097 * 400 + ((a - 1721426).fmod 146097).fdiv 36524 * 100 + (((a - 1721426).fmod 146097).fmod 36524).fdiv 1461 * 4 + ((((a - 1721426).fmod 146097).fmod 36524).fmod 1461).fdiv 365 := if_pos (.inl h)
theorem gYear_i {a : Int} (h : ((((a - 1721426).fmod 146097).fmod 36524).fmod 1461).fdiv 365 = 4) : gYear a = (a - 1721426).fdiv 146097 * 400 + ((a - 1721426).fmod 146097).fdiv 36524 * 100 + (((a - 1721426).fmod 146097).fmod 36524).fdiv 1461 * 4 + ((((a - 1721426).fmod 146097).fmod 36524).fmod 1461).fdiv 365 := if_pos (.inr h)
theorem gYear_n {a : Int} (h1 : ((a - 1721426).fmod 146097).fdiv 36524 ≠ 4) (h2 : ((((a - 1721426).fmod 146097).fmod 36524).fmod 1461).fdiv 365 ≠ 4) : gYear a = (a - 1721426).fdiv 146097 * 400 + ((a - 1721426).fmod 146097).fdiv 36524 * 100 + (((a - 1721426).fmod 146097).fmod 36524).fdiv 1461 * 4 + ((((a - 1721426).fmod 146097).fmod 36524).fmod 1461).fdiv 365 + 1 := if_neg fun h => h.elim h1 h2
theorem same_absurd {a : Int} (h : ((jYear a == gYear a && (jMon a == gMon a && jDay a == gDay a)) != decide (1794168 ≤ a ∧ a ≤ 1830691)) = true) : False := by
  have e : (jYear a == gYear a && (jMon a == gMon a && jDay a == gDay a)) = decide (1794168 ≤ a ∧ a ≤ 1830691) := by
    rw [Bool.eq_iff_iff]
    simp only [Bool.and_eq_true, beq_iff_eq, decide_eq_true_eq]
    exact same_iff a
  rw [e] at h
  simp at h
theorem jdG_J_beq (a : Int) : (jdG (jYear a) (jMon a) (jDay a) == a - apart (jYear a) (jMon a)) = true := beq_iff_eq.mpr (jdG_J a)
theorem gMon_0 {x Y : Int} (e : gYear x = Y) (h : x - jdG Y 1 1 < 58 + (if leapG Y = true then 1 else 0)) : gMon x = ((x - jdG Y 1 1 + 0) * 12 + 373).fdiv 367 := by
  subst e
  unfold gMon gAdj gYday
  rw [if_pos h]
theorem gMon_1 {x Y : Int} (e : gYear x = Y) (h : ¬ x - jdG Y 1 1 < 58 + (if leapG Y = true then 1 else 0)) (hl : leapG Y = true) : gMon x = ((x - jdG Y 1 1 + 1) * 12 + 373).fdiv 367 := by
  subst e
  unfold gMon gAdj gYday
  rw [if_neg h, if_pos hl]
theorem gMon_2 {x Y : Int} (e : gYear x = Y) (h : ¬ x - jdG Y 1 1 < 58 + (if leapG Y = true then 1 else 0)) (hl : leapG Y = false) : gMon x = ((x - jdG Y 1 1 + 2) * 12 + 373).fdiv 367 := by
  subst e
  unfold gMon gAdj gYday
  rw [if_neg h, if_neg (by rw [hl]; decide)]
theorem gDay_of {x Y M : Int} (e : gYear x = Y) (eM : gMon x = M) : gDay x = x - jdG Y M 1 + 1 := by
  subst e
  subst eM
  rfl
end Bb

/-! 2. Rules for the walk. -/
section
open PySem PySem.W PySem.Calls PyProof.Rows PyProof.V PySem.Spec
namespace Bb
section
variable {prog : Program} {w : World} {A : Around} {E : Value → Shared → Prop} {s : Shared}

/-- `month in (4, 6, 9, 11)` upon a tuple of the top. -/
theorem in_top {K : Frag} {h₀ : Heap} {L a : Addr} {m : Str → Option Value} {n : Nat} {l : List Value} {dd : Option Addr} {sl : Array (Option Value)} {x : Int} {u : Tok} {Q : Value → Shared → Prop} (F : Fr h₀ L s.heap m) (X₀ : K.In h₀)
    (hl : K.lookup a = some ⟨.type "tuple", dd, .seq l.toArray n, sl⟩) (hi : IntsAre l [4, 6, 9, 11]) (h : Q (.bool (decide (x = 4 ∨ x = 6 ∨ x = 9 ∨ x = 11))) s) :
    wpAny (model prog w) A (compareOp .In (.int x u) (.ref a)) Q E s := by
  refine in_tuple_ints (tupK (X₀.keeps F.keep) hl) hi ?_
  have e : ([4, 6, 9, 11] : List Int).any (· == x) = decide (x = 4 ∨ x = 6 ∨ x = 9 ∨ x = 11) := by
    rw [Bool.eq_iff_iff]
    simp only [List.any_cons, List.any_nil, Bool.or_false, Bool.or_eq_true, beq_iff_eq, decide_eq_true_eq]
    omega
  rw [e]
  exact h

theorem small2 {b : Int} (h0 : 0 ≤ b) (h1 : b ≤ 63) : Builtin.Range.small 0 b 2 = true := by
  unfold Builtin.Range.small
  rw [rangeSize_pos (by decide) h0]
  simp only [Builtin.Range.rangeFitsLong, Bool.and_eq_true, Bool.or_eq_true, decide_eq_true_eq, beq_iff_eq, show ((2 : Int) > 0) by decide, if_true]
  omega

/-- A loop over range(0, b, 2) that stores nothing but names it forgets: at every turn 0 ≤ k < b. -/
theorem range2 {env : Env} {h₀ : Heap} {x : Str} {body : List Stmt} {Q : Flow → Shared → Prop} {r : Addr} {b₀ : Int} {t₀ u₀ v₀ : Tok} {m₀ : Str → Option Value} (Led : List (Addr × Obj)) (stored : List Str)
    (hh : A.handled = none) (hr : IsRange s.heap r 0 b₀ 2 t₀ u₀ v₀) (hb0 : 0 ≤ b₀) (hb1 : b₀ ≤ 63) (F : Fr h₀ env.locals s.heap m₀) (N : News h₀ env.locals s.heap Led)
    (turn : ∀ (pre : List Int) (k : Int) t (u : Str → Option Value) h tk own, 0 ≤ k → k < b₀ → OwnOff own (Led.map (·.1)) →
      Fr h₀ env.locals h (fun y => if y = x then some (.int k t) else if stored.contains y then u y else m₀ y) → News h₀ env.locals h (Led ++ own) →
      wpAny (model prog w) A (execs body env) (InvPostN h₀ env.locals (KstS (fun _ : Unit => Led) (fun _ => []) (fun _ => True) x stored m₀ (fun _ _ => True) (pre ++ [k])) own (Led.map (·.1)) { s with heap := h, toks := tk } Q) E { s with heap := h, toks := tk })
    (done : ∀ (u : Str → Option Value) h tk, Fr h₀ env.locals h (fun y => if y = x then u y else if stored.contains y then u y else m₀ y) → News h₀ env.locals h Led → Q .next { s with heap := h, toks := tk }) :
    wpAny (model prog w) A (pyIter (.ref r)) (fun it s₂ => LoopAtV prog w A h₀ env x body Q E it s₂) E s := by
  refine wpAny_pyIter_range hr (small2 hb0 hb1) ?_
  obtain ⟨n, hn⟩ : ∃ n : Nat, Builtin.Range.rangeSize 0 b₀ 2 = (n : Int) := ⟨_, rangeSize_toNat 0 b₀ 2⟩
  have W : Walks prog w A s.heap.objs.size [s.heap.objs.size] [s.heap.objs.size] n (fun i v => i < n ∧ ∃ t, v = .int (0 + i * 2) t)
      (fun i h => IsRangeIter h s.heap.objs.size (0 + (i : Nat) * 2) ((n : Int) - (i : Nat)) 2) := (Walks.range hh _ 0 2 n).bound
  refine loop_invN (fun i m nx => KstS (fun _ : Unit => Led) (fun _ => []) (fun _ => True) x stored m₀ (fun _ _ => True) [] m nx) W ?_ ?_ ?_ ?_ (by show IsRangeIter _ _ _ _ _; rw [hn]; simpa using Heap.get?_push_size _ rfl) (F.push _) (fun p hp => ⟨Heap.get?_push_of_some _ (N p hp).1, (N p hp).2⟩) ⟨(), rfl, trivial, (fun _ hp => nomatch hp), fun _ _ _ _ => rfl, trivial⟩ ?_ ?_
  · intro hm
    exact absurd F.ns.lt ((List.mem_singleton.mp hm) ▸ Nat.lt_irrefl _)
  · intro b hb
    rw [List.mem_singleton.mp hb]
    exact next_is_new F
  · intro p hp hI
    exact absurd (Heap.lt_size (N p hp).1) ((List.mem_singleton.mp hI) ▸ Nat.lt_irrefl _)
  · intro p hp hI
    exact absurd (Heap.lt_size (N p hp).1) ((List.mem_singleton.mp hI) ▸ Nat.lt_irrefl _)
  · rintro i v m₁ nx h tk own hi ⟨_, t, rfl⟩ _ hoff ⟨c, rfl, hf', h1, h2, hp'⟩ F₁ N₁
    have hin := start_inside (len := b₀) (c := 2) (v := (i : Int)) (by decide) hb0 (by omega) (by rw [hn]; omega)
    rw [Int.zero_add] at F₁
    have e := kst_fr h1 h2 F₁
    exact turn [] _ t m₁ h tk own hin.1 hin.2 hoff e N₁
  · rintro m₁ nx h tk ⟨c, rfl, hf', h1, h2, hp'⟩ F₁ N₁
    exact done m₁ h tk (kst_frOut h1 h2 F₁) N₁
end
end Bb
namespace Bb
section
variable {prog : Program} {w : World} {A : Around} {E : Value → Shared → Prop} {s : Shared}
abbrev mkI : Int → Tok → Value := fun b t => Value.int b t
/-- A call that gives back a tuple of three ints, its ways joined. -/
theorem join3 {h₀ : Heap} {L : Addr} {m : Str → Option Value} {news : List (Addr × Obj)} {Q : Value → Shared → Prop} {cm : Sem Value} (g1 g2 g3 : Int)
    (_F : Fr h₀ L s.heap m) (_N : News h₀ L s.heap news)
    (hc : wpAny (model prog w) A cm (fun v s₂ => KCt3 mkI mkI mkI h₀ L m news s g1 g2 g3 v s₂) E s)
    (hk : ∀ (D : Addr) (t1 t2 t3 : Tok) (c : Nat) (h : Heap) (tk : Nat), Fr h₀ L h m → News h₀ L h ((D, ({ cls := .type "tuple", data := .seq #[Value.int g1 t1, Value.int g2 t2, Value.int g3 t3] c } : Obj)) :: news) → AllLt D news → Q (.ref D) { s with heap := h, toks := tk }) :
    wpAny (model prog w) A cm Q E s := by
  refine wpAny_mono hc (fun v s₂ hq => ?_) fun _ _ h => h
  obtain ⟨D, t1, t2, t3, c, h, tk, hv, hs, F, N, hl⟩ := hq
  subst hv
  subst hs
  exact hk D t1 t2 t3 c h tk F N hl
end
end Bb
end

/-! 3. The defs' contracts, as data. -/
section
open PySem PySem.W PySem.Calls PyProof.Rows
namespace Bb
/-- one, two, three ints as a def's arguments -/
inductive R1 : List (Addr × Obj) → List Value → Int → Prop where
  | mk {news : List (Addr × Obj)} {y : Int} {t : Tok} : R1 news [.int y t] y
inductive R2 : List (Addr × Obj) → List Value → Int × Int → Prop where
  | mk {news : List (Addr × Obj)} {y m : Int} {t u : Tok} : R2 news [.int y t, .int m u] (y, m)
inductive R3 : List (Addr × Obj) → List Value → Int × Int × Int → Prop where
  | mk {news : List (Addr × Obj)} {y m d : Int} {t u v : Tok} : R3 news [.int y t, .int m u, .int d v] (y, m, d)
abbrev cB1 (n : Nat) (F : Int → Bool) : ToldN Int where
  Rel := R1
  Ok := fun _ => True
  size := fun _ => n
  Tl := fun tl => tl = []
  Out := fun _ r d => ∃ _t : Tok, r = .bool (F d)
abbrev cI2 (n : Nat) (F : Int → Int → Int) : ToldN (Int × Int) where
  Rel := R2
  Ok := fun _ => True
  size := fun _ => n
  Tl := fun tl => tl = []
  Out := fun _ r d => ∃ t, r = .int (F d.1 d.2) t
abbrev cI3 (n : Nat) (P : Int → Int → Int → Prop) (F : Int → Int → Int → Int) : ToldN (Int × Int × Int) where
  Rel := R3
  Ok := fun d => P d.1 d.2.1 d.2.2
  size := fun _ => n
  Tl := fun tl => tl = []
  Out := fun _ r d => ∃ t, r = .int (F d.1 d.2.1 d.2.2) t
abbrev cT3 (n : Nat) (P : Int → Int → Int → Prop) : ToldN (Int × Int × Int) where
  Rel := R3
  Ok := fun d => P d.1 d.2.1 d.2.2
  size := fun _ => n
  Tl := fun tl => tl = []
  Out := fun _ r _ => ∃ _t : Tok, r = .bool true
def Feb29 (y m d : Int) : Prop := m = 2 ∧ d = 29 ∧ leapG y = false

section
variable {prog : Program} {w : World} {A : Around} {E : Value → Shared → Prop} {s : Shared} {h₀ : Heap} {L f : Addr} {m : Str → Option Value} {news : List (Addr × Obj)} {Q : Value → Shared → Prop} {a : Int} {t : Tok}
theorem joinJ (F : Fr h₀ L s.heap m) (N : News h₀ L s.heap news)
    (hc : wpAny (model prog w) A (call (.ref f) [.int a t]) (fun v s₂ => KCt3 mkI mkI mkI h₀ L m news s (jYear a) (jMon a) (jDay a) v s₂) E s)
    (hk : ∀ (D : Addr) (t1 t2 t3 : Tok) (c : Nat) (h : Heap) (tk : Nat), LegalJ (jYear a) (jMon a) (jDay a) → jdJ (jYear a) (jMon a) (jDay a) = a →
      Fr h₀ L h m → News h₀ L h ((D, ({ cls := .type "tuple", data := .seq #[Value.int (jYear a) t1, Value.int (jMon a) t2, Value.int (jDay a) t3] c } : Obj)) :: news) → AllLt D news → Q (.ref D) { s with heap := h, toks := tk }) :
    wpAny (model prog w) A (call (.ref f) [.int a t]) Q E s := join3 _ _ _ F N hc fun D t1 t2 t3 c h tk => hk D t1 t2 t3 c h tk (legalJ_J a) (jdJ_J a)
theorem joinG (F : Fr h₀ L s.heap m) (N : News h₀ L s.heap news)
    (hc : wpAny (model prog w) A (call (.ref f) [.int a t]) (fun v s₂ => KCt3 mkI mkI mkI h₀ L m news s (gYear a) (gMon a) (gDay a) v s₂) E s)
    (hk : ∀ (D : Addr) (t1 t2 t3 : Tok) (c : Nat) (h : Heap) (tk : Nat), LegalG (gYear a) (gMon a) (gDay a) → LegalJ (gYear a) (gMon a) (gDay a) → jdG (gYear a) (gMon a) (gDay a) = a → jd2 (gYear a) (gMon a) (gDay a) = a →
      jdJ (gYear a) (gMon a) (gDay a) = a + apart (gYear a) (gMon a) → ((jYear a = gYear a ∧ jMon a = gMon a ∧ jDay a = gDay a) ↔ (1794168 ≤ a ∧ a ≤ 1830691)) →
      Fr h₀ L h m → News h₀ L h ((D, ({ cls := .type "tuple", data := .seq #[Value.int (gYear a) t1, Value.int (gMon a) t2, Value.int (gDay a) t3] c } : Obj)) :: news) → AllLt D news → Q (.ref D) { s with heap := h, toks := tk }) :
    wpAny (model prog w) A (call (.ref f) [.int a t]) Q E s := join3 _ _ _ F N hc fun D t1 t2 t3 c h tk => hk D t1 t2 t3 c h tk (legalG_G a) (legalJ_G a) (jdG_G a) (jd2_G a) (jdJ_G a) (same_iff a)
end
end Bb
namespace Bb
/-- What a call of _law_one_day from the law's own frame comes to. -/
def DayClaim (prog : Program) (w : World) (K : Frag) (p : Program) (loose : List Str) (mean : ExcName → Option Value) (mg mb : Str → Option Value) (f : Addr) : Prop :=
  ∀ (cn : Str) (cs : Scope) (a : Addr) (ccd : Value) (base h₀ : Heap) (L : Addr) (m : Str → Option Value) (news : List (Addr × Obj)) (s : Shared) (x : Int) (t : Tok) (Q E : Value → Shared → Prop),
    Below callerA base [] h₀ → Fr h₀ L s.heap m → K.In h₀ → News h₀ L s.heap news → Top p loose mean mg mb h₀ → cs.kind = .function →
    (∀ b h' tk', b = true → Fr h₀ L h' m → News h₀ L h' news → Q (.bool b) { s with heap := h', toks := tk' }) →
    wpAny (model prog w) (callerA.deeper (envOf cn cs L a ccd)) (call (.ref f) [.int x t]) Q E s
theorem DayClaim.use {prog : Program} {w : World} {K : Frag} {p : Program} {loose : List Str} {mean : ExcName → Option Value} {mg mb : Str → Option Value} {f : Addr} (C : DayClaim prog w K p loose mean mg mb f)
    {cn : Str} {cs : Scope} {a : Addr} {ccd : Value} {base h₀ : Heap} {L : Addr} {m : Str → Option Value} {news : List (Addr × Obj)} {s : Shared} {x : Int} {t : Tok} {Q E : Value → Shared → Prop}
    (B : Below callerA base [] h₀) (F : Fr h₀ L s.heap m) (X : K.In h₀) (N : News h₀ L s.heap news) (T : Top p loose mean mg mb h₀) (hk : cs.kind = .function)
    (ret : ∀ h' tk', Fr h₀ L h' m → News h₀ L h' news → Q (.bool true) { s with heap := h', toks := tk' }) :
    wpAny (model prog w) (callerA.deeper (envOf cn cs L a ccd)) (call (.ref f) [.int x t]) Q E s :=
  C _ _ _ _ _ _ _ _ _ _ _ _ _ _ B F X N T hk fun b h' tk' e F' N' => by subst e; exact ret h' tk' F' N'
end Bb
namespace Bb
/-- A Julian 29 February that the Gregorian calendar lacks. -/
structure Refuse (y m d : Int) : Prop where
  month : m = 2
  day : d = 29
  leap : leapG y = false
theorem refuse_of {y m d : Int} (h : m = 2 ∧ d = 29 ∧ y.fmod 100 = 0 ∧ ¬ y.fmod 400 = 0) : Refuse y m d := by
  refine ⟨h.1, h.2.1, ?_⟩
  unfold leapG
  exact decide_eq_false (by omega)
theorem refuse_in {M : Model} {A : Around} {f : Addr} {y m d : Int} {t u v : Tok} {Q E : Value → Shared → Prop} {s : Shared} (h : Refuse y m d)
    (k : Refuse y m d → m = 2 → d = 29 → leapG y = false → wpAny M A (call (.ref f) [.int y t, .int m u, .int d v]) Q E s) : wpAny M A (call (.ref f) [.int y t, .int m u, .int d v]) Q E s := k h h.1 h.2 h.3
end Bb
end

/-! 4. The top's run, once. -/
open PySem PySem.W PyProof.Rows PySem.Calls
set_option maxRecDepth 100000 in
set_option maxHeartbeats 8000000 in
open_top Bb.hd for PySem.Challenge.rw_bb0030_01

/-! 5. The walk: each def once; then the law. -/
local macro_rules | `(tactic| walk_at "execs cons") => `(tactic| (k_here; dsimp only; walk_at "execs cons"))
local macro_rules | `(tactic| walk_at "execs nil") => `(tactic| (k_here; dsimp only; walk_at "execs nil"))
local macro_rules | `(tactic| walk_at "eval Call") => `(tactic| k_dflt (refine Call_ ?_))
local macro_rules | `(tactic| walk_at "eval Compare") => `(tactic| k_extra "eval Compare")
local macro_rules | `(tactic| walk_at "call ref") => `(tactic| k_extra "call ref")
local macro_rules | `(tactic| walk_at "compareOp In int ref") => `(tactic| (k_here; (with_unfolding_all (refine' Bb.in_top ?F ?X ?l ?i ?_; (case F => k_asm); (case X => k_asm); (case l => k_is); (case i => l_ints); k_whole))))
local macro_rules | `(tactic| walk_at "pyIter ref") => `(tactic| ((with_reducible show wpAny _ _ (pyIter (Value.ref _)) (fun it s₂ => LoopAtV _ _ _ _ _ _ _ _ _ it s₂) _ _); k_here; (rename Fr _ _ _ _ => lF'); (rename News _ _ _ _ => lN'); (rename IsRange _ _ 0 (Nat.cast (List.length (List.take 16 _))) 2 _ _ _ => rgX); (with_unfolding_all refine' Bb.range2 _ [Str.ofString "start"] (by rfl) rgX (by omega) (by (rw [List.length_take]; omega)) lF' lN' (fun kPre k kT kU kH kTk kOwn hk0 hk1 kOff kFr kNews => ?_) (fun kU kH kTk kFr kNews => ?_)); (all_goals (try clear lF' lN')); (all_goals (try k_fold))))
local macro_rules | `(tactic| walk_at "KCj") => `(tactic| ((refine' kcj_end (t := (0 : Nat)) ?kce ?kcv ?kcs ?kcf ?kcn ?kch); (case kcv => with_unfolding_all rfl); (case kcs => rfl); (case kcf => first | with_reducible assumption | assumption); (case kcn => first | with_reducible assumption | assumption); (case kch => first | (with_reducible first | exact fun p hp => hp | exact fun p hp => List.mem_cons_of_mem _ hp | exact fun p hp => List.mem_cons_of_mem _ (List.mem_cons_of_mem _ hp) | exact fun p hp => List.mem_cons_of_mem _ (List.mem_cons_of_mem _ (List.mem_cons_of_mem _ hp)) | kcj_in) | kcj_all); (case kce => ((rw [Bool.eq_iff_iff]); (simp only [decide_eq_true_eq, Bool.false_eq_true, false_iff, iff_false]); omega))))
local macro_rules | `(tactic| walk_at "KCt3") => `(tactic| (refine' kcu3_end ?kta ?ktb ?ktc ?ktv ?kts ?ktf ?ktn ?kth ?ktl; (case ktv => with_unfolding_all rfl); (case kts => rfl); (case ktf => assumption); (case ktn => kcu_news); (case kth => first | (with_reducible first | exact fun p hp => hp | exact fun p hp => List.mem_cons_of_mem _ hp | exact fun p hp => List.mem_cons_of_mem _ (List.mem_cons_of_mem _ hp) | exact fun p hp => List.mem_cons_of_mem _ (List.mem_cons_of_mem _ (List.mem_cons_of_mem _ hp)) | kcj_in) | kcj_all); (case ktl => kcu_lt); (case kta => (first | ((with_reducible show Bb.jYear _ = _); with_reducible first | exact Bb.jYear_lo (by with_reducible assumption) | exact Bb.jYear_hi (by with_reducible assumption)) | ((with_reducible show Bb.gYear _ = _); (with_reducible (first | exact Bb.gYear_c (by with_reducible first | assumption | (show ¬ _; assumption)) | exact Bb.gYear_i (by with_reducible first | assumption | (show ¬ _; assumption)) | exact Bb.gYear_n (by with_reducible first | assumption | (show ¬ _; assumption)) (by with_reducible first | assumption | (show ¬ _; assumption))))))); (case ktb => (first | ((with_reducible show Bb.jMon _ = _); with_reducible first | exact Bb.jMon_lo (by with_reducible assumption) | exact Bb.jMon_hi (by with_reducible assumption)) | ((with_reducible show Bb.gMon _ = _); (with_reducible (first | exact Bb.gMon_0 (by (first | exact Bb.gYear_c (by with_reducible first | assumption | (show ¬ _; assumption)) | exact Bb.gYear_i (by with_reducible first | assumption | (show ¬ _; assumption)) | exact Bb.gYear_n (by with_reducible first | assumption | (show ¬ _; assumption)) (by with_reducible first | assumption | (show ¬ _; assumption)))) (by with_reducible first | assumption | (show ¬ _; assumption)) | exact Bb.gMon_1 (by (first | exact Bb.gYear_c (by with_reducible first | assumption | (show ¬ _; assumption)) | exact Bb.gYear_i (by with_reducible first | assumption | (show ¬ _; assumption)) | exact Bb.gYear_n (by with_reducible first | assumption | (show ¬ _; assumption)) (by with_reducible first | assumption | (show ¬ _; assumption)))) (by with_reducible first | assumption | (show ¬ _; assumption)) (by with_reducible first | assumption | (show ¬ _; assumption)) | exact Bb.gMon_2 (by (first | exact Bb.gYear_c (by with_reducible first | assumption | (show ¬ _; assumption)) | exact Bb.gYear_i (by with_reducible first | assumption | (show ¬ _; assumption)) | exact Bb.gYear_n (by with_reducible first | assumption | (show ¬ _; assumption)) (by with_reducible first | assumption | (show ¬ _; assumption)))) (by with_reducible first | assumption | (show ¬ _; assumption)) (by with_reducible first | assumption | (show ¬ _; assumption))))))); (case ktc => (first | ((with_reducible show Bb.jDay _ = _); with_reducible exact Bb.jDay_is) | ((with_reducible show Bb.gDay _ = _); (with_reducible (exact Bb.gDay_of (by (first | exact Bb.gYear_c (by with_reducible first | assumption | (show ¬ _; assumption)) | exact Bb.gYear_i (by with_reducible first | assumption | (show ¬ _; assumption)) | exact Bb.gYear_n (by with_reducible first | assumption | (show ¬ _; assumption)) (by with_reducible first | assumption | (show ¬ _; assumption)))) (by (first | exact Bb.gMon_0 (by (first | exact Bb.gYear_c (by with_reducible first | assumption | (show ¬ _; assumption)) | exact Bb.gYear_i (by with_reducible first | assumption | (show ¬ _; assumption)) | exact Bb.gYear_n (by with_reducible first | assumption | (show ¬ _; assumption)) (by with_reducible first | assumption | (show ¬ _; assumption)))) (by with_reducible first | assumption | (show ¬ _; assumption)) | exact Bb.gMon_1 (by (first | exact Bb.gYear_c (by with_reducible first | assumption | (show ¬ _; assumption)) | exact Bb.gYear_i (by with_reducible first | assumption | (show ¬ _; assumption)) | exact Bb.gYear_n (by with_reducible first | assumption | (show ¬ _; assumption)) (by with_reducible first | assumption | (show ¬ _; assumption)))) (by with_reducible first | assumption | (show ¬ _; assumption)) (by with_reducible first | assumption | (show ¬ _; assumption)) | exact Bb.gMon_2 (by (first | exact Bb.gYear_c (by with_reducible first | assumption | (show ¬ _; assumption)) | exact Bb.gYear_i (by with_reducible first | assumption | (show ¬ _; assumption)) | exact Bb.gYear_n (by with_reducible first | assumption | (show ¬ _; assumption)) (by with_reducible first | assumption | (show ¬ _; assumption)))) (by with_reducible first | assumption | (show ¬ _; assumption)) (by with_reducible first | assumption | (show ¬ _; assumption))))))))); (all_goals exact (0 : Nat))))
local macro_rules | `(tactic| k_asm) => `(tactic| ((with_reducible show News _ _ _ _); first | with_reducible assumption | exact cb_drop (by with_reducible assumption) (by first | (with_reducible first | exact fun p hp => hp | exact fun p hp => List.mem_cons_of_mem _ hp | exact fun p hp => List.mem_cons_of_mem _ (List.mem_cons_of_mem _ hp) | exact fun p hp => List.mem_cons_of_mem _ (List.mem_cons_of_mem _ (List.mem_cons_of_mem _ hp)) | kcj_in) | kcj_all)))
local macro_rules | `(tactic| ktr_unf) => `(tactic| (try dsimp only [Bb.cB1, Bb.cI2, Bb.cI3, Bb.cT3] at *))
local macro_rules | `(tactic| ktr_rel) => `(tactic| first | assumption | exact Bb.R1.mk | exact Bb.R2.mk | exact Bb.R3.mk | exact ⟨0, rfl⟩ | exact rfl | exact trivial | (exact ⟨_, rfl⟩) | exact Bb.legalG_first _ _ | exact Bb.legalG_J _ (by omega) | (refine ktn_int ?_; (simp only [Bb.dimG, Bb.dimJ, Bb.jdG, Bb.adjG, Bb.jd2, Bb.jd2core, Bb.jdJ, Bb.jdJcore, Bb.apart]); (repeat' split) <;> first | rfl | omega | (simp_all; done) | (simp_all; omega)) | ((refine ⟨0, congrArg Value.bool ?_⟩); (simp only [Bb.leapG, Bb.leapJ]); first | rfl | ((rw [Bool.eq_iff_iff]); (simp only [bne_iff_ne, beq_iff_eq, decide_eq_true_eq, ne_eq, Bool.false_eq_true, false_iff]); omega) | (simp_all; done)))
local macro_rules | `(tactic| walk_at "exec Raise some none") => `(tactic| ((fail_if_success (with_reducible rename Bb.Refuse _ _ _ => bbR)); exfalso; (simp only [Bb.LegalG, Bb.LegalJ, Bb.dimG] at *); (first | omega | (simp_all; done) | (simp_all; omega))))

namespace Bb
set_option maxRecDepth 100000 in
set_option maxHeartbeats 8000000 in
theorem told_isleap (w : World) (mean : ExcName → Option Value) (mg mb : Str → Option Value) : ∀ d, TellsN PySem.Challenge.rw_bb0030_01.row.prog w (Bb.hd.heap_39 w.params) Bb.hd.view_39 (looseW Bb.hd.view_39 [Str.ofString "legal_date_gregorian", Str.ofString "to_jd_gregorian", Str.ofString "from_jd_gregorian", Str.ofString "legal_date_julian", Str.ofString "from_jd_julian", Str.ofString "to_jd_julian"]) mean mg mb 21 (Bb.cB1 1 Bb.leapG) d := by
  k_with_none
  k_fill
  refine tellsN_of fun d IH => ?_
  ktn_step

set_option maxRecDepth 100000 in
set_option maxHeartbeats 8000000 in
theorem told_leap (w : World) (mean : ExcName → Option Value) (mg mb : Str → Option Value) : ∀ d, TellsN PySem.Challenge.rw_bb0030_01.row.prog w (Bb.hd.heap_39 w.params) Bb.hd.view_39 (looseW Bb.hd.view_39 [Str.ofString "legal_date_gregorian", Str.ofString "to_jd_gregorian", Str.ofString "from_jd_gregorian", Str.ofString "legal_date_julian", Str.ofString "from_jd_julian", Str.ofString "to_jd_julian"]) mean mg mb 58 (Bb.cB1 1 Bb.leapJ) d := by
  k_with_none
  k_fill
  refine tellsN_of fun d IH => ?_
  ktn_step

set_option maxRecDepth 100000 in
set_option maxHeartbeats 8000000 in
theorem told_month_length (w : World) (mean : ExcName → Option Value) (mg mb : Str → Option Value) : ∀ d, TellsN PySem.Challenge.rw_bb0030_01.row.prog w (Bb.hd.heap_39 w.params) Bb.hd.view_39 (looseW Bb.hd.view_39 [Str.ofString "legal_date_gregorian", Str.ofString "to_jd_gregorian", Str.ofString "from_jd_gregorian", Str.ofString "legal_date_julian", Str.ofString "from_jd_julian", Str.ofString "to_jd_julian"]) mean mg mb 65 (Bb.cI2 2 Bb.dimJ) d := by
  k_with_none
  k_with "call ref" => (ktn_call (Str.ofString "leap") (Bb.cB1 1 Bb.leapJ))
  k_fill
  have C0 := told_leap w mean mg mb
  refine tellsN_of fun d IH => ?_
  ktn_step

set_option maxRecDepth 100000 in
set_option maxHeartbeats 8000000 in
theorem told_legal_date_gregorian (w : World) (mean : ExcName → Option Value) (mg mb : Str → Option Value) : ∀ d, TellsN PySem.Challenge.rw_bb0030_01.row.prog w (Bb.hd.heap_39 w.params) Bb.hd.view_39 (looseW Bb.hd.view_39 [Str.ofString "legal_date_gregorian", Str.ofString "to_jd_gregorian", Str.ofString "from_jd_gregorian", Str.ofString "legal_date_julian", Str.ofString "from_jd_julian", Str.ofString "to_jd_julian"]) mean mg mb 29 (Bb.cT3 2 Bb.LegalG) d := by
  k_with_none
  k_with "call ref" => (ktn_call (Str.ofString "isleap") (Bb.cB1 1 Bb.leapG))
  k_fill
  have C0 := told_isleap w mean mg mb
  refine tellsN_of fun d IH => ?_
  ktn_step

set_option maxRecDepth 100000 in
set_option maxHeartbeats 8000000 in
theorem told_legal_date_julian (w : World) (mean : ExcName → Option Value) (mg mb : Str → Option Value) : ∀ d, TellsN PySem.Challenge.rw_bb0030_01.row.prog w (Bb.hd.heap_39 w.params) Bb.hd.view_39 (looseW Bb.hd.view_39 [Str.ofString "legal_date_gregorian", Str.ofString "to_jd_gregorian", Str.ofString "from_jd_gregorian", Str.ofString "legal_date_julian", Str.ofString "from_jd_julian", Str.ofString "to_jd_julian"]) mean mg mb 72 (Bb.cT3 3 Bb.LegalJ) d := by
  k_with_none
  k_with "call ref" => (ktn_call (Str.ofString "month_length") (Bb.cI2 2 Bb.dimJ))
  k_fill
  have C0 := told_month_length w mean mg mb
  refine tellsN_of fun d IH => ?_
  ktn_step

set_option maxRecDepth 100000 in
set_option maxHeartbeats 8000000 in
theorem told_to_jd_gregorian (w : World) (mean : ExcName → Option Value) (mg mb : Str → Option Value) : ∀ d, TellsN PySem.Challenge.rw_bb0030_01.row.prog w (Bb.hd.heap_39 w.params) Bb.hd.view_39 (looseW Bb.hd.view_39 [Str.ofString "legal_date_gregorian", Str.ofString "to_jd_gregorian", Str.ofString "from_jd_gregorian", Str.ofString "legal_date_julian", Str.ofString "from_jd_julian", Str.ofString "to_jd_julian"]) mean mg mb 43 (Bb.cI3 3 Bb.LegalG Bb.jdG) d := by
  k_with_none
  k_with "call ref" => (ktn_call (Str.ofString "legal_date_gregorian") (Bb.cT3 2 Bb.LegalG))
  k_with "call ref" => (ktn_call (Str.ofString "isleap") (Bb.cB1 1 Bb.leapG))
  k_fill
  have C0 := told_legal_date_gregorian w mean mg mb
  have C1 := told_isleap w mean mg mb
  refine tellsN_of fun d IH => ?_
  ktn_step

set_option maxRecDepth 100000 in
set_option maxHeartbeats 8000000 in
theorem told_to_jd2 (w : World) (mean : ExcName → Option Value) (mg mb : Str → Option Value) : ∀ d, TellsN PySem.Challenge.rw_bb0030_01.row.prog w (Bb.hd.heap_39 w.params) Bb.hd.view_39 (looseW Bb.hd.view_39 [Str.ofString "legal_date_gregorian", Str.ofString "to_jd_gregorian", Str.ofString "from_jd_gregorian", Str.ofString "legal_date_julian", Str.ofString "from_jd_julian", Str.ofString "to_jd_julian"]) mean mg mb 36 (Bb.cI3 3 Bb.LegalG Bb.jd2) d := by
  k_with_none
  k_with "call ref" => (ktn_call (Str.ofString "legal_date_gregorian") (Bb.cT3 2 Bb.LegalG))
  k_fill
  have C0 := told_legal_date_gregorian w mean mg mb
  refine tellsN_of fun d IH => ?_
  ktn_step

set_option maxRecDepth 100000 in
set_option maxHeartbeats 8000000 in
theorem told_to_jd_julian (w : World) (mean : ExcName → Option Value) (mg mb : Str → Option Value) : ∀ d, TellsN PySem.Challenge.rw_bb0030_01.row.prog w (Bb.hd.heap_39 w.params) Bb.hd.view_39 (looseW Bb.hd.view_39 [Str.ofString "legal_date_gregorian", Str.ofString "to_jd_gregorian", Str.ofString "from_jd_gregorian", Str.ofString "legal_date_julian", Str.ofString "from_jd_julian", Str.ofString "to_jd_julian"]) mean mg mb 86 (Bb.cI3 4 Bb.LegalJ Bb.jdJ) d := by
  k_with_none
  k_with "call ref" => (ktn_call (Str.ofString "legal_date_julian") (Bb.cT3 3 Bb.LegalJ))
  k_fill
  have C0 := told_legal_date_julian w mean mg mb
  refine tellsN_of fun d IH => ?_
  ktn_step

set_option maxRecDepth 100000 in
set_option maxHeartbeats 8000000 in
theorem told_from_gregorian (w : World) (mean : ExcName → Option Value) (mg mb : Str → Option Value) : ∀ d, TellsN PySem.Challenge.rw_bb0030_01.row.prog w (Bb.hd.heap_39 w.params) Bb.hd.view_39 (looseW Bb.hd.view_39 [Str.ofString "legal_date_gregorian", Str.ofString "to_jd_gregorian", Str.ofString "from_jd_gregorian", Str.ofString "legal_date_julian", Str.ofString "from_jd_julian", Str.ofString "to_jd_julian"]) mean mg mb 100 (Bb.cI3 4 Bb.LegalG Bb.jdG) d := by
  k_with_none
  k_with "call ref" => (ktn_call (Str.ofString "to_jd_gregorian") (Bb.cI3 3 Bb.LegalG Bb.jdG))
  k_fill
  have C0 := told_to_jd_gregorian w mean mg mb
  refine tellsN_of fun d IH => ?_
  ktn_step

set_option maxRecDepth 100000 in
set_option maxHeartbeats 8000000 in
theorem told_from_julian (w : World) (mean : ExcName → Option Value) (mg mb : Str → Option Value) : ∀ d, TellsN PySem.Challenge.rw_bb0030_01.row.prog w (Bb.hd.heap_39 w.params) Bb.hd.view_39 (looseW Bb.hd.view_39 [Str.ofString "legal_date_gregorian", Str.ofString "to_jd_gregorian", Str.ofString "from_jd_gregorian", Str.ofString "legal_date_julian", Str.ofString "from_jd_julian", Str.ofString "to_jd_julian"]) mean mg mb 114 (Bb.cI3 5 Bb.LegalJ Bb.jdJ) d := by
  k_with_none
  k_with "call ref" => (ktn_call (Str.ofString "to_jd_julian") (Bb.cI3 4 Bb.LegalJ Bb.jdJ))
  k_fill
  have C0 := told_to_jd_julian w mean mg mb
  refine tellsN_of fun d IH => ?_
  ktn_step

set_option maxRecDepth 100000 in
set_option maxHeartbeats 8000000 in
theorem told_law_apart (w : World) (mean : ExcName → Option Value) (mg mb : Str → Option Value) : ∀ d, TellsN PySem.Challenge.rw_bb0030_01.row.prog w (Bb.hd.heap_39 w.params) Bb.hd.view_39 (looseW Bb.hd.view_39 [Str.ofString "legal_date_gregorian", Str.ofString "to_jd_gregorian", Str.ofString "from_jd_gregorian", Str.ofString "legal_date_julian", Str.ofString "from_jd_julian", Str.ofString "to_jd_julian"]) mean mg mb 128 (Bb.cI2 1 Bb.apart) d := by
  k_with_none
  k_fill
  refine tellsN_of fun d IH => ?_
  ktn_step

set_option maxRecDepth 100000 in
set_option maxHeartbeats 20000000 in
theorem day_claim (w : World) (mean : ExcName → Option Value) (mg mb : Str → Option Value) : Bb.DayClaim PySem.Challenge.rw_bb0030_01.row.prog w (Bb.hd.heap_39 w.params) Bb.hd.view_39 (looseW Bb.hd.view_39 [Str.ofString "legal_date_gregorian", Str.ofString "to_jd_gregorian", Str.ofString "from_jd_gregorian", Str.ofString "legal_date_julian", Str.ofString "from_jd_julian", Str.ofString "to_jd_julian"]) mean mg mb 142 := by
  k_with_none
  k_with "call ref" => (ktn_call (Str.ofString "isleap") (Bb.cB1 1 Bb.leapG))
  k_with "call ref" => ((fail_if_success (with_reducible rename Bb.Refuse _ _ _ => bbR)); ktn_call (Str.ofString "to_jd_gregorian") (Bb.cI3 3 Bb.LegalG Bb.jdG))
  k_with "call ref" => ((fail_if_success (with_reducible rename Bb.Refuse _ _ _ => bbR)); ktn_call (Str.ofString "from_gregorian") (Bb.cI3 4 Bb.LegalG Bb.jdG))
  k_with "call ref" => (ktn_call (Str.ofString "to_jd2") (Bb.cI3 3 Bb.LegalG Bb.jd2))
  k_with "call ref" => (ktn_call (Str.ofString "from_julian") (Bb.cI3 5 Bb.LegalJ Bb.jdJ))
  k_with "call ref" => (ktn_call (Str.ofString "_law_apart") (Bb.cI2 1 Bb.apart))
  k_with "call ref" => ((with_reducible show wpAny _ _ (call (Value.ref (ktn_at% "to_julian")) [Value.int _ _]) _ _ _); (fail_if_success (with_reducible show wpAny _ _ _ (fun v s₂ => KCt3 _ _ _ _ _ _ _ _ _ _ _ v s₂) _ _)); (rename Fr _ _ _ _ => cF'); (rename News _ _ _ _ => cN'); (refine' Bb.joinJ cF' cN' ?_ (fun D t1 t2 t3 c h tk hJ1 hJ2 F N kcuLt => ?_)); (all_goals (try k_fold)))
  k_with "call ref" => ((with_reducible show wpAny _ _ (call (Value.ref (ktn_at% "to_gregorian")) [Value.int _ _]) _ _ _); (fail_if_success (with_reducible show wpAny _ _ _ (fun v s₂ => KCt3 _ _ _ _ _ _ _ _ _ _ _ v s₂) _ _)); (rename Fr _ _ _ _ => cF'); (rename News _ _ _ _ => cN'); (refine' Bb.joinG cF' cN' ?_ (fun D t1 t2 t3 c h tk hG1 hG2 hG3 hG4 hG5 hG6 F N kcuLt => ?_)); (all_goals (try k_fold)))
  k_with "call ref" => ((with_reducible show wpAny _ _ (call (Value.ref (ktn_at% "_law_refused")) [Value.int _ _, Value.int _ _, Value.int _ _]) _ _ _); (refine' Bb.refuse_in (Bb.refuse_of (by omega)) (fun bbR bbR1 bbR2 bbR3 => ?_)); (k_dflt (refine wpAny_call ?_; kts_go)))
  k_with "eval Compare" => ((with_reducible show wpAny _ _ (eval (Expr.Compare (Expr.Constant _ _ _) [CmpOp.LtE, CmpOp.LtE] _ _) _) _ _ _); (fail_if_success (with_reducible show wpAny _ _ _ (fun v s₂ => KCj _ _ _ _ _ _ _ v s₂) _ _)); (rename Fr _ _ _ _ => cF'); (rename News _ _ _ _ => cN'); (refine' kcj (fun (b : Bool) (_ : Tok) => Value.bool b) (fun _ => decide (1794168 ≤ x ∧ x ≤ 1830691)) cF' cN' (fun u' hMark' => ?_) ?_); (all_goals (try k_fold)))
  w_top off
  k_fill
  have C0 := told_isleap w mean mg mb
  have C1 := told_to_jd_gregorian w mean mg mb
  have C2 := told_from_gregorian w mean mg mb
  have C3 := told_to_jd2 w mean mg mb
  have C4 := told_from_julian w mean mg mb
  have C5 := told_law_apart w mean mg mb
  unfold Bb.DayClaim
  intro cn cs a ccd base h₀ L m news s x t Q E B F X N T hk hret
  obtain ⟨ck, cl, cg, cc, cm⟩ := cs
  dsimp only at hk
  subst hk
  have K0 := below_caller (Top.heap T)
  refine wpAny_call ?_
  first
    | (k_dflt kts_go)
    | fail "the day's def is not entered"
  k_steps
  all_goals first
    | ((with_reducible refine' hret true _ _ rfl ?e1 ?e2); (case e1 => assumption); (case e2 => k_asm))
    | ((with_reducible refine' hret _ _ _ (Bb.jdG_J_beq _) ?e1 ?e2); (case e1 => assumption); (case e2 => k_asm))
    | (exfalso; exact Bb.same_absurd (by with_reducible assumption))
    | (exfalso; omega)
    | (exfalso; simp_all; done)
    | ((refine' hret true _ _ rfl ?e1 ?e2); (case e1 => assumption); (case e2 => k_asm))

end Bb
set_option maxRecDepth 100000 in
set_option maxHeartbeats 8000000 in
theorem PySem.Challenge.cw_bb0030_01_holds : PySem.Challenge.rw_bb0030_01.Holds := by
  k_with_none
  k_with "call ref" => ((with_reducible show wpAny _ _ (call (Value.ref (ktn_at% "_law_one_day")) [Value.int _ _]) _ _ _); (k_dflt (refine' Bb.DayClaim.use (bbDay _ _ _ _) ?k1 ?k2 ?k3 ?k4 ?k5 ?k6 (fun h9 tk9 F9 N9 => ?_))); (case k1 => k_asm); (case k2 => k_asm); (case k3 => k_asm); (case k4 => k_asm); (case k5 => k_asm); (case k6 => first | exact rfl | assumption); (try k_fold))
  have bbDay := Bb.day_claim
  exact Bb.hd (by k_go)

