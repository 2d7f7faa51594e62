import PyProof.Rows.All
import Wide.All
import OpenK.AllK
import Wide.FinOn
import PySem.Challenge.RW_vp0006_01
set_option Elab.async false
set_option maxRecDepth 100000
set_option linter.unusedVariables false
set_option linter.unusedSimpArgs false
namespace Mine
def Held (P : Prop) : Prop := P
theorem held {P : Prop} (h : P) : Held P = True := eq_true h
theorem of_held {P : Prop} (h : Held P) : P := h
end Mine
set_option maxHeartbeats 8000000
namespace Mine
theorem fd {a b : Int} (h : 0 ≤ b) : a.fdiv b = a / b := Int.fdiv_eq_ediv_of_nonneg a h
theorem fm {a b : Int} (h : 0 ≤ b) : a.fmod b = a % b := Int.fmod_eq_emod_of_nonneg a h
def isleapF (y : Int) : Bool := decide (y % 4 = 0 ∧ (y % 100 ≠ 0 ∨ y % 400 = 0))
def leapF (y : Int) : Bool := decide ((y * 7 + 1) % 19 < 7)
def d1 (y : Int) : Int :=
  if (3 * (((235 * y - 234) / 19) * 29 + (12084 + 13753 * ((235 * y - 234) / 19)) / 25920 + 1)) % 7 < 3 then
    ((235 * y - 234) / 19) * 29 + (12084 + 13753 * ((235 * y - 234) / 19)) / 25920 + 1
  else ((235 * y - 234) / 19) * 29 + (12084 + 13753 * ((235 * y - 234) / 19)) / 25920
def d2 (y : Int) : Int := if d1 (y + 1) - d1 y = 356 then 2 else if d1 y - d1 (y - 1) = 382 then 1 else 0
-- the day's number of the first of Tishri; the year's days
def NY (y : Int) : Int := 347998 + d1 y + d2 y
def sz (y : Int) : Int := NY (y + 1) - NY y

-- months ahead of the year
def nm (y : Int) : Int := (235 * y - 234) / 19
theorem by19 (y : Int) : ∃ k r : Int, y = 19 * k + r ∧ (r = 0 ∨ r = 1 ∨ r = 2 ∨ r = 3 ∨ r = 4 ∨ r = 5 ∨ r = 6 ∨ r = 7 ∨ r = 8 ∨ r = 9 ∨ r = 10 ∨ r = 11 ∨ r = 12 ∨ r = 13 ∨ r = 14 ∨ r = 15 ∨ r = 16 ∨ r = 17 ∨ r = 18) :=
  ⟨y / 19, y % 19, by omega, by omega⟩
theorem nm_step (y : Int) : (leapF y = true ∧ nm (y + 1) = nm y + 13) ∨ (leapF y = false ∧ nm (y + 1) = nm y + 12) := by
  unfold leapF nm
  simp only [decide_eq_true_eq, decide_eq_false_iff_not]
  obtain ⟨k, r, rfl, h⟩ := by19 y
  rcases h with h | h | h | h | h | h | h | h | h | h | h | h | h | h | h | h | h | h | h <;> subst h <;> first | (left; constructor <;> omega) | (right; constructor <;> omega)
-- a leap year stands between two common ones
theorem leap_apart (y : Int) : leapF y = true → leapF (y + 1) = false := by
  unfold leapF
  simp only [decide_eq_true_eq, decide_eq_false_iff_not]
  obtain ⟨k, r, rfl, h⟩ := by19 y
  rcases h with h | h | h | h | h | h | h | h | h | h | h | h | h | h | h | h | h | h | h <;> subst h <;> omega

-- the new moon n: weeks, day of the week, parts
structure Moon (n w e p : Int) : Prop where
  sum : 765433 * n + 12084 = 181440 * w + 25920 * e + p
  e0 : 0 ≤ e
  e7 : e < 7
  p0 : 0 ≤ p
  p1 : p < 25920
theorem moon_uniq {n w e p w' e' p' : Int} (M : Moon n w e p) (M' : Moon n w' e' p') : w = w' ∧ e = e' ∧ p = p' := by
  obtain ⟨h, e0, e7, p0, p1⟩ := M
  obtain ⟨h', e0', e7', p0', p1'⟩ := M'
  have hp : p = p' := by omega
  subst hp
  have hq : 7 * w + e = 7 * w' + e' := by omega
  omega
theorem moon_ex (n : Int) : ∃ w e p, Moon n w e p := by
  refine ⟨(765433 * n + 12084) / 25920 / 7, (765433 * n + 12084) / 25920 % 7, (765433 * n + 12084) % 25920, ?_, ?_, ?_, ?_, ?_⟩ <;> omega
def post (e : Int) : Int := if e = 2 ∨ e = 4 ∨ e = 6 then 1 else 0
theorem d1_moon {y w e p : Int} (M : Moon (nm y) w e p) : d1 y = 7 * w + e + post e := by
  refine of_held ?_
  simp (disch := k_dflt (
      obtain ⟨h, e0, e7, p0, p1⟩ := M
      unfold d1 post
      unfold nm at h
      generalize (235 * y - 234) / 19 = n at *
      have hq : n * 29 + (12084 + 13753 * n) / 25920 = 7 * w + e := by omega
      rw [hq]
      have he : e = 0 ∨ e = 1 ∨ e = 2 ∨ e = 3 ∨ e = 4 ∨ e = 5 ∨ e = 6 := by omega
      rcases he with rfl | rfl | rfl | rfl | rfl | rfl | rfl <;> (simp; omega))) only [↓held]

-- twelve or thirteen months on
def stepE (e p : Int) : Bool → Int
  | false => if p ≥ 16404 then (if e ≥ 2 then e - 2 else e + 5) else (if e ≥ 3 then e - 3 else e + 4)
  | true => if p ≥ 2651 then (if e ≥ 1 then e - 1 else e + 6) else (if e ≥ 2 then e - 2 else e + 5)
def stepP (p : Int) : Bool → Int
  | false => if p ≥ 16404 then p - 16404 else p + 9516
  | true => if p ≥ 2651 then p - 2651 else p + 23269
def stepW (w e p : Int) : Bool → Int
  | false => if p ≥ 16404 then (if e ≥ 2 then w + 51 else w + 50) else (if e ≥ 3 then w + 51 else w + 50)
  | true => if p ≥ 2651 then (if e ≥ 1 then w + 55 else w + 54) else (if e ≥ 2 then w + 55 else w + 54)
theorem moon_step {y w e p : Int} (M : Moon (nm y) w e p) : Moon (nm (y + 1)) (stepW w e p (leapF y)) (stepE e p (leapF y)) (stepP p (leapF y)) := by
  obtain ⟨h, e0, e7, p0, p1⟩ := M
  rcases nm_step y with ⟨hl, hn⟩ | ⟨hl, hn⟩ <;> rw [hl, hn] <;> simp only [stepW, stepE, stepP] <;> constructor <;> (repeat' split) <;> omega

-- the first of Tishri by its moon
theorem NY_moon {y w e p : Int} (M : Moon (nm y) w e p) :
    NY y = 347998 + (7 * w + e + post e) + (if leapF y = false ∧ e = 1 ∧ p ≥ 16404 then 2 else if leapF (y - 1) = true ∧ e = 0 ∧ p ≥ 23269 then 1 else 0) := by
  refine of_held ?_
  simp (disch := k_dflt (
      have h1 := d1_moon M
      have h2 := d1_moon (moon_step M)
      obtain ⟨w', e', p', M'⟩ := moon_ex (nm (y - 1))
      have h3 := d1_moon M'
      have S := moon_step M'
      have hy : y - 1 + 1 = y := by omega
      rw [hy] at S
      have hd : d2 y = if leapF y = false ∧ e = 1 ∧ p ≥ 16404 then 2 else if leapF (y - 1) = true ∧ e = 0 ∧ p ≥ 23269 then 1 else 0 := by
        unfold d2
        rw [h1, h2, h3]
        obtain ⟨g, e0, e7, p0, p1⟩ := M
        obtain ⟨g', e0', e7', p0', p1'⟩ := M'
        obtain ⟨gs, es0, es7, ps0, ps1⟩ := S
        have hA := moon_uniq ⟨g, e0, e7, p0, p1⟩ ⟨gs, es0, es7, ps0, ps1⟩
        obtain ⟨hW, hE, hP⟩ := hA
        have hap := leap_apart (y - 1)
        rw [hy] at hap
        cases hl : leapF y <;> cases hl' : leapF (y - 1) <;> simp only [hl, hl', stepE, stepP, stepW, true_and, false_and, if_false, reduceCtorEq] at *
        · clear hap h1 h2 h3 gs es0 es7 ps0 ps1 g g'
          have he : e' = 0 ∨ e' = 1 ∨ e' = 2 ∨ e' = 3 ∨ e' = 4 ∨ e' = 5 ∨ e' = 6 := by omega
          by_cases q1 : p' ≥ 16404 <;> by_cases q2 : p ≥ 16404 <;> simp only [q1, q2, if_true, if_false] at * <;>
          rcases he with h | h | h | h | h | h | h <;> subst h <;> subst hE <;> subst hW <;> simp [post] <;> omega
        · clear hap h1 h2 h3 gs es0 es7 ps0 ps1 g g'
          have he : e' = 0 ∨ e' = 1 ∨ e' = 2 ∨ e' = 3 ∨ e' = 4 ∨ e' = 5 ∨ e' = 6 := by omega
          by_cases q1 : p' ≥ 2651 <;> by_cases q2 : p ≥ 16404 <;> simp only [q1, q2, if_true, if_false] at * <;>
          rcases he with h | h | h | h | h | h | h <;> subst h <;> subst hE <;> subst hW <;> simp [post] <;> omega
        · clear hap h1 h2 h3 gs es0 es7 ps0 ps1 g g'
          have he : e' = 0 ∨ e' = 1 ∨ e' = 2 ∨ e' = 3 ∨ e' = 4 ∨ e' = 5 ∨ e' = 6 := by omega
          by_cases q1 : p' ≥ 16404 <;> by_cases q2 : p ≥ 2651 <;> simp only [q1, q2, if_true, if_false] at * <;>
          rcases he with h | h | h | h | h | h | h <;> subst h <;> subst hE <;> subst hW <;> simp [post] <;> omega
        · simp at hap
      unfold NY
      rw [h1, hd])) only [↓held]

-- the year's days
theorem sz_moon {y w e p : Int} (M : Moon (nm y) w e p) :
    (leapF y = false → sz y = 353 ∨ sz y = 354 ∨ sz y = 355) ∧ (leapF y = true → sz y = 383 ∨ sz y = 384 ∨ sz y = 385) := by
  refine of_held ?_
  simp (disch := k_dflt (
      have h1 := NY_moon M
      have M2 := moon_step M
      have h2 := NY_moon M2
      have hy : y + 1 - 1 = y := by omega
      rw [hy] at h2
      have hap := leap_apart y
      have hap' := leap_apart (y - 1)
      have hy' : y - 1 + 1 = y := by omega
      rw [hy'] at hap'
      unfold sz
      rw [h1, h2]
      obtain ⟨g, e0, e7, p0, p1⟩ := M
      clear h1 h2 M2 g
      have he : e = 0 ∨ e = 1 ∨ e = 2 ∨ e = 3 ∨ e = 4 ∨ e = 5 ∨ e = 6 := by omega
      constructor
      · intro hl
        rw [hl] at hap' ⊢
        cases hl' : leapF (y - 1) <;> cases hl2 : leapF (y + 1) <;> simp only [stepE, stepP, stepW, true_and, false_and, if_false, reduceCtorEq] <;>
        by_cases q1 : p ≥ 16404 <;> simp only [q1, if_true, if_false] <;>
        rcases he with h | h | h | h | h | h | h <;> subst h <;> simp [post] <;> (repeat' split) <;> omega
      · intro hl
        rw [hl] at hap' ⊢
        rw [hap hl]
        cases hl' : leapF (y - 1) <;> simp only [stepE, stepP, stepW, true_and, false_and, if_false, reduceCtorEq] <;>
        by_cases q1 : p ≥ 2651 <;> simp only [q1, if_true, if_false] <;>
        rcases he with h | h | h | h | h | h | h <;> subst h <;> simp [post] <;> (repeat' split) <;> omega)) only [↓held]

theorem sz_cases (y : Int) : (leapF y = false ∧ (sz y = 353 ∨ sz y = 354 ∨ sz y = 355)) ∨ (leapF y = true ∧ (sz y = 383 ∨ sz y = 384 ∨ sz y = 385)) := by
  obtain ⟨w, e, p, M⟩ := moon_ex (nm y)
  have h := sz_moon M
  cases hl : leapF y
  · exact Or.inl ⟨rfl, h.1 hl⟩
  · exact Or.inr ⟨rfl, h.2 hl⟩

-- Gauss
def marchF (y : Int) : Int :=
  if ((32 * 492480 + 21715 + 765433 * ((12 * y + 17) % 19) + 123120 * (y % 4) - 1565 * y) / 492480 + 3 * y + 5 * (y % 4) + 5) % 7 = 2 ∨
     ((32 * 492480 + 21715 + 765433 * ((12 * y + 17) % 19) + 123120 * (y % 4) - 1565 * y) / 492480 + 3 * y + 5 * (y % 4) + 5) % 7 = 4 ∨
     ((32 * 492480 + 21715 + 765433 * ((12 * y + 17) % 19) + 123120 * (y % 4) - 1565 * y) / 492480 + 3 * y + 5 * (y % 4) + 5) % 7 = 6 then
    (32 * 492480 + 21715 + 765433 * ((12 * y + 17) % 19) + 123120 * (y % 4) - 1565 * y) / 492480 + 1
  else if ((32 * 492480 + 21715 + 765433 * ((12 * y + 17) % 19) + 123120 * (y % 4) - 1565 * y) / 492480 + 3 * y + 5 * (y % 4) + 5) % 7 = 1 ∧ (12 * y + 17) % 19 > 6 ∧
     (32 * 492480 + 21715 + 765433 * ((12 * y + 17) % 19) + 123120 * (y % 4) - 1565 * y) % 492480 ≥ 311676 then
    (32 * 492480 + 21715 + 765433 * ((12 * y + 17) % 19) + 123120 * (y % 4) - 1565 * y) / 492480 + 2
  else if ((32 * 492480 + 21715 + 765433 * ((12 * y + 17) % 19) + 123120 * (y % 4) - 1565 * y) / 492480 + 3 * y + 5 * (y % 4) + 5) % 7 = 0 ∧ (12 * y + 17) % 19 > 11 ∧
     (32 * 492480 + 21715 + 765433 * ((12 * y + 17) % 19) + 123120 * (y % 4) - 1565 * y) % 492480 ≥ 442111 then
    (32 * 492480 + 21715 + 765433 * ((12 * y + 17) % 19) + 123120 * (y % 4) - 1565 * y) / 492480 + 1
  else (32 * 492480 + 21715 + 765433 * ((12 * y + 17) % 19) + 123120 * (y % 4) - 1565 * y) / 492480
def springF (y : Int) : Int := 1721117 + 365 * (y - 3760) + (y - 3760) / 4 + marchF y
theorem gold_leap (y : Int) : (leapF (y + 1) = false ↔ (12 * y + 17) % 19 > 6) ∧ (leapF y = true ↔ (12 * y + 17) % 19 > 11) ∧ 19 * nm (y + 1) = 235 * y + (12 * y + 17) % 19 - 17 := by
  unfold leapF nm
  simp only [decide_eq_true_eq, decide_eq_false_iff_not]
  obtain ⟨k, r, rfl, h⟩ := by19 y
  rcases h with h | h | h | h | h | h | h | h | h | h | h | h | h | h | h | h | h | h | h <;> subst h <;> refine ⟨?_, ?_, ?_⟩ <;> omega
theorem gauss (y : Int) : springF y + 163 = NY (y + 1) := by
  refine of_held ?_
  simp (disch := k_dflt (
      obtain ⟨w, e, p, M⟩ := moon_ex (nm (y + 1))
      have h := NY_moon M
      have hy : y + 1 - 1 = y := by omega
      rw [hy] at h
      obtain ⟨g1, g2, g3⟩ := gold_leap y
      obtain ⟨g, e0, e7, p0, p1⟩ := M
      unfold springF marchF
      generalize (12 * y + 17) % 19 = gold at *
      have hz : y = 4 * (y / 4) + y % 4 := by omega
      have hpl : 0 ≤ y % 4 ∧ y % 4 < 4 := by omega
      have hz2 : (y - 3760) / 4 = y / 4 - 940 := by omega
      rw [hz2]
      generalize y % 4 = pl at *
      generalize y / 4 = z at *
      generalize nm (y + 1) = n at *
      have hU : 32 * 492480 + 21715 + 765433 * gold + 123120 * pl - 1565 * y = 492480 * (58 - 365 * y - z + 7 * w + e) + 19 * p := by omega
      have hm : (32 * 492480 + 21715 + 765433 * gold + 123120 * pl - 1565 * y) / 492480 = 58 - 365 * y - z + 7 * w + e := by omega
      have hp : (32 * 492480 + 21715 + 765433 * gold + 123120 * pl - 1565 * y) % 492480 = 19 * p := by omega
      rw [hm, hp]
      have hw : (58 - 365 * y - z + 7 * w + e + 3 * y + 5 * pl + 5) % 7 = e := by omega
      rw [hw, h]
      clear hw hm hp hU hz2 h
      have h1 : (leapF (y + 1) = false ∧ e = 1 ∧ p ≥ 16404) ↔ (e = 1 ∧ gold > 6 ∧ 19 * p ≥ 311676) := by
        rw [g1]; omega
      have h2 : (leapF y = true ∧ e = 0 ∧ p ≥ 23269) ↔ (e = 0 ∧ gold > 11 ∧ 19 * p ≥ 442111) := by
        rw [g2]; omega
      simp only [h1, h2]
      clear h1 h2 g1 g2 g g3
      unfold post
      by_cases a : e = 2 ∨ e = 4 ∨ e = 6
      · rw [if_pos a, if_pos a, if_neg (by omega), if_neg (by omega)]; omega
      · rw [if_neg a, if_neg a]
        by_cases b : e = 1 ∧ gold > 6 ∧ 19 * p ≥ 311676
        · rw [if_pos b, if_pos b]; omega
        · rw [if_neg b, if_neg b]
          by_cases c : e = 0 ∧ gold > 11 ∧ 19 * p ≥ 442111
          · rw [if_pos c, if_pos c]; omega
          · rw [if_neg c, if_neg c]; omega)) only [↓held]

end Mine
set_option maxHeartbeats 8000000
namespace Mine
def dimF (y m : Int) : Int := if m = 2 then (if isleapF y then 29 else 28) else if m = 4 ∨ m = 6 ∨ m = 9 ∨ m = 11 then 30 else 31
theorem dim_ge (y m : Int) : 1 ≤ dimF y m := by unfold dimF; (repeat' split) <;> omega
theorem dim_cases {y m d : Int} (h : d ≤ dimF y m) : (m = 2 ∧ isleapF y = true ∧ d ≤ 29) ∨ (m = 2 ∧ isleapF y = false ∧ d ≤ 28) ∨ (m = 4 ∧ d ≤ 30) ∨ (m = 6 ∧ d ≤ 30) ∨ (m = 9 ∧ d ≤ 30) ∨ (m = 11 ∧ d ≤ 30) ∨ (m ≠ 2 ∧ m ≠ 4 ∧ m ≠ 6 ∧ m ≠ 9 ∧ m ≠ 11 ∧ d ≤ 31) := by
  unfold dimF at h
  split at h
  · cases hl : isleapF y <;> simp_all
  · split at h <;> omega
def gjd (y m d : Int) : Int := 1721425 + 365 * (y - 1) + (y - 1) / 4 - (y - 1) / 100 + (y - 1) / 400 + ((367 * m - 362) / 12 + (if m ≤ 2 then 0 else if isleapF y then -1 else -2) + d)
-- the day number is that of the date, and the date is one
structure GS (j y m d : Int) : Prop where
  m1 : 1 ≤ m
  m2 : m ≤ 12
  d1 : 1 ≤ d
  d2 : d ≤ dimF y m
  eq : gjd y m d = j
def jan (y : Int) : Int := 1721426 + 365 * (y - 1) + (y - 1) / 4 - (y - 1) / 100 + (y - 1) / 400
theorem gjd_jan (y : Int) : gjd y 1 1 = jan y := by unfold gjd jan; simp; omega
theorem by400 (y : Int) : ∃ q c k o : Int, y = 400 * q + 100 * c + 4 * k + o ∧ 0 ≤ c ∧ c ≤ 3 ∧ 0 ≤ k ∧ k ≤ 24 ∧ 0 ≤ o ∧ o ≤ 3 :=
  ⟨y / 400, y % 400 / 100, y % 100 / 4, y % 4, by omega, by omega, by omega, by omega, by omega, by omega, by omega⟩
theorem parts400 {q c k o : Int} (c0 : 0 ≤ c) (c3 : c ≤ 3) (k0 : 0 ≤ k) (k24 : k ≤ 24) (o0 : 0 ≤ o) (o3 : o ≤ 3) :
    (400 * q + 100 * c + 4 * k + o) / 4 = 100 * q + 25 * c + k ∧ (400 * q + 100 * c + 4 * k + o) / 100 = 4 * q + c ∧ (400 * q + 100 * c + 4 * k + o) / 400 = q := by
  refine ⟨?_, ?_, ?_⟩ <;> omega
-- the years' days by the parts of the year ahead
theorem jan_parts {y q c k o : Int} (hy : y - 1 = 400 * q + 100 * c + 4 * k + o) (c0 : 0 ≤ c) (c3 : c ≤ 3) (k0 : 0 ≤ k) (k24 : k ≤ 24) (o0 : 0 ≤ o) (o3 : o ≤ 3) :
    jan y = 1721426 + 146097 * q + 36524 * c + 1461 * k + 365 * o := by
  obtain ⟨h1, h2, h3⟩ := parts400 (q := q) c0 c3 k0 k24 o0 o3
  unfold jan
  rw [hy, h1, h2, h3]
  omega
theorem leap_parts {y q c k o : Int} (hy : y - 1 = 400 * q + 100 * c + 4 * k + o) (c0 : 0 ≤ c) (c3 : c ≤ 3) (k0 : 0 ≤ k) (k24 : k ≤ 24) (o0 : 0 ≤ o) (o3 : o ≤ 3) :
    isleapF y = true ↔ o = 3 ∧ (k ≠ 24 ∨ c = 3) := by
  refine of_held ?_
  simp (disch := k_dflt (
      unfold isleapF
      rw [decide_eq_true_iff]
      have : y = 400 * q + 100 * c + 4 * k + o + 1 := by omega
      subst this
      constructor
      · rintro ⟨a, b⟩
        have : o = 3 := by omega
        subst this
        refine ⟨rfl, ?_⟩
        rcases b with b | b <;> omega
      · rintro ⟨rfl, b⟩
        refine ⟨by omega, ?_⟩
        rcases b with b | b
        · left; omega
        · by_cases hk : k = 24
          · right; omega
          · left; omega)) only [↓held]

theorem jan_step (y : Int) : jan (y + 1) = jan y + 365 + (if isleapF y then 1 else 0) := by
  refine of_held ?_
  simp (disch := k_dflt (
      obtain ⟨q, c, k, o, hy, c0, c3, k0, k24, o0, o3⟩ := by400 (y - 1)
      rw [jan_parts hy c0 c3 k0 k24 o0 o3]
      have hl := leap_parts hy c0 c3 k0 k24 o0 o3
      by_cases ho : o = 3
      · by_cases hk : k = 24
        · by_cases hc : c = 3
          · rw [jan_parts (q := q + 1) (c := 0) (k := 0) (o := 0) (by omega) (by omega) (by omega) (by omega) (by omega) (by omega) (by omega), if_pos (hl.mpr ⟨ho, .inr hc⟩)]; omega
          · rw [jan_parts (q := q) (c := c + 1) (k := 0) (o := 0) (by omega) (by omega) (by omega) (by omega) (by omega) (by omega) (by omega), if_neg (fun x => by have := hl.mp x; omega)]; omega
        · rw [jan_parts (q := q) (c := c) (k := k + 1) (o := 0) (by omega) (by omega) (by omega) (by omega) (by omega) (by omega) (by omega), if_pos (hl.mpr ⟨ho, .inl hk⟩)]; omega
      · rw [jan_parts (q := q) (c := c) (k := k) (o := o + 1) (by omega) (by omega) (by omega) (by omega) (by omega) (by omega) (by omega), if_neg (fun x => by have := hl.mp x; omega)]; omega)) only [↓held]

theorem jan_mono {y z : Int} (h : y ≤ z) : jan y ≤ jan z := by
  obtain ⟨n, rfl⟩ : ∃ n : Nat, z = y + n := ⟨(z - y).toNat, by omega⟩
  clear h
  induction n with
  | zero => simp
  | succ n ih =>
    have h1 := jan_step (y + n)
    have h2 : y + ((n + 1 : Nat) : Int) = y + n + 1 := by omega
    rw [h2, h1]
    split <;> omega
theorem jan_sum {y r l : Int} (hr : r = (y - 1) / 400) (hl : l = (y - 1) % 400) : 1721426 + 146097 * r + 365 * l + l / 4 - l / 100 = jan y := by
  refine of_held ?_
  simp (disch := k_dflt (
      obtain ⟨q, c, k, o, hy, c0, c3, k0, k24, o0, o3⟩ := by400 (y - 1)
      rw [jan_parts hy c0 c3 k0 k24 o0 o3]
      have h1 : r = q := by omega
      have h2 : l = 100 * c + 4 * k + o := by omega
      subst h1; subst h2
      have e1 : (100 * c + 4 * k + o) / 4 = 25 * c + k := by omega
      have e2 : (100 * c + 4 * k + o) / 100 = c := by omega
      rw [e1, e2]; omega)) only [↓held]

theorem isleap_dim2 (y : Int) : dimF y 2 = 28 + (if isleapF y then 1 else 0) := by unfold dimF; simp; split <;> rfl
-- a date lies in its year
theorem GS.year {j y m d : Int} (g : GS j y m d) : jan y ≤ j ∧ j < jan (y + 1) := by
  refine of_held ?_
  simp (disch := k_dflt (
      obtain ⟨m1, m2, h1, h2, rfl⟩ := g
      rw [jan_step]
      unfold gjd jan
      have hm : m = 1 ∨ m = 2 ∨ m = 3 ∨ m = 4 ∨ m = 5 ∨ m = 6 ∨ m = 7 ∨ m = 8 ∨ m = 9 ∨ m = 10 ∨ m = 11 ∨ m = 12 := by omega
      cases hl : isleapF y <;> rcases hm with h | h | h | h | h | h | h | h | h | h | h | h <;> subst h <;> simp [dimF, hl] at h2 ⊢ <;> omega)) only [↓held]

theorem GS.iff {j y m d : Int} (g : GS j y m d) (c : Int) : y = c ↔ jan c ≤ j ∧ j < jan (c + 1) := by
  have h := g.year
  constructor
  · rintro rfl; exact h
  · rintro ⟨a, b⟩
    by_cases h1 : y < c
    · have := jan_mono (y := y + 1) (z := c) (by omega); omega
    · by_cases h2 : c < y
      · have := jan_mono (y := c + 1) (z := y) (by omega); omega
      · omega
theorem GS.uniq {j y m d y' m' d' : Int} (g : GS j y m d) (g' : GS j y' m' d') : y = y' ∧ m = m' ∧ d = d' := by
  refine of_held ?_
  simp (disch := k_dflt (
      have hy : y = y' := (g.iff y').mpr g'.year
      subst hy
      obtain ⟨m1, m2, h1, h2, e⟩ := g
      obtain ⟨m1', m2', h1', h2', e'⟩ := g'
      have hm : m = 1 ∨ m = 2 ∨ m = 3 ∨ m = 4 ∨ m = 5 ∨ m = 6 ∨ m = 7 ∨ m = 8 ∨ m = 9 ∨ m = 10 ∨ m = 11 ∨ m = 12 := by omega
      have hm' : m' = 1 ∨ m' = 2 ∨ m' = 3 ∨ m' = 4 ∨ m' = 5 ∨ m' = 6 ∨ m' = 7 ∨ m' = 8 ∨ m' = 9 ∨ m' = 10 ∨ m' = 11 ∨ m' = 12 := by omega
      unfold gjd at e e'
      cases hl : isleapF y <;> rcases hm with h | h | h | h | h | h | h | h | h | h | h | h <;> subst h <;> simp [dimF, hl] at h2 e <;>
        rcases hm' with h | h | h | h | h | h | h | h | h | h | h | h <;> subst h <;> simp [dimF, hl] at h2' e' <;> omega)) only [↓held]

-- gregorian.from_jd
theorem from_end {j a q b c d k e x z y v t mo w r : Int} {lp : Bool} (ha : a = j - 1721426) (hq : q = a.fdiv 146097) (hb : b = a.fmod 146097) (hc : c = b.fdiv 36524) (hd : d = b.fmod 36524) (hk : k = d.fdiv 1461) (he : e = d.fmod 1461) (hx : x = e.fdiv 365)
    (hz : z = q * 400 + c * 100 + k * 4 + x) (hy : (c = 4 ∨ x = 4) ∧ y = z ∨ (c ≠ 4 ∧ x ≠ 4) ∧ y = z + 1) (hv : v = gjd y 1 1) (ht : t = j - v) (hl : lp = isleapF y)
    (hm : mo = ((t + 0) * 12 + 373).fdiv 367 ∧ t < 58 + (if lp = true then 1 else 0) ∨ mo = ((t + 1) * 12 + 373).fdiv 367 ∧ ¬ t < 58 + (if lp = true then 1 else 0) ∧ lp = true ∨ mo = ((t + 2) * 12 + 373).fdiv 367 ∧ ¬ t < 58 + (if lp = true then 1 else 0) ∧ lp = false)
    (hw : w = gjd y mo 1) (hr : r = j - w + 1) : GS j y mo r := by
  refine of_held ?_
  simp (disch := k_dflt (
      simp (discharger := decide) only [fd, fm] at *
      rw [gjd_jan] at hv
      -- the year's parts
      have hyr : 0 ≤ t ∧ t ≤ 364 + (if lp = true then 1 else 0) := by
        subst hl
        rcases hy with ⟨h4, hyz⟩ | ⟨⟨h4, h5⟩, hyz⟩
        · by_cases hc4 : c = 4
          · have h1 := jan_parts (y := y) (q := q) (c := 3) (k := 24) (o := 3) (by omega) (by omega) (by omega) (by omega) (by omega) (by omega) (by omega)
            rw [if_pos ((leap_parts (y := y) (q := q) (c := 3) (k := 24) (o := 3) (by omega) (by omega) (by omega) (by omega) (by omega) (by omega) (by omega)).mpr ⟨rfl, .inr rfl⟩)]
            omega
          · have hk24 : x = 4 := by omega
            have h1 := jan_parts (y := y) (q := q) (c := c) (k := k) (o := 3) (by omega) (by omega) (by omega) (by omega) (by omega) (by omega) (by omega)
            rw [if_pos ((leap_parts (y := y) (q := q) (c := c) (k := k) (o := 3) (by omega) (by omega) (by omega) (by omega) (by omega) (by omega) (by omega)).mpr ⟨rfl, .inl (by omega)⟩)]
            omega
        · have h1 := jan_parts (y := y) (q := q) (c := c) (k := k) (o := x) (by omega) (by omega) (by omega) (by omega) (by omega) (by omega) (by omega)
          split <;> omega
      clear hy hx hz he hk hd hc hb hq ha
      rw [jan] at hv
      have hmo : mo = 1 ∨ mo = 2 ∨ mo = 3 ∨ mo = 4 ∨ mo = 5 ∨ mo = 6 ∨ mo = 7 ∨ mo = 8 ∨ mo = 9 ∨ mo = 10 ∨ mo = 11 ∨ mo = 12 := by
        rcases hm with ⟨a, b⟩ | ⟨a, b, c⟩ | ⟨a, b, c⟩
        · cases lp <;> simp at b hyr <;> omega
        · subst c; simp at b hyr; omega
        · subst c; simp at b hyr; omega
      have hg : gjd y mo r = j := by
        unfold gjd at hw ⊢; omega
      refine ⟨by omega, by omega, ?_, ?_, hg⟩
      · clear hg
        unfold gjd at hw
        cases lp <;> rw [← hl] at hw <;> rcases hmo with h | h | h | h | h | h | h | h | h | h | h | h <;> subst h <;> simp at hm hyr hw <;> omega
      · clear hg
        unfold gjd at hw
        cases lp <;> rw [← hl] at hw <;> rcases hmo with h | h | h | h | h | h | h | h | h | h | h | h <;> subst h <;> simp at hm hyr hw <;> simp [dimF, ← hl] <;> omega)) only [↓held]

end Mine
set_option maxHeartbeats 400000
namespace Mine
-- a day l of the year from March on, and its date
def Dmon (y l yy m d : Int) : Prop :=
  (m = 3 ∧ yy = y ∧ d = l + 1 ∧ l < 31) ∨ (m = 4 ∧ yy = y ∧ d = l - 30 ∧ 31 ≤ l ∧ l < 61) ∨ (m = 5 ∧ yy = y ∧ d = l - 60 ∧ 61 ≤ l ∧ l < 92) ∨ (m = 6 ∧ yy = y ∧ d = l - 91 ∧ 92 ≤ l ∧ l < 122) ∨
  (m = 7 ∧ yy = y ∧ d = l - 121 ∧ 122 ≤ l ∧ l < 153) ∨ (m = 8 ∧ yy = y ∧ d = l - 152 ∧ 153 ≤ l ∧ l < 184) ∨ (m = 9 ∧ yy = y ∧ d = l - 183 ∧ 184 ≤ l ∧ l < 214) ∨ (m = 10 ∧ yy = y ∧ d = l - 213 ∧ 214 ≤ l ∧ l < 245) ∨
  (m = 11 ∧ yy = y ∧ d = l - 244 ∧ 245 ≤ l ∧ l < 275) ∨ (m = 12 ∧ yy = y ∧ d = l - 274 ∧ 275 ≤ l ∧ l < 306) ∨ (m = 1 ∧ yy = y + 1 ∧ d = l - 305 ∧ 306 ≤ l ∧ l < 337) ∨ (m = 2 ∧ yy = y + 1 ∧ d = l - 336 ∧ 337 ≤ l)
theorem Dmon.uniq {y l yy m d yy' m' d' : Int} (a : Dmon y l yy m d) (b : Dmon y l yy' m' d') : yy = yy' ∧ m = m' ∧ d = d' := by
  unfold Dmon at a b
  rcases a with a | a | a | a | a | a | a | a | a | a | a | a <;> omega
theorem civ_end {j r l0 h l1 f l2 o l3 y : Int} (h0 : r = (j - 1721120).fdiv 146097) (h1 : l0 = (j - 1721120).fmod 146097) (h2 : h = if 3 < l0.fdiv 36524 then 3 else l0.fdiv 36524) (h3 : l1 = l0 - 36524 * h) (h4 : f = l1.fdiv 1461) (h5 : l2 = l1 - 1461 * f)
    (h6 : o = if 3 < l2.fdiv 365 then 3 else l2.fdiv 365) (h7 : l3 = l2 - 365 * o) (h8 : y = 400 * r + 100 * h + 4 * f + o) : jan (y + 1) + l3 = j + 306 ∧ 0 ≤ l3 ∧ l3 ≤ 365 ∧ (l3 = 365 → isleapF (y + 1) = true) := by
  refine of_held ?_
  simp (disch := k_dflt (
      simp (discharger := decide) only [fd, fm] at *
      have hh : 0 ≤ h ∧ h ≤ 3 ∧ 0 ≤ l1 ∧ l1 ≤ 36524 ∧ (l1 = 36524 → h = 3) := by
        split at h2 <;> omega
      have ho : 0 ≤ o ∧ o ≤ 3 ∧ 0 ≤ l3 ∧ l3 ≤ 365 ∧ (l3 = 365 → o = 3) := by
        split at h6 <;> omega
      have hf : 0 ≤ f ∧ f ≤ 24 := by omega
      have hj := jan_parts (y := y + 1) (q := r) (c := h) (k := f) (o := o) (by omega) (by omega) (by omega) (by omega) (by omega) (by omega) (by omega)
      have hl := leap_parts (y := y + 1) (q := r) (c := h) (k := f) (o := o) (by omega) (by omega) (by omega) (by omega) (by omega) (by omega) (by omega)
      clear h2 h6
      refine ⟨by omega, by omega, by omega, fun e => hl.mpr ⟨by omega, by omega⟩⟩)) only [↓held]

theorem GS_mar {j y l yy m d : Int} (c : jan (y + 1) + l = j + 306 ∧ 0 ≤ l ∧ l ≤ 365 ∧ (l = 365 → isleapF (y + 1) = true)) (hD : Dmon y l yy m d) : GS j yy m d := by
  refine of_held ?_
  simp (disch := k_dflt (
      obtain ⟨hj, l0, l1, l2⟩ := c
      have hs := jan_step y
      have e1 : jan (y + 1) = 1721426 + 365 * y + y / 4 - y / 100 + y / 400 := by unfold jan; simp
      have e2 : jan y = 1721426 + 365 * (y - 1) + (y - 1) / 4 - (y - 1) / 100 + (y - 1) / 400 := rfl
      unfold Dmon at hD
      have e3 : y + 1 - 1 = y := by omega
      rcases hD with ⟨rfl, rfl, hd, h1⟩ | ⟨rfl, rfl, hd, h1, h2⟩ | ⟨rfl, rfl, hd, h1, h2⟩ | ⟨rfl, rfl, hd, h1, h2⟩ | ⟨rfl, rfl, hd, h1, h2⟩ | ⟨rfl, rfl, hd, h1, h2⟩ | ⟨rfl, rfl, hd, h1, h2⟩ | ⟨rfl, rfl, hd, h1, h2⟩ | ⟨rfl, rfl, hd, h1, h2⟩ | ⟨rfl, rfl, hd, h1, h2⟩ | ⟨rfl, rfl, hd, h1, h2⟩ | ⟨rfl, rfl, hd, h1⟩
      case inr.inr.inr.inr.inr.inr.inr.inr.inr.inr.inr =>
        refine ⟨by omega, by omega, by omega, ?_, ?_⟩
        · rw [isleap_dim2]
          by_cases q : l = 365
          · rw [if_pos (l2 q)]; omega
          · split <;> omega
        · unfold gjd; rw [e3]; simp; omega
      case inr.inr.inr.inr.inr.inr.inr.inr.inr.inr.inl =>
        refine ⟨by omega, by omega, by omega, by simp [dimF]; omega, ?_⟩
        unfold gjd; rw [e3]; simp; omega
      all_goals (
        refine ⟨by omega, by omega, by omega, by simp [dimF]; omega, ?_⟩
        unfold gjd
        simp only [hs, e2] at hj
        cases hl : isleapF yy <;> simp [hl] at hj ⊢ <;> omega))) only [↓held]

def JS (j yy m d : Int) : Prop := ∃ y l, (1721118 + 365 * y + y / 4 + l = j ∧ 0 ≤ l ∧ l ≤ 365 ∧ (l = 365 → y % 4 = 3)) ∧ Dmon y l yy m d
theorem JS.uniq {j y m d y' m' d' : Int} (a : JS j y m d) (b : JS j y' m' d') : y = y' ∧ m = m' ∧ d = d' := by
  refine of_held ?_
  simp (disch := k_dflt (
      obtain ⟨Y, l, ⟨h1, h2, h3, h4⟩, D⟩ := a
      obtain ⟨Y', l', ⟨h1', h2', h3', h4'⟩, D'⟩ := b
      have e : Y = Y' := by
        have hp : Y % 4 = 0 ∨ Y % 4 = 1 ∨ Y % 4 = 2 ∨ Y % 4 = 3 := by omega
        have hp' : Y' % 4 = 0 ∨ Y' % 4 = 1 ∨ Y' % 4 = 2 ∨ Y' % 4 = 3 := by omega
        have hb : (Y % 4 ≠ 3 → l ≤ 364) ∧ (Y' % 4 ≠ 3 → l' ≤ 364) := by
          refine ⟨fun h => ?_, fun h => ?_⟩
          · have n : l ≠ 365 := fun e => h (h4 e)
            clear h4 h4' h1 h1' hp hp' D D' h
            omega
          · have n : l' ≠ 365 := fun e => h (h4' e)
            clear h4 h4' h1 h1' hp hp' D D' h
            omega
        clear D D' h4 h4'
        have e1 : Y = 4 * (Y / 4) + Y % 4 := by omega
        have e2 : Y' = 4 * (Y' / 4) + Y' % 4 := by omega
        generalize Y / 4 = z at *
        generalize Y % 4 = q at *
        generalize Y' / 4 = z' at *
        generalize Y' % 4 = q' at *
        have hz : z = z' := by omega
        omega
      subst e
      have e : l = l' := by omega
      subst e
      exact D.uniq D')) only [↓held]

theorem fj1 {b c d : Int} (hc : c = (20 * b - 2442) / 7305) (hd : d = 1461 * c / 4) : 123 ≤ b - d ∧ b - d ≤ 488 ∧ (b - d = 488 → c % 4 = 3) := by
  have a1 : 7305 * c ≤ 20 * b - 2442 := by omega
  have a2 : 20 * b - 2442 < 7305 * c + 7305 := by omega
  have a3 : 1461 * c = 4 * d + c % 4 := by omega
  have a4 : 0 ≤ c % 4 ∧ c % 4 ≤ 3 := by omega
  clear hc hd
  generalize c % 4 = s at *
  refine ⟨by omega, by omega, by omega⟩
theorem fj2 {x e : Int} (h1 : 123 ≤ x) (h2 : x ≤ 488) (he : e = x * 10000 / 306001) : (e = 4 ∧ x < 154) ∨ (e = 5 ∧ 154 ≤ x ∧ x < 184) ∨ (e = 6 ∧ 184 ≤ x ∧ x < 215) ∨ (e = 7 ∧ 215 ≤ x ∧ x < 245) ∨ (e = 8 ∧ 245 ≤ x ∧ x < 276) ∨ (e = 9 ∧ 276 ≤ x ∧ x < 307) ∨
    (e = 10 ∧ 307 ≤ x ∧ x < 337) ∨ (e = 11 ∧ 337 ≤ x ∧ x < 368) ∨ (e = 12 ∧ 368 ≤ x ∧ x < 398) ∨ (e = 13 ∧ 398 ≤ x ∧ x < 429) ∨ (e = 14 ∧ 429 ≤ x ∧ x < 460) ∨ (e = 15 ∧ 460 ≤ x) := by
  refine of_held ?_
  simp (disch := k_dflt (
      have h3 : 306001 * e ≤ 10000 * x := by omega
      have h4 : 10000 * x < 306001 * e + 306001 := by omega
      clear he
      have hee : e = 4 ∨ e = 5 ∨ e = 6 ∨ e = 7 ∨ e = 8 ∨ e = 9 ∨ e = 10 ∨ e = 11 ∨ e = 12 ∨ e = 13 ∨ e = 14 ∨ e = 15 := by omega
      rcases hee with rfl | rfl | rfl | rfl | rfl | rfl | rfl | rfl | rfl | rfl | rfl | rfl
      · exact .inl ⟨rfl, by omega⟩
      · exact .inr (.inl ⟨rfl, by omega, by omega⟩)
      · exact .inr (.inr (.inl ⟨rfl, by omega, by omega⟩))
      · exact .inr (.inr (.inr (.inl ⟨rfl, by omega, by omega⟩)))
      · exact .inr (.inr (.inr (.inr (.inl ⟨rfl, by omega, by omega⟩))))
      · exact .inr (.inr (.inr (.inr (.inr (.inl ⟨rfl, by omega, by omega⟩)))))
      · exact .inr (.inr (.inr (.inr (.inr (.inr (.inl ⟨rfl, by omega, by omega⟩))))))
      · exact .inr (.inr (.inr (.inr (.inr (.inr (.inr (.inl ⟨rfl, by omega, by omega⟩)))))))
      · exact .inr (.inr (.inr (.inr (.inr (.inr (.inr (.inr (.inl ⟨rfl, by omega, by omega⟩))))))))
      · exact .inr (.inr (.inr (.inr (.inr (.inr (.inr (.inr (.inr (.inl ⟨rfl, by omega, by omega⟩)))))))))
      · exact .inr (.inr (.inr (.inr (.inr (.inr (.inr (.inr (.inr (.inr (.inl ⟨rfl, by omega, by omega⟩))))))))))
      · exact .inr (.inr (.inr (.inr (.inr (.inr (.inr (.inr (.inr (.inr (.inr (⟨rfl, by omega⟩))))))))))))) only [↓held]

theorem fromj_end {j b c d e m y r : Int} (hb : b = j + 1524) (hc : c = (20 * b - 2442).fdiv 7305) (hd : d = (1461 * c).fdiv 4) (he : e = ((b - d) * 10000).fdiv 306001) (hm : e < 14 ∧ m = e - 1 ∨ ¬ e < 14 ∧ m = e - 13)
    (hy : m > 2 ∧ y = c - 4716 ∨ ¬ m > 2 ∧ y = c - 4715) (hr : r = b - d - (306001 * e).fdiv 10000) : JS j y m r := by
  refine of_held ?_
  simp (disch := k_dflt (
      simp (discharger := decide) only [fd] at *
      obtain ⟨h1, h2, h3⟩ := fj1 hc hd
      have hx := fj2 h1 h2 he
      clear he hc
      have h4 : (c - 4716) / 4 = c / 4 - 1179 := by omega
      have h5 : (c - 4716) % 4 = c % 4 := by omega
      have h6 : d = 365 * c + c / 4 := by omega
      refine ⟨c - 4716, b - d - 123, ⟨by omega, by omega, by omega, by omega⟩, ?_⟩
      clear h3 h4 h5 h6 hd hb
      have hxx : b - d - 123 + 123 = b - d := by omega
      generalize b - d - 123 = l at *
      rw [← hxx] at hx hr
      clear hxx h1 h2
      unfold Dmon
      rcases hx with ⟨rfl, h⟩ | ⟨rfl, h, h'⟩ | ⟨rfl, h, h'⟩ | ⟨rfl, h, h'⟩ | ⟨rfl, h, h'⟩ | ⟨rfl, h, h'⟩ | ⟨rfl, h, h'⟩ | ⟨rfl, h, h'⟩ | ⟨rfl, h, h'⟩ | ⟨rfl, h, h'⟩ | ⟨rfl, h, h'⟩ | ⟨rfl, h⟩
      · have : m = 3 := by omega
        subst this; left; refine ⟨rfl, by omega, by omega, by omega⟩
      · have : m = 4 := by omega
        subst this; right; left; refine ⟨rfl, by omega, by omega, by omega⟩
      · have : m = 5 := by omega
        subst this; right; right; left; refine ⟨rfl, by omega, by omega, by omega⟩
      · have : m = 6 := by omega
        subst this; iterate 3 right
        left; refine ⟨rfl, by omega, by omega, by omega⟩
      · have : m = 7 := by omega
        subst this; iterate 4 right
        left; refine ⟨rfl, by omega, by omega, by omega⟩
      · have : m = 8 := by omega
        subst this; iterate 5 right
        left; refine ⟨rfl, by omega, by omega, by omega⟩
      · have : m = 9 := by omega
        subst this; iterate 6 right
        left; refine ⟨rfl, by omega, by omega, by omega⟩
      · have : m = 10 := by omega
        subst this; iterate 7 right
        left; refine ⟨rfl, by omega, by omega, by omega⟩
      · have : m = 11 := by omega
        subst this; iterate 8 right
        left; refine ⟨rfl, by omega, by omega, by omega⟩
      · have : m = 12 := by omega
        subst this; iterate 9 right
        left; refine ⟨rfl, by omega, by omega, by omega⟩
      · have : m = 1 := by omega
        subst this; iterate 10 right
        left; refine ⟨rfl, by omega, by omega, by omega⟩
      · have : m = 2 := by omega
        subst this; iterate 11 right
        refine ⟨rfl, by omega, by omega, by omega⟩)) only [↓held]

theorem jul_end {j r l0 p l1 : Int} (h0 : r = (j - 1721118).fdiv 1461) (h1 : l0 = (j - 1721118).fmod 1461) (h2 : p = if 3 < l0.fdiv 365 then 3 else l0.fdiv 365) (h3 : l1 = l0 - 365 * p) :
    1721118 + 365 * (4 * r + p) + (4 * r + p) / 4 + l1 = j ∧ 0 ≤ l1 ∧ l1 ≤ 365 ∧ (l1 = 365 → (4 * r + p) % 4 = 3) := by
  simp (discharger := decide) only [fd, fm] at *
  have : 0 ≤ p ∧ p ≤ 3 ∧ 0 ≤ l1 ∧ l1 ≤ 365 ∧ (l1 = 365 → p = 3) := by split at h2 <;> omega
  clear h2
  omega
end Mine
namespace Mine
theorem JS_of {j y l yy m d : Int} (h : 1721118 + 365 * y + y / 4 + l = j ∧ 0 ≤ l ∧ l ≤ 365 ∧ (l = 365 → y % 4 = 3)) (hD : Dmon y l yy m d) : JS j yy m d := ⟨y, l, h, hD⟩
theorem any246 (x : Int) : (([2, 4, 6] : List Int).any fun y => y == x) = true ↔ x = 2 ∨ x = 4 ∨ x = 6 := by simp; omega
theorem any246f (x : Int) : (([2, 4, 6] : List Int).any fun y => y == x) = false ↔ ¬ (x = 2 ∨ x = 4 ∨ x = 6) := by simp; omega
theorem march_end {y g pl m pt wk : Int} (hg : g = (12 * y + 17).fmod 19) (hp : pl = y.fmod 4) (hm : m = (32 * 492480 + 21715 + 765433 * g + 123120 * pl - 1565 * y).fdiv 492480) (hpt : pt = (32 * 492480 + 21715 + 765433 * g + 123120 * pl - 1565 * y).fmod 492480)
    (hw : wk = (m + 3 * y + 5 * pl + 5).fmod 7) : marchF y = if wk = 2 ∨ wk = 4 ∨ wk = 6 then m + 1 else if wk = 1 ∧ g > 6 ∧ pt ≥ 311676 then m + 2 else if wk = 0 ∧ g > 11 ∧ pt ≥ 442111 then m + 1 else m := by
  simp (discharger := decide) only [fd, fm] at *
  subst hw; subst hpt; subst hm; subst hp; subst hg
  rfl
end Mine
namespace Mine
theorem jan_sum' {y r l : Int} (hr : r = (y - 1).fdiv 400) (hl : l = (y - 1).fmod 400) : 1721426 + 146097 * r + 365 * l + l.fdiv 4 - l.fdiv 100 = jan y := by
  simp (discharger := decide) only [fd, fm] at *
  exact jan_sum hr hl
end Mine
namespace Mine
theorem D_3 {y l yy m d : Int} (hm : m = 3) (hy : yy = y) (hd : d = l + 1) (h2 : l < 31) : Dmon y l yy m d := .inl ⟨hm, hy, hd, h2⟩
theorem D_4 {y l yy m d : Int} (hm : m = 4) (hy : yy = y) (hd : d = l - 30) (h1 : 31 ≤ l) (h2 : l < 61) : Dmon y l yy m d := .inr (.inl ⟨hm, hy, hd, h1, h2⟩)
theorem D_5 {y l yy m d : Int} (hm : m = 5) (hy : yy = y) (hd : d = l - 60) (h1 : 61 ≤ l) (h2 : l < 92) : Dmon y l yy m d := .inr (.inr (.inl ⟨hm, hy, hd, h1, h2⟩))
theorem D_6 {y l yy m d : Int} (hm : m = 6) (hy : yy = y) (hd : d = l - 91) (h1 : 92 ≤ l) (h2 : l < 122) : Dmon y l yy m d := .inr (.inr (.inr (.inl ⟨hm, hy, hd, h1, h2⟩)))
theorem D_7 {y l yy m d : Int} (hm : m = 7) (hy : yy = y) (hd : d = l - 121) (h1 : 122 ≤ l) (h2 : l < 153) : Dmon y l yy m d := .inr (.inr (.inr (.inr (.inl ⟨hm, hy, hd, h1, h2⟩))))
theorem D_8 {y l yy m d : Int} (hm : m = 8) (hy : yy = y) (hd : d = l - 152) (h1 : 153 ≤ l) (h2 : l < 184) : Dmon y l yy m d := .inr (.inr (.inr (.inr (.inr (.inl ⟨hm, hy, hd, h1, h2⟩)))))
theorem D_9 {y l yy m d : Int} (hm : m = 9) (hy : yy = y) (hd : d = l - 183) (h1 : 184 ≤ l) (h2 : l < 214) : Dmon y l yy m d := .inr (.inr (.inr (.inr (.inr (.inr (.inl ⟨hm, hy, hd, h1, h2⟩))))))
theorem D_10 {y l yy m d : Int} (hm : m = 10) (hy : yy = y) (hd : d = l - 213) (h1 : 214 ≤ l) (h2 : l < 245) : Dmon y l yy m d := .inr (.inr (.inr (.inr (.inr (.inr (.inr (.inl ⟨hm, hy, hd, h1, h2⟩)))))))
theorem D_11 {y l yy m d : Int} (hm : m = 11) (hy : yy = y) (hd : d = l - 244) (h1 : 245 ≤ l) (h2 : l < 275) : Dmon y l yy m d := .inr (.inr (.inr (.inr (.inr (.inr (.inr (.inr (.inl ⟨hm, hy, hd, h1, h2⟩))))))))
theorem D_12 {y l yy m d : Int} (hm : m = 12) (hy : yy = y) (hd : d = l - 274) (h1 : 275 ≤ l) (h2 : l < 306) : Dmon y l yy m d := .inr (.inr (.inr (.inr (.inr (.inr (.inr (.inr (.inr (.inl ⟨hm, hy, hd, h1, h2⟩)))))))))
theorem D_1 {y l yy m d : Int} (hm : m = 1) (hy : yy = y + 1) (hd : d = l - 305) (h1 : 306 ≤ l) (h2 : l < 337) : Dmon y l yy m d := .inr (.inr (.inr (.inr (.inr (.inr (.inr (.inr (.inr (.inr (.inl ⟨hm, hy, hd, h1, h2⟩))))))))))
theorem D_2 {y l yy m d : Int} (hm : m = 2) (hy : yy = y + 1) (hd : d = l - 336) (h1 : 337 ≤ l) : Dmon y l yy m d := .inr (.inr (.inr (.inr (.inr (.inr (.inr (.inr (.inr (.inr (.inr (⟨hm, hy, hd, h1⟩)))))))))))
end Mine
set_option maxHeartbeats 8000000
namespace Mine
-- a month's days; the days of the year ahead of it
def ml (y m : Int) : Int :=
  if m = 2 ∨ m = 4 ∨ m = 6 ∨ m = 10 ∨ m = 13 then 29 else if m = 12 ∧ leapF y = false then 29 else if m = 8 ∧ sz y % 10 ≠ 5 then 29 else if m = 9 ∧ sz y % 10 = 3 then 29 else 30
theorem d1_low {y : Int} (h : 0 ≤ y) : -400 ≤ d1 y := by
  have hn : -13 ≤ nm y := by unfold nm; omega
  unfold nm at hn
  unfold d1
  generalize (235 * y - 234) / 19 = n at *
  split <;> omega
theorem d2_low (y : Int) : 0 ≤ d2 y ∧ d2 y ≤ 2 := by unfold d2; (repeat' split) <;> omega
theorem NY_pos {y : Int} (h : 0 ≤ y) : 0 < NY y := by
  have := d1_low h
  have := d2_low y
  unfold NY; omega
theorem sz_bounds (y : Int) : 353 ≤ sz y ∧ sz y ≤ 385 := by rcases sz_cases y with ⟨_, h⟩ | ⟨_, h⟩ <;> omega
theorem NY_step (y : Int) : NY (y + 1) = NY y + sz y := by unfold sz; omega
theorem NY_mono {y z : Int} (h : y ≤ z) : NY y ≤ NY z := by
  obtain ⟨n, rfl⟩ : ∃ n : Nat, z = y + n := ⟨(z - y).toNat, by omega⟩
  clear h
  induction n with
  | zero => simp
  | succ n ih =>
    have h1 := NY_step (y + n)
    have h2 := sz_bounds (y + n)
    have h3 : y + ((n + 1 : Nat) : Int) = y + n + 1 := by omega
    rw [h3, h1]; omega
-- the days ahead of a month (the year begins at 7)
def off (y m : Int) : Int :=
  if m = 7 then 0 else if m = 8 then 30 else if m = 9 then 30 + ml y 8 else if m = 10 then 30 + ml y 8 + ml y 9 else if m = 11 then 59 + ml y 8 + ml y 9 else if m = 12 then 89 + ml y 8 + ml y 9 else if m = 13 then 119 + ml y 8 + ml y 9
  else (89 + ml y 8 + ml y 9 + ml y 12 + (if leapF y then 29 else 0)) + (if m = 1 then 0 else if m = 2 then 30 else if m = 3 then 59 else if m = 4 then 89 else if m = 5 then 118 else 148)
theorem ml_num (y : Int) : ml y 1 = 30 ∧ ml y 2 = 29 ∧ ml y 3 = 30 ∧ ml y 4 = 29 ∧ ml y 5 = 30 ∧ ml y 6 = 29 ∧ ml y 7 = 30 ∧ ml y 10 = 29 ∧ ml y 11 = 30 ∧ ml y 13 = 29 := by
  unfold ml; simp
theorem ml12 (y : Int) : ml y 12 = if leapF y then 30 else 29 := by unfold ml; cases leapF y <;> simp
theorem ml89 (y : Int) : (sz y % 10 = 3 ∧ ml y 8 = 29 ∧ ml y 9 = 29) ∨ (sz y % 10 = 4 ∧ ml y 8 = 29 ∧ ml y 9 = 30) ∨ (sz y % 10 = 5 ∧ ml y 8 = 30 ∧ ml y 9 = 30) := by
  unfold ml
  rcases sz_cases y with ⟨_, h | h | h⟩ | ⟨_, h | h | h⟩ <;> simp [h]
theorem ml_bounds (y m : Int) : 29 ≤ ml y m ∧ ml y m ≤ 30 := by unfold ml; (repeat' split) <;> omega
-- the whole year
theorem off_sz (y : Int) : off y 6 + ml y 6 = sz y := by
  have h := ml_num y
  have h12 := ml12 y
  have h89 := ml89 y
  unfold off
  rw [h12]
  rcases sz_cases y with ⟨hl, hs⟩ | ⟨hl, hs⟩ <;> simp [hl] <;> omega
end Mine
set_option maxHeartbeats 8000000
namespace Mine
theorem NY_T (y : Int) : ∃ q c : Int, 25920 * q ≤ 765433 * nm y + 12084 ∧ 765433 * nm y + 12084 < 25920 * q + 25920 ∧ NY y = 347998 + q + c ∧ 0 ≤ c ∧ c ≤ 2 := by
  obtain ⟨w, e, p, M⟩ := moon_ex (nm y)
  have h := NY_moon M
  obtain ⟨g, e0, e7, p0, p1⟩ := M
  refine ⟨7 * w + e, NY y - 347998 - (7 * w + e), by omega, by omega, by omega, ?_, ?_⟩
  · rw [h]; unfold post; (repeat' split) <;> omega
  · rw [h]; unfold post; (repeat' split) <;> omega
theorem nm_bounds (y : Int) : 19 * nm y ≤ 235 * y - 234 ∧ 235 * y - 234 < 19 * nm y + 19 := by unfold nm; omega
theorem count_cases {Y j c : Int} (hY : 1 ≤ Y) (h1 : NY Y ≤ j) (h2 : j < NY (Y + 1)) (hc : c = ((j - 347996) * 98496).fdiv 35975351) : 0 ≤ c ∧ (c = Y - 2 ∨ c = Y - 1 ∨ c = Y) := by
  refine of_held ?_
  simp (disch := k_dflt (
      rw [fd (by decide)] at hc
      obtain ⟨q, x, a1, a2, a3, a4, a5⟩ := NY_T Y
      obtain ⟨q', x', b1, b2, b3, b4, b5⟩ := NY_T (Y + 1)
      have n1 := nm_bounds Y
      have n2 := nm_bounds (Y + 1)
      have hj : 347996 ≤ j := by
        have h3 := NY_mono (y := 1) hY
        have h4 : 347996 ≤ NY 1 := by decide
        omega
      refine ⟨by omega, ?_⟩
      generalize nm Y = n at *
      generalize nm (Y + 1) = n' at *
      have l1 : 35975351 * c ≤ (j - 347996) * 98496 := by omega
      have l2 : (j - 347996) * 98496 < 35975351 * c + 35975351 := by omega
      clear hc
      have u1 : c < Y + 1 := by omega
      have u2 : Y - 3 < c := by omega
      omega)) only [↓held]

-- the months in their order, as facts over letters
structure Offs (y : Int) : Prop where
  o7 : off y 7 = 0
  o8 : off y 8 = off y 7 + ml y 7
  o9 : off y 9 = off y 8 + ml y 8
  o10 : off y 10 = off y 9 + ml y 9
  o11 : off y 11 = off y 10 + ml y 10
  o12 : off y 12 = off y 11 + ml y 11
  o13 : off y 12 + ml y 12 ≤ off y 13
  o1 : off y 12 + ml y 12 ≤ off y 1
  o1l : leapF y = true → off y 1 = off y 13 + ml y 13
  o2 : off y 2 = off y 1 + ml y 1
  o3 : off y 3 = off y 2 + ml y 2
  o4 : off y 4 = off y 3 + ml y 3
  o5 : off y 5 = off y 4 + ml y 4
  o6 : off y 6 = off y 5 + ml y 5
  oe : off y 6 + ml y 6 = sz y
  o13l : leapF y = true → off y 13 = off y 12 + ml y 12
  o1n : leapF y = false → off y 1 = off y 12 + ml y 12
theorem offs (y : Int) : Offs y := by
  refine of_held ?_
  simp (disch := k_dflt (
      obtain ⟨u1, u2, u3, u4, u5, u6, u7, u10, u11, u13⟩ := ml_num y
      have u12 := ml12 y
      have b8 := ml_bounds y 8
      have b9 := ml_bounds y 9
      refine ⟨?_, ?_, ?_, ?_, ?_, ?_, ?_, ?_, ?_, ?_, ?_, ?_, ?_, ?_, off_sz y, ?_, ?_⟩
      all_goals (try intro hl)
      all_goals (try rw [hl] at u12)
      all_goals (simp [off, u1, u2, u3, u4, u5, u6, u7, u10, u11, u12, u13])
      all_goals (try rw [hl])
      all_goals (try simp)
      all_goals (try ((try rw [u12]); (repeat' split) <;> omega)))) only [↓held]

end Mine
namespace Mine
theorem off_lt {Y i M : Int} (h : 7 ≤ i ∧ i < M ∧ M ≤ 13 ∨ 1 ≤ i ∧ i < M ∧ M ≤ 6) : off Y i + ml Y i ≤ off Y M := by
  refine of_held ?_
  simp (disch := k_dflt (
      obtain ⟨o7, o8, o9, o10, o11, o12, o13, o1, o1l, o2, o3, o4, o5, o6, oe, o13l, o1n⟩ := offs Y
      obtain ⟨u1, u2, u3, u4, u5, u6, u7, u10, u11, u13⟩ := ml_num Y
      have u8 := ml_bounds Y 8
      have u9 := ml_bounds Y 9
      have u12 := ml_bounds Y 12
      have hi : i = 1 ∨ i = 2 ∨ i = 3 ∨ i = 4 ∨ i = 5 ∨ i = 7 ∨ i = 8 ∨ i = 9 ∨ i = 10 ∨ i = 11 ∨ i = 12 := by omega
      have hM : M = 2 ∨ M = 3 ∨ M = 4 ∨ M = 5 ∨ M = 6 ∨ M = 8 ∨ M = 9 ∨ M = 10 ∨ M = 11 ∨ M = 12 ∨ M = 13 := by omega
      rcases hi with e | e | e | e | e | e | e | e | e | e | e <;> subst e <;> rcases hM with e | e | e | e | e | e | e | e | e | e | e <;> subst e <;> omega)) only [↓held]

theorem off_all {Y M : Int} (h : 7 ≤ M ∧ M ≤ 13 ∨ 1 ≤ M ∧ M ≤ 6) (hl : M = 13 → leapF Y = true) : 0 ≤ off Y M ∧ off Y M + ml Y M ≤ sz Y ∧ (7 ≤ M → off Y M + ml Y M ≤ off Y 1) ∧ (M ≤ 6 → off Y 1 ≤ off Y M) := by
  refine of_held ?_
  simp (disch := k_dflt (
      obtain ⟨o7, o8, o9, o10, o11, o12, o13, o1, o1l, o2, o3, o4, o5, o6, oe, o13l, o1n⟩ := offs Y
      obtain ⟨u1, u2, u3, u4, u5, u6, u7, u10, u11, u13⟩ := ml_num Y
      have u8 := ml_bounds Y 8
      have u9 := ml_bounds Y 9
      have u12 := ml_bounds Y 12
      have hM : M = 1 ∨ M = 2 ∨ M = 3 ∨ M = 4 ∨ M = 5 ∨ M = 6 ∨ M = 7 ∨ M = 8 ∨ M = 9 ∨ M = 10 ∨ M = 11 ∨ M = 12 ∨ M = 13 := by omega
      rcases hM with e | e | e | e | e | e | e | e | e | e | e | e | e <;> subst e
      case inr.inr.inr.inr.inr.inr.inr.inr.inr.inr.inr.inr =>
        have := o1l (hl rfl)
        omega
      all_goals omega)) only [↓held]

end Mine
namespace Mine
theorem off15 (y : Int) : NY y + off y 1 + (15 - 1) + 163 = NY (y + 1) := by
  obtain ⟨o7, o8, o9, o10, o11, o12, o13, o1, o1l, o2, o3, o4, o5, o6, oe, o13l, o1n⟩ := offs y
  obtain ⟨u1, u2, u3, u4, u5, u6, u7, u10, u11, u13⟩ := ml_num y
  have := NY_step y
  omega
-- the first of two numbers that lies in the civil year
def Due (c a b n : Int) : Prop := (jan c ≤ a ∧ a < jan (c + 1)) ∧ n = a ∨ ¬ (jan c ≤ a ∧ a < jan (c + 1)) ∧ (jan c ≤ b ∧ b < jan (c + 1)) ∧ n = b
def NoDue (c a b : Int) : Prop := ¬ (jan c ≤ a ∧ a < jan (c + 1)) ∧ ¬ (jan c ≤ b ∧ b < jan (c + 1))
theorem due_cases (c a b : Int) : (∃ n, Due c a b n) ∨ NoDue c a b := by
  by_cases h : jan c ≤ a ∧ a < jan (c + 1)
  · exact .inl ⟨a, .inl ⟨h, rfl⟩⟩
  · by_cases h' : jan c ≤ b ∧ b < jan (c + 1)
    · exact .inl ⟨b, .inr ⟨h, h', rfl⟩⟩
    · exact .inr ⟨h, h'⟩
end Mine
open PySem PySem.W PyProof.Rows
set_option maxHeartbeats 8000000
namespace Mine
open_top hd for PySem.Challenge.rw_vp0006_01
end Mine
open PySem PySem.W PyProof.Rows PySem.Calls
namespace Mine
theorem fold_step (G : Int → Int → Int) (a : Int) (n : Nat) (c : Int) : (rangeKs a (n + 1)).foldl G c = G ((rangeKs a n).foldl G c) (a + (n : Int)) := by
  simp [rangeKs, List.range_succ]
theorem fold_0 (G : Int → Int → Int) (a c : Int) : (rangeKs a 0).foldl G c = c := by simp [rangeKs]
-- the month's lengths summed from the first month on
theorem fold_ml (y a c : Int) : ∀ (n : Nat), (∀ i : Nat, i < n → off y (a + (i : Int) + 1) = off y (a + (i : Int)) + ml y (a + (i : Int))) → (rangeKs a n).foldl (fun x k => x + ml y k) c = c + (off y (a + (n : Int)) - off y a)
  | 0, _ => by rw [fold_0]; simp
  | n + 1, h => by
    rw [fold_step, fold_ml y a c n (fun i hi => h i (Nat.lt_succ_of_lt hi))]
    have e := h n (Nat.lt_succ_self n)
    have e2 : a + ((n + 1 : Nat) : Int) = a + (n : Int) + 1 := by omega
    rw [e2, e]
    omega
theorem fold_lo (y c mo : Int) (h1 : 1 ≤ mo) (h2 : mo ≤ 6) : (rangeKs 1 (mo - 1).toNat).foldl (fun x k => x + ml y k) c = c + (off y mo - off y 1) := by
  have O := offs y
  rw [fold_ml]
  · have e : (1 : Int) + ((mo - 1).toNat : Int) = mo := by omega
    rw [e]
  · intro i hi
    have hi' : i = 0 ∨ i = 1 ∨ i = 2 ∨ i = 3 ∨ i = 4 := by omega
    rcases hi' with rfl | rfl | rfl | rfl | rfl
    · exact O.o2
    · exact O.o3
    · exact O.o4
    · exact O.o5
    · exact O.o6
theorem fold_hi (y c mo : Int) (h1 : 7 ≤ mo) (h2 : mo ≤ 13) (h3 : mo = 13 → leapF y = true) : (rangeKs 7 (mo - 7).toNat).foldl (fun x k => x + ml y k) c = c + off y mo := by
  have O := offs y
  rw [fold_ml, O.o7]
  · have e : (7 : Int) + ((mo - 7).toNat : Int) = mo := by omega
    rw [e]
    omega
  · intro i hi
    have hi' : i = 0 ∨ i = 1 ∨ i = 2 ∨ i = 3 ∨ i = 4 ∨ i = 5 := by omega
    rcases hi' with rfl | rfl | rfl | rfl | rfl | rfl
    · exact O.o8
    · exact O.o9
    · exact O.o10
    · exact O.o11
    · exact O.o12
    · exact O.o13l (h3 (by omega))
theorem fold_mid (y c m : Int) (hm : m = if leapF y then 13 else 12) : (rangeKs 7 (m + 1 - 7).toNat).foldl (fun x k => x + ml y k) c = c + off y 1 := by
  have O := offs y
  cases hl : leapF y
  · rw [hl] at hm
    simp only [Bool.false_eq_true, if_false] at hm
    subst hm
    have e : ((12 : Int) + 1 - 7).toNat = 5 + 1 := rfl
    rw [e, fold_step]
    have f := fold_hi y c 12 (by omega) (by omega) (by omega)
    have e2 : ((12 : Int) - 7).toNat = 5 := rfl
    rw [e2] at f
    rw [f]
    have := O.o1n hl
    show c + off y 12 + ml y 12 = _
    omega
  · rw [hl] at hm
    simp only [if_true] at hm
    subst hm
    have e : ((13 : Int) + 1 - 7).toNat = 6 + 1 := rfl
    rw [e, fold_step]
    have f := fold_hi y c 13 (by omega) (by omega) (fun _ => hl)
    have e2 : ((13 : Int) - 7).toNat = 6 := rfl
    rw [e2] at f
    rw [f]
    have := O.o1l hl
    show c + off y 13 + ml y 13 = _
    omega
end Mine
open PySem PySem.W PyProof.Rows PySem.Calls
set_option maxHeartbeats 8000000
namespace Mine
abbrev PR : Program := Challenge.rw_vp0006_01.row.prog

-- enter a def with the whole heap as the callee's ground
theorem enter0 {prog : Program} {w : World} {A₀ A : Around} {s : Shared} {base h₀ : Heap} {outer : List Env} {L : Addr} {m : Str → Option Value} {env : Env} {K : Frag} {p : Program} {loose : List Str} {mean : ExcName → Option Value} {mg mb : Str → Option Value}
    {R : Result → Shared → Prop} {name qual : Str} {params : Arguments} {body : List Stmt} {scope : Scope} {dV kV doc pm cdv ct oc : Value} {an od : Option Addr} {osl : Array (Option Value)} {f : Addr} {args : Args} (binds : List (Str × Value))
    (B : Below A₀ base outer h₀) (F : Fr h₀ L s.heap m) (X₀ : K.In h₀) (T : Top p loose mean mg mb h₀) (hA : A.frames = some (env :: outer)) (hf : env.frame = some L) (hke : env.scope.kind = .function)
    (ho : K.lookup f = some ⟨oc, od, .func (fnOf name qual params body scope dV kV doc pm an cdv ct), osl⟩) (hcd : codeIn K cdv qual = true) (hroom : A.depth < recursionLimit)
    (hbind : BindsTo s (fnOf name qual params body scope dV kV doc pm an cdv ct) args binds) (hloc : ∀ y ∈ binds, scope.names.lookup y.1 = some .local)
    (h : ∀ L' h₁, Fr s.heap L' h₁ (fun y => binds.reverse.lookup y) → News s.heap L' h₁ [] → Below A base (env :: outer) s.heap → K.In s.heap → Top p loose mean mg mb s.heap →
      wpAny (model prog w) (A.deeper (envOf qual scope L' f cdv)) (execs body (envOf qual scope L' f cdv))
        (fun fl s' => LeaveK h₀ L m s.heap R (match fl with | .ret v => v | _ => .none) s')
        (fun e s' => wpAny (model prog w) (A.deeper (envOf qual scope L' f cdv)) (leaving (envOf qual scope L' f cdv) e) (fun _ s'' => R (.error e) s'') (fun e' s'' => R (.error e') s'') s')
        { s with heap := h₁, toks := s.toks + binds.length })
    (hco : scope.isCoroutine = false) (hgen : scope.isGenerator = false) (hk : scope.kind = .function)
    (hcell : ∀ x ∈ scope.names, x.2 ≠ .cell) : codeAny (model prog w) A (.call (.ref f) args) R s := by
  obtain ⟨FG, BG, st, lv⟩ := groundX (R := R) B F (News.nil) hA hf hke
  have X := X₀.keeps F.keep
  refine codeAny_call_def (fd := fnOf name qual params body scope dV kV doc pm an cdv ct) (body := body) (binds := binds) hroom (X _ _ ho) rfl (T.nolimit.keeps F.keep) (codeRec_of X hcd) rfl hbind hcell hloc (fun h₁ hns hk₁ => ?_) hco hgen hk
  exact wpAny_mono (h s.heap.objs.size h₁ ⟨hns, hk₁, Nat.le_refl _⟩ News.nil BG X (T.keeps F.keep)) (fun fl s' hl => lv _ _ hl) fun _ _ y => y

-- what a pure call's answer is asked
abbrev RetI (P : Int → Prop) (s : Shared) (Q : Value → Shared → Prop) : Prop :=
  ∀ (v : Int) (t : Tok) (h' : Heap) (tk' : Nat), P v → s.heap.StaysIn h' → Q (.int v t) { s with heap := h', toks := tk' }
abbrev RetB (P : Bool → Prop) (s : Shared) (Q : Value → Shared → Prop) : Prop :=
  ∀ (v : Bool) (h' : Heap) (tk' : Nat), P v → s.heap.StaysIn h' → Q (.bool v) { s with heap := h', toks := tk' }
abbrev tup3 (a b c : Int) (ta tb tc : Tok) (n : Nat) : Obj := { cls := .type "tuple", data := .seq #[.int a ta, .int b tb, .int c tc] n }
abbrev RetT (P : Int → Int → Int → Prop) (s : Shared) (Q : Value → Shared → Prop) : Prop :=
  ∀ (a b c : Int) (ta tb tc : Tok) (n : Nat) (D : Addr) (h' : Heap) (tk' : Nat), P a b c → s.heap.StaysIn h' → h'.get? D = some (tup3 a b c ta tb tc n) → s.heap.get? D = none → Q (.ref D) { s with heap := h', toks := tk' }

abbrev Cl (w : World) (K : Frag) (p : Program) (loose : List Str) (mean : ExcName → Option Value) (mg mb : Str → Option Value) (f : Addr) (n : Nat) (vs : List Value) (Ret : Shared → (Value → Shared → Prop) → Prop) : Prop :=
  ∀ (dp un : Nat) (gd : Option (List Code)) (cn : Str) (cs : Scope) (a : Addr) (ccd : Value) (cl : List (Str × Addr)) (outer : List Env) (A₀ : Around) (base h₀ : Heap) (L : Addr) (m : Str → Option Value) (s : Shared) (Q E : Value → Shared → Prop),
    Below A₀ base outer h₀ → Fr h₀ L s.heap m → K.In h₀ → Top p loose mean mg mb h₀ → cs.kind = .function → dp + n < recursionLimit → un + 8 * n < cLine → Ret s Q →
      wpAny (model PR w) (ktrTop dp un gd cn cs L a ccd cl outer) (call (.ref f) vs) Q E s

section
variable {w : World} {K : Frag} {p : Program} {loose : List Str} {mean : ExcName → Option Value} {mg mb : Str → Option Value} {f : Addr} {n : Nat} {vs : List Value}
  {dp un : Nat} {gd : Option (List Code)} {cn : Str} {cs : Scope} {a : Addr} {ccd : Value} {cl : List (Str × Addr)} {outer : List Env} {A₀ : Around} {base h₀ : Heap} {L : Addr} {m : Str → Option Value} {s : Shared} {Q E : Value → Shared → Prop} {news : List (Addr × Obj)}
theorem useI {P : Int → Prop} (C : Cl w K p loose mean mg mb f n vs (RetI P)) (B : Below A₀ base outer h₀) (F : Fr h₀ L s.heap m) (X : K.In h₀) (N : News h₀ L s.heap news) (T : Top p loose mean mg mb h₀) (hk : cs.kind = .function) (hd : dp + n < recursionLimit) (hu : un + 8 * n < cLine)
    (ret : ∀ (v : Int) (t : Tok) (h' : Heap) (tk' : Nat), P v → Fr h₀ L h' m → News h₀ L h' news → Q (.int v t) { s with heap := h', toks := tk' }) :
    wpAny (model PR w) (ktrTop dp un gd cn cs L a ccd cl outer) (call (.ref f) vs) Q E s :=
  C _ _ _ _ _ _ _ _ _ _ _ _ _ _ _ _ _ B F X T hk hd hu fun v t h' tk' hp k => ret v t h' tk' hp (F.grownK k) (N.grown k)
theorem useB {P : Bool → Prop} (C : Cl w K p loose mean mg mb f n vs (RetB P)) (B : Below A₀ base outer h₀) (F : Fr h₀ L s.heap m) (X : K.In h₀) (N : News h₀ L s.heap news) (T : Top p loose mean mg mb h₀) (hk : cs.kind = .function) (hd : dp + n < recursionLimit) (hu : un + 8 * n < cLine)
    (ret : ∀ (v : Bool) (h' : Heap) (tk' : Nat), P v → Fr h₀ L h' m → News h₀ L h' news → Q (.bool v) { s with heap := h', toks := tk' }) :
    wpAny (model PR w) (ktrTop dp un gd cn cs L a ccd cl outer) (call (.ref f) vs) Q E s :=
  C _ _ _ _ _ _ _ _ _ _ _ _ _ _ _ _ _ B F X T hk hd hu fun v h' tk' hp k => ret v h' tk' hp (F.grownK k) (N.grown k)
theorem useT {P : Int → Int → Int → Prop} (C : Cl w K p loose mean mg mb f n vs (RetT P)) (B : Below A₀ base outer h₀) (F : Fr h₀ L s.heap m) (X : K.In h₀) (N : News h₀ L s.heap news) (T : Top p loose mean mg mb h₀) (hk : cs.kind = .function) (hd : dp + n < recursionLimit) (hu : un + 8 * n < cLine)
    (ret : ∀ (a b c : Int) (ta tb tc : Tok) (n : Nat) (D : Addr) (h' : Heap) (tk' : Nat), P a b c → Fr h₀ L h' m → News h₀ L h' ((D, tup3 a b c ta tb tc n) :: news) → (∀ q ∈ news, q.1 ≠ D) → Q (.ref D) { s with heap := h', toks := tk' }) :
    wpAny (model PR w) (ktrTop dp un gd cn cs L a ccd cl outer) (call (.ref f) vs) Q E s :=
  C _ _ _ _ _ _ _ _ _ _ _ _ _ _ _ _ _ B F X T hk hd hu fun a b c ta tb tc n D h' tk' hp k hD hn => by
    refine ret a b c ta tb tc n D h' tk' hp (F.grownK k) ?_ ?_
    · refine News.more (F.grownK k) (N.grown k) hD (fun es n e => nomatch e) ?_
      cases q : h₀.get? D with
      | none => rfl
      | some o => rw [F.keep _ _ q] at hn; cases hn
    · intro q hq e
      have := (N q hq).1
      rw [e, hn] at this; cases this
end

-- an equation that omega does not see
structure Hd (a b : Int) : Prop where
  out : a = b
theorem Hd_iff {a b : Int} : Hd a b ↔ a = b := ⟨fun h => h.out, fun h => ⟨h⟩⟩
theorem store_gen {M : Model} {A : Around} {E : Value → Shared → Prop} {s : Shared} {env : Env} {x : Str} {v : Int} {t : Tok} {Q : Unit → Shared → Prop} (h : ∀ v' : Int, Hd v' v → wpAny M A (storeName env x (.int v' t)) Q E s) : wpAny M A (storeName env x (.int v t)) Q E s := h v ⟨rfl⟩
-- ends of a pure def's walk
section
variable {s₀ s : Shared} {Q : Value → Shared → Prop} {h' : Heap} {tk' : Nat} {L' : Addr} {m' : Str → Option Value} {t : Tok}
theorem endI {P : Int → Prop} (hret : RetI P s Q) (F : Fr s.heap L' h' m') (v : Int) (hp : P v) : Q (.int v t) { s with heap := h', toks := tk' } := hret v t h' tk' hp F.keep
theorem endB {P : Bool → Prop} (hret : RetB P s Q) (F : Fr s.heap L' h' m') (v : Bool) (hp : P v) : Q (.bool v) { s with heap := h', toks := tk' } := hret v h' tk' hp F.keep
theorem endT {P : Int → Int → Int → Prop} {a b c : Int} {ta tb tc : Tok} {n : Nat} {D : Addr} {news : List (Addr × Obj)} (hret : RetT P s Q) (F : Fr s.heap L' h' m') (N : News s.heap L' h' news) (hm : (D, tup3 a b c ta tb tc n) ∈ news) (hp : P a b c) : Q (.ref D) { s with heap := h', toks := tk' } :=
  hret a b c ta tb tc n D h' tk' hp F.keep (N _ hm).1 (N _ hm).2.2
end
end Mine
namespace Mine
section
variable {prog : Program} {w : World} {A : Around} {E : Value → Shared → Prop} {env : Env} {test : PySem.Expr} {body orelse : List Stmt} {Q : Flow → Shared → Prop}
-- a while by a number that falls
theorem whl_inv (Inv : Nat → Shared → Prop) (hstep : ∀ n s, (∀ s', Inv n s' → WhlRest prog w A E env test body orelse Q 0 s') → Inv (n + 1) s → WhlRest prog w A E env test body orelse Q 1 s)
    (h0 : ∀ s, Inv 0 s → WhlRest prog w A E env test body orelse Q 1 s) : ∀ n s, Inv n s → WhlRest prog w A E env test body orelse Q 0 s := fun n => by
  induction n with
  | zero => exact h0
  | succ n ih => exact fun s hs => hstep n s ih hs
end
theorem fr_cong {h₀ h : Heap} {L : Addr} {m m' : Str → Option Value} (F : Fr h₀ L h m) (e : ∀ x, m x = m' x) : Fr h₀ L h m' := (funext e : m = m') ▸ F
end Mine
namespace Mine
abbrev RetS (x : Str) (s : Shared) (Q : Value → Shared → Prop) : Prop :=
  ∀ (t : Tok) (h' : Heap) (tk' : Nat), s.heap.StaysIn h' → Q (.str x t) { s with heap := h', toks := tk' }
abbrev RetN (s : Shared) (Q : Value → Shared → Prop) : Prop :=
  ∀ (h' : Heap) (tk' : Nat), s.heap.StaysIn h' → Q .none { s with heap := h', toks := tk' }
section
variable {w : World} {K : Frag} {p : Program} {loose : List Str} {mean : ExcName → Option Value} {mg mb : Str → Option Value} {f : Addr} {n : Nat} {vs : List Value}
  {dp un : Nat} {gd : Option (List Code)} {cn : Str} {cs : Scope} {a : Addr} {ccd : Value} {cl : List (Str × Addr)} {outer : List Env} {A₀ : Around} {base h₀ : Heap} {L : Addr} {m : Str → Option Value} {s : Shared} {Q E : Value → Shared → Prop} {news : List (Addr × Obj)}
theorem useS {x : Str} (C : Cl w K p loose mean mg mb f n vs (RetS x)) (B : Below A₀ base outer h₀) (F : Fr h₀ L s.heap m) (X : K.In h₀) (N : News h₀ L s.heap news) (T : Top p loose mean mg mb h₀) (hk : cs.kind = .function) (hd : dp + n < recursionLimit) (hu : un + 8 * n < cLine)
    (ret : ∀ (t : Tok) (h' : Heap) (tk' : Nat), Fr h₀ L h' m → News h₀ L h' news → Q (.str x t) { s with heap := h', toks := tk' }) :
    wpAny (model PR w) (ktrTop dp un gd cn cs L a ccd cl outer) (call (.ref f) vs) Q E s :=
  C _ _ _ _ _ _ _ _ _ _ _ _ _ _ _ _ _ B F X T hk hd hu fun t h' tk' k => ret t h' tk' (F.grownK k) (N.grown k)
theorem useN (C : Cl w K p loose mean mg mb f n vs RetN) (B : Below A₀ base outer h₀) (F : Fr h₀ L s.heap m) (X : K.In h₀) (N : News h₀ L s.heap news) (T : Top p loose mean mg mb h₀) (hk : cs.kind = .function) (hd : dp + n < recursionLimit) (hu : un + 8 * n < cLine)
    (ret : ∀ (h' : Heap) (tk' : Nat), Fr h₀ L h' m → News h₀ L h' news → Q .none { s with heap := h', toks := tk' }) :
    wpAny (model PR w) (ktrTop dp un gd cn cs L a ccd cl outer) (call (.ref f) vs) Q E s :=
  C _ _ _ _ _ _ _ _ _ _ _ _ _ _ _ _ _ B F X T hk hd hu fun h' tk' k => ret h' tk' (F.grownK k) (N.grown k)
end
section
variable {s : Shared} {Q : Value → Shared → Prop} {h' : Heap} {tk' : Nat} {L' : Addr} {m' : Str → Option Value} {t : Tok}
theorem endS {x : Str} (hret : RetS x s Q) (F : Fr s.heap L' h' m') : Q (.str x t) { s with heap := h', toks := tk' } := hret t h' tk' F.keep
theorem endN (hret : RetN s Q) (F : Fr s.heap L' h' m') : Q .none { s with heap := h', toks := tk' } := hret h' tk' F.keep
end
end Mine
namespace Mine
theorem newsTail {h₀ h : Heap} {L : Addr} {q : Addr × Obj} {l : List (Addr × Obj)} (N : News h₀ L h (q :: l)) : News h₀ L h l := fun p hp => N p (.tail _ hp)
end Mine
namespace Mine
theorem For_unrX {prog : Program} {w : World} {A : Around} {env : Env} {s : Shared} {E : Value → Shared → Prop} {Q : Flow → Shared → Prop} {target iter : PySem.Expr} {pos : Pos} {body : List Stmt} {h₀ h : Heap} {L : Addr} {m : Str → Option Value} (_F : Fr h₀ L h m)
    (hh : wpAny (model prog w) A (eval iter env) (fun xv s₁ => wpAny (model prog w) A (pyIter xv) (fun it s₂ => UnrAt prog w A h₀ env target body Q E it s₂) E s₁) E s)
    (hs : ∀ x, foldedSetIterable iter env x = pure x) (hE : PassesOwn (model prog w) A env E) : wpAny (model prog w) A (exec (.For target iter body [] pos) env) Q E s := For_unr h₀ hh hs hE
end Mine
namespace Mine
abbrev updF (m : Str → Option Value) (M r ln : Int) (t1 t2 t3 : Tok) : Str → Option Value := fun x => if x = Str.ofString "left" then some (Value.int r t1) else if x = Str.ofString "length" then some (Value.int ln t2) else if x = Str.ofString "month" then some (Value.int M t3) else m x
theorem cutFor {M : Model} {A : Around} {t : Sem Flow} {E : Value → Shared → Prop} {Q : Flow → Shared → Prop} {s : Shared} {h₀ h : Heap} {L : Addr} {m : Str → Option Value} {news : List (Addr × Obj)} (_F : Fr h₀ L h m) (_N : News h₀ L h news) (facts : Int → Int → Prop)
    (hfor : wpAny M A t (fun f s' => f = Flow.next ∧ ∃ (h' : Heap) (tk' : Nat) (mo r ln : Int) (t1 t2 t3 : Tok), s' = { s with heap := h', toks := tk' } ∧ Fr h₀ L h' (updF m mo r ln t1 t2 t3) ∧ News h₀ L h' news ∧ facts mo r) E s)
    (hrest : ∀ (h' : Heap) (tk' : Nat) (mo r ln : Int) (t1 t2 t3 : Tok), facts mo r → Fr h₀ L h' (updF m mo r ln t1 t2 t3) → News h₀ L h' news → Q Flow.next { s with heap := h', toks := tk' }) : wpAny M A t Q E s :=
  wpAny_mono hfor (fun f s' h => by
    obtain ⟨rfl, h', tk', mo, r, ln, t1, t2, t3, rfl, F', N', hf⟩ := h
    exact hrest h' tk' mo r ln t1 t2 t3 hf F' N') fun _ _ h => h
end Mine
open PySem PySem.W PyProof.Rows PySem.Calls
set_option maxHeartbeats 4000000
namespace Mine
theorem slot_list_iadd : Slot "list" "__iadd__" "list.__iadd__" :=
  .of (owner := "list") (n := "__iadd__") (by rw [typeLookup_type, builtinLookup_eq_fast]; kernel_rfl) (by decide +kernel) (by decide +kernel) (by decide +kernel)
    (by first | exact .inl (by decide +kernel) | exact .inr (by decide +kernel)) (by rw [isSubtype_type]; kernel_rfl)
theorem args_list_iadd_2 (a b : Value) : argsOk "list.__iadd__" ⟨[a, b], []⟩ := by
  unfold argsOk; rw [signature?_of (id := "list.__iadd__") (n := ['_', '_', 'd', 'd', 'a', 'i', '_', '_']) (o := ['t', 's', 'i', 'l']) (by kernel_rfl) F.owner_list]; kernel_rfl
section
variable {M : Model} {A : Around} {E : Value → Shared → Prop} {s : Shared}
theorem iadd_road {a b : Value} {Q : Value → Shared → Prop} (ha : s.TypeIs a "list") (hb : s.TypeIs b "list") (hc : wpAny M A (call (.builtin "list.__iadd__") [a, b]) Q E s) : wpAny M A (inplaceOp .Add a b) Q E s := by
  have hI : typeLookup (.type "list") (dunderI "add") = pure (some (.builtin "list.__iadd__")) := slot_list_iadd.lookup
  have hq : isSeqSlot (some (.builtin "list.__iadd__")) = true := by decide +kernel
  unfold inplaceOp
  refine wpAny_holding ?_
  have hfi : fillsInplaceSlot (.type "list") "add" (Operator.Add == .Add) = pure false := by
    unfold fillsInplaceSlot
    show (typeLookup (.type "list") (dunderI "add") >>= fun fi => pure (fi.isSome && !isSeqSlot fi)) = pure false
    rw [hI]
    simp only [pure_bind, hq, Option.isSome_some, Bool.not_true, Bool.and_false]
  have hsi : seqSlot? (.type "list") (dunderI "add") = pure (some (.builtin "list.__iadd__")) := PySem.seqSlot_of hI hq
  refine wpAny_bind (wpAny_typeOf ha (wpAny_bind (wpAny_of_eq hfi ?_)))
  show wpAny M A (if false = true then _ else _) Q E s
  rw [if_neg Bool.false_ne_true]
  refine wpAny_bind (wpAny_binaryOp1_none (nm := "add") ha hb PySem.noFill_list_add ?_)
  refine wpAny_bind (wpAny_of_eq hsi ?_)
  exact wpAny_bind (wpAny_rule hc)
end
section
variable {prog : Program} {w : World} {A : Around} {E : Value → Shared → Prop} {s : Shared} {h₀ : Heap} {L : Addr} {m : Str → Option Value}
theorem iadd_in {D b : Addr} {ys : List Value} {n n2 : Nat} {its2 : Array Value} {own rest : List (Addr × Obj)} {Q : Value → Shared → Prop}
    (F : Fr h₀ L s.heap m) (N : News h₀ L s.heap (own ++ (D, { cls := .type "list", data := .seq ys.toArray n }) :: rest)) (hown : ∀ p ∈ own, p.1 ≠ D) (hap : ∀ p ∈ rest, p.1 ≠ D)
    (hb : s.heap.get? b = some { cls := .type "list", data := .seq its2 n2 })
    (h : ∀ h' n', Fr h₀ L h' m → News h₀ L h' (own ++ (D, { cls := .type "list", data := .seq (ys ++ its2.toList).toArray n' }) :: rest) → Q (.ref D) { s with heap := h' })
    (hsz : ys.length + its2.size ≤ sizeLine := by size_fits) :
    wpAny (model prog w) A (inplaceOp .Add (.ref D) (.ref b)) Q E s := by
  have hm := N _ (List.mem_append_right own (List.Mem.head rest))
  have hsz' : ys.toArray.size + its2.size ≤ sizeLine := by rw [List.size_toArray]; exact hsz
  refine iadd_road ⟨_, hm.1, rfl⟩ ⟨_, hb, rfl⟩ ?_
  refine call_meets slot_list_iadd ⟨_, hm.1, rfl⟩ PySem.F.entry_list_iadd (args_list_iadd_2 _ _) (AutoSeq1.list___iadd___list_list_0 D ys.toArray n b its2 n2 (extend_door hsz') (Nat.le_trans (Nat.le_add_right _ _) hsz')) ⟨hm.1, hb, ?_⟩
  have e : ys.toArray ++ its2 = (ys ++ its2.toList).toArray := by simp
  have ho' : (s.heap.update D (Obj.mapSeq fun x => x ++ its2)).get? D = some { cls := .type "list", data := .seq (ys ++ its2.toList).toArray (if (ys.toArray ++ its2).size == ys.toArray.size then n else n + 1) } := by
    rw [Heap.get?_update_self _ hm.1 (by rw [mapSeq_app]; rfl), mapSeq_app, e]
  exact h _ _ (F.change (Heap.SameBut.update ..) hm.2.1 hm.2.2) (N.setIn hown hap (Heap.SameBut.update ..) ho')
end
end Mine
namespace Mine
section
variable {prog : Program} {w : World} {A : Around} {E : Value → Shared → Prop} {s : Shared} {h₀ : Heap} {L : Addr} {m : Str → Option Value}
theorem iadd_K {D b : Addr} {ys zs : List Value} {n n2 : Nat} {news news' : List (Addr × Obj)} {Q : Value → Shared → Prop}
    (F : Fr h₀ L s.heap m) (N : News h₀ L s.heap news) (hb : (b, W.listOf zs.toArray n2) ∈ news) (U : Upd D (W.listOf ys.toArray n) (W.listOf (ys ++ zs).toArray (n + 1)) news news') (hne : zs ≠ [])
    (h : ∀ h', Fr h₀ L h' m → News h₀ L h' news' → Q (.ref D) { s with heap := h' }) (hsz : ys.length + zs.length ≤ sizeLine := by size_fits) :
    wpAny (model prog w) A (inplaceOp .Add (.ref D) (.ref b)) Q E s := by
  obtain ⟨pre, post, rfl, rfl, a1, a2⟩ := U.split
  have hm := N _ (List.mem_append_right pre (List.Mem.head post))
  have hbb := (N _ hb).1
  have hsz' : ys.toArray.size + zs.toArray.size ≤ sizeLine := by rw [List.size_toArray, List.size_toArray]; exact hsz
  refine iadd_road ⟨_, hm.1, rfl⟩ ⟨_, hbb, rfl⟩ ?_
  refine call_meets slot_list_iadd ⟨_, hm.1, rfl⟩ PySem.F.entry_list_iadd (args_list_iadd_2 _ _) (AutoSeq1.list___iadd___list_list_0 D ys.toArray n b zs.toArray n2 (extend_door hsz') (Nat.le_trans (Nat.le_add_right _ _) hsz')) ⟨hm.1, hbb, ?_⟩
  have e : ys.toArray ++ zs.toArray = (ys ++ zs).toArray := by simp
  have hz : ((ys ++ zs).toArray.size == ys.toArray.size) = false := by
    rw [beq_eq_false_iff_ne]
    simp only [List.size_toArray, List.length_append]
    have : zs.length ≠ 0 := fun q => hne (List.length_eq_zero_iff.mp q)
    omega
  have ho' : (s.heap.update D (Obj.mapSeq fun x => x ++ zs.toArray)).get? D = some (W.listOf (ys ++ zs).toArray (n + 1)) := by
    rw [Heap.get?_update_self _ hm.1 (by rw [mapSeq_app]; rfl), mapSeq_app, e, hz]; rfl
  exact h _ (F.change (Heap.SameBut.update ..) hm.2.1 hm.2.2) (N.setIn a1 a2 (Heap.SameBut.update ..) ho')
end
end Mine
open PySem PySem.W PyProof.Rows PySem.Calls
set_option maxHeartbeats 4000000
namespace Mine
-- what the ground of a callee keeps of the caller's heap: all but the object D, which stands on its ledger
abbrev Wo (h : Heap) (D : Addr) (g : Heap) : Prop := ∀ b o, h.get? b = some o → b ≠ D → g.get? b = some o
theorem stays_D {h g h' : Heap} {D L' : Addr} {o : Obj} {m' : Str → Option Value} {news : List (Addr × Obj)} (W : Wo h D g) (hD : h.get? D = some o) (F : Fr g L' h' m') (N : News g L' h' news) (hm : (D, o) ∈ news) : h.StaysIn h' := fun b o' e => by
  by_cases q : b = D
  · subst q
    rw [hD] at e
    cases e
    exact (N _ hm).1
  · exact F.keep _ _ (W _ _ e q)
theorem enterD {prog : Program} {w : World} {A₀ A : Around} {s : Shared} {base h₀ : Heap} {outer : List Env} {L D : Addr} {o : Obj} {m : Str → Option Value} {env : Env} {K : Frag} {p : Program} {loose : List Str} {mean : ExcName → Option Value} {mg mb : Str → Option Value}
    {R : Result → Shared → Prop} {name qual : Str} {params : Arguments} {body : List Stmt} {scope : Scope} {dV kV doc pm cdv ct oc : Value} {an od : Option Addr} {osl : Array (Option Value)} {f : Addr} {args : Args} (binds : List (Str × Value))
    (B : Below A₀ base outer h₀) (F : Fr h₀ L s.heap m) (X₀ : K.In h₀) (N : News h₀ L s.heap [(D, o)]) (T : Top p loose mean mg mb h₀) (hA : A.frames = some (env :: outer)) (hf : env.frame = some L) (hke : env.scope.kind = .function)
    (ho : K.lookup f = some ⟨oc, od, .func (fnOf name qual params body scope dV kV doc pm an cdv ct), osl⟩) (hcd : codeIn K cdv qual = true) (hroom : A.depth < recursionLimit)
    (hbind : BindsTo s (fnOf name qual params body scope dV kV doc pm an cdv ct) args binds) (hloc : ∀ y ∈ binds, scope.names.lookup y.1 = some .local)
    (h : ∀ g L' h₁, Wo s.heap D g → Fr g L' h₁ (fun y => binds.reverse.lookup y) → News g L' h₁ [(D, o)] → Below A base (env :: outer) g → K.In g → Top p loose mean mg mb g →
      wpAny (model prog w) (A.deeper (envOf qual scope L' f cdv)) (execs body (envOf qual scope L' f cdv))
        (fun fl s' => LeaveK h₀ L m g R (match fl with | .ret v => v | _ => .none) s')
        (fun e s' => wpAny (model prog w) (A.deeper (envOf qual scope L' f cdv)) (leaving (envOf qual scope L' f cdv) e) (fun _ s'' => R (.error e) s'') (fun e' s'' => R (.error e') s'') s')
        { s with heap := h₁, toks := s.toks + binds.length })
    (hco : scope.isCoroutine = false) (hgen : scope.isGenerator = false) (hk : scope.kind = .function)
    (hcell : ∀ x ∈ scope.names, x.2 ≠ .cell) : codeAny (model prog w) A (.call (.ref f) args) R s := by
  obtain ⟨FG, BG, st, lv⟩ := groundX (R := R) B F N hA hf hke
  have X := X₀.keeps F.keep
  refine codeAny_call_def (fd := fnOf name qual params body scope dV kV doc pm an cdv ct) (body := body) (binds := binds) hroom (X _ _ ho) rfl (T.nolimit.keeps F.keep) (codeRec_of X hcd) rfl hbind hcell hloc (fun h₁ hns hk₁ => ?_) hco hgen hk
  refine wpAny_mono (h (hideAll s.heap [D]) s.heap.objs.size h₁ (fun b o' e q => hideAll_get _ e (by simpa using q)) ⟨hns, fun b o' e => hk₁ b o' (of_hideAll _ e), Nat.le_of_eq (hideAll_size _ _)⟩ (fun p hp => ?_) BG (X₀.keeps st) (T.keeps st)) (fun fl s' hl => lv _ _ hl) fun _ _ y => y
  exact ⟨hk₁ _ _ (N p hp).1, Nat.ne_of_lt (Heap.lt_size (N p hp).1), hideAll_none [D] (by have e := List.mem_singleton.mp hp; rw [e]; exact .head _)⟩
abbrev ClD (w : World) (K : Frag) (p : Program) (loose : List Str) (mean : ExcName → Option Value) (mg mb : Str → Option Value) (D : Addr) (o : Obj) (f : Addr) (n : Nat) (vs : List Value) (Ret : Shared → (Value → Shared → Prop) → Prop) : Prop :=
  ∀ (dp un : Nat) (gd : Option (List Code)) (cn : Str) (cs : Scope) (a : Addr) (ccd : Value) (cl : List (Str × Addr)) (outer : List Env) (A₀ : Around) (base h₀ : Heap) (L : Addr) (m : Str → Option Value) (s : Shared) (Q E : Value → Shared → Prop),
    Below A₀ base outer h₀ → Fr h₀ L s.heap m → K.In h₀ → News h₀ L s.heap [(D, o)] → Top p loose mean mg mb h₀ → cs.kind = .function → dp + n < recursionLimit → un + 8 * n < cLine → Ret s Q →
      wpAny (model PR w) (ktrTop dp un gd cn cs L a ccd cl outer) (call (.ref f) vs) Q E s
section
variable {w : World} {K : Frag} {p : Program} {loose : List Str} {mean : ExcName → Option Value} {mg mb : Str → Option Value} {f : Addr} {n : Nat} {vs : List Value} {D : Addr} {o : Obj}
  {dp un : Nat} {gd : Option (List Code)} {cn : Str} {cs : Scope} {a : Addr} {ccd : Value} {cl : List (Str × Addr)} {outer : List Env} {A₀ : Around} {base h₀ : Heap} {L : Addr} {m : Str → Option Value} {s : Shared} {Q E : Value → Shared → Prop} {news : List (Addr × Obj)}
theorem useID {P : Int → Prop} (C : ClD w K p loose mean mg mb D o f n vs (RetI P)) (B : Below A₀ base outer h₀) (F : Fr h₀ L s.heap m) (X : K.In h₀) (N : News h₀ L s.heap news) (T : Top p loose mean mg mb h₀) (hm : (D, o) ∈ news) (hk : cs.kind = .function) (hd : dp + n < recursionLimit) (hu : un + 8 * n < cLine)
    (ret : ∀ (v : Int) (t : Tok) (h' : Heap) (tk' : Nat), P v → Fr h₀ L h' m → News h₀ L h' news → Q (.int v t) { s with heap := h', toks := tk' }) :
    wpAny (model PR w) (ktrTop dp un gd cn cs L a ccd cl outer) (call (.ref f) vs) Q E s :=
  C _ _ _ _ _ _ _ _ _ _ _ _ _ _ _ _ _ B F X (fun q hq => N q (by have e := List.mem_singleton.mp hq; rw [e]; exact hm)) T hk hd hu fun v t h' tk' hp k => ret v t h' tk' hp (F.grownK k) (N.grown k)
theorem useBD {P : Bool → Prop} (C : ClD w K p loose mean mg mb D o f n vs (RetB P)) (B : Below A₀ base outer h₀) (F : Fr h₀ L s.heap m) (X : K.In h₀) (N : News h₀ L s.heap news) (T : Top p loose mean mg mb h₀) (hm : (D, o) ∈ news) (hk : cs.kind = .function) (hd : dp + n < recursionLimit) (hu : un + 8 * n < cLine)
    (ret : ∀ (v : Bool) (h' : Heap) (tk' : Nat), P v → Fr h₀ L h' m → News h₀ L h' news → Q (.bool v) { s with heap := h', toks := tk' }) :
    wpAny (model PR w) (ktrTop dp un gd cn cs L a ccd cl outer) (call (.ref f) vs) Q E s :=
  C _ _ _ _ _ _ _ _ _ _ _ _ _ _ _ _ _ B F X (fun q hq => N q (by have e := List.mem_singleton.mp hq; rw [e]; exact hm)) T hk hd hu fun v h' tk' hp k => ret v h' tk' hp (F.grownK k) (N.grown k)
theorem useND (C : ClD w K p loose mean mg mb D o f n vs RetN) (B : Below A₀ base outer h₀) (F : Fr h₀ L s.heap m) (X : K.In h₀) (N : News h₀ L s.heap news) (T : Top p loose mean mg mb h₀) (hm : (D, o) ∈ news) (hk : cs.kind = .function) (hd : dp + n < recursionLimit) (hu : un + 8 * n < cLine)
    (ret : ∀ (h' : Heap) (tk' : Nat), Fr h₀ L h' m → News h₀ L h' news → Q .none { s with heap := h', toks := tk' }) :
    wpAny (model PR w) (ktrTop dp un gd cn cs L a ccd cl outer) (call (.ref f) vs) Q E s :=
  C _ _ _ _ _ _ _ _ _ _ _ _ _ _ _ _ _ B F X (fun q hq => N q (by have e := List.mem_singleton.mp hq; rw [e]; exact hm)) T hk hd hu fun h' tk' k => ret h' tk' (F.grownK k) (N.grown k)
end
section
variable {s : Shared} {Q : Value → Shared → Prop} {h' g : Heap} {tk' : Nat} {L' D : Addr} {o : Obj} {m' : Str → Option Value} {t : Tok} {news : List (Addr × Obj)}
theorem endID {P : Int → Prop} (hret : RetI P s Q) (W : Wo s.heap D g) (hD : s.heap.get? D = some o) (F : Fr g L' h' m') (N : News g L' h' news) (hm : (D, o) ∈ news) (v : Int) (hp : P v) : Q (.int v t) { s with heap := h', toks := tk' } := hret v t h' tk' hp (stays_D W hD F N hm)
theorem endBD {P : Bool → Prop} (hret : RetB P s Q) (W : Wo s.heap D g) (hD : s.heap.get? D = some o) (F : Fr g L' h' m') (N : News g L' h' news) (hm : (D, o) ∈ news) (v : Bool) (hp : P v) : Q (.bool v) { s with heap := h', toks := tk' } := hret v h' tk' hp (stays_D W hD F N hm)
theorem endND (hret : RetN s Q) (W : Wo s.heap D g) (hD : s.heap.get? D = some o) (F : Fr g L' h' m') (N : News g L' h' news) (hm : (D, o) ∈ news) : Q .none { s with heap := h', toks := tk' } := hret h' tk' (stays_D W hD F N hm)
end
end Mine
open PySem PySem.W PyProof.Rows PySem.Calls
set_option maxHeartbeats 4000000
namespace Mine
theorem paired_eq : ∀ {l l' : List Value}, Paired (fun v r : Value => r = v) l l' → l' = l
  | _, _, .nil => rfl
  | _, _, .cons e t => by rw [e, paired_eq t]
section
variable {prog : Program} {w : World} {A : Around} {E : Value → Shared → Prop} {s₁ : Shared} {h₀ : Heap} {L : Addr} {m : Str → Option Value} {news : List (Addr × Obj)}
-- a comprehension over a tuple that takes every item over as it is
theorem comp_tup {env : Env} {elt : PySem.Expr} {x : Str} {ifs : List PySem.Expr} {scope : Scope} {Q : Value → Shared → Prop} {l : Addr} {vs : List Value} {o : Obj}
    (hh : A.handled = none) (F : Fr h₀ L s₁.heap m) (N : News h₀ L s₁.heap news) (hm : (l, o) ∈ news) (hl : IsTup s₁.heap l vs.toArray)
    (g1 : ∀ C v s₂ m₂ E', v ∈ vs → s₂.heap.Ns C m₂ → m₂ x = some v → h₀.StaysIn s₂.heap →
        wpAny (model prog w) A (forIn ifs true fun c r => if r = true then do let ok ← isTrue c (compEnv scope C env) (eval c (compEnv scope C env)); pure (ForInStep.yield ok) else pure (ForInStep.yield r))
          (fun ok s₃ => ok = true ∧ Keeps s₂ s₃) E' s₂)
    (g2 : ∀ C v s₂ m₂ E', v ∈ vs → s₂.heap.Ns C m₂ → m₂ x = some v → h₀.StaysIn s₂.heap → wpAny (model prog w) A (eval elt (compEnv scope C env)) (fun r s₃ => r = v ∧ Keeps s₂ s₃) E' s₂)
    (g3 : ∀ D k h' tk, Fr h₀ L h' m → News h₀ L h' ((D, W.listOf vs.toArray k) :: news) → (∀ q ∈ news, q.1 ≠ D) → Q (.ref D) { s₁ with heap := h', toks := tk })
    (hsz : vs.length ≤ sizeLine := by size_fits) :
    wpAny (model prog w) A (pyIter (.ref l)) (CompPost prog w A env scope x ifs elt Q) E s₁ := by
  have hlt : l < s₁.heap.objs.size := by obtain ⟨_, e, _⟩ := hl; exact Heap.lt_size e
  have hls : s₁.heap.IsTuple l vs.toArray := hl
  refine wpAny_pyIter_tuple hls ?_
  have up : ∀ (h' : Heap), (∀ b o', b ∉ [s₁.heap.objs.size] → (s₁.heap.push { cls := .type "tuple_iterator", data := .fields #[.ref l, .int 0 0] }).get? b = some o' → h'.get? b = some o') → ∀ b o', s₁.heap.get? b = some o' → h'.get? b = some o' :=
    fun h' hk b o' e => hk b o' (not_iter_of_old e) (Heap.get?_push_of_some _ e)
  have mem : ∀ (i : Nat) (v : Value), vs.toArray[i]? = some v → v ∈ vs := fun i v e => List.mem_of_getElem? (by simpa using e)
  refine ⟨fun _ => true, fun v r => r = v, s₁.heap.objs.size, [s₁.heap.objs.size, l], [s₁.heap.objs.size], vs.toArray.size, _, _, rfl, Walks.tuple hh _ l (Nat.ne_of_lt hlt) vs.toArray, (by rw [List.size_toArray]; exact hsz),
    ⟨⟨_, Heap.get?_push_size _ rfl, rfl, rfl⟩, hls.at fun o e => Heap.get?_push_of_some _ e⟩, ?_, ⟨?_, ?_⟩, ?_⟩
  · intro b hb
    show b < (s₁.heap.push _).objs.size
    rw [Heap.size_push]
    rcases List.mem_cons.mp hb with rfl | hb
    · exact Nat.lt_succ_self _
    · rw [List.mem_singleton.mp hb]; exact Nat.lt_succ_of_lt hlt
  · intro C i v s₃ m₃ E' hP hn hm' hk _
    exact g1 C v s₃ m₃ E' (mem i v hP) hn hm' fun b o e => up _ hk b o (F.keep b o e)
  · intro C i v s₃ m₃ E' hP _ hn hm' hk _
    exact g2 C v s₃ m₃ E' (mem i v hP) hn hm' fun b o e => up _ hk b o (F.keep b o e)
  · intro D h' tk ys vs' hnew hlD hplD hlen hP hF hk
    have e' : vs' = vs := by simpa using walked_is hlen hP
    subst e'
    have e2 : ys.toList = vs' := (paired_eq hF).trans (List.filter_eq_self.mpr fun _ _ => rfl)
    have hD : h₀.get? D = none := by
      cases e : h₀.get? D with
      | none => rfl
      | some o' => rw [Heap.get?_push_of_some _ (F.keep _ _ e)] at hnew; cases hnew
    obtain ⟨k, hD'⟩ := hplD
    have e3 : ys = vs'.toArray := by rw [← e2]
    rw [e3] at hD'
    have F' := F.keeps (up h' hk)
    exact g3 D k h' tk F' (News.more F' (N.grown (up h' hk)) hD' (fun es n e => nomatch e) hD) fun p hp e => by rw [← e, Heap.get?_push_of_some _ (N p hp).1] at hnew; cases hnew
end
theorem tests_one {M : Model} {A : Around} {E : Value → Shared → Prop} {s : Shared} {c : PySem.Expr} {cenv : Env} {Q : Bool → Shared → Prop} (h : wpAny M A (isTrue c cenv (eval c cenv)) Q E s) :
    wpAny M A (forIn [c] true fun c r => if r = true then do let ok ← isTrue c cenv (eval c cenv); pure (ForInStep.yield ok) else pure (ForInStep.yield r)) Q E s := by
  rw [List.forIn_cons]
  simp only [if_true, List.forIn_nil, bind_assoc, pure_bind]
  exact wpAny_bind (wpAny_mono h (fun ok s' hq => wpAny_pure hq) fun _ _ e => e)
section
variable {M : Model} {A : Around} {E : Value → Shared → Prop} {s : Shared} {K : Frag} {h₀ : Heap} {C : Addr} {m₂ mg mb : Str → Option Value} {scope : Scope} {env : Env} {p : Program} {loose : List Str} {mean : ExcName → Option Value} {x : Str} {pos : Pos} {v : Value} {Q : Value → Shared → Prop}
theorem cname_own (hn : s.heap.Ns C m₂) (hx : m₂ x = some v) (h : Q v s)
    (hk : (compEnv scope C env).scope.kind = .function := by rfl) (hl : (compEnv scope C env).kindOf x = some .local := by rfl) (hd : (x == ("__debug__" : Str)) = false := by decide) :
    wpAny M A (eval (.Name x pos) (compEnv scope C env)) Q E s := wpAny_Name (wpAny_loadName_local hk hl hn hx h) hd
theorem cname_built (keep : h₀.StaysIn s.heap) (X : K.In h₀) (T : Top p loose mean mg mb h₀) (e : nsIn K mainGlobals x = some none) (hv : bootBuiltins x = some v) (hn : x ≠ "__name__") (h : Q v s) (hg : env.globals = mainGlobals := by rfl) (hb : env.builtins = builtinsNs := by rfl)
    (hk : (compEnv scope C env).scope.kind = .function := by rfl) (hx : (compEnv scope C env).kindOf x = some .globalImplicit := by rfl) (hd : (x == ("__debug__" : Str)) = false := by decide) :
    wpAny M A (eval (.Name x pos) (compEnv scope C env)) Q E s :=
  Name_function_global hk hx (loadGlobal_builtin (env := compEnv scope C env) (show s.heap.Ns env.globals mg from hg ▸ (T.keeps keep).g) (mg_none_of X T.g e) (show s.heap.Ns env.builtins mb from hb ▸ (T.keeps keep).b) ((T.builtins x hn).trans hv) h) hd
end
end Mine
namespace Mine
-- the law's end: what is to be shown of it, with the rest of the statement hidden
theorem cutTail {M : Model} {A : Around} {t : Sem Flow} {E : Value → Shared → Prop} {Q : Flow → Shared → Prop} {s : Shared} {h₀ h : Heap} {L : Addr} {m : Str → Option Value} (_F : Fr h₀ L h m)
    (hfin : ∀ (h' : Heap) (tk' : Nat) (m' : Str → Option Value), Fr h₀ L h' m' → Q (.ret (.bool true)) { s with heap := h', toks := tk' })
    (k : ∀ Q' : Flow → Shared → Prop, (∀ (h' : Heap) (tk' : Nat) (m' : Str → Option Value), Fr h₀ L h' m' → Q' (.ret (.bool true)) { s with heap := h', toks := tk' }) → wpAny M A t Q' E s) : wpAny M A t Q E s := k Q hfin
abbrev upd1 (m : Str → Option Value) (n : Str) (c : Int) (t : Tok) : Str → Option Value := fun x => if x = n then some (Value.int c t) else m x
theorem cutOne {M : Model} {A : Around} {t : Sem Flow} {E : Value → Shared → Prop} {Q : Flow → Shared → Prop} {s : Shared} {h₀ h : Heap} {L : Addr} {m : Str → Option Value} {news : List (Addr × Obj)} (_F : Fr h₀ L h m) (_N : News h₀ L h news) (n : Str) (facts : Int → Prop)
    (hif : wpAny M A t (fun f s' => f = Flow.next ∧ ∃ (h' : Heap) (tk' : Nat) (c : Int) (t : Tok), s' = { s with heap := h', toks := tk' } ∧ Fr h₀ L h' (upd1 m n c t) ∧ News h₀ L h' news ∧ facts c) E s)
    (hrest : ∀ (h' : Heap) (tk' : Nat) (c : Int) (t : Tok), facts c → Fr h₀ L h' (upd1 m n c t) → News h₀ L h' news → Q Flow.next { s with heap := h', toks := tk' }) : wpAny M A t Q E s :=
  wpAny_mono hif (fun f s' h => by
    obtain ⟨rfl, h', tk', c, t, rfl, F', N', hf⟩ := h
    exact hrest h' tk' c t hf F' N') fun _ _ h => h
end Mine
namespace Mine
-- an expression's value cut to a letter
theorem cutE {M : Model} {A : Around} {t : Sem Value} {E : Value → Shared → Prop} {Q : Value → Shared → Prop} {s : Shared} (facts : Int → Prop)
    (h : wpAny M A t (fun v s' => ∃ (c : Int) (u : Tok) (tk' : Nat), v = .int c u ∧ s' = { s with toks := tk' } ∧ facts c) E s)
    (k : ∀ (c : Int) (u : Tok) (tk' : Nat), facts c → Q (.int c u) { s with toks := tk' }) : wpAny M A t Q E s :=
  wpAny_mono h (fun v s' h => by
    obtain ⟨c, u, tk', rfl, rfl, hf⟩ := h
    exact k c u tk' hf) fun _ _ h => h
end Mine
open PySem PySem.W PyProof.Rows PySem.Calls
set_option maxHeartbeats 8000000
namespace Mine
variable {w : World} {p : Program} {loose : List Str} {mean : ExcName → Option Value} {mg mb : Str → Option Value}
local macro_rules | `(tactic| walk_at "eval Name") => `(tactic| (name_kind "globalImplicit"; k_dflt (first
  | (refine' nameX_K ?F ?X ?T ?e ?_ ?a ?b ?d; (case F => k_asm); (case X => k_asm); (case T => k_asm); (case a => exact rfl); (case b => kernel_rfl!); (case d => decide +kernel); (case e => k_is); k_whole)
  | (refine' nameX_B ?F ?X ?T ?e ?v ?n ?_ ?a ?b ?d; (case F => k_asm); (case X => k_asm); (case T => k_asm); (case a => exact rfl); (case b => kernel_rfl!); (case d => decide +kernel); (case e => k_is); (case v => boot_fast); (case n => decide +kernel); k_whole))))
local macro_rules | `(tactic| walk_at "eval Name") => `(tactic| (name_kind "local"; k_dflt (refine' nameX_L ?F ?v ?_ ?a ?b ?d; (case F => k_asm); (case a => exact rfl); (case b => kernel_rfl!); (case v => rfl); (case d => decide +kernel); k_whole)))
local macro_rules | `(tactic| walk_at "subscriptTail Name Constant ref int") => `(tactic| (k_dflt (refine' item_tupleT ?t ?a ?b ?c ?d ?_; (case t => exact News.isTup (by k_asm) (by k_mem)); (case a => decide); (case b => decide); (case c => rfl); (case d => rfl); k_whole)))
theorem c_isleap (y : Int) (t_y : Tok)  : Cl w (hd.heap_39 w.params) p loose mean mg mb 21 1 [.int y t_y] (RetB (fun v => v = isleapF y)) := by
  refine of_held ?_
  simp (disch := k_dflt (
      dsimp only [Cl, RetB, PR]
      k_fill
      intro dp un gd cn cs a ccd cl outer A₀ base h₀ L m s Q E B F X T hk hd hu hret
      all_goals (
      refine wpAny_call ?_
      k_dflt (refine' enter0 [(Str.ofString "year", Value.int y t_y)] ?k1 ?k2 ?k3 ?k5 ?kA ?kF ?kK ?k6 ?k7 ?k8 ?k9 ?kB ?_ ?c2 ?c3 ?c4 ?c5; (case kA => exact rfl); (case kF => exact rfl); (case kK => assumption); (case k1 => k_asm); (case k2 => k_asm); (case k3 => k_asm); (case k5 => k_asm); (case k6 => k_is); (case k7 => k_is); (case k8 => ktr_room); (case k9 => exact BindsTo.of_eq rfl); (case c5 => decide); (case kB => exact locs rfl); (case c2 => exact rfl); (case c3 => exact rfl); (case c4 => exact rfl); k_whole; intro L' h' F' N' B' X' T'; (try dsimp only); (try k_fold))
      repeat' (first
      | (refine endB hret (by k_asm) _ ?_; (simp (discharger := decide) only [fm] at *; simp only [isleapF]; simp_all))
      | ((with_reducible show wpAny _ _ (eval (Expr.Call (Expr.Name _ _) _ _ _) _) _ _ _); (refine Call_ ?_); try dsimp only)
      | (k_unfold; (try dsimp only)) | (walk1; try dsimp only) | (dsimp only; walk1; try dsimp only) | (leave1; try dsimp only) | fail "no step")))) only [↓held]

theorem c_midnight (y : Int) (t_y : Tok)  : Cl w (hd.heap_39 w.params) p loose mean mg mb 28 1 [.int y t_y] (RetI (fun v => v = if y > 0 then y else y + 1)) := by
  refine of_held ?_
  simp (disch := k_dflt (
      dsimp only [Cl, RetI, PR]
      k_fill
      intro dp un gd cn cs a ccd cl outer A₀ base h₀ L m s Q E B F X T hk hd hu hret
      all_goals (
      refine wpAny_call ?_
      k_dflt (refine' enter0 [(Str.ofString "jd", Value.int y t_y)] ?k1 ?k2 ?k3 ?k5 ?kA ?kF ?kK ?k6 ?k7 ?k8 ?k9 ?kB ?_ ?c2 ?c3 ?c4 ?c5; (case kA => exact rfl); (case kF => exact rfl); (case kK => assumption); (case k1 => k_asm); (case k2 => k_asm); (case k3 => k_asm); (case k5 => k_asm); (case k6 => k_is); (case k7 => k_is); (case k8 => ktr_room); (case k9 => exact BindsTo.of_eq rfl); (case c5 => decide); (case kB => exact locs rfl); (case c2 => exact rfl); (case c3 => exact rfl); (case c4 => exact rfl); k_whole; intro L' h' F' N' B' X' T'; (try dsimp only); (try k_fold))
      repeat' (first
      | (refine endI hret (by k_asm) _ ?_; (split <;> omega))
      | ((with_reducible show wpAny _ _ (eval (Expr.Call (Expr.Name _ _) _ _ _) _) _ _ _); (refine Call_ ?_); try dsimp only)
      | (k_unfold; (try dsimp only)) | (walk1; try dsimp only) | (dsimp only; walk1; try dsimp only) | (leave1; try dsimp only) | fail "no step")))) only [↓held]

theorem c_leap (y : Int) (t_y : Tok)  : Cl w (hd.heap_39 w.params) p loose mean mg mb 57 1 [.int y t_y] (RetB (fun v => v = leapF y)) := by
  refine of_held ?_
  simp (disch := k_dflt (
      dsimp only [Cl, RetB, PR]
      k_fill
      intro dp un gd cn cs a ccd cl outer A₀ base h₀ L m s Q E B F X T hk hd hu hret
      all_goals (
      refine wpAny_call ?_
      k_dflt (refine' enter0 [(Str.ofString "year", Value.int y t_y)] ?k1 ?k2 ?k3 ?k5 ?kA ?kF ?kK ?k6 ?k7 ?k8 ?k9 ?kB ?_ ?c2 ?c3 ?c4 ?c5; (case kA => exact rfl); (case kF => exact rfl); (case kK => assumption); (case k1 => k_asm); (case k2 => k_asm); (case k3 => k_asm); (case k5 => k_asm); (case k6 => k_is); (case k7 => k_is); (case k8 => ktr_room); (case k9 => exact BindsTo.of_eq rfl); (case c5 => decide); (case kB => exact locs rfl); (case c2 => exact rfl); (case c3 => exact rfl); (case c4 => exact rfl); k_whole; intro L' h' F' N' B' X' T'; (try dsimp only); (try k_fold))
      repeat' (first
      | (refine endB hret (by k_asm) _ ?_; (simp (discharger := decide) only [fm] at *; simp only [leapF]))
      | ((with_reducible show wpAny _ _ (eval (Expr.Call (Expr.Name _ _) _ _ _) _) _ _ _); (refine Call_ ?_); try dsimp only)
      | (k_unfold; (try dsimp only)) | (walk1; try dsimp only) | (dsimp only; walk1; try dsimp only) | (leave1; try dsimp only) | fail "no step")))) only [↓held]

theorem c_year_months (y : Int) (t_y : Tok)  : Cl w (hd.heap_39 w.params) p loose mean mg mb 64 2 [.int y t_y] (RetI (fun v => v = if leapF y then 13 else 12)) := by
  refine of_held ?_
  simp (disch := k_dflt (
      dsimp only [Cl, RetI, PR]
      k_fill
      intro dp un gd cn cs a ccd cl outer A₀ base h₀ L m s Q E B F X T hk hd hu hret
      all_goals (
      refine wpAny_call ?_
      k_dflt (refine' enter0 [(Str.ofString "year", Value.int y t_y)] ?k1 ?k2 ?k3 ?k5 ?kA ?kF ?kK ?k6 ?k7 ?k8 ?k9 ?kB ?_ ?c2 ?c3 ?c4 ?c5; (case kA => exact rfl); (case kF => exact rfl); (case kK => assumption); (case k1 => k_asm); (case k2 => k_asm); (case k3 => k_asm); (case k5 => k_asm); (case k6 => k_is); (case k7 => k_is); (case k8 => ktr_room); (case k9 => exact BindsTo.of_eq rfl); (case c5 => decide); (case kB => exact locs rfl); (case c2 => exact rfl); (case c3 => exact rfl); (case c4 => exact rfl); k_whole; intro L' h' F' N' B' X' T'; (try dsimp only); (try k_fold))
      repeat' (first
      | (refine endI hret (by k_asm) _ ?_; (first | exact (if_pos (Hb.symm.trans ‹b = true›)).symm | exact (if_neg (by rw [← Hb, ‹b = false›]; decide)).symm))
      | ((with_reducible show wpAny _ _ (call (Value.ref 57) _) _ _ _); k_dflt (refine' useB (c_leap _ _) ?k1 ?k2 ?k3 ?k4 ?k5 ?kK ?kd ?ku ?_; (case k1 => k_asm); (case k2 => k_asm); (case k3 => k_asm); (case k4 => k_asm); (case k5 => k_asm); (case kK => exact rfl); (case kd => ktr_room); (case ku => ktr_units); k_whole; intro b h9 tk9 Hb F9 N9; (try dsimp only); (try k_fold)))
      | ((with_reducible show wpAny _ _ (eval (Expr.Call (Expr.Name _ _) _ _ _) _) _ _ _); (refine Call_ ?_); try dsimp only)
      | (k_unfold; (try dsimp only)) | (walk1; try dsimp only) | (dsimp only; walk1; try dsimp only) | (leave1; try dsimp only) | fail "no step")))) only [↓held]

theorem c_delay_1 (y : Int) (t_y : Tok)  : Cl w (hd.heap_39 w.params) p loose mean mg mb 71 1 [.int y t_y] (RetI (fun v => v = d1 y)) := by
  refine of_held ?_
  simp (disch := k_dflt (
      dsimp only [Cl, RetI, PR]
      k_fill
      intro dp un gd cn cs a ccd cl outer A₀ base h₀ L m s Q E B F X T hk hd hu hret
      all_goals (
      refine wpAny_call ?_
      k_dflt (refine' enter0 [(Str.ofString "year", Value.int y t_y)] ?k1 ?k2 ?k3 ?k5 ?kA ?kF ?kK ?k6 ?k7 ?k8 ?k9 ?kB ?_ ?c2 ?c3 ?c4 ?c5; (case kA => exact rfl); (case kF => exact rfl); (case kK => assumption); (case k1 => k_asm); (case k2 => k_asm); (case k3 => k_asm); (case k5 => k_asm); (case k6 => k_is); (case k7 => k_is); (case k8 => ktr_room); (case k9 => exact BindsTo.of_eq rfl); (case c5 => decide); (case kB => exact locs rfl); (case c2 => exact rfl); (case c3 => exact rfl); (case c4 => exact rfl); k_whole; intro L' h' F' N' B' X' T'; (try dsimp only); (try k_fold))
      repeat' (first
      | (refine endI hret (by k_asm) _ ?_; (simp (discharger := decide) only [fm, fd] at *; simp only [d1, *, if_true, if_false]))
      | ((with_reducible show wpAny _ _ (eval (Expr.Call (Expr.Name _ _) _ _ _) _) _ _ _); (refine Call_ ?_); try dsimp only)
      | (k_unfold; (try dsimp only)) | (walk1; try dsimp only) | (dsimp only; walk1; try dsimp only) | (leave1; try dsimp only) | fail "no step")))) only [↓held]

theorem c_delay_2 (y : Int) (t_y : Tok)  : Cl w (hd.heap_39 w.params) p loose mean mg mb 78 2 [.int y t_y] (RetI (fun v => v = d2 y)) := by
  refine of_held ?_
  simp (disch := k_dflt (
      dsimp only [Cl, RetI, PR]
      k_fill
      intro dp un gd cn cs a ccd cl outer A₀ base h₀ L m s Q E B F X T hk hd hu hret
      all_goals (
      refine wpAny_call ?_
      k_dflt (refine' enter0 [(Str.ofString "year", Value.int y t_y)] ?k1 ?k2 ?k3 ?k5 ?kA ?kF ?kK ?k6 ?k7 ?k8 ?k9 ?kB ?_ ?c2 ?c3 ?c4 ?c5; (case kA => exact rfl); (case kF => exact rfl); (case kK => assumption); (case k1 => k_asm); (case k2 => k_asm); (case k3 => k_asm); (case k5 => k_asm); (case k6 => k_is); (case k7 => k_is); (case k8 => ktr_room); (case k9 => exact BindsTo.of_eq rfl); (case c5 => decide); (case kB => exact locs rfl); (case c2 => exact rfl); (case c3 => exact rfl); (case c4 => exact rfl); k_whole; intro L' h' F' N' B' X' T'; (try dsimp only); (try k_fold))
      repeat' (first
      | (refine endI hret (by k_asm) _ ?_; (simp only [d2]; (repeat' split) <;> omega))
      | ((with_reducible show wpAny _ _ (call (Value.ref 71) _) _ _ _); k_dflt (refine' useI (c_delay_1 _ _) ?k1 ?k2 ?k3 ?k4 ?k5 ?kK ?kd ?ku ?_; (case k1 => k_asm); (case k2 => k_asm); (case k3 => k_asm); (case k4 => k_asm); (case k5 => k_asm); (case kK => exact rfl); (case kd => ktr_room); (case ku => ktr_units); k_whole; intro v t9 h9 tk9 Hv F9 N9; (try dsimp only); (try k_fold)))
      | ((with_reducible show wpAny _ _ (eval (Expr.Call (Expr.Name _ _) _ _ _) _) _ _ _); (refine Call_ ?_); try dsimp only)
      | (k_unfold; (try dsimp only)) | (walk1; try dsimp only) | (dsimp only; walk1; try dsimp only) | (leave1; try dsimp only) | fail "no step")))) only [↓held]
theorem in30 {A : Around} {E : Value → Shared → Prop} {s : Shared} {g : Heap} {L : Addr} {m : Str → Option Value} {x : Int} {u : Tok} {Q : Value → Shared → Prop} (F : Fr g L s.heap m) (X : (hd.heap_39 w.params).In g)
    (h : Q (.bool (decide (x = 4 ∨ x = 6 ∨ x = 9 ∨ x = 11))) s) : wpAny (model PR w) A (compareOp .In (.int x u) (.ref 29)) Q E s := by
  refine in_tuple_ints (items := #[.int 4 221, .int 6 222, .int 9 223, .int 11 224]) (ns := [4, 6, 9, 11]) ⟨_, F.keep _ _ (X 29 _ rfl), rfl, _, rfl⟩ (.cons _ _ (.cons _ _ (.cons _ _ (.cons _ _ .nil)))) ?_
  have e : ([4, 6, 9, 11] : List Int).any (· == x) = decide (x = 4 ∨ x = 6 ∨ x = 9 ∨ x = 11) := by
    rw [Bool.eq_iff_iff]; simp; omega
  rw [e]; exact h

theorem c_legal_date (y : Int) (t_y : Tok) (mo : Int) (t_mo : Tok) (da : Int) (t_da : Tok) (h1 : 1 ≤ da) (h2 : da ≤ dimF y mo) : Cl w (hd.heap_39 w.params) p loose mean mg mb 36 2 [.int y t_y, .int mo t_mo, .int da t_da] (RetB (fun v => v = true)) := by
  refine of_held ?_
  simp (disch := k_dflt (
      dsimp only [Cl, RetB, PR]
      k_fill
      intro dp un gd cn cs a ccd cl outer A₀ base h₀ L m s Q E B F X T hk hd hu hret
      rcases dim_cases h2 with ⟨hm, hl, h3⟩ | ⟨hm, hl, h3⟩ | ⟨hm, h3⟩ | ⟨hm, h3⟩ | ⟨hm, h3⟩ | ⟨hm, h3⟩ | ⟨hm1, hm2, hm3, hm4, hm5, h3⟩ <;> clear h2
      all_goals (
      refine wpAny_call ?_
      k_dflt (refine' enter0 [(Str.ofString "year", Value.int y t_y), (Str.ofString "month", Value.int mo t_mo), (Str.ofString "day", Value.int da t_da)] ?k1 ?k2 ?k3 ?k5 ?kA ?kF ?kK ?k6 ?k7 ?k8 ?k9 ?kB ?_ ?c2 ?c3 ?c4 ?c5; (case kA => exact rfl); (case kF => exact rfl); (case kK => assumption); (case k1 => k_asm); (case k2 => k_asm); (case k3 => k_asm); (case k5 => k_asm); (case k6 => k_is); (case k7 => k_is); (case k8 => ktr_room); (case k9 => exact BindsTo.of_eq rfl); (case c5 => decide); (case kB => exact locs rfl); (case c2 => exact rfl); (case c3 => exact rfl); (case c4 => exact rfl); k_whole; intro L' h' F' N' B' X' T'; (try dsimp only); (try k_fold))
      repeat' (first
      | (refine endB hret (by k_asm) _ ?_; rfl)
      | ((with_reducible show wpAny _ _ (call (Value.ref 21) _) _ _ _); k_dflt (refine' useB (c_isleap _ _) ?k1 ?k2 ?k3 ?k4 ?k5 ?kK ?kd ?ku ?_; (case k1 => k_asm); (case k2 => k_asm); (case k3 => k_asm); (case k4 => k_asm); (case k5 => k_asm); (case kK => exact rfl); (case kd => ktr_room); (case ku => ktr_units); k_whole; intro b h9 tk9 Hb F9 N9; (try dsimp only); (try k_fold)); first | (rw [hl] at Hb; subst Hb) | (exfalso; omega))
      | ((with_reducible show wpAny _ _ (compareOp CmpOp.In (Value.int _ _) (Value.ref 29)) _ _ _); k_dflt (refine in30 (by k_asm) (by k_asm) ?_))
      | ((with_reducible show wpAny _ _ (eval (Expr.Call (Expr.Name _ _) _ _ _) _) _ _ _); (refine Call_ ?_); try dsimp only)
      | (k_unfold; (try dsimp only)) | (walk1; try dsimp only) | (dsimp only; walk1; try dsimp only) | (leave1; try dsimp only) | fail "no step"))
      all_goals (exfalso; omega))) only [↓held]

theorem c_to_jd_g (y : Int) (t_y : Tok) (mo : Int) (t_mo : Tok) (da : Int) (t_da : Tok) (h1 : 1 ≤ da) (h2 : da ≤ dimF y mo) : Cl w (hd.heap_39 w.params) p loose mean mg mb 43 3 [.int y t_y, .int mo t_mo, .int da t_da] (RetI (fun v => v = gjd y mo da)) := by
  refine of_held ?_
  simp (disch := k_dflt (
      dsimp only [Cl, RetI, PR]
      k_fill
      intro dp un gd cn cs a ccd cl outer A₀ base h₀ L m s Q E B F X T hk hd hu hret
      all_goals (
      refine wpAny_call ?_
      k_dflt (refine' enter0 [(Str.ofString "year", Value.int y t_y), (Str.ofString "month", Value.int mo t_mo), (Str.ofString "day", Value.int da t_da)] ?k1 ?k2 ?k3 ?k5 ?kA ?kF ?kK ?k6 ?k7 ?k8 ?k9 ?kB ?_ ?c2 ?c3 ?c4 ?c5; (case kA => exact rfl); (case kF => exact rfl); (case kK => assumption); (case k1 => k_asm); (case k2 => k_asm); (case k3 => k_asm); (case k5 => k_asm); (case k6 => k_is); (case k7 => k_is); (case k8 => ktr_room); (case k9 => exact BindsTo.of_eq rfl); (case c5 => decide); (case kB => exact locs rfl); (case c2 => exact rfl); (case c3 => exact rfl); (case c4 => exact rfl); k_whole; intro L' h' F' N' B' X' T'; (try dsimp only); (try k_fold))
      repeat' (first
      | (refine endI hret (by k_asm) _ ?_; (simp (discharger := decide) only [fd]; simp only [gjd]; first | (rw [if_pos (by omega)]; omega) | (rw [if_neg (by omega), if_pos (Hb.symm.trans ‹b = true›)]; omega) | (rw [if_neg (by omega), if_neg (by rw [← Hb, ‹b = false›]; decide)]; omega)))
      | ((with_reducible show wpAny _ _ (call (Value.ref 36) _) _ _ _); k_dflt (refine' useB (c_legal_date _ _ _ _ _ _ h1 h2) ?k1 ?k2 ?k3 ?k4 ?k5 ?kK ?kd ?ku ?_; (case k1 => k_asm); (case k2 => k_asm); (case k3 => k_asm); (case k4 => k_asm); (case k5 => k_asm); (case kK => exact rfl); (case kd => ktr_room); (case ku => ktr_units); k_whole; intro b0 h9 tk9 Hb0 F9 N9; (try dsimp only); (try k_fold)))
      | ((with_reducible show wpAny _ _ (call (Value.ref 21) _) _ _ _); k_dflt (refine' useB (c_isleap _ _) ?k1 ?k2 ?k3 ?k4 ?k5 ?kK ?kd ?ku ?_; (case k1 => k_asm); (case k2 => k_asm); (case k3 => k_asm); (case k4 => k_asm); (case k5 => k_asm); (case kK => exact rfl); (case kd => ktr_room); (case ku => ktr_units); k_whole; intro b h9 tk9 Hb F9 N9; (try dsimp only); (try k_fold)))
      | ((with_reducible show wpAny _ _ (eval (Expr.Call (Expr.Name _ _) _ _ _) _) _ _ _); (refine Call_ ?_); try dsimp only)
      | (k_unfold; (try dsimp only)) | (walk1; try dsimp only) | (dsimp only; walk1; try dsimp only) | (leave1; try dsimp only) | fail "no step")))) only [↓held]
theorem any5 (x : Int) : (([2, 4, 6, 10, 13] : List Int).any fun y => y == x) = true ↔ x = 2 ∨ x = 4 ∨ x = 6 ∨ x = 10 ∨ x = 13 := by simp; omega
theorem any5f (x : Int) : (([2, 4, 6, 10, 13] : List Int).any fun y => y == x) = false ↔ ¬ (x = 2 ∨ x = 4 ∨ x = 6 ∨ x = 10 ∨ x = 13) := by simp; omega

theorem c_to_jd7 (y : Int) (t_y t_m : Tok) (da : Int) (t_da : Tok) (hy : 0 ≤ y) (hd1 : 1 ≤ da) : Cl w (hd.heap_39 w.params) p loose mean mg mb 106 4 [.int y t_y, .int 7 t_m, .int da t_da] (RetI (fun v => v = NY y + (da - 1))) := by
  refine of_held ?_
  simp (disch := k_dflt (
      dsimp only [Cl, RetI, PR]
      k_fill
      intro dp un gd cn cs a ccd cl outer A₀ base h₀ L m s Q E B F X T hk hd hu hret
      all_goals (
      refine wpAny_call ?_
      k_dflt (refine' enter0 [(Str.ofString "year", Value.int y t_y), (Str.ofString "month", Value.int 7 t_m), (Str.ofString "day", Value.int da t_da)] ?k1 ?k2 ?k3 ?k5 ?kA ?kF ?kK ?k6 ?k7 ?k8 ?k9 ?kB ?_ ?c2 ?c3 ?c4 ?c5; (case kA => exact rfl); (case kF => exact rfl); (case kK => assumption); (case k1 => k_asm); (case k2 => k_asm); (case k3 => k_asm); (case k5 => k_asm); (case k6 => k_is); (case k7 => k_is); (case k8 => ktr_room); (case k9 => exact BindsTo.of_eq rfl); (case c5 => decide); (case kB => exact locs rfl); (case c2 => exact rfl); (case c3 => exact rfl); (case c4 => exact rfl); k_whole; intro L' h' F' N' B' X' T'; (try dsimp only); (try k_fold))
      repeat' (first
      | (refine endI hret (by k_asm) _ ?_; (have P := NY_pos hy; unfold NY at P ⊢; rw [if_pos (by omega)] at Hvm; omega))
      | ((with_reducible show wpAny _ _ (call (Value.ref 64) _) _ _ _); k_dflt (refine' useI (c_year_months _ _) ?k1 ?k2 ?k3 ?k4 ?k5 ?kK ?kd ?ku ?_; (case k1 => k_asm); (case k2 => k_asm); (case k3 => k_asm); (case k4 => k_asm); (case k5 => k_asm); (case kK => exact rfl); (case kd => ktr_room); (case ku => ktr_units); k_whole; intro vy t9 h9 tk9 Hvy F9 N9; (try dsimp only); (try k_fold)))
      | ((with_reducible show wpAny _ _ (call (Value.ref 71) _) _ _ _); k_dflt (refine' useI (c_delay_1 _ _) ?k1 ?k2 ?k3 ?k4 ?k5 ?kK ?kd ?ku ?_; (case k1 => k_asm); (case k2 => k_asm); (case k3 => k_asm); (case k4 => k_asm); (case k5 => k_asm); (case kK => exact rfl); (case kd => ktr_room); (case ku => ktr_units); k_whole; intro va t9 h9 tk9 Hva F9 N9; (try dsimp only); (try k_fold)))
      | ((with_reducible show wpAny _ _ (call (Value.ref 78) _) _ _ _); k_dflt (refine' useI (c_delay_2 _ _) ?k1 ?k2 ?k3 ?k4 ?k5 ?kK ?kd ?ku ?_; (case k1 => k_asm); (case k2 => k_asm); (case k3 => k_asm); (case k4 => k_asm); (case k5 => k_asm); (case kK => exact rfl); (case kd => ktr_room); (case ku => ktr_units); k_whole; intro vb t9 h9 tk9 Hvb F9 N9; (try dsimp only); (try k_fold)))
      | ((with_reducible show wpAny _ _ (call (Value.ref 28) _) _ _ _); k_dflt (refine' useI (c_midnight _ _) ?k1 ?k2 ?k3 ?k4 ?k5 ?kK ?kd ?ku ?_; (case k1 => k_asm); (case k2 => k_asm); (case k3 => k_asm); (case k4 => k_asm); (case k5 => k_asm); (case kK => exact rfl); (case kd => ktr_room); (case ku => ktr_units); k_whole; intro vm t9 h9 tk9 Hvm F9 N9; (try dsimp only); (try k_fold)))
      | ((with_reducible show wpAny _ _ (eval (Expr.Call (Expr.Name _ _) _ _ _) _) _ _ _); (refine Call_ ?_); try dsimp only)
      | (k_unfold; (try dsimp only)) | (walk1; try dsimp only) | (dsimp only; walk1; try dsimp only) | (leave1; try dsimp only) | fail "no step")))) only [↓held]

theorem c_year_days (y : Int) (t_y : Tok) (hy : 0 ≤ y) : Cl w (hd.heap_39 w.params) p loose mean mg mb 85 5 [.int y t_y] (RetI (fun v => v = sz y)) := by
  refine of_held ?_
  simp (disch := k_dflt (
      dsimp only [Cl, RetI, PR]
      k_fill
      intro dp un gd cn cs a ccd cl outer A₀ base h₀ L m s Q E B F X T hk hd hu hret
      all_goals (
      refine wpAny_call ?_
      k_dflt (refine' enter0 [(Str.ofString "year", Value.int y t_y)] ?k1 ?k2 ?k3 ?k5 ?kA ?kF ?kK ?k6 ?k7 ?k8 ?k9 ?kB ?_ ?c2 ?c3 ?c4 ?c5; (case kA => exact rfl); (case kF => exact rfl); (case kK => assumption); (case k1 => k_asm); (case k2 => k_asm); (case k3 => k_asm); (case k5 => k_asm); (case k6 => k_is); (case k7 => k_is); (case k8 => ktr_room); (case k9 => exact BindsTo.of_eq rfl); (case c5 => decide); (case kB => exact locs rfl); (case c2 => exact rfl); (case c3 => exact rfl); (case c4 => exact rfl); k_whole; intro L' h' F' N' B' X' T'; (try dsimp only); (try k_fold))
      repeat' (first
      | (refine endI hret (by k_asm) _ ?_; (unfold sz; omega))
      | ((with_reducible show wpAny _ _ (call (Value.ref 106) _) _ _ _); k_dflt (refine' useI (c_to_jd7 _ _ _ _ _ (by omega) (by omega)) ?k1 ?k2 ?k3 ?k4 ?k5 ?kK ?kd ?ku ?_; (case k1 => k_asm); (case k2 => k_asm); (case k3 => k_asm); (case k4 => k_asm); (case k5 => k_asm); (case kK => exact rfl); (case kd => ktr_room); (case ku => ktr_units); k_whole; intro v t9 h9 tk9 Hv F9 N9; (try dsimp only); (try k_fold)))
      | ((with_reducible show wpAny _ _ (eval (Expr.Call (Expr.Name _ _) _ _ _) _) _ _ _); (refine Call_ ?_); try dsimp only)
      | (k_unfold; (try dsimp only)) | (walk1; try dsimp only) | (dsimp only; walk1; try dsimp only) | (leave1; try dsimp only) | fail "no step")))) only [↓held]

theorem c_month_length (y : Int) (t_y : Tok) (mo : Int) (t_mo : Tok) (hy : 0 ≤ y) (hm13 : mo ≤ 13) : Cl w (hd.heap_39 w.params) p loose mean mg mb 92 6 [.int y t_y, .int mo t_mo] (RetI (fun v => v = ml y mo)) := by
  refine of_held ?_
  simp (disch := k_dflt (
      dsimp only [Cl, RetI, PR]
      k_fill
      intro dp un gd cn cs a ccd cl outer A₀ base h₀ L m s Q E B F X T hk hd hu hret
      all_goals (
      refine wpAny_call ?_
      k_dflt (refine' enter0 [(Str.ofString "year", Value.int y t_y), (Str.ofString "month", Value.int mo t_mo)] ?k1 ?k2 ?k3 ?k5 ?kA ?kF ?kK ?k6 ?k7 ?k8 ?k9 ?kB ?_ ?c2 ?c3 ?c4 ?c5; (case kA => exact rfl); (case kF => exact rfl); (case kK => assumption); (case k1 => k_asm); (case k2 => k_asm); (case k3 => k_asm); (case k5 => k_asm); (case k6 => k_is); (case k7 => k_is); (case k8 => ktr_room); (case k9 => exact BindsTo.of_eq rfl); (case c5 => decide); (case kB => exact locs rfl); (case c2 => exact rfl); (case c3 => exact rfl); (case c4 => exact rfl); k_whole; intro L' h' F' N' B' X' T'; (try dsimp only); (try k_fold))
      repeat' (first
      | (refine endI hret (by k_asm) _ ?_; (simp (discharger := decide) only [any5, any5f, fm] at *; unfold ml; (try simp only [hlp, reduceCtorEq, and_false, and_true, if_false]); (repeat' split) <;> omega))
      | ((with_reducible show wpAny _ _ (call (Value.ref 57) _) _ _ _); k_dflt (refine' useB (c_leap _ _) ?k1 ?k2 ?k3 ?k4 ?k5 ?kK ?kd ?ku ?_; (case k1 => k_asm); (case k2 => k_asm); (case k3 => k_asm); (case k4 => k_asm); (case k5 => k_asm); (case kK => exact rfl); (case kd => ktr_room); (case ku => ktr_units); k_whole; intro b h9 tk9 Hb F9 N9; (try dsimp only); (try k_fold)); cases hlp : leapF y <;> (rw [hlp] at Hb; subst Hb))
      | ((with_reducible show wpAny _ _ (call (Value.ref 85) _) _ _ _); k_dflt (refine' useI (c_year_days _ _ (by omega)) ?k1 ?k2 ?k3 ?k4 ?k5 ?kK ?kd ?ku ?_; (case k1 => k_asm); (case k2 => k_asm); (case k3 => k_asm); (case k4 => k_asm); (case k5 => k_asm); (case kK => exact rfl); (case kd => ktr_room); (case ku => ktr_units); k_whole; intro v t9 h9 tk9 Hv F9 N9; (try dsimp only); (try k_fold)))
      | ((with_reducible show wpAny _ _ (eval (Expr.Call (Expr.Name _ _) _ _ _) _) _ _ _); (refine Call_ ?_); try dsimp only)
      | (k_unfold; (try dsimp only)) | (walk1; try dsimp only) | (dsimp only; walk1; try dsimp only) | (leave1; try dsimp only) | fail "no step"))
      all_goals (exfalso; omega))) only [↓held]

theorem c_month_days (y : Int) (t_y : Tok) (mo : Int) (t_mo : Tok) (hy : 0 ≤ y) (hm13 : mo ≤ 13) : Cl w (hd.heap_39 w.params) p loose mean mg mb 99 7 [.int y t_y, .int mo t_mo] (RetI (fun v => v = ml y mo)) := by
  refine of_held ?_
  simp (disch := k_dflt (
      dsimp only [Cl, RetI, PR]
      k_fill
      intro dp un gd cn cs a ccd cl outer A₀ base h₀ L m s Q E B F X T hk hd hu hret
      all_goals (
      refine wpAny_call ?_
      k_dflt (refine' enter0 [(Str.ofString "year", Value.int y t_y), (Str.ofString "month", Value.int mo t_mo)] ?k1 ?k2 ?k3 ?k5 ?kA ?kF ?kK ?k6 ?k7 ?k8 ?k9 ?kB ?_ ?c2 ?c3 ?c4 ?c5; (case kA => exact rfl); (case kF => exact rfl); (case kK => assumption); (case k1 => k_asm); (case k2 => k_asm); (case k3 => k_asm); (case k5 => k_asm); (case k6 => k_is); (case k7 => k_is); (case k8 => ktr_room); (case k9 => exact BindsTo.of_eq rfl); (case c5 => decide); (case kB => exact locs rfl); (case c2 => exact rfl); (case c3 => exact rfl); (case c4 => exact rfl); k_whole; intro L' h' F' N' B' X' T'; (try dsimp only); (try k_fold))
      repeat' (first
      | (refine endI hret (by k_asm) _ ?_; (assumption))
      | ((with_reducible show wpAny _ _ (call (Value.ref 92) _) _ _ _); k_dflt (refine' useI (c_month_length _ _ _ _ (by omega) (by omega)) ?k1 ?k2 ?k3 ?k4 ?k5 ?kK ?kd ?ku ?_; (case k1 => k_asm); (case k2 => k_asm); (case k3 => k_asm); (case k4 => k_asm); (case k5 => k_asm); (case kK => exact rfl); (case kd => ktr_room); (case ku => ktr_units); k_whole; intro v t9 h9 tk9 Hv F9 N9; (try dsimp only); (try k_fold)))
      | ((with_reducible show wpAny _ _ (eval (Expr.Call (Expr.Name _ _) _ _ _) _) _ _ _); (refine Call_ ?_); try dsimp only)
      | (k_unfold; (try dsimp only)) | (walk1; try dsimp only) | (dsimp only; walk1; try dsimp only) | (leave1; try dsimp only) | fail "no step")))) only [↓held]
theorem c_to_jd_lo (y : Int) (t_y : Tok) (mo : Int) (t_m : Tok) (da : Int) (t_da : Tok) (hy : 0 ≤ y) (hd1 : 1 ≤ da) (h1 : 1 ≤ mo) (h2 : mo ≤ 6) : Cl w (hd.heap_39 w.params) p loose mean mg mb 106 9 [.int y t_y, .int mo t_m, .int da t_da] (RetI (fun v => v = NY y + off y mo + (da - 1))) := by
  refine of_held ?_
  simp (disch := k_dflt (
      dsimp only [Cl, RetI, PR]
      k_fill
      intro dp un gd cn cs a ccd cl outer A₀ base h₀ L m s Q E B F X T hk hd hu hret
      all_goals (
      refine wpAny_call ?_
      k_dflt (refine' enter0 [(Str.ofString "year", Value.int y t_y), (Str.ofString "month", Value.int mo t_m), (Str.ofString "day", Value.int da t_da)] ?k1 ?k2 ?k3 ?k5 ?kA ?kF ?kK ?k6 ?k7 ?k8 ?k9 ?kB ?_ ?c2 ?c3 ?c4 ?c5; (case kA => exact rfl); (case kF => exact rfl); (case kK => assumption); (case k1 => k_asm); (case k2 => k_asm); (case k3 => k_asm); (case k5 => k_asm); (case k6 => k_is); (case k7 => k_is); (case k8 => ktr_room); (case k9 => first | exact BindsTo.of_eq rfl | exact binds_K (by k_in) rfl (by k_is) rfl rfl rfl); (case c5 => decide); (case kB => exact locs rfl); (case c2 => exact rfl); (case c3 => exact rfl); (case c4 => exact rfl); k_whole; intro L' h' F' N' B' X' T'; (try dsimp only); (try k_fold))
      repeat' (first
      | (refine endI hret (by k_asm) _ ?_; (have P := NY_pos hy; have O := offs y; have M8 := ml_bounds y 8; have M9 := ml_bounds y 9; have M12 := ml_bounds y 12; obtain ⟨u1, u2, u3, u4, u5, u6, u7, u10, u11, u13⟩ := ml_num y; have b1 := (off_all (Y := y) (M := mo) (.inr ⟨h1, h2⟩) (fun h => absurd h (by omega))).1; rw [fold_lo y _ mo h1 h2, fold_mid y _ vy Hvz.out] at Hvm; unfold NY at P ⊢; rw [if_pos (by omega)] at Hvm; omega))
      | ((with_reducible show wpAny _ _ (call (Value.ref 64) _) _ _ _); k_dflt (refine' useI (c_year_months _ _) ?k1 ?k2 ?k3 ?k4 ?k5 ?kK ?kd ?ku ?_; (case k1 => k_asm); (case k2 => k_asm); (case k3 => k_asm); (case k4 => k_asm); (case k5 => k_asm); (case kK => exact rfl); (case kd => ktr_room); (case ku => ktr_units); k_whole; intro vy t9 h9 tk9 Hvy F9 N9; (try dsimp only); (try k_fold)); (have hvy : 12 ≤ vy ∧ vy ≤ 13 := (by rw [Hvy]; split <;> omega)); (have Hvz : Hd vy (if leapF y then 13 else 12) := ⟨Hvy⟩); clear Hvy)
      | ((with_reducible show wpAny _ _ (call (Value.ref 99) _) _ _ _); k_dflt (refine' useI (c_month_days _ _ _ _ (by omega) (by omega)) ?k1 ?k2 ?k3 ?k4 ?k5 ?kK ?kd ?ku ?_; (case k1 => k_asm); (case k2 => k_asm); (case k3 => k_asm); (case k4 => k_asm); (case k5 => k_asm); (case kK => exact rfl); (case kd => ktr_room); (case ku => ktr_units); k_whole; intro v t9 h9 tk9 Hv F9 N9; (try dsimp only); (try k_fold)); subst Hv)
      | ((with_reducible show wpAny _ _ (call (Value.ref 71) _) _ _ _); k_dflt (refine' useI (c_delay_1 _ _) ?k1 ?k2 ?k3 ?k4 ?k5 ?kK ?kd ?ku ?_; (case k1 => k_asm); (case k2 => k_asm); (case k3 => k_asm); (case k4 => k_asm); (case k5 => k_asm); (case kK => exact rfl); (case kd => ktr_room); (case ku => ktr_units); k_whole; intro va t9 h9 tk9 Hva F9 N9; (try dsimp only); (try k_fold)))
      | ((with_reducible show wpAny _ _ (call (Value.ref 78) _) _ _ _); k_dflt (refine' useI (c_delay_2 _ _) ?k1 ?k2 ?k3 ?k4 ?k5 ?kK ?kd ?ku ?_; (case k1 => k_asm); (case k2 => k_asm); (case k3 => k_asm); (case k4 => k_asm); (case k5 => k_asm); (case kK => exact rfl); (case kd => ktr_room); (case ku => ktr_units); k_whole; intro vb t9 h9 tk9 Hvb F9 N9; (try dsimp only); (try k_fold)))
      | ((with_reducible show wpAny _ _ (call (Value.ref 28) _) _ _ _); k_dflt (refine' useI (c_midnight _ _) ?k1 ?k2 ?k3 ?k4 ?k5 ?kK ?kd ?ku ?_; (case k1 => k_asm); (case k2 => k_asm); (case k3 => k_asm); (case k4 => k_asm); (case k5 => k_asm); (case kK => exact rfl); (case kd => ktr_room); (case ku => ktr_units); k_whole; intro vm t9 h9 tk9 Hvm F9 N9; (try dsimp only); (try k_fold)))
      | ((with_reducible show wpAny _ _ (pyIter (Value.ref _)) (fun it s₂ => LoopAtV _ _ _ _ _ _ _ _ _ it s₂) _ _); (rename Fr _ _ _ _ => lF); (rename News _ _ _ _ => lN); (rename IsRange _ _ _ _ _ _ _ _ => rgX);
          (with_unfolding_all refine' iterRange_acc1 (y := Str.ofString "jd") (fun a k => a + ml y k) (by rfl) rgX (small_one (by omega) (by omega) (by omega) (by omega)) (rangeSize_nat _ _) lF lN (by rfl) (fun k9 t9 a9 ta9 h9 tk9 own9 hlo9 hhi9 hoff9 F9 N9 => ?_) (fun u9 t9 h9 tk9 F9 N9 => ?_)); (all_goals (try clear lF lN)); (all_goals (try simp only [List.nil_append, List.cons_append, List.append_nil] at N9)); (all_goals (try dsimp only)); (all_goals (try k_fold)))
      | ((with_reducible show wpAny _ _ (exec (Stmt.For (Expr.Name _ _) (Expr.Call _ _ _ _) _ _ _) _) _ _ _); (rename Fr _ _ _ _ => lF); (with_unfolding_all refine' For_invVF lF ?k1 ?k2 ?_; (case k1 => exact rfl); (case k2 => exact rfl); k_whole); (try dsimp only))
      | ((with_reducible show wpAny _ _ (eval (Expr.Call (Expr.Name _ _) _ _ _) _) _ _ _); (refine Call_ ?_); try dsimp only)
      | (k_unfold; (try dsimp only)) | (walk1; try dsimp only) | (dsimp only; walk1; try dsimp only) | (leave1; try dsimp only) | fail "no step")))) only [↓held]

theorem c_to_jd_hi (y : Int) (t_y : Tok) (mo : Int) (t_m : Tok) (da : Int) (t_da : Tok) (hy : 0 ≤ y) (hd1 : 1 ≤ da) (h1 : 7 ≤ mo) (h2 : mo ≤ 13) (h3 : mo = 13 → leapF y = true) : Cl w (hd.heap_39 w.params) p loose mean mg mb 106 9 [.int y t_y, .int mo t_m, .int da t_da] (RetI (fun v => v = NY y + off y mo + (da - 1))) := by
  refine of_held ?_
  simp (disch := k_dflt (
      dsimp only [Cl, RetI, PR]
      k_fill
      intro dp un gd cn cs a ccd cl outer A₀ base h₀ L m s Q E B F X T hk hd hu hret
      all_goals (
      refine wpAny_call ?_
      k_dflt (refine' enter0 [(Str.ofString "year", Value.int y t_y), (Str.ofString "month", Value.int mo t_m), (Str.ofString "day", Value.int da t_da)] ?k1 ?k2 ?k3 ?k5 ?kA ?kF ?kK ?k6 ?k7 ?k8 ?k9 ?kB ?_ ?c2 ?c3 ?c4 ?c5; (case kA => exact rfl); (case kF => exact rfl); (case kK => assumption); (case k1 => k_asm); (case k2 => k_asm); (case k3 => k_asm); (case k5 => k_asm); (case k6 => k_is); (case k7 => k_is); (case k8 => ktr_room); (case k9 => first | exact BindsTo.of_eq rfl | exact binds_K (by k_in) rfl (by k_is) rfl rfl rfl); (case c5 => decide); (case kB => exact locs rfl); (case c2 => exact rfl); (case c3 => exact rfl); (case c4 => exact rfl); k_whole; intro L' h' F' N' B' X' T'; (try dsimp only); (try k_fold))
      repeat' (first
      | (refine endI hret (by k_asm) _ ?_; (have P := NY_pos hy; have O := offs y; have M8 := ml_bounds y 8; have M9 := ml_bounds y 9; have M12 := ml_bounds y 12; obtain ⟨u1, u2, u3, u4, u5, u6, u7, u10, u11, u13⟩ := ml_num y; have b1 := (off_all (Y := y) (M := mo) (.inl ⟨h1, h2⟩) h3).1; rw [fold_hi y _ mo h1 h2 h3] at Hvm; unfold NY at P ⊢; rw [if_pos (by omega)] at Hvm; omega))
      | ((with_reducible show wpAny _ _ (call (Value.ref 64) _) _ _ _); k_dflt (refine' useI (c_year_months _ _) ?k1 ?k2 ?k3 ?k4 ?k5 ?kK ?kd ?ku ?_; (case k1 => k_asm); (case k2 => k_asm); (case k3 => k_asm); (case k4 => k_asm); (case k5 => k_asm); (case kK => exact rfl); (case kd => ktr_room); (case ku => ktr_units); k_whole; intro vy t9 h9 tk9 Hvy F9 N9; (try dsimp only); (try k_fold)); (have hvy : 12 ≤ vy ∧ vy ≤ 13 := (by rw [Hvy]; split <;> omega)); (have Hvz : Hd vy (if leapF y then 13 else 12) := ⟨Hvy⟩); clear Hvy)
      | ((with_reducible show wpAny _ _ (call (Value.ref 99) _) _ _ _); k_dflt (refine' useI (c_month_days _ _ _ _ (by omega) (by omega)) ?k1 ?k2 ?k3 ?k4 ?k5 ?kK ?kd ?ku ?_; (case k1 => k_asm); (case k2 => k_asm); (case k3 => k_asm); (case k4 => k_asm); (case k5 => k_asm); (case kK => exact rfl); (case kd => ktr_room); (case ku => ktr_units); k_whole; intro v t9 h9 tk9 Hv F9 N9; (try dsimp only); (try k_fold)); subst Hv)
      | ((with_reducible show wpAny _ _ (call (Value.ref 71) _) _ _ _); k_dflt (refine' useI (c_delay_1 _ _) ?k1 ?k2 ?k3 ?k4 ?k5 ?kK ?kd ?ku ?_; (case k1 => k_asm); (case k2 => k_asm); (case k3 => k_asm); (case k4 => k_asm); (case k5 => k_asm); (case kK => exact rfl); (case kd => ktr_room); (case ku => ktr_units); k_whole; intro va t9 h9 tk9 Hva F9 N9; (try dsimp only); (try k_fold)))
      | ((with_reducible show wpAny _ _ (call (Value.ref 78) _) _ _ _); k_dflt (refine' useI (c_delay_2 _ _) ?k1 ?k2 ?k3 ?k4 ?k5 ?kK ?kd ?ku ?_; (case k1 => k_asm); (case k2 => k_asm); (case k3 => k_asm); (case k4 => k_asm); (case k5 => k_asm); (case kK => exact rfl); (case kd => ktr_room); (case ku => ktr_units); k_whole; intro vb t9 h9 tk9 Hvb F9 N9; (try dsimp only); (try k_fold)))
      | ((with_reducible show wpAny _ _ (call (Value.ref 28) _) _ _ _); k_dflt (refine' useI (c_midnight _ _) ?k1 ?k2 ?k3 ?k4 ?k5 ?kK ?kd ?ku ?_; (case k1 => k_asm); (case k2 => k_asm); (case k3 => k_asm); (case k4 => k_asm); (case k5 => k_asm); (case kK => exact rfl); (case kd => ktr_room); (case ku => ktr_units); k_whole; intro vm t9 h9 tk9 Hvm F9 N9; (try dsimp only); (try k_fold)))
      | ((with_reducible show wpAny _ _ (pyIter (Value.ref _)) (fun it s₂ => LoopAtV _ _ _ _ _ _ _ _ _ it s₂) _ _); (rename Fr _ _ _ _ => lF); (rename News _ _ _ _ => lN); (rename IsRange _ _ _ _ _ _ _ _ => rgX);
          (with_unfolding_all refine' iterRange_acc1 (y := Str.ofString "jd") (fun a k => a + ml y k) (by rfl) rgX (small_one (by omega) (by omega) (by omega) (by omega)) (rangeSize_nat _ _) lF lN (by rfl) (fun k9 t9 a9 ta9 h9 tk9 own9 hlo9 hhi9 hoff9 F9 N9 => ?_) (fun u9 t9 h9 tk9 F9 N9 => ?_)); (all_goals (try clear lF lN)); (all_goals (try simp only [List.nil_append, List.cons_append, List.append_nil] at N9)); (all_goals (try dsimp only)); (all_goals (try k_fold)))
      | ((with_reducible show wpAny _ _ (exec (Stmt.For (Expr.Name _ _) (Expr.Call _ _ _ _) _ _ _) _) _ _ _); (rename Fr _ _ _ _ => lF); (with_unfolding_all refine' For_invVF lF ?k1 ?k2 ?_; (case k1 => exact rfl); (case k2 => exact rfl); k_whole); (try dsimp only))
      | ((with_reducible show wpAny _ _ (eval (Expr.Call (Expr.Name _ _) _ _ _) _) _ _ _); (refine Call_ ?_); try dsimp only)
      | (k_unfold; (try dsimp only)) | (walk1; try dsimp only) | (dsimp only; walk1; try dsimp only) | (leave1; try dsimp only) | fail "no step")))) only [↓held]

theorem c_to_jd (y : Int) (t_y : Tok) (mo : Int) (t_m : Tok) (da : Int) (t_da : Tok) (hy : 0 ≤ y) (hd1 : 1 ≤ da) (h1 : 1 ≤ mo) (h2 : mo ≤ 13) (h3 : mo = 13 → leapF y = true) :
    Cl w (hd.heap_39 w.params) p loose mean mg mb 106 9 [.int y t_y, .int mo t_m, .int da t_da] (RetI (fun v => v = NY y + off y mo + (da - 1))) := by
  by_cases h : 7 ≤ mo
  · exact c_to_jd_hi y t_y mo t_m da t_da hy hd1 h h2 h3
  · exact c_to_jd_lo y t_y mo t_m da t_da hy hd1 h1 (by omega)
theorem c_from_jd_a (j : Int) (t_j : Tok) (Y M d : Int) (hY : 1 ≤ Y) (hj : j = NY Y + off Y M + (d - 1)) (hd1 : 1 ≤ d) (hd2 : d ≤ ml Y M) (hM1 : 7 ≤ M) (hM2 : M ≤ 13) (hlp : M = 13 → leapF Y = true) :
    Cl w (hd.heap_39 w.params) p loose mean mg mb 113 11 [.int j t_j] (RetT (fun a b c => a = Y ∧ b = M ∧ c = d)) := by
  refine of_held ?_
  simp (disch := k_dflt (
      dsimp only [Cl, RetT, PR]
      k_fill
      intro dp un gd cn cs a ccd cl outer A₀ base h₀ L m s Q E B F X T hk hd hu hret
      obtain ⟨a1, a2, a3, a4⟩ := off_all (Y := Y) (M := M) (by omega) hlp
      replace a3 := a3 hM1; clear a4
      have bM := ml_bounds Y M
      have hs := NY_step Y
      have hn1 : NY Y ≤ j := by omega
      have hn2 : j < NY (Y + 1) := by omega
      have hn3 := NY_mono (y := Y - 1) (z := Y) (by omega)
      have hn4 := NY_mono (y := Y - 2) (z := Y) (by omega)
      refine wpAny_call ?_
      k_dflt (refine' enter0 [(Str.ofString "jd", Value.int j t_j)] ?k1 ?k2 ?k3 ?k5 ?kA ?kF ?kK ?k6 ?k7 ?k8 ?k9 ?kB ?_ ?c2 ?c3 ?c4 ?c5; (case kA => exact rfl); (case kF => exact rfl); (case kK => assumption); (case k1 => k_asm); (case k2 => k_asm); (case k3 => k_asm); (case k5 => k_asm); (case k6 => k_is); (case k7 => k_is); (case k8 => ktr_room); (case k9 => exact BindsTo.of_eq rfl); (case c5 => decide); (case kB => exact locs rfl); (case c2 => exact rfl); (case c3 => exact rfl); (case c4 => exact rfl); k_whole; intro L' h' F' N' B' X' T'; (try dsimp only); (try k_fold))
      repeat' ((fail_if_success (with_reducible show wpAny _ _ (exec (Stmt.While (Expr.Compare _ [CmpOp.Gt] _ _) _ _ _) _) _ _ _)); first
      | ((with_reducible show wpAny _ _ (storeName _ _ (Value.int (Int.fdiv _ _) _)) _ _ _); (refine store_gen ?_); intro c9 Hc9; obtain ⟨c0, hc9⟩ := count_cases hY hn1 hn2 Hc9.out; clear Hc9; rcases hc9 with e9 | e9 | e9 <;> subst c9)
      | ((first | (with_reducible show wpAny _ _ (storeName _ _ (Value.int (_ + _) _)) _ _ _) | (with_reducible show wpAny _ _ (storeName _ _ (Value.int (_ - _) _)) _ _ _)); (fail_if_success (with_reducible show wpAny _ _ (storeName _ _ (Value.int (Y - 3) _)) _ _ _)); (fail_if_success (with_reducible show wpAny _ _ (storeName _ _ (Value.int (Y - 2) _)) _ _ _)); (fail_if_success (with_reducible show wpAny _ _ (storeName _ _ (Value.int (Y - 1) _)) _ _ _)); (fail_if_success (with_reducible show wpAny _ _ (storeName _ _ (Value.int (Y + 1) _)) _ _ _)); ((refine store_gen ?_); intro v8 Hv8; replace Hv8 := Hv8.out; first | (have e8 : v8 = Y - 3 := (by omega); clear Hv8; subst v8) | (have e8 : v8 = Y - 2 := (by omega); clear Hv8; subst v8) | (have e8 : v8 = Y - 1 := (by omega); clear Hv8; subst v8) | (have e8 : v8 = Y := (by omega); clear Hv8; subst v8) | (have e8 : v8 = Y + 1 := (by omega); clear Hv8; subst v8)))
      | ((with_reducible show wpAny _ _ (exec (Stmt.While _ _ _ _) _) _ _ _); k_dflt (refine whl_start 100 ?_))
      | ((with_reducible show WhlIf _ _ _); first | (refine WhlIf.yes (decide_eq_true (by omega)) ?_) | (refine WhlIf.no (decide_eq_false (by omega)) ?_))
      | ((with_reducible show wpAny _ _ (call (Value.ref 106) [_, Value.int 7 _, _]) _ _ _); k_dflt (refine' useI (c_to_jd7 _ _ _ _ _ (by omega) (by omega)) ?k1 ?k2 ?k3 ?k4 ?k5 ?kK ?kd ?ku ?_; (case k1 => k_asm); (case k2 => k_asm); (case k3 => k_asm); (case k4 => k_asm); (case k5 => k_asm); (case kK => exact rfl); (case kd => ktr_room); (case ku => ktr_units); k_whole; intro v t9 h9 tk9 Hv F9 N9; (try dsimp only); (try k_fold)))
      | ((with_reducible show wpAny _ _ (call (Value.ref 106) _) _ _ _); k_dflt (refine' useI (c_to_jd _ _ _ _ _ _ (by omega) (by omega) (by omega) (by omega) (by first | (intro h; exfalso; omega) | (intro h; exact hlp (by omega)))) ?k1 ?k2 ?k3 ?k4 ?k5 ?kK ?kd ?ku ?_; (case k1 => k_asm); (case k2 => k_asm); (case k3 => k_asm); (case k4 => k_asm); (case k5 => k_asm); (case kK => exact rfl); (case kd => ktr_room); (case ku => ktr_units); k_whole; intro v t9 h9 tk9 Hv F9 N9; (try dsimp only); (try k_fold)))
      | ((with_reducible show wpAny _ _ (eval (Expr.Call (Expr.Name _ _) _ _ _) _) _ _ _); (refine Call_ ?_); try dsimp only)
      | (k_unfold; (try dsimp only)) | (walk1; try dsimp only) | (dsimp only; walk1; try dsimp only) | (leave1; try dsimp only) | fail "no step")
      all_goals first | (exfalso; omega) | skip
      all_goals (
        k_dflt (refine whl_start 0 ?_)
        (rename Fr s.heap L' _ _ => F9)
        (rename News s.heap L' _ _ => N9)
        refine whl_inv (fun n s' => ∃ (h' : Heap) (tk : Nat) (i : Int) (t1 t2 tf ty tc : Tok) (f c : Int), s' = { s with heap := h', toks := tk } ∧ i + (n : Int) = M ∧ 7 ≤ i ∧ Fr s.heap L' h' (fun x => if x = Str.ofString "month" then some (Value.int i t1) else if x = Str.ofString "i" then some (Value.int i t2) else if x = Str.ofString "first" then some (Value.int f tf) else if x = Str.ofString "year" then some (Value.int Y ty) else if x = Str.ofString "count" then some (Value.int c tc) else List.lookup x [(Str.ofString "jd", Value.int j t_j)].reverse) ∧ News s.heap L' h' []) ?_ ?_ (M - 7).toNat _ ⟨_, _, 7, _, _, _, _, _, _, _, rfl, by omega, by omega, fr_cong F9 (by (intro x; by_cases x0 : x = Str.ofString "month"; (case pos => (subst x0; with_unfolding_all rfl)); by_cases x1 : x = Str.ofString "i"; (case pos => (subst x1; with_unfolding_all rfl)); by_cases x2 : x = Str.ofString "first"; (case pos => (subst x2; with_unfolding_all rfl)); by_cases x3 : x = Str.ofString "year"; (case pos => (subst x3; with_unfolding_all rfl)); by_cases x4 : x = Str.ofString "count"; (case pos => (subst x4; with_unfolding_all rfl)); simp only [if_neg x0, if_neg x1, if_neg x2, if_neg x3, if_neg x4])), N9⟩
        case refine_1 =>
          clear F9 N9
          intro n s1 ih hI
          obtain ⟨h1, tk1, i, t1, t2, tf, ty, tc, f, c, rfl, hi, hi0, F1, N1⟩ := hI
          have hlt := off_lt (Y := Y) (i := i) (M := M) (by omega)
          have bi := ml_bounds Y i
          repeat' (first
            | ((with_reducible show WhlRest _ _ _ _ _ _ _ _ _ 0 _); (rename Fr s.heap L' _ _ => F9); (rename News s.heap L' _ _ => N9); refine ih _ ⟨_, _, i + 1, _, _, _, _, _, _, _, rfl, by omega, by omega, fr_cong F9 (by (intro x; by_cases x0 : x = Str.ofString "month"; (case pos => (subst x0; with_unfolding_all rfl)); by_cases x1 : x = Str.ofString "i"; (case pos => (subst x1; with_unfolding_all rfl)); by_cases x2 : x = Str.ofString "first"; (case pos => (subst x2; with_unfolding_all rfl)); by_cases x3 : x = Str.ofString "year"; (case pos => (subst x3; with_unfolding_all rfl)); by_cases x4 : x = Str.ofString "count"; (case pos => (subst x4; with_unfolding_all rfl)); simp only [if_neg x0, if_neg x1, if_neg x2, if_neg x3, if_neg x4])), N9⟩)
            | ((with_reducible show WhlIf _ _ _); first | (refine WhlIf.yes (decide_eq_true (by omega)) ?_) | (refine WhlIf.no (decide_eq_false (by omega)) ?_))
            | ((with_reducible show wpAny _ _ (call (Value.ref 106) _) _ _ _); k_dflt (refine' useI (c_to_jd _ _ _ _ _ _ (by omega) (by omega) (by omega) (by omega) (by first | (intro h; exfalso; omega) | (intro h; exact hlp (by omega)))) ?k1 ?k2 ?k3 ?k4 ?k5 ?kK ?kd ?ku ?_; (case k1 => k_asm); (case k2 => k_asm); (case k3 => k_asm); (case k4 => k_asm); (case k5 => k_asm); (case kK => exact rfl); (case kd => ktr_room); (case ku => ktr_units); k_whole; intro v t9 h9 tk9 Hv F9 N9; (try dsimp only); (try k_fold)))
            | ((with_reducible show wpAny _ _ (call (Value.ref 99) _) _ _ _); k_dflt (refine' useI (c_month_days _ _ _ _ (by omega) (by omega)) ?k1 ?k2 ?k3 ?k4 ?k5 ?kK ?kd ?ku ?_; (case k1 => k_asm); (case k2 => k_asm); (case k3 => k_asm); (case k4 => k_asm); (case k5 => k_asm); (case kK => exact rfl); (case kd => ktr_room); (case ku => ktr_units); k_whole; intro v t9 h9 tk9 Hv F9 N9; (try dsimp only); (try k_fold)))
            | ((with_reducible show wpAny _ _ (eval (Expr.Call (Expr.Name _ _) _ _ _) _) _ _ _); (refine Call_ ?_); try dsimp only)
            | (k_unfold; (try dsimp only)) | (walk1; try dsimp only) | (dsimp only; walk1; try dsimp only) | (leave1; try dsimp only) | fail "no step")
        case refine_2 =>
          clear F9 N9
          intro s1 hI
          obtain ⟨h1, tk1, i, t1, t2, tf, ty, tc, f, c, rfl, hi, hi0, F1, N1⟩ := hI
          have hiM : i = M := by omega
          subst i
          repeat' (first
            | (refine endT hret (by k_asm) (by k_asm) (by k_mem) ?_; exact ⟨rfl, rfl, by omega⟩)
            | ((with_reducible show WhlIf _ _ _); first | (refine WhlIf.yes (decide_eq_true (by omega)) ?_) | (refine WhlIf.no (decide_eq_false (by omega)) ?_))
            | ((with_reducible show wpAny _ _ (call (Value.ref 106) _) _ _ _); k_dflt (refine' useI (c_to_jd _ _ _ _ _ _ (by omega) (by omega) (by omega) (by omega) (by first | (intro h; exfalso; omega) | (intro h; exact hlp (by omega)))) ?k1 ?k2 ?k3 ?k4 ?k5 ?kK ?kd ?ku ?_; (case k1 => k_asm); (case k2 => k_asm); (case k3 => k_asm); (case k4 => k_asm); (case k5 => k_asm); (case kK => exact rfl); (case kd => ktr_room); (case ku => ktr_units); k_whole; intro v t9 h9 tk9 Hv F9 N9; (try dsimp only); (try k_fold)))
            | ((with_reducible show wpAny _ _ (call (Value.ref 99) _) _ _ _); k_dflt (refine' useI (c_month_days _ _ _ _ (by omega) (by omega)) ?k1 ?k2 ?k3 ?k4 ?k5 ?kK ?kd ?ku ?_; (case k1 => k_asm); (case k2 => k_asm); (case k3 => k_asm); (case k4 => k_asm); (case k5 => k_asm); (case kK => exact rfl); (case kd => ktr_room); (case ku => ktr_units); k_whole; intro v t9 h9 tk9 Hv F9 N9; (try dsimp only); (try k_fold)))
            | ((with_reducible show wpAny _ _ (eval (Expr.Call (Expr.Name _ _) _ _ _) _) _ _ _); (refine Call_ ?_); try dsimp only)
            | (k_unfold; (try dsimp only)) | (walk1; try dsimp only) | (dsimp only; walk1; try dsimp only) | (leave1; try dsimp only) | fail "no step")
      ))) only [↓held]

theorem c_from_jd_b (j : Int) (t_j : Tok) (Y M d : Int) (hY : 1 ≤ Y) (hj : j = NY Y + off Y M + (d - 1)) (hd1 : 1 ≤ d) (hd2 : d ≤ ml Y M) (hM1 : 1 ≤ M) (hM2 : M ≤ 6) (hlp : M = 13 → leapF Y = true) :
    Cl w (hd.heap_39 w.params) p loose mean mg mb 113 11 [.int j t_j] (RetT (fun a b c => a = Y ∧ b = M ∧ c = d)) := by
  refine of_held ?_
  simp (disch := k_dflt (
      dsimp only [Cl, RetT, PR]
      k_fill
      intro dp un gd cn cs a ccd cl outer A₀ base h₀ L m s Q E B F X T hk hd hu hret
      obtain ⟨a1, a2, a3, a4⟩ := off_all (Y := Y) (M := M) (by omega) hlp
      replace a4 := a4 hM2; clear a3
      have bM := ml_bounds Y M
      have hs := NY_step Y
      have hn1 : NY Y ≤ j := by omega
      have hn2 : j < NY (Y + 1) := by omega
      have hn3 := NY_mono (y := Y - 1) (z := Y) (by omega)
      have hn4 := NY_mono (y := Y - 2) (z := Y) (by omega)
      refine wpAny_call ?_
      k_dflt (refine' enter0 [(Str.ofString "jd", Value.int j t_j)] ?k1 ?k2 ?k3 ?k5 ?kA ?kF ?kK ?k6 ?k7 ?k8 ?k9 ?kB ?_ ?c2 ?c3 ?c4 ?c5; (case kA => exact rfl); (case kF => exact rfl); (case kK => assumption); (case k1 => k_asm); (case k2 => k_asm); (case k3 => k_asm); (case k5 => k_asm); (case k6 => k_is); (case k7 => k_is); (case k8 => ktr_room); (case k9 => exact BindsTo.of_eq rfl); (case c5 => decide); (case kB => exact locs rfl); (case c2 => exact rfl); (case c3 => exact rfl); (case c4 => exact rfl); k_whole; intro L' h' F' N' B' X' T'; (try dsimp only); (try k_fold))
      repeat' ((fail_if_success (with_reducible show wpAny _ _ (exec (Stmt.While (Expr.Compare _ [CmpOp.Gt] _ _) _ _ _) _) _ _ _)); first
      | ((with_reducible show wpAny _ _ (storeName _ _ (Value.int (Int.fdiv _ _) _)) _ _ _); (refine store_gen ?_); intro c9 Hc9; obtain ⟨c0, hc9⟩ := count_cases hY hn1 hn2 Hc9.out; clear Hc9; rcases hc9 with e9 | e9 | e9 <;> subst c9)
      | ((first | (with_reducible show wpAny _ _ (storeName _ _ (Value.int (_ + _) _)) _ _ _) | (with_reducible show wpAny _ _ (storeName _ _ (Value.int (_ - _) _)) _ _ _)); (fail_if_success (with_reducible show wpAny _ _ (storeName _ _ (Value.int (Y - 3) _)) _ _ _)); (fail_if_success (with_reducible show wpAny _ _ (storeName _ _ (Value.int (Y - 2) _)) _ _ _)); (fail_if_success (with_reducible show wpAny _ _ (storeName _ _ (Value.int (Y - 1) _)) _ _ _)); (fail_if_success (with_reducible show wpAny _ _ (storeName _ _ (Value.int (Y + 1) _)) _ _ _)); ((refine store_gen ?_); intro v8 Hv8; replace Hv8 := Hv8.out; first | (have e8 : v8 = Y - 3 := (by omega); clear Hv8; subst v8) | (have e8 : v8 = Y - 2 := (by omega); clear Hv8; subst v8) | (have e8 : v8 = Y - 1 := (by omega); clear Hv8; subst v8) | (have e8 : v8 = Y := (by omega); clear Hv8; subst v8) | (have e8 : v8 = Y + 1 := (by omega); clear Hv8; subst v8)))
      | ((with_reducible show wpAny _ _ (exec (Stmt.While _ _ _ _) _) _ _ _); k_dflt (refine whl_start 100 ?_))
      | ((with_reducible show WhlIf _ _ _); first | (refine WhlIf.yes (decide_eq_true (by omega)) ?_) | (refine WhlIf.no (decide_eq_false (by omega)) ?_))
      | ((with_reducible show wpAny _ _ (call (Value.ref 106) [_, Value.int 7 _, _]) _ _ _); k_dflt (refine' useI (c_to_jd7 _ _ _ _ _ (by omega) (by omega)) ?k1 ?k2 ?k3 ?k4 ?k5 ?kK ?kd ?ku ?_; (case k1 => k_asm); (case k2 => k_asm); (case k3 => k_asm); (case k4 => k_asm); (case k5 => k_asm); (case kK => exact rfl); (case kd => ktr_room); (case ku => ktr_units); k_whole; intro v t9 h9 tk9 Hv F9 N9; (try dsimp only); (try k_fold)))
      | ((with_reducible show wpAny _ _ (call (Value.ref 106) _) _ _ _); k_dflt (refine' useI (c_to_jd _ _ _ _ _ _ (by omega) (by omega) (by omega) (by omega) (by first | (intro h; exfalso; omega) | (intro h; exact hlp (by omega)))) ?k1 ?k2 ?k3 ?k4 ?k5 ?kK ?kd ?ku ?_; (case k1 => k_asm); (case k2 => k_asm); (case k3 => k_asm); (case k4 => k_asm); (case k5 => k_asm); (case kK => exact rfl); (case kd => ktr_room); (case ku => ktr_units); k_whole; intro v t9 h9 tk9 Hv F9 N9; (try dsimp only); (try k_fold)))
      | ((with_reducible show wpAny _ _ (eval (Expr.Call (Expr.Name _ _) _ _ _) _) _ _ _); (refine Call_ ?_); try dsimp only)
      | (k_unfold; (try dsimp only)) | (walk1; try dsimp only) | (dsimp only; walk1; try dsimp only) | (leave1; try dsimp only) | fail "no step")
      all_goals first | (exfalso; omega) | skip
      all_goals (
        k_dflt (refine whl_start 0 ?_)
        (rename Fr s.heap L' _ _ => F9)
        (rename News s.heap L' _ _ => N9)
        refine whl_inv (fun n s' => ∃ (h' : Heap) (tk : Nat) (i : Int) (t1 t2 tf ty tc : Tok) (f c : Int), s' = { s with heap := h', toks := tk } ∧ i + (n : Int) = M ∧ 1 ≤ i ∧ Fr s.heap L' h' (fun x => if x = Str.ofString "month" then some (Value.int i t1) else if x = Str.ofString "i" then some (Value.int i t2) else if x = Str.ofString "first" then some (Value.int f tf) else if x = Str.ofString "year" then some (Value.int Y ty) else if x = Str.ofString "count" then some (Value.int c tc) else List.lookup x [(Str.ofString "jd", Value.int j t_j)].reverse) ∧ News s.heap L' h' []) ?_ ?_ (M - 1).toNat _ ⟨_, _, 1, _, _, _, _, _, _, _, rfl, by omega, by omega, fr_cong F9 (by (intro x; by_cases x0 : x = Str.ofString "month"; (case pos => (subst x0; with_unfolding_all rfl)); by_cases x1 : x = Str.ofString "i"; (case pos => (subst x1; with_unfolding_all rfl)); by_cases x2 : x = Str.ofString "first"; (case pos => (subst x2; with_unfolding_all rfl)); by_cases x3 : x = Str.ofString "year"; (case pos => (subst x3; with_unfolding_all rfl)); by_cases x4 : x = Str.ofString "count"; (case pos => (subst x4; with_unfolding_all rfl)); simp only [if_neg x0, if_neg x1, if_neg x2, if_neg x3, if_neg x4])), N9⟩
        case refine_1 =>
          clear F9 N9
          intro n s1 ih hI
          obtain ⟨h1, tk1, i, t1, t2, tf, ty, tc, f, c, rfl, hi, hi0, F1, N1⟩ := hI
          have hlt := off_lt (Y := Y) (i := i) (M := M) (by omega)
          have bi := ml_bounds Y i
          repeat' (first
            | ((with_reducible show WhlRest _ _ _ _ _ _ _ _ _ 0 _); (rename Fr s.heap L' _ _ => F9); (rename News s.heap L' _ _ => N9); refine ih _ ⟨_, _, i + 1, _, _, _, _, _, _, _, rfl, by omega, by omega, fr_cong F9 (by (intro x; by_cases x0 : x = Str.ofString "month"; (case pos => (subst x0; with_unfolding_all rfl)); by_cases x1 : x = Str.ofString "i"; (case pos => (subst x1; with_unfolding_all rfl)); by_cases x2 : x = Str.ofString "first"; (case pos => (subst x2; with_unfolding_all rfl)); by_cases x3 : x = Str.ofString "year"; (case pos => (subst x3; with_unfolding_all rfl)); by_cases x4 : x = Str.ofString "count"; (case pos => (subst x4; with_unfolding_all rfl)); simp only [if_neg x0, if_neg x1, if_neg x2, if_neg x3, if_neg x4])), N9⟩)
            | ((with_reducible show WhlIf _ _ _); first | (refine WhlIf.yes (decide_eq_true (by omega)) ?_) | (refine WhlIf.no (decide_eq_false (by omega)) ?_))
            | ((with_reducible show wpAny _ _ (call (Value.ref 106) _) _ _ _); k_dflt (refine' useI (c_to_jd _ _ _ _ _ _ (by omega) (by omega) (by omega) (by omega) (by first | (intro h; exfalso; omega) | (intro h; exact hlp (by omega)))) ?k1 ?k2 ?k3 ?k4 ?k5 ?kK ?kd ?ku ?_; (case k1 => k_asm); (case k2 => k_asm); (case k3 => k_asm); (case k4 => k_asm); (case k5 => k_asm); (case kK => exact rfl); (case kd => ktr_room); (case ku => ktr_units); k_whole; intro v t9 h9 tk9 Hv F9 N9; (try dsimp only); (try k_fold)))
            | ((with_reducible show wpAny _ _ (call (Value.ref 99) _) _ _ _); k_dflt (refine' useI (c_month_days _ _ _ _ (by omega) (by omega)) ?k1 ?k2 ?k3 ?k4 ?k5 ?kK ?kd ?ku ?_; (case k1 => k_asm); (case k2 => k_asm); (case k3 => k_asm); (case k4 => k_asm); (case k5 => k_asm); (case kK => exact rfl); (case kd => ktr_room); (case ku => ktr_units); k_whole; intro v t9 h9 tk9 Hv F9 N9; (try dsimp only); (try k_fold)))
            | ((with_reducible show wpAny _ _ (eval (Expr.Call (Expr.Name _ _) _ _ _) _) _ _ _); (refine Call_ ?_); try dsimp only)
            | (k_unfold; (try dsimp only)) | (walk1; try dsimp only) | (dsimp only; walk1; try dsimp only) | (leave1; try dsimp only) | fail "no step")
        case refine_2 =>
          clear F9 N9
          intro s1 hI
          obtain ⟨h1, tk1, i, t1, t2, tf, ty, tc, f, c, rfl, hi, hi0, F1, N1⟩ := hI
          have hiM : i = M := by omega
          subst i
          repeat' (first
            | (refine endT hret (by k_asm) (by k_asm) (by k_mem) ?_; exact ⟨rfl, rfl, by omega⟩)
            | ((with_reducible show WhlIf _ _ _); first | (refine WhlIf.yes (decide_eq_true (by omega)) ?_) | (refine WhlIf.no (decide_eq_false (by omega)) ?_))
            | ((with_reducible show wpAny _ _ (call (Value.ref 106) _) _ _ _); k_dflt (refine' useI (c_to_jd _ _ _ _ _ _ (by omega) (by omega) (by omega) (by omega) (by first | (intro h; exfalso; omega) | (intro h; exact hlp (by omega)))) ?k1 ?k2 ?k3 ?k4 ?k5 ?kK ?kd ?ku ?_; (case k1 => k_asm); (case k2 => k_asm); (case k3 => k_asm); (case k4 => k_asm); (case k5 => k_asm); (case kK => exact rfl); (case kd => ktr_room); (case ku => ktr_units); k_whole; intro v t9 h9 tk9 Hv F9 N9; (try dsimp only); (try k_fold)))
            | ((with_reducible show wpAny _ _ (call (Value.ref 99) _) _ _ _); k_dflt (refine' useI (c_month_days _ _ _ _ (by omega) (by omega)) ?k1 ?k2 ?k3 ?k4 ?k5 ?kK ?kd ?ku ?_; (case k1 => k_asm); (case k2 => k_asm); (case k3 => k_asm); (case k4 => k_asm); (case k5 => k_asm); (case kK => exact rfl); (case kd => ktr_room); (case ku => ktr_units); k_whole; intro v t9 h9 tk9 Hv F9 N9; (try dsimp only); (try k_fold)))
            | ((with_reducible show wpAny _ _ (eval (Expr.Call (Expr.Name _ _) _ _ _) _) _ _ _); (refine Call_ ?_); try dsimp only)
            | (k_unfold; (try dsimp only)) | (walk1; try dsimp only) | (dsimp only; walk1; try dsimp only) | (leave1; try dsimp only) | fail "no step")
      ))) only [↓held]
theorem c_january (y : Int) (t_y : Tok)  : Cl w (hd.heap_39 w.params) p loose mean mg mb 192 1 [.int y t_y] (RetI (fun v => v = jan y)) := by
  refine of_held ?_
  simp (disch := k_dflt (
      dsimp only [Cl, RetI, PR]
      k_fill
      intro dp un gd cn cs a ccd cl outer A₀ base h₀ L m s Q E B F X T hk hd hu hret
      all_goals (
      refine wpAny_call ?_
      k_dflt (refine' enter0 [(Str.ofString "year", Value.int y t_y)] ?k1 ?k2 ?k3 ?k5 ?kA ?kF ?kK ?k6 ?k7 ?k8 ?k9 ?kB ?_ ?c2 ?c3 ?c4 ?c5; (case kA => exact rfl); (case kF => exact rfl); (case kK => assumption); (case k1 => k_asm); (case k2 => k_asm); (case k3 => k_asm); (case k5 => k_asm); (case k6 => k_is); (case k7 => k_is); (case k8 => ktr_room); (case k9 => exact BindsTo.of_eq rfl); (case c5 => decide); (case kB => exact locs rfl); (case c2 => exact rfl); (case c3 => exact rfl); (case c4 => exact rfl); k_whole; intro L' h' F' N' B' X' T'; (try dsimp only); (try k_fold))
      repeat' (first
      | (refine endI hret (by k_asm) _ ?_; (exact jan_sum' (Hd.out (by assumption)) (Hd.out (by assumption))))
      | ((first | (with_reducible show wpAny _ _ (storeName _ _ (Value.int (_ - _) _)) _ _ _) | (with_reducible show wpAny _ _ (storeName _ _ (Value.int (_ + _) _)) _ _ _) | (with_reducible show wpAny _ _ (storeName _ _ (Value.int (_ * _) _)) _ _ _) | (with_reducible show wpAny _ _ (storeName _ _ (Value.int (Int.fdiv _ _) _)) _ _ _) | (with_reducible show wpAny _ _ (storeName _ _ (Value.int (Int.fmod _ _) _)) _ _ _) | (with_reducible show wpAny _ _ (storeName _ _ (Value.int (ite _ _ _) _)) _ _ _)); (refine store_gen ?_); intro v8 Hv8)
      | ((with_reducible show wpAny _ _ (eval (Expr.Call (Expr.Name _ _) _ _ _) _) _ _ _); (refine Call_ ?_); try dsimp only)
      | (k_unfold; (try dsimp only)) | (walk1; try dsimp only) | (dsimp only; walk1; try dsimp only) | (leave1; try dsimp only) | fail "no step")))) only [↓held]
theorem c_from_jd_g (j : Int) (t_j : Tok) : Cl w (hd.heap_39 w.params) p loose mean mg mb 50 4 [.int j t_j] (RetT (GS j)) := by
  refine of_held ?_
  simp (disch := k_dflt (
      dsimp only [Cl, RetT, PR]
      k_fill
      intro dp un gd cn cs a ccd cl outer A₀ base h₀ L m s Q E B F X T hk hd hu hret
      all_goals (
      refine wpAny_call ?_
      k_dflt (refine' enter0 [(Str.ofString "jd", Value.int j t_j)] ?k1 ?k2 ?k3 ?k5 ?kA ?kF ?kK ?k6 ?k7 ?k8 ?k9 ?kB ?_ ?c2 ?c3 ?c4 ?c5; (case kA => exact rfl); (case kF => exact rfl); (case kK => assumption); (case k1 => k_asm); (case k2 => k_asm); (case k3 => k_asm); (case k5 => k_asm); (case k6 => k_is); (case k7 => k_is); (case k8 => ktr_room); (case k9 => first | exact BindsTo.of_eq rfl | exact binds_K (by k_in) rfl (by k_is) rfl rfl rfl); (case c5 => decide); (case kB => exact locs rfl); (case c2 => exact rfl); (case c3 => exact rfl); (case c4 => exact rfl); k_whole; intro L' h' F' N' B' X' T'; (try dsimp only); (try k_fold))
      repeat' ((fail_if_success (with_reducible show wpAny _ _ (exec (Stmt.If _ _ _ _) _) _ _ _)); first
      | ((with_reducible show wpAny _ _ (storeName _ (Str.ofString "depoch") (Value.int (_ - _) _)) _ _ _); (fail_if_success (have zz := Ha9)); (refine store_gen ?_); intro a9 Ha9)
      | ((with_reducible show wpAny _ _ (storeName _ (Str.ofString "quadricent") (Value.int (Int.fdiv _ _) _)) _ _ _); (fail_if_success (have zz := Hq9)); (refine store_gen ?_); intro q9 Hq9)
      | ((with_reducible show wpAny _ _ (storeName _ (Str.ofString "dqc") (Value.int (Int.fmod _ _) _)) _ _ _); (fail_if_success (have zz := Hb9)); (refine store_gen ?_); intro b9 Hb9)
      | ((with_reducible show wpAny _ _ (storeName _ (Str.ofString "cent") (Value.int (Int.fdiv _ _) _)) _ _ _); (fail_if_success (have zz := Hc9)); (refine store_gen ?_); intro c9 Hc9)
      | ((with_reducible show wpAny _ _ (storeName _ (Str.ofString "dcent") (Value.int (Int.fmod _ _) _)) _ _ _); (fail_if_success (have zz := Hd9)); (refine store_gen ?_); intro d9 Hd9)
      | ((with_reducible show wpAny _ _ (storeName _ (Str.ofString "quad") (Value.int (Int.fdiv _ _) _)) _ _ _); (fail_if_success (have zz := Hk9)); (refine store_gen ?_); intro k9 Hk9)
      | ((with_reducible show wpAny _ _ (storeName _ (Str.ofString "dquad") (Value.int (Int.fmod _ _) _)) _ _ _); (fail_if_success (have zz := He9)); (refine store_gen ?_); intro e9 He9)
      | ((with_reducible show wpAny _ _ (storeName _ (Str.ofString "yindex") (Value.int (Int.fdiv _ _) _)) _ _ _); (fail_if_success (have zz := Hx9)); (refine store_gen ?_); intro x9 Hx9)
      | ((with_reducible show wpAny _ _ (storeName _ (Str.ofString "year") (Value.int (_ + _) _)) _ _ _); (fail_if_success (have zz := Hz9)); (refine store_gen ?_); intro z9 Hz9)
      | ((with_reducible show wpAny _ _ (storeName _ (Str.ofString "yearday") (Value.int (_ - _) _)) _ _ _); (fail_if_success (have zz := Ht9)); (refine store_gen ?_); intro t9 Ht9)
      | ((with_reducible show wpAny _ _ (storeName _ (Str.ofString "month") (Value.int (Int.fdiv _ _) _)) _ _ _); (fail_if_success (have zz := Hm9)); (refine store_gen ?_); intro m9 Hm9)
      | ((with_reducible show wpAny _ _ (storeName _ (Str.ofString "day") (Value.int (_ + _) _)) _ _ _); (fail_if_success (have zz := Hr9)); (refine store_gen ?_); intro r9 Hr9)
      | ((fail_if_success (have zz := Hv)); (with_reducible show wpAny _ _ (call (Value.ref 43) _) _ _ _); k_dflt (refine' useI (c_to_jd_g _ _ _ _ _ _ (by decide) (dim_ge _ _)) ?k1 ?k2 ?k3 ?k4 ?k5 ?kK ?kd ?ku ?_; (case k1 => k_asm); (case k2 => k_asm); (case k3 => k_asm); (case k4 => k_asm); (case k5 => k_asm); (case kK => exact rfl); (case kd => ktr_room); (case ku => ktr_units); k_whole; intro v t9 h9 tk9 Hv F9 N9; (try dsimp only); (try k_fold)))
      | ((with_reducible show wpAny _ _ (call (Value.ref 43) _) _ _ _); k_dflt (refine' useI (c_to_jd_g _ _ _ _ _ _ (by decide) (dim_ge _ _)) ?k1 ?k2 ?k3 ?k4 ?k5 ?kK ?kd ?ku ?_; (case k1 => k_asm); (case k2 => k_asm); (case k3 => k_asm); (case k4 => k_asm); (case k5 => k_asm); (case kK => exact rfl); (case kd => ktr_room); (case ku => ktr_units); k_whole; intro w t9 h9 tk9 Hw F9 N9; (try dsimp only); (try k_fold)))
      | ((with_reducible show wpAny _ _ (call (Value.ref 21) _) _ _ _); k_dflt (refine' useB (c_isleap _ _) ?k1 ?k2 ?k3 ?k4 ?k5 ?kK ?kd ?ku ?_; (case k1 => k_asm); (case k2 => k_asm); (case k3 => k_asm); (case k4 => k_asm); (case k5 => k_asm); (case kK => exact rfl); (case kd => ktr_room); (case ku => ktr_units); k_whole; intro b h9 tk9 Hb F9 N9; (try dsimp only); (try k_fold)))
      | ((with_reducible show wpAny _ _ (eval (Expr.Call (Expr.Name _ _) _ _ _) _) _ _ _); (refine Call_ ?_); try dsimp only)
      | (k_unfold; (try dsimp only)) | (walk1; try dsimp only) | (dsimp only; walk1; try dsimp only) | (leave1; try dsimp only) | fail "no step")
      all_goals (
        (rename Fr _ _ _ _ => F9)
        (rename News _ _ _ _ => N9)
        with_reducible refine cutOne F9 N9 (Str.ofString "year") (fun y => (c9 = 4 ∨ x9 = 4) ∧ y = z9 ∨ (c9 ≠ 4 ∧ x9 ≠ 4) ∧ y = z9 + 1) ?b1 ?b2
        case b1 =>
          repeat' (first
      | (refine ⟨rfl, _, _, _, _, rfl, fr_cong (by k_asm) (by (intro x; by_cases x0 : x = Str.ofString "year"; (case pos => (subst x0; with_unfolding_all rfl)); simp only [if_neg x0])), cb_drop (by k_asm) (by kcj_all), ?_⟩; (first | exact .inl ⟨.inl (by with_reducible assumption), rfl⟩ | exact .inl ⟨.inr (by with_reducible assumption), rfl⟩ | exact .inr ⟨⟨by with_reducible assumption, by with_reducible assumption⟩, rfl⟩))
      | (k_unfold; (try dsimp only)) | (walk1; try dsimp only) | (dsimp only; walk1; try dsimp only) | (leave1; try dsimp only) | fail "no step")
        case b2 =>
          clear F9 N9
          intro h1 tk1 y9 t1 hY9 F9 N9
          (try dsimp only)
          have Hy9 := hY9
          clear Hy9
          repeat' ((fail_if_success (with_reducible show wpAny _ _ (exec (Stmt.If _ _ _ _) _) _ _ _)); first
      | ((with_reducible show wpAny _ _ (storeName _ (Str.ofString "depoch") (Value.int (_ - _) _)) _ _ _); (fail_if_success (have zz := Ha9)); (refine store_gen ?_); intro a9 Ha9)
      | ((with_reducible show wpAny _ _ (storeName _ (Str.ofString "quadricent") (Value.int (Int.fdiv _ _) _)) _ _ _); (fail_if_success (have zz := Hq9)); (refine store_gen ?_); intro q9 Hq9)
      | ((with_reducible show wpAny _ _ (storeName _ (Str.ofString "dqc") (Value.int (Int.fmod _ _) _)) _ _ _); (fail_if_success (have zz := Hb9)); (refine store_gen ?_); intro b9 Hb9)
      | ((with_reducible show wpAny _ _ (storeName _ (Str.ofString "cent") (Value.int (Int.fdiv _ _) _)) _ _ _); (fail_if_success (have zz := Hc9)); (refine store_gen ?_); intro c9 Hc9)
      | ((with_reducible show wpAny _ _ (storeName _ (Str.ofString "dcent") (Value.int (Int.fmod _ _) _)) _ _ _); (fail_if_success (have zz := Hd9)); (refine store_gen ?_); intro d9 Hd9)
      | ((with_reducible show wpAny _ _ (storeName _ (Str.ofString "quad") (Value.int (Int.fdiv _ _) _)) _ _ _); (fail_if_success (have zz := Hk9)); (refine store_gen ?_); intro k9 Hk9)
      | ((with_reducible show wpAny _ _ (storeName _ (Str.ofString "dquad") (Value.int (Int.fmod _ _) _)) _ _ _); (fail_if_success (have zz := He9)); (refine store_gen ?_); intro e9 He9)
      | ((with_reducible show wpAny _ _ (storeName _ (Str.ofString "yindex") (Value.int (Int.fdiv _ _) _)) _ _ _); (fail_if_success (have zz := Hx9)); (refine store_gen ?_); intro x9 Hx9)
      | ((with_reducible show wpAny _ _ (storeName _ (Str.ofString "year") (Value.int (_ + _) _)) _ _ _); (fail_if_success (have zz := Hz9)); (refine store_gen ?_); intro z9 Hz9)
      | ((with_reducible show wpAny _ _ (storeName _ (Str.ofString "yearday") (Value.int (_ - _) _)) _ _ _); (fail_if_success (have zz := Ht9)); (refine store_gen ?_); intro t9 Ht9)
      | ((with_reducible show wpAny _ _ (storeName _ (Str.ofString "month") (Value.int (Int.fdiv _ _) _)) _ _ _); (fail_if_success (have zz := Hm9)); (refine store_gen ?_); intro m9 Hm9)
      | ((with_reducible show wpAny _ _ (storeName _ (Str.ofString "day") (Value.int (_ + _) _)) _ _ _); (fail_if_success (have zz := Hr9)); (refine store_gen ?_); intro r9 Hr9)
      | ((fail_if_success (have zz := Hv)); (with_reducible show wpAny _ _ (call (Value.ref 43) _) _ _ _); k_dflt (refine' useI (c_to_jd_g _ _ _ _ _ _ (by decide) (dim_ge _ _)) ?k1 ?k2 ?k3 ?k4 ?k5 ?kK ?kd ?ku ?_; (case k1 => k_asm); (case k2 => k_asm); (case k3 => k_asm); (case k4 => k_asm); (case k5 => k_asm); (case kK => exact rfl); (case kd => ktr_room); (case ku => ktr_units); k_whole; intro v t9 h9 tk9 Hv F9 N9; (try dsimp only); (try k_fold)))
      | ((with_reducible show wpAny _ _ (call (Value.ref 43) _) _ _ _); k_dflt (refine' useI (c_to_jd_g _ _ _ _ _ _ (by decide) (dim_ge _ _)) ?k1 ?k2 ?k3 ?k4 ?k5 ?kK ?kd ?ku ?_; (case k1 => k_asm); (case k2 => k_asm); (case k3 => k_asm); (case k4 => k_asm); (case k5 => k_asm); (case kK => exact rfl); (case kd => ktr_room); (case ku => ktr_units); k_whole; intro w t9 h9 tk9 Hw F9 N9; (try dsimp only); (try k_fold)))
      | ((with_reducible show wpAny _ _ (call (Value.ref 21) _) _ _ _); k_dflt (refine' useB (c_isleap _ _) ?k1 ?k2 ?k3 ?k4 ?k5 ?kK ?kd ?ku ?_; (case k1 => k_asm); (case k2 => k_asm); (case k3 => k_asm); (case k4 => k_asm); (case k5 => k_asm); (case kK => exact rfl); (case kd => ktr_room); (case ku => ktr_units); k_whole; intro b h9 tk9 Hb F9 N9; (try dsimp only); (try k_fold)))
      | ((with_reducible show wpAny _ _ (eval (Expr.Call (Expr.Name _ _) _ _ _) _) _ _ _); (refine Call_ ?_); try dsimp only)
      | (k_unfold; (try dsimp only)) | (walk1; try dsimp only) | (dsimp only; walk1; try dsimp only) | (leave1; try dsimp only) | fail "no step")
          all_goals (
            (rename Fr _ _ _ _ => F8)
            (rename News _ _ _ _ => N8)
            with_reducible refine cutOne F8 N8 (Str.ofString "leap_adj") (fun ad => ad = 0 ∧ t9 < 58 + (if b = true then 1 else 0) ∨ ad = 1 ∧ ¬ t9 < 58 + (if b = true then 1 else 0) ∧ b = true ∨ ad = 2 ∧ ¬ t9 < 58 + (if b = true then 1 else 0) ∧ b = false) ?b3 ?b4
            case b3 =>
              repeat' (first
      | (refine ⟨rfl, _, _, _, _, rfl, fr_cong (by k_asm) (by (intro x; by_cases x0 : x = Str.ofString "leap_adj"; (case pos => (subst x0; with_unfolding_all rfl)); simp only [if_neg x0])), cb_drop (by k_asm) (by kcj_all), ?_⟩; (first | exact .inl ⟨rfl, by with_reducible assumption⟩ | exact .inr (.inl ⟨rfl, by with_reducible assumption, by with_reducible assumption⟩) | exact .inr (.inr ⟨rfl, by with_reducible assumption, by with_reducible assumption⟩)))
      | (k_unfold; (try dsimp only)) | (walk1; try dsimp only) | (dsimp only; walk1; try dsimp only) | (leave1; try dsimp only) | fail "no step")
            case b4 =>
              clear F8 N8
              intro h2 tk2 ad t2 hA9 F8 N8
              (try dsimp only)
              repeat' (first
      | (refine endT hret (by k_asm) (by k_asm) (by k_mem) ?_; (exact from_end (Hd.out Ha9) (Hd.out Hq9) (Hd.out Hb9) (Hd.out Hc9) (Hd.out Hd9) (Hd.out Hk9) (Hd.out He9) (Hd.out Hx9) (Hd.out Hz9) hY9 Hv (Hd.out Ht9) Hb (by rcases hA9 with ⟨rfl, h⟩ | ⟨rfl, h, h'⟩ | ⟨rfl, h, h'⟩; exact .inl ⟨Hm9.out, h⟩; exact .inr (.inl ⟨Hm9.out, h, h'⟩); exact .inr (.inr ⟨Hm9.out, h, h'⟩)) Hw (Hd.out Hr9)))
      | ((with_reducible show wpAny _ _ (storeName _ (Str.ofString "depoch") (Value.int (_ - _) _)) _ _ _); (fail_if_success (have zz := Ha9)); (refine store_gen ?_); intro a9 Ha9)
      | ((with_reducible show wpAny _ _ (storeName _ (Str.ofString "quadricent") (Value.int (Int.fdiv _ _) _)) _ _ _); (fail_if_success (have zz := Hq9)); (refine store_gen ?_); intro q9 Hq9)
      | ((with_reducible show wpAny _ _ (storeName _ (Str.ofString "dqc") (Value.int (Int.fmod _ _) _)) _ _ _); (fail_if_success (have zz := Hb9)); (refine store_gen ?_); intro b9 Hb9)
      | ((with_reducible show wpAny _ _ (storeName _ (Str.ofString "cent") (Value.int (Int.fdiv _ _) _)) _ _ _); (fail_if_success (have zz := Hc9)); (refine store_gen ?_); intro c9 Hc9)
      | ((with_reducible show wpAny _ _ (storeName _ (Str.ofString "dcent") (Value.int (Int.fmod _ _) _)) _ _ _); (fail_if_success (have zz := Hd9)); (refine store_gen ?_); intro d9 Hd9)
      | ((with_reducible show wpAny _ _ (storeName _ (Str.ofString "quad") (Value.int (Int.fdiv _ _) _)) _ _ _); (fail_if_success (have zz := Hk9)); (refine store_gen ?_); intro k9 Hk9)
      | ((with_reducible show wpAny _ _ (storeName _ (Str.ofString "dquad") (Value.int (Int.fmod _ _) _)) _ _ _); (fail_if_success (have zz := He9)); (refine store_gen ?_); intro e9 He9)
      | ((with_reducible show wpAny _ _ (storeName _ (Str.ofString "yindex") (Value.int (Int.fdiv _ _) _)) _ _ _); (fail_if_success (have zz := Hx9)); (refine store_gen ?_); intro x9 Hx9)
      | ((with_reducible show wpAny _ _ (storeName _ (Str.ofString "year") (Value.int (_ + _) _)) _ _ _); (fail_if_success (have zz := Hz9)); (refine store_gen ?_); intro z9 Hz9)
      | ((with_reducible show wpAny _ _ (storeName _ (Str.ofString "yearday") (Value.int (_ - _) _)) _ _ _); (fail_if_success (have zz := Ht9)); (refine store_gen ?_); intro t9 Ht9)
      | ((with_reducible show wpAny _ _ (storeName _ (Str.ofString "month") (Value.int (Int.fdiv _ _) _)) _ _ _); (fail_if_success (have zz := Hm9)); (refine store_gen ?_); intro m9 Hm9)
      | ((with_reducible show wpAny _ _ (storeName _ (Str.ofString "day") (Value.int (_ + _) _)) _ _ _); (fail_if_success (have zz := Hr9)); (refine store_gen ?_); intro r9 Hr9)
      | ((fail_if_success (have zz := Hv)); (with_reducible show wpAny _ _ (call (Value.ref 43) _) _ _ _); k_dflt (refine' useI (c_to_jd_g _ _ _ _ _ _ (by decide) (dim_ge _ _)) ?k1 ?k2 ?k3 ?k4 ?k5 ?kK ?kd ?ku ?_; (case k1 => k_asm); (case k2 => k_asm); (case k3 => k_asm); (case k4 => k_asm); (case k5 => k_asm); (case kK => exact rfl); (case kd => ktr_room); (case ku => ktr_units); k_whole; intro v t9 h9 tk9 Hv F9 N9; (try dsimp only); (try k_fold)))
      | ((with_reducible show wpAny _ _ (call (Value.ref 43) _) _ _ _); k_dflt (refine' useI (c_to_jd_g _ _ _ _ _ _ (by decide) (dim_ge _ _)) ?k1 ?k2 ?k3 ?k4 ?k5 ?kK ?kd ?ku ?_; (case k1 => k_asm); (case k2 => k_asm); (case k3 => k_asm); (case k4 => k_asm); (case k5 => k_asm); (case kK => exact rfl); (case kd => ktr_room); (case ku => ktr_units); k_whole; intro w t9 h9 tk9 Hw F9 N9; (try dsimp only); (try k_fold)))
      | ((with_reducible show wpAny _ _ (call (Value.ref 21) _) _ _ _); k_dflt (refine' useB (c_isleap _ _) ?k1 ?k2 ?k3 ?k4 ?k5 ?kK ?kd ?ku ?_; (case k1 => k_asm); (case k2 => k_asm); (case k3 => k_asm); (case k4 => k_asm); (case k5 => k_asm); (case kK => exact rfl); (case kd => ktr_room); (case ku => ktr_units); k_whole; intro b h9 tk9 Hb F9 N9; (try dsimp only); (try k_fold)))
      | ((with_reducible show wpAny _ _ (eval (Expr.Call (Expr.Name _ _) _ _ _) _) _ _ _); (refine Call_ ?_); try dsimp only)
      | (k_unfold; (try dsimp only)) | (walk1; try dsimp only) | (dsimp only; walk1; try dsimp only) | (leave1; try dsimp only) | fail "no step")))))) only [↓held]
theorem c_opening_none (c : Int) (t_c : Tok) (hc : -3760 ≤ c) (hD : NoDue c (NY (c + 3760) + (1 - 1)) (NY (c + 3760 + 1) + (1 - 1))) :
    ∀ (dp un : Nat) (gd : Option (List Code)) (cn : Str) (cs : Scope) (L a : Addr) (ccd : Value) (A₀ : Around) (base h₀ : Heap) (m : Str → Option Value) (news : List (Addr × Obj)) (s : Shared) (Q E : Value → Shared → Prop),
    Below A₀ base [] h₀ → (hd.heap_39 w.params).In base → Top p loose mean mg mb base → Fr h₀ L s.heap m → (hd.heap_39 w.params).In h₀ → News h₀ L s.heap news → Top p loose mean mg mb h₀ → cs.kind = .function → dp + 18 < recursionLimit → un + 8 * 18 < cLine →
    (∀ (t : Tok) (h' : Heap) (tk' : Nat), Fr h₀ L h' m → News h₀ L h' news → Q (.str (Str.ofString "refused") t) { s with heap := h', toks := tk' }) →
      wpAny (model PR w) (ktrTop dp un gd cn cs L a ccd [] []) (call (.ref 218) [.int c t_c]) Q E s := by
  refine of_held ?_
  simp (disch := k_dflt (
      w_on
      dsimp only [PR]
      k_fill
      intro dp un gd cn cs L a ccd A₀ base h₀ m news s Q E B XB TB F X N T hk hd hu hret
      unfold NoDue at hD
      all_goals (
      refine wpAny_call ?_
      k_dflt (refine' code_defS0 (binds := [(Str.ofString "civil", Value.int c t_c)]) ?k1 ?k2 ?k3 ?k4 ?k5 ?kA ?k6 ?k7 ?k8 ?k9 ?kB ?_ ?cK ?c2 ?c3 ?c4 ?c5; (case kA => exact rfl); (case k2 => k_asm); (case k1 => k_asm); (case k3 => k_asm); (case k4 => k_asm); (case k5 => k_asm); (case k6 => k_is); (case k7 => k_is); (case k8 => ktr_room); (case k9 => first | exact BindsTo.of_eq rfl | exact binds_K (by k_in) rfl (by k_is) rfl rfl rfl); (case kB => exact locs rfl); (case cK => assumption); (case c2 => exact rfl); (case c3 => exact rfl); (case c4 => exact rfl); (case c5 => decide); k_whole; intro g' L' h' FG' F' N' B' X' T' D'; (try dsimp only); (try k_lift B'); (try k_fold)))
      repeat' (first
      | (refine hret _ _ _ ?_ ?_; (case refine_1 => k_asm); (case refine_2 => first | assumption | (refine newsTail ?_; assumption) | (refine newsTail (newsTail ?_); assumption) | (refine newsTail (newsTail (newsTail ?_)); assumption) | (exact cb_drop (by k_asm) (by kcj_all))))
      | ((with_reducible show wpAny _ _ (call (Value.ref 135) _) _ _ _); refine wpAny_call ?_; k_dflt (refine' code_def (binds := [(Str.ofString "year", Value.int c t_c), (Str.ofString "eve", Value.none)]) ?k1 ?k2 ?k3 ?k4 ?k5 ?kA ?kF ?kK ?k6 ?k7 ?k8 ?k9 ?kB ?_ ?c2 ?c3 ?c4 ?c5; (case kA => exact rfl); (case kF => exact rfl); (case kK => exact rfl); (case k1 => k_asm); (case k2 => k_asm); (case k3 => k_asm); (case k4 => k_asm); (case k5 => k_asm); (case k6 => k_is); (case k7 => k_is); (case k8 => ktr_room); (case k9 => first | exact BindsTo.of_eq rfl | exact binds_K (by k_in) rfl (by k_is) rfl rfl rfl); (case c5 => decide); (case kB => exact locs rfl); (case c2 => exact rfl); (case c3 => exact rfl); (case c4 => exact rfl); k_whole; intro g' L' h' FG' F' N' B' X' T'; (try dsimp only); (try k_fold)))
      | ((with_reducible show wpAny _ _ (call (Value.ref 120) _) _ _ _); refine wpAny_call ?_; k_dflt (refine' code_def (binds := [(Str.ofString "gregorianyear", Value.int c t_c), (Str.ofString "hebrew_month", Value.int 7 284), (Str.ofString "hebrew_day", Value.int 1 tk)]) ?k1 ?k2 ?k3 ?k4 ?k5 ?kA ?kF ?kK ?k6 ?k7 ?k8 ?k9 ?kB ?_ ?c2 ?c3 ?c4 ?c5; (case kA => exact rfl); (case kF => exact rfl); (case kK => exact rfl); (case k1 => k_asm); (case k2 => k_asm); (case k3 => k_asm); (case k4 => k_asm); (case k5 => k_asm); (case k6 => k_is); (case k7 => k_is); (case k8 => ktr_room); (case k9 => first | exact BindsTo.of_eq rfl | exact binds_K (by k_in) rfl (by k_is) rfl rfl rfl); (case c5 => decide); (case kB => exact locs rfl); (case c2 => exact rfl); (case c3 => exact rfl); (case c4 => exact rfl); k_whole; intro g' L' h' FG' F' N' B' X' T'; (try dsimp only); (try k_fold)))
      | ((with_reducible show wpAny _ _ (call (Value.ref 43) _) _ _ _); exfalso; omega)
      | ((with_reducible show wpAny _ _ (exec (Stmt.For (Expr.Name _ _) (Expr.Tuple _ _ _) _ _ _) _) _ _ _); (rename Fr _ _ _ _ => F8); (with_reducible refine For_unrX F8 ?_ (fun _ => (by with_unfolding_all rfl)) (by with_unfolding_all passes_own)))
      | ((with_reducible show LoopStep3 _ _ _ _ _ _ _ _ _ _); (rename News _ _ _ _ => N8); (with_unfolding_all refine LoopStep3.next (LoopStep2.intro (by assumption) (newsTail N8) (by rfl) ?_)))
      | ((with_reducible show wpAny _ _ (call (Value.ref 106) [_, Value.int 7 _, _]) _ _ _); k_dflt (refine' useI (c_to_jd7 _ _ _ _ _ (by omega) (by omega)) ?k1 ?k2 ?k3 ?k4 ?k5 ?kK ?kd ?ku ?_; (case k1 => k_asm); (case k2 => k_asm); (case k3 => k_asm); (case k4 => k_asm); (case k5 => k_asm); (case kK => exact rfl); (case kd => ktr_room); (case ku => ktr_units); k_whole; intro v t9 h9 tk9 Hv F9 N9; (try dsimp only); (try k_fold)))
      | ((with_reducible show wpAny _ _ (call (Value.ref 50) _) _ _ _); k_dflt (refine' useT (c_from_jd_g _ _) ?k1 ?k2 ?k3 ?k4 ?k5 ?kK ?kd ?ku ?_; (case k1 => k_asm); (case k2 => k_asm); (case k3 => k_asm); (case k4 => k_asm); (case k5 => k_asm); (case kK => exact rfl); (case kd => ktr_room); (case ku => ktr_units); k_whole; intro x1 x2 x3 ta9 tb9 tc9 n9 D9 h9 tk9 Hx F9 N9 O9; (try dsimp only); (try k_fold)); have Ix := GS.iff Hx c)
      | ((with_reducible show wpAny _ _ (eval (Expr.Call (Expr.Name _ _) _ _ _) _) _ _ _); (refine Call_ ?_); try dsimp only)
      | (k_unfold; (try dsimp only)) | (walk1; try dsimp only) | (dsimp only; walk1; try dsimp only) | (leave1; try dsimp only) | fail "no step"))) only [↓held]
theorem c_feast_none (c : Int) (t_c : Tok) (hc : -3760 ≤ c) (hD : NoDue c (NY (c + 3760) + off (c + 3760) 1 + (15 - 1)) (NY (c + 3760 + 1) + off (c + 3760 + 1) 1 + (15 - 1))) :
    ∀ (dp un : Nat) (gd : Option (List Code)) (cn : Str) (cs : Scope) (L a : Addr) (ccd : Value) (A₀ : Around) (base h₀ : Heap) (m : Str → Option Value) (news : List (Addr × Obj)) (s : Shared) (Q E : Value → Shared → Prop),
    Below A₀ base [] h₀ → (hd.heap_39 w.params).In base → Top p loose mean mg mb base → Fr h₀ L s.heap m → (hd.heap_39 w.params).In h₀ → News h₀ L s.heap news → Top p loose mean mg mb h₀ → cs.kind = .function → dp + 18 < recursionLimit → un + 8 * 18 < cLine →
    (∀ (t : Tok) (h' : Heap) (tk' : Nat), Fr h₀ L h' m → News h₀ L h' news → Q (.str (Str.ofString "refused") t) { s with heap := h', toks := tk' }) →
      wpAny (model PR w) (ktrTop dp un gd cn cs L a ccd [] []) (call (.ref 225) [.int c t_c]) Q E s := by
  refine of_held ?_
  simp (disch := k_dflt (
      w_on
      dsimp only [PR]
      k_fill
      intro dp un gd cn cs L a ccd A₀ base h₀ m news s Q E B XB TB F X N T hk hd hu hret
      unfold NoDue at hD
      all_goals (
      refine wpAny_call ?_
      k_dflt (refine' code_defS0 (binds := [(Str.ofString "civil", Value.int c t_c)]) ?k1 ?k2 ?k3 ?k4 ?k5 ?kA ?k6 ?k7 ?k8 ?k9 ?kB ?_ ?cK ?c2 ?c3 ?c4 ?c5; (case kA => exact rfl); (case k2 => k_asm); (case k1 => k_asm); (case k3 => k_asm); (case k4 => k_asm); (case k5 => k_asm); (case k6 => k_is); (case k7 => k_is); (case k8 => ktr_room); (case k9 => first | exact BindsTo.of_eq rfl | exact binds_K (by k_in) rfl (by k_is) rfl rfl rfl); (case kB => exact locs rfl); (case cK => assumption); (case c2 => exact rfl); (case c3 => exact rfl); (case c4 => exact rfl); (case c5 => decide); k_whole; intro g' L' h' FG' F' N' B' X' T' D'; (try dsimp only); (try k_lift B'); (try k_fold)))
      repeat' (first
      | (refine hret _ _ _ ?_ ?_; (case refine_1 => k_asm); (case refine_2 => first | assumption | (refine newsTail ?_; assumption) | (refine newsTail (newsTail ?_); assumption) | (refine newsTail (newsTail (newsTail ?_)); assumption) | (exact cb_drop (by k_asm) (by kcj_all))))
      | ((with_reducible show wpAny _ _ (call (Value.ref 143) _) _ _ _); refine wpAny_call ?_; k_dflt (refine' code_def (binds := [(Str.ofString "year", Value.int c t_c), (Str.ofString "eve", Value.none)]) ?k1 ?k2 ?k3 ?k4 ?k5 ?kA ?kF ?kK ?k6 ?k7 ?k8 ?k9 ?kB ?_ ?c2 ?c3 ?c4 ?c5; (case kA => exact rfl); (case kF => exact rfl); (case kK => exact rfl); (case k1 => k_asm); (case k2 => k_asm); (case k3 => k_asm); (case k4 => k_asm); (case k5 => k_asm); (case k6 => k_is); (case k7 => k_is); (case k8 => ktr_room); (case k9 => first | exact BindsTo.of_eq rfl | exact binds_K (by k_in) rfl (by k_is) rfl rfl rfl); (case c5 => decide); (case kB => exact locs rfl); (case c2 => exact rfl); (case c3 => exact rfl); (case c4 => exact rfl); k_whole; intro g' L' h' FG' F' N' B' X' T'; (try dsimp only); (try k_fold)))
      | ((with_reducible show wpAny _ _ (call (Value.ref 120) _) _ _ _); refine wpAny_call ?_; k_dflt (refine' code_def (binds := [(Str.ofString "gregorianyear", Value.int c t_c), (Str.ofString "hebrew_month", Value.int 1 276), (Str.ofString "hebrew_day", Value.int 15 tk)]) ?k1 ?k2 ?k3 ?k4 ?k5 ?kA ?kF ?kK ?k6 ?k7 ?k8 ?k9 ?kB ?_ ?c2 ?c3 ?c4 ?c5; (case kA => exact rfl); (case kF => exact rfl); (case kK => exact rfl); (case k1 => k_asm); (case k2 => k_asm); (case k3 => k_asm); (case k4 => k_asm); (case k5 => k_asm); (case k6 => k_is); (case k7 => k_is); (case k8 => ktr_room); (case k9 => first | exact BindsTo.of_eq rfl | exact binds_K (by k_in) rfl (by k_is) rfl rfl rfl); (case c5 => decide); (case kB => exact locs rfl); (case c2 => exact rfl); (case c3 => exact rfl); (case c4 => exact rfl); k_whole; intro g' L' h' FG' F' N' B' X' T'; (try dsimp only); (try k_fold)))
      | ((with_reducible show wpAny _ _ (call (Value.ref 43) _) _ _ _); exfalso; omega)
      | ((with_reducible show wpAny _ _ (exec (Stmt.For (Expr.Name _ _) (Expr.Tuple _ _ _) _ _ _) _) _ _ _); (rename Fr _ _ _ _ => F8); (with_reducible refine For_unrX F8 ?_ (fun _ => (by with_unfolding_all rfl)) (by with_unfolding_all passes_own)))
      | ((with_reducible show LoopStep3 _ _ _ _ _ _ _ _ _ _); (rename News _ _ _ _ => N8); (with_unfolding_all refine LoopStep3.next (LoopStep2.intro (by assumption) (newsTail N8) (by rfl) ?_)))
      | ((with_reducible show wpAny _ _ (call (Value.ref 106) _) _ _ _); k_dflt (refine' useI (c_to_jd _ _ _ _ _ _ (by omega) (by omega) (by omega) (by omega) (by first | (intro h; exfalso; omega) | (intro h; exact hlp (by omega)))) ?k1 ?k2 ?k3 ?k4 ?k5 ?kK ?kd ?ku ?_; (case k1 => k_asm); (case k2 => k_asm); (case k3 => k_asm); (case k4 => k_asm); (case k5 => k_asm); (case kK => exact rfl); (case kd => ktr_room); (case ku => ktr_units); k_whole; intro v t9 h9 tk9 Hv F9 N9; (try dsimp only); (try k_fold)))
      | ((with_reducible show wpAny _ _ (call (Value.ref 50) _) _ _ _); k_dflt (refine' useT (c_from_jd_g _ _) ?k1 ?k2 ?k3 ?k4 ?k5 ?kK ?kd ?ku ?_; (case k1 => k_asm); (case k2 => k_asm); (case k3 => k_asm); (case k4 => k_asm); (case k5 => k_asm); (case kK => exact rfl); (case kd => ktr_room); (case ku => ktr_units); k_whole; intro x1 x2 x3 ta9 tb9 tc9 n9 D9 h9 tk9 Hx F9 N9 O9; (try dsimp only); (try k_fold)); have Ix := GS.iff Hx c)
      | ((with_reducible show wpAny _ _ (eval (Expr.Call (Expr.Name _ _) _ _ _) _) _ _ _); (refine Call_ ?_); try dsimp only)
      | (k_unfold; (try dsimp only)) | (walk1; try dsimp only) | (dsimp only; walk1; try dsimp only) | (leave1; try dsimp only) | fail "no step"))) only [↓held]
def Fm (y l mo r : Int) : Prop := (mo ≤ 12 ∧ Dmon y l y mo (r + 1)) ∨ (12 < mo ∧ Dmon y l (y + 1) (mo - 12) (r + 1))
theorem cutCiv {y l j : Int} {M : Model} {A : Around} {t : Sem Flow} {E : Value → Shared → Prop} {Q : Flow → Shared → Prop} {s : Shared} {h₀ h : Heap} {L : Addr} {m : Str → Option Value} {news : List (Addr × Obj)} (_hc : jan (y + 1) + l = j + 306 ∧ 0 ≤ l ∧ l ≤ 365 ∧ (l = 365 → isleapF (y + 1) = true)) (F : Fr h₀ L h m) (N : News h₀ L h news)
    (hfor : 0 ≤ l → l ≤ 365 → wpAny M A t (fun f s' => f = Flow.next ∧ ∃ (h' : Heap) (tk' : Nat) (mo r ln : Int) (t1 t2 t3 : Tok), s' = { s with heap := h', toks := tk' } ∧ Fr h₀ L h' (updF m mo r ln t1 t2 t3) ∧ News h₀ L h' news ∧ Fm y l mo r) E s)
    (hrest : ∀ (h' : Heap) (tk' : Nat) (mo r ln : Int) (t1 t2 t3 : Tok), (jan (y + 1) + l = j + 306 ∧ 0 ≤ l ∧ l ≤ 365 ∧ (l = 365 → isleapF (y + 1) = true)) → Fm y l mo r → Fr h₀ L h' (updF m mo r ln t1 t2 t3) → News h₀ L h' news → Q Flow.next { s with heap := h', toks := tk' }) : wpAny M A t Q E s := cutFor F N _ (hfor _hc.2.1 _hc.2.2.1) fun h' tk' mo r ln t1 t2 t3 a b c => hrest h' tk' mo r ln t1 t2 t3 _hc a b c
theorem cutJul {y l j : Int} {M : Model} {A : Around} {t : Sem Flow} {E : Value → Shared → Prop} {Q : Flow → Shared → Prop} {s : Shared} {h₀ h : Heap} {L : Addr} {m : Str → Option Value} {news : List (Addr × Obj)} (_hc : 1721118 + 365 * y + y / 4 + l = j ∧ 0 ≤ l ∧ l ≤ 365 ∧ (l = 365 → y % 4 = 3)) (F : Fr h₀ L h m) (N : News h₀ L h news)
    (hfor : 0 ≤ l → l ≤ 365 → wpAny M A t (fun f s' => f = Flow.next ∧ ∃ (h' : Heap) (tk' : Nat) (mo r ln : Int) (t1 t2 t3 : Tok), s' = { s with heap := h', toks := tk' } ∧ Fr h₀ L h' (updF m mo r ln t1 t2 t3) ∧ News h₀ L h' news ∧ Fm y l mo r) E s)
    (hrest : ∀ (h' : Heap) (tk' : Nat) (mo r ln : Int) (t1 t2 t3 : Tok), (1721118 + 365 * y + y / 4 + l = j ∧ 0 ≤ l ∧ l ≤ 365 ∧ (l = 365 → y % 4 = 3)) → Fm y l mo r → Fr h₀ L h' (updF m mo r ln t1 t2 t3) → News h₀ L h' news → Q Flow.next { s with heap := h', toks := tk' }) : wpAny M A t Q E s := cutFor F N _ (hfor _hc.2.1 _hc.2.2.1) fun h' tk' mo r ln t1 t2 t3 a b c => hrest h' tk' mo r ln t1 t2 t3 _hc a b c

theorem c_civil (j : Int) (t_j : Tok) : Cl w (hd.heap_39 w.params) p loose mean mg mb 199 1 [.int j t_j] (RetT (GS j)) := by
  refine of_held ?_
  simp (disch := k_dflt (
      dsimp only [Cl, RetT, PR]
      k_fill
      intro dp un gd cn cs a ccd cl outer A₀ base h₀ L m s Q E B F X T hk hd hu hret
      all_goals (
      refine wpAny_call ?_
      k_dflt (refine' enter0 [(Str.ofString "number", Value.int j t_j)] ?k1 ?k2 ?k3 ?k5 ?kA ?kF ?kK ?k6 ?k7 ?k8 ?k9 ?kB ?_ ?c2 ?c3 ?c4 ?c5; (case kA => exact rfl); (case kF => exact rfl); (case kK => assumption); (case k1 => k_asm); (case k2 => k_asm); (case k3 => k_asm); (case k5 => k_asm); (case k6 => k_is); (case k7 => k_is); (case k8 => ktr_room); (case k9 => first | exact BindsTo.of_eq rfl | exact binds_K (by k_in) rfl (by k_is) rfl rfl rfl); (case c5 => decide); (case kB => exact locs rfl); (case c2 => exact rfl); (case c3 => exact rfl); (case c4 => exact rfl); k_whole; intro L' h' F' N' B' X' T'; (try dsimp only); (try k_fold))
      repeat' ((fail_if_success (with_reducible show wpAny _ _ (exec (Stmt.For _ _ _ _ _) _) _ _ _)); first
      | ((with_reducible show wpAny _ _ (storeName _ (Str.ofString "rounds") (Value.int (Int.fdiv _ _) _)) _ _ _); (fail_if_success (have zz := Hr9)); (refine store_gen ?_); intro r9 Hr9)
      | ((with_reducible show wpAny _ _ (storeName _ (Str.ofString "left") (Value.int (Int.fmod _ _) _)) _ _ _); (fail_if_success (have zz := Hl0)); (refine store_gen ?_); intro l0 Hl0)
      | ((with_reducible show wpAny _ _ (storeName _ (Str.ofString "hundreds") (Value.int (ite _ _ _) _)) _ _ _); (fail_if_success (have zz := Hh9)); (refine store_gen ?_); intro h9 Hh9)
      | ((with_reducible show wpAny _ _ (storeName _ (Str.ofString "left") (Value.int (_ - _ * _) _)) _ _ _); (fail_if_success (have zz := Hl1)); (refine store_gen ?_); intro l1 Hl1)
      | ((with_reducible show wpAny _ _ (storeName _ (Str.ofString "fours") (Value.int (Int.fdiv _ _) _)) _ _ _); (fail_if_success (have zz := Hf9)); (refine store_gen ?_); intro f9 Hf9)
      | ((with_reducible show wpAny _ _ (storeName _ (Str.ofString "left") (Value.int (_ - _ * _) _)) _ _ _); (fail_if_success (have zz := Hl2)); (refine store_gen ?_); intro l2 Hl2)
      | ((with_reducible show wpAny _ _ (storeName _ (Str.ofString "ones") (Value.int (ite _ _ _) _)) _ _ _); (fail_if_success (have zz := Ho9)); (refine store_gen ?_); intro o9 Ho9)
      | ((with_reducible show wpAny _ _ (storeName _ (Str.ofString "left") (Value.int (_ - _ * _) _)) _ _ _); (fail_if_success (have zz := Hl3)); (refine store_gen ?_); intro l3 Hl3)
      | ((with_reducible show wpAny _ _ (storeName _ (Str.ofString "year") (Value.int (_ + _) _)) _ _ _); (fail_if_success (have zz := Hy9)); (refine store_gen ?_); intro y9 Hy9)
      | ((with_reducible show wpAny _ _ (eval (Expr.Call (Expr.Name _ _) _ _ _) _) _ _ _); (refine Call_ ?_); try dsimp only)
      | (k_unfold; (try dsimp only)) | (walk1; try dsimp only) | (dsimp only; walk1; try dsimp only) | (leave1; try dsimp only) | fail "no step")
      all_goals (
        (rename Fr _ _ _ _ => F9)
        (rename News _ _ _ _ => N9)
        with_reducible refine cutCiv (civ_end (j := j) (Hd.out Hr9) (Hd.out Hl0) (Hd.out Hh9) (Hd.out Hl1) (Hd.out Hf9) (Hd.out Hl2) (Hd.out Ho9) (Hd.out Hl3) (Hd.out Hy9)) F9 N9 ?b1 ?b2
        case b1 =>
          intro hz8 hz9
          repeat' (first
      | (refine ⟨rfl, _, _, _, _, _, _, _, _, rfl, fr_cong (by k_asm) (by (intro x; by_cases x0 : x = Str.ofString "left"; (case pos => (subst x0; with_unfolding_all rfl)); by_cases x1 : x = Str.ofString "length"; (case pos => (subst x1; with_unfolding_all rfl)); by_cases x2 : x = Str.ofString "month"; (case pos => (subst x2; with_unfolding_all rfl)); simp only [if_neg x0, if_neg x1, if_neg x2])), cb_drop (by k_asm) (by kcj_all), ?_⟩; first | (exact .inl ⟨by decide, D_3 (by omega) (by omega) (by omega) (by omega)⟩) | (exact .inl ⟨by decide, D_4 (by omega) (by omega) (by omega) (by omega) (by omega)⟩) | (exact .inl ⟨by decide, D_5 (by omega) (by omega) (by omega) (by omega) (by omega)⟩) | (exact .inl ⟨by decide, D_6 (by omega) (by omega) (by omega) (by omega) (by omega)⟩) | (exact .inl ⟨by decide, D_7 (by omega) (by omega) (by omega) (by omega) (by omega)⟩) | (exact .inl ⟨by decide, D_8 (by omega) (by omega) (by omega) (by omega) (by omega)⟩) | (exact .inl ⟨by decide, D_9 (by omega) (by omega) (by omega) (by omega) (by omega)⟩) | (exact .inl ⟨by decide, D_10 (by omega) (by omega) (by omega) (by omega) (by omega)⟩) | (exact .inl ⟨by decide, D_11 (by omega) (by omega) (by omega) (by omega) (by omega)⟩) | (exact .inl ⟨by decide, D_12 (by omega) (by omega) (by omega) (by omega) (by omega)⟩) | (exact .inr ⟨by decide, D_1 (by omega) (by omega) (by omega) (by omega) (by omega)⟩) | (exact .inr ⟨by decide, D_2 (by omega) (by omega) (by omega) (by omega)⟩) | (exfalso; omega))
      | ((with_reducible show wpAny _ _ (exec (Stmt.For (Expr.Name _ _) (Expr.Tuple _ _ _) _ _ _) _) _ _ _); (with_reducible refine For_unr s.heap ?_ (fun _ => (by with_unfolding_all rfl)) (by with_unfolding_all passes_own)))
      | (k_unfold; (try dsimp only)) | (walk1; try dsimp only) | (dsimp only; walk1; try dsimp only) | (leave1; try dsimp only) | fail "no step")
        case b2 =>
          clear F9 N9
          intro h1 tk1 mo r ln t1 t2 t3 hc9 hfm F9 N9
          (try dsimp only)
          repeat' (first
      | (refine endT hret (by k_asm) (by k_asm) (by k_mem) ?_; (rcases hfm with ⟨q, hD⟩ | ⟨q, hD⟩ <;> first | exact GS_mar hc9 hD | (exfalso; omega)))
      | ((with_reducible show wpAny _ _ (eval (Expr.Call (Expr.Name _ _) _ _ _) _) _ _ _); (refine Call_ ?_); try dsimp only)
      | (k_unfold; (try dsimp only)) | (walk1; try dsimp only) | (dsimp only; walk1; try dsimp only) | (leave1; try dsimp only) | fail "no step"))))) only [↓held]
theorem c_julian (j : Int) (t_j : Tok) : Cl w (hd.heap_39 w.params) p loose mean mg mb 185 1 [.int j t_j] (RetT (JS j)) := by
  refine of_held ?_
  simp (disch := k_dflt (
      dsimp only [Cl, RetT, PR]
      k_fill
      intro dp un gd cn cs a ccd cl outer A₀ base h₀ L m s Q E B F X T hk hd hu hret
      all_goals (
      refine wpAny_call ?_
      k_dflt (refine' enter0 [(Str.ofString "number", Value.int j t_j)] ?k1 ?k2 ?k3 ?k5 ?kA ?kF ?kK ?k6 ?k7 ?k8 ?k9 ?kB ?_ ?c2 ?c3 ?c4 ?c5; (case kA => exact rfl); (case kF => exact rfl); (case kK => assumption); (case k1 => k_asm); (case k2 => k_asm); (case k3 => k_asm); (case k5 => k_asm); (case k6 => k_is); (case k7 => k_is); (case k8 => ktr_room); (case k9 => first | exact BindsTo.of_eq rfl | exact binds_K (by k_in) rfl (by k_is) rfl rfl rfl); (case c5 => decide); (case kB => exact locs rfl); (case c2 => exact rfl); (case c3 => exact rfl); (case c4 => exact rfl); k_whole; intro L' h' F' N' B' X' T'; (try dsimp only); (try k_fold))
      repeat' ((fail_if_success (with_reducible show wpAny _ _ (exec (Stmt.For _ _ _ _ _) _) _ _ _)); first
      | ((with_reducible show wpAny _ _ (storeName _ (Str.ofString "rounds") (Value.int (Int.fdiv _ _) _)) _ _ _); (fail_if_success (have zz := Hr9)); (refine store_gen ?_); intro r9 Hr9)
      | ((with_reducible show wpAny _ _ (storeName _ (Str.ofString "left") (Value.int (Int.fmod _ _) _)) _ _ _); (fail_if_success (have zz := Hl0)); (refine store_gen ?_); intro l0 Hl0)
      | ((with_reducible show wpAny _ _ (storeName _ (Str.ofString "past") (Value.int (ite _ _ _) _)) _ _ _); (fail_if_success (have zz := Hp9)); (refine store_gen ?_); intro p9 Hp9)
      | ((with_reducible show wpAny _ _ (storeName _ (Str.ofString "left") (Value.int (_ - _ * _) _)) _ _ _); (fail_if_success (have zz := Hl1)); (refine store_gen ?_); intro l1 Hl1)
      | ((with_reducible show wpAny _ _ (eval (Expr.Call (Expr.Name _ _) _ _ _) _) _ _ _); (refine Call_ ?_); try dsimp only)
      | (k_unfold; (try dsimp only)) | (walk1; try dsimp only) | (dsimp only; walk1; try dsimp only) | (leave1; try dsimp only) | fail "no step")
      all_goals (
        (rename Fr _ _ _ _ => F9)
        (rename News _ _ _ _ => N9)
        with_reducible refine cutJul (jul_end (j := j) (Hd.out Hr9) (Hd.out Hl0) (Hd.out Hp9) (Hd.out Hl1)) F9 N9 ?b1 ?b2
        case b1 =>
          intro hz8 hz9
          repeat' (first
      | (refine ⟨rfl, _, _, _, _, _, _, _, _, rfl, fr_cong (by k_asm) (by (intro x; by_cases x0 : x = Str.ofString "left"; (case pos => (subst x0; with_unfolding_all rfl)); by_cases x1 : x = Str.ofString "length"; (case pos => (subst x1; with_unfolding_all rfl)); by_cases x2 : x = Str.ofString "month"; (case pos => (subst x2; with_unfolding_all rfl)); simp only [if_neg x0, if_neg x1, if_neg x2])), cb_drop (by k_asm) (by kcj_all), ?_⟩; first | (exact .inl ⟨by decide, D_3 (by omega) (by omega) (by omega) (by omega)⟩) | (exact .inl ⟨by decide, D_4 (by omega) (by omega) (by omega) (by omega) (by omega)⟩) | (exact .inl ⟨by decide, D_5 (by omega) (by omega) (by omega) (by omega) (by omega)⟩) | (exact .inl ⟨by decide, D_6 (by omega) (by omega) (by omega) (by omega) (by omega)⟩) | (exact .inl ⟨by decide, D_7 (by omega) (by omega) (by omega) (by omega) (by omega)⟩) | (exact .inl ⟨by decide, D_8 (by omega) (by omega) (by omega) (by omega) (by omega)⟩) | (exact .inl ⟨by decide, D_9 (by omega) (by omega) (by omega) (by omega) (by omega)⟩) | (exact .inl ⟨by decide, D_10 (by omega) (by omega) (by omega) (by omega) (by omega)⟩) | (exact .inl ⟨by decide, D_11 (by omega) (by omega) (by omega) (by omega) (by omega)⟩) | (exact .inl ⟨by decide, D_12 (by omega) (by omega) (by omega) (by omega) (by omega)⟩) | (exact .inr ⟨by decide, D_1 (by omega) (by omega) (by omega) (by omega) (by omega)⟩) | (exact .inr ⟨by decide, D_2 (by omega) (by omega) (by omega) (by omega)⟩) | (exfalso; omega))
      | ((with_reducible show wpAny _ _ (exec (Stmt.For (Expr.Name _ _) (Expr.Tuple _ _ _) _ _ _) _) _ _ _); (with_reducible refine For_unr s.heap ?_ (fun _ => (by with_unfolding_all rfl)) (by with_unfolding_all passes_own)))
      | (k_unfold; (try dsimp only)) | (walk1; try dsimp only) | (dsimp only; walk1; try dsimp only) | (leave1; try dsimp only) | fail "no step")
        case b2 =>
          clear F9 N9
          intro h1 tk1 mo r ln t1 t2 t3 hc9 hfm F9 N9
          (try dsimp only)
          repeat' (first
      | (refine endT hret (by k_asm) (by k_asm) (by k_mem) ?_; (rcases hfm with ⟨q, hD⟩ | ⟨q, hD⟩ <;> first | exact JS_of hc9 hD | (exfalso; omega)))
      | ((with_reducible show wpAny _ _ (eval (Expr.Call (Expr.Name _ _) _ _ _) _) _ _ _); (refine Call_ ?_); try dsimp only)
      | (k_unfold; (try dsimp only)) | (walk1; try dsimp only) | (dsimp only; walk1; try dsimp only) | (leave1; try dsimp only) | fail "no step"))))) only [↓held]
theorem c_from_jd_j (j : Int) (t_j : Tok)  : Cl w (hd.heap_39 w.params) p loose mean mg mb 150 1 [.int j t_j] (RetT (JS j)) := by
  refine of_held ?_
  simp (disch := k_dflt (
      dsimp only [Cl, RetT, PR]
      k_fill
      intro dp un gd cn cs a ccd cl outer A₀ base h₀ L m s Q E B F X T hk hd hu hret
      all_goals (
      refine wpAny_call ?_
      k_dflt (refine' enter0 [(Str.ofString "jd", Value.int j t_j)] ?k1 ?k2 ?k3 ?k5 ?kA ?kF ?kK ?k6 ?k7 ?k8 ?k9 ?kB ?_ ?c2 ?c3 ?c4 ?c5; (case kA => exact rfl); (case kF => exact rfl); (case kK => assumption); (case k1 => k_asm); (case k2 => k_asm); (case k3 => k_asm); (case k5 => k_asm); (case k6 => k_is); (case k7 => k_is); (case k8 => ktr_room); (case k9 => exact BindsTo.of_eq rfl); (case c5 => decide); (case kB => exact locs rfl); (case c2 => exact rfl); (case c3 => exact rfl); (case c4 => exact rfl); k_whole; intro L' h' F' N' B' X' T'; (try dsimp only); (try k_fold))
      repeat' (first
      | (refine endT hret (by k_asm) (by k_asm) (by k_mem) ?_; (exact fromj_end (Hd.out (by assumption)) (Hd.out (by assumption)) (Hd.out (by assumption)) (Hd.out (by assumption)) (by first | exact .inl ⟨by assumption, Hd.out (by assumption)⟩ | exact .inr ⟨by assumption, Hd.out (by assumption)⟩) (by first | exact .inl ⟨by assumption, Hd.out (by assumption)⟩ | exact .inr ⟨by assumption, Hd.out (by assumption)⟩) (Hd.out (by assumption))))
      | ((first | (with_reducible show wpAny _ _ (storeName _ _ (Value.int (_ - _) _)) _ _ _) | (with_reducible show wpAny _ _ (storeName _ _ (Value.int (_ + _) _)) _ _ _) | (with_reducible show wpAny _ _ (storeName _ _ (Value.int (_ * _) _)) _ _ _) | (with_reducible show wpAny _ _ (storeName _ _ (Value.int (Int.fdiv _ _) _)) _ _ _) | (with_reducible show wpAny _ _ (storeName _ _ (Value.int (Int.fmod _ _) _)) _ _ _) | (with_reducible show wpAny _ _ (storeName _ _ (Value.int (ite _ _ _) _)) _ _ _)); (refine store_gen ?_); intro v8 Hv8)
      | ((with_reducible show wpAny _ _ (eval (Expr.Call (Expr.Name _ _) _ _ _) _) _ _ _); (refine Call_ ?_); try dsimp only)
      | (k_unfold; (try dsimp only)) | (walk1; try dsimp only) | (dsimp only; walk1; try dsimp only) | (leave1; try dsimp only) | fail "no step")))) only [↓held]
theorem c_march (y : Int) (t_y : Tok)  : Cl w (hd.heap_39 w.params) p loose mean mg mb 164 1 [.int y t_y] (RetI (fun v => v = marchF y)) := by
  refine of_held ?_
  simp (disch := k_dflt (
      dsimp only [Cl, RetI, PR]
      k_fill
      intro dp un gd cn cs a ccd cl outer A₀ base h₀ L m s Q E B F X T hk hd hu hret
      all_goals (
      refine wpAny_call ?_
      k_dflt (refine' enter0 [(Str.ofString "year", Value.int y t_y)] ?k1 ?k2 ?k3 ?k5 ?kA ?kF ?kK ?k6 ?k7 ?k8 ?k9 ?kB ?_ ?c2 ?c3 ?c4 ?c5; (case kA => exact rfl); (case kF => exact rfl); (case kK => assumption); (case k1 => k_asm); (case k2 => k_asm); (case k3 => k_asm); (case k5 => k_asm); (case k6 => k_is); (case k7 => k_is); (case k8 => ktr_room); (case k9 => exact BindsTo.of_eq rfl); (case c5 => decide); (case kB => exact locs rfl); (case c2 => exact rfl); (case c3 => exact rfl); (case c4 => exact rfl); k_whole; intro L' h' F' N' B' X' T'; (try dsimp only); (try k_fold))
      repeat' (first
      | (refine endI hret (by k_asm) _ ?_; (rw [march_end (Hd.out (by assumption)) (Hd.out (by assumption)) (Hd.out (by assumption)) (Hd.out (by assumption)) (Hd.out (by assumption))]; simp only [any246, any246f] at *; (repeat' split) <;> omega))
      | ((first | (with_reducible show wpAny _ _ (storeName _ _ (Value.int (_ - _) _)) _ _ _) | (with_reducible show wpAny _ _ (storeName _ _ (Value.int (_ + _) _)) _ _ _) | (with_reducible show wpAny _ _ (storeName _ _ (Value.int (_ * _) _)) _ _ _) | (with_reducible show wpAny _ _ (storeName _ _ (Value.int (Int.fdiv _ _) _)) _ _ _) | (with_reducible show wpAny _ _ (storeName _ _ (Value.int (Int.fmod _ _) _)) _ _ _) | (with_reducible show wpAny _ _ (storeName _ _ (Value.int (ite _ _ _) _)) _ _ _)); (refine store_gen ?_); intro v8 Hv8)
      | ((with_reducible show wpAny _ _ (eval (Expr.Call (Expr.Name _ _) _ _ _) _) _ _ _); (refine Call_ ?_); try dsimp only)
      | (k_unfold; (try dsimp only)) | (walk1; try dsimp only) | (dsimp only; walk1; try dsimp only) | (leave1; try dsimp only) | fail "no step")))) only [↓held]

theorem c_spring (y : Int) (t_y : Tok)  : Cl w (hd.heap_39 w.params) p loose mean mg mb 171 2 [.int y t_y] (RetI (fun v => v + 163 = NY (y + 1))) := by
  refine of_held ?_
  simp (disch := k_dflt (
      dsimp only [Cl, RetI, PR]
      k_fill
      intro dp un gd cn cs a ccd cl outer A₀ base h₀ L m s Q E B F X T hk hd hu hret
      all_goals (
      refine wpAny_call ?_
      k_dflt (refine' enter0 [(Str.ofString "year", Value.int y t_y)] ?k1 ?k2 ?k3 ?k5 ?kA ?kF ?kK ?k6 ?k7 ?k8 ?k9 ?kB ?_ ?c2 ?c3 ?c4 ?c5; (case kA => exact rfl); (case kF => exact rfl); (case kK => assumption); (case k1 => k_asm); (case k2 => k_asm); (case k3 => k_asm); (case k5 => k_asm); (case k6 => k_is); (case k7 => k_is); (case k8 => ktr_room); (case k9 => exact BindsTo.of_eq rfl); (case c5 => decide); (case kB => exact locs rfl); (case c2 => exact rfl); (case c3 => exact rfl); (case c4 => exact rfl); k_whole; intro L' h' F' N' B' X' T'; (try dsimp only); (try k_fold))
      repeat' (first
      | (refine endI hret (by k_asm) _ ?_; (have G := gauss y; unfold springF at G; rw [fd (by decide)]; simp only [Hd_iff] at *; subst_vars; exact G))
      | ((first | (with_reducible show wpAny _ _ (storeName _ _ (Value.int (_ - _) _)) _ _ _) | (with_reducible show wpAny _ _ (storeName _ _ (Value.int (_ + _) _)) _ _ _) | (with_reducible show wpAny _ _ (storeName _ _ (Value.int (_ * _) _)) _ _ _) | (with_reducible show wpAny _ _ (storeName _ _ (Value.int (Int.fdiv _ _) _)) _ _ _) | (with_reducible show wpAny _ _ (storeName _ _ (Value.int (Int.fmod _ _) _)) _ _ _) | (with_reducible show wpAny _ _ (storeName _ _ (Value.int (ite _ _ _) _)) _ _ _)); (refine store_gen ?_); intro v8 Hv8)
      | ((with_reducible show wpAny _ _ (call (Value.ref 164) _) _ _ _); k_dflt (refine' useI (c_march _ _) ?k1 ?k2 ?k3 ?k4 ?k5 ?kK ?kd ?ku ?_; (case k1 => k_asm); (case k2 => k_asm); (case k3 => k_asm); (case k4 => k_asm); (case k5 => k_asm); (case kK => exact rfl); (case kd => ktr_room); (case ku => ktr_units); k_whole; intro v t9 h9 tk9 Hv F9 N9; (try dsimp only); (try k_fold)))
      | ((with_reducible show wpAny _ _ (eval (Expr.Call (Expr.Name _ _) _ _ _) _) _ _ _); (refine Call_ ?_); try dsimp only)
      | (k_unfold; (try dsimp only)) | (walk1; try dsimp only) | (dsimp only; walk1; try dsimp only) | (leave1; try dsimp only) | fail "no step")))) only [↓held]
theorem c_to_gregorian (y : Int) (t_y : Tok) (mo : Int) (t_mo : Tok) (da : Int) (t_da : Tok) (hy : 0 ≤ y) (hd1 : 1 ≤ da) (hm1 : 1 ≤ mo) (hm2 : mo ≤ 13) (hlp : mo = 13 → leapF y = true) : Cl w (hd.heap_39 w.params) p loose mean mg mb 127 12 [.int y t_y, .int mo t_mo, .int da t_da] (RetT (GS (NY y + off y mo + (da - 1)))) := by
  refine of_held ?_
  simp (disch := k_dflt (
      dsimp only [Cl, RetT, PR]
      k_fill
      intro dp un gd cn cs a ccd cl outer A₀ base h₀ L m s Q E B F X T hk hd hu hret
      all_goals (
      refine wpAny_call ?_
      k_dflt (refine' enter0 [(Str.ofString "year", Value.int y t_y), (Str.ofString "month", Value.int mo t_mo), (Str.ofString "day", Value.int da t_da)] ?k1 ?k2 ?k3 ?k5 ?kA ?kF ?kK ?k6 ?k7 ?k8 ?k9 ?kB ?_ ?c2 ?c3 ?c4 ?c5; (case kA => exact rfl); (case kF => exact rfl); (case kK => assumption); (case k1 => k_asm); (case k2 => k_asm); (case k3 => k_asm); (case k5 => k_asm); (case k6 => k_is); (case k7 => k_is); (case k8 => ktr_room); (case k9 => exact BindsTo.of_eq rfl); (case c5 => decide); (case kB => exact locs rfl); (case c2 => exact rfl); (case c3 => exact rfl); (case c4 => exact rfl); k_whole; intro L' h' F' N' B' X' T'; (try dsimp only); (try k_fold))
      repeat' (first
      | (refine endT hret (by k_asm) (by k_asm) (by k_mem) ?_; (rw [← Hv]; assumption))
      | ((with_reducible show wpAny _ _ (call (Value.ref 106) _) _ _ _); k_dflt (refine' useI (c_to_jd _ _ _ _ _ _ (by omega) (by omega) (by omega) (by omega) (by first | (intro h; exfalso; omega) | (intro h; exact hlp (by omega)))) ?k1 ?k2 ?k3 ?k4 ?k5 ?kK ?kd ?ku ?_; (case k1 => k_asm); (case k2 => k_asm); (case k3 => k_asm); (case k4 => k_asm); (case k5 => k_asm); (case kK => exact rfl); (case kd => ktr_room); (case ku => ktr_units); k_whole; intro v t9 h9 tk9 Hv F9 N9; (try dsimp only); (try k_fold)))
      | ((with_reducible show wpAny _ _ (call (Value.ref 50) _) _ _ _); k_dflt (refine' useT (c_from_jd_g _ _) ?k1 ?k2 ?k3 ?k4 ?k5 ?kK ?kd ?ku ?_; (case k1 => k_asm); (case k2 => k_asm); (case k3 => k_asm); (case k4 => k_asm); (case k5 => k_asm); (case kK => exact rfl); (case kd => ktr_room); (case ku => ktr_units); k_whole; intro x1 x2 x3 ta9 tb9 tc9 n9 D9 h9 tk9 Hx F9 N9 O9; (try dsimp only); (try k_fold)))
      | ((with_reducible show wpAny _ _ (eval (Expr.Call (Expr.Name _ _) _ _ _) _) _ _ _); (refine Call_ ?_); try dsimp only)
      | (k_unfold; (try dsimp only)) | (walk1; try dsimp only) | (dsimp only; walk1; try dsimp only) | (leave1; try dsimp only) | fail "no step")))) only [↓held]
theorem c_from_gregorian (y : Int) (t_y : Tok) (mo : Int) (t_mo : Tok) (da : Int) (t_da : Tok) (h1 : 1 ≤ da) (h2 : da ≤ dimF y mo) : Cl w (hd.heap_39 w.params) p loose mean mg mb 157 6 [.int y t_y, .int mo t_mo, .int da t_da] (RetT (JS (gjd y mo da))) := by
  refine of_held ?_
  simp (disch := k_dflt (
      dsimp only [Cl, RetT, PR]
      k_fill
      intro dp un gd cn cs a ccd cl outer A₀ base h₀ L m s Q E B F X T hk hd hu hret
      all_goals (
      refine wpAny_call ?_
      k_dflt (refine' enter0 [(Str.ofString "year", Value.int y t_y), (Str.ofString "month", Value.int mo t_mo), (Str.ofString "day", Value.int da t_da)] ?k1 ?k2 ?k3 ?k5 ?kA ?kF ?kK ?k6 ?k7 ?k8 ?k9 ?kB ?_ ?c2 ?c3 ?c4 ?c5; (case kA => exact rfl); (case kF => exact rfl); (case kK => assumption); (case k1 => k_asm); (case k2 => k_asm); (case k3 => k_asm); (case k5 => k_asm); (case k6 => k_is); (case k7 => k_is); (case k8 => ktr_room); (case k9 => exact BindsTo.of_eq rfl); (case c5 => decide); (case kB => exact locs rfl); (case c2 => exact rfl); (case c3 => exact rfl); (case c4 => exact rfl); k_whole; intro L' h' F' N' B' X' T'; (try dsimp only); (try k_fold))
      repeat' (first
      | (refine endT hret (by k_asm) (by k_asm) (by k_mem) ?_; (rw [← Hv]; assumption))
      | ((with_reducible show wpAny _ _ (call (Value.ref 43) _) _ _ _); k_dflt (refine' useI (c_to_jd_g _ _ _ _ _ _ h1 h2) ?k1 ?k2 ?k3 ?k4 ?k5 ?kK ?kd ?ku ?_; (case k1 => k_asm); (case k2 => k_asm); (case k3 => k_asm); (case k4 => k_asm); (case k5 => k_asm); (case kK => exact rfl); (case kd => ktr_room); (case ku => ktr_units); k_whole; intro v t9 h9 tk9 Hv F9 N9; (try dsimp only); (try k_fold)))
      | ((with_reducible show wpAny _ _ (call (Value.ref 150) _) _ _ _); k_dflt (refine' useT (c_from_jd_j _ _) ?k1 ?k2 ?k3 ?k4 ?k5 ?kK ?kd ?ku ?_; (case k1 => k_asm); (case k2 => k_asm); (case k3 => k_asm); (case k4 => k_asm); (case k5 => k_asm); (case kK => exact rfl); (case kd => ktr_room); (case ku => ktr_units); k_whole; intro x1 x2 x3 ta9 tb9 tc9 n9 D9 h9 tk9 Hx F9 N9 O9; (try dsimp only); (try k_fold)))
      | ((with_reducible show wpAny _ _ (eval (Expr.Call (Expr.Name _ _) _ _ _) _) _ _ _); (refine Call_ ?_); try dsimp only)
      | (k_unfold; (try dsimp only)) | (walk1; try dsimp only) | (dsimp only; walk1; try dsimp only) | (leave1; try dsimp only) | fail "no step")))) only [↓held]
theorem c_gyear_ny (c : Int) (t_c t_m t_d : Tok) (n : Int) (hc : -3760 ≤ c) (hD : Due c (NY (c + 3760) + (1 - 1)) (NY (c + 3760 + 1) + (1 - 1)) n) : Cl w (hd.heap_39 w.params) p loose mean mg mb 120 14 [.int c t_c, .int 7 t_m, .int 1 t_d] (RetI (fun v => v = n)) := by
  refine of_held ?_
  simp (disch := k_dflt (
      dsimp only [Cl, RetI, PR]
      k_fill
      intro dp un gd cn cs a ccd cl outer A₀ base h₀ L m s Q E B F X T hk hd hu hret
      unfold Due at hD
      all_goals (
      refine wpAny_call ?_
      k_dflt (refine' enter0 [(Str.ofString "gregorianyear", Value.int c t_c), (Str.ofString "hebrew_month", Value.int 7 t_m), (Str.ofString "hebrew_day", Value.int 1 t_d)] ?k1 ?k2 ?k3 ?k5 ?kA ?kF ?kK ?k6 ?k7 ?k8 ?k9 ?kB ?_ ?c2 ?c3 ?c4 ?c5; (case kA => exact rfl); (case kF => exact rfl); (case kK => assumption); (case k1 => k_asm); (case k2 => k_asm); (case k3 => k_asm); (case k5 => k_asm); (case k6 => k_is); (case k7 => k_is); (case k8 => ktr_room); (case k9 => exact BindsTo.of_eq rfl); (case c5 => decide); (case kB => exact locs rfl); (case c2 => exact rfl); (case c3 => exact rfl); (case c4 => exact rfl); k_whole; intro L' h' F' N' B' X' T'; (try dsimp only); (try k_fold))
      repeat' (first
      | (refine endI hret (by k_asm) _ ?_; (have e := Hx.eq; omega))
      | ((with_reducible show wpAny _ _ (exec (Stmt.For (Expr.Name _ _) (Expr.Tuple _ _ _) _ _ _) _) _ _ _); (with_reducible refine For_unr s.heap ?_ (fun _ => (by with_unfolding_all rfl)) (by with_unfolding_all passes_own)))
      | ((with_reducible show LoopStep3 _ _ _ _ _ _ _ _ _ _); (rename News s.heap L' _ _ => N8); (with_unfolding_all refine LoopStep3.next (LoopStep2.intro (by assumption) (newsTail N8) (by rfl) ?_)))
      | ((with_reducible show wpAny _ _ (call (Value.ref 106) [_, Value.int 7 _, _]) _ _ _); k_dflt (refine' useI (c_to_jd7 _ _ _ _ _ (by omega) (by omega)) ?k1 ?k2 ?k3 ?k4 ?k5 ?kK ?kd ?ku ?_; (case k1 => k_asm); (case k2 => k_asm); (case k3 => k_asm); (case k4 => k_asm); (case k5 => k_asm); (case kK => exact rfl); (case kd => ktr_room); (case ku => ktr_units); k_whole; intro v t9 h9 tk9 Hv F9 N9; (try dsimp only); (try k_fold)))
      | ((with_reducible show wpAny _ _ (call (Value.ref 50) _) _ _ _); k_dflt (refine' useT (c_from_jd_g _ _) ?k1 ?k2 ?k3 ?k4 ?k5 ?kK ?kd ?ku ?_; (case k1 => k_asm); (case k2 => k_asm); (case k3 => k_asm); (case k4 => k_asm); (case k5 => k_asm); (case kK => exact rfl); (case kd => ktr_room); (case ku => ktr_units); k_whole; intro x1 x2 x3 ta9 tb9 tc9 n9 D9 h9 tk9 Hx F9 N9 O9; (try dsimp only); (try k_fold)); have Ix := GS.iff Hx c)
      | ((with_reducible show wpAny _ _ (call (Value.ref 43) _) _ _ _); k_dflt (refine' useI (c_to_jd_g _ _ _ _ _ _ Hx.d1 Hx.d2) ?k1 ?k2 ?k3 ?k4 ?k5 ?kK ?kd ?ku ?_; (case k1 => k_asm); (case k2 => k_asm); (case k3 => k_asm); (case k4 => k_asm); (case k5 => k_asm); (case kK => exact rfl); (case kd => ktr_room); (case ku => ktr_units); k_whole; intro w t9 h9 tk9 Hw F9 N9; (try dsimp only); (try k_fold)))
      | ((with_reducible show wpAny _ _ (eval (Expr.Call (Expr.Name _ _) _ _ _) _) _ _ _); (refine Call_ ?_); try dsimp only)
      | (k_unfold; (try dsimp only)) | (walk1; try dsimp only) | (dsimp only; walk1; try dsimp only) | (leave1; try dsimp only) | fail "no step"))
      all_goals (exfalso; omega))) only [↓held]
theorem c_gyear_pe (c : Int) (t_c t_m t_d : Tok) (n : Int) (hc : -3760 ≤ c) (hD : Due c (NY (c + 3760) + off (c + 3760) 1 + (15 - 1)) (NY (c + 3760 + 1) + off (c + 3760 + 1) 1 + (15 - 1)) n) : Cl w (hd.heap_39 w.params) p loose mean mg mb 120 14 [.int c t_c, .int 1 t_m, .int 15 t_d] (RetI (fun v => v = n)) := by
  refine of_held ?_
  simp (disch := k_dflt (
      dsimp only [Cl, RetI, PR]
      k_fill
      intro dp un gd cn cs a ccd cl outer A₀ base h₀ L m s Q E B F X T hk hd hu hret
      unfold Due at hD
      all_goals (
      refine wpAny_call ?_
      k_dflt (refine' enter0 [(Str.ofString "gregorianyear", Value.int c t_c), (Str.ofString "hebrew_month", Value.int 1 t_m), (Str.ofString "hebrew_day", Value.int 15 t_d)] ?k1 ?k2 ?k3 ?k5 ?kA ?kF ?kK ?k6 ?k7 ?k8 ?k9 ?kB ?_ ?c2 ?c3 ?c4 ?c5; (case kA => exact rfl); (case kF => exact rfl); (case kK => assumption); (case k1 => k_asm); (case k2 => k_asm); (case k3 => k_asm); (case k5 => k_asm); (case k6 => k_is); (case k7 => k_is); (case k8 => ktr_room); (case k9 => exact BindsTo.of_eq rfl); (case c5 => decide); (case kB => exact locs rfl); (case c2 => exact rfl); (case c3 => exact rfl); (case c4 => exact rfl); k_whole; intro L' h' F' N' B' X' T'; (try dsimp only); (try k_fold))
      repeat' (first
      | (refine endI hret (by k_asm) _ ?_; (have e := Hx.eq; omega))
      | ((with_reducible show wpAny _ _ (exec (Stmt.For (Expr.Name _ _) (Expr.Tuple _ _ _) _ _ _) _) _ _ _); (with_reducible refine For_unr s.heap ?_ (fun _ => (by with_unfolding_all rfl)) (by with_unfolding_all passes_own)))
      | ((with_reducible show LoopStep3 _ _ _ _ _ _ _ _ _ _); (rename News s.heap L' _ _ => N8); (with_unfolding_all refine LoopStep3.next (LoopStep2.intro (by assumption) (newsTail N8) (by rfl) ?_)))
      | ((with_reducible show wpAny _ _ (call (Value.ref 106) _) _ _ _); k_dflt (refine' useI (c_to_jd _ _ _ _ _ _ (by omega) (by omega) (by omega) (by omega) (by first | (intro h; exfalso; omega) | (intro h; exact hlp (by omega)))) ?k1 ?k2 ?k3 ?k4 ?k5 ?kK ?kd ?ku ?_; (case k1 => k_asm); (case k2 => k_asm); (case k3 => k_asm); (case k4 => k_asm); (case k5 => k_asm); (case kK => exact rfl); (case kd => ktr_room); (case ku => ktr_units); k_whole; intro v t9 h9 tk9 Hv F9 N9; (try dsimp only); (try k_fold)))
      | ((with_reducible show wpAny _ _ (call (Value.ref 50) _) _ _ _); k_dflt (refine' useT (c_from_jd_g _ _) ?k1 ?k2 ?k3 ?k4 ?k5 ?kK ?kd ?ku ?_; (case k1 => k_asm); (case k2 => k_asm); (case k3 => k_asm); (case k4 => k_asm); (case k5 => k_asm); (case kK => exact rfl); (case kd => ktr_room); (case ku => ktr_units); k_whole; intro x1 x2 x3 ta9 tb9 tc9 n9 D9 h9 tk9 Hx F9 N9 O9; (try dsimp only); (try k_fold)); have Ix := GS.iff Hx c)
      | ((with_reducible show wpAny _ _ (call (Value.ref 43) _) _ _ _); k_dflt (refine' useI (c_to_jd_g _ _ _ _ _ _ Hx.d1 Hx.d2) ?k1 ?k2 ?k3 ?k4 ?k5 ?kK ?kd ?ku ?_; (case k1 => k_asm); (case k2 => k_asm); (case k3 => k_asm); (case k4 => k_asm); (case k5 => k_asm); (case kK => exact rfl); (case kd => ktr_room); (case ku => ktr_units); k_whole; intro w t9 h9 tk9 Hw F9 N9; (try dsimp only); (try k_fold)))
      | ((with_reducible show wpAny _ _ (eval (Expr.Call (Expr.Name _ _) _ _ _) _) _ _ _); (refine Call_ ?_); try dsimp only)
      | (k_unfold; (try dsimp only)) | (walk1; try dsimp only) | (dsimp only; walk1; try dsimp only) | (leave1; try dsimp only) | fail "no step"))
      all_goals (exfalso; omega))) only [↓held]
theorem c_rosh_some (c : Int) (t_c : Tok) (n : Int) (hc : -3760 ≤ c) (hD : Due c (NY (c + 3760) + (1 - 1)) (NY (c + 3760 + 1) + (1 - 1)) n) : Cl w (hd.heap_39 w.params) p loose mean mg mb 135 16 [.int c t_c] (RetT (GS n)) := by
  refine of_held ?_
  simp (disch := k_dflt (
      dsimp only [Cl, RetT, PR]
      k_fill
      intro dp un gd cn cs a ccd cl outer A₀ base h₀ L m s Q E B F X T hk hd hu hret
      all_goals (
      refine wpAny_call ?_
      k_dflt (refine' enter0 [(Str.ofString "year", Value.int c t_c), (Str.ofString "eve", Value.none)] ?k1 ?k2 ?k3 ?k5 ?kA ?kF ?kK ?k6 ?k7 ?k8 ?k9 ?kB ?_ ?c2 ?c3 ?c4 ?c5; (case kA => exact rfl); (case kF => exact rfl); (case kK => assumption); (case k1 => k_asm); (case k2 => k_asm); (case k3 => k_asm); (case k5 => k_asm); (case k6 => k_is); (case k7 => k_is); (case k8 => ktr_room); (case k9 => first | exact BindsTo.of_eq rfl | exact binds_K (by k_in) rfl (by k_is) rfl rfl rfl); (case c5 => decide); (case kB => exact locs rfl); (case c2 => exact rfl); (case c3 => exact rfl); (case c4 => exact rfl); k_whole; intro L' h' F' N' B' X' T'; (try dsimp only); (try k_fold))
      repeat' (first
      | (refine endT hret (by k_asm) (by k_asm) (by k_mem) ?_; (subst Hv; assumption))
      | ((with_reducible show wpAny _ _ (call (Value.ref 120) _) _ _ _); k_dflt (refine' useI (c_gyear_ny _ _ _ _ n hc hD) ?k1 ?k2 ?k3 ?k4 ?k5 ?kK ?kd ?ku ?_; (case k1 => k_asm); (case k2 => k_asm); (case k3 => k_asm); (case k4 => k_asm); (case k5 => k_asm); (case kK => exact rfl); (case kd => ktr_room); (case ku => ktr_units); k_whole; intro v t9 h9 tk9 Hv F9 N9; (try dsimp only); (try k_fold)))
      | ((with_reducible show wpAny _ _ (call (Value.ref 50) _) _ _ _); k_dflt (refine' useT (c_from_jd_g _ _) ?k1 ?k2 ?k3 ?k4 ?k5 ?kK ?kd ?ku ?_; (case k1 => k_asm); (case k2 => k_asm); (case k3 => k_asm); (case k4 => k_asm); (case k5 => k_asm); (case kK => exact rfl); (case kd => ktr_room); (case ku => ktr_units); k_whole; intro x1 x2 x3 ta9 tb9 tc9 n9 D9 h9 tk9 Hx F9 N9 O9; (try dsimp only); (try k_fold)))
      | ((with_reducible show wpAny _ _ (eval (Expr.Call (Expr.Name _ _) _ _ _) _) _ _ _); (refine Call_ ?_); try dsimp only)
      | (k_unfold; (try dsimp only)) | (walk1; try dsimp only) | (dsimp only; walk1; try dsimp only) | (leave1; try dsimp only) | fail "no step")))) only [↓held]

theorem c_opening_some (c : Int) (t_c : Tok) (n : Int) (hc : -3760 ≤ c) (hD : Due c (NY (c + 3760) + (1 - 1)) (NY (c + 3760 + 1) + (1 - 1)) n) : Cl w (hd.heap_39 w.params) p loose mean mg mb 218 18 [.int c t_c] (RetT (GS n)) := by
  refine of_held ?_
  simp (disch := k_dflt (
      dsimp only [Cl, RetT, PR]
      k_fill
      intro dp un gd cn cs a ccd cl outer A₀ base h₀ L m s Q E B F X T hk hd hu hret
      all_goals (
      refine wpAny_call ?_
      k_dflt (refine' enter0 [(Str.ofString "civil", Value.int c t_c)] ?k1 ?k2 ?k3 ?k5 ?kA ?kF ?kK ?k6 ?k7 ?k8 ?k9 ?kB ?_ ?c2 ?c3 ?c4 ?c5; (case kA => exact rfl); (case kF => exact rfl); (case kK => assumption); (case k1 => k_asm); (case k2 => k_asm); (case k3 => k_asm); (case k5 => k_asm); (case k6 => k_is); (case k7 => k_is); (case k8 => ktr_room); (case k9 => first | exact BindsTo.of_eq rfl | exact binds_K (by k_in) rfl (by k_is) rfl rfl rfl); (case c5 => decide); (case kB => exact locs rfl); (case c2 => exact rfl); (case c3 => exact rfl); (case c4 => exact rfl); k_whole; intro L' h' F' N' B' X' T'; (try dsimp only); (try k_fold))
      repeat' (first
      | (refine endT hret (by k_asm) (by k_asm) (by k_mem) ?_; (assumption))
      | ((with_reducible show wpAny _ _ (call (Value.ref 135) _) _ _ _); k_dflt (refine' useT (c_rosh_some _ _ n hc hD) ?k1 ?k2 ?k3 ?k4 ?k5 ?kK ?kd ?ku ?_; (case k1 => k_asm); (case k2 => k_asm); (case k3 => k_asm); (case k4 => k_asm); (case k5 => k_asm); (case kK => exact rfl); (case kd => ktr_room); (case ku => ktr_units); k_whole; intro x1 x2 x3 ta9 tb9 tc9 n9 D9 h9 tk9 Hx F9 N9 O9; (try dsimp only); (try k_fold)))
      | ((with_reducible show wpAny _ _ (eval (Expr.Call (Expr.Name _ _) _ _ _) _) _ _ _); (refine Call_ ?_); try dsimp only)
      | (k_unfold; (try dsimp only)) | (walk1; try dsimp only) | (dsimp only; walk1; try dsimp only) | (leave1; try dsimp only) | fail "no step")))) only [↓held]
theorem c_passover_some (c : Int) (t_c : Tok) (n : Int) (hc : -3760 ≤ c) (hD : Due c (NY (c + 3760) + off (c + 3760) 1 + (15 - 1)) (NY (c + 3760 + 1) + off (c + 3760 + 1) 1 + (15 - 1)) n) : Cl w (hd.heap_39 w.params) p loose mean mg mb 143 16 [.int c t_c] (RetT (GS n)) := by
  refine of_held ?_
  simp (disch := k_dflt (
      dsimp only [Cl, RetT, PR]
      k_fill
      intro dp un gd cn cs a ccd cl outer A₀ base h₀ L m s Q E B F X T hk hd hu hret
      all_goals (
      refine wpAny_call ?_
      k_dflt (refine' enter0 [(Str.ofString "year", Value.int c t_c), (Str.ofString "eve", Value.none)] ?k1 ?k2 ?k3 ?k5 ?kA ?kF ?kK ?k6 ?k7 ?k8 ?k9 ?kB ?_ ?c2 ?c3 ?c4 ?c5; (case kA => exact rfl); (case kF => exact rfl); (case kK => assumption); (case k1 => k_asm); (case k2 => k_asm); (case k3 => k_asm); (case k5 => k_asm); (case k6 => k_is); (case k7 => k_is); (case k8 => ktr_room); (case k9 => first | exact BindsTo.of_eq rfl | exact binds_K (by k_in) rfl (by k_is) rfl rfl rfl); (case c5 => decide); (case kB => exact locs rfl); (case c2 => exact rfl); (case c3 => exact rfl); (case c4 => exact rfl); k_whole; intro L' h' F' N' B' X' T'; (try dsimp only); (try k_fold))
      repeat' (first
      | (refine endT hret (by k_asm) (by k_asm) (by k_mem) ?_; (subst Hv; assumption))
      | ((with_reducible show wpAny _ _ (call (Value.ref 120) _) _ _ _); k_dflt (refine' useI (c_gyear_pe _ _ _ _ n hc hD) ?k1 ?k2 ?k3 ?k4 ?k5 ?kK ?kd ?ku ?_; (case k1 => k_asm); (case k2 => k_asm); (case k3 => k_asm); (case k4 => k_asm); (case k5 => k_asm); (case kK => exact rfl); (case kd => ktr_room); (case ku => ktr_units); k_whole; intro v t9 h9 tk9 Hv F9 N9; (try dsimp only); (try k_fold)))
      | ((with_reducible show wpAny _ _ (call (Value.ref 50) _) _ _ _); k_dflt (refine' useT (c_from_jd_g _ _) ?k1 ?k2 ?k3 ?k4 ?k5 ?kK ?kd ?ku ?_; (case k1 => k_asm); (case k2 => k_asm); (case k3 => k_asm); (case k4 => k_asm); (case k5 => k_asm); (case kK => exact rfl); (case kd => ktr_room); (case ku => ktr_units); k_whole; intro x1 x2 x3 ta9 tb9 tc9 n9 D9 h9 tk9 Hx F9 N9 O9; (try dsimp only); (try k_fold)))
      | ((with_reducible show wpAny _ _ (eval (Expr.Call (Expr.Name _ _) _ _ _) _) _ _ _); (refine Call_ ?_); try dsimp only)
      | (k_unfold; (try dsimp only)) | (walk1; try dsimp only) | (dsimp only; walk1; try dsimp only) | (leave1; try dsimp only) | fail "no step")))) only [↓held]

theorem c_feast_some (c : Int) (t_c : Tok) (n : Int) (hc : -3760 ≤ c) (hD : Due c (NY (c + 3760) + off (c + 3760) 1 + (15 - 1)) (NY (c + 3760 + 1) + off (c + 3760 + 1) 1 + (15 - 1)) n) : Cl w (hd.heap_39 w.params) p loose mean mg mb 225 18 [.int c t_c] (RetT (GS n)) := by
  refine of_held ?_
  simp (disch := k_dflt (
      dsimp only [Cl, RetT, PR]
      k_fill
      intro dp un gd cn cs a ccd cl outer A₀ base h₀ L m s Q E B F X T hk hd hu hret
      all_goals (
      refine wpAny_call ?_
      k_dflt (refine' enter0 [(Str.ofString "civil", Value.int c t_c)] ?k1 ?k2 ?k3 ?k5 ?kA ?kF ?kK ?k6 ?k7 ?k8 ?k9 ?kB ?_ ?c2 ?c3 ?c4 ?c5; (case kA => exact rfl); (case kF => exact rfl); (case kK => assumption); (case k1 => k_asm); (case k2 => k_asm); (case k3 => k_asm); (case k5 => k_asm); (case k6 => k_is); (case k7 => k_is); (case k8 => ktr_room); (case k9 => first | exact BindsTo.of_eq rfl | exact binds_K (by k_in) rfl (by k_is) rfl rfl rfl); (case c5 => decide); (case kB => exact locs rfl); (case c2 => exact rfl); (case c3 => exact rfl); (case c4 => exact rfl); k_whole; intro L' h' F' N' B' X' T'; (try dsimp only); (try k_fold))
      repeat' (first
      | (refine endT hret (by k_asm) (by k_asm) (by k_mem) ?_; (assumption))
      | ((with_reducible show wpAny _ _ (call (Value.ref 143) _) _ _ _); k_dflt (refine' useT (c_passover_some _ _ n hc hD) ?k1 ?k2 ?k3 ?k4 ?k5 ?kK ?kd ?ku ?_; (case k1 => k_asm); (case k2 => k_asm); (case k3 => k_asm); (case k4 => k_asm); (case k5 => k_asm); (case kK => exact rfl); (case kd => ktr_room); (case ku => ktr_units); k_whole; intro x1 x2 x3 ta9 tb9 tc9 n9 D9 h9 tk9 Hx F9 N9 O9; (try dsimp only); (try k_fold)))
      | ((with_reducible show wpAny _ _ (eval (Expr.Call (Expr.Name _ _) _ _ _) _) _ _ _); (refine Call_ ?_); try dsimp only)
      | (k_unfold; (try dsimp only)) | (walk1; try dsimp only) | (dsimp only; walk1; try dsimp only) | (leave1; try dsimp only) | fail "no step")))) only [↓held]
theorem c_plain (D : Addr) (a1 b1 c1 : Int) (ta tb tc : Tok) (n : Nat)  : ClD w (hd.heap_39 w.params) p loose mean mg mb D (tup3 a1 b1 c1 ta tb tc n) 204 4 [.ref D] (RetB (fun v => v = true)) := by
  refine of_held ?_
  simp (disch := k_dflt (
      dsimp only [ClD, RetB, PR]
      k_fill
      intro dp un gd cn cs a ccd cl outer A₀ base h₀ L m s Q E B F X N T hk hd hu hret
      have hDD := (N _ (List.Mem.head _)).1
      all_goals (
      refine wpAny_call ?_
      k_dflt (refine' enterD [(Str.ofString "row", Value.ref D)] ?k1 ?k2 ?k3 ?k4 ?k5 ?kA ?kF ?kK ?k6 ?k7 ?k8 ?k9 ?kB ?_ ?c2 ?c3 ?c4 ?c5; (case kA => exact rfl); (case kF => exact rfl); (case kK => assumption); (case k1 => k_asm); (case k2 => k_asm); (case k3 => k_asm); (case k4 => assumption); (case k5 => k_asm); (case k6 => k_is); (case k7 => k_is); (case k8 => ktr_room); (case k9 => first | exact BindsTo.of_eq rfl | exact binds_K (by k_in) rfl (by k_is) rfl rfl rfl); (case c5 => decide); (case kB => exact locs rfl); (case c2 => exact rfl); (case c3 => exact rfl); (case c4 => exact rfl); k_whole; intro g' L' h' W' F' N' B' X' T'; (try dsimp only); (try k_fold))
      repeat' (first
      | fail
      | (refine endBD hret (by assumption) (by assumption) (by k_asm) (by k_asm) (by k_mem) _ ?_; rfl)
      | ((with_reducible show Keeps _ _); exact ⟨_, _, rfl, fun _ _ e => e⟩)
      | ((with_reducible show wpAny _ _ (pyIter _) (CompPost _ _ _ _ _ _ _ _ _) _ _); (rename Fr _ _ _ _ => F8); (rename News _ _ _ _ => N8);
          refine comp_tup (vs := [.int a1 ta, .int b1 tb, .int c1 tc]) rfl F8 N8 (List.Mem.head _) ⟨_, (N8 _ (List.Mem.head _)).1, rfl, _, rfl⟩ ?_ ?_ ?_;
          (case' refine_1 => (intro C9 v9 s9 m9 E9 hv9 hn9 hx9 kp9; (obtain ⟨i9, u9, rfl⟩ : ∃ i u, v9 = Value.int i u := (by simp only [List.mem_cons, List.not_mem_nil, or_false] at hv9; rcases hv9 with rfl | rfl | rfl <;> exact ⟨_, _, rfl⟩)); clear hv9; refine tests_one ?_; clear F8 N8; (try dsimp only)));
          (case refine_2 => (intro C9 v9 s9 m9 E9 hv9 hn9 hx9 kp9; refine cname_own hn9 hx9 ⟨rfl, ?_⟩; exact ⟨_, _, rfl, fun _ _ e => e⟩));
          (case' refine_3 => (intro D9 k9 h9 tk9 F9 N9 O9; clear F8 N8; (try dsimp only))))
      | ((with_reducible show wpAny _ _ (eval (Expr.Name _ _) (compEnv _ _ _)) _ _ _); k_dflt (first
          | refine cname_own (by assumption) (by assumption) ?_
          | refine cname_built (by assumption) (by k_asm) (by k_asm) (by k_is) (by boot_by_name) (by decide) ?_))
      | ((with_reducible show wpAny _ _ (eval (Expr.Call (Expr.Name _ _) _ _ _) _) _ _ _); (refine Call_ ?_); try dsimp only)
      | (k_unfold; (try dsimp only)) | (walk1; try dsimp only) | (dsimp only; walk1; try dsimp only) | (leave1; try dsimp only) | fail "no step")))) only [↓held]
theorem c_due_some (D : Addr) (a b : Int) (ta tb : Tok) (k : Nat) (c : Int) (t_c : Tok) (n : Int) (hD : Due c a b n) : ClD w (hd.heap_39 w.params) p loose mean mg mb D (W.listOf #[.int a ta, .int b tb] k) 211 8 [.ref D, .int c t_c] (RetI (fun v => v = n)) := by
  refine of_held ?_
  simp (disch := k_dflt (
      dsimp only [ClD, RetI, PR]
      k_fill
      intro dp un gd cn cs a ccd cl outer A₀ base h₀ L m s Q E B F X N T hk hd hu hret
      unfold Due at hD
      have hDD := (N _ (List.Mem.head _)).1
      all_goals (
      refine wpAny_call ?_
      k_dflt (refine' enterD [(Str.ofString "tries", Value.ref D), (Str.ofString "civil", Value.int c t_c)] ?k1 ?k2 ?k3 ?k4 ?k5 ?kA ?kF ?kK ?k6 ?k7 ?k8 ?k9 ?kB ?_ ?c2 ?c3 ?c4 ?c5; (case kA => exact rfl); (case kF => exact rfl); (case kK => assumption); (case k1 => k_asm); (case k2 => k_asm); (case k3 => k_asm); (case k4 => assumption); (case k5 => k_asm); (case k6 => k_is); (case k7 => k_is); (case k8 => ktr_room); (case k9 => first | exact BindsTo.of_eq rfl | exact binds_K (by k_in) rfl (by k_is) rfl rfl rfl); (case c5 => decide); (case kB => exact locs rfl); (case c2 => exact rfl); (case c3 => exact rfl); (case c4 => exact rfl); k_whole; intro g' L' h' W' F' N' B' X' T'; (try dsimp only); (try k_fold))
      repeat' (first
      | fail
      | (refine endID hret (by assumption) (by assumption) (by k_asm) (by k_asm) (by k_mem) _ (by omega))
      | ((with_reducible show wpAny _ _ (exec (Stmt.For _ _ _ _ _) _) _ _ _); (rename Fr _ _ _ _ => F8); (with_reducible refine For_unrX F8 ?_ (fun _ => (by with_unfolding_all rfl)) (by with_unfolding_all passes_own)))
      | ((with_reducible show LoopStep3 _ _ _ _ _ _ _ _ _ _); (rename News _ _ _ _ => N8); (with_unfolding_all refine LoopStep3.next (LoopStep2.intro (by assumption) (newsTail N8) (by rfl) ?_)))
      | ((with_reducible show wpAny _ _ (call (Value.ref 192) _) _ _ _); k_dflt (refine' useI (c_january _ _) ?k1 ?k2 ?k3 ?k4 ?k5 ?kK ?kd ?ku ?_; (case k1 => k_asm); (case k2 => k_asm); (case k3 => k_asm); (case k4 => k_asm); (case k5 => k_asm); (case kK => exact rfl); (case kd => ktr_room); (case ku => ktr_units); k_whole; intro v t9 h9 tk9 Hv F9 N9; (try dsimp only); (try k_fold)))
      | ((with_reducible show wpAny _ _ (eval (Expr.Call (Expr.Name _ _) _ _ _) _) _ _ _); (refine Call_ ?_); try dsimp only)
      | (k_unfold; (try dsimp only)) | (walk1; try dsimp only) | (dsimp only; walk1; try dsimp only) | (leave1; try dsimp only) | fail "no step"))
      all_goals (exfalso; omega))) only [↓held]

theorem c_due_none (D : Addr) (a b : Int) (ta tb : Tok) (k : Nat) (c : Int) (t_c : Tok) (hD : NoDue c a b) : ClD w (hd.heap_39 w.params) p loose mean mg mb D (W.listOf #[.int a ta, .int b tb] k) 211 8 [.ref D, .int c t_c] (RetN) := by
  refine of_held ?_
  simp (disch := k_dflt (
      dsimp only [ClD, RetN, PR]
      k_fill
      intro dp un gd cn cs a ccd cl outer A₀ base h₀ L m s Q E B F X N T hk hd hu hret
      unfold NoDue at hD
      have hDD := (N _ (List.Mem.head _)).1
      all_goals (
      refine wpAny_call ?_
      k_dflt (refine' enterD [(Str.ofString "tries", Value.ref D), (Str.ofString "civil", Value.int c t_c)] ?k1 ?k2 ?k3 ?k4 ?k5 ?kA ?kF ?kK ?k6 ?k7 ?k8 ?k9 ?kB ?_ ?c2 ?c3 ?c4 ?c5; (case kA => exact rfl); (case kF => exact rfl); (case kK => assumption); (case k1 => k_asm); (case k2 => k_asm); (case k3 => k_asm); (case k4 => assumption); (case k5 => k_asm); (case k6 => k_is); (case k7 => k_is); (case k8 => ktr_room); (case k9 => first | exact BindsTo.of_eq rfl | exact binds_K (by k_in) rfl (by k_is) rfl rfl rfl); (case c5 => decide); (case kB => exact locs rfl); (case c2 => exact rfl); (case c3 => exact rfl); (case c4 => exact rfl); k_whole; intro g' L' h' W' F' N' B' X' T'; (try dsimp only); (try k_fold))
      repeat' (first
      | fail
      | (refine endND hret (by assumption) (by assumption) (by k_asm) (by k_asm) (by k_mem) )
      | ((with_reducible show wpAny _ _ (exec (Stmt.For _ _ _ _ _) _) _ _ _); (rename Fr _ _ _ _ => F8); (with_reducible refine For_unrX F8 ?_ (fun _ => (by with_unfolding_all rfl)) (by with_unfolding_all passes_own)))
      | ((with_reducible show LoopStep3 _ _ _ _ _ _ _ _ _ _); (rename News _ _ _ _ => N8); (with_unfolding_all refine LoopStep3.next (LoopStep2.intro (by assumption) (newsTail N8) (by rfl) ?_)))
      | ((with_reducible show wpAny _ _ (call (Value.ref 192) _) _ _ _); k_dflt (refine' useI (c_january _ _) ?k1 ?k2 ?k3 ?k4 ?k5 ?kK ?kd ?ku ?_; (case k1 => k_asm); (case k2 => k_asm); (case k3 => k_asm); (case k4 => k_asm); (case k5 => k_asm); (case kK => exact rfl); (case kd => ktr_room); (case ku => ktr_units); k_whole; intro v t9 h9 tk9 Hv F9 N9; (try dsimp only); (try k_fold)))
      | ((with_reducible show wpAny _ _ (eval (Expr.Call (Expr.Name _ _) _ _ _) _) _ _ _); (refine Call_ ?_); try dsimp only)
      | (k_unfold; (try dsimp only)) | (walk1; try dsimp only) | (dsimp only; walk1; try dsimp only) | (leave1; try dsimp only) | fail "no step"))
      all_goals (exfalso; omega))) only [↓held]
theorem c_stands_some (D : Addr) (a1 b1 c1 : Int) (ta tb tc : Tok) (n : Nat) (d : Int) (t_d : Tok) (hG : GS d a1 b1 c1) : ClD w (hd.heap_39 w.params) p loose mean mg mb D (tup3 a1 b1 c1 ta tb tc n) 232 10 [.ref D, .int d t_d] (RetB (fun v => v = true)) := by
  refine of_held ?_
  simp (disch := k_dflt (
      dsimp only [ClD, RetB, PR]
      k_fill
      intro dp un gd cn cs a ccd cl outer A₀ base h₀ L m s Q E B F X N T hk hd hu hret
      have hDD := (N _ (List.Mem.head _)).1
      all_goals (
      refine wpAny_call ?_
      k_dflt (refine' enterD [(Str.ofString "got", Value.ref D), (Str.ofString "due", Value.int d t_d)] ?k1 ?k2 ?k3 ?k4 ?k5 ?kA ?kF ?kK ?k6 ?k7 ?k8 ?k9 ?kB ?_ ?c2 ?c3 ?c4 ?c5; (case kA => exact rfl); (case kF => exact rfl); (case kK => assumption); (case k1 => k_asm); (case k2 => k_asm); (case k3 => k_asm); (case k4 => assumption); (case k5 => k_asm); (case k6 => k_is); (case k7 => k_is); (case k8 => ktr_room); (case k9 => first | exact BindsTo.of_eq rfl | exact binds_K (by k_in) rfl (by k_is) rfl rfl rfl); (case c5 => decide); (case kB => exact locs rfl); (case c2 => exact rfl); (case c3 => exact rfl); (case c4 => exact rfl); k_whole; intro g' L' h' W' F' N' B' X' T'; (try dsimp only); (try k_fold))
      repeat' (first
      | fail
      | (refine endBD hret (by assumption) (by assumption) (by k_asm) (by k_asm) (by k_mem) _ ?_; first | rfl | decide | simp)
      | ((with_reducible show wpAny _ _ (call (Value.ref 204) _) _ _ _); k_dflt (refine' useBD (c_plain _ _ _ _ _ _ _ _) ?k1 ?k2 ?k3 ?k4 ?k5 ?km ?kK ?kd ?ku ?_; (case k1 => k_asm); (case k2 => k_asm); (case k3 => k_asm); (case k4 => k_asm); (case k5 => k_asm); (case km => k_mem); (case kK => exact rfl); (case kd => ktr_room); (case ku => ktr_units); k_whole; intro v h9 tk9 Hv F9 N9; (try dsimp only); (try k_fold)); subst Hv)
      | ((with_reducible show wpAny _ _ (call (Value.ref 199) _) _ _ _); k_dflt (refine' useT (c_civil _ _) ?k1 ?k2 ?k3 ?k4 ?k5 ?kK ?kd ?ku ?_; (case k1 => k_asm); (case k2 => k_asm); (case k3 => k_asm); (case k4 => k_asm); (case k5 => k_asm); (case kK => exact rfl); (case kd => ktr_room); (case ku => ktr_units); k_whole; intro x1 x2 x3 ta9 tb9 tc9 n9 D9 h9 tk9 Hx F9 N9 O9; (try dsimp only); (try k_fold)); (obtain ⟨e1, e2, e3⟩ := GS.uniq hG Hx); subst e1 e2 e3)
      | ((with_reducible show wpAny _ _ (eval (Expr.Call (Expr.Name _ _) _ _ _) _) _ _ _); (refine Call_ ?_); try dsimp only)
      | (k_unfold; (try dsimp only)) | (walk1; try dsimp only) | (dsimp only; walk1; try dsimp only) | (leave1; try dsimp only) | fail "no step")))) only [↓held]

theorem c_stands_none (t_r : Tok)  : Cl w (hd.heap_39 w.params) p loose mean mg mb 232 2 [.str (Str.ofString "refused") t_r, .none] (RetB (fun v => v = true)) := by
  refine of_held ?_
  simp (disch := k_dflt (
      dsimp only [Cl, RetB, PR]
      k_fill
      intro dp un gd cn cs a ccd cl outer A₀ base h₀ L m s Q E B F X T hk hd hu hret
      all_goals (
      refine wpAny_call ?_
      k_dflt (refine' enter0 [(Str.ofString "got", .str (Str.ofString "refused") t_r), (Str.ofString "due", .none)] ?k1 ?k2 ?k3 ?k5 ?kA ?kF ?kK ?k6 ?k7 ?k8 ?k9 ?kB ?_ ?c2 ?c3 ?c4 ?c5; (case kA => exact rfl); (case kF => exact rfl); (case kK => assumption); (case k1 => k_asm); (case k2 => k_asm); (case k3 => k_asm); (case k5 => k_asm); (case k6 => k_is); (case k7 => k_is); (case k8 => ktr_room); (case k9 => first | exact BindsTo.of_eq rfl | exact binds_K (by k_in) rfl (by k_is) rfl rfl rfl); (case c5 => decide); (case kB => exact locs rfl); (case c2 => exact rfl); (case c3 => exact rfl); (case c4 => exact rfl); k_whole; intro L' h' F' N' B' X' T'; (try dsimp only); (try k_fold))
      repeat' (first
      | (refine endB hret (by k_asm) _ ?_; (first | rfl | decide | simp))
      | ((with_reducible show wpAny _ _ (eval (Expr.Call (Expr.Name _ _) _ _ _) _) _ _ _); (refine Call_ ?_); try dsimp only)
      | (k_unfold; (try dsimp only)) | (walk1; try dsimp only) | (dsimp only; walk1; try dsimp only) | (leave1; try dsimp only) | fail "no step")))) only [↓held]
theorem due_eq {c a b n a2 b2 : Int} (h : Due c a b n) (ha : a2 = a) (hb : b2 = b) : Due c a2 b2 n := by subst ha hb; exact h
theorem noDue_eq {c a b a2 b2 : Int} (h : NoDue c a b) (ha : a2 = a) (hb : b2 = b) : NoDue c a2 b2 := by subst ha hb; exact h
theorem fm_low (a x : Int) (h : -3760 ≤ a) : -3760 ≤ a + x.fmod 13000 := by
  have := Int.fmod_nonneg_of_pos x (b := 13000) (by omega)
  omega
theorem c_from_jd (j : Int) (t_j : Tok) (Y M d : Int) (hY : 1 ≤ Y) (hj : j = NY Y + off Y M + (d - 1)) (hd1 : 1 ≤ d) (hd2 : d ≤ ml Y M) (hM : 7 ≤ M ∧ M ≤ 13 ∨ 1 ≤ M ∧ M ≤ 6) (hlp : M = 13 → leapF Y = true) :
    Cl w (hd.heap_39 w.params) p loose mean mg mb 113 11 [.int j t_j] (RetT (fun a b c => a = Y ∧ b = M ∧ c = d)) := by
  rcases hM with ⟨h1, h2⟩ | ⟨h1, h2⟩
  · exact c_from_jd_a j t_j Y M d hY hj hd1 hd2 h1 h2 hlp
  · exact c_from_jd_b j t_j Y M d hY hj hd1 hd2 h1 h2 hlp

theorem law_holds : PySem.Challenge.rw_vp0006_01.Holds := by
  refine of_held ?_
  simp (disch := k_dflt (
      refine hd ?_
      w_on
      k_go0
      all_goals try k_fold
      repeat' ((fail_if_success (with_reducible show wpAny _ _ (exec (Stmt.For _ _ _ _ _) _) _ _ _)); first
      | ((with_reducible show wpAny _ _ (storeName _ (Str.ofString "year") (Value.int (_ + _) _)) _ _ _); (refine store_gen ?_); intro Y hY0; have hY : 1 ≤ Y := (by rw [hY0.out]; split <;> omega); clear hY0)
      | ((with_reducible show wpAny _ _ (storeName _ (Str.ofString "first") (Value.int (_ + _) _)) _ _ _); (refine store_gen ?_); intro f9 hf0; have hf : f9 = NY Y := (by have e := hf0.out; have e1 : Y - 1 + 1 = Y := (by omega); rw [e1] at Hv; omega); clear hf0 Hv)
      | ((with_reducible show wpAny _ _ (storeName _ (Str.ofString "size") (Value.int (_ - _) _)) _ _ _); (refine store_gen ?_); intro z9 hz0; have hz : z9 = sz Y := (by have e := hz0.out; unfold sz; omega); clear hz0 Hv; have hzb := sz_bounds Y)
      | ((with_reducible show wpAny _ _ (storeName _ (Str.ofString "left") (Value.int (Int.fmod _ _) _)) _ _ _); (refine store_gen ?_); intro l9 hl0; have hl1 : 0 ≤ l9 := (by rw [hl0.out]; exact Int.fmod_nonneg_of_pos _ (by omega)); have hl2 : l9 < z9 := (by rw [hl0.out]; exact Int.fmod_lt_of_pos _ (by omega)); clear hl0)
      | ((with_reducible show wpAny _ _ (call (Value.ref 171) _) _ _ _); k_dflt (refine' useI (c_spring _ _) ?k1 ?k2 ?k3 ?k4 ?k5 ?kK ?kd ?ku ?_; (case k1 => k_asm); (case k2 => k_asm); (case k3 => k_asm); (case k4 => k_asm); (case k5 => k_asm); (case kK => exact rfl); (case kd => ktr_room); (case ku => ktr_units); k_whole; intro v t9 h9 tk9 Hv F9 N9; (try dsimp only); (try k_fold)))
      | ((with_reducible show wpAny _ _ (eval (Expr.Call (Expr.Name _ _) _ _ _) _) _ _ _); (refine Call_ ?_))
      | ((with_reducible show wpAny _ _ (execs _ _) _ _ _); dsimp only; walk1)
      | (k_unfold; (try dsimp only)) | walk1 | (dsimp only; walk1) | (leave1; try dsimp only) | fail "no step")
      (rename Fr _ _ _ _ => F9)
      (rename News _ _ _ _ => N9)
      refine cutFor F9 N9 (fun mo r => (7 ≤ mo ∧ mo ≤ 13 ∨ 1 ≤ mo ∧ mo ≤ 6) ∧ (mo = 13 → leapF Y = true) ∧ off Y mo + r = l9 ∧ 0 ≤ r ∧ r < ml Y mo) ?_ ?_
      · obtain ⟨o7, o8, o9, o10, o11, o12, o13, o1, o1l, o2, o3, o4, o5, o6, oe, o13l, o1n⟩ := offs Y
        obtain ⟨u1, u2, u3, u4, u5, u6, u7, u10, u11, u13⟩ := ml_num Y
        have u12 := ml12 Y
        have u89 := ml89 Y
        have hzs : (leapF Y = false ∧ 353 ≤ z9 ∧ z9 ≤ 355) ∨ (leapF Y = true ∧ 383 ≤ z9 ∧ z9 ≤ 385) := by
          rcases sz_cases Y with ⟨hl, hs | hs | hs⟩ | ⟨hl, hs | hs | hs⟩ <;> first | exact .inl ⟨hl, by omega, by omega⟩ | exact .inr ⟨hl, by omega, by omega⟩
        rcases hzs with ⟨hl, hs1, hs2⟩ | ⟨hl, hs1, hs2⟩
        all_goals (
          rw [hl] at u12
          simp only [if_true, if_false, Bool.false_eq_true, reduceCtorEq, forall_const, false_implies] at u12
          (try have q13 := o13l hl)
          (try have q1 := o1l hl)
          (try have q1n := o1n hl)
          clear o13l o1l o1n
          repeat' (first
      | (refine ⟨rfl, _, _, _, _, _, _, _, _, rfl, fr_cong (by k_asm) (by (intro x; by_cases x0 : x = Str.ofString "left"; (case pos => (subst x0; with_unfolding_all rfl)); by_cases x1 : x = Str.ofString "length"; (case pos => (subst x1; with_unfolding_all rfl)); by_cases x2 : x = Str.ofString "month"; (case pos => (subst x2; with_unfolding_all rfl)); simp only [if_neg x0, if_neg x1, if_neg x2])), cb_drop (by k_asm) (by kcj_all), ?_⟩; exact ⟨by omega, by (intro h; first | exact hl | (exfalso; omega)), by omega, by omega, by omega⟩)
      | ((with_reducible show wpAny _ _ (exec (Stmt.For _ _ _ _ _) _) _ _ _); (rename Fr _ _ _ _ => F8); (with_reducible refine For_unrX F8 ?_ (fun _ => (by with_unfolding_all rfl)) (by with_unfolding_all passes_own)))
      | ((with_reducible show wpAny _ _ (inplaceOp Operator.Add (Value.ref _) (Value.ref _)) _ _ _); k_dflt (refine' iadd_K ?iaF ?iaN ?iaB ?iaU ?iaE ?_ ?iaZ; (case iaF => k_asm); (case iaN => k_asm); (case iaB => k_mem); (case iaU => k_upd); (case iaE => exact List.cons_ne_nil _ _); (case iaZ => first | size_fits | (simp only [List.length_cons, List.length_nil]; decide)); k_whole); intro h' F' N')
      | ((with_reducible show wpAny _ _ (storeName _ (Str.ofString "rest") (Value.int (Int.fmod _ _) _)) _ _ _); (refine store_gen ?_); intro r9 hr9; (have e9 : r9 = sz Y % 10 := (by rw [hr9.out, fm (by omega), hz])); rw [← e9] at u89; clear hr9 e9)
      | ((with_reducible show wpAny _ _ (eval (Expr.IfExp (Expr.Compare _ _ [Expr.Constant (Const.int 5) _ _] _) _ _ _) _) _ _ _); (fail_if_success (have zz := h89)); refine cutE (fun c => c = ml Y 8) ?_ ?_; (case' refine_1 => have h89 := True.intro); (case' refine_2 => (intro l8 u8 k8 h8; (try dsimp only); (try k_fold))))
      | ((with_reducible show wpAny _ _ (eval (Expr.IfExp (Expr.Compare _ _ [Expr.Constant (Const.int 3) _ _] _) _ _ _) _) _ _ _); (fail_if_success (have zz := h99)); refine cutE (fun c => c = ml Y 9) ?_ ?_; (case' refine_1 => have h99 := True.intro); (case' refine_2 => (intro l9 u9 k9 h9; (try dsimp only); (try k_fold))))
      | (refine ⟨_, _, _, rfl, rfl, ?_⟩; omega)
      | ((with_reducible show wpAny _ _ (eval (Expr.Call (Expr.Name _ _) _ _ _) _) _ _ _); (refine Call_ ?_))
      | ((with_reducible show wpAny _ _ (execs _ _) _ _ _); dsimp only; walk1)
      | (k_unfold; (try dsimp only)) | walk1 | (dsimp only; walk1) | (leave1; try dsimp only) | fail "no step")
          all_goals (exfalso; omega))
      · intro h' tk' mo r ln t1 t2 t3 hfacts F' N'
        obtain ⟨hm, hlp, hoff, hr0, hr1⟩ := hfacts
        clear F9 N9
        (try dsimp only)
        refine cutTail F' ?_ ?_
        · intro h9 tk9 m9 F9
          clear F'
          kc_close
        · intro QQ hfin
          (rename Dflts _ _ _ _ _ _ => zz7; clear zz7); (rename Heap.CodeRec _ _ _ => zz7; clear zz7); (repeat ((rename Value → Shared → Prop => zz7); clear zz7))
          repeat' ((fail_if_success (with_reducible show wpAny _ _ (exec (Stmt.If _ [Stmt.Assign [Expr.Name (Str.ofString "civil") _] _ _] _ _) _) _ _ _)); first
      | (exact hfin _ _ _ (by k_asm))
      | ((with_reducible show wpAny _ _ (exec (Stmt.Return (some (Expr.Constant (Const.bool false) _ _)) _) _) _ _ _); exfalso; omega)
      | ((with_reducible show wpAny _ _ (call (Value.ref 106) _) _ _ _); k_dflt (refine' useI (c_to_jd _ _ _ _ _ _ (by omega) (by omega) (by omega) (by omega) hlp) ?k1 ?k2 ?k3 ?k4 ?k5 ?kK ?kd ?ku ?_; (case k1 => k_asm); (case k2 => k_asm); (case k3 => k_asm); (case k4 => k_asm); (case k5 => k_asm); (case kK => exact rfl); (case kd => ktr_room); (case ku => ktr_units); k_whole; intro vj t9 h9 tk9 Hvj F9 N9; (try dsimp only); (try k_fold)))
      | ((with_reducible show wpAny _ _ (call (Value.ref 85) _) _ _ _); k_dflt (refine' useI (c_year_days _ _ (by omega)) ?k1 ?k2 ?k3 ?k4 ?k5 ?kK ?kd ?ku ?_; (case k1 => k_asm); (case k2 => k_asm); (case k3 => k_asm); (case k4 => k_asm); (case k5 => k_asm); (case kK => exact rfl); (case kd => ktr_room); (case ku => ktr_units); k_whole; intro vd t9 h9 tk9 Hvd F9 N9; (try dsimp only); (try k_fold)))
      | ((with_reducible show wpAny _ _ (storeName _ (Str.ofString "turn") (Value.int (Int.fmod _ _) _)) _ _ _); (refine store_gen ?_); intro q9 hq0; have hq1 : 0 ≤ q9 := (by rw [hq0.out]; exact Int.fmod_nonneg_of_pos _ (by omega)); have hq2 : q9 < 4 := (by rw [hq0.out]; exact Int.fmod_lt_of_pos _ (by omega)); clear hq0)
      | ((with_reducible show wpAny _ _ (call (Value.ref 113) _) _ _ _); k_dflt (refine' useT (c_from_jd _ _ Y mo (r + 1) (by omega) (by omega) (by omega) (by omega) hm hlp) ?k1 ?k2 ?k3 ?k4 ?k5 ?kK ?kd ?ku ?_; (case k1 => k_asm); (case k2 => k_asm); (case k3 => k_asm); (case k4 => k_asm); (case k5 => k_asm); (case kK => exact rfl); (case kd => ktr_room); (case ku => ktr_units); k_whole; intro x1 x2 x3 ta9 tb9 tc9 n9 D9 h9 tk9 Hx F9 N9 O9; (try dsimp only); (try k_fold)); obtain ⟨rfl, rfl, rfl⟩ := Hx)
      | ((with_reducible show wpAny _ _ (call (Value.ref 204) _) _ _ _); k_dflt (refine' useBD (c_plain _ _ _ _ _ _ _ _) ?k1 ?k2 ?k3 ?k4 ?k5 ?km ?kK ?kd ?ku ?_; (case k1 => k_asm); (case k2 => k_asm); (case k3 => k_asm); (case k4 => k_asm); (case k5 => k_asm); (case km => k_mem); (case kK => exact rfl); (case kd => ktr_room); (case ku => ktr_units); k_whole; intro v h9 tk9 Hv F9 N9; (try dsimp only); (try k_fold)); subst Hv)
      | ((with_reducible show wpAny _ _ (eval (Expr.Call (Expr.Name _ _) _ _ _) _) _ _ _); (refine Call_ ?_))
      | ((with_reducible show wpAny _ _ (execs _ _) _ _ _); dsimp only; walk1)
      | (k_unfold; (try dsimp only)) | walk1 | (dsimp only; walk1) | (leave1; try dsimp only) | fail "no step")
          (rename Fr _ _ _ _ => F9)
          (rename News _ _ _ _ => N9)
          refine cutOne F9 N9 (Str.ofString "civil") (fun c => -3760 ≤ c) ?_ ?_
          · repeat' (first
      | (refine ⟨rfl, _, _, _, _, rfl, fr_cong (by k_asm) (by (intro x; by_cases x0 : x = Str.ofString "civil"; (case pos => (subst x0; with_unfolding_all rfl)); simp only [if_neg x0])), cb_drop (by k_asm) (by kcj_all), ?_⟩; omega)
      | ((first | (with_reducible show wpAny _ _ (storeName _ (Str.ofString "civil") (Value.int (_ - _) _)) _ _ _) | (with_reducible show wpAny _ _ (storeName _ (Str.ofString "civil") (Value.int (_ + _) _)) _ _ _)); (refine store_gen ?_); intro c9 hc0; have hc : -3760 ≤ c9 := (by rw [hc0.out]; first | omega | (split <;> omega) | exact fm_low _ _ (by omega)); clear hc0)
      | ((with_reducible show wpAny _ _ (eval (Expr.Call (Expr.Name _ _) _ _ _) _) _ _ _); (refine Call_ ?_))
      | ((with_reducible show wpAny _ _ (execs _ _) _ _ _); dsimp only; walk1)
      | (k_unfold; (try dsimp only)) | walk1 | (dsimp only; walk1) | (leave1; try dsimp only) | fail "no step")
    
          · intro h' tk' c9 t9 hc F' N'
            clear F9 N9
            (try dsimp only)
            repeat' ((fail_if_success (with_reducible show wpAny _ _ (call (Value.ref 211) _) _ _ _)); first
      | (exact hfin _ _ _ (by k_asm))
      | ((with_reducible show wpAny _ _ (exec (Stmt.Return (some (Expr.Constant (Const.bool false) _ _)) _) _) _ _ _); exfalso; omega)
      | ((with_reducible show wpAny _ _ (call (Value.ref 204) _) _ _ _); k_dflt (refine' useBD (c_plain _ _ _ _ _ _ _ _) ?k1 ?k2 ?k3 ?k4 ?k5 ?km ?kK ?kd ?ku ?_; (case k1 => k_asm); (case k2 => k_asm); (case k3 => k_asm); (case k4 => k_asm); (case k5 => k_asm); (case km => k_mem); (case kK => exact rfl); (case kd => ktr_room); (case ku => ktr_units); k_whole; intro v h9 tk9 Hv F9 N9; (try dsimp only); (try k_fold)); subst Hv)
      | ((with_reducible show wpAny _ _ (call (Value.ref 171) _) _ _ _); k_dflt (refine' useI (c_spring _ _) ?k1 ?k2 ?k3 ?k4 ?k5 ?kK ?kd ?ku ?_; (case k1 => k_asm); (case k2 => k_asm); (case k3 => k_asm); (case k4 => k_asm); (case k5 => k_asm); (case kK => exact rfl); (case kd => ktr_room); (case ku => ktr_units); k_whole; intro v t9 h9 tk9 Hv F9 N9; (try dsimp only); (try k_fold)); (try (have e9 : c9 + 3759 + 1 = c9 + 3760 := (by omega); rw [e9] at Hv; clear e9)); (try (have e9 : c9 + 3761 + 1 = c9 + 3760 + 1 + 1 := (by omega); rw [e9] at Hv; clear e9)))
      | ((with_reducible show wpAny _ _ (call (Value.ref 127) _) _ _ _); k_dflt (refine' useT (c_to_gregorian _ _ _ _ _ _ (by omega) (by omega) (by omega) (by omega) hlp) ?k1 ?k2 ?k3 ?k4 ?k5 ?kK ?kd ?ku ?_; (case k1 => k_asm); (case k2 => k_asm); (case k3 => k_asm); (case k4 => k_asm); (case k5 => k_asm); (case kK => exact rfl); (case kd => ktr_room); (case ku => ktr_units); k_whole; intro g1 g2 g3 ta9 tb9 tc9 n9 D9 h9 tk9 Hg F9 N9 O9; (try dsimp only); (try k_fold)); (have e9 : NY Y + off Y mo + (r + 1 - 1) = f9 + l9 := (by omega)); rw [e9] at Hg; clear e9)
      | ((with_reducible show wpAny _ _ (call (Value.ref 199) _) _ _ _); k_dflt (refine' useT (c_civil _ _) ?k1 ?k2 ?k3 ?k4 ?k5 ?kK ?kd ?ku ?_; (case k1 => k_asm); (case k2 => k_asm); (case k3 => k_asm); (case k4 => k_asm); (case k5 => k_asm); (case kK => exact rfl); (case kd => ktr_room); (case ku => ktr_units); k_whole; intro z1 z2 z3 ta9 tb9 tc9 n9 D9 h9 tk9 Hz F9 N9 O9; (try dsimp only); (try k_fold)); (obtain ⟨e1, e2, e3⟩ := GS.uniq Hg Hz); subst e1 e2 e3; clear Hg Hz)
      | ((with_reducible show wpAny _ _ (call (Value.ref 211) _) _ _ _); k_dflt (refine' useID (c_due_some _ _ _ _ _ _ _ _ n1 ?hD) ?k1 ?k2 ?k3 ?k4 ?k5 ?km ?kK ?kd ?ku ?_; (case k1 => k_asm); (case k2 => k_asm); (case k3 => k_asm); (case k4 => k_asm); (case k5 => k_asm); (case km => k_mem); (case hD => exact due_eq hD1 (by (try simp only [Int.toNat_zero, Int.toNat_one, List.getD_cons_succ, List.getD_cons_zero]); omega) (by (try simp only [Int.toNat_zero, Int.toNat_one, List.getD_cons_succ, List.getD_cons_zero]); omega)); (case kK => exact rfl); (case kd => ktr_room); (case ku => ktr_units); k_whole; intro v t9 h9 tk9 Hv F9 N9; (try dsimp only); (try k_fold)); subst Hv)
      | ((with_reducible show wpAny _ _ (call (Value.ref 211) _) _ _ _); k_dflt (refine' useND (c_due_none _ _ _ _ _ _ _ _ ?hD) ?k1 ?k2 ?k3 ?k4 ?k5 ?km ?kK ?kd ?ku ?_; (case k1 => k_asm); (case k2 => k_asm); (case k3 => k_asm); (case k4 => k_asm); (case k5 => k_asm); (case km => k_mem); (case hD => exact noDue_eq hD1 (by (try simp only [Int.toNat_zero, Int.toNat_one, List.getD_cons_succ, List.getD_cons_zero]); omega) (by (try simp only [Int.toNat_zero, Int.toNat_one, List.getD_cons_succ, List.getD_cons_zero]); omega)); (case kK => exact rfl); (case kd => ktr_room); (case ku => ktr_units); k_whole; intro h9 tk9 F9 N9; (try dsimp only); (try k_fold)))
      | ((with_reducible show wpAny _ _ (call (Value.ref 211) _) _ _ _); k_dflt (refine' useID (c_due_some _ _ _ _ _ _ _ _ n2 ?hD) ?k1 ?k2 ?k3 ?k4 ?k5 ?km ?kK ?kd ?ku ?_; (case k1 => k_asm); (case k2 => k_asm); (case k3 => k_asm); (case k4 => k_asm); (case k5 => k_asm); (case km => k_mem); (case hD => exact due_eq hD2 (by have q1 := off15 (c9 + 3760); have q2 := off15 (c9 + 3760 + 1); (try simp only [Int.toNat_zero, Int.toNat_one, List.getD_cons_succ, List.getD_cons_zero]); omega) (by have q1 := off15 (c9 + 3760); have q2 := off15 (c9 + 3760 + 1); (try simp only [Int.toNat_zero, Int.toNat_one, List.getD_cons_succ, List.getD_cons_zero]); omega)); (case kK => exact rfl); (case kd => ktr_room); (case ku => ktr_units); k_whole; intro v t9 h9 tk9 Hv F9 N9; (try dsimp only); (try k_fold)); subst Hv)
      | ((with_reducible show wpAny _ _ (call (Value.ref 211) _) _ _ _); k_dflt (refine' useND (c_due_none _ _ _ _ _ _ _ _ ?hD) ?k1 ?k2 ?k3 ?k4 ?k5 ?km ?kK ?kd ?ku ?_; (case k1 => k_asm); (case k2 => k_asm); (case k3 => k_asm); (case k4 => k_asm); (case k5 => k_asm); (case km => k_mem); (case hD => exact noDue_eq hD2 (by have q1 := off15 (c9 + 3760); have q2 := off15 (c9 + 3760 + 1); (try simp only [Int.toNat_zero, Int.toNat_one, List.getD_cons_succ, List.getD_cons_zero]); omega) (by have q1 := off15 (c9 + 3760); have q2 := off15 (c9 + 3760 + 1); (try simp only [Int.toNat_zero, Int.toNat_one, List.getD_cons_succ, List.getD_cons_zero]); omega)); (case kK => exact rfl); (case kd => ktr_room); (case ku => ktr_units); k_whole; intro h9 tk9 F9 N9; (try dsimp only); (try k_fold)))
      | ((with_reducible show wpAny _ _ (call (Value.ref 218) _) _ _ _); k_dflt (refine' useT (c_opening_some _ _ _ hc hD1) ?k1 ?k2 ?k3 ?k4 ?k5 ?kK ?kd ?ku ?_; (case k1 => k_asm); (case k2 => k_asm); (case k3 => k_asm); (case k4 => k_asm); (case k5 => k_asm); (case kK => exact rfl); (case kd => ktr_room); (case ku => ktr_units); k_whole; intro o1 o2 o3 ta9 tb9 tc9 n9 D9 h9 tk9 Ho F9 N9 O9; (try dsimp only); (try k_fold)))
      | ((with_reducible show wpAny _ _ (call (Value.ref 218) _) _ _ _); k_dflt (refine' c_opening_none _ _ hc hD1 _ _ _ _ _ _ _ _ _ _ _ _ _ _ _ _ ?k1 ?kb ?kt ?k2 ?k3 ?k4 ?k5 ?kK ?kd ?ku ?_; (case k1 => k_asm); (case k2 => k_asm); (case kb => k_asm); (case kt => k_asm); (case k3 => k_asm); (case k4 => k_asm); (case k5 => k_asm); (case kK => exact rfl); (case kd => ktr_room); (case ku => ktr_units); k_whole; intro t9 h9 tk9 F9 N9; (try dsimp only); (try k_fold)))
      | ((with_reducible show wpAny _ _ (call (Value.ref 225) _) _ _ _); k_dflt (refine' useT (c_feast_some _ _ _ hc hD2) ?k1 ?k2 ?k3 ?k4 ?k5 ?kK ?kd ?ku ?_; (case k1 => k_asm); (case k2 => k_asm); (case k3 => k_asm); (case k4 => k_asm); (case k5 => k_asm); (case kK => exact rfl); (case kd => ktr_room); (case ku => ktr_units); k_whole; intro p1 p2 p3 ta9 tb9 tc9 n9 D9 h9 tk9 Hp F9 N9 O9; (try dsimp only); (try k_fold)))
      | ((with_reducible show wpAny _ _ (call (Value.ref 225) _) _ _ _); k_dflt (refine' c_feast_none _ _ hc hD2 _ _ _ _ _ _ _ _ _ _ _ _ _ _ _ _ ?k1 ?kb ?kt ?k2 ?k3 ?k4 ?k5 ?kK ?kd ?ku ?_; (case k1 => k_asm); (case k2 => k_asm); (case kb => k_asm); (case kt => k_asm); (case k3 => k_asm); (case k4 => k_asm); (case k5 => k_asm); (case kK => exact rfl); (case kd => ktr_room); (case ku => ktr_units); k_whole; intro t9 h9 tk9 F9 N9; (try dsimp only); (try k_fold)))
      | ((with_reducible show wpAny _ _ (call (Value.ref 232) _) _ _ _); k_dflt (refine' useBD (c_stands_some _ _ _ _ _ _ _ _ _ _ Ho) ?k1 ?k2 ?k3 ?k4 ?k5 ?km ?kK ?kd ?ku ?_; (case k1 => k_asm); (case k2 => k_asm); (case k3 => k_asm); (case k4 => k_asm); (case k5 => k_asm); (case km => k_mem); (case kK => exact rfl); (case kd => ktr_room); (case ku => ktr_units); k_whole; intro v h9 tk9 Hv F9 N9; (try dsimp only); (try k_fold)); subst Hv)
      | ((with_reducible show wpAny _ _ (call (Value.ref 232) _) _ _ _); k_dflt (refine' useBD (c_stands_some _ _ _ _ _ _ _ _ _ _ Hp) ?k1 ?k2 ?k3 ?k4 ?k5 ?km ?kK ?kd ?ku ?_; (case k1 => k_asm); (case k2 => k_asm); (case k3 => k_asm); (case k4 => k_asm); (case k5 => k_asm); (case km => k_mem); (case kK => exact rfl); (case kd => ktr_room); (case ku => ktr_units); k_whole; intro v h9 tk9 Hv F9 N9; (try dsimp only); (try k_fold)); subst Hv)
      | ((with_reducible show wpAny _ _ (call (Value.ref 232) _) _ _ _); k_dflt (refine' useB (c_stands_none _) ?k1 ?k2 ?k3 ?k4 ?k5 ?kK ?kd ?ku ?_; (case k1 => k_asm); (case k2 => k_asm); (case k3 => k_asm); (case k4 => k_asm); (case k5 => k_asm); (case kK => exact rfl); (case kd => ktr_room); (case ku => ktr_units); k_whole; intro v h9 tk9 Hv F9 N9; (try dsimp only); (try k_fold)); subst Hv)
      | ((with_reducible show wpAny _ _ (call (Value.ref 157) _) _ _ _); k_dflt (refine' useT (c_from_gregorian _ _ _ _ _ _ Hp.d1 Hp.d2) ?k1 ?k2 ?k3 ?k4 ?k5 ?kK ?kd ?ku ?_; (case k1 => k_asm); (case k2 => k_asm); (case k3 => k_asm); (case k4 => k_asm); (case k5 => k_asm); (case kK => exact rfl); (case kd => ktr_room); (case ku => ktr_units); k_whole; intro u1 u2 u3 ta9 tb9 tc9 n9 D9 h9 tk9 Hu F9 N9 O9; (try dsimp only); (try k_fold)); rw [Hp.eq] at Hu)
      | ((with_reducible show wpAny _ _ (call (Value.ref 185) _) _ _ _); k_dflt (refine' useT (c_julian _ _) ?k1 ?k2 ?k3 ?k4 ?k5 ?kK ?kd ?ku ?_; (case k1 => k_asm); (case k2 => k_asm); (case k3 => k_asm); (case k4 => k_asm); (case k5 => k_asm); (case kK => exact rfl); (case kd => ktr_room); (case ku => ktr_units); k_whole; intro j1 j2 j3 ta9 tb9 tc9 n9 D9 h9 tk9 Hj F9 N9 O9; (try dsimp only); (try k_fold)); (obtain ⟨e1, e2, e3⟩ := JS.uniq Hu Hj); subst e1 e2 e3; clear Hu Hj)
      | ((fail_if_success (with_reducible show wpAny _ _ (call (Value.ref _) _) _ _ _)); first
      | ((with_reducible show wpAny _ _ (eval (Expr.Call (Expr.Name _ _) _ _ _) _) _ _ _); (refine Call_ ?_))
      | ((with_reducible show wpAny _ _ (execs _ _) _ _ _); dsimp only; walk1)
      | (k_unfold; (try dsimp only)) | walk1 | (dsimp only; walk1) | (leave1; try dsimp only) | fail "no step"))
            rcases due_cases c9 (NY (c9 + 3760) + (1 - 1)) (NY (c9 + 3760 + 1) + (1 - 1)) with ⟨n1, hD1⟩ | hD1
            all_goals rcases due_cases c9 (NY (c9 + 3760) + off (c9 + 3760) 1 + (15 - 1)) (NY (c9 + 3760 + 1) + off (c9 + 3760 + 1) 1 + (15 - 1)) with ⟨n2, hD2⟩ | hD2
            all_goals (
              repeat' (first
      | (exact hfin _ _ _ (by k_asm))
      | ((with_reducible show wpAny _ _ (exec (Stmt.Return (some (Expr.Constant (Const.bool false) _ _)) _) _) _ _ _); exfalso; omega)
      | ((with_reducible show wpAny _ _ (call (Value.ref 204) _) _ _ _); k_dflt (refine' useBD (c_plain _ _ _ _ _ _ _ _) ?k1 ?k2 ?k3 ?k4 ?k5 ?km ?kK ?kd ?ku ?_; (case k1 => k_asm); (case k2 => k_asm); (case k3 => k_asm); (case k4 => k_asm); (case k5 => k_asm); (case km => k_mem); (case kK => exact rfl); (case kd => ktr_room); (case ku => ktr_units); k_whole; intro v h9 tk9 Hv F9 N9; (try dsimp only); (try k_fold)); subst Hv)
      | ((with_reducible show wpAny _ _ (call (Value.ref 171) _) _ _ _); k_dflt (refine' useI (c_spring _ _) ?k1 ?k2 ?k3 ?k4 ?k5 ?kK ?kd ?ku ?_; (case k1 => k_asm); (case k2 => k_asm); (case k3 => k_asm); (case k4 => k_asm); (case k5 => k_asm); (case kK => exact rfl); (case kd => ktr_room); (case ku => ktr_units); k_whole; intro v t9 h9 tk9 Hv F9 N9; (try dsimp only); (try k_fold)); (try (have e9 : c9 + 3759 + 1 = c9 + 3760 := (by omega); rw [e9] at Hv; clear e9)); (try (have e9 : c9 + 3761 + 1 = c9 + 3760 + 1 + 1 := (by omega); rw [e9] at Hv; clear e9)))
      | ((with_reducible show wpAny _ _ (call (Value.ref 127) _) _ _ _); k_dflt (refine' useT (c_to_gregorian _ _ _ _ _ _ (by omega) (by omega) (by omega) (by omega) hlp) ?k1 ?k2 ?k3 ?k4 ?k5 ?kK ?kd ?ku ?_; (case k1 => k_asm); (case k2 => k_asm); (case k3 => k_asm); (case k4 => k_asm); (case k5 => k_asm); (case kK => exact rfl); (case kd => ktr_room); (case ku => ktr_units); k_whole; intro g1 g2 g3 ta9 tb9 tc9 n9 D9 h9 tk9 Hg F9 N9 O9; (try dsimp only); (try k_fold)); (have e9 : NY Y + off Y mo + (r + 1 - 1) = f9 + l9 := (by omega)); rw [e9] at Hg; clear e9)
      | ((with_reducible show wpAny _ _ (call (Value.ref 199) _) _ _ _); k_dflt (refine' useT (c_civil _ _) ?k1 ?k2 ?k3 ?k4 ?k5 ?kK ?kd ?ku ?_; (case k1 => k_asm); (case k2 => k_asm); (case k3 => k_asm); (case k4 => k_asm); (case k5 => k_asm); (case kK => exact rfl); (case kd => ktr_room); (case ku => ktr_units); k_whole; intro z1 z2 z3 ta9 tb9 tc9 n9 D9 h9 tk9 Hz F9 N9 O9; (try dsimp only); (try k_fold)); (obtain ⟨e1, e2, e3⟩ := GS.uniq Hg Hz); subst e1 e2 e3; clear Hg Hz)
      | ((with_reducible show wpAny _ _ (call (Value.ref 211) _) _ _ _); k_dflt (refine' useID (c_due_some _ _ _ _ _ _ _ _ n1 ?hD) ?k1 ?k2 ?k3 ?k4 ?k5 ?km ?kK ?kd ?ku ?_; (case k1 => k_asm); (case k2 => k_asm); (case k3 => k_asm); (case k4 => k_asm); (case k5 => k_asm); (case km => k_mem); (case hD => exact due_eq hD1 (by (try simp only [Int.toNat_zero, Int.toNat_one, List.getD_cons_succ, List.getD_cons_zero]); omega) (by (try simp only [Int.toNat_zero, Int.toNat_one, List.getD_cons_succ, List.getD_cons_zero]); omega)); (case kK => exact rfl); (case kd => ktr_room); (case ku => ktr_units); k_whole; intro v t9 h9 tk9 Hv F9 N9; (try dsimp only); (try k_fold)); subst Hv)
      | ((with_reducible show wpAny _ _ (call (Value.ref 211) _) _ _ _); k_dflt (refine' useND (c_due_none _ _ _ _ _ _ _ _ ?hD) ?k1 ?k2 ?k3 ?k4 ?k5 ?km ?kK ?kd ?ku ?_; (case k1 => k_asm); (case k2 => k_asm); (case k3 => k_asm); (case k4 => k_asm); (case k5 => k_asm); (case km => k_mem); (case hD => exact noDue_eq hD1 (by (try simp only [Int.toNat_zero, Int.toNat_one, List.getD_cons_succ, List.getD_cons_zero]); omega) (by (try simp only [Int.toNat_zero, Int.toNat_one, List.getD_cons_succ, List.getD_cons_zero]); omega)); (case kK => exact rfl); (case kd => ktr_room); (case ku => ktr_units); k_whole; intro h9 tk9 F9 N9; (try dsimp only); (try k_fold)))
      | ((with_reducible show wpAny _ _ (call (Value.ref 211) _) _ _ _); k_dflt (refine' useID (c_due_some _ _ _ _ _ _ _ _ n2 ?hD) ?k1 ?k2 ?k3 ?k4 ?k5 ?km ?kK ?kd ?ku ?_; (case k1 => k_asm); (case k2 => k_asm); (case k3 => k_asm); (case k4 => k_asm); (case k5 => k_asm); (case km => k_mem); (case hD => exact due_eq hD2 (by have q1 := off15 (c9 + 3760); have q2 := off15 (c9 + 3760 + 1); (try simp only [Int.toNat_zero, Int.toNat_one, List.getD_cons_succ, List.getD_cons_zero]); omega) (by have q1 := off15 (c9 + 3760); have q2 := off15 (c9 + 3760 + 1); (try simp only [Int.toNat_zero, Int.toNat_one, List.getD_cons_succ, List.getD_cons_zero]); omega)); (case kK => exact rfl); (case kd => ktr_room); (case ku => ktr_units); k_whole; intro v t9 h9 tk9 Hv F9 N9; (try dsimp only); (try k_fold)); subst Hv)
      | ((with_reducible show wpAny _ _ (call (Value.ref 211) _) _ _ _); k_dflt (refine' useND (c_due_none _ _ _ _ _ _ _ _ ?hD) ?k1 ?k2 ?k3 ?k4 ?k5 ?km ?kK ?kd ?ku ?_; (case k1 => k_asm); (case k2 => k_asm); (case k3 => k_asm); (case k4 => k_asm); (case k5 => k_asm); (case km => k_mem); (case hD => exact noDue_eq hD2 (by have q1 := off15 (c9 + 3760); have q2 := off15 (c9 + 3760 + 1); (try simp only [Int.toNat_zero, Int.toNat_one, List.getD_cons_succ, List.getD_cons_zero]); omega) (by have q1 := off15 (c9 + 3760); have q2 := off15 (c9 + 3760 + 1); (try simp only [Int.toNat_zero, Int.toNat_one, List.getD_cons_succ, List.getD_cons_zero]); omega)); (case kK => exact rfl); (case kd => ktr_room); (case ku => ktr_units); k_whole; intro h9 tk9 F9 N9; (try dsimp only); (try k_fold)))
      | ((with_reducible show wpAny _ _ (call (Value.ref 218) _) _ _ _); k_dflt (refine' useT (c_opening_some _ _ _ hc hD1) ?k1 ?k2 ?k3 ?k4 ?k5 ?kK ?kd ?ku ?_; (case k1 => k_asm); (case k2 => k_asm); (case k3 => k_asm); (case k4 => k_asm); (case k5 => k_asm); (case kK => exact rfl); (case kd => ktr_room); (case ku => ktr_units); k_whole; intro o1 o2 o3 ta9 tb9 tc9 n9 D9 h9 tk9 Ho F9 N9 O9; (try dsimp only); (try k_fold)))
      | ((with_reducible show wpAny _ _ (call (Value.ref 218) _) _ _ _); k_dflt (refine' c_opening_none _ _ hc hD1 _ _ _ _ _ _ _ _ _ _ _ _ _ _ _ _ ?k1 ?kb ?kt ?k2 ?k3 ?k4 ?k5 ?kK ?kd ?ku ?_; (case k1 => k_asm); (case k2 => k_asm); (case kb => k_asm); (case kt => k_asm); (case k3 => k_asm); (case k4 => k_asm); (case k5 => k_asm); (case kK => exact rfl); (case kd => ktr_room); (case ku => ktr_units); k_whole; intro t9 h9 tk9 F9 N9; (try dsimp only); (try k_fold)))
      | ((with_reducible show wpAny _ _ (call (Value.ref 225) _) _ _ _); k_dflt (refine' useT (c_feast_some _ _ _ hc hD2) ?k1 ?k2 ?k3 ?k4 ?k5 ?kK ?kd ?ku ?_; (case k1 => k_asm); (case k2 => k_asm); (case k3 => k_asm); (case k4 => k_asm); (case k5 => k_asm); (case kK => exact rfl); (case kd => ktr_room); (case ku => ktr_units); k_whole; intro p1 p2 p3 ta9 tb9 tc9 n9 D9 h9 tk9 Hp F9 N9 O9; (try dsimp only); (try k_fold)))
      | ((with_reducible show wpAny _ _ (call (Value.ref 225) _) _ _ _); k_dflt (refine' c_feast_none _ _ hc hD2 _ _ _ _ _ _ _ _ _ _ _ _ _ _ _ _ ?k1 ?kb ?kt ?k2 ?k3 ?k4 ?k5 ?kK ?kd ?ku ?_; (case k1 => k_asm); (case k2 => k_asm); (case kb => k_asm); (case kt => k_asm); (case k3 => k_asm); (case k4 => k_asm); (case k5 => k_asm); (case kK => exact rfl); (case kd => ktr_room); (case ku => ktr_units); k_whole; intro t9 h9 tk9 F9 N9; (try dsimp only); (try k_fold)))
      | ((with_reducible show wpAny _ _ (call (Value.ref 232) _) _ _ _); k_dflt (refine' useBD (c_stands_some _ _ _ _ _ _ _ _ _ _ Ho) ?k1 ?k2 ?k3 ?k4 ?k5 ?km ?kK ?kd ?ku ?_; (case k1 => k_asm); (case k2 => k_asm); (case k3 => k_asm); (case k4 => k_asm); (case k5 => k_asm); (case km => k_mem); (case kK => exact rfl); (case kd => ktr_room); (case ku => ktr_units); k_whole; intro v h9 tk9 Hv F9 N9; (try dsimp only); (try k_fold)); subst Hv)
      | ((with_reducible show wpAny _ _ (call (Value.ref 232) _) _ _ _); k_dflt (refine' useBD (c_stands_some _ _ _ _ _ _ _ _ _ _ Hp) ?k1 ?k2 ?k3 ?k4 ?k5 ?km ?kK ?kd ?ku ?_; (case k1 => k_asm); (case k2 => k_asm); (case k3 => k_asm); (case k4 => k_asm); (case k5 => k_asm); (case km => k_mem); (case kK => exact rfl); (case kd => ktr_room); (case ku => ktr_units); k_whole; intro v h9 tk9 Hv F9 N9; (try dsimp only); (try k_fold)); subst Hv)
      | ((with_reducible show wpAny _ _ (call (Value.ref 232) _) _ _ _); k_dflt (refine' useB (c_stands_none _) ?k1 ?k2 ?k3 ?k4 ?k5 ?kK ?kd ?ku ?_; (case k1 => k_asm); (case k2 => k_asm); (case k3 => k_asm); (case k4 => k_asm); (case k5 => k_asm); (case kK => exact rfl); (case kd => ktr_room); (case ku => ktr_units); k_whole; intro v h9 tk9 Hv F9 N9; (try dsimp only); (try k_fold)); subst Hv)
      | ((with_reducible show wpAny _ _ (call (Value.ref 157) _) _ _ _); k_dflt (refine' useT (c_from_gregorian _ _ _ _ _ _ Hp.d1 Hp.d2) ?k1 ?k2 ?k3 ?k4 ?k5 ?kK ?kd ?ku ?_; (case k1 => k_asm); (case k2 => k_asm); (case k3 => k_asm); (case k4 => k_asm); (case k5 => k_asm); (case kK => exact rfl); (case kd => ktr_room); (case ku => ktr_units); k_whole; intro u1 u2 u3 ta9 tb9 tc9 n9 D9 h9 tk9 Hu F9 N9 O9; (try dsimp only); (try k_fold)); rw [Hp.eq] at Hu)
      | ((with_reducible show wpAny _ _ (call (Value.ref 185) _) _ _ _); k_dflt (refine' useT (c_julian _ _) ?k1 ?k2 ?k3 ?k4 ?k5 ?kK ?kd ?ku ?_; (case k1 => k_asm); (case k2 => k_asm); (case k3 => k_asm); (case k4 => k_asm); (case k5 => k_asm); (case kK => exact rfl); (case kd => ktr_room); (case ku => ktr_units); k_whole; intro j1 j2 j3 ta9 tb9 tc9 n9 D9 h9 tk9 Hj F9 N9 O9; (try dsimp only); (try k_fold)); (obtain ⟨e1, e2, e3⟩ := JS.uniq Hu Hj); subst e1 e2 e3; clear Hu Hj)
      | ((fail_if_success (with_reducible show wpAny _ _ (call (Value.ref _) _) _ _ _)); first
      | ((with_reducible show wpAny _ _ (eval (Expr.Call (Expr.Name _ _) _ _ _) _) _ _ _); (refine Call_ ?_))
      | ((with_reducible show wpAny _ _ (execs _ _) _ _ _); dsimp only; walk1)
      | (k_unfold; (try dsimp only)) | walk1 | (dsimp only; walk1) | (leave1; try dsimp only) | fail "no step"))))) only [↓held]
end Mine
theorem PySem.Challenge.cw_vp0006_01_holds : PySem.Challenge.rw_vp0006_01.Holds :=
  Mine.law_holds
