import PyProof.Rows.All
import Wide.All
import OpenK.AllK
import Wide.FinOn
import PySem.Challenge.RW_bd0003_01
open PySem PySem.W PyProof.Rows
set_option Elab.async false
set_option maxRecDepth 100000
set_option maxHeartbeats 8000000
namespace Mine
def lp (y : Int) : Bool := decide (y % 4 = 0) && (!decide (y % 100 = 0) || decide (y % 400 = 0))
def TJ (y mo d : Int) : Int := 1721425 + 365 * (y - 1) + (y - 1) / 4 + -((y - 1) / 100) + (y - 1) / 400 + ((367 * mo - 362) / 12 + (if mo ≤ 2 then 0 else if lp y then -1 else -2) + d)
def EQ (g : Int) : Int := 1721140 + 365 * g + g / 4 - g / 100 + g / 400
def Y1 (y : Int) : Int := 1721426 + 365 * (y - 1) + (y - 1) / 4 - (y - 1) / 100 + (y - 1) / 400
theorem fm (a b : Int) (h : 0 ≤ b) : a.fmod b = a % b := Int.fmod_eq_emod_of_nonneg a h
theorem fd (a b : Int) (h : 0 ≤ b) : a.fdiv b = a / b := Int.fdiv_eq_ediv_of_nonneg a h
theorem lp_t {y : Int} (h : lp y = true) : y % 4 = 0 ∧ (y % 100 ≠ 0 ∨ y % 400 = 0) := by
  simpa [lp] using h
theorem lp_f {y : Int} (h : lp y = false) : y % 4 ≠ 0 ∨ (y % 100 = 0 ∧ y % 400 ≠ 0) := by
  simp [lp] at h; omega
theorem tj_eq (y : Int) : TJ y 3 21 = EQ y := by
  unfold TJ EQ
  cases h : lp y with
  | true => have := lp_t h; simp; omega
  | false => have := lp_f h; simp; omega
theorem tj_y1 (y : Int) : TJ y 1 1 = Y1 y := by
  unfold TJ Y1; simp; omega
theorem y1_mono {x y : Int} (h : x ≤ y) : Y1 x ≤ Y1 y := by
  unfold Y1; omega
theorem y1_lt {x y : Int} (h : x < y) : Y1 x + 365 ≤ Y1 y := by
  unfold Y1; omega
theorem y1_uniq {x y j : Int} (h1 : Y1 x ≤ j) (h2 : j < Y1 (x + 1)) (k1 : Y1 y ≤ j) (k2 : j < Y1 (y + 1)) : x = y := by
  rcases Int.lt_trichotomy x y with h | h | h
  · have := y1_mono (x := x + 1) (y := y) (by omega); omega
  · exact h
  · have := y1_mono (x := y + 1) (y := x) (by omega); omega
theorem eq_lt {x y : Int} (h : x < y) : EQ x + 365 ≤ EQ y := by
  unfold EQ; omega
theorem yr (jd q a c b k e i : Int) (hq : q = (jd - 1721426) / 146097) (ha : a = (jd - 1721426) % 146097) (hc : c = a / 36524) (hb : b = a % 36524) (hk : k = b / 1461) (he : e = b % 1461) (hi : i = e / 365) :
    ∃ x, Y1 x ≤ jd ∧ jd < Y1 (x + 1) ∧ ((c = 4 ∨ i = 4) → x = q * 400 + c * 100 + k * 4 + i) ∧ (¬ (c = 4 ∨ i = 4) → x = q * 400 + c * 100 + k * 4 + i + 1) := by
  have h1 : 0 ≤ c := by omega
  have h2 : c ≤ 4 := by omega
  have h3 : 0 ≤ k := by omega
  have h4 : k ≤ 24 := by omega
  have h5 : 0 ≤ i := by omega
  have h6 : i ≤ 4 := by omega
  by_cases h : c = 4
  · have hb0 : b = 0 := by omega
    have hk0 : k = 0 := by omega
    have hi0 : i = 0 := by omega
    refine ⟨q * 400 + c * 100 + k * 4 + i, ?_, ?_, fun _ => rfl, fun n => absurd (.inl h) n⟩
    · have e1 : (q * 400 + c * 100 + k * 4 + i - 1) / 4 = q * 100 + 99 := by omega
      have e2 : (q * 400 + c * 100 + k * 4 + i - 1) / 100 = q * 4 + 3 := by omega
      have e3 : (q * 400 + c * 100 + k * 4 + i - 1) / 400 = q := by omega
      unfold Y1; rw [e1, e2, e3]; omega
    · have e1 : (q * 400 + c * 100 + k * 4 + i + 1 - 1) / 4 = q * 100 + 100 := by omega
      have e2 : (q * 400 + c * 100 + k * 4 + i + 1 - 1) / 100 = q * 4 + 4 := by omega
      have e3 : (q * 400 + c * 100 + k * 4 + i + 1 - 1) / 400 = q + 1 := by omega
      unfold Y1; rw [e1, e2, e3]; omega
  · have hc3 : c ≤ 3 := by omega
    by_cases h' : i = 4
    · have hk23 : k ≤ 23 := by omega
      refine ⟨q * 400 + c * 100 + k * 4 + i, ?_, ?_, fun _ => rfl, fun n => absurd (.inr h') n⟩
      · have e1 : (q * 400 + c * 100 + k * 4 + i - 1) / 4 = q * 100 + c * 25 + k := by omega
        have e2 : (q * 400 + c * 100 + k * 4 + i - 1) / 100 = q * 4 + c := by omega
        have e3 : (q * 400 + c * 100 + k * 4 + i - 1) / 400 = q := by omega
        unfold Y1; rw [e1, e2, e3]; omega
      · have e1 : (q * 400 + c * 100 + k * 4 + i + 1 - 1) / 4 = q * 100 + c * 25 + k + 1 := by omega
        have e2 : (q * 400 + c * 100 + k * 4 + i + 1 - 1) / 100 = q * 4 + c := by omega
        have e3 : (q * 400 + c * 100 + k * 4 + i + 1 - 1) / 400 = q := by omega
        unfold Y1; rw [e1, e2, e3]; omega
    · have hi3 : i ≤ 3 := by omega
      refine ⟨q * 400 + c * 100 + k * 4 + i + 1, ?_, ?_, fun n => absurd n (by omega), fun _ => rfl⟩
      · have e1 : (q * 400 + c * 100 + k * 4 + i + 1 - 1) / 4 = q * 100 + c * 25 + k := by omega
        have e2 : (q * 400 + c * 100 + k * 4 + i + 1 - 1) / 100 = q * 4 + c := by omega
        have e3 : (q * 400 + c * 100 + k * 4 + i + 1 - 1) / 400 = q := by omega
        unfold Y1; rw [e1, e2, e3]; omega
      · by_cases hi2 : i = 3
        · by_cases hk2 : k = 24
          · by_cases hc2 : c = 3
            · have e1 : (q * 400 + c * 100 + k * 4 + i + 1 + 1 - 1) / 4 = q * 100 + 100 := by omega
              have e2 : (q * 400 + c * 100 + k * 4 + i + 1 + 1 - 1) / 100 = q * 4 + 4 := by omega
              have e3 : (q * 400 + c * 100 + k * 4 + i + 1 + 1 - 1) / 400 = q + 1 := by omega
              unfold Y1; rw [e1, e2, e3]; omega
            · have e1 : (q * 400 + c * 100 + k * 4 + i + 1 + 1 - 1) / 4 = q * 100 + c * 25 + 25 := by omega
              have e2 : (q * 400 + c * 100 + k * 4 + i + 1 + 1 - 1) / 100 = q * 4 + c + 1 := by omega
              have e3 : (q * 400 + c * 100 + k * 4 + i + 1 + 1 - 1) / 400 = q := by omega
              unfold Y1; rw [e1, e2, e3]; omega
          · have e1 : (q * 400 + c * 100 + k * 4 + i + 1 + 1 - 1) / 4 = q * 100 + c * 25 + k + 1 := by omega
            have e2 : (q * 400 + c * 100 + k * 4 + i + 1 + 1 - 1) / 100 = q * 4 + c := by omega
            have e3 : (q * 400 + c * 100 + k * 4 + i + 1 + 1 - 1) / 400 = q := by omega
            unfold Y1; rw [e1, e2, e3]; omega
        · have e1 : (q * 400 + c * 100 + k * 4 + i + 1 + 1 - 1) / 4 = q * 100 + c * 25 + k := by omega
          have e2 : (q * 400 + c * 100 + k * 4 + i + 1 + 1 - 1) / 100 = q * 4 + c := by omega
          have e3 : (q * 400 + c * 100 + k * 4 + i + 1 + 1 - 1) / 400 = q := by omega
          unfold Y1; rw [e1, e2, e3]; omega
theorem yr_of {jd x : Int} (h1 : Y1 x ≤ jd) (h2 : jd < Y1 (x + 1)) :
    ((((jd - 1721426).fmod 146097).fdiv 36524 = 4 ∨ ((((jd - 1721426).fmod 146097).fmod 36524).fmod 1461).fdiv 365 = 4) → (jd - 1721426).fdiv 146097 * 400 + ((jd - 1721426).fmod 146097).fdiv 36524 * 100 + (((jd - 1721426).fmod 146097).fmod 36524).fdiv 1461 * 4 + ((((jd - 1721426).fmod 146097).fmod 36524).fmod 1461).fdiv 365 = x) ∧
    (¬ (((jd - 1721426).fmod 146097).fdiv 36524 = 4 ∨ ((((jd - 1721426).fmod 146097).fmod 36524).fmod 1461).fdiv 365 = 4) → (jd - 1721426).fdiv 146097 * 400 + ((jd - 1721426).fmod 146097).fdiv 36524 * 100 + (((jd - 1721426).fmod 146097).fmod 36524).fdiv 1461 * 4 + ((((jd - 1721426).fmod 146097).fmod 36524).fmod 1461).fdiv 365 + 1 = x) := by
  obtain ⟨z, hz1, hz2, hz3, hz4⟩ := yr jd _ _ _ _ _ _ _ (fd (jd - 1721426) 146097 (by decide)) (fm (jd - 1721426) 146097 (by decide)) (fd ((jd - 1721426).fmod 146097) 36524 (by decide)) (fm ((jd - 1721426).fmod 146097) 36524 (by decide)) (fd (((jd - 1721426).fmod 146097).fmod 36524) 1461 (by decide)) (fm (((jd - 1721426).fmod 146097).fmod 36524) 1461 (by decide)) (fd ((((jd - 1721426).fmod 146097).fmod 36524).fmod 1461) 365 (by decide))
  have e := y1_uniq hz1 hz2 h1 h2
  subst e
  exact ⟨fun h => (hz3 h).symm, fun h => (hz4 h).symm⟩
theorem yr_c {jd x : Int} (h1 : Y1 x ≤ jd) (h2 : jd < Y1 (x + 1)) (h : ((jd - 1721426).fmod 146097).fdiv 36524 = 4) : (jd - 1721426).fdiv 146097 * 400 + ((jd - 1721426).fmod 146097).fdiv 36524 * 100 + (((jd - 1721426).fmod 146097).fmod 36524).fdiv 1461 * 4 + ((((jd - 1721426).fmod 146097).fmod 36524).fmod 1461).fdiv 365 = x := (yr_of h1 h2).1 (.inl h)
theorem yr_i {jd x : Int} (h1 : Y1 x ≤ jd) (h2 : jd < Y1 (x + 1)) (h : ((((jd - 1721426).fmod 146097).fmod 36524).fmod 1461).fdiv 365 = 4) : (jd - 1721426).fdiv 146097 * 400 + ((jd - 1721426).fmod 146097).fdiv 36524 * 100 + (((jd - 1721426).fmod 146097).fmod 36524).fdiv 1461 * 4 + ((((jd - 1721426).fmod 146097).fmod 36524).fmod 1461).fdiv 365 = x := (yr_of h1 h2).1 (.inr h)
theorem yr_n {jd x : Int} (h1 : Y1 x ≤ jd) (h2 : jd < Y1 (x + 1)) (h : ((jd - 1721426).fmod 146097).fdiv 36524 ≠ 4) (k : ((((jd - 1721426).fmod 146097).fmod 36524).fmod 1461).fdiv 365 ≠ 4) : (jd - 1721426).fdiv 146097 * 400 + ((jd - 1721426).fmod 146097).fdiv 36524 * 100 + (((jd - 1721426).fmod 146097).fmod 36524).fdiv 1461 * 4 + ((((jd - 1721426).fmod 146097).fmod 36524).fmod 1461).fdiv 365 + 1 = x := (yr_of h1 h2).2 (fun o => o.elim h k)
theorem nd_t {p : Prop} [Decidable p] (h : ¬ p) : (!decide p) = true := by rw [decide_eq_false h]; rfl
theorem nd_f {p : Prop} [Decidable p] (h : p) : (!decide p) = false := by rw [decide_eq_true h]; rfl
theorem y1_le_eq (g : Int) : Y1 g ≤ EQ g := by unfold Y1 EQ; omega
theorem eq_lt_y1 (g : Int) : EQ g < Y1 (g + 1) := by unfold Y1 EQ; omega
/-- the day lies in the year that begins with the equinox of g, and g is no further than the law looks -/
structure KG (jd g : Int) : Prop where
  lo : EQ g ≤ jd
  hi : jd < EQ (g + 1)
  b1 : -110000 ≤ g
  b2 : g ≤ 110000
theorem py_eq {g : Int} (h1 : -110000 ≤ g) (h2 : g ≤ 110000) : ((2 * (EQ g - 1 - 1948321) - 1) * 100000000 + 36524219878).fdiv (2 * 36524219878) + 1 = g - 621 := by
  rw [fd _ _ (by decide)]
  unfold EQ
  omega
def PM (mo : Int) : Int := if mo ≤ 7 then (mo - 1) * 31 else (mo - 1) * 30 + 6
theorem pm_a {mo : Int} (h : mo ≤ 7) : (mo - 1) * 31 = PM mo := by unfold PM; rw [if_pos h]
theorem pm_b {mo : Int} (h : ¬ mo ≤ 7) : (mo - 1) * 30 + 6 = PM mo := by unfold PM; rw [if_neg h]
theorem g0_lo {y : Int} (h1 : -109000 ≤ y) (h2 : y ≤ 109000) : EQ (y + 619) ≤ 1948321 - 1 + (36524219878 * (y - 1 - 1)).fdiv 100000000 := by
  rw [fd _ _ (by decide)]; unfold EQ; omega
theorem g0_hi {y : Int} (h1 : -109000 ≤ y) (h2 : y ≤ 109000) : 1948321 - 1 + (36524219878 * (y - 1 - 1)).fdiv 100000000 < EQ (y + 621) := by
  rw [fd _ _ (by decide)]; unfold EQ; omega
theorem kg_next {g x : Int} (hx : x = g + 1) (h1 : -109900 ≤ g) (h2 : g ≤ 109900) : KG (EQ g - 1 + (36524219878 : Int).fdiv 100000000 + 2) x := by
  subst hx
  rw [fd _ _ (by decide)]
  refine ⟨?_, ?_, by omega, by omega⟩ <;> unfold EQ <;> omega
def MK (k : Int) : Int := if k ≤ 186 then -((-k) / 31) else -((-(k - 6)) / 30)
def DK (k : Int) : Int := if k ≤ 186 then k - (MK k - 1) * 31 else k - (MK k - 1) * 30 - 6
theorem mk_a {k : Int} (h : k ≤ 186) : -(-k).fdiv 31 = MK k := by unfold MK; rw [if_pos h, fd _ _ (by decide)]
theorem mk_b {k : Int} (h : ¬ k ≤ 186) : -(-(k - 6)).fdiv 30 = MK k := by unfold MK; rw [if_neg h, fd _ _ (by decide)]
theorem dk_a {k : Int} (h : k ≤ 186) : k - (-(-k).fdiv 31 - 1) * 31 = DK k := by rw [mk_a h]; unfold DK; rw [if_pos h]
theorem dk_b {k : Int} (h : ¬ k ≤ 186) : k - (-(-(k - 6)).fdiv 30 - 1) * 30 - 6 = DK k := by rw [mk_b h]; unfold DK; rw [if_neg h]
theorem leap_eq (g : Int) : decide (365 < EQ (g + 1) - EQ g) = lp (g + 1) := by
  cases h : lp (g + 1) with
  | true => have := lp_t h; unfold EQ; simp; omega
  | false => have := lp_f h; unfold EQ; simp; omega
theorem leap_val (y : Int) : decide (365 < EQ (y + 1 + 621) - 1 + PM 1 + 1 - (EQ (y + 621) - 1 + PM 1 + 1)) = lp (y + 622) := by
  have h := leap_eq (y + 621)
  rw [show y + 621 + 1 = y + 622 by omega] at h
  rw [← h, show y + 1 + 621 = y + 622 by omega]
  exact decide_eq_decide.mpr (by omega)
theorem long_a {y : Int} (h : y.fmod 100 = 0) : (y.fmod 400 == 0) = lp y := by
  rw [fm _ _ (by decide)] at h ⊢
  cases k : lp y with
  | true => have := lp_t k; rw [beq_iff_eq]; omega
  | false => have := lp_f k; rw [beq_eq_false_iff_ne]; omega
theorem long_b {y : Int} (h : y.fmod 100 ≠ 0) : (y.fmod 4 == 0) = lp y := by
  rw [fm _ _ (by decide)] at h ⊢
  cases k : lp y with
  | true => have := lp_t k; rw [beq_iff_eq]; omega
  | false => have := lp_f k; rw [beq_eq_false_iff_ne]; omega
def ML (y mo : Int) : Int := if mo ≤ 6 then 31 else if mo ≤ 11 then 30 else if lp (y + 622) then 30 else 29
theorem in30 {mo : Int} (h : ([7, 8, 9, 10, 11].any fun x => x == mo) = true) : 7 ≤ mo ∧ mo ≤ 11 := by
  simp only [List.any_cons, List.any_nil, Bool.or_false, Bool.or_eq_true, beq_iff_eq] at h; omega
theorem nin30 {mo : Int} (h : ([7, 8, 9, 10, 11].any fun x => x == mo) = false) : mo < 7 ∨ 11 < mo := by
  simp only [List.any_cons, List.any_nil, Bool.or_false, Bool.or_eq_false_iff, beq_eq_false_iff_ne] at h; omega
theorem in31 {mo : Int} (h : ([1, 2, 3, 4, 5, 6].any fun x => x == mo) = true) : 1 ≤ mo ∧ mo ≤ 6 := by
  simp only [List.any_cons, List.any_nil, Bool.or_false, Bool.or_eq_true, beq_iff_eq] at h; omega
theorem nin31 {mo : Int} (h : ([1, 2, 3, 4, 5, 6].any fun x => x == mo) = false) : mo < 1 ∨ 6 < mo := by
  simp only [List.any_cons, List.any_nil, Bool.or_false, Bool.or_eq_false_iff, beq_eq_false_iff_ne] at h; omega
theorem ml_1 {y mo : Int} (h : ([7, 8, 9, 10, 11].any fun x => x == mo) = true) : 30 = ML y mo := by
  have := in30 h; unfold ML; rw [if_neg (by omega), if_pos (by omega)]
theorem ml_2 {y mo : Int} (h : mo = 12) (k : lp (y + 622) = true) : 30 = ML y mo := by
  unfold ML; rw [if_neg (by omega), if_neg (by omega), if_pos k]
theorem ml_3 {y mo : Int} (h : mo = 12) (k : lp (y + 622) = false) : 29 = ML y mo := by
  unfold ML; rw [if_neg (by omega), if_neg (by omega), k]; rfl
theorem ml_4 {y mo : Int} (h : ([1, 2, 3, 4, 5, 6].any fun x => x == mo) = true) : 31 = ML y mo := by
  have := in31 h; unfold ML; rw [if_pos (by omega)]
theorem ml_5 {mo : Int} (h : mo = 12) (k : ([1, 2, 3, 4, 5, 6].any fun x => x == mo) = true) : False := by
  have := in31 k; omega
theorem ml_6 {mo : Int} (h3 : 1 ≤ mo) (h4 : mo ≤ 12) (h : ([7, 8, 9, 10, 11].any fun x => x == mo) = false) (h' : mo ≠ 12) (k : ([1, 2, 3, 4, 5, 6].any fun x => x == mo) = false) : False := by
  have := nin30 h; have := nin31 k; omega
def CA (x : Int) : Int := if lp x then 31 else 30
def IY (x t : Int) : Int := if t < 80 then x - 79 else x - 78
def IU (x t : Int) : Int := if t < 80 then t + CA x + 255 else t - 80
def IM (x t : Int) : Int := if IU x t < CA x then 1 else if IU x t - CA x < 155 then (IU x t - CA x) / 31 + 2 else (IU x t - CA x - 155) / 30 + 7
def ID (x t : Int) : Int := if IU x t < CA x then IU x t + 1 else if IU x t - CA x < 155 then (IU x t - CA x) % 31 + 1 else (IU x t - CA x - 155) % 30 + 1
theorem ca_t {x : Int} (h : lp x = true) : CA x = 31 := by unfold CA; rw [if_pos h]
theorem ca_f {x : Int} (h : lp x = false) : CA x = 30 := by unfold CA; rw [h]; rfl
theorem fd31 (a : Int) : a.fdiv 31 = a / 31 := fd _ _ (by decide)
theorem fd30 (a : Int) : a.fdiv 30 = a / 30 := fd _ _ (by decide)
theorem fm31 (a : Int) : a.fmod 31 = a % 31 := fm _ _ (by decide)
theorem fm30 (a : Int) : a.fmod 30 = a % 30 := fm _ _ (by decide)
/-- the Persian date of a day: year, month, place -/
structure PER (jd y mo pl : Int) : Prop where
  kg : KG jd (y + 621)
  m : MK (jd - (EQ (y + 621) - 1)) = mo
  d : DK (jd - (EQ (y + 621) - 1)) = pl
theorem eq_next (g : Int) : EQ (g + 1) = EQ g + 365 + (if lp (g + 1) then 1 else 0) := by
  cases h : lp (g + 1) with
  | true => have := lp_t h; unfold EQ; simp; omega
  | false => have := lp_f h; unfold EQ; simp; omega
theorem eq_y1 (g : Int) : EQ g = Y1 g + 79 + (if lp g then 1 else 0) := by
  cases h : lp g with
  | true => have := lp_t h; unfold EQ Y1; simp; omega
  | false => have := lp_f h; unfold EQ Y1; simp; omega
theorem y1_eq (g : Int) : Y1 (g + 1) = EQ g + 286 := by unfold EQ Y1; omega
theorem next_le (g : Int) : EQ (g + 1) ≤ EQ g + 366 := by
  have := eq_next g; split at this <;> omega
theorem kg_ex {jd : Int} (h1 : -35000000 ≤ jd) (h2 : jd ≤ 39500000) : ∃ g, KG jd g ∧ -102000 ≤ g ∧ g ≤ 105000 := by
  obtain ⟨x, hx1, hx2, _, _⟩ := yr jd _ _ _ _ _ _ _ rfl rfl rfl rfl rfl rfl rfl
  have hb : -101900 ≤ x ∧ x ≤ 104900 := by unfold Y1 at hx1 hx2; omega
  by_cases h : EQ x ≤ jd
  · have := eq_lt_y1 x
    have := y1_le_eq (x + 1)
    exact ⟨x, ⟨h, by omega, by omega, by omega⟩, by omega, by omega⟩
  · have := eq_lt_y1 (x - 1)
    rw [show x - 1 + 1 = x by omega] at this
    exact ⟨x - 1, ⟨by omega, by rw [show x - 1 + 1 = x by omega]; omega, by omega, by omega⟩, by omega, by omega⟩
theorem per_of {jd y mo pl : Int} (h1 : -109000 ≤ y) (h2 : y ≤ 109000) (h3 : 1 ≤ mo) (h4 : mo ≤ 12) (h5 : 1 ≤ pl) (h6 : pl ≤ ML y mo) (h7 : jd = EQ (y + 621) - 1 + PM mo + pl) : PER jd y mo pl := by
  have e := eq_next (y + 621)
  have e2 : y + 621 + 1 = y + 622 := by omega
  rw [e2] at e
  have hk : jd - (EQ (y + 621) - 1) = PM mo + pl := by omega
  refine ⟨⟨?_, ?_, by omega, by omega⟩, ?_, ?_⟩
  · unfold PM at hk; split at hk <;> omega
  · rw [e2, e]; unfold PM at hk; unfold ML at h6; split at hk <;> split at h6 <;> (try split at h6) <;> (try split at h6) <;> (try split) <;> (try contradiction) <;> omega
  · rw [hk]; unfold MK PM; unfold ML at h6; split at h6 <;> (repeat' split) <;> (repeat' split at h6) <;> omega
  · rw [hk]; unfold DK MK PM; unfold ML at h6; split at h6 <;> (repeat' split) <;> (repeat' split at h6) <;> omega
theorem per_ex {jd : Int} (h1 : -35000000 ≤ jd) (h2 : jd ≤ 39500000) : ∃ y mo pl, PER jd y mo pl ∧ -105000 ≤ y ∧ y ≤ 105000 := by
  obtain ⟨g, kg, hb⟩ := kg_ex h1 h2
  refine ⟨g - 621, _, _, ⟨?_, rfl, rfl⟩, by omega, by omega⟩
  rw [show g - 621 + 621 = g by omega]; exact kg
/-- what a Persian date says -/
theorem per_facts {jd y mo pl : Int} (P : PER jd y mo pl) : 1 ≤ mo ∧ mo ≤ 12 ∧ 1 ≤ pl ∧ pl ≤ ML y mo ∧ jd = EQ (y + 621) - 1 + PM mo + pl := by
  obtain ⟨⟨k1, k2, _, _⟩, hm, hd⟩ := P
  have e := eq_next (y + 621)
  have e2 : y + 621 + 1 = y + 622 := by omega
  rw [e2] at e k2
  generalize hk : jd - (EQ (y + 621) - 1) = k at hm hd
  have hk1 : 1 ≤ k := by omega
  have hk2 : k ≤ 365 + (if lp (y + 622) then 1 else 0) := by omega
  have hk3 : k ≤ 366 := by split at hk2 <;> omega
  unfold MK at hm
  unfold DK MK at hd
  split at hm
  · rename_i h
    rw [if_pos h, if_pos h] at hd
    have : mo ≤ 6 := by omega
    refine ⟨by omega, by omega, by omega, ?_, ?_⟩
    · unfold ML; rw [if_pos this]; omega
    · unfold PM; rw [if_pos (by omega)]; omega
  · rename_i h
    rw [if_neg h, if_neg h] at hd
    refine ⟨by omega, by omega, by omega, ?_, ?_⟩
    · unfold ML
      rw [if_neg (by omega)]
      split
      · omega
      · split at hk2 <;> split <;> (try contradiction) <;> omega
    · unfold PM; split <;> omega
theorem ml_pos (y mo : Int) : 29 ≤ ML y mo ∧ ML y mo ≤ 31 := by
  unfold ML; (repeat' split) <;> omega
theorem per_next {jd y mo pl : Int} (P : PER jd y mo pl) (h1 : -108000 ≤ y) (h2 : y ≤ 108000) (h : mo < 12) : PER (jd + ML y mo - pl + 1) y (mo + 1) 1 := by
  obtain ⟨a1, a2, a3, a4, a5⟩ := per_facts P
  have := ml_pos y (mo + 1)
  refine per_of (by omega) (by omega) (by omega) (by omega) (by omega) (by omega) ?_
  rw [a5]
  unfold PM ML
  (repeat' split) <;> omega
theorem per_over {jd y mo pl : Int} (P : PER jd y mo pl) (h1 : -108000 ≤ y) (h2 : y ≤ 108000) (h : ¬ mo < 12) : PER (jd + ML y mo - pl + 1) (y + 1) 1 1 := by
  obtain ⟨a1, a2, a3, a4, a5⟩ := per_facts P
  have := ml_pos (y + 1) 1
  refine per_of (by omega) (by omega) (by omega) (by omega) (by omega) (by omega) ?_
  have e := eq_next (y + 621)
  rw [show y + 621 + 1 = y + 622 by omega] at e
  have hm : mo = 12 := by omega
  subst hm
  have p12 : PM 12 = 336 := rfl
  have p1 : PM 1 = 0 := rfl
  have m12 : ML y 12 = if lp (y + 622) then 30 else 29 := by unfold ML; rw [if_neg (by omega), if_neg (by omega)]
  rw [show y + 1 + 621 = y + 622 by omega, e, m12, p1]
  rw [p12] at a5
  split <;> omega
theorem per_lo {jd y mo pl : Int} (P : PER jd y mo pl) : TJ (y + 621) 3 21 ≤ jd := by
  rw [tj_eq]; exact P.kg.lo
theorem per_hi {jd y mo pl : Int} (P : PER jd y mo pl) : jd < TJ (y + 622) 3 21 := by
  rw [tj_eq]; have := P.kg.hi; rw [show y + 621 + 1 = y + 622 by omega] at this; exact this
/-- the Indian date of a day -/
def IND (jd a b c : Int) : Prop := ∃ x, Y1 x ≤ jd ∧ jd < Y1 (x + 1) ∧ IY x (jd - TJ x 1 1) = a ∧ IM x (jd - TJ x 1 1) = b ∧ ID x (jd - TJ x 1 1) = c
/-- of a day k of the year that begins with the equinox of g: which Gregorian year it lies in, and what the Indian reckoning sees -/
theorem ind_of {jd g k a b c : Int} (h1 : EQ g + k = jd) (h2 : 0 ≤ k) (h3 : k ≤ 364 + (if lp (g + 1) then 1 else 0))
    (hf : k ≤ 285 → Y1 g ≤ jd → jd < Y1 (g + 1) → IY g (79 + k + (if lp g then 1 else 0)) = a ∧ IM g (79 + k + (if lp g then 1 else 0)) = b ∧ ID g (79 + k + (if lp g then 1 else 0)) = c)
    (hg : 286 ≤ k → IY (g + 1) (k - 286) = a ∧ IM (g + 1) (k - 286) = b ∧ ID (g + 1) (k - 286) = c) : IND jd a b c := by
  have e1 := eq_y1 g
  have e2 := y1_eq g
  by_cases h : k ≤ 285
  · have i1 : Y1 g ≤ jd := by split at e1 <;> omega
    have i2 : jd < Y1 (g + 1) := by omega
    refine ⟨g, i1, i2, ?_⟩
    rw [tj_y1, show jd - Y1 g = 79 + k + (if lp g then 1 else 0) by omega]
    exact hf h i1 i2
  · have := y1_lt (x := g + 1) (y := g + 1 + 1) (by omega)
    have e3 := eq_y1 (g + 1)
    refine ⟨g + 1, by omega, by omega, ?_⟩
    rw [tj_y1, show jd - Y1 (g + 1) = k - 286 by omega]
    exact hg (by omega)
theorem pm_split (mo : Int) (h1 : 1 ≤ mo) (h2 : mo ≤ 12) : (mo ≤ 6 ∧ PM mo = (mo - 1) * 31) ∨ (7 ≤ mo ∧ PM mo = (mo - 1) * 30 + 6) := by
  unfold PM; split <;> omega
theorem ml_split (y mo : Int) (h1 : 1 ≤ mo) (h2 : mo ≤ 12) : (mo ≤ 6 ∧ ML y mo = 31) ∨ (7 ≤ mo ∧ ML y mo ≤ 30) := by
  unfold ML; (repeat' split) <;> omega
/-- behind the first month both calendars tell the day alike, whichever Gregorian year it lies in -/
theorem ind_late {x u k mo pl : Int} (hu : IU x u - CA x = k - 31) (hk : k = PM mo + pl - 1) (h2 : 2 ≤ mo) (h3 : mo ≤ 12) (h4 : 1 ≤ pl) (h5 : (mo ≤ 6 ∧ pl ≤ 31) ∨ (7 ≤ mo ∧ pl ≤ 30)) : IM x u = mo ∧ ID x u = pl := by
  have hp := pm_split mo (by omega) h3
  unfold IM ID
  rw [hu]
  have hn : ¬ IU x u < CA x := by omega
  rw [if_neg hn, if_neg hn]
  split <;> omega
theorem ind_a {jd y mo pl : Int} (P : PER jd y mo pl) (h : mo ≠ 1) : IND jd (y + 543) mo pl := by
  obtain ⟨a1, a2, a3, a4, a5⟩ := per_facts P
  have hm := ml_split y mo a1 a2
  have hp := pm_split mo a1 a2
  have hi := P.kg.hi
  have e := eq_next (y + 621)
  refine ind_of (g := y + 621) (k := PM mo + pl - 1) (by omega) (by omega) (by omega) (fun h1 _ _ => ?_) (fun h1 => ?_)
  · refine ⟨?_, ind_late (k := PM mo + pl - 1) ?_ rfl (by omega) a2 a3 (by omega)⟩
    · unfold IY; split <;> split <;> omega
    · unfold IU CA; cases lp (y + 621) <;> simp <;> split <;> omega
  · refine ⟨?_, ind_late (k := PM mo + pl - 1) ?_ rfl (by omega) a2 a3 (by omega)⟩
    · unfold IY; split <;> omega
    · unfold IU; split <;> omega
theorem ind_b {jd y mo pl : Int} (P : PER jd y mo pl) (h : mo = 1) (hl : lp (y + 621) = true) : IND jd (y + 543) mo pl := by
  obtain ⟨a1, a2, a3, a4, a5⟩ := per_facts P
  have hm := ml_split y mo a1 a2
  have hp := pm_split mo a1 a2
  have e := eq_next (y + 621)
  refine ind_of (g := y + 621) (k := PM mo + pl - 1) (by omega) (by omega) (by split <;> omega) (fun h1 _ _ => ?_) (fun h1 => by omega)
  have c := ca_t hl
  rw [hl, if_pos rfl]
  refine ⟨?_, ?_, ?_⟩
  · unfold IY; split <;> omega
  · unfold IM IU; (repeat' split) <;> omega
  · unfold ID IU; (repeat' split) <;> omega
theorem ind_c {jd y mo pl : Int} (P : PER jd y mo pl) (h : mo = 1) (hl : lp (y + 621) = false) (h6 : 1 < pl) : IND jd (y + 543) 1 (pl - 1) := by
  obtain ⟨a1, a2, a3, a4, a5⟩ := per_facts P
  have hm := ml_split y mo a1 a2
  have hp := pm_split mo a1 a2
  have e := eq_next (y + 621)
  refine ind_of (g := y + 621) (k := PM mo + pl - 1) (by omega) (by omega) (by split <;> omega) (fun h1 _ _ => ?_) (fun h1 => by omega)
  have c := ca_f hl
  rw [hl, if_neg (by decide)]
  refine ⟨?_, ?_, ?_⟩
  · unfold IY; split <;> omega
  · unfold IM IU; (repeat' split) <;> omega
  · unfold ID IU; (repeat' split) <;> omega
theorem ind_d {jd y mo pl : Int} (P : PER jd y mo pl) (h : mo = 1) (hl : lp (y + 621) = false) (h6 : ¬ 1 < pl) : IND jd (y + 542) 12 30 := by
  obtain ⟨a1, a2, a3, a4, a5⟩ := per_facts P
  have hm := ml_split y mo a1 a2
  have hp := pm_split mo a1 a2
  have e := eq_next (y + 621)
  refine ind_of (g := y + 621) (k := PM mo + pl - 1) (by omega) (by omega) (by split <;> omega) (fun h1 _ _ => ?_) (fun h1 => by omega)
  have c := ca_f hl
  rw [hl, if_neg (by decide)]
  refine ⟨?_, ?_, ?_⟩
  · unfold IY; split <;> omega
  · unfold IM IU; (repeat' split) <;> omega
  · unfold ID IU; (repeat' split) <;> omega
def TI (y mo d : Int) : Int := if mo = 1 then EQ (y + 78) + d - (if lp (y + 78) then 1 else 0) else EQ (y + 78) + 30 + d + (if mo ≤ 7 then (mo - 2) * 31 else 155 + (mo - 7) * 30)
theorem tj_22 (g : Int) : TJ g 3 22 = EQ g + 1 := by rw [← tj_eq]; unfold TJ; omega
theorem tj_22t (g : Int) : TJ g 3 (22 - if True then 1 else 0) = EQ g := by rw [if_pos trivial]; exact tj_eq g
theorem tj_22tt (g : Int) : TJ g 3 (22 - if true = true then 1 else 0) = EQ g := by rw [if_pos rfl]; exact tj_eq g
theorem tj_22ff (g : Int) : TJ g 3 (22 - if False then 1 else 0) = EQ g + 1 := by rw [if_neg not_false]; exact tj_22 g
theorem tj_22f (g : Int) : TJ g 3 (22 - if false = true then 1 else 0) = EQ g + 1 := by rw [if_neg Bool.false_ne_true]; exact tj_22 g
theorem ti_a {jd y mo pl : Int} (P : PER jd y mo pl) (h : mo ≠ 1) : TI (y + 543) mo pl = jd := by
  obtain ⟨a1, a2, a3, a4, a5⟩ := per_facts P
  have hp := pm_split mo a1 a2
  unfold TI
  rw [if_neg h, show y + 543 + 78 = y + 621 by omega]
  split <;> omega
theorem ti_b {jd y mo pl : Int} (P : PER jd y mo pl) (h : mo = 1) (hl : lp (y + 621) = true) : TI (y + 543) mo pl = jd := by
  obtain ⟨a1, a2, a3, a4, a5⟩ := per_facts P
  have hp := pm_split mo a1 a2
  unfold TI
  rw [if_pos h, show y + 543 + 78 = y + 621 by omega, if_pos hl]
  omega
theorem ti_c {jd y mo pl : Int} (P : PER jd y mo pl) (h : mo = 1) (hl : lp (y + 621) = false) : TI (y + 543) 1 (pl - 1) = jd := by
  obtain ⟨a1, a2, a3, a4, a5⟩ := per_facts P
  have hp := pm_split mo a1 a2
  unfold TI
  rw [if_pos rfl, show y + 543 + 78 = y + 621 by omega, hl, if_neg (by decide)]
  omega
theorem ti_d {jd y mo pl : Int} (P : PER jd y mo pl) (h : mo = 1) (hl : lp (y + 621) = false) (h6 : ¬ 1 < pl) : TI (y + 542) 12 30 = jd := by
  obtain ⟨a1, a2, a3, a4, a5⟩ := per_facts P
  have hp := pm_split mo a1 a2
  have e := eq_next (y + 620)
  rw [show y + 620 + 1 = y + 621 by omega, hl, if_neg (by decide)] at e
  unfold TI
  rw [if_neg (by decide), show y + 542 + 78 = y + 620 by omega, if_neg (by decide)]
  omega
theorem bne_off {a b : Int} (h : a = b) : (a != b) = false := by subst h; simp
theorem bneb_off {a b : Bool} (h : a = b) : (a != b) = false := by subst h; simp
theorem ml12_t {y : Int} (h : lp (y + 622) = true) : ML y 12 = 30 := by unfold ML; rw [if_neg (by omega), if_neg (by omega), if_pos h]
theorem ml12_f {y : Int} (h : lp (y + 622) = false) : ML y 12 = 29 := by unfold ML; rw [if_neg (by omega), if_neg (by omega), h]; rfl
theorem ml_tab {y mo z : Int} (h1 : 1 ≤ mo) (h2 : mo ≤ 12) (hz : ML y 12 = z) : ([31, 31, 31, 31, 31, 31, 30, 30, 30, 30, 30, z] : List Int).getD (mo - 1).toNat 0 = ML y mo := by
  have h : mo = 1 ∨ mo = 2 ∨ mo = 3 ∨ mo = 4 ∨ mo = 5 ∨ mo = 6 ∨ mo = 7 ∨ mo = 8 ∨ mo = 9 ∨ mo = 10 ∨ mo = 11 ∨ mo = 12 := by omega
  rcases h with rfl | rfl | rfl | rfl | rfl | rfl | rfl | rfl | rfl | rfl | rfl | rfl
  all_goals first | rfl | exact hz.symm
open_top hd for PySem.Challenge.rw_bd0003_01

/-- what a def promises at every call of it: `f` its address, `n` how deep it calls, `vs` the arguments, `O` what is handed back -/
def Ctr (w : World) (mean : ExcName → Option Value) (mg mb : Str → Option Value) (f : Addr) (n : Nat) (vs : List Value)
    (O : Heap → Addr → (Str → Option Value) → List (Addr × Obj) → Shared → (Value → Shared → Prop) → Prop) : Prop :=
  ∀ (dp un : Nat) (gd : Option (List Code)) (cn : Str) (cs : Scope) (a : Addr) (ccd : Value) (cl : List (Str × Addr)) (outer : List Env) (A₀ : Around) (base h₀ : Heap) (L : Addr) (m : Str → Option Value) (news : List (Addr × Obj)) (s : Shared) (Q E : Value → Shared → Prop),
    Below A₀ base outer h₀ → Fr h₀ L s.heap m → (hd.heap_39 w.params).In h₀ → News h₀ L s.heap news → Top hd.view_39 (looseW hd.view_39 [Str.ofString "to_jd_gregorian", Str.ofString "from_jd_gregorian", Str.ofString "to_jd_persian", Str.ofString "from_jd_persian", Str.ofString "to_jd_indian_civil", Str.ofString "from_jd_indian_civil"]) mean mg mb h₀ → cs.kind = .function → dp + n < recursionLimit → un + 8 * n < cLine →
    O h₀ L m news s Q →
    wpAny (model PySem.Challenge.rw_bd0003_01.row.prog w) (ktrTop dp un gd cn cs L a ccd cl outer) (call (.ref f) vs) Q E s

abbrev OB (b : Bool) (h₀ : Heap) (L : Addr) (m : Str → Option Value) (news : List (Addr × Obj)) (s : Shared) (Q : Value → Shared → Prop) : Prop :=
  ∀ (h' : Heap) (tk' : Nat), Fr h₀ L h' m → News h₀ L h' news → Q (.bool b) { s with heap := h', toks := tk' }
abbrev OI (x : Int) (h₀ : Heap) (L : Addr) (m : Str → Option Value) (news : List (Addr × Obj)) (s : Shared) (Q : Value → Shared → Prop) : Prop :=
  ∀ (t : Tok) (h' : Heap) (tk' : Nat), Fr h₀ L h' m → News h₀ L h' news → Q (.int x t) { s with heap := h', toks := tk' }
abbrev O2 (x y : Int) (h₀ : Heap) (L : Addr) (m : Str → Option Value) (news : List (Addr × Obj)) (s : Shared) (Q : Value → Shared → Prop) : Prop :=
  ∀ (D : Addr) (t1 t2 : Tok) (c : Nat) (h' : Heap) (tk' : Nat), Fr h₀ L h' m → News h₀ L h' ((D, ({ cls := .type "tuple", data := .seq #[.int x t1, .int y t2] c } : Obj)) :: news) → AllLt D news → Q (.ref D) { s with heap := h', toks := tk' }
abbrev O3 (x y z : Int) (h₀ : Heap) (L : Addr) (m : Str → Option Value) (news : List (Addr × Obj)) (s : Shared) (Q : Value → Shared → Prop) : Prop :=
  ∀ (D : Addr) (t1 t2 t3 : Tok) (c : Nat) (h' : Heap) (tk' : Nat), Fr h₀ L h' m → News h₀ L h' ((D, ({ cls := .type "tuple", data := .seq #[.int x t1, .int y t2, .int z t3] c } : Obj)) :: news) → AllLt D news → Q (.ref D) { s with heap := h', toks := tk' }



section
variable {w : World} {mean : ExcName → Option Value} {mg mb : Str → Option Value} {f : Addr} {n : Nat} {vs : List Value}
  {O : Heap → Addr → (Str → Option Value) → List (Addr × Obj) → Shared → (Value → Shared → Prop) → Prop}
theorem ctr_use {dp un : Nat} {gd : Option (List Code)} {cn : Str} {cs : Scope} {a : Addr} {ccd : Value} {cl : List (Str × Addr)} {outer : List Env} {A₀ : Around} {base h₀ : Heap} {L : Addr} {m : Str → Option Value} {news : List (Addr × Obj)} {s : Shared} {Q E : Value → Shared → Prop}
    (C : Ctr w mean mg mb f n vs O)
    (B : Below A₀ base outer h₀) (F : Fr h₀ L s.heap m) (X : (hd.heap_39 w.params).In h₀) (N : News h₀ L s.heap news)
    (T : Top hd.view_39 (looseW hd.view_39 [Str.ofString "to_jd_gregorian", Str.ofString "from_jd_gregorian", Str.ofString "to_jd_persian", Str.ofString "from_jd_persian", Str.ofString "to_jd_indian_civil", Str.ofString "from_jd_indian_civil"]) mean mg mb h₀)
    (hk : cs.kind = .function) (hd : dp + n < recursionLimit) (hu : un + 8 * n < cLine) (ret : O h₀ L m news s Q) :
    wpAny (model PySem.Challenge.rw_bd0003_01.row.prog w) (ktrTop dp un gd cn cs L a ccd cl outer) (call (.ref f) vs) Q E s :=
  C _ _ _ _ _ _ _ _ _ _ _ _ _ _ _ _ _ _ B F X N T hk hd hu ret
end

section
variable {h₀ h' : Heap} {L : Addr} {m : Str → Option Value} {news news' : List (Addr × Obj)} {s : Shared} {Q : Value → Shared → Prop} {tk' : Nat}
theorem ob_end {b b' : Bool} (hret : OB b h₀ L m news s Q) (e : b' = b) (F : Fr h₀ L h' m) (N : News h₀ L h' news) : Q (.bool b') { s with heap := h', toks := tk' } := by
  subst e; exact hret h' tk' F N
theorem oi_end {x x' : Int} {t : Tok} (hret : OI x h₀ L m news s Q) (e : x' = x) (F : Fr h₀ L h' m) (N : News h₀ L h' news) : Q (.int x' t) { s with heap := h', toks := tk' } := by
  subst e; exact hret t h' tk' F N
theorem o2_end {x x' y y' : Int} {D : Addr} {t1 t2 : Tok} {c : Nat} (hret : O2 x y h₀ L m news s Q) (e1 : x' = x) (e2 : y' = y) (F : Fr h₀ L h' m)
    (N : News h₀ L h' ((D, ({ cls := .type "tuple", data := .seq #[.int x' t1, .int y' t2] c } : Obj)) :: news)) (l : AllLt D news) : Q (.ref D) { s with heap := h', toks := tk' } := by
  subst e1; subst e2; exact hret D t1 t2 c h' tk' F N l
theorem o3_end {x x' y y' z z' : Int} {D : Addr} {t1 t2 t3 : Tok} {c : Nat} (hret : O3 x y z h₀ L m news s Q) (e1 : x' = x) (e2 : y' = y) (e3 : z' = z) (F : Fr h₀ L h' m)
    (N : News h₀ L h' ((D, ({ cls := .type "tuple", data := .seq #[.int x' t1, .int y' t2, .int z' t3] c } : Obj)) :: news)) (l : AllLt D news) : Q (.ref D) { s with heap := h', toks := tk' } := by
  subst e1; subst e2; subst e3; exact hret D t1 t2 t3 c h' tk' F N l
end

theorem o3_end1 {h₀ h' : Heap} {L : Addr} {m : Str → Option Value} {news : List (Addr × Obj)} {s : Shared} {Q : Value → Shared → Prop} {tk' : Nat} {x x' y y' z z' : Int} {D : Addr} {t1 t2 t3 : Tok} {c : Nat} {r : Addr × Obj} {p : Prop} (hret : O3 x y z h₀ L m news s Q) (e1 : x' = x) (e2 : y' = y) (e3 : z' = z) (F : Fr h₀ L h' m)
    (N : News h₀ L h' ((D, ({ cls := .type "tuple", data := .seq #[.int x' t1, .int y' t2, .int z' t3] c } : Obj)) :: r :: news)) (l : p ∧ AllLt D news) : Q (.ref D) { s with heap := h', toks := tk' } :=
  o3_end hret e1 e2 e3 F (fun q hq => by
    rcases List.mem_cons.mp hq with rfl | hq
    · exact N _ (.head _)
    · exact N _ (.tail _ (.tail _ hq))) l.2
theorem news_tl {h₀ h : Heap} {L : Addr} {q : Addr × Obj} {news : List (Addr × Obj)} (N : News h₀ L h (q :: news)) : News h₀ L h news := fun p hp => N p (.tail _ hp)
theorem in_top {prog : Program} {w : World} {A : Around} {E : Value → Shared → Prop} {s : Shared} {K : Frag} {h₀ : Heap} {L : Addr} {m : Str → Option Value} {t : Addr} {items : Array Value} {c : Nat} {od : Option Addr} {osl : Array (Option Value)} {ns : List Int} {x : Int} {u : Tok} {Q : Value → Shared → Prop}
    (F : Fr h₀ L s.heap m) (X : K.In h₀) (hl : K.lookup t = some ⟨.type "tuple", od, .seq items c, osl⟩) (hi : IntsAre items.toList ns) (h : Q (.bool (ns.any (· == x))) s) :
    wpAny (model prog w) A (compareOp .In (.int x u) (.ref t)) Q E s :=
  in_tuple_ints ⟨_, F.keep _ _ (X _ _ hl), rfl, _, rfl⟩ hi h
theorem lp_a {y : Int} (h : y.fmod 4 = 0) (k : y.fmod 100 ≠ 0) : (y.fmod 100 != 0) = lp y := by
  rw [fm _ _ (by decide)] at h k ⊢
  simp [lp, h, k]
theorem lp_b {y : Int} (h : y.fmod 4 = 0) (k : y.fmod 100 = 0) : (y.fmod 400 == 0) = lp y := by
  rw [fm _ _ (by decide)] at h k ⊢
  simp only [lp, h, k]; simp; rfl
theorem lp_c {y : Int} (h : y.fmod 4 ≠ 0) : (y.fmod 4 == 0) = lp y := by
  rw [fm _ _ (by decide)] at h ⊢
  simp [lp, h]
variable {w : World} {mean : ExcName → Option Value} {mg mb : Str → Option Value}
theorem c_isleap (y : Int) (ty : Tok) :
    Ctr w mean mg mb 21 1 [.int y ty] (OB (lp y)) := by
  unfold Ctr
  k_fill
  intro dp un gd cn cs a ccd cl outer A₀ base h₀ L m news s Q E B F X N T hk hdp hun hret
  refine wpAny_call ?_
  k_dflt cell_enter
  k_steps
  all_goals (refine ob_end hret ?_ (by assumption) (by assumption))
  · exact lp_a (by assumption) (by assumption)
  · exact lp_b (by assumption) (by assumption)
  · exact lp_c (by assumption)
local macro_rules | `(tactic| walk_at "eval Call") => `(tactic| (k_here; k_dflt (refine Call_ ?_)))
local macro_rules | `(tactic| walk_at "call ref") => `(tactic| (k_here; (with_reducible show wpAny _ _ (PySem.call (Value.ref 21) [Value.int _ _]) _ _ _); k_dflt (refine' ctr_use (c_isleap _ _) ?k1 ?k2 ?k3 ?k4 ?k5 ?kK ?kd ?ku ?_; (case k1 => k_asm); (case k2 => k_asm); (case k3 => k_asm); (case k4 => k_asm); (case k5 => k_asm); (case kK => first | exact rfl | assumption); (case kd => ktr_room); (case ku => ktr_units); k_whole); intro h9 tk9 F9 N9; (try dsimp only); (try k_fold)))
local macro_rules | `(tactic| walk_at "compareOp In int ref") => `(tactic| (k_here; (with_reducible show wpAny _ _ (compareOp CmpOp.In (Value.int _ _) (Value.ref _)) _ _ _); k_dflt (refine' in_top ?k1 ?k2 ?k3 ?k4 ?_; (case k1 => k_asm); (case k2 => k_asm); (case k3 => k_is); (case k4 => repeat constructor); k_whole)))
theorem c_legal (y mo d : Int) (ty tm td : Tok) (h1 : 1 ≤ d) (h2 : d ≤ 28) :
    Ctr w mean mg mb 29 2 [.int y ty, .int mo tm, .int d td] (OB true) := by
  unfold Ctr
  k_fill
  intro dp un gd cn cs a ccd cl outer A₀ base h₀ L m news s Q E B F X N T hk hdp hun hret
  refine wpAny_call ?_
  k_dflt cell_enter
  k_steps
  all_goals exact ob_end hret rfl (by assumption) (by assumption)
theorem tj_a {y mo d : Int} (h : mo ≤ 2) : 1721426 - 1 + 365 * (y - 1) + (y - 1).fdiv 4 + -(y - 1).fdiv 100 + (y - 1).fdiv 400 + ((367 * mo - 362).fdiv 12 + 0 + d) = TJ y mo d := by
  unfold TJ
  rw [if_pos h, fd _ _ (by decide), fd _ _ (by decide), fd _ _ (by decide), fd _ _ (by decide)]; omega
theorem tj_b {y mo d : Int} (h : ¬ mo ≤ 2) (k : lp y = true) : 1721426 - 1 + 365 * (y - 1) + (y - 1).fdiv 4 + -(y - 1).fdiv 100 + (y - 1).fdiv 400 + ((367 * mo - 362).fdiv 12 + -1 + d) = TJ y mo d := by
  unfold TJ
  rw [if_neg h, if_pos k, fd _ _ (by decide), fd _ _ (by decide), fd _ _ (by decide), fd _ _ (by decide)]; omega
theorem tj_c {y mo d : Int} (h : ¬ mo ≤ 2) (k : lp y = false) : 1721426 - 1 + 365 * (y - 1) + (y - 1).fdiv 4 + -(y - 1).fdiv 100 + (y - 1).fdiv 400 + ((367 * mo - 362).fdiv 12 + -2 + d) = TJ y mo d := by
  unfold TJ
  rw [if_neg h, k, if_neg (by decide), fd _ _ (by decide), fd _ _ (by decide), fd _ _ (by decide), fd _ _ (by decide)]; omega
local macro_rules | `(tactic| walk_at "call ref") => `(tactic| (k_here; (with_reducible show wpAny _ _ (PySem.call (Value.ref 29) [Value.int _ _, Value.int _ _, Value.int _ _]) _ _ _); k_dflt (refine' ctr_use (c_legal _ _ _ _ _ _ ?p1 ?p2) ?k1 ?k2 ?k3 ?k4 ?k5 ?kK ?kd ?ku ?_; (case p1 => omega); (case p2 => omega); (case k1 => k_asm); (case k2 => k_asm); (case k3 => k_asm); (case k4 => k_asm); (case k5 => k_asm); (case kK => first | exact rfl | assumption); (case kd => ktr_room); (case ku => ktr_units); k_whole); intro h9 tk9 F9 N9; (try dsimp only); (try k_fold)))
theorem c_tjg (y mo d : Int) (ty tm td : Tok) (h1 : 1 ≤ d) (h2 : d ≤ 28) :
    Ctr w mean mg mb 36 3 [.int y ty, .int mo tm, .int d td] (OI (TJ y mo d)) := by
  unfold Ctr
  k_fill
  intro dp un gd cn cs a ccd cl outer A₀ base h₀ L m news s Q E B F X N T hk hdp hun hret
  refine wpAny_call ?_
  k_dflt cell_enter
  k_steps
  all_goals (refine oi_end hret ?_ (by assumption) (by assumption))
  · exact tj_a (by assumption)
  · exact tj_b (by assumption) (by assumption)
  · exact tj_c (by assumption) (by assumption)
local macro_rules | `(tactic| walk_at "call ref") => `(tactic| (k_here; (with_reducible show wpAny _ _ (PySem.call (Value.ref 36) [Value.int _ _, Value.int _ _, Value.int _ _]) _ _ _); k_dflt (refine' ctr_use (c_tjg _ _ _ _ _ _ ?p1 ?p2) ?k1 ?k2 ?k3 ?k4 ?k5 ?kK ?kd ?ku ?_; (case p1 => omega); (case p2 => omega); (case k1 => k_asm); (case k2 => k_asm); (case k3 => k_asm); (case k4 => k_asm); (case k5 => k_asm); (case kK => first | exact rfl | assumption); (case kd => ktr_room); (case ku => ktr_units); k_whole); intro t9 h9 tk9 F9 N9; (try dsimp only); (try k_fold)))
theorem c_equ (g : Int) (tg : Tok) : Ctr w mean mg mb 108 4 [.int g tg] (OI (EQ g)) := by
  unfold Ctr
  k_fill
  intro dp un gd cn cs a ccd cl outer A₀ base h₀ L m news s Q E B F X N T hk hdp hun hret
  refine wpAny_call ?_
  k_dflt cell_enter
  k_steps
  all_goals (refine oi_end hret ?_ (by assumption) (by assumption))
  exact tj_eq g
abbrev O3y (x : Int) (h₀ : Heap) (L : Addr) (m : Str → Option Value) (news : List (Addr × Obj)) (s : Shared) (Q : Value → Shared → Prop) : Prop :=
  ∀ (D : Addr) (t1 t2 t3 : Tok) (mo da : Int) (c : Nat) (h' : Heap) (tk' : Nat), Fr h₀ L h' m → News h₀ L h' ((D, ({ cls := .type "tuple", data := .seq #[.int x t1, .int mo t2, .int da t3] c } : Obj)) :: news) → AllLt D news → Q (.ref D) { s with heap := h', toks := tk' }
theorem o3y_end {h₀ h' : Heap} {L : Addr} {m : Str → Option Value} {news : List (Addr × Obj)} {s : Shared} {Q : Value → Shared → Prop} {tk' : Nat} {x x' y z : Int} {D : Addr} {t1 t2 t3 : Tok} {c : Nat} (hret : O3y x h₀ L m news s Q) (e1 : x' = x) (F : Fr h₀ L h' m)
    (N : News h₀ L h' ((D, ({ cls := .type "tuple", data := .seq #[.int x' t1, .int y t2, .int z t3] c } : Obj)) :: news)) (l : AllLt D news) : Q (.ref D) { s with heap := h', toks := tk' } := by
  subst e1; exact hret D t1 t2 t3 y z c h' tk' F N l
def YrMark : Prop := True
def YrDone (P : Prop) : Prop := P
theorem yr_done {P : Prop} (h : P) : YrDone P := h
/-- the Gregorian year that a day lies in -/
structure GY (jd x : Int) : Prop where
  lo : Y1 x ≤ jd
  hi : jd < Y1 (x + 1)
/-- what stands behind the «if not ..»: the year itself under its name -/
def YrMid (h₀ : Heap) (L : Addr) (m : Str → Option Value) (news : List (Addr × Obj)) (s : Shared) (x : Int) (n : Str) (fl : Flow) (s' : Shared) : Prop :=
  ∃ (t : Tok) (h : Heap) (tk : Nat), fl = .next ∧ s' = { s with heap := h, toks := tk } ∧ Fr h₀ L h (fun y => if y = n then some (.int x t) else m y) ∧ News h₀ L h news
theorem fr_put {h₀ h : Heap} {L : Addr} {m : Str → Option Value} {x : Str} {v : Value} (F : Fr h₀ L h m) (hx : m x = some v) : Fr h₀ L h (fun y => if y = x then some v else m y) := by
  have e : (fun y => if y = x then some v else m y) = m := by
    funext y
    by_cases hy : y = x
    · rw [if_pos hy, hy, hx]
    · rw [if_neg hy]
  rw [e]; exact F
theorem yr_end {h₀ h : Heap} {L : Addr} {m : Str → Option Value} {news : List (Addr × Obj)} {s : Shared} {x x' : Int} {n : Str} {t : Tok} {tk : Nat} (F : Fr h₀ L h (fun y => if y = n then some (.int x' t) else m y)) (N : News h₀ L h news) (e : x' = x) : YrMid h₀ L m news s x n .next { s with heap := h, toks := tk } := by
  subst e; exact ⟨t, h, tk, rfl, rfl, F, N⟩
theorem yr_cut {M : Model} {A : Around} {E : Value → Shared → Prop} {Q : Flow → Shared → Prop} {s : Shared} {h₀ : Heap} {L : Addr} {m : Str → Option Value} {news : List (Addr × Obj)} {cm : Sem Flow} {jd x : Int} (n : Str) (gP : GY jd x)
    (fF : Fr h₀ L s.heap m) (nN : News h₀ L s.heap news) (hc : YrMark → wpAny M A cm (YrMid h₀ L m news s x n) E s)
    (hk : YrDone (∀ (t : Tok) (h : Heap) (tk : Nat), Fr h₀ L h (fun y => if y = n then some (.int x t) else m y) → News h₀ L h news → Q .next { s with heap := h, toks := tk })) : wpAny M A cm Q E s := by
  refine wpAny_mono (hc trivial) (fun fl s₂ hq => ?_) fun _ _ h => h
  obtain ⟨t, h, tk, rfl, rfl, F, N⟩ := hq
  exact hk t h tk F N
theorem gy_c {jd x : Int} (g : GY jd x) (h : ((jd - 1721426).fmod 146097).fdiv 36524 = 4) : (jd - 1721426).fdiv 146097 * 400 + ((jd - 1721426).fmod 146097).fdiv 36524 * 100 + (((jd - 1721426).fmod 146097).fmod 36524).fdiv 1461 * 4 + ((((jd - 1721426).fmod 146097).fmod 36524).fmod 1461).fdiv 365 = x := yr_c g.lo g.hi h
theorem gy_i {jd x : Int} (g : GY jd x) (h : ((((jd - 1721426).fmod 146097).fmod 36524).fmod 1461).fdiv 365 = 4) : (jd - 1721426).fdiv 146097 * 400 + ((jd - 1721426).fmod 146097).fdiv 36524 * 100 + (((jd - 1721426).fmod 146097).fmod 36524).fdiv 1461 * 4 + ((((jd - 1721426).fmod 146097).fmod 36524).fmod 1461).fdiv 365 = x := yr_i g.lo g.hi h
theorem gy_n {jd x : Int} (g : GY jd x) (h : ((jd - 1721426).fmod 146097).fdiv 36524 ≠ 4) (k : ((((jd - 1721426).fmod 146097).fmod 36524).fmod 1461).fdiv 365 ≠ 4) : (jd - 1721426).fdiv 146097 * 400 + ((jd - 1721426).fmod 146097).fdiv 36524 * 100 + (((jd - 1721426).fmod 146097).fmod 36524).fdiv 1461 * 4 + ((((jd - 1721426).fmod 146097).fmod 36524).fmod 1461).fdiv 365 + 1 = x := yr_n g.lo g.hi h k
local macro_rules | `(tactic| walk_at "exec If") => `(tactic| (k_here; (with_reducible show wpAny _ _ (PySem.exec (PySem.Stmt.If (PySem.Expr.UnaryOp PySem.UnaryOp.Not _ _) _ _ _) _) _ _ _); (fail_if_success (rename YrMark => dM')); (rename Fr _ _ _ _ => cF'); (rename News _ _ _ _ => cN'); (k_dflt (refine' yr_cut (PySem.Str.ofString "year") ?P cF' cN' (fun dM' => ?_) ?_; (case P => with_reducible assumption))); (all_goals (try k_fold)); walk_say "CUT year"))
local macro_rules | `(tactic| walk_at "YrDone") => `(tactic| (refine yr_done ?_; intro t h tk F N; (try dsimp only); (try k_sweep)))
local macro_rules | `(tactic| walk_at "YrMid") => `(tactic| (k_dflt (refine' yr_end ?F ?N ?e; (case F => first | assumption | (refine fr_put ?F1 ?F2; (case F1 => assumption); (case F2 => with_unfolding_all rfl))); (case N => assumption); (case e => first | with_reducible exact gy_c (by assumption) (by assumption) | with_reducible exact gy_i (by assumption) (by assumption) | with_reducible exact gy_n (by assumption) (by assumption) (by assumption)))))
theorem c_fjg (jd x : Int) (tj : Tok) (h1 : Y1 x ≤ jd) (h2 : jd < Y1 (x + 1)) : Ctr w mean mg mb 43 4 [.int jd tj] (O3y x) := by
  have g : GY jd x := ⟨h1, h2⟩
  clear h1 h2
  unfold Ctr
  k_fill
  intro dp un gd cn cs a ccd cl outer A₀ base h₀ L m news s Q E B F X N T hk hdp hun hret
  refine wpAny_call ?_
  k_dflt cell_enter
  k_steps
  all_goals exact o3y_end hret rfl (by assumption) (by assumption) (allLt_of (by assumption))
local macro_rules | `(tactic| walk_at "call ref") => `(tactic| (k_here; (with_reducible show wpAny _ _ (PySem.call (Value.ref 108) [Value.int _ _]) _ _ _); k_dflt (refine' ctr_use (c_equ _ _) ?k1 ?k2 ?k3 ?k4 ?k5 ?kK ?kd ?ku ?_; (case k1 => k_asm); (case k2 => k_asm); (case k3 => k_asm); (case k4 => k_asm); (case k5 => k_asm); (case kK => first | exact rfl | assumption); (case kd => ktr_room); (case ku => ktr_units); k_whole); intro t9 h9 tk9 F9 N9; (try dsimp only); (try k_fold)))
local macro_rules | `(tactic| walk_at "call ref") => `(tactic| (k_here; (with_reducible show wpAny _ _ (PySem.call (Value.ref 43) [Value.int _ _]) _ _ _); k_dflt (refine' ctr_use (c_fjg _ _ _ ?p1 ?p2) ?k1 ?k2 ?k3 ?k4 ?k5 ?kK ?kd ?ku ?_; (case p1 => assumption); (case p2 => assumption); (case k1 => k_asm); (case k2 => k_asm); (case k3 => k_asm); (case k4 => k_asm); (case k5 => k_asm); (case kK => first | exact rfl | assumption); (case kd => ktr_room); (case ku => ktr_units); k_whole); intro D9 t91 t92 t93 mo9 da9 c9 h9 tk9 F9 N9 l9; (try dsimp only); (try k_fold)))
local macro_rules | `(tactic| walk_at "exec While Compare cons nil") => `(tactic| (k_here; k_dflt (refine whl_start 9 ?_)))
local macro_rules | `(tactic| walk_at "exec While Compare") => `(tactic| (k_here; k_dflt (refine whl_start 9 ?_)))
local macro_rules | `(tactic| walk_at "exec While UnaryOp") => `(tactic| (k_here; k_dflt (refine whl_start 9 ?_)))
local macro_rules | `(tactic| walk_at "exec While") => `(tactic| (k_here; k_dflt (refine whl_start 9 ?_)))
local macro_rules | `(tactic| walk_at "WhlIf") => `(tactic| k_dflt (first | (refine WhlIf.yes (decide_eq_true (by omega)) ?_) | (refine WhlIf.no (decide_eq_false (by omega)) ?_) | (refine WhlIf.yes (nd_t (by omega)) ?_) | (refine WhlIf.no (nd_f (by omega)) ?_)))

theorem c_leqA (jd g : Int) (tj : Tok) (h : KG jd g) (h1 : Y1 g ≤ jd) (h2 : jd < Y1 (g + 1)) : Ctr w mean mg mb 59 5 [.int jd tj, .ref 108] (OI (EQ g - 1)) := by
  obtain ⟨h3, h4, h5, h6⟩ := h
  unfold Ctr
  k_fill
  intro dp un gd cn cs a ccd cl outer A₀ base h₀ L m news s Q E B F X N T hk hdp hun hret
  refine wpAny_call ?_
  k_dflt cell_enter
  k_steps
  all_goals exact oi_end hret rfl (by assumption) (news_tl (by assumption))
theorem c_leqB (jd x : Int) (tj : Tok) (h3 : EQ (x - 1) ≤ jd) (h4 : jd < EQ x) (h1 : Y1 x ≤ jd) (h2 : jd < Y1 (x + 1)) : Ctr w mean mg mb 59 5 [.int jd tj, .ref 108] (OI (EQ (x - 1) - 1)) := by
  have hz : EQ (x - 1 + 1) = EQ x := congrArg EQ (by omega)
  unfold Ctr
  k_fill
  intro dp un gd cn cs a ccd cl outer A₀ base h₀ L m news s Q E B F X N T hk hdp hun hret
  refine wpAny_call ?_
  k_dflt cell_enter
  k_steps
  all_goals exact oi_end hret rfl (by assumption) (news_tl (by assumption))
theorem c_leq (jd g : Int) (tj : Tok) (h : KG jd g) : Ctr w mean mg mb 59 5 [.int jd tj, .ref 108] (OI (EQ g - 1)) := by
  obtain ⟨h3, h4, h7, h8⟩ := h
  have h5 := y1_le_eq g
  have h6 := eq_lt_y1 (g + 1)
  by_cases h : jd < Y1 (g + 1)
  · exact c_leqA jd g tj ⟨h3, h4, h7, h8⟩ (by omega) h
  · have c := c_leqB (w := w) (mean := mean) (mg := mg) (mb := mb) jd (g + 1) tj (by rw [Int.add_sub_cancel]; exact h3) h4 (by omega) (by omega)
    rw [Int.add_sub_cancel] at c
    exact c
local macro_rules | `(tactic| walk_at "call ref") => `(tactic| (k_here; (with_reducible show wpAny _ _ (PySem.call (Value.ref 59) [Value.int _ _, Value.ref _]) _ _ _); k_dflt (refine' ctr_use (c_leq _ _ _ ?p1) ?k1 ?k2 ?k3 ?k4 ?k5 ?kK ?kd ?ku ?_; (case p1 => assumption); (case k1 => k_asm); (case k2 => k_asm); (case k3 => k_asm); (case k4 => k_asm); (case k5 => k_asm); (case kK => first | exact rfl | assumption); (case kd => ktr_room); (case ku => ktr_units); k_whole); intro t9 h9 tk9 F9 N9; (try dsimp only); (try k_fold)))

theorem c_jtp (jd g : Int) (tj : Tok) (h : KG jd g) : Ctr w mean mg mb 66 6 [.int jd tj, .ref 108] (O2 (g - 621) (EQ g - 1)) := by
  unfold Ctr
  k_fill
  intro dp un gd cn cs a ccd cl outer A₀ base h₀ L m news s Q E B F X N T hk hdp hun hret
  refine wpAny_call ?_
  k_dflt cell_enter
  k_steps
  all_goals exact o2_end hret (py_eq h.b1 h.b2) rfl (by assumption) (by assumption) (allLt_of (by assumption))
local macro_rules | `(tactic| walk_at "call ref") => `(tactic| (k_here; (with_reducible show wpAny _ _ (PySem.call (Value.ref 66) [Value.int _ _, Value.ref _]) _ _ _); k_dflt (refine' ctr_use (c_jtp _ _ _ ?p1) ?k1 ?k2 ?k3 ?k4 ?k5 ?kK ?kd ?ku ?_; (case p1 => assumption); (case k1 => k_asm); (case k2 => k_asm); (case k3 => k_asm); (case k4 => k_asm); (case k5 => k_asm); (case kK => first | exact rfl | assumption); (case kd => ktr_room); (case ku => ktr_units); k_whole); intro D9 t91 t92 c9 h9 tk9 F9 N9 l9; (try dsimp only); (try k_fold)))

theorem c_tjpA (y mo d : Int) (ty tm td : Tok) (h1 : -109000 ≤ y) (h2 : y ≤ 109000) (k0 : KG (1948321 - 1 + (36524219878 * (y - 1 - 1)).fdiv 100000000) (y + 619)) :
    Ctr w mean mg mb 73 7 [.int y ty, .int mo tm, .int d td, .ref 108] (OI (EQ (y + 621) - 1 + PM mo + d)) := by
  have k1 : KG (EQ (y + 619) - 1 + (36524219878 : Int).fdiv 100000000 + 2) (y + 620) := kg_next (by omega) (by omega) (by omega)
  have k2 : KG (EQ (y + 620) - 1 + (36524219878 : Int).fdiv 100000000 + 2) (y + 621) := kg_next (by omega) (by omega) (by omega)
  unfold Ctr
  k_fill
  intro dp un gd cn cs a ccd cl outer A₀ base h₀ L m news s Q E B F X N T hk hdp hun hret
  refine wpAny_call ?_
  k_dflt cell_enter
  k_steps
  all_goals first
    | exact oi_end hret (by have := pm_a (mo := mo) (by assumption); omega) (by assumption) (by first | assumption | exact news_tl (by assumption) | exact news_tl (news_tl (by assumption)) | exact news_tl (news_tl (news_tl (by assumption))) | exact news_tl (news_tl (news_tl (news_tl (by assumption)))) | exact news_tl (news_tl (news_tl (news_tl (news_tl (by assumption))))) | exact news_tl (news_tl (news_tl (news_tl (news_tl (news_tl (by assumption)))))))
    | exact oi_end hret (by have := pm_b (mo := mo) (by assumption); omega) (by assumption) (by first | assumption | exact news_tl (by assumption) | exact news_tl (news_tl (by assumption)) | exact news_tl (news_tl (news_tl (by assumption))) | exact news_tl (news_tl (news_tl (news_tl (by assumption)))) | exact news_tl (news_tl (news_tl (news_tl (news_tl (by assumption))))) | exact news_tl (news_tl (news_tl (news_tl (news_tl (news_tl (by assumption)))))))

theorem c_tjpB (y mo d : Int) (ty tm td : Tok) (h1 : -109000 ≤ y) (h2 : y ≤ 109000) (k0 : KG (1948321 - 1 + (36524219878 * (y - 1 - 1)).fdiv 100000000) (y + 620)) :
    Ctr w mean mg mb 73 7 [.int y ty, .int mo tm, .int d td, .ref 108] (OI (EQ (y + 621) - 1 + PM mo + d)) := by
  have k2 : KG (EQ (y + 620) - 1 + (36524219878 : Int).fdiv 100000000 + 2) (y + 621) := kg_next (by omega) (by omega) (by omega)
  unfold Ctr
  k_fill
  intro dp un gd cn cs a ccd cl outer A₀ base h₀ L m news s Q E B F X N T hk hdp hun hret
  refine wpAny_call ?_
  k_dflt cell_enter
  k_steps
  all_goals first
    | exact oi_end hret (by have := pm_a (mo := mo) (by assumption); omega) (by assumption) (by first | assumption | exact news_tl (by assumption) | exact news_tl (news_tl (by assumption)) | exact news_tl (news_tl (news_tl (by assumption))) | exact news_tl (news_tl (news_tl (news_tl (by assumption)))) | exact news_tl (news_tl (news_tl (news_tl (news_tl (by assumption))))) | exact news_tl (news_tl (news_tl (news_tl (news_tl (news_tl (by assumption)))))))
    | exact oi_end hret (by have := pm_b (mo := mo) (by assumption); omega) (by assumption) (by first | assumption | exact news_tl (by assumption) | exact news_tl (news_tl (by assumption)) | exact news_tl (news_tl (news_tl (by assumption))) | exact news_tl (news_tl (news_tl (news_tl (by assumption)))) | exact news_tl (news_tl (news_tl (news_tl (news_tl (by assumption))))) | exact news_tl (news_tl (news_tl (news_tl (news_tl (news_tl (by assumption)))))))

theorem c_tjp (y mo d : Int) (ty tm td : Tok) (h1 : -109000 ≤ y) (h2 : y ≤ 109000) :
    Ctr w mean mg mb 73 7 [.int y ty, .int mo tm, .int d td, .ref 108] (OI (EQ (y + 621) - 1 + PM mo + d)) := by
  have k1 := g0_lo h1 h2
  have k2 := g0_hi h1 h2
  by_cases h : 1948321 - 1 + (36524219878 * (y - 1 - 1)).fdiv 100000000 < EQ (y + 620)
  · exact c_tjpA y mo d ty tm td h1 h2 ⟨k1, by rw [show y + 619 + 1 = y + 620 by omega]; exact h, by omega, by omega⟩
  · exact c_tjpB y mo d ty tm td h1 h2 ⟨by omega, by rw [show y + 620 + 1 = y + 621 by omega]; exact k2, by omega, by omega⟩
local macro_rules | `(tactic| walk_at "call ref") => `(tactic| (k_here; (with_reducible show wpAny _ _ (PySem.call (Value.ref 73) [Value.int _ _, Value.int _ _, Value.int _ _, Value.ref _]) _ _ _); k_dflt (refine' ctr_use (c_tjp _ _ _ _ _ _ ?p1 ?p2) ?k1 ?k2 ?k3 ?k4 ?k5 ?kK ?kd ?ku ?_; (case p1 => omega); (case p2 => omega); (case k1 => k_asm); (case k2 => k_asm); (case k3 => k_asm); (case k4 => k_asm); (case k5 => k_asm); (case kK => first | exact rfl | assumption); (case kd => ktr_room); (case ku => ktr_units); k_whole); intro t9 h9 tk9 F9 N9; (try dsimp only); (try k_fold)))

theorem c_fjp (jd g : Int) (tj : Tok) (h : KG jd g) :
    Ctr w mean mg mb 80 6 [.int jd tj, .ref 108] (O3 (g - 621) (MK (jd - (EQ g - 1))) (DK (jd - (EQ g - 1)))) := by
  unfold Ctr
  k_fill
  intro dp un gd cn cs a ccd cl outer A₀ base h₀ L m news s Q E B F X N T hk hdp hun hret
  refine wpAny_call ?_
  k_dflt cell_enter
  k_steps
  all_goals first
    | exact o3_end hret (py_eq h.b1 h.b2) (mk_a (by assumption)) (dk_a (by assumption)) (by assumption) (by assumption) (allLt_of (by assumption))
    | exact o3_end hret (py_eq h.b1 h.b2) (mk_b (by assumption)) (dk_b (by assumption)) (by assumption) (by assumption) (allLt_of (by assumption))
theorem c_leap (y : Int) (ty : Tok) (h1 : -108000 ≤ y) (h2 : y ≤ 108000) :
    Ctr w mean mg mb 52 8 [.int y ty, .ref 108] (OB (lp (y + 622))) := by
  unfold Ctr
  k_fill
  intro dp un gd cn cs a ccd cl outer A₀ base h₀ L m news s Q E B F X N T hk hdp hun hret
  refine wpAny_call ?_
  k_dflt cell_enter
  k_steps
  all_goals exact ob_end hret (leap_val y) (by assumption) (by assumption)
theorem c_long (y : Int) (ty : Tok) :
    Ctr w mean mg mb 115 1 [.int y ty] (OB (lp y)) := by
  unfold Ctr
  k_fill
  intro dp un gd cn cs a ccd cl outer A₀ base h₀ L m news s Q E B F X N T hk hdp hun hret
  refine wpAny_call ?_
  k_dflt cell_enter
  k_steps
  · exact ob_end hret (long_a (by assumption)) (by assumption) (by assumption)
  · exact ob_end hret (long_b (by assumption)) (by assumption) (by assumption)
local macro_rules | `(tactic| walk_at "call ref") => `(tactic| (k_here; (with_reducible show wpAny _ _ (PySem.call (Value.ref 52) [Value.int _ _, Value.ref _]) _ _ _); k_dflt (refine' ctr_use (c_leap _ _ ?p1 ?p2) ?k1 ?k2 ?k3 ?k4 ?k5 ?kK ?kd ?ku ?_; (case p1 => omega); (case p2 => omega); (case k1 => k_asm); (case k2 => k_asm); (case k3 => k_asm); (case k4 => k_asm); (case k5 => k_asm); (case kK => first | exact rfl | assumption); (case kd => ktr_room); (case ku => ktr_units); k_whole); intro h9 tk9 F9 N9; (try dsimp only); (try k_fold)))

theorem c_ml (y mo : Int) (ty tm : Tok) (h1 : -108000 ≤ y) (h2 : y ≤ 108000) (h3 : 1 ≤ mo) (h4 : mo ≤ 12) :
    Ctr w mean mg mb 87 9 [.int y ty, .int mo tm, .ref 108] (OI (ML y mo)) := by
  unfold Ctr
  k_fill
  intro dp un gd cn cs a ccd cl outer A₀ base h₀ L m news s Q E B F X N T hk hdp hun hret
  refine wpAny_call ?_
  k_dflt cell_enter
  k_steps
  · exact oi_end hret (ml_1 (by assumption)) (by assumption) (by assumption)
  · exact oi_end hret (ml_2 (by assumption) (by assumption)) (by assumption) (by assumption)
  · exact (ml_5 (mo := mo) (by assumption) (by assumption)).elim
  · exact oi_end hret (ml_3 (by assumption) (by assumption)) (by assumption) (by assumption)
  · exact oi_end hret (ml_4 (by assumption)) (by assumption) (by assumption)
  · exact (ml_6 h3 h4 (by assumption) (by assumption) (by assumption)).elim
theorem c_islb (y : Int) (ty : Tok) {b : Bool} (h : lp y = b) : Ctr w mean mg mb 21 1 [.int y ty] (OB b) := by
  subst h; exact c_isleap y ty
local macro_rules | `(tactic| walk_at "call ref") => `(tactic| (k_here; (with_reducible show wpAny _ _ (PySem.call (Value.ref 21) [Value.int _ _]) _ _ _); k_dflt (refine' ctr_use (c_islb _ _ ?p1) ?k1 ?k2 ?k3 ?k4 ?k5 ?kK ?kd ?ku ?_; (case p1 => first | assumption | exact rfl); (case k1 => k_asm); (case k2 => k_asm); (case k3 => k_asm); (case k4 => k_asm); (case k5 => k_asm); (case kK => first | exact rfl | assumption); (case kd => ktr_room); (case ku => ktr_units); k_whole); intro h9 tk9 F9 N9; (try dsimp only); (try k_fold)))

theorem c_fjiT (jd x : Int) (tj : Tok) (h1 : Y1 x ≤ jd) (h2 : jd < Y1 (x + 1)) (hl : lp x = true) :
    Ctr w mean mg mb 101 5 [.int jd tj] (O3 (IY x (jd - TJ x 1 1)) (IM x (jd - TJ x 1 1)) (ID x (jd - TJ x 1 1))) := by
  unfold Ctr
  k_fill
  intro dp un gd cn cs a ccd cl outer A₀ base h₀ L m news s Q E B F X N T hk hdp hun hret
  refine wpAny_call ?_
  k_dflt cell_enter
  k_steps
  all_goals (refine o3_end1 hret ?_ ?_ ?_ (by assumption) (by assumption) (by assumption))
  all_goals (try unfold IY)
  all_goals (try unfold IM)
  all_goals (try unfold ID)
  all_goals (try unfold IU)
  all_goals (try rw [ca_t hl])
  all_goals (try simp only [fd31, fd30, fm31, fm30])
  all_goals (repeat' split)
  all_goals omega

theorem c_fjiF (jd x : Int) (tj : Tok) (h1 : Y1 x ≤ jd) (h2 : jd < Y1 (x + 1)) (hl : lp x = false) :
    Ctr w mean mg mb 101 5 [.int jd tj] (O3 (IY x (jd - TJ x 1 1)) (IM x (jd - TJ x 1 1)) (ID x (jd - TJ x 1 1))) := by
  unfold Ctr
  k_fill
  intro dp un gd cn cs a ccd cl outer A₀ base h₀ L m news s Q E B F X N T hk hdp hun hret
  refine wpAny_call ?_
  k_dflt cell_enter
  k_steps
  all_goals (refine o3_end1 hret ?_ ?_ ?_ (by assumption) (by assumption) (by assumption))
  all_goals (try unfold IY)
  all_goals (try unfold IM)
  all_goals (try unfold ID)
  all_goals (try unfold IU)
  all_goals (try rw [ca_f hl])
  all_goals (try simp only [fd31, fd30, fm31, fm30])
  all_goals (repeat' split)
  all_goals omega

theorem c_fjiX (jd x : Int) (tj : Tok) (h1 : Y1 x ≤ jd) (h2 : jd < Y1 (x + 1)) :
    Ctr w mean mg mb 101 5 [.int jd tj] (O3 (IY x (jd - TJ x 1 1)) (IM x (jd - TJ x 1 1)) (ID x (jd - TJ x 1 1))) := by
  cases hl : lp x with
  | true => exact c_fjiT jd x tj h1 h2 hl
  | false => exact c_fjiF jd x tj h1 h2 hl
theorem c_tjiT (y mo d : Int) (ty tm td : Tok) (hl : lp (y + 78) = true) :
    Ctr w mean mg mb 94 4 [.int y ty, .int mo tm, .int d td] (OI (TI y mo d)) := by
  unfold Ctr
  k_fill
  intro dp un gd cn cs a ccd cl outer A₀ base h₀ L m news s Q E B F X N T hk hdp hun hret
  refine wpAny_call ?_
  k_dflt cell_enter
  k_steps
  all_goals (refine oi_end hret ?_ (by assumption) (by assumption))
  all_goals unfold TI
  all_goals first | rw [tj_22t, hl] | rw [tj_22tt, hl]
  all_goals simp only [if_true, if_false, Bool.false_eq_true]
  all_goals (repeat' split)
  all_goals omega

theorem c_tjiF (y mo d : Int) (ty tm td : Tok) (hl : lp (y + 78) = false) :
    Ctr w mean mg mb 94 4 [.int y ty, .int mo tm, .int d td] (OI (TI y mo d)) := by
  unfold Ctr
  k_fill
  intro dp un gd cn cs a ccd cl outer A₀ base h₀ L m news s Q E B F X N T hk hdp hun hret
  refine wpAny_call ?_
  k_dflt cell_enter
  k_steps
  all_goals (refine oi_end hret ?_ (by assumption) (by assumption))
  all_goals unfold TI
  all_goals first | rw [tj_22f, hl] | rw [tj_22ff, hl]
  all_goals simp only [if_true, if_false, Bool.false_eq_true]
  all_goals (repeat' split)
  all_goals omega

theorem c_tji (y mo d : Int) (ty tm td : Tok) :
    Ctr w mean mg mb 94 4 [.int y ty, .int mo tm, .int d td] (OI (TI y mo d)) := by
  cases hl : lp (y + 78) with
  | true => exact c_tjiT y mo d ty tm td hl
  | false => exact c_tjiF y mo d ty tm td hl
theorem c_fjpP (jd y mo pl : Int) (tj : Tok) (P : PER jd y mo pl) : Ctr w mean mg mb 80 6 [.int jd tj, .ref 108] (O3 y mo pl) := by
  obtain ⟨k, hm, hd⟩ := P
  have c := c_fjp (w := w) (mean := mean) (mg := mg) (mb := mb) jd (y + 621) tj k
  rw [hm, hd, show y + 621 - 621 = y by omega] at c
  exact c
theorem c_fjiI (jd a b c : Int) (tj : Tok) (h : IND jd a b c) : Ctr w mean mg mb 101 5 [.int jd tj] (O3 a b c) := by
  obtain ⟨x, h1, h2, e1, e2, e3⟩ := h
  have k := c_fjiX (w := w) (mean := mean) (mg := mg) (mb := mb) jd x tj h1 h2
  rw [e1, e2, e3] at k
  exact k
theorem c_tjiJ (y mo d r : Int) (ty tm td : Tok) (h : TI y mo d = r) : Ctr w mean mg mb 94 4 [.int y ty, .int mo tm, .int d td] (OI r) := by
  subst h; exact c_tji y mo d ty tm td
theorem item_ml {prog : Program} {w : World} {A : Around} {E : Value → Shared → Prop} {s : Shared} {value slice : PySem.Expr} {l : Addr} {jd y mo pl z : Int} {vs : List Value} {u : Tok} {Q : Value → Shared → Prop} (P : PER jd y mo pl)
    (hl : s.heap.IsList l vs.toArray) (hi : IntsAre vs [31, 31, 31, 31, 31, 31, 30, 30, 30, 30, 30, z]) (hz : ML y 12 = z) (h : ∀ t, Q (.int (ML y mo) t) s)
    (hs : subscripted slice false (.ref l) (.int (mo - 1) u) = operate [.ref l, .int (mo - 1) u] (getItem (.ref l) (.int (mo - 1) u)) := by with_unfolding_all rfl) :
    wpAny (model prog w) A (subscriptTail value slice (.ref l) (.int (mo - 1) u)) Q E s := by
  obtain ⟨a1, a2, _, _, _⟩ := per_facts P
  refine item_anyK hl hi (by omega) (by simp only [List.length_cons, List.length_nil]; omega) (by omega) (fun t => ?_) hs
  rw [ml_tab a1 a2 hz]
  exact h t
theorem by_lt {jd y mo pl : Int} {p : Prop} (pP : PER jd y mo pl) (h1 : mo < 12 → p) (h2 : ¬ mo < 12 → p) : p := by
  by_cases h : mo < 12
  · exact h1 h
  · exact h2 h
def DueMark : Prop := True
def DueDone (P : Prop) : Prop := P
theorem due_done {P : Prop} (h : P) : DueDone P := h
/-- what stands behind the law's first «and»: a tuple under the name due that tells the Indian date -/
def DueMid (h₀ : Heap) (L : Addr) (m : Str → Option Value) (news : List (Addr × Obj)) (s : Shared) (jd : Int) (x : Str) (fl : Flow) (s' : Shared) : Prop :=
  ∃ (a b c : Int) (D : Addr) (t1 t2 t3 : Tok) (n : Nat) (h : Heap) (tk : Nat), fl = .next ∧ s' = { s with heap := h, toks := tk } ∧ IND jd a b c ∧ TI a b c = jd ∧ Fr h₀ L h (fun y => if y = x then some (.ref D) else m y) ∧
    News h₀ L h ((D, ({ cls := .type "tuple", data := .seq #[.int a t1, .int b t2, .int c t3] n } : Obj)) :: news) ∧ AllLt D news
theorem due_end {h₀ h : Heap} {L : Addr} {m : Str → Option Value} {news : List (Addr × Obj)} {s : Shared} {jd a b c : Int} {x : Str} {D : Addr} {t1 t2 t3 : Tok} {n : Nat} {tk : Nat} (F : Fr h₀ L h (fun y => if y = x then some (.ref D) else m y))
    (N : News h₀ L h ((D, ({ cls := .type "tuple", data := .seq #[.int a t1, .int b t2, .int c t3] n } : Obj)) :: news)) (l : AllLt D news) (hI : IND jd a b c) (hT : TI a b c = jd) : DueMid h₀ L m news s jd x .next { s with heap := h, toks := tk } :=
  ⟨a, b, c, D, t1, t2, t3, n, h, tk, rfl, rfl, hI, hT, F, N, l⟩
theorem due_cut {M : Model} {A : Around} {E : Value → Shared → Prop} {Q : Flow → Shared → Prop} {s : Shared} {h₀ : Heap} {L : Addr} {m : Str → Option Value} {news : List (Addr × Obj)} {q : Addr × Obj} {cm : Sem Flow} {jd y mo pl : Int} (x : Str) (pP : PER jd y mo pl)
    (fF : Fr h₀ L s.heap m) (nN : News h₀ L s.heap (q :: news)) (hc : DueMark → wpAny M A cm (DueMid h₀ L m news s jd x) E s)
    (hk : DueDone (∀ (a b c : Int) (D : Addr) (t1 t2 t3 : Tok) (n : Nat) (h : Heap) (tk : Nat), IND jd a b c → TI a b c = jd → Fr h₀ L h (fun y => if y = x then some (.ref D) else m y) →
      News h₀ L h ((D, ({ cls := .type "tuple", data := .seq #[.int a t1, .int b t2, .int c t3] n } : Obj)) :: news) → AllLt D news → Q .next { s with heap := h, toks := tk })) : wpAny M A cm Q E s := by
  refine wpAny_mono (hc trivial) (fun fl s₂ hq => ?_) fun _ _ h => h
  obtain ⟨a, b, c, D, t1, t2, t3, n, h, tk, rfl, rfl, hI, hT, F, N, l⟩ := hq
  exact hk a b c D t1 t2 t3 n h tk hI hT F N l
theorem news_drop {h₀ h : Heap} {L : Addr} {q r : Addr × Obj} {news : List (Addr × Obj)} (N : News h₀ L h (q :: r :: news)) : News h₀ L h (q :: news) := fun p hp => by
  rcases List.mem_cons.mp hp with rfl | hp
  · exact N _ (.head _)
  · exact N _ (.tail _ (.tail _ hp))
theorem ml_join {M : Model} {A : Around} {E : Value → Shared → Prop} {Q : Value → Shared → Prop} {s : Shared} {h₀ : Heap} {L : Addr} {m : Str → Option Value} {news : List (Addr × Obj)} {c : Sem Value} {jd y mo pl : Int} (pP : PER jd y mo pl)
    (F : Fr h₀ L s.heap m) (N : News h₀ L s.heap news) (hc : DueMark → wpAny M A c (fun v s₂ => KCj (fun (b : Int) (t : Tok) => Value.int b t) h₀ L m news s (ML y 12) v s₂) E s)
    (hk : DueDone (∀ (t : Tok) (h : Heap) (tk : Nat), Fr h₀ L h m → News h₀ L h news → Q (.int (ML y 12) t) { s with heap := h, toks := tk })) : wpAny M A c Q E s :=
  kcj (fun (b : Int) (t : Tok) => Value.int b t) (fun _ => ML y 12) F N (fun _ _ => hc trivial) hk
local macro_rules | `(tactic| walk_at "call ref") => `(tactic| (k_here; (with_reducible show wpAny _ _ (PySem.call (Value.ref 80) [Value.int (_ + ML _ _ - _ + 1) _, Value.ref _]) _ _ _); (refine' by_lt ?P (fun hm => ?_) (fun hm => ?_); (case P => with_reducible assumption)); walk_say "SPLIT month"))
local macro_rules | `(tactic| walk_at "call ref") => `(tactic| (k_here; (with_reducible show wpAny _ _ (PySem.call (Value.ref 80) [Value.int _ _, Value.ref _]) _ _ _); k_dflt (refine' ctr_use (c_fjpP _ _ _ _ _ ?p1) ?k1 ?k2 ?k3 ?k4 ?k5 ?kK ?kd ?ku ?_; (case p1 => first | with_reducible assumption | with_reducible exact per_next (by assumption) (by assumption) (by assumption) (by assumption) | with_reducible exact per_over (by assumption) (by assumption) (by assumption) (by assumption)); (case k1 => k_asm); (case k2 => k_asm); (case k3 => k_asm); (case k4 => k_asm); (case k5 => k_asm); (case kK => first | exact rfl | assumption); (case kd => ktr_room); (case ku => ktr_units); k_whole); intro D9 t91 t92 t93 c9 h9 tk9 F9 N9 l9; (try dsimp only); (try k_fold)))
local macro_rules | `(tactic| walk_at "call ref") => `(tactic| (k_here; (with_reducible show wpAny _ _ (PySem.call (Value.ref 101) [Value.int _ _]) _ _ _); k_dflt (refine' ctr_use (c_fjiI _ _ _ _ _ ?p1) ?k1 ?k2 ?k3 ?k4 ?k5 ?kK ?kd ?ku ?_; (case p1 => with_reducible assumption); (case k1 => k_asm); (case k2 => k_asm); (case k3 => k_asm); (case k4 => k_asm); (case k5 => k_asm); (case kK => first | exact rfl | assumption); (case kd => ktr_room); (case ku => ktr_units); k_whole); intro D9 t91 t92 t93 c9 h9 tk9 F9 N9 l9; (try dsimp only); (try k_fold)))
local macro_rules | `(tactic| walk_at "call ref") => `(tactic| (k_here; (with_reducible show wpAny _ _ (PySem.call (Value.ref 94) [Value.int _ _, Value.int _ _, Value.int _ _]) _ _ _); k_dflt (refine' ctr_use (c_tjiJ _ _ _ _ _ _ _ ?p1) ?k1 ?k2 ?k3 ?k4 ?k5 ?kK ?kd ?ku ?_; (case p1 => with_reducible assumption); (case k1 => k_asm); (case k2 => k_asm); (case k3 => k_asm); (case k4 => k_asm); (case k5 => k_asm); (case kK => first | exact rfl | assumption); (case kd => ktr_room); (case ku => ktr_units); k_whole); intro t9 h9 tk9 F9 N9; (try dsimp only); (try k_fold)))
local macro_rules | `(tactic| walk_at "call ref") => `(tactic| (k_here; (with_reducible show wpAny _ _ (PySem.call (Value.ref 115) [Value.int _ _]) _ _ _); k_dflt (refine' ctr_use (c_long _ _) ?k1 ?k2 ?k3 ?k4 ?k5 ?kK ?kd ?ku ?_; (case k1 => k_asm); (case k2 => k_asm); (case k3 => k_asm); (case k4 => k_asm); (case k5 => k_asm); (case kK => first | exact rfl | assumption); (case kd => ktr_room); (case ku => ktr_units); k_whole); intro h9 tk9 F9 N9; (try dsimp only); (try k_fold)))
local macro_rules | `(tactic| walk_at "call ref") => `(tactic| (k_here; (with_reducible show wpAny _ _ (PySem.call (Value.ref 87) [Value.int _ _, Value.int _ _, Value.ref _]) _ _ _); k_dflt (refine' ctr_use (c_ml _ _ _ _ ?p1 ?p2 ?p3 ?p4) ?k1 ?k2 ?k3 ?k4 ?k5 ?kK ?kd ?ku ?_; (case p1 => omega); (case p2 => omega); (case p3 => omega); (case p4 => omega); (case k1 => k_asm); (case k2 => k_asm); (case k3 => k_asm); (case k4 => k_asm); (case k5 => k_asm); (case kK => first | exact rfl | assumption); (case kd => ktr_room); (case ku => ktr_units); k_whole); intro t9 h9 tk9 F9 N9; (try dsimp only); (try k_fold)))
local macro_rules | `(tactic| walk_at "ite") => `(tactic| (k_here; first
  | ((with_reducible refine ite_isFalse (bne_off ?hb) ?_); (case hb => omega); walk_say "MINE off")
  | (with_reducible refine ite_isFalse (bneb_off rfl) ?_)))

local macro_rules | `(tactic| walk_at "subscriptTail Name BinOp ref int") => `(tactic| (k_here; (with_unfolding_all refine' item_ml ?P ?k1 ?k2 rfl ?_ ?k6; (case P => with_reducible assumption); (case k1 => is_list); (case k2 => repeat constructor); (case k6 => with_unfolding_all rfl); k_whole); intro _))
local macro_rules | `(tactic| walk_at "exec If") => `(tactic| (k_here; (with_reducible show wpAny _ _ (PySem.exec (PySem.Stmt.If (PySem.Expr.BoolOp PySem.BoolOp.And _ _) _ _ _) _) _ _ _); (fail_if_success (rename DueMark => dM')); (rename Fr _ _ _ _ => cF'); (rename News _ _ _ _ => cN'); (k_dflt (refine' due_cut (PySem.Str.ofString "due") ?P cF' cN' (fun dM' => ?_) ?_; (case P => with_reducible assumption))); (all_goals (try k_fold)); walk_say "CUT due"))
local macro_rules | `(tactic| walk_at "DueDone") => `(tactic| (refine due_done ?_; intro a b c D t1 t2 t3 n h tk hI hT F N l; (try simp only [AllLt, and_true] at l); (try dsimp only); (try k_sweep)))
local macro_rules | `(tactic| walk_at "DueDone") => `(tactic| (refine due_done ?_; intro t h tk F N; (fail_if_success (intro a b)); (try dsimp only); (try k_sweep)))
local macro_rules | `(tactic| walk_at "DueMid") => `(tactic| (k_dflt (refine' due_end ?F ?N ?l ?hI ?hT; (case F => first | assumption | (refine fr_put ?F1 ?F2; (case F1 => assumption); (case F2 => with_unfolding_all rfl))); (case N => first | assumption | exact news_drop (by assumption)); (case l => first | assumption | exact allLt_of (by assumption) | exact And.right (by assumption)); (case hI => first | with_reducible exact ind_a (by assumption) (by assumption) | with_reducible exact ind_b (by assumption) (by assumption) (by assumption) | with_reducible exact ind_c (by assumption) (by assumption) (by assumption) (by assumption) | with_reducible exact ind_d (by assumption) (by assumption) (by assumption) (by assumption)); (case hT => first | with_reducible exact ti_a (by assumption) (by assumption) | with_reducible exact ti_b (by assumption) (by assumption) (by assumption) | with_reducible exact ti_c (by assumption) (by assumption) (by assumption) | with_reducible exact ti_d (by assumption) (by assumption) (by assumption) (by assumption)))))
local macro_rules | `(tactic| walk_at "eval IfExp") => `(tactic| (k_here; (with_reducible show wpAny _ _ (PySem.eval (PySem.Expr.IfExp (PySem.Expr.Call _ _ _ _) _ _ _) _) _ _ _); (fail_if_success (rename DueMark => dM')); (rename Fr _ _ _ _ => cF'); (rename News _ _ _ _ => cN'); (k_dflt (refine' ml_join ?P cF' cN' (fun dM' => ?_) ?_; (case P => with_reducible assumption))); (all_goals (try k_fold)); walk_say "JOIN ml"))
local macro_rules | `(tactic| walk_at "KCj") => `(tactic| (rename DueMark => dM'; k_dflt (refine' kcj_end ?e ?hv ?hs ?F ?N ?hn; (case hv => with_unfolding_all rfl); (case hs => exact rfl); (case F => assumption); (case N => assumption); (case hn => exact fun _ h => h); (case e => first | with_reducible exact ml12_t (by assumption) | with_reducible exact ml12_f (by assumption)))))
set_option maxHeartbeats 8000000 in
theorem c_one (jd y mo pl : Int) (tj : Tok) (P : PER jd y mo pl) (h1 : -108000 ≤ y) (h2 : y ≤ 108000) :
    Ctr w mean mg mb 122 10 [.int jd tj] (OB true) := by
  obtain ⟨a1, a2, a3, a4, a5⟩ := per_facts P
  have b1 := per_lo P
  have b2 := per_hi P
  unfold Ctr
  k_fill
  intro dp un gd cn cs a ccd cl outer A₀ base h₀ L m news s Q E B F X N T hk hdp hun hret
  refine wpAny_call ?_
  k_dflt cell_enter
  k_steps
  all_goals exact ob_end hret rfl (by assumption) (by refine' cb_drop ?cbN ?cbS; (case cbN => assumption); (case cbS => kcj_all))
theorem c_oneD (jd : Int) (tj : Tok) (h1 : -35000000 ≤ jd) (h2 : jd ≤ 39500000) : Ctr w mean mg mb 122 10 [.int jd tj] (OB true) := by
  obtain ⟨y, mo, pl, P, hb1, hb2⟩ := per_ex h1 h2
  exact c_one jd y mo pl tj P (by omega) (by omega)
local macro_rules | `(tactic| walk_at "call ref") => `(tactic| (k_here; (with_reducible show wpAny _ _ (PySem.call (Value.ref 122) [Value.int _ _]) _ _ _); k_dflt (refine' ctr_use (c_oneD _ _ ?p1 ?p2) ?k1 ?k2 ?k3 ?k4 ?k5 ?kK ?kd ?ku ?_; (case p1 => first | omega | l_fact); (case p2 => first | omega | l_fact); (case k1 => k_asm); (case k2 => k_asm); (case k3 => k_asm); (case k4 => k_asm); (case k5 => k_asm); (case kK => first | exact rfl | assumption); (case kd => ktr_room); (case ku => ktr_units); k_whole); intro h9 tk9 F9 N9; (try dsimp only); (try k_fold)))

theorem X : PySem.Challenge.rw_bd0003_01.Holds := hd (by
  k_go0
  all_goals try k_fold
  (k_with "pyIter ref" => k_search (fun pre => True))
  k_steps
  all_goals (try k_data)
  all_goals w_report)
end Mine
theorem PySem.Challenge.cw_bd0003_01_holds : PySem.Challenge.rw_bd0003_01.Holds := by
  exact Mine.X
