import PyProof.Rows.All
import Wide.All
import OpenK.AllK
import Wide.FinOn
import PySem.Challenge.RW_ah0015_01
set_option autoImplicit false
set_option Elab.async false
set_option maxRecDepth 100000
namespace Mine
/-- a leap year by the Gregorian rule -/
def lp (y : Int) : Bool := decide (y % 4 = 0) && (decide (y % 100 ≠ 0) || decide (y % 400 = 0))
theorem lp_iff (y : Int) : lp y = true ↔ (y % 4 = 0 ∧ (y % 100 ≠ 0 ∨ y % 400 = 0)) := by
  simp [lp]
def glen (y m : Int) : Int := if m = 2 then (if lp y = true then 29 else 28) else if m = 4 ∨ m = 6 ∨ m = 9 ∨ m = 11 then 30 else 31
def jlen (y m : Int) : Int := if m = 2 then (if y % 4 = 0 then 29 else 28) else if m = 4 ∨ m = 6 ∨ m = 9 ∨ m = 11 then 30 else 31
theorem glen_ge (y m : Int) : 28 ≤ glen y m := by
  unfold glen; repeat' split
  all_goals omega
theorem jlen_ge (y m : Int) : 28 ≤ jlen y m := by
  unfold jlen; repeat' split
  all_goals omega
def GOk (y m d : Int) : Prop := 0 < d ∧ d ≤ glen y m
def JOk (y m d : Int) : Prop := 0 < d ∧ d ≤ jlen y m
theorem gok_low {y m d : Int} (h : 0 < d) (k : d ≤ 28) : GOk y m d := ⟨h, by have := glen_ge y m; omega⟩
theorem jok_low {y m d : Int} (h : 0 < d) (k : d ≤ 28) : JOk y m d := ⟨h, by have := jlen_ge y m; omega⟩

theorem any30 (x : Int) : ([4, 6, 9, 11] : List Int).any (· == x) = decide (x = 4 ∨ x = 6 ∨ x = 9 ∨ x = 11) := by
  rw [Bool.eq_iff_iff]
  simp only [List.any_cons, List.any_nil, Bool.or_false, Bool.or_eq_true, beq_iff_eq, decide_eq_true_eq]
  omega

/-- the days before the year, and the day's place in the year -/
def gy (y : Int) : Int := 1721425 + 365 * (y - 1) + (y - 1) / 4 - (y - 1) / 100 + (y - 1) / 400
def gadj (y m : Int) : Int := if m ≤ 2 then 0 else if lp y = true then -1 else -2
def gjd (y m d : Int) : Int := gy y + ((367 * m - 362) / 12 + gadj y m + d)
def jjd (y m d : Int) : Int := if m ≤ 2 then 1461 * (y - 1 + 4716) / 4 + 306001 * (m + 12 + 1) / 10000 + d - 1524 else 1461 * (y + 4716) / 4 + 306001 * (m + 1) / 10000 + d - 1524

/-- from_jd of gregorian -/
def fgY (j : Int) : Int :=
  let q := (j - 1721426) / 146097
  let r := (j - 1721426) % 146097
  let c := r / 36524
  let u := r % 36524
  let k := u / 1461
  let i := u % 1461 / 365
  if c = 4 ∨ i = 4 then q * 400 + c * 100 + k * 4 + i else q * 400 + c * 100 + k * 4 + i + 1
def fgT (j : Int) : Int := j - gjd (fgY j) 1 1
def fgM (j : Int) : Int :=
  ((fgT j + (if fgT j < 58 + (if lp (fgY j) = true then 1 else 0) then 0 else if lp (fgY j) = true then 1 else 2)) * 12 + 373) / 367
def fgD (j : Int) : Int := j - gjd (fgY j) (fgM j) 1 + 1

/-- from_jd of julian -/
def fjC (j : Int) : Int := (20 * (j + 1524) - 2442) / 7305
def fjE (j : Int) : Int := (j + 1524 - 1461 * fjC j / 4) * 10000 / 306001
def fjM (j : Int) : Int := if fjE j < 14 then fjE j - 1 else fjE j - 13
def fjY (j : Int) : Int := if fjM j > 2 then fjC j - 4716 else fjC j - 4715
def fjD (j : Int) : Int := j + 1524 - 1461 * fjC j / 4 - 306001 * fjE j / 10000

theorem g11 (y : Int) : gjd y 1 1 = gy y + 1 := by
  unfold gjd gadj; simp

def yl (y : Int) : Int := if lp y = true then 366 else 365
theorem gy_succ (y : Int) : gy (y + 1) = gy y + yl y := by
  unfold gy yl
  have h := lp_iff y
  split
  · rename_i hl
    have := h.mp hl
    omega
  · rename_i hl
    have : ¬ (y % 4 = 0 ∧ (y % 100 ≠ 0 ∨ y % 400 = 0)) := fun x => hl (h.mpr x)
    omega

theorem gy_mono {a b : Int} (h : a < b) : gy (a + 1) ≤ gy b := by
  unfold gy; omega

theorem gy_at (q c k i : Int) (hc : 0 ≤ c ∧ c ≤ 3) (hk : 0 ≤ k ∧ k ≤ 24) (hi : 0 ≤ i ∧ i ≤ 3) :
    gy (q * 400 + c * 100 + k * 4 + i + 1) = 1721425 + 146097 * q + 36524 * c + 1461 * k + 365 * i := by
  unfold gy
  have e1 : (q * 400 + c * 100 + k * 4 + i + 1 - 1) / 4 = q * 100 + c * 25 + k := by omega
  have e2 : (q * 400 + c * 100 + k * 4 + i + 1 - 1) / 100 = q * 4 + c := by omega
  have e3 : (q * 400 + c * 100 + k * 4 + i + 1 - 1) / 400 = q := by omega
  rw [e1, e2, e3]; omega
theorem gy_step (y : Int) : gy y + 365 ≤ gy (y + 1) := by
  unfold gy; omega

/-- the year is the one whose days hold the day -/
theorem fgY_spec (j : Int) : gy (fgY j) + 1 ≤ j ∧ j ≤ gy (fgY j + 1) := by
  unfold fgY
  dsimp only
  generalize hq : (j - 1721426) / 146097 = q
  generalize hr : (j - 1721426) % 146097 = r
  have hj : j = 1721426 + 146097 * q + r := by omega
  have hr0 : 0 ≤ r ∧ r ≤ 146096 := by omega
  clear hq hr
  generalize hc : r / 36524 = c
  generalize hu : r % 36524 = u
  have hr1 : r = 36524 * c + u := by omega
  have hu0 : 0 ≤ u ∧ u ≤ 36523 := by omega
  have hc0 : 0 ≤ c ∧ c ≤ 4 := by omega
  clear hc hu
  generalize hk : u / 1461 = k
  generalize hv : u % 1461 = v
  have hu1 : u = 1461 * k + v := by omega
  have hv0 : 0 ≤ v ∧ v ≤ 1460 := by omega
  have hk0 : 0 ≤ k ∧ k ≤ 24 := by omega
  clear hk hv
  generalize hi : v / 365 = i
  have hi0 : 0 ≤ i ∧ i ≤ 4 ∧ 365 * i ≤ v ∧ v < 365 * i + 365 := by omega
  clear hi
  subst hu1 hr1 hj
  split
  · rename_i h
    rcases h with rfl | rfl
    · have : k = 0 ∧ i = 0 ∧ v = 0 := by omega
      obtain ⟨rfl, rfl, rfl⟩ := this
      have e1 := gy_at q 3 24 3 (by omega) (by omega) (by omega)
      have e2 := gy_at (q + 1) 0 0 0 (by omega) (by omega) (by omega)
      have w1 : q * 400 + 3 * 100 + 24 * 4 + 3 + 1 = q * 400 + 4 * 100 + 0 * 4 + 0 := by omega
      have w2 : (q + 1) * 400 + 0 * 100 + 0 * 4 + 0 + 1 = q * 400 + 4 * 100 + 0 * 4 + 0 + 1 := by omega
      rw [w1] at e1
      rw [w2] at e2
      rw [e1, e2]
      omega
    · have h4 : v = 1460 := by omega
      subst h4
      have h5 : k ≤ 23 := by omega
      have h6 : c ≤ 3 := by omega
      have e1 := gy_at q c k 3 (by omega) (by omega) (by omega)
      have e2 := gy_at q c (k + 1) 0 (by omega) (by omega) (by omega)
      have w1 : q * 400 + c * 100 + k * 4 + 3 + 1 = q * 400 + c * 100 + k * 4 + 4 := by omega
      have w2 : q * 400 + c * 100 + (k + 1) * 4 + 0 + 1 = q * 400 + c * 100 + k * 4 + 4 + 1 := by omega
      rw [w1] at e1
      rw [w2] at e2
      rw [e1, e2]
      omega
  · rename_i h
    have : c ≤ 3 ∧ i ≤ 3 := by omega
    have e1 := gy_at q c k i (by omega) (by omega) (by omega)
    have e2 := gy_step (q * 400 + c * 100 + k * 4 + i + 1)
    rw [e1] at e2 ⊢
    omega

theorem year_unique {j a b : Int} (ha : gy a + 1 ≤ j ∧ j ≤ gy (a + 1)) (hb : gy b + 1 ≤ j ∧ j ≤ gy (b + 1)) : a = b := by
  rcases Int.lt_trichotomy a b with h | h | h
  · have := gy_mono h; omega
  · exact h
  · have := gy_mono h; omega
theorem twelve {m : Int} (h : 1 ≤ m) (k : m ≤ 12) : m = 1 ∨ m = 2 ∨ m = 3 ∨ m = 4 ∨ m = 5 ∨ m = 6 ∨ m = 7 ∨ m = 8 ∨ m = 9 ∨ m = 10 ∨ m = 11 ∨ m = 12 := by omega

/-- the month and the day of a place in the year -/
theorem place (y t M : Int) (h0 : 0 ≤ t) (h1 : t < yl y)
    (hM : M = ((t + (if t < 58 + (if lp y = true then 1 else 0) then 0 else if lp y = true then 1 else 2)) * 12 + 373) / 367) :
    1 ≤ M ∧ M ≤ 12 ∧ 0 < t + 1 - (367 * M - 362) / 12 - gadj y M ∧ t + 1 - (367 * M - 362) / 12 - gadj y M ≤ glen y M := by
  unfold yl at h1
  unfold gadj glen
  cases hl : lp y with
  | true =>
    simp only [hl, if_true] at h1 hM ⊢
    split at hM
    · have hb : 1 ≤ M ∧ M ≤ 2 := by omega
      refine ⟨by omega, by omega, ?_⟩
      rcases (by omega : M = 1 ∨ M = 2) with rfl | rfl <;> simp <;> omega
    · have hb : 2 ≤ M ∧ M ≤ 12 := by omega
      refine ⟨by omega, by omega, ?_⟩
      rcases twelve (by omega) hb.2 with rfl | rfl | rfl | rfl | rfl | rfl | rfl | rfl | rfl | rfl | rfl | rfl <;> simp <;> omega
  | false =>
    simp only [hl, Bool.false_eq_true, if_false] at h1 hM ⊢
    split at hM
    · have hb : 1 ≤ M ∧ M ≤ 2 := by omega
      refine ⟨by omega, by omega, ?_⟩
      rcases (by omega : M = 1 ∨ M = 2) with rfl | rfl <;> simp <;> omega
    · have hb : 2 ≤ M ∧ M ≤ 12 := by omega
      refine ⟨by omega, by omega, ?_⟩
      rcases twelve (by omega) hb.2 with rfl | rfl | rfl | rfl | rfl | rfl | rfl | rfl | rfl | rfl | rfl | rfl <;> simp <;> omega

theorem fgT_eq (j : Int) : fgT j = j - (gy (fgY j) + 1) := by unfold fgT; rw [g11]
theorem fgT_range (j : Int) : 0 ≤ fgT j ∧ fgT j < yl (fgY j) := by
  have h := fgY_spec j
  have e := gy_succ (fgY j)
  rw [fgT_eq]
  omega
theorem fgD_eq (j : Int) : fgD j = fgT j + 1 - (367 * fgM j - 362) / 12 - gadj (fgY j) (fgM j) := by
  rw [fgT_eq]; unfold fgD gjd; omega
/-- from_jd of gregorian names a lawful day, and to_jd takes it back -/
theorem fg_month (j : Int) : 1 ≤ fgM j ∧ fgM j ≤ 12 := by
  have h := fgT_range j
  have p := place (fgY j) (fgT j) (fgM j) h.1 h.2 rfl
  exact ⟨p.1, p.2.1⟩
theorem fg_ok (j : Int) : GOk (fgY j) (fgM j) (fgD j) := by
  have h := fgT_range j
  have p := place (fgY j) (fgT j) (fgM j) h.1 h.2 rfl
  unfold GOk
  rw [fgD_eq]
  exact p.2.2
theorem fg_back (j : Int) : gjd (fgY j) (fgM j) (fgD j) = j := by
  unfold fgD gjd; omega

/-- a lawful day's place in its year -/
theorem place_in {y m d : Int} (h0 : 1 ≤ m) (h1 : m ≤ 12) (h : GOk y m d) :
    0 ≤ (367 * m - 362) / 12 + gadj y m + d - 1 ∧ (367 * m - 362) / 12 + gadj y m + d - 1 < yl y := by
  obtain ⟨a, b⟩ := h
  unfold glen at b
  unfold gadj yl
  cases hl : lp y with
  | true =>
    simp only [hl, if_true] at b ⊢
    rcases twelve h0 h1 with rfl | rfl | rfl | rfl | rfl | rfl | rfl | rfl | rfl | rfl | rfl | rfl <;> simp at b ⊢ <;> omega
  | false =>
    simp only [hl, Bool.false_eq_true, if_false] at b ⊢
    rcases twelve h0 h1 with rfl | rfl | rfl | rfl | rfl | rfl | rfl | rfl | rfl | rfl | rfl | rfl <;> simp at b ⊢ <;> omega
theorem month_of {y m d t : Int} (h0 : 1 ≤ m) (h1 : m ≤ 12) (h : GOk y m d) (ht : t = (367 * m - 362) / 12 + gadj y m + d - 1) :
    ((t + (if t < 58 + (if lp y = true then 1 else 0) then 0 else if lp y = true then 1 else 2)) * 12 + 373) / 367 = m := by
  obtain ⟨a, b⟩ := h
  unfold glen at b
  unfold gadj at ht
  cases hl : lp y with
  | true =>
    simp only [hl, if_true] at b ht ⊢
    rcases twelve h0 h1 with rfl | rfl | rfl | rfl | rfl | rfl | rfl | rfl | rfl | rfl | rfl | rfl <;> simp at b ht <;> split <;> omega
  | false =>
    simp only [hl, Bool.false_eq_true, if_false] at b ht ⊢
    rcases twelve h0 h1 with rfl | rfl | rfl | rfl | rfl | rfl | rfl | rfl | rfl | rfl | rfl | rfl <;> simp at b ht <;> split <;> omega
theorem fgY_of {y m d : Int} (h0 : 1 ≤ m) (h1 : m ≤ 12) (h : GOk y m d) : fgY (gjd y m d) = y := by
  have p := place_in h0 h1 h
  have e := gy_succ y
  refine year_unique (fgY_spec _) ?_
  unfold gjd
  omega
theorem fgM_of {y m d : Int} (h0 : 1 ≤ m) (h1 : m ≤ 12) (h : GOk y m d) : fgM (gjd y m d) = m := by
  have e := fgY_of h0 h1 h
  unfold fgM
  rw [fgT_eq, e]
  exact month_of h0 h1 h (by unfold gjd; omega)
theorem fgD_of {y m d : Int} (h0 : 1 ≤ m) (h1 : m ≤ 12) (h : GOk y m d) : fgD (gjd y m d) = d := by
  have e := fgY_of h0 h1 h
  have f := fgM_of h0 h1 h
  unfold fgD
  rw [e, f]
  unfold gjd; omega

/-- the shifted year and month of the Julian reckoning -/
theorem fj_range (j : Int) : 123 ≤ j + 1524 - 1461 * fjC j / 4 ∧ j + 1524 - 1461 * fjC j / 4 ≤ 488 ∧ (j + 1524 - 1461 * fjC j / 4 = 488 → fjC j % 4 = 3) := by
  unfold fjC; omega
theorem fjE_range (j : Int) : 4 ≤ fjE j ∧ fjE j ≤ 15 := by
  have h := fj_range j
  unfold fjE
  omega
theorem fj_month (j : Int) : 1 ≤ fjM j ∧ fjM j ≤ 12 := by
  have h := fjE_range j
  unfold fjM
  split <;> omega
theorem fj_ok (j : Int) : JOk (fjY j) (fjM j) (fjD j) := by
  have h := fj_range j
  have hE := fjE_range j
  have hY : fjY j = if fjM j > 2 then fjC j - 4716 else fjC j - 4715 := rfl
  have hM : fjM j = if fjE j < 14 then fjE j - 1 else fjE j - 13 := rfl
  have hD : fjD j = j + 1524 - 1461 * fjC j / 4 - 306001 * fjE j / 10000 := rfl
  have hE' : fjE j = (j + 1524 - 1461 * fjC j / 4) * 10000 / 306001 := rfl
  generalize fjY j = Y at *
  generalize fjM j = M at *
  generalize fjD j = D at *
  generalize fjE j = E at *
  generalize fjC j = C at *
  generalize j + 1524 - 1461 * C / 4 = t at *
  unfold JOk jlen
  rcases (by omega : E = 4 ∨ E = 5 ∨ E = 6 ∨ E = 7 ∨ E = 8 ∨ E = 9 ∨ E = 10 ∨ E = 11 ∨ E = 12 ∨ E = 13 ∨ E = 14 ∨ E = 15) with rfl | rfl | rfl | rfl | rfl | rfl | rfl | rfl | rfl | rfl | rfl | rfl <;> simp at hM <;> subst hM <;> simp at hY <;> subst hY <;> simp <;> (try split) <;> omega
theorem fj_back (j : Int) : jjd (fjY j) (fjM j) (fjD j) = j := by
  have hE := fjE_range j
  have hY : fjY j = if fjM j > 2 then fjC j - 4716 else fjC j - 4715 := rfl
  have hM : fjM j = if fjE j < 14 then fjE j - 1 else fjE j - 13 := rfl
  have hD : fjD j = j + 1524 - 1461 * fjC j / 4 - 306001 * fjE j / 10000 := rfl
  unfold jjd
  rw [hD, hY, hM]
  by_cases h : fjE j < 14
  · rw [if_pos h, if_neg (by omega), if_pos (by omega)]
    have e1 : fjC j - 4716 + 4716 = fjC j := by omega
    have e2 : fjE j - 1 + 1 = fjE j := by omega
    rw [e1, e2]; omega
  · rw [if_neg h, if_pos (by omega), if_neg (by omega)]
    have e1 : fjC j - 4715 - 1 + 4716 = fjC j := by omega
    have e2 : fjE j - 13 + 12 + 1 = fjE j := by omega
    rw [e1, e2]; omega
theorem fj_core {C E t d : Int} (h4 : 4 ≤ E) (h5 : E ≤ 15) (ht : t = 306001 * E / 10000 + d) (hd : 0 < d) (hr : t ≤ 487 ∨ (t = 488 ∧ C % 4 = 3)) (hl : d ≤ 306001 * (E + 1) / 10000 - 306001 * E / 10000) {j : Int} (hj : j = 1461 * C / 4 + t - 1524) :
    fjC j = C ∧ fjE j = E ∧ fjD j = d := by
  have e1 : fjC j = C := by unfold fjC; subst hj; omega
  have e2 : j + 1524 - 1461 * C / 4 = t := by omega
  have e3 : fjE j = E := by
    unfold fjE
    rw [e1, e2]
    subst ht
    rcases (by omega : E = 4 ∨ E = 5 ∨ E = 6 ∨ E = 7 ∨ E = 8 ∨ E = 9 ∨ E = 10 ∨ E = 11 ∨ E = 12 ∨ E = 13 ∨ E = 14 ∨ E = 15) with rfl | rfl | rfl | rfl | rfl | rfl | rfl | rfl | rfl | rfl | rfl | rfl <;> omega
  refine ⟨e1, e3, ?_⟩
  unfold fjD
  rw [e1, e3, e2]; omega
theorem fj_of {y m d : Int} (h0 : 1 ≤ m) (h1 : m ≤ 12) (h : JOk y m d) : fjY (jjd y m d) = y ∧ fjM (jjd y m d) = m ∧ fjD (jjd y m d) = d := by
  obtain ⟨a, b⟩ := h
  unfold jlen at b
  by_cases hm : m ≤ 2
  · have hj : jjd y m d = 1461 * (y - 1 + 4716) / 4 + (306001 * (m + 12 + 1) / 10000 + d) - 1524 := by unfold jjd; rw [if_pos hm]; omega
    have c := fj_core (C := y - 1 + 4716) (E := m + 12 + 1) (d := d) (by omega) (by omega) rfl a (by
      rcases (by omega : m = 1 ∨ m = 2) with rfl | rfl
      · simp at b; left; omega
      · simp at b
        split at b
        · omega
        · left; omega) (by
      rcases (by omega : m = 1 ∨ m = 2) with rfl | rfl
      · simp at b; omega
      · simp at b
        split at b <;> omega) hj
    have hM : fjM (jjd y m d) = m := by unfold fjM; rw [c.2.1, if_neg (by omega)]; omega
    refine ⟨?_, hM, c.2.2⟩
    unfold fjY
    rw [hM, c.1, if_neg (by omega)]; omega
  · have hj : jjd y m d = 1461 * (y + 4716) / 4 + (306001 * (m + 1) / 10000 + d) - 1524 := by unfold jjd; rw [if_neg hm]; omega
    have hm2 : m ≠ 2 := by omega
    rw [if_neg hm2] at b
    have c := fj_core (C := y + 4716) (E := m + 1) (d := d) (by omega) (by omega) rfl a (by
      rcases twelve h0 h1 with rfl | rfl | rfl | rfl | rfl | rfl | rfl | rfl | rfl | rfl | rfl | rfl <;> simp at b <;> omega) (by
      rcases twelve h0 h1 with rfl | rfl | rfl | rfl | rfl | rfl | rfl | rfl | rfl | rfl | rfl | rfl <;> simp at b <;> omega) hj
    have hM : fjM (jjd y m d) = m := by unfold fjM; rw [c.2.1, if_pos (by omega)]; omega
    refine ⟨?_, hM, c.2.2⟩
    unfold fjY
    rw [hM, c.1, if_pos (by omega)]; omega

theorem yl_adj {y m : Int} (h : ¬ m ≤ 2) : gadj y m = yl y - 367 := by
  unfold gadj yl
  rw [if_neg h]
  split <;> omega
/-- how many days the two calendars lie apart -/
theorem apart {y m d march : Int} (h0 : 1 ≤ m) (h1 : m ≤ 12) (hm : march = if 2 < m then y else y - 1) :
    jjd y m d - gjd y m d = march / 100 - march / 400 - 2 := by
  by_cases h2 : m ≤ 2
  · rw [if_neg (by omega)] at hm
    subst hm
    unfold jjd gjd gy gadj
    rw [if_pos h2, if_pos h2]
    have e : 1461 * (y - 1 + 4716) / 4 = 365 * (y - 1) + (y - 1) / 4 + 1722519 := by omega
    rw [e]
    rcases (by omega : m = 1 ∨ m = 2) with rfl | rfl <;> omega
  · rw [if_pos (by omega)] at hm
    subst hm
    have g := gy_succ march
    unfold jjd gjd
    rw [yl_adj h2, if_neg h2]
    have e : 1461 * (march + 4716) / 4 = 365 * march + march / 4 + 1722519 := by omega
    have f : gy (march + 1) = 1721425 + 365 * march + march / 4 - march / 100 + march / 400 := by
      unfold gy
      have : march + 1 - 1 = march := by omega
      rw [this]
    rw [e]
    rcases (by omega : m = 3 ∨ m = 4 ∨ m = 5 ∨ m = 6 ∨ m = 7 ∨ m = 8 ∨ m = 9 ∨ m = 10 ∨ m = 11 ∨ m = 12) with rfl | rfl | rfl | rfl | rfl | rfl | rfl | rfl | rfl | rfl <;> omega
theorem fd (a : Int) {n : Int} (h : 0 ≤ n) : a.fdiv n = a / n := Int.fdiv_eq_ediv_of_nonneg a h
theorem fm (a : Int) {n : Int} (h : 0 ≤ n) : a.fmod n = a % n := Int.fmod_eq_emod_of_nonneg a h
theorem due_zero (a : Int) : a / 100 - a / 400 - 2 = 0 ↔ 200 ≤ a ∧ a < 300 := by omega

/-! the law's own year, month and day: y, 1 + x % 12, 1 + z % 28 -/
theorem law_m (x : Int) : 1 ≤ 1 + x.fmod 12 ∧ 1 + x.fmod 12 ≤ 12 := by rw [fm x (by decide)]; omega
theorem law_d (z : Int) : 0 < 1 + z.fmod 28 ∧ 1 + z.fmod 28 ≤ 28 := by rw [fm z (by decide)]; omega
theorem law_gok (y m z : Int) : GOk y m (1 + z.fmod 28) := gok_low (law_d z).1 (law_d z).2
theorem law_jok (y m z : Int) : JOk y m (1 + z.fmod 28) := jok_low (law_d z).1 (law_d z).2
theorem law_gY (y x z : Int) : fgY (gjd y (1 + x.fmod 12) (1 + z.fmod 28)) = y := fgY_of (law_m x).1 (law_m x).2 (law_gok _ _ _)
theorem law_gM (y x z : Int) : fgM (gjd y (1 + x.fmod 12) (1 + z.fmod 28)) = 1 + x.fmod 12 := fgM_of (law_m x).1 (law_m x).2 (law_gok _ _ _)
theorem law_gD (y x z : Int) : fgD (gjd y (1 + x.fmod 12) (1 + z.fmod 28)) = 1 + z.fmod 28 := fgD_of (law_m x).1 (law_m x).2 (law_gok _ _ _)
theorem law_jY (y x z : Int) : fjY (jjd y (1 + x.fmod 12) (1 + z.fmod 28)) = y := (fj_of (law_m x).1 (law_m x).2 (law_jok _ _ _)).1
theorem law_jM (y x z : Int) : fjM (jjd y (1 + x.fmod 12) (1 + z.fmod 28)) = 1 + x.fmod 12 := (fj_of (law_m x).1 (law_m x).2 (law_jok _ _ _)).2.1
theorem law_jD (y x z : Int) : fjD (jjd y (1 + x.fmod 12) (1 + z.fmod 28)) = 1 + z.fmod 28 := (fj_of (law_m x).1 (law_m x).2 (law_jok _ _ _)).2.2
theorem law_hi (y z : Int) {x : Int} (h : 2 < 1 + x.fmod 12) : y.fdiv 100 - y.fdiv 400 - 2 + gjd y (1 + x.fmod 12) (1 + z.fmod 28) = jjd y (1 + x.fmod 12) (1 + z.fmod 28) := by
  have e := apart (y := y) (d := 1 + z.fmod 28) (march := y) (law_m x).1 (law_m x).2 (by rw [if_pos h])
  rw [fd y (by decide), fd y (by decide)]; omega
theorem law_lo (y z : Int) {x : Int} (h : ¬ 2 < 1 + x.fmod 12) : (y - 1).fdiv 100 - (y - 1).fdiv 400 - 2 + gjd y (1 + x.fmod 12) (1 + z.fmod 28) = jjd y (1 + x.fmod 12) (1 + z.fmod 28) := by
  have e := apart (y := y) (d := 1 + z.fmod 28) (march := y - 1) (law_m x).1 (law_m x).2 (by rw [if_neg h])
  rw [fd (y - 1) (by decide), fd (y - 1) (by decide)]; omega
theorem same_iff (y x z march : Int) (e : jjd y (1 + x.fmod 12) (1 + z.fmod 28) - gjd y (1 + x.fmod 12) (1 + z.fmod 28) = march / 100 - march / 400 - 2) :
    (fjY (gjd y (1 + x.fmod 12) (1 + z.fmod 28)) = y ∧ fjM (gjd y (1 + x.fmod 12) (1 + z.fmod 28)) = 1 + x.fmod 12 ∧ fjD (gjd y (1 + x.fmod 12) (1 + z.fmod 28)) = 1 + z.fmod 28) ↔ (200 ≤ march ∧ march < 300) := by
  rw [← due_zero march, ← e]
  constructor
  · rintro ⟨a, b, c⟩
    have k := fj_back (gjd y (1 + x.fmod 12) (1 + z.fmod 28))
    rw [a, b, c] at k
    omega
  · intro h
    have k : gjd y (1 + x.fmod 12) (1 + z.fmod 28) = jjd y (1 + x.fmod 12) (1 + z.fmod 28) := by omega
    rw [k]
    exact ⟨law_jY _ _ _, law_jM _ _ _, law_jD _ _ _⟩
theorem same_hi (y z : Int) {x : Int} (h : 2 < 1 + x.fmod 12) :
    (fjY (gjd y (1 + x.fmod 12) (1 + z.fmod 28)) = y ∧ fjM (gjd y (1 + x.fmod 12) (1 + z.fmod 28)) = 1 + x.fmod 12 ∧ fjD (gjd y (1 + x.fmod 12) (1 + z.fmod 28)) = 1 + z.fmod 28) ↔ (200 ≤ y ∧ y < 300) :=
  same_iff y x z y (apart (law_m x).1 (law_m x).2 (by rw [if_pos h]))
theorem same_lo (y z : Int) {x : Int} (h : ¬ 2 < 1 + x.fmod 12) :
    (fjY (gjd y (1 + x.fmod 12) (1 + z.fmod 28)) = y ∧ fjM (gjd y (1 + x.fmod 12) (1 + z.fmod 28)) = 1 + x.fmod 12 ∧ fjD (gjd y (1 + x.fmod 12) (1 + z.fmod 28)) = 1 + z.fmod 28) ↔ (200 ≤ y - 1 ∧ y - 1 < 300) :=
  same_iff y x z (y - 1) (apart (law_m x).1 (law_m x).2 (by rw [if_neg h]))

/-! what the walks reckon -/
theorem lp_walk (y : Int) (b : Bool) (h : b = if y.fmod 4 = 0 then (if y.fmod 100 = 0 then decide (y.fmod 400 = 0) else true) else false) : b = lp y := by
  subst h
  unfold lp
  rw [fm y (by decide), fm y (by decide), fm y (by decide)]
  by_cases h4 : y % 4 = 0 <;> by_cases h1 : y % 100 = 0 <;> simp [h4, h1]
theorem gno0 {y m d : Int} (h : GOk y m d) (k : ¬ 0 < d) : False := k h.1
theorem gno29 {y m d : Int} (h : GOk y m d) (e : m = 2) (l : lp y = true) (k : ¬ d ≤ 29) : False := by
  have := h.2; unfold glen at this; rw [if_pos e, if_pos l] at this; exact k this
theorem gno28 {y m d : Int} (h : GOk y m d) (e : m = 2) (l : lp y = false) (k : ¬ d ≤ 28) : False := by
  have := h.2; unfold glen at this; rw [if_pos e, if_neg (by rw [l]; decide)] at this; exact k this
theorem gno30 {y m d : Int} (h : GOk y m d) (e : m ≠ 2) (l : m = 4 ∨ m = 6 ∨ m = 9 ∨ m = 11) (k : ¬ d ≤ 30) : False := by
  have := h.2; unfold glen at this; rw [if_neg e, if_pos l] at this; exact k this
theorem gno31 {y m d : Int} (h : GOk y m d) (e : m ≠ 2) (l : ¬ (m = 4 ∨ m = 6 ∨ m = 9 ∨ m = 11)) (k : ¬ d ≤ 31) : False := by
  have := h.2; unfold glen at this; rw [if_neg e, if_neg l] at this; exact k this
theorem jno0 {y m d : Int} (h : JOk y m d) (k : ¬ 0 < d) : False := k h.1
theorem jno29 {y m d : Int} (h : JOk y m d) (e : m = 2) (l : y.fmod 4 = 0) (k : ¬ d ≤ 29) : False := by
  have := h.2; unfold jlen at this; rw [fm y (by decide)] at l; rw [if_pos e, if_pos l] at this; exact k this
theorem jno28 {y m d : Int} (h : JOk y m d) (e : m = 2) (l : ¬ y.fmod 4 = 0) (k : ¬ d ≤ 28) : False := by
  have := h.2; unfold jlen at this; rw [fm y (by decide)] at l; rw [if_pos e, if_neg l] at this; exact k this
theorem jno30 {y m d : Int} (h : JOk y m d) (e : m ≠ 2) (l : m = 4 ∨ m = 6 ∨ m = 9 ∨ m = 11) (k : ¬ d ≤ 30) : False := by
  have := h.2; unfold jlen at this; rw [if_neg e, if_pos l] at this; exact k this
theorem jno31 {y m d : Int} (h : JOk y m d) (e : m ≠ 2) (l : ¬ (m = 4 ∨ m = 6 ∨ m = 9 ∨ m = 11)) (k : ¬ d ≤ 31) : False := by
  have := h.2; unfold jlen at this; rw [if_neg e, if_neg l] at this; exact k this
theorem eqG {y m d a : Int} (h : a = gadj y m) : 1721426 - 1 + 365 * (y - 1) + (y - 1).fdiv 4 + -(y - 1).fdiv 100 + (y - 1).fdiv 400 + ((367 * m - 362).fdiv 12 + a + d) = gjd y m d := by
  subst h
  unfold gjd gy
  rw [fd (y - 1) (by decide), fd (y - 1) (by decide), fd (y - 1) (by decide), fd (367 * m - 362) (by decide)]; omega
theorem adj0 {y m : Int} (h : m ≤ 2) : 0 = gadj y m := by unfold gadj; rw [if_pos h]
theorem adj1 {y m : Int} (h : ¬ m ≤ 2) (l : lp y = true) : -1 = gadj y m := by unfold gadj; rw [if_neg h, if_pos l]
theorem adj2 {y m : Int} (h : ¬ m ≤ 2) (l : lp y = false) : -2 = gadj y m := by unfold gadj; rw [if_neg h, if_neg (by rw [l]; decide)]
theorem eqJ1 {y m d : Int} (h : m ≤ 2) : (1461 * (y - 1 + 4716)).fdiv 4 + (306001 * (m + 12 + 1)).fdiv 10000 + d - 1524 = jjd y m d := by
  unfold jjd
  rw [if_pos h, fd _ (by decide), fd _ (by decide)]
theorem eqJ2 {y m d : Int} (h : ¬ m ≤ 2) : (1461 * (y + 4716)).fdiv 4 + (306001 * (m + 1)).fdiv 10000 + d - 1524 = jjd y m d := by
  unfold jjd
  rw [if_neg h, fd _ (by decide), fd _ (by decide)]

theorem wC (j : Int) : (20 * (j + 1524) - 2442).fdiv 7305 = fjC j := by unfold fjC; rw [fd _ (by decide)]
theorem wE (j : Int) : ((j + 1524 - (1461 * (20 * (j + 1524) - 2442).fdiv 7305).fdiv 4) * 10000).fdiv 306001 = fjE j := by
  unfold fjE; rw [wC, fd _ (by decide), fd _ (by decide)]
theorem wD (j : Int) : j + 1524 - (1461 * (20 * (j + 1524) - 2442).fdiv 7305).fdiv 4 - (306001 * ((j + 1524 - (1461 * (20 * (j + 1524) - 2442).fdiv 7305).fdiv 4) * 10000).fdiv 306001).fdiv 10000 = fjD j := by
  rw [wE, wC]; unfold fjD; rw [fd _ (by decide), fd _ (by decide)]
theorem wMa {j : Int} (h : ((j + 1524 - (1461 * (20 * (j + 1524) - 2442).fdiv 7305).fdiv 4) * 10000).fdiv 306001 < 14) : ((j + 1524 - (1461 * (20 * (j + 1524) - 2442).fdiv 7305).fdiv 4) * 10000).fdiv 306001 - 1 = fjM j := by
  rw [wE] at h ⊢; unfold fjM; rw [if_pos h]
theorem wMb {j : Int} (h : ¬ ((j + 1524 - (1461 * (20 * (j + 1524) - 2442).fdiv 7305).fdiv 4) * 10000).fdiv 306001 < 14) : ((j + 1524 - (1461 * (20 * (j + 1524) - 2442).fdiv 7305).fdiv 4) * 10000).fdiv 306001 - 13 = fjM j := by
  rw [wE] at h ⊢; unfold fjM; rw [if_neg h]
theorem wYa {j : Int} (h : ((j + 1524 - (1461 * (20 * (j + 1524) - 2442).fdiv 7305).fdiv 4) * 10000).fdiv 306001 < 14) : (20 * (j + 1524) - 2442).fdiv 7305 - 4716 = fjY j := by
  have m := wMa h
  rw [wE] at h m
  have r := fjE_range j
  rw [wC]; unfold fjY; rw [if_pos (by omega)]
theorem wYb {j : Int} (h : ¬ ((j + 1524 - (1461 * (20 * (j + 1524) - 2442).fdiv 7305).fdiv 4) * 10000).fdiv 306001 < 14) : (20 * (j + 1524) - 2442).fdiv 7305 - 4715 = fjY j := by
  have m := wMb h
  rw [wE] at h m
  have r := fjE_range j
  rw [wC]; unfold fjY; rw [if_neg (by omega)]

theorem xYc {j : Int} (h : ((j - 1721426).fmod 146097).fdiv 36524 = 4) : (j - 1721426).fdiv 146097 * 400 + ((j - 1721426).fmod 146097).fdiv 36524 * 100 + (((j - 1721426).fmod 146097).fmod 36524).fdiv 1461 * 4 + ((((j - 1721426).fmod 146097).fmod 36524).fmod 1461).fdiv 365 = fgY j := by
  unfold fgY
  dsimp only
  rw [fd _ (by decide), fm _ (by decide)] at h
  rw [fd _ (by decide), fd _ (by decide), fd _ (by decide), fd _ (by decide), fm _ (by decide), fm _ (by decide), fm _ (by decide), if_pos (Or.inl h)]
theorem xYi {j : Int} (h : ((((j - 1721426).fmod 146097).fmod 36524).fmod 1461).fdiv 365 = 4) : (j - 1721426).fdiv 146097 * 400 + ((j - 1721426).fmod 146097).fdiv 36524 * 100 + (((j - 1721426).fmod 146097).fmod 36524).fdiv 1461 * 4 + ((((j - 1721426).fmod 146097).fmod 36524).fmod 1461).fdiv 365 = fgY j := by
  unfold fgY
  dsimp only
  rw [fd _ (by decide), fm _ (by decide), fm _ (by decide), fm _ (by decide)] at h
  rw [fd _ (by decide), fd _ (by decide), fd _ (by decide), fd _ (by decide), fm _ (by decide), fm _ (by decide), fm _ (by decide), if_pos (Or.inr h)]
theorem xYn {j : Int} (h : ¬ ((j - 1721426).fmod 146097).fdiv 36524 = 4) (k : ¬ ((((j - 1721426).fmod 146097).fmod 36524).fmod 1461).fdiv 365 = 4) : (j - 1721426).fdiv 146097 * 400 + ((j - 1721426).fmod 146097).fdiv 36524 * 100 + (((j - 1721426).fmod 146097).fmod 36524).fdiv 1461 * 4 + ((((j - 1721426).fmod 146097).fmod 36524).fmod 1461).fdiv 365 + 1 = fgY j := by
  unfold fgY
  dsimp only
  rw [fd _ (by decide), fm _ (by decide)] at h
  rw [fd _ (by decide), fm _ (by decide), fm _ (by decide), fm _ (by decide)] at k
  rw [fd _ (by decide), fd _ (by decide), fd _ (by decide), fd _ (by decide), fm _ (by decide), fm _ (by decide), fm _ (by decide), if_neg (fun x => x.elim h k)]
theorem xM0 {j Y : Int} (e : Y = fgY j) (h : j - gjd Y 1 1 < 58 + if lp Y = true then 1 else 0) : ((j - gjd Y 1 1 + 0) * 12 + 373).fdiv 367 = fgM j := by
  subst e
  rw [fd _ (by decide)]; unfold fgM fgT; rw [if_pos h]
theorem xM1 {j Y : Int} (e : Y = fgY j) (h : ¬ j - gjd Y 1 1 < 58 + if lp Y = true then 1 else 0) (l : lp Y = true) : ((j - gjd Y 1 1 + 1) * 12 + 373).fdiv 367 = fgM j := by
  subst e
  rw [fd _ (by decide)]; unfold fgM fgT; rw [if_neg h, if_pos l]
theorem xM2 {j Y : Int} (e : Y = fgY j) (h : ¬ j - gjd Y 1 1 < 58 + if lp Y = true then 1 else 0) (l : lp Y = false) : ((j - gjd Y 1 1 + 2) * 12 + 373).fdiv 367 = fgM j := by
  subst e
  rw [fd _ (by decide)]; unfold fgM fgT; rw [if_neg h, if_neg (by rw [l]; decide)]
theorem xD {j Y M : Int} (e : Y = fgY j) (f : M = fgM j) : j - gjd Y M 1 + 1 = fgD j := by subst e; subst f; rfl

/-- the year reckoned from March on -/
def mar (y x : Int) : Int := if 2 < 1 + x.fmod 12 then y else y - 1
theorem mar_hi {y x : Int} (h : 2 < 1 + x.fmod 12) : mar y x = y := by unfold mar; rw [if_pos h]
theorem mar_lo {y x : Int} (h : ¬ 2 < 1 + x.fmod 12) : mar y x = y - 1 := by unfold mar; rw [if_neg h]
theorem law_due (y x z : Int) : (mar y x).fdiv 100 - (mar y x).fdiv 400 - 2 + gjd y (1 + x.fmod 12) (1 + z.fmod 28) = jjd y (1 + x.fmod 12) (1 + z.fmod 28) := by
  by_cases h : 2 < 1 + x.fmod 12
  · rw [mar_hi h]; exact law_hi y z h
  · rw [mar_lo h]; exact law_lo y z h
theorem law_same (y x z : Int) :
    (fjY (gjd y (1 + x.fmod 12) (1 + z.fmod 28)) = y ∧ fjM (gjd y (1 + x.fmod 12) (1 + z.fmod 28)) = 1 + x.fmod 12 ∧ fjD (gjd y (1 + x.fmod 12) (1 + z.fmod 28)) = 1 + z.fmod 28) ↔ (200 ≤ mar y x ∧ mar y x < 300) := by
  by_cases h : 2 < 1 + x.fmod 12
  · rw [mar_hi h]; exact same_hi y z h
  · rw [mar_lo h]; exact same_lo y z h
end Mine

namespace Mine
open PySem PySem.W PySem.Spec PySem.Calls PyProof.Rows

/-- an int comes back; all else stands -/
abbrev RetI (x : Int) (h₀ : Heap) (L : Addr) (m : Str → Option Value) (news : List (Addr × Obj)) (s : Shared) (Q : Value → Shared → Prop) : Prop :=
  ∀ (t : Tok) (h' : Heap) (tk' : Nat), Fr h₀ L h' m → News h₀ L h' news → Q (.int x t) { s with heap := h', toks := tk' }
abbrev RetB (b : Bool) (h₀ : Heap) (L : Addr) (m : Str → Option Value) (news : List (Addr × Obj)) (s : Shared) (Q : Value → Shared → Prop) : Prop :=
  ∀ (h' : Heap) (tk' : Nat), Fr h₀ L h' m → News h₀ L h' news → Q (.bool b) { s with heap := h', toks := tk' }
abbrev tup3 (x y z : Int) (t1 t2 t3 : Tok) (c : Nat) : Obj := { cls := .type "tuple", data := .seq #[.int x t1, .int y t2, .int z t3] c }
/-- a new tuple of three ints comes back; all else stands -/
abbrev Ret3 (x y z : Int) (h₀ : Heap) (L : Addr) (m : Str → Option Value) (news : List (Addr × Obj)) (s : Shared) (Q : Value → Shared → Prop) : Prop :=
  ∀ (D : Addr) (t1 t2 t3 : Tok) (c : Nat) (h' : Heap) (tk' : Nat), Fr h₀ L h' m → News h₀ L h' ((D, tup3 x y z t1 t2 t3 c) :: news) → AllLt D news → Q (.ref D) { s with heap := h', toks := tk' }

abbrev RetT := Heap → Addr → (Str → Option Value) → List (Addr × Obj) → Shared → (Value → Shared → Prop) → Prop
/-- what a call of f upon vs does, from any def's frame with n frames' room -/
structure Cut (prog : Program) (w : World) (K : Frag) (p : Program) (loose : List Str) (mean : ExcName → Option Value) (mg mb : Str → Option Value) (n : Nat) (f : Addr) (vs : List Value) (pre : Prop) (R : RetT) : Prop where
  out : ∀ (dp un : Nat) (gd : Option (List Code)) (cn : Str) (cs : Scope) (a : Addr) (ccd : Value) (cl : List (Str × Addr)) (outer : List Env) (A₀ : Around) (base h₀ : Heap) (L : Addr) (m : Str → Option Value) (news : List (Addr × Obj)) (s : Shared) (Q E : Value → Shared → Prop),
    Below A₀ base outer h₀ → Fr h₀ L s.heap m → K.In h₀ → News h₀ L s.heap news → Top p loose mean mg mb h₀ → cs.kind = .function → pre → dp + n < recursionLimit → un + 8 * n < cLine → R h₀ L m news s Q →
      wpAny (model prog w) (ktrTop dp un gd cn cs L a ccd cl outer) (call (.ref f) vs) Q E s

section
variable {prog : Program} {w : World} {K : Frag} {p : Program} {loose : List Str} {mean : ExcName → Option Value} {mg mb : Str → Option Value}
structure CL (prog : Program) (w : World) (K : Frag) (p : Program) (loose : List Str) (mean : ExcName → Option Value) (mg mb : Str → Option Value) : Prop where
  out : ∀ (y : Int) (t : Tok), Cut prog w K p loose mean mg mb 2 21 [.int y t] True (RetB (lp y))
structure CV (prog : Program) (w : World) (K : Frag) (p : Program) (loose : List Str) (mean : ExcName → Option Value) (mg mb : Str → Option Value) : Prop where
  out : ∀ (y m d : Int) (t1 t2 t3 : Tok), Cut prog w K p loose mean mg mb 4 29 [.int y t1, .int m t2, .int d t3] (GOk y m d) (RetB true)
structure CG (prog : Program) (w : World) (K : Frag) (p : Program) (loose : List Str) (mean : ExcName → Option Value) (mg mb : Str → Option Value) : Prop where
  out : ∀ (y m d : Int) (t1 t2 t3 : Tok), Cut prog w K p loose mean mg mb 6 36 [.int y t1, .int m t2, .int d t3] (GOk y m d) (RetI (gjd y m d))
structure CU (prog : Program) (w : World) (K : Frag) (p : Program) (loose : List Str) (mean : ExcName → Option Value) (mg mb : Str → Option Value) : Prop where
  out : ∀ (y m d : Int) (t1 t2 t3 : Tok), Cut prog w K p loose mean mg mb 4 65 [.int y t1, .int m t2, .int d t3] (JOk y m d) (RetB true)
structure CJ (prog : Program) (w : World) (K : Frag) (p : Program) (loose : List Str) (mean : ExcName → Option Value) (mg mb : Str → Option Value) : Prop where
  out : ∀ (y m d : Int) (t1 t2 t3 : Tok), Cut prog w K p loose mean mg mb 6 79 [.int y t1, .int m t2, .int d t3] (JOk y m d) (RetI (jjd y m d))
structure CX (prog : Program) (w : World) (K : Frag) (p : Program) (loose : List Str) (mean : ExcName → Option Value) (mg mb : Str → Option Value) : Prop where
  out : ∀ (j : Int) (t : Tok), Cut prog w K p loose mean mg mb 8 43 [.int j t] True (Ret3 (fgY j) (fgM j) (fgD j))
structure CY (prog : Program) (w : World) (K : Frag) (p : Program) (loose : List Str) (mean : ExcName → Option Value) (mg mb : Str → Option Value) : Prop where
  out : ∀ (j : Int) (t : Tok), Cut prog w K p loose mean mg mb 2 72 [.int j t] True (Ret3 (fjY j) (fjM j) (fjD j))
theorem Cut.pre {n : Nat} {f : Addr} {vs : List Value} {pre : Prop} {R : RetT} (C : Cut prog w K p loose mean mg mb n f vs pre R) (h : pre) : Cut prog w K p loose mean mg mb n f vs True R :=
  ⟨fun _ _ _ _ _ _ _ _ _ _ _ _ _ _ _ _ _ _ B F X N T hk _ hd hu ret => C.out _ _ _ _ _ _ _ _ _ _ _ _ _ _ _ _ _ _ B F X N T hk h hd hu ret⟩
theorem CG.back (C : CG prog w K p loose mean mg mb) (j : Int) (t1 t2 t3 : Tok) : Cut prog w K p loose mean mg mb 6 36 [.int (fgY j) t1, .int (fgM j) t2, .int (fgD j) t3] True (RetI j) := by
  have c := (C.out (fgY j) (fgM j) (fgD j) t1 t2 t3).pre (fg_ok j)
  rw [fg_back] at c
  exact c
theorem CJ.back (C : CJ prog w K p loose mean mg mb) (j : Int) (t1 t2 t3 : Tok) : Cut prog w K p loose mean mg mb 6 79 [.int (fjY j) t1, .int (fjM j) t2, .int (fjD j) t3] True (RetI j) := by
  have c := (C.out (fjY j) (fjM j) (fjD j) t1 t2 t3).pre (fj_ok j)
  rw [fj_back] at c
  exact c
theorem CX.law (C : CX prog w K p loose mean mg mb) (y x z : Int) (t : Tok) : Cut prog w K p loose mean mg mb 8 43 [.int (gjd y (1 + x.fmod 12) (1 + z.fmod 28)) t] True (Ret3 y (1 + x.fmod 12) (1 + z.fmod 28)) := by
  have c := C.out (gjd y (1 + x.fmod 12) (1 + z.fmod 28)) t
  rw [law_gY, law_gM, law_gD] at c
  exact c
theorem CY.law (C : CY prog w K p loose mean mg mb) (y x z : Int) (t : Tok) : Cut prog w K p loose mean mg mb 2 72 [.int (jjd y (1 + x.fmod 12) (1 + z.fmod 28)) t] True (Ret3 y (1 + x.fmod 12) (1 + z.fmod 28)) := by
  have c := C.out (jjd y (1 + x.fmod 12) (1 + z.fmod 28)) t
  rw [law_jY, law_jM, law_jD] at c
  exact c
theorem CY.due (C : CY prog w K p loose mean mg mb) {u y x z : Int} (e : u + gjd y (1 + x.fmod 12) (1 + z.fmod 28) = jjd y (1 + x.fmod 12) (1 + z.fmod 28)) (t : Tok) : Cut prog w K p loose mean mg mb 2 72 [.int (u + gjd y (1 + x.fmod 12) (1 + z.fmod 28)) t] True (Ret3 y (1 + x.fmod 12) (1 + z.fmod 28)) := by
  rw [e]; exact C.law y x z t
theorem CX.due (C : CX prog w K p loose mean mg mb) {u y x z : Int} (e : u + gjd y (1 + x.fmod 12) (1 + z.fmod 28) = jjd y (1 + x.fmod 12) (1 + z.fmod 28)) (t : Tok) : Cut prog w K p loose mean mg mb 8 43 [.int (u + gjd y (1 + x.fmod 12) (1 + z.fmod 28)) t] True (Ret3 (fgY (jjd y (1 + x.fmod 12) (1 + z.fmod 28))) (fgM (jjd y (1 + x.fmod 12) (1 + z.fmod 28))) (fgD (jjd y (1 + x.fmod 12) (1 + z.fmod 28)))) := by
  rw [e]; exact C.out _ t
theorem cutIn {C : Program → World → Frag → Program → List Str → (ExcName → Option Value) → (Str → Option Value) → (Str → Option Value) → Prop} {h₀ : Heap} {A : Around} {c : Sem Flow} {Q : Flow → Shared → Prop} {E : Value → Shared → Prop} {s : Shared} (_T : Top p loose mean mg mb h₀) (_X : K.In h₀) (hc : C prog w K p loose mean mg mb)
    (hr : C prog w K p loose mean mg mb → wpAny (model prog w) A c Q E s) : wpAny (model prog w) A c Q E s := hr hc
variable {n : Nat} {f : Addr} {vs : List Value} {pre : Prop} {R : RetT}
theorem use {dp un : Nat} {gd : Option (List Code)} {cn : Str} {cs : Scope} {a : Addr} {ccd : Value} {cl : List (Str × Addr)} {outer : List Env} {A₀ : Around} {base h₀ : Heap} {L : Addr} {m : Str → Option Value} {news : List (Addr × Obj)} {s : Shared} {Q E : Value → Shared → Prop}
    (C : Cut prog w K p loose mean mg mb n f vs pre R) (B : Below A₀ base outer h₀) (F : Fr h₀ L s.heap m) (X : K.In h₀) (N : News h₀ L s.heap news) (T : Top p loose mean mg mb h₀) (hk : cs.kind = .function) (ok : pre)
    (hd : dp + n < recursionLimit) (hu : un + 8 * n < cLine) (ret : R h₀ L m news s Q) :
    wpAny (model prog w) (ktrTop dp un gd cn cs L a ccd cl outer) (call (.ref f) vs) Q E s := C.out _ _ _ _ _ _ _ _ _ _ _ _ _ _ _ _ _ _ B F X N T hk ok hd hu ret
end
section
variable {h₀ h' : Heap} {L : Addr} {m : Str → Option Value} {news news' : List (Addr × Obj)} {s : Shared} {Q : Value → Shared → Prop} {t : Tok} {tk' : Nat}
theorem retI {x y : Int} (hret : RetI x h₀ L m news s Q) (e : y = x) (F : Fr h₀ L h' m) (N : News h₀ L h' news') (hn : ∀ p ∈ news, p ∈ news') : Q (.int y t) { s with heap := h', toks := tk' } := by
  subst e
  exact hret t h' tk' F fun p hp => N p (hn p hp)
theorem retB {x y : Bool} (hret : RetB x h₀ L m news s Q) (e : y = x) (F : Fr h₀ L h' m) (N : News h₀ L h' news') (hn : ∀ p ∈ news, p ∈ news') : Q (.bool y) { s with heap := h', toks := tk' } := by
  subst e
  exact hret h' tk' F fun p hp => N p (hn p hp)
theorem ret3 {x y z x' y' z' : Int} {D : Addr} {t1 t2 t3 : Tok} {c : Nat} (hret : Ret3 x y z h₀ L m news s Q) (e1 : x' = x) (e2 : y' = y) (e3 : z' = z) (F : Fr h₀ L h' m) (N : News h₀ L h' ((D, tup3 x' y' z' t1 t2 t3 c) :: news)) (hl : AllLt D news) : Q (.ref D) { s with heap := h', toks := tk' } := by
  subst e1; subst e2; subst e3
  exact hret D t1 t2 t3 c h' tk' F N hl
end
/-- what the law says of its own day, told once -/
structure Told3 (x : Int) : Prop where
  mk ::
section
variable {h₀ : Heap} {L : Addr} {m : Str → Option Value} {news : List (Addr × Obj)} {s : Shared} {Q : Value → Shared → Prop} {y x z : Int}
theorem ret_law
    (k : Told3 x → (mar y x).fdiv 100 - (mar y x).fdiv 400 - 2 + gjd y (1 + x.fmod 12) (1 + z.fmod 28) = jjd y (1 + x.fmod 12) (1 + z.fmod 28) →
      ((fjY (gjd y (1 + x.fmod 12) (1 + z.fmod 28)) = y ∧ fjM (gjd y (1 + x.fmod 12) (1 + z.fmod 28)) = 1 + x.fmod 12 ∧ fjD (gjd y (1 + x.fmod 12) (1 + z.fmod 28)) = 1 + z.fmod 28) ↔ (200 ≤ mar y x ∧ mar y x < 300)) →
      RetI (jjd y (1 + x.fmod 12) (1 + z.fmod 28)) h₀ L m news s Q) : RetI (jjd y (1 + x.fmod 12) (1 + z.fmod 28)) h₀ L m news s Q := k ⟨⟩ (law_due y x z) (law_same y x z)
end
/-! two places where ways meet: the year from March on; the test of the days that bear one name -/
structure StMark : Prop where
  mk ::
structure IfMark : Prop where
  mk ::
section
variable {M : Model} {A : Around} {E : Value → Shared → Prop} {s : Shared} {h₀ h' : Heap} {L : Addr} {m : Str → Option Value} {news news' : List (Addr × Obj)}
def StJ (h₀ : Heap) (L : Addr) (m : Str → Option Value) (news : List (Addr × Obj)) (s : Shared) (fl : Flow) (s' : Shared) : Prop :=
  fl = .next ∧ ∃ h tk, s' = { s with heap := h, toks := tk } ∧ Fr h₀ L h m ∧ News h₀ L h news
theorem stj_end {tk : Nat} (F : Fr h₀ L h' m) (N : News h₀ L h' news') (hn : ∀ p ∈ news, p ∈ news') : StJ h₀ L m news s .next { s with heap := h', toks := tk } :=
  ⟨rfl, h', tk, rfl, F, fun p hp => N p (hn p hp)⟩
theorem stJoin {st : Stmt} {env : Env} {Q : Flow → Shared → Prop} (_F : Fr h₀ L s.heap m) (_N : News h₀ L s.heap news) (hc : StMark → wpAny M A (exec st env) (StJ h₀ L m news s) E s)
    (hk : ∀ (h : Heap) (tk : Nat), Fr h₀ L h m → News h₀ L h news → Q .next { s with heap := h, toks := tk }) : wpAny M A (exec st env) Q E s := by
  refine wpAny_mono (hc ⟨⟩) (fun fl s₂ hq => ?_) fun _ _ h => h
  obtain ⟨e, h, tk, hs, F, N⟩ := hq
  subst e; subst hs
  exact hk h tk F N
def IfJ (y x : Int) (h₀ : Heap) (L : Addr) (m : Str → Option Value) (news : List (Addr × Obj)) (s : Shared) (v : Value) (s' : Shared) : Prop :=
  ∃ t h tk, v = .int (mar y x) t ∧ s' = { s with heap := h, toks := tk } ∧ Fr h₀ L h m ∧ News h₀ L h news
theorem ifj_hi {y x : Int} {t : Tok} {tk : Nat} (h : 2 < 1 + x.fmod 12) (F : Fr h₀ L h' m) (N : News h₀ L h' news) : IfJ y x h₀ L m news s (.int y t) { s with heap := h', toks := tk } :=
  ⟨t, h', tk, by rw [mar_hi h], rfl, F, N⟩
theorem ifj_lo {y x : Int} {t : Tok} {tk : Nat} (h : ¬ 2 < 1 + x.fmod 12) (F : Fr h₀ L h' m) (N : News h₀ L h' news) : IfJ y x h₀ L m news s (.int (y - 1) t) { s with heap := h', toks := tk } :=
  ⟨t, h', tk, by rw [mar_lo h], rfl, F, N⟩
theorem ifJoin {y x : Int} {c : Sem Value} {Q : Value → Shared → Prop} (_F : Fr h₀ L s.heap m) (_N : News h₀ L s.heap news) (hc : IfMark → wpAny M A c (IfJ y x h₀ L m news s) E s)
    (hk : ∀ (t : Tok) (h : Heap) (tk : Nat), Fr h₀ L h m → News h₀ L h news → Q (.int (mar y x) t) { s with heap := h, toks := tk }) : wpAny M A c Q E s := by
  refine wpAny_mono (hc ⟨⟩) (fun v s₂ hq => ?_) fun _ _ h => h
  obtain ⟨t, h, tk, hv, hs, F, N⟩ := hq
  subst hv; subst hs
  exact hk t h tk F N
end
section
variable {prog : Program} {w : World} {A : Around} {E : Value → Shared → Prop} {s : Shared} {K : Frag} {h₀ : Heap} {L a : Addr} {m : Str → Option Value} {n : Nat} {dd : Option Addr} {sl : Array (Option Value)}
theorem in_30 {x : Int} {u t1 t2 t3 t4 : Tok} {Q : Value → Shared → Prop} (F : Fr h₀ L s.heap m) (X₀ : K.In h₀) (hl : K.lookup a = some ⟨.type "tuple", dd, .seq [.int 4 t1, .int 6 t2, .int 9 t3, .int 11 t4].toArray n, sl⟩)
    (h : Q (.bool (decide (x = 4 ∨ x = 6 ∨ x = 9 ∨ x = 11))) s) : wpAny (model prog w) A (compareOp .In (.int x u) (.ref a)) Q E s := by
  refine in_tuple_ints (ns := [4, 6, 9, 11]) (tupK (X₀.keeps F.keep) hl) (.cons _ _ (.cons _ _ (.cons _ _ (.cons _ _ .nil)))) ?_
  rw [any30]
  exact h
end
end Mine

open PySem PySem.W PySem.Calls PyProof.Rows
local macro_rules | `(tactic| walk_at "compareOp In int ref") => `(tactic| (k_here; k_dflt (refine' Mine.in_30 ?F ?X ?l ?_; (case F => k_asm); (case X => k_asm); (case l => k_is); k_whole)))
local macro_rules | `(tactic| k_room) => `(tactic| ((try simp only [depth_under_make, depth_under_kw, depth_in1, depth_deeper, depth_caller]); (try dsimp only [ktrTop]); first | decide | omega))
local macro_rules | `(tactic| k_units) => `(tactic| ((try simp only [units_in1, units_deeper, Around.mark_units, units_caller]); (try dsimp only [ktrTop]); first | decide | omega))
local macro_rules | `(tactic| walk_at "exec Raise some none") => `(tactic| (exfalso; first | exact Mine.gno0 (by assumption) (by assumption) | exact Mine.gno29 (by assumption) (by assumption) (by assumption) (by assumption) | exact Mine.gno28 (by assumption) (by assumption) (by assumption) (by assumption) | exact Mine.gno30 (by assumption) (by assumption) (by assumption) (by assumption) | exact Mine.gno31 (by assumption) (by assumption) (by assumption) (by assumption) | exact Mine.jno0 (by assumption) (by assumption) | exact Mine.jno29 (by assumption) (by assumption) (by assumption) (by assumption) | exact Mine.jno28 (by assumption) (by assumption) (by assumption) (by assumption) | exact Mine.jno30 (by assumption) (by assumption) (by assumption) (by assumption) | exact Mine.jno31 (by assumption) (by assumption) (by assumption) (by assumption)))
local macro_rules | `(tactic| walk_at "KCj") => `(tactic| ((with_reducible show KCj _ _ _ _ _ _ _ (Value.bool (Mine.lp _)) _); exact kcj_end (t := (0 : Nat)) rfl (by with_unfolding_all rfl) rfl (by assumption) (by assumption) (fun _ hp => hp)))
local macro_rules | `(tactic| walk_at "call ref") => `(tactic| (k_here; (with_reducible show wpAny _ _ (PySem.call (Value.ref 21) [Value.int _ _]) _ _ _); (k_dflt refine' Mine.use (Mine.CL.out (by assumption) _ _) ?k1 ?k2 ?k3 ?k4 ?k5 ?kK True.intro ?kd ?ku ?_); (case k1 => k_asm); (case k2 => k_asm); (case k3 => k_asm); (case k4 => k_asm); (case k5 => k_asm); (case kK => first | exact rfl | assumption); (case kd => ((try simp only [depth_under_make, depth_under_kw, depth_in1, depth_deeper, depth_caller]); (try dsimp only [ktrTop]); first | decide | omega)); (case ku => ((try simp only [units_in1, units_deeper, Around.mark_units, units_caller]); (try dsimp only [ktrTop]); first | decide | omega)); intro h9 tk9 F9 N9; (try dsimp only); (try k_fold)))
local macro_rules | `(tactic| walk_at "call ref") => `(tactic| (k_here; (with_reducible show wpAny _ _ (PySem.call (Value.ref 29) [Value.int _ _, Value.int _ _, Value.int _ _]) _ _ _); (k_dflt refine' Mine.use (Mine.CV.out (by assumption) _ _ _ _ _ _) ?k1 ?k2 ?k3 ?k4 ?k5 ?kK ?ko ?kd ?ku ?_); (case ko => first | assumption | exact Mine.law_gok _ _ _ | exact Mine.gok_low (by omega) (by omega)); (case k1 => k_asm); (case k2 => k_asm); (case k3 => k_asm); (case k4 => k_asm); (case k5 => k_asm); (case kK => first | exact rfl | assumption); (case kd => ((try simp only [depth_under_make, depth_under_kw, depth_in1, depth_deeper, depth_caller]); (try dsimp only [ktrTop]); first | decide | omega)); (case ku => ((try simp only [units_in1, units_deeper, Around.mark_units, units_caller]); (try dsimp only [ktrTop]); first | decide | omega)); intro h9 tk9 F9 N9; (try dsimp only); (try k_fold)))
local macro_rules | `(tactic| walk_at "call ref") => `(tactic| (k_here; (with_reducible show wpAny _ _ (PySem.call (Value.ref 65) [Value.int _ _, Value.int _ _, Value.int _ _]) _ _ _); (k_dflt refine' Mine.use (Mine.CU.out (by assumption) _ _ _ _ _ _) ?k1 ?k2 ?k3 ?k4 ?k5 ?kK ?ko ?kd ?ku ?_); (case ko => first | assumption | exact Mine.law_jok _ _ _); (case k1 => k_asm); (case k2 => k_asm); (case k3 => k_asm); (case k4 => k_asm); (case k5 => k_asm); (case kK => first | exact rfl | assumption); (case kd => ((try simp only [depth_under_make, depth_under_kw, depth_in1, depth_deeper, depth_caller]); (try dsimp only [ktrTop]); first | decide | omega)); (case ku => ((try simp only [units_in1, units_deeper, Around.mark_units, units_caller]); (try dsimp only [ktrTop]); first | decide | omega)); intro h9 tk9 F9 N9; (try dsimp only); (try k_fold)))
local macro_rules | `(tactic| walk_at "call ref") => `(tactic| (k_here; (with_reducible show wpAny _ _ (PySem.call (Value.ref 36) [Value.int _ _, Value.int _ _, Value.int _ _]) _ _ _); (k_dflt refine' Mine.use (Mine.CG.out (by assumption) _ _ _ _ _ _) ?k1 ?k2 ?k3 ?k4 ?k5 ?kK ?ko ?kd ?ku ?_); (case ko => first | assumption | exact Mine.law_gok _ _ _ | exact Mine.gok_low (by omega) (by omega)); (case k1 => k_asm); (case k2 => k_asm); (case k3 => k_asm); (case k4 => k_asm); (case k5 => k_asm); (case kK => first | exact rfl | assumption); (case kd => ((try simp only [depth_under_make, depth_under_kw, depth_in1, depth_deeper, depth_caller]); (try dsimp only [ktrTop]); first | decide | omega)); (case ku => ((try simp only [units_in1, units_deeper, Around.mark_units, units_caller]); (try dsimp only [ktrTop]); first | decide | omega)); intro t9 h9 tk9 F9 N9; (try dsimp only); (try k_fold)))
local macro_rules | `(tactic| walk_at "call ref") => `(tactic| (k_here; (with_reducible show wpAny _ _ (PySem.call (Value.ref 79) [Value.int _ _, Value.int _ _, Value.int _ _]) _ _ _); (k_dflt refine' Mine.use (Mine.CJ.out (by assumption) _ _ _ _ _ _) ?k1 ?k2 ?k3 ?k4 ?k5 ?kK ?ko ?kd ?ku ?_); (case ko => first | assumption | exact Mine.law_jok _ _ _); (case k1 => k_asm); (case k2 => k_asm); (case k3 => k_asm); (case k4 => k_asm); (case k5 => k_asm); (case kK => first | exact rfl | assumption); (case kd => ((try simp only [depth_under_make, depth_under_kw, depth_in1, depth_deeper, depth_caller]); (try dsimp only [ktrTop]); first | decide | omega)); (case ku => ((try simp only [units_in1, units_deeper, Around.mark_units, units_caller]); (try dsimp only [ktrTop]); first | decide | omega)); (try ((fail_if_success (rename Mine.Told3 _ => tX')); refine' Mine.ret_law ?_; intro tX' fX' sX')); intro t9 h9 tk9 F9 N9; (try dsimp only); (try k_fold)))
local macro_rules | `(tactic| walk_at "call ref") => `(tactic| (k_here; (with_reducible show wpAny _ _ (PySem.call (Value.ref 43) [Value.int _ _]) _ _ _); (k_dflt refine' Mine.use (Mine.CX.out (by assumption) _ _) ?k1 ?k2 ?k3 ?k4 ?k5 ?kK True.intro ?kd ?ku ?_); (case k1 => k_asm); (case k2 => k_asm); (case k3 => k_asm); (case k4 => k_asm); (case k5 => k_asm); (case kK => first | exact rfl | assumption); (case kd => ((try simp only [depth_under_make, depth_under_kw, depth_in1, depth_deeper, depth_caller]); (try dsimp only [ktrTop]); first | decide | omega)); (case ku => ((try simp only [units_in1, units_deeper, Around.mark_units, units_caller]); (try dsimp only [ktrTop]); first | decide | omega)); intro D9 t91 t92 t93 c9 h9 tk9 F9 N9 l9; (try simp only [AllLt, and_true] at l9); (try dsimp only); (try k_fold)))
local macro_rules | `(tactic| walk_at "call ref") => `(tactic| (k_here; (with_reducible show wpAny _ _ (PySem.call (Value.ref 72) [Value.int _ _]) _ _ _); (k_dflt refine' Mine.use (Mine.CY.out (by assumption) _ _) ?k1 ?k2 ?k3 ?k4 ?k5 ?kK True.intro ?kd ?ku ?_); (case k1 => k_asm); (case k2 => k_asm); (case k3 => k_asm); (case k4 => k_asm); (case k5 => k_asm); (case kK => first | exact rfl | assumption); (case kd => ((try simp only [depth_under_make, depth_under_kw, depth_in1, depth_deeper, depth_caller]); (try dsimp only [ktrTop]); first | decide | omega)); (case ku => ((try simp only [units_in1, units_deeper, Around.mark_units, units_caller]); (try dsimp only [ktrTop]); first | decide | omega)); intro D9 t91 t92 t93 c9 h9 tk9 F9 N9 l9; (try simp only [AllLt, and_true] at l9); (try dsimp only); (try k_fold)))
local macro_rules | `(tactic| walk_at "call ref") => `(tactic| (k_here; (with_reducible show wpAny _ _ (PySem.call (Value.ref 36) [Value.int (Mine.fgY _) _, Value.int (Mine.fgM _) _, Value.int (Mine.fgD _) _]) _ _ _); (k_dflt refine' Mine.use (Mine.CG.back (by assumption) _ _ _ _) ?k1 ?k2 ?k3 ?k4 ?k5 ?kK True.intro ?kd ?ku ?_); (case k1 => k_asm); (case k2 => k_asm); (case k3 => k_asm); (case k4 => k_asm); (case k5 => k_asm); (case kK => first | exact rfl | assumption); (case kd => ((try simp only [depth_under_make, depth_under_kw, depth_in1, depth_deeper, depth_caller]); (try dsimp only [ktrTop]); first | decide | omega)); (case ku => ((try simp only [units_in1, units_deeper, Around.mark_units, units_caller]); (try dsimp only [ktrTop]); first | decide | omega)); intro t9 h9 tk9 F9 N9; (try dsimp only); (try k_fold)))
local macro_rules | `(tactic| walk_at "call ref") => `(tactic| (k_here; (with_reducible show wpAny _ _ (PySem.call (Value.ref 79) [Value.int (Mine.fjY _) _, Value.int (Mine.fjM _) _, Value.int (Mine.fjD _) _]) _ _ _); (k_dflt refine' Mine.use (Mine.CJ.back (by assumption) _ _ _ _) ?k1 ?k2 ?k3 ?k4 ?k5 ?kK True.intro ?kd ?ku ?_); (case k1 => k_asm); (case k2 => k_asm); (case k3 => k_asm); (case k4 => k_asm); (case k5 => k_asm); (case kK => first | exact rfl | assumption); (case kd => ((try simp only [depth_under_make, depth_under_kw, depth_in1, depth_deeper, depth_caller]); (try dsimp only [ktrTop]); first | decide | omega)); (case ku => ((try simp only [units_in1, units_deeper, Around.mark_units, units_caller]); (try dsimp only [ktrTop]); first | decide | omega)); intro t9 h9 tk9 F9 N9; (try dsimp only); (try k_fold)))
local macro_rules | `(tactic| walk_at "call ref") => `(tactic| (k_here; (with_reducible show wpAny _ _ (PySem.call (Value.ref 43) [Value.int (Mine.gjd _ (1 + Int.fmod _ 12) (1 + Int.fmod _ 28)) _]) _ _ _); (k_dflt refine' Mine.use (Mine.CX.law (by assumption) _ _ _ _) ?k1 ?k2 ?k3 ?k4 ?k5 ?kK True.intro ?kd ?ku ?_); (case k1 => k_asm); (case k2 => k_asm); (case k3 => k_asm); (case k4 => k_asm); (case k5 => k_asm); (case kK => first | exact rfl | assumption); (case kd => ((try simp only [depth_under_make, depth_under_kw, depth_in1, depth_deeper, depth_caller]); (try dsimp only [ktrTop]); first | decide | omega)); (case ku => ((try simp only [units_in1, units_deeper, Around.mark_units, units_caller]); (try dsimp only [ktrTop]); first | decide | omega)); intro D9 t91 t92 t93 c9 h9 tk9 F9 N9 l9; (try simp only [AllLt, and_true] at l9); (try dsimp only); (try k_fold)))
local macro_rules | `(tactic| walk_at "call ref") => `(tactic| (k_here; (with_reducible show wpAny _ _ (PySem.call (Value.ref 72) [Value.int (Mine.jjd _ (1 + Int.fmod _ 12) (1 + Int.fmod _ 28)) _]) _ _ _); (k_dflt refine' Mine.use (Mine.CY.law (by assumption) _ _ _ _) ?k1 ?k2 ?k3 ?k4 ?k5 ?kK True.intro ?kd ?ku ?_); (case k1 => k_asm); (case k2 => k_asm); (case k3 => k_asm); (case k4 => k_asm); (case k5 => k_asm); (case kK => first | exact rfl | assumption); (case kd => ((try simp only [depth_under_make, depth_under_kw, depth_in1, depth_deeper, depth_caller]); (try dsimp only [ktrTop]); first | decide | omega)); (case ku => ((try simp only [units_in1, units_deeper, Around.mark_units, units_caller]); (try dsimp only [ktrTop]); first | decide | omega)); intro D9 t91 t92 t93 c9 h9 tk9 F9 N9 l9; (try simp only [AllLt, and_true] at l9); (try dsimp only); (try k_fold)))
local macro_rules | `(tactic| walk_at "call ref") => `(tactic| (k_here; (with_reducible show wpAny _ _ (PySem.call (Value.ref 72) [Value.int (_ + Mine.gjd _ (1 + Int.fmod _ 12) (1 + Int.fmod _ 28)) _]) _ _ _); (k_dflt refine' Mine.use (Mine.CY.due (by assumption) (by assumption) _) ?k1 ?k2 ?k3 ?k4 ?k5 ?kK True.intro ?kd ?ku ?_); (case k1 => k_asm); (case k2 => k_asm); (case k3 => k_asm); (case k4 => k_asm); (case k5 => k_asm); (case kK => first | exact rfl | assumption); (case kd => ((try simp only [depth_under_make, depth_under_kw, depth_in1, depth_deeper, depth_caller]); (try dsimp only [ktrTop]); first | decide | omega)); (case ku => ((try simp only [units_in1, units_deeper, Around.mark_units, units_caller]); (try dsimp only [ktrTop]); first | decide | omega)); intro D9 t91 t92 t93 c9 h9 tk9 F9 N9 l9; (try simp only [AllLt, and_true] at l9); (try dsimp only); (try k_fold)))
local macro_rules | `(tactic| walk_at "call ref") => `(tactic| (k_here; (with_reducible show wpAny _ _ (PySem.call (Value.ref 43) [Value.int (_ + Mine.gjd _ (1 + Int.fmod _ 12) (1 + Int.fmod _ 28)) _]) _ _ _); (k_dflt refine' Mine.use (Mine.CX.due (by assumption) (by assumption) _) ?k1 ?k2 ?k3 ?k4 ?k5 ?kK True.intro ?kd ?ku ?_); (case k1 => k_asm); (case k2 => k_asm); (case k3 => k_asm); (case k4 => k_asm); (case k5 => k_asm); (case kK => first | exact rfl | assumption); (case kd => ((try simp only [depth_under_make, depth_under_kw, depth_in1, depth_deeper, depth_caller]); (try dsimp only [ktrTop]); first | decide | omega)); (case ku => ((try simp only [units_in1, units_deeper, Around.mark_units, units_caller]); (try dsimp only [ktrTop]); first | decide | omega)); intro D9 t91 t92 t93 c9 h9 tk9 F9 N9 l9; (try simp only [AllLt, and_true] at l9); (try dsimp only); (try k_fold)))
local macro_rules | `(tactic| walk_at "exec If") => `(tactic| (k_here; (with_reducible show wpAny _ _ (exec (Stmt.If (PySem.Expr.Compare (PySem.Expr.Compare (PySem.Expr.Name (Str.ofString "other") _) _ _ _) _ _ _) _ _ _) _) _ _ _); (fail_if_success (rename Mine.StMark => sM')); (rename Fr _ _ _ _ => cF'); (rename News _ _ _ _ => cN'); refine' Mine.stJoin cF' cN' (fun mM' => ?_) (fun h9 tk9 F9 N9 => ?_); (try k_sweep)))
local macro_rules | `(tactic| walk_at "StJ") => `(tactic| first | exact Mine.stj_end (by assumption) (by assumption) (by kcj_all) | (exfalso; law_absurd))
local macro_rules | `(tactic| walk_at "eval IfExp") => `(tactic| (k_here; (with_reducible show wpAny _ _ (eval (PySem.Expr.IfExp _ (PySem.Expr.Name (Str.ofString "year") _) _ _) _) _ _ _); (fail_if_success (rename Mine.IfMark => iM')); (rename Fr _ _ _ _ => cF'); (rename News _ _ _ _ => cN'); refine' Mine.ifJoin (x := _) (y := _) cF' cN' (fun mM' => ?_) (fun t9 h9 tk9 F9 N9 => ?_); (try k_sweep)))
local macro_rules | `(tactic| walk_at "IfJ") => `(tactic| first | exact Mine.ifj_hi (by assumption) (by assumption) (by assumption) | exact Mine.ifj_lo (by assumption) (by assumption) (by assumption))
set_option maxRecDepth 100000 in
set_option maxHeartbeats 100000000 in
theorem PySem.Challenge.cw_ah0015_01_holds : PySem.Challenge.rw_ah0015_01.Holds := by
  w_on
  o_law
  k_head
  case hw => w_witness2
  k_go0
  all_goals try k_fold
  refine' Mine.cutIn (C := Mine.CL) (by assumption) (by assumption) ?cL ?_
  case cL =>
    refine ⟨fun y t => ⟨?_⟩⟩
    intros
    rename_i hret
    refine wpAny_call ?_
    k_dflt cell_enter
    k_steps
    all_goals (refine Mine.retB hret (Mine.lp_walk _ _ ?_) (by assumption) (by assumption) (fun _ h => h); first | (rw [if_pos (by assumption), if_neg (by assumption)]; simp [*]; done) | (rw [if_pos (by assumption), if_pos (by assumption)]; rfl) | (rw [if_neg (by assumption)]; simp [*]; done))
  intro hL
  refine' Mine.cutIn (C := Mine.CV) (by assumption) (by assumption) ?cV ?_
  case cV =>
    refine ⟨fun y m d t1 t2 t3 => ⟨?_⟩⟩
    intros
    rename_i hret
    refine wpAny_call ?_
    k_dflt cell_enter
    k_steps
    all_goals (refine Mine.retB hret rfl (by assumption) (by assumption) (fun _ h => h))
  intro hV
  refine' Mine.cutIn (C := Mine.CG) (by assumption) (by assumption) ?cG ?_
  case cG =>
    refine ⟨fun y m d t1 t2 t3 => ⟨?_⟩⟩
    intros
    rename_i hret
    refine wpAny_call ?_
    k_dflt cell_enter
    k_steps
    all_goals (refine Mine.retI hret (Mine.eqG ?_) (by assumption) (by assumption) (fun _ h => h); first | exact Mine.adj0 (by omega) | exact Mine.adj1 (by omega) (by assumption) | exact Mine.adj2 (by omega) (by assumption))
  intro hG
  refine' Mine.cutIn (C := Mine.CU) (by assumption) (by assumption) ?cU ?_
  case cU =>
    refine ⟨fun y m d t1 t2 t3 => ⟨?_⟩⟩
    intros
    rename_i hret
    refine wpAny_call ?_
    k_dflt cell_enter
    k_steps
    all_goals (first | exact Mine.retB hret rfl (by assumption) (by assumption) (fun _ h => h))
  intro hU
  refine' Mine.cutIn (C := Mine.CJ) (by assumption) (by assumption) ?cJ ?_
  case cJ =>
    refine ⟨fun y m d t1 t2 t3 => ⟨?_⟩⟩
    intros
    rename_i hret
    refine wpAny_call ?_
    k_dflt cell_enter
    k_steps
    all_goals (first | exact Mine.retI hret (Mine.eqJ1 (by omega)) (by assumption) (by assumption) (fun _ h => h) | exact Mine.retI hret (Mine.eqJ2 (by omega)) (by assumption) (by assumption) (fun _ h => h))
  intro hJ
  refine' Mine.cutIn (C := Mine.CY) (by assumption) (by assumption) ?cY ?_
  case cY =>
    refine ⟨fun j t => ⟨?_⟩⟩
    intros
    rename_i hret
    refine wpAny_call ?_
    k_dflt cell_enter
    k_steps
    all_goals (first | exact Mine.ret3 hret (Mine.wYa (by assumption)) (Mine.wMa (by assumption)) (Mine.wD _) (by assumption) (by assumption) (allLt_of (by assumption)) | exact Mine.ret3 hret (Mine.wYb (by assumption)) (Mine.wMb (by assumption)) (Mine.wD _) (by assumption) (by assumption) (allLt_of (by assumption)))
  intro hY
  refine' Mine.cutIn (C := Mine.CX) (by assumption) (by assumption) ?cX ?_
  case cX =>
    refine ⟨fun j t => ⟨?_⟩⟩
    intros
    rename_i hret
    refine wpAny_call ?_
    k_dflt cell_enter
    k_steps
    all_goals (
      first
      | have eY := Mine.xYc (j := j) (by assumption)
      | have eY := Mine.xYi (j := j) (by assumption)
      | have eY := Mine.xYn (j := j) (by assumption) (by assumption)
      first
      | exact Mine.ret3 hret eY (Mine.xM0 eY (by assumption)) (Mine.xD eY (Mine.xM0 eY (by assumption))) (by assumption) (by assumption) (allLt_of (by assumption))
      | exact Mine.ret3 hret eY (Mine.xM1 eY (by assumption) (by assumption)) (Mine.xD eY (Mine.xM1 eY (by assumption) (by assumption))) (by assumption) (by assumption) (allLt_of (by assumption))
      | exact Mine.ret3 hret eY (Mine.xM2 eY (by assumption) (by assumption)) (Mine.xD eY (Mine.xM2 eY (by assumption) (by assumption))) (by assumption) (by assumption) (allLt_of (by assumption)))
  intro hX
  k_steps
