import PyProof.Rows.All
import Wide.All
import OpenK.AllK
import Wide.FinOn
import Lean
import PySem.Challenge.RW_ah0017_01
namespace MineCal
/-- Gregorian leap test -/
def lpG (y : Int) : Bool := decide (y % 4 = 0) && (!decide (y % 100 = 0) || decide (y % 400 = 0))
def jG (y m d : Int) : Int :=
  1721426 - 1 + 365 * (y - 1) + (y - 1) / 4 + -((y - 1) / 100) + (y - 1) / 400 + ((367 * m - 362) / 12 + (if m ≤ 2 then 0 else if lpG y = true then -1 else -2) + d)
def jJ (y m d : Int) : Int :=
  if m ≤ 2 then 1461 * (y - 1 + 4716) / 4 + 306001 * (m + 12 + 1) / 10000 + d - 1524
  else 1461 * (y + 4716) / 4 + 306001 * (m + 1) / 10000 + d - 1524
def jC (y m d : Int) : Int := d + (m - 1) * 30 + (y - 1) * 365 + y / 4 + 1825030 - 1
def jI (y m d : Int) : Int := d + -(-59 * (m - 1) / 2) + (y - 1) * 354 + (3 + 11 * y) / 30 + 1948440 - 1
def jN (y m d : Int) : Int :=
  if m = 1 then jG (y + 78) 3 (22 - (if lpG (y + 78) = true then 1 else 0)) + (d - 1)
  else jG (y + 78) 3 (22 - (if lpG (y + 78) = true then 1 else 0)) + (if lpG (y + 78) = true then 31 else 30) + (min (m - 2) 5) * 31 + (if 8 ≤ m then (m - 7) * 30 else 0) + (d - 1)
def day (k y m d : Int) : Int :=
  if k = 0 then jJ y m d else if k = 1 then jC y m d else if k = 2 then jI y m d else if k = 3 then jG y m d else jN y m d
def long (k y : Int) : Bool :=
  if k = 0 then decide (y % 4 = 0) else if k = 1 then (decide (y % 4 = 3) || decide (y % 4 = -1)) else decide ((y * 11 + 14) % 30 < 11)
def yJ (n : Int) : Int :=
  let b := n + 1524
  let c := (20 * b - 2442) / 7305
  let e := (b - 1461 * c / 4) * 10000 / 306001
  let month := if e < 14 then e - 1 else e - 13
  if 2 < month then c - 4716 else c - 4715
def yC (n : Int) : Int := (4 * (n - 1825030) + 1463) / 1461
def yI (n : Int) : Int := (30 * (n - 1948440) + 10646) / 10631
def yG (n : Int) : Int :=
  let depoch := n - 1721426
  let dqc := depoch % 146097
  let cent := dqc / 36524
  let dcent := dqc % 36524
  let quad := dcent / 1461
  let dquad := dcent % 1461
  let yindex := dquad / 365
  let y := depoch / 146097 * 400 + cent * 100 + quad * 4 + yindex
  if cent = 4 ∨ yindex = 4 then y else y + 1
def yN (n : Int) : Int :=
  if n - jG (yG n) 1 1 < 80 then yG n - 78 - 1 else yG n - 78
def year (k n : Int) : Int :=
  if k = 0 then yJ n else if k = 1 then yC n else if k = 2 then yI n else if k = 3 then yG n else yN n
def yG0 (n : Int) : Int :=
  (n - 1721426).fdiv 146097 * 400 + ((n - 1721426).fmod 146097).fdiv 36524 * 100 + (((n - 1721426).fmod 146097).fmod 36524).fdiv 1461 * 4 + ((((n - 1721426).fmod 146097).fmod 36524).fmod 1461).fdiv 365
theorem yG_f (n : Int) : yG n = if ((n - 1721426).fmod 146097).fdiv 36524 = 4 ∨ ((((n - 1721426).fmod 146097).fmod 36524).fmod 1461).fdiv 365 = 4 then yG0 n else yG0 n + 1 := by
  unfold yG yG0
  simp (disch := omega) only [Int.fmod_eq_emod_of_nonneg, Int.fdiv_eq_ediv_of_nonneg]
theorem yG_a (n : Int) (h : ((n - 1721426).fmod 146097).fdiv 36524 = 4) : yG0 n = yG n := by rw [yG_f, if_pos (Or.inl h)]
theorem yG_b (n : Int) (h : ((((n - 1721426).fmod 146097).fmod 36524).fmod 1461).fdiv 365 = 4) : yG0 n = yG n := by rw [yG_f, if_pos (Or.inr h)]
theorem yG_c (n : Int) (h : ((n - 1721426).fmod 146097).fdiv 36524 ≠ 4) (h' : ((((n - 1721426).fmod 146097).fmod 36524).fmod 1461).fdiv 365 ≠ 4) : yG0 n + 1 = yG n := by
  rw [yG_f, if_neg (fun x => x.elim h h')]
theorem yr0 {k n Y : Int} (h : k = 0) (e : Y = yJ n) : Y = year k n := by subst h; exact e
theorem yr1 {k n : Int} (h : k = 1) : (4 * (n - 1825030) + 1463).fdiv 1461 = year k n := by subst h; rw [Int.fdiv_eq_ediv_of_nonneg _ (by decide)]; rfl
theorem yr2 {k n : Int} (h : k = 2) : (30 * (n - 1948440) + 10646).fdiv 10631 = year k n := by subst h; rw [Int.fdiv_eq_ediv_of_nonneg _ (by decide)]; rfl
theorem yr3 {k n : Int} (h : k = 3) : yG n = year k n := by subst h; rfl
theorem yr4 {k n Y : Int} (h0 : k ≠ 0) (h1 : k ≠ 1) (h2 : k ≠ 2) (h3 : k ≠ 3) (e : Y = yN n) : Y = year k n := by
  unfold year; rw [if_neg h0, if_neg h1, if_neg h2, if_neg h3]; exact e
theorem yN_a {n : Int} (h : n - jG (yG n) 1 1 < 80) : yG n - 78 - 1 = yN n := by unfold yN; rw [if_pos h]
theorem yN_b {n : Int} (h : ¬ n - jG (yG n) 1 1 < 80) : yG n - 78 = yN n := by unfold yN; rw [if_neg h]
theorem yJ_a {n : Int} (h : ((n + 1524 - (1461 * (20 * (n + 1524) - 2442).fdiv 7305).fdiv 4) * 10000).fdiv 306001 < 14) : (20 * (n + 1524) - 2442).fdiv 7305 - 4716 = yJ n := by
  simp (disch := omega) only [Int.fdiv_eq_ediv_of_nonneg] at h ⊢
  unfold yJ
  dsimp only
  have e : 2 < (n + 1524 - 1461 * ((20 * (n + 1524) - 2442) / 7305) / 4) * 10000 / 306001 - 1 := by omega
  rw [if_pos h, if_pos e]
theorem yJ_b {n : Int} (h : ¬ ((n + 1524 - (1461 * (20 * (n + 1524) - 2442).fdiv 7305).fdiv 4) * 10000).fdiv 306001 < 14) : (20 * (n + 1524) - 2442).fdiv 7305 - 4715 = yJ n := by
  simp (disch := omega) only [Int.fdiv_eq_ediv_of_nonneg] at h ⊢
  unfold yJ
  dsimp only
  have e : ¬ 2 < (n + 1524 - 1461 * ((20 * (n + 1524) - 2442) / 7305) / 4) * 10000 / 306001 - 13 := by omega
  rw [if_neg h, if_neg e]
theorem mon_lo (x : Int) : 1 ≤ 1 + x.fmod 12 := by rw [Int.fmod_eq_emod_of_nonneg _ (by decide)]; omega
theorem mon_hi (x : Int) : 1 + x.fmod 12 ≤ 12 := by rw [Int.fmod_eq_emod_of_nonneg _ (by decide)]; omega
theorem dom_lo (x : Int) : 1 ≤ 1 + (x.fdiv 12).fmod 28 := by rw [Int.fmod_eq_emod_of_nonneg _ (by decide)]; omega
theorem dom_hi (x : Int) : 1 + (x.fdiv 12).fmod 28 ≤ 28 := by rw [Int.fmod_eq_emod_of_nonneg _ (by decide)]; omega

theorem dy0a {k y m d : Int} (h : k = 0) (h2 : m ≤ 2) : (1461 * (y - 1 + 4716)).fdiv 4 + (306001 * (m + 12 + 1)).fdiv 10000 + d - 1524 = day k y m d := by
  subst h
  rw [Int.fdiv_eq_ediv_of_nonneg _ (by decide), Int.fdiv_eq_ediv_of_nonneg _ (by decide)]
  show _ = jJ y m d
  unfold jJ; rw [if_pos h2]
theorem dy0b {k y m d : Int} (h : k = 0) (h2 : ¬ m ≤ 2) : (1461 * (y + 4716)).fdiv 4 + (306001 * (m + 1)).fdiv 10000 + d - 1524 = day k y m d := by
  subst h
  rw [Int.fdiv_eq_ediv_of_nonneg _ (by decide), Int.fdiv_eq_ediv_of_nonneg _ (by decide)]
  show _ = jJ y m d
  unfold jJ; rw [if_neg h2]
theorem dy1 {k y m d : Int} (h : k = 1) : d + (m - 1) * 30 + (y - 1) * 365 + y.fdiv 4 + 1825030 - 1 = day k y m d := by
  subst h
  rw [Int.fdiv_eq_ediv_of_nonneg _ (by decide)]
  rfl
theorem dy2 {k y m d : Int} (h : k = 2) : jI y m d = day k y m d := by subst h; rfl
theorem dy3 {k y m d : Int} (h : k = 3) : jG y m d = day k y m d := by subst h; rfl
theorem day_4 {k y m d : Int} (h0 : k ≠ 0) (h1 : k ≠ 1) (h2 : k ≠ 2) (h3 : k ≠ 3) : day k y m d = jN y m d := by
  unfold day; rw [if_neg h0, if_neg h1, if_neg h2, if_neg h3]
theorem dy4a {k y m d : Int} (h0 : k ≠ 0) (h1 : k ≠ 1) (h2 : k ≠ 2) (h3 : k ≠ 3) (h : m = 1) : jG (y + 78) 3 (22 - if lpG (y + 78) = true then 1 else 0) + (d - 1) = day k y m d := by
  rw [day_4 h0 h1 h2 h3]; unfold jN; rw [if_pos h]
theorem min_if (a : Int) : (if 5 < a then 5 else a) = min a 5 := by split <;> omega
theorem dy4b {k y m d : Int} (h0 : k ≠ 0) (h1 : k ≠ 1) (h2 : k ≠ 2) (h3 : k ≠ 3) (h : m ≠ 1) (h8 : 8 ≤ m) : jG (y + 78) 3 (22 - if lpG (y + 78) = true then 1 else 0) + (if lpG (y + 78) = true then 31 else 30) + (if 5 < m - 2 then 5 else m - 2) * 31 + (m - 7) * 30 + (d - 1) = day k y m d := by
  rw [day_4 h0 h1 h2 h3, min_if]; unfold jN; rw [if_neg h, if_pos h8]
theorem dy4c {k y m d : Int} (h0 : k ≠ 0) (h1 : k ≠ 1) (h2 : k ≠ 2) (h3 : k ≠ 3) (h : m ≠ 1) (h8 : ¬ 8 ≤ m) : jG (y + 78) 3 (22 - if lpG (y + 78) = true then 1 else 0) + (if lpG (y + 78) = true then 31 else 30) + (if 5 < m - 2 then 5 else m - 2) * 31 + (d - 1) = day k y m d := by
  rw [day_4 h0 h1 h2 h3, min_if]; unfold jN; rw [if_neg h, if_neg h8, Int.add_zero]
/-- the program's test of evenness -/
def even (told count part whole : Int) : Bool := decide (count * part / whole ≤ told) && decide (told ≤ -(-count * part / whole))
end MineCal
namespace MineCal
/-- the sum of leap days before -/
def lc (z : Int) : Int := z / 4 - z / 100 + z / 400

theorem lc_step (y : Int) : lc y = lc (y - 1) + (if lpG y = true then 1 else 0) := by
  unfold lc lpG
  simp only [Bool.and_eq_true, Bool.or_eq_true, Bool.not_eq_true', decide_eq_true_eq, decide_eq_false_iff_not]
  split <;> omega

theorem lc_bound (z : Int) : -591 ≤ 400 * lc z - 97 * z ∧ 400 * lc z - 97 * z ≤ 288 := by
  unfold lc
  omega

theorem jG_lo {m : Int} (y d : Int) (h : m ≤ 2) : jG y m d = 1721425 + 365 * (y - 1) + lc (y - 1) + ((367 * m - 362) / 12 + d) := by
  unfold jG lc
  rw [if_pos h]
  omega
theorem jG_hi {m : Int} (y d : Int) (h : 2 < m) : jG y m d = 1721425 + 365 * (y - 1) + lc y + ((367 * m - 362) / 12 - 2 + d) := by
  have q := lc_step y
  unfold jG
  rw [if_neg (by omega : ¬ m ≤ 2)]
  unfold lc at q ⊢
  split <;> simp_all <;> omega

theorem jG_gap (y m d c : Int) : -879 ≤ 400 * (jG (y + c) m d - jG y m d) - 146097 * c ∧ 400 * (jG (y + c) m d - jG y m d) - 146097 * c ≤ 879 := by
  by_cases h : m ≤ 2
  · rw [jG_lo (y + c) d h, jG_lo y d h]
    have a := lc_bound (y - 1)
    have b := lc_bound (y + c - 1)
    omega
  · rw [jG_hi (y + c) d (by omega), jG_hi y d (by omega)]
    have a := lc_bound y
    have b := lc_bound (y + c)
    omega

theorem jG_year (y m d : Int) (hm : 1 ≤ m) (hm' : m ≤ 12) (hd : 1 ≤ d) (hd' : d ≤ 28) : jG y 1 1 ≤ jG y m d ∧ jG y m d < jG (y + 1) 1 1 := by
  have q := lc_step y
  rw [jG_lo y 1 (by decide : (1 : Int) ≤ 2), jG_lo (y + 1) 1 (by decide : (1 : Int) ≤ 2)]
  have e : y + 1 - 1 = y := by omega
  rw [e]
  have hq : lc (y - 1) ≤ lc y := by rw [q]; split <;> omega
  by_cases h : m ≤ 2
  · rw [jG_lo y d h]; omega
  · rw [jG_hi y d (by omega)]; omega

theorem jN_one (y d : Int) : jN y 1 d = 1721425 + 365 * (y + 77) + lc (y + 77) + (80 + d) := by
  unfold jN
  rw [if_pos rfl, jG_hi _ _ (by decide : (2 : Int) < 3)]
  have q := lc_step (y + 78)
  have e : y + 78 - 1 = y + 77 := by omega
  rw [e] at q ⊢
  rw [q]
  split <;> omega
theorem jN_more {m : Int} (y d : Int) (h : 1 < m) : jN y m d = 1721425 + 365 * (y + 77) + lc (y + 78) + (110 + min (m - 2) 5 * 31 + (if 8 ≤ m then (m - 7) * 30 else 0) + d) := by
  unfold jN
  rw [if_neg (by omega : ¬ m = 1), jG_hi _ _ (by decide : (2 : Int) < 3)]
  have e : y + 78 - 1 = y + 77 := by omega
  rw [e]
  generalize min (m - 2) 5 * 31 = a
  generalize (if 8 ≤ m then (m - 7) * 30 else 0) = b
  split <;> omega
theorem jN_gap (y m d c : Int) (hm : 1 ≤ m) : -879 ≤ 400 * (jN (y + c) m d - jN y m d) - 146097 * c ∧ 400 * (jN (y + c) m d - jN y m d) - 146097 * c ≤ 879 := by
  by_cases h : m = 1
  · subst h
    rw [jN_one, jN_one]
    have a := lc_bound (y + 77)
    have b := lc_bound (y + c + 77)
    omega
  · rw [jN_more (y + c) d (by omega), jN_more y d (by omega)]
    have a := lc_bound (y + 78)
    have b := lc_bound (y + c + 78)
    generalize min (m - 2) 5 * 31 = u
    generalize (if 8 ≤ m then (m - 7) * 30 else 0) = v
    omega
theorem jN_year (y m d : Int) (hm : 1 ≤ m) (hm' : m ≤ 12) (hd : 1 ≤ d) (hd' : d ≤ 28) : jN y 1 1 ≤ jN y m d ∧ jN y m d < jN (y + 1) 1 1 := by
  have q := lc_step (y + 78)
  have e : y + 78 - 1 = y + 77 := by omega
  rw [e] at q
  have hq : lc (y + 77) ≤ lc (y + 78) := by rw [q]; split <;> omega
  have e2 : y + 1 + 77 = y + 78 := by omega
  rw [jN_one y 1, jN_one (y + 1) 1, e2]
  by_cases h : m = 1
  · subst h; rw [jN_one]; omega
  · rw [jN_more y d (by omega)]
    split <;> omega

theorem lc_mono (y : Int) : lc y ≤ lc (y + 1) := by
  have q := lc_step (y + 1)
  have e : y + 1 - 1 = y := by omega
  rw [e] at q
  rw [q]; split <;> omega
theorem lc_at (q a b c z : Int) (h : z = 400 * q + 100 * a + 4 * b + c) (ha : 0 ≤ a) (ha' : a ≤ 3) (hb : 0 ≤ b) (hb' : b ≤ 24) (hc : 0 ≤ c) (hc' : c ≤ 3) : lc z = 97 * q + 24 * a + b := by
  unfold lc
  have h4 : z / 4 = 100 * q + 25 * a + b := by omega
  have h100 : z / 100 = 4 * q + a := by omega
  have h400 : z / 400 = q := by omega
  rw [h4, h100, h400]
  omega

theorem yG_core (n q a b c r y : Int) (hn : n - 1721426 = 146097 * q + 36524 * a + 1461 * b + 365 * c + r) (ha : 0 ≤ a) (ha' : a ≤ 4) (hb : 0 ≤ b) (hb' : b ≤ 24) (hc : 0 ≤ c) (hc' : c ≤ 4) (hr : 0 ≤ r) (hr' : r < 365)
    (h1 : 1461 * b + 365 * c + r < 36524) (h2 : 36524 * a + 1461 * b + 365 * c + r < 146097) (h3 : 365 * c + r < 1461)
    (hy : y = if a = 4 ∨ c = 4 then q * 400 + a * 100 + b * 4 + c else q * 400 + a * 100 + b * 4 + c + 1) : jG y 1 1 ≤ n ∧ n < jG (y + 1) 1 1 := by
  rw [jG_lo _ _ (by decide : (1 : Int) ≤ 2), jG_lo _ _ (by decide : (1 : Int) ≤ 2)]
  have e : y + 1 - 1 = y := by omega
  rw [e]
  by_cases h4 : a = 4
  · rw [if_pos (Or.inl h4)] at hy
    have l1 := lc_at q 3 24 3 (y - 1) (by omega) (by decide) (by decide) (by decide) (by decide) (by decide) (by decide)
    have l2 := lc_at (q + 1) 0 0 0 y (by omega) (by decide) (by decide) (by decide) (by decide) (by decide) (by decide)
    omega
  · by_cases h5 : c = 4
    · rw [if_pos (Or.inr h5)] at hy
      have l1 := lc_at q a b 3 (y - 1) (by omega) ha (by omega) hb hb' (by decide) (by decide)
      have l2 := lc_at q a (b + 1) 0 y (by omega) ha (by omega) (by omega) (by omega) (by decide) (by decide)
      omega
    · rw [if_neg (by omega)] at hy
      have l1 := lc_at q a b c (y - 1) (by omega) ha (by omega) hb hb' hc (by omega)
      have l2 := lc_mono (y - 1)
      have e2 : y - 1 + 1 = y := by omega
      rw [e2] at l2
      omega
theorem yG_holds (n : Int) : jG (yG n) 1 1 ≤ n ∧ n < jG (yG n + 1) 1 1 :=
  yG_core n ((n - 1721426) / 146097) ((n - 1721426) % 146097 / 36524) ((n - 1721426) % 146097 % 36524 / 1461) ((n - 1721426) % 146097 % 36524 % 1461 / 365) ((n - 1721426) % 146097 % 36524 % 1461 % 365) (yG n)
    (by omega) (by omega) (by omega) (by omega) (by omega) (by omega) (by omega) (by omega) (by omega) (by omega) (by omega) (by omega) rfl

theorem yN_holds (n : Int) : jN (yN n) 1 1 ≤ n ∧ n < jN (yN n + 1) 1 1 := by
  have q := yG_holds n
  rw [jN_one, jN_one]
  rw [jG_lo _ _ (by decide : (1 : Int) ≤ 2), jG_lo _ _ (by decide : (1 : Int) ≤ 2)] at q
  unfold yN
  rw [jG_lo _ _ (by decide : (1 : Int) ≤ 2)]
  generalize yG n = g at q ⊢
  have e : g + 1 - 1 = g := by omega
  rw [e] at q
  split
  · have e1 : g - 78 - 1 + 77 = g - 2 := by omega
    have e2 : g - 78 - 1 + 1 + 77 = g - 1 := by omega
    rw [e1, e2]
    have l := lc_mono (g - 2)
    have e3 : g - 2 + 1 = g - 1 := by omega
    rw [e3] at l
    omega
  · have e1 : g - 78 + 77 = g - 1 := by omega
    have e2 : g - 78 + 1 + 77 = g := by omega
    rw [e1, e2]
    omega

/-- the year that holds a day, when each year's first day is known up to the straying -/
theorem grow (J : Int → Int) (gap : ∀ y c : Int, -879 ≤ 400 * (J (y + c) - J y) - 146097 * c ∧ 400 * (J (y + c) - J y) - 146097 * c ≤ 879)
    (y t h c : Int) (h1 : J y ≤ h) (h2 : h < J (y + 1)) (h3 : J t ≤ h + c) (h4 : h + c < J (t + 1)) :
    146097 * (t - y - 1) - 879 < 400 * c ∧ 400 * c < 146097 * (t - y + 1) + 879 := by
  have a := gap y (t + 1 - y)
  have b := gap (y + 1) (t - (y + 1))
  have e1 : y + (t + 1 - y) = t + 1 := by omega
  have e2 : y + 1 + (t - (y + 1)) = t := by omega
  rw [e1] at a
  rw [e2] at b
  omega

theorem yJ_eq (n : Int) : yJ n = (4 * (n + 1095) + 3) / 1461 - 4715 := by
  unfold yJ
  dsimp only
  generalize hc : (20 * (n + 1524) - 2442) / 7305 = c
  generalize hd : 1461 * c / 4 = d
  have h1 : 123 ≤ n + 1524 - d := by omega
  have h2 : n + 1524 - d ≤ 488 := by omega
  by_cases h : n + 1524 - d ≤ 428
  · have e1 : (n + 1524 - d) * 10000 / 306001 < 14 := by omega
    have e2 : 2 < (n + 1524 - d) * 10000 / 306001 - 1 := by omega
    rw [if_pos e1, if_pos e2]
    omega
  · have e1 : ¬ (n + 1524 - d) * 10000 / 306001 < 14 := by omega
    have e2 : ¬ 2 < (n + 1524 - d) * 10000 / 306001 - 13 := by omega
    rw [if_neg e1, if_neg e2]
    omega
end MineCal
namespace MineCal
theorem even_of {t c p w : Int} (h1 : c * p / w ≤ t) (h2 : t ≤ -(-c * p / w)) : even t c p w = true := by
  unfold even
  rw [decide_eq_true h1, decide_eq_true h2]; rfl

/-- what a calendar of kind k, its mean year P : W, answers -/
structure Good (J : Int → Int → Int → Int) (Y : Int → Int) (lg : Int → Bool) (P W p : Int) : Prop where
  same : ∀ y m d c : Int, c * P / W ≤ J (y + c) m d - J y m d ∧ J (y + c) m d - J y m d ≤ -(-c * P / W)
  told : ∀ y m d c : Int, 1 ≤ m → m ≤ 12 → 1 ≤ d → d ≤ 28 → c * W / P ≤ Y (J y m d + c) - y ∧ Y (J y m d + c) - y ≤ -(-c * W / P)
  year : ∀ n : Int, J (Y n) 1 1 ≤ n ∧ n < J (Y n + 1) 1 1
  step : ∀ y : Int, J (y + 1) 1 1 - J y 1 1 = p + (if lg y = true then 1 else 0)

/-- a part added moves a floor by that part's floor or ceiling -/
theorem dv {w : Int} (hw : 0 < w) (u v : Int) : v / w ≤ (u + v) / w - u / w ∧ (u + v) / w - u / w ≤ -(-v / w) := by
  have lo : ∀ a b : Int, a / w + b / w ≤ (a + b) / w := fun a b => (Int.le_ediv_iff_mul_le hw).mpr (by
    rw [Int.add_mul]; exact Int.add_le_add (Int.ediv_mul_le a (Int.ne_of_gt hw)) (Int.ediv_mul_le b (Int.ne_of_gt hw)))
  have h1 := lo u v
  have h2 := lo (u + v) (-v)
  rw [Int.add_neg_cancel_right] at h2
  omega
/-- days and years tied by one mean: the same date's floors, the year by the turned floor -/
theorem Good.of {J : Int → Int → Int → Int} {Y : Int → Int} {lg : Int → Bool} {P W p : Int} (hP : 0 < P) (hW : 0 < W) (b : Int → Int) (K : Int → Int → Int)
    (hJ : ∀ y m d, J y m d = (P * y + b m) / W + K m d) (hY : ∀ n, Y n = (W * (n - K 1 1) + (W - 1 - b 1)) / P)
    (ins : ∀ y m d : Int, 1 ≤ m → m ≤ 12 → 1 ≤ d → d ≤ 28 → J y 1 1 ≤ J y m d ∧ J y m d < J (y + 1) 1 1)
    (step : ∀ y : Int, J (y + 1) 1 1 - J y 1 1 = p + (if lg y = true then 1 else 0)) : Good J Y lg P W p := by
  have first : ∀ y n, J y 1 1 ≤ n ↔ y ≤ Y n := fun y n => by
    rw [hJ, hY, Int.le_ediv_iff_mul_le hP, Int.mul_comm y P]
    have e : (P * y + b 1) / W ≤ n - K 1 1 ↔ (P * y + b 1) / W < n - K 1 1 + 1 := Int.lt_add_one_iff.symm
    have e2 : (P * y + b 1) / W + K 1 1 ≤ n ↔ (P * y + b 1) / W ≤ n - K 1 1 := by omega
    rw [e2, e, Int.ediv_lt_iff_lt_mul hW, Int.add_mul, Int.mul_comm _ W]
    generalize W * (n - K 1 1) = g
    omega
  have year : ∀ n : Int, J (Y n) 1 1 ≤ n ∧ n < J (Y n + 1) 1 1 := fun n =>
    ⟨(first _ n).mpr (Int.le_refl _), Int.not_le.mp fun h => by have := (first _ n).mp h; omega⟩
  refine ⟨fun y m d c => ?_, fun y m d c h1 h2 h3 h4 => ?_, year, step⟩
  · have q := dv hW (P * y + b m) (c * P)
    have e : P * (y + c) + b m = P * y + b m + c * P := by rw [Int.mul_add, Int.mul_comm P c]; omega
    rw [hJ, hJ, e, Int.neg_mul]
    generalize (P * y + b m + c * P) / W = A at q ⊢
    generalize (P * y + b m) / W = B at q ⊢
    omega
  · have i := ins y m d h1 h2 h3 h4
    have y1 := (first y _).mp i.1
    have y2 : Y (J y m d) = y := Int.le_antisymm (Int.lt_add_one_iff.mp (Int.not_le.mp fun h => absurd ((first (y + 1) _).mpr h) (Int.not_le.mpr i.2))) y1
    rw [hY] at y2
    have q := dv hP (W * (J y m d - K 1 1) + (W - 1 - b 1)) (c * W)
    rw [y2] at q
    have e : W * (J y m d + c - K 1 1) + (W - 1 - b 1) = W * (J y m d - K 1 1) + (W - 1 - b 1) + c * W := by
      rw [show J y m d + c - K 1 1 = J y m d - K 1 1 + c by omega, Int.mul_add, Int.mul_comm W c]; omega
    rw [hY, e, Int.neg_mul]
    exact q

theorem good0 : Good jJ yJ (fun y => decide (y % 4 = 0)) 1461 4 365 := by
  refine Good.of (by decide) (by decide) (fun m => 1461 * (if m ≤ 2 then 4715 else 4716)) (fun m d => (if m ≤ 2 then 306001 * (m + 12 + 1) / 10000 else 306001 * (m + 1) / 10000) + d - 1524) (fun y m d => ?_) (fun n => ?_) (fun y m d h1 h2 h3 h4 => ?_) (fun y => ?_)
  · unfold jJ; (try dsimp only); split
    · rw [show 1461 * (y - 1 + 4716) = 1461 * y + 1461 * 4715 by omega]; generalize (1461 * y + 1461 * 4715) / 4 = A; omega
    · rw [Int.mul_add]; generalize (1461 * y + 1461 * 4716) / 4 = A; omega
  · rw [yJ_eq]; rw [if_pos (by decide), if_pos (by decide), show (4 : Int) * (n + 1095) + 3 = 4 * (n - (306001 * (1 + 12 + 1) / 10000 + 1 - 1524)) + (4 - 1 - 1461 * 4715) + 4715 * 1461 by omega, Int.add_mul_ediv_right _ _ (by decide)]
    generalize (4 * (n - (306001 * (1 + 12 + 1) / 10000 + 1 - 1524)) + (4 - 1 - 1461 * 4715) : Int) / 1461 = A
    omega
  · unfold jJ; rw [if_pos (show (1 : Int) ≤ 2 by decide), if_pos (show (1 : Int) ≤ 2 by decide)]; split <;> omega
  · unfold jJ; rw [if_pos (by decide), if_pos (by decide)]; simp only [decide_eq_true_eq]
    rw [show 1461 * (y + 1 - 1 + 4716) = y + 4 * (365 * y + 1722519) by omega, show 1461 * (y - 1 + 4716) = y + 3 + 4 * (365 * y + 1722153) by omega, Int.add_mul_ediv_left _ _ (by decide), Int.add_mul_ediv_left _ _ (by decide)]
    split <;> omega
theorem good1 : Good jC yC (fun y => decide (y % 4 = 3) || decide (y % 4 = -1)) 1461 4 365 := by
  refine Good.of (by decide) (by decide) (fun _ => 0) (fun m d => d + (m - 1) * 30 - 365 + 1825030 - 1) (fun y m d => ?_) (fun n => ?_) (fun y m d h1 h2 h3 h4 => ?_) (fun y => ?_)
  · unfold jC; omega
  · unfold yC; congr 1; omega
  · unfold jC; omega
  · unfold jC; simp only [Bool.or_eq_true, decide_eq_true_eq]; split <;> omega
theorem good2 : Good jI yI (fun y => decide ((y * 11 + 14) % 30 < 11)) 10631 30 354 := by
  refine Good.of (by decide) (by decide) (fun _ => 3) (fun m d => d + -(-59 * (m - 1) / 2) - 354 + 1948440 - 1) (fun y m d => ?_) (fun n => ?_) (fun y m d h1 h2 h3 h4 => ?_) (fun y => ?_)
  · unfold jI; generalize -(-59 * (m - 1) / 2) = t; omega
  · unfold yI; congr 1; omega
  · unfold jI; omega
  · unfold jI; simp only [decide_eq_true_eq]
    have e1 : 3 + 11 * (y + 1) = y * 11 + 14 := by omega
    have e2 : 3 + 11 * y = y * 11 + 14 - 11 := by omega
    rw [e1, e2]
    generalize y * 11 + 14 = t
    split <;> omega
end MineCal
namespace MineCal
theorem ite_yes {c : Prop} [Decidable c] {A B : Prop} (hc : c) (h : A) : ite c A B := by rw [if_pos hc]; exact h
theorem ite_no {c : Prop} [Decidable c] {A B : Prop} (hc : ¬ c) (h : B) : ite c A B := by rw [if_neg hc]; exact h
theorem nb {b : Bool} (h : b = true) : ¬ ((!b) = true) := by subst h; decide

/-- kind k's calendar, as one -/
structure Kind (k P W p : Int) : Prop where
  good : Good (day k) (year k) (long k) P W p

theorem kind0 : Kind 0 1461 4 365 := ⟨good0⟩
theorem kind1 : Kind 1 1461 4 365 := ⟨good1⟩
theorem kind2 : Kind 2 10631 30 354 := ⟨good2⟩

theorem Kind.same {k P W p : Int} (g : Kind k P W p) (y m d c : Int) : even (day k (y + c) m d - day k y m d) c P W = true :=
  even_of (g.good.same y m d c).1 (g.good.same y m d c).2
theorem Kind.told {k P W p : Int} (g : Kind k P W p) (y c x : Int) : even (year k (day k y (1 + x.fmod 12) (1 + (x.fdiv 12).fmod 28) + c) - y) c W P = true :=
  have q := g.good.told y _ _ c (mon_lo x) (mon_hi x) (dom_lo x) (dom_hi x)
  even_of q.1 q.2
theorem Kind.lo {k P W p : Int} (g : Kind k P W p) (n : Int) : day k (year k n) 1 1 ≤ n := (g.good.year n).1
theorem Kind.hi {k P W p : Int} (g : Kind k P W p) (n : Int) : n < day k (year k n + 1) 1 1 := (g.good.year n).2
end MineCal
namespace MineCal
theorem ne_no {a b : Int} (h : a = b) : ¬ ((a != b) = true) := by subst h; simp

theorem isl_pos (y m d : Int) (h1 : 1 ≤ m) (h2 : m ≤ 12) : 701310178 ≤ 360 * jI y m d - 10631 * (12 * y + m - 1) - 360 * d ∧ 360 * jI y m d - 10631 * (12 * y + m - 1) - 360 * d ≤ 701310805 := by
  unfold jI
  obtain ⟨j, hj0, hj5, h⟩ : ∃ j : Int, 0 ≤ j ∧ j ≤ 5 ∧ (m = 2 * j + 1 ∨ m = 2 * j + 2) := ⟨(m - 1) / 2, by omega, by omega, by omega⟩
  have q0 : 30 * ((3 + 11 * y) / 30) ≤ 3 + 11 * y := by omega
  have q1 : 3 + 11 * y ≤ 30 * ((3 + 11 * y) / 30) + 29 := by omega
  generalize (3 + 11 * y) / 30 = q at *
  rcases h with h | h
  · have t : -59 * (m - 1) / 2 = -59 * j := by omega
    rw [t, h]; clear t h h1 h2
    constructor <;> omega
  · have t : -59 * (m - 1) / 2 = -59 * j - 30 := by omega
    rw [t, h]; clear t h h1 h2
    constructor <;> omega
theorem isl (y m c d : Int) (h1 : 1 ≤ m) (h2 : m ≤ 12) : -627 ≤ 360 * (jI ((12 * y + m - 1 + c) / 12) ((12 * y + m - 1 + c) % 12 + 1) d - jI y m d) - 10631 * c ∧ 360 * (jI ((12 * y + m - 1 + c) / 12) ((12 * y + m - 1 + c) % 12 + 1) d - jI y m d) - 10631 * c ≤ 627 := by
  have e : 12 * y + m - 1 + c = 12 * ((12 * y + m - 1 + c) / 12) + (12 * y + m - 1 + c) % 12 := by omega
  have a := isl_pos y m d h1 h2
  have b := isl_pos ((12 * y + m - 1 + c) / 12) ((12 * y + m - 1 + c) % 12 + 1) d (by omega) (by omega)
  omega
theorem isl_lo (y c x d : Int) : -627 ≤ 360 * (jI ((12 * y + (1 + x.fmod 12) - 1 + c).fdiv 12) ((12 * y + (1 + x.fmod 12) - 1 + c).fmod 12 + 1) d - jI y (1 + x.fmod 12) d) - 10631 * c := by
  rw [Int.fdiv_eq_ediv_of_nonneg _ (by decide), Int.fmod_eq_emod_of_nonneg (12 * y + (1 + x.fmod 12) - 1 + c) (by decide)]
  exact (isl y _ c d (mon_lo x) (mon_hi x)).1
theorem isl_hi (y c x d : Int) : 360 * (jI ((12 * y + (1 + x.fmod 12) - 1 + c).fdiv 12) ((12 * y + (1 + x.fmod 12) - 1 + c).fmod 12 + 1) d - jI y (1 + x.fmod 12) d) - 10631 * c ≤ 627 := by
  rw [Int.fdiv_eq_ediv_of_nonneg _ (by decide), Int.fmod_eq_emod_of_nonneg (12 * y + (1 + x.fmod 12) - 1 + c) (by decide)]
  exact (isl y _ c d (mon_lo x) (mon_hi x)).2
theorem isl_a (c d : Int) : jI (30 * c + 27) 2 d - jI (30 * c + 16) 11 d = 3634 := by unfold jI; omega
theorem isl_b (c d : Int) : jI (30 * c + 46) 11 d - jI (30 * c + 27) 2 d = 6997 := by unfold jI; omega

structure Wide (k a : Int) : Prop where
  gap : ∀ y m d c : Int, 1 ≤ m → -879 ≤ 400 * (day k (y + c) m d - day k y m d) - 146097 * c ∧ 400 * (day k (y + c) m d - day k y m d) - 146097 * c ≤ 879
  inside : ∀ y m d : Int, 1 ≤ m → m ≤ 12 → 1 ≤ d → d ≤ 28 → day k y 1 1 ≤ day k y m d ∧ day k y m d < day k (y + 1) 1 1
  year : ∀ n : Int, day k (year k n) 1 1 ≤ n ∧ n < day k (year k n + 1) 1 1
  one : ∀ c : Int, day k (400 * c - a + 304) 1 1 - day k (400 * c - a + 97) 1 1 = 75603
  two : ∀ c : Int, day k (400 * c - a + 497) 1 1 - day k (400 * c - a + 304) 1 1 = 70494

theorem day3 (y m d : Int) : day 3 y m d = jG y m d := rfl
theorem day4 (y m d : Int) : day 4 y m d = jN y m d := rfl
theorem wide3 : Wide 3 0 where
  gap := fun y m d c _ => jG_gap y m d c
  inside := fun y m d h1 h2 h3 h4 => jG_year y m d h1 h2 h3 h4
  year := fun n => yG_holds n
  one := fun c => by rw [day3, day3, jG_lo _ _ (by decide : (1 : Int) ≤ 2), jG_lo _ _ (by decide : (1 : Int) ≤ 2), lc_at c 0 24 0 (400 * c - 0 + 97 - 1) (by omega) (by decide) (by decide) (by decide) (by decide) (by decide) (by decide), lc_at c 3 0 3 (400 * c - 0 + 304 - 1) (by omega) (by decide) (by decide) (by decide) (by decide) (by decide) (by decide)]; omega
  two := fun c => by rw [day3, day3, jG_lo _ _ (by decide : (1 : Int) ≤ 2), jG_lo _ _ (by decide : (1 : Int) ≤ 2), lc_at (c + 1) 0 24 0 (400 * c - 0 + 497 - 1) (by omega) (by decide) (by decide) (by decide) (by decide) (by decide) (by decide), lc_at c 3 0 3 (400 * c - 0 + 304 - 1) (by omega) (by decide) (by decide) (by decide) (by decide) (by decide) (by decide)]; omega
theorem wide4 : Wide 4 78 where
  gap := fun y m d c h => jN_gap y m d c h
  inside := fun y m d h1 h2 h3 h4 => jN_year y m d h1 h2 h3 h4
  year := fun n => yN_holds n
  one := fun c => by rw [day4, day4, jN_one, jN_one, lc_at c 0 24 0 (400 * c - 78 + 97 + 77) (by omega) (by decide) (by decide) (by decide) (by decide) (by decide) (by decide), lc_at c 3 0 3 (400 * c - 78 + 304 + 77) (by omega) (by decide) (by decide) (by decide) (by decide) (by decide) (by decide)]; omega
  two := fun c => by rw [day4, day4, jN_one, jN_one, lc_at (c + 1) 0 24 0 (400 * c - 78 + 497 + 77) (by omega) (by decide) (by decide) (by decide) (by decide) (by decide) (by decide), lc_at c 3 0 3 (400 * c - 78 + 304 + 77) (by omega) (by decide) (by decide) (by decide) (by decide) (by decide) (by decide)]; omega

theorem Wide.gap_lo {k a : Int} (g : Wide k a) (y c x d : Int) : -879 ≤ 400 * (day k (y + c) (1 + x.fmod 12) d - day k y (1 + x.fmod 12) d) - 146097 * c := (g.gap y _ d c (mon_lo x)).1
theorem Wide.gap_hi {k a : Int} (g : Wide k a) (y c x d : Int) : 400 * (day k (y + c) (1 + x.fmod 12) d - day k y (1 + x.fmod 12) d) - 146097 * c ≤ 879 := (g.gap y _ d c (mon_lo x)).2
theorem Wide.grow {k a : Int} (g : Wide k a) (y c x : Int) : 146097 * (MineCal.year k (day k y (1 + x.fmod 12) (1 + (x.fdiv 12).fmod 28) + c) - y - 1) - 879 < 400 * c ∧ 400 * c < 146097 * (MineCal.year k (day k y (1 + x.fmod 12) (1 + (x.fdiv 12).fmod 28) + c) - y + 1) + 879 :=
  have i := g.inside y _ _ (mon_lo x) (mon_hi x) (dom_lo x) (dom_hi x)
  have q := g.year (day k y (1 + x.fmod 12) (1 + (x.fdiv 12).fmod 28) + c)
  MineCal.grow (fun y => day k y 1 1) (fun y c => g.gap y 1 1 c (by decide)) y _ _ c i.1 i.2 q.1 q.2
theorem Wide.grow_lo {k a : Int} (g : Wide k a) (y c x : Int) : 146097 * (MineCal.year k (day k y (1 + x.fmod 12) (1 + (x.fdiv 12).fmod 28) + c) - y - 1) - 879 < 400 * c := (g.grow y c x).1
theorem Wide.grow_hi {k a : Int} (g : Wide k a) (y c x : Int) : 400 * c < 146097 * (MineCal.year k (day k y (1 + x.fmod 12) (1 + (x.fdiv 12).fmod 28) + c) - y + 1) + 879 := (g.grow y c x).2
theorem Wide.lo {k a : Int} (g : Wide k a) (n : Int) : day k (MineCal.year k n) 1 1 ≤ n := (g.year n).1
theorem Wide.hi {k a : Int} (g : Wide k a) (n : Int) : n < day k (MineCal.year k n + 1) 1 1 := (g.year n).2
end MineCal
namespace MineCal
open PySem PySem.W
/-- a turn of the comprehension: the place is kept where the year is long -/
def gl (K Y : Int) (l : List Int) (k : Int) : List Int := if long K (Y + k) = true then l ++ [k] else l
theorem gl_pos {K Y k : Int} {l : List Int} (h : long K (Y + k) = true) : gl K Y l k = l ++ [k] := if_pos h
theorem gl_neg {K Y k : Int} {l : List Int} (h : long K (Y + k) = false) : gl K Y l k = l := if_neg (by rw [h]; decide)
theorem gl_grows (K Y : Int) : KPfGrows (gl K Y) := by
  intro l k
  unfold gl
  split
  · rw [List.length_append, List.length_singleton]; omega
  · omega
theorem long_count (k y : Int) : ∀ (ks : List Int) (acc : List Int), ((ks.foldl (gl k y) acc).length : Int) = acc.length + (ks.map (fun j => if long k (y + j) = true then (1 : Int) else 0)).sum := by
  intro ks
  induction ks with
  | nil => intro acc; simp
  | cons j r ih =>
    intro acc
    rw [List.foldl_cons, ih, List.map_cons, List.sum_cons]
    unfold gl
    split
    · rw [List.length_append, List.length_singleton]; push_cast; omega
    · omega
theorem Kind.sum {k P W p : Int} (g : Kind k P W p) (y : Int) : ∀ n : Nat, ((rangeKs 0 n).map (fun j => if long k (y + j) = true then (1 : Int) else 0)).sum = day k (y + n) 1 1 - day k y 1 1 - p * n := by
  intro n
  induction n with
  | zero => simp [rangeKs]
  | succ n ih =>
    have e : rangeKs 0 (n + 1) = rangeKs 0 n ++ [(n : Int)] := by
      simp [rangeKs, List.range_succ]
    rw [e, List.map_append, List.sum_append, ih]
    have s := g.good.step (y + n)
    have e2 : y + ((n + 1 : Nat) : Int) = y + n + 1 := by push_cast; omega
    have e3 : p * ((n + 1 : Nat) : Int) = p * n + p := by push_cast; rw [Int.mul_add, Int.mul_one]
    rw [e2, e3]
    simp only [List.map_cons, List.map_nil, List.sum_cons, List.sum_nil]
    omega
theorem Kind.cnt {k P W p : Int} (g : Kind k P W p) (y r : Int) (hr : 0 ≤ r) : (((rangeKs 0 (r - 0).toNat).foldl (gl k y) []).length : Int) = day k (y + r) 1 1 - day k y 1 1 - p * r := by
  rw [long_count, g.sum]
  have e : (((r - 0).toNat : Nat) : Int) = r := by omega
  rw [e]
  simp
theorem run_pos (x : Int) : 0 ≤ 1 + (x.fdiv 336).fmod 40 := by rw [Int.fmod_eq_emod_of_nonneg _ (by decide)]; omega
theorem Kind.calledEq {k P W p : Int} (g : Kind k P W p) (hp : P.fdiv W = p) (y x : Int) :
    ((((rangeKs 0 (1 + (x.fdiv 336).fmod 40 - 0).toNat).foldl (gl k y) []).length : Nat) : Int) = day k (y + (1 + (x.fdiv 336).fmod 40)) 1 1 - day k y 1 1 - P.fdiv W * (1 + (x.fdiv 336).fmod 40) := by
  rw [g.cnt y _ (run_pos x), hp]
end MineCal
namespace MineCal
open PySem PySem.W
/-- the three calendars with whole mean wheels -/
def K3 (k : Int) : Prop := k = 0 ∨ k = 1 ∨ k = 2
def K34 (k : Int) : Prop := k = 3 ∨ k = 4
/-- a kind with its mean year p : q -/
structure KK (k p q : Int) : Prop where
  kind : Kind k p q (p.fdiv q)
  pos : 0 < p ∧ p ≤ 20000 ∧ 0 < q ∧ q ≤ 20000
  pos' : 0 < q ∧ q ≤ 20000 ∧ 0 < p ∧ p ≤ 20000
  rest : 0 < p - p.fdiv q * q ∧ p - p.fdiv q * q ≤ 20000 ∧ 0 < q ∧ q ≤ 20000
theorem KK.k0 : KK 0 1461 4 := ⟨kind0, by decide, by decide, by decide⟩
theorem KK.k1 : KK 1 1461 4 := ⟨kind1, by decide, by decide, by decide⟩
theorem KK.k2 : KK 2 10631 30 := ⟨kind2, by decide, by decide, by decide⟩
theorem KK.ne {k p q : Int} (g : KK k p q) : q ≠ 0 := (Int.ne_of_lt g.pos.2.2.1).symm
theorem KK.same {k p q : Int} (g : KK k p q) (y m d c : Int) : even (day k (y + c) m d - day k y m d) c p q = true := g.kind.same y m d c
theorem KK.told {k p q : Int} (g : KK k p q) (y c x : Int) : even (year k (day k y (1 + x.fmod 12) (1 + (x.fdiv 12).fmod 28) + c) - y) c q p = true := g.kind.told y c x
theorem KK.lo {k p q : Int} (g : KK k p q) (n : Int) : day k (year k n) 1 1 ≤ n := g.kind.lo n
theorem KK.hi {k p q : Int} (g : KK k p q) (n : Int) : n < day k (year k n + 1) 1 1 := g.kind.hi n
theorem KK.called {k p q : Int} (g : KK k p q) (y x : Int) :
    ((((rangeKs 0 (1 + (x.fdiv 336).fmod 40 - 0).toNat).foldl (gl k y) []).length : Nat) : Int) = day k (y + (1 + (x.fdiv 336).fmod 40)) 1 1 - day k y 1 1 - p.fdiv q * (1 + (x.fdiv 336).fmod 40) := g.kind.calledEq rfl y x
theorem KK.spread {k p q : Int} (g : KK k p q) (y x : Int) : even ((((rangeKs 0 (1 + (x.fdiv 336).fmod 40 - 0).toNat).foldl (gl k y) []).length : Nat) : Int) (1 + (x.fdiv 336).fmod 40) (p - p.fdiv q * q) q = true := by
  have a := g.kind.good.same y 1 1 (1 + (x.fdiv 336).fmod 40)
  rw [g.kind.cnt y _ (run_pos x)]
  generalize 1 + (x.fdiv 336).fmod 40 = r at a ⊢
  generalize day k (y + r) 1 1 - day k y 1 1 = D at a ⊢
  have e1 : r * (p - p.fdiv q * q) = r * p + -(p.fdiv q * r) * q := by
    rw [Int.mul_sub, ← Int.mul_assoc, Int.mul_comm r (p.fdiv q), Int.neg_mul, Int.sub_eq_add_neg]
  have e2 : -r * (p - p.fdiv q * q) = -r * p + (p.fdiv q * r) * q := by
    rw [Int.neg_mul, e1, Int.neg_add, Int.neg_mul, Int.neg_neg, Int.neg_mul]
  refine even_of ?_ ?_
  · rw [e1, Int.add_mul_ediv_right _ _ g.ne]; omega
  · rw [e2, Int.add_mul_ediv_right _ _ g.ne]; omega
/-- a kind with the shift of its wheel -/
structure WW (k a : Int) : Prop where
  w : Wide k a
theorem WW.k3 {k : Int} (_ : K34 k) (h : k = 3) : WW k 0 := by subst h; exact ⟨wide3⟩
theorem WW.k4 {k : Int} (h : K34 k) (n : ¬ k = 3) : WW k 78 := by
  rcases h with h | h
  · exact absurd h n
  · subst h; exact ⟨wide4⟩
theorem WW.one {k a : Int} (g : WW k a) (c : Int) : day k (400 * c - a + 304) 1 1 - day k (400 * c - a + 97) 1 1 = 75603 := g.w.one c
theorem WW.two {k a : Int} (g : WW k a) (c : Int) : day k (400 * c - a + 497) 1 1 - day k (400 * c - a + 304) 1 1 = 70494 := g.w.two c
theorem WW.gap_lo {k a : Int} (g : WW k a) (y c x d : Int) : -879 ≤ 400 * (day k (y + c) (1 + x.fmod 12) d - day k y (1 + x.fmod 12) d) - 146097 * c := g.w.gap_lo y c x d
theorem WW.gap_hi {k a : Int} (g : WW k a) (y c x d : Int) : 400 * (day k (y + c) (1 + x.fmod 12) d - day k y (1 + x.fmod 12) d) - 146097 * c ≤ 879 := g.w.gap_hi y c x d
theorem WW.grow_lo {k a : Int} (g : WW k a) (y c x : Int) : 146097 * (MineCal.year k (day k y (1 + x.fmod 12) (1 + (x.fdiv 12).fmod 28) + c) - y - 1) - 879 < 400 * c := g.w.grow_lo y c x
theorem WW.grow_hi {k a : Int} (g : WW k a) (y c x : Int) : 400 * c < 146097 * (MineCal.year k (day k y (1 + x.fmod 12) (1 + (x.fdiv 12).fmod 28) + c) - y + 1) + 879 := g.w.grow_hi y c x
theorem WW.lo {k a : Int} (g : WW k a) (n : Int) : day k (MineCal.year k n) 1 1 ≤ n := g.w.lo n
theorem WW.hi {k a : Int} (g : WW k a) (n : Int) : n < day k (MineCal.year k n + 1) 1 1 := g.w.hi n
end MineCal
open PySem PySem.W PyProof.Rows
set_option Elab.async false
namespace MineCal
open PySem PySem.W PySem.Calls PyProof.Rows

section
variable {prog : Program} {w : World} {A : Around} {E : Value → Shared → Prop} {s : Shared} {env : Env} {h₀ : Heap} {target : Expr} {body : List Stmt} {Q : Flow → Shared → Prop}

theorem letGo_rangeiter {I : Addr} {x l c : Int} {v : Value} {Q' : Unit → Shared → Prop} {s' : Shared} (hit : IsRangeIter s'.heap I x l c) (h : Q' () s') :
    wpAny (model prog w) A (letOwnedTupleGo target (.ref I) v) Q' E s' := by
  unfold letOwnedTupleGo
  cases target <;> first
    | exact wpAny_pure h
    | (cases v <;> first
        | exact wpAny_pure h
        | (refine wpAny_bind (wpAny_load hit ?_)
           exact wpAny_pure h))

/-- the items of a range by ones, from a₀ -/
noncomputable def rItems : Int → Nat → List Itm
  | _, 0 => []
  | a, n + 1 => .tok (fun t => .int a t) :: rItems (a + 1) n
theorem rItems_length : ∀ (n : Nat) (a : Int), (rItems a n).length = n
  | 0, _ => rfl
  | n + 1, a => congrArg (· + 1) (rItems_length n (a + 1))
theorem rItems_get : ∀ (n : Nat) (a : Int) (i : Nat), i < n → (rItems a n)[i]? = some (.tok (fun t => .int (a + (i : Int)) t))
  | 0, _, _, h => absurd h (Nat.not_lt_zero _)
  | n + 1, a, 0, _ => by simp [rItems]
  | n + 1, a, i + 1, h => by
    have q := rItems_get n (a + 1) i (Nat.lt_of_succ_lt_succ h)
    have e : a + 1 + (i : Int) = a + ((i + 1 : Nat) : Int) := by push_cast; omega
    rw [e] at q
    simpa [rItems] using q

theorem iter_rangeTurns {r : Addr} {a₀ b₀ : Int} {t₀ u₀ v₀ : Tok} {n : Nat} {xs : List Itm} {m₀ : Str → Option Value} {news : List (Addr × Obj)}
    (hh : A.handled = none) (hr : IsRange s.heap r a₀ b₀ 1 t₀ u₀ v₀) (hsmall : Builtin.Range.small a₀ b₀ 1 = true) (hn : Builtin.Range.rangeSize a₀ b₀ 1 = (n : Int)) (F : Fr h₀ env.locals s.heap m₀) (N : News h₀ env.locals s.heap news) (hx : rItems a₀ n = xs)
    (rest₀ : ∀ I : Addr, (∀ p ∈ news, p.1 < I) → ItemsRest prog w A E h₀ env target body Q s [(I, "range_iterator")] [] xs m₀ news) :
    wpAny (model prog w) A (pyIter (.ref r)) (fun it s₂ => TurnsAt prog w A h₀ env target body Q E it s₂) E s := by
  subst hx
  refine wpAny_pyIter_range hr hsmall ?_
  have W : Walks prog w A s.heap.objs.size [s.heap.objs.size] [s.heap.objs.size] n (fun i v => i < n ∧ ∃ t, v = .int (a₀ + i * 1) t)
      (fun i h => IsRangeIter h s.heap.objs.size (a₀ + (i : Nat) * 1) ((n : Int) - (i : Nat)) 1) := (Walks.range hh _ a₀ 1 n).bound
  refine ktu_core (tk0 := s.toks) (keep := []) (KTurns.ofWalks W fun i v s Q E st q => letGo_rangeiter st q) (rItems_length n a₀).symm (fun i v h hp => ?_) (fun i h st => ?_) (fun b hb => ?_) (fun b hb => by simpa using hb) (fun b hb => ?_) ?_ (fun p hp hI => ?_) ?_ (F.push _) (fun p hp => ⟨Heap.get?_push_of_some _ (N p hp).1, (N p hp).2⟩) trivial (rest₀ _ fun p hp => Heap.lt_size (N p hp).1)
  · obtain ⟨hi, t, e⟩ := hp
    refine ⟨_, rItems_get n a₀ i hi, t, ?_⟩
    rw [e, Int.mul_one]
  · exact ⟨[(s.heap.objs.size, _)], ⟨⟨rfl, rfl⟩, trivial⟩, fun p hp => by rw [List.mem_singleton.mp hp]; exact st⟩
  · have hb' : b = s.heap.objs.size := by simpa using hb
    rw [hb']
    exact ⟨List.mem_singleton.mpr rfl, next_is_new F⟩
  · have hb' : b = s.heap.objs.size := by simpa using hb
    exact .inl (by simp [hb'])
  · intro hI
    exact absurd F.ns.lt ((List.mem_singleton.mp hI) ▸ Nat.lt_irrefl _)
  · exact absurd (Heap.lt_size (N p hp).1) ((List.mem_singleton.mp hI) ▸ Nat.lt_irrefl _)
  · show IsRangeIter _ _ _ _ _
    rw [hn]
    simpa using Heap.get?_push_size _ rfl
end
/-- a tuple of the top, in a later heap -/
theorem tupIn {s : Shared} {h₀ : Heap} {L : Addr} {m : Str → Option Value} {K : Frag} {a : Addr} {od : Option Addr} {items : Array Value} {n : Nat} {sl : Array (Option Value)} (X : K.In h₀) (F : Fr h₀ L s.heap m) (ho : K.lookup a = some ⟨.type "tuple", od, .seq items n, sl⟩) : IsTup s.heap a items :=
  ⟨_, F.keep _ _ (X _ _ ho), rfl, n, rfl⟩
/-- a ledger that is not to be counted -/
def Led (l : List (Addr × Obj)) : List (Addr × Obj) := l
theorem led_hide {h₀ h : Heap} {L : Addr} {l : List (Addr × Obj)} (N : News h₀ L h l) : News h₀ L h (Led l) := N
theorem led_show {h₀ h : Heap} {L : Addr} {l : List (Addr × Obj)} (N : News h₀ L h (Led l)) : News h₀ L h l := N
end MineCal
namespace MineCal
open PySem PySem.W PySem.Calls PyProof.Rows

/-- m, but at the names of S as r says -/
noncomputable def ovr : List Str → (Str → Option Value) → (Str → Option Value) → Str → Option Value
  | [], _, m, y => m y
  | x :: S, r, m, y => if y = x then r y else ovr S r m y
/-- m' is m off the names of S -/
def Off (S : List Str) (m' m : Str → Option Value) : Prop := ∀ y, (∀ x ∈ S, y ≠ x) → m' y = m y
theorem ovr_off : ∀ (S : List Str) (r m : Str → Option Value), Off S (ovr S r m) m
  | [], _, _, _, _ => rfl
  | x :: S, r, m, y, h => by
    have e : ovr (x :: S) r m y = ovr S r m y := by
      show (if y = x then r y else ovr S r m y) = _
      rw [if_neg (h x (List.mem_cons_self ..))]
    rw [e]
    exact ovr_off S r m y fun z hz => h z (List.mem_cons_of_mem _ hz)
theorem ovr_self : ∀ (S : List Str) (m' m : Str → Option Value) (y : Str), ((∀ x ∈ S, y ≠ x) → m' y = m y) → ovr S m' m y = m' y
  | [], _, _, _, h => (h (fun _ hx => nomatch hx)).symm
  | x :: S, m', m, y, h => by
    show (if y = x then m' y else ovr S m' m y) = _
    by_cases e : y = x
    · rw [if_pos e]
    · rw [if_neg e]
      refine ovr_self S m' m y fun q => h fun z hz => ?_
      rcases List.mem_cons.mp hz with rfl | hz
      · exact e
      · exact q z hz
theorem ovr_of {S : List Str} {m' m : Str → Option Value} (h : Off S m' m) : m' = ovr S m' m := (funext fun y => ovr_self S m' m y (h y)).symm
theorem Off.refl {S : List Str} {m : Str → Option Value} : Off S m m := fun _ _ => rfl
theorem Off.over {S T : List Str} {r m' m : Str → Option Value} (h : Off S m' m) (hT : ∀ x ∈ T, x ∈ S) : Off S (ovr T r m') m := fun y hy => by
  rw [ovr_off T r m' y fun x hx => hy x (hT x hx)]
  exact h y hy
theorem Off.store {S : List Str} {m' m : Str → Option Value} {x : Str} {v : Value} (h : Off S m' m) (hx : x ∈ S) : Off S (fun y => if y = x then some v else m' y) m := fun y hy => by
  show (if y = x then some v else m' y) = _
  rw [if_neg (hy x hx)]
  exact h y hy

section
variable {prog : Program} {w : World} {A : Around} {E : Value → Shared → Prop} {s : Shared} {env : Env} {h₀ : Heap} {target : Expr} {body : List Stmt} {Q : Flow → Shared → Prop}

/-- a turn's end: the names of S may have turned, the ledger is as it stood but for one object that R tells of -/
def OverEnd (h₀ : Heap) (L : Addr) (S : List Str) (m₀ : Str → Option Value) (nw : Obj → List (Addr × Obj)) (R : Obj → Prop) (s₁ : Shared) (I : Addr) (it : Obj) (Q : Flow → Shared → Prop) (f : Flow) (s₂ : Shared) : Prop :=
  match f with
  | .ret v => Q (.ret v) s₂
  | .brk => Q .next s₂
  | _ => ∃ h' tk m' o', s₂ = { s₁ with heap := h', toks := tk } ∧ Fr h₀ L h' m' ∧ News h₀ L h' ((I, it) :: nw o') ∧ R o' ∧ Off S m' m₀
theorem OverEnd.ret {L : Addr} {S : List Str} {m₀ : Str → Option Value} {nw : Obj → List (Addr × Obj)} {R : Obj → Prop} {s₁ s₂ : Shared} {I : Addr} {it : Obj} {v : Value} (h : Q (.ret v) s₂) : OverEnd h₀ L S m₀ nw R s₁ I it Q (.ret v) s₂ := h
theorem OverEnd.next {L : Addr} {S : List Str} {m₀ m' : Str → Option Value} {nw : Obj → List (Addr × Obj)} {R : Obj → Prop} {s₁ : Shared} {I : Addr} {it o' : Obj} {h' : Heap} {tk : Nat} {all : List (Addr × Obj)} (F : Fr h₀ L h' m') (N : News h₀ L h' all) (sub : SubL ((I, it) :: nw o') all) (hR : R o') (off : Off S m' m₀) :
    OverEnd h₀ L S m₀ nw R s₁ I it Q .next { s₁ with heap := h', toks := tk } :=
  ⟨h', tk, m', o', rfl, F, fun p hp => N p (sub.mem p hp), hR, off⟩

theorem OverEnd.tail {L : Addr} {S : List Str} {m₀ m' : Str → Option Value} {nw : Obj → List (Addr × Obj)} {R : Obj → Prop} {s₁ : Shared} {I : Addr} {it o' : Obj} {h' : Heap} {tk : Nat} {all : List (Addr × Obj)} (ex : List (Addr × Obj)) (F : Fr h₀ L h' m') (N : News h₀ L h' all) (sub : all = ex ++ ((I, it) :: nw o')) (hR : R o') (off : Off S m' m₀) :
    OverEnd h₀ L S m₀ nw R s₁ I it Q .next { s₁ with heap := h', toks := tk } :=
  ⟨h', tk, m', o', rfl, F, fun p hp => N p (by rw [sub]; exact List.mem_append_right _ hp), hR, off⟩

def TurnO (prog : Program) (w : World) (A : Around) (E : Value → Shared → Prop) (h₀ : Heap) (env : Env) (target : Expr) (body : List Stmt) (Q : Flow → Shared → Prop) (s : Shared) (S : List Str) (m₀ : Str → Option Value) (nw : Obj → List (Addr × Obj)) (R : Obj → Prop) (I : Addr) (cls : String) (v : Value) : Prop :=
  ∀ (r : Str → Option Value) (o : Obj) (h : Heap) (tk : Nat) (it : Obj), R o → it.cls = .type cls → Fr h₀ env.locals h (ovr S r m₀) → News h₀ env.locals h ((I, it) :: nw o) →
    wpAny (model prog w) A (assign target env v) (fun _ s₂ => wpAny (model prog w) A (execs body env) (OverEnd h₀ env.locals S m₀ nw R { s with heap := h, toks := tk } I it Q) E s₂) E { s with heap := h, toks := tk }

theorem items_over {S : List Str} {m₀ : Str → Option Value} {nw : Obj → List (Addr × Obj)} {R : Obj → Prop} {I : Addr} {cls : String} {keep : List (Addr × Obj)}
    (hI : ∀ o, ∀ p ∈ nw o, p.1 < I) (hk : ∀ o, SubL keep (nw o))
    (done : ∀ (r : Str → Option Value) (o : Obj) (h : Heap) (tk : Nat), R o → Fr h₀ env.locals h (ovr S r m₀) → News h₀ env.locals h (nw o) → Q .next { s with heap := h, toks := tk }) :
    ∀ (xs : List Itm), (∀ a ∈ xs, ∀ v h, a.Is v h → TurnO prog w A E h₀ env target body Q s S m₀ nw R I cls v) → ∀ (r : Str → Option Value) (o : Obj), R o → ItemsRest prog w A E h₀ env target body Q s [(I, cls)] keep xs (ovr S r m₀) (nw o)
  | [], _, r, o, hR => fun h tk F N => done r o h tk hR F N
  | a :: xs, T, r, o, hR => by
    have ih := items_over hI hk done xs (fun b hb => T b (List.mem_cons_of_mem _ hb))
    intro v h tk hv F it hit N
    refine wpAny_mono (T a (List.mem_cons_self ..) v h hv r o h tk it hR hit F N) (fun _ s₂ q => wpAny_mono q (fun f s₃ p => ?_) fun _ _ e => e) fun _ _ e => e
    have fin : (∃ h' tk' m' o', s₃ = { ({ s with heap := h, toks := tk } : Shared) with heap := h', toks := tk' } ∧ Fr h₀ env.locals h' m' ∧ News h₀ env.locals h' ((I, it) :: nw o') ∧ R o' ∧ Off S m' m₀) →
        UnrEndW h₀ env.locals { s with heap := h, toks := tk } [(I, it)] (fun m' n' => SubL keep n' ∧ ItemsRest prog w A E h₀ env target body Q s [(I, cls)] keep xs m' n') s₃ := by
      rintro ⟨h', tk', m', o', e, F', N', hR', off⟩
      refine ⟨h', tk', m', nw o', e, F', N', fun p hp q hq => ?_, hk o', ?_⟩
      · rw [List.mem_singleton.mp hq]
        exact Nat.ne_of_lt (hI o' p hp)
      · rw [ovr_of off]
        exact ih m' o' hR'
    cases f with
    | ret v => exact p
    | brk => exact p
    | next => exact fin p
    | cont => exact fin p

theorem lt_all {news : List (Addr × Obj)} {nw : Obj → List (Addr × Obj)} {I : Addr} (ha : ∀ o, (nw o).map (·.1) = news.map (·.1)) (l : ∀ p ∈ news, p.1 < I) : ∀ o, ∀ p ∈ nw o, p.1 < I := fun o p hp => by
  have h1 : p.1 ∈ (nw o).map (·.1) := List.mem_map.mpr ⟨p, hp, rfl⟩
  rw [ha o] at h1
  obtain ⟨q, hq, e⟩ := List.mem_map.mp h1
  rw [← e]; exact l q hq

/-- a loop over a made list of ints: its turn is walked once, for any int -/
theorem ints_over (S : List Str) {ax : Addr} {lo : Obj} {vs : List Value} {n : Nat} {m₀ : Str → Option Value} {news : List (Addr × Obj)}
    (hh : A.handled = none) (F : Fr h₀ env.locals s.heap m₀) (N : News h₀ env.locals s.heap news) (hm : (ax, lo) ∈ news) (hc : lo.cls = .type "list") (hd : lo.data = .seq vs.toArray n) (hv : ∀ v ∈ vs, ∃ c t, v = .int c t)
    (turn : ∀ I : Addr, (∀ p ∈ news, p.1 < I) → ∀ (c : Int) (t : Tok), TurnO prog w A E h₀ env target body Q s S m₀ (fun _ => news) (fun _ => True) I "list_iterator" (.int c t))
    (done : ∀ (r : Str → Option Value) (h : Heap) (tk : Nat), Fr h₀ env.locals h (ovr S r m₀) → News h₀ env.locals h news → Q .next { s with heap := h, toks := tk }) :
    wpAny (model prog w) A (pyIter (.ref ax)) (fun it s₂ => TurnsAt prog w A h₀ env target body Q E it s₂) E s := by
  refine iter_listTurns hh F N hm hc hd fun I l => ?_
  have q := items_over (prog := prog) (w := w) (A := A) (E := E) (s := s) (env := env) (h₀ := h₀) (target := target) (body := body) (Q := Q) (S := S) (m₀ := m₀) (nw := fun _ => news) (R := fun _ => True) (I := I) (cls := "list_iterator") (keep := [(ax, lo)]) (fun _ => l) (fun _ => ⟨hm, trivial⟩) (fun r o h tk _ F N => done r h tk F N) (vs.map .val)
    (fun a ha v h hav => by
      obtain ⟨u, hu, rfl⟩ := List.mem_map.mp ha
      obtain ⟨c, t, rfl⟩ := hv u hu
      have e : v = .int c t := hav
      rw [e]
      exact turn I l c t) m₀ lo trivial
  rw [← ovr_of Off.refl] at q
  exact q

theorem upd_self {c : Addr} {o : Obj} {news : List (Addr × Obj)} {g : Obj → List (Addr × Obj)} (U : UpdF c o news g) : g o = news := by
  obtain ⟨own, rest, rfl, hg, _, _⟩ := U.split
  exact hg o
theorem upd_map {c : Addr} {o : Obj} {news : List (Addr × Obj)} {g : Obj → List (Addr × Obj)} (U : UpdF c o news g) (o' : Obj) : (g o').map (·.1) = news.map (·.1) := by
  obtain ⟨own, rest, rfl, hg, _, _⟩ := U.split
  rw [hg o']; simp
theorem upd_mem {c : Addr} {o : Obj} {news : List (Addr × Obj)} {g : Obj → List (Addr × Obj)} (U : UpdF c o news g) {p : Addr × Obj} (hp : p ∈ news) (hne : p.2 ≠ o) (o' : Obj) : p ∈ g o' := by
  obtain ⟨own, rest, rfl, hg, _, _⟩ := U.split
  rw [hg o']
  rcases List.mem_append.mp hp with hp | hp
  · exact List.mem_append_left _ hp
  · rcases List.mem_cons.mp hp with rfl | hp
    · exact absurd rfl hne
    · exact List.mem_append_right _ (List.mem_cons_of_mem _ hp)
/-- a loop over a written list, a cell its target: turn by turn, each from the same start -/
theorem two_over (S : List Str) {C : Addr} {o₀ : Obj} {v₀ : Option Value} (hR : o₀.data = .cell v₀) {ax : Addr} {lo : Obj} {n : Nat} {a b : Value} {m₀ : Str → Option Value} {news : List (Addr × Obj)} {nw : Obj → List (Addr × Obj)}
    (_hC : (C, o₀) ∈ news) (U : UpdF C o₀ news nw)
    (hh : A.handled = none) (F : Fr h₀ env.locals s.heap m₀) (N : News h₀ env.locals s.heap news) (hm : (ax, lo) ∈ news) (hc : lo.cls = .type "list") (hd : lo.data = .seq (List.toArray [a, b]) n)
    (t1 : ∀ I : Addr, (∀ p ∈ news, p.1 < I) → TurnO prog w A E h₀ env target body Q s S m₀ nw (fun o => ∃ v, o.data = .cell v) I "list_iterator" a)
    (t2 : ∀ I : Addr, (∀ p ∈ news, p.1 < I) → TurnO prog w A E h₀ env target body Q s S m₀ nw (fun o => ∃ v, o.data = .cell v) I "list_iterator" b)
    (done : ∀ (r : Str → Option Value) (o : Obj) (h : Heap) (tk : Nat), (∃ v, o.data = .cell v) → Fr h₀ env.locals h (ovr S r m₀) → News h₀ env.locals h (nw o) → Q .next { s with heap := h, toks := tk }) :
    wpAny (model prog w) A (pyIter (.ref ax)) (fun it s₂ => TurnsAt prog w A h₀ env target body Q E it s₂) E s := by
  have hne : lo ≠ o₀ := fun e => by rw [e, hR] at hd; cases hd
  refine iter_listTurns hh F N hm hc hd fun I l => ?_
  have q := items_over (prog := prog) (w := w) (A := A) (E := E) (s := s) (env := env) (h₀ := h₀) (target := target) (body := body) (Q := Q) (S := S) (m₀ := m₀) (nw := nw) (R := fun o => ∃ v, o.data = .cell v) (I := I) (cls := "list_iterator") (keep := [(ax, lo)]) (lt_all (upd_map U) l) (fun o => ⟨upd_mem U hm hne o, trivial⟩) done ([a, b].map .val)
    (fun x hx v h hav => by
      rcases List.mem_cons.mp hx with rfl | hx
      · have e : v = a := hav
        rw [e]; exact t1 I l
      · rw [List.mem_singleton.mp hx] at hav
        have e : v = b := hav
        rw [e]; exact t2 I l) m₀ o₀ ⟨_, hR⟩
  rw [← ovr_of Off.refl, upd_self U] at q
  exact q

/-- a loop over range(3), a cell its target: turn by turn, each from the same start -/
theorem three_over (S : List Str) {C : Addr} {o₀ : Obj} {v₀ : Option Value} (hR : o₀.data = .cell v₀) {r : Addr} {t₀ u₀ w₀ : Tok} {m₀ : Str → Option Value} {news : List (Addr × Obj)} {nw : Obj → List (Addr × Obj)}
    (_hC : (C, o₀) ∈ news) (U : UpdF C o₀ news nw)
    (hh : A.handled = none) (hr : IsRange s.heap r 0 3 1 t₀ u₀ w₀) (F : Fr h₀ env.locals s.heap m₀) (N : News h₀ env.locals s.heap news)
    (t1 : ∀ I : Addr, (∀ p ∈ news, p.1 < I) → ∀ t, TurnO prog w A E h₀ env target body Q s S m₀ nw (fun o => ∃ v, o.data = .cell v) I "range_iterator" (.int 0 t))
    (t2 : ∀ I : Addr, (∀ p ∈ news, p.1 < I) → ∀ t, TurnO prog w A E h₀ env target body Q s S m₀ nw (fun o => ∃ v, o.data = .cell v) I "range_iterator" (.int 1 t))
    (t3 : ∀ I : Addr, (∀ p ∈ news, p.1 < I) → ∀ t, TurnO prog w A E h₀ env target body Q s S m₀ nw (fun o => ∃ v, o.data = .cell v) I "range_iterator" (.int 2 t))
    (done : ∀ (r : Str → Option Value) (o : Obj) (h : Heap) (tk : Nat), (∃ v, o.data = .cell v) → Fr h₀ env.locals h (ovr S r m₀) → News h₀ env.locals h (nw o) → Q .next { s with heap := h, toks := tk }) :
    wpAny (model prog w) A (pyIter (.ref r)) (fun it s₂ => TurnsAt prog w A h₀ env target body Q E it s₂) E s := by
  refine iter_rangeTurns (n := 3) (xs := [Itm.tok (fun t => Value.int 0 t), Itm.tok (fun t => Value.int 1 t), Itm.tok (fun t => Value.int 2 t)]) hh hr (by decide) (by decide) F N rfl fun I l => ?_
  have q := items_over (prog := prog) (w := w) (A := A) (E := E) (s := s) (env := env) (h₀ := h₀) (target := target) (body := body) (Q := Q) (S := S) (m₀ := m₀) (nw := nw) (R := fun o => ∃ v, o.data = .cell v) (I := I) (cls := "range_iterator") (keep := []) (lt_all (upd_map U) l) (fun _ => trivial) done [Itm.tok (fun t => Value.int 0 t), Itm.tok (fun t => Value.int 1 t), Itm.tok (fun t => Value.int 2 t)]
    (fun x hx v h hav => by
      rcases List.mem_cons.mp hx with rfl | hx
      · obtain ⟨t, rfl⟩ := hav
        exact t1 I l t
      · rcases List.mem_cons.mp hx with rfl | hx
        · obtain ⟨t, rfl⟩ := hav
          exact t2 I l t
        · rw [List.mem_singleton.mp hx] at hav
          obtain ⟨t, rfl⟩ := hav
          exact t3 I l t) m₀ o₀ ⟨_, hR⟩
  rw [← ovr_of Off.refl, upd_self U] at q
  exact q
end
end MineCal
namespace MineCal
open PySem PySem.W PySem.Calls PyProof.Rows

/-- a statement's start: how many tokens were drawn does not matter -/
theorem tok_gen {α : Type} {M : Model} {A : Around} {E : Value → Shared → Prop} {c : Sem α} {Q : α → Shared → Prop} {s : Shared} {h : Heap} {t : Nat} (k : ∀ tk : Nat, wpAny M A c Q E { s with heap := h, toks := tk }) : wpAny M A c Q E { s with heap := h, toks := t + 1 } := k _

/-- where the ways of a statement meet: one int name has turned, R tells of it -/
def J1 (h₀ : Heap) (L : Addr) (m : Str → Option Value) (a : Str) (R : Int → Prop) (news : List (Addr × Obj)) (s : Shared) (f : Flow) (s' : Shared) : Prop :=
  f = .next ∧ ∃ (x : Int) (t : Tok) (h' : Heap) (tk : Nat) (m' : Str → Option Value), s' = { s with heap := h', toks := tk } ∧ R x ∧ Fr h₀ L h' m' ∧ News h₀ L h' news ∧ m' a = some (.int x t) ∧ Off [a] m' m
theorem J1.at {h₀ : Heap} {L : Addr} {m m' : Str → Option Value} {a : Str} {R : Int → Prop} {news : List (Addr × Obj)} {s : Shared} {x : Int} {t : Tok} {h' : Heap} {tk : Nat}
    (F : Fr h₀ L h' m') (N : News h₀ L h' news) (hm : m' a = some (.int x t)) (off : Off [a] m' m) (hR : R x) : J1 h₀ L m a R news s .next { s with heap := h', toks := tk } :=
  ⟨rfl, x, t, h', tk, m', rfl, hR, F, N, hm, off⟩
theorem join1 {M : Model} {A : Around} {E : Value → Shared → Prop} {s : Shared} {c : Sem Flow} {Q : Flow → Shared → Prop} {h₀ : Heap} {L : Addr} {m : Str → Option Value} {news : List (Addr × Obj)} (a : Str) (R : Int → Prop)
    (_F : Fr h₀ L s.heap m) (_N : News h₀ L s.heap news) (hc : wpAny M A c (J1 h₀ L m a R news s) E s)
    (k : ∀ (x : Int) (t : Tok) (h : Heap) (tk : Nat), R x → Fr h₀ L h (fun y => if y = a then some (.int x t) else m y) → News h₀ L h news → Q .next { s with heap := h, toks := tk }) : wpAny M A c Q E s := by
  refine wpAny_mono hc (fun f s' hj => ?_) fun _ _ e => e
  obtain ⟨rfl, x, t, h', tk, m', rfl, hR, F, N, hm, off⟩ := hj
  have e : m' = fun y => if y = a then some (.int x t) else m y := by
    funext y
    by_cases h : y = a
    · rw [if_pos h, h, hm]
    · rw [if_neg h]
      exact off y fun z hz => by rw [List.mem_singleton.mp hz]; exact h
  rw [e] at F
  exact k x t h' tk hR F N

/-- the same with two int names a, b; the names of S are forgotten -/
def J2 (h₀ : Heap) (L : Addr) (m : Str → Option Value) (a b : Str) (S : List Str) (news : List (Addr × Obj)) (s : Shared) (f : Flow) (s' : Shared) : Prop :=
  f = .next ∧ ∃ (x₁ x₂ : Int) (t₁ t₂ : Tok) (h' : Heap) (tk : Nat) (m' : Str → Option Value), s' = { s with heap := h', toks := tk } ∧ Fr h₀ L h' m' ∧ News h₀ L h' news ∧ m' a = some (.int x₁ t₁) ∧ m' b = some (.int x₂ t₂) ∧ Off (a :: b :: S) m' m
theorem J2.at {h₀ : Heap} {L : Addr} {m m' : Str → Option Value} {a b : Str} {S : List Str} {news : List (Addr × Obj)} {s : Shared} {x₁ x₂ : Int} {t₁ t₂ : Tok} {h' : Heap} {tk : Nat}
    (F : Fr h₀ L h' m') (N : News h₀ L h' news) (ha : m' a = some (.int x₁ t₁)) (hb : m' b = some (.int x₂ t₂)) (off : Off (a :: b :: S) m' m) : J2 h₀ L m a b S news s .next { s with heap := h', toks := tk } :=
  ⟨rfl, x₁, x₂, t₁, t₂, h', tk, m', rfl, F, N, ha, hb, off⟩
theorem join2 {M : Model} {A : Around} {E : Value → Shared → Prop} {s : Shared} {c : Sem Flow} {Q : Flow → Shared → Prop} {h₀ : Heap} {L : Addr} {m : Str → Option Value} {news : List (Addr × Obj)} (a b : Str) (S : List Str)
    (_F : Fr h₀ L s.heap m) (_N : News h₀ L s.heap news) (hc : wpAny M A c (J2 h₀ L m a b S news s) E s)
    (k : ∀ (x₁ x₂ : Int) (t₁ t₂ : Tok) (r : Str → Option Value) (h : Heap) (tk : Nat), Fr h₀ L h (fun y => if y = a then some (.int x₁ t₁) else if y = b then some (.int x₂ t₂) else ovr S r m y) → News h₀ L h news → Q .next { s with heap := h, toks := tk }) : wpAny M A c Q E s := by
  refine wpAny_mono hc (fun f s' hj => ?_) fun _ _ e => e
  obtain ⟨rfl, x₁, x₂, t₁, t₂, h', tk, m', rfl, F, N, ha, hb, off⟩ := hj
  have e : m' = fun y => if y = a then some (.int x₁ t₁) else if y = b then some (.int x₂ t₂) else ovr S m' m y := by
    funext y
    by_cases h : y = a
    · rw [if_pos h, h, ha]
    · rw [if_neg h]
      by_cases h2 : y = b
      · rw [if_pos h2, h2, hb]
      · rw [if_neg h2]
        refine (ovr_self S m' m y fun q => off y fun z hz => ?_).symm
        rcases List.mem_cons.mp hz with rfl | hz
        · exact h
        · rcases List.mem_cons.mp hz with rfl | hz
          · exact h2
          · exact q z hz
  rw [e] at F
  exact k x₁ x₂ t₁ t₂ m' h' tk F N
/-- two int names, R tells of the first -/
def J3 (h₀ : Heap) (L : Addr) (m : Str → Option Value) (a b : Str) (R : Int → Prop) (news : List (Addr × Obj)) (s : Shared) (f : Flow) (s' : Shared) : Prop :=
  f = .next ∧ ∃ (x₁ x₂ : Int) (t₁ t₂ : Tok) (h' : Heap) (tk : Nat) (m' : Str → Option Value), s' = { s with heap := h', toks := tk } ∧ R x₁ ∧ Fr h₀ L h' m' ∧ News h₀ L h' news ∧ m' a = some (.int x₁ t₁) ∧ m' b = some (.int x₂ t₂) ∧ Off [a, b] m' m
theorem J3.at {h₀ : Heap} {L : Addr} {m m' : Str → Option Value} {a b : Str} {R : Int → Prop} {news : List (Addr × Obj)} {s : Shared} {x₁ x₂ : Int} {t₁ t₂ : Tok} {h' : Heap} {tk : Nat}
    (F : Fr h₀ L h' m') (N : News h₀ L h' news) (ha : m' a = some (.int x₁ t₁)) (hb : m' b = some (.int x₂ t₂)) (off : Off [a, b] m' m) (hR : R x₁) : J3 h₀ L m a b R news s .next { s with heap := h', toks := tk } :=
  ⟨rfl, x₁, x₂, t₁, t₂, h', tk, m', rfl, hR, F, N, ha, hb, off⟩
theorem off_two {m m' : Str → Option Value} {a b : Str} {v₁ v₂ : Value} (ha : m' a = some v₁) (hb : m' b = some v₂) (off : Off [a, b] m' m) : m' = fun y => if y = a then some v₁ else if y = b then some v₂ else m y := by
  funext y
  by_cases h : y = a
  · rw [if_pos h, h, ha]
  · rw [if_neg h]
    by_cases h2 : y = b
    · rw [if_pos h2, h2, hb]
    · rw [if_neg h2]
      exact off y fun z hz => (List.mem_cons.mp hz).elim (fun q => q ▸ h) fun hz => List.mem_singleton.mp hz ▸ h2
theorem join3 {M : Model} {A : Around} {E : Value → Shared → Prop} {s : Shared} {c : Sem Flow} {Q : Flow → Shared → Prop} {h₀ : Heap} {L : Addr} {m : Str → Option Value} {news : List (Addr × Obj)} (a b : Str) (R : Int → Prop)
    (_F : Fr h₀ L s.heap m) (_N : News h₀ L s.heap news) (hc : wpAny M A c (J3 h₀ L m a b R news s) E s)
    (k : ∀ (x₁ x₂ : Int) (t₁ t₂ : Tok) (h : Heap) (tk : Nat), R x₁ → Fr h₀ L h (fun y => if y = a then some (.int x₁ t₁) else if y = b then some (.int x₂ t₂) else m y) → News h₀ L h news → Q .next { s with heap := h, toks := tk }) : wpAny M A c Q E s := by
  refine wpAny_mono hc (fun f s' hj => ?_) fun _ _ e => e
  obtain ⟨rfl, x₁, x₂, t₁, t₂, h', tk, m', rfl, hR, F, N, ha, hb, off⟩ := hj
  rw [off_two ha hb off] at F
  exact k x₁ x₂ t₁ t₂ h' tk hR F N

/-- the same with the mean year's two names -/
def JK (h₀ : Heap) (L : Addr) (m : Str → Option Value) (a b : Str) (k : Int) (news : List (Addr × Obj)) (s : Shared) (f : Flow) (s' : Shared) : Prop :=
  f = .next ∧ ∃ (x₁ x₂ : Int) (t₁ t₂ : Tok) (h' : Heap) (tk : Nat) (m' : Str → Option Value), s' = { s with heap := h', toks := tk } ∧ KK k x₁ x₂ ∧ Fr h₀ L h' m' ∧ News h₀ L h' news ∧ m' a = some (.int x₁ t₁) ∧ m' b = some (.int x₂ t₂) ∧ Off [a, b] m' m
theorem JK.at {h₀ : Heap} {L : Addr} {m m' : Str → Option Value} {a b : Str} {k : Int} {news : List (Addr × Obj)} {s : Shared} {x₁ x₂ : Int} {t₁ t₂ : Tok} {h' : Heap} {tk : Nat}
    (F : Fr h₀ L h' m') (N : News h₀ L h' news) (ha : m' a = some (.int x₁ t₁)) (hb : m' b = some (.int x₂ t₂)) (off : Off [a, b] m' m) (g : KK k x₁ x₂) : JK h₀ L m a b k news s .next { s with heap := h', toks := tk } :=
  ⟨rfl, x₁, x₂, t₁, t₂, h', tk, m', rfl, g, F, N, ha, hb, off⟩
theorem joinK {M : Model} {A : Around} {E : Value → Shared → Prop} {s : Shared} {c : Sem Flow} {Q : Flow → Shared → Prop} {h₀ : Heap} {L : Addr} {m : Str → Option Value} {news : List (Addr × Obj)} (a b : Str) {k : Int} (_hk : K3 k)
    (_F : Fr h₀ L s.heap m) (_N : News h₀ L s.heap news) (hc : wpAny M A c (JK h₀ L m a b k news s) E s)
    (nx : ∀ (x₁ x₂ : Int) (t₁ t₂ : Tok) (h : Heap) (tk : Nat), KK k x₁ x₂ → x₂ ≠ 0 → 0 < x₂ → x₂ ≤ 20000 → Fr h₀ L h (fun y => if y = a then some (.int x₁ t₁) else if y = b then some (.int x₂ t₂) else m y) → News h₀ L h news → Q .next { s with heap := h, toks := tk }) : wpAny M A c Q E s := by
  refine wpAny_mono hc (fun f s' hj => ?_) fun _ _ e => e
  obtain ⟨rfl, x₁, x₂, t₁, t₂, h', tk, m', rfl, g, F, N, ha, hb, off⟩ := hj
  rw [off_two ha hb off] at F
  exact nx x₁ x₂ t₁ t₂ h' tk g g.ne g.pos.2.2.1 g.pos.2.2.2 F N

/-- where the ways of a value meet: the wheel's shift -/
def JW (h₀ : Heap) (L : Addr) (m : Str → Option Value) (k : Int) (news : List (Addr × Obj)) (s : Shared) (v : Value) (s' : Shared) : Prop :=
  ∃ (x : Int) (t : Tok) (h' : Heap) (tk : Nat), v = .int x t ∧ s' = { s with heap := h', toks := tk } ∧ WW k x ∧ Fr h₀ L h' m ∧ News h₀ L h' news
theorem JW.at {h₀ : Heap} {L : Addr} {m : Str → Option Value} {k : Int} {news : List (Addr × Obj)} {s : Shared} {x : Int} {t : Tok} {h' : Heap} {tk : Nat}
    (F : Fr h₀ L h' m) (N : News h₀ L h' news) (g : WW k x) : JW h₀ L m k news s (.int x t) { s with heap := h', toks := tk } :=
  ⟨x, t, h', tk, rfl, rfl, g, F, N⟩
theorem joinW {M : Model} {A : Around} {E : Value → Shared → Prop} {s : Shared} {c : Sem Value} {Q : Value → Shared → Prop} {h₀ : Heap} {L : Addr} {m : Str → Option Value} {news : List (Addr × Obj)} {k : Int} (_hk : K34 k)
    (_F : Fr h₀ L s.heap m) (_N : News h₀ L s.heap news) (hc : wpAny M A c (JW h₀ L m k news s) E s)
    (nx : ∀ (x : Int) (t : Tok) (h : Heap) (tk : Nat), WW k x → Fr h₀ L h m → News h₀ L h news → Q (.int x t) { s with heap := h, toks := tk }) : wpAny M A c Q E s := by
  refine wpAny_mono hc (fun f s' hj => ?_) fun _ _ e => e
  obtain ⟨x, t, h', tk, rfl, rfl, g, F, N⟩ := hj
  exact nx x t h' tk g F N

section
variable {prog : Program} {w : World} {A : Around} {E : Value → Shared → Prop} {s : Shared} {env : Env} {h₀ : Heap} {target : Expr} {body : List Stmt} {Q : Flow → Shared → Prop}
/-- three_over, one turn for all three -/
theorem kinds_over (S : List Str) {C : Addr} {o₀ : Obj} {v₀ : Option Value} (hR : o₀.data = .cell v₀) {r : Addr} {t₀ u₀ w₀ : Tok} {m₀ : Str → Option Value} {news : List (Addr × Obj)} {nw : Obj → List (Addr × Obj)}
    (hC : (C, o₀) ∈ news) (U : UpdF C o₀ news nw)
    (hh : A.handled = none) (hr : IsRange s.heap r 0 3 1 t₀ u₀ w₀) (F : Fr h₀ env.locals s.heap m₀) (N : News h₀ env.locals s.heap news)
    (turn : ∀ I : Addr, (∀ p ∈ news, p.1 < I) → ∀ (k : Int) (t : Tok), K3 k → TurnO prog w A E h₀ env target body Q s S m₀ nw (fun o => ∃ v, o.data = .cell v) I "range_iterator" (.int k t))
    (done : ∀ (r : Str → Option Value) (o : Obj) (h : Heap) (tk : Nat), (∃ v, o.data = .cell v) → Fr h₀ env.locals h (ovr S r m₀) → News h₀ env.locals h (nw o) → Q .next { s with heap := h, toks := tk }) :
    wpAny (model prog w) A (pyIter (.ref r)) (fun it s₂ => TurnsAt prog w A h₀ env target body Q E it s₂) E s :=
  three_over S hR hC U hh hr F N (fun I l t => turn I l 0 t (Or.inl rfl)) (fun I l t => turn I l 1 t (Or.inr (Or.inl rfl))) (fun I l t => turn I l 2 t (Or.inr (Or.inr rfl))) done
/-- two_over for the kinds 3 and 4, one turn for both -/
theorem wides_over (S : List Str) {C : Addr} {o₀ : Obj} {v₀ : Option Value} (hR : o₀.data = .cell v₀) {ax : Addr} {lo : Obj} {n : Nat} {t3 t4 : Tok} {m₀ : Str → Option Value} {news : List (Addr × Obj)} {nw : Obj → List (Addr × Obj)}
    (hC : (C, o₀) ∈ news) (U : UpdF C o₀ news nw)
    (hh : A.handled = none) (F : Fr h₀ env.locals s.heap m₀) (N : News h₀ env.locals s.heap news) (hm : (ax, lo) ∈ news) (hc : lo.cls = .type "list") (hd : lo.data = .seq (List.toArray [.int 3 t3, .int 4 t4]) n)
    (turn : ∀ I : Addr, (∀ p ∈ news, p.1 < I) → ∀ (k : Int) (t : Tok), K34 k → TurnO prog w A E h₀ env target body Q s S m₀ nw (fun o => ∃ v, o.data = .cell v) I "list_iterator" (.int k t))
    (done : ∀ (r : Str → Option Value) (o : Obj) (h : Heap) (tk : Nat), (∃ v, o.data = .cell v) → Fr h₀ env.locals h (ovr S r m₀) → News h₀ env.locals h (nw o) → Q .next { s with heap := h, toks := tk }) :
    wpAny (model prog w) A (pyIter (.ref ax)) (fun it s₂ => TurnsAt prog w A h₀ env target body Q E it s₂) E s :=
  two_over S hR hC U hh F N hm hc hd (fun I l => turn I l 3 t3 (Or.inl rfl)) (fun I l => turn I l 4 t4 (Or.inr rfl)) done
end
end MineCal
namespace MineCal
set_option maxRecDepth 100000 in
set_option maxHeartbeats 8000000 in
open_top hd for PySem.Challenge.rw_ah0017_01
end MineCal
namespace MineCal
open PySem PySem.W PySem.Calls PySem.Spec PyProof.Rows
/-- a call of the def at f, from a frame with room, ends in R's value and lets all stand -/
abbrev Cl (w : World) (s₀ : Shared) (mg mb : Str → Option Value) (f : Addr) (news : List (Addr × Obj)) (pre : Prop) (sz : Nat) (vs : List Value) (R : Tok → Value) : Prop :=
  ∀ (dp un : Nat) (gd : Option (List Code)) (cn : Str) (cs : Scope) (a : Addr) (ccd : Value) (cl : List (Str × Addr)) (outer : List Env) (A₀ : Around) (base h₀ : Heap) (L : Addr) (m : Str → Option Value) (s : Shared) (Q E : Value → Shared → Prop),
    Below A₀ base outer h₀ → Fr h₀ L s.heap m → (MineCal.hd.heap_39 w.params).In h₀ → News h₀ L s.heap news →
    Top MineCal.hd.view_39 (looseW MineCal.hd.view_39 [PySem.Str.ofString "leap_islamic", PySem.Str.ofString "to_jd_islamic", PySem.Str.ofString "from_jd_islamic", PySem.Str.ofString "to_jd_coptic", PySem.Str.ofString "from_jd_coptic", PySem.Str.ofString "legal_date_gregorian", PySem.Str.ofString "to_jd_gregorian", PySem.Str.ofString "from_jd_gregorian", PySem.Str.ofString "to_jd_indian_civil", PySem.Str.ofString "from_jd_indian_civil", PySem.Str.ofString "leap_julian", PySem.Str.ofString "legal_date_julian", PySem.Str.ofString "from_jd_julian", PySem.Str.ofString "to_jd_julian"]) (ExcName.means s₀.heap) mg mb h₀ → cs.kind = .function → pre → dp + sz + 1 < recursionLimit →
    (∀ (t : Tok) (h' : Heap) (tk' : Nat), Fr h₀ L h' m → News h₀ L h' news → Q (R t) { s with heap := h', toks := tk' }) →
    wpAny (model PySem.Challenge.rw_ah0017_01.row.prog w) (ktrTop dp un gd cn cs L a ccd cl outer) (call (.ref f) vs) Q E s
end MineCal
namespace MineCal
open PySem PySem.W PySem.Calls PySem.Spec PyProof.Rows
/-- from_jd of the gregorian calendar: a tuple, its first the year -/
abbrev ClT (w : World) (s₀ : Shared) (mg mb : Str → Option Value) (news : List (Addr × Obj)) (n : Int) (tn : Tok) : Prop :=
  ∀ (dp un : Nat) (gd : Option (List Code)) (cn : Str) (cs : Scope) (a : Addr) (ccd : Value) (cl : List (Str × Addr)) (outer : List Env) (A₀ : Around) (base h₀ : Heap) (L : Addr) (m : Str → Option Value) (s : Shared) (Q E : Value → Shared → Prop),
    Below A₀ base outer h₀ → Fr h₀ L s.heap m → (MineCal.hd.heap_39 w.params).In h₀ → News h₀ L s.heap news →
    Top MineCal.hd.view_39 (looseW MineCal.hd.view_39 [PySem.Str.ofString "leap_islamic", PySem.Str.ofString "to_jd_islamic", PySem.Str.ofString "from_jd_islamic", PySem.Str.ofString "to_jd_coptic", PySem.Str.ofString "from_jd_coptic", PySem.Str.ofString "legal_date_gregorian", PySem.Str.ofString "to_jd_gregorian", PySem.Str.ofString "from_jd_gregorian", PySem.Str.ofString "to_jd_indian_civil", PySem.Str.ofString "from_jd_indian_civil", PySem.Str.ofString "leap_julian", PySem.Str.ofString "legal_date_julian", PySem.Str.ofString "from_jd_julian", PySem.Str.ofString "to_jd_julian"]) (ExcName.means s₀.heap) mg mb h₀ → cs.kind = .function → dp + 5 + 1 < recursionLimit →
    (∀ (D : Addr) (t1 t2 t3 : Tok) (mo da : Int) (c : Nat) (h' : Heap) (tk' : Nat), Fr h₀ L h' m → News h₀ L h' ((D, ({ cls := .type "tuple", data := .seq #[.int (yG n) t1, .int mo t2, .int da t3] c } : Obj)) :: news) → Q (.ref D) { s with heap := h', toks := tk' }) →
    wpAny (model PySem.Challenge.rw_ah0017_01.row.prog w) (ktrTop dp un gd cn cs L a ccd cl outer) (call (.ref 85) [.int n tn]) Q E s
theorem retT {h₀ : Heap} {L : Addr} {m : Str → Option Value} {news : List (Addr × Obj)} {s : Shared} {Q : Value → Shared → Prop} {n : Int}
    (hret : ∀ (D : Addr) (t1 t2 t3 : Tok) (mo da : Int) (c : Nat) (h' : Heap) (tk' : Nat), Fr h₀ L h' m → News h₀ L h' ((D, ({ cls := .type "tuple", data := .seq #[.int (yG n) t1, .int mo t2, .int da t3] c } : Obj)) :: news) → Q (.ref D) { s with heap := h', toks := tk' })
    {D : Addr} {t1 t2 t3 : Tok} {Y mo da : Int} {c : Nat} {h' : Heap} {tk' : Nat} (F : Fr h₀ L h' m) (N : News h₀ L h' ((D, ({ cls := .type "tuple", data := .seq #[.int Y t1, .int mo t2, .int da t3] c } : Obj)) :: news)) (e : Y = yG n) : Q (.ref D) { s with heap := h', toks := tk' } := by
  subst e; exact hret D t1 t2 t3 mo da c h' tk' F N
end MineCal
local macro_rules | `(tactic| walk_at $s:str) => `(tactic| k_extra $(Lean.Syntax.mkStrLit ("mine " ++ s.getString)))
local macro_rules | `(tactic| k_room) => `(tactic| first | omega | ((try simp only [depth_under_make, depth_under_kw, depth_in1, depth_deeper, depth_caller]); (try dsimp only [ktrTop]); omega))
local macro_rules | `(tactic| ktr_room) => `(tactic| first | omega | ((try simp only [depth_under_make, depth_under_kw, depth_in1, depth_deeper, depth_caller]); (try dsimp only [ktrTop]); omega))
set_option maxRecDepth 100000 in
set_option maxHeartbeats 8000000 in
theorem MineCal.isleap_cl (w : World) (s₀ : Shared) (mg mb : Str → Option Value) (news : List (Addr × Obj)) (y : Int) (ty : Tok) : MineCal.Cl w s₀ mg mb 63 news (True) 0 [.int y ty] (fun _ => .bool (MineCal.lpG y)) := by
  dsimp only [MineCal.Cl]
  k_with_none
  k_with "mine eval Call Name cons nil" => (k_here; (first | (with_reducible show wpAny _ _ (eval (Expr.Call (Expr.Name "isleap" _) _ _ _) _) _ _ _) | (with_reducible show wpAny _ _ (eval (Expr.Call (Expr.Name "leap_julian" _) _ _ _) _) _ _ _) | (with_reducible show wpAny _ _ (eval (Expr.Call (Expr.Name "is_leap" _) _ _ _) _) _ _ _) | (with_reducible show wpAny _ _ (eval (Expr.Call (Expr.Name "leap_islamic" _) _ _ _) _) _ _ _) | (with_reducible show wpAny _ _ (eval (Expr.Call (Expr.Name "month_length" _) _ _ _) _) _ _ _) | (with_reducible show wpAny _ _ (eval (Expr.Call (Expr.Name "legal_date_julian" _) _ _ _) _) _ _ _) | (with_reducible show wpAny _ _ (eval (Expr.Call (Expr.Name "legal_date_gregorian" _) _ _ _) _) _ _ _) | (with_reducible show wpAny _ _ (eval (Expr.Call (Expr.Name "to_jd_julian" _) _ _ _) _) _ _ _) | (with_reducible show wpAny _ _ (eval (Expr.Call (Expr.Name "to_jd_coptic" _) _ _ _) _) _ _ _) | (with_reducible show wpAny _ _ (eval (Expr.Call (Expr.Name "to_jd_islamic" _) _ _ _) _) _ _ _) | (with_reducible show wpAny _ _ (eval (Expr.Call (Expr.Name "to_jd_gregorian" _) _ _ _) _) _ _ _) | (with_reducible show wpAny _ _ (eval (Expr.Call (Expr.Name "to_jd_indian_civil" _) _ _ _) _) _ _ _) | (with_reducible show wpAny _ _ (eval (Expr.Call (Expr.Name "from_jd_julian" _) _ _ _) _) _ _ _) | (with_reducible show wpAny _ _ (eval (Expr.Call (Expr.Name "from_jd_coptic" _) _ _ _) _) _ _ _) | (with_reducible show wpAny _ _ (eval (Expr.Call (Expr.Name "from_jd_islamic" _) _ _ _) _) _ _ _) | (with_reducible show wpAny _ _ (eval (Expr.Call (Expr.Name "from_jd_gregorian" _) _ _ _) _) _ _ _) | (with_reducible show wpAny _ _ (eval (Expr.Call (Expr.Name "from_jd_indian_civil" _) _ _ _) _) _ _ _) | (with_reducible show wpAny _ _ (eval (Expr.Call (Expr.Name "_law_day" _) _ _ _) _) _ _ _) | (with_reducible show wpAny _ _ (eval (Expr.Call (Expr.Name "_law_year" _) _ _ _) _) _ _ _) | (with_reducible show wpAny _ _ (eval (Expr.Call (Expr.Name "_law_long" _) _ _ _) _) _ _ _) | (with_reducible show wpAny _ _ (eval (Expr.Call (Expr.Name "_law_even" _) _ _ _) _) _ _ _)); refine Call_ ?_)
  k_with "mine compareOp In int ref" => (k_here; (with_reducible show wpAny _ _ (compareOp CmpOp.In (Value.int _ _) (Value.ref _)) _ _ _); (with_unfolding_all refine' in_tuple_ints (MineCal.tupIn ?q2kx ?q2kf ?q2ko) ?q2ki ?_; (case q2kx => k_asm); (case q2kf => k_asm); (case q2ko => k_is); (case q2ki => (repeat constructor)); k_whole))
  k_with "mine subscriptTail Call Name cons nil Constant ref int" => (k_here; k_dflt (refine kba_turn (value' := PySem.Expr.Name (PySem.Str.ofString "_") ⟨0, 0, 0, 0⟩) (fun _ => rfl) ?_))
  k_with "mine execs nil" => (refine wpAny_execs_nil ?_)
  k_with "mine exec If Compare cons cons" => (refine wpAny_If ?_)
  k_with "mine exec If Name cons cons" => (refine wpAny_If ?_)
  k_with "mine exec If UnaryOp cons nil" => (refine wpAny_If ?_)
  k_with "mine exec If Compare cons nil" => (refine wpAny_If ?_)
  k_with "mine execs cons Assign cons" => ((with_reducible refine MineCal.tok_gen ?_); intro tk9')
  k_with "mine execs cons Assign nil" => ((with_reducible refine MineCal.tok_gen ?_); intro tk9')
  k_with "mine execs cons AugAssign cons" => ((with_reducible refine MineCal.tok_gen ?_); intro tk9')
  k_with "mine execs cons AugAssign nil" => ((with_reducible refine MineCal.tok_gen ?_); intro tk9')
  k_with "mine execs cons If cons" => ((with_reducible refine MineCal.tok_gen ?_); intro tk9')
  k_with "mine execs cons If nil" => ((with_reducible refine MineCal.tok_gen ?_); intro tk9')
  k_with "mine execs cons Return nil" => ((with_reducible refine MineCal.tok_gen ?_); intro tk9')
  k_with "mine execs cons For cons" => ((with_reducible refine MineCal.tok_gen ?_); intro tk9')
  k_with "tree" => simp only [MineCal.lpG]
  k_with "tree" => (simp only [MineCal.lpG]; law_fm; done)
  k_fill
  intros
  rename_i hret
  refine wpAny_call ?_
  k_dflt cell_enter
  k_steps
  w_strict (all_goals cb_end hret)
set_option maxRecDepth 100000 in
set_option maxHeartbeats 8000000 in
theorem MineCal.jdg_cl (w : World) (s₀ : Shared) (mg mb : Str → Option Value) (news : List (Addr × Obj)) (y : Int) (ty : Tok) (m : Int) (tm : Tok) (d : Int) (td : Tok) : MineCal.Cl w s₀ mg mb 78 news (1 ≤ d ∧ d ≤ 28) 3 [.int y ty, .int m tm, .int d td] (fun t => .int (MineCal.jG y m d) t) := by
  dsimp only [MineCal.Cl]
  k_with_none
  k_with "mine eval Call Name cons nil" => (k_here; (first | (with_reducible show wpAny _ _ (eval (Expr.Call (Expr.Name "isleap" _) _ _ _) _) _ _ _) | (with_reducible show wpAny _ _ (eval (Expr.Call (Expr.Name "leap_julian" _) _ _ _) _) _ _ _) | (with_reducible show wpAny _ _ (eval (Expr.Call (Expr.Name "is_leap" _) _ _ _) _) _ _ _) | (with_reducible show wpAny _ _ (eval (Expr.Call (Expr.Name "leap_islamic" _) _ _ _) _) _ _ _) | (with_reducible show wpAny _ _ (eval (Expr.Call (Expr.Name "month_length" _) _ _ _) _) _ _ _) | (with_reducible show wpAny _ _ (eval (Expr.Call (Expr.Name "legal_date_julian" _) _ _ _) _) _ _ _) | (with_reducible show wpAny _ _ (eval (Expr.Call (Expr.Name "legal_date_gregorian" _) _ _ _) _) _ _ _) | (with_reducible show wpAny _ _ (eval (Expr.Call (Expr.Name "to_jd_julian" _) _ _ _) _) _ _ _) | (with_reducible show wpAny _ _ (eval (Expr.Call (Expr.Name "to_jd_coptic" _) _ _ _) _) _ _ _) | (with_reducible show wpAny _ _ (eval (Expr.Call (Expr.Name "to_jd_islamic" _) _ _ _) _) _ _ _) | (with_reducible show wpAny _ _ (eval (Expr.Call (Expr.Name "to_jd_gregorian" _) _ _ _) _) _ _ _) | (with_reducible show wpAny _ _ (eval (Expr.Call (Expr.Name "to_jd_indian_civil" _) _ _ _) _) _ _ _) | (with_reducible show wpAny _ _ (eval (Expr.Call (Expr.Name "from_jd_julian" _) _ _ _) _) _ _ _) | (with_reducible show wpAny _ _ (eval (Expr.Call (Expr.Name "from_jd_coptic" _) _ _ _) _) _ _ _) | (with_reducible show wpAny _ _ (eval (Expr.Call (Expr.Name "from_jd_islamic" _) _ _ _) _) _ _ _) | (with_reducible show wpAny _ _ (eval (Expr.Call (Expr.Name "from_jd_gregorian" _) _ _ _) _) _ _ _) | (with_reducible show wpAny _ _ (eval (Expr.Call (Expr.Name "from_jd_indian_civil" _) _ _ _) _) _ _ _) | (with_reducible show wpAny _ _ (eval (Expr.Call (Expr.Name "_law_day" _) _ _ _) _) _ _ _) | (with_reducible show wpAny _ _ (eval (Expr.Call (Expr.Name "_law_year" _) _ _ _) _) _ _ _) | (with_reducible show wpAny _ _ (eval (Expr.Call (Expr.Name "_law_long" _) _ _ _) _) _ _ _) | (with_reducible show wpAny _ _ (eval (Expr.Call (Expr.Name "_law_even" _) _ _ _) _) _ _ _)); refine Call_ ?_)
  k_with "mine compareOp In int ref" => (k_here; (with_reducible show wpAny _ _ (compareOp CmpOp.In (Value.int _ _) (Value.ref _)) _ _ _); (with_unfolding_all refine' in_tuple_ints (MineCal.tupIn ?q18kx ?q18kf ?q18ko) ?q18ki ?_; (case q18kx => k_asm); (case q18kf => k_asm); (case q18ko => k_is); (case q18ki => (repeat constructor)); k_whole))
  k_with "mine subscriptTail Call Name cons nil Constant ref int" => (k_here; k_dflt (refine kba_turn (value' := PySem.Expr.Name (PySem.Str.ofString "_") ⟨0, 0, 0, 0⟩) (fun _ => rfl) ?_))
  k_with "mine execs nil" => (refine wpAny_execs_nil ?_)
  k_with "mine exec If Compare cons cons" => (refine wpAny_If ?_)
  k_with "mine exec If Name cons cons" => (refine wpAny_If ?_)
  k_with "mine exec If UnaryOp cons nil" => (refine wpAny_If ?_)
  k_with "mine exec If Compare cons nil" => (refine wpAny_If ?_)
  k_with "mine execs cons Assign cons" => ((with_reducible refine MineCal.tok_gen ?_); intro tk9')
  k_with "mine execs cons Assign nil" => ((with_reducible refine MineCal.tok_gen ?_); intro tk9')
  k_with "mine execs cons AugAssign cons" => ((with_reducible refine MineCal.tok_gen ?_); intro tk9')
  k_with "mine execs cons AugAssign nil" => ((with_reducible refine MineCal.tok_gen ?_); intro tk9')
  k_with "mine execs cons If cons" => ((with_reducible refine MineCal.tok_gen ?_); intro tk9')
  k_with "mine execs cons If nil" => ((with_reducible refine MineCal.tok_gen ?_); intro tk9')
  k_with "mine execs cons Return nil" => ((with_reducible refine MineCal.tok_gen ?_); intro tk9')
  k_with "mine execs cons For cons" => ((with_reducible refine MineCal.tok_gen ?_); intro tk9')
  k_with "mine call ref" => ((with_reducible show wpAny _ _ (call (Value.ref 63) _) _ _ _); k_here; k_dflt ((refine' MineCal.isleap_cl _ _ _ _ _ _ _ _ _ _ _ _ _ _ _ _ _ _ _ _ _ _ _ _ ?q33k1 ?q33k2 ?q33k3 ?q33k4 ?q33k5 ?q33k6 ?q33k7 ?q33k8 ?_); (case q33k1 => k_asm); (case q33k2 => k_asm); (case q33k3 => k_asm); (case q33k4 => k_asm); (case q33k5 => k_asm); (case q33k6 => first | exact rfl | assumption); (case q33k7 => first | exact ⟨MineCal.dom_lo _, MineCal.dom_hi _⟩ | (with_reducible first | exact MineCal.KK.pos (by assumption) | exact MineCal.KK.pos' (by assumption) | exact MineCal.KK.rest (by assumption)) | cb_size); (case q33k8 => k_room); intro t9' h9' tk9' F9' N9'; (try dsimp only); (try k_sweep); (try k_fold)))
  k_with "mine J1" => (k_dflt ((refine' MineCal.J1.at ?q34jF ?q34jN ?q34jm ?q34jo ?q34jR); (case q34jF => k_asm); (case q34jN => k_asm); (case q34jm => rfl); (case q34jo => (repeat (first | (with_reducible exact MineCal.Off.refl) | (refine MineCal.Off.store ?_ (by decide +kernel)) | exact MineCal.Off.refl))); (case q34jR => (first | trivial | ((try dsimp only); done) | ((try dsimp only); (first | rfl | (exact MineCal.yG_a _ (by assumption)) | (exact MineCal.yG_b _ (by assumption)) | (exact MineCal.yG_c _ (by assumption) (by assumption)) | omega | ((repeat' split) <;> (first | rfl | omega | (simp_all)))))))))
  k_with "mine exec If Compare cons cons" => ((fail_if_success (with_reducible show wpAny _ _ _ (MineCal.J1 _ _ _ _ _ _ _) _ _)); (with_reducible show wpAny _ _ (exec (PySem.Stmt.If (PySem.Expr.Compare (PySem.Expr.Name "month" _) [PySem.CmpOp.Eq] [PySem.Expr.Constant (PySem.Const.int 2) _ _] _) _ _ _) _) _ _ _); (rename PyProof.Rows.Fr _ _ _ _ => jF); (rename PyProof.Rows.News _ _ _ _ => jN); (k_dflt (refine' MineCal.join1 (PySem.Str.ofString "daysinmonth") (fun x => 28 ≤ x) jF jN ?_ ?_)); rotate_left; (intro jx jt jh jtk jR jF2 jN2); (try dsimp only at jR); (try subst jR); (try k_sweep); (try k_fold); rotate_left)
  k_with "mine exec If Compare cons cons" => ((fail_if_success (with_reducible show wpAny _ _ _ (MineCal.J1 _ _ _ _ _ _ _) _ _)); (with_reducible show wpAny _ _ (exec (PySem.Stmt.If (PySem.Expr.Compare (PySem.Expr.Name "month" _) [PySem.CmpOp.LtE] _ _) _ _ _) _) _ _ _); (rename PyProof.Rows.Fr _ _ _ _ => jF); (rename PyProof.Rows.News _ _ _ _ => jN); (k_dflt (refine' MineCal.join1 (PySem.Str.ofString "leap_adj") (fun x => x = if m ≤ 2 then 0 else if MineCal.lpG y = true then -1 else -2) jF jN ?_ ?_)); rotate_left; (intro jx jt jh jtk jR jF2 jN2); (try dsimp only at jR); (try subst jR); (try k_sweep); (try k_fold); rotate_left)
  k_with "tree" => simp only [MineCal.jG]
  k_with "tree" => (simp only [MineCal.jG]; law_fm; done)
  k_fill
  intros
  rename_i hret
  refine wpAny_call ?_
  k_dflt cell_enter
  k_steps
  w_strict (all_goals cb_end hret)
set_option maxRecDepth 100000 in
set_option maxHeartbeats 8000000 in
theorem MineCal.jdi_cl (w : World) (s₀ : Shared) (mg mb : Str → Option Value) (news : List (Addr × Obj)) (y : Int) (ty : Tok) (m : Int) (tm : Tok) (d : Int) (td : Tok) : MineCal.Cl w s₀ mg mb 28 news (True) 0 [.int y ty, .int m tm, .int d td] (fun t => .int (MineCal.jI y m d) t) := by
  dsimp only [MineCal.Cl]
  k_with_none
  k_with "mine eval Call Name cons nil" => (k_here; (first | (with_reducible show wpAny _ _ (eval (Expr.Call (Expr.Name "isleap" _) _ _ _) _) _ _ _) | (with_reducible show wpAny _ _ (eval (Expr.Call (Expr.Name "leap_julian" _) _ _ _) _) _ _ _) | (with_reducible show wpAny _ _ (eval (Expr.Call (Expr.Name "is_leap" _) _ _ _) _) _ _ _) | (with_reducible show wpAny _ _ (eval (Expr.Call (Expr.Name "leap_islamic" _) _ _ _) _) _ _ _) | (with_reducible show wpAny _ _ (eval (Expr.Call (Expr.Name "month_length" _) _ _ _) _) _ _ _) | (with_reducible show wpAny _ _ (eval (Expr.Call (Expr.Name "legal_date_julian" _) _ _ _) _) _ _ _) | (with_reducible show wpAny _ _ (eval (Expr.Call (Expr.Name "legal_date_gregorian" _) _ _ _) _) _ _ _) | (with_reducible show wpAny _ _ (eval (Expr.Call (Expr.Name "to_jd_julian" _) _ _ _) _) _ _ _) | (with_reducible show wpAny _ _ (eval (Expr.Call (Expr.Name "to_jd_coptic" _) _ _ _) _) _ _ _) | (with_reducible show wpAny _ _ (eval (Expr.Call (Expr.Name "to_jd_islamic" _) _ _ _) _) _ _ _) | (with_reducible show wpAny _ _ (eval (Expr.Call (Expr.Name "to_jd_gregorian" _) _ _ _) _) _ _ _) | (with_reducible show wpAny _ _ (eval (Expr.Call (Expr.Name "to_jd_indian_civil" _) _ _ _) _) _ _ _) | (with_reducible show wpAny _ _ (eval (Expr.Call (Expr.Name "from_jd_julian" _) _ _ _) _) _ _ _) | (with_reducible show wpAny _ _ (eval (Expr.Call (Expr.Name "from_jd_coptic" _) _ _ _) _) _ _ _) | (with_reducible show wpAny _ _ (eval (Expr.Call (Expr.Name "from_jd_islamic" _) _ _ _) _) _ _ _) | (with_reducible show wpAny _ _ (eval (Expr.Call (Expr.Name "from_jd_gregorian" _) _ _ _) _) _ _ _) | (with_reducible show wpAny _ _ (eval (Expr.Call (Expr.Name "from_jd_indian_civil" _) _ _ _) _) _ _ _) | (with_reducible show wpAny _ _ (eval (Expr.Call (Expr.Name "_law_day" _) _ _ _) _) _ _ _) | (with_reducible show wpAny _ _ (eval (Expr.Call (Expr.Name "_law_year" _) _ _ _) _) _ _ _) | (with_reducible show wpAny _ _ (eval (Expr.Call (Expr.Name "_law_long" _) _ _ _) _) _ _ _) | (with_reducible show wpAny _ _ (eval (Expr.Call (Expr.Name "_law_even" _) _ _ _) _) _ _ _)); refine Call_ ?_)
  k_with "mine compareOp In int ref" => (k_here; (with_reducible show wpAny _ _ (compareOp CmpOp.In (Value.int _ _) (Value.ref _)) _ _ _); (with_unfolding_all refine' in_tuple_ints (MineCal.tupIn ?q38kx ?q38kf ?q38ko) ?q38ki ?_; (case q38kx => k_asm); (case q38kf => k_asm); (case q38ko => k_is); (case q38ki => (repeat constructor)); k_whole))
  k_with "mine subscriptTail Call Name cons nil Constant ref int" => (k_here; k_dflt (refine kba_turn (value' := PySem.Expr.Name (PySem.Str.ofString "_") ⟨0, 0, 0, 0⟩) (fun _ => rfl) ?_))
  k_with "mine execs nil" => (refine wpAny_execs_nil ?_)
  k_with "mine exec If Compare cons cons" => (refine wpAny_If ?_)
  k_with "mine exec If Name cons cons" => (refine wpAny_If ?_)
  k_with "mine exec If UnaryOp cons nil" => (refine wpAny_If ?_)
  k_with "mine exec If Compare cons nil" => (refine wpAny_If ?_)
  k_with "mine execs cons Assign cons" => ((with_reducible refine MineCal.tok_gen ?_); intro tk9')
  k_with "mine execs cons Assign nil" => ((with_reducible refine MineCal.tok_gen ?_); intro tk9')
  k_with "mine execs cons AugAssign cons" => ((with_reducible refine MineCal.tok_gen ?_); intro tk9')
  k_with "mine execs cons AugAssign nil" => ((with_reducible refine MineCal.tok_gen ?_); intro tk9')
  k_with "mine execs cons If cons" => ((with_reducible refine MineCal.tok_gen ?_); intro tk9')
  k_with "mine execs cons If nil" => ((with_reducible refine MineCal.tok_gen ?_); intro tk9')
  k_with "mine execs cons Return nil" => ((with_reducible refine MineCal.tok_gen ?_); intro tk9')
  k_with "mine execs cons For cons" => ((with_reducible refine MineCal.tok_gen ?_); intro tk9')
  k_with "tree" => simp only [MineCal.jI]
  k_with "tree" => (simp only [MineCal.jI]; law_fm; done)
  k_fill
  intros
  rename_i hret
  refine wpAny_call ?_
  k_dflt cell_enter
  k_steps
  w_strict (all_goals cb_end hret)
set_option maxRecDepth 100000 in
set_option maxHeartbeats 8000000 in
theorem MineCal.day_cl (w : World) (s₀ : Shared) (mg mb : Str → Option Value) (news : List (Addr × Obj)) (k : Int) (tk : Tok) (y : Int) (ty : Tok) (m : Int) (tm : Tok) (d : Int) (td : Tok) : MineCal.Cl w s₀ mg mb 156 news (1 ≤ d ∧ d ≤ 28) 6 [.int k tk, .int y ty, .int m tm, .int d td] (fun t => .int (MineCal.day k y m d) t) := by
  dsimp only [MineCal.Cl]
  k_with_none
  k_with "mine eval Call Name cons nil" => (k_here; (first | (with_reducible show wpAny _ _ (eval (Expr.Call (Expr.Name "isleap" _) _ _ _) _) _ _ _) | (with_reducible show wpAny _ _ (eval (Expr.Call (Expr.Name "leap_julian" _) _ _ _) _) _ _ _) | (with_reducible show wpAny _ _ (eval (Expr.Call (Expr.Name "is_leap" _) _ _ _) _) _ _ _) | (with_reducible show wpAny _ _ (eval (Expr.Call (Expr.Name "leap_islamic" _) _ _ _) _) _ _ _) | (with_reducible show wpAny _ _ (eval (Expr.Call (Expr.Name "month_length" _) _ _ _) _) _ _ _) | (with_reducible show wpAny _ _ (eval (Expr.Call (Expr.Name "legal_date_julian" _) _ _ _) _) _ _ _) | (with_reducible show wpAny _ _ (eval (Expr.Call (Expr.Name "legal_date_gregorian" _) _ _ _) _) _ _ _) | (with_reducible show wpAny _ _ (eval (Expr.Call (Expr.Name "to_jd_julian" _) _ _ _) _) _ _ _) | (with_reducible show wpAny _ _ (eval (Expr.Call (Expr.Name "to_jd_coptic" _) _ _ _) _) _ _ _) | (with_reducible show wpAny _ _ (eval (Expr.Call (Expr.Name "to_jd_islamic" _) _ _ _) _) _ _ _) | (with_reducible show wpAny _ _ (eval (Expr.Call (Expr.Name "to_jd_gregorian" _) _ _ _) _) _ _ _) | (with_reducible show wpAny _ _ (eval (Expr.Call (Expr.Name "to_jd_indian_civil" _) _ _ _) _) _ _ _) | (with_reducible show wpAny _ _ (eval (Expr.Call (Expr.Name "from_jd_julian" _) _ _ _) _) _ _ _) | (with_reducible show wpAny _ _ (eval (Expr.Call (Expr.Name "from_jd_coptic" _) _ _ _) _) _ _ _) | (with_reducible show wpAny _ _ (eval (Expr.Call (Expr.Name "from_jd_islamic" _) _ _ _) _) _ _ _) | (with_reducible show wpAny _ _ (eval (Expr.Call (Expr.Name "from_jd_gregorian" _) _ _ _) _) _ _ _) | (with_reducible show wpAny _ _ (eval (Expr.Call (Expr.Name "from_jd_indian_civil" _) _ _ _) _) _ _ _) | (with_reducible show wpAny _ _ (eval (Expr.Call (Expr.Name "_law_day" _) _ _ _) _) _ _ _) | (with_reducible show wpAny _ _ (eval (Expr.Call (Expr.Name "_law_year" _) _ _ _) _) _ _ _) | (with_reducible show wpAny _ _ (eval (Expr.Call (Expr.Name "_law_long" _) _ _ _) _) _ _ _) | (with_reducible show wpAny _ _ (eval (Expr.Call (Expr.Name "_law_even" _) _ _ _) _) _ _ _)); refine Call_ ?_)
  k_with "mine compareOp In int ref" => (k_here; (with_reducible show wpAny _ _ (compareOp CmpOp.In (Value.int _ _) (Value.ref _)) _ _ _); (with_unfolding_all refine' in_tuple_ints (MineCal.tupIn ?q54kx ?q54kf ?q54ko) ?q54ki ?_; (case q54kx => k_asm); (case q54kf => k_asm); (case q54ko => k_is); (case q54ki => (repeat constructor)); k_whole))
  k_with "mine subscriptTail Call Name cons nil Constant ref int" => (k_here; k_dflt (refine kba_turn (value' := PySem.Expr.Name (PySem.Str.ofString "_") ⟨0, 0, 0, 0⟩) (fun _ => rfl) ?_))
  k_with "mine execs nil" => (refine wpAny_execs_nil ?_)
  k_with "mine exec If Compare cons cons" => (refine wpAny_If ?_)
  k_with "mine exec If Name cons cons" => (refine wpAny_If ?_)
  k_with "mine exec If UnaryOp cons nil" => (refine wpAny_If ?_)
  k_with "mine exec If Compare cons nil" => (refine wpAny_If ?_)
  k_with "mine execs cons Assign cons" => ((with_reducible refine MineCal.tok_gen ?_); intro tk9')
  k_with "mine execs cons Assign nil" => ((with_reducible refine MineCal.tok_gen ?_); intro tk9')
  k_with "mine execs cons AugAssign cons" => ((with_reducible refine MineCal.tok_gen ?_); intro tk9')
  k_with "mine execs cons AugAssign nil" => ((with_reducible refine MineCal.tok_gen ?_); intro tk9')
  k_with "mine execs cons If cons" => ((with_reducible refine MineCal.tok_gen ?_); intro tk9')
  k_with "mine execs cons If nil" => ((with_reducible refine MineCal.tok_gen ?_); intro tk9')
  k_with "mine execs cons Return nil" => ((with_reducible refine MineCal.tok_gen ?_); intro tk9')
  k_with "mine execs cons For cons" => ((with_reducible refine MineCal.tok_gen ?_); intro tk9')
  k_with "mine call ref" => ((with_reducible show wpAny _ _ (call (Value.ref 63) _) _ _ _); k_here; k_dflt ((refine' MineCal.isleap_cl _ _ _ _ _ _ _ _ _ _ _ _ _ _ _ _ _ _ _ _ _ _ _ _ ?q69k1 ?q69k2 ?q69k3 ?q69k4 ?q69k5 ?q69k6 ?q69k7 ?q69k8 ?_); (case q69k1 => k_asm); (case q69k2 => k_asm); (case q69k3 => k_asm); (case q69k4 => k_asm); (case q69k5 => k_asm); (case q69k6 => first | exact rfl | assumption); (case q69k7 => first | exact ⟨MineCal.dom_lo _, MineCal.dom_hi _⟩ | (with_reducible first | exact MineCal.KK.pos (by assumption) | exact MineCal.KK.pos' (by assumption) | exact MineCal.KK.rest (by assumption)) | cb_size); (case q69k8 => k_room); intro t9' h9' tk9' F9' N9'; (try dsimp only); (try k_sweep); (try k_fold)))
  k_with "mine call ref" => ((with_reducible show wpAny _ _ (call (Value.ref 78) _) _ _ _); k_here; k_dflt ((refine' MineCal.jdg_cl _ _ _ _ _ _ _ _ _ _ _ _ _ _ _ _ _ _ _ _ _ _ _ _ _ _ _ _ ?q70k1 ?q70k2 ?q70k3 ?q70k4 ?q70k5 ?q70k6 ?q70k7 ?q70k8 ?_); (case q70k1 => k_asm); (case q70k2 => k_asm); (case q70k3 => k_asm); (case q70k4 => k_asm); (case q70k5 => k_asm); (case q70k6 => first | exact rfl | assumption); (case q70k7 => first | exact ⟨MineCal.dom_lo _, MineCal.dom_hi _⟩ | (with_reducible first | exact MineCal.KK.pos (by assumption) | exact MineCal.KK.pos' (by assumption) | exact MineCal.KK.rest (by assumption)) | cb_size); (case q70k8 => k_room); intro t9' h9' tk9' F9' N9'; (try dsimp only); (try k_sweep); (try k_fold)))
  k_with "mine call ref" => ((with_reducible show wpAny _ _ (call (Value.ref 28) _) _ _ _); k_here; k_dflt ((refine' MineCal.jdi_cl _ _ _ _ _ _ _ _ _ _ _ _ _ _ _ _ _ _ _ _ _ _ _ _ _ _ _ _ ?q71k1 ?q71k2 ?q71k3 ?q71k4 ?q71k5 ?q71k6 ?q71k7 ?q71k8 ?_); (case q71k1 => k_asm); (case q71k2 => k_asm); (case q71k3 => k_asm); (case q71k4 => k_asm); (case q71k5 => k_asm); (case q71k6 => first | exact rfl | assumption); (case q71k7 => first | exact ⟨MineCal.dom_lo _, MineCal.dom_hi _⟩ | (with_reducible first | exact MineCal.KK.pos (by assumption) | exact MineCal.KK.pos' (by assumption) | exact MineCal.KK.rest (by assumption)) | cb_size); (case q71k8 => k_room); intro t9' h9' tk9' F9' N9'; (try dsimp only); (try k_sweep); (try k_fold)))
  k_with "mine J1" => (k_dflt ((refine' MineCal.J1.at ?q72jF ?q72jN ?q72jm ?q72jo ?q72jR); (case q72jF => k_asm); (case q72jN => k_asm); (case q72jm => rfl); (case q72jo => (repeat (first | (with_reducible exact MineCal.Off.refl) | (refine MineCal.Off.store ?_ (by decide +kernel)) | exact MineCal.Off.refl))); (case q72jR => (first | trivial | ((try dsimp only); done) | ((try dsimp only); (first | rfl | (exact MineCal.yG_a _ (by assumption)) | (exact MineCal.yG_b _ (by assumption)) | (exact MineCal.yG_c _ (by assumption) (by assumption)) | omega | ((repeat' split) <;> (first | rfl | omega | (simp_all)))))))))
  k_with "mine exec If Compare cons cons" => ((fail_if_success (with_reducible show wpAny _ _ _ (MineCal.J1 _ _ _ _ _ _ _) _ _)); (with_reducible show wpAny _ _ (exec (PySem.Stmt.If (PySem.Expr.Compare (PySem.Expr.Name "month" _) [PySem.CmpOp.Eq] [PySem.Expr.Constant (PySem.Const.int 2) _ _] _) _ _ _) _) _ _ _); (rename PyProof.Rows.Fr _ _ _ _ => jF); (rename PyProof.Rows.News _ _ _ _ => jN); (k_dflt (refine' MineCal.join1 (PySem.Str.ofString "daysinmonth") (fun x => 28 ≤ x) jF jN ?_ ?_)); rotate_left; (intro jx jt jh jtk jR jF2 jN2); (try dsimp only at jR); (try subst jR); (try k_sweep); (try k_fold); rotate_left)
  k_with "mine exec If Name cons cons" => ((fail_if_success (with_reducible show wpAny _ _ _ (MineCal.J1 _ _ _ _ _ _ _) _ _)); (rename PyProof.Rows.Fr _ _ _ _ => jF); (rename PyProof.Rows.News _ _ _ _ => jN); (k_dflt (refine' MineCal.join1 (PySem.Str.ofString "caitra") (fun x => x = if MineCal.lpG (y + 78) = true then 31 else 30) jF jN ?_ ?_)); rotate_left; (intro jx jt jh jtk jR jF2 jN2); (try dsimp only at jR); (try subst jR); (try k_sweep); (try k_fold); rotate_left)
  k_with "tree" => simp only [MineCal.day, MineCal.jJ, MineCal.jC, MineCal.jN]
  k_with "tree" => (simp only [MineCal.day, MineCal.jJ, MineCal.jC, MineCal.jN]; law_fm; done)
  k_fill
  intros
  rename_i hret
  refine wpAny_call ?_
  k_dflt cell_enter
  k_steps
  all_goals (refine cb_retI (Q := _) hret ?_ (by k_asm) (by first | k_asm | exact cb_drop (by assumption) (fun p hp => by first | exact hp | exact List.mem_cons_of_mem _ hp)))
  all_goals first
    | with_reducible exact MineCal.dy1 (by assumption)
    | with_reducible exact MineCal.dy2 (by assumption)
    | with_reducible exact MineCal.dy3 (by assumption)
    | with_reducible exact MineCal.dy0a (by assumption) (by assumption)
    | with_reducible exact MineCal.dy0b (by assumption) (by assumption)
    | with_reducible exact MineCal.dy4a (by assumption) (by assumption) (by assumption) (by assumption) (by assumption)
    | with_reducible exact MineCal.dy4b (by assumption) (by assumption) (by assumption) (by assumption) (by assumption) (by assumption)
    | with_reducible exact MineCal.dy4c (by assumption) (by assumption) (by assumption) (by assumption) (by assumption) (by assumption)
set_option maxRecDepth 100000 in
set_option maxHeartbeats 8000000 in
theorem MineCal.long_cl (w : World) (s₀ : Shared) (mg mb : Str → Option Value) (news : List (Addr × Obj)) (k : Int) (tk : Tok) (y : Int) (ty : Tok) : MineCal.Cl w s₀ mg mb 170 news (True) 3 [.int k tk, .int y ty] (fun _ => .bool (MineCal.long k y)) := by
  dsimp only [MineCal.Cl]
  k_with_none
  k_with "mine eval Call Name cons nil" => (k_here; (first | (with_reducible show wpAny _ _ (eval (Expr.Call (Expr.Name "isleap" _) _ _ _) _) _ _ _) | (with_reducible show wpAny _ _ (eval (Expr.Call (Expr.Name "leap_julian" _) _ _ _) _) _ _ _) | (with_reducible show wpAny _ _ (eval (Expr.Call (Expr.Name "is_leap" _) _ _ _) _) _ _ _) | (with_reducible show wpAny _ _ (eval (Expr.Call (Expr.Name "leap_islamic" _) _ _ _) _) _ _ _) | (with_reducible show wpAny _ _ (eval (Expr.Call (Expr.Name "month_length" _) _ _ _) _) _ _ _) | (with_reducible show wpAny _ _ (eval (Expr.Call (Expr.Name "legal_date_julian" _) _ _ _) _) _ _ _) | (with_reducible show wpAny _ _ (eval (Expr.Call (Expr.Name "legal_date_gregorian" _) _ _ _) _) _ _ _) | (with_reducible show wpAny _ _ (eval (Expr.Call (Expr.Name "to_jd_julian" _) _ _ _) _) _ _ _) | (with_reducible show wpAny _ _ (eval (Expr.Call (Expr.Name "to_jd_coptic" _) _ _ _) _) _ _ _) | (with_reducible show wpAny _ _ (eval (Expr.Call (Expr.Name "to_jd_islamic" _) _ _ _) _) _ _ _) | (with_reducible show wpAny _ _ (eval (Expr.Call (Expr.Name "to_jd_gregorian" _) _ _ _) _) _ _ _) | (with_reducible show wpAny _ _ (eval (Expr.Call (Expr.Name "to_jd_indian_civil" _) _ _ _) _) _ _ _) | (with_reducible show wpAny _ _ (eval (Expr.Call (Expr.Name "from_jd_julian" _) _ _ _) _) _ _ _) | (with_reducible show wpAny _ _ (eval (Expr.Call (Expr.Name "from_jd_coptic" _) _ _ _) _) _ _ _) | (with_reducible show wpAny _ _ (eval (Expr.Call (Expr.Name "from_jd_islamic" _) _ _ _) _) _ _ _) | (with_reducible show wpAny _ _ (eval (Expr.Call (Expr.Name "from_jd_gregorian" _) _ _ _) _) _ _ _) | (with_reducible show wpAny _ _ (eval (Expr.Call (Expr.Name "from_jd_indian_civil" _) _ _ _) _) _ _ _) | (with_reducible show wpAny _ _ (eval (Expr.Call (Expr.Name "_law_day" _) _ _ _) _) _ _ _) | (with_reducible show wpAny _ _ (eval (Expr.Call (Expr.Name "_law_year" _) _ _ _) _) _ _ _) | (with_reducible show wpAny _ _ (eval (Expr.Call (Expr.Name "_law_long" _) _ _ _) _) _ _ _) | (with_reducible show wpAny _ _ (eval (Expr.Call (Expr.Name "_law_even" _) _ _ _) _) _ _ _)); refine Call_ ?_)
  k_with "mine compareOp In int ref" => (k_here; (with_reducible show wpAny _ _ (compareOp CmpOp.In (Value.int _ _) (Value.ref _)) _ _ _); (with_unfolding_all refine' in_tuple_ints (MineCal.tupIn ?q76kx ?q76kf ?q76ko) ?q76ki ?_; (case q76kx => k_asm); (case q76kf => k_asm); (case q76ko => k_is); (case q76ki => (repeat constructor)); k_whole))
  k_with "mine subscriptTail Call Name cons nil Constant ref int" => (k_here; k_dflt (refine kba_turn (value' := PySem.Expr.Name (PySem.Str.ofString "_") ⟨0, 0, 0, 0⟩) (fun _ => rfl) ?_))
  k_with "mine execs nil" => (refine wpAny_execs_nil ?_)
  k_with "mine exec If Compare cons cons" => (refine wpAny_If ?_)
  k_with "mine exec If Name cons cons" => (refine wpAny_If ?_)
  k_with "mine exec If UnaryOp cons nil" => (refine wpAny_If ?_)
  k_with "mine exec If Compare cons nil" => (refine wpAny_If ?_)
  k_with "mine execs cons Assign cons" => ((with_reducible refine MineCal.tok_gen ?_); intro tk9')
  k_with "mine execs cons Assign nil" => ((with_reducible refine MineCal.tok_gen ?_); intro tk9')
  k_with "mine execs cons AugAssign cons" => ((with_reducible refine MineCal.tok_gen ?_); intro tk9')
  k_with "mine execs cons AugAssign nil" => ((with_reducible refine MineCal.tok_gen ?_); intro tk9')
  k_with "mine execs cons If cons" => ((with_reducible refine MineCal.tok_gen ?_); intro tk9')
  k_with "mine execs cons If nil" => ((with_reducible refine MineCal.tok_gen ?_); intro tk9')
  k_with "mine execs cons Return nil" => ((with_reducible refine MineCal.tok_gen ?_); intro tk9')
  k_with "mine execs cons For cons" => ((with_reducible refine MineCal.tok_gen ?_); intro tk9')
  k_with "tree" => simp only [MineCal.long]
  k_with "tree" => (simp only [MineCal.long]; law_fm; done)
  k_fill
  intros
  rename_i hret
  refine wpAny_call ?_
  k_dflt cell_enter
  k_steps
  w_strict (all_goals cb_end hret)
set_option maxRecDepth 100000 in
set_option maxHeartbeats 8000000 in
theorem MineCal.even_cl (w : World) (s₀ : Shared) (mg mb : Str → Option Value) (news : List (Addr × Obj)) (t : Int) (tt : Tok) (c : Int) (tc : Tok) (p : Int) (tp : Tok) (q : Int) (tq : Tok) : MineCal.Cl w s₀ mg mb 177 news (0 < p ∧ p ≤ 20000 ∧ 0 < q ∧ q ≤ 20000) 1 [.int t tt, .int c tc, .int p tp, .int q tq] (fun _ => .bool (MineCal.even t c p q)) := by
  dsimp only [MineCal.Cl]
  k_with_none
  k_with "mine eval Call Name cons nil" => (k_here; (first | (with_reducible show wpAny _ _ (eval (Expr.Call (Expr.Name "isleap" _) _ _ _) _) _ _ _) | (with_reducible show wpAny _ _ (eval (Expr.Call (Expr.Name "leap_julian" _) _ _ _) _) _ _ _) | (with_reducible show wpAny _ _ (eval (Expr.Call (Expr.Name "is_leap" _) _ _ _) _) _ _ _) | (with_reducible show wpAny _ _ (eval (Expr.Call (Expr.Name "leap_islamic" _) _ _ _) _) _ _ _) | (with_reducible show wpAny _ _ (eval (Expr.Call (Expr.Name "month_length" _) _ _ _) _) _ _ _) | (with_reducible show wpAny _ _ (eval (Expr.Call (Expr.Name "legal_date_julian" _) _ _ _) _) _ _ _) | (with_reducible show wpAny _ _ (eval (Expr.Call (Expr.Name "legal_date_gregorian" _) _ _ _) _) _ _ _) | (with_reducible show wpAny _ _ (eval (Expr.Call (Expr.Name "to_jd_julian" _) _ _ _) _) _ _ _) | (with_reducible show wpAny _ _ (eval (Expr.Call (Expr.Name "to_jd_coptic" _) _ _ _) _) _ _ _) | (with_reducible show wpAny _ _ (eval (Expr.Call (Expr.Name "to_jd_islamic" _) _ _ _) _) _ _ _) | (with_reducible show wpAny _ _ (eval (Expr.Call (Expr.Name "to_jd_gregorian" _) _ _ _) _) _ _ _) | (with_reducible show wpAny _ _ (eval (Expr.Call (Expr.Name "to_jd_indian_civil" _) _ _ _) _) _ _ _) | (with_reducible show wpAny _ _ (eval (Expr.Call (Expr.Name "from_jd_julian" _) _ _ _) _) _ _ _) | (with_reducible show wpAny _ _ (eval (Expr.Call (Expr.Name "from_jd_coptic" _) _ _ _) _) _ _ _) | (with_reducible show wpAny _ _ (eval (Expr.Call (Expr.Name "from_jd_islamic" _) _ _ _) _) _ _ _) | (with_reducible show wpAny _ _ (eval (Expr.Call (Expr.Name "from_jd_gregorian" _) _ _ _) _) _ _ _) | (with_reducible show wpAny _ _ (eval (Expr.Call (Expr.Name "from_jd_indian_civil" _) _ _ _) _) _ _ _) | (with_reducible show wpAny _ _ (eval (Expr.Call (Expr.Name "_law_day" _) _ _ _) _) _ _ _) | (with_reducible show wpAny _ _ (eval (Expr.Call (Expr.Name "_law_year" _) _ _ _) _) _ _ _) | (with_reducible show wpAny _ _ (eval (Expr.Call (Expr.Name "_law_long" _) _ _ _) _) _ _ _) | (with_reducible show wpAny _ _ (eval (Expr.Call (Expr.Name "_law_even" _) _ _ _) _) _ _ _)); refine Call_ ?_)
  k_with "mine compareOp In int ref" => (k_here; (with_reducible show wpAny _ _ (compareOp CmpOp.In (Value.int _ _) (Value.ref _)) _ _ _); (with_unfolding_all refine' in_tuple_ints (MineCal.tupIn ?q92kx ?q92kf ?q92ko) ?q92ki ?_; (case q92kx => k_asm); (case q92kf => k_asm); (case q92ko => k_is); (case q92ki => (repeat constructor)); k_whole))
  k_with "mine subscriptTail Call Name cons nil Constant ref int" => (k_here; k_dflt (refine kba_turn (value' := PySem.Expr.Name (PySem.Str.ofString "_") ⟨0, 0, 0, 0⟩) (fun _ => rfl) ?_))
  k_with "mine execs nil" => (refine wpAny_execs_nil ?_)
  k_with "mine exec If Compare cons cons" => (refine wpAny_If ?_)
  k_with "mine exec If Name cons cons" => (refine wpAny_If ?_)
  k_with "mine exec If UnaryOp cons nil" => (refine wpAny_If ?_)
  k_with "mine exec If Compare cons nil" => (refine wpAny_If ?_)
  k_with "mine execs cons Assign cons" => ((with_reducible refine MineCal.tok_gen ?_); intro tk9')
  k_with "mine execs cons Assign nil" => ((with_reducible refine MineCal.tok_gen ?_); intro tk9')
  k_with "mine execs cons AugAssign cons" => ((with_reducible refine MineCal.tok_gen ?_); intro tk9')
  k_with "mine execs cons AugAssign nil" => ((with_reducible refine MineCal.tok_gen ?_); intro tk9')
  k_with "mine execs cons If cons" => ((with_reducible refine MineCal.tok_gen ?_); intro tk9')
  k_with "mine execs cons If nil" => ((with_reducible refine MineCal.tok_gen ?_); intro tk9')
  k_with "mine execs cons Return nil" => ((with_reducible refine MineCal.tok_gen ?_); intro tk9')
  k_with "mine execs cons For cons" => ((with_reducible refine MineCal.tok_gen ?_); intro tk9')
  k_with "tree" => simp only [MineCal.even]
  k_with "tree" => (simp only [MineCal.even]; law_fm; done)
  k_fill
  intros
  rename_i hret
  (obtain ⟨hp1, hp2, hp3, hp4⟩ : 0 < p ∧ p ≤ 20000 ∧ 0 < q ∧ q ≤ 20000 := by assumption)
  have hq0 : q ≠ 0 := by omega
  refine wpAny_call ?_
  k_dflt cell_enter
  k_steps
  w_strict (all_goals cb_end hret)
set_option maxRecDepth 100000 in
set_option maxHeartbeats 8000000 in
theorem MineCal.gfrom_cl (w : World) (s₀ : Shared) (mg mb : Str → Option Value) (news : List (Addr × Obj)) (n : Int) (tn : Tok) : MineCal.ClT w s₀ mg mb news n tn := by
  dsimp only [MineCal.ClT]
  k_with_none
  k_with "mine eval Call Name cons nil" => (k_here; (first | (with_reducible show wpAny _ _ (eval (Expr.Call (Expr.Name "isleap" _) _ _ _) _) _ _ _) | (with_reducible show wpAny _ _ (eval (Expr.Call (Expr.Name "leap_julian" _) _ _ _) _) _ _ _) | (with_reducible show wpAny _ _ (eval (Expr.Call (Expr.Name "is_leap" _) _ _ _) _) _ _ _) | (with_reducible show wpAny _ _ (eval (Expr.Call (Expr.Name "leap_islamic" _) _ _ _) _) _ _ _) | (with_reducible show wpAny _ _ (eval (Expr.Call (Expr.Name "month_length" _) _ _ _) _) _ _ _) | (with_reducible show wpAny _ _ (eval (Expr.Call (Expr.Name "legal_date_julian" _) _ _ _) _) _ _ _) | (with_reducible show wpAny _ _ (eval (Expr.Call (Expr.Name "legal_date_gregorian" _) _ _ _) _) _ _ _) | (with_reducible show wpAny _ _ (eval (Expr.Call (Expr.Name "to_jd_julian" _) _ _ _) _) _ _ _) | (with_reducible show wpAny _ _ (eval (Expr.Call (Expr.Name "to_jd_coptic" _) _ _ _) _) _ _ _) | (with_reducible show wpAny _ _ (eval (Expr.Call (Expr.Name "to_jd_islamic" _) _ _ _) _) _ _ _) | (with_reducible show wpAny _ _ (eval (Expr.Call (Expr.Name "to_jd_gregorian" _) _ _ _) _) _ _ _) | (with_reducible show wpAny _ _ (eval (Expr.Call (Expr.Name "to_jd_indian_civil" _) _ _ _) _) _ _ _) | (with_reducible show wpAny _ _ (eval (Expr.Call (Expr.Name "from_jd_julian" _) _ _ _) _) _ _ _) | (with_reducible show wpAny _ _ (eval (Expr.Call (Expr.Name "from_jd_coptic" _) _ _ _) _) _ _ _) | (with_reducible show wpAny _ _ (eval (Expr.Call (Expr.Name "from_jd_islamic" _) _ _ _) _) _ _ _) | (with_reducible show wpAny _ _ (eval (Expr.Call (Expr.Name "from_jd_gregorian" _) _ _ _) _) _ _ _) | (with_reducible show wpAny _ _ (eval (Expr.Call (Expr.Name "from_jd_indian_civil" _) _ _ _) _) _ _ _) | (with_reducible show wpAny _ _ (eval (Expr.Call (Expr.Name "_law_day" _) _ _ _) _) _ _ _) | (with_reducible show wpAny _ _ (eval (Expr.Call (Expr.Name "_law_year" _) _ _ _) _) _ _ _) | (with_reducible show wpAny _ _ (eval (Expr.Call (Expr.Name "_law_long" _) _ _ _) _) _ _ _) | (with_reducible show wpAny _ _ (eval (Expr.Call (Expr.Name "_law_even" _) _ _ _) _) _ _ _)); refine Call_ ?_)
  k_with "mine compareOp In int ref" => (k_here; (with_reducible show wpAny _ _ (compareOp CmpOp.In (Value.int _ _) (Value.ref _)) _ _ _); (with_unfolding_all refine' in_tuple_ints (MineCal.tupIn ?q108kx ?q108kf ?q108ko) ?q108ki ?_; (case q108kx => k_asm); (case q108kf => k_asm); (case q108ko => k_is); (case q108ki => (repeat constructor)); k_whole))
  k_with "mine subscriptTail Call Name cons nil Constant ref int" => (k_here; k_dflt (refine kba_turn (value' := PySem.Expr.Name (PySem.Str.ofString "_") ⟨0, 0, 0, 0⟩) (fun _ => rfl) ?_))
  k_with "mine execs nil" => (refine wpAny_execs_nil ?_)
  k_with "mine exec If Compare cons cons" => (refine wpAny_If ?_)
  k_with "mine exec If Name cons cons" => (refine wpAny_If ?_)
  k_with "mine exec If UnaryOp cons nil" => (refine wpAny_If ?_)
  k_with "mine exec If Compare cons nil" => (refine wpAny_If ?_)
  k_with "mine execs cons Assign cons" => ((with_reducible refine MineCal.tok_gen ?_); intro tk9')
  k_with "mine execs cons Assign nil" => ((with_reducible refine MineCal.tok_gen ?_); intro tk9')
  k_with "mine execs cons AugAssign cons" => ((with_reducible refine MineCal.tok_gen ?_); intro tk9')
  k_with "mine execs cons AugAssign nil" => ((with_reducible refine MineCal.tok_gen ?_); intro tk9')
  k_with "mine execs cons If cons" => ((with_reducible refine MineCal.tok_gen ?_); intro tk9')
  k_with "mine execs cons If nil" => ((with_reducible refine MineCal.tok_gen ?_); intro tk9')
  k_with "mine execs cons Return nil" => ((with_reducible refine MineCal.tok_gen ?_); intro tk9')
  k_with "mine execs cons For cons" => ((with_reducible refine MineCal.tok_gen ?_); intro tk9')
  k_with "mine call ref" => ((with_reducible show wpAny _ _ (call (Value.ref 63) _) _ _ _); k_here; k_dflt ((refine' MineCal.isleap_cl _ _ _ _ _ _ _ _ _ _ _ _ _ _ _ _ _ _ _ _ _ _ _ _ ?q123k1 ?q123k2 ?q123k3 ?q123k4 ?q123k5 ?q123k6 ?q123k7 ?q123k8 ?_); (case q123k1 => k_asm); (case q123k2 => k_asm); (case q123k3 => k_asm); (case q123k4 => k_asm); (case q123k5 => k_asm); (case q123k6 => first | exact rfl | assumption); (case q123k7 => first | exact ⟨MineCal.dom_lo _, MineCal.dom_hi _⟩ | (with_reducible first | exact MineCal.KK.pos (by assumption) | exact MineCal.KK.pos' (by assumption) | exact MineCal.KK.rest (by assumption)) | cb_size); (case q123k8 => k_room); intro t9' h9' tk9' F9' N9'; (try dsimp only); (try k_sweep); (try k_fold)))
  k_with "mine call ref" => ((with_reducible show wpAny _ _ (call (Value.ref 78) _) _ _ _); k_here; k_dflt ((refine' MineCal.jdg_cl _ _ _ _ _ _ _ _ _ _ _ _ _ _ _ _ _ _ _ _ _ _ _ _ _ _ _ _ ?q124k1 ?q124k2 ?q124k3 ?q124k4 ?q124k5 ?q124k6 ?q124k7 ?q124k8 ?_); (case q124k1 => k_asm); (case q124k2 => k_asm); (case q124k3 => k_asm); (case q124k4 => k_asm); (case q124k5 => k_asm); (case q124k6 => first | exact rfl | assumption); (case q124k7 => first | exact ⟨MineCal.dom_lo _, MineCal.dom_hi _⟩ | (with_reducible first | exact MineCal.KK.pos (by assumption) | exact MineCal.KK.pos' (by assumption) | exact MineCal.KK.rest (by assumption)) | cb_size); (case q124k8 => k_room); intro t9' h9' tk9' F9' N9'; (try dsimp only); (try k_sweep); (try k_fold)))
  k_with "mine J1" => (k_dflt ((refine' MineCal.J1.at ?q125jF ?q125jN ?q125jm ?q125jo ?q125jR); (case q125jF => k_asm); (case q125jN => k_asm); (case q125jm => rfl); (case q125jo => (repeat (first | (with_reducible exact MineCal.Off.refl) | (refine MineCal.Off.store ?_ (by decide +kernel)) | exact MineCal.Off.refl))); (case q125jR => (first | trivial | ((try dsimp only); done) | ((try dsimp only); (first | rfl | (exact MineCal.yG_a _ (by assumption)) | (exact MineCal.yG_b _ (by assumption)) | (exact MineCal.yG_c _ (by assumption) (by assumption)) | omega | ((repeat' split) <;> (first | rfl | omega | (simp_all)))))))))
  k_with "mine exec If UnaryOp cons nil" => ((fail_if_success (with_reducible show wpAny _ _ _ (MineCal.J1 _ _ _ _ _ _ _) _ _)); (rename PyProof.Rows.Fr _ _ _ _ => jF); (rename PyProof.Rows.News _ _ _ _ => jN); (k_dflt (refine' MineCal.join1 (PySem.Str.ofString "year") (fun x => x = MineCal.yG n) jF jN ?_ ?_)); rotate_left; (intro jx jt jh jtk jR jF2 jN2); (try dsimp only at jR); (try subst jR); (try k_sweep); (try k_fold); rotate_left)
  k_with "mine exec If Compare cons cons" => ((fail_if_success (with_reducible show wpAny _ _ _ (MineCal.J1 _ _ _ _ _ _ _) _ _)); (with_reducible show wpAny _ _ (exec (PySem.Stmt.If (PySem.Expr.Compare (PySem.Expr.Name "yearday" _) [PySem.CmpOp.Lt] _ _) _ _ _) _) _ _ _); (rename PyProof.Rows.Fr _ _ _ _ => jF); (rename PyProof.Rows.News _ _ _ _ => jN); (k_dflt (refine' MineCal.join1 (PySem.Str.ofString "leap_adj") (fun _ => True) jF jN ?_ ?_)); rotate_left; (intro jx jt jh jtk jR jF2 jN2); (try dsimp only at jR); (try subst jR); (try k_sweep); (try k_fold); rotate_left)
  k_fill
  intros
  rename_i hret
  refine wpAny_call ?_
  k_dflt cell_enter
  k_steps
  all_goals (refine MineCal.retT (Q := _) hret (by k_asm) (by k_asm) ?_)
  all_goals rfl
set_option maxRecDepth 100000 in
set_option maxHeartbeats 8000000 in
theorem MineCal.year_cl (w : World) (s₀ : Shared) (mg mb : Str → Option Value) (news : List (Addr × Obj)) (k : Int) (tk : Tok) (n : Int) (tn : Tok) : MineCal.Cl w s₀ mg mb 163 news (True) 8 [.int k tk, .int n tn] (fun t => .int (MineCal.year k n) t) := by
  dsimp only [MineCal.Cl]
  k_with_none
  k_with "mine eval Call Name cons nil" => (k_here; (first | (with_reducible show wpAny _ _ (eval (Expr.Call (Expr.Name "isleap" _) _ _ _) _) _ _ _) | (with_reducible show wpAny _ _ (eval (Expr.Call (Expr.Name "leap_julian" _) _ _ _) _) _ _ _) | (with_reducible show wpAny _ _ (eval (Expr.Call (Expr.Name "is_leap" _) _ _ _) _) _ _ _) | (with_reducible show wpAny _ _ (eval (Expr.Call (Expr.Name "leap_islamic" _) _ _ _) _) _ _ _) | (with_reducible show wpAny _ _ (eval (Expr.Call (Expr.Name "month_length" _) _ _ _) _) _ _ _) | (with_reducible show wpAny _ _ (eval (Expr.Call (Expr.Name "legal_date_julian" _) _ _ _) _) _ _ _) | (with_reducible show wpAny _ _ (eval (Expr.Call (Expr.Name "legal_date_gregorian" _) _ _ _) _) _ _ _) | (with_reducible show wpAny _ _ (eval (Expr.Call (Expr.Name "to_jd_julian" _) _ _ _) _) _ _ _) | (with_reducible show wpAny _ _ (eval (Expr.Call (Expr.Name "to_jd_coptic" _) _ _ _) _) _ _ _) | (with_reducible show wpAny _ _ (eval (Expr.Call (Expr.Name "to_jd_islamic" _) _ _ _) _) _ _ _) | (with_reducible show wpAny _ _ (eval (Expr.Call (Expr.Name "to_jd_gregorian" _) _ _ _) _) _ _ _) | (with_reducible show wpAny _ _ (eval (Expr.Call (Expr.Name "to_jd_indian_civil" _) _ _ _) _) _ _ _) | (with_reducible show wpAny _ _ (eval (Expr.Call (Expr.Name "from_jd_julian" _) _ _ _) _) _ _ _) | (with_reducible show wpAny _ _ (eval (Expr.Call (Expr.Name "from_jd_coptic" _) _ _ _) _) _ _ _) | (with_reducible show wpAny _ _ (eval (Expr.Call (Expr.Name "from_jd_islamic" _) _ _ _) _) _ _ _) | (with_reducible show wpAny _ _ (eval (Expr.Call (Expr.Name "from_jd_gregorian" _) _ _ _) _) _ _ _) | (with_reducible show wpAny _ _ (eval (Expr.Call (Expr.Name "from_jd_indian_civil" _) _ _ _) _) _ _ _) | (with_reducible show wpAny _ _ (eval (Expr.Call (Expr.Name "_law_day" _) _ _ _) _) _ _ _) | (with_reducible show wpAny _ _ (eval (Expr.Call (Expr.Name "_law_year" _) _ _ _) _) _ _ _) | (with_reducible show wpAny _ _ (eval (Expr.Call (Expr.Name "_law_long" _) _ _ _) _) _ _ _) | (with_reducible show wpAny _ _ (eval (Expr.Call (Expr.Name "_law_even" _) _ _ _) _) _ _ _)); refine Call_ ?_)
  k_with "mine compareOp In int ref" => (k_here; (with_reducible show wpAny _ _ (compareOp CmpOp.In (Value.int _ _) (Value.ref _)) _ _ _); (with_unfolding_all refine' in_tuple_ints (MineCal.tupIn ?q129kx ?q129kf ?q129ko) ?q129ki ?_; (case q129kx => k_asm); (case q129kf => k_asm); (case q129ko => k_is); (case q129ki => (repeat constructor)); k_whole))
  k_with "mine subscriptTail Call Name cons nil Constant ref int" => (k_here; k_dflt (refine kba_turn (value' := PySem.Expr.Name (PySem.Str.ofString "_") ⟨0, 0, 0, 0⟩) (fun _ => rfl) ?_))
  k_with "mine execs nil" => (refine wpAny_execs_nil ?_)
  k_with "mine exec If Compare cons cons" => (refine wpAny_If ?_)
  k_with "mine exec If Name cons cons" => (refine wpAny_If ?_)
  k_with "mine exec If UnaryOp cons nil" => (refine wpAny_If ?_)
  k_with "mine exec If Compare cons nil" => (refine wpAny_If ?_)
  k_with "mine execs cons Assign cons" => ((with_reducible refine MineCal.tok_gen ?_); intro tk9')
  k_with "mine execs cons Assign nil" => ((with_reducible refine MineCal.tok_gen ?_); intro tk9')
  k_with "mine execs cons AugAssign cons" => ((with_reducible refine MineCal.tok_gen ?_); intro tk9')
  k_with "mine execs cons AugAssign nil" => ((with_reducible refine MineCal.tok_gen ?_); intro tk9')
  k_with "mine execs cons If cons" => ((with_reducible refine MineCal.tok_gen ?_); intro tk9')
  k_with "mine execs cons If nil" => ((with_reducible refine MineCal.tok_gen ?_); intro tk9')
  k_with "mine execs cons Return nil" => ((with_reducible refine MineCal.tok_gen ?_); intro tk9')
  k_with "mine execs cons For cons" => ((with_reducible refine MineCal.tok_gen ?_); intro tk9')
  k_with "mine call ref" => ((with_reducible show wpAny _ _ (call (Value.ref 63) _) _ _ _); k_here; k_dflt ((refine' MineCal.isleap_cl _ _ _ _ _ _ _ _ _ _ _ _ _ _ _ _ _ _ _ _ _ _ _ _ ?q144k1 ?q144k2 ?q144k3 ?q144k4 ?q144k5 ?q144k6 ?q144k7 ?q144k8 ?_); (case q144k1 => k_asm); (case q144k2 => k_asm); (case q144k3 => k_asm); (case q144k4 => k_asm); (case q144k5 => k_asm); (case q144k6 => first | exact rfl | assumption); (case q144k7 => first | exact ⟨MineCal.dom_lo _, MineCal.dom_hi _⟩ | (with_reducible first | exact MineCal.KK.pos (by assumption) | exact MineCal.KK.pos' (by assumption) | exact MineCal.KK.rest (by assumption)) | cb_size); (case q144k8 => k_room); intro t9' h9' tk9' F9' N9'; (try dsimp only); (try k_sweep); (try k_fold)))
  k_with "mine call ref" => ((with_reducible show wpAny _ _ (call (Value.ref 78) _) _ _ _); k_here; k_dflt ((refine' MineCal.jdg_cl _ _ _ _ _ _ _ _ _ _ _ _ _ _ _ _ _ _ _ _ _ _ _ _ _ _ _ _ ?q145k1 ?q145k2 ?q145k3 ?q145k4 ?q145k5 ?q145k6 ?q145k7 ?q145k8 ?_); (case q145k1 => k_asm); (case q145k2 => k_asm); (case q145k3 => k_asm); (case q145k4 => k_asm); (case q145k5 => k_asm); (case q145k6 => first | exact rfl | assumption); (case q145k7 => first | exact ⟨MineCal.dom_lo _, MineCal.dom_hi _⟩ | (with_reducible first | exact MineCal.KK.pos (by assumption) | exact MineCal.KK.pos' (by assumption) | exact MineCal.KK.rest (by assumption)) | cb_size); (case q145k8 => k_room); intro t9' h9' tk9' F9' N9'; (try dsimp only); (try k_sweep); (try k_fold)))
  k_with "mine call ref" => ((with_reducible show wpAny _ _ (call (Value.ref 28) _) _ _ _); k_here; k_dflt ((refine' MineCal.jdi_cl _ _ _ _ _ _ _ _ _ _ _ _ _ _ _ _ _ _ _ _ _ _ _ _ _ _ _ _ ?q146k1 ?q146k2 ?q146k3 ?q146k4 ?q146k5 ?q146k6 ?q146k7 ?q146k8 ?_); (case q146k1 => k_asm); (case q146k2 => k_asm); (case q146k3 => k_asm); (case q146k4 => k_asm); (case q146k5 => k_asm); (case q146k6 => first | exact rfl | assumption); (case q146k7 => first | exact ⟨MineCal.dom_lo _, MineCal.dom_hi _⟩ | (with_reducible first | exact MineCal.KK.pos (by assumption) | exact MineCal.KK.pos' (by assumption) | exact MineCal.KK.rest (by assumption)) | cb_size); (case q146k8 => k_room); intro t9' h9' tk9' F9' N9'; (try dsimp only); (try k_sweep); (try k_fold)))
  k_with "mine call ref" => ((with_reducible show wpAny _ _ (call (Value.ref 85) _) _ _ _); k_here; k_dflt ((refine' MineCal.gfrom_cl _ _ _ _ _ _ _ _ _ _ _ _ _ _ _ _ _ _ _ _ _ _ _ _ ?q147k1 ?q147k2 ?q147k3 ?q147k4 ?q147k5 ?q147k6 ?q147k8 ?_); (case q147k1 => k_asm); (case q147k2 => k_asm); (case q147k3 => k_asm); (case q147k4 => k_asm); (case q147k5 => k_asm); (case q147k6 => first | exact rfl | assumption); (case q147k8 => k_room); intro D9' t1' t2' t3' mo' da' c9' h9' tk9' F9' N9'; (try dsimp only); (try k_sweep); (try k_fold)))
  k_with "mine J1" => (k_dflt ((refine' MineCal.J1.at ?q148jF ?q148jN ?q148jm ?q148jo ?q148jR); (case q148jF => k_asm); (case q148jN => k_asm); (case q148jm => rfl); (case q148jo => (repeat (first | (with_reducible exact MineCal.Off.refl) | (refine MineCal.Off.store ?_ (by decide +kernel)) | exact MineCal.Off.refl))); (case q148jR => (first | trivial | ((try dsimp only); done) | ((try dsimp only); (first | rfl | (exact MineCal.yG_a _ (by assumption)) | (exact MineCal.yG_b _ (by assumption)) | (exact MineCal.yG_c _ (by assumption) (by assumption)) | omega | ((repeat' split) <;> (first | rfl | omega | (simp_all)))))))))
  k_with "mine J2" => (k_dflt ((refine' MineCal.J2.at ?q149jF ?q149jN ?q149ja ?q149jb ?q149jo); (case q149jF => k_asm); (case q149jN => k_asm); (case q149ja => rfl); (case q149jb => rfl); (case q149jo => (repeat (first | (with_reducible exact MineCal.Off.refl) | (refine MineCal.Off.store ?_ (by decide +kernel)) | exact MineCal.Off.refl)))))
  k_with "mine J3" => (k_dflt ((refine' MineCal.J3.at ?q150jF ?q150jN ?q150ja ?q150jb ?q150jo ?q150jR); (case q150jF => k_asm); (case q150jN => k_asm); (case q150ja => rfl); (case q150jb => rfl); (case q150jo => (repeat (first | (with_reducible exact MineCal.Off.refl) | (refine MineCal.Off.store ?_ (by decide +kernel)) | exact MineCal.Off.refl))); (case q150jR => (first | exact MineCal.yN_a (by assumption) | exact MineCal.yN_b (by assumption)))))
  k_with "mine exec If Name cons cons" => ((fail_if_success (with_reducible show wpAny _ _ _ (MineCal.J1 _ _ _ _ _ _ _) _ _)); (rename PyProof.Rows.Fr _ _ _ _ => jF); (rename PyProof.Rows.News _ _ _ _ => jN); (k_dflt (refine' MineCal.join1 (PySem.Str.ofString "caitra") (fun _ => True) jF jN ?_ ?_)); rotate_left; (intro jx jt jh jtk jR jF2 jN2); (try dsimp only at jR); (try subst jR); (try k_sweep); (try k_fold); rotate_left)
  k_with "mine exec If Compare cons nil" => ((fail_if_success (with_reducible show wpAny _ _ _ (MineCal.J3 _ _ _ _ _ _ _ _) _ _)); (with_reducible show wpAny _ _ (exec (PySem.Stmt.If (PySem.Expr.Compare (PySem.Expr.Name "yday" _) [PySem.CmpOp.Lt] _ _) _ _ _) _) _ _ _); (rename PyProof.Rows.Fr _ _ _ _ => jF); (rename PyProof.Rows.News _ _ _ _ => jN); (k_dflt (refine' MineCal.join3 (PySem.Str.ofString "year") (PySem.Str.ofString "yday") (fun x => x = MineCal.yN n) jF jN ?_ ?_)); rotate_left; (intro jx jy jt ju jh jtk jR jF2 jN2); (try dsimp only at jR); (try k_sweep); (try k_fold); rotate_left; (refine wpAny_If ?_); (try k_fold))
  k_with "mine exec If Compare cons cons" => ((fail_if_success (with_reducible show wpAny _ _ _ (MineCal.J2 _ _ _ _ _ _ _ _) _ _)); (with_reducible show wpAny _ _ (exec (PySem.Stmt.If (PySem.Expr.Compare (PySem.Expr.Name "yday" _) [PySem.CmpOp.Lt] _ _) _ _ _) _) _ _ _); (rename PyProof.Rows.Fr _ _ _ _ => jF); (rename PyProof.Rows.News _ _ _ _ => jN); (k_dflt (refine' MineCal.join2 (PySem.Str.ofString "month") (PySem.Str.ofString "day") [PySem.Str.ofString "mday"] jF jN ?_ ?_)); rotate_left; (intro jx jy jt ju jr jh jtk jF2 jN2); (try k_sweep); (try k_fold); rotate_left; (refine wpAny_If ?_); (try k_fold))
  k_with "tree" => simp only [MineCal.year, MineCal.yJ, MineCal.yC, MineCal.yI, MineCal.yG, MineCal.yN]
  k_with "tree" => (simp only [MineCal.year, MineCal.yJ, MineCal.yC, MineCal.yI, MineCal.yG, MineCal.yN]; law_fm; done)
  k_fill
  intros
  rename_i hret
  refine wpAny_call ?_
  k_dflt cell_enter
  k_steps
  all_goals (refine cb_retI (Q := _) hret ?_ (by k_asm) (by first | k_asm | exact cb_drop (by assumption) (fun p hp => by first | exact hp | exact List.mem_cons_of_mem _ hp | exact List.mem_cons_of_mem _ (List.mem_cons_of_mem _ hp))))
  all_goals first
    | exact MineCal.yr1 (by assumption)
    | exact MineCal.yr2 (by assumption)
    | exact MineCal.yr3 (by assumption)
    | exact MineCal.yr0 (by assumption) (MineCal.yJ_a (by assumption))
    | exact MineCal.yr0 (by assumption) (MineCal.yJ_b (by assumption))
    | exact MineCal.yr4 (by assumption) (by assumption) (by assumption) (by assumption) (by assumption)
set_option maxRecDepth 100000 in
set_option maxHeartbeats 8000000 in
theorem PySem.Challenge.cw_ah0017_01_holds : PySem.Challenge.rw_ah0017_01.Holds := by
  k_with_none
  k_with "mine eval Call Name cons nil" => (k_here; (first | (with_reducible show wpAny _ _ (eval (Expr.Call (Expr.Name "isleap" _) _ _ _) _) _ _ _) | (with_reducible show wpAny _ _ (eval (Expr.Call (Expr.Name "leap_julian" _) _ _ _) _) _ _ _) | (with_reducible show wpAny _ _ (eval (Expr.Call (Expr.Name "is_leap" _) _ _ _) _) _ _ _) | (with_reducible show wpAny _ _ (eval (Expr.Call (Expr.Name "leap_islamic" _) _ _ _) _) _ _ _) | (with_reducible show wpAny _ _ (eval (Expr.Call (Expr.Name "month_length" _) _ _ _) _) _ _ _) | (with_reducible show wpAny _ _ (eval (Expr.Call (Expr.Name "legal_date_julian" _) _ _ _) _) _ _ _) | (with_reducible show wpAny _ _ (eval (Expr.Call (Expr.Name "legal_date_gregorian" _) _ _ _) _) _ _ _) | (with_reducible show wpAny _ _ (eval (Expr.Call (Expr.Name "to_jd_julian" _) _ _ _) _) _ _ _) | (with_reducible show wpAny _ _ (eval (Expr.Call (Expr.Name "to_jd_coptic" _) _ _ _) _) _ _ _) | (with_reducible show wpAny _ _ (eval (Expr.Call (Expr.Name "to_jd_islamic" _) _ _ _) _) _ _ _) | (with_reducible show wpAny _ _ (eval (Expr.Call (Expr.Name "to_jd_gregorian" _) _ _ _) _) _ _ _) | (with_reducible show wpAny _ _ (eval (Expr.Call (Expr.Name "to_jd_indian_civil" _) _ _ _) _) _ _ _) | (with_reducible show wpAny _ _ (eval (Expr.Call (Expr.Name "from_jd_julian" _) _ _ _) _) _ _ _) | (with_reducible show wpAny _ _ (eval (Expr.Call (Expr.Name "from_jd_coptic" _) _ _ _) _) _ _ _) | (with_reducible show wpAny _ _ (eval (Expr.Call (Expr.Name "from_jd_islamic" _) _ _ _) _) _ _ _) | (with_reducible show wpAny _ _ (eval (Expr.Call (Expr.Name "from_jd_gregorian" _) _ _ _) _) _ _ _) | (with_reducible show wpAny _ _ (eval (Expr.Call (Expr.Name "from_jd_indian_civil" _) _ _ _) _) _ _ _) | (with_reducible show wpAny _ _ (eval (Expr.Call (Expr.Name "_law_day" _) _ _ _) _) _ _ _) | (with_reducible show wpAny _ _ (eval (Expr.Call (Expr.Name "_law_year" _) _ _ _) _) _ _ _) | (with_reducible show wpAny _ _ (eval (Expr.Call (Expr.Name "_law_long" _) _ _ _) _) _ _ _) | (with_reducible show wpAny _ _ (eval (Expr.Call (Expr.Name "_law_even" _) _ _ _) _) _ _ _)); refine Call_ ?_)
  k_with "mine compareOp In int ref" => (k_here; (with_reducible show wpAny _ _ (compareOp CmpOp.In (Value.int _ _) (Value.ref _)) _ _ _); (with_unfolding_all refine' in_tuple_ints (MineCal.tupIn ?q155kx ?q155kf ?q155ko) ?q155ki ?_; (case q155kx => k_asm); (case q155kf => k_asm); (case q155ko => k_is); (case q155ki => (repeat constructor)); k_whole))
  k_with "mine subscriptTail Call Name cons nil Constant ref int" => (k_here; k_dflt (refine kba_turn (value' := PySem.Expr.Name (PySem.Str.ofString "_") ⟨0, 0, 0, 0⟩) (fun _ => rfl) ?_))
  k_with "mine execs cons Assign cons" => ((with_reducible refine MineCal.tok_gen ?_); intro tk9')
  k_with "mine execs cons Assign nil" => ((with_reducible refine MineCal.tok_gen ?_); intro tk9')
  k_with "mine execs cons AugAssign cons" => ((with_reducible refine MineCal.tok_gen ?_); intro tk9')
  k_with "mine execs cons AugAssign nil" => ((with_reducible refine MineCal.tok_gen ?_); intro tk9')
  k_with "mine execs cons If cons" => ((with_reducible refine MineCal.tok_gen ?_); intro tk9')
  k_with "mine execs cons If nil" => ((with_reducible refine MineCal.tok_gen ?_); intro tk9')
  k_with "mine execs cons Return nil" => ((with_reducible refine MineCal.tok_gen ?_); intro tk9')
  k_with "mine execs cons For cons" => ((with_reducible refine MineCal.tok_gen ?_); intro tk9')
  k_with "mine call ref" => ((with_reducible show wpAny _ _ (call (Value.ref 28) _) _ _ _); k_here; k_dflt ((refine' MineCal.jdi_cl _ _ _ _ _ _ _ _ _ _ _ _ _ _ _ _ _ _ _ _ _ _ _ _ _ _ _ _ ?q165k1 ?q165k2 ?q165k3 ?q165k4 ?q165k5 ?q165k6 ?q165k7 ?q165k8 ?_); (case q165k1 => k_asm); (case q165k2 => k_asm); (case q165k3 => k_asm); (case q165k4 => k_asm); (case q165k5 => k_asm); (case q165k6 => first | exact rfl | assumption); (case q165k7 => first | exact ⟨MineCal.dom_lo _, MineCal.dom_hi _⟩ | (with_reducible first | exact MineCal.KK.pos (by assumption) | exact MineCal.KK.pos' (by assumption) | exact MineCal.KK.rest (by assumption)) | cb_size); (case q165k8 => k_room); intro t9' h9' tk9' F9' N9'; (try dsimp only); (try k_sweep); (try k_fold)))
  k_with "mine call ref" => ((with_reducible show wpAny _ _ (call (Value.ref 156) _) _ _ _); k_here; k_dflt ((refine' MineCal.day_cl _ _ _ _ _ _ _ _ _ _ _ _ _ _ _ _ _ _ _ _ _ _ _ _ _ _ _ _ _ _ ?q166k1 ?q166k2 ?q166k3 ?q166k4 ?q166k5 ?q166k6 ?q166k7 ?q166k8 ?_); (case q166k1 => k_asm); (case q166k2 => k_asm); (case q166k3 => k_asm); (case q166k4 => k_asm); (case q166k5 => k_asm); (case q166k6 => first | exact rfl | assumption); (case q166k7 => first | exact ⟨MineCal.dom_lo _, MineCal.dom_hi _⟩ | (with_reducible first | exact MineCal.KK.pos (by assumption) | exact MineCal.KK.pos' (by assumption) | exact MineCal.KK.rest (by assumption)) | cb_size); (case q166k8 => k_room); intro t9' h9' tk9' F9' N9'; (try dsimp only); (try k_sweep); (try k_fold)))
  k_with "mine call ref" => ((with_reducible show wpAny _ _ (call (Value.ref 170) _) _ _ _); k_here; k_dflt ((refine' MineCal.long_cl _ _ _ _ _ _ _ _ _ _ _ _ _ _ _ _ _ _ _ _ _ _ _ _ _ _ ?q167k1 ?q167k2 ?q167k3 ?q167k4 ?q167k5 ?q167k6 ?q167k7 ?q167k8 ?_); (case q167k1 => k_asm); (case q167k2 => k_asm); (case q167k3 => k_asm); (case q167k4 => k_asm); (case q167k5 => k_asm); (case q167k6 => first | exact rfl | assumption); (case q167k7 => first | exact ⟨MineCal.dom_lo _, MineCal.dom_hi _⟩ | (with_reducible first | exact MineCal.KK.pos (by assumption) | exact MineCal.KK.pos' (by assumption) | exact MineCal.KK.rest (by assumption)) | cb_size); (case q167k8 => k_room); intro t9' h9' tk9' F9' N9'; (try dsimp only); (try k_sweep); (try k_fold)))
  k_with "mine call ref" => ((with_reducible show wpAny _ _ (call (Value.ref 177) _) _ _ _); k_here; k_dflt ((refine' MineCal.even_cl _ _ _ _ _ _ _ _ _ _ _ _ _ _ _ _ _ _ _ _ _ _ _ _ _ _ _ _ _ _ ?q168k1 ?q168k2 ?q168k3 ?q168k4 ?q168k5 ?q168k6 ?q168k7 ?q168k8 ?_); (case q168k1 => k_asm); (case q168k2 => k_asm); (case q168k3 => k_asm); (case q168k4 => k_asm); (case q168k5 => k_asm); (case q168k6 => first | exact rfl | assumption); (case q168k7 => first | exact ⟨MineCal.dom_lo _, MineCal.dom_hi _⟩ | (with_reducible first | exact MineCal.KK.pos (by assumption) | exact MineCal.KK.pos' (by assumption) | exact MineCal.KK.rest (by assumption)) | cb_size); (case q168k8 => k_room); intro t9' h9' tk9' F9' N9'; (try dsimp only); (try k_sweep); (try k_fold)))
  k_with "mine call ref" => ((with_reducible show wpAny _ _ (call (Value.ref 163) _) _ _ _); k_here; k_dflt ((refine' MineCal.year_cl _ _ _ _ _ _ _ _ _ _ _ _ _ _ _ _ _ _ _ _ _ _ _ _ _ _ ?q169k1 ?q169k2 ?q169k3 ?q169k4 ?q169k5 ?q169k6 ?q169k7 ?q169k8 ?_); (case q169k1 => k_asm); (case q169k2 => k_asm); (case q169k3 => k_asm); (case q169k4 => k_asm); (case q169k5 => k_asm); (case q169k6 => first | exact rfl | assumption); (case q169k7 => first | exact ⟨MineCal.dom_lo _, MineCal.dom_hi _⟩ | (with_reducible first | exact MineCal.KK.pos (by assumption) | exact MineCal.KK.pos' (by assumption) | exact MineCal.KK.rest (by assumption)) | cb_size); (case q169k8 => k_room); intro t9' h9' tk9' F9' N9'; (try dsimp only); (try k_sweep); (try k_fold)))
  k_with "mine subscriptTail Call Name nil nil Slice ref ref" => (k_here; k_dflt (refine kba_turn (value' := PySem.Expr.Name (PySem.Str.ofString "_") ⟨0, 0, 0, 0⟩) (fun _ => rfl) ?_))
  k_with "mine subscriptTail Name Slice ref ref" => ((with_reducible show wpAny _ _ (subscriptTail _ (PySem.Expr.Slice (some _) none none _) (Value.ref _) (Value.ref _)) _ _ _); k_here; (k_dflt (refine' kmk_slice_ints ?q171F ?q171N ?q171l ?q171p ?q171q ?q171i ?q171m ?q171c ?_ ?q171s ?q171t ?q171z; (case q171F => k_asm); (case q171N => k_asm); (case q171l => kmk_list); (case q171p => kmk_part); (case q171q => kmk_part); (case q171i => l_ints); (case q171m => exact kmk_from (by l_ints) (Int.natCast_nonneg _)); (case q171c => exact List.length_drop ..); (case q171s => with_unfolding_all rfl); (case q171t => kmk_pure); (case q171z => kmk_size))); intro D' ws' h' F' N' l1 hI' hC' hL'; (try k_lt l1); (try k_sweep))
  k_with "mine exec For Name Call cons nil" => (k_here; (rename Fr _ _ _ _ => lF'); (with_unfolding_all refine' For_turns lF' ?_; k_whole))
  k_with "mine exec For Name Name cons nil" => (k_here; (rename Fr _ _ _ _ => lF'); (with_unfolding_all refine' For_turns lF' ?_; k_whole))
  k_with "mine exec For Name List cons nil" => (k_here; (rename Fr _ _ _ _ => lF'); (with_unfolding_all refine' For_turns lF' ?_; k_whole))
  k_with "mine pyIter ref" => (k_here; (with_reducible show wpAny _ _ (pyIter (Value.ref _)) (fun it s₂ => TurnsAt _ _ _ _ _ (PySem.Expr.Name "count" _) _ _ _ it s₂) _ _); (rename Fr _ _ _ _ => lF'); (rename News _ _ _ _ => lN'); (with_unfolding_all refine' MineCal.ints_over [PySem.Str.ofString "count", PySem.Str.ofString "told", PySem.Str.ofString "months", PySem.Str.ofString "gap", PySem.Str.ofString "turn"] (by rfl) lF' lN' (by k_mem) (by rfl) (by rfl) ?q175hv ?_ ?_); (case q175hv => (intro v hv; simp only [List.mem_cons, List.not_mem_nil, or_false] at hv; rcases hv with rfl | rfl <;> exact ⟨_, _, rfl⟩)); (all_goals first | ((intro I' l1 c' t'; unfold MineCal.TurnO; intro r' o' h' tk' it' hT' hit' F' N'); clear hT'; (try dsimp only at N'); (try k_lt l1)) | (intro r' h' tk' F' N')))
  k_with "mine pyIter ref" => (k_here; (with_reducible show wpAny _ _ (pyIter (Value.ref _)) (fun it s₂ => TurnsAt _ _ _ _ _ (PySem.Expr.Name "kind" _) _ _ _ it s₂) _ _); (rename Fr _ _ _ _ => lF'); (rename News _ _ _ _ => lN'); (rename PySem.Obj.data _ = _ => zR'); (with_unfolding_all refine' MineCal.wides_over [PySem.Str.ofString "here", PySem.Str.ofString "ahead", PySem.Str.ofString "count", PySem.Str.ofString "told", PySem.Str.ofString "months", PySem.Str.ofString "gap", PySem.Str.ofString "turn"] zR' ?q176zC ?q176zU (by rfl) lF' lN' (by k_mem) (by rfl) (by rfl) ?_ ?_); (case q176zC => k_dflt k_mem); (case q176zU => k_dflt k_updF); (all_goals first | ((intro I' l1 k' t' hk'; unfold MineCal.TurnO; intro r' o' h' tk' it' hT' hit' F' N'); (obtain ⟨v', d'⟩ := hT'); (try dsimp only at N'); (try k_lt l1)) | ((intro r' o' h' tk' hT' F' N'); (obtain ⟨v', d'⟩ := hT'); (try dsimp only at N'))))
  k_with "mine pyIter ref" => (k_here; (with_reducible show wpAny _ _ (pyIter (Value.ref _)) (fun it s₂ => TurnsAt _ _ _ _ _ (PySem.Expr.Name "kind" _) _ _ _ it s₂) _ _); (rename Fr _ _ _ _ => lF'); (rename News _ _ _ _ => lN'); (rename IsRange _ _ _ _ _ _ _ _ => lR'); (rename PySem.Obj.data _ = PySem.Data.cell (bindC _ _ _ _) => zR0'); clear zR0'; (rename PySem.Obj.data _ = PySem.Data.cell (bindC _ _ _ _) => zR'); (with_unfolding_all refine' MineCal.kinds_over [PySem.Str.ofString "part", PySem.Str.ofString "whole", PySem.Str.ofString "here", PySem.Str.ofString "count", PySem.Str.ofString "told", PySem.Str.ofString "months", PySem.Str.ofString "gap", PySem.Str.ofString "turn", PySem.Str.ofString "called", PySem.Str.ofString "plain"] zR' ?q177zC ?q177zU (by rfl) lR' lF' lN' ?_ ?_); (case q177zC => k_dflt k_mem); (case q177zU => k_dflt k_updF); (all_goals first | ((intro I' l1 k' t' hk'; unfold MineCal.TurnO; intro r' o' h' tk' it' hT' hit' F' N'); (obtain ⟨v', d'⟩ := hT'); (try dsimp only at N'); (try k_lt l1)) | ((intro r' o' h' tk' hT' F' N'); (obtain ⟨v', d'⟩ := hT'); (try dsimp only at N'))))
  k_with "mine exec Assign cons Subscript" => ((fail_if_success (with_reducible show wpAny _ _ _ (MineCal.JK _ _ _ _ _ _ _ _) _ _)); (rename MineCal.K3 _ => hk'); (rename PyProof.Rows.Fr _ _ _ _ => jF); (rename PyProof.Rows.News _ _ _ _ => jN); (k_dflt (refine' MineCal.joinK (PySem.Str.ofString "part") (PySem.Str.ofString "whole") hk' jF jN ?_ ?_)); rotate_left; (intro jx jy jt ju jh jtk jK jne jlo jhi jF2 jN2); (try k_sweep); (try k_fold); rotate_left)
  k_with "mine JK" => (k_dflt ((refine' MineCal.JK.at ?q179jF ?q179jN ?q179ja ?q179jb ?q179jo ?q179jg); (case q179jF => k_asm); (case q179jN => exact cb_drop (by assumption) (fun p hp => by (repeat (first | (with_reducible exact hp) | (refine List.mem_cons_of_mem _ ?_))))); (case q179ja => rfl); (case q179jb => rfl); (case q179jo => (repeat (first | (with_reducible exact MineCal.Off.refl) | (refine MineCal.Off.store ?_ (by decide +kernel)) | exact MineCal.Off.refl))); (case q179jg => first | exact MineCal.KK.k0 | exact MineCal.KK.k1 | exact MineCal.KK.k2)))
  k_with "mine subscriptTail Call Name nil nil Name ref int" => ((rename MineCal.K3 _ => hk'); (k_dflt (refine kba_turn (value' := PySem.Expr.Name (PySem.Str.ofString "_") ⟨0, 0, 0, 0⟩) (fun _ => rfl) ?_)); ((rcases hk' with hz | hz | hz) <;> subst hz))
  k_with "mine eval IfExp Compare Constant Constant" => ((fail_if_success (with_reducible show wpAny _ _ _ (MineCal.JW _ _ _ _ _ _) _ _)); (rename MineCal.K34 _ => hk'); (rename PyProof.Rows.Fr _ _ _ _ => jF); (rename PyProof.Rows.News _ _ _ _ => jN); (k_dflt (refine' MineCal.joinW hk' jF jN ?_ ?_)); rotate_left; (intro jx jt jh jtk jK jF2 jN2); (try k_sweep); (try k_fold); rotate_left)
  k_with "mine JW" => (k_dflt ((refine' MineCal.JW.at ?q182jF ?q182jN ?q182jg); (case q182jF => k_asm); (case q182jN => k_asm); (case q182jg => first | exact MineCal.WW.k3 (by assumption) (by assumption) | exact MineCal.WW.k4 (by assumption) (by assumption))))
  k_with "mine OverEnd" => first
      | (refine MineCal.OverEnd.ret ?_)
      | (k_dflt ((rename News _ _ _ _ => zN'); (first | (refine' MineCal.OverEnd.tail [] ?q183zF zN' ?q183zS ?q183zR ?q183zO; (case q183zS => rfl)) | (refine' MineCal.OverEnd.tail [_] ?q183zF zN' ?q183zS ?q183zR ?q183zO; (case q183zS => rfl))  | (refine' MineCal.OverEnd.tail [_, _] ?q183zF zN' ?q183zS ?q183zR ?q183zO; (case q183zS => rfl))  | (refine' MineCal.OverEnd.tail [_, _, _] ?q183zF zN' ?q183zS ?q183zR ?q183zO; (case q183zS => rfl))  | (refine' MineCal.OverEnd.tail [_, _, _, _] ?q183zF zN' ?q183zS ?q183zR ?q183zO; (case q183zS => rfl))  | (refine' MineCal.OverEnd.tail [_, _, _, _, _] ?q183zF zN' ?q183zS ?q183zR ?q183zO; (case q183zS => rfl))  | (refine' MineCal.OverEnd.tail [_, _, _, _, _, _] ?q183zF zN' ?q183zS ?q183zR ?q183zO; (case q183zS => rfl))  | (refine' MineCal.OverEnd.tail [_, _, _, _, _, _, _] ?q183zF zN' ?q183zS ?q183zR ?q183zO; (case q183zS => rfl))  | (refine' MineCal.OverEnd.tail [_, _, _, _, _, _, _, _] ?q183zF zN' ?q183zS ?q183zR ?q183zO; (case q183zS => rfl)) ); (case q183zF => assumption); (case q183zR => first | trivial | exact ⟨_, by assumption⟩); (case q183zO => (repeat (first | (with_reducible exact MineCal.ovr_off _ _ _) | (with_reducible refine MineCal.Off.over ?_ (by decide +kernel)) | (with_reducible refine MineCal.Off.store ?_ (by decide +kernel)) | (with_reducible exact MineCal.Off.refl) | (refine MineCal.Off.store ?_ (by decide +kernel)))))))
  k_with "mine eval Name" => (k_here; k_dflt (refine' nameX_L ?q184F ?q184v ?_ ?q184a ?q184b; (case q184F => k_asm); (case q184a => rfl); (case q184b => rfl); (case q184v => rfl); k_whole))
  k_with "mine eval Name" => ((first | (with_reducible show wpAny _ _ (eval (Expr.Name "year" _) _) _ _ _) | (with_reducible show wpAny _ _ (eval (Expr.Name "kind" _) _) _ _ _)); k_here; k_dflt (refine' nameX_C ?q185N ?q185c ?q185m ?q185d ?_ ?q185a ?q185b; (case q185a => rfl); (case q185b => rfl); (case q185N => k_asm); (case q185c => rfl); (case q185m => k_mem); (case q185d => k_asm); k_whole))
  k_with "mine eval Name" => ((first | (with_reducible show wpAny _ _ (eval (Expr.Name "_law_day" _) _) _ _ _) | (with_reducible show wpAny _ _ (eval (Expr.Name "_law_even" _) _) _ _ _) | (with_reducible show wpAny _ _ (eval (Expr.Name "_law_year" _) _) _ _ _) | (with_reducible show wpAny _ _ (eval (Expr.Name "_law_long" _) _) _ _ _) | (with_reducible show wpAny _ _ (eval (Expr.Name "_law_means" _) _) _ _ _) | (with_reducible show wpAny _ _ (eval (Expr.Name "to_jd_islamic" _) _) _ _ _)); k_here; k_dflt (refine' nameX_K ?q186F ?q186X ?q186T ?q186e ?_ ?q186a ?q186b; (case q186F => k_asm); (case q186X => k_asm); (case q186T => k_asm); (case q186a => rfl); (case q186b => rfl); (case q186e => k_is); k_whole))
  k_with "mine eval Name" => ((with_reducible show wpAny _ _ (eval (Expr.Name "place" _) (compEnvC _ _ _ _)) _ _ _); k_here; k_dflt (refine LCgL.ld_own (by k_asm) (by k_mem) (by assumption) (by assumption) ?_))
  k_with "mine eval Name" => ((with_reducible show wpAny _ _ (eval (Expr.Name "_law_long" _) (compEnvC _ _ _ _)) _ _ _); k_here; k_dflt (refine LCgL.ld_global (by k_asm) (by k_asm) (by k_asm) (by k_is) ?_))
  k_with "mine eval Name" => ((first | (with_reducible show wpAny _ _ (eval (Expr.Name "year" _) (compEnvC _ _ _ _)) _ _ _) | (with_reducible show wpAny _ _ (eval (Expr.Name "kind" _) (compEnvC _ _ _ _)) _ _ _)); k_here; k_dflt (refine kcf_cell (by k_asm) (by rfl) (by k_mem) (by k_asm) ?_))
  k_with "mine execs nil" => (refine wpAny_execs_nil ?_)
  k_with "mine CompSrcT" => (k_here; (try k_fmods); k_dflt (refine LCt.CompSrcT.range (by rfl) (by k_asm) (by k_asm) (by assumption) (by first | decide | exact small_one (by l_bnd) (by l_bnd) (by l_bnd) (by l_bnd)) (by first | exact rangeSize_nat _ _ | rfl) (by first | exact Nat.le_of_ble_eq_true rfl | (rw [PySem.sizeLine_eq]; first | omega | ((have hb9 := len_ints_list (by lay_of)); omega)) | size_fits) ?_; intro g'; (refine' kci_range (MineCal.gl _ _) (fun k' t' I' oI' C' oC' D' m' ys' l' h' tk' E' hlo' hhi' hI' hC' hx' F' N' off' ne' => ?_) ?_ (MineCal.gl_grows _ _)); (all_goals (try (simp only [LCg.Off3, and_true] at off'))); (all_goals (try ((show KPfMark → _); intro hMark'))); kcf_last))
  k_with "mine KCiEl" => (k_dflt (refine kci_el (MineCal.gl_pos (by assumption)) (by with_unfolding_all rfl) (by with_unfolding_all rfl)))
  k_with "mine KCiNo" => (k_dflt (refine kci_no (MineCal.gl_neg (by first | assumption | exact Bool.eq_false_iff.mpr (by assumption))) (by with_unfolding_all rfl)))
  k_with "mine exec If UnaryOp cons nil" => (refine wpAny_If ?_)
  k_with "mine eval Call Name cons nil" => (k_here; (first | (with_reducible show wpAny _ _ (eval (Expr.Call (Expr.Name "_law_day" _) _ _ _) _) _ _ _) | (with_reducible show wpAny _ _ (eval (Expr.Call (Expr.Name "_law_even" _) _ _ _) _) _ _ _) | (with_reducible show wpAny _ _ (eval (Expr.Call (Expr.Name "_law_year" _) _ _ _) _) _ _ _) | (with_reducible show wpAny _ _ (eval (Expr.Call (Expr.Name "_law_long" _) _ _ _) _) _ _ _) | (with_reducible show wpAny _ _ (eval (Expr.Call (Expr.Name "to_jd_islamic" _) _ _ _) _) _ _ _)); refine Call_ ?_)
  k_with "mine callWith ref" => (k_here; k_dflt (first
      | (refine' callWith_K ?q196k1 ?q196k2 ?_; (case q196k1 => k_asm); (case q196k2 => k_is); k_whole)
      | (refine' callWith_K0 (Frag.In.keeps ?q196k1 (Fr.keep ?q196k3)) ?q196k2 ?_; (case q196k1 => k_asm); (case q196k3 => k_asm); (case q196k2 => k_is); k_whole)))
  k_with "mine call ref nil" => (k_here; k_dflt (refine wpAny_call ?_; k_enter))
  k_with "mine ite" => ((k_dflt (refine MineCal.ite_no (MineCal.ne_no ?_) ?_)); focus (with_reducible (first | exact MineCal.KK.called (by assumption) _ _ | exact MineCal.isl_a _ _ | exact MineCal.isl_b _ _ | exact MineCal.WW.one (by assumption) _ | exact MineCal.WW.two (by assumption) _)))
  k_with "mine ite" => ((with_reducible refine MineCal.ite_yes (decide_eq_true ?_) ?_); focus (with_reducible (first | exact MineCal.KK.lo (by assumption) _ | exact MineCal.KK.hi (by assumption) _ | exact MineCal.WW.lo (by assumption) _ | exact MineCal.WW.hi (by assumption) _ | exact MineCal.isl_lo _ _ _ _ | exact MineCal.isl_hi _ _ _ _ | exact MineCal.WW.gap_lo (by assumption) _ _ _ _ | exact MineCal.WW.gap_hi (by assumption) _ _ _ _ | exact MineCal.WW.grow_lo (by assumption) _ _ _ | exact MineCal.WW.grow_hi (by assumption) _ _ _)))
  k_with "mine ite" => ((with_reducible refine MineCal.ite_no (MineCal.nb (decide_eq_true ?_)) ?_); focus (with_reducible (first | exact MineCal.KK.lo (by assumption) _ | exact MineCal.KK.hi (by assumption) _ | exact MineCal.WW.lo (by assumption) _ | exact MineCal.WW.hi (by assumption) _ | exact MineCal.isl_lo _ _ _ _ | exact MineCal.isl_hi _ _ _ _ | exact MineCal.WW.gap_lo (by assumption) _ _ _ _ | exact MineCal.WW.gap_hi (by assumption) _ _ _ _ | exact MineCal.WW.grow_lo (by assumption) _ _ _ | exact MineCal.WW.grow_hi (by assumption) _ _ _)))
  k_with "mine ite" => ((with_reducible refine MineCal.ite_no (MineCal.nb ?_) ?_); focus (with_reducible (first | exact MineCal.KK.same (by assumption) _ _ _ _ | exact MineCal.KK.told (by assumption) _ _ _ | exact MineCal.KK.spread (by assumption) _ _)))
  k_with "mine CompEnd" => (refine LCg.CompEnd.intro (by assumption) (by assumption) _ (fun _ hp => hp) (by first | assumption | (simp only [LCg.Off3, and_true]; assumption)) (by first | lcg_src | assumption) ?_)
  exact MineCal.hd (by k_go)
