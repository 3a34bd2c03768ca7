import PyProof.Rows.All
import Wide.All
import OpenK.AllK
import Wide.FinOn
import PySem.Challenge.RW_ja0017_01
open PySem PySem.W PySem.Calls PyProof.Rows
set_option Elab.async false
set_option linter.all false
set_option maxRecDepth 100000
set_option maxHeartbeats 8000000
namespace Mine
open_top hd for PySem.Challenge.rw_ja0017_01
def leap (y : Int) : Bool := decide (y % 4 = 0 ∧ (y % 100 ≠ 0 ∨ y % 400 = 0))
def jan (y : Int) : Int := 365 * (y - 1) + (y - 1) / 4 - (y - 1) / 100 + (y - 1) / 400 + 1721426
def yearOf (n : Int) : Int := if -1000000 < n ∧ n < 1000000 then 1970 + n else if 0 < n then n % 1000000000000000000 else -(-n % 1000000000000000000)
def lpB (b : Bool) : Int := if b = true then 1 else 0
def dimB (b : Bool) (m : Int) : Int := if m = 2 then 28 + lpB b else if m = 4 ∨ m = 6 ∨ m = 9 ∨ m = 11 then 30 else 31
def cumB (b : Bool) (m : Int) : Int := (367 * m - 362) / 12 + (if m ≤ 2 then 0 else lpB b - 2)
def adjB (b : Bool) (n : Int) : Int := if n < 58 + lpB b then 0 else if b = true then 1 else 2
def monB (b : Bool) (n : Int) : Int := ((n + adjB b n) * 12 + 373) / 367
def lp (y : Int) : Int := lpB (leap y)
def dim (y m : Int) : Int := dimB (leap y) m
def cum (y m : Int) : Int := cumB (leap y) m
def adj (y n : Int) : Int := adjB (leap y) n
/-- the sizes of the months, as the law lists them -/
def sizes (b : Bool) : List Int := [31, if b = true then 29 else 28, 31, 30, 31, 30, 31, 31, 30, 31, 30, 31]
/-- what the law's walk over the sizes reckons -/
def scan : List Int → Int → Int → Int × Int
  | [], x, k => (x, k)
  | n :: r, x, k => if x < n then (x, k) else scan r (x - n) (k + 1)

theorem lp_bound (y : Int) : 0 ≤ lp y ∧ lp y ≤ 1 := by unfold lp; cases leap y <;> decide
theorem lp_t {y : Int} (h : leap y = true) : lp y = 1 := by unfold lp; rw [h]; rfl
theorem lp_f {y : Int} (h : leap y = false) : lp y = 0 := by unfold lp; rw [h]; rfl
theorem dim_bound (y m : Int) : 28 ≤ dim y m ∧ dim y m ≤ 31 := by
  unfold dim dimB
  cases leap y <;> (repeat' split) <;> decide
def ladj (y m : Int) : Int := if m ≤ 2 then 0 else lp y - 2
theorem cum_adj (y m : Int) : cum y m = (367 * m - 362) / 12 + ladj y m := rfl
theorem ladj_le {y m : Int} (h : m ≤ 2) : 0 = ladj y m := by unfold ladj; rw [if_pos h]
theorem ladj_t {y m : Int} (h : ¬ m ≤ 2) (hl : leap y = true) : -1 = ladj y m := by unfold ladj; rw [if_neg h, lp_t hl]; rfl
theorem ladj_f {y m : Int} (h : ¬ m ≤ 2) (hl : leap y = false) : -2 = ladj y m := by unfold ladj; rw [if_neg h, lp_f hl]; rfl
theorem dim_2t {y m : Int} (h : m = 2) (hl : leap y = true) : 29 = dim y m := by unfold dim; rw [hl, h]; rfl
theorem dim_2f {y m : Int} (h : m = 2) (hl : leap y = false) : 28 = dim y m := by unfold dim; rw [hl, h]; rfl
theorem dim_30 {y m : Int} (h : m ≠ 2) (h4 : ([4, 6, 9, 11] : List Int).any (· == m) = true) : 30 = dim y m := by
  unfold dim dimB
  rw [if_neg h, if_pos]
  simp only [List.any_cons, List.any_nil, Bool.or_false, Bool.or_eq_true, beq_iff_eq] at h4
  omega
theorem dim_31 {y m : Int} (h : m ≠ 2) (h4 : ([4, 6, 9, 11] : List Int).any (· == m) = false) : 31 = dim y m := by
  unfold dim dimB
  rw [if_neg h, if_neg]
  intro h5
  simp only [List.any_cons, List.any_nil, Bool.or_false, Bool.or_eq_false_iff, beq_eq_false_iff_ne] at h4
  omega
/-- every month, every day of a year, looked through -/
def monthFits (b : Bool) (n : Nat) : Bool := decide (1 ≤ monB b n ∧ monB b n ≤ 12 ∧ cumB b (monB b n) ≤ n ∧ n < cumB b (monB b n) + dimB b (monB b n) ∧ scan (sizes b) n 1 = (n - cumB b (monB b n), monB b n))
theorem months_fit : ∀ b : Bool, ∀ n : Nat, n < 365 + (if b = true then 1 else 0) → monthFits b n = true := by decide +kernel
theorem month_ok {b : Bool} {n : Int} (h0 : 0 ≤ n) (h1 : n < 365 + lpB b) : 1 ≤ monB b n ∧ monB b n ≤ 12 ∧ cumB b (monB b n) ≤ n ∧ n < cumB b (monB b n) + dimB b (monB b n) ∧ scan (sizes b) n 1 = (n - cumB b (monB b n), monB b n) := by
  obtain ⟨k, rfl⟩ := Int.eq_ofNat_of_zero_le h0
  refine of_decide_eq_true (months_fit b k ?_)
  cases b
  · exact Int.ofNat_lt.mp h1
  · exact Int.ofNat_lt.mp h1
theorem year_fits : ∀ b : Bool, ∀ m : Nat, m < 12 → 0 ≤ cumB b (m + 1) ∧ cumB b (m + 1) + dimB b (m + 1) ≤ 365 + lpB b ∧ (sizes b).getD m 0 = dimB b (m + 1) ∧ ([0, 31, 28, 31, 30, 31, 30, 31, 31, 30, 31, 30, 31] : List Int).getD (m + 1) 0 = dimB b (m + 1) - (if (m : Int) + 1 = 2 then lpB b else 0) := by decide +kernel
theorem year_ok (y : Int) {m : Int} (h : 1 ≤ m ∧ m ≤ 12) : 0 ≤ cum y m ∧ cum y m + dim y m ≤ 365 + lp y ∧ (sizes (leap y)).getD (m - 1).toNat 0 = dim y m ∧ ([0, 31, 28, 31, 30, 31, 30, 31, 31, 30, 31, 30, 31] : List Int).getD m.toNat 0 = dim y m - (if m = 2 then lp y else 0) := by
  obtain ⟨k, hk⟩ := Int.eq_ofNat_of_zero_le (a := m - 1) (by omega)
  obtain rfl : m = (k : Int) + 1 := by omega
  have e1 : ((k : Int) + 1 - 1).toNat = k := by omega
  have e2 : ((k : Int) + 1).toNat = k + 1 := by omega
  rw [e1, e2]
  exact year_fits (leap y) k (by omega)
theorem days_dim (y m : Int) (hm : 1 ≤ m ∧ m ≤ 12) : ([0, 31, 28, 31, 30, 31, 30, 31, 31, 30, 31, 30, 31] : List Int).getD m.toNat 0 = dim y m - (if m = 2 then lp y else 0) := (year_ok y hm).2.2.2
theorem sizes_item (y m : Int) (hm : 1 ≤ m ∧ m ≤ 12) : (sizes (leap y)).getD (m - 1).toNat 0 = dim y m := (year_ok y hm).2.2.1

theorem div4 (p : Int) : (p + 1) / 4 = p / 4 + if (p + 1) % 4 = 0 then 1 else 0 := by split <;> omega
theorem div100 (p : Int) : (p + 1) / 100 = p / 100 + if (p + 1) % 100 = 0 then 1 else 0 := by split <;> omega
theorem div400 (p : Int) : (p + 1) / 400 = p / 400 + if (p + 1) % 400 = 0 then 1 else 0 := by split <;> omega
theorem leap_if (y : Int) : ((if y % 4 = 0 then 1 else 0) - (if y % 100 = 0 then 1 else 0) + (if y % 400 = 0 then 1 else 0) : Int) = lp y := by
  unfold lp leap
  by_cases h4 : y % 4 = 0
  · by_cases h1 : y % 100 = 0
    · by_cases h400 : y % 400 = 0
      · rw [if_pos h4, if_pos h1, if_pos h400, decide_eq_true ⟨h4, .inr h400⟩]; rfl
      · rw [if_pos h4, if_pos h1, if_neg h400, decide_eq_false fun h => h.2.elim (fun h => h h1) h400]; rfl
    · have h400 : y % 400 ≠ 0 := by omega
      rw [if_pos h4, if_neg h1, if_neg h400, decide_eq_true ⟨h4, .inl h1⟩]; rfl
  · have h1 : y % 100 ≠ 0 := by omega
    have h400 : y % 400 ≠ 0 := by omega
    rw [if_neg h4, if_neg h1, if_neg h400, decide_eq_false fun h => h4 h.1]; rfl
theorem jan_next (y : Int) : jan (y + 1) = jan y + 365 + lp y := by
  obtain ⟨p, rfl⟩ : ∃ p, y = p + 1 := ⟨y - 1, by omega⟩
  rw [← leap_if]
  unfold jan
  rw [Int.add_sub_cancel, Int.add_sub_cancel, div4, div100, div400]
  omega
theorem jan_lt {a b : Int} (h : a < b) : jan (a + 1) ≤ jan b := by
  obtain ⟨k, hk⟩ := Int.eq_ofNat_of_zero_le (a := b - (a + 1)) (by omega)
  obtain rfl : b = a + 1 + k := by omega
  clear hk h
  induction k with
  | zero => exact Int.le_of_eq (by rw [show a + 1 + ((0 : Nat) : Int) = a + 1 from Int.add_zero _])
  | succ k ih =>
    have h := jan_next (a + 1 + k)
    have hl := lp_bound (a + 1 + k)
    rw [show a + 1 + ((k + 1 : Nat) : Int) = a + 1 + (k : Int) + 1 by omega]
    omega
theorem jan_uniq {a b x : Int} (h1 : jan a ≤ x) (h2 : x < jan (a + 1)) (h3 : jan b ≤ x) (h4 : x < jan (b + 1)) : a = b := by
  rcases Int.lt_trichotomy a b with h | h | h
  · have := jan_lt h; omega
  · exact h
  · have := jan_lt h; omega
/-- 1 January by the four cycles -/
theorem jan_parts {q c f g : Int} (hc : 0 ≤ c ∧ c ≤ 3) (hf : 0 ≤ f ∧ f ≤ 24) (hg : 0 ≤ g ∧ g ≤ 3) : jan (400 * q + 100 * c + 4 * f + g + 1) = 146097 * q + 36524 * c + 1461 * f + 365 * g + 1721426 := by
  have k1 : (400 * q + 100 * c + 4 * f + g) / 4 = 100 * q + 25 * c + f := by omega
  have k2 : (400 * q + 100 * c + 4 * f + g) / 100 = 4 * q + c := by omega
  have k3 : (400 * q + 100 * c + 4 * f + g) / 400 = q := by omega
  unfold jan
  rw [Int.add_sub_cancel, k1, k2, k3]; omega
theorem lp_parts {q c f : Int} (hc : 0 ≤ c ∧ c ≤ 3) (hf : 0 ≤ f ∧ f ≤ 24) (h : f ≤ 23 ∨ c = 3) : lp (400 * q + 100 * c + 4 * f + 3 + 1) = 1 := by
  refine lp_t (decide_eq_true ⟨by omega, ?_⟩)
  rcases h with h | h
  · exact .inl (by omega)
  · by_cases h' : f = 24
    · exact .inr (by omega)
    · exact .inl (by omega)
theorem gy_parts {j q c f g e : Int} (hc : 0 ≤ c ∧ c ≤ 3) (hf : 0 ≤ f ∧ f ≤ 24) (hg : 0 ≤ g ∧ g ≤ 3) (h0 : 0 ≤ e) (he : e < 365 ∨ (e = 365 ∧ g = 3 ∧ (f ≤ 23 ∨ c = 3))) (hj : j = 146097 * q + 36524 * c + 1461 * f + 365 * g + e + 1721426) :
    jan (400 * q + 100 * c + 4 * f + g + 1) ≤ j ∧ j < jan (400 * q + 100 * c + 4 * f + g + 1 + 1) := by
  have h1 := jan_next (400 * q + 100 * c + 4 * f + g + 1)
  have h2 := jan_parts (q := q) hc hf hg
  have hl := lp_bound (400 * q + 100 * c + 4 * f + g + 1)
  rcases he with he | ⟨rfl, rfl, h⟩
  · omega
  · have := lp_parts (q := q) hc hf h
    omega

/-- the Gregorian year of a day number -/
def gY (j : Int) : Int :=
  let d := j - 1721426
  let q := d / 146097
  let r := d % 146097
  let c := r / 36524
  let r1 := r % 36524
  let f := r1 / 1461
  let r2 := r1 % 1461
  let g := r2 / 365
  if c = 4 ∨ g = 4 then q * 400 + c * 100 + f * 4 + g else q * 400 + c * 100 + f * 4 + g + 1
theorem gY_spec (j : Int) : jan (gY j) ≤ j ∧ j < jan (gY j + 1) := by
  unfold gY
  dsimp only
  generalize hd : j - 1721426 = d
  generalize hq : d / 146097 = q
  generalize hr : d % 146097 = r
  have h1 : j = 146097 * q + r + 1721426 ∧ 0 ≤ r ∧ r < 146097 := by omega
  clear hd hq hr
  generalize hc : r / 36524 = c
  generalize hr1 : r % 36524 = r1
  have h3 : r = 36524 * c + r1 ∧ 0 ≤ r1 ∧ r1 < 36524 ∧ 0 ≤ c ∧ c ≤ 4 := by omega
  clear hc hr1
  generalize hf : r1 / 1461 = f
  generalize hr2 : r1 % 1461 = r2
  have h5 : r1 = 1461 * f + r2 ∧ 0 ≤ r2 ∧ r2 < 1461 ∧ 0 ≤ f ∧ f ≤ 24 := by omega
  clear hf hr2
  generalize hg : r2 / 365 = g
  have h7 : 365 * g ≤ r2 ∧ r2 < 365 * g + 365 ∧ 0 ≤ g ∧ g ≤ 4 := by omega
  clear hg
  split
  · rename_i hh
    by_cases hc : c = 4
    · have h9 := gy_parts (j := j) (q := q) (c := 3) (f := 24) (g := 3) (e := 365) (by omega) (by omega) (by omega) (by omega) (.inr ⟨rfl, rfl, .inr rfl⟩) (by omega)
      rw [show q * 400 + c * 100 + f * 4 + g = 400 * q + 100 * 3 + 4 * 24 + 3 + 1 by omega]
      exact h9
    · have h9 := gy_parts (j := j) (q := q) (c := c) (f := f) (g := 3) (e := 365) (by omega) (by omega) (by omega) (by omega) (.inr ⟨rfl, rfl, .inl (by omega)⟩) (by omega)
      rw [show q * 400 + c * 100 + f * 4 + g = 400 * q + 100 * c + 4 * f + 3 + 1 by omega]
      exact h9
  · have h9 := gy_parts (j := j) (q := q) (c := c) (f := f) (g := g) (e := r2 - 365 * g) (by omega) (by omega) (by omega) (by omega) (.inl (by omega)) (by omega)
    rw [show q * 400 + c * 100 + f * 4 + g + 1 = 400 * q + 100 * c + 4 * f + g + 1 by omega]
    exact h9
theorem gY_eq {j y : Int} (h1 : jan y ≤ j) (h2 : j < jan (y + 1)) : gY j = y := jan_uniq (gY_spec j).1 (gY_spec j).2 h1 h2

/-- the day of the year, from 0 -/
def gN (j : Int) : Int := j - jan (gY j)
def gM (j : Int) : Int := monB (leap (gY j)) (gN j)
def gD (j : Int) : Int := gN j - cum (gY j) (gM j) + 1
theorem gN_bound (j : Int) : 0 ≤ gN j ∧ gN j < 365 + lp (gY j) := by
  have := gY_spec j; have := jan_next (gY j); unfold gN; omega
theorem g_month (j : Int) : 1 ≤ gM j ∧ gM j ≤ 12 ∧ cum (gY j) (gM j) ≤ gN j ∧ gN j < cum (gY j) (gM j) + dim (gY j) (gM j) ∧ scan (sizes (leap (gY j))) (gN j) 1 = (gN j - cum (gY j) (gM j), gM j) :=
  month_ok (b := leap (gY j)) (n := gN j) (gN_bound j).1 (gN_bound j).2
theorem gM_bound (j : Int) : 1 ≤ gM j ∧ gM j ≤ 12 := ⟨(g_month j).1, (g_month j).2.1⟩
theorem gD_bound (j : Int) : 1 ≤ gD j ∧ gD j ≤ dim (gY j) (gM j) := by
  have := g_month j; unfold gD; omega
theorem g_back (j : Int) : jan (gY j) + cum (gY j) (gM j) + gD j - 1 = j := by unfold gD gN; omega

theorem not_zero (x : Int) : ¬ ((1 : Int) ≤ 0 ∧ 0 ≤ x) := fun h => absurd h.1 (by decide)
theorem not_after (x : Int) : ¬ (1 ≤ x + 1 ∧ x + 1 ≤ x) := fun h => absurd (Int.lt_of_lt_of_le (Int.lt_succ x) h.2) (Int.lt_irrefl x)
/-! the weeks -/
def monday (y : Int) : Int := jan y - jan y % 7 + (if 3 < jan y % 7 then 7 else 0)
def isoY (j : Int) : Int := gY (j - j % 7 + 3)
def isoW (j : Int) : Int := (j - j % 7 + 3 - jan (isoY j)) / 7 + 1
def isoD (j : Int) : Int := j % 7 + 1
theorem mon_div (y : Int) : monday y = 7 * ((jan y + 3) / 7) := by unfold monday; split <;> omega
theorem mon_first (y : Int) : monday y = jan y + 3 - (jan y + 3) % 7 := by have := mon_div y; omega
theorem mon_bound (y : Int) : jan y - 3 ≤ monday y ∧ monday y ≤ jan y + 3 ∧ monday y % 7 = 0 := by have := mon_div y; omega
theorem mon_iff (y j : Int) : jan y ≤ j - j % 7 + 3 ↔ monday y ≤ j := by have := mon_bound y; omega
theorem isoY_spec (j : Int) : monday (isoY j) ≤ j ∧ j < monday (isoY j + 1) := by
  have h := gY_spec (j - j % 7 + 3)
  have b := mon_iff (isoY j + 1) j
  exact ⟨(mon_iff (isoY j) j).1 h.1, Int.not_le.1 fun h' => absurd (b.2 h') (Int.not_le.2 h.2)⟩
theorem isoY_eq {j y : Int} (h1 : monday y ≤ j) (h2 : j < monday (y + 1)) : isoY j = y :=
  gY_eq ((mon_iff y j).2 h1) (Int.not_le.1 fun h' => absurd ((mon_iff (y + 1) j).1 h') (Int.not_le.2 h2))
theorem isoW_eq (j : Int) : isoW j = (j - monday (isoY j)) / 7 + 1 := by
  have := mon_bound (isoY j)
  unfold isoW
  omega
theorem isoW_pos (j : Int) : 1 ≤ isoW j := by have := isoY_spec j; rw [isoW_eq]; omega
theorem iso_back (j : Int) : monday (isoY j) + 7 * (isoW j - 1) + isoD j - 1 = j := by
  have := mon_bound (isoY j); rw [isoW_eq]; unfold isoD; omega
theorem isoD_eq (y j : Int) : (j - monday y) % 7 + 1 = isoD j := by have := mon_bound y; unfold isoD; omega

/-- how many Thursdays a year has -/
def weeks (y : Int) : Int := if jan y % 7 = 3 ∨ (jan y % 7 = 2 ∧ leap y = true) then 53 else 52
theorem weeks_iff (y : Int) : weeks y = 52 + if jan y % 7 = 3 ∨ (jan y % 7 = 2 ∧ lp y = 1) then 1 else 0 := by
  unfold weeks lp
  cases leap y
  · by_cases h : jan y % 7 = 3
    · simp only [h]; decide
    · simp only [h, lpB]; simp
  · by_cases h : jan y % 7 = 3
    · simp only [h]; decide
    · by_cases h2 : jan y % 7 = 2
      · simp only [h2]; decide
      · simp only [h, h2]; decide
theorem weeks_mon (y : Int) : monday (y + 1) = monday y + 7 * weeks y := by
  have h := jan_next y
  have hl := lp_bound y
  rw [mon_div, mon_div, weeks_iff, h]
  split <;> omega
theorem weeks_bound (y : Int) : 52 ≤ weeks y ∧ weeks y ≤ 53 := by unfold weeks; split <;> decide
theorem weeks_thu (y f : Int) (h0 : 0 ≤ f) (h1 : f < 7) (h : (jan y + f) % 7 = 3) : (365 + lp y - f + 6) / 7 = weeks y := by
  have hl := lp_bound y
  rw [weeks_iff]
  split <;> omega
theorem told_iso {y w d : Int} (h1 : 1 ≤ w) (h2 : w ≤ weeks y) (h3 : 1 ≤ d) (h4 : d ≤ 7) : isoY (monday y + 7 * (w - 1) + d - 1) = y ∧ isoW (monday y + 7 * (w - 1) + d - 1) = w ∧ isoD (monday y + 7 * (w - 1) + d - 1) = d := by
  have hm := weeks_mon y
  have hy : isoY (monday y + 7 * (w - 1) + d - 1) = y := isoY_eq (by omega) (by omega)
  refine ⟨hy, ?_, ?_⟩
  · rw [isoW_eq, hy]; omega
  · have := mon_bound y; unfold isoD; omega
theorem cum_one (y : Int) : cum y 1 = 0 := rfl
theorem cum_twelve (y : Int) : cum y 12 = 334 + lp y := by unfold cum lp; cases leap y <;> rfl
theorem fj_end {j Y a M D : Int} (hY : Y = gY j) (ha : a = adj Y (j - (jan Y + cum Y 1 + 1 - 1))) (hM : M = ((j - (jan Y + cum Y 1 + 1 - 1) + a) * 12 + 373).fdiv 367) (hD : D = j - (jan Y + cum Y M + 1 - 1) + 1) : Y = gY j ∧ M = gM j ∧ D = gD j := by
  have hN : j - (jan Y + cum Y 1 + 1 - 1) = gN j := by rw [cum_one, hY]; unfold gN; omega
  rw [hN] at ha hM
  have hM' : M = gM j := by
    rw [hM, Int.fdiv_eq_ediv_of_nonneg _ (by decide), ha, hY]; rfl
  refine ⟨hY, hM', ?_⟩
  rw [hD, hM', hY]; unfold gD gN; omega
theorem iso_end (y n d : Int) : d + (7 * n + (jan (y - 1) + cum (y - 1) 12 + 28 - 1 + -1 * 1 - (jan (y - 1) + cum (y - 1) 12 + 28 - 1 + -1 * 1 - 6).fmod 7)) = monday y + 7 * (n - 1) + d - 1 := by
  have h := jan_next (y - 1)
  rw [show y - 1 + 1 = y from by omega] at h
  rw [cum_twelve, Int.fmod_eq_emod_of_nonneg _ (by decide), mon_div]
  omega
theorem fg_end {y m d j : Int} (hm : 1 ≤ m ∧ m ≤ 12) (hd : 1 ≤ d ∧ d ≤ dim y m) (hj : jan y + cum y m + d - 1 = j) : jan y ≤ j ∧ j < jan (y + 1) := by
  have h := year_ok y hm
  have := jan_next y
  omega
theorem fg_less {y j : Int} (h1 : jan y ≤ j) (h : (j - monday y) / 7 < 0) : y - 1 = isoY j ∧ (j - monday (y - 1)) / 7 + 1 = isoW j ∧ (j - monday (y - 1)) % 7 + 1 = isoD j := by
  have a := mon_bound y
  have c := weeks_mon (y - 1)
  have w := weeks_bound (y - 1)
  rw [show y - 1 + 1 = y by omega] at c
  have hY : isoY j = y - 1 := isoY_eq (by omega) (by rw [show y - 1 + 1 = y by omega]; omega)
  exact ⟨hY.symm, by rw [isoW_eq, hY], isoD_eq _ _⟩
theorem fg_more {y j : Int} (h2 : j < jan (y + 1)) (h : monday (y + 1) ≤ j) : y + 1 = isoY j ∧ 0 + 1 = isoW j ∧ (j - monday y) % 7 + 1 = isoD j := by
  have a := mon_bound (y + 1)
  have c := weeks_mon (y + 1)
  have w := weeks_bound (y + 1)
  have hY : isoY j = y + 1 := isoY_eq h (by omega)
  refine ⟨hY.symm, ?_, isoD_eq _ _⟩
  rw [isoW_eq, hY]; omega
theorem fg_same {y j : Int} (h : ¬ (j - monday y) / 7 < 0) (h3 : ¬ 52 ≤ (j - monday y) / 7 ∨ ¬ monday (y + 1) ≤ j) : y = isoY j ∧ (j - monday y) / 7 + 1 = isoW j ∧ (j - monday y) % 7 + 1 = isoD j := by
  have c := weeks_mon y
  have w := weeks_bound y
  have hY : isoY j = y := isoY_eq (by omega) (by omega)
  exact ⟨hY.symm, by rw [isoW_eq, hY], isoD_eq _ _⟩
theorem fold_sub {α : Type} (a b : Int) (ha : 0 < a) : ∀ (l : List α) (x y : Int), 0 ≤ x → List.foldl (fun (p : Int × Int) (_ : α) => (if a ≤ p.fst then p.fst - a else p.fst, if a ≤ p.fst then p.snd + b else p.snd)) (x, y) l = (x - a * min (l.length : Int) (x / a), y + b * min (l.length : Int) (x / a))
  | [], x, y, hx => by
    have h0 : 0 ≤ x / a := Int.ediv_nonneg hx (Int.le_of_lt ha)
    have : min (([] : List α).length : Int) (x / a) = 0 := by simp; omega
    rw [List.foldl_nil, this]; simp
  | k :: r, x, y, hx => by
    rw [List.foldl_cons]
    dsimp only
    by_cases h : a ≤ x
    · rw [if_pos h, if_pos h, fold_sub a b ha r (x - a) (y + b) (by omega)]
      have e : (x - a) / a = x / a - 1 := by
        have := Int.add_mul_ediv_right x (-1) (c := a) (by omega)
        rw [show x + -1 * a = x - a by omega] at this; omega
      have e2 : min ((k :: r).length : Int) (x / a) = min (r.length : Int) ((x - a) / a) + 1 := by
        rw [e, List.length_cons]; omega
      rw [e2, Int.mul_add, Int.mul_add]
      congr 1 <;> omega
    · rw [if_neg h, if_neg h, fold_sub a b ha r x y hx]
      have h0 : x / a = 0 := Int.ediv_eq_zero_of_lt hx (by omega)
      have e1 : min (r.length : Int) (x / a) = 0 := by rw [h0]; omega
      have e2 : min ((k :: r).length : Int) (x / a) = 0 := by rw [h0]; omega
      rw [e1, e2]
/-- what the law's three loops reckon -/
theorem lg_three {α : Type} (j : Int) (l3 l24 : List α) (h3 : l3.length = 3) (h24 : l24.length = 24) (p q s : Int × Int)
    (hp : p = ((j - 1721426) % 146097 - 36524 * min (l3.length : Int) ((j - 1721426) % 146097 / 36524), 400 * ((j - 1721426) / 146097) + 1 + 100 * min (l3.length : Int) ((j - 1721426) % 146097 / 36524)))
    (hq : q = (p.1 - 1461 * min (l24.length : Int) (p.1 / 1461), p.2 + 4 * min (l24.length : Int) (p.1 / 1461)))
    (hs : s = (q.1 - 365 * min (l3.length : Int) (q.1 / 365), q.2 + 1 * min (l3.length : Int) (q.1 / 365))) : 0 ≤ p.1 ∧ 0 ≤ q.1 ∧ s.1 = gN j ∧ s.2 = gY j := by
  rw [h3] at hp hs
  rw [h24] at hq
  generalize hd : j - 1721426 = d at hp
  generalize hQ : d / 146097 = Q at hp
  generalize hr : d % 146097 = r at hp
  have h1 : j = 146097 * Q + r + 1721426 ∧ 0 ≤ r ∧ r < 146097 := by omega
  clear hd hQ hr
  generalize hc : min ((3 : Nat) : Int) (r / 36524) = c at hp
  have c1 : 0 ≤ c ∧ c ≤ 3 ∧ 36524 * c ≤ r ∧ (r < 36524 * c + 36524 ∨ c = 3) := by omega
  clear hc
  subst hp
  dsimp only at hq
  generalize hr1 : r - 36524 * c = r1 at hq
  generalize hf : min ((24 : Nat) : Int) (r1 / 1461) = f at hq
  have f1 : 0 ≤ f ∧ f ≤ 24 ∧ 1461 * f ≤ r1 ∧ r1 < 1461 * f + 1461 := by omega
  clear hf
  subst hq
  dsimp only at hs
  generalize hr2 : r1 - 1461 * f = r2 at hs
  generalize hg : min ((3 : Nat) : Int) (r2 / 365) = g at hs
  have g1 : 0 ≤ g ∧ g ≤ 3 ∧ 365 * g ≤ r2 ∧ (r2 < 365 * g + 365 ∨ (g = 3 ∧ r2 ≤ 1460)) := by omega
  clear hg
  subst hs
  dsimp only
  have h9 := gy_parts (j := j) (q := Q) (c := c) (f := f) (g := g) (e := r2 - 365 * g) (by omega) (by omega) (by omega) (by omega) (by omega) (by omega)
  have hgy := gY_eq h9.1 h9.2
  have hjan := jan_parts (q := Q) (c := c) (f := f) (g := g) (by omega) (by omega) (by omega)
  refine ⟨by omega, by omega, ?_, by omega⟩
  unfold gN
  rw [hgy, hjan]; omega
/-- what a called def leaves behind: the heap it began with stays, and the value is as said -/
def Back (g : Heap) (s : Shared) (Out : Heap → Heap → Value → Prop) (v : Value) (s' : Shared) : Prop :=
  ∃ (h' : Heap) (tk' : Nat), s' = { s with heap := h', toks := tk' } ∧ g.StaysIn h' ∧ Out g h' v

def OutI (x : Int) (_g _h : Heap) (v : Value) : Prop := ∃ t : Tok, v = .int x t
def OutB (b : Bool) (_g _h : Heap) (v : Value) : Prop := v = .bool b
abbrev tup3 (a b c : Int) (t1 t2 t3 : Tok) (n : Nat) : Obj := { cls := .type "tuple", data := .seq #[.int a t1, .int b t2, .int c t3] n }
def OutT (a b c : Int) (g h : Heap) (v : Value) : Prop :=
  ∃ (D : Addr) (t1 t2 t3 : Tok) (n : Nat), v = .ref D ∧ h.get? D = some (tup3 a b c t1 t2 t3 n) ∧ g.get? D = none

def OutL (ns : List Int) (g h : Heap) (v : Value) : Prop :=
  ∃ (D : Addr) (vs : List Value) (n : Nat), v = .ref D ∧ h.get? D = some { cls := .type "list", data := .seq vs.toArray n } ∧ IntsAre vs ns ∧ g.get? D = none

/-- a def of the text, by what it gives back -/
def Cut (prog : Program) (w : World) (K : Frag) (p : Program) (loose : List Str) (mean : ExcName → Option Value) (mg mb : Str → Option Value) (f : Addr) (k : Nat) (vs : List Value) (Out : Heap → Heap → Value → Prop) : Prop :=
  ∀ (dp un : Nat) (gd : Option (List Code)) (cn : Str) (cs : Scope) (a : Addr) (ccd : Value) (cl : List (Str × Addr)) (outer : List Env) (A₀ : Around) (base h₀ : Heap) (L : Addr) (m : Str → Option Value) (s : Shared) (Q E : Value → Shared → Prop),
    Below A₀ base outer h₀ → Fr h₀ L s.heap m → K.In h₀ → Top p loose mean mg mb h₀ → cs.kind = .function → dp + k < recursionLimit → un + 8 * k < cLine →
    (∀ v s', Back s.heap s Out v s' → Q v s') →
    wpAny (model prog w) (ktrTop dp un gd cn cs L a ccd cl outer) (call (.ref f) vs) Q E s

section
variable {prog : Program} {w : World} {K : Frag} {p : Program} {loose : List Str} {mean : ExcName → Option Value} {mg mb : Str → Option Value} {f : Addr} {k : Nat} {vs : List Value} {Out : Heap → Heap → Value → Prop}
  {dp un : Nat} {gd : Option (List Code)} {cn : Str} {cs : Scope} {a : Addr} {ccd : Value} {cl : List (Str × Addr)} {outer : List Env} {A₀ : Around} {base h₀ : Heap} {L : Addr} {m : Str → Option Value} {news : List (Addr × Obj)} {s : Shared} {Q E : Value → Shared → Prop}

theorem fr_stays {h h' : Heap} (F : Fr h₀ L h m) (st : h.StaysIn h') : Fr h₀ L h' m := by
  obtain ⟨oL, a1, a2, hL, a3⟩ := F.ns
  exact ⟨⟨oL, a1, a2, st _ _ hL, a3⟩, fun b o e => st _ _ (F.keep b o e), F.above⟩
theorem news_stays {h h' : Heap} (N : News h₀ L h news) (st : h.StaysIn h') : News h₀ L h' news :=
  fun q hq => ⟨st _ _ (N q hq).1, (N q hq).2.1, (N q hq).2.2⟩

theorem useI {x : Int} (C : Cut prog w K p loose mean mg mb f k vs (OutI x)) (B : Below A₀ base outer h₀) (F : Fr h₀ L s.heap m) (X : K.In h₀) (N : News h₀ L s.heap news) (T : Top p loose mean mg mb h₀) (hk : cs.kind = .function)
    (hd : dp + k < recursionLimit) (hu : un + 8 * k < cLine)
    (ret : ∀ (t : Tok) (h' : Heap) (tk' : Nat), Fr h₀ L h' m → News h₀ L h' news → Q (.int x t) { s with heap := h', toks := tk' }) :
    wpAny (model prog w) (ktrTop dp un gd cn cs L a ccd cl outer) (call (.ref f) vs) Q E s := by
  refine C _ _ _ _ _ _ _ _ _ _ _ _ _ _ _ _ _ B F X T hk hd hu fun v s' hb => ?_
  obtain ⟨h', tk', rfl, st, t, rfl⟩ := hb
  exact ret t h' tk' (fr_stays F st) (news_stays N st)
theorem useB {x : Bool} (C : Cut prog w K p loose mean mg mb f k vs (OutB x)) (B : Below A₀ base outer h₀) (F : Fr h₀ L s.heap m) (X : K.In h₀) (N : News h₀ L s.heap news) (T : Top p loose mean mg mb h₀) (hk : cs.kind = .function)
    (hd : dp + k < recursionLimit) (hu : un + 8 * k < cLine)
    (ret : ∀ (h' : Heap) (tk' : Nat), Fr h₀ L h' m → News h₀ L h' news → Q (.bool x) { s with heap := h', toks := tk' }) :
    wpAny (model prog w) (ktrTop dp un gd cn cs L a ccd cl outer) (call (.ref f) vs) Q E s := by
  refine C _ _ _ _ _ _ _ _ _ _ _ _ _ _ _ _ _ B F X T hk hd hu fun v s' hb => ?_
  obtain ⟨h', tk', rfl, st, hv⟩ := hb
  obtain rfl : v = .bool x := hv
  exact ret h' tk' (fr_stays F st) (news_stays N st)
theorem useT {x y z : Int} (C : Cut prog w K p loose mean mg mb f k vs (OutT x y z)) (B : Below A₀ base outer h₀) (F : Fr h₀ L s.heap m) (X : K.In h₀) (N : News h₀ L s.heap news) (T : Top p loose mean mg mb h₀) (hk : cs.kind = .function)
    (hd : dp + k < recursionLimit) (hu : un + 8 * k < cLine)
    (ret : ∀ (D : Addr) (t1 t2 t3 : Tok) (n : Nat) (h' : Heap) (tk' : Nat), Fr h₀ L h' m → News h₀ L h' ((D, tup3 x y z t1 t2 t3 n) :: news) → Q (.ref D) { s with heap := h', toks := tk' }) :
    wpAny (model prog w) (ktrTop dp un gd cn cs L a ccd cl outer) (call (.ref f) vs) Q E s := by
  refine C _ _ _ _ _ _ _ _ _ _ _ _ _ _ _ _ _ B F X T hk hd hu fun v s' hb => ?_
  obtain ⟨h', tk', rfl, st, D, t1, t2, t3, n, rfl, hD, hg⟩ := hb
  refine ret D t1 t2 t3 n h' tk' (fr_stays F st) fun q hq => ?_
  rcases List.mem_cons.mp hq with rfl | hq
  · refine ⟨hD, fun e => ?_, ?_⟩
    · obtain ⟨oL, _, _, hL, _⟩ := F.ns
      dsimp only at e
      rw [← e, hg] at hL; cases hL
    · cases q : h₀.get? D with
      | none => rfl
      | some o => have := F.keep _ _ q; rw [hg] at this; cases this
  · exact news_stays N st q hq

theorem useL {ns : List Int} (C : Cut prog w K p loose mean mg mb f k vs (OutL ns)) (B : Below A₀ base outer h₀) (F : Fr h₀ L s.heap m) (X : K.In h₀) (N : News h₀ L s.heap news) (T : Top p loose mean mg mb h₀) (hk : cs.kind = .function)
    (hd : dp + k < recursionLimit) (hu : un + 8 * k < cLine)
    (ret : ∀ (D : Addr) (ws : List Value) (n : Nat) (h' : Heap) (tk' : Nat), Fr h₀ L h' m → News h₀ L h' ((D, { cls := .type "list", data := .seq ws.toArray n }) :: news) → h'.IsList D ws.toArray → IntsAre ws ns → Q (.ref D) { s with heap := h', toks := tk' }) :
    wpAny (model prog w) (ktrTop dp un gd cn cs L a ccd cl outer) (call (.ref f) vs) Q E s := by
  refine C _ _ _ _ _ _ _ _ _ _ _ _ _ _ _ _ _ B F X T hk hd hu fun v s' hb => ?_
  obtain ⟨h', tk', rfl, st, D, ws, n, rfl, hD, hi, hg⟩ := hb
  refine ret D ws n h' tk' (fr_stays F st) (fun q hq => ?_) ⟨_, hD, rfl, n, rfl⟩ hi
  rcases List.mem_cons.mp hq with rfl | hq
  · refine ⟨hD, fun e => ?_, ?_⟩
    · obtain ⟨oL, _, _, hL, _⟩ := F.ns
      dsimp only at e
      rw [← e, hg] at hL; cases hL
    · cases q : h₀.get? D with
      | none => rfl
      | some o => have := F.keep _ _ q; rw [hg] at this; cases this
  · exact news_stays N st q hq
theorem backL {g : Heap} {L' : Addr} {m' : Str → Option Value} {h' : Heap} {tk' : Nat} {news' : List (Addr × Obj)} {D : Addr} {ws : List Value} {ns : List Int} {n : Nat} (F : Fr g L' h' m') (N : News g L' h' news')
    (hm : (D, ({ cls := .type "list", data := .seq ws.toArray n } : Obj)) ∈ news') (hi : IntsAre ws ns) : Back g s (OutL ns) (.ref D) { s with heap := h', toks := tk' } :=
  ⟨h', tk', rfl, F.keep, D, ws, n, rfl, (N _ hm).1, hi, (N _ hm).2.2⟩

theorem backI {g : Heap} {L' : Addr} {m' : Str → Option Value} {h' : Heap} {tk' : Nat} {x y : Int} {t : Tok} (F : Fr g L' h' m') (e : x = y) : Back g s (OutI y) (.int x t) { s with heap := h', toks := tk' } :=
  ⟨h', tk', rfl, F.keep, t, by rw [e]⟩
theorem backB {g : Heap} {L' : Addr} {m' : Str → Option Value} {h' : Heap} {tk' : Nat} {x y : Bool} (F : Fr g L' h' m') (e : x = y) : Back g s (OutB y) (.bool x) { s with heap := h', toks := tk' } :=
  ⟨h', tk', rfl, F.keep, by rw [e]; rfl⟩
theorem backT {g : Heap} {L' : Addr} {m' : Str → Option Value} {h' : Heap} {tk' : Nat} {news' : List (Addr × Obj)} {D : Addr} {x y z x' y' z' : Int} {t1 t2 t3 : Tok} {n : Nat} (F : Fr g L' h' m') (N : News g L' h' news')
    (hm : (D, tup3 x y z t1 t2 t3 n) ∈ news') (e1 : x = x') (e2 : y = y') (e3 : z = z') : Back g s (OutT x' y' z') (.ref D) { s with heap := h', toks := tk' } :=
  ⟨h', tk', rfl, F.keep, D, t1, t2, t3, n, rfl, by rw [← e1, ← e2, ← e3]; exact (N _ hm).1, (N _ hm).2.2⟩

theorem backT3 {g : Heap} {L' : Addr} {m' : Str → Option Value} {h' : Heap} {tk' : Nat} {news' : List (Addr × Obj)} {D : Addr} {x y z x' y' z' : Int} {t1 t2 t3 : Tok} {n : Nat} (F : Fr g L' h' m') (N : News g L' h' news')
    (hm : (D, tup3 x y z t1 t2 t3 n) ∈ news') (e : x = x' ∧ y = y' ∧ z = z') : Back g s (OutT x' y' z') (.ref D) { s with heap := h', toks := tk' } := backT F N hm e.1 e.2.1 e.2.2

theorem cut_of {name qual : Str} {params : Arguments} {body : List Stmt} {scope : Scope} {dV kV doc pm cdv ct oc : Value} {an od : Option Addr} {osl : Array (Option Value)} {binds : List (Str × Value)}
    (ho : K.lookup f = some ⟨oc, od, .func (fnOf name qual params body scope dV kV doc pm an cdv ct), osl⟩) (hcd : codeIn K cdv qual = true)
    (hbind : bindArgs (fnOf name qual params body scope dV kV doc pm an cdv ct) ⟨vs, []⟩ = pure binds) (hloc : ∀ y ∈ binds, scope.names.lookup y.1 = some .local)
    (h : ∀ (dp un : Nat) (gd : Option (List Code)) (cn : Str) (cs : Scope) (a : Addr) (ccd : Value) (cl : List (Str × Addr)) (outer : List Env) (A₀ : Around) (base : Heap) (L : Addr) (s : Shared) (E : Value → Shared → Prop) (g : Heap) (L' : Addr) (h₁ : Heap),
      cs.kind = .function → dp + k < recursionLimit → un + 8 * k < cLine →
      Fr g L' h₁ (fun y => binds.reverse.lookup y) → News g L' h₁ [] → Below (ktrTop dp un gd cn cs L a ccd cl outer) base (envX cn cs L a ccd cl :: outer) g → K.In g → Top p loose mean mg mb g →
      wpAny (model prog w) ((ktrTop dp un gd cn cs L a ccd cl outer).deeper (envOf qual scope L' f cdv)) (execs body (envOf qual scope L' f cdv))
        (fun fl s' => Back g s Out (match fl with | .ret v => v | _ => .none) s')
        (fun e s' => wpAny (model prog w) ((ktrTop dp un gd cn cs L a ccd cl outer).deeper (envOf qual scope L' f cdv)) (leaving (envOf qual scope L' f cdv) e) (fun _ s'' => E e s'') (fun e' s'' => E e' s'') s')
        { s with heap := h₁, toks := s.toks + binds.length })
    (hkp : 0 < k) (hco : scope.isCoroutine = false) (hgen : scope.isGenerator = false) (hk : scope.kind = .function)
    (hcell : ∀ x ∈ scope.names, x.2 ≠ .cell) : Cut prog w K p loose mean mg mb f k vs Out := by
  intro dp un gd cn cs a ccd cl outer A₀ base h₀ L m s Q E B F X T hck hd hu ret
  refine wpAny_call ?_
  obtain ⟨FG, BG, st, _⟩ := groundX (R := fun r s' => match r with | .ok (.ret v) => Q v s' | .ok _ => False | .error e => E e s') (A := ktrTop dp un gd cn cs L a ccd cl outer) B F News.nil rfl rfl hck
  have st' : h₀.StaysIn s.heap := st
  have BG' : Below (ktrTop dp un gd cn cs L a ccd cl outer) base (envX cn cs L a ccd cl :: outer) s.heap := BG
  refine codeAny_call_def (fd := fnOf name qual params body scope dV kV doc pm an cdv ct) (body := body) (binds := binds) (by dsimp only [ktrTop]; omega) (st' _ _ (X _ _ ho)) rfl (T.nolimit.keeps st') (codeRec_of (X.keeps st') hcd) rfl (BindsTo.of_eq hbind) hcell hloc (fun h₁ hns hk₁ => ?_) hco hgen hk
  exact wpAny_mono (h dp un gd cn cs a ccd cl outer A₀ base L s E s.heap s.heap.objs.size h₁ hck hd hu ⟨hns, hk₁, Nat.le_refl _⟩ News.nil BG' (X.keeps st') (T.keeps st')) (fun fl s' hl => ret _ _ hl) fun _ _ y => y
/-- a written chain lo <= x <= hi is one test -/
theorem chain_int {A : Around} {name : Str} {scope : Scope} {cdv : Value} {whole : Sem Value} {x : Str} {p p1 p2 p3 : Pos} {k1 k2 : Nat} {lo hi y : Int} {t : Tok} {Q : Bool → Shared → Prop} (F : Fr h₀ L s.heap m) (hv : m x = some (.int y t))
    (hk : scope.kind = .function) (hl : (envOf name scope L f cdv).kindOf x = some .local) (hd : (x == ("__debug__" : Str)) = false)
    (h : ∀ tk, Q (decide (lo ≤ y ∧ y ≤ hi)) { s with toks := tk }) :
    wpAny (model prog w) A (isTrue (.Compare (.Constant (.int lo) k1 p1) [.LtE, .LtE] [.Name x p2, .Constant (.int hi) k2 p3] p) (envOf name scope L f cdv) whole) Q E s := by
  refine isTrue_chain ?_ rfl
  refine wpAny_Constant_int ?_
  refine test_link ?_
  refine ld F hv ?_ hk hl hd
  refine PyProof.Rows.le_int ?_
  refine wpAny_truthy_bool ?_
  by_cases h1 : lo ≤ y
  · rw [if_pos (decide_eq_true h1)]
    refine test_last ?_
    refine wpAny_Constant_int ?_
    refine PyProof.Rows.le_int ?_
    refine wpAny_truthy_bool ?_
    have e : decide (lo ≤ y ∧ y ≤ hi) = decide (y ≤ hi) := by rw [decide_eq_decide]; exact ⟨fun h => h.2, fun h => ⟨h1, h⟩⟩
    rw [← e]
    exact h _
  · rw [if_neg (by rw [decide_eq_true_eq]; exact h1)]
    have e : decide (lo ≤ y ∧ y ≤ hi) = false := decide_eq_false fun h => h1 h.1
    rw [← e]
    exact h _
/-- the ways of an if meet: one int name is stored -/
def Join1 (h₀ : Heap) (L : Addr) (s : Shared) (x : Str) (v : Int) (m : Str → Option Value) (news : List (Addr × Obj)) (fl : Flow) (s' : Shared) : Prop :=
  fl = .next ∧ ∃ (t : Tok) (h' : Heap) (tk' : Nat), s' = { s with heap := h', toks := tk' } ∧ Fr h₀ L h' (fun y => if y = x then some (.int v t) else m y) ∧ News h₀ L h' news
theorem join1 {A : Around} {st : Stmt} {env : Env} {Q : Flow → Shared → Prop} (x : Str) (v : Int) (_F : Fr h₀ L s.heap m) (_N : News h₀ L s.heap news)
    (h : wpAny (model prog w) A (exec st env) (Join1 h₀ L s x v m news) E s)
    (k : ∀ t h' tk', Fr h₀ L h' (fun y => if y = x then some (.int v t) else m y) → News h₀ L h' news → Q .next { s with heap := h', toks := tk' }) : wpAny (model prog w) A (exec st env) Q E s :=
  wpAny_mono h (fun fl s' j => by obtain ⟨rfl, t, h', tk', rfl, F', N'⟩ := j; exact k t h' tk' F' N') fun _ _ e => e
/-- the ways of an if meet: nothing is stored, what was made is dropped -/
def Join0 (h₀ : Heap) (L : Addr) (s : Shared) (m : Str → Option Value) (news : List (Addr × Obj)) (fl : Flow) (s' : Shared) : Prop :=
  fl = .next ∧ ∃ (h' : Heap) (tk' : Nat), s' = { s with heap := h', toks := tk' } ∧ Fr h₀ L h' m ∧ News h₀ L h' news
theorem join0 {A : Around} {st : Stmt} {env : Env} {Q : Flow → Shared → Prop} (_F : Fr h₀ L s.heap m) (_N : News h₀ L s.heap news)
    (h : wpAny (model prog w) A (exec st env) (Join0 h₀ L s m news) E s)
    (k : ∀ h' tk', Fr h₀ L h' m → News h₀ L h' news → Q .next { s with heap := h', toks := tk' }) : wpAny (model prog w) A (exec st env) Q E s :=
  wpAny_mono h (fun fl s' j => by obtain ⟨rfl, h', tk', rfl, F', N'⟩ := j; exact k h' tk' F' N') fun _ _ e => e
theorem join0_end {h' : Heap} {tk' : Nat} {news' : List (Addr × Obj)} (F' : Fr h₀ L h' m) (N' : News h₀ L h' news') (sub : SubL news news') : Join0 h₀ L s m news .next { s with heap := h', toks := tk' } :=
  ⟨rfl, h', tk', rfl, F', fun q hq => N' q (sub.mem q hq)⟩
/-- a def that catches a raise: called from a frame with none below -/
def CutS (prog : Program) (w : World) (K : Frag) (p : Program) (loose : List Str) (mean : ExcName → Option Value) (mg mb : Str → Option Value) (f : Addr) (k : Nat) (vs : List Value) (b : Bool) : Prop :=
  ∀ (dp un : Nat) (gd : Option (List Code)) (cn : Str) (cs : Scope) (a : Addr) (ccd : Value) (A₀ : Around) (base h₀ : Heap) (L : Addr) (m : Str → Option Value) (news : List (Addr × Obj)) (s : Shared) (Q E : Value → Shared → Prop),
    Below A₀ base [] h₀ → Fr h₀ L s.heap m → K.In h₀ → News h₀ L s.heap news → Top p loose mean mg mb h₀ → K.In base → Top p loose mean mg mb base → cs.kind = .function → dp + k < recursionLimit → un + 8 * k < cLine →
    (∀ h' tk', Fr h₀ L h' m → News h₀ L h' news → Q (.bool b) { s with heap := h', toks := tk' }) →
    wpAny (model prog w) (ktrTop dp un gd cn cs L a ccd [] []) (call (.ref f) vs) Q E s
theorem useS {x : Bool} (C : CutS prog w K p loose mean mg mb f k vs x) (B : Below A₀ base [] h₀) (F : Fr h₀ L s.heap m) (X : K.In h₀) (N : News h₀ L s.heap news) (T : Top p loose mean mg mb h₀) (XB : K.In base) (TB : Top p loose mean mg mb base) (hk : cs.kind = .function)
    (hd : dp + k < recursionLimit) (hu : un + 8 * k < cLine)
    (ret : ∀ (h' : Heap) (tk' : Nat), Fr h₀ L h' m → News h₀ L h' news → Q (.bool x) { s with heap := h', toks := tk' }) :
    wpAny (model prog w) (ktrTop dp un gd cn cs L a ccd [] []) (call (.ref f) vs) Q E s := C _ _ _ _ _ _ _ _ _ _ _ _ _ _ _ _ B F X N T XB TB hk hd hu ret
/-- what it leaves behind: the frame below may have turned its slots -/
def BackS (L : Addr) (g : Heap) (s : Shared) (b : Bool) (v : Value) (s' : Shared) : Prop :=
  v = .bool b ∧ ∃ (g' : Heap) (L' : Addr) (m' : Str → Option Value) (h' : Heap) (tk' : Nat), s' = { s with heap := h', toks := tk' } ∧ KtsTurn [L] g g' ∧ Fr g' L' h' m'
theorem backS {g g' : Heap} {L' : Addr} {m' : Str → Option Value} {h' : Heap} {tk' : Nat} {b : Bool} (F : Fr g' L' h' m') (T : KtsTurn [L] g g') : BackS L g s b (.bool b) { s with heap := h', toks := tk' } :=
  ⟨rfl, g', L', m', h', tk', rfl, T, F⟩
theorem cutS_of {name qual : Str} {params : Arguments} {body : List Stmt} {scope : Scope} {dV kV doc pm cdv ct oc : Value} {an od : Option Addr} {osl : Array (Option Value)} {binds : List (Str × Value)} {b : Bool}
    (ho : K.lookup f = some ⟨oc, od, .func (fnOf name qual params body scope dV kV doc pm an cdv ct), osl⟩) (hcd : codeIn K cdv qual = true)
    (hbind : bindArgs (fnOf name qual params body scope dV kV doc pm an cdv ct) ⟨vs, []⟩ = pure binds) (hloc : ∀ y ∈ binds, scope.names.lookup y.1 = some .local)
    (h : ∀ (dp un : Nat) (gd : Option (List Code)) (cn : Str) (cs : Scope) (a : Addr) (ccd : Value) (A₀ : Around) (base : Heap) (L : Addr) (s : Shared) (E : Value → Shared → Prop) (g : Heap) (L' : Addr) (h₁ : Heap),
      cs.kind = .function → dp + k < recursionLimit → un + 8 * k < cLine →
      Fr g L' h₁ (fun y => binds.reverse.lookup y) → News g L' h₁ [] → Below (ktrTop dp un gd cn cs L a ccd [] []) base [envOf cn cs L a ccd] g → K.In g → Top p loose mean mg mb g → K.In base → Top p loose mean mg mb base → KtsDicts ([envOf cn cs L a ccd].filterMap (·.frame)) g →
      wpAny (model prog w) ((ktrTop dp un gd cn cs L a ccd [] []).deeper (envOf qual scope L' f cdv)) (execs body (envOf qual scope L' f cdv))
        (fun fl s' => BackS L g s b (match fl with | .ret v => v | _ => .none) s')
        (fun e s' => wpAny (model prog w) ((ktrTop dp un gd cn cs L a ccd [] []).deeper (envOf qual scope L' f cdv)) (leaving (envOf qual scope L' f cdv) e) (fun _ s'' => E e s'') (fun e' s'' => E e' s'') s')
        { s with heap := h₁, toks := s.toks + binds.length })
    (hkp : 0 < k) (hco : scope.isCoroutine = false) (hgen : scope.isGenerator = false) (hk : scope.kind = .function)
    (hcell : ∀ x ∈ scope.names, x.2 ≠ .cell) : CutS prog w K p loose mean mg mb f k vs b := by
  intro dp un gd cn cs a ccd A₀ base h₀ L m news s Q E B F X N T XB TB hck hd hu ret
  refine wpAny_call ?_
  obtain ⟨oL, es, ep, hLg, hLd, hN, hNs, st, B₂⟩ := kts_enter (A := ktrTop dp un gd cn cs L a ccd [] []) B F News.nil rfl hck
  have st : h₀.StaysIn s.heap := st
  have nL₀ : h₀.get? L = none := kts_self F
  refine codeAny_call_def (fd := fnOf name qual params body scope dV kV doc pm an cdv ct) (body := body) (binds := binds) (by dsimp only [ktrTop]; omega) (st _ _ (X _ _ ho)) rfl (T.nolimit.keeps st) (codeRec_of (X.keeps st) hcd) rfl (BindsTo.of_eq hbind) hcell hloc (fun h₁ hns hk₁ => ?_) hco hgen hk
  refine wpAny_mono (h dp un gd cn cs a ccd A₀ base L s E s.heap s.heap.objs.size h₁ hck hd hu ⟨hns, hk₁, Nat.le_refl _⟩ News.nil B₂ (X.keeps st) (T.keeps st) XB TB (fun b hb => ?_)) (fun fl s' hl => ?_) fun _ _ y => y
  · rw [show b = L from List.mem_singleton.mp hb]
    exact ⟨oL, es, ep, hLg, hLd⟩
  · obtain ⟨hv, g', L', m', h', tk', rfl, T', F'⟩ := hl
    obtain ⟨sl, hs⟩ := T'.up hLg
    have hq := ret h' tk' ⟨hNs sl _ (F'.keep _ _ hs), fun b o e => F'.keep b o (T'.other b o (st b o e) fun q => ?_), F.above⟩ fun p hp => ⟨F'.keep _ _ (T'.other _ _ (N p hp).1 fun q => (N p hp).2.1 (List.mem_singleton.mp q)), (N p hp).2⟩
    · rw [← hv] at hq
      exact hq
    · rw [show b = L from List.mem_singleton.mp q, nL₀] at e
      cases e
theorem join1_set {x : Str} {v v' : Int} {t : Tok} {h' : Heap} {tk' : Nat} (F' : Fr h₀ L h' (fun y => if y = x then some (.int v' t) else m y)) (N' : News h₀ L h' news) (e : v' = v) : Join1 h₀ L s x v m news .next { s with heap := h', toks := tk' } :=
  ⟨rfl, t, h', tk', rfl, e ▸ F', N'⟩
theorem join1_same {x : Str} {v v' : Int} {t : Tok} {h' : Heap} {tk' : Nat} (F' : Fr h₀ L h' m) (hm : m x = some (.int v' t)) (N' : News h₀ L h' news) (e : v' = v) : Join1 h₀ L s x v m news .next { s with heap := h', toks := tk' } := by
  subst e
  refine ⟨rfl, t, h', tk', rfl, ?_, N'⟩
  have e : (fun y => if y = x then some (.int v' t) else m y) = m := by
    funext y
    by_cases h1 : y = x
    · rw [if_pos h1, h1, hm]
    · rw [if_neg h1]
  rw [e]; exact F'
theorem join1_twice {x : Str} {v v' : Int} {t : Tok} {u : Option Value} {h' : Heap} {tk' : Nat} (F' : Fr h₀ L h' (fun y => if y = x then some (.int v' t) else if y = x then u else m y)) (N' : News h₀ L h' news) (e : v' = v) : Join1 h₀ L s x v m news .next { s with heap := h', toks := tk' } := by
  refine join1_set (t := t) (v' := v') ?_ N' e
  have e : (fun y => if y = x then some (Value.int v' t) else if y = x then u else m y) = (fun y => if y = x then some (.int v' t) else m y) := by
    funext y
    by_cases h1 : y = x
    · rw [if_pos h1, if_pos h1]
    · rw [if_neg h1, if_neg h1, if_neg h1]
  exact e ▸ F'
end
section
variable {prog : Program} {w : World} {A : Around} {E : Value → Shared → Prop} {s : Shared}
theorem adjust_upto (b n : Nat) (hb : b ≤ n) : Builtin.Slice.sliceAdjust none (some (b : Int)) 1 (n : Int) = ((0 : Int), (b : Int)) := by
  unfold Builtin.Slice.sliceAdjust
  simp only [show ¬ ((1 : Int) < 0) from by omega, show ¬ ((b : Int) < 0) from by omega, if_false]
  congr 1
  omega
theorem places_upto (b : Nat) : Builtin.Slice.slicePlaces (0 : Int) (b : Int) 1 = b := by
  unfold Builtin.Slice.slicePlaces
  simp only [show ((1 : Int) > 0) from by omega, if_true, Int.ediv_one]
  split <;> omega
theorem sliceApplied_upto {sl : Addr} {b n : Nat} {u : Tok} {Q : Int × Int × Nat → Shared → Prop} (hs : s.heap.IsSliceOf sl .none (.int b u) .none) (hb : b ≤ n) (h : Q ((0 : Int), 1, b) s) :
    wpAny (model prog w) A (Builtin.Slice.sliceApplied (.ref sl) (pure (n : Int))) Q E s := by
  obtain ⟨os, hos, hcs, hds⟩ := id hs
  unfold Builtin.Slice.sliceApplied Builtin.Slice.sliceFields
  refine wpAny_bind (wpAny_bind (wpAny_field hos hds (x := .none) rfl (wpAny_bind (wpAny_field hos hds (x := .int b u) rfl (wpAny_bind (wpAny_field hos hds (x := .none) rfl (wpAny_pure ?_)))))))
  refine wpAny_bind (slicePart_none ?_)
  show wpAny _ _ (if ((1 : Int) == 0) = true then _ else _) _ _ s
  rw [if_neg (by decide)]
  refine wpAny_bind (slicePart_none (wpAny_bind (slicePart_int (wpAny_bind (wpAny_pure ?_)))))
  show wpAny _ _ (match Builtin.Slice.sliceAdjust none (some (b : Int)) 1 (n : Int) with | (lo, hi) => pure (lo, (1 : Int), Builtin.Slice.slicePlaces lo hi 1)) _ _ s
  rw [adjust_upto b n hb]
  show wpAny _ _ (pure ((0 : Int), (1 : Int), Builtin.Slice.slicePlaces (0 : Int) (b : Int) 1)) _ _ s
  rw [places_upto b]
  exact wpAny_pure h
theorem pick_upto (xs : Array Value) (b : Nat) : ((List.range b).filterMap fun (k : Nat) => xs[((0 : Int) + (k : Int) * 1).toNat]?).toArray = (xs.toList.take b).toArray := by
  have e : (fun (k : Nat) => xs[((0 : Int) + (k : Int) * 1).toNat]?) = ((fun x => xs[x]?) ∘ fun x => 0 + x) := by
    funext k
    have : ((0 : Int) + (k : Int) * 1).toNat = 0 + k := by omega
    simp only [this, Function.comp]
  have q := pick_run xs 0 b
  rw [List.filterMap_map, List.drop_zero] at q
  rw [e, q]
theorem getItem_tuple_upto {t sl : Addr} {items : Array Value} {b : Nat} {u : Tok} {Q : Value → Shared → Prop} (ht : IsTup s.heap t items) (hs : s.heap.IsSliceOf sl .none (.int b u) .none) (hb : b < items.size)
    (h : Q (.ref s.heap.objs.size) { s with heap := s.heap.push { cls := .type "tuple", data := .seq (items.toList.take b).toArray } })
    (hsz : items.size ≤ sizeLine) : wpAny (model prog w) A (getItem (.ref t) (.ref sl)) Q E s := by
  have htake : sizeOk (.seq (items.toList.take b).toArray) := by
    show (items.toList.take b).toArray.size ≤ sizeLine
    rw [List.size_toArray, List.length_take, Array.length_toList]
    omega
  obtain ⟨os, hos, hcs, hds⟩ := id hs
  have hTs : s.TypeIs (.ref sl) "slice" := ⟨os, hos, hcs⟩
  unfold getItem
  try with_reducible refine wpAny_holding ?_
  first | refine wpAny_bind (wpAny_pure ?_) | skip
  refine wpAny_bind (wpAny_sequenceKey ht.typeIs (by decide) ?_)
  refine wpAny_bind (wpAny_callSpecial?_slot (name := Str.ofString "__getitem__") ht.typeIs slot_tuple_getitem
    (wpAny_call_entry slot_tuple_getitem ht.typeIs entry_tuple_getitem ?_ (args_tuple_getitem _ _)))
  show wpAny _ _ (Builtin.Tuple.tupleItemsOf (.ref t) >>= _) _ _ s
  refine wpAny_bind (tupleItemsOf_ ht ?_)
  refine wpAny_bind (wpAny_typeOf hTs ?_)
  rw [if_pos (by decide)]
  refine wpAny_bind (sliceApplied_upto hs (Nat.le_of_lt hb) ?_)
  have hno : ¬ (((0 : Int) == 0 && (1 : Int) == 1 && b == items.size) = true) := by
    have : (b == items.size) = false := by rw [beq_eq_false_iff_ne]; omega
    rw [this]; simp
  show wpAny _ _ (if ((0 : Int) == 0 && (1 : Int) == 1 && b == items.size) = true then _ else _) _ _ s
  rw [if_neg hno, pick_upto items b]
  first
    | exact wpAny_bind (m := Builtin.Tuple.tupleExact _) (wpAny_newObj_type (wpAny_pure ⟨_, rfl, wpAny_pure h⟩) htake)
    | exact wpAny_bind (m := Builtin.Tuple.tupleExact _) (wpAny_newObj_type (wpAny_bind (wpAny_pure (wpAny_pure ⟨_, rfl, wpAny_pure h⟩))) htake)
    | exact wpAny_bind (wpAny_bind (m := Builtin.Tuple.tupleExact _) (wpAny_newObj_type (wpAny_pure (wpAny_pure ⟨_, rfl, wpAny_pure h⟩)) htake))
    | exact wpAny_bind (wpAny_bind (m := Builtin.Tuple.tupleExact _) (wpAny_newObj_type (wpAny_pure ⟨_, rfl, wpAny_pure h⟩) htake))
end
section
variable {prog : Program} {w : World} {A : Around} {E : Value → Shared → Prop} {s : Shared} {h₀ : Heap} {L : Addr} {m : Str → Option Value} {news : List (Addr × Obj)} {K : Frag}
theorem slice_K_upto {value slice : PySem.Expr} {t : Addr} {l zs : List Value} {k : Int} {u : Tok} {dd : Option Addr} {n : Nat} {sl : Array (Option Value)} {Q : Value → Shared → Prop}
    (F : Fr h₀ L s.heap m) (X : K.In h₀) (N : News h₀ L s.heap news) (hl : K.lookup t = some ⟨.type "tuple", dd, .seq l.toArray n, sl⟩) (h0 : 0 ≤ k) (e : l.take k.toNat = zs) (hb : k.toNat < l.length) (hsz : l.length ≤ sizeLine)
    (h : ∀ D h', Fr h₀ L h' m → News h₀ L h' ((D, { cls := .type "tuple", data := .seq zs.toArray }) :: news) → (∀ p ∈ news, p.1 < D) → Q (.ref D) { s with heap := h' })
    (hs : subscripted slice false (.ref t) (.ref s.heap.objs.size) = operate [.ref s.heap.objs.size, .ref t] (getItem (.ref t) (.ref s.heap.objs.size)))
    (hg : ∀ r, letTemporaryGo value (.ref t) r = pure ()) :
    wpAny (model prog w) A (subscriptTail value slice (.ref t) (.ref s.heap.objs.size)) Q E { s with heap := s.heap.push { cls := .type "slice", data := .fields #[.none, .int k u, .none] } } := by
  obtain ⟨b, rfl⟩ : ∃ b : Nat, k = b := ⟨k.toNat, by omega⟩
  rw [Int.toNat_natCast] at e hb
  have ht : IsTup s.heap t l.toArray := ⟨_, F.keep _ _ (X _ _ hl), rfl, n, rfl⟩
  have ht' : IsTup (s.heap.push { cls := .type "slice", data := .fields #[.none, .int ((b : Nat) : Int) u, .none] }) t l.toArray := ht.keeps fun _ _ e => Heap.get?_push_of_some _ e
  refine subscriptTail_ops (s := { s with heap := s.heap.push { cls := .type "slice", data := .fields #[.none, .int ((b : Nat) : Int) u, .none] } }) ht'.typeIs slot_tuple_getitem.lookup
    (getItem_tuple_upto ht' (Heap.IsSliceOf.new ..) (by rw [List.size_toArray]; exact hb) ?_ (by rw [List.size_toArray]; exact hsz)) hs hg
  have N1 := News.push (F.push { cls := .type "slice", data := .fields #[.none, .int ((b : Nat) : Int) u, .none] }) (N.grown fun _ _ e => Heap.get?_push_of_some _ e) { cls := .type "tuple", data := .seq (l.toArray.toList.take b).toArray }
  rw [Heap.size_push] at N1
  show Q (.ref (s.heap.push _).objs.size) _
  rw [Heap.size_push]
  refine h _ _ ((F.push _).push _) ?_ fun p hp => Nat.lt_succ_of_lt (Heap.lt_size (N p hp).1)
  rw [← e]
  exact N1
end
section
variable {prog : Program} {w : World} {A : Around} {E : Value → Shared → Prop} {s : Shared} {h₀ : Heap} {env : Env} {target : PySem.Expr} {body : List Stmt} {Q : Flow → Shared → Prop}
/-- a frame's map with two names turned -/
abbrev turned (a b : Str) (m₀ : Str → Option Value) (u v : Option Value) : Str → Option Value := fun y => if y = a then u else if y = b then v else m₀ y
theorem turned_swap {a b : Str} (hab : a ≠ b) {m₀ : Str → Option Value} {u v u' v' : Option Value} : (fun y => if y = a then u' else (fun y => if y = b then v' else turned a b m₀ u v y) y) = turned a b m₀ u' v' := by
  funext y
  unfold turned
  by_cases h1 : y = a <;> by_cases h2 : y = b <;> simp only [h1, h2, if_true, if_false]
theorem sum_rest {a b : Str} {p1 p2 p3 p4 : Pos} {qual : Str} {scope : Scope} {L f : Addr} {cdv : Value} {m₀ : Str → Option Value} {news : List (Addr × Obj)} {keep : List (Addr × Obj)} (hkp : SubL keep news) {I : Addr}
    (hk : scope.kind = .function) (ha : (envOf qual scope L f cdv).kindOf a = some .local) (hb : (envOf qual scope L f cdv).kindOf b = some .local) (hab : a ≠ b) (hd : (b == ("__debug__" : Str)) = false) (hnI : ∀ q ∈ news, q.1 < I)
    (done : ∀ (x : Int) (t : Tok) (dv : Option Value) (h : Heap) (tk : Nat), Fr h₀ L h (turned a b m₀ (some (.int x t)) dv) → News h₀ L h news → Q .next { s with heap := h, toks := tk }) :
    ∀ {vs : List Value} {ns : List Int}, IntsAre vs ns → ∀ (x : Int) (t : Tok) (dv : Option Value), ItemsRest prog w A E h₀ (envOf qual scope L f cdv) (.Name b p1) [.AugAssign (.Name a p2) .Add (.Name b p3) p4] Q s [(I, "tuple_iterator")] keep (vs.map .val) (turned a b m₀ (some (.int x t)) dv) news := by
  intro vs ns hi
  induction hi with
  | nil => exact fun x t dv => ItemsRest.zero fun h tk F N => done x t dv h tk F N
  | cons v tv hr ih =>
    intro x t dv
    refine ItemsRest.val fun h tk F => AllObj.cons fun o ho => AllObj.nil fun N => ?_
    refine PyProof.Rows.assign_Name ?_
    refine stN F N (fun h1 F1 N1 => ?_) hk hb
    refine wpAny_execs_cons ?_
    refine wpAny_AugAssign_Name ?_
    refine ldn F1 (v := .int x t) ?_ ?_ hk ha
    · show (if a = b then _ else turned a b m₀ (some (.int x t)) dv a) = _
      rw [if_neg hab]; show (if a = a then _ else _) = _; rw [if_pos rfl]
    refine ld F1 (v := .int v tv) ?_ ?_ hk hb hd
    · show (if b = b then _ else _) = _; rw [if_pos rfl]
    refine PyProof.Rows.iadd_int ?_
    refine stN F1 N1 (fun h2 F2 N2 => ?_) hk ha
    refine wpAny_execs_nil ⟨h2, _, _, news, rfl, F2, N2, fun p hp q hq e => ?_, hkp, ?_⟩
    · rw [List.mem_singleton] at hq
      subst hq
      exact absurd e (Nat.ne_of_lt (hnI p hp))
    · rw [turned_swap hab]
      exact ih _ _ _
theorem rest_start {a b : Str} {m₀ : Str → Option Value} {news : List (Addr × Obj)} {keep : List (Addr × Obj)} {ws : List (Addr × String)} {xs : List Itm} {x : Int} {t : Tok} (ha : m₀ a = some (.int x t)) (hb : m₀ b = none)
    (R : ItemsRest prog w A E h₀ env target body Q s ws keep xs (turned a b m₀ (some (.int x t)) none) news) : ItemsRest prog w A E h₀ env target body Q s ws keep xs m₀ news := by
  have e : turned a b m₀ (some (.int x t)) none = m₀ := by
    funext y
    unfold turned
    by_cases h1 : y = a
    · rw [if_pos h1, h1, ha]
    · by_cases h2 : y = b
      · rw [if_neg h1, if_pos h2, h2, hb]
      · rw [if_neg h1, if_neg h2]
  rw [e] at R
  exact R
end
section
variable {prog : Program} {w : World} {A : Around} {E : Value → Shared → Prop} {s : Shared} {h₀ : Heap} {Q : Flow → Shared → Prop}
abbrev turned3 (a b c : Str) (m₀ : Str → Option Value) (u v x : Option Value) : Str → Option Value := fun y => if y = a then u else if y = b then v else if y = c then x else m₀ y
theorem turned3_end {a b c : Str} (hab : a ≠ b) (hac : a ≠ c) (hbc : b ≠ c) {m₀ : Str → Option Value} {u v x u' v' x' : Option Value} :
    (fun y => if y = b then v' else (fun y => if y = a then u' else (fun y => if y = c then x' else turned3 a b c m₀ u v x y) y) y) = turned3 a b c m₀ u' v' x' := by
  funext y
  unfold turned3
  by_cases h1 : y = a
  · subst h1; simp only [hab, if_true, if_false]
  · by_cases h2 : y = b
    · subst h2; simp only [h1, if_true, if_false]
    · by_cases h3 : y = c
      · subst h3; simp only [h1, h2, if_true, if_false]
      · simp only [h1, h2, h3, if_false]
theorem turned3_brk {a b c : Str} (hac : a ≠ c) (hbc : b ≠ c) {m₀ : Str → Option Value} {u v x x' : Option Value} :
    (fun y => if y = c then x' else turned3 a b c m₀ u v x y) = turned3 a b c m₀ u v x' := by
  funext y
  unfold turned3
  by_cases h3 : y = c
  · subst h3; simp only [Ne.symm hac, Ne.symm hbc, if_true, if_false]
  · simp only [h3, if_false]
theorem scan_rest {a b c : Str} {p1 p2 p3 p4 p5 p6 p7 p8 p9 p10 p11 p12 : Pos} {kk : Nat} {qual : Str} {scope : Scope} {L f : Addr} {cdv : Value} {m₀ : Str → Option Value} {news : List (Addr × Obj)} {keep : List (Addr × Obj)} (hkp : SubL keep news) {I : Addr}
    (hk : scope.kind = .function) (ha : (envOf qual scope L f cdv).kindOf a = some .local) (hb : (envOf qual scope L f cdv).kindOf b = some .local) (hc : (envOf qual scope L f cdv).kindOf c = some .local)
    (hab : a ≠ b) (hac : a ≠ c) (hbc : b ≠ c) (hda : (a == ("__debug__" : Str)) = false) (hdc : (c == ("__debug__" : Str)) = false) (hnI : ∀ q ∈ news, q.1 < I) {R : Int × Int}
    (done : ∀ (t t' : Tok) (dv : Option Value) (h : Heap) (tk : Nat), Fr h₀ L h (turned3 a b c m₀ (some (.int R.1 t)) (some (.int R.2 t')) dv) → News h₀ L h news → Q .next { s with heap := h, toks := tk }) :
    ∀ {vs : List Value} {ns : List Int}, IntsAre vs ns → ∀ (x k : Int) (t t' : Tok) (dv : Option Value), scan ns x k = R →
      ItemsRest prog w A E h₀ (envOf qual scope L f cdv) (.Name c p1) [.If (.Compare (.Name a p2) [.Lt] [.Name c p3] p4) [.Break p5] [] p6, .AugAssign (.Name a p7) .Sub (.Name c p8) p9, .AugAssign (.Name b p10) .Add (.Constant (.int 1) kk p11) p12] Q s [(I, "list_iterator")] keep (vs.map .val)
        (turned3 a b c m₀ (some (.int x t)) (some (.int k t')) dv) news := by
  intro vs ns hi
  induction hi with
  | nil => exact fun x k t t' dv e => by subst e; exact ItemsRest.zero fun h tk F N => done t t' dv h tk F N
  | cons v tv hr ih =>
    intro x k t t' dv e
    refine ItemsRest.val fun h tk F => AllObj.cons fun o ho => AllObj.nil fun N => ?_
    refine PyProof.Rows.assign_Name ?_
    refine stN F N (fun h1 F1 N1 => ?_) hk hc
    refine wpAny_execs_cons ?_
    refine wpAny_If ?_
    refine wpAny_isTrue_Compare1 ?_
    refine ld F1 (v := .int x t) ?_ ?_ hk ha hda
    · show (if a = c then _ else (if a = a then _ else _)) = _
      rw [if_neg hac, if_pos rfl]
    refine ld F1 (v := .int v tv) ?_ ?_ hk hc hdc
    · show (if c = c then _ else _) = _; rw [if_pos rfl]
    refine PyProof.Rows.lt_int ?_
    refine wpAny_truthy_bool ?_
    by_cases hx : x < v
    · rw [if_pos (decide_eq_true hx)]
      refine wpAny_execs_cons ?_
      refine wpAny_Break ?_
      have e' : (x, k) = R := by rw [← e, scan, if_pos hx]
      subst e'
      rw [turned3_brk hac hbc] at F1
      exact done t t' _ h1 _ F1 fun q hq => N1 q (.tail _ hq)
    · rw [if_neg (by rw [decide_eq_true_eq]; exact hx)]
      refine wpAny_execs_nil ?_
      refine wpAny_execs_cons ?_
      refine wpAny_AugAssign_Name ?_
      refine ldn F1 (v := .int x t) ?_ ?_ hk ha
      · show (if a = c then _ else (if a = a then _ else _)) = _
        rw [if_neg hac, if_pos rfl]
      refine ld F1 (v := .int v tv) ?_ ?_ hk hc hdc
      · show (if c = c then _ else _) = _; rw [if_pos rfl]
      refine PyProof.Rows.isub_int ?_
      refine stN F1 N1 (fun h2 F2 N2 => ?_) hk ha
      refine wpAny_execs_cons ?_
      refine wpAny_AugAssign_Name ?_
      refine ldn F2 (v := .int k t') ?_ ?_ hk hb
      · show (if b = a then _ else (if b = c then _ else (if b = a then _ else (if b = b then _ else _)))) = _
        rw [if_neg (Ne.symm hab), if_neg hbc, if_neg (Ne.symm hab), if_pos rfl]
      refine wpAny_Constant_int ?_
      refine PyProof.Rows.iadd_int ?_
      refine stN F2 N2 (fun h3 F3 N3 => ?_) hk hb
      refine wpAny_execs_nil ⟨h3, _, _, news, rfl, F3, N3, fun p hp q hq e => ?_, hkp, ?_⟩
      · rw [List.mem_singleton] at hq
        subst hq
        exact absurd e (Nat.ne_of_lt (hnI p hp))
      · rw [turned3_end hab hac hbc]
        exact ih _ _ _ _ _ (by rw [← e, scan, if_neg hx])
theorem scan_start {a b c : Str} {m₀ : Str → Option Value} {env : Env} {target : PySem.Expr} {body : List Stmt} {news : List (Addr × Obj)} {keep : List (Addr × Obj)} {ws : List (Addr × String)} {xs : List Itm} {x k : Int} {t t' : Tok} (ha : m₀ a = some (.int x t)) (hb : m₀ b = some (.int k t')) (hc : m₀ c = none)
    (R : ItemsRest prog w A E h₀ env target body Q s ws keep xs (turned3 a b c m₀ (some (.int x t)) (some (.int k t')) none) news) : ItemsRest prog w A E h₀ env target body Q s ws keep xs m₀ news := by
  have e : turned3 a b c m₀ (some (.int x t)) (some (.int k t')) none = m₀ := by
    funext y
    unfold turned3
    by_cases h1 : y = a
    · rw [if_pos h1, h1, ha]
    · by_cases h2 : y = b
      · rw [if_neg h1, if_pos h2, h2, hb]
      · by_cases h3 : y = c
        · rw [if_neg h1, if_neg h2, if_pos h3, h3, hc]
        · rw [if_neg h1, if_neg h2, if_neg h3]
  rw [e] at R
  exact R
end
section
variable {prog : Program} {w : World} {A : Around} {E : Value → Shared → Prop} {s : Shared} {h₀ : Heap} {L : Addr} {m : Str → Option Value} {news : List (Addr × Obj)}
/-- a while whose one int climbs to a top -/
theorem whl_up {env : Env} {test : PySem.Expr} {body orelse : List Stmt} {pos : Pos} {Q : Flow → Shared → Prop} (x : Str) (top : Int) {f₀ : Int} {t₀ : Tok} (F₀ : Fr h₀ L s.heap m) (N₀ : News h₀ L s.heap news) (hm : m x = some (.int f₀ t₀)) (hle : f₀ ≤ top) (hE : PassesOwn (model prog w) A env E)
    (turn : ∀ (f : Int) (t : Tok) (h : Heap) (tk : Nat), f₀ ≤ f → f < top → Fr h₀ L h (fun y => if y = x then some (.int f t) else m y) → News h₀ L h news →
      wpAny (model prog w) A (isTrue test env (eval test env)) (fun b s₂ => WhlIf b (wpAny (model prog w) A (execs body env) (Join1 h₀ L s x (f + 1) m news) E s₂) False) E { s with heap := h, toks := tk })
    (stop : ∀ (t : Tok) (h : Heap) (tk : Nat), Fr h₀ L h (fun y => if y = x then some (.int top t) else m y) → News h₀ L h news →
      wpAny (model prog w) A (isTrue test env (eval test env)) (fun b s₂ => WhlIf b False (wpAny (model prog w) A (execs orelse env) Q E s₂)) E { s with heap := h, toks := tk }) :
    wpAny (model prog w) A (exec (.While test body orelse pos) env) Q E s := by
  refine whl_start 0 ?_
  have all : ∀ (n : Nat) (f : Int) (t : Tok) (h : Heap) (tk : Nat), f₀ ≤ f → f + n = top → Fr h₀ L h (fun y => if y = x then some (.int f t) else m y) → News h₀ L h news → WhlRest prog w A E env test body orelse Q 0 { s with heap := h, toks := tk } := by
    intro n
    induction n with
    | zero =>
      intro f t h tk hf hn F N
      obtain rfl : f = top := by omega
      refine whl_turn (k := 0) hE (wpAny_mono (stop t h tk F N) (fun b s₂ hb => ?_) fun _ _ e => e)
      cases b with
      | true => exact absurd hb (by unfold WhlIf; rw [if_pos rfl]; exact not_false)
      | false => exact WhlIf.no rfl (by unfold WhlIf at hb; rw [if_neg Bool.false_ne_true] at hb; exact hb)
    | succ n ih =>
      intro f t h tk hf hn F N
      refine whl_turn (k := 0) hE (wpAny_mono (turn f t h tk hf (by omega) F N) (fun b s₂ hb => ?_) fun _ _ e => e)
      cases b with
      | false => exact absurd hb (by unfold WhlIf; rw [if_neg Bool.false_ne_true]; exact not_false)
      | true =>
        refine WhlIf.yes rfl (wpAny_mono (by unfold WhlIf at hb; rw [if_pos rfl] at hb; exact hb) (fun fl s₃ j => ?_) fun _ _ e => e)
        obtain ⟨rfl, t', h', tk', rfl, F', N'⟩ := j
        exact ih (f + 1) t' h' tk' (by omega) (by omega) F' N'
  have e : (fun y => if y = x then some (.int f₀ t₀) else m y) = m := by
    funext y
    by_cases h1 : y = x
    · rw [if_pos h1, h1, hm]
    · rw [if_neg h1]
  exact all (top - f₀).toNat f₀ t₀ s.heap s.toks (Int.le_refl _) (by omega) (e.symm ▸ F₀) N₀
theorem thu_sizes : ∀ k : Nat, k < 7 → (Builtin.Range.small k 365 7 = true ∧ Builtin.Range.small k 366 7 = true) ∧ (0 ≤ Builtin.Range.rangeSize k 365 7 ∧ (Builtin.Range.rangeSize k 365 7).toNat ≤ 2 ^ 24) ∧ 0 ≤ Builtin.Range.rangeSize k 366 7 ∧ (Builtin.Range.rangeSize k 366 7).toNat ≤ 2 ^ 24 := by decide +kernel
theorem list_rangeL {r : Addr} {a b : Int} {t u v : Tok} {Q : Value → Shared → Prop} (hh : A.handled = none) (F : Fr h₀ L s.heap m) (N : News h₀ L s.heap news)
    (hr : IsRange s.heap r a b 7 t u v) (h0 : 0 ≤ a) (h7 : a < 7) (hb : b = 365 ∨ b = 366)
    (hQ : ∀ D h' tk (ys : List Value), Fr h₀ L h' m → News h₀ L h' news → h'.IsList D ys.toArray → (ys.length : Int) = Builtin.Range.rangeSize a b 7 → Q (.ref D) { s with heap := h', toks := tk }) :
    wpAny (model prog w) A (call (.type "list") [.ref r]) Q E s := by
  obtain ⟨k, rfl⟩ := Int.eq_ofNat_of_zero_le h0
  have hk := thu_sizes k (Int.ofNat_lt.mp h7)
  have hs : Builtin.Range.small k b 7 = true := by rcases hb with rfl | rfl; exact hk.1.1; exact hk.1.2
  have hz : 0 ≤ Builtin.Range.rangeSize k b 7 ∧ (Builtin.Range.rangeSize k b 7).toNat ≤ 2 ^ 24 := by rcases hb with rfl | rfl; exact hk.2.1; exact hk.2.2
  exact list_rangeD hh F N hr hs (Int.toNat_of_nonneg hz.1).symm hz.2 fun h' tk ys F' N' _ _ hL _ hC => hQ _ h' tk ys F' N' hL (by rw [hC.length_eq, List.length_map, rangeInts_length]; exact Int.toNat_of_nonneg hz.1)
theorem len_thu {D : Addr} {ys : List Value} {a b : Int} {Q : Value → Shared → Prop} {y : Int} (hl : s.heap.IsList D ys.toArray) (he : (ys.length : Int) = Builtin.Range.rangeSize a b 7) (h0 : 0 ≤ a) (h7 : a < 7) (hb : b = 365 + lp y) (h3 : (jan y + a) % 7 = 3)
    (h : ∀ t, Q (.int (weeks y) t) { s with toks := s.toks + 1 + 1 }) : wpAny (model prog w) A (call (.builtin "len") [.ref D]) Q E s := by
  have hlp := lp_bound y
  have hw := weeks_thu y a h0 h7 h3
  have hs : ((ys.toArray.size : Nat) : Int) = weeks y := by
    rw [List.size_toArray, he, hb]
    unfold Builtin.Range.rangeSize
    rw [if_pos (by decide), if_pos (by omega)]
    omega
  have hwb := weeks_bound y
  refine len_list hl (by omega) ?_
  rw [hs]
  exact h _
end
theorem in_K_tup {prog : Program} {w : World} {A : Around} {E : Value → Shared → Prop} {s : Shared} {h₀ : Heap} {L : Addr} {m : Str → Option Value} {K : Frag} {t : Addr} {od : Option Addr} {items : Array Value} {n : Nat} {sl : Array (Option Value)} {ns : List Int} {x : Int} {u : Tok} {Q : Value → Shared → Prop}
    (F : Fr h₀ L s.heap m) (X : K.In h₀) (ho : K.lookup t = some ⟨.type "tuple", od, .seq items n, sl⟩) (hi : IntsAre items.toList ns)
    (h : Q (.bool (ns.any (· == x))) s) : wpAny (model prog w) A (compareOp .In (.int x u) (.ref t)) Q E s :=
  in_tuple_ints ⟨_, F.keep _ _ (X _ _ ho), rfl, _, rfl⟩ hi h
abbrev aliases : List Str := [Str.ofString "to_jd_gregorian", Str.ofString "from_jd_gregorian", Str.ofString "to_jd_iso", Str.ofString "from_jd_iso"]
abbrev CutL (w : World) (s₀ : Shared) (mg mb : Str → Option Value) (f : Addr) (k : Nat) (vs : List Value) (Out : Heap → Heap → Value → Prop) : Prop :=
  Cut PySem.Challenge.rw_ja0017_01.row.prog w (hd.heap_39 w.params) hd.view_39 (looseW hd.view_39 aliases) (ExcName.means s₀.heap) mg mb f k vs Out

theorem c_isleap (w : World) (s₀ : Shared) (mg mb : Str → Option Value) (y : Int) (t : Tok) : CutL w s₀ mg mb 22 1 [.int y t] (OutB (leap y)) := by
  dsimp only [CutL, aliases]
  k_fill
  k_dflt (refine' cut_of ?k6 ?k7 ?k9 ?kB ?_ ?kp ?c2 ?c3 ?c4 ?c5; (case k6 => k_is); (case k7 => k_is); (case k9 => exact rfl); (case kB => exact locs rfl); (case kp => decide); (case c2 => exact rfl); (case c3 => exact rfl); (case c4 => exact rfl); (case c5 => decide); k_whole; intro dp un gd cn cs a ccd cl outer A₀ base L s E g' L' h' hck hdp hun F' N' B' X' T'; (try dsimp only); (try k_fold))
  k_steps
  all_goals (dsimp only; refine' backB (by assumption) ?_; law_clear; law_fm; rw [Bool.eq_iff_iff]; simp only [leap, decide_eq_true_eq, beq_iff_eq, bne_iff_ne, ne_eq] at *; omega)
theorem c_isleap_eq (w : World) (s₀ : Shared) (mg mb : Str → Option Value) (y : Int) (t : Tok) (b : Bool) (h : leap y = b) : CutL w s₀ mg mb 22 1 [.int y t] (OutB b) := h ▸ c_isleap w s₀ mg mb y t

theorem c_long (w : World) (s₀ : Shared) (mg mb : Str → Option Value) (y : Int) (t : Tok) : CutL w s₀ mg mb 170 1 [.int y t] (OutB (leap y)) := by
  dsimp only [CutL, aliases]
  k_fill
  k_dflt (refine' cut_of ?k6 ?k7 ?k9 ?kB ?_ ?kp ?c2 ?c3 ?c4 ?c5; (case k6 => k_is); (case k7 => k_is); (case k9 => exact rfl); (case kB => exact locs rfl); (case kp => decide); (case c2 => exact rfl); (case c3 => exact rfl); (case c4 => exact rfl); (case c5 => decide); k_whole; intro dp un gd cn cs a ccd cl outer A₀ base L s E g' L' h' hck hdp hun F' N' B' X' T'; (try dsimp only); (try k_fold))
  k_steps
  all_goals (dsimp only; refine' backB (by assumption) ?_; law_clear; law_fm; rw [Bool.eq_iff_iff]; simp only [leap, decide_eq_true_eq, beq_iff_eq, bne_iff_ne, ne_eq] at *; omega)
theorem c_long_eq (w : World) (s₀ : Shared) (mg mb : Str → Option Value) (y : Int) (t : Tok) (b : Bool) (h : leap y = b) : CutL w s₀ mg mb 170 1 [.int y t] (OutB b) := h ▸ c_long w s₀ mg mb y t

theorem c_jan (w : World) (s₀ : Shared) (mg mb : Str → Option Value) (y : Int) (t : Tok) : CutL w s₀ mg mb 184 1 [.int y t] (OutI (jan y)) := by
  dsimp only [CutL, aliases]
  k_fill
  k_dflt (refine' cut_of ?k6 ?k7 ?k9 ?kB ?_ ?kp ?c2 ?c3 ?c4 ?c5; (case k6 => k_is); (case k7 => k_is); (case k9 => exact rfl); (case kB => exact locs rfl); (case kp => decide); (case c2 => exact rfl); (case c3 => exact rfl); (case c4 => exact rfl); (case c5 => decide); k_whole; intro dp un gd cn cs a ccd cl outer A₀ base L s E g' L' h' hck hdp hun F' N' B' X' T'; (try dsimp only); (try k_fold))
  k_steps
  all_goals (dsimp only; refine' backI (by assumption) ?_; law_clear; unfold jan; law_fm; omega)

theorem c_year (w : World) (s₀ : Shared) (mg mb : Str → Option Value) (n : Int) (t : Tok) : CutL w s₀ mg mb 156 1 [.int n t] (OutI (yearOf n)) := by
  dsimp only [CutL, aliases]
  k_fill
  k_dflt (refine' cut_of ?k6 ?k7 ?k9 ?kB ?_ ?kp ?c2 ?c3 ?c4 ?c5; (case k6 => k_is); (case k7 => k_is); (case k9 => exact rfl); (case kB => exact locs rfl); (case kp => decide); (case c2 => exact rfl); (case c3 => exact rfl); (case c4 => exact rfl); (case c5 => decide); k_whole; intro dp un gd cn cs a ccd cl outer A₀ base L s E g' L' h' hck hdp hun F' N' B' X' T'; (try dsimp only); (try k_fold))
  k_steps
  all_goals (dsimp only; refine' backI (by assumption) ?_; law_clear; unfold yearOf; (try simp only [show ((10 : Int) ^ Int.toNat 18) = 1000000000000000000 from rfl]); (try simp (disch := omega) only [Int.fmod_eq_emod_of_nonneg] at *); (repeat' split); all_goals omega)
local macro_rules | `(tactic| walk_at $s:str) => `(tactic| k_extra $s)
local macro_rules | `(tactic| k_room) => `(tactic| ktr_room)
theorem reg_C2_1 : True := by
  k_with_none
  k_with "compareOp In int ref" => (k_here; k_dflt (refine' in_K_tup ?k1 ?k2 ?k3 ?k4 ?_; (case k1 => k_asm); (case k2 => k_asm); (case k3 => k_is); (case k4 => l_intsW); k_whole))
  k_with "ite" => (k_here; k_openite; k_spoken; first | (refine ite_pos (by (law_purse 20000 => (law_clear; (try law_fm); (try simp only [decide_eq_true_eq, decide_eq_false_iff_not, Bool.and_eq_true, Bool.not_eq_true', Bool.not_eq_false', Bool.not_eq_true, Bool.not_eq_eq_eq_not, beq_iff_eq, bne_iff_ne, beq_eq_false_iff_ne, bne_eq_false_iff_eq, ne_eq, List.any_cons, List.any_nil, Bool.or_false, Bool.or_eq_true] at *); omega))) ?_; walk_say "PRUNED eq") | (refine ite_neg (by (law_purse 20000 => (law_clear; (try law_fm); (try simp only [decide_eq_true_eq, decide_eq_false_iff_not, Bool.and_eq_true, Bool.not_eq_true', Bool.not_eq_false', Bool.not_eq_true, Bool.not_eq_eq_eq_not, beq_iff_eq, bne_iff_ne, beq_eq_false_iff_ne, bne_eq_false_iff_eq, ne_eq, List.any_cons, List.any_nil, Bool.or_false, Bool.or_eq_true] at *); omega))) ?_; walk_say "PRUNED eq"))
  k_with "subscriptTail Name Slice ref ref" => (k_here; (with_reducible show wpAny _ _ (subscriptTail _ (PySem.Expr.Slice none (some _) none _) (Value.ref _) (Value.ref _)) _ _ _); k_dflt (refine' slice_K_upto ?F ?X ?N ?l ?h0 ?e ?b ?z ?_ ?s ?t; (case F => k_asm); (case X => k_asm); (case N => k_asm); (case l => k_is); (case h0 => decide); (case e => exact rfl); (case b => decide); (case z => kmk_size); (case s => with_unfolding_all rfl); (case t => kmk_pure)); intro D' h' F' N' l1; (try k_lt l1); (try k_sweep))
  k_with "exec For Name Subscript cons nil" => (k_here; (rename Fr _ _ _ _ => lF'); (with_unfolding_all refine' For_turns lF' ?_; k_whole))
  k_with "eval Call" => (k_here; k_dflt (refine Call_ ?_))
  k_with "call ref" => (k_here; k_dflt (k_dflt (refine' useB (c_isleap _ _ _ _ _ _) ?k1 ?k2 ?k3 ?k4 ?k5 ?kK ?kd ?ku ?_; (case k1 => k_asm); (case k2 => k_asm); (case k3 => k_asm); (case k4 => k_asm); (case k5 => k_asm); (case kK => first | exact rfl | assumption); (case kd => ktr_room); (case ku => ktr_units))); intro h9 tk9 F9 N9; (try dsimp only); (try k_fold))
  trivial
theorem c_legal (w : World) (s₀ : Shared) (mg mb : Str → Option Value) (y m d : Int) (t1 t2 t3 : Tok) (hd : 1 ≤ d ∧ d ≤ dim y m) : CutL w s₀ mg mb 79 2 [.int y t1, .int m t2, .int d t3] (OutB true) := by
  obtain ⟨hd1, hd2⟩ := hd
  dsimp only [CutL, aliases]
  k_fill
  k_dflt (refine' cut_of ?k6 ?k7 ?k9 ?kB ?_ ?kp ?c2 ?c3 ?c4 ?c5; (case k6 => k_is); (case k7 => k_is); (case k9 => exact rfl); (case kB => exact locs rfl); (case kp => decide); (case c2 => exact rfl); (case c3 => exact rfl); (case c4 => exact rfl); (case c5 => decide); k_whole; intro dp un gd cn cs a ccd cl outer A₀ base L s E g' L' h' hck hdp hun F' N' B' X' T'; (try dsimp only); (try k_fold))
  k_with "exec If" => (k_here; (with_reducible show wpAny _ _ (exec (Stmt.If _ _ _ ⟨43, 4, 46, 57⟩) _) _ _ _); (k_dflt (refine' join1 (Str.ofString "daysinmonth") (dim y m) ?F ?N (wpAny_If ?_) (fun t' h' tk' F' N' => ?_); (case F => k_asm); (case N => k_asm))); (all_goals (try dsimp only)); (all_goals (try k_fold)))
  k_steps
  all_goals ((try k_unfold); (try dsimp only); first | (refine' backB (by assumption) ?_; rfl) | (refine' join1_set (by assumption) (by assumption) ?_; first | exact dim_2t (by assumption) (by assumption) | exact dim_2f (by assumption) (by assumption) | exact dim_30 (by assumption) (by assumption) | exact dim_31 (by assumption) (by assumption)))
theorem reg_C2_2 : True := by
  k_with "call ref" => (k_here; k_dflt (k_dflt (refine' useB (c_legal _ _ _ _ _ _ _ _ _ _ ?p0) ?k1 ?k2 ?k3 ?k4 ?k5 ?kK ?kd ?ku ?_; (case k1 => k_asm); (case k2 => k_asm); (case k3 => k_asm); (case k4 => k_asm); (case k5 => k_asm); (case kK => first | exact rfl | assumption); (case p0 => assumption); (case kd => ktr_room); (case ku => ktr_units))); intro h9 tk9 F9 N9; (try dsimp only); (try k_fold))
  trivial
theorem c_tojd (w : World) (s₀ : Shared) (mg mb : Str → Option Value) (y m d : Int) (t1 t2 t3 : Tok) (hd : 1 ≤ d ∧ d ≤ dim y m) : CutL w s₀ mg mb 86 3 [.int y t1, .int m t2, .int d t3] (OutI (jan y + cum y m + d - 1)) := by
  dsimp only [CutL, aliases]
  k_fill
  k_dflt (refine' cut_of ?k6 ?k7 ?k9 ?kB ?_ ?kp ?c2 ?c3 ?c4 ?c5; (case k6 => k_is); (case k7 => k_is); (case k9 => exact rfl); (case kB => exact locs rfl); (case kp => decide); (case c2 => exact rfl); (case c3 => exact rfl); (case c4 => exact rfl); (case c5 => decide); k_whole; intro dp un gd cn cs a ccd cl outer A₀ base L s E g' L' h' hck hdp hun F' N' B' X' T'; (try dsimp only); (try k_fold))
  k_with "exec If" => (k_here; (with_reducible show wpAny _ _ (exec (Stmt.If _ _ _ ⟨52, 4, 57, 21⟩) _) _ _ _); (k_dflt (refine' join1 (Str.ofString "leap_adj") (ladj y m) ?F ?N (wpAny_If ?_) (fun t' h' tk' F' N' => ?_); (case F => k_asm); (case N => k_asm))); (all_goals (try dsimp only)); (all_goals (try k_fold)))
  k_steps
  all_goals ((try k_unfold); (try dsimp only); first | (refine' backI (by assumption) ?_; law_clear; rw [cum_adj]; unfold jan; law_fm; omega) | (refine' join1_set (by assumption) (by assumption) ?_; first | exact ladj_le (by assumption) | exact ladj_t (by assumption) (by assumption) | exact ladj_f (by assumption) (by assumption)))
theorem d1_ok (y m : Int) : 1 ≤ (1 : Int) ∧ 1 ≤ dim y m := by have := dim_bound y m; omega
theorem d28_ok (y : Int) : 1 ≤ (28 : Int) ∧ 28 ≤ dim y 12 := ⟨by decide, (dim_bound y 12).1⟩
theorem reg_C3_1 : True := by
  k_with_none
  k_with "compareOp In int ref" => (k_here; k_dflt (refine' in_K_tup ?k1 ?k2 ?k3 ?k4 ?_; (case k1 => k_asm); (case k2 => k_asm); (case k3 => k_is); (case k4 => l_intsW); k_whole))
  k_with "ite" => (k_here; k_openite; k_spoken; first | (refine ite_pos (by (law_purse 20000 => (law_clear; (try law_fm); (try simp only [decide_eq_true_eq, decide_eq_false_iff_not, Bool.and_eq_true, Bool.not_eq_true', Bool.not_eq_false', Bool.not_eq_true, Bool.not_eq_eq_eq_not, beq_iff_eq, bne_iff_ne, beq_eq_false_iff_ne, bne_eq_false_iff_eq, ne_eq, List.any_cons, List.any_nil, Bool.or_false, Bool.or_eq_true] at *); omega))) ?_; walk_say "PRUNED eq") | (refine ite_neg (by (law_purse 20000 => (law_clear; (try law_fm); (try simp only [decide_eq_true_eq, decide_eq_false_iff_not, Bool.and_eq_true, Bool.not_eq_true', Bool.not_eq_false', Bool.not_eq_true, Bool.not_eq_eq_eq_not, beq_iff_eq, bne_iff_ne, beq_eq_false_iff_ne, bne_eq_false_iff_eq, ne_eq, List.any_cons, List.any_nil, Bool.or_false, Bool.or_eq_true] at *); omega))) ?_; walk_say "PRUNED eq"))
  k_with "subscriptTail Name Slice ref ref" => (k_here; (with_reducible show wpAny _ _ (subscriptTail _ (PySem.Expr.Slice none (some _) none _) (Value.ref _) (Value.ref _)) _ _ _); k_dflt (refine' slice_K_upto ?F ?X ?N ?l ?h0 ?e ?b ?z ?_ ?s ?t; (case F => k_asm); (case X => k_asm); (case N => k_asm); (case l => k_is); (case h0 => decide); (case e => exact rfl); (case b => decide); (case z => kmk_size); (case s => with_unfolding_all rfl); (case t => kmk_pure)); intro D' h' F' N' l1; (try k_lt l1); (try k_sweep))
  k_with "exec For Name Subscript cons nil" => (k_here; (rename Fr _ _ _ _ => lF'); (with_unfolding_all refine' For_turns lF' ?_; k_whole))
  k_with "eval Call" => (k_here; k_dflt (refine Call_ ?_))
  k_with "call ref" => (k_here; k_dflt (k_dflt (refine' useB (c_isleap _ _ _ _ _ _) ?k1 ?k2 ?k3 ?k4 ?k5 ?kK ?kd ?ku ?_; (case k1 => k_asm); (case k2 => k_asm); (case k3 => k_asm); (case k4 => k_asm); (case k5 => k_asm); (case kK => first | exact rfl | assumption); (case kd => ktr_room); (case ku => ktr_units))); intro h9 tk9 F9 N9; (try dsimp only); (try k_fold))
  k_with "call ref" => (k_here; k_dflt (k_dflt (refine' useB (c_legal _ _ _ _ _ _ _ _ _ _ ?p0) ?k1 ?k2 ?k3 ?k4 ?k5 ?kK ?kd ?ku ?_; (case k1 => k_asm); (case k2 => k_asm); (case k3 => k_asm); (case k4 => k_asm); (case k5 => k_asm); (case kK => first | exact rfl | assumption); (case p0 => assumption); (case kd => ktr_room); (case ku => ktr_units))); intro h9 tk9 F9 N9; (try dsimp only); (try k_fold))
  k_with "call ref" => (k_here; k_dflt (k_dflt (refine' useI (c_tojd _ _ _ _ _ _ _ _ _ _ ?p0) ?k1 ?k2 ?k3 ?k4 ?k5 ?kK ?kd ?ku ?_; (case k1 => k_asm); (case k2 => k_asm); (case k3 => k_asm); (case k4 => k_asm); (case k5 => k_asm); (case kK => first | exact rfl | assumption); (case p0 => first | assumption | exact d1_ok _ _ | exact d28_ok _); (case kd => ktr_room); (case ku => ktr_units))); intro t9 h9 tk9 F9 N9; (try dsimp only); (try k_fold))
  trivial
theorem c_monday (w : World) (s₀ : Shared) (mg mb : Str → Option Value) (y : Int) (t : Tok) : CutL w s₀ mg mb 128 4 [.int y t] (OutI (monday y)) := by
  dsimp only [CutL, aliases]
  k_fill
  k_dflt (refine' cut_of ?k6 ?k7 ?k9 ?kB ?_ ?kp ?c2 ?c3 ?c4 ?c5; (case k6 => k_is); (case k7 => k_is); (case k9 => exact rfl); (case kB => exact locs rfl); (case kp => decide); (case c2 => exact rfl); (case c3 => exact rfl); (case c4 => exact rfl); (case c5 => decide); k_whole; intro dp un gd cn cs a ccd cl outer A₀ base L s E g' L' h' hck hdp hun F' N' B' X' T'; (try dsimp only); (try k_fold))
  k_steps
  all_goals (dsimp only; refine' backI (by assumption) ?_; law_clear; simp only [cum_one] at *; unfold monday; law_fm; split <;> omega)
theorem c_weeks (w : World) (s₀ : Shared) (mg mb : Str → Option Value) (y : Int) (t : Tok) : CutL w s₀ mg mb 121 4 [.int y t] (OutI (weeks y)) := by
  dsimp only [CutL, aliases]
  k_fill
  k_dflt (refine' cut_of ?k6 ?k7 ?k9 ?kB ?_ ?kp ?c2 ?c3 ?c4 ?c5; (case k6 => k_is); (case k7 => k_is); (case k9 => exact rfl); (case kB => exact locs rfl); (case kp => decide); (case c2 => exact rfl); (case c3 => exact rfl); (case c4 => exact rfl); (case c5 => decide); k_whole; intro dp un gd cn cs a ccd cl outer A₀ base L s E g' L' h' hck hdp hun F' N' B' X' T'; (try dsimp only); (try k_fold))
  k_steps
  all_goals (dsimp only; refine' backI (by assumption) ?_; law_clear; simp only [cum_one] at *; unfold weeks; law_fm; simp_all)
theorem c_isotojd (w : World) (s₀ : Shared) (mg mb : Str → Option Value) (y n d : Int) (t1 t2 t3 : Tok) (hn : 1 ≤ n) : CutL w s₀ mg mb 107 7 [.int y t1, .int n t2, .int d t3] (OutI (monday y + 7 * (n - 1) + d - 1)) := by
  dsimp only [CutL, aliases]
  k_fill
  k_dflt (refine' cut_of ?k6 ?k7 ?k9 ?kB ?_ ?kp ?c2 ?c3 ?c4 ?c5; (case k6 => k_is); (case k7 => k_is); (case k9 => exact rfl); (case kB => exact locs rfl); (case kp => decide); (case c2 => exact rfl); (case c3 => exact rfl); (case c4 => exact rfl); (case c5 => decide); k_whole; intro dp un gd cn cs a ccd cl outer A₀ base L s E g' L' h' hck hdp hun F' N' B' X' T'; (try dsimp only); (try k_fold))
  k_steps
  all_goals ((try k_unfold); (try dsimp only); refine' backI (by assumption) ?_; exact iso_end _ _ _)
theorem reg_C4_1 : True := by
  k_with_none
  k_with "compareOp In int ref" => (k_here; k_dflt (refine' in_K_tup ?k1 ?k2 ?k3 ?k4 ?_; (case k1 => k_asm); (case k2 => k_asm); (case k3 => k_is); (case k4 => l_intsW); k_whole))
  k_with "ite" => (k_here; k_openite; k_spoken; first | (refine ite_pos (by (law_purse 20000 => (law_clear; (try law_fm); (try simp only [decide_eq_true_eq, decide_eq_false_iff_not, Bool.and_eq_true, Bool.not_eq_true', Bool.not_eq_false', Bool.not_eq_true, Bool.not_eq_eq_eq_not, beq_iff_eq, bne_iff_ne, beq_eq_false_iff_ne, bne_eq_false_iff_eq, ne_eq, List.any_cons, List.any_nil, Bool.or_false, Bool.or_eq_true] at *); omega))) ?_; walk_say "PRUNED eq") | (refine ite_neg (by (law_purse 20000 => (law_clear; (try law_fm); (try simp only [decide_eq_true_eq, decide_eq_false_iff_not, Bool.and_eq_true, Bool.not_eq_true', Bool.not_eq_false', Bool.not_eq_true, Bool.not_eq_eq_eq_not, beq_iff_eq, bne_iff_ne, beq_eq_false_iff_ne, bne_eq_false_iff_eq, ne_eq, List.any_cons, List.any_nil, Bool.or_false, Bool.or_eq_true] at *); omega))) ?_; walk_say "PRUNED eq"))
  k_with "subscriptTail Name Slice ref ref" => (k_here; (with_reducible show wpAny _ _ (subscriptTail _ (PySem.Expr.Slice none (some _) none _) (Value.ref _) (Value.ref _)) _ _ _); k_dflt (refine' slice_K_upto ?F ?X ?N ?l ?h0 ?e ?b ?z ?_ ?s ?t; (case F => k_asm); (case X => k_asm); (case N => k_asm); (case l => k_is); (case h0 => decide); (case e => exact rfl); (case b => decide); (case z => kmk_size); (case s => with_unfolding_all rfl); (case t => kmk_pure)); intro D' h' F' N' l1; (try k_lt l1); (try k_sweep))
  k_with "exec For Name Subscript cons nil" => (k_here; (rename Fr _ _ _ _ => lF'); (with_unfolding_all refine' For_turns lF' ?_; k_whole))
  k_with "eval Call" => (k_here; k_dflt (refine Call_ ?_))
  k_with "call ref" => (k_here; k_dflt (k_dflt (refine' useB (c_isleap _ _ _ _ _ _) ?k1 ?k2 ?k3 ?k4 ?k5 ?kK ?kd ?ku ?_; (case k1 => k_asm); (case k2 => k_asm); (case k3 => k_asm); (case k4 => k_asm); (case k5 => k_asm); (case kK => first | exact rfl | assumption); (case kd => ktr_room); (case ku => ktr_units))); intro h9 tk9 F9 N9; (try dsimp only); (try k_fold))
  k_with "call ref" => (k_here; k_dflt (k_dflt (refine' useB (c_legal _ _ _ _ _ _ _ _ _ _ ?p0) ?k1 ?k2 ?k3 ?k4 ?k5 ?kK ?kd ?ku ?_; (case k1 => k_asm); (case k2 => k_asm); (case k3 => k_asm); (case k4 => k_asm); (case k5 => k_asm); (case kK => first | exact rfl | assumption); (case p0 => assumption); (case kd => ktr_room); (case ku => ktr_units))); intro h9 tk9 F9 N9; (try dsimp only); (try k_fold))
  k_with "call ref" => (k_here; k_dflt (k_dflt (refine' useI (c_tojd _ _ _ _ _ _ _ _ _ _ ?p0) ?k1 ?k2 ?k3 ?k4 ?k5 ?kK ?kd ?ku ?_; (case k1 => k_asm); (case k2 => k_asm); (case k3 => k_asm); (case k4 => k_asm); (case k5 => k_asm); (case kK => first | exact rfl | assumption); (case p0 => first | assumption | exact d1_ok _ _ | exact d28_ok _); (case kd => ktr_room); (case ku => ktr_units))); intro t9 h9 tk9 F9 N9; (try dsimp only); (try k_fold))
  trivial
theorem c_fromjd (w : World) (s₀ : Shared) (mg mb : Str → Option Value) (j : Int) (t : Tok) : CutL w s₀ mg mb 93 4 [.int j t] (OutT (gY j) (gM j) (gD j)) := by
  dsimp only [CutL, aliases]
  k_fill
  k_dflt (refine' cut_of ?k6 ?k7 ?k9 ?kB ?_ ?kp ?c2 ?c3 ?c4 ?c5; (case k6 => k_is); (case k7 => k_is); (case k9 => exact rfl); (case kB => exact locs rfl); (case kp => decide); (case c2 => exact rfl); (case c3 => exact rfl); (case c4 => exact rfl); (case c5 => decide); k_whole; intro dp un gd cn cs a ccd cl outer A₀ base L s E g' L' h' hck hdp hun F' N' B' X' T'; (try dsimp only); (try k_fold))
  k_with "exec If" => (k_here; (with_reducible show wpAny _ _ (exec (Stmt.If _ _ _ ⟨71, 4, 72, 17⟩) _) _ _ _); (k_dflt (refine' join1 (Str.ofString "year") (gY j) ?F ?N (wpAny_If ?_) (fun t' h' tk' F' N' => ?_); (case F => k_asm); (case N => k_asm))); (all_goals (try dsimp only)); (all_goals (try k_fold)))
  k_with "exec If" => (k_here; (with_reducible show wpAny _ _ (exec (Stmt.If _ _ _ ⟨75, 4, 80, 20⟩) _) _ _ _); (k_dflt (refine' join1 (Str.ofString "leap_adj") (adj (gY j) (j - (jan (gY j) + cum (gY j) 1 + 1 - 1))) ?F ?N (wpAny_If ?_) (fun t' h' tk' F' N' => ?_); (case F => k_asm); (case N => k_asm))); (all_goals (try dsimp only)); (all_goals (try k_fold)))
  k_steps
  all_goals ((try k_unfold); (try dsimp only))
  all_goals first
    | (refine' backT3 (by assumption) (by assumption) (by k_mem) ?_; exact fj_end rfl rfl rfl rfl)
    | (first | refine' join1_set (by assumption) (by assumption) ?_ | refine' join1_same (by assumption) (by with_unfolding_all rfl) (by assumption) ?_)
  all_goals (law_clear; first
    | (unfold adj adjB lpB; first | rw [if_pos (by assumption)] | rw [if_neg (by assumption), if_pos (by assumption)] | rw [if_neg (by assumption), if_neg (by simp_all)])
    | (unfold gY; law_fm; (try dsimp only); first | rw [if_pos (Or.inl (by assumption))] | rw [if_pos (Or.inr (by assumption))] | rw [if_neg (fun hh => hh.elim (by assumption) (by assumption))]))
theorem item_K_tup {prog : Program} {w : World} {A : Around} {E : Value → Shared → Prop} {s : Shared} {h₀ : Heap} {L : Addr} {m : Str → Option Value} {K : Frag} {value slice : PySem.Expr} {a : Addr} {l : List Value} {ns : List Int} {dd : Option Addr} {n : Nat} {sl : Array (Option Value)} {k : Int} {u : Tok} {Q : Value → Shared → Prop}
    (F : Fr h₀ L s.heap m) (X : K.In h₀) (hl : K.lookup a = some ⟨.type "tuple", dd, .seq l.toArray n, sl⟩) (hi : IntsAre l ns) (h0 : 0 ≤ k) (h1 : k < ns.length) (hf : k < 2 ^ 63) (h : ∀ t, Q (.int (ns.getD k.toNat 0) t) s)
    (hs : subscripted slice false (.ref a) (.int k u) = operate [.ref a, .int k u] (getItem (.ref a) (.int k u))) :
    wpAny (model prog w) A (subscriptTail value slice (.ref a) (.int k u)) Q E s := by
  obtain ⟨t, hx⟩ := hi.get k.toNat _ (ints_getD h0 h1)
  have hlen := hi.length
  exact topTup_K F X hl (by omega) hf (seqIndex_of h0 (by rw [hlen]; exact h1)) hx (h t) hs
theorem reg_C5_1 : True := by
  k_with_none
  k_with "compareOp In int ref" => (k_here; k_dflt (refine' in_K_tup ?k1 ?k2 ?k3 ?k4 ?_; (case k1 => k_asm); (case k2 => k_asm); (case k3 => k_is); (case k4 => l_intsW); k_whole))
  k_with "ite" => (k_here; k_openite; k_spoken; first | (refine ite_pos (by (law_purse 20000 => (law_clear; (try law_fm); (try simp only [decide_eq_true_eq, decide_eq_false_iff_not, Bool.and_eq_true, Bool.not_eq_true', Bool.not_eq_false', Bool.not_eq_true, Bool.not_eq_eq_eq_not, beq_iff_eq, bne_iff_ne, beq_eq_false_iff_ne, bne_eq_false_iff_eq, ne_eq, List.any_cons, List.any_nil, Bool.or_false, Bool.or_eq_true] at *); omega))) ?_; walk_say "PRUNED eq") | (refine ite_neg (by (law_purse 20000 => (law_clear; (try law_fm); (try simp only [decide_eq_true_eq, decide_eq_false_iff_not, Bool.and_eq_true, Bool.not_eq_true', Bool.not_eq_false', Bool.not_eq_true, Bool.not_eq_eq_eq_not, beq_iff_eq, bne_iff_ne, beq_eq_false_iff_ne, bne_eq_false_iff_eq, ne_eq, List.any_cons, List.any_nil, Bool.or_false, Bool.or_eq_true] at *); omega))) ?_; walk_say "PRUNED eq"))
  k_with "subscriptTail Name Slice ref ref" => (k_here; (with_reducible show wpAny _ _ (subscriptTail _ (PySem.Expr.Slice none (some _) none _) (Value.ref _) (Value.ref _)) _ _ _); k_dflt (refine' slice_K_upto ?F ?X ?N ?l ?h0 ?e ?b ?z ?_ ?s ?t; (case F => k_asm); (case X => k_asm); (case N => k_asm); (case l => k_is); (case h0 => decide); (case e => exact rfl); (case b => decide); (case z => kmk_size); (case s => with_unfolding_all rfl); (case t => kmk_pure)); intro D' h' F' N' l1; (try k_lt l1); (try k_sweep))
  k_with "exec For Name Subscript cons nil" => (k_here; (rename Fr _ _ _ _ => lF'); (with_unfolding_all refine' For_turns lF' ?_; k_whole))
  k_with "eval Call" => (k_here; k_dflt (refine Call_ ?_))
  k_with "subscriptTail Name Slice ref ref" => (k_here; (with_reducible show wpAny _ _ (subscriptTail _ (PySem.Expr.Slice none (some _) none _) (Value.ref _) (Value.ref _)) _ _ _); k_dflt (refine' slice_K_upto ?F ?X ?N ?l ?h0 ?e ?b ?z ?_ ?s ?t; (case F => k_asm); (case X => k_asm); (case N => k_asm); (case l => k_is); (case h0 => omega); (case e => exact rfl); (case b => (show _ < (13 : Nat); omega)); (case z => kmk_size); (case s => with_unfolding_all rfl); (case t => kmk_pure)); intro D' h' F' N' l1; (try k_lt l1); (try k_sweep))
  k_with "pyIter ref" => (k_here; (with_reducible show wpAny _ _ (pyIter (Value.ref _)) (fun it s₂ => TurnsAt _ _ _ _ _ _ _ _ _ it s₂) _ _); (rename Fr _ _ _ _ => lF'); (rename News _ _ _ _ => lN'); (with_unfolding_all refine iter_tupTurns (by rfl) lF' lN' (by k_mem) (by rfl) (by rfl) ?_); clear lF'; intro i' l1; (with_unfolding_all refine rest_start (a := Str.ofString "first") (b := Str.ofString "days") rfl rfl ?_); (with_unfolding_all refine sum_rest (by k_subL) rfl (by rfl) (by rfl) (by decide) (by decide) l1 ?_ (IntsAre.take (by l_intsW) _) _ _ _); (try k_lt l1); (all_goals (try clear lN')); intro x' t' dv' h' tk' F' N')
  k_with "call ref" => (k_here; k_dflt (k_dflt (refine' useB (c_isleap _ _ _ _ _ _) ?k1 ?k2 ?k3 ?k4 ?k5 ?kK ?kd ?ku ?_; (case k1 => k_asm); (case k2 => k_asm); (case k3 => k_asm); (case k4 => k_asm); (case k5 => k_asm); (case kK => first | exact rfl | assumption); (case kd => ktr_room); (case ku => ktr_units))); intro h9 tk9 F9 N9; (try dsimp only); (try k_fold))
  trivial
theorem c_mlen (w : World) (s₀ : Shared) (mg mb : Str → Option Value) (y m : Int) (t1 t2 : Tok) (hm : 1 ≤ m ∧ m ≤ 12) : CutL w s₀ mg mb 100 3 [.int y t1, .int m t2] (OutI (dim y m)) := by
  dsimp only [CutL, aliases]
  k_fill
  k_dflt (refine' cut_of ?k6 ?k7 ?k9 ?kB ?_ ?kp ?c2 ?c3 ?c4 ?c5; (case k6 => k_is); (case k7 => k_is); (case k9 => exact rfl); (case kB => exact locs rfl); (case kp => decide); (case c2 => exact rfl); (case c3 => exact rfl); (case c4 => exact rfl); (case c5 => decide); k_whole; intro dp un gd cn cs a ccd cl outer A₀ base L s E g' L' h' hck hdp hun F' N' B' X' T'; (try dsimp only); (try k_fold))
  k_steps
  all_goals ((try k_unfold); (try dsimp only); refine' backI (by assumption) ?_; law_clear)
  all_goals (rw [days_dim y m hm]; first | (rw [if_neg (by omega)]; omega) | (rw [if_pos (by assumption), lp_t (by assumption)]; omega) | (rw [if_pos (by assumption), lp_f (by assumption)]; omega))
theorem reg_C8_1 : True := by
  k_with_none
  k_with "compareOp In int ref" => (k_here; k_dflt (refine' in_K_tup ?k1 ?k2 ?k3 ?k4 ?_; (case k1 => k_asm); (case k2 => k_asm); (case k3 => k_is); (case k4 => l_intsW); k_whole))
  k_with "ite" => (k_here; k_openite; k_spoken; first | (refine ite_pos (by (law_purse 20000 => (law_clear; (try law_fm); (try simp only [decide_eq_true_eq, decide_eq_false_iff_not, Bool.and_eq_true, Bool.not_eq_true', Bool.not_eq_false', Bool.not_eq_true, Bool.not_eq_eq_eq_not, beq_iff_eq, bne_iff_ne, beq_eq_false_iff_ne, bne_eq_false_iff_eq, ne_eq, List.any_cons, List.any_nil, Bool.or_false, Bool.or_eq_true] at *); omega))) ?_; walk_say "PRUNED eq") | (refine ite_neg (by (law_purse 20000 => (law_clear; (try law_fm); (try simp only [decide_eq_true_eq, decide_eq_false_iff_not, Bool.and_eq_true, Bool.not_eq_true', Bool.not_eq_false', Bool.not_eq_true, Bool.not_eq_eq_eq_not, beq_iff_eq, bne_iff_ne, beq_eq_false_iff_ne, bne_eq_false_iff_eq, ne_eq, List.any_cons, List.any_nil, Bool.or_false, Bool.or_eq_true] at *); omega))) ?_; walk_say "PRUNED eq"))
  k_with "subscriptTail Name Slice ref ref" => (k_here; (with_reducible show wpAny _ _ (subscriptTail _ (PySem.Expr.Slice none (some _) none _) (Value.ref _) (Value.ref _)) _ _ _); k_dflt (refine' slice_K_upto ?F ?X ?N ?l ?h0 ?e ?b ?z ?_ ?s ?t; (case F => k_asm); (case X => k_asm); (case N => k_asm); (case l => k_is); (case h0 => decide); (case e => exact rfl); (case b => decide); (case z => kmk_size); (case s => with_unfolding_all rfl); (case t => kmk_pure)); intro D' h' F' N' l1; (try k_lt l1); (try k_sweep))
  k_with "exec For Name Subscript cons nil" => (k_here; (rename Fr _ _ _ _ => lF'); (with_unfolding_all refine' For_turns lF' ?_; k_whole))
  k_with "eval Call" => (k_here; k_dflt (refine Call_ ?_))
  k_with "call ref" => (k_here; k_dflt (k_dflt (refine' useB (c_isleap _ _ _ _ _ _) ?k1 ?k2 ?k3 ?k4 ?k5 ?kK ?kd ?ku ?_; (case k1 => k_asm); (case k2 => k_asm); (case k3 => k_asm); (case k4 => k_asm); (case k5 => k_asm); (case kK => first | exact rfl | assumption); (case kd => ktr_room); (case ku => ktr_units))); intro h9 tk9 F9 N9; (try dsimp only); (try k_fold))
  k_with "call ref" => (k_here; k_dflt (k_dflt (refine' useB (c_long _ _ _ _ _ _) ?k1 ?k2 ?k3 ?k4 ?k5 ?kK ?kd ?ku ?_; (case k1 => k_asm); (case k2 => k_asm); (case k3 => k_asm); (case k4 => k_asm); (case k5 => k_asm); (case kK => first | exact rfl | assumption); (case kd => ktr_room); (case ku => ktr_units))); intro h9 tk9 F9 N9; (try dsimp only); (try k_fold))
  k_with "call ref" => (k_here; k_dflt (k_dflt (refine' useI (c_jan _ _ _ _ _ _) ?k1 ?k2 ?k3 ?k4 ?k5 ?kK ?kd ?ku ?_; (case k1 => k_asm); (case k2 => k_asm); (case k3 => k_asm); (case k4 => k_asm); (case k5 => k_asm); (case kK => first | exact rfl | assumption); (case kd => ktr_room); (case ku => ktr_units))); intro t9 h9 tk9 F9 N9; (try dsimp only); (try k_fold))
  k_with "WhlIf" => (first | (refine WhlIf.yes (by (law_purse 20000 => (law_clear; (try law_fm); (try simp only [decide_eq_true_eq, decide_eq_false_iff_not, Bool.and_eq_true, Bool.not_eq_true', Bool.not_eq_false', Bool.not_eq_true, Bool.not_eq_eq_eq_not, beq_iff_eq, bne_iff_ne, beq_eq_false_iff_ne, bne_eq_false_iff_eq, ne_eq, List.any_cons, List.any_nil, Bool.or_false, Bool.or_eq_true] at *); omega))) ?_) | (refine WhlIf.no (by (law_purse 20000 => (law_clear; (try law_fm); (try simp only [decide_eq_true_eq, decide_eq_false_iff_not, Bool.and_eq_true, Bool.not_eq_true', Bool.not_eq_false', Bool.not_eq_true, Bool.not_eq_eq_eq_not, beq_iff_eq, bne_iff_ne, beq_eq_false_iff_ne, bne_eq_false_iff_eq, ne_eq, List.any_cons, List.any_nil, Bool.or_false, Bool.or_eq_true] at *); omega))) ?_))
  k_with "call type:list" => (k_here; (with_reducible show wpAny _ _ (call (Value.type "list") [Value.ref _]) _ _ _); (rename IsRange _ _ _ _ _ _ _ _ => rgX); k_dflt (refine' list_rangeL ?hh ?F ?N rgX ?h0 ?h7 ?hb ?_; (case hh => exact rfl); (case F => k_asm); (case N => k_asm); (case h0 => assumption); (case h7 => assumption); (case hb => decide)); intro D' h' tk' ys' F' N' hL' hC')
  trivial
theorem c_thu (w : World) (s₀ : Shared) (mg mb : Str → Option Value) (y : Int) (t : Tok) : CutL w s₀ mg mb 198 2 [.int y t] (OutI (weeks y)) := by
  obtain ⟨top, ht0, ht7, ht3⟩ : ∃ f : Int, 0 ≤ f ∧ f < 7 ∧ (jan y + f) % 7 = 3 := ⟨(3 - jan y) % 7, by omega, by omega, by omega⟩
  dsimp only [CutL, aliases]
  k_fill
  k_dflt (refine' cut_of ?k6 ?k7 ?k9 ?kB ?_ ?kp ?c2 ?c3 ?c4 ?c5; (case k6 => k_is); (case k7 => k_is); (case k9 => exact rfl); (case kB => exact locs rfl); (case kp => decide); (case c2 => exact rfl); (case c3 => exact rfl); (case c4 => exact rfl); (case c5 => decide); k_whole; intro dp un gd cn cs a ccd cl outer A₀ base L s E g' L' h' hck hdp hun F' N' B' X' T'; (try dsimp only); (try k_fold))
  k_with "call builtin:len" => (k_here; (with_reducible show wpAny _ _ (call (Value.builtin "len") [Value.ref _]) _ _ _); k_dflt (refine' len_thu (y := y) ?hl ?he ?h0 ?h7 ?hb ?h3 ?_; (case hl => assumption); (case he => assumption); (case h0 => assumption); (case h7 => assumption); (case hb => first | (rw [lp_t (by assumption)]; rfl) | (rw [lp_f (by assumption)]; rfl)); (case h3 => assumption)); intro t9)
  k_with "exec While Compare cons nil" => (k_here; (k_dflt (refine' whl_up (Str.ofString "first") top ?F ?N ?hm ht0 ?hE (fun f' t' h' tk' lo' hi' F' N' => ?_) (fun t' h' tk' F' N' => ?_); (case F => k_asm); (case N => k_asm); (case hm => with_unfolding_all rfl); (case hE => first | passes_own | with_unfolding_all passes_own))); (all_goals (try dsimp only)); (all_goals (try k_fold)))
  k_steps
  all_goals ((repeat (k_unfold; (try dsimp only))); (try dsimp only))
  all_goals first
    | (refine' join1_twice (by assumption) (by assumption) ?_; rfl)
    | (refine' backI (by assumption) ?_; rfl)
theorem reg_C10_1 : True := by
  k_with_none
  k_with "compareOp In int ref" => (k_here; k_dflt (refine' in_K_tup ?k1 ?k2 ?k3 ?k4 ?_; (case k1 => k_asm); (case k2 => k_asm); (case k3 => k_is); (case k4 => l_intsW); k_whole))
  k_with "ite" => (k_here; k_openite; k_spoken; first | (refine ite_pos (by (law_purse 20000 => (law_clear; (try law_fm); (try simp only [decide_eq_true_eq, decide_eq_false_iff_not, Bool.and_eq_true, Bool.not_eq_true', Bool.not_eq_false', Bool.not_eq_true, Bool.not_eq_eq_eq_not, beq_iff_eq, bne_iff_ne, beq_eq_false_iff_ne, bne_eq_false_iff_eq, ne_eq, List.any_cons, List.any_nil, Bool.or_false, Bool.or_eq_true] at *); omega))) ?_; walk_say "PRUNED eq") | (refine ite_neg (by (law_purse 20000 => (law_clear; (try law_fm); (try simp only [decide_eq_true_eq, decide_eq_false_iff_not, Bool.and_eq_true, Bool.not_eq_true', Bool.not_eq_false', Bool.not_eq_true, Bool.not_eq_eq_eq_not, beq_iff_eq, bne_iff_ne, beq_eq_false_iff_ne, bne_eq_false_iff_eq, ne_eq, List.any_cons, List.any_nil, Bool.or_false, Bool.or_eq_true] at *); omega))) ?_; walk_say "PRUNED eq"))
  k_with "subscriptTail Name Slice ref ref" => (k_here; (with_reducible show wpAny _ _ (subscriptTail _ (PySem.Expr.Slice none (some _) none _) (Value.ref _) (Value.ref _)) _ _ _); k_dflt (refine' slice_K_upto ?F ?X ?N ?l ?h0 ?e ?b ?z ?_ ?s ?t; (case F => k_asm); (case X => k_asm); (case N => k_asm); (case l => k_is); (case h0 => decide); (case e => exact rfl); (case b => decide); (case z => kmk_size); (case s => with_unfolding_all rfl); (case t => kmk_pure)); intro D' h' F' N' l1; (try k_lt l1); (try k_sweep))
  k_with "exec For Name Subscript cons nil" => (k_here; (rename Fr _ _ _ _ => lF'); (with_unfolding_all refine' For_turns lF' ?_; k_whole))
  k_with "eval Call" => (k_here; k_dflt (refine Call_ ?_))
  trivial
theorem c_sizes (w : World) (s₀ : Shared) (mg mb : Str → Option Value) (b : Bool) : CutL w s₀ mg mb 177 1 [.bool b] (OutL (sizes b)) := by
  cases b
  all_goals (
  dsimp only [CutL, aliases]
  k_fill
  k_dflt (refine' cut_of ?k6 ?k7 ?k9 ?kB ?_ ?kp ?c2 ?c3 ?c4 ?c5; (case k6 => k_is); (case k7 => k_is); (case k9 => exact rfl); (case kB => exact locs rfl); (case kp => decide); (case c2 => exact rfl); (case c3 => exact rfl); (case c4 => exact rfl); (case c5 => decide); k_whole; intro dp un gd cn cs a ccd cl outer A₀ base L s E g' L' h' hck hdp hun F' N' B' X' T'; (try dsimp only); (try k_fold))
  k_steps
  all_goals ((try k_unfold); (try dsimp only); refine' backL (by assumption) (by assumption) (by k_mem) ?_; (simp only [sizes]; l_intsW)))
abbrev CutSL (w : World) (s₀ : Shared) (mg mb : Str → Option Value) (f : Addr) (k : Nat) (vs : List Value) (b : Bool) : Prop :=
  CutS PySem.Challenge.rw_ja0017_01.row.prog w (hd.heap_39 w.params) hd.view_39 (looseW hd.view_39 aliases) (ExcName.means s₀.heap) mg mb f k vs b
theorem reg_C12_1 : True := by
  k_with_none
  k_with "compareOp In int ref" => (k_here; k_dflt (refine' in_K_tup ?k1 ?k2 ?k3 ?k4 ?_; (case k1 => k_asm); (case k2 => k_asm); (case k3 => k_is); (case k4 => l_intsW); k_whole))
  k_with "ite" => (k_here; k_openite; k_spoken; first | (refine ite_pos (by (law_purse 20000 => (law_clear; (try law_fm); (try simp only [decide_eq_true_eq, decide_eq_false_iff_not, Bool.and_eq_true, Bool.not_eq_true', Bool.not_eq_false', Bool.not_eq_true, Bool.not_eq_eq_eq_not, beq_iff_eq, bne_iff_ne, beq_eq_false_iff_ne, bne_eq_false_iff_eq, ne_eq, List.any_cons, List.any_nil, Bool.or_false, Bool.or_eq_true] at *); omega))) ?_; walk_say "PRUNED eq") | (refine ite_neg (by (law_purse 20000 => (law_clear; (try law_fm); (try simp only [decide_eq_true_eq, decide_eq_false_iff_not, Bool.and_eq_true, Bool.not_eq_true', Bool.not_eq_false', Bool.not_eq_true, Bool.not_eq_eq_eq_not, beq_iff_eq, bne_iff_ne, beq_eq_false_iff_ne, bne_eq_false_iff_eq, ne_eq, List.any_cons, List.any_nil, Bool.or_false, Bool.or_eq_true] at *); omega))) ?_; walk_say "PRUNED eq"))
  k_with "subscriptTail Name Slice ref ref" => (k_here; (with_reducible show wpAny _ _ (subscriptTail _ (PySem.Expr.Slice none (some _) none _) (Value.ref _) (Value.ref _)) _ _ _); k_dflt (refine' slice_K_upto ?F ?X ?N ?l ?h0 ?e ?b ?z ?_ ?s ?t; (case F => k_asm); (case X => k_asm); (case N => k_asm); (case l => k_is); (case h0 => decide); (case e => exact rfl); (case b => decide); (case z => kmk_size); (case s => with_unfolding_all rfl); (case t => kmk_pure)); intro D' h' F' N' l1; (try k_lt l1); (try k_sweep))
  k_with "exec For Name Subscript cons nil" => (k_here; (rename Fr _ _ _ _ => lF'); (with_unfolding_all refine' For_turns lF' ?_; k_whole))
  k_with "eval Call" => (k_here; k_dflt (refine Call_ ?_))
  k_with "isTrue Compare" => (k_here; (with_reducible show wpAny _ _ (isTrue (PySem.Expr.Compare (PySem.Expr.Constant _ _ _) [CmpOp.LtE, CmpOp.LtE] [PySem.Expr.Name _ _, PySem.Expr.Constant _ _ _] _) _ _) _ _ _); k_dflt (refine' chain_int ?ch1 ?ch2 ?ch3 ?ch4 ?ch5 ?_; (case ch1 => k_asm); (case ch2 => with_unfolding_all rfl); (case ch3 => rfl); (case ch4 => rfl); (case ch5 => decide)); intro tk')
  k_with "call ref" => (k_here; k_dflt (k_dflt (refine' useB (c_isleap _ _ _ _ _ _) ?k1 ?k2 ?k3 ?k4 ?k5 ?kK ?kd ?ku ?_; (case k1 => k_asm); (case k2 => k_asm); (case k3 => k_asm); (case k4 => k_asm); (case k5 => k_asm); (case kK => first | exact rfl | assumption); (case kd => ktr_room); (case ku => ktr_units))); intro h9 tk9 F9 N9; (try dsimp only); (try k_fold))
  k_with "call ref" => (k_here; k_dflt (k_dflt (refine' useI (c_mlen _ _ _ _ _ _ _ _ ?p0) ?k1 ?k2 ?k3 ?k4 ?k5 ?kK ?kd ?ku ?_; (case k1 => k_asm); (case k2 => k_asm); (case k3 => k_asm); (case k4 => k_asm); (case k5 => k_asm); (case kK => first | exact rfl | assumption); (case p0 => first | assumption | exact gM_bound _); (case kd => ktr_room); (case ku => ktr_units))); intro t9 h9 tk9 F9 N9; (try dsimp only); (try k_fold))
  k_with "call ref" => (k_here; k_dflt (k_dflt (refine' useT (c_fromjd _ _ _ _ _ _) ?k1 ?k2 ?k3 ?k4 ?k5 ?kK ?kd ?ku ?_; (case k1 => k_asm); (case k2 => k_asm); (case k3 => k_asm); (case k4 => k_asm); (case k5 => k_asm); (case kK => first | exact rfl | assumption); (case kd => ktr_room); (case ku => ktr_units))); intro D9 t9 u9 v9 n9 h9 tk9 F9 N9; (try dsimp only); (try k_fold))
  trivial
theorem c_refused (w : World) (s₀ : Shared) (mg mb : Str → Option Value) (y m d : Int) (t1 t2 t3 : Tok) (hb : ¬ (1 ≤ y ∧ y ≤ 9999) ∨ ((1 ≤ y ∧ y ≤ 9999) ∧ (1 ≤ m ∧ m ≤ 12) ∧ ¬ (1 ≤ d ∧ d ≤ dim y m))) : CutSL w s₀ mg mb 205 7 [.int y t1, .int m t2, .int d t3] true := by
  dsimp only [CutSL, aliases]
  k_fill
  k_dflt (refine' cutS_of ?k6 ?k7 ?k9 ?kB ?_ ?kp ?c2 ?c3 ?c4 ?c5; (case k6 => k_is); (case k7 => k_is); (case k9 => exact rfl); (case kB => exact locs rfl); (case kp => decide); (case c2 => exact rfl); (case c3 => exact rfl); (case c4 => exact rfl); (case c5 => decide); k_whole; intro dp un gd cn cs a ccd A₀ base L s E g' L' h' hck hdp hun F' N' B' X' T' XB' TB' D'; (try dsimp only); (try k_fold))
  rcases hb with hb | ⟨hy, hm, hb⟩
  all_goals k_steps
  all_goals ((repeat (k_unfold; (try dsimp only))); (try dsimp only); exact backS (by assumption) (by assumption))
theorem c_refused_day (w : World) (s₀ : Shared) (mg mb : Str → Option Value) (j : Int) (t1 : Tok) (hb : ¬ (1 ≤ gY j ∧ gY j ≤ 9999)) : CutSL w s₀ mg mb 212 8 [.int j t1] true := by
  dsimp only [CutSL, aliases]
  k_fill
  k_dflt (refine' cutS_of ?k6 ?k7 ?k9 ?kB ?_ ?kp ?c2 ?c3 ?c4 ?c5; (case k6 => k_is); (case k7 => k_is); (case k9 => exact rfl); (case kB => exact locs rfl); (case kp => decide); (case c2 => exact rfl); (case c3 => exact rfl); (case c4 => exact rfl); (case c5 => decide); k_whole; intro dp un gd cn cs a ccd A₀ base L s E g' L' h' hck hdp hun F' N' B' X' T' XB' TB' D'; (try dsimp only); (try k_fold))
  k_steps
  all_goals ((repeat (k_unfold; (try dsimp only))); (try dsimp only); exact backS (by assumption) (by assumption))
theorem reg_C7_1 : True := by
  k_with_none
  k_with "compareOp In int ref" => (k_here; k_dflt (refine' in_K_tup ?k1 ?k2 ?k3 ?k4 ?_; (case k1 => k_asm); (case k2 => k_asm); (case k3 => k_is); (case k4 => l_intsW); k_whole))
  k_with "ite" => (k_here; k_openite; k_spoken; first | (refine ite_pos (by (law_purse 20000 => (law_clear; (try law_fm); (try simp only [decide_eq_true_eq, decide_eq_false_iff_not, Bool.and_eq_true, Bool.not_eq_true', Bool.not_eq_false', Bool.not_eq_true, Bool.not_eq_eq_eq_not, beq_iff_eq, bne_iff_ne, beq_eq_false_iff_ne, bne_eq_false_iff_eq, ne_eq, List.any_cons, List.any_nil, Bool.or_false, Bool.or_eq_true] at *); omega))) ?_; walk_say "PRUNED eq") | (refine ite_neg (by (law_purse 20000 => (law_clear; (try law_fm); (try simp only [decide_eq_true_eq, decide_eq_false_iff_not, Bool.and_eq_true, Bool.not_eq_true', Bool.not_eq_false', Bool.not_eq_true, Bool.not_eq_eq_eq_not, beq_iff_eq, bne_iff_ne, beq_eq_false_iff_ne, bne_eq_false_iff_eq, ne_eq, List.any_cons, List.any_nil, Bool.or_false, Bool.or_eq_true] at *); omega))) ?_; walk_say "PRUNED eq"))
  k_with "subscriptTail Name Slice ref ref" => (k_here; (with_reducible show wpAny _ _ (subscriptTail _ (PySem.Expr.Slice none (some _) none _) (Value.ref _) (Value.ref _)) _ _ _); k_dflt (refine' slice_K_upto ?F ?X ?N ?l ?h0 ?e ?b ?z ?_ ?s ?t; (case F => k_asm); (case X => k_asm); (case N => k_asm); (case l => k_is); (case h0 => decide); (case e => exact rfl); (case b => decide); (case z => kmk_size); (case s => with_unfolding_all rfl); (case t => kmk_pure)); intro D' h' F' N' l1; (try k_lt l1); (try k_sweep))
  k_with "exec For Name Subscript cons nil" => (k_here; (rename Fr _ _ _ _ => lF'); (with_unfolding_all refine' For_turns lF' ?_; k_whole))
  k_with "eval Call" => (k_here; k_dflt (refine Call_ ?_))
  k_with "call ref" => (k_here; k_dflt (k_dflt (refine' useB (c_isleap _ _ _ _ _ _) ?k1 ?k2 ?k3 ?k4 ?k5 ?kK ?kd ?ku ?_; (case k1 => k_asm); (case k2 => k_asm); (case k3 => k_asm); (case k4 => k_asm); (case k5 => k_asm); (case kK => first | exact rfl | assumption); (case kd => ktr_room); (case ku => ktr_units))); intro h9 tk9 F9 N9; (try dsimp only); (try k_fold))
  k_with "call ref" => (k_here; k_dflt (k_dflt (refine' useB (c_legal _ _ _ _ _ _ _ _ _ _ ?p0) ?k1 ?k2 ?k3 ?k4 ?k5 ?kK ?kd ?ku ?_; (case k1 => k_asm); (case k2 => k_asm); (case k3 => k_asm); (case k4 => k_asm); (case k5 => k_asm); (case kK => first | exact rfl | assumption); (case p0 => assumption); (case kd => ktr_room); (case ku => ktr_units))); intro h9 tk9 F9 N9; (try dsimp only); (try k_fold))
  k_with "call ref" => (k_here; k_dflt (k_dflt (refine' useI (c_tojd _ _ _ _ _ _ _ _ _ _ ?p0) ?k1 ?k2 ?k3 ?k4 ?k5 ?kK ?kd ?ku ?_; (case k1 => k_asm); (case k2 => k_asm); (case k3 => k_asm); (case k4 => k_asm); (case k5 => k_asm); (case kK => first | exact rfl | assumption); (case p0 => first | assumption | exact d1_ok _ _ | exact d28_ok _); (case kd => ktr_room); (case ku => ktr_units))); intro t9 h9 tk9 F9 N9; (try dsimp only); (try k_fold))
  k_with "call ref" => (k_here; k_dflt (k_dflt (refine' useI (c_monday _ _ _ _ _ _) ?k1 ?k2 ?k3 ?k4 ?k5 ?kK ?kd ?ku ?_; (case k1 => k_asm); (case k2 => k_asm); (case k3 => k_asm); (case k4 => k_asm); (case k5 => k_asm); (case kK => first | exact rfl | assumption); (case kd => ktr_room); (case ku => ktr_units))); intro t9 h9 tk9 F9 N9; (try dsimp only); (try k_fold))
  k_with "call ref" => (k_here; k_dflt (k_dflt (refine' useI (c_mlen _ _ _ _ _ _ _ _ ?p0) ?k1 ?k2 ?k3 ?k4 ?k5 ?kK ?kd ?ku ?_; (case k1 => k_asm); (case k2 => k_asm); (case k3 => k_asm); (case k4 => k_asm); (case k5 => k_asm); (case kK => first | exact rfl | assumption); (case p0 => first | assumption | exact gM_bound _); (case kd => ktr_room); (case ku => ktr_units))); intro t9 h9 tk9 F9 N9; (try dsimp only); (try k_fold))
  k_with "call ref" => (k_here; k_dflt (k_dflt (refine' useT (c_fromjd _ _ _ _ _ _) ?k1 ?k2 ?k3 ?k4 ?k5 ?kK ?kd ?ku ?_; (case k1 => k_asm); (case k2 => k_asm); (case k3 => k_asm); (case k4 => k_asm); (case k5 => k_asm); (case kK => first | exact rfl | assumption); (case kd => ktr_room); (case ku => ktr_units))); intro D9 t9 u9 v9 n9 h9 tk9 F9 N9; (try dsimp only); (try k_fold))
  trivial
theorem c_fromgreg (w : World) (s₀ : Shared) (mg mb : Str → Option Value) (y m d : Int) (t1 t2 t3 : Tok) (hy : 1 ≤ y ∧ y ≤ 9999) (hm : 1 ≤ m ∧ m ≤ 12) (hd : 1 ≤ d ∧ d ≤ dim y m) (j : Int) (hj : jan y + cum y m + d - 1 = j) : CutL w s₀ mg mb 135 6 [.int y t1, .int m t2, .int d t3] (OutT (isoY j) (isoW j) (isoD j)) := by
  dsimp only [CutL, aliases]
  k_fill
  k_dflt (refine' cut_of ?k6 ?k7 ?k9 ?kB ?_ ?kp ?c2 ?c3 ?c4 ?c5; (case k6 => k_is); (case k7 => k_is); (case k9 => exact rfl); (case kB => exact locs rfl); (case kp => decide); (case c2 => exact rfl); (case c3 => exact rfl); (case c4 => exact rfl); (case c5 => decide); k_whole; intro dp un gd cn cs a ccd cl outer A₀ base L s E g' L' h' hck hdp hun F' N' B' X' T'; (try dsimp only); (try k_fold))
  k_steps
  all_goals ((try k_unfold); (try dsimp only); refine' backT3 (by assumption) (by assumption) (by k_mem) ?_; law_clear; have hr := fg_end hm hd hj; rw [hj] at *; law_fm)
  all_goals first
    | exact fg_less hr.1 (by assumption)
    | exact fg_more hr.2 (by assumption)
    | exact fg_same (by assumption) (.inl (by assumption))
    | exact fg_same (by assumption) (.inr (by assumption))
theorem reg_C7_2 : True := by
  k_with "call ref" => (k_here; k_dflt (k_dflt (refine' useT (c_fromgreg _ _ _ _ _ _ _ _ _ _ ?p0 ?p1 ?p2 _ ?p3) ?k1 ?k2 ?k3 ?k4 ?k5 ?kK ?kd ?ku ?_; (case k1 => k_asm); (case k2 => k_asm); (case k3 => k_asm); (case k4 => k_asm); (case k5 => k_asm); (case kK => first | exact rfl | assumption); (case p0 => first | assumption | omega); (case p1 => first | assumption | exact gM_bound _); (case p2 => first | assumption | exact gD_bound _); (case p3 => first | assumption | exact g_back _); (case kd => ktr_room); (case ku => ktr_units))); intro D9 t9 u9 v9 n9 h9 tk9 F9 N9; (try dsimp only); (try k_fold))
  trivial
theorem c_fromjdiso (w : World) (s₀ : Shared) (mg mb : Str → Option Value) (j : Int) (t : Tok) (hy : 1 ≤ gY j ∧ gY j ≤ 9999) : CutL w s₀ mg mb 114 7 [.int j t] (OutT (isoY j) (isoW j) (isoD j)) := by
  dsimp only [CutL, aliases]
  k_fill
  k_dflt (refine' cut_of ?k6 ?k7 ?k9 ?kB ?_ ?kp ?c2 ?c3 ?c4 ?c5; (case k6 => k_is); (case k7 => k_is); (case k9 => exact rfl); (case kB => exact locs rfl); (case kp => decide); (case c2 => exact rfl); (case c3 => exact rfl); (case c4 => exact rfl); (case c5 => decide); k_whole; intro dp un gd cn cs a ccd cl outer A₀ base L s E g' L' h' hck hdp hun F' N' B' X' T'; (try dsimp only); (try k_fold))
  k_steps
  all_goals ((try k_unfold); (try dsimp only); refine' backT3 (by assumption) (by assumption) (by k_mem) ⟨rfl, rfl, rfl⟩)
theorem lg_fold (j : Int) : (List.foldl (fun (p : Int × Int) (_k : Int) => (if 365 ≤ p.fst then p.fst - 365 else p.fst, if 365 ≤ p.fst then p.snd + 1 else p.snd))
    ((List.foldl (fun (p : Int × Int) (_k : Int) => (if 1461 ≤ p.fst then p.fst - 1461 else p.fst, if 1461 ≤ p.fst then p.snd + 4 else p.snd))
        ((List.foldl (fun (p : Int × Int) (_k : Int) => (if 36524 ≤ p.fst then p.fst - 36524 else p.fst, if 36524 ≤ p.fst then p.snd + 100 else p.snd)) ((j - 1721426).fmod 146097, 400 * (j - 1721426).fdiv 146097 + 1) (rangeKs 0 ((3 : Int) - 0).toNat)).fst,
         (List.foldl (fun (p : Int × Int) (_k : Int) => (if 36524 ≤ p.fst then p.fst - 36524 else p.fst, if 36524 ≤ p.fst then p.snd + 100 else p.snd)) ((j - 1721426).fmod 146097, 400 * (j - 1721426).fdiv 146097 + 1) (rangeKs 0 ((3 : Int) - 0).toNat)).snd)
        (rangeKs 0 ((24 : Int) - 0).toNat)).fst,
     (List.foldl (fun (p : Int × Int) (_k : Int) => (if 1461 ≤ p.fst then p.fst - 1461 else p.fst, if 1461 ≤ p.fst then p.snd + 4 else p.snd))
        ((List.foldl (fun (p : Int × Int) (_k : Int) => (if 36524 ≤ p.fst then p.fst - 36524 else p.fst, if 36524 ≤ p.fst then p.snd + 100 else p.snd)) ((j - 1721426).fmod 146097, 400 * (j - 1721426).fdiv 146097 + 1) (rangeKs 0 ((3 : Int) - 0).toNat)).fst,
         (List.foldl (fun (p : Int × Int) (_k : Int) => (if 36524 ≤ p.fst then p.fst - 36524 else p.fst, if 36524 ≤ p.fst then p.snd + 100 else p.snd)) ((j - 1721426).fmod 146097, 400 * (j - 1721426).fdiv 146097 + 1) (rangeKs 0 ((3 : Int) - 0).toNat)).snd)
        (rangeKs 0 ((24 : Int) - 0).toNat)).snd)
    (rangeKs 0 ((3 : Int) - 0).toNat)) = (gN j, gY j) := by
  have h3 : (rangeKs 0 ((3 : Int) - 0).toNat).length = 3 := rangeKs_length _ _
  have h24 : (rangeKs 0 ((24 : Int) - 0).toNat).length = 24 := rangeKs_length _ _
  have e1 : (j - 1721426).fmod 146097 = (j - 1721426) % 146097 := Int.fmod_eq_emod_of_nonneg _ (by decide)
  have e2 : (j - 1721426).fdiv 146097 = (j - 1721426) / 146097 := Int.fdiv_eq_ediv_of_nonneg _ (by decide)
  rw [e1, e2]
  have key := lg_three j _ _ h3 h24 _ _ _ rfl rfl rfl
  rw [fold_sub 36524 100 (by decide) _ _ _ (by omega)]
  rw [fold_sub 1461 4 (by decide) _ _ _ key.1]
  rw [fold_sub 365 1 (by decide) _ _ _ key.2.1]
  exact Prod.ext key.2.2.1 key.2.2.2
theorem lg_end {j X Y : Int} (h : (X, Y) = (gN j, gY j)) : Y = gY j ∧ (scan (sizes (leap Y)) X 1).2 = gM j ∧ (scan (sizes (leap Y)) X 1).1 + 1 = gD j := by
  obtain ⟨rfl, rfl⟩ := Prod.mk.inj h
  rw [(g_month j).2.2.2.2]
  exact ⟨rfl, rfl, rfl⟩
theorem reg_C6_1 : True := by
  k_with_none
  k_with "compareOp In int ref" => (k_here; k_dflt (refine' in_K_tup ?k1 ?k2 ?k3 ?k4 ?_; (case k1 => k_asm); (case k2 => k_asm); (case k3 => k_is); (case k4 => l_intsW); k_whole))
  k_with "ite" => (k_here; k_openite; k_spoken; first | (refine ite_pos (by (law_purse 20000 => (law_clear; (try law_fm); (try simp only [decide_eq_true_eq, decide_eq_false_iff_not, Bool.and_eq_true, Bool.not_eq_true', Bool.not_eq_false', Bool.not_eq_true, Bool.not_eq_eq_eq_not, beq_iff_eq, bne_iff_ne, beq_eq_false_iff_ne, bne_eq_false_iff_eq, ne_eq, List.any_cons, List.any_nil, Bool.or_false, Bool.or_eq_true] at *); omega))) ?_; walk_say "PRUNED eq") | (refine ite_neg (by (law_purse 20000 => (law_clear; (try law_fm); (try simp only [decide_eq_true_eq, decide_eq_false_iff_not, Bool.and_eq_true, Bool.not_eq_true', Bool.not_eq_false', Bool.not_eq_true, Bool.not_eq_eq_eq_not, beq_iff_eq, bne_iff_ne, beq_eq_false_iff_ne, bne_eq_false_iff_eq, ne_eq, List.any_cons, List.any_nil, Bool.or_false, Bool.or_eq_true] at *); omega))) ?_; walk_say "PRUNED eq"))
  k_with "subscriptTail Name Slice ref ref" => (k_here; (with_reducible show wpAny _ _ (subscriptTail _ (PySem.Expr.Slice none (some _) none _) (Value.ref _) (Value.ref _)) _ _ _); k_dflt (refine' slice_K_upto ?F ?X ?N ?l ?h0 ?e ?b ?z ?_ ?s ?t; (case F => k_asm); (case X => k_asm); (case N => k_asm); (case l => k_is); (case h0 => decide); (case e => exact rfl); (case b => decide); (case z => kmk_size); (case s => with_unfolding_all rfl); (case t => kmk_pure)); intro D' h' F' N' l1; (try k_lt l1); (try k_sweep))
  k_with "exec For Name Subscript cons nil" => (k_here; (rename Fr _ _ _ _ => lF'); (with_unfolding_all refine' For_turns lF' ?_; k_whole))
  k_with "eval Call" => (k_here; k_dflt (refine Call_ ?_))
  k_with "exec For Name Call cons nil" => (k_here; (with_reducible show wpAny _ _ (exec (Stmt.For _ _ _ _ ⟨148, 4, 152, 18⟩) _) _ _ _); (rename Fr _ _ _ _ => lF'); (with_unfolding_all refine' For_turns lF' ?_; k_whole))
  k_with "pyIter ref" => (k_here; (with_reducible show wpAny _ _ (pyIter (Value.ref _)) (fun it s₂ => TurnsAt _ _ _ _ _ _ _ _ _ it s₂) _ _); (rename Fr _ _ _ _ => lF'); (rename News _ _ _ _ => lN'); (with_unfolding_all refine iter_listTurns (by rfl) lF' lN' (by k_mem) (by rfl) (by rfl) ?_); clear lF'; intro i' l1; (with_unfolding_all refine scan_start (a := Str.ofString "rest") (b := Str.ofString "month") (c := Str.ofString "size") rfl rfl rfl ?_); (with_unfolding_all refine scan_rest (by k_subL) rfl (by rfl) (by rfl) (by rfl) (by decide) (by decide) (by decide) (by decide) (by decide) l1 ?_ (by assumption) _ _ _ _ _ rfl); (try k_lt l1); (all_goals (try clear lN')); intro t' t2' dv' h' tk' F' N')
  k_with "call ref" => (k_here; k_dflt (k_dflt (refine' useB (c_isleap _ _ _ _ _ _) ?k1 ?k2 ?k3 ?k4 ?k5 ?kK ?kd ?ku ?_; (case k1 => k_asm); (case k2 => k_asm); (case k3 => k_asm); (case k4 => k_asm); (case k5 => k_asm); (case kK => first | exact rfl | assumption); (case kd => ktr_room); (case ku => ktr_units))); intro h9 tk9 F9 N9; (try dsimp only); (try k_fold))
  k_with "call ref" => (k_here; k_dflt (k_dflt (refine' useB (c_long _ _ _ _ _ _) ?k1 ?k2 ?k3 ?k4 ?k5 ?kK ?kd ?ku ?_; (case k1 => k_asm); (case k2 => k_asm); (case k3 => k_asm); (case k4 => k_asm); (case k5 => k_asm); (case kK => first | exact rfl | assumption); (case kd => ktr_room); (case ku => ktr_units))); intro h9 tk9 F9 N9; (try dsimp only); (try k_fold))
  k_with "call ref" => (k_here; k_dflt (k_dflt (refine' useI (c_jan _ _ _ _ _ _) ?k1 ?k2 ?k3 ?k4 ?k5 ?kK ?kd ?ku ?_; (case k1 => k_asm); (case k2 => k_asm); (case k3 => k_asm); (case k4 => k_asm); (case k5 => k_asm); (case kK => first | exact rfl | assumption); (case kd => ktr_room); (case ku => ktr_units))); intro t9 h9 tk9 F9 N9; (try dsimp only); (try k_fold))
  k_with "call ref" => (k_here; k_dflt (k_dflt (refine' useL (c_sizes _ _ _ _ _) ?k1 ?k2 ?k3 ?k4 ?k5 ?kK ?kd ?ku ?_; (case k1 => k_asm); (case k2 => k_asm); (case k3 => k_asm); (case k4 => k_asm); (case k5 => k_asm); (case kK => first | exact rfl | assumption); (case kd => ktr_room); (case ku => ktr_units))); intro D9 w9 n9 h9 tk9 F9 N9 L9 I9; (try dsimp only); (try k_fold))
  trivial
theorem c_lgreg (w : World) (s₀ : Shared) (mg mb : Str → Option Value) (j : Int) (t : Tok) : CutL w s₀ mg mb 163 3 [.int j t] (OutT (gY j) (gM j) (gD j)) := by
  dsimp only [CutL, aliases]
  k_fill
  k_dflt (refine' cut_of ?k6 ?k7 ?k9 ?kB ?_ ?kp ?c2 ?c3 ?c4 ?c5; (case k6 => k_is); (case k7 => k_is); (case k9 => exact rfl); (case kB => exact locs rfl); (case kp => decide); (case c2 => exact rfl); (case c3 => exact rfl); (case c4 => exact rfl); (case c5 => decide); k_whole; intro dp un gd cn cs a ccd cl outer A₀ base L s E g' L' h' hck hdp hun F' N' B' X' T'; (try dsimp only); (try k_fold))
  k_with "exec For Name Call cons nil" => kpr_for
  k_with "pyIter ref" => kpr_short
  k_steps
  all_goals ((repeat (k_unfold; (try dsimp only))); (try dsimp only))
  all_goals (refine' backT3 (by assumption) (by assumption) (by k_mem) ?_)
  all_goals exact lg_end (lg_fold j)
theorem c_isotojd_eq (w : World) (s₀ : Shared) (mg mb : Str → Option Value) (y n d : Int) (t1 t2 t3 : Tok) (j : Int) (hn : 1 ≤ n) (hj : monday y + 7 * (n - 1) + d - 1 = j) : CutL w s₀ mg mb 107 7 [.int y t1, .int n t2, .int d t3] (OutI j) := hj ▸ c_isotojd w s₀ mg mb y n d t1 t2 t3 hn
theorem c_isotojd_eqv (w : World) (s₀ : Shared) (mg mb : Str → Option Value) (y n d : Int) (t1 t2 t3 : Tok) (j : Int) (hn : 1 ≤ n) (hj : monday y + 7 * (n - 1) + d - 1 = j) : CutL w s₀ mg mb 107 7 [.int y t1, .int n t2, .int d t3] (OutI j) := hj ▸ c_isotojd w s₀ mg mb y n d t1 t2 t3 hn
theorem reg_C9_1 : True := by
  k_with_none
  k_with "compareOp In int ref" => (k_here; k_dflt (refine' in_K_tup ?k1 ?k2 ?k3 ?k4 ?_; (case k1 => k_asm); (case k2 => k_asm); (case k3 => k_is); (case k4 => l_intsW); k_whole))
  k_with "ite" => (k_here; k_openite; k_spoken; first | (refine ite_pos (by (law_purse 20000 => (law_clear; (try law_fm); (try simp only [decide_eq_true_eq, decide_eq_false_iff_not, Bool.and_eq_true, Bool.not_eq_true', Bool.not_eq_false', Bool.not_eq_true, Bool.not_eq_eq_eq_not, beq_iff_eq, bne_iff_ne, beq_eq_false_iff_ne, bne_eq_false_iff_eq, ne_eq, List.any_cons, List.any_nil, Bool.or_false, Bool.or_eq_true] at *); omega))) ?_; walk_say "PRUNED eq") | (refine ite_neg (by (law_purse 20000 => (law_clear; (try law_fm); (try simp only [decide_eq_true_eq, decide_eq_false_iff_not, Bool.and_eq_true, Bool.not_eq_true', Bool.not_eq_false', Bool.not_eq_true, Bool.not_eq_eq_eq_not, beq_iff_eq, bne_iff_ne, beq_eq_false_iff_ne, bne_eq_false_iff_eq, ne_eq, List.any_cons, List.any_nil, Bool.or_false, Bool.or_eq_true] at *); omega))) ?_; walk_say "PRUNED eq"))
  k_with "subscriptTail Name Slice ref ref" => (k_here; (with_reducible show wpAny _ _ (subscriptTail _ (PySem.Expr.Slice none (some _) none _) (Value.ref _) (Value.ref _)) _ _ _); k_dflt (refine' slice_K_upto ?F ?X ?N ?l ?h0 ?e ?b ?z ?_ ?s ?t; (case F => k_asm); (case X => k_asm); (case N => k_asm); (case l => k_is); (case h0 => decide); (case e => exact rfl); (case b => decide); (case z => kmk_size); (case s => with_unfolding_all rfl); (case t => kmk_pure)); intro D' h' F' N' l1; (try k_lt l1); (try k_sweep))
  k_with "exec For Name Subscript cons nil" => (k_here; (rename Fr _ _ _ _ => lF'); (with_unfolding_all refine' For_turns lF' ?_; k_whole))
  k_with "eval Call" => (k_here; k_dflt (refine Call_ ?_))
  k_with "call ref" => (k_here; k_dflt (k_dflt (refine' useB (c_isleap _ _ _ _ _ _) ?k1 ?k2 ?k3 ?k4 ?k5 ?kK ?kd ?ku ?_; (case k1 => k_asm); (case k2 => k_asm); (case k3 => k_asm); (case k4 => k_asm); (case k5 => k_asm); (case kK => first | exact rfl | assumption); (case kd => ktr_room); (case ku => ktr_units))); intro h9 tk9 F9 N9; (try dsimp only); (try k_fold))
  k_with "call ref" => (k_here; k_dflt (k_dflt (refine' useI (c_jan _ _ _ _ _ _) ?k1 ?k2 ?k3 ?k4 ?k5 ?kK ?kd ?ku ?_; (case k1 => k_asm); (case k2 => k_asm); (case k3 => k_asm); (case k4 => k_asm); (case k5 => k_asm); (case kK => first | exact rfl | assumption); (case kd => ktr_room); (case ku => ktr_units))); intro t9 h9 tk9 F9 N9; (try dsimp only); (try k_fold))
  k_with "call ref" => (k_here; k_dflt (k_dflt (refine' useT (c_lgreg _ _ _ _ _ _) ?k1 ?k2 ?k3 ?k4 ?k5 ?kK ?kd ?ku ?_; (case k1 => k_asm); (case k2 => k_asm); (case k3 => k_asm); (case k4 => k_asm); (case k5 => k_asm); (case kK => first | exact rfl | assumption); (case kd => ktr_room); (case ku => ktr_units))); intro D9 t9 u9 v9 n9 h9 tk9 F9 N9; (try dsimp only); (try k_fold))
  k_with "call ref" => (k_here; k_dflt (k_dflt (refine' useT (c_fromjd _ _ _ _ _ _) ?k1 ?k2 ?k3 ?k4 ?k5 ?kK ?kd ?ku ?_; (case k1 => k_asm); (case k2 => k_asm); (case k3 => k_asm); (case k4 => k_asm); (case k5 => k_asm); (case kK => first | exact rfl | assumption); (case kd => ktr_room); (case ku => ktr_units))); intro D9 t9 u9 v9 n9 h9 tk9 F9 N9; (try dsimp only); (try k_fold))
  k_with "call ref" => (k_here; k_dflt (k_dflt (refine' useI (c_isotojd_eqv _ _ _ _ _ _ _ _ _ _ _ ?p0 ?p1) ?k1 ?k2 ?k3 ?k4 ?k5 ?kK ?kd ?ku ?_; (case k1 => k_asm); (case k2 => k_asm); (case k3 => k_asm); (case k4 => k_asm); (case k5 => k_asm); (case kK => first | exact rfl | assumption); (case p0 => first | assumption | omega); (case p1 => assumption); (case kd => ktr_room); (case ku => ktr_units))); intro t9 h9 tk9 F9 N9; (try dsimp only); (try k_fold))
  trivial
theorem c_liso (w : World) (s₀ : Shared) (mg mb : Str → Option Value) (j : Int) (t : Tok) : CutL w s₀ mg mb 191 5 [.int j t] (OutT (isoY j) (isoW j) (isoD j)) := by
  dsimp only [CutL, aliases]
  k_fill
  k_dflt (refine' cut_of ?k6 ?k7 ?k9 ?kB ?_ ?kp ?c2 ?c3 ?c4 ?c5; (case k6 => k_is); (case k7 => k_is); (case k9 => exact rfl); (case kB => exact locs rfl); (case kp => decide); (case c2 => exact rfl); (case c3 => exact rfl); (case c4 => exact rfl); (case c5 => decide); k_whole; intro dp un gd cn cs a ccd cl outer A₀ base L s E g' L' h' hck hdp hun F' N' B' X' T'; (try dsimp only); (try k_fold))
  k_steps
  all_goals ((try k_unfold); (try dsimp only); refine' backT3 (by assumption) (by assumption) (by k_mem) ?_; law_clear; law_fm; exact ⟨rfl, rfl, rfl⟩)
theorem c_togreg (w : World) (s₀ : Shared) (mg mb : Str → Option Value) (y n d : Int) (t1 t2 t3 : Tok) (j : Int) (hn : 1 ≤ n) (hj : monday y + 7 * (n - 1) + d - 1 = j) : CutL w s₀ mg mb 142 9 [.int y t1, .int n t2, .int d t3] (OutT (gY j) (gM j) (gD j)) := by
  dsimp only [CutL, aliases]
  k_fill
  k_dflt (refine' cut_of ?k6 ?k7 ?k9 ?kB ?_ ?kp ?c2 ?c3 ?c4 ?c5; (case k6 => k_is); (case k7 => k_is); (case k9 => exact rfl); (case kB => exact locs rfl); (case kp => decide); (case c2 => exact rfl); (case c3 => exact rfl); (case c4 => exact rfl); (case c5 => decide); k_whole; intro dp un gd cn cs a ccd cl outer A₀ base L s E g' L' h' hck hdp hun F' N' B' X' T'; (try dsimp only); (try k_fold))
  k_steps
  all_goals ((try k_unfold); (try dsimp only); refine' backT3 (by assumption) (by assumption) (by k_mem) ⟨rfl, rfl, rfl⟩)
theorem item_sizes {prog : Program} {w : World} {A : Around} {E : Value → Shared → Prop} {s : Shared} {value slice : PySem.Expr} {l : Addr} {vs : List Value} {y m : Int} {u : Tok} {Q : Value → Shared → Prop}
    (hl : s.heap.IsList l vs.toArray) (hi : IntsAre vs (sizes (leap y))) (hm : 1 ≤ m ∧ m ≤ 12) (h : ∀ t, 28 ≤ dim y m → Q (.int (dim y m) t) s)
    (hs : subscripted slice false (.ref l) (.int (m - 1) u) = operate [.ref l, .int (m - 1) u] (getItem (.ref l) (.int (m - 1) u))) :
    wpAny (model prog w) A (subscriptTail value slice (.ref l) (.int (m - 1) u)) Q E s := by
  have h0 : 0 ≤ m - 1 := by omega
  have h1 : m - 1 < ((sizes (leap y)).length : Int) := by show m - 1 < 12; omega
  obtain ⟨t, hx⟩ := hi.get (m - 1).toNat _ (ints_getD h0 h1)
  rw [sizes_item y m hm] at hx
  exact tail_any hl.typeIs slot_list_getitem.lookup (wpAny_getItem_list hl h0 (by omega) (by simpa using hx) (h t (dim_bound y m).1)) hs
theorem self_ne (x : Int) : ¬ ((x != x) = true) := by simp
theorem week_ok (a y : Int) : 1 ≤ 1 + a.fmod (weeks y) ∧ 1 + a.fmod (weeks y) ≤ weeks y := by
  have h := weeks_bound y
  have h1 := fmod_lo a (n := weeks y) (by omega)
  have h2 := fmod_hi a (n := weeks y) (by omega)
  omega
theorem day_ok (a : Int) : 1 ≤ 1 + a.fmod 7 ∧ 1 + a.fmod 7 ≤ 7 := by
  have h1 := fmod_lo a (n := 7) (by omega)
  have h2 := fmod_hi a (n := 7) (by omega)
  omega
theorem c_liso_told (w : World) (s₀ : Shared) (mg mb : Str → Option Value) (y n d : Int) (t : Tok) (hn : 1 ≤ n ∧ n ≤ weeks y) (hd : 1 ≤ d ∧ d ≤ 7) : CutL w s₀ mg mb 191 5 [.int (monday y + 7 * (n - 1) + d - 1) t] (OutT y n d) := by
  have h := told_iso hn.1 hn.2 hd.1 hd.2
  have c := c_liso w s₀ mg mb (monday y + 7 * (n - 1) + d - 1) t
  rw [h.1, h.2.1, h.2.2] at c
  exact c
section
variable {prog : Program} {w : World} {K : Frag} {p : Program} {loose : List Str} {mean : ExcName → Option Value} {mg mb : Str → Option Value} {f : Addr} {k : Nat} {vs : List Value}
  {dp un : Nat} {gd : Option (List Code)} {cn : Str} {cs : Scope} {a : Addr} {ccd : Value} {cl : List (Str × Addr)} {outer : List Env} {A₀ : Around} {base h₀ : Heap} {L : Addr} {m : Str → Option Value} {news : List (Addr × Obj)} {s : Shared} {Q E : Value → Shared → Prop}
theorem useThu {y : Int} (C : Cut prog w K p loose mean mg mb f k vs (OutI (weeks y))) (B : Below A₀ base outer h₀) (F : Fr h₀ L s.heap m) (X : K.In h₀) (N : News h₀ L s.heap news) (T : Top p loose mean mg mb h₀) (hk : cs.kind = .function)
    (hd : dp + k < recursionLimit) (hu : un + 8 * k < cLine)
    (ret : ∀ (t : Tok) (h' : Heap) (tk' : Nat), 52 ≤ weeks y → weeks y ≤ 53 → Fr h₀ L h' m → News h₀ L h' news → Q (.int (weeks y) t) { s with heap := h', toks := tk' }) :
    wpAny (model prog w) (ktrTop dp un gd cn cs L a ccd cl outer) (call (.ref f) vs) Q E s :=
  useI C B F X N T hk hd hu fun t h' tk' F' N' => ret t h' tk' (weeks_bound y).1 (weeks_bound y).2 F' N'
theorem useTold {y n d : Int} (C : Cut prog w K p loose mean mg mb f k vs (OutI (monday y + 7 * (n - 1) + d - 1))) (B : Below A₀ base outer h₀) (F : Fr h₀ L s.heap m) (X : K.In h₀) (N : News h₀ L s.heap news) (T : Top p loose mean mg mb h₀) (hk : cs.kind = .function)
    (hd : dp + k < recursionLimit) (hu : un + 8 * k < cLine)
    (ret : ∀ (t : Tok) (h' : Heap) (tk' : Nat), monday y = jan y + 3 - (jan y + 3) % 7 → Fr h₀ L h' m → News h₀ L h' news → Q (.int (monday y + 7 * (n - 1) + d - 1) t) { s with heap := h', toks := tk' }) :
    wpAny (model prog w) (ktrTop dp un gd cn cs L a ccd cl outer) (call (.ref f) vs) Q E s :=
  useI C B F X N T hk hd hu fun t h' tk' F' N' => ret t h' tk' (mon_first y) F' N'
end
theorem reg_C11_1 : True := by
  k_with_none
  k_with "compareOp In int ref" => (k_here; k_dflt (refine' in_K_tup ?k1 ?k2 ?k3 ?k4 ?_; (case k1 => k_asm); (case k2 => k_asm); (case k3 => k_is); (case k4 => l_intsW); k_whole))
  k_with "ite" => (k_here; k_openite; k_spoken; first | (refine ite_pos (by (law_purse 20000 => (law_clear; (try law_fm); (try simp only [decide_eq_true_eq, decide_eq_false_iff_not, Bool.and_eq_true, Bool.not_eq_true', Bool.not_eq_false', Bool.not_eq_true, Bool.not_eq_eq_eq_not, beq_iff_eq, bne_iff_ne, beq_eq_false_iff_ne, bne_eq_false_iff_eq, ne_eq, List.any_cons, List.any_nil, Bool.or_false, Bool.or_eq_true] at *); omega))) ?_; walk_say "PRUNED eq") | (refine ite_neg (by (law_purse 20000 => (law_clear; (try law_fm); (try simp only [decide_eq_true_eq, decide_eq_false_iff_not, Bool.and_eq_true, Bool.not_eq_true', Bool.not_eq_false', Bool.not_eq_true, Bool.not_eq_eq_eq_not, beq_iff_eq, bne_iff_ne, beq_eq_false_iff_ne, bne_eq_false_iff_eq, ne_eq, List.any_cons, List.any_nil, Bool.or_false, Bool.or_eq_true] at *); omega))) ?_; walk_say "PRUNED eq"))
  k_with "subscriptTail Name Slice ref ref" => (k_here; (with_reducible show wpAny _ _ (subscriptTail _ (PySem.Expr.Slice none (some _) none _) (Value.ref _) (Value.ref _)) _ _ _); k_dflt (refine' slice_K_upto ?F ?X ?N ?l ?h0 ?e ?b ?z ?_ ?s ?t; (case F => k_asm); (case X => k_asm); (case N => k_asm); (case l => k_is); (case h0 => decide); (case e => exact rfl); (case b => decide); (case z => kmk_size); (case s => with_unfolding_all rfl); (case t => kmk_pure)); intro D' h' F' N' l1; (try k_lt l1); (try k_sweep))
  k_with "exec For Name Subscript cons nil" => (k_here; (rename Fr _ _ _ _ => lF'); (with_unfolding_all refine' For_turns lF' ?_; k_whole))
  k_with "eval Call" => (k_here; k_dflt (refine Call_ ?_))
  k_with "isTrue Compare" => (k_here; (with_reducible show wpAny _ _ (isTrue (PySem.Expr.Compare (PySem.Expr.Constant _ _ _) [CmpOp.LtE, CmpOp.LtE] [PySem.Expr.Name _ _, PySem.Expr.Constant _ _ _] _) _ _) _ _ _); k_dflt (refine' chain_int ?ch1 ?ch2 ?ch3 ?ch4 ?ch5 ?_; (case ch1 => k_asm); (case ch2 => with_unfolding_all rfl); (case ch3 => rfl); (case ch4 => rfl); (case ch5 => decide)); intro tk')
  k_with "ite" => (k_here; (refine ite_neg (self_ne _) ?_); walk_say "PRUNED self")
  k_with "subscriptTail Call Name cons nil BinOp ref int" => (k_here; (with_reducible show wpAny _ _ (subscriptTail _ _ (Value.ref _) (Value.int _ _)) _ _ _); k_dflt (refine' item_sizes ?l ?i ?m ?_ ?s; (case l => assumption); (case i => assumption); (case m => exact gM_bound _); (case s => with_unfolding_all rfl)); intro t9 hdB9)
  k_with "call ref" => (k_here; k_dflt (k_dflt (refine' useB (c_long _ _ _ _ _ _) ?k1 ?k2 ?k3 ?k4 ?k5 ?kK ?kd ?ku ?_; (case k1 => k_asm); (case k2 => k_asm); (case k3 => k_asm); (case k4 => k_asm); (case k5 => k_asm); (case kK => first | exact rfl | assumption); (case kd => ktr_room); (case ku => ktr_units))); intro h9 tk9 F9 N9; (try dsimp only); (try k_fold))
  k_with "call ref" => (k_here; k_dflt (k_dflt (refine' useI (c_jan _ _ _ _ _ _) ?k1 ?k2 ?k3 ?k4 ?k5 ?kK ?kd ?ku ?_; (case k1 => k_asm); (case k2 => k_asm); (case k3 => k_asm); (case k4 => k_asm); (case k5 => k_asm); (case kK => first | exact rfl | assumption); (case kd => ktr_room); (case ku => ktr_units))); intro t9 h9 tk9 F9 N9; (try dsimp only); (try k_fold))
  k_with "call ref" => (k_here; k_dflt (k_dflt (refine' useI (c_year _ _ _ _ _ _) ?k1 ?k2 ?k3 ?k4 ?k5 ?kK ?kd ?ku ?_; (case k1 => k_asm); (case k2 => k_asm); (case k3 => k_asm); (case k4 => k_asm); (case k5 => k_asm); (case kK => first | exact rfl | assumption); (case kd => ktr_room); (case ku => ktr_units))); intro t9 h9 tk9 F9 N9; (try dsimp only); (try k_fold))
  k_with "call ref" => (k_here; k_dflt (k_dflt (refine' useL (c_sizes _ _ _ _ _) ?k1 ?k2 ?k3 ?k4 ?k5 ?kK ?kd ?ku ?_; (case k1 => k_asm); (case k2 => k_asm); (case k3 => k_asm); (case k4 => k_asm); (case k5 => k_asm); (case kK => first | exact rfl | assumption); (case kd => ktr_room); (case ku => ktr_units))); intro D9 w9 n9 h9 tk9 F9 N9 L9 I9; (try dsimp only); (try k_fold))
  k_with "call ref" => (k_here; k_dflt (k_dflt (refine' useI (c_weeks _ _ _ _ _ _) ?k1 ?k2 ?k3 ?k4 ?k5 ?kK ?kd ?ku ?_; (case k1 => k_asm); (case k2 => k_asm); (case k3 => k_asm); (case k4 => k_asm); (case k5 => k_asm); (case kK => first | exact rfl | assumption); (case kd => ktr_room); (case ku => ktr_units))); intro t9 h9 tk9 F9 N9; (try dsimp only); (try k_fold))
  k_with "call ref" => (k_here; k_dflt (k_dflt (refine' useThu (c_thu _ _ _ _ _ _) ?k1 ?k2 ?k3 ?k4 ?k5 ?kK ?kd ?ku ?_; (case k1 => k_asm); (case k2 => k_asm); (case k3 => k_asm); (case k4 => k_asm); (case k5 => k_asm); (case kK => first | exact rfl | assumption); (case kd => ktr_room); (case ku => ktr_units))); intro t9 h9 tk9 W9 V9 F9 N9; (try dsimp only); (try k_fold))
  k_with "call ref" => (k_here; k_dflt (k_dflt (refine' useTold (c_isotojd _ _ _ _ _ _ _ _ _ _ ?p0) ?k1 ?k2 ?k3 ?k4 ?k5 ?kK ?kd ?ku ?_; (case k1 => k_asm); (case k2 => k_asm); (case k3 => k_asm); (case k4 => k_asm); (case k5 => k_asm); (case kK => first | exact rfl | assumption); (case p0 => first | assumption | exact (week_ok _ _).1 | omega | exact isoW_pos _); (case kd => ktr_room); (case ku => ktr_units))); intro t9 h9 tk9 M9 F9 N9; (try dsimp only); (try k_fold))
  k_with "call ref" => (k_here; (with_reducible show wpAny _ _ (call (Value.ref 107) [Value.int (isoY _) _, _, _]) _ _ _); k_dflt (k_dflt (refine' useI (c_isotojd_eq _ _ _ _ _ _ _ _ _ _ _ ?p0 ?p1) ?k1 ?k2 ?k3 ?k4 ?k5 ?kK ?kd ?ku ?_; (case k1 => k_asm); (case k2 => k_asm); (case k3 => k_asm); (case k4 => k_asm); (case k5 => k_asm); (case kK => first | exact rfl | assumption); (case p0 => first | assumption | omega | exact isoW_pos _); (case p1 => first | assumption | exact iso_back _); (case kd => ktr_room); (case ku => ktr_units))); intro t9 h9 tk9 F9 N9; (try dsimp only); (try k_fold))
  k_with "call ref" => (k_here; k_dflt (k_dflt (refine' useT (c_togreg _ _ _ _ _ _ _ _ _ _ _ ?p0 ?p1) ?k1 ?k2 ?k3 ?k4 ?k5 ?kK ?kd ?ku ?_; (case k1 => k_asm); (case k2 => k_asm); (case k3 => k_asm); (case k4 => k_asm); (case k5 => k_asm); (case kK => first | exact rfl | assumption); (case p0 => first | assumption | omega | exact isoW_pos _); (case p1 => first | assumption | exact iso_back _); (case kd => ktr_room); (case ku => ktr_units))); intro D9 t9 u9 v9 n9 h9 tk9 F9 N9; (try dsimp only); (try k_fold))
  k_with "call ref" => (k_here; k_dflt (k_dflt (refine' useT (c_lgreg _ _ _ _ _ _) ?k1 ?k2 ?k3 ?k4 ?k5 ?kK ?kd ?ku ?_; (case k1 => k_asm); (case k2 => k_asm); (case k3 => k_asm); (case k4 => k_asm); (case k5 => k_asm); (case kK => first | exact rfl | assumption); (case kd => ktr_room); (case ku => ktr_units))); intro D9 t9 u9 v9 n9 h9 tk9 F9 N9; (try dsimp only); (try k_fold))
  k_with "call ref" => (k_here; k_dflt (k_dflt (refine' useT (c_liso _ _ _ _ _ _) ?k1 ?k2 ?k3 ?k4 ?k5 ?kK ?kd ?ku ?_; (case k1 => k_asm); (case k2 => k_asm); (case k3 => k_asm); (case k4 => k_asm); (case k5 => k_asm); (case kK => first | exact rfl | assumption); (case kd => ktr_room); (case ku => ktr_units))); intro D9 t9 u9 v9 n9 h9 tk9 F9 N9; (try dsimp only); (try k_fold))
  k_with "call ref" => (k_here; (with_reducible show wpAny _ _ (call (Value.ref 191) [Value.int (_ + 7 * (_ - 1) + _ - 1) _]) _ _ _); k_dflt (k_dflt (refine' useT (c_liso_told _ _ _ _ _ _ _ _ ?p0 ?p1) ?k1 ?k2 ?k3 ?k4 ?k5 ?kK ?kd ?ku ?_; (case k1 => k_asm); (case k2 => k_asm); (case k3 => k_asm); (case k4 => k_asm); (case k5 => k_asm); (case kK => first | exact rfl | assumption); (case p0 => first | exact week_ok _ _ | assumption); (case p1 => first | exact day_ok _ | assumption); (case kd => ktr_room); (case ku => ktr_units))); intro D9 t9 u9 v9 n9 h9 tk9 F9 N9; (try dsimp only); (try k_fold))
  k_with "call ref" => (k_here; k_dflt (k_dflt (refine' useT (c_fromgreg _ _ _ _ _ _ _ _ _ _ ?p0 ?p1 ?p2 _ ?p3) ?k1 ?k2 ?k3 ?k4 ?k5 ?kK ?kd ?ku ?_; (case k1 => k_asm); (case k2 => k_asm); (case k3 => k_asm); (case k4 => k_asm); (case k5 => k_asm); (case kK => first | exact rfl | assumption); (case p0 => first | assumption | omega); (case p1 => first | assumption | exact gM_bound _); (case p2 => first | assumption | exact gD_bound _); (case p3 => first | assumption | exact g_back _); (case kd => ktr_room); (case ku => ktr_units))); intro D9 t9 u9 v9 n9 h9 tk9 F9 N9; (try dsimp only); (try k_fold))
  k_with "call ref" => (k_here; k_dflt (k_dflt (refine' useT (c_fromjdiso _ _ _ _ _ _ ?p0) ?k1 ?k2 ?k3 ?k4 ?k5 ?kK ?kd ?ku ?_; (case k1 => k_asm); (case k2 => k_asm); (case k3 => k_asm); (case k4 => k_asm); (case k5 => k_asm); (case kK => first | exact rfl | assumption); (case p0 => first | assumption | omega); (case kd => ktr_room); (case ku => ktr_units))); intro D9 t9 u9 v9 n9 h9 tk9 F9 N9; (try dsimp only); (try k_fold))
  k_with "call ref" => (k_here; k_dflt (k_dflt (refine' useS (c_refused _ _ _ _ _ _ _ _ _ _ ?p0) ?k1 ?k2 ?k3 ?k4 ?k5 ?kXB9 ?kTB9 ?kK ?kd ?ku ?_; (case k1 => k_asm); (case k2 => k_asm); (case k3 => k_asm); (case k4 => k_asm); (case k5 => k_asm); (case kXB9 => assumption); (case kTB9 => assumption); (case kK => first | exact rfl | assumption); (case p0 => first | exact .inl (by with_reducible assumption) | exact .inr ⟨by with_reducible assumption, gM_bound _, not_zero _⟩ | exact .inr ⟨by with_reducible assumption, gM_bound _, not_after _⟩); (case kd => ktr_room); (case ku => ktr_units))); intro h9 tk9 F9 N9; (try dsimp only); (try k_fold))
  k_with "call ref" => (k_here; k_dflt (k_dflt (refine' useS (c_refused_day _ _ _ _ _ _ ?p0) ?k1 ?k2 ?k3 ?k4 ?k5 ?kXB9 ?kTB9 ?kK ?kd ?ku ?_; (case k1 => k_asm); (case k2 => k_asm); (case k3 => k_asm); (case k4 => k_asm); (case k5 => k_asm); (case kXB9 => assumption); (case kTB9 => assumption); (case kK => first | exact rfl | assumption); (case p0 => with_reducible assumption); (case kd => ktr_room); (case ku => ktr_units))); intro h9 tk9 F9 N9; (try dsimp only); (try k_fold))
  trivial
set_option maxHeartbeats 8000000 in
theorem t : PySem.Challenge.rw_ja0017_01.Holds := hd (by
  k_go0
  all_goals try k_fold
  k_with "exec If" => (k_here; (with_reducible show wpAny _ _ (exec (Stmt.If _ _ _ ⟨188, 4, 194, 20⟩) _) _ _ _); (k_dflt (refine' join0 ?F ?N (wpAny_If ?_) (fun h' tk' F' N' => ?_); (case F => k_asm); (case N => k_asm))); (all_goals (try dsimp only)); (all_goals (try k_fold)))
  k_steps
  all_goals (try ((repeat (k_unfold; (try dsimp only))); (try dsimp only); exact join0_end (by with_reducible assumption) (by with_reducible assumption) (by k_subL)))
  all_goals (try k_data))
end Mine
theorem PySem.Challenge.cw_ja0017_01_holds : PySem.Challenge.rw_ja0017_01.Holds :=
  Mine.t
