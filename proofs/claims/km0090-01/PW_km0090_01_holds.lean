import PyProof.Rows.All
import Wide.All
import OpenK.AllK
import Wide.FinOn
import PySem.Challenge.RW_km0090_01
set_option Elab.async false
set_option maxRecDepth 100000
set_option maxHeartbeats 8000000
namespace Mine
-- P0
section
def leap (y : Int) : Bool := decide (y % 4 = 0) && (!decide (y % 100 = 0) || decide (y % 400 = 0))
def dby (y : Int) : Int := (y - 1) * 365 + (y - 1) / 4 - (y - 1) / 100 + (y - 1) / 400
def dimT : List Int := [-1, 31, 28, 31, 30, 31, 30, 31, 31, 30, 31, 30, 31]
def dbmT : List Int := [-1, 0, 31, 59, 90, 120, 151, 181, 212, 243, 273, 304, 334]
def dimY (y m : Int) : Int := if m = 2 ∧ leap y = true then 29 else dimT.getD m.toNat 0
def dbmY (y m : Int) : Int := dbmT.getD m.toNat 0 + (if 2 < m ∧ leap y = true then 1 else 0)
theorem dim1 {y m : Int} (h : m = 2) (h' : leap y = true) : 29 = dimY y m := by simp [dimY, h, h']
theorem dim2 {y m : Int} (h' : leap y = false) : dimT.getD m.toNat 0 = dimY y m := by simp [dimY, h']
theorem dim3 {y m : Int} (h : m ≠ 2) : dimT.getD m.toNat 0 = dimY y m := by simp [dimY, h]
theorem dbm1 {y m : Int} (h : 2 < m) : (dbmT.getD m.toNat 0 + if leap y = true then 1 else 0) = dbmY y m := by simp [dbmY, h]
theorem dbm2 {y m : Int} (h : ¬ 2 < m) : (dbmT.getD m.toNat 0 + if decide (2 < m) = true then 1 else 0) = dbmY y m := by simp [dbmY, h]
def monthsT : List Int := [31, 28, 31, 30, 31, 30, 31, 31, 30, 31, 30, 31, 31, 28, 31, 30, 31, 30, 31, 31, 30, 31, 30, 31, 31, 28, 31, 30, 31, 30, 31, 31, 30, 31, 30, 31, 31, 29, 31, 30, 31, 30, 31, 31, 30, 31, 30, 31]
theorem leap_iff (y : Int) : leap y = true ↔ (y % 4 = 0 ∧ (y % 100 ≠ 0 ∨ y % 400 = 0)) := by simp [leap]
theorem twelve {k : Int} (h0 : 1 ≤ k) (h1 : k ≤ 12) : k = 1 ∨ k = 2 ∨ k = 3 ∨ k = 4 ∨ k = 5 ∨ k = 6 ∨ k = 7 ∨ k = 8 ∨ k = 9 ∨ k = 10 ∨ k = 11 ∨ k = 12 := by omega
theorem dbm_facts {k : Int} (h0 : 1 ≤ k) (h1 : k ≤ 12) : (k ≤ 2 → 12 * (dbmT.getD k.toNat 0) ≤ 367 * k - 362 ∧ 367 * k - 362 < 12 * (dbmT.getD k.toNat 0) + 12) ∧ (2 < k → 12 * (dbmT.getD k.toNat 0) + 24 ≤ 367 * k - 362 ∧ 367 * k - 362 < 12 * (dbmT.getD k.toNat 0) + 36) := by
  rcases twelve h0 h1 with h | h | h | h | h | h | h | h | h | h | h | h <;> subst h <;> decide
theorem dim_facts {k : Int} (h0 : 1 ≤ k) (h1 : k ≤ 12) : (k = 2 → dimT.getD k.toNat 0 = 28) ∧ (k ≠ 2 → 12 * (dimT.getD k.toNat 0) ≤ 367 * (k + 1) - 362 - 12 * ((367 * k - 362) / 12) ∧ 367 * (k + 1) - 362 - 12 * ((367 * k - 362) / 12) < 12 * (dimT.getD k.toNat 0) + 12) := by
  rcases twelve h0 h1 with h | h | h | h | h | h | h | h | h | h | h | h <;> subst h <;> decide
theorem dbm_step {y k : Int} (h0 : 2 ≤ k) (h1 : k ≤ 12) : dbmY y k - dimY y (k - 1) = dbmY y (k - 1) := by
  rcases twelve (by omega) h1 with h | h | h | h | h | h | h | h | h | h | h | h <;> subst h <;> first | omega | (simp [dbmY, dimY, dbmT, dimT]; done) | (simp [dbmY, dimY, dbmT, dimT]; split <;> omega)
theorem dby_q {a b c e : Int} (b0 : 0 ≤ b) (b1 : b ≤ 3) (c0 : 0 ≤ c) (c1 : c ≤ 24) (e0 : 0 ≤ e) (e1 : e ≤ 3) : dby (a * 400 + 1 + (b * 100 + c * 4 + e)) = 146097 * a + 36524 * b + 1461 * c + 365 * e := by
  unfold dby; omega
theorem leap_q {a b c e : Int} (b0 : 0 ≤ b) (b1 : b ≤ 3) (c0 : 0 ≤ c) (c1 : c ≤ 24) (e0 : 0 ≤ e) (e1 : e ≤ 3) : leap (a * 400 + 1 + (b * 100 + c * 4 + e)) = (decide (e = 3) && (!decide (c = 24) || decide (b = 3))) := by
  rw [Bool.eq_iff_iff, leap_iff]
  simp only [Bool.and_eq_true, Bool.or_eq_true, decide_eq_true_eq, Bool.not_eq_true', decide_eq_false_iff_not]
  omega
theorem dbmY12 (y : Int) (h : leap y = true) : dbmY y 12 = 335 := by simp [dbmY, dbmT, h]
theorem dimY12 (y : Int) : dimY y 12 = 31 := by simp [dimY, dimT]
theorem ord_12 {n a b c e r R1 R2 R3 : Int} (e1 : n - 1 = 146097 * a + R1) (e2 : R1 = 36524 * b + R2) (e3 : R2 = 1461 * c + R3) (e4 : R3 = 365 * e + r) (l1 : 0 ≤ R1) (u1 : R1 < 146097) (l2 : 0 ≤ R2) (u2 : R2 < 36524) (l3 : 0 ≤ R3) (u3 : R3 < 1461) (hr : r = 0) (h : e = 4 ∨ b = 4) :
    n = dby (a * 400 + 1 + (b * 100 + c * 4 + e) - 1) + dbmY (a * 400 + 1 + (b * 100 + c * 4 + e) - 1) 12 + 31 := by
  rw [dbmY12 _ ((leap_iff _).mpr (by omega))]
  rcases h with h | h
  · have e5 : a * 400 + 1 + (b * 100 + c * 4 + e) - 1 = a * 400 + 1 + (b * 100 + c * 4 + 3) := by omega
    rw [e5, dby_q (by omega) (by omega) (by omega) (by omega) (by omega) (by omega)]; omega
  · have e5 : a * 400 + 1 + (b * 100 + c * 4 + e) - 1 = a * 400 + 1 + (3 * 100 + 24 * 4 + 3) := by omega
    rw [e5, dby_q (by omega) (by omega) (by omega) (by omega) (by omega) (by omega)]; omega
theorem or_l {p q : Prop} (h : p) : p ∨ q := .inl h
theorem or_r {p q : Prop} (h : q) : p ∨ q := .inr h
theorem ord_bad {b c e r R1 R2 R3 : Int} (e2 : R1 = 36524 * b + R2) (e3 : R2 = 1461 * c + R3) (e4 : R3 = 365 * e + r) (u1 : R1 < 146097) (l2 : 0 ≤ R2) (u2 : R2 < 36524) (l3 : 0 ≤ R3) (u3 : R3 < 1461) (l4 : 0 ≤ r) (u4 : r < 365) (hr : r ≠ 0) (h : e = 4 ∨ b = 4) : False := by omega
theorem ord_leap {n a b c e r R1 R2 R3 : Int} {lp : Bool} (e1 : n - 1 = 146097 * a + R1) (e2 : R1 = 36524 * b + R2) (e3 : R2 = 1461 * c + R3) (e4 : R3 = 365 * e + r) (l1 : 0 ≤ R1) (u1 : R1 < 146097) (l2 : 0 ≤ R2) (u2 : R2 < 36524) (l3 : 0 ≤ R3) (u3 : R3 < 1461) (l4 : 0 ≤ r) (u4 : r < 365) (he : e ≠ 4) (hb : b ≠ 4)
    (hlp : lp = (decide (e = 3) && (!decide (c = 24) || decide (b = 3)))) (h : (lp == leap (a * 400 + 1 + (b * 100 + c * 4 + e))) = false) : False := by
  rw [leap_q (by omega) (by omega) (by omega) (by omega) (by omega) (by omega), hlp] at h
  simp at h
theorem dbm_is {y k v d : Int} {lp : Bool} (hL : (lp == leap y) = true) (f : v = dbmT.getD k.toNat 0) (g : d = v + if (decide (2 < k) && lp) = true then 1 else 0) : d = dbmY y k := by
  rw [beq_iff_eq] at hL
  subst hL; subst f; rw [g]; simp [dbmY]
theorem dim_is {y k v d : Int} {lp : Bool} (hL : (lp == leap y) = true) (f : v = dimT.getD k.toNat 0) (g : d = v + if (decide (k = 2) && lp) = true then 1 else 0) : d = dimY y k := by
  rw [beq_iff_eq] at hL
  subst hL; subst f; rw [g]
  by_cases h : k = 2
  · subst h; simp only [dimY, dimT]; cases leap y <;> decide
  · simp [dimY, h]
theorem ord_num {n a b c e r R1 R2 R3 : Int} (e1 : n - 1 = 146097 * a + R1) (e2 : R1 = 36524 * b + R2) (e3 : R2 = 1461 * c + R3) (e4 : R3 = 365 * e + r) (l1 : 0 ≤ R1) (u1 : R1 < 146097) (l2 : 0 ≤ R2) (u2 : R2 < 36524) (l3 : 0 ≤ R3) (u3 : R3 < 1461) (l4 : 0 ≤ r) (u4 : r < 365) (he : e ≠ 4) (hb : b ≠ 4) : n = dby (a * 400 + 1 + (b * 100 + c * 4 + e)) + r + 1 := by
  rw [dby_q (by omega) (by omega) (by omega) (by omega) (by omega) (by omega)]; omega
theorem ord_same {n y k v d r : Int} {lp : Bool} (hn : n = dby y + r + 1) (hL : (lp == leap y) = true) (f : v = dbmT.getD k.toNat 0) (g : d = v + if (decide (2 < k) && lp) = true then 1 else 0) : n = dby y + dbmY y k + (r - d + 1) := by
  rw [← dbm_is hL f g]; omega
theorem ord_prev {n y k v d v' d' r : Int} {lp : Bool} (hn : n = dby y + r + 1) (hL : (lp == leap y) = true) (f : v = dbmT.getD k.toNat 0) (g : d = v + if (decide (2 < k) && lp) = true then 1 else 0) (f' : v' = dimT.getD (k - 1).toNat 0) (g' : d' = v' + if (decide (k - 1 = 2) && lp) = true then 1 else 0) (h0 : 2 ≤ k) (h1 : k ≤ 12) :
    n = dby y + dbmY y (k - 1) + (r - (d - d') + 1) := by
  rw [← dbm_step h0 h1, ← dbm_is hL f g, ← dim_is hL f' g']; omega
theorem ord_prev_bad {y k d v' d' r : Int} {lp : Bool} (hL : (lp == leap y) = true) (f' : v' = dimT.getD (k - 1).toNat 0) (g' : d' = v' + if (decide (k - 1 = 2) && lp) = true then 1 else 0) (h : r < d) (hb : ¬ r - (d - d') < dimY y (k - 1)) : False := by
  rw [← dim_is hL f' g'] at hb; omega
theorem ord_same_bad {y k v d r : Int} {lp : Bool} (hL : (lp == leap y) = true) (f : v = dbmT.getD k.toNat 0) (g : d = v + if (decide (2 < k) && lp) = true then 1 else 0) (b9 : 32 * k ≤ r + 50) (c9 : r + 50 < 32 * k + 32) (l : 0 ≤ r) (u : r < 365) (hb : ¬ r - d < dimY y k) : False := by
  rw [dbm_is hL f g] at hb
  clear hL f g
  apply hb; clear hb
  rcases twelve (k := k) (by omega) (by omega) with h | h | h | h | h | h | h | h | h | h | h | h <;> subst h <;> simp [dbmY, dimY, dbmT, dimT] <;> (repeat' split) <;> omega
def jsum (p : Int) : Int := (monthsT.take p.toNat).sum
def jord (y m d : Int) : Int := 1461 * ((y - 1) / 4) + jsum (12 * ((y - 1) % 4) + m - 1) + d - 2
/-- a name that the old style has -/
def JV (y m d : Int) : Prop := 1 ≤ m ∧ m ≤ 12 ∧ 1 ≤ d ∧ d ≤ monthsT.getD (12 * ((y - 1) % 4) + m - 1).toNat 0
theorem jsum_step {p : Int} (h0 : 0 ≤ p) (h1 : p < 48) : jsum (p + 1) = jsum p + monthsT.getD p.toNat 0 := by
  obtain ⟨k, rfl⟩ := Int.eq_ofNat_of_zero_le h0
  have hk : k < 48 := by omega
  have e : ∀ k : Nat, k < 48 → (monthsT.take (k + 1)).sum = (monthsT.take k).sum + monthsT.getD k 0 := by decide
  have h := e k hk
  unfold jsum
  rw [show ((k : Int) + 1).toNat = k + 1 by omega, show ((k : Int)).toNat = k by omega]
  exact h
theorem jsum_top : jsum 48 = 1461 := by decide
theorem st_start {n q r : Int} (e : n + 1 = 1461 * q + r) (h0 : 0 ≤ r) (h1 : r < 1461) : (0 : Int) ≤ 0 ∧ (0 : Int) ≤ 47 ∧ 0 ≤ r ∧ r + jsum 0 = (n + 1) % 1461 := by
  have : jsum 0 = 0 := by decide
  omega
theorem st_turn {p left L0 : Int} (h0 : 0 ≤ p) (h1 : p ≤ 47) (h3 : left + jsum p = L0) (hL : L0 < 1461) (ht : monthsT.getD p.toNat 0 ≤ left) : 0 ≤ p + 1 ∧ p + 1 ≤ 47 ∧ 0 ≤ left - monthsT.getD p.toNat 0 ∧ left - monthsT.getD p.toNat 0 + jsum (p + 1) = L0 := by
  have e := jsum_step h0 (by omega)
  refine ⟨by omega, ?_, by omega, by rw [e]; omega⟩
  by_cases hp : p = 47
  · subst hp
    rw [show (47 : Int) + 1 = 48 by decide, jsum_top] at e
    omega
  · omega
theorem jname {n q r p left : Int} (e : n + 1 = 1461 * q + r) (r0 : 0 ≤ r) (r1 : r < 1461) (h0 : 0 ≤ p) (h1 : p ≤ 47) (h2 : 0 ≤ left) (h3 : left + jsum p = (n + 1) % 1461) (ht : left < monthsT.getD p.toNat 0) : JV (4 * q + p / 12 + 1) (p % 12 + 1) (left + 1) ∧ jord (4 * q + p / 12 + 1) (p % 12 + 1) (left + 1) = n := by
  have e1 : (4 * q + p / 12 + 1 - 1) / 4 = q := by omega
  have e2 : 12 * ((4 * q + p / 12 + 1 - 1) % 4) + (p % 12 + 1) - 1 = p := by omega
  unfold JV jord
  rw [e1, e2]
  refine ⟨⟨by omega, by omega, by omega, by omega⟩, by omega⟩
theorem four (y : Int) : (y - 1) % 4 = 0 ∨ (y - 1) % 4 = 1 ∨ (y - 1) % 4 = 2 ∨ (y - 1) % 4 = 3 := by omega
theorem jv_jan (y : Int) : JV y 1 1 := by
  unfold JV
  rcases four y with h | h | h | h <;> rw [h] <;> decide
theorem jv_feb (y : Int) : JV y 2 28 := by
  unfold JV
  rcases four y with h | h | h | h <;> rw [h] <;> decide
theorem jv_mar (y : Int) : JV y 3 1 := by
  unfold JV
  rcases four y with h | h | h | h <;> rw [h] <;> decide
theorem jv_dec (y : Int) : JV y 12 31 := by
  unfold JV
  rcases four y with h | h | h | h <;> rw [h] <;> decide
theorem jv_leap {y : Int} (h : y % 4 = 0) : JV y 2 29 := by
  unfold JV
  rw [show (y - 1) % 4 = 3 by omega]
  decide
end
-- P1
section
theorem jsum_is (r m : Int) (r0 : 0 ≤ r) (r3 : r ≤ 3) (m1 : 1 ≤ m) (m2 : m ≤ 12) : jsum (12 * r + m - 1) = 365 * r + dbmT.getD m.toNat 0 + (if r = 3 ∧ 2 < m then 1 else 0) := by
  have hr : r = 0 ∨ r = 1 ∨ r = 2 ∨ r = 3 := by omega
  rcases hr with h | h | h | h <;> subst h <;> rcases twelve m1 m2 with h | h | h | h | h | h | h | h | h | h | h | h <;> subst h <;> decide
def gapJ (c : Int) : Int := c - c / 4 - 2
theorem leap_no {y : Int} (h : leap y = false) : ¬ (y % 4 = 0 ∧ (y % 100 ≠ 0 ∨ y % 400 = 0)) := by
  intro q; rw [(leap_iff y).mpr q] at h; cases h
theorem jord_lt {y m d : Int} (m1 : 1 ≤ m) (m3 : m < 3) : jord y m d - gapJ ((y - 1) / 100) = dby y + dbmY y m + d := by
  unfold jord
  rw [jsum_is _ _ (by omega) (by omega) m1 (by omega)]
  unfold gapJ dby dbmY
  rw [if_neg (by omega), if_neg (by omega)]
  omega
theorem jord_ge {y m d : Int} (m3 : 3 ≤ m) (m2 : m ≤ 12) : jord y m d - gapJ (y / 100) = dby y + dbmY y m + d := by
  unfold jord
  rw [jsum_is _ _ (by omega) (by omega) (by omega) m2]
  unfold gapJ dby dbmY
  cases h : leap y with
  | false =>
    have h' := leap_no h
    simp only [Bool.false_eq_true, and_false, if_false]
    split <;> omega
  | true =>
    have h' := (leap_iff y).mp h
    rw [if_pos (by omega), if_pos ⟨by omega, rfl⟩]
    omega
theorem jord_bad {y : Int} (h4 : y % 4 = 0) (h : leap y = false) : jord y 2 29 - gapJ ((y - 1) / 100) = dby y + dbmY y 3 + 1 := by
  rw [jord_lt (by decide) (by decide)]
  have h' := leap_no h
  unfold dbmY
  rw [h]
  simp [dbmT]
  omega
theorem months_is (r m : Int) (r0 : 0 ≤ r) (r3 : r ≤ 3) (m1 : 1 ≤ m) (m2 : m ≤ 12) : monthsT.getD (12 * r + m - 1).toNat 0 = dimT.getD m.toNat 0 + (if r = 3 ∧ m = 2 then 1 else 0) := by
  have hr : r = 0 ∨ r = 1 ∨ r = 2 ∨ r = 3 := by omega
  rcases hr with h | h | h | h <;> subst h <;> rcases twelve m1 m2 with h | h | h | h | h | h | h | h | h | h | h | h <;> subst h <;> decide
theorem jv_valid {y m d : Int} (h : JV y m d) (hb : ¬ (m = 2 ∧ d = 29 ∧ leap y = false)) : d ≤ dimY y m := by
  obtain ⟨m1, m2, d1, d2⟩ := h
  rw [months_is _ _ (by omega) (by omega) m1 m2] at d2
  have t := (dim_facts m1 m2).1
  unfold dimY
  by_cases hm : m = 2
  · have t' := t hm
    rw [t'] at d2 ⊢
    cases hl : leap y with
    | false =>
      have e : ¬ d = 29 := fun e => hb ⟨hm, e, hl⟩
      rw [if_neg (by simp)]
      split at d2 <;> omega
    | true =>
      rw [if_pos ⟨hm, rfl⟩]
      split at d2 <;> omega
  · rw [if_neg (fun q => hm q.1)]
    rw [if_neg (fun q => hm q.2)] at d2
    omega
theorem jv_four {y : Int} (h : JV y 2 29) : y % 4 = 0 := by
  obtain ⟨_, _, _, d2⟩ := h
  rcases four y with e | e | e | e <;> rw [e] at d2 <;> simp [monthsT] at d2
  omega
theorem dim_top {y m : Int} (m1 : 1 ≤ m) (m2 : m ≤ 12) : dbmY y m + dimY y m ≤ 365 + (if leap y = true then 1 else 0) := by
  unfold dbmY dimY
  cases leap y <;> rcases twelve m1 m2 with h | h | h | h | h | h | h | h | h | h | h | h <;> subst h <;> decide
theorem dbm_low {y m : Int} (m1 : 1 ≤ m) (m2 : m ≤ 12) : 0 ≤ dbmY y m := by
  unfold dbmY
  cases leap y <;> rcases twelve m1 m2 with h | h | h | h | h | h | h | h | h | h | h | h <;> subst h <;> decide
theorem dby_up {y y' : Int} (h : y < y') : dby y + 365 + (if leap y = true then 1 else 0) ≤ dby y' := by
  have e : dby (y + 1) = dby y + 365 + (if leap y = true then 1 else 0) := by
    unfold dby
    cases hl : leap y with
    | false => have := leap_no hl; simp only [Bool.false_eq_true, if_false]; omega
    | true => have := (leap_iff y).mp hl; simp only [if_true]; omega
  have m : dby (y + 1) ≤ dby y' := by unfold dby; omega
  omega
theorem dbm_up {y m m' : Int} (h : m < m') (m1 : 1 ≤ m) (m2 : m' ≤ 12) : dbmY y m + dimY y m ≤ dbmY y m' := by
  have s := dbm_step (y := y) (k := m + 1) (by omega) (by omega)
  rw [Int.add_sub_cancel] at s
  have a := dbm_facts (k := m + 1) (by omega) (by omega)
  have b := dbm_facts (k := m') (by omega) (by omega)
  have mono : dbmY y (m + 1) ≤ dbmY y m' := by
    unfold dbmY
    generalize dbmT.getD (m + 1).toNat 0 = u at *
    generalize dbmT.getD m'.toNat 0 = v at *
    cases leap y <;> simp <;> (repeat' split) <;> omega
  omega
theorem ymd_inj {y m d y' m' d' : Int} (m1 : 1 ≤ m) (m2 : m ≤ 12) (d1 : 1 ≤ d) (d2 : d ≤ dimY y m) (m1' : 1 ≤ m') (m2' : m' ≤ 12) (d1' : 1 ≤ d') (d2' : d' ≤ dimY y' m')
    (h : dby y + dbmY y m + d = dby y' + dbmY y' m' + d') : y = y' ∧ m = m' ∧ d = d' := by
  have t := dim_top (y := y) m1 m2
  have t' := dim_top (y := y') m1' m2'
  have l := dbm_low (y := y) m1 m2
  have l' := dbm_low (y := y') m1' m2'
  have ey : y = y' := by
    rcases Int.lt_trichotomy y y' with q | q | q
    · have := dby_up q; omega
    · exact q
    · have := dby_up q; omega
  subst ey
  have em : m = m' := by
    rcases Int.lt_trichotomy m m' with q | q | q
    · have := dbm_up (y := y) q m1 m2'; omega
    · exact q
    · have := dbm_up (y := y) q m1' m2; omega
  subst em
  exact ⟨rfl, rfl, by omega⟩
theorem gap_bad {y : Int} (h4 : y % 4 = 0) (h : leap y = false) : gapJ ((y - 1) / 100) < gapJ (y / 100) := by
  have := leap_no h
  unfold gapJ; omega
theorem gap_good {y : Int} (h4 : y % 4 = 0) (h : leap y = true) : ¬ gapJ ((y - 1) / 100) < gapJ (y / 100) := by
  have := (leap_iff y).mp h
  unfold gapJ; omega
end
-- Base0
section
open PySem PySem.W PyProof.Rows
open_top hd for PySem.Challenge.rw_km0090_01
end
-- Off
section
open PySem PySem.W PyProof.Rows PySem.Calls
/-- the walk's state as it is ahead of a head -/
theorem off : True := by
  w_top off
  trivial
end
-- C1
section
open PySem PySem.W PyProof.Rows PySem.Calls
section
variable {prog : Program} {w : World} {A A₀ : Around} {E : Value → Shared → Prop} {s : Shared} {K : Frag} {L : Addr} {h₀ base : Heap} {m mg mb : Str → Option Value} {p : Program} {loose : List Str} {mean : ExcName → Option Value}
/-- a def of the text is entered with an empty ledger: what stood before the call is its ground -/
theorem code_own {env : Env} {outer : List Env} {R : Result → Shared → Prop} {name qual : Str} {params : Arguments} {body : List Stmt} {scope : Scope} {dV kV doc pm cdv ct oc : Value} {an od : Option Addr} {osl : Array (Option Value)} {f : Addr} {args : Args} {binds : List (Str × Value)}
    (B : Below A₀ base outer h₀) (F : Fr h₀ L s.heap m) (X₀ : K.In h₀) (T : Top p loose mean mg mb h₀) (hA : A.frames = some (env :: outer)) (hf : env.frame = some L) (hke : env.scope.kind = .function)
    (ho : K.lookup f = some ⟨oc, od, .func (fnOf name qual params body scope dV kV doc pm an cdv ct), osl⟩) (hcd : codeIn K cdv qual = true) (hroom : A.depth < recursionLimit)
    (hbind : BindsTo s (fnOf name qual params body scope dV kV doc pm an cdv ct) args binds) (hloc : ∀ y ∈ binds, scope.names.lookup y.1 = some .local)
    (h : ∀ L' h₁ tk, Fr s.heap L' h₁ (fun y => binds.reverse.lookup y) → News s.heap L' h₁ [] → Below A base (env :: outer) s.heap → K.In s.heap → Top p loose mean mg mb s.heap →
      wpAny (model prog w) (A.deeper (envOf qual scope L' f cdv)) (execs body (envOf qual scope L' f cdv))
        (fun fl s' => LeaveK h₀ L m s.heap R (match fl with | .ret v => v | _ => .none) s')
        (fun e s' => wpAny (model prog w) (A.deeper (envOf qual scope L' f cdv)) (leaving (envOf qual scope L' f cdv) e) (fun _ s'' => R (.error e) s'') (fun e' s'' => R (.error e') s'') s')
        { s with heap := h₁, toks := tk })
    (hco : scope.isCoroutine = false) (hgen : scope.isGenerator = false) (hk : scope.kind = .function)
    (hcell : ∀ x ∈ scope.names, x.2 ≠ .cell) : codeAny (model prog w) A (.call (.ref f) args) R s := by
  have g := groundX (R := R) (news := []) B F News.nil hA hf hke
  obtain ⟨_, BG, _, lv⟩ := g
  have X : K.In s.heap := X₀.keeps F.keep
  refine codeAny_call_def (fd := fnOf name qual params body scope dV kV doc pm an cdv ct) (body := body) (binds := binds) hroom (X _ _ ho) rfl (T.nolimit.keeps F.keep) (codeRec_of X hcd) rfl hbind hcell hloc (fun h₁ hns hk₁ => ?_) hco hgen hk
  exact wpAny_mono (h _ h₁ _ ⟨hns, hk₁, Nat.le_refl _⟩ News.nil BG X (T.keeps F.keep)) (fun fl s' hl => lv _ _ hl) fun _ _ y => y
end
section
variable {s : Shared} {h' : Heap} {L' : Addr} {m' : Str → Option Value} {Q : Value → Shared → Prop} {t : Tok} {tk' : Nat}
theorem own_retI {x y : Int} (hret : ∀ (t : Tok) (h' : Heap) (tk' : Nat), s.heap.StaysIn h' → Q (.int x t) { s with heap := h', toks := tk' }) (e : y = x) (F : Fr s.heap L' h' m') : Q (.int y t) { s with heap := h', toks := tk' } := by
  subst e
  exact hret t h' tk' F.keep
theorem own_retB {x y : Bool} (hret : ∀ (t : Tok) (h' : Heap) (tk' : Nat), s.heap.StaysIn h' → Q (.bool x) { s with heap := h', toks := tk' }) (e : y = x) (F : Fr s.heap L' h' m') : Q (.bool y) { s with heap := h', toks := tk' } := by
  subst e
  exact hret 0 h' tk' F.keep
theorem own_retO {O : Obj → Prop} {x : Addr} {o : Obj} {news : List (Addr × Obj)} (hret : ∀ (x : Addr) (o : Obj) (h' : Heap) (tk' : Nat), O o → s.heap.StaysIn h' → h'.get? x = some o → s.heap.get? x = none → Q (.ref x) { s with heap := h', toks := tk' })
    (F : Fr s.heap L' h' m') (N : News s.heap L' h' news) (hm : (x, o) ∈ news) (e : O o) : Q (.ref x) { s with heap := h', toks := tk' } :=
  hret x o h' tk' e F.keep (N _ hm).1 (N _ hm).2.2
end
/-- a call of the def at f: it hands back R, and leaves all that stood as it was -/
def CtW (n : Nat) (w : World) (mean : ExcName → Option Value) (mg mb : Str → Option Value) (f : Addr) (vs : List Value) (R : Tok → Value) : Prop :=
  ∀ (dp un : Nat) (gd : Option (List Code)) (cn : Str) (cs : Scope) (a : Addr) (ccd : Value) (cl : List (Str × Addr)) (outer : List Env) (A₀ : Around) (base h₀ : Heap) (L : Addr) (m : Str → Option Value) (s : Shared) (Q E : Value → Shared → Prop),
    Below A₀ base outer h₀ → Fr h₀ L s.heap m → (hd.heap_39 w.params).In h₀ →
    Top hd.view_39 (looseW hd.view_39 [Str.ofString "_DAYS_IN_MONTH", Str.ofString "_DAYS_BEFORE_MONTH", Str.ofString "_DI400Y", Str.ofString "_DI100Y", Str.ofString "_DI4Y"]) mean mg mb h₀ →
    cs.kind = .function → dp + n < recursionLimit → un + 8 * n < cLine →
    (∀ (t : Tok) (h' : Heap) (tk' : Nat), s.heap.StaysIn h' → Q (R t) { s with heap := h', toks := tk' }) →
    wpAny (model PySem.Challenge.rw_km0090_01.row.prog w) (ktrTop dp un gd cn cs L a ccd cl outer) (call (.ref f) vs) Q E s
/-- the same where a new object is handed back -/
def CtO (n : Nat) (w : World) (mean : ExcName → Option Value) (mg mb : Str → Option Value) (f : Addr) (vs : List Value) (O : Obj → Prop) : Prop :=
  ∀ (dp un : Nat) (gd : Option (List Code)) (cn : Str) (cs : Scope) (a : Addr) (ccd : Value) (cl : List (Str × Addr)) (outer : List Env) (A₀ : Around) (base h₀ : Heap) (L : Addr) (m : Str → Option Value) (s : Shared) (Q E : Value → Shared → Prop),
    Below A₀ base outer h₀ → Fr h₀ L s.heap m → (hd.heap_39 w.params).In h₀ →
    Top hd.view_39 (looseW hd.view_39 [Str.ofString "_DAYS_IN_MONTH", Str.ofString "_DAYS_BEFORE_MONTH", Str.ofString "_DI400Y", Str.ofString "_DI100Y", Str.ofString "_DI4Y"]) mean mg mb h₀ →
    cs.kind = .function → dp + n < recursionLimit → un + 8 * n < cLine →
    (∀ (x : Addr) (o : Obj) (h' : Heap) (tk' : Nat), O o → s.heap.StaysIn h' → h'.get? x = some o → s.heap.get? x = none → Q (.ref x) { s with heap := h', toks := tk' }) →
    wpAny (model PySem.Challenge.rw_km0090_01.row.prog w) (ktrTop dp un gd cn cs L a ccd cl outer) (call (.ref f) vs) Q E s
theorem fr_stays {h₀ h h' : Heap} {L : Addr} {m : Str → Option Value} (F : Fr h₀ L h m) (k : h.StaysIn h') : Fr h₀ L h' m :=
  ⟨F.ns.at' fun o e => k L o e, fun b o e => k b o (F.keep b o e), F.above⟩
theorem news_stays {h₀ h h' : Heap} {L : Addr} {news : List (Addr × Obj)} (N : News h₀ L h news) (k : h.StaysIn h') : News h₀ L h' news :=
  fun p hp => ⟨k _ _ (N p hp).1, (N p hp).2⟩
theorem news_more {h₀ h h' : Heap} {L x : Addr} {m : Str → Option Value} {o : Obj} {news : List (Addr × Obj)} (F : Fr h₀ L h m) (N : News h₀ L h news) (k : h.StaysIn h') (hx : h'.get? x = some o) (hn : h.get? x = none) : News h₀ L h' ((x, o) :: news) := by
  intro p hp
  rcases List.mem_cons.mp hp with rfl | hp
  · refine ⟨hx, fun e => ?_, ?_⟩
    · obtain ⟨oL, _, _, hL, _⟩ := F.ns
      rw [← e, hn] at hL
      cases hL
    · cases hq : h₀.get? x with
      | none => rfl
      | some o' =>
        have := F.keep _ _ hq
        rw [hn] at this
        cases this
  · exact ⟨k _ _ (N p hp).1, (N p hp).2⟩
theorem news_ne {h₀ h : Heap} {L x : Addr} {news : List (Addr × Obj)} (N : News h₀ L h news) (hn : h.get? x = none) : ∀ p ∈ news, p.1 ≠ x := by
  intro p hp e
  have := (N p hp).1
  rw [e, hn] at this
  cases this
section
variable {n : Nat} {w : World} {mean : ExcName → Option Value} {mg mb : Str → Option Value} {f : Addr} {vs : List Value} {dp un : Nat} {gd : Option (List Code)} {cn : Str} {cs : Scope} {a : Addr} {ccd : Value} {cl : List (Str × Addr)} {outer : List Env} {A₀ : Around} {base h₀ : Heap} {L : Addr} {m : Str → Option Value} {news : List (Addr × Obj)} {s : Shared} {Q E : Value → Shared → Prop}
theorem CtW.use {R : Tok → Value} (C : CtW n w mean mg mb f vs R)
    (B : Below A₀ base outer h₀) (F : Fr h₀ L s.heap m) (X : (hd.heap_39 w.params).In h₀) (N : News h₀ L s.heap news)
    (T : Top hd.view_39 (looseW hd.view_39 [Str.ofString "_DAYS_IN_MONTH", Str.ofString "_DAYS_BEFORE_MONTH", Str.ofString "_DI400Y", Str.ofString "_DI100Y", Str.ofString "_DI4Y"]) mean mg mb h₀)
    (hk : cs.kind = .function) (hd : dp + n < recursionLimit) (hu : un + 8 * n < cLine)
    (ret : ∀ (t : Tok) (h' : Heap) (tk' : Nat), Fr h₀ L h' m → News h₀ L h' news → Q (R t) { s with heap := h', toks := tk' }) :
    wpAny (model PySem.Challenge.rw_km0090_01.row.prog w) (ktrTop dp un gd cn cs L a ccd cl outer) (call (.ref f) vs) Q E s :=
  C _ _ _ _ _ _ _ _ _ _ _ _ _ _ _ _ _ B F X T hk hd hu fun t h' tk' k => ret t h' tk' (fr_stays F k) (news_stays N k)
theorem CtO.use {O : Obj → Prop} (C : CtO n w mean mg mb f vs O)
    (B : Below A₀ base outer h₀) (F : Fr h₀ L s.heap m) (X : (hd.heap_39 w.params).In h₀) (N : News h₀ L s.heap news)
    (T : Top hd.view_39 (looseW hd.view_39 [Str.ofString "_DAYS_IN_MONTH", Str.ofString "_DAYS_BEFORE_MONTH", Str.ofString "_DI400Y", Str.ofString "_DI100Y", Str.ofString "_DI4Y"]) mean mg mb h₀)
    (hk : cs.kind = .function) (hd : dp + n < recursionLimit) (hu : un + 8 * n < cLine)
    (ret : ∀ (x : Addr) (o : Obj) (h' : Heap) (tk' : Nat), O o → Fr h₀ L h' m → News h₀ L h' ((x, o) :: news) → (∀ p ∈ news, p.1 ≠ x) → Q (.ref x) { s with heap := h', toks := tk' }) :
    wpAny (model PySem.Challenge.rw_km0090_01.row.prog w) (ktrTop dp un gd cn cs L a ccd cl outer) (call (.ref f) vs) Q E s :=
  C _ _ _ _ _ _ _ _ _ _ _ _ _ _ _ _ _ B F X T hk hd hu fun x o h' tk' ho k hx hn => ret x o h' tk' ho (fr_stays F k) (news_more F N k hx hn) (news_ne N hn)
end
theorem fm4 (y : Int) : y.fmod 4 = y % 4 := Int.fmod_eq_emod_of_nonneg y (by decide)
theorem fm100 (y : Int) : y.fmod 100 = y % 100 := Int.fmod_eq_emod_of_nonneg y (by decide)
theorem fm400 (y : Int) : y.fmod 400 = y % 400 := Int.fmod_eq_emod_of_nonneg y (by decide)
theorem fd4 (y : Int) : y.fdiv 4 = y / 4 := Int.fdiv_eq_ediv_of_nonneg y (by decide)
theorem fd100 (y : Int) : y.fdiv 100 = y / 100 := Int.fdiv_eq_ediv_of_nonneg y (by decide)
theorem fd400 (y : Int) : y.fdiv 400 = y / 400 := Int.fdiv_eq_ediv_of_nonneg y (by decide)
theorem top_item {w : World} {A : Around} {E : Value → Shared → Prop} {s : Shared} {K : Frag} {h₀ : Heap} {L a : Addr} {m : Str → Option Value} {value slice : PySem.Expr} {l : List Value} {ns : List Int} {dd : Option Addr} {n : Nat} {sl : Array (Option Value)} {k : Int} {u : Tok} {Q : Value → Shared → Prop}
    (F : Fr h₀ L s.heap m) (X₀ : K.In h₀) (hl : K.lookup a = some ⟨.type "list", dd, .seq l.toArray n, sl⟩)
    (hi : IntsAre l ns) (hn : ns.length < 2 ^ 63) (h0 : 0 ≤ k) (hk : k < ns.length) (h : ∀ t, Q (.int (ns.getD k.toNat 0) t) s)
    (hs : subscripted slice false (.ref a) (.int k u) = operate [.ref a, .int k u] (getItem (.ref a) (.int k u)) := by with_unfolding_all rfl) :
    wpAny (model PySem.Challenge.rw_km0090_01.row.prog w) A (subscriptTail value slice (.ref a) (.int k u)) Q E s := by
  have hk' : k.toNat < ns.length := by omega
  obtain ⟨t, ht⟩ := hi.get k.toNat (ns.getD k.toNat 0) (by rw [List.getElem?_eq_getElem hk', List.getD_eq_getElem?_getD, List.getElem?_eq_getElem hk']; rfl)
  exact topList_K F X₀ hl h0 (by omega) ht (h t) hs
theorem ct_leap (w : World) (mean) (mg mb) (y : Int) (t : Tok) : CtW 1 w mean mg mb 28 [.int y t] (fun _ => .bool (leap y)) := by
  unfold CtW
  k_fill
  intro dp un gd cn cs a ccd cl outer A₀ base h₀ L m s Q E B F X T hk hdp hun hret
  refine wpAny_call ?_
  k_dflt (refine' code_own ?k1 ?k2 ?k3 ?k5 ?kA ?kF ?kK ?k6 ?k7 ?k8 ?k9 ?kB ?_ ?c2 ?c3 ?c4 ?c5; (case kA => exact rfl); (case kF => exact rfl); (case kK => assumption); (case k1 => k_asm); (case k2 => k_asm); (case k3 => k_asm); (case k5 => k_asm); (case k6 => k_is); (case k7 => k_is); (case k8 => ktr_room); (case k9 => exact BindsTo.of_eq rfl); (case c5 => decide); (case kB => exact locs rfl); (case c2 => exact rfl); (case c3 => exact rfl); (case c4 => exact rfl); k_whole; intro L' h' tk' F' N' B' X' T'; (try dsimp only at F'); (try dsimp only); (try k_fold))
  k_steps
  all_goals refine own_retB hret ?_ (by assumption)
  all_goals (simp only [fm4, fm100, fm400, leap] at *; simp_all)
  rfl
theorem ct_dby (w : World) (mean) (mg mb) (y : Int) (t : Tok) : CtW 1 w mean mg mb 35 [.int y t] (fun t => .int (dby y) t) := by
  unfold CtW
  k_fill
  intro dp un gd cn cs a ccd cl outer A₀ base h₀ L m s Q E B F X T hk hdp hun hret
  refine wpAny_call ?_
  k_dflt (refine' code_own ?k1 ?k2 ?k3 ?k5 ?kA ?kF ?kK ?k6 ?k7 ?k8 ?k9 ?kB ?_ ?c2 ?c3 ?c4 ?c5; (case kA => exact rfl); (case kF => exact rfl); (case kK => assumption); (case k1 => k_asm); (case k2 => k_asm); (case k3 => k_asm); (case k5 => k_asm); (case k6 => k_is); (case k7 => k_is); (case k8 => ktr_room); (case k9 => exact BindsTo.of_eq rfl); (case c5 => decide); (case kB => exact locs rfl); (case c2 => exact rfl); (case c3 => exact rfl); (case c4 => exact rfl); k_whole; intro L' h' tk' F' N' B' X' T'; (try dsimp only at F'); (try dsimp only); (try k_fold))
  k_steps
  all_goals refine own_retI hret ?_ (by assumption)
  all_goals simp only [fd4, fd100, fd400, dby]
theorem ct_gap (w : World) (mean) (mg mb) (c : Int) (t : Tok) : CtW 1 w mean mg mb 94 [.int c t] (fun t => .int (c - c / 4 - 2) t) := by
  unfold CtW
  k_fill
  intro dp un gd cn cs a ccd cl outer A₀ base h₀ L m s Q E B F X T hk hdp hun hret
  refine wpAny_call ?_
  k_dflt (refine' code_own ?k1 ?k2 ?k3 ?k5 ?kA ?kF ?kK ?k6 ?k7 ?k8 ?k9 ?kB ?_ ?c2 ?c3 ?c4 ?c5; (case kA => exact rfl); (case kF => exact rfl); (case kK => assumption); (case k1 => k_asm); (case k2 => k_asm); (case k3 => k_asm); (case k5 => k_asm); (case k6 => k_is); (case k7 => k_is); (case k8 => ktr_room); (case k9 => exact BindsTo.of_eq rfl); (case c5 => decide); (case kB => exact locs rfl); (case c2 => exact rfl); (case c3 => exact rfl); (case c4 => exact rfl); k_whole; intro L' h' tk' F' N' B' X' T'; (try dsimp only at F'); (try dsimp only); (try k_fold))
  k_steps
  all_goals refine own_retI hret ?_ (by assumption)
  all_goals simp only [fd4]
local macro_rules | `(tactic| walk_at "call ref") => `(tactic| (k_here; k_dflt (refine' CtW.use (ct_leap _ _ _ _ _ _) ?k1 ?k2 ?k3 ?k4 ?k5 ?kK ?kd ?ku ?_; (case k1 => k_asm); (case k2 => k_asm); (case k3 => k_asm); (case k4 => k_asm); (case k5 => k_asm); (case kK => first | exact rfl | assumption); (case kd => ktr_room); (case ku => ktr_units); intro t9 h9 tk9 F9 N9; (try dsimp only); (try k_sweep); (try k_fold))))
local macro_rules | `(tactic| walk_at "call ref") => `(tactic| (k_here; k_dflt (refine' CtW.use (ct_dby _ _ _ _ _ _) ?k1 ?k2 ?k3 ?k4 ?k5 ?kK ?kd ?ku ?_; (case k1 => k_asm); (case k2 => k_asm); (case k3 => k_asm); (case k4 => k_asm); (case k5 => k_asm); (case kK => first | exact rfl | assumption); (case kd => ktr_room); (case ku => ktr_units); intro t9 h9 tk9 F9 N9; (try dsimp only); (try k_sweep); (try k_fold))))
local macro_rules | `(tactic| walk_at "call ref") => `(tactic| (k_here; k_dflt (refine' CtW.use (ct_gap _ _ _ _ _ _) ?k1 ?k2 ?k3 ?k4 ?k5 ?kK ?kd ?ku ?_; (case k1 => k_asm); (case k2 => k_asm); (case k3 => k_asm); (case k4 => k_asm); (case k5 => k_asm); (case kK => first | exact rfl | assumption); (case kd => ktr_room); (case ku => ktr_units); intro t9 h9 tk9 F9 N9; (try dsimp only); (try k_sweep); (try k_fold))))
local macro_rules | `(tactic| walk_at "subscriptTail") => `(tactic| (k_here; (with_reducible show wpAny _ _ (subscriptTail _ _ (Value.ref _) (Value.int _ _)) _ _ _); k_dflt (refine' top_item (ns := dimT) ?k1 ?k2 ?k3 ?k4 ?k5 ?k6 ?k7 ?_ ?k8; (case k1 => k_asm); (case k2 => k_asm); (case k3 => k_is); (case k4 => repeat constructor); (case k5 => decide); (case k6 => omega); (case k7 => ((try simp only [dimT, List.length_cons, List.length_nil]); omega)); (case k8 => with_unfolding_all rfl); intro t9)))
local macro_rules | `(tactic| walk_at "subscriptTail") => `(tactic| (k_here; (with_reducible show wpAny _ _ (subscriptTail _ _ (Value.ref _) (Value.int _ _)) _ _ _); k_dflt (refine' top_item (ns := dbmT) ?k1 ?k2 ?k3 ?k4 ?k5 ?k6 ?k7 ?_ ?k8; (case k1 => k_asm); (case k2 => k_asm); (case k3 => k_is); (case k4 => repeat constructor); (case k5 => decide); (case k6 => omega); (case k7 => ((try simp only [dbmT, List.length_cons, List.length_nil]); omega)); (case k8 => with_unfolding_all rfl); intro t9)))
theorem ct_dim (w : World) (mean) (mg mb) (y mo : Int) (t u : Tok) (h1 : 1 ≤ mo) (h2 : mo ≤ 12) : CtW 2 w mean mg mb 42 [.int y t, .int mo u] (fun t => .int (dimY y mo) t) := by
  unfold CtW
  k_fill
  intro dp un gd cn cs a ccd cl outer A₀ base h₀ L m s Q E B F X T hk hdp hun hret
  refine wpAny_call ?_
  k_dflt (refine' code_own ?k1 ?k2 ?k3 ?k5 ?kA ?kF ?kK ?k6 ?k7 ?k8 ?k9 ?kB ?_ ?c2 ?c3 ?c4 ?c5; (case kA => exact rfl); (case kF => exact rfl); (case kK => assumption); (case k1 => k_asm); (case k2 => k_asm); (case k3 => k_asm); (case k5 => k_asm); (case k6 => k_is); (case k7 => k_is); (case k8 => ktr_room); (case k9 => exact BindsTo.of_eq rfl); (case c5 => decide); (case kB => exact locs rfl); (case c2 => exact rfl); (case c3 => exact rfl); (case c4 => exact rfl); k_whole; intro L' h' tk' F' N' B' X' T'; (try dsimp only at F'); (try dsimp only); (try k_fold))
  k_steps
  all_goals refine own_retI hret ?_ (by assumption)
  all_goals first | exact dim1 (by assumption) (by assumption) | exact dim2 (by assumption) | exact dim3 (by assumption)
theorem ct_dbm (w : World) (mean) (mg mb) (y mo : Int) (t u : Tok) (h1 : 1 ≤ mo) (h2 : mo ≤ 12) : CtW 2 w mean mg mb 49 [.int y t, .int mo u] (fun t => .int (dbmY y mo) t) := by
  unfold CtW
  k_fill
  intro dp un gd cn cs a ccd cl outer A₀ base h₀ L m s Q E B F X T hk hdp hun hret
  refine wpAny_call ?_
  k_dflt (refine' code_own ?k1 ?k2 ?k3 ?k5 ?kA ?kF ?kK ?k6 ?k7 ?k8 ?k9 ?kB ?_ ?c2 ?c3 ?c4 ?c5; (case kA => exact rfl); (case kF => exact rfl); (case kK => assumption); (case k1 => k_asm); (case k2 => k_asm); (case k3 => k_asm); (case k5 => k_asm); (case k6 => k_is); (case k7 => k_is); (case k8 => ktr_room); (case k9 => exact BindsTo.of_eq rfl); (case c5 => decide); (case kB => exact locs rfl); (case c2 => exact rfl); (case c3 => exact rfl); (case c4 => exact rfl); k_whole; intro L' h' tk' F' N' B' X' T'; (try dsimp only at F'); (try dsimp only); (try k_fold))
  k_steps
  all_goals refine own_retI hret ?_ (by assumption)
  all_goals first | exact dbm1 (by assumption) | exact dbm2 (by assumption)
local macro_rules | `(tactic| walk_at "call ref") => `(tactic| (k_here; k_dflt (refine' CtW.use (ct_dim _ _ _ _ _ _ _ _ (by omega) (by omega)) ?k1 ?k2 ?k3 ?k4 ?k5 ?kK ?kd ?ku ?_; (case k1 => k_asm); (case k2 => k_asm); (case k3 => k_asm); (case k4 => k_asm); (case k5 => k_asm); (case kK => first | exact rfl | assumption); (case kd => ktr_room); (case ku => ktr_units); intro t9 h9 tk9 F9 N9; (try dsimp only); (try k_sweep); (try k_fold))))
local macro_rules | `(tactic| walk_at "call ref") => `(tactic| (k_here; k_dflt (refine' CtW.use (ct_dbm _ _ _ _ _ _ _ _ (by omega) (by omega)) ?k1 ?k2 ?k3 ?k4 ?k5 ?kK ?kd ?ku ?_; (case k1 => k_asm); (case k2 => k_asm); (case k3 => k_asm); (case k4 => k_asm); (case k5 => k_asm); (case kK => first | exact rfl | assumption); (case kd => ktr_room); (case ku => ktr_units); intro t9 h9 tk9 F9 N9; (try dsimp only); (try k_sweep); (try k_fold))))
theorem ct_ymd (w : World) (mean) (mg mb) (y mo d : Int) (t u v : Tok) (h1 : 1 ≤ mo) (h2 : mo ≤ 12) (h3 : 1 ≤ d) (h4 : d ≤ dimY y mo) : CtW 3 w mean mg mb 56 [.int y t, .int mo u, .int d v] (fun t => .int (dby y + dbmY y mo + d) t) := by
  unfold CtW
  k_fill
  intro dp un gd cn cs a ccd cl outer A₀ base h₀ L m s Q E B F X T hk hdp hun hret
  refine wpAny_call ?_
  k_dflt (refine' code_own ?k1 ?k2 ?k3 ?k5 ?kA ?kF ?kK ?k6 ?k7 ?k8 ?k9 ?kB ?_ ?c2 ?c3 ?c4 ?c5; (case kA => exact rfl); (case kF => exact rfl); (case kK => assumption); (case k1 => k_asm); (case k2 => k_asm); (case k3 => k_asm); (case k5 => k_asm); (case k6 => k_is); (case k7 => k_is); (case k8 => ktr_room); (case k9 => exact BindsTo.of_eq rfl); (case c5 => decide); (case kB => exact locs rfl); (case c2 => exact rfl); (case c3 => exact rfl); (case c4 => exact rfl); k_whole; intro L' h' tk' F' N' B' X' T'; (try dsimp only at F'); (try dsimp only); (try k_fold))
  k_steps
  all_goals refine own_retI hret ?_ (by assumption)
  all_goals rfl
theorem ct_months (w : World) (mean) (mg mb) : CtO 1 w mean mg mb 73 [] (fun o => ∃ vs n, o = W.listOf vs.toArray n ∧ IntsAre vs monthsT) := by
  unfold CtO
  k_fill
  intro dp un gd cn cs a ccd cl outer A₀ base h₀ L m s Q E B F X T hk hdp hun hret
  refine wpAny_call ?_
  k_dflt (refine' code_own ?k1 ?k2 ?k3 ?k5 ?kA ?kF ?kK ?k6 ?k7 ?k8 ?k9 ?kB ?_ ?c2 ?c3 ?c4 ?c5; (case kA => exact rfl); (case kF => exact rfl); (case kK => assumption); (case k1 => k_asm); (case k2 => k_asm); (case k3 => k_asm); (case k5 => k_asm); (case k6 => k_is); (case k7 => k_is); (case k8 => ktr_room); (case k9 => exact BindsTo.of_eq rfl); (case c5 => decide); (case kB => exact locs rfl); (case c2 => exact rfl); (case c3 => exact rfl); (case c4 => exact rfl); k_whole; intro L' h' tk' F' N' B' X' T'; (try dsimp only at F'); (try dsimp only); (try k_fold))
  k_steps
  refine' own_retO hret ?F ?N ?m ?O
  case F => assumption
  case N => assumption
  case m => k_mem
  case O => exact ⟨_, _, rfl, by repeat constructor⟩
end
-- C2
section
open PySem PySem.W PyProof.Rows PySem.Calls
local macro_rules | `(tactic| walk_at "call ref") => `(tactic| (k_here; k_dflt (refine' CtO.use (ct_months _ _ _ _) ?k1 ?k2 ?k3 ?k4 ?k5 ?kK ?kd ?ku ?_; (case k1 => k_asm); (case k2 => k_asm); (case k3 => k_asm); (case k4 => k_asm); (case k5 => k_asm); (case kK => first | exact rfl | assumption); (case kd => ktr_room); (case ku => ktr_units); intro x9 o9 h9 tk9 O9 F9 N9 l9; (obtain ⟨ws9, n9, e9, i9⟩ := O9; subst e9); (try dsimp only); (try k_sweep); (try k_fold))))
local macro_rules | `(tactic| walk_at "subscriptTail Name Slice ref ref") => `(tactic| (k_here; (with_reducible show wpAny _ _ (subscriptTail _ (PySem.Expr.Slice _ _ none _) (Value.ref _) (Value.ref _)) _ _ _); k_dflt (refine' kmk_slice_ints (s := ⟨_, _, _, _, _⟩) ?F ?N ?l ?p ?q ?i ?m ?c ?_ ?s ?t ?z; (case F => k_asm); (case N => k_asm); (case l => kmk_list); (case p => kmk_part); (case q => kmk_part); (case i => l_ints); (case m => kmk_nums); (case c => kmk_len); (case s => with_unfolding_all rfl); (case t => kmk_pure); (case z => kmk_size)); intro D' ws' h' F' N' l1 hI' hC' hL'; (try dsimp only); (try k_sweep)))
theorem ct_day (w : World) (mean) (mg mb) (y mo d : Int) (t u v : Tok) (h1 : 1 ≤ mo) (h2 : mo ≤ 12) : CtW 2 w mean mg mb 80 [.int y t, .int mo u, .int d v] (fun t => .int (1461 * ((y - 1) / 4) + (monthsT.take (12 * ((y - 1) % 4) + mo - 1).toNat).sum + d - 2) t) := by
  unfold CtW
  k_fill
  intro dp un gd cn cs a ccd cl outer A₀ base h₀ L m s Q E B F X T hk hdp hun hret
  refine wpAny_call ?_
  k_dflt (refine' code_own ?k1 ?k2 ?k3 ?k5 ?kA ?kF ?kK ?k6 ?k7 ?k8 ?k9 ?kB ?_ ?c2 ?c3 ?c4 ?c5; (case kA => exact rfl); (case kF => exact rfl); (case kK => assumption); (case k1 => k_asm); (case k2 => k_asm); (case k3 => k_asm); (case k5 => k_asm); (case k6 => k_is); (case k7 => k_is); (case k8 => ktr_room); (case k9 => exact BindsTo.of_eq rfl); (case c5 => decide); (case kB => exact locs rfl); (case c2 => exact rfl); (case c3 => exact rfl); (case c4 => exact rfl); k_whole; intro L' h' tk' F' N' B' X' T'; (try dsimp only at F'); (try dsimp only); (try k_fold))
  have hf0 : 0 ≤ (y - 1).fmod 4 := by rw [fm4]; omega
  have hf1 : (y - 1).fmod 4 < 4 := by rw [fm4]; omega
  k_steps
  all_goals refine own_retI hret ?_ (by assumption)
  all_goals simp only [fd4, fm4]
end
-- C3
section
open PySem PySem.W PyProof.Rows PySem.Calls
local macro_rules | `(tactic| walk_at "call ref") => `(tactic| (k_here; k_dflt (refine' CtW.use (ct_leap _ _ _ _ _ _) ?k1 ?k2 ?k3 ?k4 ?k5 ?kK ?kd ?ku ?_; (case k1 => k_asm); (case k2 => k_asm); (case k3 => k_asm); (case k4 => k_asm); (case k5 => k_asm); (case kK => first | exact rfl | assumption); (case kd => ktr_room); (case ku => ktr_units); intro t9 h9 tk9 F9 N9; (try dsimp only); (try k_sweep); (try k_fold))))
local macro_rules | `(tactic| walk_at "call ref") => `(tactic| (k_here; k_dflt (refine' CtW.use (ct_dby _ _ _ _ _ _) ?k1 ?k2 ?k3 ?k4 ?k5 ?kK ?kd ?ku ?_; (case k1 => k_asm); (case k2 => k_asm); (case k3 => k_asm); (case k4 => k_asm); (case k5 => k_asm); (case kK => first | exact rfl | assumption); (case kd => ktr_room); (case ku => ktr_units); intro t9 h9 tk9 F9 N9; (try dsimp only); (try k_sweep); (try k_fold))))
local macro_rules | `(tactic| walk_at "call ref") => `(tactic| (k_here; k_dflt (refine' CtW.use (ct_gap _ _ _ _ _ _) ?k1 ?k2 ?k3 ?k4 ?k5 ?kK ?kd ?ku ?_; (case k1 => k_asm); (case k2 => k_asm); (case k3 => k_asm); (case k4 => k_asm); (case k5 => k_asm); (case kK => first | exact rfl | assumption); (case kd => ktr_room); (case ku => ktr_units); intro t9 h9 tk9 F9 N9; (try dsimp only); (try k_sweep); (try k_fold))))
local macro_rules | `(tactic| walk_at "call ref") => `(tactic| (k_here; k_dflt (refine' CtW.use (ct_dim _ _ _ _ _ _ _ _ (by omega) (by omega)) ?k1 ?k2 ?k3 ?k4 ?k5 ?kK ?kd ?ku ?_; (case k1 => k_asm); (case k2 => k_asm); (case k3 => k_asm); (case k4 => k_asm); (case k5 => k_asm); (case kK => first | exact rfl | assumption); (case kd => ktr_room); (case ku => ktr_units); intro t9 h9 tk9 F9 N9; (try dsimp only); (try k_sweep); (try k_fold))))
local macro_rules | `(tactic| walk_at "call ref") => `(tactic| (k_here; k_dflt (refine' CtW.use (ct_dbm _ _ _ _ _ _ _ _ (by omega) (by omega)) ?k1 ?k2 ?k3 ?k4 ?k5 ?kK ?kd ?ku ?_; (case k1 => k_asm); (case k2 => k_asm); (case k3 => k_asm); (case k4 => k_asm); (case k5 => k_asm); (case kK => first | exact rfl | assumption); (case kd => ktr_room); (case ku => ktr_units); intro t9 h9 tk9 F9 N9; (try dsimp only); (try k_sweep); (try k_fold))))
section
variable {w : World} {A : Around} {E : Value → Shared → Prop} {s : Shared} {K : Frag} {h₀ : Heap} {L a : Addr} {m : Str → Option Value} {value slice : PySem.Expr} {l : List Value} {dd : Option Addr} {n : Nat} {sl : Array (Option Value)} {k : Int} {u : Tok} {Q : Value → Shared → Prop}
theorem dbm_item (F : Fr h₀ L s.heap m) (X₀ : K.In h₀) (hl : K.lookup a = some ⟨.type "list", dd, .seq l.toArray n, sl⟩)
    (hi : IntsAre l dbmT) (h0 : 1 ≤ k) (hk : k ≤ 12) (h : ∀ v t, v = dbmT.getD k.toNat 0 → ((k ≤ 2 → 12 * v ≤ 367 * k - 362 ∧ 367 * k - 362 < 12 * v + 12) ∧ (2 < k → 12 * v + 24 ≤ 367 * k - 362 ∧ 367 * k - 362 < 12 * v + 36)) → Q (.int v t) s)
    (hs : subscripted slice false (.ref a) (.int k u) = operate [.ref a, .int k u] (getItem (.ref a) (.int k u))) :
    wpAny (model PySem.Challenge.rw_km0090_01.row.prog w) A (subscriptTail value slice (.ref a) (.int k u)) Q E s :=
  top_item F X₀ hl hi (by decide) (by omega) (by simp only [dbmT, List.length_cons, List.length_nil]; omega) (fun t => h _ t rfl (dbm_facts h0 hk)) hs
theorem dim_item (F : Fr h₀ L s.heap m) (X₀ : K.In h₀) (hl : K.lookup a = some ⟨.type "list", dd, .seq l.toArray n, sl⟩)
    (hi : IntsAre l dimT) (h0 : 1 ≤ k) (hk : k ≤ 12) (h : ∀ v t, v = dimT.getD k.toNat 0 → ((k = 2 → v = 28) ∧ (k ≠ 2 → 12 * v ≤ 367 * (k + 1) - 362 - 12 * ((367 * k - 362) / 12) ∧ 367 * (k + 1) - 362 - 12 * ((367 * k - 362) / 12) < 12 * v + 12)) → Q (.int v t) s)
    (hs : subscripted slice false (.ref a) (.int k u) = operate [.ref a, .int k u] (getItem (.ref a) (.int k u))) :
    wpAny (model PySem.Challenge.rw_km0090_01.row.prog w) A (subscriptTail value slice (.ref a) (.int k u)) Q E s :=
  top_item F X₀ hl hi (by decide) (by omega) (by simp only [dimT, List.length_cons, List.length_nil]; omega) (fun t => h _ t rfl (dim_facts h0 hk)) hs
end
local macro_rules | `(tactic| walk_at "subscriptTail") => `(tactic| (k_here; (with_reducible show wpAny _ _ (subscriptTail _ _ (Value.ref _) (Value.int _ _)) _ _ _); k_dflt (refine' dim_item ?k1 ?k2 ?k3 ?k4 ?k6 ?k7 ?_ ?k8; (case k1 => k_asm); (case k2 => k_asm); (case k3 => k_is); (case k4 => repeat constructor); (case k6 => omega); (case k7 => omega); (case k8 => with_unfolding_all rfl); intro v9 t9 f9 g9)))
local macro_rules | `(tactic| walk_at "subscriptTail") => `(tactic| (k_here; (with_reducible show wpAny _ _ (subscriptTail _ _ (Value.ref _) (Value.int _ _)) _ _ _); k_dflt (refine' dbm_item ?k1 ?k2 ?k3 ?k4 ?k6 ?k7 ?_ ?k8; (case k1 => k_asm); (case k2 => k_asm); (case k3 => k_is); (case k4 => repeat constructor); (case k6 => omega); (case k7 => omega); (case k8 => with_unfolding_all rfl); intro v9 t9 f9 g9)))
def TupO (x y z : Int) (o : Obj) : Prop := ∃ t u v n, o = { cls := .type "tuple", data := .seq #[.int x t, .int y u, .int z v] n }
/-- divmod by a positive int, the two ints as letters -/
theorem divmod_L {prog : Program} {w : World} {A : Around} {E : Value → Shared → Prop} {s : Shared} {a b : Int} {t u : Tok} {Q : Value → Shared → Prop} {h₀ : Heap} {L : Addr} {m : Str → Option Value} {news : List (Addr × Obj)} (F : Fr h₀ L s.heap m) (N : News h₀ L s.heap news) (hb : 0 < b)
    (hp : Builtin.divisionGoesByPylong a b = false)
    (h : ∀ q r h', a = b * q + r → 0 ≤ r → r < b → Fr h₀ L h' m → News h₀ L h' ((s.heap.objs.size, { cls := .type "tuple", data := .seq #[.int q s.toks, .int r (s.toks + 1)] }) :: news) →
      Q (.ref s.heap.objs.size) { s with toks := s.toks + 1 + 1, heap := h' }) :
    wpAny (model prog w) A (call (.builtin "divmod") [.int a t, .int b u]) Q E s := by
  refine divmod_N F N (by omega) (fun h' F' N' => ?_) (.inl hp)
  refine h _ _ h' ?_ ?_ ?_ F' N'
  · exact (Int.mul_fdiv_add_fmod a b).symm
  · exact Int.fmod_nonneg_of_pos a hb
  · exact Int.fmod_lt_of_pos a hb
local macro_rules | `(tactic| walk_at "call builtin:divmod") => `(tactic| ((with_reducible show wpAny _ _ (call (Value.builtin _) [Value.int _ _, Value.int _ _]) _ _ _); refine divmod_L (by assumption) (by assumption) (by decide) (PyProof.noPylong_of_log2 (by decide +kernel)) ?_; intro q9 r9 _ e9 l9 u9 _ _))
/-- a shift by five places, the int as a letter -/
theorem shift_L {prog : Program} {w : World} {A : Around} {E : Value → Shared → Prop} {s : Shared} {a : Int} {t u : Tok} {Q : Value → Shared → Prop}
    (h : ∀ k, 32 * k ≤ a → a < 32 * k + 32 → Q (.int k s.toks) { s with toks := s.toks + 1 }) :
    wpAny (model prog w) A (binaryOp .RShift (.int a t) (.int 5 u)) Q E s := by
  refine rshift_int (by decide) (h _ ?_ ?_)
  · have e : a.fdiv (2 ^ (5 : Int).toNat) = a / 32 := Int.fdiv_eq_ediv_of_nonneg a (by decide)
    rw [e]; omega
  · have e : a.fdiv (2 ^ (5 : Int).toNat) = a / 32 := Int.fdiv_eq_ediv_of_nonneg a (by decide)
    rw [e]; omega
local macro_rules | `(tactic| walk_at "binaryOp RShift int int") => `(tactic| (refine shift_L ?_; intro k9 b9 c9))
/-- an expression over the frame's ints and bools alone, read at once -/
def PI (prog : Program) (w : World) (A : Around) (h₀ : Heap) (L : Addr) (m : Str → Option Value) (env : Env) (e : PySem.Expr) (i : Int) : Prop :=
  ∀ (s : Shared) (Q E : Value → Shared → Prop), Fr h₀ L s.heap m → (∀ t tk, Q (.int i t) { s with toks := tk }) → wpAny (model prog w) A (eval e env) Q E s
def PB (prog : Program) (w : World) (A : Around) (h₀ : Heap) (L : Addr) (m : Str → Option Value) (env : Env) (e : PySem.Expr) (b : Bool) : Prop :=
  ∀ (s : Shared) (Q E : Value → Shared → Prop), Fr h₀ L s.heap m → (∀ tk, Q (.bool b) { s with toks := tk }) → wpAny (model prog w) A (eval e env) Q E s
section
variable {prog : Program} {w : World} {A : Around} {h₀ : Heap} {L a : Addr} {m : Str → Option Value} {cn : Str} {cs : Scope} {ccd : Value} {env : Env} {x : Str} {pos p₁ : Pos} {i j : Int} {b c : Bool} {t : Tok} {l r : PySem.Expr}
theorem PI.name (hv : m x = some (.int i t)) (hk : cs.kind = .function) (hl : (envOf cn cs L a ccd).kindOf x = some .local) (hd : (x == ("__debug__" : Str)) = false) : PI prog w A h₀ L m (envOf cn cs L a ccd) (.Name x pos) i :=
  fun s _ _ F h => ld F hv (h t s.toks) hk hl hd
theorem PB.name (hv : m x = some (.bool b)) (hk : cs.kind = .function) (hl : (envOf cn cs L a ccd).kindOf x = some .local) (hd : (x == ("__debug__" : Str)) = false) : PB prog w A h₀ L m (envOf cn cs L a ccd) (.Name x pos) b :=
  fun s _ _ F h => ld F hv (h s.toks) hk hl hd
theorem PI.const {k : Int} {n : Nat} : PI prog w A h₀ L m env (.Constant (.int k) n pos) k := fun _ _ _ _ h => wpAny_Constant_int (h _ _)
theorem PB.gt (hl : PI prog w A h₀ L m env l i) (hr : PI prog w A h₀ L m env r j) (hm : behindInMarks .Gt r = false) : PB prog w A h₀ L m env (.Compare l [.Gt] [r] pos) (decide (j < i)) :=
  fun s _ _ F h => wpAny_Compare1 (hl s _ _ F fun _ _ => hr _ _ _ F fun _ tk' => PyProof.Rows.gt_int (h tk')) hm
theorem PB.eq (hl : PI prog w A h₀ L m env l i) (hr : PI prog w A h₀ L m env r j) (hm : behindInMarks .Eq r = false) : PB prog w A h₀ L m env (.Compare l [.Eq] [r] pos) (decide (i = j)) :=
  fun s _ _ F h => wpAny_Compare1 (hl s _ _ F fun _ _ => hr _ _ _ F fun _ tk' => PyProof.Rows.eq_int (h tk')) hm
theorem PB.ne (hl : PI prog w A h₀ L m env l i) (hr : PI prog w A h₀ L m env r j) (hm : behindInMarks .NotEq r = false) : PB prog w A h₀ L m env (.Compare l [.NotEq] [r] pos) (!decide (i = j)) :=
  fun s _ _ F h => wpAny_Compare1 (hl s _ _ F fun _ _ => hr _ _ _ F fun _ tk' => PyProof.Rows.ne_int (h tk')) hm
theorem PB.and2 (hl : PB prog w A h₀ L m env l b) (hr : PB prog w A h₀ L m env r c) : PB prog w A h₀ L m env (.BoolOp .And [l, r] pos) (b && c) :=
  fun s _ _ F h => BoolOp_and (hl s _ _ F fun tk => wpAny_truthy_bool (by
    cases b with
    | false => exact h tk
    | true => exact BoolOp_one (hr _ _ _ F h)))
theorem PB.or2 (hl : PB prog w A h₀ L m env l b) (hr : PB prog w A h₀ L m env r c) : PB prog w A h₀ L m env (.BoolOp .Or [l, r] pos) (b || c) :=
  fun s _ _ F h => BoolOp_or (hl s _ _ F fun tk => wpAny_truthy_bool (by
    cases b with
    | true => exact h tk
    | false => exact BoolOp_one (hr _ _ _ F h)))
theorem pb_use {s : Shared} {Q E : Value → Shared → Prop} {e : PySem.Expr} (F : Fr h₀ L s.heap m) (hp : PB prog w A h₀ L m env e b) (h : ∀ tk, Q (.bool b) { s with toks := tk }) : wpAny (model prog w) A (eval e env) Q E s := hp s Q E F h
theorem addand_L {E : Value → Shared → Prop} {s : Shared} {v : Int} {q : Prop} [Decidable q] {Q : Value → Shared → Prop}
    (h : ∀ d, d = v + (if (decide q && b) = true then 1 else 0) → v ≤ d → d ≤ v + 1 → (¬ q → d = v) → Q (.int d s.toks) { s with toks := s.toks + 1 }) :
    wpAny (model prog w) A (binaryOp .Add (.int v t) (.bool (decide q && b))) Q E s := by
  refine add_int_bool (h _ rfl ?_ ?_ ?_)
  · split <;> omega
  · split <;> omega
  · intro hq; simp [hq]
end
local macro_rules | `(tactic| walk_at "eval BoolOp") => `(tactic| (k_here; k_dflt (refine' pb_use ?kF ?kp ?_; (case kF => k_asm); (case kp => repeat' (first | exact PB.name rfl rfl rfl (by decide) | exact PI.name rfl rfl rfl (by decide) | exact PI.const | refine' PB.and2 ?_ ?_ | refine' PB.or2 ?_ ?_ | refine' PB.gt ?_ ?_ rfl | refine' PB.eq ?_ ?_ rfl | refine' PB.ne ?_ ?_ rfl)); k_whole); intro tk9; (try dsimp only)))
local macro_rules | `(tactic| walk_at "binaryOp Add int bool") => `(tactic| (refine addand_L ?_; intro d9 e9 l9 u9 n9))
theorem storeB_L {M : Model} {A : Around} {E : Value → Shared → Prop} {s : Shared} {env : Env} {x : Str} {b : Bool} {Q : Unit → Shared → Prop} (h : ∀ c, c = b → wpAny M A (storeName env x (.bool c)) Q E s) : wpAny M A (storeName env x (.bool b)) Q E s := h b rfl
local macro_rules | `(tactic| walk_at "storeName") => `(tactic| (k_here; (with_reducible show wpAny _ _ (storeName _ _ (Value.bool _)) _ _ _); (refine storeB_L ?_; intro lp9 hlp9); k_dflt (refine' storeX_L ?F ?N ?_ ?a ?b; (case F => k_asm); (case N => k_asm); (case a => rfl); (case b => rfl); k_whole; intro h' F' N'; (try k_sweep))))
theorem ct_ord (w : World) (mean) (mg mb) (n : Int) (t : Tok) : CtO 4 w mean mg mb 66 [.int n t] (fun o => ∃ Y M D, 1 ≤ M ∧ M ≤ 12 ∧ 1 ≤ D ∧ D ≤ dimY Y M ∧ n = dby Y + dbmY Y M + D ∧ TupO Y M D o) := by
  unfold CtO
  k_fill
  intro dp un gd cn cs a ccd cl outer A₀ base h₀ L m s Q E B F X T hk hdp hun hret
  refine wpAny_call ?_
  k_dflt (refine' code_own ?k1 ?k2 ?k3 ?k5 ?kA ?kF ?kK ?k6 ?k7 ?k8 ?k9 ?kB ?_ ?c2 ?c3 ?c4 ?c5; (case kA => exact rfl); (case kF => exact rfl); (case kK => assumption); (case k1 => k_asm); (case k2 => k_asm); (case k3 => k_asm); (case k5 => k_asm); (case k6 => k_is); (case k7 => k_is); (case k8 => ktr_room); (case k9 => exact BindsTo.of_eq rfl); (case c5 => decide); (case kB => exact locs rfl); (case c2 => exact rfl); (case c3 => exact rfl); (case c4 => exact rfl); k_whole; intro L' h' tk' F' N' B' X' T'; (try dsimp only at F'); (try dsimp only); (try k_fold))
  k_steps
  all_goals first
    | (exfalso; with_reducible exact ord_bad (by assumption) (by assumption) (by assumption) (by assumption) (by assumption) (by assumption) (by assumption) (by assumption) (by assumption) (by assumption) (by assumption) (by first | exact or_l (by assumption) | exact or_r (by assumption)))
    | (exfalso; with_reducible exact ord_leap (by assumption) (by assumption) (by assumption) (by assumption) (by assumption) (by assumption) (by assumption) (by assumption) (by assumption) (by assumption) (by assumption) (by assumption) (by assumption) (by assumption) (by assumption) (by assumption))
    | (exfalso; with_reducible exact ord_prev_bad (by assumption) (by assumption) (by assumption) (by assumption) (by assumption))
    | (exfalso; with_reducible exact ord_same_bad (by assumption) (by assumption) (by assumption) (by assumption) (by assumption) (by assumption) (by assumption) (by assumption))
    | skip
  all_goals (
    refine' own_retO hret ?zF ?zN ?zm ⟨_, _, _, ?z1, ?z2, ?z3, ?z4, ?z5, ⟨_, _, _, _, ?z6⟩⟩
    case zF => assumption
    case zN => assumption
    case zm => k_mem
    case z6 => exact rfl
    case z1 => omega
    case z2 => omega
    case z3 => omega
    case z4 => first | omega | (rw [dimY12]; decide)
    case z5 => first
      | with_reducible exact ord_12 (by assumption) (by assumption) (by assumption) (by assumption) (by assumption) (by assumption) (by assumption) (by assumption) (by assumption) (by assumption) (by assumption) (by first | exact or_l (by assumption) | exact or_r (by assumption))
      | with_reducible exact ord_same (ord_num (by assumption) (by assumption) (by assumption) (by assumption) (by assumption) (by assumption) (by assumption) (by assumption) (by assumption) (by assumption) (by assumption) (by assumption) (by assumption) (by assumption)) (by assumption) (by assumption) (by assumption)
      | with_reducible exact ord_prev (ord_num (by assumption) (by assumption) (by assumption) (by assumption) (by assumption) (by assumption) (by assumption) (by assumption) (by assumption) (by assumption) (by assumption) (by assumption) (by assumption) (by assumption)) (by assumption) (by assumption) (by assumption) (by assumption) (by assumption) (by omega) (by omega))
end
-- C4
section
open PySem PySem.W PyProof.Rows PySem.Calls
local macro_rules | `(tactic| walk_at "call ref") => `(tactic| (k_here; k_dflt (refine' CtO.use (ct_months _ _ _ _) ?k1 ?k2 ?k3 ?k4 ?k5 ?kK ?kd ?ku ?_; (case k1 => k_asm); (case k2 => k_asm); (case k3 => k_asm); (case k4 => k_asm); (case k5 => k_asm); (case kK => first | exact rfl | assumption); (case kd => ktr_room); (case ku => ktr_units); intro x9 o9 h9 tk9 O9 F9 N9 l9; (obtain ⟨ws9, n9, e9, i9⟩ := O9; subst e9); (try dsimp only); (try k_sweep); (try k_fold))))
local macro_rules | `(tactic| walk_at "call builtin:divmod") => `(tactic| ((with_reducible show wpAny _ _ (call (Value.builtin _) [Value.int _ _, Value.int _ _]) _ _ _); refine divmod_L (by assumption) (by assumption) (by decide) (PyProof.noPylong_of_log2 (by decide +kernel)) ?_; intro q9 r9 _ e9 l9 u9 _ _))
theorem fd12 (y : Int) : y.fdiv 12 = y / 12 := Int.fdiv_eq_ediv_of_nonneg y (by decide)
theorem fm12 (y : Int) : y.fmod 12 = y % 12 := Int.fmod_eq_emod_of_nonneg y (by decide)
theorem ct_name (w : World) (mean) (mg mb) (n : Int) (t : Tok) : CtO 2 w mean mg mb 87 [.int n t] (fun o => ∃ Y M D, JV Y M D ∧ jord Y M D = n ∧ TupO Y M D o) := by
  unfold CtO
  k_fill
  intro dp un gd cn cs a ccd cl outer A₀ base h₀ L m s Q E B F X T hk hdp hun hret
  refine wpAny_call ?_
  k_dflt (refine' code_own ?k1 ?k2 ?k3 ?k5 ?kA ?kF ?kK ?k6 ?k7 ?k8 ?k9 ?kB ?_ ?c2 ?c3 ?c4 ?c5; (case kA => exact rfl); (case kF => exact rfl); (case kK => assumption); (case k1 => k_asm); (case k2 => k_asm); (case k3 => k_asm); (case k5 => k_asm); (case k6 => k_is); (case k7 => k_is); (case k8 => ktr_room); (case k9 => exact BindsTo.of_eq rfl); (case c5 => decide); (case kB => exact locs rfl); (case c2 => exact rfl); (case c3 => exact rfl); (case c4 => exact rfl); k_whole; intro L' h' tk' F' N' B' X' T'; (try dsimp only at F'); (try dsimp only); (try k_fold))
  have hml : monthsT.length = 48 := by decide
  k_with_none
  k_with "state" => (first | exact st_start (by assumption) (by assumption) (by assumption) | exact st_turn (by assumption) (by assumption) (by assumption) (by omega) (by assumption))
  k_with "exec While Compare cons nil" => k_while (fun _ left p => 0 ≤ p ∧ p ≤ 47 ∧ 0 ≤ left ∧ left + jsum p = (n + 1) % 1461) (fun _ _ p => (48 - p).toNat) "left" "place"
  k_steps
  k_with_none
  refine' own_retO hret ?zF ?zN ?zm ⟨_, _, _, ?z1, ?z2, ⟨_, _, _, _, ?z6⟩⟩
  case zF => assumption
  case zN => assumption
  case zm => k_mem
  case z6 => exact rfl
  case z1 => rw [fd12, fm12]; exact (jname (by assumption) (by assumption) (by assumption) (by assumption) (by assumption) (by assumption) (by assumption) (by omega)).1
  case z2 => rw [fd12, fm12]; exact (jname (by assumption) (by assumption) (by assumption) (by assumption) (by assumption) (by assumption) (by assumption) (by omega)).2
end
-- C5
section
open PySem PySem.W PyProof.Rows PySem.Calls
theorem dim28 {y : Int} (h : leap y = false) : dimY y 2 = 28 := by simp [dimY, dimT, h]
theorem ct_dim28 (w : World) (mean) (mg mb) (y : Int) (t u : Tok) (h : leap y = false) : CtW 2 w mean mg mb 42 [.int y t, .int 2 u] (fun t => .int 28 t) := by
  have := ct_dim w mean mg mb y 2 t u (by decide) (by decide)
  rw [dim28 h] at this
  exact this
local macro_rules | `(tactic| walk_at "call ref") => `(tactic| (k_here; k_dflt (refine' CtW.use (ct_ymd _ _ _ _ _ _ _ _ _ _ (by assumption) (by assumption) (by assumption) (by assumption)) ?k1 ?k2 ?k3 ?k4 ?k5 ?kK ?kd ?ku ?_; (case k1 => k_asm); (case k2 => k_asm); (case k3 => k_asm); (case k4 => k_asm); (case k5 => k_asm); (case kK => first | exact rfl | assumption); (case kd => ktr_room); (case ku => ktr_units); intro t9 h9 tk9 F9 N9; (try dsimp only); (try k_sweep); (try k_fold))))
theorem ct_told (w : World) (mean) (mg mb) (y mo d : Int) (t u v : Tok) (h1 : 1 ≤ mo) (h2 : mo ≤ 12) (h3 : 1 ≤ d) (h4 : d ≤ dimY y mo) : CtW 4 w mean mg mb 101 [.int y t, .int mo u, .int d v] (fun t => .int (dby y + dbmY y mo + d) t) := by
  unfold CtW
  k_fill
  intro dp un gd cn cs a ccd cl outer A₀ base h₀ L m s Q E B F X T hk hdp hun hret
  refine wpAny_call ?_
  k_dflt (refine' code_own ?k1 ?k2 ?k3 ?k5 ?kA ?kF ?kK ?k6 ?k7 ?k8 ?k9 ?kB ?_ ?c2 ?c3 ?c4 ?c5; (case kA => exact rfl); (case kF => exact rfl); (case kK => first | exact rfl | assumption); (case k1 => k_asm); (case k2 => k_asm); (case k3 => k_asm); (case k5 => k_asm); (case k6 => k_is); (case k7 => k_is); (case k8 => ktr_room); (case k9 => exact BindsTo.of_eq rfl); (case c5 => decide); (case kB => exact locs rfl); (case c2 => exact rfl); (case c3 => exact rfl); (case c4 => exact rfl); k_whole; intro L' h' tk' F' N' B' X' T'; (try dsimp only at F'); (try dsimp only); (try k_fold))
  k_steps
  all_goals refine own_retI hret rfl (by assumption)
local macro_rules | `(tactic| walk_at "call ref") => `(tactic| (k_here; k_dflt (refine' CtW.use (ct_dim28 _ _ _ _ _ _ _ (by assumption)) ?k1 ?k2 ?k3 ?k4 ?k5 ?kK ?kd ?ku ?_; (case k1 => k_asm); (case k2 => k_asm); (case k3 => k_asm); (case k4 => k_asm); (case k5 => k_asm); (case kK => first | exact rfl | assumption); (case kd => ktr_room); (case ku => ktr_units); intro t9 h9 tk9 F9 N9; (try dsimp only); (try k_sweep); (try k_fold))))
local macro_rules | `(tactic| walk_at "call ref") => `(tactic| (k_here; (with_reducible show wpAny _ _ (call (Value.ref 56) _) _ _ _); (refine wpAny_call ?_); k_dflt (refine' code_def ?k1 ?k2 ?k3 ?k4 ?k5 ?kA ?kF ?kK ?k6 ?k7 ?k8 ?k9 ?kB ?_ ?c2 ?c3 ?c4 ?c5; (case kA => exact rfl); (case kF => exact rfl); (case kK => first | exact rfl | assumption); (case k1 => k_asm); (case k2 => k_asm); (case k3 => k_asm); (case k4 => k_asm); (case k5 => k_asm); (case k6 => k_is); (case k7 => k_is); (case k8 => ktr_room); (case k9 => exact BindsTo.of_eq rfl); (case c5 => decide); (case kB => exact locs rfl); (case c2 => exact rfl); (case c3 => exact rfl); (case c4 => exact rfl); k_whole; intro g' L' h' FG' F' N' B' X' T'; (try dsimp only at F'); (try dsimp only); (try k_fold))))
theorem made_assert {M : Model} {A : Around} {E : Value → Shared → Prop} {s : Shared} {env : Env} {test msg : PySem.Expr} {pos : Pos} {Q : Flow → Shared → Prop} (hh : A.handled = none)
    (h : wpAny M A (isTrue test env (eval test env)) (fun b s₁ => if b = true then Q .next s₁ else
      wpAny M A (eval msg env) (fun v s₂ => ∀ h' e, Heap.MadeExc s₂.heap h' e "AssertionError" [v] → E (.ref e) { s₂ with heap := h' }) E s₁) E s) :
    wpAny M A (exec (.Assert test (some msg) pos) env) Q E s := wpAny_Assert_msg hh h
local macro_rules | `(tactic| walk_at "exec Assert") => `(tactic| (refine made_assert rfl ?_))
/-- a call from the frame whose ground is the lowest: what is handed back is new, the ledger stays -/
def CtS (n : Nat) (w : World) (mean : ExcName → Option Value) (mg mb : Str → Option Value) (f : Addr) (vs : List Value) (O : Obj → Prop) : Prop :=
  ∀ (dp un : Nat) (gd : Option (List Code)) (cn : Str) (cs : Scope) (a : Addr) (ccd : Value) (A₀ : Around) (h₀ : Heap) (L : Addr) (m : Str → Option Value) (news : List (Addr × Obj)) (s : Shared) (Q E : Value → Shared → Prop),
    Below A₀ h₀ [] h₀ → Fr h₀ L s.heap m → (hd.heap_39 w.params).In h₀ → News h₀ L s.heap news →
    Top hd.view_39 (looseW hd.view_39 [Str.ofString "_DAYS_IN_MONTH", Str.ofString "_DAYS_BEFORE_MONTH", Str.ofString "_DI400Y", Str.ofString "_DI100Y", Str.ofString "_DI4Y"]) mean mg mb h₀ →
    cs.kind = .function → dp + n < recursionLimit → un + 8 * n < cLine →
    (∀ (x : Addr) (o : Obj) (h' : Heap) (tk' : Nat), O o → Fr h₀ L h' m → News h₀ L h' ((x, o) :: news) → Q (.ref x) { s with heap := h', toks := tk' }) →
    wpAny (model PySem.Challenge.rw_km0090_01.row.prog w) (ktrTop dp un gd cn cs L a ccd [] []) (call (.ref f) vs) Q E s
theorem got_tup {g h : Heap} {L e t : Addr} {cls : Value} {vs : List Value} {news : List (Addr × Obj)} (N : News g L h news) (G : Got news e t cls vs) : IsTup h t vs.toArray := by
  obtain ⟨oe, ot, ws, nt, h1, h2, h3, h4, h5, h6, h7⟩ := G
  exact ⟨ot, (N _ h2).1, h6, nt, h7⟩
local macro_rules | `(tactic| walk_at "call type:list") => `(tactic| (k_here; (with_reducible show wpAny _ _ (call (Value.type _) [Value.ref _]) _ _ _); (with_reducible rename Got _ _ _ _ _ => gX); k_dflt (refine' list_copyKT ?k1 ?k2 ?k3 ?_ ?z; (case k1 => k_asm); (case k2 => k_asm); (case k3 => exact got_tup (by assumption) gX); (case z => size_fits); k_whole); intro D' c' h' F' N' l1; (try k_sweep)))
theorem ct_told28 (w : World) (mean) (mg mb) (y : Int) (t u v : Tok) (hlp : leap y = false) : CtS 4 w mean mg mb 101 [.int y t, .int 2 u, .int 29 v] (fun o => ∃ t n, o = W.listOf #[.str (Str.ofString "day must be in 1..28") t] n) := by
  unfold CtS
  k_fill
  intro dp un gd cn cs a ccd A₀ h₀ L m news s Q E B F X N T hk hdp hun hret
  refine wpAny_call ?_
  k_dflt (refine' code_defS0 ?k1 ?k2 ?k3 ?k4 ?k5 ?kA ?k6 ?k7 ?k8 ?k9 ?kB ?_ ?cK ?c2 ?c3 ?c4 ?c5; (case kA => exact rfl); (case k2 => k_asm); (case k1 => k_asm); (case k3 => k_asm); (case k4 => k_asm); (case k5 => k_asm); (case k6 => k_is); (case k7 => k_is); (case k8 => ktr_room); (case k9 => exact BindsTo.of_eq rfl); (case kB => exact locs rfl); (case cK => assumption); (case c2 => exact rfl); (case c3 => exact rfl); (case c4 => exact rfl); (case c5 => decide); k_whole; intro g' L' h' FG' F' N' B' X' T' D'; (try dsimp only at F'); (try dsimp only); (try k_fold))
  k_steps
  exact hret _ _ _ _ ⟨_, _, rfl⟩ (by assumption) (by assumption)
end
-- LP
section
open PySem PySem.W PyProof.Rows PySem.Calls
section
variable {prog : Program} {w : World} {A : Around} {E : Value → Shared → Prop} {s : Shared} {env : Env} {h₀ : Heap} {target : PySem.Expr} {body : List Stmt} {Q : Flow → Shared → Prop} {I ax : Addr} {lo : Obj} {ic : String}
/-- what a turn's end must show -/
def EndT (h₀ : Heap) (L : Addr) (s₁ : Shared) (I : Addr) (o : Obj) (ax : Addr) (lo : Obj) (J : (Str → Option Value) → List (Addr × Obj) → Prop) (s₂ : Shared) : Prop :=
  ∃ h' tk m' news', s₂ = { s₁ with heap := h', toks := tk } ∧ Fr h₀ L h' m' ∧ News h₀ L h' ((I, o) :: news') ∧ (∀ p ∈ news', p.1 ≠ I) ∧ (ax, lo) ∈ news' ∧ J m' news'
def PostT (h₀ : Heap) (L : Addr) (s₁ : Shared) (I : Addr) (o : Obj) (ax : Addr) (lo : Obj) (J : (Str → Option Value) → List (Addr × Obj) → Prop) (Q : Flow → Shared → Prop) (f : Flow) (s₂ : Shared) : Prop :=
  match f with
  | .ret v => Q (.ret v) s₂
  | .brk => Q .next s₂
  | _ => EndT h₀ L s₁ I o ax lo J s₂
theorem items_inv {vs : List Value} (J : Nat → (Str → Option Value) → List (Addr × Obj) → Prop)
    (turn : ∀ i v m₁ nx h tk o, vs[i]? = some v → o.cls = .type ic → (ax, lo) ∈ nx → (∀ p ∈ nx, p.1 ≠ I) → J i m₁ nx → Fr h₀ env.locals h m₁ → News h₀ env.locals h ((I, o) :: nx) →
      wpAny (model prog w) A (assign target env v) (fun _ s₂ => wpAny (model prog w) A (execs body env) (PostT h₀ env.locals { s with heap := h, toks := tk } I o ax lo (J (i + 1)) Q) E s₂) E { s with heap := h, toks := tk })
    (done : ∀ m₁ nx h tk, J vs.length m₁ nx → Fr h₀ env.locals h m₁ → News h₀ env.locals h nx → Q .next { s with heap := h, toks := tk }) :
    ∀ k i m₁ nx, i + k = vs.length → (ax, lo) ∈ nx → (∀ p ∈ nx, p.1 ≠ I) → J i m₁ nx → ItemsRest prog w A E h₀ env target body Q s [(I, ic)] [(ax, lo)] ((vs.drop i).map .val) m₁ nx := by
  intro k
  induction k with
  | zero =>
    intro i m₁ nx hi _ _ hJ
    have e : vs.drop i = [] := List.drop_eq_nil_of_le (by omega)
    rw [e]
    have ei : i = vs.length := by omega
    subst ei
    exact ItemsRest.zero fun h tk F N => done m₁ nx h tk hJ F N
  | succ k ih =>
    intro i m₁ nx hi hm hoff hJ
    have hlt : i < vs.length := by omega
    rw [List.drop_eq_getElem_cons hlt]
    refine ItemsRest.val fun h tk F => AllObj.cons fun o hc => AllObj.nil fun N => ?_
    refine wpAny_mono (turn i vs[i] m₁ nx h tk o (List.getElem?_eq_getElem hlt) hc hm hoff hJ F N) (fun _ s₂ h₂ => wpAny_mono h₂ (fun f s₃ h₃ => ?_) fun _ _ e => e) fun _ _ e => e
    have fin : EndT h₀ env.locals { s with heap := h, toks := tk } I o ax lo (J (i + 1)) s₃ → UnrEndW h₀ env.locals { s with heap := h, toks := tk } [(I, o)] (fun m' n' => SubL [(ax, lo)] n' ∧ ItemsRest prog w A E h₀ env target body Q s [(I, ic)] [(ax, lo)] ((vs.drop (i + 1)).map .val) m' n') s₃ := by
      rintro ⟨h', tk', m', n', e, F', N', ho, hmem, hJ'⟩
      refine ⟨h', tk', m', n', e, F', N', fun p hp q hq => ?_, ⟨hmem, trivial⟩, ih (i + 1) m' n' (by omega) hmem ho hJ'⟩
      rw [List.mem_singleton.mp hq]
      exact ho p hp
    cases f with
    | ret v => exact h₃
    | brk => exact h₃
    | next => exact fin h₃
    | cont => exact fin h₃
theorem list_inv {vs : List Value} {n : Nat} {m₀ : Str → Option Value} {news : List (Addr × Obj)} (J : Nat → (Str → Option Value) → List (Addr × Obj) → Prop)
    (hh : A.handled = none) (F : Fr h₀ env.locals s.heap m₀) (N : News h₀ env.locals s.heap news) (hm : (ax, lo) ∈ news) (hc : lo.cls = .type "list") (hd : lo.data = .seq vs.toArray n) (hj : J 0 m₀ news)
    (turn : ∀ I i v m₁ nx h tk o, vs[i]? = some v → o.cls = .type "list_iterator" → (ax, lo) ∈ nx → (∀ p ∈ nx, p.1 ≠ I) → J i m₁ nx → Fr h₀ env.locals h m₁ → News h₀ env.locals h ((I, o) :: nx) →
      wpAny (model prog w) A (assign target env v) (fun _ s₂ => wpAny (model prog w) A (execs body env) (PostT h₀ env.locals { s with heap := h, toks := tk } I o ax lo (J (i + 1)) Q) E s₂) E { s with heap := h, toks := tk })
    (done : ∀ m₁ nx h tk, J vs.length m₁ nx → Fr h₀ env.locals h m₁ → News h₀ env.locals h nx → Q .next { s with heap := h, toks := tk }) :
    wpAny (model prog w) A (pyIter (.ref ax)) (fun it s₂ => TurnsAt prog w A h₀ env target body Q E it s₂) E s :=
  iter_listTurns hh F N hm hc hd fun I hI => items_inv (vs := vs) J (turn I) done vs.length 0 m₀ news (by omega) hm (fun p hp => Nat.ne_of_lt (hI p hp)) hj
theorem tup_inv {vs : List Value} {n : Nat} {m₀ : Str → Option Value} {news : List (Addr × Obj)} (J : Nat → (Str → Option Value) → List (Addr × Obj) → Prop)
    (hh : A.handled = none) (F : Fr h₀ env.locals s.heap m₀) (N : News h₀ env.locals s.heap news) (hm : (ax, lo) ∈ news) (hc : lo.cls = .type "tuple") (hd : lo.data = .seq vs.toArray n) (hj : J 0 m₀ news)
    (turn : ∀ I i v m₁ nx h tk o, vs[i]? = some v → o.cls = .type "tuple_iterator" → (ax, lo) ∈ nx → (∀ p ∈ nx, p.1 ≠ I) → J i m₁ nx → Fr h₀ env.locals h m₁ → News h₀ env.locals h ((I, o) :: nx) →
      wpAny (model prog w) A (assign target env v) (fun _ s₂ => wpAny (model prog w) A (execs body env) (PostT h₀ env.locals { s with heap := h, toks := tk } I o ax lo (J (i + 1)) Q) E s₂) E { s with heap := h, toks := tk })
    (done : ∀ m₁ nx h tk, J vs.length m₁ nx → Fr h₀ env.locals h m₁ → News h₀ env.locals h nx → Q .next { s with heap := h, toks := tk }) :
    wpAny (model prog w) A (pyIter (.ref ax)) (fun it s₂ => TurnsAt prog w A h₀ env target body Q E it s₂) E s :=
  iter_tupTurns hh F N hm hc hd fun I hI => items_inv (vs := vs) J (turn I) done vs.length 0 m₀ news (by omega) hm (fun p hp => Nat.ne_of_lt (hI p hp)) hj
end
end
-- L1
section
open PySem PySem.W PyProof.Rows PySem.Calls
def AllNe (d : Nat) : List (Addr × Obj) → Prop
  | [] => True
  | p :: r => @Ne Nat p.1 d ∧ AllNe d r
theorem allNe_of {d : Addr} : ∀ {l : List (Addr × Obj)}, (∀ p ∈ l, p.1 ≠ d) → AllNe d l
  | [], _ => trivial
  | p :: _, h => ⟨h p (.head _), allNe_of fun q hq => h q (.tail _ hq)⟩
theorem AllNe.all {d : Addr} : ∀ {l : List (Addr × Obj)}, AllNe d l → ∀ p ∈ l, p.1 ≠ d
  | [], _, _, hp => nomatch hp
  | _ :: _, h, p, hp => by
    rcases List.mem_cons.mp hp with rfl | hp
    · exact h.1
    · exact AllNe.all h.2 p hp
theorem allLt_all {d : Addr} : ∀ {l : List (Addr × Obj)}, AllLt d l → ∀ p ∈ l, p.1 ≠ d
  | [], _, _, hp => nomatch hp
  | _ :: _, h, p, hp => by
    rcases List.mem_cons.mp hp with rfl | hp
    · exact Nat.ne_of_lt h.1
    · exact allLt_all h.2 p hp
/-- v is a tuple of the ledger's, a name that the old style has -/
def TupIn (tl : List (Addr × Obj)) (v : Value) : Prop := ∃ a Y M D t u w n, v = .ref a ∧ (a, ({ cls := .type "tuple", data := .seq #[.int Y t, .int M u, .int D w] n } : Obj)) ∈ tl ∧ JV Y M D
theorem TupIn.mono {tl tl' : List (Addr × Obj)} {v : Value} (h : TupIn tl v) (s : ∀ p ∈ tl, p ∈ tl') : TupIn tl' v := by
  obtain ⟨a, Y, M, D, t, u, w, n, e, hm, hv⟩ := h
  exact ⟨a, Y, M, D, t, u, w, n, e, s _ hm, hv⟩
/-- the names so far, k of them; all but the locals fs as it was -/
def JN (ln : Addr) (fs : List Str) (m₀ : Str → Option Value) (keep : List (Addr × Obj)) (k : Nat) (m : Str → Option Value) (nx : List (Addr × Obj)) : Prop :=
  ∃ vs n tl, nx = (ln, W.listOf (List.toArray vs) n) :: tl ∧ (∀ p ∈ keep, p ∈ tl) ∧ (∀ p ∈ tl, p.1 ≠ ln) ∧ vs.length = k ∧ (∀ v ∈ vs, TupIn tl v) ∧ (∀ z, fs.contains z = false → m z = m₀ z)
theorem fr_two {h₀ h : Heap} {L : Addr} {m m₀ : Str → Option Value} {a b : Str} (F : Fr h₀ L h m) (e : ∀ z, [a, b].contains z = false → m z = m₀ z) :
    Fr h₀ L h (fun y => if y = a then m a else if y = b then m b else m₀ y) := by
  have em : (fun y => if y = a then m a else if y = b then m b else m₀ y) = m := by
    funext y
    by_cases h1 : y = a
    · simp [h1]
    · by_cases h2 : y = b
      · subst h2; simp [h1]
      · show (if y = a then m a else if y = b then m b else m₀ y) = m y
        rw [if_neg h1, if_neg h2]
        exact (e y (by simp [h1, h2])).symm
  rw [em]; exact F
theorem fr_one {h₀ h : Heap} {L : Addr} {m m₀ : Str → Option Value} {a : Str} (F : Fr h₀ L h m) (e : ∀ z, [a].contains z = false → m z = m₀ z) :
    Fr h₀ L h (fun y => if y = a then m a else m₀ y) := by
  have em : (fun y => if y = a then m a else m₀ y) = m := by
    funext y
    by_cases h1 : y = a
    · simp [h1]
    · show (if y = a then m a else m₀ y) = m y
      rw [if_neg h1]
      exact (e y (by simp [h1])).symm
  rw [em]; exact F
theorem ints_at {vs : List Value} {ns : List Int} (hi : IntsAre vs ns) {i : Nat} {v : Value} (h : vs[i]? = some v) : ∃ n t, v = .int n t := by
  induction hi generalizing i with
  | nil => cases i <;> cases h
  | cons n t _ ih =>
    cases i with
    | zero => exact ⟨n, t, (Option.some.inj h).symm⟩
    | succ i => exact ih h
theorem my_extend {prog : Program} {w : World} {A : Around} {E : Value → Shared → Prop} {s : Shared} {h₀ : Heap} {L D b : Addr} {m : Str → Option Value} {news news' : List (Addr × Obj)} {n n2 : Nat} {ns xs : List Value} {Q : Value → Shared → Prop}
    (F : Fr h₀ L s.heap m) (N : News h₀ L s.heap news) (hb : (b, W.listOf xs.toArray n2) ∈ news) (U : Upd D (W.listOf ns.toArray n) (W.listOf (ns ++ xs).toArray (n + 1)) news news') (hne : xs.length ≠ 0) (hsz : ns.length ≤ 5000) (hsz2 : xs.length ≤ 100)
    (h : ∀ h', Fr h₀ L h' m → News h₀ L h' news' → Q .none { s with heap := h' }) : wpAny (model prog w) A (call (.builtin "list.extend") [.ref D, .ref b]) Q E s := by
  refine kl_extend (its := ns.toArray) (its2 := xs.toArray) (l := ns ++ xs) F N hb (by simp) (by simpa using hne) U ?_ ?_ ?_ h
  · simp only [List.size_toArray, Builtin.List.listTooLong]
    simp [sizeLine_eq]
    omega
  · rw [sizeLine_eq]; simp; omega
  · rw [sizeLine_eq]; simp; omega
section
variable {prog : Program} {w : World} {A : Around} {E : Value → Shared → Prop} {s : Shared} {env : Env} {h₀ : Heap} {target : PySem.Expr} {body : List Stmt} {Q : Flow → Shared → Prop} {ax ln : Addr} {lo : Obj}
/-- a turn's end: the names have grown to c of them, all but the locals fs is as it was -/
def EndN (h₀ : Heap) (L : Addr) (s₁ : Shared) (I : Addr) (o : Obj) (ax : Addr) (lo : Obj) (ln : Addr) (fs : List Str) (m₀ : Str → Option Value) (keep : List (Addr × Obj)) (c : Nat) (s₂ : Shared) : Prop :=
  ∃ h' tk m' ns n tl, s₂ = { s₁ with heap := h', toks := tk } ∧ Fr h₀ L h' m' ∧ News h₀ L h' ((I, o) :: (ln, W.listOf (List.toArray ns) n) :: tl) ∧ (∀ p ∈ tl, p.1 ≠ I) ∧ (∀ p ∈ tl, p.1 ≠ ln) ∧ (ax, lo) ∈ tl ∧ (∀ p ∈ keep, p ∈ tl) ∧ ns.length = c ∧ (∀ v ∈ ns, TupIn tl v) ∧ (∀ z, fs.contains z = false → m' z = m₀ z)
def PostN (h₀ : Heap) (L : Addr) (s₁ : Shared) (I : Addr) (o : Obj) (ax : Addr) (lo : Obj) (ln : Addr) (fs : List Str) (m₀ : Str → Option Value) (keep : List (Addr × Obj)) (c : Nat) (Q : Flow → Shared → Prop) (f : Flow) (s₂ : Shared) : Prop :=
  match f with
  | .ret v => Q (.ret v) s₂
  | .brk => Q .next s₂
  | _ => EndN h₀ L s₁ I o ax lo ln fs m₀ keep c s₂
theorem not_contains {z a : Str} (h : [a].contains z = false) : z ≠ a := by
  intro e; subst e; simp at h
theorem not_contains2 {z a b : Str} (h : [a, b].contains z = false) : z ≠ a ∧ z ≠ b := by
  refine ⟨fun e => ?_, fun e => ?_⟩ <;> (subst e; simp at h)
theorem clsNe {a b : String} (h : a ≠ b) {v : Value} (e : v = .type a) : v ≠ .type b := by
  rw [e]; intro q; exact h (Value.type.inj q)
theorem TupIn.filter {h : Heap} {L I : Addr} {o : Obj} {all : List (Addr × Obj)} {v : Value} {xs : List Value} {n : Nat} (h1 : TupIn all v) (N : News h₀ L h all) (hI : (I, o) ∈ all) (ho : o.cls ≠ .type "tuple") (hl : (ln, W.listOf (List.toArray xs) n) ∈ all) :
    TupIn (all.filter fun p => decide (p.1 ≠ I ∧ p.1 ≠ ln)) v := by
  obtain ⟨a, Y, M, D, t, u, w, k, e, hm, hv⟩ := h1
  refine ⟨a, Y, M, D, t, u, w, k, e, List.mem_filter.mpr ⟨hm, decide_eq_true ⟨fun q => ?_, fun q => ?_⟩⟩, hv⟩
  · have z := (N _ hm).1
    have z' := (N _ hI).1
    dsimp only at q z z'
    rw [q, z'] at z
    exact ho (congrArg Obj.cls (Option.some.inj z))
  · have z := (N _ hm).1
    have z' := (N _ hl).1
    dsimp only at q z z'
    rw [q, z'] at z
    have e : Value.type "list" = Value.type "tuple" := congrArg Obj.cls (Option.some.inj z)
    exact absurd (Value.type.inj e) (by decide)
theorem endN_gen {L I : Addr} {o : Obj} {s₁ : Shared} {fs : List Str} {m₀ m' : Str → Option Value} {keep all : List (Addr × Obj)} {c n tk : Nat} {h' : Heap} {xs : List Value}
    (F : Fr h₀ L h' m') (N : News h₀ L h' all) (hI : (I, o) ∈ all) (ho : o.cls ≠ .type "tuple") (hl : (ln, W.listOf (List.toArray xs) n) ∈ all) (hm : (ax, lo) ∈ all ∧ ax ≠ I ∧ ax ≠ ln) (hk : ∀ p ∈ keep, p ∈ all ∧ p.1 ≠ I ∧ p.1 ≠ ln)
    (hlen : xs.length = c) (hv : ∀ v ∈ xs, TupIn all v) (hz : ∀ z, fs.contains z = false → m' z = m₀ z) : EndN h₀ L s₁ I o ax lo ln fs m₀ keep c { s₁ with heap := h', toks := tk } := by
  refine ⟨h', tk, m', xs, n, all.filter fun p => decide (p.1 ≠ I ∧ p.1 ≠ ln), rfl, F, fun p hp => ?_, fun p hp => (of_decide_eq_true (List.mem_filter.mp hp).2).1, fun p hp => (of_decide_eq_true (List.mem_filter.mp hp).2).2, ?_, fun p hp => ?_, hlen, fun v hv' => (hv v hv').filter N hI ho hl, hz⟩
  · rcases List.mem_cons.mp hp with rfl | hp
    · exact N _ hI
    · rcases List.mem_cons.mp hp with rfl | hp
      · exact N _ hl
      · exact N _ (List.mem_filter.mp hp).1
  · exact List.mem_filter.mpr ⟨hm.1, decide_eq_true hm.2⟩
  · exact List.mem_filter.mpr ⟨(hk p hp).1, decide_eq_true (hk p hp).2⟩
theorem EndN.toT {L : Addr} {s₁ s₂ : Shared} {I : Addr} {o : Obj} {fs : List Str} {m₀ : Str → Option Value} {keep : List (Addr × Obj)} {c : Nat} (hI : ln ≠ I) (h : EndN h₀ L s₁ I o ax lo ln fs m₀ keep c s₂) : EndT h₀ L s₁ I o ax lo (JN ln fs m₀ keep c) s₂ := by
  obtain ⟨h', tk, m', ns, n, tl, e, F, N, o1, o2, hm, hk, hl, hv, hz⟩ := h
  refine ⟨h', tk, m', (ln, W.listOf (List.toArray ns) n) :: tl, e, F, N, fun p hp => ?_, .tail _ hm, ns, n, tl, rfl, hk, o2, hl, hv, hz⟩
  rcases List.mem_cons.mp hp with rfl | hp
  · exact hI
  · exact o1 p hp
theorem list_names {vs vs₀ : List Value} {n n₀ c : Nat} {m₀ : Str → Option Value} {tl₀ : List (Addr × Obj)} (fs : List Str) (keep : List (Addr × Obj)) (k : Nat)
    (hh : A.handled = none) (F : Fr h₀ env.locals s.heap m₀) (N : News h₀ env.locals s.heap ((ln, W.listOf vs₀.toArray n₀) :: tl₀)) (hm : (ax, lo) ∈ tl₀) (hc : lo.cls = .type "list") (hd : lo.data = .seq vs.toArray n)
    (hlen : vs₀.length = c) (hoff : ∀ p ∈ tl₀, p.1 ≠ ln) (hin : ∀ v ∈ vs₀, TupIn tl₀ v) (hkeep : ∀ p ∈ keep, p ∈ tl₀)
    (turn : ∀ I i v m₁ h tk o ns n tl, vs[i]? = some v → o.cls = .type "list_iterator" → (ax, lo) ∈ tl → (∀ p ∈ keep, p ∈ tl) → ln ≠ I → (∀ p ∈ tl, p.1 ≠ I) → (∀ p ∈ tl, p.1 ≠ ln) → ns.length = c + k * i → (∀ v ∈ ns, TupIn tl v) → (∀ z, fs.contains z = false → m₁ z = m₀ z) →
      Fr h₀ env.locals h m₁ → News h₀ env.locals h ((I, o) :: (ln, W.listOf (List.toArray ns) n) :: tl) →
      wpAny (model prog w) A (assign target env v) (fun _ s₂ => wpAny (model prog w) A (execs body env) (PostN h₀ env.locals { s with heap := h, toks := tk } I o ax lo ln fs m₀ keep (c + k * (i + 1)) Q) E s₂) E { s with heap := h, toks := tk })
    (done : ∀ m₁ h tk ns n tl, (∀ p ∈ keep, p ∈ tl) → (∀ p ∈ tl, p.1 ≠ ln) → ns.length = c + k * vs.length → (∀ v ∈ ns, TupIn tl v) → (∀ z, fs.contains z = false → m₁ z = m₀ z) → Fr h₀ env.locals h m₁ → News h₀ env.locals h ((ln, W.listOf (List.toArray ns) n) :: tl) → Q .next { s with heap := h, toks := tk }) :
    wpAny (model prog w) A (pyIter (.ref ax)) (fun it s₂ => TurnsAt prog w A h₀ env target body Q E it s₂) E s := by
  refine list_inv (vs := vs) (fun i => JN ln fs m₀ keep (c + k * i)) hh F N (.tail _ hm) hc hd ⟨vs₀, n₀, tl₀, rfl, hkeep, hoff, by simpa using hlen, hin, fun _ _ => rfl⟩ ?_ ?_
  · rintro I i v m₁ nx h tk o hv ho hmem hoffI ⟨ns, n', tl, rfl, hk, hln, hl, hvs, hmap⟩ Fm Nm
    have hI : ln ≠ I := hoffI (ln, _) (.head _)
    have hmt : (ax, lo) ∈ tl := by
      rcases List.mem_cons.mp hmem with e | e
      · exact absurd (congrArg Prod.fst e) (fun q => (hoff (ax, lo) hm) q)
      · exact e
    refine wpAny_mono (turn I i v m₁ h tk o ns n' tl hv ho hmt hk hI (fun p hp => hoffI p (.tail _ hp)) hln hl hvs hmap Fm Nm) (fun _ s₂ h₂ => wpAny_mono h₂ (fun f s₃ h₃ => ?_) fun _ _ e => e) fun _ _ e => e
    cases f with
    | ret v => exact h₃
    | brk => exact h₃
    | next => exact EndN.toT hI h₃
    | cont => exact EndN.toT hI h₃
  · rintro m₁ nx h tk ⟨ns, n', tl, rfl, hk, hln, hl, hvs, hmap⟩ Fm Nm
    exact done m₁ h tk ns n' tl hk hln hl hvs hmap Fm Nm
theorem tup_names {vs vs₀ : List Value} {n n₀ c : Nat} {m₀ : Str → Option Value} {tl₀ : List (Addr × Obj)} (fs : List Str) (keep : List (Addr × Obj)) (k : Nat)
    (hh : A.handled = none) (F : Fr h₀ env.locals s.heap m₀) (N : News h₀ env.locals s.heap ((ln, W.listOf vs₀.toArray n₀) :: tl₀)) (hm : (ax, lo) ∈ tl₀) (hc : lo.cls = .type "tuple") (hd : lo.data = .seq vs.toArray n)
    (hlen : vs₀.length = c) (hoff : ∀ p ∈ tl₀, p.1 ≠ ln) (hin : ∀ v ∈ vs₀, TupIn tl₀ v) (hkeep : ∀ p ∈ keep, p ∈ tl₀)
    (turn : ∀ I i v m₁ h tk o ns n tl, vs[i]? = some v → o.cls = .type "tuple_iterator" → (ax, lo) ∈ tl → (∀ p ∈ keep, p ∈ tl) → ln ≠ I → (∀ p ∈ tl, p.1 ≠ I) → (∀ p ∈ tl, p.1 ≠ ln) → ns.length = c + k * i → (∀ v ∈ ns, TupIn tl v) → (∀ z, fs.contains z = false → m₁ z = m₀ z) →
      Fr h₀ env.locals h m₁ → News h₀ env.locals h ((I, o) :: (ln, W.listOf (List.toArray ns) n) :: tl) →
      wpAny (model prog w) A (assign target env v) (fun _ s₂ => wpAny (model prog w) A (execs body env) (PostN h₀ env.locals { s with heap := h, toks := tk } I o ax lo ln fs m₀ keep (c + k * (i + 1)) Q) E s₂) E { s with heap := h, toks := tk })
    (done : ∀ m₁ h tk ns n tl, (∀ p ∈ keep, p ∈ tl) → (∀ p ∈ tl, p.1 ≠ ln) → ns.length = c + k * vs.length → (∀ v ∈ ns, TupIn tl v) → (∀ z, fs.contains z = false → m₁ z = m₀ z) → Fr h₀ env.locals h m₁ → News h₀ env.locals h ((ln, W.listOf (List.toArray ns) n) :: tl) → Q .next { s with heap := h, toks := tk }) :
    wpAny (model prog w) A (pyIter (.ref ax)) (fun it s₂ => TurnsAt prog w A h₀ env target body Q E it s₂) E s := by
  refine tup_inv (vs := vs) (fun i => JN ln fs m₀ keep (c + k * i)) hh F N (.tail _ hm) hc hd ⟨vs₀, n₀, tl₀, rfl, hkeep, hoff, by simpa using hlen, hin, fun _ _ => rfl⟩ ?_ ?_
  · rintro I i v m₁ nx h tk o hv ho hmem hoffI ⟨ns, n', tl, rfl, hk, hln, hl, hvs, hmap⟩ Fm Nm
    have hI : ln ≠ I := hoffI (ln, _) (.head _)
    have hmt : (ax, lo) ∈ tl := by
      rcases List.mem_cons.mp hmem with e | e
      · exact absurd (congrArg Prod.fst e) (fun q => (hoff (ax, lo) hm) q)
      · exact e
    refine wpAny_mono (turn I i v m₁ h tk o ns n' tl hv ho hmt hk hI (fun p hp => hoffI p (.tail _ hp)) hln hl hvs hmap Fm Nm) (fun _ s₂ h₂ => wpAny_mono h₂ (fun f s₃ h₃ => ?_) fun _ _ e => e) fun _ _ e => e
    cases f with
    | ret v => exact h₃
    | brk => exact h₃
    | next => exact EndN.toT hI h₃
    | cont => exact EndN.toT hI h₃
  · rintro m₁ nx h tk ⟨ns, n', tl, rfl, hk, hln, hl, hvs, hmap⟩ Fm Nm
    exact done m₁ h tk ns n' tl hk hln hl hvs hmap Fm Nm
end
end
-- L2
section
open PySem PySem.W PyProof.Rows PySem.Calls
theorem CtO.mono {n : Nat} {w : World} {mean : ExcName → Option Value} {mg mb : Str → Option Value} {f : Addr} {vs : List Value} {O O' : Obj → Prop} (C : CtO n w mean mg mb f vs O) (h : ∀ o, O o → O' o) : CtO n w mean mg mb f vs O' := by
  intro dp un gd cn cs a ccd cl outer A₀ base h₀ L m s Q E B F X T hk hd hu ret
  exact C dp un gd cn cs a ccd cl outer A₀ base h₀ L m s Q E B F X T hk hd hu fun x o h' tk' ho k hx hn => ret x o h' tk' (h o ho) k hx hn
theorem ct_dayJ (w : World) (mean) (mg mb) (y mo d : Int) (t u v : Tok) (h1 : 1 ≤ mo) (h2 : mo ≤ 12) : CtW 2 w mean mg mb 80 [.int y t, .int mo u, .int d v] (fun t => .int (jord y mo d) t) := ct_day w mean mg mb y mo d t u v h1 h2
theorem ct_gapJ (w : World) (mean) (mg mb) (c : Int) (t : Tok) : CtW 1 w mean mg mb 94 [.int (c.fdiv 100) t] (fun t => .int (gapJ (c / 100)) t) := by
  rw [fd100]; exact ct_gap w mean mg mb (c / 100) t
theorem ct_ordY (w : World) (mean) (mg mb) (n Y M D : Int) (t : Tok) (hn : n = dby Y + dbmY Y M + D) (m1 : 1 ≤ M) (m2 : M ≤ 12) (d1 : 1 ≤ D) (d2 : D ≤ dimY Y M) : CtO 4 w mean mg mb 66 [.int n t] (TupO Y M D) := by
  refine (ct_ord w mean mg mb n t).mono fun o ho => ?_
  obtain ⟨Y', M', D', a1, a2, a3, a4, a5, hT⟩ := ho
  obtain ⟨rfl, rfl, rfl⟩ := ymd_inj m1 m2 d1 d2 a1 a2 a3 a4 (hn.symm.trans a5)
  exact hT
section
variable {n : Nat} {w : World} {mean : ExcName → Option Value} {mg mb : Str → Option Value} {f : Addr} {vs : List Value} {dp un : Nat} {gd : Option (List Code)} {cn : Str} {cs : Scope} {a : Addr} {ccd : Value} {A₀ : Around} {h₀ : Heap} {L : Addr} {m : Str → Option Value} {news : List (Addr × Obj)} {s : Shared} {Q E : Value → Shared → Prop}
theorem CtS.use {O : Obj → Prop} (C : CtS n w mean mg mb f vs O)
    (B : Below A₀ h₀ [] h₀) (F : Fr h₀ L s.heap m) (X : (hd.heap_39 w.params).In h₀) (N : News h₀ L s.heap news)
    (T : Top hd.view_39 (looseW hd.view_39 [Str.ofString "_DAYS_IN_MONTH", Str.ofString "_DAYS_BEFORE_MONTH", Str.ofString "_DI400Y", Str.ofString "_DI100Y", Str.ofString "_DI4Y"]) mean mg mb h₀)
    (hk : cs.kind = .function) (hd : dp + n < recursionLimit) (hu : un + 8 * n < cLine)
    (ret : ∀ (x : Addr) (o : Obj) (h' : Heap) (tk' : Nat), O o → Fr h₀ L h' m → News h₀ L h' ((x, o) :: news) → Q (.ref x) { s with heap := h', toks := tk' }) :
    wpAny (model PySem.Challenge.rw_km0090_01.row.prog w) (ktrTop dp un gd cn cs L a ccd [] []) (call (.ref f) vs) Q E s :=
  C _ _ _ _ _ _ _ _ _ _ _ _ _ _ _ B F X N T hk hd hu ret
end
theorem storeI_E {M : Model} {A : Around} {E : Value → Shared → Prop} {s : Shared} {env : Env} {x : Str} {i j : Int} {t : Tok} {Q : Unit → Shared → Prop} (e : i = j) (h : wpAny M A (storeName env x (.int j t)) Q E s) : wpAny M A (storeName env x (.int i t)) Q E s := by subst e; exact h
theorem bne_no {a : Int} : ¬ (a != a) = true := by simp
theorem dec_no {p : Prop} [Decidable p] (h : ¬ p) : ¬ decide p = true := by simpa using h
theorem dec_yes {p : Prop} [Decidable p] (h : p) : decide p = true := by simpa using h
theorem storeI_L {M : Model} {A : Around} {E : Value → Shared → Prop} {s : Shared} {env : Env} {x : Str} {i : Int} {t : Tok} {Q : Unit → Shared → Prop} (h : ∀ c, c = i → wpAny M A (storeName env x (.int c t)) Q E s) : wpAny M A (storeName env x (.int i t)) Q E s := h i rfl
end
-- L3
section
open PySem PySem.W PyProof.Rows PySem.Calls
open PySem.Spec
section
open LCg
variable {prog : Program} {w : World} {A : Around} {E : Value → Shared → Prop} {s : Shared} {h₀ : Heap} {L : Addr} {m : Str → Option Value} {env : Env}
/-- a tuple of the ledger as a block's source -/
def SrcT (prog : Program) (w : World) (A : Around) (h₀ : Heap) (L : Addr) (m : Str → Option Value) (env : Env) (elt : PySem.Expr) (x : Str) (scope : Scope) (cl : List (Str × Addr)) (Fin : Shared → List Value → List (Addr × Obj) → Prop) (xv : Value) (s₁ : Shared) : Prop :=
  ∃ ax its n news, xv = .ref ax ∧ A.handled = none ∧ Fr h₀ L s₁.heap m ∧ News h₀ L s₁.heap news ∧ (ax, ({ cls := .type "tuple", data := .seq its n } : Obj)) ∈ news ∧ its.size ≤ sizeLine ∧
    ∀ s₂ : Shared, (∃ h, s₂ = { s₁ with heap := h }) → CompRest prog w A h₀ L m env elt x scope cl s₂ (fun nw => (ax, ({ cls := .type "tuple", data := .seq its n } : Obj)) ∈ nw) (fun i v => its[i]? = some v) (Fin s₂) its.size 0 [] news
theorem SrcT.intro {elt : PySem.Expr} {x : Str} {scope : Scope} {cl : List (Str × Addr)} {Fin : Shared → List Value → List (Addr × Obj) → Prop} {ax : Addr} {its : Array Value} {k : Nat} {news : List (Addr × Obj)} {s₁ : Shared}
    (hh : A.handled = none) (F : Fr h₀ L s₁.heap m) (N : News h₀ L s₁.heap news) (hm : (ax, ({ cls := .type "tuple", data := .seq its k } : Obj)) ∈ news) (hsz : its.size ≤ sizeLine)
    (h : ∀ g, CompRest prog w A h₀ L m env elt x scope cl { s₁ with heap := g } (fun nw => (ax, ({ cls := .type "tuple", data := .seq its k } : Obj)) ∈ nw) (fun i v => its[i]? = some v) (Fin { s₁ with heap := g }) its.size 0 [] news) :
    SrcT prog w A h₀ L m env elt x scope cl Fin (.ref ax) s₁ := ⟨ax, its, k, news, rfl, hh, F, N, hm, hsz, fun _ ⟨g, e⟩ => e ▸ h g⟩
theorem tup_st {ax I : Addr} {its : Array Value} {n : Nat} : ∀ i (h h' : Heap) (o : Obj) (nw : List (Addr × Obj)), (h.IsTupleIter I ax i ∧ h.IsTuple ax its) → h.get? I = some o → h'.get? I = some o → (∀ b o, h₀.get? b = some o → h'.get? b = some o) → News h₀ L h' nw → (ax, ({ cls := .type "tuple", data := .seq its n } : Obj)) ∈ nw → (h'.IsTupleIter I ax i ∧ h'.IsTuple ax its) :=
  fun i h h' o nw st e e' k N S => ⟨by obtain ⟨o', q, r⟩ := st.1; rw [e] at q; cases q; exact ⟨o, e', r⟩, ⟨_, (N _ S).1, rfl, n, rfl⟩⟩
theorem ListComp_T {elt iter : PySem.Expr} {x : Str} {px : Pos} {scope : Scope} {cl : List (Str × Addr)} {pos : Pos} {Q : Value → Shared → Prop} (_ : Fr h₀ L s.heap m)
    (hclos : closureFor scope env = pure cl) (hcell : ∀ y ∈ scope.names, y.2 ≠ .cell) (hkind : scope.kind = .function)
    (hnames : ∀ y ∈ scope.names, y.2 = .local → scope.names.lookup y.1 = some .local) (hx : scope.names.lookup x = some .local)
    (h : wpAny (model prog w) A (eval iter env) (SrcT prog w A h₀ L m env elt x scope cl (fun s₂ => FinE h₀ L m s₂ Q)) E s)
    (hs : ∀ x, foldedSetIterable iter env x = pure x := by intro _; rfl) :
    wpAny (model prog w) A (eval (.ListComp elt [⟨.Name x px, iter, [], 0⟩] scope pos) env) Q E s := by
  rw [eval_ListComp]
  refine wpAny_comprehension_free (use := none) rfl hs hclos hkind hnames (wpAny_mono h (fun xv s₁ h₁ => ?_) fun _ _ e => e)
  obtain ⟨ax, its, n, news, rfl, hh, F, N, S, hsz, R⟩ := h₁
  have hl : s₁.heap.IsTuple ax its := ⟨_, (N _ S).1, rfl, n, rfl⟩
  have hlt : ax < s₁.heap.objs.size := by obtain ⟨_, e, _⟩ := hl; exact Heap.lt_size e
  refine wpAny_pyIter_tuple hl ?_
  have up : ∀ b o, s₁.heap.get? b = some o → (s₁.heap.push { cls := .type "tuple_iterator", data := .fields #[.ref ax, .int 0 0] }).get? b = some o := fun b o e => Heap.get?_push_of_some _ e
  refine block_U (Walks.tuple hh s₁.heap.objs.size ax (Nat.ne_of_lt hlt) its) hsz (fun i h st => by obtain ⟨o, e, _⟩ := st.1; exact ⟨o, e⟩) tup_st hcell hkind hx ⟨⟨_, Heap.get?_push_size _ rfl, rfl, rfl⟩, hl.push _⟩ (fun b hb => ?_)
    (F.keeps up) (N.grown up) (Nat.ne_of_lt F.ns.lt) (next_is_new F) (fun p hp => Nat.ne_of_lt (Heap.lt_size (N p hp).1)) S (R _ ⟨_, rfl⟩) ?_
  · show b < (s₁.heap.push _).objs.size
    rw [Heap.size_push]
    rcases List.mem_cons.mp hb with rfl | hb
    · exact Nat.lt_succ_self _
    · rw [List.mem_singleton.mp hb]; exact Nat.lt_succ_of_lt hlt
  · intro D C h tk m' ys news' F' N' o1 hn hC₀ hD₀ hCL hDL hCD offC fin
    refine ⟨m', hn, fun h'' hs'' => fin D h'' tk (F'.change hs'' hCL hC₀) (fun p hp => ?_) o1⟩
    refine ⟨hs''.extBut _ _ ?_ (N' p hp).1, (N' p hp).2⟩
    rcases List.mem_cons.mp hp with rfl | hp
    · exact Ne.symm hCD
    · exact offC p hp
end
section
variable {prog : Program} {w : World} {A : Around} {E : Value → Shared → Prop} {s : Shared}
theorem ne_same {l b : Addr} {items : Array Value} {Q : Value → Shared → Prop} (hl : s.heap.IsList l items) (hb : s.heap.IsList b items) (hu : A.units < cLine) (h : Q (.bool false) s) : wpAny (model prog w) A (compareOp .NotEq (.ref l) (.ref b)) Q E s :=
  SeqAt.RcNeAt.lists (e := fun _ => true) hl hb rfl hu (fun j _ _ => SeqAt.EqAt.same _) prog w E Q ((congrArg (fun b : Bool => Q (.bool (!b)) s) (List.all_eq_true.mpr fun _ _ => rfl)).mpr h)
theorem list_is {h₀ : Heap} {L a : Addr} {news : List (Addr × Obj)} {its : Array Value} {n : Nat} (N : News h₀ L s.heap news) (hm : (a, ({ cls := .type "list", data := .seq its n } : Obj)) ∈ news) : s.heap.IsList a its := ⟨_, (N _ hm).1, rfl, n, rfl⟩
end
theorem end_turn {h₀ h' : Heap} {L I ax : Addr} {s₁ : Shared} {o lo : Obj} {m' : Str → Option Value} {tl nx' : List (Addr × Obj)} {tk : Nat} {Q : Flow → Shared → Prop}
    (F : Fr h₀ L h' m') (N : News h₀ L h' nx') (sub : ∀ p ∈ (I, o) :: (ax, lo) :: tl, p ∈ nx') (hoff : ∀ p ∈ (ax, lo) :: tl, p.1 ≠ I) :
    PostT h₀ L s₁ I o ax lo (fun _ nx => nx = (ax, lo) :: tl) Q .next { s₁ with heap := h', toks := tk } :=
  ⟨h', tk, m', (ax, lo) :: tl, rfl, F, fun p hp => N p (sub p hp), hoff, List.mem_cons_self, rfl⟩
theorem dim_mar {y : Int} : 1 ≤ dimY y 3 := by simp [dimY, dimT]
theorem beq_no {a b : Int} (h : ¬ a = b) : ¬ (a == b) = true := by simpa using h
theorem beq_yes {a : Int} : (a == a) = true := by simp
end
-- M
section
open PySem PySem.W PyProof.Rows PySem.Calls
def Halt (P : Prop) : Prop := P
theorem halt {P : Prop} (h : Halt P) : P := h
local macro_rules | `(tactic| k_all) => `(tactic| assumption)
local macro_rules | `(tactic| k_mem) => `(tactic| assumption)
local macro_rules | `(tactic| walk_at "exec For") => `(tactic| (k_here; (rename Fr _ _ _ _ => lF'); (with_unfolding_all refine' For_turns lF' ?_; k_whole)))
local macro_rules | `(tactic| walk_at "exec For Name BinOp cons nil") => `(tactic| (k_here; (rename Fr _ _ _ _ => lF'); (with_unfolding_all refine' For_turns lF' ?_; k_whole)))
local macro_rules | `(tactic| walk_at "pyIter ref") => `(tactic| (refine halt ?_))
local macro_rules | `(tactic| walk_at "call builtin:list.extend") => `(tactic| (k_here; (with_reducible show wpAny _ _ (call (Value.builtin _) [Value.ref _, Value.ref _]) _ _ _); k_dflt (refine' my_extend ?F ?N ?b ?U ?e ?d ?z ?_; (case F => k_asm); (case N => k_asm); (case b => k_mem); (case U => k_upd); (case e => exact Nat.succ_ne_zero _); (case d => omega); (case z => exact Nat.le_of_ble_eq_true rfl)); intro h' F' N'; (try k_sweep)))
local macro_rules | `(tactic| walk_at "call ref") => `(tactic| (k_here; k_dflt (refine' CtO.use (ct_name _ _ _ _ _ _) ?k1 ?k2 ?k3 ?k4 ?k5 ?kK ?kd ?ku ?_; (case k1 => k_asm); (case k2 => k_asm); (case k3 => k_asm); (case k4 => k_asm); (case k5 => k_asm); (case kK => first | exact rfl | assumption); (case kd => ktr_room); (case ku => ktr_units); intro x9 o9 h9 tk9 O9 F9 N9 l9; (obtain ⟨Y9, M9, D9, v9, f9, t9, u9, w9, n9, e9⟩ := O9; subst e9; replace l9 := allNe_of l9; simp only [AllNe] at l9); (try dsimp only); (try k_sweep); (try k_fold))))
local macro_rules | `(tactic| walk_at "call ref") => `(tactic| (k_here; k_dflt (refine' CtW.use (ct_dayJ _ _ _ _ _ _ _ _ _ _ (by first | assumption | decide) (by first | assumption | decide)) ?k1 ?k2 ?k3 ?k4 ?k5 ?kK ?kd ?ku ?_; (case k1 => k_asm); (case k2 => k_asm); (case k3 => k_asm); (case k4 => k_asm); (case k5 => k_asm); (case kK => first | exact rfl | assumption); (case kd => ktr_room); (case ku => ktr_units); intro t9 h9 tk9 F9 N9; (try dsimp only); (try k_sweep); (try k_fold))))
local macro_rules | `(tactic| walk_at "call ref") => `(tactic| (k_here; k_dflt (refine' CtW.use (ct_gapJ _ _ _ _ _ _) ?k1 ?k2 ?k3 ?k4 ?k5 ?kK ?kd ?ku ?_; (case k1 => k_asm); (case k2 => k_asm); (case k3 => k_asm); (case k4 => k_asm); (case k5 => k_asm); (case kK => first | exact rfl | assumption); (case kd => ktr_room); (case ku => ktr_units); intro t9 h9 tk9 F9 N9; (try dsimp only); (try k_sweep); (try k_fold))))
local macro_rules | `(tactic| walk_at "call ref") => `(tactic| (k_here; k_dflt (refine' CtO.use (ct_ordY _ _ _ _ _ _ _ _ _ rfl (by first | assumption | decide) (by first | assumption | decide) (by first | assumption | decide) (by assumption)) ?k1 ?k2 ?k3 ?k4 ?k5 ?kK ?kd ?ku ?_; (case k1 => k_asm); (case k2 => k_asm); (case k3 => k_asm); (case k4 => k_asm); (case k5 => k_asm); (case kK => first | exact rfl | assumption); (case kd => ktr_room); (case ku => ktr_units); intro x9 o9 h9 tk9 O9 F9 N9 l9; (obtain ⟨t9, u9, w9, n9, e9⟩ := O9; subst e9); (try dsimp only); (try k_sweep); (try k_fold))))
local macro_rules | `(tactic| walk_at "call ref") => `(tactic| (k_here; k_dflt (refine' CtW.use (ct_told _ _ _ _ _ _ _ _ _ _ (by first | assumption | decide) (by first | assumption | decide) (by first | assumption | decide) (by assumption)) ?k1 ?k2 ?k3 ?k4 ?k5 ?kK ?kd ?ku ?_; (case k1 => k_asm); (case k2 => k_asm); (case k3 => k_asm); (case k4 => k_asm); (case k5 => k_asm); (case kK => first | exact rfl | assumption); (case kd => ktr_room); (case ku => ktr_units); intro t9 h9 tk9 F9 N9; (try dsimp only); (try k_sweep); (try k_fold))))
local macro_rules | `(tactic| walk_at "storeName") => `(tactic| (k_here; (with_reducible show wpAny _ _ (storeName _ (Str.ofString "number") (Value.int _ _)) _ _ _); (refine storeI_E (by assumption) ?_); k_dflt (refine' storeX_L ?F ?N ?_ ?a ?b; (case F => k_asm); (case N => k_asm); (case a => rfl); (case b => rfl); k_whole; intro h' F' N'; (try k_sweep))))
local macro_rules | `(tactic| walk_at "ite") => `(tactic| (refine ite_neg bne_no ?_))
local macro_rules | `(tactic| walk_at "ite") => `(tactic| ((with_reducible show if decide (gapJ _ < gapJ _) = true then _ else _); first | refine ite_neg (dec_no (by assumption)) ?_ | refine ite_pos (dec_yes (by assumption)) ?_))
local macro_rules | `(tactic| walk_at "ite") => `(tactic| (refine ite_neg (beq_no (by omega)) ?_))
local macro_rules | `(tactic| walk_at "eval ListComp") => `(tactic| (k_here; k_dflt (refine ListComp_T (by k_asm) (by rfl) (by decide) (by rfl) (by decide) (by rfl) ?_)))
local macro_rules | `(tactic| walk_at "SrcT") => `(tactic| (k_here; k_dflt (refine SrcT.intro (by rfl) (by k_asm) (by k_asm) (by k_mem) (by exact Nat.le_of_ble_eq_true rfl) ?_); intro g'; lcg_lit))
local macro_rules | `(tactic| walk_at "CompRest") => `(tactic| (with_unfolding_all first | (refine LCg.CompRest.succ ?_; intro v' I' oI' C' oC' D' m' h' tk' E' hv' hC' hx' F' N' off' ne'; lcg_open hv') | refine LCg.CompRest.zero ?_))
local macro_rules | `(tactic| walk_at "CompEnd") => `(tactic| (refine LCg.CompEnd.intro (by assumption) (by assumption) _ (fun _ hp => hp) (by assumption) (by k_mem) ?_))
local macro_rules | `(tactic| walk_at "compareOp NotEq ref ref") => `(tactic| (k_here; k_dflt (refine ne_same (list_is (by k_asm) (by k_mem)) (list_is (by k_asm) (by k_mem)) (by first | units_room | exact Nat.le_of_ble_eq_true rfl) ?_)))
local macro_rules | `(tactic| walk_at "ite") => `(tactic| (refine ite_pos beq_yes ?_))
local macro_rules | `(tactic| walk_at "call ref") => `(tactic| (k_here; k_dflt (refine' CtS.use (ct_told28 _ _ _ _ _ _ _ _ (by assumption)) ?k0 ?k1 ?k2 ?k3 ?k4 ?k5 ?kd ?ku ?_; (case k0 => assumption); (case k1 => k_asm); (case k2 => k_asm); (case k3 => k_asm); (case k4 => k_asm); (case k5 => exact rfl); (case kd => ktr_room); (case ku => ktr_units); intro x9 o9 h9 tk9 O9 F9 N9; (obtain ⟨t9, n9, e9⟩ := O9); subst e9; (try dsimp only); (try k_sweep); (try k_fold))))
theorem X : PySem.Challenge.rw_km0090_01.Holds := hd (by
  k_go0
  (rename Below _ _ _ _ => K0)
  dsimp only [Top.heap] at K0
  all_goals try k_fold
  k_steps
  unfold Halt
  (rename Fr _ _ _ _ => F1)
  (rename News _ _ _ _ => N1)
  (rename IntsAre _ (_ ++ _) => I1)
  rename_i ln _ _ _ _ _ _ D1 ws1 _ _
  have N2 := cb_drop N1 (news := [(ln, W.listOf (List.toArray []) 0), (D1, W.listOf ws1.toArray 0)]) (by
    intro p hp
    simp only [List.mem_cons, List.not_mem_nil, or_false] at hp ⊢
    rcases hp with rfl | rfl
    · exact .inr (.inr rfl)
    · exact .inl rfl)
  have hD : D1 ≠ ln := by k_ne
  refine list_names (ln := ln) (ax := D1) (lo := W.listOf ws1.toArray 0) (vs := ws1) (n := 0) (c := 0) [Str.ofString "x", Str.ofString "year"] [] 20 rfl F1 N2 (.head _) rfl rfl rfl ?_ ?_ ?_ ?_ ?_
  · intro p hp; rw [List.mem_singleton.mp hp]; exact hD
  · intro v hv; cases hv
  · intro p hp; cases hp
  · rintro I i v m₁ h tk o ns n tl hv ho hmem hkeep hlnI hoffI hln hlen hvs hmap Fm Nm
    obtain ⟨xi, xt, rfl⟩ := ints_at I1 hv
    have Fx := fr_two Fm hmap
    clear Fm F1 N1 N2
    replace hlnI := neN hlnI
    have hi : i < ws1.length := (List.getElem?_eq_some_iff.mp hv).1
    have hw : ws1.length ≤ 64 := by
      have := I1.length
      simp only [List.length_append, List.length_cons, List.length_nil] at this
      omega
    have hsz : ns.length ≤ 1280 := by omega
    k_steps
    unfold Halt
    (rename Fr _ _ _ _ => F2)
    (rename News _ _ _ _ => N2)
    simp only [List.push_toArray] at N2
    rename_i x9 _ _ Y9 M9 D9 v9 _ t9 u9 w9 n9 l9 _ T4 _ l1
    replace hoffI := allNe_of hoffI
    replace hln := allNe_of hln
    have N3 := cb_drop N2 (news := (ln, W.listOf (ns ++ [Value.ref x9]).toArray (n + 1)) :: (T4, _) :: (x9, _) :: (I, o) :: tl) (by
      intro p hp
      simp only [List.mem_cons] at hp ⊢
      rcases hp with h | h | h | h | h
      · exact .inr (.inr (.inr (.inl h)))
      · exact .inl h
      · exact .inr (.inl h)
      · exact .inr (.inr (.inl h))
      · exact .inr (.inr (.inr (.inr h))))
    refine tup_names (ln := ln) (ax := T4) (n := 0) (c := ns.length + 1) [Str.ofString "year"] [(I, o), (D1, W.listOf ws1.toArray 0)] 4 rfl F2 N3 (.head _) rfl rfl ?_ ?_ ?_ ?_ ?_ ?_
    · simp
    · refine AllNe.all (l := _ :: _ :: _ :: tl) ⟨?_, ?_, ?_, hln⟩ <;> (dsimp only; omega)
    · intro v hv
      rcases List.mem_append.mp hv with hv | hv
      · exact (hvs v hv).mono fun p hp => .tail _ (.tail _ (.tail _ hp))
      · rw [List.mem_singleton.mp hv]
        exact ⟨x9, _, _, _, _, _, _, _, rfl, .tail _ (.head _), v9⟩
    · intro p hp
      rcases List.mem_cons.mp hp with rfl | hp
      · exact .tail _ (.tail _ (.head _))
      · rw [List.mem_singleton.mp hp]
        exact .tail _ (.tail _ (.tail _ hmem))
    · rintro J j v m₂ h2 tk2 o2 ns2 n2 tl2 hv2 ho2 hmem2 hkeep2 hlnJ hoffJ hln2 hlen2 hvs2 hmap2 Fm2 Nm2
      obtain ⟨yi, yt, rfl⟩ := ints_at (ns := [xi, 4 * xi, 100 * xi, 400 * xi]) (by repeat constructor) hv2
      have Fx2 := fr_one Fm2 hmap2
      clear Fm2 N2 N3 F2
      replace hlnJ := neN hlnJ
      have hj : j < 4 := (List.getElem?_eq_some_iff.mp hv2).1
      have hsz2 : ns2.length ≤ 1300 := by omega
      k_steps
      have oJ := hoffJ _ hmem2
      have ol := hln2 _ hmem2
      refine endN_gen (by assumption) (by assumption) (by k_mem) (clsNe (by decide) ho2) (by k_mem) ⟨by k_mem, oJ, ol⟩ (fun p hp => ?_) ?_ ?_ ?_
      · have hp' := hkeep2 p hp
        exact ⟨by k_mem, hoffJ _ hp', hln2 _ hp'⟩
      · simp only [List.length_append, List.length_cons, List.length_nil, hlen2]; omega
      · intro v hv
        rcases List.mem_append.mp hv with hv | hv
        · exact (hvs2 v hv).mono fun p hp => by k_mem
        · simp only [List.mem_cons, List.not_mem_nil, or_false] at hv
          rcases hv with rfl | rfl | rfl | rfl
          · exact ⟨_, _, _, _, _, _, _, _, rfl, by k_mem, jv_jan yi⟩
          · exact ⟨_, _, _, _, _, _, _, _, rfl, by k_mem, jv_feb yi⟩
          · exact ⟨_, _, _, _, _, _, _, _, rfl, by k_mem, jv_mar yi⟩
          · exact ⟨_, _, _, _, _, _, _, _, rfl, by k_mem, jv_dec yi⟩
      · intro z hz
        have hz' := not_contains hz
        simp only [if_neg hz']
    · rintro m₂ h2 tk2 ns2 n2 tl2 hkeep2 hln2 hlen2 hvs2 hmap2 Fm2 Nm2
      have Fx2 := fr_one Fm2 hmap2
      clear Fm2 N2 N3 F2
      have hsz2 : ns2.length ≤ 1300 := by
        simp only [List.length_cons, List.length_nil] at hlen2
        omega
      k_steps
      have hIo := hkeep2 _ (.head _)
      have hD1 := hkeep2 _ (.tail _ (.head _))
      refine endN_gen (by assumption) (by assumption) (by k_mem) (clsNe (by decide) ho) (by k_mem) ⟨by k_mem, AllNe.all hoffI _ hmem, AllNe.all hln _ hmem⟩ (fun p hp => nomatch hp) ?_ ?_ ?_
      · simp only [List.length_append, List.length_cons, List.length_nil, hlen2]; omega
      · intro v hv
        rcases List.mem_append.mp hv with hv | hv
        · exact (hvs2 v hv).mono fun p hp => by k_mem
        · simp only [List.mem_cons, List.not_mem_nil, or_false] at hv
          rcases hv with rfl | rfl | rfl
          · exact ⟨_, _, _, _, _, _, _, _, rfl, by k_mem, jv_leap (by omega)⟩
          · exact ⟨_, _, _, _, _, _, _, _, rfl, by k_mem, jv_leap (by omega)⟩
          · exact ⟨_, _, _, _, _, _, _, _, rfl, by k_mem, jv_leap (by omega)⟩
      · intro z hz
        have hz' := not_contains2 hz
        simp only [if_neg hz'.1, if_neg hz'.2]
  · rintro m₁ h tk ns n tl - hln hlen hvs hmap Fm Nm
    have Fx := fr_two Fm hmap
    clear Fm F1 N1 N2
    k_steps
    unfold Halt
    (rename Fr _ _ _ _ => F3)
    (rename News _ _ _ _ => N3)
    refine list_inv (ax := ln) (vs := ns) (n := n) (fun _ _ nx => nx = (ln, W.listOf ns.toArray n) :: tl) rfl F3 N3 (.head _) rfl rfl rfl ?_ ?_
    · rintro I i v m₂ nx h3 tk3 o3 hv ho hmem hoff rfl Fm Nm
      obtain ⟨a, Y, M, D, t, u, w, k, rfl, hm, hJ⟩ := hvs v (List.mem_of_getElem? hv)
      clear F3 N3
      have hM1 : 1 ≤ M := hJ.1
      have hM2 : M ≤ 12 := hJ.2.1
      have hD1 : 1 ≤ D := hJ.2.2.1
      by_cases hbad : M = 2 ∧ D = 29 ∧ leap Y = false
      · obtain ⟨rfl, rfl, hl⟩ := hbad
        have h4 := jv_four hJ
        have hlaw := jord_bad h4 hl
        have hg := gap_bad h4 hl
        have h31 := @dim_mar Y
        clear hJ hM1 hM2 hD1
        k_steps
        exact end_turn (by assumption) (by assumption) (by intro p hp; repeat (first | with_reducible exact hp | refine List.mem_cons_of_mem _ ?_)) hoff
      · have hD2 := jv_valid hJ hbad
        by_cases hM3 : M < 3
        · have hlaw := jord_lt (y := Y) (d := D) hM1 hM3
          obtain rfl | rfl : M = 1 ∨ M = 2 := by omega
          · clear hbad hJ hM1 hM2 hM3
            k_steps
            exact end_turn (by assumption) (by assumption) (by intro p hp; repeat (first | with_reducible exact hp | refine List.mem_cons_of_mem _ ?_)) hoff
          · by_cases h29 : D = 29
            · subst h29
              have hg : ¬ gapJ ((Y - 1) / 100) < gapJ (Y / 100) := by
                refine gap_good (jv_four hJ) ?_
                cases hl : leap Y with
                | true => rfl
                | false => exact absurd ⟨rfl, rfl, hl⟩ hbad
              clear hbad hJ hM1 hM2 hM3 hD1
              k_steps
              exact end_turn (by assumption) (by assumption) (by intro p hp; repeat (first | with_reducible exact hp | refine List.mem_cons_of_mem _ ?_)) hoff
            · clear hbad hJ hM1 hM2 hM3
              k_steps
              exact end_turn (by assumption) (by assumption) (by intro p hp; repeat (first | with_reducible exact hp | refine List.mem_cons_of_mem _ ?_)) hoff
        · have hlaw := jord_ge (y := Y) (d := D) (by omega) hM2
          clear hbad hJ
          k_steps
          exact end_turn (by assumption) (by assumption) (by intro p hp; repeat (first | with_reducible exact hp | refine List.mem_cons_of_mem _ ?_)) hoff
    · k_steps)
end
end Mine
theorem PySem.Challenge.cw_km0090_01_holds : PySem.Challenge.rw_km0090_01.Holds := by
  exact Mine.X
