import PyProof.Rows.All
import Wide.All
import OpenK.AllK
import Wide.FinOn
import PySem.Challenge.RW_jk0007_01
set_option Elab.async false
set_option maxRecDepth 100000
set_option linter.unusedSimpArgs false
set_option linter.unusedVariables false
namespace Mine
def isleapF (y : Int) : Bool := decide (y % 4 = 0 ∧ (y % 100 ≠ 0 ∨ y % 400 = 0))
theorem isleapF_iff (y : Int) : isleapF y = true ↔ (y % 4 = 0 ∧ (y % 100 ≠ 0 ∨ y % 400 = 0)) := by simp [isleapF]
def jan (y : Int) : Int := 1721426 + 365 * (y - 1) + (y - 1) / 4 - (y - 1) / 100 + (y - 1) / 400
def gadj (y m : Int) : Int := if m ≤ 2 then 0 else if isleapF y = true then -1 else -2
def gjd (y m d : Int) : Int := jan y - 1 + ((367 * m - 362) / 12 + gadj y m + d)
def mlen (y m : Int) : Int := if m = 2 then (if isleapF y = true then 29 else 28) else if m = 4 ∨ m = 6 ∨ m = 9 ∨ m = 11 then 30 else 31
def gY (n : Int) : Int :=
  (n - 1721426) / 146097 * 400 + (n - 1721426) % 146097 / 36524 * 100 + (n - 1721426) % 146097 % 36524 / 1461 * 4 + (n - 1721426) % 146097 % 36524 % 1461 / 365 +
    (if (n - 1721426) % 146097 / 36524 = 4 ∨ (n - 1721426) % 146097 % 36524 % 1461 / 365 = 4 then 0 else 1)
def gYd (n : Int) : Int := n - jan (gY n)
def gM (n : Int) : Int := ((gYd n + (if gYd n < 58 + (if isleapF (gY n) = true then 1 else 0) then 0 else if isleapF (gY n) = true then 1 else 2)) * 12 + 373) / 367
def gD (n : Int) : Int := n - gjd (gY n) (gM n) 1 + 1

theorem jan_succ (y : Int) : jan (y + 1) = jan y + (if isleapF y = true then 366 else 365) := by
  unfold jan
  by_cases h : isleapF y = true
  · rw [if_pos h]; rw [isleapF_iff] at h; lia
  · rw [if_neg h]; rw [isleapF_iff] at h; lia
theorem jan_lt {a b : Int} (h : a < b) : jan a + 365 * (b - a) ≤ jan b := by unfold jan; lia
theorem jan_uniq {a b n : Int} (h1 : jan a ≤ n) (h2 : n < jan (a + 1)) (h3 : jan b ≤ n) (h4 : n < jan (b + 1)) : a = b := by
  rcases Int.lt_trichotomy a b with h | h | h
  · by_cases e : b = a + 1
    · subst e; lia
    · have := jan_lt (a := a + 1) (b := b) (by lia); lia
  · exact h
  · by_cases e : a = b + 1
    · subst e; lia
    · have := jan_lt (a := b + 1) (b := a) (by lia); lia
theorem jan_mono_le {a b n : Int} (h1 : jan a ≤ n) (h2 : n < jan (b + 1)) : a ≤ b := by
  by_cases h : b < a
  · by_cases e : a = b + 1
    · subst e; lia
    · have := jan_lt (a := b + 1) (b := a) (by lia); lia
  · lia

theorem gY_aux (q c q4 yi r : Int) (hc : 0 ≤ c) (hc4 : c ≤ 4) (hq : 0 ≤ q4) (hq4 : q4 ≤ 24) (hy : 0 ≤ yi) (hy4 : yi ≤ 4) (hr : 0 ≤ r) (hr4 : r < 365) (hc0 : c = 4 → q4 = 0 ∧ yi = 0 ∧ r = 0) (hy0 : yi = 4 → r = 0) (hyc : c < 4 → q4 = 24 → yi = 4 → c = 3)
    (n : Int) (hn : n = 1721426 + 146097 * q + 36524 * c + 1461 * q4 + 365 * yi + r) :
    jan (q * 400 + c * 100 + q4 * 4 + yi + (if c = 4 ∨ yi = 4 then 0 else 1)) ≤ n ∧ n < jan (q * 400 + c * 100 + q4 * 4 + yi + (if c = 4 ∨ yi = 4 then 0 else 1) + 1) := by
  rw [jan_succ]
  by_cases h4 : c = 4
  · obtain ⟨h1, h2, h3⟩ := hc0 h4
    subst h4 h1 h2 h3
    have hl : isleapF (q * 400 + 4 * 100 + 0 * 4 + 0 + 0) = true := by rw [isleapF_iff]; lia
    simp only [true_or, if_true, hl]
    unfold jan
    lia
  · by_cases hy4' : yi = 4
    · have h3 := hy0 hy4'
      subst hy4' h3
      have hl : isleapF (q * 400 + c * 100 + q4 * 4 + 4 + 0) = true := by
        rw [isleapF_iff]
        by_cases h24 : q4 = 24
        · have := hyc (by lia) h24 rfl; subst this; subst h24; lia
        · lia
      simp only [or_true, if_true, hl]
      have e1 : (q * 400 + c * 100 + q4 * 4 + 4 + 0 - 1) / 4 = 100 * q + 25 * c + q4 := by lia
      have e2 : (q * 400 + c * 100 + q4 * 4 + 4 + 0 - 1) / 100 = 4 * q + c := by lia
      have e3 : (q * 400 + c * 100 + q4 * 4 + 4 + 0 - 1) / 400 = q := by lia
      unfold jan
      rw [e1, e2, e3]
      lia
    · simp only [h4, hy4', or_self, if_false]
      have e1 : (q * 400 + c * 100 + q4 * 4 + yi + 1 - 1) / 4 = 100 * q + 25 * c + q4 := by lia
      have e2 : (q * 400 + c * 100 + q4 * 4 + yi + 1 - 1) / 100 = 4 * q + c := by lia
      have e3 : (q * 400 + c * 100 + q4 * 4 + yi + 1 - 1) / 400 = q := by lia
      unfold jan
      rw [e1, e2, e3]
      split <;> lia
theorem gY_spec (n : Int) : jan (gY n) ≤ n ∧ n < jan (gY n + 1) := by
  unfold gY
  refine gY_aux ((n - 1721426) / 146097) ((n - 1721426) % 146097 / 36524) ((n - 1721426) % 146097 % 36524 / 1461) ((n - 1721426) % 146097 % 36524 % 1461 / 365) ((n - 1721426) % 146097 % 36524 % 1461 % 365) ?_ ?_ ?_ ?_ ?_ ?_ ?_ ?_ ?_ ?_ ?_ n ?_ <;> lia
theorem gYd_bounds (n : Int) : 0 ≤ gYd n ∧ gYd n < (if isleapF (gY n) = true then 366 else 365) := by
  have h := gY_spec n
  rw [jan_succ] at h
  unfold gYd
  lia
theorem gM_fin : ∀ l : Bool, ∀ k : Nat, k < 366 → ((k : Int) < (if l = true then 366 else 365)) →
    (fun m : Int => 1 ≤ m ∧ m ≤ 12 ∧ 0 < (k : Int) + 1 - ((367 * m - 362) / 12 + (if m ≤ 2 then 0 else if l = true then -1 else -2)) ∧
      (k : Int) + 1 - ((367 * m - 362) / 12 + (if m ≤ 2 then 0 else if l = true then -1 else -2)) ≤ (if m = 2 then (if l = true then 29 else 28) else if m = 4 ∨ m = 6 ∨ m = 9 ∨ m = 11 then 30 else 31))
      ((((k : Int) + (if (k : Int) < 58 + (if l = true then 1 else 0) then 0 else if l = true then 1 else 2)) * 12 + 373) / 367) := by
  decide +kernel
theorem gM_aux (d m : Int) (l : Bool) (h0 : 0 ≤ d) (h1 : d < (if l = true then 366 else 365)) (e2 : m = ((d + (if d < 58 + (if l = true then 1 else 0) then 0 else if l = true then 1 else 2)) * 12 + 373) / 367) :
    1 ≤ m ∧ m ≤ 12 ∧ 0 < d + 1 - ((367 * m - 362) / 12 + (if m ≤ 2 then 0 else if l = true then -1 else -2)) ∧
      d + 1 - ((367 * m - 362) / 12 + (if m ≤ 2 then 0 else if l = true then -1 else -2)) ≤ (if m = 2 then (if l = true then 29 else 28) else if m = 4 ∨ m = 6 ∨ m = 9 ∨ m = 11 then 30 else 31) := by
  obtain ⟨k, rfl⟩ := Int.eq_ofNat_of_zero_le h0
  subst e2
  have hk : k < 366 := by split at h1 <;> lia
  exact gM_fin l k hk h1
theorem gM_spec (n : Int) : 1 ≤ gM n ∧ gM n ≤ 12 ∧ 0 < gD n ∧ gD n ≤ mlen (gY n) (gM n) := by
  have h := gYd_bounds n
  have e : gD n = gYd n + 1 - ((367 * gM n - 362) / 12 + gadj (gY n) (gM n)) := by unfold gD gjd gYd; lia
  rw [e]
  exact gM_aux (gYd n) (gM n) (isleapF (gY n)) h.1 h.2 rfl
theorem one_le_mlen (y m : Int) : 1 ≤ mlen y m := by
  unfold mlen
  repeat' split
  all_goals lia
theorem gjd_one (y : Int) : gjd y 1 1 = jan y := by unfold gjd gadj; simp
theorem gjd_back (n : Int) : gjd (gY n) (gM n) (gD n) = n := by
  unfold gD gjd; lia
section
variable {n d q r c r2 q4 r3 yi Y z1 z2 z3 k : Int}
theorem gfin (h1 : d = n - 1721426) (h2 : q = d / 146097) (h3 : r = d % 146097) (h4 : c = r / 36524) (h5 : r2 = r % 36524) (h6 : q4 = r2 / 1461) (h7 : r3 = r2 % 1461) (h8 : yi = r3 / 365)
    (hY : Y = q * 400 + c * 100 + q4 * 4 + yi + (if c = 4 ∨ yi = 4 then 0 else 1)) : Y = gY n := by
  subst h1 h2 h3 h4 h5 h6 h7 h8; rw [hY]; rfl
theorem gfM {n z2 k : Int} (hz2 : z2 = n - gjd (gY n) 1 1) (hk : k = if z2 < 58 + (if isleapF (gY n) = true then 1 else 0) then 0 else if isleapF (gY n) = true then 1 else 2) : ((z2 + k) * 12 + 373) / 367 = gM n := by
  have e : z2 = gYd n := by rw [hz2, gjd_one]; rfl
  rw [hk, e]; rfl
theorem gfD {n z1 z2 z3 k : Int} (hz3 : z3 = n - gjd (gY n) z1 1 + 1) (hz1 : z1 = ((z2 + k) * 12 + 373) / 367) (hz2 : z2 = n - gjd (gY n) 1 1) (hk : k = if z2 < 58 + (if isleapF (gY n) = true then 1 else 0) then 0 else if isleapF (gY n) = true then 1 else 2) : z3 = gD n := by
  rw [hz3, hz1, gfM hz2 hk]; rfl
end
def hleap (y : Int) : Bool := decide ((y * 7 + 1) % 19 < 7)
theorem hleap_iff (y : Int) : hleap y = true ↔ (y * 7 + 1) % 19 < 7 := by simp [hleap]
def hmonths (y : Int) : Int := if hleap y = true then 13 else 12
/-- months ahead of the year; the molad's day; the first delay -/
def hmo (y : Int) : Int := (235 * y - 234) / 19
def hmd (y : Int) : Int := hmo y * 29 + (12084 + 13753 * hmo y) / 25920
def hd1 (y : Int) : Int := if 3 * (hmd y + 1) % 7 < 3 then hmd y + 1 else hmd y
def hd2 (y : Int) : Int := if hd1 (y + 1) - hd1 y = 356 then 2 else if hd1 y - hd1 (y - 1) = 382 then 1 else 0
def nyd (y : Int) : Int := 347996 + hd1 y + hd2 y + 1 + 1
def ydays (y : Int) : Int := nyd (y + 1) - nyd y

theorem hmo_step (y : Int) : hmo (y + 1) = hmo y + hmonths y := by
  have e1 : hmo y = 12 * y - 12 + (7 * y + 1 - 7) / 19 := by unfold hmo; lia
  have e2 : hmo (y + 1) = 12 * y + (7 * y + 1) / 19 := by unfold hmo; lia
  have e3 : y * 7 + 1 = 7 * y + 1 := by lia
  rw [e1, e2]
  unfold hmonths
  by_cases h : hleap y = true
  · rw [if_pos h]; rw [hleap_iff, e3] at h; generalize 7 * y + 1 = z at *; lia
  · rw [if_neg h]; rw [hleap_iff, e3] at h; generalize 7 * y + 1 = z at *; lia
theorem hmd_eq (y : Int) : hmd y = (765433 * hmo y + 12084) / 25920 := by unfold hmd; lia
theorem no_two (y : Int) (h : hleap y = true) : hleap (y + 1) = false := by
  rw [hleap_iff] at h
  cases e : hleap (y + 1)
  · rfl
  · rw [hleap_iff, show (y + 1) * 7 + 1 = y * 7 + 1 + 7 by lia] at e
    generalize y * 7 + 1 = z at *
    lia
def pp (v : Int) : Int := if v = 0 ∨ v = 3 ∨ v = 5 then 1 else 0
def xx (l0 l1 : Int) : Int := if l1 = 356 then 2 else if l0 = 382 then 1 else 0
def lenOf (v0 g0 g1 g2 : Int) : Int :=
  g1 + pp ((v0 + g0 + g1) % 7) - pp ((v0 + g0) % 7) + xx (g1 + pp ((v0 + g0 + g1) % 7) - pp ((v0 + g0) % 7)) (g2 + pp ((v0 + g0 + g1 + g2) % 7) - pp ((v0 + g0 + g1) % 7)) - xx (g0 + pp ((v0 + g0) % 7) - pp v0) (g1 + pp ((v0 + g0 + g1) % 7) - pp ((v0 + g0) % 7))
def okLen (g l : Int) : Bool := if g < 380 then l == 353 || l == 354 || l == 355 else l == 383 || l == 384 || l == 385
theorem lenOk : ∀ v0 ∈ ([0, 1, 2, 3, 4, 5, 6] : List Int), ∀ g0 ∈ ([354, 355, 383, 384] : List Int), ∀ g1 ∈ ([354, 355, 383, 384] : List Int), ∀ g2 ∈ ([354, 355, 383, 384] : List Int),
    ((g1 == 355 && g2 == 355) || (decide (g0 > 380) && decide (g1 > 380)) || (decide (g1 > 380) && decide (g2 > 380)) || okLen g1 (lenOf v0 g0 g1 g2)) = true := by decide +kernel
theorem hd1_pp (y : Int) : hd1 y = hmd y + pp ((hmd y + 1) % 7) := by
  unfold hd1 pp
  have h : 0 ≤ (hmd y + 1) % 7 ∧ (hmd y + 1) % 7 < 7 := by lia
  have e : 3 * (hmd y + 1) % 7 = 3 * ((hmd y + 1) % 7) % 7 := by lia
  rw [e]
  generalize (hmd y + 1) % 7 = v at *
  have c : v = 0 ∨ v = 1 ∨ v = 2 ∨ v = 3 ∨ v = 4 ∨ v = 5 ∨ v = 6 := by lia
  rcases c with rfl | rfl | rfl | rfl | rfl | rfl | rfl <;> simp
/-- the step from a year's molad to the next one's, in whole days -/
theorem hmd_step (y : Int) : (hleap y = true ∧ (hmd (y + 1) = hmd y + 383 ∨ hmd (y + 1) = hmd y + 384)) ∨ (hleap y = false ∧ (hmd (y + 1) = hmd y + 354 ∨ hmd (y + 1) = hmd y + 355)) := by
  have h := hmo_step y
  rw [hmd_eq, hmd_eq, h]
  unfold hmonths
  generalize hmo y = k
  cases hleap y
  · right; simp; lia
  · left; simp; lia
/-- two years of 12 months in a row do not both run over -/
theorem hmd_two (y : Int) (h0 : hleap y = false) (h1 : hleap (y + 1) = false) : ¬ (hmd (y + 1) = hmd y + 355 ∧ hmd (y + 1 + 1) = hmd (y + 1) + 355) := by
  have a := hmo_step y
  have b := hmo_step (y + 1)
  rw [hmd_eq, hmd_eq, hmd_eq, b, a]
  unfold hmonths
  generalize hmo y = k
  rw [h0, h1]
  simp
  lia
theorem nyd_gap (y : Int) : (hleap y = true ∧ (ydays y = 383 ∨ ydays y = 384 ∨ ydays y = 385)) ∨ (hleap y = false ∧ (ydays y = 353 ∨ ydays y = 354 ∨ ydays y = 355)) := by
  have s0 := hmd_step (y - 1)
  have s1 := hmd_step y
  have s2 := hmd_step (y + 1)
  have n0 := no_two (y - 1)
  have n1 := no_two y
  have t1 := hmd_two y
  rw [show y - 1 + 1 = y by lia] at s0 n0
  have key : ∀ g0 ∈ ([354, 355, 383, 384] : List Int), ∀ g1 ∈ ([354, 355, 383, 384] : List Int), ∀ g2 ∈ ([354, 355, 383, 384] : List Int),
      hmd y = hmd (y - 1) + g0 → hmd (y + 1) = hmd y + g1 → hmd (y + 1 + 1) = hmd (y + 1) + g2 → (g1 = 355 ∧ g2 = 355 → False) → (g0 > 380 ∧ g1 > 380 → False) → (g1 > 380 ∧ g2 > 380 → False) → okLen g1 (ydays y) = true := by
    intro g0 m0 g1 m1 g2 m2 q0 q1 q2 c1 c2 c3
    have hv : (hmd (y - 1) + 1) % 7 ∈ ([0, 1, 2, 3, 4, 5, 6] : List Int) := by
      simp only [List.mem_cons, List.not_mem_nil, or_false]; lia
    have h := lenOk _ hv g0 m0 g1 m1 g2 m2
    have b1 : (g1 == 355 && g2 == 355) = false := by
      rw [Bool.eq_false_iff]; intro e; simp only [Bool.and_eq_true, beq_iff_eq] at e; exact c1 e
    have b2 : (decide (g0 > 380) && decide (g1 > 380)) = false := by
      rw [Bool.eq_false_iff]; intro e; simp only [Bool.and_eq_true, decide_eq_true_eq] at e; exact c2 e
    have b3 : (decide (g1 > 380) && decide (g2 > 380)) = false := by
      rw [Bool.eq_false_iff]; intro e; simp only [Bool.and_eq_true, decide_eq_true_eq] at e; exact c3 e
    rw [b1, b2, b3] at h
    simp only [Bool.false_or] at h
    have e1 : ((hmd (y - 1) + 1) % 7 + g0) % 7 = (hmd y + 1) % 7 := by lia
    have e2 : ((hmd (y - 1) + 1) % 7 + g0 + g1) % 7 = (hmd (y + 1) + 1) % 7 := by lia
    have e3 : ((hmd (y - 1) + 1) % 7 + g0 + g1 + g2) % 7 = (hmd (y + 1 + 1) + 1) % 7 := by lia
    have f0 : g0 + pp ((hmd y + 1) % 7) - pp ((hmd (y - 1) + 1) % 7) = hd1 y - hd1 (y - 1) := by rw [hd1_pp, hd1_pp]; lia
    have f1 : g1 + pp ((hmd (y + 1) + 1) % 7) - pp ((hmd y + 1) % 7) = hd1 (y + 1) - hd1 y := by rw [hd1_pp, hd1_pp]; lia
    have f2 : g2 + pp ((hmd (y + 1 + 1) + 1) % 7) - pp ((hmd (y + 1) + 1) % 7) = hd1 (y + 1 + 1) - hd1 (y + 1) := by rw [hd1_pp (y + 1 + 1), hd1_pp (y + 1)]; lia
    unfold lenOf at h
    rw [e1, e2, e3, f0, f1, f2] at h
    have e : ydays y = hd1 (y + 1) - hd1 y + xx (hd1 (y + 1) - hd1 y) (hd1 (y + 1 + 1) - hd1 (y + 1)) - xx (hd1 y - hd1 (y - 1)) (hd1 (y + 1) - hd1 y) := by
      unfold ydays nyd hd2 xx
      rw [show y + 1 - 1 = y by lia]
      lia
    rw [e]; exact h
  rcases s1 with ⟨l1, s1⟩ | ⟨l1, s1⟩
  · left
    refine ⟨l1, ?_⟩
    have l2 := n1 l1
    have l0 : hleap (y - 1) = false := by
      cases e : hleap (y - 1)
      · rfl
      · rw [n0 e] at l1; cases l1
    rcases s0 with ⟨e, _⟩ | ⟨_, s0⟩
    · rw [e] at l0; cases l0
    rcases s2 with ⟨e, _⟩ | ⟨_, s2⟩
    · rw [e] at l2; cases l2
    rcases s0 with s0 | s0 <;> rcases s1 with s1 | s1 <;> rcases s2 with s2 | s2 <;>
      (have h := key _ (by simp) _ (by simp) _ (by simp) s0 s1 s2 (by lia) (by lia) (by lia); simpa [okLen, or_assoc] using h)
  · right
    refine ⟨l1, ?_⟩
    have c1 : ∀ g1 g2 : Int, hmd (y + 1) = hmd y + g1 → hmd (y + 1 + 1) = hmd (y + 1) + g2 → (g1 = 355 ∧ g2 = 355 → False) := by
      rintro g1 g2 q1 q2 ⟨rfl, rfl⟩
      rcases s2 with ⟨_, s2⟩ | ⟨l2, _⟩
      · lia
      · exact t1 l1 l2 ⟨q1, q2⟩
    rcases s0 with ⟨_, s0⟩ | ⟨_, s0⟩ <;> rcases s0 with s0 | s0 <;> rcases s1 with s1 | s1 <;> rcases s2 with ⟨_, s2⟩ | ⟨_, s2⟩ <;> rcases s2 with s2 | s2 <;>
      (have h := key _ (by simp) _ (by simp) _ (by simp) s0 s1 s2 (c1 _ _ s1 s2) (by lia) (by lia); simpa [okLen, or_assoc] using h)

def hml (y m : Int) : Int :=
  if m = 2 ∨ m = 4 ∨ m = 6 ∨ m = 10 ∨ m = 13 then 29 else if m = 12 ∧ hleap y = false then 29 else if m = 8 ∧ ydays y % 10 ≠ 5 then 29 else if m = 9 ∧ ydays y % 10 = 3 then 29 else 30
theorem any_iff (m : Int) : ([2, 4, 6, 10, 13].any fun x => x == m) = decide (m = 2 ∨ m = 4 ∨ m = 6 ∨ m = 10 ∨ m = 13) := by
  rw [Bool.eq_iff_iff]
  simp only [List.any_cons, List.any_nil, Bool.or_eq_true, beq_iff_eq, decide_eq_true_eq, Bool.false_eq_true, or_false, eq_comm (b := m)]
section
variable {y m : Int}
theorem hml_1 (h : ([2, 4, 6, 10, 13].any fun x => x == m) = true) : 29 = hml y m := by
  rw [any_iff, decide_eq_true_eq] at h; unfold hml; rw [if_pos h]
theorem hml_5 (e : m = 12) (h : hleap y = false) : 29 = hml y m := by subst e; unfold hml; rw [if_neg (by decide), if_pos ⟨rfl, h⟩]
theorem hml_4 (e : m = 12) (h : hleap y = true) : 30 = hml y m := by subst e; unfold hml; rw [if_neg (by decide), if_neg (by rw [h]; simp), if_neg (by simp), if_neg (by simp)]
theorem hml_6 (e : m = 8) (h : ydays y % 10 ≠ 5) : 29 = hml y m := by subst e; unfold hml; rw [if_neg (by decide), if_neg (by simp), if_pos ⟨rfl, h⟩]
theorem hml_8 (e : m = 8) (h : ydays y % 10 = 5) : 30 = hml y m := by subst e; unfold hml; rw [if_neg (by decide), if_neg (by simp), if_neg (by simp [h]), if_neg (by simp)]
theorem hml_9 (e : m = 9) (h : ydays y % 10 = 3) : 29 = hml y m := by subst e; unfold hml; rw [if_neg (by decide), if_neg (by simp), if_neg (by simp), if_pos ⟨rfl, h⟩]
theorem hml_10 (e : m = 9) (h : ydays y % 10 ≠ 3) : 30 = hml y m := by subst e; unfold hml; rw [if_neg (by decide), if_neg (by simp), if_neg (by simp), if_neg (by simp [h])]
theorem hml_11 (h : ([2, 4, 6, 10, 13].any fun x => x == m) = false) (h1 : m ≠ 12) (h2 : m ≠ 8) (h3 : m ≠ 9) : 30 = hml y m := by
  rw [any_iff, decide_eq_false_iff_not] at h; unfold hml; rw [if_neg h, if_neg (by simp [h1]), if_neg (by simp [h2]), if_neg (by simp [h3])]
end
def hs (y a : Int) : Nat → Int
  | 0 => 0
  | n + 1 => hs y a n + hml y (a + n)
def hoff (y m : Int) : Int := if 7 ≤ m then hs y 7 (m - 7).toNat else hs y 7 (hmonths y - 6).toNat + hs y 1 (m - 1).toNat
def hjd (y m d : Int) : Int := nyd y - 1 + hoff y m + d
def IsH (n y m d : Int) : Prop := 1 ≤ y ∧ 1 ≤ m ∧ m ≤ hmonths y ∧ 1 ≤ d ∧ d ≤ hml y m ∧ hjd y m d = n
theorem hml_bounds (y m : Int) : 29 ≤ hml y m ∧ hml y m ≤ 30 := by
  unfold hml
  repeat' split
  all_goals lia
theorem hmonths_bounds (y : Int) : 12 ≤ hmonths y ∧ hmonths y ≤ 13 := by unfold hmonths; split <;> lia
theorem hs_bounds (y a : Int) (n : Nat) : 0 ≤ hs y a n := by
  induction n with
  | zero => exact Int.le_refl 0
  | succ n ih => have := hml_bounds y (a + n); unfold hs; lia
theorem hoff_bounds (y m : Int) : 0 ≤ hoff y m := by
  have a := hs_bounds y 7 (m - 7).toNat
  have b := hs_bounds y 7 (hmonths y - 6).toNat
  have c := hs_bounds y 1 (m - 1).toNat
  unfold hoff; split <;> lia
theorem hs_succ (y a b : Int) (h : a ≤ b) : hs y a (b + 1 - a).toNat = hs y a (b - a).toNat + hml y b := by
  have e : (b + 1 - a).toNat = (b - a).toNat + 1 := by lia
  rw [e]
  show hs y a (b - a).toNat + hml y (a + ((b - a).toNat : Int)) = _
  rw [show a + ((b - a).toNat : Int) = b by lia]
theorem hoff_succ7 (y m : Int) (h : 7 ≤ m) : hoff y (m + 1) = hoff y m + hml y m := by
  unfold hoff
  rw [if_pos h, if_pos (by lia), hs_succ y 7 m h]
theorem hoff_succ1 (y m : Int) (h : 1 ≤ m) (h6 : m < 6) : hoff y (m + 1) = hoff y m + hml y m := by
  unfold hoff
  rw [if_neg (by lia), if_neg (by lia), hs_succ y 1 m h]
  lia
theorem hoff_one (y : Int) : hoff y 1 = hoff y (hmonths y) + hml y (hmonths y) := by
  have b := hmonths_bounds y
  rw [← hoff_succ7 y _ (by lia)]
  unfold hoff
  rw [if_neg (by lia), if_pos (by lia)]
  have e : hmonths y + 1 - 7 = hmonths y - 6 := by lia
  rw [e]
  show hs y 7 _ + 0 = _
  lia
theorem hoff_seven (y : Int) : hoff y 7 = 0 := rfl
theorem ydays_cases (y : Int) : (hleap y = true ∧ (ydays y = 383 ∨ ydays y = 384 ∨ ydays y = 385)) ∨ (hleap y = false ∧ (ydays y = 353 ∨ ydays y = 354 ∨ ydays y = 355)) := nyd_gap y
theorem hoff_end (y : Int) : hoff y 6 + hml y 6 = ydays y := by
  have g := nyd_gap y
  have s6 : hs y 1 (6 - 1 : Int).toNat = 148 := by
    show 0 + hml y (1 + (0 : Nat)) + hml y (1 + (1 : Nat)) + hml y (1 + (2 : Nat)) + hml y (1 + (3 : Nat)) + hml y (1 + (4 : Nat)) = 148
    unfold hml; simp
  have l6 : hml y 6 = 29 := by unfold hml; simp
  have l8 : hml y 8 = if ydays y % 10 ≠ 5 then 29 else 30 := by unfold hml; simp
  have l9 : hml y 9 = if ydays y % 10 = 3 then 29 else 30 := by unfold hml; simp
  have l7 : hml y 7 = 30 := by unfold hml; simp
  have l10 : hml y 10 = 29 := by unfold hml; simp
  have l11 : hml y 11 = 30 := by unfold hml; simp
  have l13 : hml y 13 = 29 := by unfold hml; simp
  have e12 : hs y 7 6 = hml y 7 + hml y 8 + hml y 9 + hml y 10 + hml y 11 + hml y 12 := by
    show 0 + hml y (7 + (0 : Nat)) + hml y (7 + (1 : Nat)) + hml y (7 + (2 : Nat)) + hml y (7 + (3 : Nat)) + hml y (7 + (4 : Nat)) + hml y (7 + (5 : Nat)) = _
    simp
  have e13 : hs y 7 7 = hs y 7 6 + hml y 13 := by
    show hs y 7 6 + hml y (7 + (6 : Nat)) = _
    simp
  unfold hoff hmonths
  rw [if_neg (by lia), s6]
  rcases g with ⟨l, g⟩ | ⟨l, g⟩
  · have l12 : hml y 12 = 30 := by unfold hml; simp [l]
    rw [if_pos l]
    show hs y 7 7 + 148 + hml y 6 = _
    rw [e13, e12, l6, l7, l8, l9, l10, l11, l12, l13]
    rcases g with g | g | g <;> rw [g] <;> simp
  · have l12 : hml y 12 = 29 := by unfold hml; simp [l]
    rw [if_neg (by rw [l]; simp)]
    show hs y 7 6 + 148 + hml y 6 = _
    rw [e12, l6, l7, l8, l9, l10, l11, l12]
    rcases g with g | g | g <;> rw [g] <;> simp
theorem nyd_low {y : Int} (hy : 0 ≤ y) : 347600 + 354 * y ≤ nyd y := by
  have h1 : hmd y ≤ hd1 y := by unfold hd1; split <;> lia
  have h2 : 0 ≤ hd2 y := by unfold hd2; repeat' split
                            all_goals lia
  have h3 := hmd_eq y
  have h4 : 12 * y - 13 ≤ hmo y := by unfold hmo; lia
  unfold nyd
  lia
theorem nyd_start {n c : Int} (hc : c = (n - 347996) * 98496 / 35975351) : nyd (c - 1) ≤ n := by
  have h1 : hd1 (c - 1) ≤ hmd (c - 1) + 1 := by unfold hd1; split <;> lia
  have h2 : hd2 (c - 1) ≤ 2 := by unfold hd2; repeat' split
                                  all_goals lia
  have h3 := hmd_eq (c - 1)
  have h4 : hmo (c - 1) = (235 * c - 469) / 19 := by unfold hmo; lia
  unfold nyd
  lia
theorem nyd_zero : nyd 0 ≤ 347998 := by decide +kernel
theorem nyd_one : nyd 1 = 347998 := by decide +kernel
theorem nyd_succ (y : Int) : nyd (y + 1) = nyd y + ydays y := by unfold ydays; lia

theorem st1_0 {n c yr : Int} (h : 347998 ≤ n) (hc : c = (n - 347996) * 98496 / 35975351) (hy : yr = c - 1) : yr = c - 1 ∧ 0 ≤ c ∧ 347600 + 354 * c ≤ nyd c ∧ nyd yr ≤ n := by
  have h0 : 0 ≤ c := by lia
  refine ⟨hy, h0, nyd_low h0, ?_⟩
  subst hy; exact nyd_start hc
theorem st1 {n i yr i' yr' : Int} (hi : i' = i + 1) (hy : yr' = yr + 1) (hP : yr = i - 1) (h0 : 0 ≤ i) (ht : nyd i ≤ n) :
    yr' = i' - 1 ∧ 0 ≤ i' ∧ 347600 + 354 * i' ≤ nyd i' ∧ nyd yr' ≤ n := by
  have e : yr' = i := by lia
  have h0 : 0 ≤ i' := by lia
  refine ⟨by lia, h0, nyd_low h0, ?_⟩
  rw [e]; exact ht
theorem yr_pos {n i yr : Int} (h : 347998 ≤ n) (hP : yr = i - 1) (h0 : 0 ≤ i) (ht : n < nyd i) : 1 ≤ yr := by
  by_cases h0 : i = 0
  · subst h0; have := nyd_zero; lia
  · by_cases h1 : i = 1
    · subst h1; rw [nyd_one] at ht; lia
    · lia
def P2 (n yr i mo : Int) : Prop := 1 ≤ yr ∧ mo = i ∧ 1 ≤ i ∧ i ≤ 13 ∧ hjd yr i 1 ≤ n ∧ ((7 ≤ i ∧ i ≤ hmonths yr ∧ n < hjd yr 1 1) ∨ (i ≤ 6 ∧ n < nyd (yr + 1)))
theorem hjd_seven (y : Int) : hjd y 7 1 = nyd y := by unfold hjd; rw [hoff_seven]; lia
theorem st2_0a {n i yr : Int} (h : 347998 ≤ n) (hP : yr = i - 1) (h0 : 0 ≤ i) (hn : nyd yr ≤ n) (ht : n < nyd i) (hl : n < hjd yr 1 1) : P2 n yr 7 7 := by
  have b := hmonths_bounds yr
  refine ⟨yr_pos h hP h0 ht, rfl, by decide, by decide, ?_, Or.inl ⟨by decide, by lia, hl⟩⟩
  rw [hjd_seven]; exact hn
theorem st2_0b {n i yr : Int} (h : 347998 ≤ n) (hP : yr = i - 1) (h0 : 0 ≤ i) (ht : n < nyd i) (hl : hjd yr 1 1 ≤ n) : P2 n yr 1 1 := by
  refine ⟨yr_pos h hP h0 ht, rfl, by decide, by decide, hl, Or.inr ⟨by decide, ?_⟩⟩
  rw [show yr + 1 = i by lia]; exact ht
theorem hjd_day (y m d : Int) : hjd y m d = hjd y m 1 + d - 1 := by unfold hjd; lia
theorem st2 {n yr i mo i' mo' : Int} (e1 : i' = i + 1) (e2 : mo' = mo + 1) (h : P2 n yr i mo) (ht : hjd yr i (hml yr i) < n) : P2 n yr i' mo' := by
  obtain ⟨h1, hm, hi1, hi13, hlo, hc⟩ := h
  subst e1 e2 hm
  have b := hmonths_bounds yr
  rw [hjd_day] at ht
  rcases hc with ⟨c1, c2, c3⟩ | ⟨c1, c2⟩
  · have hlt : mo < hmonths yr := by
      by_cases e : mo = hmonths yr
      · have o := hoff_one yr
        have e3 : hjd yr 1 1 = hjd yr mo 1 + hml yr mo := by
          rw [e]; unfold hjd; rw [o]; lia
        lia
      · lia
    have s := hoff_succ7 yr mo c1
    have e3 : hjd yr (mo + 1) 1 = hjd yr mo 1 + hml yr mo := by unfold hjd; rw [s]; lia
    exact ⟨h1, rfl, by lia, by lia, by lia, Or.inl ⟨by lia, by lia, c3⟩⟩
  · have hlt : mo < 6 := by
      by_cases e : mo = 6
      · subst e
        have o := hoff_end yr
        rw [nyd_succ] at c2
        unfold hjd at ht
        lia
      · lia
    have s := hoff_succ1 yr mo hi1 hlt
    have e3 : hjd yr (mo + 1) 1 = hjd yr mo 1 + hml yr mo := by unfold hjd; rw [s]; lia
    exact ⟨h1, rfl, by lia, by lia, by lia, Or.inr ⟨by lia, c2⟩⟩
theorem P2.mo1 {n yr i mo : Int} (h : P2 n yr i mo) : 1 ≤ mo := by have := h.2.1; have := h.2.2.1; lia
theorem P2.mo13 {n yr i mo : Int} (h : P2 n yr i mo) : mo ≤ 13 := by have := h.2.1; have := h.2.2.2.1; lia
theorem end2 {n yr i mo d : Int} (hd : d = n - hjd yr mo 1 + 1) (h : P2 n yr i mo) (ht : ¬ hjd yr i (hml yr i) < n) : IsH n yr mo d := by
  obtain ⟨h1, hm, hi1, hi13, hlo, hc⟩ := h
  subst hm
  have b := hmonths_bounds yr
  rw [hjd_day] at ht
  refine ⟨h1, hi1, by lia, by lia, by lia, ?_⟩
  rw [hjd_day]; lia
def mB (n : Int) : Int := (n - 584283) / 144000
def mK (n : Int) : Int := (n - 584283) % 144000 / 7200
def mT (n : Int) : Int := (n - 584283) % 144000 % 7200 / 360
def mU (n : Int) : Int := (n - 584283) % 144000 % 7200 % 360 / 20
def mI (n : Int) : Int := (n - 584283) % 144000 % 7200 % 360 % 20
theorem m_jd (n : Int) : 584283 + mB n * 144000 + mK n * 7200 + mT n * 360 + mU n * 20 + mI n = n := by
  have a := Int.mul_ediv_add_emod (n - 584283) 144000
  have b := Int.mul_ediv_add_emod ((n - 584283) % 144000) 7200
  have c := Int.mul_ediv_add_emod ((n - 584283) % 144000 % 7200) 360
  have d := Int.mul_ediv_add_emod ((n - 584283) % 144000 % 7200 % 360) 20
  unfold mB mK mT mU mI
  generalize (n - 584283) % 144000 % 7200 % 360 % 20 = x5 at *
  generalize (n - 584283) % 144000 % 7200 % 360 / 20 = x4 at *
  generalize (n - 584283) % 144000 % 7200 % 360 = y3 at *
  generalize (n - 584283) % 144000 % 7200 / 360 = x3 at *
  generalize (n - 584283) % 144000 % 7200 = y2 at *
  generalize (n - 584283) % 144000 / 7200 = x2 at *
  generalize (n - 584283) % 144000 = y1 at *
  generalize (n - 584283) / 144000 = x1 at *
  lia
theorem m_lc (x : Int) : x / 20 / 18 / 20 / 20 = x / 144000 ∧ x / 20 / 18 / 20 % 20 = x % 144000 / 7200 ∧ x / 20 / 18 % 20 = x % 144000 % 7200 / 360 ∧ x / 20 % 18 = x % 144000 % 7200 % 360 / 20 ∧ x % 20 = x % 144000 % 7200 % 360 % 20 := by
  refine ⟨by lia, by lia, by lia, by lia, by lia⟩
def aY (n : Int) : Int := (n - 1922868) / 365 + 1
def aM (n : Int) : Int := (n - 1922868) % 365 / 30 + 1
def aD (n : Int) : Int := (n - 1922868) % 365 % 30 + 1
theorem a_bounds {n : Int} (h : 1922868 ≤ n) : 1 ≤ aY n ∧ 1 ≤ aM n ∧ aM n ≤ 13 ∧ 1 ≤ aD n ∧ aD n ≤ 30 ∧ (aM n ≤ 12 ∨ aD n ≤ 5) := by
  unfold aY aM aD
  have q1 := Int.emod_nonneg (n - 1922868) (by decide : (365 : Int) ≠ 0)
  have q2 := Int.emod_lt_of_pos (n - 1922868) (by decide : (0 : Int) < 365)
  have q3 : 0 ≤ (n - 1922868) / 365 := Int.ediv_nonneg (by omega) (by decide)
  generalize (n - 1922868) % 365 = p at *
  generalize (n - 1922868) / 365 = r at *
  clear h
  refine ⟨by lia, by lia, by lia, by lia, by lia, by lia⟩
theorem a_jd (n : Int) : 1922502 + 365 * aY n + ((aM n - 1) * 30 + aD n) = n := by
  unfold aY aM aD
  have q1 := Int.mul_ediv_add_emod (n - 1922868) 365
  have q2 := Int.mul_ediv_add_emod ((n - 1922868) % 365) 30
  generalize (n - 1922868) % 365 % 30 = d at *
  generalize (n - 1922868) % 365 / 30 = m at *
  generalize (n - 1922868) % 365 = p at *
  generalize (n - 1922868) / 365 = r at *
  lia
theorem a_from (n : Int) : (n - 1922502 - 1) / 365 = aY n ∧ (n - 1922502 - 1) % 365 / 30 + 1 = aM n ∧ n - 1922502 - 365 * ((n - 1922502 - 1) / 365) - 30 * ((n - 1922502 - 1) % 365 / 30) = aD n := by
  have e : n - 1922502 - 1 = (n - 1922868) + 365 * 1 := by lia
  unfold aY aM aD
  rw [e, Int.add_mul_ediv_left _ _ (by decide), Int.add_mul_emod_self_left]
  refine ⟨rfl, rfl, ?_⟩
  have q1 := Int.mul_ediv_add_emod (n - 1922868) 365
  have q2 := Int.mul_ediv_add_emod ((n - 1922868) % 365) 30
  generalize (n - 1922868) % 365 % 30 = d at *
  generalize (n - 1922868) % 365 / 30 = m at *
  generalize (n - 1922868) % 365 = p at *
  generalize (n - 1922868) / 365 = r at *
  lia
/-- the year within a round of four whose last year is long, by the place; and the one whose third year is long -/
def sIp (p : Int) : Int := if p < 1095 then p / 365 else 3
def fIp (p : Int) : Int := if p < 365 then 0 else if p < 730 then 1 else if p < 1096 then 2 else 3
def fPp (p : Int) : Int := p - 365 * fIp p - (if fIp p = 3 then 1 else 0)
def sI (n : Int) : Int := sIp ((n - 2117212) % 1461)
def sP (n : Int) : Int := (n - 2117212) % 1461 - 365 * sI n
def sY (n : Int) : Int := 533 + 4 * ((n - 2117212) / 1461) + sI n
def sM (n : Int) : Int := sP n / 30 + 1
def sD (n : Int) : Int := sP n % 30 + 1
def fI (n : Int) : Int := fIp ((n - 2375840) % 1461)
def fP (n : Int) : Int := fPp ((n - 2375840) % 1461)
def fY (n : Int) : Int := 1 + 4 * ((n - 2375840) / 1461) + fI n
def fM (n : Int) : Int := fP n / 30 + 1
def fD (n : Int) : Int := fP n % 30 + 1
theorem place (x : Int) : ∃ p : Nat, p < 1461 ∧ x % 1461 = (p : Int) := by
  obtain ⟨p, e⟩ := Int.eq_ofNat_of_zero_le (Int.emod_nonneg x (by decide : (1461 : Int) ≠ 0))
  exact ⟨p, by have := Int.emod_lt_of_pos x (by decide : (0 : Int) < 1461); rw [e] at this; exact Int.ofNat_lt.mp this, e⟩
theorem fr_fin (n : Nat) (h1 : n < 1461) : 0 ≤ fIp n ∧ fIp n ≤ 3 ∧ 0 ≤ fPp n ∧ fPp n ≤ 365 ∧ (fPp n ≤ 364 ∨ fIp n = 2) ∧ (n : Int) = 365 * fIp n + fPp n + (if fIp n = 3 then 1 else 0) := by
  have h0 : (0 : Int) ≤ n := Int.natCast_nonneg n
  have h1 : (n : Int) < 1461 := Int.ofNat_lt.mpr h1
  unfold fPp fIp
  generalize (n : Int) = p at *
  by_cases c1 : p < 365
  · rw [if_pos c1, if_neg (by decide)]; clear h1; lia
  · by_cases c2 : p < 730
    · rw [if_neg c1, if_pos c2, if_neg (by decide)]; clear h0 h1; lia
    · by_cases c3 : p < 1096
      · rw [if_neg c1, if_neg c2, if_pos c3, if_neg (by decide)]; clear h0 h1 c1; lia
      · rw [if_neg c1, if_neg c2, if_neg c3, if_pos rfl]; clear h0 c1 c2; lia
theorem fr_bounds {n : Int} (h : 2375840 ≤ n) : 1 ≤ fY n ∧ 1 ≤ fM n ∧ fM n ≤ 13 ∧ 1 ≤ fD n ∧ fD n ≤ 30 ∧ (fM n ≤ 12 ∨ fD n ≤ 5 ∨ (fD n ≤ 6 ∧ fY n % 4 = 3)) := by
  unfold fY fM fD fP fI
  obtain ⟨p, hp, e⟩ := place (n - 2375840)
  have hr : 0 ≤ (n - 2375840) / 1461 := Int.ediv_nonneg (by omega) (by decide)
  rw [e]
  obtain ⟨a1, a2, a3, a4, a5, _⟩ := fr_fin p hp
  generalize fIp p = i at *
  generalize fPp p = q at *
  generalize (n - 2375840) / 1461 = r at *
  clear e hp
  refine ⟨by lia, by lia, by lia, by lia, by lia, ?_⟩
  rcases a5 with a5 | a5
  · have : q / 30 ≤ 11 ∨ q % 30 + 1 ≤ 5 := by lia
    lia
  · subst a5; lia
theorem fr_jd {n : Int} (h : 2375840 ≤ n) : fY n / 4 * 1461 + fY n % 4 * 365 - 365 + (fM n - 1) * 30 + fD n = n - 2375839 := by
  have e0 := Int.mul_ediv_add_emod (n - 2375840) 1461
  unfold fY fM fD fP fI
  obtain ⟨p, hp, e⟩ := place (n - 2375840)
  rw [e] at e0 ⊢
  obtain ⟨a1, a2, a3, a4, a5, a6⟩ := fr_fin p hp
  generalize fIp p = i at *
  generalize fPp p = q at *
  generalize (n - 2375840) / 1461 = r at *
  clear e hp h
  by_cases c : i = 3
  · subst c; rw [if_pos rfl] at a6; lia
  · rw [if_neg c] at a6; lia
theorem sark_fin (n : Nat) (h1 : n < 1461) : (fun y d : Int => (d = 0 ∧ y = 4 ∧ sIp n = 3 ∧ (n : Int) - 365 * sIp n = 365) ∨ (d ≠ 0 ∧ y = sIp n ∧ (n : Int) - 365 * sIp n = d - 1 ∧ 0 ≤ (n : Int) - 365 * sIp n))
    (4 * ((n : Int) + 1) / 1461) ((n : Int) + 1 - (365 * (4 * ((n : Int) + 1) / 1461) + 4 * ((n : Int) + 1) / 1461 / 4)) := by
  have h0 : (0 : Int) ≤ n := Int.natCast_nonneg n
  have h1 : (n : Int) < 1461 := Int.ofNat_lt.mpr h1
  unfold sIp
  generalize (n : Int) = p at *
  by_cases c : p = 1460
  · subst c; decide
  · have e : 4 * (p + 1) / 1461 = (if p < 1095 then p / 365 else 3) := by
      split <;> lia
    rw [e]
    by_cases c1 : p < 1095
    · simp only [if_pos c1]
      have q1 := Int.mul_ediv_add_emod p 365
      have q2 := Int.emod_nonneg p (by decide : (365 : Int) ≠ 0)
      have q3 : 0 ≤ p / 365 ∧ p / 365 < 4 := by clear e q1 q2; lia
      generalize p % 365 = m at *
      generalize p / 365 = z at *
      have q4 : z / 4 = 0 := by clear e q1 q2; lia
      rw [q4]
      exact .inr ⟨by lia, by first | rfl | trivial, by lia, by lia⟩
    · simp only [if_neg c1]
      exact .inr ⟨by lia, by first | rfl | trivial, by lia, by lia⟩
theorem sark {n dc yrs yd : Int} (h : dc = n - 2117211) (h0 : 2117212 ≤ n) (hy : yrs = 4 * dc / 1461) (hd : yd = dc - (365 * yrs + yrs / 4)) :
    (yd = 0 ∧ yrs = 4 * ((n - 2117212) / 1461) + 4 ∧ sI n = 3 ∧ sP n = 365) ∨ (yd ≠ 0 ∧ yrs = 4 * ((n - 2117212) / 1461) + sI n ∧ sP n = yd - 1 ∧ 0 ≤ sP n) := by
  have e0 := Int.mul_ediv_add_emod (n - 2117212) 1461
  unfold sP sI
  obtain ⟨p, hp, e⟩ := place (n - 2117212)
  rw [e] at e0 ⊢
  have q := sark_fin p hp
  have hdc : 4 * dc = 4 * ((p : Int) + 1) + 1461 * (4 * ((n - 2117212) / 1461)) := by lia
  have hyr : yrs = 4 * ((n - 2117212) / 1461) + 4 * ((p : Int) + 1) / 1461 := by
    rw [hy, hdc, Int.add_mul_ediv_left _ _ (by decide)]; exact Int.add_comm _ _
  generalize (n - 2117212) / 1461 = r at *
  generalize 4 * ((p : Int) + 1) / 1461 = z at *
  have hyd : yd = (p : Int) + 1 - (365 * z + z / 4) := by lia
  generalize z / 4 = z4 at *
  generalize sIp p = si at *
  clear e hp hdc hy hd h h0
  rcases q with ⟨q1, q2, q3, q4⟩ | ⟨q1, q2, q3, q4⟩
  · exact .inl ⟨by lia, by lia, q3, q4⟩
  · exact .inr ⟨by lia, by lia, by lia, q4⟩
theorem s_fin (m : Nat) (h1 : m < 1461) : 0 ≤ sIp m ∧ sIp m ≤ 3 ∧ 0 ≤ (m : Int) - 365 * sIp m ∧ (m : Int) - 365 * sIp m ≤ 365 ∧ ((m : Int) - 365 * sIp m ≤ 364 ∨ sIp m = 3) := by
  have h0 : (0 : Int) ≤ m := Int.natCast_nonneg m
  have h1 : (m : Int) < 1461 := Int.ofNat_lt.mpr h1
  unfold sIp
  generalize (m : Int) = p at *
  by_cases c : p < 1095
  · rw [if_pos c]; clear h1; lia
  · rw [if_neg c]; clear h0; lia
theorem sa_bounds {n : Int} (h : 2117212 ≤ n) : 533 ≤ sY n ∧ 1 ≤ sM n ∧ sM n ≤ 13 ∧ 1 ≤ sD n ∧ sD n ≤ 30 ∧ (sM n ≤ 12 ∨ sD n ≤ 6) ∧ (sM n ≤ 12 ∨ sD n ≤ 5 ∨ sY n % 4 = 0) := by
  have hr : 0 ≤ (n - 2117212) / 1461 := Int.ediv_nonneg (by omega) (by decide)
  unfold sY sM sD sP sI
  obtain ⟨p, hp, e⟩ := place (n - 2117212)
  rw [e]
  obtain ⟨a1, a2, a3, a4, a5⟩ := s_fin p hp
  generalize (p : Int) - 365 * sIp p = q at *
  generalize sIp p = i at *
  generalize (n - 2117212) / 1461 = r at *
  clear e hp h
  refine ⟨by lia, by lia, by lia, by lia, by lia, by lia, ?_⟩
  rcases a5 with a5 | a5
  · have : q / 30 ≤ 11 ∨ q % 30 + 1 ≤ 5 := by clear hr a1 a2; lia
    lia
  · subst a5; lia
theorem sa_jd (n : Int) : 2117211 + 365 * (sY n - 533) + (sY n - 533) / 4 + ((sM n - 1) * 30 + sD n) = n := by
  have e0 := Int.mul_ediv_add_emod (n - 2117212) 1461
  unfold sY sM sD sP sI
  obtain ⟨p, hp, e⟩ := place (n - 2117212)
  rw [e] at e0 ⊢
  obtain ⟨a1, a2, a3, a4, a5⟩ := s_fin p hp
  have q2 := Int.mul_ediv_add_emod ((p : Int) - 365 * sIp p) 30
  generalize ((p : Int) - 365 * sIp p) / 30 = m at *
  generalize ((p : Int) - 365 * sIp p) % 30 = d at *
  generalize sIp p = i at *
  generalize (n - 2117212) / 1461 = r at *
  have e4 : (533 + 4 * r + i - 533) / 4 = r := by clear a3 a4 a5 q2 e0; lia
  rw [e4]
  lia
theorem s_from0 {n dc yrs yd : Int} (h : dc = n - 2117211) (h0 : 2117212 ≤ n) (hy : yrs = 4 * dc / 1461) (hd : yd = dc - (365 * yrs + yrs / 4)) (hz : yd = 0) : yrs - 1 + 533 = sY n ∧ yrs % 4 = 0 ∧ sM n = 13 ∧ sD n = 6 := by
  rcases sark h h0 hy hd with ⟨_, q2, q3, q4⟩ | ⟨q1, _⟩
  · unfold sY sM sD
    rw [q3, q4]
    generalize (n - 2117212) / 1461 = r at *
    clear hd hy h
    exact ⟨by lia, by lia, by decide, by decide⟩
  · exact absurd hz q1
theorem s_from1 {n dc yrs yd : Int} (h : dc = n - 2117211) (h0 : 2117212 ≤ n) (hy : yrs = 4 * dc / 1461) (hd : yd = dc - (365 * yrs + yrs / 4)) (hz : yd ≠ 0) : yrs + 533 = sY n ∧ (yd - 1) / 30 + 1 = sM n ∧ yd - 30 * ((yd - 1) / 30) = sD n ∧ 0 ≤ yd - 1 := by
  rcases sark h h0 hy hd with ⟨q1, _⟩ | ⟨_, q2, q3, q4⟩
  · exact absurd q1 hz
  · unfold sY sM sD
    rw [q3] at q4 ⊢
    have q5 := Int.mul_ediv_add_emod (yd - 1) 30
    generalize (n - 2117212) / 1461 = r at *
    generalize (yd - 1) / 30 = a at *
    generalize (yd - 1) % 30 = b at *
    generalize sI n = i at *
    clear hd hy h
    exact ⟨by lia, rfl, by lia, q4⟩
theorem fjs_fin (n : Nat) (h1 : n < 1461) : (fun z m : Int => (m = 1460 → 1 + fIp n = z * 4 + 3 ∧ fPp n / 30 + 1 = 13 ∧ fPp n % 30 + 1 = 6) ∧ (m ≠ 1460 → 1 + fIp n = z * 4 + m / 365 ∧ fPp n / 30 = m % 365 / 30 ∧ fPp n % 30 = m % 365 % 30))
    (((n : Int) + 365) / 1461) (((n : Int) + 365) % 1461) := by
  have h0 : (0 : Int) ≤ n := Int.natCast_nonneg n
  have h1 : (n : Int) < 1461 := Int.ofNat_lt.mpr h1
  unfold fPp fIp
  generalize (n : Int) = p at *
  by_cases c3 : p < 1096
  · have e1 : (p + 365) / 1461 = 0 := by lia
    have e2 : (p + 365) % 1461 = p + 365 := by lia
    rw [e1, e2]
    clear e1 e2 h1
    refine ⟨fun hm => ?_, fun hm => ?_⟩
    · have hp : p = 1095 := by lia
      subst hp; decide
    · by_cases c1 : p < 365
      · rw [if_pos c1, if_neg (by decide)]
        have e : (p + 365) / 365 = 1 ∧ (p + 365) % 365 = p := by lia
        rw [e.1, e.2]; simp
      · by_cases c2 : p < 730
        · rw [if_neg c1, if_pos c2, if_neg (by decide)]
          have e : (p + 365) / 365 = 2 ∧ (p + 365) % 365 = p - 365 := by lia
          rw [e.1, e.2]; simp
        · rw [if_neg c1, if_neg c2, if_pos c3, if_neg (by decide)]
          have e : (p + 365) / 365 = 3 ∧ (p + 365) % 365 = p - 730 := by lia
          rw [e.1, e.2]; simp
  · have e1 : (p + 365) / 1461 = 1 := by lia
    have e2 : (p + 365) % 1461 = p - 1096 := by lia
    rw [e1, e2, if_neg (by lia), if_neg (by lia), if_neg c3, if_pos rfl]
    clear e1 e2
    refine ⟨fun hm => by lia, fun hm => ?_⟩
    have e : (p - 1096) / 365 = 0 ∧ (p - 1096) % 365 = p - 1096 := by lia
    rw [e.1, e.2, show p - 365 * 3 - 1 = p - 1096 by lia]; simp
theorem fjs {n J1 J2 : Int} (_h : 2375840 ≤ n) (h1 : J1 = n - 2375840) (h2 : J2 = J1 + 365) :
    (J2 % 1461 = 1460 → fY n = J2 / 1461 * 4 + 3 ∧ fM n = 13 ∧ fD n = 6) ∧ (J2 % 1461 ≠ 1460 → fY n = J2 / 1461 * 4 + J2 % 1461 / 365 ∧ fM n = J2 % 1461 % 365 / 30 + 1 ∧ fD n = J2 % 1461 % 365 % 30 + 1) := by
  have e0 := Int.mul_ediv_add_emod (n - 2375840) 1461
  unfold fY fM fD fP fI
  obtain ⟨p, hp, e⟩ := place (n - 2375840)
  rw [e] at e0 ⊢
  have q := fjs_fin p hp
  have hJ : J2 = ((p : Int) + 365) + 1461 * ((n - 2375840) / 1461) := by lia
  have q1 : J2 / 1461 = ((p : Int) + 365) / 1461 + (n - 2375840) / 1461 := by rw [hJ, Int.add_mul_ediv_left _ _ (by decide)]
  have q2 : J2 % 1461 = ((p : Int) + 365) % 1461 := by rw [hJ, Int.add_mul_emod_self_left]
  rw [q1, q2]
  generalize (n - 2375840) / 1461 = r at *
  generalize ((p : Int) + 365) / 1461 = z at *
  generalize ((p : Int) + 365) % 1461 = k at *
  clear e hp hJ q1 q2
  refine ⟨fun hk => ?_, fun hk => ?_⟩
  · obtain ⟨a, b, c⟩ := q.1 hk
    exact ⟨by lia, b, c⟩
  · obtain ⟨a, b, c⟩ := q.2 hk
    exact ⟨by lia, by rw [b], by rw [c]⟩
theorem jan_gt {n yr : Int} (h : n < jan yr) : gY n < yr := by
  by_cases c : yr ≤ gY n
  · have h1 := gY_spec n
    by_cases e : yr = gY n
    · subst e; lia
    · have := jan_lt (a := yr) (b := gY n) (by lia); lia
  · lia
theorem jan_le {n yr : Int} (h : jan yr ≤ n) : yr ≤ gY n := jan_mono_le h (gY_spec n).2
theorem gY_eq {n yr : Int} (h1 : yr ≤ gY n) (h2 : n < jan (yr + 1)) : yr = gY n := by
  have := jan_gt h2; lia
def cum (y m : Int) : Int := (367 * m - 362) / 12 + gadj y m
theorem cum_fin : ∀ l : Bool, ∀ k : Nat, k < 12 → 1 ≤ k → (fun m : Int => (367 * (m + 1) - 362) / 12 + (if m + 1 ≤ 2 then 0 else if l = true then -1 else -2) =
    (367 * m - 362) / 12 + (if m ≤ 2 then 0 else if l = true then -1 else -2) + (if m = 2 then (if l = true then 29 else 28) else if m = 4 ∨ m = 6 ∨ m = 9 ∨ m = 11 then 30 else 31)) (k : Int) := by decide +kernel
theorem cum_step {y m : Int} (h1 : 1 ≤ m) (h2 : m ≤ 11) : cum y (m + 1) = cum y m + mlen y m := by
  obtain ⟨k, rfl⟩ := Int.eq_ofNat_of_zero_le (show 0 ≤ m by lia)
  exact cum_fin (isleapF y) k (by lia) (by lia)
theorem cum_end (y : Int) : cum y 12 + mlen y 12 = jan (y + 1) - jan y := by
  rw [jan_succ]; unfold cum gadj mlen
  by_cases l : isleapF y = true <;> simp only [l] <;> simp <;> lia
theorem mlen_pos (y m : Int) : 28 ≤ mlen y m := by
  unfold mlen
  repeat' split
  all_goals lia
theorem cum_mono {y k m : Int} (hk : 1 ≤ k) (h : k < m) (hm : m ≤ 12) : cum y k + mlen y k ≤ cum y m := by
  have key : ∀ j : Nat, k + 1 + (j : Int) ≤ 12 → cum y k + mlen y k ≤ cum y (k + 1 + j) := by
    intro j
    induction j with
    | zero => intro h; have := cum_step (y := y) hk (by lia); simp; lia
    | succ j ih =>
      intro h
      have a := ih (by lia)
      have b := cum_step (y := y) (m := k + 1 + j) (by lia) (by lia)
      have c := mlen_pos y (k + 1 + j)
      have e : k + 1 + ((j + 1 : Nat) : Int) = k + 1 + j + 1 := by lia
      rw [e]; lia
  have := key (m - k - 1).toNat (by lia)
  rw [show k + 1 + ((m - k - 1).toNat : Int) = m by lia] at this
  exact this
theorem gd_uniq {n k d : Int} (h1 : 1 ≤ k) (h2 : k ≤ 12) (hd : 0 < d) (hl : d ≤ mlen (gY n) k) (he : d = n - jan (gY n) + 1 - cum (gY n) k) : k = gM n ∧ d = gD n := by
  obtain ⟨a, b, c, e⟩ := gM_spec n
  have f : gD n = n - jan (gY n) + 1 - cum (gY n) (gM n) := by unfold gD gjd cum; lia
  have q : k = gM n := by
    rcases Int.lt_trichotomy k (gM n) with h | h | h
    · have := cum_mono (y := gY n) h1 h b; lia
    · exact h
    · have := cum_mono (y := gY n) a h h2; lia
  subst q
  exact ⟨rfl, by lia⟩
/-- the law's own list of lengths, read at a place -/
def lens (y : Int) : List Int := [31, jan (y + 1) - jan y - 337, 31, 30, 31, 30, 31, 31, 30, 31, 30, 31]
theorem lens_fin : ∀ l : Bool, ∀ k : Nat, k < 13 → 1 ≤ k → ([31, (if l = true then 29 else 28), 31, 30, 31, 30, 31, 31, 30, 31, 30, 31] : List Int).getD ((k : Int) - 1).toNat 0 =
    (if (k : Int) = 2 then (if l = true then 29 else 28) else if (k : Int) = 4 ∨ (k : Int) = 6 ∨ (k : Int) = 9 ∨ (k : Int) = 11 then 30 else 31) := by decide +kernel
theorem lens_at {y k : Int} (h1 : 1 ≤ k) (h2 : k ≤ 12) : (lens y).getD (k - 1).toNat 0 = mlen y k := by
  obtain ⟨j, rfl⟩ := Int.eq_ofNat_of_zero_le (show 0 ≤ k by lia)
  have e : jan (y + 1) - jan y - 337 = (if isleapF y = true then 29 else 28) := by
    rw [jan_succ]; split <;> lia
  unfold lens mlen
  rw [e]
  exact lens_fin (isleapF y) j (by lia) (by lia)
def PD (n k d : Int) : Prop := 1 ≤ k ∧ k ≤ 12 ∧ 0 < d ∧ d = n - jan (gY n) + 1 - cum (gY n) k
theorem PD.start {n d : Int} (h : d = n - jan (gY n) + 1) : PD n 1 d := by
  have := gY_spec n
  have e : cum (gY n) 1 = 0 := by unfold cum gadj; simp
  exact ⟨by decide, by decide, by lia, by lia⟩
theorem PD.step {n k d k' d' : Int} (e1 : d' = d - mlen (gY n) k) (e2 : k' = k + 1) (h : PD n k d) (ht : mlen (gY n) k < d) : PD n k' d' := by
  obtain ⟨h1, h2, h3, h4⟩ := h
  subst e1 e2
  have hs := gY_spec n
  have hk : k ≠ 12 := by
    rintro rfl
    have := cum_end (gY n); lia
  have := cum_step (y := gY n) h1 (by lia)
  exact ⟨by lia, by lia, by lia, by lia⟩
theorem PD.fin {n k d : Int} (h : PD n k d) (ht : ¬ mlen (gY n) k < d) : k = gM n ∧ d = gD n := by
  obtain ⟨h1, h2, h3, h4⟩ := h
  exact gd_uniq h1 h2 h3 (by lia) h4
theorem gjd_dec28 (y : Int) : gjd (y - 1) 12 28 = jan y - 4 := by
  have j := jan_succ (y - 1)
  rw [show y - 1 + 1 = y by lia] at j
  unfold gjd gadj
  by_cases l : isleapF (y - 1) = true <;> simp only [l, if_true, if_false, Bool.false_eq_true] at * <;> simp <;> lia
theorem iso_back {T m : Int} (hT : T = m - m % 7 + 3) : m % 7 + 1 + (7 * ((T - jan (gY T)) / 7 + 1) + (gjd (gY T - 1) 12 28 - 1 - (gjd (gY T - 1) 12 28 - 1 - 6) % 7)) = m := by
  rw [gjd_dec28]
  have h := gY_spec T
  generalize jan (gY T) = J at *
  lia
theorem iso_week (T : Int) : 0 < (T - jan (gY T)) / 7 + 1 := by
  have h := gY_spec T
  lia
def PS (n yr pl : Int) : Prop := ∃ j : Int, 0 ≤ j ∧ j ≤ 3 ∧ yr = 533 + 4 * ((n - 2117212) / 1461) + j ∧ pl = (n - 2117212) % 1461 - 365 * j ∧ 0 ≤ pl
theorem PS.start {n r p yr : Int} (h1 : r = (n - 2117212) / 1461) (h2 : p = (n - 2117212) % 1461) (h3 : yr = 533 + 4 * r) : PS n yr p :=
  ⟨0, by decide, by decide, by rw [h3, h1, Int.add_zero], by rw [h2, Int.mul_zero, Int.sub_zero], by rw [h2]; exact Int.emod_nonneg _ (by decide)⟩
theorem PS.step {n yr pl yr' pl' k : Int} (e1 : pl' = pl - k) (e2 : yr' = yr + 1) (h : PS n yr pl) (hk : k = if yr % 4 = 0 then 366 else 365) (ht : k ≤ pl) : PS n yr' pl' ∧ yr' ≤ 536 + 4 * ((n - 2117212) / 1461) := by
  obtain ⟨j, h0, h3, hy, hp, hq⟩ := h
  have hb := Int.emod_lt_of_pos (n - 2117212) (by decide : (0 : Int) < 1461)
  unfold PS
  generalize (n - 2117212) % 1461 = p at *
  generalize (n - 2117212) / 1461 = r at *
  have hm : yr % 4 = (1 + j) % 4 := by lia
  by_cases c : j = 3
  · subst c; rw [hm] at hk; rw [hk] at ht; simp only [Int.reduceAdd, Int.reduceMod, if_true] at ht; lia
  · have hk' : k = 365 := by rw [hk, if_neg (by lia)]
    clear hk hm hq
    subst hk' hy hp e1 e2
    exact ⟨⟨j + 1, by lia, by lia, by lia, by lia, by lia⟩, by lia⟩
theorem PS_fin (i : Nat) (h3 : i < 4) (n : Nat) (h1 : n < 1461) (h : 0 ≤ (n : Int) - 365 * i) (ht : ¬ (if (1 + (i : Int)) % 4 = 0 then 366 else 365) ≤ (n : Int) - 365 * i) : sIp n = i := by
  have h0 : (0 : Int) ≤ i := Int.natCast_nonneg i
  have h3 : (i : Int) < 4 := Int.ofNat_lt.mpr h3
  unfold sIp
  generalize (n : Int) = p at *
  generalize (i : Int) = j at *
  by_cases c : j = 3
  · subst c; rw [if_neg (by lia)]
  · rw [if_neg (by lia)] at ht
    rw [if_pos (by lia)]
    lia
theorem PS.fin {n yr pl : Int} (h : PS n yr pl) (ht : ¬ (if yr % 4 = 0 then 366 else 365) ≤ pl) : yr = sY n ∧ pl = sP n := by
  obtain ⟨j, h0, h3, hy, hp, hq⟩ := h
  obtain ⟨p, hpl, e⟩ := place (n - 2117212)
  obtain ⟨i, rfl⟩ := Int.eq_ofNat_of_zero_le h0
  have hm : yr % 4 = (1 + (i : Int)) % 4 := by clear hp hq ht e; generalize (n - 2117212) / 1461 = r at *; lia
  unfold sY sP sI
  rw [e] at hp ⊢
  rw [hm, hp] at ht
  rw [PS_fin i (by lia) p hpl (by rw [← hp]; exact hq) ht]
  exact ⟨hy, hp⟩
theorem PS.lo {n yr pl : Int} (h : PS n yr pl) : yr ≤ 536 + 4 * ((n - 2117212) / 1461) := by
  obtain ⟨j, h0, h3, hy, hp, hq⟩ := h; clear hp hq; generalize (n - 2117212) / 1461 = r at *; lia
def PF (n yr pl : Int) : Prop := ∃ j : Int, 0 ≤ j ∧ j ≤ 3 ∧ yr = 1 + 4 * ((n - 2375840) / 1461) + j ∧ pl = (n - 2375840) % 1461 - 365 * j - (if j = 3 then 1 else 0) ∧ 0 ≤ pl
theorem PF.start {n r p yr : Int} (h1 : r = (n - 2375840) / 1461) (h2 : p = (n - 2375840) % 1461) (h3 : yr = 1 + 4 * r) : PF n yr p :=
  ⟨0, by decide, by decide, by rw [h3, h1, Int.add_zero], by rw [h2, Int.mul_zero, Int.sub_zero, if_neg (by decide), Int.sub_zero], by rw [h2]; exact Int.emod_nonneg _ (by decide)⟩
theorem PF_step (i : Nat) (h3 : i < 4) (n : Nat) (h1 : n < 1461) : (fun k : Int => k ≤ (n : Int) - 365 * i - (if (i : Int) = 3 then 1 else 0) → i < 3 ∧ (n : Int) - 365 * i - (if (i : Int) = 3 then 1 else 0) - k = (n : Int) - 365 * ((i : Int) + 1) - (if (i : Int) + 1 = 3 then 1 else 0))
    (if (1 + (i : Int)) % 4 = 3 then 366 else 365) := by
  have h1 : (n : Int) < 1461 := Int.ofNat_lt.mpr h1
  generalize (n : Int) = p at *
  rcases (by lia : i = 0 ∨ i = 1 ∨ i = 2 ∨ i = 3) with rfl | rfl | rfl | rfl
  · simp
  · simp; lia
  · simp; lia
  · simp; lia
theorem PF.step {n yr pl yr' pl' k : Int} (e1 : pl' = pl - k) (e2 : yr' = yr + 1) (h : PF n yr pl) (hk : k = if yr % 4 = 3 then 366 else 365) (ht : k ≤ pl) : PF n yr' pl' ∧ yr' ≤ 4 + 4 * ((n - 2375840) / 1461) := by
  obtain ⟨j, h0, h3, hy, hp, hq⟩ := h
  obtain ⟨p, hpl, e⟩ := place (n - 2375840)
  obtain ⟨i, rfl⟩ := Int.eq_ofNat_of_zero_le h0
  have hm : yr % 4 = (1 + (i : Int)) % 4 := by clear hp hq ht e; generalize (n - 2375840) / 1461 = r at *; lia
  unfold PF
  rw [e] at hp ⊢
  rw [hm] at hk
  have q := PF_step i (by lia) p hpl (by rw [← hk, ← hp]; exact ht)
  rw [← hk, ← hp, ← e1] at q
  clear hp hm e
  generalize (n - 2375840) / 1461 = r at *
  refine ⟨⟨(i : Int) + 1, by lia, by lia, by lia, q.2, by lia⟩, by lia⟩
theorem PF_fin (i : Nat) (h3 : i < 4) (n : Nat) (_h1 : n < 1461) (h : 0 ≤ (n : Int) - 365 * i - (if (i : Int) = 3 then 1 else 0)) (ht : ¬ (if (1 + (i : Int)) % 4 = 3 then 366 else 365) ≤ (n : Int) - 365 * i - (if (i : Int) = 3 then 1 else 0)) : fIp n = i := by
  unfold fIp
  generalize (n : Int) = p at *
  rcases (by lia : i = 0 ∨ i = 1 ∨ i = 2 ∨ i = 3) with rfl | rfl | rfl | rfl
  · simp at ht ⊢; lia
  · simp at h ht ⊢; rw [if_neg (by lia), if_pos (by lia)]
  · simp at h ht ⊢; rw [if_neg (by lia), if_neg (by lia), if_pos (by lia)]
  · simp at h ht ⊢; rw [if_neg (by lia), if_neg (by lia), if_neg (by lia)]
theorem PF.fin {n yr pl : Int} (h : PF n yr pl) (ht : ¬ (if yr % 4 = 3 then 366 else 365) ≤ pl) : yr = fY n ∧ pl = fP n := by
  obtain ⟨j, h0, h3, hy, hp, hq⟩ := h
  obtain ⟨p, hpl, e⟩ := place (n - 2375840)
  obtain ⟨i, rfl⟩ := Int.eq_ofNat_of_zero_le h0
  have hm : yr % 4 = (1 + (i : Int)) % 4 := by clear hp hq ht e; generalize (n - 2375840) / 1461 = r at *; lia
  unfold fY fP fI fPp
  rw [e] at hp ⊢
  rw [hm, hp] at ht
  rw [PF_fin i (by lia) p hpl (by rw [← hp]; exact hq) ht]
  exact ⟨hy, hp⟩
theorem PF.lo {n yr pl : Int} (h : PF n yr pl) : yr ≤ 4 + 4 * ((n - 2375840) / 1461) := by
  obtain ⟨j, h0, h3, hy, hp, hq⟩ := h; clear hp hq; generalize (n - 2375840) / 1461 = r at *; lia
theorem ms_s {n y z : Int} (hz : z = y + 1) (h : y ≤ 536 + 4 * ((n - 2117212) / 1461)) : (550 + 4 * ((n - 2117212) / 1461) - z).toNat < (550 + 4 * ((n - 2117212) / 1461) - y).toNat := by
  subst hz; generalize 4 * ((n - 2117212) / 1461) = r at *; omega
theorem ms_f {n y z : Int} (hz : z = y + 1) (h : y ≤ 4 + 4 * ((n - 2375840) / 1461)) : (50 + 4 * ((n - 2375840) / 1461) - z).toNat < (50 + 4 * ((n - 2375840) / 1461) - y).toNat := by
  subst hz; generalize 4 * ((n - 2375840) / 1461) = r at *; omega
end Mine
open PySem PySem.W PyProof.Rows
namespace Mine
set_option maxHeartbeats 8000000
local macro_rules | `(tactic| o_head $_H) => `(tactic| assumption)
theorem kk (h : PySem.Challenge.rw_jk0007_01.row.Holds) : PySem.Challenge.rw_jk0007_01.row.Holds := by
  k_head
noncomputable section
/-- the law's program, and what of its top the walk knows -/
abbrev pw9 : Program := PySem.Challenge.rw_jk0007_01.row.toRowW.1
def view9 : Program := PySem.W.view pw9 [1,2,3,4,5,6,7,8,9,10,12,13,14,15,16,17,18,19,20,21,23,25,27,28,29,30,31,32,33,34,35,36,37,39,40,41,42,43,44,45,47,49,51,53,54,56,58,60,62,64,66,67,70,72,74,76,78,80,81,82,83,85,87,88,90,91,93,95,97,98,99,100,101,103,104,105,106,107,108,109]
def loose9 : List Str := [Str.ofString "to_jd_gregorian", Str.ofString "from_jd", Str.ofString "from_jd_gregorian", Str.ofString "leap", Str.ofString "leap_hebrew", Str.ofString "to_jd_hebrew", Str.ofString "from_jd_hebrew", Str.ofString "from_gregorian", Str.ofString "from_gregorian_hebrew", Str.ofString "to_gregorian_hebrew", Str.ofString "to_jd_mayan", Str.ofString "from_jd_mayan", Str.ofString "to_gregorian_mayan", Str.ofString "from_gregorian_mayan", Str.ofString "_valid_date", Str.ofString "leap_armenian", Str.ofString "to_jd_armenian", Str.ofString "from_jd_armenian", Str.ofString "to_gregorian_armenian", Str.ofString "from_gregorian_armenian", Str.ofString "leap_french_republican", Str.ofString "to_jd_french_republican", Str.ofString "from_jd_french_republican", Str.ofString "from_gregorian_french_republican", Str.ofString "to_gregorian_french_republican", Str.ofString "to_jd_iso", Str.ofString "to_gregorian_iso"]
abbrev env9 : Env := { scope := pw9.main.scope, locals := mainNs, globals := mainNs, cells := [], code := Value.ref 13, frame := some 14 }
abbrev cd9 : Code := Code.body (behindTheImports pw9) env9
abbrev z9 : Pos := { line := 0, col := 0, endLine := 0, endCol := 0 }
abbrev y9 : Pos := { line := 440, col := 0, endLine := 484, endCol := 112 }
/-- an object of the written part; the record that a def's code keeps of it -/
def q0 (P : Params) : Frag := Mine.kk.heap_1 P
def q1 (P : Params) : Frag := (q0 P).drop 32
def q2 (P : Params) : Frag := (q1 P).drop 32
def q3 (P : Params) : Frag := (q2 P).drop 32
def q4 (P : Params) : Frag := (q3 P).drop 32
def q5 (P : Params) : Frag := (q4 P).drop 32
def q6 (P : Params) : Frag := (q5 P).drop 32
def q7 (P : Params) : Frag := (q6 P).drop 32
def q8 (P : Params) : Frag := (q7 P).drop 32
def kO (l : Frag) (r : Nat) : Obj := match l.drop r with
  | p :: _ => p.2
  | [] => default
def tO (l : Frag) (r : Nat) : Obj := match (kO l r).data with
  | .func f => { cls := .none, data := .func { name := f.name, qualname := f.qualname, params := f.params, body := f.body, scope := f.scope, globals := 0, closure := [], defaults := .none, kwdefaults := .none } }
  | _ => default
def e0 : Obj := { cls := Value.none, data := Data.fields #[] }
def p11 (P : Params) : Obj := { cls := Value.type "tuple", data := Data.seq #[] }
def p13 (P : Params) : Obj := { cls := Value.type "code", data := Data.fields #[Value.str (Str.ofString "<module>") 182, Value.str (Str.ofString "<module>") 183, Value.str (Str.ofString "/claim/cut.py") 184, Value.int 1 0, Value.int 0 0, Value.int 0 0, Value.int 0 0, Value.int 0 0, Value.ref 11, Value.bool false, Value.int 181 0, Value.ref 12, Value.none, Value.none, Value.none, Value.none, Value.int 185 0, Value.int 1 0, Value.str (Str.ofString "/claim/cut.py") 186] }
def p14 (P : Params) : Obj := { cls := Value.type "frame", slots := #[some (Value.ref 13), some (Value.ref 3), some (Value.ref 3), none, some (Value.str (Str.ofString "__main__") 164), none, some (Value.ref 0)] }
def f12 (P : Params) : Obj := { cls := Value.none, data := Data.fields #[Value.int 2 0, Value.int 0 0, Value.ref 20, Value.int 4 0, Value.int 0 0, Value.ref 27, Value.int 7 0, Value.int 0 0, Value.ref 34, Value.int 9 0, Value.int 0 0, Value.ref 41, Value.int 11 0, Value.int 0 0, Value.ref 48, Value.int 13 0, Value.int 0 0, Value.ref 55, Value.int 15 0, Value.int 0 0, Value.ref 62, Value.int 17 0, Value.int 0 0, Value.ref 69, Value.int 19 0, Value.int 0 0, Value.ref 76, Value.int 26 0, Value.int 0 0, Value.ref 81, Value.int 40 0, Value.int 0 0, Value.ref 89, Value.int 48 0, Value.int 0 0, Value.ref 96, Value.int 58 0, Value.int 0 0, Value.ref 103, Value.int 95 0, Value.int 0 0, Value.ref 110, Value.int 98 0, Value.int 0 0, Value.ref 117, Value.int 102 0, Value.int 0 0, Value.ref 124, Value.int 109 0, Value.int 0 0, Value.ref 131, Value.int 118 0, Value.int 0 0, Value.ref 138, Value.int 120 0, Value.int 0 0, Value.ref 145, Value.int 132 0, Value.int 0 0, Value.ref 152, Value.int 134 0, Value.int 0 0, Value.ref 159, Value.int 147 0, Value.int 0 0, Value.ref 166, Value.int 165 0, Value.int 0 0, Value.ref 173, Value.int 168 0, Value.int 0 0, Value.ref 180, Value.int 171 0, Value.int 0 0, Value.ref 187, Value.int 177 0, Value.int 0 0, Value.ref 194, Value.int 180 0, Value.int 0 0, Value.ref 201, Value.int 194 0, Value.int 0 0, Value.ref 208, Value.int 198 0, Value.int 0 0, Value.ref 215, Value.int 205 0, Value.int 0 0, Value.ref 223, Value.int 229 0, Value.int 0 0, Value.ref 230, Value.int 234 0, Value.int 0 0, Value.ref 238, Value.int 243 0, Value.int 0 0, Value.ref 246, Value.int 264 0, Value.int 0 0, Value.ref 254, Value.int 267 0, Value.int 0 0, Value.ref 262, Value.int 275 0, Value.int 0 0, Value.ref 270, Value.int 289 0, Value.int 0 0, Value.ref 278, Value.int 299 0, Value.int 0 0, Value.ref 285, Value.int 337 0, Value.int 0 0, Value.ref 293, Value.int 341 0, Value.int 0 0, Value.ref 300, Value.int 390 0, Value.int 0 0, Value.ref 308, Value.int 393 0, Value.int 0 0, Value.ref 316, Value.int 398 0, Value.int 0 0, Value.ref 323, Value.int 401 0, Value.int 0 0, Value.ref 330, Value.int 405 0, Value.int 0 0, Value.ref 337, Value.int 408 0, Value.int 0 0, Value.ref 344, Value.int 415 0, Value.int 0 0, Value.ref 351, Value.int 424 0, Value.int 0 0, Value.ref 358, Value.int 430 0, Value.int 0 0, Value.ref 365, Value.int 433 0, Value.int 0 0, Value.ref 372, Value.int 440 0, Value.int 0 0, Value.ref 379] }
def tree0 (P : Params) : BT := (.node (boot_o_0 P) (.node (boot_o_1 P) (.node (boot_o_3 P) (.node (boot_o_7 P) .nil .nil) (.node (p11 P) .nil .nil)) (.node (boot_o_5 P) (.node (boot_o_9 P) .nil .nil) (.node (p13 P) .nil .nil))) (.node (boot_o_2 P) (.node (boot_o_4 P) (.node (boot_o_8 P) .nil .nil) (.node (e0) .nil .nil)) (.node (boot_o_6 P) (.node (boot_o_10 P) .nil .nil) (.node (p14 P) .nil .nil))))
def heap0 (P : Params) : Heap := { objs := #[boot_o_0 P, boot_o_1 P, boot_o_2 P, boot_o_3 P, boot_o_4 P, boot_o_5 P, boot_o_6 P, boot_o_7 P, boot_o_8 P, boot_o_9 P, boot_o_10 P, p11 P, e0, p13 P, p14 P], life := {} }
def s118x3 (P : Params) : Obj := { cls := Value.type "dict", data := Data.dict #[{ hash := PyData.keyHash P (Str.ofString "__name__"), key := Value.str (Str.ofString "__name__") 165, val := Value.str (Str.ofString "convertdate.gregorian") 269 }, { hash := PyData.keyHash P (Str.ofString "__doc__"), key := Value.str (Str.ofString "__doc__") 166, val := Value.none }, { hash := PyData.keyHash P (Str.ofString "__package__"), key := Value.str (Str.ofString "__package__") 167, val := Value.none }, { hash := PyData.keyHash P (Str.ofString "__loader__"), key := Value.str (Str.ofString "__loader__") 168, val := Value.builtin "__main__.__loader__#opaque" }, { hash := PyData.keyHash P (Str.ofString "__spec__"), key := Value.str (Str.ofString "__spec__") 169, val := Value.none }, { hash := PyData.keyHash P (Str.ofString "__annotations__"), key := Value.str (Str.ofString "__annotations__") 170, val := Value.ref 6 }, { hash := PyData.keyHash P (Str.ofString "__builtins__"), key := Value.str (Str.ofString "__builtins__") 171, val := Value.ref 4 }, { hash := PyData.keyHash P (Str.ofString "__file__"), key := Value.str (Str.ofString "__file__") 173, val := Value.str (Str.ofString "/claim/cut.py") 172 }, { hash := PyData.keyHash P (Str.ofString "__cached__"), key := Value.str (Str.ofString "__cached__") 174, val := Value.none }, { hash := PyData.keyHash P (Str.ofString "isleap"), key := Value.str (Str.ofString "isleap") 195, val := Value.ref 21 }, { hash := PyData.keyHash P (Str.ofString "trunc"), key := Value.str (Str.ofString "trunc") 204, val := Value.ref 28 }, { hash := PyData.keyHash P (Str.ofString "midnight"), key := Value.str (Str.ofString "midnight") 211, val := Value.ref 35 }, { hash := PyData.keyHash P (Str.ofString "jwday"), key := Value.str (Str.ofString "jwday") 218, val := Value.ref 42 }, { hash := PyData.keyHash P (Str.ofString "weekday_before"), key := Value.str (Str.ofString "weekday_before") 226, val := Value.ref 49 }, { hash := PyData.keyHash P (Str.ofString "search_weekday"), key := Value.str (Str.ofString "search_weekday") 236, val := Value.ref 56 }, { hash := PyData.keyHash P (Str.ofString "next_weekday"), key := Value.str (Str.ofString "next_weekday") 244, val := Value.ref 63 }, { hash := PyData.keyHash P (Str.ofString "previous_weekday"), key := Value.str (Str.ofString "previous_weekday") 252, val := Value.ref 70 }, { hash := PyData.keyHash P (Str.ofString "n_weeks"), key := Value.str (Str.ofString "n_weeks") 262, val := Value.ref 77 }, { hash := PyData.keyHash P (Str.ofString "monthcalendarhelper"), key := Value.str (Str.ofString "monthcalendarhelper") 268, val := Value.ref 82 }, { hash := PyData.keyHash P (Str.ofString "EPOCH_gregorian"), key := Value.str (Str.ofString "EPOCH_gregorian") 272, val := Value.int 1721426 271 }, { hash := PyData.keyHash P (Str.ofString "INTERCALATION_CYCLE_YEARS"), key := Value.str (Str.ofString "INTERCALATION_CYCLE_YEARS") 274, val := Value.int 400 273 }, { hash := PyData.keyHash P (Str.ofString "INTERCALATION_CYCLE_DAYS"), key := Value.str (Str.ofString "INTERCALATION_CYCLE_DAYS") 276, val := Value.int 146097 275 }, { hash := PyData.keyHash P (Str.ofString "LEAP_SUPPRESSION_YEARS"), key := Value.str (Str.ofString "LEAP_SUPPRESSION_YEARS") 278, val := Value.int 100 277 }, { hash := PyData.keyHash P (Str.ofString "LEAP_SUPPRESSION_DAYS"), key := Value.str (Str.ofString "LEAP_SUPPRESSION_DAYS") 280, val := Value.int 36524 279 }, { hash := PyData.keyHash P (Str.ofString "LEAP_CYCLE_YEARS_gregorian"), key := Value.str (Str.ofString "LEAP_CYCLE_YEARS_gregorian") 282, val := Value.int 4 281 }, { hash := PyData.keyHash P (Str.ofString "LEAP_CYCLE_DAYS_gregorian"), key := Value.str (Str.ofString "LEAP_CYCLE_DAYS_gregorian") 284, val := Value.int 1461 283 }, { hash := PyData.keyHash P (Str.ofString "YEAR_DAYS"), key := Value.str (Str.ofString "YEAR_DAYS") 286, val := Value.int 365 285 }] 27 }
def s118x12 (P : Params) : Obj := { cls := Value.none, data := Data.fields #[Value.int 2 0, Value.int 0 0, Value.ref 20, Value.int 4 0, Value.int 0 0, Value.ref 27, Value.int 7 0, Value.int 0 0, Value.ref 34, Value.int 9 0, Value.int 0 0, Value.ref 41, Value.int 11 0, Value.int 0 0, Value.ref 48, Value.int 13 0, Value.int 0 0, Value.ref 55, Value.int 15 0, Value.int 0 0, Value.ref 62, Value.int 17 0, Value.int 0 0, Value.ref 69, Value.int 19 0, Value.int 0 0, Value.ref 76, Value.int 26 0, Value.int 0 0, Value.ref 81] }
def s170x3 (P : Params) : Obj := { cls := Value.type "dict", data := Data.dict #[{ hash := PyData.keyHash P (Str.ofString "__name__"), key := Value.str (Str.ofString "__name__") 165, val := Value.str (Str.ofString "convertdate.hebrew") 336 }, { hash := PyData.keyHash P (Str.ofString "__doc__"), key := Value.str (Str.ofString "__doc__") 166, val := Value.none }, { hash := PyData.keyHash P (Str.ofString "__package__"), key := Value.str (Str.ofString "__package__") 167, val := Value.none }, { hash := PyData.keyHash P (Str.ofString "__loader__"), key := Value.str (Str.ofString "__loader__") 168, val := Value.builtin "__main__.__loader__#opaque" }, { hash := PyData.keyHash P (Str.ofString "__spec__"), key := Value.str (Str.ofString "__spec__") 169, val := Value.none }, { hash := PyData.keyHash P (Str.ofString "__annotations__"), key := Value.str (Str.ofString "__annotations__") 170, val := Value.ref 6 }, { hash := PyData.keyHash P (Str.ofString "__builtins__"), key := Value.str (Str.ofString "__builtins__") 171, val := Value.ref 4 }, { hash := PyData.keyHash P (Str.ofString "__file__"), key := Value.str (Str.ofString "__file__") 173, val := Value.str (Str.ofString "/claim/cut.py") 172 }, { hash := PyData.keyHash P (Str.ofString "__cached__"), key := Value.str (Str.ofString "__cached__") 174, val := Value.none }, { hash := PyData.keyHash P (Str.ofString "isleap"), key := Value.str (Str.ofString "isleap") 195, val := Value.ref 21 }, { hash := PyData.keyHash P (Str.ofString "trunc"), key := Value.str (Str.ofString "trunc") 204, val := Value.ref 28 }, { hash := PyData.keyHash P (Str.ofString "midnight"), key := Value.str (Str.ofString "midnight") 211, val := Value.ref 35 }, { hash := PyData.keyHash P (Str.ofString "jwday"), key := Value.str (Str.ofString "jwday") 218, val := Value.ref 42 }, { hash := PyData.keyHash P (Str.ofString "weekday_before"), key := Value.str (Str.ofString "weekday_before") 226, val := Value.ref 49 }, { hash := PyData.keyHash P (Str.ofString "search_weekday"), key := Value.str (Str.ofString "search_weekday") 236, val := Value.ref 56 }, { hash := PyData.keyHash P (Str.ofString "next_weekday"), key := Value.str (Str.ofString "next_weekday") 244, val := Value.ref 63 }, { hash := PyData.keyHash P (Str.ofString "previous_weekday"), key := Value.str (Str.ofString "previous_weekday") 252, val := Value.ref 70 }, { hash := PyData.keyHash P (Str.ofString "n_weeks"), key := Value.str (Str.ofString "n_weeks") 262, val := Value.ref 77 }, { hash := PyData.keyHash P (Str.ofString "monthcalendarhelper"), key := Value.str (Str.ofString "monthcalendarhelper") 268, val := Value.ref 82 }, { hash := PyData.keyHash P (Str.ofString "EPOCH_gregorian"), key := Value.str (Str.ofString "EPOCH_gregorian") 272, val := Value.int 1721426 271 }, { hash := PyData.keyHash P (Str.ofString "INTERCALATION_CYCLE_YEARS"), key := Value.str (Str.ofString "INTERCALATION_CYCLE_YEARS") 274, val := Value.int 400 273 }, { hash := PyData.keyHash P (Str.ofString "INTERCALATION_CYCLE_DAYS"), key := Value.str (Str.ofString "INTERCALATION_CYCLE_DAYS") 276, val := Value.int 146097 275 }, { hash := PyData.keyHash P (Str.ofString "LEAP_SUPPRESSION_YEARS"), key := Value.str (Str.ofString "LEAP_SUPPRESSION_YEARS") 278, val := Value.int 100 277 }, { hash := PyData.keyHash P (Str.ofString "LEAP_SUPPRESSION_DAYS"), key := Value.str (Str.ofString "LEAP_SUPPRESSION_DAYS") 280, val := Value.int 36524 279 }, { hash := PyData.keyHash P (Str.ofString "LEAP_CYCLE_YEARS_gregorian"), key := Value.str (Str.ofString "LEAP_CYCLE_YEARS_gregorian") 282, val := Value.int 4 281 }, { hash := PyData.keyHash P (Str.ofString "LEAP_CYCLE_DAYS_gregorian"), key := Value.str (Str.ofString "LEAP_CYCLE_DAYS_gregorian") 284, val := Value.int 1461 283 }, { hash := PyData.keyHash P (Str.ofString "YEAR_DAYS"), key := Value.str (Str.ofString "YEAR_DAYS") 286, val := Value.int 365 285 }, { hash := PyData.keyHash P (Str.ofString "HAVE_30_DAYS"), key := Value.str (Str.ofString "HAVE_30_DAYS") 291, val := Value.ref 83 }, { hash := PyData.keyHash P (Str.ofString "legal_date"), key := Value.str (Str.ofString "legal_date") 301, val := Value.ref 90 }, { hash := PyData.keyHash P (Str.ofString "to_jd"), key := Value.str (Str.ofString "to_jd") 311, val := Value.ref 97 }, { hash := PyData.keyHash P (Str.ofString "to_jd_gregorian"), key := Value.str (Str.ofString "to_jd_gregorian") 312, val := Value.ref 97 }, { hash := PyData.keyHash P (Str.ofString "from_jd"), key := Value.str (Str.ofString "from_jd") 334, val := Value.ref 104 }, { hash := PyData.keyHash P (Str.ofString "from_jd_gregorian"), key := Value.str (Str.ofString "from_jd_gregorian") 335, val := Value.ref 104 }, { hash := PyData.keyHash P (Str.ofString "EPOCH_hebrew"), key := Value.str (Str.ofString "EPOCH_hebrew") 339, val := Value.int 347996 338 }, { hash := PyData.keyHash P (Str.ofString "NISAN"), key := Value.str (Str.ofString "NISAN") 341, val := Value.int 1 340 }, { hash := PyData.keyHash P (Str.ofString "IYYAR"), key := Value.str (Str.ofString "IYYAR") 343, val := Value.int 2 342 }, { hash := PyData.keyHash P (Str.ofString "TAMMUZ"), key := Value.str (Str.ofString "TAMMUZ") 345, val := Value.int 4 344 }, { hash := PyData.keyHash P (Str.ofString "ELUL"), key := Value.str (Str.ofString "ELUL") 347, val := Value.int 6 346 }, { hash := PyData.keyHash P (Str.ofString "TISHRI"), key := Value.str (Str.ofString "TISHRI") 349, val := Value.int 7 348 }, { hash := PyData.keyHash P (Str.ofString "HESHVAN"), key := Value.str (Str.ofString "HESHVAN") 351, val := Value.int 8 350 }, { hash := PyData.keyHash P (Str.ofString "KISLEV"), key := Value.str (Str.ofString "KISLEV") 353, val := Value.int 9 352 }, { hash := PyData.keyHash P (Str.ofString "TEVETH"), key := Value.str (Str.ofString "TEVETH") 355, val := Value.int 10 354 }, { hash := PyData.keyHash P (Str.ofString "ADAR"), key := Value.str (Str.ofString "ADAR") 357, val := Value.int 12 356 }, { hash := PyData.keyHash P (Str.ofString "VEADAR"), key := Value.str (Str.ofString "VEADAR") 359, val := Value.int 13 358 }, { hash := PyData.keyHash P (Str.ofString "leap"), key := Value.str (Str.ofString "leap") 366, val := Value.ref 111 }, { hash := PyData.keyHash P (Str.ofString "leap_hebrew"), key := Value.str (Str.ofString "leap_hebrew") 367, val := Value.ref 111 }, { hash := PyData.keyHash P (Str.ofString "year_months"), key := Value.str (Str.ofString "year_months") 374, val := Value.ref 118 }, { hash := PyData.keyHash P (Str.ofString "delay_1"), key := Value.str (Str.ofString "delay_1") 384, val := Value.ref 125 }, { hash := PyData.keyHash P (Str.ofString "delay_2"), key := Value.str (Str.ofString "delay_2") 394, val := Value.ref 132 }] 49 }
def s170x12 (P : Params) : Obj := { cls := Value.none, data := Data.fields #[Value.int 2 0, Value.int 0 0, Value.ref 20, Value.int 4 0, Value.int 0 0, Value.ref 27, Value.int 7 0, Value.int 0 0, Value.ref 34, Value.int 9 0, Value.int 0 0, Value.ref 41, Value.int 11 0, Value.int 0 0, Value.ref 48, Value.int 13 0, Value.int 0 0, Value.ref 55, Value.int 15 0, Value.int 0 0, Value.ref 62, Value.int 17 0, Value.int 0 0, Value.ref 69, Value.int 19 0, Value.int 0 0, Value.ref 76, Value.int 26 0, Value.int 0 0, Value.ref 81, Value.int 40 0, Value.int 0 0, Value.ref 89, Value.int 48 0, Value.int 0 0, Value.ref 96, Value.int 58 0, Value.int 0 0, Value.ref 103, Value.int 95 0, Value.int 0 0, Value.ref 110, Value.int 98 0, Value.int 0 0, Value.ref 117, Value.int 102 0, Value.int 0 0, Value.ref 124, Value.int 109 0, Value.int 0 0, Value.ref 131] }
def s242x3 (P : Params) : Obj := { cls := Value.type "dict", data := Data.dict #[{ hash := PyData.keyHash P (Str.ofString "__name__"), key := Value.str (Str.ofString "__name__") 165, val := Value.str (Str.ofString "convertdate.mayan") 475 }, { hash := PyData.keyHash P (Str.ofString "__doc__"), key := Value.str (Str.ofString "__doc__") 166, val := Value.none }, { hash := PyData.keyHash P (Str.ofString "__package__"), key := Value.str (Str.ofString "__package__") 167, val := Value.none }, { hash := PyData.keyHash P (Str.ofString "__loader__"), key := Value.str (Str.ofString "__loader__") 168, val := Value.builtin "__main__.__loader__#opaque" }, { hash := PyData.keyHash P (Str.ofString "__spec__"), key := Value.str (Str.ofString "__spec__") 169, val := Value.none }, { hash := PyData.keyHash P (Str.ofString "__annotations__"), key := Value.str (Str.ofString "__annotations__") 170, val := Value.ref 6 }, { hash := PyData.keyHash P (Str.ofString "__builtins__"), key := Value.str (Str.ofString "__builtins__") 171, val := Value.ref 4 }, { hash := PyData.keyHash P (Str.ofString "__file__"), key := Value.str (Str.ofString "__file__") 173, val := Value.str (Str.ofString "/claim/cut.py") 172 }, { hash := PyData.keyHash P (Str.ofString "__cached__"), key := Value.str (Str.ofString "__cached__") 174, val := Value.none }, { hash := PyData.keyHash P (Str.ofString "isleap"), key := Value.str (Str.ofString "isleap") 195, val := Value.ref 21 }, { hash := PyData.keyHash P (Str.ofString "trunc"), key := Value.str (Str.ofString "trunc") 204, val := Value.ref 28 }, { hash := PyData.keyHash P (Str.ofString "midnight"), key := Value.str (Str.ofString "midnight") 211, val := Value.ref 35 }, { hash := PyData.keyHash P (Str.ofString "jwday"), key := Value.str (Str.ofString "jwday") 218, val := Value.ref 42 }, { hash := PyData.keyHash P (Str.ofString "weekday_before"), key := Value.str (Str.ofString "weekday_before") 226, val := Value.ref 49 }, { hash := PyData.keyHash P (Str.ofString "search_weekday"), key := Value.str (Str.ofString "search_weekday") 236, val := Value.ref 56 }, { hash := PyData.keyHash P (Str.ofString "next_weekday"), key := Value.str (Str.ofString "next_weekday") 244, val := Value.ref 63 }, { hash := PyData.keyHash P (Str.ofString "previous_weekday"), key := Value.str (Str.ofString "previous_weekday") 252, val := Value.ref 70 }, { hash := PyData.keyHash P (Str.ofString "n_weeks"), key := Value.str (Str.ofString "n_weeks") 262, val := Value.ref 77 }, { hash := PyData.keyHash P (Str.ofString "monthcalendarhelper"), key := Value.str (Str.ofString "monthcalendarhelper") 268, val := Value.ref 82 }, { hash := PyData.keyHash P (Str.ofString "EPOCH_gregorian"), key := Value.str (Str.ofString "EPOCH_gregorian") 272, val := Value.int 1721426 271 }, { hash := PyData.keyHash P (Str.ofString "INTERCALATION_CYCLE_YEARS"), key := Value.str (Str.ofString "INTERCALATION_CYCLE_YEARS") 274, val := Value.int 400 273 }, { hash := PyData.keyHash P (Str.ofString "INTERCALATION_CYCLE_DAYS"), key := Value.str (Str.ofString "INTERCALATION_CYCLE_DAYS") 276, val := Value.int 146097 275 }, { hash := PyData.keyHash P (Str.ofString "LEAP_SUPPRESSION_YEARS"), key := Value.str (Str.ofString "LEAP_SUPPRESSION_YEARS") 278, val := Value.int 100 277 }, { hash := PyData.keyHash P (Str.ofString "LEAP_SUPPRESSION_DAYS"), key := Value.str (Str.ofString "LEAP_SUPPRESSION_DAYS") 280, val := Value.int 36524 279 }, { hash := PyData.keyHash P (Str.ofString "LEAP_CYCLE_YEARS_gregorian"), key := Value.str (Str.ofString "LEAP_CYCLE_YEARS_gregorian") 282, val := Value.int 4 281 }, { hash := PyData.keyHash P (Str.ofString "LEAP_CYCLE_DAYS_gregorian"), key := Value.str (Str.ofString "LEAP_CYCLE_DAYS_gregorian") 284, val := Value.int 1461 283 }, { hash := PyData.keyHash P (Str.ofString "YEAR_DAYS"), key := Value.str (Str.ofString "YEAR_DAYS") 286, val := Value.int 365 285 }, { hash := PyData.keyHash P (Str.ofString "HAVE_30_DAYS"), key := Value.str (Str.ofString "HAVE_30_DAYS") 291, val := Value.ref 83 }, { hash := PyData.keyHash P (Str.ofString "legal_date"), key := Value.str (Str.ofString "legal_date") 301, val := Value.ref 90 }, { hash := PyData.keyHash P (Str.ofString "to_jd"), key := Value.str (Str.ofString "to_jd") 311, val := Value.ref 195 }, { hash := PyData.keyHash P (Str.ofString "to_jd_gregorian"), key := Value.str (Str.ofString "to_jd_gregorian") 312, val := Value.ref 97 }, { hash := PyData.keyHash P (Str.ofString "from_jd"), key := Value.str (Str.ofString "from_jd") 334, val := Value.ref 202 }, { hash := PyData.keyHash P (Str.ofString "from_jd_gregorian"), key := Value.str (Str.ofString "from_jd_gregorian") 335, val := Value.ref 104 }, { hash := PyData.keyHash P (Str.ofString "EPOCH_hebrew"), key := Value.str (Str.ofString "EPOCH_hebrew") 339, val := Value.int 347996 338 }, { hash := PyData.keyHash P (Str.ofString "NISAN"), key := Value.str (Str.ofString "NISAN") 341, val := Value.int 1 340 }, { hash := PyData.keyHash P (Str.ofString "IYYAR"), key := Value.str (Str.ofString "IYYAR") 343, val := Value.int 2 342 }, { hash := PyData.keyHash P (Str.ofString "TAMMUZ"), key := Value.str (Str.ofString "TAMMUZ") 345, val := Value.int 4 344 }, { hash := PyData.keyHash P (Str.ofString "ELUL"), key := Value.str (Str.ofString "ELUL") 347, val := Value.int 6 346 }, { hash := PyData.keyHash P (Str.ofString "TISHRI"), key := Value.str (Str.ofString "TISHRI") 349, val := Value.int 7 348 }, { hash := PyData.keyHash P (Str.ofString "HESHVAN"), key := Value.str (Str.ofString "HESHVAN") 351, val := Value.int 8 350 }, { hash := PyData.keyHash P (Str.ofString "KISLEV"), key := Value.str (Str.ofString "KISLEV") 353, val := Value.int 9 352 }, { hash := PyData.keyHash P (Str.ofString "TEVETH"), key := Value.str (Str.ofString "TEVETH") 355, val := Value.int 10 354 }, { hash := PyData.keyHash P (Str.ofString "ADAR"), key := Value.str (Str.ofString "ADAR") 357, val := Value.int 12 356 }, { hash := PyData.keyHash P (Str.ofString "VEADAR"), key := Value.str (Str.ofString "VEADAR") 359, val := Value.int 13 358 }, { hash := PyData.keyHash P (Str.ofString "leap"), key := Value.str (Str.ofString "leap") 366, val := Value.ref 111 }, { hash := PyData.keyHash P (Str.ofString "leap_hebrew"), key := Value.str (Str.ofString "leap_hebrew") 367, val := Value.ref 111 }, { hash := PyData.keyHash P (Str.ofString "year_months"), key := Value.str (Str.ofString "year_months") 374, val := Value.ref 118 }, { hash := PyData.keyHash P (Str.ofString "delay_1"), key := Value.str (Str.ofString "delay_1") 384, val := Value.ref 125 }, { hash := PyData.keyHash P (Str.ofString "delay_2"), key := Value.str (Str.ofString "delay_2") 394, val := Value.ref 132 }, { hash := PyData.keyHash P (Str.ofString "year_days"), key := Value.str (Str.ofString "year_days") 401, val := Value.ref 139 }, { hash := PyData.keyHash P (Str.ofString "month_length"), key := Value.str (Str.ofString "month_length") 409, val := Value.ref 146 }, { hash := PyData.keyHash P (Str.ofString "month_days"), key := Value.str (Str.ofString "month_days") 417, val := Value.ref 153 }, { hash := PyData.keyHash P (Str.ofString "to_jd_hebrew"), key := Value.str (Str.ofString "to_jd_hebrew") 430, val := Value.ref 160 }, { hash := PyData.keyHash P (Str.ofString "from_jd_hebrew"), key := Value.str (Str.ofString "from_jd_hebrew") 444, val := Value.ref 167 }, { hash := PyData.keyHash P (Str.ofString "from_gregorian"), key := Value.str (Str.ofString "from_gregorian") 453, val := Value.ref 174 }, { hash := PyData.keyHash P (Str.ofString "from_gregorian_hebrew"), key := Value.str (Str.ofString "from_gregorian_hebrew") 454, val := Value.ref 174 }, { hash := PyData.keyHash P (Str.ofString "to_gregorian"), key := Value.str (Str.ofString "to_gregorian") 463, val := Value.ref 181 }, { hash := PyData.keyHash P (Str.ofString "to_gregorian_hebrew"), key := Value.str (Str.ofString "to_gregorian_hebrew") 464, val := Value.ref 181 }, { hash := PyData.keyHash P (Str.ofString "monthcalendar"), key := Value.str (Str.ofString "monthcalendar") 474, val := Value.ref 188 }, { hash := PyData.keyHash P (Str.ofString "EPOCH_mayan"), key := Value.str (Str.ofString "EPOCH_mayan") 478, val := Value.int 584283 477 }, { hash := PyData.keyHash P (Str.ofString "to_jd_mayan"), key := Value.str (Str.ofString "to_jd_mayan") 490, val := Value.ref 195 }, { hash := PyData.keyHash P (Str.ofString "from_jd_mayan"), key := Value.str (Str.ofString "from_jd_mayan") 504, val := Value.ref 202 }] 62 }
def s242x12 (P : Params) : Obj := { cls := Value.none, data := Data.fields #[Value.int 2 0, Value.int 0 0, Value.ref 20, Value.int 4 0, Value.int 0 0, Value.ref 27, Value.int 7 0, Value.int 0 0, Value.ref 34, Value.int 9 0, Value.int 0 0, Value.ref 41, Value.int 11 0, Value.int 0 0, Value.ref 48, Value.int 13 0, Value.int 0 0, Value.ref 55, Value.int 15 0, Value.int 0 0, Value.ref 62, Value.int 17 0, Value.int 0 0, Value.ref 69, Value.int 19 0, Value.int 0 0, Value.ref 76, Value.int 26 0, Value.int 0 0, Value.ref 81, Value.int 40 0, Value.int 0 0, Value.ref 89, Value.int 48 0, Value.int 0 0, Value.ref 96, Value.int 58 0, Value.int 0 0, Value.ref 103, Value.int 95 0, Value.int 0 0, Value.ref 110, Value.int 98 0, Value.int 0 0, Value.ref 117, Value.int 102 0, Value.int 0 0, Value.ref 124, Value.int 109 0, Value.int 0 0, Value.ref 131, Value.int 118 0, Value.int 0 0, Value.ref 138, Value.int 120 0, Value.int 0 0, Value.ref 145, Value.int 132 0, Value.int 0 0, Value.ref 152, Value.int 134 0, Value.int 0 0, Value.ref 159, Value.int 147 0, Value.int 0 0, Value.ref 166, Value.int 165 0, Value.int 0 0, Value.ref 173, Value.int 168 0, Value.int 0 0, Value.ref 180, Value.int 171 0, Value.int 0 0, Value.ref 187, Value.int 177 0, Value.int 0 0, Value.ref 194, Value.int 180 0, Value.int 0 0, Value.ref 201] }
def s305x3 (P : Params) : Obj := { cls := Value.type "dict", data := Data.dict #[{ hash := PyData.keyHash P (Str.ofString "__name__"), key := Value.str (Str.ofString "__name__") 165, val := Value.str (Str.ofString "convertdate.french_republican") 607 }, { hash := PyData.keyHash P (Str.ofString "__doc__"), key := Value.str (Str.ofString "__doc__") 166, val := Value.none }, { hash := PyData.keyHash P (Str.ofString "__package__"), key := Value.str (Str.ofString "__package__") 167, val := Value.none }, { hash := PyData.keyHash P (Str.ofString "__loader__"), key := Value.str (Str.ofString "__loader__") 168, val := Value.builtin "__main__.__loader__#opaque" }, { hash := PyData.keyHash P (Str.ofString "__spec__"), key := Value.str (Str.ofString "__spec__") 169, val := Value.none }, { hash := PyData.keyHash P (Str.ofString "__annotations__"), key := Value.str (Str.ofString "__annotations__") 170, val := Value.ref 6 }, { hash := PyData.keyHash P (Str.ofString "__builtins__"), key := Value.str (Str.ofString "__builtins__") 171, val := Value.ref 4 }, { hash := PyData.keyHash P (Str.ofString "__file__"), key := Value.str (Str.ofString "__file__") 173, val := Value.str (Str.ofString "/claim/cut.py") 172 }, { hash := PyData.keyHash P (Str.ofString "__cached__"), key := Value.str (Str.ofString "__cached__") 174, val := Value.none }, { hash := PyData.keyHash P (Str.ofString "isleap"), key := Value.str (Str.ofString "isleap") 195, val := Value.ref 21 }, { hash := PyData.keyHash P (Str.ofString "trunc"), key := Value.str (Str.ofString "trunc") 204, val := Value.ref 28 }, { hash := PyData.keyHash P (Str.ofString "midnight"), key := Value.str (Str.ofString "midnight") 211, val := Value.ref 35 }, { hash := PyData.keyHash P (Str.ofString "jwday"), key := Value.str (Str.ofString "jwday") 218, val := Value.ref 42 }, { hash := PyData.keyHash P (Str.ofString "weekday_before"), key := Value.str (Str.ofString "weekday_before") 226, val := Value.ref 49 }, { hash := PyData.keyHash P (Str.ofString "search_weekday"), key := Value.str (Str.ofString "search_weekday") 236, val := Value.ref 56 }, { hash := PyData.keyHash P (Str.ofString "next_weekday"), key := Value.str (Str.ofString "next_weekday") 244, val := Value.ref 63 }, { hash := PyData.keyHash P (Str.ofString "previous_weekday"), key := Value.str (Str.ofString "previous_weekday") 252, val := Value.ref 70 }, { hash := PyData.keyHash P (Str.ofString "n_weeks"), key := Value.str (Str.ofString "n_weeks") 262, val := Value.ref 77 }, { hash := PyData.keyHash P (Str.ofString "monthcalendarhelper"), key := Value.str (Str.ofString "monthcalendarhelper") 268, val := Value.ref 82 }, { hash := PyData.keyHash P (Str.ofString "EPOCH_gregorian"), key := Value.str (Str.ofString "EPOCH_gregorian") 272, val := Value.int 1721426 271 }, { hash := PyData.keyHash P (Str.ofString "INTERCALATION_CYCLE_YEARS"), key := Value.str (Str.ofString "INTERCALATION_CYCLE_YEARS") 274, val := Value.int 400 273 }, { hash := PyData.keyHash P (Str.ofString "INTERCALATION_CYCLE_DAYS"), key := Value.str (Str.ofString "INTERCALATION_CYCLE_DAYS") 276, val := Value.int 146097 275 }, { hash := PyData.keyHash P (Str.ofString "LEAP_SUPPRESSION_YEARS"), key := Value.str (Str.ofString "LEAP_SUPPRESSION_YEARS") 278, val := Value.int 100 277 }, { hash := PyData.keyHash P (Str.ofString "LEAP_SUPPRESSION_DAYS"), key := Value.str (Str.ofString "LEAP_SUPPRESSION_DAYS") 280, val := Value.int 36524 279 }, { hash := PyData.keyHash P (Str.ofString "LEAP_CYCLE_YEARS_gregorian"), key := Value.str (Str.ofString "LEAP_CYCLE_YEARS_gregorian") 282, val := Value.int 4 281 }, { hash := PyData.keyHash P (Str.ofString "LEAP_CYCLE_DAYS_gregorian"), key := Value.str (Str.ofString "LEAP_CYCLE_DAYS_gregorian") 284, val := Value.int 1461 283 }, { hash := PyData.keyHash P (Str.ofString "YEAR_DAYS"), key := Value.str (Str.ofString "YEAR_DAYS") 286, val := Value.int 365 285 }, { hash := PyData.keyHash P (Str.ofString "HAVE_30_DAYS"), key := Value.str (Str.ofString "HAVE_30_DAYS") 291, val := Value.ref 83 }, { hash := PyData.keyHash P (Str.ofString "legal_date"), key := Value.str (Str.ofString "legal_date") 301, val := Value.ref 90 }, { hash := PyData.keyHash P (Str.ofString "to_jd"), key := Value.str (Str.ofString "to_jd") 311, val := Value.ref 239 }, { hash := PyData.keyHash P (Str.ofString "to_jd_gregorian"), key := Value.str (Str.ofString "to_jd_gregorian") 312, val := Value.ref 97 }, { hash := PyData.keyHash P (Str.ofString "from_jd"), key := Value.str (Str.ofString "from_jd") 334, val := Value.ref 247 }, { hash := PyData.keyHash P (Str.ofString "from_jd_gregorian"), key := Value.str (Str.ofString "from_jd_gregorian") 335, val := Value.ref 104 }, { hash := PyData.keyHash P (Str.ofString "EPOCH_hebrew"), key := Value.str (Str.ofString "EPOCH_hebrew") 339, val := Value.int 347996 338 }, { hash := PyData.keyHash P (Str.ofString "NISAN"), key := Value.str (Str.ofString "NISAN") 341, val := Value.int 1 340 }, { hash := PyData.keyHash P (Str.ofString "IYYAR"), key := Value.str (Str.ofString "IYYAR") 343, val := Value.int 2 342 }, { hash := PyData.keyHash P (Str.ofString "TAMMUZ"), key := Value.str (Str.ofString "TAMMUZ") 345, val := Value.int 4 344 }, { hash := PyData.keyHash P (Str.ofString "ELUL"), key := Value.str (Str.ofString "ELUL") 347, val := Value.int 6 346 }, { hash := PyData.keyHash P (Str.ofString "TISHRI"), key := Value.str (Str.ofString "TISHRI") 349, val := Value.int 7 348 }, { hash := PyData.keyHash P (Str.ofString "HESHVAN"), key := Value.str (Str.ofString "HESHVAN") 351, val := Value.int 8 350 }, { hash := PyData.keyHash P (Str.ofString "KISLEV"), key := Value.str (Str.ofString "KISLEV") 353, val := Value.int 9 352 }, { hash := PyData.keyHash P (Str.ofString "TEVETH"), key := Value.str (Str.ofString "TEVETH") 355, val := Value.int 10 354 }, { hash := PyData.keyHash P (Str.ofString "ADAR"), key := Value.str (Str.ofString "ADAR") 357, val := Value.int 12 356 }, { hash := PyData.keyHash P (Str.ofString "VEADAR"), key := Value.str (Str.ofString "VEADAR") 359, val := Value.int 13 358 }, { hash := PyData.keyHash P (Str.ofString "leap"), key := Value.str (Str.ofString "leap") 366, val := Value.ref 231 }, { hash := PyData.keyHash P (Str.ofString "leap_hebrew"), key := Value.str (Str.ofString "leap_hebrew") 367, val := Value.ref 111 }, { hash := PyData.keyHash P (Str.ofString "year_months"), key := Value.str (Str.ofString "year_months") 374, val := Value.ref 118 }, { hash := PyData.keyHash P (Str.ofString "delay_1"), key := Value.str (Str.ofString "delay_1") 384, val := Value.ref 125 }, { hash := PyData.keyHash P (Str.ofString "delay_2"), key := Value.str (Str.ofString "delay_2") 394, val := Value.ref 132 }, { hash := PyData.keyHash P (Str.ofString "year_days"), key := Value.str (Str.ofString "year_days") 401, val := Value.ref 139 }, { hash := PyData.keyHash P (Str.ofString "month_length"), key := Value.str (Str.ofString "month_length") 409, val := Value.ref 146 }, { hash := PyData.keyHash P (Str.ofString "month_days"), key := Value.str (Str.ofString "month_days") 417, val := Value.ref 153 }, { hash := PyData.keyHash P (Str.ofString "to_jd_hebrew"), key := Value.str (Str.ofString "to_jd_hebrew") 430, val := Value.ref 160 }, { hash := PyData.keyHash P (Str.ofString "from_jd_hebrew"), key := Value.str (Str.ofString "from_jd_hebrew") 444, val := Value.ref 167 }, { hash := PyData.keyHash P (Str.ofString "from_gregorian"), key := Value.str (Str.ofString "from_gregorian") 453, val := Value.ref 263 }, { hash := PyData.keyHash P (Str.ofString "from_gregorian_hebrew"), key := Value.str (Str.ofString "from_gregorian_hebrew") 454, val := Value.ref 174 }, { hash := PyData.keyHash P (Str.ofString "to_gregorian"), key := Value.str (Str.ofString "to_gregorian") 463, val := Value.ref 255 }, { hash := PyData.keyHash P (Str.ofString "to_gregorian_hebrew"), key := Value.str (Str.ofString "to_gregorian_hebrew") 464, val := Value.ref 181 }, { hash := PyData.keyHash P (Str.ofString "monthcalendar"), key := Value.str (Str.ofString "monthcalendar") 474, val := Value.ref 188 }, { hash := PyData.keyHash P (Str.ofString "EPOCH_mayan"), key := Value.str (Str.ofString "EPOCH_mayan") 478, val := Value.int 584283 477 }, { hash := PyData.keyHash P (Str.ofString "to_jd_mayan"), key := Value.str (Str.ofString "to_jd_mayan") 490, val := Value.ref 195 }, { hash := PyData.keyHash P (Str.ofString "from_jd_mayan"), key := Value.str (Str.ofString "from_jd_mayan") 504, val := Value.ref 202 }, { hash := PyData.keyHash P (Str.ofString "to_gregorian_mayan"), key := Value.str (Str.ofString "to_gregorian_mayan") 517, val := Value.ref 209 }, { hash := PyData.keyHash P (Str.ofString "from_gregorian_mayan"), key := Value.str (Str.ofString "from_gregorian_mayan") 528, val := Value.ref 216 }, { hash := PyData.keyHash P (Str.ofString "EPOCH_armenian"), key := Value.str (Str.ofString "EPOCH_armenian") 532, val := Value.int 1922502 531 }, { hash := PyData.keyHash P (Str.ofString "EPOCH_SARKAWAG"), key := Value.str (Str.ofString "EPOCH_SARKAWAG") 534, val := Value.int 2117211 533 }, { hash := PyData.keyHash P (Str.ofString "_valid_date"), key := Value.str (Str.ofString "_valid_date") 548, val := Value.ref 224 }, { hash := PyData.keyHash P (Str.ofString "leap_armenian"), key := Value.str (Str.ofString "leap_armenian") 556, val := Value.ref 231 }, { hash := PyData.keyHash P (Str.ofString "to_jd_armenian"), key := Value.str (Str.ofString "to_jd_armenian") 570, val := Value.ref 239 }, { hash := PyData.keyHash P (Str.ofString "from_jd_armenian"), key := Value.str (Str.ofString "from_jd_armenian") 584, val := Value.ref 247 }, { hash := PyData.keyHash P (Str.ofString "to_gregorian_armenian"), key := Value.str (Str.ofString "to_gregorian_armenian") 595, val := Value.ref 255 }, { hash := PyData.keyHash P (Str.ofString "from_gregorian_armenian"), key := Value.str (Str.ofString "from_gregorian_armenian") 606, val := Value.ref 263 }, { hash := PyData.keyHash P (Str.ofString "EPOCH_french_republican"), key := Value.str (Str.ofString "EPOCH_french_republican") 610, val := Value.int 2375840 609 }, { hash := PyData.keyHash P (Str.ofString "DAYS_IN_YEAR"), key := Value.str (Str.ofString "DAYS_IN_YEAR") 612, val := Value.int 365 611 }] 74 }
def s305x12 (P : Params) : Obj := { cls := Value.none, data := Data.fields #[Value.int 2 0, Value.int 0 0, Value.ref 20, Value.int 4 0, Value.int 0 0, Value.ref 27, Value.int 7 0, Value.int 0 0, Value.ref 34, Value.int 9 0, Value.int 0 0, Value.ref 41, Value.int 11 0, Value.int 0 0, Value.ref 48, Value.int 13 0, Value.int 0 0, Value.ref 55, Value.int 15 0, Value.int 0 0, Value.ref 62, Value.int 17 0, Value.int 0 0, Value.ref 69, Value.int 19 0, Value.int 0 0, Value.ref 76, Value.int 26 0, Value.int 0 0, Value.ref 81, Value.int 40 0, Value.int 0 0, Value.ref 89, Value.int 48 0, Value.int 0 0, Value.ref 96, Value.int 58 0, Value.int 0 0, Value.ref 103, Value.int 95 0, Value.int 0 0, Value.ref 110, Value.int 98 0, Value.int 0 0, Value.ref 117, Value.int 102 0, Value.int 0 0, Value.ref 124, Value.int 109 0, Value.int 0 0, Value.ref 131, Value.int 118 0, Value.int 0 0, Value.ref 138, Value.int 120 0, Value.int 0 0, Value.ref 145, Value.int 132 0, Value.int 0 0, Value.ref 152, Value.int 134 0, Value.int 0 0, Value.ref 159, Value.int 147 0, Value.int 0 0, Value.ref 166, Value.int 165 0, Value.int 0 0, Value.ref 173, Value.int 168 0, Value.int 0 0, Value.ref 180, Value.int 171 0, Value.int 0 0, Value.ref 187, Value.int 177 0, Value.int 0 0, Value.ref 194, Value.int 180 0, Value.int 0 0, Value.ref 201, Value.int 194 0, Value.int 0 0, Value.ref 208, Value.int 198 0, Value.int 0 0, Value.ref 215, Value.int 205 0, Value.int 0 0, Value.ref 223, Value.int 229 0, Value.int 0 0, Value.ref 230, Value.int 234 0, Value.int 0 0, Value.ref 238, Value.int 243 0, Value.int 0 0, Value.ref 246, Value.int 264 0, Value.int 0 0, Value.ref 254, Value.int 267 0, Value.int 0 0, Value.ref 262] }
def s368x3 (P : Params) : Obj := { cls := Value.type "dict", data := Data.dict #[{ hash := PyData.keyHash P (Str.ofString "__name__"), key := Value.str (Str.ofString "__name__") 165, val := Value.str (Str.ofString "convertdate.iso") 715 }, { hash := PyData.keyHash P (Str.ofString "__doc__"), key := Value.str (Str.ofString "__doc__") 166, val := Value.none }, { hash := PyData.keyHash P (Str.ofString "__package__"), key := Value.str (Str.ofString "__package__") 167, val := Value.none }, { hash := PyData.keyHash P (Str.ofString "__loader__"), key := Value.str (Str.ofString "__loader__") 168, val := Value.builtin "__main__.__loader__#opaque" }, { hash := PyData.keyHash P (Str.ofString "__spec__"), key := Value.str (Str.ofString "__spec__") 169, val := Value.none }, { hash := PyData.keyHash P (Str.ofString "__annotations__"), key := Value.str (Str.ofString "__annotations__") 170, val := Value.ref 6 }, { hash := PyData.keyHash P (Str.ofString "__builtins__"), key := Value.str (Str.ofString "__builtins__") 171, val := Value.ref 4 }, { hash := PyData.keyHash P (Str.ofString "__file__"), key := Value.str (Str.ofString "__file__") 173, val := Value.str (Str.ofString "/claim/cut.py") 172 }, { hash := PyData.keyHash P (Str.ofString "__cached__"), key := Value.str (Str.ofString "__cached__") 174, val := Value.none }, { hash := PyData.keyHash P (Str.ofString "isleap"), key := Value.str (Str.ofString "isleap") 195, val := Value.ref 21 }, { hash := PyData.keyHash P (Str.ofString "trunc"), key := Value.str (Str.ofString "trunc") 204, val := Value.ref 28 }, { hash := PyData.keyHash P (Str.ofString "midnight"), key := Value.str (Str.ofString "midnight") 211, val := Value.ref 35 }, { hash := PyData.keyHash P (Str.ofString "jwday"), key := Value.str (Str.ofString "jwday") 218, val := Value.ref 42 }, { hash := PyData.keyHash P (Str.ofString "weekday_before"), key := Value.str (Str.ofString "weekday_before") 226, val := Value.ref 49 }, { hash := PyData.keyHash P (Str.ofString "search_weekday"), key := Value.str (Str.ofString "search_weekday") 236, val := Value.ref 56 }, { hash := PyData.keyHash P (Str.ofString "next_weekday"), key := Value.str (Str.ofString "next_weekday") 244, val := Value.ref 63 }, { hash := PyData.keyHash P (Str.ofString "previous_weekday"), key := Value.str (Str.ofString "previous_weekday") 252, val := Value.ref 70 }, { hash := PyData.keyHash P (Str.ofString "n_weeks"), key := Value.str (Str.ofString "n_weeks") 262, val := Value.ref 77 }, { hash := PyData.keyHash P (Str.ofString "monthcalendarhelper"), key := Value.str (Str.ofString "monthcalendarhelper") 268, val := Value.ref 82 }, { hash := PyData.keyHash P (Str.ofString "EPOCH_gregorian"), key := Value.str (Str.ofString "EPOCH_gregorian") 272, val := Value.int 1721426 271 }, { hash := PyData.keyHash P (Str.ofString "INTERCALATION_CYCLE_YEARS"), key := Value.str (Str.ofString "INTERCALATION_CYCLE_YEARS") 274, val := Value.int 400 273 }, { hash := PyData.keyHash P (Str.ofString "INTERCALATION_CYCLE_DAYS"), key := Value.str (Str.ofString "INTERCALATION_CYCLE_DAYS") 276, val := Value.int 146097 275 }, { hash := PyData.keyHash P (Str.ofString "LEAP_SUPPRESSION_YEARS"), key := Value.str (Str.ofString "LEAP_SUPPRESSION_YEARS") 278, val := Value.int 100 277 }, { hash := PyData.keyHash P (Str.ofString "LEAP_SUPPRESSION_DAYS"), key := Value.str (Str.ofString "LEAP_SUPPRESSION_DAYS") 280, val := Value.int 36524 279 }, { hash := PyData.keyHash P (Str.ofString "LEAP_CYCLE_YEARS_gregorian"), key := Value.str (Str.ofString "LEAP_CYCLE_YEARS_gregorian") 282, val := Value.int 4 281 }, { hash := PyData.keyHash P (Str.ofString "LEAP_CYCLE_DAYS_gregorian"), key := Value.str (Str.ofString "LEAP_CYCLE_DAYS_gregorian") 284, val := Value.int 1461 283 }, { hash := PyData.keyHash P (Str.ofString "YEAR_DAYS"), key := Value.str (Str.ofString "YEAR_DAYS") 286, val := Value.int 365 285 }, { hash := PyData.keyHash P (Str.ofString "HAVE_30_DAYS"), key := Value.str (Str.ofString "HAVE_30_DAYS") 291, val := Value.ref 83 }, { hash := PyData.keyHash P (Str.ofString "legal_date"), key := Value.str (Str.ofString "legal_date") 301, val := Value.ref 90 }, { hash := PyData.keyHash P (Str.ofString "to_jd"), key := Value.str (Str.ofString "to_jd") 311, val := Value.ref 324 }, { hash := PyData.keyHash P (Str.ofString "to_jd_gregorian"), key := Value.str (Str.ofString "to_jd_gregorian") 312, val := Value.ref 97 }, { hash := PyData.keyHash P (Str.ofString "from_jd"), key := Value.str (Str.ofString "from_jd") 334, val := Value.ref 294 }, { hash := PyData.keyHash P (Str.ofString "from_jd_gregorian"), key := Value.str (Str.ofString "from_jd_gregorian") 335, val := Value.ref 104 }, { hash := PyData.keyHash P (Str.ofString "EPOCH_hebrew"), key := Value.str (Str.ofString "EPOCH_hebrew") 339, val := Value.int 347996 338 }, { hash := PyData.keyHash P (Str.ofString "NISAN"), key := Value.str (Str.ofString "NISAN") 341, val := Value.int 1 340 }, { hash := PyData.keyHash P (Str.ofString "IYYAR"), key := Value.str (Str.ofString "IYYAR") 343, val := Value.int 2 342 }, { hash := PyData.keyHash P (Str.ofString "TAMMUZ"), key := Value.str (Str.ofString "TAMMUZ") 345, val := Value.int 4 344 }, { hash := PyData.keyHash P (Str.ofString "ELUL"), key := Value.str (Str.ofString "ELUL") 347, val := Value.int 6 346 }, { hash := PyData.keyHash P (Str.ofString "TISHRI"), key := Value.str (Str.ofString "TISHRI") 349, val := Value.int 7 348 }, { hash := PyData.keyHash P (Str.ofString "HESHVAN"), key := Value.str (Str.ofString "HESHVAN") 351, val := Value.int 8 350 }, { hash := PyData.keyHash P (Str.ofString "KISLEV"), key := Value.str (Str.ofString "KISLEV") 353, val := Value.int 9 352 }, { hash := PyData.keyHash P (Str.ofString "TEVETH"), key := Value.str (Str.ofString "TEVETH") 355, val := Value.int 10 354 }, { hash := PyData.keyHash P (Str.ofString "ADAR"), key := Value.str (Str.ofString "ADAR") 357, val := Value.int 12 356 }, { hash := PyData.keyHash P (Str.ofString "VEADAR"), key := Value.str (Str.ofString "VEADAR") 359, val := Value.int 13 358 }, { hash := PyData.keyHash P (Str.ofString "leap"), key := Value.str (Str.ofString "leap") 366, val := Value.ref 271 }, { hash := PyData.keyHash P (Str.ofString "leap_hebrew"), key := Value.str (Str.ofString "leap_hebrew") 367, val := Value.ref 111 }, { hash := PyData.keyHash P (Str.ofString "year_months"), key := Value.str (Str.ofString "year_months") 374, val := Value.ref 118 }, { hash := PyData.keyHash P (Str.ofString "delay_1"), key := Value.str (Str.ofString "delay_1") 384, val := Value.ref 125 }, { hash := PyData.keyHash P (Str.ofString "delay_2"), key := Value.str (Str.ofString "delay_2") 394, val := Value.ref 132 }, { hash := PyData.keyHash P (Str.ofString "year_days"), key := Value.str (Str.ofString "year_days") 401, val := Value.ref 139 }, { hash := PyData.keyHash P (Str.ofString "month_length"), key := Value.str (Str.ofString "month_length") 409, val := Value.ref 146 }, { hash := PyData.keyHash P (Str.ofString "month_days"), key := Value.str (Str.ofString "month_days") 417, val := Value.ref 153 }, { hash := PyData.keyHash P (Str.ofString "to_jd_hebrew"), key := Value.str (Str.ofString "to_jd_hebrew") 430, val := Value.ref 160 }, { hash := PyData.keyHash P (Str.ofString "from_jd_hebrew"), key := Value.str (Str.ofString "from_jd_hebrew") 444, val := Value.ref 167 }, { hash := PyData.keyHash P (Str.ofString "from_gregorian"), key := Value.str (Str.ofString "from_gregorian") 453, val := Value.ref 309 }, { hash := PyData.keyHash P (Str.ofString "from_gregorian_hebrew"), key := Value.str (Str.ofString "from_gregorian_hebrew") 454, val := Value.ref 174 }, { hash := PyData.keyHash P (Str.ofString "to_gregorian"), key := Value.str (Str.ofString "to_gregorian") 463, val := Value.ref 317 }, { hash := PyData.keyHash P (Str.ofString "to_gregorian_hebrew"), key := Value.str (Str.ofString "to_gregorian_hebrew") 464, val := Value.ref 181 }, { hash := PyData.keyHash P (Str.ofString "monthcalendar"), key := Value.str (Str.ofString "monthcalendar") 474, val := Value.ref 188 }, { hash := PyData.keyHash P (Str.ofString "EPOCH_mayan"), key := Value.str (Str.ofString "EPOCH_mayan") 478, val := Value.int 584283 477 }, { hash := PyData.keyHash P (Str.ofString "to_jd_mayan"), key := Value.str (Str.ofString "to_jd_mayan") 490, val := Value.ref 195 }, { hash := PyData.keyHash P (Str.ofString "from_jd_mayan"), key := Value.str (Str.ofString "from_jd_mayan") 504, val := Value.ref 202 }, { hash := PyData.keyHash P (Str.ofString "to_gregorian_mayan"), key := Value.str (Str.ofString "to_gregorian_mayan") 517, val := Value.ref 209 }, { hash := PyData.keyHash P (Str.ofString "from_gregorian_mayan"), key := Value.str (Str.ofString "from_gregorian_mayan") 528, val := Value.ref 216 }, { hash := PyData.keyHash P (Str.ofString "EPOCH_armenian"), key := Value.str (Str.ofString "EPOCH_armenian") 532, val := Value.int 1922502 531 }, { hash := PyData.keyHash P (Str.ofString "EPOCH_SARKAWAG"), key := Value.str (Str.ofString "EPOCH_SARKAWAG") 534, val := Value.int 2117211 533 }, { hash := PyData.keyHash P (Str.ofString "_valid_date"), key := Value.str (Str.ofString "_valid_date") 548, val := Value.ref 224 }, { hash := PyData.keyHash P (Str.ofString "leap_armenian"), key := Value.str (Str.ofString "leap_armenian") 556, val := Value.ref 231 }, { hash := PyData.keyHash P (Str.ofString "to_jd_armenian"), key := Value.str (Str.ofString "to_jd_armenian") 570, val := Value.ref 239 }, { hash := PyData.keyHash P (Str.ofString "from_jd_armenian"), key := Value.str (Str.ofString "from_jd_armenian") 584, val := Value.ref 247 }, { hash := PyData.keyHash P (Str.ofString "to_gregorian_armenian"), key := Value.str (Str.ofString "to_gregorian_armenian") 595, val := Value.ref 255 }, { hash := PyData.keyHash P (Str.ofString "from_gregorian_armenian"), key := Value.str (Str.ofString "from_gregorian_armenian") 606, val := Value.ref 263 }, { hash := PyData.keyHash P (Str.ofString "EPOCH_french_republican"), key := Value.str (Str.ofString "EPOCH_french_republican") 610, val := Value.int 2375840 609 }, { hash := PyData.keyHash P (Str.ofString "DAYS_IN_YEAR"), key := Value.str (Str.ofString "DAYS_IN_YEAR") 612, val := Value.int 365 611 }, { hash := PyData.keyHash P (Str.ofString "LEAP_CYCLE_DAYS_french_republican"), key := Value.str (Str.ofString "LEAP_CYCLE_DAYS_french_republican") 614, val := Value.int 1461 613 }, { hash := PyData.keyHash P (Str.ofString "LEAP_CYCLE_YEARS_french_republican"), key := Value.str (Str.ofString "LEAP_CYCLE_YEARS_french_republican") 616, val := Value.int 4 615 }, { hash := PyData.keyHash P (Str.ofString "leap_french_republican"), key := Value.str (Str.ofString "leap_french_republican") 625, val := Value.ref 271 }, { hash := PyData.keyHash P (Str.ofString "to_jd_french_republican"), key := Value.str (Str.ofString "to_jd_french_republican") 636, val := Value.ref 279 }, { hash := PyData.keyHash P (Str.ofString "_to_jd_schematic"), key := Value.str (Str.ofString "_to_jd_schematic") 660, val := Value.ref 286 }, { hash := PyData.keyHash P (Str.ofString "from_jd_french_republican"), key := Value.str (Str.ofString "from_jd_french_republican") 669, val := Value.ref 294 }, { hash := PyData.keyHash P (Str.ofString "_from_jd_schematic"), key := Value.str (Str.ofString "_from_jd_schematic") 692, val := Value.ref 301 }, { hash := PyData.keyHash P (Str.ofString "from_gregorian_french_republican"), key := Value.str (Str.ofString "from_gregorian_french_republican") 703, val := Value.ref 309 }, { hash := PyData.keyHash P (Str.ofString "to_gregorian_french_republican"), key := Value.str (Str.ofString "to_gregorian_french_republican") 714, val := Value.ref 317 }, { hash := PyData.keyHash P (Str.ofString "SUN"), key := Value.str (Str.ofString "SUN") 718, val := Value.int 6 717 }, { hash := PyData.keyHash P (Str.ofString "to_jd_iso"), key := Value.str (Str.ofString "to_jd_iso") 728, val := Value.ref 324 }] 85 }
def s368x12 (P : Params) : Obj := { cls := Value.none, data := Data.fields #[Value.int 2 0, Value.int 0 0, Value.ref 20, Value.int 4 0, Value.int 0 0, Value.ref 27, Value.int 7 0, Value.int 0 0, Value.ref 34, Value.int 9 0, Value.int 0 0, Value.ref 41, Value.int 11 0, Value.int 0 0, Value.ref 48, Value.int 13 0, Value.int 0 0, Value.ref 55, Value.int 15 0, Value.int 0 0, Value.ref 62, Value.int 17 0, Value.int 0 0, Value.ref 69, Value.int 19 0, Value.int 0 0, Value.ref 76, Value.int 26 0, Value.int 0 0, Value.ref 81, Value.int 40 0, Value.int 0 0, Value.ref 89, Value.int 48 0, Value.int 0 0, Value.ref 96, Value.int 58 0, Value.int 0 0, Value.ref 103, Value.int 95 0, Value.int 0 0, Value.ref 110, Value.int 98 0, Value.int 0 0, Value.ref 117, Value.int 102 0, Value.int 0 0, Value.ref 124, Value.int 109 0, Value.int 0 0, Value.ref 131, Value.int 118 0, Value.int 0 0, Value.ref 138, Value.int 120 0, Value.int 0 0, Value.ref 145, Value.int 132 0, Value.int 0 0, Value.ref 152, Value.int 134 0, Value.int 0 0, Value.ref 159, Value.int 147 0, Value.int 0 0, Value.ref 166, Value.int 165 0, Value.int 0 0, Value.ref 173, Value.int 168 0, Value.int 0 0, Value.ref 180, Value.int 171 0, Value.int 0 0, Value.ref 187, Value.int 177 0, Value.int 0 0, Value.ref 194, Value.int 180 0, Value.int 0 0, Value.ref 201, Value.int 194 0, Value.int 0 0, Value.ref 208, Value.int 198 0, Value.int 0 0, Value.ref 215, Value.int 205 0, Value.int 0 0, Value.ref 223, Value.int 229 0, Value.int 0 0, Value.ref 230, Value.int 234 0, Value.int 0 0, Value.ref 238, Value.int 243 0, Value.int 0 0, Value.ref 246, Value.int 264 0, Value.int 0 0, Value.ref 254, Value.int 267 0, Value.int 0 0, Value.ref 262, Value.int 275 0, Value.int 0 0, Value.ref 270, Value.int 289 0, Value.int 0 0, Value.ref 278, Value.int 299 0, Value.int 0 0, Value.ref 285, Value.int 337 0, Value.int 0 0, Value.ref 293, Value.int 341 0, Value.int 0 0, Value.ref 300, Value.int 390 0, Value.int 0 0, Value.ref 308, Value.int 393 0, Value.int 0 0, Value.ref 316, Value.int 398 0, Value.int 0 0, Value.ref 323] }
def tree118 (P : Params) : BT := (.node (boot_o_0 P) (.node (boot_o_1 P) (.node (s118x3 P) (.node (boot_o_7 P) (.node (kO (q0 P) 2) (.node (kO (q0 P) 13) (.node (kO (q1 P) 4) .nil .nil) .nil) (.node (tO (q0 P) 26) (.node (e0) .nil .nil) .nil)) (.node (e0) (.node (kO (q0 P) 19) (.node (kO (q1 P) 10) .nil .nil) .nil) (.node (kO (q0 P) 30) .nil .nil))) (.node (p11 P) (.node (tO (q0 P) 6) (.node (kO (q0 P) 16) (.node (kO (q1 P) 7) .nil .nil) .nil) (.node (e0) .nil .nil)) (.node (kO (q0 P) 10) (.node (kO (q0 P) 22) (.node (tO (q1 P) 14) .nil .nil) .nil) (.node (kO (q1 P) 1) .nil .nil)))) (.node (boot_o_5 P) (.node (boot_o_9 P) (.node (kO (q0 P) 3) (.node (tO (q0 P) 16) (.node (e0) .nil .nil) .nil) (.node (kO (q0 P) 26) (.node (kO (q1 P) 16) .nil .nil) .nil)) (.node (kO (q0 P) 9) (.node (kO (q0 P) 20) (.node (kO (q1 P) 11) .nil .nil) .nil) (.node (kO (q1 P) 0) .nil .nil))) (.node (p13 P) (.node (kO (q0 P) 6) (.node (e0) (.node (kO (q1 P) 8) .nil .nil) .nil) (.node (kO (q0 P) 29) .nil .nil)) (.node (kO (q0 P) 12) (.node (kO (q0 P) 23) (.node (kO (q1 P) 14) .nil .nil) .nil) (.node (tO (q1 P) 4) .nil .nil))))) (.node (boot_o_2 P) (.node (boot_o_4 P) (.node (boot_o_8 P) (.node (e0) (.node (kO (q0 P) 14) (.node (kO (q1 P) 5) .nil .nil) .nil) (.node (kO (q0 P) 25) (.node (tO (q1 P) 17) .nil .nil) .nil)) (.node (kO (q0 P) 8) (.node (tO (q0 P) 21) (.node (e0) .nil .nil) .nil) (.node (kO (q0 P) 31) .nil .nil))) (.node (s118x12 P) (.node (kO (q0 P) 5) (.node (kO (q0 P) 17) (.node (tO (q1 P) 9) .nil .nil) .nil) (.node (kO (q0 P) 28) .nil .nil)) (.node (kO (q0 P) 11) (.node (e0) (.node (kO (q1 P) 13) .nil .nil) .nil) (.node (kO (q1 P) 2) .nil .nil)))) (.node (boot_o_6 P) (.node (boot_o_10 P) (.node (kO (q0 P) 4) (.node (kO (q0 P) 15) (.node (kO (q1 P) 6) .nil .nil) .nil) (.node (kO (q0 P) 27) (.node (kO (q1 P) 17) .nil .nil) .nil)) (.node (tO (q0 P) 11) (.node (kO (q0 P) 21) (.node (kO (q1 P) 12) .nil .nil) .nil) (.node (e0) .nil .nil))) (.node (p14 P) (.node (kO (q0 P) 7) (.node (kO (q0 P) 18) (.node (kO (q1 P) 9) .nil .nil) .nil) (.node (tO (q0 P) 31) .nil .nil)) (.node (e0) (.node (kO (q0 P) 24) (.node (kO (q1 P) 15) .nil .nil) .nil) (.node (kO (q1 P) 3) .nil .nil))))))
def tree170 (P : Params) : BT := (.node (boot_o_0 P) (.node (boot_o_1 P) (.node (s170x3 P) (.node (boot_o_7 P) (.node (kO (q0 P) 2) (.node (kO (q0 P) 13) (.node (kO (q1 P) 4) (.node (e0) .nil .nil) .nil) (.node (tO (q1 P) 28) .nil .nil)) (.node (tO (q0 P) 26) (.node (e0) .nil .nil) (.node (kO (q2 P) 6) .nil .nil))) (.node (e0) (.node (kO (q0 P) 19) (.node (kO (q1 P) 10) .nil .nil) (.node (kO (q2 P) 0) .nil .nil)) (.node (kO (q0 P) 30) (.node (kO (q1 P) 21) .nil .nil) (.node (kO (q2 P) 12) .nil .nil)))) (.node (p11 P) (.node (tO (q0 P) 6) (.node (kO (q0 P) 16) (.node (kO (q1 P) 7) (.node (kO (q2 P) 20) .nil .nil) .nil) (.node (e0) .nil .nil)) (.node (e0) (.node (kO (q1 P) 18) .nil .nil) (.node (kO (q2 P) 9) .nil .nil))) (.node (kO (q0 P) 10) (.node (kO (q0 P) 22) (.node (tO (q1 P) 14) .nil .nil) (.node (kO (q2 P) 3) .nil .nil)) (.node (kO (q1 P) 1) (.node (kO (q1 P) 24) .nil .nil) (.node (tO (q2 P) 16) .nil .nil))))) (.node (boot_o_5 P) (.node (boot_o_9 P) (.node (kO (q0 P) 3) (.node (tO (q0 P) 16) (.node (e0) (.node (kO (q2 P) 19) .nil .nil) .nil) (.node (kO (q1 P) 28) .nil .nil)) (.node (kO (q0 P) 26) (.node (kO (q1 P) 16) .nil .nil) (.node (e0) .nil .nil))) (.node (kO (q0 P) 9) (.node (kO (q0 P) 20) (.node (kO (q1 P) 11) .nil .nil) (.node (kO (q2 P) 2) .nil .nil)) (.node (kO (q1 P) 0) (.node (kO (q1 P) 22) .nil .nil) (.node (kO (q2 P) 13) .nil .nil)))) (.node (p13 P) (.node (kO (q0 P) 6) (.node (e0) (.node (kO (q1 P) 8) .nil .nil) (.node (kO (q1 P) 31) .nil .nil)) (.node (kO (q0 P) 29) (.node (e0) .nil .nil) (.node (kO (q2 P) 10) .nil .nil))) (.node (kO (q0 P) 12) (.node (kO (q0 P) 23) (.node (kO (q1 P) 14) .nil .nil) (.node (tO (q2 P) 6) .nil .nil)) (.node (tO (q1 P) 4) (.node (kO (q1 P) 25) .nil .nil) (.node (kO (q2 P) 16) .nil .nil)))))) (.node (boot_o_2 P) (.node (boot_o_4 P) (.node (boot_o_8 P) (.node (e0) (.node (kO (q0 P) 14) (.node (kO (q1 P) 5) (.node (kO (q2 P) 18) .nil .nil) .nil) (.node (kO (q1 P) 27) .nil .nil)) (.node (kO (q0 P) 25) (.node (tO (q1 P) 17) .nil .nil) (.node (kO (q2 P) 7) .nil .nil))) (.node (kO (q0 P) 8) (.node (tO (q0 P) 21) (.node (e0) .nil .nil) (.node (kO (q2 P) 1) .nil .nil)) (.node (kO (q0 P) 31) (.node (tO (q1 P) 23) .nil .nil) (.node (e0) .nil .nil)))) (.node (s170x12 P) (.node (kO (q0 P) 5) (.node (kO (q0 P) 17) (.node (tO (q1 P) 9) (.node (kO (q2 P) 21) .nil .nil) .nil) (.node (kO (q1 P) 30) .nil .nil)) (.node (kO (q0 P) 28) (.node (kO (q1 P) 19) .nil .nil) (.node (tO (q2 P) 11) .nil .nil))) (.node (kO (q0 P) 11) (.node (e0) (.node (kO (q1 P) 13) .nil .nil) (.node (kO (q2 P) 4) .nil .nil)) (.node (kO (q1 P) 2) (.node (e0) .nil .nil) (.node (kO (q2 P) 15) .nil .nil))))) (.node (boot_o_6 P) (.node (boot_o_10 P) (.node (kO (q0 P) 4) (.node (kO (q0 P) 15) (.node (kO (q1 P) 6) (.node (tO (q2 P) 21) .nil .nil) .nil) (.node (kO (q1 P) 29) .nil .nil)) (.node (kO (q0 P) 27) (.node (kO (q1 P) 17) .nil .nil) (.node (kO (q2 P) 8) .nil .nil))) (.node (tO (q0 P) 11) (.node (kO (q0 P) 21) (.node (kO (q1 P) 12) .nil .nil) (.node (e0) .nil .nil)) (.node (e0) (.node (kO (q1 P) 23) .nil .nil) (.node (kO (q2 P) 14) .nil .nil)))) (.node (p14 P) (.node (kO (q0 P) 7) (.node (kO (q0 P) 18) (.node (kO (q1 P) 9) .nil .nil) (.node (tO (q2 P) 1) .nil .nil)) (.node (tO (q0 P) 31) (.node (kO (q1 P) 20) .nil .nil) (.node (kO (q2 P) 11) .nil .nil))) (.node (e0) (.node (kO (q0 P) 24) (.node (kO (q1 P) 15) .nil .nil) (.node (kO (q2 P) 5) .nil .nil)) (.node (kO (q1 P) 3) (.node (kO (q1 P) 26) .nil .nil) (.node (kO (q2 P) 17) .nil .nil)))))))
def tree242 (P : Params) : BT := (.node (boot_o_0 P) (.node (boot_o_1 P) (.node (s242x3 P) (.node (boot_o_7 P) (.node (kO (q0 P) 2) (.node (kO (q0 P) 13) (.node (kO (q1 P) 4) (.node (e0) .nil .nil) (.node (kO (q3 P) 31) .nil .nil)) (.node (tO (q1 P) 28) (.node (kO (q3 P) 8) .nil .nil) .nil)) (.node (tO (q0 P) 26) (.node (e0) (.node (kO (q2 P) 29) .nil .nil) .nil) (.node (kO (q2 P) 6) (.node (kO (q3 P) 20) .nil .nil) .nil))) (.node (e0) (.node (kO (q0 P) 19) (.node (kO (q1 P) 10) (.node (kO (q2 P) 23) .nil .nil) (.node (kO (q4 P) 5) .nil .nil)) (.node (kO (q2 P) 0) (.node (kO (q3 P) 14) .nil .nil) .nil)) (.node (kO (q0 P) 30) (.node (kO (q1 P) 21) (.node (tO (q3 P) 4) .nil .nil) .nil) (.node (kO (q2 P) 12) (.node (e0) .nil .nil) .nil)))) (.node (p11 P) (.node (tO (q0 P) 6) (.node (kO (q0 P) 16) (.node (kO (q1 P) 7) (.node (kO (q2 P) 20) .nil .nil) (.node (kO (q4 P) 2) .nil .nil)) (.node (e0) (.node (kO (q3 P) 11) .nil .nil) .nil)) (.node (e0) (.node (kO (q1 P) 18) (.node (kO (q3 P) 0) .nil .nil) .nil) (.node (kO (q2 P) 9) (.node (tO (q3 P) 24) .nil .nil) .nil))) (.node (kO (q0 P) 10) (.node (kO (q0 P) 22) (.node (tO (q1 P) 14) (.node (kO (q2 P) 26) .nil .nil) .nil) (.node (kO (q2 P) 3) (.node (kO (q3 P) 17) .nil .nil) .nil)) (.node (kO (q1 P) 1) (.node (kO (q1 P) 24) (.node (e0) .nil .nil) .nil) (.node (tO (q2 P) 16) (.node (kO (q3 P) 28) .nil .nil) .nil))))) (.node (boot_o_5 P) (.node (boot_o_9 P) (.node (kO (q0 P) 3) (.node (tO (q0 P) 16) (.node (e0) (.node (kO (q2 P) 19) .nil .nil) (.node (tO (q4 P) 2) .nil .nil)) (.node (kO (q1 P) 28) (.node (kO (q3 P) 10) .nil .nil) .nil)) (.node (kO (q0 P) 26) (.node (kO (q1 P) 16) (.node (kO (q2 P) 30) .nil .nil) .nil) (.node (e0) (.node (kO (q3 P) 21) .nil .nil) .nil))) (.node (kO (q0 P) 9) (.node (kO (q0 P) 20) (.node (kO (q1 P) 11) (.node (tO (q2 P) 26) .nil .nil) (.node (kO (q4 P) 6) .nil .nil)) (.node (kO (q2 P) 2) (.node (e0) .nil .nil) .nil)) (.node (kO (q1 P) 0) (.node (kO (q1 P) 22) (.node (kO (q3 P) 4) .nil .nil) .nil) (.node (kO (q2 P) 13) (.node (kO (q3 P) 27) .nil .nil) .nil)))) (.node (p13 P) (.node (kO (q0 P) 6) (.node (e0) (.node (kO (q1 P) 8) (.node (kO (q2 P) 22) .nil .nil) (.node (e0) .nil .nil)) (.node (kO (q1 P) 31) (.node (tO (q3 P) 14) .nil .nil) .nil)) (.node (kO (q0 P) 29) (.node (e0) (.node (kO (q3 P) 1) .nil .nil) .nil) (.node (kO (q2 P) 10) (.node (kO (q3 P) 24) .nil .nil) .nil))) (.node (kO (q0 P) 12) (.node (kO (q0 P) 23) (.node (kO (q1 P) 14) (.node (e0) .nil .nil) .nil) (.node (tO (q2 P) 6) (.node (kO (q3 P) 18) .nil .nil) .nil)) (.node (tO (q1 P) 4) (.node (kO (q1 P) 25) (.node (kO (q3 P) 7) .nil .nil) .nil) (.node (kO (q2 P) 16) (.node (kO (q3 P) 30) .nil .nil) .nil)))))) (.node (boot_o_2 P) (.node (boot_o_4 P) (.node (boot_o_8 P) (.node (e0) (.node (kO (q0 P) 14) (.node (kO (q1 P) 5) (.node (kO (q2 P) 18) .nil .nil) (.node (kO (q4 P) 0) .nil .nil)) (.node (kO (q1 P) 27) (.node (kO (q3 P) 9) .nil .nil) .nil)) (.node (kO (q0 P) 25) (.node (tO (q1 P) 17) (.node (tO (q2 P) 31) .nil .nil) .nil) (.node (kO (q2 P) 7) (.node (e0) .nil .nil) .nil))) (.node (kO (q0 P) 8) (.node (tO (q0 P) 21) (.node (e0) (.node (kO (q2 P) 24) .nil .nil) (.node (tO (q4 P) 7) .nil .nil)) (.node (kO (q2 P) 1) (.node (kO (q3 P) 15) .nil .nil) .nil)) (.node (kO (q0 P) 31) (.node (tO (q1 P) 23) (.node (kO (q3 P) 3) .nil .nil) .nil) (.node (e0) (.node (kO (q3 P) 26) .nil .nil) .nil)))) (.node (s242x12 P) (.node (kO (q0 P) 5) (.node (kO (q0 P) 17) (.node (tO (q1 P) 9) (.node (kO (q2 P) 21) .nil .nil) (.node (kO (q4 P) 3) .nil .nil)) (.node (kO (q1 P) 30) (.node (kO (q3 P) 12) .nil .nil) .nil)) (.node (kO (q0 P) 28) (.node (kO (q1 P) 19) (.node (e0) .nil .nil) .nil) (.node (tO (q2 P) 11) (.node (kO (q3 P) 23) .nil .nil) .nil))) (.node (kO (q0 P) 11) (.node (e0) (.node (kO (q1 P) 13) (.node (kO (q2 P) 27) .nil .nil) .nil) (.node (kO (q2 P) 4) (.node (tO (q3 P) 19) .nil .nil) .nil)) (.node (kO (q1 P) 2) (.node (e0) (.node (kO (q3 P) 6) .nil .nil) .nil) (.node (kO (q2 P) 15) (.node (kO (q3 P) 29) .nil .nil) .nil))))) (.node (boot_o_6 P) (.node (boot_o_10 P) (.node (kO (q0 P) 4) (.node (kO (q0 P) 15) (.node (kO (q1 P) 6) (.node (tO (q2 P) 21) .nil .nil) (.node (kO (q4 P) 1) .nil .nil)) (.node (kO (q1 P) 29) (.node (e0) .nil .nil) .nil)) (.node (kO (q0 P) 27) (.node (kO (q1 P) 17) (.node (kO (q2 P) 31) .nil .nil) .nil) (.node (kO (q2 P) 8) (.node (kO (q3 P) 22) .nil .nil) .nil))) (.node (tO (q0 P) 11) (.node (kO (q0 P) 21) (.node (kO (q1 P) 12) (.node (kO (q2 P) 25) .nil .nil) (.node (kO (q4 P) 7) .nil .nil)) (.node (e0) (.node (kO (q3 P) 16) .nil .nil) .nil)) (.node (e0) (.node (kO (q1 P) 23) (.node (kO (q3 P) 5) .nil .nil) .nil) (.node (kO (q2 P) 14) (.node (tO (q3 P) 29) .nil .nil) .nil)))) (.node (p14 P) (.node (kO (q0 P) 7) (.node (kO (q0 P) 18) (.node (kO (q1 P) 9) (.node (e0) .nil .nil) (.node (kO (q4 P) 4) .nil .nil)) (.node (tO (q2 P) 1) (.node (kO (q3 P) 13) .nil .nil) .nil)) (.node (tO (q0 P) 31) (.node (kO (q1 P) 20) (.node (kO (q3 P) 2) .nil .nil) .nil) (.node (kO (q2 P) 11) (.node (kO (q3 P) 25) .nil .nil) .nil))) (.node (e0) (.node (kO (q0 P) 24) (.node (kO (q1 P) 15) (.node (kO (q2 P) 28) .nil .nil) .nil) (.node (kO (q2 P) 5) (.node (kO (q3 P) 19) .nil .nil) .nil)) (.node (kO (q1 P) 3) (.node (kO (q1 P) 26) (.node (tO (q3 P) 9) .nil .nil) .nil) (.node (kO (q2 P) 17) (.node (e0) .nil .nil) .nil)))))))
def tree305 (P : Params) : BT := (.node (boot_o_0 P) (.node (boot_o_1 P) (.node (s305x3 P) (.node (boot_o_7 P) (.node (kO (q0 P) 2) (.node (kO (q0 P) 13) (.node (kO (q1 P) 4) (.node (e0) (.node (kO (q5 P) 14) .nil .nil) .nil) (.node (kO (q3 P) 31) .nil .nil)) (.node (tO (q1 P) 28) (.node (kO (q3 P) 8) .nil .nil) (.node (kO (q4 P) 22) .nil .nil))) (.node (tO (q0 P) 26) (.node (e0) (.node (kO (q2 P) 29) .nil .nil) (.node (tO (q4 P) 12) .nil .nil)) (.node (kO (q2 P) 6) (.node (kO (q3 P) 20) .nil .nil) (.node (kO (q5 P) 2) .nil .nil)))) (.node (e0) (.node (kO (q0 P) 19) (.node (kO (q1 P) 10) (.node (kO (q2 P) 23) (.node (kO (q5 P) 20) .nil .nil) .nil) (.node (kO (q4 P) 5) .nil .nil)) (.node (kO (q2 P) 0) (.node (kO (q3 P) 14) .nil .nil) (.node (kO (q4 P) 28) .nil .nil))) (.node (kO (q0 P) 30) (.node (kO (q1 P) 21) (.node (tO (q3 P) 4) .nil .nil) (.node (kO (q4 P) 16) .nil .nil)) (.node (kO (q2 P) 12) (.node (e0) .nil .nil) (.node (kO (q5 P) 8) .nil .nil))))) (.node (p11 P) (.node (tO (q0 P) 6) (.node (kO (q0 P) 16) (.node (kO (q1 P) 7) (.node (kO (q2 P) 20) (.node (kO (q5 P) 17) .nil .nil) .nil) (.node (kO (q4 P) 2) .nil .nil)) (.node (e0) (.node (kO (q3 P) 11) .nil .nil) (.node (kO (q4 P) 25) .nil .nil))) (.node (e0) (.node (kO (q1 P) 18) (.node (kO (q3 P) 0) .nil .nil) (.node (e0) .nil .nil)) (.node (kO (q2 P) 9) (.node (tO (q3 P) 24) .nil .nil) (.node (kO (q5 P) 5) .nil .nil)))) (.node (kO (q0 P) 10) (.node (kO (q0 P) 22) (.node (tO (q1 P) 14) (.node (kO (q2 P) 26) .nil .nil) (.node (kO (q4 P) 8) .nil .nil)) (.node (kO (q2 P) 3) (.node (kO (q3 P) 17) .nil .nil) (.node (kO (q4 P) 31) .nil .nil))) (.node (kO (q1 P) 1) (.node (kO (q1 P) 24) (.node (e0) .nil .nil) (.node (e0) .nil .nil)) (.node (tO (q2 P) 16) (.node (kO (q3 P) 28) .nil .nil) (.node (kO (q5 P) 11) .nil .nil)))))) (.node (boot_o_5 P) (.node (boot_o_9 P) (.node (kO (q0 P) 3) (.node (tO (q0 P) 16) (.node (e0) (.node (kO (q2 P) 19) (.node (kO (q5 P) 16) .nil .nil) .nil) (.node (tO (q4 P) 2) .nil .nil)) (.node (kO (q1 P) 28) (.node (kO (q3 P) 10) .nil .nil) (.node (kO (q4 P) 24) .nil .nil))) (.node (kO (q0 P) 26) (.node (kO (q1 P) 16) (.node (kO (q2 P) 30) .nil .nil) (.node (kO (q4 P) 12) .nil .nil)) (.node (e0) (.node (kO (q3 P) 21) .nil .nil) (.node (kO (q5 P) 4) .nil .nil)))) (.node (kO (q0 P) 9) (.node (kO (q0 P) 20) (.node (kO (q1 P) 11) (.node (tO (q2 P) 26) .nil .nil) (.node (kO (q4 P) 6) .nil .nil)) (.node (kO (q2 P) 2) (.node (e0) .nil .nil) (.node (kO (q4 P) 30) .nil .nil))) (.node (kO (q1 P) 0) (.node (kO (q1 P) 22) (.node (kO (q3 P) 4) .nil .nil) (.node (kO (q4 P) 18) .nil .nil)) (.node (kO (q2 P) 13) (.node (kO (q3 P) 27) .nil .nil) (.node (kO (q5 P) 10) .nil .nil))))) (.node (p13 P) (.node (kO (q0 P) 6) (.node (e0) (.node (kO (q1 P) 8) (.node (kO (q2 P) 22) (.node (tO (q5 P) 20) .nil .nil) .nil) (.node (e0) .nil .nil)) (.node (kO (q1 P) 31) (.node (tO (q3 P) 14) .nil .nil) (.node (tO (q4 P) 28) .nil .nil))) (.node (kO (q0 P) 29) (.node (e0) (.node (kO (q3 P) 1) .nil .nil) (.node (kO (q4 P) 15) .nil .nil)) (.node (kO (q2 P) 10) (.node (kO (q3 P) 24) .nil .nil) (.node (tO (q5 P) 8) .nil .nil)))) (.node (kO (q0 P) 12) (.node (kO (q0 P) 23) (.node (kO (q1 P) 14) (.node (e0) .nil .nil) (.node (kO (q4 P) 9) .nil .nil)) (.node (tO (q2 P) 6) (.node (kO (q3 P) 18) .nil .nil) (.node (tO (q5 P) 2) .nil .nil))) (.node (tO (q1 P) 4) (.node (kO (q1 P) 25) (.node (kO (q3 P) 7) .nil .nil) (.node (kO (q4 P) 21) .nil .nil)) (.node (kO (q2 P) 16) (.node (kO (q3 P) 30) .nil .nil) (.node (tO (q5 P) 14) .nil .nil))))))) (.node (boot_o_2 P) (.node (boot_o_4 P) (.node (boot_o_8 P) (.node (e0) (.node (kO (q0 P) 14) (.node (kO (q1 P) 5) (.node (kO (q2 P) 18) (.node (kO (q5 P) 15) .nil .nil) .nil) (.node (kO (q4 P) 0) .nil .nil)) (.node (kO (q1 P) 27) (.node (kO (q3 P) 9) .nil .nil) (.node (kO (q4 P) 23) .nil .nil))) (.node (kO (q0 P) 25) (.node (tO (q1 P) 17) (.node (tO (q2 P) 31) .nil .nil) (.node (kO (q4 P) 11) .nil .nil)) (.node (kO (q2 P) 7) (.node (e0) .nil .nil) (.node (kO (q5 P) 3) .nil .nil)))) (.node (kO (q0 P) 8) (.node (tO (q0 P) 21) (.node (e0) (.node (kO (q2 P) 24) .nil .nil) (.node (tO (q4 P) 7) .nil .nil)) (.node (kO (q2 P) 1) (.node (kO (q3 P) 15) .nil .nil) (.node (kO (q4 P) 29) .nil .nil))) (.node (kO (q0 P) 31) (.node (tO (q1 P) 23) (.node (kO (q3 P) 3) .nil .nil) (.node (kO (q4 P) 17) .nil .nil)) (.node (e0) (.node (kO (q3 P) 26) .nil .nil) (.node (kO (q5 P) 9) .nil .nil))))) (.node (s305x12 P) (.node (kO (q0 P) 5) (.node (kO (q0 P) 17) (.node (tO (q1 P) 9) (.node (kO (q2 P) 21) (.node (kO (q5 P) 18) .nil .nil) .nil) (.node (kO (q4 P) 3) .nil .nil)) (.node (kO (q1 P) 30) (.node (kO (q3 P) 12) .nil .nil) (.node (kO (q4 P) 26) .nil .nil))) (.node (kO (q0 P) 28) (.node (kO (q1 P) 19) (.node (e0) .nil .nil) (.node (kO (q4 P) 14) .nil .nil)) (.node (tO (q2 P) 11) (.node (kO (q3 P) 23) .nil .nil) (.node (kO (q5 P) 6) .nil .nil)))) (.node (kO (q0 P) 11) (.node (e0) (.node (kO (q1 P) 13) (.node (kO (q2 P) 27) .nil .nil) (.node (e0) .nil .nil)) (.node (kO (q2 P) 4) (.node (tO (q3 P) 19) .nil .nil) (.node (kO (q5 P) 0) .nil .nil))) (.node (kO (q1 P) 2) (.node (e0) (.node (kO (q3 P) 6) .nil .nil) (.node (kO (q4 P) 20) .nil .nil)) (.node (kO (q2 P) 15) (.node (kO (q3 P) 29) .nil .nil) (.node (kO (q5 P) 12) .nil .nil)))))) (.node (boot_o_6 P) (.node (boot_o_10 P) (.node (kO (q0 P) 4) (.node (kO (q0 P) 15) (.node (kO (q1 P) 6) (.node (tO (q2 P) 21) (.node (e0) .nil .nil) .nil) (.node (kO (q4 P) 1) .nil .nil)) (.node (kO (q1 P) 29) (.node (e0) .nil .nil) (.node (e0) .nil .nil))) (.node (kO (q0 P) 27) (.node (kO (q1 P) 17) (.node (kO (q2 P) 31) .nil .nil) (.node (kO (q4 P) 13) .nil .nil)) (.node (kO (q2 P) 8) (.node (kO (q3 P) 22) .nil .nil) (.node (e0) .nil .nil)))) (.node (tO (q0 P) 11) (.node (kO (q0 P) 21) (.node (kO (q1 P) 12) (.node (kO (q2 P) 25) .nil .nil) (.node (kO (q4 P) 7) .nil .nil)) (.node (e0) (.node (kO (q3 P) 16) .nil .nil) (.node (e0) .nil .nil))) (.node (e0) (.node (kO (q1 P) 23) (.node (kO (q3 P) 5) .nil .nil) (.node (kO (q4 P) 19) .nil .nil)) (.node (kO (q2 P) 14) (.node (tO (q3 P) 29) .nil .nil) (.node (e0) .nil .nil))))) (.node (p14 P) (.node (kO (q0 P) 7) (.node (kO (q0 P) 18) (.node (kO (q1 P) 9) (.node (e0) (.node (kO (q5 P) 19) .nil .nil) .nil) (.node (kO (q4 P) 4) .nil .nil)) (.node (tO (q2 P) 1) (.node (kO (q3 P) 13) .nil .nil) (.node (kO (q4 P) 27) .nil .nil))) (.node (tO (q0 P) 31) (.node (kO (q1 P) 20) (.node (kO (q3 P) 2) .nil .nil) (.node (tO (q4 P) 17) .nil .nil)) (.node (kO (q2 P) 11) (.node (kO (q3 P) 25) .nil .nil) (.node (kO (q5 P) 7) .nil .nil)))) (.node (e0) (.node (kO (q0 P) 24) (.node (kO (q1 P) 15) (.node (kO (q2 P) 28) .nil .nil) (.node (kO (q4 P) 10) .nil .nil)) (.node (kO (q2 P) 5) (.node (kO (q3 P) 19) .nil .nil) (.node (kO (q5 P) 1) .nil .nil))) (.node (kO (q1 P) 3) (.node (kO (q1 P) 26) (.node (tO (q3 P) 9) .nil .nil) (.node (tO (q4 P) 23) .nil .nil)) (.node (kO (q2 P) 17) (.node (e0) .nil .nil) (.node (kO (q5 P) 13) .nil .nil))))))))
def tree368 (P : Params) : BT := (.node (boot_o_0 P) (.node (boot_o_1 P) (.node (s368x3 P) (.node (boot_o_7 P) (.node (kO (q0 P) 2) (.node (kO (q0 P) 13) (.node (kO (q1 P) 4) (.node (e0) (.node (kO (q5 P) 14) .nil .nil) .nil) (.node (kO (q3 P) 31) (.node (e0) .nil .nil) .nil)) (.node (tO (q1 P) 28) (.node (kO (q3 P) 8) (.node (kO (q6 P) 6) .nil .nil) .nil) (.node (kO (q4 P) 22) .nil .nil))) (.node (tO (q0 P) 26) (.node (e0) (.node (kO (q2 P) 29) (.node (kO (q5 P) 26) .nil .nil) .nil) (.node (tO (q4 P) 12) .nil .nil)) (.node (kO (q2 P) 6) (.node (kO (q3 P) 20) (.node (kO (q6 P) 18) .nil .nil) .nil) (.node (kO (q5 P) 2) .nil .nil)))) (.node (e0) (.node (kO (q0 P) 19) (.node (kO (q1 P) 10) (.node (kO (q2 P) 23) (.node (kO (q5 P) 20) .nil .nil) .nil) (.node (kO (q4 P) 5) .nil .nil)) (.node (kO (q2 P) 0) (.node (kO (q3 P) 14) (.node (kO (q6 P) 12) .nil .nil) .nil) (.node (kO (q4 P) 28) .nil .nil))) (.node (kO (q0 P) 30) (.node (kO (q1 P) 21) (.node (tO (q3 P) 4) (.node (kO (q6 P) 0) .nil .nil) .nil) (.node (kO (q4 P) 16) .nil .nil)) (.node (kO (q2 P) 12) (.node (e0) (.node (kO (q6 P) 24) .nil .nil) .nil) (.node (kO (q5 P) 8) .nil .nil))))) (.node (p11 P) (.node (tO (q0 P) 6) (.node (kO (q0 P) 16) (.node (kO (q1 P) 7) (.node (kO (q2 P) 20) (.node (kO (q5 P) 17) .nil .nil) .nil) (.node (kO (q4 P) 2) (.node (kO (q7 P) 0) .nil .nil) .nil)) (.node (e0) (.node (kO (q3 P) 11) (.node (kO (q6 P) 9) .nil .nil) .nil) (.node (kO (q4 P) 25) .nil .nil))) (.node (e0) (.node (kO (q1 P) 18) (.node (kO (q3 P) 0) (.node (kO (q5 P) 29) .nil .nil) .nil) (.node (e0) .nil .nil)) (.node (kO (q2 P) 9) (.node (tO (q3 P) 24) (.node (tO (q6 P) 22) .nil .nil) .nil) (.node (kO (q5 P) 5) .nil .nil)))) (.node (kO (q0 P) 10) (.node (kO (q0 P) 22) (.node (tO (q1 P) 14) (.node (kO (q2 P) 26) (.node (kO (q5 P) 23) .nil .nil) .nil) (.node (kO (q4 P) 8) .nil .nil)) (.node (kO (q2 P) 3) (.node (kO (q3 P) 17) (.node (tO (q6 P) 16) .nil .nil) .nil) (.node (kO (q4 P) 31) .nil .nil))) (.node (kO (q1 P) 1) (.node (kO (q1 P) 24) (.node (e0) (.node (kO (q6 P) 3) .nil .nil) .nil) (.node (e0) .nil .nil)) (.node (tO (q2 P) 16) (.node (kO (q3 P) 28) (.node (tO (q6 P) 28) .nil .nil) .nil) (.node (kO (q5 P) 11) .nil .nil)))))) (.node (boot_o_5 P) (.node (boot_o_9 P) (.node (kO (q0 P) 3) (.node (tO (q0 P) 16) (.node (e0) (.node (kO (q2 P) 19) (.node (kO (q5 P) 16) .nil .nil) .nil) (.node (tO (q4 P) 2) (.node (kO (q6 P) 31) .nil .nil) .nil)) (.node (kO (q1 P) 28) (.node (kO (q3 P) 10) (.node (e0) .nil .nil) .nil) (.node (kO (q4 P) 24) .nil .nil))) (.node (kO (q0 P) 26) (.node (kO (q1 P) 16) (.node (kO (q2 P) 30) (.node (kO (q5 P) 28) .nil .nil) .nil) (.node (kO (q4 P) 12) .nil .nil)) (.node (e0) (.node (kO (q3 P) 21) (.node (kO (q6 P) 19) .nil .nil) .nil) (.node (kO (q5 P) 4) .nil .nil)))) (.node (kO (q0 P) 9) (.node (kO (q0 P) 20) (.node (kO (q1 P) 11) (.node (tO (q2 P) 26) (.node (kO (q5 P) 22) .nil .nil) .nil) (.node (kO (q4 P) 6) .nil .nil)) (.node (kO (q2 P) 2) (.node (e0) (.node (kO (q6 P) 13) .nil .nil) .nil) (.node (kO (q4 P) 30) .nil .nil))) (.node (kO (q1 P) 0) (.node (kO (q1 P) 22) (.node (kO (q3 P) 4) (.node (e0) .nil .nil) .nil) (.node (kO (q4 P) 18) .nil .nil)) (.node (kO (q2 P) 13) (.node (kO (q3 P) 27) (.node (kO (q6 P) 25) .nil .nil) .nil) (.node (kO (q5 P) 10) .nil .nil))))) (.node (p13 P) (.node (kO (q0 P) 6) (.node (e0) (.node (kO (q1 P) 8) (.node (kO (q2 P) 22) (.node (tO (q5 P) 20) .nil .nil) .nil) (.node (e0) .nil .nil)) (.node (kO (q1 P) 31) (.node (tO (q3 P) 14) (.node (kO (q6 P) 10) .nil .nil) .nil) (.node (tO (q4 P) 28) .nil .nil))) (.node (kO (q0 P) 29) (.node (e0) (.node (kO (q3 P) 1) (.node (tO (q6 P) 0) .nil .nil) .nil) (.node (kO (q4 P) 15) .nil .nil)) (.node (kO (q2 P) 10) (.node (kO (q3 P) 24) (.node (kO (q6 P) 22) .nil .nil) .nil) (.node (tO (q5 P) 8) .nil .nil)))) (.node (kO (q0 P) 12) (.node (kO (q0 P) 23) (.node (kO (q1 P) 14) (.node (e0) (.node (tO (q5 P) 26) .nil .nil) .nil) (.node (kO (q4 P) 9) .nil .nil)) (.node (tO (q2 P) 6) (.node (kO (q3 P) 18) (.node (kO (q6 P) 16) .nil .nil) .nil) (.node (tO (q5 P) 2) .nil .nil))) (.node (tO (q1 P) 4) (.node (kO (q1 P) 25) (.node (kO (q3 P) 7) (.node (kO (q6 P) 4) .nil .nil) .nil) (.node (kO (q4 P) 21) .nil .nil)) (.node (kO (q2 P) 16) (.node (kO (q3 P) 30) (.node (kO (q6 P) 28) .nil .nil) .nil) (.node (tO (q5 P) 14) .nil .nil))))))) (.node (boot_o_2 P) (.node (boot_o_4 P) (.node (boot_o_8 P) (.node (e0) (.node (kO (q0 P) 14) (.node (kO (q1 P) 5) (.node (kO (q2 P) 18) (.node (kO (q5 P) 15) .nil .nil) .nil) (.node (kO (q4 P) 0) (.node (kO (q6 P) 30) .nil .nil) .nil)) (.node (kO (q1 P) 27) (.node (kO (q3 P) 9) (.node (kO (q6 P) 7) .nil .nil) .nil) (.node (kO (q4 P) 23) .nil .nil))) (.node (kO (q0 P) 25) (.node (tO (q1 P) 17) (.node (tO (q2 P) 31) (.node (kO (q5 P) 27) .nil .nil) .nil) (.node (kO (q4 P) 11) .nil .nil)) (.node (kO (q2 P) 7) (.node (e0) (.node (e0) .nil .nil) .nil) (.node (kO (q5 P) 3) .nil .nil)))) (.node (kO (q0 P) 8) (.node (tO (q0 P) 21) (.node (e0) (.node (kO (q2 P) 24) (.node (kO (q5 P) 21) .nil .nil) .nil) (.node (tO (q4 P) 7) .nil .nil)) (.node (kO (q2 P) 1) (.node (kO (q3 P) 15) (.node (e0) .nil .nil) .nil) (.node (kO (q4 P) 29) .nil .nil))) (.node (kO (q0 P) 31) (.node (tO (q1 P) 23) (.node (kO (q3 P) 3) (.node (kO (q6 P) 1) .nil .nil) .nil) (.node (kO (q4 P) 17) .nil .nil)) (.node (e0) (.node (kO (q3 P) 26) (.node (e0) .nil .nil) .nil) (.node (kO (q5 P) 9) .nil .nil))))) (.node (s368x12 P) (.node (kO (q0 P) 5) (.node (kO (q0 P) 17) (.node (tO (q1 P) 9) (.node (kO (q2 P) 21) (.node (kO (q5 P) 18) .nil .nil) .nil) (.node (kO (q4 P) 3) (.node (kO (q7 P) 1) .nil .nil) .nil)) (.node (kO (q1 P) 30) (.node (kO (q3 P) 12) (.node (tO (q6 P) 11) .nil .nil) .nil) (.node (kO (q4 P) 26) .nil .nil))) (.node (kO (q0 P) 28) (.node (kO (q1 P) 19) (.node (e0) (.node (kO (q5 P) 30) .nil .nil) .nil) (.node (kO (q4 P) 14) .nil .nil)) (.node (tO (q2 P) 11) (.node (kO (q3 P) 23) (.node (kO (q6 P) 21) .nil .nil) .nil) (.node (kO (q5 P) 6) .nil .nil)))) (.node (kO (q0 P) 11) (.node (e0) (.node (kO (q1 P) 13) (.node (kO (q2 P) 27) (.node (kO (q5 P) 24) .nil .nil) .nil) (.node (e0) .nil .nil)) (.node (kO (q2 P) 4) (.node (tO (q3 P) 19) (.node (kO (q6 P) 15) .nil .nil) .nil) (.node (kO (q5 P) 0) .nil .nil))) (.node (kO (q1 P) 2) (.node (e0) (.node (kO (q3 P) 6) (.node (tO (q6 P) 5) .nil .nil) .nil) (.node (kO (q4 P) 20) .nil .nil)) (.node (kO (q2 P) 15) (.node (kO (q3 P) 29) (.node (kO (q6 P) 27) .nil .nil) .nil) (.node (kO (q5 P) 12) .nil .nil)))))) (.node (boot_o_6 P) (.node (boot_o_10 P) (.node (kO (q0 P) 4) (.node (kO (q0 P) 15) (.node (kO (q1 P) 6) (.node (tO (q2 P) 21) (.node (e0) .nil .nil) .nil) (.node (kO (q4 P) 1) (.node (tO (q7 P) 1) .nil .nil) .nil)) (.node (kO (q1 P) 29) (.node (e0) (.node (kO (q6 P) 8) .nil .nil) .nil) (.node (e0) .nil .nil))) (.node (kO (q0 P) 27) (.node (kO (q1 P) 17) (.node (kO (q2 P) 31) (.node (e0) .nil .nil) .nil) (.node (kO (q4 P) 13) .nil .nil)) (.node (kO (q2 P) 8) (.node (kO (q3 P) 22) (.node (kO (q6 P) 20) .nil .nil) .nil) (.node (e0) .nil .nil)))) (.node (tO (q0 P) 11) (.node (kO (q0 P) 21) (.node (kO (q1 P) 12) (.node (kO (q2 P) 25) (.node (e0) .nil .nil) .nil) (.node (kO (q4 P) 7) .nil .nil)) (.node (e0) (.node (kO (q3 P) 16) (.node (kO (q6 P) 14) .nil .nil) .nil) (.node (e0) .nil .nil))) (.node (e0) (.node (kO (q1 P) 23) (.node (kO (q3 P) 5) (.node (kO (q6 P) 2) .nil .nil) .nil) (.node (kO (q4 P) 19) .nil .nil)) (.node (kO (q2 P) 14) (.node (tO (q3 P) 29) (.node (kO (q6 P) 26) .nil .nil) .nil) (.node (e0) .nil .nil))))) (.node (p14 P) (.node (kO (q0 P) 7) (.node (kO (q0 P) 18) (.node (kO (q1 P) 9) (.node (e0) (.node (kO (q5 P) 19) .nil .nil) .nil) (.node (kO (q4 P) 4) .nil .nil)) (.node (tO (q2 P) 1) (.node (kO (q3 P) 13) (.node (kO (q6 P) 11) .nil .nil) .nil) (.node (kO (q4 P) 27) .nil .nil))) (.node (tO (q0 P) 31) (.node (kO (q1 P) 20) (.node (kO (q3 P) 2) (.node (kO (q5 P) 31) .nil .nil) .nil) (.node (tO (q4 P) 17) .nil .nil)) (.node (kO (q2 P) 11) (.node (kO (q3 P) 25) (.node (kO (q6 P) 23) .nil .nil) .nil) (.node (kO (q5 P) 7) .nil .nil)))) (.node (e0) (.node (kO (q0 P) 24) (.node (kO (q1 P) 15) (.node (kO (q2 P) 28) (.node (kO (q5 P) 25) .nil .nil) .nil) (.node (kO (q4 P) 10) .nil .nil)) (.node (kO (q2 P) 5) (.node (kO (q3 P) 19) (.node (kO (q6 P) 17) .nil .nil) .nil) (.node (kO (q5 P) 1) .nil .nil))) (.node (kO (q1 P) 3) (.node (kO (q1 P) 26) (.node (tO (q3 P) 9) (.node (kO (q6 P) 5) .nil .nil) .nil) (.node (tO (q4 P) 23) .nil .nil)) (.node (kO (q2 P) 17) (.node (e0) (.node (kO (q6 P) 29) .nil .nil) .nil) (.node (kO (q5 P) 13) .nil .nil))))))))
def tree9 (P : Params) : BT := (.node (boot_o_0 P) (.node (boot_o_1 P) (.node (kO (q0 P) 1) (.node (boot_o_7 P) (.node (kO (q0 P) 2) (.node (kO (q0 P) 13) (.node (kO (q1 P) 4) (.node (e0) (.node (kO (q5 P) 14) .nil .nil) .nil) (.node (kO (q3 P) 31) (.node (e0) .nil .nil) .nil)) (.node (tO (q1 P) 28) (.node (kO (q3 P) 8) (.node (kO (q6 P) 6) .nil .nil) .nil) (.node (kO (q4 P) 22) (.node (kO (q7 P) 20) .nil .nil) .nil))) (.node (tO (q0 P) 26) (.node (e0) (.node (kO (q2 P) 29) (.node (kO (q5 P) 26) .nil .nil) .nil) (.node (tO (q4 P) 12) (.node (kO (q7 P) 9) .nil .nil) .nil)) (.node (kO (q2 P) 6) (.node (kO (q3 P) 20) (.node (kO (q6 P) 18) .nil .nil) .nil) (.node (kO (q5 P) 2) (.node (kO (q8 P) 0) .nil .nil) .nil)))) (.node (e0) (.node (kO (q0 P) 19) (.node (kO (q1 P) 10) (.node (kO (q2 P) 23) (.node (kO (q5 P) 20) .nil .nil) .nil) (.node (kO (q4 P) 5) (.node (kO (q7 P) 3) .nil .nil) .nil)) (.node (kO (q2 P) 0) (.node (kO (q3 P) 14) (.node (kO (q6 P) 12) .nil .nil) .nil) (.node (kO (q4 P) 28) (.node (kO (q7 P) 26) .nil .nil) .nil))) (.node (kO (q0 P) 30) (.node (kO (q1 P) 21) (.node (tO (q3 P) 4) (.node (kO (q6 P) 0) .nil .nil) .nil) (.node (kO (q4 P) 16) (.node (tO (q7 P) 16) .nil .nil) .nil)) (.node (kO (q2 P) 12) (.node (e0) (.node (kO (q6 P) 24) .nil .nil) .nil) (.node (kO (q5 P) 8) (.node (e0) .nil .nil) .nil))))) (.node (p11 P) (.node (tO (q0 P) 6) (.node (kO (q0 P) 16) (.node (kO (q1 P) 7) (.node (kO (q2 P) 20) (.node (kO (q5 P) 17) .nil .nil) .nil) (.node (kO (q4 P) 2) (.node (kO (q7 P) 0) .nil .nil) .nil)) (.node (e0) (.node (kO (q3 P) 11) (.node (kO (q6 P) 9) .nil .nil) .nil) (.node (kO (q4 P) 25) (.node (kO (q7 P) 23) .nil .nil) .nil))) (.node (e0) (.node (kO (q1 P) 18) (.node (kO (q3 P) 0) (.node (kO (q5 P) 29) .nil .nil) .nil) (.node (e0) (.node (kO (q7 P) 12) .nil .nil) .nil)) (.node (kO (q2 P) 9) (.node (tO (q3 P) 24) (.node (tO (q6 P) 22) .nil .nil) .nil) (.node (kO (q5 P) 5) (.node (tO (q8 P) 4) .nil .nil) .nil)))) (.node (kO (q0 P) 10) (.node (kO (q0 P) 22) (.node (tO (q1 P) 14) (.node (kO (q2 P) 26) (.node (kO (q5 P) 23) .nil .nil) .nil) (.node (kO (q4 P) 8) (.node (kO (q7 P) 6) .nil .nil) .nil)) (.node (kO (q2 P) 3) (.node (kO (q3 P) 17) (.node (tO (q6 P) 16) .nil .nil) .nil) (.node (kO (q4 P) 31) (.node (kO (q7 P) 29) .nil .nil) .nil))) (.node (kO (q1 P) 1) (.node (kO (q1 P) 24) (.node (e0) (.node (kO (q6 P) 3) .nil .nil) .nil) (.node (e0) (.node (e0) .nil .nil) .nil)) (.node (tO (q2 P) 16) (.node (kO (q3 P) 28) (.node (tO (q6 P) 28) .nil .nil) .nil) (.node (kO (q5 P) 11) (.node (kO (q8 P) 8) .nil .nil) .nil)))))) (.node (boot_o_5 P) (.node (boot_o_9 P) (.node (kO (q0 P) 3) (.node (tO (q0 P) 16) (.node (e0) (.node (kO (q2 P) 19) (.node (kO (q5 P) 16) .nil .nil) .nil) (.node (tO (q4 P) 2) (.node (kO (q6 P) 31) .nil .nil) .nil)) (.node (kO (q1 P) 28) (.node (kO (q3 P) 10) (.node (e0) .nil .nil) .nil) (.node (kO (q4 P) 24) (.node (kO (q7 P) 22) .nil .nil) .nil))) (.node (kO (q0 P) 26) (.node (kO (q1 P) 16) (.node (kO (q2 P) 30) (.node (kO (q5 P) 28) .nil .nil) .nil) (.node (kO (q4 P) 12) (.node (kO (q7 P) 10) .nil .nil) .nil)) (.node (e0) (.node (kO (q3 P) 21) (.node (kO (q6 P) 19) .nil .nil) .nil) (.node (kO (q5 P) 4) (.node (kO (q8 P) 1) .nil .nil) .nil)))) (.node (kO (q0 P) 9) (.node (kO (q0 P) 20) (.node (kO (q1 P) 11) (.node (tO (q2 P) 26) (.node (kO (q5 P) 22) .nil .nil) .nil) (.node (kO (q4 P) 6) (.node (tO (q7 P) 6) .nil .nil) .nil)) (.node (kO (q2 P) 2) (.node (e0) (.node (kO (q6 P) 13) .nil .nil) .nil) (.node (kO (q4 P) 30) (.node (e0) .nil .nil) .nil))) (.node (kO (q1 P) 0) (.node (kO (q1 P) 22) (.node (kO (q3 P) 4) (.node (e0) .nil .nil) .nil) (.node (kO (q4 P) 18) (.node (kO (q7 P) 16) .nil .nil) .nil)) (.node (kO (q2 P) 13) (.node (kO (q3 P) 27) (.node (kO (q6 P) 25) .nil .nil) .nil) (.node (kO (q5 P) 10) (.node (kO (q8 P) 7) .nil .nil) .nil))))) (.node (p13 P) (.node (kO (q0 P) 6) (.node (e0) (.node (kO (q1 P) 8) (.node (kO (q2 P) 22) (.node (tO (q5 P) 20) .nil .nil) .nil) (.node (e0) (.node (kO (q7 P) 2) .nil .nil) .nil)) (.node (kO (q1 P) 31) (.node (tO (q3 P) 14) (.node (kO (q6 P) 10) .nil .nil) .nil) (.node (tO (q4 P) 28) (.node (tO (q7 P) 26) .nil .nil) .nil))) (.node (kO (q0 P) 29) (.node (e0) (.node (kO (q3 P) 1) (.node (tO (q6 P) 0) .nil .nil) .nil) (.node (kO (q4 P) 15) (.node (kO (q7 P) 13) .nil .nil) .nil)) (.node (kO (q2 P) 10) (.node (kO (q3 P) 24) (.node (kO (q6 P) 22) .nil .nil) .nil) (.node (tO (q5 P) 8) (.node (kO (q8 P) 4) .nil .nil) .nil)))) (.node (kO (q0 P) 12) (.node (kO (q0 P) 23) (.node (kO (q1 P) 14) (.node (e0) (.node (tO (q5 P) 26) .nil .nil) .nil) (.node (kO (q4 P) 9) (.node (e0) .nil .nil) .nil)) (.node (tO (q2 P) 6) (.node (kO (q3 P) 18) (.node (kO (q6 P) 16) .nil .nil) .nil) (.node (tO (q5 P) 2) (.node (kO (q7 P) 30) .nil .nil) .nil))) (.node (tO (q1 P) 4) (.node (kO (q1 P) 25) (.node (kO (q3 P) 7) (.node (kO (q6 P) 4) .nil .nil) .nil) (.node (kO (q4 P) 21) (.node (kO (q7 P) 19) .nil .nil) .nil)) (.node (kO (q2 P) 16) (.node (kO (q3 P) 30) (.node (kO (q6 P) 28) .nil .nil) .nil) (.node (tO (q5 P) 14) .nil .nil))))))) (.node (boot_o_2 P) (.node (boot_o_4 P) (.node (boot_o_8 P) (.node (e0) (.node (kO (q0 P) 14) (.node (kO (q1 P) 5) (.node (kO (q2 P) 18) (.node (kO (q5 P) 15) .nil .nil) .nil) (.node (kO (q4 P) 0) (.node (kO (q6 P) 30) .nil .nil) .nil)) (.node (kO (q1 P) 27) (.node (kO (q3 P) 9) (.node (kO (q6 P) 7) .nil .nil) .nil) (.node (kO (q4 P) 23) (.node (kO (q7 P) 21) .nil .nil) .nil))) (.node (kO (q0 P) 25) (.node (tO (q1 P) 17) (.node (tO (q2 P) 31) (.node (kO (q5 P) 27) .nil .nil) .nil) (.node (kO (q4 P) 11) (.node (tO (q7 P) 11) .nil .nil) .nil)) (.node (kO (q2 P) 7) (.node (e0) (.node (e0) .nil .nil) .nil) (.node (kO (q5 P) 3) (.node (e0) .nil .nil) .nil)))) (.node (kO (q0 P) 8) (.node (tO (q0 P) 21) (.node (e0) (.node (kO (q2 P) 24) (.node (kO (q5 P) 21) .nil .nil) .nil) (.node (tO (q4 P) 7) (.node (kO (q7 P) 4) .nil .nil) .nil)) (.node (kO (q2 P) 1) (.node (kO (q3 P) 15) (.node (e0) .nil .nil) .nil) (.node (kO (q4 P) 29) (.node (kO (q7 P) 27) .nil .nil) .nil))) (.node (kO (q0 P) 31) (.node (tO (q1 P) 23) (.node (kO (q3 P) 3) (.node (kO (q6 P) 1) .nil .nil) .nil) (.node (kO (q4 P) 17) (.node (kO (q7 P) 15) .nil .nil) .nil)) (.node (e0) (.node (kO (q3 P) 26) (.node (e0) .nil .nil) .nil) (.node (kO (q5 P) 9) (.node (kO (q8 P) 6) .nil .nil) .nil))))) (.node (f12 P) (.node (kO (q0 P) 5) (.node (kO (q0 P) 17) (.node (tO (q1 P) 9) (.node (kO (q2 P) 21) (.node (kO (q5 P) 18) .nil .nil) .nil) (.node (kO (q4 P) 3) (.node (kO (q7 P) 1) .nil .nil) .nil)) (.node (kO (q1 P) 30) (.node (kO (q3 P) 12) (.node (tO (q6 P) 11) .nil .nil) .nil) (.node (kO (q4 P) 26) (.node (kO (q7 P) 24) .nil .nil) .nil))) (.node (kO (q0 P) 28) (.node (kO (q1 P) 19) (.node (e0) (.node (kO (q5 P) 30) .nil .nil) .nil) (.node (kO (q4 P) 14) (.node (e0) .nil .nil) .nil)) (.node (tO (q2 P) 11) (.node (kO (q3 P) 23) (.node (kO (q6 P) 21) .nil .nil) .nil) (.node (kO (q5 P) 6) (.node (kO (q8 P) 3) .nil .nil) .nil)))) (.node (kO (q0 P) 11) (.node (e0) (.node (kO (q1 P) 13) (.node (kO (q2 P) 27) (.node (kO (q5 P) 24) .nil .nil) .nil) (.node (e0) (.node (kO (q7 P) 7) .nil .nil) .nil)) (.node (kO (q2 P) 4) (.node (tO (q3 P) 19) (.node (kO (q6 P) 15) .nil .nil) .nil) (.node (kO (q5 P) 0) (.node (tO (q7 P) 31) .nil .nil) .nil))) (.node (kO (q1 P) 2) (.node (e0) (.node (kO (q3 P) 6) (.node (tO (q6 P) 5) .nil .nil) .nil) (.node (kO (q4 P) 20) (.node (kO (q7 P) 18) .nil .nil) .nil)) (.node (kO (q2 P) 15) (.node (kO (q3 P) 29) (.node (kO (q6 P) 27) .nil .nil) .nil) (.node (kO (q5 P) 12) (.node (kO (q8 P) 9) .nil .nil) .nil)))))) (.node (boot_o_6 P) (.node (boot_o_10 P) (.node (kO (q0 P) 4) (.node (kO (q0 P) 15) (.node (kO (q1 P) 6) (.node (tO (q2 P) 21) (.node (e0) .nil .nil) .nil) (.node (kO (q4 P) 1) (.node (tO (q7 P) 1) .nil .nil) .nil)) (.node (kO (q1 P) 29) (.node (e0) (.node (kO (q6 P) 8) .nil .nil) .nil) (.node (e0) (.node (e0) .nil .nil) .nil))) (.node (kO (q0 P) 27) (.node (kO (q1 P) 17) (.node (kO (q2 P) 31) (.node (e0) .nil .nil) .nil) (.node (kO (q4 P) 13) (.node (kO (q7 P) 11) .nil .nil) .nil)) (.node (kO (q2 P) 8) (.node (kO (q3 P) 22) (.node (kO (q6 P) 20) .nil .nil) .nil) (.node (e0) (.node (kO (q8 P) 2) .nil .nil) .nil)))) (.node (tO (q0 P) 11) (.node (kO (q0 P) 21) (.node (kO (q1 P) 12) (.node (kO (q2 P) 25) (.node (e0) .nil .nil) .nil) (.node (kO (q4 P) 7) (.node (kO (q7 P) 5) .nil .nil) .nil)) (.node (e0) (.node (kO (q3 P) 16) (.node (kO (q6 P) 14) .nil .nil) .nil) (.node (e0) (.node (kO (q7 P) 28) .nil .nil) .nil))) (.node (e0) (.node (kO (q1 P) 23) (.node (kO (q3 P) 5) (.node (kO (q6 P) 2) .nil .nil) .nil) (.node (kO (q4 P) 19) (.node (kO (q7 P) 17) .nil .nil) .nil)) (.node (kO (q2 P) 14) (.node (tO (q3 P) 29) (.node (kO (q6 P) 26) .nil .nil) .nil) (.node (e0) (.node (tO (q8 P) 9) .nil .nil) .nil))))) (.node (p14 P) (.node (kO (q0 P) 7) (.node (kO (q0 P) 18) (.node (kO (q1 P) 9) (.node (e0) (.node (kO (q5 P) 19) .nil .nil) .nil) (.node (kO (q4 P) 4) (.node (e0) .nil .nil) .nil)) (.node (tO (q2 P) 1) (.node (kO (q3 P) 13) (.node (kO (q6 P) 11) .nil .nil) .nil) (.node (kO (q4 P) 27) (.node (kO (q7 P) 25) .nil .nil) .nil))) (.node (tO (q0 P) 31) (.node (kO (q1 P) 20) (.node (kO (q3 P) 2) (.node (kO (q5 P) 31) .nil .nil) .nil) (.node (tO (q4 P) 17) (.node (kO (q7 P) 14) .nil .nil) .nil)) (.node (kO (q2 P) 11) (.node (kO (q3 P) 25) (.node (kO (q6 P) 23) .nil .nil) .nil) (.node (kO (q5 P) 7) (.node (kO (q8 P) 5) .nil .nil) .nil)))) (.node (e0) (.node (kO (q0 P) 24) (.node (kO (q1 P) 15) (.node (kO (q2 P) 28) (.node (kO (q5 P) 25) .nil .nil) .nil) (.node (kO (q4 P) 10) (.node (kO (q7 P) 8) .nil .nil) .nil)) (.node (kO (q2 P) 5) (.node (kO (q3 P) 19) (.node (kO (q6 P) 17) .nil .nil) .nil) (.node (kO (q5 P) 1) (.node (kO (q7 P) 31) .nil .nil) .nil))) (.node (kO (q1 P) 3) (.node (kO (q1 P) 26) (.node (tO (q3 P) 9) (.node (kO (q6 P) 5) .nil .nil) .nil) (.node (tO (q4 P) 23) (.node (tO (q7 P) 21) .nil .nil) .nil)) (.node (kO (q2 P) 17) (.node (e0) (.node (kO (q6 P) 29) .nil .nil) .nil) (.node (kO (q5 P) 13) .nil .nil))))))))
def heap9 (P : Params) : Heap := { objs := #[boot_o_0 P, boot_o_1 P, boot_o_2 P, kO (q0 P) 1, boot_o_4 P, boot_o_5 P, boot_o_6 P, boot_o_7 P, boot_o_8 P, boot_o_9 P, boot_o_10 P, p11 P, f12 P, p13 P, p14 P, kO (q0 P) 2, e0, kO (q0 P) 3, kO (q0 P) 4, tO (q0 P) 6, kO (q0 P) 5, kO (q0 P) 6, kO (q0 P) 7, e0, kO (q0 P) 8, kO (q0 P) 9, tO (q0 P) 11, kO (q0 P) 10, kO (q0 P) 11, kO (q0 P) 12, e0, kO (q0 P) 13, kO (q0 P) 14, tO (q0 P) 16, kO (q0 P) 15, kO (q0 P) 16, kO (q0 P) 17, e0, kO (q0 P) 18, kO (q0 P) 19, tO (q0 P) 21, kO (q0 P) 20, kO (q0 P) 21, kO (q0 P) 22, e0, kO (q0 P) 23, kO (q0 P) 24, tO (q0 P) 26, kO (q0 P) 25, kO (q0 P) 26, kO (q0 P) 27, e0, kO (q0 P) 28, kO (q0 P) 29, tO (q0 P) 31, kO (q0 P) 30, kO (q0 P) 31, kO (q1 P) 0, e0, kO (q1 P) 1, kO (q1 P) 2, tO (q1 P) 4, kO (q1 P) 3, kO (q1 P) 4, kO (q1 P) 5, e0, kO (q1 P) 6, kO (q1 P) 7, tO (q1 P) 9, kO (q1 P) 8, kO (q1 P) 9, kO (q1 P) 10, e0, kO (q1 P) 11, kO (q1 P) 12, tO (q1 P) 14, kO (q1 P) 13, kO (q1 P) 14, kO (q1 P) 15, e0, tO (q1 P) 17, kO (q1 P) 16, kO (q1 P) 17, kO (q1 P) 18, kO (q1 P) 19, e0, kO (q1 P) 20, kO (q1 P) 21, tO (q1 P) 23, kO (q1 P) 22, kO (q1 P) 23, kO (q1 P) 24, e0, kO (q1 P) 25, kO (q1 P) 26, tO (q1 P) 28, kO (q1 P) 27, kO (q1 P) 28, kO (q1 P) 29, e0, kO (q1 P) 30, kO (q1 P) 31, tO (q2 P) 1, kO (q2 P) 0, kO (q2 P) 1, kO (q2 P) 2, e0, kO (q2 P) 3, kO (q2 P) 4, tO (q2 P) 6, kO (q2 P) 5, kO (q2 P) 6, kO (q2 P) 7, e0, kO (q2 P) 8, kO (q2 P) 9, tO (q2 P) 11, kO (q2 P) 10, kO (q2 P) 11, kO (q2 P) 12, e0, kO (q2 P) 13, kO (q2 P) 14, tO (q2 P) 16, kO (q2 P) 15, kO (q2 P) 16, kO (q2 P) 17, e0, kO (q2 P) 18, kO (q2 P) 19, tO (q2 P) 21, kO (q2 P) 20, kO (q2 P) 21, kO (q2 P) 22, e0, kO (q2 P) 23, kO (q2 P) 24, tO (q2 P) 26, kO (q2 P) 25, kO (q2 P) 26, kO (q2 P) 27, e0, kO (q2 P) 28, kO (q2 P) 29, tO (q2 P) 31, kO (q2 P) 30, kO (q2 P) 31, kO (q3 P) 0, e0, kO (q3 P) 1, kO (q3 P) 2, tO (q3 P) 4, kO (q3 P) 3, kO (q3 P) 4, kO (q3 P) 5, e0, kO (q3 P) 6, kO (q3 P) 7, tO (q3 P) 9, kO (q3 P) 8, kO (q3 P) 9, kO (q3 P) 10, e0, kO (q3 P) 11, kO (q3 P) 12, tO (q3 P) 14, kO (q3 P) 13, kO (q3 P) 14, kO (q3 P) 15, e0, kO (q3 P) 16, kO (q3 P) 17, tO (q3 P) 19, kO (q3 P) 18, kO (q3 P) 19, kO (q3 P) 20, e0, kO (q3 P) 21, kO (q3 P) 22, tO (q3 P) 24, kO (q3 P) 23, kO (q3 P) 24, kO (q3 P) 25, e0, kO (q3 P) 26, kO (q3 P) 27, tO (q3 P) 29, kO (q3 P) 28, kO (q3 P) 29, kO (q3 P) 30, e0, kO (q3 P) 31, kO (q4 P) 0, tO (q4 P) 2, kO (q4 P) 1, kO (q4 P) 2, kO (q4 P) 3, e0, kO (q4 P) 4, kO (q4 P) 5, tO (q4 P) 7, kO (q4 P) 6, kO (q4 P) 7, kO (q4 P) 8, e0, kO (q4 P) 9, kO (q4 P) 10, tO (q4 P) 12, kO (q4 P) 11, kO (q4 P) 12, kO (q4 P) 13, e0, kO (q4 P) 14, kO (q4 P) 15, tO (q4 P) 17, kO (q4 P) 16, kO (q4 P) 17, kO (q4 P) 18, kO (q4 P) 19, e0, kO (q4 P) 20, kO (q4 P) 21, tO (q4 P) 23, kO (q4 P) 22, kO (q4 P) 23, kO (q4 P) 24, e0, kO (q4 P) 25, kO (q4 P) 26, tO (q4 P) 28, kO (q4 P) 27, kO (q4 P) 28, kO (q4 P) 29, kO (q4 P) 30, e0, kO (q4 P) 31, kO (q5 P) 0, tO (q5 P) 2, kO (q5 P) 1, kO (q5 P) 2, kO (q5 P) 3, kO (q5 P) 4, e0, kO (q5 P) 5, kO (q5 P) 6, tO (q5 P) 8, kO (q5 P) 7, kO (q5 P) 8, kO (q5 P) 9, kO (q5 P) 10, e0, kO (q5 P) 11, kO (q5 P) 12, tO (q5 P) 14, kO (q5 P) 13, kO (q5 P) 14, kO (q5 P) 15, kO (q5 P) 16, e0, kO (q5 P) 17, kO (q5 P) 18, tO (q5 P) 20, kO (q5 P) 19, kO (q5 P) 20, kO (q5 P) 21, kO (q5 P) 22, e0, kO (q5 P) 23, kO (q5 P) 24, tO (q5 P) 26, kO (q5 P) 25, kO (q5 P) 26, kO (q5 P) 27, kO (q5 P) 28, e0, kO (q5 P) 29, kO (q5 P) 30, tO (q6 P) 0, kO (q5 P) 31, kO (q6 P) 0, kO (q6 P) 1, e0, kO (q6 P) 2, kO (q6 P) 3, tO (q6 P) 5, kO (q6 P) 4, kO (q6 P) 5, kO (q6 P) 6, kO (q6 P) 7, e0, kO (q6 P) 8, kO (q6 P) 9, tO (q6 P) 11, kO (q6 P) 10, kO (q6 P) 11, kO (q6 P) 12, e0, kO (q6 P) 13, kO (q6 P) 14, tO (q6 P) 16, kO (q6 P) 15, kO (q6 P) 16, kO (q6 P) 17, kO (q6 P) 18, e0, kO (q6 P) 19, kO (q6 P) 20, tO (q6 P) 22, kO (q6 P) 21, kO (q6 P) 22, kO (q6 P) 23, kO (q6 P) 24, e0, kO (q6 P) 25, kO (q6 P) 26, tO (q6 P) 28, kO (q6 P) 27, kO (q6 P) 28, kO (q6 P) 29, e0, kO (q6 P) 30, kO (q6 P) 31, tO (q7 P) 1, kO (q7 P) 0, kO (q7 P) 1, kO (q7 P) 2, e0, kO (q7 P) 3, kO (q7 P) 4, tO (q7 P) 6, kO (q7 P) 5, kO (q7 P) 6, kO (q7 P) 7, e0, kO (q7 P) 8, kO (q7 P) 9, tO (q7 P) 11, kO (q7 P) 10, kO (q7 P) 11, kO (q7 P) 12, e0, kO (q7 P) 13, kO (q7 P) 14, tO (q7 P) 16, kO (q7 P) 15, kO (q7 P) 16, kO (q7 P) 17, e0, kO (q7 P) 18, kO (q7 P) 19, tO (q7 P) 21, kO (q7 P) 20, kO (q7 P) 21, kO (q7 P) 22, e0, kO (q7 P) 23, kO (q7 P) 24, tO (q7 P) 26, kO (q7 P) 25, kO (q7 P) 26, kO (q7 P) 27, e0, kO (q7 P) 28, kO (q7 P) 29, tO (q7 P) 31, kO (q7 P) 30, kO (q7 P) 31, kO (q8 P) 0, e0, kO (q8 P) 1, kO (q8 P) 2, tO (q8 P) 4, kO (q8 P) 3, kO (q8 P) 4, kO (q8 P) 5, e0, kO (q8 P) 6, kO (q8 P) 7, tO (q8 P) 9, kO (q8 P) 8, kO (q8 P) 9], life := {} }
def tst1 : List Stmt := ((behindTheImports pw9).drop 0).take 20
def tst2 : List Stmt := ((behindTheImports pw9).drop 20).take 23
def tst3 : List Stmt := ((behindTheImports pw9).drop 43).take 18
def tst4 : List Stmt := ((behindTheImports pw9).drop 61).take 21
def tst5 : List Stmt := ((behindTheImports pw9).drop 82).take 18
def tst6 : List Stmt := ((behindTheImports pw9).drop 100).take 10
abbrev S9 (w : World) (os : OsState) : Shared := { heap := heap9 w.params, gens := #[], drawn := {}, toks := 824, os := os }
abbrev Xt9 (s : Shared) : Bool := xlAt view9 [] s && recOk PySem.Challenge.rw_jk0007_01.row.toRowW.records s
theorem pre9 (w : World) : (fun os => topGo treeTable pw9 w 11 (some (Value.ref 6)) 12 { heap := boot_heap w.params, gens := #[], drawn := boot_drawn, toks := boot_toks, os := os } (topStub pw9)) =
    fun os => some (({ heap := heap0 w.params, gens := #[], drawn := {}, toks := 187, os := os } : Shared), ({ cur := denote treeTable cd9, code := cd9, pos := z9, stack := [topFrame z9] } : Thread)) := by
  kernel_rfl
theorem blk9 (w : World) : (fun os => segRun treeTable pw9 w 11 (some (Value.ref 6)) 1 1 { heap := heap0 w.params, gens := #[], drawn := {}, toks := 187, os := os } (blockOf (behindTheImports pw9) env9 cd9 z9 [topFrame z9])) =
    fun os => some (Flow.next, SharedT.abs { tree := tree0 w.params, n := 15, life := {}, gens := #[], drawn := {}, toks := 187, os := os }, cd9, z9) := by
  rw [PySem.W.Fast.te14374325043358763698, PySem.W.Fast.te14364793385576792824]
  kernel_rfl
theorem al1 (w : World) : (fun os => segRunT treeTable pw9 w 11 (some (Value.ref 6)) 1 389 { tree := tree0 w.params, n := 15, life := {}, gens := #[], drawn := {}, toks := 187, os := os } (piecesOf tst1 env9 cd9 z9 [topFrame z9])) =
    fun os => some (Flow.next, ({ tree := tree118 w.params, n := 83, life := {}, gens := #[], drawn := {}, toks := 287, os := os } : SharedT), cd9, (Pos.mk 38 0 38 9)) := by
  rw [PySem.W.Fast.te10110043849684766642, PySem.W.Fast.te14364793385576792824]
  kernel_rfl
theorem al2 (w : World) : (fun os => segRunT treeTable pw9 w 11 (some (Value.ref 6)) 1 383 { tree := tree118 w.params, n := 83, life := {}, gens := #[], drawn := {}, toks := 287, os := os } (piecesOf tst2 env9 cd9 (Pos.mk 38 0 38 9) [topFrame z9])) =
    fun os => some (Flow.next, ({ tree := tree170 w.params, n := 133, life := {}, gens := #[], drawn := {}, toks := 395, os := os } : SharedT), cd9, (Pos.mk 109 0 117 12)) := by
  rw [PySem.W.Fast.te10110043849684766642, PySem.W.Fast.te14364793385576792824]
  kernel_rfl
theorem al3 (w : World) : (fun os => segRunT treeTable pw9 w 11 (some (Value.ref 6)) 1 399 { tree := tree170 w.params, n := 133, life := {}, gens := #[], drawn := {}, toks := 395, os := os } (piecesOf tst3 env9 cd9 (Pos.mk 109 0 117 12) [topFrame z9])) =
    fun os => some (Flow.next, ({ tree := tree242 w.params, n := 203, life := {}, gens := #[], drawn := {}, toks := 505, os := os } : SharedT), cd9, (Pos.mk 193 0 193 13)) := by
  rw [PySem.W.Fast.te10110043849684766642, PySem.W.Fast.te14364793385576792824]
  kernel_rfl
theorem al4 (w : World) : (fun os => segRunT treeTable pw9 w 11 (some (Value.ref 6)) 1 395 { tree := tree242 w.params, n := 203, life := {}, gens := #[], drawn := {}, toks := 505, os := os } (piecesOf tst4 env9 cd9 (Pos.mk 193 0 193 13) [topFrame z9])) =
    fun os => some (Flow.next, ({ tree := tree305 w.params, n := 264, life := {}, gens := #[], drawn := {}, toks := 613, os := os } : SharedT), cd9, (Pos.mk 272 0 272 12)) := by
  rw [PySem.W.Fast.te10110043849684766642, PySem.W.Fast.te14364793385576792824]
  kernel_rfl
theorem al5 (w : World) : (fun os => segRunT treeTable pw9 w 11 (some (Value.ref 6)) 1 380 { tree := tree305 w.params, n := 264, life := {}, gens := #[], drawn := {}, toks := 613, os := os } (piecesOf tst5 env9 cd9 (Pos.mk 272 0 272 12) [topFrame z9])) =
    fun os => some (Flow.next, ({ tree := tree368 w.params, n := 325, life := {}, gens := #[], drawn := {}, toks := 729, os := os } : SharedT), cd9, (Pos.mk 400 0 400 9)) := by
  rw [PySem.W.Fast.te10110043849684766642, PySem.W.Fast.te14364793385576792824]
  kernel_rfl
theorem al6 (w : World) : (fun os => segRunT treeTable pw9 w 11 (some (Value.ref 6)) 1 288 { tree := tree368 w.params, n := 325, life := {}, gens := #[], drawn := {}, toks := 729, os := os } (piecesOf tst6 env9 cd9 (Pos.mk 400 0 400 9) [topFrame z9])) =
    fun os => some (Flow.next, ({ tree := tree9 w.params, n := 381, life := {}, gens := #[], drawn := {}, toks := 824, os := os } : SharedT), cd9, y9) := by
  rw [PySem.W.Fast.te10110043849684766642, PySem.W.Fast.te14364793385576792824]
  kernel_rfl
theorem cells9 : behindTheImports pw9 = tst1 ++ (tst2 ++ (tst3 ++ (tst4 ++ (tst5 ++ (tst6 ++ []))))) := by kernel_rfl
theorem fin9 (w : World) : (fun os => topRun treeTable pw9 w 11 (some (Value.ref 6)) 2 (SharedT.abs { tree := tree9 w.params, n := 381, life := {}, gens := #[], drawn := {}, toks := 824, os := os }) (restOf [] env9 cd9 y9 [topFrame z9])) =
    fun os => some (S9 w os) := by
  rw [PySem.W.Fast.te14082659384304107361, PySem.W.Fast.te14364793385576792824]
  kernel_rfl
theorem run9 (w : World) (os : OsState) : topRun treeTable pw9 w 11 (some (Value.ref 6)) (12 + (1 + (389 + (383 + (399 + (395 + (380 + (288 + 2)))))))) { heap := boot_heap w.params, gens := #[], drawn := boot_drawn, toks := boot_toks, os := os } (topStub pw9) = some (S9 w os) := by
  have h := piece_app (env := env9) (q := z9) (segRun_of (congrFun (al1 w) os)) (piece_app (env := env9) (q := z9) (segRun_of (congrFun (al2 w) os)) (piece_app (env := env9) (q := z9) (segRun_of (congrFun (al3 w) os))
    (piece_app (env := env9) (q := z9) (segRun_of (congrFun (al4 w) os)) (piece_app (env := env9) (q := z9) (segRun_of (congrFun (al5 w) os)) (piece_app (env := env9) (q := z9) (rest := []) (segRun_of (congrFun (al6 w) os)) (congrFun (fin9 w) os))))))
  rw [← cells9] at h
  exact go_top (congrFun (pre9 w) os) (piece_block (congrFun (blk9 w) os) h)
theorem open9 : ∀ w : World, (fencedOpening treeTable pw9 w 4582).map (fun s => (s.heap, s.gens, s.drawn, s.toks)) = some (boot_heap w.params, #[], boot_drawn, boot_toks) :=
  boot_open (by kernel_rfl) (by kernel_rfl) (fun s => by kernel_rfl)
theorem size9 (w : World) : ((boot_heap w.params).isNs mainGlobals && (#[] : Array GenState).size == 0, (boot_heap w.params).objs.size, (boot_heap w.params).nsMap mainGlobals "__annotations__") = (true, 11, some (Value.ref 6)) := by
  rw [PySem.W.Fast.te8920871248978507458]
  kernel_rfl
theorem la9 (w : World) : (fun os => (staticsOk (importedModules pw9.main.body) (boot_heap w.params) (heap9 w.params) && namesBound pw9 (heap9 w.params) && gensDone (S9 w os) && laidKept (boot_heap w.params) (heap9 w.params))) = fun _ => true := by
  rw [PySem.W.Fast.te5923862056798008813]
  kernel_rfl
theorem lb9 (w : World) : (fun os => seen ((recsOf view9).map (·.name)) (ownsOf view9) [] { S9 w os with gens := #[] }) = fun _ => expectedOf view9 := by
  rw [PySem.W.Fast.te5160383126252970620, PySem.W.R.mapR_eq, PySem.W.Fast.te3399658132070893891, PySem.W.Fast.te5991557255702980513]
  kernel_rfl
theorem lc9 (w : World) : (fun os => (S9 w os).heap.bltView) = fun _ => bltViewBooted := by kernel_rfl
theorem ld9a (w : World) : (fun os => (S9 w os).heap.keysOk (looseW view9 loose9) ((recsOf view9).map (·.name)) ((litsOf view9).map (·.1)) ((clssOf view9 (looseW view9 loose9)).map (·.name))) = fun _ => true := by
  rw [PySem.W.Fast.te10880121769531294198, PySem.W.Fast.te821141287760084731, PySem.W.R.mapR_eq, PySem.W.Fast.te3399658132070893891, PySem.W.Fast.te7409074990110511671, PySem.W.Fast.te13664370479719496447]
  kernel_rfl
theorem ld9b (w : World) : (fun os => (S9 w os).heap.accountedOkI (importedModules pw9.main.body)) = fun _ => true := by
  rw [PySem.W.Fast.te14722251495701143533, PySem.W.Fast.te5923862056798008813]
  kernel_rfl
theorem ld9n (w : World) : (fun os => (S9 w os).heap.isNs mainGlobals) = fun _ => true := by kernel_rfl
theorem ld9i (w : World) : (fun os => (S9 w os).heap.isNs builtinsNs) = fun _ => true := by kernel_rfl
theorem ld9c (w : World) : (fun os => tablesOk view9 (S9 w os).heap) = fun _ => true := by
  rw [PySem.W.Fast.te10994771534591457954]
  kernel_rfl
theorem ld9d (w : World) : (fun os => Xt9 (S9 w os)) = fun _ => true := by kernel_rfl
theorem ld9e (w : World) : (fun os => (S9 w os).gens.size == 0) = fun _ => true := by kernel_rfl
theorem ld9 (w : World) : (fun os => ((S9 w os).heap.keysOk (looseW view9 loose9) ((recsOf view9).map (·.name)) ((litsOf view9).map (·.1)) ((clssOf view9 (looseW view9 loose9)).map (·.name)) && (S9 w os).heap.accountedOkI (importedModules pw9.main.body) && (S9 w os).heap.isNs mainGlobals && (S9 w os).heap.isNs builtinsNs &&
    tablesOk view9 (S9 w os).heap && Xt9 (S9 w os) && (S9 w os).gens.size == 0)) = fun _ => true := by
  funext os
  exact look_both (look_both (look_both (look_both (look_both (look_both (congrFun (ld9a w) os) (congrFun (ld9b w) os)) (congrFun (ld9n w) os)) (congrFun (ld9i w) os)) (congrFun (ld9c w) os)) (congrFun (ld9d w) os)) (congrFun (ld9e w) os)
theorem le9 (w : World) : (fun os => tabsOk view9 (S9 w os)) = fun _ => true := by
  rw [PySem.W.Fast.te479339242167458305]
  kernel_rfl
theorem lf9 (w : World) : (fun os => pinSeenD view9 (drecsOf view9) (S9 w os)) = fun _ => pinGoodD (drecsOf view9) := by
  rw [PySem.W.Fast.te16090120013241838585, PySem.W.Fast.te3247288618530077131]
  kernel_rfl
theorem lg9 (w : World) : (fun os => plainSeenE view9 (looseW view9 loose9) (S9 w os)) = fun _ => plainGoodE view9 (looseW view9 loose9) := by
  rw [PySem.W.Fast.te2386780881361962483, PySem.W.Fast.te821141287760084731]
  kernel_rfl
theorem lh9 (w : World) : (fun os => plainSeenD view9 loose9 (S9 w os)) = fun _ => plainGoodD view9 loose9 := by
  rw [PySem.W.Fast.te11698064438423848299]
  kernel_rfl
theorem li9 (w : World) : (fun os => wideSeen view9 (S9 w os)) = fun _ => wideGood view9 := by
  rw [PySem.W.Fast.te7317090234206586261]
  kernel_rfl
theorem lj9 (w : World) : (fun os => clsSeenW view9 loose9 (S9 w os)) = fun _ => clsGoodW view9 loose9 := by
  rw [PySem.W.Fast.te7369524293546568484]
  kernel_rfl
abbrev as9 : List Addr := [2, 3, 15, 17, 18, 20, 21, 22, 24, 25, 27, 28, 29, 31, 32, 34, 35, 36, 38, 39, 41, 42, 43, 45, 46, 48, 49, 50, 52, 53, 55, 56, 57, 59, 60, 62, 63, 64, 66, 67, 69, 70, 71, 73, 74, 76, 77, 78, 81, 82, 83, 84, 86, 87, 89, 90, 91, 93, 94, 96, 97, 98, 100, 101, 103, 104, 105, 107, 108, 110, 111, 112, 114, 115, 117, 118, 119, 121, 122, 124, 125, 126, 128, 129, 131, 132, 133, 135, 136, 138, 139, 140, 142, 143, 145, 146, 147, 149, 150, 152, 153, 154, 156, 157, 159, 160, 161, 163, 164, 166, 167, 168, 170, 171, 173, 174, 175, 177, 178, 180, 181, 182, 184, 185, 187, 188, 189, 191, 192, 194, 195, 196, 198, 199, 201, 202, 203, 205, 206, 208, 209, 210, 212, 213, 215, 216, 217, 218, 220, 221, 223, 224, 225, 227, 228, 230, 231, 232, 233, 235, 236, 238, 239, 240, 241, 243, 244, 246, 247, 248, 249, 251, 252, 254, 255, 256, 257, 259, 260, 262, 263, 264, 265, 267, 268, 270, 271, 272, 273, 275, 276, 278, 279, 280, 282, 283, 285, 286, 287, 288, 290, 291, 293, 294, 295, 297, 298, 300, 301, 302, 303, 305, 306, 308, 309, 310, 311, 313, 314, 316, 317, 318, 320, 321, 323, 324, 325, 327, 328, 330, 331, 332, 334, 335, 337, 338, 339, 341, 342, 344, 345, 346, 348, 349, 351, 352, 353, 355, 356, 358, 359, 360, 362, 363, 365, 366, 367, 369, 370, 372, 373, 374, 376, 377, 379, 380]
theorem as9_eq : ∀ P, as9 = (kk.heap_1 P).map (·.1) := fun _ => by kernel_rfl
theorem lk9 (w : World) : (fun os => (kHook kk.heap_1 as9 as9_eq).obs (S9 w os)) = fun _ => (kHook kk.heap_1 as9 as9_eq).val w := by kernel_rfl
theorem left9 : LeftO pw9 view9 loose9 Xt9 (kHook kk.heap_1 as9 as9_eq).obs (kHook kk.heap_1 as9 as9_eq).val 4582 :=
  LeftO.of_pieces (H₀ := boot_heap) (H₁ := heap9) open9 size9 run9 (by decide) fun w => by
    funext os
    exact looks_pair (congrFun (la9 w) os) (looks_pair (looks_pair (congrFun (lb9 w) os) (looks_pair (congrFun (lc9 w) os) (looks_pair (congrFun (ld9 w) os) (looks_pair (congrFun (le9 w) os) (looks_pair (congrFun (lf9 w) os) (looks_pair (congrFun (lg9 w) os)
      (looks_pair (congrFun (lh9 w) os) (looks_pair (congrFun (li9 w) os) (congrFun (lj9 w) os))))))))) (congrFun (lk9 w) os))
end
theorem sl1 : sreFenced pw9.main = true := by
  rw [PySem.W.Fast.te11788848310118352699]
  kernel_rfl
theorem sl2 : ((moduleNames pw9.main.body).isEmpty || lookedIntoSs (moduleNames pw9.main.body) pw9.main.body) = true := by
  rw [PySem.W.Fast.te9807087744658564304, PySem.W.Fast.te12862048085361865435]
  kernel_rfl
theorem sl3 : namesResolve pw9 = true := by
  rw [PySem.W.Fast.te8377067652309620493]
  kernel_rfl
theorem sl4 : pw9.boundNames.all (fun n => !worldNames.contains n) = true := by
  rw [PySem.W.Fast.te18344453789297297638]
  kernel_rfl
theorem slS : (!(importedModules pw9.main.body).all cThrough.contains) = false := by
  rw [PySem.W.Fast.te5923862056798008813]
  kernel_rfl
theorem ro1 : readsOut pw9 pw9.main.body "vars" = false := by
  kernel_rfl
theorem ro2 : readsOut pw9 pw9.main.body "dir" = false := by
  kernel_rfl
theorem ro3 : readsOut pw9 pw9.main.body "locals" = false := by
  kernel_rfl
theorem slB : (["vars", "dir", "locals"] : List Str).filter (readsOut pw9 pw9.main.body) = [] := by
  rw [List.filter_cons, ro1, List.filter_cons, ro2, List.filter_cons, ro3]; rfl
theorem sn1 : noRoadLSs { strict := false, foot := none } pw9.main.body = true := by
  rw [PySem.W.Fast.te8326940854005059898]
  kernel_rfl
theorem sl5 : noRoadLSs { strict := !(importedModules pw9.main.body).all cThrough.contains, foot := none, bare := (["vars", "dir", "locals"] : List Str).filter (readsOut pw9 pw9.main.body) } pw9.main.body = true := by
  rw [slS, slB]
  exact sn1
theorem sl6 : namesMeet pw9 pw9.main.body (fun _ n => attrL n) = true := by
  rw [PySem.W.Fast.te17119622794617984870]
  kernel_rfl
theorem saidL : looksOpen PySem.Challenge.rw_jk0007_01.row.prog = true := by
  show looksOpen pw9 = true
  unfold looksOpen
  exact look_both (look_both (look_both (look_both (look_both sl1 sl2) sl3) sl4) sl5) sl6
theorem saidP : PySem.Challenge.rw_jk0007_01.row.wellSaid = true := by
  unfold OpenRow.wellSaid OpenRow.partSaid
  rw [saidL, PySem.W.Fast.te18344453789297297638, PySem.W.Fast.te13582783067957832011, PySem.W.Fast.te5318747976498570220, PySem.W.Fast.te12749700546528644094]
  kernel_rfl
theorem sw1 : namesMeet PySem.Challenge.rw_jk0007_01.prog PySem.Challenge.rw_jk0007_01.above (fun _ n => !PySem.Challenge.rw_jk0007_01.own.contains n) = true := by
  kernel_rfl
theorem sw2 : (namesMeet PySem.Challenge.rw_jk0007_01.prog PySem.Challenge.rw_jk0007_01.footing fun sc n => sc.kind == .module || sc.names.lookup n != some .globalExplicit) = true := by
  kernel_rfl
theorem sw3 : namesMeet PySem.Challenge.rw_jk0007_01.prog PySem.Challenge.rw_jk0007_01.footing (fun sc n => (!(["type", "isinstance", "issubclass", "getattr", "hasattr"] : List Str).contains n || sc.names.lookup n == some .globalImplicit) &&
    (PySem.Challenge.rw_jk0007_01.may != some n || sc.kind == .module || sc.names.lookup n == some .globalImplicit)) = true := by
  kernel_rfl
theorem sw4 : (PySem.Challenge.rw_jk0007_01.own.eraseDups.length == PySem.Challenge.rw_jk0007_01.own.length) = true := by
  rw [PySem.W.Fast.te7723801398212525404]
  kernel_rfl
theorem sw5 : PySem.Challenge.rw_jk0007_01.own.all (fun n => !builtinNamed n) = true := by
  kernel_rfl
theorem sw6 : PySem.Challenge.rw_jk0007_01.own.contains PySem.Challenge.rw_jk0007_01.name = true := by
  kernel_rfl
theorem said9 : PySem.Challenge.rw_jk0007_01.wellSaid = true := by
  unfold OpenLaw.wellSaid
  refine look_both (look_both (look_both (look_both (look_both (look_both ?_ sw3) sw6) sw4) sw5) sw1) sw2
  rw [saidP, PySem.W.Fast.te8326940854005059898, PySem.W.Fast.te8179353310426384613, PySem.W.Fast.te16286561074155671207, PySem.W.Fast.te9558739934217749035, PySem.W.Fast.te10501279942588096481, PySem.W.Fast.te482687673346738481]
  kernel_rfl
theorem pr9 : PySem.Challenge.rw_jk0007_01.row.promised := by w_witness2
theorem ws_cons (t : Scope) (cx : TablesWhole.Ctx) (sc : Scope) (s : Stmt) (r : List Stmt) : TablesWhole.wSs TablesWhole.holds t cx sc (s :: r) = (TablesWhole.wS TablesWhole.holds t cx sc s && TablesWhole.wSs TablesWhole.holds t cx sc r) := rfl
theorem ws_cut (t : Scope) (cx : TablesWhole.Ctx) (sc : Scope) (n : Nat) {b : List Stmt} (h1 : TablesWhole.wSs TablesWhole.holds t cx sc (b.take n) = true) (h2 : TablesWhole.wSs TablesWhole.holds t cx sc (b.drop n) = true) : TablesWhole.wSs TablesWhole.holds t cx sc b = true := by
  induction b generalizing n with
  | nil => rw [List.take_nil] at h1; exact h1
  | cons s r ih =>
    cases n with
    | zero => exact h2
    | succ n =>
      rw [List.take_succ_cons, ws_cons] at h1
      rw [ws_cons]
      exact look_both (Bool.and_eq_true_iff.mp h1).1 (ih n (Bool.and_eq_true_iff.mp h1).2 h2)
theorem wm_of (m : PySem.Module) (h0 : TablesWhole.wSs TablesWhole.gather m.scope ⟨m.scope, [], [], [], none⟩ m.scope m.body = []) (h1 : TablesWhole.noTwice m.scope = true)
    (h2 : TablesWhole.wSs TablesWhole.holds m.scope ⟨m.scope, [], [], [], none⟩ m.scope m.body = true) : TablesWhole.wModule TablesWhole.holds m = true := by
  unfold TablesWhole.wModule
  rw [h0]
  show (true && (TablesWhole.noTwice m.scope && (TablesWhole.wSs TablesWhole.holds m.scope ⟨m.scope, [], [], [], none⟩ m.scope m.body && true))) = true
  rw [h1, h2]; rfl
theorem whole_of (p : Program) (h : TablesWhole.wModule TablesWhole.holds p.main = true) (h1 : p.modules = []) (h2 : p.parses = []) (h3 : p.harvested = []) : p.tablesWhole = true := by
  unfold Program.tablesWhole TablesWhole.wProgram
  rw [h1, h2, h3]
  show (TablesWhole.wModule TablesWhole.holds p.main && true) = true
  rw [h]; rfl
theorem told9 : TablesWhole.wSs TablesWhole.gather pw9.main.scope ⟨pw9.main.scope, [], [], [], none⟩ pw9.main.scope pw9.main.body = [] := by kernel_rfl
theorem twice9 : TablesWhole.noTwice pw9.main.scope = true := by kernel_rfl
theorem wsA : TablesWhole.wSs TablesWhole.holds pw9.main.scope ⟨pw9.main.scope, [], [], [], none⟩ pw9.main.scope (pw9.main.body.take 80) = true := by decide +kernel
theorem wsB : TablesWhole.wSs TablesWhole.holds pw9.main.scope ⟨pw9.main.scope, [], [], [], none⟩ pw9.main.scope (pw9.main.body.drop 80) = true := by decide +kernel
theorem whole9 : pw9.tablesWhole = true := whole_of pw9 (wm_of _ told9 twice9 (ws_cut _ _ _ 80 wsA wsB)) rfl rfl rfl
end Mine
open PySem PySem.Spec PySem.Calls PySem.W PyProof.Rows
set_option Elab.async false
set_option maxRecDepth 100000
set_option maxHeartbeats 8000000
set_option linter.unusedSimpArgs false
set_option linter.unusedVariables false
namespace Mine
/-- what a call of a def tells that makes nothing: its value; n frames deep -/
def CtV (w : World) (f : Addr) (n : Nat) (vs : List Value) (kw : List (Str × Value)) (R : Tok → Value) : Prop :=
  ∀ (loose : List Str) (mean : ExcName → Option Value) (mg mb : Str → Option Value) (dp un : Nat) (gd : Option (List Code)) (cn : Str) (cs : Scope) (a : Addr) (ccd : Value) (cl : List (Str × Addr)) (outer : List Env) (A₀ : Around) (base h₀ : Heap) (L : Addr) (m : Str → Option Value) (news : List (Addr × Obj)) (s : Shared) (Q E : Value → Shared → Prop),
    Below A₀ base outer h₀ → Fr h₀ L s.heap m → (kk.heap_1 w.params).In h₀ → News h₀ L s.heap news → Top view9 loose mean mg mb h₀ → cs.kind = .function → dp + n < recursionLimit → un + 8 * n < cLine →
    (∀ (t : Tok) (h' : Heap) (tk' : Nat), Fr h₀ L h' m → News h₀ L h' news → Q (R t) { s with heap := h', toks := tk' }) →
    wpAny (model PySem.Challenge.rw_jk0007_01.row.prog w) (ktrTop dp un gd cn cs L a ccd cl outer) (call (.ref f) vs kw) Q E s

abbrev tup3 (x y z : Int) (t1 t2 t3 : Tok) (c : Nat) : Obj := { cls := .type "tuple", data := .seq #[.int x t1, .int y t2, .int z t3] c }
abbrev tup5 (x y z u v : Int) (t1 t2 t3 t4 t5 : Tok) (c : Nat) : Obj := { cls := .type "tuple", data := .seq #[.int x t1, .int y t2, .int z t3, .int u t4, .int v t5] c }

/-- the same of a def that hands back a new tuple of three ints -/
def CtT (w : World) (f : Addr) (n : Nat) (vs : List Value) (kw : List (Str × Value)) (x y z : Int) : Prop :=
  ∀ (loose : List Str) (mean : ExcName → Option Value) (mg mb : Str → Option Value) (dp un : Nat) (gd : Option (List Code)) (cn : Str) (cs : Scope) (a : Addr) (ccd : Value) (cl : List (Str × Addr)) (outer : List Env) (A₀ : Around) (base h₀ : Heap) (L : Addr) (m : Str → Option Value) (news : List (Addr × Obj)) (s : Shared) (Q E : Value → Shared → Prop),
    Below A₀ base outer h₀ → Fr h₀ L s.heap m → (kk.heap_1 w.params).In h₀ → News h₀ L s.heap news → Top view9 loose mean mg mb h₀ → cs.kind = .function → dp + n < recursionLimit → un + 8 * n < cLine →
    (∀ (D : Addr) (t1 t2 t3 : Tok) (c : Nat) (h' : Heap) (tk' : Nat), Fr h₀ L h' m → News h₀ L h' ((D, tup3 x y z t1 t2 t3 c) :: news) → AllLt D news → Q (.ref D) { s with heap := h', toks := tk' }) →
    wpAny (model PySem.Challenge.rw_jk0007_01.row.prog w) (ktrTop dp un gd cn cs L a ccd cl outer) (call (.ref f) vs kw) Q E s
def CtF (w : World) (f : Addr) (n : Nat) (vs : List Value) (kw : List (Str × Value)) (x y z u v : Int) : Prop :=
  ∀ (loose : List Str) (mean : ExcName → Option Value) (mg mb : Str → Option Value) (dp un : Nat) (gd : Option (List Code)) (cn : Str) (cs : Scope) (a : Addr) (ccd : Value) (cl : List (Str × Addr)) (outer : List Env) (A₀ : Around) (base h₀ : Heap) (L : Addr) (m : Str → Option Value) (news : List (Addr × Obj)) (s : Shared) (Q E : Value → Shared → Prop),
    Below A₀ base outer h₀ → Fr h₀ L s.heap m → (kk.heap_1 w.params).In h₀ → News h₀ L s.heap news → Top view9 loose mean mg mb h₀ → cs.kind = .function → dp + n < recursionLimit → un + 8 * n < cLine →
    (∀ (D : Addr) (t1 t2 t3 t4 t5 : Tok) (c : Nat) (h' : Heap) (tk' : Nat), Fr h₀ L h' m → News h₀ L h' ((D, tup5 x y z u v t1 t2 t3 t4 t5 c) :: news) → AllLt D news → Q (.ref D) { s with heap := h', toks := tk' }) →
    wpAny (model PySem.Challenge.rw_jk0007_01.row.prog w) (ktrTop dp un gd cn cs L a ccd cl outer) (call (.ref f) vs kw) Q E s

def CtP (w : World) (f : Addr) (n : Nat) (vs : List Value) (kw : List (Str × Value)) (P : Int → Int → Int → Prop) : Prop :=
  ∀ (loose : List Str) (mean : ExcName → Option Value) (mg mb : Str → Option Value) (dp un : Nat) (gd : Option (List Code)) (cn : Str) (cs : Scope) (a : Addr) (ccd : Value) (cl : List (Str × Addr)) (outer : List Env) (A₀ : Around) (base h₀ : Heap) (L : Addr) (m : Str → Option Value) (news : List (Addr × Obj)) (s : Shared) (Q E : Value → Shared → Prop),
    Below A₀ base outer h₀ → Fr h₀ L s.heap m → (kk.heap_1 w.params).In h₀ → News h₀ L s.heap news → Top view9 loose mean mg mb h₀ → cs.kind = .function → dp + n < recursionLimit → un + 8 * n < cLine →
    (∀ (x y z : Int) (D : Addr) (t1 t2 t3 : Tok) (c : Nat) (h' : Heap) (tk' : Nat), P x y z → Fr h₀ L h' m → News h₀ L h' ((D, tup3 x y z t1 t2 t3 c) :: news) → AllLt D news → Q (.ref D) { s with heap := h', toks := tk' }) →
    wpAny (model PySem.Challenge.rw_jk0007_01.row.prog w) (ktrTop dp un gd cn cs L a ccd cl outer) (call (.ref f) vs kw) Q E s

/-- a def that hands back a new list, told as data -/
def CtL (w : World) (f : Addr) (n : Nat) (vs : List Value) (kw : List (Str × Value)) (ds : List PySem.W.Dat) : Prop :=
  ∀ (loose : List Str) (mean : ExcName → Option Value) (mg mb : Str → Option Value) (dp un : Nat) (gd : Option (List Code)) (cn : Str) (cs : Scope) (a : Addr) (ccd : Value) (cl : List (Str × Addr)) (outer : List Env) (A₀ : Around) (base h₀ : Heap) (L : Addr) (m : Str → Option Value) (news : List (Addr × Obj)) (s : Shared) (Q E : Value → Shared → Prop),
    Below A₀ base outer h₀ → Fr h₀ L s.heap m → (kk.heap_1 w.params).In h₀ → News h₀ L s.heap news → Top view9 loose mean mg mb h₀ → cs.kind = .function → dp + n < recursionLimit → un + 8 * n < cLine →
    (∀ (D : Addr) (xs : List Value) (c : Nat) (nn : List (Addr × Obj)) (h' : Heap) (tk' : Nat), Fr h₀ L h' m → News h₀ L h' ((D, listOf xs.toArray c) :: (nn ++ news)) → DatAll nn xs ds → Q (.ref D) { s with heap := h', toks := tk' }) →
    wpAny (model PySem.Challenge.rw_jk0007_01.row.prog w) (ktrTop dp un gd cn cs L a ccd cl outer) (call (.ref f) vs kw) Q E s

section
variable {w : World} {f : Addr} {n : Nat} {vs : List Value} {kw : List (Str × Value)} {R : Tok → Value} {x y z u v : Int}
  {loose : List Str} {mean : ExcName → Option Value} {mg mb : Str → Option Value} {dp un : Nat} {gd : Option (List Code)} {cn : Str} {cs : Scope} {a : Addr} {ccd : Value} {cl : List (Str × Addr)} {outer : List Env} {A₀ : Around} {base h₀ : Heap} {L : Addr} {m : Str → Option Value} {news : List (Addr × Obj)} {s : Shared} {Q E : Value → Shared → Prop}
theorem CtV.use (C : CtV w f n vs kw R) (B : Below A₀ base outer h₀) (F : Fr h₀ L s.heap m) (X : (kk.heap_1 w.params).In h₀) (N : News h₀ L s.heap news) (T : Top view9 loose mean mg mb h₀) (hk : cs.kind = .function) (hdp : dp + n < recursionLimit) (hun : un + 8 * n < cLine)
    (ret : ∀ (t : Tok) (h' : Heap) (tk' : Nat), Fr h₀ L h' m → News h₀ L h' news → Q (R t) { s with heap := h', toks := tk' }) :
    wpAny (model PySem.Challenge.rw_jk0007_01.row.prog w) (ktrTop dp un gd cn cs L a ccd cl outer) (call (.ref f) vs kw) Q E s :=
  C _ _ _ _ _ _ _ _ _ _ _ _ _ _ _ _ _ _ _ _ _ _ B F X N T hk hdp hun ret
theorem CtT.use (C : CtT w f n vs kw x y z) (B : Below A₀ base outer h₀) (F : Fr h₀ L s.heap m) (X : (kk.heap_1 w.params).In h₀) (N : News h₀ L s.heap news) (T : Top view9 loose mean mg mb h₀) (hk : cs.kind = .function) (hdp : dp + n < recursionLimit) (hun : un + 8 * n < cLine)
    (ret : ∀ (D : Addr) (t1 t2 t3 : Tok) (c : Nat) (h' : Heap) (tk' : Nat), Fr h₀ L h' m → News h₀ L h' ((D, tup3 x y z t1 t2 t3 c) :: news) → AllLt D news → Q (.ref D) { s with heap := h', toks := tk' }) :
    wpAny (model PySem.Challenge.rw_jk0007_01.row.prog w) (ktrTop dp un gd cn cs L a ccd cl outer) (call (.ref f) vs kw) Q E s :=
  C _ _ _ _ _ _ _ _ _ _ _ _ _ _ _ _ _ _ _ _ _ _ B F X N T hk hdp hun ret
theorem CtF.use (C : CtF w f n vs kw x y z u v) (B : Below A₀ base outer h₀) (F : Fr h₀ L s.heap m) (X : (kk.heap_1 w.params).In h₀) (N : News h₀ L s.heap news) (T : Top view9 loose mean mg mb h₀) (hk : cs.kind = .function) (hdp : dp + n < recursionLimit) (hun : un + 8 * n < cLine)
    (ret : ∀ (D : Addr) (t1 t2 t3 t4 t5 : Tok) (c : Nat) (h' : Heap) (tk' : Nat), Fr h₀ L h' m → News h₀ L h' ((D, tup5 x y z u v t1 t2 t3 t4 t5 c) :: news) → AllLt D news → Q (.ref D) { s with heap := h', toks := tk' }) :
    wpAny (model PySem.Challenge.rw_jk0007_01.row.prog w) (ktrTop dp un gd cn cs L a ccd cl outer) (call (.ref f) vs kw) Q E s :=
  C _ _ _ _ _ _ _ _ _ _ _ _ _ _ _ _ _ _ _ _ _ _ B F X N T hk hdp hun ret

theorem CtP.use {P : Int → Int → Int → Prop} (C : CtP w f n vs kw P) (B : Below A₀ base outer h₀) (F : Fr h₀ L s.heap m) (X : (kk.heap_1 w.params).In h₀) (N : News h₀ L s.heap news) (T : Top view9 loose mean mg mb h₀) (hk : cs.kind = .function) (hdp : dp + n < recursionLimit) (hun : un + 8 * n < cLine)
    (ret : ∀ (x y z : Int) (D : Addr) (t1 t2 t3 : Tok) (c : Nat) (h' : Heap) (tk' : Nat), P x y z → Fr h₀ L h' m → News h₀ L h' ((D, tup3 x y z t1 t2 t3 c) :: news) → AllLt D news → Q (.ref D) { s with heap := h', toks := tk' }) :
    wpAny (model PySem.Challenge.rw_jk0007_01.row.prog w) (ktrTop dp un gd cn cs L a ccd cl outer) (call (.ref f) vs kw) Q E s :=
  C _ _ _ _ _ _ _ _ _ _ _ _ _ _ _ _ _ _ _ _ _ _ B F X N T hk hdp hun ret
theorem CtL.use {ds : List PySem.W.Dat} (C : CtL w f n vs kw ds) (B : Below A₀ base outer h₀) (F : Fr h₀ L s.heap m) (X : (kk.heap_1 w.params).In h₀) (N : News h₀ L s.heap news) (T : Top view9 loose mean mg mb h₀) (hk : cs.kind = .function) (hdp : dp + n < recursionLimit) (hun : un + 8 * n < cLine)
    (ret : ∀ (D : Addr) (xs : List Value) (c : Nat) (nn : List (Addr × Obj)) (h' : Heap) (tk' : Nat), Fr h₀ L h' m → News h₀ L h' ((D, listOf xs.toArray c) :: (nn ++ news)) → DatAll nn xs ds → Q (.ref D) { s with heap := h', toks := tk' }) :
    wpAny (model PySem.Challenge.rw_jk0007_01.row.prog w) (ktrTop dp un gd cn cs L a ccd cl outer) (call (.ref f) vs kw) Q E s :=
  C _ _ _ _ _ _ _ _ _ _ _ _ _ _ _ _ _ _ _ _ _ _ B F X N T hk hdp hun ret
variable {h' : Heap} {tk' : Nat} {t t1 t2 t3 t4 t5 : Tok}
theorem cv_int {r : Int} (hret : ∀ (t : Tok) (h' : Heap) (tk' : Nat), Fr h₀ L h' m → News h₀ L h' news → Q ((fun t => Value.int x t) t) { s with heap := h', toks := tk' }) (e : r = x) (F : Fr h₀ L h' m) (N : News h₀ L h' news) : Q (.int r t) { s with heap := h', toks := tk' } := by
  subst e; exact hret t h' tk' F N
theorem cv_bool {b c : Bool} (hret : ∀ (t : Tok) (h' : Heap) (tk' : Nat), Fr h₀ L h' m → News h₀ L h' news → Q ((fun _ => Value.bool b) t) { s with heap := h', toks := tk' }) (e : c = b) (F : Fr h₀ L h' m) (N : News h₀ L h' news) : Q (.bool c) { s with heap := h', toks := tk' } := by
  subst e; exact hret 0 h' tk' F N
theorem cv_drop {news' : List (Addr × Obj)} (N : News h₀ L h' news') (hs : ∀ p ∈ news, p ∈ news') : News h₀ L h' news := fun p hp => N p (hs p hp)
theorem cv_tup {D : Addr} {c : Nat} {x' y' z' : Int} {news' : List (Addr × Obj)} (hret : ∀ (D : Addr) (t1 t2 t3 : Tok) (c : Nat) (h' : Heap) (tk' : Nat), Fr h₀ L h' m → News h₀ L h' ((D, tup3 x y z t1 t2 t3 c) :: news) → AllLt D news → Q (.ref D) { s with heap := h', toks := tk' })
    (e1 : x' = x) (e2 : y' = y) (e3 : z' = z) (F : Fr h₀ L h' m) (N : News h₀ L h' news') (hd : (D, tup3 x' y' z' t1 t2 t3 c) ∈ news') (hs : ∀ p ∈ news, p ∈ news') (hl : AllLt D news) : Q (.ref D) { s with heap := h', toks := tk' } := by
  subst e1; subst e2; subst e3
  refine hret D t1 t2 t3 c h' tk' F (fun p hp => ?_) hl
  rcases List.mem_cons.mp hp with rfl | hp
  · exact N _ hd
  · exact N p (hs p hp)
theorem cv_tupP {P : Int → Int → Int → Prop} {D : Addr} {c : Nat} {x' y' z' : Int} {news' : List (Addr × Obj)} (hret : ∀ (x y z : Int) (D : Addr) (t1 t2 t3 : Tok) (c : Nat) (h' : Heap) (tk' : Nat), P x y z → Fr h₀ L h' m → News h₀ L h' ((D, tup3 x y z t1 t2 t3 c) :: news) → AllLt D news → Q (.ref D) { s with heap := h', toks := tk' })
    (e : P x' y' z') (F : Fr h₀ L h' m) (N : News h₀ L h' news') (hd : (D, tup3 x' y' z' t1 t2 t3 c) ∈ news') (hs : ∀ p ∈ news, p ∈ news') (hl : AllLt D news) : Q (.ref D) { s with heap := h', toks := tk' } := by
  refine hret x' y' z' D t1 t2 t3 c h' tk' e F (fun p hp => ?_) hl
  rcases List.mem_cons.mp hp with rfl | hp
  · exact N _ hd
  · exact N p (hs p hp)
theorem cv_tup5 {D : Addr} {c : Nat} {x' y' z' u' v' : Int} {news' : List (Addr × Obj)} (hret : ∀ (D : Addr) (t1 t2 t3 t4 t5 : Tok) (c : Nat) (h' : Heap) (tk' : Nat), Fr h₀ L h' m → News h₀ L h' ((D, tup5 x y z u v t1 t2 t3 t4 t5 c) :: news) → AllLt D news → Q (.ref D) { s with heap := h', toks := tk' })
    (e1 : x' = x) (e2 : y' = y) (e3 : z' = z) (e4 : u' = u) (e5 : v' = v) (F : Fr h₀ L h' m) (N : News h₀ L h' news') (hd : (D, tup5 x' y' z' u' v' t1 t2 t3 t4 t5 c) ∈ news') (hs : ∀ p ∈ news, p ∈ news') (hl : AllLt D news) : Q (.ref D) { s with heap := h', toks := tk' } := by
  subst e1; subst e2; subst e3; subst e4; subst e5
  refine hret D t1 t2 t3 t4 t5 c h' tk' F (fun p hp => ?_) hl
  rcases List.mem_cons.mp hp with rfl | hp
  · exact N _ hd
  · exact N p (hs p hp)
end

theorem dp_lt {dp n k : Nat} (h : dp + n < recursionLimit) (hk : k < n) : dp + 1 + k < recursionLimit := by omega
theorem dp_room {dp n : Nat} (h : dp + n < recursionLimit) : dp < recursionLimit := by omega
theorem un_lt {un n k : Nat} (h : un + 8 * n < cLine) (hk : k < n) : un + 3 + 8 * k < cLine := by omega
theorem mul_lit {b : Int} (h : b.natAbs ≤ 1000000000) : Builtin.Int.intBits b ≤ 64 := PySem.intBits_le_64 (by omega) (by omega)
theorem abs_ge {z y x : Int} (h : z = y + if x < 0 then -x else x) : y ≤ z := by split at h <;> omega
theorem low1 {D : Addr} {P : Prop} {news : List (Addr × Obj)} (h : P ∧ AllLt D news) : AllLt D news := h.2
theorem low2 {D : Addr} {P P2 : Prop} {news : List (Addr × Obj)} (h : P ∧ P2 ∧ AllLt D news) : AllLt D news := h.2.2
theorem low3 {D : Addr} {P P2 P3 : Prop} {news : List (Addr × Obj)} (h : P ∧ P2 ∧ P3 ∧ AllLt D news) : AllLt D news := h.2.2.2
theorem low4 {D : Addr} {P P2 P3 P4 : Prop} {news : List (Addr × Obj)} (h : P ∧ P2 ∧ P3 ∧ P4 ∧ AllLt D news) : AllLt D news := h.2.2.2.2
theorem lowA {D : Addr} {q : Addr × Obj} {news : List (Addr × Obj)} (h : AllLt D (q :: news)) : AllLt D news := h.2
section
variable {prog : Program} {w : World} {A : Around} {E : Value → Shared → Prop} {s : Shared} {a b : Int} {t u : Tok} {Q : Value → Shared → Prop}
theorem r_div (hb : 0 < b) (hs : b < 1073741824) (h : Q (.int (a / b) s.toks) { s with toks := s.toks + 1 }) : wpAny (model prog w) A (binaryOp .FloorDiv (.int a t) (.int b u)) Q E s :=
  floordiv_int (by omega) (by rw [Int.fdiv_eq_ediv_of_nonneg _ (by omega)]; exact h) (Or.inl (PyProof.noPylong_small (by omega)))
theorem r_divmod {h₀ : Heap} {L : Addr} {m : Str → Option Value} {news : List (Addr × Obj)} (F : Fr h₀ L s.heap m) (N : News h₀ L s.heap news) (hb : 0 < b) (hs : b < 1073741824)
    (h : ∀ (q r : Int) (D : Addr) (t1 t2 : Tok) (h' : Heap) (tk' : Nat), q = a / b → r = a % b → Fr h₀ L h' m → News h₀ L h' ((D, { cls := .type "tuple", data := .seq #[.int q t1, .int r t2] }) :: news) → AllLt D news → Q (.ref D) { s with heap := h', toks := tk' }) :
    wpAny (model prog w) A (call (.builtin "divmod") [.int a t, .int b u]) Q E s := by
  refine divmod_N F N (by omega) (fun h' F' N' => ?_) (Or.inl (PyProof.noPylong_small (by omega)))
  rw [Int.fdiv_eq_ediv_of_nonneg _ (by omega), Int.fmod_eq_emod_of_nonneg _ (by omega)] at N'
  exact h _ _ _ _ _ h' _ rfl rfl F' N' (allLt_of fun p hp => Heap.lt_size (N p hp).1)
theorem r_mod (hb : 0 < b) (h : Q (.int (a % b) s.toks) { s with toks := s.toks + 1 }) : wpAny (model prog w) A (binaryOp .Mod (.int a t) (.int b u)) Q E s :=
  mod_int' (by omega) (by rw [Int.fmod_eq_emod_of_nonneg _ (by omega)]; exact h)
end
section
variable {prog : Program} {w : World} {A : Around} {E : Value → Shared → Prop} {s : Shared} {t u : Tok} {Q : Value → Shared → Prop}
theorem r_in30 {K : Frag} {h₀ : Heap} {L : Addr} {m : Str → Option Value} {x : Int} {c : Nat} {od : Option Addr} {sl : Array (Option Value)} {t1 t2 t3 t4 : Tok} (F : Fr h₀ L s.heap m) (X : K.In h₀)
    (hl : K.lookup 83 = some ⟨.type "tuple", od, .seq #[.int 4 t1, .int 6 t2, .int 9 t3, .int 11 t4] c, sl⟩) (h : Q (.bool (decide (x = 4 ∨ x = 6 ∨ x = 9 ∨ x = 11))) s) :
    wpAny (model prog w) A (compareOp .In (.int x t) (.ref 83)) Q E s := by
  refine in_tuple_ints (ns := [4, 6, 9, 11]) ⟨_, F.keep _ _ (X _ _ hl), rfl, _, rfl⟩ (.cons _ _ (.cons _ _ (.cons _ _ (.cons _ _ .nil)))) ?_
  have e : ([4, 6, 9, 11] : List Int).any (· == x) = decide (x = 4 ∨ x = 6 ∨ x = 9 ∨ x = 11) := by
    rw [Bool.eq_iff_iff]
    simp only [List.any_cons, List.any_nil, Bool.or_eq_true, beq_iff_eq, decide_eq_true_eq, Bool.false_eq_true, or_false, eq_comm (a := x)]
  rw [e]; exact h
end
section
variable {prog : Program} {w : World} {A : Around} {E : Value → Shared → Prop} {s : Shared} {Q : Value → Shared → Prop}
theorem r_inT {h₀ : Heap} {L a : Addr} {news : List (Addr × Obj)} {xs : List Value} {ka : Nat} {ds : List PySem.W.Dat} {x : Value} {d : PySem.W.Dat} (b : Bool)
    (N : News h₀ L s.heap news) (ma : (a, ({ cls := .type "tuple", data := .seq xs.toArray ka } : Obj)) ∈ news) (Da : DatAll news xs ds) (Dx : DatIn news x d)
    (ha : ∀ e ∈ ds, kqdOk 8 e = true) (hd : kqdOk 8 d = true) (hu : A.units + 1 + min (PyData.depthAll (kqdPs ds)) (kqdP d).depth < cLine)
    (hb : ((kqdPs ds).any fun y => PyData.eqv y (kqdP d)) = b) (h : Q (.bool b) s) : wpAny (model prog w) A (compareOp .In x (.ref a)) Q E s := by
  obtain ⟨as, ra⟩ := kqd_all N 8 Da ha
  obtain ⟨bs, rx⟩ := kqd_in N 8 Dx hd
  have l := kqd_layL ha
  have ld := kqd_lay 8 d hd
  exact SeqAt.in_tuple_reads (reads_tuple_at (N.get ma) rfl rfl (by simpa using ra)) rx l.1 ld.1 hu (by rw [hb]; exact h)
end
section
variable {M : Model} {A : Around} {E : Value → Shared → Prop} {s : Shared} {t : Tok} {env : Env} {x : Str} {v : Int} {Q : Unit → Shared → Prop}
theorem st_gen (h : ∀ (z : Int) (t' : Tok) (tk : Nat), z = v → wpAny M A (storeName env x (.int z t')) Q E { s with toks := tk }) : wpAny M A (storeName env x (.int v t)) Q E s := h v t s.toks rfl
end
section
variable {M : Model} {A : Around} {E : Value → Shared → Prop} {s : Shared} {h₀ : Heap} {L : Addr} {m : Str → Option Value} {news : List (Addr × Obj)}
/-- a test whose ways meet: it is false on each -/
def BF (h₀ : Heap) (L : Addr) (m : Str → Option Value) (news : List (Addr × Obj)) (s : Shared) (b : Bool) (s' : Shared) : Prop :=
  b = false ∧ ∃ h' tk, s' = { s with heap := h', toks := tk } ∧ Fr h₀ L h' m ∧ News h₀ L h' news
theorem BF.mk {h' : Heap} {tk : Nat} {news' : List (Addr × Obj)} (F : Fr h₀ L h' m) (N : News h₀ L h' news') (hs : ∀ p ∈ news, p ∈ news') : BF h₀ L m news s false { s with heap := h', toks := tk } :=
  ⟨rfl, h', tk, rfl, F, fun p hp => N p (hs p hp)⟩
theorem cut_false {c : Sem Bool} {Q : Bool → Shared → Prop} (F : Fr h₀ L s.heap m) (N : News h₀ L s.heap news) (hc : wpAny M A c (BF h₀ L m news s) E s)
    (hk : ∀ h' tk, Fr h₀ L h' m → News h₀ L h' news → Q false { s with heap := h', toks := tk }) : wpAny M A c Q E s := by
  refine wpAny_mono hc (fun b s' h => ?_) fun _ _ h => h
  obtain ⟨rfl, h', tk, rfl, F', N'⟩ := h
  exact hk h' tk F' N'
/-- a statement that stores one name alone, whose ways meet -/
def CS (h₀ : Heap) (L : Addr) (m : Str → Option Value) (news : List (Addr × Obj)) (s : Shared) (x : Str) (P : Int → Prop) (f : Flow) (s' : Shared) : Prop :=
  f = .next ∧ ∃ z t h' tk, s' = { s with heap := h', toks := tk } ∧ P z ∧ Fr h₀ L h' (fun y => if y = x then some (.int z t) else m y) ∧ News h₀ L h' news
theorem CS.mk {x : Str} {P : Int → Prop} {z : Int} {t : Tok} {h' : Heap} {tk : Nat} {news' : List (Addr × Obj)} (F : Fr h₀ L h' (fun y => if y = x then some (.int z t) else m y)) (N : News h₀ L h' news') (hs : ∀ p ∈ news, p ∈ news') (hp : P z) : CS h₀ L m news s x P .next { s with heap := h', toks := tk } :=
  ⟨rfl, z, t, h', tk, rfl, hp, F, fun p hp => N p (hs p hp)⟩
theorem CS.same {x : Str} {P : Int → Prop} {z : Int} {t : Tok} {h' : Heap} {tk : Nat} {news' : List (Addr × Obj)} (F : Fr h₀ L h' m) (N : News h₀ L h' news') (hm : m x = some (.int z t)) (hs : ∀ p ∈ news, p ∈ news') (hp : P z) : CS h₀ L m news s x P .next { s with heap := h', toks := tk } := by
  have e : m = fun y => if y = x then some (.int z t) else m y := by
    funext y; by_cases h : y = x
    · simp [h, hm]
    · simp [h]
  exact ⟨rfl, z, t, h', tk, rfl, hp, e ▸ F, fun p hp => N p (hs p hp)⟩
theorem cut_store (x : Str) (P : Int → Prop) {c : Sem Flow} {Q : Flow → Shared → Prop} (F : Fr h₀ L s.heap m) (N : News h₀ L s.heap news) (hc : wpAny M A c (CS h₀ L m news s x P) E s)
    (hk : ∀ z t h' tk, P z → Fr h₀ L h' (fun y => if y = x then some (.int z t) else m y) → News h₀ L h' news → Q .next { s with heap := h', toks := tk }) : wpAny M A c Q E s := by
  refine wpAny_mono hc (fun b s' h => ?_) fun _ _ h => h
  obtain ⟨rfl, z, t, h', tk, rfl, hp, F', N'⟩ := h
  exact hk z t h' tk hp F' N'
end
/-- the loose way's name, given or not -/
def vm (b : Bool) (x : Tok) : Value := if b = true then .str (Str.ofString "moveable") x else .none
section
variable {prog : Program} {w : World} {A : Around} {E : Value → Shared → Prop} {s : Shared} {b : Bool} {x u : Tok}
theorem tr_vm {env : Env} {k : Nat} {p pos : Pos} {Q : Value → Shared → Prop} (h : ∀ t tk, Q (.str (Str.ofString "moveable") t) { s with toks := tk }) :
    wpAny (model prog w) A (truthy (vm b x)) (fun c s₂ => if c = true then Q (vm b x) s₂ else wpAny (model prog w) A (eval (.BoolOp .Or [.Constant (.str (Str.ofString "moveable")) k p] pos) env) Q E s₂) E s := by
  cases b
  · refine truthy_none ?_
    rw [if_neg (by decide)]
    exact BoolOp_one (wpAny_Constant_str (h _ _))
  · refine P.truthy_str (by decide +kernel) ?_
    rw [if_pos (by decide +kernel)]
    exact h _ _
theorem eq_vm {Q : Value → Shared → Prop} (h : Q (.bool false) s) : wpAny (model prog w) A (compareOp .Eq (vm b x) (.str (Str.ofString "sarkawag") u)) Q E s := by
  cases b
  · exact EqNone.eq_none_str h
  · refine eq_str ?_
    rw [show (Str.ofString "moveable" == Str.ofString "sarkawag") = false by decide +kernel]
    exact h
end
theorem fill (w : World) (h₀ : Heap) (_h : (kk.heap_1 w.params).In h₀) : PySem.Challenge.rw_jk0007_01 = PySem.Challenge.rw_jk0007_01 ∧ kk.heap_1 = kk.heap_1 := by
  k_fill
  exact ⟨rfl, rfl⟩
theorem rangeKs_succ (a : Int) (n : Nat) : rangeKs a (n + 1) = rangeKs a n ++ [a + n] := by
  unfold rangeKs; rw [List.range_succ, List.map_append]; rfl
theorem foldl_hs (y a j : Int) (n : Nat) : (rangeKs a n).foldl (fun acc k => acc + hml y k) j = j + hs y a n := by
  induction n with
  | zero => show j = j + 0; omega
  | succ n ih => rw [rangeKs_succ, List.foldl_append, ih]; show j + hs y a n + hml y (a + n) = j + (hs y a n + hml y (a + n)); omega
theorem fold_pos {y a j : Int} {n : Nat} (h : 0 < j) : 0 < (rangeKs a n).foldl (fun acc k => acc + hml y k) j := by
  rw [foldl_hs]; have := hs_bounds y a n; omega
theorem hjd_lo {y m d z : Int} (hm : m < 7) (hz : z = 347996 + hd1 y + hd2 y + d + 1) : (rangeKs 1 (m - 1).toNat).foldl (fun acc k => acc + hml y k) ((rangeKs 7 (hmonths y + 1 - 7).toNat).foldl (fun acc k => acc + hml y k) z) = hjd y m d := by
  rw [foldl_hs, foldl_hs, show hmonths y + 1 - 7 = hmonths y - 6 by omega]
  unfold hjd hoff nyd
  rw [if_neg (by omega)]
  omega
theorem hjd_hi {y m d z : Int} (hm : ¬ m < 7) (hz : z = 347996 + hd1 y + hd2 y + d + 1) : (rangeKs 7 (m - 7).toNat).foldl (fun acc k => acc + hml y k) z = hjd y m d := by
  rw [foldl_hs]
  unfold hjd hoff nyd
  rw [if_pos (by omega)]
  omega
section
variable {prog : Program} {w : World} {A : Around} {E : Value → Shared → Prop} {s : Shared} {Q : Value → Shared → Prop}
theorem r_lens {value slice : PySem.Expr} {h₀ : Heap} {L l : Addr} {news : List (Addr × Obj)} {vs : List Value} {c : Nat} {y k : Int} {u : Tok} (N : News h₀ L s.heap news) (hm : (l, ({ cls := .type "list", data := .seq vs.toArray c } : Obj)) ∈ news)
    (hi : IntsAre vs (lens y)) (h1 : 1 ≤ k) (h2 : k ≤ 12) (h : ∀ t, Q (.int (mlen y k) t) s)
    (hs : subscripted slice false (.ref l) (.int (k - 1) u) = operate [.ref l, .int (k - 1) u] (getItem (.ref l) (.int (k - 1) u)) := by with_unfolding_all rfl) :
    wpAny (model prog w) A (subscriptTail value slice (.ref l) (.int (k - 1) u)) Q E s := by
  have hl : s.heap.IsList l vs.toArray := ⟨_, N.get hm, rfl, _, rfl⟩
  have hlen : (lens y).length = 12 := rfl
  have hk : (k - 1).toNat < (lens y).length := by omega
  obtain ⟨t, ht⟩ := hi.get (k - 1).toNat (mlen y k) (by
    rw [← lens_at h1 h2, List.getD_eq_getElem?_getD, List.getElem?_eq_getElem hk]; rfl)
  exact tail_any hl.typeIs slot_list_getitem.lookup (wpAny_getItem_list hl (by omega) (by omega) (by simpa using ht) (h t)) hs
end
theorem rep_fold (v : Value) (n : Nat) : ∀ acc : Array Value, List.foldl (fun x1 x2 => x1 ++ x2) acc (List.replicate n #[v]) = acc ++ (List.replicate n v).toArray := by
  induction n with
  | zero => intro acc; simp
  | succ n ih =>
    intro acc
    rw [List.replicate_succ, List.foldl_cons, ih, List.replicate_succ]
    apply Array.toList_inj.mp
    simp
section
variable {prog : Program} {w : World} {A : Around} {E : Value → Shared → Prop} {s : Shared} {h₀ : Heap} {L l : Addr} {m : Str → Option Value} {news : List (Addr × Obj)} {Q : Value → Shared → Prop}
theorem r_mulL {v : Value} {k : Nat} {x : Int} {u : Tok} (F : Fr h₀ L s.heap m) (N : News h₀ L s.heap news) (hm : (l, listOf #[v] k) ∈ news) (h0 : 0 ≤ x) (h1 : x ≤ 100)
    (h : ∀ (D : Addr) (c : Nat) (h' : Heap) (tk' : Nat), Fr h₀ L h' m → News h₀ L h' ((D, listOf (List.replicate x.toNat v).toArray c) :: news) → AllLt D news → Q (.ref D) { s with heap := h', toks := tk' }) :
    wpAny (model prog w) A (binaryOp .Mult (.ref l) (.int x u)) Q E s := by
  refine mul_list F N (N.get hm) (by omega) (by omega) (by show 1 * x.toNat ≤ 2 ^ 24; omega) fun h' F' N' => ?_
  have e : (if (#[v] : Array Value).isEmpty = true then 0 else x.toNat) = x.toNat := rfl
  rw [e, rep_fold] at N'
  exact h _ _ h' s.toks F' (by simpa using N') (allLt_of fun p hp => Heap.lt_size (N p hp).1)
theorem r_mulR {v : Value} {k : Nat} {x : Int} {u : Tok} (F : Fr h₀ L s.heap m) (N : News h₀ L s.heap news) (hm : (l, listOf #[v] k) ∈ news) (h0 : 0 ≤ x) (h1 : x ≤ 100)
    (h : ∀ (D : Addr) (c : Nat) (h' : Heap) (tk' : Nat), Fr h₀ L h' m → News h₀ L h' ((D, listOf (List.replicate x.toNat v).toArray c) :: news) → AllLt D news → Q (.ref D) { s with heap := h', toks := tk' }) :
    wpAny (model prog w) A (binaryOp .Mult (.int x u) (.ref l)) Q E s := by
  refine mul_list_r F N (N.get hm) (by omega) (by omega) (by show 1 * x.toNat ≤ 2 ^ 24; omega) fun h' F' N' => ?_
  have e : (if (#[v] : Array Value).isEmpty = true then 0 else x.toNat) = x.toNat := rfl
  rw [e, rep_fold] at N'
  exact h _ _ h' s.toks F' (by simpa using N') (allLt_of fun p hp => Heap.lt_size (N p hp).1)
theorem r_addL {b : Addr} {xs ys : List Value} {k k' : Nat} (F : Fr h₀ L s.heap m) (N : News h₀ L s.heap news) (hm : (l, listOf xs.toArray k) ∈ news) (hm' : (b, listOf ys.toArray k') ∈ news) (hsz : xs.length + ys.length ≤ 1000)
    (h : ∀ (D : Addr) (c : Nat) (h' : Heap) (tk' : Nat), Fr h₀ L h' m → News h₀ L h' ((D, listOf (xs ++ ys).toArray c) :: news) → AllLt D news → Q (.ref D) { s with heap := h', toks := tk' }) :
    wpAny (model prog w) A (binaryOp .Add (.ref l) (.ref b)) Q E s := by
  refine add_arrays F N ⟨_, N.get hm, rfl, _, rfl⟩ ⟨_, N.get hm', rfl, _, rfl⟩ (fun h' F' N' => ?_) (hsz := by
    show xs.toArray.size + ys.toArray.size ≤ sizeLine
    rw [List.size_toArray, List.size_toArray]; exact Nat.le_trans hsz (by decide))
  exact h _ _ h' s.toks F' N' (allLt_of fun p hp => Heap.lt_size (N p hp).1)
end

/-- a comprehension over a range of any step: what its source must be -/
def SrcC (prog : Program) (w : World) (A : Around) (h₀ : Heap) (L : Addr) (m : Str → Option Value) (env : Env) (elt : PySem.Expr) (x : Str) (scope : Scope) (cl : List (Str × Addr)) (Q : Value → Shared → Prop) (xv : Value) (s₁ : Shared) : Prop :=
  ∃ (r : Addr) (a b c : Int) (t u v : Tok) (n : Nat) (news : List (Addr × Obj)), xv = .ref r ∧ A.handled = none ∧ Fr h₀ L s₁.heap m ∧ News h₀ L s₁.heap news ∧ IsRange s₁.heap r a b c t u v ∧ Builtin.Range.small a b c = true ∧ Builtin.Range.rangeSize a b c = ((n : Nat) : Int) ∧ n ≤ sizeLine ∧
    ∀ g : Heap, LCg.CompRest prog w A h₀ L m env elt x scope cl { s₁ with heap := g } (fun _ => True) (fun i v => ∃ t, v = .int (a + (i : Int) * c) t) (LCg.FinE h₀ L m { s₁ with heap := g } Q) n 0 [] news
section
variable {prog : Program} {w : World} {A : Around} {E : Value → Shared → Prop} {s : Shared} {h₀ : Heap} {L : Addr} {m : Str → Option Value} {env : Env}
theorem r_comp {elt iter : PySem.Expr} {x : Str} {px : Pos} {scope : Scope} {cl : List (Str × Addr)} {pos : Pos} {Q : Value → Shared → Prop} (_F₀ : Fr h₀ L s.heap m)
    (hclos : closureFor scope env = pure cl) (hcell : ∀ y ∈ scope.names, y.2 ≠ .cell) (hkind : scope.kind = .function)
    (hnames : ∀ y ∈ scope.names, y.2 = .local → scope.names.lookup y.1 = some .local) (hx : scope.names.lookup x = some .local)
    (h : wpAny (model prog w) A (eval iter env) (SrcC prog w A h₀ L m env elt x scope cl Q) E s)
    (hs : ∀ x, foldedSetIterable iter env x = pure x := by intro _; rfl) :
    wpAny (model prog w) A (eval (.ListComp elt [⟨.Name x px, iter, [], 0⟩] scope pos) env) Q E s := by
  rw [eval_ListComp]
  refine wpAny_comprehension_free (use := none) rfl hs hclos hkind hnames (wpAny_mono h (fun xv s₁ h₁ => ?_) fun _ _ e => e)
  obtain ⟨r, a, b, c, t, u, v, n, news, rfl, hh, F, N, hr, hsm, hn, hsz, R⟩ := h₁
  refine wpAny_pyIter_range hr hsm ?_
  have W : Walks prog w A s₁.heap.objs.size [s₁.heap.objs.size] [s₁.heap.objs.size] n (fun i v => ∃ t, v = .int (a + (i : Int) * c) t) (fun i h => IsRangeIter h s₁.heap.objs.size (a + (i : Nat) * c) ((n : Int) - (i : Nat)) c) := Walks.range hh _ a c n
  refine LCg.block_U W hsz (fun i h st => ⟨_, st⟩) (fun i h h' o nw st e e' _ _ _ => ?_) hcell hkind hx (by show IsRangeIter _ _ _ _ _; rw [hn]; simpa using Heap.get?_push_size _ rfl) (fun b hb => ?_)
    (F.keeps fun _ _ e => Heap.get?_push_of_some _ e) (N.grown fun _ _ e => Heap.get?_push_of_some _ e) (Nat.ne_of_lt F.ns.lt) (next_is_new F) (fun p hp => Nat.ne_of_lt (Heap.lt_size (N p hp).1)) trivial (R _) ?_
  · have st' : h.get? s₁.heap.objs.size = some _ := st
    show h'.get? s₁.heap.objs.size = some _
    rw [e', ← e]; exact st'
  · rw [List.mem_singleton.mp hb]
    show s₁.heap.objs.size < (s₁.heap.push _).objs.size
    rw [Heap.size_push]; exact Nat.lt_succ_self _
  · intro D C h' tk m' ys news' F' N' o1 hn hC₀ hD₀ hCL hDL hCD offC fin
    refine ⟨m', hn, fun h'' hs'' => fin D h'' tk (F'.change hs'' hCL hC₀) (fun p hp => ?_) o1⟩
    refine ⟨hs''.extBut _ _ ?_ (N' p hp).1, (N' p hp).2⟩
    rcases List.mem_cons.mp hp with rfl | hp
    · exact Ne.symm hCD
    · exact offC p hp
end
theorem datAll_snoc {nn : List (Addr × Obj)} {d : PySem.W.Dat} {y : Value} (hy : DatIn nn y d) : ∀ {xs : List Value} {ds : List PySem.W.Dat}, DatAll nn xs ds → DatAll nn (xs ++ [y]) (ds ++ [d])
  | _, _, .nil => .cons hy .nil
  | _, _, .cons h r => .cons h (datAll_snoc hy r)
section
variable {prog : Program} {w : World} {A : Around} {s : Shared} {h₀ : Heap} {L : Addr} {m : Str → Option Value} {env : Env}
/-- the turns of a comprehension whose element makes a list: by induction, the ledger unknown but for its base -/
theorem comp_ind {elt : PySem.Expr} {x : Str} {scope : Scope} {cl : List (Str × Addr)} {P : Nat → Value → Prop} {Fin : List Value → List (Addr × Obj) → Prop} {base : List (Addr × Obj)} (rowds : Nat → List PySem.W.Dat) (n : Nat)
    (turn : ∀ (i : Nat) (v : Value) (I : Addr) (oI : Obj) (C : Addr) (oC : Obj) (D : Addr) (m₂ : Str → Option Value) (h : Heap) (tk : Nat) (E' : Value → Shared → Prop) (ys : List Value) (rows : List (Addr × Obj)) (Q' : Value → Shared → Prop), i < n → P i v → LCg.NsObj oC m₂ → m₂ x = some v →
      Fr h₀ L h m → News h₀ L h ((I, oI) :: (C, oC) :: (D, LCg.lst ys) :: (rows ++ base)) →
      (∀ (Y : Addr) (row : List Value) (c : Nat) (h' : Heap) (tk' : Nat), Fr h₀ L h' m → News h₀ L h' ((Y, listOf row.toArray c) :: (I, oI) :: (C, oC) :: (D, LCg.lst ys) :: (rows ++ base)) →
        (∀ p ∈ (I, oI) :: (C, oC) :: (D, LCg.lst ys) :: (rows ++ base), p.1 < Y) → DatAll [] row (rowds i) → Q' (.ref Y) { s with heap := h', toks := tk' }) →
      wpAny (model prog w) A (eval elt (compEnvC scope cl C env)) Q' E' { s with heap := h, toks := tk })
    (fin : ∀ ys rows, DatAll rows ys ((List.range n).map fun k => Dat.list (rowds k)) → Fin ys (rows ++ base)) :
    LCg.CompRest prog w A h₀ L m env elt x scope cl s (fun _ => True) P Fin n 0 [] base := by
  have key : ∀ (k i : Nat) (ys : List Value) (rows : List (Addr × Obj)), i + k = n → DatAll rows ys ((List.range i).map fun k => Dat.list (rowds k)) →
      LCg.CompRest prog w A h₀ L m env elt x scope cl s (fun _ => True) P Fin k i ys (rows ++ base) := by
    intro k
    induction k with
    | zero =>
      intro i ys rows hi hd
      have e : i = n := by omega
      subst e
      exact LCg.CompRest.zero (fin ys rows hd)
    | succ k ih =>
      intro i ys rows hi hd
      refine LCg.CompRest.succ ?_
      intro v I oI C oC D m₂ h tk E' hP hC hx F N off hne
      refine turn i v I oI C oC D m₂ h tk E' ys rows _ (by omega) hP hC hx F N ?_
      intro Y row c h' tk' F' N' hY hrow
      have hI : (I : Nat) < Y := hY _ (.head _)
      have hCl : (C : Nat) < Y := hY _ (.tail _ (.head _))
      have hDl : (D : Nat) < Y := hY _ (.tail _ (.tail _ (.head _)))
      refine LCg.CompEnd.intro F' N' (((Y, listOf row.toArray c) :: rows) ++ base) ?_ ?_ trivial ?_
      · intro p hp
        rcases List.mem_cons.mp hp with rfl | hp
        · exact .tail _ (.head _)
        · rcases List.mem_cons.mp hp with rfl | hp
          · exact .tail _ (.tail _ (.head _))
          · rcases List.mem_cons.mp hp with rfl | hp
            · exact .tail _ (.tail _ (.tail _ (.head _)))
            · rcases List.mem_cons.mp hp with rfl | hp
              · exact .head _
              · exact .tail _ (.tail _ (.tail _ (.tail _ hp)))
      · exact ⟨⟨Ne.symm (Nat.ne_of_lt hI), Ne.symm (Nat.ne_of_lt hCl), Ne.symm (Nat.ne_of_lt hDl)⟩, off⟩
      · refine ih (i + 1) (ys ++ [.ref Y]) ((Y, listOf row.toArray c) :: rows) (by omega) ?_
        rw [List.range_succ, List.map_append]
        refine datAll_snoc (.list (.head _) (hrow.mono (by intro p hp; cases hp))) (hd.mono fun p hp => .tail _ hp)
  exact key n 0 [] [] (by omega) .nil
end
section
variable {prog : Program} {w : World} {A : Around} {E : Value → Shared → Prop} {s : Shared} {h₀ : Heap} {L C c d : Addr} {m m₂ : Str → Option Value} {env : Env} {scope : Scope} {cl : List (Str × Addr)} {all : List (Addr × Obj)} {oC oc : Obj} {vs : List Value} {kd : Nat} {k : Int} {t : Tok} {Q : Value → Shared → Prop}
/-- days[i:i + 7] in the block of a comprehension, days a cell's list -/
theorem elt_slice {p1 p2 p3 p4 p5 p6 p7 : Pos} {c0 : Nat} (F : Fr h₀ L s.heap m) (N : News h₀ L s.heap all)
    (hC : (C, oC) ∈ all) (hns : LCg.NsObj oC m₂) (hi : m₂ (Str.ofString "i") = some (.int k t)) (hcl : cl.lookup (Str.ofString "days") = some c) (hc : (c, oc) ∈ all) (hcd : oc.data = .cell (some (.ref d))) (hd : (d, listOf vs.toArray kd) ∈ all)
    (hk1 : (compEnvC scope cl C env).scope.kind = .function) (hk2 : (compEnvC scope cl C env).kindOf (Str.ofString "days") = some .cell) (hk3 : (compEnvC scope cl C env).kindOf (Str.ofString "i") = some .local)
    (h0 : 0 ≤ k) (h7 : k + 7 ≤ vs.length) (hsz : vs.length ≤ 1000)
    (h : ∀ (Y : Addr) (cc : Nat) (h' : Heap) (tk' : Nat), Fr h₀ L h' m → News h₀ L h' ((Y, listOf ((vs.drop k.toNat).take 7).toArray cc) :: all) → (∀ p ∈ all, p.1 < Y) → Q (.ref Y) { s with heap := h', toks := tk' }) :
    wpAny (model prog w) A (eval (.Subscript (.Name (Str.ofString "days") p1) (.Slice (some (.Name (Str.ofString "i") p2)) (some (.BinOp (.Name (Str.ofString "i") p3) .Add (.Constant (.int 7) c0 p4) p5)) none p6) p7) (compEnvC scope cl C env)) Q E s := by
  refine wpAny_Subscript_list_slice ?_
  refine lcf_cell N hcl hc hcd ?_ hk1 hk2
  show wpAny _ _ (eval (.Name (Str.ofString "i") p2) (compEnvC scope cl C env)) _ _ _
  refine LCgL.ld_own N hC hns hi ?_ hk1 hk3
  show wpAny _ _ (eval (.BinOp (.Name (Str.ofString "i") p3) .Add (.Constant (.int 7) c0 p4) p5) (compEnvC scope cl C env)) _ _ _
  refine wpAny_BinOp (LCgL.ld_own N hC hns hi (wpAny_Constant_int (add_int ?_)) hk1 hk3)
  have hk : slicePick vs.toArray (some k) (some (k + 7)) none = ((vs.drop k.toNat).take 7).toArray := by
    have e := slicePick_run vs.toArray k.toNat (k.toNat + 7) (by rw [List.size_toArray]; omega) (by omega)
    rw [show ((k.toNat : Nat) : Int) = k by omega, show ((k.toNat + 7 : Nat) : Int) = k + 7 by omega, show k.toNat + 7 - k.toNat = 7 by omega] at e
    exact e
  refine ⟨d, vs.toArray, some k, some (k + 7), rfl, ⟨_, N.get hd, rfl, _, rfl⟩, by rw [List.size_toArray]; exact Nat.le_trans hsz (by decide), .int _ _, .int _ _, ?_⟩
  rw [hk]
  have F1 := F.push { cls := .type "slice", data := .fields #[.int k t, .int (k + 7) (s.toks + 1), .none] }
  have N1 := N.pushKeep { cls := .type "slice", data := .fields #[.int k t, .int (k + 7) (s.toks + 1), .none] }
  have N2 := News.push F1 N1 { cls := .type "list", data := .seq ((vs.drop k.toNat).take 7).toArray }
  have F2 := F1.push { cls := .type "list", data := .seq ((vs.drop k.toNat).take 7).toArray }
  rw [Heap.size_push] at N2
  exact h _ _ _ _ F2 N2 fun p hp => Nat.lt_succ_of_lt (Heap.lt_size (N p hp).1)
end
/-- the leaf of a month: what stands at place p, lp places being blank, i days written -/
def calD (lp i p : Int) : PySem.W.Dat := if lp ≤ p ∧ p < lp + i then .int (p - lp + 1) else .none
def rowD (lp i : Int) (k : Nat) : List PySem.W.Dat := (List.range 7).map fun (j : Nat) => calD lp i (7 * (k : Int) + (j : Int))
def calN (lp ml : Int) : Nat := ((lp + ml + 6) / 7).toNat
def calAll (lp ml : Int) : List PySem.W.Dat := (List.range (calN lp ml)).map fun k => .list (rowD lp ml k)
theorem range7 {x : Int} (h0 : 0 < x) (h1 : x ≤ 100) : Builtin.Range.small 0 x 7 = true ∧ Builtin.Range.rangeSize 0 x 7 = (((x + 6) / 7).toNat : Int) := by
  have e : Builtin.Range.rangeSize 0 x 7 = (x + 6) / 7 := by
    unfold Builtin.Range.rangeSize
    simp only [Int.sub_zero]
    rw [if_pos (by decide), if_pos h0]
    lia
  have e2 : 0 ≤ (x + 6) / 7 := by lia
  refine ⟨?_, by rw [e]; exact (Int.toNat_of_nonneg e2).symm⟩
  unfold Builtin.Range.small Builtin.Range.rangeFitsLong
  rw [e]
  simp only [Bool.and_eq_true, decide_eq_true_eq]
  have e3 : (x + 6) / 7 ≤ 100 := by lia
  generalize (x + 6) / 7 = k at *
  simp
  lia
theorem datAll_of {nn : List (Addr × Obj)} : ∀ (vs : List Value) (ds : List PySem.W.Dat), vs.length = ds.length → (∀ (j : Nat) v d, vs[j]? = some v → ds[j]? = some d → DatIn nn v d) → DatAll nn vs ds
  | [], [], _, _ => .nil
  | v :: vs, d :: ds, hl, h => .cons (h 0 v d rfl rfl) (datAll_of vs ds (by simpa using hl) fun j v' d' e1 e2 => h (j + 1) v' d' (by simpa using e1) (by simpa using e2))
  | [], _ :: _, hl, _ => by simp at hl
  | _ :: _, [], hl, _ => by simp at hl
theorem days_at {us : List Value} {a n : Nat} (hu : IntsAre us (rangeKs 1 n)) (p : Nat) (hp : p < a + n + 7) :
    ∃ v, (List.replicate a Value.none ++ us ++ List.replicate 7 Value.none)[p]? = some v ∧ DatIn [] v (calD a n p) := by
  have hl : us.length = n := by have := hu.length; rw [rangeKs_length] at this; exact this
  by_cases h1 : p < a
  · refine ⟨.none, ?_, ?_⟩
    · rw [List.append_assoc, List.getElem?_append_left (by simpa using h1), List.getElem?_replicate, if_pos h1]
    · unfold calD; rw [if_neg (by lia)]; exact .none
  · by_cases h2 : p < a + n
    · obtain ⟨t, ht⟩ := hu.get (p - a) (1 + ((p - a : Nat) : Int)) (by
        unfold rangeKs
        rw [List.getElem?_map, List.getElem?_range (by lia)]; rfl)
      refine ⟨.int (1 + ((p - a : Nat) : Int)) t, ?_, ?_⟩
      · rw [List.append_assoc, List.getElem?_append_right (by simpa using Nat.not_lt.mp h1), List.length_replicate, List.getElem?_append_left (by lia)]
        exact ht
      · unfold calD
        rw [if_pos (by lia), show (p : Int) - a + 1 = 1 + ((p - a : Nat) : Int) by lia]
        exact .int _ _
    · refine ⟨.none, ?_, ?_⟩
      · rw [List.append_assoc, List.getElem?_append_right (by simpa using Nat.not_lt.mp h1), List.length_replicate, List.getElem?_append_right (by lia), List.getElem?_replicate, if_pos (by lia)]
      · unfold calD; rw [if_neg (by lia)]; exact .none
theorem row_data {us : List Value} {a n k : Nat} (hu : IntsAre us (rangeKs 1 n)) (hk : 7 * k + 7 ≤ a + n + 7) :
    DatAll [] (((List.replicate a Value.none ++ us ++ List.replicate 7 Value.none).drop (7 * k)).take 7) (rowD a n k) := by
  have hl : us.length = n := by have := hu.length; rw [rangeKs_length] at this; exact this
  refine datAll_of _ _ ?_ fun j v d e1 e2 => ?_
  · unfold rowD
    simp only [List.length_take, List.length_drop, List.length_append, List.length_replicate, List.length_map, List.length_range, hl]
    lia
  · have hj : j < 7 := by
      have := (List.getElem?_eq_some_iff.mp e2).1
      unfold rowD at this
      simpa using this
    rw [List.getElem?_take_of_lt hj, List.getElem?_drop] at e1
    obtain ⟨v', e3, h3⟩ := days_at (a := a) hu (7 * k + j) (by lia)
    rw [e1] at e3
    cases e3
    unfold rowD at e2
    rw [List.getElem?_map, List.getElem?_range hj] at e2
    simp only [Option.map_some, Option.some.injEq] at e2
    subst e2
    rw [show ((7 * k + j : Nat) : Int) = 7 * (k : Int) + j by lia] at h3
    exact h3
section
variable {M : Model} {A : Around} {E : Value → Shared → Prop} {s : Shared} {env : Env}
theorem wp_execs_cut {Γ : PySem.Ctx} {Q R : Flow → Pos → Shared → Prop} {E : Value → Pos → Shared → Prop} : ∀ (k : Nat) (l : List Stmt) (p : Pos) (s : Shared), Sem.wp M Γ (execs (l.take k) env) R E p s →
    (∀ p s', R .next p s' → Sem.wp M Γ (execs (l.drop k) env) Q E p s') → (∀ f p s', f ≠ .next → R f p s' → Q f p s') → Sem.wp M Γ (execs l env) Q E p s
  | 0, l, p, s, h1, h2, _ => h2 p s h1
  | k + 1, [], p, s, h1, h2, _ => h2 p s h1
  | k + 1, a :: r, p, s, h1, h2, h3 => by
    rw [List.take_succ_cons, execs_cons, Sem.wp_bind'] at h1
    rw [execs_cons, Sem.wp_bind']
    refine Sem.wp_mono M Γ _ (fun f p' s' h' => ?_) (fun _ _ _ h' => h') _ _ h1
    cases f with
    | next => exact wp_execs_cut k r p' s' h' h2 h3
    | _ => exact h3 _ p' s' (by intro h; cases h) h'
/-- a row of statements walked in two parts -/
theorem execs_cut {l : List Stmt} (k : Nat) {R Q : Flow → Shared → Prop} (h1 : wpAny M A (execs (l.take k) env) R E s)
    (h2 : ∀ s', R .next s' → wpAny M A (execs (l.drop k) env) Q E s') (h3 : ∀ f s', f ≠ .next → R f s' → Q f s') : wpAny M A (execs l env) Q E s := fun Γ p hΓ =>
  wp_execs_cut k l p s (h1 Γ p hΓ) (fun p' s' h => h2 s' h Γ p' hΓ) fun f _ s' hf h => h3 f s' hf h
end
section
variable {h₀ h : Heap} {L : Addr} {m : Str → Option Value}
theorem fr1 {x1 : Str} {v1 : Value} (F : Fr h₀ L h m) (e1 : m x1 = some v1) : Fr h₀ L h (fun z => if z = x1 then some v1 else m z) := by
  have e : (fun z => if z = x1 then some v1 else m z) = m := by
    funext z
    by_cases h1 : z = x1
    · rw [if_pos h1, h1, e1]
    · rw [if_neg h1]
  rw [e]; exact F
theorem fr4 {x1 x2 x3 x4 : Str} {v1 v2 v3 v4 : Value} (F : Fr h₀ L h m) (e1 : m x1 = some v1) (e2 : m x2 = some v2) (e3 : m x3 = some v3) (e4 : m x4 = some v4) :
    Fr h₀ L h (fun z => if z = x1 then some v1 else if z = x2 then some v2 else if z = x3 then some v3 else if z = x4 then some v4 else m z) := by
  have e : (fun z => if z = x1 then some v1 else if z = x2 then some v2 else if z = x3 then some v3 else if z = x4 then some v4 else m z) = m := by
    funext z
    repeat' split
    all_goals first | rfl | (subst_vars; simp_all)
  rw [e]; exact F
theorem fr8 {x1 x2 x3 x4 x5 x6 x7 x8 : Str} {v1 v2 v3 v4 v5 v6 v7 v8 : Value} (F : Fr h₀ L h m) (e1 : m x1 = some v1) (e2 : m x2 = some v2) (e3 : m x3 = some v3) (e4 : m x4 = some v4) (e5 : m x5 = some v5) (e6 : m x6 = some v6) (e7 : m x7 = some v7) (e8 : m x8 = some v8) :
    Fr h₀ L h (fun z => if z = x1 then some v1 else if z = x2 then some v2 else if z = x3 then some v3 else if z = x4 then some v4 else if z = x5 then some v5 else if z = x6 then some v6 else if z = x7 then some v7 else if z = x8 then some v8 else m z) := by
  have e : (fun z => if z = x1 then some v1 else if z = x2 then some v2 else if z = x3 then some v3 else if z = x4 then some v4 else if z = x5 then some v5 else if z = x6 then some v6 else if z = x7 then some v7 else if z = x8 then some v8 else m z) = m := by
    funext z
    repeat' split
    all_goals first | rfl | (subst_vars; simp_all)
  rw [e]; exact F
end
section
variable {prog : Program} {w : World} {A : Around} {E : Value → Shared → Prop} {s : Shared} {h₀ : Heap} {L l : Addr} {m : Str → Option Value} {news news' : List (Addr × Obj)}
/-- the law's first days, by the count -/
theorem r_first {Q : Value → Shared → Prop} {value slice : PySem.Expr} {vs : List Value} {c : Nat} {k : Int} {u : Tok} (N : News h₀ L s.heap news) (hm : (l, ({ cls := .type "list", data := .seq vs.toArray c } : Obj)) ∈ news)
    (hi : IntsAre vs [347998, 584283, 1922868, 2117212, 2375840]) (h0 : 0 ≤ k) (h5 : k < 5)
    (h : ∀ z t, 347998 ≤ z → (0 < k → 584283 ≤ z) → (1 < k → 1922868 ≤ z) → (2 < k → 2117212 ≤ z) → (3 < k → 2375840 ≤ z) → Q (.int z t) s)
    (hs : subscripted slice false (.ref l) (.int k u) = operate [.ref l, .int k u] (getItem (.ref l) (.int k u)) := by with_unfolding_all rfl) :
    wpAny (model prog w) A (subscriptTail value slice (.ref l) (.int k u)) Q E s := by
  have hl : s.heap.IsList l vs.toArray := ⟨_, N.get hm, rfl, _, rfl⟩
  have hk : k = 0 ∨ k = 1 ∨ k = 2 ∨ k = 3 ∨ k = 4 := by lia
  have key : ∃ z, ([347998, 584283, 1922868, 2117212, 2375840] : List Int)[k.toNat]? = some z ∧ 347998 ≤ z ∧ (0 < k → 584283 ≤ z) ∧ (1 < k → 1922868 ≤ z) ∧ (2 < k → 2117212 ≤ z) ∧ (3 < k → 2375840 ≤ z) := by
    rcases hk with rfl | rfl | rfl | rfl | rfl
    · exact ⟨347998, rfl, by lia, by lia, by lia, by lia, by lia⟩
    · exact ⟨584283, rfl, by lia, by lia, by lia, by lia, by lia⟩
    · exact ⟨1922868, rfl, by lia, by lia, by lia, by lia, by lia⟩
    · exact ⟨2117212, rfl, by lia, by lia, by lia, by lia, by lia⟩
    · exact ⟨2375840, rfl, by lia, by lia, by lia, by lia, by lia⟩
  obtain ⟨z, hz, a1, a2, a3, a4, a5⟩ := key
  obtain ⟨t, ht⟩ := hi.get k.toNat z hz
  exact tail_any hl.typeIs slot_list_getitem.lookup (wpAny_getItem_list hl h0 (by lia) (by simpa using ht) (h z t a1 a2 a3 a4 a5)) hs
/-- row[column] = value, the place unknown but in bounds -/
theorem r_setL {Q : Unit → Shared → Prop} {vs : List Value} {n : Nat} {k : Int} {t : Tok} {v : Value} (F : Fr h₀ L s.heap m) (N : News h₀ L s.heap news) (U : Upd l (listOf vs.toArray n) (listOf (vs.set k.toNat v).toArray n) news news')
    (h0 : 0 ≤ k) (h1 : k < vs.length) (hfit : k < 2 ^ 63)
    (h : ∀ h', Fr h₀ L h' m → News h₀ L h' news' → Q () { s with heap := h' }) : wpAny (model prog w) A (setItem (.ref l) (.int k t) v) Q E s := by
  obtain ⟨pre, post, rfl, rfl, a, b⟩ := U.split
  have z := N (l, listOf vs.toArray n) (List.mem_append.mpr (.inr (.head _)))
  have hs : vs.toArray.size = vs.length := List.size_toArray ..
  refine ki_setAt z.1 h0 hfit (by lia) (h _ (F.change (Heap.SameBut.update ..) z.2.1 z.2.2) (ki_turn _ N a b ?_ ?_))
  · show vs.toArray.setIfInBounds k.toNat v = (vs.set k.toNat v).toArray
    apply Array.toList_inj.mp
    simp
  · simp
theorem Upd.appendR {d : Addr} {o o' : Obj} {a a' b : List (Addr × Obj)} (U : Upd d o o' a a') (hb : ∀ p ∈ b, p.1 ≠ d) : Upd d o o' (a ++ b) (a' ++ b) := by
  induction U with
  | head h => exact .head fun p hp => (List.mem_append.mp hp).elim (h p) (hb p)
  | tail h _ ih => exact .tail h ih
end
section
variable {prog : Program} {w : World} {A : Around} {E : Value → Shared → Prop} {s : Shared} {env : Env} {h₀ : Heap} {x : Str} {body : List Stmt} {Q : Flow → Shared → Prop}
/-- the end of a turn of a loop whose ledger may grow -/
def TurnEnd (h₀ : Heap) (L I : Addr) (oI : Obj) (J : (Str → Option Value) → List (Addr × Obj) → Prop) (s : Shared) (f : Flow) (s₂ : Shared) : Prop :=
  f = .next ∧ ∃ h' tk' m' nx', s₂ = { s with heap := h', toks := tk' } ∧ Fr h₀ L h' m' ∧ News h₀ L h' ((I, oI) :: nx') ∧ (∀ p ∈ nx', p.1 ≠ I) ∧ J m' nx'
theorem loop_grow {r : Addr} {a₀ b₀ : Int} {t₀ u₀ v₀ : Tok} {n : Nat} {m₀ : Str → Option Value} {news : List (Addr × Obj)} (J : Nat → (Str → Option Value) → List (Addr × Obj) → Prop)
    (hh : A.handled = none) (hr : IsRange s.heap r a₀ b₀ 1 t₀ u₀ v₀) (hsmall : Builtin.Range.small a₀ b₀ 1 = true) (hn : Builtin.Range.rangeSize a₀ b₀ 1 = (n : Int)) (F : Fr h₀ env.locals s.heap m₀) (N : News h₀ env.locals s.heap news) (h0 : J 0 m₀ news)
    (turn : ∀ (i : Nat) t m₁ nx h tk I oI, i < n → J i m₁ nx → (∀ p ∈ nx, p.1 ≠ I) → Fr h₀ env.locals h (fun y => if y = x then some (.int (a₀ + (i : Int)) t) else m₁ y) → News h₀ env.locals h ((I, oI) :: nx) →
      wpAny (model prog w) A (execs body env) (TurnEnd h₀ env.locals I oI (J (i + 1)) { s with heap := h, toks := tk }) E { s with heap := h, toks := tk })
    (done : ∀ m₁ nx h tk, J n m₁ nx → Fr h₀ env.locals h m₁ → News h₀ env.locals h nx → Q .next { s with heap := h, toks := tk }) :
    wpAny (model prog w) A (pyIter (.ref r)) (fun it s₂ => LoopAtV prog w A h₀ env x body Q E it s₂) E s := by
  refine wpAny_pyIter_range hr hsmall ?_
  have W : Walks prog w A s.heap.objs.size [s.heap.objs.size] [s.heap.objs.size] n (fun i v => ∃ t, v = .int (a₀ + i * 1) t)
      (fun i h => IsRangeIter h s.heap.objs.size (a₀ + (i : Nat) * 1) ((n : Int) - (i : Nat)) 1) := Walks.range hh _ a₀ 1 n
  refine ⟨_, _, _, n, _, _, m₀, news, J, rfl, W, ?_, ?_, ?_, (by show IsRangeIter _ _ _ _ _; rw [hn]; simpa using Heap.get?_push_size _ rfl), F.push _, (fun p hp => ⟨Heap.get?_push_of_some _ (N p hp).1, (N p hp).2⟩), h0, ?_, ?_⟩
  · intro hm
    exact absurd F.ns.lt ((List.mem_singleton.mp hm) ▸ Nat.lt_irrefl _)
  · intro b hb
    rw [List.mem_singleton.mp hb]
    exact next_is_new F
  · intro p hp hI
    exact absurd (Heap.lt_size (N p hp).1) ((List.mem_singleton.mp hI) ▸ Nat.lt_irrefl _)
  · rintro i v m₁ nx s₁ own ⟨hh', tk', rfl⟩ hin ⟨t, rfl⟩ hJ hoff hown hget hall hst F₁ N₁
    have hst' : IsRangeIter hh' s.heap.objs.size (a₀ + ((i + 1 : Nat) : Int) * 1) ((n : Int) - ((i + 1 : Nat) : Int)) 1 := hst
    have hIo : hh'.get? s.heap.objs.size = some _ := hst'
    have hmem : (s.heap.objs.size, _) ∈ own := hall _ (List.mem_singleton.mpr rfl) (next_is_new F) _ hIo
    have e1 : a₀ + (i : Int) * 1 = a₀ + (i : Int) := by lia
    rw [e1] at F₁
    have N₂ : News h₀ env.locals hh' ((s.heap.objs.size, _) :: nx) := fun p hp => N₁ p ((List.mem_cons.mp hp).elim (fun e => e ▸ List.mem_append_left _ hmem) fun e => List.mem_append_right _ e)
    refine wpAny_mono (turn i t m₁ nx hh' tk' _ _ hin hJ (fun p hp e => hoff p hp (List.mem_singleton.mpr e)) F₁ N₂) (fun f s₂ p => ?_) fun _ _ e => e
    obtain ⟨rfl, h', tk, m', nx', e, F', N', hne, hJ'⟩ := p
    refine .next ⟨rfl, h', tk, m', nx', e, F', fun p hp => ?_, fun p hp hb => hne p hp (List.mem_singleton.mp hb), hJ'⟩
    rcases List.mem_append.mp hp with hp | hp
    · have q1 := List.mem_singleton.mp (hown p hp)
      have q2 := hget p hp
      have q3 : hh'.get? p.1 = some p.2 := q2
      rw [q1, hIo] at q3
      have : p = (s.heap.objs.size, _) := Prod.ext q1 (Option.some.inj q3).symm
      rw [this]
      exact N' _ (.head _)
    · exact N' _ (.tail _ hp)
  · rintro h' tk m' news' F' N' _ hJ
    exact done m' news' h' tk hJ F' N'
end
theorem datAll_len {nn : List (Addr × Obj)} : ∀ {vs : List Value} {ds : List PySem.W.Dat}, DatAll nn vs ds → vs.length = ds.length
  | _, _, .nil => rfl
  | _, _, .cons _ r => congrArg (· + 1) (datAll_len r)
theorem datAll_get {nn : List (Addr × Obj)} : ∀ {vs : List Value} {ds : List PySem.W.Dat}, DatAll nn vs ds → ∀ (j : Nat) v d, vs[j]? = some v → ds[j]? = some d → DatIn nn v d
  | _, _, .nil, j, v, d, h, _ => by simp at h
  | _, _, .cons hd _, 0, v, d, h1, h2 => by
    simp only [List.getElem?_cons_zero, Option.some.injEq] at h1 h2
    subst h1; subst h2; exact hd
  | _, _, .cons _ r, j + 1, v, d, h1, h2 => datAll_get r j v d (by simpa using h1) (by simpa using h2)
theorem rowD_length (lp i : Int) (k : Nat) : (rowD lp i k).length = 7 := by unfold rowD; simp
theorem rowD_at {lp i : Int} {k j : Nat} {d : PySem.W.Dat} (h : (rowD lp i k)[j]? = some d) : j < 7 ∧ d = calD lp i (7 * (k : Int) + (j : Int)) := by
  have hj : j < 7 := by
    have := (List.getElem?_eq_some_iff.mp h).1
    rw [rowD_length] at this; exact this
  unfold rowD at h
  rw [List.getElem?_map, List.getElem?_range hj] at h
  simp only [Option.map_some, Option.some.injEq] at h
  exact ⟨hj, h.symm⟩
theorem rowD_set {lp i : Int} {ws : List Value} {k c : Nat} {t : Tok} (h : DatAll [] ws (rowD lp i k)) (h0 : 0 ≤ i) (hc : (c : Int) = lp + i - 7 * k) (hc7 : c < 7) :
    DatAll [] (ws.set c (.int (i + 1) t)) (rowD lp (i + 1) k) := by
  have hl := datAll_len h
  rw [rowD_length] at hl
  refine datAll_of _ _ (by rw [List.length_set, rowD_length, hl]) fun j v d e1 e2 => ?_
  obtain ⟨hj, rfl⟩ := rowD_at e2
  by_cases hjc : c = j
  · subst hjc
    rw [List.getElem?_set_self (by lia)] at e1
    cases e1
    unfold calD
    rw [if_pos (by lia), show 7 * (k : Int) + (c : Int) - lp + 1 = i + 1 by lia]
    exact .int _ _
  · rw [List.getElem?_set_ne hjc] at e1
    have e3 : (rowD lp i k)[j]? = some (calD lp i (7 * (k : Int) + (j : Int))) := by
      unfold rowD; rw [List.getElem?_map, List.getElem?_range hj]; rfl
    have q := datAll_get h j v _ e1 e3
    have e4 : calD lp (i + 1) (7 * (k : Int) + (j : Int)) = calD lp i (7 * (k : Int) + (j : Int)) := by
      unfold calD
      by_cases hq : lp ≤ 7 * (k : Int) + (j : Int) ∧ 7 * (k : Int) + (j : Int) < lp + i
      · rw [if_pos hq, if_pos (by lia)]
      · rw [if_neg hq, if_neg (by lia)]
    rw [e4]; exact q
theorem rowD_full {lp i ml : Int} {k : Nat} (h : i = ml ∨ (7 * (k : Int) + 7 ≤ lp + i ∧ i ≤ ml)) : rowD lp i k = rowD lp ml k := by
  unfold rowD
  refine List.map_congr_left fun j hj => ?_
  have hj := List.mem_range.mp hj
  unfold calD
  by_cases hq : lp ≤ 7 * (k : Int) + (j : Int) ∧ 7 * (k : Int) + (j : Int) < lp + i
  · rw [if_pos hq, if_pos (by lia)]
  · rw [if_neg hq, if_neg (by lia)]
theorem rowD_empty {lp i : Int} {k : Nat} (h : i = 0 ∨ lp + i ≤ 7 * (k : Int)) : DatAll [] [Value.none, .none, .none, .none, .none, .none, .none] (rowD lp i k) := by
  refine datAll_of _ _ (by rw [rowD_length]; rfl) fun j v d e1 e2 => ?_
  obtain ⟨hj, rfl⟩ := rowD_at e2
  have hv : v = .none := by
    rcases (by lia : j = 0 ∨ j = 1 ∨ j = 2 ∨ j = 3 ∨ j = 4 ∨ j = 5 ∨ j = 6) with rfl | rfl | rfl | rfl | rfl | rfl | rfl <;> (cases e1; rfl)
  subst hv
  unfold calD
  rw [if_neg (by lia)]
  exact .none
/-- the leaf as the law's loop builds it, i days written -/
structure RJ (m₀ : Str → Option Value) (base : List (Addr × Obj)) (R : Addr) (lp ml : Int) (i : Nat) (m : Str → Option Value) (nx : List (Addr × Obj)) (W : Addr) (xs ws : List Value) (nn : List (Addr × Obj)) (c c2 k : Nat) : Prop where
  led : nx = (R, listOf xs.toArray c) :: (W, listOf ws.toArray c2) :: (nn ++ base)
  off : ∀ p ∈ nn ++ base, p.1 ≠ R ∧ p.1 ≠ W
  ne : W ≠ R
  dat : DatAll nn xs ((List.range k).map fun j => .list (rowD lp ml j))
  hrow : m (Str.ofString "row") = some (.ref W)
  hm : ∀ y, y ≠ Str.ofString "row" → y ≠ Str.ofString "one" → y ≠ Str.ofString "column" → m y = m₀ y
  small : xs.length ≤ i
  open_ : (i : Int) < ml → k = ((lp + i) / 7).toNat ∧ DatAll [] ws (rowD lp i k)
  full : (i : Int) = ml → k = calN lp ml
def RJE (m₀ : Str → Option Value) (base : List (Addr × Obj)) (R : Addr) (lp ml : Int) (i : Nat) (m : Str → Option Value) (nx : List (Addr × Obj)) : Prop :=
  ∃ W xs ws nn c c2 k, RJ m₀ base R lp ml i m nx W xs ws nn c c2 k
theorem kqdOk_row (lp i : Int) (k : Nat) : ∀ n, kqdOk (n + 1) (.list (rowD lp i k)) = true := by
  intro n
  rw [kqdOk, List.all_eq_true]
  intro d hd
  obtain ⟨j, hj, rfl⟩ := List.mem_map.mp hd
  unfold calD
  split <;> simp [kqdOk]
theorem kqdOk_cal (lp ml : Int) : ∀ d ∈ calAll lp ml, kqdOk 8 d = true := by
  intro d hd
  obtain ⟨j, hj, rfl⟩ := List.mem_map.mp hd
  exact kqdOk_row lp ml j 7
section
variable {prog : Program} {w : World} {A : Around} {E : Value → Shared → Prop} {s : Shared} {h₀ : Heap} {L a b : Addr} {news n₁ n₂ : List (Addr × Obj)} {xs ys : List Value} {ka kb : Nat} {Q : Value → Shared → Prop}
theorem ne_cal {lp lp' ml : Int} (N : News h₀ L s.heap news) (ma : (a, listOf xs.toArray ka) ∈ news) (Da : DatAll n₁ xs (calAll lp ml)) (sa : ∀ p ∈ n₁, p ∈ news)
    (mb : (b, listOf ys.toArray kb) ∈ news) (Db : DatAll n₂ ys (calAll lp' ml)) (sb : ∀ p ∈ n₂, p ∈ news) (he : lp = lp') (hu : A.units + 64 < cLine) (h : Q (.bool false) s) : wpAny (model prog w) A (compareOp .NotEq (.ref a) (.ref b)) Q E s := by
  subst he
  refine kqd_ne N ma rfl rfl Da sa mb rfl rfl Db sb (kqdOk_cal _ _) (kqdOk_cal _ _) hu ?_
  simpa using h
end
/-- where k_steps is to stand still -/
def Stop (p : Prop) : Prop := p
theorem Stop.mk {p : Prop} (h : Stop p) : p := h
abbrev NLast (last n : Int) : Prop := 0 ≤ last ∧ last < 5 ∧ 347998 ≤ n ∧ (0 < last → 584283 ≤ n) ∧ (1 < last → 1922868 ≤ n) ∧ (2 < last → 2117212 ≤ n) ∧ (3 < last → 2375840 ≤ n)
/-- where the law stands behind its first nine statements -/
def CutA (h₀ : Heap) (L : Addr) (s : Shared) (f : Flow) (s' : Shared) : Prop :=
  f = .next ∧ ∃ (nl da : Addr) (vs : List Value) (ms : List Int) (c ca : Nat) (last n y mo d : Int) (t1 t2 t3 t4 t5 t6 u1 u2 u3 : Tok) (h' : Heap) (tk : Nat) (m : Str → Option Value), s' = { s with heap := h', toks := tk } ∧
    IntsAre vs ms ∧ 3 ≤ ms.length ∧ NLast last n ∧ IsH n y mo d ∧
    m (Str.ofString "numbers") = some (.ref nl) ∧ m (Str.ofString "last") = some (.int last t1) ∧ m (Str.ofString "number") = some (.int n t2) ∧ m (Str.ofString "date") = some (.ref da) ∧
    m (Str.ofString "year") = some (.int y t3) ∧ m (Str.ofString "month") = some (.int mo t4) ∧ m (Str.ofString "day") = some (.int d t5) ∧ m (Str.ofString "length") = some (.int (hml y mo) t6) ∧
    Fr h₀ L h' m ∧ News h₀ L h' [(nl, listOf vs.toArray c), (da, tup3 (gY n) (gM n) (gD n) u1 u2 u3 ca)]
/-- behind a part that keeps the four names and the two objects -/
def CutB (h₀ : Heap) (L : Addr) (nl da : Addr) (v2 v3 : Value) (led : List (Addr × Obj)) (s : Shared) (f : Flow) (s' : Shared) : Prop :=
  f = .next ∧ ∃ (h' : Heap) (tk : Nat) (m : Str → Option Value), s' = { s with heap := h', toks := tk } ∧
    m (Str.ofString "numbers") = some (.ref nl) ∧ m (Str.ofString "last") = some v2 ∧ m (Str.ofString "number") = some v3 ∧ m (Str.ofString "date") = some (.ref da) ∧
    Fr h₀ L h' m ∧ News h₀ L h' led
abbrev nest4 (nl da : Addr) (v2 v3 : Value) (m : Str → Option Value) : Str → Option Value := fun z => if z = Str.ofString "numbers" then some (.ref nl) else if z = Str.ofString "last" then some v2 else if z = Str.ofString "number" then some v3 else if z = Str.ofString "date" then some (.ref da) else m z
section
variable {M : Model} {A : Around} {E : Value → Shared → Prop} {s : Shared} {env : Env} {h₀ : Heap} {L : Addr} {m : Str → Option Value} {Q : Flow → Shared → Prop} {l : List Stmt}
theorem CutA.mk {nl da : Addr} {vs : List Value} {ms : List Int} {c ca : Nat} {last n y mo d len : Int} {t1 t2 t3 t4 t5 t6 u1 u2 u3 : Tok} {h' : Heap} {tk : Nat} {news : List (Addr × Obj)}
    (F : Fr h₀ L h' m) (N : News h₀ L h' news) (e1 : m (Str.ofString "numbers") = some (.ref nl)) (e2 : m (Str.ofString "last") = some (.int last t1)) (e3 : m (Str.ofString "number") = some (.int n t2)) (e4 : m (Str.ofString "date") = some (.ref da))
    (e5 : m (Str.ofString "year") = some (.int y t3)) (e6 : m (Str.ofString "month") = some (.int mo t4)) (e7 : m (Str.ofString "day") = some (.int d t5)) (e8 : m (Str.ofString "length") = some (.int len t6))
    (k1 : (nl, listOf vs.toArray c) ∈ news) (k2 : (da, tup3 (gY n) (gM n) (gD n) u1 u2 u3 ca) ∈ news) (hi : IntsAre vs ms) (hl : 3 ≤ ms.length) (hn : NLast last n) (hH : IsH n y mo d) (hlen : len = hml y mo) :
    CutA h₀ L s .next { s with heap := h', toks := tk } := by
  subst hlen
  refine ⟨rfl, nl, da, vs, ms, c, ca, last, n, y, mo, d, t1, t2, t3, t4, t5, t6, u1, u2, u3, h', tk, m, rfl, hi, hl, hn, hH, e1, e2, e3, e4, e5, e6, e7, e8, F, fun p hp => ?_⟩
  rcases List.mem_cons.mp hp with rfl | hp
  · exact N _ k1
  · rw [List.mem_singleton.mp hp]; exact N _ k2
theorem cutA (k : Nat) (_F : Fr h₀ L s.heap m) (h1 : wpAny M A (execs (l.take k) env) (CutA h₀ L s) E s)
    (h2 : ∀ (nl da : Addr) (vs : List Value) (ms : List Int) (c ca : Nat) (last n y mo d : Int) (t1 t2 t3 t4 t5 t6 u1 u2 u3 : Tok) (h' : Heap) (tk : Nat) (m : Str → Option Value), IntsAre vs ms → 3 ≤ ms.length → NLast last n → IsH n y mo d →
      Fr h₀ L h' (fun z => if z = Str.ofString "numbers" then some (.ref nl) else if z = Str.ofString "last" then some (.int last t1) else if z = Str.ofString "number" then some (.int n t2) else if z = Str.ofString "date" then some (.ref da)
        else if z = Str.ofString "year" then some (.int y t3) else if z = Str.ofString "month" then some (.int mo t4) else if z = Str.ofString "day" then some (.int d t5) else if z = Str.ofString "length" then some (.int (hml y mo) t6) else m z) →
      News h₀ L h' [(nl, listOf vs.toArray c), (da, tup3 (gY n) (gM n) (gD n) u1 u2 u3 ca)] → wpAny M A (execs (l.drop k) env) Q E { s with heap := h', toks := tk }) : wpAny M A (execs l env) Q E s := by
  refine execs_cut k h1 ?_ fun f s' hf h => absurd h.1 hf
  rintro s' ⟨_, nl, da, vs, ms, c, ca, last, n, y, mo, d, t1, t2, t3, t4, t5, t6, u1, u2, u3, h', tk, m', rfl, hi, hl, hn, hH, e1, e2, e3, e4, e5, e6, e7, e8, F, N⟩
  exact h2 nl da vs ms c ca last n y mo d t1 t2 t3 t4 t5 t6 u1 u2 u3 h' tk m' hi hl hn hH (fr8 F e1 e2 e3 e4 e5 e6 e7 e8) N
theorem CutB.mk {nl da : Addr} {v2 v3 : Value} {led news : List (Addr × Obj)} {h' : Heap} {tk : Nat} (F : Fr h₀ L h' m) (N : News h₀ L h' news)
    (e1 : m (Str.ofString "numbers") = some (.ref nl)) (e2 : m (Str.ofString "last") = some v2) (e3 : m (Str.ofString "number") = some v3) (e4 : m (Str.ofString "date") = some (.ref da)) (hs : ∀ p ∈ led, p ∈ news) :
    CutB h₀ L nl da v2 v3 led s .next { s with heap := h', toks := tk } := ⟨rfl, h', tk, m, rfl, e1, e2, e3, e4, F, fun p hp => N p (hs p hp)⟩
theorem cutB {nl da : Addr} {v2 v3 : Value} {led : List (Addr × Obj)} (k : Nat) (_F : Fr h₀ L s.heap m) (_N : News h₀ L s.heap led) (_e1 : m (Str.ofString "numbers") = some (.ref nl)) (_e2 : m (Str.ofString "last") = some v2) (_e3 : m (Str.ofString "number") = some v3) (_e4 : m (Str.ofString "date") = some (.ref da))
    (h1 : wpAny M A (execs (l.take k) env) (CutB h₀ L nl da v2 v3 led s) E s)
    (h2 : ∀ (h' : Heap) (tk : Nat) (m : Str → Option Value), Fr h₀ L h' (nest4 nl da v2 v3 m) → News h₀ L h' led → wpAny M A (execs (l.drop k) env) Q E { s with heap := h', toks := tk }) : wpAny M A (execs l env) Q E s := by
  refine execs_cut k h1 ?_ fun f s' hf h => absurd h.1 hf
  rintro s' ⟨_, h', tk, m', rfl, e1, e2, e3, e4, F, N⟩
  exact h2 h' tk m' (fr4 F e1 e2 e3 e4) N
end
theorem allLt_ne {d : Addr} : ∀ {l : List (Addr × Obj)}, AllLt d l → ∀ p ∈ l, p.1 ≠ d
  | [], _, p, hp => by cases hp
  | q :: r, h, p, hp => by
    rcases List.mem_cons.mp hp with rfl | hp
    · exact Nat.ne_of_lt h.1
    · exact allLt_ne h.2 p hp
section
variable {prog : Program} {w : World} {A : Around} {E : Value → Shared → Prop} {s : Shared} {h₀ : Heap} {L l : Addr} {m : Str → Option Value} {news news' : List (Addr × Obj)} {Q : Value → Shared → Prop}
theorem r_app {xs : List Value} {n : Nat} {x : Value} (F : Fr h₀ L s.heap m) (N : News h₀ L s.heap news) (U : Upd l (listOf xs.toArray n) (listOf (xs ++ [x]).toArray (n + 1)) news news') (hz : xs.length ≤ 100)
    (h : ∀ h', Fr h₀ L h' m → News h₀ L h' news' → Q .none { s with heap := h' }) : wpAny (model prog w) A (call (.builtin "list.append") [.ref l, x]) Q E s := by
  refine append_K (its := xs.toArray) F N (by rw [List.push_toArray]; exact U) h ?_
  rw [List.size_toArray]; exact Nat.le_trans hz (by decide)
end
section
variable {h₀ h' : Heap} {L R W W' I : Addr} {oI : Obj} {m₀ m₁ m' : Str → Option Value} {base nx nn : List (Addr × Obj)} {lp ml z : Int} {i c c2 c3 k : Nat} {xs ws : List Value} {s : Shared} {tk : Nat} {t : Tok}
theorem turn_keep (J : RJ m₀ base R lp ml i m₁ nx W xs ws nn c c2 k) (hz : z = (lp + i) % 7) (hi : (i : Int) < ml) (h0 : 0 ≤ lp) (hn6 : ¬ z = 6) (hne : ¬ 1 + (i : Int) = ml) (hIR : R ≠ I) (hIW : W ≠ I) (hIo : ∀ p ∈ nn ++ base, p.1 ≠ I)
    (F : Fr h₀ L h' m') (N : News h₀ L h' ((I, oI) :: (R, listOf xs.toArray c) :: (W, listOf (ws.set z.toNat (.int (1 + (i : Int)) t)).toArray c2) :: (nn ++ base)))
    (e1 : m' (Str.ofString "row") = some (.ref W)) (e2 : ∀ y, y ≠ Str.ofString "row" → y ≠ Str.ofString "one" → y ≠ Str.ofString "column" → m' y = m₀ y) :
    TurnEnd h₀ L I oI (RJE m₀ base R lp ml (i + 1)) s .next { s with heap := h', toks := tk } := by
  obtain ⟨hk, hd⟩ := J.open_ hi
  refine ⟨rfl, h', tk, m', _, rfl, F, N, ?_, W, xs, ws.set z.toNat (.int (1 + (i : Int)) t), nn, c, c2, k, rfl, J.off, J.ne, J.dat, e1, e2, Nat.le_succ_of_le J.small, fun hi' => ⟨?_, ?_⟩, fun hf => ?_⟩
  · intro p hp
    rcases List.mem_cons.mp hp with rfl | hp
    · exact hIR
    · rcases List.mem_cons.mp hp with rfl | hp
      · exact hIW
      · exact hIo p hp
  · have h7 : (((i + 1 : Nat) : Int)) = (i : Int) + 1 := by lia
    rw [h7]; lia
  · have q := rowD_set (t := t) (c := z.toNat) hd (by lia) (by lia) (by lia)
    rw [show ((i + 1 : Nat) : Int) = (i : Int) + 1 by lia, show 1 + (i : Int) = (i : Int) + 1 by lia]
    exact q
  · lia
theorem turn_full (J : RJ m₀ base R lp ml i m₁ nx W xs ws nn c c2 k) (hz : z = (lp + i) % 7) (hi : (i : Int) < ml) (h0 : 0 ≤ lp) (hfull : z = 6 ∨ 1 + (i : Int) = ml) (hIR : R ≠ I) (hIW : W ≠ I) (hIo : ∀ p ∈ nn ++ base, p.1 ≠ I)
    (ll : @LT.lt Nat _ I W' ∧ @LT.lt Nat _ R W' ∧ @LT.lt Nat _ W W' ∧ AllLt W' (nn ++ base))
    (F : Fr h₀ L h' m') (N : News h₀ L h' ((W', listOf [Value.none, .none, .none, .none, .none, .none, .none].toArray c3) :: (I, oI) :: (R, listOf (xs ++ [Value.ref W]).toArray (c + 1)) :: (W, listOf (ws.set z.toNat (.int (1 + (i : Int)) t)).toArray c2) :: (nn ++ base)))
    (e1 : m' (Str.ofString "row") = some (.ref W')) (e2 : ∀ y, y ≠ Str.ofString "row" → y ≠ Str.ofString "one" → y ≠ Str.ofString "column" → m' y = m₀ y) :
    TurnEnd h₀ L I oI (RJE m₀ base R lp ml (i + 1)) s .next { s with heap := h', toks := tk } := by
  obtain ⟨l1, l2, l3, l4⟩ := ll
  obtain ⟨hk, hd⟩ := J.open_ hi
  have q := rowD_set (t := t) (c := z.toNat) hd (by lia) (by lia) (by lia)
  rw [show (i : Int) + 1 = 1 + (i : Int) by lia] at q
  rw [rowD_full (ml := ml) (by lia)] at q
  refine ⟨rfl, h', tk, m', (R, listOf (xs ++ [Value.ref W]).toArray (c + 1)) :: (W', listOf [Value.none, .none, .none, .none, .none, .none, .none].toArray c3) :: (((W, listOf (ws.set z.toNat (.int (1 + (i : Int)) t)).toArray c2) :: nn) ++ base), rfl, F, ?_, ?_,
    W', xs ++ [Value.ref W], [Value.none, .none, .none, .none, .none, .none, .none], (W, listOf (ws.set z.toNat (.int (1 + (i : Int)) t)).toArray c2) :: nn, c + 1, c3, k + 1, rfl, ?_, (Nat.ne_of_gt l2), ?_, e1, e2, ?_, fun hi' => ⟨?_, ?_⟩, fun hf => ?_⟩
  · intro p hp
    rcases List.mem_cons.mp hp with rfl | hp
    · exact N _ (.tail _ (.head _))
    · rcases List.mem_cons.mp hp with rfl | hp
      · exact N _ (.tail _ (.tail _ (.head _)))
      · rcases List.mem_cons.mp hp with rfl | hp
        · exact N _ (.head _)
        · exact N _ (.tail _ (.tail _ (.tail _ hp)))
  · intro p hp
    rcases List.mem_cons.mp hp with rfl | hp
    · exact hIR
    · rcases List.mem_cons.mp hp with rfl | hp
      · exact Nat.ne_of_gt l1
      · rcases List.mem_cons.mp hp with rfl | hp
        · exact hIW
        · exact hIo p hp
  · intro p hp
    rcases List.mem_cons.mp hp with rfl | hp
    · exact ⟨J.ne, Nat.ne_of_lt l3⟩
    · exact ⟨(J.off p hp).1, allLt_ne l4 p hp⟩
  · rw [List.range_succ, List.map_append]
    refine datAll_snoc (.list (.head _) (q.mono fun p hp => by cases hp)) (J.dat.mono fun p hp => .tail _ hp)
  · have := J.small
    simp only [List.length_append, List.length_cons, List.length_nil]; lia
  · rw [show ((i + 1 : Nat) : Int) = (i : Int) + 1 by lia] at *; lia
  · exact rowD_empty (.inr (by lia))
  · unfold calN; lia
end
section
variable {prog : Program} {w : World} {A : Around} {E : Value → Shared → Prop} {s : Shared} {env : Env} {h₀ : Heap} {body : List Stmt} {Q : Flow → Shared → Prop}
theorem loop_rows {r R W : Addr} {t₀ u₀ v₀ : Tok} {m₀ : Str → Option Value} {lp ml : Int} {base : List (Addr × Obj)} {c1 c2 : Nat} (hh : A.handled = none) (hr : IsRange s.heap r 1 (ml + 1) 1 t₀ u₀ v₀) (h29 : 29 ≤ ml) (h30 : ml ≤ 30) (hlp : 0 ≤ lp ∧ lp < 7)
    (F : Fr h₀ env.locals s.heap m₀) (N : News h₀ env.locals s.heap ((W, listOf #[Value.none, .none, .none, .none, .none, .none, .none] c2) :: (R, listOf #[] c1) :: base)) (hrow : m₀ (Str.ofString "row") = some (.ref W)) (hne : W ≠ R) (hoff : ∀ p ∈ base, p.1 ≠ R ∧ p.1 ≠ W)
    (turn : ∀ (i : Nat) (t : Tok) (uc : Option Value) (m₁ : Str → Option Value) (nx : List (Addr × Obj)) (h : Heap) (tk : Nat) (I : Addr) (oI : Obj) (W : Addr) (xs ws : List Value) (nn : List (Addr × Obj)) (c c2 k : Nat), (i : Int) < ml → RJ m₀ base R lp ml i m₁ nx W xs ws nn c c2 k → R ≠ I → W ≠ I → (∀ p ∈ nn ++ base, p.1 ≠ I) →
      Fr h₀ env.locals h (fun y => if y = Str.ofString "one" then some (.int (1 + (i : Int)) t) else if y = Str.ofString "row" then some (.ref W) else if y = Str.ofString "column" then uc else m₀ y) → News h₀ env.locals h ((I, oI) :: (R, listOf xs.toArray c) :: (W, listOf ws.toArray c2) :: (nn ++ base)) →
      wpAny (model prog w) A (execs body env) (TurnEnd h₀ env.locals I oI (RJE m₀ base R lp ml (i + 1)) { s with heap := h, toks := tk }) E { s with heap := h, toks := tk })
    (done : ∀ (u1 u2 u3 : Option Value) (xs : List Value) (c : Nat) (nn : List (Addr × Obj)) (h : Heap) (tk : Nat), Fr h₀ env.locals h (fun y => if y = Str.ofString "one" then u1 else if y = Str.ofString "row" then u2 else if y = Str.ofString "column" then u3 else m₀ y) →
      News h₀ env.locals h ((R, listOf xs.toArray c) :: (nn ++ base)) → DatAll nn xs (calAll lp ml) → Q .next { s with heap := h, toks := tk }) :
    wpAny (model prog w) A (pyIter (.ref r)) (fun it s₂ => LoopAtV prog w A h₀ env (Str.ofString "one") body Q E it s₂) E s := by
  refine loop_grow (n := ml.toNat) (m₀ := m₀) (news := (R, listOf [].toArray c1) :: (W, listOf [Value.none, .none, .none, .none, .none, .none, .none].toArray c2) :: ([] ++ base)) (RJE m₀ base R lp ml) hh hr ?_ ?_ F ?_ ?_ ?_ ?_
  · unfold Builtin.Range.small Builtin.Range.rangeSize Builtin.Range.rangeFitsLong; simp; lia
  · unfold Builtin.Range.rangeSize; simp; lia
  · intro p hp
    rcases List.mem_cons.mp hp with rfl | hp
    · exact N _ (.tail _ (.head _))
    · rcases List.mem_cons.mp hp with rfl | hp
      · exact N _ (.head _)
      · exact N _ (.tail _ (.tail _ hp))
  · refine ⟨W, [], [Value.none, .none, .none, .none, .none, .none, .none], [], c1, c2, 0, rfl, hoff, hne, .nil, hrow, fun _ _ _ _ => rfl, Nat.le_refl _, fun _ => ⟨?_, rowD_empty (.inl rfl)⟩, fun h => ?_⟩
    · lia
    · lia
  · rintro i t m₁ nx h tk I oI hi ⟨W', xs, ws, nn, c, c2', k, J⟩ ho F₁ N₁
    have hled := J.led
    subst hled
    refine turn i t (m₁ (Str.ofString "column")) m₁ _ h tk I oI W' xs ws nn c c2' k (by lia) J (ho _ (.head _)) (ho _ (.tail _ (.head _))) (fun p hp => ho p (.tail _ (.tail _ hp))) ?_ N₁
    have e : (fun y => if y = Str.ofString "one" then some (Value.int (1 + (i : Int)) t) else m₁ y) = fun y => if y = Str.ofString "one" then some (.int (1 + (i : Int)) t) else if y = Str.ofString "row" then some (.ref W') else if y = Str.ofString "column" then m₁ (Str.ofString "column") else m₀ y := by
      funext y
      by_cases h1 : y = Str.ofString "one"
      · rw [if_pos h1, if_pos h1]
      · rw [if_neg h1, if_neg h1]
        by_cases h2 : y = Str.ofString "row"
        · rw [if_pos h2, h2, J.hrow]
        · rw [if_neg h2]
          by_cases h3 : y = Str.ofString "column"
          · rw [if_pos h3, h3]
          · rw [if_neg h3, J.hm y h2 h1 h3]
    rw [← e]; exact F₁
  · rintro m₁ nx h tk ⟨W', xs, ws, nn, c, c2', k, J⟩ F₁ N₁
    have hled := J.led
    subst hled
    have hk := J.full (by lia)
    refine done (m₁ (Str.ofString "one")) (m₁ (Str.ofString "row")) (m₁ (Str.ofString "column")) xs c nn h tk ?_ ?_ ?_
    · have e : (fun y => if y = Str.ofString "one" then m₁ (Str.ofString "one") else if y = Str.ofString "row" then m₁ (Str.ofString "row") else if y = Str.ofString "column" then m₁ (Str.ofString "column") else m₀ y) = m₁ := by
        funext y
        by_cases h1 : y = Str.ofString "one"
        · rw [if_pos h1, h1]
        · rw [if_neg h1]
          by_cases h2 : y = Str.ofString "row"
          · rw [if_pos h2, h2]
          · rw [if_neg h2]
            by_cases h3 : y = Str.ofString "column"
            · rw [if_pos h3, h3]
            · rw [if_neg h3, J.hm y h2 h1 h3]
      rw [e]; exact F₁
    · intro p hp
      rcases List.mem_cons.mp hp with rfl | hp
      · exact N₁ _ (.head _)
      · exact N₁ _ (.tail _ (.tail _ hp))
    · have hd := J.dat
      rw [hk] at hd
      exact hd
end

local macro_rules | `(tactic| walk_at "truthy") => `(tactic| k_extra "rw0")
local macro_rules | `(tactic| walk_at "compareOp Eq") => `(tactic| k_extra "rw1")
local macro_rules | `(tactic| walk_at "exec If") => `(tactic| k_extra "rw2")
local macro_rules | `(tactic| walk_at "binaryOp Mult int int") => `(tactic| k_extra "rw3")
local macro_rules | `(tactic| walk_at "binaryOp FloorDiv int int") => `(tactic| k_extra "rw4")
local macro_rules | `(tactic| walk_at "binaryOp Mod int int") => `(tactic| k_extra "rw5")
local macro_rules | `(tactic| walk_at "compareOp In int ref") => `(tactic| k_extra "rw6")
local macro_rules | `(tactic| walk_at "storeName") => `(tactic| k_extra "rw7")
local macro_rules | `(tactic| walk_at "eval Call") => `(tactic| k_extra "rw8")
local macro_rules | `(tactic| walk_at "call ref") => `(tactic| k_extra "rw9")
local macro_rules | `(tactic| walk_at "compareOp In") => `(tactic| k_extra "rw13")
local macro_rules | `(tactic| walk_at "isTrue BoolOp") => `(tactic| k_extra "rw15")
local macro_rules | `(tactic| walk_at "subscriptTail") => `(tactic| k_extra "rw17")
local macro_rules | `(tactic| walk_at "binaryOp Mult ref int") => `(tactic| k_extra "rw18")
local macro_rules | `(tactic| walk_at "binaryOp Mult int ref") => `(tactic| k_extra "rw19")
local macro_rules | `(tactic| walk_at "binaryOp Add ref ref") => `(tactic| k_extra "rw20")
local macro_rules | `(tactic| walk_at "storeName") => `(tactic| k_extra "rw21")
local macro_rules | `(tactic| walk_at "eval ListComp") => `(tactic| k_extra "rw22")
local macro_rules | `(tactic| walk_at "call builtin:divmod") => `(tactic| k_extra "rw25")
theorem reg0_all : True := by
  (k_with "rw0" => (k_here; k_dflt (k_extra "trV")))
  (k_with "rw1" => (k_here; k_dflt (k_extra "eqV")))
  (k_with "rw2" => (k_here; k_dflt (k_extra "ifJ")))
  (k_with "rw3" => (with_reducible refine mul_int ?_ (by first | exact PySem.IntMulOk.of_right (mul_lit (by decide)) | exact PySem.IntMulOk.of_left (mul_lit (by decide)) | mul_fits)))
  (k_with "rw4" => (with_reducible refine r_div (by first | decide | omega) (by first | decide | omega) ?_))
  (k_with "rw5" => (with_reducible refine r_mod (by first | decide | omega) ?_))
  (k_with "rw6" => (k_here; k_dflt (refine' r_in30 ?F ?X ?ql8 ?_; (case F => k_asm); (case X => k_asm); (case ql8 => k_is); k_whole)))
  (k_with "rw7" => (k_here; (first | (with_reducible show wpAny _ _ (storeName _ _ (Value.int (_ + _) _)) _ _ _) | (with_reducible show wpAny _ _ (storeName _ _ (Value.int (_ - _) _)) _ _ _) | (with_reducible show wpAny _ _ (storeName _ _ (Value.int (_ * _) _)) _ _ _) | (with_reducible show wpAny _ _ (storeName _ _ (Value.int (_ / _) _)) _ _ _) | (with_reducible show wpAny _ _ (storeName _ _ (Value.int (_ % _) _)) _ _ _)); (fail_if_success (with_reducible rename OwnOff _ _ => hOff)); (with_reducible refine st_gen ?_); intro z t' tk' hz; (try dsimp only)))
  (k_with "rw8" => (k_here; (with_reducible show wpAny _ _ (eval (Expr.Call (Expr.Name _ _) _ [] _) _) _ _ _); k_dflt (refine Call_ ?_)))
  (k_with "rw9" => (k_here; k_dflt (k_extra "cc")))
  (k_with "zz enter" => (refine wpAny_call ?_; k_dflt (refine' code_def ?k1 ?k2 ?k3 ?k4 ?k5 ?kA ?kF ?kK ?k6 ?k7 ?k8 ?k9 ?kB ?_ ?c2 ?c3 ?c4 ?c5; (case kA => exact rfl); (case kF => exact rfl); (case kK => assumption); (case k1 => k_asm); (case k2 => k_asm); (case k3 => k_asm); (case k4 => k_asm); (case k5 => k_asm); (case k6 => k_is); (case k7 => k_is); (case k8 => first | exact dp_room hdp | ktr_room); (case k9 => first | exact BindsTo.of_eq rfl | exact binds_K (by k_in) rfl (by k_is) rfl rfl rfl); (case c5 => decide); (case kB => exact locs rfl); (case c2 => exact rfl); (case c3 => exact rfl); (case c4 => exact rfl); k_whole; intro g' L' h' FG' F' N' B' X' T'; (try dsimp only); (try k_fold))))
  (k_with "zz enterC" => (refine wpAny_call ?_; k_dflt (refine' code_defC ?k1 ?k2 ?k3 ?k4 ?k5 ?kA ?kF ?kK ?k6 ?k7 ?k8 ?k9 ?kB ?kD ?_ ?c2 ?c3 ?c4; (case kA => exact rfl); (case kF => exact rfl); (case kK => assumption); (case k1 => k_asm); (case k2 => k_asm); (case k3 => k_asm); (case k4 => k_asm); (case k5 => k_asm); (case k6 => k_is); (case k7 => k_is); (case k8 => first | exact dp_room hdp | ktr_room); (case k9 => first | exact BindsTo.of_eq rfl | exact binds_K (by k_in) rfl (by k_is) rfl rfl rfl); (case kB => exact rfl); (case kD => decide +kernel); (case c2 => exact rfl); (case c3 => exact rfl); (case c4 => exact rfl); k_whole; intro g' L' h' tk' cells' FG' F' N' Y' B' X' T' l1; (try k_lt l1); k_cells Y'; (try simp only [List.cons_append, List.nil_append] at N'); (try dsimp only); (try k_fold))))
  (k_with "zz use" => (
  (case k1 => k_asm); (case k2 => k_asm); (case k3 => k_asm); (case k4 => k_asm); (case k5 => k_asm); (case kK => first | exact rfl | assumption); (case kd => first | exact dp_lt hdp (by decide) | decide | ktr_room); (case ku => first | exact un_lt hun (by decide) | decide | ktr_units)))
  (k_with "rw13" => (k_here; (with_reducible show wpAny _ _ (compareOp CmpOp.In _ (Value.ref _)) _ _ _); k_dflt (first
  | (refine' r_inT true ?N ?qa9 ?qd9 ?qx9 ?ql9 ?qm9 ?qn9 ?qb9 ?_; (case N => k_asm); (case qa9 => k_mem); (case qd9 => kqd_all); (case qx9 => kqd_in); (case ql9 => (repeat' (first | exact List.forall_mem_nil _ | refine List.forall_mem_cons.mpr ⟨by first | rfl | kernel_rfl!, ?_⟩))); (case qm9 => first | rfl | kernel_rfl!); (case qn9 => walk_at "zz room"); (case qb9 => kernel_rfl!); k_whole)
  | (refine' r_inT false ?N ?qa9 ?qd9 ?qx9 ?ql9 ?qm9 ?qn9 ?qb9 ?_; (case N => k_asm); (case qa9 => k_mem); (case qd9 => kqd_all); (case qx9 => kqd_in); (case ql9 => (repeat' (first | exact List.forall_mem_nil _ | refine List.forall_mem_cons.mpr ⟨by first | rfl | kernel_rfl!, ?_⟩))); (case qm9 => first | rfl | kernel_rfl!); (case qn9 => walk_at "zz room"); (case qb9 => kernel_rfl!); k_whole))))
  (k_with "zz room" => (have hcL9 := cLine_is; (try simp only [units_in1, units_deeper, Around.mark_units, units_caller] at *); (try dsimp only [ktrTop] at *); refine Nat.lt_of_le_of_lt (Nat.add_le_add_left (Nat.le_trans (Nat.min_le_right _ _) (Nat.le_refl 0)) _) ?_; omega))
  (k_with "rw15" => (k_here; (with_reducible show wpAny _ _ (isTrue (Expr.BoolOp BoolOp.Or [Expr.BoolOp BoolOp.And _ _, Expr.BoolOp BoolOp.And _ _] _) _ _) _ _ _); (fail_if_success (with_reducible show wpAny _ _ _ (BF _ _ _ _ _) _ _)); k_dflt (refine' cut_false ?F ?N ?_ ?_; (case F => k_asm); (case N => k_asm); rotate_left; (intro h' tk' F' N'; (try dsimp only)); (try k_sweep))))
  (k_with "BF" => (k_dflt (refine' BF.mk ?F ?N ?qs7; (case F => k_asm); (case N => first | assumption | k_asm); (case qs7 => walk_at "zz sub"))))
  (k_with "rw17" => (k_here; k_dflt (k_extra "sub")))
  (k_with "rw18" => (k_here; k_dflt (k_extra "mulL")))
  (k_with "rw19" => (k_here; k_dflt (k_extra "mulR")))
  (k_with "rw20" => (k_here; k_dflt (k_extra "addL")))
  (k_with "rw21" => (k_here; (with_reducible show wpAny _ _ (storeName _ _ (Value.ref _)) _ _ _); k_dflt (k_extra "stC")))
  (k_with "rw22" => (k_here; k_dflt (k_extra "comp")))
  (k_with "zz sub" => (intro p hp; first | exact hp | exact .tail _ hp | exact .tail _ (.tail _ hp) | exact .tail _ (.tail _ (.tail _ hp)) | exact .tail _ (.tail _ (.tail _ (.tail _ hp))) | exact .tail _ (.tail _ (.tail _ (.tail _ (.tail _ hp)))) | exact .tail _ (.tail _ (.tail _ (.tail _ (.tail _ (.tail _ hp)))))))
  (k_with "zz low" => first | assumption | exact allLt_of (by assumption) | exact low1 (by assumption) | exact low2 (by assumption) | exact low3 (by assumption) | exact low4 (by assumption) | exact lowA (allLt_of (by assumption)) | exact lowA (lowA (allLt_of (by assumption))) | exact lowA (lowA (lowA (allLt_of (by assumption)))) | exact lowA (lowA (lowA (lowA (allLt_of (by assumption))))))
  (k_with "rw25" => (k_here; k_dflt (refine' r_divmod ?F ?N ?qb8 ?qs8 ?_; (case F => k_asm); (case N => k_asm); (case qb8 => first | decide | omega); (case qs8 => first | decide | omega)); intro q r D t1 t2 h' tk' hq hr F' N' l1; (try simp only [AllLt, and_true] at l1); (try dsimp only)))
  (k_with "zz pre" => first | assumption | omega)
  trivial
theorem fill_all (w : World) (h₀ : Heap) (_h : (kk.heap_1 w.params).In h₀) : PySem.Challenge.rw_jk0007_01 = PySem.Challenge.rw_jk0007_01 ∧ kk.heap_1 = kk.heap_1 := by
  k_fill
  exact ⟨rfl, rfl⟩
theorem regr_1 : True := by
  (k_with "zz eq" => (first | rfl | (law_clear; (try subst_vars); first | omega | (simp only [isleapF]; first | omega | (rw [Bool.eq_iff_iff]; simp only [beq_iff_eq, bne_iff_ne, ne_eq, decide_eq_true_eq]; omega) | (simp_all; done)))))
  trivial
theorem c_isleap (w : World) (y : Int) (t : Tok) :
    CtV w 21 1 [.int y t] [] (fun _ => .bool (isleapF y)) := by
  intro loose mean mg mb dp un gd cn cs fa ccd cl outer A₀ base h₀ L m news s Q E B F X N T hk hdp hun hret
  walk_at "zz enter"
  k_steps
  all_goals first | (refine cv_bool (Q := Q) hret ?e1 ?e2 ?e3; (case e2 => k_asm); (case e3 => first | k_asm | (refine cv_drop (by assumption) ?_; walk_at "zz sub")); (case e1 => walk_at "zz eq")) | law_absurd
theorem reg_isleap : True := by
  (k_with "cc" => ((with_reducible show wpAny _ _ (call (Value.ref 21) _ _) _ _ _); refine' CtV.use (c_isleap _ _ _) ?k1 ?k2 ?k3 ?k4 ?k5 ?kK ?kd ?ku ?_; walk_at "zz use"; intro t9 h9 tk9 F9 N9; (try dsimp only); (try k_fold)))
  trivial
theorem c_trunc (w : World) (a b : Int) (t u : Tok) (ha : 0 ≤ a) (hb : 0 < b) (hs : b < 1073741824) :
    CtV w 28 1 [.int a t, .int b u] [] (fun t => .int (a / b) t) := by
  intro loose mean mg mb dp un gd cn cs fa ccd cl outer A₀ base h₀ L m news s Q E B F X N T hk hdp hun hret
  walk_at "zz enter"
  k_steps
  all_goals first | (refine cv_int (Q := Q) hret ?e1 ?e2 ?e3; (case e2 => k_asm); (case e3 => first | k_asm | (refine cv_drop (by assumption) ?_; walk_at "zz sub")); (case e1 => (law_clear; subst_vars; have e1 : ¬ a < 0 := (by omega); have e2 : ¬ b < 0 := (by omega); first | (simp only [if_neg e1, if_neg e2]; done) | (exfalso; simp_all; done) | (exfalso; simp_all; omega)))) | law_absurd
theorem reg_trunc : True := by
  (k_with "cc" => ((with_reducible show wpAny _ _ (call (Value.ref 28) _ _) _ _ _); refine' CtV.use (c_trunc _ _ _ _ _ ?p0 ?p1 ?p2) ?k1 ?k2 ?k3 ?k4 ?k5 ?kK ?kd ?ku ?_; walk_at "zz use"; (case p0 => walk_at "zz pre"); (case p1 => walk_at "zz pre"); (case p2 => walk_at "zz pre"); intro t9 h9 tk9 F9 N9; (try dsimp only); (try k_fold)))
  trivial
theorem c_midnight (w : World) (j : Int) (t : Tok) (ha : 0 < j) :
    CtV w 35 1 [.int j t] [] (fun t => .int (j) t) := by
  intro loose mean mg mb dp un gd cn cs fa ccd cl outer A₀ base h₀ L m news s Q E B F X N T hk hdp hun hret
  walk_at "zz enter"
  k_steps
  all_goals first | (refine cv_int (Q := Q) hret ?e1 ?e2 ?e3; (case e2 => k_asm); (case e3 => first | k_asm | (refine cv_drop (by assumption) ?_; walk_at "zz sub")); (case e1 => walk_at "zz eq")) | law_absurd
theorem reg_midnight : True := by
  (k_with "cc" => ((with_reducible show wpAny _ _ (call (Value.ref 35) _ _) _ _ _); refine' CtV.use (c_midnight _ _ _ ?p0) ?k1 ?k2 ?k3 ?k4 ?k5 ?kK ?kd ?ku ?_; walk_at "zz use"; (case p0 => walk_at "zz pre"); intro t9 h9 tk9 F9 N9; (try dsimp only); (try k_fold)))
  trivial
theorem c_jwday (w : World) (j : Int) (t : Tok) :
    CtV w 42 1 [.int j t] [] (fun t => .int (j % 7) t) := by
  intro loose mean mg mb dp un gd cn cs fa ccd cl outer A₀ base h₀ L m news s Q E B F X N T hk hdp hun hret
  walk_at "zz enter"
  k_steps
  all_goals first | (refine cv_int (Q := Q) hret ?e1 ?e2 ?e3; (case e2 => k_asm); (case e3 => first | k_asm | (refine cv_drop (by assumption) ?_; walk_at "zz sub")); (case e1 => walk_at "zz eq")) | law_absurd
theorem reg_jwday : True := by
  (k_with "cc" => ((with_reducible show wpAny _ _ (call (Value.ref 42) _ _) _ _ _); refine' CtV.use (c_jwday _ _ _) ?k1 ?k2 ?k3 ?k4 ?k5 ?kK ?kd ?ku ?_; walk_at "zz use"; intro t9 h9 tk9 F9 N9; (try dsimp only); (try k_fold)))
  trivial
theorem c_weekday_before (w : World) (k j : Int) (t u : Tok) :
    CtV w 49 2 [.int k t, .int j u] [] (fun t => .int (j - (j - k) % 7) t) := by
  intro loose mean mg mb dp un gd cn cs fa ccd cl outer A₀ base h₀ L m news s Q E B F X N T hk hdp hun hret
  walk_at "zz enter"
  k_steps
  all_goals first | (refine cv_int (Q := Q) hret ?e1 ?e2 ?e3; (case e2 => k_asm); (case e3 => first | k_asm | (refine cv_drop (by assumption) ?_; walk_at "zz sub")); (case e1 => walk_at "zz eq")) | law_absurd
theorem reg_weekday_before : True := by
  (k_with "cc" => ((with_reducible show wpAny _ _ (call (Value.ref 49) _ _) _ _ _); refine' CtV.use (c_weekday_before _ _ _ _ _) ?k1 ?k2 ?k3 ?k4 ?k5 ?kK ?kd ?ku ?_; walk_at "zz use"; intro t9 h9 tk9 F9 N9; (try dsimp only); (try k_fold)))
  trivial
theorem c_search_weekday (w : World) (k j : Int) (t u v x : Tok) :
    CtV w 56 3 [.int k t, .int j u, .int (-1) v, .int 1 x] [] (fun t => .int (j - 1 - (j - 1 - k) % 7) t) := by
  intro loose mean mg mb dp un gd cn cs fa ccd cl outer A₀ base h₀ L m news s Q E B F X N T hk hdp hun hret
  walk_at "zz enter"
  k_steps
  all_goals first | (refine cv_int (Q := Q) hret ?e1 ?e2 ?e3; (case e2 => k_asm); (case e3 => first | k_asm | (refine cv_drop (by assumption) ?_; walk_at "zz sub")); (case e1 => walk_at "zz eq")) | law_absurd
theorem reg_search_weekday : True := by
  (k_with "cc" => ((with_reducible show wpAny _ _ (call (Value.ref 56) _ _) _ _ _); refine' CtV.use (c_search_weekday _ _ _ _ _ _ _) ?k1 ?k2 ?k3 ?k4 ?k5 ?kK ?kd ?ku ?_; walk_at "zz use"; intro t9 h9 tk9 F9 N9; (try dsimp only); (try k_fold)))
  trivial
theorem c_previous_weekday (w : World) (k j : Int) (t u : Tok) :
    CtV w 70 4 [.int k t, .int j u] [] (fun t => .int (j - 1 - (j - 1 - k) % 7) t) := by
  intro loose mean mg mb dp un gd cn cs fa ccd cl outer A₀ base h₀ L m news s Q E B F X N T hk hdp hun hret
  walk_at "zz enter"
  k_steps
  all_goals first | (refine cv_int (Q := Q) hret ?e1 ?e2 ?e3; (case e2 => k_asm); (case e3 => first | k_asm | (refine cv_drop (by assumption) ?_; walk_at "zz sub")); (case e1 => walk_at "zz eq")) | law_absurd
theorem reg_previous_weekday : True := by
  (k_with "cc" => ((with_reducible show wpAny _ _ (call (Value.ref 70) _ _) _ _ _); refine' CtV.use (c_previous_weekday _ _ _ _ _) ?k1 ?k2 ?k3 ?k4 ?k5 ?kK ?kd ?ku ?_; walk_at "zz use"; intro t9 h9 tk9 F9 N9; (try dsimp only); (try k_fold)))
  trivial
theorem c_n_weeks (w : World) (k j n : Int) (t u v : Tok) (hn : 0 < n) :
    CtV w 77 5 [.int k t, .int j u, .int n v] [] (fun t => .int (7 * n + (j - 1 - (j - 1 - k) % 7)) t) := by
  intro loose mean mg mb dp un gd cn cs fa ccd cl outer A₀ base h₀ L m news s Q E B F X N T hk hdp hun hret
  walk_at "zz enter"
  k_steps
  all_goals first | (refine cv_int (Q := Q) hret ?e1 ?e2 ?e3; (case e2 => k_asm); (case e3 => first | k_asm | (refine cv_drop (by assumption) ?_; walk_at "zz sub")); (case e1 => walk_at "zz eq")) | law_absurd
theorem reg_n_weeks : True := by
  (k_with "cc" => ((with_reducible show wpAny _ _ (call (Value.ref 77) _ _) _ _ _); refine' CtV.use (c_n_weeks _ _ _ _ _ _ _ ?p0) ?k1 ?k2 ?k3 ?k4 ?k5 ?kK ?kd ?ku ?_; walk_at "zz use"; (case p0 => walk_at "zz pre"); intro t9 h9 tk9 F9 N9; (try dsimp only); (try k_fold)))
  trivial
theorem c_legal_date (w : World) (y m d : Int) (t u v : Tok) (h1 : 0 < d) (h2 : d ≤ mlen y m) :
    CtV w 90 2 [.int y t, .int m u, .int d v] [] (fun _ => .bool (true)) := by
  intro loose mean mg mb dp un gd cn cs fa ccd cl outer A₀ base h₀ L m news s Q E B F X N T hk hdp hun hret
  unfold mlen at h2
  walk_at "zz enter"
  k_steps
  all_goals first | (refine cv_bool (Q := Q) hret ?e1 ?e2 ?e3; (case e2 => k_asm); (case e3 => first | k_asm | (refine cv_drop (by assumption) ?_; walk_at "zz sub")); (case e1 => walk_at "zz eq")) | law_absurd
theorem reg_legal_date : True := by
  (k_with "cc" => ((with_reducible show wpAny _ _ (call (Value.ref 90) _ _) _ _ _); refine' CtV.use (c_legal_date _ _ _ _ _ _ _ ?p0 ?p1) ?k1 ?k2 ?k3 ?k4 ?k5 ?kK ?kd ?ku ?_; walk_at "zz use"; (case p0 => walk_at "zz pre"); (case p1 => walk_at "zz pre"); intro t9 h9 tk9 F9 N9; (try dsimp only); (try k_fold)))
  trivial
theorem regr_2 : True := by
  (k_with "zz pre" => first | assumption | exact one_le_mlen _ _ | omega)
  trivial
theorem c_to_jd_gregorian (w : World) (y m d : Int) (t u v : Tok) (h1 : 0 < d) (h2 : d ≤ mlen y m) :
    CtV w 97 3 [.int y t, .int m u, .int d v] [] (fun t => .int (gjd y m d) t) := by
  intro loose mean mg mb dp un gd cn cs fa ccd cl outer A₀ base h₀ L m news s Q E B F X N T hk hdp hun hret
  walk_at "zz enter"
  k_steps
  all_goals first | (refine cv_int (Q := Q) hret ?e1 ?e2 ?e3; (case e2 => k_asm); (case e3 => first | k_asm | (refine cv_drop (by assumption) ?_; walk_at "zz sub")); (case e1 => (law_clear; simp only [gjd, jan, gadj]; first | (simp_all; omega) | omega))) | law_absurd
theorem reg_to_jd_gregorian : True := by
  (k_with "cc" => ((with_reducible show wpAny _ _ (call (Value.ref 97) _ _) _ _ _); refine' CtV.use (c_to_jd_gregorian _ _ _ _ _ _ _ ?p0 ?p1) ?k1 ?k2 ?k3 ?k4 ?k5 ?kK ?kd ?ku ?_; walk_at "zz use"; (case p0 => walk_at "zz pre"); (case p1 => walk_at "zz pre"); intro t9 h9 tk9 F9 N9; (try dsimp only); (try k_fold)))
  trivial
theorem regr_3 : True := by
  (k_with "ifJ" => ((with_reducible show wpAny _ _ (exec (Stmt.If (Expr.UnaryOp UnaryOp.Not (Expr.BoolOp BoolOp.Or _ _) _) [Stmt.AugAssign (Expr.Name _ _) _ _ _] [] _) _) _ _ _); (refine' cut_store (Str.ofString "year") (fun zz => zz = gY n) ?jF ?jN ?jc ?jk; (case jF => k_asm); (case jN => k_asm); (case' jk => (intro z9 t' h' tk' hP9 F' N'; (try dsimp only at hP9); subst hP9; (try dsimp only); (try k_sweep))))))
  (k_with "CS" => (k_dflt (first
    | (refine' CS.mk ?jF ?jN ?js ?jp; (case jF => k_asm); (case jN => first | assumption | k_asm); (case js => walk_at "zz sub"); (case jp => (law_clear; (refine' gfin ?h1 ?h2 ?h3 ?h4 ?h5 ?h6 ?h7 ?h8 ?hY; (case h1 => assumption); (case h2 => assumption); (case h3 => assumption); (case h4 => assumption); (case h5 => assumption); (case h6 => assumption); (case h7 => assumption); (case h8 => assumption); (case hY => first | (rw [if_pos (Or.inl (by assumption))]; omega) | (rw [if_pos (Or.inr (by assumption))]; omega) | (rw [if_neg (by omega)]; omega) | omega)))))
    | (refine' CS.same ?jF ?jN ?jm ?js ?jp; (case jF => k_asm); (case jN => first | assumption | k_asm); (case jm => with_unfolding_all rfl); (case js => walk_at "zz sub"); (case jp => (law_clear; (refine' gfin ?h1 ?h2 ?h3 ?h4 ?h5 ?h6 ?h7 ?h8 ?hY; (case h1 => assumption); (case h2 => assumption); (case h3 => assumption); (case h4 => assumption); (case h5 => assumption); (case h6 => assumption); (case h7 => assumption); (case h8 => assumption); (case hY => first | (rw [if_pos (Or.inl (by assumption))]; omega) | (rw [if_pos (Or.inr (by assumption))]; omega) | (rw [if_neg (by omega)]; omega) | omega))))))))
  trivial
theorem c_from_jd_gregorian (w : World) (n : Int) (t : Tok) :
    CtT w 104 4 [.int n t] [] (gY n) (gM n) (gD n) := by
  intro loose mean mg mb dp un gd cn cs fa ccd cl outer A₀ base h₀ L m news s Q E B F X N T hk hdp hun hret
  walk_at "zz enter"
  k_steps
  all_goals first | (refine' cv_tup (Q := Q) hret ?e1 ?e2 ?e3 ?f1 ?f2 ?f3 ?f4 ?f5; (case f1 => k_asm); (case f2 => assumption); (case f3 => k_mem); (case f4 => walk_at "zz sub"); (case f5 => walk_at "zz low"); (case e1 => (law_clear; first | rfl | (refine' Eq.trans ?jz (gfM ?jz2 ?jhk); (case jz => assumption); (case jz2 => assumption); (case jhk => first | (rw [if_pos (by assumption)]) | (rw [if_neg (by assumption), if_pos (by assumption)]) | (rw [if_neg (by assumption), if_neg (by simp [*])]) | omega | ((repeat' split) <;> first | rfl | contradiction | omega | (simp_all; done) | (simp_all; omega)))) | (refine' gfD ?jz3 ?jz ?jz2 ?jhk; (case jz3 => assumption); (case jz => assumption); (case jz2 => assumption); (case jhk => first | (rw [if_pos (by assumption)]) | (rw [if_neg (by assumption), if_pos (by assumption)]) | (rw [if_neg (by assumption), if_neg (by simp [*])]) | omega | ((repeat' split) <;> first | rfl | contradiction | omega | (simp_all; done) | (simp_all; omega)))))); (case e2 => (law_clear; first | rfl | (refine' Eq.trans ?jz (gfM ?jz2 ?jhk); (case jz => assumption); (case jz2 => assumption); (case jhk => first | (rw [if_pos (by assumption)]) | (rw [if_neg (by assumption), if_pos (by assumption)]) | (rw [if_neg (by assumption), if_neg (by simp [*])]) | omega | ((repeat' split) <;> first | rfl | contradiction | omega | (simp_all; done) | (simp_all; omega)))) | (refine' gfD ?jz3 ?jz ?jz2 ?jhk; (case jz3 => assumption); (case jz => assumption); (case jz2 => assumption); (case jhk => first | (rw [if_pos (by assumption)]) | (rw [if_neg (by assumption), if_pos (by assumption)]) | (rw [if_neg (by assumption), if_neg (by simp [*])]) | omega | ((repeat' split) <;> first | rfl | contradiction | omega | (simp_all; done) | (simp_all; omega)))))); (case e3 => (law_clear; first | rfl | (refine' Eq.trans ?jz (gfM ?jz2 ?jhk); (case jz => assumption); (case jz2 => assumption); (case jhk => first | (rw [if_pos (by assumption)]) | (rw [if_neg (by assumption), if_pos (by assumption)]) | (rw [if_neg (by assumption), if_neg (by simp [*])]) | omega | ((repeat' split) <;> first | rfl | contradiction | omega | (simp_all; done) | (simp_all; omega)))) | (refine' gfD ?jz3 ?jz ?jz2 ?jhk; (case jz3 => assumption); (case jz => assumption); (case jz2 => assumption); (case jhk => first | (rw [if_pos (by assumption)]) | (rw [if_neg (by assumption), if_pos (by assumption)]) | (rw [if_neg (by assumption), if_neg (by simp [*])]) | omega | ((repeat' split) <;> first | rfl | contradiction | omega | (simp_all; done) | (simp_all; omega))))))) | fail "here"
theorem reg_from_jd_gregorian : True := by
  (k_with "cc" => ((with_reducible show wpAny _ _ (call (Value.ref 104) _ _) _ _ _); refine' CtT.use (c_from_jd_gregorian _ _ _) ?k1 ?k2 ?k3 ?k4 ?k5 ?kK ?kd ?ku ?_; walk_at "zz use"; intro D9 t9 t91 t92 c9 h9 tk9 F9 N9 l9; (try simp only [AllLt, and_true] at l9); (try dsimp only); (try k_fold)))
  trivial
theorem c_to_jd_gregorian_back (w : World) (n : Int) (t u v : Tok) :
    CtV w 97 3 [.int (gY n) t, .int (gM n) u, .int (gD n) v] [] (fun t => .int (n) t) := by
  have h := c_to_jd_gregorian w (gY n) (gM n) (gD n) t u v (gM_spec n).2.2.1 (gM_spec n).2.2.2
  rw [gjd_back] at h
  exact h
theorem reg_to_jd_gregorian_back : True := by
  (k_with "cc" => ((with_reducible show wpAny _ _ (call (Value.ref 97) [Value.int (gY _) _, Value.int (gM _) _, Value.int (gD _) _] _) _ _ _); refine' CtV.use (c_to_jd_gregorian_back _ _ _ _ _) ?k1 ?k2 ?k3 ?k4 ?k5 ?kK ?kd ?ku ?_; walk_at "zz use"; intro t9 h9 tk9 F9 N9; (try dsimp only); (try k_fold)))
  trivial
theorem regr_16 : True := by
  (k_with "zz eq" => (first | rfl | (law_clear; (try subst_vars); first | omega | (simp only [hd1, hmd, hmo, hd2, nyd, ydays]; done) | (simp only [hd1, hmd, hmo, hd2, nyd, ydays]; omega))))
  trivial
theorem c_leap_hebrew (w : World) (y : Int) (t : Tok) :
    CtV w 111 1 [.int y t] [] (fun _ => .bool (hleap y)) := by
  intro loose mean mg mb dp un gd cn cs fa ccd cl outer A₀ base h₀ L m news s Q E B F X N T hk hdp hun hret
  walk_at "zz enter"
  k_steps
  all_goals first | (refine cv_bool (Q := Q) hret ?e1 ?e2 ?e3; (case e2 => k_asm); (case e3 => first | k_asm | (refine cv_drop (by assumption) ?_; walk_at "zz sub")); (case e1 => walk_at "zz eq")) | law_absurd
theorem reg_leap_hebrew : True := by
  (k_with "cc" => ((with_reducible show wpAny _ _ (call (Value.ref 111) _ _) _ _ _); refine' CtV.use (c_leap_hebrew _ _ _) ?k1 ?k2 ?k3 ?k4 ?k5 ?kK ?kd ?ku ?_; walk_at "zz use"; intro t9 h9 tk9 F9 N9; (try dsimp only); (try k_fold)))
  trivial
theorem c_year_months (w : World) (y : Int) (t : Tok) :
    CtV w 118 2 [.int y t] [] (fun t => .int (hmonths y) t) := by
  intro loose mean mg mb dp un gd cn cs fa ccd cl outer A₀ base h₀ L m news s Q E B F X N T hk hdp hun hret
  walk_at "zz enter"
  k_steps
  all_goals first | (refine cv_int (Q := Q) hret ?e1 ?e2 ?e3; (case e2 => k_asm); (case e3 => first | k_asm | (refine cv_drop (by assumption) ?_; walk_at "zz sub")); (case e1 => (law_clear; unfold hmonths; first | (rw [if_pos (by assumption)]) | (rw [if_neg (by simp_all)])))) | law_absurd
theorem reg_year_months : True := by
  (k_with "cc" => ((with_reducible show wpAny _ _ (call (Value.ref 118) _ _) _ _ _); refine' CtV.use (c_year_months _ _ _) ?k1 ?k2 ?k3 ?k4 ?k5 ?kK ?kd ?ku ?_; walk_at "zz use"; intro t9 h9 tk9 F9 N9; (try dsimp only); (try k_fold)))
  trivial
theorem c_delay_1 (w : World) (y : Int) (t : Tok) :
    CtV w 125 1 [.int y t] [] (fun t => .int (hd1 y) t) := by
  intro loose mean mg mb dp un gd cn cs fa ccd cl outer A₀ base h₀ L m news s Q E B F X N T hk hdp hun hret
  walk_at "zz enter"
  k_steps
  all_goals first | (refine cv_int (Q := Q) hret ?e1 ?e2 ?e3; (case e2 => k_asm); (case e3 => first | k_asm | (refine cv_drop (by assumption) ?_; walk_at "zz sub")); (case e1 => walk_at "zz eq")) | law_absurd
theorem reg_delay_1 : True := by
  (k_with "cc" => ((with_reducible show wpAny _ _ (call (Value.ref 125) _ _) _ _ _); refine' CtV.use (c_delay_1 _ _ _) ?k1 ?k2 ?k3 ?k4 ?k5 ?kK ?kd ?ku ?_; walk_at "zz use"; intro t9 h9 tk9 F9 N9; (try dsimp only); (try k_fold)))
  trivial
theorem c_delay_2 (w : World) (y : Int) (t : Tok) :
    CtV w 132 2 [.int y t] [] (fun t => .int (hd2 y) t) := by
  intro loose mean mg mb dp un gd cn cs fa ccd cl outer A₀ base h₀ L m news s Q E B F X N T hk hdp hun hret
  walk_at "zz enter"
  k_steps
  all_goals first | (refine cv_int (Q := Q) hret ?e1 ?e2 ?e3; (case e2 => k_asm); (case e3 => first | k_asm | (refine cv_drop (by assumption) ?_; walk_at "zz sub")); (case e1 => (law_clear; unfold hd2; omega))) | law_absurd
theorem reg_delay_2 : True := by
  (k_with "cc" => ((with_reducible show wpAny _ _ (call (Value.ref 132) _ _) _ _ _); refine' CtV.use (c_delay_2 _ _ _) ?k1 ?k2 ?k3 ?k4 ?k5 ?kK ?kd ?ku ?_; walk_at "zz use"; intro t9 h9 tk9 F9 N9; (try dsimp only); (try k_fold)))
  trivial
theorem c_nyd (w : World) (y : Int) (t u v : Tok) (h : 0 ≤ y) :
    CtV w 160 3 [.int y t, .int 7 u, .int 1 v] [] (fun t => .int (nyd y) t) := by
  intro loose mean mg mb dp un gd cn cs fa ccd cl outer A₀ base h₀ L m news s Q E B F X N T hk hdp hun hret
  have hl : 0 < 347996 + hd1 y + hd2 y + 1 + 1 := by
    have := nyd_low h
    unfold nyd at this; omega
  walk_at "zz enter"
  k_steps
  all_goals first | (refine cv_int (Q := Q) hret ?e1 ?e2 ?e3; (case e2 => k_asm); (case e3 => first | k_asm | (refine cv_drop (by assumption) ?_; walk_at "zz sub")); (case e1 => walk_at "zz eq")) | law_absurd
theorem reg_nyd : True := by
  (k_with "cc" => ((with_reducible show wpAny _ _ (call (Value.ref 160) [Value.int _ _, Value.int 7 _, Value.int 1 _] _) _ _ _); refine' CtV.use (c_nyd _ _ _ _ _ ?p0) ?k1 ?k2 ?k3 ?k4 ?k5 ?kK ?kd ?ku ?_; walk_at "zz use"; (case p0 => walk_at "zz pre"); intro t9 h9 tk9 F9 N9; (try dsimp only); (try k_fold)))
  trivial
theorem c_year_days (w : World) (y : Int) (t : Tok) (h : 0 ≤ y) :
    CtV w 139 4 [.int y t] [] (fun t => .int (ydays y) t) := by
  intro loose mean mg mb dp un gd cn cs fa ccd cl outer A₀ base h₀ L m news s Q E B F X N T hk hdp hun hret
  walk_at "zz enter"
  k_steps
  all_goals first | (refine cv_int (Q := Q) hret ?e1 ?e2 ?e3; (case e2 => k_asm); (case e3 => first | k_asm | (refine cv_drop (by assumption) ?_; walk_at "zz sub")); (case e1 => walk_at "zz eq")) | law_absurd
theorem reg_year_days : True := by
  (k_with "cc" => ((with_reducible show wpAny _ _ (call (Value.ref 139) _ _) _ _ _); refine' CtV.use (c_year_days _ _ _ ?p0) ?k1 ?k2 ?k3 ?k4 ?k5 ?kK ?kd ?ku ?_; walk_at "zz use"; (case p0 => walk_at "zz pre"); intro t9 h9 tk9 F9 N9; (try dsimp only); (try k_fold)))
  trivial
theorem c_month_length (w : World) (y m : Int) (t u : Tok) (h : 0 ≤ y) (h13 : m ≤ 13) :
    CtV w 146 5 [.int y t, .int m u] [] (fun t => .int (hml y m) t) := by
  intro loose mean mg mb dp un gd cn cs fa ccd cl outer A₀ base h₀ L m news s Q E B F X N T hk hdp hun hret
  walk_at "zz enter"
  k_steps
  all_goals first | (refine cv_int (Q := Q) hret ?e1 ?e2 ?e3; (case e2 => k_asm); (case e3 => first | k_asm | (refine cv_drop (by assumption) ?_; walk_at "zz sub")); (case e1 => first | exact hml_1 (by assumption) | exact hml_4 (by assumption) (by assumption) | exact hml_5 (by assumption) (by assumption) | exact hml_6 (by assumption) (by assumption) | exact hml_8 (by assumption) (by assumption) | exact hml_9 (by assumption) (by assumption) | exact hml_10 (by assumption) (by assumption) | exact hml_11 (by assumption) (by assumption) (by assumption) (by assumption) | (exfalso; omega))) | law_absurd
theorem reg_month_length : True := by
  (k_with "cc" => ((with_reducible show wpAny _ _ (call (Value.ref 146) _ _) _ _ _); refine' CtV.use (c_month_length _ _ _ _ _ ?p0 ?p1) ?k1 ?k2 ?k3 ?k4 ?k5 ?kK ?kd ?ku ?_; walk_at "zz use"; (case p0 => walk_at "zz pre"); (case p1 => walk_at "zz pre"); intro t9 h9 tk9 F9 N9; (try dsimp only); (try k_fold)))
  trivial
theorem c_month_days (w : World) (y m : Int) (t u : Tok) (h : 0 ≤ y) (h13 : m ≤ 13) :
    CtV w 153 6 [.int y t, .int m u] [] (fun t => .int (hml y m) t) := by
  intro loose mean mg mb dp un gd cn cs fa ccd cl outer A₀ base h₀ L m news s Q E B F X N T hk hdp hun hret
  walk_at "zz enter"
  k_steps
  all_goals first | (refine cv_int (Q := Q) hret ?e1 ?e2 ?e3; (case e2 => k_asm); (case e3 => first | k_asm | (refine cv_drop (by assumption) ?_; walk_at "zz sub")); (case e1 => walk_at "zz eq")) | law_absurd
theorem reg_month_days : True := by
  (k_with "cc" => ((with_reducible show wpAny _ _ (call (Value.ref 153) _ _) _ _ _); refine' CtV.use (c_month_days _ _ _ _ _ ?p0 ?p1) ?k1 ?k2 ?k3 ?k4 ?k5 ?kK ?kd ?ku ?_; walk_at "zz use"; (case p0 => walk_at "zz pre"); (case p1 => walk_at "zz pre"); intro t9 h9 tk9 F9 N9; (try dsimp only); (try k_fold)))
  trivial
theorem regr_17 : True := by
  (k_with "zz pre" => first | assumption | omega | exact fold_pos (by omega) | exact fold_pos (fold_pos (by omega)))
  trivial
theorem c_to_jd_hebrew (w : World) (y m d : Int) (t u v : Tok) (h : 0 ≤ y) (h1 : 1 ≤ m) (h13 : m ≤ 13) (hd : 1 ≤ d) :
    CtV w 160 7 [.int y t, .int m u, .int d v] [] (fun t => .int (hjd y m d) t) := by
  intro loose mean mg mb dp un gd cn cs fa ccd cl outer A₀ base h₀ L m news s Q E B F X N T hk hdp hun hret
  have hl : 0 < 347996 + hd1 y + hd2 y + d + 1 := by
    have := nyd_low h
    unfold nyd at this; omega
  have hmb := hmonths_bounds y
  walk_at "zz enter"
  k_steps
  all_goals first | (refine cv_int (Q := Q) hret ?e1 ?e2 ?e3; (case e2 => k_asm); (case e3 => first | k_asm | (refine cv_drop (by assumption) ?_; walk_at "zz sub")); (case e1 => first | exact hjd_lo (by assumption) (by assumption) | exact hjd_hi (by assumption) (by assumption))) | law_absurd
theorem reg_to_jd_hebrew : True := by
  (k_with "cc" => ((with_reducible show wpAny _ _ (call (Value.ref 160) _ _) _ _ _); refine' CtV.use (c_to_jd_hebrew _ _ _ _ _ _ _ ?p0 ?p1 ?p2 ?p3) ?k1 ?k2 ?k3 ?k4 ?k5 ?kK ?kd ?ku ?_; walk_at "zz use"; (case p0 => walk_at "zz pre"); (case p1 => walk_at "zz pre"); (case p2 => walk_at "zz pre"); (case p3 => walk_at "zz pre"); intro t9 h9 tk9 F9 N9; (try dsimp only); (try k_fold)))
  trivial
theorem regr_18 : True := by
  (k_with "cc" => ((with_reducible show wpAny _ _ (call (Value.ref 160) [Value.int _ _, Value.int 7 _, Value.int 1 _] _) _ _ _); refine' CtV.use (c_nyd _ _ _ _ _ ?p0) ?k1 ?k2 ?k3 ?k4 ?k5 ?kK ?kd ?ku ?_; walk_at "zz use"; (case p0 => walk_at "zz pre"); intro t9 h9 tk9 F9 N9; (try dsimp only); (try k_fold)))
  (k_with "zz pre" => first | assumption | omega | exact Int.le_trans (by decide) (hml_bounds _ _).1 | exact Int.le_trans (by decide) (yr_pos (by assumption) (by assumption) (by assumption) (by omega)) | exact Int.le_trans (by decide) (And.left (by assumption : P2 _ _ _ _)) | exact (by assumption : P2 _ _ _ _).2.2.1 | exact (by assumption : P2 _ _ _ _).2.2.2.1 | exact (by assumption : P2 _ _ _ _).mo1 | exact (by assumption : P2 _ _ _ _).mo13)
  (k_with "measure" => first | omega | (have hq := (by assumption : P2 _ _ _ _).2.2.2.1; omega))
  (k_with "exec While Compare cons nil" => k_while (fun (_ : List Int) i yr => yr = i - 1 ∧ 0 ≤ i ∧ 347600 + 354 * i ≤ nyd i ∧ nyd yr ≤ n) (fun (_ : List Int) i _ => (n - 346000 - 354 * i).toNat) "i" "year")
  (k_with "exec While Compare cons nil" => k_while_given ["year"] (fun yr (_ : List Int) i mo => P2 n yr i mo) (fun yr (_ : List Int) i mo => (20 - i).toNat) "i" "month")
  (k_with "state" => first | exact st1_0 (by assumption) (by assumption) (by assumption) | exact st1 (by assumption) (by assumption) (by assumption) (by assumption) (by omega) | exact st2_0a (by assumption) (by assumption) (by assumption) (by assumption) (by omega) (by omega) | exact st2_0b (by assumption) (by assumption) (by assumption) (by omega) (by omega) | exact st2 (by assumption) (by assumption) (by assumption) (by omega))
  trivial
theorem c_from_jd_hebrew (w : World) (n : Int) (t : Tok) (h : 347998 ≤ n) :
    CtP w 167 8 [.int n t] [] (fun y m d => IsH n y m d) := by
  intro loose mean mg mb dp un gd cn cs fa ccd cl outer A₀ base h₀ L m news s Q E B F X N T hk hdp hun hret
  walk_at "zz enter"
  k_steps
  all_goals first | (refine' cv_tupP (Q := Q) hret ?e1 ?f1 ?f2 ?f3 ?f4 ?f5; (case f1 => k_asm); (case f2 => assumption); (case f3 => k_mem); (case f4 => walk_at "zz sub"); (case f5 => walk_at "zz low"); (case e1 => exact end2 (by assumption) (by assumption) (by omega))) | law_absurd
theorem reg_from_jd_hebrew : True := by
  (k_with "cc" => ((with_reducible show wpAny _ _ (call (Value.ref 167) _ _) _ _ _); refine' CtP.use (c_from_jd_hebrew _ _ _ ?p0) ?k1 ?k2 ?k3 ?k4 ?k5 ?kK ?kd ?ku ?_; walk_at "zz use"; (case p0 => walk_at "zz pre"); intro x9 y9 z9 P9 D9 t9 t91 t92 c9 h9 tk9 F9 N9 l9; (try simp only [AllLt, and_true] at l9); (try dsimp only); (try k_fold)))
  trivial
theorem c_from_gregorian_hebrew (w : World) (n : Int) (t u v : Tok) (h : 347998 ≤ n) :
    CtP w 174 9 [.int (gY n) t, .int (gM n) u, .int (gD n) v] [] (fun y m d => IsH n y m d) := by
  intro loose mean mg mb dp un gd cn cs fa ccd cl outer A₀ base h₀ L m news s Q E B F X N T hk hdp hun hret
  walk_at "zz enter"
  k_steps
  all_goals first | (refine' cv_tupP (Q := Q) hret ?e1 ?f1 ?f2 ?f3 ?f4 ?f5; (case f1 => k_asm); (case f2 => assumption); (case f3 => k_mem); (case f4 => walk_at "zz sub"); (case f5 => walk_at "zz low"); (case e1 => assumption)) | law_absurd
theorem reg_from_gregorian_hebrew : True := by
  (k_with "cc" => ((with_reducible show wpAny _ _ (call (Value.ref 174) _ _) _ _ _); refine' CtP.use (c_from_gregorian_hebrew _ _ _ _ _ ?p0) ?k1 ?k2 ?k3 ?k4 ?k5 ?kK ?kd ?ku ?_; walk_at "zz use"; (case p0 => walk_at "zz pre"); intro x9 y9 z9 P9 D9 t9 t91 t92 c9 h9 tk9 F9 N9 l9; (try simp only [AllLt, and_true] at l9); (try dsimp only); (try k_fold)))
  trivial
theorem c_to_gregorian_hebrew (w : World) (n y mo d : Int) (t u v : Tok) (h : IsH n y mo d) :
    CtT w 181 8 [.int y t, .int mo u, .int d v] [] (gY n) (gM n) (gD n) := by
  intro loose mean mg mb dp un gd cn cs fa ccd cl outer A₀ base h₀ L m news s Q E B F X N T hk hdp hun hret
  have h0 : 0 ≤ y := by have := h.1; omega
  have h1 := h.2.1
  have h13 : mo ≤ 13 := by have := h.2.2.1; have := hmonths_bounds y; omega
  have hd := h.2.2.2.1
  have he := h.2.2.2.2.2
  walk_at "zz enter"
  k_steps
  all_goals first | (refine' cv_tup (Q := Q) hret ?e1 ?e2 ?e3 ?f1 ?f2 ?f3 ?f4 ?f5; (case f1 => k_asm); (case f2 => assumption); (case f3 => k_mem); (case f4 => walk_at "zz sub"); (case f5 => walk_at "zz low"); (case e1 => rw [he]); (case e2 => rw [he]); (case e3 => rw [he])) | law_absurd
theorem reg_to_gregorian_hebrew : True := by
  (k_with "cc" => ((with_reducible show wpAny _ _ (call (Value.ref 181) _ _) _ _ _); refine' CtT.use (c_to_gregorian_hebrew _ _ _ _ _ _ _ _ ?p0) ?k1 ?k2 ?k3 ?k4 ?k5 ?kK ?kd ?ku ?_; walk_at "zz use"; (case p0 => walk_at "zz pre"); intro D9 t9 t91 t92 c9 h9 tk9 F9 N9 l9; (try simp only [AllLt, and_true] at l9); (try dsimp only); (try k_fold)))
  trivial
theorem regr_4 : True := by
  (k_with "zz eq" => (first | rfl | (law_clear; (try subst_vars); first | rfl | exact (m_lc _).1 | exact (m_lc _).2.1 | exact (m_lc _).2.2.1 | exact (m_lc _).2.2.2.1 | exact (m_lc _).2.2.2.2 | omega)))
  trivial
theorem c_to_jd_mayan (w : World) (n : Int) (t1 t2 t3 t4 t5 : Tok) :
    CtV w 195 1 [.int (mB n) t1, .int (mK n) t2, .int (mT n) t3, .int (mU n) t4, .int (mI n) t5] [] (fun t => .int (n) t) := by
  intro loose mean mg mb dp un gd cn cs fa ccd cl outer A₀ base h₀ L m news s Q E B F X N T hk hdp hun hret
  have bj := m_jd n
  walk_at "zz enter"
  k_steps
  all_goals first | (refine cv_int (Q := Q) hret ?e1 ?e2 ?e3; (case e2 => k_asm); (case e3 => first | k_asm | (refine cv_drop (by assumption) ?_; walk_at "zz sub")); (case e1 => walk_at "zz eq")) | law_absurd
theorem reg_to_jd_mayan : True := by
  (k_with "cc" => ((with_reducible show wpAny _ _ (call (Value.ref 195) _ _) _ _ _); refine' CtV.use (c_to_jd_mayan _ _ _ _ _ _ _) ?k1 ?k2 ?k3 ?k4 ?k5 ?kK ?kd ?ku ?_; walk_at "zz use"; intro t9 h9 tk9 F9 N9; (try dsimp only); (try k_fold)))
  trivial
theorem c_from_jd_mayan (w : World) (n : Int) (t : Tok) (h : 584283 ≤ n) :
    CtF w 202 1 [.int n t] [] (mB n) (mK n) (mT n) (mU n) (mI n) := by
  intro loose mean mg mb dp un gd cn cs fa ccd cl outer A₀ base h₀ L m news s Q E B F X N T hk hdp hun hret
  walk_at "zz enter"
  k_steps
  all_goals first | (refine' cv_tup5 (Q := Q) hret ?e1 ?e2 ?e3 ?e4 ?e5 ?f1 ?f2 ?f3 ?f4 ?f5; (case f1 => k_asm); (case f2 => assumption); (case f3 => k_mem); (case f4 => walk_at "zz sub"); (case f5 => walk_at "zz low"); (case e1 => walk_at "zz eq"); (case e2 => walk_at "zz eq"); (case e3 => walk_at "zz eq"); (case e4 => walk_at "zz eq"); (case e5 => walk_at "zz eq")) | law_absurd
theorem reg_from_jd_mayan : True := by
  (k_with "cc" => ((with_reducible show wpAny _ _ (call (Value.ref 202) _ _) _ _ _); refine' CtF.use (c_from_jd_mayan _ _ _ ?p0) ?k1 ?k2 ?k3 ?k4 ?k5 ?kK ?kd ?ku ?_; walk_at "zz use"; (case p0 => walk_at "zz pre"); intro D9 t9 t91 t92 t93 t94 c9 h9 tk9 F9 N9 l9; (try simp only [AllLt, and_true] at l9); (try dsimp only); (try k_fold)))
  trivial
theorem c_to_gregorian_mayan (w : World) (n : Int) (t1 t2 t3 t4 t5 : Tok) :
    CtT w 209 5 [.int (mB n) t1, .int (mK n) t2, .int (mT n) t3, .int (mU n) t4, .int (mI n) t5] [] (gY n) (gM n) (gD n) := by
  intro loose mean mg mb dp un gd cn cs fa ccd cl outer A₀ base h₀ L m news s Q E B F X N T hk hdp hun hret
  walk_at "zz enter"
  k_steps
  all_goals first | (refine' cv_tup (Q := Q) hret ?e1 ?e2 ?e3 ?f1 ?f2 ?f3 ?f4 ?f5; (case f1 => k_asm); (case f2 => assumption); (case f3 => k_mem); (case f4 => walk_at "zz sub"); (case f5 => walk_at "zz low"); (case e1 => walk_at "zz eq"); (case e2 => walk_at "zz eq"); (case e3 => walk_at "zz eq")) | law_absurd
theorem reg_to_gregorian_mayan : True := by
  (k_with "cc" => ((with_reducible show wpAny _ _ (call (Value.ref 209) _ _) _ _ _); refine' CtT.use (c_to_gregorian_mayan _ _ _ _ _ _ _) ?k1 ?k2 ?k3 ?k4 ?k5 ?kK ?kd ?ku ?_; walk_at "zz use"; intro D9 t9 t91 t92 c9 h9 tk9 F9 N9 l9; (try simp only [AllLt, and_true] at l9); (try dsimp only); (try k_fold)))
  trivial
theorem c_from_gregorian_mayan (w : World) (n : Int) (t u v : Tok) (h : 584283 ≤ n) :
    CtF w 216 4 [.int (gY n) t, .int (gM n) u, .int (gD n) v] [] (mB n) (mK n) (mT n) (mU n) (mI n) := by
  intro loose mean mg mb dp un gd cn cs fa ccd cl outer A₀ base h₀ L m news s Q E B F X N T hk hdp hun hret
  walk_at "zz enter"
  k_steps
  all_goals first | (refine' cv_tup5 (Q := Q) hret ?e1 ?e2 ?e3 ?e4 ?e5 ?f1 ?f2 ?f3 ?f4 ?f5; (case f1 => k_asm); (case f2 => assumption); (case f3 => k_mem); (case f4 => walk_at "zz sub"); (case f5 => walk_at "zz low"); (case e1 => walk_at "zz eq"); (case e2 => walk_at "zz eq"); (case e3 => walk_at "zz eq"); (case e4 => walk_at "zz eq"); (case e5 => walk_at "zz eq")) | law_absurd
theorem reg_from_gregorian_mayan : True := by
  (k_with "cc" => ((with_reducible show wpAny _ _ (call (Value.ref 216) _ _) _ _ _); refine' CtF.use (c_from_gregorian_mayan _ _ _ _ _ ?p0) ?k1 ?k2 ?k3 ?k4 ?k5 ?kK ?kd ?ku ?_; walk_at "zz use"; (case p0 => walk_at "zz pre"); intro D9 t9 t91 t92 t93 t94 c9 h9 tk9 F9 N9 l9; (try simp only [AllLt, and_true] at l9); (try dsimp only); (try k_fold)))
  trivial
theorem c_law_long_count (w : World) (n : Int) (t : Tok) (h : 584283 ≤ n) :
    CtF w 359 1 [.int n t] [] (mB n) (mK n) (mT n) (mU n) (mI n) := by
  intro loose mean mg mb dp un gd cn cs fa ccd cl outer A₀ base h₀ L m news s Q E B F X N T hk hdp hun hret
  walk_at "zz enter"
  k_steps
  all_goals first | (refine' cv_tup5 (Q := Q) hret ?e1 ?e2 ?e3 ?e4 ?e5 ?f1 ?f2 ?f3 ?f4 ?f5; (case f1 => k_asm); (case f2 => assumption); (case f3 => k_mem); (case f4 => walk_at "zz sub"); (case f5 => walk_at "zz low"); (case e1 => walk_at "zz eq"); (case e2 => walk_at "zz eq"); (case e3 => walk_at "zz eq"); (case e4 => walk_at "zz eq"); (case e5 => walk_at "zz eq")) | law_absurd
theorem reg_law_long_count : True := by
  (k_with "cc" => ((with_reducible show wpAny _ _ (call (Value.ref 359) _ _) _ _ _); refine' CtF.use (c_law_long_count _ _ _ ?p0) ?k1 ?k2 ?k3 ?k4 ?k5 ?kK ?kd ?ku ?_; walk_at "zz use"; (case p0 => walk_at "zz pre"); intro D9 t9 t91 t92 t93 t94 c9 h9 tk9 F9 N9 l9; (try simp only [AllLt, and_true] at l9); (try dsimp only); (try k_fold)))
  trivial
theorem regr_5 : True := by
  (k_with "zz eq" => (first | rfl | (law_clear; (try subst_vars); first | rfl | exact (a_from _).1 | exact (a_from _).2.1 | exact (a_from _).2.2 | omega)))
  trivial
theorem c_leap_armenian (w : World) (y : Int) (t : Tok) :
    CtV w 231 1 [.int y t] [] (fun _ => .bool (decide (533 ≤ y ∧ y % 4 = 0))) := by
  intro loose mean mg mb dp un gd cn cs fa ccd cl outer A₀ base h₀ L m news s Q E B F X N T hk hdp hun hret
  walk_at "zz enter"
  k_steps
  all_goals first | (refine cv_bool (Q := Q) hret ?e1 ?e2 ?e3; (case e2 => k_asm); (case e3 => first | k_asm | (refine cv_drop (by assumption) ?_; walk_at "zz sub")); (case e1 => (law_clear; first | rfl | (rw [Bool.eq_iff_iff]; simp only [beq_iff_eq, decide_eq_true_eq, Bool.false_eq_true]; omega) | (simp; omega)))) | law_absurd
theorem reg_leap_armenian : True := by
  (k_with "cc" => ((with_reducible show wpAny _ _ (call (Value.ref 231) _ _) _ _ _); refine' CtV.use (c_leap_armenian _ _ _) ?k1 ?k2 ?k3 ?k4 ?k5 ?kK ?kd ?ku ?_; walk_at "zz use"; intro t9 h9 tk9 F9 N9; (try dsimp only); (try k_fold)))
  trivial
theorem regr_6 : True := by
  (k_with "trV" => (k_here; k_dflt (refine tr_vm ?_); intro t' tk'; (try dsimp only)))
  (k_with "eqV" => (k_here; k_dflt (refine eq_vm ?_)))
  trivial
theorem c_valid_date_v (w : World) (b : Bool) (y m d : Int) (t u v x : Tok) (h1 : 1 ≤ y) (h2 : 1 ≤ m) (h3 : m ≤ 13) (h4 : 1 ≤ d) (h5 : d ≤ 30) (h6 : m ≤ 12 ∨ d ≤ 5) :
    CtV w 224 2 [.int y t, .int m u, .int d v, vm b x] [] (fun _ => .bool (true)) := by
  intro loose mean mg mb dp un gd cn cs fa ccd cl outer A₀ base h₀ L m news s Q E B F X N T hk hdp hun hret
  walk_at "zz enter"
  k_steps
  all_goals first | (refine cv_bool (Q := Q) hret ?e1 ?e2 ?e3; (case e2 => k_asm); (case e3 => first | k_asm | (refine cv_drop (by assumption) ?_; walk_at "zz sub")); (case e1 => walk_at "zz eq")) | law_absurd
theorem reg_valid_date_v : True := by
  (k_with "cc" => ((with_reducible show wpAny _ _ (call (Value.ref 224) [_, _, _, vm _ _] _) _ _ _); refine' CtV.use (c_valid_date_v _ _ _ _ _ _ _ _ _ ?p0 ?p1 ?p2 ?p3 ?p4 ?p5) ?k1 ?k2 ?k3 ?k4 ?k5 ?kK ?kd ?ku ?_; walk_at "zz use"; (case p0 => walk_at "zz pre"); (case p1 => walk_at "zz pre"); (case p2 => walk_at "zz pre"); (case p3 => walk_at "zz pre"); (case p4 => walk_at "zz pre"); (case p5 => walk_at "zz pre"); intro t9 h9 tk9 F9 N9; (try dsimp only); (try k_fold)))
  trivial
theorem c_valid_date_s (w : World) (y m d : Int) (t u v x : Tok) (h1 : 533 ≤ y) (h2 : 1 ≤ m) (h3 : m ≤ 13) (h4 : 1 ≤ d) (h5 : d ≤ 30) (h6 : m ≤ 12 ∨ d ≤ 6) (h7 : m ≤ 12 ∨ d ≤ 5 ∨ y % 4 = 0) :
    CtV w 224 2 [.int y t, .int m u, .int d v, .str (Str.ofString "sarkawag") x] [] (fun _ => .bool (true)) := by
  intro loose mean mg mb dp un gd cn cs fa ccd cl outer A₀ base h₀ L m news s Q E B F X N T hk hdp hun hret
  walk_at "zz enter"
  k_steps
  all_goals first | (refine cv_bool (Q := Q) hret ?e1 ?e2 ?e3; (case e2 => k_asm); (case e3 => first | k_asm | (refine cv_drop (by assumption) ?_; walk_at "zz sub")); (case e1 => walk_at "zz eq")) | law_absurd
theorem reg_valid_date_s : True := by
  (k_with "cc" => ((with_reducible show wpAny _ _ (call (Value.ref 224) [_, _, _, Value.str _ _] _) _ _ _); refine' CtV.use (c_valid_date_s _ _ _ _ _ _ _ _ ?p0 ?p1 ?p2 ?p3 ?p4 ?p5 ?p6) ?k1 ?k2 ?k3 ?k4 ?k5 ?kK ?kd ?ku ?_; walk_at "zz use"; (case p0 => walk_at "zz pre"); (case p1 => walk_at "zz pre"); (case p2 => walk_at "zz pre"); (case p3 => walk_at "zz pre"); (case p4 => walk_at "zz pre"); (case p5 => walk_at "zz pre"); (case p6 => walk_at "zz pre"); intro t9 h9 tk9 F9 N9; (try dsimp only); (try k_fold)))
  trivial
theorem c_to_jd_arm_v (w : World) (b : Bool) (n : Int) (t u v x : Tok) (h : 1922868 ≤ n) :
    CtV w 239 3 [.int (aY n) t, .int (aM n) u, .int (aD n) v, vm b x] [] (fun t => .int (n) t) := by
  intro loose mean mg mb dp un gd cn cs fa ccd cl outer A₀ base h₀ L m news s Q E B F X N T hk hdp hun hret
  obtain ⟨b1, b2, b3, b4, b5, b6⟩ := a_bounds h
  have bj := a_jd n
  walk_at "zz enter"
  k_steps
  all_goals first | (refine cv_int (Q := Q) hret ?e1 ?e2 ?e3; (case e2 => k_asm); (case e3 => first | k_asm | (refine cv_drop (by assumption) ?_; walk_at "zz sub")); (case e1 => walk_at "zz eq")) | law_absurd
theorem reg_to_jd_arm_v : True := by
  (k_with "cc" => ((with_reducible show wpAny _ _ (call (Value.ref 239) [Value.int (aY _) _, Value.int (aM _) _, Value.int (aD _) _, vm _ _] _) _ _ _); refine' CtV.use (c_to_jd_arm_v _ _ _ _ _ _ _ ?p0) ?k1 ?k2 ?k3 ?k4 ?k5 ?kK ?kd ?ku ?_; walk_at "zz use"; (case p0 => walk_at "zz pre"); intro t9 h9 tk9 F9 N9; (try dsimp only); (try k_fold)))
  trivial
theorem c_to_jd_arm_s (w : World) (n : Int) (t u v x : Tok) (h : 2117212 ≤ n) :
    CtV w 239 3 [.int (sY n) t, .int (sM n) u, .int (sD n) v, .str (Str.ofString "sarkawag") x] [] (fun t => .int (n) t) := by
  intro loose mean mg mb dp un gd cn cs fa ccd cl outer A₀ base h₀ L m news s Q E B F X N T hk hdp hun hret
  obtain ⟨b1, b2, b3, b4, b5, b6, b7⟩ := sa_bounds h
  have bj := sa_jd n
  walk_at "zz enter"
  k_steps
  all_goals first | (refine cv_int (Q := Q) hret ?e1 ?e2 ?e3; (case e2 => k_asm); (case e3 => first | k_asm | (refine cv_drop (by assumption) ?_; walk_at "zz sub")); (case e1 => walk_at "zz eq")) | law_absurd
theorem reg_to_jd_arm_s : True := by
  (k_with "cc" => ((with_reducible show wpAny _ _ (call (Value.ref 239) [Value.int (sY _) _, Value.int (sM _) _, Value.int (sD _) _, Value.str _ _] _) _ _ _); refine' CtV.use (c_to_jd_arm_s _ _ _ _ _ _ ?p0) ?k1 ?k2 ?k3 ?k4 ?k5 ?kK ?kd ?ku ?_; walk_at "zz use"; (case p0 => walk_at "zz pre"); intro t9 h9 tk9 F9 N9; (try dsimp only); (try k_fold)))
  trivial
theorem regr_7 : True := by
  (k_with "cc" => ((with_reducible show wpAny _ _ (call (Value.ref 239) [Value.int (aY _) _, Value.int (aM _) _, Value.int (aD _) _, Value.none] _) _ _ _); refine' CtV.use (c_to_jd_arm_v _ false _ _ _ _ 0 ?p0) ?k1 ?k2 ?k3 ?k4 ?k5 ?kK ?kd ?ku ?_; walk_at "zz use"; (case p0 => walk_at "zz pre"); intro t9 h9 tk9 F9 N9; (try dsimp only); (try k_fold)))
  trivial
theorem c_from_jd_arm_v (w : World) (b : Bool) (n : Int) (t x : Tok) (h : 1922868 ≤ n) :
    CtT w 247 3 [.int n t, vm b x] [] (aY n) (aM n) (aD n) := by
  intro loose mean mg mb dp un gd cn cs fa ccd cl outer A₀ base h₀ L m news s Q E B F X N T hk hdp hun hret
  walk_at "zz enter"
  k_steps
  all_goals first | (refine' cv_tup (Q := Q) hret ?e1 ?e2 ?e3 ?f1 ?f2 ?f3 ?f4 ?f5; (case f1 => k_asm); (case f2 => assumption); (case f3 => k_mem); (case f4 => walk_at "zz sub"); (case f5 => walk_at "zz low"); (case e1 => walk_at "zz eq"); (case e2 => walk_at "zz eq"); (case e3 => walk_at "zz eq")) | law_absurd
theorem reg_from_jd_arm_v : True := by
  (k_with "cc" => ((with_reducible show wpAny _ _ (call (Value.ref 247) [_, vm _ _] _) _ _ _); refine' CtT.use (c_from_jd_arm_v _ _ _ _ _ ?p0) ?k1 ?k2 ?k3 ?k4 ?k5 ?kK ?kd ?ku ?_; walk_at "zz use"; (case p0 => walk_at "zz pre"); intro D9 t9 t91 t92 c9 h9 tk9 F9 N9 l9; (try simp only [AllLt, and_true] at l9); (try dsimp only); (try k_fold)))
  trivial
theorem c_from_jd_arm_s (w : World) (n : Int) (t x : Tok) (h : 2117212 ≤ n) :
    CtT w 247 3 [.int n t, .str (Str.ofString "sarkawag") x] [] (sY n) (sM n) (sD n) := by
  intro loose mean mg mb dp un gd cn cs fa ccd cl outer A₀ base h₀ L m news s Q E B F X N T hk hdp hun hret
  walk_at "zz enter"
  k_steps
  all_goals first | (refine' cv_tup (Q := Q) hret ?e1 ?e2 ?e3 ?f1 ?f2 ?f3 ?f4 ?f5; (case f1 => k_asm); (case f2 => assumption); (case f3 => k_mem); (case f4 => walk_at "zz sub"); (case f5 => walk_at "zz low"); (case e1 => (law_clear; first | (obtain ⟨e1, e2, e3, e4⟩ := s_from0 (by assumption) h (by assumption) (by assumption) (by assumption); omega) | (obtain ⟨e1, e2, e3, e4⟩ := s_from1 (by assumption) h (by assumption) (by assumption) (by assumption); omega))); (case e2 => (law_clear; first | (obtain ⟨e1, e2, e3, e4⟩ := s_from0 (by assumption) h (by assumption) (by assumption) (by assumption); omega) | (obtain ⟨e1, e2, e3, e4⟩ := s_from1 (by assumption) h (by assumption) (by assumption) (by assumption); omega))); (case e3 => (law_clear; first | (obtain ⟨e1, e2, e3, e4⟩ := s_from0 (by assumption) h (by assumption) (by assumption) (by assumption); omega) | (obtain ⟨e1, e2, e3, e4⟩ := s_from1 (by assumption) h (by assumption) (by assumption) (by assumption); omega)))) | law_absurd
theorem reg_from_jd_arm_s : True := by
  (k_with "cc" => ((with_reducible show wpAny _ _ (call (Value.ref 247) [_, Value.str _ _] _) _ _ _); refine' CtT.use (c_from_jd_arm_s _ _ _ _ ?p0) ?k1 ?k2 ?k3 ?k4 ?k5 ?kK ?kd ?ku ?_; walk_at "zz use"; (case p0 => walk_at "zz pre"); intro D9 t9 t91 t92 c9 h9 tk9 F9 N9 l9; (try simp only [AllLt, and_true] at l9); (try dsimp only); (try k_fold)))
  trivial
theorem regr_8 : True := by
  (k_with "cc" => ((with_reducible show wpAny _ _ (call (Value.ref 247) [_, Value.none] _) _ _ _); refine' CtT.use (c_from_jd_arm_v _ false _ _ 0 ?p0) ?k1 ?k2 ?k3 ?k4 ?k5 ?kK ?kd ?ku ?_; walk_at "zz use"; (case p0 => walk_at "zz pre"); intro D9 t9 t91 t92 c9 h9 tk9 F9 N9 l9; (try simp only [AllLt, and_true] at l9); (try dsimp only); (try k_fold)))
  trivial
theorem c_to_gregorian_arm_v (w : World) (b : Bool) (n : Int) (t u v x : Tok) (h : 1922868 ≤ n) :
    CtT w 255 5 [.int (aY n) t, .int (aM n) u, .int (aD n) v, vm b x] [] (gY n) (gM n) (gD n) := by
  intro loose mean mg mb dp un gd cn cs fa ccd cl outer A₀ base h₀ L m news s Q E B F X N T hk hdp hun hret
  walk_at "zz enter"
  k_steps
  all_goals first | (refine' cv_tup (Q := Q) hret ?e1 ?e2 ?e3 ?f1 ?f2 ?f3 ?f4 ?f5; (case f1 => k_asm); (case f2 => assumption); (case f3 => k_mem); (case f4 => walk_at "zz sub"); (case f5 => walk_at "zz low"); (case e1 => walk_at "zz eq"); (case e2 => walk_at "zz eq"); (case e3 => walk_at "zz eq")) | law_absurd
theorem reg_to_gregorian_arm_v : True := by
  (k_with "cc" => ((with_reducible show wpAny _ _ (call (Value.ref 255) [Value.int (aY _) _, Value.int (aM _) _, Value.int (aD _) _, vm _ _] _) _ _ _); refine' CtT.use (c_to_gregorian_arm_v _ _ _ _ _ _ _ ?p0) ?k1 ?k2 ?k3 ?k4 ?k5 ?kK ?kd ?ku ?_; walk_at "zz use"; (case p0 => walk_at "zz pre"); intro D9 t9 t91 t92 c9 h9 tk9 F9 N9 l9; (try simp only [AllLt, and_true] at l9); (try dsimp only); (try k_fold)))
  trivial
theorem c_from_gregorian_arm_v (w : World) (b : Bool) (n : Int) (t u v x : Tok) (h : 1922868 ≤ n) :
    CtT w 263 4 [.int (gY n) t, .int (gM n) u, .int (gD n) v, vm b x] [] (aY n) (aM n) (aD n) := by
  intro loose mean mg mb dp un gd cn cs fa ccd cl outer A₀ base h₀ L m news s Q E B F X N T hk hdp hun hret
  walk_at "zz enter"
  k_steps
  all_goals first | (refine' cv_tup (Q := Q) hret ?e1 ?e2 ?e3 ?f1 ?f2 ?f3 ?f4 ?f5; (case f1 => k_asm); (case f2 => assumption); (case f3 => k_mem); (case f4 => walk_at "zz sub"); (case f5 => walk_at "zz low"); (case e1 => walk_at "zz eq"); (case e2 => walk_at "zz eq"); (case e3 => walk_at "zz eq")) | law_absurd
theorem reg_from_gregorian_arm_v : True := by
  (k_with "cc" => ((with_reducible show wpAny _ _ (call (Value.ref 263) [_, _, _, vm _ _] _) _ _ _); refine' CtT.use (c_from_gregorian_arm_v _ _ _ _ _ _ _ ?p0) ?k1 ?k2 ?k3 ?k4 ?k5 ?kK ?kd ?ku ?_; walk_at "zz use"; (case p0 => walk_at "zz pre"); intro D9 t9 t91 t92 c9 h9 tk9 F9 N9 l9; (try simp only [AllLt, and_true] at l9); (try dsimp only); (try k_fold)))
  trivial
theorem c_to_gregorian_arm_s (w : World) (n : Int) (t u v x : Tok) (h : 2117212 ≤ n) :
    CtT w 255 5 [.int (sY n) t, .int (sM n) u, .int (sD n) v, .str (Str.ofString "sarkawag") x] [] (gY n) (gM n) (gD n) := by
  intro loose mean mg mb dp un gd cn cs fa ccd cl outer A₀ base h₀ L m news s Q E B F X N T hk hdp hun hret
  walk_at "zz enter"
  k_steps
  all_goals first | (refine' cv_tup (Q := Q) hret ?e1 ?e2 ?e3 ?f1 ?f2 ?f3 ?f4 ?f5; (case f1 => k_asm); (case f2 => assumption); (case f3 => k_mem); (case f4 => walk_at "zz sub"); (case f5 => walk_at "zz low"); (case e1 => walk_at "zz eq"); (case e2 => walk_at "zz eq"); (case e3 => walk_at "zz eq")) | law_absurd
theorem reg_to_gregorian_arm_s : True := by
  (k_with "cc" => ((with_reducible show wpAny _ _ (call (Value.ref 255) [Value.int (sY _) _, Value.int (sM _) _, Value.int (sD _) _, Value.str _ _] _) _ _ _); refine' CtT.use (c_to_gregorian_arm_s _ _ _ _ _ _ ?p0) ?k1 ?k2 ?k3 ?k4 ?k5 ?kK ?kd ?ku ?_; walk_at "zz use"; (case p0 => walk_at "zz pre"); intro D9 t9 t91 t92 c9 h9 tk9 F9 N9 l9; (try simp only [AllLt, and_true] at l9); (try dsimp only); (try k_fold)))
  trivial
theorem c_from_gregorian_arm_s (w : World) (n : Int) (t u v x : Tok) (h : 2117212 ≤ n) :
    CtT w 263 4 [.int (gY n) t, .int (gM n) u, .int (gD n) v, .str (Str.ofString "sarkawag") x] [] (sY n) (sM n) (sD n) := by
  intro loose mean mg mb dp un gd cn cs fa ccd cl outer A₀ base h₀ L m news s Q E B F X N T hk hdp hun hret
  walk_at "zz enter"
  k_steps
  all_goals first | (refine' cv_tup (Q := Q) hret ?e1 ?e2 ?e3 ?f1 ?f2 ?f3 ?f4 ?f5; (case f1 => k_asm); (case f2 => assumption); (case f3 => k_mem); (case f4 => walk_at "zz sub"); (case f5 => walk_at "zz low"); (case e1 => walk_at "zz eq"); (case e2 => walk_at "zz eq"); (case e3 => walk_at "zz eq")) | law_absurd
theorem reg_from_gregorian_arm_s : True := by
  (k_with "cc" => ((with_reducible show wpAny _ _ (call (Value.ref 263) [_, _, _, Value.str _ _] _) _ _ _); refine' CtT.use (c_from_gregorian_arm_s _ _ _ _ _ _ ?p0) ?k1 ?k2 ?k3 ?k4 ?k5 ?kK ?kd ?ku ?_; walk_at "zz use"; (case p0 => walk_at "zz pre"); intro D9 t9 t91 t92 c9 h9 tk9 F9 N9 l9; (try simp only [AllLt, and_true] at l9); (try dsimp only); (try k_fold)))
  trivial
theorem regr_9 : True := by
  (k_with "cc" => ((with_reducible show wpAny _ _ (call (Value.ref 255) [Value.int (aY _) _, Value.int (aM _) _, Value.int (aD _) _, Value.str _ _] _) _ _ _); refine' CtT.use (c_to_gregorian_arm_v _ true _ _ _ _ _ ?p0) ?k1 ?k2 ?k3 ?k4 ?k5 ?kK ?kd ?ku ?_; walk_at "zz use"; (case p0 => walk_at "zz pre"); intro D9 t9 t91 t92 c9 h9 tk9 F9 N9 l9; (try simp only [AllLt, and_true] at l9); (try dsimp only); (try k_fold)))
  trivial
theorem regr_10 : True := by
  (k_with "cc" => ((with_reducible show wpAny _ _ (call (Value.ref 263) [_, _, _, Value.str (Str.ofString "moveable") _] _) _ _ _); refine' CtT.use (c_from_gregorian_arm_v _ true _ _ _ _ _ ?p0) ?k1 ?k2 ?k3 ?k4 ?k5 ?kK ?kd ?ku ?_; walk_at "zz use"; (case p0 => walk_at "zz pre"); intro D9 t9 t91 t92 c9 h9 tk9 F9 N9 l9; (try simp only [AllLt, and_true] at l9); (try dsimp only); (try k_fold)))
  trivial
theorem c_to_gregorian_arm_n (w : World) (n : Int) (t u v : Tok) (h : 1922868 ≤ n) :
    CtT w 255 5 [.int (aY n) t, .int (aM n) u, .int (aD n) v] [] (gY n) (gM n) (gD n) := by
  intro loose mean mg mb dp un gd cn cs fa ccd cl outer A₀ base h₀ L m news s Q E B F X N T hk hdp hun hret
  walk_at "zz enter"
  k_steps
  all_goals first | (refine' cv_tup (Q := Q) hret ?e1 ?e2 ?e3 ?f1 ?f2 ?f3 ?f4 ?f5; (case f1 => k_asm); (case f2 => assumption); (case f3 => k_mem); (case f4 => walk_at "zz sub"); (case f5 => walk_at "zz low"); (case e1 => walk_at "zz eq"); (case e2 => walk_at "zz eq"); (case e3 => walk_at "zz eq")) | law_absurd
theorem reg_to_gregorian_arm_n : True := by
  (k_with "cc" => ((with_reducible show wpAny _ _ (call (Value.ref 255) [Value.int (aY _) _, Value.int (aM _) _, Value.int (aD _) _] _) _ _ _); refine' CtT.use (c_to_gregorian_arm_n _ _ _ _ _ ?p0) ?k1 ?k2 ?k3 ?k4 ?k5 ?kK ?kd ?ku ?_; walk_at "zz use"; (case p0 => walk_at "zz pre"); intro D9 t9 t91 t92 c9 h9 tk9 F9 N9 l9; (try simp only [AllLt, and_true] at l9); (try dsimp only); (try k_fold)))
  trivial
theorem c_from_gregorian_arm_n (w : World) (n : Int) (t u v : Tok) (h : 1922868 ≤ n) :
    CtT w 263 4 [.int (gY n) t, .int (gM n) u, .int (gD n) v] [] (aY n) (aM n) (aD n) := by
  intro loose mean mg mb dp un gd cn cs fa ccd cl outer A₀ base h₀ L m news s Q E B F X N T hk hdp hun hret
  walk_at "zz enter"
  k_steps
  all_goals first | (refine' cv_tup (Q := Q) hret ?e1 ?e2 ?e3 ?f1 ?f2 ?f3 ?f4 ?f5; (case f1 => k_asm); (case f2 => assumption); (case f3 => k_mem); (case f4 => walk_at "zz sub"); (case f5 => walk_at "zz low"); (case e1 => walk_at "zz eq"); (case e2 => walk_at "zz eq"); (case e3 => walk_at "zz eq")) | law_absurd
theorem reg_from_gregorian_arm_n : True := by
  (k_with "cc" => ((with_reducible show wpAny _ _ (call (Value.ref 263) [_, _, _] _) _ _ _); refine' CtT.use (c_from_gregorian_arm_n _ _ _ _ _ ?p0) ?k1 ?k2 ?k3 ?k4 ?k5 ?kK ?kd ?ku ?_; walk_at "zz use"; (case p0 => walk_at "zz pre"); intro D9 t9 t91 t92 c9 h9 tk9 F9 N9 l9; (try simp only [AllLt, and_true] at l9); (try dsimp only); (try k_fold)))
  trivial
theorem regr_11 : True := by
  (k_with "zz eq" => (first | rfl | (law_clear; (try subst_vars); first | omega | (simp only [mB, mK, mT, mU, mI, aY, aM, aD, sI, sP, sY, sM, sD, fI, fP, fY, fM, fD] at *; done) | (simp only [mB, mK, mT, mU, mI, aY, aM, aD, sI, sP, sY, sM, sD, fI, fP, fY, fM, fD] at *; omega))))
  trivial
theorem regr_12 : True := by
  (k_with "zz pre" => first | assumption | omega | ((try subst_vars); law_clear; (simp only [mB, mK, mT, mU, mI, aY, aM, aD, sI, sP, sY, sM, sD, fI, fP, fY, fM, fD] at *; first | done | omega)))
  trivial
theorem c_leap_fr (w : World) (y : Int) (t x : Tok) (h : 1 ≤ y) :
    CtV w 271 1 [.int y t] [(Str.ofString "method", .str (Str.ofString "continuous") x)] (fun _ => .bool (decide (y % 4 = 3))) := by
  intro loose mean mg mb dp un gd cn cs fa ccd cl outer A₀ base h₀ L m news s Q E B F X N T hk hdp hun hret
  walk_at "zz enter"
  k_steps
  all_goals first | (refine cv_bool (Q := Q) hret ?e1 ?e2 ?e3; (case e2 => k_asm); (case e3 => first | k_asm | (refine cv_drop (by assumption) ?_; walk_at "zz sub")); (case e1 => (law_clear; (try subst_vars); (try simp only [List.any_cons, List.any_nil, Bool.or_eq_true, Bool.or_eq_false_iff, beq_iff_eq, beq_eq_false_iff_ne, Bool.false_eq_true, or_false, and_true] at *); first | rfl | (rw [Bool.eq_iff_iff]; simp only [beq_iff_eq, decide_eq_true_eq, Bool.false_eq_true, true_iff, false_iff]; omega) | (simp; omega)))) | law_absurd
theorem reg_leap_fr : True := by
  (k_with "cc" => ((with_reducible show wpAny _ _ (call (Value.ref 271) _ _) _ _ _); refine' CtV.use (c_leap_fr _ _ _ _ ?p0) ?k1 ?k2 ?k3 ?k4 ?k5 ?kK ?kd ?ku ?_; walk_at "zz use"; (case p0 => walk_at "zz pre"); intro t9 h9 tk9 F9 N9; (try dsimp only); (try k_fold)))
  trivial
theorem c_to_jd_schematic (w : World) (n : Int) (t u v x : Tok) (h : 2375840 ≤ n) :
    CtV w 286 2 [.int (fY n) t, .int (fM n) u, .int (fD n) v, .str (Str.ofString "continuous") x] [] (fun t => .int (n) t) := by
  intro loose mean mg mb dp un gd cn cs fa ccd cl outer A₀ base h₀ L m news s Q E B F X N T hk hdp hun hret
  obtain ⟨b1, b2, b3, b4, b5, b6⟩ := fr_bounds h
  have bj := fr_jd h
  walk_at "zz enter"
  k_steps
  all_goals first | (refine cv_int (Q := Q) hret ?e1 ?e2 ?e3; (case e2 => k_asm); (case e3 => first | k_asm | (refine cv_drop (by assumption) ?_; walk_at "zz sub")); (case e1 => walk_at "zz eq")) | law_absurd
theorem reg_to_jd_schematic : True := by
  (k_with "cc" => ((with_reducible show wpAny _ _ (call (Value.ref 286) _ _) _ _ _); refine' CtV.use (c_to_jd_schematic _ _ _ _ _ _ ?p0) ?k1 ?k2 ?k3 ?k4 ?k5 ?kK ?kd ?ku ?_; walk_at "zz use"; (case p0 => walk_at "zz pre"); intro t9 h9 tk9 F9 N9; (try dsimp only); (try k_fold)))
  trivial
theorem c_to_jd_fr (w : World) (n : Int) (t u v x : Tok) (h : 2375840 ≤ n) :
    CtV w 279 3 [.int (fY n) t, .int (fM n) u, .int (fD n) v] [(Str.ofString "method", .str (Str.ofString "continuous") x)] (fun t => .int (n) t) := by
  intro loose mean mg mb dp un gd cn cs fa ccd cl outer A₀ base h₀ L m news s Q E B F X N T hk hdp hun hret
  obtain ⟨b1, b2, b3, b4, b5, b6⟩ := fr_bounds h
  have bj := fr_jd h
  walk_at "zz enter"
  k_steps
  all_goals first | (refine cv_int (Q := Q) hret ?e1 ?e2 ?e3; (case e2 => k_asm); (case e3 => first | k_asm | (refine cv_drop (by assumption) ?_; walk_at "zz sub")); (case e1 => walk_at "zz eq")) | law_absurd
theorem reg_to_jd_fr : True := by
  (k_with "cc" => ((with_reducible show wpAny _ _ (call (Value.ref 279) _ _) _ _ _); refine' CtV.use (c_to_jd_fr _ _ _ _ _ _ ?p0) ?k1 ?k2 ?k3 ?k4 ?k5 ?kK ?kd ?ku ?_; walk_at "zz use"; (case p0 => walk_at "zz pre"); intro t9 h9 tk9 F9 N9; (try dsimp only); (try k_fold)))
  trivial
theorem c_to_gregorian_fr (w : World) (n : Int) (t u v x : Tok) (h : 2375840 ≤ n) :
    CtT w 317 5 [.int (fY n) t, .int (fM n) u, .int (fD n) v, .str (Str.ofString "continuous") x] [] (gY n) (gM n) (gD n) := by
  intro loose mean mg mb dp un gd cn cs fa ccd cl outer A₀ base h₀ L m news s Q E B F X N T hk hdp hun hret
  walk_at "zz enter"
  k_steps
  all_goals first | (refine' cv_tup (Q := Q) hret ?e1 ?e2 ?e3 ?f1 ?f2 ?f3 ?f4 ?f5; (case f1 => k_asm); (case f2 => assumption); (case f3 => k_mem); (case f4 => walk_at "zz sub"); (case f5 => walk_at "zz low"); (case e1 => walk_at "zz eq"); (case e2 => walk_at "zz eq"); (case e3 => walk_at "zz eq")) | law_absurd
theorem reg_to_gregorian_fr : True := by
  (k_with "cc" => ((with_reducible show wpAny _ _ (call (Value.ref 317) _ _) _ _ _); refine' CtT.use (c_to_gregorian_fr _ _ _ _ _ _ ?p0) ?k1 ?k2 ?k3 ?k4 ?k5 ?kK ?kd ?ku ?_; walk_at "zz use"; (case p0 => walk_at "zz pre"); intro D9 t9 t91 t92 c9 h9 tk9 F9 N9 l9; (try simp only [AllLt, and_true] at l9); (try dsimp only); (try k_fold)))
  trivial
theorem regr_13 : True := by
  (k_with "zz eq" => (first | rfl | (law_clear; (try subst_vars); first | omega | (simp only [mB, mK, mT, mU, mI, aY, aM, aD, sI, sP, sY, sM, sD, fI, fP, fY, fM, fD] at *; done) | (simp only [mB, mK, mT, mU, mI, aY, aM, aD, sI, sP, sY, sM, sD, fI, fP, fY, fM, fD] at *; omega))))
  trivial
theorem regr_14 : True := by
  (k_with "zz pre" => first | assumption | omega | ((try subst_vars); law_clear; (simp only [mB, mK, mT, mU, mI, aY, aM, aD, sI, sP, sY, sM, sD, fI, fP, fY, fM, fD] at *; first | done | omega)))
  trivial
theorem regr_15 : True := by
  (k_with "ifJ" => ((with_reducible show wpAny _ _ (exec (Stmt.If (Expr.Compare (Expr.BinOp _ _ _ _) [CmpOp.Eq] _ _) [Stmt.Assign _ _ _] [Stmt.Assign _ _ _] _) _) _ _ _); (refine' cut_store (Str.ofString "J") (fun zz => zz = (n - 2375840 + 365) % 1461) ?jF ?jN ?jc ?jk; (case jF => k_asm); (case jN => k_asm); (case' jk => (intro z9 t' h' tk' hP9 F' N'; (try dsimp only at hP9); (try dsimp only); (try k_sweep))))))
  (k_with "CS" => (k_dflt (refine' CS.mk ?jF ?jN ?js ?jp; (case jF => k_asm); (case jN => first | assumption | k_asm); (case js => walk_at "zz sub"); (case jp => ((try dsimp only); law_clear; (try subst_vars); first | rfl | exact Eq.symm (by assumption) | omega)))))
  trivial
theorem c_from_jd_schematic (w : World) (n : Int) (t x : Tok) (h : 2375840 ≤ n) :
    CtT w 301 2 [.int n t, .int 4 x] [] (fY n) (fM n) (fD n) := by
  intro loose mean mg mb dp un gd cn cs fa ccd cl outer A₀ base h₀ L m news s Q E B F X N T hk hdp hun hret
  walk_at "zz enter"
  k_steps
  all_goals first | (refine' cv_tup (Q := Q) hret ?e1 ?e2 ?e3 ?f1 ?f2 ?f3 ?f4 ?f5; (case f1 => k_asm); (case f2 => assumption); (case f3 => k_mem); (case f4 => walk_at "zz sub"); (case f5 => walk_at "zz low"); (case e1 => (law_clear; obtain ⟨sA, sB⟩ := fjs h (by assumption) (by assumption); first | (obtain ⟨e1, e2, e3⟩ := sA (by omega); clear sA sB; subst_vars; omega) | (obtain ⟨e1, e2, e3⟩ := sB (by omega); clear sA sB; subst_vars; omega))); (case e2 => (law_clear; obtain ⟨sA, sB⟩ := fjs h (by assumption) (by assumption); first | (obtain ⟨e1, e2, e3⟩ := sA (by omega); clear sA sB; subst_vars; omega) | (obtain ⟨e1, e2, e3⟩ := sB (by omega); clear sA sB; subst_vars; omega))); (case e3 => (law_clear; obtain ⟨sA, sB⟩ := fjs h (by assumption) (by assumption); first | (obtain ⟨e1, e2, e3⟩ := sA (by omega); clear sA sB; subst_vars; omega) | (obtain ⟨e1, e2, e3⟩ := sB (by omega); clear sA sB; subst_vars; omega)))) | law_absurd
theorem reg_from_jd_schematic : True := by
  (k_with "cc" => ((with_reducible show wpAny _ _ (call (Value.ref 301) _ _) _ _ _); refine' CtT.use (c_from_jd_schematic _ _ _ _ ?p0) ?k1 ?k2 ?k3 ?k4 ?k5 ?kK ?kd ?ku ?_; walk_at "zz use"; (case p0 => walk_at "zz pre"); intro D9 t9 t91 t92 c9 h9 tk9 F9 N9 l9; (try simp only [AllLt, and_true] at l9); (try dsimp only); (try k_fold)))
  trivial
theorem c_from_jd_fr (w : World) (n : Int) (t x : Tok) (h : 2375840 ≤ n) :
    CtT w 294 3 [.int n t] [(Str.ofString "method", .int 4 x)] (fY n) (fM n) (fD n) := by
  intro loose mean mg mb dp un gd cn cs fa ccd cl outer A₀ base h₀ L m news s Q E B F X N T hk hdp hun hret
  walk_at "zz enter"
  k_steps
  all_goals first | (refine' cv_tup (Q := Q) hret ?e1 ?e2 ?e3 ?f1 ?f2 ?f3 ?f4 ?f5; (case f1 => k_asm); (case f2 => assumption); (case f3 => k_mem); (case f4 => walk_at "zz sub"); (case f5 => walk_at "zz low"); (case e1 => walk_at "zz eq"); (case e2 => walk_at "zz eq"); (case e3 => walk_at "zz eq")) | law_absurd
theorem reg_from_jd_fr : True := by
  (k_with "cc" => ((with_reducible show wpAny _ _ (call (Value.ref 294) _ _) _ _ _); refine' CtT.use (c_from_jd_fr _ _ _ _ ?p0) ?k1 ?k2 ?k3 ?k4 ?k5 ?kK ?kd ?ku ?_; walk_at "zz use"; (case p0 => walk_at "zz pre"); intro D9 t9 t91 t92 c9 h9 tk9 F9 N9 l9; (try simp only [AllLt, and_true] at l9); (try dsimp only); (try k_fold)))
  trivial
theorem c_from_gregorian_fr (w : World) (n : Int) (t u v x : Tok) (h : 2375840 ≤ n) :
    CtT w 309 4 [.int (gY n) t, .int (gM n) u, .int (gD n) v, .int 4 x] [] (fY n) (fM n) (fD n) := by
  intro loose mean mg mb dp un gd cn cs fa ccd cl outer A₀ base h₀ L m news s Q E B F X N T hk hdp hun hret
  walk_at "zz enter"
  k_steps
  all_goals first | (refine' cv_tup (Q := Q) hret ?e1 ?e2 ?e3 ?f1 ?f2 ?f3 ?f4 ?f5; (case f1 => k_asm); (case f2 => assumption); (case f3 => k_mem); (case f4 => walk_at "zz sub"); (case f5 => walk_at "zz low"); (case e1 => walk_at "zz eq"); (case e2 => walk_at "zz eq"); (case e3 => walk_at "zz eq")) | law_absurd
theorem reg_from_gregorian_fr : True := by
  (k_with "cc" => ((with_reducible show wpAny _ _ (call (Value.ref 309) _ _) _ _ _); refine' CtT.use (c_from_gregorian_fr _ _ _ _ _ _ ?p0) ?k1 ?k2 ?k3 ?k4 ?k5 ?kK ?kd ?ku ?_; walk_at "zz use"; (case p0 => walk_at "zz pre"); intro D9 t9 t91 t92 c9 h9 tk9 F9 N9 l9; (try simp only [AllLt, and_true] at l9); (try dsimp only); (try k_fold)))
  trivial
theorem regr_19 : True := by
  (k_with "zz eq" => (first | rfl | (law_clear; (try subst_vars); first | omega | (simp only [mB, mK, mT, mU, mI, aY, aM, aD, sI, sP, sY, sM, sD, fI, fP, fY, fM, fD] at *; done) | (simp only [mB, mK, mT, mU, mI, aY, aM, aD, sI, sP, sY, sM, sD, fI, fP, fY, fM, fD] at *; omega))))
  (k_with "zz pre" => first | assumption | omega | exact Int.le_trans (by decide) (mlen_pos _ _) | exact mlen_pos _ _ | exact iso_week _)
  trivial
theorem c_law_january (w : World) (y : Int) (t : Tok) :
    CtV w 338 1 [.int y t] [] (fun t => .int (jan y) t) := by
  intro loose mean mg mb dp un gd cn cs fa ccd cl outer A₀ base h₀ L m news s Q E B F X N T hk hdp hun hret
  walk_at "zz enter"
  k_steps
  all_goals first | (refine cv_int (Q := Q) hret ?e1 ?e2 ?e3; (case e2 => k_asm); (case e3 => first | k_asm | (refine cv_drop (by assumption) ?_; walk_at "zz sub")); (case e1 => (law_clear; (try subst_vars); unfold jan; omega))) | law_absurd
theorem reg_law_january : True := by
  (k_with "cc" => ((with_reducible show wpAny _ _ (call (Value.ref 338) _ _) _ _ _); refine' CtV.use (c_law_january _ _ _) ?k1 ?k2 ?k3 ?k4 ?k5 ?kK ?kd ?ku ?_; walk_at "zz use"; intro t9 h9 tk9 F9 N9; (try dsimp only); (try k_fold)))
  trivial
theorem regr_20 : True := by
  (k_with "exec While Compare cons nil" => k_while (fun (_ : List Int) yr => True) (fun (_ : List Int) yr => (yr - gY n).toNat) "year")
  (k_with "exec While Compare cons nil" => k_while (fun (_ : List Int) yr => yr ≤ gY n) (fun (_ : List Int) yr => (gY n - yr).toNat) "year")
  (k_with "state" => first | trivial | exact jan_le (by omega) | (subst_vars; exact jan_le (by assumption)))
  (k_with "measure" => first | omega | (have hq := jan_gt (by assumption); omega) | (have hq := jan_le (by assumption); omega))
  trivial
theorem c_law_year (w : World) (n : Int) (t : Tok) :
    CtV w 345 2 [.int n t] [] (fun t => .int (gY n) t) := by
  intro loose mean mg mb dp un gd cn cs fa ccd cl outer A₀ base h₀ L m news s Q E B F X N T hk hdp hun hret
  walk_at "zz enter"
  k_steps
  all_goals first | (refine cv_int (Q := Q) hret ?e1 ?e2 ?e3; (case e2 => k_asm); (case e3 => first | k_asm | (refine cv_drop (by assumption) ?_; walk_at "zz sub")); (case e1 => (law_clear; exact gY_eq (by assumption) (by omega)))) | law_absurd
theorem reg_law_year : True := by
  (k_with "cc" => ((with_reducible show wpAny _ _ (call (Value.ref 345) _ _) _ _ _); refine' CtV.use (c_law_year _ _ _) ?k1 ?k2 ?k3 ?k4 ?k5 ?kK ?kd ?ku ?_; walk_at "zz use"; intro t9 h9 tk9 F9 N9; (try dsimp only); (try k_fold)))
  trivial
theorem regr_21 : True := by
  (k_with "exec While Compare cons nil" => k_while (fun (_ : List Int) k d => PD n k d) (fun (_ : List Int) k d => (20 - k).toNat) "month" "day")
  (k_with "state" => first | exact PD.start (by assumption) | exact PD.step (by assumption) (by assumption) (by assumption) (by omega))
  (k_with "measure" => first | omega | (have hq := (by assumption : PD _ _ _).2.1; omega))
  trivial
theorem regr_22 : True := by
  (k_with "sub" => ((with_reducible show wpAny _ _ (subscriptTail _ _ (Value.ref _) (Value.int (_ - 1) _)) _ _ _); (refine' r_lens ?zN ?zm ?zi ?z1 ?z2 ?_ ?zs); (case zN => k_asm); (case zm => k_mem); (case zi => exact .cons _ _ (.cons _ _ (.cons _ _ (.cons _ _ (.cons _ _ (.cons _ _ (.cons _ _ (.cons _ _ (.cons _ _ (.cons _ _ (.cons _ _ (.cons _ _ .nil)))))))))))); (case z1 => exact (by assumption : PD _ _ _).1); (case z2 => exact (by assumption : PD _ _ _).2.1); (case zs => with_unfolding_all rfl); intro t9; (try dsimp only)))
  trivial
theorem c_law_date (w : World) (n : Int) (t : Tok) :
    CtT w 352 3 [.int n t] [] (gY n) (gM n) (gD n) := by
  intro loose mean mg mb dp un gd cn cs fa ccd cl outer A₀ base h₀ L m news s Q E B F X N T hk hdp hun hret
  walk_at "zz enter"
  k_steps
  all_goals first | (refine' cv_tup (Q := Q) hret ?e1 ?e2 ?e3 ?f1 ?f2 ?f3 ?f4 ?f5; (case f1 => k_asm); (case f2 => assumption); (case f3 => k_mem); (case f4 => walk_at "zz sub"); (case f5 => walk_at "zz low"); (case e1 => first | rfl | exact (PD.fin (by assumption) (by omega)).1 | exact (PD.fin (by assumption) (by omega)).2); (case e2 => first | rfl | exact (PD.fin (by assumption) (by omega)).1 | exact (PD.fin (by assumption) (by omega)).2); (case e3 => first | rfl | exact (PD.fin (by assumption) (by omega)).1 | exact (PD.fin (by assumption) (by omega)).2)) | law_absurd
theorem reg_law_date : True := by
  (k_with "cc" => ((with_reducible show wpAny _ _ (call (Value.ref 352) _ _) _ _ _); refine' CtT.use (c_law_date _ _ _) ?k1 ?k2 ?k3 ?k4 ?k5 ?kK ?kd ?ku ?_; walk_at "zz use"; intro D9 t9 t91 t92 c9 h9 tk9 F9 N9 l9; (try simp only [AllLt, and_true] at l9); (try dsimp only); (try k_fold)))
  trivial
theorem regr_23 : True := by
  (k_with "zz eq" => (first | rfl | (law_clear; (try subst_vars); first | rfl | omega | (simp only [mB, mK, mT, mU, mI, aY, aM, aD, sI, sP, sY, sM, sD, fI, fP, fY, fM, fD] at *; done) | (simp only [mB, mK, mT, mU, mI, aY, aM, aD, sI, sP, sY, sM, sD, fI, fP, fY, fM, fD] at *; omega))))
  trivial
theorem c_law_armenian (w : World) (n : Int) (t : Tok) :
    CtT w 366 1 [.int n t] [] (aY n) (aM n) (aD n) := by
  intro loose mean mg mb dp un gd cn cs fa ccd cl outer A₀ base h₀ L m news s Q E B F X N T hk hdp hun hret
  walk_at "zz enter"
  k_steps
  all_goals first | (refine' cv_tup (Q := Q) hret ?e1 ?e2 ?e3 ?f1 ?f2 ?f3 ?f4 ?f5; (case f1 => k_asm); (case f2 => assumption); (case f3 => k_mem); (case f4 => walk_at "zz sub"); (case f5 => walk_at "zz low"); (case e1 => walk_at "zz eq"); (case e2 => walk_at "zz eq"); (case e3 => walk_at "zz eq")) | law_absurd
theorem reg_law_armenian : True := by
  (k_with "cc" => ((with_reducible show wpAny _ _ (call (Value.ref 366) _ _) _ _ _); refine' CtT.use (c_law_armenian _ _ _) ?k1 ?k2 ?k3 ?k4 ?k5 ?kK ?kd ?ku ?_; walk_at "zz use"; intro D9 t9 t91 t92 c9 h9 tk9 F9 N9 l9; (try simp only [AllLt, and_true] at l9); (try dsimp only); (try k_fold)))
  trivial
theorem c_to_jd_iso (w : World) (T m : Int) (t u v : Tok) (h : T = m - m % 7 + 3) :
    CtV w 324 6 [.int (gY T) t, .int ((T - jan (gY T)) / 7 + 1) u, .int (m % 7 + 1) v] [] (fun t => .int (m) t) := by
  intro loose mean mg mb dp un gd cn cs fa ccd cl outer A₀ base h₀ L m news s Q E B F X N T hk hdp hun hret
  walk_at "zz enter"
  k_steps
  all_goals first | (refine cv_int (Q := Q) hret ?e1 ?e2 ?e3; (case e2 => k_asm); (case e3 => first | k_asm | (refine cv_drop (by assumption) ?_; walk_at "zz sub")); (case e1 => (law_clear; (try subst_vars); first | exact iso_back (by assumption) | exact iso_back rfl | (refine Eq.trans ?_ (iso_back rfl); omega) | (have hq := iso_back h; omega)))) | law_absurd
theorem reg_to_jd_iso : True := by
  (k_with "cc" => ((with_reducible show wpAny _ _ (call (Value.ref 324) _ _) _ _ _); refine' CtV.use (c_to_jd_iso _ _ _ _ _ _ ?p0) ?k1 ?k2 ?k3 ?k4 ?k5 ?kK ?kd ?ku ?_; walk_at "zz use"; (case p0 => walk_at "zz pre"); intro t9 h9 tk9 F9 N9; (try dsimp only); (try k_fold)))
  trivial
theorem c_to_gregorian_iso (w : World) (T m : Int) (t u v : Tok) (h : T = m - m % 7 + 3) :
    CtT w 331 7 [.int (gY T) t, .int ((T - jan (gY T)) / 7 + 1) u, .int (m % 7 + 1) v] [] (gY m) (gM m) (gD m) := by
  intro loose mean mg mb dp un gd cn cs fa ccd cl outer A₀ base h₀ L m news s Q E B F X N T hk hdp hun hret
  walk_at "zz enter"
  k_steps
  all_goals first | (refine' cv_tup (Q := Q) hret ?e1 ?e2 ?e3 ?f1 ?f2 ?f3 ?f4 ?f5; (case f1 => k_asm); (case f2 => assumption); (case f3 => k_mem); (case f4 => walk_at "zz sub"); (case f5 => walk_at "zz low"); (case e1 => walk_at "zz eq"); (case e2 => walk_at "zz eq"); (case e3 => walk_at "zz eq")) | law_absurd
theorem reg_to_gregorian_iso : True := by
  (k_with "cc" => ((with_reducible show wpAny _ _ (call (Value.ref 331) _ _) _ _ _); refine' CtT.use (c_to_gregorian_iso _ _ _ _ _ _ ?p0) ?k1 ?k2 ?k3 ?k4 ?k5 ?kK ?kd ?ku ?_; walk_at "zz use"; (case p0 => walk_at "zz pre"); intro D9 t9 t91 t92 c9 h9 tk9 F9 N9 l9; (try simp only [AllLt, and_true] at l9); (try dsimp only); (try k_fold)))
  trivial
theorem regr_24 : True := by
  (k_with "exec While Compare cons nil" => k_while (fun (_ : List Int) yr pl => PS n yr pl) (fun (_ : List Int) yr pl => (550 + 4 * ((n - 2117212) / 1461) - yr).toNat) "year" "place")
  (k_with "state" => first | exact PS.start (by assumption) (by assumption) (by assumption) | exact (PS.step (by assumption) (by assumption) (by assumption) (by omega) (by omega)).1 | exact PF.start (by assumption) (by assumption) (by assumption) | exact (PF.step (by assumption) (by assumption) (by assumption) (by omega) (by omega)).1)
  (k_with "measure" => first | exact ms_s (by assumption) (by assumption : PS _ _ _).lo | exact ms_f (by assumption) (by assumption : PF _ _ _).lo | omega | (have hq := (by assumption : PS _ _ _).lo; omega) | (have hq := (by assumption : PF _ _ _).lo; omega))
  trivial
theorem c_law_fixed_s (w : World) (n : Int) (t u v x : Tok) :
    CtT w 373 1 [.int n t, .int 2117212 u, .int 533 v, .int 0 x] [] (sY n) (sM n) (sD n) := by
  intro loose mean mg mb dp un gd cn cs fa ccd cl outer A₀ base h₀ L m news s Q E B F X N T hk hdp hun hret
  walk_at "zz enter"
  k_steps
  all_goals first | (refine' cv_tup (Q := Q) hret ?e1 ?e2 ?e3 ?f1 ?f2 ?f3 ?f4 ?f5; (case f1 => k_asm); (case f2 => assumption); (case f3 => k_mem); (case f4 => walk_at "zz sub"); (case f5 => walk_at "zz low"); (case e1 => first | exact (PS.fin (by assumption) (by omega)).1 | (unfold sM; rw [← (PS.fin (by assumption) (by omega)).2]) | (unfold sD; rw [← (PS.fin (by assumption) (by omega)).2])); (case e2 => first | exact (PS.fin (by assumption) (by omega)).1 | (unfold sM; rw [← (PS.fin (by assumption) (by omega)).2]) | (unfold sD; rw [← (PS.fin (by assumption) (by omega)).2])); (case e3 => first | exact (PS.fin (by assumption) (by omega)).1 | (unfold sM; rw [← (PS.fin (by assumption) (by omega)).2]) | (unfold sD; rw [← (PS.fin (by assumption) (by omega)).2]))) | law_absurd
theorem reg_law_fixed_s : True := by
  (k_with "cc" => ((with_reducible show wpAny _ _ (call (Value.ref 373) [_, Value.int 2117212 _, _, _] _) _ _ _); refine' CtT.use (c_law_fixed_s _ _ _ _ _ _) ?k1 ?k2 ?k3 ?k4 ?k5 ?kK ?kd ?ku ?_; walk_at "zz use"; intro D9 t9 t91 t92 c9 h9 tk9 F9 N9 l9; (try simp only [AllLt, and_true] at l9); (try dsimp only); (try k_fold)))
  trivial
theorem regr_25 : True := by
  (k_with "exec While Compare cons nil" => k_while (fun (_ : List Int) yr pl => PF n yr pl) (fun (_ : List Int) yr pl => (50 + 4 * ((n - 2375840) / 1461) - yr).toNat) "year" "place")
  trivial
theorem c_law_fixed_f (w : World) (n : Int) (t u v x : Tok) :
    CtT w 373 1 [.int n t, .int 2375840 u, .int 1 v, .int 3 x] [] (fY n) (fM n) (fD n) := by
  intro loose mean mg mb dp un gd cn cs fa ccd cl outer A₀ base h₀ L m news s Q E B F X N T hk hdp hun hret
  walk_at "zz enter"
  k_steps
  all_goals first | (refine' cv_tup (Q := Q) hret ?e1 ?e2 ?e3 ?f1 ?f2 ?f3 ?f4 ?f5; (case f1 => k_asm); (case f2 => assumption); (case f3 => k_mem); (case f4 => walk_at "zz sub"); (case f5 => walk_at "zz low"); (case e1 => first | exact (PF.fin (by assumption) (by omega)).1 | (unfold fM; rw [← (PF.fin (by assumption) (by omega)).2]) | (unfold fD; rw [← (PF.fin (by assumption) (by omega)).2])); (case e2 => first | exact (PF.fin (by assumption) (by omega)).1 | (unfold fM; rw [← (PF.fin (by assumption) (by omega)).2]) | (unfold fD; rw [← (PF.fin (by assumption) (by omega)).2])); (case e3 => first | exact (PF.fin (by assumption) (by omega)).1 | (unfold fM; rw [← (PF.fin (by assumption) (by omega)).2]) | (unfold fD; rw [← (PF.fin (by assumption) (by omega)).2]))) | law_absurd
theorem reg_law_fixed_f : True := by
  (k_with "cc" => ((with_reducible show wpAny _ _ (call (Value.ref 373) [_, Value.int 2375840 _, _, _] _) _ _ _); refine' CtT.use (c_law_fixed_f _ _ _ _ _ _) ?k1 ?k2 ?k3 ?k4 ?k5 ?kK ?kd ?ku ?_; walk_at "zz use"; intro D9 t9 t91 t92 c9 h9 tk9 F9 N9 l9; (try simp only [AllLt, and_true] at l9); (try dsimp only); (try k_fold)))
  trivial
theorem regr_26 : True := by
  (k_with "mulL" => (refine' r_mulL ?F ?N ?m ?a ?b ?_; (case F => k_asm); (case N => k_asm); (case m => k_mem); (case a => omega); (case b => omega); intro D' c' h' tk' F' N' l1; (try simp only [AllLt, and_true] at l1); (try dsimp only)))
  (k_with "mulR" => (refine' r_mulR ?F ?N ?m ?a ?b ?_; (case F => k_asm); (case N => k_asm); (case m => k_mem); (case a => first | decide | omega); (case b => first | decide | omega); intro D' c' h' tk' F' N' l1; (try simp only [AllLt, and_true] at l1); (try dsimp only)))
  (k_with "addL" => (refine' r_addL ?F ?N ?m ?m2 ?b ?_; (case F => k_asm); (case N => k_asm); (case m => k_mem); (case m2 => k_mem); (case b => ((try have hq := IntsAre.length (by assumption)); (try simp only [rangeKs_length] at hq); (simp only [List.length_replicate, List.length_append]); omega)); intro D' c' h' tk' F' N' l1; (try simp only [AllLt, and_true] at l1); (try dsimp only)))
  (k_with "stC" => (refine' storeX_C ?F ?N ?hc ?U ?hd ?_ ?hk ?hx; (case F => k_asm); (case N => k_asm); (case hc => with_unfolding_all rfl); (case U => exact (UpdF.tail (by k_ne) (UpdF.tail (by k_ne) (UpdF.tail (by k_ne) (UpdF.tail (by k_ne) (UpdF.tail (by k_ne) (UpdF.tail (by k_ne) (UpdF.tail (by k_ne) (UpdF.head (fun p hp => Nat.ne_of_lt (Nat.lt_of_lt_of_le ((by assumption : ∀ p ∈ news, p.1 < _) p hp) (Nat.le_succ _)))))))))))); (case hd => assumption); (case hk => rfl); (case hx => with_unfolding_all rfl); intro h' o' F' N' d1; (try dsimp only)))
  (k_with "comp" => (refine r_comp (by k_asm) (by with_unfolding_all rfl) (by decide) (by rfl) (by decide) (by rfl) ?_))
  trivial
theorem c_mch (w : World) (sw ml : Int) (t u : Tok) (h0 : 29 ≤ ml) (h1 : ml ≤ 30) :
    CtL w 82 3 [.int sw t, .int ml u] [] (calAll ((sw + 1) % 7) ml) := by
  intro loose mean mg mb dp un gd cn cs fa ccd cl outer A₀ base h₀ L m news s Q E B F X N T hk hdp hun hret
  walk_at "zz enterC"
  k_steps
  rename (_ = (sw + 1) % 7) => hz
  rename IntsAre _ _ => hI
  have hz0 : 0 ≤ z := by rw [hz]; exact Int.emod_nonneg _ (by decide)
  have hz7 : z < 7 := by rw [hz]; exact Int.emod_lt_of_pos _ (by decide)
  rw [← hz] at hret
  clear hz
  rw [show 1 + ml - 1 = ml by omega] at hI
  have ha : ((z.toNat : Nat) : Int) = z := Int.toNat_of_nonneg hz0
  have hn : ((ml.toNat : Nat) : Int) = ml := Int.toNat_of_nonneg (by omega)
  have hlen := hI.length
  rw [rangeKs_length] at hlen
  obtain ⟨hr1, hr2⟩ := range7 (x := z + ml) (by omega) (by omega)
  refine' ⟨_, _, _, _, _, _, _, calN z ml, _, rfl, rfl, ?sF, ?sN, ?sR, ?sS, ?sZ, ?sL, ?sG⟩
  case sF => k_asm
  case sN => k_asm
  case sR => assumption
  case sS => exact hr1
  case sZ => exact hr2
  case sL => exact Nat.le_trans (show calN z ml ≤ 10 by unfold calN; omega) (by decide)
  case sG =>
    intro g
    refine comp_ind (rowD z ml) _ ?turn ?fin
    case turn =>
      intro i v I oI C oC D m₂ hh tk E' ys rows Q' hi hP hC hx F9 N9 hret9
      obtain ⟨t9, rfl⟩ := hP
      have hi2 : 7 * (i : Int) + 7 ≤ z + ml + 7 := by unfold calN at hi; omega
      refine elt_slice F9 N9 (.tail _ (.head _)) hC hx (by rfl) (.tail _ (.tail _ (.tail _ (List.mem_append_right _ (by k_mem))))) (by assumption) (.tail _ (.tail _ (.tail _ (List.mem_append_right _ (by k_mem))))) (by rfl) (by rfl) (by rfl) (by omega) (by simp only [List.length_append, List.length_replicate, hlen]; omega) (by simp only [List.length_append, List.length_replicate, hlen]; omega) fun Y cc h' tk' F' N' hY => hret9 Y _ cc h' tk' F' N' hY ?_
      have hr := row_data (a := z.toNat) (k := i) hI (by omega)
      rw [ha, hn] at hr
      rw [show ((0 : Int) + (i : Int) * 7).toNat = 7 * i by omega]
      exact hr
    case fin =>
      intro ys rows hd
      k_steps
      refine hret _ ys ys.length rows _ _ ?fF ?fN hd
      case fF => k_asm
      case fN =>
        refine cv_drop (by assumption) ?_
        intro p hp
        rcases List.mem_cons.mp hp with rfl | hp
        · exact .head _
        · rcases List.mem_append.mp hp with hp | hp
          · exact .tail _ (List.mem_append_left _ hp)
          · exact .tail _ (List.mem_append_right _ (.tail _ (.tail _ (.tail _ (.tail _ (.tail _ (.tail _ (.tail _ (.tail _ hp)))))))))
theorem reg_mch : True := by
  (k_with "cc" => ((with_reducible show wpAny _ _ (call (Value.ref 82) _ _) _ _ _); refine' CtL.use (c_mch _ _ _ _ _ ?p0 ?p1) ?k1 ?k2 ?k3 ?k4 ?k5 ?kK ?kd ?ku ?_; walk_at "zz use"; (case p0 => walk_at "zz pre"); (case p1 => walk_at "zz pre"); intro D9 xs9 c9 nn9 h9 tk9 F9 N9 Da9; (try dsimp only); (try k_fold)))
  trivial
theorem regr_27 : True := by
  (k_with "zz pre" => first | assumption | omega | exact (hml_bounds _ _).1 | exact (hml_bounds _ _).2)
  trivial
theorem c_monthcalendar (w : World) (y mo : Int) (t u : Tok) (h0 : 0 ≤ y) (h1 : 1 ≤ mo) (h13 : mo ≤ 13) :
    CtL w 188 8 [.int y t, .int mo u] [] (calAll ((hjd y mo 1 % 7 + 1) % 7) (hml y mo)) := by
  intro loose mean mg mb dp un gd cn cs fa ccd cl outer A₀ base h₀ L m news s Q E B F X N T hk hdp hun hret
  walk_at "zz enter"
  k_steps
  all_goals (subst_vars; exact hret _ _ _ _ _ _ (by k_asm) (by k_asm) (by assumption))
theorem reg_monthcalendar : True := by
  (k_with "cc" => ((with_reducible show wpAny _ _ (call (Value.ref 188) _ _) _ _ _); refine' CtL.use (c_monthcalendar _ _ _ _ _ ?p0 ?p1 ?p2) ?k1 ?k2 ?k3 ?k4 ?k5 ?kK ?kd ?ku ?_; walk_at "zz use"; (case p0 => walk_at "zz pre"); (case p1 => walk_at "zz pre"); (case p2 => walk_at "zz pre"); intro D9 xs9 c9 nn9 h9 tk9 F9 N9 Da9; (try dsimp only); (try k_fold)))
  trivial
theorem regl_0 : True := by
  (k_with "zz pre" => first | assumption | omega | exact Int.le_trans (by decide) (mlen_pos _ _) | exact mlen_pos _ _ | exact iso_week _)
  (k_with "sub" => ((with_reducible show wpAny _ _ (subscriptTail _ _ (Value.ref _) (Value.int _ _)) _ _ _); (refine' r_first ?zN ?zm ?zi ?z1 ?z2 ?_ ?zs); (case zN => k_asm); (case zm => k_mem); (case zi => exact .cons _ _ (.cons _ _ (.cons _ _ (.cons _ _ (.cons _ _ .nil))))); (case z1 => omega); (case z2 => omega); (case zs => with_unfolding_all rfl); intro z9 t9 a1 a2 a3 a4 a5; (try dsimp only)))
  (k_with "cc" => ((with_reducible show wpAny _ _ (call (Value.ref 174) _ _) _ _ _); refine' CtP.use (c_from_gregorian_hebrew _ _ _ _ _ ?p0) ?k1 ?k2 ?k3 ?k4 ?k5 ?kK ?kd ?ku ?_; walk_at "zz use"; (case p0 => walk_at "zz pre"); intro x9 y9 z9 D9 t9 t91 t92 c9 h9 tk9 hP F9 N9 l9; (try simp only [AllLt, and_true] at l9); have q1 := hP.1; have q2 := hP.2.1; have q3 := hP.2.2.1; have q4 := hP.2.2.2.1; have q5 := hP.2.2.2.2.1; have q6 := hP.2.2.2.2.2; have q7 := hmonths_bounds x9; (try dsimp only); (try k_fold)))
  trivial
theorem regl_1 : True := by
  (k_with "zz pre" => first | assumption | exact hn1 (by assumption) | exact hn2 (by assumption) | exact hn3 (by assumption) | exact hn4 (by assumption) | omega)
  (k_with "pyIter ref" => (refine Stop.mk ?_))
  (k_with "setL" => (refine' r_setL ?sF ?sN ?sU ?sa9 ?sb9 ?sc9 ?_; (case sF => k_asm); (case sN => k_asm); (case sU => exact Upd.tail hIW (Upd.tail hRW (Upd.head hoW))); (case sa9 => omega); (case sb9 => omega); (case sc9 => omega); intro h' F' N'; (try dsimp only)))
  (k_with "appL" => (refine' r_app ?sF ?sN ?sU ?sz9 ?_; (case sF => k_asm); (case sN => k_asm); (case sU => exact Upd.tail hIR (Upd.head (List.forall_mem_cons.mpr ⟨hne9, hoR⟩))); (case sz9 => omega); intro h' F' N'; (try dsimp only)))
  (k_with "neC" => (refine' ne_cal ?N ?ma ?Da ?sa ?mb ?Db ?sb ?he ?hu ?_; (case N => k_asm); (case ma => exact .head _); (case Da => assumption); (case sa => exact fun p hp => .tail _ (List.mem_append_left _ hp)); (case mb => exact .tail _ (List.mem_append_right _ (.head _))); (case Db => exact hDat); (case sb => exact fun p hp => .tail _ (List.mem_append_right _ (.tail _ (List.mem_append_left _ hp)))); (case he => exact hlpe); (case hu => ke_room); (try dsimp only)))
  trivial
local macro_rules | `(tactic| walk_at "setItem ref int") => `(tactic| (k_here; k_dflt (k_extra "setL")))
local macro_rules | `(tactic| walk_at "call builtin:list.append") => `(tactic| (k_here; k_dflt (k_extra "appL")))
local macro_rules | `(tactic| walk_at "compareOp NotEq ref ref") => `(tactic| (k_here; k_dflt (k_extra "neC")))

set_option maxHeartbeats 8000000 in
theorem law_holds : PySem.Challenge.rw_jk0007_01.Holds := by
  w_on
  refine holds_law said9 fun said => ?_
  refine holds_open (q := view9) (loose := loose9) (Xt := Xt9) (XP := XL view9 []) (N := 4582) left9 (Hook.of (kHook kk.heap_1 as9 as9_eq)) (Hook.keeps (kHook kk.heap_1 as9 as9_eq)) (fun s e => xl_of s (Bool.and_eq_true_iff.mp e).1) XL.keeps
    (by rfl) (by rfl) (by rfl) (fun s e => recFacts_of (Bool.and_eq_true_iff.mp e).2) (by rfl) said (by decide +kernel) ⟨rfl, rfl, rfl, rfl, rfl, whole9⟩ pr9 ?hc
  clear said
  k_fill
  intro w s₀ s₁ mg mb G Y fa o pm cd doc dV kV ho hd hcd hD hmg hg args vals as hpre hlay hrd hwl hlo
  have KX := kIn_of Y
  have X := (Ground.X G).1
  have V := (Ground.X G).2
  refine Ground.open G ?_
  intro T B D TE TW
  refine guard_noD D (by decide +kernel) ?_
  clear D
  obtain ⟨_, _, M⟩ := bmod_of_top T
  have TA := at_of_top T
  clear hmg
  wrow_args hpre hlay hrd hwl hlo
  all_goals (
    first | refine callC_kw (enter_call ?_) | refine enter_call ?_
    w_top on
    try refine codeAny_mono ?_ (fun _ _ g => GoodW.toG g)
    have K0 := below_caller (Top.heap T)
    w_call any ho hd hcd hD T F00
    clear hd TA
    k_drop
    skip)
  (all_goals try k_fold)
  refine cutA 9 (by assumption) ?pA ?pB
  case pA =>
    dsimp only [List.take]
    k_steps
    all_goals first
      | (refine' CutA.mk ?F ?N ?e1 ?e2 ?e3 ?e4 ?e5 ?e6 ?e7 ?e8 ?k1 ?k2 ?hi ?hl ?hn ?hH ?hlen; (case F => k_asm); (case N => k_asm)
         (case e1 => with_unfolding_all rfl); (case e2 => with_unfolding_all rfl); (case e3 => with_unfolding_all rfl); (case e4 => with_unfolding_all rfl); (case e5 => with_unfolding_all rfl); (case e6 => with_unfolding_all rfl); (case e7 => with_unfolding_all rfl); (case e8 => with_unfolding_all rfl)
         (case k1 => k_mem); (case k2 => k_mem); (case hi => k_asm); (case hl => first | (simp; done) | (simp; omega)); (case hn => (have hq9 := abs_ge (by assumption); refine ⟨?_, ?_, ?_, ?_, ?_, ?_, ?_⟩ <;> omega)); (case hH => assumption); (case hlen => rfl))
      | (exfalso; first | omega | (rename _ ≤ hmonths _ => q; unfold hmonths at q; split at q <;> first | omega | contradiction | (rename hleap _ = true => qb; simp [qb] at *)))
  case pB =>
    intro nl da vs ms c ca last n y mo d t1 t2 t3 t4 t5 t6 u1 u2 u3 h' tk m hi hl hn hH F N
    obtain ⟨hl0, hl5, hn0, hn1, hn2, hn3, hn4⟩ := hn
    dsimp only [List.drop]
    (try k_fold)
    refine cutB (nl := nl) (da := da) 4 F N rfl rfl rfl rfl ?pB1 ?pC
    case pB1 =>
      dsimp only [List.take]
      k_steps
      rename Fr _ _ _ _ => F1
      rename News _ _ _ _ => N1
      rename IsRange _ _ _ _ _ _ _ _ => hR
      obtain ⟨b1, b2, b3, b4, b5, b6⟩ := id hH
      have b7 := hmonths_bounds y
      have b8 := hml_bounds y mo
      have hj1 : hjd y mo 1 = n - d + 1 := by unfold hjd at b6 ⊢; omega
      have hlpe : (hjd y mo 1 % 7 + 1) % 7 = (n - d + 2) % 7 := by rw [hj1]; omega
      refine loop_rows (lp := (n - d + 2) % 7) (by rfl) hR b8.1 b8.2 (by omega) F1 N1 rfl ?r1 ?r2 ?turn ?done
      case r1 => k_ne
      case r2 => exact List.forall_mem_cons.mpr ⟨⟨by k_ne, by k_ne⟩, List.forall_mem_cons.mpr ⟨⟨by k_ne, by k_ne⟩, List.forall_mem_nil _⟩⟩
      case turn =>
        clear F1 N1 hR
        intro i t9 uc m₁ nx hh tk9 I oI W xs ws nn c9 c8 k9 hi9 J hRI hWI hIo F1 N1
        dsimp only
        (try k_fold)
        have hsm := J.small
        have hne9 := J.ne
        have hoR := fun p hp => (J.off p hp).1
        have hoW := fun p hp => (J.off p hp).2
        have hIW := Ne.symm hWI
        have hIR := Ne.symm hRI
        have hRW := Ne.symm hne9
        have hw7 := datAll_len (J.open_ hi9).2
        rw [rowD_length] at hw7
        k_steps
        all_goals first
          | (refine' turn_full J ?hz hi9 ?h0 ?hfull hRI hWI hIo ?ll ?F ?N ?e1 ?e2; (case F => k_asm); (case N => k_asm); (case ll => assumption); (case hz => omega); (case h0 => omega); (case hfull => omega); (case e1 => with_unfolding_all rfl); (case e2 => (intro y9 h1 h2 h3; simp only [if_neg h1, if_neg h2, if_neg h3])))
          | (refine' turn_keep J ?hz hi9 ?h0 ?hn6 ?hne hRI hWI hIo ?F ?N ?e1 ?e2; (case F => k_asm); (case N => k_asm); (case hz => omega); (case h0 => omega); (case hn6 => omega); (case hne => omega); (case e1 => with_unfolding_all rfl); (case e2 => (intro y9 h1 h2 h3; simp only [if_neg h1, if_neg h2, if_neg h3])))
      case done =>
        clear F1 N1 hR
        intro u91 u92 u93 xs c9 nn hh tk9 F1 N1 hDat
        dsimp only
        (try k_fold)
        k_steps
        all_goals first
          | (refine' CutB.mk ?F ?N ?e1 ?e2 ?e3 ?e4 ?hs; (case F => k_asm); (case N => k_asm)
             (case e1 => with_unfolding_all rfl); (case e2 => with_unfolding_all rfl); (case e3 => with_unfolding_all rfl); (case e4 => with_unfolding_all rfl); (case hs => exact fun p hp => .tail _ (List.mem_append_right _ (.tail _ (List.mem_append_right _ hp)))))
    clear F N
    intro h' tk m F N
    dsimp only [List.drop]
    (try k_fold)
    refine cutB (nl := nl) (da := da) 1 F N rfl rfl rfl rfl ?pC1 ?pD
    case pC1 =>
      dsimp only [List.take]
      k_steps
      all_goals first
        | (refine' CutB.mk ?F ?N ?e1 ?e2 ?e3 ?e4 ?hs; (case F => k_asm); (case N => k_asm)
           (case e1 => with_unfolding_all rfl); (case e2 => with_unfolding_all rfl); (case e3 => with_unfolding_all rfl); (case e4 => with_unfolding_all rfl); (case hs => walk_at "zz sub"))
        | (exfalso; omega)
    clear F N
    intro h' tk m F N
    dsimp only [List.drop]
    (try k_fold)
    refine cutB (nl := nl) (da := da) 1 F N rfl rfl rfl rfl ?pD1 ?pE
    case pD1 =>
      dsimp only [List.take]
      k_steps
      all_goals first
        | (refine' CutB.mk ?F ?N ?e1 ?e2 ?e3 ?e4 ?hs; (case F => k_asm); (case N => k_asm)
           (case e1 => with_unfolding_all rfl); (case e2 => with_unfolding_all rfl); (case e3 => with_unfolding_all rfl); (case e4 => with_unfolding_all rfl); (case hs => walk_at "zz sub"))
        | (exfalso; omega)
    clear F N
    intro h' tk m F N
    dsimp only [List.drop]
    (try k_fold)
    refine cutB (nl := nl) (da := da) 1 F N rfl rfl rfl rfl ?pE1 ?pF
    case pE1 =>
      dsimp only [List.take]
      k_steps
      all_goals first
        | (refine' CutB.mk ?F ?N ?e1 ?e2 ?e3 ?e4 ?hs; (case F => k_asm); (case N => k_asm)
           (case e1 => with_unfolding_all rfl); (case e2 => with_unfolding_all rfl); (case e3 => with_unfolding_all rfl); (case e4 => with_unfolding_all rfl); (case hs => walk_at "zz sub"))
        | (exfalso; omega)
    clear F N
    intro h' tk m F N
    dsimp only [List.drop]
    (try k_fold)
    refine cutB (nl := nl) (da := da) 1 F N rfl rfl rfl rfl ?pF1 ?pG
    case pF1 =>
      dsimp only [List.take]
      k_steps
      all_goals first
        | (refine' CutB.mk ?F ?N ?e1 ?e2 ?e3 ?e4 ?hs; (case F => k_asm); (case N => k_asm)
           (case e1 => with_unfolding_all rfl); (case e2 => with_unfolding_all rfl); (case e3 => with_unfolding_all rfl); (case e4 => with_unfolding_all rfl); (case hs => walk_at "zz sub"))
        | (exfalso; omega)
    clear F N
    intro h' tk m F N
    dsimp only [List.drop]
    (try k_fold)
    k_steps
end Mine
theorem PySem.Challenge.cw_jk0007_01_holds : PySem.Challenge.rw_jk0007_01.Holds := by
  exact Mine.law_holds
