import PyProof.Rows.All
import Wide.All
import OpenK.AllK
import Wide.FinOn
import PySem.Challenge.RW_sh0003_01
open PySem PySem.W PyProof.Rows
set_option Elab.async false
set_option maxRecDepth 100000
set_option maxHeartbeats 8000000
set_option pp.deepTerms false
set_option pp.proofs false
namespace Mine
section PlT
def leapB (y : Int) : Bool := decide (y % 4 = 0) && (!decide (y % 100 = 0) || decide (y % 400 = 0))
def mlen (p : Int) : Int := if p = 2 then 28 else if p = 4 ∨ p = 6 ∨ p = 9 ∨ p = 11 then 30 else 31
def len (y p : Int) : Int := if p = 2 ∧ leapB y = true then 29 else mlen p
def cum (p : Int) : Int :=
  if p = 1 then 0 else if p = 2 then 31 else if p = 3 then 59 else if p = 4 then 90 else if p = 5 then 120 else if p = 6 then 151
  else if p = 7 then 181 else if p = 8 then 212 else if p = 9 then 243 else if p = 10 then 273 else if p = 11 then 304 else 334
def lpd (y : Int) : Int := ((y - 1) / 4 + 1) - ((y - 1) / 100 + 1) + ((y - 1) / 400 + 1)
def num (y p d : Int) : Int := 365 * y + lpd y + cum p + d - 61 + (if 2 < p ∧ leapB y = true then 1 else 0)
def Ok (y p d : Int) : Prop := 1 ≤ p ∧ p ≤ 12 ∧ 1 ≤ d ∧ d ≤ len y p

theorem leap_iff (y : Int) : leapB y = true ↔ (y % 4 = 0 ∧ (y % 100 ≠ 0 ∨ y % 400 = 0)) := by
  simp [leapB]
theorem leap_not (y : Int) : leapB y = false ↔ ¬ (y % 4 = 0 ∧ (y % 100 ≠ 0 ∨ y % 400 = 0)) := by
  rw [← leap_iff]; simp
/-- leap days before a year and before the next -/
theorem lpd_next (y : Int) : lpd (y + 1) = lpd y + (if leapB y = true then 1 else 0) := by
  unfold lpd
  have h1 : (y + 1 - 1) / 4 = (y - 1) / 4 + (if y % 4 = 0 then 1 else 0) := by split <;> omega
  have h2 : (y + 1 - 1) / 100 = (y - 1) / 100 + (if y % 100 = 0 then 1 else 0) := by split <;> omega
  have h3 : (y + 1 - 1) / 400 = (y - 1) / 400 + (if y % 400 = 0 then 1 else 0) := by split <;> omega
  rw [h1, h2, h3]
  by_cases a : y % 4 = 0 <;> by_cases b : y % 100 = 0 <;> by_cases c : y % 400 = 0 <;> simp [leapB, a, b, c] <;> omega
theorem len_lo (y p : Int) : 28 ≤ len y p := by
  unfold len mlen; split <;> (try split) <;> (try split) <;> omega
theorem len_hi (y p : Int) : len y p ≤ 31 := by
  unfold len mlen; split <;> (try split) <;> (try split) <;> omega
theorem cases12 {p : Int} (h1 : 1 ≤ p) (h2 : p ≤ 12) : p = 1 ∨ p = 2 ∨ p = 3 ∨ p = 4 ∨ p = 5 ∨ p = 6 ∨ p = 7 ∨ p = 8 ∨ p = 9 ∨ p = 10 ∨ p = 11 ∨ p = 12 := by omega
/-- the next month's number, the day carried over -/
theorem num_next {y p : Int} (d : Int) (h1 : 1 ≤ p) (h2 : p < 12) : num y (p + 1) (d - len y p) = num y p d := by
  have hc : p = 1 ∨ p = 2 ∨ p = 3 ∨ p = 4 ∨ p = 5 ∨ p = 6 ∨ p = 7 ∨ p = 8 ∨ p = 9 ∨ p = 10 ∨ p = 11 := by omega
  rcases hc with h | h | h | h | h | h | h | h | h | h | h <;> subst h <;> by_cases l : leapB y = true <;> simp [num, len, mlen, cum, l] <;> omega
theorem num_nextY {y : Int} (d : Int) : num (y + 1) 1 (d - len y 12) = num y 12 d := by
  have e := lpd_next y
  by_cases l : leapB y = true <;> simp [l] at e <;> simp [num, len, mlen, cum, l, e] <;> omega
theorem num_lin (y p d k : Int) : num y p (d + k) = num y p d + k := by
  unfold num; omega
theorem num_eras (y p d e : Int) : num (y + 400 * e) p d = num y p d + 146097 * e := by
  have l : leapB (y + 400 * e) = leapB y := by
    have h1 : (y + 400 * e) % 4 = y % 4 := by omega
    have h2 : (y + 400 * e) % 100 = y % 100 := by omega
    have h3 : (y + 400 * e) % 400 = y % 400 := by omega
    simp [leapB, h1, h2, h3]
  unfold num lpd
  rw [l]
  omega
theorem len_eras (y p e : Int) : len (y + 400 * e) p = len y p := by
  have l : leapB (y + 400 * e) = leapB y := by
    have h1 : (y + 400 * e) % 4 = y % 4 := by omega
    have h2 : (y + 400 * e) % 100 = y % 100 := by omega
    have h3 : (y + 400 * e) % 400 = y % 400 := by omega
    simp [leapB, h1, h2, h3]
  unfold len
  rw [l]
theorem Ok.eras {y p d : Int} (e : Int) (h : Ok y p d) : Ok (y + 400 * e) p d := by
  obtain ⟨a, b, c, g⟩ := h
  exact ⟨a, b, c, by rw [len_eras]; exact g⟩

/-- the day of the year, from 0 -/
theorem doy_lo {y p d : Int} (h : Ok y p d) : 365 * y + lpd y - 60 ≤ num y p d := by
  obtain ⟨a, b, c, _⟩ := h
  have : 0 ≤ cum p := by unfold cum; repeat' split
                         all_goals omega
  unfold num
  split <;> omega
theorem doy_hi {y p d : Int} (h : Ok y p d) : num y p d < 365 * (y + 1) + lpd (y + 1) - 60 := by
  obtain ⟨a, b, c, g⟩ := h
  have e := lpd_next y
  rcases cases12 a b with h | h | h | h | h | h | h | h | h | h | h | h <;> subst h <;> by_cases l : leapB y = true <;> simp [l] at e <;> simp [len, mlen, l] at g <;> simp [num, cum, l] <;> omega
theorem lpd_mono {y z : Int} (h : y ≤ z) : lpd y ≤ lpd z := by
  obtain ⟨k, rfl⟩ : ∃ k : Nat, z = y + k := ⟨(z - y).toNat, by omega⟩
  clear h
  induction k with
  | zero => simp
  | succ k ih =>
    have e := lpd_next (y + k)
    have e2 : y + ((k + 1 : Nat) : Int) = y + k + 1 := by omega
    rw [e2, e]
    split <;> omega
theorem num_mono (y : Int) {p : Int} (h1 : 1 ≤ p) : ∀ j : Nat, p + j ≤ 12 → num y p 1 ≤ num y (p + j) 1 := by
  intro j
  induction j with
  | zero => intro _; simp
  | succ j ih =>
    intro h
    have i := ih (by omega)
    have s1 := num_next (y := y) (p := p + j) (1 + len y (p + j)) (by omega) (by omega)
    rw [show 1 + len y (p + j) - len y (p + j) = 1 by omega] at s1
    have s2 := num_lin y (p + j) 1 (len y (p + j))
    have l := len_lo y (p + j)
    rw [show p + ((j + 1 : Nat) : Int) = p + j + 1 by omega]
    omega
/-- one number, one date -/
theorem ok_inj {y p d y' p' d' : Int} (h : Ok y p d) (h' : Ok y' p' d') (e : num y p d = num y' p' d') : y = y' ∧ p = p' ∧ d = d' := by
  have hy : y = y' := by
    rcases Int.lt_trichotomy y y' with q | q | q
    · have m := lpd_mono (y := y + 1) (z := y') (by omega)
      have a := doy_hi h
      have b := doy_lo h'
      omega
    · exact q
    · have m := lpd_mono (y := y' + 1) (z := y) (by omega)
      have a := doy_hi h'
      have b := doy_lo h
      omega
  subst hy
  obtain ⟨a, b, c, g⟩ := h
  obtain ⟨a', b', c', g'⟩ := h'
  have lt : ∀ {p p' d d' : Int}, 1 ≤ p → p' ≤ 12 → d ≤ len y p → 1 ≤ d' → num y p d = num y p' d' → ¬ p < p' := by
    intro p p' d d' a b g c e h
    have m := num_mono y (p := p + 1) (by omega) (p' - (p + 1)).toNat (by omega)
    rw [show p + 1 + ((p' - (p + 1)).toNat : Int) = p' by omega] at m
    have s1 := num_next (y := y) (1 + len y p) a (by omega)
    rw [show 1 + len y p - len y p = 1 by omega] at s1
    have s2 := num_lin y p' 1 (d' - 1)
    rw [show 1 + (d' - 1) = d' by omega] at s2
    have s3 := num_lin y p d (1 + len y p - d)
    rw [show d + (1 + len y p - d) = 1 + len y p by omega] at s3
    omega
  have hp : p = p' := by
    have h1 := lt a b' g c' e
    have h2 := lt a' b g' c e.symm
    omega
  subst hp
  refine ⟨rfl, rfl, ?_⟩
  unfold num at e
  omega
end PlT
section PtT
def tH (n : Int) : Int := if 3 < (n.fmod 146097).fdiv 36524 then 3 else (n.fmod 146097).fdiv 36524
def tQ (n : Int) : Int := n.fmod 146097 - 36524 * tH n
def tO (n : Int) : Int := if 3 < ((tQ n).fmod 1461).fdiv 365 then 3 else ((tQ n).fmod 1461).fdiv 365
def tR (n : Int) : Int := (tQ n).fmod 1461 - 365 * tO n
def tY (n : Int) : Int := 400 * n.fdiv 146097 + 100 * tH n + 4 * (tQ n).fdiv 1461 + tO n
theorem fmodE (a : Int) {b : Int} (h : 0 ≤ b) : a.fmod b = a % b := Int.fmod_eq_emod_of_nonneg a h
theorem fdivE (a : Int) {b : Int} (h : 0 ≤ b) : a.fdiv b = a / b := Int.fdiv_eq_ediv_of_nonneg a h
/-- the day of the year from March on, and the year that began with March -/
theorem told_core (n : Int) : 0 ≤ tR n ∧ n = 365 * tY n + lpd (tY n + 1) - 1 + tR n ∧ (tR n ≤ 364 ∨ (tR n = 365 ∧ leapB (tY n + 1) = true)) := by
  have hH : 0 ≤ tH n ∧ tH n ≤ 3 ∧ 0 ≤ tQ n ∧ (tH n ≤ 2 → tQ n ≤ 36523) ∧ tQ n ≤ 36524 ∧ n = 146097 * n.fdiv 146097 + 36524 * tH n + tQ n := by
    unfold tQ tH
    simp only [fmodE _ (show (0 : Int) ≤ 146097 by decide), fdivE _ (show (0 : Int) ≤ 146097 by decide), fdivE _ (show (0 : Int) ≤ 36524 by decide)]
    split <;> refine ⟨?_, ?_, ?_, ?_, ?_, ?_⟩ <;> omega
  obtain ⟨h0, h1, h2, h3, h4, h5⟩ := hH
  have hO : 0 ≤ tO n ∧ tO n ≤ 3 ∧ 0 ≤ tR n ∧ (tO n ≤ 2 → tR n ≤ 364) ∧ tR n ≤ 365 ∧ 0 ≤ (tQ n).fdiv 1461 ∧ (tQ n).fdiv 1461 ≤ 24 ∧ tQ n = 1461 * (tQ n).fdiv 1461 + 365 * tO n + tR n := by
    unfold tR tO
    simp only [fmodE _ (show (0 : Int) ≤ 1461 by decide), fdivE _ (show (0 : Int) ≤ 1461 by decide), fdivE _ (show (0 : Int) ≤ 365 by decide)]
    split <;> refine ⟨?_, ?_, ?_, ?_, ?_, ?_, ?_, ?_⟩ <;> omega
  obtain ⟨o0, o1, o2, o3, o4, o5, o6, o7⟩ := hO
  have hY : tY n = 400 * n.fdiv 146097 + 100 * tH n + 4 * (tQ n).fdiv 1461 + tO n := rfl
  generalize n.fdiv 146097 = e at *
  generalize (tQ n).fdiv 1461 = f at *
  generalize tH n = x at *
  generalize tO n = o at *
  generalize tQ n = q at *
  generalize tR n = r at *
  generalize tY n = y at *
  refine ⟨o2, ?_, ?_⟩
  · have e1 : (y + 1 - 1) / 4 = 100 * e + 25 * x + f := by omega
    have e2 : (y + 1 - 1) / 100 = 4 * e + x := by omega
    have e3 : (y + 1 - 1) / 400 = e := by omega
    unfold lpd
    rw [e1, e2, e3]
    omega
  · by_cases h : r ≤ 364
    · exact .inl h
    · refine .inr ⟨by omega, ?_⟩
      rw [leap_iff]
      refine ⟨by omega, ?_⟩
      by_cases g : (y + 1) % 100 = 0
      · exact .inr (by omega)
      · exact .inl g
theorem told_num {n : Int} (p d : Int) (h : 2 < p) (e : cum p + d = 60 + tR n) : num (tY n) p d = n := by
  obtain ⟨_, g, _⟩ := told_core n
  have l := lpd_next (tY n)
  unfold num
  split at l <;> rename_i lp
  · rw [if_pos ⟨h, lp⟩]; omega
  · rw [if_neg (fun c => lp c.2)]; omega
theorem told_numY {n : Int} (p d : Int) (h : p ≤ 2) (e : cum p + d + 305 = tR n) : num (tY n + 1) p d = n := by
  obtain ⟨_, g, _⟩ := told_core n
  unfold num
  rw [if_neg (fun c => absurd c.1 (by omega))]
  omega
theorem told_ok {y p d : Int} (h1 : 2 < p) (h2 : p ≤ 12) (h3 : 1 ≤ d) (h4 : d ≤ mlen p) : Ok y p d := by
  refine ⟨by omega, h2, h3, ?_⟩
  unfold len
  rw [if_neg (fun c => absurd c.1 (by omega))]
  exact h4
theorem told_0 {n : Int} (h1 : tR n < 31) : Ok (tY n) (3) (tR n + 1) ∧ num (tY n) (3) (tR n + 1) = n := by
  obtain ⟨g0, g1, g2⟩ := told_core n
  exact ⟨told_ok (by omega) (by omega) (by omega) (by rw [show mlen (3) = 31 from by decide]; omega), told_num _ _ (by omega) (by rw [show cum (3) = 59 from by decide]; omega)⟩
theorem told_1 {n : Int} (h0 : ¬ tR n < 31) (h1 : tR n - 31 < 30) : Ok (tY n) (3 + 1) (tR n - 31 + 1) ∧ num (tY n) (3 + 1) (tR n - 31 + 1) = n := by
  obtain ⟨g0, g1, g2⟩ := told_core n
  exact ⟨told_ok (by omega) (by omega) (by omega) (by rw [show mlen (3 + 1) = 30 from by decide]; omega), told_num _ _ (by omega) (by rw [show cum (3 + 1) = 90 from by decide]; omega)⟩
theorem told_2 {n : Int} (h0 : ¬ tR n - 31 < 30) (h1 : tR n - 31 - 30 < 31) : Ok (tY n) (3 + 1 + 1) (tR n - 31 - 30 + 1) ∧ num (tY n) (3 + 1 + 1) (tR n - 31 - 30 + 1) = n := by
  obtain ⟨g0, g1, g2⟩ := told_core n
  exact ⟨told_ok (by omega) (by omega) (by omega) (by rw [show mlen (3 + 1 + 1) = 31 from by decide]; omega), told_num _ _ (by omega) (by rw [show cum (3 + 1 + 1) = 120 from by decide]; omega)⟩
theorem told_3 {n : Int} (h0 : ¬ tR n - 31 - 30 < 31) (h1 : tR n - 31 - 30 - 31 < 30) : Ok (tY n) (3 + 1 + 1 + 1) (tR n - 31 - 30 - 31 + 1) ∧ num (tY n) (3 + 1 + 1 + 1) (tR n - 31 - 30 - 31 + 1) = n := by
  obtain ⟨g0, g1, g2⟩ := told_core n
  exact ⟨told_ok (by omega) (by omega) (by omega) (by rw [show mlen (3 + 1 + 1 + 1) = 30 from by decide]; omega), told_num _ _ (by omega) (by rw [show cum (3 + 1 + 1 + 1) = 151 from by decide]; omega)⟩
theorem told_4 {n : Int} (h0 : ¬ tR n - 31 - 30 - 31 < 30) (h1 : tR n - 31 - 30 - 31 - 30 < 31) : Ok (tY n) (3 + 1 + 1 + 1 + 1) (tR n - 31 - 30 - 31 - 30 + 1) ∧ num (tY n) (3 + 1 + 1 + 1 + 1) (tR n - 31 - 30 - 31 - 30 + 1) = n := by
  obtain ⟨g0, g1, g2⟩ := told_core n
  exact ⟨told_ok (by omega) (by omega) (by omega) (by rw [show mlen (3 + 1 + 1 + 1 + 1) = 31 from by decide]; omega), told_num _ _ (by omega) (by rw [show cum (3 + 1 + 1 + 1 + 1) = 181 from by decide]; omega)⟩
theorem told_5 {n : Int} (h0 : ¬ tR n - 31 - 30 - 31 - 30 < 31) (h1 : tR n - 31 - 30 - 31 - 30 - 31 < 31) : Ok (tY n) (3 + 1 + 1 + 1 + 1 + 1) (tR n - 31 - 30 - 31 - 30 - 31 + 1) ∧ num (tY n) (3 + 1 + 1 + 1 + 1 + 1) (tR n - 31 - 30 - 31 - 30 - 31 + 1) = n := by
  obtain ⟨g0, g1, g2⟩ := told_core n
  exact ⟨told_ok (by omega) (by omega) (by omega) (by rw [show mlen (3 + 1 + 1 + 1 + 1 + 1) = 31 from by decide]; omega), told_num _ _ (by omega) (by rw [show cum (3 + 1 + 1 + 1 + 1 + 1) = 212 from by decide]; omega)⟩
theorem told_6 {n : Int} (h0 : ¬ tR n - 31 - 30 - 31 - 30 - 31 < 31) (h1 : tR n - 31 - 30 - 31 - 30 - 31 - 31 < 30) : Ok (tY n) (3 + 1 + 1 + 1 + 1 + 1 + 1) (tR n - 31 - 30 - 31 - 30 - 31 - 31 + 1) ∧ num (tY n) (3 + 1 + 1 + 1 + 1 + 1 + 1) (tR n - 31 - 30 - 31 - 30 - 31 - 31 + 1) = n := by
  obtain ⟨g0, g1, g2⟩ := told_core n
  exact ⟨told_ok (by omega) (by omega) (by omega) (by rw [show mlen (3 + 1 + 1 + 1 + 1 + 1 + 1) = 30 from by decide]; omega), told_num _ _ (by omega) (by rw [show cum (3 + 1 + 1 + 1 + 1 + 1 + 1) = 243 from by decide]; omega)⟩
theorem told_7 {n : Int} (h0 : ¬ tR n - 31 - 30 - 31 - 30 - 31 - 31 < 30) (h1 : tR n - 31 - 30 - 31 - 30 - 31 - 31 - 30 < 31) : Ok (tY n) (3 + 1 + 1 + 1 + 1 + 1 + 1 + 1) (tR n - 31 - 30 - 31 - 30 - 31 - 31 - 30 + 1) ∧ num (tY n) (3 + 1 + 1 + 1 + 1 + 1 + 1 + 1) (tR n - 31 - 30 - 31 - 30 - 31 - 31 - 30 + 1) = n := by
  obtain ⟨g0, g1, g2⟩ := told_core n
  exact ⟨told_ok (by omega) (by omega) (by omega) (by rw [show mlen (3 + 1 + 1 + 1 + 1 + 1 + 1 + 1) = 31 from by decide]; omega), told_num _ _ (by omega) (by rw [show cum (3 + 1 + 1 + 1 + 1 + 1 + 1 + 1) = 273 from by decide]; omega)⟩
theorem told_8 {n : Int} (h0 : ¬ tR n - 31 - 30 - 31 - 30 - 31 - 31 - 30 < 31) (h1 : tR n - 31 - 30 - 31 - 30 - 31 - 31 - 30 - 31 < 30) : Ok (tY n) (3 + 1 + 1 + 1 + 1 + 1 + 1 + 1 + 1) (tR n - 31 - 30 - 31 - 30 - 31 - 31 - 30 - 31 + 1) ∧ num (tY n) (3 + 1 + 1 + 1 + 1 + 1 + 1 + 1 + 1) (tR n - 31 - 30 - 31 - 30 - 31 - 31 - 30 - 31 + 1) = n := by
  obtain ⟨g0, g1, g2⟩ := told_core n
  exact ⟨told_ok (by omega) (by omega) (by omega) (by rw [show mlen (3 + 1 + 1 + 1 + 1 + 1 + 1 + 1 + 1) = 30 from by decide]; omega), told_num _ _ (by omega) (by rw [show cum (3 + 1 + 1 + 1 + 1 + 1 + 1 + 1 + 1) = 304 from by decide]; omega)⟩
theorem told_9 {n : Int} (h0 : ¬ tR n - 31 - 30 - 31 - 30 - 31 - 31 - 30 - 31 < 30) (h1 : tR n - 31 - 30 - 31 - 30 - 31 - 31 - 30 - 31 - 30 < 31) : Ok (tY n) (3 + 1 + 1 + 1 + 1 + 1 + 1 + 1 + 1 + 1) (tR n - 31 - 30 - 31 - 30 - 31 - 31 - 30 - 31 - 30 + 1) ∧ num (tY n) (3 + 1 + 1 + 1 + 1 + 1 + 1 + 1 + 1 + 1) (tR n - 31 - 30 - 31 - 30 - 31 - 31 - 30 - 31 - 30 + 1) = n := by
  obtain ⟨g0, g1, g2⟩ := told_core n
  exact ⟨told_ok (by omega) (by omega) (by omega) (by rw [show mlen (3 + 1 + 1 + 1 + 1 + 1 + 1 + 1 + 1 + 1) = 31 from by decide]; omega), told_num _ _ (by omega) (by rw [show cum (3 + 1 + 1 + 1 + 1 + 1 + 1 + 1 + 1 + 1) = 334 from by decide]; omega)⟩
theorem told_10 {n : Int} (h0 : ¬ tR n - 31 - 30 - 31 - 30 - 31 - 31 - 30 - 31 - 30 < 31) (h1 : tR n - 31 - 30 - 31 - 30 - 31 - 31 - 30 - 31 - 30 - 31 < 31) : Ok (tY n + 1) (3 + 1 + 1 + 1 + 1 + 1 + 1 + 1 + 1 + 1 + 1 - 12) (tR n - 31 - 30 - 31 - 30 - 31 - 31 - 30 - 31 - 30 - 31 + 1) ∧ num (tY n + 1) (3 + 1 + 1 + 1 + 1 + 1 + 1 + 1 + 1 + 1 + 1 - 12) (tR n - 31 - 30 - 31 - 30 - 31 - 31 - 30 - 31 - 30 - 31 + 1) = n := by
  obtain ⟨g0, g1, g2⟩ := told_core n
  exact ⟨⟨by omega, by omega, by omega, (by simp [len, mlen]; omega)⟩, told_numY _ _ (by omega) (by rw [show cum (3 + 1 + 1 + 1 + 1 + 1 + 1 + 1 + 1 + 1 + 1 - 12) = 0 from by decide]; omega)⟩
theorem told_11 {n : Int} (h0 : ¬ tR n - 31 - 30 - 31 - 30 - 31 - 31 - 30 - 31 - 30 - 31 < 31) : Ok (tY n + 1) (3 + 1 + 1 + 1 + 1 + 1 + 1 + 1 + 1 + 1 + 1 + 1 - 12) (tR n - 31 - 30 - 31 - 30 - 31 - 31 - 30 - 31 - 30 - 31 - 31 + 1) ∧ num (tY n + 1) (3 + 1 + 1 + 1 + 1 + 1 + 1 + 1 + 1 + 1 + 1 + 1 - 12) (tR n - 31 - 30 - 31 - 30 - 31 - 31 - 30 - 31 - 30 - 31 - 31 + 1) = n := by
  obtain ⟨g0, g1, g2⟩ := told_core n
  exact ⟨⟨by omega, by omega, by omega, (by have := len_lo (tY n + 1) (3 + 1 + 1 + 1 + 1 + 1 + 1 + 1 + 1 + 1 + 1 + 1 - 12); rcases g2 with g2 | ⟨g2, g3⟩; omega; rw [show (3 + 1 + 1 + 1 + 1 + 1 + 1 + 1 + 1 + 1 + 1 + 1 - 12 : Int) = 2 from by decide]; simp only [len, g3, and_self, if_true]; omega)⟩, told_numY _ _ (by omega) (by rw [show cum (3 + 1 + 1 + 1 + 1 + 1 + 1 + 1 + 1 + 1 + 1 + 1 - 12) = 31 from by decide]; omega)⟩
abbrev rH (n : Int) : Int := if 3 < (n.fmod 146097).fdiv 36524 then 3 else (n.fmod 146097).fdiv 36524
abbrev rQ (n : Int) : Int := n.fmod 146097 - 36524 * rH n
abbrev rO (n : Int) : Int := if 3 < ((rQ n).fmod 1461).fdiv 365 then 3 else ((rQ n).fmod 1461).fdiv 365
abbrev rR (n : Int) : Int := (rQ n).fmod 1461 - 365 * rO n
abbrev rY (n : Int) : Int := 400 * n.fdiv 146097 + 100 * rH n + 4 * (rQ n).fdiv 1461 + rO n
theorem rR_is (n : Int) : rR n = tR n := rfl
theorem rY_is (n : Int) : rY n = tY n := rfl
theorem toldr_0 {n : Int} (h1 : rR n < 31) : Ok (rY n) (3) (rR n + 1) ∧ num (rY n) (3) (rR n + 1) = n := told_0 h1
theorem toldr_1 {n : Int} (h0 : ¬ rR n < 31) (h1 : rR n - 31 < 30) : Ok (rY n) (3 + 1) (rR n - 31 + 1) ∧ num (rY n) (3 + 1) (rR n - 31 + 1) = n := told_1 h0 h1
theorem toldr_2 {n : Int} (h0 : ¬ rR n - 31 < 30) (h1 : rR n - 31 - 30 < 31) : Ok (rY n) (3 + 1 + 1) (rR n - 31 - 30 + 1) ∧ num (rY n) (3 + 1 + 1) (rR n - 31 - 30 + 1) = n := told_2 h0 h1
theorem toldr_3 {n : Int} (h0 : ¬ rR n - 31 - 30 < 31) (h1 : rR n - 31 - 30 - 31 < 30) : Ok (rY n) (3 + 1 + 1 + 1) (rR n - 31 - 30 - 31 + 1) ∧ num (rY n) (3 + 1 + 1 + 1) (rR n - 31 - 30 - 31 + 1) = n := told_3 h0 h1
theorem toldr_4 {n : Int} (h0 : ¬ rR n - 31 - 30 - 31 < 30) (h1 : rR n - 31 - 30 - 31 - 30 < 31) : Ok (rY n) (3 + 1 + 1 + 1 + 1) (rR n - 31 - 30 - 31 - 30 + 1) ∧ num (rY n) (3 + 1 + 1 + 1 + 1) (rR n - 31 - 30 - 31 - 30 + 1) = n := told_4 h0 h1
theorem toldr_5 {n : Int} (h0 : ¬ rR n - 31 - 30 - 31 - 30 < 31) (h1 : rR n - 31 - 30 - 31 - 30 - 31 < 31) : Ok (rY n) (3 + 1 + 1 + 1 + 1 + 1) (rR n - 31 - 30 - 31 - 30 - 31 + 1) ∧ num (rY n) (3 + 1 + 1 + 1 + 1 + 1) (rR n - 31 - 30 - 31 - 30 - 31 + 1) = n := told_5 h0 h1
theorem toldr_6 {n : Int} (h0 : ¬ rR n - 31 - 30 - 31 - 30 - 31 < 31) (h1 : rR n - 31 - 30 - 31 - 30 - 31 - 31 < 30) : Ok (rY n) (3 + 1 + 1 + 1 + 1 + 1 + 1) (rR n - 31 - 30 - 31 - 30 - 31 - 31 + 1) ∧ num (rY n) (3 + 1 + 1 + 1 + 1 + 1 + 1) (rR n - 31 - 30 - 31 - 30 - 31 - 31 + 1) = n := told_6 h0 h1
theorem toldr_7 {n : Int} (h0 : ¬ rR n - 31 - 30 - 31 - 30 - 31 - 31 < 30) (h1 : rR n - 31 - 30 - 31 - 30 - 31 - 31 - 30 < 31) : Ok (rY n) (3 + 1 + 1 + 1 + 1 + 1 + 1 + 1) (rR n - 31 - 30 - 31 - 30 - 31 - 31 - 30 + 1) ∧ num (rY n) (3 + 1 + 1 + 1 + 1 + 1 + 1 + 1) (rR n - 31 - 30 - 31 - 30 - 31 - 31 - 30 + 1) = n := told_7 h0 h1
theorem toldr_8 {n : Int} (h0 : ¬ rR n - 31 - 30 - 31 - 30 - 31 - 31 - 30 < 31) (h1 : rR n - 31 - 30 - 31 - 30 - 31 - 31 - 30 - 31 < 30) : Ok (rY n) (3 + 1 + 1 + 1 + 1 + 1 + 1 + 1 + 1) (rR n - 31 - 30 - 31 - 30 - 31 - 31 - 30 - 31 + 1) ∧ num (rY n) (3 + 1 + 1 + 1 + 1 + 1 + 1 + 1 + 1) (rR n - 31 - 30 - 31 - 30 - 31 - 31 - 30 - 31 + 1) = n := told_8 h0 h1
theorem toldr_9 {n : Int} (h0 : ¬ rR n - 31 - 30 - 31 - 30 - 31 - 31 - 30 - 31 < 30) (h1 : rR n - 31 - 30 - 31 - 30 - 31 - 31 - 30 - 31 - 30 < 31) : Ok (rY n) (3 + 1 + 1 + 1 + 1 + 1 + 1 + 1 + 1 + 1) (rR n - 31 - 30 - 31 - 30 - 31 - 31 - 30 - 31 - 30 + 1) ∧ num (rY n) (3 + 1 + 1 + 1 + 1 + 1 + 1 + 1 + 1 + 1) (rR n - 31 - 30 - 31 - 30 - 31 - 31 - 30 - 31 - 30 + 1) = n := told_9 h0 h1
theorem toldr_10 {n : Int} (h0 : ¬ rR n - 31 - 30 - 31 - 30 - 31 - 31 - 30 - 31 - 30 < 31) (h1 : rR n - 31 - 30 - 31 - 30 - 31 - 31 - 30 - 31 - 30 - 31 < 31) : Ok (rY n + 1) (3 + 1 + 1 + 1 + 1 + 1 + 1 + 1 + 1 + 1 + 1 - 12) (rR n - 31 - 30 - 31 - 30 - 31 - 31 - 30 - 31 - 30 - 31 + 1) ∧ num (rY n + 1) (3 + 1 + 1 + 1 + 1 + 1 + 1 + 1 + 1 + 1 + 1 - 12) (rR n - 31 - 30 - 31 - 30 - 31 - 31 - 30 - 31 - 30 - 31 + 1) = n := told_10 h0 h1
theorem toldr_11 {n : Int} (h0 : ¬ rR n - 31 - 30 - 31 - 30 - 31 - 31 - 30 - 31 - 30 - 31 < 31) : Ok (rY n + 1) (3 + 1 + 1 + 1 + 1 + 1 + 1 + 1 + 1 + 1 + 1 + 1 - 12) (rR n - 31 - 30 - 31 - 30 - 31 - 31 - 30 - 31 - 30 - 31 - 31 + 1) ∧ num (rY n + 1) (3 + 1 + 1 + 1 + 1 + 1 + 1 + 1 + 1 + 1 + 1 + 1 - 12) (rR n - 31 - 30 - 31 - 30 - 31 - 31 - 30 - 31 - 30 - 31 - 31 + 1) = n := told_11 h0
end PtT
section PrT
/-- the end of a turn of a loop over numbered items that turns one list of ints -/
def DrEnd (h₀ : Heap) (L D : Addr) (rest own : List (Addr × Obj)) (m : Str → Option Value) (xi xc : Str) (P : List Int → Prop) (s₁ s₂ : Shared) : Prop :=
  ∃ h' tk m' news' ws ms c, s₂ = { s₁ with heap := h', toks := tk } ∧ Fr h₀ L h' m' ∧ News h₀ L h' news' ∧ (D, listOf (List.toArray ws) c) ∈ news' ∧ (∀ p ∈ rest, p ∈ news') ∧ (∀ p ∈ own, p ∈ news') ∧ (∀ z, z ≠ xi → z ≠ xc → m' z = m z) ∧ IntsAre ws ms ∧ P ms
def DrPost (h₀ : Heap) (L D : Addr) (rest own : List (Addr × Obj)) (m : Str → Option Value) (xi xc : Str) (P : List Int → Prop) (Q : Flow → Shared → Prop) (s₁ : Shared) (f : Flow) (s₂ : Shared) : Prop :=
  match f with
  | .ret v => Q (.ret v) s₂
  | .brk => Q .next s₂
  | _ => DrEnd h₀ L D rest own m xi xc P s₁ s₂
theorem DrEnd.intro {h₀ : Heap} {L D : Addr} {rest own news' : List (Addr × Obj)} {m m' : Str → Option Value} {xi xc : Str} {P : List Int → Prop} {s₁ : Shared} {h' : Heap} {tk c : Nat} {ws : List Value} {ms : List Int}
    (F : Fr h₀ L h' m') (N : News h₀ L h' news') (h1 : (D, listOf (List.toArray ws) c) ∈ news') (h2 : ∀ p ∈ rest, p ∈ news') (h3 : ∀ p ∈ own, p ∈ news') (h4 : ∀ z, z ≠ xi → z ≠ xc → m' z = m z) (hi : IntsAre ws ms) (hp : P ms) :
    DrEnd h₀ L D rest own m xi xc P s₁ { s₁ with heap := h', toks := tk } := ⟨h', tk, m', news', ws, ms, c, rfl, F, N, h1, h2, h3, h4, hi, hp⟩
theorem map2_is {m m' : Str → Option Value} {xi xc : Str} (h : ∀ z, z ≠ xi → z ≠ xc → m' z = m z) : bindM (bindM m xi (m' xi)) xc (m' xc) = m' := by
  funext z
  unfold bindM
  by_cases h1 : z = xc
  · rw [if_pos h1, h1]
  · rw [if_neg h1]
    by_cases h2 : z = xi
    · rw [if_pos h2, h2]
    · rw [if_neg h2]; exact (h z h2 h1).symm
theorem map2_in {m m' : Str → Option Value} {xi xc : Str} {v0 v1 : Value} (h : ∀ z, z ≠ xi → z ≠ xc → m' z = m z) : (fun y => if y = xc then some v1 else if y = xi then some v0 else m' y) = fun y => if y = xc then some v1 else if y = xi then some v0 else m y := by
  funext z
  by_cases h1 : z = xc
  · simp [h1]
  · by_cases h2 : z = xi
    · simp [h2]
    · simp only [if_neg h1, if_neg h2]; exact h z h2 h1
section
variable {prog : Program} {w : World} {A : Around} {E : Value → Shared → Prop} {s : Shared} {env : Env} {h₀ : Heap} {m : Str → Option Value} {xv : Value} {xi xc : Str} {body : List Stmt} {Q : Flow → Shared → Prop}
theorem pair_list {as : List Int} {D : Addr} {ws₀ : List Value} {ms₀ : List Int} {c₀ : Nat} {rest : List (Addr × Obj)} (P : Nat → List Int → Prop)
    (S : PairSrc prog w A E h₀ env ItemKind.int as xv s m ((D, listOf ws₀.toArray c₀) :: rest)) (hi : IntsAre ws₀ ms₀) (hp : P 0 ms₀)
    (turn : ∀ i a t t' ws ms c h tk own, i < as.length → P i ms → IntsAre ws ms → OwnOff own (((D, listOf (List.toArray ws₀) c₀) :: rest).map (·.1)) →
      Fr h₀ env.locals h (fun y => if y = xc then some (.int a t') else if y = xi then some (.int (i : Int) t) else m y) → News h₀ env.locals h ((D, listOf (List.toArray ws) c) :: (rest ++ own)) →
      wpAny (model prog w) A (execs body env) (DrPost h₀ env.locals D rest own m xi xc (P (i + 1)) Q { s with heap := h, toks := tk }) E { s with heap := h, toks := tk })
    (done : ∀ ws ms c h tk (vi vl : Option Value), P as.length ms → IntsAre ws ms → Fr h₀ env.locals h (fun y => if y = xc then vl else if y = xi then vi else m y) → News h₀ env.locals h ((D, listOf (List.toArray ws) c) :: rest) → Q .next { s with heap := h, toks := tk }) :
    wpAny (model prog w) A (pyIter xv) (fun it s₂ => PairAt3 prog w A h₀ env xi xc body Q E it s₂) E s := by
  refine S xi xc body Q (fun i m₁ nx => (∀ z, z ≠ xi → z ≠ xc → m₁ z = m z) ∧ ∃ ws ms c, nx = (D, listOf (List.toArray ws) c) :: rest ∧ IntsAre ws ms ∧ P i ms) ⟨fun _ _ _ => rfl, ws₀, ms₀, c₀, rfl, hi, hp⟩ ?_ ?_
  · rintro i a t v m₁ nx s₁ own ⟨h, tk, rfl⟩ ha hv ⟨hm, ws, ms, c, rfl, hi', hp'⟩ _ hoff F₁ N₁
    obtain ⟨t', rfl⟩ := ItemKind.int_is hv
    rw [map2_in hm] at F₁
    have hlt : i < as.length := (List.getElem?_eq_some_iff.mp ha).1
    have ho : OwnOff own (((D, listOf (List.toArray ws₀) c₀) :: rest).map (·.1)) := by
      intro p hq b hb
      obtain ⟨q, hq', rfl⟩ := List.mem_map.mp hb
      exact hoff p hq q hq'
    have N₂ : News h₀ env.locals h ((D, listOf (List.toArray ws) c) :: (rest ++ own)) := fun p hq => N₁ p (by
      rcases List.mem_cons.mp hq with rfl | hq
      · exact List.mem_append.mpr (.inr (.head _))
      · rcases List.mem_append.mp hq with hq | hq
        · exact List.mem_append.mpr (.inr (.tail _ hq))
        · exact List.mem_append.mpr (.inl hq))
    refine wpAny_mono (turn i a t t' ws ms c h tk own hlt hp' hi' ho F₁ N₂) (fun f s₂ p => ?_) fun _ _ e => e
    have fin : DrEnd h₀ env.locals D rest own m xi xc (P (i + 1)) { s with heap := h, toks := tk } s₂ → LoopStep2 h₀ env.locals own ((D, listOf (List.toArray ws) c) :: rest) (fun m₁ nx => (∀ z, z ≠ xi → z ≠ xc → m₁ z = m z) ∧ ∃ ws ms c, nx = (D, listOf (List.toArray ws) c) :: rest ∧ IntsAre ws ms ∧ P (i + 1) ms) { s with heap := h, toks := tk } .next s₂ := by
      rintro ⟨h', tk', m', news', ws', ms', c', rfl, F', N', h1, h2, h3, h4, hi9, hp9⟩
      refine LoopStep2.intro F' (news₂ := (D, listOf (List.toArray ws') c') :: rest) (fun p hq => N' p ?_) rfl ⟨h4, ws', ms', c', rfl, hi9, hp9⟩
      rcases List.mem_append.mp hq with hq | hq
      · exact h3 p hq
      · rcases List.mem_cons.mp hq with rfl | hq
        · exact h1
        · exact h2 p hq
    cases f with
    | ret v => exact p
    | brk => exact p
    | next => exact fin p
    | cont => exact fin p
  · rintro h' tk m' nx F' N' _ ⟨hm, ws, ms, c, rfl, hi', hp'⟩
    refine done ws ms c h' tk (m' xi) (m' xc) hp' hi' ?_ N'
    have e : (fun y => if y = xc then m' xc else if y = xi then m' xi else m y) = m' := map2_is hm
    rw [e]; exact F'
end
end PrT
section HdT
open_top hd for PySem.Challenge.rw_sh0003_01
end HdT
section L1T
theorem fill_once : PySem.Challenge.rw_sh0003_01 = PySem.Challenge.rw_sh0003_01 ∧ hd.heap_39 = hd.heap_39 := by
  k_fill
  w_top off
  exact ⟨rfl, rfl⟩
/-- what a call of a def of the text asks of its place -/
structure At (w : World) (mean : ExcName → Option Value) (mg mb : Str → Option Value) (k : Nat) (dp un : Nat) (cs : Scope) (outer : List Env) (A₀ : Around) (base h₀ : Heap) (L : Addr) (m : Str → Option Value) (news : List (Addr × Obj)) (h : Heap) : Prop where
  B : Below A₀ base outer h₀
  F : Fr h₀ L h m
  X : (hd.heap_39 w.params).In h₀
  N : News h₀ L h news
  T : Top hd.view_39 (looseW hd.view_39 [Str.ofString "mdays"]) mean mg mb h₀
  hk : cs.kind = .function
  hd : dp + k < recursionLimit
  hu : un + 8 * k < cLine
abbrev Pg : Program := PySem.Challenge.rw_sh0003_01.row.prog
section
variable {w : World} {mean : ExcName → Option Value} {mg mb : Str → Option Value} {dp un : Nat} {gd : Option (List Code)} {cn : Str} {cs : Scope} {a : Addr} {ccd : Value} {cl : List (Str × Addr)} {outer : List Env} {A₀ : Around} {base h₀ : Heap} {L : Addr} {m : Str → Option Value} {news : List (Addr × Obj)} {s : Shared} {Q E : Value → Shared → Prop}

theorem fmod_is (a : Int) {b : Int} (h : 0 ≤ b) : a.fmod b = a % b := Int.fmod_eq_emod_of_nonneg a h
theorem fdiv_is (a : Int) {b : Int} (h : 0 ≤ b) : a.fdiv b = a / b := Int.fdiv_eq_ediv_of_nonneg a h

theorem leap_a {y : Int} (h : y.fmod 4 = 0) (h2 : y.fmod 100 ≠ 0) : (y.fmod 100 != 0) = leapB y := by
  rw [fmod_is _ (by decide)] at h h2 ⊢
  simp [leapB, h, h2]
theorem leap_b {y : Int} (h : y.fmod 4 = 0) (h2 : y.fmod 100 = 0) : (y.fmod 400 == 0) = leapB y := by
  rw [fmod_is _ (by decide)] at h h2 ⊢
  simp [leapB, h, h2, BEq.beq]
theorem leap_c {y : Int} (h : y.fmod 4 ≠ 0) : (y.fmod 4 == 0) = leapB y := by
  rw [fmod_is _ (by decide)] at h ⊢
  simp [leapB, h]
theorem isleap_c (y : Int) (ty : Tok) (H : At w mean mg mb 1 dp un cs outer A₀ base h₀ L m news s.heap)
    (hret : ∀ (t : Tok) (h' : Heap) (tk' : Nat), Fr h₀ L h' m → News h₀ L h' news → Q (.bool (leapB y)) { s with heap := h', toks := tk' }) :
    wpAny (model PySem.Challenge.rw_sh0003_01.row.prog w) (ktrTop dp un gd cn cs L a ccd cl outer) (call (.ref 22) [.int y ty]) Q E s := by
  obtain ⟨B, F, X, N, T, hk, hd, hu⟩ := H
  refine wpAny_call ?_
  k_dflt cell_enter
  k_steps
  all_goals (refine cb_retB hret ?_ (by k_asm) (by k_asm); first | exact leap_a (by assumption) (by assumption) | exact leap_b (by assumption) (by assumption) | exact leap_c (by assumption))
theorem lpd_is (y : Int) : (y - 1).fdiv 4 - (0 - 1 : Int).fdiv 4 - ((y - 1).fdiv 100 - (0 - 1 : Int).fdiv 100) + ((y - 1).fdiv 400 - (0 - 1 : Int).fdiv 400) = lpd y := by
  rw [fdiv_is _ (by decide), fdiv_is _ (by decide), fdiv_is _ (by decide), fdiv_is _ (by decide), fdiv_is _ (by decide), fdiv_is _ (by decide)]
  unfold lpd
  omega
theorem leapdays_c (y : Int) (t0 ty : Tok) (H : At w mean mg mb 1 dp un cs outer A₀ base h₀ L m news s.heap)
    (hret : ∀ (t : Tok) (h' : Heap) (tk' : Nat), Fr h₀ L h' m → News h₀ L h' news → Q (.int (lpd y) t) { s with heap := h', toks := tk' }) :
    wpAny (model PySem.Challenge.rw_sh0003_01.row.prog w) (ktrTop dp un gd cn cs L a ccd cl outer) (call (.ref 29) [.int 0 t0, .int y ty]) Q E s := by
  obtain ⟨B, F, X, N, T, hk, hd, hu⟩ := H
  refine wpAny_call ?_
  k_dflt cell_enter
  k_steps
  all_goals (refine cb_retI hret (lpd_is y) (by k_asm) (by k_asm))

/-- a fresh tuple of two ints at the ledger's head, the rest as it stood -/
abbrev tup2 (x y : Int) (t u : Tok) (c : Nat) : Obj := { cls := .type "tuple", data := .seq #[.int x t, .int y u] c }
abbrev tup3 (x y z : Int) (t u v : Tok) (c : Nat) : Obj := { cls := .type "tuple", data := .seq #[.int x t, .int y u, .int z v] c }
theorem allLt_sub {d : Addr} {l l' : List (Addr × Obj)} (h : AllLt d l') (hs : ∀ p ∈ l, p ∈ l') : AllLt d l := allLt_of fun p hp => ktn_ltOf h p (hs p hp)
theorem ret2 {x y x' y' : Int} {h' : Heap} {tk' : Nat} {D : Addr} {t u : Tok} {c : Nat} {news' : List (Addr × Obj)}
    (hret : ∀ (D : Addr) (t u : Tok) (c : Nat) (h' : Heap) (tk' : Nat), Fr h₀ L h' m → News h₀ L h' ((D, tup2 x y t u c) :: news) → AllLt D news → Q (.ref D) { s with heap := h', toks := tk' })
    (F : Fr h₀ L h' m) (N : News h₀ L h' ((D, tup2 x' y' t u c) :: news')) (hs : ∀ p ∈ news, p ∈ news') (hl : AllLt D news) (e1 : x' = x) (e2 : y' = y) : Q (.ref D) { s with heap := h', toks := tk' } := by
  subst e1; subst e2
  refine hret D t u c h' tk' F (fun p hp => N p ?_) hl
  rcases List.mem_cons.mp hp with rfl | hp
  · exact List.mem_cons_self ..
  · exact List.mem_cons_of_mem _ (hs p hp)
def prevY (y p : Int) : Int := if p = 1 then y - 1 else y
def prevP (p : Int) : Int := if p = 1 then 12 else p - 1
def nextY (y p : Int) : Int := if p = 12 then y + 1 else y
def nextP (p : Int) : Int := if p = 12 then 1 else p + 1
theorem prevmonth_c (y p : Int) (ty tp : Tok) (H : At w mean mg mb 1 dp un cs outer A₀ base h₀ L m news s.heap)
    (hret : ∀ (D : Addr) (t u : Tok) (c : Nat) (h' : Heap) (tk' : Nat), Fr h₀ L h' m → News h₀ L h' ((D, tup2 (prevY y p) (prevP p) t u c) :: news) → AllLt D news → Q (.ref D) { s with heap := h', toks := tk' }) :
    wpAny (model PySem.Challenge.rw_sh0003_01.row.prog w) (ktrTop dp un gd cn cs L a ccd cl outer) (call (.ref 36) [.int y ty, .int p tp]) Q E s := by
  obtain ⟨B, F, X, N, T, hk, hd, hu⟩ := H
  refine wpAny_call ?_
  k_dflt cell_enter
  k_steps
  all_goals (refine ret2 hret (by k_asm) (by k_asm) (fun _ h => h) (by first | assumption | kcu_lt) ?_ ?_ <;> simp only [prevY, prevP] <;> split <;> first | rfl | contradiction)
theorem nextmonth_c (y p : Int) (ty tp : Tok) (H : At w mean mg mb 1 dp un cs outer A₀ base h₀ L m news s.heap)
    (hret : ∀ (D : Addr) (t u : Tok) (c : Nat) (h' : Heap) (tk' : Nat), Fr h₀ L h' m → News h₀ L h' ((D, tup2 (nextY y p) (nextP p) t u c) :: news) → AllLt D news → Q (.ref D) { s with heap := h', toks := tk' }) :
    wpAny (model PySem.Challenge.rw_sh0003_01.row.prog w) (ktrTop dp un gd cn cs L a ccd cl outer) (call (.ref 43) [.int y ty, .int p tp]) Q E s := by
  obtain ⟨B, F, X, N, T, hk, hd, hu⟩ := H
  refine wpAny_call ?_
  k_dflt cell_enter
  k_steps
  all_goals (refine ret2 hret (by k_asm) (by k_asm) (fun _ h => h) (by first | assumption | kcu_lt) ?_ ?_ <;> simp only [nextY, nextP] <;> split <;> first | rfl | contradiction)
end
end L1T
section PwT
abbrev tupD3 (x y z : Int) (t u v : Tok) (c : Nat) : Obj := { cls := .type "tuple", data := .seq #[.int x t, .int y u, .int z v] c }
abbrev stopD (y p d : Int) : Dat := Dat.tuple [Dat.int y, Dat.int p, Dat.int d]
/-- the trip that lies behind a stop, told as data -/
inductive TripD : List Dat → Int → Int → Int → Prop
  | nil (y p d : Int) : TripD [] y p d
  | snoc {ds : List Dat} {y0 p0 d0 e k y p d : Int} : TripD ds y0 p0 d0 → Ok y0 p0 d0 → -200 ≤ k → k ≤ 200 → num y p d = num y0 p0 d0 + (146097 * e + k) → TripD (ds ++ [Dat.tuple [stopD y0 p0 d0, Dat.int e, Dat.int k]]) y p d
/-- the end of a turn of the way back -/
def TwEnd (h₀ : Heap) (L : Addr) (s : Shared) (Tr : Addr) (sn : Str) (stored : List Str) (m₀ : Str → Option Value) (k : Nat) (s₂ : Shared) : Prop :=
  ∃ h' tk m' news' tl ws ds n a y p d t u v c, s₂ = { s with heap := h', toks := tk } ∧ Fr h₀ L h' m' ∧ News h₀ L h' news' ∧ (Tr, listOf (List.toArray ws) n) ∈ news' ∧ (∀ q ∈ tl, q ∈ news') ∧ (∀ q ∈ tl, q.1 ≠ Tr) ∧ DatAll tl ws ds ∧ TripD ds y p d ∧ Ok y p d ∧ (a, tupD3 y p d t u v c) ∈ tl ∧ ws.length ≤ 9 ∧ m' sn = some (.ref a) ∧ (∀ z, z ≠ sn → stored.contains z = false → m' z = m₀ z) ∧ ws.length < k
def TwPost (h₀ : Heap) (L : Addr) (s : Shared) (Tr : Addr) (sn : Str) (stored : List Str) (m₀ : Str → Option Value) (Q : Flow → Shared → Prop) (k : Nat) (f : Flow) (s₂ : Shared) : Prop :=
  match f with
  | .ret v => Q (.ret v) s₂
  | .brk => Q .next s₂
  | _ => TwEnd h₀ L s Tr sn stored m₀ k s₂
theorem TwEnd.intro {h₀ : Heap} {L : Addr} {s : Shared} {Tr : Addr} {sn : Str} {stored : List Str} {m₀ m' : Str → Option Value} {k : Nat} {h' : Heap} {tk : Nat} {news' tl : List (Addr × Obj)} {ws : List Value} {ds : List Dat} {n : Nat} {a : Addr} {y p d : Int} {t u v : Tok} {c : Nat}
    (F : Fr h₀ L h' m') (N : News h₀ L h' news') (h1 : (Tr, listOf (List.toArray ws) n) ∈ news') (h2 : ∀ q ∈ tl, q ∈ news') (h3 : ∀ q ∈ tl, q.1 ≠ Tr) (h4 : DatAll tl ws ds) (h5 : TripD ds y p d) (h6 : Ok y p d) (h7 : (a, tupD3 y p d t u v c) ∈ tl) (h8 : ws.length ≤ 9) (h9 : m' sn = some (.ref a)) (h10 : ∀ z, z ≠ sn → stored.contains z = false → m' z = m₀ z) (h11 : ws.length < k) :
    TwEnd h₀ L s Tr sn stored m₀ k { s with heap := h', toks := tk } := ⟨h', tk, m', news', tl, ws, ds, n, a, y, p, d, t, u, v, c, rfl, F, N, h1, h2, h3, h4, h5, h6, h7, h8, h9, h10, h11⟩
section
variable {prog : Program} {w : World} {A : Around} {E : Value → Shared → Prop} {Q : Flow → Shared → Prop} {s : Shared} {env : Env} {h₀ : Heap} {L : Addr}
theorem trip_while {test : PySem.Expr} {body : List Stmt} {pos : Pos} {m₀ : Str → Option Value} {Tr : Addr} {tl₀ : List (Addr × Obj)} {ws₀ : List Value} {ds₀ : List Dat} {n₀ : Nat} {a₀ : Addr} {y₀ p₀ d₀ : Int} {t₀ u₀ v₀ : Tok} {c₀ : Nat} (sn : Str) (stored : List Str)
    (F : Fr h₀ L s.heap m₀) (N : News h₀ L s.heap ((Tr, listOf (List.toArray ws₀) n₀) :: tl₀)) (h3 : ∀ q ∈ tl₀, q.1 ≠ Tr) (h4 : DatAll tl₀ ws₀ ds₀) (h5 : TripD ds₀ y₀ p₀ d₀) (h6 : Ok y₀ p₀ d₀) (h7 : (a₀, tupD3 y₀ p₀ d₀ t₀ u₀ v₀ c₀) ∈ tl₀) (h8 : ws₀.length ≤ 9) (h9 : m₀ sn = some (.ref a₀))
    (turn0 : ∀ tl n a (f : Str → Option Value) h tk, Fr h₀ L h (fun z => if z = sn then some (.ref a) else if stored.contains z then f z else m₀ z) → News h₀ L h ((Tr, listOf (List.toArray []) n) :: tl) →
      wpAny (model prog w) A (isTrue test env (eval test env)) (fun b s₂ => if b = true then wpAny (model prog w) A (execs body env) (TwPost h₀ L s Tr sn stored m₀ Q 0) E s₂ else Q .next s₂) E { s with heap := h, toks := tk })
    (turn1 : ∀ tl ws ds n a y p d t u v c i e k t1 t2 c1 j y0 p0 d0 t3 u3 v3 c3 (f : Str → Option Value) h tk, Fr h₀ L h (fun z => if z = sn then some (.ref a) else if stored.contains z then f z else m₀ z) → News h₀ L h ((Tr, listOf (List.toArray (ws ++ [.ref i])) n) :: tl) →
      (∀ q ∈ tl, q.1 ≠ Tr) → DatAll tl ws ds → TripD ds y0 p0 d0 → Ok y0 p0 d0 → -200 ≤ k → k ≤ 200 → num y p d = num y0 p0 d0 + (146097 * e + k) → Ok y p d → (a, tupD3 y p d t u v c) ∈ tl → (j, tupD3 y0 p0 d0 t3 u3 v3 c3) ∈ tl →
      (i, ({ cls := .type "tuple", data := .seq #[.ref j, .int e t1, .int k t2] c1 } : Obj)) ∈ tl → ws.length ≤ 8 →
      wpAny (model prog w) A (isTrue test env (eval test env)) (fun b s₂ => if b = true then wpAny (model prog w) A (execs body env) (TwPost h₀ L s Tr sn stored m₀ Q (ws.length + 1)) E s₂ else Q .next s₂) E { s with heap := h, toks := tk })
    (hE : PassesOwn (model prog w) A env E := by passes_own) :
    wpAny (model prog w) A (exec (.While test body [] pos) env) Q E s := by
  refine While_inv2 (fun n m nx => ∃ tl ws ds k a y p d t u v c, nx = (Tr, listOf (List.toArray ws) k) :: tl ∧ ws.length = n ∧ (∀ q ∈ tl, q.1 ≠ Tr) ∧ DatAll tl ws ds ∧ TripD ds y p d ∧ Ok y p d ∧ (a, tupD3 y p d t u v c) ∈ tl ∧ ws.length ≤ 9 ∧ m sn = some (.ref a) ∧ (∀ z, z ≠ sn → stored.contains z = false → m z = m₀ z))
    F N ⟨tl₀, ws₀, ds₀, n₀, a₀, y₀, p₀, d₀, t₀, u₀, v₀, c₀, rfl, rfl, h3, h4, h5, h6, h7, h8, h9, fun _ _ _ => rfl⟩ ?_ hE
  rintro n m₁ nx h tk F₁ N₁ ⟨tl, ws, ds, k, a, y, p, d, t, u, v, c, rfl, rfl, g3, g4, g5, g6, g7, g8, g9, g10⟩
  replace F₁ : Fr h₀ L h (fun z => if z = sn then some (Value.ref a) else if stored.contains z then m₁ z else m₀ z) :=
    ksw_fr (ps := [(sn, Value.ref a)]) (fun q hq => by rw [List.mem_singleton.mp hq]; exact g9) (fun z h1 h2 => g10 z (h1 _ (List.mem_singleton.mpr rfl)) h2) F₁
  have fin : ∀ kk f s₃, kk ≤ ws.length → TwPost h₀ L s Tr sn stored m₀ Q kk f s₃ → WhileStep2 h₀ L s (fun n m nx => ∃ tl ws ds k a y p d t u v c, nx = (Tr, listOf (List.toArray ws) k) :: tl ∧ ws.length = n ∧ (∀ q ∈ tl, q.1 ≠ Tr) ∧ DatAll tl ws ds ∧ TripD ds y p d ∧ Ok y p d ∧ (a, tupD3 y p d t u v c) ∈ tl ∧ ws.length ≤ 9 ∧ m sn = some (.ref a) ∧ (∀ z, z ≠ sn → stored.contains z = false → m z = m₀ z)) Q ws.length f s₃ := by
    intro kk f s₃ hkk q
    have go : TwEnd h₀ L s Tr sn stored m₀ kk s₃ → ∃ h' tk m₂ news₂ n', s₃ = { s with heap := h', toks := tk } ∧ Fr h₀ L h' m₂ ∧ News h₀ L h' news₂ ∧ n' < ws.length ∧ ∃ tl ws ds k a y p d t u v c, news₂ = (Tr, listOf (List.toArray ws) k) :: tl ∧ ws.length = n' ∧ (∀ q ∈ tl, q.1 ≠ Tr) ∧ DatAll tl ws ds ∧ TripD ds y p d ∧ Ok y p d ∧ (a, tupD3 y p d t u v c) ∈ tl ∧ ws.length ≤ 9 ∧ m₂ sn = some (.ref a) ∧ (∀ z, z ≠ sn → stored.contains z = false → m₂ z = m₀ z) := by
      rintro ⟨h', tk', m', news', tl', ws', ds', n', a', y', p', d', t', u', v', c', rfl, F', N', e1, e2, e3, e4, e5, e6, e7, e8, e9, e10, e11⟩
      refine ⟨h', tk', m', (Tr, listOf (List.toArray ws') n') :: tl', ws'.length, rfl, F', fun q hq => N' q ?_, Nat.lt_of_lt_of_le e11 hkk, tl', ws', ds', n', a', y', p', d', t', u', v', c', rfl, rfl, e3, e4, e5, e6, e7, e8, e9, e10⟩
      rcases List.mem_cons.mp hq with rfl | hq
      · exact e1
      · exact e2 q hq
    cases f with
    | ret v => exact q
    | brk => exact q
    | next => exact go q
    | cont => exact go q
  cases g5 with
  | nil =>
    cases ws with
    | nil =>
      refine wpAny_mono (turn0 tl k a m₁ h tk F₁ N₁) (fun b s₂ q => ?_) fun _ _ x => x
      cases b with
      | false => simpa using q
      | true =>
        simp only [if_true] at q ⊢
        exact wpAny_mono q (fun f s₃ r => fin 0 f s₃ (Nat.zero_le _) r) fun _ _ x => x
    | cons x r => cases g4
  | @snoc ds' y0 p0 d0 e kk _ _ _ q1 q2 q3 q4 q5 =>
    rcases List.eq_nil_or_concat ws with e0 | ⟨ws', x, e0⟩
    · have := g4.length
      rw [e0] at this
      simp at this
    · rw [List.concat_eq_append] at e0
      subst e0
      obtain ⟨es, dx, ee, r1, r2⟩ := g4.snoc
      obtain ⟨rfl, rfl⟩ : ds' = es ∧ Dat.tuple [stopD y0 p0 d0, Dat.int e, Dat.int kk] = dx := by
        have := List.append_inj' ee rfl
        exact ⟨this.1, by simpa using this.2⟩
      cases r2 with
      | @tuple i vs c1 _ hm ha =>
        cases ha with
        | cons b1 b2 =>
          cases b1 with
          | @tuple j vs3 c3 _ hm3 ha3 =>
            cases ha3 with
            | cons x1 x2 => cases x1; cases x2 with
              | cons x3 x4 => cases x3; cases x4 with
                | cons x5 x6 => cases x5; cases x6; cases b2 with
                  | cons b3 b4 => cases b3; cases b4 with
                    | cons b5 b6 =>
                      cases b5; cases b6
                      have hl : (ws' ++ [Value.ref i]).length = ws'.length + 1 := by simp
                      refine wpAny_mono (turn1 tl ws' ds' k a y p d t u v c i e kk _ _ c1 j y0 p0 d0 _ _ _ c3 m₁ h tk F₁ N₁ g3 r1 q1 q2 q3 q4 q5 g6 g7 hm3 hm (by omega)) (fun b s₂ q => ?_) fun _ _ x => x
                      cases b with
                      | false => simpa using q
                      | true =>
                        simp only [if_true] at q ⊢
                        exact wpAny_mono q (fun f s₃ r => fin _ f s₃ (by omega) r) fun _ _ x => x
end
end PwT
section L2T
section
variable {w : World} {mean : ExcName → Option Value} {mg mb : Str → Option Value} {dp un : Nat} {gd : Option (List Code)} {cn : Str} {cs : Scope} {a : Addr} {ccd : Value} {cl : List (Str × Addr)} {outer : List Env} {A₀ : Around} {base h₀ : Heap} {L : Addr} {m : Str → Option Value} {news : List (Addr × Obj)} {s : Shared} {Q E : Value → Shared → Prop}
local macro_rules | `(tactic| walk_at "mine at") => `(tactic| (refine' ⟨?a1, ?a2, ?a3, ?a4, ?a5, ?a6, ?a7, ?a8⟩; (case a1 => k_asm); (case a2 => k_asm); (case a3 => k_asm); (case a4 => k_asm); (case a5 => k_asm); (case a6 => first | exact rfl | assumption); (case a7 => ktr_room); (case a8 => ktr_units)))
local macro_rules | `(tactic| walk_at "call ref") => `(tactic| (k_here; (with_reducible show wpAny _ _ (call (Value.ref 22) [Value.int _ _]) _ _ _); k_dflt (refine' isleap_c _ _ ?kH ?_; (case kH => walk_at "mine at")); intro t9 h9 tk9 F9 N9; (try dsimp only); (try k_fold)))

abbrev mdaysL : List Int := [0, 31, 28, 31, 30, 31, 30, 31, 31, 30, 31, 30, 31]
theorem mdays_is {p : Int} (h1 : 1 ≤ p) (h2 : p ≤ 12) : mdaysL.getD p.toNat 0 = mlen p := by
  rcases cases12 h1 h2 with h | h | h | h | h | h | h | h | h | h | h | h <;> subst h <;> decide
local macro_rules | `(tactic| walk_at "subscriptTail") => `(tactic| (k_here; (with_reducible show wpAny _ _ (subscriptTail _ _ (Value.ref 15) (Value.int _ _)) _ _ _); (with_unfolding_all refine' item_anyK (ns := mdaysL) (listIn ?kx ?kf ?ko) ?k2 ?k3 ?k4 ?k5 ?_ ?k6; (case kx => k_asm); (case kf => k_asm); (case ko => k_is); (case k2 => l_ints); (case k3 => l_idx); (case k4 => l_idx); (case k5 => l_idx); (case k6 => with_unfolding_all rfl); k_whole); intro t9))
theorem len_a {y p : Int} (h : p = 2) (h2 : leapB y = true) : mdaysL.getD (2 : Int).toNat 0 + 1 = len y p := by
  subst h; simp [len, h2]
theorem len_b {y p : Int} (h1 : 1 ≤ p) (hh2 : p ≤ 12) (h2 : leapB y = false) : mdaysL.getD p.toNat 0 = len y p := by
  rw [mdays_is h1 hh2]; simp [len, h2]
theorem len_c {y p : Int} (h1 : 1 ≤ p) (hh2 : p ≤ 12) (h2 : p ≠ 2) : mdaysL.getD p.toNat 0 = len y p := by
  rw [mdays_is h1 hh2]; simp [len, h2]
theorem length_c (y p : Int) (ty tp : Tok) (hp1 : 1 ≤ p) (hp2 : p ≤ 12) (H : At w mean mg mb 2 dp un cs outer A₀ base h₀ L m news s.heap)
    (hret : ∀ (t : Tok) (h' : Heap) (tk' : Nat), Fr h₀ L h' m → News h₀ L h' news → Q (.int (len y p) t) { s with heap := h', toks := tk' }) :
    wpAny (model PySem.Challenge.rw_sh0003_01.row.prog w) (ktrTop dp un gd cn cs L a ccd cl outer) (call (.ref 64) [.int y ty, .int p tp]) Q E s := by
  obtain ⟨B, F, X, N, T, hk, hd, hu⟩ := H
  refine wpAny_call ?_
  k_dflt cell_enter
  k_steps
  all_goals (refine cb_retI hret ?_ (by k_asm) (by k_asm); first | exact len_a (by assumption) (by assumption) | exact len_b hp1 hp2 (by assumption) | exact len_c hp1 hp2 (by assumption))
end
end L2T
section L3T
section
variable {w : World} {mean : ExcName → Option Value} {mg mb : Str → Option Value} {dp un : Nat} {gd : Option (List Code)} {cn : Str} {cs : Scope} {a : Addr} {ccd : Value} {cl : List (Str × Addr)} {outer : List Env} {A₀ : Around} {base h₀ : Heap} {L : Addr} {m : Str → Option Value} {news : List (Addr × Obj)} {s : Shared} {Q E : Value → Shared → Prop}
theorem ret3 {n y' p' d' : Int} {h' : Heap} {tk' : Nat} {D : Addr} {t u v : Tok} {c : Nat} {news' : List (Addr × Obj)}
    (hret : ∀ (D : Addr) (y p d : Int) (t u v : Tok) (c : Nat) (h' : Heap) (tk' : Nat), Ok y p d → num y p d = n → Fr h₀ L h' m → News h₀ L h' ((D, tup3 y p d t u v c) :: news) → AllLt D news → Q (.ref D) { s with heap := h', toks := tk' })
    (F : Fr h₀ L h' m) (N : News h₀ L h' ((D, tup3 y' p' d' t u v c) :: news')) (hl : AllLt D news') (hs : ∀ p ∈ news, p ∈ news') (e : Ok y' p' d' ∧ num y' p' d' = n) : Q (.ref D) { s with heap := h', toks := tk' } := by
  refine hret D y' p' d' t u v c h' tk' e.1 e.2 F (fun p hp => N p ?_) (allLt_sub hl hs)
  rcases List.mem_cons.mp hp with rfl | hp
  · exact List.mem_cons_self ..
  · exact List.mem_cons_of_mem _ (hs p hp)
local macro_rules | `(tactic| walk_at "mine sub") => `(tactic| (intro p9 hp9; repeat (first | exact hp9 | refine List.mem_cons_of_mem _ ?_ | refine List.mem_append.mpr (.inr ?_))))
theorem told_c (n : Int) (tn : Tok) (H : At w mean mg mb 1 dp un cs outer A₀ base h₀ L m news s.heap)
    (hret : ∀ (D : Addr) (y p d : Int) (t u v : Tok) (c : Nat) (h' : Heap) (tk' : Nat), Ok y p d → num y p d = n → Fr h₀ L h' m → News h₀ L h' ((D, tup3 y p d t u v c) :: news) → AllLt D news → Q (.ref D) { s with heap := h', toks := tk' }) :
    wpAny (model PySem.Challenge.rw_sh0003_01.row.prog w) (ktrTop dp un gd cn cs L a ccd cl outer) (call (.ref 57) [.int n tn]) Q E s := by
  obtain ⟨B, F, X, N, T, hk, hd, hu⟩ := H
  refine wpAny_call ?_
  k_dflt cell_enter
  k_steps
  all_goals (refine' ret3 hret ?r1 ?r2 ?r3 ?r4 ?r5; (case r1 => k_asm); (case r2 => k_asm); (case r3 => assumption); (case r4 => walk_at "mine sub"); (case r5 => first | with_reducible exact toldr_0 (by assumption) | with_reducible exact toldr_1 (by assumption) (by assumption) | with_reducible exact toldr_2 (by assumption) (by assumption) | with_reducible exact toldr_3 (by assumption) (by assumption) | with_reducible exact toldr_4 (by assumption) (by assumption) | with_reducible exact toldr_5 (by assumption) (by assumption) | with_reducible exact toldr_6 (by assumption) (by assumption) | with_reducible exact toldr_7 (by assumption) (by assumption) | with_reducible exact toldr_8 (by assumption) (by assumption) | with_reducible exact toldr_9 (by assumption) (by assumption) | with_reducible exact toldr_10 (by assumption) (by assumption) | with_reducible exact toldr_11 (by assumption)))
end
end L3T
section L4T
section
variable {w : World} {mean : ExcName → Option Value} {mg mb : Str → Option Value} {dp un : Nat} {gd : Option (List Code)} {cn : Str} {cs : Scope} {a : Addr} {ccd : Value} {cl : List (Str × Addr)} {outer : List Env} {A₀ : Around} {base h₀ : Heap} {L : Addr} {m : Str → Option Value} {news : List (Addr × Obj)} {s : Shared} {Q E : Value → Shared → Prop}
local macro_rules | `(tactic| walk_at "mine at") => `(tactic| (refine' ⟨?a1, ?a2, ?a3, ?a4, ?a5, ?a6, ?a7, ?a8⟩; (case a1 => k_asm); (case a2 => k_asm); (case a3 => k_asm); (case a4 => k_asm); (case a5 => k_asm); (case a6 => first | exact rfl | assumption); (case a7 => ktr_room); (case a8 => ktr_units)))
local macro_rules | `(tactic| walk_at "call ref") => `(tactic| (k_here; (with_reducible show wpAny _ _ (call (Value.ref 22) [Value.int _ _]) _ _ _); k_dflt (refine' isleap_c _ _ ?kH ?_; (case kH => walk_at "mine at")); intro t9 h9 tk9 F9 N9; (try dsimp only); (try k_fold)))
local macro_rules | `(tactic| walk_at "call ref") => `(tactic| (k_here; (with_reducible show wpAny _ _ (call (Value.ref 29) [Value.int 0 _, Value.int _ _]) _ _ _); k_dflt (refine' leapdays_c _ _ _ ?kH ?_; (case kH => walk_at "mine at")); intro t9 h9 tk9 F9 N9; (try dsimp only); (try k_fold)))
local macro_rules | `(tactic| walk_at "subscriptTail Name Slice ref ref") => `(tactic| (k_here; (with_reducible show wpAny _ _ (subscriptTail _ (PySem.Expr.Slice _ _ none _) (Value.ref 15) (Value.ref _)) _ _ _); k_dflt (refine' kmk_slice_ints (ns := mdaysL) ?F ?N ?l ?p ?q ?i ?m ?c ?_ ?s ?t ?z; (case F => k_asm); (case N => k_asm); (case l => exact listIn (by k_asm) (by k_asm) (by k_is)); (case p => kmk_part); (case q => kmk_part); (case i => l_ints); (case m => exact kmk_upto (by l_ints) (by omega)); (case c => kmk_len); (case s => with_unfolding_all rfl); (case t => kmk_pure); (case z => kmk_size)); intro D' ws' h' F' N' l1 hI' hC' hL'; (try k_lt l1); (try k_sweep)))
local macro_rules | `(tactic| walk_at "mine sub") => `(tactic| (intro p9 hp9; repeat (first | exact hp9 | refine List.mem_cons_of_mem _ ?_ | refine List.mem_append.mpr (.inr ?_))))
local macro_rules | `(tactic| walk_at "mine news") => `(tactic| first | k_asm | (refine cb_drop (by assumption) ?_; walk_at "mine sub"))
theorem cum_is {p : Int} (h1 : 1 ≤ p) (h2 : p ≤ 12) : (mdaysL.take p.toNat).sum = cum p := by
  rcases cases12 h1 h2 with h | h | h | h | h | h | h | h | h | h | h | h <;> subst h <;> decide
theorem num_a {y p d : Int} (h1 : 1 ≤ p) (h2 : p ≤ 12) (h3 : 2 < p) (h4 : leapB y = true) : 365 * y + lpd y + (mdaysL.take p.toNat).sum + d - 61 + 1 = num y p d := by
  rw [cum_is h1 h2]; unfold num; rw [if_pos ⟨h3, h4⟩]
theorem num_b {y p d : Int} (h1 : 1 ≤ p) (h2 : p ≤ 12) (h4 : leapB y = false) : 365 * y + lpd y + (mdaysL.take p.toNat).sum + d - 61 = num y p d := by
  rw [cum_is h1 h2]; unfold num; rw [if_neg (fun c => by rw [h4] at c; exact absurd c.2 (by decide))]; omega
theorem num_c {y p d : Int} (h1 : 1 ≤ p) (h2 : p ≤ 12) (h3 : ¬ 2 < p) : 365 * y + lpd y + (mdaysL.take p.toNat).sum + d - 61 = num y p d := by
  rw [cum_is h1 h2]; unfold num; rw [if_neg (fun c => h3 c.1)]; omega
theorem numbered_c (D : Addr) (y p d : Int) (t u v : Tok) (c : Nat) (hD : (D, tup3 y p d t u v c) ∈ news) (hok : Ok y p d) (H : At w mean mg mb 2 dp un cs outer A₀ base h₀ L m news s.heap)
    (hret : ∀ (t : Tok) (h' : Heap) (tk' : Nat), Fr h₀ L h' m → News h₀ L h' news → Q (.int (num y p d) t) { s with heap := h', toks := tk' }) :
    wpAny (model PySem.Challenge.rw_sh0003_01.row.prog w) (ktrTop dp un gd cn cs L a ccd cl outer) (call (.ref 78) [.ref D]) Q E s := by
  obtain ⟨B, F, X, N, T, hk, hd, hu⟩ := H
  obtain ⟨hp1, hp2, hd1, hd2⟩ := id hok
  refine wpAny_call ?_
  k_dflt cell_enter
  k_steps
  all_goals (refine cb_retI hret ?_ (by k_asm) (by walk_at "mine news"); first | exact num_a hp1 hp2 (by assumption) (by assumption) | exact num_b hp1 hp2 (by assumption) | exact num_c hp1 hp2 (by assumption))
end
end L4T
section L5T
/-- what holds between the turns of the carrying loop, behind i turns -/
def MI (n : Int) (i : Nat) (y p d : Int) : Prop := 1 ≤ p ∧ p ≤ 12 ∧ num y p d = n ∧ (1 ≤ d ∨ -199 + 28 * (i : Int) ≤ d) ∧ (d ≤ len y p ∨ d ≤ 231 - 28 * (i : Int))
theorem prevP_lo {p : Int} (h1 : 1 ≤ p) : 1 ≤ prevP p := by unfold prevP; split <;> omega
theorem prevP_hi {p : Int} (h2 : p ≤ 12) : prevP p ≤ 12 := by unfold prevP; split <;> omega
theorem nextP_lo {p : Int} (h1 : 1 ≤ p) : 1 ≤ nextP p := by unfold nextP; split <;> omega
theorem nextP_hi {p : Int} (h2 : p ≤ 12) : nextP p ≤ 12 := by unfold nextP; split <;> omega
theorem num_of_next {y p d : Int} (h1 : 1 ≤ p) (h2 : p ≤ 12) : num (nextY y p) (nextP p) (d - len y p) = num y p d := by
  unfold nextY nextP
  by_cases h : p = 12
  · subst h; simp only [if_true]; exact num_nextY d
  · rw [if_neg h, if_neg h]; exact num_next d h1 (by omega)
theorem num_of_prev {y p d : Int} (h1 : 1 ≤ p) (h2 : p ≤ 12) : num (prevY y p) (prevP p) (d + len (prevY y p) (prevP p)) = num y p d := by
  unfold prevY prevP
  by_cases h : p = 1
  · subst h
    simp only [if_true]
    have e := num_nextY (y := y - 1) (d + len (y - 1) 12)
    rw [show y - 1 + 1 = y by omega, show d + len (y - 1) 12 - len (y - 1) 12 = d by omega] at e
    exact e.symm
  · rw [if_neg h, if_neg h]
    have e := num_next (y := y) (p := p - 1) (d + len y (p - 1)) (by omega) (by omega)
    rw [show p - 1 + 1 = p by omega, show d + len y (p - 1) - len y (p - 1) = d by omega] at e
    exact e.symm
theorem MI.start {y p d k : Int} (h : Ok y p d) (k1 : -200 ≤ k) (k2 : k ≤ 200) : MI (num y p d + k) 0 y p (d + k) := by
  obtain ⟨h1, h2, h3, h4⟩ := h
  have := len_hi y p
  exact ⟨h1, h2, num_lin .., by omega, by omega⟩
theorem MI.prev {n y p d : Int} {i : Nat} (h : MI n i y p d) (hd : d < 1) : MI n (i + 1) (prevY y p) (prevP p) (d + len (prevY y p) (prevP p)) := by
  obtain ⟨h1, h2, h3, h4, h5⟩ := h
  have := len_lo (prevY y p) (prevP p)
  exact ⟨prevP_lo h1, prevP_hi h2, (num_of_prev h1 h2).trans h3, by omega, by omega⟩
theorem MI.next {n y p d : Int} {i : Nat} (h : MI n i y p d) (hd : len y p < d) : MI n (i + 1) (nextY y p) (nextP p) (d - len y p) := by
  obtain ⟨h1, h2, h3, h4, h5⟩ := h
  have := len_lo y p
  exact ⟨nextP_lo h1, nextP_hi h2, (num_of_next h1 h2).trans h3, by omega, by omega⟩
theorem MI.same {n y p d : Int} {i : Nat} (h : MI n i y p d) (hd : ¬ d < 1) (hl : ¬ len y p < d) : MI n (i + 1) y p d := by
  obtain ⟨h1, h2, h3, h4, h5⟩ := h
  exact ⟨h1, h2, h3, by omega, by omega⟩
theorem MI.done {n y p d : Int} (h : MI n 8 y p d) : Ok y p d ∧ num y p d = n := by
  obtain ⟨h1, h2, h3, h4, h5⟩ := h
  have := len_lo y p
  exact ⟨⟨h1, h2, by omega, by omega⟩, h3⟩
theorem MI.doneR {n y p d b : Int} (h : MI n (rangeKs b 8).length y p d) : Ok y p d ∧ num y p d = n := by
  rw [rangeKs_length] at h
  exact h.done
theorem MI.lo {n y p d : Int} {i : Nat} (h : MI n i y p d) : 1 ≤ p := h.1
theorem MI.hi {n y p d : Int} {i : Nat} (h : MI n i y p d) : p ≤ 12 := h.2.1
section
variable {w : World} {mean : ExcName → Option Value} {mg mb : Str → Option Value} {dp un : Nat} {gd : Option (List Code)} {cn : Str} {cs : Scope} {a : Addr} {ccd : Value} {cl : List (Str × Addr)} {outer : List Env} {A₀ : Around} {base h₀ : Heap} {L : Addr} {m : Str → Option Value} {news : List (Addr × Obj)} {s : Shared} {Q E : Value → Shared → Prop}
local macro_rules | `(tactic| walk_at "mine at") => `(tactic| (refine' ⟨?a1, ?a2, ?a3, ?a4, ?a5, ?a6, ?a7, ?a8⟩; (case a1 => k_asm); (case a2 => k_asm); (case a3 => k_asm); (case a4 => k_asm); (case a5 => k_asm); (case a6 => first | exact rfl | assumption); (case a7 => ktr_room); (case a8 => ktr_units)))
local macro_rules | `(tactic| walk_at "mine sub") => `(tactic| (intro p9 hp9; repeat (first | exact hp9 | refine List.mem_cons_of_mem _ ?_ | refine List.mem_append.mpr (.inr ?_))))
local macro_rules | `(tactic| walk_at "mine news") => `(tactic| first | k_asm | (refine cb_drop (by assumption) ?_; walk_at "mine sub"))
local macro_rules | `(tactic| walk_at "mine lo") => `(tactic| first | assumption | exact MI.lo (by assumption) | exact prevP_lo (MI.lo (by assumption)))
local macro_rules | `(tactic| walk_at "mine hi") => `(tactic| first | assumption | exact MI.hi (by assumption) | exact prevP_hi (MI.hi (by assumption)))
local macro_rules | `(tactic| walk_at "call ref") => `(tactic| (k_here; (with_reducible show wpAny _ _ (call (Value.ref 36) [Value.int _ _, Value.int _ _]) _ _ _); k_dflt (refine' prevmonth_c _ _ _ _ ?kH ?_; (case kH => walk_at "mine at")); intro D' t9 u9 c9 h9 tk9 F' N' l1; (try dsimp only); (try k_lt l1); (try k_fold)))
local macro_rules | `(tactic| walk_at "call ref") => `(tactic| (k_here; (with_reducible show wpAny _ _ (call (Value.ref 43) [Value.int _ _, Value.int _ _]) _ _ _); k_dflt (refine' nextmonth_c _ _ _ _ ?kH ?_; (case kH => walk_at "mine at")); intro D' t9 u9 c9 h9 tk9 F' N' l1; (try dsimp only); (try k_lt l1); (try k_fold)))
local macro_rules | `(tactic| walk_at "call ref") => `(tactic| (k_here; (with_reducible show wpAny _ _ (call (Value.ref 64) [Value.int _ _, Value.int _ _]) _ _ _); k_dflt (refine' length_c _ _ _ _ ?k1 ?k2 ?kH ?_; (case k1 => walk_at "mine lo"); (case k2 => walk_at "mine hi"); (case kH => walk_at "mine at")); intro t9 h9 tk9 F9 N9; (try dsimp only); (try k_fold)))
theorem moved_c (D : Addr) (y p d k : Int) (t u v tk0 : Tok) (c : Nat) (hD : (D, tup3 y p d t u v c) ∈ news) (hok : Ok y p d) (hk1 : -200 ≤ k) (hk2 : k ≤ 200) (H : At w mean mg mb 3 dp un cs outer A₀ base h₀ L m news s.heap)
    (hret : ∀ (D : Addr) (y' p' d' : Int) (t u v : Tok) (c : Nat) (h' : Heap) (tk' : Nat), Ok y' p' d' → num y' p' d' = num y p d + k → Fr h₀ L h' m → News h₀ L h' ((D, tup3 y' p' d' t u v c) :: news) → AllLt D news → Q (.ref D) { s with heap := h', toks := tk' }) :
    wpAny (model PySem.Challenge.rw_sh0003_01.row.prog w) (ktrTop dp un gd cn cs L a ccd cl outer) (call (.ref 71) [.ref D, .int k tk0]) Q E s := by
  obtain ⟨B, F, X, N, T, hk, hd, hu⟩ := H
  k_with_none
  k_with "exec For Name Call cons nil" => kpr_for
  k_with "pyIter ref" => k_state_short (fun pre y1 p1 d1 => MI (num y p d + k) pre.length y1 p1 d1) "year" "place" "dayd"
  k_with "state" => (rw [List.length_nil]; exact MI.start hok hk1 hk2)
  k_with "state" => (rw [List.length_append, List.length_singleton]; first | exact MI.prev (by assumption) (by assumption) | exact MI.next (by assumption) (by assumption) | exact MI.same (by assumption) (by assumption) (by assumption))
  refine wpAny_call ?_
  k_dflt cell_enter
  k_steps
  all_goals (refine' ret3 hret ?r1 ?r2 ?r3 ?r4 ?r5; (case r1 => k_asm); (case r2 => k_asm); (case r3 => first | assumption | kcu_lt); (case r4 => walk_at "mine sub"); (case r5 => exact MI.doneR (by assumption)))
end
end L5T
section L6T
section
variable {w : World} {mean : ExcName → Option Value} {mg mb : Str → Option Value} {dp un : Nat} {gd : Option (List Code)} {cn : Str} {cs : Scope} {a : Addr} {ccd : Value} {cl : List (Str × Addr)} {outer : List Env} {A₀ : Around} {base h₀ : Heap} {L : Addr} {m : Str → Option Value} {news : List (Addr × Obj)} {s : Shared} {Q E : Value → Shared → Prop}
local macro_rules | `(tactic| walk_at "mine at") => `(tactic| (refine' ⟨?a1, ?a2, ?a3, ?a4, ?a5, ?a6, ?a7, ?a8⟩; (case a1 => k_asm); (case a2 => k_asm); (case a3 => k_asm); (case a4 => k_asm); (case a5 => k_asm); (case a6 => first | exact rfl | assumption); (case a7 => ktr_room); (case a8 => ktr_units)))
local macro_rules | `(tactic| walk_at "mine sub") => `(tactic| (intro p9 hp9; repeat (first | exact hp9 | refine List.mem_cons_of_mem _ ?_ | refine List.mem_append.mpr (.inr ?_))))
local macro_rules | `(tactic| walk_at "mine news") => `(tactic| first | k_asm | (refine cb_drop (by assumption) ?_; walk_at "mine sub"))
local macro_rules | `(tactic| walk_at "pyIter ref") => `(tactic| (k_here; (with_reducible show wpAny _ _ _ (fun it s₂ => PairAt3 _ _ _ _ _ _ _ _ _ _ it s₂) _ _); (with_unfolding_all refine' pair_list (ws₀ := []) (ms₀ := []) (c₀ := 0) (fun i ms => ms.length = min i 8) (PairSrcL.at (by assumption) _ rfl) ?ki ?kp ?_ ?_; (case ki => exact IntsAre.nil); (case kp => exact rfl)); (have hMk := kstMark); (first | (intro i9 a9 t9 u9 ws9 ms9 c9 h9 tk9 own9 hlt9 hp9 hi9 ho9 F9 N9) | (intro ws9 ms9 c9 h9 tk9 vi9 vl9 hp9 hi9 F9 N9)); (try dsimp only); (try k_fold)))
local macro_rules | `(tactic| walk_at "DrPost") => `(tactic| (dsimp only [DrPost]))
theorem drawn_a {i : Nat} {ms : List Int} {x : Int} (h : ms.length = min i 8) (h2 : (i : Int) < 8) : (ms ++ [x]).length = min (i + 1) 8 := by
  rw [List.length_append, List.length_singleton, h]; omega
theorem drawn_b {i : Nat} {ms : List Int} {x : Int} {j : Nat} (h : ms.length = min i 8) (h2 : ¬ (i : Int) < 8) : (ms.set j x).length = min (i + 1) 8 := by
  rw [List.length_set, h]; omega
theorem retL {ws : List Value} {ms : List Int} {k : Nat} {x : Int} {t : Tok} {h' : Heap} {tk' : Nat} {D : Addr} {c : Nat}
    (hret : ∀ (D : Addr) (ws : List Value) (ms : List Int) (c : Nat) (h' : Heap) (tk' : Nat), IntsAre ws ms → 1 ≤ ms.length → ms.length ≤ 9 → Fr h₀ L h' m → News h₀ L h' ((D, listOf ws.toArray c) :: news) → AllLt D news → Q (.ref D) { s with heap := h', toks := tk' })
    (F : Fr h₀ L h' m) (N : News h₀ L h' ((D, listOf (ws ++ [Value.int x t]).toArray c) :: news)) (hl : ∀ p ∈ news, p.1 < D) (hi : IntsAre ws ms) (h : ms.length = min k 8) : Q (.ref D) { s with heap := h', toks := tk' } := by
  refine hret D _ _ c h' tk' (hi.append (.cons x t .nil)) ?_ ?_ F N (allLt_of hl) <;> rw [List.length_append, List.length_singleton, h] <;> omega
local macro_rules | `(tactic| walk_at "DrEnd") => `(tactic| ((rename News _ _ _ _ => nE'); (try simp only [List.push_toArray] at nE'); (refine' DrEnd.intro (by assumption) nE' (List.mem_cons_self ..) ?e2 ?e3 ?e4 ?e5 ?e6; (case e2 => exact fun p hp => List.mem_cons_of_mem _ (List.mem_append.mpr (.inl hp))); (case e3 => exact fun p hp => List.mem_cons_of_mem _ (List.mem_append.mpr (.inr hp))); (case e4 => (intro z h1 h2; (simp only [if_neg h1, if_neg h2]))); (case e5 => first | assumption | exact IntsAre.append (by assumption) (.cons _ _ .nil)); (case e6 => first | exact drawn_a (by assumption) (by assumption) | exact drawn_b (by assumption) (by assumption)))))
theorem drawn_c (l : Addr) (vs : List Value) (ns : List Int) (hl : base.IsList l vs.toArray) (hi : IntsAre vs ns) (hn : ns.length ≤ 63) (H : At w mean mg mb 1 dp un cs outer A₀ base h₀ L m news s.heap)
    (hret : ∀ (D : Addr) (ws : List Value) (ms : List Int) (c : Nat) (h' : Heap) (tk' : Nat), IntsAre ws ms → 1 ≤ ms.length → ms.length ≤ 9 → Fr h₀ L h' m → News h₀ L h' ((D, listOf ws.toArray c) :: news) → AllLt D news → Q (.ref D) { s with heap := h', toks := tk' }) :
    wpAny (model PySem.Challenge.rw_sh0003_01.row.prog w) (ktrTop dp un gd cn cs L a ccd cl outer) (call (.ref 50) [.ref l]) Q E s := by
  obtain ⟨B, F, X, N, T, hk, hd, hu⟩ := H
  k_with_none
  refine wpAny_call ?_
  k_dflt cell_enter
  k_steps
  all_goals ((rename News _ _ _ _ => nE'); (try simp only [List.push_toArray] at nE'); exact retL hret (by assumption) nE' (by assumption) (by assumption) (by assumption))
end
end L6T
section L7T
abbrev LW (pre : List Int) (trip : List Dat) (stop : Dat) (n : Int) : Prop := trip.length = pre.length ∧ ∃ y p d, stop = stopD y p d ∧ Ok y p d ∧ num y p d = n ∧ TripD trip y p d
theorem dm_lo (x : Int) : -200 ≤ x.fmod 401 - 200 := by rw [fmod_is x (by decide)]; omega
theorem dm_hi (x : Int) : x.fmod 401 - 200 ≤ 200 := by rw [fmod_is x (by decide)]; omega
theorem stop_is {y p d y1 p1 d1 e k n : Int} (h2 : num y1 p1 d1 = num y p d + k) (h3 : num y p d = n) (h1 : Ok y1 p1 d1) : Ok (y1 + 400 * e) p1 d1 ∧ num (y1 + 400 * e) p1 d1 = n + (146097 * e + k) :=
  ⟨h1.eras e, by rw [num_eras, h2, h3]; omega⟩
theorem lw_step {pre : List Int} {x : Int} {ds : List Dat} {y p d e k y1 p1 d1 n : Int} (hl : ds.length = pre.length) (hT : TripD ds y p d) (h0 : Ok y p d) (h3 : num y p d = n) (h2 : num y1 p1 d1 = num y p d + k) (h1 : Ok y1 p1 d1) (k1 : -200 ≤ k) (k2 : k ≤ 200) :
    LW (pre ++ [x]) (ds ++ [Dat.tuple [stopD y p d, Dat.int e, Dat.int k]]) (stopD (y1 + 400 * e) p1 d1) (n + (146097 * e + k)) :=
  ⟨by simp [hl], _, _, _, rfl, h1.eras e, by rw [num_eras, h2, h3]; omega, .snoc hT h0 k1 k2 (by rw [num_eras, h2]; omega)⟩
theorem lw_start {y p d n : Int} (h1 : Ok y p d) (h2 : num y p d = n) : LW [] [] (stopD y p d) n := ⟨rfl, _, _, _, rfl, h1, h2, .nil ..⟩
section
variable {w : World} {mean : ExcName → Option Value} {mg mb : Str → Option Value} {dp un : Nat} {gd : Option (List Code)} {cn : Str} {cs : Scope} {a : Addr} {ccd : Value} {cl : List (Str × Addr)} {outer : List Env} {A₀ : Around} {base h₀ : Heap} {L : Addr} {m : Str → Option Value} {news : List (Addr × Obj)} {s : Shared} {Q E : Value → Shared → Prop}
theorem told_eq (n y p d : Int) (tn : Tok) (hw : Ok y p d ∧ num y p d = n) (H : At w mean mg mb 1 dp un cs outer A₀ base h₀ L m news s.heap)
    (hret : ∀ (D : Addr) (t u v : Tok) (c : Nat) (h' : Heap) (tk' : Nat), Ok y p d → num y p d = n → Fr h₀ L h' m → News h₀ L h' ((D, tup3 y p d t u v c) :: news) → AllLt D news → Q (.ref D) { s with heap := h', toks := tk' }) :
    wpAny (model PySem.Challenge.rw_sh0003_01.row.prog w) (ktrTop dp un gd cn cs L a ccd cl outer) (call (.ref 57) [.int n tn]) Q E s := by
  refine told_c n tn H fun D y' p' d' t u v c h' tk' hok hn F N hl => ?_
  obtain ⟨e1, e2, e3⟩ := ok_inj hok hw.1 (hn.trans hw.2.symm)
  subst e1; subst e2; subst e3
  exact hret D t u v c h' tk' hok hn F N hl
end
local macro_rules | `(tactic| walk_at "mine at") => `(tactic| (refine' ⟨?a1, ?a2, ?a3, ?a4, ?a5, ?a6, ?a7, ?a8⟩; (case a1 => k_asm); (case a2 => k_asm); (case a3 => k_asm); (case a4 => k_asm); (case a5 => k_asm); (case a6 => first | exact rfl | assumption); (case a7 => ktr_room); (case a8 => ktr_units)))
local macro_rules | `(tactic| walk_at "call ref") => `(tactic| (k_here; (with_reducible show wpAny _ _ (call (Value.ref 50) [Value.ref _]) _ _ _); k_dflt (refine' drawn_c _ _ _ ?k1 ?k2 ?k3 ?kH ?_; (case k1 => k_asm); (case k2 => assumption); (case k3 => first | assumption | omega); (case kH => walk_at "mine at")); intro D' ws9 ms9 c9 h9 tk9 hi9 hlo9 hhi9 F' N' l1; (try dsimp only); (try k_lt l1); (try k_fold)))
local macro_rules | `(tactic| walk_at "call ref") => `(tactic| (k_here; (with_reducible show wpAny _ _ (call (Value.ref 57) [Value.int _ _]) _ _ _); k_dflt (refine' told_c _ _ ?kH ?_; (case kH => walk_at "mine at")); intro D' y9 p9 d9 t9 u9 v9 c9 h9 tk9 hok9 hnum9 F' N' l1; (try dsimp only); (try k_lt l1); (try k_fold)))
local macro_rules | `(tactic| walk_at "call ref") => `(tactic| (k_here; (with_reducible show wpAny _ _ (call (Value.ref 57) [Value.int _ _]) _ _ _); k_dflt (refine' told_eq _ _ _ _ _ (stop_is ?k1 ?k2 ?k3) ?kH ?_; (case k1 => assumption); (case k2 => assumption); (case k3 => assumption); (case kH => walk_at "mine at")); intro D' t9 u9 v9 c9 h9 tk9 hok9 hnum9 F' N' l1; (try dsimp only); (try k_lt l1); (try k_fold)))
local macro_rules | `(tactic| walk_at "call ref") => `(tactic| (k_here; (with_reducible show wpAny _ _ (call (Value.ref 71) [Value.ref _, Value.int _ _]) _ _ _); k_dflt (refine' moved_c _ _ _ _ _ _ _ _ _ _ ?kD ?ko ?k1 ?k2 ?kH ?_; (case kH => walk_at "mine at"); (case kD => k_mem); (case ko => assumption); (case k1 => first | exact dm_lo _ | omega); (case k2 => first | exact dm_hi _ | omega)); intro D' y9 p9 d9 t9 u9 v9 c9 h9 tk9 hok9 hnum9 F' N' l1; (try dsimp only); (try k_lt l1); (try k_fold)))
local macro_rules | `(tactic| walk_at "call ref") => `(tactic| (k_here; (with_reducible show wpAny _ _ (call (Value.ref 78) [Value.ref _]) _ _ _); k_dflt (refine' numbered_c _ _ _ _ _ _ _ _ ?kD ?ko ?kH ?_; (case kH => walk_at "mine at"); (case kD => k_mem); (case ko => assumption)); intro t9 h9 tk9 F9 N9; (try dsimp only); (try k_fold)))
theorem news_lt {h₀ h : Heap} {L : Addr} {news : List (Addr × Obj)} (N : News h₀ L h news) : ∀ p ∈ news, p.1 < h.objs.size := fun p hp => Heap.lt_size (N p hp).1
local macro_rules | `(tactic| walk_at "call builtin:divmod") => `(tactic| ((with_reducible show wpAny _ _ (call (Value.builtin _) [Value.int _ _, Value.int _ _]) _ _ _); (rename News _ _ _ _ => nD9); (have l1 := news_lt nD9); (k_lt l1); (refine divmod_N (by assumption) (by assumption) (by side_arith) ?_); intro _ _ _))
local macro_rules | `(tactic| walk_at "call builtin:list.append") => `(tactic| (k_here; (with_reducible show wpAny _ _ (call (Value.builtin _) [Value.ref _, _]) _ _ _); k_dflt (refine' append_K ?k1 ?k2 ?k3 ?_ ?z; (case k1 => k_asm); (case k2 => k_asm); (case k3 => k_upd); (case z => (rw [List.size_toArray, PySem.sizeLine_eq]; omega)); k_whole); intro h' F' N'; (try k_sweep)))
local macro_rules | `(tactic| walk_at "pyIter ref") => `(tactic| (k_here; k_dat (fun (pre : List Int) trip stop n => LW pre trip stop n) "trip*" "stop*" "number"))
theorem ok_back {y p d : Int} (e : Int) (h : Ok y p d) : Ok (y - 400 * e) p d := by
  have := h.eras (-e)
  rwa [show y + 400 * -e = y - 400 * e by omega] at this
theorem back_is {y p d y0 p0 d0 e k : Int} (h : num y p d = num y0 p0 d0 + (146097 * e + k)) (h0 : Ok y0 p0 d0) : Ok y0 p0 d0 ∧ num y0 p0 d0 = num (y - 400 * e) p d + -k := by
  refine ⟨h0, ?_⟩
  have := num_eras y p d (-e)
  rw [show y + 400 * -e = y - 400 * e by omega] at this
  omega
section
variable {w : World} {mean : ExcName → Option Value} {mg mb : Str → Option Value} {dp un : Nat} {gd : Option (List Code)} {cn : Str} {cs : Scope} {a : Addr} {ccd : Value} {cl : List (Str × Addr)} {outer : List Env} {A₀ : Around} {base h₀ : Heap} {L : Addr} {m : Str → Option Value} {news : List (Addr × Obj)} {s : Shared} {Q E : Value → Shared → Prop}
theorem moved_eq (D : Addr) (y p d k y0 p0 d0 : Int) (t u v tk0 : Tok) (c : Nat) (hD : (D, tup3 y p d t u v c) ∈ news) (hok : Ok y p d) (hk1 : -200 ≤ k) (hk2 : k ≤ 200) (hw : Ok y0 p0 d0 ∧ num y0 p0 d0 = num y p d + k) (H : At w mean mg mb 3 dp un cs outer A₀ base h₀ L m news s.heap)
    (hret : ∀ (D : Addr) (t u v : Tok) (c : Nat) (h' : Heap) (tk' : Nat), Fr h₀ L h' m → News h₀ L h' ((D, tup3 y0 p0 d0 t u v c) :: news) → AllLt D news → Q (.ref D) { s with heap := h', toks := tk' }) :
    wpAny (model PySem.Challenge.rw_sh0003_01.row.prog w) (ktrTop dp un gd cn cs L a ccd cl outer) (call (.ref 71) [.ref D, .int k tk0]) Q E s := by
  refine moved_c D y p d k t u v tk0 c hD hok hk1 hk2 H fun D y' p' d' t u v c h' tk' hok' hn F N hl => ?_
  obtain ⟨e1, e2, e3⟩ := ok_inj hok' hw.1 (hn.trans hw.2.symm)
  subst e1; subst e2; subst e3
  exact hret D t u v c h' tk' F N hl
end
section
variable {prog : Program} {w : World} {A : Around} {E : Value → Shared → Prop} {s : Shared} {h₀ : Heap} {L Tr : Addr} {m : Str → Option Value} {tl : List (Addr × Obj)} {ws : List Value} {x : Value} {n : Nat}
theorem truthy_snoc {Q : Bool → Shared → Prop} (N : News h₀ L s.heap ((Tr, listOf (List.toArray (ws ++ [x])) n) :: tl)) (hl : ws.length ≤ 8) (h : Q true { s with toks := s.toks + 1 + 1 }) : wpAny (model prog w) A (truthy (.ref Tr)) Q E s := by
  refine kgr_truthy N (List.mem_cons_self ..) rfl rfl (by rw [List.length_append, List.length_singleton]; omega) ?_
  have e : (!(ws ++ [x]).isEmpty) = true := by cases ws <;> rfl
  rw [e]; exact h
theorem truthy_none {Q : Bool → Shared → Prop} (N : News h₀ L s.heap ((Tr, listOf (List.toArray []) n) :: tl)) (h : Q false { s with toks := s.toks + 1 + 1 }) : wpAny (model prog w) A (truthy (.ref Tr)) Q E s := by
  refine kgr_truthy N (List.mem_cons_self ..) rfl rfl (by decide) ?_
  exact h
theorem pop_snoc {Q : Value → Shared → Prop} (F : Fr h₀ L s.heap m) (N : News h₀ L s.heap ((Tr, listOf (List.toArray (ws ++ [x])) n) :: tl)) (h3 : ∀ q ∈ tl, q.1 ≠ Tr) (hl : ws.length ≤ 8)
    (h : ∀ h', Fr h₀ L h' m → News h₀ L h' ((Tr, listOf (List.toArray ws) (n + 1)) :: tl) → Q x { s with heap := h' }) : wpAny (model prog w) A (call (.builtin "list.pop") [.ref Tr]) Q E s := by
  refine kl_pop F N (p := ws) (y := x) (kpa_last x ws) (Upd.head h3) ?_ h
  rw [PySem.sizeLine_eq]
  show (ws ++ [x]).length ≤ _
  rw [List.length_append, List.length_singleton]; omega
end
local macro_rules | `(tactic| walk_at "truthy ref") => `(tactic| (k_here; (with_reducible show wpAny _ _ (truthy (Value.ref _)) _ _ _); first | (k_dflt (refine' truthy_snoc ?k1 ?k2 ?_; (case k1 => k_asm); (case k2 => assumption))) | (k_dflt (refine' truthy_none ?k1 ?_; (case k1 => k_asm)))))
local macro_rules | `(tactic| walk_at "call builtin:list.pop") => `(tactic| (k_here; (with_reducible show wpAny _ _ (call (Value.builtin _) [Value.ref _]) _ _ _); k_dflt (refine' pop_snoc ?k1 ?k2 ?k3 ?k4 ?_; (case k1 => k_asm); (case k2 => k_asm); (case k3 => assumption); (case k4 => assumption)); intro h' F' N'; (try k_sweep)))
local macro_rules | `(tactic| walk_at "call ref") => `(tactic| (k_here; (with_reducible show wpAny _ _ (call (Value.ref 71) [Value.ref _, Value.int (-_) _]) _ _ _); k_dflt (refine' moved_eq _ _ _ _ _ _ _ _ _ _ _ _ _ ?kD ?ko ?k1 ?k2 ?kw ?kH ?_; (case kH => walk_at "mine at"); (case kD => k_mem); (case ko => exact ok_back _ (by assumption)); (case kw => exact back_is (by assumption) (by assumption)); (case k1 => omega); (case k2 => omega)); intro D' t9 u9 v9 c9 h9 tk9 F' N' l1; (try dsimp only); (try k_lt l1); (try k_fold)))
local macro_rules | `(tactic| walk_at "exec While Name") => `(tactic| (k_here; (rename Fr _ _ _ _ => lF'); (rename News _ _ _ _ => lN'); (rename TripD _ _ _ _ => lT'); (rename DatAll _ _ _ => lD'); (with_unfolding_all refine' trip_while (Str.ofString "stop") [Str.ofString "before", Str.ofString "eras", Str.ofString "days", Str.ofString "year", Str.ofString "place", Str.ofString "dayd"] lF' lN' ?h3 lD' lT' ?h6 ?h7 ?h8 ?h9 ?_ ?_ ?hE); (case h3 => k_all); (case h6 => assumption); (case h7 => assumption); (case h8 => omega); (case h9 => with_unfolding_all rfl); (case hE => first | passes_own | with_unfolding_all passes_own); (first | (intro tl9 n9 a9 f9 h9 tk9 F9 N9) | skip); (all_goals (try k_fold))))
local macro_rules | `(tactic| walk_at "forall") => `(tactic| (k_here; (with_reducible show ∀ (_ : List (Addr × Obj)) (_ : Nat) (_ : Addr), _); intro tl9 n9 a9 f9 h9 tk9 F9 N9; (have kM1 := kstMark); (have kM2 := kdMark); (try dsimp only); (try k_fold)))
local macro_rules | `(tactic| walk_at "forall") => `(tactic| (k_here; (with_reducible show ∀ (_ : List (Addr × Obj)) (_ : List Value) (_ : List Dat), _); intro tl9 ws9 ds9 n9 a9 y9 p9 d9 t9 u9 v9 c9 i9 e9 k9 t91 t92 c91 j9 y90 p90 d90 t93 u93 v93 c93 f9 h9 tk9 F9 N9 g91 g92 g93 g94 g95 g96 g97 g98 g99 g90 g89 g88; (have kM1 := kstMark); (have kM2 := kdMark); (try dsimp only); (try k_fold)))
theorem tw_close {h₀ : Heap} {L : Addr} {s : Shared} {Tr D B : Addr} {ob : Obj} {sn : Str} {stored : List Str} {m₀ m' : Str → Option Value} {h' : Heap} {tk : Nat} {tl : List (Addr × Obj)} {ws : List Value} {ds : List Dat} {n : Nat} {y p d : Int} {t u v : Tok} {c : Nat}
    (F : Fr h₀ L h' m') (N : News h₀ L h' ((D, tup3 y p d t u v c) :: (B, ob) :: (Tr, listOf (List.toArray ws) n) :: tl)) (h3 : ∀ q ∈ tl, q.1 ≠ Tr) (hD : AllLt D ((B, ob) :: (Tr, listOf (List.toArray ws) n) :: tl)) (h4 : DatAll tl ws ds) (h5 : TripD ds y p d) (h6 : Ok y p d) (h8 : ws.length ≤ 8) (h9 : m' sn = some (.ref D)) (h10 : ∀ z, z ≠ sn → stored.contains z = false → m' z = m₀ z) :
    TwEnd h₀ L s Tr sn stored m₀ (ws.length + 1) { s with heap := h', toks := tk } := by
  refine TwEnd.intro (tl := (D, tup3 y p d t u v c) :: tl) F N (.tail _ (.tail _ (.head _))) ?_ ?_ (DatAll.mono (fun q hq => .tail _ hq) h4) h5 h6 (.head _) (by omega) h9 h10 (Nat.lt_succ_self _)
  · intro q hq
    rcases List.mem_cons.mp hq with rfl | hq
    · exact .head _
    · exact .tail _ (.tail _ (.tail _ hq))
  · intro q hq
    rcases List.mem_cons.mp hq with rfl | hq
    · exact Nat.ne_of_gt hD.2.1
    · exact h3 q hq
local macro_rules | `(tactic| walk_at "TwEnd") => `(tactic| ((rename News _ _ _ _ => nE'); (refine' tw_close ?e1 nE' ?e3 ?e4 ?e5 ?e6 ?e7 ?e8 ?e9 ?e10; (case e1 => assumption); (case e3 => assumption); (case e4 => assumption); (case e5 => assumption); (case e6 => assumption); (case e7 => assumption); (case e8 => assumption); (case e9 => with_unfolding_all rfl); (case e10 => ksw_same))))
local macro_rules | `(tactic| walk_at "TwPost") => `(tactic| (dsimp only [TwPost]))
theorem walk_law : PySem.Challenge.rw_sh0003_01.Holds := hd (by
  k_with_none
  k_with "state" => exact lw_start (by assumption) (by assumption)
  k_with "state" => exact lw_step (by assumption) (by assumption) (by assumption) (by assumption) (by assumption) (by assumption) (dm_lo _) (dm_hi _)
  k_go0
  all_goals try k_fold
  k_steps)
end L7T
end Mine
theorem PySem.Challenge.cw_sh0003_01_holds : PySem.Challenge.rw_sh0003_01.Holds := by
  exact Mine.walk_law
