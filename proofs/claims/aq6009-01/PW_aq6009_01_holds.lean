import PyProof.Rows.All
import Wide.All
import OpenK.AllK
import Wide.FinOn
import PySem.Challenge.RW_aq6009_01
open PySem PySem.W PySem.Spec PySem.Calls PyProof.Rows
set_option Elab.async false
set_option maxRecDepth 100000
/-! The law is walked once a function: each function's answer is a plain function of its arguments (a contract, `Ctr`), and what those answers say is shown apart, in plain arithmetic. -/
namespace Mine

section
/-! ## the plain functions -/
def isleap (y : Int) : Bool := decide (y.fmod 4 = 0) && (decide (y.fmod 100 ≠ 0) || decide (y.fmod 400 = 0))
/-- the day number of 1 January -/
def jan1 (y : Int) : Int := 1721425 + 365 * (y - 1) + (y - 1).fdiv 4 - (y - 1).fdiv 100 + (y - 1).fdiv 400 + 1
/-- of 31 December -/
def dec31 (y : Int) : Int := 1721425 + 365 * (y - 1) + (y - 1).fdiv 4 - (y - 1).fdiv 100 + (y - 1).fdiv 400 + (if isleap y then 366 else 365)
def ijd (y mo d : Int) : Int := d + -((-59 * (mo - 1)).fdiv 2) + (y - 1) * 354 + (3 + 11 * y).fdiv 30 + 1948440 - 1
def fyear (jd : Int) : Int := (30 * (jd - 1948440) + 10646).fdiv 10631
def fmon (jd : Int) : Int := if -((-2 * (jd - (29 + ijd (fyear jd) 1 1))).fdiv 59) + 1 < 12 then -((-2 * (jd - (29 + ijd (fyear jd) 1 1))).fdiv 59) + 1 else 12
def fday (jd : Int) : Int := jd - ijd (fyear jd) (fmon jd) 1 + 1
def gyear (y mo d : Int) : Int := ijd (if fmon (jan1 y) > mo then fyear (jan1 y) + 1 else fyear (jan1 y)) mo d
def ljan (y : Int) : Int := 1721426 + 146097 * (y - 1).fdiv 400 + 365 * (y - 1).fmod 400 + ((y - 1).fmod 400).fdiv 4 - ((y - 1).fmod 400).fdiv 100
/-- the long years among the first `past` + 1 of a cycle -/
def longs (past : Int) : Int := ((([2, 5, 7, 10, 13, 16, 18, 21, 24, 26, 29] : List Int).filter (fun x => decide (x ≤ past))).length : Int)
def lstart (y : Int) : Int := 1948440 + 10631 * (y - 1).fdiv 30 + 354 * (y - 1).fmod 30 + longs ((y - 1).fmod 30)
def pcnt (n : Int) : Int := (n - 1948440).fmod 10631
def ppast0 (n : Int) : Int := (pcnt n).fdiv 355
def pcnt1 (n : Int) : Int := pcnt n - (354 * ppast0 n + longs (ppast0 n))
def psize (n : Int) : Int := if ([2, 5, 7, 10, 13, 16, 18, 21, 24, 26, 29] : List Int).any (· == ppast0 n + 1) then 355 else 354
def pcnt2 (n : Int) : Int := if pcnt1 n ≥ psize n then pcnt1 n - psize n else pcnt1 n
def ppast (n : Int) : Int := if pcnt1 n ≥ psize n then ppast0 n + 1 else ppast0 n
def pyear (n : Int) : Int := 30 * (n - 1948440).fdiv 10631 + ppast n + 1
/-- the month of a day of the year -/
def mclip (c : Int) : Int := if -((-2 * (c - 29)).fdiv 59) + 1 < 12 then -((-2 * (c - 29)).fdiv 59) + 1 else 12
def pmon (n : Int) : Int := mclip (pcnt2 n)
/-- new years of the Gregorian year -/
def told1 (y : Int) (k : Int) : Int := fyear (dec31 (y + k)) - fyear (dec31 (y + k - 1))
end

section
theorem fd (a : Int) {b : Int} (hb : 0 ≤ b) : a.fdiv b = a / b := Int.fdiv_eq_ediv_of_nonneg a hb
theorem fm (a : Int) {b : Int} (hb : 0 ≤ b) : a.fmod b = a % b := Int.fmod_eq_emod_of_nonneg a hb

/-! ### the Gregorian count -/
theorem isleap_iff (y : Int) : isleap y = true ↔ (y % 4 = 0 ∧ (y % 100 ≠ 0 ∨ y % 400 = 0)) := by
  simp only [isleap, fm _ (show (0 : Int) ≤ 4 by decide), fm _ (show (0 : Int) ≤ 100 by decide), fm _ (show (0 : Int) ≤ 400 by decide), Bool.and_eq_true, Bool.or_eq_true, decide_eq_true_eq]
theorem dec31_eq (y : Int) : dec31 y = 1721425 + 365 * y + y / 4 - y / 100 + y / 400 := by
  unfold dec31
  simp only [fd _ (show (0 : Int) ≤ 4 by decide), fd _ (show (0 : Int) ≤ 100 by decide), fd _ (show (0 : Int) ≤ 400 by decide)]
  by_cases h : isleap y = true
  · rw [if_pos h]
    have := (isleap_iff y).mp h
    omega
  · rw [if_neg h]
    have := mt (isleap_iff y).mpr h
    omega
theorem jan1_eq (y : Int) : jan1 y = dec31 (y - 1) + 1 := by
  rw [dec31_eq]
  unfold jan1
  simp only [fd _ (show (0 : Int) ≤ 4 by decide), fd _ (show (0 : Int) ≤ 100 by decide), fd _ (show (0 : Int) ≤ 400 by decide)]
theorem ljan_eq (y : Int) : ljan y = dec31 (y - 1) + 1 := by
  rw [dec31_eq]
  unfold ljan
  simp only [fd _ (show (0 : Int) ≤ 4 by decide), fd _ (show (0 : Int) ≤ 100 by decide), fd _ (show (0 : Int) ≤ 400 by decide), fm _ (show (0 : Int) ≤ 400 by decide)]
  omega

/-! ### the Islamic count -/
theorem longs_eq (p : Int) (h0 : 0 ≤ p) (h1 : p ≤ 29) : longs p = (14 + 11 * p) / 30 := by
  obtain ⟨k, rfl⟩ := Int.eq_ofNat_of_zero_le h0
  have hk : k < 30 := by omega
  have : ∀ k : Fin 30, longs (k.val : Int) = (14 + 11 * (k.val : Int)) / 30 := by decide +kernel
  exact this ⟨k, hk⟩
theorem any_iff (p : Int) (h0 : 0 ≤ p) (h1 : p ≤ 29) : (([2, 5, 7, 10, 13, 16, 18, 21, 24, 26, 29] : List Int).any (· == p + 1)) = decide ((14 + 11 * (p + 1)) / 30 = (14 + 11 * p) / 30 + 1) ∨ p = 29 := by
  obtain ⟨k, rfl⟩ := Int.eq_ofNat_of_zero_le h0
  have hk : k < 30 := by omega
  have : ∀ k : Fin 30, (([2, 5, 7, 10, 13, 16, 18, 21, 24, 26, 29] : List Int).any (· == (k.val : Int) + 1)) = decide ((14 + 11 * ((k.val : Int) + 1)) / 30 = (14 + 11 * (k.val : Int)) / 30 + 1) ∨ (k.val : Int) = 29 := by decide +kernel
  exact this ⟨k, hk⟩
theorem psize_eq (n : Int) (h0 : 0 ≤ ppast0 n) (h1 : ppast0 n ≤ 29) : ppast0 n = 29 ∧ psize n = 354 ∨ ppast0 n ≤ 28 ∧ psize n = 354 + ((14 + 11 * (ppast0 n + 1)) / 30 - (14 + 11 * ppast0 n) / 30) := by
  unfold psize
  rcases any_iff (ppast0 n) h0 h1 with h | h
  · rw [h]
    by_cases h29 : ppast0 n = 29
    · rw [h29]; decide
    · right
      refine ⟨by omega, ?_⟩
      by_cases hc : (14 + 11 * (ppast0 n + 1)) / 30 = (14 + 11 * ppast0 n) / 30 + 1
      · rw [if_pos (decide_eq_true hc)]; omega
      · rw [if_neg (by simp [hc])]; omega
  · left; rw [h]; decide
theorem place_all (n : Int) : 0 ≤ ppast n ∧ ppast n ≤ 29 ∧ 0 ≤ pcnt2 n ∧ n = 1948440 + 10631 * ((n - 1948440) / 10631) + 354 * ppast n + (14 + 11 * ppast n) / 30 + pcnt2 n ∧ pcnt2 n < 354 + ((14 + 11 * (ppast n + 1)) / 30 - (14 + 11 * ppast n) / 30) := by
  have hc : pcnt n = (n - 1948440) % 10631 := fm _ (by decide)
  have hp : ppast0 n = pcnt n / 355 := fd _ (by decide)
  have h0 : 0 ≤ ppast0 n := by omega
  have h1 : ppast0 n ≤ 29 := by omega
  have hl := longs_eq (ppast0 n) h0 h1
  have hs := psize_eq n h0 h1
  have hc1 : pcnt1 n = pcnt n - (354 * ppast0 n + longs (ppast0 n)) := rfl
  have hc2 : pcnt2 n = if pcnt1 n ≥ psize n then pcnt1 n - psize n else pcnt1 n := rfl
  have hpp : ppast n = if pcnt1 n ≥ psize n then ppast0 n + 1 else ppast0 n := rfl
  generalize ppast0 n = P at *
  generalize psize n = S at *
  by_cases hb : pcnt1 n ≥ S
  · rw [if_pos hb] at hc2 hpp
    rw [hpp]
    omega
  · rw [if_neg hb] at hc2 hpp
    rw [hpp]
    omega
theorem ijd1 (y : Int) : ijd y 1 1 = (y - 1) * 354 + (3 + 11 * y) / 30 + 1948440 := by
  unfold ijd
  simp only [fd _ (show (0 : Int) ≤ 30 by decide), fd _ (show (0 : Int) ≤ 2 by decide)]
  omega
theorem pyear_eq (n : Int) : pyear n = fyear n := by
  obtain ⟨h0, h1, h2, h3, h4⟩ := place_all n
  unfold pyear fyear
  rw [fd _ (show (0 : Int) ≤ 10631 by decide), fd _ (show (0 : Int) ≤ 10631 by decide)]
  generalize ppast n = P at *
  generalize pcnt2 n = C at *
  have hq : (n - 1948440) / 10631 = (n - 1948440) / 10631 := rfl
  generalize (n - 1948440) / 10631 = q at *
  subst h3
  omega
theorem day_eq (n : Int) : n - (29 + ijd (fyear n) 1 1) = pcnt2 n - 29 := by
  rw [← pyear_eq, ijd1]
  obtain ⟨h0, h1, h2, h3, h4⟩ := place_all n
  unfold pyear
  rw [fd _ (show (0 : Int) ≤ 10631 by decide)]
  generalize ppast n = P at *
  generalize pcnt2 n = C at *
  generalize (n - 1948440) / 10631 = q at *
  omega
theorem fmon_eq (n : Int) : fmon n = mclip (pcnt2 n) := by
  unfold fmon
  rw [day_eq]
  rfl
theorem acc_eq (c k : Int) (hk : 1 ≤ k) : accUp (fun (k x : Int) => x - (29 + k.fmod 2)) 1 c k = c - (29 * (k - 1) + k / 2) := by
  refine accUp_eq (P := fun k => c - (29 * (k - 1) + k / 2)) hk (by simp) (fun j h1 _ => ?_)
  simp only [fm _ (show (0 : Int) ≤ 2 by decide)]
  omega
theorem month_eq (c k : Int) (h0 : 0 ≤ c) (hk : 1 ≤ k)
    (hj : ∀ j : Int, 1 ≤ j → j < k → (if j < 12 then if 29 + j.fmod 2 ≤ accUp (fun (k x : Int) => x - (29 + k.fmod 2)) 1 c j then true else false else false) = true)
    (hn : (if k < 12 then if 29 + k.fmod 2 ≤ accUp (fun (k x : Int) => x - (29 + k.fmod 2)) 1 c k then true else false else false) = false) : k = mclip c := by
  rw [acc_eq c k hk, fm _ (show (0 : Int) ≤ 2 by decide)] at hn
  unfold mclip
  rw [fd _ (show (0 : Int) ≤ 59 by decide)]
  by_cases h1 : k = 1
  · subst h1
    simp at hn
    split <;> omega
  · have h2 := hj (k - 1) (by omega) (by omega)
    rw [acc_eq c (k - 1) (by omega), fm _ (show (0 : Int) ≤ 2 by decide)] at h2
    simp only [Bool.if_false_right, Bool.and_true, Bool.and_eq_true, decide_eq_true_eq] at h2
    simp only [Bool.if_false_right, Bool.and_true, Bool.and_eq_false_iff, decide_eq_false_iff_not] at hn
    split <;> omega
theorem psize_t {n : Int} (h : ([2, 5, 7, 10, 13, 16, 18, 21, 24, 26, 29] : List Int).any (· == ppast0 n + 1) = true) : psize n = 355 := if_pos h
theorem psize_f {n : Int} (h : ([2, 5, 7, 10, 13, 16, 18, 21, 24, 26, 29] : List Int).any (· == ppast0 n + 1) = false) : psize n = 354 := if_neg (by rw [h]; decide)
theorem place_hi {n k S : Int} (hs : psize n = S) (hc : S ≤ pcnt1 n) (hk : 1 ≤ k)
    (hj : ∀ j : Int, 1 ≤ j → j < k → (if j < 12 then if 29 + j.fmod 2 ≤ accUp (fun (k x : Int) => x - (29 + k.fmod 2)) 1 (pcnt1 n - S) j then true else false else false) = true)
    (hn : (if k < 12 then if 29 + k.fmod 2 ≤ accUp (fun (k x : Int) => x - (29 + k.fmod 2)) 1 (pcnt1 n - S) k then true else false else false) = false) :
    30 * (n - 1948440).fdiv 10631 + (ppast0 n + 1) + 1 = pyear n ∧ k = pmon n := by
  have h2 : pcnt2 n = pcnt1 n - S := by unfold pcnt2; rw [hs, if_pos hc]
  have hp : ppast n = ppast0 n + 1 := by unfold ppast; rw [hs, if_pos hc]
  refine ⟨by unfold pyear; rw [hp], ?_⟩
  unfold pmon
  rw [h2]
  exact month_eq _ _ (h2 ▸ (place_all n).2.2.1) hk hj hn
theorem place_lo {n k S : Int} (hs : psize n = S) (hc : ¬ S ≤ pcnt1 n) (hk : 1 ≤ k)
    (hj : ∀ j : Int, 1 ≤ j → j < k → (if j < 12 then if 29 + j.fmod 2 ≤ accUp (fun (k x : Int) => x - (29 + k.fmod 2)) 1 (pcnt1 n) j then true else false else false) = true)
    (hn : (if k < 12 then if 29 + k.fmod 2 ≤ accUp (fun (k x : Int) => x - (29 + k.fmod 2)) 1 (pcnt1 n) k then true else false else false) = false) :
    30 * (n - 1948440).fdiv 10631 + ppast0 n + 1 = pyear n ∧ k = pmon n := by
  have h2 : pcnt2 n = pcnt1 n := by unfold pcnt2; rw [hs, if_neg hc]
  have hp : ppast n = ppast0 n := by unfold ppast; rw [hs, if_neg hc]
  refine ⟨by unfold pyear; rw [hp], ?_⟩
  unfold pmon
  rw [h2]
  exact month_eq _ _ (h2 ▸ (place_all n).2.2.1) hk hj hn
theorem lstart_eq (y : Int) : lstart y = ijd y 1 1 := by
  rw [ijd1]
  unfold lstart
  rw [fd _ (show (0 : Int) ≤ 30 by decide), fm _ (show (0 : Int) ≤ 30 by decide), longs_eq _ (by omega) (by omega)]
  omega
theorem ijd_eq (y mo d : Int) : ijd y mo d = lstart y + 29 * (mo - 1) + mo.fdiv 2 + d - 1 := by
  rw [lstart_eq, ijd1]
  unfold ijd
  simp only [fd _ (show (0 : Int) ≤ 30 by decide), fd _ (show (0 : Int) ≤ 2 by decide)]
  omega
end

section
/-- new years in the Gregorian year z -/
def toldY (z : Int) : Int := fyear (dec31 z) - fyear (dec31 (z - 1))
theorem told1_eq (y k : Int) : told1 y k = toldY (y + k) := rfl
theorem fyear_eq (n : Int) : fyear n = (30 * (n - 1948440) + 10646) / 10631 := fd _ (by decide)
/-- the count in thirtieths of a day -/
def gg (z : Int) : Int := 30 * (1721425 + 365 * z + z / 4 - z / 100 + z / 400 - 1948440) + 10646
theorem fy_gg (z : Int) : fyear (dec31 z) = gg z / 10631 := by rw [fyear_eq, dec31_eq]; rfl
theorem gg_step (z : Int) : gg (z - 1) + 10950 ≤ gg z ∧ gg z ≤ gg (z - 1) + 10980 := by unfold gg; omega
theorem toldY_12 (z : Int) : toldY z = 1 ∨ toldY z = 2 := by
  unfold toldY
  rw [fy_gg, fy_gg]
  have := gg_step z
  generalize gg z = a at *
  generalize gg (z - 1) = b at *
  omega
/-- few doubles: what a window of at most 33 steps adds -/
theorem gg_hi (z m : Int) (h0 : 0 ≤ m) (h1 : m ≤ 32) : gg (z + m) ≤ gg z + 10631 * m + 10631 := by unfold gg; omega
theorem gg_lo (z : Int) : gg z + 10631 * 34 ≤ gg (z + 33) := by unfold gg; omega
/-- the sum of the counts over a window -/
theorem told_sum (z : Int) (n : Nat) (hall : ∀ j : Int, 1 ≤ j → j ≤ n → toldY (z + j) = 1) : gg (z + n) / 10631 = gg z / 10631 + n := by
  induction n with
  | zero => simp
  | succ n ih =>
    have h1 := ih fun j h1 h2 => hall j h1 (by omega)
    have h2 := hall (n + 1) (by omega) (by omega)
    unfold toldY at h2
    rw [fy_gg, fy_gg] at h2
    have e : z + ((n : Int) + 1) - 1 = z + n := by omega
    rw [e] at h2
    have e2 : (((n + 1 : Nat) : Int)) = (n : Int) + 1 := by omega
    rw [e2]
    omega
theorem told_ge (z : Int) (n : Nat) : gg z / 10631 + n ≤ gg (z + n) / 10631 := by
  induction n with
  | zero => simp
  | succ n ih =>
    have h2 := toldY_12 (z + n + 1)
    unfold toldY at h2
    rw [fy_gg, fy_gg] at h2
    have e : z + (n : Int) + 1 - 1 = z + n := by omega
    rw [e] at h2
    have e2 : z + (((n + 1 : Nat) : Int)) = z + (n : Int) + 1 := by omega
    rw [e2]
    omega
theorem told_A (z j : Int) (h : toldY z = 2) (h1 : 1 ≤ j) (h2 : j ≤ 31) : toldY (z + j) = 1 := by
  rcases toldY_12 (z + j) with h3 | h3
  · exact h3
  exfalso
  have g := gg_hi (z - 1) (j + 1) (by omega) (by omega)
  have t := told_ge z (j - 1).toNat
  have e1 : ((j - 1).toNat : Int) = j - 1 := Int.toNat_of_nonneg (by omega)
  rw [e1] at t
  unfold toldY at h h3
  rw [fy_gg, fy_gg] at h h3
  have e2 : z - 1 + (j + 1) = z + j := by omega
  have e3 : z + (j - 1) = z + j - 1 := by omega
  rw [e2] at g
  rw [e3] at t
  omega
theorem told_C (z : Int) : ∃ j : Int, 1 ≤ j ∧ j ≤ 33 ∧ toldY (z + j) = 2 := by
  refine Classical.byContradiction fun hn => ?_
  have hall : ∀ j : Int, 1 ≤ j → j ≤ (33 : Nat) → toldY (z + j) = 1 := fun j h1 h2 => by
    rcases toldY_12 (z + j) with h | h
    · exact h
    · exact absurd ⟨j, h1, by omega, h⟩ hn
  have s := told_sum z 33 hall
  have g := gg_lo z
  have e : z + ((33 : Nat) : Int) = z + 33 := by omega
  rw [e] at s
  omega
theorem told_B (z : Int) (h : toldY z = 2) : toldY (z + 32) = 2 ∨ toldY (z + 33) = 2 := by
  obtain ⟨j, h1, h2, h3⟩ := told_C z
  by_cases hj : j ≤ 31
  · have := told_A z j h h1 hj
    omega
  · have : j = 32 ∨ j = 33 := by omega
    rcases this with rfl | rfl
    · exact .inl h3
    · exact .inr h3
theorem told_T (z : Int) (h1 : 1900 ≤ z) (h2 : z < 2200) : ([1911, 1943, 1976, 2008, 2041, 2073, 2106, 2139, 2171] : List Int).any (· == z) = decide (toldY z = 2) := by
  obtain ⟨k, hk⟩ := Int.eq_ofNat_of_zero_le (show 0 ≤ z - 1900 by omega)
  have hk2 : k < 300 := by omega
  have : ∀ k : Fin 300, ([1911, 1943, 1976, 2008, 2041, 2073, 2106, 2139, 2171] : List Int).any (· == 1900 + (k.val : Int)) = decide (gg (1900 + (k.val : Int)) / 10631 - gg (1900 + (k.val : Int) - 1) / 10631 = 2) := by decide +kernel
  have e : z = 1900 + (k : Int) := by omega
  have t := this ⟨k, hk2⟩
  unfold toldY
  rw [fy_gg, fy_gg, e]
  exact t

/-! ### the list of the doubles -/
theorem sorted_gap {l : List Int} (h : l.Pairwise (· < ·)) (i : Nat) (hi : i + 1 < l.length) : l.getD i 0 < l.getD (i + 1) 0 ∧ ∀ c ∈ l, c ≤ l.getD i 0 ∨ l.getD (i + 1) 0 ≤ c := by
  have hp := List.pairwise_iff_getElem.mp h
  have g1 : l.getD i 0 = l[i] := by rw [List.getD_eq_getElem?_getD, List.getElem?_eq_getElem (by omega)]; rfl
  have g2 : l.getD (i + 1) 0 = l[i + 1] := by rw [List.getD_eq_getElem?_getD, List.getElem?_eq_getElem hi]; rfl
  rw [g1, g2]
  refine ⟨hp i (i + 1) (by omega) hi (by omega), fun c hc => ?_⟩
  obtain ⟨j, hj, rfl⟩ := List.mem_iff_getElem.mp hc
  by_cases hij : j ≤ i
  · left
    by_cases e : j = i
    · subst e; omega
    · exact Int.le_of_lt (hp j i hj (by omega) (by omega))
  · right
    by_cases e : j = i + 1
    · subst e; omega
    · exact Int.le_of_lt (hp (i + 1) j hi hj (by omega))
theorem sorted_head {l : List Int} (h : l.Pairwise (· < ·)) : ∀ c ∈ l, l.getD 0 0 ≤ c := by
  cases l with
  | nil => intro c hc; cases hc
  | cons a r =>
    intro c hc
    rcases List.mem_cons.mp hc with rfl | hc
    · exact Int.le_refl _
    · exact Int.le_of_lt ((List.pairwise_cons.mp h).1 c hc)
theorem rangeKs_sorted (a : Int) (n : Nat) : (rangeKs a n).Pairwise (· < ·) := by
  refine List.pairwise_iff_getElem.mpr fun i j hi hj hij => ?_
  simp only [rangeKs, List.getElem_map, List.getElem_range]
  omega
theorem mem_range68 (k : Int) : k ∈ rangeKs 0 68 ↔ 0 ≤ k ∧ k < 68 := by
  constructor
  · intro h
    obtain ⟨h1, h2⟩ := mem_rangeKs h
    exact ⟨h1, by omega⟩
  · rintro ⟨h1, h2⟩
    simp only [rangeKs, List.mem_map, List.mem_range]
    exact ⟨k.toNat, by omega, by omega⟩
theorem row_get (y : Int) (k : Int) (h0 : 0 ≤ k) (h1 : k < 68) : ((rangeKs 0 68).map (told1 y)).getD k.toNat 0 = toldY (y + k) := by
  rw [List.getD_eq_getElem?_getD, List.getElem?_map]
  have : (rangeKs 0 68)[k.toNat]? = some k := by
    simp only [rangeKs, List.getElem?_map, List.getElem?_range (show k.toNat < 68 by omega), Option.map_some]
    congr 1
    omega
  rw [this]
  rfl

/-- the places of the doubles in the row -/
def dbls (ns : List Int) : List Int := (rangeKs 0 68).filter fun k => ns.getD k.toNat 0 == 2
theorem dbls_sorted (ns : List Int) : (dbls ns).Pairwise (· < ·) := (rangeKs_sorted 0 68).filter _
section
variable {y : Int} {ns : List Int} (hns : ns = (rangeKs 0 68).map (told1 y))
include hns
theorem row_len : ns.length = 68 := by rw [hns, List.length_map, rangeKs_length]
theorem row_at (k : Int) (h0 : 0 ≤ k) (h1 : k < 68) : ns.getD k.toNat 0 = toldY (y + k) := by rw [hns]; exact row_get y k h0 h1
theorem mem_dbls (k : Int) : k ∈ dbls ns ↔ 0 ≤ k ∧ k < 68 ∧ toldY (y + k) = 2 := by
  unfold dbls
  rw [List.mem_filter, mem_range68]
  constructor
  · rintro ⟨⟨h1, h2⟩, h3⟩
    rw [row_at hns k h1 h2] at h3
    exact ⟨h1, h2, beq_iff_eq.mp h3⟩
  · rintro ⟨h1, h2, h3⟩
    refine ⟨⟨h1, h2⟩, ?_⟩
    rw [row_at hns k h1 h2]
    exact beq_iff_eq.mpr h3
theorem row_12 (k : Int) (h0 : 0 ≤ k) (h1 : k < 68) : ns.getD k.toNat 0 = 1 ∨ ns.getD k.toNat 0 = 2 := by
  rw [row_at hns k h0 h1]; exact toldY_12 _
theorem row_nil : ((rangeKs 0 68).filter fun k => !([1, 2] : List Int).any fun x => x == ns.getD k.toNat 0) = [] := by
  refine List.filter_eq_nil_iff.mpr fun k hk => ?_
  obtain ⟨h0, h1⟩ := (mem_range68 k).mp hk
  rcases row_12 hns k h0 h1 with h | h <;> rw [h] <;> decide
theorem dbl_first : ∃ k ∈ dbls ns, k ≤ 32 := by
  obtain ⟨j, h1, h2, h3⟩ := told_C (y - 1)
  refine ⟨j - 1, (mem_dbls hns _).mpr ⟨by omega, by omega, ?_⟩, by omega⟩
  have e : y + (j - 1) = y - 1 + j := by omega
  rw [e]; exact h3
theorem dbl_head : (dbls ns).getD 0 0 ≤ 32 := by
  obtain ⟨k, hk, h⟩ := dbl_first hns
  exact Int.le_trans (sorted_head (dbls_sorted ns) k hk) h
theorem dbl_next (k : Int) (hk : k ∈ dbls ns) (h : k ≤ 34) : k + 32 ∈ dbls ns ∨ k + 33 ∈ dbls ns := by
  obtain ⟨h1, h2, h3⟩ := (mem_dbls hns k).mp hk
  rcases told_B _ h3 with q | q
  · left
    refine (mem_dbls hns _).mpr ⟨by omega, by omega, ?_⟩
    rw [← Int.add_assoc]; exact q
  · right
    refine (mem_dbls hns _).mpr ⟨by omega, by omega, ?_⟩
    rw [← Int.add_assoc]; exact q
theorem dbl_two : 2 ≤ (dbls ns).length := by
  obtain ⟨k, hk, h⟩ := dbl_first hns
  have : ∃ m ∈ dbls ns, m ≠ k := by
    rcases dbl_next hns k hk (by omega) with q | q
    · exact ⟨_, q, by omega⟩
    · exact ⟨_, q, by omega⟩
  obtain ⟨m, hm, hne⟩ := this
  generalize dbls ns = l at *
  match l, hk, hm with
  | [], hk, _ => cases hk
  | [a], hk, hm => rw [List.mem_singleton] at hk hm; omega
  | _ :: _ :: _, _, _ => simp
theorem dbl_gap (i : Int) (h0 : 0 ≤ i) (h1 : i + 1 < ((dbls ns).length : Int)) : (dbls ns).getD (i + 1).toNat 0 - (dbls ns).getD i.toNat 0 = 32 ∨ (dbls ns).getD (i + 1).toNat 0 - (dbls ns).getD i.toNat 0 = 33 := by
  have hi : i.toNat + 1 < (dbls ns).length := by omega
  have e : (i + 1).toNat = i.toNat + 1 := by omega
  rw [e]
  obtain ⟨hlt, hno⟩ := sorted_gap (dbls_sorted ns) i.toNat hi
  have ma : (dbls ns).getD i.toNat 0 ∈ dbls ns := by
    rw [List.getD_eq_getElem?_getD, List.getElem?_eq_getElem (by omega)]; exact List.getElem_mem _
  have mb : (dbls ns).getD (i.toNat + 1) 0 ∈ dbls ns := by
    rw [List.getD_eq_getElem?_getD, List.getElem?_eq_getElem hi]; exact List.getElem_mem _
  generalize (dbls ns).getD i.toNat 0 = a at *
  generalize (dbls ns).getD (i.toNat + 1) 0 = b at *
  obtain ⟨a1, a2, a3⟩ := (mem_dbls hns a).mp ma
  obtain ⟨b1, b2, b3⟩ := (mem_dbls hns b).mp mb
  have hge : 32 ≤ b - a := by
    refine Classical.byContradiction fun hn => ?_
    have q := told_A (y + a) (b - a) a3 (by omega) (by omega)
    have e2 : y + a + (b - a) = y + b := by omega
    rw [e2] at q
    omega
  have hle : b - a ≤ 33 := by
    refine Classical.byContradiction fun hn => ?_
    rcases dbl_next hns a ma (by omega) with q | q
    · have := hno _ q; omega
    · have := hno _ q; omega
  omega
theorem row_table (k : Int) (h0 : 0 ≤ k) (h1 : k < 68) (h2 : 1900 ≤ y + k) (h3 : y + k < 2200) : ([1911, 1943, 1976, 2008, 2041, 2073, 2106, 2139, 2171] : List Int).any (· == y + k) = decide (ns.getD k.toNat 0 = 2) := by
  rw [row_at hns k h0 h1]; exact told_T _ h2 h3
theorem no1 {fs : List Int} (ef : fs = List.filter (fun k => ns.getD k.toNat 0 == 2) (rangeKs 0 68)) (h : (fs.length : Int) < 2) : False := by
  have := dbl_two hns
  rw [ef] at h
  exact absurd this (by show ¬ 2 ≤ (List.filter (fun k : Int => ns.getD k.toNat 0 == 2) (rangeKs 0 68)).length; omega)
theorem no2 {fs : List Int} (ef : fs = List.filter (fun k => ns.getD k.toNat 0 == 2) (rangeKs 0 68)) (h : 32 < fs.getD (Int.toNat 0) 0) : False := by
  rw [ef] at h
  exact absurd (dbl_head hns) (Int.not_le.mpr h)
theorem no3 {fs : List Int} {k : Int} (ef : fs = List.filter (fun k => ns.getD k.toNat 0 == 2) (rangeKs 0 68)) (h0 : 0 ≤ k) (h1 : k < 0 + (((fs.length : Int) - 1 - 0).toNat : Int)) (h : (([32, 33] : List Int).any fun x => x == fs.getD (k + 1).toNat 0 - fs.getD k.toNat 0) = false) : False := by
  have e : fs = dbls ns := ef
  rw [e] at h h1
  rcases dbl_gap hns k h0 (by omega) with q | q <;> rw [q] at h <;> exact absurd h (by decide)
theorem no4 {k : Int} (h0 : 0 ≤ k) (h1 : k < 0 + ((68 : Nat) : Int)) (h2 : 1900 ≤ y + k) (h3 : y + k < 2200) (h : ((1911 == y + k || (1943 == y + k || (1976 == y + k || (2008 == y + k || (2041 == y + k || (2073 == y + k || (2106 == y + k || (2139 == y + k || (2171 == y + k || false))))))))) != (ns.getD k.toNat 0 == 2)) = true) : False := by
  have t := row_table hns k h0 (by omega) h2 h3
  have t' : (1911 == y + k || (1943 == y + k || (1976 == y + k || (2008 == y + k || (2041 == y + k || (2073 == y + k || (2106 == y + k || (2139 == y + k || (2171 == y + k || false))))))))) = decide (ns.getD k.toNat 0 = 2) := t
  rw [t'] at h
  by_cases q : ns.getD k.toNat 0 = 2
  · rw [q] at h; exact absurd h (by decide)
  · have q2 : (ns.getD k.toNat 0 == 2) = false := beq_eq_false_iff_ne.mpr q
    rw [decide_eq_false q, q2] at h; exact absurd h (by decide)
end
theorem month_right (y k d : Int) : gyear y k d = lstart (if k < pmon (ljan y) then pyear (ljan y) + 1 else pyear (ljan y)) + 29 * (k - 1) + k.fdiv 2 + d - 1 := by
  unfold gyear
  rw [ijd_eq, jan1_eq, ← ljan_eq, fmon_eq, ← pyear_eq]
  rfl
theorem no5 {y k d v0 v1 v2 vs vg : Int} (e0 : v0 = ljan y) (e1 : v1 = pyear v0) (e2 : v2 = pmon v0) (h : k < v2) (es : vs = lstart (v1 + 1)) (eg : vg = gyear y k d) (hn : vg ≠ vs + 29 * (k - 1) + k.fdiv 2 + d - 1) : False := by
  subst e0 e1 e2 es eg
  rw [month_right, if_pos h] at hn
  exact hn rfl
theorem no6 {y k d v0 v1 v2 vs vg : Int} (e0 : v0 = ljan y) (e1 : v1 = pyear v0) (e2 : v2 = pmon v0) (h : ¬ k < v2) (es : vs = lstart v1) (eg : vg = gyear y k d) (hn : vg ≠ vs + 29 * (k - 1) + k.fdiv 2 + d - 1) : False := by
  subst e0 e1 e2 es eg
  rw [month_right, if_neg h] at hn
  exact hn rfl
/-- the first year's count, reckoned twice -/
theorem first_right (y : Int) : told1 y 0 = pyear (ljan (y + 1) - 1) - pyear (ljan y - 1) := by
  rw [ljan_eq, ljan_eq, pyear_eq, pyear_eq]
  unfold told1
  have e1 : dec31 (y + 1 - 1) + 1 - 1 = dec31 (y + 0) := by
    have : y + 1 - 1 = y + 0 := by omega
    rw [this]; omega
  have e2 : dec31 (y - 1) + 1 - 1 = dec31 (y + 0 - 1) := by
    have : y - 1 = y + 0 - 1 := by omega
    rw [← this]; omega
  rw [e1, e2]
theorem no7 {y v0 v1 va vb : Int} {ns : List Int} (hns : ns = (rangeKs 0 68).map (told1 y)) (e0 : v0 = ljan y) (e1 : v1 = ljan (y + 1)) (ea : va = pyear (v1 - 1)) (eb : vb = pyear (v0 - 1)) (hn : ns.getD (Int.toNat 0) 0 ≠ va - vb) : False := by
  subst e0 e1 ea eb
  have h := row_at hns 0 (by omega) (by omega)
  rw [h] at hn
  exact hn (first_right y)
end

set_option maxHeartbeats 8000000 in
open_top hd for PySem.Challenge.rw_aq6009_01

section
def Ctr (w : World) (f : Addr) (d : Nat) (pre : List (Addr × Obj) → Prop) (vs : List Value)
    (back : Heap → Addr → (Str → Option Value) → List (Addr × Obj) → Shared → (Value → Shared → Prop) → Prop) : Prop :=
  ∀ (mean : ExcName → Option Value) (mg mb : Str → Option Value) (dp un : Nat) (gd : Option (List Code)) (cn : Str) (cs : Scope) (a : Addr) (ccd : Value) (cl : List (Str × Addr)) (outer : List Env) (A₀ : Around) (base h₀ : Heap) (L : Addr) (m : Str → Option Value) (news : List (Addr × Obj)) (s : Shared) (Q E : Value → Shared → Prop),
    Below A₀ base outer h₀ → Fr h₀ L s.heap m → (hd.heap_39 w.params).In h₀ → News h₀ L s.heap news → Top hd.view_39 (looseW hd.view_39 [Str.ofString "to_jd_gregorian", Str.ofString "to_jd_islamic"]) mean mg mb h₀ → cs.kind = .function →
    dp + d < 1000 → un + 8 * d < 9900 → pre news → back h₀ L m news s Q →
    wpAny (model PySem.Challenge.rw_aq6009_01.row.prog w) (ktrTop dp un gd cn cs L a ccd cl outer) (call (.ref f) vs) Q E s

theorem Ctr.use {w : World} {f : Addr} {d : Nat} {pre : List (Addr × Obj) → Prop} {vs : List Value} {back : Heap → Addr → (Str → Option Value) → List (Addr × Obj) → Shared → (Value → Shared → Prop) → Prop}
    (C : Ctr w f d pre vs back)
    {mean : ExcName → Option Value} {mg mb : Str → Option Value} {dp un : Nat} {gd : Option (List Code)} {cn : Str} {cs : Scope} {a : Addr} {ccd : Value} {cl : List (Str × Addr)} {outer : List Env} {A₀ : Around} {base h₀ : Heap} {L : Addr} {m : Str → Option Value} {news : List (Addr × Obj)} {s : Shared} {Q E : Value → Shared → Prop}
    (B : Below A₀ base outer h₀) (F : Fr h₀ L s.heap m) (X : (hd.heap_39 w.params).In h₀) (N : News h₀ L s.heap news)
    (T : Top hd.view_39 (looseW hd.view_39 [Str.ofString "to_jd_gregorian", Str.ofString "to_jd_islamic"]) mean mg mb h₀) (hk : cs.kind = .function)
    (hd : dp + d < 1000) (hu : un + 8 * d < 9900) (hp : pre news) (hb : back h₀ L m news s Q) :
    wpAny (model PySem.Challenge.rw_aq6009_01.row.prog w) (ktrTop dp un gd cn cs L a ccd cl outer) (call (.ref f) vs) Q E s :=
  C mean mg mb dp un gd cn cs a ccd cl outer A₀ base h₀ L m news s Q E B F X N T hk hd hu hp hb

def backI (x : Int) (h₀ : Heap) (L : Addr) (m : Str → Option Value) (news : List (Addr × Obj)) (s : Shared) (Q : Value → Shared → Prop) : Prop :=
  ∀ (v : Int) (t : Tok) (h' : Heap) (tk' : Nat), v = x → Fr h₀ L h' m → News h₀ L h' news → Q (.int v t) { s with heap := h', toks := tk' }
def backB (x : Bool) (h₀ : Heap) (L : Addr) (m : Str → Option Value) (news : List (Addr × Obj)) (s : Shared) (Q : Value → Shared → Prop) : Prop :=
  ∀ (v : Bool) (h' : Heap) (tk' : Nat), v = x → Fr h₀ L h' m → News h₀ L h' news → Q (.bool v) { s with heap := h', toks := tk' }
def backT3 (x y z : Int) (h₀ : Heap) (L : Addr) (m : Str → Option Value) (news : List (Addr × Obj)) (s : Shared) (Q : Value → Shared → Prop) : Prop :=
  ∀ (v1 v2 v3 : Int) (D : Addr) (t1 t2 t3 : Tok) (c : Nat) (h' : Heap) (tk' : Nat), v1 = x → v2 = y → v3 = z → Fr h₀ L h' m → News h₀ L h' ((D, { cls := .type "tuple", data := .seq #[.int v1 t1, .int v2 t2, .int v3 t3] c }) :: news) → AllLt D news → Q (.ref D) { s with heap := h', toks := tk' }
def backT2 (x y : Int) (h₀ : Heap) (L : Addr) (m : Str → Option Value) (news : List (Addr × Obj)) (s : Shared) (Q : Value → Shared → Prop) : Prop :=
  ∀ (v1 v2 : Int) (D : Addr) (t1 t2 : Tok) (c : Nat) (h' : Heap) (tk' : Nat), v1 = x → v2 = y → Fr h₀ L h' m → News h₀ L h' ((D, { cls := .type "tuple", data := .seq #[.int v1 t1, .int v2 t2] c }) :: news) → AllLt D news → Q (.ref D) { s with heap := h', toks := tk' }
def backL (ks : List Int) (h₀ : Heap) (L : Addr) (m : Str → Option Value) (news : List (Addr × Obj)) (s : Shared) (Q : Value → Shared → Prop) : Prop :=
  ∀ (ns : List Int) (D : Addr) (vs : List Value) (c : Nat) (h' : Heap) (tk' : Nat), ns = ks → IntsAre vs ns → Fr h₀ L h' m → News h₀ L h' ((D, PySem.W.listOf vs.toArray c) :: news) → AllLt D news → Q (.ref D) { s with heap := h', toks := tk' }

section
variable {h₀ h' : Heap} {L : Addr} {m : Str → Option Value} {news news' : List (Addr × Obj)} {s : Shared} {Q : Value → Shared → Prop} {t : Tok} {tk' : Nat}
theorem endI {x y : Int} (hret : backI x h₀ L m news s Q) (e : y = x) (F : Fr h₀ L h' m) (N : News h₀ L h' news') (hs : ∀ p ∈ news, p ∈ news') : Q (.int y t) { s with heap := h', toks := tk' } :=
  hret y t h' tk' e F (fun p hp => N p (hs p hp))
theorem endB {x y : Bool} (hret : backB x h₀ L m news s Q) (e : y = x) (F : Fr h₀ L h' m) (N : News h₀ L h' news') (hs : ∀ p ∈ news, p ∈ news') : Q (.bool y) { s with heap := h', toks := tk' } :=
  hret y h' tk' e F (fun p hp => N p (hs p hp))
theorem endT3 {x y z x' y' z' : Int} {t1 t2 t3 : Tok} {D : Addr} {c : Nat} (hret : backT3 x y z h₀ L m news s Q) (F : Fr h₀ L h' m) (N : News h₀ L h' news') (hd : (D, ({ cls := .type "tuple", data := .seq #[.int x' t1, .int y' t2, .int z' t3] c } : Obj)) ∈ news') (hs : ∀ p ∈ news, p ∈ news') (hl : AllLt D news)
    (e1 : x' = x) (e2 : y' = y) (e3 : z' = z) : Q (.ref D) { s with heap := h', toks := tk' } := by
  refine hret x' y' z' D t1 t2 t3 c h' tk' e1 e2 e3 F (fun p hp => ?_) hl
  rcases List.mem_cons.mp hp with rfl | hp
  · exact N _ hd
  · exact N p (hs p hp)
theorem endT2 {x y x' y' : Int} {t1 t2 : Tok} {D : Addr} {c : Nat} (hret : backT2 x y h₀ L m news s Q) (F : Fr h₀ L h' m) (N : News h₀ L h' news') (hd : (D, ({ cls := .type "tuple", data := .seq #[.int x' t1, .int y' t2] c } : Obj)) ∈ news') (hs : ∀ p ∈ news, p ∈ news') (hl : AllLt D news)
    (e1 : x' = x) (e2 : y' = y) : Q (.ref D) { s with heap := h', toks := tk' } := by
  refine hret x' y' D t1 t2 c h' tk' e1 e2 F (fun p hp => ?_) hl
  rcases List.mem_cons.mp hp with rfl | hp
  · exact N _ hd
  · exact N p (hs p hp)
theorem endL {ns ns' : List Int} {D : Addr} {vs : List Value} {c : Nat} (hret : backL ns h₀ L m news s Q) (hi : IntsAre vs ns') (F : Fr h₀ L h' m) (N : News h₀ L h' news') (hd : (D, PySem.W.listOf vs.toArray c) ∈ news') (hs : ∀ p ∈ news, p ∈ news') (hl : AllLt D news)
    (e : ns' = ns) : Q (.ref D) { s with heap := h', toks := tk' } := by
  refine hret ns' D vs c h' tk' e hi F (fun p hp => ?_) hl
  rcases List.mem_cons.mp hp with rfl | hp
  · exact N _ hd
  · exact N p (hs p hp)
end

section
variable {prog : Program} {w : World} {A : Around} {E : Value → Shared → Prop} {s : Shared} {K : Frag} {L a : Addr} {h₀ : Heap} {m : Str → Option Value}
theorem inTop {l : List Value} {ns : List Int} {n : Nat} {dd : Option Addr} {sl : Array (Option Value)} {x : Int} {u : Tok} {Q : Value → Shared → Prop}
    (F : Fr h₀ L s.heap m) (X₀ : K.In h₀) (hl : K.lookup a = some ⟨.type "tuple", dd, .seq l.toArray n, sl⟩) (hi : IntsAre l ns)
    (h : Q (.bool (ns.any (· == x))) s) : wpAny (model prog w) A (compareOp .In (.int x u) (.ref a)) Q E s :=
  in_tuple_ints (tupK (X₀.keeps F.keep) hl) hi h
end

theorem divmod_D {prog : Program} {w : World} {A : Around} {E : Value → Shared → Prop} {s : Shared} {a b : Int} {t u : Tok} {Q : Value → Shared → Prop} {h₀ : Heap} {L : Addr} {m : Str → Option Value} {news : List (Addr × Obj)}
    (F : Fr h₀ L s.heap m) (N : News h₀ L s.heap news) (hb : b ≠ 0) (hp : Builtin.divisionGoesByPylong a b = false)
    (h : ∀ (D : Addr) (t1 t2 : Tok) (h' : Heap) (tk' : Nat), Fr h₀ L h' m → News h₀ L h' ((D, { cls := .type "tuple", data := .seq #[.int (a.fdiv b) t1, .int (a.fmod b) t2] }) :: news) → AllLt D news →
      Q (.ref D) { s with heap := h', toks := tk' }) :
    wpAny (model prog w) A (call (.builtin "divmod") [.int a t, .int b u]) Q E s :=
  divmod_N F N hb (fun h' F' N' => h _ _ _ h' _ F' N' (allLt_of fun p hp => Heap.lt_size (N p hp).1)) (.inl hp)
theorem allLt3 {a b c : Prop} {D : Addr} {news : List (Addr × Obj)} (h : a ∧ b ∧ c ∧ AllLt D news) : AllLt D news := h.2.2.2
theorem allNe {d c : Addr} : ∀ {l : List (Addr × Obj)}, AllLt d l → d ≤ c → ∀ p ∈ l, p.1 ≠ c
  | [], _, _, _, hp => nomatch hp
  | q :: r, h, hc, p, hp => by
    rcases List.mem_cons.mp hp with rfl | hp
    · exact Nat.ne_of_lt (Nat.lt_of_lt_of_le h.1 hc)
    · exact allNe h.2 hc p hp
theorem allNe0 {d : Addr} {l : List (Addr × Obj)} (h : AllLt d l) : ∀ p ∈ l, p.1 ≠ d := allNe h (Nat.le_refl _)
theorem allNe1 {d : Addr} {l : List (Addr × Obj)} (h : AllLt d l) : ∀ p ∈ l, p.1 ≠ d + 1 := allNe h (Nat.le_succ _)
end

section
def TurnEndP (h₀ : Heap) (L : Addr) (m : Str → Option Value) (led : List (Addr × Obj)) (s₁ : Shared) (q : Bool) (b : Bool) (s' : Shared) : Prop :=
  b = q ∧ ∃ h' tk', s' = { s₁ with heap := h', toks := tk' } ∧ Fr h₀ L h' m ∧ News h₀ L h' led
theorem turnEndP {h₀ : Heap} {L : Addr} {m : Str → Option Value} {led led' : List (Addr × Obj)} {s₁ : Shared} {q b : Bool} {h' : Heap} {tk' : Nat} (F : Fr h₀ L h' m) (N : News h₀ L h' led') (hs : ∀ p ∈ led, p ∈ led') (e : b = q) :
    TurnEndP h₀ L m led s₁ q b { s₁ with heap := h', toks := tk' } := ⟨e, h', tk', rfl, F, fun p hp => N p (hs p hp)⟩

theorem foldl_filter (p : Int → Bool) : ∀ (ks acc : List Int), ks.foldl (fun l k => if p k then l ++ [k] else l) acc = acc ++ ks.filter p
  | [], acc => by simp
  | k :: r, acc => by
    rw [List.foldl_cons, foldl_filter p r]
    by_cases h : p k <;> simp [h]

section
variable {prog : Program} {w : World} {A : Around} {E : Value → Shared → Prop} {s : Shared} {h₀ : Heap} {L : Addr} {m : Str → Option Value} {env : Env}

def TurnsP (prog : Program) (w : World) (A : Around) (h₀ : Heap) (L : Addr) (m : Str → Option Value) (env : Env) (ct : Expr) (x : Str) (scope : Scope) (cl : List (Str × Addr)) (s₁ : Shared) (ks : List Int) (p : Int → Bool) (news : List (Addr × Obj)) : Prop :=
  ∀ k t I oI C oC D m₂ ys h tk (E' : Value → Shared → Prop), k ∈ ks → LCg.NsObj oC m₂ → m₂ x = some (.int k t) → Fr h₀ L h m → News h₀ L h ((I, oI) :: (C, oC) :: (D, LCg.lst ys) :: news) →
    wpAny (model prog w) A (isTrue ct (compEnvC scope cl C env) (eval ct (compEnvC scope cl C env))) (TurnEndP h₀ L m ((I, oI) :: (C, oC) :: (D, LCg.lst ys) :: news) { s₁ with heap := h, toks := tk } (p k)) E' { s₁ with heap := h, toks := tk }

theorem restP {ct : Expr} {x : Str} {pe : Pos} {scope : Scope} {cl : List (Str × Addr)} {s₁ : Shared} {g : Heap} {ks : List Int} {p : Int → Bool} {news : List (Addr × Obj)} {S : List (Addr × Obj) → Prop} {P : Nat → Value → Prop} {Fin : List Value → List (Addr × Obj) → Prop} {n : Nat}
    (hk : scope.kind = .function) (hx : scope.names.lookup x = some .local) (hd : (x == ("__debug__" : Str)) = false) (hS : S news)
    (hks : ks.length = n) (hP : ∀ i v, i < n → P i v → ∃ k t, ks[i]? = some k ∧ v = .int k t)
    (T : TurnsP prog w A h₀ L m env ct x scope cl s₁ ks p news) (fin : ∀ ys, IntsAre ys (ks.filter p) → Fin ys news) :
    LCt.CompRestT prog w A h₀ L m env ct (.Name x pe) x scope cl { s₁ with heap := g } S P Fin n 0 [] news := by
  refine kci_rest (ks := ks) (fun l k => if p k then l ++ [k] else l) hks hP ?_ (fun ys hy _ => fin ys (by rw [foldl_filter, List.nil_append] at hy; exact hy)) (fun l k => by dsimp only; split <;> simp)
  intro k t I oI C oC D m₂ ys l h tk E' hkm hy hC hx' F N off ne _
  refine wpAny_mono (T k t I oI C oC D m₂ ys h tk E' hkm hC hx' F N) (fun b s₂ hq => ?_) fun _ _ e => e
  obtain ⟨rfl, h', tk', rfl, F', N'⟩ := hq
  cases hb : p k with
  | true =>
    simp only [if_true]
    refine LCgL.ld_own N' (List.mem_cons_of_mem _ List.mem_cons_self) hC hx' ?_ (by simp [compEnvC, relabel, hk]) (lookup_relabel_local hx) hd
    exact ⟨h', tk', news, rfl, F', N', off, hS, rfl, k, t, rfl, rfl⟩
  | false =>
    simp only [Bool.false_eq_true, if_false]
    exact ⟨h', tk', news, rfl, F', N', off, hS, rfl, rfl⟩

def FinP (h₀ : Heap) (L : Addr) (m : Str → Option Value) (s₁ : Shared) (Q : Value → Shared → Prop) (ks : List Int) (p : Int → Bool) (news : List (Addr × Obj)) : Prop :=
  ∀ D h tk ys, IntsAre ys (ks.filter p) → Fr h₀ L h m → News h₀ L h ((D, LCg.lst ys) :: news) → LCg.Off1 D news → Q (.ref D) { s₁ with heap := h, toks := tk }

def SrcTT (prog : Program) (w : World) (A : Around) (h₀ : Heap) (L : Addr) (m : Str → Option Value) (env : Env) (ct : Expr) (x : Str) (scope : Scope) (cl : List (Str × Addr)) (Q : Value → Shared → Prop) (xv : Value) (s₁ : Shared) : Prop :=
  ∃ ax vs ns p news, xv = .ref ax ∧ A.handled = none ∧ Fr h₀ L s₁.heap m ∧ News h₀ L s₁.heap news ∧ IsTup h₀ ax (List.toArray vs) ∧ IntsAre vs ns ∧ vs.length ≤ sizeLine ∧
    TurnsP prog w A h₀ L m env ct x scope cl s₁ ns p news ∧ FinP h₀ L m s₁ Q ns p news

theorem SrcTT.intro {K : Frag} {ct : Expr} {x : Str} {scope : Scope} {cl : List (Str × Addr)} {Q : Value → Shared → Prop} {s₁ : Shared} {ax : Addr} {vs : List Value} {ns : List Int} {p : Int → Bool} {news : List (Addr × Obj)} {n : Nat} {dd : Option Addr} {sl : Array (Option Value)}
    (hh : A.handled = none) (F : Fr h₀ L s₁.heap m) (N : News h₀ L s₁.heap news) (X : K.In h₀) (hl : K.lookup ax = some ⟨.type "tuple", dd, .seq vs.toArray n, sl⟩) (hi : IntsAre vs ns) (hz : vs.length ≤ 1000)
    (T : TurnsP prog w A h₀ L m env ct x scope cl s₁ ns p news) (f : FinP h₀ L m s₁ Q ns p news) : SrcTT prog w A h₀ L m env ct x scope cl Q (.ref ax) s₁ :=
  ⟨ax, vs, ns, p, news, rfl, hh, F, N, tupK X hl, hi, by rw [sizeLine_eq]; omega, T, f⟩

theorem ListComp_Tup {ct iter : Expr} {x : Str} {px pe : Pos} {scope : Scope} {cl : List (Str × Addr)} {pos : Pos} {Q : Value → Shared → Prop} (F₀ : Fr h₀ L s.heap m)
    (hclos : closureFor scope env = pure cl) (hcell : ∀ y ∈ scope.names, y.2 ≠ .cell) (hkind : scope.kind = .function)
    (hnames : ∀ y ∈ scope.names, y.2 = .local → scope.names.lookup y.1 = some .local) (hx : scope.names.lookup x = some .local) (hd : (x == ("__debug__" : Str)) = false)
    (h : wpAny (model prog w) A (eval iter env) (SrcTT prog w A h₀ L m env ct x scope cl Q) E s)
    (hs : ∀ x, foldedSetIterable iter env x = pure x := by intro _; rfl) :
    wpAny (model prog w) A (eval (.ListComp (.Name x pe) [⟨.Name x px, iter, [ct], 0⟩] scope pos) env) Q E s := by
  have _ := F₀
  rw [eval_ListComp]
  refine wpAny_comprehension_free (use := none) rfl hs hclos hkind hnames (wpAny_mono h (fun xv s₁ h₁ => ?_) fun _ _ e => e)
  obtain ⟨ax, vs, ns, p, news, rfl, hh, F, N, ht, hi, hsz, T, fin⟩ := h₁
  have ht₁ : s₁.heap.IsTuple ax vs.toArray := ht.keeps F.keep
  have hlt : ax < s₁.heap.objs.size := IsTup.lt (ht.keeps F.keep)
  refine wpAny_pyIter_tuple ht₁ ?_
  have up : ∀ b o, s₁.heap.get? b = some o → (s₁.heap.push { cls := .type "tuple_iterator", data := .fields #[.ref ax, .int 0 0] }).get? b = some o := fun b o e => Heap.get?_push_of_some _ e
  refine LCt.block_T (S := fun _ => True) (Fin := LCg.FinE h₀ L m s₁ Q) (Walks.tuple hh s₁.heap.objs.size ax (Nat.ne_of_lt hlt) vs.toArray) (by rw [List.size_toArray]; exact hsz) (fun i h st => by obtain ⟨o, e, _⟩ := st.1; exact ⟨o, e⟩)
    (fun i h h' o nw st e e' k N _ => ⟨by obtain ⟨o', q, r⟩ := st.1; rw [e] at q; cases q; exact ⟨o, e', r⟩, ht.keeps k⟩) hcell hkind hx ⟨⟨_, Heap.get?_push_size _ rfl, rfl, rfl⟩, ht₁.push _⟩ (fun b hb => ?_)
    (F.keeps up) (N.grown up) (Nat.ne_of_lt F.ns.lt) (next_is_new F) (fun p hp => Nat.ne_of_lt (Heap.lt_size (N p hp).1)) trivial ?_ ?_
  · show b < (s₁.heap.push _).objs.size
    rw [Heap.size_push]
    rcases List.mem_cons.mp hb with rfl | hb
    · exact Nat.lt_succ_self _
    · rw [List.mem_singleton.mp hb]; exact Nat.lt_succ_of_lt hlt
  · refine restP hkind hx hd trivial (by rw [List.size_toArray]; exact hi.length.symm) (fun i v _ hv => ?_) T fun ys hy D h tk F' N' o1 => fin D h tk ys hy F' N' o1
    obtain ⟨k, t, e, hk⟩ := IntsAre.at hi i v (by simpa using hv)
    exact ⟨k, t, hk, e⟩
  · intro D C h tk m' ys news' F' N' o1 hn hC₀ hD₀ hCL hDL hCD offC fin
    refine ⟨m', hn, fun h'' hs'' => fin D h'' tk (F'.change hs'' hCL hC₀) (fun p hp => ?_) o1⟩
    refine ⟨hs''.extBut _ _ ?_ (N' p hp).1, (N' p hp).2⟩
    rcases List.mem_cons.mp hp with rfl | hp
    · exact Ne.symm hCD
    · exact offC p hp
def FinF (Fin : Shared → List Value → List (Addr × Obj) → Prop) (s₁ : Shared) (ks : List Int) (p : Int → Bool) (news : List (Addr × Obj)) : Prop :=
  ∀ fs ys g, fs = ks.filter p → fs.length ≤ 1000 → IntsAre ys fs → Fin { s₁ with heap := g } ys news
theorem srcR {ct : Expr} {x : Str} {pe : Pos} {scope : Scope} {cl : List (Str × Addr)} {Fin : Shared → List Value → List (Addr × Obj) → Prop} {r : Addr} {b : Int} {t u v : Tok} {n : Nat} {p : Int → Bool} {news : List (Addr × Obj)} {s₁ : Shared}
    (hh : A.handled = none) (F : Fr h₀ L s₁.heap m) (N : News h₀ L s₁.heap news) (hr : IsRange s₁.heap r 0 b 1 t u v) (hsm : Builtin.Range.small 0 b 1 = true) (hn : Builtin.Range.rangeSize 0 b 1 = ((n : Nat) : Int)) (hz : n ≤ 1000)
    (hk : scope.kind = .function) (hx : scope.names.lookup x = some .local) (hd : (x == ("__debug__" : Str)) = false)
    (T : TurnsP prog w A h₀ L m env ct x scope cl s₁ (rangeKs 0 n) p news) (f : FinF Fin s₁ (rangeKs 0 n) p news) :
    LCt.CompSrcT prog w A h₀ L m env ct (.Name x pe) x scope cl Fin (.ref r) s₁ :=
  LCt.CompSrcT.range hh F N hr hsm hn (by rw [sizeLine_eq]; omega) fun g => restP hk hx hd trivial (rangeKs_length 0 n) (fun i v hi hv => by
    obtain ⟨t, e⟩ := hv
    exact ⟨0 + (i : Int), t, by simp [rangeKs, hi], e⟩) T (fun ys hy => f _ ys g rfl (Nat.le_trans (List.length_filter_le _ _) (by rw [rangeKs_length]; exact hz)) hy)
theorem rs12 : Builtin.Range.rangeSize 1 13 1 = ((12 : Nat) : Int) := by decide
theorem rs68 : Builtin.Range.rangeSize 0 68 1 = ((68 : Nat) : Int) := by decide
theorem itemLed {value slice : Expr} {l : Addr} {vs : List Value} {ns : List Int} {c : Nat} {k : Int} {u : Tok} {news : List (Addr × Obj)} {Q : Value → Shared → Prop} (N : News h₀ L s.heap news) (hm : (l, ({ cls := .type "list", data := .seq vs.toArray c } : Obj)) ∈ news) (hi : IntsAre vs ns) (h0 : 0 ≤ k) (h1 : k < (ns.length : Int)) (hz : k < 100000)
    (h : ∀ t, Q (.int (ns.getD k.toNat 0) t) s)
    (hs : subscripted slice false (.ref l) (.int k u) = operate [.ref l, .int k u] (getItem (.ref l) (.int k u)) := by with_unfolding_all rfl) :
    wpAny (model prog w) A (subscriptTail value slice (.ref l) (.int k u)) Q E s := by
  have hl : s.heap.IsList l vs.toArray := ⟨_, (N _ hm).1, rfl, c, rfl⟩
  have e : vs.length = ns.length := hi.length
  have hlt : k.toNat < vs.length := by omega
  obtain ⟨k', t, hv, hk⟩ := IntsAre.at hi k.toNat _ (List.getElem?_eq_getElem hlt)
  refine tail_any hl.typeIs slot_list_getitem.lookup (wpAny_getItem_list hl h0 (by omega) (x := .int k' t) (by simp [hlt, hv]) ?_) hs
  have e2 : ns.getD k.toNat 0 = k' := by rw [List.getD_eq_getElem?_getD, hk]; rfl
  rw [← e2]
  exact h t
theorem neNil {a b : Addr} {vs : List Value} {ns : List Int} {n k : Nat} {news : List (Addr × Obj)} {Q : Value → Shared → Prop} (N : News h₀ L s.heap news) (ha : (a, ({ cls := .type "list", data := .seq vs.toArray n } : Obj)) ∈ news) (hi : IntsAre vs ns) (hb : (b, ({ cls := .type "list", data := .seq ([] : List Value).toArray k } : Obj)) ∈ news) (hu : A.units + 64 < 9900)
    (e : ns = []) (h : Q (.bool false) s) : wpAny (model prog w) A (compareOp .NotEq (.ref a) (.ref b)) Q E s := by
  have hla : s.heap.IsList a vs.toArray := ⟨_, (N _ ha).1, rfl, n, rfl⟩
  have hlb : s.heap.IsList b ([] : List Value).toArray := ⟨_, (N _ hb).1, rfl, k, rfl⟩
  exact ne_intsK hla hi hlb .nil hu (by rw [e]; exact h)
theorem lenLed {D : Addr} {ys : List Value} {n : Nat} {fs : List Int} {news : List (Addr × Obj)} {Q : Value → Shared → Prop} (N : News h₀ L s.heap news) (hm : (D, ({ cls := .type "list", data := .seq ys.toArray n } : Obj)) ∈ news) (hi : IntsAre ys fs) (hz : fs.length ≤ 1000)
    (h : ∀ t tk', Q (.int (fs.length : Int) t) { s with toks := tk' }) : wpAny (model prog w) A (call (.builtin "len") [.ref D]) Q E s := by
  have e : ys.length = fs.length := hi.length
  refine len_list (items := ys.toArray) ⟨_, (N _ hm).1, rfl, n, rfl⟩ (by rw [List.size_toArray]; omega) ?_
  rw [List.size_toArray, e]
  exact h _ _
theorem lenFil {D : Addr} {ys : List Value} {n : Nat} {ks : List Int} {p : Int → Bool} {news : List (Addr × Obj)} {Q : Value → Shared → Prop} (N : News h₀ L s.heap news) (hi : IntsAre ys (ks.filter p)) (hm : (D, ({ cls := .type "list", data := .seq ys.toArray n } : Obj)) ∈ news) (hz : ks.length ≤ 1000)
    (h : ∀ t tk', Q (.int ((ks.filter p).length : Int) t) { s with toks := tk' }) : wpAny (model prog w) A (call (.builtin "len") [.ref D]) Q E s := by
  have e : ys.length = (ks.filter p).length := hi.length
  have e2 : (ks.filter p).length ≤ ks.length := List.length_filter_le _ _
  refine len_list (items := ys.toArray) ⟨_, (N _ hm).1, rfl, n, rfl⟩ (by rw [List.size_toArray]; omega) ?_
  rw [List.size_toArray, e]
  exact h _ _
end
end

section
def MineEnd (h₀ : Heap) (L : Addr) (x : Str) (m₀ : Str → Option Value) (led : List (Addr × Obj)) (s₁ : Shared) (s₂ : Shared) : Prop :=
  ∃ h' tk m' news', s₂ = { s₁ with heap := h', toks := tk } ∧ Fr h₀ L h' m' ∧ News h₀ L h' news' ∧ (∀ p ∈ led, p ∈ news') ∧ ∀ z, z ≠ x → m' z = m₀ z
def MineOn (h₀ : Heap) (L : Addr) (x : Str) (m₀ : Str → Option Value) (led : List (Addr × Obj)) (s₁ : Shared) (Q : Flow → Shared → Prop) (f : Flow) (s₂ : Shared) : Prop :=
  match f with
  | .ret v => Q (.ret v) s₂
  | .brk => Q .next s₂
  | _ => MineEnd h₀ L x m₀ led s₁ s₂
theorem mineEnd {h₀ : Heap} {L : Addr} {x : Str} {m₀ m' : Str → Option Value} {led news' : List (Addr × Obj)} {s₁ : Shared} {h' : Heap} {tk : Nat} (F : Fr h₀ L h' m') (N : News h₀ L h' news') (hs : ∀ p ∈ led, p ∈ news') (hm : ∀ z, z ≠ x → m' z = m₀ z) :
    MineEnd h₀ L x m₀ led s₁ { s₁ with heap := h', toks := tk } := ⟨h', tk, m', news', rfl, F, N, hs, hm⟩
section
variable {prog : Program} {w : World} {A : Around} {E : Value → Shared → Prop} {s : Shared} {h₀ : Heap} {env : Env} {Q : Flow → Shared → Prop}
def MineTurn (prog : Program) (w : World) (A : Around) (h₀ : Heap) (env : Env) (x : Str) (body : List Stmt) (Q : Flow → Shared → Prop) (E : Value → Shared → Prop) (m₀ : Str → Option Value) (led : List (Addr × Obj)) (a : Int) (n : Nat) (s : Shared) : Prop :=
  ∀ (k : Int) (t : Tok) (h : Heap) (tk : Nat) (own : List (Addr × Obj)), a ≤ k → k < a + (n : Int) → OwnOff own (led.map (·.1)) → Fr h₀ env.locals h (fun y => if y = x then some (.int k t) else m₀ y) → News h₀ env.locals h (led ++ own) →
    wpAny (model prog w) A (execs body env) (MineOn h₀ env.locals x m₀ (led ++ own) { s with heap := h, toks := tk } Q) E { s with heap := h, toks := tk }
def MineDone (h₀ : Heap) (env : Env) (x : Str) (Q : Flow → Shared → Prop) (m₀ : Str → Option Value) (led : List (Addr × Obj)) (s : Shared) : Prop :=
  ∀ (v : Option Value) (h : Heap) (tk : Nat), Fr h₀ env.locals h (fun y => if y = x then v else m₀ y) → News h₀ env.locals h led → Q .next { s with heap := h, toks := tk }
theorem searchR {x : Str} {body : List Stmt} {r : Addr} {a b : Int} {t u v : Tok} {n : Nat} {m₀ : Str → Option Value} {led : List (Addr × Obj)} (hh : A.handled = none) (hr : IsRange s.heap r a b 1 t u v) (hsm : Builtin.Range.small a b 1 = true) (hn : Builtin.Range.rangeSize a b 1 = ((n : Nat) : Int))
    (F : Fr h₀ env.locals s.heap m₀) (N : News h₀ env.locals s.heap led)
    (turn : MineTurn prog w A h₀ env x body Q E m₀ led a n s)
    (done : MineDone h₀ env x Q m₀ led s) :
    wpAny (model prog w) A (pyIter (.ref r)) (fun it s₂ => LoopAtV prog w A h₀ env x body Q E it s₂) E s := by
  have em : ∀ (u : Str → Option Value) (z : Str), kstB (fun z => if ([] : List Str).contains z then u z else m₀ z) [] z = m₀ z := fun u z => by simp [kstB]
  refine kst_range (σ := Unit) (fun _ => led) (fun _ => []) (fun _ => True) [] (fun _ _ => True) () hh hr hsm hn F N True.intro (fun _ hp => nomatch hp) True.intro ?_ ?_
  · intro c pre k t u h tk own hk hlt hoff _ _ F' N'
    simp only [em] at F'
    refine wpAny_mono (turn k t h tk own (by omega) (by omega) hoff F' N') (fun f s₂ q => ?_) fun _ _ e => e
    have up : MineEnd h₀ env.locals x m₀ (led ++ own) { s with heap := h, toks := tk } s₂ → InvEndN h₀ env.locals (KstS (σ := Unit) (fun _ => led) (fun _ => []) (fun _ => True) x [] m₀ (fun _ _ => True) (pre ++ [k])) own (led.map (·.1)) { s with heap := h, toks := tk } s₂ := by
      rintro ⟨h', tk', m', news', rfl, F₂, N₂, hs, hm⟩
      exact kst_end () F₂ N₂ (fun p hp => hs p (List.mem_append_left _ hp)) (fun p hp => hs p (List.mem_append_right _ hp)) rfl True.intro (fun _ hp => nomatch hp) (fun z hz _ _ => hm z hz) True.intro
    cases f with
    | ret v => exact q
    | brk => exact q
    | next => exact up q
    | cont => exact up q
  · intro c u h tk _ _ F' N'
    simp only [em] at F'
    have e2 : (fun y => if y = x then u y else m₀ y) = fun y => if y = x then u x else m₀ y := funext fun y => by by_cases h : y = x <;> simp [h]
    rw [e2] at F'
    exact done _ h tk F' N'
/-! the same, where a turn stores names that nothing reads behind it -/
def MineEndS (h₀ : Heap) (L : Addr) (x : Str) (st : List Str) (m₀ : Str → Option Value) (led : List (Addr × Obj)) (s₁ : Shared) (s₂ : Shared) : Prop :=
  ∃ h' tk m' news', s₂ = { s₁ with heap := h', toks := tk } ∧ Fr h₀ L h' m' ∧ News h₀ L h' news' ∧ (∀ p ∈ led, p ∈ news') ∧ ∀ z, z ≠ x → st.contains z = false → m' z = m₀ z
def MineOnS (h₀ : Heap) (L : Addr) (x : Str) (st : List Str) (m₀ : Str → Option Value) (led : List (Addr × Obj)) (s₁ : Shared) (Q : Flow → Shared → Prop) (f : Flow) (s₂ : Shared) : Prop :=
  match f with
  | .ret v => Q (.ret v) s₂
  | .brk => Q .next s₂
  | _ => MineEndS h₀ L x st m₀ led s₁ s₂
theorem mineEndS {h₀ : Heap} {L : Addr} {x : Str} {st : List Str} {m₀ m' : Str → Option Value} {led news' : List (Addr × Obj)} {s₁ : Shared} {h' : Heap} {tk : Nat} (F : Fr h₀ L h' m') (N : News h₀ L h' news') (hs : ∀ p ∈ led, p ∈ news') (hm : ∀ z, z ≠ x → st.contains z = false → m' z = m₀ z) :
    MineEndS h₀ L x st m₀ led s₁ { s₁ with heap := h', toks := tk } := ⟨h', tk, m', news', rfl, F, N, hs, hm⟩
def MineTurnS (prog : Program) (w : World) (A : Around) (h₀ : Heap) (env : Env) (x : Str) (st : List Str) (body : List Stmt) (Q : Flow → Shared → Prop) (E : Value → Shared → Prop) (m₀ : Str → Option Value) (led : List (Addr × Obj)) (a : Int) (n : Nat) (s : Shared) : Prop :=
  ∀ (k : Int) (t : Tok) (u : Str → Option Value) (h : Heap) (tk : Nat) (own : List (Addr × Obj)), a ≤ k → k < a + (n : Int) → OwnOff own (led.map (·.1)) → Fr h₀ env.locals h (fun y => if y = x then some (.int k t) else if st.contains y then u y else m₀ y) → News h₀ env.locals h (led ++ own) →
    wpAny (model prog w) A (execs body env) (MineOnS h₀ env.locals x st m₀ (led ++ own) { s with heap := h, toks := tk } Q) E { s with heap := h, toks := tk }
def MineDoneS (h₀ : Heap) (env : Env) (x : Str) (st : List Str) (Q : Flow → Shared → Prop) (m₀ : Str → Option Value) (led : List (Addr × Obj)) (s : Shared) : Prop :=
  ∀ (u : Str → Option Value) (h : Heap) (tk : Nat), Fr h₀ env.locals h (fun y => if y = x then u y else if st.contains y then u y else m₀ y) → News h₀ env.locals h led → Q .next { s with heap := h, toks := tk }
theorem searchS (st : List Str) {x : Str} {body : List Stmt} {r : Addr} {a b : Int} {t u v : Tok} {n : Nat} {m₀ : Str → Option Value} {led : List (Addr × Obj)} (hh : A.handled = none) (hr : IsRange s.heap r a b 1 t u v) (hsm : Builtin.Range.small a b 1 = true) (hn : Builtin.Range.rangeSize a b 1 = ((n : Nat) : Int))
    (F : Fr h₀ env.locals s.heap m₀) (N : News h₀ env.locals s.heap led)
    (turn : MineTurnS prog w A h₀ env x st body Q E m₀ led a n s)
    (done : MineDoneS h₀ env x st Q m₀ led s) :
    wpAny (model prog w) A (pyIter (.ref r)) (fun it s₂ => LoopAtV prog w A h₀ env x body Q E it s₂) E s := by
  have em : ∀ (u : Str → Option Value) (z : Str), kstB (fun z => if st.contains z then u z else m₀ z) [] z = if st.contains z then u z else m₀ z := fun u z => by simp [kstB]
  refine kst_range (σ := Unit) (fun _ => led) (fun _ => []) (fun _ => True) st (fun _ _ => True) () hh hr hsm hn F N True.intro (fun _ hp => nomatch hp) True.intro ?_ ?_
  · intro c pre k t u h tk own hk hlt hoff _ _ F' N'
    simp only [em] at F'
    refine wpAny_mono (turn k t u h tk own (by omega) (by omega) hoff F' N') (fun f s₂ q => ?_) fun _ _ e => e
    have up : MineEndS h₀ env.locals x st m₀ (led ++ own) { s with heap := h, toks := tk } s₂ → InvEndN h₀ env.locals (KstS (σ := Unit) (fun _ => led) (fun _ => []) (fun _ => True) x st m₀ (fun _ _ => True) (pre ++ [k])) own (led.map (·.1)) { s with heap := h, toks := tk } s₂ := by
      rintro ⟨h', tk', m', news', rfl, F₂, N₂, hs, hm⟩
      exact kst_end () F₂ N₂ (fun p hp => hs p (List.mem_append_left _ hp)) (fun p hp => hs p (List.mem_append_right _ hp)) rfl True.intro (fun _ hp => nomatch hp) (fun z hz _ hc => hm z hz hc) True.intro
    cases f with
    | ret v => exact q
    | brk => exact q
    | next => exact up q
    | cont => exact up q
  · intro c u h tk _ _ F' N'
    simp only [em] at F'
    exact done u h tk F' N'
end
end

section
local macro_rules | `(tactic| walk_at "compareOp In int ref") => `(tactic| (k_here; k_dflt (refine' inTop ?F ?X ?l ?i ?_; (case F => k_asm); (case X => k_asm); (case l => k_is); (case i => l_intsW); k_whole); (try simp only [List.any_cons, List.any_nil]); (try dsimp only)))
local macro_rules | `(tactic| walk_at "eval Call") => `(tactic| (k_here; (with_reducible show wpAny _ _ (eval (Expr.Call (Expr.Name _ _) _ [] _) _) _ _ _); k_dflt (refine Call_ ?_)))
set_option maxRecDepth 100000 in
set_option maxHeartbeats 8000000 in
theorem c_isleap (w : World) (y : Int) (ty : Tok) : Ctr w 21 2 (fun _ => True) [.int y ty] (backB (isleap y)) := by
  unfold Ctr
  k_with_none
  k_fill
  w_top off
  intro mean mg mb dp un gd cn cs a ccd cl outer A₀ base h₀ L m news s Q E B F X N T hk hd hu hpre hret
  refine wpAny_call ?_
  k_dflt cell_enter
  w_strict k_steps
  all_goals (first | (refine endB hret ?_ (by k_asm) (by k_asm) (fun _ h => h)))
  all_goals (first | (simp only [isleap, *]; grind))
local macro_rules | `(tactic| walk_at "call ref") => `(tactic| (k_here; k_dflt (refine' Ctr.use (c_isleap _ _ _) ?k1 ?k2 ?k3 ?k4 ?k5 ?k6 ?k7 ?k8 ?k9 ?_; (case k1 => k_asm); (case k2 => k_asm); (case k3 => k_asm); (case k4 => k_asm); (case k5 => k_asm); (case k6 => first | exact rfl | assumption); (case k7 => first | omega | ktr_room | decide); (case k8 => first | omega | ktr_units | decide); (case k9 => exact trivial)); unfold backB; intro v9 h9 tk9 e9 F9 N9; (try dsimp only); (try k_sweep); (try k_fold)))
set_option maxRecDepth 100000 in
set_option maxHeartbeats 8000000 in
theorem c_legal12 (w : World) (y : Int) (ty t1 t2 : Tok) : Ctr w 29 4 (fun _ => True) [.int y ty, .int 12 t1, .int 31 t2] (backB true) := by
  unfold Ctr
  k_with_none
  k_fill
  w_top off
  intro mean mg mb dp un gd cn cs a ccd cl outer A₀ base h₀ L m news s Q E B F X N T hk hd hu hpre hret
  refine wpAny_call ?_
  k_dflt cell_enter
  w_strict k_steps
  all_goals (first | (refine endB hret ?_ (by k_asm) (by k_asm) (fun _ h => h)))
  all_goals rfl
local macro_rules | `(tactic| walk_at "call ref") => `(tactic| (k_here; k_dflt (refine' Ctr.use (c_legal12 _ _ _ _ _) ?k1 ?k2 ?k3 ?k4 ?k5 ?k6 ?k7 ?k8 ?k9 ?_; (case k1 => k_asm); (case k2 => k_asm); (case k3 => k_asm); (case k4 => k_asm); (case k5 => k_asm); (case k6 => first | exact rfl | assumption); (case k7 => first | omega | ktr_room | decide); (case k8 => first | omega | ktr_units | decide); (case k9 => exact trivial)); unfold backB; intro v9 h9 tk9 e9 F9 N9; (try dsimp only); (try k_sweep); (try k_fold)))
set_option maxRecDepth 100000 in
set_option maxHeartbeats 8000000 in
theorem c_legal1 (w : World) (y : Int) (ty t1 t2 : Tok) : Ctr w 29 4 (fun _ => True) [.int y ty, .int 1 t1, .int 1 t2] (backB true) := by
  unfold Ctr
  k_with_none
  k_fill
  w_top off
  intro mean mg mb dp un gd cn cs a ccd cl outer A₀ base h₀ L m news s Q E B F X N T hk hd hu hpre hret
  refine wpAny_call ?_
  k_dflt cell_enter
  w_strict k_steps
  all_goals (first | (refine endB hret ?_ (by k_asm) (by k_asm) (fun _ h => h)))
  all_goals rfl
local macro_rules | `(tactic| walk_at "call ref") => `(tactic| (k_here; k_dflt (refine' Ctr.use (c_legal1 _ _ _ _ _) ?k1 ?k2 ?k3 ?k4 ?k5 ?k6 ?k7 ?k8 ?k9 ?_; (case k1 => k_asm); (case k2 => k_asm); (case k3 => k_asm); (case k4 => k_asm); (case k5 => k_asm); (case k6 => first | exact rfl | assumption); (case k7 => first | omega | ktr_room | decide); (case k8 => first | omega | ktr_units | decide); (case k9 => exact trivial)); unfold backB; intro v9 h9 tk9 e9 F9 N9; (try dsimp only); (try k_sweep); (try k_fold)))
set_option maxRecDepth 100000 in
set_option maxHeartbeats 8000000 in
theorem c_gjd12 (w : World) (y : Int) (ty t1 t2 : Tok) : Ctr w 36 6 (fun _ => True) [.int y ty, .int 12 t1, .int 31 t2] (backI (dec31 y)) := by
  unfold Ctr
  k_with_none
  k_fill
  w_top off
  intro mean mg mb dp un gd cn cs a ccd cl outer A₀ base h₀ L m news s Q E B F X N T hk hd hu hpre hret
  refine wpAny_call ?_
  k_dflt cell_enter
  w_strict k_steps
  all_goals (first | (refine endI hret ?_ (by k_asm) (by k_asm) (fun _ h => h)))
  all_goals (first | (subst_vars; (simp only [dec31, *]); omega) | (subst_vars; simp [dec31, *]; omega))
set_option maxRecDepth 100000 in
set_option maxHeartbeats 8000000 in
theorem c_gjd1 (w : World) (y : Int) (ty t1 t2 : Tok) : Ctr w 36 6 (fun _ => True) [.int y ty, .int 1 t1, .int 1 t2] (backI (jan1 y)) := by
  unfold Ctr
  k_with_none
  k_fill
  w_top off
  intro mean mg mb dp un gd cn cs a ccd cl outer A₀ base h₀ L m news s Q E B F X N T hk hd hu hpre hret
  refine wpAny_call ?_
  k_dflt cell_enter
  w_strict k_steps
  all_goals (first | (refine endI hret ?_ (by k_asm) (by k_asm) (fun _ h => h)))
  all_goals (first | (subst_vars; (simp only [jan1, *]); omega) | (subst_vars; simp [jan1, *]; omega))
set_option maxRecDepth 100000 in
set_option maxHeartbeats 8000000 in
theorem c_ijd (w : World) (y mo d : Int) (ty t1 t2 : Tok) : Ctr w 43 2 (fun _ => True) [.int y ty, .int mo t1, .int d t2] (backI (ijd y mo d)) := by
  unfold Ctr
  k_with_none
  k_fill
  w_top off
  intro mean mg mb dp un gd cn cs a ccd cl outer A₀ base h₀ L m news s Q E B F X N T hk hd hu hpre hret
  refine wpAny_call ?_
  k_dflt cell_enter
  w_strict k_steps
  all_goals (first | (refine endI hret ?_ (by k_asm) (by k_asm) (fun _ h => h)))
  all_goals (first | (simp only [ijd]; done))
end

section
local macro_rules | `(tactic| walk_at "compareOp In int ref") => `(tactic| (k_here; k_dflt (refine' inTop ?F ?X ?l ?i ?_; (case F => k_asm); (case X => k_asm); (case l => k_is); (case i => l_intsW); k_whole); (try simp only [List.any_cons, List.any_nil]); (try dsimp only)))
local macro_rules | `(tactic| walk_at "eval Call") => `(tactic| (k_here; (with_reducible show wpAny _ _ (eval (Expr.Call (Expr.Name _ _) _ [] _) _) _ _ _); k_dflt (refine Call_ ?_)))
local macro_rules | `(tactic| walk_at "call ref") => `(tactic| (k_here; k_dflt (refine' Ctr.use (c_ijd _ _ _ _ _ _ _) ?k1 ?k2 ?k3 ?k4 ?k5 ?k6 ?k7 ?k8 ?k9 ?_; (case k1 => k_asm); (case k2 => k_asm); (case k3 => k_asm); (case k4 => k_asm); (case k5 => k_asm); (case k6 => first | exact rfl | assumption); (case k7 => first | omega | ktr_room | decide); (case k8 => first | omega | ktr_units | decide); (case k9 => exact trivial)); unfold backI; intro v9 t9 h9 tk9 e9 F9 N9; (try dsimp only); (try k_sweep); (try k_fold)))
set_option maxRecDepth 100000 in
set_option maxHeartbeats 8000000 in
theorem c_from (w : World) (jd : Int) (ty : Tok) : Ctr w 50 4 (fun _ => True) [.int jd ty] (backT3 (fyear jd) (fmon jd) (fday jd)) := by
  unfold Ctr
  k_with_none
  k_fill
  w_top off
  intro mean mg mb dp un gd cn cs a ccd cl outer A₀ base h₀ L m news s Q E B F X N T hk hd hu hpre hret
  refine wpAny_call ?_
  k_dflt cell_enter
  w_strict k_steps
  all_goals (refine endT3 hret (by k_asm) (by k_asm) (List.Mem.head _) (fun _ h => .tail _ h) (allLt_of (by assumption)) ?_ ?_ ?_)
  all_goals (first | (subst_vars; rfl))
local macro_rules | `(tactic| walk_at "call ref") => `(tactic| (k_here; k_dflt (refine' Ctr.use (c_from _ _ _) ?k1 ?k2 ?k3 ?k4 ?k5 ?k6 ?k7 ?k8 ?k9 ?_; (case k1 => k_asm); (case k2 => k_asm); (case k3 => k_asm); (case k4 => k_asm); (case k5 => k_asm); (case k6 => first | exact rfl | assumption); (case k7 => first | omega | ktr_room | decide); (case k8 => first | omega | ktr_units | decide); (case k9 => exact trivial)); unfold backT3; intro v1 v2 v3 D9 t1 t2 t3 c9 h9 tk9 e1 e2 e3 F9 N9 l9; (try simp only [AllLt, and_true] at l9); (try dsimp only); (try k_sweep); (try k_fold)))
local macro_rules | `(tactic| walk_at "call ref") => `(tactic| (k_here; k_dflt (refine' Ctr.use (c_gjd1 _ _ _ _ _) ?k1 ?k2 ?k3 ?k4 ?k5 ?k6 ?k7 ?k8 ?k9 ?_; (case k1 => k_asm); (case k2 => k_asm); (case k3 => k_asm); (case k4 => k_asm); (case k5 => k_asm); (case k6 => first | exact rfl | assumption); (case k7 => first | omega | ktr_room | decide); (case k8 => first | omega | ktr_units | decide); (case k9 => exact trivial)); unfold backI; intro v9 t9 h9 tk9 e9 F9 N9; (try dsimp only); (try k_sweep); (try k_fold)))
set_option maxRecDepth 100000 in
set_option maxHeartbeats 8000000 in
theorem c_year (w : World) (y mo d : Int) (ty t1 t2 : Tok) : Ctr w 57 8 (fun _ => True) [.int y ty, .int mo t1, .int d t2] (backI (gyear y mo d)) := by
  unfold Ctr
  k_with_none
  k_fill
  w_top off
  intro mean mg mb dp un gd cn cs a ccd cl outer A₀ base h₀ L m news s Q E B F X N T hk hd hu hpre hret
  refine wpAny_call ?_
  k_dflt cell_enter
  w_strict k_steps
  all_goals (first | (refine endI hret ?_ (by k_asm) (by k_asm) (fun _ h => .tail _ h)))
  all_goals (subst_vars; unfold gyear; split <;> first | rfl | (exfalso; omega))
end

section
local macro_rules | `(tactic| walk_at "eval Call") => `(tactic| (k_here; (with_reducible show wpAny _ _ (eval (Expr.Call (Expr.Name _ _) _ [] _) _) _ _ _); k_dflt (refine Call_ ?_)))
local macro_rules | `(tactic| kst_facts) => `(tactic| first | ((try dsimp only); exact IntsAre.nil) | ((try dsimp only); exact IntsAre.append (by assumption) (.cons _ _ .nil)))
local macro_rules | `(tactic| walk_at "call ref") => `(tactic| (k_here; k_dflt (refine' Ctr.use (c_from _ _ _) ?k1 ?k2 ?k3 ?k4 ?k5 ?k6 ?k7 ?k8 ?k9 ?_; (case k1 => k_asm); (case k2 => k_asm); (case k3 => k_asm); (case k4 => k_asm); (case k5 => k_asm); (case k6 => first | exact rfl | assumption); (case k7 => first | omega | ktr_room | decide); (case k8 => first | omega | ktr_units | decide); (case k9 => exact trivial)); unfold backT3; intro v1 v2 v3 D9 t1 t2 t3 c9 h9 tk9 e1 e2 e3 F9 N9 l9; (try simp only [AllLt, and_true] at l9); (try dsimp only); (try k_sweep); (try k_fold)))
local macro_rules | `(tactic| walk_at "call ref") => `(tactic| (k_here; k_dflt (refine' Ctr.use (c_gjd12 _ _ _ _ _) ?k1 ?k2 ?k3 ?k4 ?k5 ?k6 ?k7 ?k8 ?k9 ?_; (case k1 => k_asm); (case k2 => k_asm); (case k3 => k_asm); (case k4 => k_asm); (case k5 => k_asm); (case k6 => first | exact rfl | assumption); (case k7 => first | omega | ktr_room | decide); (case k8 => first | omega | ktr_units | decide); (case k9 => exact trivial)); unfold backI; intro v9 t9 h9 tk9 e9 F9 N9; (try dsimp only); (try k_sweep); (try k_fold)))
theorem row_start {y v u : Int} (e9 : u = dec31 (y - 1)) (e1 : v = fyear u) : ([] : List Int).length = ([] : List Int).length ∧ ([] : List Int) = List.map (told1 y) [] ∧ v = fyear (dec31 (y + ((([] : List Int).length : Nat) : Int) - 1)) := by
  subst e9; subst e1; simp
theorem row_turn {y k before v u : Int} {pre told : List Int} (e9 : u = dec31 (y + k)) (e1 : v = fyear u) (hk : k = 0 + (pre.length : Int)) (h1 : told.length = pre.length) (h2 : told = pre.map (told1 y)) (h3 : before = fyear (dec31 (y + (pre.length : Int) - 1))) :
    (told ++ [v - before]).length = (pre ++ [k]).length ∧ told ++ [v - before] = (pre ++ [k]).map (told1 y) ∧ v = fyear (dec31 (y + ((pre ++ [k]).length : Int) - 1)) := by
  subst e9; subst e1
  have e : y + (pre.length : Int) - 1 = y + k - 1 := by omega
  refine ⟨by simp [h1], ?_, ?_⟩
  · rw [h2, h3, e, List.map_append]; rfl
  · congr 2
    rw [List.length_append, List.length_singleton]
    omega
set_option maxRecDepth 100000 in
set_option maxHeartbeats 8000000 in
theorem c_row (w : World) (y : Int) (ty : Tok) : Ctr w 90 10 (fun _ => True) [.int y ty] (backL ((rangeKs 0 68).map (told1 y))) := by
  unfold Ctr
  k_fill
  w_top off
  intro mean mg mb dp un gd cn cs a ccd cl outer A₀ base h₀ L m news s Q E B F X N T hk hd hu hpre hret
  refine wpAny_call ?_
  k_dflt cell_enter
  k_with "pyIter ref" => k_state (fun pre told before => told.length = pre.length ∧ told = pre.map (told1 y) ∧ before = fyear (dec31 (y + (pre.length : Int) - 1))) "told" "before"
  k_with "state" => first | exact row_start (by with_reducible assumption) (by with_reducible assumption) | exact row_turn (by with_reducible assumption) (by with_reducible assumption) (by with_reducible assumption) (by with_reducible assumption) (by with_reducible assumption) (by with_reducible assumption)
  w_strict k_steps
  all_goals (try k_data)
  refine' endL hret ?i ?F ?N ?d ?s ?l ?e
  case i => assumption
  case F => k_asm
  case N => k_asm
  case d => k_mem
  case s => kcj_all
  case l => exact allLt_of (by assumption)
  case e => assumption
end

section
local macro_rules | `(tactic| walk_at "compareOp In int ref") => `(tactic| (k_here; k_dflt (refine' inTop ?F ?X ?l ?i ?_; (case F => k_asm); (case X => k_asm); (case l => k_is); (case i => l_intsW); k_whole); (try simp only [List.any_cons, List.any_nil]); (try dsimp only)))
local macro_rules | `(tactic| walk_at "eval Call") => `(tactic| (k_here; (with_reducible show wpAny _ _ (eval (Expr.Call (Expr.Name _ _) _ [] _) _) _ _ _); k_dflt (refine Call_ ?_)))
local macro_rules | `(tactic| walk_at "call builtin:divmod") => `(tactic| (k_here; (with_reducible show wpAny _ _ (call (Value.builtin _) [Value.int _ _, Value.int _ _]) _ _ _); k_dflt (refine' divmod_D ?F ?N ?b ?p ?_; (case F => k_asm); (case N => k_asm); (case b => decide); (case p => exact PyProof.noPylong_of_log2 (by decide +kernel)); k_whole); intro D9 t1 t2 h9 tk9 F9 N9 l9; (try simp only [AllLt, and_true] at l9); (try dsimp only); (try k_sweep); (try k_fold)))
local macro_rules | `(tactic| k_all) => `(tactic| first | exact allNe0 (by assumption) | exact allNe1 (by assumption) | exact allNe (by assumption) (by omega))
local macro_rules | `(tactic| walk_at "eval ListComp") => `(tactic| (k_here; k_dflt (refine ListComp_Tup (F₀ := by k_asm) (by with_unfolding_all rfl) (by decide) (by rfl) (by decide) (by rfl) (by decide) ?_); (try k_fold)))
local macro_rules | `(tactic| walk_at "SrcTT") => `(tactic| (k_here; k_dflt (refine' SrcTT.intro ?h ?F ?N ?X ?l ?i ?z ?_ ?_; (case h => rfl); (case F => k_asm); (case N => k_asm); (case X => k_asm); (case l => k_is); (case i => l_intsW); (case z => decide); kcf_last)))
local macro_rules | `(tactic| walk_at "TurnsP") => `(tactic| (k_here; unfold TurnsP; intro k9 t9 I9 oI9 C9 oC9 D9 m9 ys9 h9 tk9 E9 hk9 hC9 hx9 F9 N9; (try (have hb9 := mem_rangeKs hk9)); (try dsimp only); (try k_fold)))
local macro_rules | `(tactic| walk_at "FinP") => `(tactic| (k_here; unfold FinP; intro D9 h9 tk9 ys9 hy9 F9 N9 off9; (try dsimp only); (try simp only [LCg.Off1, and_true] at off9); (try k_sweep); (try k_fold)))
local macro_rules | `(tactic| walk_at "TurnEndP") => `(tactic| (k_here; k_dflt (refine' turnEndP ?F ?N ?S ?_; (case F => k_asm); (case N => k_asm); (case S => first | exact fun _ h => h | kcj_all); exact rfl)))
local macro_rules | `(tactic| walk_at "call builtin:len") => `(tactic| (k_here; (with_reducible show wpAny _ _ (call (Value.builtin "len") [Value.ref _]) _ _ _); k_dflt (refine' lenFil ?N ?i ?m ?z ?_; (case N => k_asm); (case i => assumption); (case m => k_mem); (case z => first | decide | (simp only [rangeKs_length]; decide))); intro t9 tk9; (try dsimp only); (try k_fold)))
set_option maxRecDepth 100000 in
set_option maxHeartbeats 8000000 in
theorem c_jan (w : World) (y : Int) (ty : Tok) : Ctr w 73 4 (fun _ => True) [.int y ty] (backI (ljan y)) := by
  unfold Ctr
  k_with_none
  k_fill
  w_top off
  intro mean mg mb dp un gd cn cs a ccd cl outer A₀ base h₀ L m news s Q E B F X N T hk hd hu hpre hret
  refine wpAny_call ?_
  k_dflt cell_enter
  w_strict k_steps
  all_goals (first | (refine endI hret ?_ (by k_asm) (by k_asm) (fun _ h => .tail _ h)))
  all_goals (first | (simp only [ljan, *]; done))
set_option maxRecDepth 100000 in
set_option maxHeartbeats 8000000 in
theorem c_start (w : World) (y : Int) (ty : Tok) : Ctr w 78 4 (fun _ => True) [.int y ty] (backI (lstart y)) := by
  unfold Ctr
  k_with_none
  k_fill
  w_top off
  intro mean mg mb dp un gd cn cs a ccd cl outer A₀ base h₀ L m news s Q E B F X N T hk hd hu hpre hret
  refine wpAny_call ?_
  k_dflt (refine' code_defC ?k1 ?k2 ?k3 ?k4 ?k5 ?kA ?kF ?kK ?k6 ?k7 ?k8 ?k9 ?kB ?kD ?_ ?c2 ?c3 ?c4; (case kA => exact rfl); (case kF => exact rfl); (case kK => assumption); (case k1 => k_asm); (case k2 => k_asm); (case k3 => k_asm); (case k4 => k_asm); (case k5 => k_asm); (case k6 => k_is); (case k7 => k_is); (case k8 => ktr_room); (case k9 => exact BindsTo.of_eq rfl); (case kB => exact rfl); (case kD => decide +kernel); (case c2 => exact rfl); (case c3 => exact rfl); (case c4 => exact rfl); k_whole; intro g' L' h' tk' cells' FG' F' N' Y' B' X' T' l1; (replace l1 := allLt_of l1); (try simp only [AllLt, and_true] at l1); k_cells Y'; (try simp only [List.cons_append, List.nil_append] at N'); (try dsimp only); (try k_lift B'); (try k_fold))
  w_strict k_steps
  all_goals (first | (refine endI hret ?_ (by k_asm) (by k_asm) (by kcj_all)))
  all_goals (first | rfl)
end

section
local macro_rules | `(tactic| walk_at "none of these") => `(tactic| skip)
local macro_rules | `(tactic| walk_at "compareOp In int ref") => `(tactic| (k_here; k_dflt (refine' inTop ?F ?X ?l ?i ?_; (case F => k_asm); (case X => k_asm); (case l => k_is); (case i => l_intsW); k_whole); (try simp only [List.any_cons, List.any_nil]); (try dsimp only)))
local macro_rules | `(tactic| walk_at "eval Call") => `(tactic| (k_here; (with_reducible show wpAny _ _ (eval (Expr.Call (Expr.Name _ _) _ [] _) _) _ _ _); k_dflt (refine Call_ ?_)))
local macro_rules | `(tactic| walk_at "call builtin:divmod") => `(tactic| (k_here; (with_reducible show wpAny _ _ (call (Value.builtin _) [Value.int _ _, Value.int _ _]) _ _ _); k_dflt (refine' divmod_D ?F ?N ?b ?p ?_; (case F => k_asm); (case N => k_asm); (case b => decide); (case p => exact PyProof.noPylong_of_log2 (by decide +kernel)); k_whole); intro D9 t1 t2 h9 tk9 F9 N9 l9; (try simp only [AllLt, and_true] at l9); (try dsimp only); (try k_sweep); (try k_fold)))
local macro_rules | `(tactic| k_all) => `(tactic| first | exact allNe0 (by assumption) | exact allNe1 (by assumption) | exact allNe (by assumption) (by omega))
local macro_rules | `(tactic| walk_at "eval ListComp") => `(tactic| (k_here; k_dflt (refine ListComp_Tup (F₀ := by k_asm) (by with_unfolding_all rfl) (by decide) (by rfl) (by decide) (by rfl) (by decide) ?_); (try k_fold)))
local macro_rules | `(tactic| walk_at "SrcTT") => `(tactic| (k_here; k_dflt (refine' SrcTT.intro ?h ?F ?N ?X ?l ?i ?z ?_ ?_; (case h => rfl); (case F => k_asm); (case N => k_asm); (case X => k_asm); (case l => k_is); (case i => l_intsW); (case z => decide); kcf_last)))
local macro_rules | `(tactic| walk_at "TurnsP") => `(tactic| (k_here; unfold TurnsP; intro k9 t9 I9 oI9 C9 oC9 D9 m9 ys9 h9 tk9 E9 hk9 hC9 hx9 F9 N9; (try (have hb9 := mem_rangeKs hk9)); (try dsimp only); (try k_fold)))
local macro_rules | `(tactic| walk_at "FinP") => `(tactic| (k_here; unfold FinP; intro D9 h9 tk9 ys9 hy9 F9 N9 off9; (try dsimp only); (try simp only [LCg.Off1, and_true] at off9); (try k_sweep); (try k_fold)))
local macro_rules | `(tactic| walk_at "TurnEndP") => `(tactic| (k_here; k_dflt (refine' turnEndP ?F ?N ?S ?_; (case F => k_asm); (case N => k_asm); (case S => first | exact fun _ h => h | kcj_all); exact rfl)))
local macro_rules | `(tactic| walk_at "call builtin:len") => `(tactic| (k_here; (with_reducible show wpAny _ _ (call (Value.builtin "len") [Value.ref _]) _ _ _); k_dflt (refine' lenFil ?N ?i ?m ?z ?_; (case N => k_asm); (case i => assumption); (case m => k_mem); (case z => first | decide | (simp only [rangeKs_length]; decide))); intro t9 tk9; (try dsimp only); (try k_fold)))
set_option maxRecDepth 100000 in
set_option maxHeartbeats 8000000 in
theorem c_place (w : World) (n : Int) (ty : Tok) : Ctr w 83 4 (fun _ => True) [.int n ty] (backT2 (pyear n) (pmon n)) := by
  unfold Ctr
  k_with_none
  k_fill
  w_top off
  intro mean mg mb dp un gd cn cs a ccd cl outer A₀ base h₀ L m news s Q E B F X N T hk hd hu hpre hret
  refine wpAny_call ?_
  k_dflt (refine' code_defC ?k1 ?k2 ?k3 ?k4 ?k5 ?kA ?kF ?kK ?k6 ?k7 ?k8 ?k9 ?kB ?kD ?_ ?c2 ?c3 ?c4; (case kA => exact rfl); (case kF => exact rfl); (case kK => assumption); (case k1 => k_asm); (case k2 => k_asm); (case k3 => k_asm); (case k4 => k_asm); (case k5 => k_asm); (case k6 => k_is); (case k7 => k_is); (case k8 => ktr_room); (case k9 => exact BindsTo.of_eq rfl); (case kB => exact rfl); (case kD => decide +kernel); (case c2 => exact rfl); (case c3 => exact rfl); (case c4 => exact rfl); k_whole; intro g' L' h' tk' cells' FG' F' N' Y' B' X' T' l1; (replace l1 := allLt_of l1); (try simp only [AllLt, and_true] at l1); k_cells Y'; (try simp only [List.cons_append, List.nil_append] at N'); (try dsimp only); (try k_lift B'); (try k_fold))
  w_strict k_steps
  all_goals (try k_data)
  all_goals first
    | (have hE := place_hi (psize_t (n := n) (by assumption)) (by assumption) (by assumption) (by assumption) (by assumption); exact endT2 hret (by k_asm) (by k_asm) (List.Mem.head _) (by kcj_all) (allLt3 (by assumption)) hE.1 hE.2)
    | (have hE := place_lo (psize_t (n := n) (by assumption)) (by assumption) (by assumption) (by assumption) (by assumption); exact endT2 hret (by k_asm) (by k_asm) (List.Mem.head _) (by kcj_all) (allLt3 (by assumption)) hE.1 hE.2)
    | (have hE := place_hi (psize_f (n := n) (by assumption)) (by assumption) (by assumption) (by assumption) (by assumption); exact endT2 hret (by k_asm) (by k_asm) (List.Mem.head _) (by kcj_all) (allLt3 (by assumption)) hE.1 hE.2)
    | (have hE := place_lo (psize_f (n := n) (by assumption)) (by assumption) (by assumption) (by assumption) (by assumption); exact endT2 hret (by k_asm) (by k_asm) (List.Mem.head _) (by kcj_all) (allLt3 (by assumption)) hE.1 hE.2)
end

section
local macro_rules | `(tactic| walk_at "compareOp In int ref") => `(tactic| (k_here; k_dflt (refine' inTop ?F ?X ?l ?i ?_; (case F => k_asm); (case X => k_asm); (case l => k_is); (case i => l_intsW); k_whole); (try simp only [List.any_cons, List.any_nil]); (try dsimp only)))
local macro_rules | `(tactic| walk_at "eval Call") => `(tactic| (k_here; (with_reducible show wpAny _ _ (eval (Expr.Call (Expr.Name _ _) _ [] _) _) _ _ _); k_dflt (refine Call_ ?_)))
local macro_rules | `(tactic| k_all) => `(tactic| first | exact allNe0 (by assumption) | exact allNe1 (by assumption) | exact allNe (by assumption) (by omega))
local macro_rules | `(tactic| walk_at "eval ListComp") => `(tactic| (k_here; k_dflt (refine ListComp_Tup (F₀ := by k_asm) (by with_unfolding_all rfl) (by decide) (by rfl) (by decide) (by rfl) (by decide) ?_); (try k_fold)))
local macro_rules | `(tactic| walk_at "SrcTT") => `(tactic| (k_here; k_dflt (refine' SrcTT.intro ?h ?F ?N ?X ?l ?i ?z ?_ ?_; (case h => rfl); (case F => k_asm); (case N => k_asm); (case X => k_asm); (case l => k_is); (case i => l_intsW); (case z => decide); kcf_last)))
local macro_rules | `(tactic| walk_at "TurnsP") => `(tactic| (k_here; unfold TurnsP; intro k9 t9 I9 oI9 C9 oC9 D9 m9 ys9 h9 tk9 E9 hk9 hC9 hx9 F9 N9; (try (have hb9 := mem_rangeKs hk9)); (try dsimp only); (try k_fold)))
local macro_rules | `(tactic| walk_at "FinP") => `(tactic| (k_here; unfold FinP; intro D9 h9 tk9 ys9 hy9 F9 N9 off9; (try dsimp only); (try simp only [LCg.Off1, and_true] at off9); (try k_sweep); (try k_fold)))
local macro_rules | `(tactic| walk_at "TurnEndP") => `(tactic| (k_here; k_dflt (refine' turnEndP ?F ?N ?S ?_; (case F => k_asm); (case N => k_asm); (case S => first | exact fun _ h => h | kcj_all); exact rfl)))
local macro_rules | `(tactic| walk_at "exec Assign cons ListComp") => `(tactic| (k_here; k_dflt (refine LCt.Assign_ListComp_T (F₀ := by k_asm) (by rfl) (by with_unfolding_all rfl) (by with_unfolding_all rfl) (by decide) (by rfl) (by decide) (by rfl) (by rfl) (by rfl) ?_); (try k_fold)))
local macro_rules | `(tactic| walk_at "eval ListComp") => `(tactic| (k_here; k_dflt (refine LCt.ListComp_T (F₀ := by k_asm) (by with_unfolding_all rfl) (by decide) (by rfl) (by decide) (by rfl) ?_); (try k_fold)))
local macro_rules | `(tactic| walk_at "CompSrcT") => `(tactic| (k_here; k_dflt (refine' srcR ?h ?F ?N ?r ?a ?b ?c ?k ?x ?d ?_ ?_; (case h => rfl); (case F => k_asm); (case N => k_asm); (case r => assumption); (case a => decide); (case b => exact rs68); (case c => decide); (case k => rfl); (case x => rfl); (case d => decide); kcf_last)))
local macro_rules | `(tactic| walk_at "FinF") => `(tactic| (k_here; unfold FinF; intro fs9 ys9 g9 ef9 lf9 hy9; (try dsimp only)))
local macro_rules | `(tactic| walk_at "subscriptTail") => `(tactic| (k_here; (with_reducible show wpAny _ _ (subscriptTail _ _ (Value.ref _) (Value.int _ _)) _ _ _); k_dflt (refine' itemLed ?N ?m ?i ?a ?b ?c ?_ ?d; (case N => k_asm); (case m => kcj_m); (case i => with_reducible assumption); (case a => omega); (case b => omega); (case c => omega); (case d => with_unfolding_all rfl)); intro t9; (try dsimp only); (try k_fold)))
local macro_rules | `(tactic| walk_at "compareOp NotEq ref ref") => `(tactic| (k_here; (with_reducible show wpAny _ _ (compareOp CmpOp.NotEq (Value.ref _) (Value.ref _)) _ _ _); k_dflt (refine' neNil ?N ?a ?i ?b ?u ?e ?_; (case N => k_asm); (case a => kcj_m); (case i => with_reducible assumption); (case b => kcj_m); (case u => first | omega | ktr_units); (case e => k_extra "nil")); (try dsimp only)))
local macro_rules | `(tactic| walk_at "call builtin:len") => `(tactic| (k_here; (with_reducible show wpAny _ _ (call (Value.builtin "len") [Value.ref _]) _ _ _); k_dflt (refine' lenFil ?N ?i ?m ?z ?_; (case N => k_asm); (case i => assumption); (case m => k_mem); (case z => first | decide | (simp only [rangeKs_length]; decide))); intro t9 tk9; (try dsimp only); (try k_fold)))
local macro_rules | `(tactic| walk_at "call builtin:len") => `(tactic| (k_here; (with_reducible show wpAny _ _ (call (Value.builtin "len") [Value.ref _]) _ _ _); k_dflt (refine' lenLed ?N ?m ?i ?z ?_; (case N => k_asm); (case m => kcj_m); (case i => with_reducible assumption); (case z => with_reducible assumption)); intro t9 tk9; (try dsimp only); (try k_fold)))
local macro_rules | `(tactic| walk_at "exec For Name Call cons nil") => `(tactic| (k_here; (rename Fr _ _ _ _ => lF'); (with_unfolding_all refine' For_invVF lF' ?k1 ?k2 ?_; (case k1 => exact rfl); (case k2 => exact rfl); k_whole)))
local macro_rules | `(tactic| walk_at "pyIter ref") => `(tactic| (k_here; (with_reducible show wpAny _ _ (pyIter (Value.ref _)) (fun it s₂ => LoopAtV _ _ _ _ _ _ _ _ _ it s₂) _ _); k_dflt (refine' searchR ?h ?r ?a ?b ?F ?N ?_ ?_; (case h => rfl); (case r => assumption); (case a => first | decide | exact small_one (by omega) (by omega) (by omega) (by omega)); (case b => first | exact rs68 | exact rangeSize_nat _ _); (case F => k_asm); (case N => k_asm))))
local macro_rules | `(tactic| walk_at "MineTurn") => `(tactic| (k_here; unfold MineTurn; intro k9 t9 h9 tk9 own9 lo9 hi9 off9 F9 N9; (try simp only [List.cons_append, List.nil_append] at N9); (try dsimp only); (try k_fold)))
local macro_rules | `(tactic| walk_at "MineDone") => `(tactic| (k_here; unfold MineDone; intro v9 h9 tk9 F9 N9; (try dsimp only); (try k_sweep); (try k_fold)))
local macro_rules | `(tactic| walk_at "MineOn") => `(tactic| (dsimp only [MineOn]))
local macro_rules | `(tactic| walk_at "MineEnd") => `(tactic| (k_here; k_dflt (refine' mineEnd ?F ?N ?S ?m; (case F => k_asm); (case N => k_asm); (case S => first | exact fun _ h => h | kcj_all); (case m => (intro z hz; first | rfl | (simp [hz]; done))))))
set_option maxRecDepth 100000 in
set_option maxHeartbeats 8000000 in
theorem c_right (w : World) (y : Int) (ty : Tok) (l : Addr) (vs : List Value) (c : Nat) (ns : List Int) (hns : ns = (rangeKs 0 68).map (told1 y)) (hi : IntsAre vs ns) : Ctr w 95 20 (fun news => (l, PySem.W.listOf vs.toArray c) ∈ news) [.int y ty, .ref l] (backB true) := by
  have hlen := row_len hns
  k_with "nil" => (exact (by with_reducible assumption : _ = _).trans (row_nil hns))
  unfold Ctr
  k_fill
  w_top off
  intro mean mg mb dp un gd cn cs a ccd cl outer A₀ base h₀ L m news s Q E B F X N T hk hd hu hpre hret
  refine wpAny_call ?_
  k_dflt (refine' code_defC ?k1 ?k2 ?k3 ?k4 ?k5 ?kA ?kF ?kK ?k6 ?k7 ?k8 ?k9 ?kB ?kD ?_ ?c2 ?c3 ?c4; (case kA => exact rfl); (case kF => exact rfl); (case kK => assumption); (case k1 => k_asm); (case k2 => k_asm); (case k3 => k_asm); (case k4 => k_asm); (case k5 => k_asm); (case k6 => k_is); (case k7 => k_is); (case k8 => ktr_room); (case k9 => exact BindsTo.of_eq rfl); (case kB => exact rfl); (case kD => decide +kernel); (case c2 => exact rfl); (case c3 => exact rfl); (case c4 => exact rfl); k_whole; intro g' L' h' tk' cells' FG' F' N' Y' B' X' T' l1; (replace l1 := allLt_of l1); (try simp only [AllLt, and_true] at l1); k_cells Y'; (try simp only [List.cons_append, List.nil_append] at N'); (try dsimp only); (try k_lift B'); (try k_fold))
  w_strict k_steps
  all_goals (try k_data)
  all_goals first
    | exact (no1 hns (by with_reducible assumption) (by with_reducible assumption)).elim
    | exact (no2 hns (by with_reducible assumption) (by with_reducible assumption)).elim
    | exact (no3 hns (by with_reducible assumption) (by with_reducible assumption) (by with_reducible assumption) (by with_reducible assumption)).elim
    | exact (no4 hns (by with_reducible assumption) (by with_reducible assumption) (by with_reducible assumption) (by with_reducible assumption) (by with_reducible assumption)).elim
    | exact endB hret rfl (by k_asm) (by k_asm) (by kcj_all)
end

section
local macro_rules | `(tactic| walk_at "eval Call") => `(tactic| (k_here; (with_reducible show wpAny _ _ (eval (Expr.Call (Expr.Name _ _) _ [] _) _) _ _ _); k_dflt (refine Call_ ?_)))
local macro_rules | `(tactic| walk_at "execs cons If nil") => `(tactic| (k_here; k_dflt (refine wpAny_execs_cons ?_)))
local macro_rules | `(tactic| walk_at "execs cons If cons") => `(tactic| (k_here; k_dflt (refine wpAny_execs_cons ?_)))
local macro_rules | `(tactic| walk_at "exec If Compare cons nil") => `(tactic| (k_here; k_dflt (refine wpAny_If ?_)))
local macro_rules | `(tactic| walk_at "call ref") => `(tactic| (k_here; k_dflt (refine' Ctr.use (c_jan _ _ _) ?k1 ?k2 ?k3 ?k4 ?k5 ?k6 ?k7 ?k8 ?k9 ?_; (case k1 => k_asm); (case k2 => k_asm); (case k3 => k_asm); (case k4 => k_asm); (case k5 => k_asm); (case k6 => first | exact rfl | assumption); (case k7 => first | omega | ktr_room | decide); (case k8 => first | omega | ktr_units | decide); (case k9 => exact trivial)); unfold backI; intro v9 t9 h9 tk9 e9 F9 N9; (try dsimp only); (try k_sweep); (try k_fold)))
local macro_rules | `(tactic| walk_at "call ref") => `(tactic| (k_here; k_dflt (refine' Ctr.use (c_start _ _ _) ?k1 ?k2 ?k3 ?k4 ?k5 ?k6 ?k7 ?k8 ?k9 ?_; (case k1 => k_asm); (case k2 => k_asm); (case k3 => k_asm); (case k4 => k_asm); (case k5 => k_asm); (case k6 => first | exact rfl | assumption); (case k7 => first | omega | ktr_room | decide); (case k8 => first | omega | ktr_units | decide); (case k9 => exact trivial)); unfold backI; intro v9 t9 h9 tk9 e9 F9 N9; (try dsimp only); (try k_sweep); (try k_fold)))
local macro_rules | `(tactic| walk_at "call ref") => `(tactic| (k_here; k_dflt (refine' Ctr.use (c_place _ _ _) ?k1 ?k2 ?k3 ?k4 ?k5 ?k6 ?k7 ?k8 ?k9 ?_; (case k1 => k_asm); (case k2 => k_asm); (case k3 => k_asm); (case k4 => k_asm); (case k5 => k_asm); (case k6 => first | exact rfl | assumption); (case k7 => first | omega | ktr_room | decide); (case k8 => first | omega | ktr_units | decide); (case k9 => exact trivial)); unfold backT2; intro v1 v2 D9 t1 t2 c9 h9 tk9 e1 e2 F9 N9 l9; (try simp only [AllLt, and_true] at l9); (try dsimp only); (try k_sweep); (try k_fold)))
local macro_rules | `(tactic| walk_at "call ref") => `(tactic| (k_here; k_dflt (refine' Ctr.use (c_year _ _ _ _ _ _ _) ?k1 ?k2 ?k3 ?k4 ?k5 ?k6 ?k7 ?k8 ?k9 ?_; (case k1 => k_asm); (case k2 => k_asm); (case k3 => k_asm); (case k4 => k_asm); (case k5 => k_asm); (case k6 => first | exact rfl | assumption); (case k7 => first | omega | ktr_room | decide); (case k8 => first | omega | ktr_units | decide); (case k9 => exact trivial)); unfold backI; intro v9 t9 h9 tk9 e9 F9 N9; (try dsimp only); (try k_sweep); (try k_fold)))
local macro_rules | `(tactic| walk_at "exec For Name Call cons nil") => `(tactic| (k_here; (rename Fr _ _ _ _ => lF'); (with_unfolding_all refine' For_invVF lF' ?k1 ?k2 ?_; (case k1 => exact rfl); (case k2 => exact rfl); k_whole)))
local macro_rules | `(tactic| walk_at "pyIter ref") => `(tactic| (k_here; (with_reducible show wpAny _ _ (pyIter (Value.ref _)) (fun it s₂ => LoopAtV _ _ _ _ _ _ _ _ _ it s₂) _ _); k_dflt (refine' searchS [Str.ofString "due"] ?h ?r ?a ?b ?F ?N ?_ ?_; (case h => rfl); (case r => assumption); (case a => first | decide | exact small_one (by omega) (by omega) (by omega) (by omega)); (case b => first | exact rs68 | exact rs12 | exact rangeSize_nat _ _); (case F => k_asm); (case N => k_asm))))
local macro_rules | `(tactic| walk_at "MineTurnS") => `(tactic| (k_here; unfold MineTurnS; intro k9 t9 u9 h9 tk9 own9 lo9 hi9 off9 F9 N9; (try simp only [List.cons_append, List.nil_append] at N9); (try dsimp only); (try k_fold)))
local macro_rules | `(tactic| walk_at "MineDoneS") => `(tactic| (k_here; unfold MineDoneS; intro u9 h9 tk9 F9 N9; (try dsimp only); (try k_sweep); (try k_fold)))
local macro_rules | `(tactic| walk_at "MineOnS") => `(tactic| (dsimp only [MineOnS]))
local macro_rules | `(tactic| walk_at "MineEndS") => `(tactic| (k_here; k_dflt (refine' mineEndS ?F ?N ?S ?m; (case F => k_asm); (case N => k_asm); (case S => first | exact fun _ h => h | kcj_all); (case m => (intro z hz hc; (simp only [List.contains_cons, List.contains_nil, Bool.or_false, beq_eq_false_iff_ne, ne_eq] at hc); simp [hz, hc])))))
set_option maxRecDepth 100000 in
set_option maxHeartbeats 8000000 in
theorem c_months (w : World) (y d : Int) (ty td : Tok) : Ctr w 102 20 (fun _ => True) [.int y ty, .int d td] (backB true) := by
  unfold Ctr
  k_with_none
  k_fill
  w_top off
  intro mean mg mb dp un gd cn cs a ccd cl outer A₀ base h₀ L m news s Q E B F X N T hk hd hu hpre hret
  refine wpAny_call ?_
  k_dflt cell_enter
  w_strict k_steps
  all_goals (try k_data)
  all_goals first
    | exact (no5 (y := y) (d := d) (by with_reducible assumption) (by with_reducible assumption) (by with_reducible assumption) (by with_reducible assumption) (by with_reducible assumption) (by with_reducible assumption) (by with_reducible assumption)).elim
    | exact (no6 (y := y) (d := d) (by with_reducible assumption) (by with_reducible assumption) (by with_reducible assumption) (by with_reducible assumption) (by with_reducible assumption) (by with_reducible assumption) (by with_reducible assumption)).elim
    | exact endB hret rfl (by k_asm) (by k_asm) (by kcj_all)
end
end Mine
open Mine
local macro_rules | `(tactic| walk_at "eval Call") => `(tactic| (k_here; (with_reducible show wpAny _ _ (eval (Expr.Call (Expr.Name _ _) _ [] _) _) _ _ _); k_dflt (refine Call_ ?_)))
local macro_rules | `(tactic| walk_at "execs cons If nil") => `(tactic| (k_here; k_dflt (refine wpAny_execs_cons ?_)))
local macro_rules | `(tactic| walk_at "execs cons If cons") => `(tactic| (k_here; k_dflt (refine wpAny_execs_cons ?_)))
local macro_rules | `(tactic| walk_at "exec If Compare cons nil") => `(tactic| (k_here; k_dflt (refine wpAny_If ?_)))
local macro_rules | `(tactic| walk_at "subscriptTail") => `(tactic| (k_here; (with_reducible show wpAny _ _ (subscriptTail _ _ (Value.ref _) (Value.int _ _)) _ _ _); k_dflt (refine' itemLed ?N ?m ?i ?a ?b ?c ?_ ?d; (case N => k_asm); (case m => kcj_m); (case i => with_reducible assumption); (case a => omega); (case b => omega); (case c => omega); (case d => with_unfolding_all rfl)); intro t9; (try dsimp only); (try k_fold)))
local macro_rules | `(tactic| walk_at "call ref") => `(tactic| (k_here; k_dflt (refine' Ctr.use (c_jan _ _ _) ?k1 ?k2 ?k3 ?k4 ?k5 ?k6 ?k7 ?k8 ?k9 ?_; (case k1 => k_asm); (case k2 => k_asm); (case k3 => k_asm); (case k4 => k_asm); (case k5 => k_asm); (case k6 => first | exact rfl | assumption); (case k7 => first | omega | ktr_room | decide); (case k8 => first | omega | ktr_units | decide); (case k9 => exact trivial)); unfold backI; intro v9 t9 h9 tk9 e9 F9 N9; (try dsimp only); (try k_sweep); (try k_fold)))
local macro_rules | `(tactic| walk_at "call ref") => `(tactic| (k_here; k_dflt (refine' Ctr.use (c_place _ _ _) ?k1 ?k2 ?k3 ?k4 ?k5 ?k6 ?k7 ?k8 ?k9 ?_; (case k1 => k_asm); (case k2 => k_asm); (case k3 => k_asm); (case k4 => k_asm); (case k5 => k_asm); (case k6 => first | exact rfl | assumption); (case k7 => first | omega | ktr_room | decide); (case k8 => first | omega | ktr_units | decide); (case k9 => exact trivial)); unfold backT2; intro v1 v2 D9 t1 t2 c9 h9 tk9 e1 e2 F9 N9 l9; (try simp only [AllLt, and_true] at l9); (try dsimp only); (try k_sweep); (try k_fold)))
local macro_rules | `(tactic| walk_at "call ref") => `(tactic| (k_here; k_dflt (refine' Ctr.use (c_row _ _ _) ?k1 ?k2 ?k3 ?k4 ?k5 ?k6 ?k7 ?k8 ?k9 ?_; (case k1 => k_asm); (case k2 => k_asm); (case k3 => k_asm); (case k4 => k_asm); (case k5 => k_asm); (case k6 => first | exact rfl | assumption); (case k7 => first | omega | ktr_room | decide); (case k8 => first | omega | ktr_units | decide); (case k9 => exact trivial)); unfold backL; intro ns9 D9 vs9 c9 h9 tk9 e9 hi9 F9 N9 l9; (try simp only [AllLt, and_true] at l9); (have hl9 := row_len e9); (try dsimp only); (try k_sweep); (try k_fold)))
local macro_rules | `(tactic| walk_at "call ref") => `(tactic| (k_here; k_dflt (refine' Ctr.use (c_right _ _ _ _ _ _ _ ?kh ?ki) ?k1 ?k2 ?k3 ?k4 ?k5 ?k6 ?k7 ?k8 ?k9 ?_; (case k1 => k_asm); (case k2 => k_asm); (case k3 => k_asm); (case k4 => k_asm); (case k5 => k_asm); (case k6 => first | exact rfl | assumption); (case k7 => first | omega | ktr_room | decide); (case k8 => first | omega | ktr_units | decide); (case k9 => kcj_m); (case ki => with_reducible assumption); (case kh => with_reducible assumption)); unfold backB; intro v9 h9 tk9 e9 F9 N9; subst e9; (try dsimp only); (try k_sweep); (try k_fold)))
local macro_rules | `(tactic| walk_at "call ref") => `(tactic| (k_here; k_dflt (refine' Ctr.use (c_months _ _ _ _ _) ?k1 ?k2 ?k3 ?k4 ?k5 ?k6 ?k7 ?k8 ?k9 ?_; (case k1 => k_asm); (case k2 => k_asm); (case k3 => k_asm); (case k4 => k_asm); (case k5 => k_asm); (case k6 => first | exact rfl | assumption); (case k7 => first | omega | ktr_room | decide); (case k8 => first | omega | ktr_units | decide); (case k9 => exact trivial)); unfold backB; intro v9 h9 tk9 e9 F9 N9; subst e9; (try dsimp only); (try k_sweep); (try k_fold)))
set_option maxRecDepth 100000 in
set_option maxHeartbeats 8000000 in
theorem PySem.Challenge.cw_aq6009_01_holds : PySem.Challenge.rw_aq6009_01.Holds := by
  k_with_none
  refine Mine.hd ?_
  w_strict (k_go0; (all_goals try k_fold); k_steps; (all_goals (try k_data)))
  all_goals exact (no7 (by with_reducible assumption) (by with_reducible assumption) (by with_reducible assumption) (by with_reducible assumption) (by with_reducible assumption) (by with_reducible assumption)).elim
