import PyProof.Rows.All
import Wide.All
import OpenK.AllK
import Wide.FinOn
import PySem.Challenge.RW_ev0011_01
open PySem PySem.W PyProof.Rows
set_option Elab.async false
set_option maxRecDepth 100000
set_option maxHeartbeats 8000000
section PartFun
namespace Mine
/-- the year's leap, as the text says it -/
def leapF (y : Int) : Bool := (y.fmod 4 == 0) && ((y.fmod 100 != 0) || (y.fmod 400 == 0))
def pastF (m : Int) : Int := if m = 3 then 59 else if m = 4 then 90 else 120
def beforeF (y m : Int) : Int := (y - 1) * 365 + (y - 1).fdiv 4 - (y - 1).fdiv 100 + (y - 1).fdiv 400 + pastF m + (if leapF y then 1 else 0)
def lengthF (y0 m : Int) : Int := if m = 4 then 30 else 31
def numberF (y d : Int) : Int := y * 365 + y.fdiv 4 - y.fdiv 100 + y.fdiv 400 + 0 + d
def sundayF (n : Int) : Int := n + 1 + (4 - n).fmod 7
/-- the law's epact, moon and day of the new calendar -/
def epact0 (y : Int) : Int := (11 * (y.fmod 19 + 1) + 20 + ((8 * (y.fdiv 100 + 1) + 5).fdiv 25 - 5) - ((3 * (y.fdiv 100 + 1)).fdiv 4 - 12)).fmod 30
def epactF (y : Int) : Int := if epact0 y = 24 ∨ (epact0 y = 25 ∧ y.fmod 19 + 1 > 11) then epact0 y + 1 else epact0 y
def moonW (y : Int) : Int := if epactF y < 24 then 44 - epactF y else 74 - epactF y
def dayW (y : Int) : Int := sundayF (numberF y (moonW y)) - numberF y 0 - 0
/-- the law's lateness, moon and day of the old calendar -/
def lateF (y : Int) : Int := y.fdiv 100 - y.fdiv 400 - 2
def moonsL : List Int := [36, 25, 44, 33, 22, 41, 30, 49, 38, 27, 46, 35, 24, 43, 32, 21, 40, 29, 48]
def moonJ (y : Int) : Int := moonsL.getD (y.fmod 19).toNat 0
def dayJ (y : Int) : Int := sundayF (numberF y (moonJ y + lateF y)) - numberF y 0 - lateF y
def dayO (y : Int) : Int := sundayF (numberF y (moonJ y + lateF y)) - numberF y 0 - 0
/-- what was told, against the law's day of March -/
structure Told (y mo d day : Int) : Prop where
  wk : (beforeF y mo + d + 6).fmod 7 = 6
  at' : (mo = 3 ∧ 1 ≤ d ∧ d ≤ 31 ∧ day = d) ∨ (mo = 4 ∧ 1 ≤ d ∧ d ≤ 30 ∧ day = d + 31) ∨ (mo = 5 ∧ 1 ≤ d ∧ d ≤ 31 ∧ day = d + 61)
structure ToldJ (y mo d day : Int) : Prop where
  at' : (mo = 3 ∧ 1 ≤ d ∧ d ≤ 31 ∧ day = d) ∨ (mo = 4 ∧ 1 ≤ d ∧ d ≤ 30 ∧ day = d + 31) ∨ (mo = 5 ∧ 1 ≤ d ∧ d ≤ 31 ∧ day = d + 61)
end Mine
end PartFun

section PartPure
namespace Mine
structure Hid (p : Prop) : Prop where
  out : p
theorem fdiv_pos (a : Int) {b : Int} (h : 0 ≤ b) : a.fdiv b = a / b := Int.fdiv_eq_ediv_of_nonneg a h
theorem fmod_pos (a : Int) {b : Int} (h : 0 ≤ b) : a.fmod b = a % b := Int.fmod_eq_emod_of_nonneg a h
theorem cut_eq {P : Int → Prop} {X : Int} (k : ∀ x, Hid (x = X) → P x) : P X := k X ⟨rfl⟩
theorem cut_mod {P : Int → Prop} {X n : Int} (hn : 0 < n) (k : ∀ x, 0 ≤ x → x < n → Hid (x = X.fmod n) → P x) : P (X.fmod n) := by
  refine k _ ?_ ?_ ⟨rfl⟩
  · rw [fmod_pos _ (by omega)]; exact Int.emod_nonneg _ (by omega)
  · rw [fmod_pos _ (by omega)]; exact Int.emod_lt_of_pos _ (by omega)

/-- the day p + 28 of March told as month and day: what easter's last lines make of p -/
theorem told_of {p d m : Int} (h0 : -6 ≤ p) (h1 : p ≤ 56) (hd : d = 1 + (p + 27 + (p + 6).fdiv 40).fmod 31) (hm : m = 3 + (p + 26).fdiv 30) :
    (m = 3 ∧ d = p + 28 ∧ p ≤ 3) ∨ (m = 4 ∧ d = p - 3 ∧ 4 ≤ p ∧ p ≤ 33) ∨ (m = 5 ∧ d = p - 33 ∧ 34 ≤ p) := by
  rw [fdiv_pos _ (by decide), fmod_pos _ (by decide)] at hd
  rw [fdiv_pos _ (by decide)] at hm
  by_cases c1 : p ≤ 3
  · left
    have e1 : (p + 6) / 40 = 0 := by omega
    rw [e1] at hd
    omega
  · by_cases c2 : p ≤ 33
    · right; left
      have e1 : (p + 6) / 40 = 0 := by omega
      rw [e1] at hd
      omega
    · right; right
      have e1 : (p + 6) / 40 = 1 := by omega
      rw [e1] at hd
      omega

/-- Easter's Sunday of the new calendar: i days behind March 21 the moon, the Sunday behind it March p + 28 -/
theorem west_i {g h i : Int} (g0 : 0 ≤ g) (g1 : g < 19) (h0 : 0 ≤ h) (h1 : h < 30)
    (hi : i = h - h.fdiv 28 * (1 - h.fdiv 28 * ((29 : Int).fdiv (h + 1)) * ((21 - g).fdiv 11))) :
    (h ≤ 27 ∧ i = h) ∨ (h = 28 ∧ g ≤ 10 ∧ i = 28) ∨ (h = 28 ∧ 11 ≤ g ∧ i = 27) ∨ (h = 29 ∧ i = 28) := by
  by_cases h2 : h ≤ 27
  · left
    refine ⟨h2, ?_⟩
    have e : h.fdiv 28 = 0 := by rw [fdiv_pos _ (by decide)]; omega
    rw [e] at hi; omega
  · right
    by_cases h3 : h = 28
    · subst h3
      have e : (21 - g).fdiv 11 = if g ≤ 10 then 1 else 0 := by rw [fdiv_pos _ (by decide)]; split <;> omega
      rw [e] at hi
      by_cases h4 : g ≤ 10
      · rw [if_pos h4] at hi; left; exact ⟨rfl, h4, by rw [hi]; decide⟩
      · rw [if_neg h4] at hi; right; left; exact ⟨rfl, by omega, by rw [hi]; decide⟩
    · have h5 : h = 29 := by omega
      subst h5
      right; right
      refine ⟨rfl, ?_⟩
      rw [hi, show ((29 : Int).fdiv (29 + 1)) = 0 from by decide, Int.mul_zero, Int.zero_mul]
      decide
theorem west_p {g h i j p : Int} (g0 : 0 ≤ g) (g1 : g < 19) (h0 : 0 ≤ h) (h1 : h < 30) (j0 : 0 ≤ j) (j1 : j < 7)
    (hi : i = h - h.fdiv 28 * (1 - h.fdiv 28 * ((29 : Int).fdiv (h + 1)) * ((21 - g).fdiv 11))) (hp : p = i - j + 0) : -6 ≤ p ∧ p ≤ 28 := by
  have := west_i g0 g1 h0 h1 hi
  omega

/-- the days before a month's first, told without the leap: the leap days are in the quotients -/
theorem before_eq (y p : Int) (hp0 : p = 3 ∨ p = 4 ∨ p = 5) : beforeF y p = (y - 1) * 365 + y / 4 - y / 100 + y / 400 + pastF p := by
  unfold beforeF leapF
  simp only [fdiv_pos _ (show (0 : Int) ≤ 4 by decide), fdiv_pos _ (show (0 : Int) ≤ 100 by decide), fdiv_pos _ (show (0 : Int) ≤ 400 by decide), fmod_pos _ (show (0 : Int) ≤ 4 by decide), fmod_pos _ (show (0 : Int) ≤ 100 by decide), fmod_pos _ (show (0 : Int) ≤ 400 by decide), Bool.and_eq_true, Bool.or_eq_true, beq_iff_eq, bne_iff_ne]
  split <;> omega
theorem number_eq (y d : Int) : numberF y d = y * 365 + y / 4 - y / 100 + y / 400 + d := by
  unfold numberF
  simp only [fdiv_pos _ (show (0 : Int) ≤ 4 by decide), fdiv_pos _ (show (0 : Int) ≤ 100 by decide), fdiv_pos _ (show (0 : Int) ≤ 400 by decide)]
  omega
theorem sunday_eq (n : Int) : sundayF n = n + 1 + (4 - n) % 7 := by
  unfold sundayF
  rw [fmod_pos _ (by decide)]
theorem moon_west {y g c h i : Int} (hy : 1583 ≤ y) (hy' : y ≤ 4099) (hg : g = y.fmod 19) (hc : c = y.fdiv 100) (h0 : 0 ≤ h) (h1 : h < 30) (hh : h = (c - c.fdiv 4 - (8 * c + 13).fdiv 25 + 19 * g + 15).fmod 30)
    (hi : (h ≤ 27 ∧ i = h) ∨ (h = 28 ∧ g ≤ 10 ∧ i = 28) ∨ (h = 28 ∧ 11 ≤ g ∧ i = 27) ∨ (h = 29 ∧ i = 28)) : moonW y = 21 + i := by
  have e : epact0 y = (53 - h) % 30 := by
    unfold epact0
    rw [← hg, ← hc]
    simp only [fdiv_pos _ (show (0 : Int) ≤ 4 by decide), fdiv_pos _ (show (0 : Int) ≤ 25 by decide), fmod_pos _ (show (0 : Int) ≤ 30 by decide)] at hh ⊢
    have e1 : 3 * (c + 1) / 4 = c - c / 4 := by omega
    have e2 : 8 * (c + 1) + 5 = 8 * c + 13 := by omega
    rw [e1, e2]
    clear e1 e2 hi hy hy' hg hc
    generalize c / 4 = c4 at *
    generalize (8 * c + 13) / 25 = m at *
    omega
  unfold moonW epactF
  rw [← hg]
  clear hg hc hh hy hy'
  rcases hi with ⟨a, b⟩ | ⟨a, b, d⟩ | ⟨a, b, d⟩ | ⟨a, b⟩
  · by_cases c1 : h ≤ 23
    · have e1 : epact0 y = 23 - h := by omega
      rw [e1]; (repeat' split) <;> omega
    · have e1 : epact0 y = 53 - h := by omega
      rw [e1]; (repeat' split) <;> omega
  · have e1 : epact0 y = 25 := by omega
    rw [e1]; (repeat' split) <;> omega
  · have e1 : epact0 y = 25 := by omega
    rw [e1]; (repeat' split) <;> omega
  · have e1 : epact0 y = 24 := by omega
    rw [e1]; (repeat' split) <;> omega
theorem west_told {y g c h i j p d m : Int} (hy : 1583 ≤ y) (hy' : y ≤ 4099) (hg : Hid (g = y.fmod 19)) (g0 : 0 ≤ g) (g1 : g < 19) (hc : Hid (c = y.fdiv 100)) (hh : Hid (h = (c - c.fdiv 4 - (8 * c + 13).fdiv 25 + 19 * g + 15).fmod 30)) (h0 : 0 ≤ h) (h1 : h < 30)
    (hi : Hid (i = h - h.fdiv 28 * (1 - h.fdiv 28 * ((29 : Int).fdiv (h + 1)) * ((21 - g).fdiv 11)))) (hj : Hid (j = (y + y.fdiv 4 + i + 2 - c + c.fdiv 4).fmod 7)) (j0 : 0 ≤ j) (j1 : j < 7)
    (hp : Hid (p = i - j + 0)) (hd : Hid (d = 1 + (p + 27 + (p + 6).fdiv 40).fmod 31)) (hm : Hid (m = 3 + (p + 26).fdiv 30)) : Told y m d (dayW y) := by
  have hi' := west_i g0 g1 h0 h1 hi.out
  have hb := west_p g0 g1 h0 h1 j0 j1 hi.out hp.out
  have hM := moon_west hy hy' hg.out hc.out h0 h1 hh.out hi'
  have ht := told_of hb.1 (by omega) hd.out hm.out
  have hc' := hc.out
  have hj' := hj.out
  have hp' := hp.out
  have hc4 : c.fdiv 4 = y / 400 := by rw [hc', fdiv_pos _ (by decide), fdiv_pos _ (by decide)]; omega
  rw [hc4, fmod_pos _ (by decide), fdiv_pos _ (by decide)] at hj'
  rw [fdiv_pos _ (by decide)] at hc'
  have hday : dayW y = p + 28 := by
    unfold dayW
    rw [sunday_eq, number_eq, number_eq, hM]
    omega
  refine ⟨?_, ?_⟩
  · rw [before_eq y m (by omega), fmod_pos _ (by decide)]
    rcases ht with ⟨a, b, _⟩ | ⟨a, b, _⟩ | ⟨a, b, _⟩
    · rw [a, b, show pastF 3 = 59 from rfl]; omega
    · rw [a, b, show pastF 4 = 90 from rfl]; omega
    · rw [a, b, show pastF 5 = 120 from rfl]; omega
  · rw [hday]; omega
theorem Told.three {y mo d day : Int} (h : Told y mo d day) : mo = 3 ∨ mo = 4 ∨ mo = 5 := by have := h.at'; omega
theorem Told.low {y mo d day : Int} (h : Told y mo d day) : 1 ≤ d := by have := h.at'; omega
theorem Told.high {y mo d day : Int} (h : Told y mo d day) : d ≤ lengthF y mo := by
  have := h.at'
  unfold lengthF
  split <;> omega
theorem ToldJ.three {y mo d day : Int} (h : ToldJ y mo d day) : mo = 3 ∨ mo = 4 ∨ mo = 5 := by have := h.at'; omega
theorem ToldJ.low {y mo d day : Int} (h : ToldJ y mo d day) : 1 ≤ d := by have := h.at'; omega
theorem ToldJ.high {y mo d day : Int} (h : ToldJ y mo d day) : d ≤ lengthF y mo := by
  have := h.at'
  unfold lengthF
  split <;> omega
theorem moon_jul_at : ∀ g : Fin 19, moonsL.getD g.val 0 = 21 + ((19 * (g.val : Int) + 15) % 30) := by decide
theorem moon_jul {y g i : Int} (hg : g = y.fmod 19) (g0 : 0 ≤ g) (g1 : g < 19) (hi : i = (19 * g + 15).fmod 30) : moonJ y = 21 + i := by
  unfold moonJ
  rw [← hg]
  have h := moon_jul_at ⟨g.toNat, by omega⟩
  simp only at h
  rw [h, hi, fmod_pos _ (by decide)]
  omega
theorem late_eq {y : Int} : lateF y = y / 100 - y / 400 - 2 := by
  unfold lateF
  rw [fdiv_pos _ (by decide), fdiv_pos _ (by decide)]
/-- the old calendar's Sunday in the new calendar's count: day p + 28 of March, late days later -/
theorem old_day {y g i j : Int} (hg : g = y.fmod 19) (g0 : 0 ≤ g) (g1 : g < 19) (hi : i = (19 * g + 15).fmod 30) (hj : j = (y + y.fdiv 4 + i).fmod 7) :
    sundayF (numberF y (moonJ y + lateF y)) - numberF y 0 = 28 + i - j + lateF y := by
  rw [moon_jul hg g0 g1 hi, sunday_eq, number_eq, number_eq, late_eq]
  rw [fmod_pos _ (by decide), fdiv_pos _ (by decide)] at hj
  clear hi hg
  omega
theorem jul_told {y g i j p d m : Int} (hg : Hid (g = y.fmod 19)) (g0 : 0 ≤ g) (g1 : g < 19) (hi : Hid (i = (19 * g + 15).fmod 30)) (i0 : 0 ≤ i) (i1 : i < 30)
    (hj : Hid (j = (y + y.fdiv 4 + i).fmod 7)) (j0 : 0 ≤ j) (j1 : j < 7) (hp : Hid (p = i - j + 0)) (hd : Hid (d = 1 + (p + 27 + (p + 6).fdiv 40).fmod 31)) (hm : Hid (m = 3 + (p + 26).fdiv 30)) : ToldJ y m d (dayJ y) := by
  have hp' := hp.out
  have ht := told_of (by omega) (by omega) hd.out hm.out
  have hday : dayJ y = p + 28 := by
    unfold dayJ
    rw [old_day hg.out g0 g1 hi.out hj.out]
    omega
  refine ⟨?_⟩
  rw [hday]; omega
theorem orth_told {y g i j e p d m : Int} (hy : 1583 ≤ y) (hy' : y ≤ 4099) (hg : Hid (g = y.fmod 19)) (g0 : 0 ≤ g) (g1 : g < 19) (hi : Hid (i = (19 * g + 15).fmod 30)) (i0 : 0 ≤ i) (i1 : i < 30)
    (hj : Hid (j = (y + y.fdiv 4 + i).fmod 7)) (j0 : 0 ≤ j) (j1 : j < 7) (he : (¬1600 < y ∧ e = 10) ∨ (1600 < y ∧ e = 10 + y.fdiv 100 - 16 - (y.fdiv 100 - 16).fdiv 4))
    (hp : Hid (p = i - j + e)) (hd : Hid (d = 1 + (p + 27 + (p + 6).fdiv 40).fmod 31)) (hm : Hid (m = 3 + (p + 26).fdiv 30)) : Told y m d (dayO y) := by
  have hp' := hp.out
  have he' : e = lateF y := by
    rw [late_eq]
    rcases he with ⟨a, b⟩ | ⟨a, b⟩
    · omega
    · rw [fdiv_pos _ (by decide), fdiv_pos _ (by decide)] at b; omega
  have hl : 10 ≤ lateF y ∧ lateF y ≤ 28 := by rw [late_eq]; omega
  have i28 : i ≤ 28 := by
    have h := hi.out
    rw [fmod_pos _ (by decide)] at h
    clear he he' hl hp' hy hy' hg hi hj hp hd hm
    omega
  have ht := told_of (by omega) (by omega) hd.out hm.out
  have hday : dayO y = p + 28 := by
    unfold dayO
    rw [old_day hg.out g0 g1 hi.out hj.out]
    omega
  have hj' := hj.out
  rw [fmod_pos _ (by decide), fdiv_pos _ (by decide)] at hj'
  rw [late_eq] at he'
  refine ⟨?_, ?_⟩
  · rw [before_eq y m (by omega), fmod_pos _ (by decide)]
    clear hi hg hj hd hm hp he hday hl
    rcases ht with ⟨a, b, _⟩ | ⟨a, b, _⟩ | ⟨a, b, _⟩
    · rw [a, b, show pastF 3 = 59 from rfl]; omega
    · rw [a, b, show pastF 4 = 90 from rfl]; omega
    · rw [a, b, show pastF 5 = 120 from rfl]; omega
  · rw [hday]; omega
theorem moonW_le (y : Int) : moonW y ≤ 50 := by
  have h0 : 0 ≤ epact0 y := by unfold epact0; rw [fmod_pos _ (by decide)]; exact Int.emod_nonneg _ (by decide)
  unfold moonW epactF
  (repeat' split) <;> omega
theorem west_day {y p d dd M : Int} (hT : Told y p d (dayW y)) (hM : Hid (M = moonW y)) (hD : Hid (dd = sundayF (numberF y M) - numberF y 0 - 0)) :
    (p = 3 ∧ dd = d ∧ 1 ≤ d ∧ d ≤ 31) ∨ (p = 4 ∧ dd = d + 31 ∧ 1 ≤ d ∧ d ≤ 30) := by
  have e : dd = dayW y := by rw [hD.out, hM.out]; rfl
  have h := hT.at'
  have hm := moonW_le y
  have hb : dayW y ≤ 57 := by
    unfold dayW
    rw [sunday_eq, number_eq, number_eq]
    omega
  omega
theorem moonJ_bounds (y : Int) : 21 ≤ moonJ y ∧ moonJ y ≤ 50 := by
  have h := moon_jul (y := y) rfl (by rw [fmod_pos _ (by decide)]; exact Int.emod_nonneg _ (by decide)) (by rw [fmod_pos _ (by decide)]; exact Int.emod_lt_of_pos _ (by decide)) rfl
  rw [h, fmod_pos _ (by decide)]
  omega
theorem jul_day {y p d dd l : Int} (hT : ToldJ y p d (dayJ y)) (hl : Hid (l = y.fdiv 100 - y.fdiv 400 - 2)) (hD : Hid (dd = sundayF (numberF y (moonsL.getD (y.fmod 19).toNat 0 + l)) - numberF y 0 - l)) :
    (p = 3 ∧ dd = d ∧ 1 ≤ d ∧ d ≤ 31) ∨ (p = 4 ∧ dd = d + 31 ∧ 1 ≤ d ∧ d ≤ 30) := by
  have e : dd = dayJ y := by rw [hD.out, hl.out]; rfl
  have h := hT.at'
  have hm := moonJ_bounds y
  have hb : dayJ y ≤ 57 := by
    unfold dayJ
    rw [sunday_eq, number_eq, number_eq]
    omega
  omega
theorem orth_day {y p d dd l : Int} (hy : 1583 ≤ y) (hT : Told y p d (dayO y)) (hl : Hid (l = y.fdiv 100 - y.fdiv 400 - 2)) (hD : Hid (dd = sundayF (numberF y (moonsL.getD (y.fmod 19).toNat 0 + l)) - numberF y 0 - 0)) :
    (p = 4 ∧ dd = d + 31 ∧ 1 ≤ d ∧ d ≤ 30) ∨ (p = 5 ∧ dd = d + 61 ∧ 1 ≤ d ∧ d ≤ 31) := by
  have e : dd = dayO y := by rw [hD.out, hl.out]; rfl
  have h := hT.at'
  have hm := moonJ_bounds y
  have hl2 : 10 ≤ lateF y := by rw [late_eq]; omega
  have hb : 32 ≤ dayO y := by
    unfold dayO
    rw [sunday_eq, number_eq, number_eq]
    omega
  omega
end Mine
end PartPure

section PartLoop
namespace Mine
open PySem PySem.Spec PySem.Calls PyProof.Rows PySem.W

def IsTup (p : Addr × Obj) : Prop := p.2.cls = .type "tuple" ∧ ∃ vs n, p.2.data = .seq vs n

def EvEnd (h₀ : Heap) (L A D ck cs : Addr) (os : Obj) (tl own : List (Addr × Obj)) (ds : List Dat) (s₁ s₂ : Shared) : Prop :=
  ∃ h' tk m' news' us n1 ws n2 ok v d add,
    s₂ = { s₁ with heap := h', toks := tk } ∧ Fr h₀ L h' m' ∧ News h₀ L h' news' ∧ m' (Str.ofString "answers") = some (.ref A) ∧ m' (Str.ofString "dues") = some (.ref D) ∧
    (A, listOf us n1) ∈ news' ∧ (D, listOf ws n2) ∈ news' ∧ (ck, ok) ∈ news' ∧ ok.data = .cell v ∧ (cs, os) ∈ news' ∧
    (∀ p ∈ tl ++ own, p ∈ news') ∧ (∀ p ∈ add, p ∈ news' ∧ IsTup p) ∧ kqdOk 8 d = true ∧ DatAll (add ++ tl) us.toList (ds ++ [d]) ∧ DatAll (add ++ tl) ws.toList (ds ++ [d])

def EvPost (h₀ : Heap) (L A D ck cs : Addr) (os : Obj) (tl own : List (Addr × Obj)) (ds : List Dat) (s₁ : Shared) (f : Flow) (s₂ : Shared) : Prop :=
  match f with
  | .ret _ => False
  | .brk => False
  | _ => EvEnd h₀ L A D ck cs os tl own ds s₁ s₂

structure EvAt (h₀ : Heap) (L A D ck cs : Addr) (os : Obj) (i : Nat) (h : Heap) : Prop where
  mk ::
  ex : ∃ (m : Str → Option Value) (us : List Value) (n1 : Nat) (ws : List Value) (n2 : Nat) (ok : Obj) (v : Option Value) (ds : List Dat) (tl : List (Addr × Obj)),
    Fr h₀ L h m ∧ m (Str.ofString "answers") = some (.ref A) ∧ m (Str.ofString "dues") = some (.ref D) ∧ ok.data = .cell v ∧
    News h₀ L h ((A, listOf us.toArray n1) :: (D, listOf ws.toArray n2) :: (ck, ok) :: (cs, os) :: tl) ∧ (∀ p ∈ tl, IsTup p) ∧ (∀ d ∈ ds, kqdOk 8 d = true) ∧ ds.length = i ∧ DatAll tl us ds ∧ DatAll tl ws ds

section
variable {prog : Program} {w : World} {A : Around} {E : Value → Shared → Prop} {s : Shared} {env : Env} {h₀ : Heap} {x : Str} {px : Pos} {body : List Stmt} {Q : Flow → Shared → Prop}

theorem tup_ne_list {h : Heap} {a : Addr} {us : Array Value} {n : Nat} {p : Addr × Obj} (ha : h.get? a = some (listOf us n)) (hp : h.get? p.1 = some p.2) (t : IsTup p) : p.1 ≠ a := by
  intro e
  rw [e, ha] at hp
  have h1 := t.1
  rw [← Option.some.inj hp] at h1
  exact absurd h1 (by simp [PySem.W.listOf])
theorem tup_ne_cell {h : Heap} {a : Addr} {o : Obj} {v : Option Value} {p : Addr × Obj} (ha : h.get? a = some o) (ho : o.data = .cell v) (hp : h.get? p.1 = some p.2) (t : IsTup p) : p.1 ≠ a := by
  intro e
  rw [e, ha] at hp
  obtain ⟨vs, n, h2⟩ := t.2
  rw [← Option.some.inj hp, ho] at h2
  cases h2

theorem ev_loop {Aa Da ck cs L : Addr} {os : Obj} {r : Addr} {b₀ : Int} {t₀ u₀ v₀ : Tok} {n n1 n2 : Nat} {m₀ : Str → Option Value} {news : List (Addr × Obj)} {ok₀ : Obj}
    (hL : env.locals = L) (hh : A.handled = none) (hx : env.kindOf x = some .cell) (hkf : env.scope.kind = .function) (hc : env.cells.lookup x = some ck) (hcs : env.cells.lookup (Str.ofString "script") = some cs)
    (hr : IsRange s.heap r 0 b₀ 2 t₀ u₀ v₀) (hsmall : Builtin.Range.small 0 b₀ 2 = true) (hsz : Builtin.Range.rangeSize 0 b₀ 2 = (n : Int))
    (F : Fr h₀ L s.heap m₀) (N : News h₀ L s.heap news) (m1 : m₀ (Str.ofString "answers") = some (.ref Aa)) (m2 : m₀ (Str.ofString "dues") = some (.ref Da))
    (hA : (Aa, listOf [].toArray n1) ∈ news) (hD : (Da, listOf [].toArray n2) ∈ news) (hk : (ck, ok₀) ∈ news) (hkd : ∃ vk₀, ok₀.data = .cell vk₀) (hs : (cs, os) ∈ news) (hsd : ∃ vs, os.data = .cell vs) (hcc : ck ≠ cs) (had : Aa ≠ Da)
    (hE : PassesOwn (model prog w) A env E)
    (turn : ∀ (i : Nat) (us : List Value) (n1 : Nat) (ws : List Value) (n2 : Nat) (ds : List Dat) (tl own : List (Addr × Obj)) (u : Str → Option Value) (h : Heap) (tk : Nat) (t : Tok) (ok : Obj),
      i < n → ds.length = i → DatAll tl us ds → DatAll tl ws ds → ok.data = .cell (some (.int ((i : Int) * 2) t)) → OwnOff (tl ++ own) [Aa, Da, ck, cs] →
      Fr h₀ L h (fun y => if y = Str.ofString "answers" then some (.ref Aa) else if y = Str.ofString "dues" then some (.ref Da) else u y) →
      News h₀ L h ((Aa, listOf us.toArray n1) :: (Da, listOf ws.toArray n2) :: (ck, ok) :: (cs, os) :: (tl ++ own)) →
      wpAny (model prog w) A (execs body env) (EvPost h₀ L Aa Da ck cs os tl own ds { s with heap := h, toks := tk }) E { s with heap := h, toks := tk })
    (done : ∀ (us : List Value) (n1 : Nat) (ws : List Value) (n2 : Nat) (ds : List Dat) (tl : List (Addr × Obj)) (u : Str → Option Value) (h : Heap) (tk : Nat) (ok : Obj),
      DatAll tl us ds → DatAll tl ws ds → (∀ d ∈ ds, kqdOk 8 d = true) →
      Fr h₀ L h (fun y => if y = Str.ofString "answers" then some (.ref Aa) else if y = Str.ofString "dues" then some (.ref Da) else u y) →
      News h₀ L h ((Aa, listOf us.toArray n1) :: (Da, listOf ws.toArray n2) :: (ck, ok) :: (cs, os) :: tl) → Q .next { s with heap := h, toks := tk }) :
    wpAny (model prog w) A (pyIter (.ref r)) (fun it s₂ => codeAny (model prog w) A (.forLoop (.Name x px) it body [] env) (fun r s' => match r with | .ok f => Q f s' | .error e => cameBackBy (model prog w) A env E e s') s₂) E s := by
  subst hL
  obtain ⟨vk₀, hkd⟩ := hkd
  obtain ⟨vs, hsd⟩ := hsd
  refine wpAny_pyIter_range hr hsmall ?_
  have W : Walks prog w A s.heap.objs.size [s.heap.objs.size] [s.heap.objs.size] n (fun i v => ∃ t, v = .int (0 + i * 2) t)
      (fun i h => IsRangeIter h s.heap.objs.size (0 + (i : Nat) * 2) ((n : Int) - (i : Nat)) 2) := Walks.range hh _ 0 2 n
  have hL0 : env.locals ≠ s.heap.objs.size := Nat.ne_of_lt F.ns.lt
  have hI0 : h₀.get? s.heap.objs.size = none := next_is_new F
  have same : ∀ {m : Str → Option Value}, m (Str.ofString "answers") = some (.ref Aa) → m (Str.ofString "dues") = some (.ref Da) →
      m = fun y => if y = Str.ofString "answers" then some (.ref Aa) else if y = Str.ofString "dues" then some (.ref Da) else m y := by
    intro m h1 h2
    funext y
    by_cases e1 : y = Str.ofString "answers"
    · rw [if_pos e1, e1, h1]
    · rw [if_neg e1]
      by_cases e2 : y = Str.ofString "dues"
      · rw [if_pos e2, e2, h2]
      · rw [if_neg e2]
  refine codeAny_forLoop
    (fun k s' => ∃ (h : Heap) (tk i : Nat), s' = { s with heap := h, toks := tk } ∧ IsRangeIter h s.heap.objs.size (0 + (i : Nat) * 2) ((n : Int) - (i : Nat)) 2 ∧ EvAt h₀ env.locals Aa Da ck cs os i h ∧ i ≤ n ∧ k = n + 1 - i ∧ s.heap.objs.size < h.objs.size) ?_ (n + 1) ?_
  · rintro k s' ⟨h, tk, i, rfl, hit, ⟨m, us, k1, ws, k2, ok, v, ds, tl, F1, e1, e2, ho, N1, ht, hok, hlen, D1, D2⟩, hi, rfl, hlt⟩
    -- what the step of the iterator leaves
    have gA := (N1 _ (.head _)).1
    have gD := (N1 _ (.tail _ (.head _))).1
    have gk := (N1 _ (.tail _ (.tail _ (.head _)))).1
    have gs := (N1 _ (.tail _ (.tail _ (.tail _ (.head _))))).1
    have noff : ∀ p ∈ ((Aa, listOf us.toArray k1) :: (Da, listOf ws.toArray k2) :: (ck, ok) :: (cs, os) :: tl), p.1 ≠ s.heap.objs.size := by
      intro p hp e
      have hp1 := (N1 p hp).1
      have hit' : h.get? s.heap.objs.size = some (PySem.W.krsIt (0 + (i : Nat) * 2) ((n : Int) - (i : Nat)) 2) := hit
      rw [e, hit'] at hp1
      have hp2 := Option.some.inj hp1
      rcases List.mem_cons.mp hp with rfl | hp
      · have := congrArg Obj.data hp2; cases this
      rcases List.mem_cons.mp hp with rfl | hp
      · have := congrArg Obj.data hp2; cases this
      rcases List.mem_cons.mp hp with rfl | hp
      · have := congrArg Obj.data hp2; dsimp only at this; rw [ho] at this; cases this
      rcases List.mem_cons.mp hp with rfl | hp
      · have := congrArg Obj.data hp2; dsimp only at this; rw [hsd] at this; cases this
      · obtain ⟨_, _, q⟩ := (ht p hp).2
        rw [← hp2] at q; cases q
    have next : ∀ h₁ : Heap, (∀ b o, b ∉ [s.heap.objs.size] → h.get? b = some o → h₁.get? b = some o) → Fr h₀ env.locals h₁ m ∧ News h₀ env.locals h₁ ((Aa, listOf us.toArray k1) :: (Da, listOf ws.toArray k2) :: (ck, ok) :: (cs, os) :: tl) := by
      intro h₁ hk₁
      refine ⟨⟨F1.ns.at' fun o e => hk₁ _ o (by simpa using hL0) e, fun b o e => hk₁ b o (fun q => ?_) (F1.keep b o e), F1.above⟩, fun p hp => ⟨hk₁ _ _ (by simpa using noff p hp) (N1 p hp).1, (N1 p hp).2⟩⟩
      rw [List.mem_singleton.mp q, hI0] at e; cases e
    by_cases hin : i < n
    · refine W.item i _ _ _ hin hit fun v' h₁ tk₁ hP hst₁ hk₁ => ?_
      obtain ⟨t, rfl⟩ := hP
      obtain ⟨F2, N2⟩ := next h₁ hk₁
      have ev : (0 + (i : Int) * 2) = (i : Int) * 2 := by omega
      rw [ev]
      have hit1 : h₁.get? s.heap.objs.size = some (PySem.W.krsIt (0 + ((i + 1 : Nat) : Int) * 2) ((n : Int) - ((i + 1 : Nat) : Int)) 2) := hst₁
      refine wpAny_assign_Name ?_
      refine wpAny_storeName_cell hkf hx hc ⟨ok, (N2 _ (.tail _ (.tail _ (.head _)))).1, ho⟩ fun h₂ hv₂ hs₂ => ?_
      obtain ⟨ok', ho', hd'⟩ := hv₂
      have hkL : ck ≠ env.locals := (N2 _ (.tail _ (.tail _ (.head _)))).2.1
      have hk0 : h₀.get? ck = none := (N2 _ (.tail _ (.tail _ (.head _)))).2.2
      have hAk : Aa ≠ ck := by
        intro e; rw [e] at gA; rw [gA] at gk; have := congrArg Obj.data (Option.some.inj gk); rw [ho] at this; cases this
      have hDk : Da ≠ ck := by
        intro e; rw [e] at gD; rw [gD] at gk; have := congrArg Obj.data (Option.some.inj gk); rw [ho] at this; cases this
      have hIk : s.heap.objs.size ≠ ck := fun e => noff (ck, ok) (.tail _ (.tail _ (.head _))) e.symm
      have F3 : Fr h₀ env.locals h₂ m := ⟨F2.ns.sameBut hs₂ (Ne.symm hkL), fun b o e => (hs₂.2 b (fun q => by rw [q, hk0] at e; cases e)).trans (F2.keep b o e), F2.above⟩
      have hit2 : h₂.get? s.heap.objs.size = some (PySem.W.krsIt (0 + ((i + 1 : Nat) : Int) * 2) ((n : Int) - ((i + 1 : Nat) : Int)) 2) := (hs₂.2 _ hIk).trans hit1
      let own : List (Addr × Obj) := [(s.heap.objs.size, PySem.W.krsIt (0 + ((i + 1 : Nat) : Int) * 2) ((n : Int) - ((i + 1 : Nat) : Int)) 2)]
      have tne : ∀ p ∈ tl, p.1 ≠ ck := fun p hp => tup_ne_cell gk ho (N1 p (.tail _ (.tail _ (.tail _ (.tail _ hp))))).1 (ht p hp)
      have N3 : News h₀ env.locals h₂ ((Aa, listOf us.toArray k1) :: (Da, listOf ws.toArray k2) :: (ck, ok') :: (cs, os) :: (tl ++ own)) := by
        intro p hp
        rcases List.mem_cons.mp hp with rfl | hp
        · exact ⟨(hs₂.2 _ hAk).trans (N2 _ (.head _)).1, (N2 _ (.head _)).2⟩
        rcases List.mem_cons.mp hp with rfl | hp
        · exact ⟨(hs₂.2 _ hDk).trans (N2 _ (.tail _ (.head _))).1, (N2 _ (.tail _ (.head _))).2⟩
        rcases List.mem_cons.mp hp with rfl | hp
        · exact ⟨ho', hkL, hk0⟩
        rcases List.mem_cons.mp hp with rfl | hp
        · exact ⟨(hs₂.2 _ (Ne.symm hcc)).trans (N2 _ (.tail _ (.tail _ (.tail _ (.head _))))).1, (N2 _ (.tail _ (.tail _ (.tail _ (.head _))))).2⟩
        rcases List.mem_append.mp hp with hp | hp
        · have q := N2 p (.tail _ (.tail _ (.tail _ (.tail _ hp))))
          exact ⟨(hs₂.2 _ (tne p hp)).trans q.1, q.2⟩
        · rw [List.mem_singleton.mp hp]
          exact ⟨hit2, Ne.symm hL0, hI0⟩
      have hoff : OwnOff (tl ++ own) [Aa, Da, ck, cs] := by
        intro p hp b hb
        rcases List.mem_append.mp hp with hp | hp
        · have g := (N1 p (.tail _ (.tail _ (.tail _ (.tail _ hp))))).1
          rcases List.mem_cons.mp hb with rfl | hb
          · exact tup_ne_list gA g (ht p hp)
          rcases List.mem_cons.mp hb with rfl | hb
          · exact tup_ne_list gD g (ht p hp)
          rcases List.mem_cons.mp hb with rfl | hb
          · exact tup_ne_cell gk ho g (ht p hp)
          rw [List.mem_singleton.mp hb]
          exact tup_ne_cell gs hsd g (ht p hp)
        · rw [List.mem_singleton.mp hp]
          rcases List.mem_cons.mp hb with rfl | hb
          · exact Ne.symm (noff (_, _) (.head _))
          rcases List.mem_cons.mp hb with rfl | hb
          · exact Ne.symm (noff (_, _) (.tail _ (.head _)))
          rcases List.mem_cons.mp hb with rfl | hb
          · exact Ne.symm (noff (_, _) (.tail _ (.tail _ (.head _))))
          rw [List.mem_singleton.mp hb]
          exact Ne.symm (noff (_, _) (.tail _ (.tail _ (.tail _ (.head _)))))
      have F4 := F3
      rw [same e1 e2] at F4
      refine wpAny_passesOwn hE ?_
      refine wpAny_mono (turn i us k1 ws k2 ds tl own m h₂ _ t ok' hin hlen D1 D2 hd' hoff F4 N3) (fun f s₃ p => ?_) fun _ _ e => e
      have fin : EvEnd h₀ env.locals Aa Da ck cs os tl own ds { s with heap := h₂, toks := tk₁ } s₃ → ∃ m, m < n + 1 - i ∧ ∃ (h : Heap) (tk i : Nat), s₃ = { s with heap := h, toks := tk } ∧ IsRangeIter h s.heap.objs.size (0 + (i : Nat) * 2) ((n : Int) - (i : Nat)) 2 ∧ EvAt h₀ env.locals Aa Da ck cs os i h ∧ i ≤ n ∧ m = n + 1 - i ∧ s.heap.objs.size < h.objs.size := by
        rintro ⟨h', tk', m', news', us', k1', ws', k2', ok'', v'', d, add, rfl, F', N', q1, q2, qA, qD, qk, qkd, qs, qt, qa, qd, qD1, qD2⟩
        have hI : h'.get? s.heap.objs.size = some (PySem.W.krsIt (0 + ((i + 1 : Nat) : Int) * 2) ((n : Int) - ((i + 1 : Nat) : Int)) 2) := (N' _ (qt _ (List.mem_append_right _ (.head _)))).1
        refine ⟨n + 1 - (i + 1), by omega, h', tk', i + 1, rfl, hI, ⟨m', us'.toList, k1', ws'.toList, k2', ok'', v'', ds ++ [d], add ++ tl, F', q1, q2, qkd, ?_, ?_, ?_, ?_, qD1, qD2⟩, hin, rfl, Heap.lt_size hI⟩
        · intro p hp
          rcases List.mem_cons.mp hp with rfl | hp
          · exact N' _ (by simpa using qA)
          rcases List.mem_cons.mp hp with rfl | hp
          · exact N' _ (by simpa using qD)
          rcases List.mem_cons.mp hp with rfl | hp
          · exact N' _ qk
          rcases List.mem_cons.mp hp with rfl | hp
          · exact N' _ qs
          rcases List.mem_append.mp hp with hp | hp
          · exact N' _ (qa p hp).1
          · exact N' _ (qt p (List.mem_append_left _ hp))
        · intro p hp
          rcases List.mem_append.mp hp with hp | hp
          · exact (qa p hp).2
          · exact ht p hp
        · intro e he
          rcases List.mem_append.mp he with he | he
          · exact hok e he
          · rw [List.mem_singleton.mp he]; exact qd
        · rw [List.length_append, hlen]; rfl
      cases f with
      | ret v => exact p.elim
      | brk => exact p.elim
      | next => exact fin p
      | cont => exact fin p
    · have hin : i = n := by omega
      subst hin
      refine W.done _ _ _ hit fun h₁ tk₁ hk₁ => wpAny_execs_nil ?_
      obtain ⟨F2, N2⟩ := next h₁ hk₁
      rw [same e1 e2] at F2
      exact done us k1 ws k2 ds tl m h₁ tk₁ ok D1 D2 hok F2 N2
  · refine ⟨_, s.toks, 0, rfl, ?_, ⟨m₀, [], n1, [], n2, ok₀, vk₀, [], [], F.push _, m1, m2, hkd, ?_, (fun _ h => nomatch h), (fun _ h => nomatch h), rfl, .nil, .nil⟩, Nat.zero_le _, rfl, ?_⟩
    · show IsRangeIter _ _ _ _ _
      rw [hsz]; simpa using Heap.get?_push_size _ rfl
    · intro p hp
      have push : ∀ q : Addr × Obj, q ∈ news → (s.heap.push { cls := .type "range_iterator", data := .fields #[rawInt 0, rawInt (Builtin.Range.rangeSize 0 b₀ 2), rawInt 2] }).get? q.1 = some q.2 ∧ q.1 ≠ env.locals ∧ h₀.get? q.1 = none := fun q hq => ⟨Heap.get?_push_of_some _ (N q hq).1, (N q hq).2⟩
      rcases List.mem_cons.mp hp with rfl | hp
      · exact push _ hA
      rcases List.mem_cons.mp hp with rfl | hp
      · exact push _ hD
      rcases List.mem_cons.mp hp with rfl | hp
      · exact push _ hk
      rw [List.mem_singleton.mp hp]
      exact push _ hs
    · exact Heap.lt_size (Heap.get?_push_size _ rfl)
end
end Mine
end PartLoop

section PartEnds
namespace Mine
open PySem PySem.Spec PySem.Calls PyProof.Rows PySem.W
theorem dat_ints {L9 : List (Addr × Obj)} {vs : List Value} {is : List Int} (h : IntsAre vs is) : DatAll L9 vs (is.map Dat.int) := by
  induction h with
  | nil => exact .nil
  | cons n t _ ih => exact .cons (.int n t) ih
theorem ints_ok (is : List Int) : kqdOk 8 (.tuple (is.map Dat.int)) = true := by
  simp [kqdOk]
section
variable {h₀ : Heap} {L A D ck cs : Addr} {os : Obj} {tl own : List (Addr × Obj)} {ds : List Dat} {s₁ s₂ : Shared} {h' : Heap} {tk : Nat} {m' : Str → Option Value} {news' : List (Addr × Obj)} {us ws : List Value} {k1 k2 : Nat} {ok : Obj} {v : Option Value}
theorem post_next (h : EvEnd h₀ L A D ck cs os tl own ds s₁ s₂) : EvPost h₀ L A D ck cs os tl own ds s₁ .next s₂ := h
theorem post_cont (h : EvEnd h₀ L A D ck cs os tl own ds s₁ s₂) : EvPost h₀ L A D ck cs os tl own ds s₁ .cont s₂ := h
theorem end_bad (F : Fr h₀ L h' m') (N : News h₀ L h' news') (m1 : m' (Str.ofString "answers") = some (.ref A)) (m2 : m' (Str.ofString "dues") = some (.ref D))
    (hA : (A, listOf (us.toArray.push .none) k1) ∈ news') (hD : (D, listOf (ws.toArray.push .none) k2) ∈ news') (hk : (ck, ok) ∈ news') (hkd : ok.data = .cell v) (hs : (cs, os) ∈ news') (ht : ∀ p ∈ tl ++ own, p ∈ news')
    (D1 : DatAll tl us ds) (D2 : DatAll tl ws ds) : EvEnd h₀ L A D ck cs os tl own ds s₁ { s₁ with heap := h', toks := tk } :=
  ⟨h', tk, m', news', _, k1, _, k2, ok, v, .none, [], rfl, F, N, m1, m2, hA, hD, hk, hkd, hs, ht, (fun _ h => nomatch h), rfl,
    by simpa using D1.append (.one .none), by simpa using D2.append (.one .none)⟩
theorem end_good {T1 T2 : Addr} {v1 v2 : List Value} {n1 n2 : Nat} {is js : List Int} (F : Fr h₀ L h' m') (N : News h₀ L h' news') (m1 : m' (Str.ofString "answers") = some (.ref A)) (m2 : m' (Str.ofString "dues") = some (.ref D))
    (hA : (A, listOf (us.toArray.push (.ref T1)) k1) ∈ news') (hD : (D, listOf (ws.toArray.push (.ref T2)) k2) ∈ news') (hk : (ck, ok) ∈ news') (hkd : ok.data = .cell v) (hs : (cs, os) ∈ news') (ht : ∀ p ∈ tl ++ own, p ∈ news')
    (h1 : (T1, ({ cls := .type "tuple", data := .seq v1.toArray n1 } : Obj)) ∈ news') (h2 : (T2, ({ cls := .type "tuple", data := .seq v2.toArray n2 } : Obj)) ∈ news') (i1 : IntsAre v1 is) (i2 : IntsAre v2 js) (e : is = js)
    (D1 : DatAll tl us ds) (D2 : DatAll tl ws ds) : EvEnd h₀ L A D ck cs os tl own ds s₁ { s₁ with heap := h', toks := tk } := by
  subst e
  have up : ∀ p ∈ tl, p ∈ [(T1, ({ cls := .type "tuple", data := .seq v1.toArray n1 } : Obj)), (T2, ({ cls := .type "tuple", data := .seq v2.toArray n2 } : Obj))] ++ tl := fun p hp => List.mem_append_right _ hp
  refine ⟨h', tk, m', news', _, k1, _, k2, ok, v, .tuple (is.map Dat.int), [(T1, { cls := .type "tuple", data := .seq v1.toArray n1 }), (T2, { cls := .type "tuple", data := .seq v2.toArray n2 })], rfl, F, N, m1, m2, hA, hD, hk, hkd, hs, ht, ?_, ints_ok is, ?_, ?_⟩
  · intro p hp
    rcases List.mem_cons.mp hp with rfl | hp
    · exact ⟨h1, rfl, _, _, rfl⟩
    · rw [List.mem_singleton.mp hp]
      exact ⟨h2, rfl, _, _, rfl⟩
  · have q := (D1.mono up).append (.one (DatIn.tuple (a := T1) (n := n1) (.head _) (dat_ints i1)))
    simpa using q
  · have q := (D2.mono up).append (.one (DatIn.tuple (a := T2) (n := n2) (.tail _ (.head _)) (dat_ints i2)))
    simpa using q
end
theorem four_eq {a b c d a' b' c' d' : Int} (h1 : a = a') (h2 : b = b') (h3 : c = c') (h4 : d = d') : [a, b, c, d] = [a', b', c', d'] := by subst h1 h2 h3 h4; rfl
theorem three_eq {a b c a' b' c' : Int} (h1 : a = a') (h2 : b = b') (h3 : c = c') : [a, b, c] = [a', b', c'] := by subst h1 h2 h3; rfl
end Mine
end PartEnds

section PartCuts
namespace Mine
open PySem.Calls PySem.Spec
/-- a statement's end that stores one name's int, whatever the way -/
def IfEnd (x : Str) (P : Int → Prop) (h₀ : Heap) (L : Addr) (m : Str → Option Value) (news : List (Addr × Obj)) (s : Shared) (f : Flow) (s' : Shared) : Prop :=
  f = .next ∧ ∃ V t h' tk, P V ∧ s' = { s with heap := h', toks := tk } ∧ Fr h₀ L h' (fun y => if y = x then some (.int V t) else m y) ∧ News h₀ L h' news
/-- an expression's int, whatever the way -/
def ValEnd (P : Int → Prop) (h₀ : Heap) (L : Addr) (m : Str → Option Value) (news : List (Addr × Obj)) (s : Shared) (v : Value) (s' : Shared) : Prop :=
  ∃ V t h' tk, P V ∧ v = .int V t ∧ s' = { s with heap := h', toks := tk } ∧ Fr h₀ L h' m ∧ News h₀ L h' news
section
variable {prog : Program} {w : World} {A : Around} {E : Value → Shared → Prop} {s : Shared} {h₀ : Heap} {L : Addr} {m : Str → Option Value} {news : List (Addr × Obj)} {env : Env} {x : Str} {P : Int → Prop}
theorem ev_if {stmt : Stmt} {rest : List Stmt} {Q : Flow → Shared → Prop} (x : Str) (P : Int → Prop) (F0 : Fr h₀ L s.heap m) (N0 : News h₀ L s.heap news) (h : wpAny (model prog w) A (exec stmt env) (IfEnd x P h₀ L m news s) E s)
    (k : ∀ V t h' tk, P V → Fr h₀ L h' (fun y => if y = x then some (.int V t) else m y) → News h₀ L h' news → wpAny (model prog w) A (execs rest env) Q E { s with heap := h', toks := tk }) :
    wpAny (model prog w) A (execs (stmt :: rest) env) Q E s := by
  refine wpAny_execs_cons (wpAny_mono h (fun f s' hf => ?_) fun _ _ e => e)
  obtain ⟨rfl, V, t, h', tk, hP, rfl, F', N'⟩ := hf
  exact k V t h' tk hP F' N'
theorem IfEnd.set {V : Int} {t : Tok} {h' : Heap} {tk : Nat} (F : Fr h₀ L h' (fun y => if y = x then some (.int V t) else m y)) (N : News h₀ L h' news) (hP : P V) : IfEnd x P h₀ L m news s .next { s with heap := h', toks := tk } :=
  ⟨rfl, V, t, h', tk, hP, rfl, F, N⟩
theorem IfEnd.keep {V : Int} {t : Tok} {h' : Heap} {tk : Nat} (F : Fr h₀ L h' m) (N : News h₀ L h' news) (hm : m x = some (.int V t)) (hP : P V) : IfEnd x P h₀ L m news s .next { s with heap := h', toks := tk } := by
  refine ⟨rfl, V, t, h', tk, hP, rfl, ?_, N⟩
  have e : (fun y => if y = x then some (Value.int V t) else m y) = m := by
    funext y
    by_cases q : y = x
    · rw [if_pos q, q, hm]
    · rw [if_neg q]
  rw [e]; exact F
theorem ev_val {e : PySem.Expr} {Q : Value → Shared → Prop} (P : Int → Prop) (F0 : Fr h₀ L s.heap m) (N0 : News h₀ L s.heap news) (h : wpAny (model prog w) A (eval e env) (ValEnd P h₀ L m news s) E s)
    (k : ∀ V t h' tk, P V → Fr h₀ L h' m → News h₀ L h' news → Q (.int V t) { s with heap := h', toks := tk }) : wpAny (model prog w) A (eval e env) Q E s := by
  refine wpAny_mono h (fun v s' hv => ?_) fun _ _ e => e
  obtain ⟨V, t, h', tk, hP, rfl, rfl, F', N'⟩ := hv
  exact k V t h' tk hP F' N'
theorem ValEnd.mk' {V : Int} {t : Tok} {h' : Heap} {tk : Nat} (F : Fr h₀ L h' m) (N : News h₀ L h' news) (hP : P V) : ValEnd P h₀ L m news s (.int V t) { s with heap := h', toks := tk } :=
  ⟨V, t, h', tk, hP, rfl, rfl, F, N⟩
end
structure Mark : Prop where
/-- the least year that is asked for -/
structure Lo (n : Int) : Prop where
theorem year_start (a : Int) : 326 ≤ 326 + a.fmod 3774 ∧ 326 + a.fmod 3774 ≤ 4099 := by
  rw [fmod_pos _ (by decide)]; omega
theorem ev_year {prog : Program} {w : World} {A : Around} {E : Value → Shared → Prop} {s : Shared} {h₀ : Heap} {L : Addr} {m : Str → Option Value} {news : List (Addr × Obj)} {env : Env} {n : Int} {stmt : Stmt} {rest : List Stmt} {Q : Flow → Shared → Prop} (hn0 : Lo n) (F : Fr h₀ L s.heap m) (N : News h₀ L s.heap news)
    (h : wpAny (model prog w) A (exec stmt env) (IfEnd (Str.ofString "year") (fun V => n ≤ V ∧ V ≤ 4099) h₀ L m news s) E s)
    (k : ∀ V t h' tk, n ≤ V → V ≤ 4099 → Fr h₀ L h' (fun y => if y = Str.ofString "year" then some (.int V t) else m y) → News h₀ L h' news → wpAny (model prog w) A (execs rest env) Q E { s with heap := h', toks := tk }) :
    wpAny (model prog w) A (execs (stmt :: rest) env) Q E s := ev_if _ _ F N h fun V t h' tk hP => k V t h' tk hP.1 hP.2
theorem ev_epact {prog : Program} {w : World} {A : Around} {E : Value → Shared → Prop} {s : Shared} {h₀ : Heap} {L : Addr} {m : Str → Option Value} {news : List (Addr × Obj)} {env : Env} {y a b c : Int} {stmt : Stmt} {rest : List Stmt} {Q : Flow → Shared → Prop} (hn0 : Told y a b c) (F : Fr h₀ L s.heap m) (N : News h₀ L s.heap news)
    (h : wpAny (model prog w) A (exec stmt env) (IfEnd (Str.ofString "epact") (fun V => Hid (V = epactF y)) h₀ L m news s) E s)
    (k : ∀ V t h' tk, Hid (V = epactF y) → Fr h₀ L h' (fun y => if y = Str.ofString "epact" then some (.int V t) else m y) → News h₀ L h' news → wpAny (model prog w) A (execs rest env) Q E { s with heap := h', toks := tk }) :
    wpAny (model prog w) A (execs (stmt :: rest) env) Q E s := ev_if _ _ F N h k
theorem ev_moon {prog : Program} {w : World} {A : Around} {E : Value → Shared → Prop} {s : Shared} {h₀ : Heap} {L : Addr} {m : Str → Option Value} {news : List (Addr × Obj)} {env : Env} {y a b c : Int} {e : PySem.Expr} {Q : Value → Shared → Prop} (hn0 : Told y a b c) (F : Fr h₀ L s.heap m) (N : News h₀ L s.heap news)
    (h : wpAny (model prog w) A (eval e env) (ValEnd (fun V => Hid (V = moonW y)) h₀ L m news s) E s)
    (k : ∀ V t h' tk, Hid (V = moonW y) → Fr h₀ L h' m → News h₀ L h' news → Q (.int V t) { s with heap := h', toks := tk }) :
    wpAny (model prog w) A (eval e env) Q E s := ev_val _ F N h k
theorem news_tail {h₀ h : Heap} {L : Addr} {p : Addr × Obj} {news : List (Addr × Obj)} (N : News h₀ L h (p :: news)) : News h₀ L h news := fun q hq => N q (List.mem_cons_of_mem _ hq)
theorem epact_end {y E V : Int} (hE : Hid (E = (11 * (y.fmod 19 + 1) + 20 + ((8 * (y.fdiv 100 + 1) + 5).fdiv 25 - 5) - ((3 * (y.fdiv 100 + 1)).fdiv 4 - 12)).fmod 30)) (h : V = if E = 24 ∨ (E = 25 ∧ y.fmod 19 + 1 > 11) then E + 1 else E) : Hid (V = epactF y) := by
  have e : E = epact0 y := hE.out
  rw [e] at h
  exact ⟨h⟩
theorem moon_end {y E V : Int} (hE : Hid (E = epactF y)) (h : V = if E < 24 then 44 - E else 74 - E) : Hid (V = moonW y) := by
  rw [hE.out] at h
  exact ⟨h⟩
end Mine
end PartCuts

namespace Mine
open_top evhd for PySem.Challenge.rw_ev0011_01
end Mine

section PartClaims
namespace Mine
abbrev EvT (mean : ExcName → Option Value) (mg mb : Str → Option Value) (h₀ : Heap) : Prop :=
  Top evhd.view_39 (looseW evhd.view_39 [Str.ofString "date", Str.ofString "datetime", Str.ofString "easter"]) mean mg mb h₀
abbrev EvP (w : World) : Model := model Challenge.rw_ev0011_01.row.prog w
section
variable {w : World} {mean : ExcName → Option Value} {mg mb : Str → Option Value} {news : List (Addr × Obj)} {dp un : Nat} {gd : Option (List Code)} {cn : Str} {cs : Scope} {a : Addr} {ccd : Value} {cl : List (Str × Addr)} {outer : List Env} {A₀ : Around} {base h₀ : Heap} {L : Addr} {m : Str → Option Value} {s : Shared} {Q E : Value → Shared → Prop}

theorem leap_use {y : Int} {t : Tok} (B : Below A₀ base outer h₀) (F : Fr h₀ L s.heap m) (X : (evhd.heap_39 w.params).In h₀) (N : News h₀ L s.heap news) (T : EvT mean mg mb h₀) (hk : cs.kind = .function)
    (hd : dp + 1 < recursionLimit) (hu : un + 8 < cLine) (hret : CbRet h₀ L m news s Q (fun _ => .bool (leapF y))) :
    wpAny (EvP w) (ktrTop dp un gd cn cs L a ccd cl outer) (call (.ref 29) [.int y t]) Q E s := by
  refine wpAny_call ?_
  k_dflt cell_enter
  k_steps
  all_goals ((refine' cb_retB hret ?e1 ?e2 ?e3; (case e2 => k_asm); (case e3 => first | k_asm | (refine' cb_drop ?cbN ?cbS; (case cbN => assumption); (case cbS => kcj_all))); (case e1 => simp [leapF, *])))
end
end Mine
local macro_rules | `(tactic| walk_at "call ref") => `(tactic| (k_here; (with_reducible show wpAny _ _ (PySem.call (Value.ref 29) _) _ _ _); k_dflt (refine' Mine.leap_use ?k1 ?k2 ?k3 ?k4 ?k5 ?kK ?kd ?ku ?_; (case k1 => k_asm); (case k2 => k_asm); (case k3 => k_asm); (case k4 => k_asm); (case k5 => k_asm); (case kK => first | exact rfl | assumption); (case kd => ktr_room); (case ku => ktr_units); k_whole); intro t9 h9 tk9 F9 N9; (try dsimp only); (try k_fold)))
namespace Mine
section
variable {w : World} {mean : ExcName → Option Value} {mg mb : Str → Option Value} {news : List (Addr × Obj)} {dp un : Nat} {gd : Option (List Code)} {cn : Str} {cs : Scope} {a : Addr} {ccd : Value} {cl : List (Str × Addr)} {outer : List Env} {A₀ : Around} {base h₀ : Heap} {L : Addr} {m : Str → Option Value} {s : Shared} {Q E : Value → Shared → Prop}
theorem before_use {y p : Int} {t u : Tok} (hp : p = 3 ∨ p = 4 ∨ p = 5) (B : Below A₀ base outer h₀) (F : Fr h₀ L s.heap m) (X : (evhd.heap_39 w.params).In h₀) (N : News h₀ L s.heap news) (T : EvT mean mg mb h₀) (hk : cs.kind = .function)
    (hd : dp + 5 < recursionLimit) (hu : un + 100 < cLine) (hret : CbRet h₀ L m news s Q (fun t => .int (beforeF y p) t)) :
    wpAny (EvP w) (ktrTop dp un gd cn cs L a ccd cl outer) (call (.ref 36) [.int y t, .int p u]) Q E s := by
  rcases hp with rfl | rfl | rfl
  all_goals (
    refine wpAny_call ?_
    k_dflt cell_enter
    k_steps
    (refine' cb_retI hret ?e1 ?e2 ?e3; (case e2 => k_asm); (case e3 => first | k_asm | (refine' cb_drop ?cbN ?cbS; (case cbN => assumption); (case cbS => kcj_all))); (case e1 => rfl)))
theorem length_use {y p : Int} {t u : Tok} (hp : p = 3 ∨ p = 4 ∨ p = 5) (B : Below A₀ base outer h₀) (F : Fr h₀ L s.heap m) (X : (evhd.heap_39 w.params).In h₀) (N : News h₀ L s.heap news) (T : EvT mean mg mb h₀) (hk : cs.kind = .function)
    (hd : dp + 5 < recursionLimit) (hu : un + 100 < cLine) (hret : CbRet h₀ L m news s Q (fun t => .int (lengthF y p) t)) :
    wpAny (EvP w) (ktrTop dp un gd cn cs L a ccd cl outer) (call (.ref 43) [.int y t, .int p u]) Q E s := by
  rcases hp with rfl | rfl | rfl
  all_goals (
    refine wpAny_call ?_
    k_dflt cell_enter
    k_steps
    (refine' cb_retI hret ?e1 ?e2 ?e3; (case e2 => k_asm); (case e3 => first | k_asm | (refine' cb_drop ?cbN ?cbS; (case cbN => assumption); (case cbS => kcj_all))); (case e1 => rfl)))
theorem number_use {y d : Int} {t u v : Tok} (B : Below A₀ base outer h₀) (F : Fr h₀ L s.heap m) (X : (evhd.heap_39 w.params).In h₀) (N : News h₀ L s.heap news) (T : EvT mean mg mb h₀) (hk : cs.kind = .function)
    (hd : dp + 5 < recursionLimit) (hu : un + 100 < cLine) (hret : CbRet h₀ L m news s Q (fun t => .int (numberF y d) t)) :
    wpAny (EvP w) (ktrTop dp un gd cn cs L a ccd cl outer) (call (.ref 355) [.int y t, .int 3 u, .int d v]) Q E s := by
  refine wpAny_call ?_
  k_dflt cell_enter
  k_steps
  (refine' cb_retI hret ?e1 ?e2 ?e3; (case e2 => k_asm); (case e3 => first | k_asm | (refine' cb_drop ?cbN ?cbS; (case cbN => assumption); (case cbS => kcj_all))); (case e1 => rfl))
theorem sunday_use {n : Int} {t : Tok} (B : Below A₀ base outer h₀) (F : Fr h₀ L s.heap m) (X : (evhd.heap_39 w.params).In h₀) (N : News h₀ L s.heap news) (T : EvT mean mg mb h₀) (hk : cs.kind = .function)
    (hd : dp + 5 < recursionLimit) (hu : un + 100 < cLine) (hret : CbRet h₀ L m news s Q (fun t => .int (sundayF n) t)) :
    wpAny (EvP w) (ktrTop dp un gd cn cs L a ccd cl outer) (call (.ref 362) [.int n t]) Q E s := by
  refine wpAny_call ?_
  k_dflt cell_enter
  k_steps
  (refine' cb_retI hret ?e1 ?e2 ?e3; (case e2 => k_asm); (case e3 => first | k_asm | (refine' cb_drop ?cbN ?cbS; (case cbN => assumption); (case cbS => kcj_all))); (case e1 => rfl))
end
end Mine
end PartClaims

section PartDate
local macro_rules | `(tactic| walk_at "call ref") => `(tactic| (k_here; (with_reducible show wpAny _ _ (PySem.call (Value.ref 36) _) _ _ _); k_dflt (refine' Mine.before_use ?k0 ?k1 ?k2 ?k3 ?k4 ?k5 ?kK ?kd ?ku ?_; (case k0 => assumption); (case k1 => k_asm); (case k2 => k_asm); (case k3 => k_asm); (case k4 => k_asm); (case k5 => k_asm); (case kK => first | exact rfl | assumption); (case kd => ktr_room); (case ku => ktr_units); k_whole); intro t9 h9 tk9 F9 N9; (try dsimp only); (try k_fold)))
local macro_rules | `(tactic| walk_at "call ref") => `(tactic| (k_here; (with_reducible show wpAny _ _ (PySem.call (Value.ref 43) _) _ _ _); k_dflt (refine' Mine.length_use ?k0 ?k1 ?k2 ?k3 ?k4 ?k5 ?kK ?kd ?ku ?_; (case k0 => assumption); (case k1 => k_asm); (case k2 => k_asm); (case k3 => k_asm); (case k4 => k_asm); (case k5 => k_asm); (case kK => first | exact rfl | assumption); (case kd => ktr_room); (case ku => ktr_units); k_whole); intro t9 h9 tk9 F9 N9; (try dsimp only); (try k_fold)))
local macro_rules | `(tactic| k_room) => `(tactic| ktr_room)
local macro_rules | `(tactic| ktr_units) => `(tactic| (have hcL9 := cLine_is; (simp only [units_under_make, units_in1, units_deeper, Around.mark_units, units_caller]); (try dsimp only [ktrTop]); omega))
namespace Mine
section
variable {w : World} {mean : ExcName → Option Value} {mg mb : Str → Option Value} {news : List (Addr × Obj)} {dp un : Nat} {gd : Option (List Code)} {cn : Str} {nm : List (Str × NameKind)} {ig ic : Bool} {mo : List (Str × Const)} {a : Addr} {ccd : Value} {cl : List (Str × Addr)} {outer : List Env} {A₀ : Around} {base h₀ : Heap} {L : Addr} {m : Str → Option Value} {s : Shared} {Q E : Value → Shared → Prop}
abbrev DateRet (w : World) (h₀ : Heap) (L : Addr) (m : Str → Option Value) (news : List (Addr × Obj)) (s : Shared) (Q : Value → Shared → Prop) (y p d : Int) (t u v : Tok) : Prop :=
  ∀ (x dx : Addr) (h' : Heap) (tk' : Nat) (k1 k2 k3 k4 t5 : Tok), Fr h₀ L h' m →
    News h₀ L h' ((x, instObj 233 dx) :: (dx, dictOf [{ hash := PyData.keyHash w.params (Str.ofString "year"), key := .str (Str.ofString "year") k1, val := .int y t }, { hash := PyData.keyHash w.params (Str.ofString "month"), key := .str (Str.ofString "month") k2, val := .int p u },
      { hash := PyData.keyHash w.params (Str.ofString "day"), key := .str (Str.ofString "day") k3, val := .int d v }, { hash := PyData.keyHash w.params (Str.ofString "_n"), key := .str (Str.ofString "_n") k4, val := .int (beforeF y p + d) t5 }] 4) :: news) →
    (∀ p ∈ news, p.1 < dx) → dx < x → Q (.ref x) { s with heap := h', toks := tk' }
theorem date_use {y p d : Int} {t u v : Tok} (hy : 1 ≤ y) (hy' : y ≤ 9999) (hp : p = 3 ∨ p = 4 ∨ p = 5) (hd1 : 1 ≤ d) (hd2 : d ≤ lengthF y p) (B : Below A₀ base outer h₀) (F : Fr h₀ L s.heap m) (X : (evhd.heap_39 w.params).In h₀) (N : News h₀ L s.heap news) (T : EvT mean mg mb h₀)
    (hd : dp + 10 < recursionLimit) (hu : un + 200 < cLine) (hret : DateRet w h₀ L m news s Q y p d t u v):
    wpAny (EvP w) (ktrTop dp un gd cn ⟨.function, nm, ig, ic, mo⟩ L a ccd cl outer) (call (.ref 233) [.int y t, .int p u, .int d v]) Q E s := by
  k_steps
  refine' hret _ _ _ _ _ _ _ _ _ ?f ?n ?a ?b
  (case f => k_asm)
  (case n => k_asm)
  (case a => assumption)
  (case b => assumption)
end
end Mine
end PartDate

section PartEaster
namespace Mine
def Stop (p : Prop) : Prop := p
theorem Stop.mk {p : Prop} (h : Stop p) : p := h
theorem Stop.of {p : Prop} (h : p) : Stop p := h
end Mine
local macro_rules | `(tactic| k_room) => `(tactic| ktr_room)
local macro_rules | `(tactic| ktr_units) => `(tactic| (have hcL9 := cLine_is; (simp only [units_under_make, units_in1, units_deeper, Around.mark_units, units_caller]); (try dsimp only [ktrTop]); omega))
local macro_rules | `(tactic| walk_at "call ref") => `(tactic| (k_here; (with_reducible show wpAny _ _ (PySem.call (Value.ref 233) _) _ _ _); refine Mine.Stop.mk ?_))
local macro_rules | `(tactic| walk_at "storeName") => `(tactic| ((with_reducible show wpAny _ _ (storeName _ _ (Value.int (HAdd.hAdd _ _) _)) _ _ _); refine Mine.cut_eq (P := fun z => wpAny _ _ (storeName _ _ (Value.int z _)) _ _ _) ?_; intro x' e'; (try dsimp only)))
local macro_rules | `(tactic| walk_at "storeName") => `(tactic| ((with_reducible show wpAny _ _ (storeName _ _ (Value.int (HSub.hSub _ _) _)) _ _ _); refine Mine.cut_eq (P := fun z => wpAny _ _ (storeName _ _ (Value.int z _)) _ _ _) ?_; intro x' e'; (try dsimp only)))
local macro_rules | `(tactic| walk_at "storeName") => `(tactic| ((with_reducible show wpAny _ _ (storeName _ _ (Value.int (Int.fdiv _ _) _)) _ _ _); refine Mine.cut_eq (P := fun z => wpAny _ _ (storeName _ _ (Value.int z _)) _ _ _) ?_; intro x' e'; (try dsimp only)))
local macro_rules | `(tactic| walk_at "storeName") => `(tactic| ((with_reducible show wpAny _ _ (storeName _ _ (Value.int (Int.fmod _ _) _)) _ _ _); refine Mine.cut_mod (P := fun z => wpAny _ _ (storeName _ _ (Value.int z _)) _ _ _) (by decide) ?_; intro x' b0' b1' e'; (try dsimp only)))
namespace Mine
section
variable {w : World} {mean : ExcName → Option Value} {mg mb : Str → Option Value} {news : List (Addr × Obj)} {dp un : Nat} {gd : Option (List Code)} {cn : Str} {nm : List (Str × NameKind)} {ig ic : Bool} {mo : List (Str × Const)} {a : Addr} {ccd : Value} {cl : List (Str × Addr)} {outer : List Env} {A₀ : Around} {base h₀ : Heap} {L : Addr} {m : Str → Option Value} {s : Shared} {Q E : Value → Shared → Prop}
theorem easter3_use {y : Int} {t u : Tok} (hy : 1583 ≤ y) (hy' : y ≤ 4099) (B : Below A₀ base outer h₀) (F : Fr h₀ L s.heap m) (X : (evhd.heap_39 w.params).In h₀) (N : News h₀ L s.heap news) (T : EvT mean mg mb h₀)
    (hd : dp + 20 < recursionLimit) (hu : un + 400 < cLine) (hret : ∀ p d t u v, Told y p d (dayW y) → DateRet w h₀ L m news s Q y p d t u v) :
    wpAny (EvP w) (ktrTop dp un gd cn ⟨.function, nm, ig, ic, mo⟩ L a ccd cl outer) (call (.ref 347) [.int y t, .int 3 u]) Q E s := by
  k_steps
  have hT := Mine.west_told hy hy' (by assumption) (by assumption) (by assumption) (by assumption) (by assumption) (by assumption) (by assumption) (by assumption) (by assumption) (by assumption) (by assumption) (by assumption) (by assumption) (by assumption)
  refine Stop.of ?_
  k_dflt (refine' Mine.date_use ?k1 ?k2 ?k3 ?k4 ?k5 ?k6 ?k7 ?k8 ?k9 ?k10 ?k11 ?k12 ?_)
  (case k1 => omega)
  (case k2 => omega)
  (case k3 => exact hT.three)
  (case k4 => exact hT.low)
  (case k5 => exact hT.high)
  (case k6 => k_asm)
  (case k7 => k_asm)
  (case k8 => k_asm)
  (case k9 => k_asm)
  (case k10 => k_asm)
  (case k11 => ktr_room)
  (case k12 => ktr_units)
  intro x dx h9 tk9 q1 q2 q3 q4 q5 F9 N9 l1 l2
  try dsimp only
  try k_fold
  k_steps
  refine' hret _ _ _ _ _ hT _ _ _ _ _ _ _ _ _ ?f ?n ?a ?b
  (case f => k_asm)
  (case n => k_asm)
  (case a => assumption)
  (case b => assumption)
theorem easter3d_use {y : Int} {t : Tok} (hy : 1583 ≤ y) (hy' : y ≤ 4099) (B : Below A₀ base outer h₀) (F : Fr h₀ L s.heap m) (X : (evhd.heap_39 w.params).In h₀) (N : News h₀ L s.heap news) (T : EvT mean mg mb h₀)
    (hd : dp + 20 < recursionLimit) (hu : un + 400 < cLine) (hret : ∀ p d t u v, Told y p d (dayW y) → DateRet w h₀ L m news s Q y p d t u v) :
    wpAny (EvP w) (ktrTop dp un gd cn ⟨.function, nm, ig, ic, mo⟩ L a ccd cl outer) (call (.ref 347) [.int y t]) Q E s := by
  k_steps
  have hT := Mine.west_told hy hy' (by assumption) (by assumption) (by assumption) (by assumption) (by assumption) (by assumption) (by assumption) (by assumption) (by assumption) (by assumption) (by assumption) (by assumption) (by assumption) (by assumption)
  refine Stop.of ?_
  k_dflt (refine' Mine.date_use ?k1 ?k2 ?k3 ?k4 ?k5 ?k6 ?k7 ?k8 ?k9 ?k10 ?k11 ?k12 ?_)
  (case k1 => omega)
  (case k2 => omega)
  (case k3 => exact hT.three)
  (case k4 => exact hT.low)
  (case k5 => exact hT.high)
  (case k6 => k_asm)
  (case k7 => k_asm)
  (case k8 => k_asm)
  (case k9 => k_asm)
  (case k10 => k_asm)
  (case k11 => ktr_room)
  (case k12 => ktr_units)
  intro x dx h9 tk9 q1 q2 q3 q4 q5 F9 N9 l1 l2
  try dsimp only
  try k_fold
  k_steps
  refine' hret _ _ _ _ _ hT _ _ _ _ _ _ _ _ _ ?f ?n ?a ?b
  (case f => k_asm)
  (case n => k_asm)
  (case a => assumption)
  (case b => assumption)
theorem easter1_use {y : Int} {t u : Tok} (hy : 326 ≤ y) (hy' : y ≤ 4099) (B : Below A₀ base outer h₀) (F : Fr h₀ L s.heap m) (X : (evhd.heap_39 w.params).In h₀) (N : News h₀ L s.heap news) (T : EvT mean mg mb h₀)
    (hd : dp + 20 < recursionLimit) (hu : un + 400 < cLine) (hret : ∀ p d t u v, ToldJ y p d (dayJ y) → DateRet w h₀ L m news s Q y p d t u v) :
    wpAny (EvP w) (ktrTop dp un gd cn ⟨.function, nm, ig, ic, mo⟩ L a ccd cl outer) (call (.ref 347) [.int y t, .int 1 u]) Q E s := by
  k_steps
  have hT := Mine.jul_told (y := y) (by assumption) (by assumption) (by assumption) (by assumption) (by assumption) (by assumption) (by assumption) (by assumption) (by assumption) (by assumption) (by assumption) (by assumption)
  refine Stop.of ?_
  k_dflt (refine' Mine.date_use ?k1 ?k2 ?k3 ?k4 ?k5 ?k6 ?k7 ?k8 ?k9 ?k10 ?k11 ?k12 ?_)
  (case k1 => omega)
  (case k2 => omega)
  (case k3 => exact hT.three)
  (case k4 => exact hT.low)
  (case k5 => exact hT.high)
  (case k6 => k_asm)
  (case k7 => k_asm)
  (case k8 => k_asm)
  (case k9 => k_asm)
  (case k10 => k_asm)
  (case k11 => ktr_room)
  (case k12 => ktr_units)
  intro x dx h9 tk9 q1 q2 q3 q4 q5 F9 N9 l1 l2
  try dsimp only
  try k_fold
  k_steps
  refine' hret _ _ _ _ _ hT _ _ _ _ _ _ _ _ _ ?f ?n ?a ?b
  (case f => k_asm)
  (case n => k_asm)
  (case a => assumption)
  (case b => assumption)
theorem easter2_use {y : Int} {t u : Tok} (hy : 1583 ≤ y) (hy' : y ≤ 4099) (B : Below A₀ base outer h₀) (F : Fr h₀ L s.heap m) (X : (evhd.heap_39 w.params).In h₀) (N : News h₀ L s.heap news) (T : EvT mean mg mb h₀)
    (hd : dp + 20 < recursionLimit) (hu : un + 400 < cLine) (hret : ∀ p d t u v, Told y p d (dayO y) → DateRet w h₀ L m news s Q y p d t u v) :
    wpAny (EvP w) (ktrTop dp un gd cn ⟨.function, nm, ig, ic, mo⟩ L a ccd cl outer) (call (.ref 347) [.int y t, .int 2 u]) Q E s := by
  k_steps
  all_goals (
    have hT := Mine.orth_told hy hy' (by assumption) (by assumption) (by assumption) (by assumption) (by assumption) (by assumption) (by assumption) (by assumption) (by assumption) (by first | exact .inl ⟨by assumption, rfl⟩ | exact .inr ⟨by assumption, Hid.out (by assumption)⟩) (by assumption) (by assumption) (by assumption)
    refine Stop.of ?_
    k_dflt (refine' Mine.date_use ?k1 ?k2 ?k3 ?k4 ?k5 ?k6 ?k7 ?k8 ?k9 ?k10 ?k11 ?k12 ?_)
    (case k1 => omega)
    (case k2 => omega)
    (case k3 => exact hT.three)
    (case k4 => exact hT.low)
    (case k5 => exact hT.high)
    (case k6 => k_asm)
    (case k7 => k_asm)
    (case k8 => k_asm)
    (case k9 => k_asm)
    (case k10 => k_asm)
    (case k11 => ktr_room)
    (case k12 => ktr_units)
    intro x dx h9 tk9 q1 q2 q3 q4 q5 F9 N9 l1 l2
    try dsimp only
    try k_fold
    k_steps
    refine' hret _ _ _ _ _ hT _ _ _ _ _ _ _ _ _ ?f ?n ?a ?b
    (case f => k_asm)
    (case n => k_asm)
    (case a => assumption)
    (case b => assumption))
end
end Mine
end PartEaster

section PartCatch
namespace Mine
open PySem.Calls PySem.Spec
theorem caught_law {w : World} {A₀ : Around} {E : Value → Shared → Prop} {s' : Shared} {h₀ h : Heap} {outer : List Env} {L a e t : Addr} {m : Str → Option Value} {name : Str} {scope : Scope} {cd : Value} {cl : List (Str × Addr)} {KF : Frag}
    {vs : List Value} {b₀ : Stmt} {suite : List Stmt} {pos np : Pos} {rest : List ExceptHandler} {Q : Flow → Shared → Prop} {news : List (Addr × Obj)} {p : Program} {loose : List Str} {mean : ExcName → Option Value} {mg mb : Str → Option Value}
    (K : Below A₀ h₀ outer h₀) (F : Fr h₀ L h m) (hsm : h.UpToSlots s'.heap) (R : RaisedK h₀ (envX name scope L a cd cl :: outer) e (.type "ValueError") t vs news s'.heap) (X : KF.In h₀) (T : Top p loose mean mg mb h₀)
    (hn : nsIn KF mainGlobals (Str.ofString "ValueError") = some none)
    (k : ∀ h', Fr h₀ L h' m → News h₀ L h' news → wpAny (model Challenge.rw_ev0011_01.row.prog w) ((A₀.deeper (envX name scope L a cd cl)).mark (some (.ref e))) (execs (b₀ :: suite) (envX name scope L a cd cl)) Q E { s' with heap := h' })
    (hk : scope.kind = .function) (hx : (envX name scope L a cd cl).kindOf (Str.ofString "ValueError") = some .globalImplicit)
    (hE : PassesOwnAt (model Challenge.rw_ev0011_01.row.prog w) ((A₀.deeper (envX name scope L a cd cl)).mark (some (.ref e))) (A₀.deeper (envX name scope L a cd cl)) (envX name scope L a cd cl) E) :
    wpAny (model Challenge.rw_ev0011_01.row.prog w) (A₀.deeper (envX name scope L a cd cl)) (noteFrame (.ref e) (envX name scope L a cd cl))
      (fun _ s₂ => wpAny (model Challenge.rw_ev0011_01.row.prog w) (A₀.deeper (envX name scope L a cd cl)) (setFlight (.ref e) none) (fun _ s₃ =>
        wpAny (model Challenge.rw_ev0011_01.row.prog w) (A₀.deeper (envX name scope L a cd cl)) (handleBy (.ref e) (envX name scope L a cd cl) (.ExceptHandler (some (.Name (Str.ofString "ValueError") np)) none (b₀ :: suite) pos :: rest)) Q E s₃) E s₂) E s' := by
  obtain ⟨⟨B, hB, hl, hfl, hnew⟩, htup⟩ := R
  have hL : B.get? L = none := by
    obtain ⟨_, ⟨L', _, hf, hn', _⟩, _⟩ := hfl.2.2.1
    obtain rfl : L = L' := Option.some.inj hf
    exact hn'
  refine wpAny_looks_onW (Around.frames_deeper K.stack) rfl hfl fun h₄ held₄ u₄ => wpAny_landsW held₄ fun h₅ fl₅ u₅ => ?_
  have up : h.UpToSlots h₅ := hsm.trans (u₄.trans u₅)
  have base₅ := flyingW_base hB fl₅
  have F₅ : Fr h₀ L h₅ m := F.of_stays base₅.1 up
  obtain ⟨ob, hob, hobc⟩ := base₅.there
  refine wpAny_handleBy_builtin (X := "ValueError") (T := "ValueError") (b := true) PySem.F.isExc_ValueError PySem.F.notTuple_ValueError (by rw [isSubtype_type]; kernel_rfl) ?_
  refine nameX_B (v := .type "ValueError") F₅ X (topRead_of T) hn PyProof.Rows.Boot.«ValueError» (by decide) ⟨rfl, ⟨ob, hob, hobc⟩, ?_⟩ hk hx (by decide)
  refine lands_againW fl₅ fun h₆ fl₆ u₆ => ?_
  have base₆ := flyingW_base hB fl₆
  exact wpAny_passesOwnAt hE (k h₆ (F.of_stays base₆.1 (up.trans u₆)) fun q hq => ⟨fl₆.1 _ _ (hl q hq).1, (fun z => by have hq1 := (hl q hq).1; rw [z, hL] at hq1; cases hq1), (hl q hq).2⟩)
end Mine
end PartCatch

theorem Mine.small_two {b : Int} (h0 : 0 ≤ b) (h1 : b ≤ 1000) : Builtin.Range.small 0 b 2 = true := by
  unfold Builtin.Range.small Builtin.Range.rangeSize Builtin.Range.rangeFitsLong
  simp
  split <;> omega
def Mine.turns (b : Int) : Nat := ((b + 1) / 2).toNat
theorem Mine.turns_le {b : Int} (h : b ≤ 20) : Mine.turns b ≤ 10 := by unfold Mine.turns; omega
theorem Mine.size_two {b : Int} (h0 : 0 ≤ b) : Builtin.Range.rangeSize 0 b 2 = (Mine.turns b : Int) := by
  unfold Builtin.Range.rangeSize Mine.turns
  simp
  split <;> omega
theorem Mine.two_ints {ys : List Value} {l : List Int} (h : IntsAre ys l) {a b : Int} (e : l = [a, b]) : ∃ a b t1 t2, ys = [Value.int a t1, Value.int b t2] := by
  subst e
  cases h with
  | cons _ t1 h =>
    cases h with
    | cons _ t2 h => cases h; exact ⟨a, b, t1, t2, rfl⟩
theorem Mine.eight (b : Int) : b.fmod 8 = 0 ∨ b.fmod 8 = 1 ∨ b.fmod 8 = 2 ∨ b.fmod 8 = 3 ∨ b.fmod 8 = 4 ∨ b.fmod 8 = 5 ∨ b.fmod 8 = 6 ∨ b.fmod 8 = 7 := by
  rw [Int.fmod_eq_emod_of_nonneg _ (by decide)]; omega
theorem Mine.mod8 {prog w A E s} {b r : Int} {t u : Tok} {Q : Value → Shared → Prop} (hb : b.fmod 8 = r) (h : Q (.int r (s.toks)) { s with toks := s.toks + 1 }) : wpAny (model prog w) A (binaryOp .Mod (.int b t) (.int 8 u)) Q E s :=
  mod_int (by decide) (by rw [hb]; exact h)
theorem Mine.in_two {prog w A E s} {h₀ : Heap} {L t : Addr} {news : List (Addr × Obj)} {p q x : Int} {tp tq u : Tok} {n : Nat} {b : Bool} {Q : Value → Shared → Prop} (N : News h₀ L s.heap news)
    (hm : (t, ({ cls := .type "tuple", data := .seq #[.int p tp, .int q tq] n } : Obj)) ∈ news) (hb : [p, q].any (· == x) = b) (h : Q (.bool b) s) : wpAny (model prog w) A (compareOp .In (.int x u) (.ref t)) Q E s :=
  in_tuple_ints (News.isTup N hm) (.cons _ _ (.cons _ _ .nil)) (by rw [hb]; exact h)
local macro_rules | `(tactic| walk_at "exec For Name Call cons nil") => `(tactic| (k_here; refine wpAny_For ?_ (by intro _; rfl)))
local macro_rules | `(tactic| walk_at "binaryOp Mod int int") => `(tactic| ((with_reducible show wpAny _ _ (binaryOp _ (Value.int _ _) (Value.int 8 _)) _ _ _); refine Mine.mod8 (by assumption) ?_))
local macro_rules | `(tactic| walk_at "compareOp In int ref") => `(tactic| (k_here; (with_reducible show wpAny _ _ (compareOp CmpOp.In (Value.int _ _) (Value.ref _)) _ _ _); k_dflt (refine' Mine.in_two (b := _) ?k1 ?k2 ?k3 ?_; (case k1 => k_asm); (case k2 => k_mem); (case k3 => rfl); k_whole)))
local macro_rules | `(tactic| walk_at "exec Try") => `(tactic| (k_here; (with_reducible show wpAny _ _ (exec (Stmt.Try _ (_ :: _) _ [] _) _) _ _ _); refine wpAny_Try_except ?_))
-- the year's if
local macro_rules | `(tactic| walk_at "execs cons If") => `(tactic| (k_here; (with_reducible show wpAny _ _ (execs (Stmt.If (PySem.Expr.BoolOp BoolOp.And _ _) _ _ _ :: _) _) _ _ _); (rename Mine.Lo _ => hLo9); (rename Fr _ _ _ _ => lF'); (rename News _ _ _ _ => lN'); (with_unfolding_all refine Mine.ev_year hLo9 lF' lN' ?_ ?_); rotate_left 1; (intro y9 t9 h9 tk9 hy9 hy8 F9 N9); (clear lF' lN'); rotate_left 1))
local macro_rules | `(tactic| walk_at "execs cons If") => `(tactic| (k_here; (with_reducible show wpAny _ _ (execs (Stmt.If (PySem.Expr.BoolOp BoolOp.Or _ _) _ _ _ :: _) _) _ _ _); (rename Mine.Told _ _ _ _ => hT9); (rename Fr _ _ _ _ => lF'); (rename News _ _ _ _ => lN'); (with_unfolding_all refine Mine.ev_epact hT9 lF' lN' ?_ ?_); rotate_left 1; (intro y9 t9 h9 tk9 hy9 F9 N9); (clear lF' lN'); rotate_left 1))
local macro_rules | `(tactic| walk_at "eval IfExp") => `(tactic| (k_here; goal_lacks Mine.ValEnd; (with_reducible show wpAny _ _ (eval (PySem.Expr.IfExp _ (PySem.Expr.BinOp _ _ _ _) (PySem.Expr.BinOp _ _ _ _) _) _) _ _ _); (rename Mine.Told _ _ _ _ => hT9); (rename Fr _ _ _ _ => lF'); (rename News _ _ _ _ => lN'); (with_unfolding_all refine Mine.ev_moon hT9 lF' lN' ?_ ?_); rotate_left 1; (intro y9 t9 h9 tk9 hy9 F9 N9); (clear lF' lN'); rotate_left 1))
local macro_rules | `(tactic| walk_at "IfEnd") => `(tactic| (k_dflt first
  | (refine Mine.IfEnd.set (by assumption) ?kN ?kP; (case kN => first | assumption | exact Mine.news_tail (by assumption)); (case kP => first | (constructor <;> omega) | exact Mine.epact_end (by assumption) (by (repeat' split) <;> omega)))
  | (refine Mine.IfEnd.keep (by assumption) ?kN (by rfl) ?kP; (case kN => first | assumption | exact Mine.news_tail (by assumption)); (case kP => first | (constructor <;> omega) | exact Mine.epact_end (by assumption) (by (repeat' split) <;> omega)))))
local macro_rules | `(tactic| walk_at "ValEnd") => `(tactic| (k_dflt (refine Mine.ValEnd.mk' (by assumption) ?kN ?kP; (case kN => assumption); (case kP => exact Mine.moon_end (by assumption) (by (repeat' split) <;> omega)))))
local macro_rules | `(tactic| walk_at "call ref") => `(tactic| (k_here; (with_reducible show wpAny _ _ (PySem.call (Value.ref 347) [Value.int _ _, Value.int 3 _]) _ _ _); k_dflt (refine' Mine.easter3_use ?k1 ?k2 ?k4 ?k5 ?k6 ?k7 ?k8 ?k9 ?k10 ?_; (case k1 => omega); (case k2 => omega); (case k4 => k_asm); (case k5 => k_asm); (case k6 => k_asm); (case k7 => k_asm); (case k8 => k_asm); (case k9 => ktr_room); (case k10 => ktr_units); k_whole); intro p9 d9 t9 u9 v9 hT9 x9 dx9 h9 tk9 q1 q2 q3 q4 q5 F9 N9 l1 l2; (try k_lt l1); (try k_lt2 l2); (try k_sweep); (try dsimp only); (try k_fold)))
local macro_rules | `(tactic| walk_at "call ref") => `(tactic| (k_here; (with_reducible show wpAny _ _ (PySem.call (Value.ref 347) [Value.int _ _]) _ _ _); k_dflt (refine' Mine.easter3d_use ?k1 ?k2 ?k4 ?k5 ?k6 ?k7 ?k8 ?k9 ?k10 ?_; (case k1 => omega); (case k2 => omega); (case k4 => k_asm); (case k5 => k_asm); (case k6 => k_asm); (case k7 => k_asm); (case k8 => k_asm); (case k9 => ktr_room); (case k10 => ktr_units); k_whole); intro p9 d9 t9 u9 v9 hT9 x9 dx9 h9 tk9 q1 q2 q3 q4 q5 F9 N9 l1 l2; (try k_lt l1); (try k_lt2 l2); (try k_sweep); (try dsimp only); (try k_fold)))
local macro_rules | `(tactic| walk_at "call ref") => `(tactic| (k_here; (with_reducible show wpAny _ _ (PySem.call (Value.ref 347) [Value.int _ _, Value.int 1 _]) _ _ _); k_dflt (refine' Mine.easter1_use ?k1 ?k2 ?k4 ?k5 ?k6 ?k7 ?k8 ?k9 ?k10 ?_; (case k1 => omega); (case k2 => omega); (case k4 => k_asm); (case k5 => k_asm); (case k6 => k_asm); (case k7 => k_asm); (case k8 => k_asm); (case k9 => ktr_room); (case k10 => ktr_units); k_whole); intro p9 d9 t9 u9 v9 hT9 x9 dx9 h9 tk9 q1 q2 q3 q4 q5 F9 N9 l1 l2; (try k_lt l1); (try k_lt2 l2); (try k_sweep); (try dsimp only); (try k_fold)))
local macro_rules | `(tactic| walk_at "call ref") => `(tactic| (k_here; (with_reducible show wpAny _ _ (PySem.call (Value.ref 347) [Value.int _ _, Value.int 2 _]) _ _ _); k_dflt (refine' Mine.easter2_use ?k1 ?k2 ?k4 ?k5 ?k6 ?k7 ?k8 ?k9 ?k10 ?_; (case k1 => omega); (case k2 => omega); (case k4 => k_asm); (case k5 => k_asm); (case k6 => k_asm); (case k7 => k_asm); (case k8 => k_asm); (case k9 => ktr_room); (case k10 => ktr_units); k_whole); intro p9 d9 t9 u9 v9 hT9 x9 dx9 h9 tk9 q1 q2 q3 q4 q5 F9 N9 l1 l2; (try k_lt l1); (try k_lt2 l2); (try k_sweep); (try dsimp only); (try k_fold)))
local macro_rules | `(tactic| walk_at "call ref") => `(tactic| (k_here; (with_reducible show wpAny _ _ (PySem.call (Value.ref 355) _) _ _ _); k_dflt (refine' Mine.number_use ?k1 ?k2 ?k3 ?k4 ?k5 ?kK ?kd ?ku ?_; (case k1 => k_asm); (case k2 => k_asm); (case k3 => k_asm); (case k4 => k_asm); (case k5 => k_asm); (case kK => first | exact rfl | assumption); (case kd => ktr_room); (case ku => ktr_units); k_whole); intro t9 h9 tk9 F9 N9; (try dsimp only); (try k_fold)))
local macro_rules | `(tactic| walk_at "call ref") => `(tactic| (k_here; (with_reducible show wpAny _ _ (PySem.call (Value.ref 362) _) _ _ _); k_dflt (refine' Mine.sunday_use ?k1 ?k2 ?k3 ?k4 ?k5 ?kK ?kd ?ku ?_; (case k1 => k_asm); (case k2 => k_asm); (case k3 => k_asm); (case k4 => k_asm); (case k5 => k_asm); (case kK => first | exact rfl | assumption); (case kd => ktr_room); (case ku => ktr_units); k_whole); intro t9 h9 tk9 F9 N9; (try dsimp only); (try k_fold)))
local macro_rules | `(tactic| walk_at "storeName") => `(tactic| (k_here; (with_reducible show wpAny _ _ (storeName _ _ (Value.int (Int.fmod _ 30) _)) _ _ _); refine Mine.cut_mod (P := fun z => wpAny _ _ (storeName _ _ (Value.int z _)) _ _ _) (by decide) ?_; intro x' b0' b1' e'; (try dsimp only)))
local macro_rules | `(tactic| walk_at "storeName") => `(tactic| (k_here; (with_reducible show wpAny _ _ (storeName _ _ (Value.int (HSub.hSub (HSub.hSub (Mine.sundayF _) _) _) _)) _ _ _); refine Mine.cut_eq (P := fun z => wpAny _ _ (storeName _ _ (Value.int z _)) _ _ _) ?_; intro x' e'; (try dsimp only)))
local macro_rules | `(tactic| walk_at "storeName") => `(tactic| (k_here; (with_reducible show wpAny _ _ (storeName _ _ (Value.int (HSub.hSub (HSub.hSub (Int.fdiv _ 100) (Int.fdiv _ 400)) 2) _)) _ _ _); refine Mine.cut_eq (P := fun z => wpAny _ _ (storeName _ _ (Value.int z _)) _ _ _) ?_; intro x' e'; (try dsimp only)))
local macro_rules | `(tactic| walk_at "exec While") => `(tactic| (k_here; (fail_if_success (with_reducible rename Mine.Mark => hMark9)); refine Mine.Stop.mk ?_))
local macro_rules | `(tactic| walk_at "WhlIf") => `(tactic| (first | (refine WhlIf.yes (by simp only [decide_eq_true_eq]; omega) ?_) | (refine WhlIf.no (by simp only [decide_eq_false_iff_not]; omega) ?_)))
local macro_rules | `(tactic| walk_at "noteFrame ref") => `(tactic| (k_here; (rename RaisedK _ _ _ _ _ _ _ _ => rkX); k_dflt (refine' Mine.caught_law ?k1 ?k2 ?k3 rkX ?k5 ?k6 ?k7 ?_ ?k8 ?k9 ?k10; (case k1 => assumption); (case k2 => assumption); (case k3 => assumption); (case k5 => k_asm); (case k6 => k_asm); (case k7 => k_is); (case k8 => rfl); (case k9 => rfl); (case k10 => passes_own); k_whole); intro h' F' N'; (try k_sweep)))
set_option maxHeartbeats 100000000 in
theorem PySem.Challenge.cw_ev0011_01_holds : PySem.Challenge.rw_ev0011_01.Holds := by
  refine Mine.evhd ?_
  w_strict (
  k_fill
  intro w s₀ s₁ mg mb G Y fa o pm cd doc dV kV ho hd hcd hD hmg hg args vals as hpre hlay hrd hwl hlo
  have KX := kIn_of Y
  k_behind G ho hd hcd hD hmg hpre hlay hrd hwl hlo cd
  (all_goals try k_fold)
  k_steps
  all_goals (
    rename IsRange _ _ _ _ _ _ _ _ => rgX
    rename Fr _ _ _ _ => lF'
    rename News _ _ _ _ => lN'
    refine' Mine.ev_loop (n := Mine.turns _) (by rfl) (by rfl) (by rfl) (by rfl) (by rfl) (by rfl) rgX ?hsm ?hsz lF' lN' (by rfl) (by rfl) ?hA ?hD ?hk ?hkd ?hs ?hsd ?hcc ?had ?hE ?turn ?done
    case hsz => (refine Mine.size_two ?_; omega)
    case hsm => (refine Mine.small_two ?_ ?_ <;> omega)
    case hA => k_mem
    case hD => k_mem
    case hk => k_mem
    case hs => k_mem
    case hkd => exact ⟨_, by assumption⟩
    case hsd => exact ⟨_, by assumption⟩
    case hcc => k_ne
    case had => k_ne
    case hE => passes_own
    case done =>
      clear lF' lN' rgX
      intro us n1 ws n2 ds tl u h tk ok D1 D2 hok F' N'
      have kM1 := PySem.W.kstMark
      have kM2 := PySem.W.kdMark
      dsimp only
      (try k_fold)
      k_steps
    case turn =>
      clear lF' lN' rgX
      intro i us k1 ws k2 ds tl own u h tk t ok hi hlen D1 D2 hok hoff F' N'
      have hus : us.length ≤ 10 := by rw [D1.length, hlen]; exact Nat.le_of_lt (Nat.lt_of_lt_of_le hi (Mine.turns_le (by omega)))
      have hws : ws.length ≤ 10 := by rw [D2.length, hlen]; exact Nat.le_of_lt (Nat.lt_of_lt_of_le hi (Mine.turns_le (by omega)))
      have kM1 := PySem.W.kstMark
      have kM2 := PySem.W.kdMark
      clear G Y ho hg hcd hD
      k_steps
      rename IntsAre _ (List.map _ _) => hI8
      obtain ⟨a, b, t1, t2, e8⟩ := Mine.two_ints hI8 rfl
      subst e8
      clear hI8
      (try dsimp only [LCg.lst] at *)
      have hy8 := Mine.year_start a
      rcases Mine.eight b with hb | hb | hb | hb | hb | hb | hb | hb
      · have hLo : Mine.Lo 1583 := ⟨⟩
        k_steps
        rename Mine.Told _ _ _ _ => hT
        have hW := Mine.west_day hT (by assumption) (by assumption)
        have hMk : Mine.Mark := ⟨⟩
        refine Mine.Stop.of ?_
        rcases hW with ⟨e1, e2, e3, e4⟩ | ⟨e1, e2, e3, e4⟩
        all_goals (
          subst e1; subst e2
          k_dflt (refine whl_start 4 ?_)
          k_steps
          refine Mine.post_next ?_
          refine' Mine.end_good (by assumption) (by assumption) (by rfl) (by rfl) ?hA ?hD ?hk hok ?hs ?ht ?h1 ?h2 ?i1 ?i2 ?zEq D1 D2
          case hA => k_mem
          case hD => k_mem
          case hk => k_mem
          case hs => k_mem
          case ht => (intro p hp; (repeat (first | exact hp | refine List.mem_cons_of_mem _ ?_)))
          case h1 => k_mem
          case h2 => k_mem
          case i1 => exact IntsAre.cons _ _ (IntsAre.cons _ _ (IntsAre.cons _ _ (IntsAre.cons _ _ IntsAre.nil)))
          case i2 => exact IntsAre.cons _ _ (IntsAre.cons _ _ (IntsAre.cons _ _ (IntsAre.cons _ _ IntsAre.nil)))
          case zEq => exact Mine.four_eq rfl (by omega) (by omega) hT.wk)
      · have hLo : Mine.Lo 326 := ⟨⟩
        k_steps
        rename Mine.ToldJ _ _ _ _ => hT
        have hW := Mine.jul_day hT (by assumption) (by assumption)
        have hMk : Mine.Mark := ⟨⟩
        refine Mine.Stop.of ?_
        rcases hW with ⟨e1, e2, e3, e4⟩ | ⟨e1, e2, e3, e4⟩
        all_goals (
          subst e1; subst e2
          k_dflt (refine whl_start 4 ?_)
          k_steps
          refine Mine.post_next ?_
          refine' Mine.end_good (by assumption) (by assumption) (by rfl) (by rfl) ?hA ?hD ?hk hok ?hs ?ht ?h1 ?h2 ?i1 ?i2 ?zEq D1 D2
          case hA => k_mem
          case hD => k_mem
          case hk => k_mem
          case hs => k_mem
          case ht => (intro p hp; (repeat (first | exact hp | refine List.mem_cons_of_mem _ ?_)))
          case h1 => k_mem
          case h2 => k_mem
          case i1 => exact IntsAre.cons _ _ (IntsAre.cons _ _ (IntsAre.cons _ _ IntsAre.nil))
          case i2 => exact IntsAre.cons _ _ (IntsAre.cons _ _ (IntsAre.cons _ _ IntsAre.nil))
          case zEq => exact Mine.three_eq rfl (by omega) (by omega))
      · have hLo : Mine.Lo 1583 := ⟨⟩
        k_steps
        rename Mine.Told _ _ _ _ => hT
        have hW := Mine.orth_day (by omega) hT (by assumption) (by assumption)
        have hMk : Mine.Mark := ⟨⟩
        refine Mine.Stop.of ?_
        rcases hW with ⟨e1, e2, e3, e4⟩ | ⟨e1, e2, e3, e4⟩
        all_goals (
          subst e1; subst e2
          k_dflt (refine whl_start 4 ?_)
          k_steps
          refine Mine.post_next ?_
          refine' Mine.end_good (by assumption) (by assumption) (by rfl) (by rfl) ?hA ?hD ?hk hok ?hs ?ht ?h1 ?h2 ?i1 ?i2 ?zEq D1 D2
          case hA => k_mem
          case hD => k_mem
          case hk => k_mem
          case hs => k_mem
          case ht => (intro p hp; (repeat (first | exact hp | refine List.mem_cons_of_mem _ ?_)))
          case h1 => k_mem
          case h2 => k_mem
          case i1 => exact IntsAre.cons _ _ (IntsAre.cons _ _ (IntsAre.cons _ _ (IntsAre.cons _ _ IntsAre.nil)))
          case i2 => exact IntsAre.cons _ _ (IntsAre.cons _ _ (IntsAre.cons _ _ (IntsAre.cons _ _ IntsAre.nil)))
          case zEq => exact Mine.four_eq rfl (by omega) (by omega) hT.wk)
      · have hLo : Mine.Lo 1583 := ⟨⟩
        k_steps
        rename Mine.Told _ _ _ _ => hT
        have hW := Mine.west_day hT (by assumption) (by assumption)
        have hMk : Mine.Mark := ⟨⟩
        refine Mine.Stop.of ?_
        rcases hW with ⟨e1, e2, e3, e4⟩ | ⟨e1, e2, e3, e4⟩
        all_goals (
          subst e1; subst e2
          k_dflt (refine whl_start 4 ?_)
          k_steps
          refine Mine.post_next ?_
          refine' Mine.end_good (by assumption) (by assumption) (by rfl) (by rfl) ?hA ?hD ?hk hok ?hs ?ht ?h1 ?h2 ?i1 ?i2 ?zEq D1 D2
          case hA => k_mem
          case hD => k_mem
          case hk => k_mem
          case hs => k_mem
          case ht => (intro p hp; (repeat (first | exact hp | refine List.mem_cons_of_mem _ ?_)))
          case h1 => k_mem
          case h2 => k_mem
          case i1 => exact IntsAre.cons _ _ (IntsAre.cons _ _ (IntsAre.cons _ _ (IntsAre.cons _ _ IntsAre.nil)))
          case i2 => exact IntsAre.cons _ _ (IntsAre.cons _ _ (IntsAre.cons _ _ (IntsAre.cons _ _ IntsAre.nil)))
          case zEq => exact Mine.four_eq rfl (by omega) (by omega) hT.wk)
      · have hLo : Mine.Lo 1583 := ⟨⟩
        k_steps
        rename Mine.Told _ _ _ _ => hT
        have hW := Mine.west_day hT (by assumption) (by assumption)
        have hMk : Mine.Mark := ⟨⟩
        refine Mine.Stop.of ?_
        rcases hW with ⟨e1, e2, e3, e4⟩ | ⟨e1, e2, e3, e4⟩
        all_goals (
          subst e1; subst e2
          k_dflt (refine whl_start 4 ?_)
          k_steps
          refine Mine.post_next ?_
          refine' Mine.end_good (by assumption) (by assumption) (by rfl) (by rfl) ?hA ?hD ?hk hok ?hs ?ht ?h1 ?h2 ?i1 ?i2 ?zEq D1 D2
          case hA => k_mem
          case hD => k_mem
          case hk => k_mem
          case hs => k_mem
          case ht => (intro p hp; (repeat (first | exact hp | refine List.mem_cons_of_mem _ ?_)))
          case h1 => k_mem
          case h2 => k_mem
          case i1 => exact IntsAre.cons _ _ (IntsAre.cons _ _ (IntsAre.cons _ _ (IntsAre.cons _ _ IntsAre.nil)))
          case i2 => exact IntsAre.cons _ _ (IntsAre.cons _ _ (IntsAre.cons _ _ (IntsAre.cons _ _ IntsAre.nil)))
          case zEq => exact Mine.four_eq rfl (by omega) (by omega) hT.wk)
      · have hLo : Mine.Lo 326 := ⟨⟩
        k_steps
        refine Mine.post_cont ?_
        refine' Mine.end_bad (by assumption) (by assumption) (by rfl) (by rfl) ?hA ?hD ?hk hok ?hs ?ht D1 D2
        case hA => k_mem
        case hD => k_mem
        case hk => k_mem
        case hs => k_mem
        case ht => (intro p hp; (repeat (first | exact hp | refine List.mem_cons_of_mem _ ?_)))
      · have hLo : Mine.Lo 326 := ⟨⟩
        k_steps
        refine Mine.post_cont ?_
        refine' Mine.end_bad (by assumption) (by assumption) (by rfl) (by rfl) ?hA ?hD ?hk hok ?hs ?ht D1 D2
        case hA => k_mem
        case hD => k_mem
        case hk => k_mem
        case hs => k_mem
        case ht => (intro p hp; (repeat (first | exact hp | refine List.mem_cons_of_mem _ ?_)))
      · have hLo : Mine.Lo 326 := ⟨⟩
        k_steps
        refine Mine.post_cont ?_
        refine' Mine.end_bad (by assumption) (by assumption) (by rfl) (by rfl) ?hA ?hD ?hk hok ?hs ?ht D1 D2
        case hA => k_mem
        case hD => k_mem
        case hk => k_mem
        case hs => k_mem
        case ht => (intro p hp; (repeat (first | exact hp | refine List.mem_cons_of_mem _ ?_)))))
