/-
  The calendar: a time's date is fit and has that time; a time has one date alone. Conditions: none.
-/
import Derived.Test.YtpdkenjphnlbdaaT1
import Derived.Test.YtpdkenjphnlbdaaK3
import Derived.Test.YtpdkenjphnlbdaaT2
import Derived.Laws.Strings
set_option linter.unusedVariables false
namespace Go.Proofs.YtpdkenjphnlbdaaA

theorem stYears_step (y : Int) : stYears (y + 1) = stYears y + 365 + (if stLeap y = true then 1 else 0) := by
  unfold stYears stLeap
  simp only [decide_eq_true_eq]
  split <;> omega
theorem stYears_mono {a b : Int} (h : a < b) : stYears a + 365 ≤ stYears b := by
  unfold stYears
  omega
theorem stAhead_step {y m : Int} (h1 : 1 ≤ m) (h2 : m ≤ 12) : stAhead y (m + 1) = stAhead y m + stDays y m := by
  have hm : m = 1 ∨ m = 2 ∨ m = 3 ∨ m = 4 ∨ m = 5 ∨ m = 6 ∨ m = 7 ∨ m = 8 ∨ m = 9 ∨ m = 10 ∨ m = 11 ∨ m = 12 := by omega
  unfold stAhead stDays
  cases stLeap y <;> rcases hm with h | h | h | h | h | h | h | h | h | h | h | h <;> subst h <;> rfl
theorem stAhead_one (y : Int) : stAhead y 1 = 0 := by unfold stAhead; rfl
theorem stAhead_end (y : Int) : stAhead y 13 = 365 + (if stLeap y = true then 1 else 0) := by unfold stAhead; cases stLeap y <;> rfl
theorem stDays_rng (y m : Int) : 28 ≤ stDays y m ∧ stDays y m ≤ 31 := by
  unfold stDays
  split
  · split <;> omega
  · split <;> omega
theorem stAhead_mono {y a b : Int} (h1 : 1 ≤ a) (h : a < b) (h2 : b ≤ 13) : stAhead y (a + 1) ≤ stAhead y b := by
  unfold stAhead
  split <;> split <;> omega

/-- 400 years, from a first of March on -/
theorem st_era (doe : Int) (h0 : 0 ≤ doe) (h1 : doe ≤ 146096) : ∃ Q P Y w : Int, 0 ≤ Q ∧ Q ≤ 3 ∧ 0 ≤ P ∧ P ≤ 24 ∧ 0 ≤ Y ∧ Y ≤ 3 ∧ 0 ≤ w ∧ w ≤ 365 ∧ doe = 36524 * Q + 1461 * P + 365 * Y + w ∧ (w = 365 → Y = 3 ∧ (P ≠ 24 ∨ Q = 3)) ∧
    (doe - doe / 1460 + doe / 36524 - doe / 146096) / 365 = 100 * Q + 4 * P + Y := by
  obtain ⟨Q, hQ⟩ : ∃ Q, Q = if doe = 146096 then 3 else doe / 36524 := ⟨_, rfl⟩
  have hQ' : (Q = 0 ∨ Q = 1 ∨ Q = 2 ∨ Q = 3) ∧ 0 ≤ doe - 36524 * Q ∧ (doe - 36524 * Q ≤ 36523 ∨ Q = 3 ∧ doe - 36524 * Q = 36524) := by split at hQ <;> omega
  obtain ⟨r, hr⟩ : ∃ r, r = doe - 36524 * Q := ⟨_, rfl⟩
  obtain ⟨P, hP⟩ : ∃ P, P = r / 1461 := ⟨_, rfl⟩
  obtain ⟨s, hs⟩ : ∃ s, s = r - 1461 * P := ⟨_, rfl⟩
  obtain ⟨Y, hY⟩ : ∃ Y, Y = if s = 1460 then 3 else s / 365 := ⟨_, rfl⟩
  have hs2 : 0 ≤ s ∧ s ≤ 1460 ∧ 0 ≤ P ∧ P ≤ 24 := by omega
  have hY' : (Y = 0 ∨ Y = 1 ∨ Y = 2 ∨ Y = 3) ∧ 0 ≤ s - 365 * Y ∧ (s - 365 * Y ≤ 364 ∨ Y = 3 ∧ s - 365 * Y = 365) := by split at hY <;> omega
  clear hQ hY
  obtain ⟨w, hw⟩ : ∃ w, w = s - 365 * Y := ⟨_, rfl⟩
  have hd : doe = 36524 * Q + 1461 * P + 365 * Y + w := by omega
  have hw2 : 0 ≤ w ∧ w ≤ 365 ∧ (w = 365 → Y = 3 ∧ (P ≠ 24 ∨ Q = 3)) := by omega
  obtain ⟨hQ1, hQ2, hQ3⟩ := hQ'
  obtain ⟨hY1, hY2, hY3⟩ := hY'
  obtain ⟨_, _, hP1, hP2⟩ := hs2
  clear hQ2 hQ3 hY2 hY3 hw hs hP hr
  refine ⟨Q, P, Y, w, by omega, by omega, hP1, hP2, by omega, by omega, hw2.1, hw2.2.1, hd, hw2.2.2, ?_⟩
  obtain ⟨w1, w2, w3⟩ := hw2
  have ha : doe / 1460 = 25 * Q + P + (24 * Q + P + 365 * Y + w) / 1460 := by rw [hd]; omega
  have hb : doe / 36524 = Q + (1461 * P + 365 * Y + w) / 36524 := by rw [hd]; omega
  have hc : doe / 146096 = (1461 * P + 365 * Y + w + 36524 * Q) / 146096 := by rw [hd]; congr 1; omega
  rw [ha, hb, hc]
  have h5 : (24 * Q + P + 365 * Y + w) / 1460 = 0 ∨ (24 * Q + P + 365 * Y + w) / 1460 = 1 := by omega
  have h6 : (1461 * P + 365 * Y + w) / 36524 = (1461 * P + 365 * Y + w + 36524 * Q) / 146096 := by
    rcases hQ1 with h | h | h | h <;> subst h <;> omega
  rw [h6, hd]
  generalize (1461 * P + 365 * Y + w + 36524 * Q) / 146096 = c
  rcases h5 with h5 | h5 <;> rw [h5] <;> omega

theorem st_cycle {Q P Y era y : Int} (q1 : 0 ≤ Q) (q2 : Q ≤ 3) (q3 : 0 ≤ P) (q4 : P ≤ 24) (q5 : 0 ≤ Y) (q6 : Y ≤ 3) (hy : y = 100 * Q + 4 * P + Y + era * 400) : y / 4 = 25 * Q + P + era * 100 ∧ y / 100 = Q + era * 4 ∧ y / 400 = era := by
  subst hy
  refine ⟨by omega, by omega, by omega⟩
theorem st_hms {s : Int} (h0 : 0 ≤ s) (h1 : s < 86400) : 0 ≤ s / 3600 ∧ s / 3600 < 24 ∧ 0 ≤ s / 60 % 60 ∧ s / 60 % 60 < 60 ∧ 0 ≤ s % 60 ∧ s % 60 < 60 ∧ s / 3600 * 3600 + s / 60 % 60 * 60 + s % 60 = s := by omega
theorem st_leap_w {Q P Y era w y : Int} (q1 : 0 ≤ Q) (q2 : Q ≤ 3) (q3 : 0 ≤ P) (q4 : P ≤ 24) (hw : w = 365) (q : w = 365 → Y = 3 ∧ (P ≠ 24 ∨ Q = 3)) (hy : y = 100 * Q + 4 * P + Y + era * 400) : stLeap (y + 1) = true := by
  obtain ⟨h1, h2⟩ := q hw
  subst hy h1
  unfold stLeap
  simp only [decide_eq_true_eq]
  refine ⟨by omega, ?_⟩
  rcases h2 with h2 | h2
  · left; omega
  · subst h2
    by_cases hp : P = 24
    · right; omega
    · left; omega

theorem st_mon {w mp d : Int} (y : Int) (h0 : 0 ≤ w) (hmp : mp = (5 * w + 2) / 153) (hd : d = w - (153 * mp + 2) / 5 + 1) (hc : mp ≤ 9) : 0 ≤ mp ∧ 1 ≤ d ∧ d ≤ stDays y (mp + 3) := by
  have h1 : 0 ≤ mp := by omega
  have hm2 : mp = 0 ∨ mp = 1 ∨ mp = 2 ∨ mp = 3 ∨ mp = 4 ∨ mp = 5 ∨ mp = 6 ∨ mp = 7 ∨ mp = 8 ∨ mp = 9 := by omega
  unfold stDays
  rw [if_neg (by omega)]
  refine ⟨h1, by omega, ?_⟩
  rcases hm2 with h | h | h | h | h | h | h | h | h | h <;> subst h
  · rw [if_neg (by omega)]; omega
  · rw [if_pos (by omega)]; omega
  · rw [if_neg (by omega)]; omega
  · rw [if_pos (by omega)]; omega
  · rw [if_neg (by omega)]; omega
  · rw [if_neg (by omega)]; omega
  · rw [if_pos (by omega)]; omega
  · rw [if_neg (by omega)]; omega
  · rw [if_pos (by omega)]; omega
  · rw [if_neg (by omega)]; omega

/-- a time's date is fit, and has that time -/
theorem stDated_ok {t : Int} (h : stIn t = true) : stFit (stDated t).d0 (stDated t).d1 (stDated t).d2 (stDated t).d3 (stDated t).d4 (stDated t).d5 = true ∧ stSecs (stDated t).d0 (stDated t).d1 (stDated t).d2 (stDated t).d3 (stDated t).d4 (stDated t).d5 = t := by
  unfold stIn at h
  simp only [decide_eq_true_eq] at h
  obtain ⟨n, hn⟩ : ∃ n, n = (t + 62135596800) / 86400 := ⟨_, rfl⟩
  obtain ⟨s, hs⟩ : ∃ s, s = (t + 62135596800) % 86400 := ⟨_, rfl⟩
  have hns : 0 ≤ n ∧ n ≤ 3652058 ∧ t + 62135596800 = 86400 * n + s ∧ 0 ≤ s ∧ s < 86400 := by omega
  obtain ⟨doe, hdoe⟩ : ∃ d, d = (n + 306) % 146097 := ⟨_, rfl⟩
  obtain ⟨era, hera⟩ : ∃ e, e = (n + 306) / 146097 := ⟨_, rfl⟩
  have hz : 0 ≤ doe ∧ doe ≤ 146096 ∧ n + 306 = 146097 * era + doe ∧ 0 ≤ era ∧ era ≤ 24 := by clear hn hs h; omega
  obtain ⟨Q, P, Y, w, q1, q2, q3, q4, q5, q6, q7, q8, q9, q10, q11⟩ := st_era doe hz.1 hz.2.1
  obtain ⟨y, hy⟩ : ∃ y, y = 100 * Q + 4 * P + Y + era * 400 := ⟨_, rfl⟩
  obtain ⟨c1, c2, c3⟩ := st_cycle q1 q2 q3 q4 q5 q6 hy
  obtain ⟨e1, e2, e3⟩ := st_cycle (era := 0) (y := 100 * Q + 4 * P + Y) q1 q2 q3 q4 q5 q6 (by simp)
  obtain ⟨mp, hmp⟩ : ∃ m, m = (5 * w + 2) / 153 := ⟨_, rfl⟩
  obtain ⟨d, hd⟩ : ∃ d, d = w - (153 * mp + 2) / 5 + 1 := ⟨_, rfl⟩
  have hdoy : doe - (365 * (100 * Q + 4 * P + Y) + (100 * Q + 4 * P + Y) / 4 - (100 * Q + 4 * P + Y) / 100) = w := by rw [e1, e2]; clear e3 q11 hdoe hera hn hs h c1 c2 c3 e1 e2 hmp hd hy q10 hns; omega
  have hD : stDated t = if 9 < mp then ⟨y + 1, mp - 9, d, s / 3600, s / 60 % 60, s % 60⟩ else ⟨y, mp + 3, d, s / 3600, s / 60 % 60, s % 60⟩ := by
    unfold stDated
    simp only [← hn, ← hs, ← hdoe, ← hera, q11, hdoy, ← hmp, ← hd, ← hy]
  rw [hD]
  have hday : stYears (y + 1) = y * 365 + y / 4 - y / 100 + y / 400 := by
    unfold stYears
    rw [show y + 1 - 1 = y by omega]
  rw [c1, c2, c3] at hday
  have hst := stYears_step y
  obtain ⟨m1, m2, m3, m4, m5, m6, m7⟩ := st_hms hns.2.2.2.1 hns.2.2.2.2
  have hw365 : w = 365 → stLeap (y + 1) = true := fun e => st_leap_w q1 q2 q3 q4 e q10 hy
  clear hn hs hdoe hera q11 e1 e2 e3 hdoy c1 c2 c3 q10 hD
  have hyr : 0 ≤ y ∧ n + 306 = y * 365 + (25 * Q + P + era * 100) - (Q + era * 4) + era + w := by
    clear hw365 m1 m2 m3 m4 m5 m6 m7 hst hday hd hmp h
    omega
  by_cases hc : 9 < mp
  · rw [if_pos hc]
    have hm2 : mp = 10 ∨ mp = 11 := by omega
    have hyy : 0 ≤ y ∧ y ≤ 9998 := by omega
    refine ⟨?_, ?_⟩
    · unfold stFit stDays
      simp only [decide_eq_true_eq]
      refine ⟨⟨by omega, by omega, by omega, by omega⟩, ⟨by omega, ?_⟩, m1, m2, m3, m4, m5, m6⟩
      rcases hm2 with h | h <;> subst h
      · rw [if_neg (by omega), if_neg (by omega)]; omega
      · rw [if_pos (by omega)]
        by_cases hw : w = 365
        · rw [if_pos (hw365 hw)]; omega
        · split <;> omega
    · unfold stSecs stAhead
      show -62135596800 + (stYears (y + 1) + (if mp - 9 ≤ 2 then 31 * (mp - 9 - 1) else _) + (d - 1)) * 86400 + (s / 3600 * 3600 + s / 60 % 60 * 60 + s % 60) = t
      rw [m7, if_pos (by omega)]
      have : stYears (y + 1) + 31 * (mp - 9 - 1) + (d - 1) = n := by
        rw [hday]
        rcases hm2 with h | h <;> subst h <;> omega
      rw [this]; omega
  · rw [if_neg hc]
    obtain ⟨n1, n2, n3⟩ := st_mon y q7 hmp hd (by omega)
    have hw305 : w ≤ 305 := by clear hyr hst hday m1 m2 m3 m4 m5 m6 m7 h hns hz; omega
    have hyy : 1 ≤ y ∧ y ≤ 9999 := by clear hst hday m1 m2 m3 m4 m5 m6 m7 h n1 n2 n3 hd hmp; omega
    refine ⟨?_, ?_⟩
    · unfold stFit
      simp only [decide_eq_true_eq]
      exact ⟨⟨hyy.1, hyy.2, by clear hyr hst hday h hns hz; omega, by clear hyr hst hday h hns hz; omega⟩, ⟨n2, n3⟩, m1, m2, m3, m4, m5, m6⟩
    · unfold stSecs stAhead
      show -62135596800 + (stYears y + (if mp + 3 ≤ 2 then _ else (153 * (mp + 3 - 3) + 2) / 5 + 59 + (if stLeap y = true then 1 else 0)) + (d - 1)) * 86400 + (s / 3600 * 3600 + s / 60 % 60 * 60 + s % 60) = t
      rw [m7, if_neg (by clear hyr hst hday h hns hz; omega), show mp + 3 - 3 = mp by clear hyr hst hday h hns hz; omega]
      have : stYears y + ((153 * mp + 2) / 5 + 59 + (if stLeap y = true then 1 else 0)) + (d - 1) = n := by
        rw [hday] at hst
        have hyr := hyr.2
        clear m1 m2 m3 m4 m5 m6 m7 h hns hz hmp n1 n2 n3 q1 q2 q3 q4 q5 q6 q7 q8 q9 hw365 hyy hday hy
        generalize (if stLeap y = true then 1 else 0 : Int) = lp at *
        generalize stYears y = sy at *
        generalize (153 * mp + 2) / 5 = k at *
        omega
      rw [this]
      clear hyr hst hday m1 m2 m3 m4 m5 m6 m7 h hmp hd n1 n2 n3
      omega

/-- a time has one date alone -/
theorem st_one {y m d h i s y' m' d' h' i' s' : Int} (h1 : stFit y m d h i s = true) (h2 : stFit y' m' d' h' i' s' = true) (he : stSecs y m d h i s = stSecs y' m' d' h' i' s') : y = y' ∧ m = m' ∧ d = d' ∧ h = h' ∧ i = i' ∧ s = s' := by
  unfold stFit at h1 h2
  simp only [decide_eq_true_eq] at h1 h2
  unfold stSecs at he
  have key : ∀ {y m d : Int}, (1 ≤ y ∧ y ≤ 9999 ∧ 1 ≤ m ∧ m ≤ 12) → (1 ≤ d ∧ d ≤ stDays y m) → 0 ≤ stAhead y m + (d - 1) ∧ stYears y + stAhead y m + (d - 1) < stYears (y + 1) ∧ stAhead y m + (d - 1) < stAhead y (m + 1) := fun {y m d} a b => by
    have e1 := stAhead_step (y := y) a.2.2.1 a.2.2.2
    have e2 := stYears_step y
    have e3 := stAhead_end y
    have e4 : stAhead y (m + 1) ≤ stAhead y 13 := by
      rcases Int.lt_or_le m 12 with hm | hm
      · have := stAhead_mono (y := y) (a := m + 1) (b := 13) (by omega) (by omega) (by omega)
        have := stAhead_step (y := y) (m := m + 1) (by omega) (by omega)
        have := stDays_rng y (m + 1)
        omega
      · have : m + 1 = 13 := by omega
        rw [this]; exact Int.le_refl _
    have e5 : 0 ≤ stAhead y m := by
      rcases Int.lt_or_le 1 m with hm | hm
      · have := stAhead_mono (y := y) (a := 1) (b := m) (by omega) hm (by omega)
        have := stAhead_step (y := y) (m := 1) (by omega) (by omega)
        have := stDays_rng y 1
        have := stAhead_one y
        omega
      · have : m = 1 := by omega
        subst this
        rw [stAhead_one]; exact Int.le_refl _
    omega
  have k1 := key h1.1 h1.2.1
  have k2 := key h2.1 h2.2.1
  have hday : stYears y + stAhead y m + (d - 1) = stYears y' + stAhead y' m' + (d' - 1) := by omega
  have hy : y = y' := by
    rcases Int.lt_trichotomy y y' with hl | hl | hl
    · exfalso
      rcases Int.lt_or_le (y + 1) y' with hl2 | hl2
      · have := stYears_mono hl2; omega
      · have : y' = y + 1 := by omega
        subst this; omega
    · exact hl
    · exfalso
      rcases Int.lt_or_le (y' + 1) y with hl2 | hl2
      · have := stYears_mono hl2; omega
      · have : y = y' + 1 := by omega
        subst this; omega
  subst hy
  have hm : m = m' := by
    rcases Int.lt_trichotomy m m' with hl | hl | hl
    · exfalso
      have := stAhead_mono (y := y) h1.1.2.2.1 hl (by omega); omega
    · exact hl
    · exfalso
      have := stAhead_mono (y := y) h2.1.2.2.1 hl (by omega); omega
  subst hm
  refine ⟨rfl, rfl, by omega, by omega, by omega, by omega⟩
end Go.Proofs.YtpdkenjphnlbdaaA

/-
  The stamp layer: what each reading comes to is the plain function. Conditions: each function's own.
-/
set_option linter.unusedVariables false
namespace Go.Proofs.YtpdkenjphnlbdaaA
open IntWalk (i64_in u8_in u32_in u64_in i64_quo u8_quo rem_in)

theorem nDigits (s : ByteArray) (hp : decide (2 ≤ s.size) = true) : gDigits s = some (.ret [.cl (.int .i64 (stDigits s))] []) := by
  simp only [decide_eq_true_eq] at hp
  unfold gDigits stDigits stDig
  have r0 := bget_rng s 0
  have r1 := bget_rng s 1
  refine c_pos (by omega) ?_
  extract_lets x1 x2 x3 x4 x5 x6 x7 x8
  have e2 : x2 = bget s 0 := i64_in _ (by omega)
  have e3 : x3 = bget s 0 - 48 := by show IntKind.i64.wrap (x2 - 48) = _; rw [e2]; exact i64_in _ (by omega)
  refine c_pos (by omega) ?_
  have e5 : x5 = bget s 1 := i64_in _ (by omega)
  have e6 : x6 = bget s 1 - 48 := by show IntKind.i64.wrap (x5 - 48) = _; rw [e5]; exact i64_in _ (by omega)
  refine c_split (fun h => ?_) fun h1 => c_split (fun h => ?_) fun h2 => c_split (fun h => ?_) fun h3 => c_split (fun h => ?_) fun h4 => ?_
  · rw [if_pos (by omega)]
  · rw [if_pos (by omega)]
  · rw [if_pos (by omega)]
  · rw [if_pos (by omega)]
  · rw [if_neg (by omega)]
    have e7 : x7 = 10 * x3 := i64_in _ (by omega)
    have e8 : x8 = 10 * x3 + x6 := by show IntKind.i64.wrap (x7 + x6) = _; rw [e7]; exact i64_in _ (by omega)
    exact ret_int (by rw [e8, e3, e6])

theorem nDLeap (d0 d1 d2 d3 d4 d5 : Int) (hp : stOk d0 = true) : gDLeap d0 d1 d2 d3 d4 d5 = some (.ret [.cl (.bool (stLeap d0))] []) := by
  simp only [stOk, decide_eq_true_eq] at hp
  unfold gDLeap stLeap
  rw [rem_in d0 4 (by omega), rem_in d0 100 (by omega), rem_in d0 400 (by omega)]
  refine c_split (fun h => c_nsplit (fun h2 => ?_) fun h2 => ?_) fun h => ?_
  · exact ret_bool (by symm; rw [decide_eq_true_eq]; exact ⟨h, .inl h2⟩)
  · refine ret_bool (by rw [Bool.eq_iff_iff]; simp only [decide_eq_true_eq]; omega)
  · exact ret_bool (by symm; rw [decide_eq_false_iff_not]; exact fun h' => h h'.1)
theorem nRLeap (y : Int) (hp : stOk y = true) : gRLeap y = some (.ret [.cl (.bool (stLeap y))] []) := by
  simp only [stOk, decide_eq_true_eq] at hp
  unfold gRLeap stLeap
  rw [rem_in y 4 (by omega), rem_in y 100 (by omega), rem_in y 400 (by omega)]
  refine c_split (fun h => c_nsplit (fun h2 => ?_) fun h2 => ?_) fun h => ?_
  · exact ret_bool (by symm; rw [decide_eq_true_eq]; exact ⟨h, .inl h2⟩)
  · refine ret_bool (by rw [Bool.eq_iff_iff]; simp only [decide_eq_true_eq]; omega)
  · refine ret_bool (by rw [Bool.eq_iff_iff]; simp only [decide_eq_true_eq]; omega)
theorem nDDays (d0 d1 d2 d3 d4 d5 : Int) (hp : stOk d0 = true) : gDDays d0 d1 d2 d3 d4 d5 = some (.ret [.cl (.int .i64 (stDays d0 d1))] []) := by
  unfold gDDays stDays
  refine c_split (fun h => b_pos hp (b_split (fun h2 => ?_) fun h2 => ?_)) fun h => c_split (fun h2 => ?_) fun h2 => c_split (fun h3 => ?_) fun h3 => c_split (fun h4 => ?_) fun h4 => c_split (fun h5 => ?_) fun h5 => ?_
  · rw [if_pos h, if_pos h2]
  · rw [if_pos h, if_neg (by rw [h2]; simp)]
  all_goals first | rw [if_neg h, if_pos (by omega)] | rw [if_neg h, if_neg (by omega)]
theorem nDFit (d0 d1 d2 d3 d4 d5 : Int) (hp : true = true) : gDFit d0 d1 d2 d3 d4 d5 = some (.ret [.cl (.bool (stFit d0 d1 d2 d3 d4 d5))] []) := by
  unfold gDFit stFit
  have no : ∀ {p : Prop} [Decidable p], ¬ p → some (Out.ret [.cl (.bool false)] []) = some (Out.ret [.cl (.bool (decide p))] []) := fun h => ret_bool (by symm; rw [decide_eq_false_iff_not]; exact h)
  refine c_split (fun h => no (by omega)) fun h1 => c_split (fun h => no (by omega)) fun h2 => c_split (fun h => no (by omega)) fun h3 => c_split (fun h => no (by omega)) fun h4 => c_split (fun h => no (by omega)) fun h5 => b_pos (by simp only [stOk, decide_eq_true_eq]; omega) (c_split (fun h => no (by omega)) fun h6 =>
    c_split (fun g1 => c_split (fun g2 => c_split (fun g3 => c_split (fun g4 => c_split (fun g5 => ?_) fun h => no (by omega)) fun h => no (by omega)) fun h => no (by omega)) fun h => no (by omega)) fun h => no (by omega))
  refine ret_bool ?_
  rw [Bool.eq_iff_iff]
  simp only [decide_eq_true_eq]
  omega
theorem stFit_spec {y m d h i s : Int} (hp : stFit y m d h i s = true) : (1 ≤ y ∧ y ≤ 9999 ∧ 1 ≤ m ∧ m ≤ 12) ∧ (1 ≤ d ∧ d ≤ stDays y m) ∧ 0 ≤ h ∧ h < 24 ∧ 0 ≤ i ∧ i < 60 ∧ 0 ≤ s ∧ s < 60 := by
  unfold stFit at hp
  simpa only [decide_eq_true_eq] using hp
theorem nSDays (y m : Int) (hp : true = true) : gSDays y m = some (.ret [.cl (.int .i64 (stMonth y m))] []) := by
  unfold gSDays stMonth
  have r := stDays_rng y m
  have hf : stFit y m 1 0 0 0 = decide (1 ≤ y ∧ y ≤ 9999 ∧ 1 ≤ m ∧ m ≤ 12) := by
    unfold stFit
    rw [Bool.eq_iff_iff]
    simp only [decide_eq_true_eq]
    omega
  show cond (!stFit y m 1 0 0 0) _ _ = _
  rw [hf]
  refine c_nsplit (fun h => ?_) fun h => ?_
  · rw [if_neg h]
  · rw [if_pos h]
    exact b_pos (by simp only [stOk, decide_eq_true_eq]; omega) rfl
theorem nRDays (y m : Int) (hp : true = true) : gRDays y m = some (.ret [.cl (.int .i64 (stMonth y m))] []) := by
  unfold gRDays stMonth
  refine c_split (fun h => ?_) fun h1 => c_split (fun h => ?_) fun h2 => c_split (fun h => ?_) fun h3 => c_split (fun h => ?_) fun h4 => ?_
  · rw [if_neg (by omega)]
  · rw [if_neg (by omega)]
  · rw [if_neg (by omega)]
  · rw [if_neg (by omega)]
  rw [if_pos (by omega)]
  unfold stDays
  refine c_split (fun h => b_pos (by simp only [stOk, decide_eq_true_eq]; omega) (b_split (fun h2 => ?_) fun h2 => ?_)) fun h => c_split (fun h2 => ?_) fun h2 => c_split (fun h3 => ?_) fun h3 => c_split (fun h4 => ?_) fun h4 => c_split (fun h5 => ?_) fun h5 => ?_
  · rw [if_pos h, if_pos h2]
  · rw [if_pos h, if_neg (by rw [h2]; simp)]
  all_goals first | rw [if_neg h, if_pos (by omega)] | rw [if_neg h, if_neg (by omega)]
theorem two_digit {n : Int} (h : -9223372036854775808 ≤ n ∧ n ≤ 9223372036854775807) : IntKind.i64.wrap (Int.tdiv n 10) = Int.tdiv n 10 ∧ (-9 ≤ Int.tmod (Int.tdiv n 10) 10 ∧ Int.tmod (Int.tdiv n 10) 10 ≤ 9) ∧ -9 ≤ Int.tmod n 10 ∧ Int.tmod n 10 ≤ 9 := by
  have key : ∀ m : Int, -9 ≤ Int.tmod m 10 ∧ Int.tmod m 10 ≤ 9 := fun m => by
    have h1 := Int.tmod_lt_of_pos m (show (0 : Int) < 10 by omega)
    have h2 := Int.lt_tmod_of_pos m (show (0 : Int) < 10 by omega)
    omega
  exact ⟨IntWalk.i64_quo' _ _ (by omega), key _, key _⟩
end Go.Proofs.YtpdkenjphnlbdaaA

/-
  The stamp layer: what each reading comes to is the plain function; times. Conditions: each function's own.
-/
set_option linter.unusedVariables false
namespace Go.Proofs.YtpdkenjphnlbdaaA
open IntWalk (i64_in u8_in u32_in u64_in i64_quo u8_quo rem_in)

theorem nRYears (y : Int) (hp : stOk y = true) : gRYears y = some (.ret [.cl (.int .i64 (stYears y))] []) := by
  simp only [stOk, decide_eq_true_eq] at hp
  unfold gRYears stYears
  extract_lets x1 x2 x3 x4 x5 x6 x7 x8
  have e1 : x1 = y - 1 := i64_in _ (by omega)
  have e2 : x2 = x1 * 365 := i64_in _ (by omega)
  have e3 : x3 = x1 / 4 := i64_quo _ _ (by omega)
  have e4 : x4 = x2 + x3 := i64_in _ (by omega)
  have e5 : x5 = x1 / 100 := i64_quo _ _ (by omega)
  have e6 : x6 = x4 - x5 := i64_in _ (by omega)
  have e7 : x7 = x1 / 400 := i64_quo _ _ (by omega)
  have e8 : x8 = x6 + x7 := i64_in _ (by omega)
  exact ret_int (by rw [e8, e6, e4, e2, e3, e5, e7, e1])
theorem nRTwo (n : Int) (hp : true = true) : gRTwo n = some (.ret [.cl (.str (strOf (stTwo n)))] []) := rfl
theorem nPut_0 (n : Int) (hp : true = true) : gPut_0 n = some (.ret [.ref 0 0 (stTwo n).length true 1] [some ⟨.ints .u8 (stTwo n), false⟩]) := rfl
theorem nPut_1 (len : Nat) (n : Int) (l : List Int) (hp : decide (l.length < 1000) = true) : gPut_1 len n l = some (.ret [.ref 1 0 (l ++ stTwo n).length true 1] [none, some ⟨.ints .u8 (l ++ stTwo n), false⟩]) := by
  simp only [decide_eq_true_eq] at hp
  have hl : ((l ++ stTwo n).length : Int) ≤ 1002 := by rw [List.length_append]; show ((l.length + 2 : Nat) : Int) ≤ 1002; omega
  unfold gPut_1
  refine c_pos (show (((l ++ stTwo n).length : Nat) : Int) * 1 ≤ LIM by unfold LIM; omega) (c_pos (show (((l ++ stTwo n).length : Nat) : Int) ≤ LIM by unfold LIM; omega) rfl)

theorem secs_mid {yy m era yoe doy d2 : Int} (h : -62135596800 ≤ 0) : True := trivial

theorem nDSecs (d0 d1 d2 d3 d4 d5 : Int) (hp : stFit d0 d1 d2 d3 d4 d5 = true) : gDSecs d0 d1 d2 d3 d4 d5 = some (.ret [.cl (.int .i64 (stSecs d0 d1 d2 d3 d4 d5))] []) := by
  obtain ⟨⟨a1, a2, a3, a4⟩, ⟨a5, a6⟩, a7, a8, a9, a10, a11, a12⟩ := stFit_spec hp
  have a6' : d2 ≤ 31 := by have := stDays_rng d0 d1; omega
  clear a6 hp
  have hs := stYears_step d0
  unfold gDSecs
  have hy0 : stYears d0 = (d0 - 1) * 365 + (d0 - 1) / 4 - (d0 - 1) / 100 + (d0 - 1) / 400 := rfl
  have hy1 : stYears (d0 + 1) = d0 * 365 + d0 / 4 - d0 / 100 + d0 / 400 := by unfold stYears; rw [show d0 + 1 - 1 = d0 by omega]
  rw [hy1] at hs
  extract_lets x1 x2 x3 x4 x5 x6 x7 x8 x9 x10 x11 x12 x13 x14 x15 x16 x17 x18 x19 x20 x21 x22 x23 x24 x25 x26 x27 x28 x29 x30 x31 x32 x33 x34 x35 x36 x37 x38 x39 x40 x41 x42 x43
  have e1 : x1 = d1 - 3 := i64_in _ (by omega)
  refine c_split (fun h => ret_int ?_) fun h => ret_int ?_
  · have e2 : x2 = d0 - 1 := i64_in _ (by omega)
    have e3 : x3 = d1 + 9 := (i64_in (x1 + 12) (by omega)).trans (by omega)
    have e4 : x4 = x2 / 400 := i64_quo _ _ (by omega)
    have e5 : x5 = x2 % 400 := rem_in _ _ (by omega)
    clear_value x1 x2 x3 x4 x5
    have r4 : 0 ≤ x4 ∧ x4 ≤ 24 ∧ x2 = 400 * x4 + x5 ∧ 0 ≤ x5 ∧ x5 ≤ 399 := by clear hs hy0 hy1; omega
    have c4 : (d0 - 1) / 4 = 100 * x4 + x5 / 4 ∧ (d0 - 1) / 100 = 4 * x4 + x5 / 100 ∧ (d0 - 1) / 400 = x4 := by clear hs hy0 hy1; omega
    have e6 : x6 = 153 * x3 := i64_in _ (by omega)
    have e7 : x7 = 153 * x3 + 2 := (i64_in (x6 + 2) (by omega)).trans (by omega)
    have e8 : x8 = (153 * x3 + 2) / 5 := (i64_quo x7 5 (by omega)).trans (by rw [e7])
    clear_value x6 x7 x8
    have r8 : 306 ≤ x8 ∧ x8 ≤ 337 ∧ x8 = 306 + 31 * (d1 - 1) := by clear hs hy0 hy1 r4 c4 e4 e5; omega
    clear e4 e5 e6 e7 e8 hs hy1
    have e9 : x9 = x8 + d2 := i64_in _ (by omega)
    have e10 : x10 = x8 + d2 - 1 := (i64_in (x9 - 1) (by omega)).trans (by omega)
    have e11 : x11 = x4 * 146097 := i64_in _ (by omega)
    have e12 : x12 = x5 * 365 := i64_in _ (by omega)
    have e13 : x13 = x11 + x12 := i64_in _ (by omega)
    have e14 : x14 = x5 / 4 := i64_quo _ _ (by omega)
    have e15 : x15 = x13 + x14 := i64_in _ (by omega)
    have e16 : x16 = x5 / 100 := i64_quo _ _ (by omega)
    have e17 : x17 = x15 - x16 := i64_in _ (by omega)
    have e18 : x18 = x17 + x10 := i64_in _ (by omega)
    have e19 : x19 = x18 - 719468 := i64_in _ (by omega)
    have e20 : x20 = x19 * 86400 := i64_in _ (by omega)
    have e21 : x21 = d3 * 3600 := i64_in _ (by omega)
    have e22 : x22 = d4 * 60 := i64_in _ (by omega)
    have e23 : x23 = x21 + x22 := i64_in _ (by omega)
    have e24 : x24 = x23 + d5 := i64_in _ (by omega)
    have e25 : x25 = x20 + x24 := i64_in _ (by omega)
    have hm : stAhead d0 d1 = 31 * (d1 - 1) := by unfold stAhead; rw [if_pos (by omega)]
    have hday : stYears d0 + stAhead d0 d1 + (d2 - 1) = x19 + 719162 := by
      rw [hy0, hm, c4.1, c4.2.1, c4.2.2, e19, e18, e17, e15, e13, e11, e12, e14, e16, e10]
      omega
    unfold stSecs
    rw [hday, e25, e20, e24, e23, e21, e22]
    omega
  · have e26 : x26 = d0 / 400 := i64_quo _ _ (by omega)
    have e27 : x27 = d0 % 400 := rem_in _ _ (by omega)
    clear_value x1 x26 x27
    have r4 : 0 ≤ x26 ∧ x26 ≤ 24 ∧ d0 = 400 * x26 + x27 ∧ 0 ≤ x27 ∧ x27 ≤ 399 := by clear hs hy0 hy1; omega
    have c4 : d0 / 4 = 100 * x26 + x27 / 4 ∧ d0 / 100 = 4 * x26 + x27 / 100 ∧ d0 / 400 = x26 := by clear hs hy0 hy1; omega
    have e28 : x28 = 153 * x1 := i64_in _ (by omega)
    have e29 : x29 = 153 * x1 + 2 := (i64_in (x28 + 2) (by omega)).trans (by omega)
    have e30 : x30 = (153 * x1 + 2) / 5 := (i64_quo x29 5 (by omega)).trans (by rw [e29])
    clear_value x28 x29 x30
    have r8 : 0 ≤ x30 ∧ x30 ≤ 337 := by clear hs hy0 hy1 r4 c4; omega
    have hm : stAhead d0 d1 = x30 + 59 + (if stLeap d0 = true then 1 else 0) := by unfold stAhead; rw [if_neg (by omega), ← e1, e30]
    clear e26 e27 e28 e29 e30 hy0 hy1
    have e31 : x31 = x30 + d2 := i64_in _ (by omega)
    have e32 : x32 = x30 + d2 - 1 := (i64_in (x31 - 1) (by omega)).trans (by omega)
    have e33 : x33 = x26 * 146097 := i64_in _ (by omega)
    have e34 : x34 = x27 * 365 := i64_in _ (by omega)
    have e35 : x35 = x33 + x34 := i64_in _ (by omega)
    have e36 : x36 = x27 / 4 := i64_quo _ _ (by omega)
    have e37 : x37 = x35 + x36 := i64_in _ (by omega)
    have e38 : x38 = x27 / 100 := i64_quo _ _ (by omega)
    have e39 : x39 = x37 - x38 := i64_in _ (by omega)
    have e40 : x40 = x39 + x32 := i64_in _ (by omega)
    have e41 : x41 = x40 - 719468 := i64_in _ (by omega)
    have e42 : x42 = x41 * 86400 := i64_in _ (by omega)
    have e21 : x21 = d3 * 3600 := i64_in _ (by omega)
    have e22 : x22 = d4 * 60 := i64_in _ (by omega)
    have e23 : x23 = x21 + x22 := i64_in _ (by omega)
    have e24 : x24 = x23 + d5 := i64_in _ (by omega)
    have e43 : x43 = x42 + x24 := i64_in _ (by omega)
    have hday : stYears d0 + stAhead d0 d1 + (d2 - 1) = x41 + 719162 := by
      rw [hm]
      generalize (if stLeap d0 = true then 1 else 0 : Int) = lp at *
      rw [c4.1, c4.2.1, c4.2.2] at hs
      rw [e41, e40, e39, e37, e35, e33, e34, e36, e38, e32]
      omega
    unfold stSecs
    rw [hday, e43, e42, e24, e23, e21, e22]
    omega
end Go.Proofs.YtpdkenjphnlbdaaA

/-
  The stamp layer: what each reading comes to is the plain function; dates, texts. Conditions: each function's own.
-/
set_option linter.unusedVariables false
namespace Go.Proofs.YtpdkenjphnlbdaaA
open IntWalk (i64_in u8_in u32_in u64_in i64_quo u8_quo rem_in)

theorem nDated (t : Int) (hp : stIn t = true) : gDated t = some (.ret [.cl (.aggi 6 .i64 [(stDated t).d0, (stDated t).d1, (stDated t).d2, (stDated t).d3, (stDated t).d4, (stDated t).d5])] []) := by
  simp only [stIn, decide_eq_true_eq] at hp
  unfold gDated
  extract_lets x1 x2 x4 x5 x6 x7 x8 x9 x10 x11 x12 x13 x14 x15 x16 x17 x18 x19 x20 x21 x22 x23 x24 x25 x26 x27 x28 x29 x30 x31 x32 x33 x34 x35 x36 x37
  have e1 : x1 = t + 62135596800 := (i64_in (t - (-62135596800)) (by omega)).trans (by omega)
  have e2 : x2 = (t + 62135596800) / 86400 := (i64_quo x1 86400 (by omega)).trans (by rw [e1])
  have e4 : x4 = (t + 62135596800) % 86400 := (rem_in x1 86400 (by omega)).trans (by rw [e1])
  clear_value x1 x2 x4
  have r2 : 0 ≤ x2 ∧ x2 ≤ 3652058 ∧ 0 ≤ x4 ∧ x4 < 86400 := by omega
  have e5 : x5 = (t + 62135596800) / 86400 + 306 := (i64_in (x2 + 306) (by omega)).trans (by rw [e2])
  have e6 : x6 = ((t + 62135596800) / 86400 + 306) / 146097 := (i64_quo x5 146097 (by omega)).trans (by rw [e5])
  have e7 : x7 = ((t + 62135596800) / 86400 + 306) % 146097 := (rem_in x5 146097 (by omega)).trans (by rw [e5])
  clear_value x5 x6 x7
  have r7 : 0 ≤ x7 ∧ x7 ≤ 146096 ∧ 0 ≤ x6 ∧ x6 ≤ 24 := by clear hp e1 e4 e5; rw [← e2] at e6 e7; omega
  have hD : stDated t = (let yoe := (x7 - x7 / 1460 + x7 / 36524 - x7 / 146096) / 365
      let doy := x7 - (365 * yoe + yoe / 4 - yoe / 100)
      let mp := (5 * doy + 2) / 153
      let y := yoe + x6 * 400
      let d := doy - (153 * mp + 2) / 5 + 1
      if 9 < mp then ⟨y + 1, mp - 9, d, x4 / 3600, x4 / 60 % 60, x4 % 60⟩ else ⟨y, mp + 3, d, x4 / 3600, x4 / 60 % 60, x4 % 60⟩) := by
    rw [e4, e6, e7]; rfl
  rw [hD]
  clear hD e1 e2 e4 e5 e6 e7 hp
  have r4 := r2.2.2
  have r6 := r7.2.2
  obtain ⟨Q, P, Y, w, q1, q2, q3, q4, q5, q6, q7, q8, q9, q10, q11⟩ := st_era x7 r7.1 r7.2.1
  have e8 : x8 = x7 / 1460 := i64_quo _ _ (by clear q11; omega)
  have e10 : x10 = x7 / 36524 := i64_quo _ _ (by clear q11; omega)
  have e12 : x12 = x7 / 146096 := i64_quo _ _ (by clear q11; omega)
  have b8 : 0 ≤ x8 ∧ x8 ≤ 101 := by clear q11; omega
  have b10 : 0 ≤ x10 ∧ x10 ≤ 4 := by clear q11; omega
  have b12 : 0 ≤ x12 ∧ x12 ≤ 1 := by clear q11; omega
  have b13 : x8 ≤ x7 := by clear q11; omega
  have b14 : x12 ≤ x10 := by clear q11; omega
  rw [← e8, ← e10, ← e12] at q11
  rw [← e8, ← e10, ← e12]
  clear_value x8 x10 x12
  clear e8 e10 e12
  have e9 : x9 = x7 - x8 := i64_in _ (by clear q11; omega)
  have e11 : x11 = x7 - x8 + x10 := (i64_in (x9 + x10) (by clear q11; omega)).trans (by rw [e9])
  have e13 : x13 = x7 - x8 + x10 - x12 := (i64_in (x11 - x12) (by clear q11; omega)).trans (by rw [e11])
  clear_value x9 x11 x13
  have e14 : x14 = 100 * Q + 4 * P + Y := (i64_quo x13 365 (by clear q11; omega)).trans (by rw [e13, q11])
  clear_value x14
  obtain ⟨c1, c2, c3⟩ := st_cycle (era := 0) (y := 100 * Q + 4 * P + Y) q1 q2 q3 q4 q5 q6 (by simp)
  have e15 : x15 = 365 * x14 := i64_in _ (by clear q11 c1 c2 c3; omega)
  have e16 : x16 = 25 * Q + P := (i64_quo x14 4 (by clear q11 c1 c2 c3; omega)).trans (by rw [e14, c1]; omega)
  have e17 : x17 = x15 + x16 := i64_in _ (by clear q11 c1 c2 c3; omega)
  have e18 : x18 = Q := (i64_quo x14 100 (by clear q11 c1 c2 c3; omega)).trans (by rw [e14, c2]; omega)
  have e19 : x19 = x17 - x18 := i64_in _ (by clear q11 c1 c2 c3; omega)
  have e20 : x20 = w := (i64_in (x7 - x19) (by clear q11 c1 c2 c3; omega)).trans (by clear q11 c1 c2 c3; omega)
  have hdoy : x7 - (365 * x14 + x14 / 4 - x14 / 100) = w := by rw [e14, c1, c2]; clear q11 c1 c2 c3; omega
  show _ = (some (Out.ret [.cl (.aggi 6 .i64 _)] []))
  rw [q11, ← e14]
  dsimp only
  rw [hdoy]
  clear_value x15 x16 x17 x18 x19 x20
  clear q11 c1 c2 c3 e15 e16 e17 e18 e19 hdoy e9 e11 e13 b8 b10 b12 b13 b14 q10
  have b14 : 0 ≤ x14 ∧ x14 ≤ 399 := by omega
  clear q1 q2 q3 q4 q5 q6 q9 e14
  have e21 : x21 = 5 * w := (i64_in (5 * x20) (by omega)).trans (by rw [e20])
  have e22 : x22 = 5 * w + 2 := (i64_in (x21 + 2) (by omega)).trans (by rw [e21])
  have e23 : x23 = (5 * w + 2) / 153 := (i64_quo x22 153 (by omega)).trans (by rw [e22])
  rw [← e23]
  have b23 : 0 ≤ x23 ∧ x23 ≤ 11 := by omega
  clear_value x21 x22 x23
  have e24 : x24 = x6 * 400 := i64_in _ (by omega)
  have e25 : x25 = x14 + x6 * 400 := (i64_in (x14 + x24) (by omega)).trans (by rw [e24])
  have e26 : x26 = x23 + 3 := i64_in _ (by omega)
  have e27 : x27 = 153 * x23 := i64_in _ (by omega)
  have e28 : x28 = 153 * x23 + 2 := (i64_in (x27 + 2) (by omega)).trans (by rw [e27])
  have e29 : x29 = (153 * x23 + 2) / 5 := (i64_quo x28 5 (by omega)).trans (by rw [e28])
  have e30 : x30 = w - (153 * x23 + 2) / 5 := (i64_in (x20 - x29) (by omega)).trans (by rw [e20, e29])
  have e31 : x31 = w - (153 * x23 + 2) / 5 + 1 := (i64_in (x30 + 1) (by omega)).trans (by rw [e30])
  have e32 : x32 = x4 / 3600 := i64_quo _ _ (by omega)
  have e33 : x33 = x4 / 60 := i64_quo _ _ (by omega)
  have e34 : x34 = x4 / 60 % 60 := (rem_in x33 60 (by omega)).trans (by rw [e33])
  have e35 : x35 = x4 % 60 := rem_in _ _ (by omega)
  refine c_split (fun h => ?_) fun h => ?_
  · rw [if_pos (by omega)]
    have e36 : x36 = x25 + 1 := i64_in _ (by omega)
    have e37 : x37 = x23 - 9 := (i64_in (x26 - 12) (by omega)).trans (by omega)
    rw [e36, e37, e25, e31, e32, e34, e35]
  · rw [if_neg (by omega), e25, e26, e31, e32, e34, e35]

theorem two_length (n : Int) : (stTwo n).length = 2 := rfl
theorem nSText (t : Int) (hp : stI64 t = true) : gSText t = some (.ret [.cl (.str (stText t))] []) := by
  simp only [stI64, decide_eq_true_eq] at hp
  unfold gSText stText
  refine c_split (fun h => ?_) fun h => c_split (fun h2 => ?_) fun h2 => ?_
  · rw [if_neg (by unfold stIn; simp only [decide_eq_true_eq]; omega)]; rfl
  · rw [if_neg (by unfold stIn; simp only [decide_eq_true_eq]; omega)]; rfl
  have hi : stIn t = true := by unfold stIn; simp only [decide_eq_true_eq]; omega
  rw [if_pos hi]
  refine b_pos hi ?_
  have hf := stFit_spec (stDated_ok hi).1
  have e7 : IntKind.i64.wrap ((stDated t).d0.tdiv 100) = (stDated t).d0 / 100 := i64_quo _ _ (by omega)
  extract_lets r1 r2 r3 r4 r5 r6 x7 r9 r11 r13 r15 r17 r19 r21 l22 s23
  have e7 : x7 = (stDated t).d0 / 100 := e7
  have e9 : r9 = stTwo ((stDated t).d0 / 100) := by show stTwo x7 = _; rw [e7]
  have hl : ∀ (l : List Int) (n : Int), (l ++ stTwo n).length = l.length + 2 := fun l n => by rw [List.length_append, two_length]
  have h9 : r9.length = 2 := rfl
  have h11 : r11.length = 4 := by show (r9 ++ stTwo _).length = 4; rw [hl, h9]
  have h13 : r13.length = 6 := by show (r11 ++ stTwo _).length = 6; rw [hl, h11]
  have h15 : r15.length = 8 := by show (r13 ++ stTwo _).length = 8; rw [hl, h13]
  have h17 : r17.length = 10 := by show (r15 ++ stTwo _).length = 10; rw [hl, h15]
  have h19 : r19.length = 12 := by show (r17 ++ stTwo _).length = 12; rw [hl, h17]
  have h21 : r21.length = 14 := by show (r19 ++ stTwo _).length = 14; rw [hl, h19]
  have h22 : l22.length = 15 := by show (r21 ++ [90]).length = 15; rw [List.length_append, h21]; rfl
  refine c_pos (by omega) (c_pos (by omega) (c_pos (by omega) (c_pos (by omega) (c_pos (by omega) (c_pos (by omega) (c_pos ?_ (c_pos ?_ (ret_str ?_))))))))
  · rw [h22]; unfold LIM; omega
  · rw [h22]; unfold LIM; omega
  · show strOf (r9 ++ stTwo _ ++ stTwo _ ++ stTwo _ ++ stTwo _ ++ stTwo _ ++ stTwo _ ++ [90]) = _
    rw [e9]
    rfl

theorem nSRead (s : ByteArray) (hp : true = true) : gSRead s = some (.ret [.cl (.int .i64 (stRead s).1), .cl (.int .i64 (stRead s).2)] []) := by
  unfold gSRead stRead
  have dig : ∀ k : Nat, (k : Int) + 2 ≤ s.size → stDigits (s.extract k s.size) = stDig (bget s k) (bget s (k + 1)) := fun k hk => by
    unfold stDigits
    rw [bget_extract s (by omega) (by omega) (Nat.le_refl _), bget_extract s (by omega) (by omega) (Nat.le_refl _), Int.add_zero]
  have sz : ∀ k : Nat, (s.extract k s.size).size = s.size - k := fun k => by rw [ByteArray.size_extract, Nat.min_self]
  refine c_nsplit (fun h => ?_) fun h => c_pos (by omega) ?_
  · rw [if_neg (by omega)]
  have hs : s.size = 15 := by omega
  have d2 := dig 2 (by omega)
  have d4 := dig 4 (by omega)
  have d6 := dig 6 (by omega)
  have d8 := dig 8 (by omega)
  have d10 := dig 10 (by omega)
  have d12 := dig 12 (by omega)
  extract_lets x1 s2 r3 s4 r5 s6 r7 s8 r9 s10 r11 s12 r13 r14 x15 x16 r17 r18 y m d hh i c
  refine c_nsplit (fun h => ?_) fun h1 => ?_
  · rw [if_neg fun e => h e.2]
  rw [if_pos ⟨hs, h1⟩]
  have z2 := sz 2
  have z4 := sz 4
  have z6 := sz 6
  have z8 := sz 8
  have z10 := sz 10
  have z12 := sz 12
  have rng : ∀ a b, 0 ≤ a ∧ a ≤ 255 → 0 ≤ b ∧ b ≤ 255 → -100000 ≤ stDig a b ∧ stDig a b ≤ 99 := fun a b h1 h2 => by
    unfold stDig
    split <;> omega
  have g2 := rng _ _ (bget_rng s 2) (bget_rng s 3)
  have g0 := rng _ _ (bget_rng s 0) (bget_rng s 1)
  have e14 : r14 = stDig (bget s 0) (bget s 1) := rfl
  have e3 : r3 = stDig (bget s 2) (bget s 3) := d2
  have e15 : x15 = 100 * stDig (bget s 0) (bget s 1) := i64_in _ (by rw [e14]; omega)
  have e16 : x16 = y := (i64_in (r3 + x15) (by omega)).trans (by rw [e3, e15])
  have e5 : r5 = m := d4
  have e7 : r7 = d := d6
  have e9 : r9 = hh := d8
  have e11 : r11 = i := d10
  have e13 : r13 = c := d12
  have hr : r17 = stFit y m d hh i c := by show stFit x16 r5 r7 r9 r11 r13 = _; rw [e16, e5, e7, e9, e11, e13]
  have h18 : r18 = stSecs y m d hh i c := by show stSecs x16 r5 r7 r9 r11 r13 = _; rw [e16, e5, e7, e9, e11, e13]
  refine c_pos (by omega) (c_pos (by show 2 ≤ (s.extract 2 s.size).size; omega) (c_pos (by omega) (c_pos (by show 2 ≤ (s.extract 4 s.size).size; omega) (c_pos (by omega) (c_pos (by show 2 ≤ (s.extract 6 s.size).size; omega) (c_pos (by omega) (c_pos (by show 2 ≤ (s.extract 8 s.size).size; omega) (c_pos (by omega) (c_pos (by show 2 ≤ (s.extract 10 s.size).size; omega)
    (c_pos (by omega) (c_pos (by show 2 ≤ (s.extract 12 s.size).size; omega) (c_pos (by omega) ?_))))))))))))
  rw [hr]
  cases hf : stFit y m d hh i c with
  | false => rfl
  | true =>
    rw [if_pos rfl]
    show cond (stFit x16 r5 r7 r9 r11 r13) (some (Out.ret [.cl (.int .i64 r18), .cl (.int .i64 0)] [])) none = _
    rw [show stFit x16 r5 r7 r9 r11 r13 = true from hr.trans hf, h18]
    rfl
end Go.Proofs.YtpdkenjphnlbdaaA

/-
  The stamp layer: what the reference's readings come to is the plain function. Conditions: each function's own.
-/
set_option linter.unusedVariables false
namespace Go.Proofs.YtpdkenjphnlbdaaA
open IntWalk (i64_in u8_in u32_in u64_in i64_quo u8_quo rem_in)

theorem lp_number (s : ByteArray) (hs : s.size ≤ 18) : ∀ (fuel i : Nat) (acc : Int), i ≤ s.size → s.size < fuel + i → 0 ≤ acc → acc < ((10 ^ i : Nat) : Int) →
    lpRNumber_3 (fun _ _ _ _ _ _ _ _ _ _ => some (.ret [.cl (.int .i64 (-1))] [])) (fun _ _ _ _ _ _ _ _ _ _ _ _ _ _ => some (.ret [.cl (.int .i64 (-1))] [])) (fun _ y2 _ _ _ _ => some (.ret [.cl (.int .i64 y2)] [])) fuel s acc i = some (.ret [.cl (.int .i64 (stNum ((bytesOf s).drop i) acc))] [])
  | 0, i, acc, hi, hf, h0, h1 => by omega
  | fuel + 1, i, acc, hi, hf, h0, h1 => by
    simp only [lpRNumber_3]
    unfold lpRNumber_3s
    have rb := bget_rng s i
    extract_lets x1 x3 x5 x6 x7 x8
    refine c_split (fun h => ?_) fun h => ?_
    · have hlt : i < s.size := by omega
      rw [bytesOf_drop s hlt]
      refine c_pos (by omega) (c_pos h ?_)
      unfold stNum
      refine c_split (fun h2 => ?_) fun h2 => c_pos (by omega) (c_pos h (c_split (fun h3 => ?_) fun h3 => c_pos (by omega) (c_pos h ?_)))
      · rw [if_pos (.inl h2)]
      · rw [if_pos (.inr h3)]
      · have h2 : ¬ bget s i < 48 := h2
        have h3 : ¬ 57 < bget s i := h3
        have e1 : x1 = bget s i := rfl
        clear_value x1
        rw [if_neg (by omega)]
        have hp : 10 ^ (i + 1) = 10 * 10 ^ i := by rw [Nat.pow_succ]; omega
        have hp2 : 10 ^ i ≤ 10 ^ 17 := Nat.pow_le_pow_right (by omega) (by omega)
        have e3 : x3 = acc * 10 := i64_in _ (by omega)
        have e5 : x5 = x1 - 48 := u8_in _ (by omega)
        have e6 : x6 = x1 - 48 := (i64_in x5 (by omega)).trans e5
        have e7 : x7 = acc * 10 + (x1 - 48) := (i64_in (x3 + x6) (by omega)).trans (by rw [e3, e6])
        have e8 : x8 = ((i + 1 : Nat) : Int) := (i64_in ((i : Int) + 1) (by omega)).trans (by omega)
        rw [e7, e8, e1]
        exact lp_number s hs fuel (i + 1) _ (by omega) (by omega) (by omega) (by omega)
    · have : i = s.size := by omega
      subst this
      rw [List.drop_eq_nil_of_le (by rw [bytesOf_length]; exact Nat.le_refl _)]
      rfl
theorem nRNumber (s : ByteArray) (hp : decide (s.size ≤ 18) = true) : gRNumber s = some (.ret [.cl (.int .i64 (stNumber s))] []) := by
  simp only [decide_eq_true_eq] at hp
  unfold gRNumber stNumber
  rw [shut_eq]
  exact lp_number s hp FUEL 0 0 (by omega) (by unfold FUEL; omega) (by omega) (by omega)

theorem lp_years {n s Y : Int} (k0 : Int → Int → Int → Int → Int → Option Out) (hn : 0 ≤ n ∧ n ≤ 3652058) (hY : 1 ≤ Y ∧ Y ≤ 9999) (h1 : stYears Y ≤ n) (h2 : n < stYears (Y + 1)) : ∀ (j fuel : Nat) (y : Int), j < fuel → j ≤ 13 → 1 ≤ y → y ≤ Y → Y < y + 2 * (2 ^ j : Nat) →
    lpRText_7 k0 (fuel + 1) n s y ((2 ^ j : Nat) : Int) = k0 n s Y 0 0 := by
  have le_iff : ∀ z : Int, 1 ≤ z → (stYears z ≤ n ↔ z ≤ Y) := fun z hz => by
    constructor
    · intro h
      rcases Int.lt_or_le Y z with hl | hl
      · rcases Int.lt_or_le (Y + 1) z with hl2 | hl2
        · have := stYears_mono hl2; omega
        · have : z = Y + 1 := by omega
          subst this; omega
      · exact hl
    · intro h
      rcases Int.lt_or_le z Y with hl | hl
      · have := stYears_mono hl; omega
      · have : z = Y := by omega
        subst this; exact h1
  intro j
  induction j with
  | zero =>
    intro fuel y hf hj hy1 hy2 hy3
    obtain ⟨f, rfl⟩ : ∃ f, fuel = f + 1 := ⟨fuel - 1, by omega⟩
    simp only [Nat.pow_zero] at hy3 ⊢
    simp only [lpRText_7]
    have last : ∀ y', y' = Y → lpRText_7s (lpRText_7 k0 f) k0 n s y' 0 = k0 n s Y 0 0 := fun y' e => by subst e; rfl
    unfold lpRText_7s
    refine c_pos (by decide) ?_
    extract_lets x5 r7 x9
    have e5 : x5 = y + 1 := i64_in _ (by omega)
    have e9 : x9 = 0 := rfl
    have e7 : r7 = stYears (y + 1) := by show stYears x5 = _; rw [e5]
    rw [e9, e7, e5]
    refine c_split (fun h => b_pos (by simp only [stOk, decide_eq_true_eq]; omega) (c_split (fun h' => last _ ?_) fun h' => last _ ?_)) fun h => last _ (by omega)
    · have := (le_iff (y + 1) (by omega)).1 h'; omega
    · have : ¬ y + 1 ≤ Y := fun e => h' ((le_iff _ (by omega)).2 e)
      omega
  | succ j ih =>
    intro fuel y hf hj hy1 hy2 hy3
    obtain ⟨f, rfl⟩ : ∃ f, fuel = f + 1 := ⟨fuel - 1, by omega⟩
    have hp : 2 ^ (j + 1) = 2 * 2 ^ j := by rw [Nat.pow_succ]; omega
    have hp0 : 0 < 2 ^ j := Nat.pow_pos (by omega)
    have hp2 : 2 ^ j ≤ 2 ^ 12 := Nat.pow_le_pow_right (by omega) (by omega)
    rw [show lpRText_7 k0 (f + 1 + 1) = lpRText_7s (lpRText_7 k0 (f + 1)) k0 from rfl]
    unfold lpRText_7s
    refine c_pos (by omega) ?_
    extract_lets x5 r7 x9
    have e5 : x5 = y + ((2 ^ (j + 1) : Nat) : Int) := i64_in _ (by omega)
    have e9 : x9 = ((2 ^ j : Nat) : Int) := (i64_quo _ _ (by omega)).trans (by omega)
    have e7 : r7 = stYears x5 := rfl
    rw [e9, e7]
    clear_value x5 x9 r7
    refine c_split (fun h => b_pos (by simp only [stOk, decide_eq_true_eq]; omega) (c_split (fun h' => ?_) fun h' => ?_)) fun h => ih f y (by omega) (by omega) hy1 hy2 (by omega)
    · exact ih f x5 (by omega) (by omega) (by omega) ((le_iff x5 (by omega)).1 h') (by omega)
    · refine ih f y (by omega) (by omega) hy1 hy2 ?_
      have : ¬ x5 ≤ Y := fun e => h' ((le_iff _ (by omega)).2 e)
      omega

theorem stMonth_eq {y m : Int} (h : 1 ≤ y ∧ y ≤ 9999) (hm : 1 ≤ m ∧ m ≤ 12) : stMonth y m = stAhead y (m + 1) - stAhead y m := by
  unfold stMonth
  rw [if_pos (by omega), stAhead_step hm.1 hm.2]
  omega

theorem lp_months {s Y M d : Int} (F : Int → Int → Int → Int → Option Out) (hY : 1 ≤ Y ∧ Y ≤ 9999) (hM : 1 ≤ M ∧ M ≤ 12) (hd : 0 ≤ d) (hd2 : d < stDays Y M) : ∀ (fuel : Nat) (m n : Int), 1 ≤ m → m ≤ M → M - m < fuel → n = stAhead Y M + d - stAhead Y m →
    lpRText_13 (fun y12 y13 y14 y15 _ _ _ _ _ _ _ => F y12 y13 y14 y15) (fun y44 y45 y46 y47 _ _ => F y44 y45 y46 y47) fuel n s Y m = F d s Y M
  | 0, m, n, h1, h2, h3, h4 => by omega
  | fuel + 1, m, n, h1, h2, h3, h4 => by
    have hr := stDays_rng Y M
    rw [show lpRText_13 (fun y12 y13 y14 y15 _ _ _ _ _ _ _ => F y12 y13 y14 y15) (fun y44 y45 y46 y47 _ _ => F y44 y45 y46 y47) (fuel + 1) = lpRText_13s (lpRText_13 (fun y12 y13 y14 y15 _ _ _ _ _ _ _ => F y12 y13 y14 y15) (fun y44 y45 y46 y47 _ _ => F y44 y45 y46 y47) fuel) (fun y12 y13 y14 y15 _ _ _ _ _ _ _ => F y12 y13 y14 y15) (fun y44 y45 y46 y47 _ _ => F y44 y45 y46 y47) from rfl]
    unfold lpRText_13s
    have hmo := stMonth_eq hY (m := m) (by omega)
    have hst := stAhead_step (y := Y) (m := m) (by omega) (by omega)
    have hr2 := stDays_rng Y m
    have hAh : stAhead Y M ≤ 335 := by unfold stAhead; split <;> (try split) <;> omega
    have hAm : 0 ≤ stAhead Y m := by unfold stAhead; split <;> (try split) <;> omega
    extract_lets r12 x14 x15
    have er : r12 = stAhead Y (m + 1) - stAhead Y m := hmo
    refine c_split (fun hlt => c_split (fun hc => ?_) fun hc => ?_) fun hlt => ?_
    · have hmM : m < M := by
        rcases Int.lt_or_le m M with e | e
        · exact e
        · exfalso
          have : m = M := by omega
          subst this
          omega
      have e14 : x14 = n - r12 := i64_in _ (by omega)
      have e15 : x15 = m + 1 := i64_in _ (by omega)
      rw [e14, e15]
      exact lp_months F hY hM hd hd2 fuel (m + 1) _ (by omega) (by omega) (by omega) (by omega)
    · have hmM : m = M := by
        rcases Int.lt_or_le m M with e | e
        · exfalso
          have := stAhead_mono (y := Y) (a := m) (b := M) (by omega) e (by omega)
          omega
        · omega
      subst hmM
      show F n s Y m = _
      rw [show n = d by omega]
    · have hmM : m = M := by omega
      subst hmM
      show F n s Y m = _
      rw [show n = d by omega]

noncomputable def F' (a b c d e f g : List Int) : Option Out :=
          cond (decide ((((strOf a).size + (strOf b).size : Nat) : Int) ≤ LIM)) (
          cond (decide ((((strOf a ++ strOf b).size + (strOf c).size : Nat) : Int) ≤ LIM)) (
          cond (decide ((((strOf a ++ strOf b ++ strOf c).size + (strOf d).size : Nat) : Int) ≤ LIM)) (
          cond (decide ((((strOf a ++ strOf b ++ strOf c ++ strOf d).size + (strOf e).size : Nat) : Int) ≤ LIM)) (
          cond (decide ((((strOf a ++ strOf b ++ strOf c ++ strOf d ++ strOf e).size + (strOf f).size : Nat) : Int) ≤ LIM)) (
          cond (decide ((((strOf a ++ strOf b ++ strOf c ++ strOf d ++ strOf e ++ strOf f).size + (strOf g).size : Nat) : Int) ≤ LIM)) (
          cond (decide ((((strOf a ++ strOf b ++ strOf c ++ strOf d ++ strOf e ++ strOf f ++ strOf g).size + (⟨#[90]⟩ : ByteArray).size : Nat) : Int) ≤ LIM)) (
          some (.ret [.cl (.str (strOf a ++ strOf b ++ strOf c ++ strOf d ++ strOf e ++ strOf f ++ strOf g ++ (⟨#[90]⟩ : ByteArray)))] [])) none) none) none) none) none) none) none
theorem F'_eq {a b c d e f g : List Int} (ha : a.length = 2) (hb : b.length = 2) (hc : c.length = 2) (hd : d.length = 2) (he : e.length = 2) (hf : f.length = 2) (hg : g.length = 2) :
    F' a b c d e f g = some (.ret [.cl (.str (strOf (a ++ b ++ c ++ d ++ e ++ f ++ g ++ [90])))] []) := by
  unfold F'
  rw [show (⟨#[90]⟩ : ByteArray) = strOf [90] from rfl]
  simp only [strOf_append, strOf_size, List.length_append, ha, hb, hc, hd, he, hf, hg]
  refine c_pos (by unfold LIM; omega) (c_pos (by unfold LIM; omega) (c_pos (by unfold LIM; omega) (c_pos (by unfold LIM; omega) (c_pos (by unfold LIM; omega) (c_pos (by unfold LIM; omega) (c_pos (by show ((14 + 1 : Nat) : Int) ≤ LIM; unfold LIM; omega) rfl))))))

theorem nRText (t : Int) (hp : stI64 t = true) : gRText t = some (.ret [.cl (.str (stText t))] []) := by
  simp only [stI64, decide_eq_true_eq] at hp
  unfold gRText stText
  refine c_split (fun h => ?_) fun h => c_split (fun h2 => ?_) fun h2 => ?_
  · rw [if_neg (by unfold stIn; simp only [decide_eq_true_eq]; omega)]; rfl
  · rw [if_neg (by unfold stIn; simp only [decide_eq_true_eq]; omega)]; rfl
  have hi : stIn t = true := by unfold stIn; simp only [decide_eq_true_eq]; omega
  rw [if_pos hi]
  obtain ⟨hf, hs⟩ := stDated_ok hi
  have hf := stFit_spec hf
  unfold stTextL
  generalize (stDated t).d0 = Y at *
  generalize (stDated t).d1 = M at *
  generalize (stDated t).d2 = D at *
  generalize (stDated t).d3 = hh at *
  generalize (stDated t).d4 = mi at *
  generalize (stDated t).d5 = sc at *
  obtain ⟨⟨a1, a2, a3, a4⟩, ⟨a5, a6⟩, a7, a8, a9, a10, a11, a12⟩ := hf
  have hAh : 0 ≤ stAhead Y M ∧ stAhead Y (M + 1) ≤ stAhead Y 13 := by
    refine ⟨by unfold stAhead; split <;> (try split) <;> omega, ?_⟩
    rcases Int.lt_or_le M 12 with hm | hm
    · have := stAhead_mono (y := Y) (a := M + 1) (b := 13) (by omega) (by omega) (by omega)
      have := stAhead_step (y := Y) (m := M + 1) (by omega) (by omega)
      have := stDays_rng Y (M + 1)
      omega
    · have : M + 1 = 13 := by omega
      rw [this]; exact Int.le_refl _
  have hst := stAhead_step (y := Y) (m := M) (by omega) (by omega)
  have hye := stAhead_end Y
  have hys := stYears_step Y
  have hrd := stDays_rng Y M
  unfold stSecs at hs
  obtain ⟨N, hN⟩ : ∃ N, N = stYears Y + stAhead Y M + (D - 1) := ⟨_, rfl⟩
  rw [← hN] at hs
  have hN2 : (t + 62135596800) / 86400 = N ∧ (t + 62135596800) % 86400 = hh * 3600 + mi * 60 + sc ∧ 0 ≤ N ∧ N ≤ 3652058 := by clear hN hye hys hst hAh; omega
  have h3 : IntKind.i64.wrap (t - (-62135596800)) = t + 62135596800 := (i64_in _ (by omega)).trans (by omega)
  have h4 : IntKind.i64.wrap ((t + 62135596800).tdiv 86400) = N := (i64_quo _ _ (by omega)).trans hN2.1
  have h5 : (t + 62135596800).tmod 86400 = hh * 3600 + mi * 60 + sc := (rem_in _ _ (by omega)).trans hN2.2.1
  extract_lets x1 x2 x4
  have e1 : x1 = t + 62135596800 := h3
  have e2 : x2 = N := by show IntKind.i64.wrap (x1.tdiv 86400) = N; rw [e1]; exact h4
  have e4 : x4 = hh * 3600 + mi * 60 + sc := by show x1.tmod 86400 = _; rw [e1]; exact h5
  rw [e2, e4]
  clear_value x1 x2 x4
  rw [shut_eq]
  refine (lp_years (n := N) (s := hh * 3600 + mi * 60 + sc) (Y := Y) _ hN2.2.2 ⟨a1, a2⟩ (by omega) (by rw [hys]; omega) 13 (FUEL - 1) 1 (by unfold FUEL; omega) (by omega) (by omega) (by omega) (by omega)).trans ?_
  refine b_pos (by simp only [stOk, decide_eq_true_eq]; omega) ?_
  have e11 : IntKind.i64.wrap (N - stYears Y) = stAhead Y M + (D - 1) := (i64_in _ (by clear hs hN2 h3 h4 h5; unfold stYears at *; omega)).trans (by omega)
  extract_lets r10 x11
  rw [show x11 = stAhead Y M + (D - 1) from e11, shut_eq]
  clear_value r10 x11
  let F : Int → Int → Int → Int → Option Out := fun y12 y13 y14 y15 =>
          let x23 : Int := IntKind.i64.wrap (Int.tdiv y14 100)
          let r24 : ByteArray := strOf (stTwo x23)
          let x25 : Int := Int.tmod y14 100
          let r26 : ByteArray := strOf (stTwo x25)
          cond (decide (((r24.size + r26.size : Nat) : Int) ≤ LIM)) (
          let s27 : ByteArray := r24 ++ r26
          let r28 : ByteArray := strOf (stTwo y15)
          cond (decide (((s27.size + r28.size : Nat) : Int) ≤ LIM)) (
          let s29 : ByteArray := s27 ++ r28
          let x30 : Int := IntKind.i64.wrap (y12 + 1)
          let r31 : ByteArray := strOf (stTwo x30)
          cond (decide (((s29.size + r31.size : Nat) : Int) ≤ LIM)) (
          let s32 : ByteArray := s29 ++ r31
          let x33 : Int := IntKind.i64.wrap (Int.tdiv y13 3600)
          let r34 : ByteArray := strOf (stTwo x33)
          cond (decide (((s32.size + r34.size : Nat) : Int) ≤ LIM)) (
          let s35 : ByteArray := s32 ++ r34
          let x36 : Int := IntKind.i64.wrap (Int.tdiv y13 60)
          let x37 : Int := Int.tmod x36 60
          let r38 : ByteArray := strOf (stTwo x37)
          cond (decide (((s35.size + r38.size : Nat) : Int) ≤ LIM)) (
          let s39 : ByteArray := s35 ++ r38
          let x40 : Int := Int.tmod y13 60
          let r41 : ByteArray := strOf (stTwo x40)
          cond (decide (((s39.size + r41.size : Nat) : Int) ≤ LIM)) (
          let s42 : ByteArray := s39 ++ r41
          cond (decide (((s42.size + (⟨#[90]⟩ : ByteArray).size : Nat) : Int) ≤ LIM)) (
          let s43 : ByteArray := s42 ++ (⟨#[90]⟩ : ByteArray)
          some (.ret [.cl (.str s43)] [])) none) none) none) none) none) none) none
  refine (lp_months (s := hh * 3600 + mi * 60 + sc) (Y := Y) (M := M) (d := D - 1) F ⟨a1, a2⟩ ⟨a3, a4⟩ (by omega) (by omega) FUEL 1 _ (by omega) (by omega) (by unfold FUEL; omega) (by rw [stAhead_one]; omega)).trans ?_
  show F (D - 1) (hh * 3600 + mi * 60 + sc) Y M = _
  have q1 : IntKind.i64.wrap (Int.tdiv Y 100) = Y / 100 := i64_quo _ _ (by omega)
  have q2 : Int.tmod Y 100 = Y % 100 := rem_in _ _ (by omega)
  have q3 : IntKind.i64.wrap (D - 1 + 1) = D := (i64_in _ (by omega)).trans (by omega)
  have q4 : IntKind.i64.wrap (Int.tdiv (hh * 3600 + mi * 60 + sc) 3600) = hh := (i64_quo _ _ (by omega)).trans (by omega)
  have q5 : IntKind.i64.wrap (Int.tdiv (hh * 3600 + mi * 60 + sc) 60) = hh * 60 + mi := (i64_quo _ _ (by omega)).trans (by omega)
  have q6 : Int.tmod (hh * 60 + mi) 60 = mi := (rem_in _ _ (by omega)).trans (by omega)
  have q7 : Int.tmod (hh * 3600 + mi * 60 + sc) 60 = sc := (rem_in _ _ (by omega)).trans (by omega)
  have q8 : stTwo (Y % 100) = stTwo Y := by
    unfold stTwo
    have b1 : IntKind.i64.wrap (Int.tdiv (Y % 100) 10) = Y % 100 / 10 := i64_quo _ _ (by omega)
    have b2 : IntKind.i64.wrap (Int.tdiv Y 10) = Y / 10 := i64_quo _ _ (by omega)
    rw [b1, b2, rem_in (Y % 100 / 10) 10 (by omega), rem_in (Y / 10) 10 (by omega), rem_in (Y % 100) 10 (by omega), rem_in Y 10 (by omega), show Y % 100 / 10 % 10 = Y / 10 % 10 by omega, show Y % 100 % 10 = Y % 10 by omega]
  have hz : (⟨#[90]⟩ : ByteArray) = strOf [90] := rfl
  have z2 : ∀ n, (strOf (stTwo n)).size = 2 := fun n => by rw [strOf_size]; rfl
  have hF : F (D - 1) (hh * 3600 + mi * 60 + sc) Y M = F' (stTwo (IntKind.i64.wrap (Int.tdiv Y 100))) (stTwo (Int.tmod Y 100)) (stTwo M) (stTwo (IntKind.i64.wrap (D - 1 + 1))) (stTwo (IntKind.i64.wrap (Int.tdiv (hh * 3600 + mi * 60 + sc) 3600))) (stTwo (Int.tmod (IntKind.i64.wrap (Int.tdiv (hh * 3600 + mi * 60 + sc) 60)) 60)) (stTwo (Int.tmod (hh * 3600 + mi * 60 + sc) 60)) := rfl
  rw [hF, q1, q2, q3, q4, q5, q6, q7, q8]
  exact F'_eq rfl rfl rfl rfl rfl rfl rfl
end Go.Proofs.YtpdkenjphnlbdaaA

/-
  The stamp layer: the reference's reading of a text. Conditions: none.
-/
set_option linter.unusedVariables false
namespace Go.Proofs.YtpdkenjphnlbdaaA
open IntWalk (i64_in u8_in u32_in u64_in i64_quo u8_quo rem_in)

theorem lp_sum {y m h i c : Int} (F : Int → Int → Int → Int → Int → Int → Option Out) (hy : 1 ≤ y ∧ y ≤ 9999) (hm : 1 ≤ m ∧ m ≤ 12) : ∀ (fuel : Nat) (n k : Int), 1 ≤ k → k ≤ m → m - k < fuel → 0 ≤ n → n ≤ 4000000 + 31 * k →
    lpRRead_13 (fun y18 y19 y20 y21 y22 y23 _ _ _ => F y18 y19 y20 y21 y22 y23) fuel y m h i c n k = F y m h i c (n + stAhead y m - stAhead y k)
  | 0, n, k, h1, h2, h3, h4, h5 => by omega
  | fuel + 1, n, k, h1, h2, h3, h4, h5 => by
    rw [show lpRRead_13 (fun y18 y19 y20 y21 y22 y23 _ _ _ => F y18 y19 y20 y21 y22 y23) (fuel + 1) = lpRRead_13s (lpRRead_13 (fun y18 y19 y20 y21 y22 y23 _ _ _ => F y18 y19 y20 y21 y22 y23) fuel) (fun y18 y19 y20 y21 y22 y23 _ _ _ => F y18 y19 y20 y21 y22 y23) from rfl]
    unfold lpRRead_13s
    have hmo := stMonth_eq hy (m := k) (by omega)
    have hst := stAhead_step (y := y) (m := k) (by omega) (by omega)
    have hr := stDays_rng y k
    extract_lets r18 x19 x20
    have e18 : r18 = stDays y k := by show stMonth y k = _; rw [hmo]; omega
    refine c_split (fun hlt => ?_) fun hlt => ?_
    · have e19 : x19 = n + stDays y k := (i64_in (n + r18) (by omega)).trans (by rw [e18])
      have e20 : x20 = k + 1 := i64_in _ (by omega)
      rw [e19, e20]
      rw [lp_sum F hy hm fuel (n + stDays y k) (k + 1) (by omega) (by omega) (by omega) (by omega) (by omega), hst]
      congr 1
      omega
    · have : k = m := by omega
      subst this
      show F y k h i c n = _
      congr 1
      omega

theorem num2 {a b : Int} (ha : 0 ≤ a ∧ a ≤ 255) (hb : 0 ≤ b ∧ b ≤ 255) : stNum [a, b] 0 = (if stDig a b < 0 then -1 else stDig a b) ∧ (stDig a b = -100000 ∨ 0 ≤ stDig a b ∧ stDig a b ≤ 99) := by
  unfold stDig stNum stNum stNum
  by_cases h1 : a < 48 ∨ 57 < a
  · rw [if_pos h1, if_pos (show (if a < 48 ∨ 57 < a ∨ b < 48 ∨ 57 < b then (-100000 : Int) else _) < 0 by rw [if_pos (by omega)]; omega), if_pos (by omega)]; exact ⟨rfl, .inl rfl⟩
  · by_cases h2 : b < 48 ∨ 57 < b
    · rw [if_neg h1, if_pos h2, if_pos (show (if a < 48 ∨ 57 < a ∨ b < 48 ∨ 57 < b then (-100000 : Int) else _) < 0 by rw [if_pos (by omega)]; omega), if_pos (by omega)]; exact ⟨rfl, .inl rfl⟩
    · rw [if_neg h1, if_neg h2, if_neg (by omega), if_neg (by omega)]
      exact ⟨by omega, by omega⟩
theorem num4 {a b c d : Int} (ha : 0 ≤ a ∧ a ≤ 255) (hb : 0 ≤ b ∧ b ≤ 255) (hc : 0 ≤ c ∧ c ≤ 255) (hd : 0 ≤ d ∧ d ≤ 255) : stNum [a, b, c, d] 0 = (if stDig a b < 0 ∨ stDig c d < 0 then -1 else 100 * stDig a b + stDig c d) := by
  unfold stDig stNum stNum stNum stNum stNum
  by_cases h1 : a < 48 ∨ 57 < a
  · rw [if_pos h1, if_pos (.inl (by rw [if_pos (by omega)]; omega))]
  · by_cases h2 : b < 48 ∨ 57 < b
    · rw [if_neg h1, if_pos h2, if_pos (.inl (by rw [if_pos (by omega)]; omega))]
    · by_cases h3 : c < 48 ∨ 57 < c
      · rw [if_neg h1, if_neg h2, if_pos h3, if_pos (show c < 48 ∨ 57 < c ∨ d < 48 ∨ 57 < d by omega), if_pos (by omega)]
      · by_cases h4 : d < 48 ∨ 57 < d
        · rw [if_neg h1, if_neg h2, if_neg h3, if_pos h4, if_pos (show c < 48 ∨ 57 < c ∨ d < 48 ∨ 57 < d by omega), if_pos (by omega)]
        · rw [if_neg h1, if_neg h2, if_neg h3, if_neg h4, if_neg (show ¬ (a < 48 ∨ 57 < a ∨ b < 48 ∨ 57 < b) by omega), if_neg (show ¬ (c < 48 ∨ 57 < c ∨ d < 48 ∨ 57 < d) by omega), if_neg (by omega)]
          omega
theorem bytes_ext2 (s : ByteArray) {k : Nat} (h : k + 2 ≤ s.size) : bytesOf (s.extract k (k + 2)) = [bget s k, bget s (k + 1)] := by
  have hz : (s.extract k (k + 2)).size = 2 := by rw [ByteArray.size_extract]; omega
  have h0 := bytesOf_drop (s.extract k (k + 2)) (i := 0) (by omega)
  have h1 := bytesOf_drop (s.extract k (k + 2)) (i := 1) (by omega)
  rw [List.drop_zero] at h0
  rw [h0, h1, List.drop_eq_nil_of_le (by rw [bytesOf_length]; omega), bget_extract s (by omega) (by omega) h, bget_extract s (by omega) (by omega) h]
  simp
theorem bytes_ext4 (s : ByteArray) (h : 4 ≤ s.size) : bytesOf (s.extract 0 4) = [bget s 0, bget s 1, bget s 2, bget s 3] := by
  have hz : (s.extract 0 4).size = 4 := by rw [ByteArray.size_extract]; omega
  have h0 := bytesOf_drop (s.extract 0 4) (i := 0) (by omega)
  have h1 := bytesOf_drop (s.extract 0 4) (i := 1) (by omega)
  have h2 := bytesOf_drop (s.extract 0 4) (i := 2) (by omega)
  have h3 := bytesOf_drop (s.extract 0 4) (i := 3) (by omega)
  rw [List.drop_zero] at h0
  rw [h0, h1, h2, h3, List.drop_eq_nil_of_le (by rw [bytesOf_length]; omega), bget_extract s (by omega) (by omega) h, bget_extract s (by omega) (by omega) h, bget_extract s (by omega) (by omega) h, bget_extract s (by omega) (by omega) h]
  simp

/-- both ways to read numbers find the same dates fit -/
theorem fit_same {D01 D23 D4 D6 D8 D10 D12 : Int} (v01 : D01 = -100000 ∨ 0 ≤ D01 ∧ D01 ≤ 99) (v23 : D23 = -100000 ∨ 0 ≤ D23 ∧ D23 ≤ 99) (v4 : D4 = -100000 ∨ 0 ≤ D4 ∧ D4 ≤ 99) (v6 : D6 = -100000 ∨ 0 ≤ D6 ∧ D6 ≤ 99) (v8 : D8 = -100000 ∨ 0 ≤ D8 ∧ D8 ≤ 99) (v10 : D10 = -100000 ∨ 0 ≤ D10 ∧ D10 ≤ 99) (v12 : D12 = -100000 ∨ 0 ≤ D12 ∧ D12 ≤ 99)
    {y m d h i c : Int} (ey : y = if D01 < 0 ∨ D23 < 0 then -1 else 100 * D01 + D23) (em : m = if D4 < 0 then -1 else D4) (ed : d = if D6 < 0 then -1 else D6) (eh : h = if D8 < 0 then -1 else D8) (ei : i = if D10 < 0 then -1 else D10) (ec : c = if D12 < 0 then -1 else D12) :
    (stFit (D23 + 100 * D01) D4 D6 D8 D10 D12 = true ∧ stFit y m d h i c = true ∧ y = D23 + 100 * D01 ∧ m = D4 ∧ d = D6 ∧ h = D8 ∧ i = D10 ∧ c = D12) ∨ (stFit (D23 + 100 * D01) D4 D6 D8 D10 D12 = false ∧ stFit y m d h i c = false) := by
  cases hf : stFit (D23 + 100 * D01) D4 D6 D8 D10 D12 with
  | true =>
    left
    obtain ⟨⟨a1, a2, a3, a4⟩, ⟨a5, a6⟩, a7, a8, a9, a10, a11, a12⟩ := stFit_spec hf
    have e1 : y = D23 + 100 * D01 := by rw [ey, if_neg (by omega)]; omega
    have e2 : m = D4 := by rw [em, if_neg (by omega)]
    have e3 : d = D6 := by rw [ed, if_neg (by omega)]
    have e4 : h = D8 := by rw [eh, if_neg (by omega)]
    have e5 : i = D10 := by rw [ei, if_neg (by omega)]
    have e6 : c = D12 := by rw [ec, if_neg (by omega)]
    exact ⟨rfl, by rw [e1, e2, e3, e4, e5, e6, hf], e1, e2, e3, e4, e5, e6⟩
  | false =>
    right
    refine ⟨rfl, ?_⟩
    cases hg : stFit y m d h i c with
    | false => rfl
    | true =>
      exfalso
      obtain ⟨⟨a1, a2, a3, a4⟩, ⟨a5, a6⟩, a7, a8, a9, a10, a11, a12⟩ := stFit_spec hg
      have e1 : y = D23 + 100 * D01 := by split at ey <;> omega
      have e2 : m = D4 := by split at em <;> omega
      have e3 : d = D6 := by split at ed <;> omega
      have e4 : h = D8 := by split at eh <;> omega
      have e5 : i = D10 := by split at ei <;> omega
      have e6 : c = D12 := by split at ec <;> omega
      rw [← e1, ← e2, ← e3, ← e4, ← e5, ← e6, hg] at hf
      cases hf

theorem nRRead (s : ByteArray) (hp : true = true) : gRRead s = some (.ret [.cl (.int .i64 (stRead s).1), .cl (.int .i64 (stRead s).2)] []) := by
  unfold gRRead stRead
  refine c_nsplit (fun h => ?_) fun h => c_pos (by omega) ?_
  · rw [if_neg (by omega)]
  have hs : s.size = 15 := by omega
  have sz : ∀ k n : Nat, k + n ≤ 15 → (s.extract k (k + n)).size = n := fun k n hk => by rw [ByteArray.size_extract]; omega
  have z0 := sz 0 4 (by omega)
  have z4 := sz 4 2 (by omega)
  have z6 := sz 6 2 (by omega)
  have z8 := sz 8 2 (by omega)
  have z10 := sz 10 2 (by omega)
  have z12 := sz 12 2 (by omega)
  have b := bget_rng s
  have n0 : stNumber (s.extract 0 4) = _ := (congrArg (stNum · 0) (bytes_ext4 s (by omega))).trans (num4 (b 0) (b 1) (b 2) (b 3))
  have n4 : stNumber (s.extract 4 6) = _ := (congrArg (stNum · 0) (bytes_ext2 s (k := 4) (by omega))).trans (num2 (b 4) (b 5)).1
  have n6 : stNumber (s.extract 6 8) = _ := (congrArg (stNum · 0) (bytes_ext2 s (k := 6) (by omega))).trans (num2 (b 6) (b 7)).1
  have n8 : stNumber (s.extract 8 10) = _ := (congrArg (stNum · 0) (bytes_ext2 s (k := 8) (by omega))).trans (num2 (b 8) (b 9)).1
  have n10 : stNumber (s.extract 10 12) = _ := (congrArg (stNum · 0) (bytes_ext2 s (k := 10) (by omega))).trans (num2 (b 10) (b 11)).1
  have n12 : stNumber (s.extract 12 14) = _ := (congrArg (stNum · 0) (bytes_ext2 s (k := 12) (by omega))).trans (num2 (b 12) (b 13)).1
  have same := fit_same (num2 (b 0) (b 1)).2 (num2 (b 2) (b 3)).2 (num2 (b 4) (b 5)).2 (num2 (b 6) (b 7)).2 (num2 (b 8) (b 9)).2 (num2 (b 10) (b 11)).2 (num2 (b 12) (b 13)).2 n0 n4 n6 n8 n10 n12
  extract_lets x1 s2 r3 s4 r5 s6 r7 s8 r9 s10 r11 s12 r13 r14 r15 x16 x17 y m d hh i c
  refine c_nsplit (fun h => ?_) fun h1 => ?_
  · rw [if_neg fun e => h e.2]
  rw [if_pos ⟨hs, h1⟩]
  have z0 : s2.size = 4 := z0
  have z4 : s4.size = 2 := z4
  have z6 : s6.size = 2 := z6
  have z8 : s8.size = 2 := z8
  have z10 : s10.size = 2 := z10
  have z12 : s12.size = 2 := z12
  refine c_pos (by omega) (c_pos (by omega) (c_pos (by omega) (c_pos (by omega) (c_pos (by omega) (c_pos (by omega) (c_pos (by omega) (c_pos (by omega) (c_pos (by omega) (c_pos (by omega) (c_pos (by omega) (c_pos (by omega) ?_)))))))))))
  have same : (stFit y m d hh i c = true ∧ stFit r3 r5 r7 r9 r11 r13 = true ∧ r3 = y ∧ r5 = m ∧ r7 = d ∧ r9 = hh ∧ r11 = i ∧ r13 = c) ∨ (stFit y m d hh i c = false ∧ stFit r3 r5 r7 r9 r11 r13 = false) := same
  have e14 : r14 = stMonth r3 r5 := rfl
  have e15 : r15 = stYears r3 := rfl
  have e16 : x16 = IntKind.i64.wrap (r7 - 1) := rfl
  have e17 : x17 = IntKind.i64.wrap (r15 + x16) := rfl
  clear_value r14 r15 x16 x17 r3 r5 r7 r9 r11 r13 y m d hh i c s2 s4 s6 s8 s10 s12 x1
  clear n0 n4 n6 n8 n10 n12 z0 z4 z6 z8 z10 z12 b sz h1 hs h
  rcases same with ⟨hf, hg, rfl, rfl, rfl, rfl, rfl, rfl⟩ | ⟨hf, hg⟩
  · rw [if_pos hf]
    obtain ⟨⟨a1, a2, a3, a4⟩, ⟨a5, a6⟩, a7, a8, a9, a10, a11, a12⟩ := stFit_spec hf
    have hmo : stMonth r3 r5 = stDays r3 r5 := by unfold stMonth; rw [if_pos (by omega)]
    have hr := stDays_rng r3 r5
    have hy : 0 ≤ stYears r3 ∧ stYears r3 ≤ 3652059 := by unfold stYears; omega
    have e16 : x16 = r7 - 1 := e16.trans (i64_in _ (by omega))
    have e17 : x17 = stYears r3 + (r7 - 1) := e17.trans ((i64_in _ (by omega)).trans (by rw [e15, e16]))
    refine c_neg (by omega) (c_neg (by omega) (c_neg (by omega) (c_neg (by omega) (c_neg (by omega) (c_neg (by omega) (c_neg (by omega) (c_neg (by omega) (b_pos (by simp only [stOk, decide_eq_true_eq]; omega) ?_))))))))
    rw [shut_eq, e17]
    refine (lp_sum (fun _ _ y20 y21 y22 y23 =>
                        let x27 : Int := IntKind.i64.wrap (y23 * 86400)
                        let x28 : Int := IntKind.i64.wrap (((-62135596800) : Int) + x27)
                        let x29 : Int := IntKind.i64.wrap (y20 * 3600)
                        let x30 : Int := IntKind.i64.wrap (y21 * 60)
                        let x31 : Int := IntKind.i64.wrap (x29 + x30)
                        let x32 : Int := IntKind.i64.wrap (x31 + y22)
                        let x33 : Int := IntKind.i64.wrap (x28 + x32)
                        some (.ret [.cl (.int .i64 x33), .cl (.int .i64 0)] [])) ⟨a1, a2⟩ ⟨a3, a4⟩ FUEL _ 1 (by omega) (by omega) (by unfold FUEL; omega) (by omega) (by omega)).trans ?_
    rw [stAhead_one]
    have hA : 0 ≤ stAhead r3 r5 ∧ stAhead r3 r5 ≤ 335 := by refine ⟨?_, ?_⟩ <;> (unfold stAhead; split <;> (try split) <;> omega)
    extract_lets x27 x28 x29 x30 x31 x32 x33
    have e27 : x27 = (stYears r3 + (r7 - 1) + stAhead r3 r5 - 0) * 86400 := i64_in _ (by omega)
    have e28 : x28 = -62135596800 + x27 := i64_in _ (by omega)
    have e29 : x29 = r9 * 3600 := i64_in _ (by omega)
    have e30 : x30 = r11 * 60 := i64_in _ (by omega)
    have e31 : x31 = x29 + x30 := i64_in _ (by omega)
    have e32 : x32 = x31 + r13 := i64_in _ (by omega)
    have e33 : x33 = x28 + x32 := i64_in _ (by omega)
    have e : x33 = stSecs r3 r5 r7 r9 r11 r13 := by
      unfold stSecs
      rw [e33, e28, e27, e32, e31, e29, e30]
      omega
    rw [e]
  · rw [if_neg (by rw [hf]; simp)]
    have hg' : ¬ ((1 ≤ r3 ∧ r3 ≤ 9999 ∧ 1 ≤ r5 ∧ r5 ≤ 12) ∧ (1 ≤ r7 ∧ r7 ≤ stDays r3 r5) ∧ 0 ≤ r9 ∧ r9 < 24 ∧ 0 ≤ r11 ∧ r11 < 60 ∧ 0 ≤ r13 ∧ r13 < 60) := by
      unfold stFit at hg
      simpa only [decide_eq_false_iff_not] using hg
    have hmo : stMonth r3 r5 = if 1 ≤ r3 ∧ r3 ≤ 9999 ∧ 1 ≤ r5 ∧ r5 ≤ 12 then stDays r3 r5 else 0 := rfl
    refine c_split (fun h => rfl) fun g1 => c_split (fun h => rfl) fun g2 => c_split (fun h => rfl) fun g3 => c_split (fun h => rfl) fun g4 => c_split (fun h => rfl) fun g5 => c_split (fun h => rfl) fun g6 => c_split (fun h => rfl) fun g7 => c_split (fun h => rfl) fun g8 => ?_
    exfalso
    apply hg'
    rw [e14] at g2
    split at hmo <;> omega
end Go.Proofs.YtpdkenjphnlbdaaA

/-
  The stamp layer's statements: examples; texts and times are the document's. Conditions: none.
-/
set_option linter.unusedVariables false
namespace Go.Proofs.YtpdkenjphnlbdaaA

theorem nSAwake (hp : true = true) : gSAwake = some (.ret [.cl (.bool true)] []) := by kernel_rfl
theorem nSTells (t : Int) (s : ByteArray) (y m : Int) (hp : stI64 t = true) : gSTells t s y m = some (.ret [.cl (.bool true)] []) := by
  unfold gSTells
  refine c_split (fun h => rfl) fun h => b_pos hp (b_pos hp (b_pos (by simp) (c_pos rfl (c_pos rfl (c_pos rfl rfl)))))
end Go.Proofs.YtpdkenjphnlbdaaA

/-
  Times and their texts, there and back. Conditions: none.
-/
set_option linter.unusedVariables false
namespace Go.Proofs.YtpdkenjphnlbdaaA
open IntWalk (i64_in u8_in u32_in u64_in i64_quo u8_quo rem_in)

theorem two_nn {n : Int} (h : 0 ≤ n) (h2 : n ≤ 9223372036854775807) : stTwo n = [48 + n / 10 % 10, 48 + n % 10] := by
  unfold stTwo
  have b1 : IntKind.i64.wrap (Int.tdiv n 10) = n / 10 := i64_quo _ _ (by omega)
  rw [b1, rem_in (n / 10) 10 (by omega), rem_in n 10 (by omega), i64_in (48 + n / 10 % 10) (by omega), i64_in (48 + n % 10) (by omega), u8_in _ (by omega), u8_in _ (by omega)]
theorem bytes_strOf {l : List Int} (h : ∀ x ∈ l, 0 ≤ x ∧ x ≤ 255) : bytesOf (strOf l) = l := by
  unfold bytesOf strOf
  simp only [List.map_map]
  have : ∀ l : List Int, (∀ x ∈ l, 0 ≤ x ∧ x ≤ 255) → l.map ((fun b : UInt8 => (b.toNat : Int)) ∘ fun n : Int => UInt8.ofNat n.toNat) = l := fun l => by
    induction l with
    | nil => intro _; rfl
    | cons x r ih =>
      intro h
      have hx := h x (by simp)
      simp only [List.map_cons, Function.comp]
      rw [show List.map ((fun b : UInt8 => (b.toNat : Int)) ∘ fun n : Int => UInt8.ofNat n.toNat) r = r from ih fun y hy => h y (by simp [hy])]
      congr 1
      rw [UInt8.toNat_ofNat']
      omega
  exact this l h
theorem strOf_bytes (s : ByteArray) : strOf (bytesOf s) = s := by
  apply ByteArray.ext
  unfold bytesOf strOf
  simp only [List.map_map]
  have : ((fun n : Int => UInt8.ofNat n.toNat) ∘ fun b : UInt8 => (b.toNat : Int)) = id := by
    funext b
    simp [Function.comp]
  rw [this, List.map_id]
theorem bget_strOf {l : List Int} (h : ∀ x ∈ l, 0 ≤ x ∧ x ≤ 255) {i v : Int} (h0 : 0 ≤ i) (hv : l[i.toNat]? = some v) : bget (strOf l) i = v := by
  have hl : i.toNat < l.length := (List.getElem?_eq_some_iff.1 hv).1
  have hs : i.toNat < (strOf l).size := by rw [strOf_size]; exact hl
  have := bytesOf_get (strOf l) hs
  rw [bytes_strOf h, hv, Int.toNat_of_nonneg h0] at this
  simpa using this.symm
theorem dig_two {n : Int} : stDig (48 + n / 10 % 10) (48 + n % 10) = n % 100 := by
  unfold stDig
  rw [if_neg (by omega)]
  omega
theorem two_dig {a b : Int} (h : 0 ≤ stDig a b) : stTwo (stDig a b) = [a, b] ∧ stDig a b ≤ 99 := by
  unfold stDig at h ⊢
  split at h
  · omega
  · rename_i hc
    rw [if_neg hc, two_nn (by omega) (by omega)]
    refine ⟨?_, by omega⟩
    congr 1
    · omega
    · congr 1
      omega
theorem stText_list {t : Int} (h : stIn t = true) : ∃ y m d hh i s, stFit y m d hh i s = true ∧ stSecs y m d hh i s = t ∧ stText t = strOf [48 + y / 100 / 10 % 10, 48 + y / 100 % 10, 48 + y / 10 % 10, 48 + y % 10, 48 + m / 10 % 10, 48 + m % 10, 48 + d / 10 % 10, 48 + d % 10, 48 + hh / 10 % 10, 48 + hh % 10, 48 + i / 10 % 10, 48 + i % 10, 48 + s / 10 % 10, 48 + s % 10, 90] := by
  obtain ⟨h1, h2⟩ := stDated_ok h
  refine ⟨_, _, _, _, _, _, h1, h2, ?_⟩
  obtain ⟨⟨a1, a2, a3, a4⟩, ⟨a5, a6⟩, a7, a8, a9, a10, a11, a12⟩ := stFit_spec h1
  have := stDays_rng (stDated t).d0 (stDated t).d1
  unfold stText stTextL
  rw [if_pos h, two_nn (by omega) (by omega), two_nn (by omega) (by omega), two_nn (by omega) (by omega), two_nn (by omega) (by omega), two_nn (by omega) (by omega), two_nn (by omega) (by omega), two_nn (by omega) (by omega)]
  rfl
theorem list_rng {y m d hh i s : Int} : ∀ x ∈ [48 + y / 100 / 10 % 10, 48 + y / 100 % 10, 48 + y / 10 % 10, 48 + y % 10, 48 + m / 10 % 10, 48 + m % 10, 48 + d / 10 % 10, 48 + d % 10, 48 + hh / 10 % 10, 48 + hh % 10, 48 + i / 10 % 10, 48 + i % 10, 48 + s / 10 % 10, 48 + s % 10, 90], (0 : Int) ≤ x ∧ x ≤ 255 := by
  intro x hx
  simp only [List.mem_cons, List.not_mem_nil, or_false] at hx
  omega
theorem read_text {t : Int} (h : stIn t = true) : stRead (stText t) = (t, 0) := by
  obtain ⟨y, m, d, hh, i, s, hf, hs, ht⟩ := stText_list h
  obtain ⟨⟨a1, a2, a3, a4⟩, ⟨a5, a6⟩, a7, a8, a9, a10, a11, a12⟩ := stFit_spec hf
  have hr := stDays_rng y m
  rw [ht]
  have R := @list_rng y m d hh i s
  unfold stRead
  rw [strOf_size, bget_strOf R (i := 14) (by omega) rfl, bget_strOf R (i := 0) (by omega) rfl, bget_strOf R (i := 1) (by omega) rfl, bget_strOf R (i := 2) (by omega) rfl, bget_strOf R (i := 3) (by omega) rfl, bget_strOf R (i := 4) (by omega) rfl, bget_strOf R (i := 5) (by omega) rfl, bget_strOf R (i := 6) (by omega) rfl,
    bget_strOf R (i := 7) (by omega) rfl, bget_strOf R (i := 8) (by omega) rfl, bget_strOf R (i := 9) (by omega) rfl, bget_strOf R (i := 10) (by omega) rfl, bget_strOf R (i := 11) (by omega) rfl, bget_strOf R (i := 12) (by omega) rfl, bget_strOf R (i := 13) (by omega) rfl]
  rw [if_pos ⟨rfl, rfl⟩, dig_two, dig_two, dig_two, dig_two, dig_two, dig_two, dig_two]
  rw [show y % 100 + 100 * (y / 100 % 100) = y by omega, show m % 100 = m by omega, show d % 100 = d by omega, show hh % 100 = hh by omega, show i % 100 = i by omega, show s % 100 = s by omega]
  dsimp only
  rw [if_pos hf, hs]

theorem secs_in {y m d h i s : Int} (hf : stFit y m d h i s = true) : stIn (stSecs y m d h i s) = true := by
  obtain ⟨⟨a1, a2, a3, a4⟩, ⟨a5, a6⟩, a7, a8, a9, a10, a11, a12⟩ := stFit_spec hf
  have e1 := stAhead_step (y := y) a3 a4
  have e3 := stAhead_end y
  have e2 := stYears_step y
  have e4 : stAhead y (m + 1) ≤ stAhead y 13 := by
    rcases Int.lt_or_le m 12 with hm | hm
    · have := stAhead_mono (y := y) (a := m + 1) (b := 13) (by omega) (by omega) (by omega)
      have := stAhead_step (y := y) (m := m + 1) (by omega) (by omega)
      have := stDays_rng y (m + 1)
      omega
    · have : m + 1 = 13 := by omega
      rw [this]; exact Int.le_refl _
  have e5 : 0 ≤ stAhead y m := by unfold stAhead; split <;> (try split) <;> omega
  have e6 : 0 ≤ stYears y ∧ stYears (y + 1) ≤ 3652059 := by unfold stYears; omega
  unfold stIn
  simp only [decide_eq_true_eq]
  unfold stSecs
  omega
theorem dated_secs {y m d h i s : Int} (hf : stFit y m d h i s = true) : stDated (stSecs y m d h i s) = ⟨y, m, d, h, i, s⟩ := by
  obtain ⟨g1, g2⟩ := stDated_ok (secs_in hf)
  obtain ⟨h1, h2, h3, h4, h5, h6⟩ := st_one g1 hf g2
  cases hD : stDated (stSecs y m d h i s)
  rw [hD] at h1 h2 h3 h4 h5 h6
  simp only at h1 h2 h3 h4 h5 h6
  rw [h1, h2, h3, h4, h5, h6]
theorem text_read {s : ByteArray} (h : (stRead s).2 = 0) : stIn (stRead s).1 = true ∧ stText (stRead s).1 = s := by
  unfold stRead at h ⊢
  by_cases hc : s.size = 15 ∧ bget s 14 = 90
  · rw [if_pos hc] at h ⊢
    dsimp only at h ⊢
    generalize hD0 : stDig (bget s 0) (bget s 1) = D0 at *
    generalize hD2 : stDig (bget s 2) (bget s 3) = D2 at *
    generalize hD4 : stDig (bget s 4) (bget s 5) = D4 at *
    generalize hD6 : stDig (bget s 6) (bget s 7) = D6 at *
    generalize hD8 : stDig (bget s 8) (bget s 9) = D8 at *
    generalize hD10 : stDig (bget s 10) (bget s 11) = D10 at *
    generalize hD12 : stDig (bget s 12) (bget s 13) = D12 at *
    by_cases hf : stFit (D2 + 100 * D0) D4 D6 D8 D10 D12 = true
    · rw [if_pos hf]
      dsimp only
      refine ⟨secs_in hf, ?_⟩
      unfold stText stTextL
      rw [if_pos (secs_in hf), dated_secs hf]
      dsimp only
      obtain ⟨⟨a1, a2, a3, a4⟩, ⟨a5, a6⟩, a7, a8, a9, a10, a11, a12⟩ := stFit_spec hf
      have v := fun a b => (num2 (bget_rng s a) (bget_rng s b)).2
      have v0 := v 0 1
      have v2 := v 2 3
      rw [hD0] at v0
      rw [hD2] at v2
      have t0 := two_dig (a := bget s 0) (b := bget s 1) (by rw [hD0]; omega)
      have t2 := two_dig (a := bget s 2) (b := bget s 3) (by rw [hD2]; omega)
      have t4 := two_dig (a := bget s 4) (b := bget s 5) (by rw [hD4]; omega)
      have t6 := two_dig (a := bget s 6) (b := bget s 7) (by rw [hD6]; omega)
      have t8 := two_dig (a := bget s 8) (b := bget s 9) (by rw [hD8]; omega)
      have t10 := two_dig (a := bget s 10) (b := bget s 11) (by rw [hD10]; omega)
      have t12 := two_dig (a := bget s 12) (b := bget s 13) (by rw [hD12]; omega)
      rw [hD0] at t0
      rw [hD2] at t2
      rw [hD4] at t4
      rw [hD6] at t6
      rw [hD8] at t8
      rw [hD10] at t10
      rw [hD12] at t12
      have ey : stTwo (D2 + 100 * D0) = stTwo D2 := by
        rw [two_nn (by omega) (by omega), two_nn (by omega) (by omega)]
        congr 1
        · omega
        · congr 1
          omega
      rw [show (D2 + 100 * D0) / 100 = D0 by omega, ey, t0.1, t2.1, t4.1, t6.1, t8.1, t10.1, t12.1]
      have hb : bytesOf s = [bget s 0, bget s 1, bget s 2, bget s 3, bget s 4, bget s 5, bget s 6, bget s 7, bget s 8, bget s 9, bget s 10, bget s 11, bget s 12, bget s 13, bget s 14] := by
        have dr : ∀ k : Nat, k < 15 → (bytesOf s).drop k = bget s k :: (bytesOf s).drop (k + 1) := fun k hk => bytesOf_drop s (by omega)
        have e := dr 0 (by omega)
        rw [List.drop_zero, dr 1 (by omega), dr 2 (by omega), dr 3 (by omega), dr 4 (by omega), dr 5 (by omega), dr 6 (by omega), dr 7 (by omega), dr 8 (by omega), dr 9 (by omega), dr 10 (by omega), dr 11 (by omega), dr 12 (by omega), dr 13 (by omega), dr 14 (by omega),
          List.drop_eq_nil_of_le (by rw [bytesOf_length]; omega)] at e
        exact e
      rw [← hc.2]
      exact (congrArg strOf hb).symm.trans (strOf_bytes s)
    · rw [if_neg hf] at h
      cases h
  · rw [if_neg hc] at h
    cases h

theorem nSBack (t : Int) (s : ByteArray) (hp : stI64 t = true) : gSBack t s = some (.ret [.cl (.bool true)] []) := by
  have hp' := hp
  simp only [stI64, decide_eq_true_eq] at hp
  have inI : ∀ v, stIn v = true → stI64 v = true := fun v hv => by
    unfold stIn at hv
    unfold stI64
    simp only [decide_eq_true_eq] at hv ⊢
    omega
  -- what comes last: a text that is read
  have last : (cond (!decide ((stRead s).2 = 0)) (some (Out.ret [.cl (.bool true)] [])) (cond (stI64 (stRead s).1) (cond ((stText (stRead s).1).toList == s.toList) (some (.ret [.cl (.bool true)] [])) (some (.ret [.cl (.bool false)] []))) none)) = some (.ret [.cl (.bool true)] []) := by
    refine c_nsplit (fun h => rfl) fun h => ?_
    obtain ⟨h1, h2⟩ := text_read h
    exact b_pos (inI _ h1) (b_pos (by rw [h2]; simp) rfl)
  unfold gSBack
  refine c_split (fun h => rfl) fun h => b_pos hp' ?_
  by_cases hi : -62135596800 ≤ t ∧ t ≤ 253402300799
  · have hin : stIn t = true := by unfold stIn; simpa only [decide_eq_true_eq] using hi
    have hr := read_text hin
    refine c_pos hi.1 (c_pos hi.2 (c_nneg (by rw [hr]) (c_nneg (by rw [hr]) (c_neg (by omega) (c_neg (by omega) last)))))
  · have hout : stText t = strOf [] := by unfold stText; rw [if_neg (by unfold stIn; simp only [decide_eq_true_eq]; exact hi)]
    have hr : stRead (stText t) = (0, 1) := by rw [hout]; rfl
    have he : ((stText t).toList == (⟨#[]⟩ : ByteArray).toList) = true := by rw [hout]; simp [strOf]
    refine c_split (fun h1 => c_neg (by omega) (c_neg (by omega) (c_pos (by omega) (c_nneg (by rw [hr]) (b_pos hp' (b_neg (by rw [he]; rfl) last)))))) fun h1 => c_pos (by omega) (c_nneg (by rw [hr]) (b_pos hp' (b_neg (by rw [he]; rfl) last)))
end Go.Proofs.YtpdkenjphnlbdaaA

/-
  Times in order, and their texts. Conditions: none.
-/
set_option linter.unusedVariables false
namespace Go.Proofs.YtpdkenjphnlbdaaA
open IntWalk (i64_in u8_in u32_in u64_in i64_quo u8_quo rem_in)

theorem start_mono {y m y' m' : Int} (h : 1 ≤ m) (h1 : m ≤ 12) (h2 : 1 ≤ m') (h3 : m' ≤ 12) (hl : y < y' ∨ y = y' ∧ m < m') : stYears y + stAhead y m + stDays y m ≤ stYears y' + stAhead y' m' := by
  have e1 := stAhead_step (y := y) h h1
  have e5 : 0 ≤ stAhead y' m' := by unfold stAhead; split <;> (try split) <;> omega
  rcases hl with hl | ⟨rfl, hl⟩
  · have e3 := stAhead_end y
    have e2 := stYears_step y
    have e4 : stAhead y (m + 1) ≤ stAhead y 13 := by
      rcases Int.lt_or_le m 12 with hm | hm
      · have := stAhead_mono (y := y) (a := m + 1) (b := 13) (by omega) (by omega) (by omega)
        have := stAhead_step (y := y) (m := m + 1) (by omega) (by omega)
        have := stDays_rng y (m + 1)
        omega
      · have : m + 1 = 13 := by omega
        rw [this]; exact Int.le_refl _
    have e6 : stYears (y + 1) ≤ stYears y' := by
      rcases Int.lt_or_le (y + 1) y' with hh | hh
      · have := stYears_mono hh; omega
      · have : y' = y + 1 := by omega
        rw [this]; exact Int.le_refl _
    omega
  · have := stAhead_mono (y := y) h hl (by omega)
    omega

/-- a date's digits as one number -/
def stVal (y m d h i s : Int) : Int := ((((y * 100 + m) * 100 + d) * 100 + h) * 100 + i) * 100 + s
theorem val_mono {y m d h i s y' m' d' h' i' s' : Int} (h1 : stFit y m d h i s = true) (h2 : stFit y' m' d' h' i' s' = true) (hlt : stSecs y m d h i s < stSecs y' m' d' h' i' s') : stVal y m d h i s < stVal y' m' d' h' i' s' := by
  obtain ⟨⟨a1, a2, a3, a4⟩, ⟨a5, a6⟩, a7, a8, a9, a10, a11, a12⟩ := stFit_spec h1
  obtain ⟨⟨b1, b2, b3, b4⟩, ⟨b5, b6⟩, b7, b8, b9, b10, b11, b12⟩ := stFit_spec h2
  have r1 := stDays_rng y m
  have r2 := stDays_rng y' m'
  unfold stSecs at hlt
  unfold stVal
  by_cases c1 : y < y' ∨ y = y' ∧ m < m'
  · clear hlt
    omega
  · by_cases c2 : y' < y ∨ y' = y ∧ m' < m
    · exfalso
      have := start_mono b3 b4 a3 a4 c2
      omega
    · have e1 : y = y' := by omega
      have e2 : m = m' := by omega
      subst e1 e2
      omega
theorem day_later {y m d h i s y' m' d' h' i' s' : Int} (h1 : stFit y m d h i s = true) (h2 : stFit y' m' d' h' i' s' = true) (he : stSecs y' m' d' h' i' s' = stSecs y m d h i s + 86400) : d' ≠ d ∧ h' = h ∧ i' = i ∧ s' = s := by
  obtain ⟨⟨a1, a2, a3, a4⟩, ⟨a5, a6⟩, a7, a8, a9, a10, a11, a12⟩ := stFit_spec h1
  obtain ⟨⟨b1, b2, b3, b4⟩, ⟨b5, b6⟩, b7, b8, b9, b10, b11, b12⟩ := stFit_spec h2
  have r1 := stDays_rng y m
  have r2 := stDays_rng y' m'
  unfold stSecs at he
  refine ⟨fun hd => ?_, by omega, by omega, by omega⟩
  by_cases c1 : y < y' ∨ y = y' ∧ m < m'
  · have := start_mono a3 a4 b3 b4 c1
    omega
  · by_cases c2 : y' < y ∨ y' = y ∧ m' < m
    · have := start_mono b3 b4 a3 a4 c2
      omega
    · have e1 : y = y' := by omega
      have e2 : m = m' := by omega
      subst e1 e2
      omega

/-! ### texts in order -/
def dvL : List Int → Int
  | [] => 0
  | c :: r => (c - 48) * ((10 ^ r.length : Nat) : Int) + dvL r
theorem dv_rng : ∀ {l : List Int}, (∀ x ∈ l, 48 ≤ x ∧ x ≤ 57) → 0 ≤ dvL l ∧ dvL l < ((10 ^ l.length : Nat) : Int)
  | [], _ => by simp [dvL]
  | c :: r, h => by
    obtain ⟨i1, i2⟩ := dv_rng (l := r) fun x hx => h x (by simp [hx])
    have hc := h c (by simp)
    have hp : ((10 ^ (c :: r).length : Nat) : Int) = 10 * ((10 ^ r.length : Nat) : Int) := by rw [List.length_cons, Nat.pow_succ]; omega
    rw [hp]
    simp only [dvL]
    generalize ((10 ^ r.length : Nat) : Int) = p at *
    have h1 : 0 ≤ (c - 48) * p := Int.mul_nonneg (by omega) (by omega)
    have h2 : (c - 48) * p ≤ 9 * p := Int.mul_le_mul_of_nonneg_right (by omega) (by omega)
    omega
theorem less_dv : ∀ {a b : List Int}, a.length = b.length → (∀ x ∈ a, 48 ≤ x ∧ x ≤ 57) → (∀ x ∈ b, 48 ≤ x ∧ x ≤ 57) → ∀ (e : List UInt8), dvL a < dvL b → Op.bytesLess ((a.map fun n => UInt8.ofNat n.toNat) ++ e) ((b.map fun n => UInt8.ofNat n.toNat) ++ e) = true
  | [], [], _, _, _, e, h => by simp [dvL] at h
  | [], _ :: _, hl, _, _, _, _ => by simp at hl
  | _ :: _, [], hl, _, _, _, _ => by simp at hl
  | a :: x, b :: y, hl, ha, hb, e, h => by
    have hl' : x.length = y.length := by simpa using hl
    have a1 := ha a (by simp)
    have b1 := hb b (by simp)
    obtain ⟨x1, x2⟩ := dv_rng (l := x) fun z hz => ha z (by simp [hz])
    obtain ⟨y1, y2⟩ := dv_rng (l := y) fun z hz => hb z (by simp [hz])
    simp only [List.map_cons, List.cons_append, Op.bytesLess, Bool.or_eq_true, Bool.and_eq_true, decide_eq_true_eq, beq_iff_eq]
    rcases Int.lt_trichotomy a b with hab | hab | hab
    · left
      rw [UInt8.lt_iff_toNat_lt, UInt8.toNat_ofNat', UInt8.toNat_ofNat']
      omega
    · right
      subst hab
      refine ⟨rfl, less_dv hl' (fun z hz => ha z (by simp [hz])) (fun z hz => hb z (by simp [hz])) e ?_⟩
      simp only [dvL, hl'] at h
      omega
    · exfalso
      simp only [dvL, hl'] at h
      rw [hl'] at x2
      generalize ((10 ^ y.length : Nat) : Int) = p at *
      have h1 : (b - 48 + 1) * p ≤ (a - 48) * p := Int.mul_le_mul_of_nonneg_right (by omega) (by omega)
      rw [Int.add_mul, Int.one_mul] at h1
      omega
theorem less_irrefl : ∀ l : List UInt8, Op.bytesLess l l = false
  | [] => rfl
  | a :: l => by simp [Op.bytesLess, less_irrefl l, UInt8.lt_irrefl]
theorem less_asymm : ∀ {a b : List UInt8}, Op.bytesLess a b = true → Op.bytesLess b a = false
  | [], [], h => by simp [Op.bytesLess] at h
  | _ :: _, [], h => by simp [Op.bytesLess] at h
  | [], _ :: _, h => by simp [Op.bytesLess]
  | a :: x, b :: y, h => by
    simp only [Op.bytesLess, Bool.or_eq_true, Bool.and_eq_true, decide_eq_true_eq, beq_iff_eq] at h
    simp only [Op.bytesLess, Bool.or_eq_false_iff, Bool.and_eq_false_iff, decide_eq_false_iff_not, beq_eq_false_iff_ne]
    rw [UInt8.lt_iff_toNat_lt] at h ⊢
    rcases h with h | ⟨rfl, h⟩
    · exact ⟨by omega, .inl fun e => by subst e; omega⟩
    · exact ⟨by omega, .inr (less_asymm h)⟩
theorem toList_strOf (l : List Int) : (strOf l).toList = l.map fun n => UInt8.ofNat n.toNat := by
  rw [ByteArray.toList_eq]
  simp [strOf]

def dl (y m d h i s : Int) : List Int := [48 + y / 100 / 10 % 10, 48 + y / 100 % 10, 48 + y / 10 % 10, 48 + y % 10, 48 + m / 10 % 10, 48 + m % 10, 48 + d / 10 % 10, 48 + d % 10, 48 + h / 10 % 10, 48 + h % 10, 48 + i / 10 % 10, 48 + i % 10, 48 + s / 10 % 10, 48 + s % 10]
theorem dl_rng {y m d h i s : Int} : ∀ x ∈ dl y m d h i s, 48 ≤ x ∧ x ≤ 57 := by
  intro x hx
  simp only [dl, List.mem_cons, List.not_mem_nil, or_false] at hx
  omega
theorem dl_val {y m d h i s : Int} (hf : stFit y m d h i s = true) : dvL (dl y m d h i s) = stVal y m d h i s := by
  obtain ⟨⟨a1, a2, a3, a4⟩, ⟨a5, a6⟩, a7, a8, a9, a10, a11, a12⟩ := stFit_spec hf
  have r1 := stDays_rng y m
  simp only [dl, dvL, List.length_cons, List.length_nil]
  unfold stVal
  have e1 : y / 100 / 10 % 10 * 1000 + y / 100 % 10 * 100 + y / 10 % 10 * 10 + y % 10 = y := by omega
  have e2 : m / 10 % 10 * 10 + m % 10 = m := by omega
  have e3 : d / 10 % 10 * 10 + d % 10 = d := by omega
  have e4 : h / 10 % 10 * 10 + h % 10 = h := by omega
  have e5 : i / 10 % 10 * 10 + i % 10 = i := by omega
  have e6 : s / 10 % 10 * 10 + s % 10 = s := by omega
  generalize y / 100 / 10 % 10 = q1 at *
  generalize y / 100 % 10 = q2 at *
  generalize y / 10 % 10 = q3 at *
  generalize y % 10 = q4 at *
  generalize m / 10 % 10 = q5 at *
  generalize m % 10 = q6 at *
  generalize d / 10 % 10 = q7 at *
  generalize d % 10 = q8 at *
  generalize h / 10 % 10 = q9 at *
  generalize h % 10 = q10 at *
  generalize i / 10 % 10 = q11 at *
  generalize i % 10 = q12 at *
  generalize s / 10 % 10 = q13 at *
  generalize s % 10 = q14 at *
  subst e1 e2 e3 e4 e5 e6
  simp only [Nat.zero_add, Nat.reduceAdd, Nat.reducePow, Int.cast_ofNat_Int]
  omega
theorem text_dl {t : Int} (h : stIn t = true) : ∃ y m d hh i s, stFit y m d hh i s = true ∧ stSecs y m d hh i s = t ∧ stText t = strOf (dl y m d hh i s ++ [90]) := stText_list h
theorem ext_strOf (l : List Int) (a b : Nat) : (strOf l).extract a b = strOf ((l.drop a).take (b - a)) := by
  apply ByteArray.ext
  rw [ByteArray.data_extract]
  apply Array.toList_inj.1
  rw [Array.toList_extract, List.extract_eq_take_drop]
  simp [strOf, List.map_take, List.map_drop]
theorem strOf_inj {a b : List Int} (ha : ∀ x ∈ a, 0 ≤ x ∧ x ≤ 255) (hb : ∀ x ∈ b, 0 ≤ x ∧ x ≤ 255) (h : strOf a = strOf b) : a = b := by
  rw [← bytes_strOf ha, ← bytes_strOf hb, h]
theorem text_less {t u : Int} (ht : stIn t = true) (hu : stIn u = true) : Op.bytesLess (stText t).toList (stText u).toList = decide (t < u) := by
  have key : ∀ {t u : Int}, stIn t = true → stIn u = true → t < u → Op.bytesLess (stText t).toList (stText u).toList = true := fun {t u} ht hu hlt => by
    obtain ⟨y, m, d, h, i, s, f1, s1, e1⟩ := text_dl ht
    obtain ⟨y', m', d', h', i', s', f2, s2, e2⟩ := text_dl hu
    rw [e1, e2, toList_strOf, toList_strOf, List.map_append, List.map_append]
    refine less_dv (a := dl y m d h i s) (b := dl y' m' d' h' i' s') rfl dl_rng dl_rng _ ?_
    rw [dl_val f1, dl_val f2]
    exact val_mono f1 f2 (by omega)
  rcases Int.lt_trichotomy t u with h | h | h
  · rw [key ht hu h, decide_eq_true h]
  · subst h
    rw [less_irrefl, decide_eq_false (by omega)]
  · rw [less_asymm (key hu ht h), decide_eq_false (by omega)]

theorem year_days (y : Int) (h : 1 ≤ y ∧ y ≤ 9999) : stMonth y 0 = 0 ∧ stMonth y 1 = 31 ∧ stMonth y 2 = (if stLeap y = true then 29 else 28) ∧ stMonth y 3 = 31 ∧ stMonth y 4 = 30 ∧ stMonth y 5 = 31 ∧ stMonth y 6 = 30 ∧ stMonth y 7 = 31 ∧ stMonth y 8 = 31 ∧ stMonth y 9 = 30 ∧ stMonth y 10 = 31 ∧ stMonth y 11 = 30 ∧ stMonth y 12 = 31 ∧ stMonth y 13 = 0 := by
  unfold stMonth stDays
  simp [h.1, h.2]

theorem months_fin (y : Int) (hy : 1 ≤ y ∧ y ≤ 9999) : (
  let r12 : Int := stMonth y 0
  let x13 : Int := IntKind.i64.wrap ((0 : Int) + r12)
  let r14 : Int := stMonth y 1
  let x15 : Int := IntKind.i64.wrap (x13 + r14)
  let r16 : Int := stMonth y 2
  let x17 : Int := IntKind.i64.wrap (x15 + r16)
  let r18 : Int := stMonth y 3
  let x19 : Int := IntKind.i64.wrap (x17 + r18)
  let r20 : Int := stMonth y 4
  let x21 : Int := IntKind.i64.wrap (x19 + r20)
  let r22 : Int := stMonth y 5
  let x23 : Int := IntKind.i64.wrap (x21 + r22)
  let r24 : Int := stMonth y 6
  let x25 : Int := IntKind.i64.wrap (x23 + r24)
  let r26 : Int := stMonth y 7
  let x27 : Int := IntKind.i64.wrap (x25 + r26)
  let r28 : Int := stMonth y 8
  let x29 : Int := IntKind.i64.wrap (x27 + r28)
  let r30 : Int := stMonth y 9
  let x31 : Int := IntKind.i64.wrap (x29 + r30)
  let r32 : Int := stMonth y 10
  let x33 : Int := IntKind.i64.wrap (x31 + r32)
  let r34 : Int := stMonth y 11
  let x35 : Int := IntKind.i64.wrap (x33 + r34)
  let r36 : Int := stMonth y 12
  let x37 : Int := IntKind.i64.wrap (x35 + r36)
  let r38 : Int := stMonth y 13
  let x39 : Int := IntKind.i64.wrap (x37 + r38)
  cond (decide (x39 = 365)) (
    let r40 : Int := stMonth y 2
    cond (((decide (x39 = 366)) == (decide (r40 = 29)))) (
      some (Out.ret [.cl (.bool true)] []))
    (
      some (Out.ret [.cl (.bool false)] [])))
  (
    cond (decide (x39 = 366)) (
      let r41 : Int := stMonth y 2
      cond (((decide (x39 = 366)) == (decide (r41 = 29)))) (
        some (Out.ret [.cl (.bool true)] []))
      (
        some (Out.ret [.cl (.bool false)] [])))
    (
      some (Out.ret [.cl (.bool false)] []))) : Option Out) = some (.ret [.cl (.bool true)] []) := by
  obtain ⟨m0, m1, m2, m3, m4, m5, m6, m7, m8, m9, m10, m11, m12, m13⟩ := year_days y hy
  have lp : stMonth y 2 = 28 ∨ stMonth y 2 = 29 := by rw [m2]; split <;> omega
  rcases lp with l | l
  · rw [m0, m1, l, m3, m4, m5, m6, m7, m8, m9, m10, m11, m12, m13]; first | rfl | (exact Eq.refl (some (Out.ret [.cl (.bool true)] []))) | (show (_ : Option Out) = _; kernel_rfl)
  · rw [m0, m1, l, m3, m4, m5, m6, m7, m8, m9, m10, m11, m12, m13]; first | rfl | (exact Eq.refl (some (Out.ret [.cl (.bool true)] []))) | (show (_ : Option Out) = _; kernel_rfl)

theorem nSOrder (t u year : Int) (hp : (stI64 t && stI64 u && decide (0 ≤ year ∧ year ≤ 65535)) = true) : gSOrder t u year = some (.ret [.cl (.bool true)] []) := by
  simp only [Bool.and_eq_true, decide_eq_true_eq] at hp
  obtain ⟨⟨p1, p2⟩, p3⟩ := hp
  unfold gSOrder
  refine c_split (fun h => rfl) fun h1 => c_split (fun h => rfl) fun h2 => c_split (fun h => rfl) fun h3 => c_split (fun h => rfl) fun h4 => b_pos p1 (b_pos p2 ?_)
  have e3 : IntKind.i64.wrap (t + 86400) = t + 86400 := i64_in _ (by omega)
  have it : stIn t = true := by unfold stIn; simp only [decide_eq_true_eq]; omega
  have iu : stIn u = true := by unfold stIn; simp only [decide_eq_true_eq]; omega
  have iv : stIn (t + 86400) = true := by unfold stIn; simp only [decide_eq_true_eq]; omega
  obtain ⟨y, m, d, h, i, s, f1, s1, q1⟩ := text_dl it
  obtain ⟨y', m', d', h', i', s', f2, s2, q2⟩ := text_dl iv
  obtain ⟨k1, k2, k3, k4⟩ := day_later f1 f2 (by omega)
  subst k2 k3 k4
  have z : ∀ {v}, stIn v = true → (stText v).size = 15 := fun hv => by
    obtain ⟨y, m, d, h, i, s, _, _, q⟩ := text_dl hv
    rw [q, strOf_size]; rfl
  have less := text_less it iu
  have z1 := z it
  extract_lets r2 x3 r4 s5 s6 s7 s8 x9 x10 x11 r12 x13 r14 x15 r16 x17 r18 x19 r20 x21 r22 x23 r24 x25 r26 x27 r28 x29 r30 x31 r32 x33 r34 x35 r36 x37 r38 x39
  have e3 : x3 = t + 86400 := e3
  have z2 : r2.size = 15 := z iu
  have e4 : r4 = stText (t + 86400) := by show stText x3 = _; rw [e3]
  have z4 : r4.size = 15 := by rw [e4]; exact z iv
  have e5 : s5 = s6 := by
    show (stText t).extract 8 (stText t).size = r4.extract 8 r4.size
    rw [z1, z4, e4, q2, q1, ext_strOf, ext_strOf]
    rfl
  have e7 : ¬ s7 = s8 := fun e => by
    have e : (stText t).extract 6 8 = r4.extract 6 8 := e
    rw [e4, q2, q1, ext_strOf, ext_strOf] at e
    have e : strOf [48 + d / 10 % 10, 48 + d % 10] = strOf [48 + d' / 10 % 10, 48 + d' % 10] := e
    have rg : ∀ n : Int, ∀ x ∈ [48 + n / 10 % 10, 48 + n % 10], (0 : Int) ≤ x ∧ x ≤ 255 := fun n x hx => by
      simp only [List.mem_cons, List.not_mem_nil, or_false] at hx
      omega
    have e := strOf_inj (rg d) (rg d') e
    simp only [List.cons.injEq, and_true] at e
    obtain ⟨⟨a1, a2, a3, a4⟩, ⟨a5, a6⟩, _⟩ := stFit_spec f1
    obtain ⟨⟨b1, b2, b3, b4⟩, ⟨b5, b6⟩, _⟩ := stFit_spec f2
    have := stDays_rng y m
    have := stDays_rng y' m'
    omega
  have e9 : x9 = year % 9999 := rem_in _ _ (by omega)
  have e10 : x10 = year % 9999 := (i64_in x9 (by omega)).trans e9
  have e11 : x11 = 1 + year % 9999 := (i64_in (1 + x10) (by omega)).trans (by rw [e10])
  have hy : 1 ≤ x11 ∧ x11 ≤ 9999 := by omega
  refine b_pos (by rw [e3]; unfold stI64; simp only [decide_eq_true_eq]; omega) (c_nneg (by omega) (c_nneg (by omega) (c_nneg (by omega) (b_neg (by rw [show Op.bytesLess (stText t).toList r2.toList = decide (t < u) from less]; simp) (c_pos (by omega) (c_pos (by omega) (b_neg (by rw [e5]; simp) (c_pos (by omega) (c_pos (by omega) (b_neg ?_ ?_))))))))))
  · rw [beq_eq_false_iff_ne]
    intro e
    apply e7
    apply ByteArray.ext
    rw [ByteArray.toList_eq, ByteArray.toList_eq] at e
    exact Array.toList_inj.1 e
  · exact months_fin x11 hy
end Go.Proofs.YtpdkenjphnlbdaaA
