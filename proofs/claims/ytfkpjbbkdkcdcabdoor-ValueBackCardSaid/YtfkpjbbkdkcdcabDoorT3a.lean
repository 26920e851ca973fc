/-
 What the layers below come to (their lemmas, as far as this seat needs them). Conditions: each function's own.
-/
import Derived.Test.YtfkpjbbkdkcdcabDoorT2a
import Derived.Test.YtfkpjbbkdkcdcabDoorT2b
import Derived.Test.YtfkpjbbkdkcdcabDoorK3
import Derived.IntWalk
set_option linter.unusedVariables false
set_option linter.unusedSimpArgs false
set_option maxRecDepth 100000
namespace Go.Proofs.YtfkpjbbkdkcdcabDoorA

theorem stYears_step (y : Int) : stYears (y + 1) = stYears y + 365 + (if stLeap y = true then 1 else 0) := by
 unfold stYears stLeap
 simp only [decide_eq_true_eq]
 split <;> omega
theorem stDays_rng (y m : Int) : 28 <= stDays y m /\ stDays y m <= 31 := by
 unfold stDays
 split
 ·split <;> omega
 ·split <;> omega
/-- 400 years, from a first of March on -/
theorem st_era (doe : Int) (h0 : 0 <= doe) (h1 : doe <= 146096) : ∃ Q P Y w : Int, 0 <= Q /\ Q <= 3 /\ 0 <= P /\ P <= 24 /\ 0 <= Y /\ Y <= 3 /\ 0 <= w /\ w <= 365 /\ doe = 36524 * Q + 1461 * P + 365 * Y + w /\ (w = 365 -> Y = 3 /\ (P ≠ 24 \/ Q = 3)) /\
  (doe - doe / 1460 + doe / 36524 - doe / 146096) / 365 = 100 * Q + 4 * P + Y := by
 obtain ⟨Q, hQ⟩ : ∃ Q, Q = if doe = 146096 then 3 else doe / 36524 := ⟨_, rfl⟩
 have hQ' : (Q = 0 \/ Q = 1 \/ Q = 2 \/ Q = 3) /\ 0 <= doe - 36524 * Q /\ (doe - 36524 * Q <= 36523 \/ Q = 3 /\ doe - 36524 * Q = 36524) := by split at hQ <;> omega
 obtain ⟨r, hr⟩ : ∃ r, r = doe - 36524 * Q := ⟨_, rfl⟩
 obtain ⟨P, hP⟩ : ∃ P, P = r / 1461 := ⟨_, rfl⟩
 obtain ⟨s, hs⟩ : ∃ s, s = r - 1461 * P := ⟨_, rfl⟩
 obtain ⟨Y, hY⟩ : ∃ Y, Y = if s = 1460 then 3 else s / 365 := ⟨_, rfl⟩
 have hs2 : 0 <= s /\ s <= 1460 /\ 0 <= P /\ P <= 24 := by omega
 have hY' : (Y = 0 \/ Y = 1 \/ Y = 2 \/ Y = 3) /\ 0 <= s - 365 * Y /\ (s - 365 * Y <= 364 \/ Y = 3 /\ s - 365 * Y = 365) := by split at hY <;> omega
 clear hQ hY
 obtain ⟨w, hw⟩ : ∃ w, w = s - 365 * Y := ⟨_, rfl⟩
 have hd : doe = 36524 * Q + 1461 * P + 365 * Y + w := by omega
 have hw2 : 0 <= w /\ w <= 365 /\ (w = 365 -> Y = 3 /\ (P ≠ 24 \/ Q = 3)) := by omega
 obtain ⟨hQ1, hQ2, hQ3⟩ := hQ'
 obtain ⟨hY1, hY2, hY3⟩ := hY'
 obtain ⟨_, _, hP1, hP2⟩ := hs2
 clear hQ2 hQ3 hY2 hY3 hw hs hP hr
 refine ⟨Q, P, Y, w, by omega, by omega, hP1, hP2, by omega, by omega, hw2.1, hw2.2.1, hd, hw2.2.2, ?_⟩
 obtain ⟨w1, w2, w3⟩ := hw2
 have ha : doe / 1460 = 25 * Q + P + (24 * Q + P + 365 * Y + w) / 1460 := by rw [hd]; omega
 have hb : doe / 36524 = Q + (1461 * P + 365 * Y + w) / 36524 := by rw [hd]; omega
 have hc : doe / 146096 = (1461 * P + 365 * Y + w + 36524 * Q) / 146096 := by rw [hd]; congr 1; omega
 rw [ha, hb, hc]
 have h5 : (24 * Q + P + 365 * Y + w) / 1460 = 0 \/ (24 * Q + P + 365 * Y + w) / 1460 = 1 := by omega
 have h6 : (1461 * P + 365 * Y + w) / 36524 = (1461 * P + 365 * Y + w + 36524 * Q) / 146096 := by
  rcases hQ1 with h | h | h | h <;> subst h <;> omega
 rw [h6, hd]
 generalize (1461 * P + 365 * Y + w + 36524 * Q) / 146096 = c
 rcases h5 with h5 | h5 <;> rw [h5] <;> omega

theorem st_cycle {Q P Y era y : Int} (q1 : 0 <= Q) (q2 : Q <= 3) (q3 : 0 <= P) (q4 : P <= 24) (q5 : 0 <= Y) (q6 : Y <= 3) (hy : y = 100 * Q + 4 * P + Y + era * 400) : y / 4 = 25 * Q + P + era * 100 /\ y / 100 = Q + era * 4 /\ y / 400 = era := by
 subst hy
 refine ⟨by omega, by omega, by omega⟩
theorem st_hms {s : Int} (h0 : 0 <= s) (h1 : s < 86400) : 0 <= s / 3600 /\ s / 3600 < 24 /\ 0 <= s / 60 % 60 /\ s / 60 % 60 < 60 /\ 0 <= s % 60 /\ s % 60 < 60 /\ s / 3600 * 3600 + s / 60 % 60 * 60 + s % 60 = s := by omega
theorem st_leap_w {Q P Y era w y : Int} (q1 : 0 <= Q) (q2 : Q <= 3) (q3 : 0 <= P) (q4 : P <= 24) (hw : w = 365) (q : w = 365 -> Y = 3 /\ (P ≠ 24 \/ Q = 3)) (hy : y = 100 * Q + 4 * P + Y + era * 400) : stLeap (y + 1) = true := by
 obtain ⟨h1, h2⟩ := q hw
 subst hy h1
 unfold stLeap
 simp only [decide_eq_true_eq]
 refine ⟨by omega, ?_⟩
 rcases h2 with h2 | h2
 ·left; omega
 ·subst h2
  by_cases hp : P = 24
  ·right; omega
  ·left; omega

theorem st_mon {w mp d : Int} (y : Int) (h0 : 0 <= w) (hmp : mp = (5 * w + 2) / 153) (hd : d = w - (153 * mp + 2) / 5 + 1) (hc : mp <= 9) : 0 <= mp /\ 1 <= d /\ d <= stDays y (mp + 3) := by
 have h1 : 0 <= mp := by omega
 have hm2 : mp = 0 \/ mp = 1 \/ mp = 2 \/ mp = 3 \/ mp = 4 \/ mp = 5 \/ mp = 6 \/ mp = 7 \/ mp = 8 \/ mp = 9 := by omega
 unfold stDays
 rw [if_neg (by omega)]
 refine ⟨h1, by omega, ?_⟩
 rcases hm2 with h | h | h | h | h | h | h | h | h | h <;> subst h
 ·rw [if_neg (by omega)]; omega
 ·rw [if_pos (by omega)]; omega
 ·rw [if_neg (by omega)]; omega
 ·rw [if_pos (by omega)]; omega
 ·rw [if_neg (by omega)]; omega
 ·rw [if_neg (by omega)]; omega
 ·rw [if_pos (by omega)]; omega
 ·rw [if_neg (by omega)]; omega
 ·rw [if_pos (by omega)]; omega
 ·rw [if_neg (by omega)]; omega

/-- a time's date is fit, and has that time -/
theorem stDated_ok {t : Int} (h : stIn t = true) : stFit (stDated t).d0 (stDated t).d1 (stDated t).d2 (stDated t).d3 (stDated t).d4 (stDated t).d5 = true /\ stSecs (stDated t).d0 (stDated t).d1 (stDated t).d2 (stDated t).d3 (stDated t).d4 (stDated t).d5 = t := by
 unfold stIn at h
 simp only [decide_eq_true_eq] at h
 obtain ⟨n, hn⟩ : ∃ n, n = (t + 62135596800) / 86400 := ⟨_, rfl⟩
 obtain ⟨s, hs⟩ : ∃ s, s = (t + 62135596800) % 86400 := ⟨_, rfl⟩
 have hns : 0 <= n /\ n <= 3652058 /\ t + 62135596800 = 86400 * n + s /\ 0 <= s /\ s < 86400 := by omega
 obtain ⟨doe, hdoe⟩ : ∃ d, d = (n + 306) % 146097 := ⟨_, rfl⟩
 obtain ⟨era, hera⟩ : ∃ e, e = (n + 306) / 146097 := ⟨_, rfl⟩
 have hz : 0 <= doe /\ doe <= 146096 /\ n + 306 = 146097 * era + doe /\ 0 <= era /\ era <= 24 := by clear hn hs h; omega
 obtain ⟨Q, P, Y, w, q1, q2, q3, q4, q5, q6, q7, q8, q9, q10, q11⟩ := st_era doe hz.1 hz.2.1
 obtain ⟨y, hy⟩ : ∃ y, y = 100 * Q + 4 * P + Y + era * 400 := ⟨_, rfl⟩
 obtain ⟨c1, c2, c3⟩ := st_cycle q1 q2 q3 q4 q5 q6 hy
 obtain ⟨e1, e2, e3⟩ := st_cycle (era := 0) (y := 100 * Q + 4 * P + Y) q1 q2 q3 q4 q5 q6 (by simp)
 obtain ⟨mp, hmp⟩ : ∃ m, m = (5 * w + 2) / 153 := ⟨_, rfl⟩
 obtain ⟨d, hd⟩ : ∃ d, d = w - (153 * mp + 2) / 5 + 1 := ⟨_, rfl⟩
 have hdoy : doe - (365 * (100 * Q + 4 * P + Y) + (100 * Q + 4 * P + Y) / 4 - (100 * Q + 4 * P + Y) / 100) = w := by rw [e1, e2]; clear e3 q11 hdoe hera hn hs h c1 c2 c3 e1 e2 hmp hd hy q10 hns; omega
 have hD : stDated t = if 9 < mp then ⟨y + 1, mp - 9, d, s / 3600, s / 60 % 60, s % 60⟩ else ⟨y, mp + 3, d, s / 3600, s / 60 % 60, s % 60⟩ := by
  unfold stDated
  simp only [<- hn, <- hs, <- hdoe, <- hera, q11, hdoy, <- hmp, <- hd, <- hy]
 rw [hD]
 have hday : stYears (y + 1) = y * 365 + y / 4 - y / 100 + y / 400 := by
  unfold stYears
  rw [show y + 1 - 1 = y by omega]
 rw [c1, c2, c3] at hday
 have hst := stYears_step y
 obtain ⟨m1, m2, m3, m4, m5, m6, m7⟩ := st_hms hns.2.2.2.1 hns.2.2.2.2
 have hw365 : w = 365 -> stLeap (y + 1) = true := fun e => st_leap_w q1 q2 q3 q4 e q10 hy
 clear hn hs hdoe hera q11 e1 e2 e3 hdoy c1 c2 c3 q10 hD
 have hyr : 0 <= y /\ n + 306 = y * 365 + (25 * Q + P + era * 100) - (Q + era * 4) + era + w := by
  clear hw365 m1 m2 m3 m4 m5 m6 m7 hst hday hd hmp h
  omega
 by_cases hc : 9 < mp
 ·rw [if_pos hc]
  have hm2 : mp = 10 \/ mp = 11 := by omega
  have hyy : 0 <= y /\ y <= 9998 := by omega
  refine ⟨?_, ?_⟩
  ·unfold stFit stDays
   simp only [decide_eq_true_eq]
   refine ⟨⟨by omega, by omega, by omega, by omega⟩, ⟨by omega, ?_⟩, m1, m2, m3, m4, m5, m6⟩
   rcases hm2 with h | h <;> subst h
   ·rw [if_neg (by omega), if_neg (by omega)]; omega
   ·rw [if_pos (by omega)]
    by_cases hw : w = 365
    ·rw [if_pos (hw365 hw)]; omega
    ·split <;> omega
  ·unfold stSecs stAhead
   show -62135596800 + (stYears (y + 1) + (if mp - 9 <= 2 then 31 * (mp - 9 - 1) else _) + (d - 1)) * 86400 + (s / 3600 * 3600 + s / 60 % 60 * 60 + s % 60) = t
   rw [m7, if_pos (by omega)]
   have : stYears (y + 1) + 31 * (mp - 9 - 1) + (d - 1) = n := by
    rw [hday]
    rcases hm2 with h | h <;> subst h <;> omega
   rw [this]; omega
 ·rw [if_neg hc]
  obtain ⟨n1, n2, n3⟩ := st_mon y q7 hmp hd (by omega)
  have hw305 : w <= 305 := by clear hyr hst hday m1 m2 m3 m4 m5 m6 m7 h hns hz; omega
  have hyy : 1 <= y /\ y <= 9999 := by clear hst hday m1 m2 m3 m4 m5 m6 m7 h n1 n2 n3 hd hmp; omega
  refine ⟨?_, ?_⟩
  ·unfold stFit
   simp only [decide_eq_true_eq]
   exact ⟨⟨hyy.1, hyy.2, by clear hyr hst hday h hns hz; omega, by clear hyr hst hday h hns hz; omega⟩, ⟨n2, n3⟩, m1, m2, m3, m4, m5, m6⟩
  ·unfold stSecs stAhead
   show -62135596800 + (stYears y + (if mp + 3 <= 2 then _ else (153 * (mp + 3 - 3) + 2) / 5 + 59 + (if stLeap y = true then 1 else 0)) + (d - 1)) * 86400 + (s / 3600 * 3600 + s / 60 % 60 * 60 + s % 60) = t
   rw [m7, if_neg (by clear hyr hst hday h hns hz; omega), show mp + 3 - 3 = mp by clear hyr hst hday h hns hz; omega]
   have : stYears y + ((153 * mp + 2) / 5 + 59 + (if stLeap y = true then 1 else 0)) + (d - 1) = n := by
    rw [hday] at hst
    have hyr := hyr.2
    clear m1 m2 m3 m4 m5 m6 m7 h hns hz hmp n1 n2 n3 q1 q2 q3 q4 q5 q6 q7 q8 q9 hw365 hyy hday hy
    generalize (if stLeap y = true then 1 else 0 : Int) = lp at *
    generalize stYears y = sy at *
    generalize (153 * mp + 2) / 5 = k at *
    omega
   rw [this]
   clear hyr hst hday m1 m2 m3 m4 m5 m6 m7 h hmp hd n1 n2 n3
   omega

end Go.Proofs.YtfkpjbbkdkcdcabDoorA

namespace Go.Proofs.YtfkpjbbkdkcdcabDoorA
open IntWalk (i64_in u8_in u32_in u64_in i64_quo u8_quo rem_in)

theorem nDigits (s : ByteArray) (hp : decide (2 <= s.size) = true) : gDigits s = some (.ret [.cl (.int .i64 (stDigits s))] []) := by
 simp only [decide_eq_true_eq] at hp
 unfold gDigits stDigits stDig
 have r0 := bget_rng s 0
 have r1 := bget_rng s 1
 refine c_pos (by omega) ?_
 extract_lets x1 x2 x3 x4 x5 x6 x7 x8
 have e2 : x2 = bget s 0 := i64_in _ (by omega)
 have e3 : x3 = bget s 0 - 48 := by show IntKind.i64.wrap (x2 - 48) = _; rw [e2]; exact i64_in _ (by omega)
 refine c_pos (by omega) ?_
 have e5 : x5 = bget s 1 := i64_in _ (by omega)
 have e6 : x6 = bget s 1 - 48 := by show IntKind.i64.wrap (x5 - 48) = _; rw [e5]; exact i64_in _ (by omega)
 refine c_split (fun h => ?_) fun h1 => c_split (fun h => ?_) fun h2 => c_split (fun h => ?_) fun h3 => c_split (fun h => ?_) fun h4 => ?_
 ·rw [if_pos (by omega)]
 ·rw [if_pos (by omega)]
 ·rw [if_pos (by omega)]
 ·rw [if_pos (by omega)]
 ·rw [if_neg (by omega)]
  have e7 : x7 = 10 * x3 := i64_in _ (by omega)
  have e8 : x8 = 10 * x3 + x6 := by show IntKind.i64.wrap (x7 + x6) = _; rw [e7]; exact i64_in _ (by omega)
  exact ret_int (by rw [e8, e3, e6])

theorem nDLeap (d0 d1 d2 d3 d4 d5 : Int) (hp : stOk d0 = true) : gDLeap d0 d1 d2 d3 d4 d5 = some (.ret [.cl (.bool (stLeap d0))] []) := by
 simp only [stOk, decide_eq_true_eq] at hp
 unfold gDLeap stLeap
 rw [rem_in d0 4 (by omega), rem_in d0 100 (by omega), rem_in d0 400 (by omega)]
 refine c_split (fun h => c_nsplit (fun h2 => ?_) fun h2 => ?_) fun h => ?_
 ·exact ret_bool (by symm; rw [decide_eq_true_eq]; exact ⟨h, .inl h2⟩)
 ·refine ret_bool (by rw [Bool.eq_iff_iff]; simp only [decide_eq_true_eq]; omega)
 ·exact ret_bool (by symm; rw [decide_eq_false_iff_not]; exact fun h' => h h'.1)
theorem nDDays (d0 d1 d2 d3 d4 d5 : Int) (hp : stOk d0 = true) : gDDays d0 d1 d2 d3 d4 d5 = some (.ret [.cl (.int .i64 (stDays d0 d1))] []) := by
 unfold gDDays stDays
 refine c_split (fun h => b_pos hp (b_split (fun h2 => ?_) fun h2 => ?_)) fun h => c_split (fun h2 => ?_) fun h2 => c_split (fun h3 => ?_) fun h3 => c_split (fun h4 => ?_) fun h4 => c_split (fun h5 => ?_) fun h5 => ?_
 ·rw [if_pos h, if_pos h2]
 ·rw [if_pos h, if_neg (by rw [h2]; simp)]
 all_goals first | rw [if_neg h, if_pos (by omega)] | rw [if_neg h, if_neg (by omega)]
theorem nDFit (d0 d1 d2 d3 d4 d5 : Int) (hp : true = true) : gDFit d0 d1 d2 d3 d4 d5 = some (.ret [.cl (.bool (stFit d0 d1 d2 d3 d4 d5))] []) := by
 unfold gDFit stFit
 have no : ∀ {p : Prop} [Decidable p], ¬ p -> some (Out.ret [.cl (.bool false)] []) = some (Out.ret [.cl (.bool (decide p))] []) := fun h => ret_bool (by symm; rw [decide_eq_false_iff_not]; exact h)
 refine c_split (fun h => no (by omega)) fun h1 => c_split (fun h => no (by omega)) fun h2 => c_split (fun h => no (by omega)) fun h3 => c_split (fun h => no (by omega)) fun h4 => c_split (fun h => no (by omega)) fun h5 => b_pos (by simp only [stOk, decide_eq_true_eq]; omega) (c_split (fun h => no (by omega)) fun h6 =>
  c_split (fun g1 => c_split (fun g2 => c_split (fun g3 => c_split (fun g4 => c_split (fun g5 => ?_) fun h => no (by omega)) fun h => no (by omega)) fun h => no (by omega)) fun h => no (by omega)) fun h => no (by omega))
 refine ret_bool ?_
 rw [Bool.eq_iff_iff]
 simp only [decide_eq_true_eq]
 omega
theorem stFit_spec {y m d h i s : Int} (hp : stFit y m d h i s = true) : (1 <= y /\ y <= 9999 /\ 1 <= m /\ m <= 12) /\ (1 <= d /\ d <= stDays y m) /\ 0 <= h /\ h < 24 /\ 0 <= i /\ i < 60 /\ 0 <= s /\ s < 60 := by
 unfold stFit at hp
 simpa only [decide_eq_true_eq] using hp
end Go.Proofs.YtfkpjbbkdkcdcabDoorA

namespace Go.Proofs.YtfkpjbbkdkcdcabDoorA
open IntWalk (i64_in u8_in u32_in u64_in i64_quo u8_quo rem_in)

theorem nPut_0 (n : Int) (hp : true = true) : gPut_0 n = some (.ret [.ref 0 0 (stTwo n).length true 1] [some ⟨.ints .u8 (stTwo n), false⟩]) := rfl
theorem nPut_1 (len : Nat) (n : Int) (l : List Int) (hp : decide (l.length < 1000) = true) : gPut_1 len n l = some (.ret [.ref 1 0 (l ++ stTwo n).length true 1] [none, some ⟨.ints .u8 (l ++ stTwo n), false⟩]) := by
 simp only [decide_eq_true_eq] at hp
 have hl : (l ++ stTwo n).length <= 1002 := by rw [List.length_append]; show l.length + 2 <= 1002; omega
 unfold gPut_1
 exact lim_in (show (l ++ stTwo n).length * 1 <= 1099511627776 by omega) (lim_in (show (l ++ stTwo n).length <= 1099511627776 by omega) rfl)

theorem nDSecs (d0 d1 d2 d3 d4 d5 : Int) (hp : stFit d0 d1 d2 d3 d4 d5 = true) : gDSecs d0 d1 d2 d3 d4 d5 = some (.ret [.cl (.int .i64 (stSecs d0 d1 d2 d3 d4 d5))] []) := by
 obtain ⟨⟨a1, a2, a3, a4⟩, ⟨a5, a6⟩, a7, a8, a9, a10, a11, a12⟩ := stFit_spec hp
 have a6' : d2 <= 31 := by have := stDays_rng d0 d1; omega
 clear a6 hp
 have hs := stYears_step d0
 unfold gDSecs
 have hy0 : stYears d0 = (d0 - 1) * 365 + (d0 - 1) / 4 - (d0 - 1) / 100 + (d0 - 1) / 400 := rfl
 have hy1 : stYears (d0 + 1) = d0 * 365 + d0 / 4 - d0 / 100 + d0 / 400 := by unfold stYears; rw [show d0 + 1 - 1 = d0 by omega]
 rw [hy1] at hs
 extract_lets x1 x2 x3 x4 x5 x6 x7 x8 x9 x10 x11 x12 x13 x14 x15 x16 x17 x18 x19 x20 x21 x22 x23 x24 x25 x26 x27 x28 x29 x30 x31 x32 x33 x34 x35 x36 x37 x38 x39 x40 x41 x42 x43
 have e1 : x1 = d1 - 3 := i64_in _ (by omega)
 refine c_split (fun h => ret_int ?_) fun h => ret_int ?_
 ·have e2 : x2 = d0 - 1 := i64_in _ (by omega)
  have e3 : x3 = d1 + 9 := (i64_in (x1 + 12) (by omega)).trans (by omega)
  have e4 : x4 = x2 / 400 := i64_quo _ _ (by omega)
  have e5 : x5 = x2 % 400 := rem_in _ _ (by omega)
  clear_value x1 x2 x3 x4 x5
  have r4 : 0 <= x4 /\ x4 <= 24 /\ x2 = 400 * x4 + x5 /\ 0 <= x5 /\ x5 <= 399 := by clear hs hy0 hy1; omega
  have c4 : (d0 - 1) / 4 = 100 * x4 + x5 / 4 /\ (d0 - 1) / 100 = 4 * x4 + x5 / 100 /\ (d0 - 1) / 400 = x4 := by clear hs hy0 hy1; omega
  have e6 : x6 = 153 * x3 := i64_in _ (by omega)
  have e7 : x7 = 153 * x3 + 2 := (i64_in (x6 + 2) (by omega)).trans (by omega)
  have e8 : x8 = (153 * x3 + 2) / 5 := (i64_quo x7 5 (by omega)).trans (by rw [e7])
  clear_value x6 x7 x8
  have r8 : 306 <= x8 /\ x8 <= 337 /\ x8 = 306 + 31 * (d1 - 1) := by clear hs hy0 hy1 r4 c4 e4 e5; omega
  clear e4 e5 e6 e7 e8 hs hy1
  have e9 : x9 = x8 + d2 := i64_in _ (by omega)
  have e10 : x10 = x8 + d2 - 1 := (i64_in (x9 - 1) (by omega)).trans (by omega)
  have e11 : x11 = x4 * 146097 := i64_in _ (by omega)
  have e12 : x12 = x5 * 365 := i64_in _ (by omega)
  have e13 : x13 = x11 + x12 := i64_in _ (by omega)
  have e14 : x14 = x5 / 4 := i64_quo _ _ (by omega)
  have e15 : x15 = x13 + x14 := i64_in _ (by omega)
  have e16 : x16 = x5 / 100 := i64_quo _ _ (by omega)
  have e17 : x17 = x15 - x16 := i64_in _ (by omega)
  have e18 : x18 = x17 + x10 := i64_in _ (by omega)
  have e19 : x19 = x18 - 719468 := i64_in _ (by omega)
  have e20 : x20 = x19 * 86400 := i64_in _ (by omega)
  have e21 : x21 = d3 * 3600 := i64_in _ (by omega)
  have e22 : x22 = d4 * 60 := i64_in _ (by omega)
  have e23 : x23 = x21 + x22 := i64_in _ (by omega)
  have e24 : x24 = x23 + d5 := i64_in _ (by omega)
  have e25 : x25 = x20 + x24 := i64_in _ (by omega)
  have hm : stAhead d0 d1 = 31 * (d1 - 1) := by unfold stAhead; rw [if_pos (by omega)]
  have hday : stYears d0 + stAhead d0 d1 + (d2 - 1) = x19 + 719162 := by
   rw [hy0, hm, c4.1, c4.2.1, c4.2.2, e19, e18, e17, e15, e13, e11, e12, e14, e16, e10]
   omega
  unfold stSecs
  rw [hday, e25, e20, e24, e23, e21, e22]
  omega
 ·have e26 : x26 = d0 / 400 := i64_quo _ _ (by omega)
  have e27 : x27 = d0 % 400 := rem_in _ _ (by omega)
  clear_value x1 x26 x27
  have r4 : 0 <= x26 /\ x26 <= 24 /\ d0 = 400 * x26 + x27 /\ 0 <= x27 /\ x27 <= 399 := by clear hs hy0 hy1; omega
  have c4 : d0 / 4 = 100 * x26 + x27 / 4 /\ d0 / 100 = 4 * x26 + x27 / 100 /\ d0 / 400 = x26 := by clear hs hy0 hy1; omega
  have e28 : x28 = 153 * x1 := i64_in _ (by omega)
  have e29 : x29 = 153 * x1 + 2 := (i64_in (x28 + 2) (by omega)).trans (by omega)
  have e30 : x30 = (153 * x1 + 2) / 5 := (i64_quo x29 5 (by omega)).trans (by rw [e29])
  clear_value x28 x29 x30
  have r8 : 0 <= x30 /\ x30 <= 337 := by clear hs hy0 hy1 r4 c4; omega
  have hm : stAhead d0 d1 = x30 + 59 + (if stLeap d0 = true then 1 else 0) := by unfold stAhead; rw [if_neg (by omega), <- e1, e30]
  clear e26 e27 e28 e29 e30 hy0 hy1
  have e31 : x31 = x30 + d2 := i64_in _ (by omega)
  have e32 : x32 = x30 + d2 - 1 := (i64_in (x31 - 1) (by omega)).trans (by omega)
  have e33 : x33 = x26 * 146097 := i64_in _ (by omega)
  have e34 : x34 = x27 * 365 := i64_in _ (by omega)
  have e35 : x35 = x33 + x34 := i64_in _ (by omega)
  have e36 : x36 = x27 / 4 := i64_quo _ _ (by omega)
  have e37 : x37 = x35 + x36 := i64_in _ (by omega)
  have e38 : x38 = x27 / 100 := i64_quo _ _ (by omega)
  have e39 : x39 = x37 - x38 := i64_in _ (by omega)
  have e40 : x40 = x39 + x32 := i64_in _ (by omega)
  have e41 : x41 = x40 - 719468 := i64_in _ (by omega)
  have e42 : x42 = x41 * 86400 := i64_in _ (by omega)
  have e21 : x21 = d3 * 3600 := i64_in _ (by omega)
  have e22 : x22 = d4 * 60 := i64_in _ (by omega)
  have e23 : x23 = x21 + x22 := i64_in _ (by omega)
  have e24 : x24 = x23 + d5 := i64_in _ (by omega)
  have e43 : x43 = x42 + x24 := i64_in _ (by omega)
  have hday : stYears d0 + stAhead d0 d1 + (d2 - 1) = x41 + 719162 := by
   rw [hm]
   generalize (if stLeap d0 = true then 1 else 0 : Int) = lp at *
   rw [c4.1, c4.2.1, c4.2.2] at hs
   rw [e41, e40, e39, e37, e35, e33, e34, e36, e38, e32]
   omega
  unfold stSecs
  rw [hday, e43, e42, e24, e23, e21, e22]
  omega
end Go.Proofs.YtfkpjbbkdkcdcabDoorA

namespace Go.Proofs.YtfkpjbbkdkcdcabDoorA
open IntWalk (i64_in u8_in u32_in u64_in i64_quo u8_quo rem_in)

theorem nDated (t : Int) (hp : stIn t = true) : gDated t = some (.ret [.cl (.aggi 6 .i64 [(stDated t).d0, (stDated t).d1, (stDated t).d2, (stDated t).d3, (stDated t).d4, (stDated t).d5])] []) := by
 simp only [stIn, decide_eq_true_eq] at hp
 unfold gDated
 extract_lets x1 x2 x4 x5 x6 x7 x8 x9 x10 x11 x12 x13 x14 x15 x16 x17 x18 x19 x20 x21 x22 x23 x24 x25 x26 x27 x28 x29 x30 x31 x32 x33 x34 x35 x36 x37
 have e1 : x1 = t + 62135596800 := (i64_in (t - (-62135596800)) (by omega)).trans (by omega)
 have e2 : x2 = (t + 62135596800) / 86400 := (i64_quo x1 86400 (by omega)).trans (by rw [e1])
 have e4 : x4 = (t + 62135596800) % 86400 := (rem_in x1 86400 (by omega)).trans (by rw [e1])
 clear_value x1 x2 x4
 have r2 : 0 <= x2 /\ x2 <= 3652058 /\ 0 <= x4 /\ x4 < 86400 := by omega
 have e5 : x5 = (t + 62135596800) / 86400 + 306 := (i64_in (x2 + 306) (by omega)).trans (by rw [e2])
 have e6 : x6 = ((t + 62135596800) / 86400 + 306) / 146097 := (i64_quo x5 146097 (by omega)).trans (by rw [e5])
 have e7 : x7 = ((t + 62135596800) / 86400 + 306) % 146097 := (rem_in x5 146097 (by omega)).trans (by rw [e5])
 clear_value x5 x6 x7
 have r7 : 0 <= x7 /\ x7 <= 146096 /\ 0 <= x6 /\ x6 <= 24 := by clear hp e1 e4 e5; rw [<- e2] at e6 e7; omega
 have hD : stDated t = (let yoe := (x7 - x7 / 1460 + x7 / 36524 - x7 / 146096) / 365
   let doy := x7 - (365 * yoe + yoe / 4 - yoe / 100)
   let mp := (5 * doy + 2) / 153
   let y := yoe + x6 * 400
   let d := doy - (153 * mp + 2) / 5 + 1
   if 9 < mp then ⟨y + 1, mp - 9, d, x4 / 3600, x4 / 60 % 60, x4 % 60⟩ else ⟨y, mp + 3, d, x4 / 3600, x4 / 60 % 60, x4 % 60⟩) := by
  rw [e4, e6, e7]; rfl
 rw [hD]
 clear hD e1 e2 e4 e5 e6 e7 hp
 have r4 := r2.2.2
 have r6 := r7.2.2
 obtain ⟨Q, P, Y, w, q1, q2, q3, q4, q5, q6, q7, q8, q9, q10, q11⟩ := st_era x7 r7.1 r7.2.1
 have e8 : x8 = x7 / 1460 := i64_quo _ _ (by clear q11; omega)
 have e10 : x10 = x7 / 36524 := i64_quo _ _ (by clear q11; omega)
 have e12 : x12 = x7 / 146096 := i64_quo _ _ (by clear q11; omega)
 have b8 : 0 <= x8 /\ x8 <= 101 := by clear q11; omega
 have b10 : 0 <= x10 /\ x10 <= 4 := by clear q11; omega
 have b12 : 0 <= x12 /\ x12 <= 1 := by clear q11; omega
 have b13 : x8 <= x7 := by clear q11; omega
 have b14 : x12 <= x10 := by clear q11; omega
 rw [<- e8, <- e10, <- e12] at q11
 rw [<- e8, <- e10, <- e12]
 clear_value x8 x10 x12
 clear e8 e10 e12
 have e9 : x9 = x7 - x8 := i64_in _ (by clear q11; omega)
 have e11 : x11 = x7 - x8 + x10 := (i64_in (x9 + x10) (by clear q11; omega)).trans (by rw [e9])
 have e13 : x13 = x7 - x8 + x10 - x12 := (i64_in (x11 - x12) (by clear q11; omega)).trans (by rw [e11])
 clear_value x9 x11 x13
 have e14 : x14 = 100 * Q + 4 * P + Y := (i64_quo x13 365 (by clear q11; omega)).trans (by rw [e13, q11])
 clear_value x14
 obtain ⟨c1, c2, c3⟩ := st_cycle (era := 0) (y := 100 * Q + 4 * P + Y) q1 q2 q3 q4 q5 q6 (by simp)
 have e15 : x15 = 365 * x14 := i64_in _ (by clear q11 c1 c2 c3; omega)
 have e16 : x16 = 25 * Q + P := (i64_quo x14 4 (by clear q11 c1 c2 c3; omega)).trans (by rw [e14, c1]; omega)
 have e17 : x17 = x15 + x16 := i64_in _ (by clear q11 c1 c2 c3; omega)
 have e18 : x18 = Q := (i64_quo x14 100 (by clear q11 c1 c2 c3; omega)).trans (by rw [e14, c2]; omega)
 have e19 : x19 = x17 - x18 := i64_in _ (by clear q11 c1 c2 c3; omega)
 have e20 : x20 = w := (i64_in (x7 - x19) (by clear q11 c1 c2 c3; omega)).trans (by clear q11 c1 c2 c3; omega)
 have hdoy : x7 - (365 * x14 + x14 / 4 - x14 / 100) = w := by rw [e14, c1, c2]; clear q11 c1 c2 c3; omega
 show _ = (some (Out.ret [.cl (.aggi 6 .i64 _)] []))
 rw [q11, <- e14]
 dsimp only
 rw [hdoy]
 clear_value x15 x16 x17 x18 x19 x20
 clear q11 c1 c2 c3 e15 e16 e17 e18 e19 hdoy e9 e11 e13 b8 b10 b12 b13 b14 q10
 have b14 : 0 <= x14 /\ x14 <= 399 := by omega
 clear q1 q2 q3 q4 q5 q6 q9 e14
 have e21 : x21 = 5 * w := (i64_in (5 * x20) (by omega)).trans (by rw [e20])
 have e22 : x22 = 5 * w + 2 := (i64_in (x21 + 2) (by omega)).trans (by rw [e21])
 have e23 : x23 = (5 * w + 2) / 153 := (i64_quo x22 153 (by omega)).trans (by rw [e22])
 rw [<- e23]
 have b23 : 0 <= x23 /\ x23 <= 11 := by omega
 clear_value x21 x22 x23
 have e24 : x24 = x6 * 400 := i64_in _ (by omega)
 have e25 : x25 = x14 + x6 * 400 := (i64_in (x14 + x24) (by omega)).trans (by rw [e24])
 have e26 : x26 = x23 + 3 := i64_in _ (by omega)
 have e27 : x27 = 153 * x23 := i64_in _ (by omega)
 have e28 : x28 = 153 * x23 + 2 := (i64_in (x27 + 2) (by omega)).trans (by rw [e27])
 have e29 : x29 = (153 * x23 + 2) / 5 := (i64_quo x28 5 (by omega)).trans (by rw [e28])
 have e30 : x30 = w - (153 * x23 + 2) / 5 := (i64_in (x20 - x29) (by omega)).trans (by rw [e20, e29])
 have e31 : x31 = w - (153 * x23 + 2) / 5 + 1 := (i64_in (x30 + 1) (by omega)).trans (by rw [e30])
 have e32 : x32 = x4 / 3600 := i64_quo _ _ (by omega)
 have e33 : x33 = x4 / 60 := i64_quo _ _ (by omega)
 have e34 : x34 = x4 / 60 % 60 := (rem_in x33 60 (by omega)).trans (by rw [e33])
 have e35 : x35 = x4 % 60 := rem_in _ _ (by omega)
 refine c_split (fun h => ?_) fun h => ?_
 ·rw [if_pos (by omega)]
  have e36 : x36 = x25 + 1 := i64_in _ (by omega)
  have e37 : x37 = x23 - 9 := (i64_in (x26 - 12) (by omega)).trans (by omega)
  rw [e36, e37, e25, e31, e32, e34, e35]
 ·rw [if_neg (by omega), e25, e26, e31, e32, e34, e35]

theorem two_length (n : Int) : (stTwo n).length = 2 := rfl
theorem nSText (t : Int) (hp : stI64 t = true) : gSText t = some (.ret [.cl (.str (stText t))] []) := by
 simp only [stI64, decide_eq_true_eq] at hp
 unfold gSText stText
 refine c_split (fun h => ?_) fun h => c_split (fun h2 => ?_) fun h2 => ?_
 ·rw [if_neg (by unfold stIn; simp only [decide_eq_true_eq]; omega)]; rfl
 ·rw [if_neg (by unfold stIn; simp only [decide_eq_true_eq]; omega)]; rfl
 have hi : stIn t = true := by unfold stIn; simp only [decide_eq_true_eq]; omega
 rw [if_pos hi]
 refine b_pos hi ?_
 have hf := stFit_spec (stDated_ok hi).1
 have e7 : IntKind.i64.wrap ((stDated t).d0.tdiv 100) = (stDated t).d0 / 100 := i64_quo _ _ (by omega)
 extract_lets r1 r2 r3 r4 r5 r6 x7 r9 r11 r13 r15 r17 r19 r21 l22 s23
 have e7 : x7 = (stDated t).d0 / 100 := e7
 have e9 : r9 = stTwo ((stDated t).d0 / 100) := by show stTwo x7 = _; rw [e7]
 have hl : ∀ (l : List Int) (n : Int), (l ++ stTwo n).length = l.length + 2 := fun l n => by rw [List.length_append, two_length]
 have h9 : r9.length = 2 := rfl
 have h11 : r11.length = 4 := by show (r9 ++ stTwo _).length = 4; rw [hl, h9]
 have h13 : r13.length = 6 := by show (r11 ++ stTwo _).length = 6; rw [hl, h11]
 have h15 : r15.length = 8 := by show (r13 ++ stTwo _).length = 8; rw [hl, h13]
 have h17 : r17.length = 10 := by show (r15 ++ stTwo _).length = 10; rw [hl, h15]
 have h19 : r19.length = 12 := by show (r17 ++ stTwo _).length = 12; rw [hl, h17]
 have h21 : r21.length = 14 := by show (r19 ++ stTwo _).length = 14; rw [hl, h19]
 have h22 : l22.length = 15 := by show (r21 ++ [90]).length = 15; rw [List.length_append, h21]; rfl
 refine c_pos (by omega) (c_pos (by omega) (c_pos (by omega) (c_pos (by omega) (c_pos (by omega) (c_pos (by omega) (lim_in ?_ (lim_in ?_ (ret_str ?_))))))))
 ·rw [h22]; omega
 ·rw [h22]; omega
 ·show strOf (r9 ++ stTwo _ ++ stTwo _ ++ stTwo _ ++ stTwo _ ++ stTwo _ ++ stTwo _ ++ [90]) = _
  rw [e9]
  rfl

theorem nSRead (s : ByteArray) (hp : true = true) : gSRead s = some (.ret [.cl (.int .i64 (stRead s).1), .cl (.int .i64 (stRead s).2)] []) := by
 unfold gSRead stRead
 have dig : ∀ k : Nat, (k : Int) + 2 <= s.size -> stDigits (s.extract k s.size) = stDig (bget s k) (bget s (k + 1)) := fun k hk => by
  unfold stDigits
  rw [bget_extract s (by omega) (by omega) (Nat.le_refl _), bget_extract s (by omega) (by omega) (Nat.le_refl _), Int.add_zero]
 have sz : ∀ k : Nat, (s.extract k s.size).size = s.size - k := fun k => by rw [ByteArray.size_extract, Nat.min_self]
 refine c_nsplit (fun h => ?_) fun h => c_pos (by omega) ?_
 ·rw [if_neg (by omega)]
 have hs : s.size = 15 := by omega
 have d2 := dig 2 (by omega)
 have d4 := dig 4 (by omega)
 have d6 := dig 6 (by omega)
 have d8 := dig 8 (by omega)
 have d10 := dig 10 (by omega)
 have d12 := dig 12 (by omega)
 extract_lets x1 s2 r3 s4 r5 s6 r7 s8 r9 s10 r11 s12 r13 r14 x15 x16 r17 r18 y m d hh i c
 refine c_nsplit (fun h => ?_) fun h1 => ?_
 ·rw [if_neg fun e => h e.2]
 rw [if_pos ⟨hs, h1⟩]
 have z2 := sz 2
 have z4 := sz 4
 have z6 := sz 6
 have z8 := sz 8
 have z10 := sz 10
 have z12 := sz 12
 have rng : ∀ a b, 0 <= a /\ a <= 255 -> 0 <= b /\ b <= 255 -> -100000 <= stDig a b /\ stDig a b <= 99 := fun a b h1 h2 => by
  unfold stDig
  split <;> omega
 have g2 := rng _ _ (bget_rng s 2) (bget_rng s 3)
 have g0 := rng _ _ (bget_rng s 0) (bget_rng s 1)
 have e14 : r14 = stDig (bget s 0) (bget s 1) := rfl
 have e3 : r3 = stDig (bget s 2) (bget s 3) := d2
 have e15 : x15 = 100 * stDig (bget s 0) (bget s 1) := i64_in _ (by rw [e14]; omega)
 have e16 : x16 = y := (i64_in (r3 + x15) (by omega)).trans (by rw [e3, e15])
 have e5 : r5 = m := d4
 have e7 : r7 = d := d6
 have e9 : r9 = hh := d8
 have e11 : r11 = i := d10
 have e13 : r13 = c := d12
 have hr : r17 = stFit y m d hh i c := by show stFit x16 r5 r7 r9 r11 r13 = _; rw [e16, e5, e7, e9, e11, e13]
 have h18 : r18 = stSecs y m d hh i c := by show stSecs x16 r5 r7 r9 r11 r13 = _; rw [e16, e5, e7, e9, e11, e13]
 refine c_pos (by omega) (c_pos (by show 2 <= (s.extract 2 s.size).size; omega) (c_pos (by omega) (c_pos (by show 2 <= (s.extract 4 s.size).size; omega) (c_pos (by omega) (c_pos (by show 2 <= (s.extract 6 s.size).size; omega) (c_pos (by omega) (c_pos (by show 2 <= (s.extract 8 s.size).size; omega) (c_pos (by omega) (c_pos (by show 2 <= (s.extract 10 s.size).size; omega)
  (c_pos (by omega) (c_pos (by show 2 <= (s.extract 12 s.size).size; omega) (c_pos (by omega) ?_))))))))))))
 rw [hr]
 cases hf : stFit y m d hh i c with
 | false => rfl
 | true =>
  rw [if_pos rfl]
  show cond (stFit x16 r5 r7 r9 r11 r13) (some (Out.ret [.cl (.int .i64 r18), .cl (.int .i64 0)] [])) none = _
  rw [show stFit x16 r5 r7 r9 r11 r13 = true from hr.trans hf, h18]
  rfl
end Go.Proofs.YtfkpjbbkdkcdcabDoorA

namespace Go.Proofs.YtfkpjbbkdkcdcabDoorA
open IntWalk (i64_in u8_in u32_in u64_in i64_quo u8_quo rem_in)

theorem two_nn {n : Int} (h : 0 <= n) (h2 : n <= 9223372036854775807) : stTwo n = [48 + n / 10 % 10, 48 + n % 10] := by
 unfold stTwo
 have b1 : IntKind.i64.wrap (Int.tdiv n 10) = n / 10 := i64_quo _ _ (by omega)
 rw [b1, rem_in (n / 10) 10 (by omega), rem_in n 10 (by omega), i64_in (48 + n / 10 % 10) (by omega), i64_in (48 + n % 10) (by omega), u8_in _ (by omega), u8_in _ (by omega)]
theorem bytes_strOf {l : List Int} (h : ∀ x ∈ l, 0 <= x /\ x <= 255) : bytesOf (strOf l) = l := by
 unfold bytesOf strOf
 simp only [List.map_map]
 have : ∀ l : List Int, (∀ x ∈ l, 0 <= x /\ x <= 255) -> l.map ((fun b : UInt8 => (b.toNat : Int)) ∘ fun n : Int => UInt8.ofNat n.toNat) = l := fun l => by
  induction l with
  | nil => intro _; rfl
  | cons x r ih =>
   intro h
   have hx := h x (by simp)
   simp only [List.map_cons, Function.comp]
   rw [show List.map ((fun b : UInt8 => (b.toNat : Int)) ∘ fun n : Int => UInt8.ofNat n.toNat) r = r from ih fun y hy => h y (by simp [hy])]
   congr 1
   rw [UInt8.toNat_ofNat']
   omega
 exact this l h
theorem strOf_bytes (s : ByteArray) : strOf (bytesOf s) = s := by
 apply ByteArray.ext
 unfold bytesOf strOf
 simp only [List.map_map]
 have : ((fun n : Int => UInt8.ofNat n.toNat) ∘ fun b : UInt8 => (b.toNat : Int)) = id := by
  funext b
  simp [Function.comp]
 rw [this, List.map_id]
theorem bget_strOf {l : List Int} (h : ∀ x ∈ l, 0 <= x /\ x <= 255) {i v : Int} (h0 : 0 <= i) (hv : l[i.toNat]? = some v) : bget (strOf l) i = v := by
 have hl : i.toNat < l.length := (List.getElem?_eq_some_iff.1 hv).1
 have hs : i.toNat < (strOf l).size := by rw [strOf_size]; exact hl
 have := bytesOf_get (strOf l) hs
 rw [bytes_strOf h, hv, Int.toNat_of_nonneg h0] at this
 simpa using this.symm
theorem dig_two {n : Int} : stDig (48 + n / 10 % 10) (48 + n % 10) = n % 100 := by
 unfold stDig
 rw [if_neg (by omega)]
 omega
theorem stText_list {t : Int} (h : stIn t = true) : ∃ y m d hh i s, stFit y m d hh i s = true /\ stSecs y m d hh i s = t /\ stText t = strOf [48 + y / 100 / 10 % 10, 48 + y / 100 % 10, 48 + y / 10 % 10, 48 + y % 10, 48 + m / 10 % 10, 48 + m % 10, 48 + d / 10 % 10, 48 + d % 10, 48 + hh / 10 % 10, 48 + hh % 10, 48 + i / 10 % 10, 48 + i % 10, 48 + s / 10 % 10, 48 + s % 10, 90] := by
 obtain ⟨h1, h2⟩ := stDated_ok h
 refine ⟨_, _, _, _, _, _, h1, h2, ?_⟩
 obtain ⟨⟨a1, a2, a3, a4⟩, ⟨a5, a6⟩, a7, a8, a9, a10, a11, a12⟩ := stFit_spec h1
 have := stDays_rng (stDated t).d0 (stDated t).d1
 unfold stText stTextL
 rw [if_pos h, two_nn (by omega) (by omega), two_nn (by omega) (by omega), two_nn (by omega) (by omega), two_nn (by omega) (by omega), two_nn (by omega) (by omega), two_nn (by omega) (by omega), two_nn (by omega) (by omega)]
 rfl
theorem list_rng {y m d hh i s : Int} : ∀ x ∈ [48 + y / 100 / 10 % 10, 48 + y / 100 % 10, 48 + y / 10 % 10, 48 + y % 10, 48 + m / 10 % 10, 48 + m % 10, 48 + d / 10 % 10, 48 + d % 10, 48 + hh / 10 % 10, 48 + hh % 10, 48 + i / 10 % 10, 48 + i % 10, 48 + s / 10 % 10, 48 + s % 10, 90], (0 : Int) <= x /\ x <= 255 := by
 intro x hx
 simp only [List.mem_cons, List.not_mem_nil, or_false] at hx
 omega
theorem read_text {t : Int} (h : stIn t = true) : stRead (stText t) = (t, 0) := by
 obtain ⟨y, m, d, hh, i, s, hf, hs, ht⟩ := stText_list h
 obtain ⟨⟨a1, a2, a3, a4⟩, ⟨a5, a6⟩, a7, a8, a9, a10, a11, a12⟩ := stFit_spec hf
 have hr := stDays_rng y m
 rw [ht]
 have R := @list_rng y m d hh i s
 unfold stRead
 rw [strOf_size, bget_strOf R (i := 14) (by omega) rfl, bget_strOf R (i := 0) (by omega) rfl, bget_strOf R (i := 1) (by omega) rfl, bget_strOf R (i := 2) (by omega) rfl, bget_strOf R (i := 3) (by omega) rfl, bget_strOf R (i := 4) (by omega) rfl, bget_strOf R (i := 5) (by omega) rfl, bget_strOf R (i := 6) (by omega) rfl,
  bget_strOf R (i := 7) (by omega) rfl, bget_strOf R (i := 8) (by omega) rfl, bget_strOf R (i := 9) (by omega) rfl, bget_strOf R (i := 10) (by omega) rfl, bget_strOf R (i := 11) (by omega) rfl, bget_strOf R (i := 12) (by omega) rfl, bget_strOf R (i := 13) (by omega) rfl]
 rw [if_pos ⟨rfl, rfl⟩, dig_two, dig_two, dig_two, dig_two, dig_two, dig_two, dig_two]
 rw [show y % 100 + 100 * (y / 100 % 100) = y by omega, show m % 100 = m by omega, show d % 100 = d by omega, show hh % 100 = hh by omega, show i % 100 = i by omega, show s % 100 = s by omega]
 dsimp only
 rw [if_pos hf, hs]

end Go.Proofs.YtfkpjbbkdkcdcabDoorA

namespace Go.Proofs.YtfkpjbbkdkcdcabDoorA
open IntWalk (i64_in u8_in u32_in u64_in i64_quo u8_quo rem_in)

/-! ### bytes that are so -/
theorem byteB_spec {x : Int} (h : byteB x = true) : 0 <= x /\ x <= 255 := of_decide_eq_true h
theorem bytesOk_spec {b : List Int} (h : bytesOk b = true) : b.length <= 1000000 /\ ∀ x ∈ b, 0 <= x /\ x <= 255 := by
 unfold bytesOk at h
 rw [shut_eq] at h
 simp only [Bool.and_eq_true, decide_eq_true_eq, List.all_eq_true] at h
 exact ⟨h.1, fun x hx => byteB_spec (h.2 x hx)⟩
theorem bytesOk_of {b : List Int} (h : b.length <= 1000000) (h' : ∀ x ∈ b, 0 <= x /\ x <= 255) : bytesOk b = true := by
 unfold bytesOk
 rw [shut_eq]
 simp only [Bool.and_eq_true, decide_eq_true_eq, List.all_eq_true]
 exact ⟨h, fun x hx => decide_eq_true (h' x hx)⟩
theorem bytesOk_sub {a b : List Int} (h : bytesOk b = true) (hl : a.length <= b.length) (hs : ∀ x ∈ a, x ∈ b) : bytesOk a = true :=
 let ⟨h1, h2⟩ := bytesOk_spec h; bytesOk_of (by omega) fun x hx => h2 x (hs x hx)
theorem bytesOk_drop {b : List Int} (h : bytesOk b = true) (n : Nat) : bytesOk (b.drop n) = true := bytesOk_sub h (by simp) fun x hx => List.mem_of_mem_drop hx
theorem bytesOk_tail {b : List Int} (h : bytesOk b = true) : bytesOk b.tail = true := bytesOk_sub h (by simp) fun x hx => List.mem_of_mem_tail hx
theorem bytesOk_at {b : List Int} (h : bytesOk b = true) {i : Nat} {x : Int} (hx : b[i]? = some x) : 0 <= x /\ x <= 255 := (bytesOk_spec h).2 x (List.mem_of_getElem? hx)
theorem lenOk_spec {b : List Int} (h : lenOk b = true) : b.length <= 100000000 := by
 unfold lenOk at h; rw [shut_eq] at h; exact of_decide_eq_true h
theorem lenOk_of {b : List Int} (h : b.length <= 100000000) : lenOk b = true := by
 unfold lenOk; rw [shut_eq]; exact decide_eq_true h
theorem get_some {α : Type} {b : List α} {i : Nat} (h : i < b.length) : ∃ x, b[i]? = some x := ⟨_, List.getElem?_eq_getElem h⟩

theorem nDBoxed (tag : Int) (hp : true = true) : gDBoxed tag = some (.ret [.cl (.bool (derBoxed tag))] []) := by
 unfold gDBoxed derBoxed derBoxedC
 rw [shut_eq]
 simp only [Bool.cond_decide]
 repeat' split
 all_goals (refine ret_bool ?_; rw [Bool.eq_iff_iff]; simp only [decide_eq_true_eq, true_iff, Bool.false_eq_true, false_iff]; omega)
theorem nDKnown (tag : Int) (hp : true = true) : gDKnown tag = some (.ret [.cl (.bool (derKnown tag))] []) := by
 unfold gDKnown derKnown derKnownC derBoxed
 simp only [shut_eq, Bool.cond_decide]
 cases derBoxedC tag
 all_goals simp only [cond_true, cond_false]
 all_goals repeat' split
 all_goals (refine ret_bool ?_; rw [Bool.eq_iff_iff]; (try simp only [Bool.or_eq_true, decide_eq_true_eq, or_true, true_or, Bool.false_eq_true, false_or, Bool.true_eq, true_iff, false_iff]); (try omega))
theorem nDLenSize (n : Int) (hp : true = true) : gDLenSize n = some (.ret [.cl (.int .i64 (derLenSize n))] []) := by
 unfold gDLenSize derLenSize derLenSizeC
 simp only [shut_eq, Bool.cond_decide]
 repeat' split
 all_goals rfl
theorem two_cases (o : List Int) : o.length < 2 /\ oidFitC o = false \/ ∃ x y r, o = x :: y :: r := by
 match o with
 | [] => exact .inl ⟨by simp, rfl⟩
 | [x] => exact .inl ⟨by simp, rfl⟩
 | x :: y :: r => exact .inr ⟨x, y, r, rfl⟩
theorem nOFit (o : List Int) (hp : true = true) : gOFit o = some (.ret [.cl (.bool (oidFit o))] []) := by
 unfold gOFit oidFit
 simp only [shut_eq, Bool.cond_decide]
 rcases two_cases o with ⟨h, e⟩ | ⟨x, y, r, rfl⟩
 ·rw [if_pos (by omega), e]
 ·simp only [List.getElem?_cons_zero, List.getElem?_cons_succ, Option.bind_some, List.length_cons, oidFitC]
  repeat' split
  all_goals first
   | (refine ret_bool ?_; rw [Bool.eq_iff_iff]; simp only [Bool.and_eq_true, Bool.or_eq_true, decide_eq_true_eq, Bool.false_eq_true, false_iff, true_iff]; omega)
   | omega
theorem nDNumber (b : List Int) (hp : bytesOk b = true) : gDNumber b = some (.ret [.cl (.bool (derNumber b))] []) := by
 unfold gDNumber derNumber
 rw [shut_eq]
 match b, hp with
 | [], _ => rfl
 | [x], _ => rfl
 | x :: y :: r, hp =>
  have hx := bytesOk_at hp (i := 0) (x := x) rfl
  have hy := bytesOk_at hp (i := 1) (x := y) rfl
  simp only [List.getElem?_cons_zero, List.getElem?_cons_succ, Option.bind_some, List.length_cons, derNumberC]
  rw [show IntKind.u64.wrap x = x from u64_in _ (by omega), show IntKind.u64.wrap y = y from u64_in _ (by omega), show IntKind.u64.wrap (x * 2 ^ 1) = x * 2 from (u64_in _ (by omega)).trans (by omega),
   show Int.fdiv y (2 ^ 7) = y / 128 from Int.fdiv_eq_ediv_of_nonneg _ (by omega)]
  have hor : ((BitVec.ofInt 64 (x * 2) ||| BitVec.ofInt 64 (y / 128)).toNat : Int) = x * 2 + y / 128 := by
   have h2 : y / 128 = 0 \/ y / 128 = 1 := by omega
   obtain ⟨n, rfl⟩ : ∃ n : Nat, x = n := ⟨x.toNat, by omega⟩
   have hn : n < 256 := by omega
   rcases h2 with h2 | h2
   ·rw [h2]
    simp [BitVec.toNat_ofInt]
    omega
   ·rw [h2, BitVec.toNat_or]
    simp only [BitVec.toNat_ofInt]
    have : ∀ n : Fin 256, ((((n.val : Int) * 2 % (2 ^ 64 : Nat)).toNat ||| ((1 : Int) % (2 ^ 64 : Nat)).toNat : Nat) : Int) = (n.val : Int) * 2 + 1 := by decide +kernel
    exact this ⟨n, hn⟩
  rw [hor, show IntKind.u64.wrap (x * 2 + y / 128) = x * 2 + y / 128 from u64_in _ (by omega)]
  simp only [Bool.cond_decide]
  rw [if_neg (by omega), if_pos (by omega), if_pos (by omega)]
  refine c_nsplit (fun h => ret_bool ?_) fun h => ret_bool ?_
  ·rw [Bool.eq_iff_iff]
   simp only [Bool.and_eq_true, Bool.not_eq_true', decide_eq_false_iff_not]
   omega
  ·rw [Bool.eq_iff_iff]
   simp only [Bool.and_eq_true, Bool.not_eq_true', decide_eq_false_iff_not, Bool.false_eq_true, false_iff]
   omega
theorem nSClone (b : List Int) (hp : lenOk b = true) : gSClone b = some (.ret [.cl (.sli .u8 b)] []) := by
 have hp := lenOk_spec hp
 unfold gSClone
 simp only [List.nil_append]
 refine b_split (fun h => ?_) fun h => ?_
 ·have h := List.eq_nil_of_length_eq_zero (beq_iff.1 h)
  subst h
  unfold bothK
  rw [if_pos (Eq.symm (lim_in (by simp) (lim_in (by simp) rfl)))]
 ·exact lim_in (by omega) (lim_in (by omega) rfl)
end Go.Proofs.YtfkpjbbkdkcdcabDoorA

namespace Go.Proofs.YtfkpjbbkdkcdcabDoorA
open IntWalk (i64_in u8_in u32_in u64_in i64_quo u8_quo rem_in)

theorem drop_cons {b : List Int} {i : Nat} {x : Int} (h : b[i]? = some x) : b.drop i = x :: b.drop (i + 1) := by
 obtain ⟨hlt, e⟩ := List.getElem?_eq_some_iff.1 h
 rw [List.drop_eq_getElem_cons hlt, e]
theorem drop_nil {α : Type} {b : List α} {i : Nat} (h : b.length <= i) : b.drop i = [] := List.drop_eq_nil_of_le h

theorem same_lp (a b : List Int) (hl : a.length = b.length) (hb : a.length <= 100000000) : ∀ (f i : Nat), i <= a.length -> a.length < f + i -> 
  lpR1Same_4 (fun _ _ _ _ _ _ _ _ _ _ _ _ _ _ _ _ => some (.ret [.cl (.bool false)] [])) (fun _ _ _ _ _ _ => some (.ret [.cl (.bool true)] [])) f a b i = some (.ret [.cl (.bool (decide (a.drop i = b.drop i)))] [])
 | 0, i, hi, hf => by omega
 | f + 1, i, hi, hf => by
  show lpR1Same_4s (lpR1Same_4 (fun _ _ _ _ _ _ _ _ _ _ _ _ _ _ _ _ => some (.ret [.cl (.bool false)] [])) (fun _ _ _ _ _ _ => some (.ret [.cl (.bool true)] [])) f) (fun _ _ _ _ _ _ _ _ _ _ _ _ _ _ _ _ => some (.ret [.cl (.bool false)] [])) (fun _ _ _ _ _ _ => some (.ret [.cl (.bool true)] [])) a b i = _
  unfold lpR1Same_4s
  refine c_split (fun h => ?_) fun h => ?_
  ·obtain ⟨x, hx⟩ := get_some (b := a) (i := i) (by omega)
   obtain ⟨y, hy⟩ := get_some (b := b) (i := i) (by omega)
   refine c_pos (by omega) (c_pos h ?_)
   rw [show (i : Int).toNat = i from rfl, hx, Option.bind_some]
   refine c_pos (by omega) (c_pos (by omega) ?_)
   rw [hy, Option.bind_some]
   rw [drop_cons hx, drop_cons hy]
   refine c_nsplit (fun hne => ret_bool ?_) fun he => ?_
   ·simp [hne]
   ·subst he
    rw [show IntKind.i64.wrap ((i : Int) + 1) = ((i + 1 : Nat) : Int) from (i64_in _ (by omega)).trans (by omega)]
    refine (same_lp a b hl hb f (i + 1) (by omega) (by omega)).trans (ret_bool ?_)
    simp
  ·refine ret_bool ?_
   rw [drop_nil (by omega), drop_nil (by omega)]
   simp
theorem nR1Same (a b : List Int) (hp : lenOk a = true) : gR1Same a b = some (.ret [.cl (.bool (listSame a b))] []) := by
 have hp := lenOk_spec hp
 unfold gR1Same listSame listSameC
 simp only [shut_eq]
 refine c_nsplit (fun h => ret_bool ?_) fun h => ?_
 ·rw [eq_comm, decide_eq_false_iff_not]
  intro e
  subst e
  exact h rfl
 ·exact same_lp a b (by omega) hp FUEL 0 (by omega) (by unfold FUEL; omega)

theorem foldl_rng (b : List Int) (hb : ∀ x ∈ b, 0 <= x /\ x <= 255) : ∀ (n : Int) (k : Nat), 0 <= n -> n < 256 ^ k -> 0 <= b.foldl (fun n x => n * 256 + x) n /\ b.foldl (fun n x => n * 256 + x) n < 256 ^ (k + b.length) := by
 induction b with
 | nil => intro n k h0 h1; exact ⟨h0, h1⟩
 | cons x r ih =>
  intro n k h0 h1
  have hx := hb x (by simp)
  have := ih (fun y hy => hb y (by simp [hy])) (n * 256 + x) (k + 1) (by omega) (by rw [Int.pow_succ]; omega)
  simp only [List.foldl_cons, List.length_cons]
  rw [show k + (r.length + 1) = k + 1 + r.length by omega]
  exact this
theorem bytesNum_rng {b : List Int} (hb : ∀ x ∈ b, 0 <= x /\ x <= 255) : 0 <= bytesNumC b /\ bytesNumC b < 256 ^ b.length := by
 have := foldl_rng b hb 0 0 (by omega) (by decide)
 rwa [Nat.zero_add] at this
end Go.Proofs.YtfkpjbbkdkcdcabDoorA

namespace Go.Proofs.YtfkpjbbkdkcdcabDoorA
open IntWalk (i64_in u8_in u32_in u64_in i64_quo u8_quo rem_in)

theorem or_add {n x : Int} (h0 : 0 <= n) (h1 : n < 72057594037927936) (h2 : 0 <= x) (h3 : x <= 255) : ((BitVec.ofInt 64 (n * 256) ||| BitVec.ofInt 64 x).toNat : Int) = n * 256 + x := by
 obtain ⟨a, rfl⟩ : ∃ a : Nat, n = a := ⟨n.toNat, by omega⟩
 obtain ⟨b, rfl⟩ : ∃ b : Nat, x = b := ⟨x.toNat, by omega⟩
 rw [BitVec.toNat_or]
 have e1 : (BitVec.ofInt 64 ((a : Int) * 256)).toNat = 2 ^ 8 * a := by rw [BitVec.toNat_ofInt]; omega
 have e2 : (BitVec.ofInt 64 (b : Int)).toNat = b := by rw [BitVec.toNat_ofInt]; omega
 rw [e1, e2, <- Nat.two_pow_add_eq_or_of_lt (by omega : b < 2 ^ 8)]
 omega
end Go.Proofs.YtfkpjbbkdkcdcabDoorA

namespace Go.Proofs.YtfkpjbbkdkcdcabDoorA
open IntWalk (i64_in u8_in u32_in u64_in i64_quo u8_quo rem_in)

theorem rowsOk_spec {l : List CV} (h : rowsOk l = true) : l.length <= 1000000 /\ ∀ (i : Nat) (e : CV), l[i]? = some e -> ∃ x, e = .sli .u8 x /\ bytesOk x = true := by
 unfold rowsOk at h
 rw [shut_eq] at h
 simp only [Bool.and_eq_true, decide_eq_true_eq, List.all_eq_true] at h
 refine ⟨h.1, fun i e he => ?_⟩
 have := h.2 e (List.mem_of_getElem? he)
 unfold rowCV at this
 split at this
 ·rename_i l'
  refine ⟨l', rfl, ?_⟩
  unfold rowB at this
  simp only [Bool.and_eq_true, decide_eq_true_eq, List.all_eq_true] at this
  exact bytesOk_of this.1 fun x hx => byteB_spec (this.2 x hx)
 ·cases this
theorem sorted_two {l : List CV} {i : Nat} {a b : List Int} (h1 : l[i]? = some (.sli .u8 a)) (h2 : l[i + 1]? = some (.sli .u8 b)) : rowsSortedC ((l.map cvSli).drop i) = (decide (listCmpC a b <= 0) && rowsSortedC ((l.map cvSli).drop (i + 1))) := by
 have e1 : (l.map cvSli)[i]? = some a := by rw [List.getElem?_map, h1]; rfl
 have e2 : (l.map cvSli)[i + 1]? = some b := by rw [List.getElem?_map, h2]; rfl
 have d : ∀ {l : List (List Int)} {i : Nat} {x : List Int}, l[i]? = some x -> l.drop i = x :: l.drop (i + 1) := fun {l i x} h => by
  obtain ⟨hlt, e⟩ := List.getElem?_eq_some_iff.1 h
  rw [List.drop_eq_getElem_cons hlt, e]
 rw [d e1, d e2]
 rfl
theorem sorted_one {l : List CV} {i : Nat} (h : l.length <= i + 1) : rowsSortedC ((l.map cvSli).drop i) = true := by
 have : ((l.map cvSli).drop i).length <= 1 := by simp; omega
 match (l.map cvSli).drop i, this with
 | [], _ => rfl
 | [_], _ => rfl
 | _ :: _ :: _, h => simp at h
theorem nBCompare (a b : List Int) (hp : (bytesOk a && bytesOk b) = true) : gBCompare a b = some (.ret [.cl (.int .i64 (listCmp a b))] []) := by
 unfold gBCompare
 exact b_pos hp rfl
theorem nOLess (a b : List Int) (hp : (bytesOk a && bytesOk b) = true) : gOLess a b = some (.ret [.cl (.bool (decide (listCmp a b <= 0)))] []) := by
 unfold gOLess
 exact b_pos hp rfl
theorem os_lp (l : List CV) (hok : rowsOk l = true) : ∀ (f i : Nat), l.length < f + i -> lpOSteps_2 (fun _ _ _ _ _ _ _ _ _ _ _ _ _ _ _ _ _ => some (.ret [.cl (.bool false)] [])) (fun _ _ _ _ _ => some (.ret [.cl (.bool true)] [])) f l ((i + 1 : Nat) : Int) = some (.ret [.cl (.bool (rowsSortedC ((l.map cvSli).drop i)))] []) \/ f = 0
 | 0, i, hf => .inr rfl
 | f + 1, i, hf => by
  left
  obtain ⟨hl, hr⟩ := rowsOk_spec hok
  show lpOSteps_2s (lpOSteps_2 (fun _ _ _ _ _ _ _ _ _ _ _ _ _ _ _ _ _ => some (.ret [.cl (.bool false)] [])) (fun _ _ _ _ _ => some (.ret [.cl (.bool true)] [])) f) _ _ l ((i + 1 : Nat) : Int) = _
  unfold lpOSteps_2s
  refine c_split (fun h => ?_) fun h => ret_bool ?_
  ·obtain ⟨e1, he1⟩ := get_some (b := l) (i := i) (by omega)
   obtain ⟨e2, he2⟩ := get_some (b := l) (i := i + 1) (by omega)
   obtain ⟨x, rfl, hx⟩ := hr _ _ he1
   obtain ⟨y, rfl, hy⟩ := hr _ _ he2
   rw [show IntKind.i64.wrap (((i + 1 : Nat) : Int) - 1) = (i : Int) from (i64_in _ (by omega)).trans (by omega)]
   refine c_pos (by omega) (c_pos (by omega) ?_)
   rw [show (i : Int).toNat = i from rfl, he1, Option.bind_some]
   refine b_pos rfl (c_pos (by omega) (c_pos h ?_))
   rw [show ((i + 1 : Nat) : Int).toNat = i + 1 from rfl, he2, Option.bind_some]
   refine b_pos rfl (b_pos (by show (bytesOk x && bytesOk y) = true; rw [hx, hy]; rfl) ?_)
   show cond (!(decide (listCmp x y <= 0))) _ _ = _
   rw [sorted_two he1 he2]
   unfold listCmp
   rw [shut_eq]
   cases decide (listCmpC x y <= 0) with
   | true =>
    simp only [Bool.not_true, cond_false, Bool.true_and]
    rw [show IntKind.i64.wrap (((i + 1 : Nat) : Int) + 1) = ((i + 1 + 1 : Nat) : Int) from (i64_in _ (by omega)).trans (by omega)]
    exact (os_lp l hok f (i + 1) (by omega)).resolve_right (by omega)
   | false => rfl
  ·rw [sorted_one (by omega)]
theorem nOSteps (l : List CV) (hp : rowsOk l = true) : gOSteps l = some (.ret [.cl (.bool (rowsSorted l))] []) := by
 unfold gOSteps rowsSorted
 simp only [shut_eq]
 exact (os_lp l hp FUEL 0 (by have := (rowsOk_spec hp).1; unfold FUEL; omega)).resolve_right (by unfold FUEL; omega)
theorem nOSorted (l : List CV) (hp : rowsOk l = true) : gOSorted l = some (.ret [.cl (.bool (rowsSorted l))] []) := by
 unfold gOSorted
 exact b_pos hp rfl
end Go.Proofs.YtfkpjbbkdkcdcabDoorA

namespace Go.Proofs.YtfkpjbbkdkcdcabDoorA
open IntWalk (i64_in u8_in u32_in u64_in i64_quo u8_quo rem_in)

theorem rune_cons (c : Int) (r : List Int) : u8RuneC (c :: r) = if c < 128 then 1
  else if 194 <= c /\ c <= 223 /\ u8At r 0 = true then 2
  else if 224 <= c /\ c <= 239 /\ u8At r 0 = true /\ u8At r 1 = true /\ (c = 224 -> 160 <= r.headD 0) /\ (c = 237 -> r.headD 0 < 160) then 3
  else if 240 <= c /\ c <= 244 /\ u8At r 0 = true /\ u8At r 1 = true /\ u8At r 2 = true /\ (c = 240 -> 144 <= r.headD 0) /\ (c = 244 -> r.headD 0 < 144) then 4
  else 0 := rfl
theorem rune_rng (l : List Int) : 0 <= u8RuneC l /\ u8RuneC l <= l.length /\ (u8RuneC l = 0 -> ∀ c r, l = c :: r -> ¬ c < 128) := by
 have hlt : ∀ (l : List Int) (k : Nat), u8At l k = true -> k < l.length := fun l k h => by
  unfold u8At at h
  split at h
  ·rename_i x hx; exact (List.getElem?_eq_some_iff.1 hx).1
  ·cases h
 cases l with
 | nil => exact ⟨by simp [u8RuneC], by simp [u8RuneC], fun _ c r h => by cases h⟩
 | cons c r =>
  rw [rune_cons]
  by_cases h1 : c < 128
  ·rw [if_pos h1]; exact ⟨by omega, by simp; omega, fun h => by omega⟩
  ·rw [if_neg h1]
   split
   ·rename_i h; have := hlt _ _ h.2.2; exact ⟨by omega, by simp only [List.length_cons]; omega, fun h => by omega⟩
   ·split
    ·rename_i h; have := hlt _ _ h.2.2.2.1; exact ⟨by omega, by simp only [List.length_cons]; omega, fun h => by omega⟩
    ·split
     ·rename_i h; have := hlt _ _ h.2.2.2.2.1; exact ⟨by omega, by simp only [List.length_cons]; omega, fun h => by omega⟩
     ·exact ⟨by omega, by simp only [List.length_cons]; omega, fun _ c' r' e => by cases e; exact h1⟩
theorem valid_more : ∀ (n m : Nat) (l : List Int), l.length <= n -> l.length <= m -> u8ValidF n l = u8ValidF m l
 | 0, 0, l, _, _ => rfl
 | 0, m + 1, l, h, _ => by
  have : l = [] := List.eq_nil_of_length_eq_zero (by omega)
  subst this
  simp [u8ValidF]
 | n + 1, 0, l, _, h => by
  have : l = [] := List.eq_nil_of_length_eq_zero (by omega)
  subst this
  simp [u8ValidF]
 | n + 1, m + 1, l, h1, h2 => by
  unfold u8ValidF
  by_cases h : l = []
  ·rw [if_pos h, if_pos h]
  ·rw [if_neg h, if_neg h]
   by_cases h0 : u8RuneC l = 0
   ·rw [if_pos h0, if_pos h0]
   ·rw [if_neg h0, if_neg h0]
    have := rune_rng l
    exact valid_more n m _ (by simp only [List.length_drop]; omega) (by simp only [List.length_drop]; omega)
theorem valid_step (l : List Int) : u8ValidC l = if l = [] then true else if u8RuneC l = 0 then false else u8ValidC (l.drop (u8RuneC l).toNat) := by
 unfold u8ValidC
 cases l with
 | nil => simp [u8ValidF]
 | cons c r =>
  rw [if_neg (by simp)]
  conv => lhs; rw [List.length_cons]; unfold u8ValidF
  rw [if_neg (by simp)]
  by_cases h0 : u8RuneC (c :: r) = 0
  ·rw [if_pos h0, if_pos h0]
  ·rw [if_neg h0, if_neg h0]
   have := rune_rng (c :: r)
   exact valid_more _ _ _ (by simp only [List.length_drop, List.length_cons]; omega) (Nat.le_refl _)
end Go.Proofs.YtfkpjbbkdkcdcabDoorA

namespace Go.Proofs.YtfkpjbbkdkcdcabDoorA
open IntWalk (i64_in u8_in u32_in u64_in i64_quo u8_quo rem_in)

/-! ### words -/
theorem ofNat64 {n : Nat} (h : n < 2 ^ 64) : (BitVec.ofInt 64 (n : Int)).toNat = n := by
 rw [BitVec.toNat_ofInt]; omega
theorem orN {a b : Nat} (ha : a < 2 ^ 64) (hb : b < 2 ^ 64) : IntKind.u64.wrap ((BitVec.ofInt 64 (a : Int) ||| BitVec.ofInt 64 (b : Int)).toNat) = ((a ||| b : Nat) : Int) := by
 rw [BitVec.toNat_or, ofNat64 ha, ofNat64 hb]
 have := Nat.or_lt_two_pow ha hb
 exact u64_in _ (by omega)
theorem andN {a b : Nat} (ha : a < 2 ^ 64) (hb : b < 2 ^ 64) : IntKind.u64.wrap ((BitVec.ofInt 64 (a : Int) &&& BitVec.ofInt 64 (b : Int)).toNat) = ((a &&& b : Nat) : Int) := by
 rw [BitVec.toNat_and, ofNat64 ha, ofNat64 hb]
 have : a &&& b <= a := Nat.and_le_left
 exact u64_in _ (by omega)
theorem nUWord (b : List Int) (hp : (bytesOk b && decide (8 <= b.length)) = true) : gUWord b = some (.ret [.cl (.int .u64 (u8Word b))] []) := by
 simp only [Bool.and_eq_true, decide_eq_true_eq] at hp
 obtain ⟨hb, hl⟩ := hp
 match b, hl, hb with
 | x0 :: x1 :: x2 :: x3 :: x4 :: x5 :: x6 :: x7 :: r, _, hb =>
  have r0 := bytesOk_at hb (i := 0) (x := x0) rfl
  have r1 := bytesOk_at hb (i := 1) (x := x1) rfl
  have r2 := bytesOk_at hb (i := 2) (x := x2) rfl
  have r3 := bytesOk_at hb (i := 3) (x := x3) rfl
  have r4 := bytesOk_at hb (i := 4) (x := x4) rfl
  have r5 := bytesOk_at hb (i := 5) (x := x5) rfl
  have r6 := bytesOk_at hb (i := 6) (x := x6) rfl
  have r7 := bytesOk_at hb (i := 7) (x := x7) rfl
  obtain ⟨n0, rfl⟩ : ∃ n : Nat, x0 = n := ⟨x0.toNat, by omega⟩
  obtain ⟨n1, rfl⟩ : ∃ n : Nat, x1 = n := ⟨x1.toNat, by omega⟩
  obtain ⟨n2, rfl⟩ : ∃ n : Nat, x2 = n := ⟨x2.toNat, by omega⟩
  obtain ⟨n3, rfl⟩ : ∃ n : Nat, x3 = n := ⟨x3.toNat, by omega⟩
  obtain ⟨n4, rfl⟩ : ∃ n : Nat, x4 = n := ⟨x4.toNat, by omega⟩
  obtain ⟨n5, rfl⟩ : ∃ n : Nat, x5 = n := ⟨x5.toNat, by omega⟩
  obtain ⟨n6, rfl⟩ : ∃ n : Nat, x6 = n := ⟨x6.toNat, by omega⟩
  obtain ⟨n7, rfl⟩ : ∃ n : Nat, x7 = n := ⟨x7.toNat, by omega⟩
  unfold gUWord u8Word u8WordC
  simp only [shut_eq, List.getElem?_cons_zero, List.getElem?_cons_succ, Option.bind_some, List.length_cons, List.getD_cons_zero, List.getD_cons_succ, Int.toNat_natCast]
  have w : ∀ n : Nat, n <= 255 -> IntKind.u64.wrap (n : Int) = (n : Int) := fun n h => u64_in _ (by omega)
  have sh : ∀ (n k : Nat), n <= 255 -> k <= 56 -> IntKind.u64.wrap ((n : Int) * 2 ^ k) = ((n * 2 ^ k : Nat) : Int) := fun n k h hk => by
   have h2 : 2 ^ k <= 2 ^ 56 := Nat.pow_le_pow_right (by omega) hk
   have h3 : n * 2 ^ k <= 255 * 2 ^ 56 := Nat.mul_le_mul h h2
   have e : ((n : Int) * 2 ^ k) = ((n * 2 ^ k : Nat) : Int) := by rw [Int.natCast_mul, Int.natCast_pow]; rfl
   rw [e]
   exact u64_in _ (by omega)
  have lt : ∀ (n k : Nat), n <= 255 -> k <= 56 -> n * 2 ^ k < 2 ^ 64 := fun n k h hk => by
   have h2 : 2 ^ k <= 2 ^ 56 := Nat.pow_le_pow_right (by omega) hk
   have h3 : n * 2 ^ k <= 255 * 2 ^ 56 := Nat.mul_le_mul h h2
   omega
  have p0 : n0 < 2 ^ 64 := by omega
  have p1 := Nat.or_lt_two_pow p0 (lt n1 8 (by omega) (by omega))
  have p2 := Nat.or_lt_two_pow p1 (lt n2 16 (by omega) (by omega))
  have p3 := Nat.or_lt_two_pow p2 (lt n3 24 (by omega) (by omega))
  have p4 := Nat.or_lt_two_pow p3 (lt n4 32 (by omega) (by omega))
  have p5 := Nat.or_lt_two_pow p4 (lt n5 40 (by omega) (by omega))
  have p6 := Nat.or_lt_two_pow p5 (lt n6 48 (by omega) (by omega))
  rw [w n0 (by omega), w n1 (by omega), w n2 (by omega), w n3 (by omega), w n4 (by omega), w n5 (by omega), w n6 (by omega), w n7 (by omega)]
  rw [sh n1 8 (by omega) (by omega), sh n2 16 (by omega) (by omega), sh n3 24 (by omega) (by omega), sh n4 32 (by omega) (by omega), sh n5 40 (by omega) (by omega), sh n6 48 (by omega) (by omega), sh n7 56 (by omega) (by omega)]
  rw [orN p0 (lt n1 8 (by omega) (by omega)), orN p1 (lt n2 16 (by omega) (by omega)), orN p2 (lt n3 24 (by omega) (by omega)), orN p3 (lt n4 32 (by omega) (by omega)), orN p4 (lt n5 40 (by omega) (by omega)), orN p5 (lt n6 48 (by omega) (by omega)), orN p6 (lt n7 56 (by omega) (by omega))]
  exact c_pos (by omega) (c_pos (by omega) (c_pos (by omega) (c_pos (by omega) (c_pos (by omega) (c_pos (by omega) (c_pos (by omega) (c_pos (by omega) rfl)))))))

def MASK : Nat := 9259542123273814144
theorem or_zero {a b : Nat} : (a ||| b) &&& MASK = 0 ↔ a &&& MASK = 0 /\ b &&& MASK = 0 := by
 rw [Nat.and_or_distrib_right]
 constructor
 ·intro h
  have h1 : a &&& MASK <= (a &&& MASK) ||| (b &&& MASK) := Nat.left_le_or
  have h2 : b &&& MASK <= (a &&& MASK) ||| (b &&& MASK) := Nat.right_le_or
  omega
 ·rintro ⟨h1, h2⟩
  rw [h1, h2]; rfl
theorem byte_zero : ∀ k : Fin 8, ∀ n : Fin 256, ((n.val * 2 ^ (8 * k.val)) &&& MASK = 0) = (n.val < 128) := by decide +kernel
/-- the first k bytes are characters of one byte -/
def asciiK (k : Nat) (l : List Int) : Prop := k <= l.length /\ ∀ i x, i < k -> l[i]? = some x -> x < 128
theorem ascii_drop : ∀ (k : Nat) (l : List Int), asciiK k l -> u8ValidC (l.drop k) = u8ValidC l
 | 0, l, _ => rfl
 | k + 1, l, h => by
  match l, h with
  | [], h => have := h.1; simp at this
  | c :: r, h =>
   have hc : c < 128 := h.2 0 c (by omega) rfl
   rw [valid_step (c :: r), if_neg (by simp), rune_cons, if_pos hc, if_neg (by omega)]
   exact ascii_drop k r ⟨by have := h.1; simp at this; omega, fun i x hi hx => h.2 (i + 1) x (by omega) (by simpa using hx)⟩
theorem word_spec {l : List Int} (hb : bytesOk l = true) (hl : 8 <= l.length) : ∃ N : Nat, u8Word l = N /\ N < 2 ^ 64 /\ (N &&& MASK = 0 -> asciiK 8 l) := by
 unfold u8Word
 rw [shut_eq]
 refine ⟨_, rfl, ?_, fun h => ⟨hl, ?_⟩⟩
 ·have hr : ∀ i, (l.getD i 0).toNat <= 255 := fun i => by
   rw [List.getD_eq_getElem?_getD]
   cases hx : l[i]? with
   | none => simp
   | some x => have := bytesOk_at hb hx; simp; omega
  have h0 := hr 0; have h1 := hr 1; have h2 := hr 2; have h3 := hr 3; have h4 := hr 4; have h5 := hr 5; have h6 := hr 6; have h7 := hr 7
  exact Nat.or_lt_two_pow (Nat.or_lt_two_pow (Nat.or_lt_two_pow (Nat.or_lt_two_pow (Nat.or_lt_two_pow (Nat.or_lt_two_pow (Nat.or_lt_two_pow (by omega) (by omega)) (by omega)) (by omega)) (by omega)) (by omega)) (by omega)) (by omega)
 ·rw [or_zero, or_zero, or_zero, or_zero, or_zero, or_zero, or_zero] at h
  obtain ⟨⟨⟨⟨⟨⟨⟨a0, a1⟩, a2⟩, a3⟩, a4⟩, a5⟩, a6⟩, a7⟩ := h
  have key : ∀ (k : Fin 8) (n : Nat), n <= 255 -> (n * 2 ^ (8 * k.val)) &&& MASK = 0 -> n < 128 := fun k n hn h => by
   have := byte_zero k ⟨n, by omega⟩
   simp only at this
   rw [this] at h
   exact h
  intro i x hi hx
  have hxr := bytesOk_at hb hx
  have hg : (l.getD i 0).toNat = x.toNat := by rw [List.getD_eq_getElem?_getD, hx]; rfl
  match i, hi, hg with
  | 0, _, hg => rw [hg] at a0; have := key 0 x.toNat (by omega) (by simpa using a0); omega
  | 1, _, hg => rw [hg] at a1; have := key 1 x.toNat (by omega) a1; omega
  | 2, _, hg => rw [hg] at a2; have := key 2 x.toNat (by omega) a2; omega
  | 3, _, hg => rw [hg] at a3; have := key 3 x.toNat (by omega) a3; omega
  | 4, _, hg => rw [hg] at a4; have := key 4 x.toNat (by omega) a4; omega
  | 5, _, hg => rw [hg] at a5; have := key 5 x.toNat (by omega) a5; omega
  | 6, _, hg => rw [hg] at a6; have := key 6 x.toNat (by omega) a6; omega
  | 7, _, hg => rw [hg] at a7; have := key 7 x.toNat (by omega) a7; omega
theorem ascii_add {j k : Nat} {l : List Int} (h1 : asciiK j l) (h2 : asciiK k (l.drop j)) : asciiK (j + k) l := by
 refine ⟨by have := h2.1; simp only [List.length_drop] at this; have := h1.1; omega, fun i x hi hx => ?_⟩
 by_cases h : i < j
 ·exact h1.2 i x h hx
 ·exact h2.2 (i - j) x (by omega) (by rw [List.getElem?_drop, show j + (i - j) = i by omega]; exact hx)

theorem uv_inner (A : List Int -> Option Out) (R : Option Out) (L : Nat) (v : Bool) (hA : ∀ l, l.length <= L -> bytesOk l = true -> u8ValidC l = v -> A l = R) : ∀ (f : Nat) (l : List Int), l.length < f -> l.length <= L -> bytesOk l = true -> u8ValidC l = v ->
  lpUValid_10 A f l = R
 | 0, l, h, _, _, _ => by omega
 | f + 1, l, hf, hL, hb, hv => by
  show lpUValid_10s (lpUValid_10 A f) A l = R
  unfold lpUValid_10s
  refine c_split (fun h => ?_) fun h => hA l hL hb hv
  have b1 := bytesOk_drop hb 8
  have b2 := bytesOk_drop hb 16
  have b3 := bytesOk_drop hb 24
  have l1 : 8 <= (l.drop 8).length := by simp only [List.length_drop]; omega
  have l2 : 8 <= (l.drop 16).length := by simp only [List.length_drop]; omega
  have l3 : 8 <= (l.drop 24).length := by simp only [List.length_drop]; omega
  obtain ⟨n0, e0, p0, q0⟩ := word_spec hb (show 8 <= l.length by omega)
  obtain ⟨n1, e1, p1, q1⟩ := word_spec b1 l1
  obtain ⟨n2, e2, p2, q2⟩ := word_spec b2 l2
  obtain ⟨n3, e3, p3, q3⟩ := word_spec b3 l3
  have two : ∀ (l : List Int), bytesOk l = true -> 8 <= l.length -> (bytesOk l && decide (8 <= l.length)) = true := fun l h1 h2 => by rw [h1, decide_eq_true h2]; rfl
  refine b_pos (two _ hb (by omega)) (c_pos (by omega) (b_pos (two _ b1 l1) (c_pos (by omega) (b_pos (two _ b2 l2) (c_pos (by omega) (b_pos (two _ b3 l3) ?_))))))
  dsimp only
  rw [e0, e1, e2, e3]
  rw [orN p0 p1, orN p2 p3, orN (Nat.or_lt_two_pow p0 p1) (Nat.or_lt_two_pow p2 p3)]
  rw [show (9259542123273814144 : Int) = ((MASK : Nat) : Int) from rfl, andN (Nat.or_lt_two_pow (Nat.or_lt_two_pow p0 p1) (Nat.or_lt_two_pow p2 p3)) (by decide)]
  refine c_split (fun hz => c_pos (by omega) ?_) fun _ => hA l hL hb hv
  have hz : ((n0 ||| n1) ||| (n2 ||| n3)) &&& MASK = 0 := by omega
  rw [or_zero, or_zero, or_zero] at hz
  have hasc := ascii_add (ascii_add (ascii_add (q0 hz.1.1) (q1 hz.1.2)) (q2 hz.2.1)) (q3 hz.2.2)
  exact uv_inner A R L v hA f _ (by simp only [List.length_drop]; omega) (by simp only [List.length_drop]; omega) (bytesOk_drop hb 32) ((ascii_drop 32 l hasc).trans hv)

/-! ### the table -/
def tabSpec (n s lo hi : Int) : Bool :=
 decide ((s = 1 /\ (n < 194 \/ 244 < n)) \/ (s = 2 /\ 194 <= n /\ n <= 223 /\ lo = 128 /\ hi = 191) \/ (s = 3 /\ 224 <= n /\ n <= 239 /\ lo = (if n = 224 then 160 else 128) /\ hi = (if n = 237 then 159 else 191)) \/
  (s = 4 /\ 240 <= n /\ n <= 244 /\ lo = (if n = 240 then 144 else 128) /\ hi = (if n = 244 then 143 else 191)))
def tabB (n : Nat) : Bool := match u8FirstC[n]? with
 | some f => match u8AcceptC[(Int.fdiv f (2 ^ 4)).toNat]? with
  | some (.agg [.int .u8 lo, .int .u8 hi]) => decide (0 <= Int.fdiv f (2 ^ 4) /\ Int.fdiv f (2 ^ 4) < 16) && tabSpec n (IntKind.i64.wrap (IntKind.u8.wrap ((BitVec.ofInt 8 f &&& BitVec.ofInt 8 7).toNat))) lo hi
  | _ => false
 | none => false
theorem tab_all : ∀ n : Fin 256, 128 <= n.val -> tabB n.val = true := by decide +kernel
theorem tab_of {e : Int} (h1 : 128 <= e) (h2 : e <= 255) : ∃ f lo hi, u8First[e.toNat]? = some f /\ (0 <= Int.fdiv f (2 ^ 4) /\ Int.fdiv f (2 ^ 4) < 16) /\ u8Accept[(Int.fdiv f (2 ^ 4)).toNat]? = some (.agg [.int .u8 lo, .int .u8 hi]) /\
  tabSpec e (IntKind.i64.wrap (IntKind.u8.wrap ((BitVec.ofInt 8 f &&& BitVec.ofInt 8 7).toNat))) lo hi = true := by
 have h := tab_all ⟨e.toNat, by omega⟩ (by simp; omega)
 simp only at h
 unfold tabB at h
 unfold u8First u8Accept
 simp only [shut_eq]
 split at h
 ·rename_i f hf
  split at h
  ·rename_i lo hi ha
   simp only [Bool.and_eq_true, decide_eq_true_eq] at h
   refine ⟨f, lo, hi, hf, h.1, ha, ?_⟩
   rw [show e = ((e.toNat : Nat) : Int) by omega]
   exact h.2
  ·cases h
 ·cases h

theorem at_true {l : List Int} {k : Nat} {x : Int} (h : l[k]? = some x) : u8At l k = decide (128 <= x /\ x < 192) := by unfold u8At; rw [h]
theorem uv_lp : ∀ (f : Nat) (l : List Int), l.length < f -> bytesOk l = true -> lpUValid_2 (some (.ret [.cl (.bool false)] [])) (some (.ret [.cl (.bool true)] [])) f l = some (.ret [.cl (.bool (u8ValidC l))] [])
 | 0, l, h, _ => by omega
 | f + 1, l, hf, hb => by
  have again : ∀ l' : List Int, l'.length < l.length -> bytesOk l' = true -> u8ValidC l' = u8ValidC l -> lpUValid_2 (some (.ret [.cl (.bool false)] [])) (some (.ret [.cl (.bool true)] [])) f l' = some (.ret [.cl (.bool (u8ValidC l))] []) := fun l' h1 h2 h3 => by
   rw [<- h3]; exact uv_lp f l' (by omega) h2
  show lpUValid_2s (lpUValid_2 (some (.ret [.cl (.bool false)] [])) (some (.ret [.cl (.bool true)] [])) f) (some (.ret [.cl (.bool false)] [])) (some (.ret [.cl (.bool true)] [])) l = _
  generalize lpUValid_2 (some (.ret [.cl (.bool false)] [])) (some (.ret [.cl (.bool true)] [])) f = ag at again
  have hl := (bytesOk_spec hb).1
  unfold lpUValid_2s
  cases l with
  | nil => exact c_neg (by simp) rfl
  | cons c r =>
  have hc := bytesOk_at hb (i := 0) (x := c) rfl
  have hbr := bytesOk_tail hb
  simp only [List.tail_cons] at hbr
  refine c_pos (by simp only [List.length_cons]; omega) (c_pos (by simp only [List.length_cons]; omega) ?_)
  simp only [List.getElem?_cons_zero, Option.bind_some]
  refine c_split (fun h7 => c_pos (by simp only [List.length_cons]; omega) ?_) fun h7 => ?_
  · -- characters of one byte
   have hone : u8ValidC r = u8ValidC (c :: r) := by
    rw [valid_step (c :: r), if_neg (by simp), rune_cons, if_pos h7, if_neg (by omega)]; rfl
   rw [List.drop_one, List.tail_cons]
   have two : ∀ (l : List Int), bytesOk l = true -> 8 <= l.length -> (bytesOk l && decide (8 <= l.length)) = true := fun l h1 h2 => by rw [h1, decide_eq_true h2]; rfl
   refine c_split (fun h8 => b_pos (two r hbr (by omega)) ?_) fun _ => again r (by simp) hbr hone
   obtain ⟨n0, e0, p0, q0⟩ := word_spec hbr (show 8 <= r.length by omega)
   rw [e0, show (9259542123273814144 : Int) = ((MASK : Nat) : Int) from rfl, andN p0 (by decide)]
   refine c_split (fun hz => c_pos (by omega) ?_) fun _ => again r (by simp) hbr hone
   have a0 := q0 (by omega)
   have hd8 := (ascii_drop 8 r a0).trans hone
   have hb8 := bytesOk_drop hbr 8
   refine c_split (fun h16 => ?_) fun _ => again _ (by simp only [List.length_drop, List.length_cons]; omega) hb8 hd8
   have hb16 := bytesOk_drop hb8 8
   have l1 : 8 <= (List.drop 8 r).length := by omega
   have l2 : 8 <= (List.drop 8 (List.drop 8 r)).length := by rw [List.length_drop]; omega
   obtain ⟨n1, e1, p1, q1⟩ := word_spec hb8 l1
   obtain ⟨n2, e2, p2, q2⟩ := word_spec hb16 l2
   refine b_pos (two _ hb8 l1) (c_pos (by omega) (b_pos (two _ hb16 l2) ?_))
   rw [e1, e2, orN p1 p2, andN (Nat.or_lt_two_pow p1 p2) (by decide)]
   refine c_split (fun hz => c_pos (by omega) ?_) fun _ => again _ (by simp only [List.length_drop, List.length_cons]; omega) hb8 hd8
   have hz : (n1 ||| n2) &&& MASK = 0 := by omega
   rw [or_zero] at hz
   have a12 := ascii_add (q1 hz.1) (q2 hz.2)
   have hb24 := bytesOk_drop hb8 16
   have hd24 := (ascii_drop 16 _ a12).trans hd8
   rw [shut_eq]
   exact uv_inner ag _ (List.drop 16 (List.drop 8 r)).length (u8ValidC (c :: r)) (fun l' h1 h2 h3 => again l' (by simp only [List.length_drop, List.length_cons] at h1 ⊢; omega) h2 h3) FUEL _ (by simp only [List.length_cons] at hl; simp only [List.length_drop]; unfold FUEL; omega) (Nat.le_refl _) hb24 hd24
  ·obtain ⟨fv, lo, hi, t1, t2, t3, t4⟩ := tab_of (e := c) (by omega) hc.2
   refine c_pos (by omega) (c_pos (by omega) ?_)
   simp only [t1, Option.bind_some]
   refine c_pos t2.1 (c_pos t2.2 ?_)
   simp only [t3, Option.bind_some]
   refine b_pos rfl ?_
   generalize IntKind.i64.wrap (IntKind.u8.wrap ((BitVec.ofInt 8 fv &&& BitVec.ofInt 8 7).toNat)) = s at t4 ⊢
   have t4 := of_decide_eq_true t4
   show cond (decide (s = 2)) _ _ = _
   simp only [show cvInt ((cell1 (CV.agg [.int .u8 lo, .int .u8 hi])).headD .nili) = lo from rfl, show cvInt ((cell1 (CV.agg [.int .u8 lo, .int .u8 hi])).tail.headD .nili) = hi from rfl]
   have bad : u8RuneC (c :: r) = 0 -> (some (Out.ret [.cl (.bool false)] []) : Option Out) = some (.ret [.cl (.bool (u8ValidC (c :: r)))] []) := fun h => by
    rw [valid_step (c :: r), if_neg (by simp), if_pos h]
   have good : ∀ k : Nat, 0 < k -> u8RuneC (c :: r) = k -> k <= (c :: r).length -> ag ((c :: r).drop k) = some (.ret [.cl (.bool (u8ValidC (c :: r)))] []) := fun k h0 h hk => by
    refine again _ (by simp only [List.length_drop, List.length_cons] at hk ⊢; omega) (bytesOk_drop hb k) ?_
    rw [valid_step (c :: r), if_neg (by simp), if_neg (by omega), h]
    rfl
   have hx : ∀ k, k < r.length -> ∃ x, r[k]? = some x /\ 0 <= x /\ x <= 255 := fun k hk => by
    obtain ⟨x, hx⟩ := get_some (b := r) hk
    exact ⟨x, hx, bytesOk_at hbr hx⟩
   have hnone : ∀ k, r.length <= k -> ¬ u8At r k = true := fun k hk => by unfold u8At; rw [List.getElem?_eq_none hk]; simp
   have hf : ∀ (k : Nat) (x : Int), r[k]? = some x -> (x < 128 \/ 191 < x) -> ¬ u8At r k = true := fun k x hx h => by rw [at_true hx, decide_eq_true_eq]; omega
   have ht : ∀ (k : Nat) (x : Int), r[k]? = some x -> 128 <= x -> x <= 191 -> u8At r k = true := fun k x hx h h' => by rw [at_true hx, decide_eq_true_eq]; omega
   have hd : ∀ x, r[0]? = some x -> r.headD 0 = x := fun x hx => by cases r with | nil => cases hx | cons y t => simpa using hx
   simp only [List.length_cons] at good ⊢
   rcases t4 with ⟨rfl, hn⟩ | ⟨rfl, hn1, hn2, rfl, rfl⟩ | ⟨rfl, hn1, hn2, hlo, hhi⟩ | ⟨rfl, hn1, hn2, hlo, hhi⟩
   ·refine c_neg (by omega) (c_neg (by omega) (c_neg (by omega) (bad ?_)))
    rw [rune_cons, if_neg h7, if_neg (by omega), if_neg (by omega), if_neg (by omega)]
   ·have zero : ¬ u8At r 0 = true -> u8RuneC (c :: r) = 0 := fun h => by rw [rune_cons, if_neg h7, if_neg (fun h' => h h'.2.2), if_neg (by omega), if_neg (by omega)]
    refine c_pos rfl (c_split (fun hs => bad (zero (hnone 0 (by omega)))) fun hs => ?_)
    obtain ⟨x, hx0, hxr⟩ := hx 0 (by omega)
    simp only [List.getElem?_cons_succ, hx0, Option.bind_some]
    refine c_pos (by omega) (c_split (fun hs => bad (zero (hf 0 x hx0 (by omega)))) fun hs1 => c_pos (by omega) (c_split (fun hs => bad (zero (hf 0 x hx0 (by omega)))) fun hs2 => c_pos (by omega) ?_))
    exact good 2 (by omega) (by rw [rune_cons, if_neg h7, if_pos ⟨hn1, hn2, ht 0 x hx0 (by omega) (by omega)⟩]; rfl) (by omega)
   ·have zero : ¬ (u8At r 0 = true /\ u8At r 1 = true /\ (c = 224 -> 160 <= r.headD 0) /\ (c = 237 -> r.headD 0 < 160)) -> u8RuneC (c :: r) = 0 := fun h => by rw [rune_cons, if_neg h7, if_neg (by omega), if_neg (fun h' => h h'.2.2), if_neg (by omega)]
    refine c_neg (by omega) (c_pos rfl (c_split (fun hs => bad (zero fun h => hnone 1 (by omega) h.2.1)) fun hs => ?_))
    obtain ⟨x, hx0, hxr⟩ := hx 0 (by omega)
    obtain ⟨y, hy0, hyr⟩ := hx 1 (by omega)
    have hdx := hd x hx0
    simp only [List.getElem?_cons_succ, hx0, hy0, Option.bind_some]
    have zx : (x < lo \/ hi < x) -> u8RuneC (c :: r) = 0 := fun hh => zero fun h => by
     have h1 := h.1
     rw [at_true hx0, decide_eq_true_eq] at h1
     rw [hdx] at h
     have := h.2.2.1
     have := h.2.2.2
     rw [hlo, hhi] at hh
     split at hh <;> split at hh <;> omega
    refine c_pos (by omega) (c_split (fun hs => bad (zx (.inl hs))) fun hs1 => c_pos (by omega) (c_split (fun hs => bad (zx (.inr hs))) fun hs2 => ?_))
    refine c_pos (by omega) (c_split (fun hs => bad (zero fun h => hf 1 y hy0 (by omega) h.2.1)) fun hs3 => c_pos (by omega) (c_split (fun hs => bad (zero fun h => hf 1 y hy0 (by omega) h.2.1)) fun hs4 => c_pos (by omega) ?_))
    refine good 3 (by omega) ?_ (by omega)
    rw [hlo] at hs1
    rw [hhi] at hs2
    rw [rune_cons, if_neg h7, if_neg (by omega), if_pos ⟨hn1, hn2, ht 0 x hx0 (by split at hs1 <;> omega) (by split at hs2 <;> omega), ht 1 y hy0 (by omega) (by omega), fun e => by rw [if_pos e] at hs1; rw [hdx]; omega, fun e => by rw [if_pos e] at hs2; rw [hdx]; omega⟩]
    rfl
   ·have zero : ¬ (u8At r 0 = true /\ u8At r 1 = true /\ u8At r 2 = true /\ (c = 240 -> 144 <= r.headD 0) /\ (c = 244 -> r.headD 0 < 144)) -> u8RuneC (c :: r) = 0 := fun h => by rw [rune_cons, if_neg h7, if_neg (by omega), if_neg (by omega), if_neg (fun h' => h h'.2.2)]
    refine c_neg (by omega) (c_neg (by omega) (c_pos rfl (c_split (fun hs => bad (zero fun h => hnone 2 (by omega) h.2.2.1)) fun hs => ?_)))
    obtain ⟨x, hx0, hxr⟩ := hx 0 (by omega)
    obtain ⟨y, hy0, hyr⟩ := hx 1 (by omega)
    obtain ⟨z, hz0, hzr⟩ := hx 2 (by omega)
    have hdx := hd x hx0
    simp only [List.getElem?_cons_succ, hx0, hy0, hz0, Option.bind_some]
    have zx : (x < lo \/ hi < x) -> u8RuneC (c :: r) = 0 := fun hh => zero fun h => by
     have h1 := h.1
     rw [at_true hx0, decide_eq_true_eq] at h1
     rw [hdx] at h
     have := h.2.2.2.1
     have := h.2.2.2.2
     rw [hlo, hhi] at hh
     split at hh <;> split at hh <;> omega
    refine c_pos (by omega) (c_split (fun hs => bad (zx (.inl hs))) fun hs1 => c_pos (by omega) (c_split (fun hs => bad (zx (.inr hs))) fun hs2 => ?_))
    refine c_pos (by omega) (c_split (fun hs => bad (zero fun h => hf 1 y hy0 (by omega) h.2.1)) fun hs3 => c_pos (by omega) (c_split (fun hs => bad (zero fun h => hf 1 y hy0 (by omega) h.2.1)) fun hs4 => ?_))
    refine c_pos (by omega) (c_split (fun hs => bad (zero fun h => hf 2 z hz0 (by omega) h.2.2.1)) fun hs5 => c_pos (by omega) (c_split (fun hs => bad (zero fun h => hf 2 z hz0 (by omega) h.2.2.1)) fun hs6 => c_pos (by omega) ?_))
    refine good 4 (by omega) ?_ (by omega)
    rw [hlo] at hs1
    rw [hhi] at hs2
    rw [rune_cons, if_neg h7, if_neg (by omega), if_neg (by omega), if_pos ⟨hn1, hn2, ht 0 x hx0 (by split at hs1 <;> omega) (by split at hs2 <;> omega), ht 1 y hy0 (by omega) (by omega), ht 2 z hz0 (by omega) (by omega), fun e => by rw [if_pos e] at hs1; rw [hdx]; omega, fun e => by rw [if_pos e] at hs2; rw [hdx]; omega⟩]
    rfl
theorem nUValid (b : List Int) (hp : bytesOk b = true) : gUValid b = some (.ret [.cl (.bool (u8Valid b))] []) := by
 unfold gUValid u8Valid
 simp only [shut_eq]
 refine b_pos (by simp) (c_pos (by omega) ?_)
 rw [show (((b.length : Nat) : Int)).toNat = b.length from rfl, List.take_length]
 exact uv_lp FUEL b (by have := (bytesOk_spec hp).1; unfold FUEL; omega) hp
end Go.Proofs.YtfkpjbbkdkcdcabDoorA

namespace Go.Proofs.YtfkpjbbkdkcdcabDoorA
open IntWalk (i64_in u8_in u32_in u64_in i64_quo u8_quo rem_in)

/-! ### bits -/
theorem mask_mod : ∀ (k : Fin 8) (n : Fin 256), (IntKind.u8.wrap ((BitVec.ofInt 8 (n.val : Int) &&& BitVec.ofInt 8 (IntKind.u8.wrap (IntKind.u8.wrap (1 * 2 ^ (min k.val 8)) - 1))).toNat) = 0) = ((n.val : Int) % 2 ^ k.val = 0) := by decide +kernel
theorem last_get (y : Int) (r : List Int) (x : Int) : (x :: y :: r)[(r.length + 1)]? = some ((y :: r).getLast (by simp)) := by
 rw [List.getElem?_cons_succ, List.getLast_eq_getElem]
 simp
theorem nDStrip (b : List Int) (hp : bytesOk b = true) : gDStrip b = some (.ret [.cl (.bool (derStrip b))] []) := by
 unfold gDStrip derStrip
 rw [shut_eq]
 match b, hp with
 | [], _ => rfl
 | [x], hp =>
  have hx := bytesOk_at hp (i := 0) (x := x) rfl
  refine c_neg (by simp) (c_pos (by simp) ?_)
  simp only [List.getElem?_cons_zero, Option.bind_some]
  refine c_split (fun h => ret_bool ?_) fun h => c_pos (by simp) (c_pos (by simp) rfl)
  exact (decide_eq_false (by omega)).symm
 | x :: y :: r, hp =>
  have hx := bytesOk_at hp (i := 0) (x := x) rfl
  have hl := (bytesOk_spec hp).1
  have hg := last_get y r x
  have hz := bytesOk_at hp hg
  simp only [List.length_cons] at hl
  simp only [derStripC]
  generalize (y :: r).getLast (by simp) = z at *
  refine c_neg (by simp only [List.length_cons]; omega) (c_pos (by simp only [List.length_cons]; omega) ?_)
  simp only [List.getElem?_cons_zero, Option.bind_some]
  refine c_split (fun h => ret_bool ?_) fun h => c_neg (by simp only [List.length_cons]; omega) ?_
  ·rw [show decide (x <= 7) = false from decide_eq_false (by omega)]; rfl
  ·rw [show IntKind.i64.wrap ((((x :: y :: r).length : Nat) : Int) - 1) = ((r.length + 1 : Nat) : Int) from (i64_in ((((x :: y :: r).length : Nat) : Int) - 1) (by simp only [List.length_cons]; omega)).trans (by simp only [List.length_cons]; omega)]
   refine c_pos (by omega) (c_pos (by simp only [List.length_cons]; omega) ?_)
   rw [show (((r.length + 1 : Nat) : Int)).toNat = r.length + 1 from rfl, hg, Option.bind_some]
   refine c_pos (by simp only [List.length_cons]; omega) (c_neg (by omega) (ret_bool ?_))
   have := mask_mod ⟨x.toNat, by omega⟩ ⟨z.toNat, by omega⟩
   simp only [Int.toNat_of_nonneg hz.1] at this
   rw [show decide (x <= 7) = true from decide_eq_true (by omega), Bool.true_and]
   rw [Bool.eq_iff_iff]
   simp only [decide_eq_true_eq]
   rw [this]
/-! ### numbers by 7 bits -/
theorem or7 {n x : Int} (h0 : 0 <= n) (h1 : n < 72057594037927936) (h2 : 0 <= x) (h3 : x <= 127) : ((BitVec.ofInt 64 (n * 128) ||| BitVec.ofInt 64 x).toNat : Int) = n * 128 + x := by
 obtain ⟨a, rfl⟩ : ∃ a : Nat, n = a := ⟨n.toNat, by omega⟩
 obtain ⟨b, rfl⟩ : ∃ b : Nat, x = b := ⟨x.toNat, by omega⟩
 rw [BitVec.toNat_or]
 have e1 : (BitVec.ofInt 64 ((a : Int) * 128)).toNat = 2 ^ 7 * a := by rw [BitVec.toNat_ofInt]; omega
 have e2 : (BitVec.ofInt 64 (b : Int)).toNat = b := by rw [BitVec.toNat_ofInt]; omega
 rw [e1, e2, <- Nat.two_pow_add_eq_or_of_lt (by omega : b < 2 ^ 7)]
 omega
theorem and7 : ∀ n : Fin 256, IntKind.u8.wrap ((BitVec.ofInt 8 (n.val : Int) &&& ~~~ BitVec.ofInt 8 128).toNat) = (n.val : Int) % 128 /\ (IntKind.u8.wrap ((BitVec.ofInt 8 (n.val : Int) &&& BitVec.ofInt 8 128).toNat) = 0) = ((n.val : Int) < 128) := by decide +kernel
theorem num_go (b : List Int) (hb : bytesOk b = true) : ∀ (f i : Nat) (n : Int), i <= b.length -> b.length < f + i -> 0 <= n -> n < 4294967296 -> 
  lpONumber_3 (fun _ _ _ _ _ _ _ _ _ _ _ _ _ _ _ => some (.ret [.cl (.int .u32 0), .cl (.int .i64 0)] [])) (fun _ _ _ _ _ _ _ _ _ _ _ _ _ _ _ _ _ => some (.ret [.cl (.int .u32 0), .cl (.int .i64 0)] [])) (fun y33 y34 _ _ _ _ _ _ _ _ _ _ _ _ _ _ _ _ _ _ _ _ _ _ _ _ _ _ _ _ _ => some (.ret [.cl (.int .u32 y33), .cl (.int .i64 y34)] [])) (fun _ _ _ _ _ _ _ _ _ _ _ _ _ _ => some (.ret [.cl (.int .u32 0), .cl (.int .i64 0)] []))
   (fun y33 y34 _ _ _ _ _ _ _ _ _ _ _ _ _ _ _ _ _ _ _ _ _ _ _ _ _ _ => some (.ret [.cl (.int .u32 y33), .cl (.int .i64 y34)] [])) (fun _ _ _ _ => some (.ret [.cl (.int .u32 0), .cl (.int .i64 0)] [])) f n b (b.length : Int) i = some (.ret [.cl (.int .u32 (oidNumG n i (b.drop i)).1), .cl (.int .i64 (oidNumG n i (b.drop i)).2)] [])
 | 0, i, n, hi, hf, _, _ => by omega
 | f + 1, i, n, hi, hf, h0, h1 => by
  show lpONumber_3s (lpONumber_3 (fun _ _ _ _ _ _ _ _ _ _ _ _ _ _ _ => some (.ret [.cl (.int .u32 0), .cl (.int .i64 0)] [])) (fun _ _ _ _ _ _ _ _ _ _ _ _ _ _ _ _ _ => some (.ret [.cl (.int .u32 0), .cl (.int .i64 0)] [])) (fun y33 y34 _ _ _ _ _ _ _ _ _ _ _ _ _ _ _ _ _ _ _ _ _ _ _ _ _ _ _ _ _ => some (.ret [.cl (.int .u32 y33), .cl (.int .i64 y34)] [])) (fun _ _ _ _ _ _ _ _ _ _ _ _ _ _ => some (.ret [.cl (.int .u32 0), .cl (.int .i64 0)] []))
   (fun y33 y34 _ _ _ _ _ _ _ _ _ _ _ _ _ _ _ _ _ _ _ _ _ _ _ _ _ _ => some (.ret [.cl (.int .u32 y33), .cl (.int .i64 y34)] [])) (fun _ _ _ _ => some (.ret [.cl (.int .u32 0), .cl (.int .i64 0)] [])) f) _ _ _ _ _ _ n b (b.length : Int) i = _
  have hl := (bytesOk_spec hb).1
  unfold lpONumber_3s
  refine c_split (fun h => c_pos (by omega) (c_pos h ?_)) fun h => ?_
  ·obtain ⟨c, hc⟩ := get_some (b := b) (i := i) (by omega)
   have hcr := bytesOk_at hb hc
   rw [show (i : Int).toNat = i from rfl, hc, Option.bind_some, drop_cons hc]
   have a7 := and7 ⟨c.toNat, by omega⟩
   simp only [Int.toNat_of_nonneg hcr.1] at a7
   have step : ∀ (X : Option Out), ¬ 33554431 < n -> ¬ ((i : Int) = 0 /\ c = 128) -> (IntKind.u64.wrap (n * 2 ^ 7) = n * 128) /\ IntKind.u64.wrap (IntKind.u8.wrap ((BitVec.ofInt 8 c &&& ~~~ BitVec.ofInt 8 128).toNat)) = c % 128 /\ IntKind.u64.wrap ((BitVec.ofInt 64 (n * 128) ||| BitVec.ofInt 64 (c % 128)).toNat) = n * 128 + c % 128 /\
     oidNumG n i (c :: b.drop (i + 1)) = if c < 128 then (n * 128 + c, (i : Int) + 1) else oidNumG (n * 128 + (c - 128)) ((i : Int) + 1) (b.drop (i + 1)) := fun X g1 g2 => by
    refine ⟨(u64_in _ (by omega)).trans (by omega), ?_, ?_, ?_⟩
    ·rw [a7.1]; exact u64_in _ (by omega)
    ·rw [or7 h0 (by omega) (by omega) (by omega)]; exact u64_in _ (by omega)
    ·conv => lhs; unfold oidNumG
     rw [if_neg (by rintro (h | h); exact g2 h; exact g1 h)]
   have stop : ((i : Int) = 0 /\ c = 128) \/ 33554431 < n -> (some (.ret [.cl (.int .u32 0), .cl (.int .i64 0)] []) : Option Out) = some (.ret [.cl (.int .u32 (oidNumG n i (c :: b.drop (i + 1))).1), .cl (.int .i64 (oidNumG n i (c :: b.drop (i + 1))).2)] []) := fun h => by
    unfold oidNumG
    rw [if_pos h]
   have go : ∀ (g1 : ¬ 33554431 < n) (g2 : ¬ ((i : Int) = 0 /\ c = 128)) (R : Option Out) (K : Int -> Int -> Option Out) (A : Option Out), True := fun _ _ _ _ _ => trivial
   refine c_split (fun hi0 => c_split (fun h128 => stop (.inl ⟨hi0, h128⟩)) fun h128 => c_split (fun hn => stop (.inr hn)) fun hn => ?_) fun hi0 => c_split (fun hn => stop (.inr hn)) fun hn => ?_
   ·obtain ⟨s1, s2, s3, s4⟩ := step none hn (by omega)
    dsimp only
    rw [s1, s2, s3, s4]
    refine c_split (fun hz => ?_) fun hz => ?_
    ·have hz : c < 128 := by rwa [a7.2] at hz
     rw [if_pos hz, show c % 128 = c by omega, show IntKind.u32.wrap (n * 128 + c) = n * 128 + c from u32_in _ (by omega), show IntKind.i64.wrap ((i : Int) + 1) = (i : Int) + 1 from i64_in _ (by omega)]
    ·have hz : ¬ c < 128 := by rwa [a7.2] at hz
     rw [if_neg hz, show c % 128 = c - 128 by omega, show IntKind.i64.wrap ((i : Int) + 1) = ((i + 1 : Nat) : Int) from (i64_in _ (by omega)).trans (by omega)]
     exact num_go b hb f (i + 1) _ (by omega) (by omega) (by omega) (by omega)
   ·obtain ⟨s1, s2, s3, s4⟩ := step none hn (by omega)
    dsimp only
    rw [s1, s2, s3, s4]
    refine c_split (fun hz => ?_) fun hz => ?_
    ·have hz : c < 128 := by rwa [a7.2] at hz
     rw [if_pos hz, show c % 128 = c by omega, show IntKind.u32.wrap (n * 128 + c) = n * 128 + c from u32_in _ (by omega), show IntKind.i64.wrap ((i : Int) + 1) = (i : Int) + 1 from i64_in _ (by omega)]
    ·have hz : ¬ c < 128 := by rwa [a7.2] at hz
     rw [if_neg hz, show c % 128 = c - 128 by omega, show IntKind.i64.wrap ((i : Int) + 1) = ((i + 1 : Nat) : Int) from (i64_in _ (by omega)).trans (by omega)]
     exact num_go b hb f (i + 1) _ (by omega) (by omega) (by omega) (by omega)
  ·rw [drop_nil (by omega)]
   rfl
theorem nONumber (b : List Int) (hp : bytesOk b = true) : gONumber b = some (.ret [.cl (.int .u32 (oidNumber b).1), .cl (.int .i64 (oidNumber b).2)] []) := by
 unfold gONumber oidNumber
 simp only [shut_eq]
 exact num_go b hp FUEL 0 0 (by omega) (by have := (bytesOk_spec hp).1; unfold FUEL; omega) (by omega) (by omega)
theorem nONumbers (b : List Int) (hp : true = true) : gONumbers b = some (.ret [.fn (.func 61) [] [.ptr 0 0 0]] [some ⟨.var [.cl (.sli .u8 b)], false⟩]) := rfl
end Go.Proofs.YtfkpjbbkdkcdcabDoorA

namespace Go.Proofs.YtfkpjbbkdkcdcabDoorA
open IntWalk (i64_in u8_in u32_in u64_in i64_quo u8_quo rem_in)

theorem numG_rng : ∀ (b : List Int) (n i : Int), (∀ x ∈ b, 0 <= x /\ x <= 255) -> 0 <= n -> 0 <= i -> (0 <= (oidNumG n i b).1 /\ (oidNumG n i b).1 <= 4294967295) /\ ((oidNumG n i b).2 = 0 \/ i < (oidNumG n i b).2 /\ (oidNumG n i b).2 <= i + b.length)
 | [], n, i, _, _, _ => by simp [oidNumG]
 | c :: r, n, i, hb, hn, hi => by
  have hc := hb c (by simp)
  unfold oidNumG
  split
  ·simp
  ·rename_i h
   split
   ·exact ⟨by omega, .inr (by simp only [List.length_cons]; omega)⟩
   ·have := numG_rng r (n * 128 + (c - 128)) (i + 1) (fun x hx => hb x (by simp [hx])) (by omega) (by omega)
    refine ⟨this.1, this.2.imp id fun h => ?_⟩
    simp only [List.length_cons]; omega
theorem number_rng {b : List Int} (hb : bytesOk b = true) : (0 <= (oidNumberC b).1 /\ (oidNumberC b).1 <= 4294967295) /\ ((oidNumberC b).2 = 0 \/ 0 < (oidNumberC b).2 /\ (oidNumberC b).2 <= b.length) := by
 have := numG_rng b 0 0 (bytesOk_spec hb).2 (by omega) (by omega)
 unfold oidNumberC
 exact ⟨this.1, this.2.imp id fun h => by omega⟩
theorem nums_more : ∀ (n m : Nat) (b : List Int), bytesOk b = true -> b.length <= n -> b.length <= m -> oidNumsF n b = oidNumsF m b
 | 0, 0, b, _, _, _ => rfl
 | 0, m + 1, b, _, h, _ => by
  have : b = [] := List.eq_nil_of_length_eq_zero (by omega)
  subst this; simp [oidNumsF]
 | n + 1, 0, b, _, _, h => by
  have : b = [] := List.eq_nil_of_length_eq_zero (by omega)
  subst this; simp [oidNumsF]
 | n + 1, m + 1, b, hb, h1, h2 => by
  unfold oidNumsF
  by_cases h : b = []
  ·rw [if_pos h, if_pos h]
  ·rw [if_neg h, if_neg h]
   by_cases h0 : (oidNumberC b).2 = 0
   ·rw [if_pos h0, if_pos h0]
   ·rw [if_neg h0, if_neg h0]
    have := (number_rng hb).2
    rw [nums_more n m _ (bytesOk_drop hb _) (by simp only [List.length_drop]; omega) (by simp only [List.length_drop]; omega)]
theorem nums_step {b : List Int} (hb : bytesOk b = true) : oidNumsC b = if b = [] then [] else if (oidNumberC b).2 = 0 then [((oidNumberC b).1, false)] else ((oidNumberC b).1, true) :: oidNumsC (b.drop (oidNumberC b).2.toNat) := by
 unfold oidNumsC
 cases b with
 | nil => rfl
 | cons c r =>
  rw [if_neg (by simp)]
  conv => lhs; rw [List.length_cons]; unfold oidNumsF
  rw [if_neg (by simp)]
  by_cases h0 : (oidNumberC (c :: r)).2 = 0
  ·rw [if_pos h0, if_pos h0]
  ·rw [if_neg h0, if_neg h0]
   have := (number_rng hb).2
   rw [nums_more _ _ _ (bytesOk_drop hb _) (by simp only [List.length_drop, List.length_cons] at *; omega) (Nat.le_refl _)]

/-! ### the iterator -/
def rowOf2 (p : Int × Bool) : List CV := [.int .u32 p.1, .bool p.2]
theorem it_lp (l : Nat) : ∀ (f : Nat) (b : List Int), bytesOk b = true -> b.length < f -> ∃ out, lpONums_0 l
  (fun _ _ _ _ _ _ _ _ _ _ _ _ _ _ y15 => some (.ret [] [some ⟨.var [.cl (.sli .u8 y15)], false⟩])) (fun _ _ _ _ _ _ _ _ _ _ _ _ _ _ _ _ y32 => some (.ret [] [some ⟨.var [.cl (.sli .u8 y32)], false⟩])) (fun _ _ y35 => some (.ret [] [some ⟨.var [.cl (.sli .u8 y35)], false⟩])) f b = some out /\ Hands out (some ((oidNumsC b).map rowOf2))
 | 0, b, _, h => by omega
 | f + 1, b, hb, hf => by
  have ih := fun b' h1 h2 => it_lp l f b' h1 h2
  generalize hag : lpONums_0 l (fun _ _ _ _ _ _ _ _ _ _ _ _ _ _ y15 => some (.ret [] [some ⟨.var [.cl (.sli .u8 y15)], false⟩])) (fun _ _ _ _ _ _ _ _ _ _ _ _ _ _ _ _ y32 => some (.ret [] [some ⟨.var [.cl (.sli .u8 y32)], false⟩])) (fun _ _ y35 => some (.ret [] [some ⟨.var [.cl (.sli .u8 y35)], false⟩])) f = ag at ih
  have e : lpONums_0 l (fun _ _ _ _ _ _ _ _ _ _ _ _ _ _ y15 => some (.ret [] [some ⟨.var [.cl (.sli .u8 y15)], false⟩])) (fun _ _ _ _ _ _ _ _ _ _ _ _ _ _ _ _ y32 => some (.ret [] [some ⟨.var [.cl (.sli .u8 y32)], false⟩])) (fun _ _ y35 => some (.ret [] [some ⟨.var [.cl (.sli .u8 y35)], false⟩])) (f + 1) b =
    lpONums_0s l ag (fun _ _ _ _ _ _ _ _ _ _ _ _ _ _ y15 => some (.ret [] [some ⟨.var [.cl (.sli .u8 y15)], false⟩])) (fun _ _ _ _ _ _ _ _ _ _ _ _ _ _ _ _ y32 => some (.ret [] [some ⟨.var [.cl (.sli .u8 y32)], false⟩])) (fun _ _ y35 => some (.ret [] [some ⟨.var [.cl (.sli .u8 y35)], false⟩])) b := by rw [<- hag]; rfl
  rw [e]
  unfold lpONums_0s
  rw [nums_step hb]
  by_cases h : b = []
  ·subst h
   exact ⟨_, c_neg (by simp) rfl, .inl rfl⟩
  ·have hlen : 0 < b.length := List.length_pos_iff.2 h
   rw [if_neg h]
   have hr := number_rng hb
   have e1 : oidNumber b = oidNumberC b := by unfold oidNumber; rw [shut_eq]
   rw [e1]
   by_cases h0 : (oidNumberC b).2 = 0
   ·rw [if_pos h0]
    refine ⟨.yld [.int .u32 (oidNumberC b).1, .bool (decide ((0 : Int) < (oidNumberC b).2))] (.ret [] [some ⟨.var [.cl (.sli .u8 b)], false⟩]) (.ret [] [some ⟨.var [.cl (.sli .u8 b)], false⟩]), c_pos (by omega) (b_pos hb (b_pos (Nat.beq_refl l) ?_)), ?_⟩
    ·dsimp only
     rw [decide_eq_true h0]; rfl
    ·refine ⟨?_, .inr rfl, .inl rfl⟩
     show [CV.int .u32 (oidNumberC b).1, .bool (decide ((0 : Int) < (oidNumberC b).2))] = [.int .u32 (oidNumberC b).1, .bool false]
     rw [decide_eq_false (by omega)]
   ·rw [if_neg h0]
    obtain ⟨out, g1, g2⟩ := ih (b.drop (oidNumberC b).2.toNat) (bytesOk_drop hb _) (by simp only [List.length_drop]; omega)
    refine ⟨.yld [.int .u32 (oidNumberC b).1, .bool (decide ((0 : Int) < (oidNumberC b).2))] (.ret [] [some ⟨.var [.cl (.sli .u8 b)], false⟩]) out, c_pos (by omega) (b_pos hb (b_pos (Nat.beq_refl l) ?_)), ?_⟩
    ·dsimp only
     rw [decide_eq_false h0]
     show yldO _ _ (cond (decide ((0 : Int) <= (oidNumberC b).2)) (cond (decide ((oidNumberC b).2 <= ((b.length : Nat) : Int))) (ag (List.drop (Int.toNat (oidNumberC b).2) b)) none) none) = _
     rw [decide_eq_true (show (0 : Int) <= (oidNumberC b).2 by omega), decide_eq_true (show (oidNumberC b).2 <= ((b.length : Nat) : Int) by omega)]
     simp only [cond_true]
     rw [g1]
     rfl
    ·refine ⟨?_, .inr rfl, g2⟩
     show [CV.int .u32 (oidNumberC b).1, .bool (decide ((0 : Int) < (oidNumberC b).2))] = [.int .u32 (oidNumberC b).1, .bool true]
     rw [decide_eq_true (by omega)]
theorem nONums (l : Nat) (b : List Int) (hp : bytesOk b = true) : ∃ out, gONums l b = some out /\ Hands out (some (oidRows (oidNums b))) := by
 unfold gONums oidRows oidNums
 simp only [shut_eq]
 obtain ⟨out, h1, h2⟩ := it_lp l FUEL b hp (by have := (bytesOk_spec hp).1; unfold FUEL; omega)
 exact ⟨out, by rw [Nat.beq_refl, cond_true]; exact h1, h2⟩

/-! ### the range over it -/
theorem first_min {n : Int} (h0 : 0 <= n) (h1 : n <= 4294967295) : ∃ x, cond (decide ((2 : Int) < n / 40)) 2 (n / 40) = x /\ 0 <= x /\ x <= 2 /\ [x, n - 40 * x] = oidFirstC n /\ 0 <= n - 40 * x := by
 unfold oidFirstC
 by_cases h : n < 80
 ·rw [if_pos h, decide_eq_false (by omega)]
  exact ⟨n / 40, rfl, by omega, by omega, by simp; omega, by omega⟩
 ·rw [if_neg h]
  by_cases h2 : 2 < n / 40
  ·rw [decide_eq_true h2]
   exact ⟨2, rfl, by omega, by omega, by simp, by omega⟩
  ·rw [decide_eq_false h2]
   exact ⟨n / 40, rfl, by omega, by omega, by simp; omega, by omega⟩
theorem rl_go (R0 : Option Out) (K : Nat -> List Int -> Option Out) : ∀ (ps : List (Int × Bool)) (o : List Int), (∀ p ∈ ps, 0 <= p.1 /\ p.1 <= 4294967295) -> o.length <= 24 ->
  rlOParse_3 (fun _ _ => R0) K (ps.map rowOf2) o.length o = match oidGo ps o with | some o' => K o'.length o' | none => R0
 | [], o, _, _ => rfl
 | (n, ok) :: ps, o, hp, ho => by
  have hn := hp (n, ok) (by simp)
  have ih := fun o' h => rl_go R0 K ps o' (fun p hp' => hp p (by simp [hp'])) h
  show rlOParse_3s (rlOParse_3 (fun _ _ => R0) K (ps.map rowOf2)) (fun _ _ => R0) K n ok o.length o = _
  unfold rlOParse_3s oidGo
  cases ok with
  | false => simp
  | true =>
   simp only [Bool.not_true, cond_false, Bool.true_eq_false, false_or]
   refine c_split (fun h => ?_) fun h => ?_
   ·rw [if_pos (by omega)]
   ·rw [if_neg (by omega)]
    refine c_split (fun h0 => ?_) fun h0 => ?_
    ·have : o = [] := List.eq_nil_of_length_eq_zero (by omega)
     subst this
     rw [if_pos rfl]
     obtain ⟨x, g1, g2, g3, g4, g5⟩ := first_min hn.1 hn.2
     rw [show IntKind.u32.wrap (Int.tdiv n 40) = n / 40 by rw [Int.tdiv_eq_ediv_of_nonneg hn.1]; exact u32_in _ (by simp only at hn; omega)]
     rw [g1, show IntKind.u32.wrap (40 * x) = 40 * x from u32_in _ (by omega), show IntKind.u32.wrap (n - 40 * x) = n - 40 * x from u32_in _ (by simp only at hn; omega)]
     rw [List.nil_append, List.cons_append, List.nil_append]
     rw [g4]
     have hlen : (oidFirstC n).length = 2 := by rw [<- g4]; rfl
     refine lim_in (by simp) (lim_in (by simp) (lim_in (by rw [hlen]; simp) (lim_in (by rw [hlen]; simp) (ih (oidFirstC n) (by omega)))))
    ·rw [if_neg (by intro e; subst e; simp at h0)]
     refine lim_in (by simp only [List.length_append, List.length_cons, List.length_nil]; omega) (lim_in (by simp only [List.length_append, List.length_cons, List.length_nil]; omega) (ih _ (by simp only [List.length_append, List.length_cons, List.length_nil]; omega)))
theorem nums_rng : ∀ (n : Nat) (b : List Int), bytesOk b = true -> ∀ p ∈ oidNumsF n b, 0 <= p.1 /\ p.1 <= 4294967295
 | 0, b, _, p, hp => by simp [oidNumsF] at hp
 | n + 1, b, hb, p, hp => by
  have hr := (number_rng hb).1
  unfold oidNumsF at hp
  split at hp
  ·simp at hp
  ·split at hp
   ·simp at hp; subst hp; exact hr
   ·rcases List.mem_cons.1 hp with rfl | hp
    ·exact hr
    ·exact nums_rng n _ (bytesOk_drop hb _) p hp
theorem nOParse (b : List Int) (hp : bytesOk b = true) : gOParse b = some (.ret [.cl (.sli .u32 (oidParse b).1), .cl (.int .i64 (oidParse b).2)] []) := by
 unfold gOParse
 refine b_pos hp (b_pos ?_ ?_)
 ·unfold oidRows
  rw [shut_eq, List.all_map, List.all_eq_true]
  intro p _
  rfl
 ·unfold oidRows oidNums oidParse oidParseC oidFit
  simp only [shut_eq]
  refine (rl_go _ _ (oidNumsC b) [] (nums_rng _ b hp) (by simp)).trans ?_
  cases oidGo (oidNumsC b) [] with
  | none => rfl
  | some o =>
   show cond (!(oidFitC o)) _ _ = _
   cases h : oidFitC o <;> simp [h]

/-! ### as the document reads them -/
theorem numG_cons (n i c : Int) (r : List Int) : oidNumG n i (c :: r) = if (i = 0 /\ c = 128) \/ 33554431 < n then (0, 0) else if c < 128 then (n * 128 + c, i + 1) else oidNumG (n * 128 + (c - 128)) (i + 1) r := rfl
end Go.Proofs.YtfkpjbbkdkcdcabDoorA

namespace Go.Proofs.YtfkpjbbkdkcdcabDoorA
open IntWalk (i64_in u8_in u32_in u64_in i64_quo u8_quo rem_in)

theorem deepOk_spec {n : Int} (h : deepOk n = true) : 0 <= n /\ n <= 1000 := by
 unfold deepOk at h; rw [shut_eq] at h; exact of_decide_eq_true h
theorem deepOk_of {n : Int} (h : 0 <= n /\ n <= 1000) : deepOk n = true := by
 unfold deepOk; rw [shut_eq]; exact decide_eq_true h

theorem nDFits (tag : Int) (b : List Int) (hp : bytesOk b = true) : gDFits tag b = some (.ret [.cl (.bool (derFits tag b))] []) := by
 unfold gDFits derFits derFitsC derNumber derStrip oidParse u8Valid
 simp only [shut_eq]
 refine c_split (fun h => ?_) fun h => ?_
 ·rw [if_pos h]
  match b, hp with
  | [], _ => rfl
  | [x], _ =>
   refine c_pos (by simp) (c_pos (by simp) ?_)
   simp only [List.getElem?_cons_zero, Option.bind_some]
   refine c_split (fun h => ret_bool ?_) fun h => c_pos (by simp) (ret_bool ?_)
   ·simp [h]
   ·simp [h]
  | x :: y :: r, _ => exact c_neg (by simp only [List.length_cons]; omega) (ret_bool (by simp))
 ·rw [if_neg h]
  refine c_split (fun h => ?_) fun h => ?_
  ·rw [if_pos h]; exact b_pos hp rfl
  ·rw [if_neg h]
   refine c_split (fun h => ?_) fun h => ?_
   ·rw [if_pos h]; exact b_pos hp rfl
   ·rw [if_neg h]
    refine c_split (fun h => ?_) fun h => ?_
    ·rw [if_pos h]
     refine ret_bool ?_
     rw [Bool.eq_iff_iff]
     simp only [decide_eq_true_eq]
     cases b <;> simp
     omega
    ·rw [if_neg h]
     refine c_split (fun h => ?_) fun h => ?_
     ·rw [if_pos h]; exact b_pos hp rfl
     ·rw [if_neg h]
      refine c_split (fun h => ?_) fun h => ?_
      ·rw [if_pos h]; exact b_pos hp rfl
      ·rw [if_neg h]
       refine c_split (fun h => ?_) fun h => ?_
       ·rw [if_pos h]
       ·rw [if_neg h]
theorem rowsOk_map {l : List (List Int)} (h1 : l.length <= 1000000) (h2 : ∀ x ∈ l, rowB x = true) : rowsOk (l.map (CV.sli .u8)) = true := by
 unfold rowsOk
 rw [shut_eq]
 simp only [Bool.and_eq_true, decide_eq_true_eq, List.all_eq_true, List.length_map, List.mem_map]
 refine ⟨h1, fun x hx => ?_⟩
 obtain ⟨y, hy, rfl⟩ := hx
 exact h2 y hy
theorem rowsSorted_map (l : List (List Int)) : rowsSorted (l.map (CV.sli .u8)) = rowsSortedC l := by
 unfold rowsSorted
 rw [shut_eq, List.map_map]
 congr 1
 exact (List.map_congr_left fun x _ => rfl).trans (List.map_id l)

end Go.Proofs.YtfkpjbbkdkcdcabDoorA

namespace Go.Proofs.YtfkpjbbkdkcdcabDoorA
open IntWalk (i64_in u8_in u32_in u64_in i64_quo u8_quo rem_in)

/-! ### are two the same? -/
theorem nd_inv : ∀ {n : Nat} {x : List CV}, isNf n x = true -> ∃ m t b l, n = m + 1 /\ x = [.int .i64 t, .sli .u8 b, .slg 3 l] /\ b.length <= 100000000 /\ l.length <= 100000000 /\ ∀ c ∈ l, ∃ y, c = .agg y /\ isNf m y = true
 | 0, x, h => by simp [isNf] at h
 | n + 1, x, h => by
  unfold isNf at h
  split at h
  ·exact absurd h Bool.false_ne_true
  ·rename_i n' t b l hn
   obtain rfl : n = n' := by omega
   simp only [Bool.and_eq_true, decide_eq_true_eq, List.all_eq_true] at h
   refine ⟨n, t, b, l, rfl, rfl, h.1, h.2.1, fun c hc => ?_⟩
   have := h.2.2 c hc
   split at this
   ·exact ⟨_, rfl, this⟩
   ·exact absurd this Bool.false_ne_true
  ·exact absurd h Bool.false_ne_true
theorem nd_mk {n : Nat} {t : Int} {b : List Int} {l : List CV} (h1 : b.length <= 100000000) (h2 : l.length <= 100000000) (h3 : ∀ c ∈ l, ∃ y, c = .agg y /\ isNf n y = true) : isNf (n + 1) [.int .i64 t, .sli .u8 b, .slg 3 l] = true := by
 show (decide (b.length <= 100000000) && (decide (l.length <= 100000000) && l.all fun c => match c with | .agg x => isNf n x | _ => false)) = true
 simp only [Bool.and_eq_true, decide_eq_true_eq, List.all_eq_true]
 refine ⟨h1, h2, fun c hc => ?_⟩
 obtain ⟨y, rfl, hy⟩ := h3 c hc
 exact hy
theorem isNr_spec {n : Nat} {x : List CV} (h : isNr n x = true) : isNf n x = true := by unfold isNr at h; rwa [shut_eq] at h
theorem isNr_of {n : Nat} {x : List CV} (h : isNf n x = true) : isNr n x = true := by unfold isNr; rwa [shut_eq]
theorem isN_spec {x : List CV} (h : isN x = true) : ∃ n, isNf n x = true := by
 unfold isN at h; rw [shut_eq] at h; exact @of_decide_eq_true _ (Classical.propDecidable _) h
theorem isN_of {n : Nat} {x : List CV} (h : isNf n x = true) : isN x = true := by
 unfold isN; rw [shut_eq]; exact @decide_eq_true _ (Classical.propDecidable _) ⟨n, h⟩
theorem ndSame_true {a b : List CV} : ndSame a b = true ↔ a = b := by
 unfold ndSame; rw [shut_eq]; exact @decide_eq_true_iff _ (Classical.propDecidable _)
theorem ndSame_false {a b : List CV} : ndSame a b = false ↔ ¬a = b := by
 rw [<- Bool.not_eq_true, ndSame_true]

theorem same_nd_lp (rk : Nat) (k0 : Int -> Int -> List CV -> Int -> List CV -> Int -> List CV -> Nat -> Int -> List Int -> List CV -> List CV -> Int -> List CV -> Nat -> Int -> List Int -> List CV -> Bool -> Int -> List Int -> List CV -> Int -> List Int -> List CV -> Option Out) (k1 : Int -> Int -> List CV -> Int -> Int -> List Int -> List CV -> Int -> List Int -> List CV -> Option Out)
  (R : Bool -> Option Out) (ta tb : Int) (ba bb : List Int) (ka kb : List CV) (hk0 : k0 = (fun _ _ _ _ _ _ _ _ _ _ _ _ _ _ _ _ _ _ _ _ _ _ _ _ _ => R false)) (hk1 : k1 = (fun _ _ _ _ _ _ _ _ _ _ => R true))
  (hl : ka.length = kb.length) (hka : ka.length <= 100000000) (h1 : ∀ c ∈ ka, ∃ y, c = .agg y /\ isNf rk y = true) (n : Nat) (h2 : ∀ c ∈ kb, ∃ y, c = .agg y /\ isNf n y = true) : ∀ (f i : Nat), i <= ka.length -> ka.length < f + i ->
  lpRSame_4 rk k0 k1 f i ta ba ka tb bb kb = R (@decide (ka.drop i = kb.drop i) (Classical.propDecidable _))
 | 0, i, hi, hf => by omega
 | f + 1, i, hi, hf => by
  show lpRSame_4s rk (lpRSame_4 rk k0 k1 f) k0 k1 i ta ba ka tb bb kb = _
  unfold lpRSame_4s
  refine c_split (fun h => ?_) fun h => ?_
  ·obtain ⟨x, hx⟩ := get_some (b := ka) (i := i) (by omega)
   obtain ⟨y, hy⟩ := get_some (b := kb) (i := i) (by omega)
   obtain ⟨x', rfl, hx'⟩ := h1 x (List.mem_of_getElem? hx)
   obtain ⟨y', rfl, hy'⟩ := h2 y (List.mem_of_getElem? hy)
   refine c_pos (by omega) (c_pos h ?_)
   rw [show (i : Int).toNat = i from rfl, hx, Option.bind_some]
   obtain ⟨m, t, b, l, hm, hxe, _⟩ := nd_inv hx'
   obtain ⟨m', t', b', l', hm', hye, _⟩ := nd_inv hy'
   simp only [cell1, hxe, hye, List.headD_cons, List.tail_cons]
   refine b_pos rfl (c_pos (by omega) (c_pos (by omega) ?_))
   rw [hy, Option.bind_some]
   simp only [cell1, hxe, hye, List.headD_cons, List.tail_cons]
   refine b_pos rfl (b_pos ?_ ?_)
   ·simp only [Bool.and_eq_true]
    exact ⟨isNr_of (hxe ▸ hx'), isN_of (n := n) (hye ▸ hy')⟩
   have ed : (ka.drop i = kb.drop i) = (x' = y' /\ ka.drop (i + 1) = kb.drop (i + 1)) := by
    have ex : ka.drop i = .agg x' :: ka.drop (i + 1) := by
     obtain ⟨hlt, e⟩ := List.getElem?_eq_some_iff.1 hx
     rw [List.drop_eq_getElem_cons hlt, e]
    have ey : kb.drop i = .agg y' :: kb.drop (i + 1) := by
     obtain ⟨hlt, e⟩ := List.getElem?_eq_some_iff.1 hy
     rw [List.drop_eq_getElem_cons hlt, e]
    rw [ex, ey, List.cons.injEq, CV.agg.injEq]
   refine b_split (fun h5 => ?_) fun h5 => ?_
   ·rw [hk0]
    have h5 : ¬x' = y' := by rw [hxe, hye]; exact ndSame_false.1 (by simpa [cvInt, cvSli, cvSlg] using h5)
    show R false = _
    congr 1
    symm
    rw [@decide_eq_false_iff_not _ (Classical.propDecidable _), ed]
    exact fun e => h5 e.1
   ·have h5 : x' = y' := by rw [hxe, hye]; exact ndSame_true.1 (by simpa [cvInt, cvSli, cvSlg] using h5)
    rw [show IntKind.i64.wrap ((i : Int) + 1) = ((i + 1 : Nat) : Int) from (i64_in _ (by omega)).trans (by omega)]
    refine (same_nd_lp rk k0 k1 R ta tb ba bb ka kb hk0 hk1 hl hka h1 n h2 f (i + 1) (by omega) (by omega)).trans ?_
    congr 1
    rw [Bool.eq_iff_iff, @decide_eq_true_iff _ (Classical.propDecidable _), @decide_eq_true_iff _ (Classical.propDecidable _), ed]
    exact ⟨fun e => ⟨h5, e⟩, fun e => e.2⟩
  ·rw [hk1]
   show R true = _
   congr 1
   symm
   rw [@decide_eq_true_iff _ (Classical.propDecidable _), List.drop_eq_nil_of_le (by omega), List.drop_eq_nil_of_le (by omega)]
theorem nRSame (rk : Nat) (ta : Int) (ba : List Int) (ka : List CV) (tb : Int) (bb : List Int) (kb : List CV) (hp : (isNr (rk + 1) [.int .i64 ta, .sli .u8 ba, .slg 3 ka] && isN [.int .i64 tb, .sli .u8 bb, .slg 3 kb]) = true) : gRSame rk ta ba ka tb bb kb = some (.ret [.cl (.bool (ndSame [.int .i64 ta, .sli .u8 ba, .slg 3 ka] [.int .i64 tb, .sli .u8 bb, .slg 3 kb]))] []) := by
 simp only [Bool.and_eq_true] at hp
 obtain ⟨m, t, b, l, hm, he, hb, hl, hc⟩ := nd_inv (isNr_spec hp.1)
 obtain ⟨n, hn⟩ := isN_spec hp.2
 obtain ⟨m', t', b', l', hm', he', hb', hl', hc'⟩ := nd_inv hn
 simp only [List.cons.injEq, CV.int.injEq, CV.sli.injEq, CV.slg.injEq, true_and, and_true] at he he'
 obtain ⟨rfl, rfl, rfl⟩ := he
 obtain ⟨rfl, rfl, rfl⟩ := he'
 obtain rfl : m = rk := by omega
 have bad : ¬(ta = tb /\ ba = bb /\ ka = kb) -> false = ndSame [.int .i64 ta, .sli .u8 ba, .slg 3 ka] [.int .i64 tb, .sli .u8 bb, .slg 3 kb] := fun h => by
  symm
  rw [ndSame_false]
  simp only [List.cons.injEq, CV.int.injEq, CV.sli.injEq, CV.slg.injEq, true_and, and_true]
  exact h
 unfold gRSame listSame listSameC
 simp only [shut_eq]
 refine c_nsplit (fun h => ret_bool (bad fun e => h e.1)) fun h => b_pos (lenOk_of hb) (c_nsplit (fun h1 => ret_bool (bad fun e => h1 e.2.1)) fun h1 => c_nsplit (fun h2 => ret_bool (bad fun e => h2 (by rw [e.2.2]))) fun h2 => ?_)
 refine (same_nd_lp m _ _ (fun b => some (.ret [.cl (.bool b)] [])) ta tb ba bb ka kb rfl rfl (by omega) hl hc m' hc' FUEL 0 (by omega) (by unfold FUEL; omega)).trans (ret_bool ?_)
 rw [Bool.eq_iff_iff, @decide_eq_true_iff _ (Classical.propDecidable _), ndSame_true]
 simp only [List.drop_zero, List.cons.injEq, CV.int.injEq, CV.sli.injEq, CV.slg.injEq, true_and, and_true]
 exact ⟨fun e => ⟨h, h1, e⟩, fun e => e.2.2⟩
end Go.Proofs.YtfkpjbbkdkcdcabDoorA

namespace Go.Proofs.YtfkpjbbkdkcdcabDoorA
open IntWalk (i64_in u8_in u32_in u64_in i64_quo u8_quo rem_in)

/-! ### ranks -/
theorem tf_inv : ∀ {n : Nat} {x : List CV}, isTf n x = true -> ∃ m t b l, n = m + 1 /\ x = [.int .i64 t, .sli .u8 b, .slg 3 l] /\ (∀ z ∈ b, 0 <= z /\ z <= 255) /\ ∀ c ∈ l, ∃ y, c = .agg y /\ isTf m y = true
 | 0, x, h => by simp [isTf] at h
 | n + 1, x, h => by
  unfold isTf at h
  split at h
  ·exact absurd h Bool.false_ne_true
  ·rename_i n' t b l hn
   obtain rfl : n = n' := by omega
   simp only [Bool.and_eq_true, List.all_eq_true] at h
   refine ⟨n, t, b, l, rfl, rfl, fun z hz => byteB_spec (h.1 z hz), fun c hc => ?_⟩
   have := h.2 c hc
   split at this
   ·exact ⟨_, rfl, this⟩
   ·exact absurd this Bool.false_ne_true
  ·exact absurd h Bool.false_ne_true
theorem kids_congr {f g : List CV -> Int -> Int} : ∀ {l : List CV}, (∀ c ∈ l, ∀ x, f (cell1 c) x = g (cell1 c) x) -> ∀ x, kidsOf f l x = kidsOf g l x
 | [], _, x => rfl
 | c :: r, h, x => by
  simp only [kidsOf]
  split
  ·rfl
  ·rw [h c (List.mem_cons_self ..)]
   exact kids_congr (fun c' hc => h c' (List.mem_cons_of_mem _ hc)) _
theorem small_rk : ∀ {n m : Nat} {x : List CV}, isTf n x = true -> isTf m x = true -> ∀ z, smallF n x z = smallF m x z
 | n, m, x, hn, hm, z => by
  obtain ⟨n', t, b, l, rfl, rfl, _, hl⟩ := tf_inv hn
  obtain ⟨m', t', b', l', rfl, he, _, hl'⟩ := tf_inv hm
  simp only [List.cons.injEq, CV.int.injEq, CV.sli.injEq, CV.slg.injEq, true_and, and_true] at he
  obtain ⟨rfl, rfl, rfl⟩ := he
  show kidsOf (smallF n') l _ = kidsOf (smallF m') l _
  refine kids_congr (fun c hc x => ?_) _
  obtain ⟨y, rfl, hy⟩ := hl c hc
  obtain ⟨y', e, hy'⟩ := hl' _ hc
  cases e
  exact small_rk hy hy' x
theorem all_congr {f g : CV -> Bool} : ∀ {l : List CV}, (∀ c ∈ l, f c = g c) -> l.all f = l.all g
 | [], _ => rfl
 | c :: r, h => by rw [List.all_cons, List.all_cons, h c (List.mem_cons_self ..), all_congr fun c' hc => h c' (List.mem_cons_of_mem _ hc)]
theorem ok_rk : ∀ {n m : Nat} {x : List CV}, isTf n x = true -> isTf m x = true -> ∀ d, okF n d x = okF m d x
 | n, m, x, hn, hm, d => by
  obtain ⟨n', t, b, l, rfl, rfl, _, hl⟩ := tf_inv hn
  obtain ⟨m', t', b', l', rfl, he, _, hl'⟩ := tf_inv hm
  simp only [List.cons.injEq, CV.int.injEq, CV.sli.injEq, CV.slg.injEq, true_and, and_true] at he
  obtain ⟨rfl, rfl, rfl⟩ := he
  cases d with
  | zero => rfl
  | succ d =>
   show (derKnownC t && (if derBoxedC t = true then decide (b = []) && l.all fun c => okF n' d (cell1 c) else decide (l = []) && derFitsC t b)) = (derKnownC t && (if derBoxedC t = true then decide (b = []) && l.all fun c => okF m' d (cell1 c) else decide (l = []) && derFitsC t b))
   have : (l.all fun c => okF n' d (cell1 c)) = l.all fun c => okF m' d (cell1 c) := all_congr fun c hc => by
    obtain ⟨y, rfl, hy⟩ := hl c hc
    obtain ⟨y', e, hy'⟩ := hl' _ hc
    cases e
    exact ok_rk hy hy' d
   rw [this]
theorem bytes_rk : ∀ {n m : Nat} {x : List CV}, isTf n x = true -> isTf m x = true -> bytesF n x = bytesF m x
 | n, m, x, hn, hm => by
  obtain ⟨n', t, b, l, rfl, rfl, _, hl⟩ := tf_inv hn
  obtain ⟨m', t', b', l', rfl, he, _, hl'⟩ := tf_inv hm
  simp only [List.cons.injEq, CV.int.injEq, CV.sli.injEq, CV.slg.injEq, true_and, and_true] at he
  obtain ⟨rfl, rfl, rfl⟩ := he
  have : (l.map fun c => bytesF n' (cell1 c)) = l.map fun c => bytesF m' (cell1 c) := List.map_congr_left fun c hc => by
   obtain ⟨y, rfl, hy⟩ := hl c hc
   obtain ⟨y', e, hy'⟩ := hl' _ hc
   cases e
   exact bytes_rk hy hy'
  simp only [bytesF, this]
theorem rk_spec {a : List CV} {n : Nat} (h : isTf n a = true) : isTf (rkOf a) a = true := by
 unfold rkOf
 have hx : ∃ n, isTf n a = true := ⟨n, h⟩
 rw [@dif_pos _ (Classical.propDecidable _) hx]
 exact Classical.choose_spec hx
theorem isTr_spec {n : Nat} {x : List CV} (h : isTr n x = true) : isTf n x = true := by unfold isTr at h; rwa [shut_eq] at h
theorem isTr_of {n : Nat} {x : List CV} (h : isTf n x = true) : isTr n x = true := by unfold isTr; rwa [shut_eq]
theorem isT_spec {x : List CV} (h : isT x = true) : ∃ n, isTf n x = true := by
 unfold isT at h; rw [shut_eq] at h; exact @of_decide_eq_true _ (Classical.propDecidable _) h
theorem isSr_spec {n : Nat} {x : List CV} (h : isSr n x = true) : isTf n x = true /\ bulkF n x <= 30000 := by
 unfold isSr at h; rw [shut_eq] at h; simpa [Bool.and_eq_true] using h
theorem isSr_of {n : Nat} {x : List CV} (h : isTf n x = true) (h' : bulkF n x <= 30000) : isSr n x = true := by
 unfold isSr; rw [shut_eq]; simp [h, h']
theorem isS_spec {x : List CV} (h : isS x = true) : ∃ n, isTf n x = true /\ bulkF n x <= 30000 := by
 unfold isS at h; rw [shut_eq] at h; exact @of_decide_eq_true _ (Classical.propDecidable _) h
theorem isS_of {x : List CV} {n : Nat} (h : isTf n x = true) (h' : bulkF n x <= 30000) : isS x = true := by
 unfold isS; rw [shut_eq]; exact @decide_eq_true _ (Classical.propDecidable _) ⟨n, h, h'⟩
theorem isWr_spec {n : Nat} {x : List CV} (h : isWr n x = true) : isTf n x = true /\ bulkF n x <= 30000 /\ ∃ d, okF n d x = true := by
 unfold isWr at h; rw [shut_eq] at h; exact @of_decide_eq_true _ (Classical.propDecidable _) h
theorem isWr_of {n : Nat} {x : List CV} (h : isTf n x = true /\ bulkF n x <= 30000 /\ ∃ d, okF n d x = true) : isWr n x = true := by
 unfold isWr; rw [shut_eq]; exact @decide_eq_true _ (Classical.propDecidable _) h
theorem isW_of {x : List CV} {n : Nat} (h : isTf n x = true /\ bulkF n x <= 30000 /\ ∃ d, okF n d x = true) : isW x = true := by
 unfold isW; rw [shut_eq]; exact @decide_eq_true _ (Classical.propDecidable _) ⟨n, h⟩
theorem ndSmall_eq {n : Nat} {a : List CV} (h : isTf n a = true) (z : Int) : ndSmall a z = smallF n a z := by
 unfold ndSmall; rw [shut_eq]; exact small_rk (rk_spec h) h z
theorem ndSize_eq {n : Nat} {a : List CV} (h : isTf n a = true) (d : Int) : ndSize a d = if okF n d.toNat a = true then ((bytesF n a).1.length : Int) else -1 := by
 unfold ndSize; rw [shut_eq, ok_rk (rk_spec h) h, bytes_rk (rk_spec h) h]
theorem ndWrite_eq {n : Nat} {a : List CV} (h : isTf n a = true) : ndWrite a = if (bytesF n a).2 = true then ((bytesF n a).1, true) else ([], false) := by
 unfold ndWrite; rw [shut_eq, bytes_rk (rk_spec h) h]
theorem ndBytes_eq {n : Nat} {a : List CV} (h : isTf n a = true) : ndBytes a = if okF n 32 a = true /\ (bytesF n a).2 = true then ((bytesF n a).1, 0) else ([], 1) := by
 unfold ndBytes; rw [shut_eq, ok_rk (rk_spec h) h, bytes_rk (rk_spec h) h]
theorem ndFit_eq {n : Nat} {a : List CV} (h : isTf n a = true) : ndFit a = decide (okF n 32 a = true /\ (bytesF n a).2 = true) := by
 unfold ndFit; rw [shut_eq, ok_rk (rk_spec h) h, bytes_rk (rk_spec h) h]

/-! ### heads -/
theorem headOk_spec {tag n : Int} (h : headOk tag n = true) : (0 <= tag /\ tag <= 255) /\ 0 <= n /\ n < 16777216 := by
 unfold headOk at h; rw [shut_eq] at h; exact of_decide_eq_true h
end Go.Proofs.YtfkpjbbkdkcdcabDoorA

namespace Go.Proofs.YtfkpjbbkdkcdcabDoorA
open IntWalk (i64_in u8_in u32_in u64_in i64_quo u8_quo rem_in)

theorem u8_mod (n : Int) : IntKind.u8.wrap n = n % 256 := by simp [IntKind.wrap, IntKind.signed, IntKind.bits]
def putB (n : Int) : Nat -> List Int
 | 0 => []
 | c + 1 => n / 2 ^ (8 * c) % 256 :: putB n c
theorem put_lp (n : Int) (h0 : 0 <= n) (h1 : n < 16777216) : ∀ (c f : Nat) (l : List Int), c <= 3 -> c < f -> l.length + c <= 10 ->
  lpDPut_7 (fun y8 _ _ _ y12 => some (.ret [.ref 0 0 y8 true 1] [some ⟨.ints .u8 y12, false⟩])) f l.length n ((c : Int) - 1) l = some (.ret [.ref 0 0 (l ++ putB n c).length true 1] [some ⟨.ints .u8 (l ++ putB n c), false⟩])
 | c, 0, l, _, hf, _ => by omega
 | 0, f + 1, l, _, _, hl => by
  show lpDPut_7s (lpDPut_7 (fun y8 _ _ _ y12 => some (.ret [.ref 0 0 y8 true 1] [some ⟨.ints .u8 y12, false⟩])) f) (fun y8 _ _ _ y12 => some (.ret [.ref 0 0 y8 true 1] [some ⟨.ints .u8 y12, false⟩])) l.length n (((0 : Nat) : Int) - 1) l = _
  unfold lpDPut_7s
  refine c_neg (by omega) ?_
  simp only [putB, List.append_nil]
 | c + 1, f + 1, l, hc, hf, hl => by
  show lpDPut_7s (lpDPut_7 (fun y8 _ _ _ y12 => some (.ret [.ref 0 0 y8 true 1] [some ⟨.ints .u8 y12, false⟩])) f) (fun y8 _ _ _ y12 => some (.ret [.ref 0 0 y8 true 1] [some ⟨.ints .u8 y12, false⟩])) l.length n (((c + 1 : Nat) : Int) - 1) l = _
  unfold lpDPut_7s
  have e1 : ((c + 1 : Nat) : Int) - 1 = c := by omega
  rw [e1]
  refine c_pos (by omega) ?_
  simp only [show IntKind.i64.wrap ((8 : Int) * (c : Int)) = ((8 * c : Nat) : Int) from (i64_in _ (by omega)).trans (by omega)]
  refine c_neg (by omega) ?_
  have e2 : min ((8 * c : Nat) : Int).toNat 64 = 8 * c := by show min (8 * c) 64 = 8 * c; omega
  simp only [e2]
  have e3 : IntKind.u8.wrap (Int.fdiv n (2 ^ (8 * c))) = n / 2 ^ (8 * c) % 256 := by
   have hc2 : c = 0 \/ c = 1 \/ c = 2 := by omega
   rw [u8_mod]
   rcases hc2 with rfl | rfl | rfl <;> rw [Int.fdiv_eq_ediv_of_nonneg n (by decide)]
  rw [e3, show IntKind.i64.wrap ((c : Int) - 1) = (c : Int) - 1 from i64_in _ (by omega)]
  refine lim_in (by simp only [List.length_append, List.length_singleton]; omega) (lim_in (by simp only [List.length_append, List.length_singleton]; omega) ?_)
  refine (put_lp n h0 h1 c f _ (by omega) (by omega) (by simp only [List.length_append, List.length_singleton]; omega)).trans ?_
  simp only [putB, List.append_assoc, List.singleton_append]
theorem nDPut (tag n : Int) (hp : headOk tag n = true) : gDPut tag n = some (.ret [.ref 0 0 (derHead tag n).length true 1] [some ⟨.ints .u8 (derHead tag n), false⟩]) := by
 obtain ⟨ht, hn⟩ := headOk_spec hp
 unfold gDPut derHead derLenSize
 simp only [shut_eq]
 unfold derHeadC derLenSizeC
 have et : IntKind.u8.wrap tag = tag := u8_in _ (by omega)
 rw [et]
 by_cases h : n < 128
 ·rw [if_pos h, if_pos h, show IntKind.i64.wrap ((1 : Int) - 1) = 0 from i64_in _ (by omega), show IntKind.u8.wrap n = n from u8_in _ (by omega)]
  exact c_pos rfl rfl
 ·rw [if_neg h, if_neg h]
  have fin : ∀ c : Nat, 1 <= c -> c <= 3 -> ∀ l', [tag, 128 + (c : Int)] ++ putB n c = l' -> (cond (decide (IntKind.i64.wrap ((c : Int) + 1 - 1) = 0)) (some (Out.ret [.ref 0 0 2 true 1] [some ⟨.ints .u8 [tag, IntKind.u8.wrap n], false⟩])) (lpDPut_7 (fun y8 _ _ _ y12 => some (.ret [.ref 0 0 y8 true 1] [some ⟨.ints .u8 y12, false⟩])) FUEL 2 n (IntKind.i64.wrap (IntKind.i64.wrap ((c : Int) + 1 - 1) - 1)) [tag, IntKind.u8.wrap (IntKind.i64.wrap ((128 : Int) + IntKind.i64.wrap ((c : Int) + 1 - 1)))])) = some (Out.ret [.ref 0 0 l'.length true 1] [some ⟨.ints .u8 l', false⟩]) := fun c h1 h3 l' hl' => by
   rw [show IntKind.i64.wrap ((c : Int) + 1 - 1) = c from (i64_in _ (by omega)).trans (by omega), show IntKind.i64.wrap ((128 : Int) + c) = 128 + c from i64_in _ (by omega), show IntKind.u8.wrap ((128 : Int) + c) = 128 + c from u8_in _ (by omega), show IntKind.i64.wrap ((c : Int) - 1) = (c : Int) - 1 from i64_in _ (by omega)]
   refine c_neg (by omega) ((put_lp n hn.1 hn.2 c FUEL [tag, 128 + (c : Int)] h3 (by unfold FUEL; omega) (by simp only [List.length_cons, List.length_nil]; omega)).trans ?_)
   rw [hl']
  by_cases h2 : n < 256
  ·rw [if_pos h2, if_pos h2]
   refine fin 1 (by omega) (by omega) _ ?_
   show [tag, (129 : Int), n / 1 % 256] = _
   rw [show n / 1 % 256 = n by omega]
  ·rw [if_neg h2, if_neg h2]
   by_cases h3 : n < 65536
   ·rw [if_pos h3, if_pos h3]
    refine fin 2 (by omega) (by omega) _ ?_
    show [tag, (130 : Int), n / 256 % 256, n / 1 % 256] = _
    rw [show n / 256 % 256 = n / 256 by omega, show n / 1 % 256 = n % 256 by omega]
   ·rw [if_neg h3, if_neg h3]
    refine fin 3 (by omega) (by omega) _ ?_
    show [tag, (131 : Int), n / 65536 % 256, n / 256 % 256, n / 1 % 256] = _
    rw [show n / 65536 % 256 = n / 65536 by omega, show n / 1 % 256 = n % 256 by omega]

/-! ### joins -/
theorem rowCV_inv {c : CV} (h : rowCV c = true) : ∃ x, c = .sli .u8 x /\ rowB x = true := by
 unfold rowCV at h
 split at h
 ·exact ⟨_, rfl, h⟩
 ·exact absurd h Bool.false_ne_true
theorem joinOk_spec {l : List CV} (h : joinOk l = true) : l.length <= 1000000 /\ (∀ c ∈ l, ∃ x, c = .sli .u8 x) /\ (l.flatMap cvSli).length <= 1000000 := by
 unfold joinOk at h
 rw [shut_eq] at h
 simp only [Bool.and_eq_true, decide_eq_true_eq, List.all_eq_true] at h
 exact ⟨h.1, fun c hc => let ⟨x, e, _⟩ := rowCV_inv (h.2.1 c hc); ⟨x, e⟩, h.2.2⟩
theorem flat_drop_cons {l : List CV} {i : Nat} {x : List Int} (h : l[i]? = some (.sli .u8 x)) : (l.drop i).flatMap cvSli = x ++ (l.drop (i + 1)).flatMap cvSli := by
 obtain ⟨hlt, e⟩ := List.getElem?_eq_some_iff.1 h
 rw [List.drop_eq_getElem_cons hlt, e, List.flatMap_cons]
 rfl
theorem cat_lp (l : List CV) (hl : l.length <= 1000000) (hall : ∀ c ∈ l, ∃ x, c = .sli .u8 x) : ∀ (f i : Nat) (acc : List Int), i <= l.length -> l.length < f + i -> acc.length + ((l.drop i).flatMap cvSli).length <= 1000000 ->
  lpSConcat_11 (fun _ _ _ _ y27 => some (.ret [.cl (.sli .u8 y27)] [])) f acc.length l ((l.length : Nat) : Int) i acc = some (.ret [.cl (.sli .u8 (acc ++ (l.drop i).flatMap cvSli))] [])
 | 0, i, acc, hi, hf, _ => by omega
 | f + 1, i, acc, hi, hf, hs => by
  show lpSConcat_11s (lpSConcat_11 (fun _ _ _ _ y27 => some (.ret [.cl (.sli .u8 y27)] [])) f) (fun _ _ _ _ y27 => some (.ret [.cl (.sli .u8 y27)] [])) acc.length l ((l.length : Nat) : Int) i acc = _
  unfold lpSConcat_11s
  refine c_split (fun h => ?_) fun h => ?_
  ·obtain ⟨c, hc⟩ := get_some (b := l) (i := i) (by omega)
   obtain ⟨x, rfl⟩ := hall c (List.mem_of_getElem? hc)
   refine c_pos (by omega) (c_pos h ?_)
   rw [show (i : Int).toNat = i from rfl, hc, Option.bind_some]
   refine b_pos rfl ?_
   have hfl := flat_drop_cons hc
   rw [hfl, List.length_append] at hs
   have e : cvSli ((cell1 (.sli .u8 x)).getD 0 .nili) = x := rfl
   simp only [e]
   refine lim_in (by simp only [List.length_append]; omega) (lim_in (by simp only [List.length_append]; omega) ?_)
   rw [show IntKind.i64.wrap ((i : Int) + 1) = ((i + 1 : Nat) : Int) from (i64_in _ (by omega)).trans (by omega)]
   refine (cat_lp l hl hall f (i + 1) (acc ++ x) (by omega) (by omega) (by simp only [List.length_append]; omega)).trans ?_
   rw [hfl, List.append_assoc]
  ·rw [List.drop_eq_nil_of_le (by omega), List.flatMap_nil, List.append_nil]
theorem size_lp (l : List CV) (hl : l.length <= 1000000) (hall : ∀ c ∈ l, ∃ x, c = .sli .u8 x) (k0 : ByteArray -> List CV -> Int -> List Int -> List CV -> Int -> Int -> List CV -> Nat -> List Int -> Int -> List Int -> Int -> Int -> Int -> ByteArray -> Option Out) (k1 : List CV -> Int -> List CV -> Int -> Int -> Option Out) : ∀ (f i : Nat) (n : Int), i <= l.length -> l.length < f + i -> 0 <= n -> n + ((l.drop i).flatMap cvSli).length <= 1000000 ->
  lpSConcat_3 k0 k1 f l n l ((l.length : Nat) : Int) i = k1 l (n + ((l.drop i).flatMap cvSli).length) l ((l.length : Nat) : Int) l.length
 | 0, i, n, hi, hf, _, _ => by omega
 | f + 1, i, n, hi, hf, h0, hs => by
  show lpSConcat_3s (lpSConcat_3 k0 k1 f) k0 k1 l n l ((l.length : Nat) : Int) i = _
  unfold lpSConcat_3s
  refine c_split (fun h => ?_) fun h => ?_
  ·obtain ⟨c, hc⟩ := get_some (b := l) (i := i) (by omega)
   obtain ⟨x, rfl⟩ := hall c (List.mem_of_getElem? hc)
   refine c_pos (by omega) (c_pos h ?_)
   rw [show (i : Int).toNat = i from rfl, hc, Option.bind_some]
   refine b_pos rfl ?_
   have hfl := flat_drop_cons hc
   rw [hfl, List.length_append] at hs
   have e : cvSli ((cell1 (.sli .u8 x)).getD 0 .nili) = x := rfl
   simp only [e]
   rw [show IntKind.i64.wrap (n + ((x.length : Nat) : Int)) = n + x.length from i64_in _ (by omega)]
   refine c_neg (by omega) ?_
   rw [show IntKind.i64.wrap ((i : Int) + 1) = ((i + 1 : Nat) : Int) from (i64_in _ (by omega)).trans (by omega)]
   refine (size_lp l hl hall k0 k1 f (i + 1) _ (by omega) (by omega) (by omega) (by omega)).trans ?_
   rw [hfl, List.length_append, show n + ((x.length : Nat) : Int) + (((l.drop (i + 1)).flatMap cvSli).length : Nat) = n + ((x.length + ((l.drop (i + 1)).flatMap cvSli).length : Nat) : Int) by omega]
  ·obtain rfl : i = l.length := by omega
   rw [List.drop_eq_nil_of_le (Nat.le_refl _)]
   simp
theorem nSConcat (l : List CV) (hp : joinOk l = true) : gSConcat l = some (.ret [.cl (.sli .u8 (rowsJoin l))] []) := by
 obtain ⟨h1, h2, h3⟩ := joinOk_spec hp
 unfold gSConcat rowsJoin noInts
 simp only [shut_eq]
 refine (size_lp l h1 h2 _ _ FUEL 0 0 (by omega) (by unfold FUEL; omega) (by omega) (by rw [List.drop_zero]; omega)).trans ?_
 refine b_pos ?_ (cat_lp l h1 h2 FUEL 0 [] (by omega) (by unfold FUEL; omega) (by simpa using h3))
 unfold growOk
 rw [shut_eq, List.drop_zero]
 exact decide_eq_true (by omega)

/-! ### sameness -/
end Go.Proofs.YtfkpjbbkdkcdcabDoorA

namespace Go.Proofs.YtfkpjbbkdkcdcabDoorA
open IntWalk (i64_in u8_in u32_in u64_in i64_quo u8_quo rem_in)

theorem leftOk_spec {n : Int} (h : leftOk n = true) : 0 <= n /\ n <= 30000 := by
 unfold leftOk at h; rw [shut_eq] at h; exact of_decide_eq_true h
theorem leftOk_of {n : Int} (h : 0 <= n /\ n <= 30000) : leftOk n = true := by
 unfold leftOk; rw [shut_eq]; exact decide_eq_true h
theorem kids_le {f : List CV -> Int -> Int} : ∀ {l : List CV}, (∀ c ∈ l, ∀ x, f (cell1 c) x <= x - 1) -> ∀ x, kidsOf f l x <= x
 | [], _, x => Int.le_refl _
 | c :: r, h, x => by
  simp only [kidsOf]
  split
  ·exact Int.le_refl _
  ·have h1 := h c (List.mem_cons_self ..) x
   have h2 := kids_le (l := r) (fun c' hc => h c' (List.mem_cons_of_mem _ hc)) (f (cell1 c) x)
   omega
theorem small_le : ∀ {n : Nat} {x : List CV}, isTf n x = true -> ∀ z, smallF n x z <= z - 1
 | n, x, hn, z => by
  obtain ⟨n', t, b, l, rfl, rfl, _, hl⟩ := tf_inv hn
  show kidsOf (smallF n') l (z - 1 - min (b.length : Int) 1048576) <= z - 1
  have := kids_le (f := smallF n') (l := l) (fun c hc x => by
   obtain ⟨y, rfl, hy⟩ := hl c hc
   exact small_le hy x) (z - 1 - min (b.length : Int) 1048576)
  omega
theorem kids_bulk {f : List CV -> Int -> Int} {g : CV -> Nat} : ∀ {l : List CV}, (∀ c ∈ l, ∀ x, x <= 30000 -> 0 <= f (cell1 c) x -> (g c : Int) = x - f (cell1 c) x) -> (∀ c ∈ l, ∀ x, f (cell1 c) x <= x - 1) -> ∀ x, x <= 30000 -> 0 <= kidsOf f l x -> 0 <= x /\ ((l.map g).sum : Nat) = x - kidsOf f l x
 | [], _, _, x, _, h => ⟨h, by simp [kidsOf]⟩
 | c :: r, h, hle, x, hx, h0 => by
  simp only [kidsOf] at h0 ⊢
  split at h0
  ·omega
  ·rename_i hx0
   rw [if_neg hx0]
   have h1 := hle c (List.mem_cons_self ..) x
   have ih := kids_bulk (l := r) (fun c' hc => h c' (List.mem_cons_of_mem _ hc)) (fun c' hc => hle c' (List.mem_cons_of_mem _ hc)) (f (cell1 c) x) (by omega) h0
   have h2 := h c (List.mem_cons_self ..) x hx ih.1
   refine ⟨by omega, ?_⟩
   rw [List.map_cons, List.sum_cons]
   omega
theorem small_bulk : ∀ {n : Nat} {x : List CV}, isTf n x = true -> ∀ z, z <= 30000 -> 0 <= smallF n x z -> (bulkF n x : Int) = z - smallF n x z
 | n, x, hn, z, hz, h0 => by
  obtain ⟨n', t, b, l, rfl, rfl, _, hl⟩ := tf_inv hn
  have h0 : 0 <= kidsOf (smallF n') l (z - 1 - min (b.length : Int) 1048576) := h0
  have hk := kids_bulk (f := smallF n') (g := fun c => bulkF n' (cell1 c)) (l := l) (fun c hc x hx h => by
   obtain ⟨y, rfl, hy⟩ := hl c hc
   exact small_bulk hy x hx h) (fun c hc x => by
   obtain ⟨y, rfl, hy⟩ := hl c hc
   exact small_le hy x) _ (by omega) h0
  show ((1 + b.length + (l.map fun c => bulkF n' (cell1 c)).sum : Nat) : Int) = z - kidsOf (smallF n') l (z - 1 - min (b.length : Int) 1048576)
  omega
theorem bulk_pos {n : Nat} {x : List CV} (hn : isTf n x = true) : 1 <= bulkF n x := by
 obtain ⟨n', t, b, l, rfl, rfl, _, hl⟩ := tf_inv hn
 show 1 <= 1 + b.length + _
 omega
theorem sum_mem {g : CV -> Nat} : ∀ {l : List CV} {c : CV}, c ∈ l -> g c <= (l.map g).sum
 | a :: r, c, h => by
  rw [List.map_cons, List.sum_cons]
  rcases List.mem_cons.1 h with rfl | h
  ·omega
  ·have := sum_mem (g := g) h; omega
theorem sum_len {g : CV -> Nat} : ∀ {l : List CV}, (∀ c ∈ l, 1 <= g c) -> l.length <= (l.map g).sum
 | [], _ => by simp
 | a :: r, h => by
  rw [List.map_cons, List.sum_cons, List.length_cons]
  have := sum_len (g := g) (l := r) fun c hc => h c (List.mem_cons_of_mem _ hc)
  have := h a (List.mem_cons_self ..)
  omega
/-- a small value's parts -/
theorem tf_parts {n : Nat} {t : Int} {b : List Int} {l : List CV} (h : isTf (n + 1) [.int .i64 t, .sli .u8 b, .slg 3 l] = true) {B : Nat} (hb : bulkF (n + 1) [.int .i64 t, .sli .u8 b, .slg 3 l] <= B) :
  b.length + 1 <= B /\ l.length + 1 <= B /\ (∀ z ∈ b, 0 <= z /\ z <= 255) /\ (∀ c ∈ l, ∃ y, c = .agg y /\ isTf n y = true /\ bulkF n y + 1 <= B) /\ 1 + b.length + (l.map fun c => bulkF n (cell1 c)).sum <= B := by
 obtain ⟨n', t', b', l', hn, he, h1, h2⟩ := tf_inv h
 obtain rfl : n = n' := by omega
 simp only [List.cons.injEq, CV.int.injEq, CV.sli.injEq, CV.slg.injEq, true_and, and_true] at he
 obtain ⟨rfl, rfl, rfl⟩ := he
 have hb : 1 + b.length + (l.map fun c => bulkF n (cell1 c)).sum <= B := hb
 have hs := sum_len (g := fun c => bulkF n (cell1 c)) (l := l) fun c hc => by
  obtain ⟨y, rfl, hy⟩ := h2 c hc
  exact bulk_pos hy
 refine ⟨by omega, by omega, h1, fun c hc => ?_, hb⟩
 obtain ⟨y, rfl, hy⟩ := h2 c hc
 have hm : bulkF n y <= (l.map fun c => bulkF n (cell1 c)).sum := sum_mem (g := fun c => bulkF n (cell1 c)) hc
 exact ⟨y, rfl, hy, by omega⟩
theorem nd_of_tf : ∀ {n : Nat} {x : List CV}, isTf n x = true -> bulkF n x <= 30000 -> isNf n x = true
 | n, x, hn, hb => by
  obtain ⟨n', t, b, l, rfl, rfl, _, _⟩ := tf_inv hn
  obtain ⟨h1, h2, _, h3, _⟩ := tf_parts hn hb
  refine nd_mk (by omega) (by omega) fun c hc => ?_
  obtain ⟨y, rfl, hy, hyb⟩ := h3 c hc
  exact ⟨y, rfl, nd_of_tf hy (by omega)⟩

theorem small_lp (rk : Nat) (ta : Int) (ba : List Int) (ka : List CV) (hall : ∀ c ∈ ka, ∃ y, c = .agg y /\ isTf rk y = true) : ∀ (f i : Nat) (z : Int), z <= 29999 - i -> 30005 < f + i -> i <= ka.length -> i <= 30000 ->
  lpRSmall_3 rk (fun y4 => (fun _ _ _ _ _ _ _ _ _ _ => some (.ret [.cl (.int .i64 y4)] []))) (fun y15 => (fun _ _ _ _ _ _ _ _ => some (.ret [.cl (.int .i64 y15)] []))) f z i ta ba ka = some (.ret [.cl (.int .i64 (kidsOf (smallF rk) (ka.drop i) z))] [])
 | 0, i, z, hz, hf, hi, hi2 => by omega
 | f + 1, i, z, hz, hf, hi, hi2 => by
  show lpRSmall_3s rk (lpRSmall_3 rk (fun y4 => (fun _ _ _ _ _ _ _ _ _ _ => some (.ret [.cl (.int .i64 y4)] []))) (fun y15 => (fun _ _ _ _ _ _ _ _ => some (.ret [.cl (.int .i64 y15)] []))) f) (fun y4 => (fun _ _ _ _ _ _ _ _ _ _ => some (.ret [.cl (.int .i64 y4)] []))) (fun y15 => (fun _ _ _ _ _ _ _ _ => some (.ret [.cl (.int .i64 y15)] []))) z i ta ba ka = _
  unfold lpRSmall_3s
  refine c_split (fun h => ?_) fun h => ?_
  ·obtain ⟨c, hc⟩ := get_some (b := ka) (i := i) (by omega)
   obtain ⟨y, rfl, hy⟩ := hall c (List.mem_of_getElem? hc)
   have ed : ka.drop i = .agg y :: ka.drop (i + 1) := by
    obtain ⟨hlt, e⟩ := List.getElem?_eq_some_iff.1 hc
    rw [List.drop_eq_getElem_cons hlt, e]
   rw [ed]
   simp only [kidsOf]
   refine c_split (fun h0 => c_pos (by omega) (c_pos h ?_)) fun h0 => ?_
   ·rw [if_neg (by omega), show (i : Int).toNat = i from rfl, hc, Option.bind_some]
    obtain ⟨m, t, b, l, hm, hye, _⟩ := tf_inv hy
    simp only [cell1, hye, List.headD_cons, List.tail_cons]
    refine b_pos rfl (b_pos ?_ ?_)
    ·simp only [Bool.and_eq_true]
     exact ⟨isTr_of (hye ▸ hy), leftOk_of (by omega)⟩
    ·have e : ndSmall [.int .i64 t, .sli .u8 b, .slg 3 l] z = smallF rk y z := by rw [<- hye]; exact ndSmall_eq hy z
     simp only [cvInt, cvSli, cvSlg]
     rw [e, <- hye, show IntKind.i64.wrap ((i : Int) + 1) = ((i + 1 : Nat) : Int) from (i64_in _ (by omega)).trans (by omega)]
     have := small_le hy z
     exact small_lp rk ta ba ka hall f (i + 1) _ (by omega) (by omega) (by omega) (by omega)
   ·rw [if_pos (by omega)]
  ·rw [List.drop_eq_nil_of_le (by omega)]
   rfl
theorem nRSmall (rk : Nat) (ta : Int) (ba : List Int) (ka : List CV) (left : Int) (hp : (isTr (rk + 1) [.int .i64 ta, .sli .u8 ba, .slg 3 ka] && leftOk left) = true) : gRSmall rk ta ba ka left = some (.ret [.cl (.int .i64 (ndSmall [.int .i64 ta, .sli .u8 ba, .slg 3 ka] left))] []) := by
 simp only [Bool.and_eq_true] at hp
 have ht := isTr_spec hp.1
 have hl := leftOk_spec hp.2
 rw [ndSmall_eq ht]
 obtain ⟨m, t, b, l, hm, he, _, hall⟩ := tf_inv ht
 obtain rfl : rk = m := by omega
 simp only [List.cons.injEq, CV.int.injEq, CV.sli.injEq, CV.slg.injEq, true_and, and_true] at he
 obtain ⟨rfl, rfl, rfl⟩ := he
 unfold gRSmall
 simp only [shut_eq]
 have e2 : (cond (decide ((1048576 : Int) < ((ba.length : Nat) : Int))) 1048576 ((ba.length : Nat) : Int)) = min (ba.length : Int) 1048576 := by
  by_cases h : (1048576 : Int) < ((ba.length : Nat) : Int)
  ·rw [decide_eq_true h]; show (1048576 : Int) = _; omega
  ·rw [decide_eq_false h]; show ((ba.length : Nat) : Int) = _; omega
 rw [e2, show IntKind.i64.wrap (left - 1) = left - 1 from i64_in _ (by omega), show IntKind.i64.wrap (left - 1 - min (ba.length : Int) 1048576) = left - 1 - min (ba.length : Int) 1048576 from i64_in _ (by omega)]
 exact small_lp rk ta ba ka hall FUEL 0 _ (by omega) (by unfold FUEL; omega) (by omega) (by omega)

/-! ### sizes -/
theorem head_len (t n : Int) : ((derHeadC t n).length : Int) = 1 + derLenSizeC n := by
 unfold derHeadC derLenSizeC
 rw [List.length_cons]
 repeat' split
 all_goals rfl
theorem lenSize_rng (n : Int) : 1 <= derLenSizeC n /\ derLenSizeC n <= 4 := by
 unfold derLenSizeC
 repeat' split
 all_goals omega
theorem flat_bulk {g : CV -> List Int} {h : CV -> Nat} : ∀ {l : List CV}, (∀ c ∈ l, (g c).length <= 5 * h c) -> ((l.map g).flatten).length <= 5 * (l.map h).sum
 | [], _ => by simp
 | a :: r, hh => by
  have := hh a (List.mem_cons_self ..)
  have := flat_bulk (g := g) (h := h) (l := r) fun c hc => hh c (List.mem_cons_of_mem _ hc)
  simp only [List.map_cons, List.flatten_cons, List.length_append, List.sum_cons]
  omega
theorem bytes_len : ∀ {n : Nat} {x : List CV}, isTf n x = true -> (bytesF n x).1.length <= 5 * bulkF n x
 | n, x, hn => by
  obtain ⟨n', t, b, l, rfl, rfl, _, hl⟩ := tf_inv hn
  have hb : bulkF (n' + 1) [.int .i64 t, .sli .u8 b, .slg 3 l] = 1 + b.length + (l.map fun c => bulkF n' (cell1 c)).sum := rfl
  rw [hb]
  simp only [bytesF]
  split
  ·have hf := flat_bulk (g := fun c => (bytesF n' (cell1 c)).1) (h := fun c => bulkF n' (cell1 c)) (l := l) fun c hc => by
    obtain ⟨y, rfl, hy⟩ := hl c hc
    exact bytes_len hy
   have e : ((l.map fun c => bytesF n' (cell1 c)).map (·.1)) = l.map fun c => (bytesF n' (cell1 c)).1 := by rw [List.map_map]; rfl
   simp only [e]
   have hh := head_len t (((l.map fun c => (bytesF n' (cell1 c)).1).flatten).length : Nat)
   have hr := lenSize_rng (((l.map fun c => (bytesF n' (cell1 c)).1).flatten).length : Nat)
   rw [List.length_append]
   omega
  ·have hh := head_len t (b.length : Nat)
   have hr := lenSize_rng (b.length : Nat)
   simp only [List.length_append]
   omega
def sumL (f : CV -> List Int) : List CV -> Int
 | [] => 0
 | c :: r => (f c).length + sumL f r
theorem sumL_flat (f : CV -> List Int) : ∀ l : List CV, sumL f l = (((l.map f).flatten).length : Nat)
 | [] => rfl
 | c :: r => by simp only [sumL, List.map_cons, List.flatten_cons, List.length_append, sumL_flat f r]; omega
theorem sumL_drop (f : CV -> List Int) (l : List CV) (i : Nat) : 0 <= sumL f (l.drop i) /\ sumL f (l.drop i) <= sumL f l := by
 constructor
 ·rw [sumL_flat]; omega
 ·rw [sumL_flat, sumL_flat, List.map_drop]
  have h : ∀ (ls : List (List Int)) (i : Nat), ((ls.drop i).flatten).length <= (ls.flatten).length := fun ls => by
   induction ls with
   | nil => simp
   | cons a r ih =>
    intro i
    cases i with
    | zero => exact Nat.le_refl _
    | succ i =>
     have := ih i
     simp only [List.drop_succ_cons, List.flatten_cons, List.length_append]
     omega
  have := h (l.map f) i
  omega
theorem size_lp2 (rk d : Nat) (deep : Int) (hd : 1 <= deep /\ deep <= 1000) (hdd : deep.toNat = d + 1) (ka : List CV) (hlen : ka.length <= 30000) (hall : ∀ c ∈ ka, ∃ y, c = .agg y /\ isTf rk y = true /\ bulkF rk y <= 30000) (hsum : sumL (fun c => (bytesF rk (cell1 c)).1) ka <= 150000) (k1 : Int -> Int -> Int -> List CV -> Int -> Int -> List CV -> Nat -> Int -> List Int -> List CV -> Int -> List Int -> List CV -> Int -> Int -> Int -> Int -> Int -> Int -> Int -> Bool -> Int -> Bool -> Int -> List Int -> List CV -> Option Out) (F : Int -> Option Out) : ∀ (f i : Nat) (s : Int), i <= ka.length -> ka.length < f + i -> 0 <= s -> s + sumL (fun c => (bytesF rk (cell1 c)).1) (ka.drop i) <= 150000 ->
  lpDSize_8 rk (fun _ _ _ _ _ _ _ _ _ _ _ _ _ _ _ _ _ _ _ _ _ _ _ _ _ => some (.ret [.cl (.int .i64 (-1))] [])) k1 (fun _ y56 _ _ _ => F y56) f deep s ka ((ka.length : Nat) : Int) i = if (ka.drop i).all (fun c => okF rk d (cell1 c)) = true then F (s + sumL (fun c => (bytesF rk (cell1 c)).1) (ka.drop i)) else some (.ret [.cl (.int .i64 (-1))] [])
 | 0, i, s, hi, hf, _, _ => by omega
 | f + 1, i, s, hi, hf, h0, hs => by
  show lpDSize_8s rk (lpDSize_8 rk (fun _ _ _ _ _ _ _ _ _ _ _ _ _ _ _ _ _ _ _ _ _ _ _ _ _ => some (.ret [.cl (.int .i64 (-1))] [])) k1 (fun _ y56 _ _ _ => F y56) f) (fun _ _ _ _ _ _ _ _ _ _ _ _ _ _ _ _ _ _ _ _ _ _ _ _ _ => some (.ret [.cl (.int .i64 (-1))] [])) k1 (fun _ y56 _ _ _ => F y56) deep s ka ((ka.length : Nat) : Int) i = _
  unfold lpDSize_8s
  obtain ⟨R, hR⟩ : ∃ R : Option Out, R = (if (ka.drop i).all (fun c => okF rk d (cell1 c)) = true then F (s + sumL (fun c => (bytesF rk (cell1 c)).1) (ka.drop i)) else some (.ret [.cl (.int .i64 (-1))] [])) := ⟨_, rfl⟩
  rw [<- hR]
  refine c_split (fun h => ?_) fun h => ?_
  ·obtain ⟨c, hc⟩ := get_some (b := ka) (i := i) (by omega)
   obtain ⟨y, rfl, hy, hyb⟩ := hall c (List.mem_of_getElem? hc)
   have ed : ka.drop i = .agg y :: ka.drop (i + 1) := by
    obtain ⟨hlt, e⟩ := List.getElem?_eq_some_iff.1 hc
    rw [List.drop_eq_getElem_cons hlt, e]
   refine c_pos (by omega) (c_pos h ?_)
   rw [show (i : Int).toNat = i from rfl, hc, Option.bind_some]
   obtain ⟨m, t, b, l, hm, hye, _⟩ := tf_inv hy
   simp only [cell1, hye, List.headD_cons, List.tail_cons]
   refine b_pos rfl ?_
   simp only [show IntKind.i64.wrap (deep - 1) = deep - 1 from i64_in _ (by omega), cvInt, cvSli, cvSlg]
   refine b_pos ?_ ?_
   ·simp only [Bool.and_eq_true]
    exact ⟨isSr_of (hye ▸ hy) (hye ▸ hyb), deepOk_of (by omega)⟩
   ·have e : ndSize [.int .i64 t, .sli .u8 b, .slg 3 l] (deep - 1) = if okF rk d y = true then ((bytesF rk y).1.length : Int) else -1 := by
     rw [<- hye, ndSize_eq hy, show (deep - 1).toNat = d by omega]
    have es : sumL (fun c => (bytesF rk (cell1 c)).1) (ka.drop i) = ((bytesF rk y).1.length : Int) + sumL (fun c => (bytesF rk (cell1 c)).1) (ka.drop (i + 1)) := by rw [ed]; rfl
    have hpos := (sumL_drop (fun c => (bytesF rk (cell1 c)).1) ka (i + 1)).1
    rw [es] at hs
    rw [e]
    have ea : (ka.drop i).all (fun c => okF rk d (cell1 c)) = (okF rk d y && (ka.drop (i + 1)).all (fun c => okF rk d (cell1 c))) := by rw [ed, List.all_cons]; rfl
    rw [ea, es] at hR
    by_cases hok : okF rk d y = true
    ·rw [hok, Bool.true_and] at hR
     rw [if_pos hok]
     refine c_neg (by omega) ?_
     rw [show IntKind.i64.wrap (s + ((bytesF rk y).1.length : Int)) = s + ((bytesF rk y).1.length : Int) from i64_in _ (by omega)]
     refine c_neg (by omega) ?_
     rw [show IntKind.i64.wrap ((i : Int) + 1) = ((i + 1 : Nat) : Int) from (i64_in _ (by omega)).trans (by omega)]
     refine (size_lp2 rk d deep hd hdd ka hlen hall hsum k1 F f (i + 1) _ (by omega) (by omega) (by omega) (by omega)).trans ?_
     rw [hR, Int.add_assoc]
    ·rw [if_neg hok]
     refine c_pos (by omega) ?_
     rw [hR, if_neg (by simp [hok])]
  ·rw [List.drop_eq_nil_of_le (by omega)] at hR
   rw [hR]
   show F s = if ([] : List CV).all (fun c => okF rk d (cell1 c)) = true then F (s + 0) else _
   rw [if_pos (by rfl), Int.add_zero]
theorem nDSize (rk : Nat) (ta : Int) (ba : List Int) (ka : List CV) (deep : Int) (hp : (isSr (rk + 1) [.int .i64 ta, .sli .u8 ba, .slg 3 ka] && deepOk deep) = true) : gDSize rk ta ba ka deep = some (.ret [.cl (.int .i64 (ndSize [.int .i64 ta, .sli .u8 ba, .slg 3 ka] deep))] []) := by
 simp only [Bool.and_eq_true] at hp
 obtain ⟨ht, hb⟩ := isSr_spec hp.1
 have hd := deepOk_spec hp.2
 obtain ⟨h1, h2, h3, h4, h5⟩ := tf_parts ht hb
 rw [ndSize_eq ht]
 unfold gDSize derKnown derBoxed derFits derLenSize
 simp only [shut_eq]
 refine c_split (fun h => ?_) fun h => ?_
 ·subst h; rfl
 obtain ⟨d, hdd⟩ : ∃ d, deep.toNat = d + 1 := ⟨deep.toNat - 1, by omega⟩
 rw [hdd]
 have hokF : okF (rk + 1) (d + 1) [.int .i64 ta, .sli .u8 ba, .slg 3 ka] = (derKnownC ta && (if derBoxedC ta = true then decide (ba = []) && ka.all fun c => okF rk d (cell1 c) else decide (ka = []) && derFitsC ta ba)) := rfl
 rw [hokF]
 refine b_split (fun hk => ?_) fun hk => ?_
 ·rw [if_neg (by simp only [Bool.not_eq_true'] at hk; simp [hk])]
 have hk : derKnownC ta = true := by simpa using hk
 rw [hk, Bool.true_and]
 have hflen : (((ka.map fun c => (bytesF rk (cell1 c)).1).flatten).length : Int) <= 150000 := by
  have := flat_bulk (g := fun c => (bytesF rk (cell1 c)).1) (h := fun c => bulkF rk (cell1 c)) (l := ka) fun c hc => by
   obtain ⟨y, rfl, hy, _⟩ := h4 c hc
   exact bytes_len hy
  omega
 refine b_split (fun hx => ?_) fun hx => ?_
 ·rw [if_pos hx]
  refine c_split (fun hba => ?_) fun hba => ?_
  ·rw [if_neg (by intro e; simp only [Bool.and_eq_true, decide_eq_true_eq] at e; rw [e.1] at hba; simp at hba)]
  ·obtain rfl : ba = [] := List.eq_nil_of_length_eq_zero (by omega)
   refine (size_lp2 rk d deep (by omega) hdd ka (by omega) (fun c hc => by obtain ⟨y, e, hy, hyb⟩ := h4 c hc; exact ⟨y, e, hy, by omega⟩) (by rw [sumL_flat]; exact hflen) _ (fun n => some (.ret [.cl (.int .i64 (IntKind.i64.wrap (IntKind.i64.wrap ((1 : Int) + derLenSizeC n) + n)))] [])) FUEL 0 0 (by omega) (by unfold FUEL; omega) (by omega) (by rw [List.drop_zero, sumL_flat]; omega)).trans ?_
   rw [List.drop_zero, decide_eq_true (show ([] : List Int) = [] from rfl), Bool.true_and, sumL_flat, Int.zero_add]
   by_cases ha : (ka.all fun c => okF rk d (cell1 c)) = true
   ·rw [if_pos ha, if_pos ha]
    have hr := lenSize_rng (((ka.map fun c => (bytesF rk (cell1 c)).1).flatten).length : Nat)
    rw [show IntKind.i64.wrap ((1 : Int) + derLenSizeC (((ka.map fun c => (bytesF rk (cell1 c)).1).flatten).length : Nat)) = 1 + derLenSizeC (((ka.map fun c => (bytesF rk (cell1 c)).1).flatten).length : Nat) from i64_in _ (by omega)]
    rw [i64_in _ (show -9223372036854775808 <= (1 : Int) + derLenSizeC (((ka.map fun c => (bytesF rk (cell1 c)).1).flatten).length : Nat) + (((ka.map fun c => (bytesF rk (cell1 c)).1).flatten).length : Nat) /\ _ <= 9223372036854775807 by omega)]
    refine ret_int ?_
    simp only [bytesF]
    rw [if_pos hx]
    have e : ((ka.map fun c => bytesF rk (cell1 c)).map (·.1)) = ka.map fun c => (bytesF rk (cell1 c)).1 := by rw [List.map_map]; rfl
    simp only [e]
    rw [List.length_append]
    have hh := head_len ta (((ka.map fun c => (bytesF rk (cell1 c)).1).flatten).length : Nat)
    omega
   ·rw [if_neg ha, if_neg ha]
 ·rw [if_neg (show ¬derBoxedC ta = true by simp [hx])]
  refine c_split (fun hka => ?_) fun hka => ?_
  ·rw [if_neg (by intro e; simp only [Bool.and_eq_true, decide_eq_true_eq] at e; rw [e.1] at hka; simp at hka)]
  ·obtain rfl : ka = [] := List.eq_nil_of_length_eq_zero (by omega)
   refine c_neg (by omega) (b_pos (bytesOk_of (by omega) h3) ?_)
   rw [decide_eq_true (show ([] : List CV) = [] from rfl), Bool.true_and]
   refine b_split (fun hf => ?_) fun hf => ?_
   ·rw [if_neg (by simp only [Bool.not_eq_true'] at hf; simp [hf])]
   ·rw [if_pos (by simpa using hf)]
    have hr := lenSize_rng (ba.length : Nat)
    rw [show IntKind.i64.wrap ((1 : Int) + derLenSizeC (ba.length : Nat)) = 1 + derLenSizeC (ba.length : Nat) from i64_in _ (by omega)]
    rw [i64_in _ (show -9223372036854775808 <= (1 : Int) + derLenSizeC (ba.length : Nat) + (ba.length : Nat) /\ _ <= 9223372036854775807 by omega)]
    refine ret_int ?_
    simp only [bytesF]
    rw [if_neg (show ¬derBoxedC ta = true by simp [hx])]
    have hh := head_len ta (ba.length : Nat)
    simp only [List.length_append]
    omega
end Go.Proofs.YtfkpjbbkdkcdcabDoorA

namespace Go.Proofs.YtfkpjbbkdkcdcabDoorA
open IntWalk (i64_in u8_in u32_in u64_in i64_quo u8_quo rem_in)

theorem known_rng {t : Int} (h : derKnownC t = true) : 0 <= t /\ t <= 255 := by
 unfold derKnownC derBoxedC at h
 simp only [Bool.or_eq_true, decide_eq_true_eq] at h
 omega
theorem head_byte {t n : Int} (ht : 0 <= t /\ t <= 255) (hn : 0 <= n /\ n < 16777216) : ∀ z ∈ derHeadC t n, 0 <= z /\ z <= 255 := by
 intro z hz
 unfold derHeadC at hz
 rcases List.mem_cons.1 hz with rfl | hz
 ·exact ht
 ·split at hz
  ·simp only [List.mem_cons, List.mem_nil_iff, or_false] at hz; omega
  ·split at hz
   ·simp only [List.mem_cons, List.mem_nil_iff, or_false] at hz; omega
   ·split at hz
    ·simp only [List.mem_cons, List.mem_nil_iff, or_false] at hz; omega
    ·simp only [List.mem_cons, List.mem_nil_iff, or_false] at hz; omega
theorem ok_parts {n d : Nat} {t : Int} {b : List Int} {l : List CV} (h : okF (n + 1) d [.int .i64 t, .sli .u8 b, .slg 3 l] = true) : ∃ d', d = d' + 1 /\ derKnownC t = true /\ ((derBoxedC t = true /\ b = [] /\ ∀ c ∈ l, okF n d' (cell1 c) = true) \/ (derBoxedC t = false /\ l = [] /\ derFitsC t b = true)) := by
 cases d with
 | zero => exact absurd h Bool.false_ne_true
 | succ d =>
  have h : (derKnownC t && (if derBoxedC t = true then decide (b = []) && l.all fun c => okF n d (cell1 c) else decide (l = []) && derFitsC t b)) = true := h
  rw [Bool.and_eq_true] at h
  refine ⟨d, rfl, h.1, ?_⟩
  obtain ⟨_, h⟩ := h
  split at h
  ·rename_i hx
   simp only [Bool.and_eq_true, decide_eq_true_eq, List.all_eq_true] at h
   exact .inl ⟨hx, h⟩
  ·rename_i hx
   simp only [Bool.and_eq_true, decide_eq_true_eq] at h
   exact .inr ⟨by simpa using hx, h⟩
theorem bytes_box {n : Nat} {t : Int} {b : List Int} {l : List CV} (hx : derBoxedC t = true) : bytesF (n + 1) [.int .i64 t, .sli .u8 b, .slg 3 l] = (derHeadC t ((l.map fun c => (bytesF n (cell1 c)).1).flatten.length : Nat) ++ (l.map fun c => (bytesF n (cell1 c)).1).flatten, (l.all fun c => (bytesF n (cell1 c)).2) && (!(decide (t = 49)) || rowsSortedC (l.map fun c => (bytesF n (cell1 c)).1))) := by
 simp only [bytesF]
 rw [if_pos hx]
 have e : ((l.map fun c => bytesF n (cell1 c)).map (·.1)) = l.map fun c => (bytesF n (cell1 c)).1 := by rw [List.map_map]; rfl
 have e2 : ((l.map fun c => bytesF n (cell1 c)).all (·.2)) = l.all fun c => (bytesF n (cell1 c)).2 := by rw [List.all_map]; rfl
 simp only [e, e2]
theorem bytes_leaf {n : Nat} {t : Int} {b : List Int} {l : List CV} (hx : derBoxedC t = false) : bytesF (n + 1) [.int .i64 t, .sli .u8 b, .slg 3 l] = (derHeadC t (b.length : Nat) ++ b, true) := by
 simp only [bytesF]
 rw [if_neg (show ¬derBoxedC t = true by simp [hx])]
theorem flat5 {n : Nat} {l : List CV} {B : Nat} (hl : ∀ c ∈ l, ∃ y, c = .agg y /\ isTf n y = true) (hb : (l.map fun c => bulkF n (cell1 c)).sum <= B) : ((l.map fun c => (bytesF n (cell1 c)).1).flatten).length <= 5 * B := by
 have := flat_bulk (g := fun c => (bytesF n (cell1 c)).1) (h := fun c => bulkF n (cell1 c)) (l := l) fun c hc => by
  obtain ⟨y, rfl, hy⟩ := hl c hc
  exact bytes_len hy
 omega
theorem bytes_byte : ∀ {n d : Nat} {x : List CV}, isTf n x = true -> bulkF n x <= 30000 -> okF n d x = true -> ∀ z ∈ (bytesF n x).1, 0 <= z /\ z <= 255
 | n, d, x, hn, hb, hok => by
  obtain ⟨n', t, b, l, rfl, rfl, hbb, hl⟩ := tf_inv hn
  obtain ⟨h1, h2, h3, h4, h5⟩ := tf_parts hn hb
  obtain ⟨d', rfl, hk, h⟩ := ok_parts hok
  rcases h with ⟨hx, rfl, hall⟩ | ⟨hx, rfl, hf⟩
  ·rw [bytes_box hx]
   have hfl := flat5 (B := 30000) hl (by omega)
   intro z hz
   rcases List.mem_append.1 hz with hz | hz
   ·exact head_byte (known_rng hk) (by omega) z hz
   ·obtain ⟨r, hr, hz⟩ := List.mem_flatten.1 hz
    obtain ⟨c, hc, rfl⟩ := List.mem_map.1 hr
    obtain ⟨y, rfl, hy, hyb⟩ := h4 c hc
    exact bytes_byte hy (by omega) (hall _ hc) z hz
  ·rw [bytes_leaf hx]
   intro z hz
   rcases List.mem_append.1 hz with hz | hz
   ·exact head_byte (known_rng hk) (by omega) z hz
   ·exact h3 z hz

theorem rowsJoin_map (R : List (List Int)) : rowsJoin (R.map (CV.sli .u8)) = R.flatten := by
 unfold rowsJoin
 rw [shut_eq, List.flatMap_map]
 show R.flatMap (fun x => x) = _
 rw [List.flatMap_id']
theorem joinOk_map {R : List (List Int)} (h1 : R.length <= 1000000) (h2 : ∀ x ∈ R, rowB x = true) (h3 : R.flatten.length <= 1000000) : joinOk (R.map (CV.sli .u8)) = true := by
 unfold joinOk
 rw [shut_eq]
 simp only [Bool.and_eq_true, decide_eq_true_eq, List.all_eq_true, List.length_map, List.mem_map]
 refine ⟨h1, fun x hx => ?_, ?_⟩
 ·obtain ⟨y, hy, rfl⟩ := hx
  exact h2 y hy
 ·have := rowsJoin_map R
  unfold rowsJoin at this
  rw [shut_eq] at this
  rw [this]
  exact h3
noncomputable def badW : Option Out := some (.ret [.cl (.sli .u8 []), .cl (.bool false)] [])
noncomputable def headW (t s : Int) (rows : List CV) : Option Out :=
 cond (headOk t s) (cond (joinOk rows) (cond (Nat.ble ((derHead t s ++ rowsJoin rows).length * 1) LIMN) (cond (Nat.ble ((derHead t s ++ rowsJoin rows).length) LIMN) (some (.ret [.cl (.sli .u8 (derHead t s ++ rowsJoin rows)), .cl (.bool true)] [])) none) none) none) none
noncomputable def finW (t s : Int) (rows : List CV) : Option Out :=
 cond (decide (t = 49)) (cond (rowsOk rows) (cond (!(rowsSorted rows)) badW (headW t s rows)) none) (headW t s rows)
theorem fin_w {t : Int} {R : List (List Int)} (ht : 0 <= t /\ t <= 255) (h1 : R.length <= 30000) (h2 : ∀ x ∈ R, rowB x = true) (h3 : R.flatten.length <= 150000) :
  finW t ((R.flatten.length : Nat) : Int) (R.map (CV.sli .u8)) = if (!(decide (t = 49)) || rowsSortedC R) = true then some (.ret [.cl (.sli .u8 (derHeadC t (R.flatten.length : Nat) ++ R.flatten)), .cl (.bool true)] []) else badW := by
 have hh : headW t ((R.flatten.length : Nat) : Int) (R.map (CV.sli .u8)) = some (.ret [.cl (.sli .u8 (derHeadC t (R.flatten.length : Nat) ++ R.flatten)), .cl (.bool true)] []) := by
  unfold headW derHead
  rw [shut_eq, rowsJoin_map]
  have hl := head_len t (R.flatten.length : Nat)
  have hr := lenSize_rng (R.flatten.length : Nat)
  refine b_pos ?_ (b_pos (joinOk_map (by omega) h2 (by omega)) (lim_in (by simp only [List.length_append]; omega) (lim_in (by simp only [List.length_append]; omega) rfl)))
  unfold headOk
  rw [shut_eq]
  exact decide_eq_true (by omega)
 unfold finW
 rw [hh, rowsSorted_map]
 refine c_split (fun h => b_pos (rowsOk_map (by omega) h2) (b_split (fun h9 => ?_) fun h9 => ?_)) fun h => ?_
 ·rw [if_neg (by simp only [Bool.not_eq_true'] at h9; simp [h, h9])]
 ·rw [if_pos (by simp only [Bool.not_eq_false'] at h9; simp [h9])]
 ·rw [if_pos (by simp [h])]
theorem rows_b {n d : Nat} {l : List CV} (h4 : ∀ c ∈ l, ∃ y, c = .agg y /\ isTf n y = true /\ bulkF n y + 1 <= 30000) (hall : ∀ c ∈ l, okF n d (cell1 c) = true) : ∀ x ∈ (l.map fun c => (bytesF n (cell1 c)).1), rowB x = true := by
 intro x hx
 obtain ⟨c, hc, rfl⟩ := List.mem_map.1 hx
 obtain ⟨y, rfl, hy, hyb⟩ := h4 c hc
 have h1 := bytes_len hy
 have h2 := bytes_byte hy (by omega) (hall _ hc)
 unfold rowB
 simp only [Bool.and_eq_true, decide_eq_true_eq, List.all_eq_true]
 exact ⟨by show (bytesF n y).1.length <= _; omega, fun z hz => decide_eq_true (h2 z hz)⟩

end Go.Proofs.YtfkpjbbkdkcdcabDoorA

namespace Go.Proofs.YtfkpjbbkdkcdcabDoorA
open IntWalk (i64_in u8_in u32_in u64_in i64_quo u8_quo rem_in)

theorem rows_map (n : Nat) (l : List CV) : (l.map fun c => CV.sli .u8 (bytesF n (cell1 c)).1) = (l.map fun c => (bytesF n (cell1 c)).1).map (CV.sli .u8) := by rw [List.map_map]; rfl
end Go.Proofs.YtfkpjbbkdkcdcabDoorA

namespace Go.Proofs.YtfkpjbbkdkcdcabDoorA
open IntWalk (i64_in u8_in u32_in u64_in i64_quo u8_quo rem_in)

theorem dwrite_lp (rk d : Nat) (ta : Int) (ba : List Int) (ka kb : List CV) (hlen : ka.length <= 30000) (hall : ∀ c ∈ ka, ∃ y, c = .agg y /\ isTf rk y = true /\ bulkF rk y + 1 <= 30000) (hok : ∀ c ∈ ka, okF rk d (cell1 c) = true) : ∀ (f i : Nat) (s : Int), i <= ka.length -> ka.length < f + i -> 0 <= s -> s + sumL (fun c => (bytesF rk (cell1 c)).1) (ka.drop i) <= 150000 ->
  lpDWrite_6 rk (fun _ _ _ _ _ _ _ _ _ _ _ _ _ _ _ _ _ _ _ _ _ _ _ _ _ _ _ _ _ _ _ => badW) (fun _ y37 _ _ _ y41 _ _ y44 => finW y41 y37 y44) f ka.length s ka ((ka.length : Nat) : Int) i ta ba kb (((ka.take i).map fun c => CV.sli .u8 (bytesF rk (cell1 c)).1) ++ List.replicate (ka.length - i) (.sli .u8 [])) = if (ka.drop i).all (fun c => (bytesF rk (cell1 c)).2) = true then finW ta (s + sumL (fun c => (bytesF rk (cell1 c)).1) (ka.drop i)) (ka.map fun c => .sli .u8 (bytesF rk (cell1 c)).1) else badW
 | 0, i, s, hi, hf, _, _ => by omega
 | f + 1, i, s, hi, hf, h0, hs => by
  show lpDWrite_6s rk (lpDWrite_6 rk (fun _ _ _ _ _ _ _ _ _ _ _ _ _ _ _ _ _ _ _ _ _ _ _ _ _ _ _ _ _ _ _ => badW) (fun _ y37 _ _ _ y41 _ _ y44 => finW y41 y37 y44) f) (fun _ _ _ _ _ _ _ _ _ _ _ _ _ _ _ _ _ _ _ _ _ _ _ _ _ _ _ _ _ _ _ => badW) (fun _ y37 _ _ _ y41 _ _ y44 => finW y41 y37 y44) ka.length s ka ((ka.length : Nat) : Int) i ta ba kb (((ka.take i).map fun c => CV.sli .u8 (bytesF rk (cell1 c)).1) ++ List.replicate (ka.length - i) (.sli .u8 [])) = _
  unfold lpDWrite_6s
  obtain ⟨R, hR⟩ : ∃ R : Option Out, R = if (ka.drop i).all (fun c => (bytesF rk (cell1 c)).2) = true then finW ta (s + sumL (fun c => (bytesF rk (cell1 c)).1) (ka.drop i)) (ka.map fun c => .sli .u8 (bytesF rk (cell1 c)).1) else badW := ⟨_, rfl⟩
  rw [<- hR]
  obtain ⟨W, hW⟩ : ∃ W : List CV, W = ((ka.take i).map fun c => CV.sli .u8 (bytesF rk (cell1 c)).1) ++ List.replicate (ka.length - i) (.sli .u8 []) := ⟨_, rfl⟩
  rw [<- hW]
  refine c_split (fun h => ?_) fun h => ?_
  ·obtain ⟨c, hc⟩ := get_some (b := ka) (i := i) (by omega)
   obtain ⟨y, rfl, hy, hyb⟩ := hall c (List.mem_of_getElem? hc)
   have hoky : okF rk d y = true := hok _ (List.mem_of_getElem? hc)
   have ed : ka.drop i = .agg y :: ka.drop (i + 1) := by
    obtain ⟨hlt, e⟩ := List.getElem?_eq_some_iff.1 hc
    rw [List.drop_eq_getElem_cons hlt, e]
   refine c_pos (by omega) (c_pos h ?_)
   rw [show (i : Int).toNat = i from rfl, hc, Option.bind_some]
   obtain ⟨m, t, b, l, hm, hye, _⟩ := tf_inv hy
   have hset : W.set (0 + i) (.sli .u8 (bytesF rk y).1) = ((ka.take (i + 1)).map fun c => CV.sli .u8 (bytesF rk (cell1 c)).1) ++ List.replicate (ka.length - (i + 1)) (.sli .u8 []) := by
    rw [hW, Nat.zero_add, List.set_append_right _ _ (by simp; omega)]
    have e1 : i - ((ka.take i).map fun c => CV.sli .u8 (bytesF rk (cell1 c)).1).length = 0 := by simp; omega
    rw [e1, show ka.length - i = (ka.length - (i + 1)) + 1 by omega, List.replicate_succ, List.set_cons_zero]
    have e2 : ka.take (i + 1) = ka.take i ++ [.agg y] := by
     rw [List.take_add_one, hc]; rfl
    rw [e2, List.map_append, List.append_assoc]
    rfl
   simp only [cell1, hye, List.headD_cons, List.tail_cons]
   refine b_pos rfl ?_
   simp only [cvInt, cvSli, cvSlg]
   refine b_pos ?_ ?_
   ·exact isWr_of ⟨hye ▸ hy, hye ▸ (by omega), d, hye ▸ hoky⟩
   ·have e : ndWrite [.int .i64 t, .sli .u8 b, .slg 3 l] = if (bytesF rk y).2 = true then ((bytesF rk y).1, true) else ([], false) := by
     rw [<- hye, ndWrite_eq hy]
    have es : sumL (fun c => (bytesF rk (cell1 c)).1) (ka.drop i) = ((bytesF rk y).1.length : Int) + sumL (fun c => (bytesF rk (cell1 c)).1) (ka.drop (i + 1)) := by rw [ed]; rfl
    have hpos := (sumL_drop (fun c => (bytesF rk (cell1 c)).1) ka (i + 1)).1
    rw [es] at hs hR
    have ea : (ka.drop i).all (fun c => (bytesF rk (cell1 c)).2) = ((bytesF rk y).2 && (ka.drop (i + 1)).all (fun c => (bytesF rk (cell1 c)).2)) := by rw [ed, List.all_cons]; rfl
    rw [ea] at hR
    by_cases hk : (bytesF rk y).2 = true
    ·rw [if_pos hk] at e
     rw [hk, Bool.true_and] at hR
     simp only [e]
     refine b_neg rfl ?_
     rw [show IntKind.i64.wrap (s + ((bytesF rk y).1.length : Int)) = s + ((bytesF rk y).1.length : Int) from i64_in _ (by omega)]
     refine c_pos (by omega) (c_pos h ?_)
     rw [hset, show IntKind.i64.wrap ((i : Int) + 1) = ((i + 1 : Nat) : Int) from (i64_in _ (by omega)).trans (by omega)]
     refine (dwrite_lp rk d ta ba ka kb hlen hall hok f (i + 1) _ (by omega) (by omega) (by omega) (by omega)).trans ?_
     rw [hR, Int.add_assoc]
    ·rw [if_neg hk] at e
     simp only [e]
     refine b_pos rfl ?_
     rw [hR, if_neg (by intro h; simp only [Bool.and_eq_true] at h; exact hk h.1)]
  ·obtain rfl : i = ka.length := by omega
   rw [List.drop_eq_nil_of_le (Nat.le_refl _)] at hR
   rw [hR, hW, List.take_length, Nat.sub_self]
   show finW ta s ((ka.map fun c => CV.sli .u8 (bytesF rk (cell1 c)).1) ++ []) = if ([] : List CV).all (fun c => (bytesF rk (cell1 c)).2) = true then finW ta (s + 0) _ else _
   rw [if_pos (by rfl), Int.add_zero, List.append_nil]
theorem nDWrite (rk : Nat) (ta : Int) (ba : List Int) (ka : List CV) (hp : isWr (rk + 1) [.int .i64 ta, .sli .u8 ba, .slg 3 ka] = true) : gDWrite rk ta ba ka = some (.ret [.cl (.sli .u8 (ndWrite [.int .i64 ta, .sli .u8 ba, .slg 3 ka]).1), .cl (.bool (ndWrite [.int .i64 ta, .sli .u8 ba, .slg 3 ka]).2)] []) := by
 obtain ⟨ht, hb, d, hok⟩ := isWr_spec hp
 obtain ⟨h1, h2, h3, h4, h5⟩ := tf_parts ht hb
 obtain ⟨d', rfl, hk, h⟩ := ok_parts hok
 rw [ndWrite_eq ht]
 unfold gDWrite derBoxed
 simp only [shut_eq]
 rcases h with ⟨hx, rfl, hall⟩ | ⟨hx, rfl, hf⟩
 ·have hflen := flat5 (n := rk) (l := ka) (B := 30000) (fun c hc => by obtain ⟨y, e, hy, _⟩ := h4 c hc; exact ⟨y, e, hy⟩) (by simp only [List.length_nil] at h5; omega)
  refine b_neg (by simp [hx]) (c_pos (by omega) (c_pos (by omega) (c_pos (by unfold LIM; omega) (c_pos (by unfold LIM; omega) ?_))))
  refine (dwrite_lp rk d' ta [] ka ka (by omega) h4 hall FUEL 0 0 (by omega) (by unfold FUEL; omega) (by omega) (by rw [List.drop_zero, sumL_flat]; omega)).trans ?_
  rw [List.drop_zero, sumL_flat, Int.zero_add, rows_map, bytes_box hx]
  by_cases ha : (ka.all fun c => (bytesF rk (cell1 c)).2) = true
  ·rw [if_pos ha, fin_w (known_rng hk) (by rw [List.length_map]; omega) (rows_b h4 hall) (by omega), ha, Bool.true_and]
   by_cases hs : (!(decide (ta = 49)) || rowsSortedC (ka.map fun c => (bytesF rk (cell1 c)).1)) = true
   ·rw [if_pos hs, if_pos hs]
   ·rw [if_neg hs, if_neg hs]; rfl
  ·rw [if_neg ha]
   have hf : (ka.all fun c => (bytesF rk (cell1 c)).2) = false := by simpa using ha
   rw [hf, Bool.false_and]
   rfl
 ·have hr := head_len ta (ba.length : Nat)
  have hr2 := lenSize_rng (ba.length : Nat)
  have := known_rng hk
  unfold derHead
  simp only [shut_eq]
  rw [bytes_leaf hx]
  refine b_pos (by simp [hx]) (b_pos (by unfold headOk; rw [shut_eq]; exact decide_eq_true (by omega)) (lim_in (by simp only [List.length_append]; omega) (lim_in (by simp only [List.length_append]; omega) rfl)))

/-! ### bytes, and what is fit -/
theorem nDBytes (ta : Int) (ba : List Int) (ka : List CV) (hp : isS [.int .i64 ta, .sli .u8 ba, .slg 3 ka] = true) : gDBytes ta ba ka = some (.ret [.cl (.sli .u8 (ndBytes [.int .i64 ta, .sli .u8 ba, .slg 3 ka]).1), .cl (.int .i64 (ndBytes [.int .i64 ta, .sli .u8 ba, .slg 3 ka]).2)] []) := by
 obtain ⟨n, ht, hb⟩ := isS_spec hp
 have hl := bytes_len ht
 unfold gDBytes
 refine b_pos (by rw [hp, deepOk_of (by omega)]; rfl) ?_
 rw [ndSize_eq ht, show (32 : Int).toNat = 32 from rfl]
 by_cases hok : okF n 32 [.int .i64 ta, .sli .u8 ba, .slg 3 ka] = true
 ·simp only [if_pos hok]
  refine c_neg (by omega) (c_neg (by omega) (b_pos (isW_of ⟨ht, hb, 32, hok⟩) ?_))
  simp only [ndWrite_eq ht, ndBytes_eq ht]
  by_cases h : (bytesF n [.int .i64 ta, .sli .u8 ba, .slg 3 ka]).2 = true
  ·simp only [if_pos h, if_pos (show okF n 32 [.int .i64 ta, .sli .u8 ba, .slg 3 ka] = true /\ (bytesF n [.int .i64 ta, .sli .u8 ba, .slg 3 ka]).2 = true from ⟨hok, h⟩)]
   exact b_neg rfl rfl
  ·simp only [if_neg h, if_neg (show ¬(okF n 32 [.int .i64 ta, .sli .u8 ba, .slg 3 ka] = true /\ (bytesF n [.int .i64 ta, .sli .u8 ba, .slg 3 ka]).2 = true) from fun e => h e.2)]
   exact b_pos rfl rfl
 ·simp only [if_neg hok, ndBytes_eq ht, if_neg (show ¬(okF n 32 [.int .i64 ta, .sli .u8 ba, .slg 3 ka] = true /\ (bytesF n [.int .i64 ta, .sli .u8 ba, .slg 3 ka]).2 = true) from fun e => hok e.1)]
  exact c_pos (by omega) rfl
theorem fit_bytes {n : Nat} {a : List CV} (ht : isTf n a = true) : decide ((ndBytes a).2 = 0) = ndFit a := by
 rw [ndBytes_eq ht, ndFit_eq ht]
 by_cases h : okF n 32 a = true /\ (bytesF n a).2 = true
 ·rw [if_pos h, decide_eq_true h]; rfl
 ·rw [if_neg h, decide_eq_false h]; rfl
theorem nDFit_ (ta : Int) (ba : List Int) (ka : List CV) (hp : isS [.int .i64 ta, .sli .u8 ba, .slg 3 ka] = true) : gDFit_ ta ba ka = some (.ret [.cl (.bool (ndFit [.int .i64 ta, .sli .u8 ba, .slg 3 ka]))] []) := by
 obtain ⟨n, ht, hb⟩ := isS_spec hp
 unfold gDFit_
 exact b_pos hp (ret_bool (fit_bytes ht))
end Go.Proofs.YtfkpjbbkdkcdcabDoorA

namespace Go.Proofs.YtfkpjbbkdkcdcabDoorA
open IntWalk (i64_in u8_in u32_in u64_in i64_quo u8_quo rem_in)

/-! ### the law -/
theorem isN_isS {a : List CV} (h : isS a = true) : isN a = true := by
 obtain ⟨n, hn, hb⟩ := isS_spec h
 exact isN_of (nd_of_tf hn hb)
end Go.Proofs.YtfkpjbbkdkcdcabDoorA

namespace Go.Proofs.YtfkpjbbkdkcdcabDoorA
open IntWalk (i64_in u8_in u32_in u64_in i64_quo u8_quo rem_in)

/-! ### bytes that are so -/
theorem wrap_succ {i : Nat} (h : i <= 1000000000000) : IntKind.i64.wrap ((i : Int) + 1) = ((i + 1 : Nat) : Int) := (i64_in _ (by omega)).trans (by omega)
theorem same_go {a b : List Int} {T : Nat -> Int -> Option Out}
  (hT : ∀ (f i : Nat), T (f + 1) i = cond (decide ((i : Int) < ((a.length : Nat) : Int))) (getK a i fun x => getK b i fun y => cond (!decide (x = y)) (some (.ret [.cl (.bool false)] [])) (T f (IntKind.i64.wrap ((i : Int) + 1)))) (some (.ret [.cl (.bool true)] [])))
  (hl : a.length = b.length) (hb : a.length <= 100000000) : ∀ (f i : Nat), i <= a.length -> a.length < f + i -> T f i = some (.ret [.cl (.bool (decide (a.drop i = b.drop i)))] [])
 | 0, i, hi, hf => by omega
 | f + 1, i, hi, hf => by
  rw [hT]
  refine c_split (fun h => ?_) fun h => ?_
  ·obtain ⟨x, hx⟩ := get_some (b := a) (i := i) (by omega)
   obtain ⟨y, hy⟩ := get_some (b := b) (i := i) (by omega)
   refine getK_in (by omega) hx (getK_in (by omega) hy ?_)
   rw [drop_cons hx, drop_cons hy]
   refine c_nsplit (fun hne => ret_bool ?_) fun he => ?_
   ·simp [hne]
   ·subst he
    rw [wrap_succ (by omega)]
    refine (same_go hT hl hb f (i + 1) (by omega) (by omega)).trans (ret_bool ?_)
    simp
  ·refine ret_bool ?_
   rw [drop_nil (by omega), drop_nil (by omega)]
   simp
theorem fuel_lt {n : Nat} (h : n <= 100000000) : n < FUEL + 0 := by unfold FUEL; omega
theorem same_all {a b : List Int} {x : Option Out} (hx : a.length = b.length -> x = some (.ret [.cl (.bool (decide (a.drop 0 = b.drop 0)))] [])) :
  cond (!decide (((a.length : Nat) : Int) = ((b.length : Nat) : Int))) (some (.ret [.cl (.bool false)] [])) x = some (.ret [.cl (.bool (listSame a b))] []) := by
 unfold listSame listSameC
 rw [shut_eq]
 refine c_nsplit (fun h => ret_bool ?_) fun h => hx (by omega)
 rw [eq_comm, decide_eq_false_iff_not]
 intro e
 subst e
 exact h rfl
theorem nR2Same (a b : List Int) (hp : lenOk a = true) : gR2Same a b = some (.ret [.cl (.bool (listSame a b))] []) := by
 unfold gR2Same
 simp only [shut_eq]
 exact same_all fun h => same_go (T := fun f => lpR2Same_4 _ _ f a b) (fun _ _ => rfl) h (lenOk_spec hp) FUEL 0 (by omega) (fuel_lt (lenOk_spec hp))
end Go.Proofs.YtfkpjbbkdkcdcabDoorA

namespace Go.Proofs.YtfkpjbbkdkcdcabDoorA
open IntWalk (i64_in u8_in u32_in u64_in i64_quo u8_quo rem_in)

theorem u32Ok_spec {n : Int} (h : u32Ok n = true) : 0 <= n /\ n <= 4294967295 := by
 unfold u32Ok at h; rw [shut_eq] at h; exact of_decide_eq_true h
theorem u32Ok_of {n : Int} (h : 0 <= n /\ n <= 4294967295) : u32Ok n = true := by
 unfold u32Ok; rw [shut_eq]; exact decide_eq_true h
theorem u32sOk_spec {o : List Int} (h : u32sOk o = true) : o.length <= 1000 /\ ∀ x ∈ o, 0 <= x /\ x <= 4294967295 := by
 unfold u32sOk at h
 rw [shut_eq] at h
 simp only [Bool.and_eq_true, decide_eq_true_eq, List.all_eq_true] at h
 exact ⟨h.1, fun x hx => of_decide_eq_true (h.2 x hx)⟩
theorem c_z {x : Int} {a b : Option Out} (h : x = 0) : cond (!decide (x = 0)) a b = b := by rw [decide_eq_true h]; rfl
theorem c_nz {x : Int} {a b : Option Out} (h : x ≠ 0) : cond (!decide (x = 0)) a b = a := by rw [decide_eq_false h]; rfl
theorem or128 : ∀ n : Fin 256, IntKind.u8.wrap ((BitVec.ofInt 8 (n.val : Int) ||| BitVec.ofInt 8 128).toNat) = 128 + (n.val : Int) % 128 := by decide +kernel
theorem put_hi (x : Int) : IntKind.u8.wrap ((BitVec.ofInt 8 (IntKind.u8.wrap x) ||| BitVec.ofInt 8 128).toNat) = 128 + x % 128 := by
 rw [u8_mod x]
 have := or128 ⟨(x % 256).toNat, by omega⟩
 simp only [Int.toNat_of_nonneg (show 0 <= x % 256 by omega)] at this
 rw [this]; omega
theorem put_lo (x : Int) : IntKind.u8.wrap ((BitVec.ofInt 8 (IntKind.u8.wrap x) &&& ~~~ BitVec.ofInt 8 128).toNat) = x % 128 := by
 rw [u8_mod x]
 have := (and7 ⟨(x % 256).toNat, by omega⟩).1
 simp only [Int.toNat_of_nonneg (show 0 <= x % 256 by omega)] at this
 rw [this]; omega
theorem fd28 (n : Int) : Int.fdiv n (2 ^ 28) = n / 268435456 := Int.fdiv_eq_ediv_of_nonneg _ (by decide)
theorem fd21 (n : Int) : Int.fdiv n (2 ^ 21) = n / 2097152 := Int.fdiv_eq_ediv_of_nonneg _ (by decide)
theorem fd14 (n : Int) : Int.fdiv n (2 ^ 14) = n / 16384 := Int.fdiv_eq_ediv_of_nonneg _ (by decide)
theorem fd7 (n : Int) : Int.fdiv n (2 ^ 7) = n / 128 := Int.fdiv_eq_ediv_of_nonneg _ (by decide)
theorem gHi_0 (f : Nat) : gHi f 0 = [] := by cases f <;> rfl
theorem gHi_s (f : Nat) {n : Int} (h : n ≠ 0) : gHi (f + 1) n = gHi f (n / 128) ++ [128 + n % 128] := by
 conv => lhs; unfold gHi
 rw [if_neg h]
theorem gr1 {n : Int} (h : n / 128 = 0) : oidGroupsC n = [n % 128] := by unfold oidGroupsC; rw [h, gHi_0]; rfl
theorem gr2 {n : Int} (h : n / 128 ≠ 0) (h' : n / 16384 = 0) : oidGroupsC n = [128 + n / 128 % 128, n % 128] := by
 unfold oidGroupsC
 rw [gHi_s 4 h, show n / 128 / 128 = 0 by omega, gHi_0]; rfl
theorem gr3 {n : Int} (h : n / 16384 ≠ 0) (h' : n / 2097152 = 0) : oidGroupsC n = [128 + n / 16384 % 128, 128 + n / 128 % 128, n % 128] := by
 unfold oidGroupsC
 rw [gHi_s 4 (by omega), gHi_s 3 (by omega), show n / 128 / 128 / 128 = 0 by omega, gHi_0, show n / 128 / 128 = n / 16384 by omega]; rfl
theorem gr4 {n : Int} (h : n / 2097152 ≠ 0) (h' : n / 268435456 = 0) : oidGroupsC n = [128 + n / 2097152 % 128, 128 + n / 16384 % 128, 128 + n / 128 % 128, n % 128] := by
 unfold oidGroupsC
 rw [gHi_s 4 (by omega), gHi_s 3 (by omega), gHi_s 2 (by omega), show n / 128 / 128 / 128 / 128 = 0 by omega, gHi_0, show n / 128 / 128 / 128 = n / 2097152 by omega, show n / 128 / 128 = n / 16384 by omega]; rfl
theorem gr5 {n : Int} (h : n / 268435456 ≠ 0) (h' : 0 <= n /\ n <= 4294967295) : oidGroupsC n = [128 + n / 268435456 % 128, 128 + n / 2097152 % 128, 128 + n / 16384 % 128, 128 + n / 128 % 128, n % 128] := by
 unfold oidGroupsC
 rw [gHi_s 4 (by omega), gHi_s 3 (by omega), gHi_s 2 (by omega), gHi_s 1 (by omega), show n / 128 / 128 / 128 / 128 / 128 = 0 by omega, gHi_0, show n / 128 / 128 / 128 / 128 = n / 268435456 by omega, show n / 128 / 128 / 128 = n / 2097152 by omega, show n / 128 / 128 = n / 16384 by omega]; rfl
theorem gr_cases {n : Int} (h : 0 <= n /\ n <= 4294967295) : (n / 128 = 0 /\ n / 16384 = 0 /\ n / 2097152 = 0 /\ n / 268435456 = 0) \/ (n / 128 ≠ 0 /\ n / 16384 = 0 /\ n / 2097152 = 0 /\ n / 268435456 = 0) \/
  (n / 128 ≠ 0 /\ n / 16384 ≠ 0 /\ n / 2097152 = 0 /\ n / 268435456 = 0) \/ (n / 128 ≠ 0 /\ n / 16384 ≠ 0 /\ n / 2097152 ≠ 0 /\ n / 268435456 = 0) \/ (n / 128 ≠ 0 /\ n / 16384 ≠ 0 /\ n / 2097152 ≠ 0 /\ n / 268435456 ≠ 0) := by omega
theorem nOPut_0 (n : Int) (hp : u32Ok n = true) : gOPut_0 n = some (.ret [.ref 0 0 (oidGroups n).length true 1] [some ⟨.ints .u8 (oidGroups n), false⟩]) := by
 have hn := u32Ok_spec hp
 unfold gOPut_0 oidGroups
 simp only [shut_eq]
 unfold jnOPut_2
 simp only [fd28, fd21, fd14, fd7, put_hi, put_lo]
 rcases gr_cases hn with ⟨h1, h2, h3, h4⟩ | ⟨h1, h2, h3, h4⟩ | ⟨h1, h2, h3, h4⟩ | ⟨h1, h2, h3, h4⟩ | ⟨h1, h2, h3, h4⟩
 ·rw [c_z h4, c_z h3, c_z h2, c_z h1, gr1 h1]; rfl
 ·rw [c_z h4, c_z h3, c_z h2, c_nz h1, gr2 h1 h2]; rfl
 ·rw [c_z h4, c_z h3, c_nz h2, c_nz h1, gr3 h2 h3]; rfl
 ·rw [c_z h4, c_nz h3, c_nz h2, c_nz h1, gr4 h3 h4]; rfl
 ·rw [c_nz h4, c_nz h3, c_nz h2, c_nz h1, gr5 h4 hn]; rfl
theorem rm1 {l : List Int} {x : Option Out} (h : l.length <= 1000000000) : rmK l.length 1 x = x := rmK_in (by omega) (by omega) rfl
theorem nOPut_1 (m : Nat) (n : Int) (l : List Int) (hp : (u32Ok n && lenOk l) = true) : gOPut_1 m n l = some (.ret [.ref 1 0 (l ++ oidGroups n).length true 1] [none, some ⟨.ints .u8 (l ++ oidGroups n), false⟩]) := by
 simp only [Bool.and_eq_true] at hp
 have hn := u32Ok_spec hp.1
 have hl := lenOk_spec hp.2
 have rm : ∀ (a : List Int) {x : Option Out}, a.length <= 10 -> rmK (l ++ a).length 1 x = x := fun a x h => rm1 (by simp; omega)
 unfold gOPut_1 oidGroups
 simp only [shut_eq]
 unfold jnOPut_2_1
 simp only [fd28, fd21, fd14, fd7, put_hi, put_lo, List.append_assoc, List.cons_append, List.nil_append]
 rcases gr_cases hn with ⟨h1, h2, h3, h4⟩ | ⟨h1, h2, h3, h4⟩ | ⟨h1, h2, h3, h4⟩ | ⟨h1, h2, h3, h4⟩ | ⟨h1, h2, h3, h4⟩
 ·rw [c_z h4, c_z h3, c_z h2, c_z h1, gr1 h1, rm _ (by simp)]
 ·rw [c_z h4, c_z h3, c_z h2, c_nz h1, gr2 h1 h2, rm _ (by simp), rm _ (by simp)]
 ·rw [c_z h4, c_z h3, c_nz h2, rm _ (by simp), c_nz h1, rm _ (by simp), gr3 h2 h3, rm _ (by simp)]
 ·rw [c_z h4, c_nz h3, rm _ (by simp), c_nz h2, rm _ (by simp), c_nz h1, rm _ (by simp), gr4 h3 h4, rm _ (by simp)]
 ·rw [c_nz h4, rm _ (by simp), c_nz h3, rm _ (by simp), c_nz h2, rm _ (by simp), c_nz h1, rm _ (by simp), gr5 h4 hn, rm _ (by simp)]

/-! ### all of its bytes -/
theorem gr_len (n : Int) : (oidGroupsC n).length <= 6 := by
 have h : ∀ (f : Nat) (n : Int), (gHi f n).length <= f := fun f => by
  induction f with
  | zero => intro n; simp [gHi]
  | succ f ih =>
   intro n
   unfold gHi
   split
   ·simp
   ·have := ih (n / 128); simp; omega
 unfold oidGroupsC
 have := h 5 (n / 128)
 simp; omega
theorem groups_eq (n : Int) : oidGroups n = oidGroupsC n := shut_eq _
abbrev bO (y : List Int) : Option Out := some (.ret [.cl (.sli .u8 y)] [])
theorem ob_go (r : List Int) (hr : ∀ x ∈ r, 0 <= x /\ x <= 4294967295) (hl : r.length <= 1000) : ∀ (f i : Nat) (l : List Int), i <= r.length -> r.length < f + i -> l.length <= 6 * (i + 1) ->
  lpOBytes_5 (fun _ y => bO y) f l.length r r.length i l = bO (l ++ (r.drop i).flatMap oidGroupsC)
 | 0, i, l, hi, hf, _ => by omega
 | f + 1, i, l, hi, hf, hll => by
  show lpOBytes_5s (lpOBytes_5 (fun _ y => bO y) f) (fun _ y => bO y) l.length r r.length i l = _
  unfold lpOBytes_5s
  refine c_split (fun h => ?_) fun h => ?_
  ·obtain ⟨c, hc⟩ := get_some (b := r) (i := i) (by omega)
   refine getK_in (by omega) hc (b_pos ?_ ?_)
   ·rw [u32Ok_of (hr c (List.mem_of_getElem? hc)), lenOk_of (by omega)]; rfl
   ·have := gr_len c
    dsimp only
    rw [wrap_succ (by omega), groups_eq, drop_cons hc]
    refine (ob_go r hr hl f (i + 1) (l ++ oidGroupsC c) (by omega) (by omega) (by simp; omega)).trans ?_
    simp
  ·rw [drop_nil (by omega)]; simp
theorem fit_head {o : List Int} (h : oidFitC o = true) : ∃ x y r, o = x :: y :: r /\ r.length <= 18 /\ x <= 2 /\ (x < 2 -> y < 40) /\ y <= 4294967215 := by
 match o, h with
 | x :: y :: r, h =>
  simp only [oidFitC, Bool.and_eq_true, Bool.or_eq_true, decide_eq_true_eq] at h
  exact ⟨x, y, r, rfl, h.1, by omega, by omega, by omega⟩
theorem nOBytes (o : List Int) (hp : u32sOk o = true) : gOBytes o = some (.ret [.cl (.sli .u8 (oidBytes o))] []) := by
 obtain ⟨hl, hr⟩ := u32sOk_spec hp
 unfold gOBytes oidBytes oidFit oidBytesC
 simp only [shut_eq]
 cases hf : oidFitC o with
 | false => rfl
 | true =>
  obtain ⟨x, y, r, rfl, hr18, hx, hxy, hy⟩ := fit_head hf
  have rx := hr x (by simp)
  have ry := hr y (by simp)
  rw [if_pos rfl]
  refine b_neg rfl (c_pos (by simp only [List.length_cons]; omega) ?_)
  simp only [List.getElem?_cons_zero, List.getElem?_cons_succ, Option.bind_some]
  rw [show IntKind.u32.wrap (40 * x) = 40 * x from u32_in _ (by omega), show IntKind.u32.wrap (40 * x + y) = 40 * x + y from u32_in _ (by omega)]
  refine c_pos (by simp only [List.length_cons]; omega) (b_pos (u32Ok_of (by omega)) (c_pos (by simp only [List.length_cons]; omega) ?_))
  rw [groups_eq]
  have := gr_len (40 * x + y)
  exact ob_go r (fun z hz => hr z (by simp [hz])) (by omega) FUEL 0 _ (by omega) (by unfold FUEL; omega) (by omega)
end Go.Proofs.YtfkpjbbkdkcdcabDoorA

namespace Go.Proofs.YtfkpjbbkdkcdcabDoorA
open IntWalk (i64_in u8_in u32_in u64_in i64_quo u8_quo rem_in)

/-! ### pieces between points -/
/-! ### digits as numbers -/
theorem fit_len {o : List Int} (h : oidFitC o = true) : 2 <= o.length /\ o.length <= 20 := by
 obtain ⟨x, y, r, rfl, h1, _⟩ := fit_head h
 simp; omega
end Go.Proofs.YtfkpjbbkdkcdcabDoorA

namespace Go.Proofs.YtfkpjbbkdkcdcabDoorA

abbrev inU (n : Int) : Prop := 0 <= n /\ n <= 4294967295
/-! ### bytes -/
theorem groups_num {n : Int} (h : inU n) (rest : List Int) : oidNumberC (oidGroupsC n ++ rest) = (n, ((oidGroupsC n).length : Int)) := by
 unfold oidNumberC
 have go : ∀ (acc i c : Int) (r : List Int), ¬ (i = 0 /\ c = 128) -> acc <= 33554431 -> 128 <= c -> oidNumG acc i (c :: r) = oidNumG (acc * 128 + (c - 128)) (i + 1) r := fun acc i c r h1 h2 h3 => by
  rw [numG_cons, if_neg (by rintro (h | h); exact h1 h; omega), if_neg (by omega)]
 have fin : ∀ (acc i c : Int) (r : List Int), ¬ (i = 0 /\ c = 128) -> acc <= 33554431 -> c < 128 -> oidNumG acc i (c :: r) = (acc * 128 + c, i + 1) := fun acc i c r h1 h2 h3 => by
  rw [numG_cons, if_neg (by rintro (h | h); exact h1 h; omega), if_pos h3]
 rcases gr_cases h with ⟨h1, h2, h3, h4⟩ | ⟨h1, h2, h3, h4⟩ | ⟨h1, h2, h3, h4⟩ | ⟨h1, h2, h3, h4⟩ | ⟨h1, h2, h3, h4⟩
 ·rw [gr1 h1]
  simp only [List.cons_append, List.nil_append, List.length_cons, List.length_nil]
  rw [fin _ _ _ _ (by omega) (by omega) (by omega)]
  exact Prod.ext (by simp only []; omega) rfl
 ·rw [gr2 h1 h2]
  simp only [List.cons_append, List.nil_append, List.length_cons, List.length_nil]
  rw [go _ _ _ _ (by omega) (by omega) (by omega), fin _ _ _ _ (by omega) (by omega) (by omega)]
  exact Prod.ext (by simp only []; omega) rfl
 ·rw [gr3 h2 h3]
  simp only [List.cons_append, List.nil_append, List.length_cons, List.length_nil]
  rw [go _ _ _ _ (by omega) (by omega) (by omega), go _ _ _ _ (by omega) (by omega) (by omega), fin _ _ _ _ (by omega) (by omega) (by omega)]
  exact Prod.ext (by simp only []; omega) rfl
 ·rw [gr4 h3 h4]
  simp only [List.cons_append, List.nil_append, List.length_cons, List.length_nil]
  rw [go _ _ _ _ (by omega) (by omega) (by omega), go _ _ _ _ (by omega) (by omega) (by omega), go _ _ _ _ (by omega) (by omega) (by omega), fin _ _ _ _ (by omega) (by omega) (by omega)]
  exact Prod.ext (by simp only []; omega) rfl
 ·rw [gr5 h4 h]
  simp only [List.cons_append, List.nil_append, List.length_cons, List.length_nil]
  rw [go _ _ _ _ (by omega) (by omega) (by omega), go _ _ _ _ (by omega) (by omega) (by omega), go _ _ _ _ (by omega) (by omega) (by omega), go _ _ _ _ (by omega) (by omega) (by omega), fin _ _ _ _ (by omega) (by omega) (by omega)]
  exact Prod.ext (by simp only []; omega) rfl
theorem gr_pos (n : Int) : 0 < (oidGroupsC n).length := by unfold oidGroupsC; simp
theorem gr_byte {n : Int} (h : inU n) : ∀ x ∈ oidGroupsC n, 0 <= x /\ x <= 255 := by
 have : ∀ (f : Nat) (n : Int), ∀ x ∈ gHi f n, 0 <= x /\ x <= 255 := fun f => by
  induction f with
  | zero => intro n x hx; simp [gHi] at hx
  | succ f ih =>
   intro n x hx
   unfold gHi at hx
   split at hx
   ·simp at hx
   ·rcases List.mem_append.1 hx with hx | hx
    ·exact ih _ x hx
    ·simp at hx; omega
 intro x hx
 unfold oidGroupsC at hx
 rcases List.mem_append.1 hx with hx | hx
 ·exact this _ _ x hx
 ·simp at hx; omega
theorem nums_groups {n : Int} (h : inU n) (rest : List Int) (hb : bytesOk (oidGroupsC n ++ rest) = true) : oidNumsC (oidGroupsC n ++ rest) = (n, true) :: oidNumsC rest := by
 have hp := gr_pos n
 rw [nums_step hb, if_neg (fun e => by rw [List.append_eq_nil_iff] at e; rw [e.1] at hp; simp at hp), groups_num h]
 simp only []
 rw [if_neg (by omega), int_nat, List.drop_left]
theorem nums_flat : ∀ (l : List Int) (rest : List Int), (∀ n ∈ l, inU n) -> bytesOk (l.flatMap oidGroupsC ++ rest) = true -> oidNumsC (l.flatMap oidGroupsC ++ rest) = l.map (fun n => (n, true)) ++ oidNumsC rest
 | [], rest, _, _ => rfl
 | n :: l, rest, h, hb => by
  rw [List.flatMap_cons, List.append_assoc] at hb ⊢
  rw [nums_groups (h n (by simp)) _ hb, nums_flat l rest (fun x hx => h x (by simp [hx])) (by have := bytesOk_drop hb (oidGroupsC n).length; rwa [List.drop_left] at this)]
  rfl
/-- an identifier's numbers as they stand in its bytes -/
def oflat : List Int -> List Int
 | x :: y :: r => (40 * x + y) :: r
 | _ => []
theorem bytes_oflat {o : List Int} (h : oidFitC o = true) : oidBytesC o = (oflat o).flatMap oidGroupsC := by
 obtain ⟨x, y, r, rfl, _⟩ := fit_head h
 unfold oidBytesC
 rw [if_pos h]
 simp [oflat]
theorem oflat_rng {o : List Int} (h : oidFitC o = true) (hr : ∀ n ∈ o, inU n) : ∀ n ∈ oflat o, inU n := by
 obtain ⟨x, y, r, rfl, h1, h2, h3, h4⟩ := fit_head h
 intro n hn
 have := hr x (by simp)
 have := hr y (by simp)
 rcases List.mem_cons.1 hn with rfl | hn
 ·exact ⟨by omega, by omega⟩
 ·exact hr n (by simp [hn])
theorem oflat_len {o : List Int} (h : oidFitC o = true) : (oflat o).length + 1 = o.length := by
 obtain ⟨x, y, r, rfl, _⟩ := fit_head h; rfl
theorem bytes_ok {o : List Int} (hr : ∀ n ∈ o, inU n) : bytesOk (oidBytesC o) = true := by
 by_cases h : oidFitC o = true
 ·rw [bytes_oflat h]
  have hl := oflat_len h
  have hf := fit_len h
  have hg : ∀ (l : List Int), (l.flatMap oidGroupsC).length <= 6 * l.length := fun l => by
   induction l with
   | nil => simp
   | cons a l ih => have := gr_len a; simp at *; omega
  have := hg (oflat o)
  refine bytesOk_of (by omega) fun x hx => ?_
  obtain ⟨n, hn, hx⟩ := List.mem_flatMap.1 hx
  exact gr_byte (oflat_rng h hr n hn) x hx
 ·unfold oidBytesC
  rw [if_neg h]
  exact bytesOk_of (by simp) (by simp)
theorem go_true : ∀ (l o : List Int), o ≠ [] -> o.length + l.length <= 21 -> oidGo (l.map fun n => (n, true)) o = some (o ++ l)
 | [], o, _, _ => by simp [oidGo]
 | n :: l, o, h, hl => by
  rw [List.map_cons]
  unfold oidGo
  simp only [List.length_cons] at hl
  rw [if_neg (by rintro (h | h); cases h; omega), if_neg h, go_true l (o ++ [n]) (by simp) (by simp; omega)]
  simp
theorem first_oflat {x y : Int} (h : oidFitC [x, y] = true) (hx : inU x) (hy : inU y) : oidFirstC (40 * x + y) = [x, y] := by
 simp only [oidFitC, Bool.and_eq_true, Bool.or_eq_true, decide_eq_true_eq] at h
 unfold oidFirstC
 rcases h.2 with h | h
 ·rw [if_pos (by omega), show (40 * x + y) / 40 = x by omega, show (40 * x + y) % 40 = y by omega]
 ·rw [if_neg (by omega), h.1, show 40 * 2 + y - 80 = y by omega]
theorem parse_bytes {o : List Int} (h : oidFitC o = true) (hr : ∀ n ∈ o, inU n) : oidParseC (oidBytesC o) = (o, 0) := by
 have hok := bytes_ok hr
 have hfl := fit_len h
 rw [bytes_oflat h] at hok ⊢
 have e := nums_flat (oflat o) [] (oflat_rng h hr) (by rwa [List.append_nil])
 rw [List.append_nil] at e
 unfold oidParseC
 rw [e, show oidNumsC [] = [] from rfl, List.append_nil]
 obtain ⟨x, y, r, rfl, h1, h2, h3, h4⟩ := fit_head h
 have hf2 : oidFitC [x, y] = true := by
  simp only [oidFitC, Bool.and_eq_true] at h ⊢
  exact ⟨by simp, h.2⟩
 have : oidGo ((oflat (x :: y :: r)).map fun n => (n, true)) [] = some (x :: y :: r) := by
  show oidGo ((40 * x + y, true) :: r.map fun n => (n, true)) [] = _
  unfold oidGo
  rw [if_neg (by simp), if_pos rfl, first_oflat hf2 (hr x (by simp)) (hr y (by simp)), go_true r [x, y] (by simp) (by simp at *; omega)]
  rfl
 rw [this]
 simp only []
 rw [if_pos h]
/-! ### texts -/
end Go.Proofs.YtfkpjbbkdkcdcabDoorA

namespace Go.Proofs.YtfkpjbbkdkcdcabDoorA
open IntWalk (i64_in u8_in u32_in u64_in i64_quo u8_quo rem_in)

theorem num8_spec {b : List Int} (h : num8 b = true) : b.length <= 8 /\ ∀ x ∈ b, 0 <= x /\ x <= 255 := by
 unfold num8 at h
 rw [shut_eq, Bool.and_eq_true, decide_eq_true_eq, List.all_eq_true] at h
 exact ⟨h.1, fun x hx => byteB_spec (h.2 x hx)⟩
theorem num8_of {b : List Int} (h : b.length <= 8) (h' : ∀ x ∈ b, 0 <= x /\ x <= 255) : num8 b = true := by
 unfold num8
 rw [shut_eq, Bool.and_eq_true, decide_eq_true_eq, List.all_eq_true]
 exact ⟨h, fun x hx => decide_eq_true (h' x hx)⟩
theorem vu64_of {n : Int} (h : 0 <= n /\ n <= 18446744073709551615) : u64Ok n = true := by unfold u64Ok; rw [shut_eq]; exact decide_eq_true h
theorem vu64_spec {n : Int} (h : u64Ok n = true) : 0 <= n /\ n <= 18446744073709551615 := by unfold u64Ok at h; rw [shut_eq] at h; exact of_decide_eq_true h
abbrev vRetN : Int -> Option Out := fun y => some (.ret [.cl (.int .u64 y)] [])
theorem vbnum_lp (b : List Int) (hb : ∀ x ∈ b, 0 <= x /\ x <= 255) (hl : b.length <= 8) : ∀ (f i : Nat) (n : Int), i <= b.length -> b.length < f + i -> 0 <= n -> n < 256 ^ i ->
  lpVBNum_3 vRetN f n b ((b.length : Nat) : Int) i = some (.ret [.cl (.int .u64 ((b.drop i).foldl (fun n x => n * 256 + x) n))] [])
 | 0, i, n, hi, hf, _, _ => by omega
 | f + 1, i, n, hi, hf, h0, h1 => by
  show lpVBNum_3s (lpVBNum_3 vRetN f) vRetN n b _ i = _
  unfold lpVBNum_3s
  refine c_split (fun h => ?_) fun h => ?_
  ·have hh : ((256 : Int) ^ i) = ((256 ^ i : Nat) : Int) := by rw [Int.natCast_pow]; rfl
   have h3 : (256 ^ i : Nat) <= 72057594037927936 := Nat.le_trans (Nat.pow_le_pow_right (by omega) (show i <= 7 by omega)) (by decide)
   have h2 : n < 72057594037927936 := by rw [hh] at h1; generalize 256 ^ i = z at *; omega
   obtain ⟨x, hx⟩ := get_some (b := b) (i := i) (by omega)
   have hxr := hb x (List.mem_of_getElem? hx)
   refine getK_in (by omega) hx ?_
   rw [drop_cons hx, List.foldl_cons]
   dsimp only
   rw [show IntKind.u64.wrap (n * 2 ^ 8) = n * 256 from (u64_in _ (by omega)).trans (by omega), show IntKind.u64.wrap x = x from u64_in _ (by omega), or_add h0 h2 hxr.1 hxr.2, show IntKind.u64.wrap (n * 256 + x) = n * 256 + x from u64_in _ (by omega),
    show IntKind.i64.wrap ((i : Int) + 1) = ((i + 1 : Nat) : Int) from (i64_in _ (by omega)).trans (by omega)]
   exact vbnum_lp b hb hl f (i + 1) _ (by omega) (by omega) (by omega) (by rw [Int.pow_succ]; omega)
  ·rw [drop_nil (by omega)]; rfl
theorem nVBNum (b : List Int) (hp : num8 b = true) : gVBNum b = some (.ret [.cl (.int .u64 (bytesNum b))] []) := by
 obtain ⟨hl, hb⟩ := num8_spec hp
 unfold gVBNum bytesNum
 simp only [shut_eq]
 exact vbnum_lp b hb hl FUEL 0 0 (by omega) (by unfold FUEL; omega) (by omega) (by decide)

/-! ### bytes of a number -/
theorem v_mod (x : Int) : IntKind.u8.wrap x = x % 256 := by simp [IntKind.wrap, IntKind.bits, IntKind.signed]
theorem v_div {n : Int} (h : 0 <= n) (k : Nat) : Int.fdiv n (2 ^ k) = n / 2 ^ k := Int.fdiv_eq_ediv_of_nonneg _ (by have : (0 : Int) < 2 ^ k := Int.pow_pos (by decide); omega)
theorem nVLe (n : Int) (hp : u64Ok n = true) : gVLe n = some (.ret [.ref 0 0 8 true 1] [some ⟨.ints .u8 (vLe n), false⟩]) := by
 have h := (vu64_spec hp).1
 unfold gVLe vLe vLeC
 simp only [shut_eq, v_mod, v_div h]
 simp only [show (2 : Int) ^ 0 = 1 from rfl, show (2 : Int) ^ 8 = 256 from rfl, show (2 : Int) ^ 16 = 65536 from rfl, show (2 : Int) ^ 24 = 16777216 from rfl, show (2 : Int) ^ 32 = 4294967296 from rfl, show (2 : Int) ^ 40 = 1099511627776 from rfl,
  show (2 : Int) ^ 48 = 281474976710656 from rfl, show (2 : Int) ^ 56 = 72057594037927936 from rfl, Int.ediv_one]
theorem nVReverse (l : List Int) (hp : revOk l = true) : gVReverse l = some (.ret [] [some ⟨.ints .u8 (vRev l), false⟩]) := by
 have h : l.length = 8 := by unfold revOk at hp; rw [shut_eq] at hp; exact of_decide_eq_true hp
 match l, h with
 | [a0, a1, a2, a3, a4, a5, a6, a7], _ =>
  unfold vRev
  rw [shut_eq]
  rfl
theorem vLe_len (n : Int) : (vLe n).length = 8 := by unfold vLe; rw [shut_eq]; rfl
theorem nVBe (n : Int) (hp : u64Ok n = true) : gVBe n = some (.ret [.cl (.sli .u8 (vBe n))] []) := by
 unfold gVBe
 refine b_pos hp (b_pos (by unfold revOk; rw [shut_eq]; exact decide_eq_true (vLe_len n)) ?_)
 unfold vBe vRev vLe
 simp only [shut_eq]
/-! ### a number as a value -/
theorem vBe_len (n : Int) : (vBe n).length = 8 := by unfold vBe; rw [shut_eq]; rfl
theorem trim_two (a b : Int) (r : List Int) : trimF (a :: b :: r) = if (a = 0 /\ b < 128) \/ (a = 255 /\ 128 <= b) then trimF (b :: r) else a :: b :: r := by
 conv => lhs; unfold trimF
abbrev vRetI : List Int -> Option Out := fun y => some (.ret [.cl (.agg [.int .i64 2, .sli .u8 y, .slg 3 []])] [])
theorem vint_lp : ∀ (f : Nat) (l : List Int), l.length < f -> lpVInt_2 vRetI f l = vRetI (trimF l)
 | 0, l, h => by omega
 | f + 1, l, h => by
  show lpVInt_2s (lpVInt_2 vRetI f) vRetI l = _
  unfold lpVInt_2s
  match l, h with
  | [], _ => exact c_neg (by simp) rfl
  | [a], _ => exact c_neg (by simp) rfl
  | a :: b :: r, h =>
   have again := vint_lp f (b :: r) (by simp only [List.length_cons] at h ⊢; omega)
   generalize lpVInt_2 vRetI f = ag at again ⊢
   have l1 : (1 : Int) < (((a :: b :: r).length : Nat) : Int) := by simp only [List.length_cons]; omega
   rw [trim_two]
   refine c_pos l1 (c_pos (by omega) ?_)
   show cond (decide (a = 0)) _ _ = _
   refine c_split (fun h0 => c_pos l1 ?_) fun h0 => c_pos (by omega) ?_
   ·show cond (decide (b < 128)) _ _ = _
    refine c_split (fun h1 => c_pos (by omega) ?_) fun h1 => c_pos (by omega) ?_
    ·rw [if_pos (.inl ⟨h0, h1⟩)]; exact again
    ·show cond (decide (a = 255)) _ _ = _
     rw [if_neg (by omega)]
     exact c_neg (by omega) rfl
   ·show cond (decide (a = 255)) _ _ = _
    refine c_split (fun h1 => c_pos l1 ?_) fun h1 => ?_
    ·show cond (decide (128 <= b)) _ _ = _
     refine c_split (fun h2 => c_pos (by omega) ?_) fun h2 => ?_
     ·rw [if_pos (.inr ⟨h1, h2⟩)]; exact again
     ·rw [if_neg (by omega)]
    ·rw [if_neg (by omega)]
theorem v_u64 (n : Int) : IntKind.u64.wrap n = n % 18446744073709551616 := by simp [IntKind.wrap, IntKind.bits, IntKind.signed]
theorem vInt_eq (n : Int) : vInt n = trimF (vBe (n % 18446744073709551616)) := by unfold vInt vIntC vBe; rw [shut_eq, shut_eq]
theorem nVInt (n : Int) (hp : stI64 n = true) : gVInt n = some (.ret [.cl (.agg [.int .i64 2, .sli .u8 (vInt n), .slg 3 noKids])] []) := by
 unfold gVInt
 rw [v_u64]
 refine b_pos (vu64_of (by omega)) ?_
 simp only [shut_eq]
 rw [vInt_eq]
 unfold noKids
 rw [shut_eq]
 exact vint_lp FUEL _ (by rw [vBe_len]; unfold FUEL; omega)
theorem nVNull (hp : true = true) : gVNull = some (.ret [.cl (.agg [.int .i64 5, .sli .u8 [], .slg 3 []])] []) := rfl
end Go.Proofs.YtfkpjbbkdkcdcabDoorA
