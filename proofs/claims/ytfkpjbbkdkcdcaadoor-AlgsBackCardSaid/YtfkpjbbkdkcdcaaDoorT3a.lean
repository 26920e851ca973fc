/-
 What the layers below come to (their lemmas, as far as this seat needs them). Conditions: each function's own.
-/
import Derived.Test.YtfkpjbbkdkcdcaaDoorT2a
import Derived.Test.YtfkpjbbkdkcdcaaDoorT2b
import Derived.Test.YtfkpjbbkdkcdcaaDoorT2c
import Derived.Test.YtfkpjbbkdkcdcaaDoorT2d
import Derived.Test.YtfkpjbbkdkcdcaaDoorK3
import Derived.IntWalk
set_option linter.unusedVariables false
set_option linter.unusedSimpArgs false
set_option maxRecDepth 100000
namespace Go.Proofs.YtfkpjbbkdkcdcaaDoorA

theorem stYears_step (y : Int) : stYears (y + 1) = stYears y + 365 + (if stLeap y = true then 1 else 0) := by
 unfold stYears stLeap
 simp only [decide_eq_true_eq]
 split <;> omega
theorem stAhead_step {y m : Int} (h1 : 1 <= m) (h2 : m <= 12) : stAhead y (m + 1) = stAhead y m + stDays y m := by
 have hm : m = 1 \/ m = 2 \/ m = 3 \/ m = 4 \/ m = 5 \/ m = 6 \/ m = 7 \/ m = 8 \/ m = 9 \/ m = 10 \/ m = 11 \/ m = 12 := by omega
 unfold stAhead stDays
 cases stLeap y <;> rcases hm with h | h | h | h | h | h | h | h | h | h | h | h <;> subst h <;> rfl
theorem stAhead_one (y : Int) : stAhead y 1 = 0 := by unfold stAhead; rfl
theorem stDays_rng (y m : Int) : 28 <= stDays y m /\ stDays y m <= 31 := by
 unfold stDays
 split
 ·split <;> omega
 ·split <;> omega
end Go.Proofs.YtfkpjbbkdkcdcaaDoorA

namespace Go.Proofs.YtfkpjbbkdkcdcaaDoorA
open IntWalk (i64_in u8_in u32_in u64_in i64_quo u8_quo rem_in)

theorem nDigits (s : ByteArray) (hp : decide (2 <= s.size) = true) : gDigits s = some (.ret [.cl (.int .i64 (stDigits s))] []) := by
 simp only [decide_eq_true_eq] at hp
 unfold gDigits stDigits stDig
 have r0 := bget_rng s 0
 have r1 := bget_rng s 1
 refine c_pos (by omega) ?_
 extract_lets x1 x2 x3 x4 x5 x6 x7 x8
 have e2 : x2 = bget s 0 := i64_in _ (by omega)
 have e3 : x3 = bget s 0 - 48 := by show IntKind.i64.wrap (x2 - 48) = _; rw [e2]; exact i64_in _ (by omega)
 refine c_pos (by omega) ?_
 have e5 : x5 = bget s 1 := i64_in _ (by omega)
 have e6 : x6 = bget s 1 - 48 := by show IntKind.i64.wrap (x5 - 48) = _; rw [e5]; exact i64_in _ (by omega)
 refine c_split (fun h => ?_) fun h1 => c_split (fun h => ?_) fun h2 => c_split (fun h => ?_) fun h3 => c_split (fun h => ?_) fun h4 => ?_
 ·rw [if_pos (by omega)]
 ·rw [if_pos (by omega)]
 ·rw [if_pos (by omega)]
 ·rw [if_pos (by omega)]
 ·rw [if_neg (by omega)]
  have e7 : x7 = 10 * x3 := i64_in _ (by omega)
  have e8 : x8 = 10 * x3 + x6 := by show IntKind.i64.wrap (x7 + x6) = _; rw [e7]; exact i64_in _ (by omega)
  exact ret_int (by rw [e8, e3, e6])

theorem nDLeap (d0 d1 d2 d3 d4 d5 : Int) (hp : stOk d0 = true) : gDLeap d0 d1 d2 d3 d4 d5 = some (.ret [.cl (.bool (stLeap d0))] []) := by
 simp only [stOk, decide_eq_true_eq] at hp
 unfold gDLeap stLeap
 rw [rem_in d0 4 (by omega), rem_in d0 100 (by omega), rem_in d0 400 (by omega)]
 refine c_split (fun h => c_nsplit (fun h2 => ?_) fun h2 => ?_) fun h => ?_
 ·exact ret_bool (by symm; rw [decide_eq_true_eq]; exact ⟨h, .inl h2⟩)
 ·refine ret_bool (by rw [Bool.eq_iff_iff]; simp only [decide_eq_true_eq]; omega)
 ·exact ret_bool (by symm; rw [decide_eq_false_iff_not]; exact fun h' => h h'.1)
theorem nRLeap (y : Int) (hp : stOk y = true) : gRLeap y = some (.ret [.cl (.bool (stLeap y))] []) := by
 simp only [stOk, decide_eq_true_eq] at hp
 unfold gRLeap stLeap
 rw [rem_in y 4 (by omega), rem_in y 100 (by omega), rem_in y 400 (by omega)]
 refine c_split (fun h => c_nsplit (fun h2 => ?_) fun h2 => ?_) fun h => ?_
 ·exact ret_bool (by symm; rw [decide_eq_true_eq]; exact ⟨h, .inl h2⟩)
 ·refine ret_bool (by rw [Bool.eq_iff_iff]; simp only [decide_eq_true_eq]; omega)
 ·refine ret_bool (by rw [Bool.eq_iff_iff]; simp only [decide_eq_true_eq]; omega)
theorem nDDays (d0 d1 d2 d3 d4 d5 : Int) (hp : stOk d0 = true) : gDDays d0 d1 d2 d3 d4 d5 = some (.ret [.cl (.int .i64 (stDays d0 d1))] []) := by
 unfold gDDays stDays
 refine c_split (fun h => b_pos hp (b_split (fun h2 => ?_) fun h2 => ?_)) fun h => c_split (fun h2 => ?_) fun h2 => c_split (fun h3 => ?_) fun h3 => c_split (fun h4 => ?_) fun h4 => c_split (fun h5 => ?_) fun h5 => ?_
 ·rw [if_pos h, if_pos h2]
 ·rw [if_pos h, if_neg (by rw [h2]; simp)]
 all_goals first | rw [if_neg h, if_pos (by omega)] | rw [if_neg h, if_neg (by omega)]
theorem nDFit (d0 d1 d2 d3 d4 d5 : Int) (hp : true = true) : gDFit d0 d1 d2 d3 d4 d5 = some (.ret [.cl (.bool (stFit d0 d1 d2 d3 d4 d5))] []) := by
 unfold gDFit stFit
 have no : ∀ {p : Prop} [Decidable p], ¬ p -> some (Out.ret [.cl (.bool false)] []) = some (Out.ret [.cl (.bool (decide p))] []) := fun h => ret_bool (by symm; rw [decide_eq_false_iff_not]; exact h)
 refine c_split (fun h => no (by omega)) fun h1 => c_split (fun h => no (by omega)) fun h2 => c_split (fun h => no (by omega)) fun h3 => c_split (fun h => no (by omega)) fun h4 => c_split (fun h => no (by omega)) fun h5 => b_pos (by simp only [stOk, decide_eq_true_eq]; omega) (c_split (fun h => no (by omega)) fun h6 =>
  c_split (fun g1 => c_split (fun g2 => c_split (fun g3 => c_split (fun g4 => c_split (fun g5 => ?_) fun h => no (by omega)) fun h => no (by omega)) fun h => no (by omega)) fun h => no (by omega)) fun h => no (by omega))
 refine ret_bool ?_
 rw [Bool.eq_iff_iff]
 simp only [decide_eq_true_eq]
 omega
theorem stFit_spec {y m d h i s : Int} (hp : stFit y m d h i s = true) : (1 <= y /\ y <= 9999 /\ 1 <= m /\ m <= 12) /\ (1 <= d /\ d <= stDays y m) /\ 0 <= h /\ h < 24 /\ 0 <= i /\ i < 60 /\ 0 <= s /\ s < 60 := by
 unfold stFit at hp
 simpa only [decide_eq_true_eq] using hp
theorem nRDays (y m : Int) (hp : true = true) : gRDays y m = some (.ret [.cl (.int .i64 (stMonth y m))] []) := by
 unfold gRDays stMonth
 refine c_split (fun h => ?_) fun h1 => c_split (fun h => ?_) fun h2 => c_split (fun h => ?_) fun h3 => c_split (fun h => ?_) fun h4 => ?_
 ·rw [if_neg (by omega)]
 ·rw [if_neg (by omega)]
 ·rw [if_neg (by omega)]
 ·rw [if_neg (by omega)]
 rw [if_pos (by omega)]
 unfold stDays
 refine c_split (fun h => b_pos (by simp only [stOk, decide_eq_true_eq]; omega) (b_split (fun h2 => ?_) fun h2 => ?_)) fun h => c_split (fun h2 => ?_) fun h2 => c_split (fun h3 => ?_) fun h3 => c_split (fun h4 => ?_) fun h4 => c_split (fun h5 => ?_) fun h5 => ?_
 ·rw [if_pos h, if_pos h2]
 ·rw [if_pos h, if_neg (by rw [h2]; simp)]
 all_goals first | rw [if_neg h, if_pos (by omega)] | rw [if_neg h, if_neg (by omega)]
end Go.Proofs.YtfkpjbbkdkcdcaaDoorA

namespace Go.Proofs.YtfkpjbbkdkcdcaaDoorA
open IntWalk (i64_in u8_in u32_in u64_in i64_quo u8_quo rem_in)

theorem nRYears (y : Int) (hp : stOk y = true) : gRYears y = some (.ret [.cl (.int .i64 (stYears y))] []) := by
 simp only [stOk, decide_eq_true_eq] at hp
 unfold gRYears stYears
 extract_lets x1 x2 x3 x4 x5 x6 x7 x8
 have e1 : x1 = y - 1 := i64_in _ (by omega)
 have e2 : x2 = x1 * 365 := i64_in _ (by omega)
 have e3 : x3 = x1 / 4 := i64_quo _ _ (by omega)
 have e4 : x4 = x2 + x3 := i64_in _ (by omega)
 have e5 : x5 = x1 / 100 := i64_quo _ _ (by omega)
 have e6 : x6 = x4 - x5 := i64_in _ (by omega)
 have e7 : x7 = x1 / 400 := i64_quo _ _ (by omega)
 have e8 : x8 = x6 + x7 := i64_in _ (by omega)
 exact ret_int (by rw [e8, e6, e4, e2, e3, e5, e7, e1])
theorem nDSecs (d0 d1 d2 d3 d4 d5 : Int) (hp : stFit d0 d1 d2 d3 d4 d5 = true) : gDSecs d0 d1 d2 d3 d4 d5 = some (.ret [.cl (.int .i64 (stSecs d0 d1 d2 d3 d4 d5))] []) := by
 obtain ⟨⟨a1, a2, a3, a4⟩, ⟨a5, a6⟩, a7, a8, a9, a10, a11, a12⟩ := stFit_spec hp
 have a6' : d2 <= 31 := by have := stDays_rng d0 d1; omega
 clear a6 hp
 have hs := stYears_step d0
 unfold gDSecs
 have hy0 : stYears d0 = (d0 - 1) * 365 + (d0 - 1) / 4 - (d0 - 1) / 100 + (d0 - 1) / 400 := rfl
 have hy1 : stYears (d0 + 1) = d0 * 365 + d0 / 4 - d0 / 100 + d0 / 400 := by unfold stYears; rw [show d0 + 1 - 1 = d0 by omega]
 rw [hy1] at hs
 extract_lets x1 x2 x3 x4 x5 x6 x7 x8 x9 x10 x11 x12 x13 x14 x15 x16 x17 x18 x19 x20 x21 x22 x23 x24 x25 x26 x27 x28 x29 x30 x31 x32 x33 x34 x35 x36 x37 x38 x39 x40 x41 x42 x43
 have e1 : x1 = d1 - 3 := i64_in _ (by omega)
 refine c_split (fun h => ret_int ?_) fun h => ret_int ?_
 ·have e2 : x2 = d0 - 1 := i64_in _ (by omega)
  have e3 : x3 = d1 + 9 := (i64_in (x1 + 12) (by omega)).trans (by omega)
  have e4 : x4 = x2 / 400 := i64_quo _ _ (by omega)
  have e5 : x5 = x2 % 400 := rem_in _ _ (by omega)
  clear_value x1 x2 x3 x4 x5
  have r4 : 0 <= x4 /\ x4 <= 24 /\ x2 = 400 * x4 + x5 /\ 0 <= x5 /\ x5 <= 399 := by clear hs hy0 hy1; omega
  have c4 : (d0 - 1) / 4 = 100 * x4 + x5 / 4 /\ (d0 - 1) / 100 = 4 * x4 + x5 / 100 /\ (d0 - 1) / 400 = x4 := by clear hs hy0 hy1; omega
  have e6 : x6 = 153 * x3 := i64_in _ (by omega)
  have e7 : x7 = 153 * x3 + 2 := (i64_in (x6 + 2) (by omega)).trans (by omega)
  have e8 : x8 = (153 * x3 + 2) / 5 := (i64_quo x7 5 (by omega)).trans (by rw [e7])
  clear_value x6 x7 x8
  have r8 : 306 <= x8 /\ x8 <= 337 /\ x8 = 306 + 31 * (d1 - 1) := by clear hs hy0 hy1 r4 c4 e4 e5; omega
  clear e4 e5 e6 e7 e8 hs hy1
  have e9 : x9 = x8 + d2 := i64_in _ (by omega)
  have e10 : x10 = x8 + d2 - 1 := (i64_in (x9 - 1) (by omega)).trans (by omega)
  have e11 : x11 = x4 * 146097 := i64_in _ (by omega)
  have e12 : x12 = x5 * 365 := i64_in _ (by omega)
  have e13 : x13 = x11 + x12 := i64_in _ (by omega)
  have e14 : x14 = x5 / 4 := i64_quo _ _ (by omega)
  have e15 : x15 = x13 + x14 := i64_in _ (by omega)
  have e16 : x16 = x5 / 100 := i64_quo _ _ (by omega)
  have e17 : x17 = x15 - x16 := i64_in _ (by omega)
  have e18 : x18 = x17 + x10 := i64_in _ (by omega)
  have e19 : x19 = x18 - 719468 := i64_in _ (by omega)
  have e20 : x20 = x19 * 86400 := i64_in _ (by omega)
  have e21 : x21 = d3 * 3600 := i64_in _ (by omega)
  have e22 : x22 = d4 * 60 := i64_in _ (by omega)
  have e23 : x23 = x21 + x22 := i64_in _ (by omega)
  have e24 : x24 = x23 + d5 := i64_in _ (by omega)
  have e25 : x25 = x20 + x24 := i64_in _ (by omega)
  have hm : stAhead d0 d1 = 31 * (d1 - 1) := by unfold stAhead; rw [if_pos (by omega)]
  have hday : stYears d0 + stAhead d0 d1 + (d2 - 1) = x19 + 719162 := by
   rw [hy0, hm, c4.1, c4.2.1, c4.2.2, e19, e18, e17, e15, e13, e11, e12, e14, e16, e10]
   omega
  unfold stSecs
  rw [hday, e25, e20, e24, e23, e21, e22]
  omega
 ·have e26 : x26 = d0 / 400 := i64_quo _ _ (by omega)
  have e27 : x27 = d0 % 400 := rem_in _ _ (by omega)
  clear_value x1 x26 x27
  have r4 : 0 <= x26 /\ x26 <= 24 /\ d0 = 400 * x26 + x27 /\ 0 <= x27 /\ x27 <= 399 := by clear hs hy0 hy1; omega
  have c4 : d0 / 4 = 100 * x26 + x27 / 4 /\ d0 / 100 = 4 * x26 + x27 / 100 /\ d0 / 400 = x26 := by clear hs hy0 hy1; omega
  have e28 : x28 = 153 * x1 := i64_in _ (by omega)
  have e29 : x29 = 153 * x1 + 2 := (i64_in (x28 + 2) (by omega)).trans (by omega)
  have e30 : x30 = (153 * x1 + 2) / 5 := (i64_quo x29 5 (by omega)).trans (by rw [e29])
  clear_value x28 x29 x30
  have r8 : 0 <= x30 /\ x30 <= 337 := by clear hs hy0 hy1 r4 c4; omega
  have hm : stAhead d0 d1 = x30 + 59 + (if stLeap d0 = true then 1 else 0) := by unfold stAhead; rw [if_neg (by omega), <- e1, e30]
  clear e26 e27 e28 e29 e30 hy0 hy1
  have e31 : x31 = x30 + d2 := i64_in _ (by omega)
  have e32 : x32 = x30 + d2 - 1 := (i64_in (x31 - 1) (by omega)).trans (by omega)
  have e33 : x33 = x26 * 146097 := i64_in _ (by omega)
  have e34 : x34 = x27 * 365 := i64_in _ (by omega)
  have e35 : x35 = x33 + x34 := i64_in _ (by omega)
  have e36 : x36 = x27 / 4 := i64_quo _ _ (by omega)
  have e37 : x37 = x35 + x36 := i64_in _ (by omega)
  have e38 : x38 = x27 / 100 := i64_quo _ _ (by omega)
  have e39 : x39 = x37 - x38 := i64_in _ (by omega)
  have e40 : x40 = x39 + x32 := i64_in _ (by omega)
  have e41 : x41 = x40 - 719468 := i64_in _ (by omega)
  have e42 : x42 = x41 * 86400 := i64_in _ (by omega)
  have e21 : x21 = d3 * 3600 := i64_in _ (by omega)
  have e22 : x22 = d4 * 60 := i64_in _ (by omega)
  have e23 : x23 = x21 + x22 := i64_in _ (by omega)
  have e24 : x24 = x23 + d5 := i64_in _ (by omega)
  have e43 : x43 = x42 + x24 := i64_in _ (by omega)
  have hday : stYears d0 + stAhead d0 d1 + (d2 - 1) = x41 + 719162 := by
   rw [hm]
   generalize (if stLeap d0 = true then 1 else 0 : Int) = lp at *
   rw [c4.1, c4.2.1, c4.2.2] at hs
   rw [e41, e40, e39, e37, e35, e33, e34, e36, e38, e32]
   omega
  unfold stSecs
  rw [hday, e43, e42, e24, e23, e21, e22]
  omega
end Go.Proofs.YtfkpjbbkdkcdcaaDoorA

namespace Go.Proofs.YtfkpjbbkdkcdcaaDoorA
open IntWalk (i64_in u8_in u32_in u64_in i64_quo u8_quo rem_in)

theorem nSRead (s : ByteArray) (hp : true = true) : gSRead s = some (.ret [.cl (.int .i64 (stRead s).1), .cl (.int .i64 (stRead s).2)] []) := by
 unfold gSRead stRead
 have dig : ∀ k : Nat, (k : Int) + 2 <= s.size -> stDigits (s.extract k s.size) = stDig (bget s k) (bget s (k + 1)) := fun k hk => by
  unfold stDigits
  rw [bget_extract s (by omega) (by omega) (Nat.le_refl _), bget_extract s (by omega) (by omega) (Nat.le_refl _), Int.add_zero]
 have sz : ∀ k : Nat, (s.extract k s.size).size = s.size - k := fun k => by rw [ByteArray.size_extract, Nat.min_self]
 refine c_nsplit (fun h => ?_) fun h => c_pos (by omega) ?_
 ·rw [if_neg (by omega)]
 have hs : s.size = 15 := by omega
 have d2 := dig 2 (by omega)
 have d4 := dig 4 (by omega)
 have d6 := dig 6 (by omega)
 have d8 := dig 8 (by omega)
 have d10 := dig 10 (by omega)
 have d12 := dig 12 (by omega)
 extract_lets x1 s2 r3 s4 r5 s6 r7 s8 r9 s10 r11 s12 r13 r14 x15 x16 r17 r18 y m d hh i c
 refine c_nsplit (fun h => ?_) fun h1 => ?_
 ·rw [if_neg fun e => h e.2]
 rw [if_pos ⟨hs, h1⟩]
 have z2 := sz 2
 have z4 := sz 4
 have z6 := sz 6
 have z8 := sz 8
 have z10 := sz 10
 have z12 := sz 12
 have rng : ∀ a b, 0 <= a /\ a <= 255 -> 0 <= b /\ b <= 255 -> -100000 <= stDig a b /\ stDig a b <= 99 := fun a b h1 h2 => by
  unfold stDig
  split <;> omega
 have g2 := rng _ _ (bget_rng s 2) (bget_rng s 3)
 have g0 := rng _ _ (bget_rng s 0) (bget_rng s 1)
 have e14 : r14 = stDig (bget s 0) (bget s 1) := rfl
 have e3 : r3 = stDig (bget s 2) (bget s 3) := d2
 have e15 : x15 = 100 * stDig (bget s 0) (bget s 1) := i64_in _ (by rw [e14]; omega)
 have e16 : x16 = y := (i64_in (r3 + x15) (by omega)).trans (by rw [e3, e15])
 have e5 : r5 = m := d4
 have e7 : r7 = d := d6
 have e9 : r9 = hh := d8
 have e11 : r11 = i := d10
 have e13 : r13 = c := d12
 have hr : r17 = stFit y m d hh i c := by show stFit x16 r5 r7 r9 r11 r13 = _; rw [e16, e5, e7, e9, e11, e13]
 have h18 : r18 = stSecs y m d hh i c := by show stSecs x16 r5 r7 r9 r11 r13 = _; rw [e16, e5, e7, e9, e11, e13]
 refine c_pos (by omega) (c_pos (by show 2 <= (s.extract 2 s.size).size; omega) (c_pos (by omega) (c_pos (by show 2 <= (s.extract 4 s.size).size; omega) (c_pos (by omega) (c_pos (by show 2 <= (s.extract 6 s.size).size; omega) (c_pos (by omega) (c_pos (by show 2 <= (s.extract 8 s.size).size; omega) (c_pos (by omega) (c_pos (by show 2 <= (s.extract 10 s.size).size; omega)
  (c_pos (by omega) (c_pos (by show 2 <= (s.extract 12 s.size).size; omega) (c_pos (by omega) ?_))))))))))))
 rw [hr]
 cases hf : stFit y m d hh i c with
 | false => rfl
 | true =>
  rw [if_pos rfl]
  show cond (stFit x16 r5 r7 r9 r11 r13) (some (Out.ret [.cl (.int .i64 r18), .cl (.int .i64 0)] [])) none = _
  rw [show stFit x16 r5 r7 r9 r11 r13 = true from hr.trans hf, h18]
  rfl
end Go.Proofs.YtfkpjbbkdkcdcaaDoorA

namespace Go.Proofs.YtfkpjbbkdkcdcaaDoorA
open IntWalk (i64_in u8_in u32_in u64_in i64_quo u8_quo rem_in)

theorem lp_number (s : ByteArray) (hs : s.size <= 18) : ∀ (fuel i : Nat) (acc : Int), i <= s.size -> s.size < fuel + i -> 0 <= acc -> acc < ((10 ^ i : Nat) : Int) ->
  lpRNumber_3 (fun _ _ _ _ _ _ _ _ _ _ => some (.ret [.cl (.int .i64 (-1))] [])) (fun _ _ _ _ _ _ _ _ _ _ _ _ _ _ => some (.ret [.cl (.int .i64 (-1))] [])) (fun _ y2 _ _ _ _ => some (.ret [.cl (.int .i64 y2)] [])) fuel s acc i = some (.ret [.cl (.int .i64 (stNum ((bytesOf s).drop i) acc))] [])
 | 0, i, acc, hi, hf, h0, h1 => by omega
 | fuel + 1, i, acc, hi, hf, h0, h1 => by
  simp only [lpRNumber_3]
  unfold lpRNumber_3s
  have rb := bget_rng s i
  extract_lets x1 x3 x5 x6 x7 x8
  refine c_split (fun h => ?_) fun h => ?_
  ·have hlt : i < s.size := by omega
   rw [bytesOf_drop s hlt]
   refine c_pos (by omega) (c_pos h ?_)
   unfold stNum
   refine c_split (fun h2 => ?_) fun h2 => c_pos (by omega) (c_pos h (c_split (fun h3 => ?_) fun h3 => c_pos (by omega) (c_pos h ?_)))
   ·rw [if_pos (.inl h2)]
   ·rw [if_pos (.inr h3)]
   ·have h2 : ¬ bget s i < 48 := h2
    have h3 : ¬ 57 < bget s i := h3
    have e1 : x1 = bget s i := rfl
    clear_value x1
    rw [if_neg (by omega)]
    have hp : 10 ^ (i + 1) = 10 * 10 ^ i := by rw [Nat.pow_succ]; omega
    have hp2 : 10 ^ i <= 10 ^ 17 := Nat.pow_le_pow_right (by omega) (by omega)
    have e3 : x3 = acc * 10 := i64_in _ (by omega)
    have e5 : x5 = x1 - 48 := u8_in _ (by omega)
    have e6 : x6 = x1 - 48 := (i64_in x5 (by omega)).trans e5
    have e7 : x7 = acc * 10 + (x1 - 48) := (i64_in (x3 + x6) (by omega)).trans (by rw [e3, e6])
    have e8 : x8 = ((i + 1 : Nat) : Int) := (i64_in ((i : Int) + 1) (by omega)).trans (by omega)
    rw [e7, e8, e1]
    exact lp_number s hs fuel (i + 1) _ (by omega) (by omega) (by omega) (by omega)
  ·have : i = s.size := by omega
   subst this
   rw [List.drop_eq_nil_of_le (by rw [bytesOf_length]; exact Nat.le_refl _)]
   rfl
theorem nRNumber (s : ByteArray) (hp : decide (s.size <= 18) = true) : gRNumber s = some (.ret [.cl (.int .i64 (stNumber s))] []) := by
 simp only [decide_eq_true_eq] at hp
 unfold gRNumber stNumber
 rw [shut_eq]
 exact lp_number s hp FUEL 0 0 (by omega) (by unfold FUEL; omega) (by omega) (by omega)

theorem stMonth_eq {y m : Int} (h : 1 <= y /\ y <= 9999) (hm : 1 <= m /\ m <= 12) : stMonth y m = stAhead y (m + 1) - stAhead y m := by
 unfold stMonth
 rw [if_pos (by omega), stAhead_step hm.1 hm.2]
 omega

end Go.Proofs.YtfkpjbbkdkcdcaaDoorA

namespace Go.Proofs.YtfkpjbbkdkcdcaaDoorA
open IntWalk (i64_in u8_in u32_in u64_in i64_quo u8_quo rem_in)

theorem lp_sum {y m h i c : Int} (F : Int -> Int -> Int -> Int -> Int -> Int -> Option Out) (hy : 1 <= y /\ y <= 9999) (hm : 1 <= m /\ m <= 12) : ∀ (fuel : Nat) (n k : Int), 1 <= k -> k <= m -> m - k < fuel -> 0 <= n -> n <= 4000000 + 31 * k ->
  lpRRead_13 (fun y18 y19 y20 y21 y22 y23 _ _ _ => F y18 y19 y20 y21 y22 y23) fuel y m h i c n k = F y m h i c (n + stAhead y m - stAhead y k)
 | 0, n, k, h1, h2, h3, h4, h5 => by omega
 | fuel + 1, n, k, h1, h2, h3, h4, h5 => by
  rw [show lpRRead_13 (fun y18 y19 y20 y21 y22 y23 _ _ _ => F y18 y19 y20 y21 y22 y23) (fuel + 1) = lpRRead_13s (lpRRead_13 (fun y18 y19 y20 y21 y22 y23 _ _ _ => F y18 y19 y20 y21 y22 y23) fuel) (fun y18 y19 y20 y21 y22 y23 _ _ _ => F y18 y19 y20 y21 y22 y23) from rfl]
  unfold lpRRead_13s
  have hmo := stMonth_eq hy (m := k) (by omega)
  have hst := stAhead_step (y := y) (m := k) (by omega) (by omega)
  have hr := stDays_rng y k
  extract_lets r18 x19 x20
  have e18 : r18 = stDays y k := by show stMonth y k = _; rw [hmo]; omega
  refine c_split (fun hlt => ?_) fun hlt => ?_
  ·have e19 : x19 = n + stDays y k := (i64_in (n + r18) (by omega)).trans (by rw [e18])
   have e20 : x20 = k + 1 := i64_in _ (by omega)
   rw [e19, e20]
   rw [lp_sum F hy hm fuel (n + stDays y k) (k + 1) (by omega) (by omega) (by omega) (by omega) (by omega), hst]
   congr 1
   omega
  ·have : k = m := by omega
   subst this
   show F y k h i c n = _
   congr 1
   omega

theorem num2 {a b : Int} (ha : 0 <= a /\ a <= 255) (hb : 0 <= b /\ b <= 255) : stNum [a, b] 0 = (if stDig a b < 0 then -1 else stDig a b) /\ (stDig a b = -100000 \/ 0 <= stDig a b /\ stDig a b <= 99) := by
 unfold stDig stNum stNum stNum
 by_cases h1 : a < 48 \/ 57 < a
 ·rw [if_pos h1, if_pos (show (if a < 48 \/ 57 < a \/ b < 48 \/ 57 < b then (-100000 : Int) else _) < 0 by rw [if_pos (by omega)]; omega), if_pos (by omega)]; exact ⟨rfl, .inl rfl⟩
 ·by_cases h2 : b < 48 \/ 57 < b
  ·rw [if_neg h1, if_pos h2, if_pos (show (if a < 48 \/ 57 < a \/ b < 48 \/ 57 < b then (-100000 : Int) else _) < 0 by rw [if_pos (by omega)]; omega), if_pos (by omega)]; exact ⟨rfl, .inl rfl⟩
  ·rw [if_neg h1, if_neg h2, if_neg (by omega), if_neg (by omega)]
   exact ⟨by omega, by omega⟩
theorem num4 {a b c d : Int} (ha : 0 <= a /\ a <= 255) (hb : 0 <= b /\ b <= 255) (hc : 0 <= c /\ c <= 255) (hd : 0 <= d /\ d <= 255) : stNum [a, b, c, d] 0 = (if stDig a b < 0 \/ stDig c d < 0 then -1 else 100 * stDig a b + stDig c d) := by
 unfold stDig stNum stNum stNum stNum stNum
 by_cases h1 : a < 48 \/ 57 < a
 ·rw [if_pos h1, if_pos (.inl (by rw [if_pos (by omega)]; omega))]
 ·by_cases h2 : b < 48 \/ 57 < b
  ·rw [if_neg h1, if_pos h2, if_pos (.inl (by rw [if_pos (by omega)]; omega))]
  ·by_cases h3 : c < 48 \/ 57 < c
   ·rw [if_neg h1, if_neg h2, if_pos h3, if_pos (show c < 48 \/ 57 < c \/ d < 48 \/ 57 < d by omega), if_pos (by omega)]
   ·by_cases h4 : d < 48 \/ 57 < d
    ·rw [if_neg h1, if_neg h2, if_neg h3, if_pos h4, if_pos (show c < 48 \/ 57 < c \/ d < 48 \/ 57 < d by omega), if_pos (by omega)]
    ·rw [if_neg h1, if_neg h2, if_neg h3, if_neg h4, if_neg (show ¬ (a < 48 \/ 57 < a \/ b < 48 \/ 57 < b) by omega), if_neg (show ¬ (c < 48 \/ 57 < c \/ d < 48 \/ 57 < d) by omega), if_neg (by omega)]
     omega
theorem bytes_ext2 (s : ByteArray) {k : Nat} (h : k + 2 <= s.size) : bytesOf (s.extract k (k + 2)) = [bget s k, bget s (k + 1)] := by
 have hz : (s.extract k (k + 2)).size = 2 := by rw [ByteArray.size_extract]; omega
 have h0 := bytesOf_drop (s.extract k (k + 2)) (i := 0) (by omega)
 have h1 := bytesOf_drop (s.extract k (k + 2)) (i := 1) (by omega)
 rw [List.drop_zero] at h0
 rw [h0, h1, List.drop_eq_nil_of_le (by rw [bytesOf_length]; omega), bget_extract s (by omega) (by omega) h, bget_extract s (by omega) (by omega) h]
 simp
theorem bytes_ext4 (s : ByteArray) (h : 4 <= s.size) : bytesOf (s.extract 0 4) = [bget s 0, bget s 1, bget s 2, bget s 3] := by
 have hz : (s.extract 0 4).size = 4 := by rw [ByteArray.size_extract]; omega
 have h0 := bytesOf_drop (s.extract 0 4) (i := 0) (by omega)
 have h1 := bytesOf_drop (s.extract 0 4) (i := 1) (by omega)
 have h2 := bytesOf_drop (s.extract 0 4) (i := 2) (by omega)
 have h3 := bytesOf_drop (s.extract 0 4) (i := 3) (by omega)
 rw [List.drop_zero] at h0
 rw [h0, h1, h2, h3, List.drop_eq_nil_of_le (by rw [bytesOf_length]; omega), bget_extract s (by omega) (by omega) h, bget_extract s (by omega) (by omega) h, bget_extract s (by omega) (by omega) h, bget_extract s (by omega) (by omega) h]
 simp

/-- both ways to read numbers find the same dates fit -/
theorem fit_same {D01 D23 D4 D6 D8 D10 D12 : Int} (v01 : D01 = -100000 \/ 0 <= D01 /\ D01 <= 99) (v23 : D23 = -100000 \/ 0 <= D23 /\ D23 <= 99) (v4 : D4 = -100000 \/ 0 <= D4 /\ D4 <= 99) (v6 : D6 = -100000 \/ 0 <= D6 /\ D6 <= 99) (v8 : D8 = -100000 \/ 0 <= D8 /\ D8 <= 99) (v10 : D10 = -100000 \/ 0 <= D10 /\ D10 <= 99) (v12 : D12 = -100000 \/ 0 <= D12 /\ D12 <= 99)
  {y m d h i c : Int} (ey : y = if D01 < 0 \/ D23 < 0 then -1 else 100 * D01 + D23) (em : m = if D4 < 0 then -1 else D4) (ed : d = if D6 < 0 then -1 else D6) (eh : h = if D8 < 0 then -1 else D8) (ei : i = if D10 < 0 then -1 else D10) (ec : c = if D12 < 0 then -1 else D12) :
  (stFit (D23 + 100 * D01) D4 D6 D8 D10 D12 = true /\ stFit y m d h i c = true /\ y = D23 + 100 * D01 /\ m = D4 /\ d = D6 /\ h = D8 /\ i = D10 /\ c = D12) \/ (stFit (D23 + 100 * D01) D4 D6 D8 D10 D12 = false /\ stFit y m d h i c = false) := by
 cases hf : stFit (D23 + 100 * D01) D4 D6 D8 D10 D12 with
 | true =>
  left
  obtain ⟨⟨a1, a2, a3, a4⟩, ⟨a5, a6⟩, a7, a8, a9, a10, a11, a12⟩ := stFit_spec hf
  have e1 : y = D23 + 100 * D01 := by rw [ey, if_neg (by omega)]; omega
  have e2 : m = D4 := by rw [em, if_neg (by omega)]
  have e3 : d = D6 := by rw [ed, if_neg (by omega)]
  have e4 : h = D8 := by rw [eh, if_neg (by omega)]
  have e5 : i = D10 := by rw [ei, if_neg (by omega)]
  have e6 : c = D12 := by rw [ec, if_neg (by omega)]
  exact ⟨rfl, by rw [e1, e2, e3, e4, e5, e6, hf], e1, e2, e3, e4, e5, e6⟩
 | false =>
  right
  refine ⟨rfl, ?_⟩
  cases hg : stFit y m d h i c with
  | false => rfl
  | true =>
   exfalso
   obtain ⟨⟨a1, a2, a3, a4⟩, ⟨a5, a6⟩, a7, a8, a9, a10, a11, a12⟩ := stFit_spec hg
   have e1 : y = D23 + 100 * D01 := by split at ey <;> omega
   have e2 : m = D4 := by split at em <;> omega
   have e3 : d = D6 := by split at ed <;> omega
   have e4 : h = D8 := by split at eh <;> omega
   have e5 : i = D10 := by split at ei <;> omega
   have e6 : c = D12 := by split at ec <;> omega
   rw [<- e1, <- e2, <- e3, <- e4, <- e5, <- e6, hg] at hf
   cases hf

theorem nRRead (s : ByteArray) (hp : true = true) : gRRead s = some (.ret [.cl (.int .i64 (stRead s).1), .cl (.int .i64 (stRead s).2)] []) := by
 unfold gRRead stRead
 refine c_nsplit (fun h => ?_) fun h => c_pos (by omega) ?_
 ·rw [if_neg (by omega)]
 have hs : s.size = 15 := by omega
 have sz : ∀ k n : Nat, k + n <= 15 -> (s.extract k (k + n)).size = n := fun k n hk => by rw [ByteArray.size_extract]; omega
 have z0 := sz 0 4 (by omega)
 have z4 := sz 4 2 (by omega)
 have z6 := sz 6 2 (by omega)
 have z8 := sz 8 2 (by omega)
 have z10 := sz 10 2 (by omega)
 have z12 := sz 12 2 (by omega)
 have b := bget_rng s
 have n0 : stNumber (s.extract 0 4) = _ := (congrArg (stNum · 0) (bytes_ext4 s (by omega))).trans (num4 (b 0) (b 1) (b 2) (b 3))
 have n4 : stNumber (s.extract 4 6) = _ := (congrArg (stNum · 0) (bytes_ext2 s (k := 4) (by omega))).trans (num2 (b 4) (b 5)).1
 have n6 : stNumber (s.extract 6 8) = _ := (congrArg (stNum · 0) (bytes_ext2 s (k := 6) (by omega))).trans (num2 (b 6) (b 7)).1
 have n8 : stNumber (s.extract 8 10) = _ := (congrArg (stNum · 0) (bytes_ext2 s (k := 8) (by omega))).trans (num2 (b 8) (b 9)).1
 have n10 : stNumber (s.extract 10 12) = _ := (congrArg (stNum · 0) (bytes_ext2 s (k := 10) (by omega))).trans (num2 (b 10) (b 11)).1
 have n12 : stNumber (s.extract 12 14) = _ := (congrArg (stNum · 0) (bytes_ext2 s (k := 12) (by omega))).trans (num2 (b 12) (b 13)).1
 have same := fit_same (num2 (b 0) (b 1)).2 (num2 (b 2) (b 3)).2 (num2 (b 4) (b 5)).2 (num2 (b 6) (b 7)).2 (num2 (b 8) (b 9)).2 (num2 (b 10) (b 11)).2 (num2 (b 12) (b 13)).2 n0 n4 n6 n8 n10 n12
 extract_lets x1 s2 r3 s4 r5 s6 r7 s8 r9 s10 r11 s12 r13 r14 r15 x16 x17 y m d hh i c
 refine c_nsplit (fun h => ?_) fun h1 => ?_
 ·rw [if_neg fun e => h e.2]
 rw [if_pos ⟨hs, h1⟩]
 have z0 : s2.size = 4 := z0
 have z4 : s4.size = 2 := z4
 have z6 : s6.size = 2 := z6
 have z8 : s8.size = 2 := z8
 have z10 : s10.size = 2 := z10
 have z12 : s12.size = 2 := z12
 refine c_pos (by omega) (c_pos (by omega) (c_pos (by omega) (c_pos (by omega) (c_pos (by omega) (c_pos (by omega) (c_pos (by omega) (c_pos (by omega) (c_pos (by omega) (c_pos (by omega) (c_pos (by omega) (c_pos (by omega) ?_)))))))))))
 have same : (stFit y m d hh i c = true /\ stFit r3 r5 r7 r9 r11 r13 = true /\ r3 = y /\ r5 = m /\ r7 = d /\ r9 = hh /\ r11 = i /\ r13 = c) \/ (stFit y m d hh i c = false /\ stFit r3 r5 r7 r9 r11 r13 = false) := same
 have e14 : r14 = stMonth r3 r5 := rfl
 have e15 : r15 = stYears r3 := rfl
 have e16 : x16 = IntKind.i64.wrap (r7 - 1) := rfl
 have e17 : x17 = IntKind.i64.wrap (r15 + x16) := rfl
 clear_value r14 r15 x16 x17 r3 r5 r7 r9 r11 r13 y m d hh i c s2 s4 s6 s8 s10 s12 x1
 clear n0 n4 n6 n8 n10 n12 z0 z4 z6 z8 z10 z12 b sz h1 hs h
 rcases same with ⟨hf, hg, rfl, rfl, rfl, rfl, rfl, rfl⟩ | ⟨hf, hg⟩
 ·rw [if_pos hf]
  obtain ⟨⟨a1, a2, a3, a4⟩, ⟨a5, a6⟩, a7, a8, a9, a10, a11, a12⟩ := stFit_spec hf
  have hmo : stMonth r3 r5 = stDays r3 r5 := by unfold stMonth; rw [if_pos (by omega)]
  have hr := stDays_rng r3 r5
  have hy : 0 <= stYears r3 /\ stYears r3 <= 3652059 := by unfold stYears; omega
  have e16 : x16 = r7 - 1 := e16.trans (i64_in _ (by omega))
  have e17 : x17 = stYears r3 + (r7 - 1) := e17.trans ((i64_in _ (by omega)).trans (by rw [e15, e16]))
  refine c_neg (by omega) (c_neg (by omega) (c_neg (by omega) (c_neg (by omega) (c_neg (by omega) (c_neg (by omega) (c_neg (by omega) (c_neg (by omega) (b_pos (by simp only [stOk, decide_eq_true_eq]; omega) ?_))))))))
  rw [shut_eq, e17]
  refine (lp_sum (fun _ _ y20 y21 y22 y23 =>
            let x27 : Int := IntKind.i64.wrap (y23 * 86400)
            let x28 : Int := IntKind.i64.wrap (((-62135596800) : Int) + x27)
            let x29 : Int := IntKind.i64.wrap (y20 * 3600)
            let x30 : Int := IntKind.i64.wrap (y21 * 60)
            let x31 : Int := IntKind.i64.wrap (x29 + x30)
            let x32 : Int := IntKind.i64.wrap (x31 + y22)
            let x33 : Int := IntKind.i64.wrap (x28 + x32)
            some (.ret [.cl (.int .i64 x33), .cl (.int .i64 0)] [])) ⟨a1, a2⟩ ⟨a3, a4⟩ FUEL _ 1 (by omega) (by omega) (by unfold FUEL; omega) (by omega) (by omega)).trans ?_
  rw [stAhead_one]
  have hA : 0 <= stAhead r3 r5 /\ stAhead r3 r5 <= 335 := by refine ⟨?_, ?_⟩ <;> (unfold stAhead; split <;> (try split) <;> omega)
  extract_lets x27 x28 x29 x30 x31 x32 x33
  have e27 : x27 = (stYears r3 + (r7 - 1) + stAhead r3 r5 - 0) * 86400 := i64_in _ (by omega)
  have e28 : x28 = -62135596800 + x27 := i64_in _ (by omega)
  have e29 : x29 = r9 * 3600 := i64_in _ (by omega)
  have e30 : x30 = r11 * 60 := i64_in _ (by omega)
  have e31 : x31 = x29 + x30 := i64_in _ (by omega)
  have e32 : x32 = x31 + r13 := i64_in _ (by omega)
  have e33 : x33 = x28 + x32 := i64_in _ (by omega)
  have e : x33 = stSecs r3 r5 r7 r9 r11 r13 := by
   unfold stSecs
   rw [e33, e28, e27, e32, e31, e29, e30]
   omega
  rw [e]
 ·rw [if_neg (by rw [hf]; simp)]
  have hg' : ¬ ((1 <= r3 /\ r3 <= 9999 /\ 1 <= r5 /\ r5 <= 12) /\ (1 <= r7 /\ r7 <= stDays r3 r5) /\ 0 <= r9 /\ r9 < 24 /\ 0 <= r11 /\ r11 < 60 /\ 0 <= r13 /\ r13 < 60) := by
   unfold stFit at hg
   simpa only [decide_eq_false_iff_not] using hg
  have hmo : stMonth r3 r5 = if 1 <= r3 /\ r3 <= 9999 /\ 1 <= r5 /\ r5 <= 12 then stDays r3 r5 else 0 := rfl
  refine c_split (fun h => rfl) fun g1 => c_split (fun h => rfl) fun g2 => c_split (fun h => rfl) fun g3 => c_split (fun h => rfl) fun g4 => c_split (fun h => rfl) fun g5 => c_split (fun h => rfl) fun g6 => c_split (fun h => rfl) fun g7 => c_split (fun h => rfl) fun g8 => ?_
  exfalso
  apply hg'
  rw [e14] at g2
  split at hmo <;> omega
end Go.Proofs.YtfkpjbbkdkcdcaaDoorA

namespace Go.Proofs.YtfkpjbbkdkcdcaaDoorA
open IntWalk (i64_in u8_in u32_in u64_in i64_quo u8_quo rem_in)

/-! ### bytes that are so -/
theorem byteB_spec {x : Int} (h : byteB x = true) : 0 <= x /\ x <= 255 := of_decide_eq_true h
theorem bytesOk_spec {b : List Int} (h : bytesOk b = true) : b.length <= 1000000 /\ ∀ x ∈ b, 0 <= x /\ x <= 255 := by
 unfold bytesOk at h
 rw [shut_eq] at h
 simp only [Bool.and_eq_true, decide_eq_true_eq, List.all_eq_true] at h
 exact ⟨h.1, fun x hx => byteB_spec (h.2 x hx)⟩
theorem bytesOk_of {b : List Int} (h : b.length <= 1000000) (h' : ∀ x ∈ b, 0 <= x /\ x <= 255) : bytesOk b = true := by
 unfold bytesOk
 rw [shut_eq]
 simp only [Bool.and_eq_true, decide_eq_true_eq, List.all_eq_true]
 exact ⟨h, fun x hx => decide_eq_true (h' x hx)⟩
theorem bytesOk_sub {a b : List Int} (h : bytesOk b = true) (hl : a.length <= b.length) (hs : ∀ x ∈ a, x ∈ b) : bytesOk a = true :=
 let ⟨h1, h2⟩ := bytesOk_spec h; bytesOk_of (by omega) fun x hx => h2 x (hs x hx)
theorem bytesOk_drop {b : List Int} (h : bytesOk b = true) (n : Nat) : bytesOk (b.drop n) = true := bytesOk_sub h (by simp) fun x hx => List.mem_of_mem_drop hx
theorem bytesOk_tail {b : List Int} (h : bytesOk b = true) : bytesOk b.tail = true := bytesOk_sub h (by simp) fun x hx => List.mem_of_mem_tail hx
theorem bytesOk_at {b : List Int} (h : bytesOk b = true) {i : Nat} {x : Int} (hx : b[i]? = some x) : 0 <= x /\ x <= 255 := (bytesOk_spec h).2 x (List.mem_of_getElem? hx)
theorem lenOk_spec {b : List Int} (h : lenOk b = true) : b.length <= 100000000 := by
 unfold lenOk at h; rw [shut_eq] at h; exact of_decide_eq_true h
theorem lenOk_of {b : List Int} (h : b.length <= 100000000) : lenOk b = true := by
 unfold lenOk; rw [shut_eq]; exact decide_eq_true h
theorem get_some {α : Type} {b : List α} {i : Nat} (h : i < b.length) : ∃ x, b[i]? = some x := ⟨_, List.getElem?_eq_getElem h⟩

theorem nDBoxed (tag : Int) (hp : true = true) : gDBoxed tag = some (.ret [.cl (.bool (derBoxed tag))] []) := by
 unfold gDBoxed derBoxed derBoxedC
 rw [shut_eq]
 simp only [Bool.cond_decide]
 repeat' split
 all_goals (refine ret_bool ?_; rw [Bool.eq_iff_iff]; simp only [decide_eq_true_eq, true_iff, Bool.false_eq_true, false_iff]; omega)
theorem nRBoxed (tag : Int) (hp : true = true) : gRBoxed tag = some (.ret [.cl (.bool (derBoxed tag))] []) := by
 unfold gRBoxed derBoxed derBoxedC
 rw [shut_eq]
 simp only [Bool.cond_decide]
 repeat' split
 all_goals (refine ret_bool ?_; rw [Bool.eq_iff_iff]; simp only [decide_eq_true_eq, true_iff, Bool.false_eq_true, false_iff]; omega)
theorem nDKnown (tag : Int) (hp : true = true) : gDKnown tag = some (.ret [.cl (.bool (derKnown tag))] []) := by
 unfold gDKnown derKnown derKnownC derBoxed
 simp only [shut_eq, Bool.cond_decide]
 cases derBoxedC tag
 all_goals simp only [cond_true, cond_false]
 all_goals repeat' split
 all_goals (refine ret_bool ?_; rw [Bool.eq_iff_iff]; (try simp only [Bool.or_eq_true, decide_eq_true_eq, or_true, true_or, Bool.false_eq_true, false_or, Bool.true_eq, true_iff, false_iff]); (try omega))
theorem nRTagged (tag : Int) (hp : true = true) : gRTagged tag = some (.ret [.cl (.bool (derKnown tag))] []) := by
 unfold gRTagged derKnown derKnownC derBoxed
 simp only [shut_eq, Bool.cond_decide]
 cases derBoxedC tag
 all_goals simp only [cond_true, cond_false]
 all_goals repeat' split
 all_goals (refine ret_bool ?_; rw [Bool.eq_iff_iff]; (try simp only [Bool.or_eq_true, decide_eq_true_eq, or_true, true_or, Bool.false_eq_true, false_or, Bool.true_eq, true_iff, false_iff]); (try omega))
theorem nDLenSize (n : Int) (hp : true = true) : gDLenSize n = some (.ret [.cl (.int .i64 (derLenSize n))] []) := by
 unfold gDLenSize derLenSize derLenSizeC
 simp only [shut_eq, Bool.cond_decide]
 repeat' split
 all_goals rfl
theorem nRCont (b : List Int) (i : Int) (hp : decide (0 <= i) = true) : gRCont b i = some (.ret [.cl (.bool (u8Cont b i))] []) := by
 have hp := of_decide_eq_true hp
 unfold gRCont u8Cont u8At
 simp only [shut_eq]
 refine c_split (fun h => c_pos hp (c_pos h ?_)) fun h => ret_bool ?_
 ·obtain ⟨x, hx⟩ := get_some (b := b) (i := i.toNat) (by omega)
  rw [hx, Option.bind_some]
  refine ret_bool ?_
  rw [Bool.eq_iff_iff]
  simp only [decide_eq_true_eq]
  rw [Int.fdiv_eq_ediv_of_nonneg _ (by omega)]
  omega
 ·rw [List.getElem?_eq_none (by omega)]
theorem two_cases (o : List Int) : o.length < 2 /\ oidFitC o = false \/ ∃ x y r, o = x :: y :: r := by
 match o with
 | [] => exact .inl ⟨by simp, rfl⟩
 | [x] => exact .inl ⟨by simp, rfl⟩
 | x :: y :: r => exact .inr ⟨x, y, r, rfl⟩
theorem nOFit (o : List Int) (hp : true = true) : gOFit o = some (.ret [.cl (.bool (oidFit o))] []) := by
 unfold gOFit oidFit
 simp only [shut_eq, Bool.cond_decide]
 rcases two_cases o with ⟨h, e⟩ | ⟨x, y, r, rfl⟩
 ·rw [if_pos (by omega), e]
 ·simp only [List.getElem?_cons_zero, List.getElem?_cons_succ, Option.bind_some, List.length_cons, oidFitC]
  repeat' split
  all_goals first
   | (refine ret_bool ?_; rw [Bool.eq_iff_iff]; simp only [Bool.and_eq_true, Bool.or_eq_true, decide_eq_true_eq, Bool.false_eq_true, false_iff, true_iff]; omega)
   | omega
theorem nR2Fit (o : List Int) (hp : true = true) : gR2Fit o = some (.ret [.cl (.bool (oidFit o))] []) := by
 unfold gR2Fit oidFit
 simp only [shut_eq]
 rcases two_cases o with ⟨h, e⟩ | ⟨x, y, r, rfl⟩
 ·exact c_pos (by omega) (ret_bool e.symm)
 ·simp only [List.getElem?_cons_zero, List.getElem?_cons_succ, Option.bind_some, List.length_cons, oidFitC]
  repeat' (refine c_split (fun _ => ?_) fun _ => ?_)
  all_goals first
   | (refine ret_bool ?_; rw [Bool.eq_iff_iff]; simp only [Bool.and_eq_true, Bool.or_eq_true, decide_eq_true_eq, Bool.false_eq_true, false_iff, true_iff]; omega)
   | omega
theorem nDNumber (b : List Int) (hp : bytesOk b = true) : gDNumber b = some (.ret [.cl (.bool (derNumber b))] []) := by
 unfold gDNumber derNumber
 rw [shut_eq]
 match b, hp with
 | [], _ => rfl
 | [x], _ => rfl
 | x :: y :: r, hp =>
  have hx := bytesOk_at hp (i := 0) (x := x) rfl
  have hy := bytesOk_at hp (i := 1) (x := y) rfl
  simp only [List.getElem?_cons_zero, List.getElem?_cons_succ, Option.bind_some, List.length_cons, derNumberC]
  rw [show IntKind.u64.wrap x = x from u64_in _ (by omega), show IntKind.u64.wrap y = y from u64_in _ (by omega), show IntKind.u64.wrap (x * 2 ^ 1) = x * 2 from (u64_in _ (by omega)).trans (by omega),
   show Int.fdiv y (2 ^ 7) = y / 128 from Int.fdiv_eq_ediv_of_nonneg _ (by omega)]
  have hor : ((BitVec.ofInt 64 (x * 2) ||| BitVec.ofInt 64 (y / 128)).toNat : Int) = x * 2 + y / 128 := by
   have h2 : y / 128 = 0 \/ y / 128 = 1 := by omega
   obtain ⟨n, rfl⟩ : ∃ n : Nat, x = n := ⟨x.toNat, by omega⟩
   have hn : n < 256 := by omega
   rcases h2 with h2 | h2
   ·rw [h2]
    simp [BitVec.toNat_ofInt]
    omega
   ·rw [h2, BitVec.toNat_or]
    simp only [BitVec.toNat_ofInt]
    have : ∀ n : Fin 256, ((((n.val : Int) * 2 % (2 ^ 64 : Nat)).toNat ||| ((1 : Int) % (2 ^ 64 : Nat)).toNat : Nat) : Int) = (n.val : Int) * 2 + 1 := by decide +kernel
    exact this ⟨n, hn⟩
  rw [hor, show IntKind.u64.wrap (x * 2 + y / 128) = x * 2 + y / 128 from u64_in _ (by omega)]
  simp only [Bool.cond_decide]
  rw [if_neg (by omega), if_pos (by omega), if_pos (by omega)]
  refine c_nsplit (fun h => ret_bool ?_) fun h => ret_bool ?_
  ·rw [Bool.eq_iff_iff]
   simp only [Bool.and_eq_true, Bool.not_eq_true', decide_eq_false_iff_not]
   omega
  ·rw [Bool.eq_iff_iff]
   simp only [Bool.and_eq_true, Bool.not_eq_true', decide_eq_false_iff_not, Bool.false_eq_true, false_iff]
   omega
theorem nRFitInt (b : List Int) (hp : bytesOk b = true) : gRFitInt b = some (.ret [.cl (.bool (derNumber b))] []) := by
 unfold gRFitInt derNumber
 rw [shut_eq]
 match b, hp with
 | [], _ => rfl
 | [x], _ => rfl
 | x :: y :: r, hp =>
  have hx := bytesOk_at hp (i := 0) (x := x) rfl
  have hy := bytesOk_at hp (i := 1) (x := y) rfl
  simp only [List.getElem?_cons_zero, List.getElem?_cons_succ, Option.bind_some, List.length_cons, derNumberC, Bool.cond_decide, Bool.cond_not]
  repeat' split
  all_goals first
   | omega
   | (refine ret_bool ?_; rw [Bool.eq_iff_iff]; simp only [Bool.and_eq_true, Bool.not_eq_true', decide_eq_false_iff_not, Bool.false_eq_true, false_iff, true_iff]; omega)
theorem nR2First (n : Int) (hp : u32Ok n = true) : gR2First n = some (.ret [.cl (.sli .u32 (oidFirst n))] []) := by
 unfold u32Ok at hp
 rw [shut_eq] at hp
 have hp := of_decide_eq_true hp
 unfold gR2First oidFirst oidFirstC
 simp only [shut_eq]
 refine c_split (fun h => ?_) fun h => ?_
 ·rw [if_pos h, show IntKind.u64.wrap (Int.tdiv n 40) = n / 40 by rw [Int.tdiv_eq_ediv_of_nonneg (by omega)]; exact u64_in _ (by omega), Int.tmod_eq_emod_of_nonneg (by omega),
   show IntKind.u32.wrap (n / 40) = n / 40 from u32_in _ (by omega), show IntKind.u32.wrap (n % 40) = n % 40 from u32_in _ (by omega)]
 ·rw [if_neg h, show IntKind.u64.wrap (n - 80) = n - 80 from u64_in _ (by omega), show IntKind.u32.wrap (n - 80) = n - 80 from u32_in _ (by omega)]
theorem nSClone (b : List Int) (hp : lenOk b = true) : gSClone b = some (.ret [.cl (.sli .u8 b)] []) := by
 have hp := lenOk_spec hp
 unfold gSClone
 simp only [List.nil_append]
 refine b_split (fun h => ?_) fun h => ?_
 ·have h := List.eq_nil_of_length_eq_zero (beq_iff.1 h)
  subst h
  unfold bothK
  rw [if_pos (Eq.symm (lim_in (by simp) (lim_in (by simp) rfl)))]
 ·exact lim_in (by omega) (lim_in (by omega) rfl)
end Go.Proofs.YtfkpjbbkdkcdcaaDoorA

namespace Go.Proofs.YtfkpjbbkdkcdcaaDoorA
open IntWalk (i64_in u8_in u32_in u64_in i64_quo u8_quo rem_in)

theorem drop_cons {b : List Int} {i : Nat} {x : Int} (h : b[i]? = some x) : b.drop i = x :: b.drop (i + 1) := by
 obtain ⟨hlt, e⟩ := List.getElem?_eq_some_iff.1 h
 rw [List.drop_eq_getElem_cons hlt, e]
theorem drop_nil {α : Type} {b : List α} {i : Nat} (h : b.length <= i) : b.drop i = [] := List.drop_eq_nil_of_le h

theorem same_lp (a b : List Int) (hl : a.length = b.length) (hb : a.length <= 100000000) : ∀ (f i : Nat), i <= a.length -> a.length < f + i -> 
  lpR1Same_4 (fun _ _ _ _ _ _ _ _ _ _ _ _ _ _ _ _ => some (.ret [.cl (.bool false)] [])) (fun _ _ _ _ _ _ => some (.ret [.cl (.bool true)] [])) f a b i = some (.ret [.cl (.bool (decide (a.drop i = b.drop i)))] [])
 | 0, i, hi, hf => by omega
 | f + 1, i, hi, hf => by
  show lpR1Same_4s (lpR1Same_4 (fun _ _ _ _ _ _ _ _ _ _ _ _ _ _ _ _ => some (.ret [.cl (.bool false)] [])) (fun _ _ _ _ _ _ => some (.ret [.cl (.bool true)] [])) f) (fun _ _ _ _ _ _ _ _ _ _ _ _ _ _ _ _ => some (.ret [.cl (.bool false)] [])) (fun _ _ _ _ _ _ => some (.ret [.cl (.bool true)] [])) a b i = _
  unfold lpR1Same_4s
  refine c_split (fun h => ?_) fun h => ?_
  ·obtain ⟨x, hx⟩ := get_some (b := a) (i := i) (by omega)
   obtain ⟨y, hy⟩ := get_some (b := b) (i := i) (by omega)
   refine c_pos (by omega) (c_pos h ?_)
   rw [show (i : Int).toNat = i from rfl, hx, Option.bind_some]
   refine c_pos (by omega) (c_pos (by omega) ?_)
   rw [hy, Option.bind_some]
   rw [drop_cons hx, drop_cons hy]
   refine c_nsplit (fun hne => ret_bool ?_) fun he => ?_
   ·simp [hne]
   ·subst he
    rw [show IntKind.i64.wrap ((i : Int) + 1) = ((i + 1 : Nat) : Int) from (i64_in _ (by omega)).trans (by omega)]
    refine (same_lp a b hl hb f (i + 1) (by omega) (by omega)).trans (ret_bool ?_)
    simp
  ·refine ret_bool ?_
   rw [drop_nil (by omega), drop_nil (by omega)]
   simp
theorem nR1Same (a b : List Int) (hp : lenOk a = true) : gR1Same a b = some (.ret [.cl (.bool (listSame a b))] []) := by
 have hp := lenOk_spec hp
 unfold gR1Same listSame listSameC
 simp only [shut_eq]
 refine c_nsplit (fun h => ret_bool ?_) fun h => ?_
 ·rw [eq_comm, decide_eq_false_iff_not]
  intro e
  subst e
  exact h rfl
 ·exact same_lp a b (by omega) hp FUEL 0 (by omega) (by unfold FUEL; omega)

theorem foldl_rng (b : List Int) (hb : ∀ x ∈ b, 0 <= x /\ x <= 255) : ∀ (n : Int) (k : Nat), 0 <= n -> n < 256 ^ k -> 0 <= b.foldl (fun n x => n * 256 + x) n /\ b.foldl (fun n x => n * 256 + x) n < 256 ^ (k + b.length) := by
 induction b with
 | nil => intro n k h0 h1; exact ⟨h0, h1⟩
 | cons x r ih =>
  intro n k h0 h1
  have hx := hb x (by simp)
  have := ih (fun y hy => hb y (by simp [hy])) (n * 256 + x) (k + 1) (by omega) (by rw [Int.pow_succ]; omega)
  simp only [List.foldl_cons, List.length_cons]
  rw [show k + (r.length + 1) = k + 1 + r.length by omega]
  exact this
theorem bytesNum_rng {b : List Int} (hb : ∀ x ∈ b, 0 <= x /\ x <= 255) : 0 <= bytesNumC b /\ bytesNumC b < 256 ^ b.length := by
 have := foldl_rng b hb 0 0 (by omega) (by decide)
 rwa [Nat.zero_add] at this
end Go.Proofs.YtfkpjbbkdkcdcaaDoorA

namespace Go.Proofs.YtfkpjbbkdkcdcaaDoorA
open IntWalk (i64_in u8_in u32_in u64_in i64_quo u8_quo rem_in)

theorem or_add {n x : Int} (h0 : 0 <= n) (h1 : n < 72057594037927936) (h2 : 0 <= x) (h3 : x <= 255) : ((BitVec.ofInt 64 (n * 256) ||| BitVec.ofInt 64 x).toNat : Int) = n * 256 + x := by
 obtain ⟨a, rfl⟩ : ∃ a : Nat, n = a := ⟨n.toNat, by omega⟩
 obtain ⟨b, rfl⟩ : ∃ b : Nat, x = b := ⟨x.toNat, by omega⟩
 rw [BitVec.toNat_or]
 have e1 : (BitVec.ofInt 64 ((a : Int) * 256)).toNat = 2 ^ 8 * a := by rw [BitVec.toNat_ofInt]; omega
 have e2 : (BitVec.ofInt 64 (b : Int)).toNat = b := by rw [BitVec.toNat_ofInt]; omega
 rw [e1, e2, <- Nat.two_pow_add_eq_or_of_lt (by omega : b < 2 ^ 8)]
 omega
end Go.Proofs.YtfkpjbbkdkcdcaaDoorA

namespace Go.Proofs.YtfkpjbbkdkcdcaaDoorA
open IntWalk (i64_in u8_in u32_in u64_in i64_quo u8_quo rem_in)

theorem cmp_nil (b : List Int) : decide (listCmpC [] b < 0) = decide (0 < b.length) := by
 cases b with
 | nil => rfl
 | cons x r => simp [listCmpC]
theorem cmp_nil' (a : List Int) : decide (listCmpC a [] < 0) = false := by
 cases a with
 | nil => rfl
 | cons x r => simp [listCmpC]
theorem less_lp (a b : List Int) (hb : a.length <= 100000000) : ∀ (f i : Nat), i <= a.length -> i <= b.length -> a.length < f + i ->
  lpR4Less_2 (fun _ _ y3 _ _ _ _ _ _ _ _ _ _ _ _ _ _ _ _ _ _ _ _ _ _ _ _ _ _ _ _ _ _ => some (.ret [.cl (.bool y3)] [])) (fun y34 y35 _ _ _ _ _ _ _ _ _ => some (.ret [.cl (.bool (decide (((y34.length : Nat) : Int) < ((y35.length : Nat) : Int))))] [])) (fun y45 y46 _ _ _ _ _ => some (.ret [.cl (.bool (decide (((y45.length : Nat) : Int) < ((y46.length : Nat) : Int))))] [])) f a b i =
   some (.ret [.cl (.bool (decide (listCmpC (a.drop i) (b.drop i) < 0)))] [])
 | 0, i, hi, hi', hf => by omega
 | f + 1, i, hi, hi', hf => by
  show lpR4Less_2s (lpR4Less_2 (fun _ _ y3 _ _ _ _ _ _ _ _ _ _ _ _ _ _ _ _ _ _ _ _ _ _ _ _ _ _ _ _ _ _ => some (.ret [.cl (.bool y3)] [])) (fun y34 y35 _ _ _ _ _ _ _ _ _ => some (.ret [.cl (.bool (decide (((y34.length : Nat) : Int) < ((y35.length : Nat) : Int))))] [])) (fun y45 y46 _ _ _ _ _ => some (.ret [.cl (.bool (decide (((y45.length : Nat) : Int) < ((y46.length : Nat) : Int))))] [])) f) _ _ _ a b i = _
  unfold lpR4Less_2s
  refine c_split (fun h => c_split (fun h' => ?_) fun h' => ret_bool ?_) fun h => ret_bool ?_
  ·obtain ⟨x, hx⟩ := get_some (b := a) (i := i) (by omega)
   obtain ⟨y, hy⟩ := get_some (b := b) (i := i) (by omega)
   refine c_pos (by omega) (c_pos h ?_)
   rw [show (i : Int).toNat = i from rfl, hx, Option.bind_some]
   refine c_pos (by omega) (c_pos h' ?_)
   rw [hy, Option.bind_some, drop_cons hx, drop_cons hy]
   refine c_nsplit (fun hne => c_pos (by omega) (c_pos h ?_)) fun he => ?_
   ·rw [Option.bind_some]
    refine c_pos (by omega) (c_pos h' ?_)
    rw [Option.bind_some]
    refine ret_bool ?_
    unfold listCmpC
    by_cases hlt : x < y
    ·rw [if_pos hlt]; simp [hlt]
    ·rw [if_neg hlt, if_pos (by omega)]; simp [hlt]
   ·subst he
    rw [show IntKind.i64.wrap ((i : Int) + 1) = ((i + 1 : Nat) : Int) from (i64_in _ (by omega)).trans (by omega)]
    refine (less_lp a b hb f (i + 1) (by omega) (by omega) (by omega)).trans (ret_bool ?_)
    conv => rhs; unfold listCmpC
    rw [if_neg (by omega), if_neg (by omega)]
  ·rw [drop_nil (b := b) (by omega), cmp_nil']
   exact decide_eq_false (by omega)
  ·rw [drop_nil (b := a) (by omega), cmp_nil, List.length_drop, Bool.eq_iff_iff]
   simp only [decide_eq_true_eq]
   omega
theorem nR4Less (a b : List Int) (hp : lenOk a = true) : gR4Less a b = some (.ret [.cl (.bool (listLess a b))] []) := by
 unfold gR4Less listLess
 simp only [shut_eq]
 exact less_lp a b (lenOk_spec hp) FUEL 0 (by omega) (by omega) (by have := lenOk_spec hp; unfold FUEL; omega)

theorem rowsOk_spec {l : List CV} (h : rowsOk l = true) : l.length <= 1000000 /\ ∀ (i : Nat) (e : CV), l[i]? = some e -> ∃ x, e = .sli .u8 x /\ bytesOk x = true := by
 unfold rowsOk at h
 rw [shut_eq] at h
 simp only [Bool.and_eq_true, decide_eq_true_eq, List.all_eq_true] at h
 refine ⟨h.1, fun i e he => ?_⟩
 have := h.2 e (List.mem_of_getElem? he)
 unfold rowCV at this
 split at this
 ·rename_i l'
  refine ⟨l', rfl, ?_⟩
  unfold rowB at this
  simp only [Bool.and_eq_true, decide_eq_true_eq, List.all_eq_true] at this
  exact bytesOk_of this.1 fun x hx => byteB_spec (this.2 x hx)
 ·cases this
theorem sorted_two {l : List CV} {i : Nat} {a b : List Int} (h1 : l[i]? = some (.sli .u8 a)) (h2 : l[i + 1]? = some (.sli .u8 b)) : rowsSortedC ((l.map cvSli).drop i) = (decide (listCmpC a b <= 0) && rowsSortedC ((l.map cvSli).drop (i + 1))) := by
 have e1 : (l.map cvSli)[i]? = some a := by rw [List.getElem?_map, h1]; rfl
 have e2 : (l.map cvSli)[i + 1]? = some b := by rw [List.getElem?_map, h2]; rfl
 have d : ∀ {l : List (List Int)} {i : Nat} {x : List Int}, l[i]? = some x -> l.drop i = x :: l.drop (i + 1) := fun {l i x} h => by
  obtain ⟨hlt, e⟩ := List.getElem?_eq_some_iff.1 h
  rw [List.drop_eq_getElem_cons hlt, e]
 rw [d e1, d e2]
 rfl
theorem sorted_one {l : List CV} {i : Nat} (h : l.length <= i + 1) : rowsSortedC ((l.map cvSli).drop i) = true := by
 have : ((l.map cvSli).drop i).length <= 1 := by simp; omega
 match (l.map cvSli).drop i, this with
 | [], _ => rfl
 | [_], _ => rfl
 | _ :: _ :: _, h => simp at h
theorem cmp_swap : ∀ (a b : List Int), decide (listCmpC b a < 0) = !(decide (listCmpC a b <= 0))
 | [], [] => rfl
 | [], _ :: _ => by simp [listCmpC]
 | _ :: _, [] => by simp [listCmpC]
 | x :: a, y :: b => by
  unfold listCmpC
  by_cases h1 : x < y
  ·rw [if_pos h1, if_neg (by omega), if_pos h1]; simp
  ·by_cases h2 : y < x
   ·rw [if_pos h2, if_neg h1, if_pos h2]; simp
   ·rw [if_neg h1, if_neg h2, if_neg h2, if_neg h1]; exact cmp_swap a b

theorem r4_lp (l : List CV) (hok : rowsOk l = true) : ∀ (f i : Nat), l.length < f + i -> lpR4Sorted_2 (fun _ _ _ _ _ _ _ _ _ _ _ _ _ _ _ _ => some (.ret [.cl (.bool false)] [])) (fun _ _ _ _ _ => some (.ret [.cl (.bool true)] [])) f l ((i + 1 : Nat) : Int) = some (.ret [.cl (.bool (rowsSortedC ((l.map cvSli).drop i)))] []) \/ f = 0
 | 0, i, hf => .inr rfl
 | f + 1, i, hf => by
  left
  obtain ⟨hl, hr⟩ := rowsOk_spec hok
  show lpR4Sorted_2s (lpR4Sorted_2 (fun _ _ _ _ _ _ _ _ _ _ _ _ _ _ _ _ => some (.ret [.cl (.bool false)] [])) (fun _ _ _ _ _ => some (.ret [.cl (.bool true)] [])) f) _ _ l ((i + 1 : Nat) : Int) = _
  unfold lpR4Sorted_2s
  refine c_split (fun h => c_pos (by omega) (c_pos h ?_)) fun h => ret_bool ?_
  ·obtain ⟨e1, he1⟩ := get_some (b := l) (i := i) (by omega)
   obtain ⟨e2, he2⟩ := get_some (b := l) (i := i + 1) (by omega)
   obtain ⟨x, rfl, hx⟩ := hr _ _ he1
   obtain ⟨y, rfl, hy⟩ := hr _ _ he2
   rw [show ((i + 1 : Nat) : Int).toNat = i + 1 from rfl, he2, Option.bind_some]
   refine b_pos rfl ?_
   rw [show IntKind.i64.wrap (((i + 1 : Nat) : Int) - 1) = (i : Int) from (i64_in _ (by omega)).trans (by omega)]
   refine c_pos (by omega) (c_pos (by omega) ?_)
   rw [show (i : Int).toNat = i from rfl, he1, Option.bind_some]
   refine b_pos rfl (b_pos (lenOk_of (by have := (bytesOk_spec hy).1; show y.length <= _; omega)) ?_)
   show cond (listLess y x) _ _ = _
   rw [sorted_two he1 he2]
   unfold listLess
   rw [shut_eq, cmp_swap x y]
   cases decide (listCmpC x y <= 0) with
   | true =>
    simp only [Bool.not_true, cond_false, Bool.true_and]
    rw [show IntKind.i64.wrap (((i + 1 : Nat) : Int) + 1) = ((i + 1 + 1 : Nat) : Int) from (i64_in _ (by omega)).trans (by omega)]
    exact (r4_lp l hok f (i + 1) (by omega)).resolve_right (by omega)
   | false => rfl
  ·rw [sorted_one (by omega)]
theorem nR4Sorted (l : List CV) (hp : rowsOk l = true) : gR4Sorted l = some (.ret [.cl (.bool (rowsSorted l))] []) := by
 unfold gR4Sorted rowsSorted
 simp only [shut_eq]
 exact (r4_lp l hp FUEL 0 (by have := (rowsOk_spec hp).1; unfold FUEL; omega)).resolve_right (by unfold FUEL; omega)

theorem nBCompare (a b : List Int) (hp : (bytesOk a && bytesOk b) = true) : gBCompare a b = some (.ret [.cl (.int .i64 (listCmp a b))] []) := by
 unfold gBCompare
 exact b_pos hp rfl
theorem nOLess (a b : List Int) (hp : (bytesOk a && bytesOk b) = true) : gOLess a b = some (.ret [.cl (.bool (decide (listCmp a b <= 0)))] []) := by
 unfold gOLess
 exact b_pos hp rfl
theorem os_lp (l : List CV) (hok : rowsOk l = true) : ∀ (f i : Nat), l.length < f + i -> lpOSteps_2 (fun _ _ _ _ _ _ _ _ _ _ _ _ _ _ _ _ _ => some (.ret [.cl (.bool false)] [])) (fun _ _ _ _ _ => some (.ret [.cl (.bool true)] [])) f l ((i + 1 : Nat) : Int) = some (.ret [.cl (.bool (rowsSortedC ((l.map cvSli).drop i)))] []) \/ f = 0
 | 0, i, hf => .inr rfl
 | f + 1, i, hf => by
  left
  obtain ⟨hl, hr⟩ := rowsOk_spec hok
  show lpOSteps_2s (lpOSteps_2 (fun _ _ _ _ _ _ _ _ _ _ _ _ _ _ _ _ _ => some (.ret [.cl (.bool false)] [])) (fun _ _ _ _ _ => some (.ret [.cl (.bool true)] [])) f) _ _ l ((i + 1 : Nat) : Int) = _
  unfold lpOSteps_2s
  refine c_split (fun h => ?_) fun h => ret_bool ?_
  ·obtain ⟨e1, he1⟩ := get_some (b := l) (i := i) (by omega)
   obtain ⟨e2, he2⟩ := get_some (b := l) (i := i + 1) (by omega)
   obtain ⟨x, rfl, hx⟩ := hr _ _ he1
   obtain ⟨y, rfl, hy⟩ := hr _ _ he2
   rw [show IntKind.i64.wrap (((i + 1 : Nat) : Int) - 1) = (i : Int) from (i64_in _ (by omega)).trans (by omega)]
   refine c_pos (by omega) (c_pos (by omega) ?_)
   rw [show (i : Int).toNat = i from rfl, he1, Option.bind_some]
   refine b_pos rfl (c_pos (by omega) (c_pos h ?_))
   rw [show ((i + 1 : Nat) : Int).toNat = i + 1 from rfl, he2, Option.bind_some]
   refine b_pos rfl (b_pos (by show (bytesOk x && bytesOk y) = true; rw [hx, hy]; rfl) ?_)
   show cond (!(decide (listCmp x y <= 0))) _ _ = _
   rw [sorted_two he1 he2]
   unfold listCmp
   rw [shut_eq]
   cases decide (listCmpC x y <= 0) with
   | true =>
    simp only [Bool.not_true, cond_false, Bool.true_and]
    rw [show IntKind.i64.wrap (((i + 1 : Nat) : Int) + 1) = ((i + 1 + 1 : Nat) : Int) from (i64_in _ (by omega)).trans (by omega)]
    exact (os_lp l hok f (i + 1) (by omega)).resolve_right (by omega)
   | false => rfl
  ·rw [sorted_one (by omega)]
theorem nOSteps (l : List CV) (hp : rowsOk l = true) : gOSteps l = some (.ret [.cl (.bool (rowsSorted l))] []) := by
 unfold gOSteps rowsSorted
 simp only [shut_eq]
 exact (os_lp l hp FUEL 0 (by have := (rowsOk_spec hp).1; unfold FUEL; omega)).resolve_right (by unfold FUEL; omega)
theorem nOSorted (l : List CV) (hp : rowsOk l = true) : gOSorted l = some (.ret [.cl (.bool (rowsSorted l))] []) := by
 unfold gOSorted
 exact b_pos hp rfl
end Go.Proofs.YtfkpjbbkdkcdcaaDoorA

namespace Go.Proofs.YtfkpjbbkdkcdcaaDoorA
open IntWalk (i64_in u8_in u32_in u64_in i64_quo u8_quo rem_in)

theorem rune_cons (c : Int) (r : List Int) : u8RuneC (c :: r) = if c < 128 then 1
  else if 194 <= c /\ c <= 223 /\ u8At r 0 = true then 2
  else if 224 <= c /\ c <= 239 /\ u8At r 0 = true /\ u8At r 1 = true /\ (c = 224 -> 160 <= r.headD 0) /\ (c = 237 -> r.headD 0 < 160) then 3
  else if 240 <= c /\ c <= 244 /\ u8At r 0 = true /\ u8At r 1 = true /\ u8At r 2 = true /\ (c = 240 -> 144 <= r.headD 0) /\ (c = 244 -> r.headD 0 < 144) then 4
  else 0 := rfl
set_option maxHeartbeats 4000000 in
theorem nRRune (b : List Int) (i : Int) (hp : (bytesOk b && decide (0 <= i /\ i < b.length)) = true) : gRRune b i = some (.ret [.cl (.int .i64 (u8Rune b i))] []) := by
 simp only [Bool.and_eq_true, decide_eq_true_eq] at hp
 obtain ⟨hb, hi0, hi1⟩ := hp
 have hl := (bytesOk_spec hb).1
 obtain ⟨c, hc⟩ := get_some (b := b) (i := i.toNat) (by omega)
 have hcr := bytesOk_at hb hc
 have hdrop := drop_cons hc
 have hat : ∀ k : Nat, b[i.toNat + 1 + k]? = (b.drop (i.toNat + 1))[k]? := fun k => by rw [List.getElem?_drop]
 generalize ht : b.drop (i.toNat + 1) = t at *
 have huc : ∀ k : Nat, u8Cont b (i + ((k + 1 : Nat) : Int)) = u8At t k := fun k => by
  unfold u8Cont u8At
  rw [shut_eq, show (i + ((k + 1 : Nat) : Int)).toNat = i.toNat + 1 + k by omega, hat]
 have w1 : IntKind.i64.wrap (i + 1) = i + 1 := i64_in _ (by omega)
 have w2 : IntKind.i64.wrap (i + 2) = i + 2 := i64_in _ (by omega)
 have w3 : IntKind.i64.wrap (i + 3) = i + 3 := i64_in _ (by omega)
 have u1 : u8Cont b (i + 1) = u8At t 0 := huc 0
 have u2 : u8Cont b (i + 2) = u8At t 1 := huc 1
 have u3 : u8Cont b (i + 3) = u8At t 2 := huc 2
 unfold u8Rune
 rw [shut_eq, hdrop, rune_cons]
 unfold gRRune jnRRune_8 jnRRune_10
 simp only [getK, idxK, shut_eq, hc, Option.bind_some, w1, w2, w3, u1, u2, u3]
 refine c_pos hi0 (c_pos hi1 (c_pos (by omega) ?_))
 cases ha0 : u8At t 0 with
 | false =>
  simp only [cond_false, Bool.false_eq_true, and_false, false_and, if_false]
  repeat' (refine c_split (fun _ => ?_) fun _ => ?_)
  all_goals first
   | (refine ret_int ?_; (repeat' split) <;> omega)
   | omega
 | true =>
  obtain ⟨y, t', rfl⟩ : ∃ y t', t = y :: t' := by
   cases t with
   | nil => simp [u8At] at ha0
   | cons y t' => exact ⟨y, t', rfl⟩
  have hy : b[(i + 1).toNat]? = some y := by
   have := hat 0
   rw [show (i + 1).toNat = i.toNat + 1 + 0 by omega, this]; rfl
  have hy1 : i + 1 < b.length := by
   have := (List.getElem?_eq_some_iff.1 hy).1
   omega
  simp only [cond_true, hy, Option.bind_some, List.headD_cons, true_and, and_true]
  refine c_pos (by omega) ?_
  cases ha1 : u8At (y :: t') 1 with
  | false =>
   simp only [cond_false, Bool.false_eq_true, and_false, false_and, if_false]
   repeat' (refine c_split (fun _ => ?_) fun _ => ?_)
   all_goals first
    | (refine ret_int ?_; (repeat' split) <;> omega)
    | omega
  | true =>
   simp only [cond_true, true_and]
   cases ha2 : u8At (y :: t') 2 with
   | false =>
    simp only [cond_false, Bool.false_eq_true, and_false, false_and, if_false]
    repeat' (first | refine c_split (fun _ => ?_) fun _ => ?_ | refine c_nsplit (fun _ => ?_) fun _ => ?_)
    all_goals first
     | (refine ret_int ?_; (repeat' split) <;> omega)
     | omega
   | true =>
    simp only [cond_true, true_and]
    repeat' (first | refine c_split (fun _ => ?_) fun _ => ?_ | refine c_nsplit (fun _ => ?_) fun _ => ?_)
    all_goals first
     | (refine ret_int ?_; (repeat' split) <;> omega)
     | omega

theorem rune_rng (l : List Int) : 0 <= u8RuneC l /\ u8RuneC l <= l.length /\ (u8RuneC l = 0 -> ∀ c r, l = c :: r -> ¬ c < 128) := by
 have hlt : ∀ (l : List Int) (k : Nat), u8At l k = true -> k < l.length := fun l k h => by
  unfold u8At at h
  split at h
  ·rename_i x hx; exact (List.getElem?_eq_some_iff.1 hx).1
  ·cases h
 cases l with
 | nil => exact ⟨by simp [u8RuneC], by simp [u8RuneC], fun _ c r h => by cases h⟩
 | cons c r =>
  rw [rune_cons]
  by_cases h1 : c < 128
  ·rw [if_pos h1]; exact ⟨by omega, by simp; omega, fun h => by omega⟩
  ·rw [if_neg h1]
   split
   ·rename_i h; have := hlt _ _ h.2.2; exact ⟨by omega, by simp only [List.length_cons]; omega, fun h => by omega⟩
   ·split
    ·rename_i h; have := hlt _ _ h.2.2.2.1; exact ⟨by omega, by simp only [List.length_cons]; omega, fun h => by omega⟩
    ·split
     ·rename_i h; have := hlt _ _ h.2.2.2.2.1; exact ⟨by omega, by simp only [List.length_cons]; omega, fun h => by omega⟩
     ·exact ⟨by omega, by simp only [List.length_cons]; omega, fun _ c' r' e => by cases e; exact h1⟩
theorem valid_more : ∀ (n m : Nat) (l : List Int), l.length <= n -> l.length <= m -> u8ValidF n l = u8ValidF m l
 | 0, 0, l, _, _ => rfl
 | 0, m + 1, l, h, _ => by
  have : l = [] := List.eq_nil_of_length_eq_zero (by omega)
  subst this
  simp [u8ValidF]
 | n + 1, 0, l, _, h => by
  have : l = [] := List.eq_nil_of_length_eq_zero (by omega)
  subst this
  simp [u8ValidF]
 | n + 1, m + 1, l, h1, h2 => by
  unfold u8ValidF
  by_cases h : l = []
  ·rw [if_pos h, if_pos h]
  ·rw [if_neg h, if_neg h]
   by_cases h0 : u8RuneC l = 0
   ·rw [if_pos h0, if_pos h0]
   ·rw [if_neg h0, if_neg h0]
    have := rune_rng l
    exact valid_more n m _ (by simp only [List.length_drop]; omega) (by simp only [List.length_drop]; omega)
theorem valid_step (l : List Int) : u8ValidC l = if l = [] then true else if u8RuneC l = 0 then false else u8ValidC (l.drop (u8RuneC l).toNat) := by
 unfold u8ValidC
 cases l with
 | nil => simp [u8ValidF]
 | cons c r =>
  rw [if_neg (by simp)]
  conv => lhs; rw [List.length_cons]; unfold u8ValidF
  rw [if_neg (by simp)]
  by_cases h0 : u8RuneC (c :: r) = 0
  ·rw [if_pos h0, if_pos h0]
  ·rw [if_neg h0, if_neg h0]
   have := rune_rng (c :: r)
   exact valid_more _ _ _ (by simp only [List.length_drop, List.length_cons]; omega) (Nat.le_refl _)
theorem utf_lp (b : List Int) (hb : bytesOk b = true) : ∀ (f i : Nat), i <= b.length -> b.length < f + i ->
  lpRUtf8_2 (fun _ _ _ _ _ _ _ _ _ _ => some (.ret [.cl (.bool false)] [])) (fun _ _ _ _ _ => some (.ret [.cl (.bool true)] [])) f b i = some (.ret [.cl (.bool (u8ValidC (b.drop i)))] [])
 | 0, i, hi, hf => by omega
 | f + 1, i, hi, hf => by
  show lpRUtf8_2s (lpRUtf8_2 (fun _ _ _ _ _ _ _ _ _ _ => some (.ret [.cl (.bool false)] [])) (fun _ _ _ _ _ => some (.ret [.cl (.bool true)] [])) f) _ _ b i = _
  unfold lpRUtf8_2s
  have hl := (bytesOk_spec hb).1
  refine c_split (fun h => b_pos ?_ ?_) fun h => ret_bool ?_
  ·simp only [Bool.and_eq_true, decide_eq_true_eq]; exact ⟨hb, by omega, by omega⟩
  ·extract_lets r1 x2
   have hr := rune_rng (b.drop i)
   have e1 : r1 = u8RuneC (b.drop i) := by show u8Rune b i = _; unfold u8Rune; rw [shut_eq]; rfl
   rw [List.length_drop] at hr
   rw [valid_step, if_neg (by intro e; have := congrArg List.length e; simp at this; omega)]
   refine c_split (fun h0 => ret_bool ?_) fun h0 => ?_
   ·rw [if_pos (by omega)]
   ·rw [if_neg (by omega)]
    have e2 : x2 = ((i + (u8RuneC (b.drop i)).toNat : Nat) : Int) := (i64_in ((i : Int) + r1) (by omega)).trans (by omega)
    rw [e2]
    refine (utf_lp b hb f _ (by omega) (by omega)).trans ?_
    rw [List.drop_drop]
  ·rw [drop_nil (by omega)]; rfl
theorem nRUtf8 (b : List Int) (hp : bytesOk b = true) : gRUtf8 b = some (.ret [.cl (.bool (u8Valid b))] []) := by
 unfold gRUtf8 u8Valid
 simp only [shut_eq]
 exact utf_lp b hp FUEL 0 (by omega) (by have := (bytesOk_spec hp).1; unfold FUEL; omega)
end Go.Proofs.YtfkpjbbkdkcdcaaDoorA

namespace Go.Proofs.YtfkpjbbkdkcdcaaDoorA
open IntWalk (i64_in u8_in u32_in u64_in i64_quo u8_quo rem_in)

/-! ### words -/
theorem ofNat64 {n : Nat} (h : n < 2 ^ 64) : (BitVec.ofInt 64 (n : Int)).toNat = n := by
 rw [BitVec.toNat_ofInt]; omega
theorem orN {a b : Nat} (ha : a < 2 ^ 64) (hb : b < 2 ^ 64) : IntKind.u64.wrap ((BitVec.ofInt 64 (a : Int) ||| BitVec.ofInt 64 (b : Int)).toNat) = ((a ||| b : Nat) : Int) := by
 rw [BitVec.toNat_or, ofNat64 ha, ofNat64 hb]
 have := Nat.or_lt_two_pow ha hb
 exact u64_in _ (by omega)
theorem andN {a b : Nat} (ha : a < 2 ^ 64) (hb : b < 2 ^ 64) : IntKind.u64.wrap ((BitVec.ofInt 64 (a : Int) &&& BitVec.ofInt 64 (b : Int)).toNat) = ((a &&& b : Nat) : Int) := by
 rw [BitVec.toNat_and, ofNat64 ha, ofNat64 hb]
 have : a &&& b <= a := Nat.and_le_left
 exact u64_in _ (by omega)
theorem nUWord (b : List Int) (hp : (bytesOk b && decide (8 <= b.length)) = true) : gUWord b = some (.ret [.cl (.int .u64 (u8Word b))] []) := by
 simp only [Bool.and_eq_true, decide_eq_true_eq] at hp
 obtain ⟨hb, hl⟩ := hp
 match b, hl, hb with
 | x0 :: x1 :: x2 :: x3 :: x4 :: x5 :: x6 :: x7 :: r, _, hb =>
  have r0 := bytesOk_at hb (i := 0) (x := x0) rfl
  have r1 := bytesOk_at hb (i := 1) (x := x1) rfl
  have r2 := bytesOk_at hb (i := 2) (x := x2) rfl
  have r3 := bytesOk_at hb (i := 3) (x := x3) rfl
  have r4 := bytesOk_at hb (i := 4) (x := x4) rfl
  have r5 := bytesOk_at hb (i := 5) (x := x5) rfl
  have r6 := bytesOk_at hb (i := 6) (x := x6) rfl
  have r7 := bytesOk_at hb (i := 7) (x := x7) rfl
  obtain ⟨n0, rfl⟩ : ∃ n : Nat, x0 = n := ⟨x0.toNat, by omega⟩
  obtain ⟨n1, rfl⟩ : ∃ n : Nat, x1 = n := ⟨x1.toNat, by omega⟩
  obtain ⟨n2, rfl⟩ : ∃ n : Nat, x2 = n := ⟨x2.toNat, by omega⟩
  obtain ⟨n3, rfl⟩ : ∃ n : Nat, x3 = n := ⟨x3.toNat, by omega⟩
  obtain ⟨n4, rfl⟩ : ∃ n : Nat, x4 = n := ⟨x4.toNat, by omega⟩
  obtain ⟨n5, rfl⟩ : ∃ n : Nat, x5 = n := ⟨x5.toNat, by omega⟩
  obtain ⟨n6, rfl⟩ : ∃ n : Nat, x6 = n := ⟨x6.toNat, by omega⟩
  obtain ⟨n7, rfl⟩ : ∃ n : Nat, x7 = n := ⟨x7.toNat, by omega⟩
  unfold gUWord u8Word u8WordC
  simp only [shut_eq, List.getElem?_cons_zero, List.getElem?_cons_succ, Option.bind_some, List.length_cons, List.getD_cons_zero, List.getD_cons_succ, Int.toNat_natCast]
  have w : ∀ n : Nat, n <= 255 -> IntKind.u64.wrap (n : Int) = (n : Int) := fun n h => u64_in _ (by omega)
  have sh : ∀ (n k : Nat), n <= 255 -> k <= 56 -> IntKind.u64.wrap ((n : Int) * 2 ^ k) = ((n * 2 ^ k : Nat) : Int) := fun n k h hk => by
   have h2 : 2 ^ k <= 2 ^ 56 := Nat.pow_le_pow_right (by omega) hk
   have h3 : n * 2 ^ k <= 255 * 2 ^ 56 := Nat.mul_le_mul h h2
   have e : ((n : Int) * 2 ^ k) = ((n * 2 ^ k : Nat) : Int) := by rw [Int.natCast_mul, Int.natCast_pow]; rfl
   rw [e]
   exact u64_in _ (by omega)
  have lt : ∀ (n k : Nat), n <= 255 -> k <= 56 -> n * 2 ^ k < 2 ^ 64 := fun n k h hk => by
   have h2 : 2 ^ k <= 2 ^ 56 := Nat.pow_le_pow_right (by omega) hk
   have h3 : n * 2 ^ k <= 255 * 2 ^ 56 := Nat.mul_le_mul h h2
   omega
  have p0 : n0 < 2 ^ 64 := by omega
  have p1 := Nat.or_lt_two_pow p0 (lt n1 8 (by omega) (by omega))
  have p2 := Nat.or_lt_two_pow p1 (lt n2 16 (by omega) (by omega))
  have p3 := Nat.or_lt_two_pow p2 (lt n3 24 (by omega) (by omega))
  have p4 := Nat.or_lt_two_pow p3 (lt n4 32 (by omega) (by omega))
  have p5 := Nat.or_lt_two_pow p4 (lt n5 40 (by omega) (by omega))
  have p6 := Nat.or_lt_two_pow p5 (lt n6 48 (by omega) (by omega))
  rw [w n0 (by omega), w n1 (by omega), w n2 (by omega), w n3 (by omega), w n4 (by omega), w n5 (by omega), w n6 (by omega), w n7 (by omega)]
  rw [sh n1 8 (by omega) (by omega), sh n2 16 (by omega) (by omega), sh n3 24 (by omega) (by omega), sh n4 32 (by omega) (by omega), sh n5 40 (by omega) (by omega), sh n6 48 (by omega) (by omega), sh n7 56 (by omega) (by omega)]
  rw [orN p0 (lt n1 8 (by omega) (by omega)), orN p1 (lt n2 16 (by omega) (by omega)), orN p2 (lt n3 24 (by omega) (by omega)), orN p3 (lt n4 32 (by omega) (by omega)), orN p4 (lt n5 40 (by omega) (by omega)), orN p5 (lt n6 48 (by omega) (by omega)), orN p6 (lt n7 56 (by omega) (by omega))]
  exact c_pos (by omega) (c_pos (by omega) (c_pos (by omega) (c_pos (by omega) (c_pos (by omega) (c_pos (by omega) (c_pos (by omega) (c_pos (by omega) rfl)))))))

def MASK : Nat := 9259542123273814144
theorem or_zero {a b : Nat} : (a ||| b) &&& MASK = 0 ↔ a &&& MASK = 0 /\ b &&& MASK = 0 := by
 rw [Nat.and_or_distrib_right]
 constructor
 ·intro h
  have h1 : a &&& MASK <= (a &&& MASK) ||| (b &&& MASK) := Nat.left_le_or
  have h2 : b &&& MASK <= (a &&& MASK) ||| (b &&& MASK) := Nat.right_le_or
  omega
 ·rintro ⟨h1, h2⟩
  rw [h1, h2]; rfl
theorem byte_zero : ∀ k : Fin 8, ∀ n : Fin 256, ((n.val * 2 ^ (8 * k.val)) &&& MASK = 0) = (n.val < 128) := by decide +kernel
/-- the first k bytes are characters of one byte -/
def asciiK (k : Nat) (l : List Int) : Prop := k <= l.length /\ ∀ i x, i < k -> l[i]? = some x -> x < 128
theorem ascii_drop : ∀ (k : Nat) (l : List Int), asciiK k l -> u8ValidC (l.drop k) = u8ValidC l
 | 0, l, _ => rfl
 | k + 1, l, h => by
  match l, h with
  | [], h => have := h.1; simp at this
  | c :: r, h =>
   have hc : c < 128 := h.2 0 c (by omega) rfl
   rw [valid_step (c :: r), if_neg (by simp), rune_cons, if_pos hc, if_neg (by omega)]
   exact ascii_drop k r ⟨by have := h.1; simp at this; omega, fun i x hi hx => h.2 (i + 1) x (by omega) (by simpa using hx)⟩
theorem word_spec {l : List Int} (hb : bytesOk l = true) (hl : 8 <= l.length) : ∃ N : Nat, u8Word l = N /\ N < 2 ^ 64 /\ (N &&& MASK = 0 -> asciiK 8 l) := by
 unfold u8Word
 rw [shut_eq]
 refine ⟨_, rfl, ?_, fun h => ⟨hl, ?_⟩⟩
 ·have hr : ∀ i, (l.getD i 0).toNat <= 255 := fun i => by
   rw [List.getD_eq_getElem?_getD]
   cases hx : l[i]? with
   | none => simp
   | some x => have := bytesOk_at hb hx; simp; omega
  have h0 := hr 0; have h1 := hr 1; have h2 := hr 2; have h3 := hr 3; have h4 := hr 4; have h5 := hr 5; have h6 := hr 6; have h7 := hr 7
  exact Nat.or_lt_two_pow (Nat.or_lt_two_pow (Nat.or_lt_two_pow (Nat.or_lt_two_pow (Nat.or_lt_two_pow (Nat.or_lt_two_pow (Nat.or_lt_two_pow (by omega) (by omega)) (by omega)) (by omega)) (by omega)) (by omega)) (by omega)) (by omega)
 ·rw [or_zero, or_zero, or_zero, or_zero, or_zero, or_zero, or_zero] at h
  obtain ⟨⟨⟨⟨⟨⟨⟨a0, a1⟩, a2⟩, a3⟩, a4⟩, a5⟩, a6⟩, a7⟩ := h
  have key : ∀ (k : Fin 8) (n : Nat), n <= 255 -> (n * 2 ^ (8 * k.val)) &&& MASK = 0 -> n < 128 := fun k n hn h => by
   have := byte_zero k ⟨n, by omega⟩
   simp only at this
   rw [this] at h
   exact h
  intro i x hi hx
  have hxr := bytesOk_at hb hx
  have hg : (l.getD i 0).toNat = x.toNat := by rw [List.getD_eq_getElem?_getD, hx]; rfl
  match i, hi, hg with
  | 0, _, hg => rw [hg] at a0; have := key 0 x.toNat (by omega) (by simpa using a0); omega
  | 1, _, hg => rw [hg] at a1; have := key 1 x.toNat (by omega) a1; omega
  | 2, _, hg => rw [hg] at a2; have := key 2 x.toNat (by omega) a2; omega
  | 3, _, hg => rw [hg] at a3; have := key 3 x.toNat (by omega) a3; omega
  | 4, _, hg => rw [hg] at a4; have := key 4 x.toNat (by omega) a4; omega
  | 5, _, hg => rw [hg] at a5; have := key 5 x.toNat (by omega) a5; omega
  | 6, _, hg => rw [hg] at a6; have := key 6 x.toNat (by omega) a6; omega
  | 7, _, hg => rw [hg] at a7; have := key 7 x.toNat (by omega) a7; omega
theorem ascii_add {j k : Nat} {l : List Int} (h1 : asciiK j l) (h2 : asciiK k (l.drop j)) : asciiK (j + k) l := by
 refine ⟨by have := h2.1; simp only [List.length_drop] at this; have := h1.1; omega, fun i x hi hx => ?_⟩
 by_cases h : i < j
 ·exact h1.2 i x h hx
 ·exact h2.2 (i - j) x (by omega) (by rw [List.getElem?_drop, show j + (i - j) = i by omega]; exact hx)

theorem uv_inner (A : List Int -> Option Out) (R : Option Out) (L : Nat) (v : Bool) (hA : ∀ l, l.length <= L -> bytesOk l = true -> u8ValidC l = v -> A l = R) : ∀ (f : Nat) (l : List Int), l.length < f -> l.length <= L -> bytesOk l = true -> u8ValidC l = v ->
  lpUValid_10 A f l = R
 | 0, l, h, _, _, _ => by omega
 | f + 1, l, hf, hL, hb, hv => by
  show lpUValid_10s (lpUValid_10 A f) A l = R
  unfold lpUValid_10s
  refine c_split (fun h => ?_) fun h => hA l hL hb hv
  have b1 := bytesOk_drop hb 8
  have b2 := bytesOk_drop hb 16
  have b3 := bytesOk_drop hb 24
  have l1 : 8 <= (l.drop 8).length := by simp only [List.length_drop]; omega
  have l2 : 8 <= (l.drop 16).length := by simp only [List.length_drop]; omega
  have l3 : 8 <= (l.drop 24).length := by simp only [List.length_drop]; omega
  obtain ⟨n0, e0, p0, q0⟩ := word_spec hb (show 8 <= l.length by omega)
  obtain ⟨n1, e1, p1, q1⟩ := word_spec b1 l1
  obtain ⟨n2, e2, p2, q2⟩ := word_spec b2 l2
  obtain ⟨n3, e3, p3, q3⟩ := word_spec b3 l3
  have two : ∀ (l : List Int), bytesOk l = true -> 8 <= l.length -> (bytesOk l && decide (8 <= l.length)) = true := fun l h1 h2 => by rw [h1, decide_eq_true h2]; rfl
  refine b_pos (two _ hb (by omega)) (c_pos (by omega) (b_pos (two _ b1 l1) (c_pos (by omega) (b_pos (two _ b2 l2) (c_pos (by omega) (b_pos (two _ b3 l3) ?_))))))
  dsimp only
  rw [e0, e1, e2, e3]
  rw [orN p0 p1, orN p2 p3, orN (Nat.or_lt_two_pow p0 p1) (Nat.or_lt_two_pow p2 p3)]
  rw [show (9259542123273814144 : Int) = ((MASK : Nat) : Int) from rfl, andN (Nat.or_lt_two_pow (Nat.or_lt_two_pow p0 p1) (Nat.or_lt_two_pow p2 p3)) (by decide)]
  refine c_split (fun hz => c_pos (by omega) ?_) fun _ => hA l hL hb hv
  have hz : ((n0 ||| n1) ||| (n2 ||| n3)) &&& MASK = 0 := by omega
  rw [or_zero, or_zero, or_zero] at hz
  have hasc := ascii_add (ascii_add (ascii_add (q0 hz.1.1) (q1 hz.1.2)) (q2 hz.2.1)) (q3 hz.2.2)
  exact uv_inner A R L v hA f _ (by simp only [List.length_drop]; omega) (by simp only [List.length_drop]; omega) (bytesOk_drop hb 32) ((ascii_drop 32 l hasc).trans hv)

/-! ### the table -/
def tabSpec (n s lo hi : Int) : Bool :=
 decide ((s = 1 /\ (n < 194 \/ 244 < n)) \/ (s = 2 /\ 194 <= n /\ n <= 223 /\ lo = 128 /\ hi = 191) \/ (s = 3 /\ 224 <= n /\ n <= 239 /\ lo = (if n = 224 then 160 else 128) /\ hi = (if n = 237 then 159 else 191)) \/
  (s = 4 /\ 240 <= n /\ n <= 244 /\ lo = (if n = 240 then 144 else 128) /\ hi = (if n = 244 then 143 else 191)))
def tabB (n : Nat) : Bool := match u8FirstC[n]? with
 | some f => match u8AcceptC[(Int.fdiv f (2 ^ 4)).toNat]? with
  | some (.agg [.int .u8 lo, .int .u8 hi]) => decide (0 <= Int.fdiv f (2 ^ 4) /\ Int.fdiv f (2 ^ 4) < 16) && tabSpec n (IntKind.i64.wrap (IntKind.u8.wrap ((BitVec.ofInt 8 f &&& BitVec.ofInt 8 7).toNat))) lo hi
  | _ => false
 | none => false
theorem tab_all : ∀ n : Fin 256, 128 <= n.val -> tabB n.val = true := by decide +kernel
theorem tab_of {e : Int} (h1 : 128 <= e) (h2 : e <= 255) : ∃ f lo hi, u8First[e.toNat]? = some f /\ (0 <= Int.fdiv f (2 ^ 4) /\ Int.fdiv f (2 ^ 4) < 16) /\ u8Accept[(Int.fdiv f (2 ^ 4)).toNat]? = some (.agg [.int .u8 lo, .int .u8 hi]) /\
  tabSpec e (IntKind.i64.wrap (IntKind.u8.wrap ((BitVec.ofInt 8 f &&& BitVec.ofInt 8 7).toNat))) lo hi = true := by
 have h := tab_all ⟨e.toNat, by omega⟩ (by simp; omega)
 simp only at h
 unfold tabB at h
 unfold u8First u8Accept
 simp only [shut_eq]
 split at h
 ·rename_i f hf
  split at h
  ·rename_i lo hi ha
   simp only [Bool.and_eq_true, decide_eq_true_eq] at h
   refine ⟨f, lo, hi, hf, h.1, ha, ?_⟩
   rw [show e = ((e.toNat : Nat) : Int) by omega]
   exact h.2
  ·cases h
 ·cases h

theorem at_true {l : List Int} {k : Nat} {x : Int} (h : l[k]? = some x) : u8At l k = decide (128 <= x /\ x < 192) := by unfold u8At; rw [h]
theorem uv_lp : ∀ (f : Nat) (l : List Int), l.length < f -> bytesOk l = true -> lpUValid_2 (some (.ret [.cl (.bool false)] [])) (some (.ret [.cl (.bool true)] [])) f l = some (.ret [.cl (.bool (u8ValidC l))] [])
 | 0, l, h, _ => by omega
 | f + 1, l, hf, hb => by
  have again : ∀ l' : List Int, l'.length < l.length -> bytesOk l' = true -> u8ValidC l' = u8ValidC l -> lpUValid_2 (some (.ret [.cl (.bool false)] [])) (some (.ret [.cl (.bool true)] [])) f l' = some (.ret [.cl (.bool (u8ValidC l))] []) := fun l' h1 h2 h3 => by
   rw [<- h3]; exact uv_lp f l' (by omega) h2
  show lpUValid_2s (lpUValid_2 (some (.ret [.cl (.bool false)] [])) (some (.ret [.cl (.bool true)] [])) f) (some (.ret [.cl (.bool false)] [])) (some (.ret [.cl (.bool true)] [])) l = _
  generalize lpUValid_2 (some (.ret [.cl (.bool false)] [])) (some (.ret [.cl (.bool true)] [])) f = ag at again
  have hl := (bytesOk_spec hb).1
  unfold lpUValid_2s
  cases l with
  | nil => exact c_neg (by simp) rfl
  | cons c r =>
  have hc := bytesOk_at hb (i := 0) (x := c) rfl
  have hbr := bytesOk_tail hb
  simp only [List.tail_cons] at hbr
  refine c_pos (by simp only [List.length_cons]; omega) (c_pos (by simp only [List.length_cons]; omega) ?_)
  simp only [List.getElem?_cons_zero, Option.bind_some]
  refine c_split (fun h7 => c_pos (by simp only [List.length_cons]; omega) ?_) fun h7 => ?_
  · -- characters of one byte
   have hone : u8ValidC r = u8ValidC (c :: r) := by
    rw [valid_step (c :: r), if_neg (by simp), rune_cons, if_pos h7, if_neg (by omega)]; rfl
   rw [List.drop_one, List.tail_cons]
   have two : ∀ (l : List Int), bytesOk l = true -> 8 <= l.length -> (bytesOk l && decide (8 <= l.length)) = true := fun l h1 h2 => by rw [h1, decide_eq_true h2]; rfl
   refine c_split (fun h8 => b_pos (two r hbr (by omega)) ?_) fun _ => again r (by simp) hbr hone
   obtain ⟨n0, e0, p0, q0⟩ := word_spec hbr (show 8 <= r.length by omega)
   rw [e0, show (9259542123273814144 : Int) = ((MASK : Nat) : Int) from rfl, andN p0 (by decide)]
   refine c_split (fun hz => c_pos (by omega) ?_) fun _ => again r (by simp) hbr hone
   have a0 := q0 (by omega)
   have hd8 := (ascii_drop 8 r a0).trans hone
   have hb8 := bytesOk_drop hbr 8
   refine c_split (fun h16 => ?_) fun _ => again _ (by simp only [List.length_drop, List.length_cons]; omega) hb8 hd8
   have hb16 := bytesOk_drop hb8 8
   have l1 : 8 <= (List.drop 8 r).length := by omega
   have l2 : 8 <= (List.drop 8 (List.drop 8 r)).length := by rw [List.length_drop]; omega
   obtain ⟨n1, e1, p1, q1⟩ := word_spec hb8 l1
   obtain ⟨n2, e2, p2, q2⟩ := word_spec hb16 l2
   refine b_pos (two _ hb8 l1) (c_pos (by omega) (b_pos (two _ hb16 l2) ?_))
   rw [e1, e2, orN p1 p2, andN (Nat.or_lt_two_pow p1 p2) (by decide)]
   refine c_split (fun hz => c_pos (by omega) ?_) fun _ => again _ (by simp only [List.length_drop, List.length_cons]; omega) hb8 hd8
   have hz : (n1 ||| n2) &&& MASK = 0 := by omega
   rw [or_zero] at hz
   have a12 := ascii_add (q1 hz.1) (q2 hz.2)
   have hb24 := bytesOk_drop hb8 16
   have hd24 := (ascii_drop 16 _ a12).trans hd8
   rw [shut_eq]
   exact uv_inner ag _ (List.drop 16 (List.drop 8 r)).length (u8ValidC (c :: r)) (fun l' h1 h2 h3 => again l' (by simp only [List.length_drop, List.length_cons] at h1 ⊢; omega) h2 h3) FUEL _ (by simp only [List.length_cons] at hl; simp only [List.length_drop]; unfold FUEL; omega) (Nat.le_refl _) hb24 hd24
  ·obtain ⟨fv, lo, hi, t1, t2, t3, t4⟩ := tab_of (e := c) (by omega) hc.2
   refine c_pos (by omega) (c_pos (by omega) ?_)
   simp only [t1, Option.bind_some]
   refine c_pos t2.1 (c_pos t2.2 ?_)
   simp only [t3, Option.bind_some]
   refine b_pos rfl ?_
   generalize IntKind.i64.wrap (IntKind.u8.wrap ((BitVec.ofInt 8 fv &&& BitVec.ofInt 8 7).toNat)) = s at t4 ⊢
   have t4 := of_decide_eq_true t4
   show cond (decide (s = 2)) _ _ = _
   simp only [show cvInt ((cell1 (CV.agg [.int .u8 lo, .int .u8 hi])).headD .nili) = lo from rfl, show cvInt ((cell1 (CV.agg [.int .u8 lo, .int .u8 hi])).tail.headD .nili) = hi from rfl]
   have bad : u8RuneC (c :: r) = 0 -> (some (Out.ret [.cl (.bool false)] []) : Option Out) = some (.ret [.cl (.bool (u8ValidC (c :: r)))] []) := fun h => by
    rw [valid_step (c :: r), if_neg (by simp), if_pos h]
   have good : ∀ k : Nat, 0 < k -> u8RuneC (c :: r) = k -> k <= (c :: r).length -> ag ((c :: r).drop k) = some (.ret [.cl (.bool (u8ValidC (c :: r)))] []) := fun k h0 h hk => by
    refine again _ (by simp only [List.length_drop, List.length_cons] at hk ⊢; omega) (bytesOk_drop hb k) ?_
    rw [valid_step (c :: r), if_neg (by simp), if_neg (by omega), h]
    rfl
   have hx : ∀ k, k < r.length -> ∃ x, r[k]? = some x /\ 0 <= x /\ x <= 255 := fun k hk => by
    obtain ⟨x, hx⟩ := get_some (b := r) hk
    exact ⟨x, hx, bytesOk_at hbr hx⟩
   have hnone : ∀ k, r.length <= k -> ¬ u8At r k = true := fun k hk => by unfold u8At; rw [List.getElem?_eq_none hk]; simp
   have hf : ∀ (k : Nat) (x : Int), r[k]? = some x -> (x < 128 \/ 191 < x) -> ¬ u8At r k = true := fun k x hx h => by rw [at_true hx, decide_eq_true_eq]; omega
   have ht : ∀ (k : Nat) (x : Int), r[k]? = some x -> 128 <= x -> x <= 191 -> u8At r k = true := fun k x hx h h' => by rw [at_true hx, decide_eq_true_eq]; omega
   have hd : ∀ x, r[0]? = some x -> r.headD 0 = x := fun x hx => by cases r with | nil => cases hx | cons y t => simpa using hx
   simp only [List.length_cons] at good ⊢
   rcases t4 with ⟨rfl, hn⟩ | ⟨rfl, hn1, hn2, rfl, rfl⟩ | ⟨rfl, hn1, hn2, hlo, hhi⟩ | ⟨rfl, hn1, hn2, hlo, hhi⟩
   ·refine c_neg (by omega) (c_neg (by omega) (c_neg (by omega) (bad ?_)))
    rw [rune_cons, if_neg h7, if_neg (by omega), if_neg (by omega), if_neg (by omega)]
   ·have zero : ¬ u8At r 0 = true -> u8RuneC (c :: r) = 0 := fun h => by rw [rune_cons, if_neg h7, if_neg (fun h' => h h'.2.2), if_neg (by omega), if_neg (by omega)]
    refine c_pos rfl (c_split (fun hs => bad (zero (hnone 0 (by omega)))) fun hs => ?_)
    obtain ⟨x, hx0, hxr⟩ := hx 0 (by omega)
    simp only [List.getElem?_cons_succ, hx0, Option.bind_some]
    refine c_pos (by omega) (c_split (fun hs => bad (zero (hf 0 x hx0 (by omega)))) fun hs1 => c_pos (by omega) (c_split (fun hs => bad (zero (hf 0 x hx0 (by omega)))) fun hs2 => c_pos (by omega) ?_))
    exact good 2 (by omega) (by rw [rune_cons, if_neg h7, if_pos ⟨hn1, hn2, ht 0 x hx0 (by omega) (by omega)⟩]; rfl) (by omega)
   ·have zero : ¬ (u8At r 0 = true /\ u8At r 1 = true /\ (c = 224 -> 160 <= r.headD 0) /\ (c = 237 -> r.headD 0 < 160)) -> u8RuneC (c :: r) = 0 := fun h => by rw [rune_cons, if_neg h7, if_neg (by omega), if_neg (fun h' => h h'.2.2), if_neg (by omega)]
    refine c_neg (by omega) (c_pos rfl (c_split (fun hs => bad (zero fun h => hnone 1 (by omega) h.2.1)) fun hs => ?_))
    obtain ⟨x, hx0, hxr⟩ := hx 0 (by omega)
    obtain ⟨y, hy0, hyr⟩ := hx 1 (by omega)
    have hdx := hd x hx0
    simp only [List.getElem?_cons_succ, hx0, hy0, Option.bind_some]
    have zx : (x < lo \/ hi < x) -> u8RuneC (c :: r) = 0 := fun hh => zero fun h => by
     have h1 := h.1
     rw [at_true hx0, decide_eq_true_eq] at h1
     rw [hdx] at h
     have := h.2.2.1
     have := h.2.2.2
     rw [hlo, hhi] at hh
     split at hh <;> split at hh <;> omega
    refine c_pos (by omega) (c_split (fun hs => bad (zx (.inl hs))) fun hs1 => c_pos (by omega) (c_split (fun hs => bad (zx (.inr hs))) fun hs2 => ?_))
    refine c_pos (by omega) (c_split (fun hs => bad (zero fun h => hf 1 y hy0 (by omega) h.2.1)) fun hs3 => c_pos (by omega) (c_split (fun hs => bad (zero fun h => hf 1 y hy0 (by omega) h.2.1)) fun hs4 => c_pos (by omega) ?_))
    refine good 3 (by omega) ?_ (by omega)
    rw [hlo] at hs1
    rw [hhi] at hs2
    rw [rune_cons, if_neg h7, if_neg (by omega), if_pos ⟨hn1, hn2, ht 0 x hx0 (by split at hs1 <;> omega) (by split at hs2 <;> omega), ht 1 y hy0 (by omega) (by omega), fun e => by rw [if_pos e] at hs1; rw [hdx]; omega, fun e => by rw [if_pos e] at hs2; rw [hdx]; omega⟩]
    rfl
   ·have zero : ¬ (u8At r 0 = true /\ u8At r 1 = true /\ u8At r 2 = true /\ (c = 240 -> 144 <= r.headD 0) /\ (c = 244 -> r.headD 0 < 144)) -> u8RuneC (c :: r) = 0 := fun h => by rw [rune_cons, if_neg h7, if_neg (by omega), if_neg (by omega), if_neg (fun h' => h h'.2.2)]
    refine c_neg (by omega) (c_neg (by omega) (c_pos rfl (c_split (fun hs => bad (zero fun h => hnone 2 (by omega) h.2.2.1)) fun hs => ?_)))
    obtain ⟨x, hx0, hxr⟩ := hx 0 (by omega)
    obtain ⟨y, hy0, hyr⟩ := hx 1 (by omega)
    obtain ⟨z, hz0, hzr⟩ := hx 2 (by omega)
    have hdx := hd x hx0
    simp only [List.getElem?_cons_succ, hx0, hy0, hz0, Option.bind_some]
    have zx : (x < lo \/ hi < x) -> u8RuneC (c :: r) = 0 := fun hh => zero fun h => by
     have h1 := h.1
     rw [at_true hx0, decide_eq_true_eq] at h1
     rw [hdx] at h
     have := h.2.2.2.1
     have := h.2.2.2.2
     rw [hlo, hhi] at hh
     split at hh <;> split at hh <;> omega
    refine c_pos (by omega) (c_split (fun hs => bad (zx (.inl hs))) fun hs1 => c_pos (by omega) (c_split (fun hs => bad (zx (.inr hs))) fun hs2 => ?_))
    refine c_pos (by omega) (c_split (fun hs => bad (zero fun h => hf 1 y hy0 (by omega) h.2.1)) fun hs3 => c_pos (by omega) (c_split (fun hs => bad (zero fun h => hf 1 y hy0 (by omega) h.2.1)) fun hs4 => ?_))
    refine c_pos (by omega) (c_split (fun hs => bad (zero fun h => hf 2 z hz0 (by omega) h.2.2.1)) fun hs5 => c_pos (by omega) (c_split (fun hs => bad (zero fun h => hf 2 z hz0 (by omega) h.2.2.1)) fun hs6 => c_pos (by omega) ?_))
    refine good 4 (by omega) ?_ (by omega)
    rw [hlo] at hs1
    rw [hhi] at hs2
    rw [rune_cons, if_neg h7, if_neg (by omega), if_neg (by omega), if_pos ⟨hn1, hn2, ht 0 x hx0 (by split at hs1 <;> omega) (by split at hs2 <;> omega), ht 1 y hy0 (by omega) (by omega), ht 2 z hz0 (by omega) (by omega), fun e => by rw [if_pos e] at hs1; rw [hdx]; omega, fun e => by rw [if_pos e] at hs2; rw [hdx]; omega⟩]
    rfl
theorem nUValid (b : List Int) (hp : bytesOk b = true) : gUValid b = some (.ret [.cl (.bool (u8Valid b))] []) := by
 unfold gUValid u8Valid
 simp only [shut_eq]
 refine b_pos (by simp) (c_pos (by omega) ?_)
 rw [show (((b.length : Nat) : Int)).toNat = b.length from rfl, List.take_length]
 exact uv_lp FUEL b (by have := (bytesOk_spec hp).1; unfold FUEL; omega) hp
end Go.Proofs.YtfkpjbbkdkcdcaaDoorA

namespace Go.Proofs.YtfkpjbbkdkcdcaaDoorA
open IntWalk (i64_in u8_in u32_in u64_in i64_quo u8_quo rem_in)

/-! ### bits -/
theorem mask_mod : ∀ (k : Fin 8) (n : Fin 256), (IntKind.u8.wrap ((BitVec.ofInt 8 (n.val : Int) &&& BitVec.ofInt 8 (IntKind.u8.wrap (IntKind.u8.wrap (1 * 2 ^ (min k.val 8)) - 1))).toNat) = 0) = ((n.val : Int) % 2 ^ k.val = 0) := by decide +kernel
theorem mask_tmod : ∀ (k : Fin 8) (n : Fin 256), IntKind.u8.wrap (1 * 2 ^ (min k.val 8)) ≠ 0 /\ (Int.tmod (n.val : Int) (IntKind.u8.wrap (1 * 2 ^ (min k.val 8))) = 0) = ((n.val : Int) % 2 ^ k.val = 0) := by decide +kernel
theorem last_get (y : Int) (r : List Int) (x : Int) : (x :: y :: r)[(r.length + 1)]? = some ((y :: r).getLast (by simp)) := by
 rw [List.getElem?_cons_succ, List.getLast_eq_getElem]
 simp
theorem nDStrip (b : List Int) (hp : bytesOk b = true) : gDStrip b = some (.ret [.cl (.bool (derStrip b))] []) := by
 unfold gDStrip derStrip
 rw [shut_eq]
 match b, hp with
 | [], _ => rfl
 | [x], hp =>
  have hx := bytesOk_at hp (i := 0) (x := x) rfl
  refine c_neg (by simp) (c_pos (by simp) ?_)
  simp only [List.getElem?_cons_zero, Option.bind_some]
  refine c_split (fun h => ret_bool ?_) fun h => c_pos (by simp) (c_pos (by simp) rfl)
  exact (decide_eq_false (by omega)).symm
 | x :: y :: r, hp =>
  have hx := bytesOk_at hp (i := 0) (x := x) rfl
  have hl := (bytesOk_spec hp).1
  have hg := last_get y r x
  have hz := bytesOk_at hp hg
  simp only [List.length_cons] at hl
  simp only [derStripC]
  generalize (y :: r).getLast (by simp) = z at *
  refine c_neg (by simp only [List.length_cons]; omega) (c_pos (by simp only [List.length_cons]; omega) ?_)
  simp only [List.getElem?_cons_zero, Option.bind_some]
  refine c_split (fun h => ret_bool ?_) fun h => c_neg (by simp only [List.length_cons]; omega) ?_
  ·rw [show decide (x <= 7) = false from decide_eq_false (by omega)]; rfl
  ·rw [show IntKind.i64.wrap ((((x :: y :: r).length : Nat) : Int) - 1) = ((r.length + 1 : Nat) : Int) from (i64_in ((((x :: y :: r).length : Nat) : Int) - 1) (by simp only [List.length_cons]; omega)).trans (by simp only [List.length_cons]; omega)]
   refine c_pos (by omega) (c_pos (by simp only [List.length_cons]; omega) ?_)
   rw [show (((r.length + 1 : Nat) : Int)).toNat = r.length + 1 from rfl, hg, Option.bind_some]
   refine c_pos (by simp only [List.length_cons]; omega) (c_neg (by omega) (ret_bool ?_))
   have := mask_mod ⟨x.toNat, by omega⟩ ⟨z.toNat, by omega⟩
   simp only [Int.toNat_of_nonneg hz.1] at this
   rw [show decide (x <= 7) = true from decide_eq_true (by omega), Bool.true_and]
   rw [Bool.eq_iff_iff]
   simp only [decide_eq_true_eq]
   rw [this]
theorem nRFitBits (b : List Int) (hp : bytesOk b = true) : gRFitBits b = some (.ret [.cl (.bool (derStrip b))] []) := by
 unfold gRFitBits derStrip
 rw [shut_eq]
 match b, hp with
 | [], _ => rfl
 | [x], hp =>
  have hx := bytesOk_at hp (i := 0) (x := x) rfl
  refine c_neg (by simp) (c_pos (by simp) ?_)
  simp only [List.getElem?_cons_zero, Option.bind_some]
  refine c_split (fun h => ret_bool ?_) fun h => c_pos (by simp) (c_pos (by simp) rfl)
  exact (decide_eq_false (by omega)).symm
 | x :: y :: r, hp =>
  have hx := bytesOk_at hp (i := 0) (x := x) rfl
  have hl := (bytesOk_spec hp).1
  have hg := last_get y r x
  have hz := bytesOk_at hp hg
  simp only [List.length_cons] at hl
  simp only [derStripC]
  generalize (y :: r).getLast (by simp) = z at *
  refine c_neg (by simp only [List.length_cons]; omega) (c_pos (by simp only [List.length_cons]; omega) ?_)
  simp only [List.getElem?_cons_zero, Option.bind_some]
  refine c_split (fun h => ret_bool ?_) fun h => c_neg (by simp only [List.length_cons]; omega) ?_
  ·rw [show decide (x <= 7) = false from decide_eq_false (by omega)]; rfl
  ·rw [show IntKind.i64.wrap ((((x :: y :: r).length : Nat) : Int) - 1) = ((r.length + 1 : Nat) : Int) from (i64_in ((((x :: y :: r).length : Nat) : Int) - 1) (by simp only [List.length_cons]; omega)).trans (by simp only [List.length_cons]; omega)]
   refine c_pos (by omega) (c_pos (by simp only [List.length_cons]; omega) ?_)
   rw [show (((r.length + 1 : Nat) : Int)).toNat = r.length + 1 from rfl, hg, Option.bind_some]
   have := mask_tmod ⟨x.toNat, by omega⟩ ⟨z.toNat, by omega⟩
   simp only [Int.toNat_of_nonneg hz.1] at this
   refine c_pos (by simp only [List.length_cons]; omega) (c_neg (by omega) (c_neg this.1 (ret_bool ?_)))
   rw [show decide (x <= 7) = true from decide_eq_true (by omega), Bool.true_and]
   rw [Bool.eq_iff_iff]
   simp only [decide_eq_true_eq]
   rw [this.2]

/-! ### numbers by 7 bits -/
theorem or7 {n x : Int} (h0 : 0 <= n) (h1 : n < 72057594037927936) (h2 : 0 <= x) (h3 : x <= 127) : ((BitVec.ofInt 64 (n * 128) ||| BitVec.ofInt 64 x).toNat : Int) = n * 128 + x := by
 obtain ⟨a, rfl⟩ : ∃ a : Nat, n = a := ⟨n.toNat, by omega⟩
 obtain ⟨b, rfl⟩ : ∃ b : Nat, x = b := ⟨x.toNat, by omega⟩
 rw [BitVec.toNat_or]
 have e1 : (BitVec.ofInt 64 ((a : Int) * 128)).toNat = 2 ^ 7 * a := by rw [BitVec.toNat_ofInt]; omega
 have e2 : (BitVec.ofInt 64 (b : Int)).toNat = b := by rw [BitVec.toNat_ofInt]; omega
 rw [e1, e2, <- Nat.two_pow_add_eq_or_of_lt (by omega : b < 2 ^ 7)]
 omega
theorem and7 : ∀ n : Fin 256, IntKind.u8.wrap ((BitVec.ofInt 8 (n.val : Int) &&& ~~~ BitVec.ofInt 8 128).toNat) = (n.val : Int) % 128 /\ (IntKind.u8.wrap ((BitVec.ofInt 8 (n.val : Int) &&& BitVec.ofInt 8 128).toNat) = 0) = ((n.val : Int) < 128) := by decide +kernel
theorem num_go (b : List Int) (hb : bytesOk b = true) : ∀ (f i : Nat) (n : Int), i <= b.length -> b.length < f + i -> 0 <= n -> n < 4294967296 -> 
  lpONumber_3 (fun _ _ _ _ _ _ _ _ _ _ _ _ _ _ _ => some (.ret [.cl (.int .u32 0), .cl (.int .i64 0)] [])) (fun _ _ _ _ _ _ _ _ _ _ _ _ _ _ _ _ _ => some (.ret [.cl (.int .u32 0), .cl (.int .i64 0)] [])) (fun y33 y34 _ _ _ _ _ _ _ _ _ _ _ _ _ _ _ _ _ _ _ _ _ _ _ _ _ _ _ _ _ => some (.ret [.cl (.int .u32 y33), .cl (.int .i64 y34)] [])) (fun _ _ _ _ _ _ _ _ _ _ _ _ _ _ => some (.ret [.cl (.int .u32 0), .cl (.int .i64 0)] []))
   (fun y33 y34 _ _ _ _ _ _ _ _ _ _ _ _ _ _ _ _ _ _ _ _ _ _ _ _ _ _ => some (.ret [.cl (.int .u32 y33), .cl (.int .i64 y34)] [])) (fun _ _ _ _ => some (.ret [.cl (.int .u32 0), .cl (.int .i64 0)] [])) f n b (b.length : Int) i = some (.ret [.cl (.int .u32 (oidNumG n i (b.drop i)).1), .cl (.int .i64 (oidNumG n i (b.drop i)).2)] [])
 | 0, i, n, hi, hf, _, _ => by omega
 | f + 1, i, n, hi, hf, h0, h1 => by
  show lpONumber_3s (lpONumber_3 (fun _ _ _ _ _ _ _ _ _ _ _ _ _ _ _ => some (.ret [.cl (.int .u32 0), .cl (.int .i64 0)] [])) (fun _ _ _ _ _ _ _ _ _ _ _ _ _ _ _ _ _ => some (.ret [.cl (.int .u32 0), .cl (.int .i64 0)] [])) (fun y33 y34 _ _ _ _ _ _ _ _ _ _ _ _ _ _ _ _ _ _ _ _ _ _ _ _ _ _ _ _ _ => some (.ret [.cl (.int .u32 y33), .cl (.int .i64 y34)] [])) (fun _ _ _ _ _ _ _ _ _ _ _ _ _ _ => some (.ret [.cl (.int .u32 0), .cl (.int .i64 0)] []))
   (fun y33 y34 _ _ _ _ _ _ _ _ _ _ _ _ _ _ _ _ _ _ _ _ _ _ _ _ _ _ => some (.ret [.cl (.int .u32 y33), .cl (.int .i64 y34)] [])) (fun _ _ _ _ => some (.ret [.cl (.int .u32 0), .cl (.int .i64 0)] [])) f) _ _ _ _ _ _ n b (b.length : Int) i = _
  have hl := (bytesOk_spec hb).1
  unfold lpONumber_3s
  refine c_split (fun h => c_pos (by omega) (c_pos h ?_)) fun h => ?_
  ·obtain ⟨c, hc⟩ := get_some (b := b) (i := i) (by omega)
   have hcr := bytesOk_at hb hc
   rw [show (i : Int).toNat = i from rfl, hc, Option.bind_some, drop_cons hc]
   have a7 := and7 ⟨c.toNat, by omega⟩
   simp only [Int.toNat_of_nonneg hcr.1] at a7
   have step : ∀ (X : Option Out), ¬ 33554431 < n -> ¬ ((i : Int) = 0 /\ c = 128) -> (IntKind.u64.wrap (n * 2 ^ 7) = n * 128) /\ IntKind.u64.wrap (IntKind.u8.wrap ((BitVec.ofInt 8 c &&& ~~~ BitVec.ofInt 8 128).toNat)) = c % 128 /\ IntKind.u64.wrap ((BitVec.ofInt 64 (n * 128) ||| BitVec.ofInt 64 (c % 128)).toNat) = n * 128 + c % 128 /\
     oidNumG n i (c :: b.drop (i + 1)) = if c < 128 then (n * 128 + c, (i : Int) + 1) else oidNumG (n * 128 + (c - 128)) ((i : Int) + 1) (b.drop (i + 1)) := fun X g1 g2 => by
    refine ⟨(u64_in _ (by omega)).trans (by omega), ?_, ?_, ?_⟩
    ·rw [a7.1]; exact u64_in _ (by omega)
    ·rw [or7 h0 (by omega) (by omega) (by omega)]; exact u64_in _ (by omega)
    ·conv => lhs; unfold oidNumG
     rw [if_neg (by rintro (h | h); exact g2 h; exact g1 h)]
   have stop : ((i : Int) = 0 /\ c = 128) \/ 33554431 < n -> (some (.ret [.cl (.int .u32 0), .cl (.int .i64 0)] []) : Option Out) = some (.ret [.cl (.int .u32 (oidNumG n i (c :: b.drop (i + 1))).1), .cl (.int .i64 (oidNumG n i (c :: b.drop (i + 1))).2)] []) := fun h => by
    unfold oidNumG
    rw [if_pos h]
   have go : ∀ (g1 : ¬ 33554431 < n) (g2 : ¬ ((i : Int) = 0 /\ c = 128)) (R : Option Out) (K : Int -> Int -> Option Out) (A : Option Out), True := fun _ _ _ _ _ => trivial
   refine c_split (fun hi0 => c_split (fun h128 => stop (.inl ⟨hi0, h128⟩)) fun h128 => c_split (fun hn => stop (.inr hn)) fun hn => ?_) fun hi0 => c_split (fun hn => stop (.inr hn)) fun hn => ?_
   ·obtain ⟨s1, s2, s3, s4⟩ := step none hn (by omega)
    dsimp only
    rw [s1, s2, s3, s4]
    refine c_split (fun hz => ?_) fun hz => ?_
    ·have hz : c < 128 := by rwa [a7.2] at hz
     rw [if_pos hz, show c % 128 = c by omega, show IntKind.u32.wrap (n * 128 + c) = n * 128 + c from u32_in _ (by omega), show IntKind.i64.wrap ((i : Int) + 1) = (i : Int) + 1 from i64_in _ (by omega)]
    ·have hz : ¬ c < 128 := by rwa [a7.2] at hz
     rw [if_neg hz, show c % 128 = c - 128 by omega, show IntKind.i64.wrap ((i : Int) + 1) = ((i + 1 : Nat) : Int) from (i64_in _ (by omega)).trans (by omega)]
     exact num_go b hb f (i + 1) _ (by omega) (by omega) (by omega) (by omega)
   ·obtain ⟨s1, s2, s3, s4⟩ := step none hn (by omega)
    dsimp only
    rw [s1, s2, s3, s4]
    refine c_split (fun hz => ?_) fun hz => ?_
    ·have hz : c < 128 := by rwa [a7.2] at hz
     rw [if_pos hz, show c % 128 = c by omega, show IntKind.u32.wrap (n * 128 + c) = n * 128 + c from u32_in _ (by omega), show IntKind.i64.wrap ((i : Int) + 1) = (i : Int) + 1 from i64_in _ (by omega)]
    ·have hz : ¬ c < 128 := by rwa [a7.2] at hz
     rw [if_neg hz, show c % 128 = c - 128 by omega, show IntKind.i64.wrap ((i : Int) + 1) = ((i + 1 : Nat) : Int) from (i64_in _ (by omega)).trans (by omega)]
     exact num_go b hb f (i + 1) _ (by omega) (by omega) (by omega) (by omega)
  ·rw [drop_nil (by omega)]
   rfl
theorem nONumber (b : List Int) (hp : bytesOk b = true) : gONumber b = some (.ret [.cl (.int .u32 (oidNumber b).1), .cl (.int .i64 (oidNumber b).2)] []) := by
 unfold gONumber oidNumber
 simp only [shut_eq]
 exact num_go b hp FUEL 0 0 (by omega) (by have := (bytesOk_spec hp).1; unfold FUEL; omega) (by omega) (by omega)
theorem nONumbers (b : List Int) (hp : true = true) : gONumbers b = some (.ret [.fn (.func 154) [] [.ptr 0 0 0]] [some ⟨.var [.cl (.sli .u8 b)], false⟩]) := rfl
end Go.Proofs.YtfkpjbbkdkcdcaaDoorA

namespace Go.Proofs.YtfkpjbbkdkcdcaaDoorA
open IntWalk (i64_in u8_in u32_in u64_in i64_quo u8_quo rem_in)

theorem numG_rng : ∀ (b : List Int) (n i : Int), (∀ x ∈ b, 0 <= x /\ x <= 255) -> 0 <= n -> 0 <= i -> (0 <= (oidNumG n i b).1 /\ (oidNumG n i b).1 <= 4294967295) /\ ((oidNumG n i b).2 = 0 \/ i < (oidNumG n i b).2 /\ (oidNumG n i b).2 <= i + b.length)
 | [], n, i, _, _, _ => by simp [oidNumG]
 | c :: r, n, i, hb, hn, hi => by
  have hc := hb c (by simp)
  unfold oidNumG
  split
  ·simp
  ·rename_i h
   split
   ·exact ⟨by omega, .inr (by simp only [List.length_cons]; omega)⟩
   ·have := numG_rng r (n * 128 + (c - 128)) (i + 1) (fun x hx => hb x (by simp [hx])) (by omega) (by omega)
    refine ⟨this.1, this.2.imp id fun h => ?_⟩
    simp only [List.length_cons]; omega
theorem number_rng {b : List Int} (hb : bytesOk b = true) : (0 <= (oidNumberC b).1 /\ (oidNumberC b).1 <= 4294967295) /\ ((oidNumberC b).2 = 0 \/ 0 < (oidNumberC b).2 /\ (oidNumberC b).2 <= b.length) := by
 have := numG_rng b 0 0 (bytesOk_spec hb).2 (by omega) (by omega)
 unfold oidNumberC
 exact ⟨this.1, this.2.imp id fun h => by omega⟩
theorem nums_more : ∀ (n m : Nat) (b : List Int), bytesOk b = true -> b.length <= n -> b.length <= m -> oidNumsF n b = oidNumsF m b
 | 0, 0, b, _, _, _ => rfl
 | 0, m + 1, b, _, h, _ => by
  have : b = [] := List.eq_nil_of_length_eq_zero (by omega)
  subst this; simp [oidNumsF]
 | n + 1, 0, b, _, _, h => by
  have : b = [] := List.eq_nil_of_length_eq_zero (by omega)
  subst this; simp [oidNumsF]
 | n + 1, m + 1, b, hb, h1, h2 => by
  unfold oidNumsF
  by_cases h : b = []
  ·rw [if_pos h, if_pos h]
  ·rw [if_neg h, if_neg h]
   by_cases h0 : (oidNumberC b).2 = 0
   ·rw [if_pos h0, if_pos h0]
   ·rw [if_neg h0, if_neg h0]
    have := (number_rng hb).2
    rw [nums_more n m _ (bytesOk_drop hb _) (by simp only [List.length_drop]; omega) (by simp only [List.length_drop]; omega)]
theorem nums_step {b : List Int} (hb : bytesOk b = true) : oidNumsC b = if b = [] then [] else if (oidNumberC b).2 = 0 then [((oidNumberC b).1, false)] else ((oidNumberC b).1, true) :: oidNumsC (b.drop (oidNumberC b).2.toNat) := by
 unfold oidNumsC
 cases b with
 | nil => rfl
 | cons c r =>
  rw [if_neg (by simp)]
  conv => lhs; rw [List.length_cons]; unfold oidNumsF
  rw [if_neg (by simp)]
  by_cases h0 : (oidNumberC (c :: r)).2 = 0
  ·rw [if_pos h0, if_pos h0]
  ·rw [if_neg h0, if_neg h0]
   have := (number_rng hb).2
   rw [nums_more _ _ _ (bytesOk_drop hb _) (by simp only [List.length_drop, List.length_cons] at *; omega) (Nat.le_refl _)]

/-! ### the iterator -/
def rowOf2 (p : Int × Bool) : List CV := [.int .u32 p.1, .bool p.2]
theorem it_lp (l : Nat) : ∀ (f : Nat) (b : List Int), bytesOk b = true -> b.length < f -> ∃ out, lpONums_0 l
  (fun _ _ _ _ _ _ _ _ _ _ _ _ _ _ y15 => some (.ret [] [some ⟨.var [.cl (.sli .u8 y15)], false⟩])) (fun _ _ _ _ _ _ _ _ _ _ _ _ _ _ _ _ y32 => some (.ret [] [some ⟨.var [.cl (.sli .u8 y32)], false⟩])) (fun _ _ y35 => some (.ret [] [some ⟨.var [.cl (.sli .u8 y35)], false⟩])) f b = some out /\ Hands out (some ((oidNumsC b).map rowOf2))
 | 0, b, _, h => by omega
 | f + 1, b, hb, hf => by
  have ih := fun b' h1 h2 => it_lp l f b' h1 h2
  generalize hag : lpONums_0 l (fun _ _ _ _ _ _ _ _ _ _ _ _ _ _ y15 => some (.ret [] [some ⟨.var [.cl (.sli .u8 y15)], false⟩])) (fun _ _ _ _ _ _ _ _ _ _ _ _ _ _ _ _ y32 => some (.ret [] [some ⟨.var [.cl (.sli .u8 y32)], false⟩])) (fun _ _ y35 => some (.ret [] [some ⟨.var [.cl (.sli .u8 y35)], false⟩])) f = ag at ih
  have e : lpONums_0 l (fun _ _ _ _ _ _ _ _ _ _ _ _ _ _ y15 => some (.ret [] [some ⟨.var [.cl (.sli .u8 y15)], false⟩])) (fun _ _ _ _ _ _ _ _ _ _ _ _ _ _ _ _ y32 => some (.ret [] [some ⟨.var [.cl (.sli .u8 y32)], false⟩])) (fun _ _ y35 => some (.ret [] [some ⟨.var [.cl (.sli .u8 y35)], false⟩])) (f + 1) b =
    lpONums_0s l ag (fun _ _ _ _ _ _ _ _ _ _ _ _ _ _ y15 => some (.ret [] [some ⟨.var [.cl (.sli .u8 y15)], false⟩])) (fun _ _ _ _ _ _ _ _ _ _ _ _ _ _ _ _ y32 => some (.ret [] [some ⟨.var [.cl (.sli .u8 y32)], false⟩])) (fun _ _ y35 => some (.ret [] [some ⟨.var [.cl (.sli .u8 y35)], false⟩])) b := by rw [<- hag]; rfl
  rw [e]
  unfold lpONums_0s
  rw [nums_step hb]
  by_cases h : b = []
  ·subst h
   exact ⟨_, c_neg (by simp) rfl, .inl rfl⟩
  ·have hlen : 0 < b.length := List.length_pos_iff.2 h
   rw [if_neg h]
   have hr := number_rng hb
   have e1 : oidNumber b = oidNumberC b := by unfold oidNumber; rw [shut_eq]
   rw [e1]
   by_cases h0 : (oidNumberC b).2 = 0
   ·rw [if_pos h0]
    refine ⟨.yld [.int .u32 (oidNumberC b).1, .bool (decide ((0 : Int) < (oidNumberC b).2))] (.ret [] [some ⟨.var [.cl (.sli .u8 b)], false⟩]) (.ret [] [some ⟨.var [.cl (.sli .u8 b)], false⟩]), c_pos (by omega) (b_pos hb (b_pos (Nat.beq_refl l) ?_)), ?_⟩
    ·dsimp only
     rw [decide_eq_true h0]; rfl
    ·refine ⟨?_, .inr rfl, .inl rfl⟩
     show [CV.int .u32 (oidNumberC b).1, .bool (decide ((0 : Int) < (oidNumberC b).2))] = [.int .u32 (oidNumberC b).1, .bool false]
     rw [decide_eq_false (by omega)]
   ·rw [if_neg h0]
    obtain ⟨out, g1, g2⟩ := ih (b.drop (oidNumberC b).2.toNat) (bytesOk_drop hb _) (by simp only [List.length_drop]; omega)
    refine ⟨.yld [.int .u32 (oidNumberC b).1, .bool (decide ((0 : Int) < (oidNumberC b).2))] (.ret [] [some ⟨.var [.cl (.sli .u8 b)], false⟩]) out, c_pos (by omega) (b_pos hb (b_pos (Nat.beq_refl l) ?_)), ?_⟩
    ·dsimp only
     rw [decide_eq_false h0]
     show yldO _ _ (cond (decide ((0 : Int) <= (oidNumberC b).2)) (cond (decide ((oidNumberC b).2 <= ((b.length : Nat) : Int))) (ag (List.drop (Int.toNat (oidNumberC b).2) b)) none) none) = _
     rw [decide_eq_true (show (0 : Int) <= (oidNumberC b).2 by omega), decide_eq_true (show (oidNumberC b).2 <= ((b.length : Nat) : Int) by omega)]
     simp only [cond_true]
     rw [g1]
     rfl
    ·refine ⟨?_, .inr rfl, g2⟩
     show [CV.int .u32 (oidNumberC b).1, .bool (decide ((0 : Int) < (oidNumberC b).2))] = [.int .u32 (oidNumberC b).1, .bool true]
     rw [decide_eq_true (by omega)]
theorem nONums (l : Nat) (b : List Int) (hp : bytesOk b = true) : ∃ out, gONums l b = some out /\ Hands out (some (oidRows (oidNums b))) := by
 unfold gONums oidRows oidNums
 simp only [shut_eq]
 obtain ⟨out, h1, h2⟩ := it_lp l FUEL b hp (by have := (bytesOk_spec hp).1; unfold FUEL; omega)
 exact ⟨out, by rw [Nat.beq_refl, cond_true]; exact h1, h2⟩

/-! ### the range over it -/
theorem first_min {n : Int} (h0 : 0 <= n) (h1 : n <= 4294967295) : ∃ x, cond (decide ((2 : Int) < n / 40)) 2 (n / 40) = x /\ 0 <= x /\ x <= 2 /\ [x, n - 40 * x] = oidFirstC n /\ 0 <= n - 40 * x := by
 unfold oidFirstC
 by_cases h : n < 80
 ·rw [if_pos h, decide_eq_false (by omega)]
  exact ⟨n / 40, rfl, by omega, by omega, by simp; omega, by omega⟩
 ·rw [if_neg h]
  by_cases h2 : 2 < n / 40
  ·rw [decide_eq_true h2]
   exact ⟨2, rfl, by omega, by omega, by simp, by omega⟩
  ·rw [decide_eq_false h2]
   exact ⟨n / 40, rfl, by omega, by omega, by simp; omega, by omega⟩
theorem rl_go (R0 : Option Out) (K : Nat -> List Int -> Option Out) : ∀ (ps : List (Int × Bool)) (o : List Int), (∀ p ∈ ps, 0 <= p.1 /\ p.1 <= 4294967295) -> o.length <= 24 ->
  rlOParse_3 (fun _ _ => R0) K (ps.map rowOf2) o.length o = match oidGo ps o with | some o' => K o'.length o' | none => R0
 | [], o, _, _ => rfl
 | (n, ok) :: ps, o, hp, ho => by
  have hn := hp (n, ok) (by simp)
  have ih := fun o' h => rl_go R0 K ps o' (fun p hp' => hp p (by simp [hp'])) h
  show rlOParse_3s (rlOParse_3 (fun _ _ => R0) K (ps.map rowOf2)) (fun _ _ => R0) K n ok o.length o = _
  unfold rlOParse_3s oidGo
  cases ok with
  | false => simp
  | true =>
   simp only [Bool.not_true, cond_false, Bool.true_eq_false, false_or]
   refine c_split (fun h => ?_) fun h => ?_
   ·rw [if_pos (by omega)]
   ·rw [if_neg (by omega)]
    refine c_split (fun h0 => ?_) fun h0 => ?_
    ·have : o = [] := List.eq_nil_of_length_eq_zero (by omega)
     subst this
     rw [if_pos rfl]
     obtain ⟨x, g1, g2, g3, g4, g5⟩ := first_min hn.1 hn.2
     rw [show IntKind.u32.wrap (Int.tdiv n 40) = n / 40 by rw [Int.tdiv_eq_ediv_of_nonneg hn.1]; exact u32_in _ (by simp only at hn; omega)]
     rw [g1, show IntKind.u32.wrap (40 * x) = 40 * x from u32_in _ (by omega), show IntKind.u32.wrap (n - 40 * x) = n - 40 * x from u32_in _ (by simp only at hn; omega)]
     rw [List.nil_append, List.cons_append, List.nil_append]
     rw [g4]
     have hlen : (oidFirstC n).length = 2 := by rw [<- g4]; rfl
     refine lim_in (by simp) (lim_in (by simp) (lim_in (by rw [hlen]; simp) (lim_in (by rw [hlen]; simp) (ih (oidFirstC n) (by omega)))))
    ·rw [if_neg (by intro e; subst e; simp at h0)]
     refine lim_in (by simp only [List.length_append, List.length_cons, List.length_nil]; omega) (lim_in (by simp only [List.length_append, List.length_cons, List.length_nil]; omega) (ih _ (by simp only [List.length_append, List.length_cons, List.length_nil]; omega)))
theorem nums_rng : ∀ (n : Nat) (b : List Int), bytesOk b = true -> ∀ p ∈ oidNumsF n b, 0 <= p.1 /\ p.1 <= 4294967295
 | 0, b, _, p, hp => by simp [oidNumsF] at hp
 | n + 1, b, hb, p, hp => by
  have hr := (number_rng hb).1
  unfold oidNumsF at hp
  split at hp
  ·simp at hp
  ·split at hp
   ·simp at hp; subst hp; exact hr
   ·rcases List.mem_cons.1 hp with rfl | hp
    ·exact hr
    ·exact nums_rng n _ (bytesOk_drop hb _) p hp
theorem nOParse (b : List Int) (hp : bytesOk b = true) : gOParse b = some (.ret [.cl (.sli .u32 (oidParse b).1), .cl (.int .i64 (oidParse b).2)] []) := by
 unfold gOParse
 refine b_pos hp (b_pos ?_ ?_)
 ·unfold oidRows
  rw [shut_eq, List.all_map, List.all_eq_true]
  intro p _
  rfl
 ·unfold oidRows oidNums oidParse oidParseC oidFit
  simp only [shut_eq]
  refine (rl_go _ _ (oidNumsC b) [] (nums_rng _ b hp) (by simp)).trans ?_
  cases oidGo (oidNumsC b) [] with
  | none => rfl
  | some o =>
   show cond (!(oidFitC o)) _ _ = _
   cases h : oidFitC o <;> simp [h]

/-! ### as the document reads them -/
def oidPush (o : List Int) (n : Int) : List Int := if o = [] then oidFirstC n else o ++ [n]
def refGo : Int -> Bool -> List Int -> List Int -> Option (List Int)
 | _, fresh, [], o => if fresh = true then some o else none
 | n, fresh, c :: r, o => if fresh = true /\ c = 128 then none else if 4294967295 < n * 128 + c % 128 then none else if c < 128 then refGo 0 true r (oidPush o (n * 128 + c % 128)) else refGo (n * 128 + c % 128) false r o
def oidFin : Option (List Int) -> List Int × Int
 | some o => if oidFitC o = true then (o, 0) else ([], 5)
 | none => ([], 5)
theorem push_len (o : List Int) (n : Int) : o.length <= (oidPush o n).length := by
 unfold oidPush
 split
 ·rename_i h; subst h; simp
 ·simp
theorem refGo_len : ∀ (b : List Int) (n : Int) (fresh : Bool) (o o' : List Int), refGo n fresh b o = some o' -> o.length <= o'.length
 | [], n, fresh, o, o', h => by
  unfold refGo at h
  split at h
  ·simp at h; subst h; exact Nat.le_refl _
  ·cases h
 | c :: r, n, fresh, o, o', h => by
  unfold refGo at h
  split at h
  ·cases h
  ·split at h
   ·cases h
   ·split at h
    ·exact Nat.le_trans (push_len o _) (refGo_len r _ _ _ _ h)
    ·exact refGo_len r _ _ _ _ h
theorem refGo_cons (n : Int) (fresh : Bool) (c : Int) (r o : List Int) : refGo n fresh (c :: r) o = if fresh = true /\ c = 128 then none else if 4294967295 < n * 128 + c % 128 then none else if c < 128 then refGo 0 true r (oidPush o (n * 128 + c % 128)) else refGo (n * 128 + c % 128) false r o := rfl
theorem numG_cons (n i c : Int) (r : List Int) : oidNumG n i (c :: r) = if (i = 0 /\ c = 128) \/ 33554431 < n then (0, 0) else if c < 128 then (n * 128 + c, i + 1) else oidNumG (n * 128 + (c - 128)) (i + 1) r := rfl
theorem refGo_num : ∀ (b : List Int) (n i : Int) (fresh : Bool) (o : List Int), (∀ x ∈ b, 0 <= x /\ x <= 255) -> 0 <= n -> 0 <= i -> (fresh = true ↔ i = 0) -> (b = [] -> fresh = false) ->
  refGo n fresh b o = if (oidNumG n i b).2 = 0 then none else refGo 0 true (b.drop ((oidNumG n i b).2 - i).toNat) (oidPush o (oidNumG n i b).1)
 | [], n, i, fresh, o, _, _, _, _, h => by simp [refGo, oidNumG, h rfl]
 | c :: r, n, i, fresh, o, hb, hn, hi, hf, _ => by
  have hc := hb c (by simp)
  rw [refGo_cons, numG_cons]
  by_cases h1 : fresh = true /\ c = 128
  ·rw [if_pos h1, if_pos (show (i = 0 /\ c = 128) \/ 33554431 < n from .inl ⟨hf.1 h1.1, h1.2⟩)]; rfl
  ·rw [if_neg h1]
   by_cases h2 : 33554431 < n
   ·rw [if_pos (by omega), if_pos (show (i = 0 /\ c = 128) \/ 33554431 < n from .inr h2)]; rfl
   ·rw [if_neg (by omega), if_neg (show ¬((i = 0 /\ c = 128) \/ 33554431 < n) from fun h => h.elim (fun h => h1 ⟨hf.2 h.1, h.2⟩) h2)]
    by_cases h3 : c < 128
    ·rw [if_pos h3, if_pos h3, show c % 128 = c by omega]
     simp only
     rw [if_neg (by omega), show (i + 1 - i).toNat = 1 by omega]
     rfl
    ·rw [if_neg h3, if_neg h3, show c % 128 = c - 128 by omega]
     rw [refGo_num r (n * 128 + (c - 128)) (i + 1) false o (fun x hx => hb x (by simp [hx])) (by omega) (by omega) (by simp; omega) (fun _ => rfl)]
     have hr := numG_rng r (n * 128 + (c - 128)) (i + 1) (fun x hx => hb x (by simp [hx])) (by omega) (by omega)
     by_cases h4 : (oidNumG (n * 128 + (c - 128)) (i + 1) r).2 = 0
     ·rw [if_pos h4, if_pos h4]
     ·rw [if_neg h4, if_neg h4]
      have hr2 := hr.2.resolve_left h4
      rw [show ((oidNumG (n * 128 + (c - 128)) (i + 1) r).2 - i).toNat = ((oidNumG (n * 128 + (c - 128)) (i + 1) r).2 - (i + 1)).toNat + 1 by omega, List.drop_succ_cons]
theorem fin_long {o : List Int} (h : 20 < o.length) : oidFin (some o) = ([], 5) := by
 unfold oidFin
 have : oidFitC o = false := by
  match o, h with
  | x :: y :: r, h => simp only [oidFitC]; simp only [List.length_cons] at h; rw [show decide (r.length <= 18) = false from decide_eq_false (by omega)]; rfl
  | [x], h => simp at h
  | [], h => simp at h
 show (if oidFitC o = true then (o, 0) else ([], 5) : List Int × Int) = _
 rw [this]; rfl
theorem ref_eq : ∀ (n : Nat) (b : List Int), bytesOk b = true -> b.length <= n -> ∀ o, oidFin (refGo 0 true b o) = oidFin (oidGo (oidNumsF n b) o)
 | 0, b, _, h, o => by
  have : b = [] := List.eq_nil_of_length_eq_zero (by omega)
  subst this; rfl
 | n + 1, b, hb, h, o => by
  unfold oidNumsF
  by_cases he : b = []
  ·subst he; rfl
  ·rw [if_neg he]
   have hr := number_rng hb
   have hnum := refGo_num b 0 0 true o (bytesOk_spec hb).2 (by omega) (by omega) (by simp) (fun h => absurd h he)
   rw [show oidNumG 0 0 b = oidNumberC b from rfl] at hnum
   by_cases h0 : (oidNumberC b).2 = 0
   ·rw [if_pos h0, hnum, if_pos h0]
    simp [oidGo]
   ·rw [if_neg h0, hnum, if_neg h0]
    have hr2 := hr.2.resolve_left h0
    conv => rhs; unfold oidGo
    by_cases hlong : 20 < o.length
    ·rw [if_pos (.inr hlong)]
     cases hg : refGo 0 true (List.drop ((oidNumberC b).2 - 0).toNat b) (oidPush o (oidNumberC b).1) with
     | none => rfl
     | some o' =>
      rw [fin_long (by have := refGo_len _ _ _ _ _ hg; have := push_len o (oidNumberC b).1; omega)]
      rfl
    ·rw [if_neg (by rintro (h | h); cases h; exact hlong h), Int.sub_zero]
     rw [ref_eq n _ (bytesOk_drop hb _) (by simp only [List.length_drop]; omega)]
     unfold oidPush
     split <;> rfl
theorem r2_lp (b : List Int) (hb : bytesOk b = true) : ∀ (f i : Nat) (n : Int) (fresh : Bool) (o : List Int), i <= b.length -> b.length < f + i -> 0 <= n -> n <= 4294967295 -> o.length <= 2 + i ->
  lpR2Parse_5 (fun _ _ _ _ _ _ _ _ _ _ _ _ _ _ _ _ => some (.ret [.cl (.sli .u32 []), .cl (.int .i64 5)] [])) (fun _ _ _ _ _ _ _ _ _ _ _ _ _ _ _ _ _ _ _ _ _ _ _ _ _ _ _ _ _ _ _ _ _ => some (.ret [.cl (.sli .u32 []), .cl (.int .i64 5)] [])) (fun _ _ _ _ _ _ _ _ _ _ _ _ _ _ _ _ _ _ _ _ _ _ _ _ _ _ _ => some (.ret [.cl (.sli .u32 []), .cl (.int .i64 5)] []))
   (fun _ _ _ y80 _ _ _ _ y85 => cond (!y80) (some (.ret [.cl (.sli .u32 []), .cl (.int .i64 5)] [])) (let r86 : Bool := oidFit y85; cond (!r86) (some (.ret [.cl (.sli .u32 []), .cl (.int .i64 5)] [])) (some (.ret [.cl (.sli .u32 y85), .cl (.int .i64 0)] [])))) f b o.length n fresh i o =
   some (.ret [.cl (.sli .u32 (oidFin (refGo n fresh (b.drop i) o)).1), .cl (.int .i64 (oidFin (refGo n fresh (b.drop i) o)).2)] [])
 | 0, i, n, fresh, o, hi, hf, _, _, _ => by omega
 | f + 1, i, n, fresh, o, hi, hf, h0, h1, ho => by
  have ih := fun n fresh o h0 h1 ho hi => r2_lp b hb f (i + 1) n fresh o hi (by omega) h0 h1 ho
  have hl := (bytesOk_spec hb).1
  generalize hag : lpR2Parse_5 (fun _ _ _ _ _ _ _ _ _ _ _ _ _ _ _ _ => some (.ret [.cl (.sli .u32 []), .cl (.int .i64 5)] [])) (fun _ _ _ _ _ _ _ _ _ _ _ _ _ _ _ _ _ _ _ _ _ _ _ _ _ _ _ _ _ _ _ _ _ => some (.ret [.cl (.sli .u32 []), .cl (.int .i64 5)] [])) (fun _ _ _ _ _ _ _ _ _ _ _ _ _ _ _ _ _ _ _ _ _ _ _ _ _ _ _ => some (.ret [.cl (.sli .u32 []), .cl (.int .i64 5)] []))
   (fun _ _ _ y80 _ _ _ _ y85 => cond (!y80) (some (.ret [.cl (.sli .u32 []), .cl (.int .i64 5)] [])) (let r86 : Bool := oidFit y85; cond (!r86) (some (.ret [.cl (.sli .u32 []), .cl (.int .i64 5)] [])) (some (.ret [.cl (.sli .u32 y85), .cl (.int .i64 0)] [])))) f = ag at ih
  show lpR2Parse_5s (lpR2Parse_5 _ _ _ _ f) _ _ _ _ b o.length n fresh i o = _
  rw [hag]
  unfold lpR2Parse_5s
  refine c_split (fun h => ?_) fun h => ?_
  ·obtain ⟨c, hc⟩ := get_some (b := b) (i := i) (by omega)
   have hcr := bytesOk_at hb hc
   rw [drop_cons hc]
   have ti : (i : Int).toNat = i := rfl
   have main : cond (decide ((4294967295 : Int) < n * 128 + c % 128)) (some (.ret [.cl (.sli .u32 []), .cl (.int .i64 5)] [])) (cond (!(decide (c < 128))) (ag b o.length (n * 128 + c % 128) (decide (c < 128)) ((i + 1 : Nat) : Int) o)
     (cond (decide (((o.length : Nat) : Int) = 0)) (cond (u32Ok (n * 128 + c % 128)) (cond (Nat.ble ((o ++ oidFirst (n * 128 + c % 128)).length * 4) LIMN) (cond (Nat.ble ((o ++ oidFirst (n * 128 + c % 128)).length) LIMN) (ag b (o ++ oidFirst (n * 128 + c % 128)).length 0 (decide (c < 128)) ((i + 1 : Nat) : Int) (o ++ oidFirst (n * 128 + c % 128))) none) none) none)
      (cond (Nat.ble ((o ++ [IntKind.u32.wrap (n * 128 + c % 128)]).length * 4) LIMN) (cond (Nat.ble ((o ++ [IntKind.u32.wrap (n * 128 + c % 128)]).length) LIMN) (ag b (o ++ [IntKind.u32.wrap (n * 128 + c % 128)]).length 0 (decide (c < 128)) ((i + 1 : Nat) : Int) (o ++ [IntKind.u32.wrap (n * 128 + c % 128)])) none) none))) =
     some (.ret [.cl (.sli .u32 (oidFin (if 4294967295 < n * 128 + c % 128 then none else if c < 128 then refGo 0 true (b.drop (i + 1)) (oidPush o (n * 128 + c % 128)) else refGo (n * 128 + c % 128) false (b.drop (i + 1)) o)).1), .cl (.int .i64 (oidFin (if 4294967295 < n * 128 + c % 128 then none else if c < 128 then refGo 0 true (b.drop (i + 1)) (oidPush o (n * 128 + c % 128)) else refGo (n * 128 + c % 128) false (b.drop (i + 1)) o)).2)] []) := by
    refine c_split (fun h2 => ?_) fun h2 => ?_
    ·rw [if_pos h2]; rfl
    ·rw [if_neg h2]
     by_cases h3 : c < 128
     ·rw [if_pos h3, decide_eq_true h3]
      simp only [Bool.not_true, cond_false]
      unfold oidPush
      refine c_split (fun h4 => ?_) fun h4 => ?_
      ·have : o = [] := List.eq_nil_of_length_eq_zero (by omega)
       subst this
       rw [if_pos rfl]
       have hok : u32Ok (n * 128 + c % 128) = true := by unfold u32Ok; rw [shut_eq]; exact decide_eq_true (by omega)
       have e1 : oidFirst (n * 128 + c % 128) = oidFirstC (n * 128 + c % 128) := by unfold oidFirst; rw [shut_eq]
       have hlen : (oidFirstC (n * 128 + c % 128)).length = 2 := by unfold oidFirstC; split <;> rfl
       rw [e1, List.nil_append]
       exact b_pos hok (lim_in (by rw [hlen]; simp) (lim_in (by rw [hlen]; simp) (ih _ _ _ (by omega) (by omega) (by omega) (by omega))))
      ·rw [if_neg (by intro e; subst e; simp at h4), show IntKind.u32.wrap (n * 128 + c % 128) = n * 128 + c % 128 from u32_in _ (by omega)]
       refine lim_in (by simp only [List.length_append, List.length_cons, List.length_nil]; omega) (lim_in (by simp only [List.length_append, List.length_cons, List.length_nil]; omega) (ih _ _ _ (by omega) (by omega) (by simp only [List.length_append, List.length_cons, List.length_nil]; omega) (by omega)))
     ·rw [if_neg h3, decide_eq_false h3]
      simp only [Bool.not_false, cond_true]
      exact ih _ _ _ (by omega) (by omega) (by omega) (by omega)
   have wi : IntKind.i64.wrap ((i : Int) + 1) = ((i + 1 : Nat) : Int) := (i64_in _ (by omega)).trans (by omega)
   have wn : IntKind.u64.wrap (n * 128) = n * 128 := u64_in _ (by omega)
   have wm : Int.tmod c 128 = c % 128 := Int.tmod_eq_emod_of_nonneg hcr.1
   have wc : IntKind.u64.wrap (c % 128) = c % 128 := u64_in _ (by omega)
   have ws : IntKind.u64.wrap (n * 128 + c % 128) = n * 128 + c % 128 := u64_in _ (by omega)
   conv => rhs; unfold refGo
   cases fresh with
   | true =>
    simp only [cond_true, true_and]
    refine c_pos (by omega) (c_pos h ?_)
    simp only [ti, hc, Option.bind_some]
    refine c_split (fun h5 => ?_) fun h5 => ?_
    ·rw [if_pos h5]; rfl
    ·rw [if_neg h5, wm, wc, wn, ws, wi]
     refine c_pos (by omega) (c_pos h (c_pos (by omega) (c_pos h main)))
   | false =>
    simp only [cond_false, Bool.false_eq_true, false_and, if_false]
    refine c_pos (by omega) (c_pos h ?_)
    simp only [ti, hc, Option.bind_some]
    rw [wm, wc, wn, ws, wi]
    exact c_pos (by omega) (c_pos h main)
  ·rw [drop_nil (by omega)]
   cases fresh with
   | false => rfl
   | true =>
    show cond (!true) _ (cond (!(oidFit o)) _ _) = _
    unfold oidFit
    rw [shut_eq]
    show _ = some (Out.ret [.cl (.sli .u32 (if oidFitC o = true then (o, 0) else ([], 5) : List Int × Int).1), .cl (.int .i64 (if oidFitC o = true then (o, 0) else ([], 5) : List Int × Int).2)] [])
    cases oidFitC o <;> rfl
theorem nR2Parse (b : List Int) (hp : bytesOk b = true) : gR2Parse b = some (.ret [.cl (.sli .u32 (oidParse b).1), .cl (.int .i64 (oidParse b).2)] []) := by
 unfold gR2Parse oidParse
 simp only [shut_eq]
 refine (r2_lp b hp FUEL 0 0 true [] (by omega) (by have := (bytesOk_spec hp).1; unfold FUEL; omega) (by omega) (by omega) (by simp)).trans ?_
 rw [List.drop_zero, ref_eq b.length b hp (Nat.le_refl _)]
 have : oidFin (oidGo (oidNumsF b.length b) []) = oidParseC b := by unfold oidFin oidParseC oidNumsC; rfl
 rw [this]
end Go.Proofs.YtfkpjbbkdkcdcaaDoorA

namespace Go.Proofs.YtfkpjbbkdkcdcaaDoorA
open IntWalk (i64_in u8_in u32_in u64_in i64_quo u8_quo rem_in)

theorem deepOk_spec {n : Int} (h : deepOk n = true) : 0 <= n /\ n <= 1000 := by
 unfold deepOk at h; rw [shut_eq] at h; exact of_decide_eq_true h
theorem deepOk_of {n : Int} (h : 0 <= n /\ n <= 1000) : deepOk n = true := by
 unfold deepOk; rw [shut_eq]; exact decide_eq_true h

theorem nDFits (tag : Int) (b : List Int) (hp : bytesOk b = true) : gDFits tag b = some (.ret [.cl (.bool (derFits tag b))] []) := by
 unfold gDFits derFits derFitsC derNumber derStrip oidParse u8Valid
 simp only [shut_eq]
 refine c_split (fun h => ?_) fun h => ?_
 ·rw [if_pos h]
  match b, hp with
  | [], _ => rfl
  | [x], _ =>
   refine c_pos (by simp) (c_pos (by simp) ?_)
   simp only [List.getElem?_cons_zero, Option.bind_some]
   refine c_split (fun h => ret_bool ?_) fun h => c_pos (by simp) (ret_bool ?_)
   ·simp [h]
   ·simp [h]
  | x :: y :: r, _ => exact c_neg (by simp only [List.length_cons]; omega) (ret_bool (by simp))
 ·rw [if_neg h]
  refine c_split (fun h => ?_) fun h => ?_
  ·rw [if_pos h]; exact b_pos hp rfl
  ·rw [if_neg h]
   refine c_split (fun h => ?_) fun h => ?_
   ·rw [if_pos h]; exact b_pos hp rfl
   ·rw [if_neg h]
    refine c_split (fun h => ?_) fun h => ?_
    ·rw [if_pos h]
     refine ret_bool ?_
     rw [Bool.eq_iff_iff]
     simp only [decide_eq_true_eq]
     cases b <;> simp
     omega
    ·rw [if_neg h]
     refine c_split (fun h => ?_) fun h => ?_
     ·rw [if_pos h]; exact b_pos hp rfl
     ·rw [if_neg h]
      refine c_split (fun h => ?_) fun h => ?_
      ·rw [if_pos h]; exact b_pos hp rfl
      ·rw [if_neg h]
       refine c_split (fun h => ?_) fun h => ?_
       ·rw [if_pos h]
       ·rw [if_neg h]
theorem nRFits (tag : Int) (b : List Int) (hp : bytesOk b = true) : gRFits tag b = some (.ret [.cl (.bool (derFits tag b))] []) := nDFits tag b hp

theorem rowsOk_map {l : List (List Int)} (h1 : l.length <= 1000000) (h2 : ∀ x ∈ l, rowB x = true) : rowsOk (l.map (CV.sli .u8)) = true := by
 unfold rowsOk
 rw [shut_eq]
 simp only [Bool.and_eq_true, decide_eq_true_eq, List.all_eq_true, List.length_map, List.mem_map]
 refine ⟨h1, fun x hx => ?_⟩
 obtain ⟨y, hy, rfl⟩ := hx
 exact h2 y hy
theorem rowsSorted_map (l : List (List Int)) : rowsSorted (l.map (CV.sli .u8)) = rowsSortedC l := by
 unfold rowsSorted
 rw [shut_eq, List.map_map]
 congr 1
 exact (List.map_congr_left fun x _ => rfl).trans (List.map_id l)

end Go.Proofs.YtfkpjbbkdkcdcaaDoorA

namespace Go.Proofs.YtfkpjbbkdkcdcaaDoorA
open IntWalk (i64_in u8_in u32_in u64_in i64_quo u8_quo rem_in)

/-! ### are two the same? -/
theorem nd_inv : ∀ {n : Nat} {x : List CV}, isNf n x = true -> ∃ m t b l, n = m + 1 /\ x = [.int .i64 t, .sli .u8 b, .slg 3 l] /\ b.length <= 100000000 /\ l.length <= 100000000 /\ ∀ c ∈ l, ∃ y, c = .agg y /\ isNf m y = true
 | 0, x, h => by simp [isNf] at h
 | n + 1, x, h => by
  unfold isNf at h
  split at h
  ·exact absurd h Bool.false_ne_true
  ·rename_i n' t b l hn
   obtain rfl : n = n' := by omega
   simp only [Bool.and_eq_true, decide_eq_true_eq, List.all_eq_true] at h
   refine ⟨n, t, b, l, rfl, rfl, h.1, h.2.1, fun c hc => ?_⟩
   have := h.2.2 c hc
   split at this
   ·exact ⟨_, rfl, this⟩
   ·exact absurd this Bool.false_ne_true
  ·exact absurd h Bool.false_ne_true
theorem nd_mk {n : Nat} {t : Int} {b : List Int} {l : List CV} (h1 : b.length <= 100000000) (h2 : l.length <= 100000000) (h3 : ∀ c ∈ l, ∃ y, c = .agg y /\ isNf n y = true) : isNf (n + 1) [.int .i64 t, .sli .u8 b, .slg 3 l] = true := by
 show (decide (b.length <= 100000000) && (decide (l.length <= 100000000) && l.all fun c => match c with | .agg x => isNf n x | _ => false)) = true
 simp only [Bool.and_eq_true, decide_eq_true_eq, List.all_eq_true]
 refine ⟨h1, h2, fun c hc => ?_⟩
 obtain ⟨y, rfl, hy⟩ := h3 c hc
 exact hy
theorem isNr_spec {n : Nat} {x : List CV} (h : isNr n x = true) : isNf n x = true := by unfold isNr at h; rwa [shut_eq] at h
theorem isNr_of {n : Nat} {x : List CV} (h : isNf n x = true) : isNr n x = true := by unfold isNr; rwa [shut_eq]
theorem isN_spec {x : List CV} (h : isN x = true) : ∃ n, isNf n x = true := by
 unfold isN at h; rw [shut_eq] at h; exact @of_decide_eq_true _ (Classical.propDecidable _) h
theorem isN_of {n : Nat} {x : List CV} (h : isNf n x = true) : isN x = true := by
 unfold isN; rw [shut_eq]; exact @decide_eq_true _ (Classical.propDecidable _) ⟨n, h⟩
theorem ndSame_true {a b : List CV} : ndSame a b = true ↔ a = b := by
 unfold ndSame; rw [shut_eq]; exact @decide_eq_true_iff _ (Classical.propDecidable _)
theorem ndSame_false {a b : List CV} : ndSame a b = false ↔ ¬a = b := by
 rw [<- Bool.not_eq_true, ndSame_true]

theorem same_nd_lp (rk : Nat) (k0 : Int -> Int -> List CV -> Int -> List CV -> Int -> List CV -> Nat -> Int -> List Int -> List CV -> List CV -> Int -> List CV -> Nat -> Int -> List Int -> List CV -> Bool -> Int -> List Int -> List CV -> Int -> List Int -> List CV -> Option Out) (k1 : Int -> Int -> List CV -> Int -> Int -> List Int -> List CV -> Int -> List Int -> List CV -> Option Out)
  (R : Bool -> Option Out) (ta tb : Int) (ba bb : List Int) (ka kb : List CV) (hk0 : k0 = (fun _ _ _ _ _ _ _ _ _ _ _ _ _ _ _ _ _ _ _ _ _ _ _ _ _ => R false)) (hk1 : k1 = (fun _ _ _ _ _ _ _ _ _ _ => R true))
  (hl : ka.length = kb.length) (hka : ka.length <= 100000000) (h1 : ∀ c ∈ ka, ∃ y, c = .agg y /\ isNf rk y = true) (n : Nat) (h2 : ∀ c ∈ kb, ∃ y, c = .agg y /\ isNf n y = true) : ∀ (f i : Nat), i <= ka.length -> ka.length < f + i ->
  lpRSame_4 rk k0 k1 f i ta ba ka tb bb kb = R (@decide (ka.drop i = kb.drop i) (Classical.propDecidable _))
 | 0, i, hi, hf => by omega
 | f + 1, i, hi, hf => by
  show lpRSame_4s rk (lpRSame_4 rk k0 k1 f) k0 k1 i ta ba ka tb bb kb = _
  unfold lpRSame_4s
  refine c_split (fun h => ?_) fun h => ?_
  ·obtain ⟨x, hx⟩ := get_some (b := ka) (i := i) (by omega)
   obtain ⟨y, hy⟩ := get_some (b := kb) (i := i) (by omega)
   obtain ⟨x', rfl, hx'⟩ := h1 x (List.mem_of_getElem? hx)
   obtain ⟨y', rfl, hy'⟩ := h2 y (List.mem_of_getElem? hy)
   refine c_pos (by omega) (c_pos h ?_)
   rw [show (i : Int).toNat = i from rfl, hx, Option.bind_some]
   obtain ⟨m, t, b, l, hm, hxe, _⟩ := nd_inv hx'
   obtain ⟨m', t', b', l', hm', hye, _⟩ := nd_inv hy'
   simp only [cell1, hxe, hye, List.headD_cons, List.tail_cons]
   refine b_pos rfl (c_pos (by omega) (c_pos (by omega) ?_))
   rw [hy, Option.bind_some]
   simp only [cell1, hxe, hye, List.headD_cons, List.tail_cons]
   refine b_pos rfl (b_pos ?_ ?_)
   ·simp only [Bool.and_eq_true]
    exact ⟨isNr_of (hxe ▸ hx'), isN_of (n := n) (hye ▸ hy')⟩
   have ed : (ka.drop i = kb.drop i) = (x' = y' /\ ka.drop (i + 1) = kb.drop (i + 1)) := by
    have ex : ka.drop i = .agg x' :: ka.drop (i + 1) := by
     obtain ⟨hlt, e⟩ := List.getElem?_eq_some_iff.1 hx
     rw [List.drop_eq_getElem_cons hlt, e]
    have ey : kb.drop i = .agg y' :: kb.drop (i + 1) := by
     obtain ⟨hlt, e⟩ := List.getElem?_eq_some_iff.1 hy
     rw [List.drop_eq_getElem_cons hlt, e]
    rw [ex, ey, List.cons.injEq, CV.agg.injEq]
   refine b_split (fun h5 => ?_) fun h5 => ?_
   ·rw [hk0]
    have h5 : ¬x' = y' := by rw [hxe, hye]; exact ndSame_false.1 (by simpa [cvInt, cvSli, cvSlg] using h5)
    show R false = _
    congr 1
    symm
    rw [@decide_eq_false_iff_not _ (Classical.propDecidable _), ed]
    exact fun e => h5 e.1
   ·have h5 : x' = y' := by rw [hxe, hye]; exact ndSame_true.1 (by simpa [cvInt, cvSli, cvSlg] using h5)
    rw [show IntKind.i64.wrap ((i : Int) + 1) = ((i + 1 : Nat) : Int) from (i64_in _ (by omega)).trans (by omega)]
    refine (same_nd_lp rk k0 k1 R ta tb ba bb ka kb hk0 hk1 hl hka h1 n h2 f (i + 1) (by omega) (by omega)).trans ?_
    congr 1
    rw [Bool.eq_iff_iff, @decide_eq_true_iff _ (Classical.propDecidable _), @decide_eq_true_iff _ (Classical.propDecidable _), ed]
    exact ⟨fun e => ⟨h5, e⟩, fun e => e.2⟩
  ·rw [hk1]
   show R true = _
   congr 1
   symm
   rw [@decide_eq_true_iff _ (Classical.propDecidable _), List.drop_eq_nil_of_le (by omega), List.drop_eq_nil_of_le (by omega)]
theorem nRSame (rk : Nat) (ta : Int) (ba : List Int) (ka : List CV) (tb : Int) (bb : List Int) (kb : List CV) (hp : (isNr (rk + 1) [.int .i64 ta, .sli .u8 ba, .slg 3 ka] && isN [.int .i64 tb, .sli .u8 bb, .slg 3 kb]) = true) : gRSame rk ta ba ka tb bb kb = some (.ret [.cl (.bool (ndSame [.int .i64 ta, .sli .u8 ba, .slg 3 ka] [.int .i64 tb, .sli .u8 bb, .slg 3 kb]))] []) := by
 simp only [Bool.and_eq_true] at hp
 obtain ⟨m, t, b, l, hm, he, hb, hl, hc⟩ := nd_inv (isNr_spec hp.1)
 obtain ⟨n, hn⟩ := isN_spec hp.2
 obtain ⟨m', t', b', l', hm', he', hb', hl', hc'⟩ := nd_inv hn
 simp only [List.cons.injEq, CV.int.injEq, CV.sli.injEq, CV.slg.injEq, true_and, and_true] at he he'
 obtain ⟨rfl, rfl, rfl⟩ := he
 obtain ⟨rfl, rfl, rfl⟩ := he'
 obtain rfl : m = rk := by omega
 have bad : ¬(ta = tb /\ ba = bb /\ ka = kb) -> false = ndSame [.int .i64 ta, .sli .u8 ba, .slg 3 ka] [.int .i64 tb, .sli .u8 bb, .slg 3 kb] := fun h => by
  symm
  rw [ndSame_false]
  simp only [List.cons.injEq, CV.int.injEq, CV.sli.injEq, CV.slg.injEq, true_and, and_true]
  exact h
 unfold gRSame listSame listSameC
 simp only [shut_eq]
 refine c_nsplit (fun h => ret_bool (bad fun e => h e.1)) fun h => b_pos (lenOk_of hb) (c_nsplit (fun h1 => ret_bool (bad fun e => h1 e.2.1)) fun h1 => c_nsplit (fun h2 => ret_bool (bad fun e => h2 (by rw [e.2.2]))) fun h2 => ?_)
 refine (same_nd_lp m _ _ (fun b => some (.ret [.cl (.bool b)] [])) ta tb ba bb ka kb rfl rfl (by omega) hl hc m' hc' FUEL 0 (by omega) (by unfold FUEL; omega)).trans (ret_bool ?_)
 rw [Bool.eq_iff_iff, @decide_eq_true_iff _ (Classical.propDecidable _), ndSame_true]
 simp only [List.drop_zero, List.cons.injEq, CV.int.injEq, CV.sli.injEq, CV.slg.injEq, true_and, and_true]
 exact ⟨fun e => ⟨h, h1, e⟩, fun e => e.2.2⟩
end Go.Proofs.YtfkpjbbkdkcdcaaDoorA

namespace Go.Proofs.YtfkpjbbkdkcdcaaDoorA
open IntWalk (i64_in u8_in u32_in u64_in i64_quo u8_quo rem_in)

end Go.Proofs.YtfkpjbbkdkcdcaaDoorA

namespace Go.Proofs.YtfkpjbbkdkcdcaaDoorA
open IntWalk (i64_in u8_in u32_in u64_in i64_quo u8_quo rem_in)

/-! ### ranks -/
theorem tf_inv : ∀ {n : Nat} {x : List CV}, isTf n x = true -> ∃ m t b l, n = m + 1 /\ x = [.int .i64 t, .sli .u8 b, .slg 3 l] /\ (∀ z ∈ b, 0 <= z /\ z <= 255) /\ ∀ c ∈ l, ∃ y, c = .agg y /\ isTf m y = true
 | 0, x, h => by simp [isTf] at h
 | n + 1, x, h => by
  unfold isTf at h
  split at h
  ·exact absurd h Bool.false_ne_true
  ·rename_i n' t b l hn
   obtain rfl : n = n' := by omega
   simp only [Bool.and_eq_true, List.all_eq_true] at h
   refine ⟨n, t, b, l, rfl, rfl, fun z hz => byteB_spec (h.1 z hz), fun c hc => ?_⟩
   have := h.2 c hc
   split at this
   ·exact ⟨_, rfl, this⟩
   ·exact absurd this Bool.false_ne_true
  ·exact absurd h Bool.false_ne_true
theorem kids_congr {f g : List CV -> Int -> Int} : ∀ {l : List CV}, (∀ c ∈ l, ∀ x, f (cell1 c) x = g (cell1 c) x) -> ∀ x, kidsOf f l x = kidsOf g l x
 | [], _, x => rfl
 | c :: r, h, x => by
  simp only [kidsOf]
  split
  ·rfl
  ·rw [h c (List.mem_cons_self ..)]
   exact kids_congr (fun c' hc => h c' (List.mem_cons_of_mem _ hc)) _
theorem small_rk : ∀ {n m : Nat} {x : List CV}, isTf n x = true -> isTf m x = true -> ∀ z, smallF n x z = smallF m x z
 | n, m, x, hn, hm, z => by
  obtain ⟨n', t, b, l, rfl, rfl, _, hl⟩ := tf_inv hn
  obtain ⟨m', t', b', l', rfl, he, _, hl'⟩ := tf_inv hm
  simp only [List.cons.injEq, CV.int.injEq, CV.sli.injEq, CV.slg.injEq, true_and, and_true] at he
  obtain ⟨rfl, rfl, rfl⟩ := he
  show kidsOf (smallF n') l _ = kidsOf (smallF m') l _
  refine kids_congr (fun c hc x => ?_) _
  obtain ⟨y, rfl, hy⟩ := hl c hc
  obtain ⟨y', e, hy'⟩ := hl' _ hc
  cases e
  exact small_rk hy hy' x
theorem all_congr {f g : CV -> Bool} : ∀ {l : List CV}, (∀ c ∈ l, f c = g c) -> l.all f = l.all g
 | [], _ => rfl
 | c :: r, h => by rw [List.all_cons, List.all_cons, h c (List.mem_cons_self ..), all_congr fun c' hc => h c' (List.mem_cons_of_mem _ hc)]
theorem ok_rk : ∀ {n m : Nat} {x : List CV}, isTf n x = true -> isTf m x = true -> ∀ d, okF n d x = okF m d x
 | n, m, x, hn, hm, d => by
  obtain ⟨n', t, b, l, rfl, rfl, _, hl⟩ := tf_inv hn
  obtain ⟨m', t', b', l', rfl, he, _, hl'⟩ := tf_inv hm
  simp only [List.cons.injEq, CV.int.injEq, CV.sli.injEq, CV.slg.injEq, true_and, and_true] at he
  obtain ⟨rfl, rfl, rfl⟩ := he
  cases d with
  | zero => rfl
  | succ d =>
   show (derKnownC t && (if derBoxedC t = true then decide (b = []) && l.all fun c => okF n' d (cell1 c) else decide (l = []) && derFitsC t b)) = (derKnownC t && (if derBoxedC t = true then decide (b = []) && l.all fun c => okF m' d (cell1 c) else decide (l = []) && derFitsC t b))
   have : (l.all fun c => okF n' d (cell1 c)) = l.all fun c => okF m' d (cell1 c) := all_congr fun c hc => by
    obtain ⟨y, rfl, hy⟩ := hl c hc
    obtain ⟨y', e, hy'⟩ := hl' _ hc
    cases e
    exact ok_rk hy hy' d
   rw [this]
theorem bytes_rk : ∀ {n m : Nat} {x : List CV}, isTf n x = true -> isTf m x = true -> bytesF n x = bytesF m x
 | n, m, x, hn, hm => by
  obtain ⟨n', t, b, l, rfl, rfl, _, hl⟩ := tf_inv hn
  obtain ⟨m', t', b', l', rfl, he, _, hl'⟩ := tf_inv hm
  simp only [List.cons.injEq, CV.int.injEq, CV.sli.injEq, CV.slg.injEq, true_and, and_true] at he
  obtain ⟨rfl, rfl, rfl⟩ := he
  have : (l.map fun c => bytesF n' (cell1 c)) = l.map fun c => bytesF m' (cell1 c) := List.map_congr_left fun c hc => by
   obtain ⟨y, rfl, hy⟩ := hl c hc
   obtain ⟨y', e, hy'⟩ := hl' _ hc
   cases e
   exact bytes_rk hy hy'
  simp only [bytesF, this]
theorem rk_spec {a : List CV} {n : Nat} (h : isTf n a = true) : isTf (rkOf a) a = true := by
 unfold rkOf
 have hx : ∃ n, isTf n a = true := ⟨n, h⟩
 rw [@dif_pos _ (Classical.propDecidable _) hx]
 exact Classical.choose_spec hx
theorem isTr_spec {n : Nat} {x : List CV} (h : isTr n x = true) : isTf n x = true := by unfold isTr at h; rwa [shut_eq] at h
theorem isTr_of {n : Nat} {x : List CV} (h : isTf n x = true) : isTr n x = true := by unfold isTr; rwa [shut_eq]
theorem isT_spec {x : List CV} (h : isT x = true) : ∃ n, isTf n x = true := by
 unfold isT at h; rw [shut_eq] at h; exact @of_decide_eq_true _ (Classical.propDecidable _) h
theorem isSr_spec {n : Nat} {x : List CV} (h : isSr n x = true) : isTf n x = true /\ bulkF n x <= 30000 := by
 unfold isSr at h; rw [shut_eq] at h; simpa [Bool.and_eq_true] using h
theorem isSr_of {n : Nat} {x : List CV} (h : isTf n x = true) (h' : bulkF n x <= 30000) : isSr n x = true := by
 unfold isSr; rw [shut_eq]; simp [h, h']
theorem isS_spec {x : List CV} (h : isS x = true) : ∃ n, isTf n x = true /\ bulkF n x <= 30000 := by
 unfold isS at h; rw [shut_eq] at h; exact @of_decide_eq_true _ (Classical.propDecidable _) h
theorem isS_of {x : List CV} {n : Nat} (h : isTf n x = true) (h' : bulkF n x <= 30000) : isS x = true := by
 unfold isS; rw [shut_eq]; exact @decide_eq_true _ (Classical.propDecidable _) ⟨n, h, h'⟩
theorem isWr_spec {n : Nat} {x : List CV} (h : isWr n x = true) : isTf n x = true /\ bulkF n x <= 30000 /\ ∃ d, okF n d x = true := by
 unfold isWr at h; rw [shut_eq] at h; exact @of_decide_eq_true _ (Classical.propDecidable _) h
theorem isWr_of {n : Nat} {x : List CV} (h : isTf n x = true /\ bulkF n x <= 30000 /\ ∃ d, okF n d x = true) : isWr n x = true := by
 unfold isWr; rw [shut_eq]; exact @decide_eq_true _ (Classical.propDecidable _) h
theorem isW_of {x : List CV} {n : Nat} (h : isTf n x = true /\ bulkF n x <= 30000 /\ ∃ d, okF n d x = true) : isW x = true := by
 unfold isW; rw [shut_eq]; exact @decide_eq_true _ (Classical.propDecidable _) ⟨n, h⟩
theorem ndSmall_eq {n : Nat} {a : List CV} (h : isTf n a = true) (z : Int) : ndSmall a z = smallF n a z := by
 unfold ndSmall; rw [shut_eq]; exact small_rk (rk_spec h) h z
theorem ndSize_eq {n : Nat} {a : List CV} (h : isTf n a = true) (d : Int) : ndSize a d = if okF n d.toNat a = true then ((bytesF n a).1.length : Int) else -1 := by
 unfold ndSize; rw [shut_eq, ok_rk (rk_spec h) h, bytes_rk (rk_spec h) h]
theorem ndWrite_eq {n : Nat} {a : List CV} (h : isTf n a = true) : ndWrite a = if (bytesF n a).2 = true then ((bytesF n a).1, true) else ([], false) := by
 unfold ndWrite; rw [shut_eq, bytes_rk (rk_spec h) h]
theorem ndWriteR_eq {n : Nat} {a : List CV} (h : isTf n a = true) (d : Int) : ndWriteR a d = if okF n d.toNat a = true /\ (bytesF n a).2 = true then ((bytesF n a).1, true) else ([], false) := by
 unfold ndWriteR; rw [shut_eq, ok_rk (rk_spec h) h, bytes_rk (rk_spec h) h]
theorem ndBytes_eq {n : Nat} {a : List CV} (h : isTf n a = true) : ndBytes a = if okF n 32 a = true /\ (bytesF n a).2 = true then ((bytesF n a).1, 0) else ([], 1) := by
 unfold ndBytes; rw [shut_eq, ok_rk (rk_spec h) h, bytes_rk (rk_spec h) h]
theorem ndFit_eq {n : Nat} {a : List CV} (h : isTf n a = true) : ndFit a = decide (okF n 32 a = true /\ (bytesF n a).2 = true) := by
 unfold ndFit; rw [shut_eq, ok_rk (rk_spec h) h, bytes_rk (rk_spec h) h]

/-! ### heads -/
theorem headOk_spec {tag n : Int} (h : headOk tag n = true) : (0 <= tag /\ tag <= 255) /\ 0 <= n /\ n < 16777216 := by
 unfold headOk at h; rw [shut_eq] at h; exact of_decide_eq_true h
theorem head_ret {l l' : List Int} {k : Nat} (h : l = l') (hk : k = l'.length) : some (Out.ret [.ref 0 0 k true 1] [some ⟨.ints .u8 l, false⟩]) = some (Out.ret [.ref 0 0 l'.length true 1] [some ⟨.ints .u8 l', false⟩]) := by rw [h, hk]
theorem nRHead (tag n : Int) (hp : headOk tag n = true) : gRHead tag n = some (.ret [.ref 0 0 (derHead tag n).length true 1] [some ⟨.ints .u8 (derHead tag n), false⟩]) := by
 obtain ⟨ht, hn⟩ := headOk_spec hp
 unfold gRHead derHead
 rw [shut_eq]
 unfold derHeadC
 have et : IntKind.u8.wrap tag = tag := u8_in _ (by omega)
 refine c_split (fun h => ?_) fun h => c_split (fun h2 => ?_) fun h2 => c_split (fun h3 => ?_) fun h3 => ?_
 ·rw [if_pos h]
  exact head_ret (by rw [et, show IntKind.u8.wrap n = n from u8_in _ (by omega)]) rfl
 ·rw [if_neg h, if_pos h2]
  exact head_ret (by rw [et, show IntKind.u8.wrap n = n from u8_in _ (by omega)]) rfl
 ·rw [if_neg h, if_neg h2, if_pos h3]
  refine head_ret ?_ rfl
  rw [et, Int.tdiv_eq_ediv_of_nonneg (by omega), Int.tmod_eq_emod_of_nonneg (by omega), show IntKind.i64.wrap (n / 256) = n / 256 from i64_in _ (by omega), show IntKind.u8.wrap (n / 256) = n / 256 from u8_in _ (by omega), show IntKind.u8.wrap (n % 256) = n % 256 from u8_in _ (by omega)]
 ·rw [if_neg h, if_neg h2, if_neg h3]
  refine head_ret ?_ rfl
  rw [et, Int.tdiv_eq_ediv_of_nonneg (by omega), Int.tdiv_eq_ediv_of_nonneg (by omega), show IntKind.i64.wrap (n / 256) = n / 256 from i64_in _ (by omega), show IntKind.i64.wrap (n / 65536) = n / 65536 from i64_in _ (by omega), Int.tmod_eq_emod_of_nonneg (by omega), Int.tmod_eq_emod_of_nonneg (by omega),
   show IntKind.u8.wrap (n / 65536) = n / 65536 from u8_in _ (by omega), show IntKind.u8.wrap (n / 256 % 256) = n / 256 % 256 from u8_in _ (by omega), show IntKind.u8.wrap (n % 256) = n % 256 from u8_in _ (by omega)]
end Go.Proofs.YtfkpjbbkdkcdcaaDoorA

namespace Go.Proofs.YtfkpjbbkdkcdcaaDoorA
open IntWalk (i64_in u8_in u32_in u64_in i64_quo u8_quo rem_in)

theorem u8_mod (n : Int) : IntKind.u8.wrap n = n % 256 := by simp [IntKind.wrap, IntKind.signed, IntKind.bits]
def putB (n : Int) : Nat -> List Int
 | 0 => []
 | c + 1 => n / 2 ^ (8 * c) % 256 :: putB n c
theorem put_lp (n : Int) (h0 : 0 <= n) (h1 : n < 16777216) : ∀ (c f : Nat) (l : List Int), c <= 3 -> c < f -> l.length + c <= 10 ->
  lpDPut_7 (fun y8 _ _ _ y12 => some (.ret [.ref 0 0 y8 true 1] [some ⟨.ints .u8 y12, false⟩])) f l.length n ((c : Int) - 1) l = some (.ret [.ref 0 0 (l ++ putB n c).length true 1] [some ⟨.ints .u8 (l ++ putB n c), false⟩])
 | c, 0, l, _, hf, _ => by omega
 | 0, f + 1, l, _, _, hl => by
  show lpDPut_7s (lpDPut_7 (fun y8 _ _ _ y12 => some (.ret [.ref 0 0 y8 true 1] [some ⟨.ints .u8 y12, false⟩])) f) (fun y8 _ _ _ y12 => some (.ret [.ref 0 0 y8 true 1] [some ⟨.ints .u8 y12, false⟩])) l.length n (((0 : Nat) : Int) - 1) l = _
  unfold lpDPut_7s
  refine c_neg (by omega) ?_
  simp only [putB, List.append_nil]
 | c + 1, f + 1, l, hc, hf, hl => by
  show lpDPut_7s (lpDPut_7 (fun y8 _ _ _ y12 => some (.ret [.ref 0 0 y8 true 1] [some ⟨.ints .u8 y12, false⟩])) f) (fun y8 _ _ _ y12 => some (.ret [.ref 0 0 y8 true 1] [some ⟨.ints .u8 y12, false⟩])) l.length n (((c + 1 : Nat) : Int) - 1) l = _
  unfold lpDPut_7s
  have e1 : ((c + 1 : Nat) : Int) - 1 = c := by omega
  rw [e1]
  refine c_pos (by omega) ?_
  simp only [show IntKind.i64.wrap ((8 : Int) * (c : Int)) = ((8 * c : Nat) : Int) from (i64_in _ (by omega)).trans (by omega)]
  refine c_neg (by omega) ?_
  have e2 : min ((8 * c : Nat) : Int).toNat 64 = 8 * c := by show min (8 * c) 64 = 8 * c; omega
  simp only [e2]
  have e3 : IntKind.u8.wrap (Int.fdiv n (2 ^ (8 * c))) = n / 2 ^ (8 * c) % 256 := by
   have hc2 : c = 0 \/ c = 1 \/ c = 2 := by omega
   rw [u8_mod]
   rcases hc2 with rfl | rfl | rfl <;> rw [Int.fdiv_eq_ediv_of_nonneg n (by decide)]
  rw [e3, show IntKind.i64.wrap ((c : Int) - 1) = (c : Int) - 1 from i64_in _ (by omega)]
  refine lim_in (by simp only [List.length_append, List.length_singleton]; omega) (lim_in (by simp only [List.length_append, List.length_singleton]; omega) ?_)
  refine (put_lp n h0 h1 c f _ (by omega) (by omega) (by simp only [List.length_append, List.length_singleton]; omega)).trans ?_
  simp only [putB, List.append_assoc, List.singleton_append]
theorem nDPut (tag n : Int) (hp : headOk tag n = true) : gDPut tag n = some (.ret [.ref 0 0 (derHead tag n).length true 1] [some ⟨.ints .u8 (derHead tag n), false⟩]) := by
 obtain ⟨ht, hn⟩ := headOk_spec hp
 unfold gDPut derHead derLenSize
 simp only [shut_eq]
 unfold derHeadC derLenSizeC
 have et : IntKind.u8.wrap tag = tag := u8_in _ (by omega)
 rw [et]
 by_cases h : n < 128
 ·rw [if_pos h, if_pos h, show IntKind.i64.wrap ((1 : Int) - 1) = 0 from i64_in _ (by omega), show IntKind.u8.wrap n = n from u8_in _ (by omega)]
  exact c_pos rfl rfl
 ·rw [if_neg h, if_neg h]
  have fin : ∀ c : Nat, 1 <= c -> c <= 3 -> ∀ l', [tag, 128 + (c : Int)] ++ putB n c = l' -> (cond (decide (IntKind.i64.wrap ((c : Int) + 1 - 1) = 0)) (some (Out.ret [.ref 0 0 2 true 1] [some ⟨.ints .u8 [tag, IntKind.u8.wrap n], false⟩])) (lpDPut_7 (fun y8 _ _ _ y12 => some (.ret [.ref 0 0 y8 true 1] [some ⟨.ints .u8 y12, false⟩])) FUEL 2 n (IntKind.i64.wrap (IntKind.i64.wrap ((c : Int) + 1 - 1) - 1)) [tag, IntKind.u8.wrap (IntKind.i64.wrap ((128 : Int) + IntKind.i64.wrap ((c : Int) + 1 - 1)))])) = some (Out.ret [.ref 0 0 l'.length true 1] [some ⟨.ints .u8 l', false⟩]) := fun c h1 h3 l' hl' => by
   rw [show IntKind.i64.wrap ((c : Int) + 1 - 1) = c from (i64_in _ (by omega)).trans (by omega), show IntKind.i64.wrap ((128 : Int) + c) = 128 + c from i64_in _ (by omega), show IntKind.u8.wrap ((128 : Int) + c) = 128 + c from u8_in _ (by omega), show IntKind.i64.wrap ((c : Int) - 1) = (c : Int) - 1 from i64_in _ (by omega)]
   refine c_neg (by omega) ((put_lp n hn.1 hn.2 c FUEL [tag, 128 + (c : Int)] h3 (by unfold FUEL; omega) (by simp only [List.length_cons, List.length_nil]; omega)).trans ?_)
   rw [hl']
  by_cases h2 : n < 256
  ·rw [if_pos h2, if_pos h2]
   refine fin 1 (by omega) (by omega) _ ?_
   show [tag, (129 : Int), n / 1 % 256] = _
   rw [show n / 1 % 256 = n by omega]
  ·rw [if_neg h2, if_neg h2]
   by_cases h3 : n < 65536
   ·rw [if_pos h3, if_pos h3]
    refine fin 2 (by omega) (by omega) _ ?_
    show [tag, (130 : Int), n / 256 % 256, n / 1 % 256] = _
    rw [show n / 256 % 256 = n / 256 by omega, show n / 1 % 256 = n % 256 by omega]
   ·rw [if_neg h3, if_neg h3]
    refine fin 3 (by omega) (by omega) _ ?_
    show [tag, (131 : Int), n / 65536 % 256, n / 256 % 256, n / 1 % 256] = _
    rw [show n / 65536 % 256 = n / 65536 by omega, show n / 1 % 256 = n % 256 by omega]

/-! ### joins -/
theorem rowCV_inv {c : CV} (h : rowCV c = true) : ∃ x, c = .sli .u8 x /\ rowB x = true := by
 unfold rowCV at h
 split at h
 ·exact ⟨_, rfl, h⟩
 ·exact absurd h Bool.false_ne_true
theorem joinOk_spec {l : List CV} (h : joinOk l = true) : l.length <= 1000000 /\ (∀ c ∈ l, ∃ x, c = .sli .u8 x) /\ (l.flatMap cvSli).length <= 1000000 := by
 unfold joinOk at h
 rw [shut_eq] at h
 simp only [Bool.and_eq_true, decide_eq_true_eq, List.all_eq_true] at h
 exact ⟨h.1, fun c hc => let ⟨x, e, _⟩ := rowCV_inv (h.2.1 c hc); ⟨x, e⟩, h.2.2⟩
theorem flat_drop_cons {l : List CV} {i : Nat} {x : List Int} (h : l[i]? = some (.sli .u8 x)) : (l.drop i).flatMap cvSli = x ++ (l.drop (i + 1)).flatMap cvSli := by
 obtain ⟨hlt, e⟩ := List.getElem?_eq_some_iff.1 h
 rw [List.drop_eq_getElem_cons hlt, e, List.flatMap_cons]
 rfl
theorem join_lp (l : List CV) (hl : l.length <= 1000000) (hall : ∀ c ∈ l, ∃ x, c = .sli .u8 x) : ∀ (f i : Nat) (acc : List Int), i <= l.length -> l.length < f + i -> acc.length + ((l.drop i).flatMap cvSli).length <= 1000000 ->
  lpR1Join_3 (fun _ _ _ _ _ _ y7 => some (.ret [.cl (.sli .u8 y7)] [])) f l acc.length i acc = some (.ret [.cl (.sli .u8 (acc ++ (l.drop i).flatMap cvSli))] [])
 | 0, i, acc, hi, hf, _ => by omega
 | f + 1, i, acc, hi, hf, hs => by
  show lpR1Join_3s (lpR1Join_3 (fun _ _ _ _ _ _ y7 => some (.ret [.cl (.sli .u8 y7)] [])) f) (fun _ _ _ _ _ _ y7 => some (.ret [.cl (.sli .u8 y7)] [])) l acc.length i acc = _
  unfold lpR1Join_3s
  refine c_split (fun h => ?_) fun h => ?_
  ·obtain ⟨c, hc⟩ := get_some (b := l) (i := i) (by omega)
   obtain ⟨x, rfl⟩ := hall c (List.mem_of_getElem? hc)
   refine c_pos (by omega) (c_pos h ?_)
   rw [show (i : Int).toNat = i from rfl, hc, Option.bind_some]
   refine b_pos rfl ?_
   have hfl := flat_drop_cons hc
   rw [hfl, List.length_append] at hs
   have e : cvSli ((cell1 (.sli .u8 x)).getD 0 .nili) = x := rfl
   simp only [e]
   refine lim_in (by simp only [List.length_append]; omega) (lim_in (by simp only [List.length_append]; omega) ?_)
   rw [show IntKind.i64.wrap ((i : Int) + 1) = ((i + 1 : Nat) : Int) from (i64_in _ (by omega)).trans (by omega)]
   refine (join_lp l hl hall f (i + 1) (acc ++ x) (by omega) (by omega) (by simp only [List.length_append]; omega)).trans ?_
   rw [hfl, List.append_assoc]
  ·rw [List.drop_eq_nil_of_le (by omega), List.flatMap_nil, List.append_nil]
theorem nR1Join (l : List CV) (hp : joinOk l = true) : gR1Join l = some (.ret [.cl (.sli .u8 (rowsJoin l))] []) := by
 obtain ⟨h1, h2, h3⟩ := joinOk_spec hp
 unfold gR1Join rowsJoin
 simp only [shut_eq]
 exact join_lp l h1 h2 FUEL 0 [] (by omega) (by unfold FUEL; omega) (by simpa using h3)
theorem cat_lp (l : List CV) (hl : l.length <= 1000000) (hall : ∀ c ∈ l, ∃ x, c = .sli .u8 x) : ∀ (f i : Nat) (acc : List Int), i <= l.length -> l.length < f + i -> acc.length + ((l.drop i).flatMap cvSli).length <= 1000000 ->
  lpSConcat_11 (fun _ _ _ _ y27 => some (.ret [.cl (.sli .u8 y27)] [])) f acc.length l ((l.length : Nat) : Int) i acc = some (.ret [.cl (.sli .u8 (acc ++ (l.drop i).flatMap cvSli))] [])
 | 0, i, acc, hi, hf, _ => by omega
 | f + 1, i, acc, hi, hf, hs => by
  show lpSConcat_11s (lpSConcat_11 (fun _ _ _ _ y27 => some (.ret [.cl (.sli .u8 y27)] [])) f) (fun _ _ _ _ y27 => some (.ret [.cl (.sli .u8 y27)] [])) acc.length l ((l.length : Nat) : Int) i acc = _
  unfold lpSConcat_11s
  refine c_split (fun h => ?_) fun h => ?_
  ·obtain ⟨c, hc⟩ := get_some (b := l) (i := i) (by omega)
   obtain ⟨x, rfl⟩ := hall c (List.mem_of_getElem? hc)
   refine c_pos (by omega) (c_pos h ?_)
   rw [show (i : Int).toNat = i from rfl, hc, Option.bind_some]
   refine b_pos rfl ?_
   have hfl := flat_drop_cons hc
   rw [hfl, List.length_append] at hs
   have e : cvSli ((cell1 (.sli .u8 x)).getD 0 .nili) = x := rfl
   simp only [e]
   refine lim_in (by simp only [List.length_append]; omega) (lim_in (by simp only [List.length_append]; omega) ?_)
   rw [show IntKind.i64.wrap ((i : Int) + 1) = ((i + 1 : Nat) : Int) from (i64_in _ (by omega)).trans (by omega)]
   refine (cat_lp l hl hall f (i + 1) (acc ++ x) (by omega) (by omega) (by simp only [List.length_append]; omega)).trans ?_
   rw [hfl, List.append_assoc]
  ·rw [List.drop_eq_nil_of_le (by omega), List.flatMap_nil, List.append_nil]
theorem size_lp (l : List CV) (hl : l.length <= 1000000) (hall : ∀ c ∈ l, ∃ x, c = .sli .u8 x) (k0 : ByteArray -> List CV -> Int -> List Int -> List CV -> Int -> Int -> List CV -> Nat -> List Int -> Int -> List Int -> Int -> Int -> Int -> ByteArray -> Option Out) (k1 : List CV -> Int -> List CV -> Int -> Int -> Option Out) : ∀ (f i : Nat) (n : Int), i <= l.length -> l.length < f + i -> 0 <= n -> n + ((l.drop i).flatMap cvSli).length <= 1000000 ->
  lpSConcat_3 k0 k1 f l n l ((l.length : Nat) : Int) i = k1 l (n + ((l.drop i).flatMap cvSli).length) l ((l.length : Nat) : Int) l.length
 | 0, i, n, hi, hf, _, _ => by omega
 | f + 1, i, n, hi, hf, h0, hs => by
  show lpSConcat_3s (lpSConcat_3 k0 k1 f) k0 k1 l n l ((l.length : Nat) : Int) i = _
  unfold lpSConcat_3s
  refine c_split (fun h => ?_) fun h => ?_
  ·obtain ⟨c, hc⟩ := get_some (b := l) (i := i) (by omega)
   obtain ⟨x, rfl⟩ := hall c (List.mem_of_getElem? hc)
   refine c_pos (by omega) (c_pos h ?_)
   rw [show (i : Int).toNat = i from rfl, hc, Option.bind_some]
   refine b_pos rfl ?_
   have hfl := flat_drop_cons hc
   rw [hfl, List.length_append] at hs
   have e : cvSli ((cell1 (.sli .u8 x)).getD 0 .nili) = x := rfl
   simp only [e]
   rw [show IntKind.i64.wrap (n + ((x.length : Nat) : Int)) = n + x.length from i64_in _ (by omega)]
   refine c_neg (by omega) ?_
   rw [show IntKind.i64.wrap ((i : Int) + 1) = ((i + 1 : Nat) : Int) from (i64_in _ (by omega)).trans (by omega)]
   refine (size_lp l hl hall k0 k1 f (i + 1) _ (by omega) (by omega) (by omega) (by omega)).trans ?_
   rw [hfl, List.length_append, show n + ((x.length : Nat) : Int) + (((l.drop (i + 1)).flatMap cvSli).length : Nat) = n + ((x.length + ((l.drop (i + 1)).flatMap cvSli).length : Nat) : Int) by omega]
  ·obtain rfl : i = l.length := by omega
   rw [List.drop_eq_nil_of_le (Nat.le_refl _)]
   simp
theorem nSConcat (l : List CV) (hp : joinOk l = true) : gSConcat l = some (.ret [.cl (.sli .u8 (rowsJoin l))] []) := by
 obtain ⟨h1, h2, h3⟩ := joinOk_spec hp
 unfold gSConcat rowsJoin noInts
 simp only [shut_eq]
 refine (size_lp l h1 h2 _ _ FUEL 0 0 (by omega) (by unfold FUEL; omega) (by omega) (by rw [List.drop_zero]; omega)).trans ?_
 refine b_pos ?_ (cat_lp l h1 h2 FUEL 0 [] (by omega) (by unfold FUEL; omega) (by simpa using h3))
 unfold growOk
 rw [shut_eq, List.drop_zero]
 exact decide_eq_true (by omega)

/-! ### sameness -/
end Go.Proofs.YtfkpjbbkdkcdcaaDoorA
