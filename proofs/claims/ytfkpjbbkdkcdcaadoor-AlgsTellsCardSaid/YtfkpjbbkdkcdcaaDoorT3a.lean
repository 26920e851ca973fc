/-
 What the layers below come to (their lemmas, as far as this seat needs them). Conditions: each function's own.
-/
import Derived.Test.YtfkpjbbkdkcdcaaDoorT2a
import Derived.Test.YtfkpjbbkdkcdcaaDoorT2b
import Derived.Test.YtfkpjbbkdkcdcaaDoorT2c
import Derived.Test.YtfkpjbbkdkcdcaaDoorT2d
import Derived.Test.YtfkpjbbkdkcdcaaDoorK3
import Derived.IntWalk
set_option linter.unusedVariables false
set_option linter.unusedSimpArgs false
set_option maxRecDepth 100000
namespace Go.Proofs.YtfkpjbbkdkcdcaaDoorA

theorem stYears_step (y : Int) : stYears (y + 1) = stYears y + 365 + (if stLeap y = true then 1 else 0) := by
 unfold stYears stLeap
 simp only [decide_eq_true_eq]
 split <;> omega
theorem stDays_rng (y m : Int) : 28 <= stDays y m /\ stDays y m <= 31 := by
 unfold stDays
 split
 ·split <;> omega
 ·split <;> omega
end Go.Proofs.YtfkpjbbkdkcdcaaDoorA

namespace Go.Proofs.YtfkpjbbkdkcdcaaDoorA
open IntWalk (i64_in u8_in u32_in u64_in i64_quo u8_quo rem_in)

theorem nDigits (s : ByteArray) (hp : decide (2 <= s.size) = true) : gDigits s = some (.ret [.cl (.int .i64 (stDigits s))] []) := by
 simp only [decide_eq_true_eq] at hp
 unfold gDigits stDigits stDig
 have r0 := bget_rng s 0
 have r1 := bget_rng s 1
 refine c_pos (by omega) ?_
 extract_lets x1 x2 x3 x4 x5 x6 x7 x8
 have e2 : x2 = bget s 0 := i64_in _ (by omega)
 have e3 : x3 = bget s 0 - 48 := by show IntKind.i64.wrap (x2 - 48) = _; rw [e2]; exact i64_in _ (by omega)
 refine c_pos (by omega) ?_
 have e5 : x5 = bget s 1 := i64_in _ (by omega)
 have e6 : x6 = bget s 1 - 48 := by show IntKind.i64.wrap (x5 - 48) = _; rw [e5]; exact i64_in _ (by omega)
 refine c_split (fun h => ?_) fun h1 => c_split (fun h => ?_) fun h2 => c_split (fun h => ?_) fun h3 => c_split (fun h => ?_) fun h4 => ?_
 ·rw [if_pos (by omega)]
 ·rw [if_pos (by omega)]
 ·rw [if_pos (by omega)]
 ·rw [if_pos (by omega)]
 ·rw [if_neg (by omega)]
  have e7 : x7 = 10 * x3 := i64_in _ (by omega)
  have e8 : x8 = 10 * x3 + x6 := by show IntKind.i64.wrap (x7 + x6) = _; rw [e7]; exact i64_in _ (by omega)
  exact ret_int (by rw [e8, e3, e6])

theorem nDLeap (d0 d1 d2 d3 d4 d5 : Int) (hp : stOk d0 = true) : gDLeap d0 d1 d2 d3 d4 d5 = some (.ret [.cl (.bool (stLeap d0))] []) := by
 simp only [stOk, decide_eq_true_eq] at hp
 unfold gDLeap stLeap
 rw [rem_in d0 4 (by omega), rem_in d0 100 (by omega), rem_in d0 400 (by omega)]
 refine c_split (fun h => c_nsplit (fun h2 => ?_) fun h2 => ?_) fun h => ?_
 ·exact ret_bool (by symm; rw [decide_eq_true_eq]; exact ⟨h, .inl h2⟩)
 ·refine ret_bool (by rw [Bool.eq_iff_iff]; simp only [decide_eq_true_eq]; omega)
 ·exact ret_bool (by symm; rw [decide_eq_false_iff_not]; exact fun h' => h h'.1)
theorem nDDays (d0 d1 d2 d3 d4 d5 : Int) (hp : stOk d0 = true) : gDDays d0 d1 d2 d3 d4 d5 = some (.ret [.cl (.int .i64 (stDays d0 d1))] []) := by
 unfold gDDays stDays
 refine c_split (fun h => b_pos hp (b_split (fun h2 => ?_) fun h2 => ?_)) fun h => c_split (fun h2 => ?_) fun h2 => c_split (fun h3 => ?_) fun h3 => c_split (fun h4 => ?_) fun h4 => c_split (fun h5 => ?_) fun h5 => ?_
 ·rw [if_pos h, if_pos h2]
 ·rw [if_pos h, if_neg (by rw [h2]; simp)]
 all_goals first | rw [if_neg h, if_pos (by omega)] | rw [if_neg h, if_neg (by omega)]
theorem nDFit (d0 d1 d2 d3 d4 d5 : Int) (hp : true = true) : gDFit d0 d1 d2 d3 d4 d5 = some (.ret [.cl (.bool (stFit d0 d1 d2 d3 d4 d5))] []) := by
 unfold gDFit stFit
 have no : ∀ {p : Prop} [Decidable p], ¬ p -> some (Out.ret [.cl (.bool false)] []) = some (Out.ret [.cl (.bool (decide p))] []) := fun h => ret_bool (by symm; rw [decide_eq_false_iff_not]; exact h)
 refine c_split (fun h => no (by omega)) fun h1 => c_split (fun h => no (by omega)) fun h2 => c_split (fun h => no (by omega)) fun h3 => c_split (fun h => no (by omega)) fun h4 => c_split (fun h => no (by omega)) fun h5 => b_pos (by simp only [stOk, decide_eq_true_eq]; omega) (c_split (fun h => no (by omega)) fun h6 =>
  c_split (fun g1 => c_split (fun g2 => c_split (fun g3 => c_split (fun g4 => c_split (fun g5 => ?_) fun h => no (by omega)) fun h => no (by omega)) fun h => no (by omega)) fun h => no (by omega)) fun h => no (by omega))
 refine ret_bool ?_
 rw [Bool.eq_iff_iff]
 simp only [decide_eq_true_eq]
 omega
theorem stFit_spec {y m d h i s : Int} (hp : stFit y m d h i s = true) : (1 <= y /\ y <= 9999 /\ 1 <= m /\ m <= 12) /\ (1 <= d /\ d <= stDays y m) /\ 0 <= h /\ h < 24 /\ 0 <= i /\ i < 60 /\ 0 <= s /\ s < 60 := by
 unfold stFit at hp
 simpa only [decide_eq_true_eq] using hp
end Go.Proofs.YtfkpjbbkdkcdcaaDoorA

namespace Go.Proofs.YtfkpjbbkdkcdcaaDoorA
open IntWalk (i64_in u8_in u32_in u64_in i64_quo u8_quo rem_in)

theorem nDSecs (d0 d1 d2 d3 d4 d5 : Int) (hp : stFit d0 d1 d2 d3 d4 d5 = true) : gDSecs d0 d1 d2 d3 d4 d5 = some (.ret [.cl (.int .i64 (stSecs d0 d1 d2 d3 d4 d5))] []) := by
 obtain ⟨⟨a1, a2, a3, a4⟩, ⟨a5, a6⟩, a7, a8, a9, a10, a11, a12⟩ := stFit_spec hp
 have a6' : d2 <= 31 := by have := stDays_rng d0 d1; omega
 clear a6 hp
 have hs := stYears_step d0
 unfold gDSecs
 have hy0 : stYears d0 = (d0 - 1) * 365 + (d0 - 1) / 4 - (d0 - 1) / 100 + (d0 - 1) / 400 := rfl
 have hy1 : stYears (d0 + 1) = d0 * 365 + d0 / 4 - d0 / 100 + d0 / 400 := by unfold stYears; rw [show d0 + 1 - 1 = d0 by omega]
 rw [hy1] at hs
 extract_lets x1 x2 x3 x4 x5 x6 x7 x8 x9 x10 x11 x12 x13 x14 x15 x16 x17 x18 x19 x20 x21 x22 x23 x24 x25 x26 x27 x28 x29 x30 x31 x32 x33 x34 x35 x36 x37 x38 x39 x40 x41 x42 x43
 have e1 : x1 = d1 - 3 := i64_in _ (by omega)
 refine c_split (fun h => ret_int ?_) fun h => ret_int ?_
 ·have e2 : x2 = d0 - 1 := i64_in _ (by omega)
  have e3 : x3 = d1 + 9 := (i64_in (x1 + 12) (by omega)).trans (by omega)
  have e4 : x4 = x2 / 400 := i64_quo _ _ (by omega)
  have e5 : x5 = x2 % 400 := rem_in _ _ (by omega)
  clear_value x1 x2 x3 x4 x5
  have r4 : 0 <= x4 /\ x4 <= 24 /\ x2 = 400 * x4 + x5 /\ 0 <= x5 /\ x5 <= 399 := by clear hs hy0 hy1; omega
  have c4 : (d0 - 1) / 4 = 100 * x4 + x5 / 4 /\ (d0 - 1) / 100 = 4 * x4 + x5 / 100 /\ (d0 - 1) / 400 = x4 := by clear hs hy0 hy1; omega
  have e6 : x6 = 153 * x3 := i64_in _ (by omega)
  have e7 : x7 = 153 * x3 + 2 := (i64_in (x6 + 2) (by omega)).trans (by omega)
  have e8 : x8 = (153 * x3 + 2) / 5 := (i64_quo x7 5 (by omega)).trans (by rw [e7])
  clear_value x6 x7 x8
  have r8 : 306 <= x8 /\ x8 <= 337 /\ x8 = 306 + 31 * (d1 - 1) := by clear hs hy0 hy1 r4 c4 e4 e5; omega
  clear e4 e5 e6 e7 e8 hs hy1
  have e9 : x9 = x8 + d2 := i64_in _ (by omega)
  have e10 : x10 = x8 + d2 - 1 := (i64_in (x9 - 1) (by omega)).trans (by omega)
  have e11 : x11 = x4 * 146097 := i64_in _ (by omega)
  have e12 : x12 = x5 * 365 := i64_in _ (by omega)
  have e13 : x13 = x11 + x12 := i64_in _ (by omega)
  have e14 : x14 = x5 / 4 := i64_quo _ _ (by omega)
  have e15 : x15 = x13 + x14 := i64_in _ (by omega)
  have e16 : x16 = x5 / 100 := i64_quo _ _ (by omega)
  have e17 : x17 = x15 - x16 := i64_in _ (by omega)
  have e18 : x18 = x17 + x10 := i64_in _ (by omega)
  have e19 : x19 = x18 - 719468 := i64_in _ (by omega)
  have e20 : x20 = x19 * 86400 := i64_in _ (by omega)
  have e21 : x21 = d3 * 3600 := i64_in _ (by omega)
  have e22 : x22 = d4 * 60 := i64_in _ (by omega)
  have e23 : x23 = x21 + x22 := i64_in _ (by omega)
  have e24 : x24 = x23 + d5 := i64_in _ (by omega)
  have e25 : x25 = x20 + x24 := i64_in _ (by omega)
  have hm : stAhead d0 d1 = 31 * (d1 - 1) := by unfold stAhead; rw [if_pos (by omega)]
  have hday : stYears d0 + stAhead d0 d1 + (d2 - 1) = x19 + 719162 := by
   rw [hy0, hm, c4.1, c4.2.1, c4.2.2, e19, e18, e17, e15, e13, e11, e12, e14, e16, e10]
   omega
  unfold stSecs
  rw [hday, e25, e20, e24, e23, e21, e22]
  omega
 ·have e26 : x26 = d0 / 400 := i64_quo _ _ (by omega)
  have e27 : x27 = d0 % 400 := rem_in _ _ (by omega)
  clear_value x1 x26 x27
  have r4 : 0 <= x26 /\ x26 <= 24 /\ d0 = 400 * x26 + x27 /\ 0 <= x27 /\ x27 <= 399 := by clear hs hy0 hy1; omega
  have c4 : d0 / 4 = 100 * x26 + x27 / 4 /\ d0 / 100 = 4 * x26 + x27 / 100 /\ d0 / 400 = x26 := by clear hs hy0 hy1; omega
  have e28 : x28 = 153 * x1 := i64_in _ (by omega)
  have e29 : x29 = 153 * x1 + 2 := (i64_in (x28 + 2) (by omega)).trans (by omega)
  have e30 : x30 = (153 * x1 + 2) / 5 := (i64_quo x29 5 (by omega)).trans (by rw [e29])
  clear_value x28 x29 x30
  have r8 : 0 <= x30 /\ x30 <= 337 := by clear hs hy0 hy1 r4 c4; omega
  have hm : stAhead d0 d1 = x30 + 59 + (if stLeap d0 = true then 1 else 0) := by unfold stAhead; rw [if_neg (by omega), <- e1, e30]
  clear e26 e27 e28 e29 e30 hy0 hy1
  have e31 : x31 = x30 + d2 := i64_in _ (by omega)
  have e32 : x32 = x30 + d2 - 1 := (i64_in (x31 - 1) (by omega)).trans (by omega)
  have e33 : x33 = x26 * 146097 := i64_in _ (by omega)
  have e34 : x34 = x27 * 365 := i64_in _ (by omega)
  have e35 : x35 = x33 + x34 := i64_in _ (by omega)
  have e36 : x36 = x27 / 4 := i64_quo _ _ (by omega)
  have e37 : x37 = x35 + x36 := i64_in _ (by omega)
  have e38 : x38 = x27 / 100 := i64_quo _ _ (by omega)
  have e39 : x39 = x37 - x38 := i64_in _ (by omega)
  have e40 : x40 = x39 + x32 := i64_in _ (by omega)
  have e41 : x41 = x40 - 719468 := i64_in _ (by omega)
  have e42 : x42 = x41 * 86400 := i64_in _ (by omega)
  have e21 : x21 = d3 * 3600 := i64_in _ (by omega)
  have e22 : x22 = d4 * 60 := i64_in _ (by omega)
  have e23 : x23 = x21 + x22 := i64_in _ (by omega)
  have e24 : x24 = x23 + d5 := i64_in _ (by omega)
  have e43 : x43 = x42 + x24 := i64_in _ (by omega)
  have hday : stYears d0 + stAhead d0 d1 + (d2 - 1) = x41 + 719162 := by
   rw [hm]
   generalize (if stLeap d0 = true then 1 else 0 : Int) = lp at *
   rw [c4.1, c4.2.1, c4.2.2] at hs
   rw [e41, e40, e39, e37, e35, e33, e34, e36, e38, e32]
   omega
  unfold stSecs
  rw [hday, e43, e42, e24, e23, e21, e22]
  omega
end Go.Proofs.YtfkpjbbkdkcdcaaDoorA

namespace Go.Proofs.YtfkpjbbkdkcdcaaDoorA
open IntWalk (i64_in u8_in u32_in u64_in i64_quo u8_quo rem_in)

theorem nSRead (s : ByteArray) (hp : true = true) : gSRead s = some (.ret [.cl (.int .i64 (stRead s).1), .cl (.int .i64 (stRead s).2)] []) := by
 unfold gSRead stRead
 have dig : ∀ k : Nat, (k : Int) + 2 <= s.size -> stDigits (s.extract k s.size) = stDig (bget s k) (bget s (k + 1)) := fun k hk => by
  unfold stDigits
  rw [bget_extract s (by omega) (by omega) (Nat.le_refl _), bget_extract s (by omega) (by omega) (Nat.le_refl _), Int.add_zero]
 have sz : ∀ k : Nat, (s.extract k s.size).size = s.size - k := fun k => by rw [ByteArray.size_extract, Nat.min_self]
 refine c_nsplit (fun h => ?_) fun h => c_pos (by omega) ?_
 ·rw [if_neg (by omega)]
 have hs : s.size = 15 := by omega
 have d2 := dig 2 (by omega)
 have d4 := dig 4 (by omega)
 have d6 := dig 6 (by omega)
 have d8 := dig 8 (by omega)
 have d10 := dig 10 (by omega)
 have d12 := dig 12 (by omega)
 extract_lets x1 s2 r3 s4 r5 s6 r7 s8 r9 s10 r11 s12 r13 r14 x15 x16 r17 r18 y m d hh i c
 refine c_nsplit (fun h => ?_) fun h1 => ?_
 ·rw [if_neg fun e => h e.2]
 rw [if_pos ⟨hs, h1⟩]
 have z2 := sz 2
 have z4 := sz 4
 have z6 := sz 6
 have z8 := sz 8
 have z10 := sz 10
 have z12 := sz 12
 have rng : ∀ a b, 0 <= a /\ a <= 255 -> 0 <= b /\ b <= 255 -> -100000 <= stDig a b /\ stDig a b <= 99 := fun a b h1 h2 => by
  unfold stDig
  split <;> omega
 have g2 := rng _ _ (bget_rng s 2) (bget_rng s 3)
 have g0 := rng _ _ (bget_rng s 0) (bget_rng s 1)
 have e14 : r14 = stDig (bget s 0) (bget s 1) := rfl
 have e3 : r3 = stDig (bget s 2) (bget s 3) := d2
 have e15 : x15 = 100 * stDig (bget s 0) (bget s 1) := i64_in _ (by rw [e14]; omega)
 have e16 : x16 = y := (i64_in (r3 + x15) (by omega)).trans (by rw [e3, e15])
 have e5 : r5 = m := d4
 have e7 : r7 = d := d6
 have e9 : r9 = hh := d8
 have e11 : r11 = i := d10
 have e13 : r13 = c := d12
 have hr : r17 = stFit y m d hh i c := by show stFit x16 r5 r7 r9 r11 r13 = _; rw [e16, e5, e7, e9, e11, e13]
 have h18 : r18 = stSecs y m d hh i c := by show stSecs x16 r5 r7 r9 r11 r13 = _; rw [e16, e5, e7, e9, e11, e13]
 refine c_pos (by omega) (c_pos (by show 2 <= (s.extract 2 s.size).size; omega) (c_pos (by omega) (c_pos (by show 2 <= (s.extract 4 s.size).size; omega) (c_pos (by omega) (c_pos (by show 2 <= (s.extract 6 s.size).size; omega) (c_pos (by omega) (c_pos (by show 2 <= (s.extract 8 s.size).size; omega) (c_pos (by omega) (c_pos (by show 2 <= (s.extract 10 s.size).size; omega)
  (c_pos (by omega) (c_pos (by show 2 <= (s.extract 12 s.size).size; omega) (c_pos (by omega) ?_))))))))))))
 rw [hr]
 cases hf : stFit y m d hh i c with
 | false => rfl
 | true =>
  rw [if_pos rfl]
  show cond (stFit x16 r5 r7 r9 r11 r13) (some (Out.ret [.cl (.int .i64 r18), .cl (.int .i64 0)] [])) none = _
  rw [show stFit x16 r5 r7 r9 r11 r13 = true from hr.trans hf, h18]
  rfl
end Go.Proofs.YtfkpjbbkdkcdcaaDoorA

namespace Go.Proofs.YtfkpjbbkdkcdcaaDoorA
open IntWalk (i64_in u8_in u32_in u64_in i64_quo u8_quo rem_in)

end Go.Proofs.YtfkpjbbkdkcdcaaDoorA

namespace Go.Proofs.YtfkpjbbkdkcdcaaDoorA
open IntWalk (i64_in u8_in u32_in u64_in i64_quo u8_quo rem_in)

end Go.Proofs.YtfkpjbbkdkcdcaaDoorA

namespace Go.Proofs.YtfkpjbbkdkcdcaaDoorA
open IntWalk (i64_in u8_in u32_in u64_in i64_quo u8_quo rem_in)

end Go.Proofs.YtfkpjbbkdkcdcaaDoorA

namespace Go.Proofs.YtfkpjbbkdkcdcaaDoorA
open IntWalk (i64_in u8_in u32_in u64_in i64_quo u8_quo rem_in)

/-! ### bytes that are so -/
theorem byteB_spec {x : Int} (h : byteB x = true) : 0 <= x /\ x <= 255 := of_decide_eq_true h
theorem bytesOk_spec {b : List Int} (h : bytesOk b = true) : b.length <= 1000000 /\ ∀ x ∈ b, 0 <= x /\ x <= 255 := by
 unfold bytesOk at h
 rw [shut_eq] at h
 simp only [Bool.and_eq_true, decide_eq_true_eq, List.all_eq_true] at h
 exact ⟨h.1, fun x hx => byteB_spec (h.2 x hx)⟩
theorem bytesOk_of {b : List Int} (h : b.length <= 1000000) (h' : ∀ x ∈ b, 0 <= x /\ x <= 255) : bytesOk b = true := by
 unfold bytesOk
 rw [shut_eq]
 simp only [Bool.and_eq_true, decide_eq_true_eq, List.all_eq_true]
 exact ⟨h, fun x hx => decide_eq_true (h' x hx)⟩
theorem bytesOk_sub {a b : List Int} (h : bytesOk b = true) (hl : a.length <= b.length) (hs : ∀ x ∈ a, x ∈ b) : bytesOk a = true :=
 let ⟨h1, h2⟩ := bytesOk_spec h; bytesOk_of (by omega) fun x hx => h2 x (hs x hx)
theorem bytesOk_drop {b : List Int} (h : bytesOk b = true) (n : Nat) : bytesOk (b.drop n) = true := bytesOk_sub h (by simp) fun x hx => List.mem_of_mem_drop hx
theorem bytesOk_tail {b : List Int} (h : bytesOk b = true) : bytesOk b.tail = true := bytesOk_sub h (by simp) fun x hx => List.mem_of_mem_tail hx
theorem bytesOk_at {b : List Int} (h : bytesOk b = true) {i : Nat} {x : Int} (hx : b[i]? = some x) : 0 <= x /\ x <= 255 := (bytesOk_spec h).2 x (List.mem_of_getElem? hx)
theorem lenOk_spec {b : List Int} (h : lenOk b = true) : b.length <= 100000000 := by
 unfold lenOk at h; rw [shut_eq] at h; exact of_decide_eq_true h
theorem lenOk_of {b : List Int} (h : b.length <= 100000000) : lenOk b = true := by
 unfold lenOk; rw [shut_eq]; exact decide_eq_true h
theorem get_some {α : Type} {b : List α} {i : Nat} (h : i < b.length) : ∃ x, b[i]? = some x := ⟨_, List.getElem?_eq_getElem h⟩

theorem nDBoxed (tag : Int) (hp : true = true) : gDBoxed tag = some (.ret [.cl (.bool (derBoxed tag))] []) := by
 unfold gDBoxed derBoxed derBoxedC
 rw [shut_eq]
 simp only [Bool.cond_decide]
 repeat' split
 all_goals (refine ret_bool ?_; rw [Bool.eq_iff_iff]; simp only [decide_eq_true_eq, true_iff, Bool.false_eq_true, false_iff]; omega)
theorem nDKnown (tag : Int) (hp : true = true) : gDKnown tag = some (.ret [.cl (.bool (derKnown tag))] []) := by
 unfold gDKnown derKnown derKnownC derBoxed
 simp only [shut_eq, Bool.cond_decide]
 cases derBoxedC tag
 all_goals simp only [cond_true, cond_false]
 all_goals repeat' split
 all_goals (refine ret_bool ?_; rw [Bool.eq_iff_iff]; (try simp only [Bool.or_eq_true, decide_eq_true_eq, or_true, true_or, Bool.false_eq_true, false_or, Bool.true_eq, true_iff, false_iff]); (try omega))
theorem nDLenSize (n : Int) (hp : true = true) : gDLenSize n = some (.ret [.cl (.int .i64 (derLenSize n))] []) := by
 unfold gDLenSize derLenSize derLenSizeC
 simp only [shut_eq, Bool.cond_decide]
 repeat' split
 all_goals rfl
theorem two_cases (o : List Int) : o.length < 2 /\ oidFitC o = false \/ ∃ x y r, o = x :: y :: r := by
 match o with
 | [] => exact .inl ⟨by simp, rfl⟩
 | [x] => exact .inl ⟨by simp, rfl⟩
 | x :: y :: r => exact .inr ⟨x, y, r, rfl⟩
theorem nOFit (o : List Int) (hp : true = true) : gOFit o = some (.ret [.cl (.bool (oidFit o))] []) := by
 unfold gOFit oidFit
 simp only [shut_eq, Bool.cond_decide]
 rcases two_cases o with ⟨h, e⟩ | ⟨x, y, r, rfl⟩
 ·rw [if_pos (by omega), e]
 ·simp only [List.getElem?_cons_zero, List.getElem?_cons_succ, Option.bind_some, List.length_cons, oidFitC]
  repeat' split
  all_goals first
   | (refine ret_bool ?_; rw [Bool.eq_iff_iff]; simp only [Bool.and_eq_true, Bool.or_eq_true, decide_eq_true_eq, Bool.false_eq_true, false_iff, true_iff]; omega)
   | omega
theorem nDNumber (b : List Int) (hp : bytesOk b = true) : gDNumber b = some (.ret [.cl (.bool (derNumber b))] []) := by
 unfold gDNumber derNumber
 rw [shut_eq]
 match b, hp with
 | [], _ => rfl
 | [x], _ => rfl
 | x :: y :: r, hp =>
  have hx := bytesOk_at hp (i := 0) (x := x) rfl
  have hy := bytesOk_at hp (i := 1) (x := y) rfl
  simp only [List.getElem?_cons_zero, List.getElem?_cons_succ, Option.bind_some, List.length_cons, derNumberC]
  rw [show IntKind.u64.wrap x = x from u64_in _ (by omega), show IntKind.u64.wrap y = y from u64_in _ (by omega), show IntKind.u64.wrap (x * 2 ^ 1) = x * 2 from (u64_in _ (by omega)).trans (by omega),
   show Int.fdiv y (2 ^ 7) = y / 128 from Int.fdiv_eq_ediv_of_nonneg _ (by omega)]
  have hor : ((BitVec.ofInt 64 (x * 2) ||| BitVec.ofInt 64 (y / 128)).toNat : Int) = x * 2 + y / 128 := by
   have h2 : y / 128 = 0 \/ y / 128 = 1 := by omega
   obtain ⟨n, rfl⟩ : ∃ n : Nat, x = n := ⟨x.toNat, by omega⟩
   have hn : n < 256 := by omega
   rcases h2 with h2 | h2
   ·rw [h2]
    simp [BitVec.toNat_ofInt]
    omega
   ·rw [h2, BitVec.toNat_or]
    simp only [BitVec.toNat_ofInt]
    have : ∀ n : Fin 256, ((((n.val : Int) * 2 % (2 ^ 64 : Nat)).toNat ||| ((1 : Int) % (2 ^ 64 : Nat)).toNat : Nat) : Int) = (n.val : Int) * 2 + 1 := by decide +kernel
    exact this ⟨n, hn⟩
  rw [hor, show IntKind.u64.wrap (x * 2 + y / 128) = x * 2 + y / 128 from u64_in _ (by omega)]
  simp only [Bool.cond_decide]
  rw [if_neg (by omega), if_pos (by omega), if_pos (by omega)]
  refine c_nsplit (fun h => ret_bool ?_) fun h => ret_bool ?_
  ·rw [Bool.eq_iff_iff]
   simp only [Bool.and_eq_true, Bool.not_eq_true', decide_eq_false_iff_not]
   omega
  ·rw [Bool.eq_iff_iff]
   simp only [Bool.and_eq_true, Bool.not_eq_true', decide_eq_false_iff_not, Bool.false_eq_true, false_iff]
   omega
theorem nSClone (b : List Int) (hp : lenOk b = true) : gSClone b = some (.ret [.cl (.sli .u8 b)] []) := by
 have hp := lenOk_spec hp
 unfold gSClone
 simp only [List.nil_append]
 refine b_split (fun h => ?_) fun h => ?_
 ·have h := List.eq_nil_of_length_eq_zero (beq_iff.1 h)
  subst h
  unfold bothK
  rw [if_pos (Eq.symm (lim_in (by simp) (lim_in (by simp) rfl)))]
 ·exact lim_in (by omega) (lim_in (by omega) rfl)
end Go.Proofs.YtfkpjbbkdkcdcaaDoorA

namespace Go.Proofs.YtfkpjbbkdkcdcaaDoorA
open IntWalk (i64_in u8_in u32_in u64_in i64_quo u8_quo rem_in)

theorem drop_cons {b : List Int} {i : Nat} {x : Int} (h : b[i]? = some x) : b.drop i = x :: b.drop (i + 1) := by
 obtain ⟨hlt, e⟩ := List.getElem?_eq_some_iff.1 h
 rw [List.drop_eq_getElem_cons hlt, e]
theorem drop_nil {α : Type} {b : List α} {i : Nat} (h : b.length <= i) : b.drop i = [] := List.drop_eq_nil_of_le h

end Go.Proofs.YtfkpjbbkdkcdcaaDoorA

namespace Go.Proofs.YtfkpjbbkdkcdcaaDoorA
open IntWalk (i64_in u8_in u32_in u64_in i64_quo u8_quo rem_in)

end Go.Proofs.YtfkpjbbkdkcdcaaDoorA

namespace Go.Proofs.YtfkpjbbkdkcdcaaDoorA
open IntWalk (i64_in u8_in u32_in u64_in i64_quo u8_quo rem_in)

theorem rowsOk_spec {l : List CV} (h : rowsOk l = true) : l.length <= 1000000 /\ ∀ (i : Nat) (e : CV), l[i]? = some e -> ∃ x, e = .sli .u8 x /\ bytesOk x = true := by
 unfold rowsOk at h
 rw [shut_eq] at h
 simp only [Bool.and_eq_true, decide_eq_true_eq, List.all_eq_true] at h
 refine ⟨h.1, fun i e he => ?_⟩
 have := h.2 e (List.mem_of_getElem? he)
 unfold rowCV at this
 split at this
 ·rename_i l'
  refine ⟨l', rfl, ?_⟩
  unfold rowB at this
  simp only [Bool.and_eq_true, decide_eq_true_eq, List.all_eq_true] at this
  exact bytesOk_of this.1 fun x hx => byteB_spec (this.2 x hx)
 ·cases this
theorem sorted_two {l : List CV} {i : Nat} {a b : List Int} (h1 : l[i]? = some (.sli .u8 a)) (h2 : l[i + 1]? = some (.sli .u8 b)) : rowsSortedC ((l.map cvSli).drop i) = (decide (listCmpC a b <= 0) && rowsSortedC ((l.map cvSli).drop (i + 1))) := by
 have e1 : (l.map cvSli)[i]? = some a := by rw [List.getElem?_map, h1]; rfl
 have e2 : (l.map cvSli)[i + 1]? = some b := by rw [List.getElem?_map, h2]; rfl
 have d : ∀ {l : List (List Int)} {i : Nat} {x : List Int}, l[i]? = some x -> l.drop i = x :: l.drop (i + 1) := fun {l i x} h => by
  obtain ⟨hlt, e⟩ := List.getElem?_eq_some_iff.1 h
  rw [List.drop_eq_getElem_cons hlt, e]
 rw [d e1, d e2]
 rfl
theorem sorted_one {l : List CV} {i : Nat} (h : l.length <= i + 1) : rowsSortedC ((l.map cvSli).drop i) = true := by
 have : ((l.map cvSli).drop i).length <= 1 := by simp; omega
 match (l.map cvSli).drop i, this with
 | [], _ => rfl
 | [_], _ => rfl
 | _ :: _ :: _, h => simp at h
theorem nBCompare (a b : List Int) (hp : (bytesOk a && bytesOk b) = true) : gBCompare a b = some (.ret [.cl (.int .i64 (listCmp a b))] []) := by
 unfold gBCompare
 exact b_pos hp rfl
theorem nOLess (a b : List Int) (hp : (bytesOk a && bytesOk b) = true) : gOLess a b = some (.ret [.cl (.bool (decide (listCmp a b <= 0)))] []) := by
 unfold gOLess
 exact b_pos hp rfl
theorem os_lp (l : List CV) (hok : rowsOk l = true) : ∀ (f i : Nat), l.length < f + i -> lpOSteps_2 (fun _ _ _ _ _ _ _ _ _ _ _ _ _ _ _ _ _ => some (.ret [.cl (.bool false)] [])) (fun _ _ _ _ _ => some (.ret [.cl (.bool true)] [])) f l ((i + 1 : Nat) : Int) = some (.ret [.cl (.bool (rowsSortedC ((l.map cvSli).drop i)))] []) \/ f = 0
 | 0, i, hf => .inr rfl
 | f + 1, i, hf => by
  left
  obtain ⟨hl, hr⟩ := rowsOk_spec hok
  show lpOSteps_2s (lpOSteps_2 (fun _ _ _ _ _ _ _ _ _ _ _ _ _ _ _ _ _ => some (.ret [.cl (.bool false)] [])) (fun _ _ _ _ _ => some (.ret [.cl (.bool true)] [])) f) _ _ l ((i + 1 : Nat) : Int) = _
  unfold lpOSteps_2s
  refine c_split (fun h => ?_) fun h => ret_bool ?_
  ·obtain ⟨e1, he1⟩ := get_some (b := l) (i := i) (by omega)
   obtain ⟨e2, he2⟩ := get_some (b := l) (i := i + 1) (by omega)
   obtain ⟨x, rfl, hx⟩ := hr _ _ he1
   obtain ⟨y, rfl, hy⟩ := hr _ _ he2
   rw [show IntKind.i64.wrap (((i + 1 : Nat) : Int) - 1) = (i : Int) from (i64_in _ (by omega)).trans (by omega)]
   refine c_pos (by omega) (c_pos (by omega) ?_)
   rw [show (i : Int).toNat = i from rfl, he1, Option.bind_some]
   refine b_pos rfl (c_pos (by omega) (c_pos h ?_))
   rw [show ((i + 1 : Nat) : Int).toNat = i + 1 from rfl, he2, Option.bind_some]
   refine b_pos rfl (b_pos (by show (bytesOk x && bytesOk y) = true; rw [hx, hy]; rfl) ?_)
   show cond (!(decide (listCmp x y <= 0))) _ _ = _
   rw [sorted_two he1 he2]
   unfold listCmp
   rw [shut_eq]
   cases decide (listCmpC x y <= 0) with
   | true =>
    simp only [Bool.not_true, cond_false, Bool.true_and]
    rw [show IntKind.i64.wrap (((i + 1 : Nat) : Int) + 1) = ((i + 1 + 1 : Nat) : Int) from (i64_in _ (by omega)).trans (by omega)]
    exact (os_lp l hok f (i + 1) (by omega)).resolve_right (by omega)
   | false => rfl
  ·rw [sorted_one (by omega)]
theorem nOSteps (l : List CV) (hp : rowsOk l = true) : gOSteps l = some (.ret [.cl (.bool (rowsSorted l))] []) := by
 unfold gOSteps rowsSorted
 simp only [shut_eq]
 exact (os_lp l hp FUEL 0 (by have := (rowsOk_spec hp).1; unfold FUEL; omega)).resolve_right (by unfold FUEL; omega)
theorem nOSorted (l : List CV) (hp : rowsOk l = true) : gOSorted l = some (.ret [.cl (.bool (rowsSorted l))] []) := by
 unfold gOSorted
 exact b_pos hp rfl
end Go.Proofs.YtfkpjbbkdkcdcaaDoorA

namespace Go.Proofs.YtfkpjbbkdkcdcaaDoorA
open IntWalk (i64_in u8_in u32_in u64_in i64_quo u8_quo rem_in)

theorem rune_cons (c : Int) (r : List Int) : u8RuneC (c :: r) = if c < 128 then 1
  else if 194 <= c /\ c <= 223 /\ u8At r 0 = true then 2
  else if 224 <= c /\ c <= 239 /\ u8At r 0 = true /\ u8At r 1 = true /\ (c = 224 -> 160 <= r.headD 0) /\ (c = 237 -> r.headD 0 < 160) then 3
  else if 240 <= c /\ c <= 244 /\ u8At r 0 = true /\ u8At r 1 = true /\ u8At r 2 = true /\ (c = 240 -> 144 <= r.headD 0) /\ (c = 244 -> r.headD 0 < 144) then 4
  else 0 := rfl
theorem rune_rng (l : List Int) : 0 <= u8RuneC l /\ u8RuneC l <= l.length /\ (u8RuneC l = 0 -> ∀ c r, l = c :: r -> ¬ c < 128) := by
 have hlt : ∀ (l : List Int) (k : Nat), u8At l k = true -> k < l.length := fun l k h => by
  unfold u8At at h
  split at h
  ·rename_i x hx; exact (List.getElem?_eq_some_iff.1 hx).1
  ·cases h
 cases l with
 | nil => exact ⟨by simp [u8RuneC], by simp [u8RuneC], fun _ c r h => by cases h⟩
 | cons c r =>
  rw [rune_cons]
  by_cases h1 : c < 128
  ·rw [if_pos h1]; exact ⟨by omega, by simp; omega, fun h => by omega⟩
  ·rw [if_neg h1]
   split
   ·rename_i h; have := hlt _ _ h.2.2; exact ⟨by omega, by simp only [List.length_cons]; omega, fun h => by omega⟩
   ·split
    ·rename_i h; have := hlt _ _ h.2.2.2.1; exact ⟨by omega, by simp only [List.length_cons]; omega, fun h => by omega⟩
    ·split
     ·rename_i h; have := hlt _ _ h.2.2.2.2.1; exact ⟨by omega, by simp only [List.length_cons]; omega, fun h => by omega⟩
     ·exact ⟨by omega, by simp only [List.length_cons]; omega, fun _ c' r' e => by cases e; exact h1⟩
theorem valid_more : ∀ (n m : Nat) (l : List Int), l.length <= n -> l.length <= m -> u8ValidF n l = u8ValidF m l
 | 0, 0, l, _, _ => rfl
 | 0, m + 1, l, h, _ => by
  have : l = [] := List.eq_nil_of_length_eq_zero (by omega)
  subst this
  simp [u8ValidF]
 | n + 1, 0, l, _, h => by
  have : l = [] := List.eq_nil_of_length_eq_zero (by omega)
  subst this
  simp [u8ValidF]
 | n + 1, m + 1, l, h1, h2 => by
  unfold u8ValidF
  by_cases h : l = []
  ·rw [if_pos h, if_pos h]
  ·rw [if_neg h, if_neg h]
   by_cases h0 : u8RuneC l = 0
   ·rw [if_pos h0, if_pos h0]
   ·rw [if_neg h0, if_neg h0]
    have := rune_rng l
    exact valid_more n m _ (by simp only [List.length_drop]; omega) (by simp only [List.length_drop]; omega)
theorem valid_step (l : List Int) : u8ValidC l = if l = [] then true else if u8RuneC l = 0 then false else u8ValidC (l.drop (u8RuneC l).toNat) := by
 unfold u8ValidC
 cases l with
 | nil => simp [u8ValidF]
 | cons c r =>
  rw [if_neg (by simp)]
  conv => lhs; rw [List.length_cons]; unfold u8ValidF
  rw [if_neg (by simp)]
  by_cases h0 : u8RuneC (c :: r) = 0
  ·rw [if_pos h0, if_pos h0]
  ·rw [if_neg h0, if_neg h0]
   have := rune_rng (c :: r)
   exact valid_more _ _ _ (by simp only [List.length_drop, List.length_cons]; omega) (Nat.le_refl _)
end Go.Proofs.YtfkpjbbkdkcdcaaDoorA

namespace Go.Proofs.YtfkpjbbkdkcdcaaDoorA
open IntWalk (i64_in u8_in u32_in u64_in i64_quo u8_quo rem_in)

/-! ### words -/
theorem ofNat64 {n : Nat} (h : n < 2 ^ 64) : (BitVec.ofInt 64 (n : Int)).toNat = n := by
 rw [BitVec.toNat_ofInt]; omega
theorem orN {a b : Nat} (ha : a < 2 ^ 64) (hb : b < 2 ^ 64) : IntKind.u64.wrap ((BitVec.ofInt 64 (a : Int) ||| BitVec.ofInt 64 (b : Int)).toNat) = ((a ||| b : Nat) : Int) := by
 rw [BitVec.toNat_or, ofNat64 ha, ofNat64 hb]
 have := Nat.or_lt_two_pow ha hb
 exact u64_in _ (by omega)
theorem andN {a b : Nat} (ha : a < 2 ^ 64) (hb : b < 2 ^ 64) : IntKind.u64.wrap ((BitVec.ofInt 64 (a : Int) &&& BitVec.ofInt 64 (b : Int)).toNat) = ((a &&& b : Nat) : Int) := by
 rw [BitVec.toNat_and, ofNat64 ha, ofNat64 hb]
 have : a &&& b <= a := Nat.and_le_left
 exact u64_in _ (by omega)
theorem nUWord (b : List Int) (hp : (bytesOk b && decide (8 <= b.length)) = true) : gUWord b = some (.ret [.cl (.int .u64 (u8Word b))] []) := by
 simp only [Bool.and_eq_true, decide_eq_true_eq] at hp
 obtain ⟨hb, hl⟩ := hp
 match b, hl, hb with
 | x0 :: x1 :: x2 :: x3 :: x4 :: x5 :: x6 :: x7 :: r, _, hb =>
  have r0 := bytesOk_at hb (i := 0) (x := x0) rfl
  have r1 := bytesOk_at hb (i := 1) (x := x1) rfl
  have r2 := bytesOk_at hb (i := 2) (x := x2) rfl
  have r3 := bytesOk_at hb (i := 3) (x := x3) rfl
  have r4 := bytesOk_at hb (i := 4) (x := x4) rfl
  have r5 := bytesOk_at hb (i := 5) (x := x5) rfl
  have r6 := bytesOk_at hb (i := 6) (x := x6) rfl
  have r7 := bytesOk_at hb (i := 7) (x := x7) rfl
  obtain ⟨n0, rfl⟩ : ∃ n : Nat, x0 = n := ⟨x0.toNat, by omega⟩
  obtain ⟨n1, rfl⟩ : ∃ n : Nat, x1 = n := ⟨x1.toNat, by omega⟩
  obtain ⟨n2, rfl⟩ : ∃ n : Nat, x2 = n := ⟨x2.toNat, by omega⟩
  obtain ⟨n3, rfl⟩ : ∃ n : Nat, x3 = n := ⟨x3.toNat, by omega⟩
  obtain ⟨n4, rfl⟩ : ∃ n : Nat, x4 = n := ⟨x4.toNat, by omega⟩
  obtain ⟨n5, rfl⟩ : ∃ n : Nat, x5 = n := ⟨x5.toNat, by omega⟩
  obtain ⟨n6, rfl⟩ : ∃ n : Nat, x6 = n := ⟨x6.toNat, by omega⟩
  obtain ⟨n7, rfl⟩ : ∃ n : Nat, x7 = n := ⟨x7.toNat, by omega⟩
  unfold gUWord u8Word u8WordC
  simp only [shut_eq, List.getElem?_cons_zero, List.getElem?_cons_succ, Option.bind_some, List.length_cons, List.getD_cons_zero, List.getD_cons_succ, Int.toNat_natCast]
  have w : ∀ n : Nat, n <= 255 -> IntKind.u64.wrap (n : Int) = (n : Int) := fun n h => u64_in _ (by omega)
  have sh : ∀ (n k : Nat), n <= 255 -> k <= 56 -> IntKind.u64.wrap ((n : Int) * 2 ^ k) = ((n * 2 ^ k : Nat) : Int) := fun n k h hk => by
   have h2 : 2 ^ k <= 2 ^ 56 := Nat.pow_le_pow_right (by omega) hk
   have h3 : n * 2 ^ k <= 255 * 2 ^ 56 := Nat.mul_le_mul h h2
   have e : ((n : Int) * 2 ^ k) = ((n * 2 ^ k : Nat) : Int) := by rw [Int.natCast_mul, Int.natCast_pow]; rfl
   rw [e]
   exact u64_in _ (by omega)
  have lt : ∀ (n k : Nat), n <= 255 -> k <= 56 -> n * 2 ^ k < 2 ^ 64 := fun n k h hk => by
   have h2 : 2 ^ k <= 2 ^ 56 := Nat.pow_le_pow_right (by omega) hk
   have h3 : n * 2 ^ k <= 255 * 2 ^ 56 := Nat.mul_le_mul h h2
   omega
  have p0 : n0 < 2 ^ 64 := by omega
  have p1 := Nat.or_lt_two_pow p0 (lt n1 8 (by omega) (by omega))
  have p2 := Nat.or_lt_two_pow p1 (lt n2 16 (by omega) (by omega))
  have p3 := Nat.or_lt_two_pow p2 (lt n3 24 (by omega) (by omega))
  have p4 := Nat.or_lt_two_pow p3 (lt n4 32 (by omega) (by omega))
  have p5 := Nat.or_lt_two_pow p4 (lt n5 40 (by omega) (by omega))
  have p6 := Nat.or_lt_two_pow p5 (lt n6 48 (by omega) (by omega))
  rw [w n0 (by omega), w n1 (by omega), w n2 (by omega), w n3 (by omega), w n4 (by omega), w n5 (by omega), w n6 (by omega), w n7 (by omega)]
  rw [sh n1 8 (by omega) (by omega), sh n2 16 (by omega) (by omega), sh n3 24 (by omega) (by omega), sh n4 32 (by omega) (by omega), sh n5 40 (by omega) (by omega), sh n6 48 (by omega) (by omega), sh n7 56 (by omega) (by omega)]
  rw [orN p0 (lt n1 8 (by omega) (by omega)), orN p1 (lt n2 16 (by omega) (by omega)), orN p2 (lt n3 24 (by omega) (by omega)), orN p3 (lt n4 32 (by omega) (by omega)), orN p4 (lt n5 40 (by omega) (by omega)), orN p5 (lt n6 48 (by omega) (by omega)), orN p6 (lt n7 56 (by omega) (by omega))]
  exact c_pos (by omega) (c_pos (by omega) (c_pos (by omega) (c_pos (by omega) (c_pos (by omega) (c_pos (by omega) (c_pos (by omega) (c_pos (by omega) rfl)))))))

def MASK : Nat := 9259542123273814144
theorem or_zero {a b : Nat} : (a ||| b) &&& MASK = 0 ↔ a &&& MASK = 0 /\ b &&& MASK = 0 := by
 rw [Nat.and_or_distrib_right]
 constructor
 ·intro h
  have h1 : a &&& MASK <= (a &&& MASK) ||| (b &&& MASK) := Nat.left_le_or
  have h2 : b &&& MASK <= (a &&& MASK) ||| (b &&& MASK) := Nat.right_le_or
  omega
 ·rintro ⟨h1, h2⟩
  rw [h1, h2]; rfl
theorem byte_zero : ∀ k : Fin 8, ∀ n : Fin 256, ((n.val * 2 ^ (8 * k.val)) &&& MASK = 0) = (n.val < 128) := by decide +kernel
/-- the first k bytes are characters of one byte -/
def asciiK (k : Nat) (l : List Int) : Prop := k <= l.length /\ ∀ i x, i < k -> l[i]? = some x -> x < 128
theorem ascii_drop : ∀ (k : Nat) (l : List Int), asciiK k l -> u8ValidC (l.drop k) = u8ValidC l
 | 0, l, _ => rfl
 | k + 1, l, h => by
  match l, h with
  | [], h => have := h.1; simp at this
  | c :: r, h =>
   have hc : c < 128 := h.2 0 c (by omega) rfl
   rw [valid_step (c :: r), if_neg (by simp), rune_cons, if_pos hc, if_neg (by omega)]
   exact ascii_drop k r ⟨by have := h.1; simp at this; omega, fun i x hi hx => h.2 (i + 1) x (by omega) (by simpa using hx)⟩
theorem word_spec {l : List Int} (hb : bytesOk l = true) (hl : 8 <= l.length) : ∃ N : Nat, u8Word l = N /\ N < 2 ^ 64 /\ (N &&& MASK = 0 -> asciiK 8 l) := by
 unfold u8Word
 rw [shut_eq]
 refine ⟨_, rfl, ?_, fun h => ⟨hl, ?_⟩⟩
 ·have hr : ∀ i, (l.getD i 0).toNat <= 255 := fun i => by
   rw [List.getD_eq_getElem?_getD]
   cases hx : l[i]? with
   | none => simp
   | some x => have := bytesOk_at hb hx; simp; omega
  have h0 := hr 0; have h1 := hr 1; have h2 := hr 2; have h3 := hr 3; have h4 := hr 4; have h5 := hr 5; have h6 := hr 6; have h7 := hr 7
  exact Nat.or_lt_two_pow (Nat.or_lt_two_pow (Nat.or_lt_two_pow (Nat.or_lt_two_pow (Nat.or_lt_two_pow (Nat.or_lt_two_pow (Nat.or_lt_two_pow (by omega) (by omega)) (by omega)) (by omega)) (by omega)) (by omega)) (by omega)) (by omega)
 ·rw [or_zero, or_zero, or_zero, or_zero, or_zero, or_zero, or_zero] at h
  obtain ⟨⟨⟨⟨⟨⟨⟨a0, a1⟩, a2⟩, a3⟩, a4⟩, a5⟩, a6⟩, a7⟩ := h
  have key : ∀ (k : Fin 8) (n : Nat), n <= 255 -> (n * 2 ^ (8 * k.val)) &&& MASK = 0 -> n < 128 := fun k n hn h => by
   have := byte_zero k ⟨n, by omega⟩
   simp only at this
   rw [this] at h
   exact h
  intro i x hi hx
  have hxr := bytesOk_at hb hx
  have hg : (l.getD i 0).toNat = x.toNat := by rw [List.getD_eq_getElem?_getD, hx]; rfl
  match i, hi, hg with
  | 0, _, hg => rw [hg] at a0; have := key 0 x.toNat (by omega) (by simpa using a0); omega
  | 1, _, hg => rw [hg] at a1; have := key 1 x.toNat (by omega) a1; omega
  | 2, _, hg => rw [hg] at a2; have := key 2 x.toNat (by omega) a2; omega
  | 3, _, hg => rw [hg] at a3; have := key 3 x.toNat (by omega) a3; omega
  | 4, _, hg => rw [hg] at a4; have := key 4 x.toNat (by omega) a4; omega
  | 5, _, hg => rw [hg] at a5; have := key 5 x.toNat (by omega) a5; omega
  | 6, _, hg => rw [hg] at a6; have := key 6 x.toNat (by omega) a6; omega
  | 7, _, hg => rw [hg] at a7; have := key 7 x.toNat (by omega) a7; omega
theorem ascii_add {j k : Nat} {l : List Int} (h1 : asciiK j l) (h2 : asciiK k (l.drop j)) : asciiK (j + k) l := by
 refine ⟨by have := h2.1; simp only [List.length_drop] at this; have := h1.1; omega, fun i x hi hx => ?_⟩
 by_cases h : i < j
 ·exact h1.2 i x h hx
 ·exact h2.2 (i - j) x (by omega) (by rw [List.getElem?_drop, show j + (i - j) = i by omega]; exact hx)

theorem uv_inner (A : List Int -> Option Out) (R : Option Out) (L : Nat) (v : Bool) (hA : ∀ l, l.length <= L -> bytesOk l = true -> u8ValidC l = v -> A l = R) : ∀ (f : Nat) (l : List Int), l.length < f -> l.length <= L -> bytesOk l = true -> u8ValidC l = v ->
  lpUValid_10 A f l = R
 | 0, l, h, _, _, _ => by omega
 | f + 1, l, hf, hL, hb, hv => by
  show lpUValid_10s (lpUValid_10 A f) A l = R
  unfold lpUValid_10s
  refine c_split (fun h => ?_) fun h => hA l hL hb hv
  have b1 := bytesOk_drop hb 8
  have b2 := bytesOk_drop hb 16
  have b3 := bytesOk_drop hb 24
  have l1 : 8 <= (l.drop 8).length := by simp only [List.length_drop]; omega
  have l2 : 8 <= (l.drop 16).length := by simp only [List.length_drop]; omega
  have l3 : 8 <= (l.drop 24).length := by simp only [List.length_drop]; omega
  obtain ⟨n0, e0, p0, q0⟩ := word_spec hb (show 8 <= l.length by omega)
  obtain ⟨n1, e1, p1, q1⟩ := word_spec b1 l1
  obtain ⟨n2, e2, p2, q2⟩ := word_spec b2 l2
  obtain ⟨n3, e3, p3, q3⟩ := word_spec b3 l3
  have two : ∀ (l : List Int), bytesOk l = true -> 8 <= l.length -> (bytesOk l && decide (8 <= l.length)) = true := fun l h1 h2 => by rw [h1, decide_eq_true h2]; rfl
  refine b_pos (two _ hb (by omega)) (c_pos (by omega) (b_pos (two _ b1 l1) (c_pos (by omega) (b_pos (two _ b2 l2) (c_pos (by omega) (b_pos (two _ b3 l3) ?_))))))
  dsimp only
  rw [e0, e1, e2, e3]
  rw [orN p0 p1, orN p2 p3, orN (Nat.or_lt_two_pow p0 p1) (Nat.or_lt_two_pow p2 p3)]
  rw [show (9259542123273814144 : Int) = ((MASK : Nat) : Int) from rfl, andN (Nat.or_lt_two_pow (Nat.or_lt_two_pow p0 p1) (Nat.or_lt_two_pow p2 p3)) (by decide)]
  refine c_split (fun hz => c_pos (by omega) ?_) fun _ => hA l hL hb hv
  have hz : ((n0 ||| n1) ||| (n2 ||| n3)) &&& MASK = 0 := by omega
  rw [or_zero, or_zero, or_zero] at hz
  have hasc := ascii_add (ascii_add (ascii_add (q0 hz.1.1) (q1 hz.1.2)) (q2 hz.2.1)) (q3 hz.2.2)
  exact uv_inner A R L v hA f _ (by simp only [List.length_drop]; omega) (by simp only [List.length_drop]; omega) (bytesOk_drop hb 32) ((ascii_drop 32 l hasc).trans hv)

/-! ### the table -/
def tabSpec (n s lo hi : Int) : Bool :=
 decide ((s = 1 /\ (n < 194 \/ 244 < n)) \/ (s = 2 /\ 194 <= n /\ n <= 223 /\ lo = 128 /\ hi = 191) \/ (s = 3 /\ 224 <= n /\ n <= 239 /\ lo = (if n = 224 then 160 else 128) /\ hi = (if n = 237 then 159 else 191)) \/
  (s = 4 /\ 240 <= n /\ n <= 244 /\ lo = (if n = 240 then 144 else 128) /\ hi = (if n = 244 then 143 else 191)))
def tabB (n : Nat) : Bool := match u8FirstC[n]? with
 | some f => match u8AcceptC[(Int.fdiv f (2 ^ 4)).toNat]? with
  | some (.agg [.int .u8 lo, .int .u8 hi]) => decide (0 <= Int.fdiv f (2 ^ 4) /\ Int.fdiv f (2 ^ 4) < 16) && tabSpec n (IntKind.i64.wrap (IntKind.u8.wrap ((BitVec.ofInt 8 f &&& BitVec.ofInt 8 7).toNat))) lo hi
  | _ => false
 | none => false
theorem tab_all : ∀ n : Fin 256, 128 <= n.val -> tabB n.val = true := by decide +kernel
theorem tab_of {e : Int} (h1 : 128 <= e) (h2 : e <= 255) : ∃ f lo hi, u8First[e.toNat]? = some f /\ (0 <= Int.fdiv f (2 ^ 4) /\ Int.fdiv f (2 ^ 4) < 16) /\ u8Accept[(Int.fdiv f (2 ^ 4)).toNat]? = some (.agg [.int .u8 lo, .int .u8 hi]) /\
  tabSpec e (IntKind.i64.wrap (IntKind.u8.wrap ((BitVec.ofInt 8 f &&& BitVec.ofInt 8 7).toNat))) lo hi = true := by
 have h := tab_all ⟨e.toNat, by omega⟩ (by simp; omega)
 simp only at h
 unfold tabB at h
 unfold u8First u8Accept
 simp only [shut_eq]
 split at h
 ·rename_i f hf
  split at h
  ·rename_i lo hi ha
   simp only [Bool.and_eq_true, decide_eq_true_eq] at h
   refine ⟨f, lo, hi, hf, h.1, ha, ?_⟩
   rw [show e = ((e.toNat : Nat) : Int) by omega]
   exact h.2
  ·cases h
 ·cases h

theorem at_true {l : List Int} {k : Nat} {x : Int} (h : l[k]? = some x) : u8At l k = decide (128 <= x /\ x < 192) := by unfold u8At; rw [h]
theorem uv_lp : ∀ (f : Nat) (l : List Int), l.length < f -> bytesOk l = true -> lpUValid_2 (some (.ret [.cl (.bool false)] [])) (some (.ret [.cl (.bool true)] [])) f l = some (.ret [.cl (.bool (u8ValidC l))] [])
 | 0, l, h, _ => by omega
 | f + 1, l, hf, hb => by
  have again : ∀ l' : List Int, l'.length < l.length -> bytesOk l' = true -> u8ValidC l' = u8ValidC l -> lpUValid_2 (some (.ret [.cl (.bool false)] [])) (some (.ret [.cl (.bool true)] [])) f l' = some (.ret [.cl (.bool (u8ValidC l))] []) := fun l' h1 h2 h3 => by
   rw [<- h3]; exact uv_lp f l' (by omega) h2
  show lpUValid_2s (lpUValid_2 (some (.ret [.cl (.bool false)] [])) (some (.ret [.cl (.bool true)] [])) f) (some (.ret [.cl (.bool false)] [])) (some (.ret [.cl (.bool true)] [])) l = _
  generalize lpUValid_2 (some (.ret [.cl (.bool false)] [])) (some (.ret [.cl (.bool true)] [])) f = ag at again
  have hl := (bytesOk_spec hb).1
  unfold lpUValid_2s
  cases l with
  | nil => exact c_neg (by simp) rfl
  | cons c r =>
  have hc := bytesOk_at hb (i := 0) (x := c) rfl
  have hbr := bytesOk_tail hb
  simp only [List.tail_cons] at hbr
  refine c_pos (by simp only [List.length_cons]; omega) (c_pos (by simp only [List.length_cons]; omega) ?_)
  simp only [List.getElem?_cons_zero, Option.bind_some]
  refine c_split (fun h7 => c_pos (by simp only [List.length_cons]; omega) ?_) fun h7 => ?_
  · -- characters of one byte
   have hone : u8ValidC r = u8ValidC (c :: r) := by
    rw [valid_step (c :: r), if_neg (by simp), rune_cons, if_pos h7, if_neg (by omega)]; rfl
   rw [List.drop_one, List.tail_cons]
   have two : ∀ (l : List Int), bytesOk l = true -> 8 <= l.length -> (bytesOk l && decide (8 <= l.length)) = true := fun l h1 h2 => by rw [h1, decide_eq_true h2]; rfl
   refine c_split (fun h8 => b_pos (two r hbr (by omega)) ?_) fun _ => again r (by simp) hbr hone
   obtain ⟨n0, e0, p0, q0⟩ := word_spec hbr (show 8 <= r.length by omega)
   rw [e0, show (9259542123273814144 : Int) = ((MASK : Nat) : Int) from rfl, andN p0 (by decide)]
   refine c_split (fun hz => c_pos (by omega) ?_) fun _ => again r (by simp) hbr hone
   have a0 := q0 (by omega)
   have hd8 := (ascii_drop 8 r a0).trans hone
   have hb8 := bytesOk_drop hbr 8
   refine c_split (fun h16 => ?_) fun _ => again _ (by simp only [List.length_drop, List.length_cons]; omega) hb8 hd8
   have hb16 := bytesOk_drop hb8 8
   have l1 : 8 <= (List.drop 8 r).length := by omega
   have l2 : 8 <= (List.drop 8 (List.drop 8 r)).length := by rw [List.length_drop]; omega
   obtain ⟨n1, e1, p1, q1⟩ := word_spec hb8 l1
   obtain ⟨n2, e2, p2, q2⟩ := word_spec hb16 l2
   refine b_pos (two _ hb8 l1) (c_pos (by omega) (b_pos (two _ hb16 l2) ?_))
   rw [e1, e2, orN p1 p2, andN (Nat.or_lt_two_pow p1 p2) (by decide)]
   refine c_split (fun hz => c_pos (by omega) ?_) fun _ => again _ (by simp only [List.length_drop, List.length_cons]; omega) hb8 hd8
   have hz : (n1 ||| n2) &&& MASK = 0 := by omega
   rw [or_zero] at hz
   have a12 := ascii_add (q1 hz.1) (q2 hz.2)
   have hb24 := bytesOk_drop hb8 16
   have hd24 := (ascii_drop 16 _ a12).trans hd8
   rw [shut_eq]
   exact uv_inner ag _ (List.drop 16 (List.drop 8 r)).length (u8ValidC (c :: r)) (fun l' h1 h2 h3 => again l' (by simp only [List.length_drop, List.length_cons] at h1 ⊢; omega) h2 h3) FUEL _ (by simp only [List.length_cons] at hl; simp only [List.length_drop]; unfold FUEL; omega) (Nat.le_refl _) hb24 hd24
  ·obtain ⟨fv, lo, hi, t1, t2, t3, t4⟩ := tab_of (e := c) (by omega) hc.2
   refine c_pos (by omega) (c_pos (by omega) ?_)
   simp only [t1, Option.bind_some]
   refine c_pos t2.1 (c_pos t2.2 ?_)
   simp only [t3, Option.bind_some]
   refine b_pos rfl ?_
   generalize IntKind.i64.wrap (IntKind.u8.wrap ((BitVec.ofInt 8 fv &&& BitVec.ofInt 8 7).toNat)) = s at t4 ⊢
   have t4 := of_decide_eq_true t4
   show cond (decide (s = 2)) _ _ = _
   simp only [show cvInt ((cell1 (CV.agg [.int .u8 lo, .int .u8 hi])).headD .nili) = lo from rfl, show cvInt ((cell1 (CV.agg [.int .u8 lo, .int .u8 hi])).tail.headD .nili) = hi from rfl]
   have bad : u8RuneC (c :: r) = 0 -> (some (Out.ret [.cl (.bool false)] []) : Option Out) = some (.ret [.cl (.bool (u8ValidC (c :: r)))] []) := fun h => by
    rw [valid_step (c :: r), if_neg (by simp), if_pos h]
   have good : ∀ k : Nat, 0 < k -> u8RuneC (c :: r) = k -> k <= (c :: r).length -> ag ((c :: r).drop k) = some (.ret [.cl (.bool (u8ValidC (c :: r)))] []) := fun k h0 h hk => by
    refine again _ (by simp only [List.length_drop, List.length_cons] at hk ⊢; omega) (bytesOk_drop hb k) ?_
    rw [valid_step (c :: r), if_neg (by simp), if_neg (by omega), h]
    rfl
   have hx : ∀ k, k < r.length -> ∃ x, r[k]? = some x /\ 0 <= x /\ x <= 255 := fun k hk => by
    obtain ⟨x, hx⟩ := get_some (b := r) hk
    exact ⟨x, hx, bytesOk_at hbr hx⟩
   have hnone : ∀ k, r.length <= k -> ¬ u8At r k = true := fun k hk => by unfold u8At; rw [List.getElem?_eq_none hk]; simp
   have hf : ∀ (k : Nat) (x : Int), r[k]? = some x -> (x < 128 \/ 191 < x) -> ¬ u8At r k = true := fun k x hx h => by rw [at_true hx, decide_eq_true_eq]; omega
   have ht : ∀ (k : Nat) (x : Int), r[k]? = some x -> 128 <= x -> x <= 191 -> u8At r k = true := fun k x hx h h' => by rw [at_true hx, decide_eq_true_eq]; omega
   have hd : ∀ x, r[0]? = some x -> r.headD 0 = x := fun x hx => by cases r with | nil => cases hx | cons y t => simpa using hx
   simp only [List.length_cons] at good ⊢
   rcases t4 with ⟨rfl, hn⟩ | ⟨rfl, hn1, hn2, rfl, rfl⟩ | ⟨rfl, hn1, hn2, hlo, hhi⟩ | ⟨rfl, hn1, hn2, hlo, hhi⟩
   ·refine c_neg (by omega) (c_neg (by omega) (c_neg (by omega) (bad ?_)))
    rw [rune_cons, if_neg h7, if_neg (by omega), if_neg (by omega), if_neg (by omega)]
   ·have zero : ¬ u8At r 0 = true -> u8RuneC (c :: r) = 0 := fun h => by rw [rune_cons, if_neg h7, if_neg (fun h' => h h'.2.2), if_neg (by omega), if_neg (by omega)]
    refine c_pos rfl (c_split (fun hs => bad (zero (hnone 0 (by omega)))) fun hs => ?_)
    obtain ⟨x, hx0, hxr⟩ := hx 0 (by omega)
    simp only [List.getElem?_cons_succ, hx0, Option.bind_some]
    refine c_pos (by omega) (c_split (fun hs => bad (zero (hf 0 x hx0 (by omega)))) fun hs1 => c_pos (by omega) (c_split (fun hs => bad (zero (hf 0 x hx0 (by omega)))) fun hs2 => c_pos (by omega) ?_))
    exact good 2 (by omega) (by rw [rune_cons, if_neg h7, if_pos ⟨hn1, hn2, ht 0 x hx0 (by omega) (by omega)⟩]; rfl) (by omega)
   ·have zero : ¬ (u8At r 0 = true /\ u8At r 1 = true /\ (c = 224 -> 160 <= r.headD 0) /\ (c = 237 -> r.headD 0 < 160)) -> u8RuneC (c :: r) = 0 := fun h => by rw [rune_cons, if_neg h7, if_neg (by omega), if_neg (fun h' => h h'.2.2), if_neg (by omega)]
    refine c_neg (by omega) (c_pos rfl (c_split (fun hs => bad (zero fun h => hnone 1 (by omega) h.2.1)) fun hs => ?_))
    obtain ⟨x, hx0, hxr⟩ := hx 0 (by omega)
    obtain ⟨y, hy0, hyr⟩ := hx 1 (by omega)
    have hdx := hd x hx0
    simp only [List.getElem?_cons_succ, hx0, hy0, Option.bind_some]
    have zx : (x < lo \/ hi < x) -> u8RuneC (c :: r) = 0 := fun hh => zero fun h => by
     have h1 := h.1
     rw [at_true hx0, decide_eq_true_eq] at h1
     rw [hdx] at h
     have := h.2.2.1
     have := h.2.2.2
     rw [hlo, hhi] at hh
     split at hh <;> split at hh <;> omega
    refine c_pos (by omega) (c_split (fun hs => bad (zx (.inl hs))) fun hs1 => c_pos (by omega) (c_split (fun hs => bad (zx (.inr hs))) fun hs2 => ?_))
    refine c_pos (by omega) (c_split (fun hs => bad (zero fun h => hf 1 y hy0 (by omega) h.2.1)) fun hs3 => c_pos (by omega) (c_split (fun hs => bad (zero fun h => hf 1 y hy0 (by omega) h.2.1)) fun hs4 => c_pos (by omega) ?_))
    refine good 3 (by omega) ?_ (by omega)
    rw [hlo] at hs1
    rw [hhi] at hs2
    rw [rune_cons, if_neg h7, if_neg (by omega), if_pos ⟨hn1, hn2, ht 0 x hx0 (by split at hs1 <;> omega) (by split at hs2 <;> omega), ht 1 y hy0 (by omega) (by omega), fun e => by rw [if_pos e] at hs1; rw [hdx]; omega, fun e => by rw [if_pos e] at hs2; rw [hdx]; omega⟩]
    rfl
   ·have zero : ¬ (u8At r 0 = true /\ u8At r 1 = true /\ u8At r 2 = true /\ (c = 240 -> 144 <= r.headD 0) /\ (c = 244 -> r.headD 0 < 144)) -> u8RuneC (c :: r) = 0 := fun h => by rw [rune_cons, if_neg h7, if_neg (by omega), if_neg (by omega), if_neg (fun h' => h h'.2.2)]
    refine c_neg (by omega) (c_neg (by omega) (c_pos rfl (c_split (fun hs => bad (zero fun h => hnone 2 (by omega) h.2.2.1)) fun hs => ?_)))
    obtain ⟨x, hx0, hxr⟩ := hx 0 (by omega)
    obtain ⟨y, hy0, hyr⟩ := hx 1 (by omega)
    obtain ⟨z, hz0, hzr⟩ := hx 2 (by omega)
    have hdx := hd x hx0
    simp only [List.getElem?_cons_succ, hx0, hy0, hz0, Option.bind_some]
    have zx : (x < lo \/ hi < x) -> u8RuneC (c :: r) = 0 := fun hh => zero fun h => by
     have h1 := h.1
     rw [at_true hx0, decide_eq_true_eq] at h1
     rw [hdx] at h
     have := h.2.2.2.1
     have := h.2.2.2.2
     rw [hlo, hhi] at hh
     split at hh <;> split at hh <;> omega
    refine c_pos (by omega) (c_split (fun hs => bad (zx (.inl hs))) fun hs1 => c_pos (by omega) (c_split (fun hs => bad (zx (.inr hs))) fun hs2 => ?_))
    refine c_pos (by omega) (c_split (fun hs => bad (zero fun h => hf 1 y hy0 (by omega) h.2.1)) fun hs3 => c_pos (by omega) (c_split (fun hs => bad (zero fun h => hf 1 y hy0 (by omega) h.2.1)) fun hs4 => ?_))
    refine c_pos (by omega) (c_split (fun hs => bad (zero fun h => hf 2 z hz0 (by omega) h.2.2.1)) fun hs5 => c_pos (by omega) (c_split (fun hs => bad (zero fun h => hf 2 z hz0 (by omega) h.2.2.1)) fun hs6 => c_pos (by omega) ?_))
    refine good 4 (by omega) ?_ (by omega)
    rw [hlo] at hs1
    rw [hhi] at hs2
    rw [rune_cons, if_neg h7, if_neg (by omega), if_neg (by omega), if_pos ⟨hn1, hn2, ht 0 x hx0 (by split at hs1 <;> omega) (by split at hs2 <;> omega), ht 1 y hy0 (by omega) (by omega), ht 2 z hz0 (by omega) (by omega), fun e => by rw [if_pos e] at hs1; rw [hdx]; omega, fun e => by rw [if_pos e] at hs2; rw [hdx]; omega⟩]
    rfl
theorem nUValid (b : List Int) (hp : bytesOk b = true) : gUValid b = some (.ret [.cl (.bool (u8Valid b))] []) := by
 unfold gUValid u8Valid
 simp only [shut_eq]
 refine b_pos (by simp) (c_pos (by omega) ?_)
 rw [show (((b.length : Nat) : Int)).toNat = b.length from rfl, List.take_length]
 exact uv_lp FUEL b (by have := (bytesOk_spec hp).1; unfold FUEL; omega) hp
end Go.Proofs.YtfkpjbbkdkcdcaaDoorA

namespace Go.Proofs.YtfkpjbbkdkcdcaaDoorA
open IntWalk (i64_in u8_in u32_in u64_in i64_quo u8_quo rem_in)

/-! ### bits -/
theorem mask_mod : ∀ (k : Fin 8) (n : Fin 256), (IntKind.u8.wrap ((BitVec.ofInt 8 (n.val : Int) &&& BitVec.ofInt 8 (IntKind.u8.wrap (IntKind.u8.wrap (1 * 2 ^ (min k.val 8)) - 1))).toNat) = 0) = ((n.val : Int) % 2 ^ k.val = 0) := by decide +kernel
theorem last_get (y : Int) (r : List Int) (x : Int) : (x :: y :: r)[(r.length + 1)]? = some ((y :: r).getLast (by simp)) := by
 rw [List.getElem?_cons_succ, List.getLast_eq_getElem]
 simp
theorem nDStrip (b : List Int) (hp : bytesOk b = true) : gDStrip b = some (.ret [.cl (.bool (derStrip b))] []) := by
 unfold gDStrip derStrip
 rw [shut_eq]
 match b, hp with
 | [], _ => rfl
 | [x], hp =>
  have hx := bytesOk_at hp (i := 0) (x := x) rfl
  refine c_neg (by simp) (c_pos (by simp) ?_)
  simp only [List.getElem?_cons_zero, Option.bind_some]
  refine c_split (fun h => ret_bool ?_) fun h => c_pos (by simp) (c_pos (by simp) rfl)
  exact (decide_eq_false (by omega)).symm
 | x :: y :: r, hp =>
  have hx := bytesOk_at hp (i := 0) (x := x) rfl
  have hl := (bytesOk_spec hp).1
  have hg := last_get y r x
  have hz := bytesOk_at hp hg
  simp only [List.length_cons] at hl
  simp only [derStripC]
  generalize (y :: r).getLast (by simp) = z at *
  refine c_neg (by simp only [List.length_cons]; omega) (c_pos (by simp only [List.length_cons]; omega) ?_)
  simp only [List.getElem?_cons_zero, Option.bind_some]
  refine c_split (fun h => ret_bool ?_) fun h => c_neg (by simp only [List.length_cons]; omega) ?_
  ·rw [show decide (x <= 7) = false from decide_eq_false (by omega)]; rfl
  ·rw [show IntKind.i64.wrap ((((x :: y :: r).length : Nat) : Int) - 1) = ((r.length + 1 : Nat) : Int) from (i64_in ((((x :: y :: r).length : Nat) : Int) - 1) (by simp only [List.length_cons]; omega)).trans (by simp only [List.length_cons]; omega)]
   refine c_pos (by omega) (c_pos (by simp only [List.length_cons]; omega) ?_)
   rw [show (((r.length + 1 : Nat) : Int)).toNat = r.length + 1 from rfl, hg, Option.bind_some]
   refine c_pos (by simp only [List.length_cons]; omega) (c_neg (by omega) (ret_bool ?_))
   have := mask_mod ⟨x.toNat, by omega⟩ ⟨z.toNat, by omega⟩
   simp only [Int.toNat_of_nonneg hz.1] at this
   rw [show decide (x <= 7) = true from decide_eq_true (by omega), Bool.true_and]
   rw [Bool.eq_iff_iff]
   simp only [decide_eq_true_eq]
   rw [this]
/-! ### numbers by 7 bits -/
theorem or7 {n x : Int} (h0 : 0 <= n) (h1 : n < 72057594037927936) (h2 : 0 <= x) (h3 : x <= 127) : ((BitVec.ofInt 64 (n * 128) ||| BitVec.ofInt 64 x).toNat : Int) = n * 128 + x := by
 obtain ⟨a, rfl⟩ : ∃ a : Nat, n = a := ⟨n.toNat, by omega⟩
 obtain ⟨b, rfl⟩ : ∃ b : Nat, x = b := ⟨x.toNat, by omega⟩
 rw [BitVec.toNat_or]
 have e1 : (BitVec.ofInt 64 ((a : Int) * 128)).toNat = 2 ^ 7 * a := by rw [BitVec.toNat_ofInt]; omega
 have e2 : (BitVec.ofInt 64 (b : Int)).toNat = b := by rw [BitVec.toNat_ofInt]; omega
 rw [e1, e2, <- Nat.two_pow_add_eq_or_of_lt (by omega : b < 2 ^ 7)]
 omega
theorem and7 : ∀ n : Fin 256, IntKind.u8.wrap ((BitVec.ofInt 8 (n.val : Int) &&& ~~~ BitVec.ofInt 8 128).toNat) = (n.val : Int) % 128 /\ (IntKind.u8.wrap ((BitVec.ofInt 8 (n.val : Int) &&& BitVec.ofInt 8 128).toNat) = 0) = ((n.val : Int) < 128) := by decide +kernel
theorem num_go (b : List Int) (hb : bytesOk b = true) : ∀ (f i : Nat) (n : Int), i <= b.length -> b.length < f + i -> 0 <= n -> n < 4294967296 -> 
  lpONumber_3 (fun _ _ _ _ _ _ _ _ _ _ _ _ _ _ _ => some (.ret [.cl (.int .u32 0), .cl (.int .i64 0)] [])) (fun _ _ _ _ _ _ _ _ _ _ _ _ _ _ _ _ _ => some (.ret [.cl (.int .u32 0), .cl (.int .i64 0)] [])) (fun y33 y34 _ _ _ _ _ _ _ _ _ _ _ _ _ _ _ _ _ _ _ _ _ _ _ _ _ _ _ _ _ => some (.ret [.cl (.int .u32 y33), .cl (.int .i64 y34)] [])) (fun _ _ _ _ _ _ _ _ _ _ _ _ _ _ => some (.ret [.cl (.int .u32 0), .cl (.int .i64 0)] []))
   (fun y33 y34 _ _ _ _ _ _ _ _ _ _ _ _ _ _ _ _ _ _ _ _ _ _ _ _ _ _ => some (.ret [.cl (.int .u32 y33), .cl (.int .i64 y34)] [])) (fun _ _ _ _ => some (.ret [.cl (.int .u32 0), .cl (.int .i64 0)] [])) f n b (b.length : Int) i = some (.ret [.cl (.int .u32 (oidNumG n i (b.drop i)).1), .cl (.int .i64 (oidNumG n i (b.drop i)).2)] [])
 | 0, i, n, hi, hf, _, _ => by omega
 | f + 1, i, n, hi, hf, h0, h1 => by
  show lpONumber_3s (lpONumber_3 (fun _ _ _ _ _ _ _ _ _ _ _ _ _ _ _ => some (.ret [.cl (.int .u32 0), .cl (.int .i64 0)] [])) (fun _ _ _ _ _ _ _ _ _ _ _ _ _ _ _ _ _ => some (.ret [.cl (.int .u32 0), .cl (.int .i64 0)] [])) (fun y33 y34 _ _ _ _ _ _ _ _ _ _ _ _ _ _ _ _ _ _ _ _ _ _ _ _ _ _ _ _ _ => some (.ret [.cl (.int .u32 y33), .cl (.int .i64 y34)] [])) (fun _ _ _ _ _ _ _ _ _ _ _ _ _ _ => some (.ret [.cl (.int .u32 0), .cl (.int .i64 0)] []))
   (fun y33 y34 _ _ _ _ _ _ _ _ _ _ _ _ _ _ _ _ _ _ _ _ _ _ _ _ _ _ => some (.ret [.cl (.int .u32 y33), .cl (.int .i64 y34)] [])) (fun _ _ _ _ => some (.ret [.cl (.int .u32 0), .cl (.int .i64 0)] [])) f) _ _ _ _ _ _ n b (b.length : Int) i = _
  have hl := (bytesOk_spec hb).1
  unfold lpONumber_3s
  refine c_split (fun h => c_pos (by omega) (c_pos h ?_)) fun h => ?_
  ·obtain ⟨c, hc⟩ := get_some (b := b) (i := i) (by omega)
   have hcr := bytesOk_at hb hc
   rw [show (i : Int).toNat = i from rfl, hc, Option.bind_some, drop_cons hc]
   have a7 := and7 ⟨c.toNat, by omega⟩
   simp only [Int.toNat_of_nonneg hcr.1] at a7
   have step : ∀ (X : Option Out), ¬ 33554431 < n -> ¬ ((i : Int) = 0 /\ c = 128) -> (IntKind.u64.wrap (n * 2 ^ 7) = n * 128) /\ IntKind.u64.wrap (IntKind.u8.wrap ((BitVec.ofInt 8 c &&& ~~~ BitVec.ofInt 8 128).toNat)) = c % 128 /\ IntKind.u64.wrap ((BitVec.ofInt 64 (n * 128) ||| BitVec.ofInt 64 (c % 128)).toNat) = n * 128 + c % 128 /\
     oidNumG n i (c :: b.drop (i + 1)) = if c < 128 then (n * 128 + c, (i : Int) + 1) else oidNumG (n * 128 + (c - 128)) ((i : Int) + 1) (b.drop (i + 1)) := fun X g1 g2 => by
    refine ⟨(u64_in _ (by omega)).trans (by omega), ?_, ?_, ?_⟩
    ·rw [a7.1]; exact u64_in _ (by omega)
    ·rw [or7 h0 (by omega) (by omega) (by omega)]; exact u64_in _ (by omega)
    ·conv => lhs; unfold oidNumG
     rw [if_neg (by rintro (h | h); exact g2 h; exact g1 h)]
   have stop : ((i : Int) = 0 /\ c = 128) \/ 33554431 < n -> (some (.ret [.cl (.int .u32 0), .cl (.int .i64 0)] []) : Option Out) = some (.ret [.cl (.int .u32 (oidNumG n i (c :: b.drop (i + 1))).1), .cl (.int .i64 (oidNumG n i (c :: b.drop (i + 1))).2)] []) := fun h => by
    unfold oidNumG
    rw [if_pos h]
   have go : ∀ (g1 : ¬ 33554431 < n) (g2 : ¬ ((i : Int) = 0 /\ c = 128)) (R : Option Out) (K : Int -> Int -> Option Out) (A : Option Out), True := fun _ _ _ _ _ => trivial
   refine c_split (fun hi0 => c_split (fun h128 => stop (.inl ⟨hi0, h128⟩)) fun h128 => c_split (fun hn => stop (.inr hn)) fun hn => ?_) fun hi0 => c_split (fun hn => stop (.inr hn)) fun hn => ?_
   ·obtain ⟨s1, s2, s3, s4⟩ := step none hn (by omega)
    dsimp only
    rw [s1, s2, s3, s4]
    refine c_split (fun hz => ?_) fun hz => ?_
    ·have hz : c < 128 := by rwa [a7.2] at hz
     rw [if_pos hz, show c % 128 = c by omega, show IntKind.u32.wrap (n * 128 + c) = n * 128 + c from u32_in _ (by omega), show IntKind.i64.wrap ((i : Int) + 1) = (i : Int) + 1 from i64_in _ (by omega)]
    ·have hz : ¬ c < 128 := by rwa [a7.2] at hz
     rw [if_neg hz, show c % 128 = c - 128 by omega, show IntKind.i64.wrap ((i : Int) + 1) = ((i + 1 : Nat) : Int) from (i64_in _ (by omega)).trans (by omega)]
     exact num_go b hb f (i + 1) _ (by omega) (by omega) (by omega) (by omega)
   ·obtain ⟨s1, s2, s3, s4⟩ := step none hn (by omega)
    dsimp only
    rw [s1, s2, s3, s4]
    refine c_split (fun hz => ?_) fun hz => ?_
    ·have hz : c < 128 := by rwa [a7.2] at hz
     rw [if_pos hz, show c % 128 = c by omega, show IntKind.u32.wrap (n * 128 + c) = n * 128 + c from u32_in _ (by omega), show IntKind.i64.wrap ((i : Int) + 1) = (i : Int) + 1 from i64_in _ (by omega)]
    ·have hz : ¬ c < 128 := by rwa [a7.2] at hz
     rw [if_neg hz, show c % 128 = c - 128 by omega, show IntKind.i64.wrap ((i : Int) + 1) = ((i + 1 : Nat) : Int) from (i64_in _ (by omega)).trans (by omega)]
     exact num_go b hb f (i + 1) _ (by omega) (by omega) (by omega) (by omega)
  ·rw [drop_nil (by omega)]
   rfl
theorem nONumber (b : List Int) (hp : bytesOk b = true) : gONumber b = some (.ret [.cl (.int .u32 (oidNumber b).1), .cl (.int .i64 (oidNumber b).2)] []) := by
 unfold gONumber oidNumber
 simp only [shut_eq]
 exact num_go b hp FUEL 0 0 (by omega) (by have := (bytesOk_spec hp).1; unfold FUEL; omega) (by omega) (by omega)
theorem nONumbers (b : List Int) (hp : true = true) : gONumbers b = some (.ret [.fn (.func 154) [] [.ptr 0 0 0]] [some ⟨.var [.cl (.sli .u8 b)], false⟩]) := rfl
end Go.Proofs.YtfkpjbbkdkcdcaaDoorA

namespace Go.Proofs.YtfkpjbbkdkcdcaaDoorA
open IntWalk (i64_in u8_in u32_in u64_in i64_quo u8_quo rem_in)

theorem numG_rng : ∀ (b : List Int) (n i : Int), (∀ x ∈ b, 0 <= x /\ x <= 255) -> 0 <= n -> 0 <= i -> (0 <= (oidNumG n i b).1 /\ (oidNumG n i b).1 <= 4294967295) /\ ((oidNumG n i b).2 = 0 \/ i < (oidNumG n i b).2 /\ (oidNumG n i b).2 <= i + b.length)
 | [], n, i, _, _, _ => by simp [oidNumG]
 | c :: r, n, i, hb, hn, hi => by
  have hc := hb c (by simp)
  unfold oidNumG
  split
  ·simp
  ·rename_i h
   split
   ·exact ⟨by omega, .inr (by simp only [List.length_cons]; omega)⟩
   ·have := numG_rng r (n * 128 + (c - 128)) (i + 1) (fun x hx => hb x (by simp [hx])) (by omega) (by omega)
    refine ⟨this.1, this.2.imp id fun h => ?_⟩
    simp only [List.length_cons]; omega
theorem number_rng {b : List Int} (hb : bytesOk b = true) : (0 <= (oidNumberC b).1 /\ (oidNumberC b).1 <= 4294967295) /\ ((oidNumberC b).2 = 0 \/ 0 < (oidNumberC b).2 /\ (oidNumberC b).2 <= b.length) := by
 have := numG_rng b 0 0 (bytesOk_spec hb).2 (by omega) (by omega)
 unfold oidNumberC
 exact ⟨this.1, this.2.imp id fun h => by omega⟩
theorem nums_more : ∀ (n m : Nat) (b : List Int), bytesOk b = true -> b.length <= n -> b.length <= m -> oidNumsF n b = oidNumsF m b
 | 0, 0, b, _, _, _ => rfl
 | 0, m + 1, b, _, h, _ => by
  have : b = [] := List.eq_nil_of_length_eq_zero (by omega)
  subst this; simp [oidNumsF]
 | n + 1, 0, b, _, _, h => by
  have : b = [] := List.eq_nil_of_length_eq_zero (by omega)
  subst this; simp [oidNumsF]
 | n + 1, m + 1, b, hb, h1, h2 => by
  unfold oidNumsF
  by_cases h : b = []
  ·rw [if_pos h, if_pos h]
  ·rw [if_neg h, if_neg h]
   by_cases h0 : (oidNumberC b).2 = 0
   ·rw [if_pos h0, if_pos h0]
   ·rw [if_neg h0, if_neg h0]
    have := (number_rng hb).2
    rw [nums_more n m _ (bytesOk_drop hb _) (by simp only [List.length_drop]; omega) (by simp only [List.length_drop]; omega)]
theorem nums_step {b : List Int} (hb : bytesOk b = true) : oidNumsC b = if b = [] then [] else if (oidNumberC b).2 = 0 then [((oidNumberC b).1, false)] else ((oidNumberC b).1, true) :: oidNumsC (b.drop (oidNumberC b).2.toNat) := by
 unfold oidNumsC
 cases b with
 | nil => rfl
 | cons c r =>
  rw [if_neg (by simp)]
  conv => lhs; rw [List.length_cons]; unfold oidNumsF
  rw [if_neg (by simp)]
  by_cases h0 : (oidNumberC (c :: r)).2 = 0
  ·rw [if_pos h0, if_pos h0]
  ·rw [if_neg h0, if_neg h0]
   have := (number_rng hb).2
   rw [nums_more _ _ _ (bytesOk_drop hb _) (by simp only [List.length_drop, List.length_cons] at *; omega) (Nat.le_refl _)]

/-! ### the iterator -/
def rowOf2 (p : Int × Bool) : List CV := [.int .u32 p.1, .bool p.2]
theorem it_lp (l : Nat) : ∀ (f : Nat) (b : List Int), bytesOk b = true -> b.length < f -> ∃ out, lpONums_0 l
  (fun _ _ _ _ _ _ _ _ _ _ _ _ _ _ y15 => some (.ret [] [some ⟨.var [.cl (.sli .u8 y15)], false⟩])) (fun _ _ _ _ _ _ _ _ _ _ _ _ _ _ _ _ y32 => some (.ret [] [some ⟨.var [.cl (.sli .u8 y32)], false⟩])) (fun _ _ y35 => some (.ret [] [some ⟨.var [.cl (.sli .u8 y35)], false⟩])) f b = some out /\ Hands out (some ((oidNumsC b).map rowOf2))
 | 0, b, _, h => by omega
 | f + 1, b, hb, hf => by
  have ih := fun b' h1 h2 => it_lp l f b' h1 h2
  generalize hag : lpONums_0 l (fun _ _ _ _ _ _ _ _ _ _ _ _ _ _ y15 => some (.ret [] [some ⟨.var [.cl (.sli .u8 y15)], false⟩])) (fun _ _ _ _ _ _ _ _ _ _ _ _ _ _ _ _ y32 => some (.ret [] [some ⟨.var [.cl (.sli .u8 y32)], false⟩])) (fun _ _ y35 => some (.ret [] [some ⟨.var [.cl (.sli .u8 y35)], false⟩])) f = ag at ih
  have e : lpONums_0 l (fun _ _ _ _ _ _ _ _ _ _ _ _ _ _ y15 => some (.ret [] [some ⟨.var [.cl (.sli .u8 y15)], false⟩])) (fun _ _ _ _ _ _ _ _ _ _ _ _ _ _ _ _ y32 => some (.ret [] [some ⟨.var [.cl (.sli .u8 y32)], false⟩])) (fun _ _ y35 => some (.ret [] [some ⟨.var [.cl (.sli .u8 y35)], false⟩])) (f + 1) b =
    lpONums_0s l ag (fun _ _ _ _ _ _ _ _ _ _ _ _ _ _ y15 => some (.ret [] [some ⟨.var [.cl (.sli .u8 y15)], false⟩])) (fun _ _ _ _ _ _ _ _ _ _ _ _ _ _ _ _ y32 => some (.ret [] [some ⟨.var [.cl (.sli .u8 y32)], false⟩])) (fun _ _ y35 => some (.ret [] [some ⟨.var [.cl (.sli .u8 y35)], false⟩])) b := by rw [<- hag]; rfl
  rw [e]
  unfold lpONums_0s
  rw [nums_step hb]
  by_cases h : b = []
  ·subst h
   exact ⟨_, c_neg (by simp) rfl, .inl rfl⟩
  ·have hlen : 0 < b.length := List.length_pos_iff.2 h
   rw [if_neg h]
   have hr := number_rng hb
   have e1 : oidNumber b = oidNumberC b := by unfold oidNumber; rw [shut_eq]
   rw [e1]
   by_cases h0 : (oidNumberC b).2 = 0
   ·rw [if_pos h0]
    refine ⟨.yld [.int .u32 (oidNumberC b).1, .bool (decide ((0 : Int) < (oidNumberC b).2))] (.ret [] [some ⟨.var [.cl (.sli .u8 b)], false⟩]) (.ret [] [some ⟨.var [.cl (.sli .u8 b)], false⟩]), c_pos (by omega) (b_pos hb (b_pos (Nat.beq_refl l) ?_)), ?_⟩
    ·dsimp only
     rw [decide_eq_true h0]; rfl
    ·refine ⟨?_, .inr rfl, .inl rfl⟩
     show [CV.int .u32 (oidNumberC b).1, .bool (decide ((0 : Int) < (oidNumberC b).2))] = [.int .u32 (oidNumberC b).1, .bool false]
     rw [decide_eq_false (by omega)]
   ·rw [if_neg h0]
    obtain ⟨out, g1, g2⟩ := ih (b.drop (oidNumberC b).2.toNat) (bytesOk_drop hb _) (by simp only [List.length_drop]; omega)
    refine ⟨.yld [.int .u32 (oidNumberC b).1, .bool (decide ((0 : Int) < (oidNumberC b).2))] (.ret [] [some ⟨.var [.cl (.sli .u8 b)], false⟩]) out, c_pos (by omega) (b_pos hb (b_pos (Nat.beq_refl l) ?_)), ?_⟩
    ·dsimp only
     rw [decide_eq_false h0]
     show yldO _ _ (cond (decide ((0 : Int) <= (oidNumberC b).2)) (cond (decide ((oidNumberC b).2 <= ((b.length : Nat) : Int))) (ag (List.drop (Int.toNat (oidNumberC b).2) b)) none) none) = _
     rw [decide_eq_true (show (0 : Int) <= (oidNumberC b).2 by omega), decide_eq_true (show (oidNumberC b).2 <= ((b.length : Nat) : Int) by omega)]
     simp only [cond_true]
     rw [g1]
     rfl
    ·refine ⟨?_, .inr rfl, g2⟩
     show [CV.int .u32 (oidNumberC b).1, .bool (decide ((0 : Int) < (oidNumberC b).2))] = [.int .u32 (oidNumberC b).1, .bool true]
     rw [decide_eq_true (by omega)]
theorem nONums (l : Nat) (b : List Int) (hp : bytesOk b = true) : ∃ out, gONums l b = some out /\ Hands out (some (oidRows (oidNums b))) := by
 unfold gONums oidRows oidNums
 simp only [shut_eq]
 obtain ⟨out, h1, h2⟩ := it_lp l FUEL b hp (by have := (bytesOk_spec hp).1; unfold FUEL; omega)
 exact ⟨out, by rw [Nat.beq_refl, cond_true]; exact h1, h2⟩

/-! ### the range over it -/
theorem first_min {n : Int} (h0 : 0 <= n) (h1 : n <= 4294967295) : ∃ x, cond (decide ((2 : Int) < n / 40)) 2 (n / 40) = x /\ 0 <= x /\ x <= 2 /\ [x, n - 40 * x] = oidFirstC n /\ 0 <= n - 40 * x := by
 unfold oidFirstC
 by_cases h : n < 80
 ·rw [if_pos h, decide_eq_false (by omega)]
  exact ⟨n / 40, rfl, by omega, by omega, by simp; omega, by omega⟩
 ·rw [if_neg h]
  by_cases h2 : 2 < n / 40
  ·rw [decide_eq_true h2]
   exact ⟨2, rfl, by omega, by omega, by simp, by omega⟩
  ·rw [decide_eq_false h2]
   exact ⟨n / 40, rfl, by omega, by omega, by simp; omega, by omega⟩
theorem rl_go (R0 : Option Out) (K : Nat -> List Int -> Option Out) : ∀ (ps : List (Int × Bool)) (o : List Int), (∀ p ∈ ps, 0 <= p.1 /\ p.1 <= 4294967295) -> o.length <= 24 ->
  rlOParse_3 (fun _ _ => R0) K (ps.map rowOf2) o.length o = match oidGo ps o with | some o' => K o'.length o' | none => R0
 | [], o, _, _ => rfl
 | (n, ok) :: ps, o, hp, ho => by
  have hn := hp (n, ok) (by simp)
  have ih := fun o' h => rl_go R0 K ps o' (fun p hp' => hp p (by simp [hp'])) h
  show rlOParse_3s (rlOParse_3 (fun _ _ => R0) K (ps.map rowOf2)) (fun _ _ => R0) K n ok o.length o = _
  unfold rlOParse_3s oidGo
  cases ok with
  | false => simp
  | true =>
   simp only [Bool.not_true, cond_false, Bool.true_eq_false, false_or]
   refine c_split (fun h => ?_) fun h => ?_
   ·rw [if_pos (by omega)]
   ·rw [if_neg (by omega)]
    refine c_split (fun h0 => ?_) fun h0 => ?_
    ·have : o = [] := List.eq_nil_of_length_eq_zero (by omega)
     subst this
     rw [if_pos rfl]
     obtain ⟨x, g1, g2, g3, g4, g5⟩ := first_min hn.1 hn.2
     rw [show IntKind.u32.wrap (Int.tdiv n 40) = n / 40 by rw [Int.tdiv_eq_ediv_of_nonneg hn.1]; exact u32_in _ (by simp only at hn; omega)]
     rw [g1, show IntKind.u32.wrap (40 * x) = 40 * x from u32_in _ (by omega), show IntKind.u32.wrap (n - 40 * x) = n - 40 * x from u32_in _ (by simp only at hn; omega)]
     rw [List.nil_append, List.cons_append, List.nil_append]
     rw [g4]
     have hlen : (oidFirstC n).length = 2 := by rw [<- g4]; rfl
     refine lim_in (by simp) (lim_in (by simp) (lim_in (by rw [hlen]; simp) (lim_in (by rw [hlen]; simp) (ih (oidFirstC n) (by omega)))))
    ·rw [if_neg (by intro e; subst e; simp at h0)]
     refine lim_in (by simp only [List.length_append, List.length_cons, List.length_nil]; omega) (lim_in (by simp only [List.length_append, List.length_cons, List.length_nil]; omega) (ih _ (by simp only [List.length_append, List.length_cons, List.length_nil]; omega)))
theorem nums_rng : ∀ (n : Nat) (b : List Int), bytesOk b = true -> ∀ p ∈ oidNumsF n b, 0 <= p.1 /\ p.1 <= 4294967295
 | 0, b, _, p, hp => by simp [oidNumsF] at hp
 | n + 1, b, hb, p, hp => by
  have hr := (number_rng hb).1
  unfold oidNumsF at hp
  split at hp
  ·simp at hp
  ·split at hp
   ·simp at hp; subst hp; exact hr
   ·rcases List.mem_cons.1 hp with rfl | hp
    ·exact hr
    ·exact nums_rng n _ (bytesOk_drop hb _) p hp
theorem nOParse (b : List Int) (hp : bytesOk b = true) : gOParse b = some (.ret [.cl (.sli .u32 (oidParse b).1), .cl (.int .i64 (oidParse b).2)] []) := by
 unfold gOParse
 refine b_pos hp (b_pos ?_ ?_)
 ·unfold oidRows
  rw [shut_eq, List.all_map, List.all_eq_true]
  intro p _
  rfl
 ·unfold oidRows oidNums oidParse oidParseC oidFit
  simp only [shut_eq]
  refine (rl_go _ _ (oidNumsC b) [] (nums_rng _ b hp) (by simp)).trans ?_
  cases oidGo (oidNumsC b) [] with
  | none => rfl
  | some o =>
   show cond (!(oidFitC o)) _ _ = _
   cases h : oidFitC o <;> simp [h]

/-! ### as the document reads them -/
end Go.Proofs.YtfkpjbbkdkcdcaaDoorA

namespace Go.Proofs.YtfkpjbbkdkcdcaaDoorA
open IntWalk (i64_in u8_in u32_in u64_in i64_quo u8_quo rem_in)

theorem deepOk_spec {n : Int} (h : deepOk n = true) : 0 <= n /\ n <= 1000 := by
 unfold deepOk at h; rw [shut_eq] at h; exact of_decide_eq_true h
theorem deepOk_of {n : Int} (h : 0 <= n /\ n <= 1000) : deepOk n = true := by
 unfold deepOk; rw [shut_eq]; exact decide_eq_true h

theorem nDFits (tag : Int) (b : List Int) (hp : bytesOk b = true) : gDFits tag b = some (.ret [.cl (.bool (derFits tag b))] []) := by
 unfold gDFits derFits derFitsC derNumber derStrip oidParse u8Valid
 simp only [shut_eq]
 refine c_split (fun h => ?_) fun h => ?_
 ·rw [if_pos h]
  match b, hp with
  | [], _ => rfl
  | [x], _ =>
   refine c_pos (by simp) (c_pos (by simp) ?_)
   simp only [List.getElem?_cons_zero, Option.bind_some]
   refine c_split (fun h => ret_bool ?_) fun h => c_pos (by simp) (ret_bool ?_)
   ·simp [h]
   ·simp [h]
  | x :: y :: r, _ => exact c_neg (by simp only [List.length_cons]; omega) (ret_bool (by simp))
 ·rw [if_neg h]
  refine c_split (fun h => ?_) fun h => ?_
  ·rw [if_pos h]; exact b_pos hp rfl
  ·rw [if_neg h]
   refine c_split (fun h => ?_) fun h => ?_
   ·rw [if_pos h]; exact b_pos hp rfl
   ·rw [if_neg h]
    refine c_split (fun h => ?_) fun h => ?_
    ·rw [if_pos h]
     refine ret_bool ?_
     rw [Bool.eq_iff_iff]
     simp only [decide_eq_true_eq]
     cases b <;> simp
     omega
    ·rw [if_neg h]
     refine c_split (fun h => ?_) fun h => ?_
     ·rw [if_pos h]; exact b_pos hp rfl
     ·rw [if_neg h]
      refine c_split (fun h => ?_) fun h => ?_
      ·rw [if_pos h]; exact b_pos hp rfl
      ·rw [if_neg h]
       refine c_split (fun h => ?_) fun h => ?_
       ·rw [if_pos h]
       ·rw [if_neg h]
theorem rowsOk_map {l : List (List Int)} (h1 : l.length <= 1000000) (h2 : ∀ x ∈ l, rowB x = true) : rowsOk (l.map (CV.sli .u8)) = true := by
 unfold rowsOk
 rw [shut_eq]
 simp only [Bool.and_eq_true, decide_eq_true_eq, List.all_eq_true, List.length_map, List.mem_map]
 refine ⟨h1, fun x hx => ?_⟩
 obtain ⟨y, hy, rfl⟩ := hx
 exact h2 y hy
theorem rowsSorted_map (l : List (List Int)) : rowsSorted (l.map (CV.sli .u8)) = rowsSortedC l := by
 unfold rowsSorted
 rw [shut_eq, List.map_map]
 congr 1
 exact (List.map_congr_left fun x _ => rfl).trans (List.map_id l)

end Go.Proofs.YtfkpjbbkdkcdcaaDoorA

namespace Go.Proofs.YtfkpjbbkdkcdcaaDoorA
open IntWalk (i64_in u8_in u32_in u64_in i64_quo u8_quo rem_in)

/-! ### are two the same? -/
end Go.Proofs.YtfkpjbbkdkcdcaaDoorA

namespace Go.Proofs.YtfkpjbbkdkcdcaaDoorA
open IntWalk (i64_in u8_in u32_in u64_in i64_quo u8_quo rem_in)

end Go.Proofs.YtfkpjbbkdkcdcaaDoorA

namespace Go.Proofs.YtfkpjbbkdkcdcaaDoorA
open IntWalk (i64_in u8_in u32_in u64_in i64_quo u8_quo rem_in)

/-! ### ranks -/
theorem tf_inv : ∀ {n : Nat} {x : List CV}, isTf n x = true -> ∃ m t b l, n = m + 1 /\ x = [.int .i64 t, .sli .u8 b, .slg 3 l] /\ (∀ z ∈ b, 0 <= z /\ z <= 255) /\ ∀ c ∈ l, ∃ y, c = .agg y /\ isTf m y = true
 | 0, x, h => by simp [isTf] at h
 | n + 1, x, h => by
  unfold isTf at h
  split at h
  ·exact absurd h Bool.false_ne_true
  ·rename_i n' t b l hn
   obtain rfl : n = n' := by omega
   simp only [Bool.and_eq_true, List.all_eq_true] at h
   refine ⟨n, t, b, l, rfl, rfl, fun z hz => byteB_spec (h.1 z hz), fun c hc => ?_⟩
   have := h.2 c hc
   split at this
   ·exact ⟨_, rfl, this⟩
   ·exact absurd this Bool.false_ne_true
  ·exact absurd h Bool.false_ne_true
theorem all_congr {f g : CV -> Bool} : ∀ {l : List CV}, (∀ c ∈ l, f c = g c) -> l.all f = l.all g
 | [], _ => rfl
 | c :: r, h => by rw [List.all_cons, List.all_cons, h c (List.mem_cons_self ..), all_congr fun c' hc => h c' (List.mem_cons_of_mem _ hc)]
theorem ok_rk : ∀ {n m : Nat} {x : List CV}, isTf n x = true -> isTf m x = true -> ∀ d, okF n d x = okF m d x
 | n, m, x, hn, hm, d => by
  obtain ⟨n', t, b, l, rfl, rfl, _, hl⟩ := tf_inv hn
  obtain ⟨m', t', b', l', rfl, he, _, hl'⟩ := tf_inv hm
  simp only [List.cons.injEq, CV.int.injEq, CV.sli.injEq, CV.slg.injEq, true_and, and_true] at he
  obtain ⟨rfl, rfl, rfl⟩ := he
  cases d with
  | zero => rfl
  | succ d =>
   show (derKnownC t && (if derBoxedC t = true then decide (b = []) && l.all fun c => okF n' d (cell1 c) else decide (l = []) && derFitsC t b)) = (derKnownC t && (if derBoxedC t = true then decide (b = []) && l.all fun c => okF m' d (cell1 c) else decide (l = []) && derFitsC t b))
   have : (l.all fun c => okF n' d (cell1 c)) = l.all fun c => okF m' d (cell1 c) := all_congr fun c hc => by
    obtain ⟨y, rfl, hy⟩ := hl c hc
    obtain ⟨y', e, hy'⟩ := hl' _ hc
    cases e
    exact ok_rk hy hy' d
   rw [this]
theorem bytes_rk : ∀ {n m : Nat} {x : List CV}, isTf n x = true -> isTf m x = true -> bytesF n x = bytesF m x
 | n, m, x, hn, hm => by
  obtain ⟨n', t, b, l, rfl, rfl, _, hl⟩ := tf_inv hn
  obtain ⟨m', t', b', l', rfl, he, _, hl'⟩ := tf_inv hm
  simp only [List.cons.injEq, CV.int.injEq, CV.sli.injEq, CV.slg.injEq, true_and, and_true] at he
  obtain ⟨rfl, rfl, rfl⟩ := he
  have : (l.map fun c => bytesF n' (cell1 c)) = l.map fun c => bytesF m' (cell1 c) := List.map_congr_left fun c hc => by
   obtain ⟨y, rfl, hy⟩ := hl c hc
   obtain ⟨y', e, hy'⟩ := hl' _ hc
   cases e
   exact bytes_rk hy hy'
  simp only [bytesF, this]
theorem rk_spec {a : List CV} {n : Nat} (h : isTf n a = true) : isTf (rkOf a) a = true := by
 unfold rkOf
 have hx : ∃ n, isTf n a = true := ⟨n, h⟩
 rw [@dif_pos _ (Classical.propDecidable _) hx]
 exact Classical.choose_spec hx
theorem isSr_spec {n : Nat} {x : List CV} (h : isSr n x = true) : isTf n x = true /\ bulkF n x <= 30000 := by
 unfold isSr at h; rw [shut_eq] at h; simpa [Bool.and_eq_true] using h
theorem isSr_of {n : Nat} {x : List CV} (h : isTf n x = true) (h' : bulkF n x <= 30000) : isSr n x = true := by
 unfold isSr; rw [shut_eq]; simp [h, h']
theorem isS_spec {x : List CV} (h : isS x = true) : ∃ n, isTf n x = true /\ bulkF n x <= 30000 := by
 unfold isS at h; rw [shut_eq] at h; exact @of_decide_eq_true _ (Classical.propDecidable _) h
theorem isS_of {x : List CV} {n : Nat} (h : isTf n x = true) (h' : bulkF n x <= 30000) : isS x = true := by
 unfold isS; rw [shut_eq]; exact @decide_eq_true _ (Classical.propDecidable _) ⟨n, h, h'⟩
theorem isWr_spec {n : Nat} {x : List CV} (h : isWr n x = true) : isTf n x = true /\ bulkF n x <= 30000 /\ ∃ d, okF n d x = true := by
 unfold isWr at h; rw [shut_eq] at h; exact @of_decide_eq_true _ (Classical.propDecidable _) h
theorem isWr_of {n : Nat} {x : List CV} (h : isTf n x = true /\ bulkF n x <= 30000 /\ ∃ d, okF n d x = true) : isWr n x = true := by
 unfold isWr; rw [shut_eq]; exact @decide_eq_true _ (Classical.propDecidable _) h
theorem isW_of {x : List CV} {n : Nat} (h : isTf n x = true /\ bulkF n x <= 30000 /\ ∃ d, okF n d x = true) : isW x = true := by
 unfold isW; rw [shut_eq]; exact @decide_eq_true _ (Classical.propDecidable _) ⟨n, h⟩
theorem ndSize_eq {n : Nat} {a : List CV} (h : isTf n a = true) (d : Int) : ndSize a d = if okF n d.toNat a = true then ((bytesF n a).1.length : Int) else -1 := by
 unfold ndSize; rw [shut_eq, ok_rk (rk_spec h) h, bytes_rk (rk_spec h) h]
theorem ndWrite_eq {n : Nat} {a : List CV} (h : isTf n a = true) : ndWrite a = if (bytesF n a).2 = true then ((bytesF n a).1, true) else ([], false) := by
 unfold ndWrite; rw [shut_eq, bytes_rk (rk_spec h) h]
theorem ndBytes_eq {n : Nat} {a : List CV} (h : isTf n a = true) : ndBytes a = if okF n 32 a = true /\ (bytesF n a).2 = true then ((bytesF n a).1, 0) else ([], 1) := by
 unfold ndBytes; rw [shut_eq, ok_rk (rk_spec h) h, bytes_rk (rk_spec h) h]
theorem ndFit_eq {n : Nat} {a : List CV} (h : isTf n a = true) : ndFit a = decide (okF n 32 a = true /\ (bytesF n a).2 = true) := by
 unfold ndFit; rw [shut_eq, ok_rk (rk_spec h) h, bytes_rk (rk_spec h) h]

/-! ### heads -/
theorem headOk_spec {tag n : Int} (h : headOk tag n = true) : (0 <= tag /\ tag <= 255) /\ 0 <= n /\ n < 16777216 := by
 unfold headOk at h; rw [shut_eq] at h; exact of_decide_eq_true h
end Go.Proofs.YtfkpjbbkdkcdcaaDoorA

namespace Go.Proofs.YtfkpjbbkdkcdcaaDoorA
open IntWalk (i64_in u8_in u32_in u64_in i64_quo u8_quo rem_in)

theorem u8_mod (n : Int) : IntKind.u8.wrap n = n % 256 := by simp [IntKind.wrap, IntKind.signed, IntKind.bits]
def putB (n : Int) : Nat -> List Int
 | 0 => []
 | c + 1 => n / 2 ^ (8 * c) % 256 :: putB n c
theorem put_lp (n : Int) (h0 : 0 <= n) (h1 : n < 16777216) : ∀ (c f : Nat) (l : List Int), c <= 3 -> c < f -> l.length + c <= 10 ->
  lpDPut_7 (fun y8 _ _ _ y12 => some (.ret [.ref 0 0 y8 true 1] [some ⟨.ints .u8 y12, false⟩])) f l.length n ((c : Int) - 1) l = some (.ret [.ref 0 0 (l ++ putB n c).length true 1] [some ⟨.ints .u8 (l ++ putB n c), false⟩])
 | c, 0, l, _, hf, _ => by omega
 | 0, f + 1, l, _, _, hl => by
  show lpDPut_7s (lpDPut_7 (fun y8 _ _ _ y12 => some (.ret [.ref 0 0 y8 true 1] [some ⟨.ints .u8 y12, false⟩])) f) (fun y8 _ _ _ y12 => some (.ret [.ref 0 0 y8 true 1] [some ⟨.ints .u8 y12, false⟩])) l.length n (((0 : Nat) : Int) - 1) l = _
  unfold lpDPut_7s
  refine c_neg (by omega) ?_
  simp only [putB, List.append_nil]
 | c + 1, f + 1, l, hc, hf, hl => by
  show lpDPut_7s (lpDPut_7 (fun y8 _ _ _ y12 => some (.ret [.ref 0 0 y8 true 1] [some ⟨.ints .u8 y12, false⟩])) f) (fun y8 _ _ _ y12 => some (.ret [.ref 0 0 y8 true 1] [some ⟨.ints .u8 y12, false⟩])) l.length n (((c + 1 : Nat) : Int) - 1) l = _
  unfold lpDPut_7s
  have e1 : ((c + 1 : Nat) : Int) - 1 = c := by omega
  rw [e1]
  refine c_pos (by omega) ?_
  simp only [show IntKind.i64.wrap ((8 : Int) * (c : Int)) = ((8 * c : Nat) : Int) from (i64_in _ (by omega)).trans (by omega)]
  refine c_neg (by omega) ?_
  have e2 : min ((8 * c : Nat) : Int).toNat 64 = 8 * c := by show min (8 * c) 64 = 8 * c; omega
  simp only [e2]
  have e3 : IntKind.u8.wrap (Int.fdiv n (2 ^ (8 * c))) = n / 2 ^ (8 * c) % 256 := by
   have hc2 : c = 0 \/ c = 1 \/ c = 2 := by omega
   rw [u8_mod]
   rcases hc2 with rfl | rfl | rfl <;> rw [Int.fdiv_eq_ediv_of_nonneg n (by decide)]
  rw [e3, show IntKind.i64.wrap ((c : Int) - 1) = (c : Int) - 1 from i64_in _ (by omega)]
  refine lim_in (by simp only [List.length_append, List.length_singleton]; omega) (lim_in (by simp only [List.length_append, List.length_singleton]; omega) ?_)
  refine (put_lp n h0 h1 c f _ (by omega) (by omega) (by simp only [List.length_append, List.length_singleton]; omega)).trans ?_
  simp only [putB, List.append_assoc, List.singleton_append]
theorem nDPut (tag n : Int) (hp : headOk tag n = true) : gDPut tag n = some (.ret [.ref 0 0 (derHead tag n).length true 1] [some ⟨.ints .u8 (derHead tag n), false⟩]) := by
 obtain ⟨ht, hn⟩ := headOk_spec hp
 unfold gDPut derHead derLenSize
 simp only [shut_eq]
 unfold derHeadC derLenSizeC
 have et : IntKind.u8.wrap tag = tag := u8_in _ (by omega)
 rw [et]
 by_cases h : n < 128
 ·rw [if_pos h, if_pos h, show IntKind.i64.wrap ((1 : Int) - 1) = 0 from i64_in _ (by omega), show IntKind.u8.wrap n = n from u8_in _ (by omega)]
  exact c_pos rfl rfl
 ·rw [if_neg h, if_neg h]
  have fin : ∀ c : Nat, 1 <= c -> c <= 3 -> ∀ l', [tag, 128 + (c : Int)] ++ putB n c = l' -> (cond (decide (IntKind.i64.wrap ((c : Int) + 1 - 1) = 0)) (some (Out.ret [.ref 0 0 2 true 1] [some ⟨.ints .u8 [tag, IntKind.u8.wrap n], false⟩])) (lpDPut_7 (fun y8 _ _ _ y12 => some (.ret [.ref 0 0 y8 true 1] [some ⟨.ints .u8 y12, false⟩])) FUEL 2 n (IntKind.i64.wrap (IntKind.i64.wrap ((c : Int) + 1 - 1) - 1)) [tag, IntKind.u8.wrap (IntKind.i64.wrap ((128 : Int) + IntKind.i64.wrap ((c : Int) + 1 - 1)))])) = some (Out.ret [.ref 0 0 l'.length true 1] [some ⟨.ints .u8 l', false⟩]) := fun c h1 h3 l' hl' => by
   rw [show IntKind.i64.wrap ((c : Int) + 1 - 1) = c from (i64_in _ (by omega)).trans (by omega), show IntKind.i64.wrap ((128 : Int) + c) = 128 + c from i64_in _ (by omega), show IntKind.u8.wrap ((128 : Int) + c) = 128 + c from u8_in _ (by omega), show IntKind.i64.wrap ((c : Int) - 1) = (c : Int) - 1 from i64_in _ (by omega)]
   refine c_neg (by omega) ((put_lp n hn.1 hn.2 c FUEL [tag, 128 + (c : Int)] h3 (by unfold FUEL; omega) (by simp only [List.length_cons, List.length_nil]; omega)).trans ?_)
   rw [hl']
  by_cases h2 : n < 256
  ·rw [if_pos h2, if_pos h2]
   refine fin 1 (by omega) (by omega) _ ?_
   show [tag, (129 : Int), n / 1 % 256] = _
   rw [show n / 1 % 256 = n by omega]
  ·rw [if_neg h2, if_neg h2]
   by_cases h3 : n < 65536
   ·rw [if_pos h3, if_pos h3]
    refine fin 2 (by omega) (by omega) _ ?_
    show [tag, (130 : Int), n / 256 % 256, n / 1 % 256] = _
    rw [show n / 256 % 256 = n / 256 by omega, show n / 1 % 256 = n % 256 by omega]
   ·rw [if_neg h3, if_neg h3]
    refine fin 3 (by omega) (by omega) _ ?_
    show [tag, (131 : Int), n / 65536 % 256, n / 256 % 256, n / 1 % 256] = _
    rw [show n / 65536 % 256 = n / 65536 by omega, show n / 1 % 256 = n % 256 by omega]

/-! ### joins -/
theorem rowCV_inv {c : CV} (h : rowCV c = true) : ∃ x, c = .sli .u8 x /\ rowB x = true := by
 unfold rowCV at h
 split at h
 ·exact ⟨_, rfl, h⟩
 ·exact absurd h Bool.false_ne_true
theorem joinOk_spec {l : List CV} (h : joinOk l = true) : l.length <= 1000000 /\ (∀ c ∈ l, ∃ x, c = .sli .u8 x) /\ (l.flatMap cvSli).length <= 1000000 := by
 unfold joinOk at h
 rw [shut_eq] at h
 simp only [Bool.and_eq_true, decide_eq_true_eq, List.all_eq_true] at h
 exact ⟨h.1, fun c hc => let ⟨x, e, _⟩ := rowCV_inv (h.2.1 c hc); ⟨x, e⟩, h.2.2⟩
theorem flat_drop_cons {l : List CV} {i : Nat} {x : List Int} (h : l[i]? = some (.sli .u8 x)) : (l.drop i).flatMap cvSli = x ++ (l.drop (i + 1)).flatMap cvSli := by
 obtain ⟨hlt, e⟩ := List.getElem?_eq_some_iff.1 h
 rw [List.drop_eq_getElem_cons hlt, e, List.flatMap_cons]
 rfl
theorem cat_lp (l : List CV) (hl : l.length <= 1000000) (hall : ∀ c ∈ l, ∃ x, c = .sli .u8 x) : ∀ (f i : Nat) (acc : List Int), i <= l.length -> l.length < f + i -> acc.length + ((l.drop i).flatMap cvSli).length <= 1000000 ->
  lpSConcat_11 (fun _ _ _ _ y27 => some (.ret [.cl (.sli .u8 y27)] [])) f acc.length l ((l.length : Nat) : Int) i acc = some (.ret [.cl (.sli .u8 (acc ++ (l.drop i).flatMap cvSli))] [])
 | 0, i, acc, hi, hf, _ => by omega
 | f + 1, i, acc, hi, hf, hs => by
  show lpSConcat_11s (lpSConcat_11 (fun _ _ _ _ y27 => some (.ret [.cl (.sli .u8 y27)] [])) f) (fun _ _ _ _ y27 => some (.ret [.cl (.sli .u8 y27)] [])) acc.length l ((l.length : Nat) : Int) i acc = _
  unfold lpSConcat_11s
  refine c_split (fun h => ?_) fun h => ?_
  ·obtain ⟨c, hc⟩ := get_some (b := l) (i := i) (by omega)
   obtain ⟨x, rfl⟩ := hall c (List.mem_of_getElem? hc)
   refine c_pos (by omega) (c_pos h ?_)
   rw [show (i : Int).toNat = i from rfl, hc, Option.bind_some]
   refine b_pos rfl ?_
   have hfl := flat_drop_cons hc
   rw [hfl, List.length_append] at hs
   have e : cvSli ((cell1 (.sli .u8 x)).getD 0 .nili) = x := rfl
   simp only [e]
   refine lim_in (by simp only [List.length_append]; omega) (lim_in (by simp only [List.length_append]; omega) ?_)
   rw [show IntKind.i64.wrap ((i : Int) + 1) = ((i + 1 : Nat) : Int) from (i64_in _ (by omega)).trans (by omega)]
   refine (cat_lp l hl hall f (i + 1) (acc ++ x) (by omega) (by omega) (by simp only [List.length_append]; omega)).trans ?_
   rw [hfl, List.append_assoc]
  ·rw [List.drop_eq_nil_of_le (by omega), List.flatMap_nil, List.append_nil]
theorem size_lp (l : List CV) (hl : l.length <= 1000000) (hall : ∀ c ∈ l, ∃ x, c = .sli .u8 x) (k0 : ByteArray -> List CV -> Int -> List Int -> List CV -> Int -> Int -> List CV -> Nat -> List Int -> Int -> List Int -> Int -> Int -> Int -> ByteArray -> Option Out) (k1 : List CV -> Int -> List CV -> Int -> Int -> Option Out) : ∀ (f i : Nat) (n : Int), i <= l.length -> l.length < f + i -> 0 <= n -> n + ((l.drop i).flatMap cvSli).length <= 1000000 ->
  lpSConcat_3 k0 k1 f l n l ((l.length : Nat) : Int) i = k1 l (n + ((l.drop i).flatMap cvSli).length) l ((l.length : Nat) : Int) l.length
 | 0, i, n, hi, hf, _, _ => by omega
 | f + 1, i, n, hi, hf, h0, hs => by
  show lpSConcat_3s (lpSConcat_3 k0 k1 f) k0 k1 l n l ((l.length : Nat) : Int) i = _
  unfold lpSConcat_3s
  refine c_split (fun h => ?_) fun h => ?_
  ·obtain ⟨c, hc⟩ := get_some (b := l) (i := i) (by omega)
   obtain ⟨x, rfl⟩ := hall c (List.mem_of_getElem? hc)
   refine c_pos (by omega) (c_pos h ?_)
   rw [show (i : Int).toNat = i from rfl, hc, Option.bind_some]
   refine b_pos rfl ?_
   have hfl := flat_drop_cons hc
   rw [hfl, List.length_append] at hs
   have e : cvSli ((cell1 (.sli .u8 x)).getD 0 .nili) = x := rfl
   simp only [e]
   rw [show IntKind.i64.wrap (n + ((x.length : Nat) : Int)) = n + x.length from i64_in _ (by omega)]
   refine c_neg (by omega) ?_
   rw [show IntKind.i64.wrap ((i : Int) + 1) = ((i + 1 : Nat) : Int) from (i64_in _ (by omega)).trans (by omega)]
   refine (size_lp l hl hall k0 k1 f (i + 1) _ (by omega) (by omega) (by omega) (by omega)).trans ?_
   rw [hfl, List.length_append, show n + ((x.length : Nat) : Int) + (((l.drop (i + 1)).flatMap cvSli).length : Nat) = n + ((x.length + ((l.drop (i + 1)).flatMap cvSli).length : Nat) : Int) by omega]
  ·obtain rfl : i = l.length := by omega
   rw [List.drop_eq_nil_of_le (Nat.le_refl _)]
   simp
theorem nSConcat (l : List CV) (hp : joinOk l = true) : gSConcat l = some (.ret [.cl (.sli .u8 (rowsJoin l))] []) := by
 obtain ⟨h1, h2, h3⟩ := joinOk_spec hp
 unfold gSConcat rowsJoin noInts
 simp only [shut_eq]
 refine (size_lp l h1 h2 _ _ FUEL 0 0 (by omega) (by unfold FUEL; omega) (by omega) (by rw [List.drop_zero]; omega)).trans ?_
 refine b_pos ?_ (cat_lp l h1 h2 FUEL 0 [] (by omega) (by unfold FUEL; omega) (by simpa using h3))
 unfold growOk
 rw [shut_eq, List.drop_zero]
 exact decide_eq_true (by omega)

/-! ### sameness -/
end Go.Proofs.YtfkpjbbkdkcdcaaDoorA
