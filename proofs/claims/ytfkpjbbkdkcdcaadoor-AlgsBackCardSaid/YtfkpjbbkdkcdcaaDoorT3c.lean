/-
 What the layers below come to (their lemmas, as far as this seat needs them). Conditions: each function's own.
-/
import Derived.Test.YtfkpjbbkdkcdcaaDoorT2a
import Derived.Test.YtfkpjbbkdkcdcaaDoorT2b
import Derived.Test.YtfkpjbbkdkcdcaaDoorT2c
import Derived.Test.YtfkpjbbkdkcdcaaDoorT2d
import Derived.Test.YtfkpjbbkdkcdcaaDoorT3b
set_option linter.unusedVariables false
set_option linter.unusedSimpArgs false
set_option maxRecDepth 100000
namespace Go.Proofs.YtfkpjbbkdkcdcaaDoorA
open IntWalk (i64_in u8_in u32_in u64_in i64_quo u8_quo rem_in)

theorem trim_fit : ∀ {l : List Int}, l ≠ [] -> derNumberC (trimF l) = true
 | [], h => absurd rfl h
 | [a], _ => rfl
 | a :: b :: r, _ => by
  unfold trimF
  split
  ·exact trim_fit (by simp)
  ·rename_i h
   show (!(decide (a = 0 /\ b < 128)) && !(decide (a = 255 /\ 128 <= b))) = true
   rw [decide_eq_false (fun e => h (.inl e)), decide_eq_false (fun e => h (.inr e))]
   rfl
end Go.Proofs.YtfkpjbbkdkcdcaaDoorA

namespace Go.Proofs.YtfkpjbbkdkcdcaaDoorA
open IntWalk (i64_in u8_in u32_in u64_in i64_quo u8_quo rem_in)

end Go.Proofs.YtfkpjbbkdkcdcaaDoorA

namespace Go.Proofs.YtfkpjbbkdkcdcaaDoorA
open IntWalk (i64_in u8_in u32_in u64_in i64_quo u8_quo rem_in)

theorem twos_cons (b : Int) (r : List Int) : twosC (b :: r) = if 128 <= b then bytesNumC (b :: r) - 256 ^ (r.length + 1) else bytesNumC (b :: r) := rfl
theorem twos_trim : ∀ {l : List Int}, l ≠ [] -> twosC (trimF l) = twosC l
 | [], h => absurd rfl h
 | [a], _ => rfl
 | a :: b :: r, _ => by
  unfold trimF
  split
  ·rename_i h
   rw [twos_trim (by simp), twos_cons, twos_cons, num_cons a (b :: r)]
   simp only [List.length_cons]
   have hp : (256 : Int) ^ (r.length + 1 + 1) = 256 ^ (r.length + 1) * 256 := Int.pow_succ ..
   rw [hp]
   generalize (256 : Int) ^ (r.length + 1) = z
   generalize bytesNumC (b :: r) = y
   rcases h with ⟨rfl, hb⟩ | ⟨rfl, hb⟩
   ·rw [if_neg (by omega), if_neg (by omega)]; omega
   ·rw [if_pos hb, if_pos (by omega)]; omega
  ·rfl
theorem num_be {m : Int} (h : 0 <= m /\ m < 18446744073709551616) : bytesNumC (vLeC m).reverse = m := by
 have e1 : m / 65536 = m / 256 / 256 := by omega
 have e2 : m / 16777216 = m / 256 / 256 / 256 := by omega
 have e3 : m / 4294967296 = m / 256 / 256 / 256 / 256 := by omega
 have e4 : m / 1099511627776 = m / 256 / 256 / 256 / 256 / 256 := by omega
 have e5 : m / 281474976710656 = m / 256 / 256 / 256 / 256 / 256 / 256 := by omega
 have e6 : m / 72057594037927936 = m / 256 / 256 / 256 / 256 / 256 / 256 / 256 := by omega
 unfold vLeC
 rw [e1, e2, e3, e4, e5, e6]
 show ((((((((0 * 256 + _) * 256 + _) * 256 + _) * 256 + _) * 256 + _) * 256 + _) * 256 + _) * 256 + _ : Int) = m
 clear e1 e2 e3 e4 e5 e6
 omega
theorem int_twos {n : Int} (h : stI64 n = true) : twosC (vInt n) = n := by
 have h : -9223372036854775808 <= n /\ n <= 9223372036854775807 := of_decide_eq_true h
 unfold vInt vIntC
 rw [shut_eq, twos_trim (by simp [vLeC])]
 have hm : 0 <= n % 18446744073709551616 /\ n % 18446744073709551616 < 18446744073709551616 := by omega
 unfold twosC
 rw [num_be hm]
 show (if 128 <= n % 18446744073709551616 / 72057594037927936 % 256 then n % 18446744073709551616 - 256 ^ 8 else n % 18446744073709551616) = n
 rw [show (256 : Int) ^ 8 = 18446744073709551616 from by decide]
 split <;> omega
theorem fits_int (n : Int) : derFitsC 2 (vInt n) = true := by
 show derNumberC (vInt n) = true
 unfold vInt vIntC
 rw [shut_eq]
 exact trim_fit (by simp [vLeC])
theorem int_back {n : Int} (h : stI64 n = true) : vIntOf 2 (vInt n) noKids = (n, 0) := by
 unfold vIntOf
 rw [shut_eq, if_pos (vErr_ok rfl (by rw [noKids_eq]; rfl) (fits_int n))]
 unfold vNumberC
 rw [if_neg (by have := (int_facts n).1; omega), int_twos h]
theorem bytes_back (b : List Int) : vBytesOf 4 b noKids = (b, 0) := by
 unfold vBytesOf
 rw [shut_eq, if_pos (vErr_ok rfl (by rw [noKids_eq]; rfl) (fits4 b))]
theorem kids_back (l : List CV) : vKids 48 48 noInts l = (l, 0) := vKids_k rfl rfl (by rw [noInts_eq]; simp)
end Go.Proofs.YtfkpjbbkdkcdcaaDoorA

namespace Go.Proofs.YtfkpjbbkdkcdcaaDoorA
open IntWalk (i64_in u8_in u32_in u64_in i64_quo u8_quo rem_in)

theorem in_range {P : Int -> Prop} {lo : Int} {m : Nat} (h : ∀ n : Nat, n < m -> P ((n : Int) + lo)) {g : Int} (h1 : lo <= g) (h2 : g < lo + m) : P g := by
 have := h (g - lo).toNat (by omega)
 rwa [show (((g - lo).toNat : Nat) : Int) + lo = g by omega] at this
theorem ents_all : ∀ e ∈ algEntsC, (1 <= e.1 /\ e.1 <= 93) /\ (e.2.2.length <= 10 /\ ∀ x ∈ e.2.2, 0 <= x /\ x <= 4294967295) := by decide +kernel
theorem found_mem (g : Int) : algFoundC g = (0, 0, []) \/ (algFoundC g ∈ algEntsC /\ (algFoundC g).1 = g) := by
 unfold algFoundC
 cases h : algEntsC.find? fun e => decide (e.1 = g) with
 | none => exact .inl rfl
 | some e => exact .inr ⟨List.mem_of_find?_eq_some h, by have := List.find?_some h; simpa using this⟩
theorem found_id (g : Int) : (algFoundC g).2.2.length <= 10 /\ ∀ x ∈ (algFoundC g).2.2, inU x := by
 rcases found_mem g with h | h
 ·rw [h]; exact ⟨by simp, by simp⟩
 ·exact (ents_all _ h.1).2
theorem found_eq (g : Int) : algFound g = algFoundC g := shut_eq _
abbrev rowE (e : Int × Int × List Int) : List CV := [.agg [.int .i64 e.1, .int .i64 e.2.1, .sli .u32 e.2.2]]
theorem rows_eq : algRows = algEntsC.map rowE := shut_eq _
theorem rows_ok : List.all algRows okAlAll = true := by
 rw [rows_eq]
 kernel_rfl
theorem nARoot_0 (hp : true = true) : gARoot_0 = some (.ret [.ref 0 0 8 true 1] [some ⟨.ints .u32 [2, 16, 840, 1, 101, 3, 4, 2], false⟩]) := rfl
theorem nARoot_1 (hp : true = true) : gARoot_1 = some (.ret [.ref 0 0 8 true 1] [some ⟨.ints .u32 [2, 16, 840, 1, 101, 3, 4, 3], false⟩]) := rfl
theorem nARoot_2 (hp : true = true) : gARoot_2 = some (.ret [.ref 0 0 8 true 1] [some ⟨.ints .u32 [2, 16, 840, 1, 101, 3, 4, 4], false⟩]) := rfl
theorem nARoot_3 (hp : true = true) : gARoot_3 = some (.ret [.ref 0 0 8 true 1] [some ⟨.ints .u32 [2, 16, 840, 1, 101, 3, 4, 1], false⟩]) := rfl
theorem nARoot_4 (hp : true = true) : gARoot_4 = some (.ret [.ref 0 0 8 true 1] [some ⟨.ints .u32 [1, 2, 840, 113549, 1, 9, 16, 3], false⟩]) := rfl
theorem nARoot_5 (hp : true = true) : gARoot_5 = some (.ret [.ref 0 0 2 true 1] [some ⟨.ints .u32 [2, 999], false⟩]) := rfl
theorem yld_step {l : Nat} {x : List CV} {f t : Option Out} {rf : Out} {r : List (List CV)} (hf : f = some rf) (hr : ∃ out, t = some out /\ Hands out (some r)) (h0 : Hands rf none) : ∃ out, cond (Nat.beq l l) (yldO x f t) none = some out /\ Hands out (some (x :: r)) := by
 obtain ⟨rt, h1, h2⟩ := hr
 rw [Nat.beq_refl, hf, h1]
 exact ⟨_, rfl, rfl, h0, h2⟩
theorem nAlAll (l : Nat) (hp : true = true) : ∃ out, gAlAll l = some out /\ Hands out (some algRows) := by
 rw [rows_eq]
 unfold gAlAll
 show ∃ out, _ = some out /\ Hands out (some [_, _, _, _, _, _, _, _, _, _, _, _, _, _, _, _, _, _, _, _, _, _, _, _, _, _, _, _, _, _, _, _, _, _, _, _, _, _, _, _])
 exact yld_step rfl (yld_step rfl (yld_step rfl (yld_step rfl (yld_step rfl (yld_step rfl (yld_step rfl (yld_step rfl (yld_step rfl (yld_step rfl (yld_step rfl (yld_step rfl (yld_step rfl (yld_step rfl (yld_step rfl (yld_step rfl (yld_step rfl (yld_step rfl (yld_step rfl (yld_step rfl (yld_step rfl (yld_step rfl (yld_step rfl (yld_step rfl (yld_step rfl (yld_step rfl (yld_step rfl (yld_step rfl (yld_step rfl (yld_step rfl (yld_step rfl (yld_step rfl (yld_step rfl (yld_step rfl (yld_step rfl (yld_step rfl (yld_step rfl (yld_step rfl (yld_step rfl (yld_step rfl (⟨_, rfl, .inl rfl⟩) (.inr rfl)) (.inr rfl)) (.inr rfl)) (.inr rfl)) (.inr rfl)) (.inr rfl)) (.inr rfl)) (.inr rfl)) (.inr rfl)) (.inr rfl)) (.inr rfl)) (.inr rfl)) (.inr rfl)) (.inr rfl)) (.inr rfl)) (.inr rfl)) (.inr rfl)) (.inr rfl)) (.inr rfl)) (.inr rfl)) (.inr rfl)) (.inr rfl)) (.inr rfl)) (.inr rfl)) (.inr rfl)) (.inr rfl)) (.inr rfl)) (.inr rfl)) (.inr rfl)) (.inr rfl)) (.inr rfl)) (.inr rfl)) (.inr rfl)) (.inr rfl)) (.inr rfl)) (.inr rfl)) (.inr rfl)) (.inr rfl)) (.inr rfl)) (.inr rfl)
theorem found_rl (k0 : Int -> Int -> Int -> List Int -> Option Out) (k1 : Int -> Option Out) (g : Int) : ∀ L : List (Int × Int × List Int), rlAFound_2 k0 k1 (L.map rowE) g = (match L.find? fun e => decide (e.1 = g) with | some e => k0 g e.1 e.2.1 e.2.2 | none => k1 g)
 | [] => rfl
 | e :: r => by
  show cond (decide (e.1 = g)) (k0 g e.1 e.2.1 e.2.2) (rlAFound_2 k0 k1 (r.map rowE) g) = _
  rw [List.find?_cons]
  cases decide (e.1 = g) with
  | true => rfl
  | false => exact found_rl k0 k1 g r
theorem nAFound (g : Int) (hp : true = true) : gAFound g = some (.ret [.cl (.agg [.int .i64 (algFound g).1, .int .i64 (algFound g).2.1, .sli .u32 (algFound g).2.2])] []) := by
 unfold gAFound
 refine b_pos rows_ok ?_
 rw [shut_eq, rows_eq, found_rl, found_eq]
 unfold algFoundC
 cases algEntsC.find? fun e => decide (e.1 = g) <;> rfl
theorem of_rl (k0 : List Int -> Int -> Option Out) (k1 : List Int -> Option Out) (o : List Int) : ∀ L : List (Int × Int × List Int), (∀ e ∈ L, e.2.2.length <= 10) -> rlAOf_2 k0 k1 (L.map rowE) o = (match L.find? fun e => decide (e.2.2 = o) with | some e => k0 o e.1 | none => k1 o)
 | [], _ => rfl
 | e :: r, h => by
  show cond (lenOk e.2.2) (cond (listSame e.2.2 o) (k0 o e.1) (rlAOf_2 k0 k1 (r.map rowE) o)) none = _
  refine b_pos (lenOk_of (by have := h e (by simp); omega)) ?_
  have hs : listSame e.2.2 o = decide (e.2.2 = o) := by unfold listSame listSameC; rw [shut_eq]
  rw [List.find?_cons, hs]
  cases decide (e.2.2 = o) with
  | true => rfl
  | false => exact of_rl k0 k1 o r fun e he => h e (by simp [he])
theorem nAOf (o : List Int) (hp : true = true) : gAOf o = some (.ret [.cl (.int .i64 (algOf o))] []) := by
 unfold gAOf
 refine b_pos rows_ok ?_
 rw [shut_eq, rows_eq, of_rl _ _ _ _ fun e he => (ents_all e he).2.1]
 unfold algOf algOfC
 rw [shut_eq]
 cases algEntsC.find? fun e => decide (e.2.2 = o) <;> rfl
theorem nAAll (hp : true = true) : gAAll = some (.ret [.cl (.fn (.func 131) [] [])] []) := rfl
theorem nAGroup (g : Int) (hp : true = true) : gAGroup g = some (.ret [.cl (.int .i64 (algFound g).2.1)] []) := rfl
theorem nAId (g : Int) (hp : true = true) : gAId g = some (.ret [.cl (.sli .u32 (algFound g).2.2)] []) := rfl
theorem AName_in : ∀ n : Nat, n < 10 -> gAName ((n : Int) + 1) = some (.ret [.cl (.sli .u32 (algName ((n : Int) + 1)))] []) := by
 intro n hn
 unfold gAName algName
 simp only [shut_eq]
 exact match n, hn with
 | 0, _ => by kernel_rfl
 | 1, _ => by kernel_rfl
 | 2, _ => by kernel_rfl
 | 3, _ => by kernel_rfl
 | 4, _ => by kernel_rfl
 | 5, _ => by kernel_rfl
 | 6, _ => by kernel_rfl
 | 7, _ => by kernel_rfl
 | 8, _ => by kernel_rfl
 | 9, _ => by kernel_rfl
 | n + 10, h => absurd h (by omega)
theorem nAName (g : Int) (hp : true = true) : gAName g = some (.ret [.cl (.sli .u32 (algName g))] []) := by
 by_cases hg : 1 <= g /\ g < 1 + 10
 ·exact in_range (P := fun g => gAName g = some (.ret [.cl (.sli .u32 (algName g))] [])) AName_in hg.1 hg.2
 ·unfold gAName algName algNameC
  rw [shut_eq, if_neg (by omega), if_neg (by omega), if_neg (by omega), if_neg (by omega), if_neg (by omega)]
  rcases (show g < 1 \/ 10 < g by omega) with h | h <;> (repeat' (first | rfl | (refine c_neg (by omega) ?_) | (refine c_pos (by omega) ?_)))
end Go.Proofs.YtfkpjbbkdkcdcaaDoorA

namespace Go.Proofs.YtfkpjbbkdkcdcaaDoorA
open IntWalk (i64_in u8_in u32_in u64_in i64_quo u8_quo rem_in)

theorem nAUsed (g : Int) (hp : true = true) : gAUsed g = some (.ret [.cl (.int .i64 (algUsed g))] []) := by
 unfold gAUsed algUsed algUsedC
 rw [shut_eq]
 refine c_split (fun h => ?_) fun h => c_split (fun h' => ?_) fun h' => ?_
 ·rw [if_pos h]
 ·rw [if_neg h, if_pos h']
 ·rw [if_neg h, if_neg h']
/-! ### of an identifier -/
theorem ents_found : ∀ e ∈ algEntsC, algFoundC e.1 = e /\ ¬e.2.1 = 0 := by decide +kernel
theorem ents_one : ∀ e ∈ algEntsC, ∀ e' ∈ algEntsC, e.2.2 = e'.2.2 -> e.1 = e'.1 := by decide +kernel
/-! ### as a value -/
theorem nANode (g : Int) (b : List Int) (hp : lenOk b = true) : gANode g b = some (.ret [.cl (.agg [.int .i64 (algNode g b).1, .sli .u8 noInts, .slg 3 (algNode g b).2.1]), .cl (.int .i64 (algNode g b).2.2)] []) := by
 obtain ⟨i1, i2⟩ := found_id g
 have hid : idOk (algFoundC g).2.2 = true := idOk_of (by omega) i2
 have h16 : stI64 16 = true := by decide
 unfold gANode algNode algUsed
 rw [found_eq]
 simp only [shut_eq, noKids_eq, noInts_eq]
 unfold algNodeC
 refine c_split (fun h => ?_) fun h => c_nsplit (fun h' => ?_) fun h' => ?_
 ·rw [if_pos h]
 ·rw [if_neg h, if_pos h']
 ·rw [if_neg h, if_neg (by simp [h'])]
  refine b_pos hid ?_
  refine c_split (fun h6 => ?_) fun h6 => c_split (fun h7 => ?_) fun h7 => ?_
  ·rw [if_pos h6]
   exact b_pos hp (b_pos (lenOkC_of (by simp)) rfl)
  ·rw [if_neg h6, if_pos h7]
   exact b_pos hp (b_pos h16 (b_pos (lenOkC_of (by simp)) (b_pos (lenOkC_of (by simp)) rfl)))
  ·rw [if_neg h6, if_neg h7]
   exact b_pos (lenOkC_of (by simp)) rfl
theorem name_len (g : Int) : (algName g).length <= 10 := by
 unfold algName algNameC
 rw [shut_eq]
 repeat' split
 all_goals simp
theorem nAAwake (hp : true = true) : gAAwake = some (.ret [.cl (.bool true)] []) := by
 unfold gAAwake
 have e1 : (algNode 91 [0, 0, 0, 0, 0, 0, 0, 0, 0, 0, 0]).2.2 = 14 := by unfold algNode; rw [shut_eq]; kernel_rfl
 have e2 : (algFound 11).2.2 = [2, 16, 840, 1, 101, 3, 4, 3, 17] := by rw [found_eq]; kernel_rfl
 have e3 : algOf [2, 5] = 0 := by unfold algOf; rw [shut_eq]; kernel_rfl
 rw [e1, e2, e3]
 exact b_pos (lenOk_of (by simp)) (b_pos (lenOk_of (by simp)) (b_pos (same_refl _) (c_pos rfl rfl)))
end Go.Proofs.YtfkpjbbkdkcdcaaDoorA

namespace Go.Proofs.YtfkpjbbkdkcdcaaDoorA
open IntWalk (i64_in u8_in u32_in u64_in i64_quo u8_quo rem_in)

theorem kids_W3 {t : Int} {b : List Int} {k : List CV} (h : isS [.int .i64 t, .sli .u8 b, .slg 3 k] = true) : ∀ c ∈ k, W3 c := by
 obtain ⟨n, hn, hB⟩ := isS_spec h
 obtain ⟨n, t', b', k', rfl, e, _, _⟩ := tf_inv hn
 cases e
 obtain ⟨_, _, _, h4, _⟩ := tf_parts hn hB
 intro c hc
 obtain ⟨y, rfl, hy, hyb⟩ := h4 c hc
 obtain ⟨_, t1, b1, k1, rfl, rfl, _, _⟩ := tf_inv hy
 exact ⟨t1, b1, k1, rfl, isS_of hy (by omega)⟩
theorem kids_lenC {t : Int} {b : List Int} {k : List CV} (h : isS [.int .i64 t, .sli .u8 b, .slg 3 k] = true) : lenOkC k = true := lenOkC_of (kids_isN (isN_isS h)).1
theorem tailOk_spec {l : List CV} (h : tailOk l = true) : ∀ c ∈ l, W3 c := by
 unfold tailOk at h; rw [shut_eq] at h; exact @of_decide_eq_true _ (Classical.propDecidable _) h
theorem tailOk_of {l : List CV} (h : ∀ c ∈ l, W3 c) : tailOk l = true := by
 unfold tailOk; rw [shut_eq]; exact @decide_eq_true _ (Classical.propDecidable _) h
theorem kids_of {g t : Int} {b : List Int} {k : List CV} (h : ∀ c ∈ k, W3 c) : ∀ c ∈ (vKids g t b k).1, W3 c := by
 by_cases e : (vKids g t b k).2 = 0
 ·rw [vKids_ok e]; exact h
 ·rw [vKids_no e]; simp
theorem algB_ret (g : Int) {t : Int} {b : List Int} {k : List CV} (hs : isS [.int .i64 t, .sli .u8 b, .slg 3 k] = true) :
  cond (isS [.int .i64 t, .sli .u8 b, .slg 3 k]) (cond (decide ((vBytesOf t b k).2 = 0)) (some (Out.ret [.cl (.sli .u8 (vBytesOf t b k).1), .cl (.bool (decide (((vBytesOf t b k).1.length : Int) = algUsed g)))] []))
   (some (.ret [.cl (.sli .u8 (vBytesOf t b k).1), .cl (.bool false)] []))) none = some (.ret [.cl (.sli .u8 (algB g (.agg [.int .i64 t, .sli .u8 b, .slg 3 k])).1), .cl (.bool (algB g (.agg [.int .i64 t, .sli .u8 b, .slg 3 k])).2)] []) := by
 refine b_pos hs ?_
 unfold algUsed
 rw [shut_eq]
 show _ = some (Out.ret [.cl (.sli .u8 (vBytesOf t b k).1), .cl (.bool (decide ((vBytesOf t b k).2 = 0) && decide (((vBytesOf t b k).1.length : Int) = algUsedC g)))] [])
 refine c_split (fun h => ?_) fun h => ?_
 ·rw [decide_eq_true h, Bool.true_and]
 ·rw [decide_eq_false h, Bool.false_and]
theorem algH_agg (g t : Int) (b : List Int) (k : List CV) : algH g (.agg [.int .i64 t, .sli .u8 b, .slg 3 k]) = if g = 7 then (if ¬(vKids 48 t b k).2 = 0 then ([], false) else algG g (vKids 48 t b k).1) else algB g (.agg [.int .i64 t, .sli .u8 b, .slg 3 k]) := rfl
theorem algG2_agg (g t : Int) (b : List Int) (k : List CV) (p : CV) : algG2 g (.agg [.int .i64 t, .sli .u8 b, .slg 3 k]) p = if ¬(vIntOf t b k).2 = 0 then ([], false) else if ¬(vIntOf t b k).1 = 16 then ([], false) else algB g p := rfl
theorem algG_two (g : Int) (p q : CV) : algG g [p, q] = algG2 g q p := by unfold algG; rw [if_neg (by simp)]; rfl
theorem algG_no {g : Int} {two : List CV} (h : ¬(two.length : Int) = 2) : algG g two = ([], false) := by unfold algG; rw [if_pos h]
theorem algR_cons (t : Int) (b : List Int) (k r : List CV) : algR (.agg [.int .i64 t, .sli .u8 b, .slg 3 k] :: r) = algR1 (vIdOf t b k) r := by unfold algR; rw [if_neg (by simp only [List.length_cons]; omega)]; rfl
theorem tail_eq (g : Int) (l : List CV) : algTail g l = algTailC g l := shut_eq _
theorem tail7 (g : Int) (two : List CV) (hk : ∀ c ∈ two, W3 c) : (cond (!decide (((two.length : Nat) : Int) = 2)) (
   some (.ret [.cl (.sli .u8 []), .cl (.bool false)] []))
   (
   cond (decide ((1 : Int) < ((two.length : Nat) : Int))) (
   Option.bind (two[1]?) fun (e11 : CV) =>
   let e12 : CV := (cell1 e11).headD .nili
   let e13 : CV := (cell1 e11).tail.headD .nili
   let e14 : CV := (cell1 e11).tail.tail.headD .nili
   cond (okInt .i64 e12 && (okSli .u8 e13 && (okSlg 3 e14 && true))) (
   let i15 : Int := cvInt e12
   let l16 : List Int := cvSli e13
   let l17 : List CV := cvSlg e14
   cond (isS [.int .i64 i15, .sli .u8 l16, .slg 3 l17]) (
   let r18 : Int := (vIntOf i15 l16 l17).1
   let r19 : Int := (vIntOf i15 l16 l17).2
   cond (!decide (r19 = 0)) (
   some (.ret [.cl (.sli .u8 []), .cl (.bool false)] []))
   (
   cond (!decide (r18 = 16)) (
   some (.ret [.cl (.sli .u8 []), .cl (.bool false)] []))
   (
   cond (decide ((0 : Int) < ((two.length : Nat) : Int))) (
   Option.bind (two[0]?) fun (e20 : CV) =>
   let e21 : CV := (cell1 e20).headD .nili
   let e22 : CV := (cell1 e20).tail.headD .nili
   let e23 : CV := (cell1 e20).tail.tail.headD .nili
   cond (okInt .i64 e21 && (okSli .u8 e22 && (okSlg 3 e23 && true))) (
   let i24 : Int := cvInt e21
   let l25 : List Int := cvSli e22
   let l26 : List CV := cvSlg e23
   cond (isS [.int .i64 i24, .sli .u8 l25, .slg 3 l26]) (
   let r27 : List Int := (vBytesOf i24 l25 l26).1
   let r28 : Int := (vBytesOf i24 l25 l26).2
   cond (decide (r28 = 0)) (
   let r29 : Int := algUsed g
   some (.ret [.cl (.sli .u8 r27), .cl (.bool (decide (((r27.length : Nat) : Int) = r29)))] []))
   (
   some (.ret [.cl (.sli .u8 r27), .cl (.bool false)] []))) none) none) none))) none) none) none) : Option Out) = some (.ret [.cl (.sli .u8 (algG g two).1), .cl (.bool (algG g two).2)] []) := by
 refine c_nsplit (fun h3 => ?_) fun h3 => ?_
 ·rw [algG_no h3]
 match two, h3, hk with
 | [p, q], _, hk =>
  obtain ⟨t2, b2, k2, rfl, hs2⟩ := hk q (by simp)
  obtain ⟨t1, b1, k1, rfl, hs1⟩ := hk p (by simp)
  rw [algG_two, algG2_agg]
  refine c_pos (by simp) ?_
  rw [List.getElem?_cons_succ, List.getElem?_cons_zero, Option.bind_some]
  refine b_pos (c := okInt .i64 _ && (okSli .u8 _ && (okSlg 3 _ && true))) rfl (b_pos hs2 ?_)
  show cond (!decide ((vIntOf t2 b2 k2).2 = 0)) _ _ = _
  refine c_nsplit (fun h4 => ?_) fun h4 => ?_
  ·rw [if_pos h4]
  rw [if_neg (fun e => e h4)]
  show cond (!decide ((vIntOf t2 b2 k2).1 = 16)) _ _ = _
  refine c_nsplit (fun h5 => ?_) fun h5 => ?_
  ·rw [if_pos h5]
  rw [if_neg (fun e => e h5)]
  refine c_pos (by simp) ?_
  rw [List.getElem?_cons_zero, Option.bind_some]
  refine b_pos (c := okInt .i64 _ && (okSli .u8 _ && (okSlg 3 _ && true))) rfl ?_
  exact algB_ret g hs1
 | [], h3, _ => simp at h3
 | [_], h3, _ => simp at h3
 | _ :: _ :: _ :: _, h3, _ => simp at h3; omega
theorem nATail (g : Int) (l : List CV) (hp : tailOk l = true) : gATail g l = some (.ret [.cl (.sli .u8 (algTail g l).1), .cl (.bool (algTail g l).2)] []) := by
 have hw := tailOk_spec hp
 unfold gATail
 rw [tail_eq]
 unfold algTailC
 have hu : algUsed g = algUsedC g := shut_eq _
 refine c_split (fun h => ?_) fun h => ?_
 ·rw [if_pos (hu ▸ h)]
 rw [if_neg (hu ▸ h)]
 refine c_nsplit (fun h1 => ?_) fun h1 => ?_
 ·rw [if_pos h1]
 rw [if_neg (fun e => e h1)]
 match l, h1, hw with
 | [x], _, hw =>
  obtain ⟨t, b, k, rfl, hs⟩ := hw x (by simp)
  refine c_pos (by simp) ?_
  rw [List.getElem?_cons_zero, Option.bind_some, List.headD_cons, algH_agg]
  refine b_pos (c := okInt .i64 _ && (okSli .u8 _ && (okSlg 3 _ && true))) rfl ?_
  show cond (decide (g = 7)) _ _ = _
  refine c_split (fun h7 => ?_) fun h7 => ?_
  ·rw [if_pos h7]
   refine b_pos (kids_lenC hs) ?_
   show cond (!decide ((vKids 48 t b k).2 = 0)) _ _ = _
   refine c_nsplit (fun h2 => ?_) fun h2 => ?_
   ·rw [if_pos h2]
   rw [if_neg (fun e => e h2)]
   have hk := kids_of (g := 48) (t := t) (b := b) (kids_W3 hs)
   exact tail7 g _ hk
  ·rw [if_neg h7]
   exact algB_ret g hs
 | [], h1, _ => simp at h1
 | _ :: _ :: _, h1, _ => simp at h1; omega
theorem tail_len {g : Int} {l : List CV} (hw : ∀ c ∈ l, W3 c) : (algTail g l).1.length <= 30000 := by
 have hB : ∀ x : CV, W3 x -> (algB g x).1.length <= 30000 := fun x hx => by
  obtain ⟨t, b, k, rfl, hs⟩ := hx
  have := (isS_bytes hs).1
  show (vBytesOf t b k).1.length <= 30000
  unfold vBytesOf
  rw [shut_eq]
  split
  ·show b.length <= 30000; omega
  ·simp
 rw [tail_eq]
 unfold algTailC
 split
 ·simp
 split
 ·simp
 rename_i h0 h1
 have h1 : (l.length : Int) = 1 := Classical.byContradiction h1
 match l, h1, hw with
 | [x], _, hw =>
  have hx := hw x (by simp)
  obtain ⟨t, b, k, rfl, hs⟩ := hx
  rw [List.headD_cons, algH_agg]
  split
  ·split
   ·simp
   have hk := kids_of (g := 48) (t := t) (b := b) (kids_W3 hs)
   generalize (vKids 48 t b k).1 = two at hk ⊢
   by_cases h3 : (two.length : Int) = 2
   ·match two, h3, hk with
    | [p, q], _, hk =>
     obtain ⟨t2, b2, k2, rfl, hs2⟩ := hk q (by simp)
     rw [algG_two, algG2_agg]
     split
     ·simp
     split
     ·simp
     ·exact hB _ (hk p (by simp))
    | [], h3, _ => simp at h3
    | [_], h3, _ => simp at h3
    | _ :: _ :: _ :: _, h3, _ => simp at h3; omega
   ·rw [algG_no h3]; simp
  ·exact hB _ (hw _ (by simp))
 | [], h1, _ => simp at h1
 | _ :: _ :: _, h1, _ => simp at h1; omega
theorem read_eq (t : Int) (b : List Int) (k : List CV) : algRead t b k = algReadC t b k := shut_eq _
theorem nARead (t : Int) (b : List Int) (k : List CV) (hp : isS [.int .i64 t, .sli .u8 b, .slg 3 k] = true) : gARead t b k = some (.ret [.cl (.int .i64 (algRead t b k).1), .cl (.sli .u8 (algRead t b k).2.1), .cl (.int .i64 (algRead t b k).2.2)] []) := by
 have hk := kids_of (g := 48) (t := t) (b := b) (kids_W3 hp)
 unfold gARead
 rw [read_eq]
 unfold algReadC
 refine b_pos (kids_lenC hp) ?_
 refine c_nsplit (fun h => ?_) fun h => ?_
 ·rw [if_pos h]
 rw [if_neg (fun e => e h)]
 dsimp only
 generalize (vKids 48 t b k).1 = ks at hk ⊢
 refine c_split (fun h1 => ?_) fun h1 => ?_
 ·unfold algR; rw [if_pos h1]
 match ks, h1, hk with
 | [], h1, _ => exact absurd rfl h1
 | x :: r, _, hk =>
  obtain ⟨t1, b1, k1, rfl, hs⟩ := hk x (by simp)
  have hr : ∀ c ∈ r, W3 c := fun c hc => hk c (by simp [hc])
  rw [algR_cons]
  refine c_pos (by simp only [List.length_cons]; omega) ?_
  rw [List.getElem?_cons_zero, Option.bind_some]
  refine b_pos (c := okInt .i64 _ && (okSli .u8 _ && (okSlg 3 _ && true))) rfl (b_pos hs ?_)
  rw [List.drop_succ_cons, List.drop_zero]
  unfold algR1
  show cond (!decide ((vIdOf t1 b1 k1).2 = 0)) _ _ = _
  refine c_nsplit (fun h2 => ?_) fun h2 => ?_
  ·rw [if_pos h2]
  rw [if_neg (fun e => e h2)]
  refine c_split (fun h3 => ?_) fun h3 => ?_
  ·rw [if_pos (show algOf (vIdOf t1 b1 k1).1 = 0 from h3)]
  rw [if_neg (show ¬algOf (vIdOf t1 b1 k1).1 = 0 from h3)]
  refine c_pos (by simp only [List.length_cons]; omega) (b_pos (tailOk_of hr) ?_)
  have hl := tail_len (g := (algFound (algOf (vIdOf t1 b1 k1).1)).2.1) hr
  show cond (!(algTail (algFound (algOf (vIdOf t1 b1 k1).1)).2.1 r).2) _ _ = _
  cases he : (algTail (algFound (algOf (vIdOf t1 b1 k1).1)).2.1 r).2 with
  | false => rw [if_pos rfl]; rfl
  | true =>
   rw [if_neg (by simp)]
   exact b_neg rfl (b_pos (lenOk_of (show (algTail (algFound (algOf (vIdOf t1 b1 k1).1)).2.1 r).1.length <= 100000000 by omega)) rfl)
end Go.Proofs.YtfkpjbbkdkcdcaaDoorA

namespace Go.Proofs.YtfkpjbbkdkcdcaaDoorA
open IntWalk (i64_in u8_in u32_in u64_in i64_quo u8_quo rem_in)

theorem ents_fit : ∀ e ∈ algEntsC, oidFitC e.2.2 = true := by decide +kernel
theorem found_in {g : Int} (h : ¬(algFoundC g).2.1 = 0) : algFoundC g ∈ algEntsC /\ (algFoundC g).1 = g := by
 rcases found_mem g with e | e
 ·rw [e] at h; exact absurd rfl h
 ·exact e
theorem of_eq (o : List Int) : algOf o = algOfC o := shut_eq _
theorem of_ent {e : Int × Int × List Int} (h : e ∈ algEntsC) : algOf e.2.2 = e.1 := by
 rw [of_eq]
 unfold algOfC
 cases hf : algEntsC.find? fun x => decide (x.2.2 = e.2.2) with
 | none => exact absurd (decide_eq_true rfl) (List.find?_eq_none.1 hf e h)
 | some x =>
  have h1 := List.mem_of_find?_eq_some hf
  have h2 : x.2.2 = e.2.2 := by have := List.find?_some hf; simpa using this
  exact ents_one x h1 e h h2
theorem of_inv {o : List Int} (h : ¬algOf o = 0) : algFoundC (algOf o) ∈ algEntsC /\ (algFoundC (algOf o)).2.2 = o := by
 have h0 := h
 rw [of_eq] at h ⊢
 unfold algOfC at h ⊢
 cases hf : algEntsC.find? fun x => decide (x.2.2 = o) with
 | none => rw [hf] at h; exact absurd rfl h
 | some x =>
  have h1 := List.mem_of_find?_eq_some hf
  have h2 : x.2.2 = o := by have := List.find?_some hf; simpa using this
  show algFoundC x.1 ∈ algEntsC /\ (algFoundC x.1).2.2 = o
  rw [(ents_found x h1).1]
  exact ⟨h1, h2⟩
theorem name_pos {k : Int} (h : 0 < (algNameC k).length) : 1 <= k /\ k < 1 + 10 := by
 unfold algNameC at h
 split at h
 ·omega
 split at h
 ·omega
 split at h
 ·omega
 split at h
 ·omega
 split at h
 ·omega
 ·simp at h
theorem name_fin : ∀ i : Fin 10, ∀ j : Fin 10, algNameC ((i.val : Int) + 1) = algNameC ((j.val : Int) + 1) -> i = j := by decide +kernel
theorem name_inj {k m : Int} (hk : 0 < (algNameC k).length) (hm : 0 < (algNameC m).length) (h : algNameC k = algNameC m) : k = m := by
 have h1 := name_pos hk
 have h2 := name_pos hm
 have := name_fin ⟨(k - 1).toNat, by omega⟩ ⟨(m - 1).toNat, by omega⟩ (by
  show algNameC (((k - 1).toNat : Int) + 1) = algNameC (((m - 1).toNat : Int) + 1)
  rw [show ((k - 1).toNat : Int) + 1 = k by omega, show ((m - 1).toNat : Int) + 1 = m by omega]; exact h)
 have := congrArg Fin.val this
 simp only at this
 omega
/-! ### an algorithm as a value -/
noncomputable def algRest (grp : Int) (b : List Int) : List CV := if grp = 6 then [nodeC 4 b []] else if grp = 7 then [nodeC 48 [] [nodeC 4 b [], nodeC 2 (vInt 16) []]] else []
theorem node_eq (g : Int) (b : List Int) : algNode g b = algNodeC g b := shut_eq _
theorem node_is {g : Int} {b : List Int} (h1 : ¬(algFoundC g).2.1 = 0) (h2 : (b.length : Int) = algUsedC (algFoundC g).2.1) : algNode g b = (48, algIdN (algFoundC g).2.2 :: algRest (algFoundC g).2.1 b, 0) := by
 rw [node_eq]
 unfold algNodeC
 rw [if_neg h1, if_neg (by simp [h2])]
 rfl
theorem node_ok {g : Int} {b : List Int} (h : (algNode g b).2.2 = 0) : ¬(algFoundC g).2.1 = 0 /\ (b.length : Int) = algUsedC (algFoundC g).2.1 := by
 rw [node_eq] at h
 unfold algNodeC at h
 split at h
 ·simp at h
 ·split at h
  ·simp at h
  ·rename_i h1 h2; exact ⟨h1, Classical.byContradiction h2⟩
theorem id_fits {o : List Int} (hf : oidFitC o = true) (hr : ∀ n ∈ o, inU n) : oidParseC (oidBytes o) = (o, 0) /\ derFitsC 6 (oidBytes o) = true := by
 have e : oidBytes o = oidBytesC o := shut_eq _
 rw [e]
 have h := parse_bytes hf hr
 refine ⟨h, ?_⟩
 show decide ((oidParseC (oidBytesC o)).2 = 0) = true
 rw [h]
 rfl
theorem id_node {o : List Int} (hf : oidFitC o = true) (hr : ∀ n ∈ o, inU n) : algIdN o = nodeC 6 (oidBytes o) [] := by
 unfold algIdN
 rw [vMade_ok (id_fits hf hr).2]
theorem bytes_of (b : List Int) : vBytesOf 4 b [] = (b, 0) := by have := bytes_back b; rwa [noKids_eq] at this
theorem kids_of48 (l : List CV) : vKids 48 48 [] l = (l, 0) := by have := kids_back l; rwa [noInts_eq] at this
theorem used_cases (grp : Int) : grp = 6 \/ grp = 7 \/ (¬grp = 6 /\ ¬grp = 7 /\ algUsedC grp = 0) := by
 unfold algUsedC
 by_cases h : grp = 6
 ·exact .inl h
 ·by_cases h' : grp = 7
  ·exact .inr (.inl h')
  ·exact .inr (.inr ⟨h, h', by rw [if_neg h, if_neg h']⟩)
theorem algB_node {g : Int} {b : List Int} (h : (b.length : Int) = algUsedC g) : algB g (nodeC 4 b []) = (b, true) := by
 show ((vBytesOf 4 b []).1, decide ((vBytesOf 4 b []).2 = 0) && decide (((vBytesOf 4 b []).1.length : Int) = algUsedC g)) = _
 rw [bytes_of]
 show (b, decide ((0 : Int) = 0) && decide ((b.length : Int) = algUsedC g)) = _
 rw [decide_eq_true h]
 rfl
theorem tail_rest {grp : Int} {b : List Int} (hb : (b.length : Int) = algUsedC grp) : algTail grp (algRest grp b) = (b, true) := by
 rw [tail_eq]
 unfold algTailC
 rcases used_cases grp with rfl | rfl | ⟨h6, h7, h0⟩
 ·rw [if_neg (show ¬algUsedC 6 = 0 by decide), show algRest 6 b = [nodeC 4 b []] from rfl, if_neg (by simp), List.headD_cons]
  unfold nodeC
  rw [algH_agg, if_neg (by decide)]
  exact algB_node hb
 ·have h16 : vIntOf 2 (vInt 16) [] = (16, 0) := by have := int_back (n := 16) (by decide); rwa [noKids_eq] at this
  rw [if_neg (show ¬algUsedC 7 = 0 by decide), show algRest 7 b = [nodeC 48 [] [nodeC 4 b [], nodeC 2 (vInt 16) []]] from rfl, if_neg (by simp), List.headD_cons]
  unfold nodeC
  rw [algH_agg, if_pos rfl, kids_of48, if_neg (by simp), algG_two, algG2_agg, h16, if_neg (by simp), if_neg (by simp)]
  exact algB_node hb
 ·rw [if_pos h0]
  have hl : b = [] := List.eq_nil_of_length_eq_zero (by omega)
  subst hl
  unfold algRest
  rw [if_neg h6, if_neg h7]
  rfl
theorem read_node {g : Int} {b : List Int} (h1 : ¬(algFoundC g).2.1 = 0) (h2 : (b.length : Int) = algUsedC (algFoundC g).2.1) : algRead 48 [] (algIdN (algFoundC g).2.2 :: algRest (algFoundC g).2.1 b) = (g, b, 0) := by
 obtain ⟨hm, hg⟩ := found_in h1
 have hf := ents_fit _ hm
 have hr := (found_id g).2
 have hof : algOf (algFoundC g).2.2 = g := by rw [of_ent hm, hg]
 have hid : vIdOf 6 (oidBytes (algFoundC g).2.2) [] = ((algFoundC g).2.2, 0) := by
  unfold vIdOf
  rw [shut_eq, if_pos (vErr_ok rfl rfl (id_fits hf hr).2)]
  unfold oidParse
  rw [shut_eq]
  exact (id_fits hf hr).1
 have hgr : 1 <= g := by have := (ents_all _ hm).1; rw [hg] at this; omega
 rw [read_eq]
 unfold algReadC
 rw [kids_of48, id_node hf hr, if_neg (by simp)]
 unfold nodeC
 rw [algR_cons, hid]
 unfold algR1
 rw [if_neg (by simp)]
 show (if algOf (algFoundC g).2.2 = 0 then (0, [], 9) else if (algTail (algFound (algOf (algFoundC g).2.2)).2.1 (algRest (algFoundC g).2.1 b)).2 = false then (0, [], 1)
  else (algOf (algFoundC g).2.2, (algTail (algFound (algOf (algFoundC g).2.2)).2.1 (algRest (algFoundC g).2.1 b)).1, 0)) = _
 rw [hof, found_eq, tail_rest h2, if_neg (by omega), if_neg (by simp)]
/-! ### it is fit -/
theorem ok_leafI {n d : Nat} {t : Int} {b : List Int} (hk : derKnownC t = true) (hb : derBoxedC t = false) (hf : derFitsC t b = true) : okF (n + 1) (d + 1) [.int .i64 t, .sli .u8 b, .slg 3 []] = true := by
 show (derKnownC t && (if derBoxedC t = true then _ else decide (([] : List CV) = []) && derFitsC t b)) = true
 rw [hk, hb, if_neg (by simp), hf]
 simp
theorem ok_boxI {n d : Nat} {t : Int} {l : List CV} (hk : derKnownC t = true) (hb : derBoxedC t = true) (h : ∀ c ∈ l, okF n d (cell1 c) = true) : okF (n + 1) (d + 1) [.int .i64 t, .sli .u8 [], .slg 3 l] = true := by
 show (derKnownC t && (if derBoxedC t = true then decide (([] : List Int) = []) && l.all (fun c => okF n d (cell1 c)) else _)) = true
 rw [hk, if_pos hb, List.all_eq_true.2 h]
 simp
theorem by_boxI {n : Nat} {t : Int} {l : List CV} (hb : derBoxedC t = true) (ht : ¬t = 49) (h : ∀ c ∈ l, (bytesF n (cell1 c)).2 = true) : (bytesF (n + 1) [.int .i64 t, .sli .u8 [], .slg 3 l]).2 = true := by
 rw [bytes_box hb]
 show ((l.all fun c => (bytesF n (cell1 c)).2) && (!(decide (t = 49)) || _)) = true
 rw [List.all_eq_true.2 h, decide_eq_false ht]
 rfl
theorem by_leafI {n : Nat} {t : Int} {b : List Int} (hb : derBoxedC t = false) : (bytesF (n + 1) [.int .i64 t, .sli .u8 b, .slg 3 []]).2 = true := by rw [bytes_leaf hb]
theorem leaf_tfI {n : Nat} {t : Int} {b : List Int} (hb : ∀ x ∈ b, 0 <= x /\ x <= 255) : isTf (n + 1) [.int .i64 t, .sli .u8 b, .slg 3 []] = true := tf_mk hb (by simp)
/-- a node of an algorithm: it is one, and fit -/
theorem node_fit {o b : List Int} {grp : Int} (hf : oidFitC o = true) (hr : ∀ n ∈ o, inU n) (hb : ∀ x ∈ b, 0 <= x /\ x <= 255) (hl : b.length <= 300) :
  isS [.int .i64 48, .sli .u8 [], .slg 3 (algIdN o :: algRest grp b)] = true /\ ndFit [.int .i64 48, .sli .u8 [], .slg 3 (algIdN o :: algRest grp b)] = true := by
 obtain ⟨o1, o2⟩ := oid_bytes hr
 obtain ⟨i1, i2⟩ := int_facts 16
 have hfo := (id_fits hf hr).2
 have hf4 : derFitsC 4 b = true := rfl
 have hf2 : derFitsC 2 (vInt 16) = true := fits_int 16
 rw [id_node hf hr]
 have key : ∀ l : List CV, (∀ c ∈ l, ∃ y, c = .agg y /\ isTf 2 y = true /\ okF 2 31 y = true /\ (bytesF 2 y).2 = true) -> (l.map fun c => bulkF 2 (cell1 c)).sum <= 10000 -> isS [.int .i64 48, .sli .u8 [], .slg 3 l] = true /\ ndFit [.int .i64 48, .sli .u8 [], .slg 3 l] = true := fun l h hs => by
  have ht : isTf 3 [.int .i64 48, .sli .u8 [], .slg 3 l] = true := tf_mk (by simp) fun c hc => by obtain ⟨y, e, hy, _⟩ := h c hc; exact ⟨y, e, hy⟩
  refine ⟨isS_of ht (by show 1 + 0 + (l.map fun c => bulkF 2 (cell1 c)).sum <= 30000; omega), ?_⟩
  rw [ndFit_eq ht]
  refine decide_eq_true ⟨ok_boxI (d := 31) rfl rfl fun c hc => ?_, by_boxI rfl (by decide) fun c hc => ?_⟩
  ·obtain ⟨y, rfl, _, hy, _⟩ := h c hc; exact hy
  ·obtain ⟨y, rfl, _, _, hy⟩ := h c hc; exact hy
 have hI : ∃ y, nodeC 6 (oidBytes o) [] = .agg y /\ isTf 2 y = true /\ okF 2 31 y = true /\ (bytesF 2 y).2 = true := ⟨_, rfl, leaf_tfI o2, ok_leafI rfl rfl hfo, by_leafI rfl⟩
 have hB : ∀ m : Nat, isTf (m + 1) [.int .i64 4, .sli .u8 b, .slg 3 []] = true := fun m => leaf_tfI hb
 unfold algRest
 split
 ·refine key _ (fun c hc => ?_) ?_
  ·simp only [List.mem_cons, List.mem_nil_iff, or_false] at hc
   rcases hc with rfl | rfl
   ·exact hI
   ·exact ⟨_, rfl, hB 1, ok_leafI rfl rfl hf4, by_leafI rfl⟩
  ·show 1 + (oidBytes o).length + 0 + (1 + b.length + 0 + 0) <= 10000
   omega
 ·split
  ·refine key _ (fun c hc => ?_) ?_
   ·simp only [List.mem_cons, List.mem_nil_iff, or_false] at hc
    rcases hc with rfl | rfl
    ·exact hI
    ·refine ⟨_, rfl, tf_mk (by simp) fun c hc => ?_, ok_boxI rfl rfl fun c hc => ?_, by_boxI rfl (by decide) fun c hc => ?_⟩ <;> simp only [List.mem_cons, List.mem_nil_iff, or_false] at hc <;> rcases hc with rfl | rfl
     ·exact ⟨_, rfl, hB 0⟩
     ·exact ⟨_, rfl, leaf_tfI i2⟩
     ·exact ok_leafI rfl rfl hf4
     ·exact ok_leafI rfl rfl hf2
     ·exact by_leafI rfl
     ·exact by_leafI rfl
   ·show 1 + (oidBytes o).length + 0 + (1 + 0 + (1 + b.length + 0 + (1 + (vInt 16).length + 0 + 0)) + 0) <= 10000
    omega
  ·refine key _ (fun c hc => ?_) ?_
   ·simp only [List.mem_cons, List.mem_nil_iff, or_false] at hc
    subst hc; exact hI
   ·show 1 + (oidBytes o).length + 0 + 0 <= 10000
    omega
/-! ### what is read -/
theorem int16 {b : List Int} (hb : ∀ x ∈ b, 0 <= x /\ x <= 255) (hn : derNumberC b = true) (ht : twosC b = 16) : b = [16] := by
 match b, hb, hn, ht with
 | [], _, hn, _ => cases hn
 | [x], hb, _, ht =>
  have hx := hb x (by simp)
  rw [twos_cons] at ht
  have e : bytesNumC [x] = x := by show 0 * 256 + x = x; omega
  rw [e] at ht
  have e1 : (256 : Int) ^ (([] : List Int).length + 1) = 256 := by decide
  rw [e1] at ht
  split at ht
  ·omega
  ·rw [ht]
 | x :: y :: r, hb, hn, ht =>
  exfalso
  obtain ⟨n1, n2, n3⟩ := num_half (b := x :: y :: r) (L := r.length + 1) hb rfl
  obtain ⟨m1, m2, m3⟩ := num_half (b := y :: r) (L := r.length) (fun z hz => hb z (by simp [hz])) rfl
  have hx := hb x (by simp)
  have hn : (!(decide (x = 0 /\ y < 128)) && !(decide (x = 255 /\ 128 <= y))) = true := hn
  simp only [Bool.and_eq_true, Bool.not_eq_true', decide_eq_false_iff_not] at hn
  rw [twos_cons] at ht
  rw [num_cons x (y :: r)] at n1 n2 n3 ht
  simp only [List.headD_cons, List.length_cons] at n1 n2 n3 m3 ht
  have hp : (256 : Int) ^ (r.length + 1 + 1) = 256 ^ (r.length + 1) * 256 := Int.pow_succ ..
  have hp1 : (256 : Int) ^ (r.length + 1) = 256 ^ r.length * 256 := Int.pow_succ ..
  have hz : (1 : Int) <= 256 ^ r.length := by have := Int.pow_pos (n := 256) (m := r.length) (by omega); omega
  rw [hp] at ht
  rw [hp1] at ht n1 n2 n3
  generalize (256 : Int) ^ r.length = z at *
  generalize bytesNumC (y :: r) = w at *
  split at ht
  ·omega
  ·rename_i h128
   have hx0 : x = 0 := by
    rcases Int.lt_or_le 0 x with e | e
    ·have : z * 256 <= x * (z * 256) := by
      have := Int.mul_le_mul_of_nonneg_right (show (1 : Int) <= x by omega) (show (0 : Int) <= z * 256 by omega)
      omega
     omega
    ·omega
   subst hx0
   have : w = 16 := by omega
   have hy : 128 <= y := Classical.byContradiction fun e => hn.1 ⟨rfl, by omega⟩
   have := m3.1 hy
   omega
theorem vint16 : vInt 16 = [16] := by unfold vInt; rw [shut_eq]; rfl
theorem int_inv16 {t : Int} {b : List Int} {k : List CV} (hs : isS [.int .i64 t, .sli .u8 b, .slg 3 k] = true) (h1 : (vIntOf t b k).2 = 0) (h2 : (vIntOf t b k).1 = 16) : CV.agg [.int .i64 t, .sli .u8 b, .slg 3 k] = nodeC 2 (vInt 16) [] := by
 unfold vIntOf at h1 h2
 rw [shut_eq] at h1 h2
 split at h1
 ·rename_i he
  rw [if_pos he] at h2
  obtain ⟨rfl, hk, hd⟩ := vErr_inv he
  have hk := List.eq_nil_of_length_eq_zero hk
  subst hk
  unfold vNumberC at h1 h2
  split at h1
  ·simp at h1
  ·rename_i h8
   rw [if_neg h8] at h2
   have hd : derNumberC b = true := hd
   rw [vint16, int16 (isS_bytes hs).2 hd h2]
   rfl
 ·rename_i he; exact absurd h1 he
theorem bytes_inv {t : Int} {b : List Int} {k : List CV} (h : (vBytesOf t b k).2 = 0) : t = 4 /\ k = [] /\ (vBytesOf t b k).1 = b := by
 unfold vBytesOf at h ⊢
 rw [shut_eq] at h ⊢
 split at h
 ·rename_i he
  obtain ⟨h1, h2, _⟩ := vErr_inv he
  rw [if_pos he]
  exact ⟨h1, List.eq_nil_of_length_eq_zero h2, rfl⟩
 ·rename_i he; exact absurd h he
theorem kids_inv {t : Int} {b : List Int} {k : List CV} (h : (vKids 48 t b k).2 = 0) : t = 48 /\ b = [] /\ (vKids 48 t b k).1 = k := by
 refine ⟨?_, ?_, vKids_ok h⟩
 ·exact Classical.byContradiction fun e => by rw [vKids_tag e] at h; simp at h
 ·by_cases e : t = 48
  ·by_cases hb : b.length ≠ 0
   ·rw [vKids_b e rfl hb] at h; simp at h
   ·exact List.eq_nil_of_length_eq_zero (by omega)
  ·rw [vKids_tag e] at h; simp at h
theorem algB_inv {g t : Int} {b : List Int} {k : List CV} (h : (algB g (.agg [.int .i64 t, .sli .u8 b, .slg 3 k])).2 = true) : CV.agg [.int .i64 t, .sli .u8 b, .slg 3 k] = nodeC 4 b [] /\ (algB g (.agg [.int .i64 t, .sli .u8 b, .slg 3 k])).1 = b /\ (b.length : Int) = algUsedC g := by
 have h : (decide ((vBytesOf t b k).2 = 0) && decide (((vBytesOf t b k).1.length : Int) = algUsedC g)) = true := h
 simp only [Bool.and_eq_true, decide_eq_true_eq] at h
 obtain ⟨rfl, rfl, e⟩ := bytes_inv h.1
 refine ⟨rfl, e, ?_⟩
 rw [e] at h
 exact h.2
theorem tail_inv {grp : Int} {l : List CV} (hw : ∀ c ∈ l, W3 c) (h : (algTail grp l).2 = true) : l = algRest grp (algTail grp l).1 /\ ((algTail grp l).1.length : Int) = algUsedC grp := by
 rw [tail_eq] at h ⊢
 unfold algTailC at h ⊢
 by_cases h0 : algUsedC grp = 0
 ·rw [if_pos h0] at h ⊢
  have h : decide ((l.length : Int) = 0) = true := h
  have hl : l = [] := List.eq_nil_of_length_eq_zero (by have := of_decide_eq_true h; omega)
  subst hl
  rcases used_cases grp with rfl | rfl | ⟨h6, h7, _⟩
  ·exact absurd h0 (by decide)
  ·exact absurd h0 (by decide)
  ·unfold algRest
   rw [if_neg h6, if_neg h7, h0]
   exact ⟨rfl, rfl⟩
 rw [if_neg h0] at h ⊢
 by_cases h1 : ¬((l.length : Int) = 1)
 ·rw [if_pos h1] at h; simp at h
 replace h1 := Classical.byContradiction h1
 rw [if_neg (fun e => e h1)] at h ⊢
 match l, h1, hw with
 | [], h1, _ => simp at h1
 | _ :: _ :: _, h1, _ => simp at h1; omega
 | [x], _, hw =>
  obtain ⟨t, b, k, rfl, hs⟩ := hw x (by simp)
  rw [List.headD_cons, algH_agg] at h ⊢
  rcases used_cases grp with rfl | rfl | ⟨_, _, e⟩
  ·rw [if_neg (by decide)] at h ⊢
   obtain ⟨e1, e2, e3⟩ := algB_inv h
   refine ⟨?_, by rw [e2]; exact e3⟩
   rw [e2, e1]; rfl
  ·rw [if_pos rfl] at h ⊢
   by_cases g1 : ¬((vKids 48 t b k).2 = 0)
   ·rw [if_pos g1] at h; simp at h
   replace g1 := Classical.byContradiction g1
   rw [if_neg (fun x => x g1)] at h ⊢
   have hk := kids_of (g := 48) (t := t) (b := b) (kids_W3 hs)
   obtain ⟨rfl, rfl, e⟩ := kids_inv g1
   rw [e] at h hk ⊢
   by_cases g2 : ¬((k.length : Int) = 2)
   ·rw [algG_no g2] at h; simp at h
   replace g2 := Classical.byContradiction g2
   match k, g2, hk with
   | [], g2, _ => simp at g2
   | [_], g2, _ => simp at g2
   | _ :: _ :: _ :: _, g2, _ => simp at g2; omega
   | [p, q], _, hk =>
    obtain ⟨t1, b1, k1, rfl, hs1⟩ := hk p (by simp)
    obtain ⟨t2, b2, k2, rfl, hs2⟩ := hk q (by simp)
    rw [algG_two, algG2_agg] at h ⊢
    by_cases g3 : ¬((vIntOf t2 b2 k2).2 = 0)
    ·rw [if_pos g3] at h; simp at h
    replace g3 := Classical.byContradiction g3
    rw [if_neg (fun x => x g3)] at h ⊢
    by_cases g4 : ¬((vIntOf t2 b2 k2).1 = 16)
    ·rw [if_pos g4] at h; simp at h
    replace g4 := Classical.byContradiction g4
    rw [if_neg (fun x => x g4)] at h ⊢
    have hq := int_inv16 hs2 g3 g4
    obtain ⟨e1, e2, e3⟩ := algB_inv h
    refine ⟨?_, by rw [e2]; exact e3⟩
    rw [e2, e1, hq]; rfl
  ·exact absurd e h0
theorem read_inv {t : Int} {b : List Int} {k : List CV} (hs : isS [.int .i64 t, .sli .u8 b, .slg 3 k] = true) (h : (algRead t b k).2.2 = 0) :
  (algNode (algRead t b k).1 (algRead t b k).2.1).2.2 = 0 /\ (algNode (algRead t b k).1 (algRead t b k).2.1).1 = t /\ b = [] /\ (algNode (algRead t b k).1 (algRead t b k).2.1).2.1 = k /\ (algRead t b k).2.1.length <= 16 := by
 rw [read_eq] at h ⊢
 unfold algReadC at h ⊢
 by_cases g1 : ¬((vKids 48 t b k).2 = 0)
 ·rw [if_pos g1] at h; simp at h
 replace g1 := Classical.byContradiction g1
 rw [if_neg (fun x => x g1)] at h ⊢
 obtain ⟨rfl, rfl, e⟩ := kids_inv g1
 rw [e] at h ⊢
 have hw := kids_W3 hs
 match k, hw with
 | [], _ => unfold algR at h; simp at h
 | x :: r, hw =>
  obtain ⟨t1, b1, k1, rfl, hs1⟩ := hw x (by simp)
  have hr : ∀ c ∈ r, W3 c := fun c hc => hw c (by simp [hc])
  rw [algR_cons] at h ⊢
  unfold algR1 at h ⊢
  by_cases g3 : ¬((vIdOf t1 b1 k1).2 = 0)
  ·rw [if_pos g3] at h; simp at h
  replace g3 := Classical.byContradiction g3
  rw [if_neg (fun x => x g3)] at h ⊢
  by_cases g4 : algOf (vIdOf t1 b1 k1).1 = 0
  ·rw [if_pos g4] at h; simp at h
  rw [if_neg g4] at h ⊢
  by_cases g5 : (algTail (algFound (algOf (vIdOf t1 b1 k1).1)).2.1 r).2 = false
  ·rw [if_pos g5] at h; simp at h
  rw [if_neg g5]
  have g5 : (algTail (algFound (algOf (vIdOf t1 b1 k1).1)).2.1 r).2 = true := by
   cases hx : (algTail (algFound (algOf (vIdOf t1 b1 k1).1)).2.1 r).2 with
   | true => rfl
   | false => exact absurd hx g5
  have hv : vErrC 6 t1 b1 k1 = 0 := by
   unfold vIdOf at g3
   rw [shut_eq] at g3
   by_cases he : vErrC 6 t1 b1 k1 = 0
   ·exact he
   ·rw [if_neg he] at g3; exact absurd g3 he
  have hvi : vIdOf t1 b1 k1 = oidParse b1 := by unfold vIdOf; rw [shut_eq, if_pos hv]
  obtain ⟨rfl, hk1, hd⟩ := vErr_inv hv
  have hk1 := List.eq_nil_of_length_eq_zero hk1
  subst hk1
  have hp : oidParse b1 = oidParseC b1 := shut_eq _
  have hd : decide ((oidParseC b1).2 = 0) = true := hd
  rcases bytes_parse (isS_bok hs1) with h5 | ⟨o, h5, hof, hor, hob⟩
  ·rw [h5] at hd; simp at hd
  rw [hvi, hp, h5] at g4 g5 ⊢
  have g4 : ¬algOf o = 0 := g4
  have g5 : (algTail (algFound (algOf o)).2.1 r).2 = true := g5
  show (algNode (algOf o) (algTail (algFound (algOf o)).2.1 r).1).2.2 = 0 /\ (algNode (algOf o) (algTail (algFound (algOf o)).2.1 r).1).1 = 48 /\ ([] : List Int) = [] /\ (algNode (algOf o) (algTail (algFound (algOf o)).2.1 r).1).2.1 = CV.agg [.int .i64 6, .sli .u8 b1, .slg 3 []] :: r /\ (algTail (algFound (algOf o)).2.1 r).1.length <= 16
  obtain ⟨q1, q2⟩ := of_inv g4
  rw [found_eq] at g5 ⊢
  obtain ⟨z1, z2⟩ := tail_inv hr g5
  have hne := (ents_found _ q1).2
  have hu : algUsedC (algFoundC (algOf o)).2.1 <= 16 := by
   rcases used_cases (algFoundC (algOf o)).2.1 with e | e | ⟨_, _, e⟩
   ·rw [e]; decide
   ·rw [e]; decide
   ·rw [e]; omega
  rw [node_is hne z2, <- z1, q2, id_node hof hor, show oidBytes o = b1 from (show oidBytes o = oidBytesC o from shut_eq _).trans hob]
  exact ⟨rfl, rfl, rfl, rfl, by omega⟩
theorem read_no {t : Int} {b : List Int} {k : List CV} (h : ¬(algRead t b k).2.2 = 0) : (algRead t b k).1 = 0 /\ (algRead t b k).2.1 = [] := by
 rw [read_eq] at h ⊢
 unfold algReadC at h ⊢
 split
 ·exact ⟨rfl, rfl⟩
 ·rename_i g1; rw [if_neg g1] at h
  unfold algR at h ⊢
  split
  ·exact ⟨rfl, rfl⟩
  ·rename_i g2; rw [if_neg g2] at h
   unfold algR1 at h ⊢
   split
   ·exact ⟨rfl, rfl⟩
   ·rename_i g3; rw [if_neg g3] at h
    split
    ·exact ⟨rfl, rfl⟩
    ·rename_i g4; rw [if_neg g4] at h
     split
     ·exact ⟨rfl, rfl⟩
     ·rename_i g5; rw [if_neg g5] at h
      exact absurd rfl h
end Go.Proofs.YtfkpjbbkdkcdcaaDoorA

namespace Go.Proofs.YtfkpjbbkdkcdcaaDoorA
open IntWalk (i64_in u8_in u32_in u64_in i64_quo u8_quo rem_in)

theorem back_rd {k0 : Option Out} {k1 : Bool -> Option Out} {t : Int} {b : List Int} {k : List CV} (hs : isS [.int .i64 t, .sli .u8 b, .slg 3 k] = true) :
  cond (isS [.int .i64 t, .sli .u8 b, .slg 3 k]) (cond (!decide ((algRead t b k).2.2 = 0)) (cond (decide ((algRead t b k).1 = 0)) (cond (decide (((algRead t b k).2.1.length : Int) = 0)) (k1 true) k0) k0)
   (cond (lenOk (algRead t b k).2.1) (cond (decide ((algNode (algRead t b k).1 (algRead t b k).2.1).2.2 = 0))
    (cond (isN [.int .i64 (algNode (algRead t b k).1 (algRead t b k).2.1).1, .sli .u8 noInts, .slg 3 (algNode (algRead t b k).1 (algRead t b k).2.1).2.1] && isN [.int .i64 t, .sli .u8 b, .slg 3 k])
     (cond (ndSame [.int .i64 (algNode (algRead t b k).1 (algRead t b k).2.1).1, .sli .u8 noInts, .slg 3 (algNode (algRead t b k).1 (algRead t b k).2.1).2.1] [.int .i64 t, .sli .u8 b, .slg 3 k]) (k1 true) k0) none) k0) none)) none = k1 true := by
 refine b_pos hs (c_nsplit (fun h => ?_) fun h => ?_)
 ·obtain ⟨e1, e2⟩ := read_no h
  rw [e1, e2]
  exact c_pos rfl (c_pos rfl rfl)
 ·obtain ⟨e1, e2, e3, e4, e5⟩ := read_inv hs h
  refine b_pos (lenOk_of (by omega)) (c_pos e1 ?_)
  rw [e2, e4, noInts_eq, <- e3]
  exact same_node (isN_isS hs)
theorem back_j8 {k0 : Option Out} {k1 : Bool -> Option Out} {g t : Int} {c b : List Int} {k : List CV} (hs : isS [.int .i64 t, .sli .u8 b, .slg 3 k] = true) (hc : c.length <= 300) (hcb : ∀ x ∈ c, 0 <= x /\ x <= 255) : jnALBack_8 k0 k1 g c t b k = k1 true := by
 unfold jnALBack_8
 have hl : lenOk c = true := lenOk_of (by omega)
 refine b_pos hl (c_split (fun h => ?_) fun h => back_rd hs)
 obtain ⟨h1, h2⟩ := node_ok h
 obtain ⟨hm, hg⟩ := found_in h1
 obtain ⟨f1, f2⟩ := node_fit (grp := (algFoundC g).2.1) (ents_fit _ hm) (found_id g).2 hcb hc
 rw [node_is h1 h2, noInts_eq]
 refine b_pos f1 ?_
 rw [read_node h1 h2]
 refine c_nneg rfl (c_nneg rfl (b_pos hl (b_neg (by rw [same_refl]; rfl) (b_pos f1 (b_neg (by rw [f2]; rfl) ?_)))))
 have := back_rd (k0 := k0) (k1 := k1) hs
 rw [noInts_eq] at this
 exact this
theorem same_dec (l m : List Int) : listSame l m = decide (l = m) := by unfold listSame listSameC; rw [shut_eq]
theorem back_j6 {k0 : Option Out} {k1 : Bool -> Option Out} {g h t : Int} {c b : List Int} {k : List CV} (hs : isS [.int .i64 t, .sli .u8 b, .slg 3 k] = true) (hc : c.length <= 300) (hcb : ∀ x ∈ c, 0 <= x /\ x <= 255) : jnALBack_6 k0 k1 g h c t b k = k1 true := by
 unfold jnALBack_6
 have e : ∀ k, algName k = algNameC k := fun k => shut_eq _
 simp only [shut_eq]
 refine c_split (fun h1 => c_split (fun h2 => ?_) fun h2 => back_j8 hs hc hcb) fun h1 => back_j8 hs hc hcb
 refine b_pos (lenOk_of (by have := name_len g; omega)) (b_neg ?_ (back_j8 hs hc hcb))
 rw [same_dec, e, e]
 rw [e] at h1 h2
 have : decide (algNameC g = algNameC h) = decide (g = h) := by
  rw [decide_eq_decide]
  exact ⟨fun x => name_inj (by omega) (by omega) x, fun x => by rw [x]⟩
 rw [this]
 simp
theorem nALBack (g h : Int) (c : List Int) (t : Int) (b : List Int) (k : List CV) (hp : (stI64 g && (stI64 h && (bytesAll c && isT [.int .i64 t, .sli .u8 b, .slg 3 k]))) = true) : gALBack g h c t b k = some (.ret [.cl (.bool true)] []) := by
 simp only [Bool.and_eq_true] at hp
 obtain ⟨_, _, h3, h4⟩ := hp
 have hcb : ∀ x ∈ c, 0 <= x /\ x <= 255 := by
  unfold bytesAll at h3
  rw [shut_eq, List.all_eq_true] at h3
  exact fun x hx => byteB_spec (h3 x hx)
 unfold gALBack
 refine c_split (fun _ => rfl) fun hc => b_pos (by rw [h4, leftOk_of (by omega)]; rfl) (c_split (fun _ => rfl) fun hsm => ?_)
 have hs : isS [.int .i64 t, .sli .u8 b, .slg 3 k] = true := by
  obtain ⟨n, hn⟩ := isT_spec h4
  rw [ndSmall_eq hn] at hsm
  have := small_bulk hn 1000 (by omega) (by omega)
  exact isS_of hn (by omega)
 have hc : c.length <= 300 := by omega
 simp only [shut_eq, found_eq]
 refine c_nsplit (fun h1 => ?_) fun h1 => back_j6 hs hc hcb
 obtain ⟨m1, g1⟩ := found_in h1
 refine c_nneg (by rw [of_ent m1, g1]) ?_
 refine c_nsplit (fun h2 => ?_) fun h2 => back_j6 hs hc hcb
 obtain ⟨m2, g2⟩ := found_in h2
 refine b_pos (lenOk_of (by have := (found_id g).1; omega)) (b_neg ?_ (back_j6 hs hc hcb))
 have : decide ((algFoundC g).2.2 = (algFoundC h).2.2) = decide (g = h) := by
  rw [decide_eq_decide]
  refine ⟨fun x => ?_, fun x => by rw [x]⟩
  have := ents_one _ m1 _ m2 x
  rw [g1, g2] at this
  exact this
 rw [same_dec, this]
 simp
end Go.Proofs.YtfkpjbbkdkcdcaaDoorA
