/-
 The value layer: numbers as bytes, and what values of no parts are. Conditions: each function's own.
-/
import Derived.Test.YtfkpjbbkdkcdcaaDoorT3b
set_option linter.unusedVariables false
set_option linter.unusedSimpArgs false
set_option maxRecDepth 100000
namespace Go.Proofs.YtfkpjbbkdkcdcaaDoorA
open IntWalk (i64_in u8_in u32_in u64_in i64_quo u8_quo rem_in)

theorem vu64_of {n : Int} (h : 0 <= n /\ n <= 18446744073709551615) : u64Ok n = true := by unfold u64Ok; rw [shut_eq]; exact decide_eq_true h
theorem vu64_spec {n : Int} (h : u64Ok n = true) : 0 <= n /\ n <= 18446744073709551615 := by unfold u64Ok at h; rw [shut_eq] at h; exact of_decide_eq_true h
/-! ### bytes of a number -/
theorem v_mod (x : Int) : IntKind.u8.wrap x = x % 256 := by simp [IntKind.wrap, IntKind.bits, IntKind.signed]
theorem v_div {n : Int} (h : 0 <= n) (k : Nat) : Int.fdiv n (2 ^ k) = n / 2 ^ k := Int.fdiv_eq_ediv_of_nonneg _ (by have : (0 : Int) < 2 ^ k := Int.pow_pos (by decide); omega)
theorem nVLe (n : Int) (hp : u64Ok n = true) : gVLe n = some (.ret [.ref 0 0 8 true 1] [some ⟨.ints .u8 (vLe n), false⟩]) := by
 have h := (vu64_spec hp).1
 unfold gVLe vLe vLeC
 simp only [shut_eq, v_mod, v_div h]
 simp only [show (2 : Int) ^ 0 = 1 from rfl, show (2 : Int) ^ 8 = 256 from rfl, show (2 : Int) ^ 16 = 65536 from rfl, show (2 : Int) ^ 24 = 16777216 from rfl, show (2 : Int) ^ 32 = 4294967296 from rfl, show (2 : Int) ^ 40 = 1099511627776 from rfl,
  show (2 : Int) ^ 48 = 281474976710656 from rfl, show (2 : Int) ^ 56 = 72057594037927936 from rfl, Int.ediv_one]
theorem nVReverse (l : List Int) (hp : revOk l = true) : gVReverse l = some (.ret [] [some ⟨.ints .u8 (vRev l), false⟩]) := by
 have h : l.length = 8 := by unfold revOk at hp; rw [shut_eq] at hp; exact of_decide_eq_true hp
 match l, h with
 | [a0, a1, a2, a3, a4, a5, a6, a7], _ =>
  unfold vRev
  rw [shut_eq]
  rfl
theorem vLe_len (n : Int) : (vLe n).length = 8 := by unfold vLe; rw [shut_eq]; rfl
theorem nVBe (n : Int) (hp : u64Ok n = true) : gVBe n = some (.ret [.cl (.sli .u8 (vBe n))] []) := by
 unfold gVBe
 refine b_pos hp (b_pos (by unfold revOk; rw [shut_eq]; exact decide_eq_true (vLe_len n)) ?_)
 unfold vBe vRev vLe
 simp only [shut_eq]
/-! ### a number as a value -/
theorem vBe_len (n : Int) : (vBe n).length = 8 := by unfold vBe; rw [shut_eq]; rfl
theorem trim_two (a b : Int) (r : List Int) : trimF (a :: b :: r) = if (a = 0 /\ b < 128) \/ (a = 255 /\ 128 <= b) then trimF (b :: r) else a :: b :: r := by
 conv => lhs; unfold trimF
abbrev vRetI : List Int -> Option Out := fun y => some (.ret [.cl (.agg [.int .i64 2, .sli .u8 y, .slg 3 []])] [])
theorem vint_lp : ∀ (f : Nat) (l : List Int), l.length < f -> lpVInt_2 vRetI f l = vRetI (trimF l)
 | 0, l, h => by omega
 | f + 1, l, h => by
  show lpVInt_2s (lpVInt_2 vRetI f) vRetI l = _
  unfold lpVInt_2s
  match l, h with
  | [], _ => exact c_neg (by simp) rfl
  | [a], _ => exact c_neg (by simp) rfl
  | a :: b :: r, h =>
   have again := vint_lp f (b :: r) (by simp only [List.length_cons] at h ⊢; omega)
   generalize lpVInt_2 vRetI f = ag at again ⊢
   have l1 : (1 : Int) < (((a :: b :: r).length : Nat) : Int) := by simp only [List.length_cons]; omega
   rw [trim_two]
   refine c_pos l1 (c_pos (by omega) ?_)
   show cond (decide (a = 0)) _ _ = _
   refine c_split (fun h0 => c_pos l1 ?_) fun h0 => c_pos (by omega) ?_
   ·show cond (decide (b < 128)) _ _ = _
    refine c_split (fun h1 => c_pos (by omega) ?_) fun h1 => c_pos (by omega) ?_
    ·rw [if_pos (.inl ⟨h0, h1⟩)]; exact again
    ·show cond (decide (a = 255)) _ _ = _
     rw [if_neg (by omega)]
     exact c_neg (by omega) rfl
   ·show cond (decide (a = 255)) _ _ = _
    refine c_split (fun h1 => c_pos l1 ?_) fun h1 => ?_
    ·show cond (decide (128 <= b)) _ _ = _
     refine c_split (fun h2 => c_pos (by omega) ?_) fun h2 => ?_
     ·rw [if_pos (.inr ⟨h1, h2⟩)]; exact again
     ·rw [if_neg (by omega)]
    ·rw [if_neg (by omega)]
theorem v_u64 (n : Int) : IntKind.u64.wrap n = n % 18446744073709551616 := by simp [IntKind.wrap, IntKind.bits, IntKind.signed]
theorem vInt_eq (n : Int) : vInt n = trimF (vBe (n % 18446744073709551616)) := by unfold vInt vIntC vBe; rw [shut_eq, shut_eq]
theorem nVInt (n : Int) (hp : stI64 n = true) : gVInt n = some (.ret [.cl (.agg [.int .i64 2, .sli .u8 (vInt n), .slg 3 noKids])] []) := by
 unfold gVInt
 rw [v_u64]
 refine b_pos (vu64_of (by omega)) ?_
 simp only [shut_eq]
 rw [vInt_eq]
 unfold noKids
 rw [shut_eq]
 exact vint_lp FUEL _ (by rw [vBe_len]; unfold FUEL; omega)
end Go.Proofs.YtfkpjbbkdkcdcaaDoorA

namespace Go.Proofs.YtfkpjbbkdkcdcaaDoorA
open IntWalk (i64_in u8_in u32_in u64_in i64_quo u8_quo rem_in)

/-! ### numbers by twos' complement -/
theorem v_i64 (n : Int) : IntKind.i64.wrap n = if 9223372036854775808 <= n % 18446744073709551616 then n % 18446744073709551616 - 18446744073709551616 else n % 18446744073709551616 := by
 simp [IntKind.wrap, IntKind.bits, IntKind.signed]
end Go.Proofs.YtfkpjbbkdkcdcaaDoorA

namespace Go.Proofs.YtfkpjbbkdkcdcaaDoorA
open IntWalk (i64_in u8_in u32_in u64_in i64_quo u8_quo rem_in)

theorem leaf_tf {g : Int} {b : List Int} (hb : ∀ x ∈ b, 0 <= x /\ x <= 255) : isTf 1 [.int .i64 g, .sli .u8 b, .slg 3 []] = true := by
 show (b.all byteB && true) = true
 rw [Bool.and_true, List.all_eq_true]
 exact fun x hx => decide_eq_true (hb x hx)
theorem leaf_isS {g : Int} {b : List Int} (hb : ∀ x ∈ b, 0 <= x /\ x <= 255) (hl : b.length <= 29999) : isS [.int .i64 g, .sli .u8 b, .slg 3 []] = true :=
 isS_of (leaf_tf hb) (by unfold bulkF; simp; omega)
theorem leaf_fit {g : Int} {b : List Int} (hb : ∀ x ∈ b, 0 <= x /\ x <= 255) (hg : derBoxedC g = false) : ndFit [.int .i64 g, .sli .u8 b, .slg 3 []] = (derKnownC g && derFitsC g b) := by
 rw [ndFit_eq (leaf_tf hb)]
 unfold okF bytesF
 simp [hg]
end Go.Proofs.YtfkpjbbkdkcdcaaDoorA

namespace Go.Proofs.YtfkpjbbkdkcdcaaDoorA
open IntWalk (i64_in u8_in u32_in u64_in i64_quo u8_quo rem_in)

end Go.Proofs.YtfkpjbbkdkcdcaaDoorA

namespace Go.Proofs.YtfkpjbbkdkcdcaaDoorA
open IntWalk (i64_in u8_in u32_in u64_in i64_quo u8_quo rem_in)

end Go.Proofs.YtfkpjbbkdkcdcaaDoorA

namespace Go.Proofs.YtfkpjbbkdkcdcaaDoorA
open IntWalk (i64_in u8_in u32_in u64_in i64_quo u8_quo rem_in)

theorem noKids_eq : noKids = [] := shut_eq _
theorem same_refl (l : List Int) : listSame l l = true := by unfold listSame listSameC; rw [shut_eq]; exact decide_eq_true rfl
end Go.Proofs.YtfkpjbbkdkcdcaaDoorA

namespace Go.Proofs.YtfkpjbbkdkcdcaaDoorA
open IntWalk (i64_in u8_in u32_in u64_in i64_quo u8_quo rem_in)

theorem madeOk_spec {g : Int} {b : List Int} (h : madeOk g b = true) : (g = 12 \/ g = 6 \/ g = 24) /\ b.length <= 2000 /\ ∀ x ∈ b, 0 <= x /\ x <= 255 := by
 unfold madeOk at h
 rw [shut_eq, Bool.and_eq_true, decide_eq_true_eq, List.all_eq_true] at h
 exact ⟨h.1.1, h.1.2, fun x hx => byteB_spec (h.2 x hx)⟩
theorem madeOk_of {g : Int} {b : List Int} (h : g = 12 \/ g = 6 \/ g = 24) (h' : b.length <= 2000) (hb : ∀ x ∈ b, 0 <= x /\ x <= 255) : madeOk g b = true := by
 unfold madeOk
 rw [shut_eq, Bool.and_eq_true, decide_eq_true_eq, List.all_eq_true]
 exact ⟨⟨h, h'⟩, fun x hx => decide_eq_true (hb x hx)⟩
theorem vMade_ok {g : Int} {b : List Int} (h : derFitsC g b = true) : vMade g b = (g, b, 0) := by unfold vMade vMadeC; rw [shut_eq, if_pos h]
theorem vMade_no {g : Int} {b : List Int} (h : derFitsC g b = false) : vMade g b = (0, [], 5) := by unfold vMade vMadeC; rw [shut_eq, if_neg (by rw [h]; simp)]
theorem nVMade (g : Int) (b : List Int) (hp : madeOk g b = true) : gVMade g b = some (.ret [.cl (.agg [.int .i64 (vMade g b).1, .sli .u8 (vMade g b).2.1, .slg 3 noKids]), .cl (.int .i64 (vMade g b).2.2)] []) := by
 obtain ⟨hg, hl, hb⟩ := madeOk_spec hp
 have hk : derKnownC g = true /\ derBoxedC g = false := by rcases hg with rfl | rfl | rfl <;> exact ⟨rfl, rfl⟩
 unfold gVMade
 refine b_pos (leaf_isS hb (by omega)) ?_
 rw [leaf_fit hb hk.2, hk.1, Bool.true_and, noKids_eq]
 cases hd : derFitsC g b with
 | false => rw [vMade_no hd]; rfl
 | true => rw [vMade_ok hd]; rfl
theorem idOk_spec {o : List Int} (h : idOk o = true) : o.length <= 50 /\ ∀ n ∈ o, inU n := by
 unfold idOk at h
 rw [shut_eq, Bool.and_eq_true, decide_eq_true_eq, List.all_eq_true] at h
 exact ⟨h.1, fun x hx => of_decide_eq_true (h.2 x hx)⟩
theorem idOk_of {o : List Int} (h : o.length <= 50) (h' : ∀ n ∈ o, inU n) : idOk o = true := by
 unfold idOk
 rw [shut_eq, Bool.and_eq_true, decide_eq_true_eq, List.all_eq_true]
 exact ⟨h, fun x hx => decide_eq_true (h' x hx)⟩
theorem id_u32 {o : List Int} (h : idOk o = true) : u32sOk o = true := by
 obtain ⟨h1, h2⟩ := idOk_spec h
 unfold u32sOk
 rw [shut_eq, Bool.and_eq_true, decide_eq_true_eq, List.all_eq_true]
 exact ⟨by omega, fun x hx => decide_eq_true (h2 x hx)⟩
theorem fit_lenV {o : List Int} (h : oidFitC o = true) : 2 <= o.length /\ o.length <= 20 := by
 unfold oidFitC at h
 split at h
 ·simp at h
  simp
  omega
 ·cases h
theorem oid_bytes {o : List Int} (hr : ∀ n ∈ o, inU n) : (oidBytes o).length <= 2000 /\ ∀ x ∈ oidBytes o, 0 <= x /\ x <= 255 := by
 rw [show oidBytes o = oidBytesC o from shut_eq _]
 by_cases h : oidFitC o = true
 ·rw [bytes_oflat h]
  have hl := oflat_len h
  have hf := fit_lenV h
  have hg : ∀ (l : List Int), (l.flatMap oidGroupsC).length <= 6 * l.length := fun l => by
   induction l with
   | nil => simp
   | cons a l ih => have := gr_len a; simp at *; omega
  have := hg (oflat o)
  refine ⟨by omega, fun x hx => ?_⟩
  obtain ⟨n, hn, hx⟩ := List.mem_flatMap.1 hx
  exact gr_byte (oflat_rng h hr n hn) x hx
 ·unfold oidBytesC
  rw [if_neg h]
  exact ⟨by simp, by simp⟩
theorem id_made {o : List Int} (h : idOk o = true) : madeOk 6 (oidBytes o) = true :=
 let ⟨h1, h2⟩ := oid_bytes (idOk_spec h).2
 madeOk_of (.inr (.inl rfl)) h1 h2
theorem nVId (o : List Int) (hp : idOk o = true) : gVId o = some (.ret [.cl (.agg [.int .i64 (vMade 6 (oidBytes o)).1, .sli .u8 (vMade 6 (oidBytes o)).2.1, .slg 3 noKids]), .cl (.int .i64 (vMade 6 (oidBytes o)).2.2)] []) := b_pos (id_u32 hp) (b_pos (id_made hp) rfl)
theorem nVBytes (b : List Int) (hp : lenOk b = true) : gVBytes b = some (.ret [.cl (.agg [.int .i64 4, .sli .u8 b, .slg 3 noKids])] []) := by rw [noKids_eq]; exact b_pos hp rfl
end Go.Proofs.YtfkpjbbkdkcdcaaDoorA

namespace Go.Proofs.YtfkpjbbkdkcdcaaDoorA
open IntWalk (i64_in u8_in u32_in u64_in i64_quo u8_quo rem_in)

theorem lenOkC_spec {l : List CV} (h : lenOkC l = true) : l.length <= 100000000 := by unfold lenOkC at h; rw [shut_eq] at h; exact of_decide_eq_true h
theorem lenOkC_of {l : List CV} (h : l.length <= 100000000) : lenOkC l = true := by unfold lenOkC; rw [shut_eq]; exact decide_eq_true h
theorem noInts_eq : noInts = [] := shut_eq _
theorem nVClone (l : List CV) (hp : lenOkC l = true) : gVClone l = some (.ret [.cl (.slg 3 l)] []) := by
 have hp := lenOkC_spec hp
 unfold gVClone
 simp only [List.nil_append]
 refine b_split (fun h => ?_) fun h => ?_
 ·have h := List.eq_nil_of_length_eq_zero (beq_iff.1 h)
  subst h
  unfold bothK
  rw [if_pos (Eq.symm (rmK_in (by simp) (by simp) rfl))]
 ·exact rmK_in (by omega) (by omega) rfl
theorem nVSeq (l : List CV) (hp : lenOkC l = true) : gVSeq l = some (.ret [.cl (.agg [.int .i64 48, .sli .u8 noInts, .slg 3 l])] []) := by rw [noInts_eq]; exact b_pos hp rfl
end Go.Proofs.YtfkpjbbkdkcdcaaDoorA

namespace Go.Proofs.YtfkpjbbkdkcdcaaDoorA
open IntWalk (i64_in u8_in u32_in u64_in i64_quo u8_quo rem_in)

theorem cmp_eq : ∀ (a b : List Int), listCmpC a b <= 0 -> listCmpC b a <= 0 -> a = b
 | [], [], _, _ => rfl
 | [], y :: b, _, h => by simp [listCmpC] at h
 | x :: a, [], h, _ => by simp [listCmpC] at h
 | x :: a, y :: b, h1, h2 => by
  unfold listCmpC at h1 h2
  have hxy : ¬ y < x := fun e => by rw [if_neg (by omega), if_pos e] at h1; omega
  have hyx : ¬ x < y := fun e => by rw [if_neg (by omega), if_pos e] at h2; omega
  obtain rfl : x = y := by omega
  simp only [Int.lt_irrefl, if_false] at h1 h2
  rw [cmp_eq a b h1 h2]
/-! ### the document's set -/
end Go.Proofs.YtfkpjbbkdkcdcaaDoorA

namespace Go.Proofs.YtfkpjbbkdkcdcaaDoorA
open IntWalk (i64_in u8_in u32_in u64_in i64_quo u8_quo rem_in)

end Go.Proofs.YtfkpjbbkdkcdcaaDoorA

namespace Go.Proofs.YtfkpjbbkdkcdcaaDoorA
open IntWalk (i64_in u8_in u32_in u64_in i64_quo u8_quo rem_in)

end Go.Proofs.YtfkpjbbkdkcdcaaDoorA

namespace Go.Proofs.YtfkpjbbkdkcdcaaDoorA
open IntWalk (i64_in u8_in u32_in u64_in i64_quo u8_quo rem_in)

end Go.Proofs.YtfkpjbbkdkcdcaaDoorA

namespace Go.Proofs.YtfkpjbbkdkcdcaaDoorA
open IntWalk (i64_in u8_in u32_in u64_in i64_quo u8_quo rem_in)

end Go.Proofs.YtfkpjbbkdkcdcaaDoorA

namespace Go.Proofs.YtfkpjbbkdkcdcaaDoorA
open IntWalk (i64_in u8_in u32_in u64_in i64_quo u8_quo rem_in)

theorem in_range {P : Int -> Prop} {lo : Int} {m : Nat} (h : ∀ n : Nat, n < m -> P ((n : Int) + lo)) {g : Int} (h1 : lo <= g) (h2 : g < lo + m) : P g := by
 have := h (g - lo).toNat (by omega)
 rwa [show (((g - lo).toNat : Nat) : Int) + lo = g by omega] at this
theorem ents_all : ∀ e ∈ algEntsC, (1 <= e.1 /\ e.1 <= 93) /\ (e.2.2.length <= 10 /\ ∀ x ∈ e.2.2, 0 <= x /\ x <= 4294967295) := by decide +kernel
theorem found_out {g : Int} (h : ¬(1 <= g /\ g <= 93)) : algFoundC g = (0, 0, []) := by
 unfold algFoundC
 rw [List.find?_eq_none.2 fun e he => ?_]
 ·rfl
 ·have := (ents_all e he).1
  simp
  omega
theorem found_mem (g : Int) : algFoundC g = (0, 0, []) \/ (algFoundC g ∈ algEntsC /\ (algFoundC g).1 = g) := by
 unfold algFoundC
 cases h : algEntsC.find? fun e => decide (e.1 = g) with
 | none => exact .inl rfl
 | some e => exact .inr ⟨List.mem_of_find?_eq_some h, by have := List.find?_some h; simpa using this⟩
theorem found_id (g : Int) : (algFoundC g).2.2.length <= 10 /\ ∀ x ∈ (algFoundC g).2.2, inU x := by
 rcases found_mem g with h | h
 ·rw [h]; exact ⟨by simp, by simp⟩
 ·exact (ents_all _ h.1).2
theorem found_eq (g : Int) : algFound g = algFoundC g := shut_eq _
abbrev rowE (e : Int × Int × List Int) : List CV := [.agg [.int .i64 e.1, .int .i64 e.2.1, .sli .u32 e.2.2]]
theorem rows_eq : algRows = algEntsC.map rowE := shut_eq _
theorem rows_ok : List.all algRows okAlAll = true := by
 rw [rows_eq]
 kernel_rfl
theorem nARoot_0 (hp : true = true) : gARoot_0 = some (.ret [.ref 0 0 8 true 1] [some ⟨.ints .u32 [2, 16, 840, 1, 101, 3, 4, 2], false⟩]) := rfl
theorem nARoot_1 (hp : true = true) : gARoot_1 = some (.ret [.ref 0 0 8 true 1] [some ⟨.ints .u32 [2, 16, 840, 1, 101, 3, 4, 3], false⟩]) := rfl
theorem nARoot_2 (hp : true = true) : gARoot_2 = some (.ret [.ref 0 0 8 true 1] [some ⟨.ints .u32 [2, 16, 840, 1, 101, 3, 4, 4], false⟩]) := rfl
theorem nARoot_3 (hp : true = true) : gARoot_3 = some (.ret [.ref 0 0 8 true 1] [some ⟨.ints .u32 [2, 16, 840, 1, 101, 3, 4, 1], false⟩]) := rfl
theorem nARoot_4 (hp : true = true) : gARoot_4 = some (.ret [.ref 0 0 8 true 1] [some ⟨.ints .u32 [1, 2, 840, 113549, 1, 9, 16, 3], false⟩]) := rfl
theorem nARoot_5 (hp : true = true) : gARoot_5 = some (.ret [.ref 0 0 2 true 1] [some ⟨.ints .u32 [2, 999], false⟩]) := rfl
theorem yld_step {l : Nat} {x : List CV} {f t : Option Out} {rf : Out} {r : List (List CV)} (hf : f = some rf) (hr : ∃ out, t = some out /\ Hands out (some r)) (h0 : Hands rf none) : ∃ out, cond (Nat.beq l l) (yldO x f t) none = some out /\ Hands out (some (x :: r)) := by
 obtain ⟨rt, h1, h2⟩ := hr
 rw [Nat.beq_refl, hf, h1]
 exact ⟨_, rfl, rfl, h0, h2⟩
theorem nAlAll (l : Nat) (hp : true = true) : ∃ out, gAlAll l = some out /\ Hands out (some algRows) := by
 rw [rows_eq]
 unfold gAlAll
 show ∃ out, _ = some out /\ Hands out (some [_, _, _, _, _, _, _, _, _, _, _, _, _, _, _, _, _, _, _, _, _, _, _, _, _, _, _, _, _, _, _, _, _, _, _, _, _, _, _, _])
 exact yld_step rfl (yld_step rfl (yld_step rfl (yld_step rfl (yld_step rfl (yld_step rfl (yld_step rfl (yld_step rfl (yld_step rfl (yld_step rfl (yld_step rfl (yld_step rfl (yld_step rfl (yld_step rfl (yld_step rfl (yld_step rfl (yld_step rfl (yld_step rfl (yld_step rfl (yld_step rfl (yld_step rfl (yld_step rfl (yld_step rfl (yld_step rfl (yld_step rfl (yld_step rfl (yld_step rfl (yld_step rfl (yld_step rfl (yld_step rfl (yld_step rfl (yld_step rfl (yld_step rfl (yld_step rfl (yld_step rfl (yld_step rfl (yld_step rfl (yld_step rfl (yld_step rfl (yld_step rfl (⟨_, rfl, .inl rfl⟩) (.inr rfl)) (.inr rfl)) (.inr rfl)) (.inr rfl)) (.inr rfl)) (.inr rfl)) (.inr rfl)) (.inr rfl)) (.inr rfl)) (.inr rfl)) (.inr rfl)) (.inr rfl)) (.inr rfl)) (.inr rfl)) (.inr rfl)) (.inr rfl)) (.inr rfl)) (.inr rfl)) (.inr rfl)) (.inr rfl)) (.inr rfl)) (.inr rfl)) (.inr rfl)) (.inr rfl)) (.inr rfl)) (.inr rfl)) (.inr rfl)) (.inr rfl)) (.inr rfl)) (.inr rfl)) (.inr rfl)) (.inr rfl)) (.inr rfl)) (.inr rfl)) (.inr rfl)) (.inr rfl)) (.inr rfl)) (.inr rfl)) (.inr rfl)) (.inr rfl)
theorem found_rl (k0 : Int -> Int -> Int -> List Int -> Option Out) (k1 : Int -> Option Out) (g : Int) : ∀ L : List (Int × Int × List Int), rlAFound_2 k0 k1 (L.map rowE) g = (match L.find? fun e => decide (e.1 = g) with | some e => k0 g e.1 e.2.1 e.2.2 | none => k1 g)
 | [] => rfl
 | e :: r => by
  show cond (decide (e.1 = g)) (k0 g e.1 e.2.1 e.2.2) (rlAFound_2 k0 k1 (r.map rowE) g) = _
  rw [List.find?_cons]
  cases decide (e.1 = g) with
  | true => rfl
  | false => exact found_rl k0 k1 g r
theorem nAFound (g : Int) (hp : true = true) : gAFound g = some (.ret [.cl (.agg [.int .i64 (algFound g).1, .int .i64 (algFound g).2.1, .sli .u32 (algFound g).2.2])] []) := by
 unfold gAFound
 refine b_pos rows_ok ?_
 rw [shut_eq, rows_eq, found_rl, found_eq]
 unfold algFoundC
 cases algEntsC.find? fun e => decide (e.1 = g) <;> rfl
theorem of_rl (k0 : List Int -> Int -> Option Out) (k1 : List Int -> Option Out) (o : List Int) : ∀ L : List (Int × Int × List Int), (∀ e ∈ L, e.2.2.length <= 10) -> rlAOf_2 k0 k1 (L.map rowE) o = (match L.find? fun e => decide (e.2.2 = o) with | some e => k0 o e.1 | none => k1 o)
 | [], _ => rfl
 | e :: r, h => by
  show cond (lenOk e.2.2) (cond (listSame e.2.2 o) (k0 o e.1) (rlAOf_2 k0 k1 (r.map rowE) o)) none = _
  refine b_pos (lenOk_of (by have := h e (by simp); omega)) ?_
  have hs : listSame e.2.2 o = decide (e.2.2 = o) := by unfold listSame listSameC; rw [shut_eq]
  rw [List.find?_cons, hs]
  cases decide (e.2.2 = o) with
  | true => rfl
  | false => exact of_rl k0 k1 o r fun e he => h e (by simp [he])
theorem nAOf (o : List Int) (hp : true = true) : gAOf o = some (.ret [.cl (.int .i64 (algOf o))] []) := by
 unfold gAOf
 refine b_pos rows_ok ?_
 rw [shut_eq, rows_eq, of_rl _ _ _ _ fun e he => (ents_all e he).2.1]
 unfold algOf algOfC
 rw [shut_eq]
 cases algEntsC.find? fun e => decide (e.2.2 = o) <;> rfl
theorem placeOk_spec {h : Int} (hp : placeOk h = true) : 0 <= h /\ h <= 1000 := by unfold placeOk at hp; rw [shut_eq] at hp; exact of_decide_eq_true hp
theorem placeOk_of {h : Int} (hp : 0 <= h /\ h <= 1000) : placeOk h = true := by unfold placeOk; rw [shut_eq]; exact decide_eq_true hp
theorem nAPlace (g h : Int) (hp : placeOk h = true) : gAPlace g h = some (.ret [.cl (.int .i64 (algPlace g h)), .cl (.bool (algIn g h))] []) := by
 have hh := placeOk_spec hp
 unfold gAPlace algPlace algIn
 simp only [shut_eq]
 refine c_split (fun e => ?_) fun e => ?_
 ·rw [show IntKind.i64.wrap (h + 3) = h + 3 from i64_in _ (by omega), show decide (h <= g /\ g < h + 3) = decide (g < h + 3) by simp [e]]
 ·rw [show decide (h <= g /\ g < h + 3) = false from decide_eq_false fun x => e x.1]
theorem nAAll (hp : true = true) : gAAll = some (.ret [.cl (.fn (.func 131) [] [])] []) := rfl
theorem nAGroup (g : Int) (hp : true = true) : gAGroup g = some (.ret [.cl (.int .i64 (algFound g).2.1)] []) := rfl
theorem nAId (g : Int) (hp : true = true) : gAId g = some (.ret [.cl (.sli .u32 (algFound g).2.2)] []) := rfl
theorem ARGroup_in : ∀ n : Nat, n < 93 -> gARGroup ((n : Int) + 1) = some (.ret [.cl (.int .i64 ((algFound ((n : Int) + 1)).2.1))] []) := by
 intro n hn
 unfold gARGroup jnARGroup_3 jnARGroup_5 jnARGroup_7 algFound
 simp only [shut_eq]
 exact match n, hn with
 | 0, _ => by kernel_rfl
 | 1, _ => by kernel_rfl
 | 2, _ => by kernel_rfl
 | 3, _ => by kernel_rfl
 | 4, _ => by kernel_rfl
 | 5, _ => by kernel_rfl
 | 6, _ => by kernel_rfl
 | 7, _ => by kernel_rfl
 | 8, _ => by kernel_rfl
 | 9, _ => by kernel_rfl
 | 10, _ => by kernel_rfl
 | 11, _ => by kernel_rfl
 | 12, _ => by kernel_rfl
 | 13, _ => by kernel_rfl
 | 14, _ => by kernel_rfl
 | 15, _ => by kernel_rfl
 | 16, _ => by kernel_rfl
 | 17, _ => by kernel_rfl
 | 18, _ => by kernel_rfl
 | 19, _ => by kernel_rfl
 | 20, _ => by kernel_rfl
 | 21, _ => by kernel_rfl
 | 22, _ => by kernel_rfl
 | 23, _ => by kernel_rfl
 | 24, _ => by kernel_rfl
 | 25, _ => by kernel_rfl
 | 26, _ => by kernel_rfl
 | 27, _ => by kernel_rfl
 | 28, _ => by kernel_rfl
 | 29, _ => by kernel_rfl
 | 30, _ => by kernel_rfl
 | 31, _ => by kernel_rfl
 | 32, _ => by kernel_rfl
 | 33, _ => by kernel_rfl
 | 34, _ => by kernel_rfl
 | 35, _ => by kernel_rfl
 | 36, _ => by kernel_rfl
 | 37, _ => by kernel_rfl
 | 38, _ => by kernel_rfl
 | 39, _ => by kernel_rfl
 | 40, _ => by kernel_rfl
 | 41, _ => by kernel_rfl
 | 42, _ => by kernel_rfl
 | 43, _ => by kernel_rfl
 | 44, _ => by kernel_rfl
 | 45, _ => by kernel_rfl
 | 46, _ => by kernel_rfl
 | 47, _ => by kernel_rfl
 | 48, _ => by kernel_rfl
 | 49, _ => by kernel_rfl
 | 50, _ => by kernel_rfl
 | 51, _ => by kernel_rfl
 | 52, _ => by kernel_rfl
 | 53, _ => by kernel_rfl
 | 54, _ => by kernel_rfl
 | 55, _ => by kernel_rfl
 | 56, _ => by kernel_rfl
 | 57, _ => by kernel_rfl
 | 58, _ => by kernel_rfl
 | 59, _ => by kernel_rfl
 | 60, _ => by kernel_rfl
 | 61, _ => by kernel_rfl
 | 62, _ => by kernel_rfl
 | 63, _ => by kernel_rfl
 | 64, _ => by kernel_rfl
 | 65, _ => by kernel_rfl
 | 66, _ => by kernel_rfl
 | 67, _ => by kernel_rfl
 | 68, _ => by kernel_rfl
 | 69, _ => by kernel_rfl
 | 70, _ => by kernel_rfl
 | 71, _ => by kernel_rfl
 | 72, _ => by kernel_rfl
 | 73, _ => by kernel_rfl
 | 74, _ => by kernel_rfl
 | 75, _ => by kernel_rfl
 | 76, _ => by kernel_rfl
 | 77, _ => by kernel_rfl
 | 78, _ => by kernel_rfl
 | 79, _ => by kernel_rfl
 | 80, _ => by kernel_rfl
 | 81, _ => by kernel_rfl
 | 82, _ => by kernel_rfl
 | 83, _ => by kernel_rfl
 | 84, _ => by kernel_rfl
 | 85, _ => by kernel_rfl
 | 86, _ => by kernel_rfl
 | 87, _ => by kernel_rfl
 | 88, _ => by kernel_rfl
 | 89, _ => by kernel_rfl
 | 90, _ => by kernel_rfl
 | 91, _ => by kernel_rfl
 | 92, _ => by kernel_rfl
 | n + 93, h => absurd h (by omega)
theorem nARGroup (g : Int) (hp : true = true) : gARGroup g = some (.ret [.cl (.int .i64 ((algFound g).2.1))] []) := by
 by_cases hg : 1 <= g /\ g < 1 + 93
 ·exact in_range (P := fun g => gARGroup g = some (.ret [.cl (.int .i64 ((algFound g).2.1))] [])) ARGroup_in hg.1 hg.2
 ·have ho := found_out (g := g) (by omega)
  unfold gARGroup jnARGroup_3 jnARGroup_5 jnARGroup_7
  rw [found_eq, ho]
  simp only [shut_eq]
  rcases (show g < 1 \/ 93 < g by omega) with h | h <;> (repeat' (first | rfl | (refine c_neg (by omega) ?_) | (refine c_pos (by omega) ?_)))
theorem ARId_in : ∀ n : Nat, n < 93 -> gARId ((n : Int) + 1) = some (.ret [.cl (.sli .u32 (algFound ((n : Int) + 1)).2.2)] []) := by
 intro n hn
 unfold gARId algFound algNist algPkcs lenOk
 simp only [shut_eq]
 exact match n, hn with
 | 0, _ => by kernel_rfl
 | 1, _ => by kernel_rfl
 | 2, _ => by kernel_rfl
 | 3, _ => by kernel_rfl
 | 4, _ => by kernel_rfl
 | 5, _ => by kernel_rfl
 | 6, _ => by kernel_rfl
 | 7, _ => by kernel_rfl
 | 8, _ => by kernel_rfl
 | 9, _ => by kernel_rfl
 | 10, _ => by kernel_rfl
 | 11, _ => by kernel_rfl
 | 12, _ => by kernel_rfl
 | 13, _ => by kernel_rfl
 | 14, _ => by kernel_rfl
 | 15, _ => by kernel_rfl
 | 16, _ => by kernel_rfl
 | 17, _ => by kernel_rfl
 | 18, _ => by kernel_rfl
 | 19, _ => by kernel_rfl
 | 20, _ => by kernel_rfl
 | 21, _ => by kernel_rfl
 | 22, _ => by kernel_rfl
 | 23, _ => by kernel_rfl
 | 24, _ => by kernel_rfl
 | 25, _ => by kernel_rfl
 | 26, _ => by kernel_rfl
 | 27, _ => by kernel_rfl
 | 28, _ => by kernel_rfl
 | 29, _ => by kernel_rfl
 | 30, _ => by kernel_rfl
 | 31, _ => by kernel_rfl
 | 32, _ => by kernel_rfl
 | 33, _ => by kernel_rfl
 | 34, _ => by kernel_rfl
 | 35, _ => by kernel_rfl
 | 36, _ => by kernel_rfl
 | 37, _ => by kernel_rfl
 | 38, _ => by kernel_rfl
 | 39, _ => by kernel_rfl
 | 40, _ => by kernel_rfl
 | 41, _ => by kernel_rfl
 | 42, _ => by kernel_rfl
 | 43, _ => by kernel_rfl
 | 44, _ => by kernel_rfl
 | 45, _ => by kernel_rfl
 | 46, _ => by kernel_rfl
 | 47, _ => by kernel_rfl
 | 48, _ => by kernel_rfl
 | 49, _ => by kernel_rfl
 | 50, _ => by kernel_rfl
 | 51, _ => by kernel_rfl
 | 52, _ => by kernel_rfl
 | 53, _ => by kernel_rfl
 | 54, _ => by kernel_rfl
 | 55, _ => by kernel_rfl
 | 56, _ => by kernel_rfl
 | 57, _ => by kernel_rfl
 | 58, _ => by kernel_rfl
 | 59, _ => by kernel_rfl
 | 60, _ => by kernel_rfl
 | 61, _ => by kernel_rfl
 | 62, _ => by kernel_rfl
 | 63, _ => by kernel_rfl
 | 64, _ => by kernel_rfl
 | 65, _ => by kernel_rfl
 | 66, _ => by kernel_rfl
 | 67, _ => by kernel_rfl
 | 68, _ => by kernel_rfl
 | 69, _ => by kernel_rfl
 | 70, _ => by kernel_rfl
 | 71, _ => by kernel_rfl
 | 72, _ => by kernel_rfl
 | 73, _ => by kernel_rfl
 | 74, _ => by kernel_rfl
 | 75, _ => by kernel_rfl
 | 76, _ => by kernel_rfl
 | 77, _ => by kernel_rfl
 | 78, _ => by kernel_rfl
 | 79, _ => by kernel_rfl
 | 80, _ => by kernel_rfl
 | 81, _ => by kernel_rfl
 | 82, _ => by kernel_rfl
 | 83, _ => by kernel_rfl
 | 84, _ => by kernel_rfl
 | 85, _ => by kernel_rfl
 | 86, _ => by kernel_rfl
 | 87, _ => by kernel_rfl
 | 88, _ => by kernel_rfl
 | 89, _ => by kernel_rfl
 | 90, _ => by kernel_rfl
 | 91, _ => by kernel_rfl
 | 92, _ => by kernel_rfl
 | n + 93, h => absurd h (by omega)
theorem nARId (g : Int) (hp : true = true) : gARId g = some (.ret [.cl (.sli .u32 (algFound g).2.2)] []) := by
 by_cases hg : 1 <= g /\ g < 1 + 93
 ·exact in_range (P := fun g => gARId g = some (.ret [.cl (.sli .u32 (algFound g).2.2)] [])) ARId_in hg.1 hg.2
 ·have ho := found_out (g := g) (by omega)
  unfold gARId
  rw [found_eq, ho]
  repeat' (first | rfl | (refine c_neg (by omega) ?_) | (refine c_pos (by omega) ?_))
theorem ARSize_in : ∀ n : Nat, n < 93 -> gARSize ((n : Int) + 1) = some (.ret [.cl (.int .i64 (algSize ((n : Int) + 1)))] []) := by
 intro n hn
 unfold gARSize algFound algSize
 simp only [shut_eq]
 exact match n, hn with
 | 0, _ => by kernel_rfl
 | 1, _ => by kernel_rfl
 | 2, _ => by kernel_rfl
 | 3, _ => by kernel_rfl
 | 4, _ => by kernel_rfl
 | 5, _ => by kernel_rfl
 | 6, _ => by kernel_rfl
 | 7, _ => by kernel_rfl
 | 8, _ => by kernel_rfl
 | 9, _ => by kernel_rfl
 | 10, _ => by kernel_rfl
 | 11, _ => by kernel_rfl
 | 12, _ => by kernel_rfl
 | 13, _ => by kernel_rfl
 | 14, _ => by kernel_rfl
 | 15, _ => by kernel_rfl
 | 16, _ => by kernel_rfl
 | 17, _ => by kernel_rfl
 | 18, _ => by kernel_rfl
 | 19, _ => by kernel_rfl
 | 20, _ => by kernel_rfl
 | 21, _ => by kernel_rfl
 | 22, _ => by kernel_rfl
 | 23, _ => by kernel_rfl
 | 24, _ => by kernel_rfl
 | 25, _ => by kernel_rfl
 | 26, _ => by kernel_rfl
 | 27, _ => by kernel_rfl
 | 28, _ => by kernel_rfl
 | 29, _ => by kernel_rfl
 | 30, _ => by kernel_rfl
 | 31, _ => by kernel_rfl
 | 32, _ => by kernel_rfl
 | 33, _ => by kernel_rfl
 | 34, _ => by kernel_rfl
 | 35, _ => by kernel_rfl
 | 36, _ => by kernel_rfl
 | 37, _ => by kernel_rfl
 | 38, _ => by kernel_rfl
 | 39, _ => by kernel_rfl
 | 40, _ => by kernel_rfl
 | 41, _ => by kernel_rfl
 | 42, _ => by kernel_rfl
 | 43, _ => by kernel_rfl
 | 44, _ => by kernel_rfl
 | 45, _ => by kernel_rfl
 | 46, _ => by kernel_rfl
 | 47, _ => by kernel_rfl
 | 48, _ => by kernel_rfl
 | 49, _ => by kernel_rfl
 | 50, _ => by kernel_rfl
 | 51, _ => by kernel_rfl
 | 52, _ => by kernel_rfl
 | 53, _ => by kernel_rfl
 | 54, _ => by kernel_rfl
 | 55, _ => by kernel_rfl
 | 56, _ => by kernel_rfl
 | 57, _ => by kernel_rfl
 | 58, _ => by kernel_rfl
 | 59, _ => by kernel_rfl
 | 60, _ => by kernel_rfl
 | 61, _ => by kernel_rfl
 | 62, _ => by kernel_rfl
 | 63, _ => by kernel_rfl
 | 64, _ => by kernel_rfl
 | 65, _ => by kernel_rfl
 | 66, _ => by kernel_rfl
 | 67, _ => by kernel_rfl
 | 68, _ => by kernel_rfl
 | 69, _ => by kernel_rfl
 | 70, _ => by kernel_rfl
 | 71, _ => by kernel_rfl
 | 72, _ => by kernel_rfl
 | 73, _ => by kernel_rfl
 | 74, _ => by kernel_rfl
 | 75, _ => by kernel_rfl
 | 76, _ => by kernel_rfl
 | 77, _ => by kernel_rfl
 | 78, _ => by kernel_rfl
 | 79, _ => by kernel_rfl
 | 80, _ => by kernel_rfl
 | 81, _ => by kernel_rfl
 | 82, _ => by kernel_rfl
 | 83, _ => by kernel_rfl
 | 84, _ => by kernel_rfl
 | 85, _ => by kernel_rfl
 | 86, _ => by kernel_rfl
 | 87, _ => by kernel_rfl
 | 88, _ => by kernel_rfl
 | 89, _ => by kernel_rfl
 | 90, _ => by kernel_rfl
 | 91, _ => by kernel_rfl
 | 92, _ => by kernel_rfl
 | n + 93, h => absurd h (by omega)
theorem nARSize (g : Int) (hp : stI64 g = true) : gARSize g = some (.ret [.cl (.int .i64 (algSize g))] []) := by
 by_cases hg : 1 <= g /\ g < 1 + 93
 ·exact in_range (P := fun g => gARSize g = some (.ret [.cl (.int .i64 (algSize g))] [])) ARSize_in hg.1 hg.2
 ·have ho := found_out (g := g) (by omega)
  unfold gARSize algSize algSizeC
  rw [found_eq, ho, shut_eq, if_neg (by omega), if_neg (by omega), if_neg (by omega), if_neg (by omega)]
  repeat' (first | rfl | (refine c_neg (by omega) ?_) | (refine c_pos (by omega) ?_))
theorem AName_in : ∀ n : Nat, n < 10 -> gAName ((n : Int) + 1) = some (.ret [.cl (.sli .u32 (algName ((n : Int) + 1)))] []) := by
 intro n hn
 unfold gAName algName
 simp only [shut_eq]
 exact match n, hn with
 | 0, _ => by kernel_rfl
 | 1, _ => by kernel_rfl
 | 2, _ => by kernel_rfl
 | 3, _ => by kernel_rfl
 | 4, _ => by kernel_rfl
 | 5, _ => by kernel_rfl
 | 6, _ => by kernel_rfl
 | 7, _ => by kernel_rfl
 | 8, _ => by kernel_rfl
 | 9, _ => by kernel_rfl
 | n + 10, h => absurd h (by omega)
theorem nAName (g : Int) (hp : true = true) : gAName g = some (.ret [.cl (.sli .u32 (algName g))] []) := by
 by_cases hg : 1 <= g /\ g < 1 + 10
 ·exact in_range (P := fun g => gAName g = some (.ret [.cl (.sli .u32 (algName g))] [])) AName_in hg.1 hg.2
 ·unfold gAName algName algNameC
  rw [shut_eq, if_neg (by omega), if_neg (by omega), if_neg (by omega), if_neg (by omega), if_neg (by omega)]
  rcases (show g < 1 \/ 10 < g by omega) with h | h <;> (repeat' (first | rfl | (refine c_neg (by omega) ?_) | (refine c_pos (by omega) ?_)))
theorem ARName_in : ∀ n : Nat, n < 10 -> gARName ((n : Int) + 1) = some (.ret [.cl (.sli .u32 (algName ((n : Int) + 1)))] []) := by
 intro n hn
 unfold gARName algName algPkcs lenOk
 simp only [shut_eq]
 exact match n, hn with
 | 0, _ => by kernel_rfl
 | 1, _ => by kernel_rfl
 | 2, _ => by kernel_rfl
 | 3, _ => by kernel_rfl
 | 4, _ => by kernel_rfl
 | 5, _ => by kernel_rfl
 | 6, _ => by kernel_rfl
 | 7, _ => by kernel_rfl
 | 8, _ => by kernel_rfl
 | 9, _ => by kernel_rfl
 | n + 10, h => absurd h (by omega)
theorem nARName (g : Int) (hp : true = true) : gARName g = some (.ret [.cl (.sli .u32 (algName g))] []) := by
 by_cases hg : 1 <= g /\ g < 1 + 10
 ·exact in_range (P := fun g => gARName g = some (.ret [.cl (.sli .u32 (algName g))] [])) ARName_in hg.1 hg.2
 ·unfold gARName algName algNameC
  rw [shut_eq, if_neg (by omega), if_neg (by omega), if_neg (by omega), if_neg (by omega), if_neg (by omega)]
  rcases (show g < 1 \/ 10 < g by omega) with h | h <;> (repeat' (first | rfl | (refine c_neg (by omega) ?_) | (refine c_pos (by omega) ?_)))
theorem in_no {g h : Int} (e : ¬(h <= g /\ g < h + 3)) : algIn g h = false := by unfold algIn; rw [shut_eq]; exact decide_eq_false e
theorem in_yes {g h : Int} (e : h <= g /\ g < h + 3) : algIn g h = true := by unfold algIn; rw [shut_eq]; exact decide_eq_true e
theorem place_eq {g h : Int} (e : h <= g /\ g < h + 3) : algPlace g h = g - h := by unfold algPlace; rw [shut_eq]; exact i64_in _ (by omega)
theorem size_step (again : Int -> Int -> Option Out) (K0 : Int -> Option Out) (K1 : Option Out) (g v h : Int) (hv : [61, 71, 81, 91][0 + v.toNat]? = some h) (hv4 : 0 <= v /\ v < 4) (hh : 0 <= h /\ h <= 1000) :
  lpASize_2s again K0 K1 g v = if h <= g /\ g < h + 3 then K0 (if v = 0 then 32 + 16 * (g - h) else 16 + 8 * (g - h)) else again g (v + 1) := by
 unfold lpASize_2s
 refine c_pos (by omega) (c_pos (by omega) (c_pos (by omega) ?_))
 rw [hv, Option.bind_some]
 refine b_pos (placeOk_of hh) ?_
 by_cases e : h <= g /\ g < h + 3
 ·rw [if_pos e, in_yes e, place_eq e]
  refine c_split (fun e0 => ?_) fun e0 => ?_
  ·rw [if_pos e0, show IntKind.i64.wrap ((16 : Int) * (g - h)) = 16 * (g - h) from i64_in _ (by omega)]
   exact congrArg K0 (i64_in _ (by omega))
  ·rw [if_neg e0, show IntKind.i64.wrap ((8 : Int) * (g - h)) = 8 * (g - h) from i64_in _ (by omega)]
   exact congrArg K0 (i64_in _ (by omega))
 ·rw [if_neg e, in_no e, show IntKind.i64.wrap (v + 1) = v + 1 from i64_in _ (by omega)]
  rfl
theorem size_un (K0 : Int -> Option Out) (K1 : Option Out) (f : Nat) (g v : Int) : lpASize_2 K0 K1 (f + 1) g v = lpASize_2s (lpASize_2 K0 K1 f) K0 K1 g v := rfl
theorem nASize (g : Int) (hp : stI64 g = true) : gASize g = some (.ret [.cl (.int .i64 (algSize g))] []) := by
 unfold gASize algSize algSizeC
 simp only [shut_eq]
 rw [show FUEL = 1099511627771 + 5 from rfl]
 generalize 1099511627771 = f
 rw [show f + 5 = (f + 4) + 1 from rfl, size_un]
 rw [size_step _ _ _ g 0 61 rfl (by omega) (by omega)]
 by_cases h1 : 61 <= g /\ g <= 63
 ·rw [if_pos h1, if_pos (by omega), if_pos rfl]
 rw [if_neg h1, if_neg (by omega)]
 rw [show f + 4 = (f + 3) + 1 from rfl, size_un, show (0 : Int) + 1 = 1 from rfl]
 rw [size_step _ _ _ g 1 71 rfl (by omega) (by omega)]
 by_cases h2 : 71 <= g /\ g <= 73
 ·rw [if_pos h2, if_pos (by omega), if_neg (by omega)]
 rw [if_neg h2, if_neg (by omega)]
 rw [show f + 3 = (f + 2) + 1 from rfl, size_un, show (1 : Int) + 1 = 2 from rfl]
 rw [size_step _ _ _ g 2 81 rfl (by omega) (by omega)]
 by_cases h3 : 81 <= g /\ g <= 83
 ·rw [if_pos h3, if_pos (by omega), if_neg (by omega)]
 rw [if_neg h3, if_neg (by omega)]
 rw [show f + 2 = (f + 1) + 1 from rfl, size_un, show (2 : Int) + 1 = 3 from rfl]
 rw [size_step _ _ _ g 3 91 rfl (by omega) (by omega)]
 by_cases h4 : 91 <= g /\ g <= 93
 ·rw [if_pos h4, if_pos (by omega), if_neg (by omega)]
 rw [if_neg h4, if_neg (by omega)]
 rw [show f + 1 = f + 1 from rfl, size_un, show (3 : Int) + 1 = 4 from rfl]
 unfold lpASize_2s
 exact c_neg (by omega) rfl
theorem ADsa_in : ∀ n : Nat, n < 3 -> gADsa ((n : Int) + 11) = some (.ret [.cl (.agg [.int .i64 ((algDsa ((n : Int) + 11)).1.getD 0 0), .int .i64 ((algDsa ((n : Int) + 11)).1.getD 1 0), .int .i32 ((algDsa ((n : Int) + 11)).1.getD 2 0), .int .i64 ((algDsa ((n : Int) + 11)).1.getD 3 0), .int .i32 ((algDsa ((n : Int) + 11)).1.getD 4 0), .int .i32 ((algDsa ((n : Int) + 11)).1.getD 5 0), .int .i64 ((algDsa ((n : Int) + 11)).1.getD 6 0), .int .i64 ((algDsa ((n : Int) + 11)).1.getD 7 0)]), .cl (.bool (algDsa ((n : Int) + 11)).2)] []) := by
 intro n hn
 unfold gADsa placeOk algPlace algIn dsaSet algDsa
 simp only [shut_eq]
 exact match n, hn with
 | 0, _ => by kernel_rfl
 | 1, _ => by kernel_rfl
 | 2, _ => by kernel_rfl
 | n + 3, h => absurd h (by omega)
theorem nADsa (g : Int) (hp : stI64 g = true) : gADsa g = some (.ret [.cl (.agg [.int .i64 ((algDsa g).1.getD 0 0), .int .i64 ((algDsa g).1.getD 1 0), .int .i32 ((algDsa g).1.getD 2 0), .int .i64 ((algDsa g).1.getD 3 0), .int .i32 ((algDsa g).1.getD 4 0), .int .i32 ((algDsa g).1.getD 5 0), .int .i64 ((algDsa g).1.getD 6 0), .int .i64 ((algDsa g).1.getD 7 0)]), .cl (.bool (algDsa g).2)] []) := by
 by_cases hg : 11 <= g /\ g < 11 + 3
 ·exact in_range (P := fun g => gADsa g = some (.ret [.cl (.agg [.int .i64 ((algDsa g).1.getD 0 0), .int .i64 ((algDsa g).1.getD 1 0), .int .i32 ((algDsa g).1.getD 2 0), .int .i64 ((algDsa g).1.getD 3 0), .int .i32 ((algDsa g).1.getD 4 0), .int .i32 ((algDsa g).1.getD 5 0), .int .i64 ((algDsa g).1.getD 6 0), .int .i64 ((algDsa g).1.getD 7 0)]), .cl (.bool (algDsa g).2)] [])) ADsa_in hg.1 hg.2
 ·unfold gADsa algDsa
  rw [shut_eq, if_neg (by omega)]
  refine b_pos (placeOk_of (by omega)) ?_
  rw [in_no (by omega)]
  rfl
theorem ARDsa_in : ∀ n : Nat, n < 3 -> gARDsa ((n : Int) + 11) = some (.ret [.cl (.agg [.int .i64 ((algDsa ((n : Int) + 11)).1.getD 0 0), .int .i64 ((algDsa ((n : Int) + 11)).1.getD 1 0), .int .i32 ((algDsa ((n : Int) + 11)).1.getD 2 0), .int .i64 ((algDsa ((n : Int) + 11)).1.getD 3 0), .int .i32 ((algDsa ((n : Int) + 11)).1.getD 4 0), .int .i32 ((algDsa ((n : Int) + 11)).1.getD 5 0), .int .i64 ((algDsa ((n : Int) + 11)).1.getD 6 0), .int .i64 ((algDsa ((n : Int) + 11)).1.getD 7 0)]), .cl (.bool (algDsa ((n : Int) + 11)).2)] []) := by
 intro n hn
 unfold gARDsa dsaSet algDsa
 simp only [shut_eq]
 exact match n, hn with
 | 0, _ => by kernel_rfl
 | 1, _ => by kernel_rfl
 | 2, _ => by kernel_rfl
 | n + 3, h => absurd h (by omega)
theorem nARDsa (g : Int) (hp : stI64 g = true) : gARDsa g = some (.ret [.cl (.agg [.int .i64 ((algDsa g).1.getD 0 0), .int .i64 ((algDsa g).1.getD 1 0), .int .i32 ((algDsa g).1.getD 2 0), .int .i64 ((algDsa g).1.getD 3 0), .int .i32 ((algDsa g).1.getD 4 0), .int .i32 ((algDsa g).1.getD 5 0), .int .i64 ((algDsa g).1.getD 6 0), .int .i64 ((algDsa g).1.getD 7 0)]), .cl (.bool (algDsa g).2)] []) := by
 by_cases hg : 11 <= g /\ g < 11 + 3
 ·exact in_range (P := fun g => gARDsa g = some (.ret [.cl (.agg [.int .i64 ((algDsa g).1.getD 0 0), .int .i64 ((algDsa g).1.getD 1 0), .int .i32 ((algDsa g).1.getD 2 0), .int .i64 ((algDsa g).1.getD 3 0), .int .i32 ((algDsa g).1.getD 4 0), .int .i32 ((algDsa g).1.getD 5 0), .int .i64 ((algDsa g).1.getD 6 0), .int .i64 ((algDsa g).1.getD 7 0)]), .cl (.bool (algDsa g).2)] [])) ARDsa_in hg.1 hg.2
 ·unfold gARDsa algDsa
  rw [shut_eq, if_neg (by omega)]
  rcases (show g < 11 \/ 11 + 2 < g by omega) with h | h <;> (repeat' (first | rfl | (refine c_neg (by omega) ?_) | (refine c_pos (by omega) ?_)))
theorem AKem_in : ∀ n : Nat, n < 3 -> gAKem ((n : Int) + 51) = some (.ret [.cl (.agg [.int .i64 ((algKem ((n : Int) + 51)).1.getD 0 0), .int .i64 ((algKem ((n : Int) + 51)).1.getD 1 0), .int .i64 ((algKem ((n : Int) + 51)).1.getD 2 0), .int .i64 ((algKem ((n : Int) + 51)).1.getD 3 0), .int .i64 ((algKem ((n : Int) + 51)).1.getD 4 0)]), .cl (.bool (algKem ((n : Int) + 51)).2)] []) := by
 intro n hn
 unfold gAKem placeOk algPlace algIn kemSet algKem
 simp only [shut_eq]
 exact match n, hn with
 | 0, _ => by kernel_rfl
 | 1, _ => by kernel_rfl
 | 2, _ => by kernel_rfl
 | n + 3, h => absurd h (by omega)
theorem nAKem (g : Int) (hp : stI64 g = true) : gAKem g = some (.ret [.cl (.agg [.int .i64 ((algKem g).1.getD 0 0), .int .i64 ((algKem g).1.getD 1 0), .int .i64 ((algKem g).1.getD 2 0), .int .i64 ((algKem g).1.getD 3 0), .int .i64 ((algKem g).1.getD 4 0)]), .cl (.bool (algKem g).2)] []) := by
 by_cases hg : 51 <= g /\ g < 51 + 3
 ·exact in_range (P := fun g => gAKem g = some (.ret [.cl (.agg [.int .i64 ((algKem g).1.getD 0 0), .int .i64 ((algKem g).1.getD 1 0), .int .i64 ((algKem g).1.getD 2 0), .int .i64 ((algKem g).1.getD 3 0), .int .i64 ((algKem g).1.getD 4 0)]), .cl (.bool (algKem g).2)] [])) AKem_in hg.1 hg.2
 ·unfold gAKem algKem
  rw [shut_eq, if_neg (by omega)]
  refine b_pos (placeOk_of (by omega)) ?_
  rw [in_no (by omega)]
  rfl
theorem ARKem_in : ∀ n : Nat, n < 3 -> gARKem ((n : Int) + 51) = some (.ret [.cl (.agg [.int .i64 ((algKem ((n : Int) + 51)).1.getD 0 0), .int .i64 ((algKem ((n : Int) + 51)).1.getD 1 0), .int .i64 ((algKem ((n : Int) + 51)).1.getD 2 0), .int .i64 ((algKem ((n : Int) + 51)).1.getD 3 0), .int .i64 ((algKem ((n : Int) + 51)).1.getD 4 0)]), .cl (.bool (algKem ((n : Int) + 51)).2)] []) := by
 intro n hn
 unfold gARKem kemSet algKem
 simp only [shut_eq]
 exact match n, hn with
 | 0, _ => by kernel_rfl
 | 1, _ => by kernel_rfl
 | 2, _ => by kernel_rfl
 | n + 3, h => absurd h (by omega)
theorem nARKem (g : Int) (hp : stI64 g = true) : gARKem g = some (.ret [.cl (.agg [.int .i64 ((algKem g).1.getD 0 0), .int .i64 ((algKem g).1.getD 1 0), .int .i64 ((algKem g).1.getD 2 0), .int .i64 ((algKem g).1.getD 3 0), .int .i64 ((algKem g).1.getD 4 0)]), .cl (.bool (algKem g).2)] []) := by
 by_cases hg : 51 <= g /\ g < 51 + 3
 ·exact in_range (P := fun g => gARKem g = some (.ret [.cl (.agg [.int .i64 ((algKem g).1.getD 0 0), .int .i64 ((algKem g).1.getD 1 0), .int .i64 ((algKem g).1.getD 2 0), .int .i64 ((algKem g).1.getD 3 0), .int .i64 ((algKem g).1.getD 4 0)]), .cl (.bool (algKem g).2)] [])) ARKem_in hg.1 hg.2
 ·unfold gARKem algKem
  rw [shut_eq, if_neg (by omega)]
  rcases (show g < 51 \/ 51 + 2 < g by omega) with h | h <;> (repeat' (first | rfl | (refine c_neg (by omega) ?_) | (refine c_pos (by omega) ?_)))
theorem nDPSet (g : Int) (hp : stI64 g = true) : gDPSet g = some (.ret [.cl (.agg [.int .i64 ((dsaSet g).1.getD 0 0), .int .i64 ((dsaSet g).1.getD 1 0), .int .i32 ((dsaSet g).1.getD 2 0), .int .i64 ((dsaSet g).1.getD 3 0), .int .i32 ((dsaSet g).1.getD 4 0), .int .i32 ((dsaSet g).1.getD 5 0), .int .i64 ((dsaSet g).1.getD 6 0), .int .i64 ((dsaSet g).1.getD 7 0)]), .cl (.bool (dsaSet g).2)] []) := by
 unfold gDPSet dsaSet dsaSetC
 simp only [shut_eq]
 refine c_split (fun h => ?_) fun h => c_split (fun h' => ?_) fun h' => c_split (fun h'' => ?_) fun h'' => ?_
 ·subst h; rfl
 ·subst h'; rfl
 ·subst h''; rfl
 ·rw [if_neg h, if_neg h', if_neg h'']; rfl
theorem nR22Set (g : Int) (hp : stI64 g = true) : gR22Set g = some (.ret [.cl (.agg [.int .i64 ((dsaSet g).1.getD 0 0), .int .i64 ((dsaSet g).1.getD 1 0), .int .i32 ((dsaSet g).1.getD 2 0), .int .i64 ((dsaSet g).1.getD 3 0), .int .i32 ((dsaSet g).1.getD 4 0), .int .i32 ((dsaSet g).1.getD 5 0), .int .i64 ((dsaSet g).1.getD 6 0), .int .i64 ((dsaSet g).1.getD 7 0)]), .cl (.bool (dsaSet g).2)] []) := by
 unfold gR22Set dsaSet dsaSetC
 simp only [shut_eq]
 refine c_split (fun h => ?_) fun h => c_split (fun h' => ?_) fun h' => c_split (fun h'' => ?_) fun h'' => ?_
 ·subst h; rfl
 ·subst h'; rfl
 ·subst h''; rfl
 ·rw [if_neg h, if_neg h', if_neg h'']; rfl
theorem nKPSet (g : Int) (hp : stI64 g = true) : gKPSet g = some (.ret [.cl (.agg [.int .i64 ((kemSet g).1.getD 0 0), .int .i64 ((kemSet g).1.getD 1 0), .int .i64 ((kemSet g).1.getD 2 0), .int .i64 ((kemSet g).1.getD 3 0), .int .i64 ((kemSet g).1.getD 4 0)]), .cl (.bool (kemSet g).2)] []) := by
 unfold gKPSet kemSet kemSetC
 simp only [shut_eq]
 refine c_split (fun h => ?_) fun h => c_split (fun h' => ?_) fun h' => c_split (fun h'' => ?_) fun h'' => ?_
 ·subst h; rfl
 ·subst h'; rfl
 ·subst h''; rfl
 ·rw [if_neg h, if_neg h', if_neg h'']; rfl
theorem nR26Set (g : Int) (hp : stI64 g = true) : gR26Set g = some (.ret [.cl (.agg [.int .i64 ((kemSet g).1.getD 0 0), .int .i64 ((kemSet g).1.getD 1 0), .int .i64 ((kemSet g).1.getD 2 0), .int .i64 ((kemSet g).1.getD 3 0), .int .i64 ((kemSet g).1.getD 4 0)]), .cl (.bool (kemSet g).2)] []) := by
 unfold gR26Set kemSet kemSetC
 simp only [shut_eq]
 refine c_split (fun h => ?_) fun h => c_split (fun h' => ?_) fun h' => c_split (fun h'' => ?_) fun h'' => ?_
 ·subst h; rfl
 ·subst h'; rfl
 ·subst h''; rfl
 ·rw [if_neg h, if_neg h', if_neg h'']; rfl
theorem SHSet_in : ∀ n : Nat, n < 12 -> gSHSet ((n : Int) + 1) = some (.ret [.cl (.agg [.int .i64 ((slhSet ((n : Int) + 1)).1.getD 0 0), .int .i64 ((slhSet ((n : Int) + 1)).1.getD 1 0), .int .i64 ((slhSet ((n : Int) + 1)).1.getD 2 0), .int .i64 ((slhSet ((n : Int) + 1)).1.getD 3 0), .int .i64 ((slhSet ((n : Int) + 1)).1.getD 4 0), .bool (slhSet ((n : Int) + 1)).2.1]), .cl (.bool (slhSet ((n : Int) + 1)).2.2)] []) := by
 intro n hn
 unfold gSHSet slhSet
 simp only [shut_eq]
 exact match n, hn with
 | 0, _ => by kernel_rfl
 | 1, _ => by kernel_rfl
 | 2, _ => by kernel_rfl
 | 3, _ => by kernel_rfl
 | 4, _ => by kernel_rfl
 | 5, _ => by kernel_rfl
 | 6, _ => by kernel_rfl
 | 7, _ => by kernel_rfl
 | 8, _ => by kernel_rfl
 | 9, _ => by kernel_rfl
 | 10, _ => by kernel_rfl
 | 11, _ => by kernel_rfl
 | n + 12, h => absurd h (by omega)
theorem nSHSet (g : Int) (hp : stI64 g = true) : gSHSet g = some (.ret [.cl (.agg [.int .i64 ((slhSet g).1.getD 0 0), .int .i64 ((slhSet g).1.getD 1 0), .int .i64 ((slhSet g).1.getD 2 0), .int .i64 ((slhSet g).1.getD 3 0), .int .i64 ((slhSet g).1.getD 4 0), .bool (slhSet g).2.1]), .cl (.bool (slhSet g).2.2)] []) := by
 by_cases hg : 1 <= g /\ g < 1 + 12
 ·exact in_range (P := fun g => gSHSet g = some (.ret [.cl (.agg [.int .i64 ((slhSet g).1.getD 0 0), .int .i64 ((slhSet g).1.getD 1 0), .int .i64 ((slhSet g).1.getD 2 0), .int .i64 ((slhSet g).1.getD 3 0), .int .i64 ((slhSet g).1.getD 4 0), .bool (slhSet g).2.1]), .cl (.bool (slhSet g).2.2)] [])) SHSet_in hg.1 hg.2
 ·unfold gSHSet slhSet slhSetC
  simp only [shut_eq]
  rw [if_neg (by omega)]
  rcases (show g < 1 \/ 12 < g by omega) with h | h <;> (repeat' (first | rfl | (refine c_neg (by omega) ?_) | (refine c_pos (by omega) ?_)))
theorem R20Set_in : ∀ n : Nat, n < 12 -> gR20Set ((n : Int) + 1) = some (.ret [.cl (.agg [.int .i64 ((slhSet ((n : Int) + 1)).1.getD 0 0), .int .i64 ((slhSet ((n : Int) + 1)).1.getD 1 0), .int .i64 ((slhSet ((n : Int) + 1)).1.getD 2 0), .int .i64 ((slhSet ((n : Int) + 1)).1.getD 3 0), .int .i64 ((slhSet ((n : Int) + 1)).1.getD 4 0), .bool (slhSet ((n : Int) + 1)).2.1]), .cl (.bool (slhSet ((n : Int) + 1)).2.2)] []) := by
 intro n hn
 unfold gR20Set slhSet
 simp only [shut_eq]
 exact match n, hn with
 | 0, _ => by kernel_rfl
 | 1, _ => by kernel_rfl
 | 2, _ => by kernel_rfl
 | 3, _ => by kernel_rfl
 | 4, _ => by kernel_rfl
 | 5, _ => by kernel_rfl
 | 6, _ => by kernel_rfl
 | 7, _ => by kernel_rfl
 | 8, _ => by kernel_rfl
 | 9, _ => by kernel_rfl
 | 10, _ => by kernel_rfl
 | 11, _ => by kernel_rfl
 | n + 12, h => absurd h (by omega)
theorem nR20Set (g : Int) (hp : stI64 g = true) : gR20Set g = some (.ret [.cl (.agg [.int .i64 ((slhSet g).1.getD 0 0), .int .i64 ((slhSet g).1.getD 1 0), .int .i64 ((slhSet g).1.getD 2 0), .int .i64 ((slhSet g).1.getD 3 0), .int .i64 ((slhSet g).1.getD 4 0), .bool (slhSet g).2.1]), .cl (.bool (slhSet g).2.2)] []) := by
 by_cases hg : 1 <= g /\ g < 1 + 12
 ·exact in_range (P := fun g => gR20Set g = some (.ret [.cl (.agg [.int .i64 ((slhSet g).1.getD 0 0), .int .i64 ((slhSet g).1.getD 1 0), .int .i64 ((slhSet g).1.getD 2 0), .int .i64 ((slhSet g).1.getD 3 0), .int .i64 ((slhSet g).1.getD 4 0), .bool (slhSet g).2.1]), .cl (.bool (slhSet g).2.2)] [])) R20Set_in hg.1 hg.2
 ·unfold gR20Set slhSet slhSetC
  simp only [shut_eq]
  rw [if_neg (by omega)]
  rcases (show g < 1 \/ 12 < g by omega) with h | h <;> (repeat' (first | rfl | (refine c_neg (by omega) ?_) | (refine c_pos (by omega) ?_)))
theorem ASlh_in : ∀ n : Nat, n < 14 -> gASlh ((n : Int) + 21) = some (.ret [.cl (.agg [.int .i64 ((algSlh ((n : Int) + 21)).1.getD 0 0), .int .i64 ((algSlh ((n : Int) + 21)).1.getD 1 0), .int .i64 ((algSlh ((n : Int) + 21)).1.getD 2 0), .int .i64 ((algSlh ((n : Int) + 21)).1.getD 3 0), .int .i64 ((algSlh ((n : Int) + 21)).1.getD 4 0), .bool (algSlh ((n : Int) + 21)).2.1]), .cl (.bool (algSlh ((n : Int) + 21)).2.2)] []) := by
 intro n hn
 unfold gASlh slhSet algSlh
 simp only [shut_eq]
 exact match n, hn with
 | 0, _ => by kernel_rfl
 | 1, _ => by kernel_rfl
 | 2, _ => by kernel_rfl
 | 3, _ => by kernel_rfl
 | 4, _ => by kernel_rfl
 | 5, _ => by kernel_rfl
 | 6, _ => by kernel_rfl
 | 7, _ => by kernel_rfl
 | 8, _ => by kernel_rfl
 | 9, _ => by kernel_rfl
 | 10, _ => by kernel_rfl
 | 11, _ => by kernel_rfl
 | 12, _ => by kernel_rfl
 | 13, _ => by kernel_rfl
 | n + 14, h => absurd h (by omega)
theorem nASlh (g : Int) (hp : stI64 g = true) : gASlh g = some (.ret [.cl (.agg [.int .i64 ((algSlh g).1.getD 0 0), .int .i64 ((algSlh g).1.getD 1 0), .int .i64 ((algSlh g).1.getD 2 0), .int .i64 ((algSlh g).1.getD 3 0), .int .i64 ((algSlh g).1.getD 4 0), .bool (algSlh g).2.1]), .cl (.bool (algSlh g).2.2)] []) := by
 by_cases hg : 21 <= g /\ g < 21 + 14
 ·exact in_range (P := fun g => gASlh g = some (.ret [.cl (.agg [.int .i64 ((algSlh g).1.getD 0 0), .int .i64 ((algSlh g).1.getD 1 0), .int .i64 ((algSlh g).1.getD 2 0), .int .i64 ((algSlh g).1.getD 3 0), .int .i64 ((algSlh g).1.getD 4 0), .bool (algSlh g).2.1]), .cl (.bool (algSlh g).2.2)] [])) ASlh_in hg.1 hg.2
 ·have hp2 : -9223372036854775808 <= g /\ g <= 9223372036854775807 := of_decide_eq_true hp
  have hw : ¬IntKind.i64.wrap (g - 33) = 0 /\ ¬IntKind.i64.wrap (g - 33) = 1 := by rw [v_i64]; omega
  unfold gASlh algSlh
  rw [shut_eq, if_neg (by omega), if_neg (by omega)]
  refine c_neg hw.1 (c_neg hw.2 ?_)
  rcases (show g < 21 \/ 34 < g by omega) with h | h <;> (repeat' (first | rfl | (refine c_neg (by omega) ?_) | (refine c_pos (by omega) ?_)))
theorem ARSlh_in : ∀ n : Nat, n < 14 -> gARSlh ((n : Int) + 21) = some (.ret [.cl (.agg [.int .i64 ((algSlh ((n : Int) + 21)).1.getD 0 0), .int .i64 ((algSlh ((n : Int) + 21)).1.getD 1 0), .int .i64 ((algSlh ((n : Int) + 21)).1.getD 2 0), .int .i64 ((algSlh ((n : Int) + 21)).1.getD 3 0), .int .i64 ((algSlh ((n : Int) + 21)).1.getD 4 0), .bool (algSlh ((n : Int) + 21)).2.1]), .cl (.bool (algSlh ((n : Int) + 21)).2.2)] []) := by
 intro n hn
 unfold gARSlh slhSet algSlh
 simp only [shut_eq]
 exact match n, hn with
 | 0, _ => by kernel_rfl
 | 1, _ => by kernel_rfl
 | 2, _ => by kernel_rfl
 | 3, _ => by kernel_rfl
 | 4, _ => by kernel_rfl
 | 5, _ => by kernel_rfl
 | 6, _ => by kernel_rfl
 | 7, _ => by kernel_rfl
 | 8, _ => by kernel_rfl
 | 9, _ => by kernel_rfl
 | 10, _ => by kernel_rfl
 | 11, _ => by kernel_rfl
 | 12, _ => by kernel_rfl
 | 13, _ => by kernel_rfl
 | n + 14, h => absurd h (by omega)
theorem nARSlh (g : Int) (hp : stI64 g = true) : gARSlh g = some (.ret [.cl (.agg [.int .i64 ((algSlh g).1.getD 0 0), .int .i64 ((algSlh g).1.getD 1 0), .int .i64 ((algSlh g).1.getD 2 0), .int .i64 ((algSlh g).1.getD 3 0), .int .i64 ((algSlh g).1.getD 4 0), .bool (algSlh g).2.1]), .cl (.bool (algSlh g).2.2)] []) := by
 by_cases hg : 21 <= g /\ g < 21 + 14
 ·exact in_range (P := fun g => gARSlh g = some (.ret [.cl (.agg [.int .i64 ((algSlh g).1.getD 0 0), .int .i64 ((algSlh g).1.getD 1 0), .int .i64 ((algSlh g).1.getD 2 0), .int .i64 ((algSlh g).1.getD 3 0), .int .i64 ((algSlh g).1.getD 4 0), .bool (algSlh g).2.1]), .cl (.bool (algSlh g).2.2)] [])) ARSlh_in hg.1 hg.2
 ·unfold gARSlh algSlh
  rw [shut_eq, if_neg (by omega), if_neg (by omega)]
  rcases (show g < 21 \/ 34 < g by omega) with h | h <;> (repeat' (first | rfl | (refine c_neg (by omega) ?_) | (refine c_pos (by omega) ?_)))
end Go.Proofs.YtfkpjbbkdkcdcaaDoorA

namespace Go.Proofs.YtfkpjbbkdkcdcaaDoorA
open IntWalk (i64_in u8_in u32_in u64_in i64_quo u8_quo rem_in)

theorem nARNist (g h : Int) (hp : true = true) : gARNist g h = some (.ret [.cl (.sli .u32 (algNist g h))] []) := by unfold algNist; rw [shut_eq]; rfl
theorem nARPkcs (o : List Int) (hp : lenOk o = true) : gARPkcs o = some (.ret [.cl (.sli .u32 (algPkcs o))] []) := by
 have := lenOk_spec hp
 unfold gARPkcs algPkcs
 rw [shut_eq]
 exact rmK_in (by simp; omega) (by simp; omega) rfl
theorem nAUsed (g : Int) (hp : true = true) : gAUsed g = some (.ret [.cl (.int .i64 (algUsed g))] []) := by
 unfold gAUsed algUsed algUsedC
 rw [shut_eq]
 refine c_split (fun h => ?_) fun h => c_split (fun h' => ?_) fun h' => ?_
 ·rw [if_pos h]
 ·rw [if_neg h, if_pos h']
 ·rw [if_neg h, if_neg h']
/-! ### of an identifier -/
def refF (o : List Int) (i : Nat) : Bool := !(decide ((algFoundC i).2.1 = 0)) && decide ((algFoundC i).2.2 = o)
theorem ofr_lp (K0 : Int -> Option Out) (K1 : Option Out) (o : List Int) : ∀ (f a : Nat), 94 < f + a -> a <= 94 -> lpAROf_2 K0 K1 f o ((a : Nat) : Int) = (match (List.range' a (94 - a)).find? (refF o) with | some i => K0 ((i : Nat) : Int) | none => K1)
 | 0, a, h, h' => by omega
 | f + 1, a, h, h' => by
  show lpAROf_2s (lpAROf_2 K0 K1 f) K0 K1 o _ = _
  unfold lpAROf_2s
  have ih := ofr_lp K0 K1 o f (a + 1) (by omega)
  generalize lpAROf_2 K0 K1 f = ag at ih ⊢
  refine c_split (fun ha => ?_) fun ha => ?_
  ·rw [show 94 - a = (94 - (a + 1)) + 1 by omega, List.range'_succ, List.find?_cons, found_eq, show IntKind.i64.wrap (((a : Nat) : Int) + 1) = ((a + 1 : Nat) : Int) from (i64_in _ (by omega)).trans (by omega)]
   have hl : lenOk (algFoundC ((a : Nat) : Int)).2.2 = true := lenOk_of (by have := (found_id ((a : Nat) : Int)).1; omega)
   have hs : listSame (algFoundC ((a : Nat) : Int)).2.2 o = decide ((algFoundC ((a : Nat) : Int)).2.2 = o) := by unfold listSame listSameC; rw [shut_eq]
   unfold refF
   refine c_nsplit (fun h0 => ?_) fun h0 => ?_
   ·rw [decide_eq_false h0, Bool.not_false, Bool.true_and]
    refine b_pos hl ?_
    rw [hs]
    cases decide ((algFoundC ((a : Nat) : Int)).2.2 = o) with
    | true => rfl
    | false => exact ih (by omega)
   ·rw [decide_eq_true h0]
    exact ih (by omega)
  ·rw [show 94 - a = 0 by omega]
   rfl
theorem ents_found : ∀ e ∈ algEntsC, algFoundC e.1 = e /\ ¬e.2.1 = 0 := by decide +kernel
theorem ents_one : ∀ e ∈ algEntsC, ∀ e' ∈ algEntsC, e.2.2 = e'.2.2 -> e.1 = e'.1 := by decide +kernel
theorem refF_spec {o : List Int} {i : Nat} (h : refF o i = true) : algFoundC i ∈ algEntsC /\ (algFoundC i).1 = i /\ (algFoundC i).2.2 = o := by
 unfold refF at h
 simp only [Bool.and_eq_true, Bool.not_eq_true', decide_eq_true_eq, decide_eq_false_iff_not] at h
 rcases found_mem i with e | e
 ·rw [e] at h; exact absurd rfl h.1
 ·exact ⟨e.1, e.2, h.2⟩
theorem nAROf (o : List Int) (hp : true = true) : gAROf o = some (.ret [.cl (.int .i64 (algOf o))] []) := by
 unfold gAROf algOf algOfC
 simp only [shut_eq]
 refine (ofr_lp _ _ o FUEL 1 (by unfold FUEL; omega) (by omega)).trans ?_
 cases he : algEntsC.find? fun e => decide (e.2.2 = o) with
 | none =>
  have h0 := List.find?_eq_none.1 he
  rw [List.find?_eq_none.2 fun i _ hi => ?_]
  ·rfl
  ·obtain ⟨g1, _, g3⟩ := refF_spec hi
   exact h0 _ g1 (decide_eq_true g3)
 | some e =>
  have hm := List.mem_of_find?_eq_some he
  have ho : e.2.2 = o := by have := List.find?_some he; simpa using this
  have hr := (ents_all e hm).1
  obtain ⟨f1, f2⟩ := ents_found e hm
  have hi : refF o e.1.toNat = true := by
   unfold refF
   rw [show ((e.1.toNat : Nat) : Int) = e.1 by omega, f1, decide_eq_false f2, ho, decide_eq_true rfl]
   rfl
  cases hj : (List.range' 1 (94 - 1)).find? (refF o) with
  | none =>
   have := List.find?_eq_none.1 hj e.1.toNat (List.mem_range'_1.2 (by omega))
   exact absurd hi this
  | some j =>
   obtain ⟨g1, g2, g3⟩ := refF_spec (List.find?_some hj)
   have := ents_one _ g1 _ hm (g3.trans ho.symm)
   show some (Out.ret [.cl (.int .i64 ((j : Nat) : Int))] []) = some (.ret [.cl (.int .i64 e.1)] [])
   rw [<- this, g2]
/-! ### as a value -/
theorem nANode (g : Int) (b : List Int) (hp : lenOk b = true) : gANode g b = some (.ret [.cl (.agg [.int .i64 (algNode g b).1, .sli .u8 noInts, .slg 3 (algNode g b).2.1]), .cl (.int .i64 (algNode g b).2.2)] []) := by
 obtain ⟨i1, i2⟩ := found_id g
 have hid : idOk (algFoundC g).2.2 = true := idOk_of (by omega) i2
 have h16 : stI64 16 = true := by decide
 unfold gANode algNode algUsed
 rw [found_eq]
 simp only [shut_eq, noKids_eq, noInts_eq]
 unfold algNodeC
 refine c_split (fun h => ?_) fun h => c_nsplit (fun h' => ?_) fun h' => ?_
 ·rw [if_pos h]
 ·rw [if_neg h, if_pos h']
 ·rw [if_neg h, if_neg (by simp [h'])]
  refine b_pos hid ?_
  refine c_split (fun h6 => ?_) fun h6 => c_split (fun h7 => ?_) fun h7 => ?_
  ·rw [if_pos h6]
   exact b_pos hp (b_pos (lenOkC_of (by simp)) rfl)
  ·rw [if_neg h6, if_pos h7]
   exact b_pos hp (b_pos h16 (b_pos (lenOkC_of (by simp)) (b_pos (lenOkC_of (by simp)) rfl)))
  ·rw [if_neg h6, if_neg h7]
   exact b_pos (lenOkC_of (by simp)) rfl
theorem name_len (g : Int) : (algName g).length <= 10 := by
 unfold algName algNameC
 rw [shut_eq]
 repeat' split
 all_goals simp
theorem nAAwake (hp : true = true) : gAAwake = some (.ret [.cl (.bool true)] []) := by
 unfold gAAwake
 have e1 : (algNode 91 [0, 0, 0, 0, 0, 0, 0, 0, 0, 0, 0]).2.2 = 14 := by unfold algNode; rw [shut_eq]; kernel_rfl
 have e2 : (algFound 11).2.2 = [2, 16, 840, 1, 101, 3, 4, 3, 17] := by rw [found_eq]; kernel_rfl
 have e3 : algOf [2, 5] = 0 := by unfold algOf; rw [shut_eq]; kernel_rfl
 rw [e1, e2, e3]
 exact b_pos (lenOk_of (by simp)) (b_pos (lenOk_of (by simp)) (b_pos (same_refl _) (c_pos rfl rfl)))
theorem nALTells (g : Int) (o : List Int) (hp : (stI64 g && u32Any o) = true) : gALTells g o = some (.ret [.cl (.bool true)] []) := by
 rw [Bool.and_eq_true] at hp
 have h := hp.1
 unfold gALTells
 refine c_split (fun _ => rfl) fun _ => b_pos h (b_pos h (b_pos h (b_pos h (b_pos h (b_pos h ?_)))))
 have hl : lenOk (algFound g).2.2 = true := by rw [found_eq]; exact lenOk_of (by have := (found_id g).1; omega)
 have hn : lenOk (algName g) = true := lenOk_of (by have := name_len g; omega)
 refine b_neg (by simp) (b_neg (by simp) (b_neg (by simp) (b_neg (by simp) (b_neg (by simp) (b_neg (by simp) (c_pos rfl (b_pos hl (b_pos (same_refl _) (c_pos rfl (b_pos hn (b_pos (same_refl _) (b_pos h (b_pos h (c_pos rfl rfl))))))))))))))
end Go.Proofs.YtfkpjbbkdkcdcaaDoorA
