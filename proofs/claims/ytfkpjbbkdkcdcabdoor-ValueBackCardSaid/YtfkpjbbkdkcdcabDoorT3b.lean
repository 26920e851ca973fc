/-
 What the layers below come to (their lemmas, as far as this seat needs them). Conditions: each function's own.
-/
import Derived.Test.YtfkpjbbkdkcdcabDoorT2a
import Derived.Test.YtfkpjbbkdkcdcabDoorT2b
import Derived.Test.YtfkpjbbkdkcdcabDoorT3a
set_option linter.unusedVariables false
set_option linter.unusedSimpArgs false
set_option maxRecDepth 100000
namespace Go.Proofs.YtfkpjbbkdkcdcabDoorA
open IntWalk (i64_in u8_in u32_in u64_in i64_quo u8_quo rem_in)

/-! ### numbers by twos' complement -/
theorem v_i64 (n : Int) : IntKind.i64.wrap n = if 9223372036854775808 <= n % 18446744073709551616 then n % 18446744073709551616 - 18446744073709551616 else n % 18446744073709551616 := by
 simp [IntKind.wrap, IntKind.bits, IntKind.signed]
theorem num_cons (h : Int) (r : List Int) : bytesNumC (h :: r) = h * 256 ^ r.length + bytesNumC r := by
 unfold bytesNumC
 have key : ∀ (r : List Int) (a : Int), r.foldl (fun n x => n * 256 + x) a = a * 256 ^ r.length + r.foldl (fun n x => n * 256 + x) 0 := by
  intro r
  induction r with
  | nil => intro a; simp
  | cons x r ih =>
   intro a
   rw [List.foldl_cons, List.foldl_cons, show (0 : Int) * 256 + x = x by omega, ih, ih x, List.length_cons, Int.pow_succ]
   generalize (256 : Int) ^ r.length = z
   generalize r.foldl (fun n x => n * 256 + x) 0 = y
   rw [Int.add_mul, Int.mul_assoc, Int.mul_comm 256 z]
   omega
 rw [List.foldl_cons, key]
 simp
/-- a number's bytes: which half it lies in -/
theorem num_half {b : List Int} (hb : ∀ x ∈ b, 0 <= x /\ x <= 255) {L : Nat} (hL : b.length = L + 1) : 0 <= bytesNumC b /\ bytesNumC b < 256 * 256 ^ L /\ (128 <= b.headD 0 ↔ 128 * 256 ^ L <= bytesNumC b) := by
 cases b with
 | nil => simp at hL
 | cons h r =>
  have h1 := hb h (by simp)
  have h2 := bytesNum_rng (b := r) fun x hx => hb x (List.mem_cons_of_mem _ hx)
  have hr : r.length = L := by simpa using hL
  rw [num_cons, hr]
  rw [hr] at h2
  have hp : (0 : Int) < 256 ^ L := Int.pow_pos (by decide)
  simp only [List.headD_cons]
  generalize (256 : Int) ^ L = z at *
  generalize bytesNumC r = y at *
  have m1 : h * z <= 255 * z := Int.mul_le_mul_of_nonneg_right h1.2 (by omega)
  have m0 : 0 <= h * z := Int.mul_nonneg h1.1 (by omega)
  refine ⟨by omega, by omega, fun hh => ?_, fun hh => ?_⟩
  ·have : 128 * z <= h * z := Int.mul_le_mul_of_nonneg_right hh (by omega)
   omega
  ·by_cases hc : 128 <= h
   ·exact hc
   ·have : h * z <= 127 * z := Int.mul_le_mul_of_nonneg_right (by omega) (by omega)
    omega
theorem twos_eq (b : List Int) (hb : ∀ x ∈ b, 0 <= x /\ x <= 255) (hl : b.length <= 8) : Int.fdiv (IntKind.i64.wrap (IntKind.u64.wrap (bytesNumC b * 2 ^ (64 - 8 * b.length)))) (2 ^ (64 - 8 * b.length)) = twosC b := by
 unfold twosC
 by_cases h0 : b = []
 ·subst h0
  simp [bytesNumC, v_u64, v_i64]
 obtain ⟨L, hL⟩ : ∃ L, b.length = L + 1 := ⟨b.length - 1, by have := List.length_pos_iff.2 h0; omega⟩
 obtain ⟨h1, h2, h3⟩ := num_half hb hL
 rw [hL] at hl ⊢
 generalize bytesNumC b = u at *
 have key : ∀ (p q : Int), 0 < p -> p * q = 9223372036854775808 -> u < 2 * q -> (128 <= b.headD 0 ↔ q <= u) -> Int.fdiv (IntKind.i64.wrap (IntKind.u64.wrap (u * p))) p = if 128 <= b.headD 0 then u - 2 * q else u := fun p q hp hpq hu hh => by
  have hm : u * p < 2 * (p * q) := by
   have : u * p < 2 * q * p := Int.mul_lt_mul_of_pos_right hu hp
   rw [Int.mul_assoc, Int.mul_comm q p] at this
   exact this
  have h00 : 0 <= u * p := Int.mul_nonneg h1 (by omega)
  rw [v_u64, Int.emod_eq_of_lt h00 (by omega), v_i64, Int.emod_eq_of_lt h00 (by omega)]
  by_cases hc : q <= u
  ·have hge : p * q <= u * p := by rw [Int.mul_comm p q]; exact Int.mul_le_mul_of_nonneg_right hc (by omega)
   rw [if_pos (by omega), if_pos (hh.2 hc), show u * p - 18446744073709551616 = (u - 2 * q) * p by rw [Int.sub_mul, Int.mul_assoc, Int.mul_comm q p]; omega, Int.fdiv_eq_ediv_of_nonneg _ (by omega), Int.mul_ediv_cancel _ (by omega)]
  ·have hlt : u * p < p * q := by rw [Int.mul_comm p q]; exact Int.mul_lt_mul_of_pos_right (by omega) hp
   rw [if_neg (by omega), if_neg (fun h => hc (hh.1 h)), Int.fdiv_eq_ediv_of_nonneg _ (by omega), Int.mul_ediv_cancel _ (by omega)]
 have hLe : L = 0 \/ L = 1 \/ L = 2 \/ L = 3 \/ L = 4 \/ L = 5 \/ L = 6 \/ L = 7 := by omega
 rcases hLe with rfl | rfl | rfl | rfl | rfl | rfl | rfl | rfl
 ·exact key 72057594037927936 128 (by decide) (by decide) (by omega) (by omega)
 ·exact key 281474976710656 32768 (by decide) (by decide) (by omega) (by omega)
 ·exact key 1099511627776 8388608 (by decide) (by decide) (by omega) (by omega)
 ·exact key 4294967296 2147483648 (by decide) (by decide) (by omega) (by omega)
 ·exact key 16777216 549755813888 (by decide) (by decide) (by omega) (by omega)
 ·exact key 65536 140737488355328 (by decide) (by decide) (by omega) (by omega)
 ·exact key 256 36028797018963968 (by decide) (by decide) (by omega) (by omega)
 ·exact key 1 9223372036854775808 (by decide) (by decide) (by omega) (by omega)
theorem ret_two {a b c d : Int} (h1 : a = c) (h2 : b = d) : some (Out.ret [.cl (.int .i64 a), .cl (.int .i64 b)] []) = some (Out.ret [.cl (.int .i64 c), .cl (.int .i64 d)] []) := by rw [h1, h2]
theorem nVNumber (b : List Int) (hp : bytesOk b = true) : gVNumber b = some (.ret [.cl (.int .i64 (vNumber b).1), .cl (.int .i64 (vNumber b).2)] []) := by
 obtain ⟨hlen, hb⟩ := bytesOk_spec hp
 unfold gVNumber vNumber vNumberC
 rw [shut_eq]
 refine c_split (fun h => ?_) fun h => ?_
 ·rw [if_pos (by omega)]
 ·rw [if_neg (by omega)]
  have e1 : IntKind.i64.wrap ((8 : Int) * ((b.length : Nat) : Int)) = ((8 * b.length : Nat) : Int) := (i64_in _ (by omega)).trans (by omega)
  have e2 : IntKind.i64.wrap ((64 : Int) - ((8 * b.length : Nat) : Int)) = ((64 - 8 * b.length : Nat) : Int) := (i64_in _ (by omega)).trans (by omega)
  dsimp only
  rw [e1, e2]
  refine b_pos (num8_of (by omega) hb) (c_neg (by omega) (c_neg (by omega) (ret_two ?_ rfl)))
  rw [show min ((64 - 8 * b.length : Nat) : Int).toNat 64 = 64 - 8 * b.length by omega]
  unfold bytesNum
  rw [shut_eq]
  exact twos_eq b hb (by omega)
end Go.Proofs.YtfkpjbbkdkcdcabDoorA

namespace Go.Proofs.YtfkpjbbkdkcdcabDoorA
open IntWalk (i64_in u8_in u32_in u64_in i64_quo u8_quo rem_in)

theorem leaf_tf {g : Int} {b : List Int} (hb : ∀ x ∈ b, 0 <= x /\ x <= 255) : isTf 1 [.int .i64 g, .sli .u8 b, .slg 3 []] = true := by
 show (b.all byteB && true) = true
 rw [Bool.and_true, List.all_eq_true]
 exact fun x hx => decide_eq_true (hb x hx)
theorem leaf_isS {g : Int} {b : List Int} (hb : ∀ x ∈ b, 0 <= x /\ x <= 255) (hl : b.length <= 29999) : isS [.int .i64 g, .sli .u8 b, .slg 3 []] = true :=
 isS_of (leaf_tf hb) (by unfold bulkF; simp; omega)
theorem leaf_fit {g : Int} {b : List Int} (hb : ∀ x ∈ b, 0 <= x /\ x <= 255) (hg : derBoxedC g = false) : ndFit [.int .i64 g, .sli .u8 b, .slg 3 []] = (derKnownC g && derFitsC g b) := by
 rw [ndFit_eq (leaf_tf hb)]
 unfold okF bytesF
 simp [hg]
theorem isS_bytes {t : Int} {b : List Int} {k : List CV} (h : isS [.int .i64 t, .sli .u8 b, .slg 3 k] = true) : b.length <= 29999 /\ ∀ x ∈ b, 0 <= x /\ x <= 255 := by
 obtain ⟨n, hn, hB⟩ := isS_spec h
 obtain ⟨m, t', b', l', rfl, e, hb, _⟩ := tf_inv hn
 cases e
 refine ⟨?_, hb⟩
 change 1 + b.length + _ <= 30000 at hB
 omega
theorem isS_bok {t : Int} {b : List Int} {k : List CV} (h : isS [.int .i64 t, .sli .u8 b, .slg 3 k] = true) : bytesOk b = true := bytesOk_of (by have := (isS_bytes h).1; omega) (isS_bytes h).2
theorem vErr_bad {g t : Int} {b : List Int} {k : List CV} (h : t = g) (hk : k.length = 0) (hd : derFitsC g b = false) : vErrC g t b k = 5 := by unfold vErrC; rw [if_neg (by simp [h]), if_pos (.inr hd)]
theorem vErr_ok {g t : Int} {b : List Int} {k : List CV} (h : t = g) (hk : k.length = 0) (hd : derFitsC g b = true) : vErrC g t b k = 0 := by unfold vErrC; rw [if_neg (by simp [h]), if_neg (by simp [hk, hd])]
theorem vErr_tag {g t : Int} {b : List Int} {k : List CV} (h : ¬t = g) : vErrC g t b k = 4 := by unfold vErrC; rw [if_pos h]
theorem vErr_kids {g t : Int} {b : List Int} {k : List CV} (h : t = g) (hk : 0 < k.length) : vErrC g t b k = 5 := by unfold vErrC; rw [if_neg (by simp [h]), if_pos (.inl (by omega))]
theorem told_eq {g t : Int} {b : List Int} {k : List CV} {bad : Int -> Option Out} {good : Option Out} (hS : isS [.int .i64 t, .sli .u8 b, .slg 3 k] = true) (hk : derKnownC g = true) (hb : derBoxedC g = false) :
  cond (!decide (t = g)) (bad 4) (cond (decide ((0 : Int) < ((k.length : Nat) : Int))) (bad 5) (cond (isS [.int .i64 g, .sli .u8 b, .slg 3 []]) (cond (!(ndFit [.int .i64 g, .sli .u8 b, .slg 3 []])) (bad 5) good) none)) = if vErrC g t b k = 0 then good else bad (vErrC g t b k) := by
 obtain ⟨h1, h2⟩ := isS_bytes hS
 refine c_nsplit (fun h => ?_) fun h => c_split (fun h' => ?_) fun h' => b_pos (leaf_isS h2 h1) ?_
 ·rw [vErr_tag h]; rfl
 ·rw [vErr_kids h (by omega)]; rfl
 ·rw [leaf_fit h2 hb, hk, Bool.true_and]
  cases hd : derFitsC g b with
  | false => rw [vErr_bad h (by omega) hd]; rfl
  | true => rw [vErr_ok h (by omega) hd]; rfl
theorem nVUtf1 (b : List Int) (hp : true = true) : gVUtf1 b = some (.ret [.cl (.str (strOf b)), .cl (.int .i64 0)] []) := rfl
theorem nVTime1 (b : List Int) (hp : true = true) : gVTime1 b = some (.ret [.cl (.int .i64 (stRead (strOf b)).1), .cl (.int .i64 (stRead (strOf b)).2)] []) := rfl
theorem nVToldI_0 (t : Int) (b : List Int) (k : List CV) (hp : isS [.int .i64 t, .sli .u8 b, .slg 3 k] = true) : gVToldI_0 t b k = some (.ret [.cl (.int .i64 (vIntOf t b k).1), .cl (.int .i64 (vIntOf t b k).2)] []) := by
 unfold gVToldI_0
 dsimp only
 refine (told_eq (bad := fun e => some (.ret [.cl (.int .i64 0), .cl (.int .i64 e)] [])) hp rfl rfl).trans ?_
 unfold vIntOf
 rw [shut_eq]
 by_cases h : vErrC 2 t b k = 0
 ·rw [if_pos h, if_pos h]
  refine b_pos (isS_bok hp) ?_
  unfold vNumber
  rw [shut_eq]
 ·rw [if_neg h, if_neg h]
theorem nVToldI_1 (t : Int) (b : List Int) (k : List CV) (hp : isS [.int .i64 t, .sli .u8 b, .slg 3 k] = true) : gVToldI_1 t b k = some (.ret [.cl (.int .i64 (vTimeOf t b k).1), .cl (.int .i64 (vTimeOf t b k).2)] []) := by
 unfold gVToldI_1
 dsimp only
 refine (told_eq (bad := fun e => some (.ret [.cl (.int .i64 0), .cl (.int .i64 e)] [])) hp rfl rfl).trans ?_
 unfold vTimeOf
 rw [shut_eq]
 by_cases h : vErrC 24 t b k = 0
 ·rw [if_pos h, if_pos h]
 ·rw [if_neg h, if_neg h]
theorem nVToldS (t : Int) (b : List Int) (k : List CV) (hp : isS [.int .i64 t, .sli .u8 b, .slg 3 k] = true) : gVToldS t b k = some (.ret [.cl (.str (vUtfOf t b k).1), .cl (.int .i64 (vUtfOf t b k).2)] []) := by
 unfold gVToldS
 dsimp only
 refine (told_eq (bad := fun e => some (.ret [.cl (.str (⟨#[]⟩ : ByteArray)), .cl (.int .i64 e)] [])) hp rfl rfl).trans ?_
 unfold vUtfOf
 rw [shut_eq]
 by_cases h : vErrC 12 t b k = 0
 ·rw [if_pos h, if_pos h]
 ·rw [if_neg h, if_neg h]; rfl
theorem nVToldO (t : Int) (b : List Int) (k : List CV) (hp : isS [.int .i64 t, .sli .u8 b, .slg 3 k] = true) : gVToldO t b k = some (.ret [.cl (.sli .u32 (vIdOf t b k).1), .cl (.int .i64 (vIdOf t b k).2)] []) := by
 unfold gVToldO
 dsimp only
 refine (told_eq (bad := fun e => some (.ret [.cl (.sli .u32 []), .cl (.int .i64 e)] [])) hp rfl rfl).trans ?_
 unfold vIdOf
 rw [shut_eq]
 by_cases h : vErrC 6 t b k = 0
 ·rw [if_pos h, if_pos h]; exact b_pos (isS_bok hp) rfl
 ·rw [if_neg h, if_neg h]
theorem nVIntOf (t : Int) (b : List Int) (k : List CV) (hp : isS [.int .i64 t, .sli .u8 b, .slg 3 k] = true) : gVIntOf t b k = some (.ret [.cl (.int .i64 (vIntOf t b k).1), .cl (.int .i64 (vIntOf t b k).2)] []) := b_pos hp rfl
theorem nVTimeOf (t : Int) (b : List Int) (k : List CV) (hp : isS [.int .i64 t, .sli .u8 b, .slg 3 k] = true) : gVTimeOf t b k = some (.ret [.cl (.int .i64 (vTimeOf t b k).1), .cl (.int .i64 (vTimeOf t b k).2)] []) := b_pos hp rfl
theorem nVUtf8Of (t : Int) (b : List Int) (k : List CV) (hp : isS [.int .i64 t, .sli .u8 b, .slg 3 k] = true) : gVUtf8Of t b k = some (.ret [.cl (.str (vUtfOf t b k).1), .cl (.int .i64 (vUtfOf t b k).2)] []) := b_pos hp rfl
theorem nVIdOf (t : Int) (b : List Int) (k : List CV) (hp : isS [.int .i64 t, .sli .u8 b, .slg 3 k] = true) : gVIdOf t b k = some (.ret [.cl (.sli .u32 (vIdOf t b k).1), .cl (.int .i64 (vIdOf t b k).2)] []) := b_pos hp rfl
theorem fits4 (b : List Int) : derFitsC 4 b = true := rfl
theorem nVBytesOf (t : Int) (b : List Int) (k : List CV) (hp : isS [.int .i64 t, .sli .u8 b, .slg 3 k] = true) : gVBytesOf t b k = some (.ret [.cl (.sli .u8 (vBytesOf t b k).1), .cl (.int .i64 (vBytesOf t b k).2)] []) := by
 unfold gVBytesOf vBytesOf
 rw [shut_eq]
 refine c_nsplit (fun h => ?_) fun h => c_split (fun h' => ?_) fun h' => b_pos (lenOk_of (by have := (isS_bytes hp).1; omega)) ?_
 ·rw [vErr_tag h]; rfl
 ·rw [vErr_kids h (by omega)]; rfl
 ·rw [vErr_ok h (by omega) (fits4 b)]; rfl
end Go.Proofs.YtfkpjbbkdkcdcabDoorA

namespace Go.Proofs.YtfkpjbbkdkcdcabDoorA
open IntWalk (i64_in u8_in u32_in u64_in i64_quo u8_quo rem_in)

theorem nVSmall (t : Int) (b : List Int) (k : List CV) (hp : isT [.int .i64 t, .sli .u8 b, .slg 3 k] = true) : gVSmall t b k = some (.ret [.cl (.bool (vSmall [.int .i64 t, .sli .u8 b, .slg 3 k]))] []) := by
 unfold gVSmall vSmall leftOk
 simp only [shut_eq]
 exact b_pos (by rw [hp]; rfl) rfl
theorem nVCmp (ta : Int) (ba : List Int) (ka : List CV) (wa : List Int) (tb : Int) (bb : List Int) (kb : List CV) (wb : List Int) (hp : (bytesOk wa && bytesOk wb) = true) : gVCmp ta ba ka wa tb bb kb wb = some (.ret [.cl (.int .i64 (listCmp wa wb))] []) := b_pos hp rfl
abbrev W4 (c : CV) : Prop := ∃ t b k w, c = .agg [.int .i64 t, .sli .u8 b, .slg 3 k, .sli .u8 w] /\ bytesOk w = true
theorem insRev_len (x : CV) : ∀ l : List CV, (insRev x l).length = l.length + 1
 | [] => rfl
 | y :: r => by
  unfold insRev
  split
  ·simp [insRev_len x r]
  ·rfl
theorem insRev_mem {x : CV} : ∀ {l : List CV} {c : CV}, c ∈ insRev x l -> c = x \/ c ∈ l
 | [], c, h => by simp [insRev] at h; exact .inl h
 | y :: r, c, h => by
  unfold insRev at h
  split at h
  ·rcases List.mem_cons.1 h with rfl | h
   ·exact .inr (by simp)
   ·rcases insRev_mem h with h | h
    ·exact .inl h
    ·exact .inr (List.mem_cons_of_mem _ h)
  ·rcases List.mem_cons.1 h with rfl | h
   ·exact .inl rfl
   ·exact .inr h
theorem at_len (A : List CV) (x : CV) (T : List CV) : (A ++ x :: T)[A.length]? = some x := by rw [List.getElem?_append_right (Nat.le_refl _), Nat.sub_self]; rfl
theorem at_len1 (A : List CV) (y x : CV) (T : List CV) : (A ++ y :: x :: T)[A.length + 1]? = some x := by rw [List.getElem?_append_right (by omega), show A.length + 1 - A.length = 1 by omega]; rfl
theorem set_len (A : List CV) (x z : CV) (T : List CV) : (A ++ x :: T).set A.length z = A ++ z :: T := by rw [List.set_append_right _ _ (Nat.le_refl _), Nat.sub_self]; rfl
theorem set_len1 (A : List CV) (y x z : CV) (T : List CV) : (A ++ y :: x :: T).set (A.length + 1) z = A ++ y :: z :: T := by rw [List.set_append_right _ _ (by omega), show A.length + 1 - A.length = 1 by omega]; rfl
theorem ins_lp (K : Nat -> Int -> Int -> Int -> List CV -> Option Out) (m : Nat) (hm : m <= 15) (n i : Int) : ∀ (f : Nat) (A : List CV) (x : CV) (T : List CV), A.length < f -> A.length + 1 + T.length = m -> (∀ c ∈ A, W4 c) -> W4 x ->
  lpVInsert_4 K f m 0 n i ((A.length : Nat) : Int) (A ++ x :: T) = K m 0 n i ((insRev x A.reverse).reverse ++ T)
 | 0, A, x, T, h, _, _, _ => by omega
 | f + 1, A, x, T, h, hl, hA, hx => by
  show lpVInsert_4s (lpVInsert_4 K f) K m 0 n i _ _ = _
  unfold lpVInsert_4s
  rcases List.eq_nil_or_concat A with rfl | ⟨A', y, rfl⟩
  ·exact c_neg (by simp) rfl
  ·have hy := hA y (by simp)
   have ih := ins_lp K m hm n i f A' x (y :: T) (by simp at h; omega) (by simp at hl ⊢; omega) (fun c hc => hA c (by simp [hc])) hx
   generalize lpVInsert_4 K f = ag at ih ⊢
   simp only [List.length_append, List.length_singleton, List.append_assoc, List.singleton_append, List.reverse_append, List.reverse_singleton, List.concat_eq_append] at h hl ⊢
   obtain ⟨tx, bx, kx, wx, rfl, hwx⟩ := hx
   obtain ⟨ty, by', ky, wy, rfl, hwy⟩ := hy
   have e0 : (0 + Int.toNat ((A'.length + 1 : Nat) : Int)) = A'.length + 1 := by omega
   have e1 : IntKind.i64.wrap (((A'.length + 1 : Nat) : Int) - 1) = ((A'.length : Nat) : Int) := (i64_in _ (by omega)).trans (by omega)
   have e2 : (0 + Int.toNat ((A'.length : Nat) : Int)) = A'.length := by omega
   refine c_pos (by omega) (idxK_in (by omega) (by omega) ?_)
   rw [e0, at_len1, Option.bind_some]
   refine b_pos rfl ?_
   rw [e1]
   refine idxK_in (by omega) (by omega) ?_
   rw [e2, at_len, Option.bind_some]
   refine b_pos rfl (b_pos (by rw [show cvSli ((cell1 (CV.agg [.int .i64 tx, .sli .u8 bx, .slg 3 kx, .sli .u8 wx])).tail.tail.tail.headD .nili) = wx from rfl, show cvSli ((cell1 (CV.agg [.int .i64 ty, .sli .u8 by', .slg 3 ky, .sli .u8 wy])).tail.tail.tail.headD .nili) = wy from rfl, hwx, hwy]; rfl) ?_)
   have hc : listCmp wx wy = listCmpC (keyC (.agg [.int .i64 tx, .sli .u8 bx, .slg 3 kx, .sli .u8 wx])) (keyC (.agg [.int .i64 ty, .sli .u8 by', .slg 3 ky, .sli .u8 wy])) := by unfold listCmp; rw [shut_eq]; rfl
   show cond (decide (listCmp wx wy < 0)) _ _ = _
   rw [hc]
   conv => rhs; unfold insRev
   refine c_split (fun hlt => ?_) fun hlt => ?_
   ·rw [if_pos hlt]
    refine idxK_in (by omega) (by omega) ?_
    rw [Option.bind_some]
    refine b_pos (c := okInt .i64 _ && (okSli .u8 _ && (okSlg 3 _ && (okSli .u8 _ && true)))) rfl (idxK_in (by omega) (by omega) ?_)
    rw [Option.bind_some]
    refine b_pos (c := okInt .i64 _ && (okSli .u8 _ && (okSlg 3 _ && (okSli .u8 _ && true)))) rfl (idxK_in (by omega) (by omega) (idxK_in (by omega) (by omega) ?_))
    rw [set_len1, set_len, List.reverse_cons, List.append_assoc]
    exact ih
   ·rw [if_neg hlt]
    simp
abbrev vRetG : List CV -> Option Out := fun y2 => some (.ret [] [some ⟨.gen 4 y2, false⟩])
theorem outer_lp (m : Nat) (hm : m <= 15) : ∀ (f : Nat) (S R : List CV), R.length < f -> S.length + R.length = m -> (∀ c ∈ S, W4 c) -> (∀ c ∈ R, W4 c) ->
  lpVInsert_1 vRetG f m 0 ((m : Nat) : Int) ((S.length : Nat) : Int) (S ++ R) = vRetG (R.foldl (fun acc x => insRev x acc) S.reverse).reverse
 | 0, S, R, h, _, _, _ => by omega
 | f + 1, S, R, h, hl, hS, hR => by
  show lpVInsert_1s (lpVInsert_1 vRetG f) vRetG m 0 _ _ _ = _
  unfold lpVInsert_1s
  cases R with
  | nil => exact c_neg (by simp at hl; omega) (by simp)
  | cons x R =>
   simp only [List.length_cons] at h hl
   refine c_pos (by omega) ?_
   rw [shut_eq, ins_lp _ m hm _ _ FUEL S x R (by unfold FUEL; omega) (by omega) hS (hR x (by simp)), List.foldl_cons]
   have ih := outer_lp m hm f (insRev x S.reverse).reverse R (by omega) (by rw [List.length_reverse, insRev_len, List.length_reverse]; omega) (fun c hc => by
    rcases insRev_mem (List.mem_reverse.1 hc) with rfl | h
    ·exact hR c (by simp)
    ·exact hS c (List.mem_reverse.1 h)) fun c hc => hR c (List.mem_cons_of_mem _ hc)
   rw [List.length_reverse, insRev_len, List.length_reverse, List.reverse_reverse] at ih
   dsimp only
   rw [show IntKind.i64.wrap (((S.length : Nat) : Int) + 1) = ((S.length + 1 : Nat) : Int) from (i64_in _ (by omega)).trans (by omega)]
   exact ih
theorem srtOk_spec {m : Nat} {l : List CV} (h : srtOk m l = true) : m = l.length /\ l.length <= 15 /\ ∀ c ∈ l, W4 c := by
 unfold srtOk at h; rw [shut_eq] at h; exact @of_decide_eq_true _ (Classical.propDecidable _) h
theorem srtOk_of {m : Nat} {l : List CV} (h : m = l.length /\ l.length <= 15 /\ ∀ c ∈ l, W4 c) : srtOk m l = true := by
 unfold srtOk; rw [shut_eq]; exact @decide_eq_true _ (Classical.propDecidable _) h
theorem nVInsert (m : Nat) (a n : Int) (l : List CV) (hp : (srtOk m l && decide (a = 0 /\ n = (m : Int))) = true) : gVInsert m a n l = some (.ret [] [some ⟨.gen 4 (vSort l), false⟩]) := by
 rw [Bool.and_eq_true, decide_eq_true_eq] at hp
 obtain ⟨h1, rfl, rfl⟩ := hp
 obtain ⟨rfl, h2, h3⟩ := srtOk_spec h1
 unfold gVInsert vSort vSortC
 rw [shut_eq, shut_eq]
 dsimp only
 rw [show IntKind.i64.wrap (0 + 1) = 1 from rfl]
 cases l with
 | nil =>
  have key : ∀ f, 0 < f -> lpVInsert_1 vRetG f 0 0 0 1 [] = vRetG [] := fun f hf => by
   obtain ⟨f, rfl⟩ : ∃ g, f = g + 1 := ⟨f - 1, by omega⟩
   show lpVInsert_1s (lpVInsert_1 vRetG f) vRetG 0 0 0 1 [] = _
   unfold lpVInsert_1s
   exact c_neg (by omega) rfl
  exact key FUEL (by unfold FUEL; omega)
 | cons x r =>
  have := outer_lp (x :: r).length h2 FUEL [x] r (by simp at h2; unfold FUEL; omega) (by simp; omega) (fun c hc => h3 c (by simp at hc; simp [hc])) fun c hc => h3 c (by simp [hc])
  exact this
theorem nVStable (m : Nat) (n : Int) (l : List CV) (hp : (srtOk m l && decide (n = (m : Int))) = true) : gVStable m n l = some (.ret [] [some ⟨.gen 4 (vSort l), false⟩]) := by
 rw [Bool.and_eq_true, decide_eq_true_eq] at hp
 obtain ⟨h1, rfl⟩ := hp
 obtain ⟨hm, h2, h3⟩ := srtOk_spec h1
 unfold gVStable
 simp only [shut_eq]
 have k2 : ∀ (K : Nat -> Int -> Int -> List CV -> Option Out) (f : Nat), 0 < f -> lpVStable_2 K f m ((m : Nat) : Int) 0 20 l = K m ((m : Nat) : Int) 0 l := fun K f hf => by
  obtain ⟨f, rfl⟩ : ∃ g, f = g + 1 := ⟨f - 1, by omega⟩
  show lpVStable_2s (lpVStable_2 K f) K m _ 0 20 l = _
  unfold lpVStable_2s
  exact c_neg (by omega) rfl
 have k7 : ∀ (K : List CV -> Option Out) (f : Nat), 0 < f -> lpVStable_7 K f m ((m : Nat) : Int) 20 (vSort l) = K (vSort l) := fun K f hf => by
  obtain ⟨f, rfl⟩ : ∃ g, f = g + 1 := ⟨f - 1, by omega⟩
  show lpVStable_7s (lpVStable_7 K f) K m _ 20 (vSort l) = _
  unfold lpVStable_7s
  exact c_neg (by omega) rfl
 rw [k2 _ FUEL (by unfold FUEL; omega)]
 refine b_pos (by rw [h1]; simp) ?_
 exact k7 _ FUEL (by unfold FUEL; omega)
theorem nVSort (m : Nat) (l : List CV) (hp : srtOk m l = true) : gVSort m l = some (.ret [] [some ⟨.gen 4 (vSort l), false⟩]) := b_pos (by rw [hp]; simp) rfl
end Go.Proofs.YtfkpjbbkdkcdcabDoorA

namespace Go.Proofs.YtfkpjbbkdkcdcabDoorA
open IntWalk (i64_in u8_in u32_in u64_in i64_quo u8_quo rem_in)

abbrev W3 (c : CV) : Prop := ∃ t b k, c = .agg [.int .i64 t, .sli .u8 b, .slg 3 k] /\ isS [.int .i64 t, .sli .u8 b, .slg 3 k] = true
theorem setOk_spec {l : List CV} (h : setOk l = true) : l.length <= 15 /\ ∀ c ∈ l, W3 c := by
 unfold setOk at h; rw [shut_eq] at h; exact @of_decide_eq_true _ (Classical.propDecidable _) h
theorem setOk_of {l : List CV} (h : l.length <= 15 /\ ∀ c ∈ l, W3 c) : setOk l = true := by
 unfold setOk; rw [shut_eq]; exact @decide_eq_true _ (Classical.propDecidable _) h
theorem withBytes_W4 {c : CV} (h : W3 c) : W4 (withBytes c) := by
 obtain ⟨t, b, k, rfl, hs⟩ := h
 refine ⟨t, b, k, _, rfl, ?_⟩
 obtain ⟨n, hn, hB⟩ := isS_spec hs
 show bytesOk (ndBytes [.int .i64 t, .sli .u8 b, .slg 3 k]).1 = true
 rw [ndBytes_eq hn]
 split
 ·rename_i hok
  have h1 := bytes_len hn
  exact bytesOk_of (by show (bytesF n _).1.length <= _; omega) (bytes_byte hn hB hok.1)
 ·exact bytesOk_of (by simp) (by simp)
abbrev zero4 : CV := .agg [.int .i64 0, .sli .u8 [], .slg 3 [], .sli .u8 []]
abbrev bad2 : Option Out := some (.ret [.cl (.agg [.int .i64 0, .sli .u8 [], .slg 3 []]), .cl (.int .i64 1)] [])
theorem set_lp (K : Nat -> List CV -> Option Out) (l : List CV) (hl : l.length <= 15) (hw : ∀ c ∈ l, W3 c) : ∀ (f : Nat) (A R : List CV), R.length < f -> l = A ++ R -> (∀ c ∈ A, (ndBytes (cell1 c)).2 = 0) ->
  lpVSet_3 bad2 K f l.length l ((l.length : Nat) : Int) ((A.length : Nat) : Int) (A.map withBytes ++ List.replicate R.length zero4) =
   if l.all (fun c => decide ((ndBytes (cell1 c)).2 = 0)) = true then K l.length (l.map withBytes) else bad2
 | 0, A, R, h, _, _ => by omega
 | f + 1, A, R, h, hAR, hA => by
  show lpVSet_3s (lpVSet_3 bad2 K f) bad2 K _ l _ _ _ = _
  unfold lpVSet_3s
  cases R with
  | nil =>
   have e : l = A := by simpa using hAR
   subst e
   refine c_neg (by omega) ?_
   rw [if_pos (by rw [List.all_eq_true]; exact fun c hc => decide_eq_true (hA c hc))]
   simp
  | cons c R =>
   have hc : l[A.length]? = some c := by rw [hAR]; exact at_len A c R
   have ih := set_lp K l hl hw f (A ++ [c]) R (by simp at h; omega) (by simp [hAR])
   generalize lpVSet_3 bad2 K f = ag at ih ⊢
   have hlen : l.length = A.length + (R.length + 1) := by rw [hAR]; simp
   obtain ⟨t, b, k, rfl, hs⟩ := hw c (by rw [hAR]; simp)
   refine c_pos (by omega) (getK_in (by omega) hc ?_)
   dsimp only
   refine b_pos (c := okInt .i64 _ && (okSli .u8 _ && (okSlg 3 _ && true))) rfl (b_pos hs ?_)
   show cond (!decide ((ndBytes [.int .i64 t, .sli .u8 b, .slg 3 k]).2 = 0)) _ _ = _
   refine c_nsplit (fun hn => ?_) fun hn => idxK_in (by omega) (by omega) ?_
   ·rw [if_neg]
    intro h
    rw [List.all_eq_true] at h
    exact hn (of_decide_eq_true (h _ (List.mem_of_getElem? hc)))
   ·rw [show (0 + Int.toNat ((A.length : Nat) : Int)) = (A.map withBytes).length by simp, List.length_cons, List.replicate_succ, set_len, show IntKind.i64.wrap (((A.length : Nat) : Int) + 1) = ((A.length + 1 : Nat) : Int) from (i64_in _ (by omega)).trans (by omega)]
    have ih := ih (fun c hc => by
     rcases List.mem_append.1 hc with h | h
     ·exact hA c h
     ·rw [List.mem_singleton.1 h]; exact hn)
    rw [List.map_append, List.length_append, List.append_assoc] at ih
    exact ih
/-- the node of a written one -/
def nodeOf (c : CV) : CV := .agg ((cell1 c).take 3)
theorem out_lp (m : Nat) (hm : m <= 15) (L : List CV) (hL : L.length = m) (hw : ∀ c ∈ L, W4 c) (K : Nat -> List CV -> Option Out) : ∀ (f : Nat) (A R : List CV), R.length < f -> L = A ++ R ->
  lpVSet_13 K f m ((m : Nat) : Int) ((A.length : Nat) : Int) A.length L (A.map nodeOf) = K m (L.map nodeOf)
 | 0, A, R, h, _ => by omega
 | f + 1, A, R, h, hAR => by
  show lpVSet_13s (lpVSet_13 K f) K m _ _ _ L _ = _
  unfold lpVSet_13s
  cases R with
  | nil =>
   have e : L = A := by simpa using hAR
   subst e
   refine c_neg (by omega) ?_
   rw [hL]
  | cons c R =>
   have hc : L[A.length]? = some c := by rw [hAR]; exact at_len A c R
   have ih := out_lp m hm L hL hw K f (A ++ [c]) R (by simp at h; omega) (by simp [hAR])
   generalize lpVSet_13 K f = ag at ih ⊢
   have hlen : L.length = A.length + (R.length + 1) := by rw [hAR]; simp
   obtain ⟨t, b, k, w, rfl, _⟩ := hw c (by rw [hAR]; simp)
   refine c_pos (by omega) (idxK_in (by omega) (by omega) ?_)
   rw [show (0 + Int.toNat ((A.length : Nat) : Int)) = A.length by omega, hc, Option.bind_some]
   refine b_pos (c := okInt .i64 _ && (okSli .u8 _ && (okSlg 3 _ && (okSli .u8 _ && true)))) rfl ?_
   dsimp only
   refine rmK_in (by simp; omega) (by simp; omega) ?_
   rw [show IntKind.i64.wrap (((A.length : Nat) : Int) + 1) = ((A.length + 1 : Nat) : Int) from (i64_in _ (by omega)).trans (by omega)]
   rw [List.map_append, List.length_append] at ih
   simp only [List.length_append, List.length_map]
   exact ih
theorem sort_mem {l : List CV} : ∀ c ∈ vSortC l, c ∈ l := by
 have key : ∀ (l acc : List CV), ∀ c ∈ l.foldl (fun acc x => insRev x acc) acc, c ∈ l \/ c ∈ acc := by
  intro l
  induction l with
  | nil => intro acc c h; exact .inr h
  | cons x r ih =>
   intro acc c h
   rcases ih _ c h with h | h
   ·exact .inl (List.mem_cons_of_mem _ h)
   ·rcases insRev_mem h with rfl | h
    ·exact .inl (by simp)
    ·exact .inr h
 intro c hc
 rcases key l [] c (List.mem_reverse.1 hc) with h | h
 ·exact h
 ·simp at h
theorem sort_len (l : List CV) : (vSortC l).length = l.length := by
 have key : ∀ (l acc : List CV), (l.foldl (fun acc x => insRev x acc) acc).length = l.length + acc.length := by
  intro l
  induction l with
  | nil => intro acc; simp
  | cons x r ih => intro acc; rw [List.foldl_cons, ih, insRev_len, List.length_cons]; omega
 unfold vSortC
 rw [List.length_reverse, key]
 simp
theorem nVSet (l : List CV) (hp : setOk l = true) : gVSet l = some (.ret [.cl (.agg [.int .i64 (vSet l).1, .sli .u8 noInts, .slg 3 (vSet l).2.1]), .cl (.int .i64 (vSet l).2.2)] []) := by
 obtain ⟨hl, hw⟩ := setOk_spec hp
 unfold gVSet
 refine c_pos (by omega) (c_pos (by omega) (c_pos (by unfold LIM; omega) (c_pos (by unfold LIM; omega) ?_)))
 rw [shut_eq, show (((l.length : Nat) : Int)).toNat = l.length from rfl]
 refine (set_lp _ l hl hw FUEL [] l (by unfold FUEL; omega) rfl (fun c hc => by simp at hc)).trans ?_
 unfold vSet vSetC noInts
 simp only [shut_eq]
 split
 ·have hW : ∀ c ∈ l.map withBytes, W4 c := fun c hc => by
   obtain ⟨x, hx, rfl⟩ := List.mem_map.1 hc
   exact withBytes_W4 (hw x hx)
  refine b_pos (srtOk_of ⟨by simp, by simpa using hl, hW⟩) ?_
  dsimp only
  unfold vSort
  simp only [shut_eq]
  exact out_lp l.length hl (vSortC (l.map withBytes)) (by rw [sort_len, List.length_map]) (fun c hc => hW c (sort_mem c hc)) _ FUEL [] (vSortC (l.map withBytes)) (by rw [sort_len, List.length_map]; unfold FUEL; omega) rfl
 ·rfl
end Go.Proofs.YtfkpjbbkdkcdcabDoorA

namespace Go.Proofs.YtfkpjbbkdkcdcabDoorA
open IntWalk (i64_in u8_in u32_in u64_in i64_quo u8_quo rem_in)

theorem leaf_bytes {g : Int} {b : List Int} (hb : ∀ x ∈ b, 0 <= x /\ x <= 255) (hg : derBoxedC g = false) : ndBytes [.int .i64 g, .sli .u8 b, .slg 3 []] = if (derKnownC g && derFitsC g b) = true then (derHeadC g b.length ++ b, 0) else ([], 1) := by
 rw [ndBytes_eq (leaf_tf hb)]
 unfold okF bytesF
 simp [hg]
theorem noKids_eq : noKids = [] := shut_eq _
theorem vInt_2 : vInt 2 = [2] := by unfold vInt; rw [shut_eq]; rfl
theorem vInt_1 : vInt 1 = [1] := by unfold vInt; rw [shut_eq]; rfl
theorem vInt_128 : vInt 128 = [0, 128] := by unfold vInt; rw [shut_eq]; rfl
theorem vInt_m1 : vInt (-1) = [255] := by unfold vInt; rw [shut_eq]; rfl
abbrev nI (z : Int) : List CV := [.int .i64 2, .sli .u8 [z], .slg 3 []]
theorem nI_isS {z : Int} (h : 0 <= z /\ z <= 255) : isS (nI z) = true := leaf_isS (fun x hx => by simp at hx; omega) (by simp)
theorem nI_bytes {z : Int} (h : 0 <= z /\ z <= 255) : ndBytes (nI z) = ([2, 1, z], 0) := (leaf_bytes (fun x hx => by simp at hx; omega) rfl).trans rfl
theorem set_two : vSet [.agg (nI 2), .agg (nI 1)] = (49, [.agg (nI 1), .agg (nI 2)], 0) := by
 have b2 := nI_bytes (z := 2) (by decide)
 have b1 := nI_bytes (z := 1) (by decide)
 unfold vSet vSetC
 rw [shut_eq, if_pos (by show (decide ((ndBytes (nI 2)).2 = 0) && (decide ((ndBytes (nI 1)).2 = 0) && true)) = true; rw [b2, b1]; rfl)]
 have w2 : withBytes (.agg (nI 2)) = .agg (nI 2 ++ [.sli .u8 [2, 1, 2]]) := by unfold withBytes; rw [show cell1 (.agg (nI 2)) = nI 2 from rfl, b2]
 have w1 : withBytes (.agg (nI 1)) = .agg (nI 1 ++ [.sli .u8 [2, 1, 1]]) := by unfold withBytes; rw [show cell1 (.agg (nI 1)) = nI 1 from rfl, b1]
 rw [List.map_cons, List.map_cons, List.map_nil, w2, w1]
 rfl
theorem same_refl (l : List Int) : listSame l l = true := by unfold listSame listSameC; rw [shut_eq]; exact decide_eq_true rfl
theorem nVAwake (hp : true = true) : gVAwake = some (.ret [.cl (.bool true)] []) := by
 unfold gVAwake
 rw [vInt_2, vInt_1, vInt_128, vInt_m1, noKids_eq]
 dsimp only
 have e4 : (vIntOf 5 [] []).2 = 4 := by unfold vIntOf; rw [shut_eq]; rfl
 rw [set_two, e4]
 refine b_pos (leaf_isS (by simp) (by simp)) (b_pos rfl (b_pos rfl (b_pos (setOk_of ⟨by simp, fun c hc => ?_⟩) (b_pos rfl (b_pos (lenOk_of (by simp)) (b_pos (same_refl _) (b_pos rfl (b_pos (lenOk_of (by simp)) (b_pos (same_refl _) ?_)))))))))
 ·simp only [List.mem_cons, List.mem_nil_iff, or_false] at hc
  rcases hc with rfl | rfl
  ·exact ⟨_, _, _, rfl, nI_isS (z := 2) (by decide)⟩
  ·exact ⟨_, _, _, rfl, nI_isS (z := 1) (by decide)⟩
 ·refine c_pos rfl (c_pos rfl (c_pos rfl (c_pos (by decide) ?_)))
  rw [List.getElem?_cons_zero, Option.bind_some]
  refine b_pos (c := okInt .i64 _ && (okSli .u8 _ && (okSlg 3 _ && true))) rfl (b_pos rfl ?_)
  have hN : isN (nI 1) = true := isN_isS (nI_isS (by decide))
  refine b_pos (by show (isN (nI 1) && isN (nI 1)) = true; rw [hN]; rfl) (ret_bool ?_)
  show ndSame (nI 1) (nI 1) = true
  unfold ndSame
  rw [shut_eq]
  exact @decide_eq_true _ (Classical.propDecidable _) rfl
theorem vSmall_isS {a : List CV} (h : isT a = true) (h0 : vSmall a = true) : isS a = true := by
 obtain ⟨n, hn⟩ := isT_spec h
 unfold vSmall at h0
 rw [shut_eq, ndSmall_eq hn, decide_eq_true_eq] at h0
 have := small_bulk hn 2000 (by omega) (by omega)
 exact isS_of hn (by omega)
end Go.Proofs.YtfkpjbbkdkcdcabDoorA

namespace Go.Proofs.YtfkpjbbkdkcdcabDoorA
open IntWalk (i64_in u8_in u32_in u64_in i64_quo u8_quo rem_in)

theorem madeOk_spec {g : Int} {b : List Int} (h : madeOk g b = true) : (g = 12 \/ g = 6 \/ g = 24) /\ b.length <= 2000 /\ ∀ x ∈ b, 0 <= x /\ x <= 255 := by
 unfold madeOk at h
 rw [shut_eq, Bool.and_eq_true, decide_eq_true_eq, List.all_eq_true] at h
 exact ⟨h.1.1, h.1.2, fun x hx => byteB_spec (h.2 x hx)⟩
theorem madeOk_of {g : Int} {b : List Int} (h : g = 12 \/ g = 6 \/ g = 24) (h' : b.length <= 2000) (hb : ∀ x ∈ b, 0 <= x /\ x <= 255) : madeOk g b = true := by
 unfold madeOk
 rw [shut_eq, Bool.and_eq_true, decide_eq_true_eq, List.all_eq_true]
 exact ⟨⟨h, h'⟩, fun x hx => decide_eq_true (hb x hx)⟩
theorem vMade_ok {g : Int} {b : List Int} (h : derFitsC g b = true) : vMade g b = (g, b, 0) := by unfold vMade vMadeC; rw [shut_eq, if_pos h]
theorem vMade_no {g : Int} {b : List Int} (h : derFitsC g b = false) : vMade g b = (0, [], 5) := by unfold vMade vMadeC; rw [shut_eq, if_neg (by rw [h]; simp)]
theorem nVMade (g : Int) (b : List Int) (hp : madeOk g b = true) : gVMade g b = some (.ret [.cl (.agg [.int .i64 (vMade g b).1, .sli .u8 (vMade g b).2.1, .slg 3 noKids]), .cl (.int .i64 (vMade g b).2.2)] []) := by
 obtain ⟨hg, hl, hb⟩ := madeOk_spec hp
 have hk : derKnownC g = true /\ derBoxedC g = false := by rcases hg with rfl | rfl | rfl <;> exact ⟨rfl, rfl⟩
 unfold gVMade
 refine b_pos (leaf_isS hb (by omega)) ?_
 rw [leaf_fit hb hk.2, hk.1, Bool.true_and, noKids_eq]
 cases hd : derFitsC g b with
 | false => rw [vMade_no hd]; rfl
 | true => rw [vMade_ok hd]; rfl
theorem bytesOf_byte {s : ByteArray} : ∀ x ∈ bytesOf s, 0 <= x /\ x <= 255 := fun x hx => by
 obtain ⟨u, _, rfl⟩ := List.mem_map.1 hx
 have := u.toNat_lt
 omega
theorem utfOk_spec {s : ByteArray} (h : utfOk s = true) : s.size <= 2000 := by unfold utfOk at h; rw [shut_eq] at h; exact of_decide_eq_true h
theorem utfOk_of {s : ByteArray} (h : s.size <= 2000) : utfOk s = true := by unfold utfOk; rw [shut_eq]; exact decide_eq_true h
theorem utf_made {s : ByteArray} (h : utfOk s = true) : madeOk 12 (bytesOf s) = true := madeOk_of (.inl rfl) (by rw [bytesOf_length]; exact utfOk_spec h) bytesOf_byte
theorem nVUtf8 (s : ByteArray) (hp : utfOk s = true) : gVUtf8 s = some (.ret [.cl (.agg [.int .i64 (vMade 12 (bytesOf s)).1, .sli .u8 (vMade 12 (bytesOf s)).2.1, .slg 3 noKids]), .cl (.int .i64 (vMade 12 (bytesOf s)).2.2)] []) := b_pos (utf_made hp) rfl
theorem idOk_spec {o : List Int} (h : idOk o = true) : o.length <= 50 /\ ∀ n ∈ o, inU n := by
 unfold idOk at h
 rw [shut_eq, Bool.and_eq_true, decide_eq_true_eq, List.all_eq_true] at h
 exact ⟨h.1, fun x hx => of_decide_eq_true (h.2 x hx)⟩
theorem idOk_of {o : List Int} (h : o.length <= 50) (h' : ∀ n ∈ o, inU n) : idOk o = true := by
 unfold idOk
 rw [shut_eq, Bool.and_eq_true, decide_eq_true_eq, List.all_eq_true]
 exact ⟨h, fun x hx => decide_eq_true (h' x hx)⟩
theorem id_u32 {o : List Int} (h : idOk o = true) : u32sOk o = true := by
 obtain ⟨h1, h2⟩ := idOk_spec h
 unfold u32sOk
 rw [shut_eq, Bool.and_eq_true, decide_eq_true_eq, List.all_eq_true]
 exact ⟨by omega, fun x hx => decide_eq_true (h2 x hx)⟩
theorem fit_lenV {o : List Int} (h : oidFitC o = true) : 2 <= o.length /\ o.length <= 20 := by
 unfold oidFitC at h
 split at h
 ·simp at h
  simp
  omega
 ·cases h
theorem oid_bytes {o : List Int} (hr : ∀ n ∈ o, inU n) : (oidBytes o).length <= 2000 /\ ∀ x ∈ oidBytes o, 0 <= x /\ x <= 255 := by
 rw [show oidBytes o = oidBytesC o from shut_eq _]
 by_cases h : oidFitC o = true
 ·rw [bytes_oflat h]
  have hl := oflat_len h
  have hf := fit_lenV h
  have hg : ∀ (l : List Int), (l.flatMap oidGroupsC).length <= 6 * l.length := fun l => by
   induction l with
   | nil => simp
   | cons a l ih => have := gr_len a; simp at *; omega
  have := hg (oflat o)
  refine ⟨by omega, fun x hx => ?_⟩
  obtain ⟨n, hn, hx⟩ := List.mem_flatMap.1 hx
  exact gr_byte (oflat_rng h hr n hn) x hx
 ·unfold oidBytesC
  rw [if_neg h]
  exact ⟨by simp, by simp⟩
theorem id_made {o : List Int} (h : idOk o = true) : madeOk 6 (oidBytes o) = true :=
 let ⟨h1, h2⟩ := oid_bytes (idOk_spec h).2
 madeOk_of (.inr (.inl rfl)) h1 h2
theorem nVId (o : List Int) (hp : idOk o = true) : gVId o = some (.ret [.cl (.agg [.int .i64 (vMade 6 (oidBytes o)).1, .sli .u8 (vMade 6 (oidBytes o)).2.1, .slg 3 noKids]), .cl (.int .i64 (vMade 6 (oidBytes o)).2.2)] []) := b_pos (id_u32 hp) (b_pos (id_made hp) rfl)
theorem text_size (t : Int) : (stText t).size <= 15 := by
 unfold stText
 split
 ·rw [strOf_size]; exact Nat.le_of_eq rfl
 ·rw [strOf_size]; simp
theorem time_made (t : Int) : madeOk 24 (bytesOf (stText t)) = true := madeOk_of (.inr (.inr rfl)) (by rw [bytesOf_length]; have := text_size t; omega) bytesOf_byte
theorem nVTime (t : Int) (hp : stI64 t = true) : gVTime t = some (.ret [.cl (.agg [.int .i64 (vMade 24 (bytesOf (stText t))).1, .sli .u8 (vMade 24 (bytesOf (stText t))).2.1, .slg 3 noKids]), .cl (.int .i64 (vMade 24 (bytesOf (stText t))).2.2)] []) := b_pos hp (b_pos (time_made t) rfl)
theorem nVBytes (b : List Int) (hp : lenOk b = true) : gVBytes b = some (.ret [.cl (.agg [.int .i64 4, .sli .u8 b, .slg 3 noKids])] []) := by rw [noKids_eq]; exact b_pos hp rfl
theorem ndSame_refl (a : List CV) : ndSame a a = true := by
 unfold ndSame
 rw [shut_eq]
 exact @decide_eq_true _ (Classical.propDecidable _) rfl
theorem trim_facts : ∀ (l : List Int), (trimF l).length <= l.length /\ ∀ x ∈ trimF l, x ∈ l
 | [] => ⟨Nat.le_refl _, fun x h => h⟩
 | [a] => ⟨Nat.le_refl _, fun x h => h⟩
 | a :: b :: r => by
  unfold trimF
  split
  ·obtain ⟨h1, h2⟩ := trim_facts (b :: r)
   exact ⟨by simp only [List.length_cons] at *; omega, fun x hx => List.mem_cons_of_mem _ (h2 x hx)⟩
  ·exact ⟨Nat.le_refl _, fun x h => h⟩
theorem int_facts (n : Int) : (vInt n).length <= 8 /\ ∀ x ∈ vInt n, 0 <= x /\ x <= 255 := by
 unfold vInt vIntC
 rw [shut_eq]
 obtain ⟨h1, h2⟩ := trim_facts (vLeC (n % 18446744073709551616)).reverse
 refine ⟨by rw [List.length_reverse] at h1; exact h1, fun x hx => ?_⟩
 have := List.mem_reverse.1 (h2 x hx)
 unfold vLeC at this
 simp only [List.mem_cons, List.mem_nil_iff, or_false] at this
 omega
end Go.Proofs.YtfkpjbbkdkcdcabDoorA

namespace Go.Proofs.YtfkpjbbkdkcdcabDoorA
open IntWalk (i64_in u8_in u32_in u64_in i64_quo u8_quo rem_in)

theorem lenOkC_spec {l : List CV} (h : lenOkC l = true) : l.length <= 100000000 := by unfold lenOkC at h; rw [shut_eq] at h; exact of_decide_eq_true h
theorem lenOkC_of {l : List CV} (h : l.length <= 100000000) : lenOkC l = true := by unfold lenOkC; rw [shut_eq]; exact decide_eq_true h
theorem noInts_eq : noInts = [] := shut_eq _
theorem nVClone (l : List CV) (hp : lenOkC l = true) : gVClone l = some (.ret [.cl (.slg 3 l)] []) := by
 have hp := lenOkC_spec hp
 unfold gVClone
 simp only [List.nil_append]
 refine b_split (fun h => ?_) fun h => ?_
 ·have h := List.eq_nil_of_length_eq_zero (beq_iff.1 h)
  subst h
  unfold bothK
  rw [if_pos (Eq.symm (rmK_in (by simp) (by simp) rfl))]
 ·exact rmK_in (by omega) (by omega) rfl
theorem nVSeq (l : List CV) (hp : lenOkC l = true) : gVSeq l = some (.ret [.cl (.agg [.int .i64 48, .sli .u8 noInts, .slg 3 l])] []) := by rw [noInts_eq]; exact b_pos hp rfl
theorem nVRSeq (l : List CV) (hp : lenOkC l = true) : gVRSeq l = some (.ret [.cl (.agg [.int .i64 48, .sli .u8 noInts, .slg 3 l])] []) := by rw [noInts_eq]; rfl
theorem vKids_tag {g t : Int} {b : List Int} {k : List CV} (h : ¬t = g) : vKids g t b k = ([], 4) := by unfold vKids vKidsC; rw [shut_eq, if_pos (.inl h)]
theorem vKids_box {g t : Int} {b : List Int} {k : List CV} (h : derBoxedC g = false) : vKids g t b k = ([], 4) := by unfold vKids vKidsC; rw [shut_eq, if_pos (.inr h)]
theorem vKids_b {g t : Int} {b : List Int} {k : List CV} (h : t = g) (hb : derBoxedC g = true) (hl : b.length ≠ 0) : vKids g t b k = ([], 5) := by
 unfold vKids vKidsC; rw [shut_eq, if_neg (by rw [hb]; rintro (e | e); exact e h; cases e), if_pos hl]
theorem vKids_k {g t : Int} {b : List Int} {k : List CV} (h : t = g) (hb : derBoxedC g = true) (hl : ¬b.length ≠ 0) : vKids g t b k = (k, 0) := by
 unfold vKids vKidsC; rw [shut_eq, if_neg (by rw [hb]; rintro (e | e); exact e h; cases e), if_neg hl]
theorem kids_eq {g t : Int} {b : List Int} {k : List CV} {bad : Int -> Option Out} {good : Option Out} :
  cond (!decide (t = g)) (bad 4) (cond (!derBoxed g) (bad 4) (cond (decide ((0 : Int) < ((b.length : Nat) : Int))) (bad 5) good)) = if (vKids g t b k).2 = 0 then good else bad (vKids g t b k).2 := by
 unfold derBoxed
 rw [shut_eq]
 refine c_nsplit (fun h => ?_) fun h => ?_
 ·rw [vKids_tag h]; rfl
 ·cases hb : derBoxedC g with
  | false => rw [vKids_box hb]; rfl
  | true =>
   refine (c_split (fun h' => ?_) fun h' => ?_ : cond (decide ((0 : Int) < ((b.length : Nat) : Int))) (bad 5) good = _)
   ·rw [vKids_b h hb (by omega)]; rfl
   ·rw [vKids_k h hb (by omega)]; rfl
theorem vKids_ok {g t : Int} {b : List Int} {k : List CV} (h : (vKids g t b k).2 = 0) : (vKids g t b k).1 = k := by
 unfold vKids vKidsC at h ⊢
 simp only [shut_eq] at h ⊢
 split at h
 ·simp at h
 ·split at h
  ·simp at h
  ·rename_i h1 h2; rw [if_neg h1, if_neg h2]
theorem vKids_no {g t : Int} {b : List Int} {k : List CV} (h : ¬(vKids g t b k).2 = 0) : (vKids g t b k).1 = [] := by
 unfold vKids vKidsC at h ⊢
 simp only [shut_eq] at h ⊢
 split
 ·rfl
 ·split
  ·rfl
  ·rename_i h1 h2; rw [if_neg h1, if_neg h2] at h; simp at h
theorem nVKids (t : Int) (b : List Int) (k : List CV) (g : Int) (hp : lenOkC k = true) : gVKids t b k g = some (.ret [.cl (.slg 3 (vKids g t b k).1), .cl (.int .i64 (vKids g t b k).2)] []) := by
 unfold gVKids
 refine (kids_eq (k := k) (bad := fun e => some (.ret [.cl (.slg 3 []), .cl (.int .i64 e)] []))).trans ?_
 by_cases h : (vKids g t b k).2 = 0
 ·rw [if_pos h, vKids_ok h, h]; exact b_pos hp rfl
 ·rw [if_neg h, vKids_no h]
theorem isTs_spec {l : List CV} (h : isTs l = true) : ∀ c ∈ l, ∃ t b k, c = .agg [.int .i64 t, .sli .u8 b, .slg 3 k] /\ isT [.int .i64 t, .sli .u8 b, .slg 3 k] = true := by
 unfold isTs at h
 rw [shut_eq] at h
 have h := @of_decide_eq_true _ (Classical.propDecidable _) h
 intro c hc
 obtain ⟨a, rfl, ha⟩ := h c hc
 obtain ⟨n, hn⟩ := isT_spec ha
 obtain ⟨_, t, b, k, _, e, _⟩ := tf_inv hn
 subst e
 exact ⟨t, b, k, rfl, ha⟩
theorem drop_consV {α : Type} {l : List α} {i : Nat} {x : α} (h : l[i]? = some x) : l.drop i = x :: l.drop (i + 1) := by
 obtain ⟨hi, e⟩ := List.getElem?_eq_some_iff.1 h
 rw [List.drop_eq_getElem_cons hi, e]
theorem few_lp (K0 K1 : Option Out) (l : List CV) (hl : l.length <= 10) (hT : ∀ c ∈ l, ∃ t b k, c = .agg [.int .i64 t, .sli .u8 b, .slg 3 k] /\ isT [.int .i64 t, .sli .u8 b, .slg 3 k] = true) : ∀ (f i : Nat), l.length < f + i -> i <= l.length ->
  lpVFew_4 K0 K1 f l ((l.length : Nat) : Int) ((i : Nat) : Int) = cond ((l.drop i).all fun c => vSmall (cell1 c)) K1 K0
 | 0, i, h, h' => by omega
 | f + 1, i, h, h' => by
  show lpVFew_4s (lpVFew_4 K0 K1 f) K0 K1 l _ _ = _
  unfold lpVFew_4s
  have ih := few_lp K0 K1 l hl hT f (i + 1) (by omega)
  generalize lpVFew_4 K0 K1 f = ag at ih ⊢
  refine c_split (fun hi => ?_) fun hi => ?_
  ·obtain ⟨c, hc⟩ := get_some (b := l) (i := i) (by omega)
   obtain ⟨t, b, k, rfl, ht⟩ := hT c (List.mem_of_getElem? hc)
   refine getK_in (by omega) hc ?_
   dsimp only
   refine b_pos (c := okInt .i64 _ && (okSli .u8 _ && (okSlg 3 _ && true))) rfl (b_pos ht ?_)
   show cond (!vSmall [.int .i64 t, .sli .u8 b, .slg 3 k]) _ _ = _
   rw [drop_consV hc, List.all_cons]
   show _ = cond (vSmall [.int .i64 t, .sli .u8 b, .slg 3 k] && _) _ _
   cases vSmall [.int .i64 t, .sli .u8 b, .slg 3 k] with
   | false => rfl
   | true =>
    show ag l _ _ = _
    rw [show IntKind.i64.wrap (((i : Nat) : Int) + 1) = ((i + 1 : Nat) : Int) from (i64_in _ (by omega)).trans (by omega)]
    exact ih (by omega)
  ·rw [List.drop_eq_nil_of_le (by omega)]; rfl
theorem nVFew (l : List CV) (hp : isTs l = true) : gVFew l = some (.ret [.cl (.bool (vFew l))] []) := by
 have hT := isTs_spec hp
 unfold gVFew vFew
 simp only [shut_eq]
 refine c_split (fun h => ?_) fun h => ?_
 ·rw [decide_eq_false (by omega)]; rfl
 ·rw [decide_eq_true (show l.length <= 10 by omega), Bool.true_and]
  refine (few_lp _ _ l (by omega) hT FUEL 0 (by unfold FUEL; omega) (by omega)).trans ?_
  rw [List.drop_zero]
  cases l.all fun c => vSmall (cell1 c) <;> rfl
theorem vFew_spec {l : List CV} (h : isTs l = true) (hf : vFew l = true) : setOk l = true /\ l.length <= 10 := by
 unfold vFew at hf
 rw [shut_eq, Bool.and_eq_true, decide_eq_true_eq, List.all_eq_true] at hf
 refine ⟨setOk_of ⟨by omega, fun c hc => ?_⟩, hf.1⟩
 obtain ⟨t, b, k, rfl, ht⟩ := isTs_spec h c hc
 exact ⟨t, b, k, rfl, vSmall_isS ht (hf.2 _ hc)⟩
end Go.Proofs.YtfkpjbbkdkcdcabDoorA

namespace Go.Proofs.YtfkpjbbkdkcdcabDoorA
open IntWalk (i64_in u8_in u32_in u64_in i64_quo u8_quo rem_in)

theorem cmp_eq : ∀ (a b : List Int), listCmpC a b <= 0 -> listCmpC b a <= 0 -> a = b
 | [], [], _, _ => rfl
 | [], y :: b, _, h => by simp [listCmpC] at h
 | x :: a, [], h, _ => by simp [listCmpC] at h
 | x :: a, y :: b, h1, h2 => by
  unfold listCmpC at h1 h2
  have hxy : ¬ y < x := fun e => by rw [if_neg (by omega), if_pos e] at h1; omega
  have hyx : ¬ x < y := fun e => by rw [if_neg (by omega), if_pos e] at h2; omega
  obtain rfl : x = y := by omega
  simp only [Int.lt_irrefl, if_false] at h1 h2
  rw [cmp_eq a b h1 h2]
/-! ### the document's set -/
end Go.Proofs.YtfkpjbbkdkcdcabDoorA

namespace Go.Proofs.YtfkpjbbkdkcdcabDoorA
open IntWalk (i64_in u8_in u32_in u64_in i64_quo u8_quo rem_in)

theorem nf_mk {n : Nat} {t : Int} {b : List Int} {l : List CV} (h1 : b.length <= 100000000) (h2 : l.length <= 100000000) (h3 : ∀ c ∈ l, ∃ y, c = .agg y /\ isNf n y = true) : isNf (n + 1) [.int .i64 t, .sli .u8 b, .slg 3 l] = true := by
 show (decide (b.length <= 100000000) && (decide (l.length <= 100000000) && l.all fun c => match c with | .agg x => isNf n x | _ => false)) = true
 rw [decide_eq_true h1, decide_eq_true h2, Bool.true_and, Bool.true_and, List.all_eq_true]
 intro c hc
 obtain ⟨y, rfl, hy⟩ := h3 c hc
 exact hy
theorem nf_mono : ∀ {k m : Nat} {y : List CV}, isNf k y = true -> k <= m -> isNf m y = true
 | 0, m, y, hy, _ => by simp [isNf] at hy
 | k + 1, m, y, hy, hkm => by
  obtain ⟨m, rfl⟩ : ∃ q, m = q + 1 := ⟨m - 1, by omega⟩
  obtain ⟨k', t, b, l, e, rfl, h1, h2, h3⟩ := nd_inv hy
  obtain rfl : k = k' := by omega
  refine nf_mk h1 h2 fun c hc => ?_
  obtain ⟨z, rfl, hz⟩ := h3 c hc
  exact ⟨z, rfl, nf_mono hz (by omega)⟩
theorem list_max {α : Type} {P : Nat -> α -> Prop} (hm : ∀ n m x, P n x -> n <= m -> P m x) : ∀ (l : List α), (∀ c ∈ l, ∃ n, P n c) -> ∃ n, ∀ c ∈ l, P n c
 | [], _ => ⟨0, fun c hc => by simp at hc⟩
 | x :: r, h => by
  obtain ⟨n, hn⟩ := h x (by simp)
  obtain ⟨m, hm'⟩ := list_max hm r fun c hc => h c (by simp [hc])
  refine ⟨max n m, fun c hc => ?_⟩
  rcases List.mem_cons.1 hc with rfl | hc
  ·exact hm _ _ _ hn (by omega)
  ·exact hm _ _ _ (hm' c hc) (by omega)
theorem node_isN {t : Int} {l : List CV} (h1 : l.length <= 100000000) (h : ∀ c ∈ l, ∃ y, c = .agg y /\ isN y = true) : isN [.int .i64 t, .sli .u8 noInts, .slg 3 l] = true := by
 have : ∃ n, ∀ c ∈ l, ∃ y, c = .agg y /\ isNf n y = true := by
  refine list_max (P := fun n c => ∃ y, c = .agg y /\ isNf n y = true) (fun n m c ⟨y, e, hy⟩ hnm => ⟨y, e, nf_mono hy hnm⟩) l fun c hc => ?_
  obtain ⟨y, e, hy⟩ := h c hc
  obtain ⟨n, hn⟩ := isN_spec hy
  exact ⟨n, y, e, hn⟩
 obtain ⟨n, hn⟩ := this
 rw [noInts_eq]
 exact isN_of (nf_mk (n := n) (by simp) h1 hn)
theorem w3_isN {c : CV} (h : W3 c) : ∃ y, c = .agg y /\ isN y = true := by
 obtain ⟨t, b, k, rfl, hs⟩ := h
 exact ⟨_, rfl, isN_isS hs⟩
end Go.Proofs.YtfkpjbbkdkcdcabDoorA

namespace Go.Proofs.YtfkpjbbkdkcdcabDoorA
open IntWalk (i64_in u8_in u32_in u64_in i64_quo u8_quo rem_in)

theorem trim_fit : ∀ {l : List Int}, l ≠ [] -> derNumberC (trimF l) = true
 | [], h => absurd rfl h
 | [a], _ => rfl
 | a :: b :: r, _ => by
  unfold trimF
  split
  ·exact trim_fit (by simp)
  ·rename_i h
   show (!(decide (a = 0 /\ b < 128)) && !(decide (a = 255 /\ 128 <= b))) = true
   rw [decide_eq_false (fun e => h (.inl e)), decide_eq_false (fun e => h (.inr e))]
   rfl
end Go.Proofs.YtfkpjbbkdkcdcabDoorA
