/-
 The value layer: there and back, plainly. Conditions: each lemma's own.
-/
import Derived.Test.YtfkpjbbkdkcdcabDoorT3b
set_option linter.unusedVariables false
set_option linter.unusedSimpArgs false
set_option maxRecDepth 100000
namespace Go.Proofs.YtfkpjbbkdkcdcabDoorA
open IntWalk (i64_in u8_in u32_in u64_in i64_quo u8_quo rem_in)

theorem twos_cons (b : Int) (r : List Int) : twosC (b :: r) = if 128 <= b then bytesNumC (b :: r) - 256 ^ (r.length + 1) else bytesNumC (b :: r) := rfl
theorem twos_trim : ∀ {l : List Int}, l ≠ [] -> twosC (trimF l) = twosC l
 | [], h => absurd rfl h
 | [a], _ => rfl
 | a :: b :: r, _ => by
  unfold trimF
  split
  ·rename_i h
   rw [twos_trim (by simp), twos_cons, twos_cons, num_cons a (b :: r)]
   simp only [List.length_cons]
   have hp : (256 : Int) ^ (r.length + 1 + 1) = 256 ^ (r.length + 1) * 256 := Int.pow_succ ..
   rw [hp]
   generalize (256 : Int) ^ (r.length + 1) = z
   generalize bytesNumC (b :: r) = y
   rcases h with ⟨rfl, hb⟩ | ⟨rfl, hb⟩
   ·rw [if_neg (by omega), if_neg (by omega)]; omega
   ·rw [if_pos hb, if_pos (by omega)]; omega
  ·rfl
theorem num_be {m : Int} (h : 0 <= m /\ m < 18446744073709551616) : bytesNumC (vLeC m).reverse = m := by
 have e1 : m / 65536 = m / 256 / 256 := by omega
 have e2 : m / 16777216 = m / 256 / 256 / 256 := by omega
 have e3 : m / 4294967296 = m / 256 / 256 / 256 / 256 := by omega
 have e4 : m / 1099511627776 = m / 256 / 256 / 256 / 256 / 256 := by omega
 have e5 : m / 281474976710656 = m / 256 / 256 / 256 / 256 / 256 / 256 := by omega
 have e6 : m / 72057594037927936 = m / 256 / 256 / 256 / 256 / 256 / 256 / 256 := by omega
 unfold vLeC
 rw [e1, e2, e3, e4, e5, e6]
 show ((((((((0 * 256 + _) * 256 + _) * 256 + _) * 256 + _) * 256 + _) * 256 + _) * 256 + _) * 256 + _ : Int) = m
 clear e1 e2 e3 e4 e5 e6
 omega
theorem int_twos {n : Int} (h : stI64 n = true) : twosC (vInt n) = n := by
 have h : -9223372036854775808 <= n /\ n <= 9223372036854775807 := of_decide_eq_true h
 unfold vInt vIntC
 rw [shut_eq, twos_trim (by simp [vLeC])]
 have hm : 0 <= n % 18446744073709551616 /\ n % 18446744073709551616 < 18446744073709551616 := by omega
 unfold twosC
 rw [num_be hm]
 show (if 128 <= n % 18446744073709551616 / 72057594037927936 % 256 then n % 18446744073709551616 - 256 ^ 8 else n % 18446744073709551616) = n
 rw [show (256 : Int) ^ 8 = 18446744073709551616 from by decide]
 split <;> omega
theorem fits_int (n : Int) : derFitsC 2 (vInt n) = true := by
 show derNumberC (vInt n) = true
 unfold vInt vIntC
 rw [shut_eq]
 exact trim_fit (by simp [vLeC])
theorem int_back {n : Int} (h : stI64 n = true) : vIntOf 2 (vInt n) noKids = (n, 0) := by
 unfold vIntOf
 rw [shut_eq, if_pos (vErr_ok rfl (by rw [noKids_eq]; rfl) (fits_int n))]
 unfold vNumberC
 rw [if_neg (by have := (int_facts n).1; omega), int_twos h]
theorem bytes_back (b : List Int) : vBytesOf 4 b noKids = (b, 0) := by
 unfold vBytesOf
 rw [shut_eq, if_pos (vErr_ok rfl (by rw [noKids_eq]; rfl) (fits4 b))]
theorem kids_back (l : List CV) : vKids 48 48 noInts l = (l, 0) := vKids_k rfl rfl (by rw [noInts_eq]; simp)
theorem made_inv {g : Int} {b : List Int} (h : (vMade g b).2.2 = 0) : derFitsC g b = true /\ vMade g b = (g, b, 0) := by
 cases hd : derFitsC g b with
 | true => exact ⟨rfl, vMade_ok hd⟩
 | false => rw [vMade_no hd] at h; cases h
theorem utf_back {s : ByteArray} (h : (vMade 12 (bytesOf s)).2.2 = 0) : vUtfOf (vMade 12 (bytesOf s)).1 (vMade 12 (bytesOf s)).2.1 noKids = (s, 0) := by
 obtain ⟨h1, h2⟩ := made_inv h
 rw [h2]
 unfold vUtfOf
 rw [shut_eq, if_pos (vErr_ok rfl (by rw [noKids_eq]; rfl) h1), strOf_bytes]
theorem id_back {o : List Int} (hr : ∀ n ∈ o, inU n) (h : (vMade 6 (oidBytes o)).2.2 = 0) : vIdOf (vMade 6 (oidBytes o)).1 (vMade 6 (oidBytes o)).2.1 noKids = (o, 0) := by
 obtain ⟨h1, h2⟩ := made_inv h
 rw [h2]
 unfold vIdOf
 rw [shut_eq, if_pos (vErr_ok rfl (by rw [noKids_eq]; rfl) h1)]
 have e : oidBytes o = oidBytesC o := shut_eq _
 by_cases hf : oidFitC o = true
 ·unfold oidParse
  rw [shut_eq, e]
  exact parse_bytes hf hr
 ·rw [e] at h1
  unfold oidBytesC at h1
  rw [if_neg hf] at h1
  exact absurd h1 (by decide)
theorem time_back {t : Int} (h : (vMade 24 (bytesOf (stText t))).2.2 = 0) : vTimeOf (vMade 24 (bytesOf (stText t))).1 (vMade 24 (bytesOf (stText t))).2.1 noKids = (t, 0) := by
 obtain ⟨h1, h2⟩ := made_inv h
 rw [h2]
 unfold vTimeOf
 rw [shut_eq, if_pos (vErr_ok rfl (by rw [noKids_eq]; rfl) h1), strOf_bytes]
 by_cases hf : stIn t = true
 ·exact read_text hf
 ·unfold stText at h1
  rw [if_neg hf] at h1
  exact absurd h1 (by decide)
end Go.Proofs.YtfkpjbbkdkcdcabDoorA

namespace Go.Proofs.YtfkpjbbkdkcdcabDoorA
open IntWalk (i64_in u8_in u32_in u64_in i64_quo u8_quo rem_in)

abbrev yesV : Option Out := some (.ret [.cl (.bool true)] [])
abbrev noV : Option Out := some (.ret [.cl (.bool false)] [])
noncomputable abbrev mkN (m : Int × List Int × Int) : List CV := [.int .i64 m.1, .sli .u8 m.2.1, .slg 3 noKids]
theorem made_isS {g : Int} {b : List Int} (h : madeOk g b = true) : isS (mkN (vMade g b)) = true := by
 obtain ⟨hg, hl, hb⟩ := madeOk_spec h
 unfold mkN
 rw [noKids_eq]
 cases hd : derFitsC g b with
 | false => rw [vMade_no hd]; exact leaf_isS (by simp) (by simp)
 | true => rw [vMade_ok hd]; exact leaf_isS hb (by show b.length <= _; omega)
theorem time_tail {t : Int} (ht : stI64 t = true) : cond (stI64 t) (cond (!decide ((vMade 24 (bytesOf (stText t))).2.2 = 0)) yesV (cond (isS (mkN (vMade 24 (bytesOf (stText t)))))
  (cond (decide ((vTimeOf (vMade 24 (bytesOf (stText t))).1 (vMade 24 (bytesOf (stText t))).2.1 noKids).2 = 0)) (cond (decide ((vTimeOf (vMade 24 (bytesOf (stText t))).1 (vMade 24 (bytesOf (stText t))).2.1 noKids).1 = t)) yesV noV) noV) none)) none = yesV := by
 refine b_pos ht (c_nsplit (fun h => rfl) fun h => b_pos (made_isS (time_made t)) ?_)
 rw [time_back h]
 exact c_pos rfl (c_pos rfl rfl)
theorem id_tail {o : List Int} {k : Option Out} (ho : idOk o = true) (hk : k = yesV) : cond (idOk o) (cond (decide ((vMade 6 (oidBytes o)).2.2 = 0)) (cond (isS (mkN (vMade 6 (oidBytes o))))
  (cond (!decide ((vIdOf (vMade 6 (oidBytes o)).1 (vMade 6 (oidBytes o)).2.1 noKids).2 = 0)) noV (cond (lenOk (vIdOf (vMade 6 (oidBytes o)).1 (vMade 6 (oidBytes o)).2.1 noKids).1)
   (cond (!listSame (vIdOf (vMade 6 (oidBytes o)).1 (vMade 6 (oidBytes o)).2.1 noKids).1 o) noV k) none)) none) k) none = yesV := by
 obtain ⟨h1, h2⟩ := idOk_spec ho
 refine b_pos ho (c_split (fun h => b_pos (made_isS (id_made ho)) ?_) fun h => hk)
 rw [id_back h2 h]
 exact c_nneg rfl (b_pos (lenOk_of (by show o.length <= _; omega)) (b_neg (by rw [same_refl]; rfl) hk))
theorem utf_tail {s : ByteArray} {k : Option Out} (hs : utfOk s = true) (hk : k = yesV) : cond (utfOk s) (cond (decide ((vMade 12 (bytesOf s)).2.2 = 0)) (cond (isS (mkN (vMade 12 (bytesOf s))))
  (cond (!decide ((vUtfOf (vMade 12 (bytesOf s)).1 (vMade 12 (bytesOf s)).2.1 noKids).2 = 0)) noV (cond (!((vUtfOf (vMade 12 (bytesOf s)).1 (vMade 12 (bytesOf s)).2.1 noKids).1.toList == s.toList)) noV k)) none) k) none = yesV := by
 refine b_pos hs (c_split (fun h => b_pos (made_isS (utf_made hs)) ?_) fun h => hk)
 rw [utf_back h]
 exact c_nneg rfl (b_neg (by simp) hk)
theorem nVLBack (n : Int) (b : List Int) (o : List Int) (t : Int) (l : List CV) (hp : (stI64 n && (bytesAll b && (u32Any o && (stI64 t && isTs l)))) = true) : gVLBack n b o t l = some (.ret [.cl (.bool true)] []) := by
 simp only [Bool.and_eq_true] at hp
 obtain ⟨h1, h2, h3, h4, h5⟩ := hp
 have hb : ∀ x ∈ b, 0 <= x /\ x <= 255 := by
  unfold bytesAll at h2
  rw [shut_eq, List.all_eq_true] at h2
  exact fun x hx => byteB_spec (h2 x hx)
 have ho : ∀ n ∈ o, inU n := by
  unfold u32Any at h3
  rw [shut_eq, List.all_eq_true] at h3
  exact fun x hx => of_decide_eq_true (h3 x hx)
 unfold gVLBack
 refine c_split (fun _ => rfl) fun hl => c_split (fun _ => rfl) fun hk => b_pos h5 ?_
 cases hf : vFew l with
 | false => rfl
 | true =>
 obtain ⟨hset, hll⟩ := vFew_spec h5 hf
 obtain ⟨_, hw⟩ := setOk_spec hset
 have hi := idOk_of (by omega) ho
 have hu : utfOk (strOf b) = true := utfOk_of (by rw [strOf_size]; omega)
 have hlen : lenOk b = true := lenOk_of (by omega)
 have hlc : lenOkC l = true := lenOkC_of (by omega)
 have hn : isN [.int .i64 48, .sli .u8 noInts, .slg 3 l] = true := node_isN (by omega) fun c hc => w3_isN (hw c hc)
 have hib : isS [.int .i64 2, .sli .u8 (vInt n), .slg 3 noKids] = true := by
  obtain ⟨g1, g2⟩ := int_facts n
  rw [noKids_eq]
  exact leaf_isS g2 (by omega)
 refine b_neg rfl (b_pos h1 (b_pos hib (b_pos hlen (b_pos (by rw [noKids_eq]; exact leaf_isS hb (by omega)) (b_pos hlc (b_pos hlc ?_))))))
 rw [int_back h1, bytes_back, kids_back]
 refine c_nneg rfl (c_nneg rfl (c_nneg rfl (b_pos hlen (b_neg (by rw [same_refl]; rfl) (c_nneg rfl (b_pos hlc (b_pos hlc (b_pos (by rw [hn]; rfl) (b_neg (by rw [ndSame_refl]; rfl) ?_)))))))))
 have ht := time_tail h4
 exact utf_tail hu (id_tail hi ht)
end Go.Proofs.YtfkpjbbkdkcdcabDoorA
