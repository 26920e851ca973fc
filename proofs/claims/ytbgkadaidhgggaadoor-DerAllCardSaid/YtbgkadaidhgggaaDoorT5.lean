/-
 The writing side: ranks do not matter; heads, joins. Conditions: each function's own.
-/
import Derived.Test.YtbgkadaidhgggaaDoorT1
import Derived.Test.YtbgkadaidhgggaaDoorT3a
import Derived.Test.YtbgkadaidhgggaaDoorT3b
import Derived.Test.YtbgkadaidhgggaaDoorT2e
import Derived.Test.YtbgkadaidhgggaaDoorT2f
set_option linter.unusedVariables false
set_option linter.unusedSimpArgs false
namespace Go.Proofs.YtbgkadaidhgggaaDoorA
open IntWalk (i64_in u8_in u32_in u64_in i64_quo u8_quo rem_in)

/-! ### ranks -/
theorem qcu : ∀ {n : Nat} {x : List CV}, isTf n x = true -> ∃ m t b l, n = m + 1 /\ x = [.int .i64 t, .sli .u8 b, .slg 3 l] /\ (∀ z ∈ b, 0 <= z /\ z <= 255) /\ ∀ c ∈ l, ∃ y, c = .agg y /\ isTf m y = true
 | 0, x, h => by simp [isTf] at h
 | n + 1, x, h => by
  unfold isTf at h
  split at h
  ·exact absurd h Bool.false_ne_true
  ·rename_i n' t b l hn
   obtain rfl : n = n' := by omega
   simp only [Bool.and_eq_true, List.all_eq_true] at h
   refine ⟨n, t, b, l, rfl, rfl, fun z hz => qnj (h.1 z hz), fun c hc => ?_⟩
   have := h.2 c hc
   split at this
   ·exact ⟨_, rfl, this⟩
   ·exact absurd this Bool.false_ne_true
  ·exact absurd h Bool.false_ne_true
theorem kids_congr {f g : List CV -> Int -> Int} : ∀ {l : List CV}, (∀ c ∈ l, ∀ x, f (cell1 c) x = g (cell1 c) x) -> ∀ x, qie f l x = qie g l x
 | [], _, x => rfl
 | c :: r, h, x => by
  simp only [qie]
  split
  ·rfl
  ·rw [h c (List.mem_cons_self ..)]
   exact kids_congr (fun c' hc => h c' (List.mem_cons_of_mem _ hc)) _
theorem small_rk : ∀ {n m : Nat} {x : List CV}, isTf n x = true -> isTf m x = true -> ∀ z, qih n x z = qih m x z
 | n, m, x, hn, hm, z => by
  obtain ⟨n', t, b, l, rfl, rfl, _, hl⟩ := qcu hn
  obtain ⟨m', t', b', l', rfl, he, _, hl'⟩ := qcu hm
  simp only [List.cons.injEq, CV.int.injEq, CV.sli.injEq, CV.slg.injEq, true_and, and_true] at he
  obtain ⟨rfl, rfl, rfl⟩ := he
  show qie (qih n') l _ = qie (qih m') l _
  refine kids_congr (fun c hc x => ?_) _
  obtain ⟨y, rfl, hy⟩ := hl c hc
  obtain ⟨y', e, hy'⟩ := hl' _ hc
  cases e
  exact small_rk hy hy' x
theorem all_congr {f g : CV -> Bool} : ∀ {l : List CV}, (∀ c ∈ l, f c = g c) -> l.all f = l.all g
 | [], _ => rfl
 | c :: r, h => by rw [List.all_cons, List.all_cons, h c (List.mem_cons_self ..), all_congr fun c' hc => h c' (List.mem_cons_of_mem _ hc)]
theorem ok_rk : ∀ {n m : Nat} {x : List CV}, isTf n x = true -> isTf m x = true -> ∀ d, okF n d x = okF m d x
 | n, m, x, hn, hm, d => by
  obtain ⟨n', t, b, l, rfl, rfl, _, hl⟩ := qcu hn
  obtain ⟨m', t', b', l', rfl, he, _, hl'⟩ := qcu hm
  simp only [List.cons.injEq, CV.int.injEq, CV.sli.injEq, CV.slg.injEq, true_and, and_true] at he
  obtain ⟨rfl, rfl, rfl⟩ := he
  cases d with
  | zero => rfl
  | succ d =>
   show (qa9 t && (if qa4 t = true then decide (b = []) && l.all fun c => okF n' d (cell1 c) else decide (l = []) && qcq t b)) = (qa9 t && (if qa4 t = true then decide (b = []) && l.all fun c => okF m' d (cell1 c) else decide (l = []) && qcq t b))
   have : (l.all fun c => okF n' d (cell1 c)) = l.all fun c => okF m' d (cell1 c) := all_congr fun c hc => by
    obtain ⟨y, rfl, hy⟩ := hl c hc
    obtain ⟨y', e, hy'⟩ := hl' _ hc
    cases e
    exact ok_rk hy hy' d
   rw [this]
theorem qoh : ∀ {n m : Nat} {x : List CV}, isTf n x = true -> isTf m x = true -> qam n x = qam m x
 | n, m, x, hn, hm => by
  obtain ⟨n', t, b, l, rfl, rfl, _, hl⟩ := qcu hn
  obtain ⟨m', t', b', l', rfl, he, _, hl'⟩ := qcu hm
  simp only [List.cons.injEq, CV.int.injEq, CV.sli.injEq, CV.slg.injEq, true_and, and_true] at he
  obtain ⟨rfl, rfl, rfl⟩ := he
  have : (l.map fun c => qam n' (cell1 c)) = l.map fun c => qam m' (cell1 c) := List.map_congr_left fun c hc => by
   obtain ⟨y, rfl, hy⟩ := hl c hc
   obtain ⟨y', e, hy'⟩ := hl' _ hc
   cases e
   exact qoh hy hy'
  simp only [qam, this]
theorem qld {a : List CV} {n : Nat} (h : isTf n a = true) : isTf (rkOf a) a = true := by
 unfold rkOf
 have hx : ∃ n, isTf n a = true := ⟨n, h⟩
 rw [@dif_pos _ (Classical.propDecidable _) hx]
 exact Classical.choose_spec hx
theorem isTr_spec {n : Nat} {x : List CV} (h : isTr n x = true) : isTf n x = true := by unfold isTr at h; rwa [qae] at h
theorem isTr_of {n : Nat} {x : List CV} (h : isTf n x = true) : isTr n x = true := by unfold isTr; rwa [qae]
theorem isT_spec {x : List CV} (h : isT x = true) : ∃ n, isTf n x = true := by
 unfold isT at h; rw [qae] at h; exact @of_decide_eq_true _ (Classical.propDecidable _) h
theorem isT_of {x : List CV} {n : Nat} (h : isTf n x = true) : isT x = true := by
 unfold isT; rw [qae]; exact @decide_eq_true _ (Classical.propDecidable _) ⟨n, h⟩
theorem qka {n : Nat} {x : List CV} (h : isSr n x = true) : isTf n x = true /\ qfp n x <= 3000 := by
 unfold isSr at h; rw [qae] at h; simpa [Bool.and_eq_true] using h
theorem isSr_of {n : Nat} {x : List CV} (h : isTf n x = true) (h' : qfp n x <= 3000) : isSr n x = true := by
 unfold isSr; rw [qae]; simp [h, h']
theorem qec {x : List CV} (h : isS x = true) : ∃ n, isTf n x = true /\ qfp n x <= 3000 := by
 unfold isS at h; rw [qae] at h; exact @of_decide_eq_true _ (Classical.propDecidable _) h
theorem isS_of {x : List CV} {n : Nat} (h : isTf n x = true) (h' : qfp n x <= 3000) : isS x = true := by
 unfold isS; rw [qae]; exact @decide_eq_true _ (Classical.propDecidable _) ⟨n, h, h'⟩
theorem isWr_spec {n : Nat} {x : List CV} (h : isWr n x = true) : isTf n x = true /\ qfp n x <= 3000 /\ ∃ d, okF n d x = true := by
 unfold isWr at h; rw [qae] at h; exact @of_decide_eq_true _ (Classical.propDecidable _) h
theorem isWr_of {n : Nat} {x : List CV} (h : isTf n x = true /\ qfp n x <= 3000 /\ ∃ d, okF n d x = true) : isWr n x = true := by
 unfold isWr; rw [qae]; exact @decide_eq_true _ (Classical.propDecidable _) h
theorem isW_of {x : List CV} {n : Nat} (h : isTf n x = true /\ qfp n x <= 3000 /\ ∃ d, okF n d x = true) : isW x = true := by
 unfold isW; rw [qae]; exact @decide_eq_true _ (Classical.propDecidable _) ⟨n, h⟩
theorem qsf {n : Nat} {a : List CV} (h : isTf n a = true) (z : Int) : qh9 a z = qih n a z := by
 unfold qh9; rw [qae]; exact small_rk (qld h) h z
theorem ndSize_eq {n : Nat} {a : List CV} (h : isTf n a = true) (d : Int) : ndSize a d = if okF n d.toNat a = true then ((qam n a).1.length : Int) else -1 := by
 unfold ndSize; rw [qae, ok_rk (qld h) h, qoh (qld h) h]
theorem qq5 {n : Nat} {a : List CV} (h : isTf n a = true) : qjd a = if (qam n a).2 = true then ((qam n a).1, true) else ([], false) := by
 unfold qjd; rw [qae, qoh (qld h) h]
theorem qos {n : Nat} {a : List CV} (h : isTf n a = true) (d : Int) : qfa a d = if okF n d.toNat a = true /\ (qam n a).2 = true then ((qam n a).1, true) else ([], false) := by
 unfold qfa; rw [qae, ok_rk (qld h) h, qoh (qld h) h]
theorem qe2 {n : Nat} {a : List CV} (h : isTf n a = true) : qa2 a = if okF n 32 a = true /\ (qam n a).2 = true then ((qam n a).1, 0) else ([], 1) := by
 unfold qa2; rw [qae, ok_rk (qld h) h, qoh (qld h) h]
theorem ndFit_eq {n : Nat} {a : List CV} (h : isTf n a = true) : qql a = decide (okF n 32 a = true /\ (qam n a).2 = true) := by
 unfold qql; rw [qae, ok_rk (qld h) h, qoh (qld h) h]

/-! ### heads -/
theorem headOk_spec {tag n : Int} (h : qk6 tag n = true) : (0 <= tag /\ tag <= 255) /\ 0 <= n /\ n < 16777216 := by
 unfold qk6 at h; rw [qae] at h; exact of_decide_eq_true h
theorem head_ret {l l' : List Int} {k : Nat} (h : l = l') (hk : k = l'.length) : some (Out.ret [.ref 0 0 k true 1] [some ⟨.ints .u8 l, false⟩]) = some (Out.ret [.ref 0 0 l'.length true 1] [some ⟨.ints .u8 l', false⟩]) := by rw [h, hk]
theorem nRHead (tag n : Int) (hp : qk6 tag n = true) : gRHead tag n = some (.ret [.ref 0 0 (qcn tag n).length true 1] [some ⟨.ints .u8 (qcn tag n), false⟩]) := by
 obtain ⟨ht, hn⟩ := headOk_spec hp
 unfold gRHead qcn
 rw [qae]
 unfold qcr
 have et : IntKind.u8.wrap tag = tag := u8_in _ (by omega)
 refine qaf (fun h => ?_) fun h => qaf (fun h2 => ?_) fun h2 => qaf (fun h3 => ?_) fun h3 => ?_
 ·rw [if_pos h]
  exact head_ret (by rw [et, show IntKind.u8.wrap n = n from u8_in _ (by omega)]) rfl
 ·rw [if_neg h, if_pos h2]
  exact head_ret (by rw [et, show IntKind.u8.wrap n = n from u8_in _ (by omega)]) rfl
 ·rw [if_neg h, if_neg h2, if_pos h3]
  refine head_ret ?_ rfl
  rw [et, Int.tdiv_eq_ediv_of_nonneg (by omega), Int.tmod_eq_emod_of_nonneg (by omega), show IntKind.i64.wrap (n / 256) = n / 256 from i64_in _ (by omega), show IntKind.u8.wrap (n / 256) = n / 256 from u8_in _ (by omega), show IntKind.u8.wrap (n % 256) = n % 256 from u8_in _ (by omega)]
 ·rw [if_neg h, if_neg h2, if_neg h3]
  refine head_ret ?_ rfl
  rw [et, Int.tdiv_eq_ediv_of_nonneg (by omega), Int.tdiv_eq_ediv_of_nonneg (by omega), show IntKind.i64.wrap (n / 256) = n / 256 from i64_in _ (by omega), show IntKind.i64.wrap (n / 65536) = n / 65536 from i64_in _ (by omega), Int.tmod_eq_emod_of_nonneg (by omega), Int.tmod_eq_emod_of_nonneg (by omega),
   show IntKind.u8.wrap (n / 65536) = n / 65536 from u8_in _ (by omega), show IntKind.u8.wrap (n / 256 % 256) = n / 256 % 256 from u8_in _ (by omega), show IntKind.u8.wrap (n % 256) = n % 256 from u8_in _ (by omega)]
end Go.Proofs.YtbgkadaidhgggaaDoorA

namespace Go.Proofs.YtbgkadaidhgggaaDoorA
open IntWalk (i64_in u8_in u32_in u64_in i64_quo u8_quo rem_in)

theorem u8_mod (n : Int) : IntKind.u8.wrap n = n % 256 := by simp [IntKind.wrap, IntKind.signed, IntKind.bits]
def putB (n : Int) : Nat -> List Int
 | 0 => []
 | c + 1 => n / 2 ^ (8 * c) % 256 :: putB n c
theorem put_lp (n : Int) (h0 : 0 <= n) (h1 : n < 16777216) : ∀ (c f : Nat) (l : List Int), c <= 3 -> c < f -> l.length + c <= 10 ->
  qgw (fun y8 _ _ _ y12 => some (.ret [.ref 0 0 y8 true 1] [some ⟨.ints .u8 y12, false⟩])) f l.length n ((c : Int) - 1) l = some (.ret [.ref 0 0 (l ++ putB n c).length true 1] [some ⟨.ints .u8 (l ++ putB n c), false⟩])
 | c, 0, l, _, hf, _ => by omega
 | 0, f + 1, l, _, _, hl => by
  show qjw (qgw (fun y8 _ _ _ y12 => some (.ret [.ref 0 0 y8 true 1] [some ⟨.ints .u8 y12, false⟩])) f) (fun y8 _ _ _ y12 => some (.ret [.ref 0 0 y8 true 1] [some ⟨.ints .u8 y12, false⟩])) l.length n (((0 : Nat) : Int) - 1) l = _
  unfold qjw
  refine qfq (by omega) ?_
  simp only [putB, List.append_nil]
 | c + 1, f + 1, l, hc, hf, hl => by
  show qjw (qgw (fun y8 _ _ _ y12 => some (.ret [.ref 0 0 y8 true 1] [some ⟨.ints .u8 y12, false⟩])) f) (fun y8 _ _ _ y12 => some (.ret [.ref 0 0 y8 true 1] [some ⟨.ints .u8 y12, false⟩])) l.length n (((c + 1 : Nat) : Int) - 1) l = _
  unfold qjw
  have e1 : ((c + 1 : Nat) : Int) - 1 = c := by omega
  rw [e1]
  refine qau (by omega) ?_
  simp only [show IntKind.i64.wrap ((8 : Int) * (c : Int)) = ((8 * c : Nat) : Int) from (i64_in _ (by omega)).trans (by omega)]
  refine qfq (by omega) ?_
  have e2 : min ((8 * c : Nat) : Int).toNat 64 = 8 * c := by show min (8 * c) 64 = 8 * c; omega
  simp only [e2]
  have e3 : IntKind.u8.wrap (Int.fdiv n (2 ^ (8 * c))) = n / 2 ^ (8 * c) % 256 := by
   have hc2 : c = 0 \/ c = 1 \/ c = 2 := by omega
   rw [u8_mod]
   rcases hc2 with rfl | rfl | rfl <;> rw [Int.fdiv_eq_ediv_of_nonneg n (by decide)]
  rw [e3, show IntKind.i64.wrap ((c : Int) - 1) = (c : Int) - 1 from i64_in _ (by omega)]
  refine qau (by simp only [List.length_append, List.length_singleton]; unfold LIM; omega) (qau (by simp only [List.length_append, List.length_singleton]; unfold LIM; omega) ?_)
  refine (put_lp n h0 h1 c f _ (by omega) (by omega) (by simp only [List.length_append, List.length_singleton]; omega)).trans ?_
  simp only [putB, List.append_assoc, List.singleton_append]
theorem nDPut (tag n : Int) (hp : qk6 tag n = true) : gDPut tag n = some (.ret [.ref 0 0 (qcn tag n).length true 1] [some ⟨.ints .u8 (qcn tag n), false⟩]) := by
 obtain ⟨ht, hn⟩ := headOk_spec hp
 unfold gDPut qcn qbs
 simp only [qae]
 unfold qcr qat
 have et : IntKind.u8.wrap tag = tag := u8_in _ (by omega)
 rw [et]
 by_cases h : n < 128
 ·rw [if_pos h, if_pos h, show IntKind.i64.wrap ((1 : Int) - 1) = 0 from i64_in _ (by omega), show IntKind.u8.wrap n = n from u8_in _ (by omega)]
  exact qau rfl rfl
 ·rw [if_neg h, if_neg h]
  have fin : ∀ c : Nat, 1 <= c -> c <= 3 -> ∀ l', [tag, 128 + (c : Int)] ++ putB n c = l' -> (cond (decide (IntKind.i64.wrap ((c : Int) + 1 - 1) = 0)) (some (Out.ret [.ref 0 0 2 true 1] [some ⟨.ints .u8 [tag, IntKind.u8.wrap n], false⟩])) (qgw (fun y8 _ _ _ y12 => some (.ret [.ref 0 0 y8 true 1] [some ⟨.ints .u8 y12, false⟩])) FUEL 2 n (IntKind.i64.wrap (IntKind.i64.wrap ((c : Int) + 1 - 1) - 1)) [tag, IntKind.u8.wrap (IntKind.i64.wrap ((128 : Int) + IntKind.i64.wrap ((c : Int) + 1 - 1)))])) = some (Out.ret [.ref 0 0 l'.length true 1] [some ⟨.ints .u8 l', false⟩]) := fun c h1 h3 l' hl' => by
   rw [show IntKind.i64.wrap ((c : Int) + 1 - 1) = c from (i64_in _ (by omega)).trans (by omega), show IntKind.i64.wrap ((128 : Int) + c) = 128 + c from i64_in _ (by omega), show IntKind.u8.wrap ((128 : Int) + c) = 128 + c from u8_in _ (by omega), show IntKind.i64.wrap ((c : Int) - 1) = (c : Int) - 1 from i64_in _ (by omega)]
   refine qfq (by omega) ((put_lp n hn.1 hn.2 c FUEL [tag, 128 + (c : Int)] h3 (by unfold FUEL; omega) (by simp only [List.length_cons, List.length_nil]; omega)).trans ?_)
   rw [hl']
  by_cases h2 : n < 256
  ·rw [if_pos h2, if_pos h2]
   refine fin 1 (by omega) (by omega) _ ?_
   show [tag, (129 : Int), n / 1 % 256] = _
   rw [show n / 1 % 256 = n by omega]
  ·rw [if_neg h2, if_neg h2]
   by_cases h3 : n < 65536
   ·rw [if_pos h3, if_pos h3]
    refine fin 2 (by omega) (by omega) _ ?_
    show [tag, (130 : Int), n / 256 % 256, n / 1 % 256] = _
    rw [show n / 256 % 256 = n / 256 by omega, show n / 1 % 256 = n % 256 by omega]
   ·rw [if_neg h3, if_neg h3]
    refine fin 3 (by omega) (by omega) _ ?_
    show [tag, (131 : Int), n / 65536 % 256, n / 256 % 256, n / 1 % 256] = _
    rw [show n / 65536 % 256 = n / 65536 by omega, show n / 1 % 256 = n % 256 by omega]

/-! ### joins -/
theorem rowCV_inv {c : CV} (h : rowCV c = true) : ∃ x, c = .sli .u8 x /\ rowB x = true := by
 unfold rowCV at h
 split at h
 ·exact ⟨_, rfl, h⟩
 ·exact absurd h Bool.false_ne_true
theorem joinOk_spec {l : List CV} (h : qn3 l = true) : l.length <= 1000000 /\ (∀ c ∈ l, ∃ x, c = .sli .u8 x) /\ (l.flatMap qee).length <= 1000000 := by
 unfold qn3 at h
 rw [qae] at h
 simp only [Bool.and_eq_true, decide_eq_true_eq, List.all_eq_true] at h
 exact ⟨h.1, fun c hc => let ⟨x, e, _⟩ := rowCV_inv (h.2.1 c hc); ⟨x, e⟩, h.2.2⟩
theorem qhf {l : List CV} {i : Nat} {x : List Int} (h : l[i]? = some (.sli .u8 x)) : (l.drop i).flatMap qee = x ++ (l.drop (i + 1)).flatMap qee := by
 obtain ⟨hlt, e⟩ := List.getElem?_eq_some_iff.1 h
 rw [List.drop_eq_getElem_cons hlt, e, List.flatMap_cons]
 rfl
theorem join_lp (l : List CV) (hl : l.length <= 1000000) (hall : ∀ c ∈ l, ∃ x, c = .sli .u8 x) : ∀ (f i : Nat) (acc : List Int), i <= l.length -> l.length < f + i -> acc.length + ((l.drop i).flatMap qee).length <= 1000000 ->
  qe9 (fun _ _ _ _ _ _ y7 => some (.ret [.cl (.sli .u8 y7)] [])) f l acc.length i acc = some (.ret [.cl (.sli .u8 (acc ++ (l.drop i).flatMap qee))] [])
 | 0, i, acc, hi, hf, _ => by omega
 | f + 1, i, acc, hi, hf, hs => by
  show qkx (qe9 (fun _ _ _ _ _ _ y7 => some (.ret [.cl (.sli .u8 y7)] [])) f) (fun _ _ _ _ _ _ y7 => some (.ret [.cl (.sli .u8 y7)] [])) l acc.length i acc = _
  unfold qkx
  refine qaf (fun h => ?_) fun h => ?_
  ·obtain ⟨c, hc⟩ := qbj (b := l) (i := i) (by omega)
   obtain ⟨x, rfl⟩ := hall c (List.mem_of_getElem? hc)
   refine qau (by omega) (qau h ?_)
   rw [show (i : Int).toNat = i from rfl, hc, Option.bind_some]
   refine qba rfl ?_
   have hfl := qhf hc
   rw [hfl, List.length_append] at hs
   have e : qee ((cell1 (.sli .u8 x)).getD 0 .nili) = x := rfl
   simp only [e]
   refine qau (by simp only [List.length_append]; unfold LIM; omega) (qau (by simp only [List.length_append]; unfold LIM; omega) ?_)
   rw [show IntKind.i64.wrap ((i : Int) + 1) = ((i + 1 : Nat) : Int) from (i64_in _ (by omega)).trans (by omega)]
   refine (join_lp l hl hall f (i + 1) (acc ++ x) (by omega) (by omega) (by simp only [List.length_append]; omega)).trans ?_
   rw [hfl, List.append_assoc]
  ·rw [List.drop_eq_nil_of_le (by omega), List.flatMap_nil, List.append_nil]
theorem nR1Join (l : List CV) (hp : qn3 l = true) : gR1Join l = some (.ret [.cl (.sli .u8 (qcs l))] []) := by
 obtain ⟨h1, h2, h3⟩ := joinOk_spec hp
 unfold gR1Join qcs
 simp only [qae]
 exact join_lp l h1 h2 FUEL 0 [] (by omega) (by unfold FUEL; omega) (by simpa using h3)
theorem cat_lp (l : List CV) (hl : l.length <= 1000000) (hall : ∀ c ∈ l, ∃ x, c = .sli .u8 x) : ∀ (f i : Nat) (acc : List Int), i <= l.length -> l.length < f + i -> acc.length + ((l.drop i).flatMap qee).length <= 1000000 ->
  qcw (fun _ _ _ _ y27 => some (.ret [.cl (.sli .u8 y27)] [])) f acc.length l ((l.length : Nat) : Int) i acc = some (.ret [.cl (.sli .u8 (acc ++ (l.drop i).flatMap qee))] [])
 | 0, i, acc, hi, hf, _ => by omega
 | f + 1, i, acc, hi, hf, hs => by
  show qfm (qcw (fun _ _ _ _ y27 => some (.ret [.cl (.sli .u8 y27)] [])) f) (fun _ _ _ _ y27 => some (.ret [.cl (.sli .u8 y27)] [])) acc.length l ((l.length : Nat) : Int) i acc = _
  unfold qfm
  refine qaf (fun h => ?_) fun h => ?_
  ·obtain ⟨c, hc⟩ := qbj (b := l) (i := i) (by omega)
   obtain ⟨x, rfl⟩ := hall c (List.mem_of_getElem? hc)
   refine qau (by omega) (qau h ?_)
   rw [show (i : Int).toNat = i from rfl, hc, Option.bind_some]
   refine qba rfl ?_
   have hfl := qhf hc
   rw [hfl, List.length_append] at hs
   have e : qee ((cell1 (.sli .u8 x)).getD 0 .nili) = x := rfl
   simp only [e]
   refine qau (by simp only [List.length_append]; unfold LIM; omega) (qau (by simp only [List.length_append]; unfold LIM; omega) ?_)
   rw [show IntKind.i64.wrap ((i : Int) + 1) = ((i + 1 : Nat) : Int) from (i64_in _ (by omega)).trans (by omega)]
   refine (cat_lp l hl hall f (i + 1) (acc ++ x) (by omega) (by omega) (by simp only [List.length_append]; omega)).trans ?_
   rw [hfl, List.append_assoc]
  ·rw [List.drop_eq_nil_of_le (by omega), List.flatMap_nil, List.append_nil]
theorem size_lp (l : List CV) (hl : l.length <= 1000000) (hall : ∀ c ∈ l, ∃ x, c = .sli .u8 x) (k0 : ByteArray -> List CV -> Int -> List Int -> List CV -> Int -> Int -> List CV -> Nat -> List Int -> Int -> List Int -> Int -> Int -> Int -> ByteArray -> Option Out) (k1 : List CV -> Int -> List CV -> Int -> Int -> Option Out) : ∀ (f i : Nat) (n : Int), i <= l.length -> l.length < f + i -> 0 <= n -> n + ((l.drop i).flatMap qee).length <= 1000000 ->
  qdz k0 k1 f l n l ((l.length : Nat) : Int) i = k1 l (n + ((l.drop i).flatMap qee).length) l ((l.length : Nat) : Int) l.length
 | 0, i, n, hi, hf, _, _ => by omega
 | f + 1, i, n, hi, hf, h0, hs => by
  show qgf (qdz k0 k1 f) k0 k1 l n l ((l.length : Nat) : Int) i = _
  unfold qgf
  refine qaf (fun h => ?_) fun h => ?_
  ·obtain ⟨c, hc⟩ := qbj (b := l) (i := i) (by omega)
   obtain ⟨x, rfl⟩ := hall c (List.mem_of_getElem? hc)
   refine qau (by omega) (qau h ?_)
   rw [show (i : Int).toNat = i from rfl, hc, Option.bind_some]
   refine qba rfl ?_
   have hfl := qhf hc
   rw [hfl, List.length_append] at hs
   have e : qee ((cell1 (.sli .u8 x)).getD 0 .nili) = x := rfl
   simp only [e]
   rw [show IntKind.i64.wrap (n + ((x.length : Nat) : Int)) = n + x.length from i64_in _ (by omega)]
   refine qfq (by omega) ?_
   rw [show IntKind.i64.wrap ((i : Int) + 1) = ((i + 1 : Nat) : Int) from (i64_in _ (by omega)).trans (by omega)]
   refine (size_lp l hl hall k0 k1 f (i + 1) _ (by omega) (by omega) (by omega) (by omega)).trans ?_
   rw [hfl, List.length_append, show n + ((x.length : Nat) : Int) + (((l.drop (i + 1)).flatMap qee).length : Nat) = n + ((x.length + ((l.drop (i + 1)).flatMap qee).length : Nat) : Int) by omega]
  ·obtain rfl : i = l.length := by omega
   rw [List.drop_eq_nil_of_le (Nat.le_refl _)]
   simp
theorem nSConcat (l : List CV) (hp : qn3 l = true) : gSConcat l = some (.ret [.cl (.sli .u8 (qcs l))] []) := by
 obtain ⟨h1, h2, h3⟩ := joinOk_spec hp
 unfold gSConcat qcs noInts
 simp only [qae]
 refine (size_lp l h1 h2 _ _ FUEL 0 0 (by omega) (by unfold FUEL; omega) (by omega) (by rw [List.drop_zero]; omega)).trans ?_
 refine qba ?_ (cat_lp l h1 h2 FUEL 0 [] (by omega) (by unfold FUEL; omega) (by simpa using h3))
 unfold growOk
 rw [qae, List.drop_zero]
 exact decide_eq_true (by omega)

/-! ### sameness -/
end Go.Proofs.YtbgkadaidhgggaaDoorA

namespace Go.Proofs.YtbgkadaidhgggaaDoorA
open IntWalk (i64_in u8_in u32_in u64_in i64_quo u8_quo rem_in)

theorem leftOk_spec {n : Int} (h : qmp n = true) : 0 <= n /\ n <= 3000 := by
 unfold qmp at h; rw [qae] at h; exact of_decide_eq_true h
theorem qkk {n : Int} (h : 0 <= n /\ n <= 3000) : qmp n = true := by
 unfold qmp; rw [qae]; exact decide_eq_true h
theorem kids_le {f : List CV -> Int -> Int} : ∀ {l : List CV}, (∀ c ∈ l, ∀ x, f (cell1 c) x <= x - 1) -> ∀ x, qie f l x <= x
 | [], _, x => Int.le_refl _
 | c :: r, h, x => by
  simp only [qie]
  split
  ·exact Int.le_refl _
  ·have h1 := h c (List.mem_cons_self ..) x
   have h2 := kids_le (l := r) (fun c' hc => h c' (List.mem_cons_of_mem _ hc)) (f (cell1 c) x)
   omega
theorem small_le : ∀ {n : Nat} {x : List CV}, isTf n x = true -> ∀ z, qih n x z <= z - 1
 | n, x, hn, z => by
  obtain ⟨n', t, b, l, rfl, rfl, _, hl⟩ := qcu hn
  show qie (qih n') l (z - 1 - min (b.length : Int) 1048576) <= z - 1
  have := kids_le (f := qih n') (l := l) (fun c hc x => by
   obtain ⟨y, rfl, hy⟩ := hl c hc
   exact small_le hy x) (z - 1 - min (b.length : Int) 1048576)
  omega
theorem kids_bulk {f : List CV -> Int -> Int} {g : CV -> Nat} : ∀ {l : List CV}, (∀ c ∈ l, ∀ x, x <= 3000 -> 0 <= f (cell1 c) x -> (g c : Int) = x - f (cell1 c) x) -> (∀ c ∈ l, ∀ x, f (cell1 c) x <= x - 1) -> ∀ x, x <= 3000 -> 0 <= qie f l x -> 0 <= x /\ ((l.map g).sum : Nat) = x - qie f l x
 | [], _, _, x, _, h => ⟨h, by simp [qie]⟩
 | c :: r, h, hle, x, hx, h0 => by
  simp only [qie] at h0 ⊢
  split at h0
  ·omega
  ·rename_i hx0
   rw [if_neg hx0]
   have h1 := hle c (List.mem_cons_self ..) x
   have ih := kids_bulk (l := r) (fun c' hc => h c' (List.mem_cons_of_mem _ hc)) (fun c' hc => hle c' (List.mem_cons_of_mem _ hc)) (f (cell1 c) x) (by omega) h0
   have h2 := h c (List.mem_cons_self ..) x hx ih.1
   refine ⟨by omega, ?_⟩
   rw [List.map_cons, List.sum_cons]
   omega
theorem small_bulk : ∀ {n : Nat} {x : List CV}, isTf n x = true -> ∀ z, z <= 3000 -> 0 <= qih n x z -> (qfp n x : Int) = z - qih n x z
 | n, x, hn, z, hz, h0 => by
  obtain ⟨n', t, b, l, rfl, rfl, _, hl⟩ := qcu hn
  have h0 : 0 <= qie (qih n') l (z - 1 - min (b.length : Int) 1048576) := h0
  have hk := kids_bulk (f := qih n') (g := fun c => qfp n' (cell1 c)) (l := l) (fun c hc x hx h => by
   obtain ⟨y, rfl, hy⟩ := hl c hc
   exact small_bulk hy x hx h) (fun c hc x => by
   obtain ⟨y, rfl, hy⟩ := hl c hc
   exact small_le hy x) _ (by omega) h0
  show ((1 + b.length + (l.map fun c => qfp n' (cell1 c)).sum : Nat) : Int) = z - qie (qih n') l (z - 1 - min (b.length : Int) 1048576)
  omega
theorem bulk_pos {n : Nat} {x : List CV} (hn : isTf n x = true) : 1 <= qfp n x := by
 obtain ⟨n', t, b, l, rfl, rfl, _, hl⟩ := qcu hn
 show 1 <= 1 + b.length + _
 omega
theorem sum_mem {g : CV -> Nat} : ∀ {l : List CV} {c : CV}, c ∈ l -> g c <= (l.map g).sum
 | a :: r, c, h => by
  rw [List.map_cons, List.sum_cons]
  rcases List.mem_cons.1 h with rfl | h
  ·omega
  ·have := sum_mem (g := g) h; omega
theorem sum_len {g : CV -> Nat} : ∀ {l : List CV}, (∀ c ∈ l, 1 <= g c) -> l.length <= (l.map g).sum
 | [], _ => by simp
 | a :: r, h => by
  rw [List.map_cons, List.sum_cons, List.length_cons]
  have := sum_len (g := g) (l := r) fun c hc => h c (List.mem_cons_of_mem _ hc)
  have := h a (List.mem_cons_self ..)
  omega
/-- a small value's parts -/
theorem qog {n : Nat} {t : Int} {b : List Int} {l : List CV} (h : isTf (n + 1) [.int .i64 t, .sli .u8 b, .slg 3 l] = true) {B : Nat} (hb : qfp (n + 1) [.int .i64 t, .sli .u8 b, .slg 3 l] <= B) :
  b.length + 1 <= B /\ l.length + 1 <= B /\ (∀ z ∈ b, 0 <= z /\ z <= 255) /\ (∀ c ∈ l, ∃ y, c = .agg y /\ isTf n y = true /\ qfp n y + 1 <= B) /\ 1 + b.length + (l.map fun c => qfp n (cell1 c)).sum <= B := by
 obtain ⟨n', t', b', l', hn, he, h1, h2⟩ := qcu h
 obtain rfl : n = n' := by omega
 simp only [List.cons.injEq, CV.int.injEq, CV.sli.injEq, CV.slg.injEq, true_and, and_true] at he
 obtain ⟨rfl, rfl, rfl⟩ := he
 have hb : 1 + b.length + (l.map fun c => qfp n (cell1 c)).sum <= B := hb
 have hs := sum_len (g := fun c => qfp n (cell1 c)) (l := l) fun c hc => by
  obtain ⟨y, rfl, hy⟩ := h2 c hc
  exact bulk_pos hy
 refine ⟨by omega, by omega, h1, fun c hc => ?_, hb⟩
 obtain ⟨y, rfl, hy⟩ := h2 c hc
 have hm : qfp n y <= (l.map fun c => qfp n (cell1 c)).sum := sum_mem (g := fun c => qfp n (cell1 c)) hc
 exact ⟨y, rfl, hy, by omega⟩
theorem nd_of_tf : ∀ {n : Nat} {x : List CV}, isTf n x = true -> qfp n x <= 3000 -> isNf n x = true
 | n, x, hn, hb => by
  obtain ⟨n', t, b, l, rfl, rfl, _, _⟩ := qcu hn
  obtain ⟨h1, h2, _, h3, _⟩ := qog hn hb
  refine nd_mk (by omega) (by omega) fun c hc => ?_
  obtain ⟨y, rfl, hy, hyb⟩ := h3 c hc
  exact ⟨y, rfl, nd_of_tf hy (by omega)⟩

theorem small_lp (rk : Nat) (ta : Int) (ba : List Int) (ka : List CV) (hall : ∀ c ∈ ka, ∃ y, c = .agg y /\ isTf rk y = true) : ∀ (f i : Nat) (z : Int), z <= 2999 - i -> 3005 < f + i -> i <= ka.length -> i <= 3000 ->
  qev rk (fun y4 => (fun _ _ _ _ _ _ _ _ _ _ => some (.ret [.cl (.int .i64 y4)] []))) (fun y15 => (fun _ _ _ _ _ _ _ _ => some (.ret [.cl (.int .i64 y15)] []))) f z i ta ba ka = some (.ret [.cl (.int .i64 (qie (qih rk) (ka.drop i) z))] [])
 | 0, i, z, hz, hf, hi, hi2 => by omega
 | f + 1, i, z, hz, hf, hi, hi2 => by
  show qjt rk (qev rk (fun y4 => (fun _ _ _ _ _ _ _ _ _ _ => some (.ret [.cl (.int .i64 y4)] []))) (fun y15 => (fun _ _ _ _ _ _ _ _ => some (.ret [.cl (.int .i64 y15)] []))) f) (fun y4 => (fun _ _ _ _ _ _ _ _ _ _ => some (.ret [.cl (.int .i64 y4)] []))) (fun y15 => (fun _ _ _ _ _ _ _ _ => some (.ret [.cl (.int .i64 y15)] []))) z i ta ba ka = _
  unfold qjt
  refine qaf (fun h => ?_) fun h => ?_
  ·obtain ⟨c, hc⟩ := qbj (b := ka) (i := i) (by omega)
   obtain ⟨y, rfl, hy⟩ := hall c (List.mem_of_getElem? hc)
   have ed : ka.drop i = .agg y :: ka.drop (i + 1) := by
    obtain ⟨hlt, e⟩ := List.getElem?_eq_some_iff.1 hc
    rw [List.drop_eq_getElem_cons hlt, e]
   rw [ed]
   simp only [qie]
   refine qaf (fun h0 => qau (by omega) (qau h ?_)) fun h0 => ?_
   ·rw [if_neg (by omega), show (i : Int).toNat = i from rfl, hc, Option.bind_some]
    obtain ⟨m, t, b, l, hm, hye, _⟩ := qcu hy
    simp only [cell1, hye, List.headD_cons, List.tail_cons]
    refine qba rfl (qba ?_ ?_)
    ·simp only [Bool.and_eq_true]
     exact ⟨isTr_of (hye ▸ hy), qkk (by omega)⟩
    ·have e : qh9 [.int .i64 t, .sli .u8 b, .slg 3 l] z = qih rk y z := by rw [<- hye]; exact qsf hy z
     simp only [cvInt, qee, cvSlg]
     rw [e, <- hye, show IntKind.i64.wrap ((i : Int) + 1) = ((i + 1 : Nat) : Int) from (i64_in _ (by omega)).trans (by omega)]
     have := small_le hy z
     exact small_lp rk ta ba ka hall f (i + 1) _ (by omega) (by omega) (by omega) (by omega)
   ·rw [if_pos (by omega)]
  ·rw [List.drop_eq_nil_of_le (by omega)]
   rfl
theorem nRSmall (rk : Nat) (ta : Int) (ba : List Int) (ka : List CV) (left : Int) (hp : (isTr (rk + 1) [.int .i64 ta, .sli .u8 ba, .slg 3 ka] && qmp left) = true) : gRSmall rk ta ba ka left = some (.ret [.cl (.int .i64 (qh9 [.int .i64 ta, .sli .u8 ba, .slg 3 ka] left))] []) := by
 simp only [Bool.and_eq_true] at hp
 have ht := isTr_spec hp.1
 have hl := leftOk_spec hp.2
 rw [qsf ht]
 obtain ⟨m, t, b, l, hm, he, _, hall⟩ := qcu ht
 obtain rfl : rk = m := by omega
 simp only [List.cons.injEq, CV.int.injEq, CV.sli.injEq, CV.slg.injEq, true_and, and_true] at he
 obtain ⟨rfl, rfl, rfl⟩ := he
 unfold gRSmall
 simp only [qae]
 have e2 : (cond (decide ((1048576 : Int) < ((ba.length : Nat) : Int))) 1048576 ((ba.length : Nat) : Int)) = min (ba.length : Int) 1048576 := by
  by_cases h : (1048576 : Int) < ((ba.length : Nat) : Int)
  ·rw [decide_eq_true h]; show (1048576 : Int) = _; omega
  ·rw [decide_eq_false h]; show ((ba.length : Nat) : Int) = _; omega
 rw [e2, show IntKind.i64.wrap (left - 1) = left - 1 from i64_in _ (by omega), show IntKind.i64.wrap (left - 1 - min (ba.length : Int) 1048576) = left - 1 - min (ba.length : Int) 1048576 from i64_in _ (by omega)]
 exact small_lp rk ta ba ka hall FUEL 0 _ (by omega) (by unfold FUEL; omega) (by omega) (by omega)

/-! ### sizes -/
theorem qlv (t n : Int) : ((qcr t n).length : Int) = 1 + qat n := by
 unfold qcr qat
 rw [List.length_cons]
 repeat' split
 all_goals rfl
theorem qc3 (n : Int) : 1 <= qat n /\ qat n <= 4 := by
 unfold qat
 repeat' split
 all_goals omega
theorem qqv {g : CV -> List Int} {h : CV -> Nat} : ∀ {l : List CV}, (∀ c ∈ l, (g c).length <= 5 * h c) -> ((l.map g).flatten).length <= 5 * (l.map h).sum
 | [], _ => by simp
 | a :: r, hh => by
  have := hh a (List.mem_cons_self ..)
  have := qqv (g := g) (h := h) (l := r) fun c hc => hh c (List.mem_cons_of_mem _ hc)
  simp only [List.map_cons, List.flatten_cons, List.length_append, List.sum_cons]
  omega
theorem qem : ∀ {n : Nat} {x : List CV}, isTf n x = true -> (qam n x).1.length <= 5 * qfp n x
 | n, x, hn => by
  obtain ⟨n', t, b, l, rfl, rfl, _, hl⟩ := qcu hn
  have hb : qfp (n' + 1) [.int .i64 t, .sli .u8 b, .slg 3 l] = 1 + b.length + (l.map fun c => qfp n' (cell1 c)).sum := rfl
  rw [hb]
  simp only [qam]
  split
  ·have hf := qqv (g := fun c => (qam n' (cell1 c)).1) (h := fun c => qfp n' (cell1 c)) (l := l) fun c hc => by
    obtain ⟨y, rfl, hy⟩ := hl c hc
    exact qem hy
   have e : ((l.map fun c => qam n' (cell1 c)).map (·.1)) = l.map fun c => (qam n' (cell1 c)).1 := by rw [List.map_map]; rfl
   simp only [e]
   have hh := qlv t (((l.map fun c => (qam n' (cell1 c)).1).flatten).length : Nat)
   have hr := qc3 (((l.map fun c => (qam n' (cell1 c)).1).flatten).length : Nat)
   rw [List.length_append]
   omega
  ·have hh := qlv t (b.length : Nat)
   have hr := qc3 (b.length : Nat)
   simp only [List.length_append]
   omega
def sumL (f : CV -> List Int) : List CV -> Int
 | [] => 0
 | c :: r => (f c).length + sumL f r
theorem qdc (f : CV -> List Int) : ∀ l : List CV, sumL f l = (((l.map f).flatten).length : Nat)
 | [] => rfl
 | c :: r => by simp only [sumL, List.map_cons, List.flatten_cons, List.length_append, qdc f r]; omega
theorem sumL_drop (f : CV -> List Int) (l : List CV) (i : Nat) : 0 <= sumL f (l.drop i) /\ sumL f (l.drop i) <= sumL f l := by
 constructor
 ·rw [qdc]; omega
 ·rw [qdc, qdc, List.map_drop]
  have h : ∀ (ls : List (List Int)) (i : Nat), ((ls.drop i).flatten).length <= (ls.flatten).length := fun ls => by
   induction ls with
   | nil => simp
   | cons a r ih =>
    intro i
    cases i with
    | zero => exact Nat.le_refl _
    | succ i =>
     have := ih i
     simp only [List.drop_succ_cons, List.flatten_cons, List.length_append]
     omega
  have := h (l.map f) i
  omega
theorem size_lp2 (rk d : Nat) (deep : Int) (hd : 1 <= deep /\ deep <= 1000) (hdd : deep.toNat = d + 1) (ka : List CV) (hlen : ka.length <= 3000) (hall : ∀ c ∈ ka, ∃ y, c = .agg y /\ isTf rk y = true /\ qfp rk y <= 3000) (hsum : sumL (fun c => (qam rk (cell1 c)).1) ka <= 15000) (k1 : Int -> Int -> Int -> List CV -> Int -> Int -> List CV -> Nat -> Int -> List Int -> List CV -> Int -> List Int -> List CV -> Int -> Int -> Int -> Int -> Int -> Int -> Int -> Bool -> Int -> Bool -> Int -> List Int -> List CV -> Option Out) (F : Int -> Option Out) : ∀ (f i : Nat) (s : Int), i <= ka.length -> ka.length < f + i -> 0 <= s -> s + sumL (fun c => (qam rk (cell1 c)).1) (ka.drop i) <= 15000 ->
  qgq rk (fun _ _ _ _ _ _ _ _ _ _ _ _ _ _ _ _ _ _ _ _ _ _ _ _ _ => some (.ret [.cl (.int .i64 (-1))] [])) k1 (fun _ y56 _ _ _ => F y56) f deep s ka ((ka.length : Nat) : Int) i = if (ka.drop i).all (fun c => okF rk d (cell1 c)) = true then F (s + sumL (fun c => (qam rk (cell1 c)).1) (ka.drop i)) else some (.ret [.cl (.int .i64 (-1))] [])
 | 0, i, s, hi, hf, _, _ => by omega
 | f + 1, i, s, hi, hf, h0, hs => by
  show qmz rk (qgq rk (fun _ _ _ _ _ _ _ _ _ _ _ _ _ _ _ _ _ _ _ _ _ _ _ _ _ => some (.ret [.cl (.int .i64 (-1))] [])) k1 (fun _ y56 _ _ _ => F y56) f) (fun _ _ _ _ _ _ _ _ _ _ _ _ _ _ _ _ _ _ _ _ _ _ _ _ _ => some (.ret [.cl (.int .i64 (-1))] [])) k1 (fun _ y56 _ _ _ => F y56) deep s ka ((ka.length : Nat) : Int) i = _
  unfold qmz
  obtain ⟨R, hR⟩ : ∃ R : Option Out, R = (if (ka.drop i).all (fun c => okF rk d (cell1 c)) = true then F (s + sumL (fun c => (qam rk (cell1 c)).1) (ka.drop i)) else some (.ret [.cl (.int .i64 (-1))] [])) := ⟨_, rfl⟩
  rw [<- hR]
  refine qaf (fun h => ?_) fun h => ?_
  ·obtain ⟨c, hc⟩ := qbj (b := ka) (i := i) (by omega)
   obtain ⟨y, rfl, hy, hyb⟩ := hall c (List.mem_of_getElem? hc)
   have ed : ka.drop i = .agg y :: ka.drop (i + 1) := by
    obtain ⟨hlt, e⟩ := List.getElem?_eq_some_iff.1 hc
    rw [List.drop_eq_getElem_cons hlt, e]
   refine qau (by omega) (qau h ?_)
   rw [show (i : Int).toNat = i from rfl, hc, Option.bind_some]
   obtain ⟨m, t, b, l, hm, hye, _⟩ := qcu hy
   simp only [cell1, hye, List.headD_cons, List.tail_cons]
   refine qba rfl ?_
   simp only [show IntKind.i64.wrap (deep - 1) = deep - 1 from i64_in _ (by omega), cvInt, qee, cvSlg]
   refine qba ?_ ?_
   ·simp only [Bool.and_eq_true]
    exact ⟨isSr_of (hye ▸ hy) (hye ▸ hyb), qfn (by omega)⟩
   ·have e : ndSize [.int .i64 t, .sli .u8 b, .slg 3 l] (deep - 1) = if okF rk d y = true then ((qam rk y).1.length : Int) else -1 := by
     rw [<- hye, ndSize_eq hy, show (deep - 1).toNat = d by omega]
    have es : sumL (fun c => (qam rk (cell1 c)).1) (ka.drop i) = ((qam rk y).1.length : Int) + sumL (fun c => (qam rk (cell1 c)).1) (ka.drop (i + 1)) := by rw [ed]; rfl
    have hpos := (sumL_drop (fun c => (qam rk (cell1 c)).1) ka (i + 1)).1
    rw [es] at hs
    rw [e]
    have ea : (ka.drop i).all (fun c => okF rk d (cell1 c)) = (okF rk d y && (ka.drop (i + 1)).all (fun c => okF rk d (cell1 c))) := by rw [ed, List.all_cons]; rfl
    rw [ea, es] at hR
    by_cases hok : okF rk d y = true
    ·rw [hok, Bool.true_and] at hR
     rw [if_pos hok]
     refine qfq (by omega) ?_
     rw [show IntKind.i64.wrap (s + ((qam rk y).1.length : Int)) = s + ((qam rk y).1.length : Int) from i64_in _ (by omega)]
     refine qfq (by omega) ?_
     rw [show IntKind.i64.wrap ((i : Int) + 1) = ((i + 1 : Nat) : Int) from (i64_in _ (by omega)).trans (by omega)]
     refine (size_lp2 rk d deep hd hdd ka hlen hall hsum k1 F f (i + 1) _ (by omega) (by omega) (by omega) (by omega)).trans ?_
     rw [hR, Int.add_assoc]
    ·rw [if_neg hok]
     refine qau (by omega) ?_
     rw [hR, if_neg (by simp [hok])]
  ·rw [List.drop_eq_nil_of_le (by omega)] at hR
   rw [hR]
   show F s = if ([] : List CV).all (fun c => okF rk d (cell1 c)) = true then F (s + 0) else _
   rw [if_pos (by rfl), Int.add_zero]
theorem nDSize (rk : Nat) (ta : Int) (ba : List Int) (ka : List CV) (deep : Int) (hp : (isSr (rk + 1) [.int .i64 ta, .sli .u8 ba, .slg 3 ka] && qb9 deep) = true) : gDSize rk ta ba ka deep = some (.ret [.cl (.int .i64 (ndSize [.int .i64 ta, .sli .u8 ba, .slg 3 ka] deep))] []) := by
 simp only [Bool.and_eq_true] at hp
 obtain ⟨ht, hb⟩ := qka hp.1
 have hd := qgb hp.2
 obtain ⟨h1, h2, h3, h4, h5⟩ := qog ht hb
 rw [ndSize_eq ht]
 unfold gDSize qcv qbe qc4 qbs
 simp only [qae]
 refine qaf (fun h => ?_) fun h => ?_
 ·subst h; rfl
 obtain ⟨d, hdd⟩ : ∃ d, deep.toNat = d + 1 := ⟨deep.toNat - 1, by omega⟩
 rw [hdd]
 have hokF : okF (rk + 1) (d + 1) [.int .i64 ta, .sli .u8 ba, .slg 3 ka] = (qa9 ta && (if qa4 ta = true then decide (ba = []) && ka.all fun c => okF rk d (cell1 c) else decide (ka = []) && qcq ta ba)) := rfl
 rw [hokF]
 refine qce (fun hk => ?_) fun hk => ?_
 ·rw [if_neg (by simp only [Bool.not_eq_true'] at hk; simp [hk])]
 have hk : qa9 ta = true := by simpa using hk
 rw [hk, Bool.true_and]
 have hflen : (((ka.map fun c => (qam rk (cell1 c)).1).flatten).length : Int) <= 15000 := by
  have := qqv (g := fun c => (qam rk (cell1 c)).1) (h := fun c => qfp rk (cell1 c)) (l := ka) fun c hc => by
   obtain ⟨y, rfl, hy, _⟩ := h4 c hc
   exact qem hy
  omega
 refine qce (fun hx => ?_) fun hx => ?_
 ·rw [if_pos hx]
  refine qaf (fun hba => ?_) fun hba => ?_
  ·rw [if_neg (by intro e; simp only [Bool.and_eq_true, decide_eq_true_eq] at e; rw [e.1] at hba; simp at hba)]
  ·obtain rfl : ba = [] := List.eq_nil_of_length_eq_zero (by omega)
   refine (size_lp2 rk d deep (by omega) hdd ka (by omega) (fun c hc => by obtain ⟨y, e, hy, hyb⟩ := h4 c hc; exact ⟨y, e, hy, by omega⟩) (by rw [qdc]; exact hflen) _ (fun n => some (.ret [.cl (.int .i64 (IntKind.i64.wrap (IntKind.i64.wrap ((1 : Int) + qat n) + n)))] [])) FUEL 0 0 (by omega) (by unfold FUEL; omega) (by omega) (by rw [List.drop_zero, qdc]; omega)).trans ?_
   rw [List.drop_zero, decide_eq_true (show ([] : List Int) = [] from rfl), Bool.true_and, qdc, Int.zero_add]
   by_cases ha : (ka.all fun c => okF rk d (cell1 c)) = true
   ·rw [if_pos ha, if_pos ha]
    have hr := qc3 (((ka.map fun c => (qam rk (cell1 c)).1).flatten).length : Nat)
    rw [show IntKind.i64.wrap ((1 : Int) + qat (((ka.map fun c => (qam rk (cell1 c)).1).flatten).length : Nat)) = 1 + qat (((ka.map fun c => (qam rk (cell1 c)).1).flatten).length : Nat) from i64_in _ (by omega)]
    rw [i64_in _ (show -9223372036854775808 <= (1 : Int) + qat (((ka.map fun c => (qam rk (cell1 c)).1).flatten).length : Nat) + (((ka.map fun c => (qam rk (cell1 c)).1).flatten).length : Nat) /\ _ <= 9223372036854775807 by omega)]
    refine qll ?_
    simp only [qam]
    rw [if_pos hx]
    have e : ((ka.map fun c => qam rk (cell1 c)).map (·.1)) = ka.map fun c => (qam rk (cell1 c)).1 := by rw [List.map_map]; rfl
    simp only [e]
    rw [List.length_append]
    have hh := qlv ta (((ka.map fun c => (qam rk (cell1 c)).1).flatten).length : Nat)
    omega
   ·rw [if_neg ha, if_neg ha]
 ·rw [if_neg (show ¬qa4 ta = true by simp [hx])]
  refine qaf (fun hka => ?_) fun hka => ?_
  ·rw [if_neg (by intro e; simp only [Bool.and_eq_true, decide_eq_true_eq] at e; rw [e.1] at hka; simp at hka)]
  ·obtain rfl : ka = [] := List.eq_nil_of_length_eq_zero (by omega)
   refine qfq (by omega) (qba (qbr (by omega) h3) ?_)
   rw [decide_eq_true (show ([] : List CV) = [] from rfl), Bool.true_and]
   refine qce (fun hf => ?_) fun hf => ?_
   ·rw [if_neg (by simp only [Bool.not_eq_true'] at hf; simp [hf])]
   ·rw [if_pos (by simpa using hf)]
    have hr := qc3 (ba.length : Nat)
    rw [show IntKind.i64.wrap ((1 : Int) + qat (ba.length : Nat)) = 1 + qat (ba.length : Nat) from i64_in _ (by omega)]
    rw [i64_in _ (show -9223372036854775808 <= (1 : Int) + qat (ba.length : Nat) + (ba.length : Nat) /\ _ <= 9223372036854775807 by omega)]
    refine qll ?_
    simp only [qam]
    rw [if_neg (show ¬qa4 ta = true by simp [hx])]
    have hh := qlv ta (ba.length : Nat)
    simp only [List.length_append]
    omega
end Go.Proofs.YtbgkadaidhgggaaDoorA

namespace Go.Proofs.YtbgkadaidhgggaaDoorA
open IntWalk (i64_in u8_in u32_in u64_in i64_quo u8_quo rem_in)

theorem qkz {t : Int} (h : qa9 t = true) : 0 <= t /\ t <= 255 := by
 unfold qa9 qa4 at h
 simp only [Bool.or_eq_true, decide_eq_true_eq] at h
 omega
theorem head_byte {t n : Int} (ht : 0 <= t /\ t <= 255) (hn : 0 <= n /\ n < 16777216) : ∀ z ∈ qcr t n, 0 <= z /\ z <= 255 := by
 intro z hz
 unfold qcr at hz
 rcases List.mem_cons.1 hz with rfl | hz
 ·exact ht
 ·split at hz
  ·simp only [List.mem_cons, List.mem_nil_iff, or_false] at hz; omega
  ·split at hz
   ·simp only [List.mem_cons, List.mem_nil_iff, or_false] at hz; omega
   ·split at hz
    ·simp only [List.mem_cons, List.mem_nil_iff, or_false] at hz; omega
    ·simp only [List.mem_cons, List.mem_nil_iff, or_false] at hz; omega
theorem qi5 {n d : Nat} {t : Int} {b : List Int} {l : List CV} (h : okF (n + 1) d [.int .i64 t, .sli .u8 b, .slg 3 l] = true) : ∃ d', d = d' + 1 /\ qa9 t = true /\ ((qa4 t = true /\ b = [] /\ ∀ c ∈ l, okF n d' (cell1 c) = true) \/ (qa4 t = false /\ l = [] /\ qcq t b = true)) := by
 cases d with
 | zero => exact absurd h Bool.false_ne_true
 | succ d =>
  have h : (qa9 t && (if qa4 t = true then decide (b = []) && l.all fun c => okF n d (cell1 c) else decide (l = []) && qcq t b)) = true := h
  rw [Bool.and_eq_true] at h
  refine ⟨d, rfl, h.1, ?_⟩
  obtain ⟨_, h⟩ := h
  split at h
  ·rename_i hx
   simp only [Bool.and_eq_true, decide_eq_true_eq, List.all_eq_true] at h
   exact .inl ⟨hx, h⟩
  ·rename_i hx
   simp only [Bool.and_eq_true, decide_eq_true_eq] at h
   exact .inr ⟨by simpa using hx, h⟩
theorem qh6 {n : Nat} {t : Int} {b : List Int} {l : List CV} (hx : qa4 t = true) : qam (n + 1) [.int .i64 t, .sli .u8 b, .slg 3 l] = (qcr t ((l.map fun c => (qam n (cell1 c)).1).flatten.length : Nat) ++ (l.map fun c => (qam n (cell1 c)).1).flatten, (l.all fun c => (qam n (cell1 c)).2) && (!(decide (t = 49)) || qa1 (l.map fun c => (qam n (cell1 c)).1))) := by
 simp only [qam]
 rw [if_pos hx]
 have e : ((l.map fun c => qam n (cell1 c)).map (·.1)) = l.map fun c => (qam n (cell1 c)).1 := by rw [List.map_map]; rfl
 have e2 : ((l.map fun c => qam n (cell1 c)).all (·.2)) = l.all fun c => (qam n (cell1 c)).2 := by rw [List.all_map]; rfl
 simp only [e, e2]
theorem qf6 {n : Nat} {t : Int} {b : List Int} {l : List CV} (hx : qa4 t = false) : qam (n + 1) [.int .i64 t, .sli .u8 b, .slg 3 l] = (qcr t (b.length : Nat) ++ b, true) := by
 simp only [qam]
 rw [if_neg (show ¬qa4 t = true by simp [hx])]
theorem flat5 {n : Nat} {l : List CV} {B : Nat} (hl : ∀ c ∈ l, ∃ y, c = .agg y /\ isTf n y = true) (hb : (l.map fun c => qfp n (cell1 c)).sum <= B) : ((l.map fun c => (qam n (cell1 c)).1).flatten).length <= 5 * B := by
 have := qqv (g := fun c => (qam n (cell1 c)).1) (h := fun c => qfp n (cell1 c)) (l := l) fun c hc => by
  obtain ⟨y, rfl, hy⟩ := hl c hc
  exact qem hy
 omega
theorem qmu : ∀ {n d : Nat} {x : List CV}, isTf n x = true -> qfp n x <= 3000 -> okF n d x = true -> ∀ z ∈ (qam n x).1, 0 <= z /\ z <= 255
 | n, d, x, hn, hb, hok => by
  obtain ⟨n', t, b, l, rfl, rfl, hbb, hl⟩ := qcu hn
  obtain ⟨h1, h2, h3, h4, h5⟩ := qog hn hb
  obtain ⟨d', rfl, hk, h⟩ := qi5 hok
  rcases h with ⟨hx, rfl, hall⟩ | ⟨hx, rfl, hf⟩
  ·rw [qh6 hx]
   have hfl := flat5 (B := 3000) hl (by omega)
   intro z hz
   rcases List.mem_append.1 hz with hz | hz
   ·exact head_byte (qkz hk) (by omega) z hz
   ·obtain ⟨r, hr, hz⟩ := List.mem_flatten.1 hz
    obtain ⟨c, hc, rfl⟩ := List.mem_map.1 hr
    obtain ⟨y, rfl, hy, hyb⟩ := h4 c hc
    exact qmu hy (by omega) (hall _ hc) z hz
  ·rw [qf6 hx]
   intro z hz
   rcases List.mem_append.1 hz with hz | hz
   ·exact head_byte (qkz hk) (by omega) z hz
   ·exact h3 z hz

theorem qrm (R : List (List Int)) : qcs (R.map (CV.sli .u8)) = R.flatten := by
 unfold qcs
 rw [qae, List.flatMap_map]
 show R.flatMap (fun x => x) = _
 rw [List.flatMap_id']
theorem joinOk_map {R : List (List Int)} (h1 : R.length <= 1000000) (h2 : ∀ x ∈ R, rowB x = true) (h3 : R.flatten.length <= 1000000) : qn3 (R.map (CV.sli .u8)) = true := by
 unfold qn3
 rw [qae]
 simp only [Bool.and_eq_true, decide_eq_true_eq, List.all_eq_true, List.length_map, List.mem_map]
 refine ⟨h1, fun x hx => ?_, ?_⟩
 ·obtain ⟨y, hy, rfl⟩ := hx
  exact h2 y hy
 ·have := qrm R
  unfold qcs at this
  rw [qae] at this
  rw [this]
  exact h3
noncomputable def badW : Option Out := some (.ret [.cl (.sli .u8 []), .cl (.bool false)] [])
noncomputable def headW (t s : Int) (rows : List CV) : Option Out :=
 cond (qk6 t s) (cond (qn3 rows) (cond (decide ((((qcn t s ++ qcs rows).length : Nat) : Int) * 1 <= LIM)) (cond (decide ((((qcn t s ++ qcs rows).length : Nat) : Int) <= LIM)) (some (.ret [.cl (.sli .u8 (qcn t s ++ qcs rows)), .cl (.bool true)] [])) none) none) none) none
noncomputable def finW (t s : Int) (rows : List CV) : Option Out :=
 cond (decide (t = 49)) (cond (qf0 rows) (cond (!(qbg rows)) badW (headW t s rows)) none) (headW t s rows)
theorem fin_w {t : Int} {R : List (List Int)} (ht : 0 <= t /\ t <= 255) (h1 : R.length <= 3000) (h2 : ∀ x ∈ R, rowB x = true) (h3 : R.flatten.length <= 15000) :
  finW t ((R.flatten.length : Nat) : Int) (R.map (CV.sli .u8)) = if (!(decide (t = 49)) || qa1 R) = true then some (.ret [.cl (.sli .u8 (qcr t (R.flatten.length : Nat) ++ R.flatten)), .cl (.bool true)] []) else badW := by
 have hh : headW t ((R.flatten.length : Nat) : Int) (R.map (CV.sli .u8)) = some (.ret [.cl (.sli .u8 (qcr t (R.flatten.length : Nat) ++ R.flatten)), .cl (.bool true)] []) := by
  unfold headW qcn
  rw [qae, qrm]
  have hl := qlv t (R.flatten.length : Nat)
  have hr := qc3 (R.flatten.length : Nat)
  refine qba ?_ (qba (joinOk_map (by omega) h2 (by omega)) (qau (by simp only [List.length_append]; unfold LIM; omega) (qau (by simp only [List.length_append]; unfold LIM; omega) rfl)))
  unfold qk6
  rw [qae]
  exact decide_eq_true (by omega)
 unfold finW
 rw [hh, qhp]
 refine qaf (fun h => qba (rowsOk_map (by omega) h2) (qce (fun h9 => ?_) fun h9 => ?_)) fun h => ?_
 ·rw [if_neg (by simp only [Bool.not_eq_true'] at h9; simp [h, h9])]
 ·rw [if_pos (by simp only [Bool.not_eq_false'] at h9; simp [h9])]
 ·rw [if_pos (by simp [h])]
theorem rows_b {n d : Nat} {l : List CV} (h4 : ∀ c ∈ l, ∃ y, c = .agg y /\ isTf n y = true /\ qfp n y + 1 <= 3000) (hall : ∀ c ∈ l, okF n d (cell1 c) = true) : ∀ x ∈ (l.map fun c => (qam n (cell1 c)).1), rowB x = true := by
 intro x hx
 obtain ⟨c, hc, rfl⟩ := List.mem_map.1 hx
 obtain ⟨y, rfl, hy, hyb⟩ := h4 c hc
 have h1 := qem hy
 have h2 := qmu hy (by omega) (hall _ hc)
 unfold rowB
 simp only [Bool.and_eq_true, decide_eq_true_eq, List.all_eq_true]
 exact ⟨by show (qam n y).1.length <= _; omega, fun z hz => decide_eq_true (h2 z hz)⟩

end Go.Proofs.YtbgkadaidhgggaaDoorA

namespace Go.Proofs.YtbgkadaidhgggaaDoorA
open IntWalk (i64_in u8_in u32_in u64_in i64_quo u8_quo rem_in)

theorem rwrite_lp (rk d : Nat) (deep ta : Int) (ba : List Int) (hd : 1 <= deep /\ deep <= 1000) (hdd : deep.toNat = d + 1) (ka : List CV) (hlen : ka.length <= 3000) (hall : ∀ c ∈ ka, ∃ y, c = .agg y /\ isTf rk y = true /\ qfp rk y + 1 <= 3000) : ∀ (f i : Nat) (s : Int) (rows : List CV), i <= ka.length -> ka.length < f + i -> 0 <= s -> s + sumL (fun c => (qam rk (cell1 c)).1) (ka.drop i) <= 15000 -> rows.length = i ->
  qds rk (fun _ _ _ _ _ _ _ _ _ _ _ _ _ _ _ _ _ _ _ _ _ _ _ _ _ _ _ _ _ _ _ _ _ _ => badW) (fun _ _ _ _ _ _ _ _ _ _ _ _ _ _ _ _ _ _ _ _ _ _ _ _ _ _ _ _ _ _ _ _ _ _ _ _ => badW) (fun _ _ y79 _ _ _ _ y84 _ _ y87 => finW y84 y79 y87) f deep rows.length s i ta ba ka rows = if (ka.drop i).all (fun c => okF rk d (cell1 c) && (qam rk (cell1 c)).2) = true then finW ta (s + sumL (fun c => (qam rk (cell1 c)).1) (ka.drop i)) (rows ++ (ka.drop i).map fun c => .sli .u8 (qam rk (cell1 c)).1) else badW
 | 0, i, s, rows, hi, hf, _, _, _ => by omega
 | f + 1, i, s, rows, hi, hf, h0, hs, hr => by
  show qhl rk (qds rk (fun _ _ _ _ _ _ _ _ _ _ _ _ _ _ _ _ _ _ _ _ _ _ _ _ _ _ _ _ _ _ _ _ _ _ => badW) (fun _ _ _ _ _ _ _ _ _ _ _ _ _ _ _ _ _ _ _ _ _ _ _ _ _ _ _ _ _ _ _ _ _ _ _ _ => badW) (fun _ _ y79 _ _ _ _ y84 _ _ y87 => finW y84 y79 y87) f) (fun _ _ _ _ _ _ _ _ _ _ _ _ _ _ _ _ _ _ _ _ _ _ _ _ _ _ _ _ _ _ _ _ _ _ => badW) (fun _ _ _ _ _ _ _ _ _ _ _ _ _ _ _ _ _ _ _ _ _ _ _ _ _ _ _ _ _ _ _ _ _ _ _ _ => badW) (fun _ _ y79 _ _ _ _ y84 _ _ y87 => finW y84 y79 y87) deep rows.length s i ta ba ka rows = _
  unfold qhl
  obtain ⟨R, hR⟩ : ∃ R : Option Out, R = if (ka.drop i).all (fun c => okF rk d (cell1 c) && (qam rk (cell1 c)).2) = true then finW ta (s + sumL (fun c => (qam rk (cell1 c)).1) (ka.drop i)) (rows ++ (ka.drop i).map fun c => .sli .u8 (qam rk (cell1 c)).1) else badW := ⟨_, rfl⟩
  rw [<- hR]
  refine qaf (fun h => ?_) fun h => ?_
  ·obtain ⟨c, hc⟩ := qbj (b := ka) (i := i) (by omega)
   obtain ⟨y, rfl, hy, hyb⟩ := hall c (List.mem_of_getElem? hc)
   have ed : ka.drop i = .agg y :: ka.drop (i + 1) := by
    obtain ⟨hlt, e⟩ := List.getElem?_eq_some_iff.1 hc
    rw [List.drop_eq_getElem_cons hlt, e]
   refine qau (by omega) (qau h ?_)
   rw [show (i : Int).toNat = i from rfl, hc, Option.bind_some]
   obtain ⟨m, t, b, l, hm, hye, _⟩ := qcu hy
   simp only [cell1, hye, List.headD_cons, List.tail_cons]
   refine qba rfl ?_
   simp only [show IntKind.i64.wrap (deep - 1) = deep - 1 from i64_in _ (by omega), cvInt, qee, cvSlg]
   refine qba ?_ ?_
   ·simp only [Bool.and_eq_true]
    exact ⟨isSr_of (hye ▸ hy) (hye ▸ (by omega)), qfn (by omega)⟩
   ·have e : qfa [.int .i64 t, .sli .u8 b, .slg 3 l] (deep - 1) = if okF rk d y = true /\ (qam rk y).2 = true then ((qam rk y).1, true) else ([], false) := by
     rw [<- hye, qos hy, show (deep - 1).toNat = d by omega]
    have es : sumL (fun c => (qam rk (cell1 c)).1) (ka.drop i) = ((qam rk y).1.length : Int) + sumL (fun c => (qam rk (cell1 c)).1) (ka.drop (i + 1)) := by rw [ed]; rfl
    have hpos := (sumL_drop (fun c => (qam rk (cell1 c)).1) ka (i + 1)).1
    rw [es] at hs hR
    have em : ((ka.drop i).map fun c => CV.sli .u8 (qam rk (cell1 c)).1) = .sli .u8 (qam rk y).1 :: (ka.drop (i + 1)).map fun c => .sli .u8 (qam rk (cell1 c)).1 := by rw [ed]; rfl
    have ea : (ka.drop i).all (fun c => okF rk d (cell1 c) && (qam rk (cell1 c)).2) = ((okF rk d y && (qam rk y).2) && (ka.drop (i + 1)).all (fun c => okF rk d (cell1 c) && (qam rk (cell1 c)).2)) := by rw [ed, List.all_cons]; rfl
    rw [ea, em] at hR
    by_cases hok : okF rk d y = true /\ (qam rk y).2 = true
    ·rw [if_pos hok] at e
     rw [hok.1, hok.2, Bool.and_self, Bool.true_and] at hR
     simp only [e]
     refine b_neg rfl ?_
     rw [show IntKind.i64.wrap (s + ((qam rk y).1.length : Int)) = s + ((qam rk y).1.length : Int) from i64_in _ (by omega)]
     refine qfq (by omega) ?_
     refine qau (by simp only [List.length_append, List.length_singleton]; unfold LIM; omega) (qau (by simp only [List.length_append, List.length_singleton]; unfold LIM; omega) ?_)
     rw [show IntKind.i64.wrap ((i : Int) + 1) = ((i + 1 : Nat) : Int) from (i64_in _ (by omega)).trans (by omega)]
     refine (rwrite_lp rk d deep ta ba hd hdd ka hlen hall f (i + 1) _ _ (by omega) (by omega) (by omega) (by omega) (by simp only [List.length_append, List.length_singleton]; omega)).trans ?_
     rw [hR, Int.add_assoc, List.append_assoc]
     rfl
    ·rw [if_neg hok] at e
     simp only [e]
     refine qba rfl ?_
     rw [hR, if_neg (by intro h; simp only [Bool.and_eq_true] at h; exact hok h.1)]
  ·rw [List.drop_eq_nil_of_le (by omega)] at hR
   rw [hR]
   show finW ta s rows = if ([] : List CV).all (fun c => okF rk d (cell1 c) && (qam rk (cell1 c)).2) = true then finW ta (s + 0) (rows ++ []) else _
   rw [if_pos (by rfl), Int.add_zero, List.append_nil]
theorem rows_map (n : Nat) (l : List CV) : (l.map fun c => CV.sli .u8 (qam n (cell1 c)).1) = (l.map fun c => (qam n (cell1 c)).1).map (CV.sli .u8) := by rw [List.map_map]; rfl
theorem nRWrite (rk : Nat) (ta : Int) (ba : List Int) (ka : List CV) (deep : Int) (hp : (isSr (rk + 1) [.int .i64 ta, .sli .u8 ba, .slg 3 ka] && qb9 deep) = true) : gRWrite rk ta ba ka deep = some (.ret [.cl (.sli .u8 (qfa [.int .i64 ta, .sli .u8 ba, .slg 3 ka] deep).1), .cl (.bool (qfa [.int .i64 ta, .sli .u8 ba, .slg 3 ka] deep).2)] []) := by
 simp only [Bool.and_eq_true] at hp
 obtain ⟨ht, hb⟩ := qka hp.1
 have hd := qgb hp.2
 obtain ⟨h1, h2, h3, h4, h5⟩ := qog ht hb
 rw [qos ht]
 have bad : ∀ P : Prop, [Decidable P] -> ¬P -> ∀ q : List Int × Bool, badW = some (.ret [.cl (.sli .u8 (if P then q else ([], false) : List Int × Bool).1), .cl (.bool (if P then q else ([], false) : List Int × Bool).2)] []) := fun P _ h q => by rw [if_neg h]; rfl
 unfold gRWrite qcv qbe qc4
 simp only [qae]
 refine qaf (fun h => ?_) fun h => ?_
 ·subst h; exact bad _ (fun e => absurd e.1 Bool.false_ne_true) _
 obtain ⟨d, hdd⟩ : ∃ d, deep.toNat = d + 1 := ⟨deep.toNat - 1, by omega⟩
 rw [hdd]
 refine qce (fun hk => ?_) fun hk => ?_
 ·exact bad _ (fun e => by obtain ⟨_, _, h, _⟩ := qi5 e.1; simp [h] at hk) _
 have hk : qa9 ta = true := by simpa using hk
 have hflen := flat5 (n := rk) (l := ka) (B := 3000) (fun c hc => by obtain ⟨y, e, hy, _⟩ := h4 c hc; exact ⟨y, e, hy⟩) (by omega)
 refine qce (fun hx => ?_) fun hx => ?_
 ·have hx : qa4 ta = false := by simpa using hx
  refine qaf (fun hka => ?_) fun hka => ?_
  ·exact bad _ (fun e => by
    obtain ⟨_, _, _, h | h⟩ := qi5 e.1
    ·simp [hx] at h
    ·rw [h.2.1] at hka; simp at hka) _
  ·obtain rfl : ka = [] := List.eq_nil_of_length_eq_zero (by omega)
   refine qfq (by omega) (qba (qbr (by omega) h3) ?_)
   refine qce (fun hf => ?_) fun hf => ?_
   ·exact bad _ (fun e => by
     obtain ⟨_, _, _, h | h⟩ := qi5 e.1
     ·simp [hx] at h
     ·simp [h.2.2] at hf) _
   ·have hf : qcq ta ba = true := by simpa using hf
    have hok : okF (rk + 1) (d + 1) [.int .i64 ta, .sli .u8 ba, .slg 3 []] = true := by
     show (qa9 ta && (if qa4 ta = true then _ else decide (([] : List CV) = []) && qcq ta ba)) = true
     rw [if_neg (by simp [hx]), hk, hf]
     rfl
    rw [qf6 hx, if_pos ⟨hok, rfl⟩]
    have hr := qlv ta (ba.length : Nat)
    have hr2 := qc3 (ba.length : Nat)
    unfold qcn
    simp only [qae]
    have := qkz hk
    refine qba (by unfold qk6; rw [qae]; exact decide_eq_true (by omega)) (qau (by simp only [List.length_append]; unfold LIM; omega) (qau (by simp only [List.length_append]; unfold LIM; omega) rfl))
 ·have hx : qa4 ta = true := by simpa using hx
  refine qaf (fun hba => ?_) fun hba => ?_
  ·exact bad _ (fun e => by
    obtain ⟨_, _, _, h | h⟩ := qi5 e.1
    ·rw [h.2.1] at hba; simp at hba
    ·simp [hx] at h) _
  ·obtain rfl : ba = [] := List.eq_nil_of_length_eq_zero (by omega)
   refine (rwrite_lp rk d deep ta [] (by omega) hdd ka (by omega) h4 FUEL 0 0 [] (by omega) (by unfold FUEL; omega) (by omega) (by rw [List.drop_zero, qdc]; omega) rfl).trans ?_
   rw [List.drop_zero, qdc, Int.zero_add, List.nil_append, rows_map]
   by_cases ha : (ka.all fun c => okF rk d (cell1 c) && (qam rk (cell1 c)).2) = true
   ·rw [if_pos ha]
    simp only [List.all_eq_true, Bool.and_eq_true] at ha
    have hok : okF (rk + 1) (d + 1) [.int .i64 ta, .sli .u8 [], .slg 3 ka] = true := by
     show (qa9 ta && (if qa4 ta = true then decide (([] : List Int) = []) && ka.all fun c => okF rk d (cell1 c) else _)) = true
     rw [if_pos hx, hk]
     simp only [Bool.true_and, decide_true, List.all_eq_true]
     exact fun c hc => (ha c hc).1
    rw [fin_w (qkz hk) (by rw [List.length_map]; omega) (rows_b h4 fun c hc => (ha c hc).1) (by omega), qh6 hx]
    have h2' : (ka.all fun c => (qam rk (cell1 c)).2) = true := by simp only [List.all_eq_true]; exact fun c hc => (ha c hc).2
    rw [h2', Bool.true_and]
    by_cases hs : (!(decide (ta = 49)) || qa1 (ka.map fun c => (qam rk (cell1 c)).1)) = true
    ·rw [if_pos hs, if_pos ⟨hok, hs⟩]
    ·rw [if_neg hs]
     exact bad _ (fun e => hs e.2) _
   ·rw [if_neg ha]
    refine bad _ (fun e => ha ?_) _
    obtain ⟨d', e1, _, h | h⟩ := qi5 e.1
    ·obtain rfl : d = d' := by omega
     have e2 := e.2
     rw [qh6 hx] at e2
     simp only [Bool.and_eq_true, List.all_eq_true] at e2 ⊢
     exact fun c hc => ⟨h.2.2 c hc, e2.1 c hc⟩
    ·simp [hx] at h
end Go.Proofs.YtbgkadaidhgggaaDoorA

namespace Go.Proofs.YtbgkadaidhgggaaDoorA
open IntWalk (i64_in u8_in u32_in u64_in i64_quo u8_quo rem_in)

theorem dwrite_lp (rk d : Nat) (ta : Int) (ba : List Int) (ka kb : List CV) (hlen : ka.length <= 3000) (hall : ∀ c ∈ ka, ∃ y, c = .agg y /\ isTf rk y = true /\ qfp rk y + 1 <= 3000) (hok : ∀ c ∈ ka, okF rk d (cell1 c) = true) : ∀ (f i : Nat) (s : Int), i <= ka.length -> ka.length < f + i -> 0 <= s -> s + sumL (fun c => (qam rk (cell1 c)).1) (ka.drop i) <= 15000 ->
  qez rk (fun _ _ _ _ _ _ _ _ _ _ _ _ _ _ _ _ _ _ _ _ _ _ _ _ _ _ _ _ _ _ _ => badW) (fun _ y37 _ _ _ y41 _ _ y44 => finW y41 y37 y44) f ka.length s ka ((ka.length : Nat) : Int) i ta ba kb (((ka.take i).map fun c => CV.sli .u8 (qam rk (cell1 c)).1) ++ List.replicate (ka.length - i) (.sli .u8 [])) = if (ka.drop i).all (fun c => (qam rk (cell1 c)).2) = true then finW ta (s + sumL (fun c => (qam rk (cell1 c)).1) (ka.drop i)) (ka.map fun c => .sli .u8 (qam rk (cell1 c)).1) else badW
 | 0, i, s, hi, hf, _, _ => by omega
 | f + 1, i, s, hi, hf, h0, hs => by
  show qkh rk (qez rk (fun _ _ _ _ _ _ _ _ _ _ _ _ _ _ _ _ _ _ _ _ _ _ _ _ _ _ _ _ _ _ _ => badW) (fun _ y37 _ _ _ y41 _ _ y44 => finW y41 y37 y44) f) (fun _ _ _ _ _ _ _ _ _ _ _ _ _ _ _ _ _ _ _ _ _ _ _ _ _ _ _ _ _ _ _ => badW) (fun _ y37 _ _ _ y41 _ _ y44 => finW y41 y37 y44) ka.length s ka ((ka.length : Nat) : Int) i ta ba kb (((ka.take i).map fun c => CV.sli .u8 (qam rk (cell1 c)).1) ++ List.replicate (ka.length - i) (.sli .u8 [])) = _
  unfold qkh
  obtain ⟨R, hR⟩ : ∃ R : Option Out, R = if (ka.drop i).all (fun c => (qam rk (cell1 c)).2) = true then finW ta (s + sumL (fun c => (qam rk (cell1 c)).1) (ka.drop i)) (ka.map fun c => .sli .u8 (qam rk (cell1 c)).1) else badW := ⟨_, rfl⟩
  rw [<- hR]
  obtain ⟨W, hW⟩ : ∃ W : List CV, W = ((ka.take i).map fun c => CV.sli .u8 (qam rk (cell1 c)).1) ++ List.replicate (ka.length - i) (.sli .u8 []) := ⟨_, rfl⟩
  rw [<- hW]
  refine qaf (fun h => ?_) fun h => ?_
  ·obtain ⟨c, hc⟩ := qbj (b := ka) (i := i) (by omega)
   obtain ⟨y, rfl, hy, hyb⟩ := hall c (List.mem_of_getElem? hc)
   have hoky : okF rk d y = true := hok _ (List.mem_of_getElem? hc)
   have ed : ka.drop i = .agg y :: ka.drop (i + 1) := by
    obtain ⟨hlt, e⟩ := List.getElem?_eq_some_iff.1 hc
    rw [List.drop_eq_getElem_cons hlt, e]
   refine qau (by omega) (qau h ?_)
   rw [show (i : Int).toNat = i from rfl, hc, Option.bind_some]
   obtain ⟨m, t, b, l, hm, hye, _⟩ := qcu hy
   have hset : W.set (0 + i) (.sli .u8 (qam rk y).1) = ((ka.take (i + 1)).map fun c => CV.sli .u8 (qam rk (cell1 c)).1) ++ List.replicate (ka.length - (i + 1)) (.sli .u8 []) := by
    rw [hW, Nat.zero_add, List.set_append_right _ _ (by simp; omega)]
    have e1 : i - ((ka.take i).map fun c => CV.sli .u8 (qam rk (cell1 c)).1).length = 0 := by simp; omega
    rw [e1, show ka.length - i = (ka.length - (i + 1)) + 1 by omega, List.replicate_succ, List.set_cons_zero]
    have e2 : ka.take (i + 1) = ka.take i ++ [.agg y] := by
     rw [List.take_add_one, hc]; rfl
    rw [e2, List.map_append, List.append_assoc]
    rfl
   simp only [cell1, hye, List.headD_cons, List.tail_cons]
   refine qba rfl ?_
   simp only [cvInt, qee, cvSlg]
   refine qba ?_ ?_
   ·exact isWr_of ⟨hye ▸ hy, hye ▸ (by omega), d, hye ▸ hoky⟩
   ·have e : qjd [.int .i64 t, .sli .u8 b, .slg 3 l] = if (qam rk y).2 = true then ((qam rk y).1, true) else ([], false) := by
     rw [<- hye, qq5 hy]
    have es : sumL (fun c => (qam rk (cell1 c)).1) (ka.drop i) = ((qam rk y).1.length : Int) + sumL (fun c => (qam rk (cell1 c)).1) (ka.drop (i + 1)) := by rw [ed]; rfl
    have hpos := (sumL_drop (fun c => (qam rk (cell1 c)).1) ka (i + 1)).1
    rw [es] at hs hR
    have ea : (ka.drop i).all (fun c => (qam rk (cell1 c)).2) = ((qam rk y).2 && (ka.drop (i + 1)).all (fun c => (qam rk (cell1 c)).2)) := by rw [ed, List.all_cons]; rfl
    rw [ea] at hR
    by_cases hk : (qam rk y).2 = true
    ·rw [if_pos hk] at e
     rw [hk, Bool.true_and] at hR
     simp only [e]
     refine b_neg rfl ?_
     rw [show IntKind.i64.wrap (s + ((qam rk y).1.length : Int)) = s + ((qam rk y).1.length : Int) from i64_in _ (by omega)]
     refine qau (by omega) (qau h ?_)
     rw [hset, show IntKind.i64.wrap ((i : Int) + 1) = ((i + 1 : Nat) : Int) from (i64_in _ (by omega)).trans (by omega)]
     refine (dwrite_lp rk d ta ba ka kb hlen hall hok f (i + 1) _ (by omega) (by omega) (by omega) (by omega)).trans ?_
     rw [hR, Int.add_assoc]
    ·rw [if_neg hk] at e
     simp only [e]
     refine qba rfl ?_
     rw [hR, if_neg (by intro h; simp only [Bool.and_eq_true] at h; exact hk h.1)]
  ·obtain rfl : i = ka.length := by omega
   rw [List.drop_eq_nil_of_le (Nat.le_refl _)] at hR
   rw [hR, hW, List.take_length, Nat.sub_self]
   show finW ta s ((ka.map fun c => CV.sli .u8 (qam rk (cell1 c)).1) ++ []) = if ([] : List CV).all (fun c => (qam rk (cell1 c)).2) = true then finW ta (s + 0) _ else _
   rw [if_pos (by rfl), Int.add_zero, List.append_nil]
theorem nDWrite (rk : Nat) (ta : Int) (ba : List Int) (ka : List CV) (hp : isWr (rk + 1) [.int .i64 ta, .sli .u8 ba, .slg 3 ka] = true) : gDWrite rk ta ba ka = some (.ret [.cl (.sli .u8 (qjd [.int .i64 ta, .sli .u8 ba, .slg 3 ka]).1), .cl (.bool (qjd [.int .i64 ta, .sli .u8 ba, .slg 3 ka]).2)] []) := by
 obtain ⟨ht, hb, d, hok⟩ := isWr_spec hp
 obtain ⟨h1, h2, h3, h4, h5⟩ := qog ht hb
 obtain ⟨d', rfl, hk, h⟩ := qi5 hok
 rw [qq5 ht]
 unfold gDWrite qbe
 simp only [qae]
 rcases h with ⟨hx, rfl, hall⟩ | ⟨hx, rfl, hf⟩
 ·have hflen := flat5 (n := rk) (l := ka) (B := 3000) (fun c hc => by obtain ⟨y, e, hy, _⟩ := h4 c hc; exact ⟨y, e, hy⟩) (by simp only [List.length_nil] at h5; omega)
  refine b_neg (by simp [hx]) (qau (by omega) (qau (by omega) (qau (by unfold LIM; omega) (qau (by unfold LIM; omega) ?_))))
  refine (dwrite_lp rk d' ta [] ka ka (by omega) h4 hall FUEL 0 0 (by omega) (by unfold FUEL; omega) (by omega) (by rw [List.drop_zero, qdc]; omega)).trans ?_
  rw [List.drop_zero, qdc, Int.zero_add, rows_map, qh6 hx]
  by_cases ha : (ka.all fun c => (qam rk (cell1 c)).2) = true
  ·rw [if_pos ha, fin_w (qkz hk) (by rw [List.length_map]; omega) (rows_b h4 hall) (by omega), ha, Bool.true_and]
   by_cases hs : (!(decide (ta = 49)) || qa1 (ka.map fun c => (qam rk (cell1 c)).1)) = true
   ·rw [if_pos hs, if_pos hs]
   ·rw [if_neg hs, if_neg hs]; rfl
  ·rw [if_neg ha]
   have hf : (ka.all fun c => (qam rk (cell1 c)).2) = false := by simpa using ha
   rw [hf, Bool.false_and]
   rfl
 ·have hr := qlv ta (ba.length : Nat)
  have hr2 := qc3 (ba.length : Nat)
  have := qkz hk
  unfold qcn
  simp only [qae]
  rw [qf6 hx]
  refine qba (by simp [hx]) (qba (by unfold qk6; rw [qae]; exact decide_eq_true (by omega)) (qau (by simp only [List.length_append]; unfold LIM; omega) (qau (by simp only [List.length_append]; unfold LIM; omega) rfl)))

/-! ### bytes, and what is fit -/
theorem nRBytes (ta : Int) (ba : List Int) (ka : List CV) (hp : isS [.int .i64 ta, .sli .u8 ba, .slg 3 ka] = true) : gRBytes ta ba ka = some (.ret [.cl (.sli .u8 (qa2 [.int .i64 ta, .sli .u8 ba, .slg 3 ka]).1), .cl (.int .i64 (qa2 [.int .i64 ta, .sli .u8 ba, .slg 3 ka]).2)] []) := by
 obtain ⟨n, ht, hb⟩ := qec hp
 have hl := qem ht
 unfold gRBytes
 refine qba (by rw [hp, qfn (by omega)]; rfl) ?_
 simp only [qos ht, qe2 ht, show (32 : Int).toNat = 32 from rfl]
 by_cases h : okF n 32 [.int .i64 ta, .sli .u8 ba, .slg 3 ka] = true /\ (qam n [.int .i64 ta, .sli .u8 ba, .slg 3 ka]).2 = true
 ·simp only [if_pos h]
  exact b_neg rfl (qfq (by omega) rfl)
 ·simp only [if_neg h]
  exact qba rfl rfl
theorem nDBytes (ta : Int) (ba : List Int) (ka : List CV) (hp : isS [.int .i64 ta, .sli .u8 ba, .slg 3 ka] = true) : gDBytes ta ba ka = some (.ret [.cl (.sli .u8 (qa2 [.int .i64 ta, .sli .u8 ba, .slg 3 ka]).1), .cl (.int .i64 (qa2 [.int .i64 ta, .sli .u8 ba, .slg 3 ka]).2)] []) := by
 obtain ⟨n, ht, hb⟩ := qec hp
 have hl := qem ht
 unfold gDBytes
 refine qba (by rw [hp, qfn (by omega)]; rfl) ?_
 rw [ndSize_eq ht, show (32 : Int).toNat = 32 from rfl]
 by_cases hok : okF n 32 [.int .i64 ta, .sli .u8 ba, .slg 3 ka] = true
 ·simp only [if_pos hok]
  refine qfq (by omega) (qfq (by omega) (qba (isW_of ⟨ht, hb, 32, hok⟩) ?_))
  simp only [qq5 ht, qe2 ht]
  by_cases h : (qam n [.int .i64 ta, .sli .u8 ba, .slg 3 ka]).2 = true
  ·simp only [if_pos h, if_pos (show okF n 32 [.int .i64 ta, .sli .u8 ba, .slg 3 ka] = true /\ (qam n [.int .i64 ta, .sli .u8 ba, .slg 3 ka]).2 = true from ⟨hok, h⟩)]
   exact b_neg rfl rfl
  ·simp only [if_neg h, if_neg (show ¬(okF n 32 [.int .i64 ta, .sli .u8 ba, .slg 3 ka] = true /\ (qam n [.int .i64 ta, .sli .u8 ba, .slg 3 ka]).2 = true) from fun e => h e.2)]
   exact qba rfl rfl
 ·simp only [if_neg hok, qe2 ht, if_neg (show ¬(okF n 32 [.int .i64 ta, .sli .u8 ba, .slg 3 ka] = true /\ (qam n [.int .i64 ta, .sli .u8 ba, .slg 3 ka]).2 = true) from fun e => hok e.1)]
  exact qau (by omega) rfl
theorem fit_bytes {n : Nat} {a : List CV} (ht : isTf n a = true) : decide ((qa2 a).2 = 0) = qql a := by
 rw [qe2 ht, ndFit_eq ht]
 by_cases h : okF n 32 a = true /\ (qam n a).2 = true
 ·rw [if_pos h, decide_eq_true h]; rfl
 ·rw [if_neg h, decide_eq_false h]; rfl
theorem nRFit_ (ta : Int) (ba : List Int) (ka : List CV) (hp : isS [.int .i64 ta, .sli .u8 ba, .slg 3 ka] = true) : gRFit_ ta ba ka = some (.ret [.cl (.bool (qql [.int .i64 ta, .sli .u8 ba, .slg 3 ka]))] []) := by
 obtain ⟨n, ht, hb⟩ := qec hp
 unfold gRFit_
 exact qba hp (qav (fit_bytes ht))
theorem nDFit_ (ta : Int) (ba : List Int) (ka : List CV) (hp : isS [.int .i64 ta, .sli .u8 ba, .slg 3 ka] = true) : gDFit_ ta ba ka = some (.ret [.cl (.bool (qql [.int .i64 ta, .sli .u8 ba, .slg 3 ka]))] []) := by
 obtain ⟨n, ht, hb⟩ := qec hp
 unfold gDFit_
 exact qba hp (qav (fit_bytes ht))
end Go.Proofs.YtbgkadaidhgggaaDoorA

namespace Go.Proofs.YtbgkadaidhgggaaDoorA
open IntWalk (i64_in u8_in u32_in u64_in i64_quo u8_quo rem_in)

theorem isNk_inv {n : Nat} {c : CV} (h : isNk n c = true) : ∃ y, c = .agg y /\ isNf n y = true := by
 unfold isNk at h
 split at h
 ·exact ⟨_, rfl, h⟩
 ·exact absurd h Bool.false_ne_true
theorem isNsr_spec {n : Nat} {l : List CV} (h : isNsr n l = true) : l.length <= 100000000 /\ ∀ c ∈ l, ∃ y, c = .agg y /\ isNf n y = true := by
 unfold isNsr at h
 rw [qae] at h
 simp only [Bool.and_eq_true, decide_eq_true_eq, List.all_eq_true] at h
 exact ⟨h.1, fun c hc => isNk_inv (h.2 c hc)⟩
theorem isNsr_of {n : Nat} {l : List CV} (h1 : l.length <= 100000000) (h2 : ∀ c ∈ l, ∃ y, c = .agg y /\ isNf n y = true) : isNsr n l = true := by
 unfold isNsr
 rw [qae]
 simp only [Bool.and_eq_true, decide_eq_true_eq, List.all_eq_true]
 refine ⟨h1, fun c hc => ?_⟩
 obtain ⟨y, rfl, hy⟩ := h2 c hc
 exact hy
theorem isNs_spec {l : List CV} (h : isNs l = true) : l.length <= 100000000 /\ ∃ n, ∀ c ∈ l, ∃ y, c = .agg y /\ isNf n y = true := by
 unfold isNs at h
 rw [qae] at h
 obtain ⟨h1, n, h2⟩ := @of_decide_eq_true _ (Classical.propDecidable _) h
 simp only [List.all_eq_true] at h2
 exact ⟨h1, n, fun c hc => isNk_inv (h2 c hc)⟩
theorem isNs_of {n : Nat} {l : List CV} (h1 : l.length <= 100000000) (h2 : ∀ c ∈ l, ∃ y, c = .agg y /\ isNf n y = true) : isNs l = true := by
 unfold isNs
 rw [qae]
 refine @decide_eq_true _ (Classical.propDecidable _) ⟨h1, n, ?_⟩
 simp only [List.all_eq_true]
 intro c hc
 obtain ⟨y, rfl, hy⟩ := h2 c hc
 exact hy
theorem qln {a b : List CV} : ndsSame a b = true ↔ a = b := by
 unfold ndsSame; rw [qae]; exact @decide_eq_true_iff _ (Classical.propDecidable _)
theorem ndsSame_false {a b : List CV} : ndsSame a b = false ↔ ¬a = b := by
 rw [<- Bool.not_eq_true, qln]

theorem eqf_lp (rk : Nat) (R : Bool -> Option Out) (ka kb : List CV)
  (hl : ka.length = kb.length) (hka : ka.length <= 100000000) (h1 : ∀ c ∈ ka, ∃ y, c = .agg y /\ isNf rk y = true) (n : Nat) (h2 : ∀ c ∈ kb, ∃ y, c = .agg y /\ isNf n y = true) : ∀ (f i : Nat), i <= ka.length -> ka.length < f + i ->
  lpEqF_4 rk (fun _ _ _ _ _ _ _ _ _ _ _ _ _ _ _ _ _ _ _ _ _ _ _ _ _ _ _ _ _ _ _ => R false) (fun _ _ _ _ => R true) f kb ka ((ka.length : Nat) : Int) i = R (@decide (ka.drop i = kb.drop i) (Classical.propDecidable _))
 | 0, i, hi, hf => by omega
 | f + 1, i, hi, hf => by
  show lpEqF_4s rk (lpEqF_4 rk (fun _ _ _ _ _ _ _ _ _ _ _ _ _ _ _ _ _ _ _ _ _ _ _ _ _ _ _ _ _ _ _ => R false) (fun _ _ _ _ => R true) f) (fun _ _ _ _ _ _ _ _ _ _ _ _ _ _ _ _ _ _ _ _ _ _ _ _ _ _ _ _ _ _ _ => R false) (fun _ _ _ _ => R true) kb ka ((ka.length : Nat) : Int) i = _
  unfold lpEqF_4s
  refine qaf (fun h => ?_) fun h => ?_
  ·obtain ⟨x, hx⟩ := qbj (b := ka) (i := i) (by omega)
   obtain ⟨y, hy⟩ := qbj (b := kb) (i := i) (by omega)
   obtain ⟨x', rfl, hx'⟩ := h1 x (List.mem_of_getElem? hx)
   obtain ⟨y', rfl, hy'⟩ := h2 y (List.mem_of_getElem? hy)
   refine qau (by omega) (qau h ?_)
   rw [show (i : Int).toNat = i from rfl, hx, Option.bind_some]
   obtain ⟨m, t, b, l, hm, hxe, _⟩ := nd_inv hx'
   obtain ⟨m', t', b', l', hm', hye, _⟩ := nd_inv hy'
   simp only [cell1, hxe, hye, List.headD_cons, List.tail_cons]
   refine qba rfl (qau (by omega) (qau (by omega) ?_))
   rw [hy, Option.bind_some]
   simp only [cell1, hxe, hye, List.headD_cons, List.tail_cons]
   refine qba rfl (qba ?_ ?_)
   ·simp only [Bool.and_eq_true]
    exact ⟨isNr_of (hxe ▸ hx'), isN_of (n := n) (hye ▸ hy')⟩
   have ed : (ka.drop i = kb.drop i) = (x' = y' /\ ka.drop (i + 1) = kb.drop (i + 1)) := by
    have ex : ka.drop i = .agg x' :: ka.drop (i + 1) := by
     obtain ⟨hlt, e⟩ := List.getElem?_eq_some_iff.1 hx
     rw [List.drop_eq_getElem_cons hlt, e]
    have ey : kb.drop i = .agg y' :: kb.drop (i + 1) := by
     obtain ⟨hlt, e⟩ := List.getElem?_eq_some_iff.1 hy
     rw [List.drop_eq_getElem_cons hlt, e]
    rw [ex, ey, List.cons.injEq, CV.agg.injEq]
   refine qce (fun h5 => ?_) fun h5 => ?_
   ·have h5 : ¬x' = y' := by rw [hxe, hye]; exact qgz.1 (by simpa [cvInt, qee, cvSlg] using h5)
    show R false = _
    congr 1
    symm
    rw [@decide_eq_false_iff_not _ (Classical.propDecidable _), ed]
    exact fun e => h5 e.1
   ·have h5 : x' = y' := by rw [hxe, hye]; exact qc6.1 (by simpa [cvInt, qee, cvSlg] using h5)
    rw [show IntKind.i64.wrap ((i : Int) + 1) = ((i + 1 : Nat) : Int) from (i64_in _ (by omega)).trans (by omega)]
    refine (eqf_lp rk R ka kb hl hka h1 n h2 f (i + 1) (by omega) (by omega)).trans ?_
    congr 1
    rw [Bool.eq_iff_iff, @decide_eq_true_iff _ (Classical.propDecidable _), @decide_eq_true_iff _ (Classical.propDecidable _), ed]
    exact ⟨fun e => ⟨h5, e⟩, fun e => e.2⟩
  ·show R true = _
   congr 1
   symm
   rw [@decide_eq_true_iff _ (Classical.propDecidable _), List.drop_eq_nil_of_le (by omega), List.drop_eq_nil_of_le (by omega)]
theorem nEqF (rk : Nat) (a b : List CV) (hp : (isNsr rk a && isNs b) = true) : gEqF rk a b = some (.ret [.cl (.bool (ndsSame a b))] []) := by
 simp only [Bool.and_eq_true] at hp
 obtain ⟨h1, h2⟩ := isNsr_spec hp.1
 obtain ⟨h3, n, h4⟩ := isNs_spec hp.2
 unfold gEqF
 simp only [qae]
 refine qb8 (fun h => qav ?_) fun h => ?_
 ·symm
  rw [ndsSame_false]
  exact fun e => h (by rw [e])
 ·refine (eqf_lp rk (fun b => some (.ret [.cl (.bool b)] [])) a b (by omega) h1 h2 n h4 FUEL 0 (by omega) (by unfold FUEL; omega)).trans (qav ?_)
  rw [Bool.eq_iff_iff, @decide_eq_true_iff _ (Classical.propDecidable _), qln]
  simp only [List.drop_zero]
theorem nDSame (rk : Nat) (ta : Int) (ba : List Int) (ka : List CV) (tb : Int) (bb : List Int) (kb : List CV) (hp : (isNr (rk + 1) [.int .i64 ta, .sli .u8 ba, .slg 3 ka] && isN [.int .i64 tb, .sli .u8 bb, .slg 3 kb]) = true) : gDSame rk ta ba ka tb bb kb = some (.ret [.cl (.bool (qif [.int .i64 ta, .sli .u8 ba, .slg 3 ka] [.int .i64 tb, .sli .u8 bb, .slg 3 kb]))] []) := by
 simp only [Bool.and_eq_true] at hp
 obtain ⟨m, t, b, l, hm, he, hb, hl, hc⟩ := nd_inv (qqm hp.1)
 obtain ⟨n, hn⟩ := isN_spec hp.2
 obtain ⟨m', t', b', l', hm', he', hb', hl', hc'⟩ := nd_inv hn
 simp only [List.cons.injEq, CV.int.injEq, CV.sli.injEq, CV.slg.injEq, true_and, and_true] at he he'
 obtain ⟨rfl, rfl, rfl⟩ := he
 obtain ⟨rfl, rfl, rfl⟩ := he'
 obtain rfl : m = rk := by omega
 have bad : ¬(ta = tb /\ ba = bb /\ ka = kb) -> false = qif [.int .i64 ta, .sli .u8 ba, .slg 3 ka] [.int .i64 tb, .sli .u8 bb, .slg 3 kb] := fun h => by
  symm
  rw [qgz]
  simp only [List.cons.injEq, CV.int.injEq, CV.sli.injEq, CV.slg.injEq, true_and, and_true]
  exact h
 unfold gDSame qb3 qhm
 simp only [qae]
 refine qaf (fun h => qba (qlw hb) (qaf (fun h1 => qba ?_ (qav ?_)) fun h1 => qav (bad fun e => h1 e.2.1))) fun h => qav (bad fun e => h e.1)
 ·rw [isNsr_of hl hc, isNs_of hl' hc']; rfl
 ·rw [Bool.eq_iff_iff, qln, qc6]
  simp only [List.cons.injEq, CV.int.injEq, CV.sli.injEq, CV.slg.injEq, true_and, and_true]
  exact ⟨fun e => ⟨h, h1, e⟩, fun e => e.2.2⟩

/-! ### the law -/
theorem ql8 {a : List CV} (h : isT a = true) (h0 : ¬qh9 a 3000 < 0) : isS a = true := by
 obtain ⟨n, hn⟩ := isT_spec h
 rw [qsf hn] at h0
 have := small_bulk hn 3000 (by omega) (by omega)
 exact isS_of hn (by omega)
theorem isN_isS {a : List CV} (h : isS a = true) : isN a = true := by
 obtain ⟨n, hn, hb⟩ := qec h
 exact isN_of (nd_of_tf hn hb)
theorem bytes_lenOk {a : List CV} (h : isS a = true) : qid (qa2 a).1 = true := by
 obtain ⟨n, hn, hb⟩ := qec h
 have := qem hn
 rw [qe2 hn]
 refine qlw ?_
 split
 ·show (qam n a).1.length <= _; omega
 ·simp
theorem nLTells (ta : Int) (ba : List Int) (ka : List CV) (tb : Int) (bb : List Int) (kb : List CV) (tag : Int) (hp : (isT [.int .i64 ta, .sli .u8 ba, .slg 3 ka] && isT [.int .i64 tb, .sli .u8 bb, .slg 3 kb]) = true) : gLTells ta ba ka tb bb kb tag = some (.ret [.cl (.bool true)] []) := by
 simp only [Bool.and_eq_true] at hp
 unfold gLTells
 refine qba (by rw [hp.1, qkk (by omega)]; rfl) (qaf (fun h => rfl) fun h => qba (by rw [hp.2, qkk (by omega)]; rfl) (qaf (fun h2 => rfl) fun h2 => ?_))
 have ha := ql8 hp.1 h
 have hb := ql8 hp.2 h2
 have na := isN_isS ha
 have nb := isN_isS hb
 refine qba ha (qba ha (qba ha (qba ha (qba (by simp) (qba (bytes_lenOk ha) (qba ?_ (qau rfl (qba (by simp) ?_))))))))
 ·unfold qb3 qhm
  rw [qae]
  exact decide_eq_true rfl
 ·refine qba (by rw [na, nb]; rfl) (qba (by rw [na, nb]; rfl) (qba (by simp) (qba (by rw [na]; rfl) (qba (qc6.2 rfl) rfl))))
end Go.Proofs.YtbgkadaidhgggaaDoorA

namespace Go.Proofs.YtbgkadaidhgggaaDoorA

def lenB (n : Int) : List Int := if n < 128 then [n] else if n < 256 then [129, n] else if n < 65536 then [130, n / 256, n % 256] else [131, n / 65536, n / 256 % 256, n % 256]
theorem qkr (t n : Int) : qcr t n = t :: lenB n := rfl
theorem lenB_len (n : Int) : ((lenB n).length : Int) = qat n := by
 unfold lenB qat
 repeat' split
 all_goals rfl
theorem len_of (n : Int) (h0 : 0 <= n) (h1 : n < 16777216) (c : List Int) : qab (lenB n ++ c) = (n, qat n) := by
 unfold lenB qat
 split
 ·rename_i h
  rw [List.singleton_append, qbf, if_pos h]
 ·rename_i h
  split
  ·rename_i h2
   show qab (129 :: n :: c) = _
   rw [qbf, if_neg (by omega), if_neg (by simp only [List.length_cons]; omega)]
   have e : qbc ((n :: c).take (129 - 128 : Int).toNat) = n := by show (0 : Int) * 256 + n = n; omega
   rw [e, if_neg (by simp only [List.headD_cons]; omega)]
   rfl
  ·rename_i h2
   split
   ·rename_i h3
    show qab (130 :: n / 256 :: n % 256 :: c) = _
    rw [qbf, if_neg (by omega), if_neg (by simp only [List.length_cons]; omega)]
    have e : qbc ((n / 256 :: n % 256 :: c).take (130 - 128 : Int).toNat) = n := by show ((0 : Int) * 256 + n / 256) * 256 + n % 256 = n; omega
    rw [e, if_neg (by simp only [List.headD_cons]; omega)]
    rfl
   ·rename_i h3
    show qab (131 :: n / 65536 :: n / 256 % 256 :: n % 256 :: c) = _
    rw [qbf, if_neg (by omega), if_neg (by simp only [List.length_cons]; omega)]
    have e : qbc ((n / 65536 :: n / 256 % 256 :: n % 256 :: c).take (131 - 128 : Int).toNat) = n := by show (((0 : Int) * 256 + n / 65536) * 256 + n / 256 % 256) * 256 + n % 256 = n; omega
    rw [e, if_neg (by simp only [List.headD_cons]; omega)]
    rfl
theorem len_back {r : List Int} (hb : ∀ x ∈ r, 0 <= x /\ x <= 255) (h : ¬(qab r).2 = 0) : r = lenB (qab r).1 ++ r.drop (qab r).2.toNat /\ qat (qab r).1 = (qab r).2 := by
 match r, hb, h with
 | [], _, h => exact absurd rfl h
 | c :: t, hb, h =>
  have hc := hb c (List.mem_cons_self ..)
  rw [qbf] at h ⊢
  by_cases h1 : c < 128
  ·rw [if_pos h1]
   have e : lenB c = [c] := by unfold lenB; rw [if_pos h1]
   have e2 : qat c = 1 := by unfold qat; rw [if_pos h1]
   exact ⟨by rw [e]; rfl, e2⟩
  ·rw [if_neg h1] at h ⊢
   by_cases h2 : c = 128 \/ 131 < c \/ (t.length : Int) < c - 128
   ·rw [if_pos h2] at h; exact absurd rfl h
   ·rw [if_neg h2] at h ⊢
    by_cases h3 : t.headD 0 = 0 \/ qbc (t.take (c - 128).toNat) < 128
    ·rw [if_pos h3] at h; exact absurd rfl h
    ·rw [if_neg h3] at h ⊢
     have hc3 : c = 129 \/ c = 130 \/ c = 131 := by omega
     have hbt : ∀ (i : Nat) (x : Int), t[i]? = some x -> 0 <= x /\ x <= 255 := fun i x hx => hb x (List.mem_cons_of_mem _ (List.mem_of_getElem? hx))
     rcases hc3 with rfl | rfl | rfl
     ·match t, h2, h3, hbt with
      | [], h2, _, _ => simp at h2
      | x :: t, h2, h3, hbt =>
       have hx := hbt 0 x rfl
       have e : qbc ((x :: t).take (129 - 128 : Int).toNat) = x := by show (0 : Int) * 256 + x = x; omega
       rw [e] at h3 ⊢
       simp only [List.headD_cons] at h3
       have e1 : lenB x = [129, x] := by unfold lenB; rw [if_neg (by omega), if_pos (by omega)]
       have e2 : qat x = 2 := by unfold qat; rw [if_neg (by omega), if_pos (by omega)]
       exact ⟨by show _ = lenB x ++ _; rw [e1]; rfl, e2⟩
     ·match t, h2, h3, hbt with
      | [], h2, _, _ => simp at h2
      | [_], h2, _, _ => simp at h2
      | x :: y :: t, h2, h3, hbt =>
       have hx := hbt 0 x rfl
       have hy := hbt 1 y rfl
       have e : qbc ((x :: y :: t).take (130 - 128 : Int).toNat) = x * 256 + y := by show ((0 : Int) * 256 + x) * 256 + y = _; omega
       rw [e] at h3 ⊢
       simp only [List.headD_cons] at h3
       have e1 : lenB (x * 256 + y) = [130, x, y] := by
        unfold lenB
        rw [if_neg (by omega), if_neg (by omega), if_pos (by omega), show (x * 256 + y) / 256 = x by omega, show (x * 256 + y) % 256 = y by omega]
       have e2 : qat (x * 256 + y) = 3 := by unfold qat; rw [if_neg (by omega), if_neg (by omega), if_pos (by omega)]
       exact ⟨by show _ = lenB (x * 256 + y) ++ _; rw [e1]; rfl, e2⟩
     ·match t, h2, h3, hbt with
      | [], h2, _, _ => simp at h2
      | [_], h2, _, _ => simp at h2
      | [_, _], h2, _, _ => simp at h2
      | x :: y :: z :: t, h2, h3, hbt =>
       have hx := hbt 0 x rfl
       have hy := hbt 1 y rfl
       have hz := hbt 2 z rfl
       have e : qbc ((x :: y :: z :: t).take (131 - 128 : Int).toNat) = (x * 256 + y) * 256 + z := by show (((0 : Int) * 256 + x) * 256 + y) * 256 + z = _; omega
       rw [e] at h3 ⊢
       simp only [List.headD_cons] at h3
       have e1 : lenB ((x * 256 + y) * 256 + z) = [131, x, y, z] := by
        unfold lenB
        rw [if_neg (by omega), if_neg (by omega), if_neg (by omega), show ((x * 256 + y) * 256 + z) / 65536 = x by omega, show ((x * 256 + y) * 256 + z) / 256 % 256 = y by omega, show ((x * 256 + y) * 256 + z) % 256 = z by omega]
       have e2 : qat ((x * 256 + y) * 256 + z) = 4 := by unfold qat; rw [if_neg (by omega), if_neg (by omega), if_neg (by omega)]
       exact ⟨by show _ = lenB ((x * 256 + y) * 256 + z) ++ _; rw [e1]; rfl, e2⟩

/-- what is read goes on being read when more comes behind -/
theorem parse1_ext {P : List Int -> Int × Nd × Int} {t : Int} {r : List Int} (hb : qac r = true) (h : (parse1 P t r).1 = 0) (rest : List Int) : parse1 P t (r ++ rest) = parse1 P t r := by
 obtain ⟨_, hk, hn⟩ := qky h
 have hr := len_rng hb
 obtain ⟨e1, e2⟩ := len_back (qap hb).2 (fun e => hn (.inl e))
 have hl : qab (r ++ rest) = qab r := by
  have : r ++ rest = lenB (qab r).1 ++ (r.drop (qab r).2.toNat ++ rest) := by
   rw [<- List.append_assoc, <- e1]
  rw [this, len_of _ hr.1 hr.2.1, e2]
 have hi : ((r ++ rest).drop (qab r).2.toNat).take (qab r).1.toNat = (r.drop (qab r).2.toNat).take (qab r).1.toNat := by
  rw [List.drop_append_of_le_length (by omega), List.take_append_of_le_length (by simp only [List.length_drop]; omega)]
 unfold parse1
 rw [hl, hi, if_neg hk, if_neg hk, if_neg hn, if_neg (by simp only [List.length_append]; omega)]
theorem qqj {n : Nat} {b : List Int} (hb : qac b = true) (h : (qax n b).1 = 0) (rest : List Int) : qax n (b ++ rest) = qax n b := by
 match n, b, hb with
 | 0, _, _ => rfl
 | n + 1, [], _ => exact absurd h (by decide : ¬(1 : Int) = 0)
 | n + 1, t :: r, hb =>
  rw [qct] at h ⊢
  rw [List.cons_append, qct]
  have hbt := qbn hb
  simp only [List.tail_cons] at hbt
  exact parse1_ext hbt h rest
end Go.Proofs.YtbgkadaidhgggaaDoorA

namespace Go.Proofs.YtbgkadaidhgggaaDoorA

def toNd : List CV -> Nd
 | [.int _ t, .sli _ b, .slg _ l] => (t, b, l)
 | _ => nd0
theorem parts_write {f : List Int -> Int × Nd × Int} {g : CV -> List Int} {nd : CV -> Nd} : ∀ (l : List CV), (∀ c ∈ l, (∀ rest, f (g c ++ rest) = (0, nd c, ((g c).length : Int))) /\ g c ≠ []) -> ∀ m, ((l.map g).flatten).length <= m -> qbq f m ((l.map g).flatten) = (0, l.map nd, l.map g)
 | [], _, m, _ => qg2 f m
 | c :: r, h, m, hm => by
  obtain ⟨h1, h2⟩ := h c (List.mem_cons_self ..)
  have ih := parts_write r (fun c' hc => h c' (List.mem_cons_of_mem _ hc))
  rw [List.map_cons, List.flatten_cons] at hm ⊢
  have hl : 0 < (g c).length := List.length_pos_iff.2 h2
  rw [List.length_append] at hm
  obtain ⟨m, rfl⟩ : ∃ k, m = k + 1 := ⟨m - 1, by omega⟩
  have hne : g c ++ (r.map g).flatten ≠ [] := fun e => h2 (List.append_eq_nil_iff.1 e).1
  have hz : (f (g c ++ (r.map g).flatten)).1 = 0 := by rw [h1]
  rw [qoo hne hz, h1]
  have e1 : (g c ++ (r.map g).flatten).drop ((g c).length : Int).toNat = (r.map g).flatten := by
   rw [show ((g c).length : Int).toNat = (g c).length from rfl, List.drop_left]
  have e2 : (g c ++ (r.map g).flatten).take ((g c).length : Int).toNat = g c := by
   rw [show ((g c).length : Int).toNat = (g c).length from rfl, List.take_left]
  rw [e1, e2, ih m (by omega)]
  rfl
theorem bytes_ne {n : Nat} {x : List CV} (h : isTf n x = true) : (qam n x).1 ≠ [] := by
 obtain ⟨n', t, b, l, rfl, rfl, _, _⟩ := qcu h
 cases hx : qa4 t with
 | true => rw [qh6 hx, qkr]; simp
 | false => rw [qf6 hx, qkr]; simp
theorem ndCV_to {n : Nat} {y : List CV} (h : isTf n y = true) : ndCV (toNd y) = .agg y := by
 obtain ⟨n', t, b, l, rfl, rfl, _, _⟩ := qcu h
 rfl
theorem parse_lenB (P : List Int -> Int × Nd × Int) {t : Int} {c : List Int} (hc : c.length < 16777216) (hk : qa9 t = true) :
  parse1 P t (lenB (c.length : Nat) ++ c) = if qa4 t = false then (if qcq t c = true then (0, (t, c, []), 1 + qat (c.length : Nat) + (c.length : Nat)) else (5, nd0, 0))
   else if (qbq P c.length c).1 = 0 then (if t = 49 /\ qa1 (qbq P c.length c).2.2 = false then (6, nd0, 0) else (0, (t, [], (qbq P c.length c).2.1.map ndCV), 1 + qat (c.length : Nat) + (c.length : Nat))) else ((qbq P c.length c).1, nd0, 0) := by
 have hl := lenB_len (c.length : Nat)
 have hr := qc3 (c.length : Nat)
 have hi : ((lenB (c.length : Nat) ++ c).drop (qat (c.length : Nat)).toNat).take ((c.length : Nat) : Int).toNat = c := by
  rw [show (qat (c.length : Nat)).toNat = (lenB (c.length : Nat)).length by omega, List.drop_left]
  exact List.take_length
 unfold parse1
 rw [len_of _ (by omega) (by omega)]
 simp only []
 rw [hi, if_neg (by simp [hk]), if_neg (by simp only [List.length_append]; omega)]
theorem write_parse : ∀ {n d : Nat} {a : List CV}, isTf n a = true -> qfp n a <= 3000 -> okF n d a = true -> (qam n a).2 = true -> qax d (qam n a).1 = (0, toNd a, (((qam n a).1.length : Nat) : Int))
 | n, d, a, hn, hb, hok, hs => by
  obtain ⟨n', t, b, l, rfl, rfl, hbb, hl⟩ := qcu hn
  obtain ⟨h1, h2, h3, h4, h5⟩ := qog hn hb
  obtain ⟨d', rfl, hk, h⟩ := qi5 hok
  rcases h with ⟨hx, rfl, hall⟩ | ⟨hx, rfl, hf⟩
  ·have hfl := flat5 (B := 3000) hl (by omega)
   rw [qh6 hx] at hs ⊢
   simp only [Bool.and_eq_true, List.all_eq_true] at hs
   have hp := parts_write (f := qax d') (g := fun c => (qam n' (cell1 c)).1) (nd := fun c => toNd (cell1 c)) l (fun c hc => by
    obtain ⟨y, rfl, hy, hyb⟩ := h4 c hc
    have hwy := write_parse (d := d') hy (by omega) (hall _ hc) (hs.1 _ hc)
    have hby : qac (qam n' y).1 = true := qbr (by have := qem hy; omega) (qmu hy (by omega) (hall _ hc))
    refine ⟨fun rest => ?_, bytes_ne hy⟩
    show qax d' ((qam n' y).1 ++ rest) = (0, toNd y, _)
    rw [qqj hby (by rw [hwy]) rest, hwy]
    rfl) _ (Nat.le_refl _)
   simp only [qkr, List.cons_append]
   rw [qct, parse_lenB _ (by omega) hk, if_neg (by simp [hx]), hp]
   have hss : ¬(t = 49 /\ qa1 (l.map fun c => (qam n' (cell1 c)).1) = false) := fun e => by
    have := hs.2
    simp [e.1, e.2] at this
   have hm : (l.map fun c => toNd (cell1 c)).map ndCV = l := by
    rw [List.map_map]
    refine (List.map_congr_left fun c hc => ?_).trans (List.map_id l)
    obtain ⟨y, rfl, hy, _⟩ := h4 c hc
    exact ndCV_to hy
   rw [if_pos rfl, if_neg hss, hm]
   have hll := lenB_len (((l.map fun c => (qam n' (cell1 c)).1).flatten).length : Nat)
   simp only [toNd, List.length_cons, List.length_append, Prod.mk.injEq, true_and]
   omega
  ·rw [qf6 hx]
   simp only [qkr, List.cons_append]
   rw [qct, parse_lenB _ (by omega) hk, if_pos hx, if_pos hf]
   have hll := lenB_len (b.length : Nat)
   simp only [toNd, List.length_cons, List.length_append, Prod.mk.injEq, true_and]
   omega

theorem parts_read {f : List Int -> Int × Nd × Int} {h : Nd -> List Int} {Q : Nd -> Prop} (hu : ∀ b, qac b = true -> (f b).1 = 0 -> 0 < (f b).2.2 /\ (f b).2.2 <= b.length) (hf : ∀ b, qac b = true -> (f b).1 = 0 -> Q (f b).2.1 /\ h (f b).2.1 = b.take (f b).2.2.toNat) : ∀ (m : Nat) (b : List Int), qac b = true -> b.length <= m -> (qbq f m b).1 = 0 ->
  (qbq f m b).2.2 = (qbq f m b).2.1.map h /\ (qbq f m b).2.2.flatten = b /\ ∀ x ∈ (qbq f m b).2.1, Q x
 | 0, b, hb, hm, hz => by
  have : b = [] := List.eq_nil_of_length_eq_zero (by omega)
  subst this
  rw [qg2]
  simp
 | m + 1, b, hb, hm, hz => by
  by_cases hne : b = []
  ·subst hne; rw [qg2]; simp
  ·by_cases h0 : (f b).1 = 0
   ·have hub := hu b hb h0
    obtain ⟨hq, hh⟩ := hf b hb h0
    rw [qoo hne h0] at hz ⊢
    obtain ⟨i1, i2, i3⟩ := parts_read hu hf m _ (qa5 hb _) (by simp only [List.length_drop]; omega) hz
    refine ⟨?_, ?_, fun x hx => ?_⟩
    ·rw [List.map_cons, hh, <- i1]
    ·rw [List.flatten_cons, i2, List.take_append_drop]
    ·rcases List.mem_cons.1 hx with rfl | hx
     ·exact hq
     ·exact i3 x hx
   ·rw [parts_no hne h0] at hz
    exact absurd hz h0
theorem flat_sum {α : Type} {g : α -> List Int} {h : α -> Nat} : ∀ {l : List α}, (∀ c ∈ l, h c <= (g c).length) -> (l.map h).sum <= ((l.map g).flatten).length
 | [], _ => by simp
 | a :: r, hh => by
  have := hh a (List.mem_cons_self ..)
  have := flat_sum (g := g) (h := h) (l := r) fun c hc => hh c (List.mem_cons_of_mem _ hc)
  simp only [List.map_cons, List.flatten_cons, List.length_append, List.sum_cons]
  omega
/-- what was read is what is written -/
def GoodNd (d : Nat) (x : Nd) : Prop := isTf d (ndL x) = true /\ okF d d (ndL x) = true /\ (qam d (ndL x)).2 = true /\ qfp d (ndL x) <= (qam d (ndL x)).1.length
theorem tf_mk {n : Nat} {t : Int} {b : List Int} {l : List CV} (h1 : ∀ z ∈ b, 0 <= z /\ z <= 255) (h3 : ∀ c ∈ l, ∃ y, c = .agg y /\ isTf n y = true) : isTf (n + 1) [.int .i64 t, .sli .u8 b, .slg 3 l] = true := by
 show (b.all byteB && l.all fun c => match c with | .agg x => isTf n x | _ => false) = true
 simp only [Bool.and_eq_true, List.all_eq_true]
 refine ⟨fun z hz => decide_eq_true (h1 z hz), fun c hc => ?_⟩
 obtain ⟨y, rfl, hy⟩ := h3 c hc
 exact hy
theorem parse_write : ∀ (d : Nat) (b : List Int), qac b = true -> (qax d b).1 = 0 -> GoodNd d (qax d b).2.1 /\ (qam d (ndL (qax d b).2.1)).1 = b.take (qax d b).2.2.toNat
 | 0, b, _, h => absurd h (by decide : ¬(3 : Int) = 0)
 | d + 1, [], _, h => absurd h (by decide : ¬(1 : Int) = 0)
 | d + 1, t :: r, hb, h => by
  have hbt := qbn hb
  simp only [List.tail_cons] at hbt
  have hr := len_rng hbt
  rw [qct] at h ⊢
  obtain ⟨hu, hk, hn⟩ := qky h
  obtain ⟨e1, e2⟩ := len_back (qap hbt).2 (fun e => hn (.inl e))
  have hk' : qa9 t = true := by simpa using hk
  rw [hu]
  obtain ⟨I, hI⟩ : ∃ I, I = (r.drop (qab r).2.toNat).take (qab r).1.toNat := ⟨_, rfl⟩
  have hIl : (I.length : Int) = (qab r).1 := by rw [hI]; simp only [List.length_take, List.length_drop]; omega
  have hIb : qac I = true := by rw [hI]; exact qdq (qa5 hbt _) _
  have hlb := lenB_len (qab r).1
  have htake : (t :: r).take (1 + (qab r).2 + (qab r).1).toNat = t :: (lenB (I.length : Nat) ++ I) := by
   rw [show (1 + (qab r).2 + (qab r).1).toNat = ((qab r).2.toNat + (qab r).1.toNat) + 1 by omega, List.take_succ_cons, hIl]
   congr 1
   have : r.take ((qab r).2.toNat + (qab r).1.toNat) = (lenB (qab r).1 ++ r.drop (qab r).2.toNat).take ((lenB (qab r).1).length + (qab r).1.toNat) := by
    rw [<- e1, show (lenB (qab r).1).length = (qab r).2.toNat by omega]
   rw [this, List.take_length_add_append, <- hI]
  rw [htake]
  have hp : parse1 (qax d) t r = if qa4 t = false then (if qcq t I = true then (0, (t, I, []), 1 + (qab r).2 + (qab r).1) else (5, nd0, 0))
    else if (qbq (qax d) I.length I).1 = 0 then (if t = 49 /\ qa1 (qbq (qax d) I.length I).2.2 = false then (6, nd0, 0) else (0, (t, [], (qbq (qax d) I.length I).2.1.map ndCV), 1 + (qab r).2 + (qab r).1)) else ((qbq (qax d) I.length I).1, nd0, 0) := by
   unfold parse1
   rw [if_neg hk, if_neg hn, <- hI]
  rw [hp] at h ⊢
  cases hx : qa4 t with
  | false =>
   rw [hx, if_pos rfl] at h
   rw [if_pos rfl]
   by_cases hf : qcq t I = true
   ·rw [if_pos hf]
    have hbl : qam (d + 1) (ndL (t, I, [])) = (qcr t (I.length : Nat) ++ I, true) := qf6 hx
    refine ⟨⟨tf_mk (qap hIb).2 (by simp), ?_, by show (qam (d + 1) (ndL (t, I, []))).2 = true; rw [hbl], ?_⟩, ?_⟩
    ·show (qa9 t && (if qa4 t = true then _ else decide (([] : List CV) = []) && qcq t I)) = true
     rw [if_neg (by simp [hx]), hk', hf]; rfl
    ·show 1 + I.length + 0 <= (qam (d + 1) (ndL (t, I, []))).1.length
     rw [hbl, qkr]
     simp only [List.length_append, List.length_cons]; omega
    ·show (qam (d + 1) (ndL (t, I, []))).1 = _
     rw [hbl]; rfl
   ·rw [if_neg hf] at h; exact absurd h (by decide : ¬(5 : Int) = 0)
  | true =>
   rw [hx, if_neg (by decide)] at h
   rw [if_neg (by decide)]
   by_cases hz : (qbq (qax d) I.length I).1 = 0
   ·rw [if_pos hz] at h ⊢
    by_cases hs : t = 49 /\ qa1 (qbq (qax d) I.length I).2.2 = false
    ·rw [if_pos hs] at h; exact absurd h (by decide : ¬(6 : Int) = 0)
    ·rw [if_neg hs]
     obtain ⟨i1, i2, i3⟩ := parts_read (f := qax d) (h := fun x => (qam d (ndL x)).1) (Q := GoodNd d) (fun b hb h => qd4 hb h) (fun b hb h => parse_write d b hb h) I.length I hIb (Nat.le_refl _) hz
     generalize qbq (qax d) I.length I = p at *
     obtain ⟨p1, xs, ps⟩ := p
     simp only [] at i1 i2 i3 hs ⊢
     have hm : ((xs.map ndCV).map fun c => (qam d (cell1 c)).1) = ps := by rw [i1, List.map_map]; rfl
     have hbl : qam (d + 1) (ndL (t, [], xs.map ndCV)) = (qcr t (I.length : Nat) ++ I, ((xs.map ndCV).all fun c => (qam d (cell1 c)).2) && (!(decide (t = 49)) || qa1 ps)) := by
      refine (qh6 hx).trans ?_
      rw [hm, i2]
     have hall2 : ((xs.map ndCV).all fun c => (qam d (cell1 c)).2) = true := by
      simp only [List.all_eq_true, List.mem_map]
      rintro c ⟨x, hx', rfl⟩
      exact (i3 x hx').2.2.1
     have hso : (!(decide (t = 49)) || qa1 ps) = true := by
      by_cases h49 : t = 49
      ·have : qa1 ps = true := by
        cases hh : qa1 ps with
        | true => rfl
        | false => exact absurd ⟨h49, hh⟩ hs
       rw [this, Bool.or_true]
      ·simp [h49]
     rw [hall2, hso] at hbl
     refine ⟨⟨tf_mk (by simp) fun c hc => ?_, ?_, by show (qam (d + 1) (ndL (t, [], xs.map ndCV))).2 = true; rw [hbl]; rfl, ?_⟩, ?_⟩
     ·obtain ⟨x, hx', rfl⟩ := List.mem_map.1 hc
      exact ⟨_, rfl, (i3 x hx').1⟩
     ·show (qa9 t && (if qa4 t = true then decide (([] : List Int) = []) && (xs.map ndCV).all fun c => okF d d (cell1 c) else _)) = true
      rw [if_pos hx, hk']
      simp only [Bool.true_and, decide_true, List.all_eq_true, List.mem_map]
      rintro c ⟨x, hx', rfl⟩
      exact (i3 x hx').2.1
     ·show 1 + 0 + ((xs.map ndCV).map fun c => qfp d (cell1 c)).sum <= (qam (d + 1) (ndL (t, [], xs.map ndCV))).1.length
      rw [hbl, qkr]
      have := flat_sum (g := fun x => (qam d (ndL x)).1) (h := fun x => qfp d (ndL x)) (l := xs) fun x hx' => (i3 x hx').2.2.2
      rw [<- i1, i2] at this
      have e : ((xs.map ndCV).map fun c => qfp d (cell1 c)) = xs.map fun x => qfp d (ndL x) := by rw [List.map_map]; rfl
      rw [e]
      simp only [List.length_append, List.length_cons]
      omega
     ·show (qam (d + 1) (ndL (t, [], xs.map ndCV))).1 = _
      rw [hbl]; rfl
   ·rw [if_neg hz] at h; exact absurd h hz
end Go.Proofs.YtbgkadaidhgggaaDoorA

namespace Go.Proofs.YtbgkadaidhgggaaDoorA

theorem qnc (b : List Int) : qar b = if (qax 32 b).1 = 0 then (if (qax 32 b).2.2 < b.length then (nd0, 7) else ((qax 32 b).2.1, 0)) else (nd0, (qax 32 b).1) := by
 unfold qar qhw; rw [qae]
theorem ndL_to {n : Nat} {a : List CV} (h : isTf n a = true) : ndL (toNd a) = a := by
 obtain ⟨n', t, b, l, rfl, rfl, _, _⟩ := qcu h
 rfl
/-- a fit value's bytes -/
theorem qj7 {a : List CV} (hs : isS a = true) (hf : qql a = true) : (qa2 a).2 = 0 /\ qac (qa2 a).1 = true /\ (qa2 a).1.length <= 15000 /\ qax 32 (qa2 a).1 = (0, toNd a, (((qa2 a).1.length : Nat) : Int)) /\ ndL (toNd a) = a := by
 obtain ⟨n, hn, hb⟩ := qec hs
 rw [ndFit_eq hn] at hf
 have hf := of_decide_eq_true hf
 have hl := qem hn
 rw [qe2 hn, if_pos hf]
 refine ⟨rfl, qbr (by show (qam n a).1.length <= _; omega) (qmu hn hb hf.1), by show (qam n a).1.length <= _; omega, write_parse hn hb hf.1 hf.2, ndL_to hn⟩
/-- what was read -/
theorem read_facts {b : List Int} (hb : qac b = true) (hl : b.length <= 3000) (h : (qar b).2 = 0) : isS (ndL (qar b).1) = true /\ qa2 (ndL (qar b).1) = (b, 0) /\ qql (ndL (qar b).1) = true := by
 rw [qnc] at h ⊢
 by_cases hz : (qax 32 b).1 = 0
 ·rw [if_pos hz] at h ⊢
  by_cases hlt : (qax 32 b).2.2 < b.length
  ·rw [if_pos hlt] at h; exact absurd h (by decide : ¬(7 : Int) = 0)
  ·rw [if_neg hlt]
   have hu := qd4 hb hz
   obtain ⟨⟨h1, h2, h3, h4⟩, h5⟩ := parse_write 32 b hb hz
   have e : (qam 32 (ndL (qax 32 b).2.1)).1 = b := by rw [h5]; exact List.take_of_length_le (by omega)
   rw [e] at h4
   refine ⟨(isS_of h1 (by omega) : isS (ndL (qax 32 b).2.1) = true), ?_, ?_⟩
   ·show qa2 (ndL (qax 32 b).2.1) = _
    rw [qe2 h1, if_pos ⟨h2, h3⟩, e]
   ·show qql (ndL (qax 32 b).2.1) = _
    rw [ndFit_eq h1]
    exact decide_eq_true ⟨h2, h3⟩
 ·rw [if_neg hz] at h
  exact absurd h hz
theorem parse_fit {a : List CV} (hs : isS a = true) (hf : qql a = true) : qar (qa2 a).1 = (toNd a, 0) := by
 obtain ⟨_, _, _, h, _⟩ := qj7 hs hf
 rw [qnc, h, if_pos rfl, if_neg (by simp)]

noncomputable def backB (b : List Int) : Option Out :=
 cond (qac b) (
 cond (!decide ((qar b).2 = 0)) (some (.ret [.cl (.bool true)] []))
 (
  cond (isS [.int .i64 (qar b).1.1, .sli .u8 (qar b).1.2.1, .slg 3 (qar b).1.2.2]) (
  cond (decide ((qa2 [.int .i64 (qar b).1.1, .sli .u8 (qar b).1.2.1, .slg 3 (qar b).1.2.2]).2 = 0)) (
   cond (isS [.int .i64 (qar b).1.1, .sli .u8 (qar b).1.2.1, .slg 3 (qar b).1.2.2]) (
   cond (qql [.int .i64 (qar b).1.1, .sli .u8 (qar b).1.2.1, .slg 3 (qar b).1.2.2]) (
    cond (qid (qa2 [.int .i64 (qar b).1.1, .sli .u8 (qar b).1.2.1, .slg 3 (qar b).1.2.2]).1) (
    cond (qb3 (qa2 [.int .i64 (qar b).1.1, .sli .u8 (qar b).1.2.1, .slg 3 (qar b).1.2.2]).1 b) (some (.ret [.cl (.bool true)] []))
    (some (.ret [.cl (.bool false)] []))) none)
   (some (.ret [.cl (.bool false)] []))) none)
  (some (.ret [.cl (.bool false)] []))) none)) none
theorem back_b {b : List Int} (hb : qac b = true) (hl : b.length <= 3000) : backB b = some (.ret [.cl (.bool true)] []) := by
 unfold backB
 refine qba hb (qb8 (fun h => rfl) fun h => ?_)
 obtain ⟨h1, h2, h3⟩ := read_facts hb hl h
 have h1 : isS [.int .i64 (qar b).1.1, .sli .u8 (qar b).1.2.1, .slg 3 (qar b).1.2.2] = true := h1
 have h2 : qa2 [.int .i64 (qar b).1.1, .sli .u8 (qar b).1.2.1, .slg 3 (qar b).1.2.2] = (b, 0) := h2
 have h3 : qql [.int .i64 (qar b).1.1, .sli .u8 (qar b).1.2.1, .slg 3 (qar b).1.2.2] = true := h3
 rw [h2]
 refine qba h1 (qau rfl (qba h1 (qba h3 (qba (qlw (by show b.length <= _; omega)) (qba ?_ rfl)))))
 unfold qb3 qhm
 rw [qae]
 exact decide_eq_true rfl
theorem nLBack (ta : Int) (ba : List Int) (ka : List CV) (b : List Int) (hp : (isT [.int .i64 ta, .sli .u8 ba, .slg 3 ka] && qfr b) = true) : gLBack ta ba ka b = some (.ret [.cl (.bool true)] []) := by
 simp only [Bool.and_eq_true] at hp
 unfold gLBack
 refine qba (by rw [hp.1, qkk (by omega)]; rfl) (qaf (fun h => rfl) fun h => qaf (fun h2 => rfl) fun h2 => ?_)
 have ha := ql8 hp.1 h
 have hb : qac b = true := qbr (by omega) (qoz hp.2)
 refine qba ha (qce (fun hf => qba ha ?_) fun hf => back_b hb (by omega))
 obtain ⟨f1, f2, f3, f4, f5⟩ := qj7 ha hf
 have fp := parse_fit ha hf
 refine qba f2 (c_nneg f1 (c_nneg (by rw [fp]) (qba ?_ (b_neg ?_ (back_b hb (by omega))))))
 ·rw [fp]
  show (isN (ndL (toNd [.int .i64 ta, .sli .u8 ba, .slg 3 ka])) && _) = true
  rw [f5, isN_isS ha]; rfl
 ·rw [fp]
  show (!qif (ndL (toNd [.int .i64 ta, .sli .u8 ba, .slg 3 ka])) _) = false
  rw [f5, qc6.2 rfl]; rfl

noncomputable def endA (A more : List Int) : Option Out :=
 cond (decide ((((([] : List Int) ++ A).length : Nat) : Int) * 1 <= LIM)) (
 cond (decide ((((([] : List Int) ++ A).length : Nat) : Int) <= LIM)) (
 cond (decide ((((([] : List Int) ++ A ++ more).length : Nat) : Int) * 1 <= LIM)) (
 cond (decide ((((([] : List Int) ++ A ++ more).length : Nat) : Int) <= LIM)) (
 cond (qac (([] : List Int) ++ A ++ more)) (
 cond (((decide (((more.length : Nat) : Int) = 0)) == (decide ((qar (([] : List Int) ++ A ++ more)).2 = 0)))) (
  cond (decide (((more.length : Nat) : Int) = 0)) (some (.ret [.cl (.bool true)] []))
  (cond (decide ((qar (([] : List Int) ++ A ++ more)).2 = 7)) (some (.ret [.cl (.bool true)] [])) (some (.ret [.cl (.bool false)] []))))
 (some (.ret [.cl (.bool false)] []))) none) none) none) none) none
theorem end_a {a : List CV} {more : List Int} (ha : isS a = true) (hf : qql a = true) (hm : ∀ x ∈ more, 0 <= x /\ x <= 255) (hl : more.length <= 3000) : endA (qa2 a).1 more = some (.ret [.cl (.bool true)] []) := by
 obtain ⟨f1, f2, f3, f4, f5⟩ := qj7 ha hf
 have hx : qax 32 ((qa2 a).1 ++ more) = (0, toNd a, (((qa2 a).1.length : Nat) : Int)) := by
  rw [qqj f2 (by rw [f4]), f4]
 unfold endA
 rw [List.nil_append]
 refine qau (by unfold LIM; omega) (qau (by unfold LIM; omega) (qau (by simp only [List.length_append]; unfold LIM; omega) (qau (by simp only [List.length_append]; unfold LIM; omega) (qba ?_ ?_))))
 ·refine qbr (by simp only [List.length_append]; omega) fun x hx => ?_
  rcases List.mem_append.1 hx with h | h
  ·exact (qap f2).2 x h
  ·exact hm x h
 ·rw [qnc, hx, if_pos rfl]
  by_cases h0 : more.length = 0
  ·rw [if_neg (by simp only [List.length_append]; omega)]
   refine qba ?_ (qau (by omega) rfl)
   rw [decide_eq_true (show ((more.length : Nat) : Int) = 0 by omega)]; rfl
  ·rw [if_pos (by simp only [List.length_append]; omega)]
   refine qba ?_ (qfq (by omega) (qau rfl rfl))
   rw [decide_eq_false (show ¬((more.length : Nat) : Int) = 0 by omega)]; rfl
noncomputable def midA (pl : Int) (A more : List Int) : Option Out :=
 cond (decide ((0 : Int) <= pl)) (
  cond (decide (pl < ((A.length : Nat) : Int))) (
   cond (decide ((0 : Int) <= pl)) (
   cond (decide (pl <= ((A.length : Nat) : Int))) (
   cond (qac (List.take (Int.toNat pl) A)) (
   cond (decide ((qar (List.take (Int.toNat pl) A)).2 = 0)) (some (.ret [.cl (.bool false)] [])) (endA A more)) none) none) none)
  (endA A more))
 (endA A more)
theorem mid_a {a : List CV} {more : List Int} (pl : Int) (ha : isS a = true) (hf : qql a = true) (hm : ∀ x ∈ more, 0 <= x /\ x <= 255) (hl : more.length <= 3000) : midA pl (qa2 a).1 more = some (.ret [.cl (.bool true)] []) := by
 obtain ⟨f1, f2, f3, f4, f5⟩ := qj7 ha hf
 have he := end_a ha hf hm hl
 unfold midA
 rw [he]
 refine qaf (fun h => qaf (fun h2 => qau h (qau (by omega) (qba (qdq f2 _) (qfq (fun hz => ?_) rfl)))) fun h2 => rfl) fun h => rfl
 have ht := qdq f2 (Int.toNat pl)
 have htl : ((qa2 a).1.take pl.toNat).length = pl.toNat := by rw [List.length_take]; omega
 rw [qnc] at hz
 by_cases h0 : (qax 32 ((qa2 a).1.take pl.toNat)).1 = 0
 ·have hu := qd4 ht h0
  have hx := qqj ht h0 ((qa2 a).1.drop pl.toNat)
  rw [List.take_append_drop, f4] at hx
  rw [<- hx] at hu
  have hu2 : (((qa2 a).1.length : Nat) : Int) <= ((qa2 a).1.take pl.toNat).length := hu.2
  omega
 ·rw [if_neg h0] at hz
  exact h0 hz
theorem nLAll (ta : Int) (ba : List Int) (ka : List CV) (tb : Int) (bb : List Int) (kb : List CV) (pl : Int) (more : List Int) (hp : (isT [.int .i64 ta, .sli .u8 ba, .slg 3 ka] && isT [.int .i64 tb, .sli .u8 bb, .slg 3 kb] && qfr more) = true) : gLAll ta ba ka tb bb kb pl more = some (.ret [.cl (.bool true)] []) := by
 simp only [Bool.and_eq_true] at hp
 unfold gLAll
 refine qba (by rw [hp.1.1, qkk (by omega)]; rfl) (qaf (fun h => rfl) fun h => qba (by rw [hp.1.2, qkk (by omega)]; rfl) (qaf (fun h2 => rfl) fun h2 => qaf (fun h3 => rfl) fun h3 => ?_))
 have ha := ql8 hp.1.1 h
 have hb := ql8 hp.1.2 h2
 have hm := qoz hp.2
 refine qba ha (qce (fun hf => rfl) fun hf => qba hb (qce (fun hg => rfl) fun hg => qba ha (qba hb ?_)))
 have hf : qql [.int .i64 ta, .sli .u8 ba, .slg 3 ka] = true := by simpa using hf
 have hg : qql [.int .i64 tb, .sli .u8 bb, .slg 3 kb] = true := by simpa using hg
 obtain ⟨f1, f2, f3, f4, f5⟩ := qj7 ha hf
 obtain ⟨g1, g2, g3, g4, g5⟩ := qj7 hb hg
 have hmid := mid_a pl ha hf hm (by omega)
 refine c_nneg f1 (c_nneg g1 (qaf (fun hle => qau (by omega) (qau hle (qba (bytes_lenOk ha) (qba (by rw [isN_isS ha, isN_isS hb]; rfl) (b_neg ?_ hmid))))) fun hle => hmid))
 have key : qb3 (qa2 [.int .i64 ta, .sli .u8 ba, .slg 3 ka]).1 (List.take (Int.toNat (((qa2 [.int .i64 ta, .sli .u8 ba, .slg 3 ka]).1.length : Nat) : Int)) (qa2 [.int .i64 tb, .sli .u8 bb, .slg 3 kb]).1) = qif [.int .i64 ta, .sli .u8 ba, .slg 3 ka] [.int .i64 tb, .sli .u8 bb, .slg 3 kb] := by
  rw [Bool.eq_iff_iff, qc6]
  unfold qb3 qhm
  rw [qae, decide_eq_true_iff, Int.toNat_natCast]
  constructor
  ·intro e
   have hx := qqj f2 (by rw [f4]) ((qa2 [.int .i64 tb, .sli .u8 bb, .slg 3 kb]).1.drop (qa2 [.int .i64 ta, .sli .u8 ba, .slg 3 ka]).1.length)
   have ec : (qa2 [.int .i64 ta, .sli .u8 ba, .slg 3 ka]).1 ++ (qa2 [.int .i64 tb, .sli .u8 bb, .slg 3 kb]).1.drop (qa2 [.int .i64 ta, .sli .u8 ba, .slg 3 ka]).1.length = (qa2 [.int .i64 tb, .sli .u8 bb, .slg 3 kb]).1 := by
    conv => lhs; lhs; rw [e]
    exact List.take_append_drop ..
   rw [ec, g4, f4] at hx
   have : toNd [.int .i64 tb, .sli .u8 bb, .slg 3 kb] = toNd [.int .i64 ta, .sli .u8 ba, .slg 3 ka] := (Prod.mk.inj (Prod.mk.inj hx).2).1
   rw [<- f5, <- g5, this]
  ·intro e
   rw [e, List.take_length]
 simp only [key]
 simp
end Go.Proofs.YtbgkadaidhgggaaDoorA
