/-
 What the layers below come to (their lemmas, as far as this seat needs them). Conditions: each function's own.
-/
import Derived.Test.YtfkpjbbkdkcdcaaDoorT2a
import Derived.Test.YtfkpjbbkdkcdcaaDoorT2b
import Derived.Test.YtfkpjbbkdkcdcaaDoorT2c
import Derived.Test.YtfkpjbbkdkcdcaaDoorT2d
import Derived.Test.YtfkpjbbkdkcdcaaDoorT3a
import Derived.IntWalk
set_option linter.unusedVariables false
set_option linter.unusedSimpArgs false
set_option maxRecDepth 100000
namespace Go.Proofs.YtfkpjbbkdkcdcaaDoorA
open IntWalk (i64_in u8_in u32_in u64_in i64_quo u8_quo rem_in)

theorem bulk_pos {n : Nat} {x : List CV} (hn : isTf n x = true) : 1 <= bulkF n x := by
 obtain ⟨n', t, b, l, rfl, rfl, _, hl⟩ := tf_inv hn
 show 1 <= 1 + b.length + _
 omega
theorem sum_mem {g : CV -> Nat} : ∀ {l : List CV} {c : CV}, c ∈ l -> g c <= (l.map g).sum
 | a :: r, c, h => by
  rw [List.map_cons, List.sum_cons]
  rcases List.mem_cons.1 h with rfl | h
  ·omega
  ·have := sum_mem (g := g) h; omega
theorem sum_len {g : CV -> Nat} : ∀ {l : List CV}, (∀ c ∈ l, 1 <= g c) -> l.length <= (l.map g).sum
 | [], _ => by simp
 | a :: r, h => by
  rw [List.map_cons, List.sum_cons, List.length_cons]
  have := sum_len (g := g) (l := r) fun c hc => h c (List.mem_cons_of_mem _ hc)
  have := h a (List.mem_cons_self ..)
  omega
/-- a small value's parts -/
theorem tf_parts {n : Nat} {t : Int} {b : List Int} {l : List CV} (h : isTf (n + 1) [.int .i64 t, .sli .u8 b, .slg 3 l] = true) {B : Nat} (hb : bulkF (n + 1) [.int .i64 t, .sli .u8 b, .slg 3 l] <= B) :
  b.length + 1 <= B /\ l.length + 1 <= B /\ (∀ z ∈ b, 0 <= z /\ z <= 255) /\ (∀ c ∈ l, ∃ y, c = .agg y /\ isTf n y = true /\ bulkF n y + 1 <= B) /\ 1 + b.length + (l.map fun c => bulkF n (cell1 c)).sum <= B := by
 obtain ⟨n', t', b', l', hn, he, h1, h2⟩ := tf_inv h
 obtain rfl : n = n' := by omega
 simp only [List.cons.injEq, CV.int.injEq, CV.sli.injEq, CV.slg.injEq, true_and, and_true] at he
 obtain ⟨rfl, rfl, rfl⟩ := he
 have hb : 1 + b.length + (l.map fun c => bulkF n (cell1 c)).sum <= B := hb
 have hs := sum_len (g := fun c => bulkF n (cell1 c)) (l := l) fun c hc => by
  obtain ⟨y, rfl, hy⟩ := h2 c hc
  exact bulk_pos hy
 refine ⟨by omega, by omega, h1, fun c hc => ?_, hb⟩
 obtain ⟨y, rfl, hy⟩ := h2 c hc
 have hm : bulkF n y <= (l.map fun c => bulkF n (cell1 c)).sum := sum_mem (g := fun c => bulkF n (cell1 c)) hc
 exact ⟨y, rfl, hy, by omega⟩
/-! ### sizes -/
theorem head_len (t n : Int) : ((derHeadC t n).length : Int) = 1 + derLenSizeC n := by
 unfold derHeadC derLenSizeC
 rw [List.length_cons]
 repeat' split
 all_goals rfl
theorem lenSize_rng (n : Int) : 1 <= derLenSizeC n /\ derLenSizeC n <= 4 := by
 unfold derLenSizeC
 repeat' split
 all_goals omega
theorem flat_bulk {g : CV -> List Int} {h : CV -> Nat} : ∀ {l : List CV}, (∀ c ∈ l, (g c).length <= 5 * h c) -> ((l.map g).flatten).length <= 5 * (l.map h).sum
 | [], _ => by simp
 | a :: r, hh => by
  have := hh a (List.mem_cons_self ..)
  have := flat_bulk (g := g) (h := h) (l := r) fun c hc => hh c (List.mem_cons_of_mem _ hc)
  simp only [List.map_cons, List.flatten_cons, List.length_append, List.sum_cons]
  omega
theorem bytes_len : ∀ {n : Nat} {x : List CV}, isTf n x = true -> (bytesF n x).1.length <= 5 * bulkF n x
 | n, x, hn => by
  obtain ⟨n', t, b, l, rfl, rfl, _, hl⟩ := tf_inv hn
  have hb : bulkF (n' + 1) [.int .i64 t, .sli .u8 b, .slg 3 l] = 1 + b.length + (l.map fun c => bulkF n' (cell1 c)).sum := rfl
  rw [hb]
  simp only [bytesF]
  split
  ·have hf := flat_bulk (g := fun c => (bytesF n' (cell1 c)).1) (h := fun c => bulkF n' (cell1 c)) (l := l) fun c hc => by
    obtain ⟨y, rfl, hy⟩ := hl c hc
    exact bytes_len hy
   have e : ((l.map fun c => bytesF n' (cell1 c)).map (·.1)) = l.map fun c => (bytesF n' (cell1 c)).1 := by rw [List.map_map]; rfl
   simp only [e]
   have hh := head_len t (((l.map fun c => (bytesF n' (cell1 c)).1).flatten).length : Nat)
   have hr := lenSize_rng (((l.map fun c => (bytesF n' (cell1 c)).1).flatten).length : Nat)
   rw [List.length_append]
   omega
  ·have hh := head_len t (b.length : Nat)
   have hr := lenSize_rng (b.length : Nat)
   simp only [List.length_append]
   omega
def sumL (f : CV -> List Int) : List CV -> Int
 | [] => 0
 | c :: r => (f c).length + sumL f r
theorem sumL_flat (f : CV -> List Int) : ∀ l : List CV, sumL f l = (((l.map f).flatten).length : Nat)
 | [] => rfl
 | c :: r => by simp only [sumL, List.map_cons, List.flatten_cons, List.length_append, sumL_flat f r]; omega
theorem sumL_drop (f : CV -> List Int) (l : List CV) (i : Nat) : 0 <= sumL f (l.drop i) /\ sumL f (l.drop i) <= sumL f l := by
 constructor
 ·rw [sumL_flat]; omega
 ·rw [sumL_flat, sumL_flat, List.map_drop]
  have h : ∀ (ls : List (List Int)) (i : Nat), ((ls.drop i).flatten).length <= (ls.flatten).length := fun ls => by
   induction ls with
   | nil => simp
   | cons a r ih =>
    intro i
    cases i with
    | zero => exact Nat.le_refl _
    | succ i =>
     have := ih i
     simp only [List.drop_succ_cons, List.flatten_cons, List.length_append]
     omega
  have := h (l.map f) i
  omega
theorem size_lp2 (rk d : Nat) (deep : Int) (hd : 1 <= deep /\ deep <= 1000) (hdd : deep.toNat = d + 1) (ka : List CV) (hlen : ka.length <= 30000) (hall : ∀ c ∈ ka, ∃ y, c = .agg y /\ isTf rk y = true /\ bulkF rk y <= 30000) (hsum : sumL (fun c => (bytesF rk (cell1 c)).1) ka <= 150000) (k1 : Int -> Int -> Int -> List CV -> Int -> Int -> List CV -> Nat -> Int -> List Int -> List CV -> Int -> List Int -> List CV -> Int -> Int -> Int -> Int -> Int -> Int -> Int -> Bool -> Int -> Bool -> Int -> List Int -> List CV -> Option Out) (F : Int -> Option Out) : ∀ (f i : Nat) (s : Int), i <= ka.length -> ka.length < f + i -> 0 <= s -> s + sumL (fun c => (bytesF rk (cell1 c)).1) (ka.drop i) <= 150000 ->
  lpDSize_8 rk (fun _ _ _ _ _ _ _ _ _ _ _ _ _ _ _ _ _ _ _ _ _ _ _ _ _ => some (.ret [.cl (.int .i64 (-1))] [])) k1 (fun _ y56 _ _ _ => F y56) f deep s ka ((ka.length : Nat) : Int) i = if (ka.drop i).all (fun c => okF rk d (cell1 c)) = true then F (s + sumL (fun c => (bytesF rk (cell1 c)).1) (ka.drop i)) else some (.ret [.cl (.int .i64 (-1))] [])
 | 0, i, s, hi, hf, _, _ => by omega
 | f + 1, i, s, hi, hf, h0, hs => by
  show lpDSize_8s rk (lpDSize_8 rk (fun _ _ _ _ _ _ _ _ _ _ _ _ _ _ _ _ _ _ _ _ _ _ _ _ _ => some (.ret [.cl (.int .i64 (-1))] [])) k1 (fun _ y56 _ _ _ => F y56) f) (fun _ _ _ _ _ _ _ _ _ _ _ _ _ _ _ _ _ _ _ _ _ _ _ _ _ => some (.ret [.cl (.int .i64 (-1))] [])) k1 (fun _ y56 _ _ _ => F y56) deep s ka ((ka.length : Nat) : Int) i = _
  unfold lpDSize_8s
  obtain ⟨R, hR⟩ : ∃ R : Option Out, R = (if (ka.drop i).all (fun c => okF rk d (cell1 c)) = true then F (s + sumL (fun c => (bytesF rk (cell1 c)).1) (ka.drop i)) else some (.ret [.cl (.int .i64 (-1))] [])) := ⟨_, rfl⟩
  rw [<- hR]
  refine c_split (fun h => ?_) fun h => ?_
  ·obtain ⟨c, hc⟩ := get_some (b := ka) (i := i) (by omega)
   obtain ⟨y, rfl, hy, hyb⟩ := hall c (List.mem_of_getElem? hc)
   have ed : ka.drop i = .agg y :: ka.drop (i + 1) := by
    obtain ⟨hlt, e⟩ := List.getElem?_eq_some_iff.1 hc
    rw [List.drop_eq_getElem_cons hlt, e]
   refine c_pos (by omega) (c_pos h ?_)
   rw [show (i : Int).toNat = i from rfl, hc, Option.bind_some]
   obtain ⟨m, t, b, l, hm, hye, _⟩ := tf_inv hy
   simp only [cell1, hye, List.headD_cons, List.tail_cons]
   refine b_pos rfl ?_
   simp only [show IntKind.i64.wrap (deep - 1) = deep - 1 from i64_in _ (by omega), cvInt, cvSli, cvSlg]
   refine b_pos ?_ ?_
   ·simp only [Bool.and_eq_true]
    exact ⟨isSr_of (hye ▸ hy) (hye ▸ hyb), deepOk_of (by omega)⟩
   ·have e : ndSize [.int .i64 t, .sli .u8 b, .slg 3 l] (deep - 1) = if okF rk d y = true then ((bytesF rk y).1.length : Int) else -1 := by
     rw [<- hye, ndSize_eq hy, show (deep - 1).toNat = d by omega]
    have es : sumL (fun c => (bytesF rk (cell1 c)).1) (ka.drop i) = ((bytesF rk y).1.length : Int) + sumL (fun c => (bytesF rk (cell1 c)).1) (ka.drop (i + 1)) := by rw [ed]; rfl
    have hpos := (sumL_drop (fun c => (bytesF rk (cell1 c)).1) ka (i + 1)).1
    rw [es] at hs
    rw [e]
    have ea : (ka.drop i).all (fun c => okF rk d (cell1 c)) = (okF rk d y && (ka.drop (i + 1)).all (fun c => okF rk d (cell1 c))) := by rw [ed, List.all_cons]; rfl
    rw [ea, es] at hR
    by_cases hok : okF rk d y = true
    ·rw [hok, Bool.true_and] at hR
     rw [if_pos hok]
     refine c_neg (by omega) ?_
     rw [show IntKind.i64.wrap (s + ((bytesF rk y).1.length : Int)) = s + ((bytesF rk y).1.length : Int) from i64_in _ (by omega)]
     refine c_neg (by omega) ?_
     rw [show IntKind.i64.wrap ((i : Int) + 1) = ((i + 1 : Nat) : Int) from (i64_in _ (by omega)).trans (by omega)]
     refine (size_lp2 rk d deep hd hdd ka hlen hall hsum k1 F f (i + 1) _ (by omega) (by omega) (by omega) (by omega)).trans ?_
     rw [hR, Int.add_assoc]
    ·rw [if_neg hok]
     refine c_pos (by omega) ?_
     rw [hR, if_neg (by simp [hok])]
  ·rw [List.drop_eq_nil_of_le (by omega)] at hR
   rw [hR]
   show F s = if ([] : List CV).all (fun c => okF rk d (cell1 c)) = true then F (s + 0) else _
   rw [if_pos (by rfl), Int.add_zero]
theorem nDSize (rk : Nat) (ta : Int) (ba : List Int) (ka : List CV) (deep : Int) (hp : (isSr (rk + 1) [.int .i64 ta, .sli .u8 ba, .slg 3 ka] && deepOk deep) = true) : gDSize rk ta ba ka deep = some (.ret [.cl (.int .i64 (ndSize [.int .i64 ta, .sli .u8 ba, .slg 3 ka] deep))] []) := by
 simp only [Bool.and_eq_true] at hp
 obtain ⟨ht, hb⟩ := isSr_spec hp.1
 have hd := deepOk_spec hp.2
 obtain ⟨h1, h2, h3, h4, h5⟩ := tf_parts ht hb
 rw [ndSize_eq ht]
 unfold gDSize derKnown derBoxed derFits derLenSize
 simp only [shut_eq]
 refine c_split (fun h => ?_) fun h => ?_
 ·subst h; rfl
 obtain ⟨d, hdd⟩ : ∃ d, deep.toNat = d + 1 := ⟨deep.toNat - 1, by omega⟩
 rw [hdd]
 have hokF : okF (rk + 1) (d + 1) [.int .i64 ta, .sli .u8 ba, .slg 3 ka] = (derKnownC ta && (if derBoxedC ta = true then decide (ba = []) && ka.all fun c => okF rk d (cell1 c) else decide (ka = []) && derFitsC ta ba)) := rfl
 rw [hokF]
 refine b_split (fun hk => ?_) fun hk => ?_
 ·rw [if_neg (by simp only [Bool.not_eq_true'] at hk; simp [hk])]
 have hk : derKnownC ta = true := by simpa using hk
 rw [hk, Bool.true_and]
 have hflen : (((ka.map fun c => (bytesF rk (cell1 c)).1).flatten).length : Int) <= 150000 := by
  have := flat_bulk (g := fun c => (bytesF rk (cell1 c)).1) (h := fun c => bulkF rk (cell1 c)) (l := ka) fun c hc => by
   obtain ⟨y, rfl, hy, _⟩ := h4 c hc
   exact bytes_len hy
  omega
 refine b_split (fun hx => ?_) fun hx => ?_
 ·rw [if_pos hx]
  refine c_split (fun hba => ?_) fun hba => ?_
  ·rw [if_neg (by intro e; simp only [Bool.and_eq_true, decide_eq_true_eq] at e; rw [e.1] at hba; simp at hba)]
  ·obtain rfl : ba = [] := List.eq_nil_of_length_eq_zero (by omega)
   refine (size_lp2 rk d deep (by omega) hdd ka (by omega) (fun c hc => by obtain ⟨y, e, hy, hyb⟩ := h4 c hc; exact ⟨y, e, hy, by omega⟩) (by rw [sumL_flat]; exact hflen) _ (fun n => some (.ret [.cl (.int .i64 (IntKind.i64.wrap (IntKind.i64.wrap ((1 : Int) + derLenSizeC n) + n)))] [])) FUEL 0 0 (by omega) (by unfold FUEL; omega) (by omega) (by rw [List.drop_zero, sumL_flat]; omega)).trans ?_
   rw [List.drop_zero, decide_eq_true (show ([] : List Int) = [] from rfl), Bool.true_and, sumL_flat, Int.zero_add]
   by_cases ha : (ka.all fun c => okF rk d (cell1 c)) = true
   ·rw [if_pos ha, if_pos ha]
    have hr := lenSize_rng (((ka.map fun c => (bytesF rk (cell1 c)).1).flatten).length : Nat)
    rw [show IntKind.i64.wrap ((1 : Int) + derLenSizeC (((ka.map fun c => (bytesF rk (cell1 c)).1).flatten).length : Nat)) = 1 + derLenSizeC (((ka.map fun c => (bytesF rk (cell1 c)).1).flatten).length : Nat) from i64_in _ (by omega)]
    rw [i64_in _ (show -9223372036854775808 <= (1 : Int) + derLenSizeC (((ka.map fun c => (bytesF rk (cell1 c)).1).flatten).length : Nat) + (((ka.map fun c => (bytesF rk (cell1 c)).1).flatten).length : Nat) /\ _ <= 9223372036854775807 by omega)]
    refine ret_int ?_
    simp only [bytesF]
    rw [if_pos hx]
    have e : ((ka.map fun c => bytesF rk (cell1 c)).map (·.1)) = ka.map fun c => (bytesF rk (cell1 c)).1 := by rw [List.map_map]; rfl
    simp only [e]
    rw [List.length_append]
    have hh := head_len ta (((ka.map fun c => (bytesF rk (cell1 c)).1).flatten).length : Nat)
    omega
   ·rw [if_neg ha, if_neg ha]
 ·rw [if_neg (show ¬derBoxedC ta = true by simp [hx])]
  refine c_split (fun hka => ?_) fun hka => ?_
  ·rw [if_neg (by intro e; simp only [Bool.and_eq_true, decide_eq_true_eq] at e; rw [e.1] at hka; simp at hka)]
  ·obtain rfl : ka = [] := List.eq_nil_of_length_eq_zero (by omega)
   refine c_neg (by omega) (b_pos (bytesOk_of (by omega) h3) ?_)
   rw [decide_eq_true (show ([] : List CV) = [] from rfl), Bool.true_and]
   refine b_split (fun hf => ?_) fun hf => ?_
   ·rw [if_neg (by simp only [Bool.not_eq_true'] at hf; simp [hf])]
   ·rw [if_pos (by simpa using hf)]
    have hr := lenSize_rng (ba.length : Nat)
    rw [show IntKind.i64.wrap ((1 : Int) + derLenSizeC (ba.length : Nat)) = 1 + derLenSizeC (ba.length : Nat) from i64_in _ (by omega)]
    rw [i64_in _ (show -9223372036854775808 <= (1 : Int) + derLenSizeC (ba.length : Nat) + (ba.length : Nat) /\ _ <= 9223372036854775807 by omega)]
    refine ret_int ?_
    simp only [bytesF]
    rw [if_neg (show ¬derBoxedC ta = true by simp [hx])]
    have hh := head_len ta (ba.length : Nat)
    simp only [List.length_append]
    omega
end Go.Proofs.YtfkpjbbkdkcdcaaDoorA

namespace Go.Proofs.YtfkpjbbkdkcdcaaDoorA
open IntWalk (i64_in u8_in u32_in u64_in i64_quo u8_quo rem_in)

theorem known_rng {t : Int} (h : derKnownC t = true) : 0 <= t /\ t <= 255 := by
 unfold derKnownC derBoxedC at h
 simp only [Bool.or_eq_true, decide_eq_true_eq] at h
 omega
theorem head_byte {t n : Int} (ht : 0 <= t /\ t <= 255) (hn : 0 <= n /\ n < 16777216) : ∀ z ∈ derHeadC t n, 0 <= z /\ z <= 255 := by
 intro z hz
 unfold derHeadC at hz
 rcases List.mem_cons.1 hz with rfl | hz
 ·exact ht
 ·split at hz
  ·simp only [List.mem_cons, List.mem_nil_iff, or_false] at hz; omega
  ·split at hz
   ·simp only [List.mem_cons, List.mem_nil_iff, or_false] at hz; omega
   ·split at hz
    ·simp only [List.mem_cons, List.mem_nil_iff, or_false] at hz; omega
    ·simp only [List.mem_cons, List.mem_nil_iff, or_false] at hz; omega
theorem ok_parts {n d : Nat} {t : Int} {b : List Int} {l : List CV} (h : okF (n + 1) d [.int .i64 t, .sli .u8 b, .slg 3 l] = true) : ∃ d', d = d' + 1 /\ derKnownC t = true /\ ((derBoxedC t = true /\ b = [] /\ ∀ c ∈ l, okF n d' (cell1 c) = true) \/ (derBoxedC t = false /\ l = [] /\ derFitsC t b = true)) := by
 cases d with
 | zero => exact absurd h Bool.false_ne_true
 | succ d =>
  have h : (derKnownC t && (if derBoxedC t = true then decide (b = []) && l.all fun c => okF n d (cell1 c) else decide (l = []) && derFitsC t b)) = true := h
  rw [Bool.and_eq_true] at h
  refine ⟨d, rfl, h.1, ?_⟩
  obtain ⟨_, h⟩ := h
  split at h
  ·rename_i hx
   simp only [Bool.and_eq_true, decide_eq_true_eq, List.all_eq_true] at h
   exact .inl ⟨hx, h⟩
  ·rename_i hx
   simp only [Bool.and_eq_true, decide_eq_true_eq] at h
   exact .inr ⟨by simpa using hx, h⟩
theorem bytes_box {n : Nat} {t : Int} {b : List Int} {l : List CV} (hx : derBoxedC t = true) : bytesF (n + 1) [.int .i64 t, .sli .u8 b, .slg 3 l] = (derHeadC t ((l.map fun c => (bytesF n (cell1 c)).1).flatten.length : Nat) ++ (l.map fun c => (bytesF n (cell1 c)).1).flatten, (l.all fun c => (bytesF n (cell1 c)).2) && (!(decide (t = 49)) || rowsSortedC (l.map fun c => (bytesF n (cell1 c)).1))) := by
 simp only [bytesF]
 rw [if_pos hx]
 have e : ((l.map fun c => bytesF n (cell1 c)).map (·.1)) = l.map fun c => (bytesF n (cell1 c)).1 := by rw [List.map_map]; rfl
 have e2 : ((l.map fun c => bytesF n (cell1 c)).all (·.2)) = l.all fun c => (bytesF n (cell1 c)).2 := by rw [List.all_map]; rfl
 simp only [e, e2]
theorem bytes_leaf {n : Nat} {t : Int} {b : List Int} {l : List CV} (hx : derBoxedC t = false) : bytesF (n + 1) [.int .i64 t, .sli .u8 b, .slg 3 l] = (derHeadC t (b.length : Nat) ++ b, true) := by
 simp only [bytesF]
 rw [if_neg (show ¬derBoxedC t = true by simp [hx])]
theorem flat5 {n : Nat} {l : List CV} {B : Nat} (hl : ∀ c ∈ l, ∃ y, c = .agg y /\ isTf n y = true) (hb : (l.map fun c => bulkF n (cell1 c)).sum <= B) : ((l.map fun c => (bytesF n (cell1 c)).1).flatten).length <= 5 * B := by
 have := flat_bulk (g := fun c => (bytesF n (cell1 c)).1) (h := fun c => bulkF n (cell1 c)) (l := l) fun c hc => by
  obtain ⟨y, rfl, hy⟩ := hl c hc
  exact bytes_len hy
 omega
theorem bytes_byte : ∀ {n d : Nat} {x : List CV}, isTf n x = true -> bulkF n x <= 30000 -> okF n d x = true -> ∀ z ∈ (bytesF n x).1, 0 <= z /\ z <= 255
 | n, d, x, hn, hb, hok => by
  obtain ⟨n', t, b, l, rfl, rfl, hbb, hl⟩ := tf_inv hn
  obtain ⟨h1, h2, h3, h4, h5⟩ := tf_parts hn hb
  obtain ⟨d', rfl, hk, h⟩ := ok_parts hok
  rcases h with ⟨hx, rfl, hall⟩ | ⟨hx, rfl, hf⟩
  ·rw [bytes_box hx]
   have hfl := flat5 (B := 30000) hl (by omega)
   intro z hz
   rcases List.mem_append.1 hz with hz | hz
   ·exact head_byte (known_rng hk) (by omega) z hz
   ·obtain ⟨r, hr, hz⟩ := List.mem_flatten.1 hz
    obtain ⟨c, hc, rfl⟩ := List.mem_map.1 hr
    obtain ⟨y, rfl, hy, hyb⟩ := h4 c hc
    exact bytes_byte hy (by omega) (hall _ hc) z hz
  ·rw [bytes_leaf hx]
   intro z hz
   rcases List.mem_append.1 hz with hz | hz
   ·exact head_byte (known_rng hk) (by omega) z hz
   ·exact h3 z hz

theorem rowsJoin_map (R : List (List Int)) : rowsJoin (R.map (CV.sli .u8)) = R.flatten := by
 unfold rowsJoin
 rw [shut_eq, List.flatMap_map]
 show R.flatMap (fun x => x) = _
 rw [List.flatMap_id']
theorem joinOk_map {R : List (List Int)} (h1 : R.length <= 1000000) (h2 : ∀ x ∈ R, rowB x = true) (h3 : R.flatten.length <= 1000000) : joinOk (R.map (CV.sli .u8)) = true := by
 unfold joinOk
 rw [shut_eq]
 simp only [Bool.and_eq_true, decide_eq_true_eq, List.all_eq_true, List.length_map, List.mem_map]
 refine ⟨h1, fun x hx => ?_, ?_⟩
 ·obtain ⟨y, hy, rfl⟩ := hx
  exact h2 y hy
 ·have := rowsJoin_map R
  unfold rowsJoin at this
  rw [shut_eq] at this
  rw [this]
  exact h3
noncomputable def badW : Option Out := some (.ret [.cl (.sli .u8 []), .cl (.bool false)] [])
noncomputable def headW (t s : Int) (rows : List CV) : Option Out :=
 cond (headOk t s) (cond (joinOk rows) (cond (Nat.ble ((derHead t s ++ rowsJoin rows).length * 1) LIMN) (cond (Nat.ble ((derHead t s ++ rowsJoin rows).length) LIMN) (some (.ret [.cl (.sli .u8 (derHead t s ++ rowsJoin rows)), .cl (.bool true)] [])) none) none) none) none
noncomputable def finW (t s : Int) (rows : List CV) : Option Out :=
 cond (decide (t = 49)) (cond (rowsOk rows) (cond (!(rowsSorted rows)) badW (headW t s rows)) none) (headW t s rows)
theorem fin_w {t : Int} {R : List (List Int)} (ht : 0 <= t /\ t <= 255) (h1 : R.length <= 30000) (h2 : ∀ x ∈ R, rowB x = true) (h3 : R.flatten.length <= 150000) :
  finW t ((R.flatten.length : Nat) : Int) (R.map (CV.sli .u8)) = if (!(decide (t = 49)) || rowsSortedC R) = true then some (.ret [.cl (.sli .u8 (derHeadC t (R.flatten.length : Nat) ++ R.flatten)), .cl (.bool true)] []) else badW := by
 have hh : headW t ((R.flatten.length : Nat) : Int) (R.map (CV.sli .u8)) = some (.ret [.cl (.sli .u8 (derHeadC t (R.flatten.length : Nat) ++ R.flatten)), .cl (.bool true)] []) := by
  unfold headW derHead
  rw [shut_eq, rowsJoin_map]
  have hl := head_len t (R.flatten.length : Nat)
  have hr := lenSize_rng (R.flatten.length : Nat)
  refine b_pos ?_ (b_pos (joinOk_map (by omega) h2 (by omega)) (lim_in (by simp only [List.length_append]; omega) (lim_in (by simp only [List.length_append]; omega) rfl)))
  unfold headOk
  rw [shut_eq]
  exact decide_eq_true (by omega)
 unfold finW
 rw [hh, rowsSorted_map]
 refine c_split (fun h => b_pos (rowsOk_map (by omega) h2) (b_split (fun h9 => ?_) fun h9 => ?_)) fun h => ?_
 ·rw [if_neg (by simp only [Bool.not_eq_true'] at h9; simp [h, h9])]
 ·rw [if_pos (by simp only [Bool.not_eq_false'] at h9; simp [h9])]
 ·rw [if_pos (by simp [h])]
theorem rows_b {n d : Nat} {l : List CV} (h4 : ∀ c ∈ l, ∃ y, c = .agg y /\ isTf n y = true /\ bulkF n y + 1 <= 30000) (hall : ∀ c ∈ l, okF n d (cell1 c) = true) : ∀ x ∈ (l.map fun c => (bytesF n (cell1 c)).1), rowB x = true := by
 intro x hx
 obtain ⟨c, hc, rfl⟩ := List.mem_map.1 hx
 obtain ⟨y, rfl, hy, hyb⟩ := h4 c hc
 have h1 := bytes_len hy
 have h2 := bytes_byte hy (by omega) (hall _ hc)
 unfold rowB
 simp only [Bool.and_eq_true, decide_eq_true_eq, List.all_eq_true]
 exact ⟨by show (bytesF n y).1.length <= _; omega, fun z hz => decide_eq_true (h2 z hz)⟩

end Go.Proofs.YtfkpjbbkdkcdcaaDoorA

namespace Go.Proofs.YtfkpjbbkdkcdcaaDoorA
open IntWalk (i64_in u8_in u32_in u64_in i64_quo u8_quo rem_in)

theorem rows_map (n : Nat) (l : List CV) : (l.map fun c => CV.sli .u8 (bytesF n (cell1 c)).1) = (l.map fun c => (bytesF n (cell1 c)).1).map (CV.sli .u8) := by rw [List.map_map]; rfl
end Go.Proofs.YtfkpjbbkdkcdcaaDoorA

namespace Go.Proofs.YtfkpjbbkdkcdcaaDoorA
open IntWalk (i64_in u8_in u32_in u64_in i64_quo u8_quo rem_in)

theorem dwrite_lp (rk d : Nat) (ta : Int) (ba : List Int) (ka kb : List CV) (hlen : ka.length <= 30000) (hall : ∀ c ∈ ka, ∃ y, c = .agg y /\ isTf rk y = true /\ bulkF rk y + 1 <= 30000) (hok : ∀ c ∈ ka, okF rk d (cell1 c) = true) : ∀ (f i : Nat) (s : Int), i <= ka.length -> ka.length < f + i -> 0 <= s -> s + sumL (fun c => (bytesF rk (cell1 c)).1) (ka.drop i) <= 150000 ->
  lpDWrite_6 rk (fun _ _ _ _ _ _ _ _ _ _ _ _ _ _ _ _ _ _ _ _ _ _ _ _ _ _ _ _ _ _ _ => badW) (fun _ y37 _ _ _ y41 _ _ y44 => finW y41 y37 y44) f ka.length s ka ((ka.length : Nat) : Int) i ta ba kb (((ka.take i).map fun c => CV.sli .u8 (bytesF rk (cell1 c)).1) ++ List.replicate (ka.length - i) (.sli .u8 [])) = if (ka.drop i).all (fun c => (bytesF rk (cell1 c)).2) = true then finW ta (s + sumL (fun c => (bytesF rk (cell1 c)).1) (ka.drop i)) (ka.map fun c => .sli .u8 (bytesF rk (cell1 c)).1) else badW
 | 0, i, s, hi, hf, _, _ => by omega
 | f + 1, i, s, hi, hf, h0, hs => by
  show lpDWrite_6s rk (lpDWrite_6 rk (fun _ _ _ _ _ _ _ _ _ _ _ _ _ _ _ _ _ _ _ _ _ _ _ _ _ _ _ _ _ _ _ => badW) (fun _ y37 _ _ _ y41 _ _ y44 => finW y41 y37 y44) f) (fun _ _ _ _ _ _ _ _ _ _ _ _ _ _ _ _ _ _ _ _ _ _ _ _ _ _ _ _ _ _ _ => badW) (fun _ y37 _ _ _ y41 _ _ y44 => finW y41 y37 y44) ka.length s ka ((ka.length : Nat) : Int) i ta ba kb (((ka.take i).map fun c => CV.sli .u8 (bytesF rk (cell1 c)).1) ++ List.replicate (ka.length - i) (.sli .u8 [])) = _
  unfold lpDWrite_6s
  obtain ⟨R, hR⟩ : ∃ R : Option Out, R = if (ka.drop i).all (fun c => (bytesF rk (cell1 c)).2) = true then finW ta (s + sumL (fun c => (bytesF rk (cell1 c)).1) (ka.drop i)) (ka.map fun c => .sli .u8 (bytesF rk (cell1 c)).1) else badW := ⟨_, rfl⟩
  rw [<- hR]
  obtain ⟨W, hW⟩ : ∃ W : List CV, W = ((ka.take i).map fun c => CV.sli .u8 (bytesF rk (cell1 c)).1) ++ List.replicate (ka.length - i) (.sli .u8 []) := ⟨_, rfl⟩
  rw [<- hW]
  refine c_split (fun h => ?_) fun h => ?_
  ·obtain ⟨c, hc⟩ := get_some (b := ka) (i := i) (by omega)
   obtain ⟨y, rfl, hy, hyb⟩ := hall c (List.mem_of_getElem? hc)
   have hoky : okF rk d y = true := hok _ (List.mem_of_getElem? hc)
   have ed : ka.drop i = .agg y :: ka.drop (i + 1) := by
    obtain ⟨hlt, e⟩ := List.getElem?_eq_some_iff.1 hc
    rw [List.drop_eq_getElem_cons hlt, e]
   refine c_pos (by omega) (c_pos h ?_)
   rw [show (i : Int).toNat = i from rfl, hc, Option.bind_some]
   obtain ⟨m, t, b, l, hm, hye, _⟩ := tf_inv hy
   have hset : W.set (0 + i) (.sli .u8 (bytesF rk y).1) = ((ka.take (i + 1)).map fun c => CV.sli .u8 (bytesF rk (cell1 c)).1) ++ List.replicate (ka.length - (i + 1)) (.sli .u8 []) := by
    rw [hW, Nat.zero_add, List.set_append_right _ _ (by simp; omega)]
    have e1 : i - ((ka.take i).map fun c => CV.sli .u8 (bytesF rk (cell1 c)).1).length = 0 := by simp; omega
    rw [e1, show ka.length - i = (ka.length - (i + 1)) + 1 by omega, List.replicate_succ, List.set_cons_zero]
    have e2 : ka.take (i + 1) = ka.take i ++ [.agg y] := by
     rw [List.take_add_one, hc]; rfl
    rw [e2, List.map_append, List.append_assoc]
    rfl
   simp only [cell1, hye, List.headD_cons, List.tail_cons]
   refine b_pos rfl ?_
   simp only [cvInt, cvSli, cvSlg]
   refine b_pos ?_ ?_
   ·exact isWr_of ⟨hye ▸ hy, hye ▸ (by omega), d, hye ▸ hoky⟩
   ·have e : ndWrite [.int .i64 t, .sli .u8 b, .slg 3 l] = if (bytesF rk y).2 = true then ((bytesF rk y).1, true) else ([], false) := by
     rw [<- hye, ndWrite_eq hy]
    have es : sumL (fun c => (bytesF rk (cell1 c)).1) (ka.drop i) = ((bytesF rk y).1.length : Int) + sumL (fun c => (bytesF rk (cell1 c)).1) (ka.drop (i + 1)) := by rw [ed]; rfl
    have hpos := (sumL_drop (fun c => (bytesF rk (cell1 c)).1) ka (i + 1)).1
    rw [es] at hs hR
    have ea : (ka.drop i).all (fun c => (bytesF rk (cell1 c)).2) = ((bytesF rk y).2 && (ka.drop (i + 1)).all (fun c => (bytesF rk (cell1 c)).2)) := by rw [ed, List.all_cons]; rfl
    rw [ea] at hR
    by_cases hk : (bytesF rk y).2 = true
    ·rw [if_pos hk] at e
     rw [hk, Bool.true_and] at hR
     simp only [e]
     refine b_neg rfl ?_
     rw [show IntKind.i64.wrap (s + ((bytesF rk y).1.length : Int)) = s + ((bytesF rk y).1.length : Int) from i64_in _ (by omega)]
     refine c_pos (by omega) (c_pos h ?_)
     rw [hset, show IntKind.i64.wrap ((i : Int) + 1) = ((i + 1 : Nat) : Int) from (i64_in _ (by omega)).trans (by omega)]
     refine (dwrite_lp rk d ta ba ka kb hlen hall hok f (i + 1) _ (by omega) (by omega) (by omega) (by omega)).trans ?_
     rw [hR, Int.add_assoc]
    ·rw [if_neg hk] at e
     simp only [e]
     refine b_pos rfl ?_
     rw [hR, if_neg (by intro h; simp only [Bool.and_eq_true] at h; exact hk h.1)]
  ·obtain rfl : i = ka.length := by omega
   rw [List.drop_eq_nil_of_le (Nat.le_refl _)] at hR
   rw [hR, hW, List.take_length, Nat.sub_self]
   show finW ta s ((ka.map fun c => CV.sli .u8 (bytesF rk (cell1 c)).1) ++ []) = if ([] : List CV).all (fun c => (bytesF rk (cell1 c)).2) = true then finW ta (s + 0) _ else _
   rw [if_pos (by rfl), Int.add_zero, List.append_nil]
theorem nDWrite (rk : Nat) (ta : Int) (ba : List Int) (ka : List CV) (hp : isWr (rk + 1) [.int .i64 ta, .sli .u8 ba, .slg 3 ka] = true) : gDWrite rk ta ba ka = some (.ret [.cl (.sli .u8 (ndWrite [.int .i64 ta, .sli .u8 ba, .slg 3 ka]).1), .cl (.bool (ndWrite [.int .i64 ta, .sli .u8 ba, .slg 3 ka]).2)] []) := by
 obtain ⟨ht, hb, d, hok⟩ := isWr_spec hp
 obtain ⟨h1, h2, h3, h4, h5⟩ := tf_parts ht hb
 obtain ⟨d', rfl, hk, h⟩ := ok_parts hok
 rw [ndWrite_eq ht]
 unfold gDWrite derBoxed
 simp only [shut_eq]
 rcases h with ⟨hx, rfl, hall⟩ | ⟨hx, rfl, hf⟩
 ·have hflen := flat5 (n := rk) (l := ka) (B := 30000) (fun c hc => by obtain ⟨y, e, hy, _⟩ := h4 c hc; exact ⟨y, e, hy⟩) (by simp only [List.length_nil] at h5; omega)
  refine b_neg (by simp [hx]) (c_pos (by omega) (c_pos (by omega) (c_pos (by unfold LIM; omega) (c_pos (by unfold LIM; omega) ?_))))
  refine (dwrite_lp rk d' ta [] ka ka (by omega) h4 hall FUEL 0 0 (by omega) (by unfold FUEL; omega) (by omega) (by rw [List.drop_zero, sumL_flat]; omega)).trans ?_
  rw [List.drop_zero, sumL_flat, Int.zero_add, rows_map, bytes_box hx]
  by_cases ha : (ka.all fun c => (bytesF rk (cell1 c)).2) = true
  ·rw [if_pos ha, fin_w (known_rng hk) (by rw [List.length_map]; omega) (rows_b h4 hall) (by omega), ha, Bool.true_and]
   by_cases hs : (!(decide (ta = 49)) || rowsSortedC (ka.map fun c => (bytesF rk (cell1 c)).1)) = true
   ·rw [if_pos hs, if_pos hs]
   ·rw [if_neg hs, if_neg hs]; rfl
  ·rw [if_neg ha]
   have hf : (ka.all fun c => (bytesF rk (cell1 c)).2) = false := by simpa using ha
   rw [hf, Bool.false_and]
   rfl
 ·have hr := head_len ta (ba.length : Nat)
  have hr2 := lenSize_rng (ba.length : Nat)
  have := known_rng hk
  unfold derHead
  simp only [shut_eq]
  rw [bytes_leaf hx]
  refine b_pos (by simp [hx]) (b_pos (by unfold headOk; rw [shut_eq]; exact decide_eq_true (by omega)) (lim_in (by simp only [List.length_append]; omega) (lim_in (by simp only [List.length_append]; omega) rfl)))

/-! ### bytes, and what is fit -/
theorem nDBytes (ta : Int) (ba : List Int) (ka : List CV) (hp : isS [.int .i64 ta, .sli .u8 ba, .slg 3 ka] = true) : gDBytes ta ba ka = some (.ret [.cl (.sli .u8 (ndBytes [.int .i64 ta, .sli .u8 ba, .slg 3 ka]).1), .cl (.int .i64 (ndBytes [.int .i64 ta, .sli .u8 ba, .slg 3 ka]).2)] []) := by
 obtain ⟨n, ht, hb⟩ := isS_spec hp
 have hl := bytes_len ht
 unfold gDBytes
 refine b_pos (by rw [hp, deepOk_of (by omega)]; rfl) ?_
 rw [ndSize_eq ht, show (32 : Int).toNat = 32 from rfl]
 by_cases hok : okF n 32 [.int .i64 ta, .sli .u8 ba, .slg 3 ka] = true
 ·simp only [if_pos hok]
  refine c_neg (by omega) (c_neg (by omega) (b_pos (isW_of ⟨ht, hb, 32, hok⟩) ?_))
  simp only [ndWrite_eq ht, ndBytes_eq ht]
  by_cases h : (bytesF n [.int .i64 ta, .sli .u8 ba, .slg 3 ka]).2 = true
  ·simp only [if_pos h, if_pos (show okF n 32 [.int .i64 ta, .sli .u8 ba, .slg 3 ka] = true /\ (bytesF n [.int .i64 ta, .sli .u8 ba, .slg 3 ka]).2 = true from ⟨hok, h⟩)]
   exact b_neg rfl rfl
  ·simp only [if_neg h, if_neg (show ¬(okF n 32 [.int .i64 ta, .sli .u8 ba, .slg 3 ka] = true /\ (bytesF n [.int .i64 ta, .sli .u8 ba, .slg 3 ka]).2 = true) from fun e => h e.2)]
   exact b_pos rfl rfl
 ·simp only [if_neg hok, ndBytes_eq ht, if_neg (show ¬(okF n 32 [.int .i64 ta, .sli .u8 ba, .slg 3 ka] = true /\ (bytesF n [.int .i64 ta, .sli .u8 ba, .slg 3 ka]).2 = true) from fun e => hok e.1)]
  exact c_pos (by omega) rfl
theorem fit_bytes {n : Nat} {a : List CV} (ht : isTf n a = true) : decide ((ndBytes a).2 = 0) = ndFit a := by
 rw [ndBytes_eq ht, ndFit_eq ht]
 by_cases h : okF n 32 a = true /\ (bytesF n a).2 = true
 ·rw [if_pos h, decide_eq_true h]; rfl
 ·rw [if_neg h, decide_eq_false h]; rfl
theorem nDFit_ (ta : Int) (ba : List Int) (ka : List CV) (hp : isS [.int .i64 ta, .sli .u8 ba, .slg 3 ka] = true) : gDFit_ ta ba ka = some (.ret [.cl (.bool (ndFit [.int .i64 ta, .sli .u8 ba, .slg 3 ka]))] []) := by
 obtain ⟨n, ht, hb⟩ := isS_spec hp
 unfold gDFit_
 exact b_pos hp (ret_bool (fit_bytes ht))
end Go.Proofs.YtfkpjbbkdkcdcaaDoorA

namespace Go.Proofs.YtfkpjbbkdkcdcaaDoorA
open IntWalk (i64_in u8_in u32_in u64_in i64_quo u8_quo rem_in)

/-! ### the law -/
end Go.Proofs.YtfkpjbbkdkcdcaaDoorA

namespace Go.Proofs.YtfkpjbbkdkcdcaaDoorA

end Go.Proofs.YtfkpjbbkdkcdcaaDoorA

namespace Go.Proofs.YtfkpjbbkdkcdcaaDoorA

end Go.Proofs.YtfkpjbbkdkcdcaaDoorA

namespace Go.Proofs.YtfkpjbbkdkcdcaaDoorA

end Go.Proofs.YtfkpjbbkdkcdcaaDoorA

namespace Go.Proofs.YtfkpjbbkdkcdcaaDoorA
open IntWalk (i64_in u8_in u32_in u64_in i64_quo u8_quo rem_in)

/-! ### bytes that are so -/
theorem wrap_succ {i : Nat} (h : i <= 1000000000000) : IntKind.i64.wrap ((i : Int) + 1) = ((i + 1 : Nat) : Int) := (i64_in _ (by omega)).trans (by omega)
theorem same_go {a b : List Int} {T : Nat -> Int -> Option Out}
  (hT : ∀ (f i : Nat), T (f + 1) i = cond (decide ((i : Int) < ((a.length : Nat) : Int))) (getK a i fun x => getK b i fun y => cond (!decide (x = y)) (some (.ret [.cl (.bool false)] [])) (T f (IntKind.i64.wrap ((i : Int) + 1)))) (some (.ret [.cl (.bool true)] [])))
  (hl : a.length = b.length) (hb : a.length <= 100000000) : ∀ (f i : Nat), i <= a.length -> a.length < f + i -> T f i = some (.ret [.cl (.bool (decide (a.drop i = b.drop i)))] [])
 | 0, i, hi, hf => by omega
 | f + 1, i, hi, hf => by
  rw [hT]
  refine c_split (fun h => ?_) fun h => ?_
  ·obtain ⟨x, hx⟩ := get_some (b := a) (i := i) (by omega)
   obtain ⟨y, hy⟩ := get_some (b := b) (i := i) (by omega)
   refine getK_in (by omega) hx (getK_in (by omega) hy ?_)
   rw [drop_cons hx, drop_cons hy]
   refine c_nsplit (fun hne => ret_bool ?_) fun he => ?_
   ·simp [hne]
   ·subst he
    rw [wrap_succ (by omega)]
    refine (same_go hT hl hb f (i + 1) (by omega) (by omega)).trans (ret_bool ?_)
    simp
  ·refine ret_bool ?_
   rw [drop_nil (by omega), drop_nil (by omega)]
   simp
theorem fuel_lt {n : Nat} (h : n <= 100000000) : n < FUEL + 0 := by unfold FUEL; omega
theorem same_all {a b : List Int} {x : Option Out} (hx : a.length = b.length -> x = some (.ret [.cl (.bool (decide (a.drop 0 = b.drop 0)))] [])) :
  cond (!decide (((a.length : Nat) : Int) = ((b.length : Nat) : Int))) (some (.ret [.cl (.bool false)] [])) x = some (.ret [.cl (.bool (listSame a b))] []) := by
 unfold listSame listSameC
 rw [shut_eq]
 refine c_nsplit (fun h => ret_bool ?_) fun h => hx (by omega)
 rw [eq_comm, decide_eq_false_iff_not]
 intro e
 subst e
 exact h rfl
theorem nR2Same (a b : List Int) (hp : lenOk a = true) : gR2Same a b = some (.ret [.cl (.bool (listSame a b))] []) := by
 unfold gR2Same
 simp only [shut_eq]
 exact same_all fun h => same_go (T := fun f => lpR2Same_4 _ _ f a b) (fun _ _ => rfl) h (lenOk_spec hp) FUEL 0 (by omega) (fuel_lt (lenOk_spec hp))
theorem nSEq32 (a b : List Int) (hp : lenOk a = true) : gSEq32 a b = some (.ret [.cl (.bool (listSame a b))] []) := by
 unfold gSEq32
 simp only [shut_eq]
 exact same_all fun h => same_go (T := fun f => lpSEq32_4 _ _ f a b _) (fun _ _ => rfl) h (lenOk_spec hp) FUEL 0 (by omega) (fuel_lt (lenOk_spec hp))
theorem nOSame (a b : List Int) (hp : lenOk a = true) : gOSame a b = some (.ret [.cl (.bool (listSame a b))] []) := b_pos hp rfl
end Go.Proofs.YtfkpjbbkdkcdcaaDoorA

namespace Go.Proofs.YtfkpjbbkdkcdcaaDoorA
open IntWalk (i64_in u8_in u32_in u64_in i64_quo u8_quo rem_in)

theorem u32Ok_spec {n : Int} (h : u32Ok n = true) : 0 <= n /\ n <= 4294967295 := by
 unfold u32Ok at h; rw [shut_eq] at h; exact of_decide_eq_true h
theorem u32Ok_of {n : Int} (h : 0 <= n /\ n <= 4294967295) : u32Ok n = true := by
 unfold u32Ok; rw [shut_eq]; exact decide_eq_true h
theorem u32sOk_spec {o : List Int} (h : u32sOk o = true) : o.length <= 1000 /\ ∀ x ∈ o, 0 <= x /\ x <= 4294967295 := by
 unfold u32sOk at h
 rw [shut_eq] at h
 simp only [Bool.and_eq_true, decide_eq_true_eq, List.all_eq_true] at h
 exact ⟨h.1, fun x hx => of_decide_eq_true (h.2 x hx)⟩
theorem c_z {x : Int} {a b : Option Out} (h : x = 0) : cond (!decide (x = 0)) a b = b := by rw [decide_eq_true h]; rfl
theorem c_nz {x : Int} {a b : Option Out} (h : x ≠ 0) : cond (!decide (x = 0)) a b = a := by rw [decide_eq_false h]; rfl
theorem or128 : ∀ n : Fin 256, IntKind.u8.wrap ((BitVec.ofInt 8 (n.val : Int) ||| BitVec.ofInt 8 128).toNat) = 128 + (n.val : Int) % 128 := by decide +kernel
theorem put_hi (x : Int) : IntKind.u8.wrap ((BitVec.ofInt 8 (IntKind.u8.wrap x) ||| BitVec.ofInt 8 128).toNat) = 128 + x % 128 := by
 rw [u8_mod x]
 have := or128 ⟨(x % 256).toNat, by omega⟩
 simp only [Int.toNat_of_nonneg (show 0 <= x % 256 by omega)] at this
 rw [this]; omega
theorem put_lo (x : Int) : IntKind.u8.wrap ((BitVec.ofInt 8 (IntKind.u8.wrap x) &&& ~~~ BitVec.ofInt 8 128).toNat) = x % 128 := by
 rw [u8_mod x]
 have := (and7 ⟨(x % 256).toNat, by omega⟩).1
 simp only [Int.toNat_of_nonneg (show 0 <= x % 256 by omega)] at this
 rw [this]; omega
theorem fd28 (n : Int) : Int.fdiv n (2 ^ 28) = n / 268435456 := Int.fdiv_eq_ediv_of_nonneg _ (by decide)
theorem fd21 (n : Int) : Int.fdiv n (2 ^ 21) = n / 2097152 := Int.fdiv_eq_ediv_of_nonneg _ (by decide)
theorem fd14 (n : Int) : Int.fdiv n (2 ^ 14) = n / 16384 := Int.fdiv_eq_ediv_of_nonneg _ (by decide)
theorem fd7 (n : Int) : Int.fdiv n (2 ^ 7) = n / 128 := Int.fdiv_eq_ediv_of_nonneg _ (by decide)
theorem gHi_0 (f : Nat) : gHi f 0 = [] := by cases f <;> rfl
theorem gHi_s (f : Nat) {n : Int} (h : n ≠ 0) : gHi (f + 1) n = gHi f (n / 128) ++ [128 + n % 128] := by
 conv => lhs; unfold gHi
 rw [if_neg h]
theorem gr1 {n : Int} (h : n / 128 = 0) : oidGroupsC n = [n % 128] := by unfold oidGroupsC; rw [h, gHi_0]; rfl
theorem gr2 {n : Int} (h : n / 128 ≠ 0) (h' : n / 16384 = 0) : oidGroupsC n = [128 + n / 128 % 128, n % 128] := by
 unfold oidGroupsC
 rw [gHi_s 4 h, show n / 128 / 128 = 0 by omega, gHi_0]; rfl
theorem gr3 {n : Int} (h : n / 16384 ≠ 0) (h' : n / 2097152 = 0) : oidGroupsC n = [128 + n / 16384 % 128, 128 + n / 128 % 128, n % 128] := by
 unfold oidGroupsC
 rw [gHi_s 4 (by omega), gHi_s 3 (by omega), show n / 128 / 128 / 128 = 0 by omega, gHi_0, show n / 128 / 128 = n / 16384 by omega]; rfl
theorem gr4 {n : Int} (h : n / 2097152 ≠ 0) (h' : n / 268435456 = 0) : oidGroupsC n = [128 + n / 2097152 % 128, 128 + n / 16384 % 128, 128 + n / 128 % 128, n % 128] := by
 unfold oidGroupsC
 rw [gHi_s 4 (by omega), gHi_s 3 (by omega), gHi_s 2 (by omega), show n / 128 / 128 / 128 / 128 = 0 by omega, gHi_0, show n / 128 / 128 / 128 = n / 2097152 by omega, show n / 128 / 128 = n / 16384 by omega]; rfl
theorem gr5 {n : Int} (h : n / 268435456 ≠ 0) (h' : 0 <= n /\ n <= 4294967295) : oidGroupsC n = [128 + n / 268435456 % 128, 128 + n / 2097152 % 128, 128 + n / 16384 % 128, 128 + n / 128 % 128, n % 128] := by
 unfold oidGroupsC
 rw [gHi_s 4 (by omega), gHi_s 3 (by omega), gHi_s 2 (by omega), gHi_s 1 (by omega), show n / 128 / 128 / 128 / 128 / 128 = 0 by omega, gHi_0, show n / 128 / 128 / 128 / 128 = n / 268435456 by omega, show n / 128 / 128 / 128 = n / 2097152 by omega, show n / 128 / 128 = n / 16384 by omega]; rfl
theorem gr_cases {n : Int} (h : 0 <= n /\ n <= 4294967295) : (n / 128 = 0 /\ n / 16384 = 0 /\ n / 2097152 = 0 /\ n / 268435456 = 0) \/ (n / 128 ≠ 0 /\ n / 16384 = 0 /\ n / 2097152 = 0 /\ n / 268435456 = 0) \/
  (n / 128 ≠ 0 /\ n / 16384 ≠ 0 /\ n / 2097152 = 0 /\ n / 268435456 = 0) \/ (n / 128 ≠ 0 /\ n / 16384 ≠ 0 /\ n / 2097152 ≠ 0 /\ n / 268435456 = 0) \/ (n / 128 ≠ 0 /\ n / 16384 ≠ 0 /\ n / 2097152 ≠ 0 /\ n / 268435456 ≠ 0) := by omega
theorem nOPut_0 (n : Int) (hp : u32Ok n = true) : gOPut_0 n = some (.ret [.ref 0 0 (oidGroups n).length true 1] [some ⟨.ints .u8 (oidGroups n), false⟩]) := by
 have hn := u32Ok_spec hp
 unfold gOPut_0 oidGroups
 simp only [shut_eq]
 unfold jnOPut_2
 simp only [fd28, fd21, fd14, fd7, put_hi, put_lo]
 rcases gr_cases hn with ⟨h1, h2, h3, h4⟩ | ⟨h1, h2, h3, h4⟩ | ⟨h1, h2, h3, h4⟩ | ⟨h1, h2, h3, h4⟩ | ⟨h1, h2, h3, h4⟩
 ·rw [c_z h4, c_z h3, c_z h2, c_z h1, gr1 h1]; rfl
 ·rw [c_z h4, c_z h3, c_z h2, c_nz h1, gr2 h1 h2]; rfl
 ·rw [c_z h4, c_z h3, c_nz h2, c_nz h1, gr3 h2 h3]; rfl
 ·rw [c_z h4, c_nz h3, c_nz h2, c_nz h1, gr4 h3 h4]; rfl
 ·rw [c_nz h4, c_nz h3, c_nz h2, c_nz h1, gr5 h4 hn]; rfl
theorem rm1 {l : List Int} {x : Option Out} (h : l.length <= 1000000000) : rmK l.length 1 x = x := rmK_in (by omega) (by omega) rfl
theorem nOPut_1 (m : Nat) (n : Int) (l : List Int) (hp : (u32Ok n && lenOk l) = true) : gOPut_1 m n l = some (.ret [.ref 1 0 (l ++ oidGroups n).length true 1] [none, some ⟨.ints .u8 (l ++ oidGroups n), false⟩]) := by
 simp only [Bool.and_eq_true] at hp
 have hn := u32Ok_spec hp.1
 have hl := lenOk_spec hp.2
 have rm : ∀ (a : List Int) {x : Option Out}, a.length <= 10 -> rmK (l ++ a).length 1 x = x := fun a x h => rm1 (by simp; omega)
 unfold gOPut_1 oidGroups
 simp only [shut_eq]
 unfold jnOPut_2_1
 simp only [fd28, fd21, fd14, fd7, put_hi, put_lo, List.append_assoc, List.cons_append, List.nil_append]
 rcases gr_cases hn with ⟨h1, h2, h3, h4⟩ | ⟨h1, h2, h3, h4⟩ | ⟨h1, h2, h3, h4⟩ | ⟨h1, h2, h3, h4⟩ | ⟨h1, h2, h3, h4⟩
 ·rw [c_z h4, c_z h3, c_z h2, c_z h1, gr1 h1, rm _ (by simp)]
 ·rw [c_z h4, c_z h3, c_z h2, c_nz h1, gr2 h1 h2, rm _ (by simp), rm _ (by simp)]
 ·rw [c_z h4, c_z h3, c_nz h2, rm _ (by simp), c_nz h1, rm _ (by simp), gr3 h2 h3, rm _ (by simp)]
 ·rw [c_z h4, c_nz h3, rm _ (by simp), c_nz h2, rm _ (by simp), c_nz h1, rm _ (by simp), gr4 h3 h4, rm _ (by simp)]
 ·rw [c_nz h4, rm _ (by simp), c_nz h3, rm _ (by simp), c_nz h2, rm _ (by simp), c_nz h1, rm _ (by simp), gr5 h4 hn, rm _ (by simp)]

/-! ### all of its bytes -/
theorem gr_len (n : Int) : (oidGroupsC n).length <= 6 := by
 have h : ∀ (f : Nat) (n : Int), (gHi f n).length <= f := fun f => by
  induction f with
  | zero => intro n; simp [gHi]
  | succ f ih =>
   intro n
   unfold gHi
   split
   ·simp
   ·have := ih (n / 128); simp; omega
 unfold oidGroupsC
 have := h 5 (n / 128)
 simp; omega
theorem groups_eq (n : Int) : oidGroups n = oidGroupsC n := shut_eq _
abbrev bO (y : List Int) : Option Out := some (.ret [.cl (.sli .u8 y)] [])
theorem ob_go (r : List Int) (hr : ∀ x ∈ r, 0 <= x /\ x <= 4294967295) (hl : r.length <= 1000) : ∀ (f i : Nat) (l : List Int), i <= r.length -> r.length < f + i -> l.length <= 6 * (i + 1) ->
  lpOBytes_5 (fun _ y => bO y) f l.length r r.length i l = bO (l ++ (r.drop i).flatMap oidGroupsC)
 | 0, i, l, hi, hf, _ => by omega
 | f + 1, i, l, hi, hf, hll => by
  show lpOBytes_5s (lpOBytes_5 (fun _ y => bO y) f) (fun _ y => bO y) l.length r r.length i l = _
  unfold lpOBytes_5s
  refine c_split (fun h => ?_) fun h => ?_
  ·obtain ⟨c, hc⟩ := get_some (b := r) (i := i) (by omega)
   refine getK_in (by omega) hc (b_pos ?_ ?_)
   ·rw [u32Ok_of (hr c (List.mem_of_getElem? hc)), lenOk_of (by omega)]; rfl
   ·have := gr_len c
    dsimp only
    rw [wrap_succ (by omega), groups_eq, drop_cons hc]
    refine (ob_go r hr hl f (i + 1) (l ++ oidGroupsC c) (by omega) (by omega) (by simp; omega)).trans ?_
    simp
  ·rw [drop_nil (by omega)]; simp
theorem fit_head {o : List Int} (h : oidFitC o = true) : ∃ x y r, o = x :: y :: r /\ r.length <= 18 /\ x <= 2 /\ (x < 2 -> y < 40) /\ y <= 4294967215 := by
 match o, h with
 | x :: y :: r, h =>
  simp only [oidFitC, Bool.and_eq_true, Bool.or_eq_true, decide_eq_true_eq] at h
  exact ⟨x, y, r, rfl, h.1, by omega, by omega, by omega⟩
theorem nOBytes (o : List Int) (hp : u32sOk o = true) : gOBytes o = some (.ret [.cl (.sli .u8 (oidBytes o))] []) := by
 obtain ⟨hl, hr⟩ := u32sOk_spec hp
 unfold gOBytes oidBytes oidFit oidBytesC
 simp only [shut_eq]
 cases hf : oidFitC o with
 | false => rfl
 | true =>
  obtain ⟨x, y, r, rfl, hr18, hx, hxy, hy⟩ := fit_head hf
  have rx := hr x (by simp)
  have ry := hr y (by simp)
  rw [if_pos rfl]
  refine b_neg rfl (c_pos (by simp only [List.length_cons]; omega) ?_)
  simp only [List.getElem?_cons_zero, List.getElem?_cons_succ, Option.bind_some]
  rw [show IntKind.u32.wrap (40 * x) = 40 * x from u32_in _ (by omega), show IntKind.u32.wrap (40 * x + y) = 40 * x + y from u32_in _ (by omega)]
  refine c_pos (by simp only [List.length_cons]; omega) (b_pos (u32Ok_of (by omega)) (c_pos (by simp only [List.length_cons]; omega) ?_))
  rw [groups_eq]
  have := gr_len (40 * x + y)
  exact ob_go r (fun z hz => hr z (by simp [hz])) (by omega) FUEL 0 _ (by omega) (by unfold FUEL; omega) (by omega)
end Go.Proofs.YtfkpjbbkdkcdcaaDoorA

namespace Go.Proofs.YtfkpjbbkdkcdcaaDoorA
open IntWalk (i64_in u8_in u32_in u64_in i64_quo u8_quo rem_in)

/-! ### pieces between points -/
/-! ### digits as numbers -/
end Go.Proofs.YtfkpjbbkdkcdcaaDoorA

namespace Go.Proofs.YtfkpjbbkdkcdcaaDoorA

abbrev inU (n : Int) : Prop := 0 <= n /\ n <= 4294967295
/-! ### bytes -/
theorem gr_byte {n : Int} (h : inU n) : ∀ x ∈ oidGroupsC n, 0 <= x /\ x <= 255 := by
 have : ∀ (f : Nat) (n : Int), ∀ x ∈ gHi f n, 0 <= x /\ x <= 255 := fun f => by
  induction f with
  | zero => intro n x hx; simp [gHi] at hx
  | succ f ih =>
   intro n x hx
   unfold gHi at hx
   split at hx
   ·simp at hx
   ·rcases List.mem_append.1 hx with hx | hx
    ·exact ih _ x hx
    ·simp at hx; omega
 intro x hx
 unfold oidGroupsC at hx
 rcases List.mem_append.1 hx with hx | hx
 ·exact this _ _ x hx
 ·simp at hx; omega
/-- an identifier's numbers as they stand in its bytes -/
def oflat : List Int -> List Int
 | x :: y :: r => (40 * x + y) :: r
 | _ => []
theorem bytes_oflat {o : List Int} (h : oidFitC o = true) : oidBytesC o = (oflat o).flatMap oidGroupsC := by
 obtain ⟨x, y, r, rfl, _⟩ := fit_head h
 unfold oidBytesC
 rw [if_pos h]
 simp [oflat]
theorem oflat_rng {o : List Int} (h : oidFitC o = true) (hr : ∀ n ∈ o, inU n) : ∀ n ∈ oflat o, inU n := by
 obtain ⟨x, y, r, rfl, h1, h2, h3, h4⟩ := fit_head h
 intro n hn
 have := hr x (by simp)
 have := hr y (by simp)
 rcases List.mem_cons.1 hn with rfl | hn
 ·exact ⟨by omega, by omega⟩
 ·exact hr n (by simp [hn])
theorem oflat_len {o : List Int} (h : oidFitC o = true) : (oflat o).length + 1 = o.length := by
 obtain ⟨x, y, r, rfl, _⟩ := fit_head h; rfl
/-! ### texts -/
end Go.Proofs.YtfkpjbbkdkcdcaaDoorA
