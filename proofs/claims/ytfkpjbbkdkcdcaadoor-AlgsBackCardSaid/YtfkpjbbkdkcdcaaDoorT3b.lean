/-
 What the layers below come to (their lemmas, as far as this seat needs them). Conditions: each function's own.
-/
import Derived.Test.YtfkpjbbkdkcdcaaDoorT2a
import Derived.Test.YtfkpjbbkdkcdcaaDoorT2b
import Derived.Test.YtfkpjbbkdkcdcaaDoorT2c
import Derived.Test.YtfkpjbbkdkcdcaaDoorT2d
import Derived.Test.YtfkpjbbkdkcdcaaDoorT3a
import Derived.IntWalk
set_option linter.unusedVariables false
set_option linter.unusedSimpArgs false
set_option maxRecDepth 100000
namespace Go.Proofs.YtfkpjbbkdkcdcaaDoorA
open IntWalk (i64_in u8_in u32_in u64_in i64_quo u8_quo rem_in)

theorem leftOk_spec {n : Int} (h : leftOk n = true) : 0 <= n /\ n <= 30000 := by
 unfold leftOk at h; rw [shut_eq] at h; exact of_decide_eq_true h
theorem leftOk_of {n : Int} (h : 0 <= n /\ n <= 30000) : leftOk n = true := by
 unfold leftOk; rw [shut_eq]; exact decide_eq_true h
theorem kids_le {f : List CV -> Int -> Int} : ∀ {l : List CV}, (∀ c ∈ l, ∀ x, f (cell1 c) x <= x - 1) -> ∀ x, kidsOf f l x <= x
 | [], _, x => Int.le_refl _
 | c :: r, h, x => by
  simp only [kidsOf]
  split
  ·exact Int.le_refl _
  ·have h1 := h c (List.mem_cons_self ..) x
   have h2 := kids_le (l := r) (fun c' hc => h c' (List.mem_cons_of_mem _ hc)) (f (cell1 c) x)
   omega
theorem small_le : ∀ {n : Nat} {x : List CV}, isTf n x = true -> ∀ z, smallF n x z <= z - 1
 | n, x, hn, z => by
  obtain ⟨n', t, b, l, rfl, rfl, _, hl⟩ := tf_inv hn
  show kidsOf (smallF n') l (z - 1 - min (b.length : Int) 1048576) <= z - 1
  have := kids_le (f := smallF n') (l := l) (fun c hc x => by
   obtain ⟨y, rfl, hy⟩ := hl c hc
   exact small_le hy x) (z - 1 - min (b.length : Int) 1048576)
  omega
theorem kids_bulk {f : List CV -> Int -> Int} {g : CV -> Nat} : ∀ {l : List CV}, (∀ c ∈ l, ∀ x, x <= 30000 -> 0 <= f (cell1 c) x -> (g c : Int) = x - f (cell1 c) x) -> (∀ c ∈ l, ∀ x, f (cell1 c) x <= x - 1) -> ∀ x, x <= 30000 -> 0 <= kidsOf f l x -> 0 <= x /\ ((l.map g).sum : Nat) = x - kidsOf f l x
 | [], _, _, x, _, h => ⟨h, by simp [kidsOf]⟩
 | c :: r, h, hle, x, hx, h0 => by
  simp only [kidsOf] at h0 ⊢
  split at h0
  ·omega
  ·rename_i hx0
   rw [if_neg hx0]
   have h1 := hle c (List.mem_cons_self ..) x
   have ih := kids_bulk (l := r) (fun c' hc => h c' (List.mem_cons_of_mem _ hc)) (fun c' hc => hle c' (List.mem_cons_of_mem _ hc)) (f (cell1 c) x) (by omega) h0
   have h2 := h c (List.mem_cons_self ..) x hx ih.1
   refine ⟨by omega, ?_⟩
   rw [List.map_cons, List.sum_cons]
   omega
theorem small_bulk : ∀ {n : Nat} {x : List CV}, isTf n x = true -> ∀ z, z <= 30000 -> 0 <= smallF n x z -> (bulkF n x : Int) = z - smallF n x z
 | n, x, hn, z, hz, h0 => by
  obtain ⟨n', t, b, l, rfl, rfl, _, hl⟩ := tf_inv hn
  have h0 : 0 <= kidsOf (smallF n') l (z - 1 - min (b.length : Int) 1048576) := h0
  have hk := kids_bulk (f := smallF n') (g := fun c => bulkF n' (cell1 c)) (l := l) (fun c hc x hx h => by
   obtain ⟨y, rfl, hy⟩ := hl c hc
   exact small_bulk hy x hx h) (fun c hc x => by
   obtain ⟨y, rfl, hy⟩ := hl c hc
   exact small_le hy x) _ (by omega) h0
  show ((1 + b.length + (l.map fun c => bulkF n' (cell1 c)).sum : Nat) : Int) = z - kidsOf (smallF n') l (z - 1 - min (b.length : Int) 1048576)
  omega
theorem bulk_pos {n : Nat} {x : List CV} (hn : isTf n x = true) : 1 <= bulkF n x := by
 obtain ⟨n', t, b, l, rfl, rfl, _, hl⟩ := tf_inv hn
 show 1 <= 1 + b.length + _
 omega
theorem sum_mem {g : CV -> Nat} : ∀ {l : List CV} {c : CV}, c ∈ l -> g c <= (l.map g).sum
 | a :: r, c, h => by
  rw [List.map_cons, List.sum_cons]
  rcases List.mem_cons.1 h with rfl | h
  ·omega
  ·have := sum_mem (g := g) h; omega
theorem sum_len {g : CV -> Nat} : ∀ {l : List CV}, (∀ c ∈ l, 1 <= g c) -> l.length <= (l.map g).sum
 | [], _ => by simp
 | a :: r, h => by
  rw [List.map_cons, List.sum_cons, List.length_cons]
  have := sum_len (g := g) (l := r) fun c hc => h c (List.mem_cons_of_mem _ hc)
  have := h a (List.mem_cons_self ..)
  omega
/-- a small value's parts -/
theorem tf_parts {n : Nat} {t : Int} {b : List Int} {l : List CV} (h : isTf (n + 1) [.int .i64 t, .sli .u8 b, .slg 3 l] = true) {B : Nat} (hb : bulkF (n + 1) [.int .i64 t, .sli .u8 b, .slg 3 l] <= B) :
  b.length + 1 <= B /\ l.length + 1 <= B /\ (∀ z ∈ b, 0 <= z /\ z <= 255) /\ (∀ c ∈ l, ∃ y, c = .agg y /\ isTf n y = true /\ bulkF n y + 1 <= B) /\ 1 + b.length + (l.map fun c => bulkF n (cell1 c)).sum <= B := by
 obtain ⟨n', t', b', l', hn, he, h1, h2⟩ := tf_inv h
 obtain rfl : n = n' := by omega
 simp only [List.cons.injEq, CV.int.injEq, CV.sli.injEq, CV.slg.injEq, true_and, and_true] at he
 obtain ⟨rfl, rfl, rfl⟩ := he
 have hb : 1 + b.length + (l.map fun c => bulkF n (cell1 c)).sum <= B := hb
 have hs := sum_len (g := fun c => bulkF n (cell1 c)) (l := l) fun c hc => by
  obtain ⟨y, rfl, hy⟩ := h2 c hc
  exact bulk_pos hy
 refine ⟨by omega, by omega, h1, fun c hc => ?_, hb⟩
 obtain ⟨y, rfl, hy⟩ := h2 c hc
 have hm : bulkF n y <= (l.map fun c => bulkF n (cell1 c)).sum := sum_mem (g := fun c => bulkF n (cell1 c)) hc
 exact ⟨y, rfl, hy, by omega⟩
theorem nd_of_tf : ∀ {n : Nat} {x : List CV}, isTf n x = true -> bulkF n x <= 30000 -> isNf n x = true
 | n, x, hn, hb => by
  obtain ⟨n', t, b, l, rfl, rfl, _, _⟩ := tf_inv hn
  obtain ⟨h1, h2, _, h3, _⟩ := tf_parts hn hb
  refine nd_mk (by omega) (by omega) fun c hc => ?_
  obtain ⟨y, rfl, hy, hyb⟩ := h3 c hc
  exact ⟨y, rfl, nd_of_tf hy (by omega)⟩

theorem small_lp (rk : Nat) (ta : Int) (ba : List Int) (ka : List CV) (hall : ∀ c ∈ ka, ∃ y, c = .agg y /\ isTf rk y = true) : ∀ (f i : Nat) (z : Int), z <= 29999 - i -> 30005 < f + i -> i <= ka.length -> i <= 30000 ->
  lpRSmall_3 rk (fun y4 => (fun _ _ _ _ _ _ _ _ _ _ => some (.ret [.cl (.int .i64 y4)] []))) (fun y15 => (fun _ _ _ _ _ _ _ _ => some (.ret [.cl (.int .i64 y15)] []))) f z i ta ba ka = some (.ret [.cl (.int .i64 (kidsOf (smallF rk) (ka.drop i) z))] [])
 | 0, i, z, hz, hf, hi, hi2 => by omega
 | f + 1, i, z, hz, hf, hi, hi2 => by
  show lpRSmall_3s rk (lpRSmall_3 rk (fun y4 => (fun _ _ _ _ _ _ _ _ _ _ => some (.ret [.cl (.int .i64 y4)] []))) (fun y15 => (fun _ _ _ _ _ _ _ _ => some (.ret [.cl (.int .i64 y15)] []))) f) (fun y4 => (fun _ _ _ _ _ _ _ _ _ _ => some (.ret [.cl (.int .i64 y4)] []))) (fun y15 => (fun _ _ _ _ _ _ _ _ => some (.ret [.cl (.int .i64 y15)] []))) z i ta ba ka = _
  unfold lpRSmall_3s
  refine c_split (fun h => ?_) fun h => ?_
  ·obtain ⟨c, hc⟩ := get_some (b := ka) (i := i) (by omega)
   obtain ⟨y, rfl, hy⟩ := hall c (List.mem_of_getElem? hc)
   have ed : ka.drop i = .agg y :: ka.drop (i + 1) := by
    obtain ⟨hlt, e⟩ := List.getElem?_eq_some_iff.1 hc
    rw [List.drop_eq_getElem_cons hlt, e]
   rw [ed]
   simp only [kidsOf]
   refine c_split (fun h0 => c_pos (by omega) (c_pos h ?_)) fun h0 => ?_
   ·rw [if_neg (by omega), show (i : Int).toNat = i from rfl, hc, Option.bind_some]
    obtain ⟨m, t, b, l, hm, hye, _⟩ := tf_inv hy
    simp only [cell1, hye, List.headD_cons, List.tail_cons]
    refine b_pos rfl (b_pos ?_ ?_)
    ·simp only [Bool.and_eq_true]
     exact ⟨isTr_of (hye ▸ hy), leftOk_of (by omega)⟩
    ·have e : ndSmall [.int .i64 t, .sli .u8 b, .slg 3 l] z = smallF rk y z := by rw [<- hye]; exact ndSmall_eq hy z
     simp only [cvInt, cvSli, cvSlg]
     rw [e, <- hye, show IntKind.i64.wrap ((i : Int) + 1) = ((i + 1 : Nat) : Int) from (i64_in _ (by omega)).trans (by omega)]
     have := small_le hy z
     exact small_lp rk ta ba ka hall f (i + 1) _ (by omega) (by omega) (by omega) (by omega)
   ·rw [if_pos (by omega)]
  ·rw [List.drop_eq_nil_of_le (by omega)]
   rfl
theorem nRSmall (rk : Nat) (ta : Int) (ba : List Int) (ka : List CV) (left : Int) (hp : (isTr (rk + 1) [.int .i64 ta, .sli .u8 ba, .slg 3 ka] && leftOk left) = true) : gRSmall rk ta ba ka left = some (.ret [.cl (.int .i64 (ndSmall [.int .i64 ta, .sli .u8 ba, .slg 3 ka] left))] []) := by
 simp only [Bool.and_eq_true] at hp
 have ht := isTr_spec hp.1
 have hl := leftOk_spec hp.2
 rw [ndSmall_eq ht]
 obtain ⟨m, t, b, l, hm, he, _, hall⟩ := tf_inv ht
 obtain rfl : rk = m := by omega
 simp only [List.cons.injEq, CV.int.injEq, CV.sli.injEq, CV.slg.injEq, true_and, and_true] at he
 obtain ⟨rfl, rfl, rfl⟩ := he
 unfold gRSmall
 simp only [shut_eq]
 have e2 : (cond (decide ((1048576 : Int) < ((ba.length : Nat) : Int))) 1048576 ((ba.length : Nat) : Int)) = min (ba.length : Int) 1048576 := by
  by_cases h : (1048576 : Int) < ((ba.length : Nat) : Int)
  ·rw [decide_eq_true h]; show (1048576 : Int) = _; omega
  ·rw [decide_eq_false h]; show ((ba.length : Nat) : Int) = _; omega
 rw [e2, show IntKind.i64.wrap (left - 1) = left - 1 from i64_in _ (by omega), show IntKind.i64.wrap (left - 1 - min (ba.length : Int) 1048576) = left - 1 - min (ba.length : Int) 1048576 from i64_in _ (by omega)]
 exact small_lp rk ta ba ka hall FUEL 0 _ (by omega) (by unfold FUEL; omega) (by omega) (by omega)

/-! ### sizes -/
theorem head_len (t n : Int) : ((derHeadC t n).length : Int) = 1 + derLenSizeC n := by
 unfold derHeadC derLenSizeC
 rw [List.length_cons]
 repeat' split
 all_goals rfl
theorem lenSize_rng (n : Int) : 1 <= derLenSizeC n /\ derLenSizeC n <= 4 := by
 unfold derLenSizeC
 repeat' split
 all_goals omega
theorem flat_bulk {g : CV -> List Int} {h : CV -> Nat} : ∀ {l : List CV}, (∀ c ∈ l, (g c).length <= 5 * h c) -> ((l.map g).flatten).length <= 5 * (l.map h).sum
 | [], _ => by simp
 | a :: r, hh => by
  have := hh a (List.mem_cons_self ..)
  have := flat_bulk (g := g) (h := h) (l := r) fun c hc => hh c (List.mem_cons_of_mem _ hc)
  simp only [List.map_cons, List.flatten_cons, List.length_append, List.sum_cons]
  omega
theorem bytes_len : ∀ {n : Nat} {x : List CV}, isTf n x = true -> (bytesF n x).1.length <= 5 * bulkF n x
 | n, x, hn => by
  obtain ⟨n', t, b, l, rfl, rfl, _, hl⟩ := tf_inv hn
  have hb : bulkF (n' + 1) [.int .i64 t, .sli .u8 b, .slg 3 l] = 1 + b.length + (l.map fun c => bulkF n' (cell1 c)).sum := rfl
  rw [hb]
  simp only [bytesF]
  split
  ·have hf := flat_bulk (g := fun c => (bytesF n' (cell1 c)).1) (h := fun c => bulkF n' (cell1 c)) (l := l) fun c hc => by
    obtain ⟨y, rfl, hy⟩ := hl c hc
    exact bytes_len hy
   have e : ((l.map fun c => bytesF n' (cell1 c)).map (·.1)) = l.map fun c => (bytesF n' (cell1 c)).1 := by rw [List.map_map]; rfl
   simp only [e]
   have hh := head_len t (((l.map fun c => (bytesF n' (cell1 c)).1).flatten).length : Nat)
   have hr := lenSize_rng (((l.map fun c => (bytesF n' (cell1 c)).1).flatten).length : Nat)
   rw [List.length_append]
   omega
  ·have hh := head_len t (b.length : Nat)
   have hr := lenSize_rng (b.length : Nat)
   simp only [List.length_append]
   omega
def sumL (f : CV -> List Int) : List CV -> Int
 | [] => 0
 | c :: r => (f c).length + sumL f r
theorem sumL_flat (f : CV -> List Int) : ∀ l : List CV, sumL f l = (((l.map f).flatten).length : Nat)
 | [] => rfl
 | c :: r => by simp only [sumL, List.map_cons, List.flatten_cons, List.length_append, sumL_flat f r]; omega
theorem sumL_drop (f : CV -> List Int) (l : List CV) (i : Nat) : 0 <= sumL f (l.drop i) /\ sumL f (l.drop i) <= sumL f l := by
 constructor
 ·rw [sumL_flat]; omega
 ·rw [sumL_flat, sumL_flat, List.map_drop]
  have h : ∀ (ls : List (List Int)) (i : Nat), ((ls.drop i).flatten).length <= (ls.flatten).length := fun ls => by
   induction ls with
   | nil => simp
   | cons a r ih =>
    intro i
    cases i with
    | zero => exact Nat.le_refl _
    | succ i =>
     have := ih i
     simp only [List.drop_succ_cons, List.flatten_cons, List.length_append]
     omega
  have := h (l.map f) i
  omega
theorem size_lp2 (rk d : Nat) (deep : Int) (hd : 1 <= deep /\ deep <= 1000) (hdd : deep.toNat = d + 1) (ka : List CV) (hlen : ka.length <= 30000) (hall : ∀ c ∈ ka, ∃ y, c = .agg y /\ isTf rk y = true /\ bulkF rk y <= 30000) (hsum : sumL (fun c => (bytesF rk (cell1 c)).1) ka <= 150000) (k1 : Int -> Int -> Int -> List CV -> Int -> Int -> List CV -> Nat -> Int -> List Int -> List CV -> Int -> List Int -> List CV -> Int -> Int -> Int -> Int -> Int -> Int -> Int -> Bool -> Int -> Bool -> Int -> List Int -> List CV -> Option Out) (F : Int -> Option Out) : ∀ (f i : Nat) (s : Int), i <= ka.length -> ka.length < f + i -> 0 <= s -> s + sumL (fun c => (bytesF rk (cell1 c)).1) (ka.drop i) <= 150000 ->
  lpDSize_8 rk (fun _ _ _ _ _ _ _ _ _ _ _ _ _ _ _ _ _ _ _ _ _ _ _ _ _ => some (.ret [.cl (.int .i64 (-1))] [])) k1 (fun _ y56 _ _ _ => F y56) f deep s ka ((ka.length : Nat) : Int) i = if (ka.drop i).all (fun c => okF rk d (cell1 c)) = true then F (s + sumL (fun c => (bytesF rk (cell1 c)).1) (ka.drop i)) else some (.ret [.cl (.int .i64 (-1))] [])
 | 0, i, s, hi, hf, _, _ => by omega
 | f + 1, i, s, hi, hf, h0, hs => by
  show lpDSize_8s rk (lpDSize_8 rk (fun _ _ _ _ _ _ _ _ _ _ _ _ _ _ _ _ _ _ _ _ _ _ _ _ _ => some (.ret [.cl (.int .i64 (-1))] [])) k1 (fun _ y56 _ _ _ => F y56) f) (fun _ _ _ _ _ _ _ _ _ _ _ _ _ _ _ _ _ _ _ _ _ _ _ _ _ => some (.ret [.cl (.int .i64 (-1))] [])) k1 (fun _ y56 _ _ _ => F y56) deep s ka ((ka.length : Nat) : Int) i = _
  unfold lpDSize_8s
  obtain ⟨R, hR⟩ : ∃ R : Option Out, R = (if (ka.drop i).all (fun c => okF rk d (cell1 c)) = true then F (s + sumL (fun c => (bytesF rk (cell1 c)).1) (ka.drop i)) else some (.ret [.cl (.int .i64 (-1))] [])) := ⟨_, rfl⟩
  rw [<- hR]
  refine c_split (fun h => ?_) fun h => ?_
  ·obtain ⟨c, hc⟩ := get_some (b := ka) (i := i) (by omega)
   obtain ⟨y, rfl, hy, hyb⟩ := hall c (List.mem_of_getElem? hc)
   have ed : ka.drop i = .agg y :: ka.drop (i + 1) := by
    obtain ⟨hlt, e⟩ := List.getElem?_eq_some_iff.1 hc
    rw [List.drop_eq_getElem_cons hlt, e]
   refine c_pos (by omega) (c_pos h ?_)
   rw [show (i : Int).toNat = i from rfl, hc, Option.bind_some]
   obtain ⟨m, t, b, l, hm, hye, _⟩ := tf_inv hy
   simp only [cell1, hye, List.headD_cons, List.tail_cons]
   refine b_pos rfl ?_
   simp only [show IntKind.i64.wrap (deep - 1) = deep - 1 from i64_in _ (by omega), cvInt, cvSli, cvSlg]
   refine b_pos ?_ ?_
   ·simp only [Bool.and_eq_true]
    exact ⟨isSr_of (hye ▸ hy) (hye ▸ hyb), deepOk_of (by omega)⟩
   ·have e : ndSize [.int .i64 t, .sli .u8 b, .slg 3 l] (deep - 1) = if okF rk d y = true then ((bytesF rk y).1.length : Int) else -1 := by
     rw [<- hye, ndSize_eq hy, show (deep - 1).toNat = d by omega]
    have es : sumL (fun c => (bytesF rk (cell1 c)).1) (ka.drop i) = ((bytesF rk y).1.length : Int) + sumL (fun c => (bytesF rk (cell1 c)).1) (ka.drop (i + 1)) := by rw [ed]; rfl
    have hpos := (sumL_drop (fun c => (bytesF rk (cell1 c)).1) ka (i + 1)).1
    rw [es] at hs
    rw [e]
    have ea : (ka.drop i).all (fun c => okF rk d (cell1 c)) = (okF rk d y && (ka.drop (i + 1)).all (fun c => okF rk d (cell1 c))) := by rw [ed, List.all_cons]; rfl
    rw [ea, es] at hR
    by_cases hok : okF rk d y = true
    ·rw [hok, Bool.true_and] at hR
     rw [if_pos hok]
     refine c_neg (by omega) ?_
     rw [show IntKind.i64.wrap (s + ((bytesF rk y).1.length : Int)) = s + ((bytesF rk y).1.length : Int) from i64_in _ (by omega)]
     refine c_neg (by omega) ?_
     rw [show IntKind.i64.wrap ((i : Int) + 1) = ((i + 1 : Nat) : Int) from (i64_in _ (by omega)).trans (by omega)]
     refine (size_lp2 rk d deep hd hdd ka hlen hall hsum k1 F f (i + 1) _ (by omega) (by omega) (by omega) (by omega)).trans ?_
     rw [hR, Int.add_assoc]
    ·rw [if_neg hok]
     refine c_pos (by omega) ?_
     rw [hR, if_neg (by simp [hok])]
  ·rw [List.drop_eq_nil_of_le (by omega)] at hR
   rw [hR]
   show F s = if ([] : List CV).all (fun c => okF rk d (cell1 c)) = true then F (s + 0) else _
   rw [if_pos (by rfl), Int.add_zero]
theorem nDSize (rk : Nat) (ta : Int) (ba : List Int) (ka : List CV) (deep : Int) (hp : (isSr (rk + 1) [.int .i64 ta, .sli .u8 ba, .slg 3 ka] && deepOk deep) = true) : gDSize rk ta ba ka deep = some (.ret [.cl (.int .i64 (ndSize [.int .i64 ta, .sli .u8 ba, .slg 3 ka] deep))] []) := by
 simp only [Bool.and_eq_true] at hp
 obtain ⟨ht, hb⟩ := isSr_spec hp.1
 have hd := deepOk_spec hp.2
 obtain ⟨h1, h2, h3, h4, h5⟩ := tf_parts ht hb
 rw [ndSize_eq ht]
 unfold gDSize derKnown derBoxed derFits derLenSize
 simp only [shut_eq]
 refine c_split (fun h => ?_) fun h => ?_
 ·subst h; rfl
 obtain ⟨d, hdd⟩ : ∃ d, deep.toNat = d + 1 := ⟨deep.toNat - 1, by omega⟩
 rw [hdd]
 have hokF : okF (rk + 1) (d + 1) [.int .i64 ta, .sli .u8 ba, .slg 3 ka] = (derKnownC ta && (if derBoxedC ta = true then decide (ba = []) && ka.all fun c => okF rk d (cell1 c) else decide (ka = []) && derFitsC ta ba)) := rfl
 rw [hokF]
 refine b_split (fun hk => ?_) fun hk => ?_
 ·rw [if_neg (by simp only [Bool.not_eq_true'] at hk; simp [hk])]
 have hk : derKnownC ta = true := by simpa using hk
 rw [hk, Bool.true_and]
 have hflen : (((ka.map fun c => (bytesF rk (cell1 c)).1).flatten).length : Int) <= 150000 := by
  have := flat_bulk (g := fun c => (bytesF rk (cell1 c)).1) (h := fun c => bulkF rk (cell1 c)) (l := ka) fun c hc => by
   obtain ⟨y, rfl, hy, _⟩ := h4 c hc
   exact bytes_len hy
  omega
 refine b_split (fun hx => ?_) fun hx => ?_
 ·rw [if_pos hx]
  refine c_split (fun hba => ?_) fun hba => ?_
  ·rw [if_neg (by intro e; simp only [Bool.and_eq_true, decide_eq_true_eq] at e; rw [e.1] at hba; simp at hba)]
  ·obtain rfl : ba = [] := List.eq_nil_of_length_eq_zero (by omega)
   refine (size_lp2 rk d deep (by omega) hdd ka (by omega) (fun c hc => by obtain ⟨y, e, hy, hyb⟩ := h4 c hc; exact ⟨y, e, hy, by omega⟩) (by rw [sumL_flat]; exact hflen) _ (fun n => some (.ret [.cl (.int .i64 (IntKind.i64.wrap (IntKind.i64.wrap ((1 : Int) + derLenSizeC n) + n)))] [])) FUEL 0 0 (by omega) (by unfold FUEL; omega) (by omega) (by rw [List.drop_zero, sumL_flat]; omega)).trans ?_
   rw [List.drop_zero, decide_eq_true (show ([] : List Int) = [] from rfl), Bool.true_and, sumL_flat, Int.zero_add]
   by_cases ha : (ka.all fun c => okF rk d (cell1 c)) = true
   ·rw [if_pos ha, if_pos ha]
    have hr := lenSize_rng (((ka.map fun c => (bytesF rk (cell1 c)).1).flatten).length : Nat)
    rw [show IntKind.i64.wrap ((1 : Int) + derLenSizeC (((ka.map fun c => (bytesF rk (cell1 c)).1).flatten).length : Nat)) = 1 + derLenSizeC (((ka.map fun c => (bytesF rk (cell1 c)).1).flatten).length : Nat) from i64_in _ (by omega)]
    rw [i64_in _ (show -9223372036854775808 <= (1 : Int) + derLenSizeC (((ka.map fun c => (bytesF rk (cell1 c)).1).flatten).length : Nat) + (((ka.map fun c => (bytesF rk (cell1 c)).1).flatten).length : Nat) /\ _ <= 9223372036854775807 by omega)]
    refine ret_int ?_
    simp only [bytesF]
    rw [if_pos hx]
    have e : ((ka.map fun c => bytesF rk (cell1 c)).map (·.1)) = ka.map fun c => (bytesF rk (cell1 c)).1 := by rw [List.map_map]; rfl
    simp only [e]
    rw [List.length_append]
    have hh := head_len ta (((ka.map fun c => (bytesF rk (cell1 c)).1).flatten).length : Nat)
    omega
   ·rw [if_neg ha, if_neg ha]
 ·rw [if_neg (show ¬derBoxedC ta = true by simp [hx])]
  refine c_split (fun hka => ?_) fun hka => ?_
  ·rw [if_neg (by intro e; simp only [Bool.and_eq_true, decide_eq_true_eq] at e; rw [e.1] at hka; simp at hka)]
  ·obtain rfl : ka = [] := List.eq_nil_of_length_eq_zero (by omega)
   refine c_neg (by omega) (b_pos (bytesOk_of (by omega) h3) ?_)
   rw [decide_eq_true (show ([] : List CV) = [] from rfl), Bool.true_and]
   refine b_split (fun hf => ?_) fun hf => ?_
   ·rw [if_neg (by simp only [Bool.not_eq_true'] at hf; simp [hf])]
   ·rw [if_pos (by simpa using hf)]
    have hr := lenSize_rng (ba.length : Nat)
    rw [show IntKind.i64.wrap ((1 : Int) + derLenSizeC (ba.length : Nat)) = 1 + derLenSizeC (ba.length : Nat) from i64_in _ (by omega)]
    rw [i64_in _ (show -9223372036854775808 <= (1 : Int) + derLenSizeC (ba.length : Nat) + (ba.length : Nat) /\ _ <= 9223372036854775807 by omega)]
    refine ret_int ?_
    simp only [bytesF]
    rw [if_neg (show ¬derBoxedC ta = true by simp [hx])]
    have hh := head_len ta (ba.length : Nat)
    simp only [List.length_append]
    omega
end Go.Proofs.YtfkpjbbkdkcdcaaDoorA

namespace Go.Proofs.YtfkpjbbkdkcdcaaDoorA
open IntWalk (i64_in u8_in u32_in u64_in i64_quo u8_quo rem_in)

theorem known_rng {t : Int} (h : derKnownC t = true) : 0 <= t /\ t <= 255 := by
 unfold derKnownC derBoxedC at h
 simp only [Bool.or_eq_true, decide_eq_true_eq] at h
 omega
theorem head_byte {t n : Int} (ht : 0 <= t /\ t <= 255) (hn : 0 <= n /\ n < 16777216) : ∀ z ∈ derHeadC t n, 0 <= z /\ z <= 255 := by
 intro z hz
 unfold derHeadC at hz
 rcases List.mem_cons.1 hz with rfl | hz
 ·exact ht
 ·split at hz
  ·simp only [List.mem_cons, List.mem_nil_iff, or_false] at hz; omega
  ·split at hz
   ·simp only [List.mem_cons, List.mem_nil_iff, or_false] at hz; omega
   ·split at hz
    ·simp only [List.mem_cons, List.mem_nil_iff, or_false] at hz; omega
    ·simp only [List.mem_cons, List.mem_nil_iff, or_false] at hz; omega
theorem ok_parts {n d : Nat} {t : Int} {b : List Int} {l : List CV} (h : okF (n + 1) d [.int .i64 t, .sli .u8 b, .slg 3 l] = true) : ∃ d', d = d' + 1 /\ derKnownC t = true /\ ((derBoxedC t = true /\ b = [] /\ ∀ c ∈ l, okF n d' (cell1 c) = true) \/ (derBoxedC t = false /\ l = [] /\ derFitsC t b = true)) := by
 cases d with
 | zero => exact absurd h Bool.false_ne_true
 | succ d =>
  have h : (derKnownC t && (if derBoxedC t = true then decide (b = []) && l.all fun c => okF n d (cell1 c) else decide (l = []) && derFitsC t b)) = true := h
  rw [Bool.and_eq_true] at h
  refine ⟨d, rfl, h.1, ?_⟩
  obtain ⟨_, h⟩ := h
  split at h
  ·rename_i hx
   simp only [Bool.and_eq_true, decide_eq_true_eq, List.all_eq_true] at h
   exact .inl ⟨hx, h⟩
  ·rename_i hx
   simp only [Bool.and_eq_true, decide_eq_true_eq] at h
   exact .inr ⟨by simpa using hx, h⟩
theorem bytes_box {n : Nat} {t : Int} {b : List Int} {l : List CV} (hx : derBoxedC t = true) : bytesF (n + 1) [.int .i64 t, .sli .u8 b, .slg 3 l] = (derHeadC t ((l.map fun c => (bytesF n (cell1 c)).1).flatten.length : Nat) ++ (l.map fun c => (bytesF n (cell1 c)).1).flatten, (l.all fun c => (bytesF n (cell1 c)).2) && (!(decide (t = 49)) || rowsSortedC (l.map fun c => (bytesF n (cell1 c)).1))) := by
 simp only [bytesF]
 rw [if_pos hx]
 have e : ((l.map fun c => bytesF n (cell1 c)).map (·.1)) = l.map fun c => (bytesF n (cell1 c)).1 := by rw [List.map_map]; rfl
 have e2 : ((l.map fun c => bytesF n (cell1 c)).all (·.2)) = l.all fun c => (bytesF n (cell1 c)).2 := by rw [List.all_map]; rfl
 simp only [e, e2]
theorem bytes_leaf {n : Nat} {t : Int} {b : List Int} {l : List CV} (hx : derBoxedC t = false) : bytesF (n + 1) [.int .i64 t, .sli .u8 b, .slg 3 l] = (derHeadC t (b.length : Nat) ++ b, true) := by
 simp only [bytesF]
 rw [if_neg (show ¬derBoxedC t = true by simp [hx])]
theorem flat5 {n : Nat} {l : List CV} {B : Nat} (hl : ∀ c ∈ l, ∃ y, c = .agg y /\ isTf n y = true) (hb : (l.map fun c => bulkF n (cell1 c)).sum <= B) : ((l.map fun c => (bytesF n (cell1 c)).1).flatten).length <= 5 * B := by
 have := flat_bulk (g := fun c => (bytesF n (cell1 c)).1) (h := fun c => bulkF n (cell1 c)) (l := l) fun c hc => by
  obtain ⟨y, rfl, hy⟩ := hl c hc
  exact bytes_len hy
 omega
theorem bytes_byte : ∀ {n d : Nat} {x : List CV}, isTf n x = true -> bulkF n x <= 30000 -> okF n d x = true -> ∀ z ∈ (bytesF n x).1, 0 <= z /\ z <= 255
 | n, d, x, hn, hb, hok => by
  obtain ⟨n', t, b, l, rfl, rfl, hbb, hl⟩ := tf_inv hn
  obtain ⟨h1, h2, h3, h4, h5⟩ := tf_parts hn hb
  obtain ⟨d', rfl, hk, h⟩ := ok_parts hok
  rcases h with ⟨hx, rfl, hall⟩ | ⟨hx, rfl, hf⟩
  ·rw [bytes_box hx]
   have hfl := flat5 (B := 30000) hl (by omega)
   intro z hz
   rcases List.mem_append.1 hz with hz | hz
   ·exact head_byte (known_rng hk) (by omega) z hz
   ·obtain ⟨r, hr, hz⟩ := List.mem_flatten.1 hz
    obtain ⟨c, hc, rfl⟩ := List.mem_map.1 hr
    obtain ⟨y, rfl, hy, hyb⟩ := h4 c hc
    exact bytes_byte hy (by omega) (hall _ hc) z hz
  ·rw [bytes_leaf hx]
   intro z hz
   rcases List.mem_append.1 hz with hz | hz
   ·exact head_byte (known_rng hk) (by omega) z hz
   ·exact h3 z hz

theorem rowsJoin_map (R : List (List Int)) : rowsJoin (R.map (CV.sli .u8)) = R.flatten := by
 unfold rowsJoin
 rw [shut_eq, List.flatMap_map]
 show R.flatMap (fun x => x) = _
 rw [List.flatMap_id']
theorem joinOk_map {R : List (List Int)} (h1 : R.length <= 1000000) (h2 : ∀ x ∈ R, rowB x = true) (h3 : R.flatten.length <= 1000000) : joinOk (R.map (CV.sli .u8)) = true := by
 unfold joinOk
 rw [shut_eq]
 simp only [Bool.and_eq_true, decide_eq_true_eq, List.all_eq_true, List.length_map, List.mem_map]
 refine ⟨h1, fun x hx => ?_, ?_⟩
 ·obtain ⟨y, hy, rfl⟩ := hx
  exact h2 y hy
 ·have := rowsJoin_map R
  unfold rowsJoin at this
  rw [shut_eq] at this
  rw [this]
  exact h3
noncomputable def badW : Option Out := some (.ret [.cl (.sli .u8 []), .cl (.bool false)] [])
noncomputable def headW (t s : Int) (rows : List CV) : Option Out :=
 cond (headOk t s) (cond (joinOk rows) (cond (Nat.ble ((derHead t s ++ rowsJoin rows).length * 1) LIMN) (cond (Nat.ble ((derHead t s ++ rowsJoin rows).length) LIMN) (some (.ret [.cl (.sli .u8 (derHead t s ++ rowsJoin rows)), .cl (.bool true)] [])) none) none) none) none
noncomputable def finW (t s : Int) (rows : List CV) : Option Out :=
 cond (decide (t = 49)) (cond (rowsOk rows) (cond (!(rowsSorted rows)) badW (headW t s rows)) none) (headW t s rows)
theorem fin_w {t : Int} {R : List (List Int)} (ht : 0 <= t /\ t <= 255) (h1 : R.length <= 30000) (h2 : ∀ x ∈ R, rowB x = true) (h3 : R.flatten.length <= 150000) :
  finW t ((R.flatten.length : Nat) : Int) (R.map (CV.sli .u8)) = if (!(decide (t = 49)) || rowsSortedC R) = true then some (.ret [.cl (.sli .u8 (derHeadC t (R.flatten.length : Nat) ++ R.flatten)), .cl (.bool true)] []) else badW := by
 have hh : headW t ((R.flatten.length : Nat) : Int) (R.map (CV.sli .u8)) = some (.ret [.cl (.sli .u8 (derHeadC t (R.flatten.length : Nat) ++ R.flatten)), .cl (.bool true)] []) := by
  unfold headW derHead
  rw [shut_eq, rowsJoin_map]
  have hl := head_len t (R.flatten.length : Nat)
  have hr := lenSize_rng (R.flatten.length : Nat)
  refine b_pos ?_ (b_pos (joinOk_map (by omega) h2 (by omega)) (lim_in (by simp only [List.length_append]; omega) (lim_in (by simp only [List.length_append]; omega) rfl)))
  unfold headOk
  rw [shut_eq]
  exact decide_eq_true (by omega)
 unfold finW
 rw [hh, rowsSorted_map]
 refine c_split (fun h => b_pos (rowsOk_map (by omega) h2) (b_split (fun h9 => ?_) fun h9 => ?_)) fun h => ?_
 ·rw [if_neg (by simp only [Bool.not_eq_true'] at h9; simp [h, h9])]
 ·rw [if_pos (by simp only [Bool.not_eq_false'] at h9; simp [h9])]
 ·rw [if_pos (by simp [h])]
theorem rows_b {n d : Nat} {l : List CV} (h4 : ∀ c ∈ l, ∃ y, c = .agg y /\ isTf n y = true /\ bulkF n y + 1 <= 30000) (hall : ∀ c ∈ l, okF n d (cell1 c) = true) : ∀ x ∈ (l.map fun c => (bytesF n (cell1 c)).1), rowB x = true := by
 intro x hx
 obtain ⟨c, hc, rfl⟩ := List.mem_map.1 hx
 obtain ⟨y, rfl, hy, hyb⟩ := h4 c hc
 have h1 := bytes_len hy
 have h2 := bytes_byte hy (by omega) (hall _ hc)
 unfold rowB
 simp only [Bool.and_eq_true, decide_eq_true_eq, List.all_eq_true]
 exact ⟨by show (bytesF n y).1.length <= _; omega, fun z hz => decide_eq_true (h2 z hz)⟩

end Go.Proofs.YtfkpjbbkdkcdcaaDoorA

namespace Go.Proofs.YtfkpjbbkdkcdcaaDoorA
open IntWalk (i64_in u8_in u32_in u64_in i64_quo u8_quo rem_in)

theorem rwrite_lp (rk d : Nat) (deep ta : Int) (ba : List Int) (hd : 1 <= deep /\ deep <= 1000) (hdd : deep.toNat = d + 1) (ka : List CV) (hlen : ka.length <= 30000) (hall : ∀ c ∈ ka, ∃ y, c = .agg y /\ isTf rk y = true /\ bulkF rk y + 1 <= 30000) : ∀ (f i : Nat) (s : Int) (rows : List CV), i <= ka.length -> ka.length < f + i -> 0 <= s -> s + sumL (fun c => (bytesF rk (cell1 c)).1) (ka.drop i) <= 150000 -> rows.length = i ->
  lpRWrite_12 rk (fun _ _ _ _ _ _ _ _ _ _ _ _ _ _ _ _ _ _ _ _ _ _ _ _ _ _ _ _ _ _ _ _ _ _ => badW) (fun _ _ _ _ _ _ _ _ _ _ _ _ _ _ _ _ _ _ _ _ _ _ _ _ _ _ _ _ _ _ _ _ _ _ _ _ => badW) (fun _ _ y79 _ _ _ _ y84 _ _ y87 => finW y84 y79 y87) f deep rows.length s i ta ba ka rows = if (ka.drop i).all (fun c => okF rk d (cell1 c) && (bytesF rk (cell1 c)).2) = true then finW ta (s + sumL (fun c => (bytesF rk (cell1 c)).1) (ka.drop i)) (rows ++ (ka.drop i).map fun c => .sli .u8 (bytesF rk (cell1 c)).1) else badW
 | 0, i, s, rows, hi, hf, _, _, _ => by omega
 | f + 1, i, s, rows, hi, hf, h0, hs, hr => by
  show lpRWrite_12s rk (lpRWrite_12 rk (fun _ _ _ _ _ _ _ _ _ _ _ _ _ _ _ _ _ _ _ _ _ _ _ _ _ _ _ _ _ _ _ _ _ _ => badW) (fun _ _ _ _ _ _ _ _ _ _ _ _ _ _ _ _ _ _ _ _ _ _ _ _ _ _ _ _ _ _ _ _ _ _ _ _ => badW) (fun _ _ y79 _ _ _ _ y84 _ _ y87 => finW y84 y79 y87) f) (fun _ _ _ _ _ _ _ _ _ _ _ _ _ _ _ _ _ _ _ _ _ _ _ _ _ _ _ _ _ _ _ _ _ _ => badW) (fun _ _ _ _ _ _ _ _ _ _ _ _ _ _ _ _ _ _ _ _ _ _ _ _ _ _ _ _ _ _ _ _ _ _ _ _ => badW) (fun _ _ y79 _ _ _ _ y84 _ _ y87 => finW y84 y79 y87) deep rows.length s i ta ba ka rows = _
  unfold lpRWrite_12s
  obtain ⟨R, hR⟩ : ∃ R : Option Out, R = if (ka.drop i).all (fun c => okF rk d (cell1 c) && (bytesF rk (cell1 c)).2) = true then finW ta (s + sumL (fun c => (bytesF rk (cell1 c)).1) (ka.drop i)) (rows ++ (ka.drop i).map fun c => .sli .u8 (bytesF rk (cell1 c)).1) else badW := ⟨_, rfl⟩
  rw [<- hR]
  refine c_split (fun h => ?_) fun h => ?_
  ·obtain ⟨c, hc⟩ := get_some (b := ka) (i := i) (by omega)
   obtain ⟨y, rfl, hy, hyb⟩ := hall c (List.mem_of_getElem? hc)
   have ed : ka.drop i = .agg y :: ka.drop (i + 1) := by
    obtain ⟨hlt, e⟩ := List.getElem?_eq_some_iff.1 hc
    rw [List.drop_eq_getElem_cons hlt, e]
   refine c_pos (by omega) (c_pos h ?_)
   rw [show (i : Int).toNat = i from rfl, hc, Option.bind_some]
   obtain ⟨m, t, b, l, hm, hye, _⟩ := tf_inv hy
   simp only [cell1, hye, List.headD_cons, List.tail_cons]
   refine b_pos rfl ?_
   simp only [show IntKind.i64.wrap (deep - 1) = deep - 1 from i64_in _ (by omega), cvInt, cvSli, cvSlg]
   refine b_pos ?_ ?_
   ·simp only [Bool.and_eq_true]
    exact ⟨isSr_of (hye ▸ hy) (hye ▸ (by omega)), deepOk_of (by omega)⟩
   ·have e : ndWriteR [.int .i64 t, .sli .u8 b, .slg 3 l] (deep - 1) = if okF rk d y = true /\ (bytesF rk y).2 = true then ((bytesF rk y).1, true) else ([], false) := by
     rw [<- hye, ndWriteR_eq hy, show (deep - 1).toNat = d by omega]
    have es : sumL (fun c => (bytesF rk (cell1 c)).1) (ka.drop i) = ((bytesF rk y).1.length : Int) + sumL (fun c => (bytesF rk (cell1 c)).1) (ka.drop (i + 1)) := by rw [ed]; rfl
    have hpos := (sumL_drop (fun c => (bytesF rk (cell1 c)).1) ka (i + 1)).1
    rw [es] at hs hR
    have em : ((ka.drop i).map fun c => CV.sli .u8 (bytesF rk (cell1 c)).1) = .sli .u8 (bytesF rk y).1 :: (ka.drop (i + 1)).map fun c => .sli .u8 (bytesF rk (cell1 c)).1 := by rw [ed]; rfl
    have ea : (ka.drop i).all (fun c => okF rk d (cell1 c) && (bytesF rk (cell1 c)).2) = ((okF rk d y && (bytesF rk y).2) && (ka.drop (i + 1)).all (fun c => okF rk d (cell1 c) && (bytesF rk (cell1 c)).2)) := by rw [ed, List.all_cons]; rfl
    rw [ea, em] at hR
    by_cases hok : okF rk d y = true /\ (bytesF rk y).2 = true
    ·rw [if_pos hok] at e
     rw [hok.1, hok.2, Bool.and_self, Bool.true_and] at hR
     simp only [e]
     refine b_neg rfl ?_
     rw [show IntKind.i64.wrap (s + ((bytesF rk y).1.length : Int)) = s + ((bytesF rk y).1.length : Int) from i64_in _ (by omega)]
     refine c_neg (by omega) ?_
     refine lim_in (by simp only [List.length_append, List.length_singleton]; omega) (lim_in (by simp only [List.length_append, List.length_singleton]; omega) ?_)
     rw [show IntKind.i64.wrap ((i : Int) + 1) = ((i + 1 : Nat) : Int) from (i64_in _ (by omega)).trans (by omega)]
     refine (rwrite_lp rk d deep ta ba hd hdd ka hlen hall f (i + 1) _ _ (by omega) (by omega) (by omega) (by omega) (by simp only [List.length_append, List.length_singleton]; omega)).trans ?_
     rw [hR, Int.add_assoc, List.append_assoc]
     rfl
    ·rw [if_neg hok] at e
     simp only [e]
     refine b_pos rfl ?_
     rw [hR, if_neg (by intro h; simp only [Bool.and_eq_true] at h; exact hok h.1)]
  ·rw [List.drop_eq_nil_of_le (by omega)] at hR
   rw [hR]
   show finW ta s rows = if ([] : List CV).all (fun c => okF rk d (cell1 c) && (bytesF rk (cell1 c)).2) = true then finW ta (s + 0) (rows ++ []) else _
   rw [if_pos (by rfl), Int.add_zero, List.append_nil]
theorem rows_map (n : Nat) (l : List CV) : (l.map fun c => CV.sli .u8 (bytesF n (cell1 c)).1) = (l.map fun c => (bytesF n (cell1 c)).1).map (CV.sli .u8) := by rw [List.map_map]; rfl
theorem nRWrite (rk : Nat) (ta : Int) (ba : List Int) (ka : List CV) (deep : Int) (hp : (isSr (rk + 1) [.int .i64 ta, .sli .u8 ba, .slg 3 ka] && deepOk deep) = true) : gRWrite rk ta ba ka deep = some (.ret [.cl (.sli .u8 (ndWriteR [.int .i64 ta, .sli .u8 ba, .slg 3 ka] deep).1), .cl (.bool (ndWriteR [.int .i64 ta, .sli .u8 ba, .slg 3 ka] deep).2)] []) := by
 simp only [Bool.and_eq_true] at hp
 obtain ⟨ht, hb⟩ := isSr_spec hp.1
 have hd := deepOk_spec hp.2
 obtain ⟨h1, h2, h3, h4, h5⟩ := tf_parts ht hb
 rw [ndWriteR_eq ht]
 have bad : ∀ P : Prop, [Decidable P] -> ¬P -> ∀ q : List Int × Bool, badW = some (.ret [.cl (.sli .u8 (if P then q else ([], false) : List Int × Bool).1), .cl (.bool (if P then q else ([], false) : List Int × Bool).2)] []) := fun P _ h q => by rw [if_neg h]; rfl
 unfold gRWrite derKnown derBoxed derFits
 simp only [shut_eq]
 refine c_split (fun h => ?_) fun h => ?_
 ·subst h; exact bad _ (fun e => absurd e.1 Bool.false_ne_true) _
 obtain ⟨d, hdd⟩ : ∃ d, deep.toNat = d + 1 := ⟨deep.toNat - 1, by omega⟩
 rw [hdd]
 refine b_split (fun hk => ?_) fun hk => ?_
 ·exact bad _ (fun e => by obtain ⟨_, _, h, _⟩ := ok_parts e.1; simp [h] at hk) _
 have hk : derKnownC ta = true := by simpa using hk
 have hflen := flat5 (n := rk) (l := ka) (B := 30000) (fun c hc => by obtain ⟨y, e, hy, _⟩ := h4 c hc; exact ⟨y, e, hy⟩) (by omega)
 refine b_split (fun hx => ?_) fun hx => ?_
 ·have hx : derBoxedC ta = false := by simpa using hx
  refine c_split (fun hka => ?_) fun hka => ?_
  ·exact bad _ (fun e => by
    obtain ⟨_, _, _, h | h⟩ := ok_parts e.1
    ·simp [hx] at h
    ·rw [h.2.1] at hka; simp at hka) _
  ·obtain rfl : ka = [] := List.eq_nil_of_length_eq_zero (by omega)
   refine c_neg (by omega) (b_pos (bytesOk_of (by omega) h3) ?_)
   refine b_split (fun hf => ?_) fun hf => ?_
   ·exact bad _ (fun e => by
     obtain ⟨_, _, _, h | h⟩ := ok_parts e.1
     ·simp [hx] at h
     ·simp [h.2.2] at hf) _
   ·have hf : derFitsC ta ba = true := by simpa using hf
    have hok : okF (rk + 1) (d + 1) [.int .i64 ta, .sli .u8 ba, .slg 3 []] = true := by
     show (derKnownC ta && (if derBoxedC ta = true then _ else decide (([] : List CV) = []) && derFitsC ta ba)) = true
     rw [if_neg (by simp [hx]), hk, hf]
     rfl
    rw [bytes_leaf hx, if_pos ⟨hok, rfl⟩]
    have hr := head_len ta (ba.length : Nat)
    have hr2 := lenSize_rng (ba.length : Nat)
    unfold derHead
    simp only [shut_eq]
    have := known_rng hk
    refine b_pos (by unfold headOk; rw [shut_eq]; exact decide_eq_true (by omega)) (lim_in (by simp only [List.length_append]; omega) (lim_in (by simp only [List.length_append]; omega) rfl))
 ·have hx : derBoxedC ta = true := by simpa using hx
  refine c_split (fun hba => ?_) fun hba => ?_
  ·exact bad _ (fun e => by
    obtain ⟨_, _, _, h | h⟩ := ok_parts e.1
    ·rw [h.2.1] at hba; simp at hba
    ·simp [hx] at h) _
  ·obtain rfl : ba = [] := List.eq_nil_of_length_eq_zero (by omega)
   refine (rwrite_lp rk d deep ta [] (by omega) hdd ka (by omega) h4 FUEL 0 0 [] (by omega) (by unfold FUEL; omega) (by omega) (by rw [List.drop_zero, sumL_flat]; omega) rfl).trans ?_
   rw [List.drop_zero, sumL_flat, Int.zero_add, List.nil_append, rows_map]
   by_cases ha : (ka.all fun c => okF rk d (cell1 c) && (bytesF rk (cell1 c)).2) = true
   ·rw [if_pos ha]
    simp only [List.all_eq_true, Bool.and_eq_true] at ha
    have hok : okF (rk + 1) (d + 1) [.int .i64 ta, .sli .u8 [], .slg 3 ka] = true := by
     show (derKnownC ta && (if derBoxedC ta = true then decide (([] : List Int) = []) && ka.all fun c => okF rk d (cell1 c) else _)) = true
     rw [if_pos hx, hk]
     simp only [Bool.true_and, decide_true, List.all_eq_true]
     exact fun c hc => (ha c hc).1
    rw [fin_w (known_rng hk) (by rw [List.length_map]; omega) (rows_b h4 fun c hc => (ha c hc).1) (by omega), bytes_box hx]
    have h2' : (ka.all fun c => (bytesF rk (cell1 c)).2) = true := by simp only [List.all_eq_true]; exact fun c hc => (ha c hc).2
    rw [h2', Bool.true_and]
    by_cases hs : (!(decide (ta = 49)) || rowsSortedC (ka.map fun c => (bytesF rk (cell1 c)).1)) = true
    ·rw [if_pos hs, if_pos ⟨hok, hs⟩]
    ·rw [if_neg hs]
     exact bad _ (fun e => hs e.2) _
   ·rw [if_neg ha]
    refine bad _ (fun e => ha ?_) _
    obtain ⟨d', e1, _, h | h⟩ := ok_parts e.1
    ·obtain rfl : d = d' := by omega
     have e2 := e.2
     rw [bytes_box hx] at e2
     simp only [Bool.and_eq_true, List.all_eq_true] at e2 ⊢
     exact fun c hc => ⟨h.2.2 c hc, e2.1 c hc⟩
    ·simp [hx] at h
end Go.Proofs.YtfkpjbbkdkcdcaaDoorA

namespace Go.Proofs.YtfkpjbbkdkcdcaaDoorA
open IntWalk (i64_in u8_in u32_in u64_in i64_quo u8_quo rem_in)

theorem dwrite_lp (rk d : Nat) (ta : Int) (ba : List Int) (ka kb : List CV) (hlen : ka.length <= 30000) (hall : ∀ c ∈ ka, ∃ y, c = .agg y /\ isTf rk y = true /\ bulkF rk y + 1 <= 30000) (hok : ∀ c ∈ ka, okF rk d (cell1 c) = true) : ∀ (f i : Nat) (s : Int), i <= ka.length -> ka.length < f + i -> 0 <= s -> s + sumL (fun c => (bytesF rk (cell1 c)).1) (ka.drop i) <= 150000 ->
  lpDWrite_6 rk (fun _ _ _ _ _ _ _ _ _ _ _ _ _ _ _ _ _ _ _ _ _ _ _ _ _ _ _ _ _ _ _ => badW) (fun _ y37 _ _ _ y41 _ _ y44 => finW y41 y37 y44) f ka.length s ka ((ka.length : Nat) : Int) i ta ba kb (((ka.take i).map fun c => CV.sli .u8 (bytesF rk (cell1 c)).1) ++ List.replicate (ka.length - i) (.sli .u8 [])) = if (ka.drop i).all (fun c => (bytesF rk (cell1 c)).2) = true then finW ta (s + sumL (fun c => (bytesF rk (cell1 c)).1) (ka.drop i)) (ka.map fun c => .sli .u8 (bytesF rk (cell1 c)).1) else badW
 | 0, i, s, hi, hf, _, _ => by omega
 | f + 1, i, s, hi, hf, h0, hs => by
  show lpDWrite_6s rk (lpDWrite_6 rk (fun _ _ _ _ _ _ _ _ _ _ _ _ _ _ _ _ _ _ _ _ _ _ _ _ _ _ _ _ _ _ _ => badW) (fun _ y37 _ _ _ y41 _ _ y44 => finW y41 y37 y44) f) (fun _ _ _ _ _ _ _ _ _ _ _ _ _ _ _ _ _ _ _ _ _ _ _ _ _ _ _ _ _ _ _ => badW) (fun _ y37 _ _ _ y41 _ _ y44 => finW y41 y37 y44) ka.length s ka ((ka.length : Nat) : Int) i ta ba kb (((ka.take i).map fun c => CV.sli .u8 (bytesF rk (cell1 c)).1) ++ List.replicate (ka.length - i) (.sli .u8 [])) = _
  unfold lpDWrite_6s
  obtain ⟨R, hR⟩ : ∃ R : Option Out, R = if (ka.drop i).all (fun c => (bytesF rk (cell1 c)).2) = true then finW ta (s + sumL (fun c => (bytesF rk (cell1 c)).1) (ka.drop i)) (ka.map fun c => .sli .u8 (bytesF rk (cell1 c)).1) else badW := ⟨_, rfl⟩
  rw [<- hR]
  obtain ⟨W, hW⟩ : ∃ W : List CV, W = ((ka.take i).map fun c => CV.sli .u8 (bytesF rk (cell1 c)).1) ++ List.replicate (ka.length - i) (.sli .u8 []) := ⟨_, rfl⟩
  rw [<- hW]
  refine c_split (fun h => ?_) fun h => ?_
  ·obtain ⟨c, hc⟩ := get_some (b := ka) (i := i) (by omega)
   obtain ⟨y, rfl, hy, hyb⟩ := hall c (List.mem_of_getElem? hc)
   have hoky : okF rk d y = true := hok _ (List.mem_of_getElem? hc)
   have ed : ka.drop i = .agg y :: ka.drop (i + 1) := by
    obtain ⟨hlt, e⟩ := List.getElem?_eq_some_iff.1 hc
    rw [List.drop_eq_getElem_cons hlt, e]
   refine c_pos (by omega) (c_pos h ?_)
   rw [show (i : Int).toNat = i from rfl, hc, Option.bind_some]
   obtain ⟨m, t, b, l, hm, hye, _⟩ := tf_inv hy
   have hset : W.set (0 + i) (.sli .u8 (bytesF rk y).1) = ((ka.take (i + 1)).map fun c => CV.sli .u8 (bytesF rk (cell1 c)).1) ++ List.replicate (ka.length - (i + 1)) (.sli .u8 []) := by
    rw [hW, Nat.zero_add, List.set_append_right _ _ (by simp; omega)]
    have e1 : i - ((ka.take i).map fun c => CV.sli .u8 (bytesF rk (cell1 c)).1).length = 0 := by simp; omega
    rw [e1, show ka.length - i = (ka.length - (i + 1)) + 1 by omega, List.replicate_succ, List.set_cons_zero]
    have e2 : ka.take (i + 1) = ka.take i ++ [.agg y] := by
     rw [List.take_add_one, hc]; rfl
    rw [e2, List.map_append, List.append_assoc]
    rfl
   simp only [cell1, hye, List.headD_cons, List.tail_cons]
   refine b_pos rfl ?_
   simp only [cvInt, cvSli, cvSlg]
   refine b_pos ?_ ?_
   ·exact isWr_of ⟨hye ▸ hy, hye ▸ (by omega), d, hye ▸ hoky⟩
   ·have e : ndWrite [.int .i64 t, .sli .u8 b, .slg 3 l] = if (bytesF rk y).2 = true then ((bytesF rk y).1, true) else ([], false) := by
     rw [<- hye, ndWrite_eq hy]
    have es : sumL (fun c => (bytesF rk (cell1 c)).1) (ka.drop i) = ((bytesF rk y).1.length : Int) + sumL (fun c => (bytesF rk (cell1 c)).1) (ka.drop (i + 1)) := by rw [ed]; rfl
    have hpos := (sumL_drop (fun c => (bytesF rk (cell1 c)).1) ka (i + 1)).1
    rw [es] at hs hR
    have ea : (ka.drop i).all (fun c => (bytesF rk (cell1 c)).2) = ((bytesF rk y).2 && (ka.drop (i + 1)).all (fun c => (bytesF rk (cell1 c)).2)) := by rw [ed, List.all_cons]; rfl
    rw [ea] at hR
    by_cases hk : (bytesF rk y).2 = true
    ·rw [if_pos hk] at e
     rw [hk, Bool.true_and] at hR
     simp only [e]
     refine b_neg rfl ?_
     rw [show IntKind.i64.wrap (s + ((bytesF rk y).1.length : Int)) = s + ((bytesF rk y).1.length : Int) from i64_in _ (by omega)]
     refine c_pos (by omega) (c_pos h ?_)
     rw [hset, show IntKind.i64.wrap ((i : Int) + 1) = ((i + 1 : Nat) : Int) from (i64_in _ (by omega)).trans (by omega)]
     refine (dwrite_lp rk d ta ba ka kb hlen hall hok f (i + 1) _ (by omega) (by omega) (by omega) (by omega)).trans ?_
     rw [hR, Int.add_assoc]
    ·rw [if_neg hk] at e
     simp only [e]
     refine b_pos rfl ?_
     rw [hR, if_neg (by intro h; simp only [Bool.and_eq_true] at h; exact hk h.1)]
  ·obtain rfl : i = ka.length := by omega
   rw [List.drop_eq_nil_of_le (Nat.le_refl _)] at hR
   rw [hR, hW, List.take_length, Nat.sub_self]
   show finW ta s ((ka.map fun c => CV.sli .u8 (bytesF rk (cell1 c)).1) ++ []) = if ([] : List CV).all (fun c => (bytesF rk (cell1 c)).2) = true then finW ta (s + 0) _ else _
   rw [if_pos (by rfl), Int.add_zero, List.append_nil]
theorem nDWrite (rk : Nat) (ta : Int) (ba : List Int) (ka : List CV) (hp : isWr (rk + 1) [.int .i64 ta, .sli .u8 ba, .slg 3 ka] = true) : gDWrite rk ta ba ka = some (.ret [.cl (.sli .u8 (ndWrite [.int .i64 ta, .sli .u8 ba, .slg 3 ka]).1), .cl (.bool (ndWrite [.int .i64 ta, .sli .u8 ba, .slg 3 ka]).2)] []) := by
 obtain ⟨ht, hb, d, hok⟩ := isWr_spec hp
 obtain ⟨h1, h2, h3, h4, h5⟩ := tf_parts ht hb
 obtain ⟨d', rfl, hk, h⟩ := ok_parts hok
 rw [ndWrite_eq ht]
 unfold gDWrite derBoxed
 simp only [shut_eq]
 rcases h with ⟨hx, rfl, hall⟩ | ⟨hx, rfl, hf⟩
 ·have hflen := flat5 (n := rk) (l := ka) (B := 30000) (fun c hc => by obtain ⟨y, e, hy, _⟩ := h4 c hc; exact ⟨y, e, hy⟩) (by simp only [List.length_nil] at h5; omega)
  refine b_neg (by simp [hx]) (c_pos (by omega) (c_pos (by omega) (c_pos (by unfold LIM; omega) (c_pos (by unfold LIM; omega) ?_))))
  refine (dwrite_lp rk d' ta [] ka ka (by omega) h4 hall FUEL 0 0 (by omega) (by unfold FUEL; omega) (by omega) (by rw [List.drop_zero, sumL_flat]; omega)).trans ?_
  rw [List.drop_zero, sumL_flat, Int.zero_add, rows_map, bytes_box hx]
  by_cases ha : (ka.all fun c => (bytesF rk (cell1 c)).2) = true
  ·rw [if_pos ha, fin_w (known_rng hk) (by rw [List.length_map]; omega) (rows_b h4 hall) (by omega), ha, Bool.true_and]
   by_cases hs : (!(decide (ta = 49)) || rowsSortedC (ka.map fun c => (bytesF rk (cell1 c)).1)) = true
   ·rw [if_pos hs, if_pos hs]
   ·rw [if_neg hs, if_neg hs]; rfl
  ·rw [if_neg ha]
   have hf : (ka.all fun c => (bytesF rk (cell1 c)).2) = false := by simpa using ha
   rw [hf, Bool.false_and]
   rfl
 ·have hr := head_len ta (ba.length : Nat)
  have hr2 := lenSize_rng (ba.length : Nat)
  have := known_rng hk
  unfold derHead
  simp only [shut_eq]
  rw [bytes_leaf hx]
  refine b_pos (by simp [hx]) (b_pos (by unfold headOk; rw [shut_eq]; exact decide_eq_true (by omega)) (lim_in (by simp only [List.length_append]; omega) (lim_in (by simp only [List.length_append]; omega) rfl)))

/-! ### bytes, and what is fit -/
theorem nRBytes (ta : Int) (ba : List Int) (ka : List CV) (hp : isS [.int .i64 ta, .sli .u8 ba, .slg 3 ka] = true) : gRBytes ta ba ka = some (.ret [.cl (.sli .u8 (ndBytes [.int .i64 ta, .sli .u8 ba, .slg 3 ka]).1), .cl (.int .i64 (ndBytes [.int .i64 ta, .sli .u8 ba, .slg 3 ka]).2)] []) := by
 obtain ⟨n, ht, hb⟩ := isS_spec hp
 have hl := bytes_len ht
 unfold gRBytes
 refine b_pos (by rw [hp, deepOk_of (by omega)]; rfl) ?_
 simp only [ndWriteR_eq ht, ndBytes_eq ht, show (32 : Int).toNat = 32 from rfl]
 by_cases h : okF n 32 [.int .i64 ta, .sli .u8 ba, .slg 3 ka] = true /\ (bytesF n [.int .i64 ta, .sli .u8 ba, .slg 3 ka]).2 = true
 ·simp only [if_pos h]
  exact b_neg rfl (c_neg (by omega) rfl)
 ·simp only [if_neg h]
  exact b_pos rfl rfl
theorem nDBytes (ta : Int) (ba : List Int) (ka : List CV) (hp : isS [.int .i64 ta, .sli .u8 ba, .slg 3 ka] = true) : gDBytes ta ba ka = some (.ret [.cl (.sli .u8 (ndBytes [.int .i64 ta, .sli .u8 ba, .slg 3 ka]).1), .cl (.int .i64 (ndBytes [.int .i64 ta, .sli .u8 ba, .slg 3 ka]).2)] []) := by
 obtain ⟨n, ht, hb⟩ := isS_spec hp
 have hl := bytes_len ht
 unfold gDBytes
 refine b_pos (by rw [hp, deepOk_of (by omega)]; rfl) ?_
 rw [ndSize_eq ht, show (32 : Int).toNat = 32 from rfl]
 by_cases hok : okF n 32 [.int .i64 ta, .sli .u8 ba, .slg 3 ka] = true
 ·simp only [if_pos hok]
  refine c_neg (by omega) (c_neg (by omega) (b_pos (isW_of ⟨ht, hb, 32, hok⟩) ?_))
  simp only [ndWrite_eq ht, ndBytes_eq ht]
  by_cases h : (bytesF n [.int .i64 ta, .sli .u8 ba, .slg 3 ka]).2 = true
  ·simp only [if_pos h, if_pos (show okF n 32 [.int .i64 ta, .sli .u8 ba, .slg 3 ka] = true /\ (bytesF n [.int .i64 ta, .sli .u8 ba, .slg 3 ka]).2 = true from ⟨hok, h⟩)]
   exact b_neg rfl rfl
  ·simp only [if_neg h, if_neg (show ¬(okF n 32 [.int .i64 ta, .sli .u8 ba, .slg 3 ka] = true /\ (bytesF n [.int .i64 ta, .sli .u8 ba, .slg 3 ka]).2 = true) from fun e => h e.2)]
   exact b_pos rfl rfl
 ·simp only [if_neg hok, ndBytes_eq ht, if_neg (show ¬(okF n 32 [.int .i64 ta, .sli .u8 ba, .slg 3 ka] = true /\ (bytesF n [.int .i64 ta, .sli .u8 ba, .slg 3 ka]).2 = true) from fun e => hok e.1)]
  exact c_pos (by omega) rfl
theorem fit_bytes {n : Nat} {a : List CV} (ht : isTf n a = true) : decide ((ndBytes a).2 = 0) = ndFit a := by
 rw [ndBytes_eq ht, ndFit_eq ht]
 by_cases h : okF n 32 a = true /\ (bytesF n a).2 = true
 ·rw [if_pos h, decide_eq_true h]; rfl
 ·rw [if_neg h, decide_eq_false h]; rfl
theorem nRFit_ (ta : Int) (ba : List Int) (ka : List CV) (hp : isS [.int .i64 ta, .sli .u8 ba, .slg 3 ka] = true) : gRFit_ ta ba ka = some (.ret [.cl (.bool (ndFit [.int .i64 ta, .sli .u8 ba, .slg 3 ka]))] []) := by
 obtain ⟨n, ht, hb⟩ := isS_spec hp
 unfold gRFit_
 exact b_pos hp (ret_bool (fit_bytes ht))
theorem nDFit_ (ta : Int) (ba : List Int) (ka : List CV) (hp : isS [.int .i64 ta, .sli .u8 ba, .slg 3 ka] = true) : gDFit_ ta ba ka = some (.ret [.cl (.bool (ndFit [.int .i64 ta, .sli .u8 ba, .slg 3 ka]))] []) := by
 obtain ⟨n, ht, hb⟩ := isS_spec hp
 unfold gDFit_
 exact b_pos hp (ret_bool (fit_bytes ht))
end Go.Proofs.YtfkpjbbkdkcdcaaDoorA

namespace Go.Proofs.YtfkpjbbkdkcdcaaDoorA
open IntWalk (i64_in u8_in u32_in u64_in i64_quo u8_quo rem_in)

/-! ### the law -/
theorem isN_isS {a : List CV} (h : isS a = true) : isN a = true := by
 obtain ⟨n, hn, hb⟩ := isS_spec h
 exact isN_of (nd_of_tf hn hb)
end Go.Proofs.YtfkpjbbkdkcdcaaDoorA

namespace Go.Proofs.YtfkpjbbkdkcdcaaDoorA

end Go.Proofs.YtfkpjbbkdkcdcaaDoorA

namespace Go.Proofs.YtfkpjbbkdkcdcaaDoorA

theorem tf_mk {n : Nat} {t : Int} {b : List Int} {l : List CV} (h1 : ∀ z ∈ b, 0 <= z /\ z <= 255) (h3 : ∀ c ∈ l, ∃ y, c = .agg y /\ isTf n y = true) : isTf (n + 1) [.int .i64 t, .sli .u8 b, .slg 3 l] = true := by
 show (b.all byteB && l.all fun c => match c with | .agg x => isTf n x | _ => false) = true
 simp only [Bool.and_eq_true, List.all_eq_true]
 refine ⟨fun z hz => decide_eq_true (h1 z hz), fun c hc => ?_⟩
 obtain ⟨y, rfl, hy⟩ := h3 c hc
 exact hy
end Go.Proofs.YtfkpjbbkdkcdcaaDoorA

namespace Go.Proofs.YtfkpjbbkdkcdcaaDoorA

end Go.Proofs.YtfkpjbbkdkcdcaaDoorA

namespace Go.Proofs.YtfkpjbbkdkcdcaaDoorA
open IntWalk (i64_in u8_in u32_in u64_in i64_quo u8_quo rem_in)

/-! ### bytes that are so -/
theorem wrap_succ {i : Nat} (h : i <= 1000000000000) : IntKind.i64.wrap ((i : Int) + 1) = ((i + 1 : Nat) : Int) := (i64_in _ (by omega)).trans (by omega)
theorem same_go {a b : List Int} {T : Nat -> Int -> Option Out}
  (hT : ∀ (f i : Nat), T (f + 1) i = cond (decide ((i : Int) < ((a.length : Nat) : Int))) (getK a i fun x => getK b i fun y => cond (!decide (x = y)) (some (.ret [.cl (.bool false)] [])) (T f (IntKind.i64.wrap ((i : Int) + 1)))) (some (.ret [.cl (.bool true)] [])))
  (hl : a.length = b.length) (hb : a.length <= 100000000) : ∀ (f i : Nat), i <= a.length -> a.length < f + i -> T f i = some (.ret [.cl (.bool (decide (a.drop i = b.drop i)))] [])
 | 0, i, hi, hf => by omega
 | f + 1, i, hi, hf => by
  rw [hT]
  refine c_split (fun h => ?_) fun h => ?_
  ·obtain ⟨x, hx⟩ := get_some (b := a) (i := i) (by omega)
   obtain ⟨y, hy⟩ := get_some (b := b) (i := i) (by omega)
   refine getK_in (by omega) hx (getK_in (by omega) hy ?_)
   rw [drop_cons hx, drop_cons hy]
   refine c_nsplit (fun hne => ret_bool ?_) fun he => ?_
   ·simp [hne]
   ·subst he
    rw [wrap_succ (by omega)]
    refine (same_go hT hl hb f (i + 1) (by omega) (by omega)).trans (ret_bool ?_)
    simp
  ·refine ret_bool ?_
   rw [drop_nil (by omega), drop_nil (by omega)]
   simp
theorem fuel_lt {n : Nat} (h : n <= 100000000) : n < FUEL + 0 := by unfold FUEL; omega
theorem same_all {a b : List Int} {x : Option Out} (hx : a.length = b.length -> x = some (.ret [.cl (.bool (decide (a.drop 0 = b.drop 0)))] [])) :
  cond (!decide (((a.length : Nat) : Int) = ((b.length : Nat) : Int))) (some (.ret [.cl (.bool false)] [])) x = some (.ret [.cl (.bool (listSame a b))] []) := by
 unfold listSame listSameC
 rw [shut_eq]
 refine c_nsplit (fun h => ret_bool ?_) fun h => hx (by omega)
 rw [eq_comm, decide_eq_false_iff_not]
 intro e
 subst e
 exact h rfl
theorem nR2Same (a b : List Int) (hp : lenOk a = true) : gR2Same a b = some (.ret [.cl (.bool (listSame a b))] []) := by
 unfold gR2Same
 simp only [shut_eq]
 exact same_all fun h => same_go (T := fun f => lpR2Same_4 _ _ f a b) (fun _ _ => rfl) h (lenOk_spec hp) FUEL 0 (by omega) (fuel_lt (lenOk_spec hp))
theorem nSEq32 (a b : List Int) (hp : lenOk a = true) : gSEq32 a b = some (.ret [.cl (.bool (listSame a b))] []) := by
 unfold gSEq32
 simp only [shut_eq]
 exact same_all fun h => same_go (T := fun f => lpSEq32_4 _ _ f a b _) (fun _ _ => rfl) h (lenOk_spec hp) FUEL 0 (by omega) (fuel_lt (lenOk_spec hp))
theorem nOSame (a b : List Int) (hp : lenOk a = true) : gOSame a b = some (.ret [.cl (.bool (listSame a b))] []) := b_pos hp rfl
end Go.Proofs.YtfkpjbbkdkcdcaaDoorA

namespace Go.Proofs.YtfkpjbbkdkcdcaaDoorA
open IntWalk (i64_in u8_in u32_in u64_in i64_quo u8_quo rem_in)

theorem u32Ok_spec {n : Int} (h : u32Ok n = true) : 0 <= n /\ n <= 4294967295 := by
 unfold u32Ok at h; rw [shut_eq] at h; exact of_decide_eq_true h
theorem u32Ok_of {n : Int} (h : 0 <= n /\ n <= 4294967295) : u32Ok n = true := by
 unfold u32Ok; rw [shut_eq]; exact decide_eq_true h
theorem u32sOk_spec {o : List Int} (h : u32sOk o = true) : o.length <= 1000 /\ ∀ x ∈ o, 0 <= x /\ x <= 4294967295 := by
 unfold u32sOk at h
 rw [shut_eq] at h
 simp only [Bool.and_eq_true, decide_eq_true_eq, List.all_eq_true] at h
 exact ⟨h.1, fun x hx => of_decide_eq_true (h.2 x hx)⟩
theorem c_z {x : Int} {a b : Option Out} (h : x = 0) : cond (!decide (x = 0)) a b = b := by rw [decide_eq_true h]; rfl
theorem c_nz {x : Int} {a b : Option Out} (h : x ≠ 0) : cond (!decide (x = 0)) a b = a := by rw [decide_eq_false h]; rfl
theorem or128 : ∀ n : Fin 256, IntKind.u8.wrap ((BitVec.ofInt 8 (n.val : Int) ||| BitVec.ofInt 8 128).toNat) = 128 + (n.val : Int) % 128 := by decide +kernel
theorem put_hi (x : Int) : IntKind.u8.wrap ((BitVec.ofInt 8 (IntKind.u8.wrap x) ||| BitVec.ofInt 8 128).toNat) = 128 + x % 128 := by
 rw [u8_mod x]
 have := or128 ⟨(x % 256).toNat, by omega⟩
 simp only [Int.toNat_of_nonneg (show 0 <= x % 256 by omega)] at this
 rw [this]; omega
theorem put_lo (x : Int) : IntKind.u8.wrap ((BitVec.ofInt 8 (IntKind.u8.wrap x) &&& ~~~ BitVec.ofInt 8 128).toNat) = x % 128 := by
 rw [u8_mod x]
 have := (and7 ⟨(x % 256).toNat, by omega⟩).1
 simp only [Int.toNat_of_nonneg (show 0 <= x % 256 by omega)] at this
 rw [this]; omega
theorem fd28 (n : Int) : Int.fdiv n (2 ^ 28) = n / 268435456 := Int.fdiv_eq_ediv_of_nonneg _ (by decide)
theorem fd21 (n : Int) : Int.fdiv n (2 ^ 21) = n / 2097152 := Int.fdiv_eq_ediv_of_nonneg _ (by decide)
theorem fd14 (n : Int) : Int.fdiv n (2 ^ 14) = n / 16384 := Int.fdiv_eq_ediv_of_nonneg _ (by decide)
theorem fd7 (n : Int) : Int.fdiv n (2 ^ 7) = n / 128 := Int.fdiv_eq_ediv_of_nonneg _ (by decide)
theorem gHi_0 (f : Nat) : gHi f 0 = [] := by cases f <;> rfl
theorem gHi_s (f : Nat) {n : Int} (h : n ≠ 0) : gHi (f + 1) n = gHi f (n / 128) ++ [128 + n % 128] := by
 conv => lhs; unfold gHi
 rw [if_neg h]
theorem gr1 {n : Int} (h : n / 128 = 0) : oidGroupsC n = [n % 128] := by unfold oidGroupsC; rw [h, gHi_0]; rfl
theorem gr2 {n : Int} (h : n / 128 ≠ 0) (h' : n / 16384 = 0) : oidGroupsC n = [128 + n / 128 % 128, n % 128] := by
 unfold oidGroupsC
 rw [gHi_s 4 h, show n / 128 / 128 = 0 by omega, gHi_0]; rfl
theorem gr3 {n : Int} (h : n / 16384 ≠ 0) (h' : n / 2097152 = 0) : oidGroupsC n = [128 + n / 16384 % 128, 128 + n / 128 % 128, n % 128] := by
 unfold oidGroupsC
 rw [gHi_s 4 (by omega), gHi_s 3 (by omega), show n / 128 / 128 / 128 = 0 by omega, gHi_0, show n / 128 / 128 = n / 16384 by omega]; rfl
theorem gr4 {n : Int} (h : n / 2097152 ≠ 0) (h' : n / 268435456 = 0) : oidGroupsC n = [128 + n / 2097152 % 128, 128 + n / 16384 % 128, 128 + n / 128 % 128, n % 128] := by
 unfold oidGroupsC
 rw [gHi_s 4 (by omega), gHi_s 3 (by omega), gHi_s 2 (by omega), show n / 128 / 128 / 128 / 128 = 0 by omega, gHi_0, show n / 128 / 128 / 128 = n / 2097152 by omega, show n / 128 / 128 = n / 16384 by omega]; rfl
theorem gr5 {n : Int} (h : n / 268435456 ≠ 0) (h' : 0 <= n /\ n <= 4294967295) : oidGroupsC n = [128 + n / 268435456 % 128, 128 + n / 2097152 % 128, 128 + n / 16384 % 128, 128 + n / 128 % 128, n % 128] := by
 unfold oidGroupsC
 rw [gHi_s 4 (by omega), gHi_s 3 (by omega), gHi_s 2 (by omega), gHi_s 1 (by omega), show n / 128 / 128 / 128 / 128 / 128 = 0 by omega, gHi_0, show n / 128 / 128 / 128 / 128 = n / 268435456 by omega, show n / 128 / 128 / 128 = n / 2097152 by omega, show n / 128 / 128 = n / 16384 by omega]; rfl
theorem gr_cases {n : Int} (h : 0 <= n /\ n <= 4294967295) : (n / 128 = 0 /\ n / 16384 = 0 /\ n / 2097152 = 0 /\ n / 268435456 = 0) \/ (n / 128 ≠ 0 /\ n / 16384 = 0 /\ n / 2097152 = 0 /\ n / 268435456 = 0) \/
  (n / 128 ≠ 0 /\ n / 16384 ≠ 0 /\ n / 2097152 = 0 /\ n / 268435456 = 0) \/ (n / 128 ≠ 0 /\ n / 16384 ≠ 0 /\ n / 2097152 ≠ 0 /\ n / 268435456 = 0) \/ (n / 128 ≠ 0 /\ n / 16384 ≠ 0 /\ n / 2097152 ≠ 0 /\ n / 268435456 ≠ 0) := by omega
theorem nOPut_0 (n : Int) (hp : u32Ok n = true) : gOPut_0 n = some (.ret [.ref 0 0 (oidGroups n).length true 1] [some ⟨.ints .u8 (oidGroups n), false⟩]) := by
 have hn := u32Ok_spec hp
 unfold gOPut_0 oidGroups
 simp only [shut_eq]
 unfold jnOPut_2
 simp only [fd28, fd21, fd14, fd7, put_hi, put_lo]
 rcases gr_cases hn with ⟨h1, h2, h3, h4⟩ | ⟨h1, h2, h3, h4⟩ | ⟨h1, h2, h3, h4⟩ | ⟨h1, h2, h3, h4⟩ | ⟨h1, h2, h3, h4⟩
 ·rw [c_z h4, c_z h3, c_z h2, c_z h1, gr1 h1]; rfl
 ·rw [c_z h4, c_z h3, c_z h2, c_nz h1, gr2 h1 h2]; rfl
 ·rw [c_z h4, c_z h3, c_nz h2, c_nz h1, gr3 h2 h3]; rfl
 ·rw [c_z h4, c_nz h3, c_nz h2, c_nz h1, gr4 h3 h4]; rfl
 ·rw [c_nz h4, c_nz h3, c_nz h2, c_nz h1, gr5 h4 hn]; rfl
theorem rm1 {l : List Int} {x : Option Out} (h : l.length <= 1000000000) : rmK l.length 1 x = x := rmK_in (by omega) (by omega) rfl
theorem nOPut_1 (m : Nat) (n : Int) (l : List Int) (hp : (u32Ok n && lenOk l) = true) : gOPut_1 m n l = some (.ret [.ref 1 0 (l ++ oidGroups n).length true 1] [none, some ⟨.ints .u8 (l ++ oidGroups n), false⟩]) := by
 simp only [Bool.and_eq_true] at hp
 have hn := u32Ok_spec hp.1
 have hl := lenOk_spec hp.2
 have rm : ∀ (a : List Int) {x : Option Out}, a.length <= 10 -> rmK (l ++ a).length 1 x = x := fun a x h => rm1 (by simp; omega)
 unfold gOPut_1 oidGroups
 simp only [shut_eq]
 unfold jnOPut_2_1
 simp only [fd28, fd21, fd14, fd7, put_hi, put_lo, List.append_assoc, List.cons_append, List.nil_append]
 rcases gr_cases hn with ⟨h1, h2, h3, h4⟩ | ⟨h1, h2, h3, h4⟩ | ⟨h1, h2, h3, h4⟩ | ⟨h1, h2, h3, h4⟩ | ⟨h1, h2, h3, h4⟩
 ·rw [c_z h4, c_z h3, c_z h2, c_z h1, gr1 h1, rm _ (by simp)]
 ·rw [c_z h4, c_z h3, c_z h2, c_nz h1, gr2 h1 h2, rm _ (by simp), rm _ (by simp)]
 ·rw [c_z h4, c_z h3, c_nz h2, rm _ (by simp), c_nz h1, rm _ (by simp), gr3 h2 h3, rm _ (by simp)]
 ·rw [c_z h4, c_nz h3, rm _ (by simp), c_nz h2, rm _ (by simp), c_nz h1, rm _ (by simp), gr4 h3 h4, rm _ (by simp)]
 ·rw [c_nz h4, rm _ (by simp), c_nz h3, rm _ (by simp), c_nz h2, rm _ (by simp), c_nz h1, rm _ (by simp), gr5 h4 hn, rm _ (by simp)]

/-! ### all of its bytes -/
theorem gr_len (n : Int) : (oidGroupsC n).length <= 6 := by
 have h : ∀ (f : Nat) (n : Int), (gHi f n).length <= f := fun f => by
  induction f with
  | zero => intro n; simp [gHi]
  | succ f ih =>
   intro n
   unfold gHi
   split
   ·simp
   ·have := ih (n / 128); simp; omega
 unfold oidGroupsC
 have := h 5 (n / 128)
 simp; omega
theorem groups_eq (n : Int) : oidGroups n = oidGroupsC n := shut_eq _
abbrev bO (y : List Int) : Option Out := some (.ret [.cl (.sli .u8 y)] [])
theorem ob_go (r : List Int) (hr : ∀ x ∈ r, 0 <= x /\ x <= 4294967295) (hl : r.length <= 1000) : ∀ (f i : Nat) (l : List Int), i <= r.length -> r.length < f + i -> l.length <= 6 * (i + 1) ->
  lpOBytes_5 (fun _ y => bO y) f l.length r r.length i l = bO (l ++ (r.drop i).flatMap oidGroupsC)
 | 0, i, l, hi, hf, _ => by omega
 | f + 1, i, l, hi, hf, hll => by
  show lpOBytes_5s (lpOBytes_5 (fun _ y => bO y) f) (fun _ y => bO y) l.length r r.length i l = _
  unfold lpOBytes_5s
  refine c_split (fun h => ?_) fun h => ?_
  ·obtain ⟨c, hc⟩ := get_some (b := r) (i := i) (by omega)
   refine getK_in (by omega) hc (b_pos ?_ ?_)
   ·rw [u32Ok_of (hr c (List.mem_of_getElem? hc)), lenOk_of (by omega)]; rfl
   ·have := gr_len c
    dsimp only
    rw [wrap_succ (by omega), groups_eq, drop_cons hc]
    refine (ob_go r hr hl f (i + 1) (l ++ oidGroupsC c) (by omega) (by omega) (by simp; omega)).trans ?_
    simp
  ·rw [drop_nil (by omega)]; simp
theorem fit_head {o : List Int} (h : oidFitC o = true) : ∃ x y r, o = x :: y :: r /\ r.length <= 18 /\ x <= 2 /\ (x < 2 -> y < 40) /\ y <= 4294967215 := by
 match o, h with
 | x :: y :: r, h =>
  simp only [oidFitC, Bool.and_eq_true, Bool.or_eq_true, decide_eq_true_eq] at h
  exact ⟨x, y, r, rfl, h.1, by omega, by omega, by omega⟩
theorem nOBytes (o : List Int) (hp : u32sOk o = true) : gOBytes o = some (.ret [.cl (.sli .u8 (oidBytes o))] []) := by
 obtain ⟨hl, hr⟩ := u32sOk_spec hp
 unfold gOBytes oidBytes oidFit oidBytesC
 simp only [shut_eq]
 cases hf : oidFitC o with
 | false => rfl
 | true =>
  obtain ⟨x, y, r, rfl, hr18, hx, hxy, hy⟩ := fit_head hf
  have rx := hr x (by simp)
  have ry := hr y (by simp)
  rw [if_pos rfl]
  refine b_neg rfl (c_pos (by simp only [List.length_cons]; omega) ?_)
  simp only [List.getElem?_cons_zero, List.getElem?_cons_succ, Option.bind_some]
  rw [show IntKind.u32.wrap (40 * x) = 40 * x from u32_in _ (by omega), show IntKind.u32.wrap (40 * x + y) = 40 * x + y from u32_in _ (by omega)]
  refine c_pos (by simp only [List.length_cons]; omega) (b_pos (u32Ok_of (by omega)) (c_pos (by simp only [List.length_cons]; omega) ?_))
  rw [groups_eq]
  have := gr_len (40 * x + y)
  exact ob_go r (fun z hz => hr z (by simp [hz])) (by omega) FUEL 0 _ (by omega) (by unfold FUEL; omega) (by omega)
end Go.Proofs.YtfkpjbbkdkcdcaaDoorA

namespace Go.Proofs.YtfkpjbbkdkcdcaaDoorA
open IntWalk (i64_in u8_in u32_in u64_in i64_quo u8_quo rem_in)

/-! ### pieces between points -/
/-! ### digits as numbers -/
theorem fit_len {o : List Int} (h : oidFitC o = true) : 2 <= o.length /\ o.length <= 20 := by
 obtain ⟨x, y, r, rfl, h1, _⟩ := fit_head h
 simp; omega
end Go.Proofs.YtfkpjbbkdkcdcaaDoorA

namespace Go.Proofs.YtfkpjbbkdkcdcaaDoorA

abbrev inU (n : Int) : Prop := 0 <= n /\ n <= 4294967295
/-! ### bytes -/
theorem groups_num {n : Int} (h : inU n) (rest : List Int) : oidNumberC (oidGroupsC n ++ rest) = (n, ((oidGroupsC n).length : Int)) := by
 unfold oidNumberC
 have go : ∀ (acc i c : Int) (r : List Int), ¬ (i = 0 /\ c = 128) -> acc <= 33554431 -> 128 <= c -> oidNumG acc i (c :: r) = oidNumG (acc * 128 + (c - 128)) (i + 1) r := fun acc i c r h1 h2 h3 => by
  rw [numG_cons, if_neg (by rintro (h | h); exact h1 h; omega), if_neg (by omega)]
 have fin : ∀ (acc i c : Int) (r : List Int), ¬ (i = 0 /\ c = 128) -> acc <= 33554431 -> c < 128 -> oidNumG acc i (c :: r) = (acc * 128 + c, i + 1) := fun acc i c r h1 h2 h3 => by
  rw [numG_cons, if_neg (by rintro (h | h); exact h1 h; omega), if_pos h3]
 rcases gr_cases h with ⟨h1, h2, h3, h4⟩ | ⟨h1, h2, h3, h4⟩ | ⟨h1, h2, h3, h4⟩ | ⟨h1, h2, h3, h4⟩ | ⟨h1, h2, h3, h4⟩
 ·rw [gr1 h1]
  simp only [List.cons_append, List.nil_append, List.length_cons, List.length_nil]
  rw [fin _ _ _ _ (by omega) (by omega) (by omega)]
  exact Prod.ext (by simp only []; omega) rfl
 ·rw [gr2 h1 h2]
  simp only [List.cons_append, List.nil_append, List.length_cons, List.length_nil]
  rw [go _ _ _ _ (by omega) (by omega) (by omega), fin _ _ _ _ (by omega) (by omega) (by omega)]
  exact Prod.ext (by simp only []; omega) rfl
 ·rw [gr3 h2 h3]
  simp only [List.cons_append, List.nil_append, List.length_cons, List.length_nil]
  rw [go _ _ _ _ (by omega) (by omega) (by omega), go _ _ _ _ (by omega) (by omega) (by omega), fin _ _ _ _ (by omega) (by omega) (by omega)]
  exact Prod.ext (by simp only []; omega) rfl
 ·rw [gr4 h3 h4]
  simp only [List.cons_append, List.nil_append, List.length_cons, List.length_nil]
  rw [go _ _ _ _ (by omega) (by omega) (by omega), go _ _ _ _ (by omega) (by omega) (by omega), go _ _ _ _ (by omega) (by omega) (by omega), fin _ _ _ _ (by omega) (by omega) (by omega)]
  exact Prod.ext (by simp only []; omega) rfl
 ·rw [gr5 h4 h]
  simp only [List.cons_append, List.nil_append, List.length_cons, List.length_nil]
  rw [go _ _ _ _ (by omega) (by omega) (by omega), go _ _ _ _ (by omega) (by omega) (by omega), go _ _ _ _ (by omega) (by omega) (by omega), go _ _ _ _ (by omega) (by omega) (by omega), fin _ _ _ _ (by omega) (by omega) (by omega)]
  exact Prod.ext (by simp only []; omega) rfl
theorem gr_pos (n : Int) : 0 < (oidGroupsC n).length := by unfold oidGroupsC; simp
theorem gr_byte {n : Int} (h : inU n) : ∀ x ∈ oidGroupsC n, 0 <= x /\ x <= 255 := by
 have : ∀ (f : Nat) (n : Int), ∀ x ∈ gHi f n, 0 <= x /\ x <= 255 := fun f => by
  induction f with
  | zero => intro n x hx; simp [gHi] at hx
  | succ f ih =>
   intro n x hx
   unfold gHi at hx
   split at hx
   ·simp at hx
   ·rcases List.mem_append.1 hx with hx | hx
    ·exact ih _ x hx
    ·simp at hx; omega
 intro x hx
 unfold oidGroupsC at hx
 rcases List.mem_append.1 hx with hx | hx
 ·exact this _ _ x hx
 ·simp at hx; omega
theorem nums_groups {n : Int} (h : inU n) (rest : List Int) (hb : bytesOk (oidGroupsC n ++ rest) = true) : oidNumsC (oidGroupsC n ++ rest) = (n, true) :: oidNumsC rest := by
 have hp := gr_pos n
 rw [nums_step hb, if_neg (fun e => by rw [List.append_eq_nil_iff] at e; rw [e.1] at hp; simp at hp), groups_num h]
 simp only []
 rw [if_neg (by omega), int_nat, List.drop_left]
theorem nums_flat : ∀ (l : List Int) (rest : List Int), (∀ n ∈ l, inU n) -> bytesOk (l.flatMap oidGroupsC ++ rest) = true -> oidNumsC (l.flatMap oidGroupsC ++ rest) = l.map (fun n => (n, true)) ++ oidNumsC rest
 | [], rest, _, _ => rfl
 | n :: l, rest, h, hb => by
  rw [List.flatMap_cons, List.append_assoc] at hb ⊢
  rw [nums_groups (h n (by simp)) _ hb, nums_flat l rest (fun x hx => h x (by simp [hx])) (by have := bytesOk_drop hb (oidGroupsC n).length; rwa [List.drop_left] at this)]
  rfl
/-- an identifier's numbers as they stand in its bytes -/
def oflat : List Int -> List Int
 | x :: y :: r => (40 * x + y) :: r
 | _ => []
theorem bytes_oflat {o : List Int} (h : oidFitC o = true) : oidBytesC o = (oflat o).flatMap oidGroupsC := by
 obtain ⟨x, y, r, rfl, _⟩ := fit_head h
 unfold oidBytesC
 rw [if_pos h]
 simp [oflat]
theorem oflat_rng {o : List Int} (h : oidFitC o = true) (hr : ∀ n ∈ o, inU n) : ∀ n ∈ oflat o, inU n := by
 obtain ⟨x, y, r, rfl, h1, h2, h3, h4⟩ := fit_head h
 intro n hn
 have := hr x (by simp)
 have := hr y (by simp)
 rcases List.mem_cons.1 hn with rfl | hn
 ·exact ⟨by omega, by omega⟩
 ·exact hr n (by simp [hn])
theorem oflat_len {o : List Int} (h : oidFitC o = true) : (oflat o).length + 1 = o.length := by
 obtain ⟨x, y, r, rfl, _⟩ := fit_head h; rfl
theorem bytes_ok {o : List Int} (hr : ∀ n ∈ o, inU n) : bytesOk (oidBytesC o) = true := by
 by_cases h : oidFitC o = true
 ·rw [bytes_oflat h]
  have hl := oflat_len h
  have hf := fit_len h
  have hg : ∀ (l : List Int), (l.flatMap oidGroupsC).length <= 6 * l.length := fun l => by
   induction l with
   | nil => simp
   | cons a l ih => have := gr_len a; simp at *; omega
  have := hg (oflat o)
  refine bytesOk_of (by omega) fun x hx => ?_
  obtain ⟨n, hn, hx⟩ := List.mem_flatMap.1 hx
  exact gr_byte (oflat_rng h hr n hn) x hx
 ·unfold oidBytesC
  rw [if_neg h]
  exact bytesOk_of (by simp) (by simp)
theorem go_true : ∀ (l o : List Int), o ≠ [] -> o.length + l.length <= 21 -> oidGo (l.map fun n => (n, true)) o = some (o ++ l)
 | [], o, _, _ => by simp [oidGo]
 | n :: l, o, h, hl => by
  rw [List.map_cons]
  unfold oidGo
  simp only [List.length_cons] at hl
  rw [if_neg (by rintro (h | h); cases h; omega), if_neg h, go_true l (o ++ [n]) (by simp) (by simp; omega)]
  simp
theorem first_oflat {x y : Int} (h : oidFitC [x, y] = true) (hx : inU x) (hy : inU y) : oidFirstC (40 * x + y) = [x, y] := by
 simp only [oidFitC, Bool.and_eq_true, Bool.or_eq_true, decide_eq_true_eq] at h
 unfold oidFirstC
 rcases h.2 with h | h
 ·rw [if_pos (by omega), show (40 * x + y) / 40 = x by omega, show (40 * x + y) % 40 = y by omega]
 ·rw [if_neg (by omega), h.1, show 40 * 2 + y - 80 = y by omega]
theorem parse_bytes {o : List Int} (h : oidFitC o = true) (hr : ∀ n ∈ o, inU n) : oidParseC (oidBytesC o) = (o, 0) := by
 have hok := bytes_ok hr
 have hfl := fit_len h
 rw [bytes_oflat h] at hok ⊢
 have e := nums_flat (oflat o) [] (oflat_rng h hr) (by rwa [List.append_nil])
 rw [List.append_nil] at e
 unfold oidParseC
 rw [e, show oidNumsC [] = [] from rfl, List.append_nil]
 obtain ⟨x, y, r, rfl, h1, h2, h3, h4⟩ := fit_head h
 have hf2 : oidFitC [x, y] = true := by
  simp only [oidFitC, Bool.and_eq_true] at h ⊢
  exact ⟨by simp, h.2⟩
 have : oidGo ((oflat (x :: y :: r)).map fun n => (n, true)) [] = some (x :: y :: r) := by
  show oidGo ((40 * x + y, true) :: r.map fun n => (n, true)) [] = _
  unfold oidGo
  rw [if_neg (by simp), if_pos rfl, first_oflat hf2 (hr x (by simp)) (hr y (by simp)), go_true r [x, y] (by simp) (by simp at *; omega)]
  rfl
 rw [this]
 simp only []
 rw [if_pos h]
theorem gHi_more : ∀ (f : Nat) (n : Int), 0 <= n -> n < 128 ^ f -> gHi f n = gHi (f + 1) n
 | 0, n, h0, h => by
  rw [Int.pow_zero] at h
  have : n = 0 := by omega
  subst this
  rw [gHi_0, gHi_0]
 | f + 1, n, h0, h => by
  by_cases hn : n = 0
  ·subst hn; rw [gHi_0, gHi_0]
  ·rw [gHi_s _ hn, gHi_s _ hn, gHi_more f (n / 128) (by omega) (by rw [Int.pow_succ] at h; generalize (128 : Int) ^ f = X at *; omega)]
theorem num_groups : ∀ (b : List Int) (acc i n k : Int), (∀ x ∈ b, 0 <= x /\ x <= 255) -> 0 <= acc -> 0 <= i -> (i = 0 -> acc = 0) -> (0 < i -> 0 < acc) -> oidNumG acc i b = (n, k) -> k ≠ 0 -> gHi 5 acc ++ b.take (k - i).toNat = oidGroupsC n
 | [], acc, i, n, k, _, _, _, _, _, h, hk => by simp [oidNumG] at h; omega
 | c :: b, acc, i, n, k, hb, h0, hi, h1, h2, h, hk => by
  have hc := hb c (by simp)
  rw [numG_cons] at h
  split at h
  ·simp at h; omega
  ·rename_i hn
   simp only [not_or, not_and] at hn
   split at h
   ·simp only [Prod.mk.injEq] at h
    obtain ⟨rfl, rfl⟩ := h
    unfold oidGroupsC
    rw [show (i + 1 - i).toNat = 1 by omega, show (acc * 128 + c) / 128 = acc by omega, show (acc * 128 + c) % 128 = c by omega]
    rfl
   ·have hrng := numG_rng b (acc * 128 + (c - 128)) (i + 1) (fun x hx => hb x (by simp [hx])) (by omega) (by omega)
    rw [h] at hrng
    have hk2 := hrng.2.resolve_left hk
    simp only at hk2
    have hpos : 0 < acc * 128 + (c - 128) := by
     by_cases hi0 : i = 0
     ·have := hn.1 hi0; omega
     ·have := h2 (by omega); omega
    have := num_groups b (acc * 128 + (c - 128)) (i + 1) n k (fun x hx => hb x (by simp [hx])) (by omega) (by omega) (by omega) (by omega) h hk
    rw [gHi_s 4 (by omega), show (acc * 128 + (c - 128)) / 128 = acc by omega, show 128 + (acc * 128 + (c - 128)) % 128 = c by omega, gHi_more 4 acc h0 (by omega)] at this
    rw [<- this, show (k - i).toNat = (k - (i + 1)).toNat + 1 by omega, List.take_succ_cons]
    simp
theorem nums_back : ∀ (f : Nat) (b : List Int), bytesOk b = true -> b.length <= f -> (∀ p ∈ oidNumsF f b, p.2 = true) -> b = (oidNumsF f b).flatMap fun p => oidGroupsC p.1
 | 0, b, _, h, _ => by
  have : b = [] := List.eq_nil_of_length_eq_zero (by omega)
  subst this; rfl
 | f + 1, b, hb, hl, hall => by
  unfold oidNumsF at hall ⊢
  by_cases he : b = []
  ·subst he; rfl
  ·rw [if_neg he] at hall ⊢
   by_cases h0 : (oidNumberC b).2 = 0
   ·rw [if_pos h0] at hall
    have := hall ((oidNumberC b).1, false) (by simp)
    cases this
   ·rw [if_neg h0] at hall ⊢
    have hr := (number_rng hb).2.resolve_left h0
    have hg := num_groups b 0 0 (oidNumberC b).1 (oidNumberC b).2 (bytesOk_spec hb).2 (by omega) (by omega) (fun _ => rfl) (by omega) rfl h0
    rw [gHi_0, List.nil_append, Int.sub_zero] at hg
    rw [List.flatMap_cons, <- hg, <- nums_back f (b.drop (oidNumberC b).2.toNat) (bytesOk_drop hb _) (by simp only [List.length_drop]; omega) (fun p hp => hall p (by simp [hp]))]
    exact (List.take_append_drop _ _).symm
theorem go_all : ∀ (l : List (Int × Bool)) (o o' : List Int), oidGo l o = some o' -> o ≠ [] -> (∀ p ∈ l, p.2 = true) /\ o' = o ++ l.map (·.1)
 | [], o, o', h, _ => by simp [oidGo] at h; subst h; simp
 | (n, ok) :: l, o, o', h, ho => by
  unfold oidGo at h
  rw [if_neg ho] at h
  split at h
  ·cases h
  ·rename_i hn
   simp only [not_or] at hn
   obtain ⟨h1, h2⟩ := go_all l _ o' h (by simp)
   refine ⟨fun p hp => ?_, by rw [h2]; simp⟩
   rcases List.mem_cons.1 hp with rfl | hp
   ·simpa using hn.1
   ·exact h1 p hp
/-- what is read of bytes: its bytes are these -/
theorem bytes_parse {b : List Int} (hb : bytesOk b = true) : (oidParseC b = ([], 5)) \/ ∃ o, oidParseC b = (o, 0) /\ oidFitC o = true /\ (∀ n ∈ o, inU n) /\ oidBytesC o = b := by
 unfold oidParseC
 cases hg : oidGo (oidNumsC b) [] with
 | none => exact .inl rfl
 | some o =>
  simp only []
  by_cases hf : oidFitC o = true
  ·rw [if_pos hf]
   refine .inr ⟨o, rfl, hf, ?_⟩
   have hback := nums_back b.length b hb (Nat.le_refl _)
   have hrng := nums_rng b.length b hb
   change (∀ p ∈ oidNumsC b, p.2 = true) -> b = (oidNumsC b).flatMap _ at hback
   change ∀ p ∈ oidNumsC b, _ at hrng
   cases hl : oidNumsC b with
   | nil =>
    rw [hl] at hg
    simp [oidGo] at hg
    subst hg
    simp [oidFitC] at hf
   | cons p l =>
    obtain ⟨n, ok⟩ := p
    rw [hl] at hg hback hrng
    unfold oidGo at hg
    split at hg
    ·cases hg
    ·rename_i hn
     rw [if_pos rfl] at hg
     have hne : oidFirstC n ≠ [] := by unfold oidFirstC; split <;> simp
     obtain ⟨h1, rfl⟩ := go_all l _ o hg hne
     have hbk := hback (fun p hp => by
      rcases List.mem_cons.1 hp with rfl | hp
      ·simpa using (not_or.1 hn).1
      ·exact h1 p hp)
     have hn2 := hrng (n, ok) (by simp)
     simp only at hn2
     have hfl : oflat (oidFirstC n ++ l.map (·.1)) = n :: l.map (·.1) := by
      unfold oidFirstC
      split
      ·simp only [List.cons_append, List.nil_append, oflat, List.cons.injEq, and_true]; omega
      ·simp only [List.cons_append, List.nil_append, oflat, List.cons.injEq, and_true]; omega
     have hin : ∀ m ∈ oidFirstC n ++ l.map (·.1), inU m := by
      intro m hm
      rcases List.mem_append.1 hm with hm | hm
      ·unfold oidFirstC at hm
       split at hm
       ·simp at hm; rcases hm with rfl | rfl <;> exact ⟨by omega, by omega⟩
       ·simp at hm; rcases hm with rfl | rfl <;> exact ⟨by omega, by omega⟩
      ·obtain ⟨q, hq, rfl⟩ := List.mem_map.1 hm
       exact hrng q (by simp [hq])
     refine ⟨hin, ?_⟩
     rw [bytes_oflat hf, hfl]
     conv => rhs; rw [hbk]
     simp [List.flatMap_map]
  ·rw [if_neg hf]
   exact .inl rfl

/-! ### texts -/
end Go.Proofs.YtfkpjbbkdkcdcaaDoorA

namespace Go.Proofs.YtfkpjbbkdkcdcaaDoorA
open IntWalk (i64_in u8_in u32_in u64_in i64_quo u8_quo rem_in)

theorem num8_spec {b : List Int} (h : num8 b = true) : b.length <= 8 /\ ∀ x ∈ b, 0 <= x /\ x <= 255 := by
 unfold num8 at h
 rw [shut_eq, Bool.and_eq_true, decide_eq_true_eq, List.all_eq_true] at h
 exact ⟨h.1, fun x hx => byteB_spec (h.2 x hx)⟩
theorem num8_of {b : List Int} (h : b.length <= 8) (h' : ∀ x ∈ b, 0 <= x /\ x <= 255) : num8 b = true := by
 unfold num8
 rw [shut_eq, Bool.and_eq_true, decide_eq_true_eq, List.all_eq_true]
 exact ⟨h, fun x hx => decide_eq_true (h' x hx)⟩
theorem vu64_of {n : Int} (h : 0 <= n /\ n <= 18446744073709551615) : u64Ok n = true := by unfold u64Ok; rw [shut_eq]; exact decide_eq_true h
theorem vu64_spec {n : Int} (h : u64Ok n = true) : 0 <= n /\ n <= 18446744073709551615 := by unfold u64Ok at h; rw [shut_eq] at h; exact of_decide_eq_true h
abbrev vRetN : Int -> Option Out := fun y => some (.ret [.cl (.int .u64 y)] [])
theorem vbnum_lp (b : List Int) (hb : ∀ x ∈ b, 0 <= x /\ x <= 255) (hl : b.length <= 8) : ∀ (f i : Nat) (n : Int), i <= b.length -> b.length < f + i -> 0 <= n -> n < 256 ^ i ->
  lpVBNum_3 vRetN f n b ((b.length : Nat) : Int) i = some (.ret [.cl (.int .u64 ((b.drop i).foldl (fun n x => n * 256 + x) n))] [])
 | 0, i, n, hi, hf, _, _ => by omega
 | f + 1, i, n, hi, hf, h0, h1 => by
  show lpVBNum_3s (lpVBNum_3 vRetN f) vRetN n b _ i = _
  unfold lpVBNum_3s
  refine c_split (fun h => ?_) fun h => ?_
  ·have hh : ((256 : Int) ^ i) = ((256 ^ i : Nat) : Int) := by rw [Int.natCast_pow]; rfl
   have h3 : (256 ^ i : Nat) <= 72057594037927936 := Nat.le_trans (Nat.pow_le_pow_right (by omega) (show i <= 7 by omega)) (by decide)
   have h2 : n < 72057594037927936 := by rw [hh] at h1; generalize 256 ^ i = z at *; omega
   obtain ⟨x, hx⟩ := get_some (b := b) (i := i) (by omega)
   have hxr := hb x (List.mem_of_getElem? hx)
   refine getK_in (by omega) hx ?_
   rw [drop_cons hx, List.foldl_cons]
   dsimp only
   rw [show IntKind.u64.wrap (n * 2 ^ 8) = n * 256 from (u64_in _ (by omega)).trans (by omega), show IntKind.u64.wrap x = x from u64_in _ (by omega), or_add h0 h2 hxr.1 hxr.2, show IntKind.u64.wrap (n * 256 + x) = n * 256 + x from u64_in _ (by omega),
    show IntKind.i64.wrap ((i : Int) + 1) = ((i + 1 : Nat) : Int) from (i64_in _ (by omega)).trans (by omega)]
   exact vbnum_lp b hb hl f (i + 1) _ (by omega) (by omega) (by omega) (by rw [Int.pow_succ]; omega)
  ·rw [drop_nil (by omega)]; rfl
theorem nVBNum (b : List Int) (hp : num8 b = true) : gVBNum b = some (.ret [.cl (.int .u64 (bytesNum b))] []) := by
 obtain ⟨hl, hb⟩ := num8_spec hp
 unfold gVBNum bytesNum
 simp only [shut_eq]
 exact vbnum_lp b hb hl FUEL 0 0 (by omega) (by unfold FUEL; omega) (by omega) (by decide)

/-! ### bytes of a number -/
theorem v_mod (x : Int) : IntKind.u8.wrap x = x % 256 := by simp [IntKind.wrap, IntKind.bits, IntKind.signed]
theorem v_div {n : Int} (h : 0 <= n) (k : Nat) : Int.fdiv n (2 ^ k) = n / 2 ^ k := Int.fdiv_eq_ediv_of_nonneg _ (by have : (0 : Int) < 2 ^ k := Int.pow_pos (by decide); omega)
theorem nVLe (n : Int) (hp : u64Ok n = true) : gVLe n = some (.ret [.ref 0 0 8 true 1] [some ⟨.ints .u8 (vLe n), false⟩]) := by
 have h := (vu64_spec hp).1
 unfold gVLe vLe vLeC
 simp only [shut_eq, v_mod, v_div h]
 simp only [show (2 : Int) ^ 0 = 1 from rfl, show (2 : Int) ^ 8 = 256 from rfl, show (2 : Int) ^ 16 = 65536 from rfl, show (2 : Int) ^ 24 = 16777216 from rfl, show (2 : Int) ^ 32 = 4294967296 from rfl, show (2 : Int) ^ 40 = 1099511627776 from rfl,
  show (2 : Int) ^ 48 = 281474976710656 from rfl, show (2 : Int) ^ 56 = 72057594037927936 from rfl, Int.ediv_one]
theorem nVReverse (l : List Int) (hp : revOk l = true) : gVReverse l = some (.ret [] [some ⟨.ints .u8 (vRev l), false⟩]) := by
 have h : l.length = 8 := by unfold revOk at hp; rw [shut_eq] at hp; exact of_decide_eq_true hp
 match l, h with
 | [a0, a1, a2, a3, a4, a5, a6, a7], _ =>
  unfold vRev
  rw [shut_eq]
  rfl
theorem vLe_len (n : Int) : (vLe n).length = 8 := by unfold vLe; rw [shut_eq]; rfl
theorem nVBe (n : Int) (hp : u64Ok n = true) : gVBe n = some (.ret [.cl (.sli .u8 (vBe n))] []) := by
 unfold gVBe
 refine b_pos hp (b_pos (by unfold revOk; rw [shut_eq]; exact decide_eq_true (vLe_len n)) ?_)
 unfold vBe vRev vLe
 simp only [shut_eq]
/-! ### a number as a value -/
theorem vBe_len (n : Int) : (vBe n).length = 8 := by unfold vBe; rw [shut_eq]; rfl
theorem trim_two (a b : Int) (r : List Int) : trimF (a :: b :: r) = if (a = 0 /\ b < 128) \/ (a = 255 /\ 128 <= b) then trimF (b :: r) else a :: b :: r := by
 conv => lhs; unfold trimF
abbrev vRetI : List Int -> Option Out := fun y => some (.ret [.cl (.agg [.int .i64 2, .sli .u8 y, .slg 3 []])] [])
theorem vint_lp : ∀ (f : Nat) (l : List Int), l.length < f -> lpVInt_2 vRetI f l = vRetI (trimF l)
 | 0, l, h => by omega
 | f + 1, l, h => by
  show lpVInt_2s (lpVInt_2 vRetI f) vRetI l = _
  unfold lpVInt_2s
  match l, h with
  | [], _ => exact c_neg (by simp) rfl
  | [a], _ => exact c_neg (by simp) rfl
  | a :: b :: r, h =>
   have again := vint_lp f (b :: r) (by simp only [List.length_cons] at h ⊢; omega)
   generalize lpVInt_2 vRetI f = ag at again ⊢
   have l1 : (1 : Int) < (((a :: b :: r).length : Nat) : Int) := by simp only [List.length_cons]; omega
   rw [trim_two]
   refine c_pos l1 (c_pos (by omega) ?_)
   show cond (decide (a = 0)) _ _ = _
   refine c_split (fun h0 => c_pos l1 ?_) fun h0 => c_pos (by omega) ?_
   ·show cond (decide (b < 128)) _ _ = _
    refine c_split (fun h1 => c_pos (by omega) ?_) fun h1 => c_pos (by omega) ?_
    ·rw [if_pos (.inl ⟨h0, h1⟩)]; exact again
    ·show cond (decide (a = 255)) _ _ = _
     rw [if_neg (by omega)]
     exact c_neg (by omega) rfl
   ·show cond (decide (a = 255)) _ _ = _
    refine c_split (fun h1 => c_pos l1 ?_) fun h1 => ?_
    ·show cond (decide (128 <= b)) _ _ = _
     refine c_split (fun h2 => c_pos (by omega) ?_) fun h2 => ?_
     ·rw [if_pos (.inr ⟨h1, h2⟩)]; exact again
     ·rw [if_neg (by omega)]
    ·rw [if_neg (by omega)]
theorem v_u64 (n : Int) : IntKind.u64.wrap n = n % 18446744073709551616 := by simp [IntKind.wrap, IntKind.bits, IntKind.signed]
theorem vInt_eq (n : Int) : vInt n = trimF (vBe (n % 18446744073709551616)) := by unfold vInt vIntC vBe; rw [shut_eq, shut_eq]
theorem nVInt (n : Int) (hp : stI64 n = true) : gVInt n = some (.ret [.cl (.agg [.int .i64 2, .sli .u8 (vInt n), .slg 3 noKids])] []) := by
 unfold gVInt
 rw [v_u64]
 refine b_pos (vu64_of (by omega)) ?_
 simp only [shut_eq]
 rw [vInt_eq]
 unfold noKids
 rw [shut_eq]
 exact vint_lp FUEL _ (by rw [vBe_len]; unfold FUEL; omega)
end Go.Proofs.YtfkpjbbkdkcdcaaDoorA

namespace Go.Proofs.YtfkpjbbkdkcdcaaDoorA
open IntWalk (i64_in u8_in u32_in u64_in i64_quo u8_quo rem_in)

/-! ### numbers by twos' complement -/
theorem v_i64 (n : Int) : IntKind.i64.wrap n = if 9223372036854775808 <= n % 18446744073709551616 then n % 18446744073709551616 - 18446744073709551616 else n % 18446744073709551616 := by
 simp [IntKind.wrap, IntKind.bits, IntKind.signed]
theorem num_cons (h : Int) (r : List Int) : bytesNumC (h :: r) = h * 256 ^ r.length + bytesNumC r := by
 unfold bytesNumC
 have key : ∀ (r : List Int) (a : Int), r.foldl (fun n x => n * 256 + x) a = a * 256 ^ r.length + r.foldl (fun n x => n * 256 + x) 0 := by
  intro r
  induction r with
  | nil => intro a; simp
  | cons x r ih =>
   intro a
   rw [List.foldl_cons, List.foldl_cons, show (0 : Int) * 256 + x = x by omega, ih, ih x, List.length_cons, Int.pow_succ]
   generalize (256 : Int) ^ r.length = z
   generalize r.foldl (fun n x => n * 256 + x) 0 = y
   rw [Int.add_mul, Int.mul_assoc, Int.mul_comm 256 z]
   omega
 rw [List.foldl_cons, key]
 simp
/-- a number's bytes: which half it lies in -/
theorem num_half {b : List Int} (hb : ∀ x ∈ b, 0 <= x /\ x <= 255) {L : Nat} (hL : b.length = L + 1) : 0 <= bytesNumC b /\ bytesNumC b < 256 * 256 ^ L /\ (128 <= b.headD 0 ↔ 128 * 256 ^ L <= bytesNumC b) := by
 cases b with
 | nil => simp at hL
 | cons h r =>
  have h1 := hb h (by simp)
  have h2 := bytesNum_rng (b := r) fun x hx => hb x (List.mem_cons_of_mem _ hx)
  have hr : r.length = L := by simpa using hL
  rw [num_cons, hr]
  rw [hr] at h2
  have hp : (0 : Int) < 256 ^ L := Int.pow_pos (by decide)
  simp only [List.headD_cons]
  generalize (256 : Int) ^ L = z at *
  generalize bytesNumC r = y at *
  have m1 : h * z <= 255 * z := Int.mul_le_mul_of_nonneg_right h1.2 (by omega)
  have m0 : 0 <= h * z := Int.mul_nonneg h1.1 (by omega)
  refine ⟨by omega, by omega, fun hh => ?_, fun hh => ?_⟩
  ·have : 128 * z <= h * z := Int.mul_le_mul_of_nonneg_right hh (by omega)
   omega
  ·by_cases hc : 128 <= h
   ·exact hc
   ·have : h * z <= 127 * z := Int.mul_le_mul_of_nonneg_right (by omega) (by omega)
    omega
theorem twos_eq (b : List Int) (hb : ∀ x ∈ b, 0 <= x /\ x <= 255) (hl : b.length <= 8) : Int.fdiv (IntKind.i64.wrap (IntKind.u64.wrap (bytesNumC b * 2 ^ (64 - 8 * b.length)))) (2 ^ (64 - 8 * b.length)) = twosC b := by
 unfold twosC
 by_cases h0 : b = []
 ·subst h0
  simp [bytesNumC, v_u64, v_i64]
 obtain ⟨L, hL⟩ : ∃ L, b.length = L + 1 := ⟨b.length - 1, by have := List.length_pos_iff.2 h0; omega⟩
 obtain ⟨h1, h2, h3⟩ := num_half hb hL
 rw [hL] at hl ⊢
 generalize bytesNumC b = u at *
 have key : ∀ (p q : Int), 0 < p -> p * q = 9223372036854775808 -> u < 2 * q -> (128 <= b.headD 0 ↔ q <= u) -> Int.fdiv (IntKind.i64.wrap (IntKind.u64.wrap (u * p))) p = if 128 <= b.headD 0 then u - 2 * q else u := fun p q hp hpq hu hh => by
  have hm : u * p < 2 * (p * q) := by
   have : u * p < 2 * q * p := Int.mul_lt_mul_of_pos_right hu hp
   rw [Int.mul_assoc, Int.mul_comm q p] at this
   exact this
  have h00 : 0 <= u * p := Int.mul_nonneg h1 (by omega)
  rw [v_u64, Int.emod_eq_of_lt h00 (by omega), v_i64, Int.emod_eq_of_lt h00 (by omega)]
  by_cases hc : q <= u
  ·have hge : p * q <= u * p := by rw [Int.mul_comm p q]; exact Int.mul_le_mul_of_nonneg_right hc (by omega)
   rw [if_pos (by omega), if_pos (hh.2 hc), show u * p - 18446744073709551616 = (u - 2 * q) * p by rw [Int.sub_mul, Int.mul_assoc, Int.mul_comm q p]; omega, Int.fdiv_eq_ediv_of_nonneg _ (by omega), Int.mul_ediv_cancel _ (by omega)]
  ·have hlt : u * p < p * q := by rw [Int.mul_comm p q]; exact Int.mul_lt_mul_of_pos_right (by omega) hp
   rw [if_neg (by omega), if_neg (fun h => hc (hh.1 h)), Int.fdiv_eq_ediv_of_nonneg _ (by omega), Int.mul_ediv_cancel _ (by omega)]
 have hLe : L = 0 \/ L = 1 \/ L = 2 \/ L = 3 \/ L = 4 \/ L = 5 \/ L = 6 \/ L = 7 := by omega
 rcases hLe with rfl | rfl | rfl | rfl | rfl | rfl | rfl | rfl
 ·exact key 72057594037927936 128 (by decide) (by decide) (by omega) (by omega)
 ·exact key 281474976710656 32768 (by decide) (by decide) (by omega) (by omega)
 ·exact key 1099511627776 8388608 (by decide) (by decide) (by omega) (by omega)
 ·exact key 4294967296 2147483648 (by decide) (by decide) (by omega) (by omega)
 ·exact key 16777216 549755813888 (by decide) (by decide) (by omega) (by omega)
 ·exact key 65536 140737488355328 (by decide) (by decide) (by omega) (by omega)
 ·exact key 256 36028797018963968 (by decide) (by decide) (by omega) (by omega)
 ·exact key 1 9223372036854775808 (by decide) (by decide) (by omega) (by omega)
theorem ret_two {a b c d : Int} (h1 : a = c) (h2 : b = d) : some (Out.ret [.cl (.int .i64 a), .cl (.int .i64 b)] []) = some (Out.ret [.cl (.int .i64 c), .cl (.int .i64 d)] []) := by rw [h1, h2]
theorem nVNumber (b : List Int) (hp : bytesOk b = true) : gVNumber b = some (.ret [.cl (.int .i64 (vNumber b).1), .cl (.int .i64 (vNumber b).2)] []) := by
 obtain ⟨hlen, hb⟩ := bytesOk_spec hp
 unfold gVNumber vNumber vNumberC
 rw [shut_eq]
 refine c_split (fun h => ?_) fun h => ?_
 ·rw [if_pos (by omega)]
 ·rw [if_neg (by omega)]
  have e1 : IntKind.i64.wrap ((8 : Int) * ((b.length : Nat) : Int)) = ((8 * b.length : Nat) : Int) := (i64_in _ (by omega)).trans (by omega)
  have e2 : IntKind.i64.wrap ((64 : Int) - ((8 * b.length : Nat) : Int)) = ((64 - 8 * b.length : Nat) : Int) := (i64_in _ (by omega)).trans (by omega)
  dsimp only
  rw [e1, e2]
  refine b_pos (num8_of (by omega) hb) (c_neg (by omega) (c_neg (by omega) (ret_two ?_ rfl)))
  rw [show min ((64 - 8 * b.length : Nat) : Int).toNat 64 = 64 - 8 * b.length by omega]
  unfold bytesNum
  rw [shut_eq]
  exact twos_eq b hb (by omega)
end Go.Proofs.YtfkpjbbkdkcdcaaDoorA

namespace Go.Proofs.YtfkpjbbkdkcdcaaDoorA
open IntWalk (i64_in u8_in u32_in u64_in i64_quo u8_quo rem_in)

theorem leaf_tf {g : Int} {b : List Int} (hb : ∀ x ∈ b, 0 <= x /\ x <= 255) : isTf 1 [.int .i64 g, .sli .u8 b, .slg 3 []] = true := by
 show (b.all byteB && true) = true
 rw [Bool.and_true, List.all_eq_true]
 exact fun x hx => decide_eq_true (hb x hx)
theorem leaf_isS {g : Int} {b : List Int} (hb : ∀ x ∈ b, 0 <= x /\ x <= 255) (hl : b.length <= 29999) : isS [.int .i64 g, .sli .u8 b, .slg 3 []] = true :=
 isS_of (leaf_tf hb) (by unfold bulkF; simp; omega)
theorem leaf_fit {g : Int} {b : List Int} (hb : ∀ x ∈ b, 0 <= x /\ x <= 255) (hg : derBoxedC g = false) : ndFit [.int .i64 g, .sli .u8 b, .slg 3 []] = (derKnownC g && derFitsC g b) := by
 rw [ndFit_eq (leaf_tf hb)]
 unfold okF bytesF
 simp [hg]
theorem isS_bytes {t : Int} {b : List Int} {k : List CV} (h : isS [.int .i64 t, .sli .u8 b, .slg 3 k] = true) : b.length <= 29999 /\ ∀ x ∈ b, 0 <= x /\ x <= 255 := by
 obtain ⟨n, hn, hB⟩ := isS_spec h
 obtain ⟨m, t', b', l', rfl, e, hb, _⟩ := tf_inv hn
 cases e
 refine ⟨?_, hb⟩
 change 1 + b.length + _ <= 30000 at hB
 omega
theorem isS_bok {t : Int} {b : List Int} {k : List CV} (h : isS [.int .i64 t, .sli .u8 b, .slg 3 k] = true) : bytesOk b = true := bytesOk_of (by have := (isS_bytes h).1; omega) (isS_bytes h).2
theorem vErr_bad {g t : Int} {b : List Int} {k : List CV} (h : t = g) (hk : k.length = 0) (hd : derFitsC g b = false) : vErrC g t b k = 5 := by unfold vErrC; rw [if_neg (by simp [h]), if_pos (.inr hd)]
theorem vErr_ok {g t : Int} {b : List Int} {k : List CV} (h : t = g) (hk : k.length = 0) (hd : derFitsC g b = true) : vErrC g t b k = 0 := by unfold vErrC; rw [if_neg (by simp [h]), if_neg (by simp [hk, hd])]
theorem vErr_tag {g t : Int} {b : List Int} {k : List CV} (h : ¬t = g) : vErrC g t b k = 4 := by unfold vErrC; rw [if_pos h]
theorem vErr_kids {g t : Int} {b : List Int} {k : List CV} (h : t = g) (hk : 0 < k.length) : vErrC g t b k = 5 := by unfold vErrC; rw [if_neg (by simp [h]), if_pos (.inl (by omega))]
theorem vErr_inv {g t : Int} {b : List Int} {k : List CV} (h : vErrC g t b k = 0) : t = g /\ k.length = 0 /\ derFitsC g b = true := by
 unfold vErrC at h
 split at h
 ·omega
 ·split at h
  ·omega
  ·rename_i h1 h2
   refine ⟨by omega, by omega, ?_⟩
   cases hd : derFitsC g b with
   | true => rfl
   | false => exact absurd (.inr hd) h2
theorem told_eq {g t : Int} {b : List Int} {k : List CV} {bad : Int -> Option Out} {good : Option Out} (hS : isS [.int .i64 t, .sli .u8 b, .slg 3 k] = true) (hk : derKnownC g = true) (hb : derBoxedC g = false) :
  cond (!decide (t = g)) (bad 4) (cond (decide ((0 : Int) < ((k.length : Nat) : Int))) (bad 5) (cond (isS [.int .i64 g, .sli .u8 b, .slg 3 []]) (cond (!(ndFit [.int .i64 g, .sli .u8 b, .slg 3 []])) (bad 5) good) none)) = if vErrC g t b k = 0 then good else bad (vErrC g t b k) := by
 obtain ⟨h1, h2⟩ := isS_bytes hS
 refine c_nsplit (fun h => ?_) fun h => c_split (fun h' => ?_) fun h' => b_pos (leaf_isS h2 h1) ?_
 ·rw [vErr_tag h]; rfl
 ·rw [vErr_kids h (by omega)]; rfl
 ·rw [leaf_fit h2 hb, hk, Bool.true_and]
  cases hd : derFitsC g b with
  | false => rw [vErr_bad h (by omega) hd]; rfl
  | true => rw [vErr_ok h (by omega) hd]; rfl
theorem nVTime1 (b : List Int) (hp : true = true) : gVTime1 b = some (.ret [.cl (.int .i64 (stRead (strOf b)).1), .cl (.int .i64 (stRead (strOf b)).2)] []) := rfl
theorem nVToldI_0 (t : Int) (b : List Int) (k : List CV) (hp : isS [.int .i64 t, .sli .u8 b, .slg 3 k] = true) : gVToldI_0 t b k = some (.ret [.cl (.int .i64 (vIntOf t b k).1), .cl (.int .i64 (vIntOf t b k).2)] []) := by
 unfold gVToldI_0
 dsimp only
 refine (told_eq (bad := fun e => some (.ret [.cl (.int .i64 0), .cl (.int .i64 e)] [])) hp rfl rfl).trans ?_
 unfold vIntOf
 rw [shut_eq]
 by_cases h : vErrC 2 t b k = 0
 ·rw [if_pos h, if_pos h]
  refine b_pos (isS_bok hp) ?_
  unfold vNumber
  rw [shut_eq]
 ·rw [if_neg h, if_neg h]
theorem nVToldI_1 (t : Int) (b : List Int) (k : List CV) (hp : isS [.int .i64 t, .sli .u8 b, .slg 3 k] = true) : gVToldI_1 t b k = some (.ret [.cl (.int .i64 (vTimeOf t b k).1), .cl (.int .i64 (vTimeOf t b k).2)] []) := by
 unfold gVToldI_1
 dsimp only
 refine (told_eq (bad := fun e => some (.ret [.cl (.int .i64 0), .cl (.int .i64 e)] [])) hp rfl rfl).trans ?_
 unfold vTimeOf
 rw [shut_eq]
 by_cases h : vErrC 24 t b k = 0
 ·rw [if_pos h, if_pos h]
 ·rw [if_neg h, if_neg h]
theorem nVToldO (t : Int) (b : List Int) (k : List CV) (hp : isS [.int .i64 t, .sli .u8 b, .slg 3 k] = true) : gVToldO t b k = some (.ret [.cl (.sli .u32 (vIdOf t b k).1), .cl (.int .i64 (vIdOf t b k).2)] []) := by
 unfold gVToldO
 dsimp only
 refine (told_eq (bad := fun e => some (.ret [.cl (.sli .u32 []), .cl (.int .i64 e)] [])) hp rfl rfl).trans ?_
 unfold vIdOf
 rw [shut_eq]
 by_cases h : vErrC 6 t b k = 0
 ·rw [if_pos h, if_pos h]; exact b_pos (isS_bok hp) rfl
 ·rw [if_neg h, if_neg h]
theorem nVIntOf (t : Int) (b : List Int) (k : List CV) (hp : isS [.int .i64 t, .sli .u8 b, .slg 3 k] = true) : gVIntOf t b k = some (.ret [.cl (.int .i64 (vIntOf t b k).1), .cl (.int .i64 (vIntOf t b k).2)] []) := b_pos hp rfl
theorem nVIdOf (t : Int) (b : List Int) (k : List CV) (hp : isS [.int .i64 t, .sli .u8 b, .slg 3 k] = true) : gVIdOf t b k = some (.ret [.cl (.sli .u32 (vIdOf t b k).1), .cl (.int .i64 (vIdOf t b k).2)] []) := b_pos hp rfl
theorem fits4 (b : List Int) : derFitsC 4 b = true := rfl
theorem nVBytesOf (t : Int) (b : List Int) (k : List CV) (hp : isS [.int .i64 t, .sli .u8 b, .slg 3 k] = true) : gVBytesOf t b k = some (.ret [.cl (.sli .u8 (vBytesOf t b k).1), .cl (.int .i64 (vBytesOf t b k).2)] []) := by
 unfold gVBytesOf vBytesOf
 rw [shut_eq]
 refine c_nsplit (fun h => ?_) fun h => c_split (fun h' => ?_) fun h' => b_pos (lenOk_of (by have := (isS_bytes hp).1; omega)) ?_
 ·rw [vErr_tag h]; rfl
 ·rw [vErr_kids h (by omega)]; rfl
 ·rw [vErr_ok h (by omega) (fits4 b)]; rfl
end Go.Proofs.YtfkpjbbkdkcdcaaDoorA

namespace Go.Proofs.YtfkpjbbkdkcdcaaDoorA
open IntWalk (i64_in u8_in u32_in u64_in i64_quo u8_quo rem_in)

end Go.Proofs.YtfkpjbbkdkcdcaaDoorA

namespace Go.Proofs.YtfkpjbbkdkcdcaaDoorA
open IntWalk (i64_in u8_in u32_in u64_in i64_quo u8_quo rem_in)

abbrev W3 (c : CV) : Prop := ∃ t b k, c = .agg [.int .i64 t, .sli .u8 b, .slg 3 k] /\ isS [.int .i64 t, .sli .u8 b, .slg 3 k] = true
end Go.Proofs.YtfkpjbbkdkcdcaaDoorA

namespace Go.Proofs.YtfkpjbbkdkcdcaaDoorA
open IntWalk (i64_in u8_in u32_in u64_in i64_quo u8_quo rem_in)

theorem noKids_eq : noKids = [] := shut_eq _
theorem same_refl (l : List Int) : listSame l l = true := by unfold listSame listSameC; rw [shut_eq]; exact decide_eq_true rfl
end Go.Proofs.YtfkpjbbkdkcdcaaDoorA

namespace Go.Proofs.YtfkpjbbkdkcdcaaDoorA
open IntWalk (i64_in u8_in u32_in u64_in i64_quo u8_quo rem_in)

theorem madeOk_spec {g : Int} {b : List Int} (h : madeOk g b = true) : (g = 12 \/ g = 6 \/ g = 24) /\ b.length <= 2000 /\ ∀ x ∈ b, 0 <= x /\ x <= 255 := by
 unfold madeOk at h
 rw [shut_eq, Bool.and_eq_true, decide_eq_true_eq, List.all_eq_true] at h
 exact ⟨h.1.1, h.1.2, fun x hx => byteB_spec (h.2 x hx)⟩
theorem madeOk_of {g : Int} {b : List Int} (h : g = 12 \/ g = 6 \/ g = 24) (h' : b.length <= 2000) (hb : ∀ x ∈ b, 0 <= x /\ x <= 255) : madeOk g b = true := by
 unfold madeOk
 rw [shut_eq, Bool.and_eq_true, decide_eq_true_eq, List.all_eq_true]
 exact ⟨⟨h, h'⟩, fun x hx => decide_eq_true (hb x hx)⟩
theorem vMade_ok {g : Int} {b : List Int} (h : derFitsC g b = true) : vMade g b = (g, b, 0) := by unfold vMade vMadeC; rw [shut_eq, if_pos h]
theorem vMade_no {g : Int} {b : List Int} (h : derFitsC g b = false) : vMade g b = (0, [], 5) := by unfold vMade vMadeC; rw [shut_eq, if_neg (by rw [h]; simp)]
theorem nVMade (g : Int) (b : List Int) (hp : madeOk g b = true) : gVMade g b = some (.ret [.cl (.agg [.int .i64 (vMade g b).1, .sli .u8 (vMade g b).2.1, .slg 3 noKids]), .cl (.int .i64 (vMade g b).2.2)] []) := by
 obtain ⟨hg, hl, hb⟩ := madeOk_spec hp
 have hk : derKnownC g = true /\ derBoxedC g = false := by rcases hg with rfl | rfl | rfl <;> exact ⟨rfl, rfl⟩
 unfold gVMade
 refine b_pos (leaf_isS hb (by omega)) ?_
 rw [leaf_fit hb hk.2, hk.1, Bool.true_and, noKids_eq]
 cases hd : derFitsC g b with
 | false => rw [vMade_no hd]; rfl
 | true => rw [vMade_ok hd]; rfl
theorem idOk_spec {o : List Int} (h : idOk o = true) : o.length <= 50 /\ ∀ n ∈ o, inU n := by
 unfold idOk at h
 rw [shut_eq, Bool.and_eq_true, decide_eq_true_eq, List.all_eq_true] at h
 exact ⟨h.1, fun x hx => of_decide_eq_true (h.2 x hx)⟩
theorem idOk_of {o : List Int} (h : o.length <= 50) (h' : ∀ n ∈ o, inU n) : idOk o = true := by
 unfold idOk
 rw [shut_eq, Bool.and_eq_true, decide_eq_true_eq, List.all_eq_true]
 exact ⟨h, fun x hx => decide_eq_true (h' x hx)⟩
theorem id_u32 {o : List Int} (h : idOk o = true) : u32sOk o = true := by
 obtain ⟨h1, h2⟩ := idOk_spec h
 unfold u32sOk
 rw [shut_eq, Bool.and_eq_true, decide_eq_true_eq, List.all_eq_true]
 exact ⟨by omega, fun x hx => decide_eq_true (h2 x hx)⟩
theorem fit_lenV {o : List Int} (h : oidFitC o = true) : 2 <= o.length /\ o.length <= 20 := by
 unfold oidFitC at h
 split at h
 ·simp at h
  simp
  omega
 ·cases h
theorem oid_bytes {o : List Int} (hr : ∀ n ∈ o, inU n) : (oidBytes o).length <= 2000 /\ ∀ x ∈ oidBytes o, 0 <= x /\ x <= 255 := by
 rw [show oidBytes o = oidBytesC o from shut_eq _]
 by_cases h : oidFitC o = true
 ·rw [bytes_oflat h]
  have hl := oflat_len h
  have hf := fit_lenV h
  have hg : ∀ (l : List Int), (l.flatMap oidGroupsC).length <= 6 * l.length := fun l => by
   induction l with
   | nil => simp
   | cons a l ih => have := gr_len a; simp at *; omega
  have := hg (oflat o)
  refine ⟨by omega, fun x hx => ?_⟩
  obtain ⟨n, hn, hx⟩ := List.mem_flatMap.1 hx
  exact gr_byte (oflat_rng h hr n hn) x hx
 ·unfold oidBytesC
  rw [if_neg h]
  exact ⟨by simp, by simp⟩
theorem id_made {o : List Int} (h : idOk o = true) : madeOk 6 (oidBytes o) = true :=
 let ⟨h1, h2⟩ := oid_bytes (idOk_spec h).2
 madeOk_of (.inr (.inl rfl)) h1 h2
theorem nVId (o : List Int) (hp : idOk o = true) : gVId o = some (.ret [.cl (.agg [.int .i64 (vMade 6 (oidBytes o)).1, .sli .u8 (vMade 6 (oidBytes o)).2.1, .slg 3 noKids]), .cl (.int .i64 (vMade 6 (oidBytes o)).2.2)] []) := b_pos (id_u32 hp) (b_pos (id_made hp) rfl)
theorem nVBytes (b : List Int) (hp : lenOk b = true) : gVBytes b = some (.ret [.cl (.agg [.int .i64 4, .sli .u8 b, .slg 3 noKids])] []) := by rw [noKids_eq]; exact b_pos hp rfl
theorem ndSame_refl (a : List CV) : ndSame a a = true := by
 unfold ndSame
 rw [shut_eq]
 exact @decide_eq_true _ (Classical.propDecidable _) rfl
theorem trim_facts : ∀ (l : List Int), (trimF l).length <= l.length /\ ∀ x ∈ trimF l, x ∈ l
 | [] => ⟨Nat.le_refl _, fun x h => h⟩
 | [a] => ⟨Nat.le_refl _, fun x h => h⟩
 | a :: b :: r => by
  unfold trimF
  split
  ·obtain ⟨h1, h2⟩ := trim_facts (b :: r)
   exact ⟨by simp only [List.length_cons] at *; omega, fun x hx => List.mem_cons_of_mem _ (h2 x hx)⟩
  ·exact ⟨Nat.le_refl _, fun x h => h⟩
theorem int_facts (n : Int) : (vInt n).length <= 8 /\ ∀ x ∈ vInt n, 0 <= x /\ x <= 255 := by
 unfold vInt vIntC
 rw [shut_eq]
 obtain ⟨h1, h2⟩ := trim_facts (vLeC (n % 18446744073709551616)).reverse
 refine ⟨by rw [List.length_reverse] at h1; exact h1, fun x hx => ?_⟩
 have := List.mem_reverse.1 (h2 x hx)
 unfold vLeC at this
 simp only [List.mem_cons, List.mem_nil_iff, or_false] at this
 omega
theorem same_node {a : List CV} {k z : Option Out} (h : isN a = true) : cond (isN a && isN a) (cond (ndSame a a) k z) none = k := by rw [h, ndSame_refl]; rfl
end Go.Proofs.YtfkpjbbkdkcdcaaDoorA

namespace Go.Proofs.YtfkpjbbkdkcdcaaDoorA
open IntWalk (i64_in u8_in u32_in u64_in i64_quo u8_quo rem_in)

theorem lenOkC_spec {l : List CV} (h : lenOkC l = true) : l.length <= 100000000 := by unfold lenOkC at h; rw [shut_eq] at h; exact of_decide_eq_true h
theorem lenOkC_of {l : List CV} (h : l.length <= 100000000) : lenOkC l = true := by unfold lenOkC; rw [shut_eq]; exact decide_eq_true h
theorem noInts_eq : noInts = [] := shut_eq _
theorem nVClone (l : List CV) (hp : lenOkC l = true) : gVClone l = some (.ret [.cl (.slg 3 l)] []) := by
 have hp := lenOkC_spec hp
 unfold gVClone
 simp only [List.nil_append]
 refine b_split (fun h => ?_) fun h => ?_
 ·have h := List.eq_nil_of_length_eq_zero (beq_iff.1 h)
  subst h
  unfold bothK
  rw [if_pos (Eq.symm (rmK_in (by simp) (by simp) rfl))]
 ·exact rmK_in (by omega) (by omega) rfl
theorem nVSeq (l : List CV) (hp : lenOkC l = true) : gVSeq l = some (.ret [.cl (.agg [.int .i64 48, .sli .u8 noInts, .slg 3 l])] []) := by rw [noInts_eq]; exact b_pos hp rfl
theorem vKids_tag {g t : Int} {b : List Int} {k : List CV} (h : ¬t = g) : vKids g t b k = ([], 4) := by unfold vKids vKidsC; rw [shut_eq, if_pos (.inl h)]
theorem vKids_box {g t : Int} {b : List Int} {k : List CV} (h : derBoxedC g = false) : vKids g t b k = ([], 4) := by unfold vKids vKidsC; rw [shut_eq, if_pos (.inr h)]
theorem vKids_b {g t : Int} {b : List Int} {k : List CV} (h : t = g) (hb : derBoxedC g = true) (hl : b.length ≠ 0) : vKids g t b k = ([], 5) := by
 unfold vKids vKidsC; rw [shut_eq, if_neg (by rw [hb]; rintro (e | e); exact e h; cases e), if_pos hl]
theorem vKids_k {g t : Int} {b : List Int} {k : List CV} (h : t = g) (hb : derBoxedC g = true) (hl : ¬b.length ≠ 0) : vKids g t b k = (k, 0) := by
 unfold vKids vKidsC; rw [shut_eq, if_neg (by rw [hb]; rintro (e | e); exact e h; cases e), if_neg hl]
theorem kids_eq {g t : Int} {b : List Int} {k : List CV} {bad : Int -> Option Out} {good : Option Out} :
  cond (!decide (t = g)) (bad 4) (cond (!derBoxed g) (bad 4) (cond (decide ((0 : Int) < ((b.length : Nat) : Int))) (bad 5) good)) = if (vKids g t b k).2 = 0 then good else bad (vKids g t b k).2 := by
 unfold derBoxed
 rw [shut_eq]
 refine c_nsplit (fun h => ?_) fun h => ?_
 ·rw [vKids_tag h]; rfl
 ·cases hb : derBoxedC g with
  | false => rw [vKids_box hb]; rfl
  | true =>
   refine (c_split (fun h' => ?_) fun h' => ?_ : cond (decide ((0 : Int) < ((b.length : Nat) : Int))) (bad 5) good = _)
   ·rw [vKids_b h hb (by omega)]; rfl
   ·rw [vKids_k h hb (by omega)]; rfl
theorem vKids_ok {g t : Int} {b : List Int} {k : List CV} (h : (vKids g t b k).2 = 0) : (vKids g t b k).1 = k := by
 unfold vKids vKidsC at h ⊢
 simp only [shut_eq] at h ⊢
 split at h
 ·simp at h
 ·split at h
  ·simp at h
  ·rename_i h1 h2; rw [if_neg h1, if_neg h2]
theorem vKids_no {g t : Int} {b : List Int} {k : List CV} (h : ¬(vKids g t b k).2 = 0) : (vKids g t b k).1 = [] := by
 unfold vKids vKidsC at h ⊢
 simp only [shut_eq] at h ⊢
 split
 ·rfl
 ·split
  ·rfl
  ·rename_i h1 h2; rw [if_neg h1, if_neg h2] at h; simp at h
theorem nVKids (t : Int) (b : List Int) (k : List CV) (g : Int) (hp : lenOkC k = true) : gVKids t b k g = some (.ret [.cl (.slg 3 (vKids g t b k).1), .cl (.int .i64 (vKids g t b k).2)] []) := by
 unfold gVKids
 refine (kids_eq (k := k) (bad := fun e => some (.ret [.cl (.slg 3 []), .cl (.int .i64 e)] []))).trans ?_
 by_cases h : (vKids g t b k).2 = 0
 ·rw [if_pos h, vKids_ok h, h]; exact b_pos hp rfl
 ·rw [if_neg h, vKids_no h]
end Go.Proofs.YtfkpjbbkdkcdcaaDoorA

namespace Go.Proofs.YtfkpjbbkdkcdcaaDoorA
open IntWalk (i64_in u8_in u32_in u64_in i64_quo u8_quo rem_in)

theorem cmp_eq : ∀ (a b : List Int), listCmpC a b <= 0 -> listCmpC b a <= 0 -> a = b
 | [], [], _, _ => rfl
 | [], y :: b, _, h => by simp [listCmpC] at h
 | x :: a, [], h, _ => by simp [listCmpC] at h
 | x :: a, y :: b, h1, h2 => by
  unfold listCmpC at h1 h2
  have hxy : ¬ y < x := fun e => by rw [if_neg (by omega), if_pos e] at h1; omega
  have hyx : ¬ x < y := fun e => by rw [if_neg (by omega), if_pos e] at h2; omega
  obtain rfl : x = y := by omega
  simp only [Int.lt_irrefl, if_false] at h1 h2
  rw [cmp_eq a b h1 h2]
/-! ### the document's set -/
end Go.Proofs.YtfkpjbbkdkcdcaaDoorA

namespace Go.Proofs.YtfkpjbbkdkcdcaaDoorA
open IntWalk (i64_in u8_in u32_in u64_in i64_quo u8_quo rem_in)

theorem kids_isN {t : Int} {b : List Int} {k : List CV} (h : isN [.int .i64 t, .sli .u8 b, .slg 3 k] = true) : k.length <= 100000000 /\ ∀ c ∈ k, ∃ y, c = .agg y /\ isN y = true := by
 obtain ⟨n, hn⟩ := isN_spec h
 obtain ⟨_, _, _, _, _, e, h1, h2, h3⟩ := nd_inv hn
 cases e
 exact ⟨h2, fun c hc => by obtain ⟨y, e, hy⟩ := h3 c hc; exact ⟨y, e, isN_of hy⟩⟩
end Go.Proofs.YtfkpjbbkdkcdcaaDoorA
