/-
 What the layers below come to (their lemmas, as far as this seat needs them). Conditions: each function's own.
-/
import Derived.Test.YtfkpjbbkdkcdcaaDoorT2a
import Derived.Test.YtfkpjbbkdkcdcaaDoorT2b
import Derived.Test.YtfkpjbbkdkcdcaaDoorT2c
import Derived.Test.YtfkpjbbkdkcdcaaDoorT2d
import Derived.Test.YtfkpjbbkdkcdcaaDoorT3a
import Derived.IntWalk
set_option linter.unusedVariables false
set_option linter.unusedSimpArgs false
set_option maxRecDepth 100000
namespace Go.Proofs.YtfkpjbbkdkcdcaaDoorA
open IntWalk (i64_in u8_in u32_in u64_in i64_quo u8_quo rem_in)

theorem leftOk_spec {n : Int} (h : leftOk n = true) : 0 <= n /\ n <= 30000 := by
 unfold leftOk at h; rw [qac] at h; exact of_decide_eq_true h
theorem leftOk_of {n : Int} (h : 0 <= n /\ n <= 30000) : leftOk n = true := by
 unfold leftOk; rw [qac]; exact decide_eq_true h
theorem kids_le {f : List CV -> Int -> Int} : ∀ {l : List CV}, (∀ c ∈ l, ∀ x, f (cell1 c) x <= x - 1) -> ∀ x, kidsOf f l x <= x
 | [], _, x => Int.le_refl _
 | c :: r, h, x => by
  simp only [kidsOf]
  split
  ·exact Int.le_refl _
  ·have h1 := h c (List.mem_cons_self ..) x
   have h2 := kids_le (l := r) (fun c' hc => h c' (List.mem_cons_of_mem _ hc)) (f (cell1 c) x)
   omega
theorem small_le : ∀ {n : Nat} {x : List CV}, isTf n x = true -> ∀ z, smallF n x z <= z - 1
 | n, x, hn, z => by
  obtain ⟨n', t, b, l, rfl, rfl, _, hl⟩ := tf_inv hn
  show kidsOf (smallF n') l (z - 1 - min (b.length : Int) 1048576) <= z - 1
  have := kids_le (f := smallF n') (l := l) (fun c hc x => by
   obtain ⟨y, rfl, hy⟩ := hl c hc
   exact small_le hy x) (z - 1 - min (b.length : Int) 1048576)
  omega
theorem kids_bulk {f : List CV -> Int -> Int} {g : CV -> Nat} : ∀ {l : List CV}, (∀ c ∈ l, ∀ x, x <= 30000 -> 0 <= f (cell1 c) x -> (g c : Int) = x - f (cell1 c) x) -> (∀ c ∈ l, ∀ x, f (cell1 c) x <= x - 1) -> ∀ x, x <= 30000 -> 0 <= kidsOf f l x -> 0 <= x /\ ((l.map g).sum : Nat) = x - kidsOf f l x
 | [], _, _, x, _, h => ⟨h, by simp [kidsOf]⟩
 | c :: r, h, hle, x, hx, h0 => by
  simp only [kidsOf] at h0 ⊢
  split at h0
  ·omega
  ·rename_i hx0
   rw [if_neg hx0]
   have h1 := hle c (List.mem_cons_self ..) x
   have ih := kids_bulk (l := r) (fun c' hc => h c' (List.mem_cons_of_mem _ hc)) (fun c' hc => hle c' (List.mem_cons_of_mem _ hc)) (f (cell1 c) x) (by omega) h0
   have h2 := h c (List.mem_cons_self ..) x hx ih.1
   refine ⟨by omega, ?_⟩
   rw [List.map_cons, List.sum_cons]
   omega
theorem small_bulk : ∀ {n : Nat} {x : List CV}, isTf n x = true -> ∀ z, z <= 30000 -> 0 <= smallF n x z -> (bulkF n x : Int) = z - smallF n x z
 | n, x, hn, z, hz, h0 => by
  obtain ⟨n', t, b, l, rfl, rfl, _, hl⟩ := tf_inv hn
  have h0 : 0 <= kidsOf (smallF n') l (z - 1 - min (b.length : Int) 1048576) := h0
  have hk := kids_bulk (f := smallF n') (g := fun c => bulkF n' (cell1 c)) (l := l) (fun c hc x hx h => by
   obtain ⟨y, rfl, hy⟩ := hl c hc
   exact small_bulk hy x hx h) (fun c hc x => by
   obtain ⟨y, rfl, hy⟩ := hl c hc
   exact small_le hy x) _ (by omega) h0
  show ((1 + b.length + (l.map fun c => bulkF n' (cell1 c)).sum : Nat) : Int) = z - kidsOf (smallF n') l (z - 1 - min (b.length : Int) 1048576)
  omega
theorem bulk_pos {n : Nat} {x : List CV} (hn : isTf n x = true) : 1 <= bulkF n x := by
 obtain ⟨n', t, b, l, rfl, rfl, _, hl⟩ := tf_inv hn
 show 1 <= 1 + b.length + _
 omega
theorem sum_mem {g : CV -> Nat} : ∀ {l : List CV} {c : CV}, c ∈ l -> g c <= (l.map g).sum
 | a :: r, c, h => by
  rw [List.map_cons, List.sum_cons]
  rcases List.mem_cons.1 h with rfl | h
  ·omega
  ·have := sum_mem (g := g) h; omega
theorem sum_len {g : CV -> Nat} : ∀ {l : List CV}, (∀ c ∈ l, 1 <= g c) -> l.length <= (l.map g).sum
 | [], _ => by simp
 | a :: r, h => by
  rw [List.map_cons, List.sum_cons, List.length_cons]
  have := sum_len (g := g) (l := r) fun c hc => h c (List.mem_cons_of_mem _ hc)
  have := h a (List.mem_cons_self ..)
  omega
/-- a small value's parts -/
theorem tf_parts {n : Nat} {t : Int} {b : List Int} {l : List CV} (h : isTf (n + 1) [.int .i64 t, .sli .u8 b, .slg 3 l] = true) {B : Nat} (hb : bulkF (n + 1) [.int .i64 t, .sli .u8 b, .slg 3 l] <= B) :
  b.length + 1 <= B /\ l.length + 1 <= B /\ (∀ z ∈ b, 0 <= z /\ z <= 255) /\ (∀ c ∈ l, ∃ y, c = .agg y /\ isTf n y = true /\ bulkF n y + 1 <= B) /\ 1 + b.length + (l.map fun c => bulkF n (cell1 c)).sum <= B := by
 obtain ⟨n', t', b', l', hn, he, h1, h2⟩ := tf_inv h
 obtain rfl : n = n' := by omega
 simp only [List.cons.injEq, CV.int.injEq, CV.sli.injEq, CV.slg.injEq, true_and, and_true] at he
 obtain ⟨rfl, rfl, rfl⟩ := he
 have hb : 1 + b.length + (l.map fun c => bulkF n (cell1 c)).sum <= B := hb
 have hs := sum_len (g := fun c => bulkF n (cell1 c)) (l := l) fun c hc => by
  obtain ⟨y, rfl, hy⟩ := h2 c hc
  exact bulk_pos hy
 refine ⟨by omega, by omega, h1, fun c hc => ?_, hb⟩
 obtain ⟨y, rfl, hy⟩ := h2 c hc
 have hm : bulkF n y <= (l.map fun c => bulkF n (cell1 c)).sum := sum_mem (g := fun c => bulkF n (cell1 c)) hc
 exact ⟨y, rfl, hy, by omega⟩
theorem nd_of_tf : ∀ {n : Nat} {x : List CV}, isTf n x = true -> bulkF n x <= 30000 -> isNf n x = true
 | n, x, hn, hb => by
  obtain ⟨n', t, b, l, rfl, rfl, _, _⟩ := tf_inv hn
  obtain ⟨h1, h2, _, h3, _⟩ := tf_parts hn hb
  refine nd_mk (by omega) (by omega) fun c hc => ?_
  obtain ⟨y, rfl, hy, hyb⟩ := h3 c hc
  exact ⟨y, rfl, nd_of_tf hy (by omega)⟩

theorem small_lp (rk : Nat) (ta : Int) (ba : List Int) (ka : List CV) (hall : ∀ c ∈ ka, ∃ y, c = .agg y /\ isTf rk y = true) : ∀ (f i : Nat) (z : Int), z <= 29999 - i -> 30005 < f + i -> i <= ka.length -> i <= 30000 ->
  lpRSmall_3 rk (fun y4 => (fun _ _ _ _ _ _ _ _ _ _ => some (.ret [.cl (.int .i64 y4)] []))) (fun y15 => (fun _ _ _ _ _ _ _ _ => some (.ret [.cl (.int .i64 y15)] []))) f z i ta ba ka = some (.ret [.cl (.int .i64 (kidsOf (smallF rk) (ka.drop i) z))] [])
 | 0, i, z, hz, hf, hi, hi2 => by omega
 | f + 1, i, z, hz, hf, hi, hi2 => by
  show lpRSmall_3s rk (lpRSmall_3 rk (fun y4 => (fun _ _ _ _ _ _ _ _ _ _ => some (.ret [.cl (.int .i64 y4)] []))) (fun y15 => (fun _ _ _ _ _ _ _ _ => some (.ret [.cl (.int .i64 y15)] []))) f) (fun y4 => (fun _ _ _ _ _ _ _ _ _ _ => some (.ret [.cl (.int .i64 y4)] []))) (fun y15 => (fun _ _ _ _ _ _ _ _ => some (.ret [.cl (.int .i64 y15)] []))) z i ta ba ka = _
  unfold lpRSmall_3s
  refine qag (fun h => ?_) fun h => ?_
  ·obtain ⟨c, hc⟩ := get_some (b := ka) (i := i) (by omega)
   obtain ⟨y, rfl, hy⟩ := hall c (List.mem_of_getElem? hc)
   have ed : ka.drop i = .agg y :: ka.drop (i + 1) := by
    obtain ⟨hlt, e⟩ := List.getElem?_eq_some_iff.1 hc
    rw [List.drop_eq_getElem_cons hlt, e]
   rw [ed]
   simp only [kidsOf]
   refine qag (fun h0 => c_pos (by omega) (c_pos h ?_)) fun h0 => ?_
   ·rw [if_neg (by omega), show (i : Int).toNat = i from rfl, hc, Option.bind_some]
    obtain ⟨m, t, b, l, hm, hye, _⟩ := tf_inv hy
    simp only [cell1, hye, List.headD_cons, List.tail_cons]
    refine b_pos rfl (b_pos ?_ ?_)
    ·simp only [Bool.and_eq_true]
     exact ⟨isTr_of (hye ▸ hy), leftOk_of (by omega)⟩
    ·have e : ndSmall [.int .i64 t, .sli .u8 b, .slg 3 l] z = smallF rk y z := by rw [<- hye]; exact ndSmall_eq hy z
     simp only [cvInt, cvSli, cvSlg]
     rw [e, <- hye, show IntKind.i64.wrap ((i : Int) + 1) = ((i + 1 : Nat) : Int) from (i64_in _ (by omega)).trans (by omega)]
     have := small_le hy z
     exact small_lp rk ta ba ka hall f (i + 1) _ (by omega) (by omega) (by omega) (by omega)
   ·rw [if_pos (by omega)]
  ·rw [List.drop_eq_nil_of_le (by omega)]
   rfl
theorem nRSmall (rk : Nat) (ta : Int) (ba : List Int) (ka : List CV) (left : Int) (hp : (isTr (rk + 1) [.int .i64 ta, .sli .u8 ba, .slg 3 ka] && leftOk left) = true) : gRSmall rk ta ba ka left = some (.ret [.cl (.int .i64 (ndSmall [.int .i64 ta, .sli .u8 ba, .slg 3 ka] left))] []) := by
 simp only [Bool.and_eq_true] at hp
 have ht := isTr_spec hp.1
 have hl := leftOk_spec hp.2
 rw [ndSmall_eq ht]
 obtain ⟨m, t, b, l, hm, he, _, hall⟩ := tf_inv ht
 obtain rfl : rk = m := by omega
 simp only [List.cons.injEq, CV.int.injEq, CV.sli.injEq, CV.slg.injEq, true_and, and_true] at he
 obtain ⟨rfl, rfl, rfl⟩ := he
 unfold gRSmall
 simp only [qac]
 have e2 : (cond (decide ((1048576 : Int) < ((ba.length : Nat) : Int))) 1048576 ((ba.length : Nat) : Int)) = min (ba.length : Int) 1048576 := by
  by_cases h : (1048576 : Int) < ((ba.length : Nat) : Int)
  ·rw [decide_eq_true h]; show (1048576 : Int) = _; omega
  ·rw [decide_eq_false h]; show ((ba.length : Nat) : Int) = _; omega
 rw [e2, show IntKind.i64.wrap (left - 1) = left - 1 from i64_in _ (by omega), show IntKind.i64.wrap (left - 1 - min (ba.length : Int) 1048576) = left - 1 - min (ba.length : Int) 1048576 from i64_in _ (by omega)]
 exact small_lp rk ta ba ka hall FUEL 0 _ (by omega) (by unfold FUEL; omega) (by omega) (by omega)

/-! ### sizes -/
theorem head_len (t n : Int) : ((derHeadC t n).length : Int) = 1 + derLenSizeC n := by
 unfold derHeadC derLenSizeC
 rw [List.length_cons]
 repeat' split
 all_goals rfl
theorem lenSize_rng (n : Int) : 1 <= derLenSizeC n /\ derLenSizeC n <= 4 := by
 unfold derLenSizeC
 repeat' split
 all_goals omega
theorem flat_bulk {g : CV -> List Int} {h : CV -> Nat} : ∀ {l : List CV}, (∀ c ∈ l, (g c).length <= 5 * h c) -> ((l.map g).flatten).length <= 5 * (l.map h).sum
 | [], _ => by simp
 | a :: r, hh => by
  have := hh a (List.mem_cons_self ..)
  have := flat_bulk (g := g) (h := h) (l := r) fun c hc => hh c (List.mem_cons_of_mem _ hc)
  simp only [List.map_cons, List.flatten_cons, List.length_append, List.sum_cons]
  omega
theorem bytes_len : ∀ {n : Nat} {x : List CV}, isTf n x = true -> (bytesF n x).1.length <= 5 * bulkF n x
 | n, x, hn => by
  obtain ⟨n', t, b, l, rfl, rfl, _, hl⟩ := tf_inv hn
  have hb : bulkF (n' + 1) [.int .i64 t, .sli .u8 b, .slg 3 l] = 1 + b.length + (l.map fun c => bulkF n' (cell1 c)).sum := rfl
  rw [hb]
  simp only [bytesF]
  split
  ·have hf := flat_bulk (g := fun c => (bytesF n' (cell1 c)).1) (h := fun c => bulkF n' (cell1 c)) (l := l) fun c hc => by
    obtain ⟨y, rfl, hy⟩ := hl c hc
    exact bytes_len hy
   have e : ((l.map fun c => bytesF n' (cell1 c)).map (·.1)) = l.map fun c => (bytesF n' (cell1 c)).1 := by rw [List.map_map]; rfl
   simp only [e]
   have hh := head_len t (((l.map fun c => (bytesF n' (cell1 c)).1).flatten).length : Nat)
   have hr := lenSize_rng (((l.map fun c => (bytesF n' (cell1 c)).1).flatten).length : Nat)
   rw [List.length_append]
   omega
  ·have hh := head_len t (b.length : Nat)
   have hr := lenSize_rng (b.length : Nat)
   simp only [List.length_append]
   omega
def sumL (f : CV -> List Int) : List CV -> Int
 | [] => 0
 | c :: r => (f c).length + sumL f r
theorem sumL_flat (f : CV -> List Int) : ∀ l : List CV, sumL f l = (((l.map f).flatten).length : Nat)
 | [] => rfl
 | c :: r => by simp only [sumL, List.map_cons, List.flatten_cons, List.length_append, sumL_flat f r]; omega
theorem sumL_drop (f : CV -> List Int) (l : List CV) (i : Nat) : 0 <= sumL f (l.drop i) /\ sumL f (l.drop i) <= sumL f l := by
 constructor
 ·rw [sumL_flat]; omega
 ·rw [sumL_flat, sumL_flat, List.map_drop]
  have h : ∀ (ls : List (List Int)) (i : Nat), ((ls.drop i).flatten).length <= (ls.flatten).length := fun ls => by
   induction ls with
   | nil => simp
   | cons a r ih =>
    intro i
    cases i with
    | zero => exact Nat.le_refl _
    | succ i =>
     have := ih i
     simp only [List.drop_succ_cons, List.flatten_cons, List.length_append]
     omega
  have := h (l.map f) i
  omega
theorem size_lp2 (rk d : Nat) (deep : Int) (hd : 1 <= deep /\ deep <= 1000) (hdd : deep.toNat = d + 1) (ka : List CV) (hlen : ka.length <= 30000) (hall : ∀ c ∈ ka, ∃ y, c = .agg y /\ isTf rk y = true /\ bulkF rk y <= 30000) (hsum : sumL (fun c => (bytesF rk (cell1 c)).1) ka <= 150000) (k1 : Int -> Int -> Int -> List CV -> Int -> Int -> List CV -> Nat -> Int -> List Int -> List CV -> Int -> List Int -> List CV -> Int -> Int -> Int -> Int -> Int -> Int -> Int -> Bool -> Int -> Bool -> Int -> List Int -> List CV -> Option Out) (F : Int -> Option Out) : ∀ (f i : Nat) (s : Int), i <= ka.length -> ka.length < f + i -> 0 <= s -> s + sumL (fun c => (bytesF rk (cell1 c)).1) (ka.drop i) <= 150000 ->
  lpDSize_8 rk (fun _ _ _ _ _ _ _ _ _ _ _ _ _ _ _ _ _ _ _ _ _ _ _ _ _ => some (.ret [.cl (.int .i64 (-1))] [])) k1 (fun _ y56 _ _ _ => F y56) f deep s ka ((ka.length : Nat) : Int) i = if (ka.drop i).all (fun c => okF rk d (cell1 c)) = true then F (s + sumL (fun c => (bytesF rk (cell1 c)).1) (ka.drop i)) else some (.ret [.cl (.int .i64 (-1))] [])
 | 0, i, s, hi, hf, _, _ => by omega
 | f + 1, i, s, hi, hf, h0, hs => by
  show lpDSize_8s rk (lpDSize_8 rk (fun _ _ _ _ _ _ _ _ _ _ _ _ _ _ _ _ _ _ _ _ _ _ _ _ _ => some (.ret [.cl (.int .i64 (-1))] [])) k1 (fun _ y56 _ _ _ => F y56) f) (fun _ _ _ _ _ _ _ _ _ _ _ _ _ _ _ _ _ _ _ _ _ _ _ _ _ => some (.ret [.cl (.int .i64 (-1))] [])) k1 (fun _ y56 _ _ _ => F y56) deep s ka ((ka.length : Nat) : Int) i = _
  unfold lpDSize_8s
  obtain ⟨R, hR⟩ : ∃ R : Option Out, R = (if (ka.drop i).all (fun c => okF rk d (cell1 c)) = true then F (s + sumL (fun c => (bytesF rk (cell1 c)).1) (ka.drop i)) else some (.ret [.cl (.int .i64 (-1))] [])) := ⟨_, rfl⟩
  rw [<- hR]
  refine qag (fun h => ?_) fun h => ?_
  ·obtain ⟨c, hc⟩ := get_some (b := ka) (i := i) (by omega)
   obtain ⟨y, rfl, hy, hyb⟩ := hall c (List.mem_of_getElem? hc)
   have ed : ka.drop i = .agg y :: ka.drop (i + 1) := by
    obtain ⟨hlt, e⟩ := List.getElem?_eq_some_iff.1 hc
    rw [List.drop_eq_getElem_cons hlt, e]
   refine c_pos (by omega) (c_pos h ?_)
   rw [show (i : Int).toNat = i from rfl, hc, Option.bind_some]
   obtain ⟨m, t, b, l, hm, hye, _⟩ := tf_inv hy
   simp only [cell1, hye, List.headD_cons, List.tail_cons]
   refine b_pos rfl ?_
   simp only [show IntKind.i64.wrap (deep - 1) = deep - 1 from i64_in _ (by omega), cvInt, cvSli, cvSlg]
   refine b_pos ?_ ?_
   ·simp only [Bool.and_eq_true]
    exact ⟨isSr_of (hye ▸ hy) (hye ▸ hyb), deepOk_of (by omega)⟩
   ·have e : ndSize [.int .i64 t, .sli .u8 b, .slg 3 l] (deep - 1) = if okF rk d y = true then ((bytesF rk y).1.length : Int) else -1 := by
     rw [<- hye, ndSize_eq hy, show (deep - 1).toNat = d by omega]
    have es : sumL (fun c => (bytesF rk (cell1 c)).1) (ka.drop i) = ((bytesF rk y).1.length : Int) + sumL (fun c => (bytesF rk (cell1 c)).1) (ka.drop (i + 1)) := by rw [ed]; rfl
    have hpos := (sumL_drop (fun c => (bytesF rk (cell1 c)).1) ka (i + 1)).1
    rw [es] at hs
    rw [e]
    have ea : (ka.drop i).all (fun c => okF rk d (cell1 c)) = (okF rk d y && (ka.drop (i + 1)).all (fun c => okF rk d (cell1 c))) := by rw [ed, List.all_cons]; rfl
    rw [ea, es] at hR
    by_cases hok : okF rk d y = true
    ·rw [hok, Bool.true_and] at hR
     rw [if_pos hok]
     refine c_neg (by omega) ?_
     rw [show IntKind.i64.wrap (s + ((bytesF rk y).1.length : Int)) = s + ((bytesF rk y).1.length : Int) from i64_in _ (by omega)]
     refine c_neg (by omega) ?_
     rw [show IntKind.i64.wrap ((i : Int) + 1) = ((i + 1 : Nat) : Int) from (i64_in _ (by omega)).trans (by omega)]
     refine (size_lp2 rk d deep hd hdd ka hlen hall hsum k1 F f (i + 1) _ (by omega) (by omega) (by omega) (by omega)).trans ?_
     rw [hR, Int.add_assoc]
    ·rw [if_neg hok]
     refine c_pos (by omega) ?_
     rw [hR, if_neg (by simp [hok])]
  ·rw [List.drop_eq_nil_of_le (by omega)] at hR
   rw [hR]
   show F s = if ([] : List CV).all (fun c => okF rk d (cell1 c)) = true then F (s + 0) else _
   rw [if_pos (by rfl), Int.add_zero]
theorem nDSize (rk : Nat) (ta : Int) (ba : List Int) (ka : List CV) (deep : Int) (hp : (isSr (rk + 1) [.int .i64 ta, .sli .u8 ba, .slg 3 ka] && deepOk deep) = true) : gDSize rk ta ba ka deep = some (.ret [.cl (.int .i64 (ndSize [.int .i64 ta, .sli .u8 ba, .slg 3 ka] deep))] []) := by
 simp only [Bool.and_eq_true] at hp
 obtain ⟨ht, hb⟩ := isSr_spec hp.1
 have hd := deepOk_spec hp.2
 obtain ⟨h1, h2, h3, h4, h5⟩ := tf_parts ht hb
 rw [ndSize_eq ht]
 unfold gDSize derKnown derBoxed derFits derLenSize
 simp only [qac]
 refine qag (fun h => ?_) fun h => ?_
 ·subst h; rfl
 obtain ⟨d, hdd⟩ : ∃ d, deep.toNat = d + 1 := ⟨deep.toNat - 1, by omega⟩
 rw [hdd]
 have hokF : okF (rk + 1) (d + 1) [.int .i64 ta, .sli .u8 ba, .slg 3 ka] = (derKnownC ta && (if derBoxedC ta = true then decide (ba = []) && ka.all fun c => okF rk d (cell1 c) else decide (ka = []) && derFitsC ta ba)) := rfl
 rw [hokF]
 refine b_split (fun hk => ?_) fun hk => ?_
 ·rw [if_neg (by simp only [Bool.not_eq_true'] at hk; simp [hk])]
 have hk : derKnownC ta = true := by simpa using hk
 rw [hk, Bool.true_and]
 have hflen : (((ka.map fun c => (bytesF rk (cell1 c)).1).flatten).length : Int) <= 150000 := by
  have := flat_bulk (g := fun c => (bytesF rk (cell1 c)).1) (h := fun c => bulkF rk (cell1 c)) (l := ka) fun c hc => by
   obtain ⟨y, rfl, hy, _⟩ := h4 c hc
   exact bytes_len hy
  omega
 refine b_split (fun hx => ?_) fun hx => ?_
 ·rw [if_pos hx]
  refine qag (fun hba => ?_) fun hba => ?_
  ·rw [if_neg (by intro e; simp only [Bool.and_eq_true, decide_eq_true_eq] at e; rw [e.1] at hba; simp at hba)]
  ·obtain rfl : ba = [] := List.eq_nil_of_length_eq_zero (by omega)
   refine (size_lp2 rk d deep (by omega) hdd ka (by omega) (fun c hc => by obtain ⟨y, e, hy, hyb⟩ := h4 c hc; exact ⟨y, e, hy, by omega⟩) (by rw [sumL_flat]; exact hflen) _ (fun n => some (.ret [.cl (.int .i64 (IntKind.i64.wrap (IntKind.i64.wrap ((1 : Int) + derLenSizeC n) + n)))] [])) FUEL 0 0 (by omega) (by unfold FUEL; omega) (by omega) (by rw [List.drop_zero, sumL_flat]; omega)).trans ?_
   rw [List.drop_zero, decide_eq_true (show ([] : List Int) = [] from rfl), Bool.true_and, sumL_flat, Int.zero_add]
   by_cases ha : (ka.all fun c => okF rk d (cell1 c)) = true
   ·rw [if_pos ha, if_pos ha]
    have hr := lenSize_rng (((ka.map fun c => (bytesF rk (cell1 c)).1).flatten).length : Nat)
    rw [show IntKind.i64.wrap ((1 : Int) + derLenSizeC (((ka.map fun c => (bytesF rk (cell1 c)).1).flatten).length : Nat)) = 1 + derLenSizeC (((ka.map fun c => (bytesF rk (cell1 c)).1).flatten).length : Nat) from i64_in _ (by omega)]
    rw [i64_in _ (show -9223372036854775808 <= (1 : Int) + derLenSizeC (((ka.map fun c => (bytesF rk (cell1 c)).1).flatten).length : Nat) + (((ka.map fun c => (bytesF rk (cell1 c)).1).flatten).length : Nat) /\ _ <= 9223372036854775807 by omega)]
    refine ret_int ?_
    simp only [bytesF]
    rw [if_pos hx]
    have e : ((ka.map fun c => bytesF rk (cell1 c)).map (·.1)) = ka.map fun c => (bytesF rk (cell1 c)).1 := by rw [List.map_map]; rfl
    simp only [e]
    rw [List.length_append]
    have hh := head_len ta (((ka.map fun c => (bytesF rk (cell1 c)).1).flatten).length : Nat)
    omega
   ·rw [if_neg ha, if_neg ha]
 ·rw [if_neg (show ¬derBoxedC ta = true by simp [hx])]
  refine qag (fun hka => ?_) fun hka => ?_
  ·rw [if_neg (by intro e; simp only [Bool.and_eq_true, decide_eq_true_eq] at e; rw [e.1] at hka; simp at hka)]
  ·obtain rfl : ka = [] := List.eq_nil_of_length_eq_zero (by omega)
   refine c_neg (by omega) (b_pos (bytesOk_of (by omega) h3) ?_)
   rw [decide_eq_true (show ([] : List CV) = [] from rfl), Bool.true_and]
   refine b_split (fun hf => ?_) fun hf => ?_
   ·rw [if_neg (by simp only [Bool.not_eq_true'] at hf; simp [hf])]
   ·rw [if_pos (by simpa using hf)]
    have hr := lenSize_rng (ba.length : Nat)
    rw [show IntKind.i64.wrap ((1 : Int) + derLenSizeC (ba.length : Nat)) = 1 + derLenSizeC (ba.length : Nat) from i64_in _ (by omega)]
    rw [i64_in _ (show -9223372036854775808 <= (1 : Int) + derLenSizeC (ba.length : Nat) + (ba.length : Nat) /\ _ <= 9223372036854775807 by omega)]
    refine ret_int ?_
    simp only [bytesF]
    rw [if_neg (show ¬derBoxedC ta = true by simp [hx])]
    have hh := head_len ta (ba.length : Nat)
    simp only [List.length_append]
    omega
end Go.Proofs.YtfkpjbbkdkcdcaaDoorA

namespace Go.Proofs.YtfkpjbbkdkcdcaaDoorA
open IntWalk (i64_in u8_in u32_in u64_in i64_quo u8_quo rem_in)

theorem known_rng {t : Int} (h : derKnownC t = true) : 0 <= t /\ t <= 255 := by
 unfold derKnownC derBoxedC at h
 simp only [Bool.or_eq_true, decide_eq_true_eq] at h
 omega
theorem head_byte {t n : Int} (ht : 0 <= t /\ t <= 255) (hn : 0 <= n /\ n < 16777216) : ∀ z ∈ derHeadC t n, 0 <= z /\ z <= 255 := by
 intro z hz
 unfold derHeadC at hz
 rcases List.mem_cons.1 hz with rfl | hz
 ·exact ht
 ·split at hz
  ·simp only [List.mem_cons, List.mem_nil_iff, or_false] at hz; omega
  ·split at hz
   ·simp only [List.mem_cons, List.mem_nil_iff, or_false] at hz; omega
   ·split at hz
    ·simp only [List.mem_cons, List.mem_nil_iff, or_false] at hz; omega
    ·simp only [List.mem_cons, List.mem_nil_iff, or_false] at hz; omega
theorem ok_parts {n d : Nat} {t : Int} {b : List Int} {l : List CV} (h : okF (n + 1) d [.int .i64 t, .sli .u8 b, .slg 3 l] = true) : ∃ d', d = d' + 1 /\ derKnownC t = true /\ ((derBoxedC t = true /\ b = [] /\ ∀ c ∈ l, okF n d' (cell1 c) = true) \/ (derBoxedC t = false /\ l = [] /\ derFitsC t b = true)) := by
 cases d with
 | zero => exact absurd h Bool.false_ne_true
 | succ d =>
  have h : (derKnownC t && (if derBoxedC t = true then decide (b = []) && l.all fun c => okF n d (cell1 c) else decide (l = []) && derFitsC t b)) = true := h
  rw [Bool.and_eq_true] at h
  refine ⟨d, rfl, h.1, ?_⟩
  obtain ⟨_, h⟩ := h
  split at h
  ·rename_i hx
   simp only [Bool.and_eq_true, decide_eq_true_eq, List.all_eq_true] at h
   exact .inl ⟨hx, h⟩
  ·rename_i hx
   simp only [Bool.and_eq_true, decide_eq_true_eq] at h
   exact .inr ⟨by simpa using hx, h⟩
theorem bytes_box {n : Nat} {t : Int} {b : List Int} {l : List CV} (hx : derBoxedC t = true) : bytesF (n + 1) [.int .i64 t, .sli .u8 b, .slg 3 l] = (derHeadC t ((l.map fun c => (bytesF n (cell1 c)).1).flatten.length : Nat) ++ (l.map fun c => (bytesF n (cell1 c)).1).flatten, (l.all fun c => (bytesF n (cell1 c)).2) && (!(decide (t = 49)) || rowsSortedC (l.map fun c => (bytesF n (cell1 c)).1))) := by
 simp only [bytesF]
 rw [if_pos hx]
 have e : ((l.map fun c => bytesF n (cell1 c)).map (·.1)) = l.map fun c => (bytesF n (cell1 c)).1 := by rw [List.map_map]; rfl
 have e2 : ((l.map fun c => bytesF n (cell1 c)).all (·.2)) = l.all fun c => (bytesF n (cell1 c)).2 := by rw [List.all_map]; rfl
 simp only [e, e2]
theorem bytes_leaf {n : Nat} {t : Int} {b : List Int} {l : List CV} (hx : derBoxedC t = false) : bytesF (n + 1) [.int .i64 t, .sli .u8 b, .slg 3 l] = (derHeadC t (b.length : Nat) ++ b, true) := by
 simp only [bytesF]
 rw [if_neg (show ¬derBoxedC t = true by simp [hx])]
theorem flat5 {n : Nat} {l : List CV} {B : Nat} (hl : ∀ c ∈ l, ∃ y, c = .agg y /\ isTf n y = true) (hb : (l.map fun c => bulkF n (cell1 c)).sum <= B) : ((l.map fun c => (bytesF n (cell1 c)).1).flatten).length <= 5 * B := by
 have := flat_bulk (g := fun c => (bytesF n (cell1 c)).1) (h := fun c => bulkF n (cell1 c)) (l := l) fun c hc => by
  obtain ⟨y, rfl, hy⟩ := hl c hc
  exact bytes_len hy
 omega
theorem bytes_byte : ∀ {n d : Nat} {x : List CV}, isTf n x = true -> bulkF n x <= 30000 -> okF n d x = true -> ∀ z ∈ (bytesF n x).1, 0 <= z /\ z <= 255
 | n, d, x, hn, hb, hok => by
  obtain ⟨n', t, b, l, rfl, rfl, hbb, hl⟩ := tf_inv hn
  obtain ⟨h1, h2, h3, h4, h5⟩ := tf_parts hn hb
  obtain ⟨d', rfl, hk, h⟩ := ok_parts hok
  rcases h with ⟨hx, rfl, hall⟩ | ⟨hx, rfl, hf⟩
  ·rw [bytes_box hx]
   have hfl := flat5 (B := 30000) hl (by omega)
   intro z hz
   rcases List.mem_append.1 hz with hz | hz
   ·exact head_byte (known_rng hk) (by omega) z hz
   ·obtain ⟨r, hr, hz⟩ := List.mem_flatten.1 hz
    obtain ⟨c, hc, rfl⟩ := List.mem_map.1 hr
    obtain ⟨y, rfl, hy, hyb⟩ := h4 c hc
    exact bytes_byte hy (by omega) (hall _ hc) z hz
  ·rw [bytes_leaf hx]
   intro z hz
   rcases List.mem_append.1 hz with hz | hz
   ·exact head_byte (known_rng hk) (by omega) z hz
   ·exact h3 z hz

theorem rowsJoin_map (R : List (List Int)) : rowsJoin (R.map (CV.sli .u8)) = R.flatten := by
 unfold rowsJoin
 rw [qac, List.flatMap_map]
 show R.flatMap (fun x => x) = _
 rw [List.flatMap_id']
theorem joinOk_map {R : List (List Int)} (h1 : R.length <= 1000000) (h2 : ∀ x ∈ R, rowB x = true) (h3 : R.flatten.length <= 1000000) : joinOk (R.map (CV.sli .u8)) = true := by
 unfold joinOk
 rw [qac]
 simp only [Bool.and_eq_true, decide_eq_true_eq, List.all_eq_true, List.length_map, List.mem_map]
 refine ⟨h1, fun x hx => ?_, ?_⟩
 ·obtain ⟨y, hy, rfl⟩ := hx
  exact h2 y hy
 ·have := rowsJoin_map R
  unfold rowsJoin at this
  rw [qac] at this
  rw [this]
  exact h3
noncomputable def badW : Option Out := some (.ret [.cl (.sli .u8 []), .cl (.bool false)] [])
noncomputable def headW (t s : Int) (rows : List CV) : Option Out :=
 cond (headOk t s) (cond (joinOk rows) (cond (Nat.ble ((derHead t s ++ rowsJoin rows).length * 1) LIMN) (cond (Nat.ble ((derHead t s ++ rowsJoin rows).length) LIMN) (some (.ret [.cl (.sli .u8 (derHead t s ++ rowsJoin rows)), .cl (.bool true)] [])) none) none) none) none
noncomputable def finW (t s : Int) (rows : List CV) : Option Out :=
 cond (decide (t = 49)) (cond (rowsOk rows) (cond (!(rowsSorted rows)) badW (headW t s rows)) none) (headW t s rows)
theorem fin_w {t : Int} {R : List (List Int)} (ht : 0 <= t /\ t <= 255) (h1 : R.length <= 30000) (h2 : ∀ x ∈ R, rowB x = true) (h3 : R.flatten.length <= 150000) :
  finW t ((R.flatten.length : Nat) : Int) (R.map (CV.sli .u8)) = if (!(decide (t = 49)) || rowsSortedC R) = true then some (.ret [.cl (.sli .u8 (derHeadC t (R.flatten.length : Nat) ++ R.flatten)), .cl (.bool true)] []) else badW := by
 have hh : headW t ((R.flatten.length : Nat) : Int) (R.map (CV.sli .u8)) = some (.ret [.cl (.sli .u8 (derHeadC t (R.flatten.length : Nat) ++ R.flatten)), .cl (.bool true)] []) := by
  unfold headW derHead
  rw [qac, rowsJoin_map]
  have hl := head_len t (R.flatten.length : Nat)
  have hr := lenSize_rng (R.flatten.length : Nat)
  refine b_pos ?_ (b_pos (joinOk_map (by omega) h2 (by omega)) (lim_in (by simp only [List.length_append]; omega) (lim_in (by simp only [List.length_append]; omega) rfl)))
  unfold headOk
  rw [qac]
  exact decide_eq_true (by omega)
 unfold finW
 rw [hh, rowsSorted_map]
 refine qag (fun h => b_pos (rowsOk_map (by omega) h2) (b_split (fun h9 => ?_) fun h9 => ?_)) fun h => ?_
 ·rw [if_neg (by simp only [Bool.not_eq_true'] at h9; simp [h, h9])]
 ·rw [if_pos (by simp only [Bool.not_eq_false'] at h9; simp [h9])]
 ·rw [if_pos (by simp [h])]
theorem rows_b {n d : Nat} {l : List CV} (h4 : ∀ c ∈ l, ∃ y, c = .agg y /\ isTf n y = true /\ bulkF n y + 1 <= 30000) (hall : ∀ c ∈ l, okF n d (cell1 c) = true) : ∀ x ∈ (l.map fun c => (bytesF n (cell1 c)).1), rowB x = true := by
 intro x hx
 obtain ⟨c, hc, rfl⟩ := List.mem_map.1 hx
 obtain ⟨y, rfl, hy, hyb⟩ := h4 c hc
 have h1 := bytes_len hy
 have h2 := bytes_byte hy (by omega) (hall _ hc)
 unfold rowB
 simp only [Bool.and_eq_true, decide_eq_true_eq, List.all_eq_true]
 exact ⟨by show (bytesF n y).1.length <= _; omega, fun z hz => decide_eq_true (h2 z hz)⟩

end Go.Proofs.YtfkpjbbkdkcdcaaDoorA

namespace Go.Proofs.YtfkpjbbkdkcdcaaDoorA
open IntWalk (i64_in u8_in u32_in u64_in i64_quo u8_quo rem_in)

theorem rwrite_lp (rk d : Nat) (deep ta : Int) (ba : List Int) (hd : 1 <= deep /\ deep <= 1000) (hdd : deep.toNat = d + 1) (ka : List CV) (hlen : ka.length <= 30000) (hall : ∀ c ∈ ka, ∃ y, c = .agg y /\ isTf rk y = true /\ bulkF rk y + 1 <= 30000) : ∀ (f i : Nat) (s : Int) (rows : List CV), i <= ka.length -> ka.length < f + i -> 0 <= s -> s + sumL (fun c => (bytesF rk (cell1 c)).1) (ka.drop i) <= 150000 -> rows.length = i ->
  lpRWrite_12 rk (fun _ _ _ _ _ _ _ _ _ _ _ _ _ _ _ _ _ _ _ _ _ _ _ _ _ _ _ _ _ _ _ _ _ _ => badW) (fun _ _ _ _ _ _ _ _ _ _ _ _ _ _ _ _ _ _ _ _ _ _ _ _ _ _ _ _ _ _ _ _ _ _ _ _ => badW) (fun _ _ y79 _ _ _ _ y84 _ _ y87 => finW y84 y79 y87) f deep rows.length s i ta ba ka rows = if (ka.drop i).all (fun c => okF rk d (cell1 c) && (bytesF rk (cell1 c)).2) = true then finW ta (s + sumL (fun c => (bytesF rk (cell1 c)).1) (ka.drop i)) (rows ++ (ka.drop i).map fun c => .sli .u8 (bytesF rk (cell1 c)).1) else badW
 | 0, i, s, rows, hi, hf, _, _, _ => by omega
 | f + 1, i, s, rows, hi, hf, h0, hs, hr => by
  show lpRWrite_12s rk (lpRWrite_12 rk (fun _ _ _ _ _ _ _ _ _ _ _ _ _ _ _ _ _ _ _ _ _ _ _ _ _ _ _ _ _ _ _ _ _ _ => badW) (fun _ _ _ _ _ _ _ _ _ _ _ _ _ _ _ _ _ _ _ _ _ _ _ _ _ _ _ _ _ _ _ _ _ _ _ _ => badW) (fun _ _ y79 _ _ _ _ y84 _ _ y87 => finW y84 y79 y87) f) (fun _ _ _ _ _ _ _ _ _ _ _ _ _ _ _ _ _ _ _ _ _ _ _ _ _ _ _ _ _ _ _ _ _ _ => badW) (fun _ _ _ _ _ _ _ _ _ _ _ _ _ _ _ _ _ _ _ _ _ _ _ _ _ _ _ _ _ _ _ _ _ _ _ _ => badW) (fun _ _ y79 _ _ _ _ y84 _ _ y87 => finW y84 y79 y87) deep rows.length s i ta ba ka rows = _
  unfold lpRWrite_12s
  obtain ⟨R, hR⟩ : ∃ R : Option Out, R = if (ka.drop i).all (fun c => okF rk d (cell1 c) && (bytesF rk (cell1 c)).2) = true then finW ta (s + sumL (fun c => (bytesF rk (cell1 c)).1) (ka.drop i)) (rows ++ (ka.drop i).map fun c => .sli .u8 (bytesF rk (cell1 c)).1) else badW := ⟨_, rfl⟩
  rw [<- hR]
  refine qag (fun h => ?_) fun h => ?_
  ·obtain ⟨c, hc⟩ := get_some (b := ka) (i := i) (by omega)
   obtain ⟨y, rfl, hy, hyb⟩ := hall c (List.mem_of_getElem? hc)
   have ed : ka.drop i = .agg y :: ka.drop (i + 1) := by
    obtain ⟨hlt, e⟩ := List.getElem?_eq_some_iff.1 hc
    rw [List.drop_eq_getElem_cons hlt, e]
   refine c_pos (by omega) (c_pos h ?_)
   rw [show (i : Int).toNat = i from rfl, hc, Option.bind_some]
   obtain ⟨m, t, b, l, hm, hye, _⟩ := tf_inv hy
   simp only [cell1, hye, List.headD_cons, List.tail_cons]
   refine b_pos rfl ?_
   simp only [show IntKind.i64.wrap (deep - 1) = deep - 1 from i64_in _ (by omega), cvInt, cvSli, cvSlg]
   refine b_pos ?_ ?_
   ·simp only [Bool.and_eq_true]
    exact ⟨isSr_of (hye ▸ hy) (hye ▸ (by omega)), deepOk_of (by omega)⟩
   ·have e : ndWriteR [.int .i64 t, .sli .u8 b, .slg 3 l] (deep - 1) = if okF rk d y = true /\ (bytesF rk y).2 = true then ((bytesF rk y).1, true) else ([], false) := by
     rw [<- hye, ndWriteR_eq hy, show (deep - 1).toNat = d by omega]
    have es : sumL (fun c => (bytesF rk (cell1 c)).1) (ka.drop i) = ((bytesF rk y).1.length : Int) + sumL (fun c => (bytesF rk (cell1 c)).1) (ka.drop (i + 1)) := by rw [ed]; rfl
    have hpos := (sumL_drop (fun c => (bytesF rk (cell1 c)).1) ka (i + 1)).1
    rw [es] at hs hR
    have em : ((ka.drop i).map fun c => CV.sli .u8 (bytesF rk (cell1 c)).1) = .sli .u8 (bytesF rk y).1 :: (ka.drop (i + 1)).map fun c => .sli .u8 (bytesF rk (cell1 c)).1 := by rw [ed]; rfl
    have ea : (ka.drop i).all (fun c => okF rk d (cell1 c) && (bytesF rk (cell1 c)).2) = ((okF rk d y && (bytesF rk y).2) && (ka.drop (i + 1)).all (fun c => okF rk d (cell1 c) && (bytesF rk (cell1 c)).2)) := by rw [ed, List.all_cons]; rfl
    rw [ea, em] at hR
    by_cases hok : okF rk d y = true /\ (bytesF rk y).2 = true
    ·rw [if_pos hok] at e
     rw [hok.1, hok.2, Bool.and_self, Bool.true_and] at hR
     simp only [e]
     refine b_neg rfl ?_
     rw [show IntKind.i64.wrap (s + ((bytesF rk y).1.length : Int)) = s + ((bytesF rk y).1.length : Int) from i64_in _ (by omega)]
     refine c_neg (by omega) ?_
     refine lim_in (by simp only [List.length_append, List.length_singleton]; omega) (lim_in (by simp only [List.length_append, List.length_singleton]; omega) ?_)
     rw [show IntKind.i64.wrap ((i : Int) + 1) = ((i + 1 : Nat) : Int) from (i64_in _ (by omega)).trans (by omega)]
     refine (rwrite_lp rk d deep ta ba hd hdd ka hlen hall f (i + 1) _ _ (by omega) (by omega) (by omega) (by omega) (by simp only [List.length_append, List.length_singleton]; omega)).trans ?_
     rw [hR, Int.add_assoc, List.append_assoc]
     rfl
    ·rw [if_neg hok] at e
     simp only [e]
     refine b_pos rfl ?_
     rw [hR, if_neg (by intro h; simp only [Bool.and_eq_true] at h; exact hok h.1)]
  ·rw [List.drop_eq_nil_of_le (by omega)] at hR
   rw [hR]
   show finW ta s rows = if ([] : List CV).all (fun c => okF rk d (cell1 c) && (bytesF rk (cell1 c)).2) = true then finW ta (s + 0) (rows ++ []) else _
   rw [if_pos (by rfl), Int.add_zero, List.append_nil]
theorem rows_map (n : Nat) (l : List CV) : (l.map fun c => CV.sli .u8 (bytesF n (cell1 c)).1) = (l.map fun c => (bytesF n (cell1 c)).1).map (CV.sli .u8) := by rw [List.map_map]; rfl
theorem nRWrite (rk : Nat) (ta : Int) (ba : List Int) (ka : List CV) (deep : Int) (hp : (isSr (rk + 1) [.int .i64 ta, .sli .u8 ba, .slg 3 ka] && deepOk deep) = true) : gRWrite rk ta ba ka deep = some (.ret [.cl (.sli .u8 (ndWriteR [.int .i64 ta, .sli .u8 ba, .slg 3 ka] deep).1), .cl (.bool (ndWriteR [.int .i64 ta, .sli .u8 ba, .slg 3 ka] deep).2)] []) := by
 simp only [Bool.and_eq_true] at hp
 obtain ⟨ht, hb⟩ := isSr_spec hp.1
 have hd := deepOk_spec hp.2
 obtain ⟨h1, h2, h3, h4, h5⟩ := tf_parts ht hb
 rw [ndWriteR_eq ht]
 have bad : ∀ P : Prop, [Decidable P] -> ¬P -> ∀ q : List Int × Bool, badW = some (.ret [.cl (.sli .u8 (if P then q else ([], false) : List Int × Bool).1), .cl (.bool (if P then q else ([], false) : List Int × Bool).2)] []) := fun P _ h q => by rw [if_neg h]; rfl
 unfold gRWrite derKnown derBoxed derFits
 simp only [qac]
 refine qag (fun h => ?_) fun h => ?_
 ·subst h; exact bad _ (fun e => absurd e.1 Bool.false_ne_true) _
 obtain ⟨d, hdd⟩ : ∃ d, deep.toNat = d + 1 := ⟨deep.toNat - 1, by omega⟩
 rw [hdd]
 refine b_split (fun hk => ?_) fun hk => ?_
 ·exact bad _ (fun e => by obtain ⟨_, _, h, _⟩ := ok_parts e.1; simp [h] at hk) _
 have hk : derKnownC ta = true := by simpa using hk
 have hflen := flat5 (n := rk) (l := ka) (B := 30000) (fun c hc => by obtain ⟨y, e, hy, _⟩ := h4 c hc; exact ⟨y, e, hy⟩) (by omega)
 refine b_split (fun hx => ?_) fun hx => ?_
 ·have hx : derBoxedC ta = false := by simpa using hx
  refine qag (fun hka => ?_) fun hka => ?_
  ·exact bad _ (fun e => by
    obtain ⟨_, _, _, h | h⟩ := ok_parts e.1
    ·simp [hx] at h
    ·rw [h.2.1] at hka; simp at hka) _
  ·obtain rfl : ka = [] := List.eq_nil_of_length_eq_zero (by omega)
   refine c_neg (by omega) (b_pos (bytesOk_of (by omega) h3) ?_)
   refine b_split (fun hf => ?_) fun hf => ?_
   ·exact bad _ (fun e => by
     obtain ⟨_, _, _, h | h⟩ := ok_parts e.1
     ·simp [hx] at h
     ·simp [h.2.2] at hf) _
   ·have hf : derFitsC ta ba = true := by simpa using hf
    have hok : okF (rk + 1) (d + 1) [.int .i64 ta, .sli .u8 ba, .slg 3 []] = true := by
     show (derKnownC ta && (if derBoxedC ta = true then _ else decide (([] : List CV) = []) && derFitsC ta ba)) = true
     rw [if_neg (by simp [hx]), hk, hf]
     rfl
    rw [bytes_leaf hx, if_pos ⟨hok, rfl⟩]
    have hr := head_len ta (ba.length : Nat)
    have hr2 := lenSize_rng (ba.length : Nat)
    unfold derHead
    simp only [qac]
    have := known_rng hk
    refine b_pos (by unfold headOk; rw [qac]; exact decide_eq_true (by omega)) (lim_in (by simp only [List.length_append]; omega) (lim_in (by simp only [List.length_append]; omega) rfl))
 ·have hx : derBoxedC ta = true := by simpa using hx
  refine qag (fun hba => ?_) fun hba => ?_
  ·exact bad _ (fun e => by
    obtain ⟨_, _, _, h | h⟩ := ok_parts e.1
    ·rw [h.2.1] at hba; simp at hba
    ·simp [hx] at h) _
  ·obtain rfl : ba = [] := List.eq_nil_of_length_eq_zero (by omega)
   refine (rwrite_lp rk d deep ta [] (by omega) hdd ka (by omega) h4 FUEL 0 0 [] (by omega) (by unfold FUEL; omega) (by omega) (by rw [List.drop_zero, sumL_flat]; omega) rfl).trans ?_
   rw [List.drop_zero, sumL_flat, Int.zero_add, List.nil_append, rows_map]
   by_cases ha : (ka.all fun c => okF rk d (cell1 c) && (bytesF rk (cell1 c)).2) = true
   ·rw [if_pos ha]
    simp only [List.all_eq_true, Bool.and_eq_true] at ha
    have hok : okF (rk + 1) (d + 1) [.int .i64 ta, .sli .u8 [], .slg 3 ka] = true := by
     show (derKnownC ta && (if derBoxedC ta = true then decide (([] : List Int) = []) && ka.all fun c => okF rk d (cell1 c) else _)) = true
     rw [if_pos hx, hk]
     simp only [Bool.true_and, decide_true, List.all_eq_true]
     exact fun c hc => (ha c hc).1
    rw [fin_w (known_rng hk) (by rw [List.length_map]; omega) (rows_b h4 fun c hc => (ha c hc).1) (by omega), bytes_box hx]
    have h2' : (ka.all fun c => (bytesF rk (cell1 c)).2) = true := by simp only [List.all_eq_true]; exact fun c hc => (ha c hc).2
    rw [h2', Bool.true_and]
    by_cases hs : (!(decide (ta = 49)) || rowsSortedC (ka.map fun c => (bytesF rk (cell1 c)).1)) = true
    ·rw [if_pos hs, if_pos ⟨hok, hs⟩]
    ·rw [if_neg hs]
     exact bad _ (fun e => hs e.2) _
   ·rw [if_neg ha]
    refine bad _ (fun e => ha ?_) _
    obtain ⟨d', e1, _, h | h⟩ := ok_parts e.1
    ·obtain rfl : d = d' := by omega
     have e2 := e.2
     rw [bytes_box hx] at e2
     simp only [Bool.and_eq_true, List.all_eq_true] at e2 ⊢
     exact fun c hc => ⟨h.2.2 c hc, e2.1 c hc⟩
    ·simp [hx] at h
end Go.Proofs.YtfkpjbbkdkcdcaaDoorA

namespace Go.Proofs.YtfkpjbbkdkcdcaaDoorA
open IntWalk (i64_in u8_in u32_in u64_in i64_quo u8_quo rem_in)

theorem dwrite_lp (rk d : Nat) (ta : Int) (ba : List Int) (ka kb : List CV) (hlen : ka.length <= 30000) (hall : ∀ c ∈ ka, ∃ y, c = .agg y /\ isTf rk y = true /\ bulkF rk y + 1 <= 30000) (hok : ∀ c ∈ ka, okF rk d (cell1 c) = true) : ∀ (f i : Nat) (s : Int), i <= ka.length -> ka.length < f + i -> 0 <= s -> s + sumL (fun c => (bytesF rk (cell1 c)).1) (ka.drop i) <= 150000 ->
  lpDWrite_6 rk (fun _ _ _ _ _ _ _ _ _ _ _ _ _ _ _ _ _ _ _ _ _ _ _ _ _ _ _ _ _ _ _ => badW) (fun _ y37 _ _ _ y41 _ _ y44 => finW y41 y37 y44) f ka.length s ka ((ka.length : Nat) : Int) i ta ba kb (((ka.take i).map fun c => CV.sli .u8 (bytesF rk (cell1 c)).1) ++ List.replicate (ka.length - i) (.sli .u8 [])) = if (ka.drop i).all (fun c => (bytesF rk (cell1 c)).2) = true then finW ta (s + sumL (fun c => (bytesF rk (cell1 c)).1) (ka.drop i)) (ka.map fun c => .sli .u8 (bytesF rk (cell1 c)).1) else badW
 | 0, i, s, hi, hf, _, _ => by omega
 | f + 1, i, s, hi, hf, h0, hs => by
  show lpDWrite_6s rk (lpDWrite_6 rk (fun _ _ _ _ _ _ _ _ _ _ _ _ _ _ _ _ _ _ _ _ _ _ _ _ _ _ _ _ _ _ _ => badW) (fun _ y37 _ _ _ y41 _ _ y44 => finW y41 y37 y44) f) (fun _ _ _ _ _ _ _ _ _ _ _ _ _ _ _ _ _ _ _ _ _ _ _ _ _ _ _ _ _ _ _ => badW) (fun _ y37 _ _ _ y41 _ _ y44 => finW y41 y37 y44) ka.length s ka ((ka.length : Nat) : Int) i ta ba kb (((ka.take i).map fun c => CV.sli .u8 (bytesF rk (cell1 c)).1) ++ List.replicate (ka.length - i) (.sli .u8 [])) = _
  unfold lpDWrite_6s
  obtain ⟨R, hR⟩ : ∃ R : Option Out, R = if (ka.drop i).all (fun c => (bytesF rk (cell1 c)).2) = true then finW ta (s + sumL (fun c => (bytesF rk (cell1 c)).1) (ka.drop i)) (ka.map fun c => .sli .u8 (bytesF rk (cell1 c)).1) else badW := ⟨_, rfl⟩
  rw [<- hR]
  obtain ⟨W, hW⟩ : ∃ W : List CV, W = ((ka.take i).map fun c => CV.sli .u8 (bytesF rk (cell1 c)).1) ++ List.replicate (ka.length - i) (.sli .u8 []) := ⟨_, rfl⟩
  rw [<- hW]
  refine qag (fun h => ?_) fun h => ?_
  ·obtain ⟨c, hc⟩ := get_some (b := ka) (i := i) (by omega)
   obtain ⟨y, rfl, hy, hyb⟩ := hall c (List.mem_of_getElem? hc)
   have hoky : okF rk d y = true := hok _ (List.mem_of_getElem? hc)
   have ed : ka.drop i = .agg y :: ka.drop (i + 1) := by
    obtain ⟨hlt, e⟩ := List.getElem?_eq_some_iff.1 hc
    rw [List.drop_eq_getElem_cons hlt, e]
   refine c_pos (by omega) (c_pos h ?_)
   rw [show (i : Int).toNat = i from rfl, hc, Option.bind_some]
   obtain ⟨m, t, b, l, hm, hye, _⟩ := tf_inv hy
   have hset : W.set (0 + i) (.sli .u8 (bytesF rk y).1) = ((ka.take (i + 1)).map fun c => CV.sli .u8 (bytesF rk (cell1 c)).1) ++ List.replicate (ka.length - (i + 1)) (.sli .u8 []) := by
    rw [hW, Nat.zero_add, List.set_append_right _ _ (by simp; omega)]
    have e1 : i - ((ka.take i).map fun c => CV.sli .u8 (bytesF rk (cell1 c)).1).length = 0 := by simp; omega
    rw [e1, show ka.length - i = (ka.length - (i + 1)) + 1 by omega, List.replicate_succ, List.set_cons_zero]
    have e2 : ka.take (i + 1) = ka.take i ++ [.agg y] := by
     rw [List.take_add_one, hc]; rfl
    rw [e2, List.map_append, List.append_assoc]
    rfl
   simp only [cell1, hye, List.headD_cons, List.tail_cons]
   refine b_pos rfl ?_
   simp only [cvInt, cvSli, cvSlg]
   refine b_pos ?_ ?_
   ·exact isWr_of ⟨hye ▸ hy, hye ▸ (by omega), d, hye ▸ hoky⟩
   ·have e : ndWrite [.int .i64 t, .sli .u8 b, .slg 3 l] = if (bytesF rk y).2 = true then ((bytesF rk y).1, true) else ([], false) := by
     rw [<- hye, ndWrite_eq hy]
    have es : sumL (fun c => (bytesF rk (cell1 c)).1) (ka.drop i) = ((bytesF rk y).1.length : Int) + sumL (fun c => (bytesF rk (cell1 c)).1) (ka.drop (i + 1)) := by rw [ed]; rfl
    have hpos := (sumL_drop (fun c => (bytesF rk (cell1 c)).1) ka (i + 1)).1
    rw [es] at hs hR
    have ea : (ka.drop i).all (fun c => (bytesF rk (cell1 c)).2) = ((bytesF rk y).2 && (ka.drop (i + 1)).all (fun c => (bytesF rk (cell1 c)).2)) := by rw [ed, List.all_cons]; rfl
    rw [ea] at hR
    by_cases hk : (bytesF rk y).2 = true
    ·rw [if_pos hk] at e
     rw [hk, Bool.true_and] at hR
     simp only [e]
     refine b_neg rfl ?_
     rw [show IntKind.i64.wrap (s + ((bytesF rk y).1.length : Int)) = s + ((bytesF rk y).1.length : Int) from i64_in _ (by omega)]
     refine c_pos (by omega) (c_pos h ?_)
     rw [hset, show IntKind.i64.wrap ((i : Int) + 1) = ((i + 1 : Nat) : Int) from (i64_in _ (by omega)).trans (by omega)]
     refine (dwrite_lp rk d ta ba ka kb hlen hall hok f (i + 1) _ (by omega) (by omega) (by omega) (by omega)).trans ?_
     rw [hR, Int.add_assoc]
    ·rw [if_neg hk] at e
     simp only [e]
     refine b_pos rfl ?_
     rw [hR, if_neg (by intro h; simp only [Bool.and_eq_true] at h; exact hk h.1)]
  ·obtain rfl : i = ka.length := by omega
   rw [List.drop_eq_nil_of_le (Nat.le_refl _)] at hR
   rw [hR, hW, List.take_length, Nat.sub_self]
   show finW ta s ((ka.map fun c => CV.sli .u8 (bytesF rk (cell1 c)).1) ++ []) = if ([] : List CV).all (fun c => (bytesF rk (cell1 c)).2) = true then finW ta (s + 0) _ else _
   rw [if_pos (by rfl), Int.add_zero, List.append_nil]
theorem nDWrite (rk : Nat) (ta : Int) (ba : List Int) (ka : List CV) (hp : isWr (rk + 1) [.int .i64 ta, .sli .u8 ba, .slg 3 ka] = true) : gDWrite rk ta ba ka = some (.ret [.cl (.sli .u8 (ndWrite [.int .i64 ta, .sli .u8 ba, .slg 3 ka]).1), .cl (.bool (ndWrite [.int .i64 ta, .sli .u8 ba, .slg 3 ka]).2)] []) := by
 obtain ⟨ht, hb, d, hok⟩ := isWr_spec hp
 obtain ⟨h1, h2, h3, h4, h5⟩ := tf_parts ht hb
 obtain ⟨d', rfl, hk, h⟩ := ok_parts hok
 rw [ndWrite_eq ht]
 unfold gDWrite derBoxed
 simp only [qac]
 rcases h with ⟨hx, rfl, hall⟩ | ⟨hx, rfl, hf⟩
 ·have hflen := flat5 (n := rk) (l := ka) (B := 30000) (fun c hc => by obtain ⟨y, e, hy, _⟩ := h4 c hc; exact ⟨y, e, hy⟩) (by simp only [List.length_nil] at h5; omega)
  refine b_neg (by simp [hx]) (c_pos (by omega) (c_pos (by omega) (c_pos (by unfold LIM; omega) (c_pos (by unfold LIM; omega) ?_))))
  refine (dwrite_lp rk d' ta [] ka ka (by omega) h4 hall FUEL 0 0 (by omega) (by unfold FUEL; omega) (by omega) (by rw [List.drop_zero, sumL_flat]; omega)).trans ?_
  rw [List.drop_zero, sumL_flat, Int.zero_add, rows_map, bytes_box hx]
  by_cases ha : (ka.all fun c => (bytesF rk (cell1 c)).2) = true
  ·rw [if_pos ha, fin_w (known_rng hk) (by rw [List.length_map]; omega) (rows_b h4 hall) (by omega), ha, Bool.true_and]
   by_cases hs : (!(decide (ta = 49)) || rowsSortedC (ka.map fun c => (bytesF rk (cell1 c)).1)) = true
   ·rw [if_pos hs, if_pos hs]
   ·rw [if_neg hs, if_neg hs]; rfl
  ·rw [if_neg ha]
   have hf : (ka.all fun c => (bytesF rk (cell1 c)).2) = false := by simpa using ha
   rw [hf, Bool.false_and]
   rfl
 ·have hr := head_len ta (ba.length : Nat)
  have hr2 := lenSize_rng (ba.length : Nat)
  have := known_rng hk
  unfold derHead
  simp only [qac]
  rw [bytes_leaf hx]
  refine b_pos (by simp [hx]) (b_pos (by unfold headOk; rw [qac]; exact decide_eq_true (by omega)) (lim_in (by simp only [List.length_append]; omega) (lim_in (by simp only [List.length_append]; omega) rfl)))

/-! ### bytes, and what is fit -/
theorem nRBytes (ta : Int) (ba : List Int) (ka : List CV) (hp : isS [.int .i64 ta, .sli .u8 ba, .slg 3 ka] = true) : gRBytes ta ba ka = some (.ret [.cl (.sli .u8 (ndBytes [.int .i64 ta, .sli .u8 ba, .slg 3 ka]).1), .cl (.int .i64 (ndBytes [.int .i64 ta, .sli .u8 ba, .slg 3 ka]).2)] []) := by
 obtain ⟨n, ht, hb⟩ := isS_spec hp
 have hl := bytes_len ht
 unfold gRBytes
 refine b_pos (by rw [hp, deepOk_of (by omega)]; rfl) ?_
 simp only [ndWriteR_eq ht, ndBytes_eq ht, show (32 : Int).toNat = 32 from rfl]
 by_cases h : okF n 32 [.int .i64 ta, .sli .u8 ba, .slg 3 ka] = true /\ (bytesF n [.int .i64 ta, .sli .u8 ba, .slg 3 ka]).2 = true
 ·simp only [if_pos h]
  exact b_neg rfl (c_neg (by omega) rfl)
 ·simp only [if_neg h]
  exact b_pos rfl rfl
theorem nDBytes (ta : Int) (ba : List Int) (ka : List CV) (hp : isS [.int .i64 ta, .sli .u8 ba, .slg 3 ka] = true) : gDBytes ta ba ka = some (.ret [.cl (.sli .u8 (ndBytes [.int .i64 ta, .sli .u8 ba, .slg 3 ka]).1), .cl (.int .i64 (ndBytes [.int .i64 ta, .sli .u8 ba, .slg 3 ka]).2)] []) := by
 obtain ⟨n, ht, hb⟩ := isS_spec hp
 have hl := bytes_len ht
 unfold gDBytes
 refine b_pos (by rw [hp, deepOk_of (by omega)]; rfl) ?_
 rw [ndSize_eq ht, show (32 : Int).toNat = 32 from rfl]
 by_cases hok : okF n 32 [.int .i64 ta, .sli .u8 ba, .slg 3 ka] = true
 ·simp only [if_pos hok]
  refine c_neg (by omega) (c_neg (by omega) (b_pos (isW_of ⟨ht, hb, 32, hok⟩) ?_))
  simp only [ndWrite_eq ht, ndBytes_eq ht]
  by_cases h : (bytesF n [.int .i64 ta, .sli .u8 ba, .slg 3 ka]).2 = true
  ·simp only [if_pos h, if_pos (show okF n 32 [.int .i64 ta, .sli .u8 ba, .slg 3 ka] = true /\ (bytesF n [.int .i64 ta, .sli .u8 ba, .slg 3 ka]).2 = true from ⟨hok, h⟩)]
   exact b_neg rfl rfl
  ·simp only [if_neg h, if_neg (show ¬(okF n 32 [.int .i64 ta, .sli .u8 ba, .slg 3 ka] = true /\ (bytesF n [.int .i64 ta, .sli .u8 ba, .slg 3 ka]).2 = true) from fun e => h e.2)]
   exact b_pos rfl rfl
 ·simp only [if_neg hok, ndBytes_eq ht, if_neg (show ¬(okF n 32 [.int .i64 ta, .sli .u8 ba, .slg 3 ka] = true /\ (bytesF n [.int .i64 ta, .sli .u8 ba, .slg 3 ka]).2 = true) from fun e => hok e.1)]
  exact c_pos (by omega) rfl
theorem fit_bytes {n : Nat} {a : List CV} (ht : isTf n a = true) : decide ((ndBytes a).2 = 0) = ndFit a := by
 rw [ndBytes_eq ht, ndFit_eq ht]
 by_cases h : okF n 32 a = true /\ (bytesF n a).2 = true
 ·rw [if_pos h, decide_eq_true h]; rfl
 ·rw [if_neg h, decide_eq_false h]; rfl
theorem nRFit_ (ta : Int) (ba : List Int) (ka : List CV) (hp : isS [.int .i64 ta, .sli .u8 ba, .slg 3 ka] = true) : gRFit_ ta ba ka = some (.ret [.cl (.bool (ndFit [.int .i64 ta, .sli .u8 ba, .slg 3 ka]))] []) := by
 obtain ⟨n, ht, hb⟩ := isS_spec hp
 unfold gRFit_
 exact b_pos hp (ret_bool (fit_bytes ht))
theorem nDFit_ (ta : Int) (ba : List Int) (ka : List CV) (hp : isS [.int .i64 ta, .sli .u8 ba, .slg 3 ka] = true) : gDFit_ ta ba ka = some (.ret [.cl (.bool (ndFit [.int .i64 ta, .sli .u8 ba, .slg 3 ka]))] []) := by
 obtain ⟨n, ht, hb⟩ := isS_spec hp
 unfold gDFit_
 exact b_pos hp (ret_bool (fit_bytes ht))
end Go.Proofs.YtfkpjbbkdkcdcaaDoorA

namespace Go.Proofs.YtfkpjbbkdkcdcaaDoorA
open IntWalk (i64_in u8_in u32_in u64_in i64_quo u8_quo rem_in)

/-! ### the law -/
theorem isN_isS {a : List CV} (h : isS a = true) : isN a = true := by
 obtain ⟨n, hn, hb⟩ := isS_spec h
 exact isN_of (nd_of_tf hn hb)
end Go.Proofs.YtfkpjbbkdkcdcaaDoorA

namespace Go.Proofs.YtfkpjbbkdkcdcaaDoorA

def lenB (n : Int) : List Int := if n < 128 then [n] else if n < 256 then [129, n] else if n < 65536 then [130, n / 256, n % 256] else [131, n / 65536, n / 256 % 256, n % 256]
theorem head_cons (t n : Int) : derHeadC t n = t :: lenB n := rfl
theorem lenB_len (n : Int) : ((lenB n).length : Int) = derLenSizeC n := by
 unfold lenB derLenSizeC
 repeat' split
 all_goals rfl
theorem len_of (n : Int) (h0 : 0 <= n) (h1 : n < 16777216) (c : List Int) : qah (lenB n ++ c) = (n, derLenSizeC n) := by
 unfold lenB derLenSizeC
 split
 ·rename_i h
  rw [List.singleton_append, derLength_cons, if_pos h]
 ·rename_i h
  split
  ·rename_i h2
   show qah (129 :: n :: c) = _
   rw [derLength_cons, if_neg (by omega), if_neg (by simp only [List.length_cons]; omega)]
   have e : bytesNumC ((n :: c).take (129 - 128 : Int).toNat) = n := by show (0 : Int) * 256 + n = n; omega
   rw [e, if_neg (by simp only [List.headD_cons]; omega)]
   rfl
  ·rename_i h2
   split
   ·rename_i h3
    show qah (130 :: n / 256 :: n % 256 :: c) = _
    rw [derLength_cons, if_neg (by omega), if_neg (by simp only [List.length_cons]; omega)]
    have e : bytesNumC ((n / 256 :: n % 256 :: c).take (130 - 128 : Int).toNat) = n := by show ((0 : Int) * 256 + n / 256) * 256 + n % 256 = n; omega
    rw [e, if_neg (by simp only [List.headD_cons]; omega)]
    rfl
   ·rename_i h3
    show qah (131 :: n / 65536 :: n / 256 % 256 :: n % 256 :: c) = _
    rw [derLength_cons, if_neg (by omega), if_neg (by simp only [List.length_cons]; omega)]
    have e : bytesNumC ((n / 65536 :: n / 256 % 256 :: n % 256 :: c).take (131 - 128 : Int).toNat) = n := by show (((0 : Int) * 256 + n / 65536) * 256 + n / 256 % 256) * 256 + n % 256 = n; omega
    rw [e, if_neg (by simp only [List.headD_cons]; omega)]
    rfl
theorem len_back {r : List Int} (hb : ∀ x ∈ r, 0 <= x /\ x <= 255) (h : ¬(qah r).2 = 0) : r = lenB (qah r).1 ++ r.drop (qah r).2.toNat /\ derLenSizeC (qah r).1 = (qah r).2 := by
 match r, hb, h with
 | [], _, h => exact absurd rfl h
 | c :: t, hb, h =>
  have hc := hb c (List.mem_cons_self ..)
  rw [derLength_cons] at h ⊢
  by_cases h1 : c < 128
  ·rw [if_pos h1]
   have e : lenB c = [c] := by unfold lenB; rw [if_pos h1]
   have e2 : derLenSizeC c = 1 := by unfold derLenSizeC; rw [if_pos h1]
   exact ⟨by rw [e]; rfl, e2⟩
  ·rw [if_neg h1] at h ⊢
   by_cases h2 : c = 128 \/ 131 < c \/ (t.length : Int) < c - 128
   ·rw [if_pos h2] at h; exact absurd rfl h
   ·rw [if_neg h2] at h ⊢
    by_cases h3 : t.headD 0 = 0 \/ bytesNumC (t.take (c - 128).toNat) < 128
    ·rw [if_pos h3] at h; exact absurd rfl h
    ·rw [if_neg h3] at h ⊢
     have hc3 : c = 129 \/ c = 130 \/ c = 131 := by omega
     have hbt : ∀ (i : Nat) (x : Int), t[i]? = some x -> 0 <= x /\ x <= 255 := fun i x hx => hb x (List.mem_cons_of_mem _ (List.mem_of_getElem? hx))
     rcases hc3 with rfl | rfl | rfl
     ·match t, h2, h3, hbt with
      | [], h2, _, _ => simp at h2
      | x :: t, h2, h3, hbt =>
       have hx := hbt 0 x rfl
       have e : bytesNumC ((x :: t).take (129 - 128 : Int).toNat) = x := by show (0 : Int) * 256 + x = x; omega
       rw [e] at h3 ⊢
       simp only [List.headD_cons] at h3
       have e1 : lenB x = [129, x] := by unfold lenB; rw [if_neg (by omega), if_pos (by omega)]
       have e2 : derLenSizeC x = 2 := by unfold derLenSizeC; rw [if_neg (by omega), if_pos (by omega)]
       exact ⟨by show _ = lenB x ++ _; rw [e1]; rfl, e2⟩
     ·match t, h2, h3, hbt with
      | [], h2, _, _ => simp at h2
      | [_], h2, _, _ => simp at h2
      | x :: y :: t, h2, h3, hbt =>
       have hx := hbt 0 x rfl
       have hy := hbt 1 y rfl
       have e : bytesNumC ((x :: y :: t).take (130 - 128 : Int).toNat) = x * 256 + y := by show ((0 : Int) * 256 + x) * 256 + y = _; omega
       rw [e] at h3 ⊢
       simp only [List.headD_cons] at h3
       have e1 : lenB (x * 256 + y) = [130, x, y] := by
        unfold lenB
        rw [if_neg (by omega), if_neg (by omega), if_pos (by omega), show (x * 256 + y) / 256 = x by omega, show (x * 256 + y) % 256 = y by omega]
       have e2 : derLenSizeC (x * 256 + y) = 3 := by unfold derLenSizeC; rw [if_neg (by omega), if_neg (by omega), if_pos (by omega)]
       exact ⟨by show _ = lenB (x * 256 + y) ++ _; rw [e1]; rfl, e2⟩
     ·match t, h2, h3, hbt with
      | [], h2, _, _ => simp at h2
      | [_], h2, _, _ => simp at h2
      | [_, _], h2, _, _ => simp at h2
      | x :: y :: z :: t, h2, h3, hbt =>
       have hx := hbt 0 x rfl
       have hy := hbt 1 y rfl
       have hz := hbt 2 z rfl
       have e : bytesNumC ((x :: y :: z :: t).take (131 - 128 : Int).toNat) = (x * 256 + y) * 256 + z := by show (((0 : Int) * 256 + x) * 256 + y) * 256 + z = _; omega
       rw [e] at h3 ⊢
       simp only [List.headD_cons] at h3
       have e1 : lenB ((x * 256 + y) * 256 + z) = [131, x, y, z] := by
        unfold lenB
        rw [if_neg (by omega), if_neg (by omega), if_neg (by omega), show ((x * 256 + y) * 256 + z) / 65536 = x by omega, show ((x * 256 + y) * 256 + z) / 256 % 256 = y by omega, show ((x * 256 + y) * 256 + z) % 256 = z by omega]
       have e2 : derLenSizeC ((x * 256 + y) * 256 + z) = 4 := by unfold derLenSizeC; rw [if_neg (by omega), if_neg (by omega), if_neg (by omega)]
       exact ⟨by show _ = lenB ((x * 256 + y) * 256 + z) ++ _; rw [e1]; rfl, e2⟩

/-- what is read goes on being read when more comes behind -/
theorem parse1_ext {P : List Int -> Int × Nd × Int} {t : Int} {r : List Int} (hb : bytesOk r = true) (h : (parse1 P t r).1 = 0) (rest : List Int) : parse1 P t (r ++ rest) = parse1 P t r := by
 obtain ⟨_, hk, hn⟩ := parse1_used h
 have hr := len_rng hb
 obtain ⟨e1, e2⟩ := len_back (bytesOk_spec hb).2 (fun e => hn (.inl e))
 have hl : qah (r ++ rest) = qah r := by
  have : r ++ rest = lenB (qah r).1 ++ (r.drop (qah r).2.toNat ++ rest) := by
   rw [<- List.append_assoc, <- e1]
  rw [this, len_of _ hr.1 hr.2.1, e2]
 have hi : ((r ++ rest).drop (qah r).2.toNat).take (qah r).1.toNat = (r.drop (qah r).2.toNat).take (qah r).1.toNat := by
  rw [List.drop_append_of_le_length (by omega), List.take_append_of_le_length (by simp only [List.length_drop]; omega)]
 unfold parse1
 rw [hl, hi, if_neg hk, if_neg hk, if_neg hn, if_neg (by simp only [List.length_append]; omega)]
theorem parse_ext {n : Nat} {b : List Int} (hb : bytesOk b = true) (h : (parseF n b).1 = 0) (rest : List Int) : parseF n (b ++ rest) = parseF n b := by
 match n, b, hb with
 | 0, _, _ => rfl
 | n + 1, [], _ => exact absurd h (by decide : ¬(1 : Int) = 0)
 | n + 1, t :: r, hb =>
  rw [parse_step] at h ⊢
  rw [List.cons_append, parse_step]
  have hbt := bytesOk_tail hb
  simp only [List.tail_cons] at hbt
  exact parse1_ext hbt h rest
end Go.Proofs.YtfkpjbbkdkcdcaaDoorA

namespace Go.Proofs.YtfkpjbbkdkcdcaaDoorA

def toNd : List CV -> Nd
 | [.int _ t, .sli _ b, .slg _ l] => (t, b, l)
 | _ => nd0
theorem parts_write {f : List Int -> Int × Nd × Int} {g : CV -> List Int} {nd : CV -> Nd} : ∀ (l : List CV), (∀ c ∈ l, (∀ rest, f (g c ++ rest) = (0, nd c, ((g c).length : Int))) /\ g c ≠ []) -> ∀ m, ((l.map g).flatten).length <= m -> partsF f m ((l.map g).flatten) = (0, l.map nd, l.map g)
 | [], _, m, _ => parts_nil f m
 | c :: r, h, m, hm => by
  obtain ⟨h1, h2⟩ := h c (List.mem_cons_self ..)
  have ih := parts_write r (fun c' hc => h c' (List.mem_cons_of_mem _ hc))
  rw [List.map_cons, List.flatten_cons] at hm ⊢
  have hl : 0 < (g c).length := List.length_pos_iff.2 h2
  rw [List.length_append] at hm
  obtain ⟨m, rfl⟩ : ∃ k, m = k + 1 := ⟨m - 1, by omega⟩
  have hne : g c ++ (r.map g).flatten ≠ [] := fun e => h2 (List.append_eq_nil_iff.1 e).1
  have hz : (f (g c ++ (r.map g).flatten)).1 = 0 := by rw [h1]
  rw [parts_ok hne hz, h1]
  have e1 : (g c ++ (r.map g).flatten).drop ((g c).length : Int).toNat = (r.map g).flatten := by
   rw [show ((g c).length : Int).toNat = (g c).length from rfl, List.drop_left]
  have e2 : (g c ++ (r.map g).flatten).take ((g c).length : Int).toNat = g c := by
   rw [show ((g c).length : Int).toNat = (g c).length from rfl, List.take_left]
  rw [e1, e2, ih m (by omega)]
  rfl
theorem bytes_ne {n : Nat} {x : List CV} (h : isTf n x = true) : (bytesF n x).1 ≠ [] := by
 obtain ⟨n', t, b, l, rfl, rfl, _, _⟩ := tf_inv h
 cases hx : derBoxedC t with
 | true => rw [bytes_box hx, head_cons]; simp
 | false => rw [bytes_leaf hx, head_cons]; simp
theorem ndCV_to {n : Nat} {y : List CV} (h : isTf n y = true) : ndCV (toNd y) = .agg y := by
 obtain ⟨n', t, b, l, rfl, rfl, _, _⟩ := tf_inv h
 rfl
theorem parse_lenB (P : List Int -> Int × Nd × Int) {t : Int} {c : List Int} (hc : c.length < 16777216) (hk : derKnownC t = true) :
  parse1 P t (lenB (c.length : Nat) ++ c) = if derBoxedC t = false then (if derFitsC t c = true then (0, (t, c, []), 1 + derLenSizeC (c.length : Nat) + (c.length : Nat)) else (5, nd0, 0))
   else if (partsF P c.length c).1 = 0 then (if t = 49 /\ rowsSortedC (partsF P c.length c).2.2 = false then (6, nd0, 0) else (0, (t, [], (partsF P c.length c).2.1.map ndCV), 1 + derLenSizeC (c.length : Nat) + (c.length : Nat))) else ((partsF P c.length c).1, nd0, 0) := by
 have hl := lenB_len (c.length : Nat)
 have hr := lenSize_rng (c.length : Nat)
 have hi : ((lenB (c.length : Nat) ++ c).drop (derLenSizeC (c.length : Nat)).toNat).take ((c.length : Nat) : Int).toNat = c := by
  rw [show (derLenSizeC (c.length : Nat)).toNat = (lenB (c.length : Nat)).length by omega, List.drop_left]
  exact List.take_length
 unfold parse1
 rw [len_of _ (by omega) (by omega)]
 simp only []
 rw [hi, if_neg (by simp [hk]), if_neg (by simp only [List.length_append]; omega)]
theorem write_parse : ∀ {n d : Nat} {a : List CV}, isTf n a = true -> bulkF n a <= 30000 -> okF n d a = true -> (bytesF n a).2 = true -> parseF d (bytesF n a).1 = (0, toNd a, (((bytesF n a).1.length : Nat) : Int))
 | n, d, a, hn, hb, hok, hs => by
  obtain ⟨n', t, b, l, rfl, rfl, hbb, hl⟩ := tf_inv hn
  obtain ⟨h1, h2, h3, h4, h5⟩ := tf_parts hn hb
  obtain ⟨d', rfl, hk, h⟩ := ok_parts hok
  rcases h with ⟨hx, rfl, hall⟩ | ⟨hx, rfl, hf⟩
  ·have hfl := flat5 (B := 30000) hl (by omega)
   rw [bytes_box hx] at hs ⊢
   simp only [Bool.and_eq_true, List.all_eq_true] at hs
   have hp := parts_write (f := parseF d') (g := fun c => (bytesF n' (cell1 c)).1) (nd := fun c => toNd (cell1 c)) l (fun c hc => by
    obtain ⟨y, rfl, hy, hyb⟩ := h4 c hc
    have hwy := write_parse (d := d') hy (by omega) (hall _ hc) (hs.1 _ hc)
    have hby : bytesOk (bytesF n' y).1 = true := bytesOk_of (by have := bytes_len hy; omega) (bytes_byte hy (by omega) (hall _ hc))
    refine ⟨fun rest => ?_, bytes_ne hy⟩
    show parseF d' ((bytesF n' y).1 ++ rest) = (0, toNd y, _)
    rw [parse_ext hby (by rw [hwy]) rest, hwy]
    rfl) _ (Nat.le_refl _)
   simp only [head_cons, List.cons_append]
   rw [parse_step, parse_lenB _ (by omega) hk, if_neg (by simp [hx]), hp]
   have hss : ¬(t = 49 /\ rowsSortedC (l.map fun c => (bytesF n' (cell1 c)).1) = false) := fun e => by
    have := hs.2
    simp [e.1, e.2] at this
   have hm : (l.map fun c => toNd (cell1 c)).map ndCV = l := by
    rw [List.map_map]
    refine (List.map_congr_left fun c hc => ?_).trans (List.map_id l)
    obtain ⟨y, rfl, hy, _⟩ := h4 c hc
    exact ndCV_to hy
   rw [if_pos rfl, if_neg hss, hm]
   have hll := lenB_len (((l.map fun c => (bytesF n' (cell1 c)).1).flatten).length : Nat)
   simp only [toNd, List.length_cons, List.length_append, Prod.mk.injEq, true_and]
   omega
  ·rw [bytes_leaf hx]
   simp only [head_cons, List.cons_append]
   rw [parse_step, parse_lenB _ (by omega) hk, if_pos hx, if_pos hf]
   have hll := lenB_len (b.length : Nat)
   simp only [toNd, List.length_cons, List.length_append, Prod.mk.injEq, true_and]
   omega

theorem tf_mk {n : Nat} {t : Int} {b : List Int} {l : List CV} (h1 : ∀ z ∈ b, 0 <= z /\ z <= 255) (h3 : ∀ c ∈ l, ∃ y, c = .agg y /\ isTf n y = true) : isTf (n + 1) [.int .i64 t, .sli .u8 b, .slg 3 l] = true := by
 show (b.all byteB && l.all fun c => match c with | .agg x => isTf n x | _ => false) = true
 simp only [Bool.and_eq_true, List.all_eq_true]
 refine ⟨fun z hz => decide_eq_true (h1 z hz), fun c hc => ?_⟩
 obtain ⟨y, rfl, hy⟩ := h3 c hc
 exact hy
end Go.Proofs.YtfkpjbbkdkcdcaaDoorA

namespace Go.Proofs.YtfkpjbbkdkcdcaaDoorA

theorem ndL_to {n : Nat} {a : List CV} (h : isTf n a = true) : ndL (toNd a) = a := by
 obtain ⟨n', t, b, l, rfl, rfl, _, _⟩ := tf_inv h
 rfl
/-- a fit value's bytes -/
theorem fit_facts {a : List CV} (hs : isS a = true) (hf : ndFit a = true) : (ndBytes a).2 = 0 /\ bytesOk (ndBytes a).1 = true /\ (ndBytes a).1.length <= 150000 /\ parseF 32 (ndBytes a).1 = (0, toNd a, (((ndBytes a).1.length : Nat) : Int)) /\ ndL (toNd a) = a := by
 obtain ⟨n, hn, hb⟩ := isS_spec hs
 rw [ndFit_eq hn] at hf
 have hf := of_decide_eq_true hf
 have hl := bytes_len hn
 rw [ndBytes_eq hn, if_pos hf]
 refine ⟨rfl, bytesOk_of (by show (bytesF n a).1.length <= _; omega) (bytes_byte hn hb hf.1), by show (bytesF n a).1.length <= _; omega, write_parse hn hb hf.1 hf.2, ndL_to hn⟩
end Go.Proofs.YtfkpjbbkdkcdcaaDoorA

namespace Go.Proofs.YtfkpjbbkdkcdcaaDoorA
open IntWalk (i64_in u8_in u32_in u64_in i64_quo u8_quo rem_in)

/-! ### bytes that are so -/
end Go.Proofs.YtfkpjbbkdkcdcaaDoorA

namespace Go.Proofs.YtfkpjbbkdkcdcaaDoorA
open IntWalk (i64_in u8_in u32_in u64_in i64_quo u8_quo rem_in)

/-! ### all of its bytes -/
end Go.Proofs.YtfkpjbbkdkcdcaaDoorA

namespace Go.Proofs.YtfkpjbbkdkcdcaaDoorA

/-! ### bytes -/
/-! ### texts -/
end Go.Proofs.YtfkpjbbkdkcdcaaDoorA
