/-
 The der layer: what each reading comes to is the plain function; small ones. Conditions: each function's own.
-/
import Derived.Test.YtbgkadaidhgggaaDoorT2a
import Derived.Test.YtbgkadaidhgggaaDoorT2c
import Derived.IntWalk
import Derived.Test.YtbgkadaidhgggaaDoorT2d
import Derived.Test.YtbgkadaidhgggaaDoorT2e
import Derived.Test.YtbgkadaidhgggaaDoorT2b
import Derived.Test.YtbgkadaidhgggaaDoorT2f
set_option linter.unusedVariables false
set_option linter.unusedSimpArgs false
namespace Go.Proofs.YtbgkadaidhgggaaDoorA
open IntWalk (i64_in u8_in u32_in u64_in i64_quo u8_quo rem_in)

/-! ### bytes that are so -/
theorem qnj {x : Int} (h : byteB x = true) : 0 <= x /\ x <= 255 := of_decide_eq_true h
theorem qap {b : List Int} (h : qac b = true) : b.length <= 1000000 /\ ∀ x ∈ b, 0 <= x /\ x <= 255 := by
 unfold qac at h
 rw [qae] at h
 simp only [Bool.and_eq_true, decide_eq_true_eq, List.all_eq_true] at h
 exact ⟨h.1, fun x hx => qnj (h.2 x hx)⟩
theorem qbr {b : List Int} (h : b.length <= 1000000) (h' : ∀ x ∈ b, 0 <= x /\ x <= 255) : qac b = true := by
 unfold qac
 rw [qae]
 simp only [Bool.and_eq_true, decide_eq_true_eq, List.all_eq_true]
 exact ⟨h, fun x hx => decide_eq_true (h' x hx)⟩
theorem qn9 {a b : List Int} (h : qac b = true) (hl : a.length <= b.length) (hs : ∀ x ∈ a, x ∈ b) : qac a = true :=
 let ⟨h1, h2⟩ := qap h; qbr (by omega) fun x hx => h2 x (hs x hx)
theorem qa5 {b : List Int} (h : qac b = true) (n : Nat) : qac (b.drop n) = true := qn9 h (by simp) fun x hx => List.mem_of_mem_drop hx
theorem qdq {b : List Int} (h : qac b = true) (n : Nat) : qac (b.take n) = true := qn9 h (by simp; omega) fun x hx => List.mem_of_mem_take hx
theorem qbn {b : List Int} (h : qac b = true) : qac b.tail = true := qn9 h (by simp) fun x hx => List.mem_of_mem_tail hx
theorem qa0 {b : List Int} (h : qac b = true) {i : Nat} {x : Int} (hx : b[i]? = some x) : 0 <= x /\ x <= 255 := (qap h).2 x (List.mem_of_getElem? hx)
theorem qmk {b : List Int} (h : qid b = true) : b.length <= 100000000 := by
 unfold qid at h; rw [qae] at h; exact of_decide_eq_true h
theorem qlw {b : List Int} (h : b.length <= 100000000) : qid b = true := by
 unfold qid; rw [qae]; exact decide_eq_true h
theorem qbj {α : Type} {b : List α} {i : Nat} (h : i < b.length) : ∃ x, b[i]? = some x := ⟨_, List.getElem?_eq_getElem h⟩

theorem nDBoxed (tag : Int) (hp : true = true) : gDBoxed tag = some (.ret [.cl (.bool (qbe tag))] []) := by
 unfold gDBoxed qbe qa4
 rw [qae]
 simp only [Bool.cond_decide]
 repeat' split
 all_goals (refine qav ?_; rw [Bool.eq_iff_iff]; simp only [decide_eq_true_eq, true_iff, Bool.false_eq_true, false_iff]; omega)
theorem nRBoxed (tag : Int) (hp : true = true) : gRBoxed tag = some (.ret [.cl (.bool (qbe tag))] []) := by
 unfold gRBoxed qbe qa4
 rw [qae]
 simp only [Bool.cond_decide]
 repeat' split
 all_goals (refine qav ?_; rw [Bool.eq_iff_iff]; simp only [decide_eq_true_eq, true_iff, Bool.false_eq_true, false_iff]; omega)
theorem nDKnown (tag : Int) (hp : true = true) : gDKnown tag = some (.ret [.cl (.bool (qcv tag))] []) := by
 unfold gDKnown qcv qa9 qbe
 simp only [qae, Bool.cond_decide]
 cases qa4 tag
 all_goals simp only [cond_true, cond_false]
 all_goals repeat' split
 all_goals (refine qav ?_; rw [Bool.eq_iff_iff]; (try simp only [Bool.or_eq_true, decide_eq_true_eq, or_true, true_or, Bool.false_eq_true, false_or, Bool.true_eq, true_iff, false_iff]); (try omega))
theorem nRTagged (tag : Int) (hp : true = true) : gRTagged tag = some (.ret [.cl (.bool (qcv tag))] []) := by
 unfold gRTagged qcv qa9 qbe
 simp only [qae, Bool.cond_decide]
 cases qa4 tag
 all_goals simp only [cond_true, cond_false]
 all_goals repeat' split
 all_goals (refine qav ?_; rw [Bool.eq_iff_iff]; (try simp only [Bool.or_eq_true, decide_eq_true_eq, or_true, true_or, Bool.false_eq_true, false_or, Bool.true_eq, true_iff, false_iff]); (try omega))
theorem nDLenSize (n : Int) (hp : true = true) : gDLenSize n = some (.ret [.cl (.int .i64 (qbs n))] []) := by
 unfold gDLenSize qbs qat
 simp only [qae, Bool.cond_decide]
 repeat' split
 all_goals rfl
theorem nRCont (b : List Int) (i : Int) (hp : decide (0 <= i) = true) : gRCont b i = some (.ret [.cl (.bool (u8Cont b i))] []) := by
 have hp := of_decide_eq_true hp
 unfold gRCont u8Cont u8At
 simp only [qae]
 refine qaf (fun h => qau hp (qau h ?_)) fun h => qav ?_
 ·obtain ⟨x, hx⟩ := qbj (b := b) (i := i.toNat) (by omega)
  rw [hx, Option.bind_some]
  refine qav ?_
  rw [Bool.eq_iff_iff]
  simp only [decide_eq_true_eq]
  rw [Int.fdiv_eq_ediv_of_nonneg _ (by omega)]
  omega
 ·rw [List.getElem?_eq_none (by omega)]
theorem two_cases (o : List Int) : o.length < 2 /\ qfh o = false \/ ∃ x y r, o = x :: y :: r := by
 match o with
 | [] => exact .inl ⟨by simp, rfl⟩
 | [x] => exact .inl ⟨by simp, rfl⟩
 | x :: y :: r => exact .inr ⟨x, y, r, rfl⟩
theorem nOFit (o : List Int) (hp : true = true) : gOFit o = some (.ret [.cl (.bool (qn1 o))] []) := by
 unfold gOFit qn1
 simp only [qae, Bool.cond_decide]
 rcases two_cases o with ⟨h, e⟩ | ⟨x, y, r, rfl⟩
 ·rw [if_pos (by omega), e]
 ·simp only [List.getElem?_cons_zero, List.getElem?_cons_succ, Option.bind_some, List.length_cons, qfh]
  repeat' split
  all_goals first
   | (refine qav ?_; rw [Bool.eq_iff_iff]; simp only [Bool.and_eq_true, Bool.or_eq_true, decide_eq_true_eq, Bool.false_eq_true, false_iff, true_iff]; omega)
   | omega
theorem nR2Fit (o : List Int) (hp : true = true) : gR2Fit o = some (.ret [.cl (.bool (qn1 o))] []) := by
 unfold gR2Fit qn1
 simp only [qae]
 rcases two_cases o with ⟨h, e⟩ | ⟨x, y, r, rfl⟩
 ·exact qau (by omega) (qav e.symm)
 ·simp only [List.getElem?_cons_zero, List.getElem?_cons_succ, Option.bind_some, List.length_cons, qfh]
  repeat' (refine qaf (fun _ => ?_) fun _ => ?_)
  all_goals first
   | (refine qav ?_; rw [Bool.eq_iff_iff]; simp only [Bool.and_eq_true, Bool.or_eq_true, decide_eq_true_eq, Bool.false_eq_true, false_iff, true_iff]; omega)
   | omega
theorem nDNumber (b : List Int) (hp : qac b = true) : gDNumber b = some (.ret [.cl (.bool (qel b))] []) := by
 unfold gDNumber qel
 rw [qae]
 match b, hp with
 | [], _ => rfl
 | [x], _ => rfl
 | x :: y :: r, hp =>
  have hx := qa0 hp (i := 0) (x := x) rfl
  have hy := qa0 hp (i := 1) (x := y) rfl
  simp only [List.getElem?_cons_zero, List.getElem?_cons_succ, Option.bind_some, List.length_cons, qne]
  rw [show IntKind.u64.wrap x = x from u64_in _ (by omega), show IntKind.u64.wrap y = y from u64_in _ (by omega), show IntKind.u64.wrap (x * 2 ^ 1) = x * 2 from (u64_in _ (by omega)).trans (by omega),
   show Int.fdiv y (2 ^ 7) = y / 128 from Int.fdiv_eq_ediv_of_nonneg _ (by omega)]
  have hor : ((BitVec.ofInt 64 (x * 2) ||| BitVec.ofInt 64 (y / 128)).toNat : Int) = x * 2 + y / 128 := by
   have h2 : y / 128 = 0 \/ y / 128 = 1 := by omega
   obtain ⟨n, rfl⟩ : ∃ n : Nat, x = n := ⟨x.toNat, by omega⟩
   have hn : n < 256 := by omega
   rcases h2 with h2 | h2
   ·rw [h2]
    simp [BitVec.toNat_ofInt]
    omega
   ·rw [h2, BitVec.toNat_or]
    simp only [BitVec.toNat_ofInt]
    have : ∀ n : Fin 256, ((((n.val : Int) * 2 % (2 ^ 64 : Nat)).toNat ||| ((1 : Int) % (2 ^ 64 : Nat)).toNat : Nat) : Int) = (n.val : Int) * 2 + 1 := by decide +kernel
    exact this ⟨n, hn⟩
  rw [hor, show IntKind.u64.wrap (x * 2 + y / 128) = x * 2 + y / 128 from u64_in _ (by omega)]
  simp only [Bool.cond_decide]
  rw [if_neg (by omega), if_pos (by omega), if_pos (by omega)]
  refine qb8 (fun h => qav ?_) fun h => qav ?_
  ·rw [Bool.eq_iff_iff]
   simp only [Bool.and_eq_true, Bool.not_eq_true', decide_eq_false_iff_not]
   omega
  ·rw [Bool.eq_iff_iff]
   simp only [Bool.and_eq_true, Bool.not_eq_true', decide_eq_false_iff_not, Bool.false_eq_true, false_iff]
   omega
theorem nRFitInt (b : List Int) (hp : qac b = true) : gRFitInt b = some (.ret [.cl (.bool (qel b))] []) := by
 unfold gRFitInt qel
 rw [qae]
 match b, hp with
 | [], _ => rfl
 | [x], _ => rfl
 | x :: y :: r, hp =>
  have hx := qa0 hp (i := 0) (x := x) rfl
  have hy := qa0 hp (i := 1) (x := y) rfl
  simp only [List.getElem?_cons_zero, List.getElem?_cons_succ, Option.bind_some, List.length_cons, qne, Bool.cond_decide, Bool.cond_not]
  repeat' split
  all_goals first
   | omega
   | (refine qav ?_; rw [Bool.eq_iff_iff]; simp only [Bool.and_eq_true, Bool.not_eq_true', decide_eq_false_iff_not, Bool.false_eq_true, false_iff, true_iff]; omega)
theorem nR2First (n : Int) (hp : u32Ok n = true) : gR2First n = some (.ret [.cl (.sli .u32 (qe0 n))] []) := by
 unfold u32Ok at hp
 rw [qae] at hp
 have hp := of_decide_eq_true hp
 unfold gR2First qe0 qda
 simp only [qae]
 refine qaf (fun h => ?_) fun h => ?_
 ·rw [if_pos h, show IntKind.u64.wrap (Int.tdiv n 40) = n / 40 by rw [Int.tdiv_eq_ediv_of_nonneg (by omega)]; exact u64_in _ (by omega), Int.tmod_eq_emod_of_nonneg (by omega),
   show IntKind.u32.wrap (n / 40) = n / 40 from u32_in _ (by omega), show IntKind.u32.wrap (n % 40) = n % 40 from u32_in _ (by omega)]
 ·rw [if_neg h, show IntKind.u64.wrap (n - 80) = n - 80 from u64_in _ (by omega), show IntKind.u32.wrap (n - 80) = n - 80 from u32_in _ (by omega)]
theorem nSClone (b : List Int) (hp : qid b = true) : gSClone b = some (.ret [.cl (.sli .u8 b)] []) := by
 have hp := qmk hp
 unfold gSClone
 simp only [List.nil_append]
 refine qce (fun h => ?_) fun h => ?_
 ·have h := List.eq_nil_of_length_eq_zero (qaj.1 h)
  subst h
  unfold bothK
  rw [if_pos (Eq.symm (qau (by simp [LIM]) (qau (by simp [LIM]) rfl)))]
 ·exact qau (by unfold LIM; omega) (qau (by unfold LIM; omega) rfl)
end Go.Proofs.YtbgkadaidhgggaaDoorA

namespace Go.Proofs.YtbgkadaidhgggaaDoorA
open IntWalk (i64_in u8_in u32_in u64_in i64_quo u8_quo rem_in)

theorem qh1 {b : List Int} {i : Nat} {x : Int} (h : b[i]? = some x) : b.drop i = x :: b.drop (i + 1) := by
 obtain ⟨hlt, e⟩ := List.getElem?_eq_some_iff.1 h
 rw [List.drop_eq_getElem_cons hlt, e]
theorem qi9 {α : Type} {b : List α} {i : Nat} (h : b.length <= i) : b.drop i = [] := List.drop_eq_nil_of_le h

theorem same_lp (a b : List Int) (hl : a.length = b.length) (hb : a.length <= 100000000) : ∀ (f i : Nat), i <= a.length -> a.length < f + i -> 
  qe3 (fun _ _ _ _ _ _ _ _ _ _ _ _ _ _ _ _ => some (.ret [.cl (.bool false)] [])) (fun _ _ _ _ _ _ => some (.ret [.cl (.bool true)] [])) f a b i = some (.ret [.cl (.bool (decide (a.drop i = b.drop i)))] [])
 | 0, i, hi, hf => by omega
 | f + 1, i, hi, hf => by
  show qj3 (qe3 (fun _ _ _ _ _ _ _ _ _ _ _ _ _ _ _ _ => some (.ret [.cl (.bool false)] [])) (fun _ _ _ _ _ _ => some (.ret [.cl (.bool true)] [])) f) (fun _ _ _ _ _ _ _ _ _ _ _ _ _ _ _ _ => some (.ret [.cl (.bool false)] [])) (fun _ _ _ _ _ _ => some (.ret [.cl (.bool true)] [])) a b i = _
  unfold qj3
  refine qaf (fun h => ?_) fun h => ?_
  ·obtain ⟨x, hx⟩ := qbj (b := a) (i := i) (by omega)
   obtain ⟨y, hy⟩ := qbj (b := b) (i := i) (by omega)
   refine qau (by omega) (qau h ?_)
   rw [show (i : Int).toNat = i from rfl, hx, Option.bind_some]
   refine qau (by omega) (qau (by omega) ?_)
   rw [hy, Option.bind_some]
   rw [qh1 hx, qh1 hy]
   refine qb8 (fun hne => qav ?_) fun he => ?_
   ·simp [hne]
   ·subst he
    rw [show IntKind.i64.wrap ((i : Int) + 1) = ((i + 1 : Nat) : Int) from (i64_in _ (by omega)).trans (by omega)]
    refine (same_lp a b hl hb f (i + 1) (by omega) (by omega)).trans (qav ?_)
    simp
  ·refine qav ?_
   rw [qi9 (by omega), qi9 (by omega)]
   simp
theorem nR1Same (a b : List Int) (hp : qid a = true) : gR1Same a b = some (.ret [.cl (.bool (qb3 a b))] []) := by
 have hp := qmk hp
 unfold gR1Same qb3 qhm
 simp only [qae]
 refine qb8 (fun h => qav ?_) fun h => ?_
 ·rw [eq_comm, decide_eq_false_iff_not]
  intro e
  subst e
  exact h rfl
 ·exact same_lp a b (by omega) hp FUEL 0 (by omega) (by unfold FUEL; omega)

theorem foldl_rng (b : List Int) (hb : ∀ x ∈ b, 0 <= x /\ x <= 255) : ∀ (n : Int) (k : Nat), 0 <= n -> n < 256 ^ k -> 0 <= b.foldl (fun n x => n * 256 + x) n /\ b.foldl (fun n x => n * 256 + x) n < 256 ^ (k + b.length) := by
 induction b with
 | nil => intro n k h0 h1; exact ⟨h0, h1⟩
 | cons x r ih =>
  intro n k h0 h1
  have hx := hb x (by simp)
  have := ih (fun y hy => hb y (by simp [hy])) (n * 256 + x) (k + 1) (by omega) (by rw [Int.pow_succ]; omega)
  simp only [List.foldl_cons, List.length_cons]
  rw [show k + (r.length + 1) = k + 1 + r.length by omega]
  exact this
theorem bytesNum_rng {b : List Int} (hb : ∀ x ∈ b, 0 <= x /\ x <= 255) : 0 <= qbc b /\ qbc b < 256 ^ b.length := by
 have := foldl_rng b hb 0 0 (by omega) (by decide)
 rwa [Nat.zero_add] at this
theorem nDMust_0 (e : Int) (hp : true = true) : gDMust_0 e = some (.ret [] []) := rfl
theorem nDMust_1 (e : Int) (hp : true = true) : gDMust_1 e = some (.pan (.iface 47 (.agg [.int .i64 e])) []) := rfl
theorem nDNext (l : List Int) (d : Int) (hp : qac l = true) : gDNext l d = (Tree.ite (l.isEmpty) (.leaf (.pan (.iface 47 (.agg [.int .i64 1])) [some ⟨.var [.cl (.sli .u8 l), .cl (.int .i64 d)], false⟩])) (.leaf (.ret [.cl (.int .i64 (l.headD 0))] [some ⟨.var [.cl (.sli .u8 l.tail), .cl (.int .i64 d)], false⟩]))).eval := by
 unfold gDNext
 match l, hp with
 | [], _ => rfl
 | x :: r, hp =>
  have hx := qa0 hp (i := 0) (x := x) rfl
  refine qau (by simp only [List.length_cons]; omega) (qau (by simp only [List.length_cons]; omega) ?_)
  simp only [List.getElem?_cons_zero, Option.bind_some]
  refine qau (by simp only [List.length_cons]; omega) ?_
  rw [show IntKind.i64.wrap x = x from i64_in _ (by omega)]
  rfl
end Go.Proofs.YtbgkadaidhgggaaDoorA

namespace Go.Proofs.YtbgkadaidhgggaaDoorA
open IntWalk (i64_in u8_in u32_in u64_in i64_quo u8_quo rem_in)

theorem or_add {n x : Int} (h0 : 0 <= n) (h1 : n < 72057594037927936) (h2 : 0 <= x) (h3 : x <= 255) : ((BitVec.ofInt 64 (n * 256) ||| BitVec.ofInt 64 x).toNat : Int) = n * 256 + x := by
 obtain ⟨a, rfl⟩ : ∃ a : Nat, n = a := ⟨n.toNat, by omega⟩
 obtain ⟨b, rfl⟩ : ∃ b : Nat, x = b := ⟨x.toNat, by omega⟩
 rw [BitVec.toNat_or]
 have e1 : (BitVec.ofInt 64 ((a : Int) * 256)).toNat = 2 ^ 8 * a := by rw [BitVec.toNat_ofInt]; omega
 have e2 : (BitVec.ofInt 64 (b : Int)).toNat = b := by rw [BitVec.toNat_ofInt]; omega
 rw [e1, e2, <- Nat.two_pow_add_eq_or_of_lt (by omega : b < 2 ^ 8)]
 omega
theorem foldl_take3 {r : List Int} (hb : ∀ x ∈ r, 0 <= x /\ x <= 255) {j : Nat} (hj : j <= 3) : 0 <= qbc (r.take j) /\ qbc (r.take j) < 16777216 := by
 have h := bytesNum_rng (b := r.take j) fun x hx => hb x (List.mem_of_mem_take hx)
 refine ⟨h.1, ?_⟩
 have hl : (r.take j).length <= 3 := by simp; omega
 have h3 : (256 ^ (r.take j).length : Nat) <= 16777216 := Nat.le_trans (Nat.pow_le_pow_right (by omega) hl) (by decide)
 have hh : ((256 : Int) ^ (r.take j).length) = ((256 ^ (r.take j).length : Nat) : Int) := by rw [Int.natCast_pow]; rfl
 have := h.2
 rw [hh] at this
 omega

theorem len_lp (k0 : Int -> Int -> Int -> Int -> Int -> Int -> List Int -> Int -> Option Out) (k1 : Int -> Int -> Int -> Int -> List Int -> Int -> Option Out) (F0 : List Int -> Int -> Option Out) (F1 : Int -> List Int -> Int -> Option Out) (h0 : ∀ a b c d e f g h, k0 a b c d e f g h = F0 g h) (c cnt : Int) (h1 : ∀ b d e f, k1 c b cnt d e f = F1 b e f) (hcnt : cnt <= 3) :
  ∀ (f i : Nat) (n : Int) (r : List Int) (d : Int), qac r = true -> (i : Int) <= cnt -> cnt < f + i -> 0 <= n -> n < 256 ^ i ->
  qcj k0 k1 f c n cnt i r d = if (r.length : Int) < cnt - i then F0 [] d else F1 ((r.take (cnt - i).toNat).foldl (fun n x => n * 256 + x) n) (r.drop (cnt - i).toNat) d
 | 0, i, n, r, d, hr, hi, hf, _, _ => by omega
 | f + 1, i, n, r, d, hr, hi, hf, hn0, hn1 => by
  show qgg (qcj k0 k1 f) k0 k1 c n cnt i r d = _
  unfold qgg
  have hi3 : i <= 3 := by omega
  have h3 : (256 ^ i : Nat) <= 16777216 := Nat.le_trans (Nat.pow_le_pow_right (by omega) hi3) (by decide)
  have hh : ((256 : Int) ^ i) = ((256 ^ i : Nat) : Int) := by rw [Int.natCast_pow]; rfl
  have h4 : n < 16777216 := by rw [hh] at hn1; generalize 256 ^ i = z at *; omega
  refine qaf (fun h => ?_) fun h => ?_
  ·cases r with
   | nil =>
    refine qba hr (qba rfl ?_)
    rw [h0, if_pos (by simp; omega)]
   | cons x r =>
    have hx := qa0 hr (i := 0) (x := x) rfl
    extract_lets x4 r5 r6 x7 x8
    have e4 : x4 = n * 256 := (i64_in (n * 2 ^ 8) (by omega)).trans (by omega)
    refine qba hr (b_neg rfl ?_)
    have e7 : x7 = n * 256 + x := by
     show IntKind.i64.wrap ((BitVec.ofInt 64 x4 ||| BitVec.ofInt 64 x).toNat) = _
     rw [e4, or_add hn0 (by omega) hx.1 hx.2]
     exact i64_in _ (by omega)
    have e8 : x8 = ((i + 1 : Nat) : Int) := (i64_in ((i : Int) + 1) (by omega)).trans (by omega)
    rw [e7, e8]
    refine (len_lp k0 k1 F0 F1 h0 c cnt h1 hcnt f (i + 1) _ r6 d (qbn hr) (by omega) (by omega) (by omega) (by rw [Int.pow_succ]; omega)).trans ?_
    show (if (r.length : Int) < cnt - ((i + 1 : Nat) : Int) then _ else F1 ((r.take (cnt - ((i + 1 : Nat) : Int)).toNat).foldl _ _) (r.drop (cnt - ((i + 1 : Nat) : Int)).toNat) d) = _
    obtain ⟨m, hm⟩ : ∃ m : Nat, (cnt - (i : Int)).toNat = m + 1 := ⟨(cnt - (i : Int)).toNat - 1, by omega⟩
    have hm' : (cnt - ((i + 1 : Nat) : Int)).toNat = m := by omega
    rw [hm, hm', List.take_succ_cons, List.foldl_cons, List.drop_succ_cons]
    by_cases hlt : (r.length : Int) < cnt - ((i + 1 : Nat) : Int)
    ·rw [if_pos hlt, if_pos (by simp; omega)]
    ·rw [if_neg hlt, if_neg (by simp; omega)]
  ·rw [h1, if_neg (by omega), show (cnt - (i : Int)).toNat = 0 by omega]
   rfl

theorem len_size {t : List Int} (ht : ∀ x ∈ t, 0 <= x /\ x <= 255) {j : Nat} (hj : 1 <= j) (hj3 : j <= 3) (hl : j <= t.length) : qat (qbc (t.take j)) = 1 + j ↔ ¬(t.headD 0 = 0 \/ qbc (t.take j) < 128) := by
 have hall : ∀ (i : Nat) (x : Int), t[i]? = some x -> 0 <= x /\ x <= 255 := fun i x h => ht x (List.mem_of_getElem? h)
 unfold qat
 match j, hj, hj3, t, hl, hall with
 | 1, _, _, x :: t, _, hall =>
  have := hall 0 x rfl
  simp only [List.take_succ_cons, List.take_zero, qbc, List.foldl_cons, List.foldl_nil, List.headD_cons]
  repeat' split
  all_goals omega
 | 2, _, _, x :: y :: t, _, hall =>
  have := hall 0 x rfl
  have := hall 1 y rfl
  simp only [List.take_succ_cons, List.take_zero, qbc, List.foldl_cons, List.foldl_nil, List.headD_cons]
  repeat' split
  all_goals omega
 | 3, _, _, x :: y :: z :: t, _, hall =>
  have := hall 0 x rfl
  have := hall 1 y rfl
  have := hall 2 z rfl
  simp only [List.take_succ_cons, List.take_zero, qbc, List.foldl_cons, List.foldl_nil, List.headD_cons]
  repeat' split
  all_goals omega
 | 2, _, _, [x], hl, _ => simp at hl
 | 3, _, _, [x], hl, _ => simp at hl
 | 3, _, _, [x, y], hl, _ => simp at hl

theorem qbf (c : Int) (t : List Int) : qab (c :: t) = if c < 128 then (c, 1) else if c = 128 \/ 131 < c \/ (t.length : Int) < c - 128 then (0, 0)
  else if t.headD 0 = 0 \/ qbc (t.take (c - 128).toNat) < 128 then (0, 0) else (qbc (t.take (c - 128).toNat), 1 + (c - 128)) := rfl
theorem nDLength (l : List Int) (d : Int) (hp : qac l = true) : gDLength l d = (Tree.ite (!(qpm l)) (.leaf (.pan (.iface 47 (.agg [.int .i64 1])) [some ⟨.var [.cl (.sli .u8 (qfd l)), .cl (.int .i64 d)], false⟩])) (.leaf (.ret [.cl (.int .i64 (qdj l).1)] [some ⟨.var [.cl (.sli .u8 (qdj l).2), .cl (.int .i64 d)], false⟩]))).eval := by
 unfold gDLength qpm qfd qdj
 simp only [qae, Bool.not_not]
 refine qba hp ?_
 match l, hp with
 | [], _ => rfl
 | c :: t, hp =>
  have hc := qa0 hp (i := 0) (x := c) rfl
  have hl := (qap hp).1
  have ht := (qap (qbn hp)).2
  have hbt := qbn hp
  simp only [List.tail_cons] at ht hbt
  simp only [List.length_cons] at hl
  simp only [List.isEmpty_cons, cond_false, List.headD_cons, List.tail_cons, cond_true]
  have hR : qir (c :: t) = if c = 128 \/ 131 < c then t else t.drop (c - 128).toNat := rfl
  refine qaf (fun h => ?_) fun h => ?_
  ·have hD : qab (c :: t) = (c, 1) := by rw [qbf, if_pos h]
   rw [hD]
   rfl
  ·have hbad : (c = 128 \/ 131 < c) -> some (Out.pan (.iface 47 (.agg [.int .i64 1])) [some ⟨.var [.cl (.sli .u8 t), .cl (.int .i64 d)], false⟩]) = (Tree.ite (decide ((qab (c :: t)).2 = 0)) (.leaf (.pan (.iface 47 (.agg [.int .i64 1])) [some ⟨.var [.cl (.sli .u8 (qir (c :: t))), .cl (.int .i64 d)], false⟩])) (.leaf (.ret [.cl (.int .i64 (qab (c :: t)).1)] [some ⟨.var [.cl (.sli .u8 ((c :: t).drop (qab (c :: t)).2.toNat)), .cl (.int .i64 d)], false⟩]))).eval := fun hb => by
    have hD : qab (c :: t) = (0, 0) := by rw [qbf, if_neg h, if_pos (show c = 128 \/ 131 < c \/ (t.length : Int) < c - 128 by omega)]
    rw [hD, hR, if_pos hb]
    rfl
   refine qaf (fun h1 => qaf (fun h2 => ?_) fun h2 => hbad (by omega)) fun h1 => hbad (by omega)
   rw [show IntKind.i64.wrap (c - 128) = c - 128 from i64_in _ (by omega)]
   obtain ⟨j, hj⟩ : ∃ j : Nat, c - 128 = j := ⟨(c - 128).toNat, by omega⟩
   have key := len_lp (fun _ _ _ _ _ _ y10 y11 => some (.pan (.iface 47 (.agg [.int .i64 1])) [some ⟨.var [.cl (.sli .u8 y10), .cl (.int .i64 y11)], false⟩]))
    (fun y12 y13 _ _ y16 y17 => cond (decide (qbs y13 = IntKind.i64.wrap (IntKind.i64.wrap ((1 : Int) + y12) - 128))) (some (.ret [.cl (.int .i64 y13)] [some ⟨.var [.cl (.sli .u8 y16), .cl (.int .i64 y17)], false⟩])) (some (.pan (.iface 47 (.agg [.int .i64 1])) [some ⟨.var [.cl (.sli .u8 y16), .cl (.int .i64 y17)], false⟩])))
    (fun y10 y11 => some (.pan (.iface 47 (.agg [.int .i64 1])) [some ⟨.var [.cl (.sli .u8 y10), .cl (.int .i64 y11)], false⟩]))
    (fun y13 y16 y17 => cond (decide (qbs y13 = IntKind.i64.wrap (IntKind.i64.wrap ((1 : Int) + c) - 128))) (some (.ret [.cl (.int .i64 y13)] [some ⟨.var [.cl (.sli .u8 y16), .cl (.int .i64 y17)], false⟩])) (some (.pan (.iface 47 (.agg [.int .i64 1])) [some ⟨.var [.cl (.sli .u8 y16), .cl (.int .i64 y17)], false⟩])))
    (fun _ _ _ _ _ _ _ _ => rfl) c (c - 128) (fun _ _ _ _ => rfl) (by omega) FUEL 0 0 t d hbt (by omega) (by unfold FUEL; omega) (by omega) (by decide)
   refine Eq.trans key ?_
   rw [show c - 128 - ((0 : Nat) : Int) = c - 128 by omega]
   simp only [show IntKind.i64.wrap ((1 : Int) + c) = 1 + c from i64_in _ (by omega), show IntKind.i64.wrap (1 + c - 128) = 1 + c - 128 from i64_in _ (by omega), show (c - 128).toNat = j by omega]
   by_cases h5 : (t.length : Int) < c - 128
   ·have hD : qab (c :: t) = (0, 0) := by rw [qbf, if_neg h, if_pos (show c = 128 \/ 131 < c \/ (t.length : Int) < c - 128 by omega)]
    rw [if_pos h5, hD, hR, if_neg (show ¬(c = 128 \/ 131 < c) by omega), qi9 (by omega)]
    rfl
   ·have hD : qab (c :: t) = if t.headD 0 = 0 \/ qbc (t.take j) < 128 then (0, 0) else (qbc (t.take j), 1 + (c - 128)) := by
     rw [qbf, if_neg h, if_neg (show ¬(c = 128 \/ 131 < c \/ (t.length : Int) < c - 128) by omega), show (c - 128).toNat = j by omega]
    rw [if_neg h5]
    have hs := len_size ht (j := j) (by omega) (by omega) (by omega)
    unfold qbs
    simp only [qae]
    rw [show (t.take j).foldl (fun n x => n * 256 + x) 0 = qbc (t.take j) from rfl]
    by_cases h6 : t.headD 0 = 0 \/ qbc (t.take j) < 128
    ·rw [if_pos h6] at hD
     rw [hD, hR, if_neg (show ¬(c = 128 \/ 131 < c) by omega), show (c - 128).toNat = j by omega]
     refine qfq (fun e => ?_) rfl
     exact hs.1 (by omega) h6
    ·rw [if_neg h6] at hD
     rw [hD]
     refine qau (by have := hs.2 h6; omega) ?_
     show _ = (Tree.ite (decide (1 + (c - 128) = 0)) _ _).eval
     rw [show (decide (1 + (c - 128) = 0)) = false from decide_eq_false (by omega), show (1 + (c - 128)).toNat = j + 1 by omega, List.drop_succ_cons]
     rfl
end Go.Proofs.YtbgkadaidhgggaaDoorA

namespace Go.Proofs.YtbgkadaidhgggaaDoorA
open IntWalk (i64_in u8_in u32_in u64_in i64_quo u8_quo rem_in)

theorem cmp_nil (b : List Int) : decide (qbp [] b < 0) = decide (0 < b.length) := by
 cases b with
 | nil => rfl
 | cons x r => simp [qbp]
theorem cmp_nil' (a : List Int) : decide (qbp a [] < 0) = false := by
 cases a with
 | nil => rfl
 | cons x r => simp [qbp]
theorem less_lp (a b : List Int) (hb : a.length <= 100000000) : ∀ (f i : Nat), i <= a.length -> i <= b.length -> a.length < f + i ->
  qeu (fun _ _ y3 _ _ _ _ _ _ _ _ _ _ _ _ _ _ _ _ _ _ _ _ _ _ _ _ _ _ _ _ _ _ => some (.ret [.cl (.bool y3)] [])) (fun y34 y35 _ _ _ _ _ _ _ _ _ => some (.ret [.cl (.bool (decide (((y34.length : Nat) : Int) < ((y35.length : Nat) : Int))))] [])) (fun y45 y46 _ _ _ _ _ => some (.ret [.cl (.bool (decide (((y45.length : Nat) : Int) < ((y46.length : Nat) : Int))))] [])) f a b i =
   some (.ret [.cl (.bool (decide (qbp (a.drop i) (b.drop i) < 0)))] [])
 | 0, i, hi, hi', hf => by omega
 | f + 1, i, hi, hi', hf => by
  show qkt (qeu (fun _ _ y3 _ _ _ _ _ _ _ _ _ _ _ _ _ _ _ _ _ _ _ _ _ _ _ _ _ _ _ _ _ _ => some (.ret [.cl (.bool y3)] [])) (fun y34 y35 _ _ _ _ _ _ _ _ _ => some (.ret [.cl (.bool (decide (((y34.length : Nat) : Int) < ((y35.length : Nat) : Int))))] [])) (fun y45 y46 _ _ _ _ _ => some (.ret [.cl (.bool (decide (((y45.length : Nat) : Int) < ((y46.length : Nat) : Int))))] [])) f) _ _ _ a b i = _
  unfold qkt
  refine qaf (fun h => qaf (fun h' => ?_) fun h' => qav ?_) fun h => qav ?_
  ·obtain ⟨x, hx⟩ := qbj (b := a) (i := i) (by omega)
   obtain ⟨y, hy⟩ := qbj (b := b) (i := i) (by omega)
   refine qau (by omega) (qau h ?_)
   rw [show (i : Int).toNat = i from rfl, hx, Option.bind_some]
   refine qau (by omega) (qau h' ?_)
   rw [hy, Option.bind_some, qh1 hx, qh1 hy]
   refine qb8 (fun hne => qau (by omega) (qau h ?_)) fun he => ?_
   ·rw [Option.bind_some]
    refine qau (by omega) (qau h' ?_)
    rw [Option.bind_some]
    refine qav ?_
    unfold qbp
    by_cases hlt : x < y
    ·rw [if_pos hlt]; simp [hlt]
    ·rw [if_neg hlt, if_pos (by omega)]; simp [hlt]
   ·subst he
    rw [show IntKind.i64.wrap ((i : Int) + 1) = ((i + 1 : Nat) : Int) from (i64_in _ (by omega)).trans (by omega)]
    refine (less_lp a b hb f (i + 1) (by omega) (by omega) (by omega)).trans (qav ?_)
    conv => rhs; unfold qbp
    rw [if_neg (by omega), if_neg (by omega)]
  ·rw [qi9 (b := b) (by omega), cmp_nil']
   exact decide_eq_false (by omega)
  ·rw [qi9 (b := a) (by omega), cmp_nil, List.length_drop, Bool.eq_iff_iff]
   simp only [decide_eq_true_eq]
   omega
theorem nR4Less (a b : List Int) (hp : qid a = true) : gR4Less a b = some (.ret [.cl (.bool (qof a b))] []) := by
 unfold gR4Less qof
 simp only [qae]
 exact less_lp a b (qmk hp) FUEL 0 (by omega) (by omega) (by have := qmk hp; unfold FUEL; omega)

theorem qk2 {l : List CV} (h : qf0 l = true) : l.length <= 1000000 /\ ∀ (i : Nat) (e : CV), l[i]? = some e -> ∃ x, e = .sli .u8 x /\ qac x = true := by
 unfold qf0 at h
 rw [qae] at h
 simp only [Bool.and_eq_true, decide_eq_true_eq, List.all_eq_true] at h
 refine ⟨h.1, fun i e he => ?_⟩
 have := h.2 e (List.mem_of_getElem? he)
 unfold rowCV at this
 split at this
 ·rename_i l'
  refine ⟨l', rfl, ?_⟩
  unfold rowB at this
  simp only [Bool.and_eq_true, decide_eq_true_eq, List.all_eq_true] at this
  exact qbr this.1 fun x hx => qnj (this.2 x hx)
 ·cases this
theorem sorted_two {l : List CV} {i : Nat} {a b : List Int} (h1 : l[i]? = some (.sli .u8 a)) (h2 : l[i + 1]? = some (.sli .u8 b)) : qa1 ((l.map qee).drop i) = (decide (qbp a b <= 0) && qa1 ((l.map qee).drop (i + 1))) := by
 have e1 : (l.map qee)[i]? = some a := by rw [List.getElem?_map, h1]; rfl
 have e2 : (l.map qee)[i + 1]? = some b := by rw [List.getElem?_map, h2]; rfl
 have d : ∀ {l : List (List Int)} {i : Nat} {x : List Int}, l[i]? = some x -> l.drop i = x :: l.drop (i + 1) := fun {l i x} h => by
  obtain ⟨hlt, e⟩ := List.getElem?_eq_some_iff.1 h
  rw [List.drop_eq_getElem_cons hlt, e]
 rw [d e1, d e2]
 rfl
theorem sorted_one {l : List CV} {i : Nat} (h : l.length <= i + 1) : qa1 ((l.map qee).drop i) = true := by
 have : ((l.map qee).drop i).length <= 1 := by simp; omega
 match (l.map qee).drop i, this with
 | [], _ => rfl
 | [_], _ => rfl
 | _ :: _ :: _, h => simp at h
theorem cmp_swap : ∀ (a b : List Int), decide (qbp b a < 0) = !(decide (qbp a b <= 0))
 | [], [] => rfl
 | [], _ :: _ => by simp [qbp]
 | _ :: _, [] => by simp [qbp]
 | x :: a, y :: b => by
  unfold qbp
  by_cases h1 : x < y
  ·rw [if_pos h1, if_neg (by omega), if_pos h1]; simp
  ·by_cases h2 : y < x
   ·rw [if_pos h2, if_neg h1, if_pos h2]; simp
   ·rw [if_neg h1, if_neg h2, if_neg h2, if_neg h1]; exact cmp_swap a b

theorem r4_lp (l : List CV) (hok : qf0 l = true) : ∀ (f i : Nat), l.length < f + i -> qcz (fun _ _ _ _ _ _ _ _ _ _ _ _ _ _ _ _ => some (.ret [.cl (.bool false)] [])) (fun _ _ _ _ _ => some (.ret [.cl (.bool true)] [])) f l ((i + 1 : Nat) : Int) = some (.ret [.cl (.bool (qa1 ((l.map qee).drop i)))] []) \/ f = 0
 | 0, i, hf => .inr rfl
 | f + 1, i, hf => by
  left
  obtain ⟨hl, hr⟩ := qk2 hok
  show qfj (qcz (fun _ _ _ _ _ _ _ _ _ _ _ _ _ _ _ _ => some (.ret [.cl (.bool false)] [])) (fun _ _ _ _ _ => some (.ret [.cl (.bool true)] [])) f) _ _ l ((i + 1 : Nat) : Int) = _
  unfold qfj
  refine qaf (fun h => qau (by omega) (qau h ?_)) fun h => qav ?_
  ·obtain ⟨e1, he1⟩ := qbj (b := l) (i := i) (by omega)
   obtain ⟨e2, he2⟩ := qbj (b := l) (i := i + 1) (by omega)
   obtain ⟨x, rfl, hx⟩ := hr _ _ he1
   obtain ⟨y, rfl, hy⟩ := hr _ _ he2
   rw [show ((i + 1 : Nat) : Int).toNat = i + 1 from rfl, he2, Option.bind_some]
   refine qba rfl ?_
   rw [show IntKind.i64.wrap (((i + 1 : Nat) : Int) - 1) = (i : Int) from (i64_in _ (by omega)).trans (by omega)]
   refine qau (by omega) (qau (by omega) ?_)
   rw [show (i : Int).toNat = i from rfl, he1, Option.bind_some]
   refine qba rfl (qba (qlw (by have := (qap hy).1; show y.length <= _; omega)) ?_)
   show cond (qof y x) _ _ = _
   rw [sorted_two he1 he2]
   unfold qof
   rw [qae, cmp_swap x y]
   cases decide (qbp x y <= 0) with
   | true =>
    simp only [Bool.not_true, cond_false, Bool.true_and]
    rw [show IntKind.i64.wrap (((i + 1 : Nat) : Int) + 1) = ((i + 1 + 1 : Nat) : Int) from (i64_in _ (by omega)).trans (by omega)]
    exact (r4_lp l hok f (i + 1) (by omega)).resolve_right (by omega)
   | false => rfl
  ·rw [sorted_one (by omega)]
theorem nR4Sorted (l : List CV) (hp : qf0 l = true) : gR4Sorted l = some (.ret [.cl (.bool (qbg l))] []) := by
 unfold gR4Sorted qbg
 simp only [qae]
 exact (r4_lp l hp FUEL 0 (by have := (qk2 hp).1; unfold FUEL; omega)).resolve_right (by unfold FUEL; omega)

theorem nBCompare (a b : List Int) (hp : (qac a && qac b) = true) : gBCompare a b = some (.ret [.cl (.int .i64 (qfl a b))] []) := by
 unfold gBCompare
 exact qba hp rfl
theorem nOLess (a b : List Int) (hp : (qac a && qac b) = true) : gOLess a b = some (.ret [.cl (.bool (decide (qfl a b <= 0)))] []) := by
 unfold gOLess
 exact qba hp rfl
theorem os_lp (l : List CV) (hok : qf0 l = true) : ∀ (f i : Nat), l.length < f + i -> qe1 (fun _ _ _ _ _ _ _ _ _ _ _ _ _ _ _ _ _ => some (.ret [.cl (.bool false)] [])) (fun _ _ _ _ _ => some (.ret [.cl (.bool true)] [])) f l ((i + 1 : Nat) : Int) = some (.ret [.cl (.bool (qa1 ((l.map qee).drop i)))] []) \/ f = 0
 | 0, i, hf => .inr rfl
 | f + 1, i, hf => by
  left
  obtain ⟨hl, hr⟩ := qk2 hok
  show qkd (qe1 (fun _ _ _ _ _ _ _ _ _ _ _ _ _ _ _ _ _ => some (.ret [.cl (.bool false)] [])) (fun _ _ _ _ _ => some (.ret [.cl (.bool true)] [])) f) _ _ l ((i + 1 : Nat) : Int) = _
  unfold qkd
  refine qaf (fun h => ?_) fun h => qav ?_
  ·obtain ⟨e1, he1⟩ := qbj (b := l) (i := i) (by omega)
   obtain ⟨e2, he2⟩ := qbj (b := l) (i := i + 1) (by omega)
   obtain ⟨x, rfl, hx⟩ := hr _ _ he1
   obtain ⟨y, rfl, hy⟩ := hr _ _ he2
   rw [show IntKind.i64.wrap (((i + 1 : Nat) : Int) - 1) = (i : Int) from (i64_in _ (by omega)).trans (by omega)]
   refine qau (by omega) (qau (by omega) ?_)
   rw [show (i : Int).toNat = i from rfl, he1, Option.bind_some]
   refine qba rfl (qau (by omega) (qau h ?_))
   rw [show ((i + 1 : Nat) : Int).toNat = i + 1 from rfl, he2, Option.bind_some]
   refine qba rfl (qba (by show (qac x && qac y) = true; rw [hx, hy]; rfl) ?_)
   show cond (!(decide (qfl x y <= 0))) _ _ = _
   rw [sorted_two he1 he2]
   unfold qfl
   rw [qae]
   cases decide (qbp x y <= 0) with
   | true =>
    simp only [Bool.not_true, cond_false, Bool.true_and]
    rw [show IntKind.i64.wrap (((i + 1 : Nat) : Int) + 1) = ((i + 1 + 1 : Nat) : Int) from (i64_in _ (by omega)).trans (by omega)]
    exact (os_lp l hok f (i + 1) (by omega)).resolve_right (by omega)
   | false => rfl
  ·rw [sorted_one (by omega)]
theorem nOSteps (l : List CV) (hp : qf0 l = true) : gOSteps l = some (.ret [.cl (.bool (qbg l))] []) := by
 unfold gOSteps qbg
 simp only [qae]
 exact (os_lp l hp FUEL 0 (by have := (qk2 hp).1; unfold FUEL; omega)).resolve_right (by unfold FUEL; omega)
theorem nOSorted (l : List CV) (hp : qf0 l = true) : gOSorted l = some (.ret [.cl (.bool (qbg l))] []) := by
 unfold gOSorted
 exact qba hp rfl
end Go.Proofs.YtbgkadaidhgggaaDoorA

namespace Go.Proofs.YtbgkadaidhgggaaDoorA
open IntWalk (i64_in u8_in u32_in u64_in i64_quo u8_quo rem_in)

theorem qdd (c : Int) (r : List Int) : qcp (c :: r) = if c < 128 then 1
  else if 194 <= c /\ c <= 223 /\ u8At r 0 = true then 2
  else if 224 <= c /\ c <= 239 /\ u8At r 0 = true /\ u8At r 1 = true /\ (c = 224 -> 160 <= r.headD 0) /\ (c = 237 -> r.headD 0 < 160) then 3
  else if 240 <= c /\ c <= 244 /\ u8At r 0 = true /\ u8At r 1 = true /\ u8At r 2 = true /\ (c = 240 -> 144 <= r.headD 0) /\ (c = 244 -> r.headD 0 < 144) then 4
  else 0 := rfl
set_option maxHeartbeats 4000000 in
theorem nRRune (b : List Int) (i : Int) (hp : (qac b && decide (0 <= i /\ i < b.length)) = true) : gRRune b i = some (.ret [.cl (.int .i64 (u8Rune b i))] []) := by
 simp only [Bool.and_eq_true, decide_eq_true_eq] at hp
 obtain ⟨hb, hi0, hi1⟩ := hp
 have hl := (qap hb).1
 obtain ⟨c, hc⟩ := qbj (b := b) (i := i.toNat) (by omega)
 have hcr := qa0 hb hc
 have hdrop := qh1 hc
 have hat : ∀ k : Nat, b[i.toNat + 1 + k]? = (b.drop (i.toNat + 1))[k]? := fun k => by rw [List.getElem?_drop]
 generalize ht : b.drop (i.toNat + 1) = t at *
 have huc : ∀ k : Nat, u8Cont b (i + ((k + 1 : Nat) : Int)) = u8At t k := fun k => by
  unfold u8Cont u8At
  rw [qae, show (i + ((k + 1 : Nat) : Int)).toNat = i.toNat + 1 + k by omega, hat]
 have w1 : IntKind.i64.wrap (i + 1) = i + 1 := i64_in _ (by omega)
 have w2 : IntKind.i64.wrap (i + 2) = i + 2 := i64_in _ (by omega)
 have w3 : IntKind.i64.wrap (i + 3) = i + 3 := i64_in _ (by omega)
 have u1 : u8Cont b (i + 1) = u8At t 0 := huc 0
 have u2 : u8Cont b (i + 2) = u8At t 1 := huc 1
 have u3 : u8Cont b (i + 3) = u8At t 2 := huc 2
 unfold u8Rune
 rw [qae, hdrop, qdd]
 unfold gRRune qqt qkv qjx qqi qk3 qj5 qm4 qc7 qd7 qdv
 simp only [qae, hc, Option.bind_some, w1, w2, w3, u1, u2, u3]
 refine qau hi0 (qau hi1 (qau (by omega) ?_))
 cases ha0 : u8At t 0 with
 | false =>
  simp only [cond_false, Bool.false_eq_true, and_false, false_and, if_false]
  repeat' (refine qaf (fun _ => ?_) fun _ => ?_)
  all_goals first
   | (refine qll ?_; (repeat' split) <;> omega)
   | omega
 | true =>
  obtain ⟨y, t', rfl⟩ : ∃ y t', t = y :: t' := by
   cases t with
   | nil => simp [u8At] at ha0
   | cons y t' => exact ⟨y, t', rfl⟩
  have hy : b[(i + 1).toNat]? = some y := by
   have := hat 0
   rw [show (i + 1).toNat = i.toNat + 1 + 0 by omega, this]; rfl
  have hy1 : i + 1 < b.length := by
   have := (List.getElem?_eq_some_iff.1 hy).1
   omega
  simp only [cond_true, hy, Option.bind_some, List.headD_cons, true_and, and_true]
  refine qau (by omega) ?_
  cases ha1 : u8At (y :: t') 1 with
  | false =>
   simp only [cond_false, Bool.false_eq_true, and_false, false_and, if_false]
   repeat' (refine qaf (fun _ => ?_) fun _ => ?_)
   all_goals first
    | (refine qll ?_; (repeat' split) <;> omega)
    | omega
  | true =>
   simp only [cond_true, true_and]
   cases ha2 : u8At (y :: t') 2 with
   | false =>
    simp only [cond_false, Bool.false_eq_true, and_false, false_and, if_false]
    repeat' (first | refine qaf (fun _ => ?_) fun _ => ?_ | refine qb8 (fun _ => ?_) fun _ => ?_)
    all_goals first
     | (refine qll ?_; (repeat' split) <;> omega)
     | omega
   | true =>
    simp only [cond_true, true_and]
    repeat' (first | refine qaf (fun _ => ?_) fun _ => ?_ | refine qb8 (fun _ => ?_) fun _ => ?_)
    all_goals first
     | (refine qll ?_; (repeat' split) <;> omega)
     | omega

theorem rune_rng (l : List Int) : 0 <= qcp l /\ qcp l <= l.length /\ (qcp l = 0 -> ∀ c r, l = c :: r -> ¬ c < 128) := by
 have hlt : ∀ (l : List Int) (k : Nat), u8At l k = true -> k < l.length := fun l k h => by
  unfold u8At at h
  split at h
  ·rename_i x hx; exact (List.getElem?_eq_some_iff.1 hx).1
  ·cases h
 cases l with
 | nil => exact ⟨by simp [qcp], by simp [qcp], fun _ c r h => by cases h⟩
 | cons c r =>
  rw [qdd]
  by_cases h1 : c < 128
  ·rw [if_pos h1]; exact ⟨by omega, by simp; omega, fun h => by omega⟩
  ·rw [if_neg h1]
   split
   ·rename_i h; have := hlt _ _ h.2.2; exact ⟨by omega, by simp only [List.length_cons]; omega, fun h => by omega⟩
   ·split
    ·rename_i h; have := hlt _ _ h.2.2.2.1; exact ⟨by omega, by simp only [List.length_cons]; omega, fun h => by omega⟩
    ·split
     ·rename_i h; have := hlt _ _ h.2.2.2.2.1; exact ⟨by omega, by simp only [List.length_cons]; omega, fun h => by omega⟩
     ·exact ⟨by omega, by simp only [List.length_cons]; omega, fun _ c' r' e => by cases e; exact h1⟩
theorem valid_more : ∀ (n m : Nat) (l : List Int), l.length <= n -> l.length <= m -> qg5 n l = qg5 m l
 | 0, 0, l, _, _ => rfl
 | 0, m + 1, l, h, _ => by
  have : l = [] := List.eq_nil_of_length_eq_zero (by omega)
  subst this
  simp [qg5]
 | n + 1, 0, l, _, h => by
  have : l = [] := List.eq_nil_of_length_eq_zero (by omega)
  subst this
  simp [qg5]
 | n + 1, m + 1, l, h1, h2 => by
  unfold qg5
  by_cases h : l = []
  ·rw [if_pos h, if_pos h]
  ·rw [if_neg h, if_neg h]
   by_cases h0 : qcp l = 0
   ·rw [if_pos h0, if_pos h0]
   ·rw [if_neg h0, if_neg h0]
    have := rune_rng l
    exact valid_more n m _ (by simp only [List.length_drop]; omega) (by simp only [List.length_drop]; omega)
theorem qjr (l : List Int) : qb2 l = if l = [] then true else if qcp l = 0 then false else qb2 (l.drop (qcp l).toNat) := by
 unfold qb2
 cases l with
 | nil => simp [qg5]
 | cons c r =>
  rw [if_neg (by simp)]
  conv => lhs; rw [List.length_cons]; unfold qg5
  rw [if_neg (by simp)]
  by_cases h0 : qcp (c :: r) = 0
  ·rw [if_pos h0, if_pos h0]
  ·rw [if_neg h0, if_neg h0]
   have := rune_rng (c :: r)
   exact valid_more _ _ _ (by simp only [List.length_drop, List.length_cons]; omega) (Nat.le_refl _)
theorem utf_lp (b : List Int) (hb : qac b = true) : ∀ (f i : Nat), i <= b.length -> b.length < f + i ->
  qhd (fun _ _ _ _ _ _ _ _ _ _ => some (.ret [.cl (.bool false)] [])) (fun _ _ _ _ _ => some (.ret [.cl (.bool true)] [])) f b i = some (.ret [.cl (.bool (qb2 (b.drop i)))] [])
 | 0, i, hi, hf => by omega
 | f + 1, i, hi, hf => by
  show qm2 (qhd (fun _ _ _ _ _ _ _ _ _ _ => some (.ret [.cl (.bool false)] [])) (fun _ _ _ _ _ => some (.ret [.cl (.bool true)] [])) f) _ _ b i = _
  unfold qm2
  have hl := (qap hb).1
  refine qaf (fun h => qba ?_ ?_) fun h => qav ?_
  ·simp only [Bool.and_eq_true, decide_eq_true_eq]; exact ⟨hb, by omega, by omega⟩
  ·extract_lets r1 x2
   have hr := rune_rng (b.drop i)
   have e1 : r1 = qcp (b.drop i) := by show u8Rune b i = _; unfold u8Rune; rw [qae]; rfl
   rw [List.length_drop] at hr
   rw [qjr, if_neg (by intro e; have := congrArg List.length e; simp at this; omega)]
   refine qaf (fun h0 => qav ?_) fun h0 => ?_
   ·rw [if_pos (by omega)]
   ·rw [if_neg (by omega)]
    have e2 : x2 = ((i + (qcp (b.drop i)).toNat : Nat) : Int) := (i64_in ((i : Int) + r1) (by omega)).trans (by omega)
    rw [e2]
    refine (utf_lp b hb f _ (by omega) (by omega)).trans ?_
    rw [List.drop_drop]
  ·rw [qi9 (by omega)]; rfl
theorem nRUtf8 (b : List Int) (hp : qac b = true) : gRUtf8 b = some (.ret [.cl (.bool (u8Valid b))] []) := by
 unfold gRUtf8 u8Valid
 simp only [qae]
 exact utf_lp b hp FUEL 0 (by omega) (by have := (qap hp).1; unfold FUEL; omega)
end Go.Proofs.YtbgkadaidhgggaaDoorA

namespace Go.Proofs.YtbgkadaidhgggaaDoorA
open IntWalk (i64_in u8_in u32_in u64_in i64_quo u8_quo rem_in)

/-! ### words -/
theorem ofNat64 {n : Nat} (h : n < 2 ^ 64) : (BitVec.ofInt 64 (n : Int)).toNat = n := by
 rw [BitVec.toNat_ofInt]; omega
theorem orN {a b : Nat} (ha : a < 2 ^ 64) (hb : b < 2 ^ 64) : IntKind.u64.wrap ((BitVec.ofInt 64 (a : Int) ||| BitVec.ofInt 64 (b : Int)).toNat) = ((a ||| b : Nat) : Int) := by
 rw [BitVec.toNat_or, ofNat64 ha, ofNat64 hb]
 have := Nat.or_lt_two_pow ha hb
 exact u64_in _ (by omega)
theorem andN {a b : Nat} (ha : a < 2 ^ 64) (hb : b < 2 ^ 64) : IntKind.u64.wrap ((BitVec.ofInt 64 (a : Int) &&& BitVec.ofInt 64 (b : Int)).toNat) = ((a &&& b : Nat) : Int) := by
 rw [BitVec.toNat_and, ofNat64 ha, ofNat64 hb]
 have : a &&& b <= a := Nat.and_le_left
 exact u64_in _ (by omega)
theorem nUWord (b : List Int) (hp : (qac b && decide (8 <= b.length)) = true) : gUWord b = some (.ret [.cl (.int .u64 (u8Word b))] []) := by
 simp only [Bool.and_eq_true, decide_eq_true_eq] at hp
 obtain ⟨hb, hl⟩ := hp
 match b, hl, hb with
 | x0 :: x1 :: x2 :: x3 :: x4 :: x5 :: x6 :: x7 :: r, _, hb =>
  have r0 := qa0 hb (i := 0) (x := x0) rfl
  have r1 := qa0 hb (i := 1) (x := x1) rfl
  have r2 := qa0 hb (i := 2) (x := x2) rfl
  have r3 := qa0 hb (i := 3) (x := x3) rfl
  have r4 := qa0 hb (i := 4) (x := x4) rfl
  have r5 := qa0 hb (i := 5) (x := x5) rfl
  have r6 := qa0 hb (i := 6) (x := x6) rfl
  have r7 := qa0 hb (i := 7) (x := x7) rfl
  obtain ⟨n0, rfl⟩ : ∃ n : Nat, x0 = n := ⟨x0.toNat, by omega⟩
  obtain ⟨n1, rfl⟩ : ∃ n : Nat, x1 = n := ⟨x1.toNat, by omega⟩
  obtain ⟨n2, rfl⟩ : ∃ n : Nat, x2 = n := ⟨x2.toNat, by omega⟩
  obtain ⟨n3, rfl⟩ : ∃ n : Nat, x3 = n := ⟨x3.toNat, by omega⟩
  obtain ⟨n4, rfl⟩ : ∃ n : Nat, x4 = n := ⟨x4.toNat, by omega⟩
  obtain ⟨n5, rfl⟩ : ∃ n : Nat, x5 = n := ⟨x5.toNat, by omega⟩
  obtain ⟨n6, rfl⟩ : ∃ n : Nat, x6 = n := ⟨x6.toNat, by omega⟩
  obtain ⟨n7, rfl⟩ : ∃ n : Nat, x7 = n := ⟨x7.toNat, by omega⟩
  unfold gUWord u8Word u8WordC
  simp only [qae, List.getElem?_cons_zero, List.getElem?_cons_succ, Option.bind_some, List.length_cons, List.getD_cons_zero, List.getD_cons_succ, Int.toNat_natCast]
  have w : ∀ n : Nat, n <= 255 -> IntKind.u64.wrap (n : Int) = (n : Int) := fun n h => u64_in _ (by omega)
  have sh : ∀ (n k : Nat), n <= 255 -> k <= 56 -> IntKind.u64.wrap ((n : Int) * 2 ^ k) = ((n * 2 ^ k : Nat) : Int) := fun n k h hk => by
   have h2 : 2 ^ k <= 2 ^ 56 := Nat.pow_le_pow_right (by omega) hk
   have h3 : n * 2 ^ k <= 255 * 2 ^ 56 := Nat.mul_le_mul h h2
   have e : ((n : Int) * 2 ^ k) = ((n * 2 ^ k : Nat) : Int) := by rw [Int.natCast_mul, Int.natCast_pow]; rfl
   rw [e]
   exact u64_in _ (by omega)
  have lt : ∀ (n k : Nat), n <= 255 -> k <= 56 -> n * 2 ^ k < 2 ^ 64 := fun n k h hk => by
   have h2 : 2 ^ k <= 2 ^ 56 := Nat.pow_le_pow_right (by omega) hk
   have h3 : n * 2 ^ k <= 255 * 2 ^ 56 := Nat.mul_le_mul h h2
   omega
  have p0 : n0 < 2 ^ 64 := by omega
  have p1 := Nat.or_lt_two_pow p0 (lt n1 8 (by omega) (by omega))
  have p2 := Nat.or_lt_two_pow p1 (lt n2 16 (by omega) (by omega))
  have p3 := Nat.or_lt_two_pow p2 (lt n3 24 (by omega) (by omega))
  have p4 := Nat.or_lt_two_pow p3 (lt n4 32 (by omega) (by omega))
  have p5 := Nat.or_lt_two_pow p4 (lt n5 40 (by omega) (by omega))
  have p6 := Nat.or_lt_two_pow p5 (lt n6 48 (by omega) (by omega))
  rw [w n0 (by omega), w n1 (by omega), w n2 (by omega), w n3 (by omega), w n4 (by omega), w n5 (by omega), w n6 (by omega), w n7 (by omega)]
  rw [sh n1 8 (by omega) (by omega), sh n2 16 (by omega) (by omega), sh n3 24 (by omega) (by omega), sh n4 32 (by omega) (by omega), sh n5 40 (by omega) (by omega), sh n6 48 (by omega) (by omega), sh n7 56 (by omega) (by omega)]
  rw [orN p0 (lt n1 8 (by omega) (by omega)), orN p1 (lt n2 16 (by omega) (by omega)), orN p2 (lt n3 24 (by omega) (by omega)), orN p3 (lt n4 32 (by omega) (by omega)), orN p4 (lt n5 40 (by omega) (by omega)), orN p5 (lt n6 48 (by omega) (by omega)), orN p6 (lt n7 56 (by omega) (by omega))]
  exact qau (by omega) (qau (by omega) (qau (by omega) (qau (by omega) (qau (by omega) (qau (by omega) (qau (by omega) (qau (by omega) rfl)))))))

def MASK : Nat := 9259542123273814144
theorem qi6 {a b : Nat} : (a ||| b) &&& MASK = 0 ↔ a &&& MASK = 0 /\ b &&& MASK = 0 := by
 rw [Nat.and_or_distrib_right]
 constructor
 ·intro h
  have h1 : a &&& MASK <= (a &&& MASK) ||| (b &&& MASK) := Nat.left_le_or
  have h2 : b &&& MASK <= (a &&& MASK) ||| (b &&& MASK) := Nat.right_le_or
  omega
 ·rintro ⟨h1, h2⟩
  rw [h1, h2]; rfl
theorem byte_zero : ∀ k : Fin 8, ∀ n : Fin 256, ((n.val * 2 ^ (8 * k.val)) &&& MASK = 0) = (n.val < 128) := by decide +kernel
/-- the first k bytes are characters of one byte -/
def asciiK (k : Nat) (l : List Int) : Prop := k <= l.length /\ ∀ i x, i < k -> l[i]? = some x -> x < 128
theorem qnp : ∀ (k : Nat) (l : List Int), asciiK k l -> qb2 (l.drop k) = qb2 l
 | 0, l, _ => rfl
 | k + 1, l, h => by
  match l, h with
  | [], h => have := h.1; simp at this
  | c :: r, h =>
   have hc : c < 128 := h.2 0 c (by omega) rfl
   rw [qjr (c :: r), if_neg (by simp), qdd, if_pos hc, if_neg (by omega)]
   exact qnp k r ⟨by have := h.1; simp at this; omega, fun i x hi hx => h.2 (i + 1) x (by omega) (by simpa using hx)⟩
theorem qgy {l : List Int} (hb : qac l = true) (hl : 8 <= l.length) : ∃ N : Nat, u8Word l = N /\ N < 2 ^ 64 /\ (N &&& MASK = 0 -> asciiK 8 l) := by
 unfold u8Word
 rw [qae]
 refine ⟨_, rfl, ?_, fun h => ⟨hl, ?_⟩⟩
 ·have hr : ∀ i, (l.getD i 0).toNat <= 255 := fun i => by
   rw [List.getD_eq_getElem?_getD]
   cases hx : l[i]? with
   | none => simp
   | some x => have := qa0 hb hx; simp; omega
  have h0 := hr 0; have h1 := hr 1; have h2 := hr 2; have h3 := hr 3; have h4 := hr 4; have h5 := hr 5; have h6 := hr 6; have h7 := hr 7
  exact Nat.or_lt_two_pow (Nat.or_lt_two_pow (Nat.or_lt_two_pow (Nat.or_lt_two_pow (Nat.or_lt_two_pow (Nat.or_lt_two_pow (Nat.or_lt_two_pow (by omega) (by omega)) (by omega)) (by omega)) (by omega)) (by omega)) (by omega)) (by omega)
 ·rw [qi6, qi6, qi6, qi6, qi6, qi6, qi6] at h
  obtain ⟨⟨⟨⟨⟨⟨⟨a0, a1⟩, a2⟩, a3⟩, a4⟩, a5⟩, a6⟩, a7⟩ := h
  have key : ∀ (k : Fin 8) (n : Nat), n <= 255 -> (n * 2 ^ (8 * k.val)) &&& MASK = 0 -> n < 128 := fun k n hn h => by
   have := byte_zero k ⟨n, by omega⟩
   simp only at this
   rw [this] at h
   exact h
  intro i x hi hx
  have hxr := qa0 hb hx
  have hg : (l.getD i 0).toNat = x.toNat := by rw [List.getD_eq_getElem?_getD, hx]; rfl
  match i, hi, hg with
  | 0, _, hg => rw [hg] at a0; have := key 0 x.toNat (by omega) (by simpa using a0); omega
  | 1, _, hg => rw [hg] at a1; have := key 1 x.toNat (by omega) a1; omega
  | 2, _, hg => rw [hg] at a2; have := key 2 x.toNat (by omega) a2; omega
  | 3, _, hg => rw [hg] at a3; have := key 3 x.toNat (by omega) a3; omega
  | 4, _, hg => rw [hg] at a4; have := key 4 x.toNat (by omega) a4; omega
  | 5, _, hg => rw [hg] at a5; have := key 5 x.toNat (by omega) a5; omega
  | 6, _, hg => rw [hg] at a6; have := key 6 x.toNat (by omega) a6; omega
  | 7, _, hg => rw [hg] at a7; have := key 7 x.toNat (by omega) a7; omega
theorem qqy {j k : Nat} {l : List Int} (h1 : asciiK j l) (h2 : asciiK k (l.drop j)) : asciiK (j + k) l := by
 refine ⟨by have := h2.1; simp only [List.length_drop] at this; have := h1.1; omega, fun i x hi hx => ?_⟩
 by_cases h : i < j
 ·exact h1.2 i x h hx
 ·exact h2.2 (i - j) x (by omega) (by rw [List.getElem?_drop, show j + (i - j) = i by omega]; exact hx)

theorem uv_inner (A : List Int -> Option Out) (R : Option Out) (L : Nat) (v : Bool) (hA : ∀ l, l.length <= L -> qac l = true -> qb2 l = v -> A l = R) : ∀ (f : Nat) (l : List Int), l.length < f -> l.length <= L -> qac l = true -> qb2 l = v ->
  qdp (fun y13 _ _ _ _ _ _ _ _ _ _ _ _ _ _ _ _ _ _ _ => A y13) (fun y33 _ _ _ => A y33) f l = R
 | 0, l, h, _, _, _ => by omega
 | f + 1, l, hf, hL, hb, hv => by
  show qgc (qdp (fun y13 _ _ _ _ _ _ _ _ _ _ _ _ _ _ _ _ _ _ _ => A y13) (fun y33 _ _ _ => A y33) f) _ _ l = R
  unfold qgc
  refine qaf (fun h => ?_) fun h => hA l hL hb hv
  have b1 := qa5 hb 8
  have b2 := qa5 hb 16
  have b3 := qa5 hb 24
  have l1 : 8 <= (l.drop 8).length := by simp only [List.length_drop]; omega
  have l2 : 8 <= (l.drop 16).length := by simp only [List.length_drop]; omega
  have l3 : 8 <= (l.drop 24).length := by simp only [List.length_drop]; omega
  obtain ⟨n0, e0, p0, q0⟩ := qgy hb (show 8 <= l.length by omega)
  obtain ⟨n1, e1, p1, q1⟩ := qgy b1 l1
  obtain ⟨n2, e2, p2, q2⟩ := qgy b2 l2
  obtain ⟨n3, e3, p3, q3⟩ := qgy b3 l3
  have two : ∀ (l : List Int), qac l = true -> 8 <= l.length -> (qac l && decide (8 <= l.length)) = true := fun l h1 h2 => by rw [h1, decide_eq_true h2]; rfl
  refine qba (two _ hb (by omega)) (qau (by omega) (qba (two _ b1 l1) (qau (by omega) (qba (two _ b2 l2) (qau (by omega) (qba (two _ b3 l3) ?_))))))
  dsimp only
  rw [e0, e1, e2, e3]
  rw [orN p0 p1, orN p2 p3, orN (Nat.or_lt_two_pow p0 p1) (Nat.or_lt_two_pow p2 p3)]
  rw [show (9259542123273814144 : Int) = ((MASK : Nat) : Int) from rfl, andN (Nat.or_lt_two_pow (Nat.or_lt_two_pow p0 p1) (Nat.or_lt_two_pow p2 p3)) (by decide)]
  refine qaf (fun hz => qau (by omega) ?_) fun _ => hA l hL hb hv
  have hz : ((n0 ||| n1) ||| (n2 ||| n3)) &&& MASK = 0 := by omega
  rw [qi6, qi6, qi6] at hz
  have hasc := qqy (qqy (qqy (q0 hz.1.1) (q1 hz.1.2)) (q2 hz.2.1)) (q3 hz.2.2)
  exact uv_inner A R L v hA f _ (by simp only [List.length_drop]; omega) (by simp only [List.length_drop]; omega) (qa5 hb 32) ((qnp 32 l hasc).trans hv)

/-! ### the table -/
def tabSpec (n s lo hi : Int) : Bool :=
 decide ((s = 1 /\ (n < 194 \/ 244 < n)) \/ (s = 2 /\ 194 <= n /\ n <= 223 /\ lo = 128 /\ hi = 191) \/ (s = 3 /\ 224 <= n /\ n <= 239 /\ lo = (if n = 224 then 160 else 128) /\ hi = (if n = 237 then 159 else 191)) \/
  (s = 4 /\ 240 <= n /\ n <= 244 /\ lo = (if n = 240 then 144 else 128) /\ hi = (if n = 244 then 143 else 191)))
def tabB (n : Nat) : Bool := match qfs[n]? with
 | some f => match qj9[(Int.fdiv f (2 ^ 4)).toNat]? with
  | some (.agg [.int .u8 lo, .int .u8 hi]) => decide (0 <= Int.fdiv f (2 ^ 4) /\ Int.fdiv f (2 ^ 4) < 16) && tabSpec n (IntKind.i64.wrap (IntKind.u8.wrap ((BitVec.ofInt 8 f &&& BitVec.ofInt 8 7).toNat))) lo hi
  | _ => false
 | none => false
theorem tab_all : ∀ n : Fin 256, 128 <= n.val -> tabB n.val = true := by decide +kernel
theorem tab_of {e : Int} (h1 : 128 <= e) (h2 : e <= 255) : ∃ f lo hi, u8First[e.toNat]? = some f /\ (0 <= Int.fdiv f (2 ^ 4) /\ Int.fdiv f (2 ^ 4) < 16) /\ u8Accept[(Int.fdiv f (2 ^ 4)).toNat]? = some (.agg [.int .u8 lo, .int .u8 hi]) /\
  tabSpec e (IntKind.i64.wrap (IntKind.u8.wrap ((BitVec.ofInt 8 f &&& BitVec.ofInt 8 7).toNat))) lo hi = true := by
 have h := tab_all ⟨e.toNat, by omega⟩ (by simp; omega)
 simp only at h
 unfold tabB at h
 unfold u8First u8Accept
 simp only [qae]
 split at h
 ·rename_i f hf
  split at h
  ·rename_i lo hi ha
   simp only [Bool.and_eq_true, decide_eq_true_eq] at h
   refine ⟨f, lo, hi, hf, h.1, ha, ?_⟩
   rw [show e = ((e.toNat : Nat) : Int) by omega]
   exact h.2
  ·cases h
 ·cases h

theorem at_true {l : List Int} {k : Nat} {x : Int} (h : l[k]? = some x) : u8At l k = decide (128 <= x /\ x < 192) := by unfold u8At; rw [h]
theorem uv_lp : ∀ (f : Nat) (l : List Int), l.length < f -> qac l = true -> qdi (fun _ _ _ _ _ _ _ _ _ _ _ _ _ _ _ _ _ _ _ _ _ _ _ _ _ _ _ _ _ _ => some (.ret [.cl (.bool false)] [])) (fun _ _ _ _ _ _ _ _ _ _ _ _ _ _ _ _ _ _ _ _ _ _ _ _ _ _ _ _ _ _ _ _ _ _ _ _ => some (.ret [.cl (.bool false)] [])) (fun _ _ _ _ _ _ _ _ _ _ _ _ _ _ _ _ _ _ _ _ _ _ _ _ _ _ _ _ _ _ _ _ _ _ _ _ _ _ _ _ _ => some (.ret [.cl (.bool false)] [])) (fun _ _ _ _ _ _ _ _ _ _ _ _ _ _ _ _ _ _ _ _ _ _ _ _ _ _ _ _ _ _ _ => some (.ret [.cl (.bool false)] [])) (fun _ _ _ _ _ _ _ _ _ _ _ _ _ _ _ _ _ _ _ _ _ _ _ _ _ _ _ _ _ _ _ _ _ _ _ _ _ => some (.ret [.cl (.bool false)] [])) (fun _ _ _ _ _ _ _ _ _ _ _ _ _ _ _ _ _ _ _ _ _ _ _ _ _ _ _ _ _ _ _ _ _ _ _ _ _ _ _ _ _ _ _ => some (.ret [.cl (.bool false)] [])) (fun _ _ _ _ _ _ _ _ _ _ _ _ _ _ _ _ _ _ _ _ _ _ _ _ _ _ _ _ _ _ _ _ _ _ _ _ _ _ _ _ _ _ _ _ _ _ _ _ => some (.ret [.cl (.bool false)] [])) (fun _ _ _ _ _ _ _ _ _ _ _ _ _ _ _ _ _ _ _ _ _ _ _ _ _ _ _ _ _ _ _ _ _ _ _ _ _ _ _ _ _ _ _ _ _ _ _ _ _ _ _ _ => some (.ret [.cl (.bool false)] [])) (fun _ _ _ _ _ _ _ _ _ _ _ _ _ _ _ _ _ _ _ _ _ _ _ _ _ _ _ _ _ _ _ _ => some (.ret [.cl (.bool false)] [])) (fun _ _ _ _ _ _ _ _ _ _ _ _ _ _ _ _ _ _ _ _ _ _ _ _ _ _ _ _ _ _ _ _ _ _ _ _ _ _ => some (.ret [.cl (.bool false)] [])) (fun _ _ _ _ _ _ _ _ _ _ _ _ _ _ _ _ _ _ _ _ _ _ _ _ _ _ _ _ _ _ _ _ _ _ _ _ _ _ _ _ _ _ _ _ => some (.ret [.cl (.bool false)] [])) (fun _ _ _ _ _ _ _ _ _ _ _ _ _ _ _ _ _ _ _ _ _ _ _ _ _ _ _ _ _ _ _ _ _ _ _ _ _ _ _ _ _ _ _ _ _ _ _ _ _ => some (.ret [.cl (.bool false)] [])) (fun _ _ _ _ _ _ _ _ _ _ _ _ _ _ _ _ _ _ _ _ _ _ _ _ _ _ _ _ _ _ _ _ _ _ _ _ _ _ _ _ _ _ _ _ _ _ _ _ _ _ _ _ _ _ => some (.ret [.cl (.bool false)] [])) (fun _ _ _ _ _ _ _ _ _ _ _ _ _ _ _ _ _ _ _ _ _ _ _ _ _ _ _ _ _ _ _ _ _ _ _ _ _ _ _ _ _ _ _ _ _ _ _ _ _ _ _ _ _ _ _ _ _ _ _ => some (.ret [.cl (.bool false)] [])) (fun _ _ _ _ _ _ _ _ _ _ _ _ _ _ _ _ _ _ _ _ _ _ _ _ _ _ _ _ _ _ _ _ _ _ _ _ _ _ _ _ _ _ _ _ _ _ _ _ _ _ _ _ _ _ _ _ _ _ _ _ _ _ _ => some (.ret [.cl (.bool false)] [])) (fun _ _ _ _ _ _ _ _ _ _ _ _ _ _ _ _ _ _ _ _ _ _ _ _ _ _ _ _ _ => some (.ret [.cl (.bool false)] [])) (fun _ _ _ => some (.ret [.cl (.bool true)] [])) f l = some (.ret [.cl (.bool (qb2 l))] [])
 | 0, l, h, _ => by omega
 | f + 1, l, hf, hb => by
  have again : ∀ l' : List Int, l'.length < l.length -> qac l' = true -> qb2 l' = qb2 l -> qdi (fun _ _ _ _ _ _ _ _ _ _ _ _ _ _ _ _ _ _ _ _ _ _ _ _ _ _ _ _ _ _ => some (.ret [.cl (.bool false)] [])) (fun _ _ _ _ _ _ _ _ _ _ _ _ _ _ _ _ _ _ _ _ _ _ _ _ _ _ _ _ _ _ _ _ _ _ _ _ => some (.ret [.cl (.bool false)] [])) (fun _ _ _ _ _ _ _ _ _ _ _ _ _ _ _ _ _ _ _ _ _ _ _ _ _ _ _ _ _ _ _ _ _ _ _ _ _ _ _ _ _ => some (.ret [.cl (.bool false)] [])) (fun _ _ _ _ _ _ _ _ _ _ _ _ _ _ _ _ _ _ _ _ _ _ _ _ _ _ _ _ _ _ _ => some (.ret [.cl (.bool false)] [])) (fun _ _ _ _ _ _ _ _ _ _ _ _ _ _ _ _ _ _ _ _ _ _ _ _ _ _ _ _ _ _ _ _ _ _ _ _ _ => some (.ret [.cl (.bool false)] [])) (fun _ _ _ _ _ _ _ _ _ _ _ _ _ _ _ _ _ _ _ _ _ _ _ _ _ _ _ _ _ _ _ _ _ _ _ _ _ _ _ _ _ _ _ => some (.ret [.cl (.bool false)] [])) (fun _ _ _ _ _ _ _ _ _ _ _ _ _ _ _ _ _ _ _ _ _ _ _ _ _ _ _ _ _ _ _ _ _ _ _ _ _ _ _ _ _ _ _ _ _ _ _ _ => some (.ret [.cl (.bool false)] [])) (fun _ _ _ _ _ _ _ _ _ _ _ _ _ _ _ _ _ _ _ _ _ _ _ _ _ _ _ _ _ _ _ _ _ _ _ _ _ _ _ _ _ _ _ _ _ _ _ _ _ _ _ _ => some (.ret [.cl (.bool false)] [])) (fun _ _ _ _ _ _ _ _ _ _ _ _ _ _ _ _ _ _ _ _ _ _ _ _ _ _ _ _ _ _ _ _ => some (.ret [.cl (.bool false)] [])) (fun _ _ _ _ _ _ _ _ _ _ _ _ _ _ _ _ _ _ _ _ _ _ _ _ _ _ _ _ _ _ _ _ _ _ _ _ _ _ => some (.ret [.cl (.bool false)] [])) (fun _ _ _ _ _ _ _ _ _ _ _ _ _ _ _ _ _ _ _ _ _ _ _ _ _ _ _ _ _ _ _ _ _ _ _ _ _ _ _ _ _ _ _ _ => some (.ret [.cl (.bool false)] [])) (fun _ _ _ _ _ _ _ _ _ _ _ _ _ _ _ _ _ _ _ _ _ _ _ _ _ _ _ _ _ _ _ _ _ _ _ _ _ _ _ _ _ _ _ _ _ _ _ _ _ => some (.ret [.cl (.bool false)] [])) (fun _ _ _ _ _ _ _ _ _ _ _ _ _ _ _ _ _ _ _ _ _ _ _ _ _ _ _ _ _ _ _ _ _ _ _ _ _ _ _ _ _ _ _ _ _ _ _ _ _ _ _ _ _ _ => some (.ret [.cl (.bool false)] [])) (fun _ _ _ _ _ _ _ _ _ _ _ _ _ _ _ _ _ _ _ _ _ _ _ _ _ _ _ _ _ _ _ _ _ _ _ _ _ _ _ _ _ _ _ _ _ _ _ _ _ _ _ _ _ _ _ _ _ _ _ => some (.ret [.cl (.bool false)] [])) (fun _ _ _ _ _ _ _ _ _ _ _ _ _ _ _ _ _ _ _ _ _ _ _ _ _ _ _ _ _ _ _ _ _ _ _ _ _ _ _ _ _ _ _ _ _ _ _ _ _ _ _ _ _ _ _ _ _ _ _ _ _ _ _ => some (.ret [.cl (.bool false)] [])) (fun _ _ _ _ _ _ _ _ _ _ _ _ _ _ _ _ _ _ _ _ _ _ _ _ _ _ _ _ _ => some (.ret [.cl (.bool false)] [])) (fun _ _ _ => some (.ret [.cl (.bool true)] [])) f l' = some (.ret [.cl (.bool (qb2 l))] []) := fun l' h1 h2 h3 => by
   rw [<- h3]; exact uv_lp f l' (by omega) h2
  show qj8 (qdi (fun _ _ _ _ _ _ _ _ _ _ _ _ _ _ _ _ _ _ _ _ _ _ _ _ _ _ _ _ _ _ => some (.ret [.cl (.bool false)] [])) (fun _ _ _ _ _ _ _ _ _ _ _ _ _ _ _ _ _ _ _ _ _ _ _ _ _ _ _ _ _ _ _ _ _ _ _ _ => some (.ret [.cl (.bool false)] [])) (fun _ _ _ _ _ _ _ _ _ _ _ _ _ _ _ _ _ _ _ _ _ _ _ _ _ _ _ _ _ _ _ _ _ _ _ _ _ _ _ _ _ => some (.ret [.cl (.bool false)] [])) (fun _ _ _ _ _ _ _ _ _ _ _ _ _ _ _ _ _ _ _ _ _ _ _ _ _ _ _ _ _ _ _ => some (.ret [.cl (.bool false)] [])) (fun _ _ _ _ _ _ _ _ _ _ _ _ _ _ _ _ _ _ _ _ _ _ _ _ _ _ _ _ _ _ _ _ _ _ _ _ _ => some (.ret [.cl (.bool false)] [])) (fun _ _ _ _ _ _ _ _ _ _ _ _ _ _ _ _ _ _ _ _ _ _ _ _ _ _ _ _ _ _ _ _ _ _ _ _ _ _ _ _ _ _ _ => some (.ret [.cl (.bool false)] [])) (fun _ _ _ _ _ _ _ _ _ _ _ _ _ _ _ _ _ _ _ _ _ _ _ _ _ _ _ _ _ _ _ _ _ _ _ _ _ _ _ _ _ _ _ _ _ _ _ _ => some (.ret [.cl (.bool false)] [])) (fun _ _ _ _ _ _ _ _ _ _ _ _ _ _ _ _ _ _ _ _ _ _ _ _ _ _ _ _ _ _ _ _ _ _ _ _ _ _ _ _ _ _ _ _ _ _ _ _ _ _ _ _ => some (.ret [.cl (.bool false)] [])) (fun _ _ _ _ _ _ _ _ _ _ _ _ _ _ _ _ _ _ _ _ _ _ _ _ _ _ _ _ _ _ _ _ => some (.ret [.cl (.bool false)] [])) (fun _ _ _ _ _ _ _ _ _ _ _ _ _ _ _ _ _ _ _ _ _ _ _ _ _ _ _ _ _ _ _ _ _ _ _ _ _ _ => some (.ret [.cl (.bool false)] [])) (fun _ _ _ _ _ _ _ _ _ _ _ _ _ _ _ _ _ _ _ _ _ _ _ _ _ _ _ _ _ _ _ _ _ _ _ _ _ _ _ _ _ _ _ _ => some (.ret [.cl (.bool false)] [])) (fun _ _ _ _ _ _ _ _ _ _ _ _ _ _ _ _ _ _ _ _ _ _ _ _ _ _ _ _ _ _ _ _ _ _ _ _ _ _ _ _ _ _ _ _ _ _ _ _ _ => some (.ret [.cl (.bool false)] [])) (fun _ _ _ _ _ _ _ _ _ _ _ _ _ _ _ _ _ _ _ _ _ _ _ _ _ _ _ _ _ _ _ _ _ _ _ _ _ _ _ _ _ _ _ _ _ _ _ _ _ _ _ _ _ _ => some (.ret [.cl (.bool false)] [])) (fun _ _ _ _ _ _ _ _ _ _ _ _ _ _ _ _ _ _ _ _ _ _ _ _ _ _ _ _ _ _ _ _ _ _ _ _ _ _ _ _ _ _ _ _ _ _ _ _ _ _ _ _ _ _ _ _ _ _ _ => some (.ret [.cl (.bool false)] [])) (fun _ _ _ _ _ _ _ _ _ _ _ _ _ _ _ _ _ _ _ _ _ _ _ _ _ _ _ _ _ _ _ _ _ _ _ _ _ _ _ _ _ _ _ _ _ _ _ _ _ _ _ _ _ _ _ _ _ _ _ _ _ _ _ => some (.ret [.cl (.bool false)] [])) (fun _ _ _ _ _ _ _ _ _ _ _ _ _ _ _ _ _ _ _ _ _ _ _ _ _ _ _ _ _ => some (.ret [.cl (.bool false)] [])) (fun _ _ _ => some (.ret [.cl (.bool true)] [])) f) (fun _ _ _ _ _ _ _ _ _ _ _ _ _ _ _ _ _ _ _ _ _ _ _ _ _ _ _ _ _ _ => some (.ret [.cl (.bool false)] [])) (fun _ _ _ _ _ _ _ _ _ _ _ _ _ _ _ _ _ _ _ _ _ _ _ _ _ _ _ _ _ _ _ _ _ _ _ _ => some (.ret [.cl (.bool false)] [])) (fun _ _ _ _ _ _ _ _ _ _ _ _ _ _ _ _ _ _ _ _ _ _ _ _ _ _ _ _ _ _ _ _ _ _ _ _ _ _ _ _ _ => some (.ret [.cl (.bool false)] [])) (fun _ _ _ _ _ _ _ _ _ _ _ _ _ _ _ _ _ _ _ _ _ _ _ _ _ _ _ _ _ _ _ => some (.ret [.cl (.bool false)] [])) (fun _ _ _ _ _ _ _ _ _ _ _ _ _ _ _ _ _ _ _ _ _ _ _ _ _ _ _ _ _ _ _ _ _ _ _ _ _ => some (.ret [.cl (.bool false)] [])) (fun _ _ _ _ _ _ _ _ _ _ _ _ _ _ _ _ _ _ _ _ _ _ _ _ _ _ _ _ _ _ _ _ _ _ _ _ _ _ _ _ _ _ _ => some (.ret [.cl (.bool false)] [])) (fun _ _ _ _ _ _ _ _ _ _ _ _ _ _ _ _ _ _ _ _ _ _ _ _ _ _ _ _ _ _ _ _ _ _ _ _ _ _ _ _ _ _ _ _ _ _ _ _ => some (.ret [.cl (.bool false)] [])) (fun _ _ _ _ _ _ _ _ _ _ _ _ _ _ _ _ _ _ _ _ _ _ _ _ _ _ _ _ _ _ _ _ _ _ _ _ _ _ _ _ _ _ _ _ _ _ _ _ _ _ _ _ => some (.ret [.cl (.bool false)] [])) (fun _ _ _ _ _ _ _ _ _ _ _ _ _ _ _ _ _ _ _ _ _ _ _ _ _ _ _ _ _ _ _ _ => some (.ret [.cl (.bool false)] [])) (fun _ _ _ _ _ _ _ _ _ _ _ _ _ _ _ _ _ _ _ _ _ _ _ _ _ _ _ _ _ _ _ _ _ _ _ _ _ _ => some (.ret [.cl (.bool false)] [])) (fun _ _ _ _ _ _ _ _ _ _ _ _ _ _ _ _ _ _ _ _ _ _ _ _ _ _ _ _ _ _ _ _ _ _ _ _ _ _ _ _ _ _ _ _ => some (.ret [.cl (.bool false)] [])) (fun _ _ _ _ _ _ _ _ _ _ _ _ _ _ _ _ _ _ _ _ _ _ _ _ _ _ _ _ _ _ _ _ _ _ _ _ _ _ _ _ _ _ _ _ _ _ _ _ _ => some (.ret [.cl (.bool false)] [])) (fun _ _ _ _ _ _ _ _ _ _ _ _ _ _ _ _ _ _ _ _ _ _ _ _ _ _ _ _ _ _ _ _ _ _ _ _ _ _ _ _ _ _ _ _ _ _ _ _ _ _ _ _ _ _ => some (.ret [.cl (.bool false)] [])) (fun _ _ _ _ _ _ _ _ _ _ _ _ _ _ _ _ _ _ _ _ _ _ _ _ _ _ _ _ _ _ _ _ _ _ _ _ _ _ _ _ _ _ _ _ _ _ _ _ _ _ _ _ _ _ _ _ _ _ _ => some (.ret [.cl (.bool false)] [])) (fun _ _ _ _ _ _ _ _ _ _ _ _ _ _ _ _ _ _ _ _ _ _ _ _ _ _ _ _ _ _ _ _ _ _ _ _ _ _ _ _ _ _ _ _ _ _ _ _ _ _ _ _ _ _ _ _ _ _ _ _ _ _ _ => some (.ret [.cl (.bool false)] [])) (fun _ _ _ _ _ _ _ _ _ _ _ _ _ _ _ _ _ _ _ _ _ _ _ _ _ _ _ _ _ => some (.ret [.cl (.bool false)] [])) (fun _ _ _ => some (.ret [.cl (.bool true)] [])) l = _
  generalize qdi (fun _ _ _ _ _ _ _ _ _ _ _ _ _ _ _ _ _ _ _ _ _ _ _ _ _ _ _ _ _ _ => some (.ret [.cl (.bool false)] [])) (fun _ _ _ _ _ _ _ _ _ _ _ _ _ _ _ _ _ _ _ _ _ _ _ _ _ _ _ _ _ _ _ _ _ _ _ _ => some (.ret [.cl (.bool false)] [])) (fun _ _ _ _ _ _ _ _ _ _ _ _ _ _ _ _ _ _ _ _ _ _ _ _ _ _ _ _ _ _ _ _ _ _ _ _ _ _ _ _ _ => some (.ret [.cl (.bool false)] [])) (fun _ _ _ _ _ _ _ _ _ _ _ _ _ _ _ _ _ _ _ _ _ _ _ _ _ _ _ _ _ _ _ => some (.ret [.cl (.bool false)] [])) (fun _ _ _ _ _ _ _ _ _ _ _ _ _ _ _ _ _ _ _ _ _ _ _ _ _ _ _ _ _ _ _ _ _ _ _ _ _ => some (.ret [.cl (.bool false)] [])) (fun _ _ _ _ _ _ _ _ _ _ _ _ _ _ _ _ _ _ _ _ _ _ _ _ _ _ _ _ _ _ _ _ _ _ _ _ _ _ _ _ _ _ _ => some (.ret [.cl (.bool false)] [])) (fun _ _ _ _ _ _ _ _ _ _ _ _ _ _ _ _ _ _ _ _ _ _ _ _ _ _ _ _ _ _ _ _ _ _ _ _ _ _ _ _ _ _ _ _ _ _ _ _ => some (.ret [.cl (.bool false)] [])) (fun _ _ _ _ _ _ _ _ _ _ _ _ _ _ _ _ _ _ _ _ _ _ _ _ _ _ _ _ _ _ _ _ _ _ _ _ _ _ _ _ _ _ _ _ _ _ _ _ _ _ _ _ => some (.ret [.cl (.bool false)] [])) (fun _ _ _ _ _ _ _ _ _ _ _ _ _ _ _ _ _ _ _ _ _ _ _ _ _ _ _ _ _ _ _ _ => some (.ret [.cl (.bool false)] [])) (fun _ _ _ _ _ _ _ _ _ _ _ _ _ _ _ _ _ _ _ _ _ _ _ _ _ _ _ _ _ _ _ _ _ _ _ _ _ _ => some (.ret [.cl (.bool false)] [])) (fun _ _ _ _ _ _ _ _ _ _ _ _ _ _ _ _ _ _ _ _ _ _ _ _ _ _ _ _ _ _ _ _ _ _ _ _ _ _ _ _ _ _ _ _ => some (.ret [.cl (.bool false)] [])) (fun _ _ _ _ _ _ _ _ _ _ _ _ _ _ _ _ _ _ _ _ _ _ _ _ _ _ _ _ _ _ _ _ _ _ _ _ _ _ _ _ _ _ _ _ _ _ _ _ _ => some (.ret [.cl (.bool false)] [])) (fun _ _ _ _ _ _ _ _ _ _ _ _ _ _ _ _ _ _ _ _ _ _ _ _ _ _ _ _ _ _ _ _ _ _ _ _ _ _ _ _ _ _ _ _ _ _ _ _ _ _ _ _ _ _ => some (.ret [.cl (.bool false)] [])) (fun _ _ _ _ _ _ _ _ _ _ _ _ _ _ _ _ _ _ _ _ _ _ _ _ _ _ _ _ _ _ _ _ _ _ _ _ _ _ _ _ _ _ _ _ _ _ _ _ _ _ _ _ _ _ _ _ _ _ _ => some (.ret [.cl (.bool false)] [])) (fun _ _ _ _ _ _ _ _ _ _ _ _ _ _ _ _ _ _ _ _ _ _ _ _ _ _ _ _ _ _ _ _ _ _ _ _ _ _ _ _ _ _ _ _ _ _ _ _ _ _ _ _ _ _ _ _ _ _ _ _ _ _ _ => some (.ret [.cl (.bool false)] [])) (fun _ _ _ _ _ _ _ _ _ _ _ _ _ _ _ _ _ _ _ _ _ _ _ _ _ _ _ _ _ => some (.ret [.cl (.bool false)] [])) (fun _ _ _ => some (.ret [.cl (.bool true)] [])) f = ag at again
  have hl := (qap hb).1
  unfold qj8
  cases l with
  | nil => exact qfq (by simp) rfl
  | cons c r =>
  have hc := qa0 hb (i := 0) (x := c) rfl
  have hbr := qbn hb
  simp only [List.tail_cons] at hbr
  refine qau (by simp only [List.length_cons]; omega) (qau (by simp only [List.length_cons]; omega) ?_)
  simp only [List.getElem?_cons_zero, Option.bind_some]
  refine qaf (fun h7 => qau (by simp only [List.length_cons]; omega) ?_) fun h7 => ?_
  ·have hone : qb2 r = qb2 (c :: r) := by
    rw [qjr (c :: r), if_neg (by simp), qdd, if_pos h7, if_neg (by omega)]; rfl
   rw [List.drop_one, List.tail_cons]
   have two : ∀ (l : List Int), qac l = true -> 8 <= l.length -> (qac l && decide (8 <= l.length)) = true := fun l h1 h2 => by rw [h1, decide_eq_true h2]; rfl
   refine qaf (fun h8 => qba (two r hbr (by omega)) ?_) fun _ => again r (by simp) hbr hone
   obtain ⟨n0, e0, p0, q0⟩ := qgy hbr (show 8 <= r.length by omega)
   rw [e0, show (9259542123273814144 : Int) = ((MASK : Nat) : Int) from rfl, andN p0 (by decide)]
   refine qaf (fun hz => qau (by omega) ?_) fun _ => again r (by simp) hbr hone
   have a0 := q0 (by omega)
   have hd8 := (qnp 8 r a0).trans hone
   have hb8 := qa5 hbr 8
   refine qaf (fun h16 => ?_) fun _ => again _ (by simp only [List.length_drop, List.length_cons]; omega) hb8 hd8
   have hb16 := qa5 hb8 8
   have l1 : 8 <= (List.drop 8 r).length := by omega
   have l2 : 8 <= (List.drop 8 (List.drop 8 r)).length := by rw [List.length_drop]; omega
   obtain ⟨n1, e1, p1, q1⟩ := qgy hb8 l1
   obtain ⟨n2, e2, p2, q2⟩ := qgy hb16 l2
   refine qba (two _ hb8 l1) (qau (by omega) (qba (two _ hb16 l2) ?_))
   rw [e1, e2, orN p1 p2, andN (Nat.or_lt_two_pow p1 p2) (by decide)]
   refine qaf (fun hz => qau (by omega) ?_) fun _ => again _ (by simp only [List.length_drop, List.length_cons]; omega) hb8 hd8
   have hz : (n1 ||| n2) &&& MASK = 0 := by omega
   rw [qi6] at hz
   have a12 := qqy (q1 hz.1) (q2 hz.2)
   have hb24 := qa5 hb8 16
   have hd24 := (qnp 16 _ a12).trans hd8
   rw [qae]
   exact uv_inner ag _ (List.drop 16 (List.drop 8 r)).length (qb2 (c :: r)) (fun l' h1 h2 h3 => again l' (by simp only [List.length_drop, List.length_cons] at h1 ⊢; omega) h2 h3) FUEL _ (by simp only [List.length_cons] at hl; simp only [List.length_drop]; unfold FUEL; omega) (Nat.le_refl _) hb24 hd24
  ·obtain ⟨fv, lo, hi, t1, t2, t3, t4⟩ := tab_of (e := c) (by omega) hc.2
   refine qau (by omega) (qau (by omega) ?_)
   simp only [t1, Option.bind_some]
   refine qau t2.1 (qau t2.2 ?_)
   simp only [t3, Option.bind_some]
   refine qba rfl ?_
   generalize IntKind.i64.wrap (IntKind.u8.wrap ((BitVec.ofInt 8 fv &&& BitVec.ofInt 8 7).toNat)) = s at t4 ⊢
   have t4 := of_decide_eq_true t4
   show cond (decide (s = 2)) _ _ = _
   simp only [show cvInt ((cell1 (CV.agg [.int .u8 lo, .int .u8 hi])).headD .nili) = lo from rfl, show cvInt ((cell1 (CV.agg [.int .u8 lo, .int .u8 hi])).tail.headD .nili) = hi from rfl]
   have bad : qcp (c :: r) = 0 -> (some (Out.ret [.cl (.bool false)] []) : Option Out) = some (.ret [.cl (.bool (qb2 (c :: r)))] []) := fun h => by
    rw [qjr (c :: r), if_neg (by simp), if_pos h]
   have good : ∀ k : Nat, 0 < k -> qcp (c :: r) = k -> k <= (c :: r).length -> ag ((c :: r).drop k) = some (.ret [.cl (.bool (qb2 (c :: r)))] []) := fun k h0 h hk => by
    refine again _ (by simp only [List.length_drop, List.length_cons] at hk ⊢; omega) (qa5 hb k) ?_
    rw [qjr (c :: r), if_neg (by simp), if_neg (by omega), h]
    rfl
   have hx : ∀ k, k < r.length -> ∃ x, r[k]? = some x /\ 0 <= x /\ x <= 255 := fun k hk => by
    obtain ⟨x, hx⟩ := qbj (b := r) hk
    exact ⟨x, hx, qa0 hbr hx⟩
   have hnone : ∀ k, r.length <= k -> ¬ u8At r k = true := fun k hk => by unfold u8At; rw [List.getElem?_eq_none hk]; simp
   have hf : ∀ (k : Nat) (x : Int), r[k]? = some x -> (x < 128 \/ 191 < x) -> ¬ u8At r k = true := fun k x hx h => by rw [at_true hx, decide_eq_true_eq]; omega
   have ht : ∀ (k : Nat) (x : Int), r[k]? = some x -> 128 <= x -> x <= 191 -> u8At r k = true := fun k x hx h h' => by rw [at_true hx, decide_eq_true_eq]; omega
   have hd : ∀ x, r[0]? = some x -> r.headD 0 = x := fun x hx => by cases r with | nil => cases hx | cons y t => simpa using hx
   simp only [List.length_cons] at good ⊢
   rcases t4 with ⟨rfl, hn⟩ | ⟨rfl, hn1, hn2, rfl, rfl⟩ | ⟨rfl, hn1, hn2, hlo, hhi⟩ | ⟨rfl, hn1, hn2, hlo, hhi⟩
   ·refine qfq (by omega) (qfq (by omega) (qfq (by omega) (bad ?_)))
    rw [qdd, if_neg h7, if_neg (by omega), if_neg (by omega), if_neg (by omega)]
   ·have zero : ¬ u8At r 0 = true -> qcp (c :: r) = 0 := fun h => by rw [qdd, if_neg h7, if_neg (fun h' => h h'.2.2), if_neg (by omega), if_neg (by omega)]
    refine qau rfl (qaf (fun hs => bad (zero (hnone 0 (by omega)))) fun hs => ?_)
    obtain ⟨x, hx0, hxr⟩ := hx 0 (by omega)
    simp only [List.getElem?_cons_succ, hx0, Option.bind_some]
    refine qau (by omega) (qaf (fun hs => bad (zero (hf 0 x hx0 (by omega)))) fun hs1 => qau (by omega) (qaf (fun hs => bad (zero (hf 0 x hx0 (by omega)))) fun hs2 => qau (by omega) ?_))
    exact good 2 (by omega) (by rw [qdd, if_neg h7, if_pos ⟨hn1, hn2, ht 0 x hx0 (by omega) (by omega)⟩]; rfl) (by omega)
   ·have zero : ¬ (u8At r 0 = true /\ u8At r 1 = true /\ (c = 224 -> 160 <= r.headD 0) /\ (c = 237 -> r.headD 0 < 160)) -> qcp (c :: r) = 0 := fun h => by rw [qdd, if_neg h7, if_neg (by omega), if_neg (fun h' => h h'.2.2), if_neg (by omega)]
    refine qfq (by omega) (qau rfl (qaf (fun hs => bad (zero fun h => hnone 1 (by omega) h.2.1)) fun hs => ?_))
    obtain ⟨x, hx0, hxr⟩ := hx 0 (by omega)
    obtain ⟨y, hy0, hyr⟩ := hx 1 (by omega)
    have hdx := hd x hx0
    simp only [List.getElem?_cons_succ, hx0, hy0, Option.bind_some]
    have zx : (x < lo \/ hi < x) -> qcp (c :: r) = 0 := fun hh => zero fun h => by
     have h1 := h.1
     rw [at_true hx0, decide_eq_true_eq] at h1
     rw [hdx] at h
     have := h.2.2.1
     have := h.2.2.2
     rw [hlo, hhi] at hh
     split at hh <;> split at hh <;> omega
    refine qau (by omega) (qaf (fun hs => bad (zx (.inl hs))) fun hs1 => qau (by omega) (qaf (fun hs => bad (zx (.inr hs))) fun hs2 => ?_))
    refine qau (by omega) (qaf (fun hs => bad (zero fun h => hf 1 y hy0 (by omega) h.2.1)) fun hs3 => qau (by omega) (qaf (fun hs => bad (zero fun h => hf 1 y hy0 (by omega) h.2.1)) fun hs4 => qau (by omega) ?_))
    refine good 3 (by omega) ?_ (by omega)
    rw [hlo] at hs1
    rw [hhi] at hs2
    rw [qdd, if_neg h7, if_neg (by omega), if_pos ⟨hn1, hn2, ht 0 x hx0 (by split at hs1 <;> omega) (by split at hs2 <;> omega), ht 1 y hy0 (by omega) (by omega), fun e => by rw [if_pos e] at hs1; rw [hdx]; omega, fun e => by rw [if_pos e] at hs2; rw [hdx]; omega⟩]
    rfl
   ·have zero : ¬ (u8At r 0 = true /\ u8At r 1 = true /\ u8At r 2 = true /\ (c = 240 -> 144 <= r.headD 0) /\ (c = 244 -> r.headD 0 < 144)) -> qcp (c :: r) = 0 := fun h => by rw [qdd, if_neg h7, if_neg (by omega), if_neg (by omega), if_neg (fun h' => h h'.2.2)]
    refine qfq (by omega) (qfq (by omega) (qau rfl (qaf (fun hs => bad (zero fun h => hnone 2 (by omega) h.2.2.1)) fun hs => ?_)))
    obtain ⟨x, hx0, hxr⟩ := hx 0 (by omega)
    obtain ⟨y, hy0, hyr⟩ := hx 1 (by omega)
    obtain ⟨z, hz0, hzr⟩ := hx 2 (by omega)
    have hdx := hd x hx0
    simp only [List.getElem?_cons_succ, hx0, hy0, hz0, Option.bind_some]
    have zx : (x < lo \/ hi < x) -> qcp (c :: r) = 0 := fun hh => zero fun h => by
     have h1 := h.1
     rw [at_true hx0, decide_eq_true_eq] at h1
     rw [hdx] at h
     have := h.2.2.2.1
     have := h.2.2.2.2
     rw [hlo, hhi] at hh
     split at hh <;> split at hh <;> omega
    refine qau (by omega) (qaf (fun hs => bad (zx (.inl hs))) fun hs1 => qau (by omega) (qaf (fun hs => bad (zx (.inr hs))) fun hs2 => ?_))
    refine qau (by omega) (qaf (fun hs => bad (zero fun h => hf 1 y hy0 (by omega) h.2.1)) fun hs3 => qau (by omega) (qaf (fun hs => bad (zero fun h => hf 1 y hy0 (by omega) h.2.1)) fun hs4 => ?_))
    refine qau (by omega) (qaf (fun hs => bad (zero fun h => hf 2 z hz0 (by omega) h.2.2.1)) fun hs5 => qau (by omega) (qaf (fun hs => bad (zero fun h => hf 2 z hz0 (by omega) h.2.2.1)) fun hs6 => qau (by omega) ?_))
    refine good 4 (by omega) ?_ (by omega)
    rw [hlo] at hs1
    rw [hhi] at hs2
    rw [qdd, if_neg h7, if_neg (by omega), if_neg (by omega), if_pos ⟨hn1, hn2, ht 0 x hx0 (by split at hs1 <;> omega) (by split at hs2 <;> omega), ht 1 y hy0 (by omega) (by omega), ht 2 z hz0 (by omega) (by omega), fun e => by rw [if_pos e] at hs1; rw [hdx]; omega, fun e => by rw [if_pos e] at hs2; rw [hdx]; omega⟩]
    rfl
theorem nUValid (b : List Int) (hp : qac b = true) : gUValid b = some (.ret [.cl (.bool (u8Valid b))] []) := by
 unfold gUValid u8Valid
 simp only [qae]
 refine qba (by simp) (qau (by omega) ?_)
 rw [show (((b.length : Nat) : Int)).toNat = b.length from rfl, List.take_length]
 exact uv_lp FUEL b (by have := (qap hp).1; unfold FUEL; omega) hp
end Go.Proofs.YtbgkadaidhgggaaDoorA

namespace Go.Proofs.YtbgkadaidhgggaaDoorA
open IntWalk (i64_in u8_in u32_in u64_in i64_quo u8_quo rem_in)

/-! ### bits -/
theorem mask_mod : ∀ (k : Fin 8) (n : Fin 256), (IntKind.u8.wrap ((BitVec.ofInt 8 (n.val : Int) &&& BitVec.ofInt 8 (IntKind.u8.wrap (IntKind.u8.wrap (1 * 2 ^ (min k.val 8)) - 1))).toNat) = 0) = ((n.val : Int) % 2 ^ k.val = 0) := by decide +kernel
theorem mask_tmod : ∀ (k : Fin 8) (n : Fin 256), IntKind.u8.wrap (1 * 2 ^ (min k.val 8)) ≠ 0 /\ (Int.tmod (n.val : Int) (IntKind.u8.wrap (1 * 2 ^ (min k.val 8))) = 0) = ((n.val : Int) % 2 ^ k.val = 0) := by decide +kernel
theorem last_get (y : Int) (r : List Int) (x : Int) : (x :: y :: r)[(r.length + 1)]? = some ((y :: r).getLast (by simp)) := by
 rw [List.getElem?_cons_succ, List.getLast_eq_getElem]
 simp
theorem nDStrip (b : List Int) (hp : qac b = true) : gDStrip b = some (.ret [.cl (.bool (qhh b))] []) := by
 unfold gDStrip qhh
 rw [qae]
 match b, hp with
 | [], _ => rfl
 | [x], hp =>
  have hx := qa0 hp (i := 0) (x := x) rfl
  refine qfq (by simp) (qau (by simp) ?_)
  simp only [List.getElem?_cons_zero, Option.bind_some]
  refine qaf (fun h => qav ?_) fun h => qau (by simp) (qau (by simp) rfl)
  exact (decide_eq_false (by omega)).symm
 | x :: y :: r, hp =>
  have hx := qa0 hp (i := 0) (x := x) rfl
  have hl := (qap hp).1
  have hg := last_get y r x
  have hz := qa0 hp hg
  simp only [List.length_cons] at hl
  simp only [qqp]
  generalize (y :: r).getLast (by simp) = z at *
  refine qfq (by simp only [List.length_cons]; omega) (qau (by simp only [List.length_cons]; omega) ?_)
  simp only [List.getElem?_cons_zero, Option.bind_some]
  refine qaf (fun h => qav ?_) fun h => qfq (by simp only [List.length_cons]; omega) ?_
  ·rw [show decide (x <= 7) = false from decide_eq_false (by omega)]; rfl
  ·rw [show IntKind.i64.wrap ((((x :: y :: r).length : Nat) : Int) - 1) = ((r.length + 1 : Nat) : Int) from (i64_in ((((x :: y :: r).length : Nat) : Int) - 1) (by simp only [List.length_cons]; omega)).trans (by simp only [List.length_cons]; omega)]
   refine qau (by omega) (qau (by simp only [List.length_cons]; omega) ?_)
   rw [show (((r.length + 1 : Nat) : Int)).toNat = r.length + 1 from rfl, hg, Option.bind_some]
   refine qau (by simp only [List.length_cons]; omega) (qfq (by omega) (qav ?_))
   have := mask_mod ⟨x.toNat, by omega⟩ ⟨z.toNat, by omega⟩
   simp only [Int.toNat_of_nonneg hz.1] at this
   rw [show decide (x <= 7) = true from decide_eq_true (by omega), Bool.true_and]
   rw [Bool.eq_iff_iff]
   simp only [decide_eq_true_eq]
   rw [this]
theorem nRFitBits (b : List Int) (hp : qac b = true) : gRFitBits b = some (.ret [.cl (.bool (qhh b))] []) := by
 unfold gRFitBits qhh
 rw [qae]
 match b, hp with
 | [], _ => rfl
 | [x], hp =>
  have hx := qa0 hp (i := 0) (x := x) rfl
  refine qfq (by simp) (qau (by simp) ?_)
  simp only [List.getElem?_cons_zero, Option.bind_some]
  refine qaf (fun h => qav ?_) fun h => qau (by simp) (qau (by simp) rfl)
  exact (decide_eq_false (by omega)).symm
 | x :: y :: r, hp =>
  have hx := qa0 hp (i := 0) (x := x) rfl
  have hl := (qap hp).1
  have hg := last_get y r x
  have hz := qa0 hp hg
  simp only [List.length_cons] at hl
  simp only [qqp]
  generalize (y :: r).getLast (by simp) = z at *
  refine qfq (by simp only [List.length_cons]; omega) (qau (by simp only [List.length_cons]; omega) ?_)
  simp only [List.getElem?_cons_zero, Option.bind_some]
  refine qaf (fun h => qav ?_) fun h => qfq (by simp only [List.length_cons]; omega) ?_
  ·rw [show decide (x <= 7) = false from decide_eq_false (by omega)]; rfl
  ·rw [show IntKind.i64.wrap ((((x :: y :: r).length : Nat) : Int) - 1) = ((r.length + 1 : Nat) : Int) from (i64_in ((((x :: y :: r).length : Nat) : Int) - 1) (by simp only [List.length_cons]; omega)).trans (by simp only [List.length_cons]; omega)]
   refine qau (by omega) (qau (by simp only [List.length_cons]; omega) ?_)
   rw [show (((r.length + 1 : Nat) : Int)).toNat = r.length + 1 from rfl, hg, Option.bind_some]
   have := mask_tmod ⟨x.toNat, by omega⟩ ⟨z.toNat, by omega⟩
   simp only [Int.toNat_of_nonneg hz.1] at this
   refine qau (by simp only [List.length_cons]; omega) (qfq (by omega) (qfq this.1 (qav ?_)))
   rw [show decide (x <= 7) = true from decide_eq_true (by omega), Bool.true_and]
   rw [Bool.eq_iff_iff]
   simp only [decide_eq_true_eq]
   rw [this.2]

/-! ### numbers by 7 bits -/
theorem or7 {n x : Int} (h0 : 0 <= n) (h1 : n < 72057594037927936) (h2 : 0 <= x) (h3 : x <= 127) : ((BitVec.ofInt 64 (n * 128) ||| BitVec.ofInt 64 x).toNat : Int) = n * 128 + x := by
 obtain ⟨a, rfl⟩ : ∃ a : Nat, n = a := ⟨n.toNat, by omega⟩
 obtain ⟨b, rfl⟩ : ∃ b : Nat, x = b := ⟨x.toNat, by omega⟩
 rw [BitVec.toNat_or]
 have e1 : (BitVec.ofInt 64 ((a : Int) * 128)).toNat = 2 ^ 7 * a := by rw [BitVec.toNat_ofInt]; omega
 have e2 : (BitVec.ofInt 64 (b : Int)).toNat = b := by rw [BitVec.toNat_ofInt]; omega
 rw [e1, e2, <- Nat.two_pow_add_eq_or_of_lt (by omega : b < 2 ^ 7)]
 omega
theorem and7 : ∀ n : Fin 256, IntKind.u8.wrap ((BitVec.ofInt 8 (n.val : Int) &&& ~~~ BitVec.ofInt 8 128).toNat) = (n.val : Int) % 128 /\ (IntKind.u8.wrap ((BitVec.ofInt 8 (n.val : Int) &&& BitVec.ofInt 8 128).toNat) = 0) = ((n.val : Int) < 128) := by decide +kernel
theorem num_go (b : List Int) (hb : qac b = true) : ∀ (f i : Nat) (n : Int), i <= b.length -> b.length < f + i -> 0 <= n -> n < 4294967296 -> 
  qdw (fun _ _ _ _ _ _ _ _ _ _ _ _ _ _ _ => some (.ret [.cl (.int .u32 0), .cl (.int .i64 0)] [])) (fun _ _ _ _ _ _ _ _ _ _ _ _ _ _ _ _ _ => some (.ret [.cl (.int .u32 0), .cl (.int .i64 0)] [])) (fun y33 y34 _ _ _ _ _ _ _ _ _ _ _ _ _ _ _ _ _ _ _ _ _ _ _ _ _ _ _ _ _ => some (.ret [.cl (.int .u32 y33), .cl (.int .i64 y34)] [])) (fun _ _ _ _ _ _ _ _ _ _ _ _ _ _ => some (.ret [.cl (.int .u32 0), .cl (.int .i64 0)] []))
   (fun y33 y34 _ _ _ _ _ _ _ _ _ _ _ _ _ _ _ _ _ _ _ _ _ _ _ _ _ _ => some (.ret [.cl (.int .u32 y33), .cl (.int .i64 y34)] [])) (fun _ _ _ _ => some (.ret [.cl (.int .u32 0), .cl (.int .i64 0)] [])) f n b (b.length : Int) i = some (.ret [.cl (.int .u32 (qbw n i (b.drop i)).1), .cl (.int .i64 (qbw n i (b.drop i)).2)] [])
 | 0, i, n, hi, hf, _, _ => by omega
 | f + 1, i, n, hi, hf, h0, h1 => by
  show qha (qdw (fun _ _ _ _ _ _ _ _ _ _ _ _ _ _ _ => some (.ret [.cl (.int .u32 0), .cl (.int .i64 0)] [])) (fun _ _ _ _ _ _ _ _ _ _ _ _ _ _ _ _ _ => some (.ret [.cl (.int .u32 0), .cl (.int .i64 0)] [])) (fun y33 y34 _ _ _ _ _ _ _ _ _ _ _ _ _ _ _ _ _ _ _ _ _ _ _ _ _ _ _ _ _ => some (.ret [.cl (.int .u32 y33), .cl (.int .i64 y34)] [])) (fun _ _ _ _ _ _ _ _ _ _ _ _ _ _ => some (.ret [.cl (.int .u32 0), .cl (.int .i64 0)] []))
   (fun y33 y34 _ _ _ _ _ _ _ _ _ _ _ _ _ _ _ _ _ _ _ _ _ _ _ _ _ _ => some (.ret [.cl (.int .u32 y33), .cl (.int .i64 y34)] [])) (fun _ _ _ _ => some (.ret [.cl (.int .u32 0), .cl (.int .i64 0)] [])) f) _ _ _ _ _ _ n b (b.length : Int) i = _
  have hl := (qap hb).1
  unfold qha
  refine qaf (fun h => qau (by omega) (qau h ?_)) fun h => ?_
  ·obtain ⟨c, hc⟩ := qbj (b := b) (i := i) (by omega)
   have hcr := qa0 hb hc
   rw [show (i : Int).toNat = i from rfl, hc, Option.bind_some, qh1 hc]
   have a7 := and7 ⟨c.toNat, by omega⟩
   simp only [Int.toNat_of_nonneg hcr.1] at a7
   have step : ∀ (X : Option Out), ¬ 33554431 < n -> ¬ ((i : Int) = 0 /\ c = 128) -> (IntKind.u64.wrap (n * 2 ^ 7) = n * 128) /\ IntKind.u64.wrap (IntKind.u8.wrap ((BitVec.ofInt 8 c &&& ~~~ BitVec.ofInt 8 128).toNat)) = c % 128 /\ IntKind.u64.wrap ((BitVec.ofInt 64 (n * 128) ||| BitVec.ofInt 64 (c % 128)).toNat) = n * 128 + c % 128 /\
     qbw n i (c :: b.drop (i + 1)) = if c < 128 then (n * 128 + c, (i : Int) + 1) else qbw (n * 128 + (c - 128)) ((i : Int) + 1) (b.drop (i + 1)) := fun X g1 g2 => by
    refine ⟨(u64_in _ (by omega)).trans (by omega), ?_, ?_, ?_⟩
    ·rw [a7.1]; exact u64_in _ (by omega)
    ·rw [or7 h0 (by omega) (by omega) (by omega)]; exact u64_in _ (by omega)
    ·conv => lhs; unfold qbw
     rw [if_neg (by rintro (h | h); exact g2 h; exact g1 h)]
   have stop : ((i : Int) = 0 /\ c = 128) \/ 33554431 < n -> (some (.ret [.cl (.int .u32 0), .cl (.int .i64 0)] []) : Option Out) = some (.ret [.cl (.int .u32 (qbw n i (c :: b.drop (i + 1))).1), .cl (.int .i64 (qbw n i (c :: b.drop (i + 1))).2)] []) := fun h => by
    unfold qbw
    rw [if_pos h]
   have go : ∀ (g1 : ¬ 33554431 < n) (g2 : ¬ ((i : Int) = 0 /\ c = 128)) (R : Option Out) (K : Int -> Int -> Option Out) (A : Option Out), True := fun _ _ _ _ _ => trivial
   refine qaf (fun hi0 => qaf (fun h128 => stop (.inl ⟨hi0, h128⟩)) fun h128 => qaf (fun hn => stop (.inr hn)) fun hn => ?_) fun hi0 => qaf (fun hn => stop (.inr hn)) fun hn => ?_
   ·obtain ⟨s1, s2, s3, s4⟩ := step none hn (by omega)
    dsimp only
    rw [s1, s2, s3, s4]
    refine qaf (fun hz => ?_) fun hz => ?_
    ·have hz : c < 128 := by rwa [a7.2] at hz
     rw [if_pos hz, show c % 128 = c by omega, show IntKind.u32.wrap (n * 128 + c) = n * 128 + c from u32_in _ (by omega), show IntKind.i64.wrap ((i : Int) + 1) = (i : Int) + 1 from i64_in _ (by omega)]
    ·have hz : ¬ c < 128 := by rwa [a7.2] at hz
     rw [if_neg hz, show c % 128 = c - 128 by omega, show IntKind.i64.wrap ((i : Int) + 1) = ((i + 1 : Nat) : Int) from (i64_in _ (by omega)).trans (by omega)]
     exact num_go b hb f (i + 1) _ (by omega) (by omega) (by omega) (by omega)
   ·obtain ⟨s1, s2, s3, s4⟩ := step none hn (by omega)
    dsimp only
    rw [s1, s2, s3, s4]
    refine qaf (fun hz => ?_) fun hz => ?_
    ·have hz : c < 128 := by rwa [a7.2] at hz
     rw [if_pos hz, show c % 128 = c by omega, show IntKind.u32.wrap (n * 128 + c) = n * 128 + c from u32_in _ (by omega), show IntKind.i64.wrap ((i : Int) + 1) = (i : Int) + 1 from i64_in _ (by omega)]
    ·have hz : ¬ c < 128 := by rwa [a7.2] at hz
     rw [if_neg hz, show c % 128 = c - 128 by omega, show IntKind.i64.wrap ((i : Int) + 1) = ((i + 1 : Nat) : Int) from (i64_in _ (by omega)).trans (by omega)]
     exact num_go b hb f (i + 1) _ (by omega) (by omega) (by omega) (by omega)
  ·rw [qi9 (by omega)]
   rfl
theorem nONumber (b : List Int) (hp : qac b = true) : gONumber b = some (.ret [.cl (.int .u32 (qeo b).1), .cl (.int .i64 (qeo b).2)] []) := by
 unfold gONumber qeo
 simp only [qae]
 exact num_go b hp FUEL 0 0 (by omega) (by have := (qap hp).1; unfold FUEL; omega) (by omega) (by omega)
theorem nONumbers (b : List Int) (hp : true = true) : gONumbers b = some (.ret [.fn (.func 75) [] [.ptr 0 0 0]] [some ⟨.var [.cl (.sli .u8 b)], false⟩]) := rfl
end Go.Proofs.YtbgkadaidhgggaaDoorA

namespace Go.Proofs.YtbgkadaidhgggaaDoorA
open IntWalk (i64_in u8_in u32_in u64_in i64_quo u8_quo rem_in)

theorem numG_rng : ∀ (b : List Int) (n i : Int), (∀ x ∈ b, 0 <= x /\ x <= 255) -> 0 <= n -> 0 <= i -> (0 <= (qbw n i b).1 /\ (qbw n i b).1 <= 4294967295) /\ ((qbw n i b).2 = 0 \/ i < (qbw n i b).2 /\ (qbw n i b).2 <= i + b.length)
 | [], n, i, _, _, _ => by simp [qbw]
 | c :: r, n, i, hb, hn, hi => by
  have hc := hb c (by simp)
  unfold qbw
  split
  ·simp
  ·rename_i h
   split
   ·exact ⟨by omega, .inr (by simp only [List.length_cons]; omega)⟩
   ·have := numG_rng r (n * 128 + (c - 128)) (i + 1) (fun x hx => hb x (by simp [hx])) (by omega) (by omega)
    refine ⟨this.1, this.2.imp id fun h => ?_⟩
    simp only [List.length_cons]; omega
theorem qjh {b : List Int} (hb : qac b = true) : (0 <= (qas b).1 /\ (qas b).1 <= 4294967295) /\ ((qas b).2 = 0 \/ 0 < (qas b).2 /\ (qas b).2 <= b.length) := by
 have := numG_rng b 0 0 (qap hb).2 (by omega) (by omega)
 unfold qas
 exact ⟨this.1, this.2.imp id fun h => by omega⟩
theorem nums_more : ∀ (n m : Nat) (b : List Int), qac b = true -> b.length <= n -> b.length <= m -> qdb n b = qdb m b
 | 0, 0, b, _, _, _ => rfl
 | 0, m + 1, b, _, h, _ => by
  have : b = [] := List.eq_nil_of_length_eq_zero (by omega)
  subst this; simp [qdb]
 | n + 1, 0, b, _, _, h => by
  have : b = [] := List.eq_nil_of_length_eq_zero (by omega)
  subst this; simp [qdb]
 | n + 1, m + 1, b, hb, h1, h2 => by
  unfold qdb
  by_cases h : b = []
  ·rw [if_pos h, if_pos h]
  ·rw [if_neg h, if_neg h]
   by_cases h0 : (qas b).2 = 0
   ·rw [if_pos h0, if_pos h0]
   ·rw [if_neg h0, if_neg h0]
    have := (qjh hb).2
    rw [nums_more n m _ (qa5 hb _) (by simp only [List.length_drop]; omega) (by simp only [List.length_drop]; omega)]
theorem nums_step {b : List Int} (hb : qac b = true) : qhx b = if b = [] then [] else if (qas b).2 = 0 then [((qas b).1, false)] else ((qas b).1, true) :: qhx (b.drop (qas b).2.toNat) := by
 unfold qhx
 cases b with
 | nil => rfl
 | cons c r =>
  rw [if_neg (by simp)]
  conv => lhs; rw [List.length_cons]; unfold qdb
  rw [if_neg (by simp)]
  by_cases h0 : (qas (c :: r)).2 = 0
  ·rw [if_pos h0, if_pos h0]
  ·rw [if_neg h0, if_neg h0]
   have := (qjh hb).2
   rw [nums_more _ _ _ (qa5 hb _) (by simp only [List.length_drop, List.length_cons] at *; omega) (Nat.le_refl _)]

/-! ### the iterator -/
def rowOf2 (p : Int × Bool) : List CV := [.int .u32 p.1, .bool p.2]
theorem it_lp (l : Nat) : ∀ (f : Nat) (b : List Int), qac b = true -> b.length < f -> ∃ out, qfb l
  (fun _ _ _ _ _ _ _ _ _ _ _ _ _ _ y15 => some (.ret [] [some ⟨.var [.cl (.sli .u8 y15)], false⟩])) (fun _ _ _ _ _ _ _ _ _ _ _ _ _ _ _ _ y32 => some (.ret [] [some ⟨.var [.cl (.sli .u8 y32)], false⟩])) (fun _ _ y35 => some (.ret [] [some ⟨.var [.cl (.sli .u8 y35)], false⟩])) f b = some out /\ Hands out (some ((qhx b).map rowOf2))
 | 0, b, _, h => by omega
 | f + 1, b, hb, hf => by
  have ih := fun b' h1 h2 => it_lp l f b' h1 h2
  generalize hag : qfb l (fun _ _ _ _ _ _ _ _ _ _ _ _ _ _ y15 => some (.ret [] [some ⟨.var [.cl (.sli .u8 y15)], false⟩])) (fun _ _ _ _ _ _ _ _ _ _ _ _ _ _ _ _ y32 => some (.ret [] [some ⟨.var [.cl (.sli .u8 y32)], false⟩])) (fun _ _ y35 => some (.ret [] [some ⟨.var [.cl (.sli .u8 y35)], false⟩])) f = ag at ih
  have e : qfb l (fun _ _ _ _ _ _ _ _ _ _ _ _ _ _ y15 => some (.ret [] [some ⟨.var [.cl (.sli .u8 y15)], false⟩])) (fun _ _ _ _ _ _ _ _ _ _ _ _ _ _ _ _ y32 => some (.ret [] [some ⟨.var [.cl (.sli .u8 y32)], false⟩])) (fun _ _ y35 => some (.ret [] [some ⟨.var [.cl (.sli .u8 y35)], false⟩])) (f + 1) b =
    qml l ag (fun _ _ _ _ _ _ _ _ _ _ _ _ _ _ y15 => some (.ret [] [some ⟨.var [.cl (.sli .u8 y15)], false⟩])) (fun _ _ _ _ _ _ _ _ _ _ _ _ _ _ _ _ y32 => some (.ret [] [some ⟨.var [.cl (.sli .u8 y32)], false⟩])) (fun _ _ y35 => some (.ret [] [some ⟨.var [.cl (.sli .u8 y35)], false⟩])) b := by rw [<- hag]; rfl
  rw [e]
  unfold qml
  rw [nums_step hb]
  by_cases h : b = []
  ·subst h
   exact ⟨_, qfq (by simp) rfl, .inl rfl⟩
  ·have hlen : 0 < b.length := List.length_pos_iff.2 h
   rw [if_neg h]
   have hr := qjh hb
   have e1 : qeo b = qas b := by unfold qeo; rw [qae]
   rw [e1]
   by_cases h0 : (qas b).2 = 0
   ·rw [if_pos h0]
    refine ⟨.yld [.int .u32 (qas b).1, .bool (decide ((0 : Int) < (qas b).2))] (.ret [] [some ⟨.var [.cl (.sli .u8 b)], false⟩]) (.ret [] [some ⟨.var [.cl (.sli .u8 b)], false⟩]), qau (by omega) (qba hb (qba (Nat.beq_refl l) ?_)), ?_⟩
    ·dsimp only
     rw [decide_eq_true h0]; rfl
    ·refine ⟨?_, .inr rfl, .inl rfl⟩
     show [CV.int .u32 (qas b).1, .bool (decide ((0 : Int) < (qas b).2))] = [.int .u32 (qas b).1, .bool false]
     rw [decide_eq_false (by omega)]
   ·rw [if_neg h0]
    obtain ⟨out, g1, g2⟩ := ih (b.drop (qas b).2.toNat) (qa5 hb _) (by simp only [List.length_drop]; omega)
    refine ⟨.yld [.int .u32 (qas b).1, .bool (decide ((0 : Int) < (qas b).2))] (.ret [] [some ⟨.var [.cl (.sli .u8 b)], false⟩]) out, qau (by omega) (qba hb (qba (Nat.beq_refl l) ?_)), ?_⟩
    ·dsimp only
     rw [decide_eq_false h0]
     show yldO _ _ (cond (decide ((0 : Int) <= (qas b).2)) (cond (decide ((qas b).2 <= ((b.length : Nat) : Int))) (ag (List.drop (Int.toNat (qas b).2) b)) none) none) = _
     rw [decide_eq_true (show (0 : Int) <= (qas b).2 by omega), decide_eq_true (show (qas b).2 <= ((b.length : Nat) : Int) by omega)]
     simp only [cond_true]
     rw [g1]
     rfl
    ·refine ⟨?_, .inr rfl, g2⟩
     show [CV.int .u32 (qas b).1, .bool (decide ((0 : Int) < (qas b).2))] = [.int .u32 (qas b).1, .bool true]
     rw [decide_eq_true (by omega)]
theorem nONums (l : Nat) (b : List Int) (hp : qac b = true) : ∃ out, gONums l b = some out /\ Hands out (some (qq3 (oidNums b))) := by
 unfold gONums qq3 oidNums
 simp only [qae]
 obtain ⟨out, h1, h2⟩ := it_lp l FUEL b hp (by have := (qap hp).1; unfold FUEL; omega)
 exact ⟨out, by rw [Nat.beq_refl, cond_true]; exact h1, h2⟩

/-! ### the range over it -/
theorem first_min {n : Int} (h0 : 0 <= n) (h1 : n <= 4294967295) : ∃ x, cond (decide ((2 : Int) < n / 40)) 2 (n / 40) = x /\ 0 <= x /\ x <= 2 /\ [x, n - 40 * x] = qda n /\ 0 <= n - 40 * x := by
 unfold qda
 by_cases h : n < 80
 ·rw [if_pos h, decide_eq_false (by omega)]
  exact ⟨n / 40, rfl, by omega, by omega, by simp; omega, by omega⟩
 ·rw [if_neg h]
  by_cases h2 : 2 < n / 40
  ·rw [decide_eq_true h2]
   exact ⟨2, rfl, by omega, by omega, by simp, by omega⟩
  ·rw [decide_eq_false h2]
   exact ⟨n / 40, rfl, by omega, by omega, by simp; omega, by omega⟩
theorem rl_go (R0 : Option Out) (K : Nat -> List Int -> Option Out) : ∀ (ps : List (Int × Bool)) (o : List Int), (∀ p ∈ ps, 0 <= p.1 /\ p.1 <= 4294967295) -> o.length <= 24 ->
  qga (fun _ _ => R0) K (ps.map rowOf2) o.length o = match oidGo ps o with | some o' => K o'.length o' | none => R0
 | [], o, _, _ => rfl
 | (n, ok) :: ps, o, hp, ho => by
  have hn := hp (n, ok) (by simp)
  have ih := fun o' h => rl_go R0 K ps o' (fun p hp' => hp p (by simp [hp'])) h
  show qkq (qga (fun _ _ => R0) K (ps.map rowOf2)) (fun _ _ => R0) K n ok o.length o = _
  unfold qkq oidGo
  cases ok with
  | false => simp
  | true =>
   simp only [Bool.not_true, cond_false, Bool.true_eq_false, false_or]
   refine qaf (fun h => ?_) fun h => ?_
   ·rw [if_pos (by omega)]
   ·rw [if_neg (by omega)]
    refine qaf (fun h0 => ?_) fun h0 => ?_
    ·have : o = [] := List.eq_nil_of_length_eq_zero (by omega)
     subst this
     rw [if_pos rfl]
     obtain ⟨x, g1, g2, g3, g4, g5⟩ := first_min hn.1 hn.2
     rw [show IntKind.u32.wrap (Int.tdiv n 40) = n / 40 by rw [Int.tdiv_eq_ediv_of_nonneg hn.1]; exact u32_in _ (by simp only at hn; omega)]
     rw [g1, show IntKind.u32.wrap (40 * x) = 40 * x from u32_in _ (by omega), show IntKind.u32.wrap (n - 40 * x) = n - 40 * x from u32_in _ (by simp only at hn; omega)]
     rw [List.nil_append, List.cons_append, List.nil_append]
     rw [g4]
     have hlen : (qda n).length = 2 := by rw [<- g4]; rfl
     refine qau (by simp [LIM]) (qau (by simp [LIM]) (qau (by rw [hlen]; simp [LIM]) (qau (by rw [hlen]; simp [LIM]) (ih (qda n) (by omega)))))
    ·rw [if_neg (by intro e; subst e; simp at h0)]
     refine qau (by unfold LIM; simp only [List.length_append, List.length_cons, List.length_nil]; omega) (qau (by unfold LIM; simp only [List.length_append, List.length_cons, List.length_nil]; omega) (ih _ (by simp only [List.length_append, List.length_cons, List.length_nil]; omega)))
theorem nums_rng : ∀ (n : Nat) (b : List Int), qac b = true -> ∀ p ∈ qdb n b, 0 <= p.1 /\ p.1 <= 4294967295
 | 0, b, _, p, hp => by simp [qdb] at hp
 | n + 1, b, hb, p, hp => by
  have hr := (qjh hb).1
  unfold qdb at hp
  split at hp
  ·simp at hp
  ·split at hp
   ·simp at hp; subst hp; exact hr
   ·rcases List.mem_cons.1 hp with rfl | hp
    ·exact hr
    ·exact nums_rng n _ (qa5 hb _) p hp
theorem nOParse (b : List Int) (hp : qac b = true) : gOParse b = some (.ret [.cl (.sli .u32 (qdu b).1), .cl (.int .i64 (qdu b).2)] []) := by
 unfold gOParse
 refine qba hp (qba ?_ ?_)
 ·unfold qq3
  rw [qae, List.all_map, List.all_eq_true]
  intro p _
  rfl
 ·unfold qq3 oidNums qdu qms qn1
  simp only [qae]
  refine (rl_go _ _ (qhx b) [] (nums_rng _ b hp) (by simp)).trans ?_
  cases oidGo (qhx b) [] with
  | none => rfl
  | some o =>
   show cond (!(qfh o)) _ _ = _
   cases h : qfh o <;> simp [h]

/-! ### as the document reads them -/
def qla (o : List Int) (n : Int) : List Int := if o = [] then qda n else o ++ [n]
def refGo : Int -> Bool -> List Int -> List Int -> Option (List Int)
 | _, fresh, [], o => if fresh = true then some o else none
 | n, fresh, c :: r, o => if fresh = true /\ c = 128 then none else if 4294967295 < n * 128 + c % 128 then none else if c < 128 then refGo 0 true r (qla o (n * 128 + c % 128)) else refGo (n * 128 + c % 128) false r o
def oidFin : Option (List Int) -> List Int × Int
 | some o => if qfh o = true then (o, 0) else ([], 5)
 | none => ([], 5)
theorem push_len (o : List Int) (n : Int) : o.length <= (qla o n).length := by
 unfold qla
 split
 ·rename_i h; subst h; simp
 ·simp
theorem refGo_len : ∀ (b : List Int) (n : Int) (fresh : Bool) (o o' : List Int), refGo n fresh b o = some o' -> o.length <= o'.length
 | [], n, fresh, o, o', h => by
  unfold refGo at h
  split at h
  ·simp at h; subst h; exact Nat.le_refl _
  ·cases h
 | c :: r, n, fresh, o, o', h => by
  unfold refGo at h
  split at h
  ·cases h
  ·split at h
   ·cases h
   ·split at h
    ·exact Nat.le_trans (push_len o _) (refGo_len r _ _ _ _ h)
    ·exact refGo_len r _ _ _ _ h
theorem refGo_cons (n : Int) (fresh : Bool) (c : Int) (r o : List Int) : refGo n fresh (c :: r) o = if fresh = true /\ c = 128 then none else if 4294967295 < n * 128 + c % 128 then none else if c < 128 then refGo 0 true r (qla o (n * 128 + c % 128)) else refGo (n * 128 + c % 128) false r o := rfl
theorem numG_cons (n i c : Int) (r : List Int) : qbw n i (c :: r) = if (i = 0 /\ c = 128) \/ 33554431 < n then (0, 0) else if c < 128 then (n * 128 + c, i + 1) else qbw (n * 128 + (c - 128)) (i + 1) r := rfl
theorem refGo_num : ∀ (b : List Int) (n i : Int) (fresh : Bool) (o : List Int), (∀ x ∈ b, 0 <= x /\ x <= 255) -> 0 <= n -> 0 <= i -> (fresh = true ↔ i = 0) -> (b = [] -> fresh = false) ->
  refGo n fresh b o = if (qbw n i b).2 = 0 then none else refGo 0 true (b.drop ((qbw n i b).2 - i).toNat) (qla o (qbw n i b).1)
 | [], n, i, fresh, o, _, _, _, _, h => by simp [refGo, qbw, h rfl]
 | c :: r, n, i, fresh, o, hb, hn, hi, hf, _ => by
  have hc := hb c (by simp)
  rw [refGo_cons, numG_cons]
  by_cases h1 : fresh = true /\ c = 128
  ·rw [if_pos h1, if_pos (show (i = 0 /\ c = 128) \/ 33554431 < n from .inl ⟨hf.1 h1.1, h1.2⟩)]; rfl
  ·rw [if_neg h1]
   by_cases h2 : 33554431 < n
   ·rw [if_pos (by omega), if_pos (show (i = 0 /\ c = 128) \/ 33554431 < n from .inr h2)]; rfl
   ·rw [if_neg (by omega), if_neg (show ¬((i = 0 /\ c = 128) \/ 33554431 < n) from fun h => h.elim (fun h => h1 ⟨hf.2 h.1, h.2⟩) h2)]
    by_cases h3 : c < 128
    ·rw [if_pos h3, if_pos h3, show c % 128 = c by omega]
     simp only
     rw [if_neg (by omega), show (i + 1 - i).toNat = 1 by omega]
     rfl
    ·rw [if_neg h3, if_neg h3, show c % 128 = c - 128 by omega]
     rw [refGo_num r (n * 128 + (c - 128)) (i + 1) false o (fun x hx => hb x (by simp [hx])) (by omega) (by omega) (by simp; omega) (fun _ => rfl)]
     have hr := numG_rng r (n * 128 + (c - 128)) (i + 1) (fun x hx => hb x (by simp [hx])) (by omega) (by omega)
     by_cases h4 : (qbw (n * 128 + (c - 128)) (i + 1) r).2 = 0
     ·rw [if_pos h4, if_pos h4]
     ·rw [if_neg h4, if_neg h4]
      have hr2 := hr.2.resolve_left h4
      rw [show ((qbw (n * 128 + (c - 128)) (i + 1) r).2 - i).toNat = ((qbw (n * 128 + (c - 128)) (i + 1) r).2 - (i + 1)).toNat + 1 by omega, List.drop_succ_cons]
theorem fin_long {o : List Int} (h : 20 < o.length) : oidFin (some o) = ([], 5) := by
 unfold oidFin
 have : qfh o = false := by
  match o, h with
  | x :: y :: r, h => simp only [qfh]; simp only [List.length_cons] at h; rw [show decide (r.length <= 18) = false from decide_eq_false (by omega)]; rfl
  | [x], h => simp at h
  | [], h => simp at h
 show (if qfh o = true then (o, 0) else ([], 5) : List Int × Int) = _
 rw [this]; rfl
theorem ref_eq : ∀ (n : Nat) (b : List Int), qac b = true -> b.length <= n -> ∀ o, oidFin (refGo 0 true b o) = oidFin (oidGo (qdb n b) o)
 | 0, b, _, h, o => by
  have : b = [] := List.eq_nil_of_length_eq_zero (by omega)
  subst this; rfl
 | n + 1, b, hb, h, o => by
  unfold qdb
  by_cases he : b = []
  ·subst he; rfl
  ·rw [if_neg he]
   have hr := qjh hb
   have hnum := refGo_num b 0 0 true o (qap hb).2 (by omega) (by omega) (by simp) (fun h => absurd h he)
   rw [show qbw 0 0 b = qas b from rfl] at hnum
   by_cases h0 : (qas b).2 = 0
   ·rw [if_pos h0, hnum, if_pos h0]
    simp [oidGo]
   ·rw [if_neg h0, hnum, if_neg h0]
    have hr2 := hr.2.resolve_left h0
    conv => rhs; unfold oidGo
    by_cases hlong : 20 < o.length
    ·rw [if_pos (.inr hlong)]
     cases hg : refGo 0 true (List.drop ((qas b).2 - 0).toNat b) (qla o (qas b).1) with
     | none => rfl
     | some o' =>
      rw [fin_long (by have := refGo_len _ _ _ _ _ hg; have := push_len o (qas b).1; omega)]
      rfl
    ·rw [if_neg (by rintro (h | h); cases h; exact hlong h), Int.sub_zero]
     rw [ref_eq n _ (qa5 hb _) (by simp only [List.length_drop]; omega)]
     unfold qla
     split <;> rfl
theorem r2_lp (b : List Int) (hb : qac b = true) : ∀ (f i : Nat) (n : Int) (fresh : Bool) (o : List Int), i <= b.length -> b.length < f + i -> 0 <= n -> n <= 4294967295 -> o.length <= 2 + i ->
  qc5 (fun _ _ _ _ _ _ _ _ _ _ _ _ _ _ _ _ => some (.ret [.cl (.sli .u32 []), .cl (.int .i64 5)] [])) (fun _ _ _ _ _ _ _ _ _ _ _ _ _ _ _ _ _ _ _ _ _ _ _ _ _ _ _ _ _ _ _ _ _ => some (.ret [.cl (.sli .u32 []), .cl (.int .i64 5)] [])) (fun _ _ _ _ _ _ _ _ _ _ _ _ _ _ _ _ _ _ _ _ _ _ _ _ _ _ _ => some (.ret [.cl (.sli .u32 []), .cl (.int .i64 5)] []))
   (fun _ _ _ y80 _ _ _ _ y85 => cond (!y80) (some (.ret [.cl (.sli .u32 []), .cl (.int .i64 5)] [])) (let r86 : Bool := qn1 y85; cond (!r86) (some (.ret [.cl (.sli .u32 []), .cl (.int .i64 5)] [])) (some (.ret [.cl (.sli .u32 y85), .cl (.int .i64 0)] [])))) f b o.length n fresh i o =
   some (.ret [.cl (.sli .u32 (oidFin (refGo n fresh (b.drop i) o)).1), .cl (.int .i64 (oidFin (refGo n fresh (b.drop i) o)).2)] [])
 | 0, i, n, fresh, o, hi, hf, _, _, _ => by omega
 | f + 1, i, n, fresh, o, hi, hf, h0, h1, ho => by
  have ih := fun n fresh o h0 h1 ho hi => r2_lp b hb f (i + 1) n fresh o hi (by omega) h0 h1 ho
  have hl := (qap hb).1
  generalize hag : qc5 (fun _ _ _ _ _ _ _ _ _ _ _ _ _ _ _ _ => some (.ret [.cl (.sli .u32 []), .cl (.int .i64 5)] [])) (fun _ _ _ _ _ _ _ _ _ _ _ _ _ _ _ _ _ _ _ _ _ _ _ _ _ _ _ _ _ _ _ _ _ => some (.ret [.cl (.sli .u32 []), .cl (.int .i64 5)] [])) (fun _ _ _ _ _ _ _ _ _ _ _ _ _ _ _ _ _ _ _ _ _ _ _ _ _ _ _ => some (.ret [.cl (.sli .u32 []), .cl (.int .i64 5)] []))
   (fun _ _ _ y80 _ _ _ _ y85 => cond (!y80) (some (.ret [.cl (.sli .u32 []), .cl (.int .i64 5)] [])) (let r86 : Bool := qn1 y85; cond (!r86) (some (.ret [.cl (.sli .u32 []), .cl (.int .i64 5)] [])) (some (.ret [.cl (.sli .u32 y85), .cl (.int .i64 0)] [])))) f = ag at ih
  show qgk (qc5 _ _ _ _ f) _ _ _ _ b o.length n fresh i o = _
  rw [hag]
  unfold qgk
  refine qaf (fun h => ?_) fun h => ?_
  ·obtain ⟨c, hc⟩ := qbj (b := b) (i := i) (by omega)
   have hcr := qa0 hb hc
   rw [qh1 hc]
   have ti : (i : Int).toNat = i := rfl
   have main : cond (decide ((4294967295 : Int) < n * 128 + c % 128)) (some (.ret [.cl (.sli .u32 []), .cl (.int .i64 5)] [])) (cond (!(decide (c < 128))) (ag b o.length (n * 128 + c % 128) (decide (c < 128)) ((i + 1 : Nat) : Int) o)
     (cond (decide (((o.length : Nat) : Int) = 0)) (cond (u32Ok (n * 128 + c % 128)) (cond (decide ((((o ++ qe0 (n * 128 + c % 128)).length : Nat) : Int) * 4 <= LIM)) (cond (decide ((((o ++ qe0 (n * 128 + c % 128)).length : Nat) : Int) <= LIM)) (ag b (o ++ qe0 (n * 128 + c % 128)).length 0 (decide (c < 128)) ((i + 1 : Nat) : Int) (o ++ qe0 (n * 128 + c % 128))) none) none) none)
      (cond (decide ((((o ++ [IntKind.u32.wrap (n * 128 + c % 128)]).length : Nat) : Int) * 4 <= LIM)) (cond (decide ((((o ++ [IntKind.u32.wrap (n * 128 + c % 128)]).length : Nat) : Int) <= LIM)) (ag b (o ++ [IntKind.u32.wrap (n * 128 + c % 128)]).length 0 (decide (c < 128)) ((i + 1 : Nat) : Int) (o ++ [IntKind.u32.wrap (n * 128 + c % 128)])) none) none))) =
     some (.ret [.cl (.sli .u32 (oidFin (if 4294967295 < n * 128 + c % 128 then none else if c < 128 then refGo 0 true (b.drop (i + 1)) (qla o (n * 128 + c % 128)) else refGo (n * 128 + c % 128) false (b.drop (i + 1)) o)).1), .cl (.int .i64 (oidFin (if 4294967295 < n * 128 + c % 128 then none else if c < 128 then refGo 0 true (b.drop (i + 1)) (qla o (n * 128 + c % 128)) else refGo (n * 128 + c % 128) false (b.drop (i + 1)) o)).2)] []) := by
    refine qaf (fun h2 => ?_) fun h2 => ?_
    ·rw [if_pos h2]; rfl
    ·rw [if_neg h2]
     by_cases h3 : c < 128
     ·rw [if_pos h3, decide_eq_true h3]
      simp only [Bool.not_true, cond_false]
      unfold qla
      refine qaf (fun h4 => ?_) fun h4 => ?_
      ·have : o = [] := List.eq_nil_of_length_eq_zero (by omega)
       subst this
       rw [if_pos rfl]
       have hok : u32Ok (n * 128 + c % 128) = true := by unfold u32Ok; rw [qae]; exact decide_eq_true (by omega)
       have e1 : qe0 (n * 128 + c % 128) = qda (n * 128 + c % 128) := by unfold qe0; rw [qae]
       have hlen : (qda (n * 128 + c % 128)).length = 2 := by unfold qda; split <;> rfl
       rw [e1, List.nil_append]
       exact qba hok (qau (by rw [hlen]; simp [LIM]) (qau (by rw [hlen]; simp [LIM]) (ih _ _ _ (by omega) (by omega) (by omega) (by omega))))
      ·rw [if_neg (by intro e; subst e; simp at h4), show IntKind.u32.wrap (n * 128 + c % 128) = n * 128 + c % 128 from u32_in _ (by omega)]
       refine qau (by unfold LIM; simp only [List.length_append, List.length_cons, List.length_nil]; omega) (qau (by unfold LIM; simp only [List.length_append, List.length_cons, List.length_nil]; omega) (ih _ _ _ (by omega) (by omega) (by simp only [List.length_append, List.length_cons, List.length_nil]; omega) (by omega)))
     ·rw [if_neg h3, decide_eq_false h3]
      simp only [Bool.not_false, cond_true]
      exact ih _ _ _ (by omega) (by omega) (by omega) (by omega)
   have wi : IntKind.i64.wrap ((i : Int) + 1) = ((i + 1 : Nat) : Int) := (i64_in _ (by omega)).trans (by omega)
   have wn : IntKind.u64.wrap (n * 128) = n * 128 := u64_in _ (by omega)
   have wm : Int.tmod c 128 = c % 128 := Int.tmod_eq_emod_of_nonneg hcr.1
   have wc : IntKind.u64.wrap (c % 128) = c % 128 := u64_in _ (by omega)
   have ws : IntKind.u64.wrap (n * 128 + c % 128) = n * 128 + c % 128 := u64_in _ (by omega)
   conv => rhs; unfold refGo
   cases fresh with
   | true =>
    simp only [cond_true, true_and]
    refine qau (by omega) (qau h ?_)
    simp only [ti, hc, Option.bind_some]
    refine qaf (fun h5 => ?_) fun h5 => ?_
    ·rw [if_pos h5]; rfl
    ·rw [if_neg h5, wm, wc, wn, ws, wi]
     refine qau (by omega) (qau h (qau (by omega) (qau h main)))
   | false =>
    simp only [cond_false, Bool.false_eq_true, false_and, if_false]
    refine qau (by omega) (qau h ?_)
    simp only [ti, hc, Option.bind_some]
    rw [wm, wc, wn, ws, wi]
    exact qau (by omega) (qau h main)
  ·rw [qi9 (by omega)]
   cases fresh with
   | false => rfl
   | true =>
    show cond (!true) _ (cond (!(qn1 o)) _ _) = _
    unfold qn1
    rw [qae]
    show _ = some (Out.ret [.cl (.sli .u32 (if qfh o = true then (o, 0) else ([], 5) : List Int × Int).1), .cl (.int .i64 (if qfh o = true then (o, 0) else ([], 5) : List Int × Int).2)] [])
    cases qfh o <;> rfl
theorem nR2Parse (b : List Int) (hp : qac b = true) : gR2Parse b = some (.ret [.cl (.sli .u32 (qdu b).1), .cl (.int .i64 (qdu b).2)] []) := by
 unfold gR2Parse qdu
 simp only [qae]
 refine (r2_lp b hp FUEL 0 0 true [] (by omega) (by have := (qap hp).1; unfold FUEL; omega) (by omega) (by omega) (by simp)).trans ?_
 rw [List.drop_zero, ref_eq b.length b hp (Nat.le_refl _)]
 have : oidFin (oidGo (qdb b.length b) []) = qms b := by unfold oidFin qms qhx; rfl
 rw [this]
end Go.Proofs.YtbgkadaidhgggaaDoorA

namespace Go.Proofs.YtbgkadaidhgggaaDoorA
open IntWalk (i64_in u8_in u32_in u64_in i64_quo u8_quo rem_in)

theorem qgb {n : Int} (h : qb9 n = true) : 0 <= n /\ n <= 1000 := by
 unfold qb9 at h; rw [qae] at h; exact of_decide_eq_true h
theorem qfn {n : Int} (h : 0 <= n /\ n <= 1000) : qb9 n = true := by
 unfold qb9; rw [qae]; exact decide_eq_true h

theorem fits_one (b : List Int) (A B : Option Out) (hA : A = some (.ret [.cl (.bool (decide (b = [0] \/ b = [255])))] [])) (hb : ¬b.length = 1 -> B = some (.ret [.cl (.bool (decide (b = [0] \/ b = [255])))] [])) : cond (decide (((b.length : Nat) : Int) = 1)) A B = some (.ret [.cl (.bool (decide (b = [0] \/ b = [255])))] []) :=
 qaf (fun _ => hA) fun h => hb (by omega)

theorem nDFits (tag : Int) (b : List Int) (hp : qac b = true) : gDFits tag b = some (.ret [.cl (.bool (qc4 tag b))] []) := by
 unfold gDFits qc4 qcq qel qhh qdu u8Valid
 simp only [qae]
 refine qaf (fun h => ?_) fun h => ?_
 ·rw [if_pos h]
  match b, hp with
  | [], _ => rfl
  | [x], _ =>
   refine qau (by simp) (qau (by simp) ?_)
   simp only [List.getElem?_cons_zero, Option.bind_some]
   refine qaf (fun h => qav ?_) fun h => qau (by simp) (qav ?_)
   ·simp [h]
   ·simp [h]
  | x :: y :: r, _ => exact qfq (by simp only [List.length_cons]; omega) (qav (by simp))
 ·rw [if_neg h]
  refine qaf (fun h => ?_) fun h => ?_
  ·rw [if_pos h]; exact qba hp rfl
  ·rw [if_neg h]
   refine qaf (fun h => ?_) fun h => ?_
   ·rw [if_pos h]; exact qba hp rfl
   ·rw [if_neg h]
    refine qaf (fun h => ?_) fun h => ?_
    ·rw [if_pos h]
     refine qav ?_
     rw [Bool.eq_iff_iff]
     simp only [decide_eq_true_eq]
     cases b <;> simp
     omega
    ·rw [if_neg h]
     refine qaf (fun h => ?_) fun h => ?_
     ·rw [if_pos h]; exact qba hp rfl
     ·rw [if_neg h]
      refine qaf (fun h => ?_) fun h => ?_
      ·rw [if_pos h]; exact qba hp rfl
      ·rw [if_neg h]
       refine qaf (fun h => ?_) fun h => ?_
       ·rw [if_pos h]
       ·rw [if_neg h]
theorem nRFits (tag : Int) (b : List Int) (hp : qac b = true) : gRFits tag b = some (.ret [.cl (.bool (qc4 tag b))] []) := nDFits tag b hp

theorem len_rng {l : List Int} (hb : qac l = true) : 0 <= (qab l).1 /\ (qab l).1 < 16777216 /\ 0 <= (qab l).2 /\ (qab l).2 <= 4 /\ (qab l).2 <= l.length := by
 match l, hb with
 | [], _ => decide
 | c :: t, hb =>
  have hc := qa0 hb (i := 0) (x := c) rfl
  have ht := (qap (qbn hb)).2
  simp only [List.tail_cons] at ht
  rw [qbf]
  split
  ·simp only [List.length_cons]; omega
  ·split
   ·simp only [List.length_cons]; omega
   ·split
    ·simp only [List.length_cons]; omega
    ·have := foldl_take3 ht (j := (c - 128).toNat) (by omega)
     simp only [List.length_cons]; omega

/-- one value's reading -/
def parse1 (P : List Int -> Int × Nd × Int) (t : Int) (r : List Int) : Int × Nd × Int :=
 if qa9 t = false then (4, nd0, 0)
 else if (qab r).2 = 0 \/ (r.length : Int) - (qab r).2 < (qab r).1 then (1, nd0, 0)
 else if qa4 t = false then (if qcq t ((r.drop (qab r).2.toNat).take (qab r).1.toNat) = true then (0, (t, ((r.drop (qab r).2.toNat).take (qab r).1.toNat), []), 1 + (qab r).2 + (qab r).1) else (5, nd0, 0))
 else if (qbq P ((r.drop (qab r).2.toNat).take (qab r).1.toNat).length ((r.drop (qab r).2.toNat).take (qab r).1.toNat)).1 = 0 then
  (if t = 49 /\ qa1 (qbq P ((r.drop (qab r).2.toNat).take (qab r).1.toNat).length ((r.drop (qab r).2.toNat).take (qab r).1.toNat)).2.2 = false then (6, nd0, 0) else (0, (t, [], (qbq P ((r.drop (qab r).2.toNat).take (qab r).1.toNat).length ((r.drop (qab r).2.toNat).take (qab r).1.toNat)).2.1.map ndCV), 1 + (qab r).2 + (qab r).1))
  else ((qbq P ((r.drop (qab r).2.toNat).take (qab r).1.toNat).length ((r.drop (qab r).2.toNat).take (qab r).1.toNat)).1, nd0, 0)
theorem qct (n : Nat) (t : Int) (r : List Int) : qax (n + 1) (t :: r) = parse1 (qax n) t r := rfl
theorem qky {P : List Int -> Int × Nd × Int} {t : Int} {r : List Int} (h : (parse1 P t r).1 = 0) : (parse1 P t r).2.2 = 1 + (qab r).2 + (qab r).1 /\ ¬qa9 t = false /\ ¬((qab r).2 = 0 \/ (r.length : Int) - (qab r).2 < (qab r).1) := by
 unfold parse1 at h ⊢
 split at h
 ·exact absurd h (by decide : ¬(4 : Int) = 0)
 ·rename_i h1
  rw [if_neg h1]
  split at h
  ·exact absurd h (by decide : ¬(1 : Int) = 0)
  ·rename_i h2
   rw [if_neg h2]
   refine ⟨?_, h1, h2⟩
   split at h
   ·rename_i h3
    rw [if_pos h3]
    split at h
    ·rename_i h4; rw [if_pos h4]
    ·exact absurd h (by decide : ¬(5 : Int) = 0)
   ·rename_i h3
    rw [if_neg h3]
    split at h
    ·rename_i h4
     rw [if_pos h4]
     split at h
     ·exact absurd h (by decide : ¬(6 : Int) = 0)
     ·rename_i h5; rw [if_neg h5]
    ·rename_i h4; exact absurd h h4
theorem qd4 {n : Nat} {b : List Int} (hb : qac b = true) (h : (qax n b).1 = 0) : 0 < (qax n b).2.2 /\ (qax n b).2.2 <= b.length := by
 match n, b, hb with
 | 0, _, _ => exact absurd h (by decide : ¬(3 : Int) = 0)
 | n + 1, [], _ => exact absurd h (by decide : ¬(1 : Int) = 0)
 | n + 1, t :: r, hb =>
  rw [qct] at h ⊢
  have := qky h
  have hr := len_rng (qbn hb)
  simp only [List.tail_cons] at hr
  simp only [List.length_cons]
  omega
theorem rest_used {d : Int} {b : List Int} (hb : qac b = true) (h : (qax d.toNat b).1 = 0) : qh8 b d = b.drop (qax d.toNat b).2.2.toNat := by
 obtain ⟨n, hn⟩ : ∃ n, d.toNat = n := ⟨_, rfl⟩
 rw [hn] at h ⊢
 match n, b, hb with
 | 0, _, _ => exact absurd h (by decide : ¬(3 : Int) = 0)
 | n + 1, [], _ => exact absurd h (by decide : ¬(1 : Int) = 0)
 | n + 1, t :: r, hb =>
  rw [qct] at h ⊢
  have hu := qky h
  have hr := len_rng (qbn hb)
  simp only [List.tail_cons] at hr
  unfold qh8
  rw [if_neg (by omega)]
  show (if qa9 t = false then r else _) = _
  rw [if_neg hu.2.1, if_neg (fun e => hu.2.2 (.inl e)), if_neg (fun e => hu.2.2 (.inr e)), hu.1,
   show (1 + (qab r).2 + (qab r).1).toNat = ((qab r).2 + (qab r).1).toNat + 1 by omega, List.drop_succ_cons]

theorem qg2 (f : List Int -> Int × Nd × Int) (m : Nat) : qbq f m [] = (0, [], []) := by cases m <;> rfl
theorem qoo {f : List Int -> Int × Nd × Int} {m : Nat} {b : List Int} (hne : b ≠ []) (h : (f b).1 = 0) : qbq f (m + 1) b = ((qbq f m (b.drop (f b).2.2.toNat)).1, (f b).2.1 :: (qbq f m (b.drop (f b).2.2.toNat)).2.1, b.take (f b).2.2.toNat :: (qbq f m (b.drop (f b).2.2.toNat)).2.2) := by
 show (if b = [] then _ else _) = _
 rw [if_neg hne, if_pos h]
theorem parts_no {f : List Int -> Int × Nd × Int} {m : Nat} {b : List Int} (hne : b ≠ []) (h : ¬(f b).1 = 0) : qbq f (m + 1) b = ((f b).1, [], []) := by
 show (if b = [] then _ else _) = _
 rw [if_neg hne, if_neg h]
theorem ndRead_ok {b : List Int} {d : Int} (h : (qax d.toNat b).1 = 0) : qej b d = ((qax d.toNat b).2.1, (qax d.toNat b).2.2, 0) := by
 unfold qej; rw [qae]; exact if_pos h
theorem ndRead_no {b : List Int} {d : Int} (h : ¬(qax d.toNat b).1 = 0) : qej b d = (nd0, 0, (qax d.toNat b).1) := by
 unfold qej; rw [qae]; exact if_neg h

theorem read_lp (rk : Nat) (F0 : Int -> Option Out) (F1 : Int -> Int -> Int -> Int -> List CV -> List CV -> Option Out) (v1 v2 v3 v4 v7 : Int) (h1 : 1 <= v1) (h2 : v1 <= 1000) (h3 : v1.toNat < rk + 1) : ∀ (f m : Nat) (b : List Int) (rows kids : List CV), qac b = true -> b.length <= m -> b.length < f -> rows.length + b.length <= 1000000 -> kids.length + b.length <= 1000000 ->
  qko rk (fun _ y16 => (fun _ _ _ _ _ _ _ _ _ _ _ _ _ _ _ _ _ _ _ _ _ _ _ _ _ _ _ _ _ _ _ _ _ _ _ _ => F0 y16)) (fun _ y54 y55 y56 _ _ _ _ y61 _ y63 y64 => F1 y54 y55 y56 y61 y63 y64) f v1 v2 v3 v4 b rows.length v7 kids.length rows kids
   = if (qbq (qax (v1 - 1).toNat) m b).1 = 0 then F1 v2 v3 v4 v7 (rows ++ (qbq (qax (v1 - 1).toNat) m b).2.2.map (CV.sli .u8)) (kids ++ (qbq (qax (v1 - 1).toNat) m b).2.1.map ndCV) else F0 (qbq (qax (v1 - 1).toNat) m b).1
 | 0, m, b, rows, kids, hb, hm, hf, hr, hk => by omega
 | f + 1, m, b, rows, kids, hb, hm, hf, hr, hk => by
  show ql0 rk (qko rk (fun _ y16 => (fun _ _ _ _ _ _ _ _ _ _ _ _ _ _ _ _ _ _ _ _ _ _ _ _ _ _ _ _ _ _ _ _ _ _ _ _ => F0 y16)) (fun _ y54 y55 y56 _ _ _ _ y61 _ y63 y64 => F1 y54 y55 y56 y61 y63 y64) f) (fun _ y16 => (fun _ _ _ _ _ _ _ _ _ _ _ _ _ _ _ _ _ _ _ _ _ _ _ _ _ _ _ _ _ _ _ _ _ _ _ _ => F0 y16)) (fun _ y54 y55 y56 _ _ _ _ y61 _ y63 y64 => F1 y54 y55 y56 y61 y63 y64) v1 v2 v3 v4 b rows.length v7 kids.length rows kids = _
  unfold ql0
  refine qaf (fun h => ?_) fun h => ?_
  ·have hne : b ≠ [] := by intro e; subst e; simp at h
   simp only [show IntKind.i64.wrap (v1 - 1) = v1 - 1 from i64_in _ (by omega)]
   refine qba ?_ ?_
   ·simp only [Bool.and_eq_true, decide_eq_true_eq]
    exact ⟨hb, qfn (by omega), by omega⟩
   ·obtain ⟨m, rfl⟩ : ∃ k, m = k + 1 := ⟨m - 1, by omega⟩
    by_cases hz : (qax (v1 - 1).toNat b).1 = 0
    ·have hu := qd4 hb hz
     rw [qoo hne hz]
     simp only [ndRead_ok hz]
     refine b_neg (by simp) ?_
     refine qau (by simp only [List.length_append, List.length_singleton]; unfold LIM; omega) (qau (by simp only [List.length_append, List.length_singleton]; unfold LIM; omega) (qau (by omega) (qau hu.2 ?_)))
     refine qau (by simp only [List.length_append, List.length_singleton]; unfold LIM; omega) (qau (by simp only [List.length_append, List.length_singleton]; unfold LIM; omega) (qau (by omega) (qau hu.2 ?_)))
     refine (read_lp rk F0 F1 v1 v2 v3 v4 v7 h1 h2 h3 f m _ _ _ (qa5 hb _) (by simp only [List.length_drop]; omega) (by simp only [List.length_drop]; omega) (by simp only [List.length_drop, List.length_append, List.length_singleton]; omega) (by simp only [List.length_drop, List.length_append, List.length_singleton]; omega)).trans ?_
     simp only [List.append_assoc, List.singleton_append, List.map_cons]
     rfl
    ·rw [parts_no hne hz]
     simp only [ndRead_no hz]
     refine c_npos hz ?_
     rw [if_neg hz]
  ·have e : b = [] := List.eq_nil_of_length_eq_zero (by omega)
   subst e
   rw [qg2]
   simp

theorem parts_len {f : List Int -> Int × Nd × Int} (hf : ∀ b, qac b = true -> (f b).1 = 0 -> 0 < (f b).2.2 /\ (f b).2.2 <= b.length) : ∀ (m : Nat) (b : List Int), qac b = true -> (qbq f m b).2.1.length <= b.length /\ (qbq f m b).2.2.length <= b.length /\ ∀ x ∈ (qbq f m b).2.2, rowB x = true
 | 0, b, hb => by simp [qbq]
 | m + 1, b, hb => by
  by_cases hne : b = []
  ·subst hne; rw [qg2]; simp
  ·by_cases hz : (f b).1 = 0
   ·have hu := hf b hb hz
    have ih := parts_len hf m (b.drop (f b).2.2.toNat) (qa5 hb _)
    rw [qoo hne hz]
    simp only [List.length_cons, List.length_drop, List.mem_cons] at ih ⊢
    refine ⟨by omega, by omega, fun x hx => hx.elim (fun e => ?_) (ih.2.2 x)⟩
    subst e
    have := qdq hb (f b).2.2.toNat
    unfold qac at this
    rwa [qae] at this
   ·rw [parts_no hne hz]; simp
theorem rowsOk_map {l : List (List Int)} (h1 : l.length <= 1000000) (h2 : ∀ x ∈ l, rowB x = true) : qf0 (l.map (CV.sli .u8)) = true := by
 unfold qf0
 rw [qae]
 simp only [Bool.and_eq_true, decide_eq_true_eq, List.all_eq_true, List.length_map, List.mem_map]
 refine ⟨h1, fun x hx => ?_⟩
 obtain ⟨y, hy, rfl⟩ := hx
 exact h2 y hy
theorem qhp (l : List (List Int)) : qbg (l.map (CV.sli .u8)) = qa1 l := by
 unfold qbg
 rw [qae, List.map_map]
 congr 1
 exact (List.map_congr_left fun x _ => rfl).trans (List.map_id l)

/-- what a reading answers -/
noncomputable def rdOut (p : Int × Nd × Int) : Option Out := if p.1 = 0 then some (.ret [.cl (.agg [.int .i64 p.2.1.1, .sli .u8 p.2.1.2.1, .slg 3 p.2.1.2.2]), .cl (.int .i64 p.2.2), .cl (.int .i64 0)] []) else some (.ret [.cl (.agg [.int .i64 0, .sli .u8 [], .slg 3 []]), .cl (.int .i64 0), .cl (.int .i64 p.1)] [])
theorem inside_eq {t : Int} {r : List Int} {A B : Int} (hA : 0 <= A) (hB : 0 <= B) : List.drop (Int.toNat (1 + B)) (List.take (Int.toNat (1 + B + A)) (t :: r)) = (r.drop B.toNat).take A.toNat := by
 rw [show (1 + B).toNat = B.toNat + 1 by omega, show (1 + B + A).toNat = (B.toNat + A.toNat) + 1 by omega, List.take_succ_cons, List.drop_succ_cons, List.drop_take, show B.toNat + A.toNat - B.toNat = A.toNat by omega]

theorem nRReadN' (rk : Nat) (b : List Int) (deep : Int) (hb : qac b = true) (hd : 0 <= deep /\ deep <= 1000) (hk : deep.toNat < rk + 1) : gRReadN rk b deep = rdOut (qax deep.toNat b) := by
 unfold gRReadN
 refine qaf (fun h => ?_) fun h => ?_
 ·subst h; rfl
 ·obtain ⟨n, hn⟩ : ∃ n, deep.toNat = n + 1 := ⟨deep.toNat - 1, by omega⟩
  rw [hn]
  match b, hb with
  | [], _ => rfl
  | t :: r, hb =>
   have ht := qa0 hb (i := 0) (x := t) rfl
   have hl := (qap hb).1
   have hbt := qbn hb
   simp only [List.tail_cons] at hbt
   simp only [List.length_cons] at hl
   have hr := len_rng hbt
   rw [qct]
   unfold parse1
   simp only [qcv, qmo, qbe, qc4, qae, List.length_cons, List.getElem?_cons_zero, Option.bind_some, List.drop_one, List.tail_cons]
   refine qfq (by omega) (qau (by omega) ?_)
   rw [show IntKind.i64.wrap t = t from i64_in _ (by omega)]
   refine qce (fun h => ?_) fun h => ?_
   ·rw [if_pos (by simpa using h)]; rfl
   rw [if_neg (by simpa using h)]
   refine qau (by omega) (qba hbt ?_)
   generalize hA : (qab r).1 = A at *
   generalize hB : (qab r).2 = B at *
   refine qaf (fun h5 => ?_) fun h5 => ?_
   ·rw [if_pos (.inl h5)]; rfl
   rw [show IntKind.i64.wrap (((r.length + 1 : Nat) : Int) - 1) = r.length from (i64_in _ (by omega)).trans (by omega), show IntKind.i64.wrap ((r.length : Int) - B) = r.length - B from i64_in _ (by omega)]
   refine qaf (fun h6 => ?_) fun h6 => ?_
   ·rw [if_pos (.inr h6)]; rfl
   rw [if_neg (by omega)]
   simp only [show IntKind.i64.wrap ((1 : Int) + B) = 1 + B from i64_in _ (by omega), show IntKind.i64.wrap (1 + B + A) = 1 + B + A from i64_in _ (by omega)]
   refine qau (by omega) (qau (by omega) (qau (by omega) ?_))
   rw [inside_eq (by omega) (by omega)]
   have hin : qac ((r.drop B.toNat).take A.toNat) = true := qdq (qa5 hbt _) _
   have hil : ((r.drop B.toNat).take A.toNat).length <= 1000000 := (qap hin).1
   generalize hI : (r.drop B.toNat).take A.toNat = I at *
   refine qce (fun h7 => ?_) fun h7 => ?_
   ·rw [if_pos (by simpa using h7)]
    refine qba hin (qce (fun h8 => ?_) fun h8 => ?_)
    ·rw [if_neg (by simpa using h8)]; rfl
    ·rw [if_pos (by simpa using h8)]; rfl
   ·rw [if_neg (by simpa using h7)]
    refine (read_lp rk (fun e => some (.ret [.cl (.agg [.int .i64 0, .sli .u8 [], .slg 3 []]), .cl (.int .i64 0), .cl (.int .i64 e)] []))
     (fun y54 y55 y56 y61 y63 y64 => cond (decide (y54 = 49)) (cond (qf0 y63) (cond (!(qbg y63)) (some (.ret [.cl (.agg [.int .i64 0, .sli .u8 [], .slg 3 []]), .cl (.int .i64 0), .cl (.int .i64 6)] [])) (some (.ret [.cl (.agg [.int .i64 y61, .sli .u8 [], .slg 3 y64]), .cl (.int .i64 (IntKind.i64.wrap (y56 + y55))), .cl (.int .i64 0)] []))) none) (some (.ret [.cl (.agg [.int .i64 y61, .sli .u8 [], .slg 3 y64]), .cl (.int .i64 (IntKind.i64.wrap (y56 + y55))), .cl (.int .i64 0)] [])))
     deep t A (1 + B) t (by omega) hd.2 hk FUEL I.length I [] [] hin (Nat.le_refl _) (by unfold FUEL; omega) (by simp; omega) (by simp; omega)).trans ?_
    rw [show (deep - 1).toNat = n by omega]
    have hpl := parts_len (f := qax n) (fun b hb h => qd4 hb h) I.length I hin
    generalize hP : qbq (qax n) I.length I = p at *
    obtain ⟨p1, p2, p3⟩ := p
    simp only [List.nil_append] at hpl ⊢
    by_cases hz : p1 = 0
    ·subst hz
     rw [if_pos rfl, if_pos rfl, show IntKind.i64.wrap (1 + B + A) = 1 + B + A from i64_in _ (by omega), qhp]
     refine qaf (fun h8 => qba (rowsOk_map (by omega) hpl.2.2) (qce (fun h9 => ?_) fun h9 => ?_)) fun h8 => ?_
     ·rw [if_pos ⟨h8, by simpa using h9⟩]; rfl
     ·rw [if_neg (fun e => by simp [e.2] at h9)]; rfl
     ·rw [if_neg (fun e => h8 e.1)]; rfl
    ·rw [if_neg hz, if_neg hz]
     unfold rdOut
     rw [if_neg hz]
theorem rdOut_read (b : List Int) (d : Int) : rdOut (qax d.toNat b) = some (.ret [.cl (.agg [.int .i64 (qej b d).1.1, .sli .u8 (qej b d).1.2.1, .slg 3 (qej b d).1.2.2]), .cl (.int .i64 (qej b d).2.1), .cl (.int .i64 (qej b d).2.2)] []) := by
 unfold rdOut
 by_cases hz : (qax d.toNat b).1 = 0
 ·rw [if_pos hz, ndRead_ok hz]
 ·rw [if_neg hz, ndRead_no hz]; rfl
theorem nRReadN (rk : Nat) (b : List Int) (deep : Int) (hp : (qac b && (qb9 deep && decide (deep.toNat < rk + 1))) = true) : gRReadN rk b deep = some (.ret [.cl (.agg [.int .i64 (qej b deep).1.1, .sli .u8 (qej b deep).1.2.1, .slg 3 (qej b deep).1.2.2]), .cl (.int .i64 (qej b deep).2.1), .cl (.int .i64 (qej b deep).2.2)] []) := by
 simp only [Bool.and_eq_true, decide_eq_true_eq] at hp
 rw [<- rdOut_read]
 exact nRReadN' rk b deep hp.1 (qgb hp.2.1) hp.2.2
end Go.Proofs.YtbgkadaidhgggaaDoorA
