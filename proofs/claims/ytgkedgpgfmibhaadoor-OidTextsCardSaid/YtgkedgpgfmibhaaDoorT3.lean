/-
  The oid layer: what each reading comes to is the plain function; small ones. Conditions: each function's own.
-/
import Derived.Test.YtgkedgpgfmibhaaDoorT2
import Derived.IntWalk
set_option linter.unusedVariables false
set_option linter.unusedSimpArgs false
namespace Go.Proofs.YtgkedgpgfmibhaaDoorA
open IntWalk (i64_in u8_in u32_in u64_in i64_quo u8_quo rem_in)

/-! ### bytes that are so -/
theorem byteB_spec {x : Int} (h : byteB x = true) : 0 ≤ x ∧ x ≤ 255 := of_decide_eq_true h
theorem bytesOk_spec {b : List Int} (h : bytesOk b = true) : b.length ≤ 1000000 ∧ ∀ x ∈ b, 0 ≤ x ∧ x ≤ 255 := by
  unfold bytesOk at h
  rw [shut_eq] at h
  simp only [Bool.and_eq_true, decide_eq_true_eq, List.all_eq_true] at h
  exact ⟨h.1, fun x hx => byteB_spec (h.2 x hx)⟩
theorem bytesOk_of {b : List Int} (h : b.length ≤ 1000000) (h' : ∀ x ∈ b, 0 ≤ x ∧ x ≤ 255) : bytesOk b = true := by
  unfold bytesOk
  rw [shut_eq]
  simp only [Bool.and_eq_true, decide_eq_true_eq, List.all_eq_true]
  exact ⟨h, fun x hx => decide_eq_true (h' x hx)⟩
theorem bytesOk_sub {a b : List Int} (h : bytesOk b = true) (hl : a.length ≤ b.length) (hs : ∀ x ∈ a, x ∈ b) : bytesOk a = true :=
  let ⟨h1, h2⟩ := bytesOk_spec h; bytesOk_of (by omega) fun x hx => h2 x (hs x hx)
theorem bytesOk_drop {b : List Int} (h : bytesOk b = true) (n : Nat) : bytesOk (b.drop n) = true := bytesOk_sub h (by simp) fun x hx => List.mem_of_mem_drop hx
theorem bytesOk_take {b : List Int} (h : bytesOk b = true) (n : Nat) : bytesOk (b.take n) = true := bytesOk_sub h (by simp; omega) fun x hx => List.mem_of_mem_take hx
theorem bytesOk_tail {b : List Int} (h : bytesOk b = true) : bytesOk b.tail = true := bytesOk_sub h (by simp) fun x hx => List.mem_of_mem_tail hx
theorem bytesOk_at {b : List Int} (h : bytesOk b = true) {i : Nat} {x : Int} (hx : b[i]? = some x) : 0 ≤ x ∧ x ≤ 255 := (bytesOk_spec h).2 x (List.mem_of_getElem? hx)
theorem lenOk_spec {b : List Int} (h : lenOk b = true) : b.length ≤ 100000000 := by
  unfold lenOk at h; rw [shut_eq] at h; exact of_decide_eq_true h
theorem lenOk_of {b : List Int} (h : b.length ≤ 100000000) : lenOk b = true := by
  unfold lenOk; rw [shut_eq]; exact decide_eq_true h
theorem get_some {α : Type} {b : List α} {i : Nat} (h : i < b.length) : ∃ x, b[i]? = some x := ⟨_, List.getElem?_eq_getElem h⟩

theorem two_cases (o : List Int) : o.length < 2 ∧ oidFitC o = false ∨ ∃ x y r, o = x :: y :: r := by
  match o with
  | [] => exact .inl ⟨by simp, rfl⟩
  | [x] => exact .inl ⟨by simp, rfl⟩
  | x :: y :: r => exact .inr ⟨x, y, r, rfl⟩
theorem nOFit (o : List Int) (hp : true = true) : gOFit o = some (.ret [.cl (.bool (oidFit o))] []) := by
  unfold gOFit oidFit
  simp only [shut_eq, Bool.cond_decide]
  rcases two_cases o with ⟨h, e⟩ | ⟨x, y, r, rfl⟩
  · rw [if_pos (by omega), e]
  · simp only [List.getElem?_cons_zero, List.getElem?_cons_succ, Option.bind_some, List.length_cons, oidFitC]
    repeat' split
    all_goals first
      | (refine ret_bool ?_; rw [Bool.eq_iff_iff]; simp only [Bool.and_eq_true, Bool.or_eq_true, decide_eq_true_eq, Bool.false_eq_true, false_iff, true_iff]; omega)
      | omega
theorem nR2Fit (o : List Int) (hp : true = true) : gR2Fit o = some (.ret [.cl (.bool (oidFit o))] []) := by
  unfold gR2Fit oidFit
  simp only [shut_eq]
  rcases two_cases o with ⟨h, e⟩ | ⟨x, y, r, rfl⟩
  · exact c_pos (by omega) (ret_bool e.symm)
  · simp only [List.getElem?_cons_zero, List.getElem?_cons_succ, Option.bind_some, List.length_cons, oidFitC]
    repeat' (refine c_split (fun _ => ?_) fun _ => ?_)
    all_goals first
      | (refine ret_bool ?_; rw [Bool.eq_iff_iff]; simp only [Bool.and_eq_true, Bool.or_eq_true, decide_eq_true_eq, Bool.false_eq_true, false_iff, true_iff]; omega)
      | omega
theorem nR2First (n : Int) (hp : u32Ok n = true) : gR2First n = some (.ret [.cl (.sli .u32 (oidFirst n))] []) := by
  unfold u32Ok at hp
  rw [shut_eq] at hp
  have hp := of_decide_eq_true hp
  unfold gR2First oidFirst oidFirstC
  simp only [shut_eq]
  refine c_split (fun h => ?_) fun h => ?_
  · rw [if_pos h, show IntKind.u64.wrap (Int.tdiv n 40) = n / 40 by rw [Int.tdiv_eq_ediv_of_nonneg (by omega)]; exact u64_in _ (by omega), Int.tmod_eq_emod_of_nonneg (by omega),
      show IntKind.u32.wrap (n / 40) = n / 40 from u32_in _ (by omega), show IntKind.u32.wrap (n % 40) = n % 40 from u32_in _ (by omega)]
  · rw [if_neg h, show IntKind.u64.wrap (n - 80) = n - 80 from u64_in _ (by omega), show IntKind.u32.wrap (n - 80) = n - 80 from u32_in _ (by omega)]
theorem drop_cons {b : List Int} {i : Nat} {x : Int} (h : b[i]? = some x) : b.drop i = x :: b.drop (i + 1) := by
  obtain ⟨hlt, e⟩ := List.getElem?_eq_some_iff.1 h
  rw [List.drop_eq_getElem_cons hlt, e]
theorem drop_nil {α : Type} {b : List α} {i : Nat} (h : b.length ≤ i) : b.drop i = [] := List.drop_eq_nil_of_le h

theorem wrap_succ {i : Nat} (h : i ≤ 1000000000000) : IntKind.i64.wrap ((i : Int) + 1) = ((i + 1 : Nat) : Int) := (i64_in _ (by omega)).trans (by omega)
theorem same_go {a b : List Int} {T : Nat → Int → Option Out}
    (hT : ∀ (f i : Nat), T (f + 1) i = cond (decide ((i : Int) < ((a.length : Nat) : Int))) (getK a i fun x => getK b i fun y => cond (!decide (x = y)) (some (.ret [.cl (.bool false)] [])) (T f (IntKind.i64.wrap ((i : Int) + 1)))) (some (.ret [.cl (.bool true)] [])))
    (hl : a.length = b.length) (hb : a.length ≤ 100000000) : ∀ (f i : Nat), i ≤ a.length → a.length < f + i → T f i = some (.ret [.cl (.bool (decide (a.drop i = b.drop i)))] [])
  | 0, i, hi, hf => by omega
  | f + 1, i, hi, hf => by
    rw [hT]
    refine c_split (fun h => ?_) fun h => ?_
    · obtain ⟨x, hx⟩ := get_some (b := a) (i := i) (by omega)
      obtain ⟨y, hy⟩ := get_some (b := b) (i := i) (by omega)
      refine getK_in (by omega) hx (getK_in (by omega) hy ?_)
      rw [drop_cons hx, drop_cons hy]
      refine c_nsplit (fun hne => ret_bool ?_) fun he => ?_
      · simp [hne]
      · subst he
        rw [wrap_succ (by omega)]
        refine (same_go hT hl hb f (i + 1) (by omega) (by omega)).trans (ret_bool ?_)
        simp
    · refine ret_bool ?_
      rw [drop_nil (by omega), drop_nil (by omega)]
      simp
theorem fuel_lt {n : Nat} (h : n ≤ 100000000) : n < FUEL + 0 := by unfold FUEL; omega
theorem same_all {a b : List Int} {x : Option Out} (hx : a.length = b.length → x = some (.ret [.cl (.bool (decide (a.drop 0 = b.drop 0)))] [])) :
    cond (!decide (((a.length : Nat) : Int) = ((b.length : Nat) : Int))) (some (.ret [.cl (.bool false)] [])) x = some (.ret [.cl (.bool (listSame a b))] []) := by
  unfold listSame listSameC
  rw [shut_eq]
  refine c_nsplit (fun h => ret_bool ?_) fun h => hx (by omega)
  rw [eq_comm, decide_eq_false_iff_not]
  intro e
  subst e
  exact h rfl
theorem nR1Same (a b : List Int) (hp : lenOk a = true) : gR1Same a b = some (.ret [.cl (.bool (listSame a b))] []) := by
  unfold gR1Same
  simp only [shut_eq]
  exact same_all fun h => same_go (T := fun f => lpR1Same_4 _ _ f a b) (fun _ _ => rfl) h (lenOk_spec hp) FUEL 0 (by omega) (fuel_lt (lenOk_spec hp))
theorem nR2Same (a b : List Int) (hp : lenOk a = true) : gR2Same a b = some (.ret [.cl (.bool (listSame a b))] []) := by
  unfold gR2Same
  simp only [shut_eq]
  exact same_all fun h => same_go (T := fun f => lpR2Same_4 _ _ f a b) (fun _ _ => rfl) h (lenOk_spec hp) FUEL 0 (by omega) (fuel_lt (lenOk_spec hp))
theorem nSEq32 (a b : List Int) (hp : lenOk a = true) : gSEq32 a b = some (.ret [.cl (.bool (listSame a b))] []) := by
  unfold gSEq32
  simp only [shut_eq]
  exact same_all fun h => same_go (T := fun f => lpSEq32_4 _ _ f a b _) (fun _ _ => rfl) h (lenOk_spec hp) FUEL 0 (by omega) (fuel_lt (lenOk_spec hp))
theorem nOSame (a b : List Int) (hp : lenOk a = true) : gOSame a b = some (.ret [.cl (.bool (listSame a b))] []) := b_pos hp rfl
end Go.Proofs.YtgkedgpgfmibhaaDoorA

namespace Go.Proofs.YtgkedgpgfmibhaaDoorA
open IntWalk (i64_in u8_in u32_in u64_in i64_quo u8_quo rem_in)

theorem or7 {n x : Int} (h0 : 0 ≤ n) (h1 : n < 72057594037927936) (h2 : 0 ≤ x) (h3 : x ≤ 127) : ((BitVec.ofInt 64 (n * 128) ||| BitVec.ofInt 64 x).toNat : Int) = n * 128 + x := by
  obtain ⟨a, rfl⟩ : ∃ a : Nat, n = a := ⟨n.toNat, by omega⟩
  obtain ⟨b, rfl⟩ : ∃ b : Nat, x = b := ⟨x.toNat, by omega⟩
  rw [BitVec.toNat_or]
  have e1 : (BitVec.ofInt 64 ((a : Int) * 128)).toNat = 2 ^ 7 * a := by rw [BitVec.toNat_ofInt]; omega
  have e2 : (BitVec.ofInt 64 (b : Int)).toNat = b := by rw [BitVec.toNat_ofInt]; omega
  rw [e1, e2, ← Nat.two_pow_add_eq_or_of_lt (by omega : b < 2 ^ 7)]
  omega
theorem and7 : ∀ n : Fin 256, IntKind.u8.wrap ((BitVec.ofInt 8 (n.val : Int) &&& ~~~ BitVec.ofInt 8 128).toNat) = (n.val : Int) % 128 ∧ (IntKind.u8.wrap ((BitVec.ofInt 8 (n.val : Int) &&& BitVec.ofInt 8 128).toNat) = 0) = ((n.val : Int) < 128) := by decide +kernel
abbrev oNumO (p : Int × Int) : Option Out := some (.ret [.cl (.int .u32 p.1), .cl (.int .i64 p.2)] [])
noncomputable abbrev numL := lpONumber_3 (oNumO (0, 0)) (fun y1 y2 => oNumO (y1, y2)) (oNumO (0, 0))
theorem num_go (b : List Int) (hb : bytesOk b = true) : ∀ (f i : Nat) (n : Int), i ≤ b.length → b.length < f + i → 0 ≤ n → n < 4294967296 →
    numL f n b (b.length : Int) i = oNumO (oidNumG n i (b.drop i))
  | 0, i, n, hi, hf, _, _ => by omega
  | f + 1, i, n, hi, hf, h0, h1 => by
    show lpONumber_3s (numL f) (oNumO (0, 0)) (fun y1 y2 => oNumO (y1, y2)) (oNumO (0, 0)) n b (b.length : Int) i = _
    have hl := (bytesOk_spec hb).1
    unfold lpONumber_3s
    refine c_split (fun h => ?_) fun h => ?_
    · obtain ⟨c, hc⟩ := get_some (b := b) (i := i) (by omega)
      have hcr := bytesOk_at hb hc
      refine getK_in (by omega) hc ?_
      rw [drop_cons hc]
      have a7 := and7 ⟨c.toNat, by omega⟩
      simp only [Int.toNat_of_nonneg hcr.1] at a7
      have ih := fun n h0 h1 => num_go b hb f (i + 1) n (by omega) (by omega) h0 h1
      generalize numL f = ag at ih ⊢
      have go : ¬ ((i : Int) = 0 ∧ c = 128) → cond (decide ((33554431 : Int) < n)) (oNumO (0, 0)) (
          let x2 : Int := IntKind.u64.wrap (n * 2 ^ 7)
          let x3 : Int := IntKind.u8.wrap ((BitVec.ofInt 8 c &&& ~~~ BitVec.ofInt 8 128).toNat)
          let x4 : Int := IntKind.u64.wrap x3
          let x5 : Int := IntKind.u64.wrap ((BitVec.ofInt 64 x2 ||| BitVec.ofInt 64 x4).toNat)
          let x6 : Int := IntKind.u8.wrap ((BitVec.ofInt 8 c &&& BitVec.ofInt 8 128).toNat)
          cond (decide (x6 = 0)) (oNumO (IntKind.u32.wrap x5, IntKind.i64.wrap ((i : Int) + 1))) (ag x5 b b.length (IntKind.i64.wrap ((i : Int) + 1)))) = oNumO (oidNumG n i (c :: b.drop (i + 1))) := fun hne => by
        conv => rhs; unfold oidNumG
        refine c_split (fun h2 => ?_) fun h2 => ?_
        · rw [if_pos (.inr h2)]
        · rw [if_neg (by rintro (h | h); exact hne h; exact h2 h)]
          have s1 : IntKind.u64.wrap (n * 2 ^ 7) = n * 128 := (u64_in _ (by omega)).trans (by omega)
          have s2 : IntKind.u64.wrap (IntKind.u8.wrap ((BitVec.ofInt 8 c &&& ~~~ BitVec.ofInt 8 128).toNat)) = c % 128 := by rw [a7.1]; exact u64_in _ (by omega)
          have s3 : IntKind.u64.wrap ((BitVec.ofInt 64 (n * 128) ||| BitVec.ofInt 64 (c % 128)).toNat) = n * 128 + c % 128 := by rw [or7 h0 (by omega) (by omega) (by omega)]; exact u64_in _ (by omega)
          dsimp only
          rw [s1, s2, s3, wrap_succ (by omega)]
          refine c_split (fun hz => ?_) fun hz => ?_
          · have hz : c < 128 := by rwa [a7.2] at hz
            rw [if_pos hz, show c % 128 = c by omega, show IntKind.u32.wrap (n * 128 + c) = n * 128 + c from u32_in _ (by omega)]
            rfl
          · have hz : ¬ c < 128 := by rwa [a7.2] at hz
            rw [if_neg hz, show c % 128 = c - 128 by omega]
            exact ih _ (by omega) (by omega)
      refine c_split (fun hi0 => c_split (fun h128 => ?_) fun h128 => go fun h => h128 h.2) fun hi0 => go fun h => hi0 h.1
      unfold oidNumG
      rw [if_pos (.inl ⟨hi0, h128⟩)]
    · rw [drop_nil (by omega)]
      rfl
theorem nONumber (b : List Int) (hp : bytesOk b = true) : gONumber b = some (.ret [.cl (.int .u32 (oidNumber b).1), .cl (.int .i64 (oidNumber b).2)] []) := by
  unfold gONumber oidNumber
  simp only [shut_eq]
  exact num_go b hp FUEL 0 0 (by omega) (by have := (bytesOk_spec hp).1; unfold FUEL; omega) (by omega) (by omega)
theorem nONumbers (b : List Int) (hp : true = true) : gONumbers b = some (.ret [.fn (.func 33) [] [.ptr 0 0 0]] [some ⟨.var [.cl (.sli .u8 b)], false⟩]) := rfl

theorem numG_rng : ∀ (b : List Int) (n i : Int), (∀ x ∈ b, 0 ≤ x ∧ x ≤ 255) → 0 ≤ n → 0 ≤ i → (0 ≤ (oidNumG n i b).1 ∧ (oidNumG n i b).1 ≤ 4294967295) ∧ ((oidNumG n i b).2 = 0 ∨ i < (oidNumG n i b).2 ∧ (oidNumG n i b).2 ≤ i + b.length)
  | [], n, i, _, _, _ => by simp [oidNumG]
  | c :: r, n, i, hb, hn, hi => by
    have hc := hb c (by simp)
    unfold oidNumG
    split
    · simp
    · rename_i h
      split
      · exact ⟨by omega, .inr (by simp only [List.length_cons]; omega)⟩
      · have := numG_rng r (n * 128 + (c - 128)) (i + 1) (fun x hx => hb x (by simp [hx])) (by omega) (by omega)
        refine ⟨this.1, this.2.imp id fun h => ?_⟩
        simp only [List.length_cons]; omega
theorem number_rng {b : List Int} (hb : bytesOk b = true) : (0 ≤ (oidNumberC b).1 ∧ (oidNumberC b).1 ≤ 4294967295) ∧ ((oidNumberC b).2 = 0 ∨ 0 < (oidNumberC b).2 ∧ (oidNumberC b).2 ≤ b.length) := by
  have := numG_rng b 0 0 (bytesOk_spec hb).2 (by omega) (by omega)
  unfold oidNumberC
  exact ⟨this.1, this.2.imp id fun h => by omega⟩
theorem nums_more : ∀ (n m : Nat) (b : List Int), bytesOk b = true → b.length ≤ n → b.length ≤ m → oidNumsF n b = oidNumsF m b
  | 0, 0, b, _, _, _ => rfl
  | 0, m + 1, b, _, h, _ => by
    have : b = [] := List.eq_nil_of_length_eq_zero (by omega)
    subst this; simp [oidNumsF]
  | n + 1, 0, b, _, _, h => by
    have : b = [] := List.eq_nil_of_length_eq_zero (by omega)
    subst this; simp [oidNumsF]
  | n + 1, m + 1, b, hb, h1, h2 => by
    unfold oidNumsF
    by_cases h : b = []
    · rw [if_pos h, if_pos h]
    · rw [if_neg h, if_neg h]
      by_cases h0 : (oidNumberC b).2 = 0
      · rw [if_pos h0, if_pos h0]
      · rw [if_neg h0, if_neg h0]
        have := (number_rng hb).2
        rw [nums_more n m _ (bytesOk_drop hb _) (by simp only [List.length_drop]; omega) (by simp only [List.length_drop]; omega)]
theorem nums_step {b : List Int} (hb : bytesOk b = true) : oidNumsC b = if b = [] then [] else if (oidNumberC b).2 = 0 then [((oidNumberC b).1, false)] else ((oidNumberC b).1, true) :: oidNumsC (b.drop (oidNumberC b).2.toNat) := by
  unfold oidNumsC
  cases b with
  | nil => rfl
  | cons c r =>
    rw [if_neg (by simp)]
    conv => lhs; rw [List.length_cons]; unfold oidNumsF
    rw [if_neg (by simp)]
    by_cases h0 : (oidNumberC (c :: r)).2 = 0
    · rw [if_pos h0, if_pos h0]
    · rw [if_neg h0, if_neg h0]
      have := (number_rng hb).2
      rw [nums_more _ _ _ (bytesOk_drop hb _) (by simp only [List.length_drop, List.length_cons] at *; omega) (Nat.le_refl _)]

/-! ### the iterator -/
def rowOf2 (p : Int × Bool) : List CV := [.int .u32 p.1, .bool p.2]
abbrev itO (y : List Int) : Option Out := some (.ret [] [some ⟨.var [.cl (.sli .u8 y)], false⟩])
theorem it_lp (l : Nat) : ∀ (f : Nat) (b : List Int), bytesOk b = true → b.length < f → ∃ out, lpONums_0 l itO itO f b = some out ∧ Hands out (some ((oidNumsC b).map rowOf2))
  | 0, b, _, h => by omega
  | f + 1, b, hb, hf => by
    have ih := fun b' h1 h2 => it_lp l f b' h1 h2
    show ∃ out, lpONums_0s l (lpONums_0 l itO itO f) itO itO b = some out ∧ _
    generalize lpONums_0 l itO itO f = ag at ih
    unfold lpONums_0s
    rw [nums_step hb]
    by_cases h : b = []
    · subst h
      exact ⟨_, c_neg (by simp) rfl, .inl rfl⟩
    · have hlen : 0 < b.length := List.length_pos_iff.2 h
      rw [if_neg h]
      have hr := number_rng hb
      have e1 : oidNumber b = oidNumberC b := by unfold oidNumber; rw [shut_eq]
      rw [e1]
      by_cases h0 : (oidNumberC b).2 = 0
      · rw [if_pos h0]
        refine ⟨.yld [.int .u32 (oidNumberC b).1, .bool (decide ((0 : Int) < (oidNumberC b).2))] (.ret [] [some ⟨.var [.cl (.sli .u8 b)], false⟩]) (.ret [] [some ⟨.var [.cl (.sli .u8 b)], false⟩]), c_pos (by omega) (b_pos hb (b_pos (Nat.beq_refl l) ?_)), ?_⟩
        · dsimp only
          rw [decide_eq_true h0]; rfl
        · refine ⟨?_, .inr rfl, .inl rfl⟩
          show [CV.int .u32 (oidNumberC b).1, .bool (decide ((0 : Int) < (oidNumberC b).2))] = [.int .u32 (oidNumberC b).1, .bool false]
          rw [decide_eq_false (by omega)]
      · rw [if_neg h0]
        obtain ⟨out, g1, g2⟩ := ih (b.drop (oidNumberC b).2.toNat) (bytesOk_drop hb _) (by simp only [List.length_drop]; omega)
        refine ⟨.yld [.int .u32 (oidNumberC b).1, .bool (decide ((0 : Int) < (oidNumberC b).2))] (.ret [] [some ⟨.var [.cl (.sli .u8 b)], false⟩]) out, c_pos (by omega) (b_pos hb (b_pos (Nat.beq_refl l) ?_)), ?_⟩
        · dsimp only
          rw [decide_eq_false h0]
          show yldO _ _ (cond (decide ((0 : Int) ≤ (oidNumberC b).2)) (cond (decide ((oidNumberC b).2 ≤ ((b.length : Nat) : Int))) (ag (List.drop (Int.toNat (oidNumberC b).2) b)) none) none) = _
          rw [decide_eq_true (show (0 : Int) ≤ (oidNumberC b).2 by omega), decide_eq_true (show (oidNumberC b).2 ≤ ((b.length : Nat) : Int) by omega)]
          simp only [cond_true]
          rw [g1]
          rfl
        · refine ⟨?_, .inr rfl, g2⟩
          show [CV.int .u32 (oidNumberC b).1, .bool (decide ((0 : Int) < (oidNumberC b).2))] = [.int .u32 (oidNumberC b).1, .bool true]
          rw [decide_eq_true (by omega)]
theorem nONums (l : Nat) (b : List Int) (hp : bytesOk b = true) : ∃ out, gONums l b = some out ∧ Hands out (some (oidRows (oidNums b))) := by
  unfold gONums oidRows oidNums
  simp only [shut_eq]
  obtain ⟨out, h1, h2⟩ := it_lp l FUEL b hp (by have := (bytesOk_spec hp).1; unfold FUEL; omega)
  exact ⟨out, by rw [Nat.beq_refl, cond_true]; exact h1, h2⟩

/-! ### the range over it -/
theorem first_min {n : Int} (h0 : 0 ≤ n) (h1 : n ≤ 4294967295) : ∃ x, cond (decide ((2 : Int) < n / 40)) 2 (n / 40) = x ∧ 0 ≤ x ∧ x ≤ 2 ∧ [x, n - 40 * x] = oidFirstC n ∧ 0 ≤ n - 40 * x := by
  unfold oidFirstC
  by_cases h : n < 80
  · rw [if_pos h, decide_eq_false (by omega)]
    exact ⟨n / 40, rfl, by omega, by omega, by simp; omega, by omega⟩
  · rw [if_neg h]
    by_cases h2 : 2 < n / 40
    · rw [decide_eq_true h2]
      exact ⟨2, rfl, by omega, by omega, by simp, by omega⟩
    · rw [decide_eq_false h2]
      exact ⟨n / 40, rfl, by omega, by omega, by simp; omega, by omega⟩
abbrev pFail : Option Out := some (.ret [.cl (.sli .u32 []), .cl (.int .i64 5)] [])
noncomputable abbrev pEnd (o : List Int) : Option Out := cond (!(oidFit o)) pFail (some (.ret [.cl (.sli .u32 o), .cl (.int .i64 0)] []))
theorem rm4 {l : List Int} {x r : Option Out} (h : l.length ≤ 1000000000) (hk : x = r) : rmK l.length 4 x = r := rmK_in (by omega) (by omega) hk
theorem rl_go : ∀ (l : List (Int × Bool)) (o : List Int), (∀ p ∈ l, 0 ≤ p.1 ∧ p.1 ≤ 4294967295) → o.length ≤ 24 →
    rlOParse_3 (fun _ => pFail) (fun _ o => pEnd o) (l.map rowOf2) o.length o = match oidGo l o with | some o => pEnd o | none => pFail
  | [], o, _, _ => rfl
  | (n, ok) :: r, o, hr, ho => by
    have hn := hr (n, ok) (by simp)
    have ih := fun o ho => rl_go r o (fun p hp => hr p (by simp [hp])) ho
    show rlOParse_3s (rlOParse_3 (fun _ => pFail) (fun _ o => pEnd o) (r.map rowOf2)) _ _ n ok o.length o = _
    generalize rlOParse_3 (fun _ => pFail) (fun _ o => pEnd o) (r.map rowOf2) = ag at ih ⊢
    unfold rlOParse_3s oidGo
    cases ok with
    | false => rw [if_pos (.inl rfl)]; rfl
    | true =>
      simp only [Bool.not_true, cond_false, Bool.true_eq_false, false_or]
      refine c_split (fun h => ?_) fun h => ?_
      · rw [if_pos (by omega)]
      · rw [if_neg (by omega)]
        refine c_split (fun h0 => ?_) fun h0 => ?_
        · have : o = [] := List.eq_nil_of_length_eq_zero (by omega)
          subst this
          rw [if_pos rfl]
          obtain ⟨x, g1, g2, g3, g4, g5⟩ := first_min hn.1 hn.2
          rw [show IntKind.u32.wrap (Int.tdiv n 40) = n / 40 by rw [Int.tdiv_eq_ediv_of_nonneg hn.1]; exact u32_in _ (by simp only at hn; omega)]
          rw [g1, show IntKind.u32.wrap (40 * x) = 40 * x from u32_in _ (by omega), show IntKind.u32.wrap (n - 40 * x) = n - 40 * x from u32_in _ (by omega)]
          rw [List.nil_append, List.cons_append, List.nil_append]
          rw [g4]
          have hlen : (oidFirstC n).length = 2 := by rw [← g4]; rfl
          exact rm4 (by simp) (rm4 (by rw [hlen]; omega) (ih (oidFirstC n) (by omega)))
        · rw [if_neg (by intro e; subst e; simp at h0)]
          exact rm4 (by simp; omega) (ih _ (by simp; omega))
theorem nums_rng : ∀ (n : Nat) (b : List Int), bytesOk b = true → ∀ p ∈ oidNumsF n b, 0 ≤ p.1 ∧ p.1 ≤ 4294967295
  | 0, b, _, p, hp => by simp [oidNumsF] at hp
  | n + 1, b, hb, p, hp => by
    have hr := (number_rng hb).1
    unfold oidNumsF at hp
    split at hp
    · simp at hp
    · split at hp
      · simp at hp; subst hp; exact hr
      · rcases List.mem_cons.1 hp with rfl | hp
        · exact hr
        · exact nums_rng n _ (bytesOk_drop hb _) p hp
theorem nOParse (b : List Int) (hp : bytesOk b = true) : gOParse b = some (.ret [.cl (.sli .u32 (oidParse b).1), .cl (.int .i64 (oidParse b).2)] []) := by
  unfold gOParse
  refine b_pos hp (b_pos ?_ ?_)
  · unfold oidRows
    rw [shut_eq, List.all_map, List.all_eq_true]
    intro p _
    rfl
  · unfold oidRows oidNums oidParse oidParseC
    simp only [shut_eq]
    refine (rl_go (oidNumsC b) [] (nums_rng _ b hp) (by simp)).trans ?_
    cases oidGo (oidNumsC b) [] with
    | none => rfl
    | some o =>
      show cond (!(oidFit o)) _ _ = _
      unfold oidFit
      rw [shut_eq]
      cases h : oidFitC o <;> simp [h]

/-! ### as the document reads them -/
def oidPush (o : List Int) (n : Int) : List Int := if o = [] then oidFirstC n else o ++ [n]
def refGo : Int → Bool → List Int → List Int → Option (List Int)
  | _, fresh, [], o => if fresh = true then some o else none
  | n, fresh, c :: r, o => if fresh = true ∧ c = 128 then none else if 4294967295 < n * 128 + c % 128 then none else if c < 128 then refGo 0 true r (oidPush o (n * 128 + c % 128)) else refGo (n * 128 + c % 128) false r o
def oidFin : Option (List Int) → List Int × Int
  | some o => if oidFitC o = true then (o, 0) else ([], 5)
  | none => ([], 5)
theorem push_len (o : List Int) (n : Int) : o.length ≤ (oidPush o n).length := by
  unfold oidPush
  split
  · rename_i h; subst h; simp
  · simp
theorem refGo_len : ∀ (b : List Int) (n : Int) (fresh : Bool) (o o' : List Int), refGo n fresh b o = some o' → o.length ≤ o'.length
  | [], n, fresh, o, o', h => by
    unfold refGo at h
    split at h
    · simp at h; subst h; exact Nat.le_refl _
    · cases h
  | c :: r, n, fresh, o, o', h => by
    unfold refGo at h
    split at h
    · cases h
    · split at h
      · cases h
      · split at h
        · exact Nat.le_trans (push_len o _) (refGo_len r _ _ _ _ h)
        · exact refGo_len r _ _ _ _ h
theorem refGo_cons (n : Int) (fresh : Bool) (c : Int) (r o : List Int) : refGo n fresh (c :: r) o = if fresh = true ∧ c = 128 then none else if 4294967295 < n * 128 + c % 128 then none else if c < 128 then refGo 0 true r (oidPush o (n * 128 + c % 128)) else refGo (n * 128 + c % 128) false r o := rfl
theorem numG_cons (n i c : Int) (r : List Int) : oidNumG n i (c :: r) = if (i = 0 ∧ c = 128) ∨ 33554431 < n then (0, 0) else if c < 128 then (n * 128 + c, i + 1) else oidNumG (n * 128 + (c - 128)) (i + 1) r := rfl
theorem refGo_num : ∀ (b : List Int) (n i : Int) (fresh : Bool) (o : List Int), (∀ x ∈ b, 0 ≤ x ∧ x ≤ 255) → 0 ≤ n → 0 ≤ i → (fresh = true ↔ i = 0) → (b = [] → fresh = false) →
    refGo n fresh b o = if (oidNumG n i b).2 = 0 then none else refGo 0 true (b.drop ((oidNumG n i b).2 - i).toNat) (oidPush o (oidNumG n i b).1)
  | [], n, i, fresh, o, _, _, _, _, h => by simp [refGo, oidNumG, h rfl]
  | c :: r, n, i, fresh, o, hb, hn, hi, hf, _ => by
    have hc := hb c (by simp)
    rw [refGo_cons, numG_cons]
    by_cases h1 : fresh = true ∧ c = 128
    · rw [if_pos h1, if_pos (show (i = 0 ∧ c = 128) ∨ 33554431 < n from .inl ⟨hf.1 h1.1, h1.2⟩)]; rfl
    · rw [if_neg h1]
      by_cases h2 : 33554431 < n
      · rw [if_pos (by omega), if_pos (show (i = 0 ∧ c = 128) ∨ 33554431 < n from .inr h2)]; rfl
      · rw [if_neg (by omega), if_neg (show ¬((i = 0 ∧ c = 128) ∨ 33554431 < n) from fun h => h.elim (fun h => h1 ⟨hf.2 h.1, h.2⟩) h2)]
        by_cases h3 : c < 128
        · rw [if_pos h3, if_pos h3, show c % 128 = c by omega]
          simp only
          rw [if_neg (by omega), show (i + 1 - i).toNat = 1 by omega]
          rfl
        · rw [if_neg h3, if_neg h3, show c % 128 = c - 128 by omega]
          rw [refGo_num r (n * 128 + (c - 128)) (i + 1) false o (fun x hx => hb x (by simp [hx])) (by omega) (by omega) (by simp; omega) (fun _ => rfl)]
          have hr := numG_rng r (n * 128 + (c - 128)) (i + 1) (fun x hx => hb x (by simp [hx])) (by omega) (by omega)
          by_cases h4 : (oidNumG (n * 128 + (c - 128)) (i + 1) r).2 = 0
          · rw [if_pos h4, if_pos h4]
          · rw [if_neg h4, if_neg h4]
            have hr2 := hr.2.resolve_left h4
            rw [show ((oidNumG (n * 128 + (c - 128)) (i + 1) r).2 - i).toNat = ((oidNumG (n * 128 + (c - 128)) (i + 1) r).2 - (i + 1)).toNat + 1 by omega, List.drop_succ_cons]
theorem fin_long {o : List Int} (h : 20 < o.length) : oidFin (some o) = ([], 5) := by
  unfold oidFin
  have : oidFitC o = false := by
    match o, h with
    | x :: y :: r, h => simp only [oidFitC]; simp only [List.length_cons] at h; rw [show decide (r.length ≤ 18) = false from decide_eq_false (by omega)]; rfl
    | [x], h => simp at h
    | [], h => simp at h
  show (if oidFitC o = true then (o, 0) else ([], 5) : List Int × Int) = _
  rw [this]; rfl
theorem ref_eq : ∀ (n : Nat) (b : List Int), bytesOk b = true → b.length ≤ n → ∀ o, oidFin (refGo 0 true b o) = oidFin (oidGo (oidNumsF n b) o)
  | 0, b, _, h, o => by
    have : b = [] := List.eq_nil_of_length_eq_zero (by omega)
    subst this; rfl
  | n + 1, b, hb, h, o => by
    unfold oidNumsF
    by_cases he : b = []
    · subst he; rfl
    · rw [if_neg he]
      have hr := number_rng hb
      have hnum := refGo_num b 0 0 true o (bytesOk_spec hb).2 (by omega) (by omega) (by simp) (fun h => absurd h he)
      rw [show oidNumG 0 0 b = oidNumberC b from rfl] at hnum
      by_cases h0 : (oidNumberC b).2 = 0
      · rw [if_pos h0, hnum, if_pos h0]
        simp [oidGo]
      · rw [if_neg h0, hnum, if_neg h0]
        have hr2 := hr.2.resolve_left h0
        conv => rhs; unfold oidGo
        by_cases hlong : 20 < o.length
        · rw [if_pos (.inr hlong)]
          cases hg : refGo 0 true (List.drop ((oidNumberC b).2 - 0).toNat b) (oidPush o (oidNumberC b).1) with
          | none => rfl
          | some o' =>
            rw [fin_long (by have := refGo_len _ _ _ _ _ hg; have := push_len o (oidNumberC b).1; omega)]
            rfl
        · rw [if_neg (by rintro (h | h); cases h; exact hlong h), Int.sub_zero]
          rw [ref_eq n _ (bytesOk_drop hb _) (by simp only [List.length_drop]; omega)]
          unfold oidPush
          split <;> rfl
abbrev pRes (p : List Int × Int) : Option Out := some (.ret [.cl (.sli .u32 p.1), .cl (.int .i64 p.2)] [])
noncomputable abbrev r2L := lpR2Parse_5 pFail (fun _ fr o => cond (!fr) pFail (pEnd o))
theorem r2_lp (b : List Int) (hb : bytesOk b = true) : ∀ (f i : Nat) (n : Int) (fresh : Bool) (o : List Int), i ≤ b.length → b.length < f + i → 0 ≤ n → n ≤ 4294967295 → o.length ≤ 2 + i →
    r2L f b o.length n fresh i o = pRes (oidFin (refGo n fresh (b.drop i) o))
  | 0, i, n, fresh, o, hi, hf, _, _, _ => by omega
  | f + 1, i, n, fresh, o, hi, hf, h0, h1, ho => by
    have ih := fun n fresh o h0 h1 ho hi => r2_lp b hb f (i + 1) n fresh o hi (by omega) h0 h1 ho
    have hl := (bytesOk_spec hb).1
    show lpR2Parse_5s (r2L f) pFail (fun _ fr o => cond (!fr) pFail (pEnd o)) b o.length n fresh i o = _
    generalize r2L f = ag at ih ⊢
    unfold lpR2Parse_5s
    refine c_split (fun h => ?_) fun h => ?_
    · obtain ⟨c, hc⟩ := get_some (b := b) (i := i) (by omega)
      have hcr := bytesOk_at hb hc
      rw [drop_cons hc, refGo_cons]
      have wn : IntKind.u64.wrap (n * 128) = n * 128 := u64_in _ (by omega)
      have wm : Int.tmod c 128 = c % 128 := Int.tmod_eq_emod_of_nonneg hcr.1
      have wc : IntKind.u64.wrap (c % 128) = c % 128 := u64_in _ (by omega)
      have ws : IntKind.u64.wrap (n * 128 + c % 128) = n * 128 + c % 128 := u64_in _ (by omega)
      have main : (let x2 : Int := IntKind.u64.wrap (n * 128)
          getK b (i : Int) fun e3 =>
          let x4 : Int := Int.tmod e3 128
          let x5 : Int := IntKind.u64.wrap x4
          let x6 : Int := IntKind.u64.wrap (x2 + x5)
          getK b (i : Int) fun e7 =>
          cond (decide ((4294967295 : Int) < x6)) pFail
          (cond (!(decide (e7 < 128))) (ag b o.length x6 (decide (e7 < 128)) (IntKind.i64.wrap ((i : Int) + 1)) o)
          (cond (decide (((o.length : Nat) : Int) = 0)) (
            cond (u32Ok x6) (
            let r9 : List Int := oidFirst x6
            let l10 : List Int := o ++ r9
            rmK l10.length 4 <| ag b l10.length 0 (decide (e7 < 128)) (IntKind.i64.wrap ((i : Int) + 1)) l10) none)
          (let l13 : List Int := o ++ [IntKind.u32.wrap x6]
           rmK l13.length 4 <| ag b l13.length 0 (decide (e7 < 128)) (IntKind.i64.wrap ((i : Int) + 1)) l13)))) =
          pRes (oidFin (if 4294967295 < n * 128 + c % 128 then none else if c < 128 then refGo 0 true (b.drop (i + 1)) (oidPush o (n * 128 + c % 128)) else refGo (n * 128 + c % 128) false (b.drop (i + 1)) o)) := by
        dsimp only
        refine getK_in (by omega) hc (getK_in (by omega) hc ?_)
        rw [wn, wm, wc, ws, wrap_succ (by omega)]
        refine c_split (fun h2 => ?_) fun h2 => ?_
        · rw [if_pos h2]; rfl
        · rw [if_neg h2]
          by_cases h3 : c < 128
          · rw [if_pos h3, decide_eq_true h3]
            simp only [Bool.not_true, cond_false]
            unfold oidPush
            refine c_split (fun h4 => ?_) fun h4 => ?_
            · have : o = [] := List.eq_nil_of_length_eq_zero (by omega)
              subst this
              rw [if_pos rfl]
              have hok : u32Ok (n * 128 + c % 128) = true := by unfold u32Ok; rw [shut_eq]; exact decide_eq_true (by omega)
              have e1 : oidFirst (n * 128 + c % 128) = oidFirstC (n * 128 + c % 128) := by unfold oidFirst; rw [shut_eq]
              have hlen : (oidFirstC (n * 128 + c % 128)).length = 2 := by unfold oidFirstC; split <;> rfl
              rw [e1, List.nil_append]
              exact b_pos hok (rm4 (by omega) (ih _ _ _ (by omega) (by omega) (by omega) (by omega)))
            · rw [if_neg (by intro e; subst e; simp at h4), show IntKind.u32.wrap (n * 128 + c % 128) = n * 128 + c % 128 from u32_in _ (by omega)]
              exact rm4 (by simp; omega) (ih _ _ _ (by omega) (by omega) (by simp; omega) (by omega))
          · rw [if_neg h3, decide_eq_false h3]
            simp only [Bool.not_false, cond_true]
            exact ih _ _ _ (by omega) (by omega) (by omega) (by omega)
      cases fresh with
      | true =>
        simp only [cond_true, true_and]
        refine getK_in (by omega) hc (c_split (fun h5 => ?_) fun h5 => ?_)
        · rw [if_pos h5]; rfl
        · rw [if_neg h5]
          exact main
      | false =>
        simp only [cond_false, Bool.false_eq_true, false_and, if_false]
        exact main
    · rw [drop_nil (by omega)]
      cases fresh with
      | false => rfl
      | true =>
        show cond (!true) _ (cond (!(oidFit o)) _ _) = _
        unfold oidFit
        rw [shut_eq]
        show _ = pRes (if oidFitC o = true then (o, 0) else ([], 5))
        cases oidFitC o <;> rfl
theorem nR2Parse (b : List Int) (hp : bytesOk b = true) : gR2Parse b = some (.ret [.cl (.sli .u32 (oidParse b).1), .cl (.int .i64 (oidParse b).2)] []) := by
  unfold gR2Parse oidParse
  simp only [shut_eq]
  refine (r2_lp b hp FUEL 0 0 true [] (by omega) (by have := (bytesOk_spec hp).1; unfold FUEL; omega) (by omega) (by omega) (by simp)).trans ?_
  rw [List.drop_zero, ref_eq b.length b hp (Nat.le_refl _)]
  have : oidFin (oidGo (oidNumsF b.length b) []) = oidParseC b := by unfold oidFin oidParseC oidNumsC; rfl
  rw [this]
end Go.Proofs.YtgkedgpgfmibhaaDoorA

namespace Go.Proofs.YtgkedgpgfmibhaaDoorA
open IntWalk (i64_in u8_in u32_in u64_in i64_quo u8_quo rem_in)

theorem u32Ok_spec {n : Int} (h : u32Ok n = true) : 0 ≤ n ∧ n ≤ 4294967295 := by
  unfold u32Ok at h; rw [shut_eq] at h; exact of_decide_eq_true h
theorem u32Ok_of {n : Int} (h : 0 ≤ n ∧ n ≤ 4294967295) : u32Ok n = true := by
  unfold u32Ok; rw [shut_eq]; exact decide_eq_true h
theorem u32sOk_spec {o : List Int} (h : u32sOk o = true) : o.length ≤ 1000 ∧ ∀ x ∈ o, 0 ≤ x ∧ x ≤ 4294967295 := by
  unfold u32sOk at h
  rw [shut_eq] at h
  simp only [Bool.and_eq_true, decide_eq_true_eq, List.all_eq_true] at h
  exact ⟨h.1, fun x hx => of_decide_eq_true (h.2 x hx)⟩
theorem c_z {x : Int} {a b : Option Out} (h : x = 0) : cond (!decide (x = 0)) a b = b := by rw [decide_eq_true h]; rfl
theorem c_nz {x : Int} {a b : Option Out} (h : x ≠ 0) : cond (!decide (x = 0)) a b = a := by rw [decide_eq_false h]; rfl
theorem or128 : ∀ n : Fin 256, IntKind.u8.wrap ((BitVec.ofInt 8 (n.val : Int) ||| BitVec.ofInt 8 128).toNat) = 128 + (n.val : Int) % 128 := by decide +kernel
theorem u8_mod (x : Int) : IntKind.u8.wrap x = x % 256 := by simp [IntKind.wrap, IntKind.bits, IntKind.signed]
theorem put_hi (x : Int) : IntKind.u8.wrap ((BitVec.ofInt 8 (IntKind.u8.wrap x) ||| BitVec.ofInt 8 128).toNat) = 128 + x % 128 := by
  rw [u8_mod x]
  have := or128 ⟨(x % 256).toNat, by omega⟩
  simp only [Int.toNat_of_nonneg (show 0 ≤ x % 256 by omega)] at this
  rw [this]; omega
theorem put_lo (x : Int) : IntKind.u8.wrap ((BitVec.ofInt 8 (IntKind.u8.wrap x) &&& ~~~ BitVec.ofInt 8 128).toNat) = x % 128 := by
  rw [u8_mod x]
  have := (and7 ⟨(x % 256).toNat, by omega⟩).1
  simp only [Int.toNat_of_nonneg (show 0 ≤ x % 256 by omega)] at this
  rw [this]; omega
theorem fd28 (n : Int) : Int.fdiv n (2 ^ 28) = n / 268435456 := Int.fdiv_eq_ediv_of_nonneg _ (by decide)
theorem fd21 (n : Int) : Int.fdiv n (2 ^ 21) = n / 2097152 := Int.fdiv_eq_ediv_of_nonneg _ (by decide)
theorem fd14 (n : Int) : Int.fdiv n (2 ^ 14) = n / 16384 := Int.fdiv_eq_ediv_of_nonneg _ (by decide)
theorem fd7 (n : Int) : Int.fdiv n (2 ^ 7) = n / 128 := Int.fdiv_eq_ediv_of_nonneg _ (by decide)
theorem gHi_0 (f : Nat) : gHi f 0 = [] := by cases f <;> rfl
theorem gHi_s (f : Nat) {n : Int} (h : n ≠ 0) : gHi (f + 1) n = gHi f (n / 128) ++ [128 + n % 128] := by
  conv => lhs; unfold gHi
  rw [if_neg h]
theorem gr1 {n : Int} (h : n / 128 = 0) : oidGroupsC n = [n % 128] := by unfold oidGroupsC; rw [h, gHi_0]; rfl
theorem gr2 {n : Int} (h : n / 128 ≠ 0) (h' : n / 16384 = 0) : oidGroupsC n = [128 + n / 128 % 128, n % 128] := by
  unfold oidGroupsC
  rw [gHi_s 4 h, show n / 128 / 128 = 0 by omega, gHi_0]; rfl
theorem gr3 {n : Int} (h : n / 16384 ≠ 0) (h' : n / 2097152 = 0) : oidGroupsC n = [128 + n / 16384 % 128, 128 + n / 128 % 128, n % 128] := by
  unfold oidGroupsC
  rw [gHi_s 4 (by omega), gHi_s 3 (by omega), show n / 128 / 128 / 128 = 0 by omega, gHi_0, show n / 128 / 128 = n / 16384 by omega]; rfl
theorem gr4 {n : Int} (h : n / 2097152 ≠ 0) (h' : n / 268435456 = 0) : oidGroupsC n = [128 + n / 2097152 % 128, 128 + n / 16384 % 128, 128 + n / 128 % 128, n % 128] := by
  unfold oidGroupsC
  rw [gHi_s 4 (by omega), gHi_s 3 (by omega), gHi_s 2 (by omega), show n / 128 / 128 / 128 / 128 = 0 by omega, gHi_0, show n / 128 / 128 / 128 = n / 2097152 by omega, show n / 128 / 128 = n / 16384 by omega]; rfl
theorem gr5 {n : Int} (h : n / 268435456 ≠ 0) (h' : 0 ≤ n ∧ n ≤ 4294967295) : oidGroupsC n = [128 + n / 268435456 % 128, 128 + n / 2097152 % 128, 128 + n / 16384 % 128, 128 + n / 128 % 128, n % 128] := by
  unfold oidGroupsC
  rw [gHi_s 4 (by omega), gHi_s 3 (by omega), gHi_s 2 (by omega), gHi_s 1 (by omega), show n / 128 / 128 / 128 / 128 / 128 = 0 by omega, gHi_0, show n / 128 / 128 / 128 / 128 = n / 268435456 by omega, show n / 128 / 128 / 128 = n / 2097152 by omega, show n / 128 / 128 = n / 16384 by omega]; rfl
theorem gr_cases {n : Int} (h : 0 ≤ n ∧ n ≤ 4294967295) : (n / 128 = 0 ∧ n / 16384 = 0 ∧ n / 2097152 = 0 ∧ n / 268435456 = 0) ∨ (n / 128 ≠ 0 ∧ n / 16384 = 0 ∧ n / 2097152 = 0 ∧ n / 268435456 = 0) ∨
    (n / 128 ≠ 0 ∧ n / 16384 ≠ 0 ∧ n / 2097152 = 0 ∧ n / 268435456 = 0) ∨ (n / 128 ≠ 0 ∧ n / 16384 ≠ 0 ∧ n / 2097152 ≠ 0 ∧ n / 268435456 = 0) ∨ (n / 128 ≠ 0 ∧ n / 16384 ≠ 0 ∧ n / 2097152 ≠ 0 ∧ n / 268435456 ≠ 0) := by omega
theorem nOPut_0 (n : Int) (hp : u32Ok n = true) : gOPut_0 n = some (.ret [.ref 0 0 (oidGroups n).length true 1] [some ⟨.ints .u8 (oidGroups n), false⟩]) := by
  have hn := u32Ok_spec hp
  unfold gOPut_0 oidGroups
  simp only [shut_eq]
  unfold jnOPut_2
  simp only [fd28, fd21, fd14, fd7, put_hi, put_lo]
  rcases gr_cases hn with ⟨h1, h2, h3, h4⟩ | ⟨h1, h2, h3, h4⟩ | ⟨h1, h2, h3, h4⟩ | ⟨h1, h2, h3, h4⟩ | ⟨h1, h2, h3, h4⟩
  · rw [c_z h4, c_z h3, c_z h2, c_z h1, gr1 h1]; rfl
  · rw [c_z h4, c_z h3, c_z h2, c_nz h1, gr2 h1 h2]; rfl
  · rw [c_z h4, c_z h3, c_nz h2, c_nz h1, gr3 h2 h3]; rfl
  · rw [c_z h4, c_nz h3, c_nz h2, c_nz h1, gr4 h3 h4]; rfl
  · rw [c_nz h4, c_nz h3, c_nz h2, c_nz h1, gr5 h4 hn]; rfl
theorem rm1 {l : List Int} {x : Option Out} (h : l.length ≤ 1000000000) : rmK l.length 1 x = x := rmK_in (by omega) (by omega) rfl
theorem nOPut_1 (m : Nat) (n : Int) (l : List Int) (hp : (u32Ok n && lenOk l) = true) : gOPut_1 m n l = some (.ret [.ref 1 0 (l ++ oidGroups n).length true 1] [none, some ⟨.ints .u8 (l ++ oidGroups n), false⟩]) := by
  simp only [Bool.and_eq_true] at hp
  have hn := u32Ok_spec hp.1
  have hl := lenOk_spec hp.2
  have rm : ∀ (a : List Int) {x : Option Out}, a.length ≤ 10 → rmK (l ++ a).length 1 x = x := fun a x h => rm1 (by simp; omega)
  unfold gOPut_1 oidGroups
  simp only [shut_eq]
  unfold jnOPut_2_1
  simp only [fd28, fd21, fd14, fd7, put_hi, put_lo, List.append_assoc, List.cons_append, List.nil_append]
  rcases gr_cases hn with ⟨h1, h2, h3, h4⟩ | ⟨h1, h2, h3, h4⟩ | ⟨h1, h2, h3, h4⟩ | ⟨h1, h2, h3, h4⟩ | ⟨h1, h2, h3, h4⟩
  · rw [c_z h4, c_z h3, c_z h2, c_z h1, gr1 h1, rm _ (by simp)]
  · rw [c_z h4, c_z h3, c_z h2, c_nz h1, gr2 h1 h2, rm _ (by simp), rm _ (by simp)]
  · rw [c_z h4, c_z h3, c_nz h2, rm _ (by simp), c_nz h1, rm _ (by simp), gr3 h2 h3, rm _ (by simp)]
  · rw [c_z h4, c_nz h3, rm _ (by simp), c_nz h2, rm _ (by simp), c_nz h1, rm _ (by simp), gr4 h3 h4, rm _ (by simp)]
  · rw [c_nz h4, rm _ (by simp), c_nz h3, rm _ (by simp), c_nz h2, rm _ (by simp), c_nz h1, rm _ (by simp), gr5 h4 hn, rm _ (by simp)]

theorem gr_go : ∀ (f g : Nat) (n : Int) (l : List Int), 0 ≤ n → n ≤ 4294967295 → n < 128 ^ g → g < f → l.length + g ≤ 100 →
    lpR2Groups_3 (fun y4 y5 => some (.ret [.ref 0 0 y4 true 1] [some ⟨.ints .u8 y5, false⟩])) f n l.length l = some (.ret [.ref 0 0 (gHi g n ++ l).length true 1] [some ⟨.ints .u8 (gHi g n ++ l), false⟩])
  | 0, g, n, l, _, _, _, h, _ => by omega
  | f + 1, g, n, l, h0, hb, h1, hg, hl => by
    show lpR2Groups_3s (lpR2Groups_3 (fun y4 y5 => some (.ret [.ref 0 0 y4 true 1] [some ⟨.ints .u8 y5, false⟩])) f) (fun y4 y5 => some (.ret [.ref 0 0 y4 true 1] [some ⟨.ints .u8 y5, false⟩])) n l.length l = _
    unfold lpR2Groups_3s
    refine c_split (fun h => ?_) fun h => ?_
    · obtain ⟨g, rfl⟩ : ∃ g', g = g' + 1 := ⟨g - 1, by
        cases g with
        | zero => rw [Int.pow_zero] at h1; omega
        | succ g => rfl⟩
      rw [Int.pow_succ] at h1
      rw [gHi_s g (by omega)]
      dsimp only
      rw [Int.tmod_eq_emod_of_nonneg h0, Int.tdiv_eq_ediv_of_nonneg h0, show IntKind.u32.wrap (128 + n % 128) = 128 + n % 128 from u32_in _ (by omega), show IntKind.u32.wrap (n / 128) = n / 128 from u32_in _ (by omega), show IntKind.u8.wrap (128 + n % 128) = 128 + n % 128 from u8_in _ (by omega)]
      rw [show [128 + n % 128] ++ l = (128 + n % 128) :: l from rfl]
      refine rmK_in (by simp; omega) (by simp; omega) ?_
      refine (gr_go f g (n / 128) ((128 + n % 128) :: l) (by omega) (by omega) (by generalize (128 : Int) ^ g = X at *; omega) (by omega) (by simp only [List.length_cons]; omega)).trans ?_
      simp
    · have : n = 0 := by omega
      subst this
      rw [gHi_0]; rfl
theorem nR2Groups (n : Int) (hp : u32Ok n = true) : gR2Groups n = some (.ret [.ref 0 0 (oidGroups n).length true 1] [some ⟨.ints .u8 (oidGroups n), false⟩]) := by
  have hn := u32Ok_spec hp
  unfold gR2Groups oidGroups oidGroupsC
  simp only [shut_eq]
  rw [Int.tmod_eq_emod_of_nonneg hn.1, Int.tdiv_eq_ediv_of_nonneg hn.1, show IntKind.u32.wrap (n / 128) = n / 128 from u32_in _ (by omega), show IntKind.u8.wrap (n % 128) = n % 128 from u8_in _ (by omega)]
  exact gr_go FUEL 5 (n / 128) [n % 128] (by omega) (by omega) (by omega) (by unfold FUEL; omega) (by simp)

/-! ### all of its bytes -/
theorem gr_len (n : Int) : (oidGroupsC n).length ≤ 6 := by
  have h : ∀ (f : Nat) (n : Int), (gHi f n).length ≤ f := fun f => by
    induction f with
    | zero => intro n; simp [gHi]
    | succ f ih =>
      intro n
      unfold gHi
      split
      · simp
      · have := ih (n / 128); simp; omega
  unfold oidGroupsC
  have := h 5 (n / 128)
  simp; omega
theorem groups_eq (n : Int) : oidGroups n = oidGroupsC n := shut_eq _
abbrev bO (y : List Int) : Option Out := some (.ret [.cl (.sli .u8 y)] [])
theorem ob_go (r : List Int) (hr : ∀ x ∈ r, 0 ≤ x ∧ x ≤ 4294967295) (hl : r.length ≤ 1000) : ∀ (f i : Nat) (l : List Int), i ≤ r.length → r.length < f + i → l.length ≤ 6 * (i + 1) →
    lpOBytes_5 (fun _ y => bO y) f l.length r r.length i l = bO (l ++ (r.drop i).flatMap oidGroupsC)
  | 0, i, l, hi, hf, _ => by omega
  | f + 1, i, l, hi, hf, hll => by
    show lpOBytes_5s (lpOBytes_5 (fun _ y => bO y) f) (fun _ y => bO y) l.length r r.length i l = _
    unfold lpOBytes_5s
    refine c_split (fun h => ?_) fun h => ?_
    · obtain ⟨c, hc⟩ := get_some (b := r) (i := i) (by omega)
      refine getK_in (by omega) hc (b_pos ?_ ?_)
      · rw [u32Ok_of (hr c (List.mem_of_getElem? hc)), lenOk_of (by omega)]; rfl
      · have := gr_len c
        dsimp only
        rw [wrap_succ (by omega), groups_eq, drop_cons hc]
        refine (ob_go r hr hl f (i + 1) (l ++ oidGroupsC c) (by omega) (by omega) (by simp; omega)).trans ?_
        simp
    · rw [drop_nil (by omega)]; simp
theorem rb_go (o : List Int) (hr : ∀ x ∈ o, 0 ≤ x ∧ x ≤ 4294967295) (hl : o.length ≤ 1000) : ∀ (f i : Nat) (l : List Int), i ≤ o.length → o.length < f + i → l.length ≤ 6 * (i + 1) →
    lpR2Bytes_5 (fun _ y => bO y) f o l.length i l = bO (l ++ (o.drop i).flatMap oidGroupsC)
  | 0, i, l, hi, hf, _ => by omega
  | f + 1, i, l, hi, hf, hll => by
    show lpR2Bytes_5s (lpR2Bytes_5 (fun _ y => bO y) f) (fun _ y => bO y) o l.length i l = _
    unfold lpR2Bytes_5s
    refine c_split (fun h => ?_) fun h => ?_
    · obtain ⟨c, hc⟩ := get_some (b := o) (i := i) (by omega)
      have := gr_len c
      refine getK_in (by omega) hc (b_pos (u32Ok_of (hr c (List.mem_of_getElem? hc))) ?_)
      dsimp only
      rw [wrap_succ (by omega), groups_eq, drop_cons hc, rm1 (by simp; omega)]
      refine (rb_go o hr hl f (i + 1) (l ++ oidGroupsC c) (by omega) (by omega) (by simp; omega)).trans ?_
      simp
    · rw [drop_nil (by omega)]; simp
theorem fit_head {o : List Int} (h : oidFitC o = true) : ∃ x y r, o = x :: y :: r ∧ r.length ≤ 18 ∧ x ≤ 2 ∧ (x < 2 → y < 40) ∧ y ≤ 4294967215 := by
  match o, h with
  | x :: y :: r, h =>
    simp only [oidFitC, Bool.and_eq_true, Bool.or_eq_true, decide_eq_true_eq] at h
    exact ⟨x, y, r, rfl, h.1, by omega, by omega, by omega⟩
theorem nOBytes (o : List Int) (hp : u32sOk o = true) : gOBytes o = some (.ret [.cl (.sli .u8 (oidBytes o))] []) := by
  obtain ⟨hl, hr⟩ := u32sOk_spec hp
  unfold gOBytes oidBytes oidFit oidBytesC
  simp only [shut_eq]
  cases hf : oidFitC o with
  | false => rfl
  | true =>
    obtain ⟨x, y, r, rfl, hr18, hx, hxy, hy⟩ := fit_head hf
    have rx := hr x (by simp)
    have ry := hr y (by simp)
    rw [if_pos rfl]
    refine b_neg rfl (c_pos (by simp only [List.length_cons]; omega) ?_)
    simp only [List.getElem?_cons_zero, List.getElem?_cons_succ, Option.bind_some]
    rw [show IntKind.u32.wrap (40 * x) = 40 * x from u32_in _ (by omega), show IntKind.u32.wrap (40 * x + y) = 40 * x + y from u32_in _ (by omega)]
    refine c_pos (by simp only [List.length_cons]; omega) (b_pos (u32Ok_of (by omega)) (c_pos (by simp only [List.length_cons]; omega) ?_))
    rw [groups_eq]
    have := gr_len (40 * x + y)
    exact ob_go r (fun z hz => hr z (by simp [hz])) (by omega) FUEL 0 _ (by omega) (by unfold FUEL; omega) (by omega)
theorem nR2Bytes (o : List Int) (hp : u32sOk o = true) : gR2Bytes o = some (.ret [.cl (.sli .u8 (oidBytes o))] []) := by
  obtain ⟨hl, hr⟩ := u32sOk_spec hp
  unfold gR2Bytes oidBytes oidFit oidBytesC
  simp only [shut_eq]
  cases hf : oidFitC o with
  | false => rfl
  | true =>
    obtain ⟨x, y, r, rfl, hr18, hx, hxy, hy⟩ := fit_head hf
    have rx := hr x (by simp)
    have ry := hr y (by simp)
    rw [if_pos rfl]
    refine b_neg rfl (c_pos (by simp only [List.length_cons]; omega) ?_)
    simp only [List.getElem?_cons_zero, List.getElem?_cons_succ, Option.bind_some]
    rw [show IntKind.u32.wrap (40 * x) = 40 * x from u32_in _ (by omega), show IntKind.u32.wrap (40 * x + y) = 40 * x + y from u32_in _ (by omega)]
    refine c_pos (by simp only [List.length_cons]; omega) (b_pos (u32Ok_of (by omega)) ?_)
    rw [groups_eq]
    have := gr_len (40 * x + y)
    exact rb_go (x :: y :: r) hr (by simp; omega) FUEL 2 _ (by simp) (by unfold FUEL; simp; omega) (by omega)
end Go.Proofs.YtgkedgpgfmibhaaDoorA

namespace Go.Proofs.YtgkedgpgfmibhaaDoorA
open IntWalk (i64_in u8_in u32_in u64_in i64_quo u8_quo rem_in)

def mkB (l : List UInt8) : ByteArray := ⟨l.toArray⟩
theorem mkB_app (a b : List UInt8) : mkB a ++ mkB b = mkB (a ++ b) := by
  apply ByteArray.ext
  rw [ByteArray.data_append]
  simp [mkB]
theorem mkB_size (a : List UInt8) : (mkB a).size = a.length := by simp [mkB, ← ByteArray.size_data]
theorem mkB_data (s : ByteArray) : mkB s.data.toList = s := by simp [mkB]
theorem mkB_inj {a b : List UInt8} (h : mkB a = mkB b) : a = b := by
  have := congrArg (·.data.toList) h
  simpa [mkB] using this
theorem strOf_mk (l : List Int) : strOf l = mkB (l.map fun n => UInt8.ofNat n.toNat) := rfl
theorem strOf_of (l : List UInt8) : strOf (l.map fun b => (b.toNat : Int)) = mkB l := by
  rw [strOf_mk, List.map_map]
  congr 1
  conv => rhs; rw [← List.map_id l]
  apply List.map_congr_left
  intro b _
  simp
theorem digS_eq (n : Int) : digS n = mkB (digB n) := shut_eq _

/-! ### digits -/
theorem nDigits_le : ∀ (k u : Nat), u < 10 ^ (k + 1) → Lib.nDigits u ≤ k + 1
  | 0, u, h => by rw [Lib.nDigits_small (by simpa using h)]; omega
  | k + 1, u, h => by
    by_cases h10 : u < 10
    · rw [Lib.nDigits_small h10]; omega
    · rw [Lib.nDigits_big h10]
      have := nDigits_le k (u / 10) (by rw [Nat.pow_succ] at h; omega)
      omega
theorem digB_len {n : Int} (h : 0 ≤ n ∧ n ≤ 18446744073709551615) : (digB n).length ≤ 20 := by
  unfold digB
  rw [Lib.decDigits_length]
  exact nDigits_le 19 _ (by omega)
theorem nXFormat (n : Int) (hp : u32Ok n = true) : gXFormat n = some (.ret [.cl (.str (digS n))] []) := by
  have hn := u32Ok_spec hp
  unfold gXFormat
  refine c_split (fun h => ?_) fun h => ?_
  · dsimp only
    rw [show IntKind.i64.wrap n = n from i64_in _ (by omega)]
    exact b_pos (by unfold smallOk; rw [shut_eq]; exact decide_eq_true (by omega)) rfl
  · have e : digN n = ((digB n).length : Int) := by unfold digN digB; rw [shut_eq, Lib.decDigits_length]
    have hl := digB_len (n := n) (by omega)
    dsimp only
    rw [e]
    refine b_pos (by unfold u64Pos; rw [shut_eq]; exact decide_eq_true (by omega)) (c_pos (by omega) (c_pos (by omega) (b_pos ?_ (c_pos (by omega) (c_pos (by omega) (ret_str ?_))))))
    · unfold fmtOk
      rw [shut_eq, Bool.and_eq_true]
      refine ⟨decide_eq_true ⟨by omega, by omega, ?_, by omega, rfl⟩, by decide⟩
      unfold digB
      rw [Lib.decDigits_length]
      rfl
    · unfold digL
      rw [shut_eq, digS_eq, int_nat, ← strOf_of, List.take_left' (by simp)]
theorem nSFormat (n : Int) (hp : u32Ok n = true) : gSFormat n = some (.ret [.cl (.str (digS n))] []) := b_pos hp rfl
theorem digB_big {n : Int} (h : 10 ≤ n) : digB n = digB (n / 10) ++ [UInt8.ofNat (48 + n % 10).toNat] := by
  unfold digB
  rw [Lib.decDigits, dif_neg (by omega), show (n / 10).toNat = n.toNat / 10 by omega, show (48 + n % 10).toNat = 48 + n.toNat % 10 by omega]
theorem digB_small {n : Int} (h0 : 0 ≤ n) (h : n < 10) : digB n = [UInt8.ofNat (48 + n).toNat] := by
  unfold digB
  rw [Lib.decDigits, dif_pos (by omega), show (48 + n).toNat = 48 + n.toNat by omega]
theorem u64Ok_spec {n : Int} (h : u64Ok n = true) : 0 ≤ n ∧ n ≤ 18446744073709551615 := by
  unfold u64Ok at h; rw [shut_eq] at h; exact of_decide_eq_true h
theorem u64Ok_of {n : Int} (h : 0 ≤ n ∧ n ≤ 18446744073709551615) : u64Ok n = true := by
  unfold u64Ok; rw [shut_eq]; exact decide_eq_true h
abbrev sO (s : ByteArray) : Option Out := some (.ret [.cl (.str s)] [])
def dgK (y1 : Int) (y2 : ByteArray) : Option Out :=
  let x3 : Int := IntKind.u64.wrap ((48 : Int) + y1)
  let x4 : Int := IntKind.u8.wrap x3
  let s5 : ByteArray := strOf [x4]
  cond (Nat.ble (s5.size + y2.size) LIMN) (let s6 : ByteArray := s5 ++ y2; some (.ret [.cl (.str s6)] [])) none
theorem dg_go : ∀ (f g : Nat) (n : Int) (l : List UInt8), 0 ≤ n → n ≤ 18446744073709551615 → n < 10 ^ g → g < f → l.length + g ≤ 100 → lpR2Digits_2 dgK f n (mkB l) = sO (mkB (digB n ++ l))
  | 0, g, n, l, _, _, _, h, _ => by omega
  | f + 1, g, n, l, h0, h1, hg, hf, hl => by
    show lpR2Digits_2s (lpR2Digits_2 dgK f) dgK n (mkB l) = _
    unfold lpR2Digits_2s
    refine c_split (fun h => ?_) fun h => ?_
    · obtain ⟨g, rfl⟩ : ∃ g', g = g' + 1 := ⟨g - 1, by
        cases g with
        | zero => rw [Int.pow_zero] at hg; omega
        | succ g => rfl⟩
      rw [Int.pow_succ] at hg
      dsimp only
      rw [Int.tmod_eq_emod_of_nonneg h0, Int.tdiv_eq_ediv_of_nonneg h0, show IntKind.u64.wrap (48 + n % 10) = 48 + n % 10 from u64_in _ (by omega), show IntKind.u8.wrap (48 + n % 10) = 48 + n % 10 from u8_in _ (by omega), show IntKind.u64.wrap (n / 10) = n / 10 from u64_in _ (by omega), strOf_mk, mkB_app, mkB_size, mkB_size]
      refine lim_in (by simp; omega) ?_
      rw [digB_big h]
      refine (dg_go f g (n / 10) _ (by omega) (by omega) (by generalize (10 : Int) ^ g = X at *; omega) (by omega) (by simp; omega)).trans ?_
      simp
    · unfold dgK
      dsimp only
      rw [show IntKind.u64.wrap (48 + n) = 48 + n from u64_in _ (by omega), show IntKind.u8.wrap (48 + n) = 48 + n from u8_in _ (by omega), strOf_mk, mkB_app, mkB_size, mkB_size]
      refine lim_in (by simp; omega) ?_
      rw [digB_small h0 (by omega)]
      rfl
theorem nR2Digits (n : Int) (hp : u64Ok n = true) : gR2Digits n = some (.ret [.cl (.str (digS n))] []) := by
  have hn := u64Ok_spec hp
  unfold gR2Digits
  rw [shut_eq, digS_eq]
  refine (dg_go FUEL 20 n [] hn.1 hn.2 (by omega) (by unfold FUEL; omega) (by simp)).trans ?_
  rw [List.append_nil]

/-! ### texts -/
theorem dot_ok : dotOk (⟨#[46]⟩ : ByteArray) = true := by unfold dotOk; rw [shut_eq]; rfl
theorem ot_go (o : List Int) (hr : ∀ x ∈ o, 0 ≤ x ∧ x ≤ 4294967295) (hl : o.length ≤ 1000) {K : List CV → Option Out} : ∀ (f i : Nat), i ≤ o.length → o.length < f + i →
    lpOText_5 (fun _ y => K y) f o.length o o.length i ((o.take i).map (fun n => CV.str (mkB (digB n))) ++ List.replicate (o.length - i) (.str (⟨#[]⟩ : ByteArray))) = K (o.map fun n => CV.str (mkB (digB n)))
  | 0, i, hi, hf => by omega
  | f + 1, i, hi, hf => by
    show lpOText_5s (lpOText_5 (fun _ y => K y) f) (fun _ y => K y) o.length o o.length i _ = _
    unfold lpOText_5s
    refine c_split (fun h => ?_) fun h => ?_
    · obtain ⟨c, hc⟩ := get_some (b := o) (i := i) (by omega)
      have hcr := hr c (List.mem_of_getElem? hc)
      refine getK_in (by omega) hc ?_
      dsimp only
      rw [show IntKind.u64.wrap c = c from u64_in _ (by omega)]
      refine b_pos (u32Ok_of hcr) (idxK_in (by omega) (by omega) ?_)
      rw [wrap_succ (by omega), digS_eq, show 0 + Int.toNat (i : Int) = i by omega]
      refine Eq.trans ?_ (ot_go o hr hl f (i + 1) (by omega) (by omega))
      congr 1
      rw [List.set_append_right _ _ (by rw [List.length_map, List.length_take]; exact Nat.min_le_left _ _), List.length_map, List.length_take, Nat.min_eq_left hi, Nat.sub_self]
      rw [show o.length - i = (o.length - (i + 1)) + 1 by omega, List.replicate_succ, List.set_cons_zero]
      rw [List.take_add_one, hc]
      simp
    · have : i = o.length := by omega
      subst this
      simp
theorem join_eq (o : List Int) : strJoinC (o.map fun n => CV.str (mkB (digB n))) ⟨#[46]⟩ = mkB (Lib.join (o.map digB) [46]) := by
  unfold strJoinC mkB
  rw [List.map_map]
  rfl
theorem nOText (o : List Int) (hp : u32sOk o = true) : gOText o = some (.ret [.cl (.str (oidText o))] []) := by
  obtain ⟨hl, hr⟩ := u32sOk_spec hp
  unfold gOText oidText oidFit oidTextC
  simp only [shut_eq]
  cases hf : oidFitC o with
  | false => rfl
  | true =>
    rw [if_pos rfl]
    refine b_neg rfl (c_pos (by omega) (c_pos (by omega) (c_pos (by unfold LIM; omega) (c_pos (by unfold LIM; omega) ?_))))
    rw [int_nat]
    refine (ot_go o hr hl (K := fun y3 => cond (strsOk y3 && dotOk (⟨#[46]⟩ : ByteArray)) (let r4 : ByteArray := strJoin y3 (⟨#[46]⟩ : ByteArray); some (.ret [.cl (.str r4)] [])) none) FUEL 0 (by omega) (by unfold FUEL; omega)).trans ?_
    have hs : strsOk (o.map fun n => CV.str (mkB (digB n))) = true := by
      unfold strsOk
      rw [shut_eq, Bool.and_eq_true]
      refine ⟨decide_eq_true (by simpa using hl), List.all_eq_true.2 fun c hc => ?_⟩
      obtain ⟨n, hn, rfl⟩ := List.mem_map.1 hc
      have := digB_len (n := n) (by have := hr n hn; omega)
      show (true && decide ((mkB (digB n)).size ≤ 1000)) = true
      rw [mkB_size, Bool.true_and]
      exact decide_eq_true (by omega)
    rw [hs, dot_ok]
    refine ret_str ?_
    unfold strJoin
    rw [shut_eq, join_eq]
    rfl
theorem tail_step (d : UInt8) (x : List UInt8) (r : List (List UInt8)) : Lib.joinTail [d] (x :: r) = d :: x ++ Lib.joinTail [d] r := by simp [Lib.joinTail]
theorem rt_go (o : List Int) (hr : ∀ x ∈ o, 0 ≤ x ∧ x ≤ 4294967295) (hl : o.length ≤ 1000) : ∀ (f i : Nat) (l : List UInt8), i ≤ o.length → o.length < f + i → l.length ≤ 21 * (i + 1) →
    lpR2Text_5 sO f o (mkB l) i = sO (mkB (l ++ Lib.joinTail [46] ((o.drop i).map digB)))
  | 0, i, l, hi, hf, _ => by omega
  | f + 1, i, l, hi, hf, hll => by
    show lpR2Text_5s (lpR2Text_5 sO f) sO o (mkB l) i = _
    unfold lpR2Text_5s
    refine c_split (fun h => ?_) fun h => ?_
    · obtain ⟨c, hc⟩ := get_some (b := o) (i := i) (by omega)
      have hcr := hr c (List.mem_of_getElem? hc)
      have hd := digB_len (n := c) (by omega)
      rw [show (⟨#[46]⟩ : ByteArray) = mkB [46] from rfl, mkB_app, mkB_size, mkB_size]
      refine lim_in (by simp; omega) (getK_in (by omega) hc ?_)
      dsimp only
      rw [show IntKind.u64.wrap c = c from u64_in _ (by omega), digS_eq, mkB_app, mkB_size, mkB_size, wrap_succ (by omega)]
      refine b_pos (u64Ok_of (by omega)) (lim_in (by simp; omega) ?_)
      refine (rt_go o hr hl f (i + 1) _ (by omega) (by omega) (by simp; omega)).trans ?_
      rw [drop_cons hc, List.map_cons, tail_step]
      simp
    · rw [drop_nil (by omega)]
      show sO (mkB l) = _
      simp [Lib.joinTail]
theorem nR2Text (o : List Int) (hp : u32sOk o = true) : gR2Text o = some (.ret [.cl (.str (oidText o))] []) := by
  obtain ⟨hl, hr⟩ := u32sOk_spec hp
  unfold gR2Text oidText oidFit oidTextC
  simp only [shut_eq]
  cases hf : oidFitC o with
  | false => rfl
  | true =>
    obtain ⟨x, y, r, rfl, hr18, hx, hxy, hy⟩ := fit_head hf
    have rx := hr x (by simp)
    have hd := digB_len (n := x) (by omega)
    rw [if_pos rfl]
    refine b_neg rfl (c_pos (by simp only [List.length_cons]; omega) ?_)
    simp only [List.getElem?_cons_zero, Option.bind_some]
    rw [show IntKind.u64.wrap x = x from u64_in _ (by omega), digS_eq]
    refine b_pos (u64Ok_of (by omega)) ((rt_go (x :: y :: r) hr hl FUEL 1 _ (by simp) (by unfold FUEL; simp; omega) (by omega)).trans ?_)
    show sO _ = sO (mkB _)
    rw [List.map_cons, Lib.join_cons]
    rfl
end Go.Proofs.YtgkedgpgfmibhaaDoorA

namespace Go.Proofs.YtgkedgpgfmibhaaDoorA
open IntWalk (i64_in u8_in u32_in u64_in i64_quo u8_quo rem_in)

/-! ### pieces between points -/
theorem pcs_no {c : UInt8} : ∀ (a cur : List UInt8), c ∉ a → pcs c cur a = [cur ++ a]
  | [], cur, _ => by simp [pcs]
  | x :: a, cur, h => by
    simp only [List.mem_cons, not_or] at h
    unfold pcs
    rw [if_neg (fun e => h.1 e.symm), pcs_no a _ h.2]
    simp
theorem pcs_at {c : UInt8} : ∀ (a cur b : List UInt8), c ∉ a → pcs c cur (a ++ c :: b) = (cur ++ a) :: pcs c [] b
  | [], cur, b, _ => by simp [pcs]
  | x :: a, cur, b, h => by
    simp only [List.mem_cons, not_or] at h
    rw [List.cons_append]
    conv => lhs; unfold pcs
    rw [if_neg (fun e => h.1 e.symm), pcs_at a _ b h.2]
    simp
theorem idx_cases (c : UInt8) : ∀ l : List UInt8, (c ∉ l ∧ Lib.indexByte l c = -1) ∨ ∃ a b, l = a ++ c :: b ∧ c ∉ a ∧ Lib.indexByte l c = (a.length : Int)
  | [] => .inl ⟨by simp, rfl⟩
  | x :: l => by
    unfold Lib.indexByte
    by_cases h : x = c
    · subst h
      exact .inr ⟨[], l, rfl, by simp, by simp⟩
    · rw [if_neg (by simpa using h)]
      rcases idx_cases c l with ⟨h1, h2⟩ | ⟨a, b, rfl, h2, h3⟩
      · rw [h2]
        exact .inl ⟨by simp only [List.mem_cons, not_or]; exact ⟨fun e => h e.symm, h1⟩, by simp⟩
      · rw [h3]
        refine .inr ⟨x :: a, b, rfl, by simp only [List.mem_cons, not_or]; exact ⟨fun e => h e.symm, h2⟩, ?_⟩
        rw [if_neg (by simp)]
        simp
theorem indexB_dot (l : List UInt8) : Lib.indexB (mkB l) dot = Lib.indexByte l 46 := Lib.index_one _ _
theorem cut_mk (a b : List UInt8) : (mkB (a ++ 46 :: b)).extract 0 (a.length + 0) = mkB a ∧ (mkB (a ++ 46 :: b)).extract (a.length + dot.size) (mkB (a ++ 46 :: b)).size = mkB b := by
  constructor
  · apply ByteArray.ext
    simp [mkB, ByteArray.data_extract]
  · apply ByteArray.ext
    rw [mkB_size]
    have : dot.size = 1 := rfl
    rw [this]
    simp [mkB, ByteArray.data_extract, List.extract_eq_take_drop, List.drop_append, show a.length + 1 - a.length = 1 by omega]
    rw [List.drop_eq_nil_of_le (by omega), List.nil_append, List.take_of_length_le (by omega)]
theorem split_pcs : ∀ (n : Nat) (l : List UInt8), l.length ≤ n → Lib.splitB dot 0 (Lib.countB (mkB l) dot) (mkB l) = (pcs 46 [] l).map mkB := by
  intro n
  induction n with
  | zero =>
    intro l hl
    have : l = [] := List.eq_nil_of_length_eq_zero (by omega)
    subst this
    have h : Lib.indexB (mkB []) dot = -1 := indexB_dot []
    rw [Lib.countB_miss _ _ h]
    rfl
  | succ n ih =>
    intro l hl
    rcases idx_cases 46 l with ⟨h1, h2⟩ | ⟨a, b, rfl, h2, h3⟩
    · have h : Lib.indexB (mkB l) dot = -1 := (indexB_dot l).trans h2
      rw [Lib.countB_miss _ _ h, Lib.splitB_zero, pcs_no l [] h1]
      rfl
    · have h : Lib.indexB (mkB (a ++ 46 :: b)) dot = (a.length : Nat) := (indexB_dot _).trans h3
      obtain ⟨e1, e2⟩ := cut_mk a b
      rw [Lib.countB_hit _ _ a.length (by decide) h, Nat.add_comm, Lib.splitB_hit _ _ _ _ a.length h, e1, e2, ih b (by simp at hl; omega), pcs_at a [] b h2]
      rfl
theorem pcs_len (c : UInt8) : ∀ (l cur : List UInt8), (pcs c cur l).length = l.count c + 1
  | [], cur => rfl
  | x :: l, cur => by
    unfold pcs
    by_cases h : x = c
    · subst h; rw [if_pos rfl, List.length_cons, pcs_len x l, List.count_cons_self]
    · rw [if_neg h, pcs_len c l, List.count_cons_of_ne h]
theorem pcs_ne (c : UInt8) (l cur : List UInt8) : pcs c cur l ≠ [] := fun e => by
  have := pcs_len c l cur; rw [e] at this; simp at this
theorem join_pcs (c : UInt8) : ∀ (l cur : List UInt8), Lib.join (pcs c cur l) [c] = cur ++ l
  | [], cur => by simp [pcs, Lib.join_one]
  | x :: l, cur => by
    unfold pcs
    by_cases h : x = c
    · subst h
      rw [if_pos rfl, Lib.join_cons]
      cases hp : pcs x [] l with
      | nil => exact absurd hp (pcs_ne _ _ _)
      | cons y r =>
        rw [tail_step, List.cons_append, ← Lib.join_cons, ← hp, join_pcs x l []]
        rfl
    · rw [if_neg h, join_pcs c l]
      simp
theorem pcs_join (c : UInt8) : ∀ (L : List (List UInt8)), L ≠ [] → (∀ w ∈ L, c ∉ w) → pcs c [] (Lib.join L [c]) = L
  | [], h, _ => absurd rfl h
  | [w], _, h => by rw [Lib.join_one, pcs_no w [] (h w (by simp))]; rfl
  | w :: x :: r, _, h => by
    rw [Lib.join_cons, tail_step, List.cons_append, pcs_at w [] _ (h w (by simp)), ← Lib.join_cons, pcs_join c (x :: r) (by simp) (fun y hy => h y (by simp [hy]))]
    rfl

/-! ### digits as numbers -/
theorem decGo_app : ∀ (a : List UInt8) (n : Int) (b : List UInt8), decGo n (a ++ b) = (decGo n a).bind fun m => decGo m b
  | [], n, b => rfl
  | c :: a, n, b => by
    rw [List.cons_append]
    show (if 48 ≤ c.toNat ∧ c.toNat ≤ 57 then decGo (n * 10 + (c.toNat - 48 : Nat)) (a ++ b) else none) = (if 48 ≤ c.toNat ∧ c.toNat ≤ 57 then decGo (n * 10 + (c.toNat - 48 : Nat)) a else none).bind _
    split
    · exact decGo_app a _ b
    · rfl
theorem dig_char {n : Int} (h : 0 ≤ n ∧ n < 10) : (UInt8.ofNat (48 + n).toNat).toNat = 48 + n.toNat := by
  rw [UInt8.toNat_ofNat']
  omega
theorem decGo_dig : ∀ (f : Nat) (n : Int), 0 ≤ n → n < f → decGo 0 (digB n) = some n
  | 0, n, h0, h => by omega
  | f + 1, n, h0, h => by
    by_cases h10 : n < 10
    · rw [digB_small h0 h10]
      unfold decGo
      rw [dig_char ⟨h0, h10⟩, if_pos (by omega)]
      unfold decGo
      congr 1
      omega
    · rw [digB_big (by omega), decGo_app, decGo_dig f (n / 10) (by omega) (by omega)]
      show decGo (n / 10) _ = _
      unfold decGo
      rw [dig_char ⟨by omega, by omega⟩, if_pos (by omega)]
      unfold decGo
      congr 1
      omega
theorem digB_dot (n : Int) : (46 : UInt8) ∉ digB n := by
  have : ∀ (f u : Nat), u < f → (46 : UInt8) ∉ Lib.decDigits u := fun f => by
    induction f with
    | zero => intro u h; omega
    | succ f ih =>
      intro u h hm
      rw [Lib.decDigits] at hm
      have one : ∀ k, k < 10 → (46 : UInt8) ≠ UInt8.ofNat (48 + k) := fun k hk e => by
        have := congrArg UInt8.toNat e
        rw [UInt8.toNat_ofNat'] at this
        have e46 : (46 : UInt8).toNat = 46 := rfl
        omega
      split at hm
      · simp only [List.mem_singleton] at hm; exact one u (by omega) hm
      · simp only [List.mem_append, List.mem_singleton] at hm
        rcases hm with hm | hm
        · exact ih (u / 10) (by omega) hm
        · exact one (u % 10) (by omega) hm
  exact this _ _ (Nat.lt_succ_self _)
theorem decGo_ge : ∀ (l : List UInt8) (n m : Int), 0 ≤ n → decGo n l = some m → n ≤ m
  | [], n, m, _, h => by simp [decGo] at h; omega
  | c :: l, n, m, h0, h => by
    unfold decGo at h
    split at h
    · have := decGo_ge l _ m (by omega) h; omega
    · cases h
theorem canon_spec {w : List UInt8} {n : Int} (h : canon w = some n) : w = digB n ∧ 0 ≤ n ∧ n ≤ 4294967295 := by
  unfold canon refNumC at h
  split at h
  · rename_i x heq
    simp only [Option.some.injEq] at h
    subst h
    split at heq
    · cases heq
    · split at heq
      · rename_i m hm
        simp only [Prod.mk.injEq, Bool.and_eq_true, decide_eq_true_eq] at heq
        obtain ⟨rfl, h1, h2⟩ := heq
        exact ⟨h2.symm, decGo_ge _ 0 _ (by omega) hm, h1⟩
      · cases heq
  · cases h
theorem canon_dig {n : Int} (h : 0 ≤ n ∧ n ≤ 4294967295) : canon (digB n) = some n := by
  unfold canon refNumC
  have hl : (digB n).length ≤ 10 := by unfold digB; rw [Lib.decDigits_length]; exact nDigits_le 9 _ (by omega)
  have e : (⟨(digB n).toArray⟩ : ByteArray) = mkB (digB n) := rfl
  rw [e, mkB_size, if_neg (by omega)]
  have e2 : (mkB (digB n)).data.toList = digB n := by simp [mkB]
  rw [e2, decGo_dig (n.toNat + 1) n h.1 (by omega)]
  simp [h.2]
theorem canons_spec : ∀ {L : List (List UInt8)} {o : List Int}, canons L = some o → L = o.map digB ∧ ∀ n ∈ o, 0 ≤ n ∧ n ≤ 4294967295
  | [], o, h => by simp [canons] at h; subst h; simp
  | w :: r, o, h => by
    unfold canons at h
    split at h
    · rename_i n l h1 h2
      simp only [Option.some.injEq] at h
      subst h
      obtain ⟨e1, e2⟩ := canon_spec h1
      obtain ⟨e3, e4⟩ := canons_spec h2
      refine ⟨by rw [e1, e3]; rfl, fun x hx => ?_⟩
      rcases List.mem_cons.1 hx with rfl | hx
      · exact e2
      · exact e4 x hx
    · cases h
theorem canons_dig : ∀ {o : List Int}, (∀ n ∈ o, 0 ≤ n ∧ n ≤ 4294967295) → canons (o.map digB) = some o
  | [], _ => rfl
  | n :: o, h => by
    rw [List.map_cons]
    unfold canons
    rw [canon_dig (h n (by simp)), canons_dig fun x hx => h x (by simp [hx])]
theorem pu_dec : ∀ (l : List UInt8) (n : Nat), n ≤ 4294967295 → (∀ u, Lib.parseUintM 4294967295 n l = .ok u → decGo n l = some (u : Int) ∧ u ≤ 4294967295) ∧ (∀ m : Int, decGo n l = some m → m ≤ 4294967295 → Lib.parseUintM 4294967295 n l = .ok m.toNat)
  | [], n, hn => by
    refine ⟨fun u h => ?_, fun m h hm => ?_⟩
    · simp only [Lib.parseUintM, Lib.NumEnd.ok.injEq] at h
      subst h
      exact ⟨rfl, hn⟩
    · simp only [decGo, Option.some.injEq] at h
      subst h
      rfl
  | c :: l, n, hn => by
    unfold Lib.parseUintM decGo
    by_cases hc : 48 ≤ c.toNat ∧ c.toNat ≤ 57
    · rw [if_pos hc, if_pos hc, if_neg (by omega)]
      by_cases hM : 4294967295 < n * 10 + (c.toNat - 48)
      · rw [if_pos hM]
        refine ⟨fun u h => (nomatch h), fun m h hm => ?_⟩
        have := decGo_ge l _ m (by omega) h
        omega
      · rw [if_neg hM]
        have := pu_dec l (n * 10 + (c.toNat - 48)) (by omega)
        rw [show ((n * 10 + (c.toNat - 48) : Nat) : Int) = (n : Int) * 10 + ((c.toNat - 48 : Nat) : Int) by omega] at this
        exact this
    · rw [if_neg hc, if_neg hc]
      exact ⟨fun u h => (nomatch h), fun m h => (nomatch h)⟩
theorem pu_dig {n : Int} (h : 0 ≤ n ∧ n ≤ 4294967295) : puNum (mkB (digB n)) = .ok n.toNat := by
  unfold puNum Lib.parseUintB
  have e2 : (mkB (digB n)).data.toList = digB n := by simp [mkB]
  have hne : digB n ≠ [] := by
    by_cases h10 : n < 10
    · rw [digB_small h.1 h10]; simp
    · rw [digB_big (by omega)]; simp
  rw [e2, if_neg hne]
  exact (pu_dec (digB n) 0 (by omega)).2 n (decGo_dig (n.toNat + 1) n h.1 (by omega)) h.2
theorem pu_rng {s : ByteArray} {u : Nat} (h : puNum s = .ok u) : u ≤ 4294967295 := by
  unfold puNum Lib.parseUintB at h
  split at h
  · cases h
  · exact ((pu_dec _ 0 (by omega)).1 u h).2
def puAll : List (List UInt8) → Option (List Int)
  | [] => some []
  | w :: r => match puNum (mkB w) with
    | .ok u => (match puAll r with | some l => some ((u : Int) :: l) | none => none)
    | _ => none
theorem puAll_dig : ∀ {o : List Int}, (∀ n ∈ o, 0 ≤ n ∧ n ≤ 4294967295) → puAll (o.map digB) = some o
  | [], _ => rfl
  | n :: o, h => by
    rw [List.map_cons]
    unfold puAll
    rw [pu_dig (h n (by simp)), puAll_dig fun x hx => h x (by simp [hx])]
    simp only [Option.some.injEq, List.cons.injEq, and_true]
    exact Int.toNat_of_nonneg (h n (by simp)).1
theorem puAll_rng : ∀ {L : List (List UInt8)} {o : List Int}, puAll L = some o → o.length = L.length ∧ ∀ n ∈ o, 0 ≤ n ∧ n ≤ 4294967295
  | [], o, h => by simp [puAll] at h; subst h; simp
  | w :: r, o, h => by
    unfold puAll at h
    split at h
    · rename_i u hu
      split at h
      · rename_i l hl
        simp only [Option.some.injEq] at h
        subst h
        obtain ⟨e1, e2⟩ := puAll_rng hl
        have := pu_rng hu
        refine ⟨by simp [e1], fun x hx => ?_⟩
        rcases List.mem_cons.1 hx with rfl | hx
        · omega
        · exact e2 x hx
      · cases h
    · cases h
theorem fit_len {o : List Int} (h : oidFitC o = true) : 2 ≤ o.length ∧ o.length ≤ 20 := by
  obtain ⟨x, y, r, rfl, h1, _⟩ := fit_head h
  simp; omega
/-- what is read, told by what a number's reader takes -/
theorem read_pu (l : List UInt8) : oidReadC (mkB l) = match puAll (pcs 46 [] l) with
    | some o => if oidFitC o = true ∧ Lib.join (o.map digB) [46] = l then (o, 0) else ([], 1)
    | none => ([], 1) := by
  unfold oidReadC
  have e2 : (mkB l).data.toList = l := by simp [mkB]
  rw [e2]
  cases hc : canons (pcs 46 [] l) with
  | some o =>
    obtain ⟨h1, h2⟩ := canons_spec hc
    have hp : puAll (pcs 46 [] l) = some o := by rw [h1]; exact puAll_dig h2
    rw [hp]
    have hj : Lib.join (o.map digB) [46] = l := by rw [← h1, join_pcs]; rfl
    simp [hj]
  | none =>
    cases hp : puAll (pcs 46 [] l) with
    | none => rfl
    | some o =>
      show ([], 1) = if oidFitC o = true ∧ Lib.join (o.map digB) [46] = l then (o, 0) else ([], 1)
      rw [if_neg]
      rintro ⟨hf, hj⟩
      have hne : o.map digB ≠ [] := fun e => by
        have := fit_len hf
        have := congrArg List.length e
        simp at this; subst this; simp at *
      have := pcs_join 46 (o.map digB) hne (fun w hw => by obtain ⟨n, _, rfl⟩ := List.mem_map.1 hw; exact digB_dot n)
      rw [hj] at this
      rw [this, canons_dig (puAll_rng hp).2] at hc
      cases hc
end Go.Proofs.YtgkedgpgfmibhaaDoorA

namespace Go.Proofs.YtgkedgpgfmibhaaDoorA
open IntWalk (i64_in u8_in u32_in u64_in i64_quo u8_quo rem_in)

theorem sizeOk_spec {s : ByteArray} (h : sizeOk s = true) : s.size ≤ 1000000 := by
  unfold sizeOk at h; rw [shut_eq] at h; exact of_decide_eq_true h
theorem sizeOk_of {s : ByteArray} (h : s.size ≤ 1000000) : sizeOk s = true := by
  unfold sizeOk; rw [shut_eq]; exact decide_eq_true h
theorem bget_mk {l : List UInt8} {i : Nat} {c : UInt8} (h : l[i]? = some c) : bget (mkB l) i = c.toNat := by
  unfold bget
  rw [show (mkB l).data.toList = l from by simp [mkB], show (i : Int).toNat = i from rfl, h]
  rfl
theorem u8_dropc {l : List UInt8} {i : Nat} {c : UInt8} (h : l[i]? = some c) : l.drop i = c :: l.drop (i + 1) := by
  obtain ⟨hlt, e⟩ := List.getElem?_eq_some_iff.1 h
  rw [List.drop_eq_getElem_cons hlt, e]
theorem beq_mk (a b : List UInt8) : ((mkB a).toList == (mkB b).toList) = decide (a = b) := by
  rw [ByteArray.toList_eq, ByteArray.toList_eq]
  simp only [mkB]
  rw [Bool.eq_iff_iff]
  simp
abbrev nF : Option Out := some (.ret [.cl (.int .u64 0), .cl (.bool false)] [])
noncomputable def nK (y1 : ByteArray) (y2 y3 : Int) : Option Out :=
  cond (decide (y3 ≤ y2)) (cond (u64Ok y3) (let r4 : ByteArray := digS y3; some (.ret [.cl (.int .u64 y3), .cl (.bool (r4.toList == y1.toList))] [])) none) (some (.ret [.cl (.int .u64 y3), .cl (.bool false)] []))
def nR (l : List UInt8) (b : Int) : Option Int → Option Out
  | some m => if 19 < l.length then nF else some (.ret [.cl (.int .u64 m), .cl (.bool (decide (m ≤ b) && decide (digB m = l)))] [])
  | none => nF
theorem pow_step {n : Int} {i : Nat} {d : Nat} (h : n < 10 ^ i) (hd : d ≤ 9) : n * 10 + (d : Int) < 10 ^ (i + 1) := by
  rw [Int.pow_succ]; generalize (10 : Int) ^ i = X at *; omega
theorem pow_le {n : Int} {i : Nat} (h : n < 10 ^ i) (hi : i ≤ 19) : n < 10000000000000000000 := by
  have h2 : 10 ^ i ≤ 10 ^ 19 := Nat.pow_le_pow_right (by decide) hi
  have e2 : ((10 ^ i : Nat) : Int) = (10 : Int) ^ i := by simp
  rw [← e2] at h
  generalize 10 ^ i = X at *
  omega
theorem num_lp (l : List UInt8) (b : Int) (hb : b ≤ 4294967295) (hl : l.length ≤ 1000000) : ∀ (f i : Nat) (n : Int), i ≤ l.length → i ≤ 19 → l.length < f + i → 0 ≤ n → n < 10 ^ i →
    lpR2Number_3 nF nK f (mkB l) b n i = nR l b (decGo n (l.drop i))
  | 0, i, n, hi, _, hf, _, _ => by omega
  | f + 1, i, n, hi, hi19, hf, h0, hp => by
    show lpR2Number_3s (lpR2Number_3 nF nK f) nF nK (mkB l) b n i = _
    unfold lpR2Number_3s
    rw [mkB_size]
    refine c_split (fun h => ?_) fun h => ?_
    · obtain ⟨c, hc⟩ := get_some (b := l) (i := i) (by omega)
      have hcl := c.toNat_lt
      dsimp only
      rw [bget_mk hc, u8_dropc hc]
      refine idxK_in (by omega) h (c_split (fun h1 => ?_) fun h1 => idxK_in (by omega) h (c_split (fun h2 => ?_) fun h2 => ?_))
      · unfold decGo; rw [if_neg (by omega)]; rfl
      · unfold decGo; rw [if_neg (by omega)]; rfl
      · refine c_split (fun h3 => ?_) fun h3 => idxK_in (by omega) h ?_
        · cases decGo n (c :: l.drop (i + 1)) with
          | none => rfl
          | some m => show nF = if 19 < l.length then nF else _; rw [if_pos (by omega)]
        · have := pow_le hp (by omega)
          have hp1 := pow_step (d := c.toNat - 48) hp (by omega)
          have hq := pow_le hp1 (by omega)
          rw [show IntKind.u64.wrap (n * 10) = n * 10 from u64_in _ (by omega), show IntKind.u8.wrap ((c.toNat : Int) - 48) = ((c.toNat - 48 : Nat) : Int) from (u8_in _ (by omega)).trans (by omega), show IntKind.u64.wrap ((c.toNat - 48 : Nat) : Int) = ((c.toNat - 48 : Nat) : Int) from u64_in _ (by omega), show IntKind.u64.wrap (n * 10 + ((c.toNat - 48 : Nat) : Int)) = n * 10 + ((c.toNat - 48 : Nat) : Int) from u64_in _ (by omega), wrap_succ (by omega)]
          rw [num_lp l b hb hl f (i + 1) _ (by omega) (by omega) (by omega) (by omega) hp1]
          conv => rhs; unfold decGo
          rw [if_pos (by omega)]
    · rw [List.drop_eq_nil_of_le (by omega)]
      show nK (mkB l) b n = if 19 < l.length then nF else some (.ret [.cl (.int .u64 n), .cl (.bool (decide (n ≤ b) && decide (digB n = l)))] [])
      rw [if_neg (by omega)]
      unfold nK
      rw [digS_eq]
      dsimp only
      rw [beq_mk]
      have := pow_le hp (by omega)
      refine c_split (fun h1 => b_pos (u64Ok_of (by omega)) ?_) fun h1 => ?_
      · rw [decide_eq_true h1, Bool.true_and]
      · rw [decide_eq_false h1, Bool.false_and]
theorem nR2Number (s : ByteArray) (n : Int) (hp : (sizeOk s && u32Ok n) = true) : gR2Number s n = some (.ret [.cl (.int .u64 (refNum s n).1), .cl (.bool (refNum s n).2)] []) := by
  simp only [Bool.and_eq_true] at hp
  have hs := sizeOk_spec hp.1
  have hn := u32Ok_spec hp.2
  obtain ⟨l, rfl⟩ : ∃ l, s = mkB l := ⟨_, (mkB_data s).symm⟩
  rw [mkB_size] at hs
  unfold gR2Number refNum
  simp only [shut_eq]
  refine (num_lp l n hn.2 hs FUEL 0 0 (by omega) (by omega) (by unfold FUEL; omega) (by omega) (by decide)).trans ?_
  rw [List.drop_zero]
  unfold refNumC
  rw [mkB_size, show (mkB l).data.toList = l from by simp [mkB]]
  by_cases h : 19 < l.length
  · rw [if_pos h]
    cases decGo 0 l with
    | none => rfl
    | some m => exact if_pos h
  · rw [if_neg h]
    cases decGo 0 l with
    | none => rfl
    | some m => exact if_neg h

/-! ### the document's reader -/
abbrev rF : Option Out := some (.ret [.cl (.sli .u32 []), .cl (.int .i64 1)] [])
noncomputable abbrev rK (o : List Int) : Option Out := cond (!(oidFit o)) rF (some (.ret [.cl (.sli .u32 o), .cl (.int .i64 0)] []))
noncomputable def rR (o : List Int) : Option (List Int) → Option Out
  | some l => rK (o ++ l)
  | none => rF
theorem fit_long {o : List Int} (h : 20 < o.length) : oidFit o = false := by
  unfold oidFit
  rw [shut_eq, Bool.eq_false_iff]
  intro hf
  have := fit_len hf
  omega
theorem refNum_canon (w : List UInt8) : canon w = if (refNum (mkB w) 4294967295).2 = true then some (refNum (mkB w) 4294967295).1 else none := by
  unfold canon refNum
  rw [shut_eq]
  show (match refNumC (mkB w) 4294967295 with | (n, true) => some n | _ => none) = _
  rcases refNumC (mkB w) 4294967295 with ⟨n, b⟩
  cases b <;> rfl
theorem piece_mk (l : List UInt8) (a b : Nat) : (mkB l).extract a b = mkB ((l.drop a).take (b - a)) := by
  apply ByteArray.ext
  simp [mkB, ByteArray.data_extract, List.extract_eq_take_drop]
theorem take_step {l : List UInt8} {a i : Nat} {c : UInt8} (h : l[i]? = some c) (ha : a ≤ i) : (l.drop a).take (i + 1 - a) = (l.drop a).take (i - a) ++ [c] := by
  rw [show i + 1 - a = (i - a) + 1 by omega, List.take_add_one, List.getElem?_drop, show a + (i - a) = i by omega, h]
  rfl
theorem rd_end {f : Nat} {l : List UInt8} {from_ : Int} {o : List Int} (hl : l.length ≤ 1000000) : lpR2Read_4 rF (fun _ y => rK y) (f + 1) (mkB l) o.length from_ ((l.length + 1 : Nat) : Int) o = rK o := by
  show lpR2Read_4s (lpR2Read_4 rF (fun _ y => rK y) f) rF (fun _ y => rK y) (mkB l) o.length from_ _ o = _
  unfold lpR2Read_4s
  rw [mkB_size]
  exact c_neg (by omega) rfl
theorem rd_lp (l : List UInt8) (hl : l.length ≤ 1000000) : ∀ (f a i : Nat) (o : List Int), i ≤ l.length → a ≤ i → l.length + 1 < f + i → o.length ≤ 20 →
    lpR2Read_4 rF (fun _ y => rK y) f (mkB l) o.length a i o = rR o (canons (pcs 46 ((l.drop a).take (i - a)) (l.drop i)))
  | 0, a, i, o, hi, _, hf, _ => by omega
  | f + 1, a, i, o, hi, ha, hf, ho => by
    show lpR2Read_4s (lpR2Read_4 rF (fun _ y => rK y) f) rF (fun _ y => rK y) (mkB l) o.length a i o = _
    have ih := fun a i o => rd_lp l hl f a i o
    have e := fun x o => rd_end (f := f - 1) (l := l) (from_ := x) (o := o) hl
    generalize hag : lpR2Read_4 rF (fun _ y => rK y) f = ag at ih ⊢
    rw [show f - 1 + 1 = f by omega, hag] at e
    unfold lpR2Read_4s
    rw [mkB_size, show (mkB l).extract (Int.toNat (a : Int)) (Int.toNat (i : Int)) = mkB ((l.drop a).take (i - a)) from piece_mk l a i]
    generalize hw : (l.drop a).take (i - a) = w
    have hws : sizeOk (mkB w) = true := sizeOk_of (by rw [mkB_size, ← hw, List.length_take, List.length_drop]; omega)
    have hok : (sizeOk (mkB w) && u32Ok 4294967295) = true := by rw [hws, u32Ok_of (by omega)]; rfl
    have piece : ∀ (rest : List (List UInt8)), (∀ n, canon w = some n → o.length < 20 → ag (mkB l) (o ++ [n]).length ((i + 1 : Nat) : Int) ((i + 1 : Nat) : Int) (o ++ [n]) = rR (o ++ [n]) (canons rest)) →
        cond (decide ((0 : Int) ≤ (a : Int))) (cond (decide ((a : Int) ≤ (i : Int))) (cond (decide ((i : Int) ≤ ((l.length : Nat) : Int))) (cond (sizeOk (mkB w) && u32Ok 4294967295) (
          let r4 : Int := (refNum (mkB w) 4294967295).1
          let r5 : Bool := (refNum (mkB w) 4294967295).2
          cond (!r5) rF (cond (decide (((o.length : Nat) : Int) = 20)) rF (
            let x6 : Int := IntKind.u32.wrap r4
            let l7 : List Int := o ++ [x6]
            rmK l7.length 4 <|
            let x8 : Int := IntKind.i64.wrap ((i : Int) + 1)
            let x9 : Int := IntKind.i64.wrap ((i : Int) + 1)
            ag (mkB l) l7.length x8 x9 l7))) none) none) none) none = rR o (canons (w :: rest)) := fun rest hrest => by
      refine c_pos (by omega) (c_pos (by omega) (c_pos (by omega) (b_pos hok ?_)))
      have hc := refNum_canon w
      dsimp only
      cases hb : (refNum (mkB w) 4294967295).2 with
      | false =>
        rw [hb, if_neg (by simp)] at hc
        show rF = _
        unfold canons
        rw [hc]
        rfl
      | true =>
        rw [hb, if_pos rfl] at hc
        have hn := (canon_spec hc).2
        generalize (refNum (mkB w) 4294967295).1 = n at hc hn ⊢
        show cond (decide (((o.length : Nat) : Int) = 20)) rF _ = _
        unfold canons
        rw [hc]
        refine c_split (fun h20 => ?_) fun h20 => ?_
        · cases canons rest with
          | none => rfl
          | some r =>
            show rF = rK (o ++ n :: r)
            unfold rK
            rw [fit_long (by simp; omega)]
            rfl
        · rw [show IntKind.u32.wrap n = n from u32_in _ (by omega), wrap_succ (by omega)]
          refine rm4 (by simp; omega) ((hrest n hc (by omega)).trans ?_)
          cases canons rest with
          | none => rfl
          | some r => show rK (o ++ [n] ++ r) = rK (o ++ n :: r); rw [List.append_assoc]; rfl
    refine c_pos (by omega) (c_split (fun h => ?_) fun h => ?_)
    · obtain ⟨c, hc⟩ := get_some (b := l) (i := i) (by omega)
      rw [bget_mk hc, u8_dropc hc]
      refine idxK_in (by omega) h ?_
      have hcc : ((c.toNat : Int) = 46) ↔ c = 46 := by
        constructor
        · intro h; apply UInt8.toNat_inj.1; have : (46 : UInt8).toNat = 46 := rfl; omega
        · rintro rfl; rfl
      conv => rhs; unfold pcs
      refine c_nsplit (fun h46 => ?_) fun h46 => ?_
      · rw [if_neg (fun e => h46 (hcc.2 e)), wrap_succ (by omega), ih a (i + 1) o (by omega) (by omega) (by omega) ho, take_step hc ha, hw]
      · rw [if_pos (hcc.1 h46)]
        refine piece _ fun n hn ho2 => ?_
        rw [ih (i + 1) (i + 1) (o ++ [n]) (by omega) (by omega) (by omega) (by simp; omega), Nat.sub_self, List.take_zero]
    · have : i = l.length := by omega
      subst this
      rw [List.drop_length]
      refine piece [] fun n hn ho2 => ?_
      rw [e]
      show rK _ = rK _
      rw [List.append_nil]
theorem nR2Read (s : ByteArray) (hp : sizeOk s = true) : gR2Read s = some (.ret [.cl (.sli .u32 (oidRead s).1), .cl (.int .i64 (oidRead s).2)] []) := by
  have hs := sizeOk_spec hp
  obtain ⟨l, rfl⟩ : ∃ l, s = mkB l := ⟨_, (mkB_data s).symm⟩
  rw [mkB_size] at hs
  unfold gR2Read oidRead oidReadC
  simp only [shut_eq]
  refine (rd_lp l hs FUEL 0 0 [] (by omega) (by omega) (by unfold FUEL; omega) (by simp)).trans ?_
  rw [show (mkB l).data.toList = l from by simp [mkB], List.drop_zero, Nat.sub_self, List.take_zero]
  cases canons (pcs 46 [] l) with
  | none => rfl
  | some o =>
    show rK ([] ++ o) = _
    unfold rK oidFit
    rw [List.nil_append, shut_eq]
    show _ = pRes (if oidFitC o = true then (o, 0) else ([], 1))
    cases oidFitC o <;> rfl

/-! ### the program's reader -/
noncomputable def oK (s : ByteArray) (y5 : List Int) : Option Out :=
  cond (u32sOk y5) (
    let r6 : ByteArray := oidText y5
    cond (!(r6.toList == s.toList)) rF (
      let r7 : Bool := oidFit y5
      cond (!r7) rF (some (.ret [.cl (.sli .u32 y5), .cl (.int .i64 0)] [])))) none
theorem or_lp (s : ByteArray) (L : List (List UInt8)) (hL : L.length ≤ 1000) (hw : ∀ w ∈ L, w.length ≤ 1000000) : ∀ (f i : Nat) (o : List Int), i ≤ L.length → L.length < f + i → o.length = i →
    lpORead_5 rF (fun s _ y => oK s y) f s o.length (L.map fun w => CV.str (mkB w)) L.length i o = match puAll (L.drop i) with | some l => oK s (o ++ l) | none => rF
  | 0, i, o, hi, hf, _ => by omega
  | f + 1, i, o, hi, hf, ho => by
    show lpORead_5s (lpORead_5 rF (fun s _ y => oK s y) f) rF (fun s _ y => oK s y) s o.length _ L.length i o = _
    unfold lpORead_5s
    refine c_split (fun h => ?_) fun h => ?_
    · obtain ⟨w, hc⟩ := get_some (b := L) (i := i) (by omega)
      refine getK_in (by omega) (show (L.map fun w => CV.str (mkB w))[((i : Int)).toNat]? = some (.str (mkB w)) by rw [show (i : Int).toNat = i from rfl, List.getElem?_map, hc]; rfl) ?_
      have hd : L.drop i = w :: L.drop (i + 1) := by
        obtain ⟨hlt, e⟩ := List.getElem?_eq_some_iff.1 hc
        rw [List.drop_eq_getElem_cons hlt, e]
      rw [hd]
      show cond true (cond (sizeOk (mkB w)) (cond (!(puOk (mkB w))) rF (rmK (o ++ [IntKind.u32.wrap (puVal (mkB w))]).length 4 (lpORead_5 rF (fun s _ y => oK s y) f s (o ++ [IntKind.u32.wrap (puVal (mkB w))]).length (L.map fun w => CV.str (mkB w)) L.length (IntKind.i64.wrap ((i : Int) + 1)) (o ++ [IntKind.u32.wrap (puVal (mkB w))])))) none) none = _
      refine b_pos rfl (b_pos (sizeOk_of (by rw [mkB_size]; exact hw w (List.mem_of_getElem? hc))) ?_)
      unfold puOk puVal
      simp only [shut_eq]
      unfold puAll
      cases hn : puNum (mkB w) with
      | ok u =>
        have hu := pu_rng hn
        simp only [Bool.not_true, cond_false]
        rw [show IntKind.u32.wrap (u : Int) = u from u32_in _ (by omega), wrap_succ (by omega)]
        refine rm4 (by simp; omega) ((or_lp s L hL hw f (i + 1) (o ++ [(u : Int)]) (by omega) (by omega) (by simp; omega)).trans ?_)
        cases puAll (L.drop (i + 1)) with
        | none => rfl
        | some r => simp
      | range => rfl
      | _ => rfl
    · rw [drop_nil (by omega)]
      show oK s o = oK s (o ++ [])
      rw [List.append_nil]
theorem nORead (s : ByteArray) (hp : sizeOk s = true) : gORead s = some (.ret [.cl (.sli .u32 (oidRead s).1), .cl (.int .i64 (oidRead s).2)] []) := by
  have hs := sizeOk_spec hp
  obtain ⟨l, rfl⟩ : ∃ l, s = mkB l := ⟨_, (mkB_data s).symm⟩
  have hl := hs
  rw [mkB_size] at hl
  unfold gORead oidRead
  refine b_pos dot_ok ?_
  have ed : (mkB l).data.toList = l := by simp [mkB]
  have hcnt : (pcs 46 [] l).length = l.count 46 + 1 := pcs_len 46 l []
  have e1 : dotCount (mkB l) = ((l.count 46 : Nat) : Int) := by unfold dotCount Lib.countByte; rw [shut_eq, ed]
  dsimp only
  rw [e1, shut_eq (oidReadC (mkB l)), read_pu l]
  refine c_split (fun h => ?_) fun h => ?_
  · cases hpu : puAll (pcs 46 [] l) with
    | none => rfl
    | some o =>
      have hlen := (puAll_rng hpu).1
      show rF = pRes (if oidFitC o = true ∧ Lib.join (o.map digB) [46] = l then (o, 0) else ([], 1))
      rw [if_neg (fun hh => by have := fit_len hh.1; omega)]
  · refine b_pos (by rw [dot_ok, hp]; rfl) ?_
    have e2 : dotSplit (mkB l) = (pcs 46 [] l).map fun w => CV.str (mkB w) := by
      unfold dotSplit dotSplitC
      rw [shut_eq, split_pcs l.length l (Nat.le_refl _), List.map_map]
      rfl
    rw [e2, shut_eq, List.length_map]
    have hpc : ∀ (l cur : List UInt8), ∀ w ∈ pcs 46 cur l, w.length ≤ cur.length + l.length := fun l => by
      induction l with
      | nil => intro cur w hw; simp [pcs] at hw; subst hw; simp
      | cons x r ih =>
        intro cur w hw
        unfold pcs at hw
        split at hw
        · rcases List.mem_cons.1 hw with rfl | hw
          · omega
          · have := ih [] w hw; simp at *; omega
        · have := ih (cur ++ [x]) w hw; simp at *; omega
    refine (or_lp (mkB l) (pcs 46 [] l) (by omega) (fun w hw => by have := hpc l [] w hw; simp at this; omega) FUEL 0 [] (by omega) (by unfold FUEL; omega) rfl).trans ?_
    rw [List.drop_zero]
    cases hpu : puAll (pcs 46 [] l) with
    | none => rfl
    | some o =>
      obtain ⟨hlen, hrng⟩ := puAll_rng hpu
      show oK (mkB l) ([] ++ o) = pRes (if oidFitC o = true ∧ Lib.join (o.map digB) [46] = l then (o, 0) else ([], 1))
      rw [List.nil_append]
      unfold oK
      have hok : u32sOk o = true := by
        unfold u32sOk
        rw [shut_eq, Bool.and_eq_true]
        exact ⟨decide_eq_true (by omega), List.all_eq_true.2 fun x hx => decide_eq_true (hrng x hx)⟩
      rw [hok, cond_true]
      unfold oidFit oidText oidTextC
      simp only [shut_eq]
      cases hf : oidFitC o with
      | false =>
        rw [if_neg (by simp), if_neg (by simp)]
        show cond _ rF (cond (!false) rF _) = rF
        cases (!((⟨#[]⟩ : ByteArray).toList == (mkB l).toList)) <;> rfl
      | true =>
        rw [if_pos rfl]
        show cond (!((mkB (Lib.join (o.map digB) [46])).toList == (mkB l).toList)) rF _ = _
        rw [beq_mk]
        by_cases hj : Lib.join (o.map digB) [46] = l
        · rw [decide_eq_true hj, if_pos ⟨rfl, hj⟩]; rfl
        · rw [decide_eq_false hj, if_neg (fun h => hj h.2)]; rfl
end Go.Proofs.YtgkedgpgfmibhaaDoorA

namespace Go.Proofs.YtgkedgpgfmibhaaDoorA

abbrev inU (n : Int) : Prop := 0 ≤ n ∧ n ≤ 4294967295
/-! ### bytes -/
theorem groups_num {n : Int} (h : inU n) (rest : List Int) : oidNumberC (oidGroupsC n ++ rest) = (n, ((oidGroupsC n).length : Int)) := by
  unfold oidNumberC
  have go : ∀ (acc i c : Int) (r : List Int), ¬ (i = 0 ∧ c = 128) → acc ≤ 33554431 → 128 ≤ c → oidNumG acc i (c :: r) = oidNumG (acc * 128 + (c - 128)) (i + 1) r := fun acc i c r h1 h2 h3 => by
    rw [numG_cons, if_neg (by rintro (h | h); exact h1 h; omega), if_neg (by omega)]
  have fin : ∀ (acc i c : Int) (r : List Int), ¬ (i = 0 ∧ c = 128) → acc ≤ 33554431 → c < 128 → oidNumG acc i (c :: r) = (acc * 128 + c, i + 1) := fun acc i c r h1 h2 h3 => by
    rw [numG_cons, if_neg (by rintro (h | h); exact h1 h; omega), if_pos h3]
  rcases gr_cases h with ⟨h1, h2, h3, h4⟩ | ⟨h1, h2, h3, h4⟩ | ⟨h1, h2, h3, h4⟩ | ⟨h1, h2, h3, h4⟩ | ⟨h1, h2, h3, h4⟩
  · rw [gr1 h1]
    simp only [List.cons_append, List.nil_append, List.length_cons, List.length_nil]
    rw [fin _ _ _ _ (by omega) (by omega) (by omega)]
    exact Prod.ext (by simp only []; omega) rfl
  · rw [gr2 h1 h2]
    simp only [List.cons_append, List.nil_append, List.length_cons, List.length_nil]
    rw [go _ _ _ _ (by omega) (by omega) (by omega), fin _ _ _ _ (by omega) (by omega) (by omega)]
    exact Prod.ext (by simp only []; omega) rfl
  · rw [gr3 h2 h3]
    simp only [List.cons_append, List.nil_append, List.length_cons, List.length_nil]
    rw [go _ _ _ _ (by omega) (by omega) (by omega), go _ _ _ _ (by omega) (by omega) (by omega), fin _ _ _ _ (by omega) (by omega) (by omega)]
    exact Prod.ext (by simp only []; omega) rfl
  · rw [gr4 h3 h4]
    simp only [List.cons_append, List.nil_append, List.length_cons, List.length_nil]
    rw [go _ _ _ _ (by omega) (by omega) (by omega), go _ _ _ _ (by omega) (by omega) (by omega), go _ _ _ _ (by omega) (by omega) (by omega), fin _ _ _ _ (by omega) (by omega) (by omega)]
    exact Prod.ext (by simp only []; omega) rfl
  · rw [gr5 h4 h]
    simp only [List.cons_append, List.nil_append, List.length_cons, List.length_nil]
    rw [go _ _ _ _ (by omega) (by omega) (by omega), go _ _ _ _ (by omega) (by omega) (by omega), go _ _ _ _ (by omega) (by omega) (by omega), go _ _ _ _ (by omega) (by omega) (by omega), fin _ _ _ _ (by omega) (by omega) (by omega)]
    exact Prod.ext (by simp only []; omega) rfl
theorem gr_pos (n : Int) : 0 < (oidGroupsC n).length := by unfold oidGroupsC; simp
theorem gr_byte {n : Int} (h : inU n) : ∀ x ∈ oidGroupsC n, 0 ≤ x ∧ x ≤ 255 := by
  have : ∀ (f : Nat) (n : Int), ∀ x ∈ gHi f n, 0 ≤ x ∧ x ≤ 255 := fun f => by
    induction f with
    | zero => intro n x hx; simp [gHi] at hx
    | succ f ih =>
      intro n x hx
      unfold gHi at hx
      split at hx
      · simp at hx
      · rcases List.mem_append.1 hx with hx | hx
        · exact ih _ x hx
        · simp at hx; omega
  intro x hx
  unfold oidGroupsC at hx
  rcases List.mem_append.1 hx with hx | hx
  · exact this _ _ x hx
  · simp at hx; omega
theorem nums_groups {n : Int} (h : inU n) (rest : List Int) (hb : bytesOk (oidGroupsC n ++ rest) = true) : oidNumsC (oidGroupsC n ++ rest) = (n, true) :: oidNumsC rest := by
  have hp := gr_pos n
  rw [nums_step hb, if_neg (fun e => by rw [List.append_eq_nil_iff] at e; rw [e.1] at hp; simp at hp), groups_num h]
  simp only []
  rw [if_neg (by omega), int_nat, List.drop_left]
theorem nums_flat : ∀ (l : List Int) (rest : List Int), (∀ n ∈ l, inU n) → bytesOk (l.flatMap oidGroupsC ++ rest) = true → oidNumsC (l.flatMap oidGroupsC ++ rest) = l.map (fun n => (n, true)) ++ oidNumsC rest
  | [], rest, _, _ => rfl
  | n :: l, rest, h, hb => by
    rw [List.flatMap_cons, List.append_assoc] at hb ⊢
    rw [nums_groups (h n (by simp)) _ hb, nums_flat l rest (fun x hx => h x (by simp [hx])) (by have := bytesOk_drop hb (oidGroupsC n).length; rwa [List.drop_left] at this)]
    rfl
/-- an identifier's numbers as they stand in its bytes -/
def oflat : List Int → List Int
  | x :: y :: r => (40 * x + y) :: r
  | _ => []
theorem bytes_oflat {o : List Int} (h : oidFitC o = true) : oidBytesC o = (oflat o).flatMap oidGroupsC := by
  obtain ⟨x, y, r, rfl, _⟩ := fit_head h
  unfold oidBytesC
  rw [if_pos h]
  simp [oflat]
theorem oflat_rng {o : List Int} (h : oidFitC o = true) (hr : ∀ n ∈ o, inU n) : ∀ n ∈ oflat o, inU n := by
  obtain ⟨x, y, r, rfl, h1, h2, h3, h4⟩ := fit_head h
  intro n hn
  have := hr x (by simp)
  have := hr y (by simp)
  rcases List.mem_cons.1 hn with rfl | hn
  · exact ⟨by omega, by omega⟩
  · exact hr n (by simp [hn])
theorem oflat_len {o : List Int} (h : oidFitC o = true) : (oflat o).length + 1 = o.length := by
  obtain ⟨x, y, r, rfl, _⟩ := fit_head h; rfl
theorem oflat_inj {o p : List Int} (ho : oidFitC o = true) (hp : oidFitC p = true) (hro : ∀ n ∈ o, inU n) (hrp : ∀ n ∈ p, inU n) {t : List Int} (h : oflat p = oflat o ++ t) : p = o ++ t := by
  obtain ⟨x, y, r, rfl, h1, h2, h3, h4⟩ := fit_head ho
  obtain ⟨x', y', r', rfl, k1, k2, k3, k4⟩ := fit_head hp
  have a1 := hro x (by simp)
  have a2 := hro y (by simp)
  have b1 := hrp x' (by simp)
  have b2 := hrp y' (by simp)
  simp only [oflat, List.cons_append, List.cons.injEq] at h
  obtain ⟨e, rfl⟩ := h
  have : x' = x ∧ y' = y := by
    have c1 : x = 0 ∨ x = 1 ∨ x = 2 := by omega
    have c2 : x' = 0 ∨ x' = 1 ∨ x' = 2 := by omega
    rcases c1 with rfl | rfl | rfl <;> rcases c2 with rfl | rfl | rfl <;> omega
  rw [this.1, this.2]
  rfl
theorem bytes_ok {o : List Int} (hr : ∀ n ∈ o, inU n) : bytesOk (oidBytesC o) = true := by
  by_cases h : oidFitC o = true
  · rw [bytes_oflat h]
    have hl := oflat_len h
    have hf := fit_len h
    have hg : ∀ (l : List Int), (l.flatMap oidGroupsC).length ≤ 6 * l.length := fun l => by
      induction l with
      | nil => simp
      | cons a l ih => have := gr_len a; simp at *; omega
    have := hg (oflat o)
    refine bytesOk_of (by omega) fun x hx => ?_
    obtain ⟨n, hn, hx⟩ := List.mem_flatMap.1 hx
    exact gr_byte (oflat_rng h hr n hn) x hx
  · unfold oidBytesC
    rw [if_neg h]
    exact bytesOk_of (by simp) (by simp)
theorem go_true : ∀ (l o : List Int), o ≠ [] → o.length + l.length ≤ 21 → oidGo (l.map fun n => (n, true)) o = some (o ++ l)
  | [], o, _, _ => by simp [oidGo]
  | n :: l, o, h, hl => by
    rw [List.map_cons]
    unfold oidGo
    simp only [List.length_cons] at hl
    rw [if_neg (by rintro (h | h); cases h; omega), if_neg h, go_true l (o ++ [n]) (by simp) (by simp; omega)]
    simp
theorem first_oflat {x y : Int} (h : oidFitC [x, y] = true) (hx : inU x) (hy : inU y) : oidFirstC (40 * x + y) = [x, y] := by
  simp only [oidFitC, Bool.and_eq_true, Bool.or_eq_true, decide_eq_true_eq] at h
  unfold oidFirstC
  rcases h.2 with h | h
  · rw [if_pos (by omega), show (40 * x + y) / 40 = x by omega, show (40 * x + y) % 40 = y by omega]
  · rw [if_neg (by omega), h.1, show 40 * 2 + y - 80 = y by omega]
theorem parse_bytes {o : List Int} (h : oidFitC o = true) (hr : ∀ n ∈ o, inU n) : oidParseC (oidBytesC o) = (o, 0) := by
  have hok := bytes_ok hr
  have hfl := fit_len h
  rw [bytes_oflat h] at hok ⊢
  have e := nums_flat (oflat o) [] (oflat_rng h hr) (by rwa [List.append_nil])
  rw [List.append_nil] at e
  unfold oidParseC
  rw [e, show oidNumsC [] = [] from rfl, List.append_nil]
  obtain ⟨x, y, r, rfl, h1, h2, h3, h4⟩ := fit_head h
  have hf2 : oidFitC [x, y] = true := by
    simp only [oidFitC, Bool.and_eq_true] at h ⊢
    exact ⟨by simp, h.2⟩
  have : oidGo ((oflat (x :: y :: r)).map fun n => (n, true)) [] = some (x :: y :: r) := by
    show oidGo ((40 * x + y, true) :: r.map fun n => (n, true)) [] = _
    unfold oidGo
    rw [if_neg (by simp), if_pos rfl, first_oflat hf2 (hr x (by simp)) (hr y (by simp)), go_true r [x, y] (by simp) (by simp at *; omega)]
    rfl
  rw [this]
  simp only []
  rw [if_pos h]
theorem gHi_more : ∀ (f : Nat) (n : Int), 0 ≤ n → n < 128 ^ f → gHi f n = gHi (f + 1) n
  | 0, n, h0, h => by
    rw [Int.pow_zero] at h
    have : n = 0 := by omega
    subst this
    rw [gHi_0, gHi_0]
  | f + 1, n, h0, h => by
    by_cases hn : n = 0
    · subst hn; rw [gHi_0, gHi_0]
    · rw [gHi_s _ hn, gHi_s _ hn, gHi_more f (n / 128) (by omega) (by rw [Int.pow_succ] at h; generalize (128 : Int) ^ f = X at *; omega)]
theorem num_groups : ∀ (b : List Int) (acc i n k : Int), (∀ x ∈ b, 0 ≤ x ∧ x ≤ 255) → 0 ≤ acc → 0 ≤ i → (i = 0 → acc = 0) → (0 < i → 0 < acc) → oidNumG acc i b = (n, k) → k ≠ 0 → gHi 5 acc ++ b.take (k - i).toNat = oidGroupsC n
  | [], acc, i, n, k, _, _, _, _, _, h, hk => by simp [oidNumG] at h; omega
  | c :: b, acc, i, n, k, hb, h0, hi, h1, h2, h, hk => by
    have hc := hb c (by simp)
    rw [numG_cons] at h
    split at h
    · simp at h; omega
    · rename_i hn
      simp only [not_or, not_and] at hn
      split at h
      · simp only [Prod.mk.injEq] at h
        obtain ⟨rfl, rfl⟩ := h
        unfold oidGroupsC
        rw [show (i + 1 - i).toNat = 1 by omega, show (acc * 128 + c) / 128 = acc by omega, show (acc * 128 + c) % 128 = c by omega]
        rfl
      · have hrng := numG_rng b (acc * 128 + (c - 128)) (i + 1) (fun x hx => hb x (by simp [hx])) (by omega) (by omega)
        rw [h] at hrng
        have hk2 := hrng.2.resolve_left hk
        simp only at hk2
        have hpos : 0 < acc * 128 + (c - 128) := by
          by_cases hi0 : i = 0
          · have := hn.1 hi0; omega
          · have := h2 (by omega); omega
        have := num_groups b (acc * 128 + (c - 128)) (i + 1) n k (fun x hx => hb x (by simp [hx])) (by omega) (by omega) (by omega) (by omega) h hk
        rw [gHi_s 4 (by omega), show (acc * 128 + (c - 128)) / 128 = acc by omega, show 128 + (acc * 128 + (c - 128)) % 128 = c by omega, gHi_more 4 acc h0 (by omega)] at this
        rw [← this, show (k - i).toNat = (k - (i + 1)).toNat + 1 by omega, List.take_succ_cons]
        simp
theorem nums_back : ∀ (f : Nat) (b : List Int), bytesOk b = true → b.length ≤ f → (∀ p ∈ oidNumsF f b, p.2 = true) → b = (oidNumsF f b).flatMap fun p => oidGroupsC p.1
  | 0, b, _, h, _ => by
    have : b = [] := List.eq_nil_of_length_eq_zero (by omega)
    subst this; rfl
  | f + 1, b, hb, hl, hall => by
    unfold oidNumsF at hall ⊢
    by_cases he : b = []
    · subst he; rfl
    · rw [if_neg he] at hall ⊢
      by_cases h0 : (oidNumberC b).2 = 0
      · rw [if_pos h0] at hall
        have := hall ((oidNumberC b).1, false) (by simp)
        cases this
      · rw [if_neg h0] at hall ⊢
        have hr := (number_rng hb).2.resolve_left h0
        have hg := num_groups b 0 0 (oidNumberC b).1 (oidNumberC b).2 (bytesOk_spec hb).2 (by omega) (by omega) (fun _ => rfl) (by omega) rfl h0
        rw [gHi_0, List.nil_append, Int.sub_zero] at hg
        rw [List.flatMap_cons, ← hg, ← nums_back f (b.drop (oidNumberC b).2.toNat) (bytesOk_drop hb _) (by simp only [List.length_drop]; omega) (fun p hp => hall p (by simp [hp]))]
        exact (List.take_append_drop _ _).symm
theorem go_all : ∀ (l : List (Int × Bool)) (o o' : List Int), oidGo l o = some o' → o ≠ [] → (∀ p ∈ l, p.2 = true) ∧ o' = o ++ l.map (·.1)
  | [], o, o', h, _ => by simp [oidGo] at h; subst h; simp
  | (n, ok) :: l, o, o', h, ho => by
    unfold oidGo at h
    rw [if_neg ho] at h
    split at h
    · cases h
    · rename_i hn
      simp only [not_or] at hn
      obtain ⟨h1, h2⟩ := go_all l _ o' h (by simp)
      refine ⟨fun p hp => ?_, by rw [h2]; simp⟩
      rcases List.mem_cons.1 hp with rfl | hp
      · simpa using hn.1
      · exact h1 p hp
/-- what is read of bytes: its bytes are these -/
theorem bytes_parse {b : List Int} (hb : bytesOk b = true) : (oidParseC b = ([], 5)) ∨ ∃ o, oidParseC b = (o, 0) ∧ oidFitC o = true ∧ (∀ n ∈ o, inU n) ∧ oidBytesC o = b := by
  unfold oidParseC
  cases hg : oidGo (oidNumsC b) [] with
  | none => exact .inl rfl
  | some o =>
    simp only []
    by_cases hf : oidFitC o = true
    · rw [if_pos hf]
      refine .inr ⟨o, rfl, hf, ?_⟩
      have hback := nums_back b.length b hb (Nat.le_refl _)
      have hrng := nums_rng b.length b hb
      change (∀ p ∈ oidNumsC b, p.2 = true) → b = (oidNumsC b).flatMap _ at hback
      change ∀ p ∈ oidNumsC b, _ at hrng
      cases hl : oidNumsC b with
      | nil =>
        rw [hl] at hg
        simp [oidGo] at hg
        subst hg
        simp [oidFitC] at hf
      | cons p l =>
        obtain ⟨n, ok⟩ := p
        rw [hl] at hg hback hrng
        unfold oidGo at hg
        split at hg
        · cases hg
        · rename_i hn
          rw [if_pos rfl] at hg
          have hne : oidFirstC n ≠ [] := by unfold oidFirstC; split <;> simp
          obtain ⟨h1, rfl⟩ := go_all l _ o hg hne
          have hbk := hback (fun p hp => by
            rcases List.mem_cons.1 hp with rfl | hp
            · simpa using (not_or.1 hn).1
            · exact h1 p hp)
          have hn2 := hrng (n, ok) (by simp)
          simp only at hn2
          have hfl : oflat (oidFirstC n ++ l.map (·.1)) = n :: l.map (·.1) := by
            unfold oidFirstC
            split
            · simp only [List.cons_append, List.nil_append, oflat, List.cons.injEq, and_true]; omega
            · simp only [List.cons_append, List.nil_append, oflat, List.cons.injEq, and_true]; omega
          have hin : ∀ m ∈ oidFirstC n ++ l.map (·.1), inU m := by
            intro m hm
            rcases List.mem_append.1 hm with hm | hm
            · unfold oidFirstC at hm
              split at hm
              · simp at hm; rcases hm with rfl | rfl <;> exact ⟨by omega, by omega⟩
              · simp at hm; rcases hm with rfl | rfl <;> exact ⟨by omega, by omega⟩
            · obtain ⟨q, hq, rfl⟩ := List.mem_map.1 hm
              exact hrng q (by simp [hq])
          refine ⟨hin, ?_⟩
          rw [bytes_oflat hf, hfl]
          conv => rhs; rw [hbk]
          simp [List.flatMap_map]
    · rw [if_neg hf]
      exact .inl rfl

/-! ### texts -/
theorem read_text {o : List Int} (h : oidFitC o = true) (hr : ∀ n ∈ o, inU n) : oidReadC (oidTextC o) = (o, 0) := by
  have hne : o.map digB ≠ [] := fun e => by have := fit_len h; have := congrArg List.length e; simp at this; subst this; simp at *
  unfold oidReadC oidTextC
  rw [if_pos h, show (⟨(Lib.join (o.map digB) [46]).toArray⟩ : ByteArray).data.toList = Lib.join (o.map digB) [46] by simp, pcs_join 46 _ hne (fun w hw => by obtain ⟨n, _, rfl⟩ := List.mem_map.1 hw; exact digB_dot n), canons_dig hr]
  simp only []
  rw [if_pos h]
theorem text_read (l : List UInt8) : oidReadC (mkB l) = ([], 1) ∨ ∃ o, oidReadC (mkB l) = (o, 0) ∧ oidFitC o = true ∧ (∀ n ∈ o, inU n) ∧ oidTextC o = mkB l := by
  unfold oidReadC
  rw [show (mkB l).data.toList = l by simp [mkB]]
  cases hc : canons (pcs 46 [] l) with
  | none => exact .inl rfl
  | some o =>
    obtain ⟨h1, h2⟩ := canons_spec hc
    simp only []
    by_cases hf : oidFitC o = true
    · rw [if_pos hf]
      refine .inr ⟨o, rfl, hf, h2, ?_⟩
      unfold oidTextC
      rw [if_pos hf, ← h1, join_pcs]
      rfl
    · rw [if_neg hf]
      exact .inl rfl
theorem text_len {o : List Int} (hr : ∀ n ∈ o, inU n) : (oidTextC o).size ≤ 1000000 := by
  unfold oidTextC
  split
  · rename_i h
    have hl := fit_len h
    show (mkB _).size ≤ _
    rw [mkB_size]
    have : ∀ (l : List Int), (∀ n ∈ l, inU n) → (Lib.joinTail [46] (l.map digB)).length ≤ 21 * l.length := fun l => by
      induction l with
      | nil => intro _; simp [Lib.joinTail]
      | cons a l ih =>
        intro h
        have := ih fun n hn => h n (by simp [hn])
        have := digB_len (n := a) (by have := h a (by simp); unfold inU at this; omega)
        rw [List.map_cons, tail_step]
        simp only [List.cons_append, List.length_cons, List.length_append]
        omega
    obtain ⟨x, y, r, rfl, _⟩ := fit_head h
    rw [List.map_cons, Lib.join_cons, List.length_append]
    have := this (y :: r) fun n hn => hr n (by simp [hn])
    have := digB_len (n := x) (by have := hr x (by simp); unfold inU at this; omega)
    have e1 : (x :: y :: r).length = r.length + 2 := rfl
    have e2 : (y :: r).length = r.length + 1 := rfl
    omega
  · exact Nat.zero_le _
end Go.Proofs.YtgkedgpgfmibhaaDoorA

namespace Go.Proofs.YtgkedgpgfmibhaaDoorA
open IntWalk (i64_in u8_in u32_in u64_in i64_quo u8_quo rem_in)

abbrev tO : Option Out := some (.ret [.cl (.bool true)] [])
theorem u32All_len {o : List Int} (h : u32All o = true) : o.length ≤ 1000000000000000 := by
  unfold u32All at h
  rw [shut_eq, Bool.and_eq_true] at h
  exact of_decide_eq_true h.1
theorem u32All_spec {o : List Int} (h : u32All o = true) : ∀ n ∈ o, inU n := by
  unfold u32All at h
  rw [shut_eq, Bool.and_eq_true, List.all_eq_true] at h
  exact fun n hn => of_decide_eq_true (h.2 n hn)
theorem bytesAll_ok {b : List Int} (h : bytesAll b = true) (hl : b.length ≤ 1000000) : bytesOk b = true := by
  unfold bytesAll at h
  rw [shut_eq, List.all_eq_true] at h
  exact bytesOk_of hl fun x hx => byteB_spec (h x hx)
theorem u32sOk_of {o : List Int} (h : ∀ n ∈ o, inU n) (hl : o.length ≤ 1000) : u32sOk o = true := by
  unfold u32sOk
  rw [shut_eq, Bool.and_eq_true]
  exact ⟨decide_eq_true hl, List.all_eq_true.2 fun x hx => decide_eq_true (h x hx)⟩
theorem same_refl (a : List Int) : listSame a a = true := by unfold listSame listSameC; rw [shut_eq]; exact decide_eq_true rfl
theorem same_iff (a b : List Int) : listSame a b = decide (a = b) := by unfold listSame listSameC; rw [shut_eq]
theorem str_refl (s : ByteArray) : (s.toList == s.toList) = true := beq_iff_eq.2 rfl
theorem parse_eq (b : List Int) : oidParse b = oidParseC b := shut_eq _
theorem obytes_eq (b : List Int) : oidBytes b = oidBytesC b := shut_eq _
theorem oread_eq (s : ByteArray) : oidRead s = oidReadC s := shut_eq _
theorem otext_eq (o : List Int) : oidText o = oidTextC o := shut_eq _
theorem ofit_eq (o : List Int) : oidFit o = oidFitC o := shut_eq _
theorem parse_small {b : List Int} (hb : bytesOk b = true) : (oidParse b).1.length ≤ 20 := by
  rw [parse_eq]
  rcases bytes_parse hb with e | ⟨o, e, hf, _⟩
  · rw [e]; simp
  · rw [e]; exact (fit_len hf).2
theorem bytes_small {o : List Int} (hr : ∀ n ∈ o, inU n) : bytesOk (oidBytes o) = true := by rw [obytes_eq]; exact bytes_ok hr
theorem read_small (s : ByteArray) : (oidRead s).1.length ≤ 20 ∧ ∀ n ∈ (oidRead s).1, inU n := by
  rw [oread_eq]
  obtain ⟨l, rfl⟩ : ∃ l, s = mkB l := ⟨_, (mkB_data s).symm⟩
  rcases text_read l with e | ⟨o, e, hf, hr, _⟩
  · rw [e]; simp
  · rw [e]; exact ⟨(fit_len hf).2, hr⟩
theorem nLTells (o b : List Int) (hp : (u32All o && bytesAll b) = true) : gLTells o b = tO := by
  simp only [Bool.and_eq_true] at hp
  have ho := u32All_spec hp.1
  unfold gLTells
  refine c_split (fun h => rfl) fun h1 => c_split (fun h => rfl) fun h2 => ?_
  have hb := bytesAll_ok hp.2 (by omega)
  have hu := u32sOk_of ho (by omega)
  have hs := bytes_small ho
  refine b_pos hb (b_pos hb (b_pos (by simp) (b_pos hu (b_pos hu (b_pos (lenOk_of (by have := (bytesOk_spec hs).1; omega)) (b_pos (same_refl _) (b_pos (lenOk_of (by have := parse_small hb; omega)) (b_pos (same_refl _) (c_pos rfl rfl)))))))))
theorem sum_wrap {o p : List Int} (h : u32All o = true) (h' : u32All p = true) : IntKind.i64.wrap (((o.length : Nat) : Int) + ((p.length : Nat) : Int)) = ((o.length : Nat) : Int) + ((p.length : Nat) : Int) := by
  have := u32All_len h
  have := u32All_len h'
  exact i64_in _ (by omega)
theorem nLTexts (o p : List Int) (s : ByteArray) (hp : (u32All o && u32All p) = true) : gLTexts o p s = tO := by
  simp only [Bool.and_eq_true] at hp
  have ho := u32All_spec hp.1
  unfold gLTexts
  dsimp only
  rw [sum_wrap hp.1 hp.2]
  refine c_split (fun h => rfl) fun h1 => c_split (fun h => rfl) fun h2 => ?_
  have hs : sizeOk s = true := sizeOk_of (by omega)
  have hu := u32sOk_of ho (by omega)
  have hl : lenOk o = true := lenOk_of (by omega)
  exact b_pos hs (b_pos hs (b_pos hu (b_pos hu (b_pos (str_refl _) (b_pos (lenOk_of (by have := read_small s; omega)) (b_pos (same_refl _) (c_pos rfl (b_pos hl (b_pos hl (b_pos (by simp) (b_pos hl (b_pos (same_refl _) rfl))))))))))))
theorem nLUnlike (o p : List Int) (hp : (u32All o && u32All p) = true) : gLUnlike o p = tO := by
  simp only [Bool.and_eq_true] at hp
  have ho := u32All_spec hp.1
  have hpp := u32All_spec hp.2
  unfold gLUnlike
  dsimp only
  rw [sum_wrap hp.1 hp.2]
  refine c_split (fun h => rfl) fun h1 => b_split (fun h => rfl) fun hfo => b_split (fun h => rfl) fun hfp => ?_
  rw [ofit_eq] at hfo hfp
  have hfo : oidFitC o = true := by simpa using hfo
  have hfp : oidFitC p = true := by simpa using hfp
  have hbo := bytes_small ho
  have hbp := bytes_small hpp
  have hlo : lenOk (oidBytes o) = true := lenOk_of (by have := (bytesOk_spec hbo).1; omega)
  have hl : lenOk o = true := lenOk_of (by omega)
  have pre : ∀ t, oidBytesC p = oidBytesC o ++ t → ∃ u, p = o ++ u := fun t ht => by
    have hok := bytes_ok hpp
    rw [ht, bytes_oflat hfo] at hok
    have e1 := nums_flat (oflat o) t (oflat_rng hfo ho) hok
    have hok2 := bytes_ok hpp
    rw [bytes_oflat hfp] at hok2
    have e2 := nums_flat (oflat p) [] (oflat_rng hfp hpp) (by rwa [List.append_nil])
    rw [List.append_nil, ← bytes_oflat hfp, ht, bytes_oflat hfo, e1, show oidNumsC [] = [] from rfl, List.append_nil] at e2
    have e3 := congrArg (List.map (·.1)) e2
    simp only [List.map_append, List.map_map, Function.comp_def, List.map_id'] at e3
    exact ⟨_, oflat_inj hfo hfp ho hpp e3.symm⟩
  refine b_pos (u32sOk_of ho (by omega)) (b_pos (u32sOk_of hpp (by omega)) (b_pos hlo (b_pos hl ?_)))
  rw [same_iff, same_iff, obytes_eq, obytes_eq]
  have key : decide (oidBytesC o = oidBytesC p) = decide (o = p) := by
    rw [Bool.eq_iff_iff, decide_eq_true_eq, decide_eq_true_eq]
    constructor
    · intro e
      have h1 := parse_bytes hfo ho
      rw [e, parse_bytes hfp hpp] at h1
      exact (Prod.mk.inj h1).1.symm
    · rintro rfl; rfl
  rw [key]
  refine b_neg (by simp) (c_split (fun h2 => c_pos (by omega) (c_pos h2 (b_pos (by rw [← obytes_eq]; exact hlo) ?_))) fun _ => rfl)
  rw [same_iff, int_nat]
  refine c_split (fun h3 => ?_) fun _ => rfl
  obtain ⟨u, rfl⟩ := pre ((oidBytesC p).drop (oidBytesC o).length) (by
    conv => lhs; rw [← List.take_append_drop (oidBytesC o).length (oidBytesC p)]
    rw [← h3])
  have hle : ((o.length : Nat) : Int) ≤ (((o ++ u).length : Nat) : Int) := by simp only [List.length_append]; omega
  refine c_pos hle (c_pos (by omega) (c_pos hle (b_pos hl ?_)))
  rw [same_iff, int_nat, List.take_left]
  exact c_pos rfl rfl
theorem nLBack (o b : List Int) (s : ByteArray) (hp : (u32All o && bytesAll b) = true) : gLBack o b s = tO := by
  simp only [Bool.and_eq_true] at hp
  have ho := u32All_spec hp.1
  unfold gLBack
  refine c_split (fun h => rfl) fun h1 => c_split (fun h => rfl) fun h2 => c_split (fun h => rfl) fun h3 => ?_
  have hb := bytesAll_ok hp.2 (by omega)
  have hs : sizeOk s = true := sizeOk_of (by omega)
  have hu := u32sOk_of ho (by omega)
  have rest2 : cond (sizeOk s) (
      let r17 : List Int := (oidRead s).1
      let r18 : Int := (oidRead s).2
      cond (!decide (r18 = 0)) tO (cond (u32sOk r17) (let r20 : ByteArray := oidText r17; cond ((r20.toList == s.toList)) tO (some (.ret [.cl (.bool false)] []))) none)) none = tO := by
    refine b_pos hs ?_
    dsimp only
    rw [oread_eq]
    obtain ⟨l, rfl⟩ : ∃ l, s = mkB l := ⟨_, (mkB_data s).symm⟩
    rcases text_read l with e | ⟨q, e, hf, hr, ht⟩
    · rw [e]; rfl
    · rw [e]
      refine c_nneg rfl (b_pos (u32sOk_of hr (Nat.le_trans (fit_len hf).2 (by omega))) (b_pos ?_ rfl))
      rw [otext_eq, ht]
      exact str_refl _
  have rest : cond (bytesOk b) (
      let r13 : List Int := (oidParse b).1
      let r14 : Int := (oidParse b).2
      cond (decide (r14 = 0)) (cond (u32sOk r13) (
        let r15 : List Int := oidBytes r13
        cond (lenOk r15) (
        let r16 : Bool := listSame r15 b
        cond (!r16) (some (.ret [.cl (.bool false)] [])) (cond (sizeOk s) (
      let r17 : List Int := (oidRead s).1
      let r18 : Int := (oidRead s).2
      cond (!decide (r18 = 0)) tO (cond (u32sOk r17) (let r20 : ByteArray := oidText r17; cond ((r20.toList == s.toList)) tO (some (.ret [.cl (.bool false)] []))) none)) none)) none) none)
      (cond (sizeOk s) (
      let r17 : List Int := (oidRead s).1
      let r18 : Int := (oidRead s).2
      cond (!decide (r18 = 0)) tO (cond (u32sOk r17) (let r20 : ByteArray := oidText r17; cond ((r20.toList == s.toList)) tO (some (.ret [.cl (.bool false)] []))) none)) none)) none = tO := by
    refine b_pos hb ?_
    dsimp only
    rw [parse_eq]
    rcases bytes_parse hb with e | ⟨q, e, hf, hr, ht⟩
    · rw [e]; exact c_neg (by decide) rest2
    · rw [e]
      refine c_pos rfl (b_pos (u32sOk_of hr (Nat.le_trans (fit_len hf).2 (by omega))) (b_pos (lenOk_of (Nat.le_trans (bytesOk_spec (bytes_small hr)).1 (by omega))) ?_))
      simp only []
      rw [obytes_eq, ht, same_refl]
      exact rest2
  refine b_split (fun hf => ?_) fun _ => rest
  rw [ofit_eq] at hf
  have hbo := bytes_small ho
  have eb : oidParse (oidBytes o) = (o, 0) := by rw [parse_eq, obytes_eq, parse_bytes hf ho]
  have et : oidRead (oidText o) = (o, 0) := by rw [oread_eq, otext_eq, read_text hf ho]
  have hl : lenOk o = true := lenOk_of (by omega)
  refine b_pos hu (b_pos hbo (b_pos hu (b_pos (sizeOk_of (by rw [otext_eq]; exact text_len ho)) ?_)))
  dsimp only
  rw [eb, et]
  refine c_nneg rfl (c_nneg rfl (b_pos hl (b_neg (by rw [same_refl]; rfl) (b_pos hl (b_neg (by rw [same_refl]; rfl) rest)))))
theorem nLAwake (hp : true = true) : gLAwake = tO := by
  have b1 : bytesOk [128, 1] = true := bytesOk_of (by simp) (by decide)
  have p1 : (oidParse [128, 1]).2 = 5 := by rw [parse_eq]; rfl
  have r1 : (oidRead (⟨#[49, 46, 52, 48]⟩ : ByteArray)).2 = 1 := by
    rw [oread_eq]
    unfold oidReadC
    cases hc : canons (pcs 46 [] (⟨#[49, 46, 52, 48]⟩ : ByteArray).data.toList) with
    | none => rfl
    | some o =>
      obtain ⟨h1, h2⟩ := canons_spec hc
      have hpc : pcs 46 [] (⟨#[49, 46, 52, 48]⟩ : ByteArray).data.toList = [[49], [52, 48]] := by decide
      rw [hpc] at h1
      have hlen := congrArg List.length h1
      match o, hlen, h1, h2 with
      | [a, b], _, h1, h2 =>
        simp only [List.map_cons, List.map_nil, List.cons.injEq, and_true] at h1
        have hb2 := h2 b (by simp)
        have e := decGo_dig (b.toNat + 1) b hb2.1 (by omega)
        rw [← h1.2] at e
        have e40 : decGo 0 [52, 48] = some 40 := by decide
        have hb40 : b = 40 := Option.some.inj (e.symm.trans e40)
        have ha2 := h2 a (by simp)
        have ea := decGo_dig (a.toNat + 1) a ha2.1 (by omega)
        rw [← h1.1] at ea
        have e1 : decGo 0 [49] = some 1 := by decide
        have ha1 : a = 1 := Option.some.inj (ea.symm.trans e1)
        subst hb40 ha1
        rfl
  have by1 : oidBytes [1, 2, 840] = [42, 134, 72] := by
    rw [obytes_eq]
    rfl
  unfold gLAwake
  refine b_pos b1 (b_pos (sizeOk_of (by decide)) (b_pos (u32sOk_of (by decide) (by decide)) ?_))
  dsimp only
  rw [p1, r1, by1]
  exact b_pos (lenOk_of (by simp)) (b_pos (same_refl _) rfl)
end Go.Proofs.YtgkedgpgfmibhaaDoorA
