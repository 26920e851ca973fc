/-
 The der layer: the reader's values and parts; parsing; are two the same. Conditions: each function's own.
-/
import Derived.Test.YtbgkadaidhgggaaDoorT3a
import Derived.Test.YtbgkadaidhgggaaDoorT2e
import Derived.Test.YtbgkadaidhgggaaDoorK3
import Derived.IntWalk
import Derived.Test.YtbgkadaidhgggaaDoorT2a
set_option linter.unusedVariables false
set_option linter.unusedSimpArgs false
namespace Go.Proofs.YtbgkadaidhgggaaDoorA
open IntWalk (i64_in u8_in u32_in u64_in i64_quo u8_quo rem_in)

noncomputable def valTree (p : Int × Nd) (l : List Int) (d : Int) : Tree := .ite (!(decide (p.1 = 0))) (.leaf (.pan (.iface 47 (.agg [.int .i64 p.1])) [some ⟨.var [.cl (.sli .u8 l), .cl (.int .i64 d)], false⟩])) (.leaf (.ret [.cl (.agg [.int .i64 p.2.1, .sli .u8 p.2.2.1, .slg 3 p.2.2.2])] [some ⟨.var [.cl (.sli .u8 l), .cl (.int .i64 d)], false⟩]))

theorem rest_cons (t : Int) (r : List Int) {d : Int} (h : 0 < d) : qh8 (t :: r) d = if qa9 t = false then r
   else if (qab r).2 = 0 then qir r
   else if (r.length : Int) - (qab r).2 < (qab r).1 then r.drop (qab r).2.toNat
   else r.drop ((qab r).2 + (qab r).1).toNat := by
 unfold qh8; rw [if_neg (by omega)]

theorem nDValue' (rk : Nat) (l : List Int) (d : Int) (hb : qac l = true) (hd : 0 <= d /\ d <= 1000) (hk : d.toNat < rk + 1) : gDValue rk l d = (valTree ((qax d.toNat l).1, (qax d.toNat l).2.1) (qh8 l d) d).eval := by
 unfold gDValue
 refine qaf (fun h => qba hb ?_) fun h => ?_
 ·obtain ⟨n, hn⟩ : ∃ n, d.toNat = n + 1 := ⟨d.toNat - 1, by omega⟩
  rw [hn]
  match l, hb with
  | [], _ =>
   show _ = (valTree (1, nd0) (qh8 [] d) d).eval
   have : qh8 [] d = [] := by unfold qh8; rw [if_neg (by omega)]
   rw [this]; rfl
  | t :: r, hb =>
   have ht := qa0 hb (i := 0) (x := t) rfl
   have hl := (qap hb).1
   have hbt := qbn hb
   simp only [List.tail_cons] at hbt
   simp only [List.length_cons] at hl
   have hr := len_rng hbt
   rw [qct, rest_cons t r h]
   unfold parse1
   simp only [qcv, qbe, qc4, qpm, qfd, qdj, qae, List.isEmpty_cons, cond_false, List.headD_cons, List.tail_cons, Bool.not_not]
   refine qce (fun h1 => qba hbt ?_) fun h1 => ?_
   ·have hkn : ¬qa9 t = false := by simp [h1]
    rw [if_neg hkn, if_neg hkn]
    refine qaf (fun h5 => ?_) fun h5 => ?_
    ·rw [if_pos (.inl h5), if_pos h5]; rfl
    rw [if_neg h5]
    have hdl : ((r.drop (qab r).2.toNat).length : Int) = r.length - (qab r).2 := by simp only [List.length_drop]; omega
    refine qaf (fun h6 => ?_) fun h6 => ?_
    ·rw [if_neg (show ¬((qab r).2 = 0 \/ (r.length : Int) - (qab r).2 < (qab r).1) by omega), if_neg (show ¬((r.length : Int) - (qab r).2 < (qab r).1) by omega)]
     refine qau (by omega) (qau h6 (qau (by omega) (qau h6 ?_)))
     have hin : qac ((r.drop (qab r).2.toNat).take (qab r).1.toNat) = true := qdq (qa5 hbt _) _
     have hil : ((r.drop (qab r).2.toNat).take (qab r).1.toNat).length <= 1000000 := (qap hin).1
     rw [show List.drop (qab r).1.toNat (List.drop (qab r).2.toNat r) = r.drop ((qab r).2 + (qab r).1).toNat by rw [List.drop_drop, show (qab r).2.toNat + (qab r).1.toNat = ((qab r).2 + (qab r).1).toNat by omega]]
     generalize hI : (r.drop (qab r).2.toNat).take (qab r).1.toNat = I at *
     refine qce (fun h7 => qba ?_ ?_) fun h7 => qba hin ?_
     ·simp only [Bool.and_eq_true, decide_eq_true_eq]
      exact ⟨hin, qfn hd, by omega, by omega⟩
     ·rw [if_neg (show ¬qa4 t = false by simp [h7])]
      unfold qa6
      rw [qae, show (d - 1).toNat = n by omega]
      generalize qbq (qax n) I.length I = p
      obtain ⟨p1, p2, p3⟩ := p
      simp only []
      by_cases hz : p1 = 0
      ·subst hz
       rw [if_pos rfl, if_pos rfl]
       by_cases h8 : t = 49 /\ qa1 p3 = false
       ·rw [if_pos h8, if_pos h8]; rfl
       ·rw [if_neg h8, if_neg h8]; rfl
      ·rw [if_neg hz, if_neg hz]; rfl
     ·rw [if_pos h7]
      refine qce (fun h8 => qba (qlw (by omega)) ?_) fun h8 => ?_
      ·rw [if_pos h8]; rfl
      ·rw [if_neg (show ¬_ = true by simp [h8])]; rfl
    ·rw [if_pos (show (qab r).2 = 0 \/ (r.length : Int) - (qab r).2 < (qab r).1 by omega), if_pos (show (r.length : Int) - (qab r).2 < (qab r).1 by omega)]; rfl
   ·rw [if_pos h1, if_pos h1]; rfl
 ·have e : d.toNat = 0 := by omega
  have : qh8 l d = l := by unfold qh8; rw [if_pos (by omega)]
  rw [this, e]; rfl
theorem nDValue (rk : Nat) (l : List Int) (d : Int) (hp : (qac l && (qb9 d && decide (d.toNat < rk + 1))) = true) : gDValue rk l d = (Tree.ite (!(decide ((qk9 l d).1 = 0))) (.leaf (.pan (.iface 47 (.agg [.int .i64 ((qk9 l d).1)])) [some ⟨.var [.cl (.sli .u8 ((qk9 l d).2.2)), .cl (.int .i64 d)], false⟩])) (.leaf (.ret [.cl (.agg [.int .i64 ((qk9 l d).2.1.1), .sli .u8 ((qk9 l d).2.1.2.1), .slg 3 ((qk9 l d).2.1.2.2)])] [some ⟨.var [.cl (.sli .u8 ((qk9 l d).2.2)), .cl (.int .i64 d)], false⟩]))).eval := by
 simp only [Bool.and_eq_true, decide_eq_true_eq] at hp
 rw [nDValue' rk l d hp.1 (qgb hp.2.1) hp.2.2]
 unfold qk9
 rw [qae]
 rfl

theorem rdVal_1 (b : List Int) (d : Int) : (qk9 b d).1 = (qax d.toNat b).1 := by unfold qk9; rw [qae]
theorem rdVal_2 (b : List Int) (d : Int) : (qk9 b d).2.1 = (qax d.toNat b).2.1 := by unfold qk9; rw [qae]
theorem rdVal_3 (b : List Int) (d : Int) : (qk9 b d).2.2 = qh8 b d := by unfold qk9; rw [qae]

theorem parts_lp (rk : Nat) (F0 : Int -> Option Out) (F1 : List CV -> List CV -> Option Out) (l : List Int) (d tag : Int) (v9 : Int) (h1 : 0 <= v9) (h2 : v9 <= 1000) (h3 : v9.toNat < rk) (k0 : Int -> List Int -> Int -> Option Out) (k1 : Int -> Nat -> List Int -> Int -> List Int -> Int -> Int -> Nat -> List CV -> List Int -> Int -> List CV -> Option Out)
  (hk0 : ∀ e, k0 e l d = F0 e) (hk1 : ∀ a b c e rows f g kids, k1 tag a b c l d tag e rows f g kids = F1 rows kids) : ∀ (f m : Nat) (b : List Int) (rows kids : List CV), qac b = true -> b.length <= m -> b.length < f -> rows.length + b.length <= 1000000 -> kids.length + b.length <= 1000000 ->
  qe6 rk k0 k1 f tag rows.length l d tag kids.length rows b v9 kids
   = if (qbq (qax v9.toNat) m b).1 = 0 then F1 (rows ++ (qbq (qax v9.toNat) m b).2.2.map (CV.sli .u8)) (kids ++ (qbq (qax v9.toNat) m b).2.1.map ndCV) else F0 (qbq (qax v9.toNat) m b).1
 | 0, m, b, rows, kids, hb, hm, hf, hr, hk => by omega
 | f + 1, m, b, rows, kids, hb, hm, hf, hr, hk => by
  show qj0 rk (qe6 rk k0 k1 f) k0 k1 tag rows.length l d tag kids.length rows b v9 kids = _
  unfold qj0
  refine qaf (fun h => ?_) fun h => ?_
  ·have hne : b ≠ [] := by intro e; subst e; simp at h
   refine qba ?_ ?_
   ·simp only [Bool.and_eq_true, decide_eq_true_eq]
    exact ⟨hb, qfn (by omega), h3⟩
   ·obtain ⟨m, rfl⟩ : ∃ k, m = k + 1 := ⟨m - 1, by omega⟩
    simp only [rdVal_1, rdVal_2, rdVal_3]
    by_cases hz : (qax v9.toNat b).1 = 0
    ·have hu := qd4 hb hz
     rw [qoo hne hz]
     refine c_nneg hz ?_
     rw [rest_used hb hz]
     rw [show IntKind.i64.wrap (((b.length : Nat) : Int) - (((b.drop (qax v9.toNat b).2.2.toNat).length : Nat) : Int)) = (qax v9.toNat b).2.2 from (i64_in _ (by have := (qap hb).1; simp only [List.length_drop]; omega)).trans (by simp only [List.length_drop]; omega)]
     refine qau (by simp only [List.length_append, List.length_singleton]; unfold LIM; omega) (qau (by simp only [List.length_append, List.length_singleton]; unfold LIM; omega) (qau (by omega) (qau hu.2 ?_)))
     refine qau (by simp only [List.length_append, List.length_singleton]; unfold LIM; omega) (qau (by simp only [List.length_append, List.length_singleton]; unfold LIM; omega) ?_)
     refine (parts_lp rk F0 F1 l d tag v9 h1 h2 h3 k0 k1 hk0 hk1 f m _ _ _ (qa5 hb _) (by simp only [List.length_drop]; omega) (by simp only [List.length_drop]; omega) (by simp only [List.length_drop, List.length_append, List.length_singleton]; omega) (by simp only [List.length_drop, List.length_append, List.length_singleton]; omega)).trans ?_
     simp only [List.append_assoc, List.singleton_append, List.map_cons]
     rfl
    ·rw [parts_no hne hz]
     refine c_npos hz ?_
     rw [if_neg hz, hk0]
  ·have e : b = [] := List.eq_nil_of_length_eq_zero (by omega)
   subst e
   rw [qg2, hk1]
   simp

theorem nDParts (rk : Nat) (tag : Int) (b : List Int) (l : List Int) (d : Int) (hp : (qac b && (qb9 d && decide (0 < d /\ d.toNat < rk + 1))) = true) : gDParts rk tag b l d = (Tree.ite (!(decide ((qa6 tag b d).1 = 0))) (.leaf (.pan (.iface 47 (.agg [.int .i64 ((qa6 tag b d).1)])) [some ⟨.var [.cl (.sli .u8 l), .cl (.int .i64 d)], false⟩])) (.leaf (.ret [.cl (.agg [.int .i64 ((qa6 tag b d).2.1), .sli .u8 ((qa6 tag b d).2.2.1), .slg 3 ((qa6 tag b d).2.2.2)])] [some ⟨.var [.cl (.sli .u8 l), .cl (.int .i64 d)], false⟩]))).eval := by
 simp only [Bool.and_eq_true, decide_eq_true_eq] at hp
 obtain ⟨hb, hd, h0, hk⟩ := hp
 have hd := qgb hd
 have hlen := (qap hb).1
 unfold gDParts
 simp only [qae]
 rw [show IntKind.i64.wrap (d - 1) = d - 1 from i64_in _ (by omega)]
 refine (parts_lp rk (fun e => some (.pan (.iface 47 (.agg [.int .i64 e])) [some ⟨.var [.cl (.sli .u8 l), .cl (.int .i64 d)], false⟩]))
  (fun rows kids => cond (!decide (tag = 49)) (some (.ret [.cl (.agg [.int .i64 tag, .sli .u8 [], .slg 3 kids])] [some ⟨.var [.cl (.sli .u8 l), .cl (.int .i64 d)], false⟩])) (cond (qf0 rows) (cond (qbg rows) (some (.ret [.cl (.agg [.int .i64 tag, .sli .u8 [], .slg 3 kids])] [some ⟨.var [.cl (.sli .u8 l), .cl (.int .i64 d)], false⟩])) (cond true (some (.pan (.iface 47 (.agg [.int .i64 6])) [some ⟨.var [.cl (.sli .u8 l), .cl (.int .i64 d)], false⟩])) (some (.ret [.cl (.agg [.int .i64 tag, .sli .u8 [], .slg 3 kids])] [some ⟨.var [.cl (.sli .u8 l), .cl (.int .i64 d)], false⟩])))) none))
  l d tag (d - 1) (by omega) (by omega) (by omega) _ _ (fun _ => rfl) (fun _ _ _ _ _ _ _ _ => rfl) FUEL b.length b [] [] hb (Nat.le_refl _) (by unfold FUEL; omega) (by simp; omega) (by simp; omega)).trans ?_
 unfold qa6
 rw [qae]
 have hpl := parts_len (f := qax (d - 1).toNat) (fun b hb h => qd4 hb h) b.length b hb
 generalize hP : qbq (qax (d - 1).toNat) b.length b = p at *
 obtain ⟨p1, p2, p3⟩ := p
 simp only [List.nil_append] at hpl ⊢
 by_cases hz : p1 = 0
 ·subst hz
  rw [if_pos rfl, qhp]
  refine qb8 (fun h8 => ?_) fun h8 => qba (rowsOk_map (by omega) hpl.2.2) (qce (fun h9 => ?_) fun h9 => ?_)
  ·simp [h8, Tree.eval]
  ·simp [h8, h9, Tree.eval]
  ·simp [h8, h9, Tree.eval]
 ·rw [if_neg hz]
  simp [hz, Tree.eval]

theorem nDParse (b : List Int) (hp : qac b = true) : gDParse b = some (.ret [.cl (.agg [.int .i64 ((qar b).1.1), .sli .u8 ((qar b).1.2.1), .slg 3 ((qar b).1.2.2)]), .cl (.int .i64 ((qar b).2))] []) := by
 have hl := (qap hp).1
 unfold gDParse
 simp only [rdVal_1, rdVal_2, rdVal_3]
 refine qfq (by omega) (qba ?_ ?_)
 ·simp only [Bool.and_eq_true]; exact ⟨hp, qfn (by omega)⟩
 unfold qar qhw
 rw [qae]
 show _ = some (Out.ret [.cl (.agg [.int .i64 (if (qax 32 b).1 = 0 then (if (qax 32 b).2.2 < b.length then (nd0, 7) else ((qax 32 b).2.1, 0)) else (nd0, (qax 32 b).1) : Nd × Int).1.1, .sli .u8 (if (qax 32 b).1 = 0 then (if (qax 32 b).2.2 < b.length then (nd0, 7) else ((qax 32 b).2.1, 0)) else (nd0, (qax 32 b).1) : Nd × Int).1.2.1, .slg 3 (if (qax 32 b).1 = 0 then (if (qax 32 b).2.2 < b.length then (nd0, 7) else ((qax 32 b).2.1, 0)) else (nd0, (qax 32 b).1) : Nd × Int).1.2.2]), .cl (.int .i64 (if (qax 32 b).1 = 0 then (if (qax 32 b).2.2 < b.length then (nd0, 7) else ((qax 32 b).2.1, 0)) else (nd0, (qax 32 b).1) : Nd × Int).2)] [])
 by_cases hz : (qax (32 : Int).toNat b).1 = 0
 ·have hu := qd4 hp hz
  rw [rest_used hp hz]
  have hz' : (qax 32 b).1 = 0 := hz
  rw [if_pos hz']
  refine c_nneg hz (qaf (fun h => ?_) fun h => ?_)
  ·rw [if_neg (by simp only [List.length_drop] at h; exact fun e => by have : (qax (32 : Int).toNat b).2.2 < b.length := e; omega)]; rfl
  ·rw [if_pos (by simp only [List.length_drop] at h; show (qax (32 : Int).toNat b).2.2 < b.length; omega)]; rfl
 ·have hz' : ¬(qax 32 b).1 = 0 := hz
  rw [if_neg hz']
  exact c_npos hz rfl
/-! ### are two the same? -/
theorem nd_inv : ∀ {n : Nat} {x : List CV}, isNf n x = true -> ∃ m t b l, n = m + 1 /\ x = [.int .i64 t, .sli .u8 b, .slg 3 l] /\ b.length <= 100000000 /\ l.length <= 100000000 /\ ∀ c ∈ l, ∃ y, c = .agg y /\ isNf m y = true
 | 0, x, h => by simp [isNf] at h
 | n + 1, x, h => by
  unfold isNf at h
  split at h
  ·exact absurd h Bool.false_ne_true
  ·rename_i n' t b l hn
   obtain rfl : n = n' := by omega
   simp only [Bool.and_eq_true, decide_eq_true_eq, List.all_eq_true] at h
   refine ⟨n, t, b, l, rfl, rfl, h.1, h.2.1, fun c hc => ?_⟩
   have := h.2.2 c hc
   split at this
   ·exact ⟨_, rfl, this⟩
   ·exact absurd this Bool.false_ne_true
  ·exact absurd h Bool.false_ne_true
theorem nd_mk {n : Nat} {t : Int} {b : List Int} {l : List CV} (h1 : b.length <= 100000000) (h2 : l.length <= 100000000) (h3 : ∀ c ∈ l, ∃ y, c = .agg y /\ isNf n y = true) : isNf (n + 1) [.int .i64 t, .sli .u8 b, .slg 3 l] = true := by
 show (decide (b.length <= 100000000) && (decide (l.length <= 100000000) && l.all fun c => match c with | .agg x => isNf n x | _ => false)) = true
 simp only [Bool.and_eq_true, decide_eq_true_eq, List.all_eq_true]
 refine ⟨h1, h2, fun c hc => ?_⟩
 obtain ⟨y, rfl, hy⟩ := h3 c hc
 exact hy
theorem qqm {n : Nat} {x : List CV} (h : isNr n x = true) : isNf n x = true := by unfold isNr at h; rwa [qae] at h
theorem isNr_of {n : Nat} {x : List CV} (h : isNf n x = true) : isNr n x = true := by unfold isNr; rwa [qae]
theorem isN_spec {x : List CV} (h : isN x = true) : ∃ n, isNf n x = true := by
 unfold isN at h; rw [qae] at h; exact @of_decide_eq_true _ (Classical.propDecidable _) h
theorem isN_of {n : Nat} {x : List CV} (h : isNf n x = true) : isN x = true := by
 unfold isN; rw [qae]; exact @decide_eq_true _ (Classical.propDecidable _) ⟨n, h⟩
theorem qc6 {a b : List CV} : qif a b = true ↔ a = b := by
 unfold qif; rw [qae]; exact @decide_eq_true_iff _ (Classical.propDecidable _)
theorem qgz {a b : List CV} : qif a b = false ↔ ¬a = b := by
 rw [<- Bool.not_eq_true, qc6]

theorem same_nd_lp (rk : Nat) (k0 : Int -> Int -> List CV -> Int -> List CV -> Int -> List CV -> Nat -> Int -> List Int -> List CV -> List CV -> Int -> List CV -> Nat -> Int -> List Int -> List CV -> Bool -> Int -> List Int -> List CV -> Int -> List Int -> List CV -> Option Out) (k1 : Int -> Int -> List CV -> Int -> Int -> List Int -> List CV -> Int -> List Int -> List CV -> Option Out)
  (R : Bool -> Option Out) (ta tb : Int) (ba bb : List Int) (ka kb : List CV) (hk0 : k0 = (fun _ _ _ _ _ _ _ _ _ _ _ _ _ _ _ _ _ _ _ _ _ _ _ _ _ => R false)) (hk1 : k1 = (fun _ _ _ _ _ _ _ _ _ _ => R true))
  (hl : ka.length = kb.length) (hka : ka.length <= 100000000) (h1 : ∀ c ∈ ka, ∃ y, c = .agg y /\ isNf rk y = true) (n : Nat) (h2 : ∀ c ∈ kb, ∃ y, c = .agg y /\ isNf n y = true) : ∀ (f i : Nat), i <= ka.length -> ka.length < f + i ->
  qhn rk k0 k1 f i ta ba ka tb bb kb = R (@decide (ka.drop i = kb.drop i) (Classical.propDecidable _))
 | 0, i, hi, hf => by omega
 | f + 1, i, hi, hf => by
  show qm7 rk (qhn rk k0 k1 f) k0 k1 i ta ba ka tb bb kb = _
  unfold qm7
  refine qaf (fun h => ?_) fun h => ?_
  ·obtain ⟨x, hx⟩ := qbj (b := ka) (i := i) (by omega)
   obtain ⟨y, hy⟩ := qbj (b := kb) (i := i) (by omega)
   obtain ⟨x', rfl, hx'⟩ := h1 x (List.mem_of_getElem? hx)
   obtain ⟨y', rfl, hy'⟩ := h2 y (List.mem_of_getElem? hy)
   refine qau (by omega) (qau h ?_)
   rw [show (i : Int).toNat = i from rfl, hx, Option.bind_some]
   obtain ⟨m, t, b, l, hm, hxe, _⟩ := nd_inv hx'
   obtain ⟨m', t', b', l', hm', hye, _⟩ := nd_inv hy'
   simp only [cell1, hxe, hye, List.headD_cons, List.tail_cons]
   refine qba rfl (qau (by omega) (qau (by omega) ?_))
   rw [hy, Option.bind_some]
   simp only [cell1, hxe, hye, List.headD_cons, List.tail_cons]
   refine qba rfl (qba ?_ ?_)
   ·simp only [Bool.and_eq_true]
    exact ⟨isNr_of (hxe ▸ hx'), isN_of (n := n) (hye ▸ hy')⟩
   have ed : (ka.drop i = kb.drop i) = (x' = y' /\ ka.drop (i + 1) = kb.drop (i + 1)) := by
    have ex : ka.drop i = .agg x' :: ka.drop (i + 1) := by
     obtain ⟨hlt, e⟩ := List.getElem?_eq_some_iff.1 hx
     rw [List.drop_eq_getElem_cons hlt, e]
    have ey : kb.drop i = .agg y' :: kb.drop (i + 1) := by
     obtain ⟨hlt, e⟩ := List.getElem?_eq_some_iff.1 hy
     rw [List.drop_eq_getElem_cons hlt, e]
    rw [ex, ey, List.cons.injEq, CV.agg.injEq]
   refine qce (fun h5 => ?_) fun h5 => ?_
   ·rw [hk0]
    have h5 : ¬x' = y' := by rw [hxe, hye]; exact qgz.1 (by simpa [cvInt, qee, cvSlg] using h5)
    show R false = _
    congr 1
    symm
    rw [@decide_eq_false_iff_not _ (Classical.propDecidable _), ed]
    exact fun e => h5 e.1
   ·have h5 : x' = y' := by rw [hxe, hye]; exact qc6.1 (by simpa [cvInt, qee, cvSlg] using h5)
    rw [show IntKind.i64.wrap ((i : Int) + 1) = ((i + 1 : Nat) : Int) from (i64_in _ (by omega)).trans (by omega)]
    refine (same_nd_lp rk k0 k1 R ta tb ba bb ka kb hk0 hk1 hl hka h1 n h2 f (i + 1) (by omega) (by omega)).trans ?_
    congr 1
    rw [Bool.eq_iff_iff, @decide_eq_true_iff _ (Classical.propDecidable _), @decide_eq_true_iff _ (Classical.propDecidable _), ed]
    exact ⟨fun e => ⟨h5, e⟩, fun e => e.2⟩
  ·rw [hk1]
   show R true = _
   congr 1
   symm
   rw [@decide_eq_true_iff _ (Classical.propDecidable _), List.drop_eq_nil_of_le (by omega), List.drop_eq_nil_of_le (by omega)]
theorem nRSame (rk : Nat) (ta : Int) (ba : List Int) (ka : List CV) (tb : Int) (bb : List Int) (kb : List CV) (hp : (isNr (rk + 1) [.int .i64 ta, .sli .u8 ba, .slg 3 ka] && isN [.int .i64 tb, .sli .u8 bb, .slg 3 kb]) = true) : gRSame rk ta ba ka tb bb kb = some (.ret [.cl (.bool (qif [.int .i64 ta, .sli .u8 ba, .slg 3 ka] [.int .i64 tb, .sli .u8 bb, .slg 3 kb]))] []) := by
 simp only [Bool.and_eq_true] at hp
 obtain ⟨m, t, b, l, hm, he, hb, hl, hc⟩ := nd_inv (qqm hp.1)
 obtain ⟨n, hn⟩ := isN_spec hp.2
 obtain ⟨m', t', b', l', hm', he', hb', hl', hc'⟩ := nd_inv hn
 simp only [List.cons.injEq, CV.int.injEq, CV.sli.injEq, CV.slg.injEq, true_and, and_true] at he he'
 obtain ⟨rfl, rfl, rfl⟩ := he
 obtain ⟨rfl, rfl, rfl⟩ := he'
 obtain rfl : m = rk := by omega
 have bad : ¬(ta = tb /\ ba = bb /\ ka = kb) -> false = qif [.int .i64 ta, .sli .u8 ba, .slg 3 ka] [.int .i64 tb, .sli .u8 bb, .slg 3 kb] := fun h => by
  symm
  rw [qgz]
  simp only [List.cons.injEq, CV.int.injEq, CV.sli.injEq, CV.slg.injEq, true_and, and_true]
  exact h
 unfold gRSame qb3 qhm
 simp only [qae]
 refine qb8 (fun h => qav (bad fun e => h e.1)) fun h => qba (qlw hb) (qb8 (fun h1 => qav (bad fun e => h1 e.2.1)) fun h1 => qb8 (fun h2 => qav (bad fun e => h2 (by rw [e.2.2]))) fun h2 => ?_)
 refine (same_nd_lp m _ _ (fun b => some (.ret [.cl (.bool b)] [])) ta tb ba bb ka kb rfl rfl (by omega) hl hc m' hc' FUEL 0 (by omega) (by unfold FUEL; omega)).trans (qav ?_)
 rw [Bool.eq_iff_iff, @decide_eq_true_iff _ (Classical.propDecidable _), qc6]
 simp only [List.drop_zero, List.cons.injEq, CV.int.injEq, CV.sli.injEq, CV.slg.injEq, true_and, and_true]
 exact ⟨fun e => ⟨h, h1, e⟩, fun e => e.2.2⟩
end Go.Proofs.YtbgkadaidhgggaaDoorA

namespace Go.Proofs.YtbgkadaidhgggaaDoorA
open IntWalk (i64_in u8_in u32_in u64_in i64_quo u8_quo rem_in)

def ndL (x : Nd) : List CV := [.int .i64 x.1, .sli .u8 x.2.1, .slg 3 x.2.2]
theorem qoz {b : List Int} (h : qfr b = true) : ∀ x ∈ b, 0 <= x /\ x <= 255 := by
 unfold qfr at h
 rw [qae] at h
 simp only [List.all_eq_true] at h
 exact fun x hx => qnj (h x hx)
theorem nLAwake (hp : true = true) : gLAwake = some (.ret [.cl (.bool true)] []) := by
 have e1 : qhw [2, 1, 5] = ((2, [5], []), 0) := by kernel_rfl
 have e2 : qhw [2, 2, 0, 5] = (nd0, 5) := by kernel_rfl
 have e3 : qhw [2, 129, 1, 5] = (nd0, 1) := by kernel_rfl
 have e4 : qhw [5, 0, 0] = (nd0, 7) := by kernel_rfl
 have e5 : qhw [31, 0] = (nd0, 4) := by kernel_rfl
 unfold gLAwake qar qb3
 simp only [qae, e1, e2, e3, e4, e5]
 refine qba (qbr (by decide) (by decide)) (qba (qbr (by decide) (by decide)) (qba (qbr (by decide) (by decide)) (qba (qbr (by decide) (by decide)) (qba (qbr (by decide) (by decide)) ?_))))
 refine qba (by decide) (qba (by decide) (qba (qlw (by decide)) (qba (by decide) (qba (by decide) (qba (by decide) (qba (by decide) ?_))))))
 exact qav (by decide)

/-- values in one another -/
def qkn : Nat -> List Int
 | 0 => [5, 0]
 | k + 1 => [48, 2 * (k : Int) + 2] ++ qkn k
theorem qke : ∀ k, (qkn k).length = 2 * k + 2
 | 0 => rfl
 | k + 1 => by show (qkn k).length + 1 + 1 = _; rw [qke k]; omega
theorem deepB_byte : ∀ k, k <= 60 -> ∀ x ∈ qkn k, 0 <= x /\ x <= 255
 | 0, _, x, hx => by simp [qkn] at hx; omega
 | k + 1, hk, x, hx => by
  have ih := deepB_byte k (by omega)
  simp only [qkn, List.cons_append, List.nil_append, List.mem_cons] at hx
  rcases hx with rfl | rfl | hx
  ·omega
  ·omega
  ·exact ih x hx
theorem deepB_ok (k : Nat) (hk : k <= 60) : qac (qkn k) = true := qbr (by rw [qke]; omega) (deepB_byte k hk)
theorem parse_deep : ∀ (k n : Nat), k <= 60 -> ((k < n /\ (qax n (qkn k)).1 = 0 /\ (qax n (qkn k)).2.2 = 2 * k + 2) \/ (n <= k /\ (qax n (qkn k)).1 = 3))
 | k, 0, _ => .inr ⟨by omega, rfl⟩
 | 0, n + 1, _ => .inl ⟨by omega, rfl, rfl⟩
 | k + 1, n + 1, hk => by
  have ih := parse_deep k n (by omega)
  have hl := qke k
  have e : qkn (k + 1) = 48 :: (2 * (k : Int) + 2) :: qkn k := rfl
  have hL : qab ((2 * (k : Int) + 2) :: qkn k) = (2 * (k : Int) + 2, 1) := by rw [qbf, if_pos (by omega)]
  have hI : (List.drop (1 : Int).toNat ((2 * (k : Int) + 2) :: qkn k)).take (2 * (k : Int) + 2).toNat = qkn k := by
   show (qkn k).take _ = _
   exact List.take_of_length_le (by omega)
  have hne : qkn k ≠ [] := by intro h; rw [h] at hl; simp at hl
  rw [e, qct]
  unfold parse1
  rw [hL]
  simp only []
  rw [hI, if_neg (by decide : ¬qa9 48 = false), if_neg (show ¬((1 : Int) = 0 \/ (((2 * (k : Int) + 2) :: qkn k).length : Int) - 1 < 2 * (k : Int) + 2) by simp only [List.length_cons]; omega), if_neg (by decide : ¬qa4 48 = false)]
  rw [hl]
  rcases ih with ⟨h1, h2, h3⟩ | ⟨h1, h2⟩
  ·left
   rw [qoo hne h2, h3, show (2 * (k : Int) + 2).toNat = 2 * k + 2 by omega, List.drop_eq_nil_of_le (by omega), qg2]
   rw [if_pos rfl, if_neg (show ¬((48 : Int) = 49 /\ _) from fun h => absurd h.1 (by decide))]
   exact ⟨by omega, rfl, by show (1 : Int) + 1 + (2 * (k : Int) + 2) = _; omega⟩
  ·right
   have hz : ¬(qax n (qkn k)).1 = 0 := by rw [h2]; decide
   rw [parts_no hne hz, h2]
   exact ⟨by omega, rfl⟩
theorem ndParse_deep (k : Nat) (hk : k <= 60) : (qar (qkn k)).2 = if k < 32 then 0 else 3 := by
 unfold qar qhw
 rw [qae]
 show (if (qax 32 (qkn k)).1 = 0 then (if (qax 32 (qkn k)).2.2 < (qkn k).length then (nd0, 7) else ((qax 32 (qkn k)).2.1, 0)) else (nd0, (qax 32 (qkn k)).1) : Nd × Int).2 = _
 rcases parse_deep k 32 hk with ⟨h1, h2, h3⟩ | ⟨h1, h2⟩
 ·rw [if_pos h2, if_neg (by rw [h3, qke]; omega), if_pos h1]
 ·rw [if_neg (by rw [h2]; decide), if_neg (by omega), h2]

theorem deep_lp (k0 : Int -> Nat -> Int -> Int -> List Int -> Option Out) (v1 : Int) (K : Nat) (hK : K <= 60) : ∀ (f i : Nat), i <= K -> K < f + i ->
  qqw k0 f v1 (qkn i).length K i (qkn i) = k0 v1 (qkn K).length K K (qkn K)
 | 0, i, hi, hf => by omega
 | f + 1, i, hi, hf => by
  show lpLDeep_4s (qqw k0 f) k0 v1 (qkn i).length K i (qkn i) = _
  unfold lpLDeep_4s
  have hl := qke i
  refine qaf (fun h => ?_) fun h => ?_
  ·have e : shut [48, IntKind.u8.wrap (((qkn i).length : Nat) : Int)] ++ qkn i = qkn (i + 1) := by
    rw [qae, hl, show IntKind.u8.wrap ((2 * i + 2 : Nat) : Int) = 2 * (i : Int) + 2 from (u8_in _ (by omega)).trans (by omega)]
    rfl
   simp only [e]
   have hl' := qke (i + 1)
   refine qau (by unfold LIM; omega) (qau (by unfold LIM; omega) ?_)
   rw [show IntKind.i64.wrap ((i : Int) + 1) = ((i + 1 : Nat) : Int) from (i64_in _ (by omega)).trans (by omega)]
   exact deep_lp k0 v1 K hK f (i + 1) (by omega) (by omega)
  ·obtain rfl : i = K := by omega
   rfl
theorem nLDeep (n : Int) (hp : decide (0 <= n /\ n <= 255) = true) : gLDeep n = some (.ret [.cl (.bool true)] []) := by
 have hp := of_decide_eq_true hp
 unfold gLDeep
 simp only [qae]
 obtain ⟨K, hK, hK2⟩ : ∃ K : Nat, Int.tmod n 60 = K /\ K <= 59 := by
  rw [Int.tmod_eq_emod_of_nonneg (by omega)]
  exact ⟨(n % 60).toNat, by omega, by omega⟩
 rw [hK, show IntKind.i64.wrap (K : Int) = K from i64_in _ (by omega), show IntKind.i64.wrap ((1 : Int) + K) = 1 + K from i64_in _ (by omega), show IntKind.i64.wrap ((1 : Int) + K - 1) = K from (i64_in _ (by omega)).trans (by omega)]
 refine (deep_lp _ (1 + K) K (by omega) FUEL 0 (by omega) (by unfold FUEL; omega)).trans ?_
 refine qaf (fun h => rfl) fun h => qba (deepB_ok K (by omega)) ?_
 rw [ndParse_deep K (by omega)]
 by_cases h : K < 32
 ·simp only [if_pos h]
  rw [decide_eq_true (show (1 : Int) + K <= 32 by omega)]
  rfl
 ·simp only [if_neg h]
  rw [decide_eq_false (show ¬(1 : Int) + K <= 32 by omega)]
  rfl
end Go.Proofs.YtbgkadaidhgggaaDoorA

set_option maxRecDepth 100000
namespace Go.Proofs.YtbgkadaidhgggaaDoorA

theorem qls (y : Int) : qbl (y + 1) = qbl y + 365 + (if qex y = true then 1 else 0) := by
 unfold qbl qex
 simp only [decide_eq_true_eq]
 split <;> omega
theorem stYears_mono {a b : Int} (h : a < b) : qbl a + 365 <= qbl b := by
 unfold qbl
 omega
theorem qe8 {y m : Int} (h1 : 1 <= m) (h2 : m <= 12) : qbh y (m + 1) = qbh y m + qew y m := by
 have hm : m = 1 \/ m = 2 \/ m = 3 \/ m = 4 \/ m = 5 \/ m = 6 \/ m = 7 \/ m = 8 \/ m = 9 \/ m = 10 \/ m = 11 \/ m = 12 := by omega
 unfold qbh qew
 cases qex y <;> rcases hm with h | h | h | h | h | h | h | h | h | h | h | h <;> subst h <;> rfl
theorem qn2 (y : Int) : qbh y 1 = 0 := by unfold qbh; rfl
theorem stAhead_end (y : Int) : qbh y 13 = 365 + (if qex y = true then 1 else 0) := by unfold qbh; cases qex y <;> rfl
theorem qji (y m : Int) : 28 <= qew y m /\ qew y m <= 31 := by
 unfold qew
 split
 ·split <;> omega
 ·split <;> omega
theorem qg4 {y a b : Int} (h1 : 1 <= a) (h : a < b) (h2 : b <= 13) : qbh y (a + 1) <= qbh y b := by
 unfold qbh
 split <;> split <;> omega

/-- 400 years, from a first of March on -/
theorem st_era (doe : Int) (h0 : 0 <= doe) (h1 : doe <= 146096) : ∃ Q P Y w : Int, 0 <= Q /\ Q <= 3 /\ 0 <= P /\ P <= 24 /\ 0 <= Y /\ Y <= 3 /\ 0 <= w /\ w <= 365 /\ doe = 36524 * Q + 1461 * P + 365 * Y + w /\ (w = 365 -> Y = 3 /\ (P ≠ 24 \/ Q = 3)) /\
  (doe - doe / 1460 + doe / 36524 - doe / 146096) / 365 = 100 * Q + 4 * P + Y := by
 obtain ⟨Q, hQ⟩ : ∃ Q, Q = if doe = 146096 then 3 else doe / 36524 := ⟨_, rfl⟩
 have hQ' : (Q = 0 \/ Q = 1 \/ Q = 2 \/ Q = 3) /\ 0 <= doe - 36524 * Q /\ (doe - 36524 * Q <= 36523 \/ Q = 3 /\ doe - 36524 * Q = 36524) := by split at hQ <;> omega
 obtain ⟨r, hr⟩ : ∃ r, r = doe - 36524 * Q := ⟨_, rfl⟩
 obtain ⟨P, hP⟩ : ∃ P, P = r / 1461 := ⟨_, rfl⟩
 obtain ⟨s, hs⟩ : ∃ s, s = r - 1461 * P := ⟨_, rfl⟩
 obtain ⟨Y, hY⟩ : ∃ Y, Y = if s = 1460 then 3 else s / 365 := ⟨_, rfl⟩
 have hs2 : 0 <= s /\ s <= 1460 /\ 0 <= P /\ P <= 24 := by omega
 have hY' : (Y = 0 \/ Y = 1 \/ Y = 2 \/ Y = 3) /\ 0 <= s - 365 * Y /\ (s - 365 * Y <= 364 \/ Y = 3 /\ s - 365 * Y = 365) := by split at hY <;> omega
 clear hQ hY
 obtain ⟨w, hw⟩ : ∃ w, w = s - 365 * Y := ⟨_, rfl⟩
 have hd : doe = 36524 * Q + 1461 * P + 365 * Y + w := by omega
 have hw2 : 0 <= w /\ w <= 365 /\ (w = 365 -> Y = 3 /\ (P ≠ 24 \/ Q = 3)) := by omega
 obtain ⟨hQ1, hQ2, hQ3⟩ := hQ'
 obtain ⟨hY1, hY2, hY3⟩ := hY'
 obtain ⟨_, _, hP1, hP2⟩ := hs2
 clear hQ2 hQ3 hY2 hY3 hw hs hP hr
 refine ⟨Q, P, Y, w, by omega, by omega, hP1, hP2, by omega, by omega, hw2.1, hw2.2.1, hd, hw2.2.2, ?_⟩
 obtain ⟨w1, w2, w3⟩ := hw2
 have ha : doe / 1460 = 25 * Q + P + (24 * Q + P + 365 * Y + w) / 1460 := by rw [hd]; omega
 have hb : doe / 36524 = Q + (1461 * P + 365 * Y + w) / 36524 := by rw [hd]; omega
 have hc : doe / 146096 = (1461 * P + 365 * Y + w + 36524 * Q) / 146096 := by rw [hd]; congr 1; omega
 rw [ha, hb, hc]
 have h5 : (24 * Q + P + 365 * Y + w) / 1460 = 0 \/ (24 * Q + P + 365 * Y + w) / 1460 = 1 := by omega
 have h6 : (1461 * P + 365 * Y + w) / 36524 = (1461 * P + 365 * Y + w + 36524 * Q) / 146096 := by
  rcases hQ1 with h | h | h | h <;> subst h <;> omega
 rw [h6, hd]
 generalize (1461 * P + 365 * Y + w + 36524 * Q) / 146096 = c
 rcases h5 with h5 | h5 <;> rw [h5] <;> omega

theorem st_cycle {Q P Y era y : Int} (q1 : 0 <= Q) (q2 : Q <= 3) (q3 : 0 <= P) (q4 : P <= 24) (q5 : 0 <= Y) (q6 : Y <= 3) (hy : y = 100 * Q + 4 * P + Y + era * 400) : y / 4 = 25 * Q + P + era * 100 /\ y / 100 = Q + era * 4 /\ y / 400 = era := by
 subst hy
 refine ⟨by omega, by omega, by omega⟩
theorem st_hms {s : Int} (h0 : 0 <= s) (h1 : s < 86400) : 0 <= s / 3600 /\ s / 3600 < 24 /\ 0 <= s / 60 % 60 /\ s / 60 % 60 < 60 /\ 0 <= s % 60 /\ s % 60 < 60 /\ s / 3600 * 3600 + s / 60 % 60 * 60 + s % 60 = s := by omega
theorem st_leap_w {Q P Y era w y : Int} (q1 : 0 <= Q) (q2 : Q <= 3) (q3 : 0 <= P) (q4 : P <= 24) (hw : w = 365) (q : w = 365 -> Y = 3 /\ (P ≠ 24 \/ Q = 3)) (hy : y = 100 * Q + 4 * P + Y + era * 400) : qex (y + 1) = true := by
 obtain ⟨h1, h2⟩ := q hw
 subst hy h1
 unfold qex
 simp only [decide_eq_true_eq]
 refine ⟨by omega, ?_⟩
 rcases h2 with h2 | h2
 ·left; omega
 ·subst h2
  by_cases hp : P = 24
  ·right; omega
  ·left; omega

theorem st_mon {w mp d : Int} (y : Int) (h0 : 0 <= w) (hmp : mp = (5 * w + 2) / 153) (hd : d = w - (153 * mp + 2) / 5 + 1) (hc : mp <= 9) : 0 <= mp /\ 1 <= d /\ d <= qew y (mp + 3) := by
 have h1 : 0 <= mp := by omega
 have hm2 : mp = 0 \/ mp = 1 \/ mp = 2 \/ mp = 3 \/ mp = 4 \/ mp = 5 \/ mp = 6 \/ mp = 7 \/ mp = 8 \/ mp = 9 := by omega
 unfold qew
 rw [if_neg (by omega)]
 refine ⟨h1, by omega, ?_⟩
 rcases hm2 with h | h | h | h | h | h | h | h | h | h <;> subst h
 ·rw [if_neg (by omega)]; omega
 ·rw [if_pos (by omega)]; omega
 ·rw [if_neg (by omega)]; omega
 ·rw [if_pos (by omega)]; omega
 ·rw [if_neg (by omega)]; omega
 ·rw [if_neg (by omega)]; omega
 ·rw [if_pos (by omega)]; omega
 ·rw [if_neg (by omega)]; omega
 ·rw [if_pos (by omega)]; omega
 ·rw [if_neg (by omega)]; omega

/-- a time's date is fit, and has that time -/
theorem stDated_ok {t : Int} (h : stIn t = true) : qlk (qey t).d0 (qey t).d1 (qey t).d2 (qey t).d3 (qey t).d4 (qey t).d5 = true /\ qk8 (qey t).d0 (qey t).d1 (qey t).d2 (qey t).d3 (qey t).d4 (qey t).d5 = t := by
 unfold stIn at h
 simp only [decide_eq_true_eq] at h
 obtain ⟨n, hn⟩ : ∃ n, n = (t + 62135596800) / 86400 := ⟨_, rfl⟩
 obtain ⟨s, hs⟩ : ∃ s, s = (t + 62135596800) % 86400 := ⟨_, rfl⟩
 have hns : 0 <= n /\ n <= 3652058 /\ t + 62135596800 = 86400 * n + s /\ 0 <= s /\ s < 86400 := by omega
 obtain ⟨doe, hdoe⟩ : ∃ d, d = (n + 306) % 146097 := ⟨_, rfl⟩
 obtain ⟨era, hera⟩ : ∃ e, e = (n + 306) / 146097 := ⟨_, rfl⟩
 have hz : 0 <= doe /\ doe <= 146096 /\ n + 306 = 146097 * era + doe /\ 0 <= era /\ era <= 24 := by clear hn hs h; omega
 obtain ⟨Q, P, Y, w, q1, q2, q3, q4, q5, q6, q7, q8, q9, q10, q11⟩ := st_era doe hz.1 hz.2.1
 obtain ⟨y, hy⟩ : ∃ y, y = 100 * Q + 4 * P + Y + era * 400 := ⟨_, rfl⟩
 obtain ⟨c1, c2, c3⟩ := st_cycle q1 q2 q3 q4 q5 q6 hy
 obtain ⟨e1, e2, e3⟩ := st_cycle (era := 0) (y := 100 * Q + 4 * P + Y) q1 q2 q3 q4 q5 q6 (by simp)
 obtain ⟨mp, hmp⟩ : ∃ m, m = (5 * w + 2) / 153 := ⟨_, rfl⟩
 obtain ⟨d, hd⟩ : ∃ d, d = w - (153 * mp + 2) / 5 + 1 := ⟨_, rfl⟩
 have hdoy : doe - (365 * (100 * Q + 4 * P + Y) + (100 * Q + 4 * P + Y) / 4 - (100 * Q + 4 * P + Y) / 100) = w := by rw [e1, e2]; clear e3 q11 hdoe hera hn hs h c1 c2 c3 e1 e2 hmp hd hy q10 hns; omega
 have hD : qey t = if 9 < mp then ⟨y + 1, mp - 9, d, s / 3600, s / 60 % 60, s % 60⟩ else ⟨y, mp + 3, d, s / 3600, s / 60 % 60, s % 60⟩ := by
  unfold qey
  simp only [<- hn, <- hs, <- hdoe, <- hera, q11, hdoy, <- hmp, <- hd, <- hy]
 rw [hD]
 have hday : qbl (y + 1) = y * 365 + y / 4 - y / 100 + y / 400 := by
  unfold qbl
  rw [show y + 1 - 1 = y by omega]
 rw [c1, c2, c3] at hday
 have hst := qls y
 obtain ⟨m1, m2, m3, m4, m5, m6, m7⟩ := st_hms hns.2.2.2.1 hns.2.2.2.2
 have hw365 : w = 365 -> qex (y + 1) = true := fun e => st_leap_w q1 q2 q3 q4 e q10 hy
 clear hn hs hdoe hera q11 e1 e2 e3 hdoy c1 c2 c3 q10 hD
 have hyr : 0 <= y /\ n + 306 = y * 365 + (25 * Q + P + era * 100) - (Q + era * 4) + era + w := by
  clear hw365 m1 m2 m3 m4 m5 m6 m7 hst hday hd hmp h
  omega
 by_cases hc : 9 < mp
 ·rw [if_pos hc]
  have hm2 : mp = 10 \/ mp = 11 := by omega
  have hyy : 0 <= y /\ y <= 9998 := by omega
  refine ⟨?_, ?_⟩
  ·unfold qlk qew
   simp only [decide_eq_true_eq]
   refine ⟨⟨by omega, by omega, by omega, by omega⟩, ⟨by omega, ?_⟩, m1, m2, m3, m4, m5, m6⟩
   rcases hm2 with h | h <;> subst h
   ·rw [if_neg (by omega), if_neg (by omega)]; omega
   ·rw [if_pos (by omega)]
    by_cases hw : w = 365
    ·rw [if_pos (hw365 hw)]; omega
    ·split <;> omega
  ·unfold qk8 qbh
   show -62135596800 + (qbl (y + 1) + (if mp - 9 <= 2 then 31 * (mp - 9 - 1) else _) + (d - 1)) * 86400 + (s / 3600 * 3600 + s / 60 % 60 * 60 + s % 60) = t
   rw [m7, if_pos (by omega)]
   have : qbl (y + 1) + 31 * (mp - 9 - 1) + (d - 1) = n := by
    rw [hday]
    rcases hm2 with h | h <;> subst h <;> omega
   rw [this]; omega
 ·rw [if_neg hc]
  obtain ⟨n1, n2, n3⟩ := st_mon y q7 hmp hd (by omega)
  have hw305 : w <= 305 := by clear hyr hst hday m1 m2 m3 m4 m5 m6 m7 h hns hz; omega
  have hyy : 1 <= y /\ y <= 9999 := by clear hst hday m1 m2 m3 m4 m5 m6 m7 h n1 n2 n3 hd hmp; omega
  refine ⟨?_, ?_⟩
  ·unfold qlk
   simp only [decide_eq_true_eq]
   exact ⟨⟨hyy.1, hyy.2, by clear hyr hst hday h hns hz; omega, by clear hyr hst hday h hns hz; omega⟩, ⟨n2, n3⟩, m1, m2, m3, m4, m5, m6⟩
  ·unfold qk8 qbh
   show -62135596800 + (qbl y + (if mp + 3 <= 2 then _ else (153 * (mp + 3 - 3) + 2) / 5 + 59 + (if qex y = true then 1 else 0)) + (d - 1)) * 86400 + (s / 3600 * 3600 + s / 60 % 60 * 60 + s % 60) = t
   rw [m7, if_neg (by clear hyr hst hday h hns hz; omega), show mp + 3 - 3 = mp by clear hyr hst hday h hns hz; omega]
   have : qbl y + ((153 * mp + 2) / 5 + 59 + (if qex y = true then 1 else 0)) + (d - 1) = n := by
    rw [hday] at hst
    have hyr := hyr.2
    clear m1 m2 m3 m4 m5 m6 m7 h hns hz hmp n1 n2 n3 q1 q2 q3 q4 q5 q6 q7 q8 q9 hw365 hyy hday hy
    generalize (if qex y = true then 1 else 0 : Int) = lp at *
    generalize qbl y = sy at *
    generalize (153 * mp + 2) / 5 = k at *
    omega
   rw [this]
   clear hyr hst hday m1 m2 m3 m4 m5 m6 m7 h hmp hd n1 n2 n3
   omega

/-- a time has one date alone -/
theorem st_one {y m d h i s y' m' d' h' i' s' : Int} (h1 : qlk y m d h i s = true) (h2 : qlk y' m' d' h' i' s' = true) (he : qk8 y m d h i s = qk8 y' m' d' h' i' s') : y = y' /\ m = m' /\ d = d' /\ h = h' /\ i = i' /\ s = s' := by
 unfold qlk at h1 h2
 simp only [decide_eq_true_eq] at h1 h2
 unfold qk8 at he
 have key : ∀ {y m d : Int}, (1 <= y /\ y <= 9999 /\ 1 <= m /\ m <= 12) -> (1 <= d /\ d <= qew y m) -> 0 <= qbh y m + (d - 1) /\ qbl y + qbh y m + (d - 1) < qbl (y + 1) /\ qbh y m + (d - 1) < qbh y (m + 1) := fun {y m d} a b => by
  have e1 := qe8 (y := y) a.2.2.1 a.2.2.2
  have e2 := qls y
  have e3 := stAhead_end y
  have e4 : qbh y (m + 1) <= qbh y 13 := by
   rcases Int.lt_or_le m 12 with hm | hm
   ·have := qg4 (y := y) (a := m + 1) (b := 13) (by omega) (by omega) (by omega)
    have := qe8 (y := y) (m := m + 1) (by omega) (by omega)
    have := qji y (m + 1)
    omega
   ·have : m + 1 = 13 := by omega
    rw [this]; exact Int.le_refl _
  have e5 : 0 <= qbh y m := by
   rcases Int.lt_or_le 1 m with hm | hm
   ·have := qg4 (y := y) (a := 1) (b := m) (by omega) hm (by omega)
    have := qe8 (y := y) (m := 1) (by omega) (by omega)
    have := qji y 1
    have := qn2 y
    omega
   ·have : m = 1 := by omega
    subst this
    rw [qn2]; exact Int.le_refl _
  omega
 have k1 := key h1.1 h1.2.1
 have k2 := key h2.1 h2.2.1
 have hday : qbl y + qbh y m + (d - 1) = qbl y' + qbh y' m' + (d' - 1) := by omega
 have hy : y = y' := by
  rcases Int.lt_trichotomy y y' with hl | hl | hl
  ·exfalso
   rcases Int.lt_or_le (y + 1) y' with hl2 | hl2
   ·have := stYears_mono hl2; omega
   ·have : y' = y + 1 := by omega
    subst this; omega
  ·exact hl
  ·exfalso
   rcases Int.lt_or_le (y' + 1) y with hl2 | hl2
   ·have := stYears_mono hl2; omega
   ·have : y = y' + 1 := by omega
    subst this; omega
 subst hy
 have hm : m = m' := by
  rcases Int.lt_trichotomy m m' with hl | hl | hl
  ·exfalso
   have := qg4 (y := y) h1.1.2.2.1 hl (by omega); omega
  ·exact hl
  ·exfalso
   have := qg4 (y := y) h2.1.2.2.1 hl (by omega); omega
 subst hm
 refine ⟨rfl, rfl, by omega, by omega, by omega, by omega⟩
open IntWalk (i64_in u8_in u32_in u64_in i64_quo u8_quo rem_in)

theorem nDigits (s : ByteArray) (hp : decide (2 <= s.size) = true) : gDigits s = some (.ret [.cl (.int .i64 (qeb s))] []) := by
 simp only [decide_eq_true_eq] at hp
 unfold gDigits qeb qor
 have r0 := qjb s 0
 have r1 := qjb s 1
 refine qau (by omega) ?_
 extract_lets x1 x2 x3 x4 x5 x6 x7 x8
 have e2 : x2 = bget s 0 := i64_in _ (by omega)
 have e3 : x3 = bget s 0 - 48 := by show IntKind.i64.wrap (x2 - 48) = _; rw [e2]; exact i64_in _ (by omega)
 refine qau (by omega) ?_
 have e5 : x5 = bget s 1 := i64_in _ (by omega)
 have e6 : x6 = bget s 1 - 48 := by show IntKind.i64.wrap (x5 - 48) = _; rw [e5]; exact i64_in _ (by omega)
 refine qaf (fun h => ?_) fun h1 => qaf (fun h => ?_) fun h2 => qaf (fun h => ?_) fun h3 => qaf (fun h => ?_) fun h4 => ?_
 ·rw [if_pos (by omega)]
 ·rw [if_pos (by omega)]
 ·rw [if_pos (by omega)]
 ·rw [if_pos (by omega)]
 ·rw [if_neg (by omega)]
  have e7 : x7 = 10 * x3 := i64_in _ (by omega)
  have e8 : x8 = 10 * x3 + x6 := by show IntKind.i64.wrap (x7 + x6) = _; rw [e7]; exact i64_in _ (by omega)
  exact qll (by rw [e8, e3, e6])

theorem nDLeap (d0 d1 d2 d3 d4 d5 : Int) (hp : stOk d0 = true) : gDLeap d0 d1 d2 d3 d4 d5 = some (.ret [.cl (.bool (qex d0))] []) := by
 simp only [stOk, decide_eq_true_eq] at hp
 unfold gDLeap qex
 rw [rem_in d0 4 (by omega), rem_in d0 100 (by omega), rem_in d0 400 (by omega)]
 refine qaf (fun h => qb8 (fun h2 => ?_) fun h2 => ?_) fun h => ?_
 ·exact qav (by symm; rw [decide_eq_true_eq]; exact ⟨h, .inl h2⟩)
 ·refine qav (by rw [Bool.eq_iff_iff]; simp only [decide_eq_true_eq]; omega)
 ·exact qav (by symm; rw [decide_eq_false_iff_not]; exact fun h' => h h'.1)
theorem nRLeap (y : Int) (hp : stOk y = true) : gRLeap y = some (.ret [.cl (.bool (qex y))] []) := by
 simp only [stOk, decide_eq_true_eq] at hp
 unfold gRLeap qex
 rw [rem_in y 4 (by omega), rem_in y 100 (by omega), rem_in y 400 (by omega)]
 refine qaf (fun h => qb8 (fun h2 => ?_) fun h2 => ?_) fun h => ?_
 ·exact qav (by symm; rw [decide_eq_true_eq]; exact ⟨h, .inl h2⟩)
 ·refine qav (by rw [Bool.eq_iff_iff]; simp only [decide_eq_true_eq]; omega)
 ·refine qav (by rw [Bool.eq_iff_iff]; simp only [decide_eq_true_eq]; omega)
theorem nDDays (d0 d1 d2 d3 d4 d5 : Int) (hp : stOk d0 = true) : gDDays d0 d1 d2 d3 d4 d5 = some (.ret [.cl (.int .i64 (qew d0 d1))] []) := by
 unfold gDDays qew
 refine qaf (fun h => qba hp (qce (fun h2 => ?_) fun h2 => ?_)) fun h => qaf (fun h2 => ?_) fun h2 => qaf (fun h3 => ?_) fun h3 => qaf (fun h4 => ?_) fun h4 => qaf (fun h5 => ?_) fun h5 => ?_
 ·rw [if_pos h, if_pos h2]
 ·rw [if_pos h, if_neg (by rw [h2]; simp)]
 all_goals first | rw [if_neg h, if_pos (by omega)] | rw [if_neg h, if_neg (by omega)]
theorem nDFit (d0 d1 d2 d3 d4 d5 : Int) (hp : true = true) : gDFit d0 d1 d2 d3 d4 d5 = some (.ret [.cl (.bool (qlk d0 d1 d2 d3 d4 d5))] []) := by
 unfold gDFit qlk
 have no : ∀ {p : Prop} [Decidable p], ¬ p -> some (Out.ret [.cl (.bool false)] []) = some (Out.ret [.cl (.bool (decide p))] []) := fun h => qav (by symm; rw [decide_eq_false_iff_not]; exact h)
 refine qaf (fun h => no (by omega)) fun h1 => qaf (fun h => no (by omega)) fun h2 => qaf (fun h => no (by omega)) fun h3 => qaf (fun h => no (by omega)) fun h4 => qaf (fun h => no (by omega)) fun h5 => qba (by simp only [stOk, decide_eq_true_eq]; omega) (qaf (fun h => no (by omega)) fun h6 =>
  qaf (fun g1 => qaf (fun g2 => qaf (fun g3 => qaf (fun g4 => qaf (fun g5 => ?_) fun h => no (by omega)) fun h => no (by omega)) fun h => no (by omega)) fun h => no (by omega)) fun h => no (by omega))
 refine qav ?_
 rw [Bool.eq_iff_iff]
 simp only [decide_eq_true_eq]
 omega
theorem qmb {y m d h i s : Int} (hp : qlk y m d h i s = true) : (1 <= y /\ y <= 9999 /\ 1 <= m /\ m <= 12) /\ (1 <= d /\ d <= qew y m) /\ 0 <= h /\ h < 24 /\ 0 <= i /\ i < 60 /\ 0 <= s /\ s < 60 := by
 unfold qlk at hp
 simpa only [decide_eq_true_eq] using hp
theorem nRDays (y m : Int) (hp : true = true) : gRDays y m = some (.ret [.cl (.int .i64 (qib y m))] []) := by
 unfold gRDays qib
 refine qaf (fun h => ?_) fun h1 => qaf (fun h => ?_) fun h2 => qaf (fun h => ?_) fun h3 => qaf (fun h => ?_) fun h4 => ?_
 ·rw [if_neg (by omega)]
 ·rw [if_neg (by omega)]
 ·rw [if_neg (by omega)]
 ·rw [if_neg (by omega)]
 rw [if_pos (by omega)]
 unfold qew
 refine qaf (fun h => qba (by simp only [stOk, decide_eq_true_eq]; omega) (qce (fun h2 => ?_) fun h2 => ?_)) fun h => qaf (fun h2 => ?_) fun h2 => qaf (fun h3 => ?_) fun h3 => qaf (fun h4 => ?_) fun h4 => qaf (fun h5 => ?_) fun h5 => ?_
 ·rw [if_pos h, if_pos h2]
 ·rw [if_pos h, if_neg (by rw [h2]; simp)]
 all_goals first | rw [if_neg h, if_pos (by omega)] | rw [if_neg h, if_neg (by omega)]
theorem two_digit {n : Int} (h : -9223372036854775808 <= n /\ n <= 9223372036854775807) : IntKind.i64.wrap (Int.tdiv n 10) = Int.tdiv n 10 /\ (-9 <= Int.tmod (Int.tdiv n 10) 10 /\ Int.tmod (Int.tdiv n 10) 10 <= 9) /\ -9 <= Int.tmod n 10 /\ Int.tmod n 10 <= 9 := by
 have key : ∀ m : Int, -9 <= Int.tmod m 10 /\ Int.tmod m 10 <= 9 := fun m => by
  have h1 := Int.tmod_lt_of_pos m (show (0 : Int) < 10 by omega)
  have h2 := Int.lt_tmod_of_pos m (show (0 : Int) < 10 by omega)
  omega
 exact ⟨IntWalk.i64_quo' _ _ (by omega), key _, key _⟩
theorem nRYears (y : Int) (hp : stOk y = true) : gRYears y = some (.ret [.cl (.int .i64 (qbl y))] []) := by
 simp only [stOk, decide_eq_true_eq] at hp
 unfold gRYears qbl
 extract_lets x1 x2 x3 x4 x5 x6 x7 x8
 have e1 : x1 = y - 1 := i64_in _ (by omega)
 have e2 : x2 = x1 * 365 := i64_in _ (by omega)
 have e3 : x3 = x1 / 4 := i64_quo _ _ (by omega)
 have e4 : x4 = x2 + x3 := i64_in _ (by omega)
 have e5 : x5 = x1 / 100 := i64_quo _ _ (by omega)
 have e6 : x6 = x4 - x5 := i64_in _ (by omega)
 have e7 : x7 = x1 / 400 := i64_quo _ _ (by omega)
 have e8 : x8 = x6 + x7 := i64_in _ (by omega)
 exact qll (by rw [e8, e6, e4, e2, e3, e5, e7, e1])
theorem secs_mid {yy m era yoe doy d2 : Int} (h : -62135596800 <= 0) : True := trivial

theorem nDSecs (d0 d1 d2 d3 d4 d5 : Int) (hp : qlk d0 d1 d2 d3 d4 d5 = true) : gDSecs d0 d1 d2 d3 d4 d5 = some (.ret [.cl (.int .i64 (qk8 d0 d1 d2 d3 d4 d5))] []) := by
 obtain ⟨⟨a1, a2, a3, a4⟩, ⟨a5, a6⟩, a7, a8, a9, a10, a11, a12⟩ := qmb hp
 have a6' : d2 <= 31 := by have := qji d0 d1; omega
 clear a6 hp
 have hs := qls d0
 unfold gDSecs
 have hy0 : qbl d0 = (d0 - 1) * 365 + (d0 - 1) / 4 - (d0 - 1) / 100 + (d0 - 1) / 400 := rfl
 have hy1 : qbl (d0 + 1) = d0 * 365 + d0 / 4 - d0 / 100 + d0 / 400 := by unfold qbl; rw [show d0 + 1 - 1 = d0 by omega]
 rw [hy1] at hs
 extract_lets x1 x2 x3 x4 x5 x6 x7 x8 x9 x10 x11 x12 x13 x14 x15 x16 x17 x18 x19 x20 x21 x22 x23 x24 x25 x26 x27 x28 x29 x30 x31 x32 x33 x34 x35 x36 x37 x38 x39 x40 x41 x42 x43
 have e1 : x1 = d1 - 3 := i64_in _ (by omega)
 refine qaf (fun h => qll ?_) fun h => qll ?_
 ·have e2 : x2 = d0 - 1 := i64_in _ (by omega)
  have e3 : x3 = d1 + 9 := (i64_in (x1 + 12) (by omega)).trans (by omega)
  have e4 : x4 = x2 / 400 := i64_quo _ _ (by omega)
  have e5 : x5 = x2 % 400 := rem_in _ _ (by omega)
  clear_value x1 x2 x3 x4 x5
  have r4 : 0 <= x4 /\ x4 <= 24 /\ x2 = 400 * x4 + x5 /\ 0 <= x5 /\ x5 <= 399 := by clear hs hy0 hy1; omega
  have c4 : (d0 - 1) / 4 = 100 * x4 + x5 / 4 /\ (d0 - 1) / 100 = 4 * x4 + x5 / 100 /\ (d0 - 1) / 400 = x4 := by clear hs hy0 hy1; omega
  have e6 : x6 = 153 * x3 := i64_in _ (by omega)
  have e7 : x7 = 153 * x3 + 2 := (i64_in (x6 + 2) (by omega)).trans (by omega)
  have e8 : x8 = (153 * x3 + 2) / 5 := (i64_quo x7 5 (by omega)).trans (by rw [e7])
  clear_value x6 x7 x8
  have r8 : 306 <= x8 /\ x8 <= 337 /\ x8 = 306 + 31 * (d1 - 1) := by clear hs hy0 hy1 r4 c4 e4 e5; omega
  clear e4 e5 e6 e7 e8 hs hy1
  have e9 : x9 = x8 + d2 := i64_in _ (by omega)
  have e10 : x10 = x8 + d2 - 1 := (i64_in (x9 - 1) (by omega)).trans (by omega)
  have e11 : x11 = x4 * 146097 := i64_in _ (by omega)
  have e12 : x12 = x5 * 365 := i64_in _ (by omega)
  have e13 : x13 = x11 + x12 := i64_in _ (by omega)
  have e14 : x14 = x5 / 4 := i64_quo _ _ (by omega)
  have e15 : x15 = x13 + x14 := i64_in _ (by omega)
  have e16 : x16 = x5 / 100 := i64_quo _ _ (by omega)
  have e17 : x17 = x15 - x16 := i64_in _ (by omega)
  have e18 : x18 = x17 + x10 := i64_in _ (by omega)
  have e19 : x19 = x18 - 719468 := i64_in _ (by omega)
  have e20 : x20 = x19 * 86400 := i64_in _ (by omega)
  have e21 : x21 = d3 * 3600 := i64_in _ (by omega)
  have e22 : x22 = d4 * 60 := i64_in _ (by omega)
  have e23 : x23 = x21 + x22 := i64_in _ (by omega)
  have e24 : x24 = x23 + d5 := i64_in _ (by omega)
  have e25 : x25 = x20 + x24 := i64_in _ (by omega)
  have hm : qbh d0 d1 = 31 * (d1 - 1) := by unfold qbh; rw [if_pos (by omega)]
  have hday : qbl d0 + qbh d0 d1 + (d2 - 1) = x19 + 719162 := by
   rw [hy0, hm, c4.1, c4.2.1, c4.2.2, e19, e18, e17, e15, e13, e11, e12, e14, e16, e10]
   omega
  unfold qk8
  rw [hday, e25, e20, e24, e23, e21, e22]
  omega
 ·have e26 : x26 = d0 / 400 := i64_quo _ _ (by omega)
  have e27 : x27 = d0 % 400 := rem_in _ _ (by omega)
  clear_value x1 x26 x27
  have r4 : 0 <= x26 /\ x26 <= 24 /\ d0 = 400 * x26 + x27 /\ 0 <= x27 /\ x27 <= 399 := by clear hs hy0 hy1; omega
  have c4 : d0 / 4 = 100 * x26 + x27 / 4 /\ d0 / 100 = 4 * x26 + x27 / 100 /\ d0 / 400 = x26 := by clear hs hy0 hy1; omega
  have e28 : x28 = 153 * x1 := i64_in _ (by omega)
  have e29 : x29 = 153 * x1 + 2 := (i64_in (x28 + 2) (by omega)).trans (by omega)
  have e30 : x30 = (153 * x1 + 2) / 5 := (i64_quo x29 5 (by omega)).trans (by rw [e29])
  clear_value x28 x29 x30
  have r8 : 0 <= x30 /\ x30 <= 337 := by clear hs hy0 hy1 r4 c4; omega
  have hm : qbh d0 d1 = x30 + 59 + (if qex d0 = true then 1 else 0) := by unfold qbh; rw [if_neg (by omega), <- e1, e30]
  clear e26 e27 e28 e29 e30 hy0 hy1
  have e31 : x31 = x30 + d2 := i64_in _ (by omega)
  have e32 : x32 = x30 + d2 - 1 := (i64_in (x31 - 1) (by omega)).trans (by omega)
  have e33 : x33 = x26 * 146097 := i64_in _ (by omega)
  have e34 : x34 = x27 * 365 := i64_in _ (by omega)
  have e35 : x35 = x33 + x34 := i64_in _ (by omega)
  have e36 : x36 = x27 / 4 := i64_quo _ _ (by omega)
  have e37 : x37 = x35 + x36 := i64_in _ (by omega)
  have e38 : x38 = x27 / 100 := i64_quo _ _ (by omega)
  have e39 : x39 = x37 - x38 := i64_in _ (by omega)
  have e40 : x40 = x39 + x32 := i64_in _ (by omega)
  have e41 : x41 = x40 - 719468 := i64_in _ (by omega)
  have e42 : x42 = x41 * 86400 := i64_in _ (by omega)
  have e21 : x21 = d3 * 3600 := i64_in _ (by omega)
  have e22 : x22 = d4 * 60 := i64_in _ (by omega)
  have e23 : x23 = x21 + x22 := i64_in _ (by omega)
  have e24 : x24 = x23 + d5 := i64_in _ (by omega)
  have e43 : x43 = x42 + x24 := i64_in _ (by omega)
  have hday : qbl d0 + qbh d0 d1 + (d2 - 1) = x41 + 719162 := by
   rw [hm]
   generalize (if qex d0 = true then 1 else 0 : Int) = lp at *
   rw [c4.1, c4.2.1, c4.2.2] at hs
   rw [e41, e40, e39, e37, e35, e33, e34, e36, e38, e32]
   omega
  unfold qk8
  rw [hday, e43, e42, e24, e23, e21, e22]
  omega
theorem two_length (n : Int) : (stTwo n).length = 2 := rfl
theorem nSRead (s : ByteArray) (hp : true = true) : gSRead s = some (.ret [.cl (.int .i64 (qom s).1), .cl (.int .i64 (qom s).2)] []) := by
 unfold gSRead qom
 have dig : ∀ k : Nat, (k : Int) + 2 <= s.size -> qeb (s.extract k s.size) = qor (bget s k) (bget s (k + 1)) := fun k hk => by
  unfold qeb
  rw [qcf s (by omega) (by omega) (Nat.le_refl _), qcf s (by omega) (by omega) (Nat.le_refl _), Int.add_zero]
 have sz : ∀ k : Nat, (s.extract k s.size).size = s.size - k := fun k => by rw [ByteArray.size_extract, Nat.min_self]
 refine qb8 (fun h => ?_) fun h => qau (by omega) ?_
 ·rw [if_neg (by omega)]
 have hs : s.size = 15 := by omega
 have d2 := dig 2 (by omega)
 have d4 := dig 4 (by omega)
 have d6 := dig 6 (by omega)
 have d8 := dig 8 (by omega)
 have d10 := dig 10 (by omega)
 have d12 := dig 12 (by omega)
 extract_lets x1 s2 r3 s4 r5 s6 r7 s8 r9 s10 r11 s12 r13 r14 x15 x16 r17 r18 y m d hh i c
 refine qb8 (fun h => ?_) fun h1 => ?_
 ·rw [if_neg fun e => h e.2]
 rw [if_pos ⟨hs, h1⟩]
 have z2 := sz 2
 have z4 := sz 4
 have z6 := sz 6
 have z8 := sz 8
 have z10 := sz 10
 have z12 := sz 12
 have rng : ∀ a b, 0 <= a /\ a <= 255 -> 0 <= b /\ b <= 255 -> -100000 <= qor a b /\ qor a b <= 99 := fun a b h1 h2 => by
  unfold qor
  split <;> omega
 have g2 := rng _ _ (qjb s 2) (qjb s 3)
 have g0 := rng _ _ (qjb s 0) (qjb s 1)
 have e14 : r14 = qor (bget s 0) (bget s 1) := rfl
 have e3 : r3 = qor (bget s 2) (bget s 3) := d2
 have e15 : x15 = 100 * qor (bget s 0) (bget s 1) := i64_in _ (by rw [e14]; omega)
 have e16 : x16 = y := (i64_in (r3 + x15) (by omega)).trans (by rw [e3, e15])
 have e5 : r5 = m := d4
 have e7 : r7 = d := d6
 have e9 : r9 = hh := d8
 have e11 : r11 = i := d10
 have e13 : r13 = c := d12
 have hr : r17 = qlk y m d hh i c := by show qlk x16 r5 r7 r9 r11 r13 = _; rw [e16, e5, e7, e9, e11, e13]
 have h18 : r18 = qk8 y m d hh i c := by show qk8 x16 r5 r7 r9 r11 r13 = _; rw [e16, e5, e7, e9, e11, e13]
 refine qau (by omega) (qau (by show 2 <= (s.extract 2 s.size).size; omega) (qau (by omega) (qau (by show 2 <= (s.extract 4 s.size).size; omega) (qau (by omega) (qau (by show 2 <= (s.extract 6 s.size).size; omega) (qau (by omega) (qau (by show 2 <= (s.extract 8 s.size).size; omega) (qau (by omega) (qau (by show 2 <= (s.extract 10 s.size).size; omega)
  (qau (by omega) (qau (by show 2 <= (s.extract 12 s.size).size; omega) (qau (by omega) ?_))))))))))))
 rw [hr]
 cases hf : qlk y m d hh i c with
 | false => rfl
 | true =>
  rw [if_pos rfl]
  show cond (qlk x16 r5 r7 r9 r11 r13) (some (Out.ret [.cl (.int .i64 r18), .cl (.int .i64 0)] [])) none = _
  rw [show qlk x16 r5 r7 r9 r11 r13 = true from hr.trans hf, h18]
  rfl
theorem lp_number (s : ByteArray) (hs : s.size <= 18) : ∀ (fuel i : Nat) (acc : Int), i <= s.size -> s.size < fuel + i -> 0 <= acc -> acc < ((10 ^ i : Nat) : Int) ->
  qdr (fun _ _ _ _ _ _ _ _ _ _ => some (.ret [.cl (.int .i64 (-1))] [])) (fun _ _ _ _ _ _ _ _ _ _ _ _ _ _ => some (.ret [.cl (.int .i64 (-1))] [])) (fun _ y2 _ _ _ _ => some (.ret [.cl (.int .i64 y2)] [])) fuel s acc i = some (.ret [.cl (.int .i64 (stNum ((bytesOf s).drop i) acc))] [])
 | 0, i, acc, hi, hf, h0, h1 => by omega
 | fuel + 1, i, acc, hi, hf, h0, h1 => by
  simp only [qdr]
  unfold ql6
  have rb := qjb s i
  extract_lets x1 x3 x5 x6 x7 x8
  refine qaf (fun h => ?_) fun h => ?_
  ·have hlt : i < s.size := by omega
   rw [qc0 s hlt]
   refine qau (by omega) (qau h ?_)
   unfold stNum
   refine qaf (fun h2 => ?_) fun h2 => qau (by omega) (qau h (qaf (fun h3 => ?_) fun h3 => qau (by omega) (qau h ?_)))
   ·rw [if_pos (.inl h2)]
   ·rw [if_pos (.inr h3)]
   ·have h2 : ¬ bget s i < 48 := h2
    have h3 : ¬ 57 < bget s i := h3
    have e1 : x1 = bget s i := rfl
    clear_value x1
    rw [if_neg (by omega)]
    have hp : 10 ^ (i + 1) = 10 * 10 ^ i := by rw [Nat.pow_succ]; omega
    have hp2 : 10 ^ i <= 10 ^ 17 := Nat.pow_le_pow_right (by omega) (by omega)
    have e3 : x3 = acc * 10 := i64_in _ (by omega)
    have e5 : x5 = x1 - 48 := u8_in _ (by omega)
    have e6 : x6 = x1 - 48 := (i64_in x5 (by omega)).trans e5
    have e7 : x7 = acc * 10 + (x1 - 48) := (i64_in (x3 + x6) (by omega)).trans (by rw [e3, e6])
    have e8 : x8 = ((i + 1 : Nat) : Int) := (i64_in ((i : Int) + 1) (by omega)).trans (by omega)
    rw [e7, e8, e1]
    exact lp_number s hs fuel (i + 1) _ (by omega) (by omega) (by omega) (by omega)
  ·have : i = s.size := by omega
   subst this
   rw [List.drop_eq_nil_of_le (by rw [qek]; exact Nat.le_refl _)]
   rfl
theorem nRNumber (s : ByteArray) (hp : decide (s.size <= 18) = true) : gRNumber s = some (.ret [.cl (.int .i64 (qcx s))] []) := by
 simp only [decide_eq_true_eq] at hp
 unfold gRNumber qcx
 rw [qae]
 exact lp_number s hp FUEL 0 0 (by omega) (by unfold FUEL; omega) (by omega) (by omega)

theorem stMonth_eq {y m : Int} (h : 1 <= y /\ y <= 9999) (hm : 1 <= m /\ m <= 12) : qib y m = qbh y (m + 1) - qbh y m := by
 unfold qib
 rw [if_pos (by omega), qe8 hm.1 hm.2]
 omega

noncomputable def F' (a b c d e f g : List Int) : Option Out :=
     cond (decide ((((qc8 a).size + (qc8 b).size : Nat) : Int) <= LIM)) (
     cond (decide ((((qc8 a ++ qc8 b).size + (qc8 c).size : Nat) : Int) <= LIM)) (
     cond (decide ((((qc8 a ++ qc8 b ++ qc8 c).size + (qc8 d).size : Nat) : Int) <= LIM)) (
     cond (decide ((((qc8 a ++ qc8 b ++ qc8 c ++ qc8 d).size + (qc8 e).size : Nat) : Int) <= LIM)) (
     cond (decide ((((qc8 a ++ qc8 b ++ qc8 c ++ qc8 d ++ qc8 e).size + (qc8 f).size : Nat) : Int) <= LIM)) (
     cond (decide ((((qc8 a ++ qc8 b ++ qc8 c ++ qc8 d ++ qc8 e ++ qc8 f).size + (qc8 g).size : Nat) : Int) <= LIM)) (
     cond (decide ((((qc8 a ++ qc8 b ++ qc8 c ++ qc8 d ++ qc8 e ++ qc8 f ++ qc8 g).size + (⟨#[90]⟩ : ByteArray).size : Nat) : Int) <= LIM)) (
     some (.ret [.cl (.str (qc8 a ++ qc8 b ++ qc8 c ++ qc8 d ++ qc8 e ++ qc8 f ++ qc8 g ++ (⟨#[90]⟩ : ByteArray)))] [])) none) none) none) none) none) none) none
theorem F'_eq {a b c d e f g : List Int} (ha : a.length = 2) (hb : b.length = 2) (hc : c.length = 2) (hd : d.length = 2) (he : e.length = 2) (hf : f.length = 2) (hg : g.length = 2) :
  F' a b c d e f g = some (.ret [.cl (.str (qc8 (a ++ b ++ c ++ d ++ e ++ f ++ g ++ [90])))] []) := by
 unfold F'
 rw [show (⟨#[90]⟩ : ByteArray) = qc8 [90] from rfl]
 simp only [strOf_append, strOf_size, List.length_append, ha, hb, hc, hd, he, hf, hg]
 refine qau (by unfold LIM; omega) (qau (by unfold LIM; omega) (qau (by unfold LIM; omega) (qau (by unfold LIM; omega) (qau (by unfold LIM; omega) (qau (by unfold LIM; omega) (qau (by show ((14 + 1 : Nat) : Int) <= LIM; unfold LIM; omega) rfl))))))

theorem lp_sum {y m h i c : Int} (F : Int -> Int -> Int -> Int -> Int -> Int -> Option Out) (hy : 1 <= y /\ y <= 9999) (hm : 1 <= m /\ m <= 12) : ∀ (fuel : Nat) (n k : Int), 1 <= k -> k <= m -> m - k < fuel -> 0 <= n -> n <= 4000000 + 31 * k ->
  qd6 (fun y18 y19 y20 y21 y22 y23 _ _ _ => F y18 y19 y20 y21 y22 y23) fuel y m h i c n k = F y m h i c (n + qbh y m - qbh y k)
 | 0, n, k, h1, h2, h3, h4, h5 => by omega
 | fuel + 1, n, k, h1, h2, h3, h4, h5 => by
  rw [show qd6 (fun y18 y19 y20 y21 y22 y23 _ _ _ => F y18 y19 y20 y21 y22 y23) (fuel + 1) = qki (qd6 (fun y18 y19 y20 y21 y22 y23 _ _ _ => F y18 y19 y20 y21 y22 y23) fuel) (fun y18 y19 y20 y21 y22 y23 _ _ _ => F y18 y19 y20 y21 y22 y23) from rfl]
  unfold qki
  have hmo := stMonth_eq hy (m := k) (by omega)
  have hst := qe8 (y := y) (m := k) (by omega) (by omega)
  have hr := qji y k
  extract_lets r18 x19 x20
  have e18 : r18 = qew y k := by show qib y k = _; rw [hmo]; omega
  refine qaf (fun hlt => ?_) fun hlt => ?_
  ·have e19 : x19 = n + qew y k := (i64_in (n + r18) (by omega)).trans (by rw [e18])
   have e20 : x20 = k + 1 := i64_in _ (by omega)
   rw [e19, e20]
   rw [lp_sum F hy hm fuel (n + qew y k) (k + 1) (by omega) (by omega) (by omega) (by omega) (by omega), hst]
   congr 1
   omega
  ·have : k = m := by omega
   subst this
   show F y k h i c n = _
   congr 1
   omega

theorem num2 {a b : Int} (ha : 0 <= a /\ a <= 255) (hb : 0 <= b /\ b <= 255) : stNum [a, b] 0 = (if qor a b < 0 then -1 else qor a b) /\ (qor a b = -100000 \/ 0 <= qor a b /\ qor a b <= 99) := by
 unfold qor stNum stNum stNum
 by_cases h1 : a < 48 \/ 57 < a
 ·rw [if_pos h1, if_pos (show (if a < 48 \/ 57 < a \/ b < 48 \/ 57 < b then (-100000 : Int) else _) < 0 by rw [if_pos (by omega)]; omega), if_pos (by omega)]; exact ⟨rfl, .inl rfl⟩
 ·by_cases h2 : b < 48 \/ 57 < b
  ·rw [if_neg h1, if_pos h2, if_pos (show (if a < 48 \/ 57 < a \/ b < 48 \/ 57 < b then (-100000 : Int) else _) < 0 by rw [if_pos (by omega)]; omega), if_pos (by omega)]; exact ⟨rfl, .inl rfl⟩
  ·rw [if_neg h1, if_neg h2, if_neg (by omega), if_neg (by omega)]
   exact ⟨by omega, by omega⟩
theorem num4 {a b c d : Int} (ha : 0 <= a /\ a <= 255) (hb : 0 <= b /\ b <= 255) (hc : 0 <= c /\ c <= 255) (hd : 0 <= d /\ d <= 255) : stNum [a, b, c, d] 0 = (if qor a b < 0 \/ qor c d < 0 then -1 else 100 * qor a b + qor c d) := by
 unfold qor stNum stNum stNum stNum stNum
 by_cases h1 : a < 48 \/ 57 < a
 ·rw [if_pos h1, if_pos (.inl (by rw [if_pos (by omega)]; omega))]
 ·by_cases h2 : b < 48 \/ 57 < b
  ·rw [if_neg h1, if_pos h2, if_pos (.inl (by rw [if_pos (by omega)]; omega))]
  ·by_cases h3 : c < 48 \/ 57 < c
   ·rw [if_neg h1, if_neg h2, if_pos h3, if_pos (show c < 48 \/ 57 < c \/ d < 48 \/ 57 < d by omega), if_pos (by omega)]
   ·by_cases h4 : d < 48 \/ 57 < d
    ·rw [if_neg h1, if_neg h2, if_neg h3, if_pos h4, if_pos (show c < 48 \/ 57 < c \/ d < 48 \/ 57 < d by omega), if_pos (by omega)]
    ·rw [if_neg h1, if_neg h2, if_neg h3, if_neg h4, if_neg (show ¬ (a < 48 \/ 57 < a \/ b < 48 \/ 57 < b) by omega), if_neg (show ¬ (c < 48 \/ 57 < c \/ d < 48 \/ 57 < d) by omega), if_neg (by omega)]
     omega
theorem qjn (s : ByteArray) {k : Nat} (h : k + 2 <= s.size) : bytesOf (s.extract k (k + 2)) = [bget s k, bget s (k + 1)] := by
 have hz : (s.extract k (k + 2)).size = 2 := by rw [ByteArray.size_extract]; omega
 have h0 := qc0 (s.extract k (k + 2)) (i := 0) (by omega)
 have h1 := qc0 (s.extract k (k + 2)) (i := 1) (by omega)
 rw [List.drop_zero] at h0
 rw [h0, h1, List.drop_eq_nil_of_le (by rw [qek]; omega), qcf s (by omega) (by omega) h, qcf s (by omega) (by omega) h]
 simp
theorem bytes_ext4 (s : ByteArray) (h : 4 <= s.size) : bytesOf (s.extract 0 4) = [bget s 0, bget s 1, bget s 2, bget s 3] := by
 have hz : (s.extract 0 4).size = 4 := by rw [ByteArray.size_extract]; omega
 have h0 := qc0 (s.extract 0 4) (i := 0) (by omega)
 have h1 := qc0 (s.extract 0 4) (i := 1) (by omega)
 have h2 := qc0 (s.extract 0 4) (i := 2) (by omega)
 have h3 := qc0 (s.extract 0 4) (i := 3) (by omega)
 rw [List.drop_zero] at h0
 rw [h0, h1, h2, h3, List.drop_eq_nil_of_le (by rw [qek]; omega), qcf s (by omega) (by omega) h, qcf s (by omega) (by omega) h, qcf s (by omega) (by omega) h, qcf s (by omega) (by omega) h]
 simp

/-- both ways to read numbers find the same dates fit -/
theorem fit_same {D01 D23 D4 D6 D8 D10 D12 : Int} (v01 : D01 = -100000 \/ 0 <= D01 /\ D01 <= 99) (v23 : D23 = -100000 \/ 0 <= D23 /\ D23 <= 99) (v4 : D4 = -100000 \/ 0 <= D4 /\ D4 <= 99) (v6 : D6 = -100000 \/ 0 <= D6 /\ D6 <= 99) (v8 : D8 = -100000 \/ 0 <= D8 /\ D8 <= 99) (v10 : D10 = -100000 \/ 0 <= D10 /\ D10 <= 99) (v12 : D12 = -100000 \/ 0 <= D12 /\ D12 <= 99)
  {y m d h i c : Int} (ey : y = if D01 < 0 \/ D23 < 0 then -1 else 100 * D01 + D23) (em : m = if D4 < 0 then -1 else D4) (ed : d = if D6 < 0 then -1 else D6) (eh : h = if D8 < 0 then -1 else D8) (ei : i = if D10 < 0 then -1 else D10) (ec : c = if D12 < 0 then -1 else D12) :
  (qlk (D23 + 100 * D01) D4 D6 D8 D10 D12 = true /\ qlk y m d h i c = true /\ y = D23 + 100 * D01 /\ m = D4 /\ d = D6 /\ h = D8 /\ i = D10 /\ c = D12) \/ (qlk (D23 + 100 * D01) D4 D6 D8 D10 D12 = false /\ qlk y m d h i c = false) := by
 cases hf : qlk (D23 + 100 * D01) D4 D6 D8 D10 D12 with
 | true =>
  left
  obtain ⟨⟨a1, a2, a3, a4⟩, ⟨a5, a6⟩, a7, a8, a9, a10, a11, a12⟩ := qmb hf
  have e1 : y = D23 + 100 * D01 := by rw [ey, if_neg (by omega)]; omega
  have e2 : m = D4 := by rw [em, if_neg (by omega)]
  have e3 : d = D6 := by rw [ed, if_neg (by omega)]
  have e4 : h = D8 := by rw [eh, if_neg (by omega)]
  have e5 : i = D10 := by rw [ei, if_neg (by omega)]
  have e6 : c = D12 := by rw [ec, if_neg (by omega)]
  exact ⟨rfl, by rw [e1, e2, e3, e4, e5, e6, hf], e1, e2, e3, e4, e5, e6⟩
 | false =>
  right
  refine ⟨rfl, ?_⟩
  cases hg : qlk y m d h i c with
  | false => rfl
  | true =>
   exfalso
   obtain ⟨⟨a1, a2, a3, a4⟩, ⟨a5, a6⟩, a7, a8, a9, a10, a11, a12⟩ := qmb hg
   have e1 : y = D23 + 100 * D01 := by split at ey <;> omega
   have e2 : m = D4 := by split at em <;> omega
   have e3 : d = D6 := by split at ed <;> omega
   have e4 : h = D8 := by split at eh <;> omega
   have e5 : i = D10 := by split at ei <;> omega
   have e6 : c = D12 := by split at ec <;> omega
   rw [<- e1, <- e2, <- e3, <- e4, <- e5, <- e6, hg] at hf
   cases hf

theorem nRRead (s : ByteArray) (hp : true = true) : gRRead s = some (.ret [.cl (.int .i64 (qom s).1), .cl (.int .i64 (qom s).2)] []) := by
 unfold gRRead qom
 refine qb8 (fun h => ?_) fun h => qau (by omega) ?_
 ·rw [if_neg (by omega)]
 have hs : s.size = 15 := by omega
 have sz : ∀ k n : Nat, k + n <= 15 -> (s.extract k (k + n)).size = n := fun k n hk => by rw [ByteArray.size_extract]; omega
 have z0 := sz 0 4 (by omega)
 have z4 := sz 4 2 (by omega)
 have z6 := sz 6 2 (by omega)
 have z8 := sz 8 2 (by omega)
 have z10 := sz 10 2 (by omega)
 have z12 := sz 12 2 (by omega)
 have b := qjb s
 have n0 : qcx (s.extract 0 4) = _ := (congrArg (stNum · 0) (bytes_ext4 s (by omega))).trans (num4 (b 0) (b 1) (b 2) (b 3))
 have n4 : qcx (s.extract 4 6) = _ := (congrArg (stNum · 0) (qjn s (k := 4) (by omega))).trans (num2 (b 4) (b 5)).1
 have n6 : qcx (s.extract 6 8) = _ := (congrArg (stNum · 0) (qjn s (k := 6) (by omega))).trans (num2 (b 6) (b 7)).1
 have n8 : qcx (s.extract 8 10) = _ := (congrArg (stNum · 0) (qjn s (k := 8) (by omega))).trans (num2 (b 8) (b 9)).1
 have n10 : qcx (s.extract 10 12) = _ := (congrArg (stNum · 0) (qjn s (k := 10) (by omega))).trans (num2 (b 10) (b 11)).1
 have n12 : qcx (s.extract 12 14) = _ := (congrArg (stNum · 0) (qjn s (k := 12) (by omega))).trans (num2 (b 12) (b 13)).1
 have same := fit_same (num2 (b 0) (b 1)).2 (num2 (b 2) (b 3)).2 (num2 (b 4) (b 5)).2 (num2 (b 6) (b 7)).2 (num2 (b 8) (b 9)).2 (num2 (b 10) (b 11)).2 (num2 (b 12) (b 13)).2 n0 n4 n6 n8 n10 n12
 extract_lets x1 s2 r3 s4 r5 s6 r7 s8 r9 s10 r11 s12 r13 r14 r15 x16 x17 y m d hh i c
 refine qb8 (fun h => ?_) fun h1 => ?_
 ·rw [if_neg fun e => h e.2]
 rw [if_pos ⟨hs, h1⟩]
 have z0 : s2.size = 4 := z0
 have z4 : s4.size = 2 := z4
 have z6 : s6.size = 2 := z6
 have z8 : s8.size = 2 := z8
 have z10 : s10.size = 2 := z10
 have z12 : s12.size = 2 := z12
 refine qau (by omega) (qau (by omega) (qau (by omega) (qau (by omega) (qau (by omega) (qau (by omega) (qau (by omega) (qau (by omega) (qau (by omega) (qau (by omega) (qau (by omega) (qau (by omega) ?_)))))))))))
 have same : (qlk y m d hh i c = true /\ qlk r3 r5 r7 r9 r11 r13 = true /\ r3 = y /\ r5 = m /\ r7 = d /\ r9 = hh /\ r11 = i /\ r13 = c) \/ (qlk y m d hh i c = false /\ qlk r3 r5 r7 r9 r11 r13 = false) := same
 have e14 : r14 = qib r3 r5 := rfl
 have e15 : r15 = qbl r3 := rfl
 have e16 : x16 = IntKind.i64.wrap (r7 - 1) := rfl
 have e17 : x17 = IntKind.i64.wrap (r15 + x16) := rfl
 clear_value r14 r15 x16 x17 r3 r5 r7 r9 r11 r13 y m d hh i c s2 s4 s6 s8 s10 s12 x1
 clear n0 n4 n6 n8 n10 n12 z0 z4 z6 z8 z10 z12 b sz h1 hs h
 rcases same with ⟨hf, hg, rfl, rfl, rfl, rfl, rfl, rfl⟩ | ⟨hf, hg⟩
 ·rw [if_pos hf]
  obtain ⟨⟨a1, a2, a3, a4⟩, ⟨a5, a6⟩, a7, a8, a9, a10, a11, a12⟩ := qmb hf
  have hmo : qib r3 r5 = qew r3 r5 := by unfold qib; rw [if_pos (by omega)]
  have hr := qji r3 r5
  have hy : 0 <= qbl r3 /\ qbl r3 <= 3652059 := by unfold qbl; omega
  have e16 : x16 = r7 - 1 := e16.trans (i64_in _ (by omega))
  have e17 : x17 = qbl r3 + (r7 - 1) := e17.trans ((i64_in _ (by omega)).trans (by rw [e15, e16]))
  refine qfq (by omega) (qfq (by omega) (qfq (by omega) (qfq (by omega) (qfq (by omega) (qfq (by omega) (qfq (by omega) (qfq (by omega) (qba (by simp only [stOk, decide_eq_true_eq]; omega) ?_))))))))
  rw [qae, e17]
  refine (lp_sum (fun _ _ y20 y21 y22 y23 =>
            let x27 : Int := IntKind.i64.wrap (y23 * 86400)
            let x28 : Int := IntKind.i64.wrap (((-62135596800) : Int) + x27)
            let x29 : Int := IntKind.i64.wrap (y20 * 3600)
            let x30 : Int := IntKind.i64.wrap (y21 * 60)
            let x31 : Int := IntKind.i64.wrap (x29 + x30)
            let x32 : Int := IntKind.i64.wrap (x31 + y22)
            let x33 : Int := IntKind.i64.wrap (x28 + x32)
            some (.ret [.cl (.int .i64 x33), .cl (.int .i64 0)] [])) ⟨a1, a2⟩ ⟨a3, a4⟩ FUEL _ 1 (by omega) (by omega) (by unfold FUEL; omega) (by omega) (by omega)).trans ?_
  rw [qn2]
  have hA : 0 <= qbh r3 r5 /\ qbh r3 r5 <= 335 := by refine ⟨?_, ?_⟩ <;> (unfold qbh; split <;> (try split) <;> omega)
  extract_lets x27 x28 x29 x30 x31 x32 x33
  have e27 : x27 = (qbl r3 + (r7 - 1) + qbh r3 r5 - 0) * 86400 := i64_in _ (by omega)
  have e28 : x28 = -62135596800 + x27 := i64_in _ (by omega)
  have e29 : x29 = r9 * 3600 := i64_in _ (by omega)
  have e30 : x30 = r11 * 60 := i64_in _ (by omega)
  have e31 : x31 = x29 + x30 := i64_in _ (by omega)
  have e32 : x32 = x31 + r13 := i64_in _ (by omega)
  have e33 : x33 = x28 + x32 := i64_in _ (by omega)
  have e : x33 = qk8 r3 r5 r7 r9 r11 r13 := by
   unfold qk8
   rw [e33, e28, e27, e32, e31, e29, e30]
   omega
  rw [e]
 ·rw [if_neg (by rw [hf]; simp)]
  have hg' : ¬ ((1 <= r3 /\ r3 <= 9999 /\ 1 <= r5 /\ r5 <= 12) /\ (1 <= r7 /\ r7 <= qew r3 r5) /\ 0 <= r9 /\ r9 < 24 /\ 0 <= r11 /\ r11 < 60 /\ 0 <= r13 /\ r13 < 60) := by
   unfold qlk at hg
   simpa only [decide_eq_false_iff_not] using hg
  have hmo : qib r3 r5 = if 1 <= r3 /\ r3 <= 9999 /\ 1 <= r5 /\ r5 <= 12 then qew r3 r5 else 0 := rfl
  refine qaf (fun h => rfl) fun g1 => qaf (fun h => rfl) fun g2 => qaf (fun h => rfl) fun g3 => qaf (fun h => rfl) fun g4 => qaf (fun h => rfl) fun g5 => qaf (fun h => rfl) fun g6 => qaf (fun h => rfl) fun g7 => qaf (fun h => rfl) fun g8 => ?_
  exfalso
  apply hg'
  rw [e14] at g2
  split at hmo <;> omega
end Go.Proofs.YtbgkadaidhgggaaDoorA
