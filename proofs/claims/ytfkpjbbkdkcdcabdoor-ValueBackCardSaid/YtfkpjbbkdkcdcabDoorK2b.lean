/-
 A function's reading is its contract. Conditions: none.
-/
import Derived.Test.YtfkpjbbkdkcdcabDoorK2a
import Derived.RangeFuncLeaves
import Derived.RangeFuncRecord
import Derived.RangeFuncOwn
import Derived.Recover
set_option linter.unusedVariables false
set_option linter.unusedSimpArgs false
namespace Go.Proofs.YtfkpjbbkdkcdcabDoorA

section
variable {P : Program} {E : Env} {w0 : Base} {bl I0 : Nat -> Prop}

theorem run_resultVar_cell {t : TypeId} {v val : Value} {w : World} (h : (Instr.loadAt t v).run P w = .ok val w) : (do loadVar t (<- asAddr v) : Sem Value).run P w = .ok val w := by
 cases v with
 | pointer p =>
  cases p with
  | none => simp [Instr.loadAt, Instr.sureAddr] at h
  | some A => simpa [Instr.loadAt, Instr.sureAddr, asAddr] using h
 | _ => simp [Instr.loadAt, Instr.sureAddr] at h

def resVar (tmps : Array Value) : ResultVar -> Sem Value
 | .tmp t => pure (tmps.getD t undef)
 | .cell a t => do loadVar t (<- asAddr (tmps.getD a undef))

theorem results_rep {σ : St} {a : Act} {w : World} {Im : Nat -> Prop} {ρ : Nat -> Loc} (hI : Inv E w0 bl I0 σ.slots σ.heap a w Im ρ) : ∀ (l : List ResultVar) (ts : List TypeId) (vs : List V), Go.Proofs.YtfkpjbbkdkcdcabDoorA.results P l σ ts = some vs ->
  ∃ us, (l.mapM (resVar a.tmps)).run P w = .ok us w /\ RepL w Im ρ (shOf σ.heap) vs us
 | [], ts, vs, h => by
  simp only [Go.Proofs.YtfkpjbbkdkcdcabDoorA.results, Option.some.injEq] at h
  subst h
  exact ⟨[], by simp, rfl, by simp⟩
 | .tmp t :: r, ts, vs, h => by
  simp only [Go.Proofs.YtfkpjbbkdkcdcabDoorA.results] at h
  cases hr : Go.Proofs.YtfkpjbbkdkcdcabDoorA.results P r σ ts.tail with
  | none => rw [hr] at h; cases h
  | some l =>
   rw [hr] at h
   simp only [Option.some.injEq] at h
   subst h
   obtain ⟨us, h1, h2, h3⟩ := results_rep hI r ts.tail l hr
   refine ⟨a.tmps.getD t undef :: us, ?_, by simp [h2], fun j c v hj hv => ?_⟩
   ·rw [List.mapM_cons]
    simp only [Sem.run_bind, resVar, Sem.run_pure, Result.andThen_ok, h1]
   ·cases j with
    | zero =>
     simp only [List.getElem?_cons_zero, Option.some.injEq] at hj hv
     subst hj hv
     exact hI.sl t
    | succ j => simp at hj hv; exact h3 j c v hj hv
 | .cell c t :: r, ts, vs, h => by
  simp only [Go.Proofs.YtfkpjbbkdkcdcabDoorA.results] at h
  cases hl : loadK P σ.heap t (getV σ.slots c) some with
  | none => rw [hl] at h; cases h
  | some v0 =>
   cases hr : Go.Proofs.YtfkpjbbkdkcdcabDoorA.results P r σ ts.tail with
   | none => rw [hl, hr] at h; cases h
   | some l =>
    rw [hl, hr] at h
    simp only [Option.some.injEq] at h
    subst h
    obtain ⟨us, h1, h2, h3⟩ := results_rep hI r ts.tail l hr
    obtain ⟨v', val, g1, g2, g3⟩ := loadK_sound hI.gam.ob hl (hI.sl c)
    simp only [Option.some.injEq] at g1
    subst g1
    refine ⟨val :: us, ?_, by simp [h2], fun j d v hj hv => ?_⟩
    ·rw [List.mapM_cons]
     have := run_resultVar_cell g3
     simp only [Sem.run_bind, resVar, Sem.run_pure, Result.andThen_ok, h1] at this ⊢
     rw [this]
     simp [h1]
    ·cases j with
     | zero => simp at hj hv; subst hj hv; exact g2
     | succ j => simp at hj hv; exact h3 j d v hj hv

theorem run_results {fn : Func} {tmps : Array Value} {us : List Value} {w : World} (h : (fn.results.toList.mapM (resVar tmps)).run P w = .ok us w) : (Go.results fn tmps).run P w = .ok (wrap us) w := by
 have e : (fn.results.mapM (resVar tmps)).run P w = .ok us.toArray w := by
  rw [Array.mapM_eq_mapM_toList]
  simp only [Sem.run_map, h, Result.andThen_ok]
 have e2 : (Go.results fn tmps) = (do let vs <- fn.results.mapM (resVar tmps); pure (if h : vs.size = 1 then vs[0] else .tuple vs)) := by
  unfold Go.results
  congr 1
  try congr 1
  try (funext x; cases x <;> rfl)
 rw [e2]
 simp only [Sem.run_bind, e, Result.andThen_ok, Sem.run_pure]
 cases us with
 | nil => rfl
 | cons u r => cases r <;> simp [wrap]

theorem closeRes_spec {H : Heap} : ∀ {vs : List V} {ts : List TypeId} {l : List V}, closeRes P H ts vs = some l -> l.length = vs.length /\ ∀ (j : Nat) (v u : V), vs[j]? = some v -> l[j]? = some u -> ∃ t c, u = .cl c /\ closeF P H 6 t v = some c
 | [], ts, l, h => by simp [closeRes] at h; subst h; simp
 | v :: r, ts, l, h => by
  simp only [closeRes] at h
  cases h1 : closeF P H 6 (ts.headD 0) v with
  | none => rw [h1] at h; cases h
  | some c =>
   cases h2 : closeRes P H ts.tail r with
   | none => rw [h1, h2] at h; cases h
   | some l' =>
    rw [h1, h2] at h
    simp only [Option.some.injEq] at h
    subst h
    obtain ⟨g1, g2⟩ := closeRes_spec h2
    refine ⟨by simp [g1], fun j x u hj hu => ?_⟩
    cases j with
    | zero => simp at hj hu; subst hj hu; exact ⟨_, c, rfl, h1⟩
    | succ j => simp at hj hu; exact g2 j x u hj hu

/-- the objects that were given, at the end -/
theorem out_post {s : List (Nat × V)} {H : Heap} {a : Act} {w : World} {Im : Nat -> Prop} {ρ ρ0 : Nat -> Loc} {obs : List Obj} (hI : Inv E w0 bl I0 s H a w Im ρ) (hsm : obs.length <= 32)
  (han : ∀ j o, obs[j]? = some o -> w0.an j = some (shp o, ρ0 j)) : Post w0.w I0 ρ0 bl obs w Im ρ (objsOut H obs.length) := by
 have hget : ∀ j, alGet (heapO 0 (objsOut H obs.length)) j = if j < obs.length then alGet H j else none := fun j => by
  rw [alGet_heapO, if_pos (by omega), Nat.sub_zero]
  unfold objsOut
  rw [List.getElem?_map]
  by_cases hj : j < obs.length
  ·rw [List.getElem?_range hj, if_pos hj]; rfl
  ·rw [List.getElem?_eq_none (by simpa using hj), if_neg hj]; rfl
 refine ⟨hI.fr, hI.gam.map (f := fun p => p) (g := fun c => c) (Bad := fun _ => False) (fun c => rfl) (fun c => .inr ⟨(renV_id c).symm, fun _ _ h => h⟩) (fun q o' hq => ?_) (fun m _ => ?_), fun j o o' hj hj' => ?_⟩
 ·rw [hget] at hq
  split at hq
  ·refine ⟨q, o', hq, rfl, rfl, ?_⟩
   obtain ⟨row, lock⟩ := o'
   cases row <;> simp [mapRw]
  ·cases hq
 ·by_cases hm : m < obs.length
  ·right; exact ⟨by simp [shOf, hget, hm], rfl⟩
  ·left; simp [shOf, hget, hm]
 ·have hlt : j < obs.length := (List.getElem?_eq_some_iff.1 hj).1
  unfold objsOut at hj'
  rw [List.getElem?_map, List.getElem?_range hlt] at hj'
  simp only [Option.map_some, Option.some.injEq] at hj'
  have h1 := hI.st j o' (by omega) hj'
  rw [han j o hj] at h1
  simp only [Option.some.injEq, Prod.mk.injEq] at h1
  exact ⟨h1.1.symm, h1.2.symm⟩

theorem renRw_map (f : Nat -> Nat) (r : Rw) : renRw f r = mapRw (renV f) r := by
 cases r <;> simp only [renRw, mapRw]
 case var l =>
  congr 1
  have key : ∀ l : List V, renL f l = l.map (renV f) := fun l => by
   induction l with
   | nil => rfl
   | cons v r ih => simp [renL, ih]
  exact key l

/-- the objects that were given, and new ones, at the end -/
theorem keep_post {s : List (Nat × V)} {H : Heap} {a : Act} {w : World} {Im : Nat -> Prop} {ρ ρ0 : Nat -> Loc} {obs : List Obj} {rest : List Nat} (hI : Inv E w0 bl I0 s H a w Im ρ) (hsm : obs.length <= 32)
  (hlen : (List.range obs.length ++ rest).length <= 32) (hnd : (List.range obs.length ++ rest).Nodup)
  (han : ∀ j o, obs[j]? = some o -> w0.an j = some (shp o, ρ0 j)) : ∃ ρ', Post w0.w I0 ρ0 bl obs w Im ρ' (((List.range obs.length ++ rest).map (alGet H)).map fun o => o.map fun o => { o with row := renRw (indexOf (List.range obs.length ++ rest) 0) o.row }) /\
   ∀ v x, VRep w Im ρ (shOf H) v x -> VRep w Im ρ' (shOf (heapO 0 (((List.range obs.length ++ rest).map (alGet H)).map fun o => o.map fun o => { o with row := renRw (indexOf (List.range obs.length ++ rest) 0) o.row }))) (renV (indexOf (List.range obs.length ++ rest) 0) v) x := by
 have hfst : ∀ j, j < obs.length -> (List.range obs.length ++ rest)[j]? = some j := fun j hj => by
  rw [List.getElem?_append_left (by simpa using hj), List.getElem?_range hj]
 generalize hall : List.range obs.length ++ rest = all at *
 have hget : ∀ q, alGet (heapO 0 ((all.map (alGet H)).map fun o => o.map fun o => { o with row := renRw (indexOf all 0) o.row })) q = ((all[q]?).bind (alGet H)).map fun o => { o with row := mapRw (renV (indexOf all 0)) o.row } := fun q => by
  rw [alGet_heapO, if_pos (by omega), Nat.sub_zero, List.getElem?_map, List.getElem?_map]
  cases all[q]? with
  | none => rfl
  | some p => simp only [Option.map_some, Option.bind_some, id, renRw_map]
 let ρ' : Nat -> Loc := fun q => match all[q]? with | some p => ρ p | none => none
 have hin : ∀ (j p : Nat), all[j]? = some p -> indexOf all 0 p = j /\ ρ' j = ρ p := fun j p h => ⟨by rw [indexOf_in hnd h, Nat.zero_add], by show (match all[j]? with | some p => ρ p | none => none) = _; rw [h]⟩
 have hb : ∀ m, ¬ False -> shOf (heapO 0 ((all.map (alGet H)).map fun o => o.map fun o => { o with row := renRw (indexOf all 0) o.row })) (indexOf all 0 m) = none \/
   (shOf (heapO 0 ((all.map (alGet H)).map fun o => o.map fun o => { o with row := renRw (indexOf all 0) o.row })) (indexOf all 0 m) = shOf H m /\ ρ' (indexOf all 0 m) = ρ m) := fun m _ => by
  by_cases hm : m ∈ all
  ·obtain ⟨j, hj⟩ := List.mem_iff_getElem?.1 hm
   obtain ⟨e1, e2⟩ := hin j m hj
   right
   rw [e1]
   refine ⟨?_, e2⟩
   unfold shOf
   rw [hget, hj]
   simp only [Option.bind_some]
   cases alGet H m with
   | none => rfl
   | some o => simp only [Option.map_some, mapRw_shp]
  ·left
   unfold shOf
   rw [indexOf_out hm, hget, List.getElem?_eq_none (by omega)]
   rfl
 refine ⟨ρ', ⟨hI.fr, hI.gam.map (f := indexOf all 0) (g := renV (indexOf all 0)) (Bad := fun _ => False) (fun c => rfl) (fun c => .inr ⟨rfl, fun _ _ h => h⟩) (fun q o' hq => ?_) hb, fun j o o' hj hj' => ?_⟩, fun v x hx =>
  map_rep (g := renV (indexOf all 0)) (Bad := fun _ => False) (fun c => .inr ⟨rfl, fun _ _ h => h⟩) hb v x hx⟩
 ·rw [hget] at hq
  cases hp : all[q]? with
  | none => rw [hp] at hq; cases hq
  | some p =>
   rw [hp] at hq
   obtain ⟨o, ho, rfl⟩ := Option.map_eq_some_iff.1 hq
   obtain ⟨e1, e2⟩ := hin q p hp
   exact ⟨p, o, ho, e1, e2, rfl⟩
 ·have hlt : j < obs.length := (List.getElem?_eq_some_iff.1 hj).1
  rw [List.getElem?_map, List.getElem?_map, hfst j hlt] at hj'
  simp only [Option.map_some, Option.some.injEq] at hj'
  obtain ⟨u, hu, rfl⟩ := Option.map_eq_some_iff.1 hj'
  have h1 := hI.st j u (by omega) hu
  rw [han j o hj] at h1
  simp only [Option.some.injEq, Prod.mk.injEq] at h1
  rw [renRw_map, mapRw_shp]
  exact ⟨h1.1.symm, by rw [(hin j j (hfst j hlt)).2]; exact h1.2.symm⟩

theorem finish_sound {keep : Bool} {fn : Func} {obs : List Obj} {σ : St} {out : Out} {a : Act} {w : World} {ρ0 : Nat -> Loc} (h : finish P keep fn obs.length σ = some out) (hO : On E w0 bl I0 σ a w) (hsm : obs.length <= 32)
  (han : ∀ j o, obs[j]? = some o -> w0.an j = some (shp o, ρ0 j)) : ∃ v, (Go.results fn a.tmps).run P w = .ok v w /\ Ends w0.w I0 ρ0 bl obs out (.returned v) w := by
 obtain ⟨Im, ρ, hI⟩ := hO
 unfold finish at h
 split at h
 ·cases h
 ·rename_i vs hvs
  obtain ⟨us, h1, h2⟩ := results_rep hI _ _ vs hvs
  refine ⟨wrap us, run_results h1, ?_⟩
  cases keep with
  | true =>
   simp only [cond_true] at h
   replace h := cond_some h
   obtain ⟨hle, h⟩ := h
   simp only [Option.some.injEq] at h
   subst h
   obtain ⟨ρ', k1, k2⟩ := keep_post (ρ0 := ρ0) hI hsm (Nat.le_of_ble_eq_true hle) (List.nodup_append.2 ⟨List.nodup_range, (nodup_dedup _).filter _, fun x hx y hy => by
    have h1 := List.mem_range.1 hx
    have h2 := (List.mem_filter.1 hy).2
    simp only [Bool.not_eq_true'] at h2
    intro e
    subst e
    have : Nat.blt x obs.length = true := by simpa [Nat.blt_eq] using h1
    rw [this] at h2; cases h2⟩) han
   refine ⟨us, Im, ρ', rfl, k1, ?_, fun j c v hj hv => ?_⟩
   ·rw [renL_length]; exact h2.1
   ·rw [renL_get] at hj
    obtain ⟨d, hd, rfl⟩ := Option.map_eq_some_iff.1 hj
    exact k2 d v (h2.2 j d v hd hv)
  | false =>
   simp only [cond_false] at h
   replace h := cond_some h
   obtain ⟨hall, h⟩ := h
   split at h
   ·rename_i l hl
    simp only [Option.some.injEq] at h
    subst h
    obtain ⟨Im', j1, j2, j3, j4⟩ := Inv.lockAll (vs.flatMap (reach σ.heap 6)) σ.heap Im hI fun q o hq => ⟨o, hq, rfl⟩
    have hsame : objsOut (updH σ.heap (lockAll σ.heap (vs.flatMap (reach σ.heap 6)))) obs.length = objsOut σ.heap obs.length := by
     unfold objsOut
     apply List.map_congr_left
     intro j hj
     have hj := List.mem_range.1 hj
     by_cases hm : j ∈ vs.flatMap (reach σ.heap 6)
     ·have hlk := List.all_eq_true.1 hall j hm
      have hb : Nat.blt j obs.length = true := by simpa [Nat.blt_eq] using hj
      simp only [hb, Bool.not_true, Bool.false_or] at hlk
      cases ho : alGet σ.heap j with
      | none =>
       cases h2 : alGet (updH σ.heap (lockAll σ.heap (vs.flatMap (reach σ.heap 6)))) j with
       | none => rfl
       | some o =>
        obtain ⟨o1, g, _⟩ := (sameRows_lockAll (vs.flatMap (reach σ.heap 6)) (.refl σ.heap)).bwd h2
        rw [ho] at g; cases g
      | some o =>
       rw [ho] at hlk
       rw [(lockAll_get _ σ.heap j).1 hm o ho]
       obtain ⟨row, lock⟩ := o
       have hlk : lock = true := hlk
       subst hlk
       rfl
     ·exact (lockAll_get _ σ.heap j).2 hm
    have hpost := out_post (ρ0 := ρ0) j1 hsm han
    rw [hsame] at hpost
    obtain ⟨g1, g2⟩ := closeRes_spec hl
    refine ⟨us, Im', ρ, rfl, hpost, by rw [g1]; exact h2.1, fun j c v hj hv => ?_⟩
    obtain ⟨v0, hv0⟩ := getElem?_of_length (l := l) (vs := vs) g1.symm hj
    obtain ⟨t, d, rfl, hcl⟩ := g2 j v0 c hv0 hj
    exact .cl _ _ (close_rep P hI.gam.ob j2 6 t v0 d v hcl (h2.2 j v0 v hv0 hv) fun p hp o ho b x y hb => j3 p (List.mem_flatMap.2 ⟨v0, List.mem_of_getElem? hv0, hp⟩) o ho b x y hb)
   ·cases h

/-! ### marks that ranges over functions leave -/
theorem CRep.cells {w w' : World} {Im : Nat -> Prop} {c : CV} {v : Value} (h : CRep w Im c v) (hc : ∀ a, w'.cell? a = w.cell? a) : CRep w' Im c v := by
 induction h with
 | int k n => exact .int k n
 | bool b => exact .bool b
 | str s => exact .str s
 | nili => exact .nili
 | nilp => exact .nilp
 | nilfn => exact .nilfn
 | sli k l a len cap h1 h2 h3 =>
  refine .sli k l a len cap h1 h2 fun i n hi => ?_
  obtain ⟨ad, e, hb, h⟩ := h3 i n hi
  exact ⟨ad, e, hb, (hc _).trans h⟩
 | slg e l a len cap f h1 h2 h3 h4 h6 h5 ih =>
  refine .slg e l a len cap f h1 h2 h3 (fun j c hj => ?_) h6 ih
  obtain ⟨ad, e, hb, h⟩ := h4 j c hj
  exact ⟨ad, e, hb, (hc _).trans h⟩
 | agg l vs h1 h2 _ ih => exact .agg l vs h1 h2 ih
 | aggi n k l h => exact .aggi n k l h
 | agga n e l vs h1 h2 h3 h4 _ ih => exact .agga n e l vs h1 h2 h3 h4 ih
 | iface t c v _ ih => exact .iface t c v ih
 | fn f a b va vb h1 h2 _ _ ih1 ih2 => exact .fn f a b va vb h1 h2 ih1 ih2
 | vp r i o e cs b off f h1 h2 h3 h4 h5 _ ih => exact .vp r i o e cs b off f h1 h2 h3 (fun j c hj => (hc _).trans (h4 j c hj)) h5 ih
 | any p v h => exact .any p v h
theorem VRep.cells {w w' : World} {Im : Nat -> Prop} {ρ : Nat -> Loc} {S : Nat -> Option Sh} {v : V} {x : Value} (h : VRep w Im ρ S v x) (hc : ∀ a, w'.cell? a = w.cell? a) : VRep w' Im ρ S v x := by
 induction h with
 | undef v => exact .undef v
 | cl c v h => exact .cl c v (h.cells hc)
 | nils => exact .nils
 | agg l vs h1 h2 _ ih => exact .agg l vs h1 h2 ih
 | tup l vs h1 _ ih => exact .tup l vs h1 ih
 | iface t c v _ ih => exact .iface t c v ih
 | fn f a b va vb h1 h2 _ _ ih1 ih2 => exact .fn f a b va vb h1 h2 ih1 ih2
 | ptrN p i o ad h => exact .ptrN p i o ad h
 | ptr p i o s b base lim h1 h2 h3 => exact .ptr p i o s b base lim h1 h2 h3
 | aptrN p n e ad h => exact .aptrN p n e ad h
 | aptr p n e b base lim h1 h2 => exact .aptr p n e b base lim h1 h2
 | refN p o len tip e a cap h1 h2 h3 => exact .refN p o len tip e a cap h1 h2 h3
 | refV p s tip e h1 h2 h3 h4 => exact .refV p s tip e h1 h2 h3 h4
 | ref p o len tip e s b base lim ad cap h1 h2 h3 h4 h5 h6 h7 h8 => exact .ref p o len tip e s b base lim ad cap h1 h2 h3 h4 h5 h6 h7 h8
theorem Inv.shut {s : List (Nat × V)} {H : Heap} {a a' : Act} {w w' : World} {Im : Nat -> Prop} {ρ : Nat -> Loc} (h : Inv E w0 bl I0 s H a w Im ρ) (ha : a'.tmps = a.tmps) (hh : Held E w0.df w0.w.heap.size a' w' Im)
  (hc : ∀ a, w'.cell? a = w.cell? a) (hz : ∀ a, w'.frozen? a = w.frozen? a) (hs : w'.heap.size = w.heap.size) (ho : w'.os = w.os) (ht : w'.tape = w.tape) (hu : w'.output = w.output)
  (hb : ∀ b, b < w0.w.heap.size -> w'.heap[b]? = w.heap[b]?) : Inv E w0 bl I0 s H a' w' Im ρ := by
 refine ⟨⟨fun b hb => by rw [hs]; exact h.gam.im b hb, h.gam.i0, fun p o hp => ?_, h.gam.dj, fun p o b x y hp hr => by rw [hs]; exact h.gam.lk p o b x y hp hr, h.gam.imo⟩,
  ⟨ho.trans h.fr.os, ht.trans h.fr.tape, hu.trans h.fr.output, by rw [hs]; exact h.fr.size, fun b hlt hn => (hb b hlt).trans (h.fr.block b hlt hn)⟩, fun t => by rw [ha]; exact (h.sl t).cells hc, by rw [ha]; exact h.nt, hh, fun g c hg => (h.gl g c hg).cells hc, h.st⟩
 have := h.gam.ob p o hp
 cases hr : ρ p with
 | none => rw [hr] at this; exact this
 | some l =>
  rw [hr] at this
  obtain ⟨b, base, lim⟩ := l
  obtain ⟨h1, h2, h3, h4, h5⟩ := this
  exact ⟨h1, by rw [hs]; exact h2, h3, fun i hi => ⟨by rw [hc]; exact (h4 i hi).1, by rw [hz]; exact (h4 i hi).2⟩, fun j c hj => let ⟨v, hv1, ho, hv2⟩ := h5 j c hj; ⟨v, by rw [hc]; exact hv1, ho, hv2.cells hc⟩⟩
theorem shut_cells {w : World} {D : Nat} {o o' : Go.Obj} (h : w.heap[D]? = some o) (ho : o.isCells = false) (ho' : o'.isCells = false) (a : Addr) : (w.putObj D o').cell? a = w.cell? a /\ (w.putObj D o').frozen? a = w.frozen? a := by
 by_cases e : a.block = D
 ·have h1 := World.putObj_heap_same (w := w) (o := o') (Array.getElem?_eq_some_iff.1 h).1
  unfold World.cell? World.frozen?
  rw [e, h, h1]
  cases o <;> cases o' <;> simp_all [Go.Obj.isCells]
 ·have h1 := World.putObj_heap_other (w := w) (o := o') e
  unfold World.cell? World.frozen?
  rw [h1]
  exact ⟨rfl, rfl⟩
theorem leaves_marks {fn : Func} {R : Ending -> World -> Prop} {u : FrameMode} (hu : u ≠ .run) {s : List (Nat × V)} {H : Heap} {Im : Nat -> Prop} {ρ : Nat -> Loc} {tmps : Array Value} : ∀ (Ds : List Nat) (w : World), Ds.Nodup -> (∀ D ∈ Ds, w0.w.heap.size <= D /\ Im D /\ w.heap[D]? = some (.deferred (some []))) -> (E.rg = false -> Ds = []) -> w0.df = [] ->
  Inv E w0 bl I0 s H ⟨tmps, Ds.map mark⟩ w Im ρ -> (∀ w1, Inv E w0 bl I0 s H ⟨tmps, []⟩ w1 Im ρ -> (∀ a, w1.cell? a = w.cell? a) -> LeavesIn Fence.wide 0 P fn tmps R [] u w1) -> LeavesInM Fence.wide 0 P fn tmps R (Ds.map mark) u w
 | [], w, _, _, _, _, hI, hR => hR w hI fun _ => rfl
 | D :: Ds, w, hn, hD, hrg, hdf, hI, hR => by
  obtain ⟨h1, h2, h3⟩ := hD D (by simp)
  have hcc := shut_cells h3 rfl (o' := .deferred none) rfl
  have hD' : ∀ D' ∈ Ds, w0.w.heap.size <= D' /\ Im D' /\ (w.putObj D (.deferred none)).heap[D']? = some (.deferred (some [])) := fun D' hD' => by
   obtain ⟨g1, g2, g3⟩ := hD D' (by simp [hD'])
   exact ⟨g1, g2, (World.putObj_heap_other (fun e => (List.nodup_cons.1 hn).1 (by rw [<- e]; exact hD'))).trans g3⟩
  have hI' : Inv E w0 bl I0 s H ⟨tmps, Ds.map mark⟩ (w.putObj D (.deferred none)) Im ρ :=
   hI.shut rfl ⟨Ds, by rw [hdf, List.append_nil], (List.nodup_cons.1 hn).2, hD', fun e => by cases hrg e⟩ (fun a => (hcc a).1) (fun a => (hcc a).2) (by simp [World.putObj]) rfl rfl rfl fun b hb => World.putObj_heap_other (by omega)
  exact ⟨hu, .inl ⟨D, _, rfl, run_takeDeferred h3, leaves_marks hu Ds _ (List.nodup_cons.1 hn).2 hD' (fun e => by cases hrg e) hdf hI' fun w1 k1 k2 => hR w1 k1 fun a => (k2 a).trans (hcc a).1⟩⟩
theorem leaves_ret {fn : Func} {R : Ending -> World -> Prop} {s : List (Nat × V)} {H : Heap} {a : Act} {w : World} {Im : Nat -> Prop} {ρ : Nat -> Loc} (hdf : w0.df = []) (hI : Inv E w0 bl I0 s H a w Im ρ)
  (h : ∀ w1 (a1 : Act), a.tmps = a1.tmps -> Inv E w0 bl I0 s H a1 w1 Im ρ -> ∃ v, (Go.results fn a.tmps).run P w1 = .ok v w1 /\ R (.returned v) w1) : LeavesInM Fence.wide 0 P fn a.tmps R a.defers .returning w := by
 obtain ⟨Ds, h1, h2, h3, h4⟩ := hI.df
 rw [hdf, List.append_nil] at h1
 obtain ⟨tmps, defers⟩ := a
 simp only at h1
 subst h1
 exact leaves_marks (by simp) Ds w h2 h3 h4 hdf hI fun w1 k1 _ => h w1 ⟨tmps, []⟩ rfl k1
theorem leaves_pan {fn : Func} {R : Ending -> World -> Prop} {s : List (Nat × V)} {H : Heap} {a : Act} {w : World} {Im : Nat -> Prop} {ρ : Nat -> Loc} {c : CV} {x : Value} {ch : List PanicEntry} (hdf : w0.df = []) (hI : Inv E w0 bl I0 s H a w Im ρ) (hc : CRep w Im c x)
  (h : ∀ w1 (a1 : Act), Inv E w0 bl I0 s H a1 w1 Im ρ -> CRep w1 Im c x -> R (.panicked ch) w1) : LeavesInM Fence.wide 0 P fn a.tmps R a.defers (.panicking ch) w := by
 obtain ⟨Ds, h1, h2, h3, h4⟩ := hI.df
 rw [hdf, List.append_nil] at h1
 obtain ⟨tmps, defers⟩ := a
 simp only at h1
 subst h1
 exact leaves_marks (by simp) Ds w h2 h3 h4 hdf hI fun w1 k1 k2 => h w1 ⟨tmps, []⟩ k1 (hc.cells k2)

theorem getV_slots0 : ∀ (l : List V) (i t : Nat), getV (slots0 i l) t = if i <= t then (l[t - i]?).getD .undef else .undef
 | [], i, t => by simp [slots0, getV, alGet]
 | v :: r, i, t => by
  have ih := getV_slots0 r (i + 1) t
  simp only [slots0, getV, alGet]
  cases hb : Nat.beq i t with
  | true => obtain rfl := beq_iff.1 hb; simp
  | false =>
   have hne := ne_of_beq hb
   simp only [cond_false]
   show getV (slots0 (i + 1) r) t = _
   rw [ih]
   by_cases h : i <= t
   ·rw [if_pos (by omega), if_pos h, show t - i = (t - (i + 1)) + 1 by omega]
    simp
   ·rw [if_neg (by omega), if_neg h]

/-- A function's body, read, is its contract. -/
theorem body_sound {g : FuncId} {fn : Func} {keep : Bool} {N : Nat} {S : FSpec} (hE : ∀ g, Sound P E.glob g (ctr E g)) (hsq : SeqSound P E) (hdraw : DrawOk P E) (hf : P.funcs[g]? = some fn) (hn : (fn.name == "runtime.NumGoroutine") = false) (hb : fn.body.isSome = true) (hyl : E.yl = fun _ => none) (hlo : ∀ c, fn.body = some c -> LoopsOk P E N c) (hnt : E.nt = fn.ntmps)
  (hS : ∀ as obs out, S as obs = some out -> as.length <= fn.ntmps /\ bodyK P E N keep fn as obs = some out) : Sound P E.glob g S := by
 intro as obs out w Im ρ bl vs hs hpre
 obtain ⟨hlen, hbody⟩ := hS as obs out hs
 obtain ⟨c, hc⟩ := Option.isSome_iff_exists.1 hb
 left
 constructor
 ·have hn' : ¬ fn.name = "runtime.NumGoroutine" := by simpa using hn
  simp [callFunc, hf, hn', hc]
 ·refine (callsIn_wide (n := 0)).1 (callsIn_of_wp_marks hf hc trivial (wpIn_wide.2 ?_) rfl)
  let w0 : Base := ⟨w, fun j => (alGet (heap0 0 obs) j).map fun o => (shp o, ρ j), []⟩
  have hvl : vs.length = as.length := hpre.reps.1
  have hO : On E w0 bl Im ⟨slots0 0 as, heap0 0 obs⟩ { tmps := vs.toArray ++ Array.replicate (fn.ntmps - vs.toArray.size) undef, defers := [] } w := by
   refine ⟨Im, ρ, hpre.gam, Fr.refl w bl, fun t => ?_, by simp [hnt]; omega, ⟨[], rfl, by simp, by simp, fun _ => rfl⟩, hpre.gl, fun j o hj hg => ?_⟩
   ·show VRep w Im ρ (shOf (heap0 0 obs)) (getV (slots0 0 as) t) _
    rw [getV_slots0, if_pos (by omega), Nat.sub_zero]
    cases ha : as[t]? with
    | none => exact .undef _
    | some v =>
     have hlt : t < vs.length := by have := (List.getElem?_eq_some_iff.1 ha).1; omega
     have hv := hpre.reps.2 t v _ ha (List.getElem?_eq_getElem hlt)
     have : (vs.toArray ++ Array.replicate (fn.ntmps - vs.toArray.size) undef).getD t undef = vs[t] := by
      rw [Array.getD_eq_getD_getElem?, Array.getElem?_append_left (by simpa using hlt)]
      simp [hlt]
     rw [this]
     exact hv
   ·show (alGet (heap0 0 obs) j).map _ = _
    have hg : alGet (heap0 0 obs) j = some o := hg
    rw [hg]
    rfl
  have han : ∀ j o, obs[j]? = some o -> w0.an j = some (shp o, ρ j) := fun j o hj => by
   show (alGet (heap0 0 obs) j).map _ = _
   rw [alGet_heap0, if_pos (by omega), Nat.sub_zero, hj]
   rfl
  unfold bodyK at hbody
  rw [hc] at hbody
  refine codeK_sound hE hsq hyl hdraw N c (hlo c hc) _ _ _ _ _ (fun e a' w' hl => ?_) hbody hO
  obtain ⟨ex, σ', Im', ρ', h1, h2, h3⟩ := hl
  cases ex with
  | normal =>
   cases e <;> first | exact h3.elim | skip
   exact leaves_ret rfl h2 fun w1 a1 ht h3 => by rw [ht]; exact finish_sound h1 ⟨Im', ρ', h3⟩ hpre.small han
  | ret =>
   cases e <;> first | exact h3.elim | skip
   exact leaves_ret rfl h2 fun w1 a1 ht h3 => by rw [ht]; exact finish_sound h1 ⟨Im', ρ', h3⟩ hpre.small han
  | exit i => cases h1
  | pan cv =>
   cases e <;> first | exact h3.elim | skip
   obtain ⟨x, rfl, hcr⟩ := h3
   simp only [Option.some.injEq] at h1
   subst h1
   exact leaves_pan rfl h2 (c := cv) (x := x) hcr fun w1 a1 h3 hc3 => ⟨x, Im', ρ', rfl, out_post h3 hpre.small han, hc3⟩
end
end Go.Proofs.YtfkpjbbkdkcdcabDoorA

namespace Go.Proofs.YtfkpjbbkdkcdcabDoorA

/-- what an iterator hands out from here on; none: it has been told to stop -/
def Hands : Out -> Option (List (List CV)) -> Prop
 | .ret _ _, rest => rest = some [] \/ rest = none
 | .yld x f t, some (y :: r) => x = y /\ Hands f none /\ Hands t (some r)
 | _, _ => False

abbrev JT := List (List CV) -> (Nat -> Prop) -> (Nat -> Prop) -> World -> Prop
abbrev JX := (Nat -> Prop) -> (Nat -> Prop) -> World -> Prop
/-- the caller's word -/
structure Caller (P : Program) (l : Nat) (J : JT) (Jx : JX) : Prop where
 s : ∀ r O C W W' Ch, J r O C W -> Fr W Ch W' -> (∀ b, Ch b -> ¬ O b) -> J r O C W'
 sx : ∀ O C W W' Ch, Jx O C W -> Fr W Ch W' -> (∀ b, Ch b -> ¬ O b) -> Jx O C W'
 b : ∀ r O C W, J r O C W -> (∀ b, O b -> b < W.heap.size) /\ ∀ b, C b -> O b
 bx : ∀ O C W, Jx O C W -> (∀ b, O b -> b < W.heap.size) /\ ∀ b, C b -> O b
 y : ∀ x r O C W, J (x :: r) O C W -> YieldAt Fence.wide 0 P l (x.map valC).toArray W fun e W' => ∃ O' C', Fr W C W' /\ (∀ b, O' b -> O b \/ W.heap.size <= b) /\ (∀ b, C' b -> C b \/ W.heap.size <= b) /\
   ((e = .returned (.bool true) /\ J r O' C' W') \/ (e = .returned (.bool false) /\ Jx O' C' W'))
def Prog (J : JT) (Jx : JX) : Option (List (List CV)) -> (Nat -> Prop) -> (Nat -> Prop) -> World -> Prop
 | some r => J r
 | none => Jx
theorem Prog.s {P : Program} {l : Nat} {J : JT} {Jx : JX} (hc : Caller P l J Jx) {rest : Option (List (List CV))} {O C Ch : Nat -> Prop} {W W' : World} (h : Prog J Jx rest O C W) (hf : Fr W Ch W') (hn : ∀ b, Ch b -> ¬ O b) : Prog J Jx rest O C W' := by
 cases rest with
 | some r => exact hc.s _ _ _ _ _ _ h hf hn
 | none => exact hc.sx _ _ _ _ _ h hf hn
theorem Prog.b {P : Program} {l : Nat} {J : JT} {Jx : JX} (hc : Caller P l J Jx) {rest : Option (List (List CV))} {O C : Nat -> Prop} {W : World} (h : Prog J Jx rest O C W) : (∀ b, O b -> b < W.heap.size) /\ ∀ b, C b -> O b := by
 cases rest with
 | some r => exact hc.b _ _ _ _ h
 | none => exact hc.bx _ _ _ h
/-- the caller's state, from the base of the iterator's frame on -/
def Gh (J : JT) (Jx : JX) (rest : Option (List (List CV))) (B : Base) (bl I0 : Nat -> Prop) : Prop := ∃ O C, Prog J Jx rest O C B.w /\ (∀ b, bl b -> ¬ O b) /\ (∀ b, C b -> ¬ I0 b) /\ B.df = []

section
variable {P : Program} {E : Env} {B : Base} {bl I0 : Nat -> Prop} {s : List (Nat × V)} {H : Heap} {a : Act} {w : World} {Im : Nat -> Prop} {ρ : Nat -> Loc} {l : Nat} {J : JT} {Jx : JX}

theorem Inv.defers (h : Inv E B bl I0 s H a w Im ρ) (hdf : B.df = []) (hrg : E.rg = false) : a.defers = [] := by
 obtain ⟨Ds, h1, _, _, h2⟩ := h.df
 rw [h1, h2 hrg, hdf]; rfl
/-- the frame goes on behind a round -/
theorem Inv.hop (h : Inv E B bl I0 s H a w Im ρ) (hdf : B.df = []) (hrg : E.rg = false) {C : Nat -> Prop} {W' : World} (hf : Fr w C W') (hc : ∀ b, C b -> b < w.heap.size -> ¬ Im b /\ ¬ obs H ρ b) :
  Inv E ⟨W', fun j => (alGet H j).map fun o => (shp o, ρ j), []⟩ (chg H ρ) Im s H a W' Im ρ := by
 have hk : Keep Im w W' := fun b hb => hf.block b (h.gam.im b hb) fun e => (hc b e (h.gam.im b hb)).1 hb
 have hv : ∀ v x, VRep w Im ρ (shOf H) v x -> VRep W' Im ρ (shOf H) v x := fun v x hx => hx.congr hk (fun _ h => h) (fun q _ => .inr ⟨rfl, rfl⟩)
 refine ⟨⟨fun b hb => Nat.lt_of_lt_of_le (h.gam.im b hb) hf.size, fun _ h => h, fun p o hp => ?_, h.gam.dj, fun p o b x y hp hr => ⟨Nat.lt_of_lt_of_le (h.gam.lk p o b x y hp hr).1 hf.size, (h.gam.lk p o b x y hp hr).2.1, fun hl => ⟨((h.gam.lk p o b x y hp hr).2.2 hl).1, .inl ⟨p, o, x, y, hp, hl, hr⟩⟩⟩, fun b hb => .inl hb⟩,
  .refl _ _, fun t => hv _ _ (h.sl t), h.nt, ⟨[], by rw [h.defers hdf hrg]; rfl, by simp, by simp, fun _ => rfl⟩, fun g c hg => (h.gl g c hg).keep hk (fun _ h => h), fun j o _ hj => by simp only [hj, Option.map_some]⟩
 refine (h.gam.ob p o hp).congr (fun b x y hr => ?_) fun j c x _ => hv c x
 have hlt := (h.gam.lk p o b x y hp hr).1
 exact hf.block b hlt fun e => (hc b e hlt).2 ⟨p, o, x, y, hp, hr⟩

theorem YieldAt.mono' {n : Nat} {args : Array Value} {W : World} {R R' : Ending -> World -> Prop} (h : YieldAt Fence.wide n P l args W R) (hr : ∀ e w', R e w' -> R' e w') : YieldAt Fence.wide n P l args W R' :=
 let ⟨fn, tmps, as, bo, h1, h2⟩ := h; ⟨fn, tmps, as, bo, h1, h2.mono hr⟩

theorem yield_op (hc : Caller P l J Jx) {x : List CV} {r : List (List CV)} (hg : Gh J Jx (some (x :: r)) B bl I0) (hI : Inv E B bl I0 s H a w Im ρ) (hrg : E.rg = false) :
  YieldAt Fence.wide 0 P l (x.map valC).toArray w fun e W' => ∃ (b : Bool) (B' : Base) (bl' I0' : Nat -> Prop), e = .returned (.bool b) /\ Gh J Jx (cond b (some r) none) B' bl' I0' /\ Inv E B' bl' I0' s H a W' Im ρ := by
 obtain ⟨O, C, g1, g2, g3, hdf⟩ := hg
 have hJ : J (x :: r) O C B.w := g1
 have hO := (hc.b _ _ _ _ hJ).1
 have hCO := (hc.b _ _ _ _ hJ).2
 have hch : ∀ b, chg H ρ b -> ¬ O b := fun b hb ho => (chg_of hI hb).2.2.elim (fun e => g2 b e ho) fun e => Nat.not_lt.2 e (hO b ho)
 have hIm : ∀ b, C b -> ¬ Im b := fun b hb hm => by
  rcases hI.gam.imo b hm with e | e | e
  ·exact g3 b hb e
  ·exact g2 b e (hCO b hb)
  ·exact Nat.not_lt.2 e (hO b (hCO b hb))
 have hno : ∀ b, C b -> ¬ obs H ρ b := fun b hb ho => (obs_or hI ho).elim (hIm b hb) fun e => hch b e (hCO b hb)
 refine YieldAt.mono' (hc.y x r O C w (hc.s _ _ _ _ _ _ hJ hI.fr g2)) ?_
 rintro e W' ⟨O', C', f1, f2, f3, f4⟩
 have hI' := hI.hop hdf hrg f1 fun b hb _ => ⟨hIm b hb, hno b hb⟩
 have hgh : ∀ rest, Prog J Jx rest O' C' W' -> Gh J Jx rest ⟨W', fun j => (alGet H j).map fun o => (shp o, ρ j), []⟩ (chg H ρ) Im := fun rest hp => ⟨O', C', hp, fun b hb ho => (f2 b ho).elim (hch b hb) fun e => Nat.not_lt.2 e (chg_of hI hb).2.1,
  fun b hb hm => (f3 b hb).elim (fun e => hIm b e hm) fun e => Nat.not_lt.2 e (hI.gam.im b hm), rfl⟩
 rcases f4 with ⟨rfl, h⟩ | ⟨rfl, h⟩
 ·exact ⟨true, _, _, _, rfl, hgh (some r) h, hI'⟩
 ·exact ⟨false, _, _, _, rfl, hgh none h, hI'⟩

/-- where the machine lands is where the reader lands, with what is still to be handed out -/
def LandsY (E : Env) (J : JT) (Jx : JX) (k : Ex -> St -> Option Out) (e : Exit) (a : Act) (w : World) : Prop :=
 ∃ ex σ r rest B bl I0 Im ρ, k ex σ = some r /\ Hands r rest /\ Gh J Jx rest B bl I0 /\ Inv E B bl I0 σ.slots σ.heap a w Im ρ /\ Meet ex e w Im
theorem LandsY.of {k : Ex -> St -> Option Out} {r : Out} {rest : Option (List (List CV))} (hh : Hands r rest) (hg : Gh J Jx rest B bl I0) {e : Exit} {a : Act} {w : World} (h : Lands E B bl I0 k r e a w) : LandsY E J Jx k e a w :=
 let ⟨ex, σ, Im, ρ, h1, h2, h3⟩ := h; ⟨ex, σ, r, rest, B, bl, I0, Im, ρ, h1, hh, hg, h2, h3⟩
theorem wpIn_opW {o : Oper} {a : Act} {w : World} {next : Act -> World -> Prop} {Q : Exit -> Act -> World -> Prop} (h : o.wp P a w next Q) : o.wpIn Fence.wide 0 P a w next Q := by
 refine ⟨fun _ _ => trivial, ?_⟩
 have e : Oper.semAt Fence.wide.round a.eval o = execOp a.eval o := rfl
 rw [e]
 unfold Oper.wp at h
 generalize (execOp a.eval o).run P w = res at h
 cases res with
 | halt x w' => cases x <;> first | exact h | exact h.elim
 | ok x w' =>
  cases x with
  | enter f args => exact ⟨fun h => by simp [Fence.wide] at h, (callsIn_wide (n := 0)).2 h⟩
  | row row args =>
   refine ⟨fun h => by simp [Fence.wide] at h, fun c cs _ => ?_⟩
   obtain ⟨v, w2, h1, h2⟩ := h c cs
   exact ⟨v, w2, h1, stepsIn_wide.2 h2⟩
  | _ => first | exact h | exact h.elim
theorem uponIn_mono {o : Oper} {a : Act} {w : World} {next next' : Act -> World -> Prop} {Q Q' : Exit -> Act -> World -> Prop} (h : o.wpIn Fence.wide 0 P a w next Q) (hn : ∀ a w, next a w -> next' a w) (hq : ∀ c a w, Q (.panic c) a w -> Q' (.panic c) a w) (hl : ¬ LetsOut Q) : o.wpIn Fence.wide 0 P a w next' Q' := by
 refine ⟨h.1, ?_⟩
 have h := h.2
 generalize (Oper.semAt Fence.wide.round a.eval o).run P w = res at h ⊢
 cases res with
 | halt x w' => cases x <;> first | exact hq _ _ _ h | exact h.elim
 | ok x w' =>
  cases x with
  | enter f args =>
   refine ⟨h.1, h.2.mono fun e w2 he => ?_⟩
   cases e with
   | returned v => exact hn _ _ he
   | panicked c => exact hq _ _ _ he
   | outgrown => exact absurd he hl
  | row row args => exact ⟨h.1, h.2.mono fun v w2 he => hn _ _ he⟩
  | round l f tmps assign body =>
   refine ⟨h.1, h.2.mono fun e w2 he => ?_⟩
   cases e with
   | returned v => exact hn _ _ he
   | panicked c => exact hq _ _ _ he
   | outgrown => exact absurd he hl
  | _ => first | exact hn _ _ h | exact h.elim
theorem wpListIn_app {ops : Array Oper} {Q Q' : Exit -> Act -> World -> Prop} (hl : ¬ LetsOut Q') {rest : List Oper} (hp : ∀ c a w, Q' (.panic c) a w -> Q (.panic c) a w) (hn : ∀ a w, Q' .normal a w -> wpListIn Fence.wide 0 P ops Q rest a w) : ∀ (os : List Oper) (a : Act) (w : World), wpList P ops Q' os a w -> wpListIn Fence.wide 0 P ops Q (os ++ rest) a w
 | [], a, w, h => hn a w h
 | o :: r, a, w, h => by
  unfold wpList at h
  rw [List.cons_append]
  unfold wpListIn
  by_cases hw : Region.wanted o (yielded ops a.tmps) = true
  ·rw [if_pos hw] at h ⊢
   exact uponIn_mono (wpIn_opW (h.resolve_right fun h => hl h.2)) (fun a w => wpListIn_app hl hp hn r a w) hp hl
  ·rw [if_neg hw] at h ⊢
   exact ⟨fun _ _ => trivial, wpListIn_app hl hp hn r _ _ h⟩

theorem closedL_spec {w : World} {Im : Nat -> Prop} {ρ : Nat -> Loc} {S : Nat -> Option Sh} : ∀ {l : List V} {cs : List CV} {vs : List Value}, closedL l = some cs -> cs.all flat1 = true -> vs.length = l.length -> (∀ (j : Nat) (c : V) (v : Value), l[j]? = some c -> vs[j]? = some v -> VRep w Im ρ S c v) -> vs = cs.map valC
 | [], cs, vs, h, _, hl, _ => by
  simp only [closedL, Option.some.injEq] at h
  subst h
  simpa using hl
 | v :: r, cs, vs, h, hf, hl, hr => by
  cases v with
  | cl c =>
   simp only [closedL] at h
   split at h
   ·rename_i cs' hcs
    simp only [Option.some.injEq] at h
    subst h
    cases vs with
    | nil => simp at hl
    | cons u us =>
     simp only [List.all_cons, Bool.and_eq_true] at hf
     have h0 := (hr 0 (.cl c) u rfl rfl)
     have hu : u = valC c := by
      cases h0 with
      | cl _ _ h0 => cases h0 <;> simp [flat1] at hf <;> rfl
     have ih := closedL_spec (vs := us) hcs hf.2 (by simpa using hl) fun j c v hj hv => hr (j + 1) c v (by simpa using hj) (by simpa using hv)
     rw [List.map_cons, <- hu, <- ih]
   ·cases h
  | _ => simp [closedL] at h

theorem run_call_yield {o : Oper} {d : Tmp} {xs : Array Operand} {ts : Array TypeId} {a : Act} {w : World} {nx : Next} (ho : o.op = .call ⟨.value (.tmp d), xs, ts⟩) (hf : a.tmps.getD d undef = .func (.yield l) #[] #[])
  (hy : (Instr.yield l (xs.map a.eval)).run P w = .ok nx w) : (execOp a.eval o).run P w = .ok nx w := by
 unfold execOp
 simp only [ho]
 have he : a.eval (.tmp d) = .func (.yield l) #[] #[] := hf
 simp only [resolve, he]
 simpa [go_sem, invoke] using hy

theorem yieldK_sound (hE : ∀ g, Sound P E.glob g (ctr E g)) (hrg : E.rg = false) (hc : Caller P E.yn J Jx) {ops : Array Oper} {i : Nat} {σ : St} {k : Ex -> St -> Option Out} {r : Out} {rest : Option (List (List CV))} {id : Nat}
  (h : yieldK P E ops i σ k = some r) (hh : Hands r rest) (hg : Gh J Jx rest B bl I0) (hO : On E B bl I0 σ a w) : (Code.region id ops false).wpIn Fence.wide 0 P (LandsY E J Jx k) a w := by
 unfold yieldK at h
 split at h
 ·rename_i o post hdrop
  split at h
  ·rename_i d xs ts dd ho hdst hgd
   refine wpIn_region_list ?_
   have hsplit : ops.toList = ops.toList.take i ++ (o :: post) := by rw [<- hdrop, List.take_append_drop]
   rw [hsplit]
   refine wpListIn_app (Q' := Lands E B bl I0 (fun ex σ' => match ex with
    | .normal => match getV σ'.slots d, closedL (xs.toList.map (opd E σ'.slots)) with
     | .cl (.fn (.yield l) [] []), some cs => cond (cs.all flat1 && Nat.blt dd E.nt) (cond (Nat.beq l E.yn)
      (yldO cs (opsK P E ops post ⟨alSet σ'.slots dd (.cl (.bool false)), σ'.heap⟩ k) (opsK P E ops post ⟨alSet σ'.slots dd (.cl (.bool true)), σ'.heap⟩ k)) none) none
     | _, _ => none
    | e => k e σ') r) lands_out (fun c a w hq => ?_) (fun a1 w1 hq => ?_) _ _ _ (opsK_sound hE (fun _ _ _ h => h) _ _ _ _ h hO)
   ·obtain ⟨ex, σ', Im', ρ', h1, h2, h3⟩ := hq
    cases ex with
    | pan c => exact ⟨_, σ', r, rest, B, bl, I0, Im', ρ', h1, hh, hg, h2, h3⟩
    | _ => exact h3.elim
   ·obtain ⟨ex, σ', Im', ρ', h1, h2, h3⟩ := hq
    cases ex <;> first | exact h3.elim | skip
    simp only at h1
    split at h1
    ·rename_i l' cs hd hcs
     replace h1 := cond_some h1
     obtain ⟨hc1, h1⟩ := h1
     replace h1 := cond_some h1
     obtain ⟨hl', h1⟩ := h1
     replace hl' := beq_iff.1 hl'
     subst hl'
     simp only [Bool.and_eq_true] at hc1
     -- what is handed out
     have hfv : a1.tmps.getD d undef = .func (.yield E.yn) #[] #[] := by
      have := h2.sl d
      rw [hd] at this
      generalize a1.tmps.getD d undef = y at this ⊢
      cases this with
      | cl _ _ hcr =>
       cases hcr with
       | fn _ _ _ va vb e1 e2 =>
        have e1 : va = [] := by simpa using e1
        have e2 : vb = [] := by simpa using e2
        subst e1 e2
        rfl
     have hargs : (xs.map a1.eval) = (cs.map valC).toArray := by
      have := closedL_spec (vs := xs.toList.map a1.eval) hcs hc1.1 (by simp) fun j c v hj hv => by
       rw [List.getElem?_map] at hj hv
       cases hx : xs.toList[j]? with
       | none => rw [hx] at hj; cases hj
       | some x =>
        rw [hx] at hj hv
        simp only [Option.map_some, Option.some.injEq] at hj hv
        subst hj hv
        exact h2.opd x
      rw [<- this]
      exact Array.ext' (by simp)
     cases hf : opsK P E ops post ⟨alSet σ'.slots dd (.cl (.bool false)), σ'.heap⟩ k with
     | none =>
      rw [hf] at h1
      have : ∀ o, yldO cs none o = none := fun o => by cases o <;> rfl
      rw [this] at h1; cases h1
     | some rf =>
     cases ht : opsK P E ops post ⟨alSet σ'.slots dd (.cl (.bool true)), σ'.heap⟩ k with
     | none => rw [hf, ht] at h1; cases h1
     | some rt =>
     rw [hf, ht] at h1
     have h1 : Out.yld cs rf rt = r := Option.some.inj h1
     subst h1
     cases rest with
     | none => exact hh.elim
     | some xl =>
     cases xl with
     | nil => exact hh.elim
     | cons y xr =>
     obtain ⟨rfl, hh1, hh2⟩ := hh
     obtain ⟨fn, tmps, as, bo, hy1, hy2⟩ := yield_op hc hg h2 hrg
     refine wpListIn_plain hgd fun K hK => ⟨fun _ _ => trivial, ?_⟩
     have hrun := run_call_yield (P := P) (o := o) (w := w1) ho hfv (by rw [hargs]; exact hy1)
     have e : Oper.semAt Fence.wide.round a1.eval o = execOp a1.eval o := rfl
     rw [e, hrun, Oper.uponIn_round]
     refine ⟨fun h => by simp [Fence.wide] at h, hy2.mono ?_⟩
     rintro e W' ⟨b, B', bl', I0', rfl, hg', hI'⟩
     refine hK _ _ ?_
     have hlt : dd < E.nt := by have := hc1.2; rwa [Nat.blt_eq] at this
     have hI2 := hI'.put (d := o.dst) (v := .cl (.bool b)) (x := .bool b) (fun t ht => by rw [hdst] at ht; cases ht; exact hlt) (.cl _ _ (.bool b))
     rw [hdst] at hI2 ⊢
     have hgo : ∀ (rr : Out) (rest' : Option (List (List CV))), opsK P E ops post ⟨alSet σ'.slots dd (.cl (.bool b)), σ'.heap⟩ k = some rr -> Hands rr rest' -> Gh J Jx rest' B' bl' I0' -> wpListIn Fence.wide 0 P ops (LandsY E J Jx k) post (a1.put (some dd) (.bool b)) W' := fun rr rest' h4 h5 h6 => by
      have := wpListIn_app (P := P) (ops := ops) (Q' := Lands E B' bl' I0' k rr) (Q := LandsY E J Jx k) (rest := []) lands_out (fun c a w hq => LandsY.of h5 h6 hq) (fun a w hq => LandsY.of h5 h6 hq) post _ _ (opsK_sound hE (fun _ _ _ h => h) post _ _ _ h4 ⟨_, _, hI2⟩)
      rwa [List.append_nil] at this
     cases b with
     | true => exact hgo rt _ ht hh2 hg'
     | false => exact hgo rf _ hf hh1 hg'
    ·cases h1
  ·cases h
 ·cases h

theorem iterY {c : Code} {b : St -> (Ex -> St -> Option Out) -> Option Out} {hd : St -> St} {Q : Exit -> Act -> World -> Prop} {k : Ex -> St -> Option Out} (hQ : ∀ e a w, LandsY E J Jx k e a w -> Q e a w)
  (hb : ∀ (k' : Ex -> St -> Option Out) (Q' : Exit -> Act -> World -> Prop) (r : Out) (rest : Option (List (List CV))) (B : Base) (bl I0 : Nat -> Prop) (σ : St) (a : Act) (w : World), (∀ e a w, LandsY E J Jx k' e a w -> Q' e a w) -> b σ k' = some r -> Hands r rest -> Gh J Jx rest B bl I0 -> On E B bl I0 σ a w -> c.wpIn Fence.wide 0 P Q' a w)
  (hh : ∀ B bl I0 σ a w, On E B bl I0 σ a w -> On E B bl I0 (hd σ) a w) : ∀ (n : Nat) (r : Out) (rest : Option (List (List CV))) (B : Base) (bl I0 : Nat -> Prop) (σ : St) (a : Act) (w : World), iterK n b hd σ k = some r -> Hands r rest -> Gh J Jx rest B bl I0 -> On E B bl I0 σ a w -> Code.roundsIn Fence.wide 0 P c Q n a w
 | 0, r, rest, B, bl, I0, σ, a, w, h, _, _, _ => by cases h
 | n + 1, r, rest, B, bl, I0, σ, a, w, h, hn, hg, hO => by
  simp only [iterK] at h
  rw [roundsIn_succ]
  refine hb _ _ r rest B bl I0 σ a w (fun e a w hl => ?_) h hn hg hO
  obtain ⟨ex, σ', r', rest', B', bl', I0', Im, ρ, h1, hn', hg', h2, h3⟩ := hl
  cases ex with
  | normal =>
   cases e <;> first | exact h3.elim | skip
   exact iterY hQ hb hh n r' rest' B' bl' I0' _ _ _ h1 hn' hg' (hh _ _ _ _ _ _ ⟨Im, ρ, h2⟩)
  | exit i =>
   cases e <;> first | exact h3.elim | skip
   exact hQ _ _ _ ⟨_, σ', r', rest', B', bl', I0', Im, ρ, h1, hn', hg', h2, h3⟩
  | ret =>
   cases e <;> first | exact h3.elim | skip
   exact hQ _ _ _ ⟨_, σ', r', rest', B', bl', I0', Im, ρ, h1, hn', hg', h2, h3⟩
  | pan c =>
   cases e <;> first | exact h3.elim | skip
   exact hQ _ _ _ ⟨_, σ', r', rest', B', bl', I0', Im, ρ, h1, hn', hg', h2, h3⟩

theorem landsY_kt {rid : Nat} {k : Ex -> St -> Option Out} {Q : Exit -> Act -> World -> Prop} (hQ : ∀ e a w, LandsY E J Jx k e a w -> Q e a w) : ∀ e a w, LandsY E J Jx (kt E rid k) e a w -> Q e a w := fun e a w ⟨ex, σ, r, rest, B, bl, I0, Im, ρ, h1, hn, hg, h2, h3⟩ => by
 cases ex with
 | normal =>
  obtain ⟨Im', ρ', h2'⟩ := On.tx (l := E.xl (rid + 1000)) ⟨Im, ρ, h2⟩
  refine hQ _ _ _ ⟨.normal, _, r, rest, B, bl, I0, Im', ρ', h1, hn, hg, h2', ?_⟩
  cases e <;> exact h3
 | _ => exact hQ _ _ _ ⟨_, σ, r, rest, B, bl, I0, Im, ρ, h1, hn, hg, h2, h3⟩
theorem codeY_sound (hE : ∀ g, Sound P E.glob g (ctr E g)) (hdraw : DrawOk P E) (hrg : E.rg = false) (hc : Caller P E.yn J Jx) (N : Nat) : ∀ (c : Code), LoopsOk P E N c -> ∀ (k : Ex -> St -> Option Out) (Q : Exit -> Act -> World -> Prop) (r : Out) (rest : Option (List (List CV))) (B : Base) (bl I0 : Nat -> Prop) (σ : St) (a : Act) (w : World), (∀ e a w, LandsY E J Jx k e a w -> Q e a w) ->
  codeK P E N c σ k = some r -> Hands r rest -> Gh J Jx rest B bl I0 -> On E B bl I0 σ a w -> c.wpIn Fence.wide 0 P Q a w := by
 intro c
 induction c with
 | skip =>
  intro hlo k Q r rest B bl I0 σ a w hQ h hn hg ⟨Im, ρ, hI⟩
  exact wpIn_skip (hQ _ _ _ ⟨.normal, σ, r, rest, B, bl, I0, Im, ρ, h, hn, hg, hI, trivial⟩)
 | region id ops draw =>
  intro hlo k Q r rest B bl I0 σ a w hQ h hn hg hO
  simp only [codeK] at h
  cases draw with
  | true =>
   simp only [cond_true] at h
   replace h := cond_some h
   have h1 := h.1
   simp only [Bool.and_eq_true] at h1
   exact wpIn_wide.2 (hdraw Out B bl I0 id ops Q k r _ a w (fun e a w hl => hQ e a w (LandsY.of hn hg hl)) h1.1 h1.2 h.2 (On.prep _ hO))
  | false =>
   simp only [cond_false] at h
   split at h
   ·exact Go.wpIn_mono (yieldK_sound hE hrg hc h hn hg (On.prep _ hO)) hQ
   ·exact wpIn_wide.2 (wp_region_list (opsK_sound hE (fun e a w hl => hQ e a w (LandsY.of hn hg hl)) _ _ _ _ h (On.prep _ hO)))
 | seq x y ihx ihy =>
  intro hlo k Q r rest B bl I0 σ a w hQ h hn hg hO
  simp only [codeK] at h
  refine wpIn_seq (ihx hlo.1 _ _ r rest B bl I0 σ a w (fun e a w hl => ?_) h hn hg hO)
  obtain ⟨ex, σ', r', rest', B', bl', I0', Im, ρ, h1, hn', hg', h2, h3⟩ := hl
  cases ex with
  | normal =>
   cases e <;> first | exact h3.elim | skip
   simp only at h1
   split at h1
   ·rename_i L hL
    exact ihy hlo.2.1 _ Q r' rest' B' bl' I0' _ a w (landsY_kt hQ) (hlo.2.2 L hL _ _ _ h1) hn' hg' (On.head (σ := σ') ⟨Im, ρ, h2⟩ _)
   ·exact ihy hlo.2.1 k Q r' rest' B' bl' I0' σ' a w hQ h1 hn' hg' ⟨Im, ρ, h2⟩
  | exit i =>
   cases e <;> first | exact h3.elim | skip
   exact hQ _ _ _ ⟨_, σ', r', rest', B', bl', I0', Im, ρ, h1, hn', hg', h2, h3⟩
  | ret =>
   cases e <;> first | exact h3.elim | skip
   exact hQ _ _ _ ⟨_, σ', r', rest', B', bl', I0', Im, ρ, h1, hn', hg', h2, h3⟩
  | pan c =>
   cases e <;> first | exact h3.elim | skip
   exact hQ _ _ _ ⟨_, σ', r', rest', B', bl', I0', Im, ρ, h1, hn', hg', h2, h3⟩
 | cond x c d ihc ihd =>
  intro hlo k Q r rest B bl I0 σ a w hQ h hn hg ⟨Im, ρ, hI⟩
  simp only [codeK] at h
  split at h
  ·rename_i t
   obtain ⟨b, s', h1, h2, h3⟩ := decK_sound h hI
   refine wpIn_cond (t := b) h3 ?_
   cases b with
   | true => exact ihc hlo.1 k Q r rest B bl I0 _ a w hQ h1 hn hg ⟨Im, ρ, h2⟩
   | false =>
    simp only at h1
    split at h1
    ·rename_i L hL
     exact ihd hlo.2.1 _ Q r rest B bl I0 _ a w (landsY_kt hQ) (hlo.2.2 L hL _ _ _ h1) hn hg (On.head (σ := ⟨s', σ.heap⟩) ⟨Im, ρ, h2⟩ _)
    ·exact ihd hlo.2.1 k Q r rest B bl I0 _ a w hQ h1 hn hg ⟨Im, ρ, h2⟩
  ·exact wpIn_cond (t := true) rfl (ihc hlo.1 k Q r rest B bl I0 _ a w hQ h hn hg ⟨Im, ρ, hI⟩)
  ·exact wpIn_cond (t := false) rfl (ihd hlo.2.1 k Q r rest B bl I0 _ a w hQ h hn hg ⟨Im, ρ, hI⟩)
  ·cases h
 | block id c ih =>
  intro hlo k Q r rest B bl I0 σ a w hQ h hn hg hO
  simp only [codeK] at h
  refine wpIn_block (ih hlo _ _ r rest B bl I0 σ a w (fun e a w hl => ?_) h hn hg hO)
  obtain ⟨ex, σ', r', rest', B', bl', I0', Im, ρ, h1, hn', hg', h2, h3⟩ := hl
  cases ex with
  | normal =>
   cases e <;> first | exact h3.elim | skip
   exact hQ _ _ _ ⟨_, σ', r', rest', B', bl', I0', Im, ρ, h1, hn', hg', h2, h3⟩
  | exit i =>
   cases e <;> first | exact h3.elim | skip
   rename_i i'
   have h3 : i = i' := h3
   subst h3
   show if i = id then Q .normal a w else Q (.exit i) a w
   cases hb : Nat.beq i id with
   | true =>
    simp only [hb, cond_true] at h1
    rw [if_pos (beq_iff.1 hb)]
    exact hQ _ _ _ ⟨.normal, σ', r', rest', B', bl', I0', Im, ρ, h1, hn', hg', h2, trivial⟩
   | false =>
    simp only [hb, cond_false] at h1
    rw [if_neg (ne_of_beq hb)]
    exact hQ _ _ _ ⟨.exit i, σ', r', rest', B', bl', I0', Im, ρ, h1, hn', hg', h2, rfl⟩
  | ret =>
   cases e <;> first | exact h3.elim | skip
   exact hQ _ _ _ ⟨_, σ', r', rest', B', bl', I0', Im, ρ, h1, hn', hg', h2, h3⟩
  | pan c =>
   cases e <;> first | exact h3.elim | skip
   exact hQ _ _ _ ⟨_, σ', r', rest', B', bl', I0', Im, ρ, h1, hn', hg', h2, h3⟩
 | loop c ih =>
  intro hlo k Q r rest B bl I0 σ a w hQ h hn hg hO
  simp only [codeK] at h
  have key : ∀ n σ', iterK n (codeK P E N c) (head E (firstRegion c)) σ' k = some r -> On E B bl I0 σ' a w -> (Code.loop c).wpIn Fence.wide 0 P Q a w := fun n σ' h hO =>
   wpIn_loop_rounds n (iterY hQ (fun k' Q' r rest B bl I0 σ a w hq hb hn hg hO => ih hlo.1 k' Q' r rest B bl I0 σ a w hq hb hn hg hO) (fun _ _ _ σ a w h => h.head _) n r rest B bl I0 _ a w h hn hg hO)
  split at h
  ·rename_i L hL
   obtain ⟨n, hn'⟩ := hlo.2 L hL _ _ _ h
   exact key n _ hn' (hO.head _)
  ·exact key N _ h (hO.head _)
 | exit id =>
  intro hlo k Q r rest B bl I0 σ a w hQ h hn hg hO
  obtain ⟨Im, ρ, hI⟩ := On.tx (l := E.xl (id + 1)) hO
  exact wpIn_exit (hQ _ _ _ ⟨.exit id, _, r, rest, B, bl, I0, Im, ρ, h, hn, hg, hI, rfl⟩)
 | ret =>
  intro hlo k Q r rest B bl I0 σ a w hQ h hn hg hO
  obtain ⟨Im, ρ, hI⟩ := On.tx (l := E.xl 0) hO
  exact wpIn_ret (hQ _ _ _ ⟨.ret, _, r, rest, B, bl, I0, Im, ρ, h, hn, hg, hI, trivial⟩)
 | rangeFunc g ps assign body =>
  intro hlo k Q r rest B bl I0 σ a w hQ h hn hg _
  simp only [codeK, hrg, Bool.not_false, cond_true] at h
  cases h
 | _ => intro hlo k Q r rest B bl I0 σ a w hQ h _ _ _; simp [codeK] at h

/-- An iterator's contract, out of its body's reading. -/
theorem seq_sound {glob : Nat -> Option CV} {gf : FuncId} {fn : Func} {N : Nat} {as : List V} {obs : List Obj} {xs : List (List CV)} (Ey : Nat -> Env) (hE : ∀ l g, Sound P (Ey l).glob g (ctr (Ey l) g)) (hdraw : ∀ l, DrawOk P (Ey l)) (hgl : ∀ l, (Ey l).glob = glob) (hrg : ∀ l, (Ey l).rg = false) (hyn : ∀ l, (Ey l).yn = l)
  (hf : P.funcs[gf]? = some fn) (hb : fn.body.isSome = true) (hlo : ∀ l c, fn.body = some c -> LoopsOk P (Ey l) N c) (hnt : ∀ l, (Ey l).nt = fn.ntmps) (hlen : as.length < fn.ntmps) (hres : fn.results = #[])
  (hS : ∀ l, ∃ out, bodyK P (Ey l) N false fn (.cl (.fn (.yield l) [] []) :: as) obs = some out /\ Hands out (some xs)) : SeqOk P glob gf as obs xs := by
 intro w Im ρ bl vs hpre l J Jx hJ hJx hb1 hb2 hy O C h0 hC hO
 obtain ⟨out, hbody, hn⟩ := hS l
 obtain ⟨c, hc⟩ := Option.isSome_iff_exists.1 hb
 have hcl : Caller P (Ey l).yn J Jx := by rw [hyn]; exact ⟨hJ, hJx, hb1, hb2, hy⟩
 refine callsIn_of_wp_marks hf hc trivial ?_ rfl
 have hvl : vs.length = as.length := hpre.reps.1
 have hOn : On (Ey l) ⟨w, fun j => (alGet (heap0 0 obs) j).map fun o => (shp o, ρ j), []⟩ bl Im ⟨slots0 0 (.cl (.fn (.yield l) [] []) :: as), heap0 0 obs⟩ { tmps := (#[Value.func (.yield l) #[] #[]] ++ vs.toArray) ++ Array.replicate (fn.ntmps - (#[Value.func (.yield l) #[] #[]] ++ vs.toArray).size) undef, defers := [] } w := by
  refine ⟨Im, ρ, hpre.gam, Fr.refl w bl, fun t => ?_, by simp [hnt]; omega, ⟨[], rfl, by simp, by simp, fun _ => rfl⟩, by rw [hgl]; exact hpre.gl, fun j o hj hg => ?_⟩
  ·show VRep w Im ρ (shOf (heap0 0 obs)) (getV (slots0 0 (.cl (.fn (.yield l) [] []) :: as)) t) _
   rw [getV_slots0, if_pos (by omega), Nat.sub_zero]
   cases t with
   | zero =>
    have : ((#[Value.func (.yield l) #[] #[]] ++ vs.toArray) ++ Array.replicate (fn.ntmps - (#[Value.func (.yield l) #[] #[]] ++ vs.toArray).size) undef).getD 0 undef = Value.func (.yield l) #[] #[] := by
     rw [Array.getD_eq_getD_getElem?, Array.getElem?_append_left (by simp), Array.getElem?_append_left (by simp)]
     rfl
    rw [this]
    exact .cl _ _ (.fn (.yield l) [] [] [] [] rfl rfl (by simp) (by simp))
   | succ t =>
    rw [List.getElem?_cons_succ]
    cases ha : as[t]? with
    | none => exact .undef _
    | some v =>
     have hlt : t < vs.length := by have := (List.getElem?_eq_some_iff.1 ha).1; omega
     have hv := hpre.reps.2 t v _ ha (List.getElem?_eq_getElem hlt)
     have : ((#[Value.func (.yield l) #[] #[]] ++ vs.toArray) ++ Array.replicate (fn.ntmps - (#[Value.func (.yield l) #[] #[]] ++ vs.toArray).size) undef).getD (t + 1) undef = vs[t] := by
      rw [Array.getD_eq_getD_getElem?, Array.getElem?_append_left (by simp; omega), Array.getElem?_append_right (by simp)]
      simp [hlt]
     rw [this]
     exact hv
  ·show (alGet (heap0 0 obs) j).map _ = _
   have hg : alGet (heap0 0 obs) j = some o := hg
   rw [hg]
   rfl
 unfold bodyK at hbody
 rw [hc] at hbody
 refine codeY_sound (hE l) (hdraw l) (hrg l) hcl N c (hlo l c hc) _ _ out (some xs) ⟨w, _, []⟩ bl Im _ _ _ (fun e a' w' hl => ?_) hbody hn ⟨O, C, h0, fun b hb ho => hO b ho hb, fun b hb hm => (hC b hb).1 hm, rfl⟩ hOn
 obtain ⟨ex, σ', r', rest', B', bl', I0', Im', ρ', h1, hn', ⟨O', C', g1, g2, g3, hdfB⟩, h2, h3⟩ := hl
 have fin : ∀ (k1 : finish P false fn obs.length σ' = some r'), LeavesInM Fence.wide 0 P fn a'.tmps (fun e W' => (∃ v, e = .returned v) /\ ∃ O' C', J [] O' C' W' \/ Jx O' C' W') a'.defers .returning w' := fun k1 => by
  have hret : ∃ rs objs, r' = .ret rs objs := by
   unfold finish at k1
   split at k1
   ·cases k1
   ·simp only [cond_false] at k1
    replace k1 := cond_some k1
    obtain ⟨_, k1⟩ := k1
    split at k1
    ·exact ⟨_, _, (Option.some.inj k1).symm⟩
    ·cases k1
  obtain ⟨rs, objs, rfl⟩ := hret
  refine leaves_ret hdfB h2 fun w1 a1 ht hI1 => ⟨wrap [], run_results (us := []) (by rw [hres]; rfl), ⟨_, rfl⟩, O', C', ?_⟩
  have hp := g1.s hcl hI1.fr g2
  rcases hn' with rfl | rfl
  ·exact .inl hp
  ·exact .inr hp
 cases ex with
 | normal =>
  cases e <;> first | exact h3.elim | skip
  exact fin h1
 | ret =>
  cases e <;> first | exact h3.elim | skip
  exact fin h1
 | exit i => cases h1
 | pan cv =>
  simp only [Option.some.injEq] at h1
  subst h1
  cases rest' <;> exact hn'.elim
end
end Go.Proofs.YtfkpjbbkdkcdcabDoorA

namespace Go.Proofs.YtfkpjbbkdkcdcabDoorA

/-! ### deferred calls that recover -/
abbrev DSpec := Option CV -> FSpec
section
variable (P : Program) (E : Env)
/-- What is told of a function's deferred call: its region; low names for what it is given; its contract. -/
structure DEnv where
 rid : Nat
 low : List (Nat × Nat)
 orc : FuncId -> DSpec
 pre : FuncId -> Option CV -> List V -> List Obj -> Bool
variable (D : DEnv)
end

section
variable {P : Program} {E : Env} {w0 : Base} {bl I0 : Nat -> Prop}

theorem an0 {obs : List Obj} {ρ : Nat -> Loc} : ∀ j o, obs[j]? = some o -> (alGet (heap0 0 obs) j).map (fun o => (shp o, ρ j)) = some (shp o, ρ j) := fun j o hj => by
 rw [alGet_heap0, if_pos (by omega), Nat.sub_zero, hj]
 rfl

/-! ### the function that defers -/
end
end Go.Proofs.YtfkpjbbkdkcdcabDoorA
