/-
 The library's comparison of bytes: its contract holds. Conditions: none.
-/
import Derived.Test.YtfkpjbbkdkcdcaaDoorT3c
import Derived.Lib.BytesEntry
import Derived.Test.YtfkpjbbkdkcdcaaDoorT1
import Derived.Test.YtfkpjbbkdkcdcaaDoorK3
import Derived.Shelf.Spec.SlicesGrow
set_option linter.unusedVariables false
set_option linter.unusedSimpArgs false
namespace Go.Proofs.YtfkpjbbkdkcdcaaDoorA

theorem load_sli {P : Program} {w : World} {Im : Nat -> Prop} {l : List Int} {v : Value} (h : CRep w Im (.sli .u8 l) v) : (Extern.Bytes.bytesOf v).run P w = .ok ⟨(Lib.bytesOf l).toArray⟩ w := by
 cases h with
 | sli _ _ a len cap hl hc hcell =>
  cases a with
  | none =>
   have : l = [] := by
    cases l with
    | nil => rfl
    | cons x r => obtain ⟨ad, e, _⟩ := hcell 0 x rfl; cases e
   subst this
   rfl
  | some ad =>
   subst hl
   have := Lib.run_loadBytesX (P := P) w l ad .empty (fun j x hj => by obtain ⟨ad', e, _, hc⟩ := hcell j x hj; cases e; exact hc)
   refine this.trans ?_
   congr 1
   apply ByteArray.ext
   show (#[] : Array UInt8) ++ (Lib.bytesOf l).toArray = (Lib.bytesOf l).toArray
   simp
theorem cmp_list : ∀ (a b : List Int), (∀ x ∈ a, 0 <= x /\ x <= 255) -> (∀ x ∈ b, 0 <= x /\ x <= 255) -> Lib.compareBytes (Lib.bytesOf a) (Lib.bytesOf b) = listCmpC a b
 | [], [], _, _ => rfl
 | [], _ :: _, _, _ => rfl
 | _ :: _, [], _, _ => rfl
 | x :: a, y :: b, ha, hb => by
  have ih := cmp_list a b (fun z hz => ha z (List.mem_cons_of_mem _ hz)) (fun z hz => hb z (List.mem_cons_of_mem _ hz))
  have hx := ha x (List.mem_cons_self ..)
  have hy := hb y (List.mem_cons_self ..)
  have e1 : (UInt8.ofNat x.toNat < UInt8.ofNat y.toNat) ↔ x < y := by
   rw [UInt8.lt_iff_toNat_lt, UInt8.toNat_ofNat', UInt8.toNat_ofNat']
   omega
  have e2 : (UInt8.ofNat y.toNat < UInt8.ofNat x.toNat) ↔ y < x := by
   rw [UInt8.lt_iff_toNat_lt, UInt8.toNat_ofNat', UInt8.toNat_ofNat']
   omega
  show (if UInt8.ofNat x.toNat < UInt8.ofNat y.toNat then (-1 : Int) else if UInt8.ofNat y.toNat < UInt8.ofNat x.toNat then 1 else Lib.compareBytes (Lib.bytesOf a) (Lib.bytesOf b)) = (if x < y then -1 else if y < x then 1 else listCmpC a b)
  simp only [e1, e2, ih]
theorem run_cmp {P : Program} {w : World} {Im : Nat -> Prop} {a b : List Int} {va vb : Value} (ha : CRep w Im (.sli .u8 a) va) (hb : CRep w Im (.sli .u8 b) vb) (h1 : ∀ x ∈ a, 0 <= x /\ x <= 255) (h2 : ∀ x ∈ b, 0 <= x /\ x <= 255) :
  (Extern.BytealgCompare.compare #[va, vb]).run P w = .ok (.int .i64 (listCmpC a b)) w := by
 change Sem.run P (do pure (goInt (Extern.BytealgCompare.cmp (<- Extern.Bytes.bytesOf va) (<- Extern.Bytes.bytesOf vb)))) w = _
 simp only [Sem.run_bind, Sem.run_pure, load_sli ha, load_sli hb, Result.andThen]
 rw [Lib.cmp_eq]
 show Result.ok (Value.int .i64 (Lib.compareBytes (Lib.bytesOf a) (Lib.bytesOf b))) w = _
 rw [cmp_list a b h1 h2]

theorem soundBACompare (hm : Tryd.prog.follows .mixedOrders = true) : Sound Tryd.prog glVal 116 (fun xs obs => cond (preBACompare xs obs) (SBACompare xs obs).eval none) := by
 intro xs obs out w Im ρ bl vs hs hpre
 obtain ⟨h1, h2⟩ := cond_some hs
 unfold preBACompare at h1
 split at h1
 ·rename_i a b
  simp only [Bool.and_eq_true] at h1
  have h2 : some (Out.ret [.cl (.int .i64 (listCmp a b))] []) = some out := h2
  cases h2
  have hl : vs.length = 2 := hpre.reps.1
  match vs, hl, hpre with
  | [va, vb], _, hpre =>
   have ra : CRep w Im (.sli .u8 a) va := by have := hpre.reps.2 0 _ _ rfl rfl; cases this; assumption
   have rb : CRep w Im (.sli .u8 b) vb := by have := hpre.reps.2 1 _ _ rfl rfl; cases this; assumption
   refine .inr ⟨.int .i64 (listCmp a b), w, ?_, [.int .i64 (listCmp a b)], Im, ρ, rfl, ⟨Fr.refl w bl, hpre.gam, fun j o o' hj => by cases hj⟩, rfl, fun j c v hj hv => ?_⟩
   ·rw [run_callFunc_extern (e := Extern.BytealgCompare.compare) Tryd.func116 rfl rfl rfl (by kernel_rfl)]
    show Result.andThen ((Extern.BytealgCompare.compare #[va, vb]).run Tryd.prog w) _ = _
    rw [run_cmp ra rb (bytesOk_spec h1.1).2 (bytesOk_spec h1.2).2]
    unfold listCmp
    rw [shut_eq]
    rfl
   ·match j, hj, hv with
    | 0, hj, hv => cases hj; cases hv; exact .cl _ _ (.int ..)
    | j + 1, hj, hv => cases hj
 ·cases h1
end Go.Proofs.YtfkpjbbkdkcdcaaDoorA

set_option maxRecDepth 100000
namespace Go.Proofs.YtfkpjbbkdkcdcaaDoorA

def renGrow : Go.Shelf.Ren := ⟨fun _ => 164, fun t => cond (Nat.beq t 25) 5 (cond (Nat.beq t 22) 25 t), fun g => g⟩
theorem laysGrow (hm : Tryd.prog.follows .mixedOrders = true) : Lays8.n4 Tryd.prog renGrow where
 mixed := hm
 f4 := ⟨Tryd.f164.name, by decide, by kernel_rfl⟩
 t0 := Tryd.underlying0
 a0 := fun w => by kernel_rfl
 z0 := fun w => by kernel_rfl
 v0 := fun w => by kernel_rfl
 t3 := Tryd.underlying3
 a3 := fun w => by kernel_rfl
 z3 := fun w => by kernel_rfl
 v3 := fun w => by kernel_rfl
 t4 := Tryd.underlying4
 a4 := fun w => by kernel_rfl
 z4 := fun w => by kernel_rfl
 v4 := fun w => by kernel_rfl
 t9 := Tryd.underlying9
 a9 := fun w => by kernel_rfl
 z9 := fun w => by kernel_rfl
 v9 := fun w => by kernel_rfl
 t20 := Tryd.underlying20
 a20 := fun w => by kernel_rfl
 z20 := fun w => by kernel_rfl
 v20 := fun w => by kernel_rfl
 t22 := Tryd.underlying25
 a22 := fun w => by kernel_rfl
 z22 := fun w => by kernel_rfl
 v22 := fun w => by kernel_rfl
theorem info5 : (Tryd.prog.info? 5).map (fun i => (i.zero, i.size, i.bytes)) = some (some (.int .u8 0), 1, 1) := by kernel_rfl

theorem grow_gam {bl : Nat -> Prop} {w w' : World} {Im : Nat -> Prop} {ρ ρ' : Nat -> Loc} {l : Loc} (h : Gam w.heap.size bl Im w Im ρ []) (hsz : w.heap.size <= w'.heap.size) (hρ : ρ' 0 = l) (ho : ORep w' Im ρ' (shOf [(0, ⟨.ints .u8 [], false⟩)]) (.ints .u8 []) l) (hl : ∀ b x y, l = some (b, x, y) -> b < w'.heap.size /\ ¬ Im b /\ w.heap.size <= b) :
  Gam w.heap.size bl Im w' Im ρ' [(0, ⟨.ints .u8 [], false⟩)] := by
 have one : ∀ (p : Nat) (o : Obj), alGet ([(0, ⟨.ints .u8 [], false⟩)] : Heap) p = some o -> p = 0 /\ o = ⟨.ints .u8 [], false⟩ := fun p o hp => by
  simp only [alGet] at hp
  cases hb : Nat.beq 0 p with
  | true => rw [hb] at hp; cases hp; exact ⟨(beq_iff.1 hb).symm, rfl⟩
  | false => rw [hb] at hp; cases hp
 refine ⟨fun b hb => Nat.lt_of_lt_of_le (h.im b hb) hsz, h.i0, fun p o hp => ?_, fun p q o o' b x y x' y' hp hq _ _ hne => ?_, fun p o b x y hp hr => ?_, h.imo⟩
 ·obtain ⟨rfl, rfl⟩ := one p o hp
  rw [hρ]
  exact ho
 ·exact absurd ((one p o hp).1.trans (one q o' hq).1.symm) hne
 ·obtain ⟨rfl, rfl⟩ := one p o hp
  rw [hρ] at hr
  obtain ⟨h1, h2, h3⟩ := hl b x y hr
  exact ⟨h1, fun e => absurd e Bool.false_ne_true, fun _ => ⟨h2, .inr h3⟩⟩

theorem soundSGrow (hm : Tryd.prog.follows .mixedOrders = true) : Sound Tryd.prog glVal 164 (fun xs obs => cond (preSGrow xs obs) (SSGrow xs obs).eval none) := by
 intro xs obs out w Im ρ bl vs hs hpre
 obtain ⟨h1, h2⟩ := cond_some hs
 unfold preSGrow at h1
 split at h1
 ·rename_i n
  have h2 : some (Out.ret [.ref 0 0 0 true 1] [some ⟨.ints .u8 noInts, false⟩]) = some out := h2
  cases h2
  have hn : 0 <= n /\ n <= 100000000 := by unfold growOk at h1; rw [shut_eq] at h1; exact of_decide_eq_true h1
  obtain ⟨m, rfl⟩ : ∃ m : Nat, n = m := ⟨n.toNat, by omega⟩
  have hl : vs.length = 2 := hpre.reps.1
  match vs, hl, hpre with
  | [va, vb], _, hpre =>
   have ra := hpre.reps.2 0 _ _ rfl rfl
   have rb := hpre.reps.2 1 _ _ rfl rfl
   cases ra
   obtain rfl : vb = .int .i64 m := by
    cases rb with
    | cl _ _ h => cases h; rfl
   refine .inl ⟨?_, ?_⟩
   ·have hn' : ¬ Tryd.f164.name = "runtime.NumGoroutine" := of_decide_eq_true (by kernel_rfl)
    obtain ⟨c, hc⟩ : ∃ c, Tryd.f164.body = some c := ⟨_, rfl⟩
    simp [callFunc, Tryd.func164, hn', hc]
   ·have e : noInts = [] := shut_eq _
    rw [e]
    have hg : Gam w.heap.size bl Im w Im ρ [] := hpre.gam
    by_cases hz : m = 0
    ·subst hz
     refine (Any8.slices_Grow_room (laysGrow hm) none 0 0 0 w (Nat.le_refl _) (by omega) (by omega) (Nat.le_refl _)).mono fun e w' ⟨he, hw⟩ => ?_
     subst he
     subst hw
     refine ⟨[.slice none 0 0], Im, fun _ => none, rfl, ⟨Fr.refl _ bl, grow_gam hg (Nat.le_refl _) rfl ⟨rfl, rfl, trivial⟩ (fun b x y h => by cases h), fun j o o' hj => by cases hj⟩, rfl, fun j c v hj hv => ?_⟩
     match j, hj, hv with
     | 0, hj, hv => cases hj; cases hv; exact .refV 0 ⟨0, 1, false⟩ true 1 rfl rfl rfl rfl
     | j + 1, hj, hv => cases hj
    ·obtain ⟨i0, hi0, hi⟩ := Option.map_eq_some_iff.1 info5
     simp only [Prod.mk.injEq] at hi
     obtain ⟨hi1, hi2, hi3⟩ := hi
     refine (Any8.slices_Grow_grow (laysGrow hm) i0 (.int .u8 0) hi0 hi1 (by omega) none 0 0 m [] w (Nat.le_refl _) (by omega) (by rw [hi3]; omega) (by omega) (by simp) (fun _ => rfl) (fun a h => by cases h)).mono fun e w' ⟨he, hw⟩ => ?_
     have hG : 0 + m <= grownCap w (0 + m) 0 (renGrow.t 25) := grownCap_ge w _ _ _
     generalize grownCap w (0 + m) 0 (renGrow.t 25) = G at *
     subst he
     generalize hcs : ([] : List Value).toArray ++ Builtin.zeroCells (Value.int .u8 0).cells (0 + m - 0) ++ Builtin.zeroCells (Value.int .u8 0).cells (G - (0 + m)) = cs at hw
     have hsz : cs.size = G := by
      rw [<- hcs, Array.size_append, Array.size_append, size_zeroCells, size_zeroCells]
      simp [Value.cells]
      omega
     have hheap : w'.heap = w.heap.push (.cells cs (renGrow.t 25) (0, 0)) := by rw [hw]; rfl
     have hb : w'.heap[w.heap.size]? = some (.cells cs (renGrow.t 25) (0, 0)) := by rw [hheap]; simp
     have hFr : Fr w bl w' := by
      refine ⟨by rw [hw]; rfl, by rw [hw]; rfl, by rw [hw]; rfl, by rw [hheap, Array.size_push]; omega, fun b hb' _ => by rw [hheap, Array.getElem?_push, if_neg (by omega)]⟩
     refine ⟨[.slice (some ⟨w.heap.size, 0, none⟩) 0 G], Im, fun _ => some (w.heap.size, 0, G), rfl, ⟨hFr, grow_gam hg hFr.size rfl ⟨trivial, by rw [hheap]; simp, Nat.zero_le _, fun i hi => ⟨?_, ?_⟩, fun j c hj => by simp [cellsR] at hj⟩ (fun b x y h => ?_), fun j o o' hj => by cases hj⟩, rfl, fun j c v hj hv => ?_⟩
     ·simp [World.cell?, hb, hsz, hi]
     ·simp [World.frozen?, hb]
     ·cases h
      exact ⟨by rw [hheap]; simp, fun hI => Nat.lt_irrefl _ (hg.im _ hI), Nat.le_refl _⟩
     ·match j, hj, hv with
      | 0, hj, hv =>
       cases hj
       cases hv
       exact .ref 0 0 0 true 1 ⟨0, 1, false⟩ w.heap.size 0 G ⟨w.heap.size, 0, none⟩ G rfl rfl rfl (Nat.zero_le _) (Nat.le_refl _) (fun _ => rfl) (fun _ => rfl) (by omega)
      | j + 1, hj, hv => cases hj
 ·cases h1
end Go.Proofs.YtfkpjbbkdkcdcaaDoorA

namespace Go.Proofs.YtfkpjbbkdkcdcaaDoorA
theorem sound_ranked {P : Program} {glob : Nat -> Option CV} {g : FuncId} {p : List V -> List Obj -> Bool} {q : Nat -> List V -> List Obj -> Bool} {S : List V -> List Obj -> Tree} (h : ∀ rk, Sound P glob g (fun xs obs => cond (q rk xs obs) (S xs obs).eval none)) (hp : ∀ xs obs, p xs obs = true -> ∃ rk, q rk xs obs = true) :
  Sound P glob g (fun xs obs => cond (p xs obs) (S xs obs).eval none) := by
 intro xs obs out w Im ρ bl vs hs
 obtain ⟨h1, h2⟩ := cond_some hs
 obtain ⟨rk, hq⟩ := hp xs obs h1
 exact h rk xs obs out w Im ρ bl vs (by show cond (q rk xs obs) _ _ = _; rw [hq]; exact h2)
theorem sound_never {P : Program} {glob : Nat -> Option CV} {g : FuncId} {p : List V -> List Obj -> Bool} {S : List V -> List Obj -> Tree} (h : ∀ xs obs, ¬ p xs obs = true) : Sound P glob g (fun xs obs => cond (p xs obs) (S xs obs).eval none) := by
 intro xs obs out w Im ρ bl vs hs
 exact absurd (cond_some hs).1 (h xs obs)
theorem sound_fail {P : Program} {glob : Nat -> Option CV} {g : FuncId} {p : List V -> List Obj -> Bool} : Sound P glob g (fun xs obs => cond (p xs obs) ((fun _ _ => Tree.fail : List V -> List Obj -> Tree) xs obs).eval none) := by
 intro xs obs out w Im ρ bl vs hs
 cases (cond_some hs).2
abbrev MX : Prop := Tryd.prog.follows .mixedOrders = true
abbrev OKS (g : FuncId) (p : List V -> List Obj -> Bool) (S : List V -> List Obj -> Tree) : Prop := Sound Tryd.prog glVal g (fun xs obs => cond (p xs obs) (S xs obs).eval none)
theorem soundDigits (hm : MX) : OKS 125 preDigits SDigits :=
 read_sound (E := EDigits) (N := 40) (keep := false) hm (fun g => sound_none) Tryd.func125 rfl rfl loopsDigits rfl (by
  intro xs obs out hp h
  unfold SDigits at h
  split at h
  ·refine ⟨by simp [Tryd.f125], ?_⟩
   rw [gDigits_eq]
   exact (nDigits _ hp).trans h
  ·cases h    )
theorem soundDLeap (hm : MX) : OKS 166 preDLeap SDLeap :=
 read_sound (E := EDLeap) (N := 40) (keep := false) hm (fun g => sound_none) Tryd.func166 rfl rfl loopsDLeap rfl (by
  intro xs obs out hp h
  unfold SDLeap at h
  split at h
  ·refine ⟨by simp [Tryd.f166], ?_⟩
   rw [gDLeap_eq]
   exact (nDLeap _ _ _ _ _ _ hp).trans h
  ·cases h    )
theorem soundDDays (hm : MX) : OKS 156 preDDays SDDays :=
 read_sound (E := EDDays) (N := 40) (keep := false) hm (fun g => (sound_pick (soundDLeap hm) sound_none)) Tryd.func156 rfl rfl loopsDDays rfl (by
  intro xs obs out hp h
  unfold SDDays at h
  split at h
  ·refine ⟨by simp [Tryd.f156], ?_⟩
   rw [gDDays_eq]
   exact (nDDays _ _ _ _ _ _ hp).trans h
  ·cases h    )
theorem soundDFit (hm : MX) : OKS 126 preDFit SDFit :=
 read_sound (E := EDFit) (N := 40) (keep := false) hm (fun g => (sound_pick (soundDDays hm) sound_none)) Tryd.func126 rfl rfl loopsDFit rfl (by
  intro xs obs out hp h
  unfold SDFit at h
  split at h
  ·refine ⟨by simp [Tryd.f126], ?_⟩
   rw [gDFit_eq]
   exact (nDFit _ _ _ _ _ _ hp).trans h
  ·cases h    )
theorem soundDSecs (hm : MX) : OKS 127 preDSecs SDSecs :=
 read_sound (E := EDSecs) (N := 40) (keep := false) hm (fun g => sound_none) Tryd.func127 rfl rfl loopsDSecs rfl (by
  intro xs obs out hp h
  unfold SDSecs at h
  split at h
  ·refine ⟨by simp [Tryd.f127], ?_⟩
   rw [gDSecs_eq]
   exact (nDSecs _ _ _ _ _ _ hp).trans h
  ·cases h    )
theorem soundSRead (hm : MX) : OKS 85 preSRead SSRead :=
 read_sound (E := ESRead) (N := 40) (keep := false) hm (fun g => (sound_pick (soundDigits hm) (sound_pick (soundDFit hm) (sound_pick (soundDSecs hm) sound_none)))) Tryd.func85 rfl rfl loopsSRead rfl (by
  intro xs obs out hp h
  unfold SSRead at h
  split at h
  ·refine ⟨by simp [Tryd.f85], ?_⟩
   rw [gSRead_eq]
   exact (nSRead _ hp).trans h
  ·cases h    )
theorem soundRLeap (hm : MX) : OKS 157 preRLeap SRLeap :=
 read_sound (E := ERLeap) (N := 40) (keep := false) hm (fun g => sound_none) Tryd.func157 rfl rfl loopsRLeap rfl (by
  intro xs obs out hp h
  unfold SRLeap at h
  split at h
  ·refine ⟨by simp [Tryd.f157], ?_⟩
   rw [gRLeap_eq]
   exact (nRLeap _ hp).trans h
  ·cases h    )
theorem soundRDays (hm : MX) : OKS 129 preRDays SRDays :=
 read_sound (E := ERDays) (N := 40) (keep := false) hm (fun g => (sound_pick (soundRLeap hm) sound_none)) Tryd.func129 rfl rfl loopsRDays rfl (by
  intro xs obs out hp h
  unfold SRDays at h
  split at h
  ·refine ⟨by simp [Tryd.f129], ?_⟩
   rw [gRDays_eq]
   exact (nRDays _ _ hp).trans h
  ·cases h    )
theorem soundRYears (hm : MX) : OKS 130 preRYears SRYears :=
 read_sound (E := ERYears) (N := 40) (keep := false) hm (fun g => sound_none) Tryd.func130 rfl rfl loopsRYears rfl (by
  intro xs obs out hp h
  unfold SRYears at h
  split at h
  ·refine ⟨by simp [Tryd.f130], ?_⟩
   rw [gRYears_eq]
   exact (nRYears _ hp).trans h
  ·cases h    )
theorem soundRNumber (hm : MX) : OKS 128 preRNumber SRNumber :=
 read_sound (E := ERNumber) (N := 40) (keep := false) hm (fun g => sound_none) Tryd.func128 rfl rfl loopsRNumber rfl (by
  intro xs obs out hp h
  unfold SRNumber at h
  split at h
  ·refine ⟨by simp [Tryd.f128], ?_⟩
   rw [gRNumber_eq]
   exact (nRNumber _ hp).trans h
  ·cases h    )
theorem soundRRead (hm : MX) : OKS 86 preRRead SRRead :=
 read_sound (E := ERRead) (N := 40) (keep := false) hm (fun g => (sound_pick (soundRNumber hm) (sound_pick (soundRDays hm) (sound_pick (soundRYears hm) sound_none)))) Tryd.func86 rfl rfl loopsRRead rfl (by
  intro xs obs out hp h
  unfold SRRead at h
  split at h
  ·refine ⟨by simp [Tryd.f86], ?_⟩
   rw [gRRead_eq]
   exact (nRRead _ hp).trans h
  ·cases h    )
theorem soundDBoxed (hm : MX) : OKS 100 preDBoxed SDBoxed :=
 read_sound (E := EDBoxed) (N := 40) (keep := false) hm (fun g => sound_none) Tryd.func100 rfl rfl loopsDBoxed rfl (by
  intro xs obs out hp h
  unfold SDBoxed at h
  split at h
  ·refine ⟨by simp [Tryd.f100], ?_⟩
   rw [gDBoxed_eq]
   exact (nDBoxed _ hp).trans h
  ·cases h    )
theorem soundRBoxed (hm : MX) : OKS 101 preRBoxed SRBoxed :=
 read_sound (E := ERBoxed) (N := 40) (keep := false) hm (fun g => sound_none) Tryd.func101 rfl rfl loopsRBoxed rfl (by
  intro xs obs out hp h
  unfold SRBoxed at h
  split at h
  ·refine ⟨by simp [Tryd.f101], ?_⟩
   rw [gRBoxed_eq]
   exact (nRBoxed _ hp).trans h
  ·cases h    )
theorem soundDKnown (hm : MX) : OKS 146 preDKnown SDKnown :=
 read_sound (E := EDKnown) (N := 40) (keep := false) hm (fun g => (sound_pick (soundDBoxed hm) sound_none)) Tryd.func146 rfl rfl loopsDKnown rfl (by
  intro xs obs out hp h
  unfold SDKnown at h
  split at h
  ·refine ⟨by simp [Tryd.f146], ?_⟩
   rw [gDKnown_eq]
   exact (nDKnown _ hp).trans h
  ·cases h    )
theorem soundRTagged (hm : MX) : OKS 142 preRTagged SRTagged :=
 read_sound (E := ERTagged) (N := 40) (keep := false) hm (fun g => (sound_pick (soundRBoxed hm) sound_none)) Tryd.func142 rfl rfl loopsRTagged rfl (by
  intro xs obs out hp h
  unfold SRTagged at h
  split at h
  ·refine ⟨by simp [Tryd.f142], ?_⟩
   rw [gRTagged_eq]
   exact (nRTagged _ hp).trans h
  ·cases h    )
theorem soundDLenSize (hm : MX) : OKS 148 preDLenSize SDLenSize :=
 read_sound (E := EDLenSize) (N := 40) (keep := false) hm (fun g => sound_none) Tryd.func148 rfl rfl loopsDLenSize rfl (by
  intro xs obs out hp h
  unfold SDLenSize at h
  split at h
  ·refine ⟨by simp [Tryd.f148], ?_⟩
   rw [gDLenSize_eq]
   exact (nDLenSize _ hp).trans h
  ·cases h    )
theorem soundDNumber (hm : MX) : OKS 159 preDNumber SDNumber :=
 read_sound (E := EDNumber) (N := 40) (keep := false) hm (fun g => sound_none) Tryd.func159 rfl rfl loopsDNumber rfl (by
  intro xs obs out hp h
  unfold SDNumber at h
  split at h
  ·refine ⟨by simp [Tryd.f159], ?_⟩
   rw [gDNumber_eq]
   exact (nDNumber _ hp).trans h
  ·cases h    )
theorem soundRFitInt (hm : MX) : OKS 139 preRFitInt SRFitInt :=
 read_sound (E := ERFitInt) (N := 40) (keep := false) hm (fun g => sound_none) Tryd.func139 rfl rfl loopsRFitInt rfl (by
  intro xs obs out hp h
  unfold SRFitInt at h
  split at h
  ·refine ⟨by simp [Tryd.f139], ?_⟩
   rw [gRFitInt_eq]
   exact (nRFitInt _ hp).trans h
  ·cases h    )
theorem soundDStrip (hm : MX) : OKS 160 preDStrip SDStrip :=
 read_sound (E := EDStrip) (N := 40) (keep := false) hm (fun g => sound_none) Tryd.func160 rfl rfl loopsDStrip rfl (by
  intro xs obs out hp h
  unfold SDStrip at h
  split at h
  ·refine ⟨by simp [Tryd.f160], ?_⟩
   rw [gDStrip_eq]
   exact (nDStrip _ hp).trans h
  ·cases h    )
theorem soundRFitBits (hm : MX) : OKS 140 preRFitBits SRFitBits :=
 read_sound (E := ERFitBits) (N := 40) (keep := false) hm (fun g => sound_none) Tryd.func140 rfl rfl loopsRFitBits rfl (by
  intro xs obs out hp h
  unfold SRFitBits at h
  split at h
  ·refine ⟨by simp [Tryd.f140], ?_⟩
   rw [gRFitBits_eq]
   exact (nRFitBits _ hp).trans h
  ·cases h    )
theorem soundRCont (hm : MX) : OKS 167 preRCont SRCont :=
 read_sound (E := ERCont) (N := 40) (keep := false) hm (fun g => sound_none) Tryd.func167 rfl rfl loopsRCont rfl (by
  intro xs obs out hp h
  unfold SRCont at h
  split at h
  ·refine ⟨by simp [Tryd.f167], ?_⟩
   rw [gRCont_eq]
   exact (nRCont _ _ hp).trans h
  ·cases h    )
theorem soundRRune (hm : MX) : OKS 158 preRRune SRRune :=
 read_sound (E := ERRune) (N := 40) (keep := false) hm (fun g => (sound_pick (soundRCont hm) sound_none)) Tryd.func158 rfl rfl loopsRRune rfl (by
  intro xs obs out hp h
  unfold SRRune at h
  split at h
  ·refine ⟨by simp [Tryd.f158], ?_⟩
   rw [gRRune_eq]
   exact (nRRune _ _ hp).trans h
  ·cases h    )
theorem soundRUtf8 (hm : MX) : OKS 141 preRUtf8 SRUtf8 :=
 read_sound (E := ERUtf8) (N := 40) (keep := false) hm (fun g => (sound_pick (soundRRune hm) sound_none)) Tryd.func141 rfl rfl loopsRUtf8 rfl (by
  intro xs obs out hp h
  unfold SRUtf8 at h
  split at h
  ·refine ⟨by simp [Tryd.f141], ?_⟩
   rw [gRUtf8_eq]
   exact (nRUtf8 _ hp).trans h
  ·cases h    )
theorem soundOFit (hm : MX) : OKS 122 preOFit SOFit :=
 read_sound (E := EOFit) (N := 40) (keep := false) hm (fun g => sound_none) Tryd.func122 rfl rfl loopsOFit rfl (by
  intro xs obs out hp h
  unfold SOFit at h
  split at h
  ·refine ⟨by simp [Tryd.f122], ?_⟩
   rw [gOFit_eq]
   exact (nOFit _ hp).trans h
  ·cases h    )
theorem soundR2Fit (hm : MX) : OKS 124 preR2Fit SR2Fit :=
 read_sound (E := ER2Fit) (N := 40) (keep := false) hm (fun g => sound_none) Tryd.func124 rfl rfl loopsR2Fit rfl (by
  intro xs obs out hp h
  unfold SR2Fit at h
  split at h
  ·refine ⟨by simp [Tryd.f124], ?_⟩
   rw [gR2Fit_eq]
   exact (nR2Fit _ hp).trans h
  ·cases h    )
theorem soundR2First (hm : MX) : OKS 123 preR2First SR2First :=
 read_sound (E := ER2First) (N := 40) (keep := false) hm (fun g => sound_none) Tryd.func123 rfl rfl loopsR2First rfl (by
  intro xs obs out hp h
  unfold SR2First at h
  split at h
  ·refine ⟨by simp [Tryd.f123], ?_⟩
   rw [gR2First_eq]
   exact (nR2First _ hp).trans h
  ·cases h    )
theorem soundONumber (hm : MX) : OKS 155 preONumber SONumber :=
 read_sound (E := EONumber) (N := 40) (keep := false) hm (fun g => sound_none) Tryd.func155 rfl rfl loopsONumber rfl (by
  intro xs obs out hp h
  unfold SONumber at h
  split at h
  ·refine ⟨by simp [Tryd.f155], ?_⟩
   rw [gONumber_eq]
   exact (nONumber _ hp).trans h
  ·cases h    )
theorem soundONumbers (hm : MX) : OKS 121 preONumbers SONumbers :=
 read_sound (E := EONumbers) (N := 40) (keep := true) hm (fun g => sound_none) Tryd.func121 rfl rfl loopsONumbers rfl (by
  intro xs obs out hp h
  unfold SONumbers at h
  split at h
  ·refine ⟨by simp [Tryd.f121], ?_⟩
   rw [gONumbers_eq]
   exact (nONumbers _ hp).trans h
  ·cases h    )
theorem seqONums (hm : MX) : ∀ xs obs ys, preONums xs obs = true -> QONums xs obs = some ys -> SeqOk Tryd.prog glVal 154 xs obs ys := by
 intro xs obs ys hp h
 unfold QONums at h
 split at h
 ·rename_i b
  cases h
  have hE : ∀ (l : Nat) (g : FuncId), Sound Tryd.prog (EONums l).glob g (ctr (EONums l) g) := fun l g => (sound_pick (soundONumber hm) sound_none)
  refine seq_sound (N := 40) EONums hE hm (fun _ => rfl) (fun _ => rfl) (fun _ => rfl) Tryd.func154 rfl loopsONums (fun _ => rfl) (by decide) rfl fun l => ?_
  obtain ⟨out, h1, h2⟩ := nONums l b hp
  exact ⟨out, (gONums_eq l b).trans h1, h2⟩
 ·cases h
theorem sqOParse (hm : MX) : SeqSound Tryd.prog EOParse := by
 intro gf xs obs ys hp h
 have h : (cond (Nat.beq gf 154) QONums (fun _ _ => none)) xs obs = some ys := h
 cases hb : Nat.beq gf 154 with
 | false => rw [hb] at h; cases h
 | true =>
  obtain rfl := beq_iff.1 hb
  exact ⟨seqONums hm xs obs ys hp h, _, Tryd.func154, rfl, rfl⟩
theorem soundOParse (hm : MX) : OKS 82 preOParse SOParse :=
 read_sound (E := EOParse) (N := 40) (keep := false) hm (fun g => (sound_pick (soundONumbers hm) (sound_pick (soundOFit hm) sound_fail))) Tryd.func82 rfl rfl loopsOParse rfl (hsq := sqOParse hm) (hS := by
  intro xs obs out hp h
  unfold SOParse at h
  split at h
  ·refine ⟨by simp [Tryd.f82], ?_⟩
   rw [gOParse_eq]
   exact (nOParse _ hp).trans h
  ·cases h)
theorem soundR2Parse (hm : MX) : OKS 83 preR2Parse SR2Parse :=
 read_sound (E := ER2Parse) (N := 40) (keep := false) hm (fun g => (sound_pick (soundR2First hm) (sound_pick (soundR2Fit hm) sound_none))) Tryd.func83 rfl rfl loopsR2Parse rfl (by
  intro xs obs out hp h
  unfold SR2Parse at h
  split at h
  ·refine ⟨by simp [Tryd.f83], ?_⟩
   rw [gR2Parse_eq]
   exact (nR2Parse _ hp).trans h
  ·cases h    )
theorem soundR1Same (hm : MX) : OKS 28 preR1Same SR1Same :=
 read_sound (E := ER1Same) (N := 40) (keep := false) hm (fun g => sound_none) Tryd.func28 rfl rfl loopsR1Same rfl (by
  intro xs obs out hp h
  unfold SR1Same at h
  split at h
  ·refine ⟨by simp [Tryd.f28], ?_⟩
   rw [gR1Same_eq]
   exact (nR1Same _ _ hp).trans h
  ·cases h    )
theorem soundSClone (hm : MX) : OKS 78 preSClone SSClone :=
 read_sound (E := ESClone) (N := 40) (keep := false) hm (fun g => sound_none) Tryd.func78 rfl rfl loopsSClone rfl (by
  intro xs obs out hp h
  unfold SSClone at h
  split at h
  ·refine ⟨by simp [Tryd.f78], ?_⟩
   rw [gSClone_eq]
   exact (nSClone _ hp).trans h
  ·cases h    )
theorem soundR4Less (hm : MX) : OKS 99 preR4Less SR4Less :=
 read_sound (E := ER4Less) (N := 40) (keep := false) hm (fun g => sound_none) Tryd.func99 rfl rfl loopsR4Less rfl (by
  intro xs obs out hp h
  unfold SR4Less at h
  split at h
  ·refine ⟨by simp [Tryd.f99], ?_⟩
   rw [gR4Less_eq]
   exact (nR4Less _ _ hp).trans h
  ·cases h    )
theorem soundUWord (hm : MX) : OKS 168 preUWord SUWord :=
 read_sound (E := EUWord) (N := 40) (keep := false) hm (fun g => sound_none) Tryd.func168 rfl rfl loopsUWord rfl (by
  intro xs obs out hp h
  unfold SUWord at h
  split at h
  ·refine ⟨by simp [Tryd.f168], ?_⟩
   rw [gUWord_eq]
   exact (nUWord _ hp).trans h
  ·cases h    )
theorem soundUValid (hm : MX) : OKS 161 preUValid SUValid :=
 read_sound (E := EUValid) (N := 40) (keep := false) hm (fun g => (sound_pick (soundUWord hm) sound_none)) Tryd.func161 rfl rfl loopsUValid rfl (by
  intro xs obs out hp h
  unfold SUValid at h
  split at h
  ·refine ⟨by simp [Tryd.f161], ?_⟩
   rw [gUValid_eq]
   exact (nUValid _ hp).trans h
  ·cases h    )
theorem soundRRSame (hm : MX) : ∀ rk, OKS 16 (preRRSame rk) SRSame
 | 0 => sound_never fun xs obs h => by
  unfold preRRSame at h
  split at h
  ·simp only [Bool.and_eq_true] at h
   have := isNr_spec h.1
   simp [isNf] at this
  ·cases h
 | rk + 1 => read_sound (E := ERSame rk) (N := 40) (keep := false) hm (fun g => (sound_pick (soundRRSame hm rk) (sound_pick (soundR1Same hm) sound_none))) Tryd.func16 rfl rfl (loopsRSame rk) rfl (by
  intro xs obs out hp h
  have hp : preRRSame (rk + 1) xs obs = true := hp
  have hp0 := hp
  unfold preRRSame at hp
  split at hp
  ·rename_i a b
   simp only [Bool.and_eq_true] at hp
   obtain ⟨_, ta, ba, ka, _, rfl, _⟩ := nd_inv (isNr_spec hp.1)
   obtain ⟨_, hn⟩ := isN_spec hp.2
   obtain ⟨_, tb, bb, kb, _, rfl, _⟩ := nd_inv hn
   refine ⟨by simp [Tryd.f16], ?_⟩
   rw [gRSame_eq]
   exact (nRSame rk ta ba ka tb bb kb hp0).trans h
  ·cases hp)
theorem soundRSame (hm : MX) : OKS 16 preRSame SRSame :=
 sound_ranked (fun rk => soundRRSame hm rk) fun xs obs h => by
  unfold preRSame at h
  split at h
  ·rename_i a b
   simp only [Bool.and_eq_true] at h
   obtain ⟨n, hn⟩ := isN_spec h.1
   refine ⟨n, ?_⟩
   show (isNr n a && isN b) = true
   rw [isNr_of hn, h.2]
   rfl
  ·cases h
theorem soundDFits (hm : MX) : OKS 147 preDFits SDFits :=
 read_sound (E := EDFits) (N := 40) (keep := false) hm (fun g => (sound_pick (soundOParse hm) (sound_pick (soundSRead hm) (sound_pick (soundDNumber hm) (sound_pick (soundDStrip hm) (sound_pick (soundUValid hm) sound_none)))))) Tryd.func147 rfl rfl loopsDFits rfl (by
  intro xs obs out hp h
  unfold SDFits at h
  split at h
  ·refine ⟨by simp [Tryd.f147], ?_⟩
   rw [gDFits_eq]
   exact (nDFits _ _ hp).trans h
  ·cases h    )
theorem soundRFits (hm : MX) : OKS 111 preRFits SRFits :=
 read_sound (E := ERFits) (N := 40) (keep := false) hm (fun g => (sound_pick (soundR2Parse hm) (sound_pick (soundRRead hm) (sound_pick (soundRFitInt hm) (sound_pick (soundRFitBits hm) (sound_pick (soundRUtf8 hm) sound_none)))))) Tryd.func111 rfl rfl loopsRFits rfl (by
  intro xs obs out hp h
  unfold SRFits at h
  split at h
  ·refine ⟨by simp [Tryd.f111], ?_⟩
   rw [gRFits_eq]
   exact (nRFits _ _ hp).trans h
  ·cases h    )
theorem soundR4Sorted (hm : MX) : OKS 144 preR4Sorted SR4Sorted :=
 read_sound (E := ER4Sorted) (N := 40) (keep := false) hm (fun g => (sound_pick (soundR4Less hm) sound_none)) Tryd.func144 rfl rfl loopsR4Sorted rfl (by
  intro xs obs out hp h
  unfold SR4Sorted at h
  split at h
  ·refine ⟨by simp [Tryd.f144], ?_⟩
   rw [gR4Sorted_eq]
   exact (nR4Sorted _ hp).trans h
  ·cases h    )
theorem soundBCompare (hm : MX) : OKS 71 preBCompare SBCompare :=
 read_sound (E := EBCompare) (N := 40) (keep := false) hm (fun g => (sound_pick (soundBACompare hm) sound_none)) Tryd.func71 rfl rfl loopsBCompare rfl (by
  intro xs obs out hp h
  unfold SBCompare at h
  split at h
  ·refine ⟨by simp [Tryd.f71], ?_⟩
   rw [gBCompare_eq]
   exact (nBCompare _ _ hp).trans h
  ·cases h    )
theorem soundOLess (hm : MX) : OKS 163 preOLess SOLess :=
 read_sound (E := EOLess) (N := 40) (keep := false) hm (fun g => (sound_pick (soundBCompare hm) sound_none)) Tryd.func163 rfl rfl loopsOLess rfl (by
  intro xs obs out hp h
  unfold SOLess at h
  split at h
  ·refine ⟨by simp [Tryd.f163], ?_⟩
   rw [gOLess_eq]
   exact (nOLess _ _ hp).trans h
  ·cases h    )
theorem soundOSteps (hm : MX) : OKS 162 preOSteps SOSteps :=
 read_sound (E := EOSteps) (N := 40) (keep := false) hm (fun g => (sound_pick (soundOLess hm) sound_none)) Tryd.func162 rfl rfl loopsOSteps rfl (by
  intro xs obs out hp h
  unfold SOSteps at h
  split at h
  ·refine ⟨by simp [Tryd.f162], ?_⟩
   rw [gOSteps_eq]
   exact (nOSteps _ hp).trans h
  ·cases h    )
theorem soundOSorted (hm : MX) : OKS 150 preOSorted SOSorted :=
 read_sound (E := EOSorted) (N := 40) (keep := false) hm (fun g => (sound_pick (soundOSteps hm) (sound_pick (soundOLess hm) sound_none))) Tryd.func150 rfl rfl loopsOSorted rfl (by
  intro xs obs out hp h
  unfold SOSorted at h
  split at h
  ·refine ⟨by simp [Tryd.f150], ?_⟩
   rw [gOSorted_eq]
   exact (nOSorted _ hp).trans h
  ·cases h    )
theorem soundRRSmall (hm : MX) : ∀ rk, OKS 54 (preRRSmall rk) SRSmall
 | 0 => sound_never fun xs obs h => by
  unfold preRRSmall at h
  split at h
  ·simp only [Bool.and_eq_true] at h; have := isTr_spec h.1; simp [isTf] at this
  ·cases h
 | rk + 1 => read_sound (E := ERSmall rk) (N := 40) (keep := false) hm (fun g => (sound_pick (soundRRSmall hm rk) sound_none)) Tryd.func54 rfl rfl (loopsRSmall rk) rfl (by
  intro xs obs out hq h
  have hp : preRRSmall (rk + 1) xs obs = true := hq
  have hp0 : preRRSmall (rk + 1) xs obs = true := hq
  clear hq
  unfold preRRSmall at hp
  split at hp
  ·rename_i a n
   try simp only [Bool.and_eq_true] at hp
   have ha := isTr_spec hp.1
   obtain ⟨_, ta, ba, ka, _, rfl, _⟩ := tf_inv ha
   refine ⟨by simp [Tryd.f54], ?_⟩
   rw [gRSmall_eq]
   exact (nRSmall rk ta ba ka n hp0).trans h
  ·cases hp)
theorem soundRSmall (hm : MX) : OKS 54 preRSmall SRSmall :=
 sound_ranked (fun rk => soundRRSmall hm rk) fun xs obs h => by
  unfold preRSmall at h
  split at h
  ·rename_i a n
   simp only [Bool.and_eq_true] at h
   obtain ⟨n', hn⟩ := isT_spec h.1
   refine ⟨n', ?_⟩
   show (isTr n' a && leftOk n) = true
   rw [isTr_of hn, h.2]; rfl
  ·cases h
theorem soundRDSize (hm : MX) : ∀ rk, OKS 113 (preRDSize rk) SDSize
 | 0 => sound_never fun xs obs h => by
  unfold preRDSize at h
  split at h
  ·simp only [Bool.and_eq_true] at h; have := (isSr_spec h.1).1; simp [isTf] at this
  ·cases h
 | rk + 1 => read_sound (E := EDSize rk) (N := 40) (keep := false) hm (fun g => (sound_pick (soundDBoxed hm) (sound_pick (soundRDSize hm rk) (sound_pick (soundDKnown hm) (sound_pick (soundDFits hm) (sound_pick (soundDLenSize hm) sound_none)))))) Tryd.func113 rfl rfl (loopsDSize rk) rfl (by
  intro xs obs out hq h
  have hp : preRDSize (rk + 1) xs obs = true := hq
  have hp0 : preRDSize (rk + 1) xs obs = true := hq
  clear hq
  unfold preRDSize at hp
  split at hp
  ·rename_i a n
   try simp only [Bool.and_eq_true] at hp
   have ha := (isSr_spec hp.1).1
   obtain ⟨_, ta, ba, ka, _, rfl, _⟩ := tf_inv ha
   refine ⟨by simp [Tryd.f113], ?_⟩
   rw [gDSize_eq]
   exact (nDSize rk ta ba ka n hp0).trans h
  ·cases hp)
theorem soundDSize (hm : MX) : OKS 113 preDSize SDSize :=
 sound_ranked (fun rk => soundRDSize hm rk) fun xs obs h => by
  unfold preDSize at h
  split at h
  ·rename_i a n
   simp only [Bool.and_eq_true] at h
   obtain ⟨n', hn, hb⟩ := isS_spec h.1
   refine ⟨n', ?_⟩
   show (isSr n' a && deepOk n) = true
   rw [isSr_of hn hb, h.2]; rfl
  ·cases h
theorem soundDPut (hm : MX) : OKS 149 preDPut SDPut :=
 read_sound (E := EDPut) (N := 40) (keep := true) hm (fun g => (sound_pick (soundDLenSize hm) sound_none)) Tryd.func149 rfl rfl loopsDPut rfl (by
  intro xs obs out hp h
  unfold SDPut at h
  split at h
  ·refine ⟨by simp [Tryd.f149], ?_⟩
   rw [gDPut_eq]
   exact (nDPut _ _ hp).trans h
  ·cases h    )
theorem soundRHead (hm : MX) : OKS 143 preRHead SRHead :=
 read_sound (E := ERHead) (N := 40) (keep := true) hm (fun g => sound_none) Tryd.func143 rfl rfl loopsRHead rfl (by
  intro xs obs out hp h
  unfold SRHead at h
  split at h
  ·refine ⟨by simp [Tryd.f143], ?_⟩
   rw [gRHead_eq]
   exact (nRHead _ _ hp).trans h
  ·cases h    )
theorem soundR1Join (hm : MX) : OKS 145 preR1Join SR1Join :=
 read_sound (E := ER1Join) (N := 40) (keep := false) hm (fun g => sound_none) Tryd.func145 rfl rfl loopsR1Join rfl (by
  intro xs obs out hp h
  unfold SR1Join at h
  split at h
  ·refine ⟨by simp [Tryd.f145], ?_⟩
   rw [gR1Join_eq]
   exact (nR1Join _ hp).trans h
  ·cases h    )
theorem soundSConcat (hm : MX) : OKS 151 preSConcat SSConcat :=
 read_sound (E := ESConcat) (N := 40) (keep := false) hm (fun g => (sound_pick (soundSGrow hm) sound_none)) Tryd.func151 rfl rfl loopsSConcat rfl (by
  intro xs obs out hp h
  unfold SSConcat at h
  split at h
  ·refine ⟨by simp [Tryd.f151], ?_⟩
   rw [gSConcat_eq]
   exact (nSConcat _ hp).trans h
  ·cases h    )
theorem soundRDWrite (hm : MX) : ∀ rk, OKS 114 (preRDWrite rk) SDWrite
 | 0 => sound_never fun xs obs h => by
  unfold preRDWrite at h
  split at h
  ·have := (isWr_spec h).1; simp [isTf] at this
  ·cases h
 | rk + 1 => read_sound (E := EDWrite rk) (N := 40) (keep := false) hm (fun g => (sound_pick (soundDBoxed hm) (sound_pick (soundRDWrite hm rk) (sound_pick (soundDPut hm) (sound_pick (soundOSorted hm) (sound_pick (soundSConcat hm) sound_none)))))) Tryd.func114 rfl rfl (loopsDWrite rk) rfl (by
  intro xs obs out hq h
  have hp : preRDWrite (rk + 1) xs obs = true := hq
  have hp0 : preRDWrite (rk + 1) xs obs = true := hq
  clear hq
  unfold preRDWrite at hp
  split at hp
  ·rename_i a
   try simp only [Bool.and_eq_true] at hp
   have ha := (isWr_spec hp).1
   obtain ⟨_, ta, ba, ka, _, rfl, _⟩ := tf_inv ha
   refine ⟨by simp [Tryd.f114], ?_⟩
   rw [gDWrite_eq]
   exact (nDWrite rk ta ba ka hp0).trans h
  ·cases hp)
theorem soundDWrite (hm : MX) : OKS 114 preDWrite SDWrite :=
 sound_ranked (fun rk => soundRDWrite hm rk) fun xs obs h => by
  unfold preDWrite at h
  split at h
  ·rename_i a
   unfold isW at h
   rw [shut_eq] at h
   obtain ⟨n, hn⟩ := @of_decide_eq_true _ (Classical.propDecidable _) h
   exact ⟨n, isWr_of hn⟩
  ·cases h
theorem soundRRWrite (hm : MX) : ∀ rk, OKS 112 (preRRWrite rk) SRWrite
 | 0 => sound_never fun xs obs h => by
  unfold preRRWrite at h
  split at h
  ·simp only [Bool.and_eq_true] at h; have := (isSr_spec h.1).1; simp [isTf] at this
  ·cases h
 | rk + 1 => read_sound (E := ERWrite rk) (N := 40) (keep := false) hm (fun g => (sound_pick (soundRBoxed hm) (sound_pick (soundRFits hm) (sound_pick (soundRRWrite hm rk) (sound_pick (soundRTagged hm) (sound_pick (soundRHead hm) (sound_pick (soundR4Sorted hm) (sound_pick (soundR1Join hm) sound_none)))))))) Tryd.func112 rfl rfl (loopsRWrite rk) rfl (by
  intro xs obs out hq h
  have hp : preRRWrite (rk + 1) xs obs = true := hq
  have hp0 : preRRWrite (rk + 1) xs obs = true := hq
  clear hq
  unfold preRRWrite at hp
  split at hp
  ·rename_i a n
   try simp only [Bool.and_eq_true] at hp
   have ha := (isSr_spec hp.1).1
   obtain ⟨_, ta, ba, ka, _, rfl, _⟩ := tf_inv ha
   refine ⟨by simp [Tryd.f112], ?_⟩
   rw [gRWrite_eq]
   exact (nRWrite rk ta ba ka n hp0).trans h
  ·cases hp)
theorem soundRWrite (hm : MX) : OKS 112 preRWrite SRWrite :=
 sound_ranked (fun rk => soundRRWrite hm rk) fun xs obs h => by
  unfold preRWrite at h
  split at h
  ·rename_i a n
   simp only [Bool.and_eq_true] at h
   obtain ⟨n', hn, hb⟩ := isS_spec h.1
   refine ⟨n', ?_⟩
   show (isSr n' a && deepOk n) = true
   rw [isSr_of hn hb, h.2]; rfl
  ·cases h
theorem soundDBytes (hm : MX) : OKS 68 preDBytes SDBytes :=
 read_sound (E := EDBytes) (N := 40) (keep := false) hm (fun g => (sound_pick (soundDSize hm) (sound_pick (soundDWrite hm) sound_none))) Tryd.func68 rfl rfl loopsDBytes rfl (by
  intro xs obs out hq h
  have hp : preDBytes xs obs = true := hq
  have hp0 : preDBytes xs obs = true := hq
  clear hq
  unfold preDBytes at hp
  split at hp
  ·rename_i a
   try simp only [Bool.and_eq_true] at hp
   obtain ⟨_, ha, _⟩ := isS_spec hp
   obtain ⟨_, ta, ba, ka, _, rfl, _⟩ := tf_inv ha
   refine ⟨by simp [Tryd.f68], ?_⟩
   rw [gDBytes_eq]
   exact (nDBytes ta ba ka hp0).trans h
  ·cases hp)
theorem soundDFit_ (hm : MX) : OKS 119 preDFit_ SDFit_ :=
 read_sound (E := EDFit_) (N := 40) (keep := false) hm (fun g => (sound_pick (soundDBytes hm) sound_none)) Tryd.func119 rfl rfl loopsDFit_ rfl (by
  intro xs obs out hq h
  have hp : preDFit_ xs obs = true := hq
  have hp0 : preDFit_ xs obs = true := hq
  clear hq
  unfold preDFit_ at hp
  split at hp
  ·rename_i a
   try simp only [Bool.and_eq_true] at hp
   obtain ⟨_, ha, _⟩ := isS_spec hp
   obtain ⟨_, ta, ba, ka, _, rfl, _⟩ := tf_inv ha
   refine ⟨by simp [Tryd.f119], ?_⟩
   rw [gDFit__eq]
   exact (nDFit_ ta ba ka hp0).trans h
  ·cases hp)
theorem soundRBytes (hm : MX) : OKS 67 preRBytes SRBytes :=
 read_sound (E := ERBytes) (N := 40) (keep := false) hm (fun g => (sound_pick (soundRWrite hm) sound_none)) Tryd.func67 rfl rfl loopsRBytes rfl (by
  intro xs obs out hq h
  have hp : preRBytes xs obs = true := hq
  have hp0 : preRBytes xs obs = true := hq
  clear hq
  unfold preRBytes at hp
  split at hp
  ·rename_i a
   try simp only [Bool.and_eq_true] at hp
   obtain ⟨_, ha, _⟩ := isS_spec hp
   obtain ⟨_, ta, ba, ka, _, rfl, _⟩ := tf_inv ha
   refine ⟨by simp [Tryd.f67], ?_⟩
   rw [gRBytes_eq]
   exact (nRBytes ta ba ka hp0).trans h
  ·cases hp)
theorem soundRFit_ (hm : MX) : OKS 11 preRFit_ SRFit_ :=
 read_sound (E := ERFit_) (N := 40) (keep := false) hm (fun g => (sound_pick (soundRBytes hm) sound_none)) Tryd.func11 rfl rfl loopsRFit_ rfl (by
  intro xs obs out hq h
  have hp : preRFit_ xs obs = true := hq
  have hp0 : preRFit_ xs obs = true := hq
  clear hq
  unfold preRFit_ at hp
  split at hp
  ·rename_i a
   try simp only [Bool.and_eq_true] at hp
   obtain ⟨_, ha, _⟩ := isS_spec hp
   obtain ⟨_, ta, ba, ka, _, rfl, _⟩ := tf_inv ha
   refine ⟨by simp [Tryd.f11], ?_⟩
   rw [gRFit__eq]
   exact (nRFit_ ta ba ka hp0).trans h
  ·cases hp)
theorem soundR2Same (hm : MX) : OKS 29 preR2Same SR2Same :=
 read_sound (E := ER2Same) (N := 40) (keep := false) hm (fun g => sound_none) Tryd.func29 rfl rfl loopsR2Same rfl (by
  intro xs obs out hp h
  unfold SR2Same at h
  split at h
  ·refine ⟨by simp [Tryd.f29], ?_⟩
   rw [gR2Same_eq]
   exact (nR2Same _ _ hp).trans h
  ·cases h    )
theorem soundSEq32 (hm : MX) : OKS 133 preSEq32 SSEq32 :=
 read_sound (E := ESEq32) (N := 40) (keep := false) hm (fun g => sound_none) Tryd.func133 rfl rfl loopsSEq32 rfl (by
  intro xs obs out hp h
  unfold SSEq32 at h
  split at h
  ·refine ⟨by simp [Tryd.f133], ?_⟩
   rw [gSEq32_eq]
   exact (nSEq32 _ _ hp).trans h
  ·cases h    )
theorem soundOSame (hm : MX) : OKS 98 preOSame SOSame :=
 read_sound (E := EOSame) (N := 40) (keep := false) hm (fun g => (sound_pick (soundSEq32 hm) sound_none)) Tryd.func98 rfl rfl loopsOSame rfl (by
  intro xs obs out hp h
  unfold SOSame at h
  split at h
  ·refine ⟨by simp [Tryd.f98], ?_⟩
   rw [gOSame_eq]
   exact (nOSame _ _ hp).trans h
  ·cases h    )
theorem soundOPut (hm : MX) : OKS 134 preOPut SOPut :=
 read_sound (E := EOPut) (N := 40) (keep := true) hm (fun g => sound_none) Tryd.func134 rfl rfl loopsOPut rfl (by
  intro xs obs out hp h
  unfold SOPut at h
  split at h
  ·refine ⟨by simp [Tryd.f134], ?_⟩
   rw [gOPut_0_eq]
   exact (nOPut_0 _ hp).trans h
  ·refine ⟨by simp [Tryd.f134], ?_⟩
   rw [gOPut_1_eq]
   exact (nOPut_1 _ _ _ hp).trans h
  ·cases h    )
theorem soundOBytes (hm : MX) : OKS 106 preOBytes SOBytes :=
 read_sound (E := EOBytes) (N := 40) (keep := false) hm (fun g => (sound_pick (soundOFit hm) (sound_pick (soundOPut hm) sound_none))) Tryd.func106 rfl rfl loopsOBytes rfl (by
  intro xs obs out hp h
  unfold SOBytes at h
  split at h
  ·refine ⟨by simp [Tryd.f106], ?_⟩
   rw [gOBytes_eq]
   exact (nOBytes _ hp).trans h
  ·cases h    )
theorem soundVBNum (hm : MX) : OKS 120 preVBNum SVBNum :=
 read_sound (E := EVBNum) (N := 40) (keep := false) hm (fun g => sound_none) Tryd.func120 rfl rfl loopsVBNum rfl (by
  intro xs obs out hp h
  unfold SVBNum at h
  split at h
  ·refine ⟨by simp [Tryd.f120], ?_⟩
   rw [gVBNum_eq]
   exact (nVBNum _ hp).trans h
  ·cases h    )
theorem soundVLe (hm : MX) : OKS 117 preVLe SVLe :=
 read_sound (E := EVLe) (N := 40) (keep := true) hm (fun g => sound_none) Tryd.func117 rfl rfl loopsVLe rfl (by
  intro xs obs out hp h
  unfold SVLe at h
  split at h
  ·refine ⟨by simp [Tryd.f117], ?_⟩
   rw [gVLe_eq]
   exact (nVLe _ hp).trans h
  ·cases h    )
theorem soundVReverse (hm : MX) : OKS 118 preVReverse SVReverse :=
 read_sound (E := EVReverse) (N := 40) (keep := false) hm (fun g => sound_none) Tryd.func118 rfl rfl loopsVReverse rfl (by
  intro xs obs out hp h
  unfold SVReverse at h
  split at h
  ·refine ⟨by simp [Tryd.f118], ?_⟩
   rw [gVReverse_eq]
   exact (nVReverse _ hp).trans h
  ·cases h    )
theorem soundVBe (hm : MX) : OKS 73 preVBe SVBe :=
 read_sound (E := EVBe) (N := 40) (keep := false) hm (fun g => (sound_pick (soundVLe hm) (sound_pick (soundVReverse hm) sound_none))) Tryd.func73 rfl rfl loopsVBe rfl (by
  intro xs obs out hp h
  unfold SVBe at h
  split at h
  ·refine ⟨by simp [Tryd.f73], ?_⟩
   rw [gVBe_eq]
   exact (nVBe _ hp).trans h
  ·cases h    )
theorem soundVInt (hm : MX) : OKS 14 preVInt SVInt :=
 read_sound (E := EVInt) (N := 40) (keep := false) hm (fun g => (sound_pick (soundVBe hm) sound_none)) Tryd.func14 rfl rfl loopsVInt rfl (by
  intro xs obs out hp h
  unfold SVInt at h
  split at h
  ·refine ⟨by simp [Tryd.f14], ?_⟩
   rw [gVInt_eq]
   exact (nVInt _ hp).trans h
  ·cases h    )
theorem soundVNumber (hm : MX) : OKS 75 preVNumber SVNumber :=
 read_sound (E := EVNumber) (N := 40) (keep := false) hm (fun g => (sound_pick (soundVBNum hm) sound_none)) Tryd.func75 rfl rfl loopsVNumber rfl (by
  intro xs obs out hp h
  unfold SVNumber at h
  split at h
  ·refine ⟨by simp [Tryd.f75], ?_⟩
   rw [gVNumber_eq]
   exact (nVNumber _ hp).trans h
  ·cases h    )
theorem soundVTime1 (hm : MX) : OKS 84 preVTime1 SVTime1 :=
 read_sound (E := EVTime1) (N := 40) (keep := false) hm (fun g => (sound_pick (soundSRead hm) sound_none)) Tryd.func84 rfl rfl loopsVTime1 rfl (by
  intro xs obs out hp h
  unfold SVTime1 at h
  split at h
  ·refine ⟨by simp [Tryd.f84], ?_⟩
   rw [gVTime1_eq]
   exact (nVTime1 _ hp).trans h
  ·cases h    )
theorem soundVToldI (hm : MX) : OKS 74 preVToldI SVToldI :=
 read_sound (E := EVToldI) (N := 40) (keep := false) hm (fun g => (sound_pick (soundVNumber hm) (sound_pick (soundVTime1 hm) (sound_pick (soundDFit_ hm) sound_none)))) Tryd.func74 rfl rfl loopsVToldI rfl (by
  intro xs obs out hp h
  unfold SVToldI at h
  split at h
  ·refine ⟨by simp [Tryd.f74], ?_⟩
   rw [gVToldI_0_eq]
   exact (nVToldI_0 _ _ _ hp).trans h
  ·refine ⟨by simp [Tryd.f74], ?_⟩
   rw [gVToldI_1_eq]
   exact (nVToldI_1 _ _ _ hp).trans h
  ·cases h    )
theorem soundVToldO (hm : MX) : OKS 81 preVToldO SVToldO :=
 read_sound (E := EVToldO) (N := 40) (keep := false) hm (fun g => (sound_pick (soundOParse hm) (sound_pick (soundDFit_ hm) sound_none))) Tryd.func81 rfl rfl loopsVToldO rfl (by
  intro xs obs out hp h
  unfold SVToldO at h
  split at h
  ·refine ⟨by simp [Tryd.f81], ?_⟩
   rw [gVToldO_eq]
   exact (nVToldO _ _ _ hp).trans h
  ·cases h    )
theorem soundVIntOf (hm : MX) : OKS 18 preVIntOf SVIntOf :=
 read_sound (E := EVIntOf) (N := 40) (keep := false) hm (fun g => (sound_pick (soundVToldI hm) (sound_pick (soundVNumber hm) sound_none))) Tryd.func18 rfl rfl loopsVIntOf rfl (by
  intro xs obs out hp h
  unfold SVIntOf at h
  split at h
  ·refine ⟨by simp [Tryd.f18], ?_⟩
   rw [gVIntOf_eq]
   exact (nVIntOf _ _ _ hp).trans h
  ·cases h    )
theorem soundVBytesOf (hm : MX) : OKS 20 preVBytesOf SVBytesOf :=
 read_sound (E := EVBytesOf) (N := 40) (keep := false) hm (fun g => (sound_pick (soundSClone hm) sound_none)) Tryd.func20 rfl rfl loopsVBytesOf rfl (by
  intro xs obs out hp h
  unfold SVBytesOf at h
  split at h
  ·refine ⟨by simp [Tryd.f20], ?_⟩
   rw [gVBytesOf_eq]
   exact (nVBytesOf _ _ _ hp).trans h
  ·cases h    )
theorem soundVIdOf (hm : MX) : OKS 24 preVIdOf SVIdOf :=
 read_sound (E := EVIdOf) (N := 40) (keep := false) hm (fun g => (sound_pick (soundVToldO hm) (sound_pick (soundOParse hm) sound_none))) Tryd.func24 rfl rfl loopsVIdOf rfl (by
  intro xs obs out hp h
  unfold SVIdOf at h
  split at h
  ·refine ⟨by simp [Tryd.f24], ?_⟩
   rw [gVIdOf_eq]
   exact (nVIdOf _ _ _ hp).trans h
  ·cases h    )
theorem soundVMade (hm : MX) : OKS 104 preVMade SVMade :=
 read_sound (E := EVMade) (N := 40) (keep := false) hm (fun g => (sound_pick (soundDFit_ hm) sound_none)) Tryd.func104 rfl rfl loopsVMade rfl (by
  intro xs obs out hp h
  unfold SVMade at h
  split at h
  ·refine ⟨by simp [Tryd.f104], ?_⟩
   rw [gVMade_eq]
   exact (nVMade _ _ hp).trans h
  ·cases h    )
theorem soundVId (hm : MX) : OKS 59 preVId SVId :=
 read_sound (E := EVId) (N := 40) (keep := false) hm (fun g => (sound_pick (soundVMade hm) (sound_pick (soundOBytes hm) sound_none))) Tryd.func59 rfl rfl loopsVId rfl (by
  intro xs obs out hp h
  unfold SVId at h
  split at h
  ·refine ⟨by simp [Tryd.f59], ?_⟩
   rw [gVId_eq]
   exact (nVId _ hp).trans h
  ·cases h    )
theorem soundVBytes (hm : MX) : OKS 64 preVBytes SVBytes :=
 read_sound (E := EVBytes) (N := 40) (keep := false) hm (fun g => (sound_pick (soundSClone hm) sound_none)) Tryd.func64 rfl rfl loopsVBytes rfl (by
  intro xs obs out hp h
  unfold SVBytes at h
  split at h
  ·refine ⟨by simp [Tryd.f64], ?_⟩
   rw [gVBytes_eq]
   exact (nVBytes _ hp).trans h
  ·cases h    )
theorem soundVClone (hm : MX) : OKS 72 preVClone SVClone :=
 read_sound (E := EVClone) (N := 40) (keep := false) hm (fun g => sound_none) Tryd.func72 rfl rfl loopsVClone rfl (by
  intro xs obs out hp h
  unfold SVClone at h
  split at h
  ·refine ⟨by simp [Tryd.f72], ?_⟩
   rw [gVClone_eq]
   exact (nVClone _ hp).trans h
  ·cases h    )
theorem soundVSeq (hm : MX) : OKS 53 preVSeq SVSeq :=
 read_sound (E := EVSeq) (N := 40) (keep := false) hm (fun g => (sound_pick (soundVClone hm) sound_none)) Tryd.func53 rfl rfl loopsVSeq rfl (by
  intro xs obs out hp h
  unfold SVSeq at h
  split at h
  ·refine ⟨by simp [Tryd.f53], ?_⟩
   rw [gVSeq_eq]
   exact (nVSeq _ hp).trans h
  ·cases h    )
theorem soundVKids (hm : MX) : OKS 51 preVKids SVKids :=
 read_sound (E := EVKids) (N := 40) (keep := false) hm (fun g => (sound_pick (soundVClone hm) (sound_pick (soundDBoxed hm) sound_none))) Tryd.func51 rfl rfl loopsVKids rfl (by
  intro xs obs out hp h
  unfold SVKids at h
  split at h
  ·refine ⟨by simp [Tryd.f51], ?_⟩
   rw [gVKids_eq]
   exact (nVKids _ _ _ _ hp).trans h
  ·cases h    )
theorem soundARoot (hm : MX) : OKS 132 preARoot SARoot :=
 read_sound (E := EARoot) (N := 40) (keep := true) hm (fun g => sound_none) Tryd.func132 rfl rfl loopsARoot rfl (by
  intro xs obs out hp h
  unfold SARoot at h
  split at h
  ·refine ⟨by simp [Tryd.f132], ?_⟩
   rw [gARoot_0_eq]
   exact (nARoot_0 hp).trans h
  ·refine ⟨by simp [Tryd.f132], ?_⟩
   rw [gARoot_1_eq]
   exact (nARoot_1 hp).trans h
  ·refine ⟨by simp [Tryd.f132], ?_⟩
   rw [gARoot_2_eq]
   exact (nARoot_2 hp).trans h
  ·refine ⟨by simp [Tryd.f132], ?_⟩
   rw [gARoot_3_eq]
   exact (nARoot_3 hp).trans h
  ·refine ⟨by simp [Tryd.f132], ?_⟩
   rw [gARoot_4_eq]
   exact (nARoot_4 hp).trans h
  ·refine ⟨by simp [Tryd.f132], ?_⟩
   rw [gARoot_5_eq]
   exact (nARoot_5 hp).trans h
  ·cases h    )
theorem soundAAll (hm : MX) : OKS 97 preAAll SAAll :=
 read_sound (E := EAAll) (N := 40) (keep := false) hm (fun g => sound_none) Tryd.func97 rfl rfl loopsAAll rfl (by
  intro xs obs out hp h
  unfold SAAll at h
  split at h
  ·refine ⟨by simp [Tryd.f97], ?_⟩
   rw [gAAll_eq]
   exact (nAAll hp).trans h
  ·cases h    )
theorem seqAlAll (hm : MX) : ∀ xs obs ys, preAlAll xs obs = true -> QAlAll xs obs = some ys -> SeqOk Tryd.prog glVal 131 xs obs ys := by
 intro xs obs ys hp h
 unfold QAlAll at h
 split at h
 ·cases h
  have hE : ∀ (l : Nat) (g : FuncId), Sound Tryd.prog (EAlAll l).glob g (ctr (EAlAll l) g) := fun l g => (sound_pick (soundARoot hm) sound_none)
  refine seq_sound (N := 40) EAlAll hE hm (fun _ => rfl) (fun _ => rfl) (fun _ => rfl) Tryd.func131 rfl loopsAlAll (fun _ => rfl) (by decide) rfl fun l => ?_
  obtain ⟨out, h1, h2⟩ := nAlAll l hp
  exact ⟨out, (gAlAll_eq l).trans h1, h2⟩
 ·cases h
theorem sqAFound (hm : MX) : SeqSound Tryd.prog EAFound := by
 intro gf xs obs ys hp h
 have h : (cond (Nat.beq gf 131) QAlAll (fun _ _ => none)) xs obs = some ys := h
 cases hb : Nat.beq gf 131 with
 | false => rw [hb] at h; cases h
 | true =>
  obtain rfl := beq_iff.1 hb
  exact ⟨seqAlAll hm xs obs ys hp h, _, Tryd.func131, rfl, rfl⟩
theorem soundAFound (hm : MX) : OKS 94 preAFound SAFound :=
 read_sound (E := EAFound) (N := 40) (keep := false) hm (fun g => (sound_pick (soundAAll hm) sound_fail)) Tryd.func94 rfl rfl loopsAFound rfl (hsq := sqAFound hm) (hS := by
  intro xs obs out hp h
  unfold SAFound at h
  split at h
  ·refine ⟨by simp [Tryd.f94], ?_⟩
   rw [gAFound_eq]
   exact (nAFound _ hp).trans h
  ·cases h)
theorem soundAGroup (hm : MX) : OKS 37 preAGroup SAGroup :=
 read_sound (E := EAGroup) (N := 40) (keep := false) hm (fun g => (sound_pick (soundAFound hm) sound_none)) Tryd.func37 rfl rfl loopsAGroup rfl (by
  intro xs obs out hp h
  unfold SAGroup at h
  split at h
  ·refine ⟨by simp [Tryd.f37], ?_⟩
   rw [gAGroup_eq]
   exact (nAGroup _ hp).trans h
  ·cases h    )
theorem soundAId (hm : MX) : OKS 39 preAId SAId :=
 read_sound (E := EAId) (N := 40) (keep := false) hm (fun g => (sound_pick (soundAFound hm) sound_none)) Tryd.func39 rfl rfl loopsAId rfl (by
  intro xs obs out hp h
  unfold SAId at h
  split at h
  ·refine ⟨by simp [Tryd.f39], ?_⟩
   rw [gAId_eq]
   exact (nAId _ hp).trans h
  ·cases h    )
theorem sqAOf (hm : MX) : SeqSound Tryd.prog EAOf := by
 intro gf xs obs ys hp h
 have h : (cond (Nat.beq gf 131) QAlAll (fun _ _ => none)) xs obs = some ys := h
 cases hb : Nat.beq gf 131 with
 | false => rw [hb] at h; cases h
 | true =>
  obtain rfl := beq_iff.1 hb
  exact ⟨seqAlAll hm xs obs ys hp h, _, Tryd.func131, rfl, rfl⟩
theorem soundAOf (hm : MX) : OKS 41 preAOf SAOf :=
 read_sound (E := EAOf) (N := 40) (keep := false) hm (fun g => (sound_pick (soundAAll hm) (sound_pick (soundOSame hm) sound_fail))) Tryd.func41 rfl rfl loopsAOf rfl (hsq := sqAOf hm) (hS := by
  intro xs obs out hp h
  unfold SAOf at h
  split at h
  ·refine ⟨by simp [Tryd.f41], ?_⟩
   rw [gAOf_eq]
   exact (nAOf _ hp).trans h
  ·cases h)
theorem soundAName (hm : MX) : OKS 43 preAName SAName :=
 read_sound (E := EAName) (N := 40) (keep := false) hm (fun g => sound_none) Tryd.func43 rfl rfl loopsAName rfl (by
  intro xs obs out hp h
  unfold SAName at h
  split at h
  ·refine ⟨by simp [Tryd.f43], ?_⟩
   rw [gAName_eq]
   exact (nAName _ hp).trans h
  ·cases h    )
theorem soundAUsed (hm : MX) : OKS 102 preAUsed SAUsed :=
 read_sound (E := EAUsed) (N := 40) (keep := false) hm (fun g => sound_none) Tryd.func102 rfl rfl loopsAUsed rfl (by
  intro xs obs out hp h
  unfold SAUsed at h
  split at h
  ·refine ⟨by simp [Tryd.f102], ?_⟩
   rw [gAUsed_eq]
   exact (nAUsed _ hp).trans h
  ·cases h    )
theorem soundANode (hm : MX) : OKS 55 preANode SANode :=
 read_sound (E := EANode) (N := 40) (keep := false) hm (fun g => (sound_pick (soundVInt hm) (sound_pick (soundVSeq hm) (sound_pick (soundVId hm) (sound_pick (soundVBytes hm) (sound_pick (soundAFound hm) (sound_pick (soundAUsed hm) sound_none))))))) Tryd.func55 rfl rfl loopsANode rfl (by
  intro xs obs out hp h
  unfold SANode at h
  split at h
  ·refine ⟨by simp [Tryd.f55], ?_⟩
   rw [gANode_eq]
   exact (nANode _ _ hp).trans h
  ·cases h    )
theorem soundATail (hm : MX) : OKS 103 preATail SATail :=
 read_sound (E := EATail) (N := 40) (keep := false) hm (fun g => (sound_pick (soundVIntOf hm) (sound_pick (soundVBytesOf hm) (sound_pick (soundVKids hm) (sound_pick (soundAUsed hm) sound_none))))) Tryd.func103 rfl rfl loopsATail rfl (by
  intro xs obs out hp h
  unfold SATail at h
  split at h
  ·refine ⟨by simp [Tryd.f103], ?_⟩
   rw [gATail_eq]
   exact (nATail _ _ hp).trans h
  ·cases h    )
theorem soundARead (hm : MX) : OKS 56 preARead SARead :=
 read_sound (E := EARead) (N := 40) (keep := false) hm (fun g => (sound_pick (soundVIdOf hm) (sound_pick (soundAGroup hm) (sound_pick (soundAOf hm) (sound_pick (soundVKids hm) (sound_pick (soundSClone hm) (sound_pick (soundATail hm) sound_none))))))) Tryd.func56 rfl rfl loopsARead rfl (by
  intro xs obs out hp h
  unfold SARead at h
  split at h
  ·refine ⟨by simp [Tryd.f56], ?_⟩
   rw [gARead_eq]
   exact (nARead _ _ _ hp).trans h
  ·cases h    )
theorem soundAAwake (hm : MX) : OKS 30 preAAwake SAAwake :=
 read_sound (E := EAAwake) (N := 40) (keep := false) hm (fun g => (sound_pick (soundR2Same hm) (sound_pick (soundAId hm) (sound_pick (soundAOf hm) (sound_pick (soundANode hm) sound_none))))) Tryd.func30 rfl rfl loopsAAwake rfl (by
  intro xs obs out hp h
  unfold SAAwake at h
  split at h
  ·refine ⟨by simp [Tryd.f30], ?_⟩
   rw [gAAwake_eq]
   exact (nAAwake hp).trans h
  ·cases h    )
theorem soundALBack (hm : MX) : OKS 7 preALBack SALBack :=
 read_sound (E := EALBack) (N := 40) (keep := false) hm (fun g => (sound_pick (soundRFit_ hm) (sound_pick (soundRSame hm) (sound_pick (soundR1Same hm) (sound_pick (soundR2Same hm) (sound_pick (soundAAwake hm) (sound_pick (soundAGroup hm) (sound_pick (soundAId hm) (sound_pick (soundAOf hm) (sound_pick (soundAName hm) (sound_pick (soundRSmall hm) (sound_pick (soundANode hm) (sound_pick (soundARead hm) sound_none))))))))))))) Tryd.func7 rfl rfl loopsALBack rfl (by
  intro xs obs out hp h
  unfold SALBack at h
  split at h
  ·refine ⟨by simp [Tryd.f7], ?_⟩
   rw [gALBack_eq]
   exact (nALBack _ _ _ _ _ _ hp).trans h
  ·cases h    )
end Go.Proofs.YtfkpjbbkdkcdcaaDoorA
