/-
 The library's comparison of bytes: its contract holds. Conditions: none.
-/
import Derived.Test.YtfkpjbbkdkcdcabDoorT3b
import Derived.Lib.BytesEntry
import Derived.Test.YtfkpjbbkdkcdcabDoorT1
import Derived.Test.YtfkpjbbkdkcdcabDoorK3
import Derived.Shelf.Spec.SlicesGrow
import Derived.Test.YtfkpjbbkdkcdcabDoorT4
set_option linter.unusedVariables false
set_option linter.unusedSimpArgs false
namespace Go.Proofs.YtfkpjbbkdkcdcabDoorA

theorem load_sli {P : Program} {w : World} {Im : Nat -> Prop} {l : List Int} {v : Value} (h : CRep w Im (.sli .u8 l) v) : (Extern.Bytes.bytesOf v).run P w = .ok ⟨(Lib.bytesOf l).toArray⟩ w := by
 cases h with
 | sli _ _ a len cap hl hc hcell =>
  cases a with
  | none =>
   have : l = [] := by
    cases l with
    | nil => rfl
    | cons x r => obtain ⟨ad, e, _⟩ := hcell 0 x rfl; cases e
   subst this
   rfl
  | some ad =>
   subst hl
   have := Lib.run_loadBytesX (P := P) w l ad .empty (fun j x hj => by obtain ⟨ad', e, _, hc⟩ := hcell j x hj; cases e; exact hc)
   refine this.trans ?_
   congr 1
   apply ByteArray.ext
   show (#[] : Array UInt8) ++ (Lib.bytesOf l).toArray = (Lib.bytesOf l).toArray
   simp
theorem cmp_list : ∀ (a b : List Int), (∀ x ∈ a, 0 <= x /\ x <= 255) -> (∀ x ∈ b, 0 <= x /\ x <= 255) -> Lib.compareBytes (Lib.bytesOf a) (Lib.bytesOf b) = listCmpC a b
 | [], [], _, _ => rfl
 | [], _ :: _, _, _ => rfl
 | _ :: _, [], _, _ => rfl
 | x :: a, y :: b, ha, hb => by
  have ih := cmp_list a b (fun z hz => ha z (List.mem_cons_of_mem _ hz)) (fun z hz => hb z (List.mem_cons_of_mem _ hz))
  have hx := ha x (List.mem_cons_self ..)
  have hy := hb y (List.mem_cons_self ..)
  have e1 : (UInt8.ofNat x.toNat < UInt8.ofNat y.toNat) ↔ x < y := by
   rw [UInt8.lt_iff_toNat_lt, UInt8.toNat_ofNat', UInt8.toNat_ofNat']
   omega
  have e2 : (UInt8.ofNat y.toNat < UInt8.ofNat x.toNat) ↔ y < x := by
   rw [UInt8.lt_iff_toNat_lt, UInt8.toNat_ofNat', UInt8.toNat_ofNat']
   omega
  show (if UInt8.ofNat x.toNat < UInt8.ofNat y.toNat then (-1 : Int) else if UInt8.ofNat y.toNat < UInt8.ofNat x.toNat then 1 else Lib.compareBytes (Lib.bytesOf a) (Lib.bytesOf b)) = (if x < y then -1 else if y < x then 1 else listCmpC a b)
  simp only [e1, e2, ih]
theorem run_cmp {P : Program} {w : World} {Im : Nat -> Prop} {a b : List Int} {va vb : Value} (ha : CRep w Im (.sli .u8 a) va) (hb : CRep w Im (.sli .u8 b) vb) (h1 : ∀ x ∈ a, 0 <= x /\ x <= 255) (h2 : ∀ x ∈ b, 0 <= x /\ x <= 255) :
  (Extern.BytealgCompare.compare #[va, vb]).run P w = .ok (.int .i64 (listCmpC a b)) w := by
 change Sem.run P (do pure (goInt (Extern.BytealgCompare.cmp (<- Extern.Bytes.bytesOf va) (<- Extern.Bytes.bytesOf vb)))) w = _
 simp only [Sem.run_bind, Sem.run_pure, load_sli ha, load_sli hb, Result.andThen]
 rw [Lib.cmp_eq]
 show Result.ok (Value.int .i64 (Lib.compareBytes (Lib.bytesOf a) (Lib.bytesOf b))) w = _
 rw [cmp_list a b h1 h2]

theorem soundBACompare (hm : Tryd.prog.follows .mixedOrders = true) : Sound Tryd.prog glVal 60 (fun xs obs => cond (preBACompare xs obs) (SBACompare xs obs).eval none) := by
 intro xs obs out w Im ρ bl vs hs hpre
 obtain ⟨h1, h2⟩ := cond_some hs
 unfold preBACompare at h1
 split at h1
 ·rename_i a b
  simp only [Bool.and_eq_true] at h1
  have h2 : some (Out.ret [.cl (.int .i64 (listCmp a b))] []) = some out := h2
  cases h2
  have hl : vs.length = 2 := hpre.reps.1
  match vs, hl, hpre with
  | [va, vb], _, hpre =>
   have ra : CRep w Im (.sli .u8 a) va := by have := hpre.reps.2 0 _ _ rfl rfl; cases this; assumption
   have rb : CRep w Im (.sli .u8 b) vb := by have := hpre.reps.2 1 _ _ rfl rfl; cases this; assumption
   refine .inr ⟨.int .i64 (listCmp a b), w, ?_, [.int .i64 (listCmp a b)], Im, ρ, rfl, ⟨Fr.refl w bl, hpre.gam, fun j o o' hj => by cases hj⟩, rfl, fun j c v hj hv => ?_⟩
   ·rw [run_callFunc_extern (e := Extern.BytealgCompare.compare) Tryd.func60 rfl rfl rfl (by kernel_rfl)]
    show Result.andThen ((Extern.BytealgCompare.compare #[va, vb]).run Tryd.prog w) _ = _
    rw [run_cmp ra rb (bytesOk_spec h1.1).2 (bytesOk_spec h1.2).2]
    unfold listCmp
    rw [shut_eq]
    rfl
   ·match j, hj, hv with
    | 0, hj, hv => cases hj; cases hv; exact .cl _ _ (.int ..)
    | j + 1, hj, hv => cases hj
 ·cases h1
end Go.Proofs.YtfkpjbbkdkcdcabDoorA

set_option maxRecDepth 100000
namespace Go.Proofs.YtfkpjbbkdkcdcabDoorA

def renGrow : Go.Shelf.Ren := ⟨fun _ => 78, fun t => cond (Nat.beq t 25) 5 (cond (Nat.beq t 22) 22 t), fun g => g⟩
theorem laysGrow (hm : Tryd.prog.follows .mixedOrders = true) : Lays8.n4 Tryd.prog renGrow where
 mixed := hm
 f4 := ⟨Tryd.f78.name, by decide, by kernel_rfl⟩
 t0 := Tryd.underlying0
 a0 := fun w => by kernel_rfl
 z0 := fun w => by kernel_rfl
 v0 := fun w => by kernel_rfl
 t3 := Tryd.underlying3
 a3 := fun w => by kernel_rfl
 z3 := fun w => by kernel_rfl
 v3 := fun w => by kernel_rfl
 t4 := Tryd.underlying4
 a4 := fun w => by kernel_rfl
 z4 := fun w => by kernel_rfl
 v4 := fun w => by kernel_rfl
 t9 := Tryd.underlying9
 a9 := fun w => by kernel_rfl
 z9 := fun w => by kernel_rfl
 v9 := fun w => by kernel_rfl
 t20 := Tryd.underlying20
 a20 := fun w => by kernel_rfl
 z20 := fun w => by kernel_rfl
 v20 := fun w => by kernel_rfl
 t22 := Tryd.underlying22
 a22 := fun w => by kernel_rfl
 z22 := fun w => by kernel_rfl
 v22 := fun w => by kernel_rfl
theorem info5 : (Tryd.prog.info? 5).map (fun i => (i.zero, i.size, i.bytes)) = some (some (.int .u8 0), 1, 1) := by kernel_rfl

theorem grow_gam {bl : Nat -> Prop} {w w' : World} {Im : Nat -> Prop} {ρ ρ' : Nat -> Loc} {l : Loc} (h : Gam w.heap.size bl Im w Im ρ []) (hsz : w.heap.size <= w'.heap.size) (hρ : ρ' 0 = l) (ho : ORep w' Im ρ' (shOf [(0, ⟨.ints .u8 [], false⟩)]) (.ints .u8 []) l) (hl : ∀ b x y, l = some (b, x, y) -> b < w'.heap.size /\ ¬ Im b /\ w.heap.size <= b) :
  Gam w.heap.size bl Im w' Im ρ' [(0, ⟨.ints .u8 [], false⟩)] := by
 have one : ∀ (p : Nat) (o : Obj), alGet ([(0, ⟨.ints .u8 [], false⟩)] : Heap) p = some o -> p = 0 /\ o = ⟨.ints .u8 [], false⟩ := fun p o hp => by
  simp only [alGet] at hp
  cases hb : Nat.beq 0 p with
  | true => rw [hb] at hp; cases hp; exact ⟨(beq_iff.1 hb).symm, rfl⟩
  | false => rw [hb] at hp; cases hp
 refine ⟨fun b hb => Nat.lt_of_lt_of_le (h.im b hb) hsz, h.i0, fun p o hp => ?_, fun p q o o' b x y x' y' hp hq _ _ hne => ?_, fun p o b x y hp hr => ?_, h.imo⟩
 ·obtain ⟨rfl, rfl⟩ := one p o hp
  rw [hρ]
  exact ho
 ·exact absurd ((one p o hp).1.trans (one q o' hq).1.symm) hne
 ·obtain ⟨rfl, rfl⟩ := one p o hp
  rw [hρ] at hr
  obtain ⟨h1, h2, h3⟩ := hl b x y hr
  exact ⟨h1, fun e => absurd e Bool.false_ne_true, fun _ => ⟨h2, .inr h3⟩⟩

theorem soundSGrow (hm : Tryd.prog.follows .mixedOrders = true) : Sound Tryd.prog glVal 78 (fun xs obs => cond (preSGrow xs obs) (SSGrow xs obs).eval none) := by
 intro xs obs out w Im ρ bl vs hs hpre
 obtain ⟨h1, h2⟩ := cond_some hs
 unfold preSGrow at h1
 split at h1
 ·rename_i n
  have h2 : some (Out.ret [.ref 0 0 0 true 1] [some ⟨.ints .u8 noInts, false⟩]) = some out := h2
  cases h2
  have hn : 0 <= n /\ n <= 100000000 := by unfold growOk at h1; rw [shut_eq] at h1; exact of_decide_eq_true h1
  obtain ⟨m, rfl⟩ : ∃ m : Nat, n = m := ⟨n.toNat, by omega⟩
  have hl : vs.length = 2 := hpre.reps.1
  match vs, hl, hpre with
  | [va, vb], _, hpre =>
   have ra := hpre.reps.2 0 _ _ rfl rfl
   have rb := hpre.reps.2 1 _ _ rfl rfl
   cases ra
   obtain rfl : vb = .int .i64 m := by
    cases rb with
    | cl _ _ h => cases h; rfl
   refine .inl ⟨?_, ?_⟩
   ·have hn' : ¬ Tryd.f78.name = "runtime.NumGoroutine" := of_decide_eq_true (by kernel_rfl)
    obtain ⟨c, hc⟩ : ∃ c, Tryd.f78.body = some c := ⟨_, rfl⟩
    simp [callFunc, Tryd.func78, hn', hc]
   ·have e : noInts = [] := shut_eq _
    rw [e]
    have hg : Gam w.heap.size bl Im w Im ρ [] := hpre.gam
    by_cases hz : m = 0
    ·subst hz
     refine (Any8.slices_Grow_room (laysGrow hm) none 0 0 0 w (Nat.le_refl _) (by omega) (by omega) (Nat.le_refl _)).mono fun e w' ⟨he, hw⟩ => ?_
     subst he
     subst hw
     refine ⟨[.slice none 0 0], Im, fun _ => none, rfl, ⟨Fr.refl _ bl, grow_gam hg (Nat.le_refl _) rfl ⟨rfl, rfl, trivial⟩ (fun b x y h => by cases h), fun j o o' hj => by cases hj⟩, rfl, fun j c v hj hv => ?_⟩
     match j, hj, hv with
     | 0, hj, hv => cases hj; cases hv; exact .refV 0 ⟨0, 1, false⟩ true 1 rfl rfl rfl rfl
     | j + 1, hj, hv => cases hj
    ·obtain ⟨i0, hi0, hi⟩ := Option.map_eq_some_iff.1 info5
     simp only [Prod.mk.injEq] at hi
     obtain ⟨hi1, hi2, hi3⟩ := hi
     refine (Any8.slices_Grow_grow (laysGrow hm) i0 (.int .u8 0) hi0 hi1 (by omega) none 0 0 m [] w (Nat.le_refl _) (by omega) (by rw [hi3]; omega) (by omega) (by simp) (fun _ => rfl) (fun a h => by cases h)).mono fun e w' ⟨he, hw⟩ => ?_
     have hG : 0 + m <= grownCap w (0 + m) 0 (renGrow.t 25) := grownCap_ge w _ _ _
     generalize grownCap w (0 + m) 0 (renGrow.t 25) = G at *
     subst he
     generalize hcs : ([] : List Value).toArray ++ Builtin.zeroCells (Value.int .u8 0).cells (0 + m - 0) ++ Builtin.zeroCells (Value.int .u8 0).cells (G - (0 + m)) = cs at hw
     have hsz : cs.size = G := by
      rw [<- hcs, Array.size_append, Array.size_append, size_zeroCells, size_zeroCells]
      simp [Value.cells]
      omega
     have hheap : w'.heap = w.heap.push (.cells cs (renGrow.t 25) (0, 0)) := by rw [hw]; rfl
     have hb : w'.heap[w.heap.size]? = some (.cells cs (renGrow.t 25) (0, 0)) := by rw [hheap]; simp
     have hFr : Fr w bl w' := by
      refine ⟨by rw [hw]; rfl, by rw [hw]; rfl, by rw [hw]; rfl, by rw [hheap, Array.size_push]; omega, fun b hb' _ => by rw [hheap, Array.getElem?_push, if_neg (by omega)]⟩
     refine ⟨[.slice (some ⟨w.heap.size, 0, none⟩) 0 G], Im, fun _ => some (w.heap.size, 0, G), rfl, ⟨hFr, grow_gam hg hFr.size rfl ⟨trivial, by rw [hheap]; simp, Nat.zero_le _, fun i hi => ⟨?_, ?_⟩, fun j c hj => by simp [cellsR] at hj⟩ (fun b x y h => ?_), fun j o o' hj => by cases hj⟩, rfl, fun j c v hj hv => ?_⟩
     ·simp [World.cell?, hb, hsz, hi]
     ·simp [World.frozen?, hb]
     ·cases h
      exact ⟨by rw [hheap]; simp, fun hI => Nat.lt_irrefl _ (hg.im _ hI), Nat.le_refl _⟩
     ·match j, hj, hv with
      | 0, hj, hv =>
       cases hj
       cases hv
       exact .ref 0 0 0 true 1 ⟨0, 1, false⟩ w.heap.size 0 G ⟨w.heap.size, 0, none⟩ G rfl rfl rfl (Nat.zero_le _) (Nat.le_refl _) (fun _ => rfl) (fun _ => rfl) (by omega)
      | j + 1, hj, hv => cases hj
 ·cases h1
end Go.Proofs.YtfkpjbbkdkcdcabDoorA

namespace Go.Proofs.YtfkpjbbkdkcdcabDoorA
theorem sound_ranked {P : Program} {glob : Nat -> Option CV} {g : FuncId} {p : List V -> List Obj -> Bool} {q : Nat -> List V -> List Obj -> Bool} {S : List V -> List Obj -> Tree} (h : ∀ rk, Sound P glob g (fun xs obs => cond (q rk xs obs) (S xs obs).eval none)) (hp : ∀ xs obs, p xs obs = true -> ∃ rk, q rk xs obs = true) :
  Sound P glob g (fun xs obs => cond (p xs obs) (S xs obs).eval none) := by
 intro xs obs out w Im ρ bl vs hs
 obtain ⟨h1, h2⟩ := cond_some hs
 obtain ⟨rk, hq⟩ := hp xs obs h1
 exact h rk xs obs out w Im ρ bl vs (by show cond (q rk xs obs) _ _ = _; rw [hq]; exact h2)
theorem sound_never {P : Program} {glob : Nat -> Option CV} {g : FuncId} {p : List V -> List Obj -> Bool} {S : List V -> List Obj -> Tree} (h : ∀ xs obs, ¬ p xs obs = true) : Sound P glob g (fun xs obs => cond (p xs obs) (S xs obs).eval none) := by
 intro xs obs out w Im ρ bl vs hs
 exact absurd (cond_some hs).1 (h xs obs)
theorem sound_fail {P : Program} {glob : Nat -> Option CV} {g : FuncId} {p : List V -> List Obj -> Bool} : Sound P glob g (fun xs obs => cond (p xs obs) ((fun _ _ => Tree.fail : List V -> List Obj -> Tree) xs obs).eval none) := by
 intro xs obs out w Im ρ bl vs hs
 cases (cond_some hs).2
abbrev MX : Prop := Tryd.prog.follows .mixedOrders = true
abbrev OKS (g : FuncId) (p : List V -> List Obj -> Bool) (S : List V -> List Obj -> Tree) : Prop := Sound Tryd.prog glVal g (fun xs obs => cond (p xs obs) (S xs obs).eval none)
theorem soundVMerge (hm : MX) : OKS 71 preVMerge SVMerge := sound_never fun xs obs h => by
 unfold preVMerge at h
 split at h
 ·cases h
 ·cases h
theorem soundDigits (hm : MX) : OKS 54 preDigits SDigits :=
 read_sound (E := EDigits) (N := 40) (keep := false) hm (fun g => sound_none) Tryd.func54 rfl rfl loopsDigits rfl (by
  intro xs obs out hp h
  unfold SDigits at h
  split at h
  ·refine ⟨by simp [Tryd.f54], ?_⟩
   rw [gDigits_eq]
   exact (nDigits _ hp).trans h
  ·cases h    )
theorem soundDLeap (hm : MX) : OKS 72 preDLeap SDLeap :=
 read_sound (E := EDLeap) (N := 40) (keep := false) hm (fun g => sound_none) Tryd.func72 rfl rfl loopsDLeap rfl (by
  intro xs obs out hp h
  unfold SDLeap at h
  split at h
  ·refine ⟨by simp [Tryd.f72], ?_⟩
   rw [gDLeap_eq]
   exact (nDLeap _ _ _ _ _ _ hp).trans h
  ·cases h    )
theorem soundDDays (hm : MX) : OKS 63 preDDays SDDays :=
 read_sound (E := EDDays) (N := 40) (keep := false) hm (fun g => (sound_pick (soundDLeap hm) sound_none)) Tryd.func63 rfl rfl loopsDDays rfl (by
  intro xs obs out hp h
  unfold SDDays at h
  split at h
  ·refine ⟨by simp [Tryd.f63], ?_⟩
   rw [gDDays_eq]
   exact (nDDays _ _ _ _ _ _ hp).trans h
  ·cases h    )
theorem soundDFit (hm : MX) : OKS 55 preDFit SDFit :=
 read_sound (E := EDFit) (N := 40) (keep := false) hm (fun g => (sound_pick (soundDDays hm) sound_none)) Tryd.func55 rfl rfl loopsDFit rfl (by
  intro xs obs out hp h
  unfold SDFit at h
  split at h
  ·refine ⟨by simp [Tryd.f55], ?_⟩
   rw [gDFit_eq]
   exact (nDFit _ _ _ _ _ _ hp).trans h
  ·cases h    )
theorem soundDSecs (hm : MX) : OKS 56 preDSecs SDSecs :=
 read_sound (E := EDSecs) (N := 40) (keep := false) hm (fun g => sound_none) Tryd.func56 rfl rfl loopsDSecs rfl (by
  intro xs obs out hp h
  unfold SDSecs at h
  split at h
  ·refine ⟨by simp [Tryd.f56], ?_⟩
   rw [gDSecs_eq]
   exact (nDSecs _ _ _ _ _ _ hp).trans h
  ·cases h    )
theorem soundDated (hm : MX) : OKS 52 preDated SDated :=
 read_sound (E := EDated) (N := 40) (keep := false) hm (fun g => sound_none) Tryd.func52 rfl rfl loopsDated rfl (by
  intro xs obs out hp h
  unfold SDated at h
  split at h
  ·refine ⟨by simp [Tryd.f52], ?_⟩
   rw [gDated_eq]
   exact (nDated _ hp).trans h
  ·cases h    )
theorem soundPut (hm : MX) : OKS 53 prePut SPut :=
 read_sound (E := EPut) (N := 40) (keep := true) hm (fun g => sound_none) Tryd.func53 rfl rfl loopsPut rfl (by
  intro xs obs out hp h
  unfold SPut at h
  split at h
  ·refine ⟨by simp [Tryd.f53], ?_⟩
   rw [gPut_0_eq]
   exact (nPut_0 _ hp).trans h
  ·refine ⟨by simp [Tryd.f53], ?_⟩
   rw [gPut_1_eq]
   exact (nPut_1 _ _ _ hp).trans h
  ·cases h    )
theorem soundSText (hm : MX) : OKS 37 preSText SSText :=
 read_sound (E := ESText) (N := 40) (keep := false) hm (fun g => (sound_pick (soundDated hm) (sound_pick (soundPut hm) sound_none))) Tryd.func37 rfl rfl loopsSText rfl (by
  intro xs obs out hp h
  unfold SSText at h
  split at h
  ·refine ⟨by simp [Tryd.f37], ?_⟩
   rw [gSText_eq]
   exact (nSText _ hp).trans h
  ·cases h    )
theorem soundSRead (hm : MX) : OKS 39 preSRead SSRead :=
 read_sound (E := ESRead) (N := 40) (keep := false) hm (fun g => (sound_pick (soundDigits hm) (sound_pick (soundDFit hm) (sound_pick (soundDSecs hm) sound_none)))) Tryd.func39 rfl rfl loopsSRead rfl (by
  intro xs obs out hp h
  unfold SSRead at h
  split at h
  ·refine ⟨by simp [Tryd.f39], ?_⟩
   rw [gSRead_eq]
   exact (nSRead _ hp).trans h
  ·cases h    )
theorem soundDBoxed (hm : MX) : OKS 29 preDBoxed SDBoxed :=
 read_sound (E := EDBoxed) (N := 40) (keep := false) hm (fun g => sound_none) Tryd.func29 rfl rfl loopsDBoxed rfl (by
  intro xs obs out hp h
  unfold SDBoxed at h
  split at h
  ·refine ⟨by simp [Tryd.f29], ?_⟩
   rw [gDBoxed_eq]
   exact (nDBoxed _ hp).trans h
  ·cases h    )
theorem soundDKnown (hm : MX) : OKS 64 preDKnown SDKnown :=
 read_sound (E := EDKnown) (N := 40) (keep := false) hm (fun g => (sound_pick (soundDBoxed hm) sound_none)) Tryd.func64 rfl rfl loopsDKnown rfl (by
  intro xs obs out hp h
  unfold SDKnown at h
  split at h
  ·refine ⟨by simp [Tryd.f64], ?_⟩
   rw [gDKnown_eq]
   exact (nDKnown _ hp).trans h
  ·cases h    )
theorem soundDLenSize (hm : MX) : OKS 66 preDLenSize SDLenSize :=
 read_sound (E := EDLenSize) (N := 40) (keep := false) hm (fun g => sound_none) Tryd.func66 rfl rfl loopsDLenSize rfl (by
  intro xs obs out hp h
  unfold SDLenSize at h
  split at h
  ·refine ⟨by simp [Tryd.f66], ?_⟩
   rw [gDLenSize_eq]
   exact (nDLenSize _ hp).trans h
  ·cases h    )
theorem soundDNumber (hm : MX) : OKS 73 preDNumber SDNumber :=
 read_sound (E := EDNumber) (N := 40) (keep := false) hm (fun g => sound_none) Tryd.func73 rfl rfl loopsDNumber rfl (by
  intro xs obs out hp h
  unfold SDNumber at h
  split at h
  ·refine ⟨by simp [Tryd.f73], ?_⟩
   rw [gDNumber_eq]
   exact (nDNumber _ hp).trans h
  ·cases h    )
theorem soundDStrip (hm : MX) : OKS 74 preDStrip SDStrip :=
 read_sound (E := EDStrip) (N := 40) (keep := false) hm (fun g => sound_none) Tryd.func74 rfl rfl loopsDStrip rfl (by
  intro xs obs out hp h
  unfold SDStrip at h
  split at h
  ·refine ⟨by simp [Tryd.f74], ?_⟩
   rw [gDStrip_eq]
   exact (nDStrip _ hp).trans h
  ·cases h    )
theorem soundOFit (hm : MX) : OKS 49 preOFit SOFit :=
 read_sound (E := EOFit) (N := 40) (keep := false) hm (fun g => sound_none) Tryd.func49 rfl rfl loopsOFit rfl (by
  intro xs obs out hp h
  unfold SOFit at h
  split at h
  ·refine ⟨by simp [Tryd.f49], ?_⟩
   rw [gOFit_eq]
   exact (nOFit _ hp).trans h
  ·cases h    )
theorem soundONumber (hm : MX) : OKS 62 preONumber SONumber :=
 read_sound (E := EONumber) (N := 40) (keep := false) hm (fun g => sound_none) Tryd.func62 rfl rfl loopsONumber rfl (by
  intro xs obs out hp h
  unfold SONumber at h
  split at h
  ·refine ⟨by simp [Tryd.f62], ?_⟩
   rw [gONumber_eq]
   exact (nONumber _ hp).trans h
  ·cases h    )
theorem soundONumbers (hm : MX) : OKS 51 preONumbers SONumbers :=
 read_sound (E := EONumbers) (N := 40) (keep := true) hm (fun g => sound_none) Tryd.func51 rfl rfl loopsONumbers rfl (by
  intro xs obs out hp h
  unfold SONumbers at h
  split at h
  ·refine ⟨by simp [Tryd.f51], ?_⟩
   rw [gONumbers_eq]
   exact (nONumbers _ hp).trans h
  ·cases h    )
theorem seqONums (hm : MX) : ∀ xs obs ys, preONums xs obs = true -> QONums xs obs = some ys -> SeqOk Tryd.prog glVal 61 xs obs ys := by
 intro xs obs ys hp h
 unfold QONums at h
 split at h
 ·rename_i b
  cases h
  have hE : ∀ (l : Nat) (g : FuncId), Sound Tryd.prog (EONums l).glob g (ctr (EONums l) g) := fun l g => (sound_pick (soundONumber hm) sound_none)
  refine seq_sound (N := 40) EONums hE (fun l => draw_sound (hE l) hm) (fun _ => rfl) (fun _ => rfl) (fun _ => rfl) Tryd.func61 rfl loopsONums (fun _ => rfl) (by decide) rfl fun l => ?_
  obtain ⟨out, h1, h2⟩ := nONums l b hp
  exact ⟨out, (gONums_eq l b).trans h1, h2⟩
 ·cases h
theorem sqOParse (hm : MX) : SeqSound Tryd.prog EOParse := by
 intro gf xs obs ys hp h
 have h : (cond (Nat.beq gf 61) QONums (fun _ _ => none)) xs obs = some ys := h
 cases hb : Nat.beq gf 61 with
 | false => rw [hb] at h; cases h
 | true =>
  obtain rfl := beq_iff.1 hb
  exact ⟨seqONums hm xs obs ys hp h, _, Tryd.func61, rfl, rfl⟩
theorem soundOParse (hm : MX) : OKS 36 preOParse SOParse :=
 read_sound (E := EOParse) (N := 40) (keep := false) hm (fun g => (sound_pick (soundOFit hm) (sound_pick (soundONumbers hm) sound_fail))) Tryd.func36 rfl rfl loopsOParse rfl (hsq := sqOParse hm) (hS := by
  intro xs obs out hp h
  unfold SOParse at h
  split at h
  ·refine ⟨by simp [Tryd.f36], ?_⟩
   rw [gOParse_eq]
   exact (nOParse _ hp).trans h
  ·cases h)
theorem soundR1Same (hm : MX) : OKS 12 preR1Same SR1Same :=
 read_sound (E := ER1Same) (N := 40) (keep := false) hm (fun g => sound_none) Tryd.func12 rfl rfl loopsR1Same rfl (by
  intro xs obs out hp h
  unfold SR1Same at h
  split at h
  ·refine ⟨by simp [Tryd.f12], ?_⟩
   rw [gR1Same_eq]
   exact (nR1Same _ _ hp).trans h
  ·cases h    )
theorem soundSClone (hm : MX) : OKS 28 preSClone SSClone :=
 read_sound (E := ESClone) (N := 40) (keep := false) hm (fun g => sound_none) Tryd.func28 rfl rfl loopsSClone rfl (by
  intro xs obs out hp h
  unfold SSClone at h
  split at h
  ·refine ⟨by simp [Tryd.f28], ?_⟩
   rw [gSClone_eq]
   exact (nSClone _ hp).trans h
  ·cases h    )
theorem soundUWord (hm : MX) : OKS 80 preUWord SUWord :=
 read_sound (E := EUWord) (N := 40) (keep := false) hm (fun g => sound_none) Tryd.func80 rfl rfl loopsUWord rfl (by
  intro xs obs out hp h
  unfold SUWord at h
  split at h
  ·refine ⟨by simp [Tryd.f80], ?_⟩
   rw [gUWord_eq]
   exact (nUWord _ hp).trans h
  ·cases h    )
theorem soundUValid (hm : MX) : OKS 75 preUValid SUValid :=
 read_sound (E := EUValid) (N := 40) (keep := false) hm (fun g => (sound_pick (soundUWord hm) sound_none)) Tryd.func75 rfl rfl loopsUValid rfl (by
  intro xs obs out hp h
  unfold SUValid at h
  split at h
  ·refine ⟨by simp [Tryd.f75], ?_⟩
   rw [gUValid_eq]
   exact (nUValid _ hp).trans h
  ·cases h    )
theorem soundRRSame (hm : MX) : ∀ rk, OKS 13 (preRRSame rk) SRSame
 | 0 => sound_never fun xs obs h => by
  unfold preRRSame at h
  split at h
  ·simp only [Bool.and_eq_true] at h
   have := isNr_spec h.1
   simp [isNf] at this
  ·cases h
 | rk + 1 => read_sound (E := ERSame rk) (N := 40) (keep := false) hm (fun g => (sound_pick (soundR1Same hm) (sound_pick (soundRRSame hm rk) sound_none))) Tryd.func13 rfl rfl (loopsRSame rk) rfl (by
  intro xs obs out hp h
  have hp : preRRSame (rk + 1) xs obs = true := hp
  have hp0 := hp
  unfold preRRSame at hp
  split at hp
  ·rename_i a b
   simp only [Bool.and_eq_true] at hp
   obtain ⟨_, ta, ba, ka, _, rfl, _⟩ := nd_inv (isNr_spec hp.1)
   obtain ⟨_, hn⟩ := isN_spec hp.2
   obtain ⟨_, tb, bb, kb, _, rfl, _⟩ := nd_inv hn
   refine ⟨by simp [Tryd.f13], ?_⟩
   rw [gRSame_eq]
   exact (nRSame rk ta ba ka tb bb kb hp0).trans h
  ·cases hp)
theorem soundRSame (hm : MX) : OKS 13 preRSame SRSame :=
 sound_ranked (fun rk => soundRRSame hm rk) fun xs obs h => by
  unfold preRSame at h
  split at h
  ·rename_i a b
   simp only [Bool.and_eq_true] at h
   obtain ⟨n, hn⟩ := isN_spec h.1
   refine ⟨n, ?_⟩
   show (isNr n a && isN b) = true
   rw [isNr_of hn, h.2]
   rfl
  ·cases h
theorem soundDFits (hm : MX) : OKS 65 preDFits SDFits :=
 read_sound (E := EDFits) (N := 40) (keep := false) hm (fun g => (sound_pick (soundOParse hm) (sound_pick (soundSRead hm) (sound_pick (soundDNumber hm) (sound_pick (soundDStrip hm) (sound_pick (soundUValid hm) sound_none)))))) Tryd.func65 rfl rfl loopsDFits rfl (by
  intro xs obs out hp h
  unfold SDFits at h
  split at h
  ·refine ⟨by simp [Tryd.f65], ?_⟩
   rw [gDFits_eq]
   exact (nDFits _ _ hp).trans h
  ·cases h    )
theorem soundBCompare (hm : MX) : OKS 44 preBCompare SBCompare :=
 read_sound (E := EBCompare) (N := 40) (keep := false) hm (fun g => (sound_pick (soundBACompare hm) sound_none)) Tryd.func44 rfl rfl loopsBCompare rfl (by
  intro xs obs out hp h
  unfold SBCompare at h
  split at h
  ·refine ⟨by simp [Tryd.f44], ?_⟩
   rw [gBCompare_eq]
   exact (nBCompare _ _ hp).trans h
  ·cases h    )
theorem soundOLess (hm : MX) : OKS 77 preOLess SOLess :=
 read_sound (E := EOLess) (N := 40) (keep := false) hm (fun g => (sound_pick (soundBCompare hm) sound_none)) Tryd.func77 rfl rfl loopsOLess rfl (by
  intro xs obs out hp h
  unfold SOLess at h
  split at h
  ·refine ⟨by simp [Tryd.f77], ?_⟩
   rw [gOLess_eq]
   exact (nOLess _ _ hp).trans h
  ·cases h    )
theorem soundOSteps (hm : MX) : OKS 76 preOSteps SOSteps :=
 read_sound (E := EOSteps) (N := 40) (keep := false) hm (fun g => (sound_pick (soundOLess hm) sound_none)) Tryd.func76 rfl rfl loopsOSteps rfl (by
  intro xs obs out hp h
  unfold SOSteps at h
  split at h
  ·refine ⟨by simp [Tryd.f76], ?_⟩
   rw [gOSteps_eq]
   exact (nOSteps _ hp).trans h
  ·cases h    )
theorem soundOSorted (hm : MX) : OKS 68 preOSorted SOSorted :=
 read_sound (E := EOSorted) (N := 40) (keep := false) hm (fun g => (sound_pick (soundOSteps hm) (sound_pick (soundOLess hm) sound_none))) Tryd.func68 rfl rfl loopsOSorted rfl (by
  intro xs obs out hp h
  unfold SOSorted at h
  split at h
  ·refine ⟨by simp [Tryd.f68], ?_⟩
   rw [gOSorted_eq]
   exact (nOSorted _ hp).trans h
  ·cases h    )
theorem soundRRSmall (hm : MX) : ∀ rk, OKS 40 (preRRSmall rk) SRSmall
 | 0 => sound_never fun xs obs h => by
  unfold preRRSmall at h
  split at h
  ·simp only [Bool.and_eq_true] at h; have := isTr_spec h.1; simp [isTf] at this
  ·cases h
 | rk + 1 => read_sound (E := ERSmall rk) (N := 40) (keep := false) hm (fun g => (sound_pick (soundRRSmall hm rk) sound_none)) Tryd.func40 rfl rfl (loopsRSmall rk) rfl (by
  intro xs obs out hq h
  have hp : preRRSmall (rk + 1) xs obs = true := hq
  have hp0 : preRRSmall (rk + 1) xs obs = true := hq
  clear hq
  unfold preRRSmall at hp
  split at hp
  ·rename_i a n
   try simp only [Bool.and_eq_true] at hp
   have ha := isTr_spec hp.1
   obtain ⟨_, ta, ba, ka, _, rfl, _⟩ := tf_inv ha
   refine ⟨by simp [Tryd.f40], ?_⟩
   rw [gRSmall_eq]
   exact (nRSmall rk ta ba ka n hp0).trans h
  ·cases hp)
theorem soundRSmall (hm : MX) : OKS 40 preRSmall SRSmall :=
 sound_ranked (fun rk => soundRRSmall hm rk) fun xs obs h => by
  unfold preRSmall at h
  split at h
  ·rename_i a n
   simp only [Bool.and_eq_true] at h
   obtain ⟨n', hn⟩ := isT_spec h.1
   refine ⟨n', ?_⟩
   show (isTr n' a && leftOk n) = true
   rw [isTr_of hn, h.2]; rfl
  ·cases h
theorem soundRDSize (hm : MX) : ∀ rk, OKS 57 (preRDSize rk) SDSize
 | 0 => sound_never fun xs obs h => by
  unfold preRDSize at h
  split at h
  ·simp only [Bool.and_eq_true] at h; have := (isSr_spec h.1).1; simp [isTf] at this
  ·cases h
 | rk + 1 => read_sound (E := EDSize rk) (N := 40) (keep := false) hm (fun g => (sound_pick (soundDBoxed hm) (sound_pick (soundRDSize hm rk) (sound_pick (soundDKnown hm) (sound_pick (soundDFits hm) (sound_pick (soundDLenSize hm) sound_none)))))) Tryd.func57 rfl rfl (loopsDSize rk) rfl (by
  intro xs obs out hq h
  have hp : preRDSize (rk + 1) xs obs = true := hq
  have hp0 : preRDSize (rk + 1) xs obs = true := hq
  clear hq
  unfold preRDSize at hp
  split at hp
  ·rename_i a n
   try simp only [Bool.and_eq_true] at hp
   have ha := (isSr_spec hp.1).1
   obtain ⟨_, ta, ba, ka, _, rfl, _⟩ := tf_inv ha
   refine ⟨by simp [Tryd.f57], ?_⟩
   rw [gDSize_eq]
   exact (nDSize rk ta ba ka n hp0).trans h
  ·cases hp)
theorem soundDSize (hm : MX) : OKS 57 preDSize SDSize :=
 sound_ranked (fun rk => soundRDSize hm rk) fun xs obs h => by
  unfold preDSize at h
  split at h
  ·rename_i a n
   simp only [Bool.and_eq_true] at h
   obtain ⟨n', hn, hb⟩ := isS_spec h.1
   refine ⟨n', ?_⟩
   show (isSr n' a && deepOk n) = true
   rw [isSr_of hn hb, h.2]; rfl
  ·cases h
theorem soundDPut (hm : MX) : OKS 67 preDPut SDPut :=
 read_sound (E := EDPut) (N := 40) (keep := true) hm (fun g => (sound_pick (soundDLenSize hm) sound_none)) Tryd.func67 rfl rfl loopsDPut rfl (by
  intro xs obs out hp h
  unfold SDPut at h
  split at h
  ·refine ⟨by simp [Tryd.f67], ?_⟩
   rw [gDPut_eq]
   exact (nDPut _ _ hp).trans h
  ·cases h    )
theorem soundSConcat (hm : MX) : OKS 69 preSConcat SSConcat :=
 read_sound (E := ESConcat) (N := 40) (keep := false) hm (fun g => (sound_pick (soundSGrow hm) sound_none)) Tryd.func69 rfl rfl loopsSConcat rfl (by
  intro xs obs out hp h
  unfold SSConcat at h
  split at h
  ·refine ⟨by simp [Tryd.f69], ?_⟩
   rw [gSConcat_eq]
   exact (nSConcat _ hp).trans h
  ·cases h    )
theorem soundRDWrite (hm : MX) : ∀ rk, OKS 58 (preRDWrite rk) SDWrite
 | 0 => sound_never fun xs obs h => by
  unfold preRDWrite at h
  split at h
  ·have := (isWr_spec h).1; simp [isTf] at this
  ·cases h
 | rk + 1 => read_sound (E := EDWrite rk) (N := 40) (keep := false) hm (fun g => (sound_pick (soundDBoxed hm) (sound_pick (soundRDWrite hm rk) (sound_pick (soundDPut hm) (sound_pick (soundOSorted hm) (sound_pick (soundSConcat hm) sound_none)))))) Tryd.func58 rfl rfl (loopsDWrite rk) rfl (by
  intro xs obs out hq h
  have hp : preRDWrite (rk + 1) xs obs = true := hq
  have hp0 : preRDWrite (rk + 1) xs obs = true := hq
  clear hq
  unfold preRDWrite at hp
  split at hp
  ·rename_i a
   try simp only [Bool.and_eq_true] at hp
   have ha := (isWr_spec hp).1
   obtain ⟨_, ta, ba, ka, _, rfl, _⟩ := tf_inv ha
   refine ⟨by simp [Tryd.f58], ?_⟩
   rw [gDWrite_eq]
   exact (nDWrite rk ta ba ka hp0).trans h
  ·cases hp)
theorem soundDWrite (hm : MX) : OKS 58 preDWrite SDWrite :=
 sound_ranked (fun rk => soundRDWrite hm rk) fun xs obs h => by
  unfold preDWrite at h
  split at h
  ·rename_i a
   unfold isW at h
   rw [shut_eq] at h
   obtain ⟨n, hn⟩ := @of_decide_eq_true _ (Classical.propDecidable _) h
   exact ⟨n, isWr_of hn⟩
  ·cases h
theorem soundDBytes (hm : MX) : OKS 41 preDBytes SDBytes :=
 read_sound (E := EDBytes) (N := 40) (keep := false) hm (fun g => (sound_pick (soundDSize hm) (sound_pick (soundDWrite hm) sound_none))) Tryd.func41 rfl rfl loopsDBytes rfl (by
  intro xs obs out hq h
  have hp : preDBytes xs obs = true := hq
  have hp0 : preDBytes xs obs = true := hq
  clear hq
  unfold preDBytes at hp
  split at hp
  ·rename_i a
   try simp only [Bool.and_eq_true] at hp
   obtain ⟨_, ha, _⟩ := isS_spec hp
   obtain ⟨_, ta, ba, ka, _, rfl, _⟩ := tf_inv ha
   refine ⟨by simp [Tryd.f41], ?_⟩
   rw [gDBytes_eq]
   exact (nDBytes ta ba ka hp0).trans h
  ·cases hp)
theorem soundDFit_ (hm : MX) : OKS 45 preDFit_ SDFit_ :=
 read_sound (E := EDFit_) (N := 40) (keep := false) hm (fun g => (sound_pick (soundDBytes hm) sound_none)) Tryd.func45 rfl rfl loopsDFit_ rfl (by
  intro xs obs out hq h
  have hp : preDFit_ xs obs = true := hq
  have hp0 : preDFit_ xs obs = true := hq
  clear hq
  unfold preDFit_ at hp
  split at hp
  ·rename_i a
   try simp only [Bool.and_eq_true] at hp
   obtain ⟨_, ha, _⟩ := isS_spec hp
   obtain ⟨_, ta, ba, ka, _, rfl, _⟩ := tf_inv ha
   refine ⟨by simp [Tryd.f45], ?_⟩
   rw [gDFit__eq]
   exact (nDFit_ ta ba ka hp0).trans h
  ·cases hp)
theorem soundR2Same (hm : MX) : OKS 19 preR2Same SR2Same :=
 read_sound (E := ER2Same) (N := 40) (keep := false) hm (fun g => sound_none) Tryd.func19 rfl rfl loopsR2Same rfl (by
  intro xs obs out hp h
  unfold SR2Same at h
  split at h
  ·refine ⟨by simp [Tryd.f19], ?_⟩
   rw [gR2Same_eq]
   exact (nR2Same _ _ hp).trans h
  ·cases h    )
theorem soundOPut (hm : MX) : OKS 50 preOPut SOPut :=
 read_sound (E := EOPut) (N := 40) (keep := true) hm (fun g => sound_none) Tryd.func50 rfl rfl loopsOPut rfl (by
  intro xs obs out hp h
  unfold SOPut at h
  split at h
  ·refine ⟨by simp [Tryd.f50], ?_⟩
   rw [gOPut_0_eq]
   exact (nOPut_0 _ hp).trans h
  ·refine ⟨by simp [Tryd.f50], ?_⟩
   rw [gOPut_1_eq]
   exact (nOPut_1 _ _ _ hp).trans h
  ·cases h    )
theorem soundOBytes (hm : MX) : OKS 34 preOBytes SOBytes :=
 read_sound (E := EOBytes) (N := 40) (keep := false) hm (fun g => (sound_pick (soundOFit hm) (sound_pick (soundOPut hm) sound_none))) Tryd.func34 rfl rfl loopsOBytes rfl (by
  intro xs obs out hp h
  unfold SOBytes at h
  split at h
  ·refine ⟨by simp [Tryd.f34], ?_⟩
   rw [gOBytes_eq]
   exact (nOBytes _ hp).trans h
  ·cases h    )
theorem soundVBNum (hm : MX) : OKS 46 preVBNum SVBNum :=
 read_sound (E := EVBNum) (N := 40) (keep := false) hm (fun g => sound_none) Tryd.func46 rfl rfl loopsVBNum rfl (by
  intro xs obs out hp h
  unfold SVBNum at h
  split at h
  ·refine ⟨by simp [Tryd.f46], ?_⟩
   rw [gVBNum_eq]
   exact (nVBNum _ hp).trans h
  ·cases h    )
theorem soundVLe (hm : MX) : OKS 47 preVLe SVLe :=
 read_sound (E := EVLe) (N := 40) (keep := true) hm (fun g => sound_none) Tryd.func47 rfl rfl loopsVLe rfl (by
  intro xs obs out hp h
  unfold SVLe at h
  split at h
  ·refine ⟨by simp [Tryd.f47], ?_⟩
   rw [gVLe_eq]
   exact (nVLe _ hp).trans h
  ·cases h    )
theorem soundVReverse (hm : MX) : OKS 48 preVReverse SVReverse :=
 read_sound (E := EVReverse) (N := 40) (keep := false) hm (fun g => sound_none) Tryd.func48 rfl rfl loopsVReverse rfl (by
  intro xs obs out hp h
  unfold SVReverse at h
  split at h
  ·refine ⟨by simp [Tryd.f48], ?_⟩
   rw [gVReverse_eq]
   exact (nVReverse _ hp).trans h
  ·cases h    )
theorem soundVBe (hm : MX) : OKS 27 preVBe SVBe :=
 read_sound (E := EVBe) (N := 40) (keep := false) hm (fun g => (sound_pick (soundVLe hm) (sound_pick (soundVReverse hm) sound_none))) Tryd.func27 rfl rfl loopsVBe rfl (by
  intro xs obs out hp h
  unfold SVBe at h
  split at h
  ·refine ⟨by simp [Tryd.f27], ?_⟩
   rw [gVBe_eq]
   exact (nVBe _ hp).trans h
  ·cases h    )
theorem soundVInt (hm : MX) : OKS 7 preVInt SVInt :=
 read_sound (E := EVInt) (N := 40) (keep := false) hm (fun g => (sound_pick (soundVBe hm) sound_none)) Tryd.func7 rfl rfl loopsVInt rfl (by
  intro xs obs out hp h
  unfold SVInt at h
  split at h
  ·refine ⟨by simp [Tryd.f7], ?_⟩
   rw [gVInt_eq]
   exact (nVInt _ hp).trans h
  ·cases h    )
theorem soundVNull (hm : MX) : OKS 23 preVNull SVNull :=
 read_sound (E := EVNull) (N := 40) (keep := false) hm (fun g => sound_none) Tryd.func23 rfl rfl loopsVNull rfl (by
  intro xs obs out hp h
  unfold SVNull at h
  split at h
  ·refine ⟨by simp [Tryd.f23], ?_⟩
   rw [gVNull_eq]
   exact (nVNull hp).trans h
  ·cases h    )
theorem soundVSmall (hm : MX) : OKS 22 preVSmall SVSmall :=
 read_sound (E := EVSmall) (N := 40) (keep := false) hm (fun g => (sound_pick (soundRSmall hm) sound_none)) Tryd.func22 rfl rfl loopsVSmall rfl (by
  intro xs obs out hp h
  unfold SVSmall at h
  split at h
  ·refine ⟨by simp [Tryd.f22], ?_⟩
   rw [gVSmall_eq]
   exact (nVSmall _ _ _ hp).trans h
  ·cases h    )
theorem soundVNumber (hm : MX) : OKS 26 preVNumber SVNumber :=
 read_sound (E := EVNumber) (N := 40) (keep := false) hm (fun g => (sound_pick (soundVBNum hm) sound_none)) Tryd.func26 rfl rfl loopsVNumber rfl (by
  intro xs obs out hp h
  unfold SVNumber at h
  split at h
  ·refine ⟨by simp [Tryd.f26], ?_⟩
   rw [gVNumber_eq]
   exact (nVNumber _ hp).trans h
  ·cases h    )
theorem soundVUtf1 (hm : MX) : OKS 33 preVUtf1 SVUtf1 :=
 read_sound (E := EVUtf1) (N := 40) (keep := false) hm (fun g => sound_none) Tryd.func33 rfl rfl loopsVUtf1 rfl (by
  intro xs obs out hp h
  unfold SVUtf1 at h
  split at h
  ·refine ⟨by simp [Tryd.f33], ?_⟩
   rw [gVUtf1_eq]
   exact (nVUtf1 _ hp).trans h
  ·cases h    )
theorem soundVTime1 (hm : MX) : OKS 38 preVTime1 SVTime1 :=
 read_sound (E := EVTime1) (N := 40) (keep := false) hm (fun g => (sound_pick (soundSRead hm) sound_none)) Tryd.func38 rfl rfl loopsVTime1 rfl (by
  intro xs obs out hp h
  unfold SVTime1 at h
  split at h
  ·refine ⟨by simp [Tryd.f38], ?_⟩
   rw [gVTime1_eq]
   exact (nVTime1 _ hp).trans h
  ·cases h    )
theorem soundVToldI (hm : MX) : OKS 25 preVToldI SVToldI :=
 read_sound (E := EVToldI) (N := 40) (keep := false) hm (fun g => (sound_pick (soundVNumber hm) (sound_pick (soundVTime1 hm) (sound_pick (soundDFit_ hm) sound_none)))) Tryd.func25 rfl rfl loopsVToldI rfl (by
  intro xs obs out hp h
  unfold SVToldI at h
  split at h
  ·refine ⟨by simp [Tryd.f25], ?_⟩
   rw [gVToldI_0_eq]
   exact (nVToldI_0 _ _ _ hp).trans h
  ·refine ⟨by simp [Tryd.f25], ?_⟩
   rw [gVToldI_1_eq]
   exact (nVToldI_1 _ _ _ hp).trans h
  ·cases h    )
theorem soundVToldS (hm : MX) : OKS 32 preVToldS SVToldS :=
 read_sound (E := EVToldS) (N := 40) (keep := false) hm (fun g => (sound_pick (soundVUtf1 hm) (sound_pick (soundDFit_ hm) sound_none))) Tryd.func32 rfl rfl loopsVToldS rfl (by
  intro xs obs out hp h
  unfold SVToldS at h
  split at h
  ·refine ⟨by simp [Tryd.f32], ?_⟩
   rw [gVToldS_eq]
   exact (nVToldS _ _ _ hp).trans h
  ·cases h    )
theorem soundVToldO (hm : MX) : OKS 35 preVToldO SVToldO :=
 read_sound (E := EVToldO) (N := 40) (keep := false) hm (fun g => (sound_pick (soundOParse hm) (sound_pick (soundDFit_ hm) sound_none))) Tryd.func35 rfl rfl loopsVToldO rfl (by
  intro xs obs out hp h
  unfold SVToldO at h
  split at h
  ·refine ⟨by simp [Tryd.f35], ?_⟩
   rw [gVToldO_eq]
   exact (nVToldO _ _ _ hp).trans h
  ·cases h    )
theorem soundVIntOf (hm : MX) : OKS 6 preVIntOf SVIntOf :=
 read_sound (E := EVIntOf) (N := 40) (keep := false) hm (fun g => (sound_pick (soundVToldI hm) (sound_pick (soundVNumber hm) sound_none))) Tryd.func6 rfl rfl loopsVIntOf rfl (by
  intro xs obs out hp h
  unfold SVIntOf at h
  split at h
  ·refine ⟨by simp [Tryd.f6], ?_⟩
   rw [gVIntOf_eq]
   exact (nVIntOf _ _ _ hp).trans h
  ·cases h    )
theorem soundVBytesOf (hm : MX) : OKS 8 preVBytesOf SVBytesOf :=
 read_sound (E := EVBytesOf) (N := 40) (keep := false) hm (fun g => (sound_pick (soundSClone hm) sound_none)) Tryd.func8 rfl rfl loopsVBytesOf rfl (by
  intro xs obs out hp h
  unfold SVBytesOf at h
  split at h
  ·refine ⟨by simp [Tryd.f8], ?_⟩
   rw [gVBytesOf_eq]
   exact (nVBytesOf _ _ _ hp).trans h
  ·cases h    )
theorem soundVUtf8Of (hm : MX) : OKS 16 preVUtf8Of SVUtf8Of :=
 read_sound (E := EVUtf8Of) (N := 40) (keep := false) hm (fun g => (sound_pick (soundVToldS hm) (sound_pick (soundVUtf1 hm) sound_none))) Tryd.func16 rfl rfl loopsVUtf8Of rfl (by
  intro xs obs out hp h
  unfold SVUtf8Of at h
  split at h
  ·refine ⟨by simp [Tryd.f16], ?_⟩
   rw [gVUtf8Of_eq]
   exact (nVUtf8Of _ _ _ hp).trans h
  ·cases h    )
theorem soundVIdOf (hm : MX) : OKS 18 preVIdOf SVIdOf :=
 read_sound (E := EVIdOf) (N := 40) (keep := false) hm (fun g => (sound_pick (soundVToldO hm) (sound_pick (soundOParse hm) sound_none))) Tryd.func18 rfl rfl loopsVIdOf rfl (by
  intro xs obs out hp h
  unfold SVIdOf at h
  split at h
  ·refine ⟨by simp [Tryd.f18], ?_⟩
   rw [gVIdOf_eq]
   exact (nVIdOf _ _ _ hp).trans h
  ·cases h    )
theorem soundVTimeOf (hm : MX) : OKS 21 preVTimeOf SVTimeOf :=
 read_sound (E := EVTimeOf) (N := 40) (keep := false) hm (fun g => (sound_pick (soundVToldI hm) (sound_pick (soundVTime1 hm) sound_none))) Tryd.func21 rfl rfl loopsVTimeOf rfl (by
  intro xs obs out hp h
  unfold SVTimeOf at h
  split at h
  ·refine ⟨by simp [Tryd.f21], ?_⟩
   rw [gVTimeOf_eq]
   exact (nVTimeOf _ _ _ hp).trans h
  ·cases h    )
theorem soundVCmp (hm : MX) : OKS 43 preVCmp SVCmp :=
 read_sound (E := EVCmp) (N := 40) (keep := false) hm (fun g => (sound_pick (soundBCompare hm) sound_none)) Tryd.func43 rfl rfl loopsVCmp rfl (by
  intro xs obs out hp h
  unfold SVCmp at h
  split at h
  ·refine ⟨by simp [Tryd.f43], ?_⟩
   rw [gVCmp_eq]
   exact (nVCmp _ _ _ _ _ _ _ _ hp).trans h
  ·cases h    )
theorem soundVInsert (hm : MX) : OKS 70 preVInsert SVInsert :=
 read_sound (E := EVInsert) (N := 40) (keep := false) hm (fun g => (sound_pick (soundVCmp hm) sound_none)) Tryd.func70 rfl rfl loopsVInsert rfl (by
  intro xs obs out hp h
  unfold SVInsert at h
  split at h
  ·refine ⟨by simp [Tryd.f70], ?_⟩
   rw [gVInsert_eq]
   exact (nVInsert _ _ _ _ hp).trans h
  ·cases h    )
theorem soundVStable (hm : MX) : OKS 59 preVStable SVStable :=
 read_sound (E := EVStable) (N := 40) (keep := false) hm (fun g => (sound_pick (soundVCmp hm) (sound_pick (soundVInsert hm) (sound_pick (soundVMerge hm) sound_none)))) Tryd.func59 rfl rfl loopsVStable rfl (by
  intro xs obs out hp h
  unfold SVStable at h
  split at h
  ·refine ⟨by simp [Tryd.f59], ?_⟩
   rw [gVStable_eq]
   exact (nVStable _ _ _ hp).trans h
  ·cases h    )
theorem soundVSort (hm : MX) : OKS 42 preVSort SVSort :=
 read_sound (E := EVSort) (N := 40) (keep := false) hm (fun g => (sound_pick (soundVCmp hm) (sound_pick (soundVStable hm) sound_none))) Tryd.func42 rfl rfl loopsVSort rfl (by
  intro xs obs out hp h
  unfold SVSort at h
  split at h
  ·refine ⟨by simp [Tryd.f42], ?_⟩
   rw [gVSort_eq]
   exact (nVSort _ _ hp).trans h
  ·cases h    )
theorem soundVSet (hm : MX) : OKS 24 preVSet SVSet :=
 read_sound (E := EVSet) (N := 40) (keep := false) hm (fun g => (sound_pick (soundDBytes hm) (sound_pick (soundVSort hm) (sound_pick (soundVCmp hm) sound_none)))) Tryd.func24 rfl rfl loopsVSet rfl (by
  intro xs obs out hp h
  unfold SVSet at h
  split at h
  ·refine ⟨by simp [Tryd.f24], ?_⟩
   rw [gVSet_eq]
   exact (nVSet _ hp).trans h
  ·cases h    )
theorem soundVMade (hm : MX) : OKS 31 preVMade SVMade :=
 read_sound (E := EVMade) (N := 40) (keep := false) hm (fun g => (sound_pick (soundDFit_ hm) sound_none)) Tryd.func31 rfl rfl loopsVMade rfl (by
  intro xs obs out hp h
  unfold SVMade at h
  split at h
  ·refine ⟨by simp [Tryd.f31], ?_⟩
   rw [gVMade_eq]
   exact (nVMade _ _ hp).trans h
  ·cases h    )
theorem soundVUtf8 (hm : MX) : OKS 15 preVUtf8 SVUtf8 :=
 read_sound (E := EVUtf8) (N := 40) (keep := false) hm (fun g => (sound_pick (soundVMade hm) sound_none)) Tryd.func15 rfl rfl loopsVUtf8 rfl (by
  intro xs obs out hp h
  unfold SVUtf8 at h
  split at h
  ·refine ⟨by simp [Tryd.f15], ?_⟩
   rw [gVUtf8_eq]
   exact (nVUtf8 _ hp).trans h
  ·cases h    )
theorem soundVId (hm : MX) : OKS 17 preVId SVId :=
 read_sound (E := EVId) (N := 40) (keep := false) hm (fun g => (sound_pick (soundVMade hm) (sound_pick (soundOBytes hm) sound_none))) Tryd.func17 rfl rfl loopsVId rfl (by
  intro xs obs out hp h
  unfold SVId at h
  split at h
  ·refine ⟨by simp [Tryd.f17], ?_⟩
   rw [gVId_eq]
   exact (nVId _ hp).trans h
  ·cases h    )
theorem soundVTime (hm : MX) : OKS 20 preVTime SVTime :=
 read_sound (E := EVTime) (N := 40) (keep := false) hm (fun g => (sound_pick (soundVMade hm) (sound_pick (soundSText hm) sound_none))) Tryd.func20 rfl rfl loopsVTime rfl (by
  intro xs obs out hp h
  unfold SVTime at h
  split at h
  ·refine ⟨by simp [Tryd.f20], ?_⟩
   rw [gVTime_eq]
   exact (nVTime _ hp).trans h
  ·cases h    )
theorem soundVBytes (hm : MX) : OKS 9 preVBytes SVBytes :=
 read_sound (E := EVBytes) (N := 40) (keep := false) hm (fun g => (sound_pick (soundSClone hm) sound_none)) Tryd.func9 rfl rfl loopsVBytes rfl (by
  intro xs obs out hp h
  unfold SVBytes at h
  split at h
  ·refine ⟨by simp [Tryd.f9], ?_⟩
   rw [gVBytes_eq]
   exact (nVBytes _ hp).trans h
  ·cases h    )
theorem soundVClone (hm : MX) : OKS 30 preVClone SVClone :=
 read_sound (E := EVClone) (N := 40) (keep := false) hm (fun g => sound_none) Tryd.func30 rfl rfl loopsVClone rfl (by
  intro xs obs out hp h
  unfold SVClone at h
  split at h
  ·refine ⟨by simp [Tryd.f30], ?_⟩
   rw [gVClone_eq]
   exact (nVClone _ hp).trans h
  ·cases h    )
theorem soundVSeq (hm : MX) : OKS 11 preVSeq SVSeq :=
 read_sound (E := EVSeq) (N := 40) (keep := false) hm (fun g => (sound_pick (soundVClone hm) sound_none)) Tryd.func11 rfl rfl loopsVSeq rfl (by
  intro xs obs out hp h
  unfold SVSeq at h
  split at h
  ·refine ⟨by simp [Tryd.f11], ?_⟩
   rw [gVSeq_eq]
   exact (nVSeq _ hp).trans h
  ·cases h    )
theorem soundVKids (hm : MX) : OKS 10 preVKids SVKids :=
 read_sound (E := EVKids) (N := 40) (keep := false) hm (fun g => (sound_pick (soundDBoxed hm) (sound_pick (soundVClone hm) sound_none))) Tryd.func10 rfl rfl loopsVKids rfl (by
  intro xs obs out hp h
  unfold SVKids at h
  split at h
  ·refine ⟨by simp [Tryd.f10], ?_⟩
   rw [gVKids_eq]
   exact (nVKids _ _ _ _ hp).trans h
  ·cases h    )
theorem soundVRSeq (hm : MX) : OKS 14 preVRSeq SVRSeq :=
 read_sound (E := EVRSeq) (N := 40) (keep := false) hm (fun g => sound_none) Tryd.func14 rfl rfl loopsVRSeq rfl (by
  intro xs obs out hp h
  unfold SVRSeq at h
  split at h
  ·refine ⟨by simp [Tryd.f14], ?_⟩
   rw [gVRSeq_eq]
   exact (nVRSeq _ hp).trans h
  ·cases h    )
theorem soundVFew (hm : MX) : OKS 4 preVFew SVFew :=
 read_sound (E := EVFew) (N := 40) (keep := false) hm (fun g => (sound_pick (soundVSmall hm) sound_none)) Tryd.func4 rfl rfl loopsVFew rfl (by
  intro xs obs out hp h
  unfold SVFew at h
  split at h
  ·refine ⟨by simp [Tryd.f4], ?_⟩
   rw [gVFew_eq]
   exact (nVFew _ hp).trans h
  ·cases h    )
theorem soundVAwake (hm : MX) : OKS 5 preVAwake SVAwake :=
 read_sound (E := EVAwake) (N := 40) (keep := false) hm (fun g => (sound_pick (soundVIntOf hm) (sound_pick (soundVInt hm) (sound_pick (soundR1Same hm) (sound_pick (soundRSame hm) (sound_pick (soundVNull hm) (sound_pick (soundVSet hm) sound_none))))))) Tryd.func5 rfl rfl loopsVAwake rfl (by
  intro xs obs out hp h
  unfold SVAwake at h
  split at h
  ·refine ⟨by simp [Tryd.f5], ?_⟩
   rw [gVAwake_eq]
   exact (nVAwake hp).trans h
  ·cases h    )
theorem soundVLBack (hm : MX) : OKS 3 preVLBack SVLBack :=
 read_sound (E := EVLBack) (N := 40) (keep := false) hm (fun g => (sound_pick (soundVFew hm) (sound_pick (soundVAwake hm) (sound_pick (soundVIntOf hm) (sound_pick (soundVInt hm) (sound_pick (soundVBytesOf hm) (sound_pick (soundVBytes hm) (sound_pick (soundVKids hm) (sound_pick (soundVSeq hm) (sound_pick (soundR1Same hm) (sound_pick (soundRSame hm) (sound_pick (soundVRSeq hm) (sound_pick (soundVUtf8 hm) (sound_pick (soundVUtf8Of hm) (sound_pick (soundVId hm) (sound_pick (soundVIdOf hm) (sound_pick (soundR2Same hm) (sound_pick (soundVTime hm) (sound_pick (soundVTimeOf hm) sound_none))))))))))))))))))) Tryd.func3 rfl rfl loopsVLBack rfl (by
  intro xs obs out hp h
  unfold SVLBack at h
  split at h
  ·refine ⟨by simp [Tryd.f3], ?_⟩
   rw [gVLBack_eq]
   exact (nVLBack _ _ _ _ _ hp).trans h
  ·cases h    )
end Go.Proofs.YtfkpjbbkdkcdcabDoorA
