/-
 The library's comparison of bytes: its contract holds. Conditions: none.
-/
import Derived.Test.YtbgkadaidhgggaaDoorT3a
import Derived.Lib.BytesEntry
import Derived.Test.YtbgkadaidhgggaaDoorT1
import Derived.Test.YtbgkadaidhgggaaDoorK3
import Derived.Shelf.Spec.SlicesGrow
import Derived.Test.YtbgkadaidhgggaaDoorT3b
import Derived.Test.YtbgkadaidhgggaaDoorT5
import Derived.Test.YtbgkadaidhgggaaDoorProg
import Derived.WideKeyArgs
import Derived.Lib.LaidU8
import Derived.ChangeSlices
import GoSem.PinnedTables
import Derived.ChangeArms
set_option linter.unusedVariables false
set_option linter.unusedSimpArgs false
namespace Go.Proofs.YtbgkadaidhgggaaDoorA

theorem load_sli {P : Program} {w : World} {Im : Nat -> Prop} {l : List Int} {v : Value} (h : CRep w Im (.sli .u8 l) v) : (Extern.Bytes.bytesOf v).run P w = .ok ⟨(Lib.bytesOf l).toArray⟩ w := by
 cases h with
 | sli _ _ a len cap hl hc hcell =>
  cases a with
  | none =>
   have : l = [] := by
    cases l with
    | nil => rfl
    | cons x r => obtain ⟨ad, e, _⟩ := hcell 0 x rfl; cases e
   subst this
   rfl
  | some ad =>
   subst hl
   have := Lib.run_loadBytesX (P := P) w l ad .empty (fun j x hj => by obtain ⟨ad', e, _, hc⟩ := hcell j x hj; cases e; exact hc)
   refine this.trans ?_
   congr 1
   apply ByteArray.ext
   show (#[] : Array UInt8) ++ (Lib.bytesOf l).toArray = (Lib.bytesOf l).toArray
   simp
theorem cmp_list : ∀ (a b : List Int), (∀ x ∈ a, 0 <= x /\ x <= 255) -> (∀ x ∈ b, 0 <= x /\ x <= 255) -> Lib.compareBytes (Lib.bytesOf a) (Lib.bytesOf b) = qbp a b
 | [], [], _, _ => rfl
 | [], _ :: _, _, _ => rfl
 | _ :: _, [], _, _ => rfl
 | x :: a, y :: b, ha, hb => by
  have ih := cmp_list a b (fun z hz => ha z (List.mem_cons_of_mem _ hz)) (fun z hz => hb z (List.mem_cons_of_mem _ hz))
  have hx := ha x (List.mem_cons_self ..)
  have hy := hb y (List.mem_cons_self ..)
  have e1 : (UInt8.ofNat x.toNat < UInt8.ofNat y.toNat) ↔ x < y := by
   rw [UInt8.lt_iff_toNat_lt, UInt8.toNat_ofNat', UInt8.toNat_ofNat']
   omega
  have e2 : (UInt8.ofNat y.toNat < UInt8.ofNat x.toNat) ↔ y < x := by
   rw [UInt8.lt_iff_toNat_lt, UInt8.toNat_ofNat', UInt8.toNat_ofNat']
   omega
  show (if UInt8.ofNat x.toNat < UInt8.ofNat y.toNat then (-1 : Int) else if UInt8.ofNat y.toNat < UInt8.ofNat x.toNat then 1 else Lib.compareBytes (Lib.bytesOf a) (Lib.bytesOf b)) = (if x < y then -1 else if y < x then 1 else qbp a b)
  simp only [e1, e2, ih]
theorem run_cmp {P : Program} {w : World} {Im : Nat -> Prop} {a b : List Int} {va vb : Value} (ha : CRep w Im (.sli .u8 a) va) (hb : CRep w Im (.sli .u8 b) vb) (h1 : ∀ x ∈ a, 0 <= x /\ x <= 255) (h2 : ∀ x ∈ b, 0 <= x /\ x <= 255) :
  (Extern.BytealgCompare.compare #[va, vb]).run P w = .ok (.int .i64 (qbp a b)) w := by
 change Sem.run P (do pure (goInt (Extern.BytealgCompare.cmp (<- Extern.Bytes.bytesOf va) (<- Extern.Bytes.bytesOf vb)))) w = _
 simp only [Sem.run_bind, Sem.run_pure, load_sli ha, load_sli hb, Result.andThen]
 rw [Lib.cmp_eq]
 show Result.ok (Value.int .i64 (Lib.compareBytes (Lib.bytesOf a) (Lib.bytesOf b))) w = _
 rw [cmp_list a b h1 h2]

theorem soundBACompare (hm : Tryd.prog.follows .mixedOrders = true) : Sound Tryd.prog qca 74 (fun xs obs => cond (qlo xs obs) (SBACompare xs obs).eval none) := by
 intro xs obs out w Im ρ bl vs hs hpre
 obtain ⟨h1, h2⟩ := qaa hs
 unfold qlo at h1
 split at h1
 ·rename_i a b
  simp only [Bool.and_eq_true] at h1
  have h2 : some (Out.ret [.cl (.int .i64 (qfl a b))] []) = some out := h2
  cases h2
  have hl : vs.length = 2 := hpre.reps.1
  match vs, hl, hpre with
  | [va, vb], _, hpre =>
   have ra : CRep w Im (.sli .u8 a) va := by have := hpre.reps.2 0 _ _ rfl rfl; cases this; assumption
   have rb : CRep w Im (.sli .u8 b) vb := by have := hpre.reps.2 1 _ _ rfl rfl; cases this; assumption
   refine .inr ⟨.int .i64 (qfl a b), w, ?_, [.int .i64 (qfl a b)], Im, ρ, rfl, ⟨Fr.refl w bl, hpre.gam, fun j o o' hj => by cases hj⟩, rfl, fun j c v hj hv => ?_⟩
   ·rw [run_callFunc_extern (e := Extern.BytealgCompare.compare) Tryd.func74 rfl rfl rfl (by kernel_rfl)]
    show Result.andThen ((Extern.BytealgCompare.compare #[va, vb]).run Tryd.prog w) _ = _
    rw [run_cmp ra rb (qap h1.1).2 (qap h1.2).2]
    unfold qfl
    rw [qae]
    rfl
   ·match j, hj, hv with
    | 0, hj, hv => cases hj; cases hv; exact .cl _ _ (.int ..)
    | j + 1, hj, hv => cases hj
 ·cases h1
end Go.Proofs.YtbgkadaidhgggaaDoorA

set_option maxRecDepth 100000
namespace Go.Proofs.YtbgkadaidhgggaaDoorA

def renGrow : Go.Shelf.Ren := ⟨fun _ => 61, fun t => cond (Nat.beq t 25) 5 t, fun g => g⟩
theorem laysGrow (hm : Tryd.prog.follows .mixedOrders = true) : Lays8.n4 Tryd.prog renGrow where
 mixed := hm
 f4 := ⟨Tryd.f61.name, by decide, by kernel_rfl⟩
 t0 := Tryd.underlying0
 a0 := fun w => by kernel_rfl
 z0 := fun w => by kernel_rfl
 v0 := fun w => by kernel_rfl
 t3 := Tryd.underlying3
 a3 := fun w => by kernel_rfl
 z3 := fun w => by kernel_rfl
 v3 := fun w => by kernel_rfl
 t4 := Tryd.underlying4
 a4 := fun w => by kernel_rfl
 z4 := fun w => by kernel_rfl
 v4 := fun w => by kernel_rfl
 t9 := Tryd.underlying9
 a9 := fun w => by kernel_rfl
 z9 := fun w => by kernel_rfl
 v9 := fun w => by kernel_rfl
 t20 := Tryd.underlying20
 a20 := fun w => by kernel_rfl
 z20 := fun w => by kernel_rfl
 v20 := fun w => by kernel_rfl
 t22 := Tryd.underlying22
 a22 := fun w => by kernel_rfl
 z22 := fun w => by kernel_rfl
 v22 := fun w => by kernel_rfl
theorem info5 : (Tryd.prog.info? 5).map (fun i => (i.zero, i.size, i.bytes)) = some (some (.int .u8 0), 1, 1) := by kernel_rfl

theorem grow_gam {bl : Nat -> Prop} {w w' : World} {Im : Nat -> Prop} {ρ ρ' : Nat -> Loc} {l : Loc} (h : Gam w.heap.size bl Im w Im ρ []) (hsz : w.heap.size <= w'.heap.size) (hρ : ρ' 0 = l) (ho : ORep w' Im ρ' (shOf [(0, ⟨.ints .u8 [], false⟩)]) (.ints .u8 []) l) (hl : ∀ b x y, l = some (b, x, y) -> b < w'.heap.size /\ ¬ Im b /\ w.heap.size <= b) :
  Gam w.heap.size bl Im w' Im ρ' [(0, ⟨.ints .u8 [], false⟩)] := by
 have one : ∀ (p : Nat) (o : Obj), qan ([(0, ⟨.ints .u8 [], false⟩)] : Heap) p = some o -> p = 0 /\ o = ⟨.ints .u8 [], false⟩ := fun p o hp => by
  simp only [qan] at hp
  cases hb : Nat.beq 0 p with
  | true => rw [hb] at hp; cases hp; exact ⟨(qaj.1 hb).symm, rfl⟩
  | false => rw [hb] at hp; cases hp
 refine ⟨fun b hb => Nat.lt_of_lt_of_le (h.im b hb) hsz, h.i0, fun p o hp => ?_, fun p q o o' b x y x' y' hp hq _ _ hne => ?_, fun p o b x y hp hr => ?_, h.imo⟩
 ·obtain ⟨rfl, rfl⟩ := one p o hp
  rw [hρ]
  exact ho
 ·exact absurd ((one p o hp).1.trans (one q o' hq).1.symm) hne
 ·obtain ⟨rfl, rfl⟩ := one p o hp
  rw [hρ] at hr
  obtain ⟨h1, h2, h3⟩ := hl b x y hr
  exact ⟨h1, fun e => absurd e Bool.false_ne_true, fun _ => ⟨h2, .inr h3⟩⟩

theorem soundSGrow (hm : Tryd.prog.follows .mixedOrders = true) : Sound Tryd.prog qca 61 (fun xs obs => cond (preSGrow xs obs) (SSGrow xs obs).eval none) := by
 intro xs obs out w Im ρ bl vs hs hpre
 obtain ⟨h1, h2⟩ := qaa hs
 unfold preSGrow at h1
 split at h1
 ·rename_i n
  have h2 : some (Out.ret [.ref 0 0 0 true 1] [some ⟨.ints .u8 noInts, false⟩]) = some out := h2
  cases h2
  have hn : 0 <= n /\ n <= 100000000 := by unfold growOk at h1; rw [qae] at h1; exact of_decide_eq_true h1
  obtain ⟨m, rfl⟩ : ∃ m : Nat, n = m := ⟨n.toNat, by omega⟩
  have hl : vs.length = 2 := hpre.reps.1
  match vs, hl, hpre with
  | [va, vb], _, hpre =>
   have ra := hpre.reps.2 0 _ _ rfl rfl
   have rb := hpre.reps.2 1 _ _ rfl rfl
   cases ra
   obtain rfl : vb = .int .i64 m := by
    cases rb with
    | cl _ _ h => cases h; rfl
   refine .inl ⟨?_, ?_⟩
   ·have hn' : ¬ Tryd.f61.name = "runtime.NumGoroutine" := of_decide_eq_true (by kernel_rfl)
    obtain ⟨c, hc⟩ : ∃ c, Tryd.f61.body = some c := ⟨_, rfl⟩
    simp [callFunc, Tryd.func61, hn', hc]
   ·have e : noInts = [] := qae _
    rw [e]
    have hg : Gam w.heap.size bl Im w Im ρ [] := hpre.gam
    by_cases hz : m = 0
    ·subst hz
     refine (Any8.slices_Grow_room (laysGrow hm) none 0 0 0 w (Nat.le_refl _) (by omega) (by omega) (Nat.le_refl _)).mono fun e w' ⟨he, hw⟩ => ?_
     subst he
     subst hw
     refine ⟨[.slice none 0 0], Im, fun _ => none, rfl, ⟨Fr.refl _ bl, grow_gam hg (Nat.le_refl _) rfl ⟨rfl, rfl, trivial⟩ (fun b x y h => by cases h), fun j o o' hj => by cases hj⟩, rfl, fun j c v hj hv => ?_⟩
     match j, hj, hv with
     | 0, hj, hv => cases hj; cases hv; exact .refV 0 ⟨0, 1, false⟩ true 1 rfl rfl rfl rfl
     | j + 1, hj, hv => cases hj
    ·obtain ⟨i0, hi0, hi⟩ := Option.map_eq_some_iff.1 info5
     simp only [Prod.mk.injEq] at hi
     obtain ⟨hi1, hi2, hi3⟩ := hi
     refine (Any8.slices_Grow_grow (laysGrow hm) i0 (.int .u8 0) hi0 hi1 (by omega) none 0 0 m [] w (Nat.le_refl _) (by omega) (by rw [hi3]; omega) (by omega) (by simp) (fun _ => rfl) (fun a h => by cases h)).mono fun e w' ⟨he, hw⟩ => ?_
     have hG : 0 + m <= grownCap w (0 + m) 0 (renGrow.t 25) := grownCap_ge w _ _ _
     generalize grownCap w (0 + m) 0 (renGrow.t 25) = G at *
     subst he
     generalize hcs : ([] : List Value).toArray ++ Builtin.zeroCells (Value.int .u8 0).cells (0 + m - 0) ++ Builtin.zeroCells (Value.int .u8 0).cells (G - (0 + m)) = cs at hw
     have hsz : cs.size = G := by
      rw [<- hcs, Array.size_append, Array.size_append, size_zeroCells, size_zeroCells]
      simp [Value.cells]
      omega
     have hheap : w'.heap = w.heap.push (.cells cs (renGrow.t 25) (0, 0)) := by rw [hw]; rfl
     have hb : w'.heap[w.heap.size]? = some (.cells cs (renGrow.t 25) (0, 0)) := by rw [hheap]; simp
     have hFr : Fr w bl w' := by
      refine ⟨by rw [hw]; rfl, by rw [hw]; rfl, by rw [hw]; rfl, by rw [hheap, Array.size_push]; omega, fun b hb' _ => by rw [hheap, Array.getElem?_push, if_neg (by omega)]⟩
     refine ⟨[.slice (some ⟨w.heap.size, 0, none⟩) 0 G], Im, fun _ => some (w.heap.size, 0, G), rfl, ⟨hFr, grow_gam hg hFr.size rfl ⟨trivial, by rw [hheap]; simp, Nat.zero_le _, fun i hi => ⟨?_, ?_⟩, fun j c hj => by simp [qak] at hj⟩ (fun b x y h => ?_), fun j o o' hj => by cases hj⟩, rfl, fun j c v hj hv => ?_⟩
     ·simp [World.cell?, hb, hsz, hi]
     ·simp [World.frozen?, hb]
     ·cases h
      exact ⟨by rw [hheap]; simp, fun hI => Nat.lt_irrefl _ (hg.im _ hI), Nat.le_refl _⟩
     ·match j, hj, hv with
      | 0, hj, hv =>
       cases hj
       cases hv
       exact .ref 0 0 0 true 1 ⟨0, 1, false⟩ w.heap.size 0 G ⟨w.heap.size, 0, none⟩ G rfl rfl rfl (Nat.zero_le _) (Nat.le_refl _) (fun _ => rfl) (fun _ => rfl) (by omega)
      | j + 1, hj, hv => cases hj
 ·cases h1
end Go.Proofs.YtbgkadaidhgggaaDoorA

namespace Go.Proofs.YtbgkadaidhgggaaDoorA
theorem qdy {P : Program} {glob : Nat -> Option CV} {g : FuncId} {p : List V -> List Obj -> Bool} {q : Nat -> List V -> List Obj -> Bool} {S : List V -> List Obj -> Tree} (h : ∀ rk, Sound P glob g (fun xs obs => cond (q rk xs obs) (S xs obs).eval none)) (hp : ∀ xs obs, p xs obs = true -> ∃ rk, q rk xs obs = true) :
  Sound P glob g (fun xs obs => cond (p xs obs) (S xs obs).eval none) := by
 intro xs obs out w Im ρ bl vs hs
 obtain ⟨h1, h2⟩ := qaa hs
 obtain ⟨rk, hq⟩ := hp xs obs h1
 exact h rk xs obs out w Im ρ bl vs (by show cond (q rk xs obs) _ _ = _; rw [hq]; exact h2)
theorem qer {P : Program} {glob : Nat -> Option CV} {g : FuncId} {p : List V -> List Obj -> Bool} {S : List V -> List Obj -> Tree} (h : ∀ xs obs, ¬ p xs obs = true) : Sound P glob g (fun xs obs => cond (p xs obs) (S xs obs).eval none) := by
 intro xs obs out w Im ρ bl vs hs
 exact absurd (qaa hs).1 (h xs obs)
theorem sound_fail {P : Program} {glob : Nat -> Option CV} {g : FuncId} {p : List V -> List Obj -> Bool} : Sound P glob g (fun xs obs => cond (p xs obs) ((fun _ _ => Tree.fail : List V -> List Obj -> Tree) xs obs).eval none) := by
 intro xs obs out w Im ρ bl vs hs
 cases (qaa hs).2
abbrev MX : Prop := Tryd.prog.follows .mixedOrders = true
abbrev OKS (g : FuncId) (p : List V -> List Obj -> Bool) (S : List V -> List Obj -> Tree) : Prop := Sound Tryd.prog qca g (fun xs obs => cond (p xs obs) (S xs obs).eval none)
theorem soundDigits (hm : MX) : OKS 65 preDigits SDigits :=
 qai (E := EDigits) (N := 40) (keep := false) hm (fun g => qah) Tryd.func65 rfl rfl loopsDigits rfl (by
  intro xs obs out hp h
  unfold SDigits at h
  split at h
  ·refine ⟨by simp [Tryd.f65], ?_⟩
   rw [gDigits_eq]
   exact (nDigits _ hp).trans h
  ·cases h    )
theorem soundDLeap (hm : MX) : OKS 80 preDLeap SDLeap :=
 qai (E := EDLeap) (N := 40) (keep := false) hm (fun g => qah) Tryd.func80 rfl rfl loopsDLeap rfl (by
  intro xs obs out hp h
  unfold SDLeap at h
  split at h
  ·refine ⟨by simp [Tryd.f80], ?_⟩
   rw [gDLeap_eq]
   exact (nDLeap _ _ _ _ _ _ hp).trans h
  ·cases h    )
theorem soundDDays (hm : MX) : OKS 77 preDDays SDDays :=
 qai (E := EDDays) (N := 40) (keep := false) hm (fun g => (qad (soundDLeap hm) qah)) Tryd.func77 rfl rfl loopsDDays rfl (by
  intro xs obs out hp h
  unfold SDDays at h
  split at h
  ·refine ⟨by simp [Tryd.f77], ?_⟩
   rw [gDDays_eq]
   exact (nDDays _ _ _ _ _ _ hp).trans h
  ·cases h    )
theorem soundDFit (hm : MX) : OKS 66 preDFit SDFit :=
 qai (E := EDFit) (N := 40) (keep := false) hm (fun g => (qad (soundDDays hm) qah)) Tryd.func66 rfl rfl loopsDFit rfl (by
  intro xs obs out hp h
  unfold SDFit at h
  split at h
  ·refine ⟨by simp [Tryd.f66], ?_⟩
   rw [gDFit_eq]
   exact (nDFit _ _ _ _ _ _ hp).trans h
  ·cases h    )
theorem soundDSecs (hm : MX) : OKS 67 preDSecs SDSecs :=
 qai (E := EDSecs) (N := 40) (keep := false) hm (fun g => qah) Tryd.func67 rfl rfl loopsDSecs rfl (by
  intro xs obs out hp h
  unfold SDSecs at h
  split at h
  ·refine ⟨by simp [Tryd.f67], ?_⟩
   rw [gDSecs_eq]
   exact (nDSecs _ _ _ _ _ _ hp).trans h
  ·cases h    )
theorem soundSRead (hm : MX) : OKS 50 preSRead SSRead :=
 qai (E := ESRead) (N := 40) (keep := false) hm (fun g => (qad (soundDigits hm) (qad (soundDFit hm) (qad (soundDSecs hm) qah)))) Tryd.func50 rfl rfl loopsSRead rfl (by
  intro xs obs out hp h
  unfold SSRead at h
  split at h
  ·refine ⟨by simp [Tryd.f50], ?_⟩
   rw [gSRead_eq]
   exact (nSRead _ hp).trans h
  ·cases h    )
theorem soundRLeap (hm : MX) : OKS 79 preRLeap SRLeap :=
 qai (E := ERLeap) (N := 40) (keep := false) hm (fun g => qah) Tryd.func79 rfl rfl loopsRLeap rfl (by
  intro xs obs out hp h
  unfold SRLeap at h
  split at h
  ·refine ⟨by simp [Tryd.f79], ?_⟩
   rw [gRLeap_eq]
   exact (nRLeap _ hp).trans h
  ·cases h    )
theorem soundRDays (hm : MX) : OKS 72 preRDays SRDays :=
 qai (E := ERDays) (N := 40) (keep := false) hm (fun g => (qad (soundRLeap hm) qah)) Tryd.func72 rfl rfl loopsRDays rfl (by
  intro xs obs out hp h
  unfold SRDays at h
  split at h
  ·refine ⟨by simp [Tryd.f72], ?_⟩
   rw [gRDays_eq]
   exact (nRDays _ _ hp).trans h
  ·cases h    )
theorem soundRYears (hm : MX) : OKS 73 preRYears SRYears :=
 qai (E := ERYears) (N := 40) (keep := false) hm (fun g => qah) Tryd.func73 rfl rfl loopsRYears rfl (by
  intro xs obs out hp h
  unfold SRYears at h
  split at h
  ·refine ⟨by simp [Tryd.f73], ?_⟩
   rw [gRYears_eq]
   exact (nRYears _ hp).trans h
  ·cases h    )
theorem soundRNumber (hm : MX) : OKS 71 preRNumber SRNumber :=
 qai (E := ERNumber) (N := 40) (keep := false) hm (fun g => qah) Tryd.func71 rfl rfl loopsRNumber rfl (by
  intro xs obs out hp h
  unfold SRNumber at h
  split at h
  ·refine ⟨by simp [Tryd.f71], ?_⟩
   rw [gRNumber_eq]
   exact (nRNumber _ hp).trans h
  ·cases h    )
theorem soundRRead (hm : MX) : OKS 56 preRRead SRRead :=
 qai (E := ERRead) (N := 40) (keep := false) hm (fun g => (qad (soundRNumber hm) (qad (soundRDays hm) (qad (soundRYears hm) qah)))) Tryd.func56 rfl rfl loopsRRead rfl (by
  intro xs obs out hp h
  unfold SRRead at h
  split at h
  ·refine ⟨by simp [Tryd.f56], ?_⟩
   rw [gRRead_eq]
   exact (nRRead _ hp).trans h
  ·cases h    )
theorem qk4 (hm : MX) : OKS 18 qma SDBoxed :=
 qai (E := EDBoxed) (N := 40) (keep := false) hm (fun g => qah) Tryd.func18 rfl rfl loopsDBoxed rfl (by
  intro xs obs out hp h
  unfold SDBoxed at h
  split at h
  ·refine ⟨by simp [Tryd.f18], ?_⟩
   rw [gDBoxed_eq]
   exact (nDBoxed _ hp).trans h
  ·cases h    )
theorem soundRBoxed (hm : MX) : OKS 19 preRBoxed SRBoxed :=
 qai (E := ERBoxed) (N := 40) (keep := false) hm (fun g => qah) Tryd.func19 rfl rfl loopsRBoxed rfl (by
  intro xs obs out hp h
  unfold SRBoxed at h
  split at h
  ·refine ⟨by simp [Tryd.f19], ?_⟩
   rw [gRBoxed_eq]
   exact (nRBoxed _ hp).trans h
  ·cases h    )
theorem soundDKnown (hm : MX) : OKS 31 preDKnown SDKnown :=
 qai (E := EDKnown) (N := 40) (keep := false) hm (fun g => (qad (qk4 hm) qah)) Tryd.func31 rfl rfl loopsDKnown rfl (by
  intro xs obs out hp h
  unfold SDKnown at h
  split at h
  ·refine ⟨by simp [Tryd.f31], ?_⟩
   rw [gDKnown_eq]
   exact (nDKnown _ hp).trans h
  ·cases h    )
theorem soundRTagged (hm : MX) : OKS 36 preRTagged SRTagged :=
 qai (E := ERTagged) (N := 40) (keep := false) hm (fun g => (qad (soundRBoxed hm) qah)) Tryd.func36 rfl rfl loopsRTagged rfl (by
  intro xs obs out hp h
  unfold SRTagged at h
  split at h
  ·refine ⟨by simp [Tryd.f36], ?_⟩
   rw [gRTagged_eq]
   exact (nRTagged _ hp).trans h
  ·cases h    )
theorem qi2 (hm : MX) : OKS 40 qj2 qm8 :=
 qai (E := EDLenSize) (N := 40) (keep := false) hm (fun g => qah) Tryd.func40 rfl rfl loopsDLenSize rfl (by
  intro xs obs out hp h
  unfold qm8 at h
  split at h
  ·refine ⟨by simp [Tryd.f40], ?_⟩
   rw [gDLenSize_eq]
   exact (nDLenSize _ hp).trans h
  ·cases h    )
theorem soundDNumber (hm : MX) : OKS 46 preDNumber SDNumber :=
 qai (E := EDNumber) (N := 40) (keep := false) hm (fun g => qah) Tryd.func46 rfl rfl loopsDNumber rfl (by
  intro xs obs out hp h
  unfold SDNumber at h
  split at h
  ·refine ⟨by simp [Tryd.f46], ?_⟩
   rw [gDNumber_eq]
   exact (nDNumber _ hp).trans h
  ·cases h    )
theorem soundRFitInt (hm : MX) : OKS 52 preRFitInt SRFitInt :=
 qai (E := ERFitInt) (N := 40) (keep := false) hm (fun g => qah) Tryd.func52 rfl rfl loopsRFitInt rfl (by
  intro xs obs out hp h
  unfold SRFitInt at h
  split at h
  ·refine ⟨by simp [Tryd.f52], ?_⟩
   rw [gRFitInt_eq]
   exact (nRFitInt _ hp).trans h
  ·cases h    )
theorem soundDStrip (hm : MX) : OKS 47 preDStrip SDStrip :=
 qai (E := EDStrip) (N := 40) (keep := false) hm (fun g => qah) Tryd.func47 rfl rfl loopsDStrip rfl (by
  intro xs obs out hp h
  unfold SDStrip at h
  split at h
  ·refine ⟨by simp [Tryd.f47], ?_⟩
   rw [gDStrip_eq]
   exact (nDStrip _ hp).trans h
  ·cases h    )
theorem soundRFitBits (hm : MX) : OKS 53 preRFitBits SRFitBits :=
 qai (E := ERFitBits) (N := 40) (keep := false) hm (fun g => qah) Tryd.func53 rfl rfl loopsRFitBits rfl (by
  intro xs obs out hp h
  unfold SRFitBits at h
  split at h
  ·refine ⟨by simp [Tryd.f53], ?_⟩
   rw [gRFitBits_eq]
   exact (nRFitBits _ hp).trans h
  ·cases h    )
theorem soundRCont (hm : MX) : OKS 78 preRCont SRCont :=
 qai (E := ERCont) (N := 40) (keep := false) hm (fun g => qah) Tryd.func78 rfl rfl loopsRCont rfl (by
  intro xs obs out hp h
  unfold SRCont at h
  split at h
  ·refine ⟨by simp [Tryd.f78], ?_⟩
   rw [gRCont_eq]
   exact (nRCont _ _ hp).trans h
  ·cases h    )
theorem soundRRune (hm : MX) : OKS 70 preRRune SRRune :=
 qai (E := ERRune) (N := 40) (keep := false) hm (fun g => (qad (soundRCont hm) qah)) Tryd.func70 rfl rfl loopsRRune rfl (by
  intro xs obs out hp h
  unfold SRRune at h
  split at h
  ·refine ⟨by simp [Tryd.f70], ?_⟩
   rw [gRRune_eq]
   exact (nRRune _ _ hp).trans h
  ·cases h    )
theorem soundRUtf8 (hm : MX) : OKS 55 preRUtf8 SRUtf8 :=
 qai (E := ERUtf8) (N := 40) (keep := false) hm (fun g => (qad (soundRRune hm) qah)) Tryd.func55 rfl rfl loopsRUtf8 rfl (by
  intro xs obs out hp h
  unfold SRUtf8 at h
  split at h
  ·refine ⟨by simp [Tryd.f55], ?_⟩
   rw [gRUtf8_eq]
   exact (nRUtf8 _ hp).trans h
  ·cases h    )
theorem soundOFit (hm : MX) : OKS 63 preOFit SOFit :=
 qai (E := EOFit) (N := 40) (keep := false) hm (fun g => qah) Tryd.func63 rfl rfl loopsOFit rfl (by
  intro xs obs out hp h
  unfold SOFit at h
  split at h
  ·refine ⟨by simp [Tryd.f63], ?_⟩
   rw [gOFit_eq]
   exact (nOFit _ hp).trans h
  ·cases h    )
theorem soundR2Fit (hm : MX) : OKS 69 preR2Fit SR2Fit :=
 qai (E := ER2Fit) (N := 40) (keep := false) hm (fun g => qah) Tryd.func69 rfl rfl loopsR2Fit rfl (by
  intro xs obs out hp h
  unfold SR2Fit at h
  split at h
  ·refine ⟨by simp [Tryd.f69], ?_⟩
   rw [gR2Fit_eq]
   exact (nR2Fit _ hp).trans h
  ·cases h    )
theorem soundR2First (hm : MX) : OKS 68 preR2First SR2First :=
 qai (E := ER2First) (N := 40) (keep := false) hm (fun g => qah) Tryd.func68 rfl rfl loopsR2First rfl (by
  intro xs obs out hp h
  unfold SR2First at h
  split at h
  ·refine ⟨by simp [Tryd.f68], ?_⟩
   rw [gR2First_eq]
   exact (nR2First _ hp).trans h
  ·cases h    )
theorem soundONumber (hm : MX) : OKS 76 preONumber SONumber :=
 qai (E := EONumber) (N := 40) (keep := false) hm (fun g => qah) Tryd.func76 rfl rfl loopsONumber rfl (by
  intro xs obs out hp h
  unfold SONumber at h
  split at h
  ·refine ⟨by simp [Tryd.f76], ?_⟩
   rw [gONumber_eq]
   exact (nONumber _ hp).trans h
  ·cases h    )
theorem soundONumbers (hm : MX) : OKS 62 preONumbers SONumbers :=
 qai (E := EONumbers) (N := 40) (keep := true) hm (fun g => qah) Tryd.func62 rfl rfl loopsONumbers rfl (by
  intro xs obs out hp h
  unfold SONumbers at h
  split at h
  ·refine ⟨by simp [Tryd.f62], ?_⟩
   rw [gONumbers_eq]
   exact (nONumbers _ hp).trans h
  ·cases h    )
theorem seqONums (hm : MX) : ∀ xs obs ys, preONums xs obs = true -> QONums xs obs = some ys -> SeqOk Tryd.prog qca 75 xs obs ys := by
 intro xs obs ys hp h
 unfold QONums at h
 split at h
 ·rename_i b
  cases h
  have hE : ∀ (l : Nat) (g : FuncId), Sound Tryd.prog (EONums l).glob g (ctr (EONums l) g) := fun l g => (qad (soundONumber hm) qah)
  refine seq_sound (N := 40) EONums hE (fun l => qmx (hE l) hm) (fun _ => rfl) (fun _ => rfl) (fun _ => rfl) Tryd.func75 rfl loopsONums (fun _ => rfl) (by decide) rfl fun l => ?_
  obtain ⟨out, h1, h2⟩ := nONums l b hp
  exact ⟨out, (gONums_eq l b).trans h1, h2⟩
 ·cases h
theorem sqOParse (hm : MX) : qjs Tryd.prog EOParse := by
 intro gf xs obs ys hp h
 have h : (cond (Nat.beq gf 75) QONums (fun _ _ => none)) xs obs = some ys := h
 cases hb : Nat.beq gf 75 with
 | false => rw [hb] at h; cases h
 | true =>
  obtain rfl := qaj.1 hb
  exact ⟨seqONums hm xs obs ys hp h, _, Tryd.func75, rfl, rfl⟩
theorem soundOParse (hm : MX) : OKS 48 preOParse SOParse :=
 qai (E := EOParse) (N := 40) (keep := false) hm (fun g => (qad (soundONumbers hm) (qad (soundOFit hm) sound_fail))) Tryd.func48 rfl rfl loopsOParse rfl (hsq := sqOParse hm) (hS := by
  intro xs obs out hp h
  unfold SOParse at h
  split at h
  ·refine ⟨by simp [Tryd.f48], ?_⟩
   rw [gOParse_eq]
   exact (nOParse _ hp).trans h
  ·cases h)
theorem soundR2Parse (hm : MX) : OKS 54 preR2Parse SR2Parse :=
 qai (E := ER2Parse) (N := 40) (keep := false) hm (fun g => (qad (soundR2First hm) (qad (soundR2Fit hm) qah))) Tryd.func54 rfl rfl loopsR2Parse rfl (by
  intro xs obs out hp h
  unfold SR2Parse at h
  split at h
  ·refine ⟨by simp [Tryd.f54], ?_⟩
   rw [gR2Parse_eq]
   exact (nR2Parse _ hp).trans h
  ·cases h    )
theorem qnz (hm : MX) : OKS 15 qqx SR1Same :=
 qai (E := ER1Same) (N := 40) (keep := false) hm (fun g => qah) Tryd.func15 rfl rfl loopsR1Same rfl (by
  intro xs obs out hp h
  unfold SR1Same at h
  split at h
  ·refine ⟨by simp [Tryd.f15], ?_⟩
   rw [gR1Same_eq]
   exact (nR1Same _ _ hp).trans h
  ·cases h    )
theorem soundSClone (hm : MX) : OKS 35 preSClone SSClone :=
 qai (E := ESClone) (N := 40) (keep := false) hm (fun g => qah) Tryd.func35 rfl rfl loopsSClone rfl (by
  intro xs obs out hp h
  unfold SSClone at h
  split at h
  ·refine ⟨by simp [Tryd.f35], ?_⟩
   rw [gSClone_eq]
   exact (nSClone _ hp).trans h
  ·cases h    )
theorem soundR4Less (hm : MX) : OKS 57 preR4Less SR4Less :=
 qai (E := ER4Less) (N := 40) (keep := false) hm (fun g => qah) Tryd.func57 rfl rfl loopsR4Less rfl (by
  intro xs obs out hp h
  unfold SR4Less at h
  split at h
  ·refine ⟨by simp [Tryd.f57], ?_⟩
   rw [gR4Less_eq]
   exact (nR4Less _ _ hp).trans h
  ·cases h    )
theorem soundUWord (hm : MX) : OKS 64 preUWord SUWord :=
 qai (E := EUWord) (N := 40) (keep := false) hm (fun g => qah) Tryd.func64 rfl rfl loopsUWord rfl (by
  intro xs obs out hp h
  unfold SUWord at h
  split at h
  ·refine ⟨by simp [Tryd.f64], ?_⟩
   rw [gUWord_eq]
   exact (nUWord _ hp).trans h
  ·cases h    )
theorem soundUValid (hm : MX) : OKS 49 preUValid SUValid :=
 qai (E := EUValid) (N := 40) (keep := false) hm (fun g => (qad (soundUWord hm) qah)) Tryd.func49 rfl rfl loopsUValid rfl (by
  intro xs obs out hp h
  unfold SUValid at h
  split at h
  ·refine ⟨by simp [Tryd.f49], ?_⟩
   rw [gUValid_eq]
   exact (nUValid _ hp).trans h
  ·cases h    )
theorem soundRRSame (hm : MX) : ∀ rk, OKS 11 (qnx rk) SRSame
 | 0 => qer fun xs obs h => by
  unfold qnx at h
  split at h
  ·simp only [Bool.and_eq_true] at h
   have := qqm h.1
   simp [isNf] at this
  ·cases h
 | rk + 1 => qai (E := ERSame rk) (N := 40) (keep := false) hm (fun g => (qad (soundRRSame hm rk) (qad (qnz hm) qah))) Tryd.func11 rfl rfl (loopsRSame rk) rfl (by
  intro xs obs out hp h
  have hp : qnx (rk + 1) xs obs = true := hp
  have hp0 := hp
  unfold qnx at hp
  split at hp
  ·rename_i a b
   simp only [Bool.and_eq_true] at hp
   obtain ⟨_, ta, ba, ka, _, rfl, _⟩ := nd_inv (qqm hp.1)
   obtain ⟨_, hn⟩ := isN_spec hp.2
   obtain ⟨_, tb, bb, kb, _, rfl, _⟩ := nd_inv hn
   refine ⟨by simp [Tryd.f11], ?_⟩
   rw [gRSame_eq]
   exact (nRSame rk ta ba ka tb bb kb hp0).trans h
  ·cases hp)
theorem soundRSame (hm : MX) : OKS 11 preRSame SRSame :=
 qdy (fun rk => soundRRSame hm rk) fun xs obs h => by
  unfold preRSame at h
  split at h
  ·rename_i a b
   simp only [Bool.and_eq_true] at h
   obtain ⟨n, hn⟩ := isN_spec h.1
   refine ⟨n, ?_⟩
   show (isNr n a && isN b) = true
   rw [isNr_of hn, h.2]
   rfl
  ·cases h
theorem soundDFits (hm : MX) : OKS 34 preDFits SDFits :=
 qai (E := EDFits) (N := 40) (keep := false) hm (fun g => (qad (soundDNumber hm) (qad (soundDStrip hm) (qad (soundOParse hm) (qad (soundUValid hm) (qad (soundSRead hm) qah)))))) Tryd.func34 rfl rfl loopsDFits rfl (by
  intro xs obs out hp h
  unfold SDFits at h
  split at h
  ·refine ⟨by simp [Tryd.f34], ?_⟩
   rw [gDFits_eq]
   exact (nDFits _ _ hp).trans h
  ·cases h    )
theorem soundRFits (hm : MX) : OKS 38 preRFits SRFits :=
 qai (E := ERFits) (N := 40) (keep := false) hm (fun g => (qad (soundRFitInt hm) (qad (soundRFitBits hm) (qad (soundR2Parse hm) (qad (soundRUtf8 hm) (qad (soundRRead hm) qah)))))) Tryd.func38 rfl rfl loopsRFits rfl (by
  intro xs obs out hp h
  unfold SRFits at h
  split at h
  ·refine ⟨by simp [Tryd.f38], ?_⟩
   rw [gRFits_eq]
   exact (nRFits _ _ hp).trans h
  ·cases h    )
theorem soundR4Sorted (hm : MX) : OKS 39 preR4Sorted SR4Sorted :=
 qai (E := ER4Sorted) (N := 40) (keep := false) hm (fun g => (qad (soundR4Less hm) qah)) Tryd.func39 rfl rfl loopsR4Sorted rfl (by
  intro xs obs out hp h
  unfold SR4Sorted at h
  split at h
  ·refine ⟨by simp [Tryd.f39], ?_⟩
   rw [gR4Sorted_eq]
   exact (nR4Sorted _ hp).trans h
  ·cases h    )
theorem soundBCompare (hm : MX) : OKS 60 preBCompare SBCompare :=
 qai (E := EBCompare) (N := 40) (keep := false) hm (fun g => (qad (soundBACompare hm) qah)) Tryd.func60 rfl rfl loopsBCompare rfl (by
  intro xs obs out hp h
  unfold SBCompare at h
  split at h
  ·refine ⟨by simp [Tryd.f60], ?_⟩
   rw [gBCompare_eq]
   exact (nBCompare _ _ hp).trans h
  ·cases h    )
theorem soundOLess (hm : MX) : OKS 59 preOLess SOLess :=
 qai (E := EOLess) (N := 40) (keep := false) hm (fun g => (qad (soundBCompare hm) qah)) Tryd.func59 rfl rfl loopsOLess rfl (by
  intro xs obs out hp h
  unfold SOLess at h
  split at h
  ·refine ⟨by simp [Tryd.f59], ?_⟩
   rw [gOLess_eq]
   exact (nOLess _ _ hp).trans h
  ·cases h    )
theorem soundOSteps (hm : MX) : OKS 58 preOSteps SOSteps :=
 qai (E := EOSteps) (N := 40) (keep := false) hm (fun g => (qad (soundOLess hm) qah)) Tryd.func58 rfl rfl loopsOSteps rfl (by
  intro xs obs out hp h
  unfold SOSteps at h
  split at h
  ·refine ⟨by simp [Tryd.f58], ?_⟩
   rw [gOSteps_eq]
   exact (nOSteps _ hp).trans h
  ·cases h    )
theorem soundOSorted (hm : MX) : OKS 42 qse SOSorted :=
 qai (E := EOSorted) (N := 40) (keep := false) hm (fun g => (qad (soundOSteps hm) (qad (soundOLess hm) qah))) Tryd.func42 rfl rfl loopsOSorted rfl (by
  intro xs obs out hp h
  unfold SOSorted at h
  split at h
  ·refine ⟨by simp [Tryd.f42], ?_⟩
   rw [gOSorted_eq]
   exact (nOSorted _ hp).trans h
  ·cases h    )
theorem qi8 (hm : MX) : OKS 23 qoj SDMust :=
 qai (E := EDMust) (N := 40) (keep := false) hm (fun g => qah) Tryd.func23 rfl rfl loopsDMust rfl (by
  intro xs obs out hp h
  unfold SDMust at h
  split at h
  ·refine ⟨by simp [Tryd.f23], ?_⟩
   rw [gDMust_0_eq]
   exact (nDMust_0 _ hp).trans h
  ·refine ⟨by simp [Tryd.f23], ?_⟩
   rw [gDMust_1_eq]
   exact (nDMust_1 _ hp).trans h
  ·cases h    )
theorem soundDNext (hm : MX) : OKS 30 preDNext SDNext :=
 qai (E := EDNext) (N := 40) (keep := false) hm (fun g => (qad (qi8 hm) qah)) Tryd.func30 rfl rfl loopsDNext rfl (by
  intro xs obs out hp h
  unfold SDNext at h
  split at h
  ·refine ⟨by simp [Tryd.f30], ?_⟩
   rw [gDNext_eq]
   exact (nDNext _ _ hp).trans h
  ·cases h    )
theorem soundDLength (hm : MX) : OKS 32 preDLength SDLength :=
 qai (E := EDLength) (N := 40) (keep := false) hm (fun g => (qad (qi8 hm) (qad (soundDNext hm) (qad (qi2 hm) qah)))) Tryd.func32 rfl rfl loopsDLength rfl (by
  intro xs obs out hp h
  unfold SDLength at h
  split at h
  ·refine ⟨by simp [Tryd.f32], ?_⟩
   rw [gDLength_eq]
   exact (nDLength _ _ hp).trans h
  ·cases h    )
theorem soundRDParts (hm : MX) (rk : Nat) (hV : OKS 22 (qjf rk) SDValue) : OKS 33 (preRDParts rk) SDParts :=
 qai (E := EDParts rk) (N := 40) (keep := false) hm (fun g => (qad (hV) (qad (qi8 hm) (qad (soundOSorted hm) qah)))) Tryd.func33 rfl rfl (loopsDParts rk) rfl (by
  intro xs obs out hp h
  unfold SDParts at h
  split at h
  ·refine ⟨by simp [Tryd.f33], ?_⟩
   rw [gDParts_eq]
   exact (nDParts rk _ _ _ _ hp).trans h
  ·cases h)
theorem soundRDValue (hm : MX) (rk : Nat) (hP : OKS 33 (preRDParts rk) SDParts) : OKS 22 (qjf (rk + 1)) SDValue :=
 qai (E := EDValue rk) (N := 40) (keep := false) hm (fun g => (qad (qk4 hm) (qad (qi8 hm) (qad (soundDNext hm) (qad (soundDKnown hm) (qad (soundDLength hm) (qad (hP) (qad (soundDFits hm) (qad (soundSClone hm) qah))))))))) Tryd.func22 rfl rfl (loopsDValue rk) rfl (by
  intro xs obs out hp h
  unfold SDValue at h
  split at h
  ·refine ⟨by simp [Tryd.f22], ?_⟩
   rw [gDValue_eq]
   exact (nDValue rk _ _ hp).trans h
  ·cases h)
theorem soundRV (hm : MX) : ∀ rk, OKS 22 (qjf rk) SDValue
 | 0 => qer fun xs obs h => by
  unfold qjf at h
  split at h
  ·simp at h
  ·cases h
 | rk + 1 => soundRDValue hm rk (soundRDParts hm rk (soundRV hm rk))
theorem soundDValue (hm : MX) : OKS 22 preDValue SDValue :=
 qdy (fun rk => soundRV hm rk) fun xs obs h => by
  unfold preDValue at h
  split at h
  ·rename_i l d
   simp only [Bool.and_eq_true] at h
   refine ⟨d.toNat + 1, ?_⟩
   show (qac l && (qb9 d && decide (d.toNat < d.toNat + 1))) = true
   simp only [Bool.and_eq_true, decide_eq_true_eq]
   exact ⟨h.1, h.2, by omega⟩
  ·cases h
theorem catDParse (hm : MX) : DSound Tryd.prog qca 21 (fun m xs obs => cond (preDDCatch m xs obs) (DDCatch m xs obs) none) := by
 have hE : ∀ g, Sound Tryd.prog EDCatch.glob g (ctr EDCatch g) := fun g => qah
 refine rec_sound (E := EDCatch) (N := 40) hE (sq_none rfl) rfl (qmx hE hm) rfl Tryd.func21 loopsDCatch rfl ?_
 intro m xs obs out h
 obtain ⟨hp, h⟩ := qaa h
 unfold DDCatch at h
 split at h
 ·refine ⟨by simp [Tryd.f21], ?_⟩
  rw [gDCatch_0_eq]
  exact h
 ·refine ⟨by simp [Tryd.f21], ?_⟩
  rw [gDCatch_1_eq]
  exact h
 ·refine ⟨by simp [Tryd.f21], ?_⟩
  rw [gDCatch_2_eq]
  exact h
 ·cases h
theorem soundDParse (hm : MX) : OKS 9 preDParse SDParse := by
 have hE : ∀ g, Sound Tryd.prog EDParse.glob g (ctr EDParse g) := fun g => (qad (soundDValue hm) (qad (qi8 hm) qah))
 refine bodyD_sound (E := EDParse) (D := DEDParse) (N := 40) (keep := false) hE (sq_none rfl) (qmx hE hm) (fun g => ?_) (fun g m xs obs out h => ?_) rfl Tryd.func9 rfl rfl rfl loopsDParse rfl (fun xs obs out h => ?_)
 ·show DSound Tryd.prog qca g fun m xs obs => cond ((cond (Nat.beq g 21) preDDCatch (fun _ _ _ => false)) m xs obs) ((cond (Nat.beq g 21) DDCatch (fun _ _ _ => none)) m xs obs) none
  cases hb : Nat.beq g 21 with
  | true => obtain rfl := qaj.1 hb; exact catDParse hm
  | false => intro m xs obs out w Im ρ bl vs u h; cases h
 ·have h : (cond (Nat.beq g 21) DDCatch (fun _ _ _ => none)) m xs obs = some out := h
  cases hb : Nat.beq g 21 with
  | true => obtain rfl := qaj.1 hb; exact ⟨_, Tryd.func21, rfl, rfl⟩
  | false => rw [hb] at h; cases h
 ·obtain ⟨hp, h⟩ := qaa h
  unfold SDParse at h
  split at h
  ·refine ⟨by simp [Tryd.f9], ?_⟩
   rw [gDParse_eq]
   exact (nDParse _ hp).trans h
  ·cases h
theorem soundLAwake (hm : MX) : OKS 8 preLAwake SLAwake :=
 qai (E := ELAwake) (N := 40) (keep := false) hm (fun g => (qad (soundDParse hm) (qad (qnz hm) qah))) Tryd.func8 rfl rfl loopsLAwake rfl (by
  intro xs obs out hp h
  unfold SLAwake at h
  split at h
  ·refine ⟨by simp [Tryd.f8], ?_⟩
   rw [gLAwake_eq]
   exact (nLAwake hp).trans h
  ·cases h    )
theorem qrs (hm : MX) : ∀ rk, OKS 12 (qfz rk) SRSmall
 | 0 => qer fun xs obs h => by
  unfold qfz at h
  split at h
  ·simp only [Bool.and_eq_true] at h; have := isTr_spec h.1; simp [isTf] at this
  ·cases h
 | rk + 1 => qai (E := ERSmall rk) (N := 40) (keep := false) hm (fun g => (qad (qrs hm rk) qah)) Tryd.func12 rfl rfl (loopsRSmall rk) rfl (by
  intro xs obs out hq h
  have hp : qfz (rk + 1) xs obs = true := hq
  have hp0 : qfz (rk + 1) xs obs = true := hq
  clear hq
  unfold qfz at hp
  split at hp
  ·rename_i a n
   try simp only [Bool.and_eq_true] at hp
   have ha := isTr_spec hp.1
   obtain ⟨_, ta, ba, ka, _, rfl, _⟩ := qcu ha
   refine ⟨by simp [Tryd.f12], ?_⟩
   rw [gRSmall_eq]
   exact (nRSmall rk ta ba ka n hp0).trans h
  ·cases hp)
theorem soundRSmall (hm : MX) : OKS 12 preRSmall SRSmall :=
 qdy (fun rk => qrs hm rk) fun xs obs h => by
  unfold preRSmall at h
  split at h
  ·rename_i a n
   simp only [Bool.and_eq_true] at h
   obtain ⟨n', hn⟩ := isT_spec h.1
   refine ⟨n', ?_⟩
   show (isTr n' a && qmp n) = true
   rw [isTr_of hn, h.2]; rfl
  ·cases h
theorem soundRDSize (hm : MX) : ∀ rk, OKS 25 (qk0 rk) SDSize
 | 0 => qer fun xs obs h => by
  unfold qk0 at h
  split at h
  ·simp only [Bool.and_eq_true] at h; have := (qka h.1).1; simp [isTf] at this
  ·cases h
 | rk + 1 => qai (E := EDSize rk) (N := 40) (keep := false) hm (fun g => (qad (qk4 hm) (qad (soundRDSize hm rk) (qad (soundDKnown hm) (qad (soundDFits hm) (qad (qi2 hm) qah)))))) Tryd.func25 rfl rfl (loopsDSize rk) rfl (by
  intro xs obs out hq h
  have hp : qk0 (rk + 1) xs obs = true := hq
  have hp0 : qk0 (rk + 1) xs obs = true := hq
  clear hq
  unfold qk0 at hp
  split at hp
  ·rename_i a n
   try simp only [Bool.and_eq_true] at hp
   have ha := (qka hp.1).1
   obtain ⟨_, ta, ba, ka, _, rfl, _⟩ := qcu ha
   refine ⟨by simp [Tryd.f25], ?_⟩
   rw [gDSize_eq]
   exact (nDSize rk ta ba ka n hp0).trans h
  ·cases hp)
theorem soundDSize (hm : MX) : OKS 25 preDSize SDSize :=
 qdy (fun rk => soundRDSize hm rk) fun xs obs h => by
  unfold preDSize at h
  split at h
  ·rename_i a n
   simp only [Bool.and_eq_true] at h
   obtain ⟨n', hn, hb⟩ := qec h.1
   refine ⟨n', ?_⟩
   show (isSr n' a && qb9 n) = true
   rw [isSr_of hn hb, h.2]; rfl
  ·cases h
theorem soundDPut (hm : MX) : OKS 41 preDPut SDPut :=
 qai (E := EDPut) (N := 40) (keep := true) hm (fun g => (qad (qi2 hm) qah)) Tryd.func41 rfl rfl loopsDPut rfl (by
  intro xs obs out hp h
  unfold SDPut at h
  split at h
  ·refine ⟨by simp [Tryd.f41], ?_⟩
   rw [gDPut_eq]
   exact (nDPut _ _ hp).trans h
  ·cases h    )
theorem soundRHead (hm : MX) : OKS 44 preRHead SRHead :=
 qai (E := ERHead) (N := 40) (keep := true) hm (fun g => qah) Tryd.func44 rfl rfl loopsRHead rfl (by
  intro xs obs out hp h
  unfold SRHead at h
  split at h
  ·refine ⟨by simp [Tryd.f44], ?_⟩
   rw [gRHead_eq]
   exact (nRHead _ _ hp).trans h
  ·cases h    )
theorem soundR1Join (hm : MX) : OKS 45 preR1Join SR1Join :=
 qai (E := ER1Join) (N := 40) (keep := false) hm (fun g => qah) Tryd.func45 rfl rfl loopsR1Join rfl (by
  intro xs obs out hp h
  unfold SR1Join at h
  split at h
  ·refine ⟨by simp [Tryd.f45], ?_⟩
   rw [gR1Join_eq]
   exact (nR1Join _ hp).trans h
  ·cases h    )
theorem soundSConcat (hm : MX) : OKS 43 preSConcat SSConcat :=
 qai (E := ESConcat) (N := 40) (keep := false) hm (fun g => (qad (soundSGrow hm) qah)) Tryd.func43 rfl rfl loopsSConcat rfl (by
  intro xs obs out hp h
  unfold SSConcat at h
  split at h
  ·refine ⟨by simp [Tryd.f43], ?_⟩
   rw [gSConcat_eq]
   exact (nSConcat _ hp).trans h
  ·cases h    )
theorem soundRDWrite (hm : MX) : ∀ rk, OKS 26 (qf2 rk) SDWrite
 | 0 => qer fun xs obs h => by
  unfold qf2 at h
  split at h
  ·have := (isWr_spec h).1; simp [isTf] at this
  ·cases h
 | rk + 1 => qai (E := EDWrite rk) (N := 40) (keep := false) hm (fun g => (qad (qk4 hm) (qad (soundRDWrite hm rk) (qad (soundDPut hm) (qad (soundOSorted hm) (qad (soundSConcat hm) qah)))))) Tryd.func26 rfl rfl (loopsDWrite rk) rfl (by
  intro xs obs out hq h
  have hp : qf2 (rk + 1) xs obs = true := hq
  have hp0 : qf2 (rk + 1) xs obs = true := hq
  clear hq
  unfold qf2 at hp
  split at hp
  ·rename_i a
   try simp only [Bool.and_eq_true] at hp
   have ha := (isWr_spec hp).1
   obtain ⟨_, ta, ba, ka, _, rfl, _⟩ := qcu ha
   refine ⟨by simp [Tryd.f26], ?_⟩
   rw [gDWrite_eq]
   exact (nDWrite rk ta ba ka hp0).trans h
  ·cases hp)
theorem soundDWrite (hm : MX) : OKS 26 preDWrite SDWrite :=
 qdy (fun rk => soundRDWrite hm rk) fun xs obs h => by
  unfold preDWrite at h
  split at h
  ·rename_i a
   unfold isW at h
   rw [qae] at h
   obtain ⟨n, hn⟩ := @of_decide_eq_true _ (Classical.propDecidable _) h
   exact ⟨n, isWr_of hn⟩
  ·cases h
theorem qsj (hm : MX) : ∀ rk, OKS 27 (qf5 rk) SRWrite
 | 0 => qer fun xs obs h => by
  unfold qf5 at h
  split at h
  ·simp only [Bool.and_eq_true] at h; have := (qka h.1).1; simp [isTf] at this
  ·cases h
 | rk + 1 => qai (E := ERWrite rk) (N := 40) (keep := false) hm (fun g => (qad (soundRBoxed hm) (qad (qsj hm rk) (qad (soundRTagged hm) (qad (soundRFits hm) (qad (soundR4Sorted hm) (qad (soundRHead hm) (qad (soundR1Join hm) qah)))))))) Tryd.func27 rfl rfl (loopsRWrite rk) rfl (by
  intro xs obs out hq h
  have hp : qf5 (rk + 1) xs obs = true := hq
  have hp0 : qf5 (rk + 1) xs obs = true := hq
  clear hq
  unfold qf5 at hp
  split at hp
  ·rename_i a n
   try simp only [Bool.and_eq_true] at hp
   have ha := (qka hp.1).1
   obtain ⟨_, ta, ba, ka, _, rfl, _⟩ := qcu ha
   refine ⟨by simp [Tryd.f27], ?_⟩
   rw [gRWrite_eq]
   exact (nRWrite rk ta ba ka n hp0).trans h
  ·cases hp)
theorem soundRWrite (hm : MX) : OKS 27 preRWrite SRWrite :=
 qdy (fun rk => qsj hm rk) fun xs obs h => by
  unfold preRWrite at h
  split at h
  ·rename_i a n
   simp only [Bool.and_eq_true] at h
   obtain ⟨n', hn, hb⟩ := qec h.1
   refine ⟨n', ?_⟩
   show (isSr n' a && qb9 n) = true
   rw [isSr_of hn hb, h.2]; rfl
  ·cases h
theorem soundDBytes (hm : MX) : OKS 14 qmd SDBytes :=
 qai (E := EDBytes) (N := 40) (keep := false) hm (fun g => (qad (soundDSize hm) (qad (soundDWrite hm) qah))) Tryd.func14 rfl rfl loopsDBytes rfl (by
  intro xs obs out hq h
  have hp : qmd xs obs = true := hq
  have hp0 : qmd xs obs = true := hq
  clear hq
  unfold qmd at hp
  split at hp
  ·rename_i a
   try simp only [Bool.and_eq_true] at hp
   obtain ⟨_, ha, _⟩ := qec hp
   obtain ⟨_, ta, ba, ka, _, rfl, _⟩ := qcu ha
   refine ⟨by simp [Tryd.f14], ?_⟩
   rw [gDBytes_eq]
   exact (nDBytes ta ba ka hp0).trans h
  ·cases hp)
theorem soundRBytes (hm : MX) : OKS 17 qm6 SRBytes :=
 qai (E := ERBytes) (N := 40) (keep := false) hm (fun g => (qad (soundRWrite hm) qah)) Tryd.func17 rfl rfl loopsRBytes rfl (by
  intro xs obs out hq h
  have hp : qm6 xs obs = true := hq
  have hp0 : qm6 xs obs = true := hq
  clear hq
  unfold qm6 at hp
  split at hp
  ·rename_i a
   try simp only [Bool.and_eq_true] at hp
   obtain ⟨_, ha, _⟩ := qec hp
   obtain ⟨_, ta, ba, ka, _, rfl, _⟩ := qcu ha
   refine ⟨by simp [Tryd.f17], ?_⟩
   rw [gRBytes_eq]
   exact (nRBytes ta ba ka hp0).trans h
  ·cases hp)
theorem soundRFit_ (hm : MX) : OKS 13 preRFit_ SRFit_ :=
 qai (E := ERFit_) (N := 40) (keep := false) hm (fun g => (qad (soundRBytes hm) qah)) Tryd.func13 rfl rfl loopsRFit_ rfl (by
  intro xs obs out hq h
  have hp : preRFit_ xs obs = true := hq
  have hp0 : preRFit_ xs obs = true := hq
  clear hq
  unfold preRFit_ at hp
  split at hp
  ·rename_i a
   try simp only [Bool.and_eq_true] at hp
   obtain ⟨_, ha, _⟩ := qec hp
   obtain ⟨_, ta, ba, ka, _, rfl, _⟩ := qcu ha
   refine ⟨by simp [Tryd.f13], ?_⟩
   rw [gRFit__eq]
   exact (nRFit_ ta ba ka hp0).trans h
  ·cases hp)
theorem soundLAll (hm : MX) : OKS 5 preLAll SLAll :=
 qai (E := ELAll) (N := 40) (keep := false) hm (fun g => (qad (soundLAwake hm) (qad (soundDParse hm) (qad (soundRSame hm) (qad (soundRSmall hm) (qad (soundRFit_ hm) (qad (soundDBytes hm) (qad (qnz hm) qah)))))))) Tryd.func5 rfl rfl loopsLAll rfl (by
  intro xs obs out hq h
  have hp : preLAll xs obs = true := hq
  have hp0 : preLAll xs obs = true := hq
  clear hq
  unfold preLAll at hp
  split at hp
  ·rename_i a b n l
   try simp only [Bool.and_eq_true] at hp
   obtain ⟨_, ha⟩ := isT_spec hp.1.1
   obtain ⟨_, ta, ba, ka, _, rfl, _⟩ := qcu ha
   obtain ⟨_, hb⟩ := isT_spec hp.1.2
   obtain ⟨_, tb, bb, kb, _, rfl, _⟩ := qcu hb
   refine ⟨by simp [Tryd.f5], ?_⟩
   rw [gLAll_eq]
   exact (nLAll ta ba ka tb bb kb n l hp0).trans h
  ·cases hp)
end Go.Proofs.YtbgkadaidhgggaaDoorA

namespace Go.Proofs.YtbgkadaidhgggaaDoorA
open Go.ChangeShapes Go.WideShapes Go.ChangeAt Go.RowKit

/-- nothing that was there has turned, block by block -/
def Still (W W' : World) : Prop := Stays W W' /\ ∀ b : Nat, b < W.heap.size -> W'.heap[b]? = W.heap[b]?

theorem law_preG {glob : Nat -> Option CV} {W : World} {xs : List V} {vs : List Value} (hg : ∀ g c, glob g = some c -> CRep W (fun b => b < W.heap.size) (.vp c 0 0) (.pointer (some ⟨g, 0, none⟩))) (h : RepL W (fun b => b < W.heap.size) (fun _ => none) (fun _ => none) xs vs) : Pre glob W (fun b => b < W.heap.size) (fun _ => none) (fun _ => False) xs [] vs := by
 refine ⟨by simp, h, ⟨fun b hb => hb, fun b hb => hb, fun p o hp => (by cases hp), fun p q o o' b x y x' y' hp => (by cases hp), fun p o b x y hp => (by cases hp), fun b hb => .inl hb⟩, hg⟩

theorem law_callsG {glob : Nat -> Option CV} {P : Program} {g : FuncId} {fn : Func} {S : FSpec} (hs : Sound P glob g S) (hf : P.funcs[g]? = some fn) (hn : (fn.name == "runtime.NumGoroutine") = false) (hb : fn.body.isSome = true) {xs : List V} {vs : List Value} {W : World}
  (hg : ∀ g c, glob g = some c -> CRep W (fun b => b < W.heap.size) (.vp c 0 0) (.pointer (some ⟨g, 0, none⟩)))
  (hS : S xs [] = some (.ret [.cl (.bool true)] [])) (h : RepL W (fun b => b < W.heap.size) (fun _ => none) (fun _ => none) xs vs) : Calls P g vs.toArray W fun e W' => e = .returned (.bool true) /\ Still W W' := by
 have hr := hs xs [] _ W _ _ _ vs hS (law_preG hg h)
 have key : ∀ e W', Ends W (fun b => b < W.heap.size) (fun _ => none) (fun _ => False) [] (.ret [.cl (.bool true)] []) e W' -> e = .returned (.bool true) /\ Still W W' := fun e W' he => by
  obtain ⟨us, Im', ρ', rfl, hp, hl, hv⟩ := he
  refine ⟨?_, left_of hp.fr, fun b hb => hp.fr.block b hb fun f => f⟩
  match us, hl with
  | [u], _ =>
   have := hv 0 _ u rfl rfl
   have := this.bool
   rw [this]
   rfl
 rcases hr with ⟨_, hc⟩ | ⟨v, w', h1, _⟩
 ·exact hc.mono fun e W' he => key e W' he
 ·exfalso
  obtain ⟨c, hc⟩ := Option.isSome_iff_exists.1 hb
  have hn' : ¬ fn.name = "runtime.NumGoroutine" := by simpa using hn
  simp [callFunc, hf, hn', hc] at h1

/-! ### data that stay -/
theorem still_same {W W' : World} (h : Still W W') {p : MemPlace} (hp : p.block < W.heap.size) : W.sameAt W' p := by
 cases p with
 | cell b o =>
  show W'.cell? ⟨b, o, none⟩ = W.cell? ⟨b, o, none⟩
  unfold World.cell?
  rw [h.2 b hp]
 | map b => exact h.2 b hp

section
variable {H : Type} {enc : TypeId × Value -> H} {P : Program}
theorem qpg {W W' : World} (hl : laidOutB P = true) {sp : Nat -> Bool} : ∀ {ts : List TypeId} {vs : List Value} {ds : List (DataW H)} {ps : List MemPlace}, (∀ t ∈ ts, P.readableRec t = true /\ t < P.types.size) -> DataW.TrodAll enc P W 0 (fun _ => true) true ts vs ds ps -> (∀ p ∈ ps, W.sameAt W' p) -> (∀ p ∈ ps, sp p.block = true) -> DataW.TrodAll enc P W' 0 sp true ts vs ds ps
 | [], vs, ds, ps, _, h, _, _ => by
  obtain ⟨rfl, rfl, rfl⟩ := trodAll_nil h
  exact trodAll_mk0
 | t :: ts, vs, ds, ps, ht, h, hs, hp => by
  obtain ⟨v, vs', d, ds', p, q, rfl, rfl, rfl, h1, h2⟩ := trodAll_cons h
  refine trodAll_cons_mk (WideElems.Trod_stays hl (ht t (by simp)).1 (ht t (by simp)).2 h1 (fun x hx => hs x (by simp [hx])) fun x hx => hp x (by simp [hx])) (qpg hl (fun t' ht' => ht t' (by simp [ht'])) h2 (fun x hx => hs x (by simp [hx])) fun x hx => hp x (by simp [hx]))

/-! ### what came in -/
theorem cell_lt {W : World} {a : Addr} {v : Value} (h : W.cell? a = some v) : a.block < W.heap.size := by
 unfold World.cell? at h
 split at h
 ·rename_i h1
  exact (Array.getElem?_eq_some_iff.1 h1).1
 ·cases h
/-- a slice of numbers that came in -/
theorem open_sli {W : World} {b0 : Nat} {t e : TypeId} {k : IntKind} {v : Value} {d : DataW H} {ps : List MemPlace} (ht : P.underlying t = some (.slice e)) (he : P.underlying e = some (.int k)) (hc : P.cellsOf e = 1)
  (hval : Value.okWide P W .any b0 t v) (h : DataW.Trod enc P W 0 (fun _ => true) true t v d ps) : ∃ l : List Int, CRep W (fun b => b < W.heap.size) (.sli k l) v /\ ∀ n ∈ l, (Lit.int k n).wf = true := by
 obtain ⟨a0, len0, cap0, rfl⟩ := okWide_slice ht hval
 obtain ⟨n, h⟩ := h
 rcases open_ints ht he hc h with ⟨hcs, _⟩ | ⟨a, len, cap, zs, hcs, _, hl, _, hz, _, hcell, hw⟩
 ·have hcs : [Value.slice a0 len0 cap0] = [.slice none 0 0] := hcs
  simp only [List.cons.injEq, Value.slice.injEq, and_true] at hcs
  obtain ⟨rfl, rfl, rfl⟩ := hcs
  exact ⟨[], .sli _ _ _ _ _ rfl (Nat.le_refl _) fun i n hi => by simp at hi, fun n hn => by simp at hn⟩
 ·have hcs : [Value.slice a0 len0 cap0] = [.slice (some a) len cap] := hcs
  simp only [List.cons.injEq, Value.slice.injEq, and_true] at hcs
  obtain ⟨rfl, rfl, rfl⟩ := hcs
  have hz : zs.length = cap0 := hz
  refine ⟨zs.take len0, .sli _ _ _ _ _ (by simp; omega) hl fun i n hi => ?_, fun n hn => hw n (List.mem_of_mem_take hn)⟩
  rw [List.getElem?_take] at hi
  split at hi
  ·rename_i hlt
   have hlz : i < zs.length := by omega
   have hx := hcell i hlz
   have e : zs.getD i 0 = n := by rw [List.getD_eq_getElem?_getD, hi]; rfl
   rw [e] at hx
   have := cell_lt hx
   rw [qfg] at this
   exact ⟨a, rfl, this, hx⟩
  ·cases hi
end

/-! ### the tables -/
theorem first_vp {W : World} (h : ∀ (i : Nat) (x : Int), qfs[i]? = some x -> W.cell? ⟨0, i, none⟩ = some (.int .u8 x)) : CRep W (fun b => b < W.heap.size) (.vp (.aggi 256 .u8 u8First) 0 0) (.pointer (some ⟨0, 0, none⟩)) := by
 have e : u8First = qfs := qae _
 rw [e]
 have h0 := cell_lt (h 0 240 rfl)
 refine CRep.vp (.aggi 256 .u8 qfs) 0 0 1 (qfs.map (.int .u8)) 0 0 (fun i => .int .u8 (qfs.getD i 0)) rfl rfl h0 (fun j c hj => ?_) (fun j c hj => rfl) (fun j c hj => ?_)
 ·rw [List.getElem?_map] at hj
  obtain ⟨x, hx, rfl⟩ := Option.map_eq_some_iff.1 hj
  rw [Nat.zero_add, h j x hx, List.getD_eq_getElem?_getD, hx]
  rfl
 ·rw [List.getElem?_map] at hj
  obtain ⟨x, hx, rfl⟩ := Option.map_eq_some_iff.1 hj
  rw [List.getD_eq_getElem?_getD, hx]
  exact .int ..
def qf3 : List Int := [128, 191, 160, 191, 128, 159, 144, 191, 128, 143] ++ List.replicate 22 0
theorem accept_vp {W : World} (h : ∀ (i : Nat) (x : Int), qf3[i]? = some x -> W.cell? ⟨1, i, none⟩ = some (.int .u8 x)) : CRep W (fun b => b < W.heap.size) (.vp (.agga 16 2 u8Accept) 0 0) (.pointer (some ⟨1, 0, none⟩)) := by
 have e : u8Accept = qj9 := qae _
 rw [e]
 have h0 := cell_lt (h 0 128 rfl)
 have ef : qj9.flatMap cell1 = qf3.map (.int .u8) := rfl
 refine CRep.vp (.agga 16 2 qj9) 0 0 2 (qf3.map (.int .u8)) 1 0 (fun i => .int .u8 (qf3.getD i 0)) (by rw [<- ef]; rfl) ⟨rfl, fun c hc => ?_⟩ h0 (fun j c hj => ?_) (fun j c hj => rfl) (fun j c hj => ?_)
 ·unfold qj9 at hc
  obtain ⟨p, _, rfl⟩ := List.mem_map.1 hc
  rfl
 ·rw [List.getElem?_map] at hj
  obtain ⟨x, hx, rfl⟩ := Option.map_eq_some_iff.1 hj
  rw [Nat.zero_add, h j x hx, List.getD_eq_getElem?_getD, hx]
  rfl
 ·rw [List.getElem?_map] at hj
  obtain ⟨x, hx, rfl⟩ := Option.map_eq_some_iff.1 hj
  rw [List.getD_eq_getElem?_getD, hx]
  exact .int ..
def acceptD : DataW Unit := .agg [.agg [.lit (.int .u8 128), .lit (.int .u8 191)], .agg [.lit (.int .u8 160), .lit (.int .u8 191)], .agg [.lit (.int .u8 128), .lit (.int .u8 159)], .agg [.lit (.int .u8 144), .lit (.int .u8 191)], .agg [.lit (.int .u8 128), .lit (.int .u8 143)], .agg [.lit (.int .u8 0), .lit (.int .u8 0)], .agg [.lit (.int .u8 0), .lit (.int .u8 0)], .agg [.lit (.int .u8 0), .lit (.int .u8 0)], .agg [.lit (.int .u8 0), .lit (.int .u8 0)], .agg [.lit (.int .u8 0), .lit (.int .u8 0)], .agg [.lit (.int .u8 0), .lit (.int .u8 0)], .agg [.lit (.int .u8 0), .lit (.int .u8 0)], .agg [.lit (.int .u8 0), .lit (.int .u8 0)], .agg [.lit (.int .u8 0), .lit (.int .u8 0)], .agg [.lit (.int .u8 0), .lit (.int .u8 0)], .agg [.lit (.int .u8 0), .lit (.int .u8 0)]]
theorem gFirst : Tryd.prog.globalNamed "unicode/utf8.first" = some 0 := by kernel_rfl
theorem gAccept : Tryd.prog.globalNamed "unicode/utf8.acceptRanges" = some 1 := by kernel_rfl
theorem tFirst : (Tryd.prog.globals[0]?).map (·.type) = some 95 := by kernel_rfl
theorem tAccept : (Tryd.prog.globals[1]?).map (·.type) = some 98 := by kernel_rfl
theorem c5 : Tryd.prog.cellsOf 5 = 1 := by kernel_rfl
theorem c95 : Tryd.prog.cellsOf 95 = 256 := by kernel_rfl
theorem c97 : Tryd.prog.cellsOf 97 = 2 := by kernel_rfl
theorem pinned_eq : Go.Pinned.utf8First = Lib.tabData .u8 qfs := by kernel_rfl
theorem cells_first {W : World} (h : Lib.VarReads Tryd.prog W "unicode/utf8.first" Go.Pinned.utf8First) (i : Nat) (x : Int) (hx : qfs[i]? = some x) : W.cell? ⟨0, i, none⟩ = some (.int .u8 x) := by
 obtain ⟨g, t, cs, fuel, p, hg, ht, hv, hd⟩ := h
 obtain rfl := Option.some.inj (gFirst.symm.trans hg)
 obtain rfl := Option.some.inj (tFirst.symm.trans ht)
 rw [pinned_eq] at hd
 have hcs := Lib.cells_of_tab Tryd.underlying95 Tryd.underlying5 c5 c95 hd
 rw [World.var?_cell gFirst hv i, <- Array.getElem?_toList, hcs, List.getElem?_map, hx]
 rfl
theorem cells_accept {W : World} (h : Lib.VarReads Tryd.prog W "unicode/utf8.acceptRanges" acceptD) (i : Nat) (x : Int) (hx : qf3[i]? = some x) : W.cell? ⟨1, i, none⟩ = some (.int .u8 x) := by
 obtain ⟨g, t, cs, fuel, p, hg, ht, hv, hd⟩ := h
 obtain rfl := Option.some.inj (gAccept.symm.trans hg)
 obtain rfl := Option.some.inj (tAccept.symm.trans ht)
 have hi : i < 32 := (List.getElem?_eq_some_iff.1 hx).1
 rw [World.var?_cell gAccept hv i, <- Array.getElem?_toList]
 obtain ⟨fuel', d, q, hdd, hf⟩ := Lib.array_elem Tryd.underlying98 hd (i / 2) (by omega)
 rw [c97] at hf
 have hz : d = .agg ([qf3.getD (2 * (i / 2)) 0, qf3.getD (2 * (i / 2) + 1) 0].map fun z => .lit (.int .u8 z)) := by
  have hall : ∀ j : Fin 16, ([.agg [.lit (.int .u8 128), .lit (.int .u8 191)], .agg [.lit (.int .u8 160), .lit (.int .u8 191)], .agg [.lit (.int .u8 128), .lit (.int .u8 159)], .agg [.lit (.int .u8 144), .lit (.int .u8 191)], .agg [.lit (.int .u8 128), .lit (.int .u8 143)], .agg [.lit (.int .u8 0), .lit (.int .u8 0)], .agg [.lit (.int .u8 0), .lit (.int .u8 0)], .agg [.lit (.int .u8 0), .lit (.int .u8 0)], .agg [.lit (.int .u8 0), .lit (.int .u8 0)], .agg [.lit (.int .u8 0), .lit (.int .u8 0)], .agg [.lit (.int .u8 0), .lit (.int .u8 0)], .agg [.lit (.int .u8 0), .lit (.int .u8 0)], .agg [.lit (.int .u8 0), .lit (.int .u8 0)], .agg [.lit (.int .u8 0), .lit (.int .u8 0)], .agg [.lit (.int .u8 0), .lit (.int .u8 0)], .agg [.lit (.int .u8 0), .lit (.int .u8 0)]] : List (DataW Unit))[j.val]? = some (.agg ([qf3.getD (2 * j.val) 0, qf3.getD (2 * j.val + 1) 0].map fun z => .lit (.int .u8 z))) := by
   intro ⟨j, hj⟩
   have hj' : j = 0 \/ j = 1 \/ j = 2 \/ j = 3 \/ j = 4 \/ j = 5 \/ j = 6 \/ j = 7 \/ j = 8 \/ j = 9 \/ j = 10 \/ j = 11 \/ j = 12 \/ j = 13 \/ j = 14 \/ j = 15 := by omega
   rcases hj' with rfl | rfl | rfl | rfl | rfl | rfl | rfl | rfl | rfl | rfl | rfl | rfl | rfl | rfl | rfl | rfl <;> rfl
  have := hall ⟨i / 2, by omega⟩
  exact Option.some.inj (hdd.symm.trans this)
 rw [hz] at hf
 have hcs := Lib.ints_of_struct Tryd.underlying97 (fun j f hj => by
  match j, hj with
  | 0, hj => cases hj; exact ⟨Tryd.underlying5, rfl, c5⟩
  | 1, hj => cases hj; exact ⟨Tryd.underlying5, rfl, c5⟩
  | j + 2, hj => simp at hj) c97 hf
 have hget := congrArg (·[i % 2]?) hcs
 simp only [List.getElem?_take, List.getElem?_drop] at hget
 rw [if_pos (by omega), show i / 2 * 2 + i % 2 = i by omega] at hget
 rw [hget]
 have hxd : qf3.getD i 0 = x := by rw [List.getD_eq_getElem?_getD, hx]; rfl
 rcases Nat.mod_two_eq_zero_or_one i with h2 | h2
 ·rw [h2]
  show some (Value.int .u8 (qf3.getD (2 * (i / 2)) 0)) = _
  rw [show 2 * (i / 2) = i by omega, hxd]
 ·rw [h2]
  show some (Value.int .u8 (qf3.getD (2 * (i / 2) + 1) 0)) = _
  rw [show 2 * (i / 2) + 1 = i by omega, hxd]
/-- the tables laid, for a witness -/
def layRow (l : List Int) : Go.Obj -> Go.Obj
 | .cells _ t fr => .cells (l.map (Value.int .u8)).toArray t fr
 | o => o
def layDer (h : Array Go.Obj) : Array Go.Obj := (h.modify 0 (layRow qfs)).modify 1 (layRow qf3)
theorem globs_der {W : World} (h1 : Lib.VarReads Tryd.prog W "unicode/utf8.first" Go.Pinned.utf8First) (h2 : Lib.VarReads Tryd.prog W "unicode/utf8.acceptRanges" acceptD) : ∀ g c, qca g = some c -> CRep W (fun b => b < W.heap.size) (.vp c 0 0) (.pointer (some ⟨g, 0, none⟩)) := by
 intro g c h
 unfold qca at h
 cases hb : Nat.beq g 0 with
 | true =>
  rw [hb] at h
  obtain rfl := qaj.1 hb
  cases h
  exact first_vp (cells_first h1)
 | false =>
  rw [hb] at h
  cases hb' : Nat.beq g 1 with
  | true =>
   rw [hb'] at h
   obtain rfl := qaj.1 hb'
   cases h
   exact accept_vp (cells_accept h2)
  | false => rw [hb'] at h; cases h
end Go.Proofs.YtbgkadaidhgggaaDoorA

namespace Go.Proofs.YtbgkadaidhgggaaDoorA
open Go.ChangeShapes Go.WideShapes Go.ChangeAt Go.RowKit

theorem tf_mono : ∀ {k m : Nat} {y : List CV}, isTf k y = true -> k <= m -> isTf m y = true
 | k, m, y, hy, hkm => by
  obtain ⟨k', t, b, l, rfl, rfl, hb, hl⟩ := qcu hy
  obtain ⟨m, rfl⟩ : ∃ q, m = q + 1 := ⟨m - 1, by omega⟩
  refine tf_mk hb fun c hc => ?_
  obtain ⟨z, rfl, hz⟩ := hl c hc
  exact ⟨z, rfl, tf_mono hz (by omega)⟩
section
variable {H : Type} {enc : TypeId × Value -> H} {P : Program}
theorem sli_cells {W : World} {n : Nat} {t e : TypeId} {k : IntKind} {cs : List Value} {x : DataW H × List MemPlace} (ht : P.underlying t = some (.slice e)) (he : P.underlying e = some (.int k)) (hc : P.cellsOf e = 1)
  (h : DataW.trod enc P W 0 (fun _ => true) true n t cs = some x) : ∃ (v : Value) (l : List Int), cs = [v] /\ oneC v = true /\ CRep W (fun b => b < W.heap.size) (.sli k l) v /\ ∀ n ∈ l, (Lit.int k n).wf = true := by
 rcases open_ints ht he hc h with ⟨hcs, _⟩ | ⟨a, len, cap, zs, hcs, _, hl, _, hz, _, hcell, hw⟩
 ·exact ⟨_, [], hcs, rfl, .sli _ _ _ _ _ rfl (Nat.le_refl _) fun i n hi => by simp at hi, fun n hn => by simp at hn⟩
 ·have hz : zs.length = cap := hz
  refine ⟨_, zs.take len, hcs, rfl, .sli _ _ _ _ _ (by simp; omega) hl fun i n hi => ?_, fun n hn => hw n (List.mem_of_mem_take hn)⟩
  rw [List.getElem?_take] at hi
  split at hi
  ·rename_i hlt
   have hlz : i < zs.length := by omega
   have hx := hcell i hlz
   have e : zs.getD i 0 = n := by rw [List.getD_eq_getElem?_getD, hi]; rfl
   rw [e] at hx
   have := cell_lt hx
   rw [qfg] at this
   exact ⟨a, rfl, this, hx⟩
  ·cases hi
end
theorem c26 : Tryd.prog.cellsOf 26 = 3 := by kernel_rfl
theorem c3 : Tryd.prog.cellsOf 3 = 1 := by kernel_rfl
theorem c22 : Tryd.prog.cellsOf 22 = 1 := by kernel_rfl
theorem c24 : Tryd.prog.cellsOf 24 = 1 := by kernel_rfl
theorem node_cells {H : Type} {enc : TypeId × Value -> H} {W : World} : ∀ (n : Nat) (cs : List Value) (x : DataW H × List MemPlace), DataW.trod enc Tryd.prog W 0 (fun _ => true) true n 26 cs = some x ->
  ∃ (y : List CV), isTf n y = true /\ cs.length = 3 /\ y.length = 3 /\ ∀ (r : Nat) (c : CV) (v : Value), y[r]? = some c -> cs[r]? = some v -> oneC v = true /\ CRep W (fun b => b < W.heap.size) c v
 | n, cs, x, h => by
  obtain ⟨xs, m, rfl, hx, hl, hxl, hall⟩ := DataW.trod_struct Tryd.underlying26 h
  rw [c26] at hl
  have hxl : xs.length = 3 := hxl
  match cs, hl, xs, hxl with
  | [v0, v1, v2], _, [x0, x1, x2], _ =>
   have h0 := hall 0 _ rfl
   have h1 := hall 1 _ rfl
   have h2 := hall 2 _ rfl
   have h0 : DataW.trod enc Tryd.prog W 0 (fun _ => true) true m 3 (([v0, v1, v2].drop 0).take (Tryd.prog.cellsOf 3)) = some x0 := h0
   have h1 : DataW.trod enc Tryd.prog W 0 (fun _ => true) true m 22 (([v0, v1, v2].drop 1).take (Tryd.prog.cellsOf 22)) = some x1 := h1
   have h2 : DataW.trod enc Tryd.prog W 0 (fun _ => true) true m 24 (([v0, v1, v2].drop 2).take (Tryd.prog.cellsOf 24)) = some x2 := h2
   rw [c3] at h0
   rw [c22] at h1
   rw [c24] at h2
   have h0 : DataW.trod enc Tryd.prog W 0 (fun _ => true) true m 3 [v0] = some x0 := h0
   have h1 : DataW.trod enc Tryd.prog W 0 (fun _ => true) true m 22 [v1] = some x1 := h1
   have h2 : DataW.trod enc Tryd.prog W 0 (fun _ => true) true m 24 [v2] = some x2 := h2
   obtain ⟨t, e0, _, _⟩ := DataW.trod_int Tryd.underlying3 h0
   obtain ⟨vb, b, e1, ob, rb, wb⟩ := sli_cells Tryd.underlying22 Tryd.underlying5 c5 h1
   simp only [List.cons.injEq, and_true] at e0 e1
   subst e0 e1
   have kids : ∃ l : List CV, (∀ c ∈ l, ∃ y, c = .agg y /\ isTf m y = true) /\ oneC v2 = true /\ CRep W (fun b => b < W.heap.size) (.slg 3 l) v2 := by
    rcases DataW.trod_slice Tryd.underlying24 h2 with ⟨hcs, _⟩ | ⟨a, len, cap, elems, rest, m', hm, hcs, _, _, hlc, _, hel, hcell, _, _⟩
    ·replace hcs := (List.cons.inj hcs).1
     subst hcs
     exact ⟨[], fun c hc => by simp at hc, rfl, .slg 3 [] none 0 0 (fun _ => .nilIface) (fun c hc => by simp at hc) rfl (Nat.le_refl _) (fun j c hj => by simp at hj) (fun j c hj => by simp at hj) (fun j c hj => by simp at hj)⟩
    ·replace hcs := (List.cons.inj hcs).1
     subst hcs
     rw [c26] at hcell
     have hch : ∀ i, i < len -> ∃ y : List CV, isTf m' y = true /\ y.length = 3 /\ ∀ (r : Nat) (c : CV), y[r]? = some c -> ∃ v, W.cell? (a.add (i * 3 + r)) = some v /\ oneC v = true /\ CRep W (fun b => b < W.heap.size) c v := fun i hi => by
      have hx := hcell i hi
      rw [List.getElem?_eq_getElem (by omega : i < elems.length), Option.bind_eq_some_iff] at hx
      obtain ⟨ci, hci, hti⟩ := hx
      obtain ⟨y, hy, hcl, hyl, hrep⟩ := node_cells m' ci _ hti
      obtain ⟨_, _, hcc⟩ := World.cells?_some hci
      refine ⟨y, hy, hyl, fun r c hr => ?_⟩
      have hr3 : r < 3 := by have := (List.getElem?_eq_some_iff.1 hr).1; omega
      obtain ⟨v, hv⟩ := qbj (b := ci) (i := r) (by omega)
      have := hcc r hr3
      rw [hv, add_add] at this
      obtain ⟨o1, o2⟩ := hrep r c v hr hv
      exact ⟨v, this, o1, o2⟩
     have hg : ∃ g : Nat -> List CV, ∀ i, i < len -> isTf m' (g i) = true /\ (g i).length = 3 /\ ∀ (r : Nat) (c : CV), (g i)[r]? = some c -> ∃ v, W.cell? (a.add (i * 3 + r)) = some v /\ oneC v = true /\ CRep W (fun b => b < W.heap.size) c v :=
      ⟨fun i => @dite _ (i < len) (Classical.propDecidable _) (fun h => Classical.choose (hch i h)) (fun _ => []), fun i hi => by
       simp only []
       rw [@dif_pos _ (Classical.propDecidable _) hi]
       exact Classical.choose_spec (hch i hi)⟩
     obtain ⟨g, hg⟩ := hg
     have hmem : ∀ c ∈ (List.range len).map fun i => CV.agg (g i), (cell1 c).length = 3 := fun c hc => by
      obtain ⟨i, hi, rfl⟩ := List.mem_map.1 hc
      exact (hg i (List.mem_range.1 hi)).2.1
     have key : ∀ (j : Nat) (c : CV), (((List.range len).map fun i => CV.agg (g i)).flatMap cell1)[j]? = some c -> ∃ v, W.cell? (a.add j) = some v /\ oneC v = true /\ CRep W (fun b => b < W.heap.size) c v := fun j c hj => by
      have hlt := (List.getElem?_eq_some_iff.1 hj).1
      rw [qbt hmem, List.length_map, List.length_range] at hlt
      have hi : j / 3 < len := by omega
      have hfl := flat_get (f := cell1) (e := 3) (l := (List.range len).map fun i => CV.agg (g i)) (i := j / 3) (c := .agg (g (j / 3))) (j % 3) hmem (by simp [hi]) (Nat.mod_lt _ (by omega))
      rw [show j / 3 * 3 + j % 3 = j by omega, hj] at hfl
      obtain ⟨v, h1, h2, h3⟩ := (hg _ hi).2.2 (j % 3) c hfl.symm
      rw [show j / 3 * 3 + j % 3 = j by omega] at h1
      exact ⟨v, h1, h2, h3⟩
     refine ⟨(List.range len).map fun i => CV.agg (g i), fun c hc => ?_, rfl, .slg 3 _ (some a) len cap (fun j => (W.cell? (a.add j)).getD .nilIface) hmem (by simp) hlc (fun j c hj => ?_) (fun j c hj => ?_) fun j c hj => ?_⟩
     ·obtain ⟨i, hi, rfl⟩ := List.mem_map.1 hc
      exact ⟨_, rfl, tf_mono (hg i (List.mem_range.1 hi)).1 (by omega)⟩
     ·obtain ⟨v, h1, h2, h3⟩ := key j c hj
      have := cell_lt h1
      rw [qfg] at this
      exact ⟨a, rfl, this, by rw [h1]; rfl⟩
     ·obtain ⟨v, h1, h2, h3⟩ := key j c hj
      rw [h1]; exact h2
     ·obtain ⟨v, h1, h2, h3⟩ := key j c hj
      rw [h1]; exact h3
   obtain ⟨l, hk, ok2, rk2⟩ := kids
   refine ⟨[.int .i64 t, .sli .u8 b, .slg 3 l], tf_mk (fun z hz => wf_u8_spec (wb z hz)) hk, rfl, rfl, fun r c v hr hv => ?_⟩
   match r, hr, hv with
   | 0, hr, hv => cases hr; cases hv; exact ⟨rfl, .int ..⟩
   | 1, hr, hv => cases hr; cases hv; exact ⟨ob, rb⟩
   | 2, hr, hv => cases hr; cases hv; exact ⟨ok2, rk2⟩
   | r + 3, hr, hv => simp at hr
theorem open_node {H : Type} {enc : TypeId × Value -> H} {W : World} {b0 : Nat} {v : Value} {d : DataW H} {ps : List MemPlace} (hval : Value.okWide Tryd.prog W .any b0 26 v) (h : DataW.Trod enc Tryd.prog W 0 (fun _ => true) true 26 v d ps) :
  ∃ a : List CV, CRep W (fun b => b < W.heap.size) (.agg a) v /\ isT a = true := by
 obtain ⟨cs, rfl, hcs⟩ := okWide_struct Tryd.underlying26 hval
 obtain ⟨n, h⟩ := h
 have h : DataW.trod enc Tryd.prog W 0 (fun _ => true) true n 26 cs.toList = some (d, ps) := h
 obtain ⟨y, hy, hl, hyl, hrep⟩ := node_cells n cs.toList _ h
 refine ⟨y, ?_, isT_of hy⟩
 have : CRep W (fun b => b < W.heap.size) (.agg y) (.agg cs.toList.toArray) := .agg y cs.toList (by omega) (fun v hv => ?_) fun j c v hj hv => (hrep j c v hj hv).2
 ·simpa using this
 ·obtain ⟨r, hr⟩ := List.mem_iff_getElem?.1 hv
  have hr3 := (List.getElem?_eq_some_iff.1 hr).1
  obtain ⟨c, hc⟩ := qbj (b := y) (i := r) (by omega)
  exact (hrep r c v hc hr).1
end Go.Proofs.YtbgkadaidhgggaaDoorA
