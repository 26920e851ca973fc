/-
 The library's comparison of bytes: its contract holds. Conditions: none.
-/
import Derived.Test.YtbgkadaidhgggaaDoorT3a
import Derived.Lib.BytesEntry
import Derived.Test.YtbgkadaidhgggaaDoorT1
import Derived.Test.YtbgkadaidhgggaaDoorK3
import Derived.Shelf.Spec.SlicesGrow
import Derived.Test.YtbgkadaidhgggaaDoorT3b
import Derived.Test.YtbgkadaidhgggaaDoorT5
import Derived.Test.YtbgkadaidhgggaaDoorProg
import Derived.WideKeyArgs
import Derived.Lib.LaidU8
import Derived.ChangeSlices
import GoSem.PinnedTables
import Derived.ChangeArms
set_option linter.unusedVariables false
set_option linter.unusedSimpArgs false
namespace Go.Proofs.YtbgkadaidhgggaaDoorA

theorem load_sli {P : Program} {w : World} {Im : Nat -> Prop} {l : List Int} {v : Value} (h : CRep w Im (.sli .u8 l) v) : (Extern.Bytes.bytesOf v).run P w = .ok ⟨(Lib.bytesOf l).toArray⟩ w := by
 cases h with
 | sli _ _ a len cap hl hc hcell =>
  cases a with
  | none =>
   have : l = [] := by
    cases l with
    | nil => rfl
    | cons x r => obtain ⟨ad, e, _⟩ := hcell 0 x rfl; cases e
   subst this
   rfl
  | some ad =>
   subst hl
   have := Lib.run_loadBytesX (P := P) w l ad .empty (fun j x hj => by obtain ⟨ad', e, _, hc⟩ := hcell j x hj; cases e; exact hc)
   refine this.trans ?_
   congr 1
   apply ByteArray.ext
   show (#[] : Array UInt8) ++ (Lib.bytesOf l).toArray = (Lib.bytesOf l).toArray
   simp
theorem cmp_list : ∀ (a b : List Int), (∀ x ∈ a, 0 <= x /\ x <= 255) -> (∀ x ∈ b, 0 <= x /\ x <= 255) -> Lib.compareBytes (Lib.bytesOf a) (Lib.bytesOf b) = qbp a b
 | [], [], _, _ => rfl
 | [], _ :: _, _, _ => rfl
 | _ :: _, [], _, _ => rfl
 | x :: a, y :: b, ha, hb => by
  have ih := cmp_list a b (fun z hz => ha z (List.mem_cons_of_mem _ hz)) (fun z hz => hb z (List.mem_cons_of_mem _ hz))
  have hx := ha x (List.mem_cons_self ..)
  have hy := hb y (List.mem_cons_self ..)
  have e1 : (UInt8.ofNat x.toNat < UInt8.ofNat y.toNat) ↔ x < y := by
   rw [UInt8.lt_iff_toNat_lt, UInt8.toNat_ofNat', UInt8.toNat_ofNat']
   omega
  have e2 : (UInt8.ofNat y.toNat < UInt8.ofNat x.toNat) ↔ y < x := by
   rw [UInt8.lt_iff_toNat_lt, UInt8.toNat_ofNat', UInt8.toNat_ofNat']
   omega
  show (if UInt8.ofNat x.toNat < UInt8.ofNat y.toNat then (-1 : Int) else if UInt8.ofNat y.toNat < UInt8.ofNat x.toNat then 1 else Lib.compareBytes (Lib.bytesOf a) (Lib.bytesOf b)) = (if x < y then -1 else if y < x then 1 else qbp a b)
  simp only [e1, e2, ih]
theorem run_cmp {P : Program} {w : World} {Im : Nat -> Prop} {a b : List Int} {va vb : Value} (ha : CRep w Im (.sli .u8 a) va) (hb : CRep w Im (.sli .u8 b) vb) (h1 : ∀ x ∈ a, 0 <= x /\ x <= 255) (h2 : ∀ x ∈ b, 0 <= x /\ x <= 255) :
  (Extern.BytealgCompare.compare #[va, vb]).run P w = .ok (.int .i64 (qbp a b)) w := by
 change Sem.run P (do pure (goInt (Extern.BytealgCompare.cmp (<- Extern.Bytes.bytesOf va) (<- Extern.Bytes.bytesOf vb)))) w = _
 simp only [Sem.run_bind, Sem.run_pure, load_sli ha, load_sli hb, Result.andThen]
 rw [Lib.cmp_eq]
 show Result.ok (Value.int .i64 (Lib.compareBytes (Lib.bytesOf a) (Lib.bytesOf b))) w = _
 rw [cmp_list a b h1 h2]

theorem qwx (hm : Tryd.prog.follows .mixedOrders = true) : Sound Tryd.prog qb9 74 (fun xs obs => cond (ql0 xs obs) (SBACompare xs obs).eval none) := by
 intro xs obs out w Im ρ bl vs hs hpre
 obtain ⟨h1, h2⟩ := qaa hs
 unfold ql0 at h1
 split at h1
 ·rename_i a b
  simp only [Bool.and_eq_true] at h1
  have h2 : some (Out.ret [.cl (.int .i64 (qfq a b))] []) = some out := h2
  cases h2
  have hl : vs.length = 2 := hpre.reps.1
  match vs, hl, hpre with
  | [va, vb], _, hpre =>
   have ra : CRep w Im (.sli .u8 a) va := by have := hpre.reps.2 0 _ _ rfl rfl; cases this; assumption
   have rb : CRep w Im (.sli .u8 b) vb := by have := hpre.reps.2 1 _ _ rfl rfl; cases this; assumption
   refine .inr ⟨.int .i64 (qfq a b), w, ?_, [.int .i64 (qfq a b)], Im, ρ, rfl, ⟨Fr.refl w bl, hpre.gam, fun j o o' hj => by cases hj⟩, rfl, fun j c v hj hv => ?_⟩
   ·rw [run_callFunc_extern (e := Extern.BytealgCompare.compare) Tryd.func74 rfl rfl rfl (by kernel_rfl)]
    show Result.andThen ((Extern.BytealgCompare.compare #[va, vb]).run Tryd.prog w) _ = _
    rw [run_cmp ra rb (qap h1.1).2 (qap h1.2).2]
    unfold qfq
    rw [qae]
    rfl
   ·match j, hj, hv with
    | 0, hj, hv => cases hj; cases hv; exact .cl _ _ (.int ..)
    | j + 1, hj, hv => cases hj
 ·cases h1
end Go.Proofs.YtbgkadaidhgggaaDoorA

set_option maxRecDepth 100000
namespace Go.Proofs.YtbgkadaidhgggaaDoorA

def qyn : Go.Shelf.Ren := ⟨fun _ => 61, fun t => cond (Nat.beq t 25) 5 t, fun g => g⟩
theorem xbas (hm : Tryd.prog.follows .mixedOrders = true) : Lays8.n4 Tryd.prog qyn where
 mixed := hm
 f4 := ⟨Tryd.f61.name, by decide, by kernel_rfl⟩
 t0 := Tryd.underlying0
 a0 := fun w => by kernel_rfl
 z0 := fun w => by kernel_rfl
 v0 := fun w => by kernel_rfl
 t3 := Tryd.underlying3
 a3 := fun w => by kernel_rfl
 z3 := fun w => by kernel_rfl
 v3 := fun w => by kernel_rfl
 t4 := Tryd.underlying4
 a4 := fun w => by kernel_rfl
 z4 := fun w => by kernel_rfl
 v4 := fun w => by kernel_rfl
 t9 := Tryd.underlying9
 a9 := fun w => by kernel_rfl
 z9 := fun w => by kernel_rfl
 v9 := fun w => by kernel_rfl
 t20 := Tryd.underlying20
 a20 := fun w => by kernel_rfl
 z20 := fun w => by kernel_rfl
 v20 := fun w => by kernel_rfl
 t22 := Tryd.underlying22
 a22 := fun w => by kernel_rfl
 z22 := fun w => by kernel_rfl
 v22 := fun w => by kernel_rfl
theorem info5 : (Tryd.prog.info? 5).map (fun i => (i.zero, i.size, i.bytes)) = some (some (.int .u8 0), 1, 1) := by kernel_rfl

theorem xbaa {bl : Nat -> Prop} {w w' : World} {Im : Nat -> Prop} {ρ ρ' : Nat -> Loc} {l : Loc} (h : Gam w.heap.size bl Im w Im ρ []) (hsz : w.heap.size <= w'.heap.size) (hρ : ρ' 0 = l) (ho : ORep w' Im ρ' (shOf [(0, ⟨.ints .u8 [], false⟩)]) (.ints .u8 []) l) (hl : ∀ b x y, l = some (b, x, y) -> b < w'.heap.size /\ ¬ Im b /\ w.heap.size <= b) :
  Gam w.heap.size bl Im w' Im ρ' [(0, ⟨.ints .u8 [], false⟩)] := by
 have one : ∀ (p : Nat) (o : Obj), qan ([(0, ⟨.ints .u8 [], false⟩)] : Heap) p = some o -> p = 0 /\ o = ⟨.ints .u8 [], false⟩ := fun p o hp => by
  simp only [qan] at hp
  cases hb : Nat.beq 0 p with
  | true => rw [hb] at hp; cases hp; exact ⟨(qak.1 hb).symm, rfl⟩
  | false => rw [hb] at hp; cases hp
 refine ⟨fun b hb => Nat.lt_of_lt_of_le (h.im b hb) hsz, h.i0, fun p o hp => ?_, fun p q o o' b x y x' y' hp hq _ _ hne => ?_, fun p o b x y hp hr => ?_, h.imo⟩
 ·obtain ⟨rfl, rfl⟩ := one p o hp
  rw [hρ]
  exact ho
 ·exact absurd ((one p o hp).1.trans (one q o' hq).1.symm) hne
 ·obtain ⟨rfl, rfl⟩ := one p o hp
  rw [hρ] at hr
  obtain ⟨h1, h2, h3⟩ := hl b x y hr
  exact ⟨h1, fun e => absurd e Bool.false_ne_true, fun _ => ⟨h2, .inr h3⟩⟩

theorem soundSGrow (hm : Tryd.prog.follows .mixedOrders = true) : Sound Tryd.prog qb9 61 (fun xs obs => cond (q2m xs obs) (SSGrow xs obs).eval none) := by
 intro xs obs out w Im ρ bl vs hs hpre
 obtain ⟨h1, h2⟩ := qaa hs
 unfold q2m at h1
 split at h1
 ·rename_i n
  have h2 : some (Out.ret [.ref 0 0 0 true 1] [some ⟨.ints .u8 noInts, false⟩]) = some out := h2
  cases h2
  have hn : 0 <= n /\ n <= 100000000 := by unfold growOk at h1; rw [qae] at h1; exact of_decide_eq_true h1
  obtain ⟨m, rfl⟩ : ∃ m : Nat, n = m := ⟨n.toNat, by omega⟩
  have hl : vs.length = 2 := hpre.reps.1
  match vs, hl, hpre with
  | [va, vb], _, hpre =>
   have ra := hpre.reps.2 0 _ _ rfl rfl
   have rb := hpre.reps.2 1 _ _ rfl rfl
   cases ra
   obtain rfl : vb = .int .i64 m := by
    cases rb with
    | cl _ _ h => cases h; rfl
   refine .inl ⟨?_, ?_⟩
   ·have hn' : ¬ Tryd.f61.name = "runtime.NumGoroutine" := of_decide_eq_true (by kernel_rfl)
    obtain ⟨c, hc⟩ : ∃ c, Tryd.f61.body = some c := ⟨_, rfl⟩
    simp [callFunc, Tryd.func61, hn', hc]
   ·have e : noInts = [] := qae _
    rw [e]
    have hg : Gam w.heap.size bl Im w Im ρ [] := hpre.gam
    by_cases hz : m = 0
    ·subst hz
     refine (Any8.slices_Grow_room (xbas hm) none 0 0 0 w (Nat.le_refl _) (by omega) (by omega) (Nat.le_refl _)).mono fun e w' ⟨he, hw⟩ => ?_
     subst he
     subst hw
     refine ⟨[.slice none 0 0], Im, fun _ => none, rfl, ⟨Fr.refl _ bl, xbaa hg (Nat.le_refl _) rfl ⟨rfl, rfl, trivial⟩ (fun b x y h => by cases h), fun j o o' hj => by cases hj⟩, rfl, fun j c v hj hv => ?_⟩
     match j, hj, hv with
     | 0, hj, hv => cases hj; cases hv; exact .refV 0 ⟨0, 1, false⟩ true 1 rfl rfl rfl rfl
     | j + 1, hj, hv => cases hj
    ·obtain ⟨i0, hi0, hi⟩ := Option.map_eq_some_iff.1 info5
     simp only [Prod.mk.injEq] at hi
     obtain ⟨hi1, hi2, hi3⟩ := hi
     refine (Any8.slices_Grow_grow (xbas hm) i0 (.int .u8 0) hi0 hi1 (by omega) none 0 0 m [] w (Nat.le_refl _) (by omega) (by rw [hi3]; omega) (by omega) (by simp) (fun _ => rfl) (fun a h => by cases h)).mono fun e w' ⟨he, hw⟩ => ?_
     have hG : 0 + m <= grownCap w (0 + m) 0 (qyn.t 25) := grownCap_ge w _ _ _
     generalize grownCap w (0 + m) 0 (qyn.t 25) = G at *
     subst he
     generalize hcs : ([] : List Value).toArray ++ Builtin.zeroCells (Value.int .u8 0).cells (0 + m - 0) ++ Builtin.zeroCells (Value.int .u8 0).cells (G - (0 + m)) = cs at hw
     have hsz : cs.size = G := by
      rw [<- hcs, Array.size_append, Array.size_append, size_zeroCells, size_zeroCells]
      simp [Value.cells]
      omega
     have hheap : w'.heap = w.heap.push (.cells cs (qyn.t 25) (0, 0)) := by rw [hw]; rfl
     have hb : w'.heap[w.heap.size]? = some (.cells cs (qyn.t 25) (0, 0)) := by rw [hheap]; simp
     have hFr : Fr w bl w' := by
      refine ⟨by rw [hw]; rfl, by rw [hw]; rfl, by rw [hw]; rfl, by rw [hheap, Array.size_push]; omega, fun b hb' _ => by rw [hheap, Array.getElem?_push, if_neg (by omega)]⟩
     refine ⟨[.slice (some ⟨w.heap.size, 0, none⟩) 0 G], Im, fun _ => some (w.heap.size, 0, G), rfl, ⟨hFr, xbaa hg hFr.size rfl ⟨trivial, by rw [hheap]; simp, Nat.zero_le _, fun i hi => ⟨?_, ?_⟩, fun j c hj => by simp [qal] at hj⟩ (fun b x y h => ?_), fun j o o' hj => by cases hj⟩, rfl, fun j c v hj hv => ?_⟩
     ·simp [World.cell?, hb, hsz, hi]
     ·simp [World.frozen?, hb]
     ·cases h
      exact ⟨by rw [hheap]; simp, fun hI => Nat.lt_irrefl _ (hg.im _ hI), Nat.le_refl _⟩
     ·match j, hj, hv with
      | 0, hj, hv =>
       cases hj
       cases hv
       exact .ref 0 0 0 true 1 ⟨0, 1, false⟩ w.heap.size 0 G ⟨w.heap.size, 0, none⟩ G rfl rfl rfl (Nat.zero_le _) (Nat.le_refl _) (fun _ => rfl) (fun _ => rfl) (by omega)
      | j + 1, hj, hv => cases hj
 ·cases h1
end Go.Proofs.YtbgkadaidhgggaaDoorA

namespace Go.Proofs.YtbgkadaidhgggaaDoorA
theorem qcx {P : Program} {glob : Nat -> Option CV} {g : FuncId} {p : List V -> List Obj -> Bool} {q : Nat -> List V -> List Obj -> Bool} {S : List V -> List Obj -> Tree} (h : ∀ rk, Sound P glob g (fun xs obs => cond (q rk xs obs) (S xs obs).eval none)) (hp : ∀ xs obs, p xs obs = true -> ∃ rk, q rk xs obs = true) :
  Sound P glob g (fun xs obs => cond (p xs obs) (S xs obs).eval none) := by
 intro xs obs out w Im ρ bl vs hs
 obtain ⟨h1, h2⟩ := qaa hs
 obtain ⟨rk, hq⟩ := hp xs obs h1
 exact h rk xs obs out w Im ρ bl vs (by show cond (q rk xs obs) _ _ = _; rw [hq]; exact h2)
theorem qdq {P : Program} {glob : Nat -> Option CV} {g : FuncId} {p : List V -> List Obj -> Bool} {S : List V -> List Obj -> Tree} (h : ∀ xs obs, ¬ p xs obs = true) : Sound P glob g (fun xs obs => cond (p xs obs) (S xs obs).eval none) := by
 intro xs obs out w Im ρ bl vs hs
 exact absurd (qaa hs).1 (h xs obs)
theorem sound_fail {P : Program} {glob : Nat -> Option CV} {g : FuncId} {p : List V -> List Obj -> Bool} : Sound P glob g (fun xs obs => cond (p xs obs) ((fun _ _ => Tree.fail : List V -> List Obj -> Tree) xs obs).eval none) := by
 intro xs obs out w Im ρ bl vs hs
 cases (qaa hs).2
abbrev MX : Prop := Tryd.prog.follows .mixedOrders = true
abbrev OKS (g : FuncId) (p : List V -> List Obj -> Bool) (S : List V -> List Obj -> Tree) : Prop := Sound Tryd.prog qb9 g (fun xs obs => cond (p xs obs) (S xs obs).eval none)
theorem q88 (hm : MX) : OKS 65 q47 SDigits :=
 qai (E := EDigits) (N := 40) (keep := false) hm (fun g => qah) Tryd.func65 rfl rfl q7p rfl (by
  intro xs obs out hp h
  unfold SDigits at h
  split at h
  ·refine ⟨by simp [Tryd.f65], ?_⟩
   rw [xbac]
   exact (nDigits _ hp).trans h
  ·cases h    )
theorem q90 (hm : MX) : OKS 80 preDLeap SDLeap :=
 qai (E := EDLeap) (N := 40) (keep := false) hm (fun g => qah) Tryd.func80 rfl rfl xbbt rfl (by
  intro xs obs out hp h
  unfold SDLeap at h
  split at h
  ·refine ⟨by simp [Tryd.f80], ?_⟩
   rw [gDLeap_eq]
   exact (nDLeap _ _ _ _ _ _ hp).trans h
  ·cases h    )
theorem soundDDays (hm : MX) : OKS 77 preDDays SDDays :=
 qai (E := EDDays) (N := 40) (keep := false) hm (fun g => (qac (q90 hm) qah)) Tryd.func77 rfl rfl xbbh rfl (by
  intro xs obs out hp h
  unfold SDDays at h
  split at h
  ·refine ⟨by simp [Tryd.f77], ?_⟩
   rw [gDDays_eq]
   exact (nDDays _ _ _ _ _ _ hp).trans h
  ·cases h    )
theorem soundDFit (hm : MX) : OKS 66 preDFit SDFit :=
 qai (E := EDFit) (N := 40) (keep := false) hm (fun g => (qac (soundDDays hm) qah)) Tryd.func66 rfl rfl loopsDFit rfl (by
  intro xs obs out hp h
  unfold SDFit at h
  split at h
  ·refine ⟨by simp [Tryd.f66], ?_⟩
   rw [gDFit_eq]
   exact (nDFit _ _ _ _ _ _ hp).trans h
  ·cases h    )
theorem soundDSecs (hm : MX) : OKS 67 preDSecs SDSecs :=
 qai (E := EDSecs) (N := 40) (keep := false) hm (fun g => qah) Tryd.func67 rfl rfl xbbw rfl (by
  intro xs obs out hp h
  unfold SDSecs at h
  split at h
  ·refine ⟨by simp [Tryd.f67], ?_⟩
   rw [gDSecs_eq]
   exact (nDSecs _ _ _ _ _ _ hp).trans h
  ·cases h    )
theorem soundSRead (hm : MX) : OKS 50 q9z SSRead :=
 qai (E := ESRead) (N := 40) (keep := false) hm (fun g => (qac (q88 hm) (qac (soundDFit hm) (qac (soundDSecs hm) qah)))) Tryd.func50 rfl rfl q9x rfl (by
  intro xs obs out hp h
  unfold SSRead at h
  split at h
  ·refine ⟨by simp [Tryd.f50], ?_⟩
   rw [gSRead_eq]
   exact (nSRead _ hp).trans h
  ·cases h    )
theorem soundRLeap (hm : MX) : OKS 79 preRLeap SRLeap :=
 qai (E := ERLeap) (N := 40) (keep := false) hm (fun g => qah) Tryd.func79 rfl rfl loopsRLeap rfl (by
  intro xs obs out hp h
  unfold SRLeap at h
  split at h
  ·refine ⟨by simp [Tryd.f79], ?_⟩
   rw [gRLeap_eq]
   exact (nRLeap _ hp).trans h
  ·cases h    )
theorem xbau (hm : MX) : OKS 72 preRDays SRDays :=
 qai (E := ERDays) (N := 40) (keep := false) hm (fun g => (qac (soundRLeap hm) qah)) Tryd.func72 rfl rfl xbbi rfl (by
  intro xs obs out hp h
  unfold SRDays at h
  split at h
  ·refine ⟨by simp [Tryd.f72], ?_⟩
   rw [gRDays_eq]
   exact (nRDays _ _ hp).trans h
  ·cases h    )
theorem q67 (hm : MX) : OKS 73 q6d SRYears :=
 qai (E := ERYears) (N := 40) (keep := false) hm (fun g => qah) Tryd.func73 rfl rfl q78 rfl (by
  intro xs obs out hp h
  unfold SRYears at h
  split at h
  ·refine ⟨by simp [Tryd.f73], ?_⟩
   rw [gRYears_eq]
   exact (nRYears _ hp).trans h
  ·cases h    )
theorem q2z (hm : MX) : OKS 71 qzi SRNumber :=
 qai (E := ERNumber) (N := 40) (keep := false) hm (fun g => qah) Tryd.func71 rfl rfl q0u rfl (by
  intro xs obs out hp h
  unfold SRNumber at h
  split at h
  ·refine ⟨by simp [Tryd.f71], ?_⟩
   rw [q8v]
   exact (nRNumber _ hp).trans h
  ·cases h    )
theorem soundRRead (hm : MX) : OKS 56 preRRead SRRead :=
 qai (E := ERRead) (N := 40) (keep := false) hm (fun g => (qac (q2z hm) (qac (xbau hm) (qac (q67 hm) qah)))) Tryd.func56 rfl rfl loopsRRead rfl (by
  intro xs obs out hp h
  unfold SRRead at h
  split at h
  ·refine ⟨by simp [Tryd.f56], ?_⟩
   rw [gRRead_eq]
   exact (nRRead _ hp).trans h
  ·cases h    )
theorem qf5 (hm : MX) : OKS 18 qke SDBoxed :=
 qai (E := EDBoxed) (N := 40) (keep := false) hm (fun g => qah) Tryd.func18 rfl rfl q69 rfl (by
  intro xs obs out hp h
  unfold SDBoxed at h
  split at h
  ·refine ⟨by simp [Tryd.f18], ?_⟩
   rw [q9t]
   exact (nDBoxed _ hp).trans h
  ·cases h    )
theorem qoj (hm : MX) : OKS 19 qq9 SRBoxed :=
 qai (E := ERBoxed) (N := 40) (keep := false) hm (fun g => qah) Tryd.func19 rfl rfl q8j rfl (by
  intro xs obs out hp h
  unfold SRBoxed at h
  split at h
  ·refine ⟨by simp [Tryd.f19], ?_⟩
   rw [gRBoxed_eq]
   exact (nRBoxed _ hp).trans h
  ·cases h    )
theorem qvs (hm : MX) : OKS 31 qw7 SDKnown :=
 qai (E := EDKnown) (N := 40) (keep := false) hm (fun g => (qac (qf5 hm) qah)) Tryd.func31 rfl rfl q61 rfl (by
  intro xs obs out hp h
  unfold SDKnown at h
  split at h
  ·refine ⟨by simp [Tryd.f31], ?_⟩
   rw [xbaq]
   exact (nDKnown _ hp).trans h
  ·cases h    )
theorem q2h (hm : MX) : OKS 36 qzf SRTagged :=
 qai (E := ERTagged) (N := 40) (keep := false) hm (fun g => (qac (qoj hm) qah)) Tryd.func36 rfl rfl q08 rfl (by
  intro xs obs out hp h
  unfold SRTagged at h
  split at h
  ·refine ⟨by simp [Tryd.f36], ?_⟩
   rw [q75]
   exact (nRTagged _ hp).trans h
  ·cases h    )
theorem qi7 (hm : MX) : OKS 40 qla qng :=
 qai (E := qwq) (N := 40) (keep := false) hm (fun g => qah) Tryd.func40 rfl rfl q0o rfl (by
  intro xs obs out hp h
  unfold qng at h
  split at h
  ·refine ⟨by simp [Tryd.f40], ?_⟩
   rw [q3n]
   exact (nDLenSize _ hp).trans h
  ·cases h    )
theorem q34 (hm : MX) : OKS 46 qzk SDNumber :=
 qai (E := EDNumber) (N := 40) (keep := false) hm (fun g => qah) Tryd.func46 rfl rfl q2a rfl (by
  intro xs obs out hp h
  unfold SDNumber at h
  split at h
  ·refine ⟨by simp [Tryd.f46], ?_⟩
   rw [q8u]
   exact (nDNumber _ hp).trans h
  ·cases h    )
theorem q4u (hm : MX) : OKS 52 qym q3w :=
 qai (E := q03) (N := 40) (keep := false) hm (fun g => qah) Tryd.func52 rfl rfl q2t rfl (by
  intro xs obs out hp h
  unfold q3w at h
  split at h
  ·refine ⟨by simp [Tryd.f52], ?_⟩
   rw [q70]
   exact (nRFitInt _ hp).trans h
  ·cases h    )
theorem q7a (hm : MX) : OKS 47 q5r SDStrip :=
 qai (E := EDStrip) (N := 40) (keep := false) hm (fun g => qah) Tryd.func47 rfl rfl q8g rfl (by
  intro xs obs out hp h
  unfold SDStrip at h
  split at h
  ·refine ⟨by simp [Tryd.f47], ?_⟩
   rw [gDStrip_eq]
   exact (nDStrip _ hp).trans h
  ·cases h    )
theorem qzs (hm : MX) : OKS 53 qvi qwo :=
 qai (E := qwn) (N := 40) (keep := false) hm (fun g => qah) Tryd.func53 rfl rfl q0g rfl (by
  intro xs obs out hp h
  unfold qwo at h
  split at h
  ·refine ⟨by simp [Tryd.f53], ?_⟩
   rw [q4v]
   exact (nRFitBits _ hp).trans h
  ·cases h    )
theorem soundRCont (hm : MX) : OKS 78 preRCont SRCont :=
 qai (E := ERCont) (N := 40) (keep := false) hm (fun g => qah) Tryd.func78 rfl rfl loopsRCont rfl (by
  intro xs obs out hp h
  unfold SRCont at h
  split at h
  ·refine ⟨by simp [Tryd.f78], ?_⟩
   rw [gRCont_eq]
   exact (nRCont _ _ hp).trans h
  ·cases h    )
theorem xbby (hm : MX) : OKS 70 q9p SRRune :=
 qai (E := ERRune) (N := 40) (keep := false) hm (fun g => (qac (soundRCont hm) qah)) Tryd.func70 rfl rfl loopsRRune rfl (by
  intro xs obs out hp h
  unfold SRRune at h
  split at h
  ·refine ⟨by simp [Tryd.f70], ?_⟩
   rw [gRRune_eq]
   exact (nRRune _ _ hp).trans h
  ·cases h    )
theorem soundRUtf8 (hm : MX) : OKS 55 q9y SRUtf8 :=
 qai (E := ERUtf8) (N := 40) (keep := false) hm (fun g => (qac (xbby hm) qah)) Tryd.func55 rfl rfl loopsRUtf8 rfl (by
  intro xs obs out hp h
  unfold SRUtf8 at h
  split at h
  ·refine ⟨by simp [Tryd.f55], ?_⟩
   rw [gRUtf8_eq]
   exact (nRUtf8 _ hp).trans h
  ·cases h    )
theorem soundOFit (hm : MX) : OKS 63 preOFit SOFit :=
 qai (E := EOFit) (N := 40) (keep := false) hm (fun g => qah) Tryd.func63 rfl rfl loopsOFit rfl (by
  intro xs obs out hp h
  unfold SOFit at h
  split at h
  ·refine ⟨by simp [Tryd.f63], ?_⟩
   rw [gOFit_eq]
   exact (nOFit _ hp).trans h
  ·cases h    )
theorem soundR2Fit (hm : MX) : OKS 69 preR2Fit SR2Fit :=
 qai (E := ER2Fit) (N := 40) (keep := false) hm (fun g => qah) Tryd.func69 rfl rfl loopsR2Fit rfl (by
  intro xs obs out hp h
  unfold SR2Fit at h
  split at h
  ·refine ⟨by simp [Tryd.f69], ?_⟩
   rw [gR2Fit_eq]
   exact (nR2Fit _ hp).trans h
  ·cases h    )
theorem q1g (hm : MX) : OKS 68 qyr SR2First :=
 qai (E := ER2First) (N := 40) (keep := false) hm (fun g => qah) Tryd.func68 rfl rfl q3f rfl (by
  intro xs obs out hp h
  unfold SR2First at h
  split at h
  ·refine ⟨by simp [Tryd.f68], ?_⟩
   rw [q71]
   exact (nR2First _ hp).trans h
  ·cases h    )
theorem q4g (hm : MX) : OKS 76 q0m SONumber :=
 qai (E := EONumber) (N := 40) (keep := false) hm (fun g => qah) Tryd.func76 rfl rfl q2f rfl (by
  intro xs obs out hp h
  unfold SONumber at h
  split at h
  ·refine ⟨by simp [Tryd.f76], ?_⟩
   rw [q79]
   exact (nONumber _ hp).trans h
  ·cases h    )
theorem qyt (hm : MX) : OKS 62 qvm SONumbers :=
 qai (E := EONumbers) (N := 40) (keep := true) hm (fun g => qah) Tryd.func62 rfl rfl q0d rfl (by
  intro xs obs out hp h
  unfold SONumbers at h
  split at h
  ·refine ⟨by simp [Tryd.f62], ?_⟩
   rw [q04]
   exact (nONumbers _ hp).trans h
  ·cases h    )
theorem seqONums (hm : MX) : ∀ xs obs ys, q9s xs obs = true -> QONums xs obs = some ys -> SeqOk Tryd.prog qb9 75 xs obs ys := by
 intro xs obs ys hp h
 unfold QONums at h
 split at h
 ·rename_i b
  cases h
  have hE : ∀ (l : Nat) (g : FuncId), Sound Tryd.prog (EONums l).glob g (ctr (EONums l) g) := fun l g => (qac (q4g hm) qah)
  refine seq_sound (N := 40) EONums hE (fun l => qnl (hE l) hm) (fun _ => rfl) (fun _ => rfl) (fun _ => rfl) Tryd.func75 rfl loopsONums (fun _ => rfl) (by decide) rfl fun l => ?_
  obtain ⟨out, h1, h2⟩ := nONums l b hp
  exact ⟨out, (gONums_eq l b).trans h1, h2⟩
 ·cases h
theorem sqOParse (hm : MX) : qiz Tryd.prog EOParse := by
 intro gf xs obs ys hp h
 have h : (cond (Nat.beq gf 75) QONums (fun _ _ => none)) xs obs = some ys := h
 cases hb : Nat.beq gf 75 with
 | false => rw [hb] at h; cases h
 | true =>
  obtain rfl := qak.1 hb
  exact ⟨seqONums hm xs obs ys hp h, _, Tryd.func75, rfl, rfl⟩
theorem q7g (hm : MX) : OKS 48 q6n SOParse :=
 qai (E := EOParse) (N := 40) (keep := false) hm (fun g => (qac (qyt hm) (qac (soundOFit hm) sound_fail))) Tryd.func48 rfl rfl q8c rfl (hsq := sqOParse hm) (hS := by
  intro xs obs out hp h
  unfold SOParse at h
  split at h
  ·refine ⟨by simp [Tryd.f48], ?_⟩
   rw [q99]
   exact (nOParse _ hp).trans h
  ·cases h)
theorem q4y (hm : MX) : OKS 54 qyz SR2Parse :=
 qai (E := ER2Parse) (N := 40) (keep := false) hm (fun g => (qac (q1g hm) (qac (soundR2Fit hm) qah))) Tryd.func54 rfl rfl q2s rfl (by
  intro xs obs out hp h
  unfold SR2Parse at h
  split at h
  ·refine ⟨by simp [Tryd.f54], ?_⟩
   rw [q89]
   exact (nR2Parse _ hp).trans h
  ·cases h    )
theorem qoq (hm : MX) : OKS 15 qra SR1Same :=
 qai (E := ER1Same) (N := 40) (keep := false) hm (fun g => qah) Tryd.func15 rfl rfl q9c rfl (by
  intro xs obs out hp h
  unfold SR1Same at h
  split at h
  ·refine ⟨by simp [Tryd.f15], ?_⟩
   rw [xbba]
   exact (nR1Same _ _ hp).trans h
  ·cases h    )
theorem q68 (hm : MX) : OKS 35 q6k SSClone :=
 qai (E := ESClone) (N := 40) (keep := false) hm (fun g => qah) Tryd.func35 rfl rfl q64 rfl (by
  intro xs obs out hp h
  unfold SSClone at h
  split at h
  ·refine ⟨by simp [Tryd.f35], ?_⟩
   rw [gSClone_eq]
   exact (nSClone _ hp).trans h
  ·cases h    )
theorem q8q (hm : MX) : OKS 57 q5y SR4Less :=
 qai (E := ER4Less) (N := 40) (keep := false) hm (fun g => qah) Tryd.func57 rfl rfl q7y rfl (by
  intro xs obs out hp h
  unfold SR4Less at h
  split at h
  ·refine ⟨by simp [Tryd.f57], ?_⟩
   rw [gR4Less_eq]
   exact (nR4Less _ _ hp).trans h
  ·cases h    )
theorem soundUWord (hm : MX) : OKS 64 preUWord SUWord :=
 qai (E := EUWord) (N := 40) (keep := false) hm (fun g => qah) Tryd.func64 rfl rfl xbam rfl (by
  intro xs obs out hp h
  unfold SUWord at h
  split at h
  ·refine ⟨by simp [Tryd.f64], ?_⟩
   rw [gUWord_eq]
   exact (nUWord _ hp).trans h
  ·cases h    )
theorem q9k (hm : MX) : OKS 49 q6h SUValid :=
 qai (E := EUValid) (N := 40) (keep := false) hm (fun g => (qac (soundUWord hm) qah)) Tryd.func49 rfl rfl q87 rfl (by
  intro xs obs out hp h
  unfold SUValid at h
  split at h
  ·refine ⟨by simp [Tryd.f49], ?_⟩
   rw [gUValid_eq]
   exact (nUValid _ hp).trans h
  ·cases h    )
theorem qvr (hm : MX) : ∀ rk, OKS 11 (qnz rk) SRSame
 | 0 => qdq fun xs obs h => by
  unfold qnz at h
  split at h
  ·simp only [Bool.and_eq_true] at h
   have := qkt h.1
   simp [isNf] at this
  ·cases h
 | rk + 1 => qai (E := ERSame rk) (N := 40) (keep := false) hm (fun g => (qac (qvr hm rk) (qac (qoq hm) qah))) Tryd.func11 rfl rfl (loopsRSame rk) rfl (by
  intro xs obs out hp h
  have hp : qnz (rk + 1) xs obs = true := hp
  have hp0 := hp
  unfold qnz at hp
  split at hp
  ·rename_i a b
   simp only [Bool.and_eq_true] at hp
   obtain ⟨_, ta, ba, ka, _, rfl, _⟩ := qqo (qkt hp.1)
   obtain ⟨_, hn⟩ := qn7 hp.2
   obtain ⟨_, tb, bb, kb, _, rfl, _⟩ := qqo hn
   refine ⟨by simp [Tryd.f11], ?_⟩
   rw [gRSame_eq]
   exact (nRSame rk ta ba ka tb bb kb hp0).trans h
  ·cases hp)
theorem soundRSame (hm : MX) : OKS 11 q1r SRSame :=
 qcx (fun rk => qvr hm rk) fun xs obs h => by
  unfold q1r at h
  split at h
  ·rename_i a b
   simp only [Bool.and_eq_true] at h
   obtain ⟨n, hn⟩ := qn7 h.1
   refine ⟨n, ?_⟩
   show (isNr n a && isN b) = true
   rw [q5q hn, h.2]
   rfl
  ·cases h
theorem qyx (hm : MX) : OKS 34 q3l SDFits :=
 qai (E := EDFits) (N := 40) (keep := false) hm (fun g => (qac (q34 hm) (qac (q7a hm) (qac (q7g hm) (qac (q9k hm) (qac (soundSRead hm) qah)))))) Tryd.func34 rfl rfl loopsDFits rfl (by
  intro xs obs out hp h
  unfold SDFits at h
  split at h
  ·refine ⟨by simp [Tryd.f34], ?_⟩
   rw [gDFits_eq]
   exact (nDFits _ _ hp).trans h
  ·cases h    )
theorem soundRFits (hm : MX) : OKS 38 q9o SRFits :=
 qai (E := ERFits) (N := 40) (keep := false) hm (fun g => (qac (q4u hm) (qac (qzs hm) (qac (q4y hm) (qac (soundRUtf8 hm) (qac (soundRRead hm) qah)))))) Tryd.func38 rfl rfl loopsRFits rfl (by
  intro xs obs out hp h
  unfold SRFits at h
  split at h
  ·refine ⟨by simp [Tryd.f38], ?_⟩
   rw [gRFits_eq]
   exact (nRFits _ _ hp).trans h
  ·cases h    )
theorem qy4 (hm : MX) : OKS 39 qu3 SR4Sorted :=
 qai (E := ER4Sorted) (N := 40) (keep := false) hm (fun g => (qac (q8q hm) qah)) Tryd.func39 rfl rfl q0r rfl (by
  intro xs obs out hp h
  unfold SR4Sorted at h
  split at h
  ·refine ⟨by simp [Tryd.f39], ?_⟩
   rw [q3i]
   exact (nR4Sorted _ hp).trans h
  ·cases h    )
theorem q0n (hm : MX) : OKS 60 qvf SBCompare :=
 qai (E := EBCompare) (N := 40) (keep := false) hm (fun g => (qac (qwx hm) qah)) Tryd.func60 rfl rfl qzg rfl (by
  intro xs obs out hp h
  unfold SBCompare at h
  split at h
  ·refine ⟨by simp [Tryd.f60], ?_⟩
   rw [q4f]
   exact (nBCompare _ _ hp).trans h
  ·cases h    )
theorem q0q (hm : MX) : OKS 59 q4k SOLess :=
 qai (E := EOLess) (N := 40) (keep := false) hm (fun g => (qac (q0n hm) qah)) Tryd.func59 rfl rfl loopsOLess rfl (by
  intro xs obs out hp h
  unfold SOLess at h
  split at h
  ·refine ⟨by simp [Tryd.f59], ?_⟩
   rw [gOLess_eq]
   exact (nOLess _ _ hp).trans h
  ·cases h    )
theorem q80 (hm : MX) : OKS 58 q6r SOSteps :=
 qai (E := EOSteps) (N := 40) (keep := false) hm (fun g => (qac (q0q hm) qah)) Tryd.func58 rfl rfl q81 rfl (by
  intro xs obs out hp h
  unfold SOSteps at h
  split at h
  ·refine ⟨by simp [Tryd.f58], ?_⟩
   rw [q96]
   exact (nOSteps _ hp).trans h
  ·cases h    )
theorem qtz (hm : MX) : OKS 42 qtu SOSorted :=
 qai (E := EOSorted) (N := 40) (keep := false) hm (fun g => (qac (q80 hm) (qac (q0q hm) qah))) Tryd.func42 rfl rfl q1d rfl (by
  intro xs obs out hp h
  unfold SOSorted at h
  split at h
  ·refine ⟨by simp [Tryd.f42], ?_⟩
   rw [q9a]
   exact (nOSorted _ hp).trans h
  ·cases h    )
theorem qjc (hm : MX) : OKS 23 qow SDMust :=
 qai (E := EDMust) (N := 40) (keep := false) hm (fun g => qah) Tryd.func23 rfl rfl loopsDMust rfl (by
  intro xs obs out hp h
  unfold SDMust at h
  split at h
  ·refine ⟨by simp [Tryd.f23], ?_⟩
   rw [q77]
   exact (nDMust_0 _ hp).trans h
  ·refine ⟨by simp [Tryd.f23], ?_⟩
   rw [q7e]
   exact (nDMust_1 _ hp).trans h
  ·cases h    )
theorem qzn (hm : MX) : OKS 30 q01 SDNext :=
 qai (E := EDNext) (N := 40) (keep := false) hm (fun g => (qac (qjc hm) qah)) Tryd.func30 rfl rfl loopsDNext rfl (by
  intro xs obs out hp h
  unfold SDNext at h
  split at h
  ·refine ⟨by simp [Tryd.f30], ?_⟩
   rw [gDNext_eq]
   exact (nDNext _ _ hp).trans h
  ·cases h    )
theorem q02 (hm : MX) : OKS 32 qz7 SDLength :=
 qai (E := EDLength) (N := 40) (keep := false) hm (fun g => (qac (qjc hm) (qac (qzn hm) (qac (qi7 hm) qah)))) Tryd.func32 rfl rfl q1p rfl (by
  intro xs obs out hp h
  unfold SDLength at h
  split at h
  ·refine ⟨by simp [Tryd.f32], ?_⟩
   rw [q6x]
   exact (nDLength _ _ hp).trans h
  ·cases h    )
theorem q4w (hm : MX) (rk : Nat) (hV : OKS 22 (qjm rk) SDValue) : OKS 33 (qs3 rk) SDParts :=
 qai (E := EDParts rk) (N := 40) (keep := false) hm (fun g => (qac (hV) (qac (qjc hm) (qac (qtz hm) qah)))) Tryd.func33 rfl rfl (q8a rk) rfl (by
  intro xs obs out hp h
  unfold SDParts at h
  split at h
  ·refine ⟨by simp [Tryd.f33], ?_⟩
   rw [xbbv]
   exact (nDParts rk _ _ _ _ hp).trans h
  ·cases h)
theorem q1w (hm : MX) (rk : Nat) (hP : OKS 33 (qs3 rk) SDParts) : OKS 22 (qjm (rk + 1)) SDValue :=
 qai (E := EDValue rk) (N := 40) (keep := false) hm (fun g => (qac (qf5 hm) (qac (qjc hm) (qac (qzn hm) (qac (qvs hm) (qac (q02 hm) (qac (hP) (qac (qyx hm) (qac (q68 hm) qah))))))))) Tryd.func22 rfl rfl (q6y rk) rfl (by
  intro xs obs out hp h
  unfold SDValue at h
  split at h
  ·refine ⟨by simp [Tryd.f22], ?_⟩
   rw [q9v]
   exact (nDValue rk _ _ hp).trans h
  ·cases h)
theorem soundRV (hm : MX) : ∀ rk, OKS 22 (qjm rk) SDValue
 | 0 => qdq fun xs obs h => by
  unfold qjm at h
  split at h
  ·simp at h
  ·cases h
 | rk + 1 => q1w hm rk (q4w hm rk (soundRV hm rk))
theorem q7m (hm : MX) : OKS 22 qxd SDValue :=
 qcx (fun rk => soundRV hm rk) fun xs obs h => by
  unfold qxd at h
  split at h
  ·rename_i l d
   simp only [Bool.and_eq_true] at h
   refine ⟨d.toNat + 1, ?_⟩
   show (qad l && (qcb d && decide (d.toNat < d.toNat + 1))) = true
   simp only [Bool.and_eq_true, decide_eq_true_eq]
   exact ⟨h.1, h.2, by omega⟩
  ·cases h
theorem catDParse (hm : MX) : DSound Tryd.prog qb9 21 (fun m xs obs => cond (qsl m xs obs) (DDCatch m xs obs) none) := by
 have hE : ∀ g, Sound Tryd.prog EDCatch.glob g (ctr EDCatch g) := fun g => qah
 refine rec_sound (E := EDCatch) (N := 40) hE (sq_none rfl) rfl (qnl hE hm) rfl Tryd.func21 q76 rfl ?_
 intro m xs obs out h
 obtain ⟨hp, h⟩ := qaa h
 unfold DDCatch at h
 split at h
 ·refine ⟨by simp [Tryd.f21], ?_⟩
  rw [q05]
  exact h
 ·refine ⟨by simp [Tryd.f21], ?_⟩
  rw [q2w]
  exact h
 ·refine ⟨by simp [Tryd.f21], ?_⟩
  rw [q2q]
  exact h
 ·cases h
theorem q8y (hm : MX) : OKS 9 q6b SDParse := by
 have hE : ∀ g, Sound Tryd.prog EDParse.glob g (ctr EDParse g) := fun g => (qac (q7m hm) (qac (qjc hm) qah))
 refine q9j (E := EDParse) (D := DEDParse) (N := 40) (keep := false) hE (sq_none rfl) (qnl hE hm) (fun g => ?_) (fun g m xs obs out h => ?_) rfl Tryd.func9 rfl rfl rfl q8b rfl (fun xs obs out h => ?_)
 ·show DSound Tryd.prog qb9 g fun m xs obs => cond ((cond (Nat.beq g 21) qsl (fun _ _ _ => false)) m xs obs) ((cond (Nat.beq g 21) DDCatch (fun _ _ _ => none)) m xs obs) none
  cases hb : Nat.beq g 21 with
  | true => obtain rfl := qak.1 hb; exact catDParse hm
  | false => intro m xs obs out w Im ρ bl vs u h; cases h
 ·have h : (cond (Nat.beq g 21) DDCatch (fun _ _ _ => none)) m xs obs = some out := h
  cases hb : Nat.beq g 21 with
  | true => obtain rfl := qak.1 hb; exact ⟨_, Tryd.func21, rfl, rfl⟩
  | false => rw [hb] at h; cases h
 ·obtain ⟨hp, h⟩ := qaa h
  unfold SDParse at h
  split at h
  ·refine ⟨by simp [Tryd.f9], ?_⟩
   rw [gDParse_eq]
   exact (nDParse _ hp).trans h
  ·cases h
theorem q6z (hm : MX) : OKS 8 q5w SLAwake :=
 qai (E := ELAwake) (N := 40) (keep := false) hm (fun g => (qac (q8y hm) (qac (qoq hm) qah))) Tryd.func8 rfl rfl q9i rfl (by
  intro xs obs out hp h
  unfold SLAwake at h
  split at h
  ·refine ⟨by simp [Tryd.f8], ?_⟩
   rw [q93]
   exact (nLAwake hp).trans h
  ·cases h    )
theorem q7x (hm : MX) : OKS 28 q5s SSEqual :=
 qai (E := ESEqual) (N := 40) (keep := false) hm (fun g => qah) Tryd.func28 rfl rfl q8w rfl (by
  intro xs obs out hp h
  unfold SSEqual at h
  split at h
  ·refine ⟨by simp [Tryd.f28], ?_⟩
   rw [gSEqual_eq]
   exact (nSEqual _ _ hp).trans h
  ·cases h    )
theorem soundREqF (hm : MX) (rk : Nat) (hD : OKS 20 (qd3 rk) SDSame) : OKS 29 (xbav rk) SEqF :=
 qai (E := EEqF rk) (N := 40) (keep := false) hm (fun g => (qac (hD) qah)) Tryd.func29 rfl rfl (loopsEqF rk) rfl (by
  intro xs obs out hp h
  unfold SEqF at h
  split at h
  ·refine ⟨by simp [Tryd.f29], ?_⟩
   rw [gEqF_eq]
   exact (nEqF rk _ _ hp).trans h
  ·cases h)
theorem q7u (hm : MX) (rk : Nat) (hD : OKS 20 (qd3 rk) SDSame) (hE : OKS 29 (xbav rk) SEqF) : OKS 20 (qd3 (rk + 1)) SDSame :=
 qai (E := EDSame rk) (N := 40) (keep := false) hm (fun g => (qac (hD) (qac (q7x hm) (qac (hE) qah)))) Tryd.func20 rfl rfl (loopsDSame rk) rfl (by
  intro xs obs out hq h
  have hp : qd3 (rk + 1) xs obs = true := hq
  have hp0 : qd3 (rk + 1) xs obs = true := hq
  clear hq
  unfold qd3 at hp
  split at hp
  ·rename_i a b
   simp only [Bool.and_eq_true] at hp
   obtain ⟨_, ta, ba, ka, _, rfl, _⟩ := qqo (qkt hp.1)
   obtain ⟨_, hn⟩ := qn7 hp.2
   obtain ⟨_, tb, bb, kb, _, rfl, _⟩ := qqo hn
   refine ⟨by simp [Tryd.f20], ?_⟩
   rw [gDSame_eq]
   exact (nDSame rk ta ba ka tb bb kb hp0).trans h
  ·cases hp)
theorem soundRD (hm : MX) : ∀ rk, OKS 20 (qd3 rk) SDSame
 | 0 => qdq fun xs obs h => by
  unfold qd3 at h
  split at h
  ·simp only [Bool.and_eq_true] at h
   have := qkt h.1
   simp [isNf] at this
  ·cases h
 | rk + 1 => q7u hm rk (soundRD hm rk) (soundREqF hm rk (soundRD hm rk))
theorem soundDSame (hm : MX) : OKS 20 q40 SDSame :=
 qcx (fun rk => soundRD hm rk) fun xs obs h => by
  unfold q40 at h
  split at h
  ·rename_i a b
   simp only [Bool.and_eq_true] at h
   obtain ⟨n, hn⟩ := qn7 h.1
   refine ⟨n, ?_⟩
   show (isNr n a && isN b) = true
   rw [q5q hn, h.2]
   rfl
  ·cases h
theorem qs4 (hm : MX) : ∀ rk, OKS 12 (qgd rk) SRSmall
 | 0 => qdq fun xs obs h => by
  unfold qgd at h
  split at h
  ·simp only [Bool.and_eq_true] at h; have := qwm h.1; simp [isTf] at this
  ·cases h
 | rk + 1 => qai (E := ERSmall rk) (N := 40) (keep := false) hm (fun g => (qac (qs4 hm rk) qah)) Tryd.func12 rfl rfl (q9b rk) rfl (by
  intro xs obs out hq h
  have hp : qgd (rk + 1) xs obs = true := hq
  have hp0 : qgd (rk + 1) xs obs = true := hq
  clear hq
  unfold qgd at hp
  split at hp
  ·rename_i a n
   try simp only [Bool.and_eq_true] at hp
   have ha := qwm hp.1
   obtain ⟨_, ta, ba, ka, _, rfl, _⟩ := qcs ha
   refine ⟨by simp [Tryd.f12], ?_⟩
   rw [xbao]
   exact (nRSmall rk ta ba ka n hp0).trans h
  ·cases hp)
theorem q7j (hm : MX) : OKS 12 qwy SRSmall :=
 qcx (fun rk => qs4 hm rk) fun xs obs h => by
  unfold qwy at h
  split at h
  ·rename_i a n
   simp only [Bool.and_eq_true] at h
   obtain ⟨n', hn⟩ := qx0 h.1
   refine ⟨n', ?_⟩
   show (isTr n' a && qm3 n) = true
   rw [isTr_of hn, h.2]; rfl
  ·cases h
theorem qve (hm : MX) : ∀ rk, OKS 25 (qj3 rk) SDSize
 | 0 => qdq fun xs obs h => by
  unfold qj3 at h
  split at h
  ·simp only [Bool.and_eq_true] at h; have := (qj9 h.1).1; simp [isTf] at this
  ·cases h
 | rk + 1 => qai (E := EDSize rk) (N := 40) (keep := false) hm (fun g => (qac (qf5 hm) (qac (qve hm rk) (qac (qvs hm) (qac (qyx hm) (qac (qi7 hm) qah)))))) Tryd.func25 rfl rfl (xbay rk) rfl (by
  intro xs obs out hq h
  have hp : qj3 (rk + 1) xs obs = true := hq
  have hp0 : qj3 (rk + 1) xs obs = true := hq
  clear hq
  unfold qj3 at hp
  split at hp
  ·rename_i a n
   try simp only [Bool.and_eq_true] at hp
   have ha := (qj9 hp.1).1
   obtain ⟨_, ta, ba, ka, _, rfl, _⟩ := qcs ha
   refine ⟨by simp [Tryd.f25], ?_⟩
   rw [gDSize_eq]
   exact (nDSize rk ta ba ka n hp0).trans h
  ·cases hp)
theorem soundDSize (hm : MX) : OKS 25 q3u SDSize :=
 qcx (fun rk => qve hm rk) fun xs obs h => by
  unfold q3u at h
  split at h
  ·rename_i a n
   simp only [Bool.and_eq_true] at h
   obtain ⟨n', hn, hb⟩ := qdr h.1
   refine ⟨n', ?_⟩
   show (isSr n' a && qcb n) = true
   rw [q5u hn hb, h.2]; rfl
  ·cases h
theorem soundDPut (hm : MX) : OKS 41 preDPut SDPut :=
 qai (E := EDPut) (N := 40) (keep := true) hm (fun g => (qac (qi7 hm) qah)) Tryd.func41 rfl rfl loopsDPut rfl (by
  intro xs obs out hp h
  unfold SDPut at h
  split at h
  ·refine ⟨by simp [Tryd.f41], ?_⟩
   rw [gDPut_eq]
   exact (nDPut _ _ hp).trans h
  ·cases h    )
theorem xbbr (hm : MX) : OKS 44 preRHead SRHead :=
 qai (E := ERHead) (N := 40) (keep := true) hm (fun g => qah) Tryd.func44 rfl rfl loopsRHead rfl (by
  intro xs obs out hp h
  unfold SRHead at h
  split at h
  ·refine ⟨by simp [Tryd.f44], ?_⟩
   rw [gRHead_eq]
   exact (nRHead _ _ hp).trans h
  ·cases h    )
theorem q9e (hm : MX) : OKS 45 q6e SR1Join :=
 qai (E := ER1Join) (N := 40) (keep := false) hm (fun g => qah) Tryd.func45 rfl rfl q8d rfl (by
  intro xs obs out hp h
  unfold SR1Join at h
  split at h
  ·refine ⟨by simp [Tryd.f45], ?_⟩
   rw [gR1Join_eq]
   exact (nR1Join _ hp).trans h
  ·cases h    )
theorem q3m (hm : MX) : OKS 43 qzp SSConcat :=
 qai (E := ESConcat) (N := 40) (keep := false) hm (fun g => (qac (soundSGrow hm) qah)) Tryd.func43 rfl rfl q0y rfl (by
  intro xs obs out hp h
  unfold SSConcat at h
  split at h
  ·refine ⟨by simp [Tryd.f43], ?_⟩
   rw [q66]
   exact (nSConcat _ hp).trans h
  ·cases h    )
theorem qrk (hm : MX) : ∀ rk, OKS 26 (qf9 rk) SDWrite
 | 0 => qdq fun xs obs h => by
  unfold qf9 at h
  split at h
  ·have := (qwg h).1; simp [isTf] at this
  ·cases h
 | rk + 1 => qai (E := EDWrite rk) (N := 40) (keep := false) hm (fun g => (qac (qf5 hm) (qac (qrk hm rk) (qac (soundDPut hm) (qac (qtz hm) (qac (q3m hm) qah)))))) Tryd.func26 rfl rfl (q8p rk) rfl (by
  intro xs obs out hq h
  have hp : qf9 (rk + 1) xs obs = true := hq
  have hp0 : qf9 (rk + 1) xs obs = true := hq
  clear hq
  unfold qf9 at hp
  split at hp
  ·rename_i a
   try simp only [Bool.and_eq_true] at hp
   have ha := (qwg hp).1
   obtain ⟨_, ta, ba, ka, _, rfl, _⟩ := qcs ha
   refine ⟨by simp [Tryd.f26], ?_⟩
   rw [gDWrite_eq]
   exact (nDWrite rk ta ba ka hp0).trans h
  ·cases hp)
theorem q8n (hm : MX) : OKS 26 qwd SDWrite :=
 qcx (fun rk => qrk hm rk) fun xs obs h => by
  unfold qwd at h
  split at h
  ·rename_i a
   unfold isW at h
   rw [qae] at h
   obtain ⟨n, hn⟩ := @of_decide_eq_true _ (Classical.propDecidable _) h
   exact ⟨n, isWr_of hn⟩
  ·cases h
theorem qtj (hm : MX) : ∀ rk, OKS 27 (qgc rk) SRWrite
 | 0 => qdq fun xs obs h => by
  unfold qgc at h
  split at h
  ·simp only [Bool.and_eq_true] at h; have := (qj9 h.1).1; simp [isTf] at this
  ·cases h
 | rk + 1 => qai (E := ERWrite rk) (N := 40) (keep := false) hm (fun g => (qac (qoj hm) (qac (qtj hm rk) (qac (q2h hm) (qac (soundRFits hm) (qac (qy4 hm) (qac (xbbr hm) (qac (q9e hm) qah)))))))) Tryd.func27 rfl rfl (q74 rk) rfl (by
  intro xs obs out hq h
  have hp : qgc (rk + 1) xs obs = true := hq
  have hp0 : qgc (rk + 1) xs obs = true := hq
  clear hq
  unfold qgc at hp
  split at hp
  ·rename_i a n
   try simp only [Bool.and_eq_true] at hp
   have ha := (qj9 hp.1).1
   obtain ⟨_, ta, ba, ka, _, rfl, _⟩ := qcs ha
   refine ⟨by simp [Tryd.f27], ?_⟩
   rw [gRWrite_eq]
   exact (nRWrite rk ta ba ka n hp0).trans h
  ·cases hp)
theorem q8e (hm : MX) : OKS 27 qws SRWrite :=
 qcx (fun rk => qtj hm rk) fun xs obs h => by
  unfold qws at h
  split at h
  ·rename_i a n
   simp only [Bool.and_eq_true] at h
   obtain ⟨n', hn, hb⟩ := qdr h.1
   refine ⟨n', ?_⟩
   show (isSr n' a && qcb n) = true
   rw [q5u hn hb, h.2]; rfl
  ·cases h
theorem qux (hm : MX) : OKS 14 qkc SDBytes :=
 qai (E := EDBytes) (N := 40) (keep := false) hm (fun g => (qac (soundDSize hm) (qac (q8n hm) qah))) Tryd.func14 rfl rfl q7f rfl (by
  intro xs obs out hq h
  have hp : qkc xs obs = true := hq
  have hp0 : qkc xs obs = true := hq
  clear hq
  unfold qkc at hp
  split at hp
  ·rename_i a
   try simp only [Bool.and_eq_true] at hp
   obtain ⟨_, ha, _⟩ := qdr hp
   obtain ⟨_, ta, ba, ka, _, rfl, _⟩ := qcs ha
   refine ⟨by simp [Tryd.f14], ?_⟩
   rw [xbad]
   exact (nDBytes ta ba ka hp0).trans h
  ·cases hp)
theorem soundDFit_ (hm : MX) : OKS 16 qsk SDFit_ :=
 qai (E := EDFit_) (N := 40) (keep := false) hm (fun g => (qac (qux hm) qah)) Tryd.func16 rfl rfl loopsDFit_ rfl (by
  intro xs obs out hq h
  have hp : qsk xs obs = true := hq
  have hp0 : qsk xs obs = true := hq
  clear hq
  unfold qsk at hp
  split at hp
  ·rename_i a
   try simp only [Bool.and_eq_true] at hp
   obtain ⟨_, ha, _⟩ := qdr hp
   obtain ⟨_, ta, ba, ka, _, rfl, _⟩ := qcs ha
   refine ⟨by simp [Tryd.f16], ?_⟩
   rw [gDFit__eq]
   exact (nDFit_ ta ba ka hp0).trans h
  ·cases hp)
theorem quq (hm : MX) : OKS 17 qj6 SRBytes :=
 qai (E := ERBytes) (N := 40) (keep := false) hm (fun g => (qac (q8e hm) qah)) Tryd.func17 rfl rfl q7n rfl (by
  intro xs obs out hq h
  have hp : qj6 xs obs = true := hq
  have hp0 : qj6 xs obs = true := hq
  clear hq
  unfold qj6 at hp
  split at hp
  ·rename_i a
   try simp only [Bool.and_eq_true] at hp
   obtain ⟨_, ha, _⟩ := qdr hp
   obtain ⟨_, ta, ba, ka, _, rfl, _⟩ := qcs ha
   refine ⟨by simp [Tryd.f17], ?_⟩
   rw [xbbm]
   exact (nRBytes ta ba ka hp0).trans h
  ·cases hp)
theorem xbbu (hm : MX) : OKS 13 qst SRFit_ :=
 qai (E := ERFit_) (N := 40) (keep := false) hm (fun g => (qac (quq hm) qah)) Tryd.func13 rfl rfl xbbl rfl (by
  intro xs obs out hq h
  have hp : qst xs obs = true := hq
  have hp0 : qst xs obs = true := hq
  clear hq
  unfold qst at hp
  split at hp
  ·rename_i a
   try simp only [Bool.and_eq_true] at hp
   obtain ⟨_, ha, _⟩ := qdr hp
   obtain ⟨_, ta, ba, ka, _, rfl, _⟩ := qcs ha
   refine ⟨by simp [Tryd.f13], ?_⟩
   rw [gRFit__eq]
   exact (nRFit_ ta ba ka hp0).trans h
  ·cases hp)
theorem q8h (hm : MX) : OKS 7 qki SLTells :=
 qai (E := ELTells) (N := 40) (keep := false) hm (fun g => (qac (q6z hm) (qac (soundRSame hm) (qac (q7j hm) (qac (xbbu hm) (qac (qux hm) (qac (qoq hm) (qac (soundDFit_ hm) (qac (quq hm) (qac (qf5 hm) (qac (qoj hm) (qac (soundDSame hm) qah)))))))))))) Tryd.func7 rfl rfl q7s rfl (by
  intro xs obs out hq h
  have hp : qki xs obs = true := hq
  have hp0 : qki xs obs = true := hq
  clear hq
  unfold qki at hp
  split at hp
  ·rename_i a b n
   try simp only [Bool.and_eq_true] at hp
   obtain ⟨_, ha⟩ := qx0 hp.1
   obtain ⟨_, ta, ba, ka, _, rfl, _⟩ := qcs ha
   obtain ⟨_, hb⟩ := qx0 hp.2
   obtain ⟨_, tb, bb, kb, _, rfl, _⟩ := qcs hb
   refine ⟨by simp [Tryd.f7], ?_⟩
   rw [gLTells_eq]
   exact (nLTells ta ba ka tb bb kb n hp0).trans h
  ·cases hp)
end Go.Proofs.YtbgkadaidhgggaaDoorA

namespace Go.Proofs.YtbgkadaidhgggaaDoorA
open Go.ChangeShapes Go.WideShapes Go.ChangeAt Go.RowKit

/-- nothing that was there has turned, block by block -/
def Still (W W' : World) : Prop := Stays W W' /\ ∀ b : Nat, b < W.heap.size -> W'.heap[b]? = W.heap[b]?

theorem law_preG {glob : Nat -> Option CV} {W : World} {xs : List V} {vs : List Value} (hg : ∀ g c, glob g = some c -> CRep W (fun b => b < W.heap.size) (.vp c 0 0) (.pointer (some ⟨g, 0, none⟩))) (h : RepL W (fun b => b < W.heap.size) (fun _ => none) (fun _ => none) xs vs) : Pre glob W (fun b => b < W.heap.size) (fun _ => none) (fun _ => False) xs [] vs := by
 refine ⟨by simp, h, ⟨fun b hb => hb, fun b hb => hb, fun p o hp => (by cases hp), fun p q o o' b x y x' y' hp => (by cases hp), fun p o b x y hp => (by cases hp), fun b hb => .inl hb⟩, hg⟩

theorem law_callsG {glob : Nat -> Option CV} {P : Program} {g : FuncId} {fn : Func} {S : FSpec} (hs : Sound P glob g S) (hf : P.funcs[g]? = some fn) (hn : (fn.name == "runtime.NumGoroutine") = false) (hb : fn.body.isSome = true) {xs : List V} {vs : List Value} {W : World}
  (hg : ∀ g c, glob g = some c -> CRep W (fun b => b < W.heap.size) (.vp c 0 0) (.pointer (some ⟨g, 0, none⟩)))
  (hS : S xs [] = some (.ret [.cl (.bool true)] [])) (h : RepL W (fun b => b < W.heap.size) (fun _ => none) (fun _ => none) xs vs) : Calls P g vs.toArray W fun e W' => e = .returned (.bool true) /\ Still W W' := by
 have hr := hs xs [] _ W _ _ _ vs hS (law_preG hg h)
 have key : ∀ e W', Ends W (fun b => b < W.heap.size) (fun _ => none) (fun _ => False) [] (.ret [.cl (.bool true)] []) e W' -> e = .returned (.bool true) /\ Still W W' := fun e W' he => by
  obtain ⟨us, Im', ρ', rfl, hp, hl, hv⟩ := he
  refine ⟨?_, left_of hp.fr, fun b hb => hp.fr.block b hb fun f => f⟩
  match us, hl with
  | [u], _ =>
   have := hv 0 _ u rfl rfl
   have := this.bool
   rw [this]
   rfl
 rcases hr with ⟨_, hc⟩ | ⟨v, w', h1, _⟩
 ·exact hc.mono fun e W' he => key e W' he
 ·exfalso
  obtain ⟨c, hc⟩ := Option.isSome_iff_exists.1 hb
  have hn' : ¬ fn.name = "runtime.NumGoroutine" := by simpa using hn
  simp [callFunc, hf, hn', hc] at h1

/-! ### data that stay -/
theorem still_same {W W' : World} (h : Still W W') {p : MemPlace} (hp : p.block < W.heap.size) : W.sameAt W' p := by
 cases p with
 | cell b o =>
  show W'.cell? ⟨b, o, none⟩ = W.cell? ⟨b, o, none⟩
  unfold World.cell?
  rw [h.2 b hp]
 | map b => exact h.2 b hp

section
variable {H : Type} {enc : TypeId × Value -> H} {P : Program}
theorem qpv {W W' : World} (hl : laidOutB P = true) {sp : Nat -> Bool} : ∀ {ts : List TypeId} {vs : List Value} {ds : List (DataW H)} {ps : List MemPlace}, (∀ t ∈ ts, P.readableRec t = true /\ t < P.types.size) -> DataW.TrodAll enc P W 0 (fun _ => true) true ts vs ds ps -> (∀ p ∈ ps, W.sameAt W' p) -> (∀ p ∈ ps, sp p.block = true) -> DataW.TrodAll enc P W' 0 sp true ts vs ds ps
 | [], vs, ds, ps, _, h, _, _ => by
  obtain ⟨rfl, rfl, rfl⟩ := trodAll_nil h
  exact trodAll_mk0
 | t :: ts, vs, ds, ps, ht, h, hs, hp => by
  obtain ⟨v, vs', d, ds', p, q, rfl, rfl, rfl, h1, h2⟩ := trodAll_cons h
  refine trodAll_cons_mk (WideElems.Trod_stays hl (ht t (by simp)).1 (ht t (by simp)).2 h1 (fun x hx => hs x (by simp [hx])) fun x hx => hp x (by simp [hx])) (qpv hl (fun t' ht' => ht t' (by simp [ht'])) h2 (fun x hx => hs x (by simp [hx])) fun x hx => hp x (by simp [hx]))

/-! ### what came in -/
theorem qzm {W : World} {a : Addr} {v : Value} (h : W.cell? a = some v) : a.block < W.heap.size := by
 unfold World.cell? at h
 split at h
 ·rename_i h1
  exact (Array.getElem?_eq_some_iff.1 h1).1
 ·cases h
/-- a slice of numbers that came in -/
theorem open_sli {W : World} {b0 : Nat} {t e : TypeId} {k : IntKind} {v : Value} {d : DataW H} {ps : List MemPlace} (ht : P.underlying t = some (.slice e)) (he : P.underlying e = some (.int k)) (hc : P.cellsOf e = 1)
  (hval : Value.okWide P W .any b0 t v) (h : DataW.Trod enc P W 0 (fun _ => true) true t v d ps) : ∃ l : List Int, CRep W (fun b => b < W.heap.size) (.sli k l) v /\ ∀ n ∈ l, (Lit.int k n).wf = true := by
 obtain ⟨a0, len0, cap0, rfl⟩ := okWide_slice ht hval
 obtain ⟨n, h⟩ := h
 rcases open_ints ht he hc h with ⟨hcs, _⟩ | ⟨a, len, cap, zs, hcs, _, hl, _, hz, _, hcell, hw⟩
 ·have hcs : [Value.slice a0 len0 cap0] = [.slice none 0 0] := hcs
  simp only [List.cons.injEq, Value.slice.injEq, and_true] at hcs
  obtain ⟨rfl, rfl, rfl⟩ := hcs
  exact ⟨[], .sli _ _ _ _ _ rfl (Nat.le_refl _) fun i n hi => by simp at hi, fun n hn => by simp at hn⟩
 ·have hcs : [Value.slice a0 len0 cap0] = [.slice (some a) len cap] := hcs
  simp only [List.cons.injEq, Value.slice.injEq, and_true] at hcs
  obtain ⟨rfl, rfl, rfl⟩ := hcs
  have hz : zs.length = cap0 := hz
  refine ⟨zs.take len0, .sli _ _ _ _ _ (by simp; omega) hl fun i n hi => ?_, fun n hn => hw n (List.mem_of_mem_take hn)⟩
  rw [List.getElem?_take] at hi
  split at hi
  ·rename_i hlt
   have hlz : i < zs.length := by omega
   have hx := hcell i hlz
   have e : zs.getD i 0 = n := by rw [List.getD_eq_getElem?_getD, hi]; rfl
   rw [e] at hx
   have := qzm hx
   rw [qfr] at this
   exact ⟨a, rfl, this, hx⟩
  ·cases hi
end

/-! ### the tables -/
theorem first_vp {W : World} (h : ∀ (i : Nat) (x : Int), qf0[i]? = some x -> W.cell? ⟨0, i, none⟩ = some (.int .u8 x)) : CRep W (fun b => b < W.heap.size) (.vp (.aggi 256 .u8 u8First) 0 0) (.pointer (some ⟨0, 0, none⟩)) := by
 have e : u8First = qf0 := qae _
 rw [e]
 have h0 := qzm (h 0 240 rfl)
 refine CRep.vp (.aggi 256 .u8 qf0) 0 0 1 (qf0.map (.int .u8)) 0 0 (fun i => .int .u8 (qf0.getD i 0)) rfl rfl h0 (fun j c hj => ?_) (fun j c hj => rfl) (fun j c hj => ?_)
 ·rw [List.getElem?_map] at hj
  obtain ⟨x, hx, rfl⟩ := Option.map_eq_some_iff.1 hj
  rw [Nat.zero_add, h j x hx, List.getD_eq_getElem?_getD, hx]
  rfl
 ·rw [List.getElem?_map] at hj
  obtain ⟨x, hx, rfl⟩ := Option.map_eq_some_iff.1 hj
  rw [List.getD_eq_getElem?_getD, hx]
  exact .int ..
def qge : List Int := [128, 191, 160, 191, 128, 159, 144, 191, 128, 143] ++ List.replicate 22 0
theorem accept_vp {W : World} (h : ∀ (i : Nat) (x : Int), qge[i]? = some x -> W.cell? ⟨1, i, none⟩ = some (.int .u8 x)) : CRep W (fun b => b < W.heap.size) (.vp (.agga 16 2 u8Accept) 0 0) (.pointer (some ⟨1, 0, none⟩)) := by
 have e : u8Accept = qk0 := qae _
 rw [e]
 have h0 := qzm (h 0 128 rfl)
 have ef : qk0.flatMap cell1 = qge.map (.int .u8) := rfl
 refine CRep.vp (.agga 16 2 qk0) 0 0 2 (qge.map (.int .u8)) 1 0 (fun i => .int .u8 (qge.getD i 0)) (by rw [<- ef]; rfl) ⟨rfl, fun c hc => ?_⟩ h0 (fun j c hj => ?_) (fun j c hj => rfl) (fun j c hj => ?_)
 ·unfold qk0 at hc
  obtain ⟨p, _, rfl⟩ := List.mem_map.1 hc
  rfl
 ·rw [List.getElem?_map] at hj
  obtain ⟨x, hx, rfl⟩ := Option.map_eq_some_iff.1 hj
  rw [Nat.zero_add, h j x hx, List.getD_eq_getElem?_getD, hx]
  rfl
 ·rw [List.getElem?_map] at hj
  obtain ⟨x, hx, rfl⟩ := Option.map_eq_some_iff.1 hj
  rw [List.getD_eq_getElem?_getD, hx]
  exact .int ..
def acceptD : DataW Unit := .agg [.agg [.lit (.int .u8 128), .lit (.int .u8 191)], .agg [.lit (.int .u8 160), .lit (.int .u8 191)], .agg [.lit (.int .u8 128), .lit (.int .u8 159)], .agg [.lit (.int .u8 144), .lit (.int .u8 191)], .agg [.lit (.int .u8 128), .lit (.int .u8 143)], .agg [.lit (.int .u8 0), .lit (.int .u8 0)], .agg [.lit (.int .u8 0), .lit (.int .u8 0)], .agg [.lit (.int .u8 0), .lit (.int .u8 0)], .agg [.lit (.int .u8 0), .lit (.int .u8 0)], .agg [.lit (.int .u8 0), .lit (.int .u8 0)], .agg [.lit (.int .u8 0), .lit (.int .u8 0)], .agg [.lit (.int .u8 0), .lit (.int .u8 0)], .agg [.lit (.int .u8 0), .lit (.int .u8 0)], .agg [.lit (.int .u8 0), .lit (.int .u8 0)], .agg [.lit (.int .u8 0), .lit (.int .u8 0)], .agg [.lit (.int .u8 0), .lit (.int .u8 0)]]
theorem gFirst : Tryd.prog.globalNamed "unicode/utf8.first" = some 0 := by kernel_rfl
theorem gAccept : Tryd.prog.globalNamed "unicode/utf8.acceptRanges" = some 1 := by kernel_rfl
theorem tFirst : (Tryd.prog.globals[0]?).map (·.type) = some 95 := by kernel_rfl
theorem tAccept : (Tryd.prog.globals[1]?).map (·.type) = some 98 := by kernel_rfl
theorem c5 : Tryd.prog.cellsOf 5 = 1 := by kernel_rfl
theorem c95 : Tryd.prog.cellsOf 95 = 256 := by kernel_rfl
theorem c97 : Tryd.prog.cellsOf 97 = 2 := by kernel_rfl
theorem pinned_eq : Go.Pinned.utf8First = Lib.tabData .u8 qf0 := by kernel_rfl
theorem q7d {W : World} (h : Lib.VarReads Tryd.prog W "unicode/utf8.first" Go.Pinned.utf8First) (i : Nat) (x : Int) (hx : qf0[i]? = some x) : W.cell? ⟨0, i, none⟩ = some (.int .u8 x) := by
 obtain ⟨g, t, cs, fuel, p, hg, ht, hv, hd⟩ := h
 obtain rfl := Option.some.inj (gFirst.symm.trans hg)
 obtain rfl := Option.some.inj (tFirst.symm.trans ht)
 rw [pinned_eq] at hd
 have hcs := Lib.cells_of_tab Tryd.underlying95 Tryd.underlying5 c5 c95 hd
 rw [World.var?_cell gFirst hv i, <- Array.getElem?_toList, hcs, List.getElem?_map, hx]
 rfl
theorem q43 {W : World} (h : Lib.VarReads Tryd.prog W "unicode/utf8.acceptRanges" acceptD) (i : Nat) (x : Int) (hx : qge[i]? = some x) : W.cell? ⟨1, i, none⟩ = some (.int .u8 x) := by
 obtain ⟨g, t, cs, fuel, p, hg, ht, hv, hd⟩ := h
 obtain rfl := Option.some.inj (gAccept.symm.trans hg)
 obtain rfl := Option.some.inj (tAccept.symm.trans ht)
 have hi : i < 32 := (List.getElem?_eq_some_iff.1 hx).1
 rw [World.var?_cell gAccept hv i, <- Array.getElem?_toList]
 obtain ⟨fuel', d, q, hdd, hf⟩ := Lib.array_elem Tryd.underlying98 hd (i / 2) (by omega)
 rw [c97] at hf
 have hz : d = .agg ([qge.getD (2 * (i / 2)) 0, qge.getD (2 * (i / 2) + 1) 0].map fun z => .lit (.int .u8 z)) := by
  have hall : ∀ j : Fin 16, ([.agg [.lit (.int .u8 128), .lit (.int .u8 191)], .agg [.lit (.int .u8 160), .lit (.int .u8 191)], .agg [.lit (.int .u8 128), .lit (.int .u8 159)], .agg [.lit (.int .u8 144), .lit (.int .u8 191)], .agg [.lit (.int .u8 128), .lit (.int .u8 143)], .agg [.lit (.int .u8 0), .lit (.int .u8 0)], .agg [.lit (.int .u8 0), .lit (.int .u8 0)], .agg [.lit (.int .u8 0), .lit (.int .u8 0)], .agg [.lit (.int .u8 0), .lit (.int .u8 0)], .agg [.lit (.int .u8 0), .lit (.int .u8 0)], .agg [.lit (.int .u8 0), .lit (.int .u8 0)], .agg [.lit (.int .u8 0), .lit (.int .u8 0)], .agg [.lit (.int .u8 0), .lit (.int .u8 0)], .agg [.lit (.int .u8 0), .lit (.int .u8 0)], .agg [.lit (.int .u8 0), .lit (.int .u8 0)], .agg [.lit (.int .u8 0), .lit (.int .u8 0)]] : List (DataW Unit))[j.val]? = some (.agg ([qge.getD (2 * j.val) 0, qge.getD (2 * j.val + 1) 0].map fun z => .lit (.int .u8 z))) := by
   intro ⟨j, hj⟩
   have hj' : j = 0 \/ j = 1 \/ j = 2 \/ j = 3 \/ j = 4 \/ j = 5 \/ j = 6 \/ j = 7 \/ j = 8 \/ j = 9 \/ j = 10 \/ j = 11 \/ j = 12 \/ j = 13 \/ j = 14 \/ j = 15 := by omega
   rcases hj' with rfl | rfl | rfl | rfl | rfl | rfl | rfl | rfl | rfl | rfl | rfl | rfl | rfl | rfl | rfl | rfl <;> rfl
  have := hall ⟨i / 2, by omega⟩
  exact Option.some.inj (hdd.symm.trans this)
 rw [hz] at hf
 have hcs := Lib.ints_of_struct Tryd.underlying97 (fun j f hj => by
  match j, hj with
  | 0, hj => cases hj; exact ⟨Tryd.underlying5, rfl, c5⟩
  | 1, hj => cases hj; exact ⟨Tryd.underlying5, rfl, c5⟩
  | j + 2, hj => simp at hj) c97 hf
 have hget := congrArg (·[i % 2]?) hcs
 simp only [List.getElem?_take, List.getElem?_drop] at hget
 rw [if_pos (by omega), show i / 2 * 2 + i % 2 = i by omega] at hget
 rw [hget]
 have hxd : qge.getD i 0 = x := by rw [List.getD_eq_getElem?_getD, hx]; rfl
 rcases Nat.mod_two_eq_zero_or_one i with h2 | h2
 ·rw [h2]
  show some (Value.int .u8 (qge.getD (2 * (i / 2)) 0)) = _
  rw [show 2 * (i / 2) = i by omega, hxd]
 ·rw [h2]
  show some (Value.int .u8 (qge.getD (2 * (i / 2) + 1) 0)) = _
  rw [show 2 * (i / 2) + 1 = i by omega, hxd]
/-- the tables laid, for a witness -/
def layRow (l : List Int) : Go.Obj -> Go.Obj
 | .cells _ t fr => .cells (l.map (Value.int .u8)).toArray t fr
 | o => o
def layDer (h : Array Go.Obj) : Array Go.Obj := (h.modify 0 (layRow qf0)).modify 1 (layRow qge)
theorem globs_der {W : World} (h1 : Lib.VarReads Tryd.prog W "unicode/utf8.first" Go.Pinned.utf8First) (h2 : Lib.VarReads Tryd.prog W "unicode/utf8.acceptRanges" acceptD) : ∀ g c, qb9 g = some c -> CRep W (fun b => b < W.heap.size) (.vp c 0 0) (.pointer (some ⟨g, 0, none⟩)) := by
 intro g c h
 unfold qb9 at h
 cases hb : Nat.beq g 0 with
 | true =>
  rw [hb] at h
  obtain rfl := qak.1 hb
  cases h
  exact first_vp (q7d h1)
 | false =>
  rw [hb] at h
  cases hb' : Nat.beq g 1 with
  | true =>
   rw [hb'] at h
   obtain rfl := qak.1 hb'
   cases h
   exact accept_vp (q43 h2)
  | false => rw [hb'] at h; cases h
end Go.Proofs.YtbgkadaidhgggaaDoorA

namespace Go.Proofs.YtbgkadaidhgggaaDoorA
open Go.ChangeShapes Go.WideShapes Go.ChangeAt Go.RowKit

theorem tf_mono : ∀ {k m : Nat} {y : List CV}, isTf k y = true -> k <= m -> isTf m y = true
 | k, m, y, hy, hkm => by
  obtain ⟨k', t, b, l, rfl, rfl, hb, hl⟩ := qcs hy
  obtain ⟨m, rfl⟩ : ∃ q, m = q + 1 := ⟨m - 1, by omega⟩
  refine tf_mk hb fun c hc => ?_
  obtain ⟨z, rfl, hz⟩ := hl c hc
  exact ⟨z, rfl, tf_mono hz (by omega)⟩
section
variable {H : Type} {enc : TypeId × Value -> H} {P : Program}
theorem sli_cells {W : World} {n : Nat} {t e : TypeId} {k : IntKind} {cs : List Value} {x : DataW H × List MemPlace} (ht : P.underlying t = some (.slice e)) (he : P.underlying e = some (.int k)) (hc : P.cellsOf e = 1)
  (h : DataW.trod enc P W 0 (fun _ => true) true n t cs = some x) : ∃ (v : Value) (l : List Int), cs = [v] /\ oneC v = true /\ CRep W (fun b => b < W.heap.size) (.sli k l) v /\ ∀ n ∈ l, (Lit.int k n).wf = true := by
 rcases open_ints ht he hc h with ⟨hcs, _⟩ | ⟨a, len, cap, zs, hcs, _, hl, _, hz, _, hcell, hw⟩
 ·exact ⟨_, [], hcs, rfl, .sli _ _ _ _ _ rfl (Nat.le_refl _) fun i n hi => by simp at hi, fun n hn => by simp at hn⟩
 ·have hz : zs.length = cap := hz
  refine ⟨_, zs.take len, hcs, rfl, .sli _ _ _ _ _ (by simp; omega) hl fun i n hi => ?_, fun n hn => hw n (List.mem_of_mem_take hn)⟩
  rw [List.getElem?_take] at hi
  split at hi
  ·rename_i hlt
   have hlz : i < zs.length := by omega
   have hx := hcell i hlz
   have e : zs.getD i 0 = n := by rw [List.getD_eq_getElem?_getD, hi]; rfl
   rw [e] at hx
   have := qzm hx
   rw [qfr] at this
   exact ⟨a, rfl, this, hx⟩
  ·cases hi
end
theorem c26 : Tryd.prog.cellsOf 26 = 3 := by kernel_rfl
theorem c3 : Tryd.prog.cellsOf 3 = 1 := by kernel_rfl
theorem c22 : Tryd.prog.cellsOf 22 = 1 := by kernel_rfl
theorem c24 : Tryd.prog.cellsOf 24 = 1 := by kernel_rfl
theorem qz6 {H : Type} {enc : TypeId × Value -> H} {W : World} : ∀ (n : Nat) (cs : List Value) (x : DataW H × List MemPlace), DataW.trod enc Tryd.prog W 0 (fun _ => true) true n 26 cs = some x ->
  ∃ (y : List CV), isTf n y = true /\ cs.length = 3 /\ y.length = 3 /\ ∀ (r : Nat) (c : CV) (v : Value), y[r]? = some c -> cs[r]? = some v -> oneC v = true /\ CRep W (fun b => b < W.heap.size) c v
 | n, cs, x, h => by
  obtain ⟨xs, m, rfl, hx, hl, hxl, hall⟩ := DataW.trod_struct Tryd.underlying26 h
  rw [c26] at hl
  have hxl : xs.length = 3 := hxl
  match cs, hl, xs, hxl with
  | [v0, v1, v2], _, [x0, x1, x2], _ =>
   have h0 := hall 0 _ rfl
   have h1 := hall 1 _ rfl
   have h2 := hall 2 _ rfl
   have h0 : DataW.trod enc Tryd.prog W 0 (fun _ => true) true m 3 (([v0, v1, v2].drop 0).take (Tryd.prog.cellsOf 3)) = some x0 := h0
   have h1 : DataW.trod enc Tryd.prog W 0 (fun _ => true) true m 22 (([v0, v1, v2].drop 1).take (Tryd.prog.cellsOf 22)) = some x1 := h1
   have h2 : DataW.trod enc Tryd.prog W 0 (fun _ => true) true m 24 (([v0, v1, v2].drop 2).take (Tryd.prog.cellsOf 24)) = some x2 := h2
   rw [c3] at h0
   rw [c22] at h1
   rw [c24] at h2
   have h0 : DataW.trod enc Tryd.prog W 0 (fun _ => true) true m 3 [v0] = some x0 := h0
   have h1 : DataW.trod enc Tryd.prog W 0 (fun _ => true) true m 22 [v1] = some x1 := h1
   have h2 : DataW.trod enc Tryd.prog W 0 (fun _ => true) true m 24 [v2] = some x2 := h2
   obtain ⟨t, e0, _, _⟩ := DataW.trod_int Tryd.underlying3 h0
   obtain ⟨vb, b, e1, ob, rb, wb⟩ := sli_cells Tryd.underlying22 Tryd.underlying5 c5 h1
   simp only [List.cons.injEq, and_true] at e0 e1
   subst e0 e1
   have kids : ∃ l : List CV, (∀ c ∈ l, ∃ y, c = .agg y /\ isTf m y = true) /\ oneC v2 = true /\ CRep W (fun b => b < W.heap.size) (.slg 3 l) v2 := by
    rcases DataW.trod_slice Tryd.underlying24 h2 with ⟨hcs, _⟩ | ⟨a, len, cap, elems, rest, m', hm, hcs, _, _, hlc, _, hel, hcell, _, _⟩
    ·replace hcs := (List.cons.inj hcs).1
     subst hcs
     exact ⟨[], fun c hc => by simp at hc, rfl, .slg 3 [] none 0 0 (fun _ => .nilIface) (fun c hc => by simp at hc) rfl (Nat.le_refl _) (fun j c hj => by simp at hj) (fun j c hj => by simp at hj) (fun j c hj => by simp at hj)⟩
    ·replace hcs := (List.cons.inj hcs).1
     subst hcs
     rw [c26] at hcell
     have hch : ∀ i, i < len -> ∃ y : List CV, isTf m' y = true /\ y.length = 3 /\ ∀ (r : Nat) (c : CV), y[r]? = some c -> ∃ v, W.cell? (a.add (i * 3 + r)) = some v /\ oneC v = true /\ CRep W (fun b => b < W.heap.size) c v := fun i hi => by
      have hx := hcell i hi
      rw [List.getElem?_eq_getElem (by omega : i < elems.length), Option.bind_eq_some_iff] at hx
      obtain ⟨ci, hci, hti⟩ := hx
      obtain ⟨y, hy, hcl, hyl, hrep⟩ := qz6 m' ci _ hti
      obtain ⟨_, _, hcc⟩ := World.cells?_some hci
      refine ⟨y, hy, hyl, fun r c hr => ?_⟩
      have hr3 : r < 3 := by have := (List.getElem?_eq_some_iff.1 hr).1; omega
      obtain ⟨v, hv⟩ := qbh (b := ci) (i := r) (by omega)
      have := hcc r hr3
      rw [hv, q5j] at this
      obtain ⟨o1, o2⟩ := hrep r c v hr hv
      exact ⟨v, this, o1, o2⟩
     have hg : ∃ g : Nat -> List CV, ∀ i, i < len -> isTf m' (g i) = true /\ (g i).length = 3 /\ ∀ (r : Nat) (c : CV), (g i)[r]? = some c -> ∃ v, W.cell? (a.add (i * 3 + r)) = some v /\ oneC v = true /\ CRep W (fun b => b < W.heap.size) c v :=
      ⟨fun i => @dite _ (i < len) (Classical.propDecidable _) (fun h => Classical.choose (hch i h)) (fun _ => []), fun i hi => by
       simp only []
       rw [@dif_pos _ (Classical.propDecidable _) hi]
       exact Classical.choose_spec (hch i hi)⟩
     obtain ⟨g, hg⟩ := hg
     have hmem : ∀ c ∈ (List.range len).map fun i => CV.agg (g i), (cell1 c).length = 3 := fun c hc => by
      obtain ⟨i, hi, rfl⟩ := List.mem_map.1 hc
      exact (hg i (List.mem_range.1 hi)).2.1
     have key : ∀ (j : Nat) (c : CV), (((List.range len).map fun i => CV.agg (g i)).flatMap cell1)[j]? = some c -> ∃ v, W.cell? (a.add j) = some v /\ oneC v = true /\ CRep W (fun b => b < W.heap.size) c v := fun j c hj => by
      have hlt := (List.getElem?_eq_some_iff.1 hj).1
      rw [qbt hmem, List.length_map, List.length_range] at hlt
      have hi : j / 3 < len := by omega
      have hfl := qrq (f := cell1) (e := 3) (l := (List.range len).map fun i => CV.agg (g i)) (i := j / 3) (c := .agg (g (j / 3))) (j % 3) hmem (by simp [hi]) (Nat.mod_lt _ (by omega))
      rw [show j / 3 * 3 + j % 3 = j by omega, hj] at hfl
      obtain ⟨v, h1, h2, h3⟩ := (hg _ hi).2.2 (j % 3) c hfl.symm
      rw [show j / 3 * 3 + j % 3 = j by omega] at h1
      exact ⟨v, h1, h2, h3⟩
     refine ⟨(List.range len).map fun i => CV.agg (g i), fun c hc => ?_, rfl, .slg 3 _ (some a) len cap (fun j => (W.cell? (a.add j)).getD .nilIface) hmem (by simp) hlc (fun j c hj => ?_) (fun j c hj => ?_) fun j c hj => ?_⟩
     ·obtain ⟨i, hi, rfl⟩ := List.mem_map.1 hc
      exact ⟨_, rfl, tf_mono (hg i (List.mem_range.1 hi)).1 (by omega)⟩
     ·obtain ⟨v, h1, h2, h3⟩ := key j c hj
      have := qzm h1
      rw [qfr] at this
      exact ⟨a, rfl, this, by rw [h1]; rfl⟩
     ·obtain ⟨v, h1, h2, h3⟩ := key j c hj
      rw [h1]; exact h2
     ·obtain ⟨v, h1, h2, h3⟩ := key j c hj
      rw [h1]; exact h3
   obtain ⟨l, hk, ok2, rk2⟩ := kids
   refine ⟨[.int .i64 t, .sli .u8 b, .slg 3 l], tf_mk (fun z hz => xbbz (wb z hz)) hk, rfl, rfl, fun r c v hr hv => ?_⟩
   match r, hr, hv with
   | 0, hr, hv => cases hr; cases hv; exact ⟨rfl, .int ..⟩
   | 1, hr, hv => cases hr; cases hv; exact ⟨ob, rb⟩
   | 2, hr, hv => cases hr; cases hv; exact ⟨ok2, rk2⟩
   | r + 3, hr, hv => simp at hr
theorem q5a {H : Type} {enc : TypeId × Value -> H} {W : World} {b0 : Nat} {v : Value} {d : DataW H} {ps : List MemPlace} (hval : Value.okWide Tryd.prog W .any b0 26 v) (h : DataW.Trod enc Tryd.prog W 0 (fun _ => true) true 26 v d ps) :
  ∃ a : List CV, CRep W (fun b => b < W.heap.size) (.agg a) v /\ isT a = true := by
 obtain ⟨cs, rfl, hcs⟩ := okWide_struct Tryd.underlying26 hval
 obtain ⟨n, h⟩ := h
 have h : DataW.trod enc Tryd.prog W 0 (fun _ => true) true n 26 cs.toList = some (d, ps) := h
 obtain ⟨y, hy, hl, hyl, hrep⟩ := qz6 n cs.toList _ h
 refine ⟨y, ?_, isT_of hy⟩
 have : CRep W (fun b => b < W.heap.size) (.agg y) (.agg cs.toList.toArray) := .agg y cs.toList (by omega) (fun v hv => ?_) fun j c v hj hv => (hrep j c v hj hv).2
 ·simpa using this
 ·obtain ⟨r, hr⟩ := List.mem_iff_getElem?.1 hv
  have hr3 := (List.getElem?_eq_some_iff.1 hr).1
  obtain ⟨c, hc⟩ := qbh (b := y) (i := r) (by omega)
  exact (hrep r c v hc hr).1
end Go.Proofs.YtbgkadaidhgggaaDoorA
