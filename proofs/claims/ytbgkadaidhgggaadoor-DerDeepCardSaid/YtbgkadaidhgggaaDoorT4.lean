/-
  The library's comparison of bytes: its contract holds. Conditions: none.
-/
import Derived.Test.YtbgkadaidhgggaaDoorT3a
import Derived.Lib.BytesEntry
import Derived.Test.YtbgkadaidhgggaaDoorT3b
import Derived.Test.YtbgkadaidhgggaaDoorK3
import Derived.Test.YtbgkadaidhgggaaDoorT1
import Derived.Test.YtbgkadaidhgggaaDoorProg
import Derived.WideKeyArgs
import Derived.Lib.LaidU8
import Derived.ChangeSlices
import GoSem.PinnedTables
set_option linter.unusedVariables false
set_option linter.unusedSimpArgs false
namespace Go.Proofs.YtbgkadaidhgggaaDoorA

theorem load_sli {P : Program} {w : World} {Im : Nat → Prop} {l : List Int} {v : Value} (h : CRep w Im (.sli .u8 l) v) : (Extern.Bytes.bytesOf v).run P w = .ok ⟨(Lib.bytesOf l).toArray⟩ w := by
  cases h with
  | sli _ _ a len cap hl hc hcell =>
    cases a with
    | none =>
      have : l = [] := by
        cases l with
        | nil => rfl
        | cons x r => obtain ⟨ad, e, _⟩ := hcell 0 x rfl; cases e
      subst this
      rfl
    | some ad =>
      subst hl
      have := Lib.run_loadBytesX (P := P) w l ad .empty (fun j x hj => by obtain ⟨ad', e, _, hc⟩ := hcell j x hj; cases e; exact hc)
      refine this.trans ?_
      congr 1
      apply ByteArray.ext
      show (#[] : Array UInt8) ++ (Lib.bytesOf l).toArray = (Lib.bytesOf l).toArray
      simp
theorem cmp_list : ∀ (a b : List Int), (∀ x ∈ a, 0 ≤ x ∧ x ≤ 255) → (∀ x ∈ b, 0 ≤ x ∧ x ≤ 255) → Lib.compareBytes (Lib.bytesOf a) (Lib.bytesOf b) = listCmpC a b
  | [], [], _, _ => rfl
  | [], _ :: _, _, _ => rfl
  | _ :: _, [], _, _ => rfl
  | x :: a, y :: b, ha, hb => by
    have ih := cmp_list a b (fun z hz => ha z (List.mem_cons_of_mem _ hz)) (fun z hz => hb z (List.mem_cons_of_mem _ hz))
    have hx := ha x (List.mem_cons_self ..)
    have hy := hb y (List.mem_cons_self ..)
    have e1 : (UInt8.ofNat x.toNat < UInt8.ofNat y.toNat) ↔ x < y := by
      rw [UInt8.lt_iff_toNat_lt, UInt8.toNat_ofNat', UInt8.toNat_ofNat']
      omega
    have e2 : (UInt8.ofNat y.toNat < UInt8.ofNat x.toNat) ↔ y < x := by
      rw [UInt8.lt_iff_toNat_lt, UInt8.toNat_ofNat', UInt8.toNat_ofNat']
      omega
    show (if UInt8.ofNat x.toNat < UInt8.ofNat y.toNat then (-1 : Int) else if UInt8.ofNat y.toNat < UInt8.ofNat x.toNat then 1 else Lib.compareBytes (Lib.bytesOf a) (Lib.bytesOf b)) = (if x < y then -1 else if y < x then 1 else listCmpC a b)
    simp only [e1, e2, ih]
theorem run_cmp {P : Program} {w : World} {Im : Nat → Prop} {a b : List Int} {va vb : Value} (ha : CRep w Im (.sli .u8 a) va) (hb : CRep w Im (.sli .u8 b) vb) (h1 : ∀ x ∈ a, 0 ≤ x ∧ x ≤ 255) (h2 : ∀ x ∈ b, 0 ≤ x ∧ x ≤ 255) :
    (Extern.BytealgCompare.compare #[va, vb]).run P w = .ok (.int .i64 (listCmpC a b)) w := by
  change Sem.run P (do pure (goInt (Extern.BytealgCompare.cmp (← Extern.Bytes.bytesOf va) (← Extern.Bytes.bytesOf vb)))) w = _
  simp only [Sem.run_bind, Sem.run_pure, load_sli ha, load_sli hb, Result.andThen]
  rw [Lib.cmp_eq]
  show Result.ok (Value.int .i64 (Lib.compareBytes (Lib.bytesOf a) (Lib.bytesOf b))) w = _
  rw [cmp_list a b h1 h2]

theorem soundBACompare (hm : Tryd.prog.follows .mixedOrders = true) : Sound Tryd.prog glDer 74 (fun xs obs => cond (preBACompare xs obs) (SBACompare xs obs).eval none) := by
  intro xs obs out w Im ρ bl vs hs hpre
  obtain ⟨h1, h2⟩ := cond_some hs
  unfold preBACompare at h1
  split at h1
  · rename_i a b
    simp only [Bool.and_eq_true] at h1
    have h2 : some (Out.ret [.cl (.int .i64 (listCmp a b))] []) = some out := h2
    cases h2
    have hl : vs.length = 2 := hpre.reps.1
    match vs, hl, hpre with
    | [va, vb], _, hpre =>
      have ra : CRep w Im (.sli .u8 a) va := by have := hpre.reps.2 0 _ _ rfl rfl; cases this; assumption
      have rb : CRep w Im (.sli .u8 b) vb := by have := hpre.reps.2 1 _ _ rfl rfl; cases this; assumption
      refine .inr ⟨.int .i64 (listCmp a b), w, ?_, [.int .i64 (listCmp a b)], Im, ρ, rfl, ⟨Fr.refl w bl, hpre.gam, fun j o o' hj => by cases hj⟩, rfl, fun j c v hj hv => ?_⟩
      · rw [run_callFunc_extern (e := Extern.BytealgCompare.compare) Tryd.func74 rfl rfl rfl (by kernel_rfl)]
        show Result.andThen ((Extern.BytealgCompare.compare #[va, vb]).run Tryd.prog w) _ = _
        rw [run_cmp ra rb (bytesOk_spec h1.1).2 (bytesOk_spec h1.2).2]
        unfold listCmp
        rw [shut_eq]
        rfl
      · match j, hj, hv with
        | 0, hj, hv => cases hj; cases hv; exact .cl _ _ (.int ..)
        | j + 1, hj, hv => cases hj
  · cases h1
end Go.Proofs.YtbgkadaidhgggaaDoorA

set_option maxRecDepth 100000
namespace Go.Proofs.YtbgkadaidhgggaaDoorA
theorem sound_ranked {P : Program} {glob : Nat → Option CV} {g : FuncId} {p : List V → List Obj → Bool} {q : Nat → List V → List Obj → Bool} {S : List V → List Obj → Tree} (h : ∀ rk, Sound P glob g (fun xs obs => cond (q rk xs obs) (S xs obs).eval none)) (hp : ∀ xs obs, p xs obs = true → ∃ rk, q rk xs obs = true) :
    Sound P glob g (fun xs obs => cond (p xs obs) (S xs obs).eval none) := by
  intro xs obs out w Im ρ bl vs hs
  obtain ⟨h1, h2⟩ := cond_some hs
  obtain ⟨rk, hq⟩ := hp xs obs h1
  exact h rk xs obs out w Im ρ bl vs (by show cond (q rk xs obs) _ _ = _; rw [hq]; exact h2)
theorem sound_never {P : Program} {glob : Nat → Option CV} {g : FuncId} {p : List V → List Obj → Bool} {S : List V → List Obj → Tree} (h : ∀ xs obs, ¬ p xs obs = true) : Sound P glob g (fun xs obs => cond (p xs obs) (S xs obs).eval none) := by
  intro xs obs out w Im ρ bl vs hs
  exact absurd (cond_some hs).1 (h xs obs)
theorem sound_fail {P : Program} {glob : Nat → Option CV} {g : FuncId} {p : List V → List Obj → Bool} : Sound P glob g (fun xs obs => cond (p xs obs) ((fun _ _ => Tree.fail : List V → List Obj → Tree) xs obs).eval none) := by
  intro xs obs out w Im ρ bl vs hs
  cases (cond_some hs).2
theorem soundDigits (hm : Tryd.prog.follows .mixedOrders = true) : Sound Tryd.prog glDer 65 (fun xs obs => cond (preDigits xs obs) (SDigits xs obs).eval none) :=
  read_sound (E := EDigits) (N := 40) (keep := false) hm (fun g => sound_none) Tryd.func65 rfl rfl loopsDigits rfl (by
    intro xs obs out hp h
    unfold SDigits at h
    split at h
    · refine ⟨by simp [Tryd.f65], ?_⟩
      rw [gDigits_eq]
      exact (nDigits _ hp).trans h
    · cases h    )
theorem soundDLeap (hm : Tryd.prog.follows .mixedOrders = true) : Sound Tryd.prog glDer 80 (fun xs obs => cond (preDLeap xs obs) (SDLeap xs obs).eval none) :=
  read_sound (E := EDLeap) (N := 40) (keep := false) hm (fun g => sound_none) Tryd.func80 rfl rfl loopsDLeap rfl (by
    intro xs obs out hp h
    unfold SDLeap at h
    split at h
    · refine ⟨by simp [Tryd.f80], ?_⟩
      rw [gDLeap_eq]
      exact (nDLeap _ _ _ _ _ _ hp).trans h
    · cases h    )
theorem soundDDays (hm : Tryd.prog.follows .mixedOrders = true) : Sound Tryd.prog glDer 77 (fun xs obs => cond (preDDays xs obs) (SDDays xs obs).eval none) :=
  read_sound (E := EDDays) (N := 40) (keep := false) hm (fun g => (sound_pick (soundDLeap hm) sound_none)) Tryd.func77 rfl rfl loopsDDays rfl (by
    intro xs obs out hp h
    unfold SDDays at h
    split at h
    · refine ⟨by simp [Tryd.f77], ?_⟩
      rw [gDDays_eq]
      exact (nDDays _ _ _ _ _ _ hp).trans h
    · cases h    )
theorem soundDFit (hm : Tryd.prog.follows .mixedOrders = true) : Sound Tryd.prog glDer 66 (fun xs obs => cond (preDFit xs obs) (SDFit xs obs).eval none) :=
  read_sound (E := EDFit) (N := 40) (keep := false) hm (fun g => (sound_pick (soundDDays hm) sound_none)) Tryd.func66 rfl rfl loopsDFit rfl (by
    intro xs obs out hp h
    unfold SDFit at h
    split at h
    · refine ⟨by simp [Tryd.f66], ?_⟩
      rw [gDFit_eq]
      exact (nDFit _ _ _ _ _ _ hp).trans h
    · cases h    )
theorem soundDSecs (hm : Tryd.prog.follows .mixedOrders = true) : Sound Tryd.prog glDer 67 (fun xs obs => cond (preDSecs xs obs) (SDSecs xs obs).eval none) :=
  read_sound (E := EDSecs) (N := 40) (keep := false) hm (fun g => sound_none) Tryd.func67 rfl rfl loopsDSecs rfl (by
    intro xs obs out hp h
    unfold SDSecs at h
    split at h
    · refine ⟨by simp [Tryd.f67], ?_⟩
      rw [gDSecs_eq]
      exact (nDSecs _ _ _ _ _ _ hp).trans h
    · cases h    )
theorem soundSRead (hm : Tryd.prog.follows .mixedOrders = true) : Sound Tryd.prog glDer 50 (fun xs obs => cond (preSRead xs obs) (SSRead xs obs).eval none) :=
  read_sound (E := ESRead) (N := 40) (keep := false) hm (fun g => (sound_pick (soundDigits hm) (sound_pick (soundDFit hm) (sound_pick (soundDSecs hm) sound_none)))) Tryd.func50 rfl rfl loopsSRead rfl (by
    intro xs obs out hp h
    unfold SSRead at h
    split at h
    · refine ⟨by simp [Tryd.f50], ?_⟩
      rw [gSRead_eq]
      exact (nSRead _ hp).trans h
    · cases h    )
theorem soundRLeap (hm : Tryd.prog.follows .mixedOrders = true) : Sound Tryd.prog glDer 79 (fun xs obs => cond (preRLeap xs obs) (SRLeap xs obs).eval none) :=
  read_sound (E := ERLeap) (N := 40) (keep := false) hm (fun g => sound_none) Tryd.func79 rfl rfl loopsRLeap rfl (by
    intro xs obs out hp h
    unfold SRLeap at h
    split at h
    · refine ⟨by simp [Tryd.f79], ?_⟩
      rw [gRLeap_eq]
      exact (nRLeap _ hp).trans h
    · cases h    )
theorem soundRDays (hm : Tryd.prog.follows .mixedOrders = true) : Sound Tryd.prog glDer 72 (fun xs obs => cond (preRDays xs obs) (SRDays xs obs).eval none) :=
  read_sound (E := ERDays) (N := 40) (keep := false) hm (fun g => (sound_pick (soundRLeap hm) sound_none)) Tryd.func72 rfl rfl loopsRDays rfl (by
    intro xs obs out hp h
    unfold SRDays at h
    split at h
    · refine ⟨by simp [Tryd.f72], ?_⟩
      rw [gRDays_eq]
      exact (nRDays _ _ hp).trans h
    · cases h    )
theorem soundRYears (hm : Tryd.prog.follows .mixedOrders = true) : Sound Tryd.prog glDer 73 (fun xs obs => cond (preRYears xs obs) (SRYears xs obs).eval none) :=
  read_sound (E := ERYears) (N := 40) (keep := false) hm (fun g => sound_none) Tryd.func73 rfl rfl loopsRYears rfl (by
    intro xs obs out hp h
    unfold SRYears at h
    split at h
    · refine ⟨by simp [Tryd.f73], ?_⟩
      rw [gRYears_eq]
      exact (nRYears _ hp).trans h
    · cases h    )
theorem soundRNumber (hm : Tryd.prog.follows .mixedOrders = true) : Sound Tryd.prog glDer 71 (fun xs obs => cond (preRNumber xs obs) (SRNumber xs obs).eval none) :=
  read_sound (E := ERNumber) (N := 40) (keep := false) hm (fun g => sound_none) Tryd.func71 rfl rfl loopsRNumber rfl (by
    intro xs obs out hp h
    unfold SRNumber at h
    split at h
    · refine ⟨by simp [Tryd.f71], ?_⟩
      rw [gRNumber_eq]
      exact (nRNumber _ hp).trans h
    · cases h    )
theorem soundRRead (hm : Tryd.prog.follows .mixedOrders = true) : Sound Tryd.prog glDer 56 (fun xs obs => cond (preRRead xs obs) (SRRead xs obs).eval none) :=
  read_sound (E := ERRead) (N := 40) (keep := false) hm (fun g => (sound_pick (soundRNumber hm) (sound_pick (soundRDays hm) (sound_pick (soundRYears hm) sound_none)))) Tryd.func56 rfl rfl loopsRRead rfl (by
    intro xs obs out hp h
    unfold SRRead at h
    split at h
    · refine ⟨by simp [Tryd.f56], ?_⟩
      rw [gRRead_eq]
      exact (nRRead _ hp).trans h
    · cases h    )
theorem soundDBoxed (hm : Tryd.prog.follows .mixedOrders = true) : Sound Tryd.prog glDer 18 (fun xs obs => cond (preDBoxed xs obs) (SDBoxed xs obs).eval none) :=
  read_sound (E := EDBoxed) (N := 40) (keep := false) hm (fun g => sound_none) Tryd.func18 rfl rfl loopsDBoxed rfl (by
    intro xs obs out hp h
    unfold SDBoxed at h
    split at h
    · refine ⟨by simp [Tryd.f18], ?_⟩
      rw [gDBoxed_eq]
      exact (nDBoxed _ hp).trans h
    · cases h    )
theorem soundRBoxed (hm : Tryd.prog.follows .mixedOrders = true) : Sound Tryd.prog glDer 19 (fun xs obs => cond (preRBoxed xs obs) (SRBoxed xs obs).eval none) :=
  read_sound (E := ERBoxed) (N := 40) (keep := false) hm (fun g => sound_none) Tryd.func19 rfl rfl loopsRBoxed rfl (by
    intro xs obs out hp h
    unfold SRBoxed at h
    split at h
    · refine ⟨by simp [Tryd.f19], ?_⟩
      rw [gRBoxed_eq]
      exact (nRBoxed _ hp).trans h
    · cases h    )
theorem soundDKnown (hm : Tryd.prog.follows .mixedOrders = true) : Sound Tryd.prog glDer 31 (fun xs obs => cond (preDKnown xs obs) (SDKnown xs obs).eval none) :=
  read_sound (E := EDKnown) (N := 40) (keep := false) hm (fun g => (sound_pick (soundDBoxed hm) sound_none)) Tryd.func31 rfl rfl loopsDKnown rfl (by
    intro xs obs out hp h
    unfold SDKnown at h
    split at h
    · refine ⟨by simp [Tryd.f31], ?_⟩
      rw [gDKnown_eq]
      exact (nDKnown _ hp).trans h
    · cases h    )
theorem soundRTagged (hm : Tryd.prog.follows .mixedOrders = true) : Sound Tryd.prog glDer 36 (fun xs obs => cond (preRTagged xs obs) (SRTagged xs obs).eval none) :=
  read_sound (E := ERTagged) (N := 40) (keep := false) hm (fun g => (sound_pick (soundRBoxed hm) sound_none)) Tryd.func36 rfl rfl loopsRTagged rfl (by
    intro xs obs out hp h
    unfold SRTagged at h
    split at h
    · refine ⟨by simp [Tryd.f36], ?_⟩
      rw [gRTagged_eq]
      exact (nRTagged _ hp).trans h
    · cases h    )
theorem soundDLenSize (hm : Tryd.prog.follows .mixedOrders = true) : Sound Tryd.prog glDer 40 (fun xs obs => cond (preDLenSize xs obs) (SDLenSize xs obs).eval none) :=
  read_sound (E := EDLenSize) (N := 40) (keep := false) hm (fun g => sound_none) Tryd.func40 rfl rfl loopsDLenSize rfl (by
    intro xs obs out hp h
    unfold SDLenSize at h
    split at h
    · refine ⟨by simp [Tryd.f40], ?_⟩
      rw [gDLenSize_eq]
      exact (nDLenSize _ hp).trans h
    · cases h    )
theorem soundDNumber (hm : Tryd.prog.follows .mixedOrders = true) : Sound Tryd.prog glDer 46 (fun xs obs => cond (preDNumber xs obs) (SDNumber xs obs).eval none) :=
  read_sound (E := EDNumber) (N := 40) (keep := false) hm (fun g => sound_none) Tryd.func46 rfl rfl loopsDNumber rfl (by
    intro xs obs out hp h
    unfold SDNumber at h
    split at h
    · refine ⟨by simp [Tryd.f46], ?_⟩
      rw [gDNumber_eq]
      exact (nDNumber _ hp).trans h
    · cases h    )
theorem soundRFitInt (hm : Tryd.prog.follows .mixedOrders = true) : Sound Tryd.prog glDer 52 (fun xs obs => cond (preRFitInt xs obs) (SRFitInt xs obs).eval none) :=
  read_sound (E := ERFitInt) (N := 40) (keep := false) hm (fun g => sound_none) Tryd.func52 rfl rfl loopsRFitInt rfl (by
    intro xs obs out hp h
    unfold SRFitInt at h
    split at h
    · refine ⟨by simp [Tryd.f52], ?_⟩
      rw [gRFitInt_eq]
      exact (nRFitInt _ hp).trans h
    · cases h    )
theorem soundDStrip (hm : Tryd.prog.follows .mixedOrders = true) : Sound Tryd.prog glDer 47 (fun xs obs => cond (preDStrip xs obs) (SDStrip xs obs).eval none) :=
  read_sound (E := EDStrip) (N := 40) (keep := false) hm (fun g => sound_none) Tryd.func47 rfl rfl loopsDStrip rfl (by
    intro xs obs out hp h
    unfold SDStrip at h
    split at h
    · refine ⟨by simp [Tryd.f47], ?_⟩
      rw [gDStrip_eq]
      exact (nDStrip _ hp).trans h
    · cases h    )
theorem soundRFitBits (hm : Tryd.prog.follows .mixedOrders = true) : Sound Tryd.prog glDer 53 (fun xs obs => cond (preRFitBits xs obs) (SRFitBits xs obs).eval none) :=
  read_sound (E := ERFitBits) (N := 40) (keep := false) hm (fun g => sound_none) Tryd.func53 rfl rfl loopsRFitBits rfl (by
    intro xs obs out hp h
    unfold SRFitBits at h
    split at h
    · refine ⟨by simp [Tryd.f53], ?_⟩
      rw [gRFitBits_eq]
      exact (nRFitBits _ hp).trans h
    · cases h    )
theorem soundRCont (hm : Tryd.prog.follows .mixedOrders = true) : Sound Tryd.prog glDer 78 (fun xs obs => cond (preRCont xs obs) (SRCont xs obs).eval none) :=
  read_sound (E := ERCont) (N := 40) (keep := false) hm (fun g => sound_none) Tryd.func78 rfl rfl loopsRCont rfl (by
    intro xs obs out hp h
    unfold SRCont at h
    split at h
    · refine ⟨by simp [Tryd.f78], ?_⟩
      rw [gRCont_eq]
      exact (nRCont _ _ hp).trans h
    · cases h    )
theorem soundRRune (hm : Tryd.prog.follows .mixedOrders = true) : Sound Tryd.prog glDer 70 (fun xs obs => cond (preRRune xs obs) (SRRune xs obs).eval none) :=
  read_sound (E := ERRune) (N := 40) (keep := false) hm (fun g => (sound_pick (soundRCont hm) sound_none)) Tryd.func70 rfl rfl loopsRRune rfl (by
    intro xs obs out hp h
    unfold SRRune at h
    split at h
    · refine ⟨by simp [Tryd.f70], ?_⟩
      rw [gRRune_eq]
      exact (nRRune _ _ hp).trans h
    · cases h    )
theorem soundRUtf8 (hm : Tryd.prog.follows .mixedOrders = true) : Sound Tryd.prog glDer 55 (fun xs obs => cond (preRUtf8 xs obs) (SRUtf8 xs obs).eval none) :=
  read_sound (E := ERUtf8) (N := 40) (keep := false) hm (fun g => (sound_pick (soundRRune hm) sound_none)) Tryd.func55 rfl rfl loopsRUtf8 rfl (by
    intro xs obs out hp h
    unfold SRUtf8 at h
    split at h
    · refine ⟨by simp [Tryd.f55], ?_⟩
      rw [gRUtf8_eq]
      exact (nRUtf8 _ hp).trans h
    · cases h    )
theorem soundOFit (hm : Tryd.prog.follows .mixedOrders = true) : Sound Tryd.prog glDer 63 (fun xs obs => cond (preOFit xs obs) (SOFit xs obs).eval none) :=
  read_sound (E := EOFit) (N := 40) (keep := false) hm (fun g => sound_none) Tryd.func63 rfl rfl loopsOFit rfl (by
    intro xs obs out hp h
    unfold SOFit at h
    split at h
    · refine ⟨by simp [Tryd.f63], ?_⟩
      rw [gOFit_eq]
      exact (nOFit _ hp).trans h
    · cases h    )
theorem soundR2Fit (hm : Tryd.prog.follows .mixedOrders = true) : Sound Tryd.prog glDer 69 (fun xs obs => cond (preR2Fit xs obs) (SR2Fit xs obs).eval none) :=
  read_sound (E := ER2Fit) (N := 40) (keep := false) hm (fun g => sound_none) Tryd.func69 rfl rfl loopsR2Fit rfl (by
    intro xs obs out hp h
    unfold SR2Fit at h
    split at h
    · refine ⟨by simp [Tryd.f69], ?_⟩
      rw [gR2Fit_eq]
      exact (nR2Fit _ hp).trans h
    · cases h    )
theorem soundR2First (hm : Tryd.prog.follows .mixedOrders = true) : Sound Tryd.prog glDer 68 (fun xs obs => cond (preR2First xs obs) (SR2First xs obs).eval none) :=
  read_sound (E := ER2First) (N := 40) (keep := false) hm (fun g => sound_none) Tryd.func68 rfl rfl loopsR2First rfl (by
    intro xs obs out hp h
    unfold SR2First at h
    split at h
    · refine ⟨by simp [Tryd.f68], ?_⟩
      rw [gR2First_eq]
      exact (nR2First _ hp).trans h
    · cases h    )
theorem soundONumber (hm : Tryd.prog.follows .mixedOrders = true) : Sound Tryd.prog glDer 76 (fun xs obs => cond (preONumber xs obs) (SONumber xs obs).eval none) :=
  read_sound (E := EONumber) (N := 40) (keep := false) hm (fun g => sound_none) Tryd.func76 rfl rfl loopsONumber rfl (by
    intro xs obs out hp h
    unfold SONumber at h
    split at h
    · refine ⟨by simp [Tryd.f76], ?_⟩
      rw [gONumber_eq]
      exact (nONumber _ hp).trans h
    · cases h    )
theorem soundONumbers (hm : Tryd.prog.follows .mixedOrders = true) : Sound Tryd.prog glDer 62 (fun xs obs => cond (preONumbers xs obs) (SONumbers xs obs).eval none) :=
  read_sound (E := EONumbers) (N := 40) (keep := true) hm (fun g => sound_none) Tryd.func62 rfl rfl loopsONumbers rfl (by
    intro xs obs out hp h
    unfold SONumbers at h
    split at h
    · refine ⟨by simp [Tryd.f62], ?_⟩
      rw [gONumbers_eq]
      exact (nONumbers _ hp).trans h
    · cases h    )
theorem seqONums (hm : Tryd.prog.follows .mixedOrders = true) : ∀ xs obs ys, preONums xs obs = true → QONums xs obs = some ys → SeqOk Tryd.prog glDer 75 xs obs ys := by
  intro xs obs ys hp h
  unfold QONums at h
  split at h
  · rename_i b
    cases h
    have hE : ∀ (l : Nat) (g : FuncId), Sound Tryd.prog (EONums l).glob g (ctr (EONums l) g) := fun l g => (sound_pick (soundONumber hm) sound_none)
    refine seq_sound (N := 40) EONums hE (fun l => draw_sound (hE l) hm) (fun _ => rfl) (fun _ => rfl) (fun _ => rfl) Tryd.func75 rfl loopsONums (fun _ => rfl) (by decide) rfl fun l => ?_
    obtain ⟨out, h1, h2⟩ := nONums l b hp
    exact ⟨out, (gONums_eq l b).trans h1, h2⟩
  · cases h
theorem sqOParse (hm : Tryd.prog.follows .mixedOrders = true) : SeqSound Tryd.prog EOParse := by
  intro gf xs obs ys hp h
  have h : (cond (Nat.beq gf 75) QONums (fun _ _ => none)) xs obs = some ys := h
  cases hb : Nat.beq gf 75 with
  | false => rw [hb] at h; cases h
  | true =>
    obtain rfl := beq_iff.1 hb
    exact ⟨seqONums hm xs obs ys hp h, _, Tryd.func75, rfl, rfl⟩
theorem soundOParse (hm : Tryd.prog.follows .mixedOrders = true) : Sound Tryd.prog glDer 48 (fun xs obs => cond (preOParse xs obs) (SOParse xs obs).eval none) :=
  read_sound (E := EOParse) (N := 40) (keep := false) hm (fun g => (sound_pick (soundONumbers hm) (sound_pick (soundOFit hm) sound_fail))) Tryd.func48 rfl rfl loopsOParse rfl (hsq := sqOParse hm) (hS := by
    intro xs obs out hp h
    unfold SOParse at h
    split at h
    · refine ⟨by simp [Tryd.f48], ?_⟩
      rw [gOParse_eq]
      exact (nOParse _ hp).trans h
    · cases h)
theorem soundR2Parse (hm : Tryd.prog.follows .mixedOrders = true) : Sound Tryd.prog glDer 54 (fun xs obs => cond (preR2Parse xs obs) (SR2Parse xs obs).eval none) :=
  read_sound (E := ER2Parse) (N := 40) (keep := false) hm (fun g => (sound_pick (soundR2First hm) (sound_pick (soundR2Fit hm) sound_none))) Tryd.func54 rfl rfl loopsR2Parse rfl (by
    intro xs obs out hp h
    unfold SR2Parse at h
    split at h
    · refine ⟨by simp [Tryd.f54], ?_⟩
      rw [gR2Parse_eq]
      exact (nR2Parse _ hp).trans h
    · cases h    )
theorem soundR1Same (hm : Tryd.prog.follows .mixedOrders = true) : Sound Tryd.prog glDer 15 (fun xs obs => cond (preR1Same xs obs) (SR1Same xs obs).eval none) :=
  read_sound (E := ER1Same) (N := 40) (keep := false) hm (fun g => sound_none) Tryd.func15 rfl rfl loopsR1Same rfl (by
    intro xs obs out hp h
    unfold SR1Same at h
    split at h
    · refine ⟨by simp [Tryd.f15], ?_⟩
      rw [gR1Same_eq]
      exact (nR1Same _ _ hp).trans h
    · cases h    )
theorem soundSClone (hm : Tryd.prog.follows .mixedOrders = true) : Sound Tryd.prog glDer 35 (fun xs obs => cond (preSClone xs obs) (SSClone xs obs).eval none) :=
  read_sound (E := ESClone) (N := 40) (keep := false) hm (fun g => sound_none) Tryd.func35 rfl rfl loopsSClone rfl (by
    intro xs obs out hp h
    unfold SSClone at h
    split at h
    · refine ⟨by simp [Tryd.f35], ?_⟩
      rw [gSClone_eq]
      exact (nSClone _ hp).trans h
    · cases h    )
theorem soundR1Num (hm : Tryd.prog.follows .mixedOrders = true) : Sound Tryd.prog glDer 51 (fun xs obs => cond (preR1Num xs obs) (SR1Num xs obs).eval none) :=
  read_sound (E := ER1Num) (N := 40) (keep := false) hm (fun g => sound_none) Tryd.func51 rfl rfl loopsR1Num rfl (by
    intro xs obs out hp h
    unfold SR1Num at h
    split at h
    · refine ⟨by simp [Tryd.f51], ?_⟩
      rw [gR1Num_eq]
      exact (nR1Num _ hp).trans h
    · cases h    )
theorem soundRLength (hm : Tryd.prog.follows .mixedOrders = true) : Sound Tryd.prog glDer 37 (fun xs obs => cond (preRLength xs obs) (SRLength xs obs).eval none) :=
  read_sound (E := ERLength) (N := 40) (keep := false) hm (fun g => (sound_pick (soundR1Num hm) sound_none)) Tryd.func37 rfl rfl loopsRLength rfl (by
    intro xs obs out hp h
    unfold SRLength at h
    split at h
    · refine ⟨by simp [Tryd.f37], ?_⟩
      rw [gRLength_eq]
      exact (nRLength _ hp).trans h
    · cases h    )
theorem soundR4Less (hm : Tryd.prog.follows .mixedOrders = true) : Sound Tryd.prog glDer 57 (fun xs obs => cond (preR4Less xs obs) (SR4Less xs obs).eval none) :=
  read_sound (E := ER4Less) (N := 40) (keep := false) hm (fun g => sound_none) Tryd.func57 rfl rfl loopsR4Less rfl (by
    intro xs obs out hp h
    unfold SR4Less at h
    split at h
    · refine ⟨by simp [Tryd.f57], ?_⟩
      rw [gR4Less_eq]
      exact (nR4Less _ _ hp).trans h
    · cases h    )
theorem soundUWord (hm : Tryd.prog.follows .mixedOrders = true) : Sound Tryd.prog glDer 64 (fun xs obs => cond (preUWord xs obs) (SUWord xs obs).eval none) :=
  read_sound (E := EUWord) (N := 40) (keep := false) hm (fun g => sound_none) Tryd.func64 rfl rfl loopsUWord rfl (by
    intro xs obs out hp h
    unfold SUWord at h
    split at h
    · refine ⟨by simp [Tryd.f64], ?_⟩
      rw [gUWord_eq]
      exact (nUWord _ hp).trans h
    · cases h    )
theorem soundUValid (hm : Tryd.prog.follows .mixedOrders = true) : Sound Tryd.prog glDer 49 (fun xs obs => cond (preUValid xs obs) (SUValid xs obs).eval none) :=
  read_sound (E := EUValid) (N := 40) (keep := false) hm (fun g => (sound_pick (soundUWord hm) sound_none)) Tryd.func49 rfl rfl loopsUValid rfl (by
    intro xs obs out hp h
    unfold SUValid at h
    split at h
    · refine ⟨by simp [Tryd.f49], ?_⟩
      rw [gUValid_eq]
      exact (nUValid _ hp).trans h
    · cases h    )
theorem soundRRSame (hm : Tryd.prog.follows .mixedOrders = true) : ∀ rk, Sound Tryd.prog glDer 11 (fun xs obs => cond (preRRSame rk xs obs) (SRSame xs obs).eval none)
  | 0 => sound_never fun xs obs h => by
    unfold preRRSame at h
    split at h
    · simp only [Bool.and_eq_true] at h
      have := isNr_spec h.1
      simp [isNf] at this
    · cases h
  | rk + 1 => read_sound (E := ERSame rk) (N := 40) (keep := false) hm (fun g => (sound_pick (soundRRSame hm rk) (sound_pick (soundR1Same hm) sound_none))) Tryd.func11 rfl rfl (loopsRSame rk) rfl (by
    intro xs obs out hp h
    have hp : preRRSame (rk + 1) xs obs = true := hp
    have hp0 := hp
    unfold preRRSame at hp
    split at hp
    · rename_i a b
      simp only [Bool.and_eq_true] at hp
      obtain ⟨_, ta, ba, ka, _, rfl, _⟩ := nd_inv (isNr_spec hp.1)
      obtain ⟨_, hn⟩ := isN_spec hp.2
      obtain ⟨_, tb, bb, kb, _, rfl, _⟩ := nd_inv hn
      refine ⟨by simp [Tryd.f11], ?_⟩
      rw [gRSame_eq]
      exact (nRSame rk ta ba ka tb bb kb hp0).trans h
    · cases hp)
theorem soundRSame (hm : Tryd.prog.follows .mixedOrders = true) : Sound Tryd.prog glDer 11 (fun xs obs => cond (preRSame xs obs) (SRSame xs obs).eval none) :=
  sound_ranked (fun rk => soundRRSame hm rk) fun xs obs h => by
    unfold preRSame at h
    split at h
    · rename_i a b
      simp only [Bool.and_eq_true] at h
      obtain ⟨n, hn⟩ := isN_spec h.1
      refine ⟨n, ?_⟩
      show (isNr n a && isN b) = true
      rw [isNr_of hn, h.2]
      rfl
    · cases h
theorem soundDFits (hm : Tryd.prog.follows .mixedOrders = true) : Sound Tryd.prog glDer 34 (fun xs obs => cond (preDFits xs obs) (SDFits xs obs).eval none) :=
  read_sound (E := EDFits) (N := 40) (keep := false) hm (fun g => (sound_pick (soundDNumber hm) (sound_pick (soundDStrip hm) (sound_pick (soundOParse hm) (sound_pick (soundUValid hm) (sound_pick (soundSRead hm) sound_none)))))) Tryd.func34 rfl rfl loopsDFits rfl (by
    intro xs obs out hp h
    unfold SDFits at h
    split at h
    · refine ⟨by simp [Tryd.f34], ?_⟩
      rw [gDFits_eq]
      exact (nDFits _ _ hp).trans h
    · cases h    )
theorem soundRFits (hm : Tryd.prog.follows .mixedOrders = true) : Sound Tryd.prog glDer 38 (fun xs obs => cond (preRFits xs obs) (SRFits xs obs).eval none) :=
  read_sound (E := ERFits) (N := 40) (keep := false) hm (fun g => (sound_pick (soundRFitInt hm) (sound_pick (soundRFitBits hm) (sound_pick (soundR2Parse hm) (sound_pick (soundRUtf8 hm) (sound_pick (soundRRead hm) sound_none)))))) Tryd.func38 rfl rfl loopsRFits rfl (by
    intro xs obs out hp h
    unfold SRFits at h
    split at h
    · refine ⟨by simp [Tryd.f38], ?_⟩
      rw [gRFits_eq]
      exact (nRFits _ _ hp).trans h
    · cases h    )
theorem soundR4Sorted (hm : Tryd.prog.follows .mixedOrders = true) : Sound Tryd.prog glDer 39 (fun xs obs => cond (preR4Sorted xs obs) (SR4Sorted xs obs).eval none) :=
  read_sound (E := ER4Sorted) (N := 40) (keep := false) hm (fun g => (sound_pick (soundR4Less hm) sound_none)) Tryd.func39 rfl rfl loopsR4Sorted rfl (by
    intro xs obs out hp h
    unfold SR4Sorted at h
    split at h
    · refine ⟨by simp [Tryd.f39], ?_⟩
      rw [gR4Sorted_eq]
      exact (nR4Sorted _ hp).trans h
    · cases h    )
theorem soundBCompare (hm : Tryd.prog.follows .mixedOrders = true) : Sound Tryd.prog glDer 60 (fun xs obs => cond (preBCompare xs obs) (SBCompare xs obs).eval none) :=
  read_sound (E := EBCompare) (N := 40) (keep := false) hm (fun g => (sound_pick (soundBACompare hm) sound_none)) Tryd.func60 rfl rfl loopsBCompare rfl (by
    intro xs obs out hp h
    unfold SBCompare at h
    split at h
    · refine ⟨by simp [Tryd.f60], ?_⟩
      rw [gBCompare_eq]
      exact (nBCompare _ _ hp).trans h
    · cases h    )
theorem soundOLess (hm : Tryd.prog.follows .mixedOrders = true) : Sound Tryd.prog glDer 59 (fun xs obs => cond (preOLess xs obs) (SOLess xs obs).eval none) :=
  read_sound (E := EOLess) (N := 40) (keep := false) hm (fun g => (sound_pick (soundBCompare hm) sound_none)) Tryd.func59 rfl rfl loopsOLess rfl (by
    intro xs obs out hp h
    unfold SOLess at h
    split at h
    · refine ⟨by simp [Tryd.f59], ?_⟩
      rw [gOLess_eq]
      exact (nOLess _ _ hp).trans h
    · cases h    )
theorem soundOSteps (hm : Tryd.prog.follows .mixedOrders = true) : Sound Tryd.prog glDer 58 (fun xs obs => cond (preOSteps xs obs) (SOSteps xs obs).eval none) :=
  read_sound (E := EOSteps) (N := 40) (keep := false) hm (fun g => (sound_pick (soundOLess hm) sound_none)) Tryd.func58 rfl rfl loopsOSteps rfl (by
    intro xs obs out hp h
    unfold SOSteps at h
    split at h
    · refine ⟨by simp [Tryd.f58], ?_⟩
      rw [gOSteps_eq]
      exact (nOSteps _ hp).trans h
    · cases h    )
theorem soundOSorted (hm : Tryd.prog.follows .mixedOrders = true) : Sound Tryd.prog glDer 42 (fun xs obs => cond (preOSorted xs obs) (SOSorted xs obs).eval none) :=
  read_sound (E := EOSorted) (N := 40) (keep := false) hm (fun g => (sound_pick (soundOSteps hm) (sound_pick (soundOLess hm) sound_none))) Tryd.func42 rfl rfl loopsOSorted rfl (by
    intro xs obs out hp h
    unfold SOSorted at h
    split at h
    · refine ⟨by simp [Tryd.f42], ?_⟩
      rw [gOSorted_eq]
      exact (nOSorted _ hp).trans h
    · cases h    )
theorem soundRRReadN (hm : Tryd.prog.follows .mixedOrders = true) : ∀ rk, Sound Tryd.prog glDer 24 (fun xs obs => cond (preRRReadN rk xs obs) (SRReadN xs obs).eval none)
  | 0 => sound_never fun xs obs h => by
    unfold preRRReadN at h
    split at h
    · simp at h
    · cases h
  | rk + 1 => read_sound (E := ERReadN rk) (N := 40) (keep := false) hm (fun g => (sound_pick (soundRBoxed hm) (sound_pick (soundRRReadN hm rk) (sound_pick (soundRTagged hm) (sound_pick (soundRLength hm) (sound_pick (soundRFits hm) (sound_pick (soundR4Sorted hm) sound_none))))))) Tryd.func24 rfl rfl (loopsRReadN rk) rfl (by
    intro xs obs out hp h
    unfold SRReadN at h
    split at h
    · refine ⟨by simp [Tryd.f24], ?_⟩
      rw [gRReadN_eq]
      exact (nRReadN rk _ _ hp).trans h
    · cases h)
theorem soundRReadN (hm : Tryd.prog.follows .mixedOrders = true) : Sound Tryd.prog glDer 24 (fun xs obs => cond (preRReadN xs obs) (SRReadN xs obs).eval none) :=
  sound_ranked (fun rk => soundRRReadN hm rk) fun xs obs h => by
    unfold preRReadN at h
    split at h
    · rename_i b deep
      simp only [Bool.and_eq_true] at h
      refine ⟨deep.toNat + 1, ?_⟩
      show (bytesOk b && (deepOk deep && decide (deep.toNat < deep.toNat + 1))) = true
      simp only [Bool.and_eq_true, decide_eq_true_eq]
      exact ⟨h.1, h.2, by omega⟩
    · cases h
theorem soundRParse (hm : Tryd.prog.follows .mixedOrders = true) : Sound Tryd.prog glDer 10 (fun xs obs => cond (preRParse xs obs) (SRParse xs obs).eval none) :=
  read_sound (E := ERParse) (N := 40) (keep := false) hm (fun g => (sound_pick (soundRReadN hm) sound_none)) Tryd.func10 rfl rfl loopsRParse rfl (by
    intro xs obs out hp h
    unfold SRParse at h
    split at h
    · refine ⟨by simp [Tryd.f10], ?_⟩
      rw [gRParse_eq]
      exact (nRParse _ hp).trans h
    · cases h    )
theorem soundDMust (hm : Tryd.prog.follows .mixedOrders = true) : Sound Tryd.prog glDer 23 (fun xs obs => cond (preDMust xs obs) (SDMust xs obs).eval none) :=
  read_sound (E := EDMust) (N := 40) (keep := false) hm (fun g => sound_none) Tryd.func23 rfl rfl loopsDMust rfl (by
    intro xs obs out hp h
    unfold SDMust at h
    split at h
    · refine ⟨by simp [Tryd.f23], ?_⟩
      rw [gDMust_0_eq]
      exact (nDMust_0 _ hp).trans h
    · refine ⟨by simp [Tryd.f23], ?_⟩
      rw [gDMust_1_eq]
      exact (nDMust_1 _ hp).trans h
    · cases h    )
theorem soundDNext (hm : Tryd.prog.follows .mixedOrders = true) : Sound Tryd.prog glDer 30 (fun xs obs => cond (preDNext xs obs) (SDNext xs obs).eval none) :=
  read_sound (E := EDNext) (N := 40) (keep := false) hm (fun g => (sound_pick (soundDMust hm) sound_none)) Tryd.func30 rfl rfl loopsDNext rfl (by
    intro xs obs out hp h
    unfold SDNext at h
    split at h
    · refine ⟨by simp [Tryd.f30], ?_⟩
      rw [gDNext_eq]
      exact (nDNext _ _ hp).trans h
    · cases h    )
theorem soundDLength (hm : Tryd.prog.follows .mixedOrders = true) : Sound Tryd.prog glDer 32 (fun xs obs => cond (preDLength xs obs) (SDLength xs obs).eval none) :=
  read_sound (E := EDLength) (N := 40) (keep := false) hm (fun g => (sound_pick (soundDMust hm) (sound_pick (soundDNext hm) (sound_pick (soundDLenSize hm) sound_none)))) Tryd.func32 rfl rfl loopsDLength rfl (by
    intro xs obs out hp h
    unfold SDLength at h
    split at h
    · refine ⟨by simp [Tryd.f32], ?_⟩
      rw [gDLength_eq]
      exact (nDLength _ _ hp).trans h
    · cases h    )
theorem soundRDParts (hm : Tryd.prog.follows .mixedOrders = true) (rk : Nat) (hV : Sound Tryd.prog glDer 22 (fun xs obs => cond (preRDValue rk xs obs) (SDValue xs obs).eval none)) : Sound Tryd.prog glDer 33 (fun xs obs => cond (preRDParts rk xs obs) (SDParts xs obs).eval none) :=
  read_sound (E := EDParts rk) (N := 40) (keep := false) hm (fun g => (sound_pick (hV) (sound_pick (soundDMust hm) (sound_pick (soundOSorted hm) sound_none)))) Tryd.func33 rfl rfl (loopsDParts rk) rfl (by
    intro xs obs out hp h
    unfold SDParts at h
    split at h
    · refine ⟨by simp [Tryd.f33], ?_⟩
      rw [gDParts_eq]
      exact (nDParts rk _ _ _ _ hp).trans h
    · cases h)
theorem soundRDValue (hm : Tryd.prog.follows .mixedOrders = true) (rk : Nat) (hP : Sound Tryd.prog glDer 33 (fun xs obs => cond (preRDParts rk xs obs) (SDParts xs obs).eval none)) : Sound Tryd.prog glDer 22 (fun xs obs => cond (preRDValue (rk + 1) xs obs) (SDValue xs obs).eval none) :=
  read_sound (E := EDValue rk) (N := 40) (keep := false) hm (fun g => (sound_pick (soundDBoxed hm) (sound_pick (soundDMust hm) (sound_pick (soundDNext hm) (sound_pick (soundDKnown hm) (sound_pick (soundDLength hm) (sound_pick (hP) (sound_pick (soundDFits hm) (sound_pick (soundSClone hm) sound_none))))))))) Tryd.func22 rfl rfl (loopsDValue rk) rfl (by
    intro xs obs out hp h
    unfold SDValue at h
    split at h
    · refine ⟨by simp [Tryd.f22], ?_⟩
      rw [gDValue_eq]
      exact (nDValue rk _ _ hp).trans h
    · cases h)
theorem soundRV (hm : Tryd.prog.follows .mixedOrders = true) : ∀ rk, Sound Tryd.prog glDer 22 (fun xs obs => cond (preRDValue rk xs obs) (SDValue xs obs).eval none)
  | 0 => sound_never fun xs obs h => by
    unfold preRDValue at h
    split at h
    · simp at h
    · cases h
  | rk + 1 => soundRDValue hm rk (soundRDParts hm rk (soundRV hm rk))
theorem soundDValue (hm : Tryd.prog.follows .mixedOrders = true) : Sound Tryd.prog glDer 22 (fun xs obs => cond (preDValue xs obs) (SDValue xs obs).eval none) :=
  sound_ranked (fun rk => soundRV hm rk) fun xs obs h => by
    unfold preDValue at h
    split at h
    · rename_i l d
      simp only [Bool.and_eq_true] at h
      refine ⟨d.toNat + 1, ?_⟩
      show (bytesOk l && (deepOk d && decide (d.toNat < d.toNat + 1))) = true
      simp only [Bool.and_eq_true, decide_eq_true_eq]
      exact ⟨h.1, h.2, by omega⟩
    · cases h
theorem soundDParts (hm : Tryd.prog.follows .mixedOrders = true) : Sound Tryd.prog glDer 33 (fun xs obs => cond (preDParts xs obs) (SDParts xs obs).eval none) :=
  sound_ranked (fun rk => soundRDParts hm rk (soundRV hm rk)) fun xs obs h => by
    unfold preDParts at h
    split at h
    · rename_i tag b l d
      simp only [Bool.and_eq_true, decide_eq_true_eq] at h
      refine ⟨d.toNat, ?_⟩
      show (bytesOk b && (deepOk d && decide (0 < d ∧ d.toNat < d.toNat + 1))) = true
      simp only [Bool.and_eq_true, decide_eq_true_eq]
      exact ⟨h.1, h.2.1, h.2.2, by omega⟩
    · cases h
theorem catDParse (hm : Tryd.prog.follows .mixedOrders = true) : DSound Tryd.prog glDer 21 (fun m xs obs => cond (preDDCatch m xs obs) (DDCatch m xs obs) none) := by
  have hE : ∀ g, Sound Tryd.prog EDCatch.glob g (ctr EDCatch g) := fun g => sound_none
  refine rec_sound (E := EDCatch) (N := 40) hE (sq_none rfl) rfl (draw_sound hE hm) rfl Tryd.func21 loopsDCatch rfl ?_
  intro m xs obs out h
  obtain ⟨hp, h⟩ := cond_some h
  unfold DDCatch at h
  split at h
  · refine ⟨by simp [Tryd.f21], ?_⟩
    rw [gDCatch_0_eq]
    exact h
  · refine ⟨by simp [Tryd.f21], ?_⟩
    rw [gDCatch_1_eq]
    exact h
  · refine ⟨by simp [Tryd.f21], ?_⟩
    rw [gDCatch_2_eq]
    exact h
  · cases h
theorem soundDParse (hm : Tryd.prog.follows .mixedOrders = true) : Sound Tryd.prog glDer 9 (fun xs obs => cond (preDParse xs obs) (SDParse xs obs).eval none) := by
  have hE : ∀ g, Sound Tryd.prog EDParse.glob g (ctr EDParse g) := fun g => (sound_pick (soundDValue hm) (sound_pick (soundDMust hm) sound_none))
  refine bodyD_sound (E := EDParse) (D := DEDParse) (N := 40) (keep := false) hE (sq_none rfl) (draw_sound hE hm) (fun g => ?_) (fun g m xs obs out h => ?_) rfl Tryd.func9 rfl rfl rfl loopsDParse rfl (fun xs obs out h => ?_)
  · show DSound Tryd.prog glDer g fun m xs obs => cond ((cond (Nat.beq g 21) preDDCatch (fun _ _ _ => false)) m xs obs) ((cond (Nat.beq g 21) DDCatch (fun _ _ _ => none)) m xs obs) none
    cases hb : Nat.beq g 21 with
    | true => obtain rfl := beq_iff.1 hb; exact catDParse hm
    | false => intro m xs obs out w Im ρ bl vs u h; cases h
  · have h : (cond (Nat.beq g 21) DDCatch (fun _ _ _ => none)) m xs obs = some out := h
    cases hb : Nat.beq g 21 with
    | true => obtain rfl := beq_iff.1 hb; exact ⟨_, Tryd.func21, rfl, rfl⟩
    | false => rw [hb] at h; cases h
  · obtain ⟨hp, h⟩ := cond_some h
    unfold SDParse at h
    split at h
    · refine ⟨by simp [Tryd.f9], ?_⟩
      rw [gDParse_eq]
      exact (nDParse _ hp).trans h
    · cases h
theorem soundLAwake (hm : Tryd.prog.follows .mixedOrders = true) : Sound Tryd.prog glDer 8 (fun xs obs => cond (preLAwake xs obs) (SLAwake xs obs).eval none) :=
  read_sound (E := ELAwake) (N := 40) (keep := false) hm (fun g => (sound_pick (soundDParse hm) (sound_pick (soundR1Same hm) sound_none))) Tryd.func8 rfl rfl loopsLAwake rfl (by
    intro xs obs out hp h
    unfold SLAwake at h
    split at h
    · refine ⟨by simp [Tryd.f8], ?_⟩
      rw [gLAwake_eq]
      exact (nLAwake hp).trans h
    · cases h    )
theorem soundLReads (hm : Tryd.prog.follows .mixedOrders = true) : Sound Tryd.prog glDer 3 (fun xs obs => cond (preLReads xs obs) (SLReads xs obs).eval none) :=
  read_sound (E := ELReads) (N := 40) (keep := false) hm (fun g => (sound_pick (soundLAwake hm) (sound_pick (soundDParse hm) (sound_pick (soundRParse hm) (sound_pick (soundRSame hm) sound_none))))) Tryd.func3 rfl rfl loopsLReads rfl (by
    intro xs obs out hp h
    unfold SLReads at h
    split at h
    · refine ⟨by simp [Tryd.f3], ?_⟩
      rw [gLReads_eq]
      exact (nLReads _ hp).trans h
    · cases h    )
theorem soundLDeep (hm : Tryd.prog.follows .mixedOrders = true) : Sound Tryd.prog glDer 4 (fun xs obs => cond (preLDeep xs obs) (SLDeep xs obs).eval none) :=
  read_sound (E := ELDeep) (N := 40) (keep := false) hm (fun g => (sound_pick (soundLAwake hm) (sound_pick (soundDParse hm) sound_none))) Tryd.func4 rfl rfl loopsLDeep rfl (by
    intro xs obs out hp h
    unfold SLDeep at h
    split at h
    · refine ⟨by simp [Tryd.f4], ?_⟩
      rw [gLDeep_eq]
      exact (nLDeep _ hp).trans h
    · cases h    )
end Go.Proofs.YtbgkadaidhgggaaDoorA

namespace Go.Proofs.YtbgkadaidhgggaaDoorA
open Go.ChangeShapes Go.WideShapes Go.ChangeAt Go.RowKit

/-- nothing that was there has turned, block by block -/
def Still (W W' : World) : Prop := Stays W W' ∧ ∀ b : Nat, b < W.heap.size → W'.heap[b]? = W.heap[b]?

theorem law_preG {glob : Nat → Option CV} {W : World} {xs : List V} {vs : List Value} (hg : ∀ g c, glob g = some c → CRep W (fun b => b < W.heap.size) (.vp c 0 0) (.pointer (some ⟨g, 0, none⟩))) (h : RepL W (fun b => b < W.heap.size) (fun _ => none) (fun _ => none) xs vs) : Pre glob W (fun b => b < W.heap.size) (fun _ => none) (fun _ => False) xs [] vs := by
  refine ⟨by simp, h, ⟨fun b hb => hb, fun b hb => hb, fun p o hp => (by cases hp), fun p q o o' b x y x' y' hp => (by cases hp), fun p o b x y hp => (by cases hp), fun b hb => .inl hb⟩, hg⟩

theorem law_callsG {glob : Nat → Option CV} {P : Program} {g : FuncId} {fn : Func} {S : FSpec} (hs : Sound P glob g S) (hf : P.funcs[g]? = some fn) (hn : (fn.name == "runtime.NumGoroutine") = false) (hb : fn.body.isSome = true) {xs : List V} {vs : List Value} {W : World}
    (hg : ∀ g c, glob g = some c → CRep W (fun b => b < W.heap.size) (.vp c 0 0) (.pointer (some ⟨g, 0, none⟩)))
    (hS : S xs [] = some (.ret [.cl (.bool true)] [])) (h : RepL W (fun b => b < W.heap.size) (fun _ => none) (fun _ => none) xs vs) : Calls P g vs.toArray W fun e W' => e = .returned (.bool true) ∧ Still W W' := by
  have hr := hs xs [] _ W _ _ _ vs hS (law_preG hg h)
  have key : ∀ e W', Ends W (fun b => b < W.heap.size) (fun _ => none) (fun _ => False) [] (.ret [.cl (.bool true)] []) e W' → e = .returned (.bool true) ∧ Still W W' := fun e W' he => by
    obtain ⟨us, Im', ρ', rfl, hp, hl, hv⟩ := he
    refine ⟨?_, left_of hp.fr, fun b hb => hp.fr.block b hb fun f => f⟩
    match us, hl with
    | [u], _ =>
      have := hv 0 _ u rfl rfl
      have := this.bool
      rw [this]
      rfl
  rcases hr with ⟨_, hc⟩ | ⟨v, w', h1, _⟩
  · exact hc.mono fun e W' he => key e W' he
  · exfalso
    obtain ⟨c, hc⟩ := Option.isSome_iff_exists.1 hb
    have hn' : ¬ fn.name = "runtime.NumGoroutine" := by simpa using hn
    simp [callFunc, hf, hn', hc] at h1

/-! ### data that stay -/
theorem still_same {W W' : World} (h : Still W W') {p : MemPlace} (hp : p.block < W.heap.size) : W.sameAt W' p := by
  cases p with
  | cell b o =>
    show W'.cell? ⟨b, o, none⟩ = W.cell? ⟨b, o, none⟩
    unfold World.cell?
    rw [h.2 b hp]
  | map b => exact h.2 b hp

section
variable {H : Type} {enc : TypeId × Value → H} {P : Program}
theorem trodAll_stays {W W' : World} (hl : laidOutB P = true) {sp : Nat → Bool} : ∀ {ts : List TypeId} {vs : List Value} {ds : List (DataW H)} {ps : List MemPlace}, (∀ t ∈ ts, P.readableRec t = true ∧ t < P.types.size) → DataW.TrodAll enc P W 0 (fun _ => true) true ts vs ds ps → (∀ p ∈ ps, W.sameAt W' p) → (∀ p ∈ ps, sp p.block = true) → DataW.TrodAll enc P W' 0 sp true ts vs ds ps
  | [], vs, ds, ps, _, h, _, _ => by
    obtain ⟨rfl, rfl, rfl⟩ := trodAll_nil h
    exact trodAll_mk0
  | t :: ts, vs, ds, ps, ht, h, hs, hp => by
    obtain ⟨v, vs', d, ds', p, q, rfl, rfl, rfl, h1, h2⟩ := trodAll_cons h
    refine trodAll_cons_mk (WideElems.Trod_stays hl (ht t (by simp)).1 (ht t (by simp)).2 h1 (fun x hx => hs x (by simp [hx])) fun x hx => hp x (by simp [hx])) (trodAll_stays hl (fun t' ht' => ht t' (by simp [ht'])) h2 (fun x hx => hs x (by simp [hx])) fun x hx => hp x (by simp [hx]))

/-! ### what came in -/
theorem cell_lt {W : World} {a : Addr} {v : Value} (h : W.cell? a = some v) : a.block < W.heap.size := by
  unfold World.cell? at h
  split at h
  · rename_i h1
    exact (Array.getElem?_eq_some_iff.1 h1).1
  · cases h
/-- a slice of numbers that came in -/
theorem open_sli {W : World} {b0 : Nat} {t e : TypeId} {k : IntKind} {v : Value} {d : DataW H} {ps : List MemPlace} (ht : P.underlying t = some (.slice e)) (he : P.underlying e = some (.int k)) (hc : P.cellsOf e = 1)
    (hval : Value.okWide P W .any b0 t v) (h : DataW.Trod enc P W 0 (fun _ => true) true t v d ps) : ∃ l : List Int, CRep W (fun b => b < W.heap.size) (.sli k l) v ∧ ∀ n ∈ l, (Lit.int k n).wf = true := by
  obtain ⟨a0, len0, cap0, rfl⟩ := okWide_slice ht hval
  obtain ⟨n, h⟩ := h
  rcases open_ints ht he hc h with ⟨hcs, _⟩ | ⟨a, len, cap, zs, hcs, _, hl, _, hz, _, hcell, hw⟩
  · have hcs : [Value.slice a0 len0 cap0] = [.slice none 0 0] := hcs
    simp only [List.cons.injEq, Value.slice.injEq, and_true] at hcs
    obtain ⟨rfl, rfl, rfl⟩ := hcs
    exact ⟨[], .sli _ _ _ _ _ rfl (Nat.le_refl _) fun i n hi => by simp at hi, fun n hn => by simp at hn⟩
  · have hcs : [Value.slice a0 len0 cap0] = [.slice (some a) len cap] := hcs
    simp only [List.cons.injEq, Value.slice.injEq, and_true] at hcs
    obtain ⟨rfl, rfl, rfl⟩ := hcs
    have hz : zs.length = cap0 := hz
    refine ⟨zs.take len0, .sli _ _ _ _ _ (by simp; omega) hl fun i n hi => ?_, fun n hn => hw n (List.mem_of_mem_take hn)⟩
    rw [List.getElem?_take] at hi
    split at hi
    · rename_i hlt
      have hlz : i < zs.length := by omega
      have hx := hcell i hlz
      have e : zs.getD i 0 = n := by rw [List.getD_eq_getElem?_getD, hi]; rfl
      rw [e] at hx
      have := cell_lt hx
      rw [block_add] at this
      exact ⟨a, rfl, this, hx⟩
    · cases hi
end

/-! ### the tables -/
theorem first_vp {W : World} (h : ∀ (i : Nat) (x : Int), u8FirstC[i]? = some x → W.cell? ⟨0, i, none⟩ = some (.int .u8 x)) : CRep W (fun b => b < W.heap.size) (.vp (.aggi 256 .u8 u8First) 0 0) (.pointer (some ⟨0, 0, none⟩)) := by
  have e : u8First = u8FirstC := shut_eq _
  rw [e]
  have h0 := cell_lt (h 0 240 rfl)
  refine CRep.vp (.aggi 256 .u8 u8FirstC) 0 0 1 (u8FirstC.map (.int .u8)) 0 0 (fun i => .int .u8 (u8FirstC.getD i 0)) rfl rfl h0 (fun j c hj => ?_) (fun j c hj => rfl) (fun j c hj => ?_)
  · rw [List.getElem?_map] at hj
    obtain ⟨x, hx, rfl⟩ := Option.map_eq_some_iff.1 hj
    rw [Nat.zero_add, h j x hx, List.getD_eq_getElem?_getD, hx]
    rfl
  · rw [List.getElem?_map] at hj
    obtain ⟨x, hx, rfl⟩ := Option.map_eq_some_iff.1 hj
    rw [List.getD_eq_getElem?_getD, hx]
    exact .int ..
def acceptL : List Int := [128, 191, 160, 191, 128, 159, 144, 191, 128, 143] ++ List.replicate 22 0
theorem accept_vp {W : World} (h : ∀ (i : Nat) (x : Int), acceptL[i]? = some x → W.cell? ⟨1, i, none⟩ = some (.int .u8 x)) : CRep W (fun b => b < W.heap.size) (.vp (.agga 16 2 u8Accept) 0 0) (.pointer (some ⟨1, 0, none⟩)) := by
  have e : u8Accept = u8AcceptC := shut_eq _
  rw [e]
  have h0 := cell_lt (h 0 128 rfl)
  have ef : u8AcceptC.flatMap cell1 = acceptL.map (.int .u8) := rfl
  refine CRep.vp (.agga 16 2 u8AcceptC) 0 0 2 (acceptL.map (.int .u8)) 1 0 (fun i => .int .u8 (acceptL.getD i 0)) (by rw [← ef]; rfl) ⟨rfl, fun c hc => ?_⟩ h0 (fun j c hj => ?_) (fun j c hj => rfl) (fun j c hj => ?_)
  · unfold u8AcceptC at hc
    obtain ⟨p, _, rfl⟩ := List.mem_map.1 hc
    rfl
  · rw [List.getElem?_map] at hj
    obtain ⟨x, hx, rfl⟩ := Option.map_eq_some_iff.1 hj
    rw [Nat.zero_add, h j x hx, List.getD_eq_getElem?_getD, hx]
    rfl
  · rw [List.getElem?_map] at hj
    obtain ⟨x, hx, rfl⟩ := Option.map_eq_some_iff.1 hj
    rw [List.getD_eq_getElem?_getD, hx]
    exact .int ..
def acceptD : DataW Unit := .agg [.agg [.lit (.int .u8 128), .lit (.int .u8 191)], .agg [.lit (.int .u8 160), .lit (.int .u8 191)], .agg [.lit (.int .u8 128), .lit (.int .u8 159)], .agg [.lit (.int .u8 144), .lit (.int .u8 191)], .agg [.lit (.int .u8 128), .lit (.int .u8 143)], .agg [.lit (.int .u8 0), .lit (.int .u8 0)], .agg [.lit (.int .u8 0), .lit (.int .u8 0)], .agg [.lit (.int .u8 0), .lit (.int .u8 0)], .agg [.lit (.int .u8 0), .lit (.int .u8 0)], .agg [.lit (.int .u8 0), .lit (.int .u8 0)], .agg [.lit (.int .u8 0), .lit (.int .u8 0)], .agg [.lit (.int .u8 0), .lit (.int .u8 0)], .agg [.lit (.int .u8 0), .lit (.int .u8 0)], .agg [.lit (.int .u8 0), .lit (.int .u8 0)], .agg [.lit (.int .u8 0), .lit (.int .u8 0)], .agg [.lit (.int .u8 0), .lit (.int .u8 0)]]
theorem gFirst : Tryd.prog.globalNamed "unicode/utf8.first" = some 0 := by kernel_rfl
theorem gAccept : Tryd.prog.globalNamed "unicode/utf8.acceptRanges" = some 1 := by kernel_rfl
theorem tFirst : (Tryd.prog.globals[0]?).map (·.type) = some 95 := by kernel_rfl
theorem tAccept : (Tryd.prog.globals[1]?).map (·.type) = some 98 := by kernel_rfl
theorem c5 : Tryd.prog.cellsOf 5 = 1 := by kernel_rfl
theorem c95 : Tryd.prog.cellsOf 95 = 256 := by kernel_rfl
theorem c97 : Tryd.prog.cellsOf 97 = 2 := by kernel_rfl
theorem pinned_eq : Go.Pinned.utf8First = Lib.tabData .u8 u8FirstC := by kernel_rfl
theorem cells_first {W : World} (h : Lib.VarReads Tryd.prog W "unicode/utf8.first" Go.Pinned.utf8First) (i : Nat) (x : Int) (hx : u8FirstC[i]? = some x) : W.cell? ⟨0, i, none⟩ = some (.int .u8 x) := by
  obtain ⟨g, t, cs, fuel, p, hg, ht, hv, hd⟩ := h
  obtain rfl := Option.some.inj (gFirst.symm.trans hg)
  obtain rfl := Option.some.inj (tFirst.symm.trans ht)
  rw [pinned_eq] at hd
  have hcs := Lib.cells_of_tab Tryd.underlying95 Tryd.underlying5 c5 c95 hd
  rw [World.var?_cell gFirst hv i, ← Array.getElem?_toList, hcs, List.getElem?_map, hx]
  rfl
theorem cells_accept {W : World} (h : Lib.VarReads Tryd.prog W "unicode/utf8.acceptRanges" acceptD) (i : Nat) (x : Int) (hx : acceptL[i]? = some x) : W.cell? ⟨1, i, none⟩ = some (.int .u8 x) := by
  obtain ⟨g, t, cs, fuel, p, hg, ht, hv, hd⟩ := h
  obtain rfl := Option.some.inj (gAccept.symm.trans hg)
  obtain rfl := Option.some.inj (tAccept.symm.trans ht)
  have hi : i < 32 := (List.getElem?_eq_some_iff.1 hx).1
  rw [World.var?_cell gAccept hv i, ← Array.getElem?_toList]
  obtain ⟨fuel', d, q, hdd, hf⟩ := Lib.array_elem Tryd.underlying98 hd (i / 2) (by omega)
  rw [c97] at hf
  have hz : d = .agg ([acceptL.getD (2 * (i / 2)) 0, acceptL.getD (2 * (i / 2) + 1) 0].map fun z => .lit (.int .u8 z)) := by
    have hall : ∀ j : Fin 16, ([.agg [.lit (.int .u8 128), .lit (.int .u8 191)], .agg [.lit (.int .u8 160), .lit (.int .u8 191)], .agg [.lit (.int .u8 128), .lit (.int .u8 159)], .agg [.lit (.int .u8 144), .lit (.int .u8 191)], .agg [.lit (.int .u8 128), .lit (.int .u8 143)], .agg [.lit (.int .u8 0), .lit (.int .u8 0)], .agg [.lit (.int .u8 0), .lit (.int .u8 0)], .agg [.lit (.int .u8 0), .lit (.int .u8 0)], .agg [.lit (.int .u8 0), .lit (.int .u8 0)], .agg [.lit (.int .u8 0), .lit (.int .u8 0)], .agg [.lit (.int .u8 0), .lit (.int .u8 0)], .agg [.lit (.int .u8 0), .lit (.int .u8 0)], .agg [.lit (.int .u8 0), .lit (.int .u8 0)], .agg [.lit (.int .u8 0), .lit (.int .u8 0)], .agg [.lit (.int .u8 0), .lit (.int .u8 0)], .agg [.lit (.int .u8 0), .lit (.int .u8 0)]] : List (DataW Unit))[j.val]? = some (.agg ([acceptL.getD (2 * j.val) 0, acceptL.getD (2 * j.val + 1) 0].map fun z => .lit (.int .u8 z))) := by
      intro ⟨j, hj⟩
      have hj' : j = 0 ∨ j = 1 ∨ j = 2 ∨ j = 3 ∨ j = 4 ∨ j = 5 ∨ j = 6 ∨ j = 7 ∨ j = 8 ∨ j = 9 ∨ j = 10 ∨ j = 11 ∨ j = 12 ∨ j = 13 ∨ j = 14 ∨ j = 15 := by omega
      rcases hj' with rfl | rfl | rfl | rfl | rfl | rfl | rfl | rfl | rfl | rfl | rfl | rfl | rfl | rfl | rfl | rfl <;> rfl
    have := hall ⟨i / 2, by omega⟩
    exact Option.some.inj (hdd.symm.trans this)
  rw [hz] at hf
  have hcs := Lib.ints_of_struct Tryd.underlying97 (fun j f hj => by
    match j, hj with
    | 0, hj => cases hj; exact ⟨Tryd.underlying5, rfl, c5⟩
    | 1, hj => cases hj; exact ⟨Tryd.underlying5, rfl, c5⟩
    | j + 2, hj => simp at hj) c97 hf
  have hget := congrArg (·[i % 2]?) hcs
  simp only [List.getElem?_take, List.getElem?_drop] at hget
  rw [if_pos (by omega), show i / 2 * 2 + i % 2 = i by omega] at hget
  rw [hget]
  have hxd : acceptL.getD i 0 = x := by rw [List.getD_eq_getElem?_getD, hx]; rfl
  rcases Nat.mod_two_eq_zero_or_one i with h2 | h2
  · rw [h2]
    show some (Value.int .u8 (acceptL.getD (2 * (i / 2)) 0)) = _
    rw [show 2 * (i / 2) = i by omega, hxd]
  · rw [h2]
    show some (Value.int .u8 (acceptL.getD (2 * (i / 2) + 1) 0)) = _
    rw [show 2 * (i / 2) + 1 = i by omega, hxd]
/-- the tables laid, for a witness -/
def layRow (l : List Int) : Go.Obj → Go.Obj
  | .cells _ t fr => .cells (l.map (Value.int .u8)).toArray t fr
  | o => o
def layDer (h : Array Go.Obj) : Array Go.Obj := (h.modify 0 (layRow u8FirstC)).modify 1 (layRow acceptL)
theorem globs_der {W : World} (h1 : Lib.VarReads Tryd.prog W "unicode/utf8.first" Go.Pinned.utf8First) (h2 : Lib.VarReads Tryd.prog W "unicode/utf8.acceptRanges" acceptD) : ∀ g c, glDer g = some c → CRep W (fun b => b < W.heap.size) (.vp c 0 0) (.pointer (some ⟨g, 0, none⟩)) := by
  intro g c h
  unfold glDer at h
  cases hb : Nat.beq g 0 with
  | true =>
    rw [hb] at h
    obtain rfl := beq_iff.1 hb
    cases h
    exact first_vp (cells_first h1)
  | false =>
    rw [hb] at h
    cases hb' : Nat.beq g 1 with
    | true =>
      rw [hb'] at h
      obtain rfl := beq_iff.1 hb'
      cases h
      exact accept_vp (cells_accept h2)
    | false => rw [hb'] at h; cases h
end Go.Proofs.YtbgkadaidhgggaaDoorA
