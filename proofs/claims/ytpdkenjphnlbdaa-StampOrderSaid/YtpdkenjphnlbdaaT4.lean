/-
  The contracts of the stamp layer hold. Conditions: none.
-/
import Derived.Test.YtpdkenjphnlbdaaT3
set_option linter.unusedVariables false
set_option linter.unusedSimpArgs false
set_option maxRecDepth 100000
namespace Go.Proofs.YtpdkenjphnlbdaaA
theorem soundDigits (hm : Try.prog.follows .mixedOrders = true) : Sound Try.prog (fun _ => none) 13 (fun xs obs => cond (preDigits xs obs) (SDigits xs obs) none) :=
  read_sound (E := EDigits) (N := 40) (keep := false) hm (fun g => sound_none) Try.func13 rfl rfl loopsDigits rfl (by
    intro xs obs out hp h
    unfold SDigits at h
    split at h
    · refine ⟨by simp [Try.f13], ?_⟩
      rw [gDigits_eq]
      exact (nDigits _ hp).trans h
    · cases h)
theorem soundDLeap (hm : Try.prog.follows .mixedOrders = true) : Sound Try.prog (fun _ => none) 23 (fun xs obs => cond (preDLeap xs obs) (SDLeap xs obs) none) :=
  read_sound (E := EDLeap) (N := 40) (keep := false) hm (fun g => sound_none) Try.func23 rfl rfl loopsDLeap rfl (by
    intro xs obs out hp h
    unfold SDLeap at h
    split at h
    · refine ⟨by simp [Try.f23], ?_⟩
      rw [gDLeap_eq]
      exact (nDLeap _ _ _ _ _ _ hp).trans h
    · cases h)
theorem soundDDays (hm : Try.prog.follows .mixedOrders = true) : Sound Try.prog (fun _ => none) 21 (fun xs obs => cond (preDDays xs obs) (SDDays xs obs) none) :=
  read_sound (E := EDDays) (N := 40) (keep := false) hm (fun g => (sound_pick (soundDLeap hm) sound_none)) Try.func21 rfl rfl loopsDDays rfl (by
    intro xs obs out hp h
    unfold SDDays at h
    split at h
    · refine ⟨by simp [Try.f21], ?_⟩
      rw [gDDays_eq]
      exact (nDDays _ _ _ _ _ _ hp).trans h
    · cases h)
theorem soundDFit (hm : Try.prog.follows .mixedOrders = true) : Sound Try.prog (fun _ => none) 14 (fun xs obs => cond (preDFit xs obs) (SDFit xs obs) none) :=
  read_sound (E := EDFit) (N := 40) (keep := false) hm (fun g => (sound_pick (soundDDays hm) sound_none)) Try.func14 rfl rfl loopsDFit rfl (by
    intro xs obs out hp h
    unfold SDFit at h
    split at h
    · refine ⟨by simp [Try.f14], ?_⟩
      rw [gDFit_eq]
      exact (nDFit _ _ _ _ _ _ hp).trans h
    · cases h)
theorem soundDSecs (hm : Try.prog.follows .mixedOrders = true) : Sound Try.prog (fun _ => none) 15 (fun xs obs => cond (preDSecs xs obs) (SDSecs xs obs) none) :=
  read_sound (E := EDSecs) (N := 40) (keep := false) hm (fun g => sound_none) Try.func15 rfl rfl loopsDSecs rfl (by
    intro xs obs out hp h
    unfold SDSecs at h
    split at h
    · refine ⟨by simp [Try.f15], ?_⟩
      rw [gDSecs_eq]
      exact (nDSecs _ _ _ _ _ _ hp).trans h
    · cases h)
theorem soundSDays (hm : Try.prog.follows .mixedOrders = true) : Sound Try.prog (fun _ => none) 11 (fun xs obs => cond (preSDays xs obs) (SSDays xs obs) none) :=
  read_sound (E := ESDays) (N := 40) (keep := false) hm (fun g => (sound_pick (soundDFit hm) (sound_pick (soundDDays hm) sound_none))) Try.func11 rfl rfl loopsSDays rfl (by
    intro xs obs out hp h
    unfold SSDays at h
    split at h
    · refine ⟨by simp [Try.f11], ?_⟩
      rw [gSDays_eq]
      exact (nSDays _ _ hp).trans h
    · cases h)
theorem soundDated (hm : Try.prog.follows .mixedOrders = true) : Sound Try.prog (fun _ => none) 18 (fun xs obs => cond (preDated xs obs) (SDated xs obs) none) :=
  read_sound (E := EDated) (N := 40) (keep := false) hm (fun g => sound_none) Try.func18 rfl rfl loopsDated rfl (by
    intro xs obs out hp h
    unfold SDated at h
    split at h
    · refine ⟨by simp [Try.f18], ?_⟩
      rw [gDated_eq]
      exact (nDated _ hp).trans h
    · cases h)
theorem soundPut (hm : Try.prog.follows .mixedOrders = true) : Sound Try.prog (fun _ => none) 19 (fun xs obs => cond (prePut xs obs) (SPut xs obs) none) :=
  read_sound (E := EPut) (N := 40) (keep := true) hm (fun g => sound_none) Try.func19 rfl rfl loopsPut rfl (by
    intro xs obs out hp h
    unfold SPut at h
    split at h
    · refine ⟨by simp [Try.f19], ?_⟩
      rw [gPut_0_eq]
      exact (nPut_0 _ hp).trans h
    · refine ⟨by simp [Try.f19], ?_⟩
      rw [gPut_1_eq]
      exact (nPut_1 _ _ _ hp).trans h
    · cases h)
theorem soundSText (hm : Try.prog.follows .mixedOrders = true) : Sound Try.prog (fun _ => none) 9 (fun xs obs => cond (preSText xs obs) (SSText xs obs) none) :=
  read_sound (E := ESText) (N := 40) (keep := false) hm (fun g => (sound_pick (soundDated hm) (sound_pick (soundPut hm) sound_none))) Try.func9 rfl rfl loopsSText rfl (by
    intro xs obs out hp h
    unfold SSText at h
    split at h
    · refine ⟨by simp [Try.f9], ?_⟩
      rw [gSText_eq]
      exact (nSText _ hp).trans h
    · cases h)
theorem soundSRead (hm : Try.prog.follows .mixedOrders = true) : Sound Try.prog (fun _ => none) 7 (fun xs obs => cond (preSRead xs obs) (SSRead xs obs) none) :=
  read_sound (E := ESRead) (N := 40) (keep := false) hm (fun g => (sound_pick (soundDigits hm) (sound_pick (soundDFit hm) (sound_pick (soundDSecs hm) sound_none)))) Try.func7 rfl rfl loopsSRead rfl (by
    intro xs obs out hp h
    unfold SSRead at h
    split at h
    · refine ⟨by simp [Try.f7], ?_⟩
      rw [gSRead_eq]
      exact (nSRead _ hp).trans h
    · cases h)
theorem soundRLeap (hm : Try.prog.follows .mixedOrders = true) : Sound Try.prog (fun _ => none) 22 (fun xs obs => cond (preRLeap xs obs) (SRLeap xs obs) none) :=
  read_sound (E := ERLeap) (N := 40) (keep := false) hm (fun g => sound_none) Try.func22 rfl rfl loopsRLeap rfl (by
    intro xs obs out hp h
    unfold SRLeap at h
    split at h
    · refine ⟨by simp [Try.f22], ?_⟩
      rw [gRLeap_eq]
      exact (nRLeap _ hp).trans h
    · cases h)
theorem soundRDays (hm : Try.prog.follows .mixedOrders = true) : Sound Try.prog (fun _ => none) 12 (fun xs obs => cond (preRDays xs obs) (SRDays xs obs) none) :=
  read_sound (E := ERDays) (N := 40) (keep := false) hm (fun g => (sound_pick (soundRLeap hm) sound_none)) Try.func12 rfl rfl loopsRDays rfl (by
    intro xs obs out hp h
    unfold SRDays at h
    split at h
    · refine ⟨by simp [Try.f12], ?_⟩
      rw [gRDays_eq]
      exact (nRDays _ _ hp).trans h
    · cases h)
theorem soundRYears (hm : Try.prog.follows .mixedOrders = true) : Sound Try.prog (fun _ => none) 17 (fun xs obs => cond (preRYears xs obs) (SRYears xs obs) none) :=
  read_sound (E := ERYears) (N := 40) (keep := false) hm (fun g => sound_none) Try.func17 rfl rfl loopsRYears rfl (by
    intro xs obs out hp h
    unfold SRYears at h
    split at h
    · refine ⟨by simp [Try.f17], ?_⟩
      rw [gRYears_eq]
      exact (nRYears _ hp).trans h
    · cases h)
theorem soundRTwo (hm : Try.prog.follows .mixedOrders = true) : Sound Try.prog (fun _ => none) 20 (fun xs obs => cond (preRTwo xs obs) (SRTwo xs obs) none) :=
  read_sound (E := ERTwo) (N := 40) (keep := false) hm (fun g => sound_none) Try.func20 rfl rfl loopsRTwo rfl (by
    intro xs obs out hp h
    unfold SRTwo at h
    split at h
    · refine ⟨by simp [Try.f20], ?_⟩
      rw [gRTwo_eq]
      exact (nRTwo _ hp).trans h
    · cases h)
theorem soundRNumber (hm : Try.prog.follows .mixedOrders = true) : Sound Try.prog (fun _ => none) 16 (fun xs obs => cond (preRNumber xs obs) (SRNumber xs obs) none) :=
  read_sound (E := ERNumber) (N := 40) (keep := false) hm (fun g => sound_none) Try.func16 rfl rfl loopsRNumber rfl (by
    intro xs obs out hp h
    unfold SRNumber at h
    split at h
    · refine ⟨by simp [Try.f16], ?_⟩
      rw [gRNumber_eq]
      exact (nRNumber _ hp).trans h
    · cases h)
theorem soundRText (hm : Try.prog.follows .mixedOrders = true) : Sound Try.prog (fun _ => none) 10 (fun xs obs => cond (preRText xs obs) (SRText xs obs) none) :=
  read_sound (E := ERText) (N := 40) (keep := false) hm (fun g => (sound_pick (soundRDays hm) (sound_pick (soundRYears hm) (sound_pick (soundRTwo hm) sound_none)))) Try.func10 rfl rfl loopsRText rfl (by
    intro xs obs out hp h
    unfold SRText at h
    split at h
    · refine ⟨by simp [Try.f10], ?_⟩
      rw [gRText_eq]
      exact (nRText _ hp).trans h
    · cases h)
theorem soundRRead (hm : Try.prog.follows .mixedOrders = true) : Sound Try.prog (fun _ => none) 8 (fun xs obs => cond (preRRead xs obs) (SRRead xs obs) none) :=
  read_sound (E := ERRead) (N := 40) (keep := false) hm (fun g => (sound_pick (soundRDays hm) (sound_pick (soundRNumber hm) (sound_pick (soundRYears hm) sound_none)))) Try.func8 rfl rfl loopsRRead rfl (by
    intro xs obs out hp h
    unfold SRRead at h
    split at h
    · refine ⟨by simp [Try.f8], ?_⟩
      rw [gRRead_eq]
      exact (nRRead _ hp).trans h
    · cases h)
end Go.Proofs.YtpdkenjphnlbdaaA

/-
  The law's contract holds. Conditions: none.
-/
set_option linter.unusedVariables false
set_option linter.unusedSimpArgs false
set_option maxRecDepth 100000
namespace Go.Proofs.YtpdkenjphnlbdaaA
theorem soundSAwake (hm : Try.prog.follows .mixedOrders = true) : Sound Try.prog (fun _ => none) 6 (fun xs obs => cond (preSAwake xs obs) (SSAwake xs obs) none) :=
  read_sound (E := ESAwake) (N := 40) (keep := false) hm (fun g => (sound_pick (soundSRead hm) (sound_pick (soundSText hm) (sound_pick (soundSDays hm) sound_none)))) Try.func6 rfl rfl loopsSAwake rfl (by
    intro xs obs out hp h
    unfold SSAwake at h
    split at h
    · refine ⟨by simp [Try.f6], ?_⟩
      rw [gSAwake_eq]
      exact (nSAwake hp).trans h
    · cases h)
theorem soundSOrder (hm : Try.prog.follows .mixedOrders = true) : Sound Try.prog (fun _ => none) 5 (fun xs obs => cond (preSOrder xs obs) (SSOrder xs obs) none) :=
  read_sound (E := ESOrder) (N := 40) (keep := false) hm (fun g => (sound_pick (soundSAwake hm) (sound_pick (soundSText hm) (sound_pick (soundSDays hm) sound_none)))) Try.func5 rfl rfl loopsSOrder rfl (by
    intro xs obs out hp h
    unfold SSOrder at h
    split at h
    · refine ⟨by simp [Try.f5], ?_⟩
      rw [gSOrder_eq]
      exact (nSOrder _ _ _ hp).trans h
    · cases h)
end Go.Proofs.YtpdkenjphnlbdaaA
