/-
  OidTexts: whatever the input, it returns true, and the input reads as it did: the row and its tied card. Conditions: none but the given statement's own.
-/
import Derived.Test.YtgkedgpgfmibhaaDoorCards
import Derived.Test.YtgkedgpgfmibhaaDoorTie
import Derived.Test.YtgkedgpgfmibhaaDoorT4
import Derived.Test.YtgkedgpgfmibhaaDoorT5
import Derived.Deep.DeepHandedRow
set_option linter.unusedVariables false
set_option linter.unusedSimpArgs false
namespace Go.Proofs.YtgkedgpgfmibhaaDoor.oidTexts
open Go.ChangeShapes Go.WideShapes Go.ChangeAt Go.RowKit Go.Proofs.YtgkedgpgfmibhaaDoorA
theorem own : ownKnob Tryd.prog.godebug = none := by kernel_rfl
theorem mixed : Tryd.prog.follows .mixedOrders = true := by kernel_rfl
theorem laidOut : laidOutB Tryd.prog = true := by kernel_rfl
theorem rec9 : Tryd.prog.readableRec 9 = true := by kernel_rfl
theorem row9 : 9 < Tryd.prog.types.size := of_decide_eq_true (by kernel_rfl)
theorem rec23 : Tryd.prog.readableRec 23 = true := by kernel_rfl
theorem row23 : 23 < Tryd.prog.types.size := of_decide_eq_true (by kernel_rfl)
theorem rows : ∀ t ∈ Tryd.f6.params.toList, Tryd.prog.readableRec t = true ∧ t < Tryd.prog.types.size := by
  intro t ht
  rw [Tryd.params6] at ht
  simp only [List.mem_cons, List.mem_nil_iff, or_false] at ht
  rcases ht with rfl | rfl | rfl
  · exact ⟨rec23, row23⟩
  · exact ⟨rec23, row23⟩
  · exact ⟨rec9, row9⟩
set_option maxRecDepth 100000 in
theorem contract (H : Type) (enc : TypeId × Value → H) (W : World) (base : Nat) (args : Array Value) (ds gs : List (DataW H)) (before : List MemPlace)
    (hval : ∀ (j : Nat) t v, Tryd.f6.params[j]? = some t → args[j]? = some v → Value.okWide Tryd.prog W .any base t v)
    (hW : DataW.Whole enc Tryd.prog Tryd.f6.params.toList Rows.oidTextsSpec.vars false W args.toList ds gs before) (hL : laidMetH Tryd.prog Rows.oidTextsRow.laid W)
    (hwt : (DataW.weightsEach Tryd.prog (Tryd.f6.params.toList ++ (OpenSpec.ofChange Rows.oidTextsSpec).bare.plain.varTypes Tryd.prog) (ds ++ gs)).all (· ≤ reachBytes) = true) (hsh : W.ShapedOpen Tryd.prog) :
    Calls Tryd.prog 6 args W fun e W' => ∃ v, e = .returned v ∧ Rows.oidTextsSpec.post enc Tryd.prog Tryd.f6 false true false false W args v W' := by
  have hW' := hW
  have hlt := hW.lt
  obtain ⟨p, q, hA0, hV, rfl, hfz, hnd⟩ := hW
  have hA : DataW.TrodAll enc Tryd.prog W 0 (fun _ => true) true Tryd.f6.params.toList args.toList ds p := hA0
  rw [Tryd.params6] at hA hval hwt
  obtain ⟨v0, vs0, d0, ds0, p0, q0, hargs, rfl, rfl, h0, r0⟩ := trodAll_cons hA
  obtain ⟨v1, vs1, d1, ds1, p1, q1, rfl, rfl, rfl, h1, r1⟩ := trodAll_cons r0
  obtain ⟨v2, vs2, d2, ds2, p2, q2, rfl, rfl, rfl, h2, r2⟩ := trodAll_cons r1
  obtain ⟨rfl, rfl, rfl⟩ := trodAll_nil r2
  obtain rfl : args = #[v0, v1, v2] := by cases args; simp_all
  obtain ⟨rfl, rfl⟩ := trodVars_none hV
  obtain ⟨a0, c0, b0, m0⟩ := open_sliN Tryd.underlying23 Tryd.underlying41 (by kernel_rfl) (hval 0 23 v0 rfl rfl) h0
  have l0 := sli_len (j := 0) (t := 23) hwt rfl rfl Tryd.underlying23 (of_decide_eq_true (by kernel_rfl)) m0
  obtain ⟨a1, c1, b1, m1⟩ := open_sliN Tryd.underlying23 Tryd.underlying41 (by kernel_rfl) (hval 1 23 v1 rfl rfl) h1
  have l1 := sli_len (j := 1) (t := 23) hwt rfl rfl Tryd.underlying23 (of_decide_eq_true (by kernel_rfl)) m1
  obtain ⟨a2, e2, _, _, w2⟩ := ChangeMaps.open_string Tryd.underlying9 (hval 2 9 v2 rfl rfl) h2
  have hlm : laidMet Tryd.prog Rows.oidTextsRow.laid W := hL
  have hg := globs_oid hsh (Lib.laidMet.reads hlm (n := "strconv.ErrSyntax") (d := Rows.laid_strconv_ErrSyntax) (List.Mem.tail _ (List.Mem.tail _ (List.Mem.tail _ (List.Mem.tail _ (List.Mem.tail _ (List.Mem.head _))))))) (Lib.laidMet.reads hlm (n := "strconv.ErrRange") (d := Rows.laid_strconv_ErrRange) (List.Mem.tail _ (List.Mem.tail _ (List.Mem.tail _ (List.Mem.tail _ (List.Mem.head _)))))) (Lib.laidMet.reads hlm (n := "internal/strconv.uint64pow10") (d := Rows.laid_internal_strconv_uint64pow10) (List.Mem.tail _ (List.Mem.tail _ (List.Mem.head _))))
  have hp : preLTexts [.cl (.sli .u32 a0), .cl (.sli .u32 a1), .cl (.str a2)] [] = true := by
    show (u32All a0 && u32All a1) = true
    rw [u32All_of l0 b0, u32All_of l1 b1]; rfl
  refine (law_callsG (soundLTexts mixed) Tryd.func6 rfl rfl hg (xs := [.cl (.sli .u32 a0), .cl (.sli .u32 a1), .cl (.str a2)]) (vs := [v0, v1, v2]) (by
      show cond (preLTexts _ _) (SLTexts _ _).eval none = _
      rw [hp]
      rfl) ⟨rfl, fun j c v hj hv => by
      match j, hj, hv with
      | 0, hj, hv => cases hj; cases hv; exact .cl _ _ c0
      | 1, hj, hv => cases hj; cases hv; exact .cl _ _ c1
      | 2, hj, hv => cases hj; cases hv; rw [e2]; exact .cl _ _ (.str ..)
      | j + 3, hj, hv => simp at hj⟩).mono fun e W' ⟨he, hs⟩ => ?_
  subst he
  exact ⟨_, rfl, law_post (pa := _) (pv := []) hW' (fun _ _ _ => (trodAll_cons_mk (shut_bool Tryd.underlying4 _) trodAll_mk0)) (fun sp hsp => trodAll_stays laidOut rows hA0 (fun x hx => still_same hs (hlt x (List.mem_append_left _ hx))) fun x hx => hsp x (List.mem_append_left _ hx)) (fun _ _ => rfl) rfl
    hs.1 (ok_one (by kernel_rfl) rfl (okWide_bool_mk Tryd.underlying4 _))⟩
/-- A world for the witness: the settled one, with the tables. -/
noncomputable def laidWorld (os : Os) : World :=
  { World.holding Tryd.prog os ⟨#[], #[], []⟩ with heap := layOid (World.holding Tryd.prog os ⟨#[], #[], []⟩).heap }
set_option maxRecDepth 100000 in
theorem laid_met (os : Os) : laidMet Tryd.prog Rows.oidTextsRow.laid ((laidWorld os).forCall (fun _ _ => 0) ⟨#[], #[.slice none 0 0, .slice none 0 0, .string ⟨#[]⟩], []⟩).memory :=
  laidMet_of_run' 8 (by kernel_rfl) (by kernel_rfl)
theorem reads (os : Os) {H : Type} (enc : TypeId × Value → H) : ∃ places, DataW.whole enc Tryd.prog ((laidWorld os).forCall (fun _ _ => 0) ⟨#[], #[.slice none 0 0, .slice none 0 0, .string ⟨#[]⟩], []⟩).memory Tryd.f6.params.toList Rows.oidTextsSpec.vars false (#[.slice none 0 0, .slice none 0 0, .string ⟨#[]⟩] : Array Value).toList 8 = some ([.nil, .nil, .lit (.string [])], [], places) :=
  ⟨[], by kernel_rfl⟩
set_option maxRecDepth 100000 in
theorem lifted (os : Os) (started : os.Started) (H : Type) (enc : TypeId × Value → H) (F : Stop.Interp) :
    ReturnsInHanded {} Tryd.checked os 6 .any ((OpenSpec.ofChange Rows.oidTextsSpec).preRow enc Tryd.prog Tryd.f6 Rows.oidTextsRow.domain false Rows.oidTextsRow.laid) (((OpenSpec.ofChange Rows.oidTextsSpec).at F).post enc Tryd.prog Tryd.f6 false true false false) := by
  obtain ⟨places, hx⟩ := reads os enc
  refine returnsInHanded_of_row (C := Tryd.checked) (s := OpenSpec.ofChange Rows.oidTextsSpec) own started (by kernel_rfl) Tryd.func6
    (witness_row_at (enc := enc) (C := Tryd.checked) false (laidWorld os) #[.slice none 0 0, .slice none 0 0, .string ⟨#[]⟩] rfl (by kernel_rfl) (by kernel_rfl) (by kernel_rfl)
      (OpenSpec.preRow_of_cond 8 hx (by kernel_rfl) (fun k hk => by cases hk) (by kernel_rfl) (laid_met os))) ?_
  intro W base args ds gs before hval hW _ _ hwt hL hsh _
  exact contract H enc W base args ds gs before hval hW hL hwt hsh
theorem said : Rows.OidTextsSaid :=
  OpenClaim.holds_of_cond 6 Tryd.f6 rfl rfl rfl rfl rfl rfl rfl ⟨rfl, rfl, rfl, rfl, rfl⟩ rfl rfl rfl rfl rfl (by kernel_rfl) Tryd.func6 (by kernel_rfl)
    (of_decide_eq_true (by kernel_rfl)) (by unfold Func.isWrapper; first | (rw [if_pos (by decide +kernel)]; kernel_rfl) | (rw [if_neg (by decide +kernel)]; exact ⟨rfl, rfl⟩))
    (fun os started H enc _ F => by rw [OpenClaim.pre_eq_preRow]; exact lifted os started H enc F)
theorem plain (f : FuncId) (fn : Func) (hf : Tryd.pinned.checked.prog.funcNamed "apostille/apostillelaw02.OidTexts" = some f) (hfn : Tryd.pinned.checked.prog.funcs[f]? = some fn) :
    true = Tryd.pinned.checked.prog.looks [] ∧ ∀ (j : Nat) t, fn.params[j]? = some t → Tryd.pinned.checked.prog.wantsStandIn t = false := by
  obtain rfl : f = 6 := Option.some.inj ((show Tryd.prog.funcNamed "apostille/apostillelaw02.OidTexts" = some 6 by kernel_rfl).symm.trans hf) |>.symm
  obtain rfl : fn = Tryd.f6 := (Option.some.inj (Tryd.func6.symm.trans hfn)).symm
  refine ⟨by kernel_rfl, fun j t ht => ?_⟩
  rw [Tryd.params6] at ht
  have hm := Array.mem_of_getElem? ht
  simp only [List.mem_toArray, List.mem_cons, List.mem_nil_iff, or_false] at hm
  rcases hm with rfl | rfl | rfl
  · exact (show Tryd.prog.wantsStandIn 23 = false by kernel_rfl)
  · exact (show Tryd.prog.wantsStandIn 23 = false by kernel_rfl)
  · exact (show Tryd.prog.wantsStandIn 9 = false by kernel_rfl)
/-- the given statement: the tied card -/
theorem card : Rows.OidTextsCardSaid :=
  Claim7.holds_tied_plain_at .later [] _ _ _ _ said (fun _ h => by cases h) (by kernel_rfl) (fun _ h => by cases h) oidTexts_row_tie rfl ⟨rfl, rfl⟩ (by kernel_rfl) rfl plain (by kernel_rfl)
end Go.Proofs.YtgkedgpgfmibhaaDoor.oidTexts

