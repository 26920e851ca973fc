/-
 AlgsTells: whatever the input, it returns true, and the input reads as it did: the row and its tied card. Conditions: none but the given statement's own.
-/
import Derived.Test.YtfkpjbbkdkcdcaaDoorCards
import Derived.Test.YtfkpjbbkdkcdcaaDoorTie
import Derived.Test.YtfkpjbbkdkcdcaaDoorT6
import Derived.Deep.DeepHandedRow
set_option linter.unusedVariables false
set_option linter.unusedSimpArgs false
namespace Go.Proofs.YtfkpjbbkdkcdcaaDoor.algsTells
open Go.ChangeShapes Go.WideShapes Go.ChangeAt Go.RowKit Go.Proofs.YtfkpjbbkdkcdcaaDoorA
theorem own : ownKnob Tryd.prog.godebug = none := by kernel_rfl
theorem mixed : Tryd.prog.follows .mixedOrders = true := by kernel_rfl
theorem laidOut : laidOutB Tryd.prog = true := by kernel_rfl
theorem rec3 : Tryd.prog.readableRec 3 = true := by kernel_rfl
theorem row3 : 3 < Tryd.prog.types.size := of_decide_eq_true (by kernel_rfl)
theorem rec50 : Tryd.prog.readableRec 50 = true := by kernel_rfl
theorem row50 : 50 < Tryd.prog.types.size := of_decide_eq_true (by kernel_rfl)
theorem rows : ∀ t ∈ Tryd.f5.params.toList, Tryd.prog.readableRec t = true /\ t < Tryd.prog.types.size := by
 intro t ht
 rw [Tryd.params5] at ht
 simp only [List.mem_cons, List.mem_nil_iff, or_false] at ht
 rcases ht with rfl | rfl
 ·exact ⟨rec3, row3⟩
 ·exact ⟨rec50, row50⟩
set_option maxRecDepth 100000 in
theorem contract (H : Type) (enc : TypeId × Value -> H) (W : World) (base : Nat) (args : Array Value) (ds gs : List (DataW H)) (before : List MemPlace)
  (hval : ∀ (j : Nat) t v, Tryd.f5.params[j]? = some t -> args[j]? = some v -> Value.okWide Tryd.prog W .any base t v)
  (hW : DataW.Whole enc Tryd.prog Tryd.f5.params.toList Rows.algsTellsSpec.vars false W args.toList ds gs before) (hL : laidMetH Tryd.prog Rows.algsTellsRow.laid W) :
  Calls Tryd.prog 5 args W fun e W' => ∃ v, e = .returned v /\ Rows.algsTellsSpec.post enc Tryd.prog Tryd.f5 false true false false W args v W' := by
 have hW' := hW
 have hlt := hW.lt
 obtain ⟨p, q, hA0, hV, rfl, hfz, hnd⟩ := hW
 have hA : DataW.TrodAll enc Tryd.prog W 0 (fun _ => true) true Tryd.f5.params.toList args.toList ds p := hA0
 rw [Tryd.params5] at hA hval
 obtain ⟨v0, vs0, d0, ds0, p0, q0, hargs, rfl, rfl, h0, r0⟩ := trodAll_cons hA
 obtain ⟨v1, vs1, d1, ds1, p1, q1, rfl, rfl, rfl, h1, r1⟩ := trodAll_cons r0
 obtain ⟨rfl, rfl, rfl⟩ := trodAll_nil r1
 obtain rfl : args = #[v0, v1] := by cases args; simp_all
 obtain ⟨rfl, rfl⟩ := trodVars_none hV
 obtain ⟨a0, e0, _, _, w0⟩ := open_int Tryd.underlying3 (hval 0 3 v0 rfl rfl) h0
 have b0 := wf_i64_spec w0
 obtain ⟨a1, c1, b1⟩ := open_sli Tryd.underlying50 Tryd.underlying118 (by kernel_rfl) (hval 1 50 v1 rfl rfl) h1
 have hlm : laidMet Tryd.prog Rows.algsTellsRow.laid W := hL
 have hg := globs_alg (Lib.laidMet.reads hlm (n := "unicode/utf8.first") (d := Rows.laid_unicode_utf8_first) (List.Mem.tail _ (List.Mem.tail _ (List.Mem.tail _ (List.Mem.head _))))) (Lib.laidMet.reads hlm (n := "unicode/utf8.acceptRanges") (d := Rows.laid_unicode_utf8_acceptRanges) (List.Mem.head _)) (Lib.laidMet.reads hlm (n := "apostille/algs.rows") (d := Rows.laid_apostille_algs_rows) (List.Mem.tail _ (List.Mem.tail _ (List.Mem.head _)))) (Lib.laidMet.reads hlm (n := "apostille/slh.kinds") (d := Rows.laid_apostille_slh_kinds) (List.Mem.tail _ (List.Mem.head _)))
 have hp : preALTells [.cl (.int .i64 a0), .cl (.sli .u32 a1)] [] = true := by
  show (stI64 a0 && u32Any a1) = true
  rw [show stI64 a0 = true from decide_eq_true b0, u32Any_of b1]
  rfl
 refine (law_callsG (soundALTells mixed) Tryd.func5 rfl rfl hg (xs := [.cl (.int .i64 a0), .cl (.sli .u32 a1)]) (vs := [v0, v1]) (by
   show cond (preALTells _ _) (SALTells _ _).eval none = _
   rw [hp]
   rfl) ⟨rfl, fun j c v hj hv => by
   match j, hj, hv with
   | 0, hj, hv => cases hj; cases hv; rw [e0]; exact .cl _ _ (.int ..)
   | 1, hj, hv => cases hj; cases hv; exact .cl _ _ c1
   | j + 2, hj, hv => simp at hj⟩).mono fun e W' ⟨he, hs⟩ => ?_
 subst he
 exact ⟨_, rfl, law_post (pa := _) (pv := []) hW' (fun _ _ _ => (trodAll_cons_mk (shut_bool Tryd.underlying4 _) trodAll_mk0)) (fun sp hsp => trodAll_stays laidOut rows hA0 (fun x hx => still_same hs (hlt x (List.mem_append_left _ hx))) fun x hx => hsp x (List.mem_append_left _ hx)) (fun _ _ => rfl) rfl
  hs.1 (ok_one (by kernel_rfl) rfl (okWide_bool_mk Tryd.underlying4 _))⟩
/-- A world for the witness: the settled one, with the tables. -/
noncomputable def laidWorld (os : Os) : World :=
 { World.holding Tryd.prog os ⟨#[], #[], []⟩ with heap := layAlg (World.holding Tryd.prog os ⟨#[], #[], []⟩).heap }
set_option maxRecDepth 100000 in
theorem laid_met (os : Os) : laidMet Tryd.prog Rows.algsTellsRow.laid ((laidWorld os).forCall (fun _ _ => 0) ⟨#[], #[.int .i64 0, .slice none 0 0], []⟩).memory :=
 laidMet_of_run' 8 (by kernel_rfl) (by kernel_rfl)
theorem reads (os : Os) {H : Type} (enc : TypeId × Value -> H) : ∃ places, DataW.whole enc Tryd.prog ((laidWorld os).forCall (fun _ _ => 0) ⟨#[], #[.int .i64 0, .slice none 0 0], []⟩).memory Tryd.f5.params.toList Rows.algsTellsSpec.vars false (#[.int .i64 0, .slice none 0 0] : Array Value).toList 8 = some ([.lit (.int .i64 0), .nil], [], places) :=
 ⟨[], by kernel_rfl⟩
set_option maxRecDepth 100000 in
theorem lifted (os : Os) (started : os.Started) (H : Type) (enc : TypeId × Value -> H) (F : Stop.Interp) :
  ReturnsInHanded {} Tryd.checked os 5 .any ((OpenSpec.ofChange Rows.algsTellsSpec).preRow enc Tryd.prog Tryd.f5 Rows.algsTellsRow.domain false Rows.algsTellsRow.laid) (((OpenSpec.ofChange Rows.algsTellsSpec).at F).post enc Tryd.prog Tryd.f5 false true false false) := by
 obtain ⟨places, hx⟩ := reads os enc
 refine returnsInHanded_of_row (C := Tryd.checked) (s := OpenSpec.ofChange Rows.algsTellsSpec) own started (by kernel_rfl) Tryd.func5
  (witness_row_at (enc := enc) (C := Tryd.checked) false (laidWorld os) #[.int .i64 0, .slice none 0 0] rfl (by kernel_rfl) (by kernel_rfl) (by kernel_rfl)
   (OpenSpec.preRow_of_cond 8 hx (by kernel_rfl) (fun k hk => by cases hk) (by kernel_rfl) (laid_met os))) ?_
 intro W base args ds gs before hval hW _ _ _ hL _ _
 exact contract H enc W base args ds gs before hval hW hL
theorem said : Rows.AlgsTellsSaid :=
 OpenClaim.holds_of_cond 5 Tryd.f5 rfl rfl rfl rfl rfl rfl rfl ⟨rfl, rfl, rfl, rfl, rfl⟩ rfl rfl rfl rfl rfl (by kernel_rfl) Tryd.func5 (by kernel_rfl)
  (of_decide_eq_true (by kernel_rfl)) (by unfold Func.isWrapper; first | (rw [if_pos (by decide +kernel)]; kernel_rfl) | (rw [if_neg (by decide +kernel)]; exact ⟨rfl, rfl⟩))
  (fun os started H enc _ F => by rw [OpenClaim.pre_eq_preRow]; exact lifted os started H enc F)
theorem plain (f : FuncId) (fn : Func) (hf : Tryd.pinned.checked.prog.funcNamed "apostille/apostillelaw30.AlgsTells" = some f) (hfn : Tryd.pinned.checked.prog.funcs[f]? = some fn) :
  false = Tryd.pinned.checked.prog.looks [] /\ ∀ (j : Nat) t, fn.params[j]? = some t -> Tryd.pinned.checked.prog.wantsStandIn t = false := by
 obtain rfl : f = 5 := Option.some.inj ((show Tryd.prog.funcNamed "apostille/apostillelaw30.AlgsTells" = some 5 by kernel_rfl).symm.trans hf) |>.symm
 obtain rfl : fn = Tryd.f5 := (Option.some.inj (Tryd.func5.symm.trans hfn)).symm
 refine ⟨by kernel_rfl, fun j t ht => ?_⟩
 rw [Tryd.params5] at ht
 have hm := Array.mem_of_getElem? ht
 simp only [List.mem_toArray, List.mem_cons, List.mem_nil_iff, or_false] at hm
 rcases hm with rfl | rfl
 ·exact (show Tryd.prog.wantsStandIn 3 = false by kernel_rfl)
 ·exact (show Tryd.prog.wantsStandIn 50 = false by kernel_rfl)
/-- the given statement: the tied card -/
theorem card : Rows.AlgsTellsCardSaid :=
 Claim7.holds_tied_plain_at .later [] _ _ _ _ said (fun _ h => by cases h) (by kernel_rfl) (fun _ h => by cases h) algsTells_row_tie rfl ⟨rfl, rfl⟩ (by kernel_rfl) rfl plain (by kernel_rfl)
end Go.Proofs.YtfkpjbbkdkcdcaaDoor.algsTells

