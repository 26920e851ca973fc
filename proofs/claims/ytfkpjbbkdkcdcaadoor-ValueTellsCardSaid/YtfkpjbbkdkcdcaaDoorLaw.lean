/-
 ValueTells: whatever the input, it returns true, and the input reads as it did: the row and its tied card. Conditions: none but the given statement's own.
-/
import Derived.Test.YtfkpjbbkdkcdcaaDoorCards
import Derived.Test.YtfkpjbbkdkcdcaaDoorTie
import Derived.Test.YtfkpjbbkdkcdcaaDoorT6
import Derived.Deep.DeepHandedRow
set_option linter.unusedVariables false
set_option linter.unusedSimpArgs false
namespace Go.Proofs.YtfkpjbbkdkcdcaaDoor.valueTells
open Go.ChangeShapes Go.WideShapes Go.ChangeAt Go.RowKit Go.Proofs.YtfkpjbbkdkcdcaaDoorA
theorem own : ownKnob Tryd.prog.godebug = none := by kernel_rfl
theorem mixed : Tryd.prog.follows .mixedOrders = true := by kernel_rfl
theorem laidOut : laidOutB Tryd.prog = true := by kernel_rfl
theorem rec27 : Tryd.prog.readableRec 27 = true := by kernel_rfl
theorem row27 : 27 < Tryd.prog.types.size := of_decide_eq_true (by kernel_rfl)
theorem rows : ∀ t ∈ Tryd.f4.params.toList, Tryd.prog.readableRec t = true /\ t < Tryd.prog.types.size := by
 intro t ht
 rw [Tryd.params4] at ht
 simp only [List.mem_cons, List.mem_nil_iff, or_false] at ht
 subst ht
 exact ⟨rec27, row27⟩
set_option maxRecDepth 100000 in
theorem contract (H : Type) (enc : TypeId × Value -> H) (W : World) (base : Nat) (args : Array Value) (ds gs : List (DataW H)) (before : List MemPlace)
  (hval : ∀ (j : Nat) t v, Tryd.f4.params[j]? = some t -> args[j]? = some v -> Value.okWide Tryd.prog W .any base t v)
  (hW : DataW.Whole enc Tryd.prog Tryd.f4.params.toList Rows.valueTellsSpec.vars false W args.toList ds gs before) (hL : laidMetH Tryd.prog Rows.valueTellsRow.laid W) :
  Calls Tryd.prog 4 args W fun e W' => ∃ v, e = .returned v /\ Rows.valueTellsSpec.post enc Tryd.prog Tryd.f4 false true false false W args v W' := by
 have hW' := hW
 have hlt := hW.lt
 obtain ⟨p, q, hA0, hV, rfl, hfz, hnd⟩ := hW
 have hA : DataW.TrodAll enc Tryd.prog W 0 (fun _ => true) true Tryd.f4.params.toList args.toList ds p := hA0
 rw [Tryd.params4] at hA hval
 obtain ⟨v0, vs0, d0, ds0, p0, q0, hargs, rfl, rfl, h0, r0⟩ := trodAll_cons hA
 obtain ⟨rfl, rfl, rfl⟩ := trodAll_nil r0
 obtain rfl : args = #[v0] := by cases args; simp_all
 obtain ⟨rfl, rfl⟩ := trodVars_none hV
 obtain ⟨a0, c0, b0⟩ := open_node (hval 0 27 v0 rfl rfl) h0
 have hlm : laidMet Tryd.prog Rows.valueTellsRow.laid W := hL
 have hg := globs_der (Lib.laidMet.reads hlm (n := "unicode/utf8.first") (d := Rows.laid_unicode_utf8_first) (List.Mem.tail _ (List.Mem.head _))) (Lib.laidMet.reads hlm (n := "unicode/utf8.acceptRanges") (d := Rows.laid_unicode_utf8_acceptRanges) (List.Mem.head _))
 have hp : preVLTells [.cl (.agg a0)] [] = true := by
  show isT a0 = true
  exact b0
 refine (law_callsG (soundVLTells mixed) Tryd.func4 rfl rfl hg (xs := [.cl (.agg a0)]) (vs := [v0]) (by
   show cond (preVLTells _ _) (SVLTells _ _).eval none = _
   rw [hp]
   rfl) ⟨rfl, fun j c v hj hv => by
   match j, hj, hv with
   | 0, hj, hv => cases hj; cases hv; exact .cl _ _ c0
   | j + 1, hj, hv => simp at hj⟩).mono fun e W' ⟨he, hs⟩ => ?_
 subst he
 exact ⟨_, rfl, law_post (pa := _) (pv := []) hW' (fun _ _ _ => (trodAll_cons_mk (shut_bool Tryd.underlying4 _) trodAll_mk0)) (fun sp hsp => trodAll_stays laidOut rows hA0 (fun x hx => still_same hs (hlt x (List.mem_append_left _ hx))) fun x hx => hsp x (List.mem_append_left _ hx)) (fun _ _ => rfl) rfl
  hs.1 (ok_one (by kernel_rfl) rfl (okWide_bool_mk Tryd.underlying4 _))⟩
/-- A world for the witness: the settled one, with the tables. -/
noncomputable def laidWorld (os : Os) : World :=
 { World.holding Tryd.prog os ⟨#[], #[], []⟩ with heap := layDer (World.holding Tryd.prog os ⟨#[], #[], []⟩).heap }
set_option maxRecDepth 100000 in
theorem laid_met (os : Os) : laidMet Tryd.prog Rows.valueTellsRow.laid ((laidWorld os).forCall (fun _ _ => 0) ⟨#[], #[.agg #[.int .i64 0, .slice none 0 0, .slice none 0 0]], []⟩).memory :=
 laidMet_of_run' 8 (by kernel_rfl) (by kernel_rfl)
theorem reads (os : Os) {H : Type} (enc : TypeId × Value -> H) : ∃ places, DataW.whole enc Tryd.prog ((laidWorld os).forCall (fun _ _ => 0) ⟨#[], #[.agg #[.int .i64 0, .slice none 0 0, .slice none 0 0]], []⟩).memory Tryd.f4.params.toList Rows.valueTellsSpec.vars false (#[.agg #[.int .i64 0, .slice none 0 0, .slice none 0 0]] : Array Value).toList 8 = some ([.agg [.lit (.int .i64 0), .nil, .nil]], [], places) :=
 ⟨[], by kernel_rfl⟩
set_option maxRecDepth 100000 in
theorem lifted (os : Os) (started : os.Started) (H : Type) (enc : TypeId × Value -> H) (F : Stop.Interp) :
  ReturnsInHanded {} Tryd.checked os 4 .any ((OpenSpec.ofChange Rows.valueTellsSpec).preRow enc Tryd.prog Tryd.f4 Rows.valueTellsRow.domain false Rows.valueTellsRow.laid) (((OpenSpec.ofChange Rows.valueTellsSpec).at F).post enc Tryd.prog Tryd.f4 false true false false) := by
 obtain ⟨places, hx⟩ := reads os enc
 refine returnsInHanded_of_row (C := Tryd.checked) (s := OpenSpec.ofChange Rows.valueTellsSpec) own started (by kernel_rfl) Tryd.func4
  (witness_row_at (enc := enc) (C := Tryd.checked) false (laidWorld os) #[.agg #[.int .i64 0, .slice none 0 0, .slice none 0 0]] rfl (by kernel_rfl) (by kernel_rfl) (by kernel_rfl)
   (OpenSpec.preRow_of_cond 8 hx (by kernel_rfl) (fun k hk => by cases hk) (by kernel_rfl) (laid_met os))) ?_
 intro W base args ds gs before hval hW _ _ _ hL _ _
 exact contract H enc W base args ds gs before hval hW hL
theorem said : Rows.ValueTellsSaid :=
 OpenClaim.holds_of_cond 4 Tryd.f4 rfl rfl rfl rfl rfl rfl rfl ⟨rfl, rfl, rfl, rfl, rfl⟩ rfl rfl rfl rfl rfl (by kernel_rfl) Tryd.func4 (by kernel_rfl)
  (of_decide_eq_true (by kernel_rfl)) (by unfold Func.isWrapper; first | (rw [if_pos (by decide +kernel)]; kernel_rfl) | (rw [if_neg (by decide +kernel)]; exact ⟨rfl, rfl⟩))
  (fun os started H enc _ F => by rw [OpenClaim.pre_eq_preRow]; exact lifted os started H enc F)
theorem plain (f : FuncId) (fn : Func) (hf : Tryd.pinned.checked.prog.funcNamed "apostille/apostillelaw06.ValueTells" = some f) (hfn : Tryd.pinned.checked.prog.funcs[f]? = some fn) :
  false = Tryd.pinned.checked.prog.looks [] /\ ∀ (j : Nat) t, fn.params[j]? = some t -> Tryd.pinned.checked.prog.wantsStandIn t = false := by
 obtain rfl : f = 4 := Option.some.inj ((show Tryd.prog.funcNamed "apostille/apostillelaw06.ValueTells" = some 4 by kernel_rfl).symm.trans hf) |>.symm
 obtain rfl : fn = Tryd.f4 := (Option.some.inj (Tryd.func4.symm.trans hfn)).symm
 refine ⟨by kernel_rfl, fun j t ht => ?_⟩
 rw [Tryd.params4] at ht
 have hm := Array.mem_of_getElem? ht
 simp only [List.mem_toArray, List.mem_cons, List.mem_nil_iff, or_false] at hm
 subst hm
 exact (show Tryd.prog.wantsStandIn 27 = false by kernel_rfl)
/-- the given statement: the tied card -/
theorem card : Rows.ValueTellsCardSaid :=
 Claim7.holds_tied_plain_at .later [] _ _ _ _ said (fun _ h => by cases h) (by kernel_rfl) (fun _ h => by cases h) valueTells_row_tie rfl ⟨rfl, rfl⟩ (by kernel_rfl) rfl plain (by kernel_rfl)
end Go.Proofs.YtfkpjbbkdkcdcaaDoor.valueTells

