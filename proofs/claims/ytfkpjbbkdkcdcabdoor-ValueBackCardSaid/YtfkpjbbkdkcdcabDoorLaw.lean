/-
 ValueBack: whatever the input, it returns true, and the input reads as it did: the row and its tied card. Conditions: none but the given statement's own.
-/
import Derived.Test.YtfkpjbbkdkcdcabDoorCards
import Derived.Test.YtfkpjbbkdkcdcabDoorTie
import Derived.Test.YtfkpjbbkdkcdcabDoorT6
import Derived.Deep.DeepHandedRow
set_option linter.unusedVariables false
set_option linter.unusedSimpArgs false
namespace Go.Proofs.YtfkpjbbkdkcdcabDoor.valueBack
open Go.ChangeShapes Go.WideShapes Go.ChangeAt Go.RowKit Go.Proofs.YtfkpjbbkdkcdcabDoorA
theorem own : ownKnob Tryd.prog.godebug = none := by kernel_rfl
theorem mixed : Tryd.prog.follows .mixedOrders = true := by kernel_rfl
theorem laidOut : laidOutB Tryd.prog = true := by kernel_rfl
theorem rec2 : Tryd.prog.readableRec 2 = true := by kernel_rfl
theorem row2 : 2 < Tryd.prog.types.size := of_decide_eq_true (by kernel_rfl)
theorem rec22 : Tryd.prog.readableRec 22 = true := by kernel_rfl
theorem row22 : 22 < Tryd.prog.types.size := of_decide_eq_true (by kernel_rfl)
theorem rec24 : Tryd.prog.readableRec 24 = true := by kernel_rfl
theorem row24 : 24 < Tryd.prog.types.size := of_decide_eq_true (by kernel_rfl)
theorem rec25 : Tryd.prog.readableRec 25 = true := by kernel_rfl
theorem row25 : 25 < Tryd.prog.types.size := of_decide_eq_true (by kernel_rfl)
theorem rows : ∀ t ∈ Tryd.f3.params.toList, Tryd.prog.readableRec t = true /\ t < Tryd.prog.types.size := by
 intro t ht
 rw [Tryd.params3] at ht
 simp only [List.mem_cons, List.mem_nil_iff, or_false] at ht
 rcases ht with rfl | rfl | rfl | rfl | rfl
 ·exact ⟨rec2, row2⟩
 ·exact ⟨rec22, row22⟩
 ·exact ⟨rec24, row24⟩
 ·exact ⟨rec2, row2⟩
 ·exact ⟨rec25, row25⟩
set_option maxRecDepth 100000 in
theorem contract (H : Type) (enc : TypeId × Value -> H) (W : World) (base : Nat) (args : Array Value) (ds gs : List (DataW H)) (before : List MemPlace)
  (hval : ∀ (j : Nat) t v, Tryd.f3.params[j]? = some t -> args[j]? = some v -> Value.okWide Tryd.prog W .any base t v)
  (hW : DataW.Whole enc Tryd.prog Tryd.f3.params.toList Rows.valueBackSpec.vars false W args.toList ds gs before) (hL : laidMetH Tryd.prog Rows.valueBackRow.laid W) :
  Calls Tryd.prog 3 args W fun e W' => ∃ v, e = .returned v /\ Rows.valueBackSpec.post enc Tryd.prog Tryd.f3 false true false false W args v W' := by
 have hW' := hW
 have hlt := hW.lt
 obtain ⟨p, q, hA0, hV, rfl, hfz, hnd⟩ := hW
 have hA : DataW.TrodAll enc Tryd.prog W 0 (fun _ => true) true Tryd.f3.params.toList args.toList ds p := hA0
 rw [Tryd.params3] at hA hval
 obtain ⟨v0, vs0, d0, ds0, p0, q0, hargs, rfl, rfl, h0, r0⟩ := trodAll_cons hA
 obtain ⟨v1, vs1, d1, ds1, p1, q1, rfl, rfl, rfl, h1, r1⟩ := trodAll_cons r0
 obtain ⟨v2, vs2, d2, ds2, p2, q2, rfl, rfl, rfl, h2, r2⟩ := trodAll_cons r1
 obtain ⟨v3, vs3, d3, ds3, p3, q3, rfl, rfl, rfl, h3, r3⟩ := trodAll_cons r2
 obtain ⟨v4, vs4, d4, ds4, p4, q4, rfl, rfl, rfl, h4, r4⟩ := trodAll_cons r3
 obtain ⟨rfl, rfl, rfl⟩ := trodAll_nil r4
 obtain rfl : args = #[v0, v1, v2, v3, v4] := by cases args; simp_all
 obtain ⟨rfl, rfl⟩ := trodVars_none hV
 obtain ⟨a0, e0, _, _, w0⟩ := open_int Tryd.underlying2 (hval 0 2 v0 rfl rfl) h0
 have b0 := wf_i64_spec w0
 obtain ⟨a1, c1, b1⟩ := open_sli Tryd.underlying22 Tryd.underlying5 (by kernel_rfl) (hval 1 22 v1 rfl rfl) h1
 obtain ⟨a2, c2, b2⟩ := open_sli Tryd.underlying24 Tryd.underlying69 (by kernel_rfl) (hval 2 24 v2 rfl rfl) h2
 obtain ⟨a3, e3, _, _, w3⟩ := open_int Tryd.underlying2 (hval 3 2 v3 rfl rfl) h3
 have b3 := wf_i64_spec w3
 obtain ⟨a4, c4, b4⟩ := open_nodes (hval 4 25 v4 rfl rfl) h4
 have hlm : laidMet Tryd.prog Rows.valueBackRow.laid W := hL
 have hg := globs_der (Lib.laidMet.reads hlm (n := "unicode/utf8.first") (d := Rows.laid_unicode_utf8_first) (List.Mem.tail _ (List.Mem.head _))) (Lib.laidMet.reads hlm (n := "unicode/utf8.acceptRanges") (d := Rows.laid_unicode_utf8_acceptRanges) (List.Mem.head _))
 have hp : preVLBack [.cl (.int .i64 a0), .cl (.sli .u8 a1), .cl (.sli .u32 a2), .cl (.int .i64 a3), .cl (.slg 3 a4)] [] = true := by
  show (stI64 a0 && (bytesAll a1 && (u32Any a2 && (stI64 a3 && isTs a4)))) = true
  rw [show stI64 a0 = true from decide_eq_true b0, bytesAny_of b1, u32Any_of b2, show stI64 a3 = true from decide_eq_true b3, b4]
  rfl
 refine (law_callsG (soundVLBack mixed) Tryd.func3 rfl rfl hg (xs := [.cl (.int .i64 a0), .cl (.sli .u8 a1), .cl (.sli .u32 a2), .cl (.int .i64 a3), .cl (.slg 3 a4)]) (vs := [v0, v1, v2, v3, v4]) (by
   show cond (preVLBack _ _) (SVLBack _ _).eval none = _
   rw [hp]
   rfl) ⟨rfl, fun j c v hj hv => by
   match j, hj, hv with
   | 0, hj, hv => cases hj; cases hv; rw [e0]; exact .cl _ _ (.int ..)
   | 1, hj, hv => cases hj; cases hv; exact .cl _ _ c1
   | 2, hj, hv => cases hj; cases hv; exact .cl _ _ c2
   | 3, hj, hv => cases hj; cases hv; rw [e3]; exact .cl _ _ (.int ..)
   | 4, hj, hv => cases hj; cases hv; exact .cl _ _ c4
   | j + 5, hj, hv => simp at hj⟩).mono fun e W' ⟨he, hs⟩ => ?_
 subst he
 exact ⟨_, rfl, law_post (pa := _) (pv := []) hW' (fun _ _ _ => (trodAll_cons_mk (shut_bool Tryd.underlying4 _) trodAll_mk0)) (fun sp hsp => trodAll_stays laidOut rows hA0 (fun x hx => still_same hs (hlt x (List.mem_append_left _ hx))) fun x hx => hsp x (List.mem_append_left _ hx)) (fun _ _ => rfl) rfl
  hs.1 (ok_one (by kernel_rfl) rfl (okWide_bool_mk Tryd.underlying4 _))⟩
/-- A world for the witness: the settled one, with the tables. -/
noncomputable def laidWorld (os : Os) : World :=
 { World.holding Tryd.prog os ⟨#[], #[], []⟩ with heap := layDer (World.holding Tryd.prog os ⟨#[], #[], []⟩).heap }
set_option maxRecDepth 100000 in
theorem laid_met (os : Os) : laidMet Tryd.prog Rows.valueBackRow.laid ((laidWorld os).forCall (fun _ _ => 0) ⟨#[], #[.int .i64 0, .slice none 0 0, .slice none 0 0, .int .i64 0, .slice none 0 0], []⟩).memory :=
 laidMet_of_run' 8 (by kernel_rfl) (by kernel_rfl)
theorem reads (os : Os) {H : Type} (enc : TypeId × Value -> H) : ∃ places, DataW.whole enc Tryd.prog ((laidWorld os).forCall (fun _ _ => 0) ⟨#[], #[.int .i64 0, .slice none 0 0, .slice none 0 0, .int .i64 0, .slice none 0 0], []⟩).memory Tryd.f3.params.toList Rows.valueBackSpec.vars false (#[.int .i64 0, .slice none 0 0, .slice none 0 0, .int .i64 0, .slice none 0 0] : Array Value).toList 8 = some ([.lit (.int .i64 0), .nil, .nil, .lit (.int .i64 0), .nil], [], places) :=
 ⟨[], by kernel_rfl⟩
set_option maxRecDepth 100000 in
theorem lifted (os : Os) (started : os.Started) (H : Type) (enc : TypeId × Value -> H) (F : Stop.Interp) :
  ReturnsInHanded {} Tryd.checked os 3 .any ((OpenSpec.ofChange Rows.valueBackSpec).preRow enc Tryd.prog Tryd.f3 Rows.valueBackRow.domain false Rows.valueBackRow.laid) (((OpenSpec.ofChange Rows.valueBackSpec).at F).post enc Tryd.prog Tryd.f3 false true false false) := by
 obtain ⟨places, hx⟩ := reads os enc
 refine returnsInHanded_of_row (C := Tryd.checked) (s := OpenSpec.ofChange Rows.valueBackSpec) own started (by kernel_rfl) Tryd.func3
  (witness_row_at (enc := enc) (C := Tryd.checked) false (laidWorld os) #[.int .i64 0, .slice none 0 0, .slice none 0 0, .int .i64 0, .slice none 0 0] rfl (by kernel_rfl) (by kernel_rfl) (by kernel_rfl)
   (OpenSpec.preRow_of_cond 8 hx (by kernel_rfl) (fun k hk => by cases hk) (by kernel_rfl) (laid_met os))) ?_
 intro W base args ds gs before hval hW _ _ _ hL _ _
 exact contract H enc W base args ds gs before hval hW hL
theorem said : Rows.ValueBackSaid :=
 OpenClaim.holds_of_cond 3 Tryd.f3 rfl rfl rfl rfl rfl rfl rfl ⟨rfl, rfl, rfl, rfl, rfl⟩ rfl rfl rfl rfl rfl (by kernel_rfl) Tryd.func3 (by kernel_rfl)
  (of_decide_eq_true (by kernel_rfl)) (by unfold Func.isWrapper; first | (rw [if_pos (by decide +kernel)]; kernel_rfl) | (rw [if_neg (by decide +kernel)]; exact ⟨rfl, rfl⟩))
  (fun os started H enc _ F => by rw [OpenClaim.pre_eq_preRow]; exact lifted os started H enc F)
theorem plain (f : FuncId) (fn : Func) (hf : Tryd.pinned.checked.prog.funcNamed "apostille/apostillelaw06.ValueBack" = some f) (hfn : Tryd.pinned.checked.prog.funcs[f]? = some fn) :
  false = Tryd.pinned.checked.prog.looks [] /\ ∀ (j : Nat) t, fn.params[j]? = some t -> Tryd.pinned.checked.prog.wantsStandIn t = false := by
 obtain rfl : f = 3 := Option.some.inj ((show Tryd.prog.funcNamed "apostille/apostillelaw06.ValueBack" = some 3 by kernel_rfl).symm.trans hf) |>.symm
 obtain rfl : fn = Tryd.f3 := (Option.some.inj (Tryd.func3.symm.trans hfn)).symm
 refine ⟨by kernel_rfl, fun j t ht => ?_⟩
 rw [Tryd.params3] at ht
 have hm := Array.mem_of_getElem? ht
 simp only [List.mem_toArray, List.mem_cons, List.mem_nil_iff, or_false] at hm
 rcases hm with rfl | rfl | rfl | rfl | rfl
 ·exact (show Tryd.prog.wantsStandIn 2 = false by kernel_rfl)
 ·exact (show Tryd.prog.wantsStandIn 22 = false by kernel_rfl)
 ·exact (show Tryd.prog.wantsStandIn 24 = false by kernel_rfl)
 ·exact (show Tryd.prog.wantsStandIn 2 = false by kernel_rfl)
 ·exact (show Tryd.prog.wantsStandIn 25 = false by kernel_rfl)
/-- the given statement: the tied card -/
theorem card : Rows.ValueBackCardSaid :=
 Claim7.holds_tied_plain_at .later [] _ _ _ _ said (fun _ h => by cases h) (by kernel_rfl) (fun _ h => by cases h) valueBack_row_tie rfl ⟨rfl, rfl⟩ (by kernel_rfl) rfl plain (by kernel_rfl)
end Go.Proofs.YtfkpjbbkdkcdcabDoor.valueBack

