/-
 AlgsBack: whatever the input, it returns true, and the input reads as it did: the row and its tied card. Conditions: none but the given statement's own.
-/
import Derived.Test.YtfkpjbbkdkcdcaaDoorCards
import Derived.Test.YtfkpjbbkdkcdcaaDoorTie
import Derived.Test.YtfkpjbbkdkcdcaaDoorT6
import Derived.Deep.DeepHandedRow
set_option linter.unusedVariables false
set_option linter.unusedSimpArgs false
namespace Go.Proofs.YtfkpjbbkdkcdcaaDoor.algsBack
open Go.ChangeShapes Go.WideShapes Go.ChangeAt Go.RowKit Go.Proofs.YtfkpjbbkdkcdcaaDoorA
theorem own : ownKnob Tryd.prog.godebug = none := by kernel_rfl
theorem mixed : Tryd.prog.follows .mixedOrders = true := by kernel_rfl
theorem laidOut : laidOutB Tryd.prog = true := by kernel_rfl
theorem rec3 : Tryd.prog.readableRec 3 = true := by kernel_rfl
theorem row3 : 3 < Tryd.prog.types.size := of_decide_eq_true (by kernel_rfl)
theorem rec25 : Tryd.prog.readableRec 25 = true := by kernel_rfl
theorem row25 : 25 < Tryd.prog.types.size := of_decide_eq_true (by kernel_rfl)
theorem rec27 : Tryd.prog.readableRec 27 = true := by kernel_rfl
theorem row27 : 27 < Tryd.prog.types.size := of_decide_eq_true (by kernel_rfl)
theorem rows : ∀ t ∈ Tryd.f7.params.toList, Tryd.prog.readableRec t = true /\ t < Tryd.prog.types.size := by
 intro t ht
 rw [Tryd.params7] at ht
 simp only [List.mem_cons, List.mem_nil_iff, or_false] at ht
 rcases ht with rfl | rfl | rfl | rfl
 ·exact ⟨rec3, row3⟩
 ·exact ⟨rec3, row3⟩
 ·exact ⟨rec25, row25⟩
 ·exact ⟨rec27, row27⟩
set_option maxRecDepth 100000 in
theorem contract (H : Type) (enc : TypeId × Value -> H) (W : World) (base : Nat) (args : Array Value) (ds gs : List (DataW H)) (before : List MemPlace)
  (hval : ∀ (j : Nat) t v, Tryd.f7.params[j]? = some t -> args[j]? = some v -> Value.okWide Tryd.prog W .any base t v)
  (hW : DataW.Whole enc Tryd.prog Tryd.f7.params.toList Rows.algsBackSpec.vars false W args.toList ds gs before) (hL : laidMetH Tryd.prog Rows.algsBackRow.laid W) :
  Calls Tryd.prog 7 args W fun e W' => ∃ v, e = .returned v /\ Rows.algsBackSpec.post enc Tryd.prog Tryd.f7 false true false false W args v W' := by
 have hW' := hW
 have hlt := hW.lt
 obtain ⟨p, q, hA0, hV, rfl, hfz, hnd⟩ := hW
 have hA : DataW.TrodAll enc Tryd.prog W 0 (fun _ => true) true Tryd.f7.params.toList args.toList ds p := hA0
 rw [Tryd.params7] at hA hval
 obtain ⟨v0, vs0, d0, ds0, p0, q0, hargs, rfl, rfl, h0, r0⟩ := trodAll_cons hA
 obtain ⟨v1, vs1, d1, ds1, p1, q1, rfl, rfl, rfl, h1, r1⟩ := trodAll_cons r0
 obtain ⟨v2, vs2, d2, ds2, p2, q2, rfl, rfl, rfl, h2, r2⟩ := trodAll_cons r1
 obtain ⟨v3, vs3, d3, ds3, p3, q3, rfl, rfl, rfl, h3, r3⟩ := trodAll_cons r2
 obtain ⟨rfl, rfl, rfl⟩ := trodAll_nil r3
 obtain rfl : args = #[v0, v1, v2, v3] := by cases args; simp_all
 obtain ⟨rfl, rfl⟩ := trodVars_none hV
 obtain ⟨a0, e0, _, _, w0⟩ := open_int Tryd.underlying3 (hval 0 3 v0 rfl rfl) h0
 have b0 := wf_i64_spec w0
 obtain ⟨a1, e1, _, _, w1⟩ := open_int Tryd.underlying3 (hval 1 3 v1 rfl rfl) h1
 have b1 := wf_i64_spec w1
 obtain ⟨a2, c2, b2⟩ := open_sli Tryd.underlying25 Tryd.underlying5 (by kernel_rfl) (hval 2 25 v2 rfl rfl) h2
 obtain ⟨a3, c3, d3⟩ := open_node (hval 3 27 v3 rfl rfl) h3
 obtain ⟨t3, b3, k3, rfl⟩ := isT_inv d3
 have hlm : laidMet Tryd.prog Rows.algsBackRow.laid W := hL
 have hg := globs_alg3 (Lib.laidMet.reads hlm (n := "unicode/utf8.first") (d := Rows.laid_unicode_utf8_first) (List.Mem.tail _ (List.Mem.tail _ (List.Mem.head _)))) (Lib.laidMet.reads hlm (n := "unicode/utf8.acceptRanges") (d := Rows.laid_unicode_utf8_acceptRanges) (List.Mem.head _)) (Lib.laidMet.reads hlm (n := "apostille/algs.rows") (d := Rows.laid_apostille_algs_rows) (List.Mem.tail _ (List.Mem.head _)))
 have hp : preALBack [.cl (.int .i64 a0), .cl (.int .i64 a1), .cl (.sli .u8 a2), .cl (.agg [.int .i64 t3, .sli .u8 b3, .slg 3 k3])] [] = true := by
  show (stI64 a0 && (stI64 a1 && (bytesAll a2 && isT [.int .i64 t3, .sli .u8 b3, .slg 3 k3]))) = true
  rw [show stI64 a0 = true from decide_eq_true b0, show stI64 a1 = true from decide_eq_true b1, bytesAny_of b2, d3]
  rfl
 refine (law_callsG (soundALBack mixed) Tryd.func7 rfl rfl hg (xs := [.cl (.int .i64 a0), .cl (.int .i64 a1), .cl (.sli .u8 a2), .cl (.agg [.int .i64 t3, .sli .u8 b3, .slg 3 k3])]) (vs := [v0, v1, v2, v3]) (by
   show cond (preALBack _ _) (SALBack _ _).eval none = _
   rw [hp]
   rfl) ⟨rfl, fun j c v hj hv => by
   match j, hj, hv with
   | 0, hj, hv => cases hj; cases hv; rw [e0]; exact .cl _ _ (.int ..)
   | 1, hj, hv => cases hj; cases hv; rw [e1]; exact .cl _ _ (.int ..)
   | 2, hj, hv => cases hj; cases hv; exact .cl _ _ c2
   | 3, hj, hv => cases hj; cases hv; exact .cl _ _ c3
   | j + 4, hj, hv => simp at hj⟩).mono fun e W' ⟨he, hs⟩ => ?_
 subst he
 exact ⟨_, rfl, law_post (pa := _) (pv := []) hW' (fun _ _ _ => (trodAll_cons_mk (shut_bool Tryd.underlying4 _) trodAll_mk0)) (fun sp hsp => trodAll_stays laidOut rows hA0 (fun x hx => still_same hs (hlt x (List.mem_append_left _ hx))) fun x hx => hsp x (List.mem_append_left _ hx)) (fun _ _ => rfl) rfl
  hs.1 (ok_one (by kernel_rfl) rfl (okWide_bool_mk Tryd.underlying4 _))⟩
/-- A world for the witness: the settled one, with the tables. -/
noncomputable def laidWorld (os : Os) : World :=
 { World.holding Tryd.prog os ⟨#[], #[], []⟩ with heap := layAlg3 (World.holding Tryd.prog os ⟨#[], #[], []⟩).heap }
set_option maxRecDepth 100000 in
theorem laid_met (os : Os) : laidMet Tryd.prog Rows.algsBackRow.laid ((laidWorld os).forCall (fun _ _ => 0) ⟨#[], #[.int .i64 0, .int .i64 0, .slice none 0 0, .agg #[.int .i64 0, .slice none 0 0, .slice none 0 0]], []⟩).memory :=
 laidMet_of_run' 8 (by kernel_rfl) (by kernel_rfl)
theorem reads (os : Os) {H : Type} (enc : TypeId × Value -> H) : ∃ places, DataW.whole enc Tryd.prog ((laidWorld os).forCall (fun _ _ => 0) ⟨#[], #[.int .i64 0, .int .i64 0, .slice none 0 0, .agg #[.int .i64 0, .slice none 0 0, .slice none 0 0]], []⟩).memory Tryd.f7.params.toList Rows.algsBackSpec.vars false (#[.int .i64 0, .int .i64 0, .slice none 0 0, .agg #[.int .i64 0, .slice none 0 0, .slice none 0 0]] : Array Value).toList 8 = some ([.lit (.int .i64 0), .lit (.int .i64 0), .nil, .agg [.lit (.int .i64 0), .nil, .nil]], [], places) :=
 ⟨[], by kernel_rfl⟩
set_option maxRecDepth 100000 in
theorem lifted (os : Os) (started : os.Started) (H : Type) (enc : TypeId × Value -> H) (F : Stop.Interp) :
  ReturnsInHanded {} Tryd.checked os 7 .any ((OpenSpec.ofChange Rows.algsBackSpec).preRow enc Tryd.prog Tryd.f7 Rows.algsBackRow.domain false Rows.algsBackRow.laid) (((OpenSpec.ofChange Rows.algsBackSpec).at F).post enc Tryd.prog Tryd.f7 false true false false) := by
 obtain ⟨places, hx⟩ := reads os enc
 refine returnsInHanded_of_row (C := Tryd.checked) (s := OpenSpec.ofChange Rows.algsBackSpec) own started (by kernel_rfl) Tryd.func7
  (witness_row_at (enc := enc) (C := Tryd.checked) false (laidWorld os) #[.int .i64 0, .int .i64 0, .slice none 0 0, .agg #[.int .i64 0, .slice none 0 0, .slice none 0 0]] rfl (by kernel_rfl) (by kernel_rfl) (by kernel_rfl)
   (OpenSpec.preRow_of_cond 8 hx (by kernel_rfl) (fun k hk => by cases hk) (by kernel_rfl) (laid_met os))) ?_
 intro W base args ds gs before hval hW _ _ _ hL _ _
 exact contract H enc W base args ds gs before hval hW hL
theorem said : Rows.AlgsBackSaid :=
 OpenClaim.holds_of_cond 7 Tryd.f7 rfl rfl rfl rfl rfl rfl rfl ⟨rfl, rfl, rfl, rfl, rfl⟩ rfl rfl rfl rfl rfl (by kernel_rfl) Tryd.func7 (by kernel_rfl)
  (of_decide_eq_true (by kernel_rfl)) (by unfold Func.isWrapper; first | (rw [if_pos (by decide +kernel)]; kernel_rfl) | (rw [if_neg (by decide +kernel)]; exact ⟨rfl, rfl⟩))
  (fun os started H enc _ F => by rw [OpenClaim.pre_eq_preRow]; exact lifted os started H enc F)
theorem plain (f : FuncId) (fn : Func) (hf : Tryd.pinned.checked.prog.funcNamed "apostille/apostillelaw30.AlgsBack" = some f) (hfn : Tryd.pinned.checked.prog.funcs[f]? = some fn) :
  false = Tryd.pinned.checked.prog.looks [] /\ ∀ (j : Nat) t, fn.params[j]? = some t -> Tryd.pinned.checked.prog.wantsStandIn t = false := by
 obtain rfl : f = 7 := Option.some.inj ((show Tryd.prog.funcNamed "apostille/apostillelaw30.AlgsBack" = some 7 by kernel_rfl).symm.trans hf) |>.symm
 obtain rfl : fn = Tryd.f7 := (Option.some.inj (Tryd.func7.symm.trans hfn)).symm
 refine ⟨by kernel_rfl, fun j t ht => ?_⟩
 rw [Tryd.params7] at ht
 have hm := Array.mem_of_getElem? ht
 simp only [List.mem_toArray, List.mem_cons, List.mem_nil_iff, or_false] at hm
 rcases hm with rfl | rfl | rfl | rfl
 ·exact (show Tryd.prog.wantsStandIn 3 = false by kernel_rfl)
 ·exact (show Tryd.prog.wantsStandIn 3 = false by kernel_rfl)
 ·exact (show Tryd.prog.wantsStandIn 25 = false by kernel_rfl)
 ·exact (show Tryd.prog.wantsStandIn 27 = false by kernel_rfl)
/-- the given statement: the tied card -/
theorem card : Rows.AlgsBackCardSaid :=
 Claim7.holds_tied_plain_at .later [] _ _ _ _ said (fun _ h => by cases h) (by kernel_rfl) (fun _ h => by cases h) algsBack_row_tie rfl ⟨rfl, rfl⟩ (by kernel_rfl) rfl plain (by kernel_rfl)
end Go.Proofs.YtfkpjbbkdkcdcaaDoor.algsBack

