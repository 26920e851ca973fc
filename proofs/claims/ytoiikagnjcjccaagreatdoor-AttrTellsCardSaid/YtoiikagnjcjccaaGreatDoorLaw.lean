/-
 AttrTells: whatever the input, it returns true, and the input reads as it did: the row and its tied card. Conditions: none but the given statement's own.
-/
import Derived.Test.YtoiikagnjcjccaaGreatDoorCards
import Derived.Test.YtoiikagnjcjccaaGreatDoorTie
import Derived.Test.YtoiikagnjcjccaaGreatDoorT6
import Derived.Deep.DeepHandedRow
set_option linter.unusedVariables false
set_option linter.unusedSimpArgs false
namespace Go.Proofs.YtoiikagnjcjccaaGreatDoor.attrTells
open Go.ChangeShapes Go.WideShapes Go.ChangeAt Go.RowKit Go.Proofs.YtoiikagnjcjccaaGreatDoorA
theorem own:ownKnob Tryz.prog.godebug=none:=by kernel_rfl
theorem mixed:Tryz.prog.follows .mixedOrders=true:=by kernel_rfl
theorem laidOut:laidOutB Tryz.prog=true:=by kernel_rfl
theorem rec22:Tryz.prog.readableRec 22=true:=by kernel_rfl
theorem row22:22<Tryz.prog.types.size:=of_decide_eq_true (by kernel_rfl)
theorem rows: ∀t∈Tryz.f3.params.toList,Tryz.prog.readableRec t=true/\t<Tryz.prog.types.size:=by
 intro t ht
 rw[Tryz.params3] at ht
 simp only[List.mem_cons,List.mem_nil_iff,or_false] at ht
 rcases ht with rfl|rfl
 ·exact⟨rec22,row22⟩
 ·exact⟨rec22,row22⟩
set_option maxRecDepth 100000 in
theorem contract (H:Type) (enc:TypeId×Value->H) (W:World) (base:Nat) (args:Array Value) (ds gs:List (DataW H)) (before:List MemPlace)
  (hval: ∀(j:Nat) t v,Tryz.f3.params[j]? =some t->args[j]? =some v->Value.okWide Tryz.prog W .any base t v)
  (hW:DataW.Whole enc Tryz.prog Tryz.f3.params.toList Rows.attrTellsSpec.vars false W args.toList ds gs before) (hL:laidMetH Tryz.prog Rows.attrTellsRow.laid W)
  (hwt:(DataW.weightsEach Tryz.prog (Tryz.f3.params.toList++(OpenSpec.ofChange Rows.attrTellsSpec).bare.plain.varTypes Tryz.prog) (ds++gs)).all (· <=reachBytes)=true) (hsh:W.ShapedOpen Tryz.prog):
  Calls Tryz.prog 3 args W fun e W'=> ∃v,e=.returned v/\Rows.attrTellsSpec.post enc Tryz.prog Tryz.f3 false true false false W args v W':=by
 have hW':=hW
 have hlt:=hW.lt
 obtain⟨p,q,hA0,hV,rfl,hfz,hnd⟩:=hW
 have hA:DataW.TrodAll enc Tryz.prog W 0 (fun _=>true) true Tryz.f3.params.toList args.toList ds p:=hA0
 rw[Tryz.params3] at hA hval hwt
 obtain⟨v0,vs0,d0,ds0,p0,q0,hargs,rfl,rfl,h0,r0⟩:=trodAll_cons hA
 obtain⟨v1,vs1,d1,ds1,p1,q1,rfl,rfl,rfl,h1,r1⟩:=trodAll_cons r0
 obtain⟨rfl,rfl,rfl⟩:=trodAll_nil r1
 obtain rfl:args= #[v0,v1]:=by cases args;simp_all
 obtain⟨rfl,rfl⟩:=trodVars_none hV
 obtain⟨a0,c0,b0⟩:=qwv (j:=0) hwt rfl rfl (hval 0 22 v0 rfl rfl) h0
 obtain⟨a1,c1,b1⟩:=qwv (j:=1) hwt rfl rfl (hval 1 22 v1 rfl rfl) h1
 have hlm:laidMet Tryz.prog Rows.attrTellsRow.laid W:=hL
 have hg:=xbdj (Lib.laidMet.reads hlm (n:= "unicode/utf8.first") (d:=Rows.laid_unicode_utf8_first) (List.Mem.tail _ (List.Mem.head _))) (Lib.laidMet.reads hlm (n:= "unicode/utf8.acceptRanges") (d:=Rows.laid_unicode_utf8_acceptRanges) (List.Mem.head _))
 have hp:qqd [.cl (.slg 2 a0),.cl (.slg 2 a1)] []=true:=by
  show(qv2 a0&&qv2 a1)=true
  rw[b0,b1]
  rfl
 refine(q83 (q0m mixed) Tryz.func3 rfl rfl hg (xs:=[.cl (.slg 2 a0),.cl (.slg 2 a1)]) (vs:=[v0,v1]) (by
   show cond (qqd _ _) (SWATells _ _).eval none=_
   rw[hp]
   rfl) ⟨rfl,fun j c v hj hv=>by
   match j,hj,hv with
   | 0,hj,hv=>cases hj;cases hv;exact .cl _ _ c0
   | 1,hj,hv=>cases hj;cases hv;exact .cl _ _ c1
   | j+2,hj,hv=>simp at hj⟩).mono fun e W' ⟨he,hs⟩=> ?_
 subst he
 exact⟨_,rfl,xbj5 (pa:=_) (pv:=[]) hW' (fun _ _ _=>(trodAll_cons_mk (shut_bool Tryz.underlying4 _) trodAll_mk0)) (fun sp hsp=>qn2 laidOut rows hA0 (fun x hx=>xbbh hs (hlt x (List.mem_append_left _ hx))) fun x hx=>hsp x (List.mem_append_left _ hx)) (fun _ _=>rfl) rfl
  hs.1 (ok_one (by kernel_rfl) rfl (okWide_bool_mk Tryz.underlying4 _))⟩
noncomputable def laidWorld (os:Os):World:=
 {World.holding Tryz.prog os ⟨#[], #[],[]⟩ with heap:=xbs6 (World.holding Tryz.prog os ⟨#[], #[],[]⟩).heap}
set_option maxRecDepth 100000 in
theorem laid_met (os:Os):laidMet Tryz.prog Rows.attrTellsRow.laid ((laidWorld os).forCall (fun _ _=>0) ⟨#[], #[.slice none 0 0,.slice none 0 0],[]⟩).memory:=
 laidMet_of_run' 8 (by kernel_rfl) (by kernel_rfl)
theorem reads (os:Os) {H:Type} (enc:TypeId×Value->H): ∃places,DataW.whole enc Tryz.prog ((laidWorld os).forCall (fun _ _=>0) ⟨#[], #[.slice none 0 0,.slice none 0 0],[]⟩).memory Tryz.f3.params.toList Rows.attrTellsSpec.vars false (#[.slice none 0 0,.slice none 0 0]:Array Value).toList 8=some ([.nil,.nil],[],places):=
 ⟨[],by kernel_rfl⟩
set_option maxRecDepth 100000 in
theorem lifted (os:Os) (started:os.Started) (H:Type) (enc:TypeId×Value->H) (F:Stop.Interp):
  ReturnsInHanded {} Tryz.checked os 3 .any ((OpenSpec.ofChange Rows.attrTellsSpec).preRow enc Tryz.prog Tryz.f3 Rows.attrTellsRow.domain false Rows.attrTellsRow.laid) (((OpenSpec.ofChange Rows.attrTellsSpec).at F).post enc Tryz.prog Tryz.f3 false true false false):=by
 obtain⟨places,hx⟩:=reads os enc
 refine returnsInHanded_of_row (C:=Tryz.checked) (s:=OpenSpec.ofChange Rows.attrTellsSpec) own started (by kernel_rfl) Tryz.func3
  (witness_row_at (enc:=enc) (C:=Tryz.checked) false (laidWorld os) #[.slice none 0 0,.slice none 0 0] rfl (by kernel_rfl) (by kernel_rfl) (by kernel_rfl)
   (OpenSpec.preRow_of_cond 8 hx (by kernel_rfl) (fun k hk=>by cases hk) (by kernel_rfl) (laid_met os))) ?_
 intro W base args ds gs before hval hW _ _ hwt hL hsh _
 exact contract H enc W base args ds gs before hval hW hL hwt hsh
theorem said:Rows.AttrTellsSaid:=
 OpenClaim.holds_of_cond 3 Tryz.f3 rfl rfl rfl rfl rfl rfl rfl ⟨rfl,rfl,rfl,rfl,rfl⟩ rfl rfl rfl rfl rfl (by kernel_rfl) Tryz.func3 (by kernel_rfl)
  (of_decide_eq_true (by kernel_rfl)) (by unfold Func.isWrapper;first|(rw[if_pos (by decide+kernel)];kernel_rfl)|(rw[if_neg (by decide+kernel)];exact⟨rfl,rfl⟩))
  (fun os started H enc _ F=>by rw[OpenClaim.pre_eq_preRow];exact lifted os started H enc F)
theorem plain (f:FuncId) (fn:Func) (hf:Tryz.pinned.checked.prog.funcNamed "apostille/apostillelaw31.AttrTells" =some f) (hfn:Tryz.pinned.checked.prog.funcs[f]? =some fn):
  false=Tryz.pinned.checked.prog.looks []/\∀(j:Nat) t,fn.params[j]? =some t->Tryz.pinned.checked.prog.wantsStandIn t=false:=by
 obtain rfl:f=3:=Option.some.inj ((show Tryz.prog.funcNamed "apostille/apostillelaw31.AttrTells" =some 3 by kernel_rfl).symm.trans hf)|>.symm
 obtain rfl:fn=Tryz.f3:=(Option.some.inj (Tryz.func3.symm.trans hfn)).symm
 refine⟨by kernel_rfl,fun j t ht=> ?_⟩
 rw[Tryz.params3] at ht
 have hm:=Array.mem_of_getElem? ht
 simp only[List.mem_toArray,List.mem_cons,List.mem_nil_iff,or_false] at hm
 rcases hm with rfl|rfl
 ·exact(show Tryz.prog.wantsStandIn 22=false by kernel_rfl)
 ·exact(show Tryz.prog.wantsStandIn 22=false by kernel_rfl)
theorem card:Rows.AttrTellsCardSaid:=
 Claim7.holds_tied_plain_at .later [] _ _ _ _ said (fun _ h=>by cases h) (by kernel_rfl) (fun _ h=>by cases h) attrTells_row_tie rfl ⟨rfl,rfl⟩ (by kernel_rfl) rfl plain (by kernel_rfl)
end Go.Proofs.YtoiikagnjcjccaaGreatDoor.attrTells
