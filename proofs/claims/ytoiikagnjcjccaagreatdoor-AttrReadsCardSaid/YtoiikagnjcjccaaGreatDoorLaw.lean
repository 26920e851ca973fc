/-
 AttrReads: whatever the input, it returns true, and the input reads as it did: the row and its tied card. Conditions: none but the given statement's own.
-/
import Derived.Test.YtoiikagnjcjccaaGreatDoorCards
import Derived.Test.YtoiikagnjcjccaaGreatDoorTie
import Derived.Test.YtoiikagnjcjccaaGreatDoorT6
import Derived.Deep.DeepHandedRow
set_option linter.unusedVariables false
set_option linter.unusedSimpArgs false
namespace Go.Proofs.YtoiikagnjcjccaaGreatDoor.attrReads
open Go.ChangeShapes Go.WideShapes Go.ChangeAt Go.RowKit Go.Proofs.YtoiikagnjcjccaaGreatDoorA
theorem own:ownKnob Tryz.prog.godebug=none:=by kernel_rfl
theorem mixed:Tryz.prog.follows .mixedOrders=true:=by kernel_rfl
theorem laidOut:laidOutB Tryz.prog=true:=by kernel_rfl
theorem rec3:Tryz.prog.readableRec 3=true:=by kernel_rfl
theorem row3:3<Tryz.prog.types.size:=of_decide_eq_true (by kernel_rfl)
theorem rec22:Tryz.prog.readableRec 22=true:=by kernel_rfl
theorem row22:22<Tryz.prog.types.size:=of_decide_eq_true (by kernel_rfl)
theorem rec34:Tryz.prog.readableRec 34=true:=by kernel_rfl
theorem row34:34<Tryz.prog.types.size:=of_decide_eq_true (by kernel_rfl)
theorem rec36:Tryz.prog.readableRec 36=true:=by kernel_rfl
theorem row36:36<Tryz.prog.types.size:=of_decide_eq_true (by kernel_rfl)
theorem rows: ∀t∈Tryz.f4.params.toList,Tryz.prog.readableRec t=true/\t<Tryz.prog.types.size:=by
 intro t ht
 rw[Tryz.params4] at ht
 simp only[List.mem_cons,List.mem_nil_iff,or_false] at ht
 rcases ht with rfl|rfl|rfl|rfl
 ·exact⟨rec22,row22⟩
 ·exact⟨rec34,row34⟩
 ·exact⟨rec3,row3⟩
 ·exact⟨rec36,row36⟩
set_option maxRecDepth 100000 in
theorem contract (H:Type) (enc:TypeId×Value->H) (W:World) (base:Nat) (args:Array Value) (ds gs:List (DataW H)) (before:List MemPlace)
  (hval: ∀(j:Nat) t v,Tryz.f4.params[j]? =some t->args[j]? =some v->Value.okWide Tryz.prog W .any base t v)
  (hW:DataW.Whole enc Tryz.prog Tryz.f4.params.toList Rows.attrReadsSpec.vars false W args.toList ds gs before) (hL:laidMetH Tryz.prog Rows.attrReadsRow.laid W)
  (hwt:(DataW.weightsEach Tryz.prog (Tryz.f4.params.toList++(OpenSpec.ofChange Rows.attrReadsSpec).bare.plain.varTypes Tryz.prog) (ds++gs)).all (· <=reachBytes)=true) (hsh:W.ShapedOpen Tryz.prog):
  Calls Tryz.prog 4 args W fun e W'=> ∃v,e=.returned v/\Rows.attrReadsSpec.post enc Tryz.prog Tryz.f4 false true false false W args v W':=by
 have hW':=hW
 have hlt:=hW.lt
 obtain⟨p,q,hA0,hV,rfl,hfz,hnd⟩:=hW
 have hA:DataW.TrodAll enc Tryz.prog W 0 (fun _=>true) true Tryz.f4.params.toList args.toList ds p:=hA0
 rw[Tryz.params4] at hA hval hwt
 obtain⟨v0,vs0,d0,ds0,p0,q0,hargs,rfl,rfl,h0,r0⟩:=trodAll_cons hA
 obtain⟨v1,vs1,d1,ds1,p1,q1,rfl,rfl,rfl,h1,r1⟩:=trodAll_cons r0
 obtain⟨v2,vs2,d2,ds2,p2,q2,rfl,rfl,rfl,h2,r2⟩:=trodAll_cons r1
 obtain⟨v3,vs3,d3,ds3,p3,q3,rfl,rfl,rfl,h3,r3⟩:=trodAll_cons r2
 obtain⟨rfl,rfl,rfl⟩:=trodAll_nil r3
 obtain rfl:args= #[v0,v1,v2,v3]:=by cases args;simp_all
 obtain⟨rfl,rfl⟩:=trodVars_none hV
 obtain⟨a0,c0,b0⟩:=xbbl (j:=0) hwt rfl rfl (hval 0 22 v0 rfl rfl) h0
 obtain⟨a1,c1,d1⟩:=xbgb (hval 1 34 v1 rfl rfl) h1
 obtain⟨t1,b1,k1,rfl⟩:=xbqs d1
 obtain⟨a2,e2,_,_,w2⟩:=open_int Tryz.underlying3 (hval 2 3 v2 rfl rfl) h2
 have b2:=q7s w2
 obtain⟨a3,c3,b3,m3⟩:=xbgc Tryz.underlying36 Tryz.underlying59 (by kernel_rfl) (hval 3 36 v3 rfl rfl) h3
 have l3:=xbuc (j:=3) (t:=36) hwt rfl rfl Tryz.underlying36 (of_decide_eq_true (by kernel_rfl)) m3
 have hlm:laidMet Tryz.prog Rows.attrReadsRow.laid W:=hL
 have hg:=xbff (Lib.laidMet.reads hlm (n:= "unicode/utf8.first") (d:=Rows.laid_unicode_utf8_first) (List.Mem.tail _ (List.Mem.head _))) (Lib.laidMet.reads hlm (n:= "unicode/utf8.acceptRanges") (d:=Rows.laid_unicode_utf8_acceptRanges) (List.Mem.head _))
 have hp:qra [.cl (.slg 2 a0),.cl (.agg [.int .i64 t1,.sli .u8 b1,.slg 3 k1]),.cl (.int .i64 a2),.cl (.sli .u32 a3)] []=true:=by
  show(q6c a0&&(isT [.int .i64 t1,.sli .u8 b1,.slg 3 k1]&&u32Any a3))=true
  rw[b0,d1,xbhe b3]
  rfl
 refine(xbat (q1y mixed) Tryz.func4 rfl rfl hg (xs:=[.cl (.slg 2 a0),.cl (.agg [.int .i64 t1,.sli .u8 b1,.slg 3 k1]),.cl (.int .i64 a2),.cl (.sli .u32 a3)]) (vs:=[v0,v1,v2,v3]) (by
   show cond (qra _ _) (SWAReads _ _).eval none=_
   rw[hp]
   rfl) ⟨rfl,fun j c v hj hv=>by
   match j,hj,hv with
   | 0,hj,hv=>cases hj;cases hv;exact .cl _ _ c0
   | 1,hj,hv=>cases hj;cases hv;exact .cl _ _ c1
   | 2,hj,hv=>cases hj;cases hv;rw[e2];exact .cl _ _ (.int ..)
   | 3,hj,hv=>cases hj;cases hv;exact .cl _ _ c3
   | j+4,hj,hv=>simp at hj⟩).mono fun e W' ⟨he,hs⟩=> ?_
 subst he
 exact⟨_,rfl,xbl9 (pa:=_) (pv:=[]) hW' (fun _ _ _=>(trodAll_cons_mk (shut_bool Tryz.underlying4 _) trodAll_mk0)) (fun sp hsp=>qoq laidOut rows hA0 (fun x hx=>xbdf hs (hlt x (List.mem_append_left _ hx))) fun x hx=>hsp x (List.mem_append_left _ hx)) (fun _ _=>rfl) rfl
  hs.1 (ok_one (by kernel_rfl) rfl (okWide_bool_mk Tryz.underlying4 _))⟩
noncomputable def laidWorld (os:Os):World:=
 {World.holding Tryz.prog os ⟨#[], #[],[]⟩ with heap:=xbv7 (World.holding Tryz.prog os ⟨#[], #[],[]⟩).heap}
set_option maxRecDepth 100000 in
theorem laid_met (os:Os):laidMet Tryz.prog Rows.attrReadsRow.laid ((laidWorld os).forCall (fun _ _=>0) ⟨#[], #[.slice none 0 0,.agg #[.int .i64 0,.slice none 0 0,.slice none 0 0],.int .i64 0,.slice none 0 0],[]⟩).memory:=
 laidMet_of_run' 8 (by kernel_rfl) (by kernel_rfl)
theorem reads (os:Os) {H:Type} (enc:TypeId×Value->H): ∃places,DataW.whole enc Tryz.prog ((laidWorld os).forCall (fun _ _=>0) ⟨#[], #[.slice none 0 0,.agg #[.int .i64 0,.slice none 0 0,.slice none 0 0],.int .i64 0,.slice none 0 0],[]⟩).memory Tryz.f4.params.toList Rows.attrReadsSpec.vars false (#[.slice none 0 0,.agg #[.int .i64 0,.slice none 0 0,.slice none 0 0],.int .i64 0,.slice none 0 0]:Array Value).toList 8=some ([.nil,.agg [.lit (.int .i64 0),.nil,.nil],.lit (.int .i64 0),.nil],[],places):=
 ⟨[],by kernel_rfl⟩
set_option maxRecDepth 100000 in
theorem lifted (os:Os) (started:os.Started) (H:Type) (enc:TypeId×Value->H) (F:Stop.Interp):
  ReturnsInHanded {} Tryz.checked os 4 .any ((OpenSpec.ofChange Rows.attrReadsSpec).preRow enc Tryz.prog Tryz.f4 Rows.attrReadsRow.domain false Rows.attrReadsRow.laid) (((OpenSpec.ofChange Rows.attrReadsSpec).at F).post enc Tryz.prog Tryz.f4 false true false false):=by
 obtain⟨places,hx⟩:=reads os enc
 refine returnsInHanded_of_row (C:=Tryz.checked) (s:=OpenSpec.ofChange Rows.attrReadsSpec) own started (by kernel_rfl) Tryz.func4
  (witness_row_at (enc:=enc) (C:=Tryz.checked) false (laidWorld os) #[.slice none 0 0,.agg #[.int .i64 0,.slice none 0 0,.slice none 0 0],.int .i64 0,.slice none 0 0] rfl (by kernel_rfl) (by kernel_rfl) (by kernel_rfl)
   (OpenSpec.preRow_of_cond 8 hx (by kernel_rfl) (fun k hk=>by cases hk) (by kernel_rfl) (laid_met os))) ?_
 intro W base args ds gs before hval hW _ _ hwt hL hsh _
 exact contract H enc W base args ds gs before hval hW hL hwt hsh
theorem said:Rows.AttrReadsSaid:=
 OpenClaim.holds_of_cond 4 Tryz.f4 rfl rfl rfl rfl rfl rfl rfl ⟨rfl,rfl,rfl,rfl,rfl⟩ rfl rfl rfl rfl rfl (by kernel_rfl) Tryz.func4 (by kernel_rfl)
  (of_decide_eq_true (by kernel_rfl)) (by unfold Func.isWrapper;first|(rw[if_pos (by decide+kernel)];kernel_rfl)|(rw[if_neg (by decide+kernel)];exact⟨rfl,rfl⟩))
  (fun os started H enc _ F=>by rw[OpenClaim.pre_eq_preRow];exact lifted os started H enc F)
theorem plain (f:FuncId) (fn:Func) (hf:Tryz.pinned.checked.prog.funcNamed "apostille/apostillelaw31.AttrReads" =some f) (hfn:Tryz.pinned.checked.prog.funcs[f]? =some fn):
  false=Tryz.pinned.checked.prog.looks []/\∀(j:Nat) t,fn.params[j]? =some t->Tryz.pinned.checked.prog.wantsStandIn t=false:=by
 obtain rfl:f=4:=Option.some.inj ((show Tryz.prog.funcNamed "apostille/apostillelaw31.AttrReads" =some 4 by kernel_rfl).symm.trans hf)|>.symm
 obtain rfl:fn=Tryz.f4:=(Option.some.inj (Tryz.func4.symm.trans hfn)).symm
 refine⟨by kernel_rfl,fun j t ht=> ?_⟩
 rw[Tryz.params4] at ht
 have hm:=Array.mem_of_getElem? ht
 simp only[List.mem_toArray,List.mem_cons,List.mem_nil_iff,or_false] at hm
 rcases hm with rfl|rfl|rfl|rfl
 ·exact(show Tryz.prog.wantsStandIn 22=false by kernel_rfl)
 ·exact(show Tryz.prog.wantsStandIn 34=false by kernel_rfl)
 ·exact(show Tryz.prog.wantsStandIn 3=false by kernel_rfl)
 ·exact(show Tryz.prog.wantsStandIn 36=false by kernel_rfl)
theorem card:Rows.AttrReadsCardSaid:=
 Claim7.holds_tied_plain_at .later [] _ _ _ _ said (fun _ h=>by cases h) (by kernel_rfl) (fun _ h=>by cases h) attrReads_row_tie rfl ⟨rfl,rfl⟩ (by kernel_rfl) rfl plain (by kernel_rfl)
end Go.Proofs.YtoiikagnjcjccaaGreatDoor.attrReads
