/-
 EvidTells: whatever the input, it returns true, and the input reads as it did: the row and its tied card. Conditions: none but the given statement's own.
-/
import Derived.Test.YtoaakappnhemiaaGreatDoorCards
import Derived.Test.YtoaakappnhemiaaGreatDoorTie
import Derived.Test.YtoaakappnhemiaaGreatDoorT6
import Derived.Deep.DeepHandedRow
set_option linter.unusedVariables false
set_option linter.unusedSimpArgs false
namespace Go.Proofs.YtoaakappnhemiaaGreatDoor.evidTells
open Go.ChangeShapes Go.WideShapes Go.ChangeAt Go.RowKit Go.Proofs.YtoaakappnhemiaaGreatDoorA
theorem own:ownKnob Tryz.prog.godebug=none:=by kernel_rfl
theorem mixed:Tryz.prog.follows .mixedOrders=true:=by kernel_rfl
theorem laidOut:laidOutB Tryz.prog=true:=by kernel_rfl
theorem rec3:Tryz.prog.readableRec 3=true:=by kernel_rfl
theorem row3:3<Tryz.prog.types.size:=of_decide_eq_true (by kernel_rfl)
theorem rec27:Tryz.prog.readableRec 27=true:=by kernel_rfl
theorem row27:27<Tryz.prog.types.size:=of_decide_eq_true (by kernel_rfl)
theorem rows: ∀t∈Tryz.f6.params.toList,Tryz.prog.readableRec t=true/\t<Tryz.prog.types.size:=by
 intro t ht
 rw[Tryz.params6] at ht
 simp only[List.mem_cons,List.mem_nil_iff,or_false] at ht
 rcases ht with rfl|rfl|rfl
 ·exact⟨rec27,row27⟩
 ·exact⟨rec27,row27⟩
 ·exact⟨rec3,row3⟩
set_option maxRecDepth 100000 in
theorem contract (H:Type) (enc:TypeId×Value->H) (W:World) (base:Nat) (args:Array Value) (ds gs:List (DataW H)) (before:List MemPlace)
  (hval: ∀(j:Nat) t v,Tryz.f6.params[j]? =some t->args[j]? =some v->Value.okWide Tryz.prog W .any base t v)
  (hW:DataW.Whole enc Tryz.prog Tryz.f6.params.toList Rows.evidTellsSpec.vars false W args.toList ds gs before) (hL:laidMetH Tryz.prog Rows.evidTellsRow.laid W)
  (hwt:(DataW.weightsEach Tryz.prog (Tryz.f6.params.toList++(OpenSpec.ofChange Rows.evidTellsSpec).bare.plain.varTypes Tryz.prog) (ds++gs)).all (· <=reachBytes)=true) (hsh:W.ShapedOpen Tryz.prog):
  Calls Tryz.prog 6 args W fun e W'=> ∃v,e=.returned v/\Rows.evidTellsSpec.post enc Tryz.prog Tryz.f6 false true false false W args v W':=by
 have hW':=hW
 have hlt:=hW.lt
 obtain⟨p,q,hA0,hV,rfl,hfz,hnd⟩:=hW
 have hA:DataW.TrodAll enc Tryz.prog W 0 (fun _=>true) true Tryz.f6.params.toList args.toList ds p:=hA0
 rw[Tryz.params6] at hA hval hwt
 obtain⟨v0,vs0,d0,ds0,p0,q0,hargs,rfl,rfl,h0,r0⟩:=trodAll_cons hA
 obtain⟨v1,vs1,d1,ds1,p1,q1,rfl,rfl,rfl,h1,r1⟩:=trodAll_cons r0
 obtain⟨v2,vs2,d2,ds2,p2,q2,rfl,rfl,rfl,h2,r2⟩:=trodAll_cons r1
 obtain⟨rfl,rfl,rfl⟩:=trodAll_nil r2
 obtain rfl:args= #[v0,v1,v2]:=by cases args;simp_all
 obtain⟨rfl,rfl⟩:=trodVars_none hV
 obtain⟨g0,c0,w0,b0⟩:=xbb9 (j:=0) hwt rfl rfl (hval 0 27 v0 rfl rfl) h0
 obtain⟨g1,c1,w1,b1⟩:=xbb9 (j:=1) hwt rfl rfl (hval 1 27 v1 rfl rfl) h1
 obtain⟨a2,e2,_,_,w2⟩:=open_int Tryz.underlying3 (hval 2 3 v2 rfl rfl) h2
 have b2:=q8v w2
 have hlm:laidMet Tryz.prog Rows.evidTellsRow.laid W:=hL
 have hg:=xbpi (Lib.laidMet.reads hlm (n:= "unicode/utf8.first") (d:=Rows.laid_unicode_utf8_first) (List.Mem.tail _ (List.Mem.tail _ (List.Mem.tail _ (List.Mem.head _))))) (Lib.laidMet.reads hlm (n:= "unicode/utf8.acceptRanges") (d:=Rows.laid_unicode_utf8_acceptRanges) (List.Mem.head _)) (Lib.laidMet.reads hlm (n:= "apostille/algs.rows") (d:=Rows.laid_apostille_algs_rows) (List.Mem.tail _ (List.Mem.tail _ (List.Mem.head _)))) (Lib.laidMet.reads hlm (n:= "apostille/mac.sizes") (d:=Rows.laid_apostille_mac_sizes) (List.Mem.tail _ (List.Mem.head _)))
 have hp:qwl [.cl (.agg [.sli .i64 g0,.slg 1 c0]),.cl (.agg [.sli .i64 g1,.slg 1 c1]),.cl (.int .i64 a2)] []=true:=by
  show(recT g0 c0&&(recT g1 c1&&qz6 a2))=true
  rw[b0,b1,show qz6 a2=true from decide_eq_true b2]
  rfl
 refine(xbfu (q9y mixed) Tryz.func6 rfl rfl hg (xs:=[.cl (.agg [.sli .i64 g0,.slg 1 c0]),.cl (.agg [.sli .i64 g1,.slg 1 c1]),.cl (.int .i64 a2)]) (vs:=[v0,v1,v2]) (by
   show cond (qwl _ _) (SWTells _ _).eval none=_
   rw[hp]
   rfl) ⟨rfl,fun j c v hj hv=>by
   match j,hj,hv with
   | 0,hj,hv=>cases hj;cases hv;exact .cl _ _ w0
   | 1,hj,hv=>cases hj;cases hv;exact .cl _ _ w1
   | 2,hj,hv=>cases hj;cases hv;rw[e2];exact .cl _ _ (.int ..)
   | j+3,hj,hv=>simp at hj⟩).mono fun e W' ⟨he,hs⟩=> ?_
 subst he
 exact⟨_,rfl,xbtn (pa:=_) (pv:=[]) hW' (fun _ _ _=>(trodAll_cons_mk (shut_bool Tryz.underlying4 _) trodAll_mk0)) (fun sp hsp=>qpy laidOut rows hA0 (fun x hx=>xbfv hs (hlt x (List.mem_append_left _ hx))) fun x hx=>hsp x (List.mem_append_left _ hx)) (fun _ _=>rfl) rfl
  hs.1 (ok_one (by kernel_rfl) rfl (okWide_bool_mk Tryz.underlying4 _))⟩
noncomputable def laidWorld (os:Os):World:=
 {World.holding Tryz.prog os ⟨#[], #[],[]⟩ with heap:=xb78 (World.holding Tryz.prog os ⟨#[], #[],[]⟩).heap}
set_option maxRecDepth 100000 in
theorem laid_met (os:Os):laidMet Tryz.prog Rows.evidTellsRow.laid ((laidWorld os).forCall (fun _ _=>0) ⟨#[], #[.agg #[.slice none 0 0,.slice none 0 0],.agg #[.slice none 0 0,.slice none 0 0],.int .i64 0],[]⟩).memory:=
 laidMet_of_run' 8 (by kernel_rfl) (by kernel_rfl)
theorem reads (os:Os) {H:Type} (enc:TypeId×Value->H): ∃places,DataW.whole enc Tryz.prog ((laidWorld os).forCall (fun _ _=>0) ⟨#[], #[.agg #[.slice none 0 0,.slice none 0 0],.agg #[.slice none 0 0,.slice none 0 0],.int .i64 0],[]⟩).memory Tryz.f6.params.toList Rows.evidTellsSpec.vars false (#[.agg #[.slice none 0 0,.slice none 0 0],.agg #[.slice none 0 0,.slice none 0 0],.int .i64 0]:Array Value).toList 8=some ([.agg [.nil,.nil],.agg [.nil,.nil],.lit (.int .i64 0)],[],places):=
 ⟨[],by kernel_rfl⟩
set_option maxRecDepth 100000 in
theorem lifted (os:Os) (started:os.Started) (H:Type) (enc:TypeId×Value->H) (F:Stop.Interp):
  ReturnsInHanded {} Tryz.checked os 6 .any ((OpenSpec.ofChange Rows.evidTellsSpec).preRow enc Tryz.prog Tryz.f6 Rows.evidTellsRow.domain false Rows.evidTellsRow.laid) (((OpenSpec.ofChange Rows.evidTellsSpec).at F).post enc Tryz.prog Tryz.f6 false true false false):=by
 obtain⟨places,hx⟩:=reads os enc
 refine returnsInHanded_of_row (C:=Tryz.checked) (s:=OpenSpec.ofChange Rows.evidTellsSpec) own started (by kernel_rfl) Tryz.func6
  (witness_row_at (enc:=enc) (C:=Tryz.checked) false (laidWorld os) #[.agg #[.slice none 0 0,.slice none 0 0],.agg #[.slice none 0 0,.slice none 0 0],.int .i64 0] rfl (by kernel_rfl) (by kernel_rfl) (by kernel_rfl)
   (OpenSpec.preRow_of_cond 8 hx (by kernel_rfl) (fun k hk=>by cases hk) (by kernel_rfl) (laid_met os))) ?_
 intro W base args ds gs before hval hW _ _ hwt hL hsh _
 exact contract H enc W base args ds gs before hval hW hL hwt hsh
theorem said:Rows.EvidTellsSaid:=
 OpenClaim.holds_of_cond 6 Tryz.f6 rfl rfl rfl rfl rfl rfl rfl ⟨rfl,rfl,rfl,rfl,rfl⟩ rfl rfl rfl rfl rfl (by kernel_rfl) Tryz.func6 (by kernel_rfl)
  (of_decide_eq_true (by kernel_rfl)) (by unfold Func.isWrapper;first|(rw[if_pos (by decide+kernel)];kernel_rfl)|(rw[if_neg (by decide+kernel)];exact⟨rfl,rfl⟩))
  (fun os started H enc _ F=>by rw[OpenClaim.pre_eq_preRow];exact lifted os started H enc F)
theorem plain (f:FuncId) (fn:Func) (hf:Tryz.pinned.checked.prog.funcNamed "apostille/apostillelaw39.EvidTells" =some f) (hfn:Tryz.pinned.checked.prog.funcs[f]? =some fn):
  true=Tryz.pinned.checked.prog.looks []/\∀(j:Nat) t,fn.params[j]? =some t->Tryz.pinned.checked.prog.wantsStandIn t=false:=by
 obtain rfl:f=6:=Option.some.inj ((show Tryz.prog.funcNamed "apostille/apostillelaw39.EvidTells" =some 6 by kernel_rfl).symm.trans hf)|>.symm
 obtain rfl:fn=Tryz.f6:=(Option.some.inj (Tryz.func6.symm.trans hfn)).symm
 refine⟨by kernel_rfl,fun j t ht=> ?_⟩
 rw[Tryz.params6] at ht
 have hm:=Array.mem_of_getElem? ht
 simp only[List.mem_toArray,List.mem_cons,List.mem_nil_iff,or_false] at hm
 rcases hm with rfl|rfl|rfl
 ·exact(show Tryz.prog.wantsStandIn 27=false by kernel_rfl)
 ·exact(show Tryz.prog.wantsStandIn 27=false by kernel_rfl)
 ·exact(show Tryz.prog.wantsStandIn 3=false by kernel_rfl)
theorem card:Rows.EvidTellsCardSaid:=
 Claim7.holds_tied_plain_at .later [] _ _ _ _ said (fun _ h=>by cases h) (by kernel_rfl) (fun _ h=>by cases h) evidTells_row_tie rfl ⟨rfl,rfl⟩ (by kernel_rfl) rfl plain (by kernel_rfl)
end Go.Proofs.YtoaakappnhemiaaGreatDoor.evidTells
