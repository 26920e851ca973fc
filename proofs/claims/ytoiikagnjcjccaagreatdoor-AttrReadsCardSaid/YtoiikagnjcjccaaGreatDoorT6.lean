/-
 A law's contract is its row's step, where the row lists variables; data that stay; what comes in. Conditions: none.
-/
import Derived.Test.YtoiikagnjcjccaaGreatDoorK3
import Derived.WideKeyArgs
import Derived.Lib.LaidU8
import Derived.LaidLaws
import Derived.SizedLaws
import Derived.ChangeSlices
import Derived.Test.YtoiikagnjcjccaaGreatDoorT5
import Derived.ChangeArms
import GoSem.PinnedTables
set_option linter.unusedVariables false
set_option linter.unusedSimpArgs false
set_option maxRecDepth 100000
namespace Go.Proofs.YtoiikagnjcjccaaGreatDoorA
open Go.ChangeShapes Go.WideShapes Go.ChangeAt Go.RowKit
def Still(W W':World):Prop:=Stays W W'/\∀b:Nat,b<W.heap.size->W'.heap[b]? =W.heap[b]?
theorem xbma{glob:Nat->Option CV}{W:World}{xs:List V}{vs:List Value}(hg: ∀g c,glob g=some c->CRep W (fun b=>b<W.heap.size) (.vp c 0 0) (.pointer (some ⟨g,0,none⟩)))(h:RepL W (fun b=>b<W.heap.size) (fun _=>none) (fun _=>none) xs vs):Pre glob W (fun b=>b<W.heap.size) (fun _=>none) (fun _=>False) xs [] vs:=by refine⟨by simp,h,⟨fun b hb=>hb,fun b hb=>hb,fun p o hp=>(by cases hp),fun p q o o' b x y x' y' hp=>(by cases hp),fun p o b x y hp=>(by cases hp),fun b hb=>.inl hb⟩,hg⟩
theorem xbat{glob:Nat->Option CV}{P:Program}{g:FuncId}{fn:Func}{S:FSpec}(hs:Sound P glob g S)(hf:P.funcs[g]? =some fn)(hn:(fn.name== "runtime.NumGoroutine")=false)(hb:fn.body.isSome=true){xs:List V}{vs:List Value}{W:World}(hg: ∀g c,glob g=some c->CRep W (fun b=>b<W.heap.size) (.vp c 0 0) (.pointer (some ⟨g,0,none⟩)))(hS:S xs []=some (.ret [.cl (.bool true)] []))(h:RepL W (fun b=>b<W.heap.size) (fun _=>none) (fun _=>none) xs vs):Calls P g vs.toArray W fun e W'=>e=.returned (.bool true)/\Still W W':=by
 have hr:=hs xs [] _ W _ _ _ vs hS (xbma hg h);have key: ∀e W',Ends W (fun b=>b<W.heap.size) (fun _=>none) (fun _=>False) [] (.ret [.cl (.bool true)] []) e W'->e=.returned (.bool true)/\Still W W':=fun e W' he=>by
  obtain⟨us,Im',ρ',rfl,hp,hl,hv⟩:=he;refine⟨?_,xbqx hp.fr,fun b hb=>hp.fr.block b hb fun f=>f⟩
  match us,hl with
  | [u],_=>
   have:=hv 0 _ u rfl rfl;have:=this.bool;rw[this];rfl
 rcases hr with⟨_,hc⟩|⟨v,w',h1,_⟩
 ·exact hc.mono fun e W' he=>key e W' he
 ·exfalso;obtain⟨c,hc⟩:=zbn.1 hb;have hn': ¬fn.name= "runtime.NumGoroutine" :=by simpa using hn
  simp[callFunc,hf,hn',hc] at h1
theorem xbdf{W W':World}(h:Still W W'){p:MemPlace}(hp:p.block<W.heap.size):W.sameAt W' p:=by
 cases p with
 | cell b o=>
  show W'.cell? ⟨b,o,none⟩=W.cell? ⟨b,o,none⟩;unfold World.cell?;rw[h.2 b hp]
 | map b=>exact h.2 b hp
section
variable {H:Type} {enc:TypeId×Value->H} {P:Program}
theorem qoq{W W':World}(hl:laidOutB P=true){sp:Nat->Bool}: ∀ {ts:List TypeId} {vs:List Value} {ds:List (DataW H)} {ps:List MemPlace},(∀t∈ts,P.readableRec t=true/\t<P.types.size)->DataW.TrodAll enc P W 0 (fun _=>true) true ts vs ds ps->(∀p∈ps,W.sameAt W' p)->(∀p∈ps,sp p.block=true)->DataW.TrodAll enc P W' 0 sp true ts vs ds ps
 | [],vs,ds,ps,_,h,_,_=>by obtain⟨rfl,rfl,rfl⟩:=trodAll_nil h;exact trodAll_mk0
 | t::ts,vs,ds,ps,ht,h,hs,hp=>by obtain⟨v,vs',d,ds',p,q,rfl,rfl,rfl,h1,h2⟩:=trodAll_cons h;refine trodAll_cons_mk (WideElems.Trod_stays hl (ht t (by simp)).1 (ht t (by simp)).2 h1 (fun x hx=>hs x (by simp[hx])) fun x hx=>hp x (by simp[hx])) (qoq hl (fun t' ht'=>ht t' (by simp[ht'])) h2 (fun x hx=>hs x (by simp[hx])) fun x hx=>hp x (by simp[hx]))
theorem qp2{W:World}{a:Addr}{v:Value}(h:W.cell? a=some v):a.block<W.heap.size:=by
 unfold World.cell? at h;split at h
 ·rename_i h1;exact(zco.1 h1).1
 ·cases h
end
section
variable {H:Type} {enc:TypeId×Value->H} {P:Program}
theorem xbgc{W:World}{b0:Nat}{t e:TypeId}{k:IntKind}{v:Value}{d:DataW H}{ps:List MemPlace}(ht:P.underlying t=some (.slice e))(he:P.underlying e=some (.int k))(hc:P.cellsOf e=1)(hval:Value.okWide P W .any b0 t v)(h:DataW.Trod enc P W 0 (fun _=>true) true t v d ps): ∃l:List Int,CRep W (fun b=>b<W.heap.size) (.sli k l) v/\(∀n∈l,(Lit.int k n).wf=true)/\(l=[]\/∃es sp,d=.slice es sp/\es.length=l.length):=by
 obtain⟨a0,len0,cap0,rfl⟩:=okWide_slice ht hval;obtain⟨n,h⟩:=h;rcases open_ints ht he hc h with⟨hcs,_⟩|⟨a,len,cap,zs,hcs,_,hl,_,hz,hx,hcell,hw⟩
 ·have hcs:[Value.slice a0 len0 cap0]=[.slice none 0 0]:=hcs;simp only[zbc,Value.slice.injEq,and_true] at hcs;obtain⟨rfl,rfl,rfl⟩:=hcs;exact⟨[],.sli _ _ _ _ _ rfl (zar _) fun i n hi=>by simp at hi,fun n hn=>(by simp at hn),.inl rfl⟩
 ·have hcs:[Value.slice a0 len0 cap0]=[.slice (some a) len cap]:=hcs;simp only[zbc,Value.slice.injEq,and_true] at hcs;obtain⟨rfl,rfl,rfl⟩:=hcs;have hz:zs.length=cap0:=hz;refine⟨zs.take len0,.sli _ _ _ _ _ (by simp;omega) hl fun i n hi=> ?_,fun n hn=>hw n (zba hn),.inr ⟨_,_,(Prod.mk.inj hx).1,by unfold lits;rw[zam]⟩⟩;rw[zcy] at hi;split at hi
  ·rename_i hlt;have hlz:i<zs.length:=by omega
   have hx:=hcell i hlz;have e:zs.getD i 0=n:=by rw[zbl,hi];rfl
   rw[e] at hx;have:=qp2 hx;rw[qec] at this;exact⟨a,rfl,this,hx⟩
  ·cases hi
theorem xbuc{ts:List TypeId}{ds:List (DataW H)}(hw:(DataW.weightsEach P ts ds).all (· <=reachBytes)=true){j:Nat}{t e:TypeId}{d:DataW H}{l:List Int}(ht:ts[j]? =some t)(hd:ds[j]? =some d)(hu:P.underlying t=some (.slice e))(hb:1<=P.bytesOf e)(h:l=[]\/∃es sp,d=.slice es sp/\es.length=l.length):l.length<=1000000000000000:=by
 rcases h with rfl|⟨es,sp,rfl,hl⟩
 ·simp
 ·have h1:=sized_slice hw ht hd hu;have h2:=reachBytes_lt;have h3:es.length<=(es.length+sp.length)*P.bytesOf e:=by have:(es.length+sp.length)*1<=(es.length+sp.length)*P.bytesOf e:=Nat.mul_le_mul_left _ hb;omega
  omega
end
open Go.ChangeShapes Go.WideShapes Go.ChangeAt Go.RowKit
theorem xblp{W:World}(h: ∀(i:Nat) (x:Int),qf1[i]? =some x->W.cell? ⟨1,i,none⟩=some (.int .u8 x)):CRep W (fun b=>b<W.heap.size) (.vp (.aggi 256 .u8 u8First) 0 0) (.pointer (some ⟨1,0,none⟩)):=by
 have e:u8First=qf1:=qab _;rw[e];have h0:=qp2 (h 0 240 rfl);refine CRep.vp (.aggi 256 .u8 qf1) 0 0 1 (qf1.map (.int .u8)) 1 0 (fun i=>.int .u8 (qf1.getD i 0)) rfl rfl h0 (fun j c hj=> ?_) (fun j c hj=>rfl) (fun j c hj=> ?_)
 ·rw[zaj] at hj;obtain⟨x,hx,rfl⟩:=zaq.1 hj;rw[za1,h j x hx,zbl,hx];rfl
 ·rw[zaj] at hj;obtain⟨x,hx,rfl⟩:=zaq.1 hj;rw[zbl,hx];exact .int ..
def qf4:List Int:=[128,191,160,191,128,159,144,191,128,143]++List.replicate 22 0
theorem xbet{W:World}(h: ∀(i:Nat) (x:Int),qf4[i]? =some x->W.cell? ⟨2,i,none⟩=some (.int .u8 x)):CRep W (fun b=>b<W.heap.size) (.vp (.agga 16 2 u8Accept) 0 0) (.pointer (some ⟨2,0,none⟩)):=by
 have e:u8Accept=qj9:=qab _;rw[e];have h0:=qp2 (h 0 128 rfl);have ef:qj9.flatMap cell1=qf4.map (.int .u8):=rfl;refine CRep.vp (.agga 16 2 qj9) 0 0 2 (qf4.map (.int .u8)) 2 0 (fun i=>.int .u8 (qf4.getD i 0)) (by rw[<- ef];rfl) ⟨rfl,fun c hc=> ?_⟩ h0 (fun j c hj=> ?_) (fun j c hj=>rfl) (fun j c hj=> ?_)
 ·unfold qj9 at hc;obtain⟨p,_,rfl⟩:=za7.1 hc;rfl
 ·rw[zaj] at hj;obtain⟨x,hx,rfl⟩:=zaq.1 hj;rw[za1,h j x hx,zbl,hx];rfl
 ·rw[zaj] at hj;obtain⟨x,hx,rfl⟩:=zaq.1 hj;rw[zbl,hx];exact .int ..
def xbhl:DataW Unit:=.agg [.agg [.lit (.int .u8 128),.lit (.int .u8 191)],.agg [.lit (.int .u8 160),.lit (.int .u8 191)],.agg [.lit (.int .u8 128),.lit (.int .u8 159)],.agg [.lit (.int .u8 144),.lit (.int .u8 191)],.agg [.lit (.int .u8 128),.lit (.int .u8 143)],.agg [.lit (.int .u8 0),.lit (.int .u8 0)],.agg [.lit (.int .u8 0),.lit (.int .u8 0)],.agg [.lit (.int .u8 0),.lit (.int .u8 0)],.agg [.lit (.int .u8 0),.lit (.int .u8 0)],.agg [.lit (.int .u8 0),.lit (.int .u8 0)],.agg [.lit (.int .u8 0),.lit (.int .u8 0)],.agg [.lit (.int .u8 0),.lit (.int .u8 0)],.agg [.lit (.int .u8 0),.lit (.int .u8 0)],.agg [.lit (.int .u8 0),.lit (.int .u8 0)],.agg [.lit (.int .u8 0),.lit (.int .u8 0)],.agg [.lit (.int .u8 0),.lit (.int .u8 0)]]
theorem xbpn:Tryz.prog.globalNamed "unicode/utf8.first" =some 1:=by kernel_rfl
theorem xbhx:Tryz.prog.globalNamed "unicode/utf8.acceptRanges" =some 2:=by kernel_rfl
theorem xbyj:(Tryz.prog.globals[1]?).map (·.type)=some 157:=by kernel_rfl
theorem xbuj:(Tryz.prog.globals[2]?).map (·.type)=some 160:=by kernel_rfl
theorem c5:Tryz.prog.cellsOf 5=1:=by kernel_rfl
theorem c157:Tryz.prog.cellsOf 157=256:=by kernel_rfl
theorem c159:Tryz.prog.cellsOf 159=2:=by kernel_rfl
theorem xbgj:Go.Pinned.utf8First=Lib.tabData .u8 qf1:=by kernel_rfl
theorem q6j{W:World}(h:Lib.VarReads Tryz.prog W "unicode/utf8.first" Go.Pinned.utf8First)(i:Nat)(x:Int)(hx:qf1[i]? =some x):W.cell? ⟨1,i,none⟩=some (.int .u8 x):=by obtain⟨g,t,cs,fuel,p,hg,ht,hv,hd⟩:=h;obtain rfl:=zc0 (xbpn.symm.trans hg);obtain rfl:=zc0 (xbyj.symm.trans ht);rw[xbgj] at hd;have hcs:=Lib.cells_of_tab Tryz.underlying157 Tryz.underlying5 c5 c157 hd;rw[World.var?_cell xbpn hv i, <- zcq,hcs,zaj,hx];rfl
theorem q0t{W:World}(h:Lib.VarReads Tryz.prog W "unicode/utf8.acceptRanges" xbhl)(i:Nat)(x:Int)(hx:qf4[i]? =some x):W.cell? ⟨2,i,none⟩=some (.int .u8 x):=by
 obtain⟨g,t,cs,fuel,p,hg,ht,hv,hd⟩:=h;obtain rfl:=zc0 (xbhx.symm.trans hg);obtain rfl:=zc0 (xbuj.symm.trans ht);have hi:i<32:=(zad.1 hx).1;rw[World.var?_cell xbhx hv i, <- zcq];obtain⟨fuel',d,q,hdd,hf⟩:=Lib.array_elem Tryz.underlying160 hd (i/ 2) (by omega);rw[c159] at hf;have hz:d=.agg ([qf4.getD (2*(i/ 2)) 0,qf4.getD (2*(i/ 2)+1) 0].map fun z=>.lit (.int .u8 z)):=by
  have hall: ∀j:Fin 16,([.agg [.lit (.int .u8 128),.lit (.int .u8 191)],.agg [.lit (.int .u8 160),.lit (.int .u8 191)],.agg [.lit (.int .u8 128),.lit (.int .u8 159)],.agg [.lit (.int .u8 144),.lit (.int .u8 191)],.agg [.lit (.int .u8 128),.lit (.int .u8 143)],.agg [.lit (.int .u8 0),.lit (.int .u8 0)],.agg [.lit (.int .u8 0),.lit (.int .u8 0)],.agg [.lit (.int .u8 0),.lit (.int .u8 0)],.agg [.lit (.int .u8 0),.lit (.int .u8 0)],.agg [.lit (.int .u8 0),.lit (.int .u8 0)],.agg [.lit (.int .u8 0),.lit (.int .u8 0)],.agg [.lit (.int .u8 0),.lit (.int .u8 0)],.agg [.lit (.int .u8 0),.lit (.int .u8 0)],.agg [.lit (.int .u8 0),.lit (.int .u8 0)],.agg [.lit (.int .u8 0),.lit (.int .u8 0)],.agg [.lit (.int .u8 0),.lit (.int .u8 0)]]:List (DataW Unit))[j.val]? =some (.agg ([qf4.getD (2*j.val) 0,qf4.getD (2*j.val+1) 0].map fun z=>.lit (.int .u8 z))):=by
   intro ⟨j,hj⟩;have hj':j=0\/j=1\/j=2\/j=3\/j=4\/j=5\/j=6\/j=7\/j=8\/j=9\/j=10\/j=11\/j=12\/j=13\/j=14\/j=15:=by omega
   rcases hj' with rfl|rfl|rfl|rfl|rfl|rfl|rfl|rfl|rfl|rfl|rfl|rfl|rfl|rfl|rfl|rfl<;>rfl
  have:=hall ⟨i/ 2,by omega⟩;exact zc0 (hdd.symm.trans this)
 rw[hz] at hf;have hcs:=Lib.ints_of_struct Tryz.underlying159 (fun j f hj=>by
  match j,hj with
  | 0,hj=>cases hj;exact⟨Tryz.underlying5,rfl,c5⟩
  | 1,hj=>cases hj;exact⟨Tryz.underlying5,rfl,c5⟩
  | j+2,hj=>simp at hj) c159 hf
 have hget:=congrArg (·[i % 2]?) hcs;simp only[zcy,zbv] at hget;rw[if_pos (by omega),show i/ 2*2+i % 2=i by omega] at hget;rw[hget];have hxd:qf4.getD i 0=x:=by rw[zbl,hx];rfl
 rcases Nat.mod_two_eq_zero_or_one i with h2|h2
 ·rw[h2];show some (Value.int .u8 (qf4.getD (2*(i/ 2)) 0))=_;rw[show 2*(i/ 2)=i by omega,hxd]
 ·rw[h2];show some (Value.int .u8 (qf4.getD (2*(i/ 2)+1) 0))=_;rw[show 2*(i/ 2)+1=i by omega,hxd]
def xbqw(l:List Int):Go.Obj->Go.Obj
 | .cells _ t fr=>.cells (l.map (Value.int .u8)).toArray t fr
 | o=>o
def xbv7(h:Array Go.Obj):Array Go.Obj:=(h.modify 1 (xbqw qf1)).modify 2 (xbqw qf4)
theorem xbum{n:Nat}{t:Int}{b:List Int}{l:List CV}(h1: ∀z∈b,0<=z/\z<=255)(h3: ∀c∈l, ∃y,c=.agg y/\isTf n y=true):isTf (n+1) [.int .i64 t,.sli .u8 b,.slg 3 l]=true:=by show(b.all xbhp&&l.all fun c=>match c with|.agg x=>isTf n x|_=>false)=true;simp only[zab,zai];refine⟨fun z hz=>decide_eq_true (h1 z hz),fun c hc=> ?_⟩;obtain⟨y,rfl,hy⟩:=h3 c hc;exact hy
theorem xbi8{x:List CV}{n:Nat}(h:isTf n x=true):isT x=true:=by unfold isT;rw[qab];exact @decide_eq_true _ (Classical.propDecidable _) ⟨n,h⟩
theorem xbkh: ∀ {k m:Nat} {y:List CV},isTf k y=true->k<=m->isTf m y=true
 | k,m,y,hy,hkm=>by obtain⟨k',t,b,l,rfl,rfl,hb,hl⟩:=qch hy;obtain⟨m,rfl⟩: ∃q,m=q+1:=⟨m - 1,by omega⟩;refine xbum hb fun c hc=> ?_;obtain⟨z,rfl,hz⟩:=hl c hc;exact⟨z,rfl,xbkh hz (by omega)⟩
section
variable {H:Type} {enc:TypeId×Value->H} {P:Program}
theorem xbg5{W:World}{n:Nat}{t e:TypeId}{k:IntKind}{cs:List Value}{x:DataW H×List MemPlace}(ht:P.underlying t=some (.slice e))(he:P.underlying e=some (.int k))(hc:P.cellsOf e=1)(h:DataW.trod enc P W 0 (fun _=>true) true n t cs=some x): ∃(v:Value) (l:List Int),cs=[v]/\oneC v=true/\CRep W (fun b=>b<W.heap.size) (.sli k l) v/\∀n∈l,(Lit.int k n).wf=true:=by
 rcases open_ints ht he hc h with⟨hcs,_⟩|⟨a,len,cap,zs,hcs,_,hl,_,hz,_,hcell,hw⟩
 ·exact⟨_,[],hcs,rfl,.sli _ _ _ _ _ rfl (zar _) fun i n hi=>by simp at hi,fun n hn=>by simp at hn⟩
 ·have hz:zs.length=cap:=hz;refine⟨_,zs.take len,hcs,rfl,.sli _ _ _ _ _ (by simp;omega) hl fun i n hi=> ?_,fun n hn=>hw n (zba hn)⟩;rw[zcy] at hi;split at hi
  ·rename_i hlt;have hlz:i<zs.length:=by omega
   have hx:=hcell i hlz;have e:zs.getD i 0=n:=by rw[zbl,hi];rfl
   rw[e] at hx;have:=qp2 hx;rw[qec] at this;exact⟨a,rfl,this,hx⟩
  ·cases hi
end
theorem cN:Tryz.prog.cellsOf 34=3:=by kernel_rfl
theorem c3:Tryz.prog.cellsOf 3=1:=by kernel_rfl
theorem cB:Tryz.prog.cellsOf 31=1:=by kernel_rfl
theorem cK:Tryz.prog.cellsOf 32=1:=by kernel_rfl
theorem qq5{H:Type}{enc:TypeId×Value->H}{W:World}: ∀(n:Nat) (cs:List Value) (x:DataW H×List MemPlace),DataW.trod enc Tryz.prog W 0 (fun _=>true) true n 34 cs=some x->
  ∃(y:List CV),isTf n y=true/\cs.length=3/\y.length=3/\∀(r:Nat) (c:CV) (v:Value),y[r]? =some c->cs[r]? =some v->oneC v=true/\CRep W (fun b=>b<W.heap.size) c v
 | n,cs,x,h=>by
  obtain⟨xs,m,rfl,hx,hl,hxl,hall⟩:=DataW.trod_struct Tryz.underlying34 h;rw[cN] at hl;have hxl:xs.length=3:=hxl
  match cs,hl,xs,hxl with
  | [v0,v1,v2],_,[x0,x1,x2],_=>
   have h0:=hall 0 _ rfl;have h1:=hall 1 _ rfl;have h2:=hall 2 _ rfl;have h0:DataW.trod enc Tryz.prog W 0 (fun _=>true) true m 3 (([v0,v1,v2].drop 0).take (Tryz.prog.cellsOf 3))=some x0:=h0;have h1:DataW.trod enc Tryz.prog W 0 (fun _=>true) true m 31 (([v0,v1,v2].drop 1).take (Tryz.prog.cellsOf 31))=some x1:=h1;have h2:DataW.trod enc Tryz.prog W 0 (fun _=>true) true m 32 (([v0,v1,v2].drop 2).take (Tryz.prog.cellsOf 32))=some x2:=h2;rw[c3] at h0;rw[cB] at h1;rw[cK] at h2;have h0:DataW.trod enc Tryz.prog W 0 (fun _=>true) true m 3 [v0]=some x0:=h0;have h1:DataW.trod enc Tryz.prog W 0 (fun _=>true) true m 31 [v1]=some x1:=h1;have h2:DataW.trod enc Tryz.prog W 0 (fun _=>true) true m 32 [v2]=some x2:=h2;obtain⟨t,e0,_,_⟩:=DataW.trod_int Tryz.underlying3 h0;obtain⟨vb,b,e1,ob,rb,wb⟩:=xbg5 Tryz.underlying31 Tryz.underlying5 c5 h1;simp only[zbc,and_true] at e0 e1;subst e0 e1;have kids: ∃l:List CV,(∀c∈l, ∃y,c=.agg y/\isTf m y=true)/\oneC v2=true/\CRep W (fun b=>b<W.heap.size) (.slg 3 l) v2:=by
    rcases DataW.trod_slice Tryz.underlying32 h2 with⟨hcs,_⟩|⟨a,len,cap,elems,rest,m',hm,hcs,_,_,hlc,_,hel,hcell,_,_⟩
    ·replace hcs:=(List.cons.inj hcs).1;subst hcs;exact⟨[],fun c hc=>by simp at hc,rfl,.slg 3 [] none 0 0 (fun _=>.nilIface) (fun c hc=>by simp at hc) rfl (zar _) (fun j c hj=>by simp at hj) (fun j c hj=>by simp at hj) (fun j c hj=>by simp at hj)⟩
    ·replace hcs:=(List.cons.inj hcs).1;subst hcs;rw[cN] at hcell;have hch: ∀i,i<len->∃y:List CV,isTf m' y=true/\y.length=3/\∀(r:Nat) (c:CV),y[r]? =some c->∃v,W.cell? (a.add (i*3+r))=some v/\oneC v=true/\CRep W (fun b=>b<W.heap.size) c v:=fun i hi=>by
      have hx:=hcell i hi;rw[zae (by omega:i<elems.length),Option.bind_eq_some_iff] at hx;obtain⟨ci,hci,hti⟩:=hx;obtain⟨y,hy,hcl,hyl,hrep⟩:=qq5 m' ci _ hti;obtain⟨_,_,hcc⟩:=World.cells?_some hci;refine⟨y,hy,hyl,fun r c hr=> ?_⟩;have hr3:r<3:=by have:=(zad.1 hr).1;omega
      obtain⟨v,hv⟩:=qaz (b:=ci) (i:=r) (by omega);have:=hcc r hr3;rw[hv,qw8] at this;obtain⟨o1,o2⟩:=hrep r c v hr hv;exact⟨v,this,o1,o2⟩
     have hg: ∃g:Nat->List CV, ∀i,i<len->isTf m' (g i)=true/\(g i).length=3/\∀(r:Nat) (c:CV),(g i)[r]? =some c->∃v,W.cell? (a.add (i*3+r))=some v/\oneC v=true/\CRep W (fun b=>b<W.heap.size) c v:=
      ⟨fun i=>@dite _ (i<len) (Classical.propDecidable _) (fun h=>Classical.choose (hch i h)) (fun _=>[]),fun i hi=>by
       simp only[];rw[@dif_pos _ (Classical.propDecidable _) hi];exact Classical.choose_spec (hch i hi)⟩
     obtain⟨g,hg⟩:=hg;have hmem: ∀c∈(List.range len).map fun i=>CV.agg (g i),(cell1 c).length=3:=fun c hc=>by obtain⟨i,hi,rfl⟩:=za7.1 hc;exact(hg i (zb2.1 hi)).2.1
     have key: ∀(j:Nat) (c:CV),(((List.range len).map fun i=>CV.agg (g i)).flatMap cell1)[j]? =some c->∃v,W.cell? (a.add j)=some v/\oneC v=true/\CRep W (fun b=>b<W.heap.size) c v:=fun j c hj=>by
      have hlt:=(zad.1 hj).1;rw[qbr hmem,zam,List.length_range] at hlt;have hi:j/ 3<len:=by omega
      have hfl:=qm3 (f:=cell1) (e:=3) (l:=(List.range len).map fun i=>CV.agg (g i)) (i:=j/ 3) (c:=.agg (g (j/ 3))) (j % 3) hmem (by simp[hi]) (zdp _ (by omega));rw[show j/ 3*3+j % 3=j by omega,hj] at hfl;obtain⟨v,h1,h2,h3⟩:=(hg _ hi).2.2 (j % 3) c hfl.symm;rw[show j/ 3*3+j % 3=j by omega] at h1;exact⟨v,h1,h2,h3⟩
     refine⟨(List.range len).map fun i=>CV.agg (g i),fun c hc=> ?_,rfl,.slg 3 _ (some a) len cap (fun j=>(W.cell? (a.add j)).getD .nilIface) hmem (by simp) hlc (fun j c hj=> ?_) (fun j c hj=> ?_) fun j c hj=> ?_⟩
     ·obtain⟨i,hi,rfl⟩:=za7.1 hc;exact⟨_,rfl,xbkh (hg i (zb2.1 hi)).1 (by omega)⟩
     ·obtain⟨v,h1,h2,h3⟩:=key j c hj;have:=qp2 h1;rw[qec] at this;exact⟨a,rfl,this,by rw[h1];rfl⟩
     ·obtain⟨v,h1,h2,h3⟩:=key j c hj;rw[h1];exact h2
     ·obtain⟨v,h1,h2,h3⟩:=key j c hj;rw[h1];exact h3
   obtain⟨l,hk,ok2,rk2⟩:=kids;refine⟨[.int .i64 t,.sli .u8 b,.slg 3 l],xbum (fun z hz=>xbd4 (wb z hz)) hk,rfl,rfl,fun r c v hr hv=> ?_⟩
   match r,hr,hv with
   | 0,hr,hv=>cases hr;cases hv;exact⟨rfl,.int ..⟩
   | 1,hr,hv=>cases hr;cases hv;exact⟨ob,rb⟩
   | 2,hr,hv=>cases hr;cases hv;exact⟨ok2,rk2⟩
   | r+3,hr,hv=>simp at hr
theorem xbgb{H:Type}{enc:TypeId×Value->H}{W:World}{b0:Nat}{v:Value}{d:DataW H}{ps:List MemPlace}(hval:Value.okWide Tryz.prog W .any b0 34 v)(h:DataW.Trod enc Tryz.prog W 0 (fun _=>true) true 34 v d ps):
  ∃a:List CV,CRep W (fun b=>b<W.heap.size) (.agg a) v/\isT a=true:=by
 obtain⟨cs,rfl,hcs⟩:=okWide_struct Tryz.underlying34 hval;obtain⟨n,h⟩:=h;have h:DataW.trod enc Tryz.prog W 0 (fun _=>true) true n 34 cs.toList=some (d,ps):=h;obtain⟨y,hy,hl,hyl,hrep⟩:=qq5 n cs.toList _ h;refine⟨y, ?_,xbi8 hy⟩;have:CRep W (fun b=>b<W.heap.size) (.agg y) (.agg cs.toList.toArray):=.agg y cs.toList (by omega) (fun v hv=> ?_) fun j c v hj hv=>(hrep j c v hj hv).2
 ·simpa using this
 ·obtain⟨r,hr⟩:=zb1.1 hv;have hr3:=(zad.1 hr).1;obtain⟨c,hc⟩:=qaz (b:=y) (i:=r) (by omega);exact(hrep r c v hc hr).1
open Go.ChangeShapes Go.WideShapes Go.ChangeAt Go.RowKit
theorem xbff{W:World}(h1:Lib.VarReads Tryz.prog W "unicode/utf8.first" Go.Pinned.utf8First)(h2:Lib.VarReads Tryz.prog W "unicode/utf8.acceptRanges" xbhl): ∀g c,qa8 g=some c->CRep W (fun b=>b<W.heap.size) (.vp c 0 0) (.pointer (some ⟨g,0,none⟩)):=by
 intro g c h;unfold qa8 at h
 cases hb:Nat.beq g 1 with
 | true=>
  rw[hb] at h;obtain rfl:=qag.1 hb;cases h;exact xblp (q6j h1)
 | false=>
  rw[hb] at h
  cases hb':Nat.beq g 2 with
  | true=>
   rw[hb'] at h;obtain rfl:=qag.1 hb';cases h;exact xbet (q0t h2)
  | false=>rw[hb'] at h;cases h
open Go.ChangeShapes Go.WideShapes Go.ChangeAt Go.RowKit
section
variable {H:Type} {enc:TypeId×Value->H}
theorem qtq{P:Program}{e:TypeId}: ∀ {ds:List (DataW H)} {d:DataW H},d∈ds->∀n∈d.weights P e,n∈DataW.weightsAll P e ds
 | [],d,h,_,_=>by simp at h
 | d0::r,d,h,n,hn=>by
  simp only[DataW.weightsAll,zak];rcases zas.1 h with rfl|h
  ·exact .inl hn
  ·exact .inr (qtq h n hn)
def Sz(e:TypeId)(d:DataW H):Prop:=(d.weights Tryz.prog e).all (· <=reachBytes)=true
def Cel(W:World)(es:Nat)(Q:CV->Prop)(ci:List Value):Prop:= ∃c:CV,Q c/\ci.length=es/\(cell1 c).length=es/\∀(r:Nat) (c':CV) (v:Value),(cell1 c)[r]? =some c'->ci[r]? =some v->oneC v=true/\CRep W (fun b=>b<W.heap.size) c' v
theorem q40{W:World}{n es:Nat}{t e:TypeId}{Q:CV->Prop}{cs:List Value}{x:DataW H×List MemPlace}(ht:Tryz.prog.underlying t=some (.slice e))(hc:Tryz.prog.cellsOf e=es)(hpos:0<es)(hel: ∀(m:Nat) (ci:List Value) (y:DataW H×List MemPlace),DataW.trod enc Tryz.prog W 0 (fun _=>true) true m e ci=some y->Sz e y.1->Cel W es Q ci)(hw:Sz t x.1)(h:DataW.trod enc Tryz.prog W 0 (fun _=>true) true n t cs=some x):
  ∃(v:Value) (l:List CV),cs=[v]/\oneC v=true/\CRep W (fun b=>b<W.heap.size) (.slg es l) v/\∀c∈l,Q c:=by
 rcases DataW.trod_slice ht h with⟨hcs,_⟩|⟨a,len,cap,elems,rest,m',hm,hcs,hx,_,hlc,_,hel',hcell,_,_⟩
 ·exact⟨_,[],hcs,rfl,.slg es [] none 0 0 (fun _=>.nilIface) (fun c hc=>by simp at hc) rfl (zar _) (fun j c hj=>by simp at hj) (fun j c hj=>by simp at hj) (fun j c hj=>by simp at hj),fun c hc=>by simp at hc⟩
 ·rw[hc] at hcell;have hw:(DataW.weights Tryz.prog t (.slice (elems.map (·.1)) (rest.map (·.1)))).all (· <=reachBytes)=true:=by rw[hx] at hw;exact hw
  have hsz: ∀y∈elems,Sz e y.1:=fun y hy=>by unfold Sz;rw[zai] at hw ⊢;intro k hk;refine hw k ?_;simp only[DataW.weights,ht,zas,zak];exact .inr (.inl (qtq (List.mem_map_of_mem hy) k hk))
  have hch: ∀i,i<len->∃c:CV,Q c/\(cell1 c).length=es/\∀(r:Nat) (c':CV),(cell1 c)[r]? =some c'->∃v,W.cell? (a.add (i*es+r))=some v/\oneC v=true/\CRep W (fun b=>b<W.heap.size) c' v:=fun i hi=>by
   have hx:=hcell i hi;rw[zae (by omega:i<elems.length),Option.bind_eq_some_iff] at hx;obtain⟨ci,hci,hti⟩:=hx;obtain⟨c,hQ,hcl,hyl,hrep⟩:=hel m' ci _ hti (hsz _ (zch _));obtain⟨_,_,hcc⟩:=World.cells?_some hci;refine⟨c,hQ,hyl,fun r c' hr=> ?_⟩;have hr3:r<es:=by have:=(zad.1 hr).1;omega
   obtain⟨v,hv⟩:=qaz (b:=ci) (i:=r) (by omega);have:=hcc r hr3;rw[hv,qw8] at this;obtain⟨o1,o2⟩:=hrep r c' v hr hv;exact⟨v,this,o1,o2⟩
  have hg: ∃g:Nat->CV, ∀i,i<len->Q (g i)/\(cell1 (g i)).length=es/\∀(r:Nat) (c':CV),(cell1 (g i))[r]? =some c'->∃v,W.cell? (a.add (i*es+r))=some v/\oneC v=true/\CRep W (fun b=>b<W.heap.size) c' v:=
   ⟨fun i=>@dite _ (i<len) (Classical.propDecidable _) (fun h=>Classical.choose (hch i h)) (fun _=>.nili),fun i hi=>by
    simp only[];rw[@dif_pos _ (Classical.propDecidable _) hi];exact Classical.choose_spec (hch i hi)⟩
  obtain⟨g,hg⟩:=hg;have hmem: ∀c∈(List.range len).map g,(cell1 c).length=es:=fun c hc=>by obtain⟨i,hi,rfl⟩:=za7.1 hc;exact(hg i (zb2.1 hi)).2.1
  have key: ∀(j:Nat) (c:CV),(((List.range len).map g).flatMap cell1)[j]? =some c->∃v,W.cell? (a.add j)=some v/\oneC v=true/\CRep W (fun b=>b<W.heap.size) c v:=fun j c hj=>by
   have hlt:=(zad.1 hj).1;rw[qbr hmem,zam,List.length_range] at hlt;have hi:j/ es<len:=Nat.div_lt_of_lt_mul (by rw[Nat.mul_comm];exact hlt);have hdm:j/ es*es+j % es=j:=by rw[Nat.mul_comm];exact Nat.div_add_mod j es
   have hfl:=qm3 (f:=cell1) (e:=es) (l:=(List.range len).map g) (i:=j/ es) (c:=g (j/ es)) (j % es) hmem (by simp[hi]) (zdp _ hpos);rw[hdm,hj] at hfl;obtain⟨v,h1,h2,h3⟩:=(hg _ hi).2.2 (j % es) c hfl.symm;rw[hdm] at h1;exact⟨v,h1,h2,h3⟩
  refine⟨_,(List.range len).map g,hcs,rfl,.slg es _ (some a) len cap (fun j=>(W.cell? (a.add j)).getD .nilIface) hmem (by simp) hlc (fun j c hj=> ?_) (fun j c hj=> ?_) (fun j c hj=> ?_),fun c hc=> ?_⟩
  ·obtain⟨v,h1,h2,h3⟩:=key j c hj;have:=qp2 h1;rw[qec] at this;exact⟨a,rfl,this,by rw[h1];rfl⟩
  ·obtain⟨v,h1,h2,h3⟩:=key j c hj;rw[h1];exact h2
  ·obtain⟨v,h1,h2,h3⟩:=key j c hj;rw[h1];exact h3
  ·obtain⟨i,hi,rfl⟩:=za7.1 hc;exact(hg i (zb2.1 hi)).1
theorem xbhf{W:World}{n:Nat}{cs:List Value}{x:DataW H×List MemPlace}(hw:Sz 36 x.1)(h:DataW.trod enc Tryz.prog W 0 (fun _=>true) true n 36 cs=some x):
  ∃(v:Value) (l:List Int),cs=[v]/\oneC v=true/\CRep W (fun b=>b<W.heap.size) (.sli .u32 l) v/\xbdy l:=by
 rcases open_ints Tryz.underlying36 Tryz.underlying59 (by kernel_rfl) h with⟨hcs,_⟩|⟨a,len,cap,zs,hcs,_,hl,_,hz,hx,hcell,hwf⟩
 ·exact⟨_,[],hcs,rfl,.sli _ _ _ _ _ rfl (zar _) (fun i n hi=>by simp at hi),by simp,by simp⟩
 ·have hz:zs.length=cap:=hz;have hb:Tryz.prog.bytesOf 59=4:=by kernel_rfl
  have hlen:len*4<=reachBytes:=by obtain⟨d,ps⟩:=x;have hd:=(Prod.mk.inj hx).1;subst hd;have h1:=zai.1 hw _ (by simp only[DataW.weights,Tryz.underlying36];exact zbj ..);have h1:=of_decide_eq_true h1;rw[hb] at h1;unfold lits at h1;simp only[zam,zbp,zat] at h1;omega
  have h2:=reachBytes_lt;refine⟨_,zs.take len,hcs,rfl,.sli _ _ _ _ _ (by simp;omega) hl fun i n hi=> ?_,by rw[zbp];omega,fun n hn=>qtr (hwf n (zba hn))⟩;rw[zcy] at hi;split at hi
  ·rename_i hlt;have hlz:i<zs.length:=by omega
   have hx:=hcell i hlz;have e:zs.getD i 0=n:=by rw[zbl,hi];rfl
   rw[e] at hx;have:=qp2 hx;rw[qec] at this;exact⟨a,rfl,this,hx⟩
  ·cases hi
theorem cA:Tryz.prog.cellsOf 54=2:=by kernel_rfl
theorem cO:Tryz.prog.cellsOf 36=1:=by kernel_rfl
theorem xblf{W:World}(m:Nat)(cs:List Value)(x:DataW H×List MemPlace)(h:DataW.trod enc Tryz.prog W 0 (fun _=>true) true m 54 cs=some x)(hw:Sz 54 x.1):Cel W 2 WT cs:=by
 obtain⟨xs,m,rfl,hx,hl,hxl,hall⟩:=DataW.trod_struct Tryz.underlying54 h;rw[cA] at hl;have hxl:xs.length=2:=hxl
 match cs,hl,xs,hxl with
 | [v0,v1],_,[x0,x1],_=>
  have hw:(DataW.weights Tryz.prog 54 (.agg [x0.1,x1.1])).all (· <=reachBytes)=true:=by rw[hx] at hw;exact hw
  have hwe: ∀(j:Nat) (t:TypeId) (d:DataW H),[36,32][j]? =some t->[x0.1,x1.1][j]? =some d->Sz t d:=fun j t d ht hd=>by unfold Sz;rw[zai] at hw ⊢;intro n hn;refine hw n ?_;simp only[DataW.weights,Tryz.underlying54];exact DataW.weights_mem_each ht hd n hn
  have h0:=hall 0 _ rfl;have h1:=hall 1 _ rfl;have h0:DataW.trod enc Tryz.prog W 0 (fun _=>true) true m 36 (([v0,v1].drop 0).take (Tryz.prog.cellsOf 36))=some x0:=h0;have h1:DataW.trod enc Tryz.prog W 0 (fun _=>true) true m 32 (([v0,v1].drop 1).take (Tryz.prog.cellsOf 32))=some x1:=h1;rw[cO] at h0;rw[cK] at h1;have h0:DataW.trod enc Tryz.prog W 0 (fun _=>true) true m 36 [v0]=some x0:=h0;have h1:DataW.trod enc Tryz.prog W 0 (fun _=>true) true m 32 [v1]=some x1:=h1;obtain⟨vo,o,e0,oo,ro,ho⟩:=xbhf (hwe 0 _ _ rfl rfl) h0;obtain⟨vk,k,e1,ok,rk,hk⟩:=q40 (Q:=fun v=> ∃t b q,v=.agg [.int .i64 t,.sli .u8 b,.slg 3 q]/\isT [.int .i64 t,.sli .u8 b,.slg 3 q]=true) Tryz.underlying32 cN (by omega) (fun m ci y hy _=>by
   obtain⟨z,hz,z1,z2,z3⟩:=qq5 m ci y hy;obtain⟨_,t,b,q,_,rfl,_⟩:=qch hz;exact⟨.agg _,⟨t,b,q,rfl,xbi8 hz⟩,z1,z2,z3⟩) (hwe 1 _ _ rfl rfl) h1
  simp only[zbc,and_true] at e0 e1;subst e0 e1;refine⟨mkA o k,⟨o,k,rfl,ho,hk⟩,rfl,rfl,fun r c' v hc' hv=> ?_⟩
  match r,hc',hv with
  | 0,hc',hv=>cases hc';cases hv;exact⟨oo,ro⟩
  | 1,hc',hv=>cases hc';cases hv;exact⟨ok,rk⟩
  | r+2,hc',hv=>simp at hv
theorem xbbl{W:World}{b0:Nat}{v:Value}{d:DataW H}{ps:List MemPlace}{ts:List TypeId}{ds:List (DataW H)}{j:Nat}(hwt:(DataW.weightsEach Tryz.prog ts ds).all (· <=reachBytes)=true)(hj:ts[j]? =some 22)(hd:ds[j]? =some d)(hval:Value.okWide Tryz.prog W .any b0 22 v)(h:DataW.Trod enc Tryz.prog W 0 (fun _=>true) true 22 v d ps): ∃a:List CV,CRep W (fun b=>b<W.heap.size) (.slg 2 a) v/\q6c a=true:=by
 obtain⟨n,h⟩:=h;obtain⟨a0,len0,cap0,rfl⟩:=okWide_slice Tryz.underlying22 hval;have hw:Sz 22 d:=by unfold Sz;rw[zai] at hwt ⊢;exact fun n hn=>hwt n (DataW.weights_mem_each hj hd n hn)
 obtain⟨v,l,e1,ob,rb,hq⟩:=q40 Tryz.underlying22 cA (by omega) xblf hw h;replace e1:=(List.cons.inj e1).1;have e1:Value.slice a0 len0 cap0=v:=e1;rw[e1];exact⟨l,rb,quw.2 hq⟩
end
theorem xbqs{a:List CV}(h:isT a=true): ∃t b k,a=[.int .i64 t,.sli .u8 b,.slg 3 k]:=by obtain⟨n,hn⟩:=qh8 h;obtain⟨_,t,b,k,_,e,_⟩:=qch hn;exact⟨t,b,k,e⟩
theorem xbhe{l:List Int}(hw: ∀n∈l,(Lit.int .u32 n).wf=true):u32Any l=true:=by unfold u32Any;rw[qab,zai];exact fun x hx=>decide_eq_true (qtr (hw x hx))
end Go.Proofs.YtoiikagnjcjccaaGreatDoorA
