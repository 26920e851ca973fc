/-
 A law's contract is its row's step, where the row lists variables; data that stay; what comes in. Conditions: none.
-/
import Derived.Test.YtoaakappnhemiaaGreatDoorK3
import Derived.WideKeyArgs
import Derived.Lib.LaidU8
import Derived.LaidLaws
import Derived.SizedLaws
import Derived.ChangeSlices
import Derived.Test.YtoaakappnhemiaaGreatDoorT5
import Derived.ChangeArms
import GoSem.PinnedTables
set_option linter.unusedVariables false
set_option linter.unusedSimpArgs false
set_option maxRecDepth 100000
set_option linter.defProp false
namespace Go.Proofs.YtoaakappnhemiaaGreatDoorA
open Go.ChangeShapes Go.WideShapes Go.ChangeAt Go.RowKit
def Still(W W':World):Prop:=Stays W W'/\∀b:Nat,b<W.heap.size->W'.heap[b]? =W.heap[b]?
def xbtj{glob:Nat->Option CV}{W:World}{xs:LV}{vs:List Value}(hg: ∀g c,glob g=some c->CRep W (fun b=>b<W.heap.size) (.vp c 0 0) (.pointer (some ⟨g,0,none⟩)))(h:RepL W (fun b=>b<W.heap.size) (fun _=>none) (fun _=>none) xs vs):Pre glob W (fun b=>b<W.heap.size) (fun _=>none) (fun _=>False) xs [] vs:=by refine⟨by simp,h,⟨fun b hb=>hb,fun b hb=>hb,fun p o hp=>(by cases hp),fun p q o o' b x y x' y' hp=>(by cases hp),fun p o b x y hp=>(by cases hp),fun b hb=>.inl hb⟩,hg⟩
def xbf9{glob:Nat->Option CV}{P:Program}{g:FuncId}{fn:Func}{S:FSpec}(hs:Sound P glob g S)(hf:P.funcs[g]? =some fn)(hn:(fn.name== "runtime.NumGoroutine")=false)(hb:fn.body.isSome=true){xs:LV}{vs:List Value}{W:World}(hg: ∀g c,glob g=some c->CRep W (fun b=>b<W.heap.size) (.vp c 0 0) (.pointer (some ⟨g,0,none⟩)))(hS:S xs []=some (.ret [.cl (.bool true)] []))(h:RepL W (fun b=>b<W.heap.size) (fun _=>none) (fun _=>none) xs vs):Calls P g vs.toArray W fun e W'=>e=.returned (.bool true)/\Still W W':=by
 have hr:=hs xs [] _ W _ _ _ vs hS (xbtj hg h);have key: ∀e W',Ends W (fun b=>b<W.heap.size) (fun _=>none) (fun _=>False) [] (.ret [.cl (.bool true)] []) e W'->e=.returned (.bool true)/\Still W W':=fun e W' he=>by
  obtain⟨us,Im',ρ',rfl,hp,hl,hv⟩:=he;refine⟨?_,xbz0 hp.fr,fun b hb=>hp.fr.block b hb fun f=>f⟩
  match us,hl with
  | [u],_=>
   have:=hv 0 _ u rfl rfl;have:=this.bool;rw[this];rfl
 rcases hr with⟨_,hc⟩|⟨v,w',h1,_⟩
 ·exact hc.mono fun e W' he=>key e W' he
 ·exfalso;obtain⟨c,hc⟩:=zax.1 hb;have hn': ¬fn.name= "runtime.NumGoroutine" :=by simpa using hn
  simp[callFunc,hf,hn',hc] at h1
def xbi1{W W':World}(h:Still W W'){p:MemPlace}(hp:p.block<W.heap.size):W.sameAt W' p:=by
 cases p with
 | cell b o=>
  show W'.cell? ⟨b,o,none⟩=W.cell? ⟨b,o,none⟩;unfold World.cell?;rw[h.2 b hp]
 | map b=>exact h.2 b hp
section
variable {H:Type} {enc:TypeId×Value->H} {P:Program}
def qqw{W W':World}(hl:laidOutB P=true){sp:Nat->Bool}: ∀ {ts:List TypeId} {vs:List Value} {ds:List (DataW H)} {ps:List MemPlace},(∀t∈ts,P.readableRec t=true/\t<P.types.size)->DataW.TrodAll enc P W 0 (fun _=>true) true ts vs ds ps->(∀p∈ps,W.sameAt W' p)->(∀p∈ps,sp p.block=true)->DataW.TrodAll enc P W' 0 sp true ts vs ds ps
 | [],vs,ds,ps,_,h,_,_=>by obtain⟨rfl,rfl,rfl⟩:=trodAll_nil h;exact trodAll_mk0
 | t::ts,vs,ds,ps,ht,h,hs,hp=>by obtain⟨v,vs',d,ds',p,q,rfl,rfl,rfl,h1,h2⟩:=trodAll_cons h;refine trodAll_cons_mk (WideElems.Trod_stays hl (ht t (by simp)).1 (ht t (by simp)).2 h1 (fun x hx=>hs x (by simp[hx])) fun x hx=>hp x (by simp[hx])) (qqw hl (fun t' ht'=>ht t' (by simp[ht'])) h2 (fun x hx=>hs x (by simp[hx])) fun x hx=>hp x (by simp[hx]))
def qsz{W:World}{a:Addr}{v:Value}(h:W.cell? a=some v):a.block<W.heap.size:=by
 unfold World.cell? at h;split at h
 ·rename_i h1;exact(zcy.1 h1).1
 ·cases h
end
section
variable {H:Type} {enc:TypeId×Value->H} {P:Program}
def xbma{W:World}{b0:Nat}{t e:TypeId}{k:IntKind}{v:Value}{d:DataW H}{ps:List MemPlace}(ht:P.underlying t=some (.slice e))(he:P.underlying e=some (.int k))(hc:P.cellsOf e=1)(hval:Value.okWide P W .any b0 t v)(h:DataW.Trod enc P W 0 (fun _=>true) true t v d ps): ∃l:LI,CRep W (fun b=>b<W.heap.size) (.sli k l) v/\(∀n∈l,(Lit.int k n).wf=true)/\(l=[]\/∃es sp,d=.slice es sp/\es.length=l.length):=by
 obtain⟨a0,len0,cap0,rfl⟩:=okWide_slice ht hval;obtain⟨n,h⟩:=h;rcases open_ints ht he hc h with⟨hcs,_⟩|⟨a,len,cap,zs,hcs,_,hl,_,hz,hx,hcell,hw⟩
 ·have hcs:[Value.slice a0 len0 cap0]=[.slice none 0 0]:=hcs;simp only[zcg,Value.slice.injEq,and_true] at hcs;obtain⟨rfl,rfl,rfl⟩:=hcs;exact⟨[],.sli _ _ _ _ _ rfl (zap _) fun i n hi=>by simp at hi,fun n hn=>(by simp at hn),.inl rfl⟩
 ·have hcs:[Value.slice a0 len0 cap0]=[.slice (some a) len cap]:=hcs;simp only[zcg,Value.slice.injEq,and_true] at hcs;obtain⟨rfl,rfl,rfl⟩:=hcs;have hz:zs.length=cap0:=hz;refine⟨zs.take len0,.sli _ _ _ _ _ (by simp;omega) hl fun i n hi=> ?_,fun n hn=>hw n (zbh hn),.inr ⟨_,_,(Prod.mk.inj hx).1,by unfold lits;rw[zau]⟩⟩;rw[zc5] at hi;split at hi
  ·rename_i hlt;have hlz:i<zs.length:=by omega
   have hx:=hcell i hlz;have e:zs.getD i 0=n:=by rw[za6,hi];rfl
   rw[e] at hx;have:=qsz hx;rw[qgh] at this;exact⟨a,rfl,this,hx⟩
  ·cases hi
def xb4d{ts:List TypeId}{ds:List (DataW H)}(hw:(DataW.weightsEach P ts ds).all (· <=reachBytes)=true){j:Nat}{t e:TypeId}{d:DataW H}{l:LI}(ht:ts[j]? =some t)(hd:ds[j]? =some d)(hu:P.underlying t=some (.slice e))(hb:1<=P.bytesOf e)(h:l=[]\/∃es sp,d=.slice es sp/\es.length=l.length):l.length<=1000000000000000:=by
 rcases h with rfl|⟨es,sp,rfl,hl⟩
 ·simp
 ·have h1:=sized_slice hw ht hd hu;have h2:=reachBytes_lt;have h3:es.length<=(es.length+sp.length)*P.bytesOf e:=by have:(es.length+sp.length)*1<=(es.length+sp.length)*P.bytesOf e:=Nat.mul_le_mul_left _ hb;omega
  omega
end
open Go.ChangeShapes Go.WideShapes Go.ChangeAt Go.RowKit
def xbsk{W:World}(h: ∀(i:Nat) (x:Int),qh3[i]? =some x->W.cell? ⟨0,i,none⟩=some (.int .u8 x)):CRep W (fun b=>b<W.heap.size) (.vp (.aggi 256 .u8 u8First) 0 0) (.pointer (some ⟨0,0,none⟩)):=by
 have e:u8First=qh3:=qab _;rw[e];have h0:=qsz (h 0 240 rfl);refine CRep.vp (.aggi 256 .u8 qh3) 0 0 1 (qh3.map (.int .u8)) 0 0 (fun i=>.int .u8 (qh3.getD i 0)) rfl rfl h0 (fun j c hj=> ?_) (fun j c hj=>rfl) (fun j c hj=> ?_)
 ·rw[zah] at hj;obtain⟨x,hx,rfl⟩:=zam.1 hj;rw[zay,h j x hx,za6,hx];rfl
 ·rw[zah] at hj;obtain⟨x,hx,rfl⟩:=zam.1 hj;rw[za6,hx];exact .int ..
def qh7:LI:=[128,191,160,191,128,159,144,191,128,143]++List.replicate 22 0
def xbj8{W:World}(h: ∀(i:Nat) (x:Int),qh7[i]? =some x->W.cell? ⟨1,i,none⟩=some (.int .u8 x)):CRep W (fun b=>b<W.heap.size) (.vp (.agga 16 2 u8Accept) 0 0) (.pointer (some ⟨1,0,none⟩)):=by
 have e:u8Accept=qmg:=qab _;rw[e];have h0:=qsz (h 0 128 rfl);have ef:qmg.flatMap cell1=qh7.map (.int .u8):=rfl;refine CRep.vp (.agga 16 2 qmg) 0 0 2 (qh7.map (.int .u8)) 1 0 (fun i=>.int .u8 (qh7.getD i 0)) (by rw[<- ef];rfl) ⟨rfl,fun c hc=> ?_⟩ h0 (fun j c hj=> ?_) (fun j c hj=>rfl) (fun j c hj=> ?_)
 ·unfold qmg at hc;obtain⟨p,_,rfl⟩:=zbo.1 hc;rfl
 ·rw[zah] at hj;obtain⟨x,hx,rfl⟩:=zam.1 hj;rw[zay,h j x hx,za6,hx];rfl
 ·rw[zah] at hj;obtain⟨x,hx,rfl⟩:=zam.1 hj;rw[za6,hx];exact .int ..
def xbnw:DataW Unit:=.agg [.agg [.lit (.int .u8 128),.lit (.int .u8 191)],.agg [.lit (.int .u8 160),.lit (.int .u8 191)],.agg [.lit (.int .u8 128),.lit (.int .u8 159)],.agg [.lit (.int .u8 144),.lit (.int .u8 191)],.agg [.lit (.int .u8 128),.lit (.int .u8 143)],.agg [.lit (.int .u8 0),.lit (.int .u8 0)],.agg [.lit (.int .u8 0),.lit (.int .u8 0)],.agg [.lit (.int .u8 0),.lit (.int .u8 0)],.agg [.lit (.int .u8 0),.lit (.int .u8 0)],.agg [.lit (.int .u8 0),.lit (.int .u8 0)],.agg [.lit (.int .u8 0),.lit (.int .u8 0)],.agg [.lit (.int .u8 0),.lit (.int .u8 0)],.agg [.lit (.int .u8 0),.lit (.int .u8 0)],.agg [.lit (.int .u8 0),.lit (.int .u8 0)],.agg [.lit (.int .u8 0),.lit (.int .u8 0)],.agg [.lit (.int .u8 0),.lit (.int .u8 0)]]
def xbyl:Tryz.prog.globalNamed "unicode/utf8.first" =some 0:=by kernel_rfl
def xbn8:Tryz.prog.globalNamed "unicode/utf8.acceptRanges" =some 1:=by kernel_rfl
def xb8s:(Tryz.prog.globals[0]?).map (·.type)=some 200:=by kernel_rfl
def xb4h:(Tryz.prog.globals[1]?).map (·.type)=some 203:=by kernel_rfl
def c5:Tryz.prog.cellsOf 5=1:=by kernel_rfl
def c200:Tryz.prog.cellsOf 200=256:=by kernel_rfl
def c202:Tryz.prog.cellsOf 202=2:=by kernel_rfl
def xbmf:Go.Pinned.utf8First=Lib.tabData .u8 qh3:=by kernel_rfl
def xbak{W:World}(h:Lib.VarReads Tryz.prog W "unicode/utf8.first" Go.Pinned.utf8First)(i:Nat)(x:Int)(hx:qh3[i]? =some x):W.cell? ⟨0,i,none⟩=some (.int .u8 x):=by obtain⟨g,t,cs,fuel,p,hg,ht,hv,hd⟩:=h;obtain rfl:=zci (xbyl.symm.trans hg);obtain rfl:=zci (xb8s.symm.trans ht);rw[xbmf] at hd;have hcs:=Lib.cells_of_tab Tryz.underlying200 Tryz.underlying5 c5 c200 hd;rw[World.var?_cell xbyl hv i, <- zcl,hcs,zah,hx];rfl
def q5h{W:World}(h:Lib.VarReads Tryz.prog W "unicode/utf8.acceptRanges" xbnw)(i:Nat)(x:Int)(hx:qh7[i]? =some x):W.cell? ⟨1,i,none⟩=some (.int .u8 x):=by
 obtain⟨g,t,cs,fuel,p,hg,ht,hv,hd⟩:=h;obtain rfl:=zci (xbn8.symm.trans hg);obtain rfl:=zci (xb4h.symm.trans ht);have hi:i<32:=(zae.1 hx).1;rw[World.var?_cell xbn8 hv i, <- zcl];obtain⟨fuel',d,q,hdd,hf⟩:=Lib.array_elem Tryz.underlying203 hd (i/ 2) (by omega);rw[c202] at hf;have hz:d=.agg ([qh7.getD (2*(i/ 2)) 0,qh7.getD (2*(i/ 2)+1) 0].map fun z=>.lit (.int .u8 z)):=by
  have hall: ∀j:Fin 16,([.agg [.lit (.int .u8 128),.lit (.int .u8 191)],.agg [.lit (.int .u8 160),.lit (.int .u8 191)],.agg [.lit (.int .u8 128),.lit (.int .u8 159)],.agg [.lit (.int .u8 144),.lit (.int .u8 191)],.agg [.lit (.int .u8 128),.lit (.int .u8 143)],.agg [.lit (.int .u8 0),.lit (.int .u8 0)],.agg [.lit (.int .u8 0),.lit (.int .u8 0)],.agg [.lit (.int .u8 0),.lit (.int .u8 0)],.agg [.lit (.int .u8 0),.lit (.int .u8 0)],.agg [.lit (.int .u8 0),.lit (.int .u8 0)],.agg [.lit (.int .u8 0),.lit (.int .u8 0)],.agg [.lit (.int .u8 0),.lit (.int .u8 0)],.agg [.lit (.int .u8 0),.lit (.int .u8 0)],.agg [.lit (.int .u8 0),.lit (.int .u8 0)],.agg [.lit (.int .u8 0),.lit (.int .u8 0)],.agg [.lit (.int .u8 0),.lit (.int .u8 0)]]:List (DataW Unit))[j.val]? =some (.agg ([qh7.getD (2*j.val) 0,qh7.getD (2*j.val+1) 0].map fun z=>.lit (.int .u8 z))):=by
   intro ⟨j,hj⟩;have hj':j=0\/j=1\/j=2\/j=3\/j=4\/j=5\/j=6\/j=7\/j=8\/j=9\/j=10\/j=11\/j=12\/j=13\/j=14\/j=15:=by omega
   rcases hj' with rfl|rfl|rfl|rfl|rfl|rfl|rfl|rfl|rfl|rfl|rfl|rfl|rfl|rfl|rfl|rfl<;>rfl
  have:=hall ⟨i/ 2,by omega⟩;exact zci (hdd.symm.trans this)
 rw[hz] at hf;have hcs:=Lib.ints_of_struct Tryz.underlying202 (fun j f hj=>by
  match j,hj with
  | 0,hj=>cases hj;exact⟨Tryz.underlying5,rfl,c5⟩
  | 1,hj=>cases hj;exact⟨Tryz.underlying5,rfl,c5⟩
  | j+2,hj=>simp at hj) c202 hf
 have hget:=congrArg (·[i % 2]?) hcs;simp only[zc5,zbv] at hget;rw[yc (by omega),show i/ 2*2+i % 2=i by omega] at hget;rw[hget];have hxd:qh7.getD i 0=x:=by rw[za6,hx];rfl
 rcases Nat.mod_two_eq_zero_or_one i with h2|h2
 ·rw[h2];show some (Value.int .u8 (qh7.getD (2*(i/ 2)) 0))=_;rw[show 2*(i/ 2)=i by omega,hxd]
 ·rw[h2];show some (Value.int .u8 (qh7.getD (2*(i/ 2)+1) 0))=_;rw[show 2*(i/ 2)+1=i by omega,hxd]
def xbzv(l:LI):Go.Obj->Go.Obj
 | .cells _ t fr=>.cells (l.map (Value.int .u8)).toArray t fr
 | o=>o
def xb6d(h:Array Go.Obj):Array Go.Obj:=(h.modify 0 (xbzv qh3)).modify 1 (xbzv qh7)
section
variable {H:Type} {enc:TypeId×Value->H} {P:Program}
def q9k{W:World}{n:Nat}{t e:TypeId}{k:IntKind}{cs:List Value}{x:DataW H×List MemPlace}(ht:P.underlying t=some (.slice e))(he:P.underlying e=some (.int k))(hc:P.cellsOf e=1)(h:DataW.trod enc P W 0 (fun _=>true) true n t cs=some x): ∃(v:Value) (l:LI),cs=[v]/\oneC v=true/\CRep W (fun b=>b<W.heap.size) (.sli k l) v/\∀n∈l,(Lit.int k n).wf=true:=by
 rcases open_ints ht he hc h with⟨hcs,_⟩|⟨a,len,cap,zs,hcs,_,hl,_,hz,_,hcell,hw⟩
 ·exact⟨_,[],hcs,rfl,.sli _ _ _ _ _ rfl (zap _) fun i n hi=>by simp at hi,fun n hn=>by simp at hn⟩
 ·have hz:zs.length=cap:=hz;refine⟨_,zs.take len,hcs,rfl,.sli _ _ _ _ _ (by simp;omega) hl fun i n hi=> ?_,fun n hn=>hw n (zbh hn)⟩;rw[zc5] at hi;split at hi
  ·rename_i hlt;have hlz:i<zs.length:=by omega
   have hx:=hcell i hlz;have e:zs.getD i 0=n:=by rw[za6,hi];rfl
   rw[e] at hx;have:=qsz hx;rw[qgh] at this;exact⟨a,rfl,this,hx⟩
  ·cases hi
end
def c3:Tryz.prog.cellsOf 3=1:=by kernel_rfl
def cB:Tryz.prog.cellsOf 22=1:=by kernel_rfl
open Go.ChangeShapes Go.WideShapes Go.ChangeAt Go.RowKit
def xbnx{W:World}{g m es:Nat}{k:IntKind}{l:LC}{L:LI}{z:Int}(hfl:qz9 (.agga m es l)=some (es,L.map (CV.int k)))(hu:uni (.agga m es l))(h: ∀(i:Nat) (x:Int),L[i]? =some x->W.cell? ⟨g,i,none⟩=some (.int k x))(h0:L[0]? =some z):
  CRep W (fun b=>b<W.heap.size) (.vp (.agga m es l) 0 0) (.pointer (some ⟨g,0,none⟩)):=by
 have hlt:=qsz (h 0 z h0);have:=CRep.vp (w:=W) (Im:=fun b=>b<W.heap.size) (.agga m es l) 0 0 es (L.map (.int k)) g 0 (fun i=>.int k (L.getD i 0)) hfl hu hlt (fun j c hj=> ?_) (fun j c hj=>rfl) (fun j c hj=> ?_)
 ·simpa using this
 ·rw[zah] at hj;obtain⟨x,hx,rfl⟩:=zam.1 hj;rw[zay,h j x hx,za6,hx];rfl
 ·rw[zah] at hj;obtain⟨x,hx,rfl⟩:=zam.1 hj;rw[za6,hx];exact .int ..
def q65:List LI:=[[1,3,1,0,1,1],[4,2,1,0,8,2],[6,2,1,0,11,1],[11,3,2,1,17,1],[33,2,2,5,1,1],[41,1,2,4,17,1],[51,3,3,2,1,1],[61,3,4,4,28,1],[71,3,5,3,5,20],[81,3,6,3,2,20],[91,3,7,3,6,20]]
def q0b:LI:=q65.flatten
def qrz:LI:=qoa.flatten
def xb9q{H:Type}:DataW H:=.agg (q65.map fun l=>.agg (l.map fun z=>.lit (.int .i64 z)))
def xb4c{H:Type}:DataW H:=.agg (qoa.map fun l=>.agg (l.map fun z=>.lit (.int .i64 z)))
def xb88:Tryz.prog.globalNamed "apostille/algs.rows" =some 2:=by kernel_rfl
def xby6:Tryz.prog.globalNamed "apostille/mac.sizes" =some 3:=by kernel_rfl
def xca4:(Tryz.prog.globals[2]?).map (·.type)=some 213:=by kernel_rfl
def xb8t:(Tryz.prog.globals[3]?).map (·.type)=some 223:=by kernel_rfl
def c158:Tryz.prog.cellsOf 212=6:=by kernel_rfl
def c154:Tryz.prog.cellsOf 222=2:=by kernel_rfl
def cI3:Tryz.prog.cellsOf 3=1:=by kernel_rfl
def xbn4{ls:List LI}{m:Nat}(hm: ∀l∈ls,l.length=m)(hpos:0<m): ∀(i:Nat) (x:Int),ls.flatten[i]? =some x->∃l,ls[i/ m]? =some l/\l[i % m]? =some x:=by
 induction ls with
 | nil=>intro i x h;simp at h
 | cons a r ih=>
  intro i x h;have ha:=hm a (by simp);rw[zc1] at h;rcases zb5 i m with e|e
  ·rw[za4 (by omega)] at h;exact⟨a,by rw[Nat.div_eq_of_lt e];rfl,by rw[Nat.mod_eq_of_lt e];exact h⟩
  ·rw[za1 (by omega),ha] at h;obtain⟨l,h1,h2⟩:=ih (fun l hl=>hm l (by simp[hl])) (i - m) x h;obtain⟨q,rfl⟩: ∃q,i=q+m:=⟨i - m,by omega⟩;rw[Nat.add_sub_cancel] at h1 h2;exact⟨l,by rw[Nat.add_div_right _ hpos];exact h1,by rw[Nat.add_mod_right];exact h2⟩
def xbec{W:World}(h:Lib.VarReads Tryz.prog W "apostille/algs.rows" xb9q)(i:Nat)(x:Int)(hx:q0b[i]? =some x):W.cell? ⟨2,i,none⟩=some (.int .i64 x):=by
 obtain⟨g,t,cs,fuel,p,hg,ht,hv,hd⟩:=h;obtain rfl:=zci (xb88.symm.trans hg);obtain rfl:=zci (xca4.symm.trans ht);obtain⟨l,hl,hlx⟩:=xbn4 (m:=6) (by decide) (by omega) i x hx;have hi:i/ 6<11:=(zae.1 hl).1;rw[World.var?_cell xb88 hv i, <- zcl];obtain⟨fuel',d,q,hdd,hf⟩:=Lib.array_elem Tryz.underlying213 hd (i/ 6) hi;rw[c158] at hf;rw[zah,hl] at hdd;obtain rfl:=zci hdd;have hcs:=Lib.ints_of_struct Tryz.underlying212 (fun j f hj=>by
  match j,hj with
  | 0,hj=>cases hj;exact⟨Tryz.underlying3,rfl,cI3⟩
  | 1,hj=>cases hj;exact⟨Tryz.underlying3,rfl,cI3⟩
  | 2,hj=>cases hj;exact⟨Tryz.underlying3,rfl,cI3⟩
  | 3,hj=>cases hj;exact⟨Tryz.underlying3,rfl,cI3⟩
  | 4,hj=>cases hj;exact⟨Tryz.underlying3,rfl,cI3⟩
  | 5,hj=>cases hj;exact⟨Tryz.underlying3,rfl,cI3⟩
  | j+6,hj=>simp at hj) c158 hf
 have hget:=congrArg (·[i % 6]?) hcs;simp only[zc5,zbv] at hget;rw[yc (by omega),show i/ 6*6+i % 6=i by omega] at hget;rw[hget,zah,hlx];rfl
def xbal{W:World}(h:Lib.VarReads Tryz.prog W "apostille/mac.sizes" xb4c)(i:Nat)(x:Int)(hx:qrz[i]? =some x):W.cell? ⟨3,i,none⟩=some (.int .i64 x):=by obtain⟨g,t,cs,fuel,p,hg,ht,hv,hd⟩:=h;obtain rfl:=zci (xby6.symm.trans hg);obtain rfl:=zci (xb8t.symm.trans ht);obtain⟨l,hl,hlx⟩:=xbn4 (m:=2) (by decide) (by omega) i x hx;have hi:i/ 2<8:=(zae.1 hl).1;rw[World.var?_cell xby6 hv i, <- zcl];obtain⟨fuel',d,q,hdd,hf⟩:=Lib.array_elem Tryz.underlying223 hd (i/ 2) hi;rw[c154] at hf;rw[zah,hl] at hdd;obtain rfl:=zci hdd;have hcs:=Lib.cells_of_tab Tryz.underlying222 Tryz.underlying3 cI3 c154 hf;have hget:=congrArg (·[i % 2]?) hcs;simp only[zc5,zbv] at hget;rw[yc (by omega),show i/ 2*2+i % 2=i by omega] at hget;rw[hget,zah,hlx];rfl
def xbo9(l:LI):Go.Obj->Go.Obj
 | .cells _ t fr=>.cells (l.map (Value.int .i64)).toArray t fr
 | o=>o
def xb97(h:Array Go.Obj):Array Go.Obj:=((xb6d h).modify 3 (xbo9 qrz)).modify 2 (xbo9 q0b)
def xb2m{W:World}(h: ∀(i:Nat) (x:Int),q0b[i]? =some x->W.cell? ⟨2,i,none⟩=some (.int .i64 x)):CRep W (fun b=>b<W.heap.size) (.vp xbdt 0 0) (.pointer (some ⟨2,0,none⟩)):=
 xbnx (L:=q0b) rfl ⟨rfl,fun c hc=>by
  simp only[zaw,zcx,or_false] at hc;rcases hc with rfl|rfl|rfl|rfl|rfl|rfl|rfl|rfl|rfl|rfl|rfl<;>rfl⟩ h rfl
def xbws{W:World}(h: ∀(i:Nat) (x:Int),qrz[i]? =some x->W.cell? ⟨3,i,none⟩=some (.int .i64 x)):CRep W (fun b=>b<W.heap.size) (.vp qzd 0 0) (.pointer (some ⟨3,0,none⟩)):=by
 unfold qzd;rw[qab];exact xbnx (L:=qrz) rfl ⟨rfl,fun c hc=>by
  unfold qoa at hc;simp only[zbf,List.map_nil,zaw,zcx,or_false] at hc;rcases hc with rfl|rfl|rfl|rfl|rfl|rfl|rfl|rfl<;>rfl⟩ h rfl
def xbs8{W:World}(h1:Lib.VarReads Tryz.prog W "unicode/utf8.first" Go.Pinned.utf8First)(h2:Lib.VarReads Tryz.prog W "unicode/utf8.acceptRanges" xbnw)(h3:Lib.VarReads Tryz.prog W "apostille/algs.rows" xb9q)(h4:Lib.VarReads Tryz.prog W "apostille/mac.sizes" xb4c):
  ∀g c,qa9 g=some c->CRep W (fun b=>b<W.heap.size) (.vp c 0 0) (.pointer (some ⟨g,0,none⟩)):=by
 intro g c h;unfold qa9 at h
 cases hb:Nat.beq g 0 with
 | true=>
  rw[hb] at h;obtain rfl:=qag.1 hb;cases h;exact xbsk (xbak h1)
 | false=>
  rw[hb] at h
  cases hb':Nat.beq g 1 with
  | true=>
   rw[hb'] at h;obtain rfl:=qag.1 hb';cases h;exact xbj8 (q5h h2)
  | false=>
   rw[hb'] at h
   cases hk:Nat.beq g 2 with
   | true=>
    rw[hk] at h;obtain rfl:=qag.1 hk;cases h;exact xb2m (xbec h3)
   | false=>
    rw[hk] at h
    cases hr:Nat.beq g 3 with
    | true=>
     rw[hr] at h;obtain rfl:=qag.1 hr;cases h;exact xbws (xbal h4)
    | false=>rw[hr] at h;cases h
open Go.ChangeShapes Go.WideShapes Go.ChangeAt Go.RowKit
section
variable {H:Type} {enc:TypeId×Value->H}
def Cel(W:World)(es:Nat)(Q:CV->Prop)(ci:List Value):Prop:= ∃c:CV,Q c/\ci.length=es/\(cell1 c).length=es/\∀(r:Nat) (c':CV) (v:Value),(cell1 c)[r]? =some c'->ci[r]? =some v->oneC v=true/\CRep W (fun b=>b<W.heap.size) c' v
def qr0{W:World}{n es:Nat}{t e:TypeId}{Q:CV->Prop}{cs:List Value}{x:DataW H×List MemPlace}(ht:Tryz.prog.underlying t=some (.slice e))(hc:Tryz.prog.cellsOf e=es)(hpos:0<es)(hel: ∀(m:Nat) (ci:List Value) (y:DataW H×List MemPlace),DataW.trod enc Tryz.prog W 0 (fun _=>true) true m e ci=some y->Cel W es Q ci)(h:DataW.trod enc Tryz.prog W 0 (fun _=>true) true n t cs=some x):
  ∃(v:Value) (l:LC),cs=[v]/\oneC v=true/\CRep W (fun b=>b<W.heap.size) (.slg es l) v/\(∀c∈l,Q c)/\(l=[]\/∃a b,x.1=.slice a b/\a.length=l.length):=by
 rcases DataW.trod_slice ht h with⟨hcs,_⟩|⟨a,len,cap,elems,rest,m',hm,hcs,hx,_,hlc,_,hel',hcell,_,_⟩
 ·exact⟨_,[],hcs,rfl,.slg es [] none 0 0 (fun _=>.nilIface) (fun c hc=>by simp at hc) rfl (zap _) (fun j c hj=>by simp at hj) (fun j c hj=>by simp at hj) (fun j c hj=>by simp at hj),fun c hc=>by simp at hc,.inl rfl⟩
 ·rw[hc] at hcell;have hch: ∀i,i<len->∃c:CV,Q c/\(cell1 c).length=es/\∀(r:Nat) (c':CV),(cell1 c)[r]? =some c'->∃v,W.cell? (a.add (i*es+r))=some v/\oneC v=true/\CRep W (fun b=>b<W.heap.size) c' v:=fun i hi=>by
   have hx:=hcell i hi;rw[zag (by omega:i<elems.length),Option.bind_eq_some_iff] at hx;obtain⟨ci,hci,hti⟩:=hx;obtain⟨c,hQ,hcl,hyl,hrep⟩:=hel m' ci _ hti;obtain⟨_,_,hcc⟩:=World.cells?_some hci;refine⟨c,hQ,hyl,fun r c' hr=> ?_⟩;have hr3:r<es:=by have:=(zae.1 hr).1;omega
   obtain⟨v,hv⟩:=qbz (b:=ci) (i:=r) (by omega);have:=hcc r hr3;rw[hv,q60] at this;obtain⟨o1,o2⟩:=hrep r c' v hr hv;exact⟨v,this,o1,o2⟩
  have hg: ∃g:Nat->CV, ∀i,i<len->Q (g i)/\(cell1 (g i)).length=es/\∀(r:Nat) (c':CV),(cell1 (g i))[r]? =some c'->∃v,W.cell? (a.add (i*es+r))=some v/\oneC v=true/\CRep W (fun b=>b<W.heap.size) c' v:=
   ⟨fun i=>@dite _ (i<len) (ya _) (fun h=>Classical.choose (hch i h)) (fun _=>.nili),fun i hi=>by
    simp only[];rw[@dif_pos _ (ya _) hi];exact Classical.choose_spec (hch i hi)⟩
  obtain⟨g,hg⟩:=hg;have hmem: ∀c∈(List.range len).map g,(cell1 c).length=es:=fun c hc=>by obtain⟨i,hi,rfl⟩:=zbo.1 hc;exact(hg i (zb8.1 hi)).2.1
  have key: ∀(j:Nat) (c:CV),(((List.range len).map g).flatMap cell1)[j]? =some c->∃v,W.cell? (a.add j)=some v/\oneC v=true/\CRep W (fun b=>b<W.heap.size) c v:=fun j c hj=>by
   have hlt:=(zae.1 hj).1;rw[qcc hmem,zau,List.length_range] at hlt;have hi:j/ es<len:=Nat.div_lt_of_lt_mul (by rw[Nat.mul_comm];exact hlt);have hdm:j/ es*es+j % es=j:=by rw[Nat.mul_comm];exact Nat.div_add_mod j es
   have hfl:=qtc (f:=cell1) (e:=es) (l:=(List.range len).map g) (i:=j/ es) (c:=g (j/ es)) (j % es) hmem (by simp[hi]) (zd1 _ hpos);rw[hdm,hj] at hfl;obtain⟨v,h1,h2,h3⟩:=(hg _ hi).2.2 (j % es) c hfl.symm;rw[hdm] at h1;exact⟨v,h1,h2,h3⟩
  refine⟨_,(List.range len).map g,hcs,rfl,.slg es _ (some a) len cap (fun j=>(W.cell? (a.add j)).getD .nilIface) hmem (by simp) hlc (fun j c hj=> ?_) (fun j c hj=> ?_) (fun j c hj=> ?_),fun c hc=> ?_,.inr ⟨_,_,by rw[hx],by simp[hel']⟩⟩
  ·obtain⟨v,h1,h2,h3⟩:=key j c hj;have:=qsz h1;rw[qgh] at this;exact⟨a,rfl,this,by rw[h1];rfl⟩
  ·obtain⟨v,h1,h2,h3⟩:=key j c hj;rw[h1];exact h2
  ·obtain⟨v,h1,h2,h3⟩:=key j c hj;rw[h1];exact h3
  ·obtain⟨i,hi,rfl⟩:=zbo.1 hc;exact(hg i (zb8.1 hi)).1
def xbeb{W:World}{Q:CV->Prop}{ci:List Value}{v:Value}{c:CV}(h1:ci=[v])(h2:cell1 c=[c])(h3:oneC v=true)(h4:CRep W (fun b=>b<W.heap.size) c v)(h5:Q c):Cel W 1 Q ci:=by
 subst h1;refine⟨c,h5,rfl,by rw[h2];rfl,fun r c' v' hc' hv'=> ?_⟩;rw[h2] at hc'
 match r,hc',hv' with
 | 0,hc',hv'=>cases hc';cases hv';exact⟨h3,h4⟩
 | r+1,hc',hv'=>simp at hc'
def rowQ(c:CV):Prop:= ∃b:LI,c=.sli .u8 b/\∀x∈b,0<=x/\x<=255
def xcaz(c:CV):Prop:= ∃l,c=.slg 1 l/\xb42 l
def xcad(c:CV):Prop:= ∃d t w,c=qu5 d t w/\xb44 t/\∀x∈w,0<=x/\x<=255
def xb5o(c:CV):Prop:= ∃m,c=.slg 3 m/\xbln m
def cG:Tryz.prog.cellsOf 75=1:=by kernel_rfl
def cH:Tryz.prog.cellsOf 66=1:=by kernel_rfl
def cM:Tryz.prog.cellsOf 68=3:=by kernel_rfl
def cL:Tryz.prog.cellsOf 40=1:=by kernel_rfl
def cC:Tryz.prog.cellsOf 25=1:=by kernel_rfl
def cZ:Tryz.prog.cellsOf 24=1:=by kernel_rfl
def cEv:Tryz.prog.cellsOf 27=2:=by kernel_rfl
def xb2k{W:World}(m:Nat)(ci:List Value)(y:DataW H×List MemPlace)(h:DataW.trod enc Tryz.prog W 0 (fun _=>true) true m 22 ci=some y):Cel W 1 rowQ ci:=by obtain⟨v,b,e1,ob,rb,wb⟩:=q9k Tryz.underlying22 Tryz.underlying5 c5 h;exact xbeb e1 rfl ob rb ⟨b,rfl,fun x hx=>qu0 (wb x hx)⟩
def xbu6{W:World}(m:Nat)(ci:List Value)(y:DataW H×List MemPlace)(h:DataW.trod enc Tryz.prog W 0 (fun _=>true) true m 75 ci=some y):Cel W 1 xcaz ci:=by obtain⟨v,l,e1,ob,rb,hq,_⟩:=qr0 Tryz.underlying75 cB (by omega) xb2k h;exact xbeb e1 rfl ob rb ⟨l,rfl,hq⟩
def xbtu{W:World}(m:Nat)(cs:List Value)(x:DataW H×List MemPlace)(h:DataW.trod enc Tryz.prog W 0 (fun _=>true) true m 68 cs=some x):Cel W 3 xcad cs:=by
 obtain⟨xs,m,rfl,hx,hl,hxl,hall⟩:=DataW.trod_struct Tryz.underlying68 h;rw[cM] at hl;have hxl:xs.length=3:=hxl
 match cs,hl,xs,hxl with
 | [v0,v1,v2],_,[x0,x1,x2],_=>
  have h0:=hall 0 _ rfl;have h1:=hall 1 _ rfl;have h2:=hall 2 _ rfl;have h0:DataW.trod enc Tryz.prog W 0 (fun _=>true) true m 3 (([v0,v1,v2].drop 0).take (Tryz.prog.cellsOf 3))=some x0:=h0;have h1:DataW.trod enc Tryz.prog W 0 (fun _=>true) true m 66 (([v0,v1,v2].drop 1).take (Tryz.prog.cellsOf 66))=some x1:=h1;have h2:DataW.trod enc Tryz.prog W 0 (fun _=>true) true m 22 (([v0,v1,v2].drop 2).take (Tryz.prog.cellsOf 22))=some x2:=h2;rw[c3] at h0;rw[cH] at h1;rw[cB] at h2;have h0:DataW.trod enc Tryz.prog W 0 (fun _=>true) true m 3 [v0]=some x0:=h0;have h1:DataW.trod enc Tryz.prog W 0 (fun _=>true) true m 66 [v1]=some x1:=h1;have h2:DataW.trod enc Tryz.prog W 0 (fun _=>true) true m 22 [v2]=some x2:=h2;obtain⟨d,e0,_,_⟩:=DataW.trod_int Tryz.underlying3 h0;obtain⟨vt,t,e1,ot,rt,hq,_⟩:=qr0 Tryz.underlying66 cG (by omega) xbu6 h1;obtain⟨vb,b,e2,ob,rb,wb⟩:=q9k Tryz.underlying22 Tryz.underlying5 c5 h2;simp only[zcg,and_true] at e0 e1 e2;subst e0 e1 e2;refine⟨qu5 d t b,⟨d,t,b,rfl,hq,fun x hx=>qu0 (wb x hx)⟩,rfl,rfl,fun r c' v hc' hv=> ?_⟩
  match r,hc',hv with
  | 0,hc',hv=>cases hc';cases hv;exact⟨rfl,.int ..⟩
  | 1,hc',hv=>cases hc';cases hv;exact⟨ot,rt⟩
  | 2,hc',hv=>cases hc';cases hv;exact⟨ob,rb⟩
  | r+3,hc',hv=>simp at hv
def xbkj{W:World}(m:Nat)(ci:List Value)(y:DataW H×List MemPlace)(h:DataW.trod enc Tryz.prog W 0 (fun _=>true) true m 40 ci=some y):Cel W 1 xb5o ci:=by obtain⟨v,l,e1,ob,rb,hq,_⟩:=qr0 Tryz.underlying40 cM (by omega) xbtu h;exact xbeb e1 rfl ob rb ⟨l,rfl,hq⟩
def xbk8{W:World}{n:Nat}{t:TypeId}{cs:List Value}{x:DataW H×List MemPlace}(ht:Tryz.prog.underlying t=some (.slice 3))(h:DataW.trod enc Tryz.prog W 0 (fun _=>true) true n t cs=some x):
  ∃(v:Value) (l:LI),cs=[v]/\oneC v=true/\CRep W (fun b=>b<W.heap.size) (.sli .i64 l) v/\(l=[]\/∃es sp,x.1=.slice es sp/\es.length=l.length):=by
 rcases open_ints ht Tryz.underlying3 c3 h with⟨hcs,_⟩|⟨a,len,cap,zs,hcs,_,hl,_,hz,hx,hcell,hw⟩
 ·exact⟨_,[],hcs,rfl,.sli _ _ _ _ _ rfl (zap _) (fun i n hi=>by simp at hi),.inl rfl⟩
 ·have hz:zs.length=cap:=hz;refine⟨_,zs.take len,hcs,rfl,.sli _ _ _ _ _ (by simp;omega) hl fun i n hi=> ?_,.inr ⟨_,_,by rw[hx],by unfold lits;rw[zau]⟩⟩;rw[zc5] at hi;split at hi
  ·rename_i hlt;have hlz:i<zs.length:=by omega
   have hx:=hcell i hlz;have e:zs.getD i 0=n:=by rw[za6,hi];rfl
   rw[e] at hx;have:=qsz hx;rw[qgh] at this;exact⟨a,rfl,this,hx⟩
  ·cases hi
def xbp7{α:Type}{ts:List TypeId}{ds:List (DataW H)}(hw:(DataW.weightsEach Tryz.prog ts ds).all (· <=reachBytes)=true){j:Nat}{t e:TypeId}{d:DataW H}{l:List α}(ht:ts[j]? =some t)(hd:ds[j]? =some d)(hu:Tryz.prog.underlying t=some (.slice e))(hb:1<=Tryz.prog.bytesOf e)(h:l=[]\/∃es sp,d=.slice es sp/\es.length=l.length):l.length<=1000000000000000:=by
 rcases h with rfl|⟨es,sp,rfl,hl⟩
 ·simp
 ·have h1:=sized_slice hw ht hd hu;have h2:=reachBytes_lt;have h3:es.length<=(es.length+sp.length)*Tryz.prog.bytesOf e:=by have:(es.length+sp.length)*1<=(es.length+sp.length)*Tryz.prog.bytesOf e:=Nat.mul_le_mul_left _ hb;omega
  omega
def by3:1<=Tryz.prog.bytesOf 3:=ye (by kernel_rfl)
def byL:1<=Tryz.prog.bytesOf 40:=ye (by kernel_rfl)
def xbu3{W:World}{b0:Nat}{v:Value}{d:DataW H}{ps:List MemPlace}{ts:List TypeId}{ds:List (DataW H)}{j:Nat}(hwt:(DataW.weightsEach Tryz.prog ts ds).all (· <=reachBytes)=true)(hj:ts[j]? =some 27)(hd:ds[j]? =some d)(hval:Value.okWide Tryz.prog W .any b0 27 v)(h:DataW.Trod enc Tryz.prog W 0 (fun _=>true) true 27 v d ps):
  ∃(g:LI) (c:LC),CRep W (fun b=>b<W.heap.size) (.agg [.sli .i64 g,.slg 1 c]) v/\recT g c=true:=by
 obtain⟨cs,rfl,hcs⟩:=okWide_struct Tryz.underlying27 hval;obtain⟨n,h⟩:=h;have h:DataW.trod enc Tryz.prog W 0 (fun _=>true) true n 27 cs.toList=some (d,ps):=h;obtain⟨xs,m,rfl,hx,hl,hxl,hall⟩:=DataW.trod_struct Tryz.underlying27 h;rw[cEv] at hl;have hxl:xs.length=2:=hxl;have hd1:d=.agg (xs.map (·.1)):=(Prod.mk.inj hx).1;obtain⟨v0,v1,hv⟩:=len2 hl;obtain⟨x0,x1,rfl⟩:=len2 hxl;rw[hv] at hall;have h0:=hall 0 _ rfl;have h1:=hall 1 _ rfl;have h0:DataW.trod enc Tryz.prog W 0 (fun _=>true) true m 24 (([v0,v1].drop 0).take (Tryz.prog.cellsOf 24))=some x0:=h0;have h1:DataW.trod enc Tryz.prog W 0 (fun _=>true) true m 25 (([v0,v1].drop 1).take (Tryz.prog.cellsOf 25))=some x1:=h1;rw[cZ] at h0;rw[cC] at h1;have h0:DataW.trod enc Tryz.prog W 0 (fun _=>true) true m 24 [v0]=some x0:=h0;have h1:DataW.trod enc Tryz.prog W 0 (fun _=>true) true m 25 [v1]=some x1:=h1;obtain⟨vg,g,e0,og,rg,lg⟩:=xbk8 Tryz.underlying24 h0;obtain⟨vc,c,e1,oc,rc,hq,lc⟩:=qr0 Tryz.underlying25 cL (by omega) xbkj h1;simp only[zcg,and_true] at e0 e1;subst e0 e1;have hw2:(DataW.weightsEach Tryz.prog [24,25] [x0.1,x1.1]).all (· <=reachBytes)=true:=by rw[zai];intro n hn;refine zai.1 hwt n (DataW.weights_mem_each hj hd n ?_);rw[hd1];simp only[DataW.weights,Tryz.underlying27];exact hn
 have l1:=xbp7 hw2 (j:=0) (t:=24) rfl rfl Tryz.underlying24 by3 lg;have l2:=xbp7 hw2 (j:=1) (t:=25) rfl rfl Tryz.underlying25 byL lc;refine⟨g,c, ?_,xb2c ⟨l1,l2,hq⟩⟩;have:CRep W (fun b=>b<W.heap.size) (.agg [.sli .i64 g,.slg 1 c]) (.agg [v0,v1].toArray):=.agg _ [v0,v1] rfl (fun v hv=> ?_) fun j c' v hj hv=> ?_
 ·rw[<- hv] at this;simpa using this
 ·simp only[zaw,zcx,or_false] at hv;rcases hv with rfl|rfl
  ·exact og
  ·exact oc
 ·match j,hj,hv with
  | 0,hj,hv=>cases hj;cases hv;exact rg
  | 1,hj,hv=>cases hj;cases hv;exact rc
  | j+2,hj,hv=>simp at hj
end
def xbaf{l:LI}(hw: ∀n∈l,(Lit.int .u8 n).wf=true):qpd l=true:=by unfold qpd;rw[qab,zai];exact fun x hx=>yf (qu0 (hw x hx))
end Go.Proofs.YtoaakappnhemiaaGreatDoorA
