/-
 A law's contract is its row's step, where the row lists variables; data that stay; what comes in. Conditions: none.
-/
import Derived.Test.YtoaakappnhemiaaGreatDoorK3
import Derived.WideKeyArgs
import Derived.Lib.LaidU8
import Derived.LaidLaws
import Derived.SizedLaws
import Derived.ChangeSlices
import Derived.Test.YtoaakappnhemiaaGreatDoorT5
import Derived.ChangeArms
import GoSem.PinnedTables
set_option linter.unusedVariables false
set_option linter.unusedSimpArgs false
set_option maxRecDepth 100000
namespace Go.Proofs.YtoaakappnhemiaaGreatDoorA
open Go.ChangeShapes Go.WideShapes Go.ChangeAt Go.RowKit
def Still(W W':World):Prop:=Stays W W'/\∀b:Nat,b<W.heap.size->W'.heap[b]? =W.heap[b]?
theorem xbrw{glob:Nat->Option CV}{W:World}{xs:List V}{vs:List Value}(hg: ∀g c,glob g=some c->CRep W (fun b=>b<W.heap.size) (.vp c 0 0) (.pointer (some ⟨g,0,none⟩)))(h:RepL W (fun b=>b<W.heap.size) (fun _=>none) (fun _=>none) xs vs):Pre glob W (fun b=>b<W.heap.size) (fun _=>none) (fun _=>False) xs [] vs:=by refine⟨by simp,h,⟨fun b hb=>hb,fun b hb=>hb,fun p o hp=>(by cases hp),fun p q o o' b x y x' y' hp=>(by cases hp),fun p o b x y hp=>(by cases hp),fun b hb=>.inl hb⟩,hg⟩
theorem xbe7{glob:Nat->Option CV}{P:Program}{g:FuncId}{fn:Func}{S:FSpec}(hs:Sound P glob g S)(hf:P.funcs[g]? =some fn)(hn:(fn.name== "runtime.NumGoroutine")=false)(hb:fn.body.isSome=true){xs:List V}{vs:List Value}{W:World}(hg: ∀g c,glob g=some c->CRep W (fun b=>b<W.heap.size) (.vp c 0 0) (.pointer (some ⟨g,0,none⟩)))(hS:S xs []=some (.ret [.cl (.bool true)] []))(h:RepL W (fun b=>b<W.heap.size) (fun _=>none) (fun _=>none) xs vs):Calls P g vs.toArray W fun e W'=>e=.returned (.bool true)/\Still W W':=by
 have hr:=hs xs [] _ W _ _ _ vs hS (xbrw hg h);have key: ∀e W',Ends W (fun b=>b<W.heap.size) (fun _=>none) (fun _=>False) [] (.ret [.cl (.bool true)] []) e W'->e=.returned (.bool true)/\Still W W':=fun e W' he=>by
  obtain⟨us,Im',ρ',rfl,hp,hl,hv⟩:=he;refine⟨?_,xbx1 hp.fr,fun b hb=>hp.fr.block b hb fun f=>f⟩
  match us,hl with
  | [u],_=>
   have:=hv 0 _ u rfl rfl;have:=this.bool;rw[this];rfl
 rcases hr with⟨_,hc⟩|⟨v,w',h1,_⟩
 ·exact hc.mono fun e W' he=>key e W' he
 ·exfalso;obtain⟨c,hc⟩:=zax.1 hb;have hn': ¬fn.name= "runtime.NumGoroutine" :=by simpa using hn
  simp[callFunc,hf,hn',hc] at h1
theorem xbht{W W':World}(h:Still W W'){p:MemPlace}(hp:p.block<W.heap.size):W.sameAt W' p:=by
 cases p with
 | cell b o=>
  show W'.cell? ⟨b,o,none⟩=W.cell? ⟨b,o,none⟩;unfold World.cell?;rw[h.2 b hp]
 | map b=>exact h.2 b hp
section
variable {H:Type} {enc:TypeId×Value->H} {P:Program}
theorem qql{W W':World}(hl:laidOutB P=true){sp:Nat->Bool}: ∀ {ts:List TypeId} {vs:List Value} {ds:List (DataW H)} {ps:List MemPlace},(∀t∈ts,P.readableRec t=true/\t<P.types.size)->DataW.TrodAll enc P W 0 (fun _=>true) true ts vs ds ps->(∀p∈ps,W.sameAt W' p)->(∀p∈ps,sp p.block=true)->DataW.TrodAll enc P W' 0 sp true ts vs ds ps
 | [],vs,ds,ps,_,h,_,_=>by obtain⟨rfl,rfl,rfl⟩:=trodAll_nil h;exact trodAll_mk0
 | t::ts,vs,ds,ps,ht,h,hs,hp=>by obtain⟨v,vs',d,ds',p,q,rfl,rfl,rfl,h1,h2⟩:=trodAll_cons h;refine trodAll_cons_mk (WideElems.Trod_stays hl (ht t (by simp)).1 (ht t (by simp)).2 h1 (fun x hx=>hs x (by simp[hx])) fun x hx=>hp x (by simp[hx])) (qql hl (fun t' ht'=>ht t' (by simp[ht'])) h2 (fun x hx=>hs x (by simp[hx])) fun x hx=>hp x (by simp[hx]))
theorem q6g{W:World}{a:Addr}{v:Value}(h:W.cell? a=some v):a.block<W.heap.size:=by
 unfold World.cell? at h;split at h
 ·rename_i h1;exact(zcw.1 h1).1
 ·cases h
end
section
variable {H:Type} {enc:TypeId×Value->H} {P:Program}
theorem xbku{W:World}{b0:Nat}{t e:TypeId}{k:IntKind}{v:Value}{d:DataW H}{ps:List MemPlace}(ht:P.underlying t=some (.slice e))(he:P.underlying e=some (.int k))(hc:P.cellsOf e=1)(hval:Value.okWide P W .any b0 t v)(h:DataW.Trod enc P W 0 (fun _=>true) true t v d ps): ∃l:List Int,CRep W (fun b=>b<W.heap.size) (.sli k l) v/\(∀n∈l,(Lit.int k n).wf=true)/\(l=[]\/∃es sp,d=.slice es sp/\es.length=l.length):=by
 obtain⟨a0,len0,cap0,rfl⟩:=okWide_slice ht hval;obtain⟨n,h⟩:=h;rcases open_ints ht he hc h with⟨hcs,_⟩|⟨a,len,cap,zs,hcs,_,hl,_,hz,hx,hcell,hw⟩
 ·have hcs:[Value.slice a0 len0 cap0]=[.slice none 0 0]:=hcs;simp only[zcl,Value.slice.injEq,and_true] at hcs;obtain⟨rfl,rfl,rfl⟩:=hcs;exact⟨[],.sli _ _ _ _ _ rfl (zas _) fun i n hi=>by simp at hi,fun n hn=>(by simp at hn),.inl rfl⟩
 ·have hcs:[Value.slice a0 len0 cap0]=[.slice (some a) len cap]:=hcs;simp only[zcl,Value.slice.injEq,and_true] at hcs;obtain⟨rfl,rfl,rfl⟩:=hcs;have hz:zs.length=cap0:=hz;refine⟨zs.take len0,.sli _ _ _ _ _ (by simp;omega) hl fun i n hi=> ?_,fun n hn=>hw n (zbq hn),.inr ⟨_,_,(Prod.mk.inj hx).1,by unfold lits;rw[zaw]⟩⟩;rw[zde] at hi;split at hi
  ·rename_i hlt;have hlz:i<zs.length:=by omega
   have hx:=hcell i hlz;have e:zs.getD i 0=n:=by rw[za3,hi];rfl
   rw[e] at hx;have:=q6g hx;rw[qk1] at this;exact⟨a,rfl,this,hx⟩
  ·cases hi
theorem xb2g{ts:List TypeId}{ds:List (DataW H)}(hw:(DataW.weightsEach P ts ds).all (· <=reachBytes)=true){j:Nat}{t e:TypeId}{d:DataW H}{l:List Int}(ht:ts[j]? =some t)(hd:ds[j]? =some d)(hu:P.underlying t=some (.slice e))(hb:1<=P.bytesOf e)(h:l=[]\/∃es sp,d=.slice es sp/\es.length=l.length):l.length<=1000000000000000:=by
 rcases h with rfl|⟨es,sp,rfl,hl⟩
 ·simp
 ·have h1:=sized_slice hw ht hd hu;have h2:=reachBytes_lt;have h3:es.length<=(es.length+sp.length)*P.bytesOf e:=by have:(es.length+sp.length)*1<=(es.length+sp.length)*P.bytesOf e:=Nat.mul_le_mul_left _ hb;omega
  omega
end
open Go.ChangeShapes Go.WideShapes Go.ChangeAt Go.RowKit
theorem xbqx{W:World}(h: ∀(i:Nat) (x:Int),qhp[i]? =some x->W.cell? ⟨0,i,none⟩=some (.int .u8 x)):CRep W (fun b=>b<W.heap.size) (.vp (.aggi 256 .u8 u8First) 0 0) (.pointer (some ⟨0,0,none⟩)):=by
 have e:u8First=qhp:=qab _;rw[e];have h0:=q6g (h 0 240 rfl);refine CRep.vp (.aggi 256 .u8 qhp) 0 0 1 (qhp.map (.int .u8)) 0 0 (fun i=>.int .u8 (qhp.getD i 0)) rfl rfl h0 (fun j c hj=> ?_) (fun j c hj=>rfl) (fun j c hj=> ?_)
 ·rw[zah] at hj;obtain⟨x,hx,rfl⟩:=zam.1 hj;rw[zay,h j x hx,za3,hx];rfl
 ·rw[zah] at hj;obtain⟨x,hx,rfl⟩:=zam.1 hj;rw[za3,hx];exact .int ..
def qhs:List Int:=[128,191,160,191,128,159,144,191,128,143]++List.replicate 22 0
theorem xbi0{W:World}(h: ∀(i:Nat) (x:Int),qhs[i]? =some x->W.cell? ⟨1,i,none⟩=some (.int .u8 x)):CRep W (fun b=>b<W.heap.size) (.vp (.agga 16 2 u8Accept) 0 0) (.pointer (some ⟨1,0,none⟩)):=by
 have e:u8Accept=ql5:=qab _;rw[e];have h0:=q6g (h 0 128 rfl);have ef:ql5.flatMap cell1=qhs.map (.int .u8):=rfl;refine CRep.vp (.agga 16 2 ql5) 0 0 2 (qhs.map (.int .u8)) 1 0 (fun i=>.int .u8 (qhs.getD i 0)) (by rw[<- ef];rfl) ⟨rfl,fun c hc=> ?_⟩ h0 (fun j c hj=> ?_) (fun j c hj=>rfl) (fun j c hj=> ?_)
 ·unfold ql5 at hc;obtain⟨p,_,rfl⟩:=zbp.1 hc;rfl
 ·rw[zah] at hj;obtain⟨x,hx,rfl⟩:=zam.1 hj;rw[zay,h j x hx,za3,hx];rfl
 ·rw[zah] at hj;obtain⟨x,hx,rfl⟩:=zam.1 hj;rw[za3,hx];exact .int ..
def xbmf:DataW Unit:=.agg [.agg [.lit (.int .u8 128),.lit (.int .u8 191)],.agg [.lit (.int .u8 160),.lit (.int .u8 191)],.agg [.lit (.int .u8 128),.lit (.int .u8 159)],.agg [.lit (.int .u8 144),.lit (.int .u8 191)],.agg [.lit (.int .u8 128),.lit (.int .u8 143)],.agg [.lit (.int .u8 0),.lit (.int .u8 0)],.agg [.lit (.int .u8 0),.lit (.int .u8 0)],.agg [.lit (.int .u8 0),.lit (.int .u8 0)],.agg [.lit (.int .u8 0),.lit (.int .u8 0)],.agg [.lit (.int .u8 0),.lit (.int .u8 0)],.agg [.lit (.int .u8 0),.lit (.int .u8 0)],.agg [.lit (.int .u8 0),.lit (.int .u8 0)],.agg [.lit (.int .u8 0),.lit (.int .u8 0)],.agg [.lit (.int .u8 0),.lit (.int .u8 0)],.agg [.lit (.int .u8 0),.lit (.int .u8 0)],.agg [.lit (.int .u8 0),.lit (.int .u8 0)]]
theorem xbwm:Tryz.prog.globalNamed "unicode/utf8.first" =some 0:=by kernel_rfl
theorem xbms:Tryz.prog.globalNamed "unicode/utf8.acceptRanges" =some 1:=by kernel_rfl
theorem xb6m:(Tryz.prog.globals[0]?).map (·.type)=some 200:=by kernel_rfl
theorem xb2k:(Tryz.prog.globals[1]?).map (·.type)=some 203:=by kernel_rfl
theorem c5:Tryz.prog.cellsOf 5=1:=by kernel_rfl
theorem c200:Tryz.prog.cellsOf 200=256:=by kernel_rfl
theorem c202:Tryz.prog.cellsOf 202=2:=by kernel_rfl
theorem xbkz:Go.Pinned.utf8First=Lib.tabData .u8 qhp:=by kernel_rfl
theorem q9k{W:World}(h:Lib.VarReads Tryz.prog W "unicode/utf8.first" Go.Pinned.utf8First)(i:Nat)(x:Int)(hx:qhp[i]? =some x):W.cell? ⟨0,i,none⟩=some (.int .u8 x):=by obtain⟨g,t,cs,fuel,p,hg,ht,hv,hd⟩:=h;obtain rfl:=zcb (xbwm.symm.trans hg);obtain rfl:=zcb (xb6m.symm.trans ht);rw[xbkz] at hd;have hcs:=Lib.cells_of_tab Tryz.underlying200 Tryz.underlying5 c5 c200 hd;rw[World.var?_cell xbwm hv i, <- zcg,hcs,zah,hx];rfl
theorem q4r{W:World}(h:Lib.VarReads Tryz.prog W "unicode/utf8.acceptRanges" xbmf)(i:Nat)(x:Int)(hx:qhs[i]? =some x):W.cell? ⟨1,i,none⟩=some (.int .u8 x):=by
 obtain⟨g,t,cs,fuel,p,hg,ht,hv,hd⟩:=h;obtain rfl:=zcb (xbms.symm.trans hg);obtain rfl:=zcb (xb2k.symm.trans ht);have hi:i<32:=(zad.1 hx).1;rw[World.var?_cell xbms hv i, <- zcg];obtain⟨fuel',d,q,hdd,hf⟩:=Lib.array_elem Tryz.underlying203 hd (i/ 2) (by omega);rw[c202] at hf;have hz:d=.agg ([qhs.getD (2*(i/ 2)) 0,qhs.getD (2*(i/ 2)+1) 0].map fun z=>.lit (.int .u8 z)):=by
  have hall: ∀j:Fin 16,([.agg [.lit (.int .u8 128),.lit (.int .u8 191)],.agg [.lit (.int .u8 160),.lit (.int .u8 191)],.agg [.lit (.int .u8 128),.lit (.int .u8 159)],.agg [.lit (.int .u8 144),.lit (.int .u8 191)],.agg [.lit (.int .u8 128),.lit (.int .u8 143)],.agg [.lit (.int .u8 0),.lit (.int .u8 0)],.agg [.lit (.int .u8 0),.lit (.int .u8 0)],.agg [.lit (.int .u8 0),.lit (.int .u8 0)],.agg [.lit (.int .u8 0),.lit (.int .u8 0)],.agg [.lit (.int .u8 0),.lit (.int .u8 0)],.agg [.lit (.int .u8 0),.lit (.int .u8 0)],.agg [.lit (.int .u8 0),.lit (.int .u8 0)],.agg [.lit (.int .u8 0),.lit (.int .u8 0)],.agg [.lit (.int .u8 0),.lit (.int .u8 0)],.agg [.lit (.int .u8 0),.lit (.int .u8 0)],.agg [.lit (.int .u8 0),.lit (.int .u8 0)]]:List (DataW Unit))[j.val]? =some (.agg ([qhs.getD (2*j.val) 0,qhs.getD (2*j.val+1) 0].map fun z=>.lit (.int .u8 z))):=by
   intro ⟨j,hj⟩;have hj':j=0\/j=1\/j=2\/j=3\/j=4\/j=5\/j=6\/j=7\/j=8\/j=9\/j=10\/j=11\/j=12\/j=13\/j=14\/j=15:=by omega
   rcases hj' with rfl|rfl|rfl|rfl|rfl|rfl|rfl|rfl|rfl|rfl|rfl|rfl|rfl|rfl|rfl|rfl<;>rfl
  have:=hall ⟨i/ 2,by omega⟩;exact zcb (hdd.symm.trans this)
 rw[hz] at hf;have hcs:=Lib.ints_of_struct Tryz.underlying202 (fun j f hj=>by
  match j,hj with
  | 0,hj=>cases hj;exact⟨Tryz.underlying5,rfl,c5⟩
  | 1,hj=>cases hj;exact⟨Tryz.underlying5,rfl,c5⟩
  | j+2,hj=>simp at hj) c202 hf
 have hget:=congrArg (·[i % 2]?) hcs;simp only[zde,zbn] at hget;rw[if_pos (by omega),show i/ 2*2+i % 2=i by omega] at hget;rw[hget];have hxd:qhs.getD i 0=x:=by rw[za3,hx];rfl
 rcases Nat.mod_two_eq_zero_or_one i with h2|h2
 ·rw[h2];show some (Value.int .u8 (qhs.getD (2*(i/ 2)) 0))=_;rw[show 2*(i/ 2)=i by omega,hxd]
 ·rw[h2];show some (Value.int .u8 (qhs.getD (2*(i/ 2)+1) 0))=_;rw[show 2*(i/ 2)+1=i by omega,hxd]
def xbxw(l:List Int):Go.Obj->Go.Obj
 | .cells _ t fr=>.cells (l.map (Value.int .u8)).toArray t fr
 | o=>o
def xb39(h:Array Go.Obj):Array Go.Obj:=(h.modify 0 (xbxw qhp)).modify 1 (xbxw qhs)
section
variable {H:Type} {enc:TypeId×Value->H} {P:Program}
end
theorem c3:Tryz.prog.cellsOf 3=1:=by kernel_rfl
open Go.ChangeShapes Go.WideShapes Go.ChangeAt Go.RowKit
theorem xbmg{W:World}{g m es:Nat}{k:IntKind}{l:List CV}{L:List Int}{z:Int}(hfl:qzq (.agga m es l)=some (es,L.map (CV.int k)))(hu:uni (.agga m es l))(h: ∀(i:Nat) (x:Int),L[i]? =some x->W.cell? ⟨g,i,none⟩=some (.int k x))(h0:L[0]? =some z):
  CRep W (fun b=>b<W.heap.size) (.vp (.agga m es l) 0 0) (.pointer (some ⟨g,0,none⟩)):=by
 have hlt:=q6g (h 0 z h0);have:=CRep.vp (w:=W) (Im:=fun b=>b<W.heap.size) (.agga m es l) 0 0 es (L.map (.int k)) g 0 (fun i=>.int k (L.getD i 0)) hfl hu hlt (fun j c hj=> ?_) (fun j c hj=>rfl) (fun j c hj=> ?_)
 ·simpa using this
 ·rw[zah] at hj;obtain⟨x,hx,rfl⟩:=zam.1 hj;rw[zay,h j x hx,za3,hx];rfl
 ·rw[zah] at hj;obtain⟨x,hx,rfl⟩:=zam.1 hj;rw[za3,hx];exact .int ..
def q6c:List (List Int):=[[1,3,1,0,1,1],[4,2,1,0,8,2],[6,2,1,0,11,1],[11,3,2,1,17,1],[33,2,2,5,1,1],[41,1,2,4,17,1],[51,3,3,2,1,1],[61,3,4,4,28,1],[71,3,5,3,5,20],[81,3,6,3,2,20],[91,3,7,3,6,20]]
def qzs:List Int:=q6c.flatten
def qrg:List Int:=qn0.flatten
def xb7l{H:Type}:DataW H:=.agg (q6c.map fun l=>.agg (l.map fun z=>.lit (.int .i64 z)))
def xb2f{H:Type}:DataW H:=.agg (qn0.map fun l=>.agg (l.map fun z=>.lit (.int .i64 z)))
theorem xb63:Tryz.prog.globalNamed "apostille/algs.rows" =some 2:=by kernel_rfl
theorem xbw7:Tryz.prog.globalNamed "apostille/mac.sizes" =some 3:=by kernel_rfl
theorem xb8y:(Tryz.prog.globals[2]?).map (·.type)=some 213:=by kernel_rfl
theorem xb6n:(Tryz.prog.globals[3]?).map (·.type)=some 223:=by kernel_rfl
theorem c158:Tryz.prog.cellsOf 212=6:=by kernel_rfl
theorem c154:Tryz.prog.cellsOf 222=2:=by kernel_rfl
theorem cI3:Tryz.prog.cellsOf 3=1:=by kernel_rfl
theorem xbmn{ls:List (List Int)}{m:Nat}(hm: ∀l∈ls,l.length=m)(hpos:0<m): ∀(i:Nat) (x:Int),ls.flatten[i]? =some x->∃l,ls[i/ m]? =some l/\l[i % m]? =some x:=by
 induction ls with
 | nil=>intro i x h;simp at h
 | cons a r ih=>
  intro i x h;have ha:=hm a (by simp);rw[zcz] at h;rcases zcc i m with e|e
  ·rw[za5 (by omega)] at h;exact⟨a,by rw[Nat.div_eq_of_lt e];rfl,by rw[Nat.mod_eq_of_lt e];exact h⟩
  ·rw[za2 (by omega),ha] at h;obtain⟨l,h1,h2⟩:=ih (fun l hl=>hm l (by simp[hl])) (i - m) x h;obtain⟨q,rfl⟩: ∃q,i=q+m:=⟨i - m,by omega⟩;rw[Nat.add_sub_cancel] at h1 h2;exact⟨l,by rw[Nat.add_div_right _ hpos];exact h1,by rw[Nat.add_mod_right];exact h2⟩
theorem xbde{W:World}(h:Lib.VarReads Tryz.prog W "apostille/algs.rows" xb7l)(i:Nat)(x:Int)(hx:qzs[i]? =some x):W.cell? ⟨2,i,none⟩=some (.int .i64 x):=by
 obtain⟨g,t,cs,fuel,p,hg,ht,hv,hd⟩:=h;obtain rfl:=zcb (xb63.symm.trans hg);obtain rfl:=zcb (xb8y.symm.trans ht);obtain⟨l,hl,hlx⟩:=xbmn (m:=6) (by decide) (by omega) i x hx;have hi:i/ 6<11:=(zad.1 hl).1;rw[World.var?_cell xb63 hv i, <- zcg];obtain⟨fuel',d,q,hdd,hf⟩:=Lib.array_elem Tryz.underlying213 hd (i/ 6) hi;rw[c158] at hf;rw[zah,hl] at hdd;obtain rfl:=zcb hdd;have hcs:=Lib.ints_of_struct Tryz.underlying212 (fun j f hj=>by
  match j,hj with
  | 0,hj=>cases hj;exact⟨Tryz.underlying3,rfl,cI3⟩
  | 1,hj=>cases hj;exact⟨Tryz.underlying3,rfl,cI3⟩
  | 2,hj=>cases hj;exact⟨Tryz.underlying3,rfl,cI3⟩
  | 3,hj=>cases hj;exact⟨Tryz.underlying3,rfl,cI3⟩
  | 4,hj=>cases hj;exact⟨Tryz.underlying3,rfl,cI3⟩
  | 5,hj=>cases hj;exact⟨Tryz.underlying3,rfl,cI3⟩
  | j+6,hj=>simp at hj) c158 hf
 have hget:=congrArg (·[i % 6]?) hcs;simp only[zde,zbn] at hget;rw[if_pos (by omega),show i/ 6*6+i % 6=i by omega] at hget;rw[hget,zah,hlx];rfl
theorem q9l{W:World}(h:Lib.VarReads Tryz.prog W "apostille/mac.sizes" xb2f)(i:Nat)(x:Int)(hx:qrg[i]? =some x):W.cell? ⟨3,i,none⟩=some (.int .i64 x):=by obtain⟨g,t,cs,fuel,p,hg,ht,hv,hd⟩:=h;obtain rfl:=zcb (xbw7.symm.trans hg);obtain rfl:=zcb (xb6n.symm.trans ht);obtain⟨l,hl,hlx⟩:=xbmn (m:=2) (by decide) (by omega) i x hx;have hi:i/ 2<8:=(zad.1 hl).1;rw[World.var?_cell xbw7 hv i, <- zcg];obtain⟨fuel',d,q,hdd,hf⟩:=Lib.array_elem Tryz.underlying223 hd (i/ 2) hi;rw[c154] at hf;rw[zah,hl] at hdd;obtain rfl:=zcb hdd;have hcs:=Lib.cells_of_tab Tryz.underlying222 Tryz.underlying3 cI3 c154 hf;have hget:=congrArg (·[i % 2]?) hcs;simp only[zde,zbn] at hget;rw[if_pos (by omega),show i/ 2*2+i % 2=i by omega] at hget;rw[hget,zah,hlx];rfl
def xbnt(l:List Int):Go.Obj->Go.Obj
 | .cells _ t fr=>.cells (l.map (Value.int .i64)).toArray t fr
 | o=>o
def xb72(h:Array Go.Obj):Array Go.Obj:=((xb39 h).modify 3 (xbnt qrg)).modify 2 (xbnt qzs)
theorem xb0q{W:World}(h: ∀(i:Nat) (x:Int),qzs[i]? =some x->W.cell? ⟨2,i,none⟩=some (.int .i64 x)):CRep W (fun b=>b<W.heap.size) (.vp xbcw 0 0) (.pointer (some ⟨2,0,none⟩)):=
 xbmg (L:=qzs) rfl ⟨rfl,fun c hc=>by
  simp only[zav,zc4,or_false] at hc;rcases hc with rfl|rfl|rfl|rfl|rfl|rfl|rfl|rfl|rfl|rfl|rfl<;>rfl⟩ h rfl
theorem xbux{W:World}(h: ∀(i:Nat) (x:Int),qrg[i]? =some x->W.cell? ⟨3,i,none⟩=some (.int .i64 x)):CRep W (fun b=>b<W.heap.size) (.vp qyt 0 0) (.pointer (some ⟨3,0,none⟩)):=by
 unfold qyt;rw[qab];exact xbmg (L:=qrg) rfl ⟨rfl,fun c hc=>by
  unfold qn0 at hc;simp only[zbe,List.map_nil,zav,zc4,or_false] at hc;rcases hc with rfl|rfl|rfl|rfl|rfl|rfl|rfl|rfl<;>rfl⟩ h rfl
theorem xbrl{W:World}(h1:Lib.VarReads Tryz.prog W "unicode/utf8.first" Go.Pinned.utf8First)(h2:Lib.VarReads Tryz.prog W "unicode/utf8.acceptRanges" xbmf)(h3:Lib.VarReads Tryz.prog W "apostille/algs.rows" xb7l)(h4:Lib.VarReads Tryz.prog W "apostille/mac.sizes" xb2f):
  ∀g c,qa8 g=some c->CRep W (fun b=>b<W.heap.size) (.vp c 0 0) (.pointer (some ⟨g,0,none⟩)):=by
 intro g c h;unfold qa8 at h
 cases hb:Nat.beq g 0 with
 | true=>
  rw[hb] at h;obtain rfl:=qag.1 hb;cases h;exact xbqx (q9k h1)
 | false=>
  rw[hb] at h
  cases hb':Nat.beq g 1 with
  | true=>
   rw[hb'] at h;obtain rfl:=qag.1 hb';cases h;exact xbi0 (q4r h2)
  | false=>
   rw[hb'] at h
   cases hk:Nat.beq g 2 with
   | true=>
    rw[hk] at h;obtain rfl:=qag.1 hk;cases h;exact xb0q (xbde h3)
   | false=>
    rw[hk] at h
    cases hr:Nat.beq g 3 with
    | true=>
     rw[hr] at h;obtain rfl:=qag.1 hr;cases h;exact xbux (q9l h4)
    | false=>rw[hr] at h;cases h
open Go.ChangeShapes Go.WideShapes Go.ChangeAt Go.RowKit
section
variable {H:Type} {enc:TypeId×Value->H}
end
theorem q9h{l:List Int}(hw: ∀n∈l,(Lit.int .u8 n).wf=true):qo3 l=true:=by unfold qo3;rw[qab,zai];exact fun x hx=>decide_eq_true (xbh9 (hw x hx))
end Go.Proofs.YtoaakappnhemiaaGreatDoorA
