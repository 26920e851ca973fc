/-
 A range over a function: the rounds, and the statement. The reader's code in the machine. Conditions: none.
-/
import Derived.Test.YtoaakappnhemiaaGreatDoorK2a
import Derived.RangeFuncLeaves
import Derived.RangeFuncRecord
import Derived.RangeFuncOwn
import Derived.Recover
set_option linter.unusedVariables false
set_option linter.unusedSimpArgs false
set_option maxRecDepth 100000
set_option linter.defProp false
namespace Go.Proofs.YtoaakappnhemiaaGreatDoorA
variable {P:Program}{H H':Heap}{a:Act}{w w':World}{Im Im':NP}{ρ:NL}{t:TypeId}{p i:Nat}{ops:Array Oper}{Q:EP}{S:Nat->Option Sh}{fn:Func}{v:V}{vs:List Value}{g:FuncId}
section
variable {P:Program} {E:Env} {w0:Base} {bl I0:NP} {s:LS} {H:Heap} {a:Act} {w w':World} {Im:NP} {ρ:NL}
def Inv.widen(h:Inv E w0 bl I0 s H a w Im ρ){bl':NP}(hb: ∀b,bl b->bl' b):Inv E w0 bl' I0 s H a w Im ρ:=by
 refine⟨⟨h.gam.im,h.gam.i0,h.gam.ob,h.gam.dj,fun p o b x y hp hr=>⟨(h.gam.lk p o b x y hp hr).1,(h.gam.lk p o b x y hp hr).2.1,fun hl=>⟨((h.gam.lk p o b x y hp hr).2.2 hl).1,(((h.gam.lk p o b x y hp hr).2.2 hl).2).imp (hb b) id⟩⟩,fun b hm=> ?_⟩,
  h.fr.mono fun b x=>.inl (hb b x),h.sl,h.nt,h.df,h.gl,h.st⟩
 rcases h.gam.imo b hm with e|e|e
 ·exact .inl e
 ·exact .inr (.inl (hb b e))
 ·exact .inr (.inr e)
def Inv.reslot(h:Inv E w0 bl I0 s H a w Im ρ){s2:LS}{a2:Act}(ha:a2.tmps.size=E.nt)(hh:Held E w0.df w0.w.heap.size a2 w Im)(hs: ∀t,VRep w Im ρ (shOf H) (getV s2 t) (a2.tmps.getD t undef)):Inv E w0 bl I0 s2 H a2 w Im ρ:=
 ⟨h.gam,h.fr,hs,ha,hh,h.gl,h.st⟩
def xbhb(h:Inv E w0 bl I0 s H a w Im ρ){b:Nat}(hb:obs H ρ b):Im b\/chg H ρ b:=by
 obtain⟨p,o,x,y,h1,h2⟩:=hb
 cases hl:o.lock with
 | true=>exact .inl ((h.gam.lk p o b x y h1 h2).2.1 hl)
 | false=>exact .inr ⟨p,o,x,y,h1,hl,h2⟩
def Inv.unbase2{E':Env}{s':LS}{a':Act}{I1 bl1:NP}{ρ':NL}{an:Nat->Option (Sh×Loc)}(h:Inv E w0 bl I0 s H a w Im ρ){df1:List Deferred}(h':Inv E ⟨w,an,df1⟩ bl1 I1 s' H' a' w' Im' ρ')(hb: ∀b,bl1 b->bl b\/w0.w.heap.size<=b)(h0: ∀b,I0 b->I1 b)(h1: ∀b,I1 b->I0 b\/bl b\/w0.w.heap.size<=b){a2:Act}(ht:a2.tmps=a'.tmps)(hh:Held E w0.df w0.w.heap.size a2 w' Im'):Inv E ⟨w0.w,an,w0.df⟩ bl I0 s' H' a2 w' Im' ρ':=by
 refine⟨⟨h'.gam.im,fun b hb=>h'.gam.i0 b (h0 b hb),h'.gam.ob,h'.gam.dj,fun p o b x y hp hr=>⟨(h'.gam.lk p o b x y hp hr).1,(h'.gam.lk p o b x y hp hr).2.1,fun hl=>⟨((h'.gam.lk p o b x y hp hr).2.2 hl).1, ?_⟩⟩,fun b hm=> ?_⟩,
  h.fr.trans h'.fr hb,fun t=>by rw[ht];exact h'.sl t,by rw[ht];exact h'.nt,hh,h'.gl,h'.st⟩
 ·rcases((h'.gam.lk p o b x y hp hr).2.2 hl).2 with e|e
  ·exact hb b e
  ·exact .inr (zcb h.fr.size e)
 ·rcases h'.gam.imo b hm with e|e|e
  ·exact h1 b e
  ·exact .inr (hb b e)
  ·exact .inr (.inr (zcb h.fr.size e))
def qdm(w:World)(l:Nat)(o:Go.Obj):(w.putObj l o).heap.size=w.heap.size:=by simp
def Inv.both{df:List Deferred}{W:World}{an:Nat->Option (Sh×Loc)}(h:Inv E ⟨W,an,df⟩ bl I0 s H a w Im ρ){l:Nat}{o:Go.Obj}(hl:l<W.heap.size)(hi: ¬Im l)(ho: ¬obs H ρ l):Inv E ⟨W.putObj l o,an,df⟩ bl I0 s H a (w.putObj l o) Im ρ:=by
 have hoth: ∀b,b≠l->(w.putObj l o).heap[b]? =w.heap[b]? :=fun b hb=>World.putObj_heap_other hb;have hk:Keep Im w (w.putObj l o):=fun b hb=>hoth b fun e=>hi (e▸hb);have hv: ∀v x,VRep w Im ρ (shOf H) v x->VRep (w.putObj l o) Im ρ (shOf H) v x:=fun v x hx=>hx.congr hk (fun _ h=>h) (fun q _=>.inr ⟨rfl,rfl⟩);have hs:W.heap.size<=w.heap.size:=h.fr.size;refine⟨⟨fun b hb=>by rw[qdm];exact h.gam.im b hb,h.gam.i0,fun p u hp=>(h.gam.ob p u hp).congr (fun b x y hr=>hoth b fun e=>ho ⟨p,u,x,y,hp,by rw[<- e];exact hr⟩) fun j c x _=>hv c x,h.gam.dj,
  fun p u b x y hp hr=> ?_,fun b hb=> ?_⟩,⟨h.fr.os,h.fr.tape,h.fr.output,by rw[qdm,qdm];exact hs,fun b hb hn=> ?_⟩,fun t=>hv _ _ (h.sl t),h.nt, ?_,fun g c hg=>(h.gl g c hg).keep hk (fun _ h=>h),h.st⟩
 ·have:=h.gam.lk p u b x y hp hr;rw[qdm];show _/\_/\(_->_/\(_\/(W.putObj l o).heap.size<=b));rw[qdm];exact this
 ·show _\/_\/(W.putObj l o).heap.size<=b;rw[qdm];exact h.gam.imo b hb
 ·rw[qdm] at hb;by_cases e:b=l
  ·subst e;rw[World.putObj_heap_same hb,World.putObj_heap_same (by omega)]
  ·rw[World.putObj_heap_other e,World.putObj_heap_other e];exact h.fr.block b hb hn
 ·show Held E df (W.putObj l o).heap.size a (w.putObj l o) Im;rw[qdm];exact h.df.keep hk (fun _ h=>h)
def Inv.vacate{σ:St}(h:Inv E w0 bl I0 σ.slots σ.heap a w Im ρ)(p:Nat):Inv E w0 bl I0 (vacate p σ).slots (vacate p σ).heap a w Im ρ:=by
 have hid: ∀c:V,renV (fun p=>p) c=c:=qmt;have hget: ∀(x:Nat) (o':Obj),qal (xbaz p σ.heap) x=some o'->x≠p/\∃o,qal σ.heap x=some o/\o'= {o with row:=qrn (fun c=>cond (qel p c) .undef c) o.row}:=fun x o' hx=>by
  rw[qgs] at hx;split at hx
  ·cases hx
  ·rename_i hne;obtain⟨u,hu,rfl⟩:=zam.1 hx;refine⟨hne,u,hu, ?_⟩;obtain⟨row,lock⟩:=u;cases row<;>simp[xba0,qrn]
 refine h.map (f:=fun p=>p) (g:=fun c=>cond (qel p c) .undef c) (Bad:=fun m=>m=p) (fun c=>rfl) (fun c=> ?_) (fun t=>.inr (qks p σ.slots t)) (fun x o' hx=> ?_) fun m hm=> ?_
 ·cases hb:qel p c with
  | true=>left;rfl
  | false=>right;exact⟨(hid c).symm,fun m hm e=>by subst e;rw[hb] at hm;cases hm⟩
 ·obtain⟨_,o,h1,h2⟩:=hget x o' hx;exact⟨x,o,h1,rfl,rfl,h2,fun _=>rfl⟩
 ·cases hx:qal (xbaz p σ.heap) m with
  | none=>left;simp[shOf,YtoaakappnhemiaaGreatDoorA.vacate,hx]
  | some o'=>
   right;obtain⟨_,o,h1,h2⟩:=hget m o' hx;refine⟨?_,rfl⟩;simp only[shOf,YtoaakappnhemiaaGreatDoorA.vacate,hx,h1,zao,h2];rw[qhv]
def xbcb{σ:St}{x:Nat}{o':Obj}(hx:qal (vacate p σ).heap x=some o'):x≠p/\∃o,qal σ.heap x=some o/\o.lock=o'.lock:=by
 change qal (xbaz p σ.heap) x=some o' at hx;rw[qgs] at hx;split at hx
 ·cases hx
 ·rename_i hne;obtain⟨u,hu,rfl⟩:=zam.1 hx;exact⟨hne,u,hu,rfl⟩
def Inv.vacAll: ∀(l:List Nat) {σ:St},Inv E w0 bl I0 σ.slots σ.heap a w Im ρ->Inv E w0 bl I0 (vacAll l σ).slots (vacAll l σ).heap a w Im ρ/\
  ∀x o',qal (vacAll l σ).heap x=some o'->x∉l/\∃o,qal σ.heap x=some o/\o.lock=o'.lock
 | [],σ,h=>⟨h,fun x o' hx=>⟨by simp,o',hx,rfl⟩⟩
 | p::r,σ,h=>by obtain⟨h1,h2⟩:=Inv.vacAll r (h.vacate p);refine⟨h1,fun x o' hx=> ?_⟩;obtain⟨g1,o,g2,g3⟩:=h2 x o' hx;obtain⟨k1,u,k2,k3⟩:=xbcb g2;exact⟨by simp[g1,k1],u,k2,k3.trans g3⟩
def setT:List Nat->List Value->Array Value->Array Value
 | p::ps,c::cs,t=>setT ps cs (t.setIfInBounds p c)
 | _,_,t=>t
def xbp4: ∀(ps:List Nat) (cs:List Value) (t:Array Value),(ps.zip cs).foldl (fun(t:Array Value) (x:Nat×Value)=>t.setIfInBounds x.1 x.2) t=setT ps cs t
 | [],cs,t=>rfl
 | p::ps,[],t=>rfl
 | p::ps,c::cs,t=>by simp only[List.zip_cons_cons,zbm,setT];exact xbp4 ps cs _
def xbwq(ps:Array Tmp)(cs:List Value)(t:Array Value):(ps.zip cs.toArray).foldl (fun(t:Array Value) (x:Nat×Value)=>t.setIfInBounds x.1 x.2) t=setT ps.toList cs t:=by rw[<- xbp4, <- Array.foldl_toList];simp
def q9j: ∀(ps:List Nat) (cs:List Value) (t:Array Value),(setT ps cs t).size=t.size
 | [],cs,t=>rfl
 | p::ps,[],t=>rfl
 | p::ps,c::cs,t=>by simp only[setT];rw[q9j ps cs];simp
def xbim{S:Nat->Option Sh}: ∀(ps:List Nat) (cs:LC) (us:List Value) (s:LS) (t:Array Value),xbj7 w Im cs us->(∀p∈ps,p<t.size)->(∀i,VRep w Im ρ S (getV s i) (t.getD i undef))->
  ∀i,VRep w Im ρ S (getV (xb4b ps cs s) i) ((setT ps us t).getD i undef)
 | [],cs,us,s,t,_,_,h=>h
 | p::ps,[],[],s,t,_,_,h=>h
 | p::ps,[],u::us,s,t,hc,_,h=>by have:=hc.1;simp at this
 | p::ps,c::cs,[],s,t,hc,_,h=>by have:=hc.1;simp at this
 | p::ps,c::cs,u::us,s,t,hc,hp,h=>by
  simp only[xb4b,setT];refine xbim ps cs us _ _ ⟨by simpa using hc.1,fun j c v hj hv=>hc.2 (j+1) c v (by simpa using hj) (by simpa using hv)⟩ (fun p hp'=>by simpa using hp p (by simp[hp'])) fun i=> ?_;rw[qth];rw[zav,zbp];split
  ·rename_i e;subst e;rw[yc rfl,yc (hp _ (by simp))];exact .cl _ _ (hc.2 0 c u rfl rfl)
  ·rename_i e;rw[yb (fun h=>e h.symm), <- zav];exact h i
structure Mid (E:Env) (B1:Base) (bl1 I1:NP) (l:Nat) (tm:Array Value) (σ:St) (W:World) (Im:NP) (ρ:NL) (O C:NP):Prop where
 inv:Inv E B1 bl1 I1 σ.slots σ.heap ⟨tm,[]⟩ W Im ρ
 ni: ¬Im l
 nc: ¬chg σ.heap ρ l
 o: ∀b,O b↔Im b\/chg σ.heap ρ b\/b=l\/(b<B1.w.heap.size/\¬bl1 b)
 c: ∀b,C b↔chg σ.heap ρ b\/b=l
variable {B1:Base} {bl1 I1:NP} {l:Nat} {tm:Array Value} {σ:St} {W W':World} {O C:NP}
def Mid.nob(h:Mid E B1 bl1 I1 l tm σ W Im ρ O C): ¬obs σ.heap ρ l:=fun e=>(xbhb h.inv e).elim h.ni h.nc
def Mid.beside(h:Mid E B1 bl1 I1 l tm σ W Im ρ O C){Ch:NP}(hf:Fr W Ch W')(hc: ∀b,Ch b-> ¬O b):Mid E B1 bl1 I1 l tm σ W' Im ρ O C:=by
 refine⟨h.inv.beside hf fun b hlt hb=> ?_,h.ni,h.nc,h.o,h.c⟩;have hn:=hc b hb;rw[h.o] at hn;refine⟨fun e=>hn (.inl e),fun e=>(xbhb h.inv e).elim (fun e=>hn (.inl e)) fun e=>hn (.inr (.inl e)), ?_⟩;by_cases e:bl1 b
 ·exact .inl e
 ·right;rcases zb5 b B1.w.heap.size with h'| h'
  ·exact absurd (.inr (.inr (.inr ⟨h',e⟩))) hn
  ·exact h'
def Mid.lt(h:Mid E B1 bl1 I1 l tm σ W Im ρ O C)(hl:l<B1.w.heap.size):(∀b,O b->b<W.heap.size)/\∀b,C b->O b:=by
 refine⟨fun b hb=> ?_,fun b hb=> ?_⟩
 ·rw[h.o] at hb;rcases hb with e|e|e|e
  ·exact h.inv.gam.im b e
  ·exact(qvb h.inv e).2.1
  ·rw[e];exact za5 hl h.inv.fr.size
  ·exact za5 e.1 h.inv.fr.size
 ·rw[h.c] at hb;rw[h.o];rcases hb with e|e
  ·exact .inr (.inl e)
  ·exact .inr (.inr (.inl e))
def Mid.freeze(h:Mid E B1 bl1 I1 l tm σ W Im ρ O C){Fz:NP}(hF: ∀b,Fz b->b<W.heap.size/\¬C b/\(I1 b\/bl1 b\/B1.w.heap.size<=b)):Mid E B1 bl1 I1 l tm σ W (fun b=>Im b\/Fz b) ρ (fun b=>O b\/Fz b) C:=by
 refine⟨h.inv.freeze fun b hb=>⟨(hF b hb).1,fun e=>(hF b hb).2.1 ((h.c b).2 (.inl e)),(hF b hb).2.2⟩,fun e=>e.elim h.ni fun e=>(hF l e).2.1 ((h.c l).2 (.inr rfl)),h.nc,fun b=> ?_,h.c⟩;constructor
 ·rintro(e|e)
  ·rcases(h.o b).1 e with e|e
   ·exact .inl (.inl e)
   ·exact .inr e
  ·exact .inl (.inr e)
 ·rintro((e|e)|e)
  ·exact .inl ((h.o b).2 (.inl e))
  ·exact .inr e
  ·exact .inl ((h.o b).2 (.inr e))
def YieldAt.mono'{n:Nat}{l:Nat}{args:Array Value}{W:World}{R R':Ending->World->Prop}(h:YieldAt Fence.wide n P l args W R)(hr: ∀e w',R e w'->R' e w'):YieldAt Fence.wide n P l args W R':=
 let ⟨fn,tmps,as,bo,h1,h2⟩:=h;⟨fn,tmps,as,bo,h1,h2.mono hr⟩
def xbay:Ex->Option Code
 | .ret=>some .ret
 | .exit i=>some (.exit i)
 | _=>none
def Mid.next{Wb w2:World}{o1 o2:Go.Obj}{s2:LS}{H2:Heap}{Im2:NP}{ρ2:NL}(h:Mid E B1 bl1 I1 l tm σ W Im ρ O C)(hl:l<B1.w.heap.size)(hbl:bl1 l)(h2:Inv E ⟨W.putObj l o1,fun j=>(qal σ.heap j).map fun o=>(shp o,ρ j),[]⟩ (chg σ.heap ρ) Im s2 H2 ⟨tm,[]⟩ w2 Im2 ρ2):
  ∃O' C',Mid E B1 bl1 I1 l tm ⟨s2,H2⟩ (w2.putObj l o2) Im2 ρ2 O' C'/\Fr W C (w2.putObj l o2)/\(∀b,O' b->O b\/W.heap.size<=b)/\(∀b,C' b->C b\/W.heap.size<=b):=by
 have hlW:l<W.heap.size:=za5 hl h.inv.fr.size;have hsz:(W.putObj l o1).heap.size=W.heap.size:=qdm _ _ _;have hIm: ∀b,Im2 b->Im b\/chg σ.heap ρ b\/W.heap.size<=b:=fun b hb=>by have:=h2.gam.imo b hb;rwa [hsz] at this
 have hch: ∀b,chg H2 ρ2 b->chg σ.heap ρ b\/W.heap.size<=b:=fun b hb=>by have:=(qvb h2 hb).2.2;rwa [hsz] at this
 have hb:Inv E B1 bl1 I1 σ.slots σ.heap ⟨tm,[]⟩ (W.putObj l o1) Im ρ:=h.inv.beside (Fr.putObj W l o1) fun b _ e=>by subst e;exact⟨h.ni,h.nob,.inl hbl⟩
 have hni: ¬Im2 l:=fun e=>(hIm l e).elim h.ni fun e=>e.elim h.nc fun e=>by omega
 have hnc: ¬chg H2 ρ2 l:=fun e=>(hch l e).elim h.nc fun e=>by omega
 have h3:Inv E B1 bl1 I1 s2 H2 ⟨tm,[]⟩ w2 Im2 ρ2:=hb.unbase (E':=E) h2 h2.nt (h.inv.df.nil rfl rfl) h2.sl;have h4:Inv E B1 bl1 I1 s2 H2 ⟨tm,[]⟩ (w2.putObj l o2) Im2 ρ2:=h3.beside (Fr.putObj w2 l o2) fun b _ e=>by subst e;exact⟨hni,fun e=>(xbhb h3 e).elim hni hnc,.inl hbl⟩
 refine⟨fun b=>Im2 b\/chg H2 ρ2 b\/b=l\/(b<B1.w.heap.size/\¬bl1 b),fun b=>chg H2 ρ2 b\/b=l,⟨h4,hni,hnc,fun b=>.rfl,fun b=>.rfl⟩, ?_,fun b hb=> ?_,fun b hb=> ?_⟩
 ·have f1:Fr W C (W.putObj l o1):=(Fr.putObj W l o1).mono fun b e=>.inl ((h.c b).2 (.inr e));have f2:Fr W C w2:=f1.trans h2.fr fun b e=>.inl ((h.c b).2 (.inl e));exact f2.trans (Fr.putObj w2 l o2) fun b e=>.inl ((h.c b).2 (.inr e))
 ·rw[h.o];rcases hb with e|e|e|e
  ·rcases hIm b e with e|e|e
   ·exact .inl (.inl e)
   ·exact .inl (.inr (.inl e))
   ·exact .inr e
  ·rcases hch b e with e|e
   ·exact .inl (.inr (.inl e))
   ·exact .inr e
  ·exact .inl (.inr (.inr (.inl e)))
  ·exact .inl (.inr (.inr (.inr e)))
 ·rw[h.c];rcases hb with e|e
  ·rcases hch b e with e|e
   ·exact .inl (.inl e)
   ·exact .inr e
  ·exact .inl (.inr e)
def xbbt(hE: ∀g,Sound P E.glob g (ctr E g))(hyl:E.yl=fun _=>none)(N:Nat){res:Out}{rid:Nat}{ps:Array Tmp}{assign body:Code}(la:qbf P E N assign)(lb:qbf P E N body)(pa:qm9 assign=true)(pb:qm9 body=true){k0:KT}{fn D:Nat}{rec:LoopState->Option Code->Loop}(hrec:rec=fun st pe=> {state:=st,pending:=pe,fn,tmps:=tm,params:=ps,assign,body,defers:=D})(hl:l<B1.w.heap.size)(hbl:bl1 l){x:LC}{xs:List LC}(hM:Mid E B1 bl1 I1 l tm σ W Im ρ O C)(hv:xbj7 W Im x vs)(hk:qhi E E.nt rid ps.toList (qby P E N assign) (qby P E N body) (x::xs) σ k0=some res)(hr:W.heap[l]? =some (.loop (rec .ready none))):
  YieldAt Fence.wide 0 P l vs.toArray W fun e W'=> ∃O' C',Fr W C W'/\(∀b,O' b->O b\/W.heap.size<=b)/\(∀b,C' b->C b\/W.heap.size<=b)/\
   ((e=.returned (.bool true)/\∃σ' Im' ρ',Mid E B1 bl1 I1 l tm σ' W' Im' ρ' O' C'/\qhi E E.nt rid ps.toList (qby P E N assign) (qby P E N body) xs σ' k0=some res/\W'.heap[l]? =some (.loop (rec .ready none)))\/
    (e=.returned (.bool false)/\∃σ' Im' ρ' ex jump,Mid E B1 bl1 I1 l tm σ' W' Im' ρ' O' C'/\k0 ex σ'=some res/\xbay ex=some jump/\W'.heap[l]? =some (.loop (rec .done (some jump))))):=by
 have hlW:l<W.heap.size:=za5 hl hM.inv.fr.size;simp only[qhi] at hk;obtain⟨hc,hk⟩:=qaa hk;simp only[zab,zai] at hc;obtain⟨hc1,hc3⟩:=hc;have hnt:tm.size=E.nt:=hM.inv.nt;have hy:=run_yield (P:=P) (args:=vs.toArray) hr (by rw[hrec];have:=qag.1 hc1;have:=hv.1;simp at*;omega);rw[hrec] at hy;refine⟨fn,_,assign,body,hy,roundIn_of_wpIn trivial ?_⟩;rw[xbwq];have h0:=hM.inv.rebase (setT ps.toList vs tm) (s':=xb4b ps.toList x σ.slots) (by rw[q9j];exact hnt) (xbim _ _ _ _ _ hv (fun p hp=>by have:=hc3 p hp;rw[zb4] at this;rw[hnt];exact this) hM.inv.sl);refine qqe hE hyl N assign pa la _ _ _ _ _ (fun e a1 w1 hl1=> ?_) hk ⟨Im,ρ,h0⟩;obtain⟨ex,σ1,Im1,ρ1,hk,h1,hm⟩:=hl1;cases ex<;>first|(simp only[reduceCtorEq] at hk;done)|skip
 cases e<;>first|exact hm.elim|skip
 have hr1:w1.heap[l]? =some (.loop (rec .ready none)):=(h1.fr.block l hlW hM.nc).trans hr;refine⟨_,run_beginRound hr1 (by rw[hrec]), ?_⟩;have hni1: ¬Im1 l:=fun e=>(h1.gam.imo l e).elim hM.ni fun e=>e.elim hM.nc fun e=>Nat.not_le.2 hlW e;have hno1: ¬obs σ1.heap ρ1 l:=fun e=>(xbhb h1 e).elim hni1 fun e=>((qvb h1 e).2.2).elim hM.nc fun e=>Nat.not_le.2 hlW e;have h1b:=h1.both (o:=.loop {rec .ready none with state:=.busy}) hlW hni1 hno1;refine qqe hE hyl N body pb lb _ _ _ _ _ (fun e a2 w2 hl2=> ?_) hk ⟨Im1,ρ1,h1b⟩;obtain⟨ex,σ2,Im2,ρ2,hk,h2,hm⟩:=hl2;have hbusy:w2.heap[l]? =some (.loop {rec .ready none with state:=.busy}):=(h2.fr.block l (by show l<(W.putObj l _).heap.size;rw[qdm];exact hlW) hM.nc).trans (World.putObj_heap_same hlW);have hl2:l<w2.heap.size:=(zcy.1 hbusy).1;have hb:Inv E B1 bl1 I1 σ.slots σ.heap ⟨tm,[]⟩ (W.putObj l (.loop {rec .ready none with state:=.busy})) Im ρ:=hM.inv.beside (Fr.putObj W l _) fun b _ e=>by subst e;exact⟨hM.ni,hM.nob,.inl hbl⟩
 have h2s:Inv E ⟨W.putObj l (.loop {rec .ready none with state:=.busy}),fun j=>(qal σ.heap j).map fun o=>(shp o,ρ j),[]⟩ (chg σ.heap ρ) Im (lowS σ.slots) σ2.heap ⟨tm,[]⟩ w2 Im2 ρ2:=
  h2.reslot hnt ⟨[],rfl,by simp,by simp,fun _=>rfl⟩ fun t=>by
   rcases qyv σ.slots t with⟨g1,g2⟩|g
   ·rw[g2] at g1 ⊢;exact xbtr hb h2 g1 (hb.sl t)
   ·rw[g];exact .undef _
 have fin: ∀jump:Option Code,(Instr.endRound l jump).run P w2=.ok (.bool jump.isNone) (w2.putObj l (.loop (rec (if jump.isNone then .ready else .done) jump))):=fun jump=>by have:=run_endRound (P:=P) jump hbusy;rw[hrec] at this ⊢;exact this
 have out: ∀(ex:Ex) (jump:Code),xbay ex=some jump->k0 ex ⟨lowS σ.slots,σ2.heap⟩=some res->∃v w',(Instr.endRound l (some jump)).run P w2=.ok v w'/\∃O' C',Fr W C w'/\(∀b,O' b->O b\/W.heap.size<=b)/\(∀b,C' b->C b\/W.heap.size<=b)/\
   (((Ending.returned v)=.returned (.bool true)/\∃σ' Im' ρ',Mid E B1 bl1 I1 l tm σ' w' Im' ρ' O' C'/\qhi E E.nt rid ps.toList (qby P E N assign) (qby P E N body) xs σ' k0=some res/\w'.heap[l]? =some (.loop (rec .ready none)))\/
    ((Ending.returned v)=.returned (.bool false)/\∃σ' Im' ρ' ex jump,Mid E B1 bl1 I1 l tm σ' w' Im' ρ' O' C'/\k0 ex σ'=some res/\xbay ex=some jump/\w'.heap[l]? =some (.loop (rec .done (some jump))))):=fun ex jump hj hk=>by
  obtain⟨O',C',g1,g2,g3,g4⟩:=hM.next (Wb:=W) (o2:=.loop (rec .done (some jump))) hl hbl h2s;exact⟨_,_,fin (some jump),O',C',g2,g3,g4,.inr ⟨rfl,_,Im2,ρ2,ex,jump,g1,hk,hj,World.putObj_heap_same hl2⟩⟩
 cases ex with
 | normal=>
  cases e<;>first|exact hm.elim|skip
  obtain⟨Im3,ρ3,h3⟩:=On.head (σ:=⟨lowS σ.slots,σ2.heap⟩) ⟨Im2,ρ2,h2s⟩ rid;obtain⟨O',C',g1,g2,g3,g4⟩:=hM.next (Wb:=W) (o2:=.loop (rec .ready none)) hl hbl h3;exact⟨_,_,fin none,O',C',g2,g3,g4,.inl ⟨rfl,_,Im3,ρ3,g1,hk,World.putObj_heap_same hl2⟩⟩
 | exit i=>
  cases e<;>first|exact hm.elim|skip
  have hm:i=_:=hm;subst hm;exact out (.exit i) _ rfl hk
 | ret=>
  cases e<;>first|exact hm.elim|skip
  exact out .ret _ rfl hk
 | pan c=>simp at hk
def qyf{H:Heap}{br:List Nat}: ∀ {l:LV} {i:Nat} {ts:List TypeId},(∀j,i<=j->j<i+l.length->br.any (Nat.beq j)=true)->xbcd P H br i ts l=some l/\qce H br i l=[]
 | [],i,ts,_=>⟨rfl,rfl⟩
 | v::r,i,ts,h=>by
  obtain⟨h1,h2⟩:=qyf (H:=H) (br:=br) (l:=r) (i:=i+1) (ts:=ts.tail) fun j hj hj'=>h j (by omega) (by simp;omega);have hi:=h i (zap _) (by simp);constructor
  ·unfold xbcd;rw[h1];simp only[hi,cond_true]
  ·unfold qce;rw[h2,hi];rfl
def xbl7{x:Value}(h:VRep w Im ρ S v x):VRep w Im ρ S (xb76 v) x:=by
 unfold xb76;split
 ·cases h with
  | cl _ _ h=>
   cases h with
   | fn _ _ _ va vb e1 e2=>
    have e1:va=[]:=by simpa using e1
    have e2:vb=[]:=by simpa using e2
    subst e1 e2;exact .fn _ [] [] [] [] rfl rfl (fun j c v hj=>by simp at hj) (fun j c v hj=>by simp at hj)
 ·exact h
def xbbr(hE: ∀g,Sound P E.glob g (ctr E g))(hsq:qdp P E)(hyl:E.yl=fun _=>none)(N:Nat){r:Out}{g:Operand}{ps:Array Tmp}{assign body:Code}(hlo:qbf P E N (.rangeFunc g ps assign body)){k:KT}{σ:St}(hQ: ∀e a w,Lands E w0 bl I0 k r e a w->Q e a w)(h:qby P E N (.rangeFunc g ps assign body) σ k=some r)(hO:On E w0 bl I0 σ a w):(Code.rangeFunc g ps assign body).wp P Q a w:=by
 obtain⟨Im,ρ,hI⟩:=hO;obtain⟨la,lb,pa,pb,hL⟩:=hlo;simp only[qby] at h;have hrg:E.rg=true:=by
  cases hr:E.rg with
  | true=>rfl
  | false=>rw[hr] at h;cases h
 rw[hrg] at h;simp only[zc7,cond_false] at h;split at h
 ·rename_i gf vb hgv;have hgr:=xbl7 (hI.opd g);rw[hgv] at hgr;generalize hga:a.eval g=gx at hgr
  cases hgr with
  | fn f va vb' va' vs ha hvl _ hvr=>
  have ha:va'=[]:=by simpa using ha
  subst ha;split at h
  ·rename_i obl hobs
   cases h28:Nat.ble 28 (dedup (qb7 σ.heap (List.range vb.length) 0 vb)).length with
   | true=>rw[h28] at h;cases h
   | false=>
   rw[h28] at h;simp only[cond_false] at h;replace h:=qaa h;obtain⟨hprs,h⟩:=h;split at h
   ·rename_i xs hxs;split at h
    ·rename_i L hLr;generalize hnm:dedup (qb7 σ.heap (List.range vb.length) 0 vb)=names at*;have hk:=hL L hLr _ _ _ _ h;obtain⟨hseq,fnf,hfn1,hfn2,hfn3⟩:=hsq gf _ _ _ hprs hxs;refine(wpIn_wide (n:=0)).1 (wpIn_rangeFunc fun fn _=> ?_);obtain⟨rec,hrec⟩: ∃rec:LoopState->Option Code->Loop,rec=fun st pe=> {state:=st,pending:=pe,fn,tmps:=a.tmps,params:=ps,assign,body,defers:=w.heap.size}:=⟨_,rfl⟩;obtain⟨W1,hW1⟩: ∃W1,(w.alloc (.deferred (some []))).alloc (.loop (rec .ready none))=W1:=⟨_,rfl⟩;have hs1:W1.heap.size=w.heap.size+2:=by rw[<- hW1];simp
     have hL1:W1.heap[w.heap.size+1]? =some (.loop (rec .ready none)):=by rw[<- hW1];have:=World.alloc_heap_new (w.alloc (.deferred (some []))) (.loop (rec .ready none));rwa [World.size_alloc] at this
     have hK1:W1.heap[w.heap.size]? =some (.deferred (some [])):=by rw[<- hW1];exact(Go.RowKit.Below.heap_alloc _ _ _ (by simp)).trans (World.alloc_heap_new w _)
     have hF1:Fr w (fun _=>False) W1:=by rw[<- hW1];exact(Fr.alloc w _ _).trans (Fr.alloc _ _ (fun _=>False)) fun b hb=>hb.elim
     have hI1:Inv E w0 bl I0 σ.slots σ.heap a W1 Im ρ:=hI.beside hF1 fun b _ hb=>hb.elim;have hw0:w0.w.heap.size<=w.heap.size:=hI.fr.size;have hcf: ∀args w,(callFunc gf args).run P w=.ok (.enter gf args) w:=fun args w=>by
      have hn': ¬fnf.name= "runtime.NumGoroutine" :=by simpa using hfn3
      obtain⟨c,hc⟩:=zax.1 hfn2;simp[callFunc,hfn1,hn',hc]
     refine⟨w.heap.size+1,[mark w.heap.size],W1,{target:=.fn (.func gf) vs.toArray,args:= #[.func (.yield (w.heap.size+1)) #[] #[]]},W1,gf, #[.func (.yield (w.heap.size+1)) #[] #[]]++vs.toArray,W1, ?_, ?_,fun _ _=>trivial, ?_,fun h=>by simp[Fence.wide] at h, ?_⟩
     ·rw[<- hW1,hrec];exact run_enterLoop_outer _ _ _ _ _
     ·simp only[resolve,hga];simp[go_sem]
     ·simp[invoke,go_sem,hcf]
     have hK:Keep Im w W1:=fun b hb=>hF1.block b (hI.gam.im b hb) fun h=>h;have hargs:RepL W1 Im ρ (shOf σ.heap) vb vs:=⟨hvl,fun j c v hj hv=>(hvr j c v hj hv).congr hK (fun _ h=>h) fun q _=>.inr ⟨rfl,rfl⟩⟩;have hall:=qyf (P:=P) (H:=σ.heap) (br:=List.range vb.length) (l:=vb) (i:=0) (ts:=[]) fun j _ hj=>zde.2 ⟨j,by simpa using hj,za7 j⟩;have hnd:names.Nodup:=by rw[<- hnm];exact qft _
     have hpre:=q5g (P:=P) (lent:=[]) hI1 hargs hnd (fun p _=>by simp) (by
      rcases zb5 names.length 28 with h'| h'
      ·omega
      ·rw[zcr h'] at h28;cases h28) hall.1 hobs (fun q hq=>by rw[<- hnm];exact ql8.2 hq) (fun q hq=>by rw[hall.2] at hq;simp at hq)
     have hImC: ∀b,ImC Im σ.heap ρ [] b↔Im b:=fun b=>⟨fun h=>h.elim id fun⟨p,hp,_⟩=>by simp at hp,.inl⟩;obtain⟨hv1,hv2⟩:=hI1.vacAll names;have hDn: ¬obs (vacAll names σ).heap ρ w.heap.size:=fun⟨p,o,x,y,g1,g2⟩=>by obtain⟨_,u,g3,_⟩:=hv2 p o g1;have:=(hI.gam.lk p u _ x y g3 g2).1;omega
     have hv3:=hv1.guard (D:=w.heap.size) (by omega) hw0 hDn;have hv4:=hv3.rebase a.tmps (s':=(vacAll names σ).slots) hI.nt hv3.sl;obtain⟨an1,han1,hOn⟩:=OnT.lowAll (E.lowr (qaj assign)) (T:=[]) (σ:=vacAll names σ) (w0:=⟨W1,fun j=>(qal (vacAll names σ).heap j).map fun o=>(shp o,ρ j),[]⟩) ⟨_,fun _ _ _ _ h=>h,_,_,hv4⟩;obtain⟨Im1,ρ1,hm1⟩:=(On.lowS hOn).head (qaj assign);generalize hσs:head E (qaj assign) ⟨lowS (lowAll (E.lowr (qaj assign)) (vacAll names σ)).slots,(lowAll (E.lowr (qaj assign)) (vacAll names σ)).heap⟩=σs at hm1 hk;have hchv: ∀b,chg (vacAll names σ).heap ρ b-> ¬Im b/\b<w.heap.size/\(bl b\/w0.w.heap.size<=b)/\¬blC σ.heap ρ names b:=fun b ⟨p,o,x,y,g1,g2,g3⟩=>by obtain⟨g4,u,g5,g6⟩:=hv2 p o g1;have:=hI.gam.lk p u b x y g5 g3;refine⟨(this.2.2 (g6.trans g2)).1,this.1,(this.2.2 (g6.trans g2)).2,fun⟨q,hq,v,x',y',k1,k2,k3⟩=> ?_⟩;have:=(hI.gam.dj p q u v b x y x' y' g5 k1 g3 k3 fun e=>g4 (e▸hq)).1;rw[g6,g2] at this;cases this
     have hblC: ∀b,blC σ.heap ρ names b-> ¬Im b/\b<w.heap.size/\(bl b\/w0.w.heap.size<=b):=fun b ⟨q,hq,v,x',y',k1,k2,k3⟩=>by have:=hI.gam.lk q v b x' y' k1 k3;exact⟨(this.2.2 k2).1,this.1,(this.2.2 k2).2⟩
     obtain⟨bl1,hbl1⟩: ∃bl1:NP,bl1=fun b=>chg (vacAll names σ).heap ρ b\/blC σ.heap ρ names b\/b=w.heap.size+1:=⟨_,rfl⟩;have hblw: ∀b,bl1 b->b=w.heap.size+1\/(¬Im b/\b<w.heap.size/\(bl b\/w0.w.heap.size<=b)):=fun b hb=>by
      rw[hbl1] at hb;rcases hb with e|e|e
      ·exact .inr ⟨(hchv b e).1,(hchv b e).2.1,(hchv b e).2.2.1⟩
      ·exact .inr (hblC b e)
      ·exact .inl e
     have hImv: ∀b,Im1 b->Im b\/b=w.heap.size\/chg (vacAll names σ).heap ρ b:=fun b hb=>by
      rcases hm1.gam.imo b hb with(e|e)|e|e
      ·exact .inl e
      ·exact .inr (.inl e)
      ·exact .inr (.inr e)
      ·exact absurd (hm1.gam.im b hb) (zd2.2 e)
     have hchv1: ∀b,chg σs.heap ρ1 b->chg (vacAll names σ).heap ρ b:=fun b hb=>by have:=qvb hm1 hb;exact this.2.2.resolve_right (Nat.not_le.2 this.2.1)
     obtain⟨B1,hB1⟩: ∃B1:Base,B1=⟨W1,an1,[]⟩:=⟨_,rfl⟩;have hM:Mid E B1 bl1 (fun b=>Im b\/b=w.heap.size) (w.heap.size+1) a.tmps σs W1 Im1 ρ1 (fun b=>Im1 b\/chg σs.heap ρ1 b\/b=w.heap.size+1\/(b<B1.w.heap.size/\¬bl1 b)) (fun b=>chg σs.heap ρ1 b\/b=w.heap.size+1):=by
      refine⟨by rw[hB1];exact hm1.widen fun b e=>by rw[hbl1];exact .inl e,fun e=> ?_,fun e=> ?_,fun b=>.rfl,fun b=>.rfl⟩
      ·rcases hImv _ e with e|e|e
       ·have:=hI.gam.im _ e;omega
       ·omega
       ·have:=(hchv _ e).2.1;omega
      ·have:=(hchv _ (hchv1 _ e)).2.1;omega
     have hlB:w.heap.size+1<B1.w.heap.size:=by rw[hB1];show _<W1.heap.size;omega
     have hbll:bl1 (w.heap.size+1):=by rw[hbl1];exact .inr (.inr rfl)
     have fin: ∀(σ':St) (W:World) (Im':NP) (ρ':NL) (O C:NP) (ex:Ex) (o:Go.Obj),Mid E B1 bl1 (fun b=>Im b\/b=w.heap.size) (w.heap.size+1) a.tmps σ' W Im' ρ' O C->xbzi (E.lowr (qaj assign)) k ex σ'=some r->
       ∃τ Im3 ρ3,k ex τ=some r/\Inv E w0 bl I0 τ.slots τ.heap {a with defers:=[mark w.heap.size]++a.defers} (W.putObj (w.heap.size+1) o) Im3 ρ3:=fun σ' W Im' ρ' O C ex o hMd hh=>by
      have h1:=hMd.inv.beside (Fr.putObj W (w.heap.size+1) o) fun b _ e=>by subst e;exact⟨hMd.ni,hMd.nob,.inl hbll⟩
      rw[hB1] at h1;have hHeld:Held E w0.df w0.w.heap.size {a with defers:=[mark w.heap.size]++a.defers} (W.putObj (w.heap.size+1) o) Im':=by
       obtain⟨Ds,d1,d2,d3,_⟩:=hI.df;refine⟨w.heap.size::Ds,by simp[d1],zdb.2 ⟨fun hm=> ?_,d2⟩,fun D hD=> ?_,fun e=>by rw[hrg] at e;cases e⟩
       ·have:=hI.gam.im _ (d3 _ hm).2.1;omega
       ·rcases zaw.1 hD with rfl|hD
        ·refine⟨hw0,h1.gam.i0 _ (.inr rfl),(World.putObj_heap_other (by omega)).trans ?_⟩;have:=hMd.inv.fr.block w.heap.size (by rw[hB1];show _<W1.heap.size;omega) fun e=>by
          rcases hblw _ e with e|e
          ·omega
          ·omega
         rw[hB1] at this;exact this.trans hK1
        ·have hlt:=hI.gam.im _ (d3 _ hD).2.1;refine⟨(d3 _ hD).1,h1.gam.i0 _ (.inl (d3 _ hD).2.1),(World.putObj_heap_other (by omega)).trans ?_⟩;have:=hMd.inv.fr.block D (by rw[hB1];show _<W1.heap.size;omega) fun e=>by
          rcases hblw _ e with e|e
          ·omega
          ·exact e.1 (d3 _ hD).2.1
         rw[hB1] at this;exact(this.trans (hK D (d3 _ hD).2.1)).trans (d3 _ hD).2.2
      have h2:=hI1.unbase2 (E':=E) h1 (fun b e=>by
        rcases hblw _ e with e|e
        ·exact .inr (by omega)
        ·exact e.2.2) (fun b e=>.inl (hI.gam.i0 b e)) (fun b e=>by
        rcases e with e|e
        ·exact hI.gam.imo b e
        ·exact .inr (.inr (by omega))) (a2:= {a with defers:=[mark w.heap.size]++a.defers}) rfl hHeld
      have h3:On E ⟨w0.w,an1,w0.df⟩ bl I0 σ' _ _:=⟨Im',ρ',h2⟩;have h4:=On.renAll ((E.lowr (qaj assign)).map fun(p,q)=>(q,p)) h3;unfold xbzi at hh;simp only at hh;have key:(cond ((E.lowr (qaj assign)).all fun(_,q)=>match qal (renAll ((E.lowr (qaj assign)).map fun(p,q)=>(q,p)) σ').heap q with|none=>true|some _=>false) (k ex (renAll ((E.lowr (qaj assign)).map fun(p,q)=>(q,p)) σ')) none)=some r:=by cases ex<;>first|exact hh|cases hh
      obtain⟨hc,hk⟩:=qaa key;obtain⟨Im3,ρ3,h5⟩:=h4.high (T:=(E.lowr (qaj assign)).map (·.2)++[]) (fun j hj hn z hz=>by
       have:=han1 j hj hn z hz;obtain⟨o',g1,rfl⟩:=zam.1 this;exact hv1.st j o' hj g1) fun j hj=>by
        simp only[zb2,zbo] at hj;obtain⟨⟨p,q⟩,hpq,rfl⟩:=hj;have:=zai.1 hc _ hpq;simp only at this
        cases hg:qal (renAll ((E.lowr (qaj assign)).map fun(p,q)=>(q,p)) σ').heap q with
        | none=>rfl
        | some o=>rw[hg] at this;cases this
      exact⟨_,Im3,ρ3,hk,h5⟩
     have hJs: ∀(σ':St) (Im':NP) (ρ':NL) (O C:NP) (W W':World) (Ch:NP) (o:Go.Obj),Mid E B1 bl1 (fun b=>Im b\/b=w.heap.size) (w.heap.size+1) a.tmps σ' W Im' ρ' O C->Fr W Ch W'->(∀b,Ch b-> ¬O b)->W.heap[w.heap.size+1]? =some o->W'.heap[w.heap.size+1]? =some o:=fun σ' Im' ρ' O C W W' Ch o hMd hf hc ho=>
      (hf.block _ (za5 hlB hMd.inv.fr.size) fun e=>hc _ e ((hMd.o _).2 (.inr (.inr (.inl rfl))))).trans ho
     refine(hseq W1 _ _ _ vs hpre (w.heap.size+1)
      (fun r' O C W=> ∃σ' Im' ρ',Mid E B1 bl1 (fun b=>Im b\/b=w.heap.size) (w.heap.size+1) a.tmps σ' W Im' ρ' O C/\qhi E E.nt (qaj assign) ps.toList (qby P E N assign) (qby P E N body) r' σ' (xbzi (E.lowr (qaj assign)) k)=some r/\W.heap[w.heap.size+1]? =some (.loop (rec .ready none)))
      (fun O C W=> ∃σ' Im' ρ' ex jump,Mid E B1 bl1 (fun b=>Im b\/b=w.heap.size) (w.heap.size+1) a.tmps σ' W Im' ρ' O C/\xbzi (E.lowr (qaj assign)) k ex σ'=some r/\xbay ex=some jump/\W.heap[w.heap.size+1]? =some (.loop (rec .done (some jump))))
      (fun r' O C W W' Ch ⟨σ',Im',ρ',g1,g2,g3⟩ hf hc=>⟨σ',Im',ρ',g1.beside hf hc,g2,hJs _ _ _ _ _ _ _ _ _ g1 hf hc g3⟩)
      (fun O C W W' Ch ⟨σ',Im',ρ',ex,jump,g1,g2,g4,g3⟩ hf hc=>⟨σ',Im',ρ',ex,jump,g1.beside hf hc,g2,g4,hJs _ _ _ _ _ _ _ _ _ g1 hf hc g3⟩)
      (fun r' O C W ⟨σ',Im',ρ',g1,_⟩=>g1.lt hlB) (fun O C W ⟨σ',Im',ρ',_,_,g1,_⟩=>g1.lt hlB)
      (fun x r' O C W Fz us ⟨σ',Im',ρ',g1,g2,g3⟩ hF hv=>YieldAt.mono' (xbbt hE hyl N la lb pa pb hrec hlB hbll (g1.freeze fun b hb=>⟨(hF b hb).1,(hF b hb).2.1,(hF b hb).2.2.elim (fun e=>.inl (.inl ((hImC b).1 e))) fun e=>.inr (e.elim (fun e=>.inl (by rw[hbl1];exact .inr (.inl e))) fun e=>.inr (by rw[hB1];exact e))⟩) (hv.mono fun b hb=>.inr hb) g2 g3) fun e W' ⟨O',C',k1,k2,k3,k4⟩=>⟨O',C',k1,fun b hb=>(k2 b hb).elim (fun e=>e.elim .inl fun e=>.inr (.inl e)) fun e=>.inr (.inr e),k3,k4⟩)
      _ _ ⟨_,Im1,ρ1,hM,hk,hL1⟩ (fun b hb=> ?_) (fun b hb hc=> ?_)).mono ?_
     ·rw[hImC];rcases hb with e|e
      ·exact⟨(hchv b (hchv1 b e)).1,(hchv b (hchv1 b e)).2.2.2⟩
      ·subst e;exact⟨fun e=>by have:=hI.gam.im _ e;omega,fun e=>by have:=(hblC _ e).2.1;omega⟩
     ·have hbw:=hblC b hc;rcases hb with e|e|e|e
      ·rcases hImv b e with e|e|e
       ·exact hbw.1 e
       ·omega
       ·exact(hchv b e).2.2.2 hc
      ·exact(hchv b (hchv1 b e)).2.2.2 hc
      ·omega
      ·exact e.2 (by rw[hbl1];exact .inr (.inl hc))
     ·rintro e W2 ⟨⟨v,rfl⟩,O',C',⟨σ',Im',ρ',g1,g2,g3⟩|⟨σ',Im',ρ',ex,jump,g1,g2,g4,g3⟩⟩
      ·have he:=run_endLoop (P:=P) g3 (by rw[hrec];simp);rw[hrec] at he;obtain⟨τ,Im3,ρ3,k1,k2⟩:=fin σ' W2 Im' ρ' O' C' .normal _ g1 (by simpa only [qhi] using g2);exact⟨none,_,he,hQ _ _ _ ⟨.normal,τ,Im3,ρ3,k1,k2,trivial⟩⟩
      ·obtain⟨o,he⟩: ∃o,(Instr.endLoop (w.heap.size+1)).run P W2=.ok (some jump) (W2.putObj (w.heap.size+1) o):=
        ⟨_,by have:=run_endLoop (P:=P) g3 (by rw[hrec];simp);rw[hrec] at this;exact this⟩
       obtain⟨τ,Im3,ρ3,k1,k2⟩:=fin σ' W2 Im' ρ' O' C' ex o g1 g2;refine⟨some jump,_,he, ?_⟩
       cases ex with
       | ret=>
        simp only[xbay,zaa] at g4;subst g4;exact wpIn_ret (hQ _ _ _ ⟨.ret,τ,Im3,ρ3,k1,k2,trivial⟩)
       | exit i=>
        simp only[xbay,zaa] at g4;subst g4;exact wpIn_exit (hQ _ _ _ ⟨.exit i,τ,Im3,ρ3,k1,k2,rfl⟩)
       | normal=>cases g4
       | pan c=>cases g4
    ·cases h
   ·cases h
  ·cases h
 ·cases h
def qeu(hE: ∀g,Sound P E.glob g (ctr E g))(hsq:qdp P E)(hyl:E.yl=fun _=>none)(hdraw:qxa P E)(N:Nat){r:Out}: ∀(c:Code),qbf P E N c->∀(k:KT) (Q:EP) (σ:St) (a:Act) (w:World),(∀e a w,Lands E w0 bl I0 k r e a w->Q e a w)->
  qby P E N c σ k=some r->On E w0 bl I0 σ a w->c.wp P Q a w:=by
 intro c
 induction c with
 | skip=>
  intro hlo k Q σ a w hQ h ⟨Im,ρ,hI⟩;exact wp_skip (hQ _ _ _ ⟨.normal,σ,Im,ρ,h,hI,trivial⟩)
 | region id ops draw=>
  intro hlo k Q σ a w hQ h hO;simp only[qby] at h
  cases draw with
  | true=>
   simp only[cond_true] at h;replace h:=qaa h;have h1:=h.1;simp only[zab] at h1;have h2:=h.2;simp only[hyl] at h2;exact hdraw Out w0 bl I0 id ops Q k r _ a w hQ h1.1 h1.2 h2 (On.prep _ hO)
  | false=>
   simp only[hyl] at h;exact wp_region_list (qd0 hE hQ _ _ _ _ h (On.prep _ hO))
 | seq x y ihx ihy=>
  intro hlo k Q σ a w hQ h hO;simp only[qby] at h;refine wp_seq (ihx hlo.1 _ _ σ a w (fun e a w hl=> ?_) h hO);obtain⟨ex,σ',Im,ρ,h1,h2,h3⟩:=hl
  cases ex with
  | normal=>
   cases e<;>first|exact h3.elim|skip
   simp only at h1;split at h1
   ·rename_i L hL;exact ihy hlo.2.1 _ Q _ a w (qy1 hQ) (hlo.2.2 L hL _ _ _ h1) (On.head (σ:=σ') ⟨Im,ρ,h2⟩ _)
   ·exact ihy hlo.2.1 k Q σ' a w hQ h1 ⟨Im,ρ,h2⟩
  | exit i=>
   cases e<;>first|exact h3.elim|skip
   exact hQ _ _ _ ⟨_,σ',Im,ρ,h1,h2,h3⟩
  | ret=>
   cases e<;>first|exact h3.elim|skip
   exact hQ _ _ _ ⟨_,σ',Im,ρ,h1,h2,h3⟩
  | pan c=>
   cases e<;>first|exact h3.elim|skip
   exact hQ _ _ _ ⟨_,σ',Im,ρ,h1,h2,h3⟩
 | cond x c d ihc ihd=>
  intro hlo k Q σ a w hQ h ⟨Im,ρ,hI⟩;simp only[qby] at h;split at h
  ·rename_i t;obtain⟨b,s',h1,h2,h3⟩:=qgz h hI;refine wp_cond (t:=b) h3 ?_
   cases b with
   | true=>exact ihc hlo.1 k Q _ a w hQ h1 ⟨Im,ρ,h2⟩
   | false=>
    simp only at h1;split at h1
    ·rename_i L hL;exact ihd hlo.2.1 _ Q _ a w (qy1 hQ) (hlo.2.2 L hL _ _ _ h1) (On.head (σ:=⟨s',σ.heap⟩) ⟨Im,ρ,h2⟩ _)
    ·exact ihd hlo.2.1 k Q _ a w hQ h1 ⟨Im,ρ,h2⟩
  ·exact wp_cond (t:=true) rfl (ihc hlo.1 k Q _ a w hQ h ⟨Im,ρ,hI⟩)
  ·exact wp_cond (t:=false) rfl (ihd hlo.2.1 k Q _ a w hQ h ⟨Im,ρ,hI⟩)
  ·cases h
 | block id c ih=>
  intro hlo k Q σ a w hQ h hO;simp only[qby] at h;refine wp_block (ih hlo _ _ σ a w (fun e a w hl=> ?_) h hO);obtain⟨ex,σ',Im,ρ,h1,h2,h3⟩:=hl
  cases ex with
  | normal=>
   cases e<;>first|exact h3.elim|skip
   exact hQ _ _ _ ⟨_,σ',Im,ρ,h1,h2,h3⟩
  | exit i=>
   cases e<;>first|exact h3.elim|skip
   rename_i i';have h3:i=i':=h3;subst h3;show if i=id then Q .normal a w else Q (.exit i) a w
   cases hb:Nat.beq i id with
   | true=>
    simp only[hb,cond_true] at h1;rw[yc (qag.1 hb)];exact hQ _ _ _ ⟨.normal,σ',Im,ρ,h1,h2,trivial⟩
   | false=>
    simp only[hb,cond_false] at h1;rw[yb (qbh hb)];exact hQ _ _ _ ⟨.exit i,σ',Im,ρ,h1,h2,rfl⟩
  | ret=>
   cases e<;>first|exact h3.elim|skip
   exact hQ _ _ _ ⟨_,σ',Im,ρ,h1,h2,h3⟩
  | pan c=>
   cases e<;>first|exact h3.elim|skip
   exact hQ _ _ _ ⟨_,σ',Im,ρ,h1,h2,h3⟩
 | loop c ih=>
  intro hlo k Q σ a w hQ h hO;simp only[qby] at h;have key: ∀n σ',q2c n (qby P E N c) (head E (qaj c)) σ' k=some r->On E w0 bl I0 σ' a w->(Code.loop c).wp P Q a w:=fun n σ' h hO=>
   wp_loop_rounds n (qvz hQ (fun k' Q' σ a w hq hb hO=>ih hlo.1 k' Q' σ a w hq hb hO) (fun σ a w h=>h.head _) n _ a w h hO)
  split at h
  ·rename_i L hL;obtain⟨n,hn⟩:=hlo.2 L hL _ _ _ h;exact key n _ hn (hO.head _)
  ·exact key N _ h (hO.head _)
 | exit id=>
  intro hlo k Q σ a w hQ h hO;obtain⟨Im,ρ,hI⟩:=On.tx (l:=E.xl (id+1)) hO;exact wp_exit (hQ _ _ _ ⟨.exit id,_,Im,ρ,h,hI,rfl⟩)
 | ret=>
  intro hlo k Q σ a w hQ h hO;obtain⟨Im,ρ,hI⟩:=On.tx (l:=E.xl 0) hO;exact wp_ret (hQ _ _ _ ⟨.ret,_,Im,ρ,h,hI,trivial⟩)
 | rangeFunc g ps assign body=>
  intro hlo k Q σ a w hQ h hO;exact xbbr hE hsq hyl N hlo hQ h hO
 | _=>intro hlo k Q σ a w hQ h _;simp[qby] at h
end
section
variable {P:Program} {E:Env} {w0:Base} {bl I0:NP}
def qp1{v val:Value}(h:(Instr.loadAt t v).run P w=.ok val w):(do loadVar t (<- asAddr v):Sem Value).run P w=.ok val w:=by
 cases v with
 | pointer p=>
  cases p with
  | none=>simp[Instr.loadAt,Instr.sureAddr] at h
  | some A=>simpa [Instr.loadAt,Instr.sureAddr,asAddr] using h
 | _=>simp[Instr.loadAt,Instr.sureAddr] at h
def xbbs(tmps:Array Value):ResultVar->Sem Value
 | .tmp t=>pure (tmps.getD t undef)
 | .cell a t=>do loadVar t (<- asAddr (tmps.getD a undef))
def qp0{σ:St}{a:Act}{w:World}{Im:NP}{ρ:NL}(hI:Inv E w0 bl I0 σ.slots σ.heap a w Im ρ): ∀(l:List ResultVar) (ts:List TypeId) (vs:LV),YtoaakappnhemiaaGreatDoorA.results P l σ ts=some vs->
  ∃us,(l.mapM (xbbs a.tmps)).run P w=.ok us w/\RepL w Im ρ (shOf σ.heap) vs us
 | [],ts,vs,h=>by simp only[YtoaakappnhemiaaGreatDoorA.results,zaa] at h;subst h;exact⟨[],by simp,rfl,by simp⟩
 | .tmp t::r,ts,vs,h=>by
  simp only[YtoaakappnhemiaaGreatDoorA.results] at h
  cases hr:YtoaakappnhemiaaGreatDoorA.results P r σ ts.tail with
  | none=>rw[hr] at h;cases h
  | some l=>
   rw[hr] at h;simp only[zaa] at h;subst h;obtain⟨us,h1,h2,h3⟩:=qp0 hI r ts.tail l hr;refine⟨a.tmps.getD t undef::us, ?_,by simp[h2],fun j c v hj hv=> ?_⟩
   ·rw[List.mapM_cons];simp only[Sem.run_bind,xbbs,Sem.run_pure,Result.andThen_ok,h1]
   ·cases j with
    | zero=>
     simp only[zar,zaa] at hj hv;subst hj hv;exact hI.sl t
    | succ j=>simp at hj hv;exact h3 j c v hj hv
 | .cell c t::r,ts,vs,h=>by
  simp only[YtoaakappnhemiaaGreatDoorA.results] at h
  cases hl:qvd P σ.heap t (getV σ.slots c) some with
  | none=>rw[hl] at h;cases h
  | some v0=>
   cases hr:YtoaakappnhemiaaGreatDoorA.results P r σ ts.tail with
   | none=>rw[hl,hr] at h;cases h
   | some l=>
    rw[hl,hr] at h;simp only[zaa] at h;subst h;obtain⟨us,h1,h2,h3⟩:=qp0 hI r ts.tail l hr;obtain⟨v',val,g1,g2,g3⟩:=qv1 hI.gam.ob hl (hI.sl c);simp only[zaa] at g1;subst g1;refine⟨val::us, ?_,by simp[h2],fun j d v hj hv=> ?_⟩
    ·rw[List.mapM_cons];have:=qp1 g3;simp only[Sem.run_bind,xbbs,Sem.run_pure,Result.andThen_ok,h1] at this ⊢;rw[this];simp[h1]
    ·cases j with
     | zero=>simp at hj hv;subst hj hv;exact g2
     | succ j=>simp at hj hv;exact h3 j d v hj hv
def qwo{tmps:Array Value}{us:List Value}(h:(fn.results.toList.mapM (xbbs tmps)).run P w=.ok us w):(Go.results fn tmps).run P w=.ok (wrap us) w:=by
 have e:(fn.results.mapM (xbbs tmps)).run P w=.ok us.toArray w:=by rw[Array.mapM_eq_mapM_toList];simp only[Sem.run_map,h,Result.andThen_ok]
 have e2:(Go.results fn tmps)=(do let vs<- fn.results.mapM (xbbs tmps);pure (if h:vs.size=1 then vs[0] else .tuple vs)):=by
  unfold Go.results;congr 1
  try congr 1
  try (funext x;cases x<;>rfl)
 rw[e2];simp only[Sem.run_bind,e,Result.andThen_ok,Sem.run_pure]
 cases us with
 | nil=>rfl
 | cons u r=>cases r<;>simp[wrap]
def qqd{H:Heap}: ∀ {vs:LV} {ts:List TypeId} {l:LV},qph P H ts vs=some l->l.length=vs.length/\∀(j:Nat) (v u:V),vs[j]? =some v->l[j]? =some u->∃t c,u=.cl c/\qb4 P H 6 t v=some c
 | [],ts,l,h=>by simp[qph] at h;subst h;simp
 | v::r,ts,l,h=>by
  simp only[qph] at h
  cases h1:qb4 P H 6 (ts.headD 0) v with
  | none=>rw[h1] at h;cases h
  | some c=>
   cases h2:qph P H ts.tail r with
   | none=>rw[h1,h2] at h;cases h
   | some l'=>
    rw[h1,h2] at h;simp only[zaa] at h;subst h;obtain⟨g1,g2⟩:=qqd h2;refine⟨by simp[g1],fun j x u hj hu=> ?_⟩
    cases j with
    | zero=>simp at hj hu;subst hj hu;exact⟨_,c,rfl,h1⟩
    | succ j=>simp at hj hu;exact g2 j x u hj hu
def qzr{s:LS}{ρ0:NL}{obs:List Obj}(hI:Inv E w0 bl I0 s H a w Im ρ)(hsm:obs.length<=32)(han: ∀j o,obs[j]? =some o->w0.an j=some (shp o,ρ0 j)):Post w0.w I0 ρ0 bl obs w Im ρ (qhw H obs.length):=by
 have hget: ∀j,qal (qvy 0 (qhw H obs.length)) j=if j<obs.length then qal H j else none:=fun j=>by
  rw[qh8,yc (by omega),zc2];unfold qhw;rw[zah];by_cases hj:j<obs.length
  ·rw[zcp hj,yc hj];rfl
  ·rw[zbi (by simpa using hj),yb hj];rfl
 refine⟨hI.fr,hI.gam.map (f:=fun p=>p) (g:=fun c=>c) (Bad:=fun _=>False) (fun c=>rfl) (fun c=>.inr ⟨(qmt c).symm,fun _ _ h=>h⟩) (fun q o' hq=> ?_) (fun m _=> ?_),fun j o o' hj hj'=> ?_⟩
 ·rw[hget] at hq;split at hq
  ·refine⟨q,o',hq,rfl,rfl, ?_⟩;obtain⟨row,lock⟩:=o';cases row<;>simp[qrn]
  ·cases hq
 ·by_cases hm:m<obs.length
  ·right;exact⟨by simp[shOf,hget,hm],rfl⟩
  ·left;simp[shOf,hget,hm]
 ·have hlt:j<obs.length:=(zae.1 hj).1;unfold qhw at hj';rw[zah,zcp hlt] at hj';simp only[zao,zaa] at hj';have h1:=hI.st j o' (by omega) hj';rw[han j o hj] at h1;simp only[zaa,zaz] at h1;exact⟨h1.1.symm,h1.2.symm⟩
def q9b(f:Nat->Nat)(r:Rw):qh5 f r=qrn (renV f) r:=by
 cases r<;>simp only[qh5,qrn]
 case var l=>
  congr 1;have key: ∀l:LV,renL f l=l.map (renV f):=fun l=>by
   induction l with
   | nil=>rfl
   | cons v r ih=>simp[renL,ih]
  exact key l
def xblg{s:LS}{ρ0:NL}{obs:List Obj}{rest:List Nat}(hI:Inv E w0 bl I0 s H a w Im ρ)(hsm:obs.length<=32)(hlen:(List.range obs.length++rest).length<=32)(hnd:(List.range obs.length++rest).Nodup)(han: ∀j o,obs[j]? =some o->w0.an j=some (shp o,ρ0 j)): ∃ρ',Post w0.w I0 ρ0 bl obs w Im ρ' (((List.range obs.length++rest).map (qal H)).map fun o=>o.map fun o=> {o with row:=qh5 (qbk (List.range obs.length++rest) 0) o.row})/\
   ∀v x,VRep w Im ρ (shOf H) v x->VRep w Im ρ' (shOf (qvy 0 (((List.range obs.length++rest).map (qal H)).map fun o=>o.map fun o=> {o with row:=qh5 (qbk (List.range obs.length++rest) 0) o.row}))) (renV (qbk (List.range obs.length++rest) 0) v) x:=by
 have hfst: ∀j,j<obs.length->(List.range obs.length++rest)[j]? =some j:=fun j hj=>by rw[za4 (by simpa using hj),zcp hj]
 generalize hall:List.range obs.length++rest=all at*;have hget: ∀q,qal (qvy 0 ((all.map (qal H)).map fun o=>o.map fun o=> {o with row:=qh5 (qbk all 0) o.row})) q=((all[q]?).bind (qal H)).map fun o=> {o with row:=qrn (renV (qbk all 0)) o.row}:=fun q=>by
  rw[qh8,yc (by omega),zc2,zah,zah]
  cases all[q]? with
  | none=>rfl
  | some p=>simp only[zao,zak,id,q9b]
 let ρ':NL:=fun q=>match all[q]? with|some p=>ρ p|none=>none
 have hin: ∀(j p:Nat),all[j]? =some p->qbk all 0 p=j/\ρ' j=ρ p:=fun j p h=>⟨by rw[qti hnd h,zay],by show(match all[j]? with|some p=>ρ p|none=>none)=_;rw[h]⟩;have hb: ∀m, ¬False->shOf (qvy 0 ((all.map (qal H)).map fun o=>o.map fun o=> {o with row:=qh5 (qbk all 0) o.row})) (qbk all 0 m)=none\/
   (shOf (qvy 0 ((all.map (qal H)).map fun o=>o.map fun o=> {o with row:=qh5 (qbk all 0) o.row})) (qbk all 0 m)=shOf H m/\ρ' (qbk all 0 m)=ρ m):=fun m _=>by
  by_cases hm:m∈all
  ·obtain⟨j,hj⟩:=zca.1 hm;obtain⟨e1,e2⟩:=hin j m hj;right;rw[e1];refine⟨?_,e2⟩;unfold shOf;rw[hget,hj];simp only[zak]
   cases qal H m with
   | none=>rfl
   | some o=>simp only[zao,qhv]
  ·left;unfold shOf;rw[qpl hm,hget,zbi (by omega)];rfl
 refine⟨ρ',⟨hI.fr,hI.gam.map (f:=qbk all 0) (g:=renV (qbk all 0)) (Bad:=fun _=>False) (fun c=>rfl) (fun c=>.inr ⟨rfl,fun _ _ h=>h⟩) (fun q o' hq=> ?_) hb,fun j o o' hj hj'=> ?_⟩,fun v x hx=>
  q8i (g:=renV (qbk all 0)) (Bad:=fun _=>False) (fun c=>.inr ⟨rfl,fun _ _ h=>h⟩) hb v x hx⟩
 ·rw[hget] at hq
  cases hp:all[q]? with
  | none=>rw[hp] at hq;cases hq
  | some p=>
   rw[hp] at hq;obtain⟨o,ho,rfl⟩:=zam.1 hq;obtain⟨e1,e2⟩:=hin q p hp;exact⟨p,o,ho,e1,e2,rfl⟩
 ·have hlt:j<obs.length:=(zae.1 hj).1;rw[zah,zah,hfst j hlt] at hj';simp only[zao,zaa] at hj';obtain⟨u,hu,rfl⟩:=zam.1 hj';have h1:=hI.st j u (by omega) hu;rw[han j o hj] at h1;simp only[zaa,zaz] at h1;rw[q9b,qhv];exact⟨h1.1.symm,by rw[(hin j j (hfst j hlt)).2];exact h1.2.symm⟩
def qfl{keep:Bool}{obs:List Obj}{σ:St}{out:Out}{ρ0:NL}(h:finish P keep fn obs.length σ=some out)(hO:On E w0 bl I0 σ a w)(hsm:obs.length<=32)(han: ∀j o,obs[j]? =some o->w0.an j=some (shp o,ρ0 j)): ∃v,(Go.results fn a.tmps).run P w=.ok v w/\Ends w0.w I0 ρ0 bl obs out (.returned v) w:=by
 obtain⟨Im,ρ,hI⟩:=hO;unfold finish at h;split at h
 ·cases h
 ·rename_i vs hvs;obtain⟨us,h1,h2⟩:=qp0 hI _ _ vs hvs;refine⟨wrap us,qwo h1, ?_⟩
  cases keep with
  | true=>
   simp only[cond_true] at h;replace h:=qaa h;obtain⟨hle,h⟩:=h;simp only[zaa] at h;subst h;obtain⟨ρ',k1,k2⟩:=xblg (ρ0:=ρ0) hI hsm (zbt hle) (List.nodup_append.2 ⟨List.nodup_range,(qft _).filter _,fun x hx y hy=>by
    have h1:=zb8.1 hx;have h2:=(zdu.1 hy).2;simp only[zal] at h2;intro e;subst e;have:Nat.blt x obs.length=true:=by simpa [zb4] using h1
    rw[this] at h2;cases h2⟩) han
   refine⟨us,Im,ρ',rfl,k1, ?_,fun j c v hj hv=> ?_⟩
   ·rw[qd9];exact h2.1
   ·rw[qj0] at hj;obtain⟨d,hd,rfl⟩:=zam.1 hj;exact k2 d v (h2.2 j d v hd hv)
  | false=>
   simp only[cond_false] at h;replace h:=qaa h;obtain⟨hall,h⟩:=h;split at h
   ·rename_i l hl;simp only[zaa] at h;subst h;obtain⟨Im',j1,j2,j3,j4⟩:=Inv.lockAll (vs.flatMap (reach σ.heap 6)) σ.heap Im hI fun q o hq=>⟨o,hq,rfl⟩;have hsame:qhw (updH σ.heap (lockAll σ.heap (vs.flatMap (reach σ.heap 6)))) obs.length=qhw σ.heap obs.length:=by
     unfold qhw;apply zcq;intro j hj;have hj:=zb8.1 hj;by_cases hm:j∈vs.flatMap (reach σ.heap 6)
     ·have hlk:=zai.1 hall j hm;have hb:Nat.blt j obs.length=true:=by simpa [zb4] using hj
      simp only[hb,zc7,Bool.false_or] at hlk
      cases ho:qal σ.heap j with
      | none=>
       cases h2:qal (updH σ.heap (lockAll σ.heap (vs.flatMap (reach σ.heap 6)))) j with
       | none=>rfl
       | some o=>
        obtain⟨o1,g,_⟩:=(qd2 (vs.flatMap (reach σ.heap 6)) (.refl σ.heap)).bwd h2;rw[ho] at g;cases g
      | some o=>
       rw[ho] at hlk;rw[(qgt _ σ.heap j).1 hm o ho];obtain⟨row,lock⟩:=o;have hlk:lock=true:=hlk;subst hlk;rfl
     ·exact(qgt _ σ.heap j).2 hm
    have hpost:=qzr (ρ0:=ρ0) j1 hsm han;rw[hsame] at hpost;obtain⟨g1,g2⟩:=qqd hl;refine⟨us,Im',ρ,rfl,hpost,by rw[g1];exact h2.1,fun j c v hj hv=> ?_⟩;obtain⟨v0,hv0⟩:=getElem?_of_length (l:=l) (vs:=vs) g1.symm hj;obtain⟨t,d,rfl,hcl⟩:=g2 j v0 c hv0 hj;exact .cl _ _ (qi9 P hI.gam.ob j2 6 t v0 d v hcl (h2.2 j v0 v hv0 hv) fun p hp o ho b x y hb=>j3 p (zb1.2 ⟨v0,zad hv0,hp⟩) o ho b x y hb)
   ·cases h
def CRep.cells{c:CV}{v:Value}(h:CRep w Im c v)(hc: ∀a,w'.cell? a=w.cell? a):CRep w' Im c v:=by
 induction h with
 | int k n=>exact .int k n
 | bool b=>exact .bool b
 | str s=>exact .str s
 | nili=>exact .nili
 | nilp=>exact .nilp
 | nilfn=>exact .nilfn
 | sli k l a len cap h1 h2 h3=>
  refine .sli k l a len cap h1 h2 fun i n hi=> ?_;obtain⟨ad,e,hb,h⟩:=h3 i n hi;exact⟨ad,e,hb,(hc _).trans h⟩
 | slg e l a len cap f h1 h2 h3 h4 h6 h5 ih=>
  refine .slg e l a len cap f h1 h2 h3 (fun j c hj=> ?_) h6 ih;obtain⟨ad,e,hb,h⟩:=h4 j c hj;exact⟨ad,e,hb,(hc _).trans h⟩
 | agg l vs h1 h2 _ ih=>exact .agg l vs h1 h2 ih
 | aggi n k l h=>exact .aggi n k l h
 | agga n e l vs h1 h2 h3 h4 _ ih=>exact .agga n e l vs h1 h2 h3 h4 ih
 | iface t c v _ ih=>exact .iface t c v ih
 | fn f a b va vb h1 h2 _ _ ih1 ih2=>exact .fn f a b va vb h1 h2 ih1 ih2
 | vp r i o e cs b off f h1 h2 h3 h4 h5 _ ih=>exact .vp r i o e cs b off f h1 h2 h3 (fun j c hj=>(hc _).trans (h4 j c hj)) h5 ih
 | any p v h=>exact .any p v h
 | is c v h _ ih=>exact .is c v h ih
def VRep.cells{x:Value}(h:VRep w Im ρ S v x)(hc: ∀a,w'.cell? a=w.cell? a):VRep w' Im ρ S v x:=by
 induction h with
 | undef v=>exact .undef v
 | cl c v h=>exact .cl c v (h.cells hc)
 | nils=>exact .nils
 | agg l vs h1 h2 _ ih=>exact .agg l vs h1 h2 ih
 | tup l vs h1 _ ih=>exact .tup l vs h1 ih
 | iface t c v _ ih=>exact .iface t c v ih
 | fn f a b va vb h1 h2 _ _ ih1 ih2=>exact .fn f a b va vb h1 h2 ih1 ih2
 | ptrN p i o ad h=>exact .ptrN p i o ad h
 | ptr p i o s b base lim h1 h2 h3=>exact .ptr p i o s b base lim h1 h2 h3
 | aptrN p n e ad h=>exact .aptrN p n e ad h
 | aptr p n e b base lim h1 h2=>exact .aptr p n e b base lim h1 h2
 | refN p o len tip e a cap h1 h2 h3=>exact .refN p o len tip e a cap h1 h2 h3
 | refV p s tip e h1 h2 h3 h4=>exact .refV p s tip e h1 h2 h3 h4
 | ref p o len tip e s b base lim ad cap h1 h2 h3 h4 h5 h6 h7 h8=>exact .ref p o len tip e s b base lim ad cap h1 h2 h3 h4 h5 h6 h7 h8
def Inv.shut{s:LS}{a':Act}(h:Inv E w0 bl I0 s H a w Im ρ)(ha:a'.tmps=a.tmps)(hh:Held E w0.df w0.w.heap.size a' w' Im)(hc: ∀a,w'.cell? a=w.cell? a)(hz: ∀a,w'.frozen? a=w.frozen? a)(hs:w'.heap.size=w.heap.size)(ho:w'.os=w.os)(ht:w'.tape=w.tape)(hu:w'.output=w.output)(hb: ∀b,b<w0.w.heap.size->w'.heap[b]? =w.heap[b]?):Inv E w0 bl I0 s H a' w' Im ρ:=by
 refine⟨⟨fun b hb=>by rw[hs];exact h.gam.im b hb,h.gam.i0,fun p o hp=> ?_,h.gam.dj,fun p o b x y hp hr=>by rw[hs];exact h.gam.lk p o b x y hp hr,h.gam.imo⟩,
  ⟨ho.trans h.fr.os,ht.trans h.fr.tape,hu.trans h.fr.output,by rw[hs];exact h.fr.size,fun b hlt hn=>(hb b hlt).trans (h.fr.block b hlt hn)⟩,fun t=>by rw[ha];exact(h.sl t).cells hc,by rw[ha];exact h.nt,hh,fun g c hg=>(h.gl g c hg).cells hc,h.st⟩
 have:=h.gam.ob p o hp
 cases hr:ρ p with
 | none=>rw[hr] at this;exact this
 | some l=>
  rw[hr] at this;obtain⟨b,base,lim⟩:=l;obtain⟨h1,h2,h3,h4,h5⟩:=this;exact⟨h1,by rw[hs];exact h2,h3,fun i hi=>⟨by rw[hc];exact(h4 i hi).1,by rw[hz];exact(h4 i hi).2⟩,fun j c hj=>let ⟨v,hv1,ho,hv2⟩:=h5 j c hj;⟨v,by rw[hc];exact hv1,ho,hv2.cells hc⟩⟩
def xbin{D:Nat}{o o':Go.Obj}(h:w.heap[D]? =some o)(ho:o.isCells=false)(ho':o'.isCells=false)(a:Addr):(w.putObj D o').cell? a=w.cell? a/\(w.putObj D o').frozen? a=w.frozen? a:=by
 by_cases e:a.block=D
 ·have h1:=World.putObj_heap_same (w:=w) (o:=o') (zcy.1 h).1;unfold World.cell? World.frozen?;rw[e,h,h1];cases o<;>cases o'<;>simp_all [Go.Obj.isCells]
 ·have h1:=World.putObj_heap_other (w:=w) (o:=o') e;unfold World.cell? World.frozen?;rw[h1];exact⟨rfl,rfl⟩
def qm2{fn:Func}{R:Ending->World->Prop}{u:FrameMode}(hu:u≠.run){s:LS}{H:Heap}{Im:NP}{ρ:NL}{tmps:Array Value}: ∀(Ds:List Nat) (w:World),Ds.Nodup->(∀D∈Ds,w0.w.heap.size<=D/\Im D/\w.heap[D]? =some (.deferred (some [])))->(E.rg=false->Ds=[])->w0.df=[]->
  Inv E w0 bl I0 s H ⟨tmps,Ds.map mark⟩ w Im ρ->(∀w1,Inv E w0 bl I0 s H ⟨tmps,[]⟩ w1 Im ρ->(∀a,w1.cell? a=w.cell? a)->LeavesIn Fence.wide 0 P fn tmps R [] u w1)->LeavesInM Fence.wide 0 P fn tmps R (Ds.map mark) u w
 | [],w,_,_,_,_,hI,hR=>hR w hI fun _=>rfl
 | D::Ds,w,hn,hD,hrg,hdf,hI,hR=>by
  obtain⟨h1,h2,h3⟩:=hD D (by simp);have hcc:=xbin h3 rfl (o':=.deferred none) rfl;have hD': ∀D'∈Ds,w0.w.heap.size<=D'/\Im D'/\(w.putObj D (.deferred none)).heap[D']? =some (.deferred (some [])):=fun D' hD'=>by obtain⟨g1,g2,g3⟩:=hD D' (by simp[hD']);exact⟨g1,g2,(World.putObj_heap_other (fun e=>(zdb.1 hn).1 (by rw[<- e];exact hD'))).trans g3⟩
  have hI':Inv E w0 bl I0 s H ⟨tmps,Ds.map mark⟩ (w.putObj D (.deferred none)) Im ρ:=
   hI.shut rfl ⟨Ds,by rw[hdf,zb2],(zdb.1 hn).2,hD',fun e=>by cases hrg e⟩ (fun a=>(hcc a).1) (fun a=>(hcc a).2) (by simp[World.putObj]) rfl rfl rfl fun b hb=>World.putObj_heap_other (by omega)
  exact⟨hu,.inl ⟨D,_,rfl,run_takeDeferred h3,qm2 hu Ds _ (zdb.1 hn).2 hD' (fun e=>by cases hrg e) hdf hI' fun w1 k1 k2=>hR w1 k1 fun a=>(k2 a).trans (hcc a).1⟩⟩
def qtn{R:Ending->World->Prop}{s:LS}(hdf:w0.df=[])(hI:Inv E w0 bl I0 s H a w Im ρ)(h: ∀w1 (a1:Act),a.tmps=a1.tmps->Inv E w0 bl I0 s H a1 w1 Im ρ->∃v,(Go.results fn a.tmps).run P w1=.ok v w1/\R (.returned v) w1):LeavesInM Fence.wide 0 P fn a.tmps R a.defers .returning w:=by obtain⟨Ds,h1,h2,h3,h4⟩:=hI.df;rw[hdf,zb2] at h1;obtain⟨tmps,defers⟩:=a;simp only at h1;subst h1;exact qm2 (by simp) Ds w h2 h3 h4 hdf hI fun w1 k1 _=>h w1 ⟨tmps,[]⟩ rfl k1
def xbgf{R:Ending->World->Prop}{s:LS}{c:CV}{x:Value}{ch:List PanicEntry}(hdf:w0.df=[])(hI:Inv E w0 bl I0 s H a w Im ρ)(hc:CRep w Im c x)(h: ∀w1 (a1:Act),Inv E w0 bl I0 s H a1 w1 Im ρ->CRep w1 Im c x->R (.panicked ch) w1):LeavesInM Fence.wide 0 P fn a.tmps R a.defers (.panicking ch) w:=by obtain⟨Ds,h1,h2,h3,h4⟩:=hI.df;rw[hdf,zb2] at h1;obtain⟨tmps,defers⟩:=a;simp only at h1;subst h1;exact qm2 (by simp) Ds w h2 h3 h4 hdf hI fun w1 k1 k2=>h w1 ⟨tmps,[]⟩ k1 (hc.cells k2)
def qlq: ∀(l:LV) (i t:Nat),getV (slots0 i l) t=if i<=t then(l[t - i]?).getD .undef else .undef
 | [],i,t=>by simp[slots0,getV,qal]
 | v::r,i,t=>by
  have ih:=qlq r (i+1) t;simp only[slots0,getV,qal]
  cases hb:Nat.beq i t with
  | true=>obtain rfl:=qag.1 hb;simp
  | false=>
   have hne:=qbh hb;simp only[cond_false];show getV (slots0 (i+1) r) t=_;rw[ih];by_cases h:i<=t
   ·rw[yc (by omega),yc h,show t - i=(t - (i+1))+1 by omega];simp
   ·rw[yb (by omega),yb h]
noncomputable def endK(P:Program)(keep:Bool)(fn:Func)(n:Nat):KT:=fun ex σ=>match ex with
 | .normal=>finish P keep fn n σ
 | .ret=>finish P keep fn n σ
 | .pan c=>some (.pan c (qhw σ.heap n))
 | .exit _=>none
def qvs{keep:Bool}{S:FSpec}(hf:P.funcs[g]? =some fn)(hn:(fn.name== "runtime.NumGoroutine")=false)(hb:fn.body.isSome=true)(hnt:E.nt=fn.ntmps)(hS: ∀as obs out,S as obs=some out->as.length<=fn.ntmps/\∀c,fn.body=some c->∀(w0:Base) (bl I0:NP) (a:Act) (w:World) (Q:EP),(∀e a w,Lands E w0 bl I0 (endK P keep fn obs.length) out e a w->Q e a w)->On E w0 bl I0 ⟨slots0 0 as,heap0 0 obs⟩ a w->c.wp P Q a w):Sound P E.glob g S:=by
 intro as obs out w Im ρ bl vs hs hpre;obtain⟨hlen,hbody⟩:=hS as obs out hs;obtain⟨c,hc⟩:=zax.1 hb;left;constructor
 ·have hn': ¬fn.name= "runtime.NumGoroutine" :=by simpa using hn
  simp[callFunc,hf,hn',hc]
 ·refine(callsIn_wide (n:=0)).1 (callsIn_of_wp_marks hf hc trivial (wpIn_wide.2 ?_) rfl);let w0:Base:=⟨w,fun j=>(qal (heap0 0 obs) j).map fun o=>(shp o,ρ j),[]⟩;have hvl:vs.length=as.length:=hpre.reps.1;have hO:On E w0 bl Im ⟨slots0 0 as,heap0 0 obs⟩ {tmps:=vs.toArray++Array.replicate (fn.ntmps - vs.toArray.size) undef,defers:=[]} w:=by
   refine⟨Im,ρ,hpre.gam,Fr.refl w bl,fun t=> ?_,by simp[hnt];omega,⟨[],rfl,by simp,by simp,fun _=>rfl⟩,hpre.gl,fun j o hj hg=> ?_⟩
   ·show VRep w Im ρ (shOf (heap0 0 obs)) (getV (slots0 0 as) t) _;rw[qlq,yc (by omega),zc2]
    cases ha:as[t]? with
    | none=>exact .undef _
    | some v=>
     have hlt:t<vs.length:=by have:=(zae.1 ha).1;omega
     have hv:=hpre.reps.2 t v _ ha (zag hlt);have:(vs.toArray++Array.replicate (fn.ntmps - vs.toArray.size) undef).getD t undef=vs[t]:=by rw[zav,zcn (by simpa using hlt)];simp[hlt]
     rw[this];exact hv
   ·show(qal (heap0 0 obs) j).map _=_;have hg:qal (heap0 0 obs) j=some o:=hg;rw[hg];rfl
  have han: ∀j o,obs[j]? =some o->w0.an j=some (shp o,ρ j):=fun j o hj=>by show(qal (heap0 0 obs) j).map _=_;rw[qgr,yc (by omega),zc2,hj];rfl
  refine hbody c hc w0 bl Im _ w _ (fun e a' w' hl=> ?_) hO;obtain⟨ex,σ',Im',ρ',h1,h2,h3⟩:=hl
  cases ex with
  | normal=>
   cases e<;>first|exact h3.elim|skip
   exact qtn rfl h2 fun w1 a1 ht h3=>by rw[ht];exact qfl h1 ⟨Im',ρ',h3⟩ hpre.small han
  | ret=>
   cases e<;>first|exact h3.elim|skip
   exact qtn rfl h2 fun w1 a1 ht h3=>by rw[ht];exact qfl h1 ⟨Im',ρ',h3⟩ hpre.small han
  | exit i=>cases h1
  | pan cv=>
   cases e<;>first|exact h3.elim|skip
   obtain⟨x,rfl,hcr⟩:=h3;have h1:some (Out.pan cv (qhw σ'.heap obs.length))=some out:=h1;simp only[zaa] at h1;subst h1;exact xbgf rfl h2 (c:=cv) (x:=x) hcr fun w1 a1 h3 hc3=>⟨x,Im',ρ',rfl,qzr h3 hpre.small han,hc3⟩
def xbd1{keep:Bool}{N:Nat}{S:FSpec}(hE: ∀g,Sound P E.glob g (ctr E g))(hsq:qdp P E)(hdraw:qxa P E)(hf:P.funcs[g]? =some fn)(hn:(fn.name== "runtime.NumGoroutine")=false)(hb:fn.body.isSome=true)(hyl:E.yl=fun _=>none)(hlo: ∀c,fn.body=some c->qbf P E N c)(hnt:E.nt=fn.ntmps)(hS: ∀as obs out,S as obs=some out->as.length<=fn.ntmps/\qqy P E N keep fn as obs=some out):Sound P E.glob g S:=
 qvs hf hn hb hnt fun as obs out h=>⟨(hS as obs out h).1,fun c hc w0 bl I0 a w Q hQ hO=>qeu hE hsq hyl hdraw N c (hlo c hc) _ _ _ a w hQ (by have:=(hS as obs out h).2;unfold qqy at this;rw[hc] at this;exact this) hO⟩
end
def Hands:Out->Option (List LC)->Prop
 | .ret _ _,rest=>rest=some []\/rest=none
 | .yld x f t,some (y::r)=>x=y/\Hands f none/\Hands t (some r)
 | _,_=>False
abbrev JT:=List LC->NP->NP->World->Prop
abbrev JX:=(NP)->NP->World->Prop
structure Caller (P:Program) (l:Nat) (Z:NP) (J:JT) (Jx:JX):Prop where
 s: ∀r O C W W' Ch,J r O C W->Fr W Ch W'->(∀b,Ch b-> ¬O b)->J r O C W'
 sx: ∀O C W W' Ch,Jx O C W->Fr W Ch W'->(∀b,Ch b-> ¬O b)->Jx O C W'
 b: ∀r O C W,J r O C W->(∀b,O b->b<W.heap.size)/\∀b,C b->O b
 bx: ∀O C W,Jx O C W->(∀b,O b->b<W.heap.size)/\∀b,C b->O b
 y: ∀x r O C W Fz vs,J (x::r) O C W->(∀b,Fz b->b<W.heap.size/\¬C b/\Z b)->xbj7 W Fz x vs->YieldAt Fence.wide 0 P l vs.toArray W fun e W'=> ∃O' C',Fr W C W'/\(∀b,O' b->O b\/Fz b\/W.heap.size<=b)/\(∀b,C' b->C b\/W.heap.size<=b)/\
   ((e=.returned (.bool true)/\J r O' C' W')\/(e=.returned (.bool false)/\Jx O' C' W'))
def Prog(J:JT)(Jx:JX):Option (List LC)->NP->NP->World->Prop
 | some r=>J r
 | none=>Jx
def Prog.s{l:Nat}{Z:NP}{J:JT}{Jx:JX}(hc:Caller P l Z J Jx){rest:Option (List LC)}{O C Ch:NP}{W W':World}(h:Prog J Jx rest O C W)(hf:Fr W Ch W')(hn: ∀b,Ch b-> ¬O b):Prog J Jx rest O C W':=by
 cases rest with
 | some r=>exact hc.s _ _ _ _ _ _ h hf hn
 | none=>exact hc.sx _ _ _ _ _ h hf hn
def Prog.b{l:Nat}{Z:NP}{J:JT}{Jx:JX}(hc:Caller P l Z J Jx){rest:Option (List LC)}{O C:NP}{W:World}(h:Prog J Jx rest O C W):(∀b,O b->b<W.heap.size)/\∀b,C b->O b:=by
 cases rest with
 | some r=>exact hc.b _ _ _ _ h
 | none=>exact hc.bx _ _ _ h
def Gh(Z:NP)(J:JT)(Jx:JX)(rest:Option (List LC))(B:Base)(bl I0:NP):Prop:= ∃O C,Prog J Jx rest O C B.w/\(∀b,bl b-> ¬O b)/\(∀b,C b-> ¬I0 b)/\B.df=[]/\∀b,I0 b\/bl b\/B.w.heap.size<=b->Z b
section
variable {P:Program} {E:Env} {B:Base} {bl I0:NP} {s:LS} {H:Heap} {a:Act} {w:World} {Im:NP} {ρ:NL} {l:Nat} {Z:NP} {J:JT} {Jx:JX}
def Inv.defers(h:Inv E B bl I0 s H a w Im ρ)(hdf:B.df=[])(hrg:E.rg=false):a.defers=[]:=by obtain⟨Ds,h1,_,_,h2⟩:=h.df;rw[h1,h2 hrg,hdf];rfl
def Inv.hop(h:Inv E B bl I0 s H a w Im ρ)(hdf:B.df=[])(hrg:E.rg=false){C:NP}{W':World}(hf:Fr w C W')(hc: ∀b,C b->b<w.heap.size-> ¬Im b/\¬obs H ρ b):
  Inv E ⟨W',fun j=>(qal H j).map fun o=>(shp o,ρ j),[]⟩ (chg H ρ) Im s H a W' Im ρ:=by
 have hk:Keep Im w W':=fun b hb=>hf.block b (h.gam.im b hb) fun e=>(hc b e (h.gam.im b hb)).1 hb;have hv: ∀v x,VRep w Im ρ (shOf H) v x->VRep W' Im ρ (shOf H) v x:=fun v x hx=>hx.congr hk (fun _ h=>h) (fun q _=>.inr ⟨rfl,rfl⟩);refine⟨⟨fun b hb=>za5 (h.gam.im b hb) hf.size,fun _ h=>h,fun p o hp=> ?_,h.gam.dj,fun p o b x y hp hr=>⟨za5 (h.gam.lk p o b x y hp hr).1 hf.size,(h.gam.lk p o b x y hp hr).2.1,fun hl=>⟨((h.gam.lk p o b x y hp hr).2.2 hl).1,.inl ⟨p,o,x,y,hp,hl,hr⟩⟩⟩,fun b hb=>.inl hb⟩,
  .refl _ _,fun t=>hv _ _ (h.sl t),h.nt,⟨[],by rw[h.defers hdf hrg];rfl,by simp,by simp,fun _=>rfl⟩,fun g c hg=>(h.gl g c hg).keep hk (fun _ h=>h),fun j o _ hj=>by simp only[hj,zao]⟩
 refine(h.gam.ob p o hp).congr (fun b x y hr=> ?_) fun j c x _=>hv c x;have hlt:=(h.gam.lk p o b x y hp hr).1;exact hf.block b hlt fun e=>(hc b e hlt).2 ⟨p,o,x,y,hp,hr⟩
def xbw5(hc:Caller P l Z J Jx){x:LC}{r:List LC}(hg:Gh Z J Jx (some (x::r)) B bl I0)(hI:Inv E B bl I0 s H a w Im ρ)(hrg:E.rg=false)(hv:xbj7 w Im x vs):
  YieldAt Fence.wide 0 P l vs.toArray w fun e W'=> ∃(b:Bool) (B':Base) (bl' I0':NP),e=.returned (.bool b)/\Gh Z J Jx (cond b (some r) none) B' bl' I0'/\Inv E B' bl' I0' s H a W' Im ρ:=by
 obtain⟨O,C,g1,g2,g3,hdf,hz⟩:=hg;have hJ:J (x::r) O C B.w:=g1;have hO:=(hc.b _ _ _ _ hJ).1;have hCO:=(hc.b _ _ _ _ hJ).2;have hch: ∀b,chg H ρ b-> ¬O b:=fun b hb ho=>(qvb hI hb).2.2.elim (fun e=>g2 b e ho) fun e=>zd2.2 e (hO b ho);have hIm: ∀b,C b-> ¬Im b:=fun b hb hm=>by
  rcases hI.gam.imo b hm with e|e|e
  ·exact g3 b hb e
  ·exact g2 b e (hCO b hb)
  ·exact zd2.2 e (hO b (hCO b hb))
 have hno: ∀b,C b-> ¬obs H ρ b:=fun b hb ho=>(xbhb hI ho).elim (hIm b hb) fun e=>hch b e (hCO b hb);refine YieldAt.mono' (hc.y x r O C w Im vs (hc.s _ _ _ _ _ _ hJ hI.fr g2) (fun b hb=>⟨hI.gam.im b hb,fun e=>hIm b e hb,hz b (hI.gam.imo b hb)⟩) hv) ?_;rintro e W' ⟨O',C',f1,f2,f3,f4⟩;have hI':=hI.hop hdf hrg f1 fun b hb _=>⟨hIm b hb,hno b hb⟩;have hgh: ∀rest,Prog J Jx rest O' C' W'->Gh Z J Jx rest ⟨W',fun j=>(qal H j).map fun o=>(shp o,ρ j),[]⟩ (chg H ρ) Im:=fun rest hp=>⟨O',C',hp,fun b hb ho=>(f2 b ho).elim (hch b hb) fun e=>e.elim (qvb hI hb).1 fun e=>zd2.2 e (qvb hI hb).2.1,
  fun b hb hm=>(f3 b hb).elim (fun e=>hIm b e hm) fun e=>zd2.2 e (hI.gam.im b hm),rfl,fun b hb=>hb.elim (fun e=>hz b (hI.gam.imo b e)) fun e=>e.elim (fun e=>hz b (.inr (qvb hI e).2.2)) fun e=>hz b (.inr (.inr (zcb hI.fr.size (zcb f1.size e))))⟩
 rcases f4 with⟨rfl,h⟩|⟨rfl,h⟩
 ·exact⟨true,_,_,_,rfl,hgh (some r) h,hI'⟩
 ·exact⟨false,_,_,_,rfl,hgh none h,hI'⟩
def qkd(E:Env)(Z:NP)(J:JT)(Jx:JX)(k:KT)(e:Exit)(a:Act)(w:World):Prop:=
 ∃ex σ r rest B bl I0 Im ρ,k ex σ=some r/\Hands r rest/\Gh Z J Jx rest B bl I0/\Inv E B bl I0 σ.slots σ.heap a w Im ρ/\Meet ex e w Im
def qkd.of{k:KT}{r:Out}{rest:Option (List LC)}(hh:Hands r rest)(hg:Gh Z J Jx rest B bl I0){e:Exit}(h:Lands E B bl I0 k r e a w):qkd E Z J Jx k e a w:=
 let ⟨ex,σ,Im,ρ,h1,h2,h3⟩:=h;⟨ex,σ,r,rest,B,bl,I0,Im,ρ,h1,hh,hg,h2,h3⟩
def xbf7{k:KT}: ¬LetsOut (qkd E Z J Jx k):=fun⟨a,w,ex,σ,r,rest,B,bl,I0,Im,ρ,_,_,_,_,h⟩=>by cases ex<;>exact h
def xbjj{o:Oper}{next:Act->World->Prop}(h:o.wp P a w next Q):o.wpIn Fence.wide 0 P a w next Q:=by
 refine⟨fun _ _=>trivial, ?_⟩;have e:Oper.semAt Fence.wide.round a.eval o=execOp a.eval o:=rfl;rw[e];unfold Oper.wp at h;generalize (execOp a.eval o).run P w=res at h
 cases res with
 | halt x w'=>cases x<;>first|exact h|exact h.elim
 | ok x w'=>
  cases x with
  | enter f args=>exact⟨fun h=>by simp[Fence.wide] at h,(callsIn_wide (n:=0)).2 h⟩
  | row row args=>
   refine⟨fun h=>by simp[Fence.wide] at h,fun c cs _=> ?_⟩;obtain⟨v,w2,h1,h2⟩:=h c cs;exact⟨v,w2,h1,stepsIn_wide.2 h2⟩
  | _=>first|exact h|exact h.elim
def xbca{o:Oper}{next next':Act->World->Prop}{Q':EP}(h:o.wpIn Fence.wide 0 P a w next Q)(hn: ∀a w,next a w->next' a w)(hq: ∀c a w,Q (.panic c) a w->Q' (.panic c) a w)(hl: ¬LetsOut Q):o.wpIn Fence.wide 0 P a w next' Q':=by
 refine⟨h.1, ?_⟩;have h:=h.2;generalize (Oper.semAt Fence.wide.round a.eval o).run P w=res at h ⊢
 cases res with
 | halt x w'=>cases x<;>first|exact hq _ _ _ h|exact h.elim
 | ok x w'=>
  cases x with
  | enter f args=>
   refine⟨h.1,h.2.mono fun e w2 he=> ?_⟩
   cases e with
   | returned v=>exact hn _ _ he
   | panicked c=>exact hq _ _ _ he
   | outgrown=>exact absurd he hl
  | row row args=>exact⟨h.1,h.2.mono fun v w2 he=>hn _ _ he⟩
  | round l f tmps assign body=>
   refine⟨h.1,h.2.mono fun e w2 he=> ?_⟩
   cases e with
   | returned v=>exact hn _ _ he
   | panicked c=>exact hq _ _ _ he
   | outgrown=>exact absurd he hl
  | _=>first|exact hn _ _ h|exact h.elim
def qhe{ops:Array Oper}{Q Q':EP}(hl: ¬LetsOut Q'){rest:List Oper}(hp: ∀c a w,Q' (.panic c) a w->Q (.panic c) a w)(hn: ∀a w,Q' .normal a w->wpListIn Fence.wide 0 P ops Q rest a w): ∀(os:List Oper) (a:Act) (w:World),wpList P ops Q' os a w->wpListIn Fence.wide 0 P ops Q (os++rest) a w
 | [],a,w,h=>hn a w h
 | o::r,a,w,h=>by
  unfold wpList at h;rw[zbq];unfold wpListIn;by_cases hw:Region.wanted o (yielded ops a.tmps)=true
  ·rw[yc hw] at h ⊢;exact xbca (xbjj (h.resolve_right fun h=>hl h.2)) (fun a w=>qhe hl hp hn r a w) hp hl
  ·rw[yb hw] at h ⊢;exact⟨fun _ _=>trivial,qhe hl hp hn r _ _ h⟩
def q0c{o:Oper}{d:Tmp}{xs:Array Operand}{ts:Array TypeId}{nx:Next}(ho:o.op=.call ⟨.value (.tmp d),xs,ts⟩)(hf:a.tmps.getD d undef=.func (.yield l) #[] #[])(hy:(Instr.yield l (xs.map a.eval)).run P w=.ok nx w):(execOp a.eval o).run P w=.ok nx w:=by unfold execOp;simp only[ho];have he:a.eval (.tmp d)=.func (.yield l) #[] #[]:=hf;simp only[resolve,he];simpa [go_sem,invoke] using hy
def q9v(hrg:E.rg=false)(hc:Caller P E.yn Z J Jx){o:Oper}{d:Tmp}{xs:Array Operand}{ts:Array TypeId}{dd:Nat}{post:List Oper}{σ':St}{k:KT}{r:Out}{rest:Option (List LC)}{K:Act->World->Prop}(h1:xbjl P E ops d dd ts.toList (xs.toList.map (opd E σ'.slots)) post σ' k=some r)(hh:Hands r rest)(hg:Gh Z J Jx rest B bl I0)(h2:Inv E B bl I0 σ'.slots σ'.heap a w Im ρ)(ho:o.op=.call ⟨.value (.tmp d),xs,ts⟩)(hdst:o.dst=some dd)(hK: ∀(rr:Out) (rest':Option (List LC)) (B':Base) (bl' I0':NP) (σ2:St) (a2:Act) (w2:World),opsK P E ops post σ2 k=some rr->Hands rr rest'->Gh Z J Jx rest' B' bl' I0'->On E B' bl' I0' σ2 a2 w2->K a2 w2):o.wpIn Fence.wide 0 P a w K Q:=by
 unfold xbjl at h1;split at h1
 ·rename_i l' cs hd hcs;replace h1:=qaa h1;obtain⟨hc1,h1⟩:=h1;replace h1:=qaa h1;obtain⟨hl',h1⟩:=h1;replace hl':=qag.1 hl';subst hl';have hfv:a.tmps.getD d undef=.func (.yield E.yn) #[] #[]:=by
   have:=h2.sl d;rw[hd] at this;generalize a.tmps.getD d undef=y at this ⊢
   cases this with
   | cl _ _ hcr=>
    cases hcr with
    | fn _ _ _ va vb e1 e2=>
     have e1:va=[]:=by simpa using e1
     have e2:vb=[]:=by simpa using e2
     subst e1 e2;rfl
  obtain⟨Im1,j1,j2,j3,j4⟩:=Inv.lockAll ((xs.toList.map (opd E σ'.slots)).flatMap (reach σ'.heap 6)) σ'.heap Im h2 fun q o hq=>⟨o,hq,rfl⟩;obtain⟨q1,q2⟩:=qpi hcs;have hv:xbj7 w Im1 cs (xs.toList.map a.eval):=by
   refine⟨by rw[q1];simp,fun j c v hj hv=> ?_⟩;rw[zah] at hv
   cases hx:xs.toList[j]? with
   | none=>rw[hx] at hv;cases hv
   | some x=>
    rw[hx] at hv;simp only[zao,zaa] at hv;subst hv;have hxm:(xs.toList.map (opd E σ'.slots))[j]? =some (opd E σ'.slots x):=by rw[zah,hx];rfl
    obtain⟨t,ht⟩:=q2 j _ c hxm hj;exact qi9 P h2.gam.ob j2 6 t _ c _ ht (h2.opd x) fun p hp o ho b y z hr=>j3 p (zb1.2 ⟨_,zad hxm,hp⟩) o ho b y z hr
  cases hf:opsK P E ops post ⟨qdq σ'.slots dd (.cl (.bool false)),updH σ'.heap (lockAll σ'.heap ((xs.toList.map (opd E σ'.slots)).flatMap (reach σ'.heap 6)))⟩ k with
  | none=>
   rw[hf] at h1;have: ∀o,yldO cs none o=none:=fun o=>by cases o<;>rfl
   rw[this] at h1;cases h1
  | some rf=>
  cases ht:opsK P E ops post ⟨qdq σ'.slots dd (.cl (.bool true)),updH σ'.heap (lockAll σ'.heap ((xs.toList.map (opd E σ'.slots)).flatMap (reach σ'.heap 6)))⟩ k with
  | none=>rw[hf,ht] at h1;cases h1
  | some rt=>
  rw[hf,ht] at h1;have h1:Out.yld cs rf rt=r:=zci h1;subst h1
  cases rest with
  | none=>exact hh.elim
  | some xl=>
  cases xl with
  | nil=>exact hh.elim
  | cons y xr=>
  obtain⟨rfl,hh1,hh2⟩:=hh;obtain⟨fn,tmps,as,bo,hy1,hy2⟩:=xbw5 hc hg j1 hrg hv;refine⟨fun _ _=>trivial, ?_⟩;have hrun:=q0c (P:=P) (o:=o) (w:=w) ho hfv (by rw[show xs.map a.eval=(xs.toList.map a.eval).toArray from zc4 (by simp)];exact hy1);have e:Oper.semAt Fence.wide.round a.eval o=execOp a.eval o:=rfl;rw[e,hrun,Oper.uponIn_round];refine⟨fun h=>by simp[Fence.wide] at h,hy2.mono ?_⟩;rintro e W' ⟨b,B',bl',I0',rfl,hg',hI'⟩;have hlt:dd<E.nt:=by rwa [zb4] at hc1
  have hI2:=hI'.put (d:=o.dst) (v:=.cl (.bool b)) (x:=.bool b) (fun t ht=>by rw[hdst] at ht;cases ht;exact hlt) (.cl _ _ (.bool b));rw[hdst] at hI2 ⊢
  cases b with
  | true=>exact hK rt _ _ _ _ _ _ _ ht hh2 hg' ⟨_,_,hI2⟩
  | false=>exact hK rf _ _ _ _ _ _ _ hf hh1 hg' ⟨_,_,hI2⟩
 ·cases h1
def q6x(hE: ∀g,Sound P E.glob g (ctr E g))(hrg:E.rg=false)(hc:Caller P E.yn Z J Jx){σ:St}{k:KT}{r:Out}{rest:Option (List LC)}{id:Nat}(h:xbw4 P E ops i σ k=some r)(hh:Hands r rest)(hg:Gh Z J Jx rest B bl I0)(hO:On E B bl I0 σ a w):(Code.region id ops false).wpIn Fence.wide 0 P (qkd E Z J Jx k) a w:=by
 unfold xbw4 at h;split at h
 ·rename_i o post hdrop;split at h
  ·rename_i d xs ts dd ho hdst hgd;refine wpIn_region_list ?_;have hsplit:ops.toList=ops.toList.take i++(o::post):=by rw[<- hdrop,List.take_append_drop]
   rw[hsplit];refine qhe (Q':=Lands E B bl I0 (fun ex σ'=>match ex with
    | .normal=>xbjl P E ops d dd ts.toList (xs.toList.map (opd E σ'.slots)) post σ' k
    | e=>k e σ') r) qnw (fun c a w hq=> ?_) (fun a1 w1 hq=> ?_) _ _ _ (qd0 hE (fun _ _ _ h=>h) _ _ _ _ h hO)
   ·obtain⟨ex,σ',Im',ρ',h1,h2,h3⟩:=hq
    cases ex with
    | pan c=>exact⟨_,σ',r,rest,B,bl,I0,Im',ρ',h1,hh,hg,h2,h3⟩
    | _=>exact h3.elim
   ·obtain⟨ex,σ',Im',ρ',h1,h2,h3⟩:=hq;cases ex<;>first|exact h3.elim|skip
    refine wpListIn_plain hgd fun K hK=>q9v hrg hc h1 hh hg h2 ho hdst fun rr rest' B' bl' I0' σ2 a2 w2 h4 h5 h6 h7=>hK _ _ ?_;have:=qhe (P:=P) (ops:=ops) (Q':=Lands E B' bl' I0' k rr) (Q:=qkd E Z J Jx k) (rest:=[]) qnw (fun c a w hq=>qkd.of h5 h6 hq) (fun a w hq=>qkd.of h5 h6 hq) post _ _ (qd0 hE (fun _ _ _ h=>h) post _ _ _ h4 h7);rwa [zb2] at this
  ·cases h
 ·cases h
def xbcr(P:Program)(E:Env)(Z:NP)(J:JT)(Jx:JX):Prop:= ∀(id:Nat) (ops:Array Oper) (i:Nat) (σ:St) (k:KT) (r:Out) (rest:Option (List LC)) (B:Base) (bl I0:NP) (a:Act) (w:World),
 xbei ops (Region.before ops)=true->xbjx σ.slots σ.heap (ops.toList.flatMap (makes E))=true->xbse P E ops i σ k=some r->Hands r rest->Gh Z J Jx rest B bl I0->On E B bl I0 σ a w->(Code.region id ops true).wpIn Fence.wide 0 P (qkd E Z J Jx k) a w
def xb9f{c:Code}{b:St->KT->OO}{hd:St->St}{Q:EP}{k:KT}(hQ: ∀e a w,qkd E Z J Jx k e a w->Q e a w)(hb: ∀(k':KT) (Q':EP) (r:Out) (rest:Option (List LC)) (B:Base) (bl I0:NP) (σ:St) (a:Act) (w:World),(∀e a w,qkd E Z J Jx k' e a w->Q' e a w)->b σ k'=some r->Hands r rest->Gh Z J Jx rest B bl I0->On E B bl I0 σ a w->c.wpIn Fence.wide 0 P Q' a w)(hh: ∀B bl I0 σ a w,On E B bl I0 σ a w->On E B bl I0 (hd σ) a w): ∀(n:Nat) (r:Out) (rest:Option (List LC)) (B:Base) (bl I0:NP) (σ:St) (a:Act) (w:World),q2c n b hd σ k=some r->Hands r rest->Gh Z J Jx rest B bl I0->On E B bl I0 σ a w->Code.roundsIn Fence.wide 0 P c Q n a w
 | 0,r,rest,B,bl,I0,σ,a,w,h,_,_,_=>by cases h
 | n+1,r,rest,B,bl,I0,σ,a,w,h,hn,hg,hO=>by
  simp only[q2c] at h;rw[roundsIn_succ];refine hb _ _ r rest B bl I0 σ a w (fun e a w hl=> ?_) h hn hg hO;obtain⟨ex,σ',r',rest',B',bl',I0',Im,ρ,h1,hn',hg',h2,h3⟩:=hl
  cases ex with
  | normal=>
   cases e<;>first|exact h3.elim|skip
   exact xb9f hQ hb hh n r' rest' B' bl' I0' _ _ _ h1 hn' hg' (hh _ _ _ _ _ _ ⟨Im,ρ,h2⟩)
  | exit i=>
   cases e<;>first|exact h3.elim|skip
   exact hQ _ _ _ ⟨_,σ',r',rest',B',bl',I0',Im,ρ,h1,hn',hg',h2,h3⟩
  | ret=>
   cases e<;>first|exact h3.elim|skip
   exact hQ _ _ _ ⟨_,σ',r',rest',B',bl',I0',Im,ρ,h1,hn',hg',h2,h3⟩
  | pan c=>
   cases e<;>first|exact h3.elim|skip
   exact hQ _ _ _ ⟨_,σ',r',rest',B',bl',I0',Im,ρ,h1,hn',hg',h2,h3⟩
def q8a{rid:Nat}{k:KT}(hQ: ∀e a w,qkd E Z J Jx k e a w->Q e a w): ∀e a w,qkd E Z J Jx (kt E rid k) e a w->Q e a w:=fun e a w ⟨ex,σ,r,rest,B,bl,I0,Im,ρ,h1,hn,hg,h2,h3⟩=>by
 cases ex with
 | normal=>
  obtain⟨Im',ρ',h2'⟩:=On.tx (l:=E.xl (rid+1000)) ⟨Im,ρ,h2⟩;refine hQ _ _ _ ⟨.normal,_,r,rest,B,bl,I0,Im',ρ',h1,hn,hg,h2', ?_⟩;cases e<;>exact h3
 | _=>exact hQ _ _ _ ⟨_,σ,r,rest,B,bl,I0,Im,ρ,h1,hn,hg,h2,h3⟩
def xbap(hE: ∀g,Sound P E.glob g (ctr E g))(hdraw:qxa P E)(hdy:xbcr P E Z J Jx)(hrg:E.rg=false)(hc:Caller P E.yn Z J Jx)(N:Nat): ∀(c:Code),qbf P E N c->∀(k:KT) (Q:EP) (r:Out) (rest:Option (List LC)) (B:Base) (bl I0:NP) (σ:St) (a:Act) (w:World),(∀e a w,qkd E Z J Jx k e a w->Q e a w)->
  qby P E N c σ k=some r->Hands r rest->Gh Z J Jx rest B bl I0->On E B bl I0 σ a w->c.wpIn Fence.wide 0 P Q a w:=by
 intro c
 induction c with
 | skip=>
  intro hlo k Q r rest B bl I0 σ a w hQ h hn hg ⟨Im,ρ,hI⟩;exact wpIn_skip (hQ _ _ _ ⟨.normal,σ,r,rest,B,bl,I0,Im,ρ,h,hn,hg,hI,trivial⟩)
 | region id ops draw=>
  intro hlo k Q r rest B bl I0 σ a w hQ h hn hg hO;simp only[qby] at h
  cases draw with
  | true=>
   simp only[cond_true] at h;replace h:=qaa h;have h1:=h.1;simp only[zab] at h1;have h2:=h.2;split at h2
   ·exact Go.wpIn_mono (hdy id ops _ _ k r rest B bl I0 a w h1.1 h1.2 h2 hn hg (On.prep _ hO)) hQ
   ·exact wpIn_wide.2 (hdraw Out B bl I0 id ops Q k r _ a w (fun e a w hl=>hQ e a w (qkd.of hn hg hl)) h1.1 h1.2 h2 (On.prep _ hO))
  | false=>
   simp only[cond_false] at h;split at h
   ·exact Go.wpIn_mono (q6x hE hrg hc h hn hg (On.prep _ hO)) hQ
   ·exact wpIn_wide.2 (wp_region_list (qd0 hE (fun e a w hl=>hQ e a w (qkd.of hn hg hl)) _ _ _ _ h (On.prep _ hO)))
 | seq x y ihx ihy=>
  intro hlo k Q r rest B bl I0 σ a w hQ h hn hg hO;simp only[qby] at h;refine wpIn_seq (ihx hlo.1 _ _ r rest B bl I0 σ a w (fun e a w hl=> ?_) h hn hg hO);obtain⟨ex,σ',r',rest',B',bl',I0',Im,ρ,h1,hn',hg',h2,h3⟩:=hl
  cases ex with
  | normal=>
   cases e<;>first|exact h3.elim|skip
   simp only at h1;split at h1
   ·rename_i L hL;exact ihy hlo.2.1 _ Q r' rest' B' bl' I0' _ a w (q8a hQ) (hlo.2.2 L hL _ _ _ h1) hn' hg' (On.head (σ:=σ') ⟨Im,ρ,h2⟩ _)
   ·exact ihy hlo.2.1 k Q r' rest' B' bl' I0' σ' a w hQ h1 hn' hg' ⟨Im,ρ,h2⟩
  | exit i=>
   cases e<;>first|exact h3.elim|skip
   exact hQ _ _ _ ⟨_,σ',r',rest',B',bl',I0',Im,ρ,h1,hn',hg',h2,h3⟩
  | ret=>
   cases e<;>first|exact h3.elim|skip
   exact hQ _ _ _ ⟨_,σ',r',rest',B',bl',I0',Im,ρ,h1,hn',hg',h2,h3⟩
  | pan c=>
   cases e<;>first|exact h3.elim|skip
   exact hQ _ _ _ ⟨_,σ',r',rest',B',bl',I0',Im,ρ,h1,hn',hg',h2,h3⟩
 | cond x c d ihc ihd=>
  intro hlo k Q r rest B bl I0 σ a w hQ h hn hg ⟨Im,ρ,hI⟩;simp only[qby] at h;split at h
  ·rename_i t;obtain⟨b,s',h1,h2,h3⟩:=qgz h hI;refine wpIn_cond (t:=b) h3 ?_
   cases b with
   | true=>exact ihc hlo.1 k Q r rest B bl I0 _ a w hQ h1 hn hg ⟨Im,ρ,h2⟩
   | false=>
    simp only at h1;split at h1
    ·rename_i L hL;exact ihd hlo.2.1 _ Q r rest B bl I0 _ a w (q8a hQ) (hlo.2.2 L hL _ _ _ h1) hn hg (On.head (σ:=⟨s',σ.heap⟩) ⟨Im,ρ,h2⟩ _)
    ·exact ihd hlo.2.1 k Q r rest B bl I0 _ a w hQ h1 hn hg ⟨Im,ρ,h2⟩
  ·exact wpIn_cond (t:=true) rfl (ihc hlo.1 k Q r rest B bl I0 _ a w hQ h hn hg ⟨Im,ρ,hI⟩)
  ·exact wpIn_cond (t:=false) rfl (ihd hlo.2.1 k Q r rest B bl I0 _ a w hQ h hn hg ⟨Im,ρ,hI⟩)
  ·cases h
 | block id c ih=>
  intro hlo k Q r rest B bl I0 σ a w hQ h hn hg hO;simp only[qby] at h;refine wpIn_block (ih hlo _ _ r rest B bl I0 σ a w (fun e a w hl=> ?_) h hn hg hO);obtain⟨ex,σ',r',rest',B',bl',I0',Im,ρ,h1,hn',hg',h2,h3⟩:=hl
  cases ex with
  | normal=>
   cases e<;>first|exact h3.elim|skip
   exact hQ _ _ _ ⟨_,σ',r',rest',B',bl',I0',Im,ρ,h1,hn',hg',h2,h3⟩
  | exit i=>
   cases e<;>first|exact h3.elim|skip
   rename_i i';have h3:i=i':=h3;subst h3;show if i=id then Q .normal a w else Q (.exit i) a w
   cases hb:Nat.beq i id with
   | true=>
    simp only[hb,cond_true] at h1;rw[yc (qag.1 hb)];exact hQ _ _ _ ⟨.normal,σ',r',rest',B',bl',I0',Im,ρ,h1,hn',hg',h2,trivial⟩
   | false=>
    simp only[hb,cond_false] at h1;rw[yb (qbh hb)];exact hQ _ _ _ ⟨.exit i,σ',r',rest',B',bl',I0',Im,ρ,h1,hn',hg',h2,rfl⟩
  | ret=>
   cases e<;>first|exact h3.elim|skip
   exact hQ _ _ _ ⟨_,σ',r',rest',B',bl',I0',Im,ρ,h1,hn',hg',h2,h3⟩
  | pan c=>
   cases e<;>first|exact h3.elim|skip
   exact hQ _ _ _ ⟨_,σ',r',rest',B',bl',I0',Im,ρ,h1,hn',hg',h2,h3⟩
 | loop c ih=>
  intro hlo k Q r rest B bl I0 σ a w hQ h hn hg hO;simp only[qby] at h;have key: ∀n σ',q2c n (qby P E N c) (head E (qaj c)) σ' k=some r->On E B bl I0 σ' a w->(Code.loop c).wpIn Fence.wide 0 P Q a w:=fun n σ' h hO=>
   wpIn_loop_rounds n (xb9f hQ (fun k' Q' r rest B bl I0 σ a w hq hb hn hg hO=>ih hlo.1 k' Q' r rest B bl I0 σ a w hq hb hn hg hO) (fun _ _ _ σ a w h=>h.head _) n r rest B bl I0 _ a w h hn hg hO)
  split at h
  ·rename_i L hL;obtain⟨n,hn'⟩:=hlo.2 L hL _ _ _ h;exact key n _ hn' (hO.head _)
  ·exact key N _ h (hO.head _)
 | exit id=>
  intro hlo k Q r rest B bl I0 σ a w hQ h hn hg hO;obtain⟨Im,ρ,hI⟩:=On.tx (l:=E.xl (id+1)) hO;exact wpIn_exit (hQ _ _ _ ⟨.exit id,_,r,rest,B,bl,I0,Im,ρ,h,hn,hg,hI,rfl⟩)
 | ret=>
  intro hlo k Q r rest B bl I0 σ a w hQ h hn hg hO;obtain⟨Im,ρ,hI⟩:=On.tx (l:=E.xl 0) hO;exact wpIn_ret (hQ _ _ _ ⟨.ret,_,r,rest,B,bl,I0,Im,ρ,h,hn,hg,hI,trivial⟩)
 | rangeFunc g ps assign body=>
  intro hlo k Q r rest B bl I0 σ a w hQ h hn hg _;simp only[qby,hrg,Bool.not_false,cond_true] at h;cases h
 | _=>intro hlo k Q r rest B bl I0 σ a w hQ h _ _ _;simp[qby] at h
def xbil{glob:Nat->Option CV}{gf:FuncId}{N:Nat}{as:LV}{obs:List Obj}{xs:List LC}(Ey:Nat->Env)(hE: ∀l g,Sound P (Ey l).glob g (ctr (Ey l) g))(hdraw: ∀l,qxa P (Ey l))(hdy: ∀l Z J Jx,Caller P (Ey l).yn Z J Jx->xbcr P (Ey l) Z J Jx)(hgl: ∀l,(Ey l).glob=glob)(hrg: ∀l,(Ey l).rg=false)(hyn: ∀l,(Ey l).yn=l)(hf:P.funcs[gf]? =some fn)(hb:fn.body.isSome=true)(hlo: ∀l c,fn.body=some c->qbf P (Ey l) N c)(hnt: ∀l,(Ey l).nt=fn.ntmps)(hlen:as.length<fn.ntmps)(hres:fn.results= #[])(hS: ∀l, ∃out,qqy P (Ey l) N false fn (.cl (.fn (.yield l) [] [])::as) obs=some out/\Hands out (some xs)):xbxo P glob gf as obs xs:=by
 intro w Im ρ bl vs hpre l J Jx hJ hJx hb1 hb2 hy O C h0 hC hO;obtain⟨out,hbody,hn⟩:=hS l;obtain⟨c,hc⟩:=zax.1 hb;have hcl:Caller P (Ey l).yn (fun b=>Im b\/bl b\/w.heap.size<=b) J Jx:=by rw[hyn];exact⟨hJ,hJx,hb1,hb2,hy⟩
 refine callsIn_of_wp_marks hf hc trivial ?_ rfl;have hvl:vs.length=as.length:=hpre.reps.1;have hOn:On (Ey l) ⟨w,fun j=>(qal (heap0 0 obs) j).map fun o=>(shp o,ρ j),[]⟩ bl Im ⟨slots0 0 (.cl (.fn (.yield l) [] [])::as),heap0 0 obs⟩ {tmps:=(#[Value.func (.yield l) #[] #[]]++vs.toArray)++Array.replicate (fn.ntmps - (#[Value.func (.yield l) #[] #[]]++vs.toArray).size) undef,defers:=[]} w:=by
  refine⟨Im,ρ,hpre.gam,Fr.refl w bl,fun t=> ?_,by simp[hnt];omega,⟨[],rfl,by simp,by simp,fun _=>rfl⟩,by rw[hgl];exact hpre.gl,fun j o hj hg=> ?_⟩
  ·show VRep w Im ρ (shOf (heap0 0 obs)) (getV (slots0 0 (.cl (.fn (.yield l) [] [])::as)) t) _;rw[qlq,yc (by omega),zc2]
   cases t with
   | zero=>
    have:((#[Value.func (.yield l) #[] #[]]++vs.toArray)++Array.replicate (fn.ntmps - (#[Value.func (.yield l) #[] #[]]++vs.toArray).size) undef).getD 0 undef=Value.func (.yield l) #[] #[]:=by rw[zav,zcn (by simp),zcn (by simp)];rfl
    rw[this];exact .cl _ _ (.fn (.yield l) [] [] [] [] rfl rfl (by simp) (by simp))
   | succ t=>
    rw[za2]
    cases ha:as[t]? with
    | none=>exact .undef _
    | some v=>
     have hlt:t<vs.length:=by have:=(zae.1 ha).1;omega
     have hv:=hpre.reps.2 t v _ ha (zag hlt);have:((#[Value.func (.yield l) #[] #[]]++vs.toArray)++Array.replicate (fn.ntmps - (#[Value.func (.yield l) #[] #[]]++vs.toArray).size) undef).getD (t+1) undef=vs[t]:=by rw[zav,zcn (by simp;omega),Array.getElem?_append_right (by simp)];simp[hlt]
     rw[this];exact hv
  ·show(qal (heap0 0 obs) j).map _=_;have hg:qal (heap0 0 obs) j=some o:=hg;rw[hg];rfl
 unfold qqy at hbody;rw[hc] at hbody;refine xbap (hE l) (hdraw l) (hdy l _ _ _ hcl) (hrg l) hcl N c (hlo l c hc) _ _ out (some xs) ⟨w,_,[]⟩ bl Im _ _ _ (fun e a' w' hl=> ?_) hbody hn ⟨O,C,h0,fun b hb ho=>hO b ho hb,fun b hb hm=>(hC b hb).1 hm,rfl,fun b hb=>hb⟩ hOn;obtain⟨ex,σ',r',rest',B',bl',I0',Im',ρ',h1,hn',⟨O',C',g1,g2,g3,hdfB,_⟩,h2,h3⟩:=hl;have fin: ∀(k1:finish P false fn obs.length σ'=some r'),LeavesInM Fence.wide 0 P fn a'.tmps (fun e W'=>(∃v,e=.returned v)/\∃O' C',J [] O' C' W'\/Jx O' C' W') a'.defers .returning w':=fun k1=>by
  have hret: ∃rs objs,r'=.ret rs objs:=by
   unfold finish at k1;split at k1
   ·cases k1
   ·simp only[cond_false] at k1;replace k1:=qaa k1;obtain⟨_,k1⟩:=k1;split at k1
    ·exact⟨_,_,(zci k1).symm⟩
    ·cases k1
  obtain⟨rs,objs,rfl⟩:=hret;refine qtn hdfB h2 fun w1 a1 ht hI1=>⟨wrap [],qwo (us:=[]) (by rw[hres];rfl),⟨_,rfl⟩,O',C', ?_⟩;have hp:=g1.s hcl hI1.fr g2;rcases hn' with rfl|rfl
  ·exact .inl hp
  ·exact .inr hp
 cases ex with
 | normal=>
  cases e<;>first|exact h3.elim|skip
  exact fin h1
 | ret=>
  cases e<;>first|exact h3.elim|skip
  exact fin h1
 | exit i=>cases h1
 | pan cv=>
  simp only[zaa] at h1;subst h1;cases rest'<;>exact hn'.elim
end
abbrev DSpec:=Option CV->FSpec
def caught:FrameMode->FrameMode
 | .panicking ({v,recovered:=false,goexit:=false}::older)=>.panicking ({v,recovered:=true}::older)
 | m=>m
def qvn(w:World)(Im:NP):Option CV->FrameMode->Prop
 | none,u=>u=.returning
 | some c,u=> ∃v,u=.panicking [{v,recovered:=false}]/\CRep w Im c v
def DSound(P:Program)(glob:Nat->Option CV)(g:FuncId)(D:DSpec):Prop:=
 ∀(m:Option CV) (as:LV) (obs:List Obj) (out:Out) (w:World) (Im:NP) (ρ:NL) (bl:NP) (vs:List Value) (u:FrameMode),D m as obs=some out->Pre glob w Im ρ bl as obs vs->qvn w Im m u->
  CallsD P g vs.toArray u w fun e u' w'=>Ends w Im ρ bl obs out e w'/\u'=caught u
section
variable (P:Program) (E:Env)
noncomputable def recK(N:Nat)(fn:Func)(m:Option CV)(args:LV)(objs:List Obj):OO:=
 match fn.body with
 | some (.seq (.region _ ops false) c)=>match ops.toList with
  | [o,o2]=>match o.op,o.dst,o.guard,o2.op,o2.dst,o2.guard with
   | .call ⟨.builtin .recover,_,_⟩,some d,none,.assign (.tmp e),some d2,none=>
    let σ:=prep E ops.toList ⟨slots0 0 args,heap0 0 objs⟩
    cond (Nat.beq e d&&Nat.blt d E.nt&&Nat.blt d2 E.nt) (qby P E N c ⟨setD (setD σ.slots (some d) (.cl (m.getD .nili))) (some d2) (.cl (m.getD .nili)),σ.heap⟩ fun ex σ=>match ex with
     | .normal=>finish P false fn objs.length σ
     | .ret=>finish P false fn objs.length σ
     | .pan c=>some (.pan c (qhw σ.heap objs.length))
     | .exit _=>none) none
   | _,_,_,_,_,_=>none
  | _=>none
 | _=>none
structure DEnv where
 rid:Nat
 low:List (Nat×Nat)
 orc:FuncId->DSpec
 pre:FuncId->Option CV->LV->List Obj->Bool
def xbmg(H:Heap):V->Bool
 | .ptr p _ _=>Nat.blt p 32&&(match qal H p with|some _=>true|none=>false)
 | _=>false
def xblq:Ex->Option (Option CV)
 | .normal=>some none
 | .ret=>some none
 | .pan c=>some (some c)
 | .exit _=>none
variable (D:DEnv)
noncomputable def xbge(keep:Bool)(fn:Func)(nobj:Nat)(g:FuncId)(all:LV)(ex:Ex)(σ:St):OO:=
 match xblq ex with
 | none=>none
 | some m=>
  let names:=dedup (qb7 σ.heap (List.range all.length) 0 all)
  cond (Nat.ble 28 names.length) none (match qal σ.heap 63,qif σ.heap names with
  | none,some obs=>cond (D.pre g m (renL (qbk names 0) all) (obs.map fun o=> {o with row:=qh5 (qbk names 0) o.row}))
   (match D.orc g m (renL (qbk names 0) all) (obs.map fun o=> {o with row:=qh5 (qbk names 0) o.row}) with
   | some (.ret _ objs)=>cond (Nat.beq objs.length names.length) (
    let τ:=renAll (D.low.map fun(p,q)=>(q,p)) ⟨σ.slots,updH σ.heap (qgl names 62 (qdh names 62 objs.length) 0 objs)⟩
    cond (D.low.all fun(_,q)=>match qal τ.heap q with|none=>true|some _=>false) (finish P keep fn nobj τ) none) none
   | _=>none) none
  | _,_=>none)
noncomputable def xb81(ops:Array Oper)(σ:St)(kp:KT)(kd:FuncId->LV->St->OO):OO:=
 match ops.toList.getLast? with
 | some o=>match o.op,o.dst,o.guard with
  | .defer ⟨.value f,xs,_⟩,none,none=>opsK P E ops ops.toList.dropLast (prep E ops.toList σ) fun ex σ'=>match ex with
   | .normal=>
    let τ:=lowAll D.low σ'
    match fnOf (opd E τ.slots f) with
    | some (g,first,caps)=>cond ((first++xs.toList.map (opd E τ.slots)++caps).all (xbmg τ.heap)) (kd g (first++xs.toList.map (opd E τ.slots)++caps) τ) none
    | none=>none
   | e=>kp e σ'
  | _,_,_=>none
 | none=>none
noncomputable def xbix(N:Nat)(kp:KT)(kd:FuncId->LV->Code->St->OO):Code->St->OO
 | .seq a b,σ=>match (match a with|.region id ops false=>cond (Nat.beq id D.rid) (some ops) none|_=>none) with
  | some ops=>xb81 P E D ops σ kp fun g all τ=>kd g all b τ
  | none=>qby P E N a σ fun ex σ'=>match ex with
   | .normal=>xbix N kp kd b σ'
   | e=>kp e σ'
 | _,_=>none
noncomputable def xbr3(N:Nat)(keep:Bool)(fn:Func)(args:LV)(objs:List Obj):OO:=
 match fn.body with
 | none=>none
 | some c=>xbix P E D N (fun ex σ=>match ex with
   | .normal=>none
   | .ret=>finish P keep fn objs.length σ
   | .pan c=>some (.pan c (qhw σ.heap objs.length))
   | .exit _=>none) (fun g all c σ=>qby P E N c σ (xbge P D keep fn objs.length g all)) c ⟨slots0 0 args,heap0 0 objs⟩
end
section
variable {P:Program} {E:Env} {w0:Base} {bl I0:NP}
def frame0{as:LV}{obs:List Obj}(hpre:Pre E.glob w Im ρ bl as obs vs)(hlen:as.length<=fn.ntmps)(hnt:E.nt=fn.ntmps):
  Inv E ⟨w,fun j=>(qal (heap0 0 obs) j).map fun o=>(shp o,ρ j),[]⟩ bl Im (slots0 0 as) (heap0 0 obs) {tmps:=vs.toArray++Array.replicate (fn.ntmps - vs.toArray.size) undef,defers:=[]} w Im ρ:=by
 have hvl:vs.length=as.length:=hpre.reps.1;refine⟨hpre.gam,Fr.refl w bl,fun t=> ?_,by simp[hnt];omega,⟨[],rfl,by simp,by simp,fun _=>rfl⟩,hpre.gl,fun j o hj hg=> ?_⟩
 ·show VRep w Im ρ (shOf (heap0 0 obs)) (getV (slots0 0 as) t) _;rw[qlq,yc (by omega),zc2]
  cases ha:as[t]? with
  | none=>exact .undef _
  | some v=>
   have hlt:t<vs.length:=by have:=(zae.1 ha).1;omega
   have hv:=hpre.reps.2 t v _ ha (zag hlt);have:(vs.toArray++Array.replicate (fn.ntmps - vs.toArray.size) undef).getD t undef=vs[t]:=by rw[zav,zcn (by simpa using hlt)];simp[hlt]
   rw[this];exact hv
 ·show(qal (heap0 0 obs) j).map _=_;rw[hg];rfl
def an0{obs:List Obj}: ∀j o,obs[j]? =some o->(qal (heap0 0 obs) j).map (fun o=>(shp o,ρ j))=some (shp o,ρ j):=fun j o hj=>by rw[qgr,yc (by omega),zc2,hj];rfl
def xbmj{N:Nat}{S:DSpec}(hE: ∀g,Sound P E.glob g (ctr E g))(hsq:qdp P E)(hyl:E.yl=fun _=>none)(hdraw:qxa P E)(hrg:E.rg=false)(hf:P.funcs[g]? =some fn)(hlo: ∀c,fn.body=some c->qbf P E N c)(hnt:E.nt=fn.ntmps)(hS: ∀m as obs out,S m as obs=some out->as.length<=fn.ntmps/\recK P E N fn m as obs=some out):DSound P E.glob g S:=by
 intro m as obs out w Im ρ bl vs u hs hpre hm;obtain⟨hlen,hbody⟩:=hS m as obs out hs;unfold recK at hbody;split at hbody
 ·rename_i id ops c hb;split at hbody
  ·rename_i o o2 hops;split at hbody
   ·rename_i xs ts d e d2 h1 h2 h3 h4 h5 h6;replace hbody:=qaa hbody;obtain⟨hc,hbody⟩:=hbody;simp only[zab,zb4] at hc;obtain⟨⟨hed,hd⟩,hd2⟩:=hc;have hed:=qag.1 hed;subst hed;have hloc:=hlo _ hb;obtain rfl:ops= #[o,o2]:=zc4 hops;have hI0:=frame0 (E:=E) (fn:=fn) hpre hlen hnt;obtain⟨Im1,ρ1,hI1⟩:=On.prep (E:=E) [o,o2] (σ:=⟨slots0 0 as,heap0 0 obs⟩) ⟨Im,ρ,hI0⟩;have hkeep: ∀c v,CRep w Im c v->CRep w Im1 c v:=fun c v h=>h.keep (fun _ _=>rfl) hI1.gam.i0;refine callsD_of_wpS hf hb fun c0 cs hu=>wpS_seq (wpS_region ?_);have hend: ∀(mv:Value) (cs':List Frame) (u':FrameMode),u'=caught u->cs'= {c0 with mode:=u'}::cs->CRep w Im (m.getD .nili) mv->
      c.wpS P (bodyPostS P fn c0 cs fun e u' w'=>Ends w Im ρ bl obs out e w'/\u'=caught u) (({tmps:=vs.toArray++Array.replicate (fn.ntmps - vs.toArray.size) undef,defers:=[]}:Act).put (some e) mv|>.put (some d2) mv) cs' w:=fun mv cs' u' hu' hcs' hmv=>by
     have hI2:=(hI1.put (d:=some e) (v:=.cl (m.getD .nili)) (x:=mv) (fun t ht=>by cases ht;exact hd) (.cl _ _ (hkeep _ _ hmv)));have hI3:=(hI2.put (d:=some d2) (v:=.cl (m.getD .nili)) (x:=mv) (fun t ht=>by cases ht;exact hd2) (.cl _ _ (hkeep _ _ hmv)));refine wpS_of_wp (qeu hE hsq hyl hdraw N c hloc.2.1 _ _ _ _ _ (fun e a' w' hl=> ?_) hbody ⟨Im1,ρ1,hI3⟩);obtain⟨ex,σ',Im',ρ',k1,k2,k3⟩:=hl;have hdf:=Inv.defers k2 rfl hrg
     cases ex with
     | normal=>
      cases e<;>first|exact k3.elim|skip
      obtain⟨v,j1,j2⟩:=qfl k1 ⟨Im',ρ',k2⟩ hpre.small an0;exact⟨hdf,u',hcs',v,j1,j2,hu'⟩
     | ret=>
      cases e<;>first|exact k3.elim|skip
      obtain⟨v,j1,j2⟩:=qfl k1 ⟨Im',ρ',k2⟩ hpre.small an0;exact⟨hdf,u',hcs',v,j1,j2,hu'⟩
     | exit i=>cases k1
     | pan cv=>
      cases e<;>first|exact k3.elim|skip
      obtain⟨x,rfl,hcr⟩:=k3;simp only[zaa] at k1;subst k1;exact⟨hdf,u',hcs',⟨x,Im',ρ',rfl,qzr k2 hpre.small an0,hcr⟩,hu'⟩
    have hrun: ∀a:Act,(execOp a.eval o).run P w=.ok .recover w:=fun a=>by unfold execOp;simp only[h1,resolve];simp[go_sem,invoke,builtin]
    have hrun2: ∀a:Act,(execOp a.eval o2).run P w=.ok (.value (a.eval (.tmp e))) w:=fun a=>by unfold execOp;simp only[h4];simp[go_sem]
    have hget: ∀(t:Array Value) (x:Value),e<t.size->(({tmps:=t,defers:=[]}:Act).put (some e) x).eval (.tmp e)=x:=fun t x ht=>by show(t.setIfInBounds e x).getD e undef=x;rw[zav,zbp];simp[ht]
    have hsz:e<(vs.toArray++Array.replicate (fn.ntmps - vs.toArray.size) undef).size:=by have:=hI0.nt;show e<_;rw[show(vs.toArray++Array.replicate (fn.ntmps - vs.toArray.size) undef).size=E.nt from this];exact hd
    have hw1: ∀a:Array Value,Region.wanted o (yielded #[o,o2] a)=true:=fun a=>by simp[Region.wanted,h3]
    have hw2: ∀a:Array Value,Region.wanted o2 (yielded #[o,o2] a)=true:=fun a=>by simp[Region.wanted,h6]
    have hrange:List.range (#[o,o2]:Array Oper).size=[0,1]:=rfl;rw[hrange];have step: ∀(mv:Value) (cs':List Frame),(∃u',u'=caught u/\cs'= {c0 with mode:=u'}::cs)->CRep w Im (m.getD .nili) mv->(match recoverD (c0::cs) with|some (v,cs2)=>v=mv/\cs2=cs'| none=>Value.nilIface=mv/\c0::cs=cs')->
      wpOpsS P #[o,o2] (Exit.thenS (c.wpS P (bodyPostS P fn c0 cs fun e u' w'=>Ends w Im ρ bl obs out e w'/\u'=caught u)) (bodyPostS P fn c0 cs fun e u' w'=>Ends w Im ρ bl obs out e w'/\u'=caught u)) [0,1] {tmps:=vs.toArray++Array.replicate (fn.ntmps - vs.toArray.size) undef,defers:=[]} (c0::cs) w:=fun mv cs' ⟨u',hu',hcs'⟩ hmv hrec=>by
     have hlast: ∀cs'',cs''=cs'->wpOpsS P #[o,o2] (Exit.thenS (c.wpS P (bodyPostS P fn c0 cs fun e u' w'=>Ends w Im ρ bl obs out e w'/\u'=caught u)) (bodyPostS P fn c0 cs fun e u' w'=>Ends w Im ρ bl obs out e w'/\u'=caught u)) [1] (({tmps:=vs.toArray++Array.replicate (fn.ntmps - vs.toArray.size) undef,defers:=[]}:Act).put (some e) mv) cs'' w:=fun cs'' hcs''=>by unfold wpOpsS;simp only[List.getElem?_toArray,za2,zar,hw2,if_true];rw[hrun2,hget _ _ hsz];simp only[Oper.upon,h5];unfold wpOpsS;subst hcs'';exact hend mv cs'' u' hu' hcs' hmv
     unfold wpOpsS;simp only[List.getElem?_toArray,zar,hw1,if_true];rw[hrun,h2];simp only;split at hrec
     ·rename_i v cs2 hr;rw[hr];obtain⟨rfl,rfl⟩:=hrec;exact hlast _ rfl
     ·rename_i hr;rw[hr];obtain⟨rfl,rfl⟩:=hrec;exact hlast _ rfl
    cases m with
    | none=>
     have hm:u=.returning:=hm;subst hm;refine step .nilIface (c0::cs) ⟨.returning,rfl,by rw[<- hu]⟩ .nili ?_;simp only[recoverD,hu]
     first|exact⟨rfl,rfl⟩|exact⟨trivial,rfl⟩|exact⟨trivial,trivial⟩
    | some cv=>
     obtain⟨v,rfl,hcv⟩:=hm;refine step v ({c0 with mode:=.panicking [{v,recovered:=true}]}::cs) ⟨_,rfl,rfl⟩ hcv ?_;simp only[recoverD,hu]
     first|exact⟨rfl,rfl⟩|exact⟨trivial,rfl⟩|exact⟨trivial,trivial⟩
   ·cases hbody
  ·cases hbody
 ·cases hbody
def xbhs{ρ':NL}{an:Nat->Option (Sh×Loc)}(h1: ∀j o,j<32->qal H j=some o->an j=some (shp o,ρ j))(h2: ∀j o,j<32->qal H' j=some o->an j=some (shp o,ρ' j)){x:Value}(hl:xbmg H v=true)(h:VRep w Im ρ (shOf H) v x):VRep w' Im' ρ' (shOf H') v x:=by
 cases v with
 | ptr p i o=>
  simp only[xbmg,zab,zb4] at hl;obtain⟨hp,hq⟩:=hl
  cases hg:qal H p with
  | none=>rw[hg] at hq;cases hq
  | some ob=>
   have e1:=h1 p ob hp hg;have key:shOf H' p=none\/(shOf H' p=shOf H p/\ρ' p=ρ p):=by
    cases hg':qal H' p with
    | none=>left;simp[shOf,hg']
    | some ob'=>
     right;have e2:=h2 p ob' hp hg';rw[e1] at e2;simp only[zaa,zaz] at e2;exact⟨by simp[shOf,hg,hg',e2.1],e2.2.symm⟩
   cases h with
   | ptrN _ _ _ ad hS=>simp[shOf,hg] at hS
   | ptr _ _ _ s b base lim g1 g2 g3=>
    rcases key with e|⟨e,e'⟩
    ·exact .ptrN _ _ _ _ e
    ·exact .ptr _ _ _ s b base lim (e.trans g1) (e'.trans g2) g3
 | _=>simp[xbmg] at hl
def q3j{m:Option CV}{u:FrameMode}(h:qvn w Im m u):settle (caught u)=.returning:=by
 cases m with
 | none=>have h:u=.returning:=h;subst h;rfl
 | some c=>obtain⟨v,rfl,_⟩:=h;rfl
def xbty{m:Option CV}{u:FrameMode}(h:qvn w Im m u):u≠.run:=by
 cases m with
 | none=>have h:u=.returning:=h;subst h;simp
 | some c=>obtain⟨v,rfl,_⟩:=h;simp
def xba1{D:DEnv}(hD: ∀g,DSound P E.glob g fun m as obs=>cond (D.pre g m as obs) (D.orc g m as obs) none)(hfns: ∀g m as obs out,D.orc g m as obs=some out->∃fn,P.funcs[g]? =some fn/\fn.body.isSome=true/\(fn.name== "runtime.NumGoroutine")=false)(hrg:E.rg=false){keep:Bool}{obs:List Obj}{all:LV}{ex:Ex}{σ:St}{out:Out}{ρ0:NL}{an:Nat->Option (Sh×Loc)}{W:World}{an0:Nat->Option (Sh×Loc)}{cap dargs:Array Value}{u:FrameMode}{m:Option CV}(hm:xblq ex=some m)(hu:qvn w Im m u)(h:xbge P D keep fn obs.length g all ex σ=some out)(hI:Inv E ⟨W,an,[{target:=.fn (.func g) cap,args:=dargs}]⟩ bl I0 σ.slots σ.heap a w Im ρ)(hall:RepL w Im ρ (shOf σ.heap) all vs)(hvs:(dargs++cap)=vs.toArray)(han: ∀j,j<32->j∉D.low.map (·.2)->∀z,an j=some z->an0 j=some z)(hsm:obs.length<=32)(h0: ∀j o,obs[j]? =some o->an0 j=some (shp o,ρ0 j)):
  Leaves P fn a.tmps (Ends W I0 ρ0 bl obs out) a.defers u w:=by
 have hds:a.defers=[{target:=.fn (.func g) cap,args:=dargs}]:=by obtain⟨Ds,e1,_,_,e2⟩:=hI.df;rw[e1,e2 hrg];rfl
 unfold xbge at h;rw[hm] at h;simp only at h;generalize hnm:dedup (qb7 σ.heap (List.range all.length) 0 all)=names at h
 cases h28:Nat.ble 28 names.length with
 | true=>rw[h28] at h;cases h
 | false=>
 rw[h28] at h;simp only[cond_false] at h;split at h
 ·rename_i obl h63 hobs;replace h:=qaa h;obtain⟨hpr,h⟩:=h;split at h
  ·rename_i rs objs horc;replace h:=qaa h;obtain⟨hlen,h⟩:=h;have hlen:=qag.1 hlen;replace h:=qaa h;obtain⟨hlow,h⟩:=h;have hnd:names.Nodup:=by rw[<- hnm];exact qft _
   have hall':=qyf (P:=P) (H:=σ.heap) (br:=List.range all.length) (l:=all) (i:=0) (ts:=[]) fun j _ hj=>zde.2 ⟨j,by simpa using hj,za7 j⟩;have hsmall:names.length<=28:=by
    rcases zb5 names.length 28 with h'| h'
    ·omega
    ·rw[zcr h'] at h28;cases h28
   have hpre:=q5g (P:=P) (lent:=[]) hI hall hnd (fun p _=>by simp) hsmall hall'.1 hobs (fun q hq=>by rw[<- hnm];exact ql8.2 hq) (fun q hq=>by rw[hall'.2] at hq;simp at hq);obtain⟨fng,hfg,hbg,hng⟩:=hfns g _ _ _ _ horc;have hcf: ∀args w,(callFunc g args).run P w=.ok (.enter g args) w:=fun args w=>by
    have hn': ¬fng.name= "runtime.NumGoroutine" :=by simpa using hng
    obtain⟨c,hc⟩:=zax.1 hbg;simp[callFunc,hfg,hn',hc]
   have hu':qvn w (ImC Im σ.heap ρ []) m u:=by
    cases m with
    | none=>exact hu
    | some c=>obtain⟨v,e,hc⟩:=hu;exact⟨v,e,hc.keep (fun _ _=>rfl) fun _ h=>.inl h⟩
   rw[hds];refine leaves_cons (f:=g) (args:=vs.toArray) (xbty hu) (by rw[<- hvs];simp[invoke,go_sem,hcf]) ?_;refine(hD g m _ _ _ w _ _ _ vs u (show cond _ _ none=some _ by rw[hpr];exact horc) hpre hu').mono ?_;rintro e u' w' ⟨he,rfl⟩;obtain⟨us,Im',ρ',rfl,hpost,_⟩:=he;show Leaves P fn a.tmps _ [] (settle (caught u)) w';rw[q3j hu];obtain⟨Im2,ρ2,hI2,_⟩:=qyk (f0:=qbk names 0) (pos:=62) (flat:=false) (mk:=false) (lent:=[]) hI hnd (fun p _=>by simp) hsmall hobs h63 (fun i=>by omega) (by omega) (by simp;omega) (fun h=>by cases h) hpost (fun h=>by cases h);have h4:=On.renAll (D.low.map fun(p,q)=>(q,p)) (σ:=⟨σ.slots,updH σ.heap (qgl names 62 (qdh names 62 objs.length) 0 objs)⟩) ⟨Im2,ρ2,hI2⟩;have h5:=On.high (w0:=⟨W,an0,[{target:=.fn (.func g) cap,args:=dargs}]⟩) (T:=D.low.map (·.2)) h4 han fun j hj=>by
    obtain⟨⟨p,q⟩,hpq,rfl⟩:=zbo.1 hj;have:=zai.1 hlow _ hpq;simp only at this
    cases hg:qal (renAll (D.low.map fun(p,q)=>(q,p)) ⟨σ.slots,updH σ.heap (qgl names 62 (qdh names 62 objs.length) 0 objs)⟩).heap q with
    | none=>rfl
    | some o=>rw[hg] at this;cases this
   exact qfl h h5 hsm h0
  ·cases h
 ·cases h
def qu1{ops:Array Oper}{Q Q':EP}(hl: ¬LetsOut Q'){rest:List Oper}(hp: ∀c a w,Q' (.panic c) a w->Q (.panic c) a w)(hn: ∀a w,Q' .normal a w->wpList P ops Q rest a w): ∀(os:List Oper) (a:Act) (w:World),wpList P ops Q' os a w->wpList P ops Q (os++rest) a w
 | [],a,w,h=>hn a w h
 | o::r,a,w,h=>by
  unfold wpList at h;rw[zbq];unfold wpList;by_cases hw:Region.wanted o (yielded ops a.tmps)=true
  ·rw[yc hw] at h ⊢;have h:=h.resolve_right fun h=>hl h.2;left;have ih:=fun a w=>qu1 hl hp hn r a w;unfold Oper.wp at h ⊢;generalize (execOp a.eval o).run P w=res at h ⊢
   cases res with
   | halt x w'=>cases x<;>first|exact hp _ _ _ h|exact h.elim
   | ok x w'=>
    cases x with
    | enter f args=>
     refine h.mono fun e w2 he=> ?_
     cases e with
     | returned v=>exact ih _ _ he
     | panicked c=>exact hp _ _ _ he
     | outgrown=>exact absurd he hl
    | row row args=>
     intro c cs;obtain⟨v,w2,h1,h2⟩:=h c cs;exact⟨v,w2,ih _ _ h1,h2⟩
    | _=>first|exact ih _ _ h|exact h.elim
  ·rw[yb hw] at h ⊢;exact qu1 hl hp hn r _ _ h
def xbae{D:DEnv}{keep:Bool}{N:Nat}{S:FSpec}(hE: ∀g,Sound P E.glob g (ctr E g))(hsq:qdp P E)(hdraw:qxa P E)(hD: ∀g,DSound P E.glob g fun m as obs=>cond (D.pre g m as obs) (D.orc g m as obs) none)(hfns: ∀g m as obs out,D.orc g m as obs=some out->∃fn,P.funcs[g]? =some fn/\fn.body.isSome=true/\(fn.name== "runtime.NumGoroutine")=false)(hrg:E.rg=false)(hf:P.funcs[g]? =some fn)(hn:(fn.name== "runtime.NumGoroutine")=false)(hb:fn.body.isSome=true)(hyl:E.yl=fun _=>none)(hlo: ∀c,fn.body=some c->qbf P E N c)(hnt:E.nt=fn.ntmps)(hS: ∀as obs out,S as obs=some out->as.length<=fn.ntmps/\xbr3 P E D N keep fn as obs=some out):Sound P E.glob g S:=by
 intro as obs out w Im ρ bl vs hs hpre;obtain⟨hlen,hbody⟩:=hS as obs out hs;obtain⟨c,hc⟩:=zax.1 hb;left;constructor
 ·have hn': ¬fn.name= "runtime.NumGoroutine" :=by simpa using hn
  simp[callFunc,hf,hn',hc]
 ·refine calls_of_wp_defers hf hc ?_;have hI0:=frame0 (E:=E) (fn:=fn) hpre hlen hnt;unfold xbr3 at hbody;rw[hc] at hbody;simp only at hbody;generalize hkp:(fun(ex:Ex) (σ:St)=>(match ex with
   | .normal=>none
   | .ret=>finish P keep fn obs.length σ
   | .pan c=>some (.pan c (qhw σ.heap obs.length))
   | .exit _=>none:OO))=kp at hbody
  have hout: ∀(ex:Ex) (σ:St) (e:Exit) (a:Act) (w':World) (Im':NP) (ρ':NL),kp ex σ=some out->Inv E ⟨w,fun j=>(qal (heap0 0 obs) j).map fun o=>(shp o,ρ j),[]⟩ bl Im σ.slots σ.heap a w' Im' ρ'->Meet ex e w' Im'->bodyPostD P fn (Ends w Im ρ bl obs out) e a w':=fun ex σ e a w' Im' ρ' h1 h2 h3=>by
   subst hkp;have hdf:=Inv.defers h2 rfl hrg
   cases ex with
   | normal=>cases h1
   | ret=>
    cases e<;>first|exact h3.elim|skip
    show Leaves P fn a.tmps _ a.defers .returning w';rw[hdf];exact qfl h1 ⟨Im',ρ',h2⟩ hpre.small an0
   | exit i=>cases h1
   | pan cv=>
    cases e<;>first|exact h3.elim|skip
    obtain⟨x,rfl,hcr⟩:=h3;simp only[zaa] at h1;subst h1;show Leaves P fn a.tmps _ a.defers (.panicking _) w';rw[hdf];exact⟨x,Im',ρ',rfl,qzr h2 hpre.small an0,hcr⟩
  have hloc:=hlo c hc;have key: ∀(c:Code),qbf P E N c->∀(σ:St) (a:Act) (w':World),xbix P E D N kp (fun g all c σ=>qby P E N c σ (xbge P D keep fn obs.length g all)) c σ=some out->
    On E ⟨w,fun j=>(qal (heap0 0 obs) j).map fun o=>(shp o,ρ j),[]⟩ bl Im σ a w'->c.wp P (bodyPostD P fn (Ends w Im ρ bl obs out)) a w':=by
   intro c
   induction c with
   | seq x y ihx ihy=>
    intro hlo σ a w' h hO;unfold xbix at h;refine wp_seq ?_;split at h
    ·rename_i ops hx;have hxr: ∃id,x=.region id ops false:=by
      cases x<;>first|cases hx|skip
      rename_i id ops' draw
      cases draw with
      | true=>cases hx
      | false=>
       have:=(qaa hx).2;simp only[zaa] at this;exact⟨id,by rw[this]⟩
     obtain⟨id,rfl⟩:=hxr;clear hx;unfold xb81 at h;split at h
     ·rename_i o hlast;split at h
      ·rename_i f xs ts ho hdst hgd;refine wp_region_list ?_;have hsplit:ops.toList=ops.toList.dropLast++[o]:=by
        have hne:ops.toList≠[]:=fun e=>by rw[e] at hlast;cases hlast
        rw[List.getLast?_eq_some_getLast hne] at hlast;simp only[zaa] at hlast;rw[<- hlast];exact(List.dropLast_concat_getLast hne).symm
       rw[hsplit];refine qu1 qnw (fun c a w hq=> ?_) (fun a1 w1 hq=> ?_) _ _ _ (qd0 hE (fun _ _ _ h=>h) _ _ _ _ h (On.prep _ hO))
       ·obtain⟨ex,σ',Im',ρ',h1,h2,h3⟩:=hq
        cases ex with
        | pan c=>exact hout _ _ _ _ _ _ _ h1 h2 h3
        | _=>exact h3.elim
       ·obtain⟨ex,σ',Im',ρ',h1,h2,h3⟩:=hq;cases ex<;>first|exact h3.elim|skip
        simp only at h1;split at h1
        ·rename_i gd first caps hfn
         replace h1:=qaa h1;obtain⟨hpl,h1⟩:=h1;have hds:=Inv.defers h2 rfl hrg;obtain⟨an1,han1,Im2,ρ2,hI2⟩:=OnT.lowAll (E:=E) (w0:=⟨w,fun j=>(qal (heap0 0 obs) j).map fun o=>(shp o,ρ j),[]⟩) D.low (T:=[]) (σ:=σ') ⟨_,fun _ _ _ _ h=>h,Im',ρ',h2⟩;obtain⟨vf,vc,hvf,r1,r2⟩: ∃(vf vc:List Value),a1.eval f=.func (.func gd) vf.toArray vc.toArray/\RepL w1 Im2 ρ2 (shOf (lowAll D.low σ').heap) first vf/\RepL w1 Im2 ρ2 (shOf (lowAll D.low σ').heap) caps vc:=by
          have hr:=hI2.opd f;generalize a1.eval f=y at hr ⊢;generalize opd E (lowAll D.low σ').slots f=x at hr hfn;unfold fnOf at hfn;split at hfn
          ·rename_i f' a' b';simp only[zaa,zaz] at hfn;obtain⟨rfl,rfl,rfl⟩:=hfn;have hr:=hr.closed
           cases hr with
           | fn _ _ _ va vb e1 e2 e3 e4=>
            refine⟨va,vb,rfl,⟨by simpa using e1,fun j c v hj hv=> ?_⟩,⟨by simpa using e2,fun j c v hj hv=> ?_⟩⟩
            ·rw[zah] at hj;obtain⟨c',hc',rfl⟩:=zam.1 hj;exact .cl _ _ (e3 j c' v hc' hv)
            ·rw[zah] at hj;obtain⟨c',hc',rfl⟩:=zam.1 hj;exact .cl _ _ (e4 j c' v hc' hv)
          ·rename_i f' a' b';simp only[zaa,zaz] at hfn;obtain⟨rfl,rfl,rfl⟩:=hfn
           cases hr with
           | fn _ _ _ va vb e1 e2 e3 e4=>exact⟨va,vb,rfl,⟨e1,e3⟩,⟨e2,e4⟩⟩
          ·cases hfn
         have r3:RepL w1 Im2 ρ2 (shOf (lowAll D.low σ').heap) (xs.toList.map (opd E (lowAll D.low σ').slots)) (xs.toList.map a1.eval):=⟨by simp,fun j c v hj hv=>by
          rw[zah] at hj hv
          cases hx:xs.toList[j]? with
          | none=>rw[hx] at hj;cases hj
          | some x=>
           rw[hx] at hj hv;simp only[zao,zaa] at hj hv;subst hj hv;exact hI2.opd x⟩
         have rapp: ∀ {l1 l2:LV} {v1 v2:List Value},RepL w1 Im2 ρ2 (shOf (lowAll D.low σ').heap) l1 v1->RepL w1 Im2 ρ2 (shOf (lowAll D.low σ').heap) l2 v2->RepL w1 Im2 ρ2 (shOf (lowAll D.low σ').heap) (l1++l2) (v1++v2):=fun {l1 l2 v1 v2} g1 g2=>⟨by simp[g1.1,g2.1],fun j c v hj hv=>by
          rcases zb5 j l1.length with hlt|hge
          ·rw[za4 hlt] at hj;rw[za4 (by rw[g1.1];exact hlt)] at hv;exact g1.2 j c v hj hv
          ·rw[za1 hge] at hj;rw[za1 (by rw[g1.1];exact hge),g1.1] at hv;exact g2.2 _ c v hj hv⟩
         have rall:=rapp (rapp r1 r3) r2;have hrun:(execOp a1.eval o).run P w1=.ok (.defer {target:=.fn (.func gd) vc.toArray,args:=vf.toArray++xs.map a1.eval}) w1:=by unfold execOp;simp only[ho,resolve,hvf];simp[go_sem,Deferred.ofValue]
         unfold wpList;rw[yc (by simp[Region.wanted,hgd])];left;unfold Oper.wp;rw[hrun];simp only[Oper.upon];unfold wpList;rw[hdst,hds];have hI3:Inv E ⟨w,an1,[{target:=.fn (.func gd) vc.toArray,args:=vf.toArray++xs.map a1.eval}]⟩ bl Im (lowAll D.low σ').slots (lowAll D.low σ').heap {a1 with defers:=[{target:=.fn (.func gd) vc.toArray,args:=vf.toArray++xs.map a1.eval}]} w1 Im2 ρ2:=
          ⟨hI2.gam,hI2.fr,hI2.sl,hI2.nt,⟨[],rfl,by simp,by simp,fun _=>rfl⟩,hI2.gl,hI2.st⟩
         show(y.wp P (bodyPostD P fn (Ends w Im ρ bl obs out))) {a1 with defers:=[{target:=.fn (.func gd) vc.toArray,args:=vf.toArray++xs.map a1.eval}]} w1;refine qeu hE hsq hyl hdraw N y hlo.2.1 _ _ _ _ _ (fun e a' w' hl=> ?_) h1 ⟨Im2,ρ2,hI3⟩;obtain⟨ex,σe,Ie,ρe,k1,k2,k3⟩:=hl;have rend:RepL w' Ie ρe (shOf σe.heap) (first++xs.toList.map (opd E (lowAll D.low σ').slots)++caps) (vf++xs.toList.map a1.eval++vc):=⟨rall.1,fun j c v hj hv=>xbhs hI3.st k2.st (zai.1 hpl _ (zad hj)) (rall.2 j c v hj hv)⟩;have hgo: ∀(u:FrameMode) (m:Option CV),xblq ex=some m->qvn w' Ie m u->Leaves P fn a'.tmps (Ends w Im ρ bl obs out) a'.defers u w':=fun u m hm hu=>
          xba1 hD hfns hrg hm hu k1 k2 rend (by apply zc4;simp) (fun j hj hn z hz=>han1 j hj (by simpa using hn) z hz) hpre.small an0
         cases ex with
         | normal=>
          cases e<;>first|exact k3.elim|skip
          exact hgo .returning none rfl rfl
         | ret=>
          cases e<;>first|exact k3.elim|skip
          exact hgo .returning none rfl rfl
         | exit i=>simp[xbge,xblq] at k1
         | pan cv=>
          cases e<;>first|exact k3.elim|skip
          obtain⟨x,rfl,hcr⟩:=k3;exact hgo _ (some cv) rfl ⟨x,rfl,hcr⟩
        ·cases h1
      ·cases h
     ·cases h
    ·refine qeu hE hsq hyl hdraw N x hlo.1 _ _ _ _ _ (fun e a' w1 hl=> ?_) h hO;obtain⟨ex,σ',Im',ρ',h1,h2,h3⟩:=hl
     cases ex with
     | normal=>
      cases e<;>first|exact h3.elim|skip
      exact ihy hlo.2.1 σ' a' w1 h1 ⟨Im',ρ',h2⟩
     | ret=>
      cases e<;>first|exact h3.elim|skip
      exact hout _ _ _ _ _ _ _ h1 h2 h3
     | exit i=>
      cases e<;>first|exact h3.elim|skip
      exact hout _ _ _ _ _ _ _ h1 h2 h3
     | pan cv=>
      cases e<;>first|exact h3.elim|skip
      exact hout _ _ _ _ _ _ _ h1 h2 h3
   | _=>intro _ σ a w' h _;simp[xbix] at h
  exact key c hloc _ _ _ hbody ⟨Im,ρ,hI0⟩
end
end Go.Proofs.YtoaakappnhemiaaGreatDoorA
