/-
 A range over a function: the rounds, and the statement. The reader's code in the machine. Conditions: none.
-/
import Derived.Test.YtoiikagnjcjccaaGreatDoorK2a
import Derived.RangeFuncLeaves
import Derived.RangeFuncRecord
import Derived.RangeFuncOwn
import Derived.Recover
set_option linter.unusedVariables false
set_option linter.unusedSimpArgs false
set_option maxRecDepth 100000
namespace Go.Proofs.YtoiikagnjcjccaaGreatDoorA
section
variable {P:Program} {E:Env} {w0:Base} {bl I0:Nat->Prop} {s:List (Nat×V)} {H:Heap} {a:Act} {w w':World} {Im:Nat->Prop} {ρ:Nat->Loc}
theorem Inv.widen(h:Inv E w0 bl I0 s H a w Im ρ){bl':Nat->Prop}(hb: ∀b,bl b->bl' b):Inv E w0 bl' I0 s H a w Im ρ:=by
 refine⟨⟨h.gam.im,h.gam.i0,h.gam.ob,h.gam.dj,fun p o b x y hp hr=>⟨(h.gam.lk p o b x y hp hr).1,(h.gam.lk p o b x y hp hr).2.1,fun hl=>⟨((h.gam.lk p o b x y hp hr).2.2 hl).1,(((h.gam.lk p o b x y hp hr).2.2 hl).2).imp (hb b) id⟩⟩,fun b hm=> ?_⟩,
  h.fr.mono fun b x=>.inl (hb b x),h.sl,h.nt,h.df,h.gl,h.st⟩
 rcases h.gam.imo b hm with e|e|e
 ·exact .inl e
 ·exact .inr (.inl (hb b e))
 ·exact .inr (.inr e)
theorem Inv.reslot(h:Inv E w0 bl I0 s H a w Im ρ){s2:List (Nat×V)}{a2:Act}(ha:a2.tmps.size=E.nt)(hh:Held E w0.df w0.w.heap.size a2 w Im)(hs: ∀t,VRep w Im ρ (shOf H) (getV s2 t) (a2.tmps.getD t undef)):Inv E w0 bl I0 s2 H a2 w Im ρ:=
 ⟨h.gam,h.fr,hs,ha,hh,h.gl,h.st⟩
theorem xbbg(h:Inv E w0 bl I0 s H a w Im ρ){b:Nat}(hb:obs H ρ b):Im b\/chg H ρ b:=by
 obtain⟨p,o,x,y,h1,h2⟩:=hb
 cases hl:o.lock with
 | true=>exact .inl ((h.gam.lk p o b x y h1 h2).2.1 hl)
 | false=>exact .inr ⟨p,o,x,y,h1,hl,h2⟩
theorem Inv.unbase2{E':Env}{s':List (Nat×V)}{H':Heap}{a':Act}{Im' I1 bl1:Nat->Prop}{ρ':Nat->Loc}{an:Nat->Option (Sh×Loc)}(h:Inv E w0 bl I0 s H a w Im ρ){df1:List Deferred}(h':Inv E ⟨w,an,df1⟩ bl1 I1 s' H' a' w' Im' ρ')(hb: ∀b,bl1 b->bl b\/w0.w.heap.size<=b)(h0: ∀b,I0 b->I1 b)(h1: ∀b,I1 b->I0 b\/bl b\/w0.w.heap.size<=b){a2:Act}(ht:a2.tmps=a'.tmps)(hh:Held E w0.df w0.w.heap.size a2 w' Im'):Inv E ⟨w0.w,an,w0.df⟩ bl I0 s' H' a2 w' Im' ρ':=by
 refine⟨⟨h'.gam.im,fun b hb=>h'.gam.i0 b (h0 b hb),h'.gam.ob,h'.gam.dj,fun p o b x y hp hr=>⟨(h'.gam.lk p o b x y hp hr).1,(h'.gam.lk p o b x y hp hr).2.1,fun hl=>⟨((h'.gam.lk p o b x y hp hr).2.2 hl).1, ?_⟩⟩,fun b hm=> ?_⟩,
  h.fr.trans h'.fr hb,fun t=>by rw[ht];exact h'.sl t,by rw[ht];exact h'.nt,hh,h'.gl,h'.st⟩
 ·rcases((h'.gam.lk p o b x y hp hr).2.2 hl).2 with e|e
  ·exact hb b e
  ·exact .inr (zby h.fr.size e)
 ·rcases h'.gam.imo b hm with e|e|e
  ·exact h1 b e
  ·exact .inr (hb b e)
  ·exact .inr (.inr (zby h.fr.size e))
theorem qcq(w:World)(l:Nat)(o:Go.Obj):(w.putObj l o).heap.size=w.heap.size:=by simp
theorem Inv.both{df:List Deferred}{W:World}{an:Nat->Option (Sh×Loc)}(h:Inv E ⟨W,an,df⟩ bl I0 s H a w Im ρ){l:Nat}{o:Go.Obj}(hl:l<W.heap.size)(hi: ¬Im l)(ho: ¬obs H ρ l):Inv E ⟨W.putObj l o,an,df⟩ bl I0 s H a (w.putObj l o) Im ρ:=by
 have hoth: ∀b,b≠l->(w.putObj l o).heap[b]? =w.heap[b]? :=fun b hb=>World.putObj_heap_other hb;have hk:Keep Im w (w.putObj l o):=fun b hb=>hoth b fun e=>hi (e▸hb);have hv: ∀v x,VRep w Im ρ (shOf H) v x->VRep (w.putObj l o) Im ρ (shOf H) v x:=fun v x hx=>hx.congr hk (fun _ h=>h) (fun q _=>.inr ⟨rfl,rfl⟩);have hs:W.heap.size<=w.heap.size:=h.fr.size;refine⟨⟨fun b hb=>by rw[qcq];exact h.gam.im b hb,h.gam.i0,fun p u hp=>(h.gam.ob p u hp).congr (fun b x y hr=>hoth b fun e=>ho ⟨p,u,x,y,hp,by rw[<- e];exact hr⟩) fun j c x _=>hv c x,h.gam.dj,
  fun p u b x y hp hr=> ?_,fun b hb=> ?_⟩,⟨h.fr.os,h.fr.tape,h.fr.output,by rw[qcq,qcq];exact hs,fun b hb hn=> ?_⟩,fun t=>hv _ _ (h.sl t),h.nt, ?_,fun g c hg=>(h.gl g c hg).keep hk (fun _ h=>h),h.st⟩
 ·have:=h.gam.lk p u b x y hp hr;rw[qcq];show _/\_/\(_->_/\(_\/(W.putObj l o).heap.size<=b));rw[qcq];exact this
 ·show _\/_\/(W.putObj l o).heap.size<=b;rw[qcq];exact h.gam.imo b hb
 ·rw[qcq] at hb;by_cases e:b=l
  ·subst e;rw[World.putObj_heap_same hb,World.putObj_heap_same (by omega)]
  ·rw[World.putObj_heap_other e,World.putObj_heap_other e];exact h.fr.block b hb hn
 ·show Held E df (W.putObj l o).heap.size a (w.putObj l o) Im;rw[qcq];exact h.df.keep hk (fun _ h=>h)
theorem Inv.vacate{σ:St}(h:Inv E w0 bl I0 σ.slots σ.heap a w Im ρ)(p:Nat):Inv E w0 bl I0 (vacate p σ).slots (vacate p σ).heap a w Im ρ:=by
 have hid: ∀c:V,renV (fun p=>p) c=c:=qkm;have hget: ∀(x:Nat) (o':Obj),qaj (q6w p σ.heap) x=some o'->x≠p/\∃o,qaj σ.heap x=some o/\o'= {o with row:=qpe (fun c=>cond (qdj p c) .undef c) o.row}:=fun x o' hx=>by
  rw[qe0] at hx;split at hx
  ·cases hx
  ·rename_i hne;obtain⟨u,hu,rfl⟩:=zaq.1 hx;refine⟨hne,u,hu, ?_⟩;obtain⟨row,lock⟩:=u;cases row<;>simp[q6x,qpe]
 refine h.map (f:=fun p=>p) (g:=fun c=>cond (qdj p c) .undef c) (Bad:=fun m=>m=p) (fun c=>rfl) (fun c=> ?_) (fun t=>.inr (qh6 p σ.slots t)) (fun x o' hx=> ?_) fun m hm=> ?_
 ·cases hb:qdj p c with
  | true=>left;rfl
  | false=>right;exact⟨(hid c).symm,fun m hm e=>by subst e;rw[hb] at hm;cases hm⟩
 ·obtain⟨_,o,h1,h2⟩:=hget x o' hx;exact⟨x,o,h1,rfl,rfl,h2,fun _=>rfl⟩
 ·cases hx:qaj (q6w p σ.heap) m with
  | none=>left;simp[shOf,YtoiikagnjcjccaaGreatDoorA.vacate,hx]
  | some o'=>
   right;obtain⟨_,o,h1,h2⟩:=hget m o' hx;refine⟨?_,rfl⟩;simp only[shOf,YtoiikagnjcjccaaGreatDoorA.vacate,hx,h1,zap,h2];rw[qfq]
theorem q7r{σ:St}{p x:Nat}{o':Obj}(hx:qaj (vacate p σ).heap x=some o'):x≠p/\∃o,qaj σ.heap x=some o/\o.lock=o'.lock:=by
 change qaj (q6w p σ.heap) x=some o' at hx;rw[qe0] at hx;split at hx
 ·cases hx
 ·rename_i hne;obtain⟨u,hu,rfl⟩:=zaq.1 hx;exact⟨hne,u,hu,rfl⟩
theorem Inv.vacAll: ∀(l:List Nat) {σ:St},Inv E w0 bl I0 σ.slots σ.heap a w Im ρ->Inv E w0 bl I0 (vacAll l σ).slots (vacAll l σ).heap a w Im ρ/\
  ∀x o',qaj (vacAll l σ).heap x=some o'->x∉l/\∃o,qaj σ.heap x=some o/\o.lock=o'.lock
 | [],σ,h=>⟨h,fun x o' hx=>⟨by simp,o',hx,rfl⟩⟩
 | p::r,σ,h=>by obtain⟨h1,h2⟩:=Inv.vacAll r (h.vacate p);refine⟨h1,fun x o' hx=> ?_⟩;obtain⟨g1,o,g2,g3⟩:=h2 x o' hx;obtain⟨k1,u,k2,k3⟩:=q7r g2;exact⟨by simp[g1,k1],u,k2,k3.trans g3⟩
def setT:List Nat->List Value->Array Value->Array Value
 | p::ps,c::cs,t=>setT ps cs (t.setIfInBounds p c)
 | _,_,t=>t
theorem xbj5: ∀(ps:List Nat) (cs:List Value) (t:Array Value),(ps.zip cs).foldl (fun(t:Array Value) (x:Nat×Value)=>t.setIfInBounds x.1 x.2) t=setT ps cs t
 | [],cs,t=>rfl
 | p::ps,[],t=>rfl
 | p::ps,c::cs,t=>by simp only[List.zip_cons_cons,zc8,setT];exact xbj5 ps cs _
theorem xbod(ps:Array Tmp)(cs:List Value)(t:Array Value):(ps.zip cs.toArray).foldl (fun(t:Array Value) (x:Nat×Value)=>t.setIfInBounds x.1 x.2) t=setT ps.toList cs t:=by rw[<- xbj5, <- Array.foldl_toList];simp
theorem q4x: ∀(ps:List Nat) (cs:List Value) (t:Array Value),(setT ps cs t).size=t.size
 | [],cs,t=>rfl
 | p::ps,[],t=>rfl
 | p::ps,c::cs,t=>by simp only[setT];rw[q4x ps cs];simp
theorem xbcs{S:Nat->Option Sh}: ∀(ps:List Nat) (cs:List CV) (us:List Value) (s:List (Nat×V)) (t:Array Value),xbes w Im cs us->(∀p∈ps,p<t.size)->(∀i,VRep w Im ρ S (getV s i) (t.getD i undef))->
  ∀i,VRep w Im ρ S (getV (xbua ps cs s) i) ((setT ps us t).getD i undef)
 | [],cs,us,s,t,_,_,h=>h
 | p::ps,[],[],s,t,_,_,h=>h
 | p::ps,[],u::us,s,t,hc,_,h=>by have:=hc.1;simp at this
 | p::ps,c::cs,[],s,t,hc,_,h=>by have:=hc.1;simp at this
 | p::ps,c::cs,u::us,s,t,hc,hp,h=>by
  simp only[xbua,setT];refine xbcs ps cs us _ _ ⟨by simpa using hc.1,fun j c v hj hv=>hc.2 (j+1) c v (by simpa using hj) (by simpa using hv)⟩ (fun p hp'=>by simpa using hp p (by simp[hp'])) fun i=> ?_;rw[qqb];rw[zaz,zb0];split
  ·rename_i e;subst e;rw[if_pos rfl,if_pos (hp _ (by simp))];exact .cl _ _ (hc.2 0 c u rfl rfl)
  ·rename_i e;rw[if_neg (fun h=>e h.symm), <- zaz];exact h i
structure Mid (E:Env) (B1:Base) (bl1 I1:Nat->Prop) (l:Nat) (tm:Array Value) (σ:St) (W:World) (Im:Nat->Prop) (ρ:Nat->Loc) (O C:Nat->Prop):Prop where
 inv:Inv E B1 bl1 I1 σ.slots σ.heap ⟨tm,[]⟩ W Im ρ
 ni: ¬Im l
 nc: ¬chg σ.heap ρ l
 o: ∀b,O b↔Im b\/chg σ.heap ρ b\/b=l\/(b<B1.w.heap.size/\¬bl1 b)
 c: ∀b,C b↔chg σ.heap ρ b\/b=l
variable {B1:Base} {bl1 I1:Nat->Prop} {l:Nat} {tm:Array Value} {σ:St} {W W':World} {O C:Nat->Prop}
theorem Mid.nob(h:Mid E B1 bl1 I1 l tm σ W Im ρ O C): ¬obs σ.heap ρ l:=fun e=>(xbbg h.inv e).elim h.ni h.nc
theorem Mid.beside(h:Mid E B1 bl1 I1 l tm σ W Im ρ O C){Ch:Nat->Prop}(hf:Fr W Ch W')(hc: ∀b,Ch b-> ¬O b):Mid E B1 bl1 I1 l tm σ W' Im ρ O C:=by
 refine⟨h.inv.beside hf fun b hlt hb=> ?_,h.ni,h.nc,h.o,h.c⟩;have hn:=hc b hb;rw[h.o] at hn;refine⟨fun e=>hn (.inl e),fun e=>(xbbg h.inv e).elim (fun e=>hn (.inl e)) fun e=>hn (.inr (.inl e)), ?_⟩;by_cases e:bl1 b
 ·exact .inl e
 ·right;rcases zbo b B1.w.heap.size with h'| h'
  ·exact absurd (.inr (.inr (.inr ⟨h',e⟩))) hn
  ·exact h'
theorem Mid.lt(h:Mid E B1 bl1 I1 l tm σ W Im ρ O C)(hl:l<B1.w.heap.size):(∀b,O b->b<W.heap.size)/\∀b,C b->O b:=by
 refine⟨fun b hb=> ?_,fun b hb=> ?_⟩
 ·rw[h.o] at hb;rcases hb with e|e|e|e
  ·exact h.inv.gam.im b e
  ·exact(qr8 h.inv e).2.1
  ·rw[e];exact zbg hl h.inv.fr.size
  ·exact zbg e.1 h.inv.fr.size
 ·rw[h.c] at hb;rw[h.o];rcases hb with e|e
  ·exact .inr (.inl e)
  ·exact .inr (.inr (.inl e))
theorem Mid.freeze(h:Mid E B1 bl1 I1 l tm σ W Im ρ O C){Fz:Nat->Prop}(hF: ∀b,Fz b->b<W.heap.size/\¬C b/\(I1 b\/bl1 b\/B1.w.heap.size<=b)):Mid E B1 bl1 I1 l tm σ W (fun b=>Im b\/Fz b) ρ (fun b=>O b\/Fz b) C:=by
 refine⟨h.inv.freeze fun b hb=>⟨(hF b hb).1,fun e=>(hF b hb).2.1 ((h.c b).2 (.inl e)),(hF b hb).2.2⟩,fun e=>e.elim h.ni fun e=>(hF l e).2.1 ((h.c l).2 (.inr rfl)),h.nc,fun b=> ?_,h.c⟩;constructor
 ·rintro(e|e)
  ·rcases(h.o b).1 e with e|e
   ·exact .inl (.inl e)
   ·exact .inr e
  ·exact .inl (.inr e)
 ·rintro((e|e)|e)
  ·exact .inl ((h.o b).2 (.inl e))
  ·exact .inr e
  ·exact .inl ((h.o b).2 (.inr e))
theorem YieldAt.mono'{n:Nat}{l:Nat}{args:Array Value}{W:World}{R R':Ending->World->Prop}(h:YieldAt Fence.wide n P l args W R)(hr: ∀e w',R e w'->R' e w'):YieldAt Fence.wide n P l args W R':=
 let ⟨fn,tmps,as,bo,h1,h2⟩:=h;⟨fn,tmps,as,bo,h1,h2.mono hr⟩
def q6v:Ex->Option Code
 | .ret=>some .ret
 | .exit i=>some (.exit i)
 | _=>none
theorem Mid.next{Wb w2:World}{o1 o2:Go.Obj}{s2:List (Nat×V)}{H2:Heap}{Im2:Nat->Prop}{ρ2:Nat->Loc}(h:Mid E B1 bl1 I1 l tm σ W Im ρ O C)(hl:l<B1.w.heap.size)(hbl:bl1 l)(h2:Inv E ⟨W.putObj l o1,fun j=>(qaj σ.heap j).map fun o=>(shp o,ρ j),[]⟩ (chg σ.heap ρ) Im s2 H2 ⟨tm,[]⟩ w2 Im2 ρ2):
  ∃O' C',Mid E B1 bl1 I1 l tm ⟨s2,H2⟩ (w2.putObj l o2) Im2 ρ2 O' C'/\Fr W C (w2.putObj l o2)/\(∀b,O' b->O b\/W.heap.size<=b)/\(∀b,C' b->C b\/W.heap.size<=b):=by
 have hlW:l<W.heap.size:=zbg hl h.inv.fr.size;have hsz:(W.putObj l o1).heap.size=W.heap.size:=qcq _ _ _;have hIm: ∀b,Im2 b->Im b\/chg σ.heap ρ b\/W.heap.size<=b:=fun b hb=>by have:=h2.gam.imo b hb;rwa [hsz] at this
 have hch: ∀b,chg H2 ρ2 b->chg σ.heap ρ b\/W.heap.size<=b:=fun b hb=>by have:=(qr8 h2 hb).2.2;rwa [hsz] at this
 have hb:Inv E B1 bl1 I1 σ.slots σ.heap ⟨tm,[]⟩ (W.putObj l o1) Im ρ:=h.inv.beside (Fr.putObj W l o1) fun b _ e=>by subst e;exact⟨h.ni,h.nob,.inl hbl⟩
 have hni: ¬Im2 l:=fun e=>(hIm l e).elim h.ni fun e=>e.elim h.nc fun e=>by omega
 have hnc: ¬chg H2 ρ2 l:=fun e=>(hch l e).elim h.nc fun e=>by omega
 have h3:Inv E B1 bl1 I1 s2 H2 ⟨tm,[]⟩ w2 Im2 ρ2:=hb.unbase (E':=E) h2 h2.nt (h.inv.df.nil rfl rfl) h2.sl;have h4:Inv E B1 bl1 I1 s2 H2 ⟨tm,[]⟩ (w2.putObj l o2) Im2 ρ2:=h3.beside (Fr.putObj w2 l o2) fun b _ e=>by subst e;exact⟨hni,fun e=>(xbbg h3 e).elim hni hnc,.inl hbl⟩
 refine⟨fun b=>Im2 b\/chg H2 ρ2 b\/b=l\/(b<B1.w.heap.size/\¬bl1 b),fun b=>chg H2 ρ2 b\/b=l,⟨h4,hni,hnc,fun b=>.rfl,fun b=>.rfl⟩, ?_,fun b hb=> ?_,fun b hb=> ?_⟩
 ·have f1:Fr W C (W.putObj l o1):=(Fr.putObj W l o1).mono fun b e=>.inl ((h.c b).2 (.inr e));have f2:Fr W C w2:=f1.trans h2.fr fun b e=>.inl ((h.c b).2 (.inl e));exact f2.trans (Fr.putObj w2 l o2) fun b e=>.inl ((h.c b).2 (.inr e))
 ·rw[h.o];rcases hb with e|e|e|e
  ·rcases hIm b e with e|e|e
   ·exact .inl (.inl e)
   ·exact .inl (.inr (.inl e))
   ·exact .inr e
  ·rcases hch b e with e|e
   ·exact .inl (.inr (.inl e))
   ·exact .inr e
  ·exact .inl (.inr (.inr (.inl e)))
  ·exact .inl (.inr (.inr (.inr e)))
 ·rw[h.c];rcases hb with e|e
  ·rcases hch b e with e|e
   ·exact .inl (.inl e)
   ·exact .inr e
  ·exact .inl (.inr e)
theorem q7h(hE: ∀g,Sound P E.glob g (ctr E g))(hyl:E.yl=fun _=>none)(N:Nat){res:Out}{rid:Nat}{ps:Array Tmp}{assign body:Code}(la:qbj P E N assign)(lb:qbj P E N body)(pa:qk4 assign=true)(pb:qk4 body=true){k0:Ex->St->Option Out}{fn D:Nat}{rec:LoopState->Option Code->Loop}(hrec:rec=fun st pe=> {state:=st,pending:=pe,fn,tmps:=tm,params:=ps,assign,body,defers:=D})(hl:l<B1.w.heap.size)(hbl:bl1 l){x:List CV}{xs:List (List CV)}{vs:List Value}(hM:Mid E B1 bl1 I1 l tm σ W Im ρ O C)(hv:xbes W Im x vs)(hk:qmj E E.nt rid ps.toList (qcx P E N assign) (qcx P E N body) (x::xs) σ k0=some res)(hr:W.heap[l]? =some (.loop (rec .ready none))):
  YieldAt Fence.wide 0 P l vs.toArray W fun e W'=> ∃O' C',Fr W C W'/\(∀b,O' b->O b\/W.heap.size<=b)/\(∀b,C' b->C b\/W.heap.size<=b)/\
   ((e=.returned (.bool true)/\∃σ' Im' ρ',Mid E B1 bl1 I1 l tm σ' W' Im' ρ' O' C'/\qmj E E.nt rid ps.toList (qcx P E N assign) (qcx P E N body) xs σ' k0=some res/\W'.heap[l]? =some (.loop (rec .ready none)))\/
    (e=.returned (.bool false)/\∃σ' Im' ρ' ex jump,Mid E B1 bl1 I1 l tm σ' W' Im' ρ' O' C'/\k0 ex σ'=some res/\q6v ex=some jump/\W'.heap[l]? =some (.loop (rec .done (some jump))))):=by
 have hlW:l<W.heap.size:=zbg hl hM.inv.fr.size;simp only[qmj] at hk;obtain⟨hc,hk⟩:=qaa hk;simp only[zab,zai] at hc;obtain⟨hc1,hc3⟩:=hc;have hnt:tm.size=E.nt:=hM.inv.nt;have hy:=run_yield (P:=P) (args:=vs.toArray) hr (by rw[hrec];have:=qag.1 hc1;have:=hv.1;simp at*;omega);rw[hrec] at hy;refine⟨fn,_,assign,body,hy,roundIn_of_wpIn trivial ?_⟩;rw[xbod];have h0:=hM.inv.rebase (setT ps.toList vs tm) (s':=xbua ps.toList x σ.slots) (by rw[q4x];exact hnt) (xbcs _ _ _ _ _ hv (fun p hp=>by have:=hc3 p hp;rw[zb9] at this;rw[hnt];exact this) hM.inv.sl);refine qod hE hyl N assign pa la _ _ _ _ _ (fun e a1 w1 hl1=> ?_) hk ⟨Im,ρ,h0⟩;obtain⟨ex,σ1,Im1,ρ1,hk,h1,hm⟩:=hl1;cases ex<;>first|(simp only[reduceCtorEq] at hk;done)|skip
 cases e<;>first|exact hm.elim|skip
 have hr1:w1.heap[l]? =some (.loop (rec .ready none)):=(h1.fr.block l hlW hM.nc).trans hr;refine⟨_,run_beginRound hr1 (by rw[hrec]), ?_⟩;have hni1: ¬Im1 l:=fun e=>(h1.gam.imo l e).elim hM.ni fun e=>e.elim hM.nc fun e=>Nat.not_le.2 hlW e;have hno1: ¬obs σ1.heap ρ1 l:=fun e=>(xbbg h1 e).elim hni1 fun e=>((qr8 h1 e).2.2).elim hM.nc fun e=>Nat.not_le.2 hlW e;have h1b:=h1.both (o:=.loop {rec .ready none with state:=.busy}) hlW hni1 hno1;refine qod hE hyl N body pb lb _ _ _ _ _ (fun e a2 w2 hl2=> ?_) hk ⟨Im1,ρ1,h1b⟩;obtain⟨ex,σ2,Im2,ρ2,hk,h2,hm⟩:=hl2;have hbusy:w2.heap[l]? =some (.loop {rec .ready none with state:=.busy}):=(h2.fr.block l (by show l<(W.putObj l _).heap.size;rw[qcq];exact hlW) hM.nc).trans (World.putObj_heap_same hlW);have hl2:l<w2.heap.size:=(zco.1 hbusy).1;have hb:Inv E B1 bl1 I1 σ.slots σ.heap ⟨tm,[]⟩ (W.putObj l (.loop {rec .ready none with state:=.busy})) Im ρ:=hM.inv.beside (Fr.putObj W l _) fun b _ e=>by subst e;exact⟨hM.ni,hM.nob,.inl hbl⟩
 have h2s:Inv E ⟨W.putObj l (.loop {rec .ready none with state:=.busy}),fun j=>(qaj σ.heap j).map fun o=>(shp o,ρ j),[]⟩ (chg σ.heap ρ) Im (lowS σ.slots) σ2.heap ⟨tm,[]⟩ w2 Im2 ρ2:=
  h2.reslot hnt ⟨[],rfl,by simp,by simp,fun _=>rfl⟩ fun t=>by
   rcases qu3 σ.slots t with⟨g1,g2⟩|g
   ·rw[g2] at g1 ⊢;exact xbme hb h2 g1 (hb.sl t)
   ·rw[g];exact .undef _
 have fin: ∀jump:Option Code,(Instr.endRound l jump).run P w2=.ok (.bool jump.isNone) (w2.putObj l (.loop (rec (if jump.isNone then .ready else .done) jump))):=fun jump=>by have:=run_endRound (P:=P) jump hbusy;rw[hrec] at this ⊢;exact this
 have out: ∀(ex:Ex) (jump:Code),q6v ex=some jump->k0 ex ⟨lowS σ.slots,σ2.heap⟩=some res->∃v w',(Instr.endRound l (some jump)).run P w2=.ok v w'/\∃O' C',Fr W C w'/\(∀b,O' b->O b\/W.heap.size<=b)/\(∀b,C' b->C b\/W.heap.size<=b)/\
   (((Ending.returned v)=.returned (.bool true)/\∃σ' Im' ρ',Mid E B1 bl1 I1 l tm σ' w' Im' ρ' O' C'/\qmj E E.nt rid ps.toList (qcx P E N assign) (qcx P E N body) xs σ' k0=some res/\w'.heap[l]? =some (.loop (rec .ready none)))\/
    ((Ending.returned v)=.returned (.bool false)/\∃σ' Im' ρ' ex jump,Mid E B1 bl1 I1 l tm σ' w' Im' ρ' O' C'/\k0 ex σ'=some res/\q6v ex=some jump/\w'.heap[l]? =some (.loop (rec .done (some jump))))):=fun ex jump hj hk=>by
  obtain⟨O',C',g1,g2,g3,g4⟩:=hM.next (Wb:=W) (o2:=.loop (rec .done (some jump))) hl hbl h2s;exact⟨_,_,fin (some jump),O',C',g2,g3,g4,.inr ⟨rfl,_,Im2,ρ2,ex,jump,g1,hk,hj,World.putObj_heap_same hl2⟩⟩
 cases ex with
 | normal=>
  cases e<;>first|exact hm.elim|skip
  obtain⟨Im3,ρ3,h3⟩:=On.head (σ:=⟨lowS σ.slots,σ2.heap⟩) ⟨Im2,ρ2,h2s⟩ rid;obtain⟨O',C',g1,g2,g3,g4⟩:=hM.next (Wb:=W) (o2:=.loop (rec .ready none)) hl hbl h3;exact⟨_,_,fin none,O',C',g2,g3,g4,.inl ⟨rfl,_,Im3,ρ3,g1,hk,World.putObj_heap_same hl2⟩⟩
 | exit i=>
  cases e<;>first|exact hm.elim|skip
  have hm:i=_:=hm;subst hm;exact out (.exit i) _ rfl hk
 | ret=>
  cases e<;>first|exact hm.elim|skip
  exact out .ret _ rfl hk
 | pan c=>simp at hk
theorem q2r{H:Heap}{br:List Nat}: ∀ {l:List V} {i:Nat} {ts:List TypeId},(∀j,i<=j->j<i+l.length->br.any (Nat.beq j)=true)->q7u P H br i ts l=some l/\qbw H br i l=[]
 | [],i,ts,_=>⟨rfl,rfl⟩
 | v::r,i,ts,h=>by
  obtain⟨h1,h2⟩:=q2r (H:=H) (br:=br) (l:=r) (i:=i+1) (ts:=ts.tail) fun j hj hj'=>h j (by omega) (by simp;omega);have hi:=h i (zar _) (by simp);constructor
  ·unfold q7u;rw[h1];simp only[hi,cond_true]
  ·unfold qbw;rw[h2,hi];rfl
theorem xbf9{S:Nat->Option Sh}{v:V}{x:Value}(h:VRep w Im ρ S v x):VRep w Im ρ S (xbxo v) x:=by
 unfold xbxo;split
 ·cases h with
  | cl _ _ h=>
   cases h with
   | fn _ _ _ va vb e1 e2=>
    have e1:va=[]:=by simpa using e1
    have e2:vb=[]:=by simpa using e2
    subst e1 e2;exact .fn _ [] [] [] [] rfl rfl (fun j c v hj=>by simp at hj) (fun j c v hj=>by simp at hj)
 ·exact h
theorem q7f(hE: ∀g,Sound P E.glob g (ctr E g))(hsq:qfr P E)(hyl:E.yl=fun _=>none)(N:Nat){r:Out}{g:Operand}{ps:Array Tmp}{assign body:Code}(hlo:qbj P E N (.rangeFunc g ps assign body)){k:Ex->St->Option Out}{Q:Exit->Act->World->Prop}{σ:St}(hQ: ∀e a w,Lands E w0 bl I0 k r e a w->Q e a w)(h:qcx P E N (.rangeFunc g ps assign body) σ k=some r)(hO:On E w0 bl I0 σ a w):(Code.rangeFunc g ps assign body).wp P Q a w:=by
 obtain⟨Im,ρ,hI⟩:=hO;obtain⟨la,lb,pa,pb,hL⟩:=hlo;simp only[qcx] at h;have hrg:E.rg=true:=by
  cases hr:E.rg with
  | true=>rfl
  | false=>rw[hr] at h;cases h
 rw[hrg] at h;simp only[zct,cond_false] at h;split at h
 ·rename_i gf vb hgv;have hgr:=xbf9 (hI.opd g);rw[hgv] at hgr;generalize hga:a.eval g=gx at hgr
  cases hgr with
  | fn f va vb' va' vs ha hvl _ hvr=>
  have ha:va'=[]:=by simpa using ha
  subst ha;split at h
  ·rename_i obl hobs
   cases h28:Nat.ble 28 (dedup (qby σ.heap (List.range vb.length) 0 vb)).length with
   | true=>rw[h28] at h;cases h
   | false=>
   rw[h28] at h;simp only[cond_false] at h;replace h:=qaa h;obtain⟨hprs,h⟩:=h;split at h
   ·rename_i xs hxs;split at h
    ·rename_i L hLr;generalize hnm:dedup (qby σ.heap (List.range vb.length) 0 vb)=names at*;have hk:=hL L hLr _ _ _ _ h;obtain⟨hseq,fnf,hfn1,hfn2,hfn3⟩:=hsq gf _ _ _ hprs hxs;refine(wpIn_wide (n:=0)).1 (wpIn_rangeFunc fun fn _=> ?_);obtain⟨rec,hrec⟩: ∃rec:LoopState->Option Code->Loop,rec=fun st pe=> {state:=st,pending:=pe,fn,tmps:=a.tmps,params:=ps,assign,body,defers:=w.heap.size}:=⟨_,rfl⟩;obtain⟨W1,hW1⟩: ∃W1,(w.alloc (.deferred (some []))).alloc (.loop (rec .ready none))=W1:=⟨_,rfl⟩;have hs1:W1.heap.size=w.heap.size+2:=by rw[<- hW1];simp
     have hL1:W1.heap[w.heap.size+1]? =some (.loop (rec .ready none)):=by rw[<- hW1];have:=World.alloc_heap_new (w.alloc (.deferred (some []))) (.loop (rec .ready none));rwa [World.size_alloc] at this
     have hK1:W1.heap[w.heap.size]? =some (.deferred (some [])):=by rw[<- hW1];exact(Go.RowKit.Below.heap_alloc _ _ _ (by simp)).trans (World.alloc_heap_new w _)
     have hF1:Fr w (fun _=>False) W1:=by rw[<- hW1];exact(Fr.alloc w _ _).trans (Fr.alloc _ _ (fun _=>False)) fun b hb=>hb.elim
     have hI1:Inv E w0 bl I0 σ.slots σ.heap a W1 Im ρ:=hI.beside hF1 fun b _ hb=>hb.elim;have hw0:w0.w.heap.size<=w.heap.size:=hI.fr.size;have hcf: ∀args w,(callFunc gf args).run P w=.ok (.enter gf args) w:=fun args w=>by
      have hn': ¬fnf.name= "runtime.NumGoroutine" :=by simpa using hfn3
      obtain⟨c,hc⟩:=zbn.1 hfn2;simp[callFunc,hfn1,hn',hc]
     refine⟨w.heap.size+1,[mark w.heap.size],W1,{target:=.fn (.func gf) vs.toArray,args:= #[.func (.yield (w.heap.size+1)) #[] #[]]},W1,gf, #[.func (.yield (w.heap.size+1)) #[] #[]]++vs.toArray,W1, ?_, ?_,fun _ _=>trivial, ?_,fun h=>by simp[Fence.wide] at h, ?_⟩
     ·rw[<- hW1,hrec];exact run_enterLoop_outer _ _ _ _ _
     ·simp only[resolve,hga];simp[go_sem]
     ·simp[invoke,go_sem,hcf]
     have hK:Keep Im w W1:=fun b hb=>hF1.block b (hI.gam.im b hb) fun h=>h;have hargs:RepL W1 Im ρ (shOf σ.heap) vb vs:=⟨hvl,fun j c v hj hv=>(hvr j c v hj hv).congr hK (fun _ h=>h) fun q _=>.inr ⟨rfl,rfl⟩⟩;have hall:=q2r (P:=P) (H:=σ.heap) (br:=List.range vb.length) (l:=vb) (i:=0) (ts:=[]) fun j _ hj=>zda.2 ⟨j,by simpa using hj,zbk j⟩;have hnd:names.Nodup:=by rw[<- hnm];exact qe4 _
     have hpre:=q9b (P:=P) (lent:=[]) hI1 hargs hnd (fun p _=>by simp) (by
      rcases zbo names.length 28 with h'| h'
      ·omega
      ·rw[zcr h'] at h28;cases h28) hall.1 hobs (fun q hq=>by rw[<- hnm];exact qma.2 hq) (fun q hq=>by rw[hall.2] at hq;simp at hq)
     have hImC: ∀b,ImC Im σ.heap ρ [] b↔Im b:=fun b=>⟨fun h=>h.elim id fun⟨p,hp,_⟩=>by simp at hp,.inl⟩;obtain⟨hv1,hv2⟩:=hI1.vacAll names;have hDn: ¬obs (vacAll names σ).heap ρ w.heap.size:=fun⟨p,o,x,y,g1,g2⟩=>by obtain⟨_,u,g3,_⟩:=hv2 p o g1;have:=(hI.gam.lk p u _ x y g3 g2).1;omega
     have hv3:=hv1.guard (D:=w.heap.size) (by omega) hw0 hDn;have hv4:=hv3.rebase a.tmps (s':=(vacAll names σ).slots) hI.nt hv3.sl;obtain⟨an1,han1,hOn⟩:=OnT.lowAll (E.lowr (qae assign)) (T:=[]) (σ:=vacAll names σ) (w0:=⟨W1,fun j=>(qaj (vacAll names σ).heap j).map fun o=>(shp o,ρ j),[]⟩) ⟨_,fun _ _ _ _ h=>h,_,_,hv4⟩;obtain⟨Im1,ρ1,hm1⟩:=(On.lowS hOn).head (qae assign);generalize hσs:head E (qae assign) ⟨lowS (lowAll (E.lowr (qae assign)) (vacAll names σ)).slots,(lowAll (E.lowr (qae assign)) (vacAll names σ)).heap⟩=σs at hm1 hk;have hchv: ∀b,chg (vacAll names σ).heap ρ b-> ¬Im b/\b<w.heap.size/\(bl b\/w0.w.heap.size<=b)/\¬blC σ.heap ρ names b:=fun b ⟨p,o,x,y,g1,g2,g3⟩=>by obtain⟨g4,u,g5,g6⟩:=hv2 p o g1;have:=hI.gam.lk p u b x y g5 g3;refine⟨(this.2.2 (g6.trans g2)).1,this.1,(this.2.2 (g6.trans g2)).2,fun⟨q,hq,v,x',y',k1,k2,k3⟩=> ?_⟩;have:=(hI.gam.dj p q u v b x y x' y' g5 k1 g3 k3 fun e=>g4 (e▸hq)).1;rw[g6,g2] at this;cases this
     have hblC: ∀b,blC σ.heap ρ names b-> ¬Im b/\b<w.heap.size/\(bl b\/w0.w.heap.size<=b):=fun b ⟨q,hq,v,x',y',k1,k2,k3⟩=>by have:=hI.gam.lk q v b x' y' k1 k3;exact⟨(this.2.2 k2).1,this.1,(this.2.2 k2).2⟩
     obtain⟨bl1,hbl1⟩: ∃bl1:Nat->Prop,bl1=fun b=>chg (vacAll names σ).heap ρ b\/blC σ.heap ρ names b\/b=w.heap.size+1:=⟨_,rfl⟩;have hblw: ∀b,bl1 b->b=w.heap.size+1\/(¬Im b/\b<w.heap.size/\(bl b\/w0.w.heap.size<=b)):=fun b hb=>by
      rw[hbl1] at hb;rcases hb with e|e|e
      ·exact .inr ⟨(hchv b e).1,(hchv b e).2.1,(hchv b e).2.2.1⟩
      ·exact .inr (hblC b e)
      ·exact .inl e
     have hImv: ∀b,Im1 b->Im b\/b=w.heap.size\/chg (vacAll names σ).heap ρ b:=fun b hb=>by
      rcases hm1.gam.imo b hb with(e|e)|e|e
      ·exact .inl e
      ·exact .inr (.inl e)
      ·exact .inr (.inr e)
      ·exact absurd (hm1.gam.im b hb) (zdt.2 e)
     have hchv1: ∀b,chg σs.heap ρ1 b->chg (vacAll names σ).heap ρ b:=fun b hb=>by have:=qr8 hm1 hb;exact this.2.2.resolve_right (Nat.not_le.2 this.2.1)
     obtain⟨B1,hB1⟩: ∃B1:Base,B1=⟨W1,an1,[]⟩:=⟨_,rfl⟩;have hM:Mid E B1 bl1 (fun b=>Im b\/b=w.heap.size) (w.heap.size+1) a.tmps σs W1 Im1 ρ1 (fun b=>Im1 b\/chg σs.heap ρ1 b\/b=w.heap.size+1\/(b<B1.w.heap.size/\¬bl1 b)) (fun b=>chg σs.heap ρ1 b\/b=w.heap.size+1):=by
      refine⟨by rw[hB1];exact hm1.widen fun b e=>by rw[hbl1];exact .inl e,fun e=> ?_,fun e=> ?_,fun b=>.rfl,fun b=>.rfl⟩
      ·rcases hImv _ e with e|e|e
       ·have:=hI.gam.im _ e;omega
       ·omega
       ·have:=(hchv _ e).2.1;omega
      ·have:=(hchv _ (hchv1 _ e)).2.1;omega
     have hlB:w.heap.size+1<B1.w.heap.size:=by rw[hB1];show _<W1.heap.size;omega
     have hbll:bl1 (w.heap.size+1):=by rw[hbl1];exact .inr (.inr rfl)
     have fin: ∀(σ':St) (W:World) (Im':Nat->Prop) (ρ':Nat->Loc) (O C:Nat->Prop) (ex:Ex) (o:Go.Obj),Mid E B1 bl1 (fun b=>Im b\/b=w.heap.size) (w.heap.size+1) a.tmps σ' W Im' ρ' O C->xbql (E.lowr (qae assign)) k ex σ'=some r->
       ∃τ Im3 ρ3,k ex τ=some r/\Inv E w0 bl I0 τ.slots τ.heap {a with defers:=[mark w.heap.size]++a.defers} (W.putObj (w.heap.size+1) o) Im3 ρ3:=fun σ' W Im' ρ' O C ex o hMd hh=>by
      have h1:=hMd.inv.beside (Fr.putObj W (w.heap.size+1) o) fun b _ e=>by subst e;exact⟨hMd.ni,hMd.nob,.inl hbll⟩
      rw[hB1] at h1;have hHeld:Held E w0.df w0.w.heap.size {a with defers:=[mark w.heap.size]++a.defers} (W.putObj (w.heap.size+1) o) Im':=by
       obtain⟨Ds,d1,d2,d3,_⟩:=hI.df;refine⟨w.heap.size::Ds,by simp[d1],zcz.2 ⟨fun hm=> ?_,d2⟩,fun D hD=> ?_,fun e=>by rw[hrg] at e;cases e⟩
       ·have:=hI.gam.im _ (d3 _ hm).2.1;omega
       ·rcases zas.1 hD with rfl|hD
        ·refine⟨hw0,h1.gam.i0 _ (.inr rfl),(World.putObj_heap_other (by omega)).trans ?_⟩;have:=hMd.inv.fr.block w.heap.size (by rw[hB1];show _<W1.heap.size;omega) fun e=>by
          rcases hblw _ e with e|e
          ·omega
          ·omega
         rw[hB1] at this;exact this.trans hK1
        ·have hlt:=hI.gam.im _ (d3 _ hD).2.1;refine⟨(d3 _ hD).1,h1.gam.i0 _ (.inl (d3 _ hD).2.1),(World.putObj_heap_other (by omega)).trans ?_⟩;have:=hMd.inv.fr.block D (by rw[hB1];show _<W1.heap.size;omega) fun e=>by
          rcases hblw _ e with e|e
          ·omega
          ·exact e.1 (d3 _ hD).2.1
         rw[hB1] at this;exact(this.trans (hK D (d3 _ hD).2.1)).trans (d3 _ hD).2.2
      have h2:=hI1.unbase2 (E':=E) h1 (fun b e=>by
        rcases hblw _ e with e|e
        ·exact .inr (by omega)
        ·exact e.2.2) (fun b e=>.inl (hI.gam.i0 b e)) (fun b e=>by
        rcases e with e|e
        ·exact hI.gam.imo b e
        ·exact .inr (.inr (by omega))) (a2:= {a with defers:=[mark w.heap.size]++a.defers}) rfl hHeld
      have h3:On E ⟨w0.w,an1,w0.df⟩ bl I0 σ' _ _:=⟨Im',ρ',h2⟩;have h4:=On.renAll ((E.lowr (qae assign)).map fun(p,q)=>(q,p)) h3;unfold xbql at hh;simp only at hh;have key:(cond ((E.lowr (qae assign)).all fun(_,q)=>match qaj (renAll ((E.lowr (qae assign)).map fun(p,q)=>(q,p)) σ').heap q with|none=>true|some _=>false) (k ex (renAll ((E.lowr (qae assign)).map fun(p,q)=>(q,p)) σ')) none)=some r:=by cases ex<;>first|exact hh|cases hh
      obtain⟨hc,hk⟩:=qaa key;obtain⟨Im3,ρ3,h5⟩:=h4.high (T:=(E.lowr (qae assign)).map (·.2)++[]) (fun j hj hn z hz=>by
       have:=han1 j hj hn z hz;obtain⟨o',g1,rfl⟩:=zaq.1 this;exact hv1.st j o' hj g1) fun j hj=>by
        simp only[za9,za7] at hj;obtain⟨⟨p,q⟩,hpq,rfl⟩:=hj;have:=zai.1 hc _ hpq;simp only at this
        cases hg:qaj (renAll ((E.lowr (qae assign)).map fun(p,q)=>(q,p)) σ').heap q with
        | none=>rfl
        | some o=>rw[hg] at this;cases this
      exact⟨_,Im3,ρ3,hk,h5⟩
     have hJs: ∀(σ':St) (Im':Nat->Prop) (ρ':Nat->Loc) (O C:Nat->Prop) (W W':World) (Ch:Nat->Prop) (o:Go.Obj),Mid E B1 bl1 (fun b=>Im b\/b=w.heap.size) (w.heap.size+1) a.tmps σ' W Im' ρ' O C->Fr W Ch W'->(∀b,Ch b-> ¬O b)->W.heap[w.heap.size+1]? =some o->W'.heap[w.heap.size+1]? =some o:=fun σ' Im' ρ' O C W W' Ch o hMd hf hc ho=>
      (hf.block _ (zbg hlB hMd.inv.fr.size) fun e=>hc _ e ((hMd.o _).2 (.inr (.inr (.inl rfl))))).trans ho
     refine(hseq W1 _ _ _ vs hpre (w.heap.size+1)
      (fun r' O C W=> ∃σ' Im' ρ',Mid E B1 bl1 (fun b=>Im b\/b=w.heap.size) (w.heap.size+1) a.tmps σ' W Im' ρ' O C/\qmj E E.nt (qae assign) ps.toList (qcx P E N assign) (qcx P E N body) r' σ' (xbql (E.lowr (qae assign)) k)=some r/\W.heap[w.heap.size+1]? =some (.loop (rec .ready none)))
      (fun O C W=> ∃σ' Im' ρ' ex jump,Mid E B1 bl1 (fun b=>Im b\/b=w.heap.size) (w.heap.size+1) a.tmps σ' W Im' ρ' O C/\xbql (E.lowr (qae assign)) k ex σ'=some r/\q6v ex=some jump/\W.heap[w.heap.size+1]? =some (.loop (rec .done (some jump))))
      (fun r' O C W W' Ch ⟨σ',Im',ρ',g1,g2,g3⟩ hf hc=>⟨σ',Im',ρ',g1.beside hf hc,g2,hJs _ _ _ _ _ _ _ _ _ g1 hf hc g3⟩)
      (fun O C W W' Ch ⟨σ',Im',ρ',ex,jump,g1,g2,g4,g3⟩ hf hc=>⟨σ',Im',ρ',ex,jump,g1.beside hf hc,g2,g4,hJs _ _ _ _ _ _ _ _ _ g1 hf hc g3⟩)
      (fun r' O C W ⟨σ',Im',ρ',g1,_⟩=>g1.lt hlB) (fun O C W ⟨σ',Im',ρ',_,_,g1,_⟩=>g1.lt hlB)
      (fun x r' O C W Fz us ⟨σ',Im',ρ',g1,g2,g3⟩ hF hv=>YieldAt.mono' (q7h hE hyl N la lb pa pb hrec hlB hbll (g1.freeze fun b hb=>⟨(hF b hb).1,(hF b hb).2.1,(hF b hb).2.2.elim (fun e=>.inl (.inl ((hImC b).1 e))) fun e=>.inr (e.elim (fun e=>.inl (by rw[hbl1];exact .inr (.inl e))) fun e=>.inr (by rw[hB1];exact e))⟩) (hv.mono fun b hb=>.inr hb) g2 g3) fun e W' ⟨O',C',k1,k2,k3,k4⟩=>⟨O',C',k1,fun b hb=>(k2 b hb).elim (fun e=>e.elim .inl fun e=>.inr (.inl e)) fun e=>.inr (.inr e),k3,k4⟩)
      _ _ ⟨_,Im1,ρ1,hM,hk,hL1⟩ (fun b hb=> ?_) (fun b hb hc=> ?_)).mono ?_
     ·rw[hImC];rcases hb with e|e
      ·exact⟨(hchv b (hchv1 b e)).1,(hchv b (hchv1 b e)).2.2.2⟩
      ·subst e;exact⟨fun e=>by have:=hI.gam.im _ e;omega,fun e=>by have:=(hblC _ e).2.1;omega⟩
     ·have hbw:=hblC b hc;rcases hb with e|e|e|e
      ·rcases hImv b e with e|e|e
       ·exact hbw.1 e
       ·omega
       ·exact(hchv b e).2.2.2 hc
      ·exact(hchv b (hchv1 b e)).2.2.2 hc
      ·omega
      ·exact e.2 (by rw[hbl1];exact .inr (.inl hc))
     ·rintro e W2 ⟨⟨v,rfl⟩,O',C',⟨σ',Im',ρ',g1,g2,g3⟩|⟨σ',Im',ρ',ex,jump,g1,g2,g4,g3⟩⟩
      ·have he:=run_endLoop (P:=P) g3 (by rw[hrec];simp);rw[hrec] at he;obtain⟨τ,Im3,ρ3,k1,k2⟩:=fin σ' W2 Im' ρ' O' C' .normal _ g1 (by simpa only [qmj] using g2);exact⟨none,_,he,hQ _ _ _ ⟨.normal,τ,Im3,ρ3,k1,k2,trivial⟩⟩
      ·obtain⟨o,he⟩: ∃o,(Instr.endLoop (w.heap.size+1)).run P W2=.ok (some jump) (W2.putObj (w.heap.size+1) o):=
        ⟨_,by have:=run_endLoop (P:=P) g3 (by rw[hrec];simp);rw[hrec] at this;exact this⟩
       obtain⟨τ,Im3,ρ3,k1,k2⟩:=fin σ' W2 Im' ρ' O' C' ex o g1 g2;refine⟨some jump,_,he, ?_⟩
       cases ex with
       | ret=>
        simp only[q6v,zaa] at g4;subst g4;exact wpIn_ret (hQ _ _ _ ⟨.ret,τ,Im3,ρ3,k1,k2,trivial⟩)
       | exit i=>
        simp only[q6v,zaa] at g4;subst g4;exact wpIn_exit (hQ _ _ _ ⟨.exit i,τ,Im3,ρ3,k1,k2,rfl⟩)
       | normal=>cases g4
       | pan c=>cases g4
    ·cases h
   ·cases h
  ·cases h
 ·cases h
theorem q6l(hE: ∀g,Sound P E.glob g (ctr E g))(hsq:qfr P E)(hyl:E.yl=fun _=>none)(hdraw:q7y P E)(N:Nat){r:Out}: ∀(c:Code),qbj P E N c->∀(k:Ex->St->Option Out) (Q:Exit->Act->World->Prop) (σ:St) (a:Act) (w:World),(∀e a w,Lands E w0 bl I0 k r e a w->Q e a w)->
  qcx P E N c σ k=some r->On E w0 bl I0 σ a w->c.wp P Q a w:=by
 intro c
 induction c with
 | skip=>
  intro hlo k Q σ a w hQ h ⟨Im,ρ,hI⟩;exact wp_skip (hQ _ _ _ ⟨.normal,σ,Im,ρ,h,hI,trivial⟩)
 | region id ops draw=>
  intro hlo k Q σ a w hQ h hO;simp only[qcx] at h
  cases draw with
  | true=>
   simp only[cond_true] at h;replace h:=qaa h;have h1:=h.1;simp only[zab] at h1;have h2:=h.2;simp only[hyl] at h2;exact hdraw Out w0 bl I0 id ops Q k r _ a w hQ h1.1 h1.2 h2 (On.prep _ hO)
  | false=>
   simp only[hyl] at h;exact wp_region_list (qdb hE hQ _ _ _ _ h (On.prep _ hO))
 | seq x y ihx ihy=>
  intro hlo k Q σ a w hQ h hO;simp only[qcx] at h;refine wp_seq (ihx hlo.1 _ _ σ a w (fun e a w hl=> ?_) h hO);obtain⟨ex,σ',Im,ρ,h1,h2,h3⟩:=hl
  cases ex with
  | normal=>
   cases e<;>first|exact h3.elim|skip
   simp only at h1;split at h1
   ·rename_i L hL;exact ihy hlo.2.1 _ Q _ a w (qve hQ) (hlo.2.2 L hL _ _ _ h1) (On.head (σ:=σ') ⟨Im,ρ,h2⟩ _)
   ·exact ihy hlo.2.1 k Q σ' a w hQ h1 ⟨Im,ρ,h2⟩
  | exit i=>
   cases e<;>first|exact h3.elim|skip
   exact hQ _ _ _ ⟨_,σ',Im,ρ,h1,h2,h3⟩
  | ret=>
   cases e<;>first|exact h3.elim|skip
   exact hQ _ _ _ ⟨_,σ',Im,ρ,h1,h2,h3⟩
  | pan c=>
   cases e<;>first|exact h3.elim|skip
   exact hQ _ _ _ ⟨_,σ',Im,ρ,h1,h2,h3⟩
 | cond x c d ihc ihd=>
  intro hlo k Q σ a w hQ h ⟨Im,ρ,hI⟩;simp only[qcx] at h;split at h
  ·rename_i t;obtain⟨b,s',h1,h2,h3⟩:=qga h hI;refine wp_cond (t:=b) h3 ?_
   cases b with
   | true=>exact ihc hlo.1 k Q _ a w hQ h1 ⟨Im,ρ,h2⟩
   | false=>
    simp only at h1;split at h1
    ·rename_i L hL;exact ihd hlo.2.1 _ Q _ a w (qve hQ) (hlo.2.2 L hL _ _ _ h1) (On.head (σ:=⟨s',σ.heap⟩) ⟨Im,ρ,h2⟩ _)
    ·exact ihd hlo.2.1 k Q _ a w hQ h1 ⟨Im,ρ,h2⟩
  ·exact wp_cond (t:=true) rfl (ihc hlo.1 k Q _ a w hQ h ⟨Im,ρ,hI⟩)
  ·exact wp_cond (t:=false) rfl (ihd hlo.2.1 k Q _ a w hQ h ⟨Im,ρ,hI⟩)
  ·cases h
 | block id c ih=>
  intro hlo k Q σ a w hQ h hO;simp only[qcx] at h;refine wp_block (ih hlo _ _ σ a w (fun e a w hl=> ?_) h hO);obtain⟨ex,σ',Im,ρ,h1,h2,h3⟩:=hl
  cases ex with
  | normal=>
   cases e<;>first|exact h3.elim|skip
   exact hQ _ _ _ ⟨_,σ',Im,ρ,h1,h2,h3⟩
  | exit i=>
   cases e<;>first|exact h3.elim|skip
   rename_i i';have h3:i=i':=h3;subst h3;show if i=id then Q .normal a w else Q (.exit i) a w
   cases hb:Nat.beq i id with
   | true=>
    simp only[hb,cond_true] at h1;rw[if_pos (qag.1 hb)];exact hQ _ _ _ ⟨.normal,σ',Im,ρ,h1,h2,trivial⟩
   | false=>
    simp only[hb,cond_false] at h1;rw[if_neg (qa7 hb)];exact hQ _ _ _ ⟨.exit i,σ',Im,ρ,h1,h2,rfl⟩
  | ret=>
   cases e<;>first|exact h3.elim|skip
   exact hQ _ _ _ ⟨_,σ',Im,ρ,h1,h2,h3⟩
  | pan c=>
   cases e<;>first|exact h3.elim|skip
   exact hQ _ _ _ ⟨_,σ',Im,ρ,h1,h2,h3⟩
 | loop c ih=>
  intro hlo k Q σ a w hQ h hO;simp only[qcx] at h;have key: ∀n σ',qxt n (qcx P E N c) (head E (qae c)) σ' k=some r->On E w0 bl I0 σ' a w->(Code.loop c).wp P Q a w:=fun n σ' h hO=>
   wp_loop_rounds n (qss hQ (fun k' Q' σ a w hq hb hO=>ih hlo.1 k' Q' σ a w hq hb hO) (fun σ a w h=>h.head _) n _ a w h hO)
  split at h
  ·rename_i L hL;obtain⟨n,hn⟩:=hlo.2 L hL _ _ _ h;exact key n _ hn (hO.head _)
  ·exact key N _ h (hO.head _)
 | exit id=>
  intro hlo k Q σ a w hQ h hO;obtain⟨Im,ρ,hI⟩:=On.tx (l:=E.xl (id+1)) hO;exact wp_exit (hQ _ _ _ ⟨.exit id,_,Im,ρ,h,hI,rfl⟩)
 | ret=>
  intro hlo k Q σ a w hQ h hO;obtain⟨Im,ρ,hI⟩:=On.tx (l:=E.xl 0) hO;exact wp_ret (hQ _ _ _ ⟨.ret,_,Im,ρ,h,hI,trivial⟩)
 | rangeFunc g ps assign body=>
  intro hlo k Q σ a w hQ h hO;exact q7f hE hsq hyl N hlo hQ h hO
 | _=>intro hlo k Q σ a w hQ h _;simp[qcx] at h
end
section
variable {P:Program} {E:Env} {w0:Base} {bl I0:Nat->Prop}
theorem qn1{t:TypeId}{v val:Value}{w:World}(h:(Instr.loadAt t v).run P w=.ok val w):(do loadVar t (<- asAddr v):Sem Value).run P w=.ok val w:=by
 cases v with
 | pointer p=>
  cases p with
  | none=>simp[Instr.loadAt,Instr.sureAddr] at h
  | some A=>simpa [Instr.loadAt,Instr.sureAddr,asAddr] using h
 | _=>simp[Instr.loadAt,Instr.sureAddr] at h
def q7g(tmps:Array Value):ResultVar->Sem Value
 | .tmp t=>pure (tmps.getD t undef)
 | .cell a t=>do loadVar t (<- asAddr (tmps.getD a undef))
theorem qn0{σ:St}{a:Act}{w:World}{Im:Nat->Prop}{ρ:Nat->Loc}(hI:Inv E w0 bl I0 σ.slots σ.heap a w Im ρ): ∀(l:List ResultVar) (ts:List TypeId) (vs:List V),YtoiikagnjcjccaaGreatDoorA.results P l σ ts=some vs->
  ∃us,(l.mapM (q7g a.tmps)).run P w=.ok us w/\RepL w Im ρ (shOf σ.heap) vs us
 | [],ts,vs,h=>by simp only[YtoiikagnjcjccaaGreatDoorA.results,zaa] at h;subst h;exact⟨[],by simp,rfl,by simp⟩
 | .tmp t::r,ts,vs,h=>by
  simp only[YtoiikagnjcjccaaGreatDoorA.results] at h
  cases hr:YtoiikagnjcjccaaGreatDoorA.results P r σ ts.tail with
  | none=>rw[hr] at h;cases h
  | some l=>
   rw[hr] at h;simp only[zaa] at h;subst h;obtain⟨us,h1,h2,h3⟩:=qn0 hI r ts.tail l hr;refine⟨a.tmps.getD t undef::us, ?_,by simp[h2],fun j c v hj hv=> ?_⟩
   ·rw[List.mapM_cons];simp only[Sem.run_bind,q7g,Sem.run_pure,Result.andThen_ok,h1]
   ·cases j with
    | zero=>
     simp only[za4,zaa] at hj hv;subst hj hv;exact hI.sl t
    | succ j=>simp at hj hv;exact h3 j c v hj hv
 | .cell c t::r,ts,vs,h=>by
  simp only[YtoiikagnjcjccaaGreatDoorA.results] at h
  cases hl:qsa P σ.heap t (getV σ.slots c) some with
  | none=>rw[hl] at h;cases h
  | some v0=>
   cases hr:YtoiikagnjcjccaaGreatDoorA.results P r σ ts.tail with
   | none=>rw[hl,hr] at h;cases h
   | some l=>
    rw[hl,hr] at h;simp only[zaa] at h;subst h;obtain⟨us,h1,h2,h3⟩:=qn0 hI r ts.tail l hr;obtain⟨v',val,g1,g2,g3⟩:=qsu hI.gam.ob hl (hI.sl c);simp only[zaa] at g1;subst g1;refine⟨val::us, ?_,by simp[h2],fun j d v hj hv=> ?_⟩
    ·rw[List.mapM_cons];have:=qn1 g3;simp only[Sem.run_bind,q7g,Sem.run_pure,Result.andThen_ok,h1] at this ⊢;rw[this];simp[h1]
    ·cases j with
     | zero=>simp at hj hv;subst hj hv;exact g2
     | succ j=>simp at hj hv;exact h3 j d v hj hv
theorem qs9{fn:Func}{tmps:Array Value}{us:List Value}{w:World}(h:(fn.results.toList.mapM (q7g tmps)).run P w=.ok us w):(Go.results fn tmps).run P w=.ok (wrap us) w:=by
 have e:(fn.results.mapM (q7g tmps)).run P w=.ok us.toArray w:=by rw[Array.mapM_eq_mapM_toList];simp only[Sem.run_map,h,Result.andThen_ok]
 have e2:(Go.results fn tmps)=(do let vs<- fn.results.mapM (q7g tmps);pure (if h:vs.size=1 then vs[0] else .tuple vs)):=by
  unfold Go.results;congr 1
  try congr 1
  try (funext x;cases x<;>rfl)
 rw[e2];simp only[Sem.run_bind,e,Result.andThen_ok,Sem.run_pure]
 cases us with
 | nil=>rfl
 | cons u r=>cases r<;>simp[wrap]
theorem qoc{H:Heap}: ∀ {vs:List V} {ts:List TypeId} {l:List V},qm1 P H ts vs=some l->l.length=vs.length/\∀(j:Nat) (v u:V),vs[j]? =some v->l[j]? =some u->∃t c,u=.cl c/\qbp P H 6 t v=some c
 | [],ts,l,h=>by simp[qm1] at h;subst h;simp
 | v::r,ts,l,h=>by
  simp only[qm1] at h
  cases h1:qbp P H 6 (ts.headD 0) v with
  | none=>rw[h1] at h;cases h
  | some c=>
   cases h2:qm1 P H ts.tail r with
   | none=>rw[h1,h2] at h;cases h
   | some l'=>
    rw[h1,h2] at h;simp only[zaa] at h;subst h;obtain⟨g1,g2⟩:=qoc h2;refine⟨by simp[g1],fun j x u hj hu=> ?_⟩
    cases j with
    | zero=>simp at hj hu;subst hj hu;exact⟨_,c,rfl,h1⟩
    | succ j=>simp at hj hu;exact g2 j x u hj hu
theorem xbbn{s:List (Nat×V)}{H:Heap}{a:Act}{w:World}{Im:Nat->Prop}{ρ ρ0:Nat->Loc}{obs:List Obj}(hI:Inv E w0 bl I0 s H a w Im ρ)(hsm:obs.length<=32)(han: ∀j o,obs[j]? =some o->w0.an j=some (shp o,ρ0 j)):Post w0.w I0 ρ0 bl obs w Im ρ (qi3 H obs.length):=by
 have hget: ∀j,qaj (qsr 0 (qi3 H obs.length)) j=if j<obs.length then qaj H j else none:=fun j=>by
  rw[qf5,if_pos (by omega),zcv];unfold qi3;rw[zaj];by_cases hj:j<obs.length
  ·rw[zcl hj,if_pos hj];rfl
  ·rw[zay (by simpa using hj),if_neg hj];rfl
 refine⟨hI.fr,hI.gam.map (f:=fun p=>p) (g:=fun c=>c) (Bad:=fun _=>False) (fun c=>rfl) (fun c=>.inr ⟨(qkm c).symm,fun _ _ h=>h⟩) (fun q o' hq=> ?_) (fun m _=> ?_),fun j o o' hj hj'=> ?_⟩
 ·rw[hget] at hq;split at hq
  ·refine⟨q,o',hq,rfl,rfl, ?_⟩;obtain⟨row,lock⟩:=o';cases row<;>simp[qpe]
  ·cases hq
 ·by_cases hm:m<obs.length
  ·right;exact⟨by simp[shOf,hget,hm],rfl⟩
  ·left;simp[shOf,hget,hm]
 ·have hlt:j<obs.length:=(zad.1 hj).1;unfold qi3 at hj';rw[zaj,zcl hlt] at hj';simp only[zap,zaa] at hj';have h1:=hI.st j o' (by omega) hj';rw[han j o hj] at h1;simp only[zaa,zbb] at h1;exact⟨h1.1.symm,h1.2.symm⟩
theorem q4n(f:Nat->Nat)(r:Rw):qgu f r=qpe (renV f) r:=by
 cases r<;>simp only[qgu,qpe]
 case var l=>
  congr 1;have key: ∀l:List V,renL f l=l.map (renV f):=fun l=>by
   induction l with
   | nil=>rfl
   | cons v r ih=>simp[renL,ih]
  exact key l
theorem xbfn{s:List (Nat×V)}{H:Heap}{a:Act}{w:World}{Im:Nat->Prop}{ρ ρ0:Nat->Loc}{obs:List Obj}{rest:List Nat}(hI:Inv E w0 bl I0 s H a w Im ρ)(hsm:obs.length<=32)(hlen:(List.range obs.length++rest).length<=32)(hnd:(List.range obs.length++rest).Nodup)(han: ∀j o,obs[j]? =some o->w0.an j=some (shp o,ρ0 j)): ∃ρ',Post w0.w I0 ρ0 bl obs w Im ρ' (((List.range obs.length++rest).map (qaj H)).map fun o=>o.map fun o=> {o with row:=qgu (qbc (List.range obs.length++rest) 0) o.row})/\
   ∀v x,VRep w Im ρ (shOf H) v x->VRep w Im ρ' (shOf (qsr 0 (((List.range obs.length++rest).map (qaj H)).map fun o=>o.map fun o=> {o with row:=qgu (qbc (List.range obs.length++rest) 0) o.row}))) (renV (qbc (List.range obs.length++rest) 0) v) x:=by
 have hfst: ∀j,j<obs.length->(List.range obs.length++rest)[j]? =some j:=fun j hj=>by rw[zax (by simpa using hj),zcl hj]
 generalize hall:List.range obs.length++rest=all at*;have hget: ∀q,qaj (qsr 0 ((all.map (qaj H)).map fun o=>o.map fun o=> {o with row:=qgu (qbc all 0) o.row})) q=((all[q]?).bind (qaj H)).map fun o=> {o with row:=qpe (renV (qbc all 0)) o.row}:=fun q=>by
  rw[qf5,if_pos (by omega),zcv,zaj,zaj]
  cases all[q]? with
  | none=>rfl
  | some p=>simp only[zap,zag,id,q4n]
 let ρ':Nat->Loc:=fun q=>match all[q]? with|some p=>ρ p|none=>none
 have hin: ∀(j p:Nat),all[j]? =some p->qbc all 0 p=j/\ρ' j=ρ p:=fun j p h=>⟨by rw[qqc hnd h,za1],by show(match all[j]? with|some p=>ρ p|none=>none)=_;rw[h]⟩;have hb: ∀m, ¬False->shOf (qsr 0 ((all.map (qaj H)).map fun o=>o.map fun o=> {o with row:=qgu (qbc all 0) o.row})) (qbc all 0 m)=none\/
   (shOf (qsr 0 ((all.map (qaj H)).map fun o=>o.map fun o=> {o with row:=qgu (qbc all 0) o.row})) (qbc all 0 m)=shOf H m/\ρ' (qbc all 0 m)=ρ m):=fun m _=>by
  by_cases hm:m∈all
  ·obtain⟨j,hj⟩:=zb1.1 hm;obtain⟨e1,e2⟩:=hin j m hj;right;rw[e1];refine⟨?_,e2⟩;unfold shOf;rw[hget,hj];simp only[zag]
   cases qaj H m with
   | none=>rfl
   | some o=>simp only[zap,qfq]
  ·left;unfold shOf;rw[qm6 hm,hget,zay (by omega)];rfl
 refine⟨ρ',⟨hI.fr,hI.gam.map (f:=qbc all 0) (g:=renV (qbc all 0)) (Bad:=fun _=>False) (fun c=>rfl) (fun c=>.inr ⟨rfl,fun _ _ h=>h⟩) (fun q o' hq=> ?_) hb,fun j o o' hj hj'=> ?_⟩,fun v x hx=>
  q3x (g:=renV (qbc all 0)) (Bad:=fun _=>False) (fun c=>.inr ⟨rfl,fun _ _ h=>h⟩) hb v x hx⟩
 ·rw[hget] at hq
  cases hp:all[q]? with
  | none=>rw[hp] at hq;cases hq
  | some p=>
   rw[hp] at hq;obtain⟨o,ho,rfl⟩:=zaq.1 hq;obtain⟨e1,e2⟩:=hin q p hp;exact⟨p,o,ho,e1,e2,rfl⟩
 ·have hlt:j<obs.length:=(zad.1 hj).1;rw[zaj,zaj,hfst j hlt] at hj';simp only[zap,zaa] at hj';obtain⟨u,hu,rfl⟩:=zaq.1 hj';have h1:=hI.st j u (by omega) hu;rw[han j o hj] at h1;simp only[zaa,zbb] at h1;rw[q4n,qfq];exact⟨h1.1.symm,by rw[(hin j j (hfst j hlt)).2];exact h1.2.symm⟩
theorem qp9{keep:Bool}{fn:Func}{obs:List Obj}{σ:St}{out:Out}{a:Act}{w:World}{ρ0:Nat->Loc}(h:finish P keep fn obs.length σ=some out)(hO:On E w0 bl I0 σ a w)(hsm:obs.length<=32)(han: ∀j o,obs[j]? =some o->w0.an j=some (shp o,ρ0 j)): ∃v,(Go.results fn a.tmps).run P w=.ok v w/\Ends w0.w I0 ρ0 bl obs out (.returned v) w:=by
 obtain⟨Im,ρ,hI⟩:=hO;unfold finish at h;split at h
 ·cases h
 ·rename_i vs hvs;obtain⟨us,h1,h2⟩:=qn0 hI _ _ vs hvs;refine⟨wrap us,qs9 h1, ?_⟩
  cases keep with
  | true=>
   simp only[cond_true] at h;replace h:=qaa h;obtain⟨hle,h⟩:=h;simp only[zaa] at h;subst h;obtain⟨ρ',k1,k2⟩:=xbfn (ρ0:=ρ0) hI hsm (zb5 hle) (List.nodup_append.2 ⟨List.nodup_range,(qe4 _).filter _,fun x hx y hy=>by
    have h1:=zb2.1 hx;have h2:=(zdo.1 hy).2;simp only[zao] at h2;intro e;subst e;have:Nat.blt x obs.length=true:=by simpa [zb9] using h1
    rw[this] at h2;cases h2⟩) han
   refine⟨us,Im,ρ',rfl,k1, ?_,fun j c v hj hv=> ?_⟩
   ·rw[qc2];exact h2.1
   ·rw[qhj] at hj;obtain⟨d,hd,rfl⟩:=zaq.1 hj;exact k2 d v (h2.2 j d v hd hv)
  | false=>
   simp only[cond_false] at h;replace h:=qaa h;obtain⟨hall,h⟩:=h;split at h
   ·rename_i l hl;simp only[zaa] at h;subst h;obtain⟨Im',j1,j2,j3,j4⟩:=Inv.lockAll (vs.flatMap (reach σ.heap 6)) σ.heap Im hI fun q o hq=>⟨o,hq,rfl⟩;have hsame:qi3 (updH σ.heap (lockAll σ.heap (vs.flatMap (reach σ.heap 6)))) obs.length=qi3 σ.heap obs.length:=by
     unfold qi3;apply zbx;intro j hj;have hj:=zb2.1 hj;by_cases hm:j∈vs.flatMap (reach σ.heap 6)
     ·have hlk:=zai.1 hall j hm;have hb:Nat.blt j obs.length=true:=by simpa [zb9] using hj
      simp only[hb,zct,Bool.false_or] at hlk
      cases ho:qaj σ.heap j with
      | none=>
       cases h2:qaj (updH σ.heap (lockAll σ.heap (vs.flatMap (reach σ.heap 6)))) j with
       | none=>rfl
       | some o=>
        obtain⟨o1,g,_⟩:=(qcw (vs.flatMap (reach σ.heap 6)) (.refl σ.heap)).bwd h2;rw[ho] at g;cases g
      | some o=>
       rw[ho] at hlk;rw[(qe1 _ σ.heap j).1 hm o ho];obtain⟨row,lock⟩:=o;have hlk:lock=true:=hlk;subst hlk;rfl
     ·exact(qe1 _ σ.heap j).2 hm
    have hpost:=xbbn (ρ0:=ρ0) j1 hsm han;rw[hsame] at hpost;obtain⟨g1,g2⟩:=qoc hl;refine⟨us,Im',ρ,rfl,hpost,by rw[g1];exact h2.1,fun j c v hj hv=> ?_⟩;obtain⟨v0,hv0⟩:=getElem?_of_length (l:=l) (vs:=vs) g1.symm hj;obtain⟨t,d,rfl,hcl⟩:=g2 j v0 c hv0 hj;exact .cl _ _ (qgy P hI.gam.ob j2 6 t v0 d v hcl (h2.2 j v0 v hv0 hv) fun p hp o ho b x y hb=>j3 p (zb7.2 ⟨v0,zac hv0,hp⟩) o ho b x y hb)
   ·cases h
theorem CRep.cells{w w':World}{Im:Nat->Prop}{c:CV}{v:Value}(h:CRep w Im c v)(hc: ∀a,w'.cell? a=w.cell? a):CRep w' Im c v:=by
 induction h with
 | int k n=>exact .int k n
 | bool b=>exact .bool b
 | str s=>exact .str s
 | nili=>exact .nili
 | nilp=>exact .nilp
 | nilfn=>exact .nilfn
 | sli k l a len cap h1 h2 h3=>
  refine .sli k l a len cap h1 h2 fun i n hi=> ?_;obtain⟨ad,e,hb,h⟩:=h3 i n hi;exact⟨ad,e,hb,(hc _).trans h⟩
 | slg e l a len cap f h1 h2 h3 h4 h6 h5 ih=>
  refine .slg e l a len cap f h1 h2 h3 (fun j c hj=> ?_) h6 ih;obtain⟨ad,e,hb,h⟩:=h4 j c hj;exact⟨ad,e,hb,(hc _).trans h⟩
 | agg l vs h1 h2 _ ih=>exact .agg l vs h1 h2 ih
 | aggi n k l h=>exact .aggi n k l h
 | agga n e l vs h1 h2 h3 h4 _ ih=>exact .agga n e l vs h1 h2 h3 h4 ih
 | iface t c v _ ih=>exact .iface t c v ih
 | fn f a b va vb h1 h2 _ _ ih1 ih2=>exact .fn f a b va vb h1 h2 ih1 ih2
 | vp r i o e cs b off f h1 h2 h3 h4 h5 _ ih=>exact .vp r i o e cs b off f h1 h2 h3 (fun j c hj=>(hc _).trans (h4 j c hj)) h5 ih
 | any p v h=>exact .any p v h
 | is c v h _ ih=>exact .is c v h ih
theorem VRep.cells{w w':World}{Im:Nat->Prop}{ρ:Nat->Loc}{S:Nat->Option Sh}{v:V}{x:Value}(h:VRep w Im ρ S v x)(hc: ∀a,w'.cell? a=w.cell? a):VRep w' Im ρ S v x:=by
 induction h with
 | undef v=>exact .undef v
 | cl c v h=>exact .cl c v (h.cells hc)
 | nils=>exact .nils
 | agg l vs h1 h2 _ ih=>exact .agg l vs h1 h2 ih
 | tup l vs h1 _ ih=>exact .tup l vs h1 ih
 | iface t c v _ ih=>exact .iface t c v ih
 | fn f a b va vb h1 h2 _ _ ih1 ih2=>exact .fn f a b va vb h1 h2 ih1 ih2
 | ptrN p i o ad h=>exact .ptrN p i o ad h
 | ptr p i o s b base lim h1 h2 h3=>exact .ptr p i o s b base lim h1 h2 h3
 | aptrN p n e ad h=>exact .aptrN p n e ad h
 | aptr p n e b base lim h1 h2=>exact .aptr p n e b base lim h1 h2
 | refN p o len tip e a cap h1 h2 h3=>exact .refN p o len tip e a cap h1 h2 h3
 | refV p s tip e h1 h2 h3 h4=>exact .refV p s tip e h1 h2 h3 h4
 | ref p o len tip e s b base lim ad cap h1 h2 h3 h4 h5 h6 h7 h8=>exact .ref p o len tip e s b base lim ad cap h1 h2 h3 h4 h5 h6 h7 h8
theorem Inv.shut{s:List (Nat×V)}{H:Heap}{a a':Act}{w w':World}{Im:Nat->Prop}{ρ:Nat->Loc}(h:Inv E w0 bl I0 s H a w Im ρ)(ha:a'.tmps=a.tmps)(hh:Held E w0.df w0.w.heap.size a' w' Im)(hc: ∀a,w'.cell? a=w.cell? a)(hz: ∀a,w'.frozen? a=w.frozen? a)(hs:w'.heap.size=w.heap.size)(ho:w'.os=w.os)(ht:w'.tape=w.tape)(hu:w'.output=w.output)(hb: ∀b,b<w0.w.heap.size->w'.heap[b]? =w.heap[b]?):Inv E w0 bl I0 s H a' w' Im ρ:=by
 refine⟨⟨fun b hb=>by rw[hs];exact h.gam.im b hb,h.gam.i0,fun p o hp=> ?_,h.gam.dj,fun p o b x y hp hr=>by rw[hs];exact h.gam.lk p o b x y hp hr,h.gam.imo⟩,
  ⟨ho.trans h.fr.os,ht.trans h.fr.tape,hu.trans h.fr.output,by rw[hs];exact h.fr.size,fun b hlt hn=>(hb b hlt).trans (h.fr.block b hlt hn)⟩,fun t=>by rw[ha];exact(h.sl t).cells hc,by rw[ha];exact h.nt,hh,fun g c hg=>(h.gl g c hg).cells hc,h.st⟩
 have:=h.gam.ob p o hp
 cases hr:ρ p with
 | none=>rw[hr] at this;exact this
 | some l=>
  rw[hr] at this;obtain⟨b,base,lim⟩:=l;obtain⟨h1,h2,h3,h4,h5⟩:=this;exact⟨h1,by rw[hs];exact h2,h3,fun i hi=>⟨by rw[hc];exact(h4 i hi).1,by rw[hz];exact(h4 i hi).2⟩,fun j c hj=>let ⟨v,hv1,ho,hv2⟩:=h5 j c hj;⟨v,by rw[hc];exact hv1,ho,hv2.cells hc⟩⟩
theorem xbcv{w:World}{D:Nat}{o o':Go.Obj}(h:w.heap[D]? =some o)(ho:o.isCells=false)(ho':o'.isCells=false)(a:Addr):(w.putObj D o').cell? a=w.cell? a/\(w.putObj D o').frozen? a=w.frozen? a:=by
 by_cases e:a.block=D
 ·have h1:=World.putObj_heap_same (w:=w) (o:=o') (zco.1 h).1;unfold World.cell? World.frozen?;rw[e,h,h1];cases o<;>cases o'<;>simp_all [Go.Obj.isCells]
 ·have h1:=World.putObj_heap_other (w:=w) (o:=o') e;unfold World.cell? World.frozen?;rw[h1];exact⟨rfl,rfl⟩
theorem qkx{fn:Func}{R:Ending->World->Prop}{u:FrameMode}(hu:u≠.run){s:List (Nat×V)}{H:Heap}{Im:Nat->Prop}{ρ:Nat->Loc}{tmps:Array Value}: ∀(Ds:List Nat) (w:World),Ds.Nodup->(∀D∈Ds,w0.w.heap.size<=D/\Im D/\w.heap[D]? =some (.deferred (some [])))->(E.rg=false->Ds=[])->w0.df=[]->
  Inv E w0 bl I0 s H ⟨tmps,Ds.map mark⟩ w Im ρ->(∀w1,Inv E w0 bl I0 s H ⟨tmps,[]⟩ w1 Im ρ->(∀a,w1.cell? a=w.cell? a)->LeavesIn Fence.wide 0 P fn tmps R [] u w1)->LeavesInM Fence.wide 0 P fn tmps R (Ds.map mark) u w
 | [],w,_,_,_,_,hI,hR=>hR w hI fun _=>rfl
 | D::Ds,w,hn,hD,hrg,hdf,hI,hR=>by
  obtain⟨h1,h2,h3⟩:=hD D (by simp);have hcc:=xbcv h3 rfl (o':=.deferred none) rfl;have hD': ∀D'∈Ds,w0.w.heap.size<=D'/\Im D'/\(w.putObj D (.deferred none)).heap[D']? =some (.deferred (some [])):=fun D' hD'=>by obtain⟨g1,g2,g3⟩:=hD D' (by simp[hD']);exact⟨g1,g2,(World.putObj_heap_other (fun e=>(zcz.1 hn).1 (by rw[<- e];exact hD'))).trans g3⟩
  have hI':Inv E w0 bl I0 s H ⟨tmps,Ds.map mark⟩ (w.putObj D (.deferred none)) Im ρ:=
   hI.shut rfl ⟨Ds,by rw[hdf,za9],(zcz.1 hn).2,hD',fun e=>by cases hrg e⟩ (fun a=>(hcc a).1) (fun a=>(hcc a).2) (by simp[World.putObj]) rfl rfl rfl fun b hb=>World.putObj_heap_other (by omega)
  exact⟨hu,.inl ⟨D,_,rfl,run_takeDeferred h3,qkx hu Ds _ (zcz.1 hn).2 hD' (fun e=>by cases hrg e) hdf hI' fun w1 k1 k2=>hR w1 k1 fun a=>(k2 a).trans (hcc a).1⟩⟩
theorem qqj{fn:Func}{R:Ending->World->Prop}{s:List (Nat×V)}{H:Heap}{a:Act}{w:World}{Im:Nat->Prop}{ρ:Nat->Loc}(hdf:w0.df=[])(hI:Inv E w0 bl I0 s H a w Im ρ)(h: ∀w1 (a1:Act),a.tmps=a1.tmps->Inv E w0 bl I0 s H a1 w1 Im ρ->∃v,(Go.results fn a.tmps).run P w1=.ok v w1/\R (.returned v) w1):LeavesInM Fence.wide 0 P fn a.tmps R a.defers .returning w:=by obtain⟨Ds,h1,h2,h3,h4⟩:=hI.df;rw[hdf,za9] at h1;obtain⟨tmps,defers⟩:=a;simp only at h1;subst h1;exact qkx (by simp) Ds w h2 h3 h4 hdf hI fun w1 k1 _=>h w1 ⟨tmps,[]⟩ rfl k1
theorem xbaw{fn:Func}{R:Ending->World->Prop}{s:List (Nat×V)}{H:Heap}{a:Act}{w:World}{Im:Nat->Prop}{ρ:Nat->Loc}{c:CV}{x:Value}{ch:List PanicEntry}(hdf:w0.df=[])(hI:Inv E w0 bl I0 s H a w Im ρ)(hc:CRep w Im c x)(h: ∀w1 (a1:Act),Inv E w0 bl I0 s H a1 w1 Im ρ->CRep w1 Im c x->R (.panicked ch) w1):LeavesInM Fence.wide 0 P fn a.tmps R a.defers (.panicking ch) w:=by obtain⟨Ds,h1,h2,h3,h4⟩:=hI.df;rw[hdf,za9] at h1;obtain⟨tmps,defers⟩:=a;simp only at h1;subst h1;exact qkx (by simp) Ds w h2 h3 h4 hdf hI fun w1 k1 k2=>h w1 ⟨tmps,[]⟩ k1 (hc.cells k2)
theorem qm5: ∀(l:List V) (i t:Nat),getV (slots0 i l) t=if i<=t then(l[t - i]?).getD .undef else .undef
 | [],i,t=>by simp[slots0,getV,qaj]
 | v::r,i,t=>by
  have ih:=qm5 r (i+1) t;simp only[slots0,getV,qaj]
  cases hb:Nat.beq i t with
  | true=>obtain rfl:=qag.1 hb;simp
  | false=>
   have hne:=qa7 hb;simp only[cond_false];show getV (slots0 (i+1) r) t=_;rw[ih];by_cases h:i<=t
   ·rw[if_pos (by omega),if_pos h,show t - i=(t - (i+1))+1 by omega];simp
   ·rw[if_neg (by omega),if_neg h]
noncomputable def endK(P:Program)(keep:Bool)(fn:Func)(n:Nat):Ex->St->Option Out:=fun ex σ=>match ex with
 | .normal=>finish P keep fn n σ
 | .ret=>finish P keep fn n σ
 | .pan c=>some (.pan c (qi3 σ.heap n))
 | .exit _=>none
theorem q6e{g:FuncId}{fn:Func}{keep:Bool}{S:FSpec}(hf:P.funcs[g]? =some fn)(hn:(fn.name== "runtime.NumGoroutine")=false)(hb:fn.body.isSome=true)(hnt:E.nt=fn.ntmps)(hS: ∀as obs out,S as obs=some out->as.length<=fn.ntmps/\∀c,fn.body=some c->∀(w0:Base) (bl I0:Nat->Prop) (a:Act) (w:World) (Q:Exit->Act->World->Prop),(∀e a w,Lands E w0 bl I0 (endK P keep fn obs.length) out e a w->Q e a w)->On E w0 bl I0 ⟨slots0 0 as,heap0 0 obs⟩ a w->c.wp P Q a w):Sound P E.glob g S:=by
 intro as obs out w Im ρ bl vs hs hpre;obtain⟨hlen,hbody⟩:=hS as obs out hs;obtain⟨c,hc⟩:=zbn.1 hb;left;constructor
 ·have hn': ¬fn.name= "runtime.NumGoroutine" :=by simpa using hn
  simp[callFunc,hf,hn',hc]
 ·refine(callsIn_wide (n:=0)).1 (callsIn_of_wp_marks hf hc trivial (wpIn_wide.2 ?_) rfl);let w0:Base:=⟨w,fun j=>(qaj (heap0 0 obs) j).map fun o=>(shp o,ρ j),[]⟩;have hvl:vs.length=as.length:=hpre.reps.1;have hO:On E w0 bl Im ⟨slots0 0 as,heap0 0 obs⟩ {tmps:=vs.toArray++Array.replicate (fn.ntmps - vs.toArray.size) undef,defers:=[]} w:=by
   refine⟨Im,ρ,hpre.gam,Fr.refl w bl,fun t=> ?_,by simp[hnt];omega,⟨[],rfl,by simp,by simp,fun _=>rfl⟩,hpre.gl,fun j o hj hg=> ?_⟩
   ·show VRep w Im ρ (shOf (heap0 0 obs)) (getV (slots0 0 as) t) _;rw[qm5,if_pos (by omega),zcv]
    cases ha:as[t]? with
    | none=>exact .undef _
    | some v=>
     have hlt:t<vs.length:=by have:=(zad.1 ha).1;omega
     have hv:=hpre.reps.2 t v _ ha (zae hlt);have:(vs.toArray++Array.replicate (fn.ntmps - vs.toArray.size) undef).getD t undef=vs[t]:=by rw[zaz,zcn (by simpa using hlt)];simp[hlt]
     rw[this];exact hv
   ·show(qaj (heap0 0 obs) j).map _=_;have hg:qaj (heap0 0 obs) j=some o:=hg;rw[hg];rfl
  have han: ∀j o,obs[j]? =some o->w0.an j=some (shp o,ρ j):=fun j o hj=>by show(qaj (heap0 0 obs) j).map _=_;rw[qez,if_pos (by omega),zcv,hj];rfl
  refine hbody c hc w0 bl Im _ w _ (fun e a' w' hl=> ?_) hO;obtain⟨ex,σ',Im',ρ',h1,h2,h3⟩:=hl
  cases ex with
  | normal=>
   cases e<;>first|exact h3.elim|skip
   exact qqj rfl h2 fun w1 a1 ht h3=>by rw[ht];exact qp9 h1 ⟨Im',ρ',h3⟩ hpre.small han
  | ret=>
   cases e<;>first|exact h3.elim|skip
   exact qqj rfl h2 fun w1 a1 ht h3=>by rw[ht];exact qp9 h1 ⟨Im',ρ',h3⟩ hpre.small han
  | exit i=>cases h1
  | pan cv=>
   cases e<;>first|exact h3.elim|skip
   obtain⟨x,rfl,hcr⟩:=h3;have h1:some (Out.pan cv (qi3 σ'.heap obs.length))=some out:=h1;simp only[zaa] at h1;subst h1;exact xbaw rfl h2 (c:=cv) (x:=x) hcr fun w1 a1 h3 hc3=>⟨x,Im',ρ',rfl,xbbn h3 hpre.small han,hc3⟩
theorem q8z{g:FuncId}{fn:Func}{keep:Bool}{N:Nat}{S:FSpec}(hE: ∀g,Sound P E.glob g (ctr E g))(hsq:qfr P E)(hdraw:q7y P E)(hf:P.funcs[g]? =some fn)(hn:(fn.name== "runtime.NumGoroutine")=false)(hb:fn.body.isSome=true)(hyl:E.yl=fun _=>none)(hlo: ∀c,fn.body=some c->qbj P E N c)(hnt:E.nt=fn.ntmps)(hS: ∀as obs out,S as obs=some out->as.length<=fn.ntmps/\qoa P E N keep fn as obs=some out):Sound P E.glob g S:=
 q6e hf hn hb hnt fun as obs out h=>⟨(hS as obs out h).1,fun c hc w0 bl I0 a w Q hQ hO=>q6l hE hsq hyl hdraw N c (hlo c hc) _ _ _ a w hQ (by have:=(hS as obs out h).2;unfold qoa at this;rw[hc] at this;exact this) hO⟩
end
def Hands:Out->Option (List (List CV))->Prop
 | .ret _ _,rest=>rest=some []\/rest=none
 | .yld x f t,some (y::r)=>x=y/\Hands f none/\Hands t (some r)
 | _,_=>False
abbrev JT:=List (List CV)->(Nat->Prop)->(Nat->Prop)->World->Prop
abbrev JX:=(Nat->Prop)->(Nat->Prop)->World->Prop
structure Caller (P:Program) (l:Nat) (Z:Nat->Prop) (J:JT) (Jx:JX):Prop where
 s: ∀r O C W W' Ch,J r O C W->Fr W Ch W'->(∀b,Ch b-> ¬O b)->J r O C W'
 sx: ∀O C W W' Ch,Jx O C W->Fr W Ch W'->(∀b,Ch b-> ¬O b)->Jx O C W'
 b: ∀r O C W,J r O C W->(∀b,O b->b<W.heap.size)/\∀b,C b->O b
 bx: ∀O C W,Jx O C W->(∀b,O b->b<W.heap.size)/\∀b,C b->O b
 y: ∀x r O C W Fz vs,J (x::r) O C W->(∀b,Fz b->b<W.heap.size/\¬C b/\Z b)->xbes W Fz x vs->YieldAt Fence.wide 0 P l vs.toArray W fun e W'=> ∃O' C',Fr W C W'/\(∀b,O' b->O b\/Fz b\/W.heap.size<=b)/\(∀b,C' b->C b\/W.heap.size<=b)/\
   ((e=.returned (.bool true)/\J r O' C' W')\/(e=.returned (.bool false)/\Jx O' C' W'))
def Prog(J:JT)(Jx:JX):Option (List (List CV))->(Nat->Prop)->(Nat->Prop)->World->Prop
 | some r=>J r
 | none=>Jx
theorem Prog.s{P:Program}{l:Nat}{Z:Nat->Prop}{J:JT}{Jx:JX}(hc:Caller P l Z J Jx){rest:Option (List (List CV))}{O C Ch:Nat->Prop}{W W':World}(h:Prog J Jx rest O C W)(hf:Fr W Ch W')(hn: ∀b,Ch b-> ¬O b):Prog J Jx rest O C W':=by
 cases rest with
 | some r=>exact hc.s _ _ _ _ _ _ h hf hn
 | none=>exact hc.sx _ _ _ _ _ h hf hn
theorem Prog.b{P:Program}{l:Nat}{Z:Nat->Prop}{J:JT}{Jx:JX}(hc:Caller P l Z J Jx){rest:Option (List (List CV))}{O C:Nat->Prop}{W:World}(h:Prog J Jx rest O C W):(∀b,O b->b<W.heap.size)/\∀b,C b->O b:=by
 cases rest with
 | some r=>exact hc.b _ _ _ _ h
 | none=>exact hc.bx _ _ _ h
def Gh(Z:Nat->Prop)(J:JT)(Jx:JX)(rest:Option (List (List CV)))(B:Base)(bl I0:Nat->Prop):Prop:= ∃O C,Prog J Jx rest O C B.w/\(∀b,bl b-> ¬O b)/\(∀b,C b-> ¬I0 b)/\B.df=[]/\∀b,I0 b\/bl b\/B.w.heap.size<=b->Z b
section
variable {P:Program} {E:Env} {B:Base} {bl I0:Nat->Prop} {s:List (Nat×V)} {H:Heap} {a:Act} {w:World} {Im:Nat->Prop} {ρ:Nat->Loc} {l:Nat} {Z:Nat->Prop} {J:JT} {Jx:JX}
theorem Inv.defers(h:Inv E B bl I0 s H a w Im ρ)(hdf:B.df=[])(hrg:E.rg=false):a.defers=[]:=by obtain⟨Ds,h1,_,_,h2⟩:=h.df;rw[h1,h2 hrg,hdf];rfl
theorem Inv.hop(h:Inv E B bl I0 s H a w Im ρ)(hdf:B.df=[])(hrg:E.rg=false){C:Nat->Prop}{W':World}(hf:Fr w C W')(hc: ∀b,C b->b<w.heap.size-> ¬Im b/\¬obs H ρ b):
  Inv E ⟨W',fun j=>(qaj H j).map fun o=>(shp o,ρ j),[]⟩ (chg H ρ) Im s H a W' Im ρ:=by
 have hk:Keep Im w W':=fun b hb=>hf.block b (h.gam.im b hb) fun e=>(hc b e (h.gam.im b hb)).1 hb;have hv: ∀v x,VRep w Im ρ (shOf H) v x->VRep W' Im ρ (shOf H) v x:=fun v x hx=>hx.congr hk (fun _ h=>h) (fun q _=>.inr ⟨rfl,rfl⟩);refine⟨⟨fun b hb=>zbg (h.gam.im b hb) hf.size,fun _ h=>h,fun p o hp=> ?_,h.gam.dj,fun p o b x y hp hr=>⟨zbg (h.gam.lk p o b x y hp hr).1 hf.size,(h.gam.lk p o b x y hp hr).2.1,fun hl=>⟨((h.gam.lk p o b x y hp hr).2.2 hl).1,.inl ⟨p,o,x,y,hp,hl,hr⟩⟩⟩,fun b hb=>.inl hb⟩,
  .refl _ _,fun t=>hv _ _ (h.sl t),h.nt,⟨[],by rw[h.defers hdf hrg];rfl,by simp,by simp,fun _=>rfl⟩,fun g c hg=>(h.gl g c hg).keep hk (fun _ h=>h),fun j o _ hj=>by simp only[hj,zap]⟩
 refine(h.gam.ob p o hp).congr (fun b x y hr=> ?_) fun j c x _=>hv c x;have hlt:=(h.gam.lk p o b x y hp hr).1;exact hf.block b hlt fun e=>(hc b e hlt).2 ⟨p,o,x,y,hp,hr⟩
theorem xbov(hc:Caller P l Z J Jx){x:List CV}{r:List (List CV)}{vs:List Value}(hg:Gh Z J Jx (some (x::r)) B bl I0)(hI:Inv E B bl I0 s H a w Im ρ)(hrg:E.rg=false)(hv:xbes w Im x vs):
  YieldAt Fence.wide 0 P l vs.toArray w fun e W'=> ∃(b:Bool) (B':Base) (bl' I0':Nat->Prop),e=.returned (.bool b)/\Gh Z J Jx (cond b (some r) none) B' bl' I0'/\Inv E B' bl' I0' s H a W' Im ρ:=by
 obtain⟨O,C,g1,g2,g3,hdf,hz⟩:=hg;have hJ:J (x::r) O C B.w:=g1;have hO:=(hc.b _ _ _ _ hJ).1;have hCO:=(hc.b _ _ _ _ hJ).2;have hch: ∀b,chg H ρ b-> ¬O b:=fun b hb ho=>(qr8 hI hb).2.2.elim (fun e=>g2 b e ho) fun e=>zdt.2 e (hO b ho);have hIm: ∀b,C b-> ¬Im b:=fun b hb hm=>by
  rcases hI.gam.imo b hm with e|e|e
  ·exact g3 b hb e
  ·exact g2 b e (hCO b hb)
  ·exact zdt.2 e (hO b (hCO b hb))
 have hno: ∀b,C b-> ¬obs H ρ b:=fun b hb ho=>(xbbg hI ho).elim (hIm b hb) fun e=>hch b e (hCO b hb);refine YieldAt.mono' (hc.y x r O C w Im vs (hc.s _ _ _ _ _ _ hJ hI.fr g2) (fun b hb=>⟨hI.gam.im b hb,fun e=>hIm b e hb,hz b (hI.gam.imo b hb)⟩) hv) ?_;rintro e W' ⟨O',C',f1,f2,f3,f4⟩;have hI':=hI.hop hdf hrg f1 fun b hb _=>⟨hIm b hb,hno b hb⟩;have hgh: ∀rest,Prog J Jx rest O' C' W'->Gh Z J Jx rest ⟨W',fun j=>(qaj H j).map fun o=>(shp o,ρ j),[]⟩ (chg H ρ) Im:=fun rest hp=>⟨O',C',hp,fun b hb ho=>(f2 b ho).elim (hch b hb) fun e=>e.elim (qr8 hI hb).1 fun e=>zdt.2 e (qr8 hI hb).2.1,
  fun b hb hm=>(f3 b hb).elim (fun e=>hIm b e hm) fun e=>zdt.2 e (hI.gam.im b hm),rfl,fun b hb=>hb.elim (fun e=>hz b (hI.gam.imo b e)) fun e=>e.elim (fun e=>hz b (.inr (qr8 hI e).2.2)) fun e=>hz b (.inr (.inr (zby hI.fr.size (zby f1.size e))))⟩
 rcases f4 with⟨rfl,h⟩|⟨rfl,h⟩
 ·exact⟨true,_,_,_,rfl,hgh (some r) h,hI'⟩
 ·exact⟨false,_,_,_,rfl,hgh none h,hI'⟩
def qhu(E:Env)(Z:Nat->Prop)(J:JT)(Jx:JX)(k:Ex->St->Option Out)(e:Exit)(a:Act)(w:World):Prop:=
 ∃ex σ r rest B bl I0 Im ρ,k ex σ=some r/\Hands r rest/\Gh Z J Jx rest B bl I0/\Inv E B bl I0 σ.slots σ.heap a w Im ρ/\Meet ex e w Im
theorem qhu.of{k:Ex->St->Option Out}{r:Out}{rest:Option (List (List CV))}(hh:Hands r rest)(hg:Gh Z J Jx rest B bl I0){e:Exit}{a:Act}{w:World}(h:Lands E B bl I0 k r e a w):qhu E Z J Jx k e a w:=
 let ⟨ex,σ,Im,ρ,h1,h2,h3⟩:=h;⟨ex,σ,r,rest,B,bl,I0,Im,ρ,h1,hh,hg,h2,h3⟩
theorem xbar{k:Ex->St->Option Out}: ¬LetsOut (qhu E Z J Jx k):=fun⟨a,w,ex,σ,r,rest,B,bl,I0,Im,ρ,_,_,_,_,h⟩=>by cases ex<;>exact h
theorem xbd8{o:Oper}{a:Act}{w:World}{next:Act->World->Prop}{Q:Exit->Act->World->Prop}(h:o.wp P a w next Q):o.wpIn Fence.wide 0 P a w next Q:=by
 refine⟨fun _ _=>trivial, ?_⟩;have e:Oper.semAt Fence.wide.round a.eval o=execOp a.eval o:=rfl;rw[e];unfold Oper.wp at h;generalize (execOp a.eval o).run P w=res at h
 cases res with
 | halt x w'=>cases x<;>first|exact h|exact h.elim
 | ok x w'=>
  cases x with
  | enter f args=>exact⟨fun h=>by simp[Fence.wide] at h,(callsIn_wide (n:=0)).2 h⟩
  | row row args=>
   refine⟨fun h=>by simp[Fence.wide] at h,fun c cs _=> ?_⟩;obtain⟨v,w2,h1,h2⟩:=h c cs;exact⟨v,w2,h1,stepsIn_wide.2 h2⟩
  | _=>first|exact h|exact h.elim
theorem q7q{o:Oper}{a:Act}{w:World}{next next':Act->World->Prop}{Q Q':Exit->Act->World->Prop}(h:o.wpIn Fence.wide 0 P a w next Q)(hn: ∀a w,next a w->next' a w)(hq: ∀c a w,Q (.panic c) a w->Q' (.panic c) a w)(hl: ¬LetsOut Q):o.wpIn Fence.wide 0 P a w next' Q':=by
 refine⟨h.1, ?_⟩;have h:=h.2;generalize (Oper.semAt Fence.wide.round a.eval o).run P w=res at h ⊢
 cases res with
 | halt x w'=>cases x<;>first|exact hq _ _ _ h|exact h.elim
 | ok x w'=>
  cases x with
  | enter f args=>
   refine⟨h.1,h.2.mono fun e w2 he=> ?_⟩
   cases e with
   | returned v=>exact hn _ _ he
   | panicked c=>exact hq _ _ _ he
   | outgrown=>exact absurd he hl
  | row row args=>exact⟨h.1,h.2.mono fun v w2 he=>hn _ _ he⟩
  | round l f tmps assign body=>
   refine⟨h.1,h.2.mono fun e w2 he=> ?_⟩
   cases e with
   | returned v=>exact hn _ _ he
   | panicked c=>exact hq _ _ _ he
   | outgrown=>exact absurd he hl
  | _=>first|exact hn _ _ h|exact h.elim
theorem qfg{ops:Array Oper}{Q Q':Exit->Act->World->Prop}(hl: ¬LetsOut Q'){rest:List Oper}(hp: ∀c a w,Q' (.panic c) a w->Q (.panic c) a w)(hn: ∀a w,Q' .normal a w->wpListIn Fence.wide 0 P ops Q rest a w): ∀(os:List Oper) (a:Act) (w:World),wpList P ops Q' os a w->wpListIn Fence.wide 0 P ops Q (os++rest) a w
 | [],a,w,h=>hn a w h
 | o::r,a,w,h=>by
  unfold wpList at h;rw[za8];unfold wpListIn;by_cases hw:Region.wanted o (yielded ops a.tmps)=true
  ·rw[if_pos hw] at h ⊢;exact q7q (xbd8 (h.resolve_right fun h=>hl h.2)) (fun a w=>qfg hl hp hn r a w) hp hl
  ·rw[if_neg hw] at h ⊢;exact⟨fun _ _=>trivial,qfg hl hp hn r _ _ h⟩
theorem qwh{o:Oper}{d:Tmp}{xs:Array Operand}{ts:Array TypeId}{a:Act}{w:World}{nx:Next}(ho:o.op=.call ⟨.value (.tmp d),xs,ts⟩)(hf:a.tmps.getD d undef=.func (.yield l) #[] #[])(hy:(Instr.yield l (xs.map a.eval)).run P w=.ok nx w):(execOp a.eval o).run P w=.ok nx w:=by unfold execOp;simp only[ho];have he:a.eval (.tmp d)=.func (.yield l) #[] #[]:=hf;simp only[resolve,he];simpa [go_sem,invoke] using hy
theorem q5i(hrg:E.rg=false)(hc:Caller P E.yn Z J Jx){ops:Array Oper}{o:Oper}{d:Tmp}{xs:Array Operand}{ts:Array TypeId}{dd:Nat}{post:List Oper}{σ':St}{k:Ex->St->Option Out}{r:Out}{rest:Option (List (List CV))}{Q:Exit->Act->World->Prop}{K:Act->World->Prop}(h1:xbea P E ops d dd ts.toList (xs.toList.map (opd E σ'.slots)) post σ' k=some r)(hh:Hands r rest)(hg:Gh Z J Jx rest B bl I0)(h2:Inv E B bl I0 σ'.slots σ'.heap a w Im ρ)(ho:o.op=.call ⟨.value (.tmp d),xs,ts⟩)(hdst:o.dst=some dd)(hK: ∀(rr:Out) (rest':Option (List (List CV))) (B':Base) (bl' I0':Nat->Prop) (σ2:St) (a2:Act) (w2:World),opsK P E ops post σ2 k=some rr->Hands rr rest'->Gh Z J Jx rest' B' bl' I0'->On E B' bl' I0' σ2 a2 w2->K a2 w2):o.wpIn Fence.wide 0 P a w K Q:=by
 unfold xbea at h1;split at h1
 ·rename_i l' cs hd hcs;replace h1:=qaa h1;obtain⟨hc1,h1⟩:=h1;replace h1:=qaa h1;obtain⟨hl',h1⟩:=h1;replace hl':=qag.1 hl';subst hl';have hfv:a.tmps.getD d undef=.func (.yield E.yn) #[] #[]:=by
   have:=h2.sl d;rw[hd] at this;generalize a.tmps.getD d undef=y at this ⊢
   cases this with
   | cl _ _ hcr=>
    cases hcr with
    | fn _ _ _ va vb e1 e2=>
     have e1:va=[]:=by simpa using e1
     have e2:vb=[]:=by simpa using e2
     subst e1 e2;rfl
  obtain⟨Im1,j1,j2,j3,j4⟩:=Inv.lockAll ((xs.toList.map (opd E σ'.slots)).flatMap (reach σ'.heap 6)) σ'.heap Im h2 fun q o hq=>⟨o,hq,rfl⟩;obtain⟨q1,q2⟩:=qm2 hcs;have hv:xbes w Im1 cs (xs.toList.map a.eval):=by
   refine⟨by rw[q1];simp,fun j c v hj hv=> ?_⟩;rw[zaj] at hv
   cases hx:xs.toList[j]? with
   | none=>rw[hx] at hv;cases hv
   | some x=>
    rw[hx] at hv;simp only[zap,zaa] at hv;subst hv;have hxm:(xs.toList.map (opd E σ'.slots))[j]? =some (opd E σ'.slots x):=by rw[zaj,hx];rfl
    obtain⟨t,ht⟩:=q2 j _ c hxm hj;exact qgy P h2.gam.ob j2 6 t _ c _ ht (h2.opd x) fun p hp o ho b y z hr=>j3 p (zb7.2 ⟨_,zac hxm,hp⟩) o ho b y z hr
  cases hf:opsK P E ops post ⟨qct σ'.slots dd (.cl (.bool false)),updH σ'.heap (lockAll σ'.heap ((xs.toList.map (opd E σ'.slots)).flatMap (reach σ'.heap 6)))⟩ k with
  | none=>
   rw[hf] at h1;have: ∀o,yldO cs none o=none:=fun o=>by cases o<;>rfl
   rw[this] at h1;cases h1
  | some rf=>
  cases ht:opsK P E ops post ⟨qct σ'.slots dd (.cl (.bool true)),updH σ'.heap (lockAll σ'.heap ((xs.toList.map (opd E σ'.slots)).flatMap (reach σ'.heap 6)))⟩ k with
  | none=>rw[hf,ht] at h1;cases h1
  | some rt=>
  rw[hf,ht] at h1;have h1:Out.yld cs rf rt=r:=zc0 h1;subst h1
  cases rest with
  | none=>exact hh.elim
  | some xl=>
  cases xl with
  | nil=>exact hh.elim
  | cons y xr=>
  obtain⟨rfl,hh1,hh2⟩:=hh;obtain⟨fn,tmps,as,bo,hy1,hy2⟩:=xbov hc hg j1 hrg hv;refine⟨fun _ _=>trivial, ?_⟩;have hrun:=qwh (P:=P) (o:=o) (w:=w) ho hfv (by rw[show xs.map a.eval=(xs.toList.map a.eval).toArray from zcw (by simp)];exact hy1);have e:Oper.semAt Fence.wide.round a.eval o=execOp a.eval o:=rfl;rw[e,hrun,Oper.uponIn_round];refine⟨fun h=>by simp[Fence.wide] at h,hy2.mono ?_⟩;rintro e W' ⟨b,B',bl',I0',rfl,hg',hI'⟩;have hlt:dd<E.nt:=by rwa [zb9] at hc1
  have hI2:=hI'.put (d:=o.dst) (v:=.cl (.bool b)) (x:=.bool b) (fun t ht=>by rw[hdst] at ht;cases ht;exact hlt) (.cl _ _ (.bool b));rw[hdst] at hI2 ⊢
  cases b with
  | true=>exact hK rt _ _ _ _ _ _ _ ht hh2 hg' ⟨_,_,hI2⟩
  | false=>exact hK rf _ _ _ _ _ _ _ hf hh1 hg' ⟨_,_,hI2⟩
 ·cases h1
theorem q2n(hE: ∀g,Sound P E.glob g (ctr E g))(hrg:E.rg=false)(hc:Caller P E.yn Z J Jx){ops:Array Oper}{i:Nat}{σ:St}{k:Ex->St->Option Out}{r:Out}{rest:Option (List (List CV))}{id:Nat}(h:xbou P E ops i σ k=some r)(hh:Hands r rest)(hg:Gh Z J Jx rest B bl I0)(hO:On E B bl I0 σ a w):(Code.region id ops false).wpIn Fence.wide 0 P (qhu E Z J Jx k) a w:=by
 unfold xbou at h;split at h
 ·rename_i o post hdrop;split at h
  ·rename_i d xs ts dd ho hdst hgd;refine wpIn_region_list ?_;have hsplit:ops.toList=ops.toList.take i++(o::post):=by rw[<- hdrop,List.take_append_drop]
   rw[hsplit];refine qfg (Q':=Lands E B bl I0 (fun ex σ'=>match ex with
    | .normal=>xbea P E ops d dd ts.toList (xs.toList.map (opd E σ'.slots)) post σ' k
    | e=>k e σ') r) qo8 (fun c a w hq=> ?_) (fun a1 w1 hq=> ?_) _ _ _ (qdb hE (fun _ _ _ h=>h) _ _ _ _ h hO)
   ·obtain⟨ex,σ',Im',ρ',h1,h2,h3⟩:=hq
    cases ex with
    | pan c=>exact⟨_,σ',r,rest,B,bl,I0,Im',ρ',h1,hh,hg,h2,h3⟩
    | _=>exact h3.elim
   ·obtain⟨ex,σ',Im',ρ',h1,h2,h3⟩:=hq;cases ex<;>first|exact h3.elim|skip
    refine wpListIn_plain hgd fun K hK=>q5i hrg hc h1 hh hg h2 ho hdst fun rr rest' B' bl' I0' σ2 a2 w2 h4 h5 h6 h7=>hK _ _ ?_;have:=qfg (P:=P) (ops:=ops) (Q':=Lands E B' bl' I0' k rr) (Q:=qhu E Z J Jx k) (rest:=[]) qo8 (fun c a w hq=>qhu.of h5 h6 hq) (fun a w hq=>qhu.of h5 h6 hq) post _ _ (qdb hE (fun _ _ _ h=>h) post _ _ _ h4 h7);rwa [za9] at this
  ·cases h
 ·cases h
def q7z(P:Program)(E:Env)(Z:Nat->Prop)(J:JT)(Jx:JX):Prop:= ∀(id:Nat) (ops:Array Oper) (i:Nat) (σ:St) (k:Ex->St->Option Out) (r:Out) (rest:Option (List (List CV))) (B:Base) (bl I0:Nat->Prop) (a:Act) (w:World),
 q9f ops (Region.before ops)=true->xbem σ.slots σ.heap (ops.toList.flatMap (makes E))=true->xbln P E ops i σ k=some r->Hands r rest->Gh Z J Jx rest B bl I0->On E B bl I0 σ a w->(Code.region id ops true).wpIn Fence.wide 0 P (qhu E Z J Jx k) a w
theorem xbzd{c:Code}{b:St->(Ex->St->Option Out)->Option Out}{hd:St->St}{Q:Exit->Act->World->Prop}{k:Ex->St->Option Out}(hQ: ∀e a w,qhu E Z J Jx k e a w->Q e a w)(hb: ∀(k':Ex->St->Option Out) (Q':Exit->Act->World->Prop) (r:Out) (rest:Option (List (List CV))) (B:Base) (bl I0:Nat->Prop) (σ:St) (a:Act) (w:World),(∀e a w,qhu E Z J Jx k' e a w->Q' e a w)->b σ k'=some r->Hands r rest->Gh Z J Jx rest B bl I0->On E B bl I0 σ a w->c.wpIn Fence.wide 0 P Q' a w)(hh: ∀B bl I0 σ a w,On E B bl I0 σ a w->On E B bl I0 (hd σ) a w): ∀(n:Nat) (r:Out) (rest:Option (List (List CV))) (B:Base) (bl I0:Nat->Prop) (σ:St) (a:Act) (w:World),qxt n b hd σ k=some r->Hands r rest->Gh Z J Jx rest B bl I0->On E B bl I0 σ a w->Code.roundsIn Fence.wide 0 P c Q n a w
 | 0,r,rest,B,bl,I0,σ,a,w,h,_,_,_=>by cases h
 | n+1,r,rest,B,bl,I0,σ,a,w,h,hn,hg,hO=>by
  simp only[qxt] at h;rw[roundsIn_succ];refine hb _ _ r rest B bl I0 σ a w (fun e a w hl=> ?_) h hn hg hO;obtain⟨ex,σ',r',rest',B',bl',I0',Im,ρ,h1,hn',hg',h2,h3⟩:=hl
  cases ex with
  | normal=>
   cases e<;>first|exact h3.elim|skip
   exact xbzd hQ hb hh n r' rest' B' bl' I0' _ _ _ h1 hn' hg' (hh _ _ _ _ _ _ ⟨Im,ρ,h2⟩)
  | exit i=>
   cases e<;>first|exact h3.elim|skip
   exact hQ _ _ _ ⟨_,σ',r',rest',B',bl',I0',Im,ρ,h1,hn',hg',h2,h3⟩
  | ret=>
   cases e<;>first|exact h3.elim|skip
   exact hQ _ _ _ ⟨_,σ',r',rest',B',bl',I0',Im,ρ,h1,hn',hg',h2,h3⟩
  | pan c=>
   cases e<;>first|exact h3.elim|skip
   exact hQ _ _ _ ⟨_,σ',r',rest',B',bl',I0',Im,ρ,h1,hn',hg',h2,h3⟩
theorem q3v{rid:Nat}{k:Ex->St->Option Out}{Q:Exit->Act->World->Prop}(hQ: ∀e a w,qhu E Z J Jx k e a w->Q e a w): ∀e a w,qhu E Z J Jx (kt E rid k) e a w->Q e a w:=fun e a w ⟨ex,σ,r,rest,B,bl,I0,Im,ρ,h1,hn,hg,h2,h3⟩=>by
 cases ex with
 | normal=>
  obtain⟨Im',ρ',h2'⟩:=On.tx (l:=E.xl (rid+1000)) ⟨Im,ρ,h2⟩;refine hQ _ _ _ ⟨.normal,_,r,rest,B,bl,I0,Im',ρ',h1,hn,hg,h2', ?_⟩;cases e<;>exact h3
 | _=>exact hQ _ _ _ ⟨_,σ,r,rest,B,bl,I0,Im,ρ,h1,hn,hg,h2,h3⟩
theorem q6m(hE: ∀g,Sound P E.glob g (ctr E g))(hdraw:q7y P E)(hdy:q7z P E Z J Jx)(hrg:E.rg=false)(hc:Caller P E.yn Z J Jx)(N:Nat): ∀(c:Code),qbj P E N c->∀(k:Ex->St->Option Out) (Q:Exit->Act->World->Prop) (r:Out) (rest:Option (List (List CV))) (B:Base) (bl I0:Nat->Prop) (σ:St) (a:Act) (w:World),(∀e a w,qhu E Z J Jx k e a w->Q e a w)->
  qcx P E N c σ k=some r->Hands r rest->Gh Z J Jx rest B bl I0->On E B bl I0 σ a w->c.wpIn Fence.wide 0 P Q a w:=by
 intro c
 induction c with
 | skip=>
  intro hlo k Q r rest B bl I0 σ a w hQ h hn hg ⟨Im,ρ,hI⟩;exact wpIn_skip (hQ _ _ _ ⟨.normal,σ,r,rest,B,bl,I0,Im,ρ,h,hn,hg,hI,trivial⟩)
 | region id ops draw=>
  intro hlo k Q r rest B bl I0 σ a w hQ h hn hg hO;simp only[qcx] at h
  cases draw with
  | true=>
   simp only[cond_true] at h;replace h:=qaa h;have h1:=h.1;simp only[zab] at h1;have h2:=h.2;split at h2
   ·exact Go.wpIn_mono (hdy id ops _ _ k r rest B bl I0 a w h1.1 h1.2 h2 hn hg (On.prep _ hO)) hQ
   ·exact wpIn_wide.2 (hdraw Out B bl I0 id ops Q k r _ a w (fun e a w hl=>hQ e a w (qhu.of hn hg hl)) h1.1 h1.2 h2 (On.prep _ hO))
  | false=>
   simp only[cond_false] at h;split at h
   ·exact Go.wpIn_mono (q2n hE hrg hc h hn hg (On.prep _ hO)) hQ
   ·exact wpIn_wide.2 (wp_region_list (qdb hE (fun e a w hl=>hQ e a w (qhu.of hn hg hl)) _ _ _ _ h (On.prep _ hO)))
 | seq x y ihx ihy=>
  intro hlo k Q r rest B bl I0 σ a w hQ h hn hg hO;simp only[qcx] at h;refine wpIn_seq (ihx hlo.1 _ _ r rest B bl I0 σ a w (fun e a w hl=> ?_) h hn hg hO);obtain⟨ex,σ',r',rest',B',bl',I0',Im,ρ,h1,hn',hg',h2,h3⟩:=hl
  cases ex with
  | normal=>
   cases e<;>first|exact h3.elim|skip
   simp only at h1;split at h1
   ·rename_i L hL;exact ihy hlo.2.1 _ Q r' rest' B' bl' I0' _ a w (q3v hQ) (hlo.2.2 L hL _ _ _ h1) hn' hg' (On.head (σ:=σ') ⟨Im,ρ,h2⟩ _)
   ·exact ihy hlo.2.1 k Q r' rest' B' bl' I0' σ' a w hQ h1 hn' hg' ⟨Im,ρ,h2⟩
  | exit i=>
   cases e<;>first|exact h3.elim|skip
   exact hQ _ _ _ ⟨_,σ',r',rest',B',bl',I0',Im,ρ,h1,hn',hg',h2,h3⟩
  | ret=>
   cases e<;>first|exact h3.elim|skip
   exact hQ _ _ _ ⟨_,σ',r',rest',B',bl',I0',Im,ρ,h1,hn',hg',h2,h3⟩
  | pan c=>
   cases e<;>first|exact h3.elim|skip
   exact hQ _ _ _ ⟨_,σ',r',rest',B',bl',I0',Im,ρ,h1,hn',hg',h2,h3⟩
 | cond x c d ihc ihd=>
  intro hlo k Q r rest B bl I0 σ a w hQ h hn hg ⟨Im,ρ,hI⟩;simp only[qcx] at h;split at h
  ·rename_i t;obtain⟨b,s',h1,h2,h3⟩:=qga h hI;refine wpIn_cond (t:=b) h3 ?_
   cases b with
   | true=>exact ihc hlo.1 k Q r rest B bl I0 _ a w hQ h1 hn hg ⟨Im,ρ,h2⟩
   | false=>
    simp only at h1;split at h1
    ·rename_i L hL;exact ihd hlo.2.1 _ Q r rest B bl I0 _ a w (q3v hQ) (hlo.2.2 L hL _ _ _ h1) hn hg (On.head (σ:=⟨s',σ.heap⟩) ⟨Im,ρ,h2⟩ _)
    ·exact ihd hlo.2.1 k Q r rest B bl I0 _ a w hQ h1 hn hg ⟨Im,ρ,h2⟩
  ·exact wpIn_cond (t:=true) rfl (ihc hlo.1 k Q r rest B bl I0 _ a w hQ h hn hg ⟨Im,ρ,hI⟩)
  ·exact wpIn_cond (t:=false) rfl (ihd hlo.2.1 k Q r rest B bl I0 _ a w hQ h hn hg ⟨Im,ρ,hI⟩)
  ·cases h
 | block id c ih=>
  intro hlo k Q r rest B bl I0 σ a w hQ h hn hg hO;simp only[qcx] at h;refine wpIn_block (ih hlo _ _ r rest B bl I0 σ a w (fun e a w hl=> ?_) h hn hg hO);obtain⟨ex,σ',r',rest',B',bl',I0',Im,ρ,h1,hn',hg',h2,h3⟩:=hl
  cases ex with
  | normal=>
   cases e<;>first|exact h3.elim|skip
   exact hQ _ _ _ ⟨_,σ',r',rest',B',bl',I0',Im,ρ,h1,hn',hg',h2,h3⟩
  | exit i=>
   cases e<;>first|exact h3.elim|skip
   rename_i i';have h3:i=i':=h3;subst h3;show if i=id then Q .normal a w else Q (.exit i) a w
   cases hb:Nat.beq i id with
   | true=>
    simp only[hb,cond_true] at h1;rw[if_pos (qag.1 hb)];exact hQ _ _ _ ⟨.normal,σ',r',rest',B',bl',I0',Im,ρ,h1,hn',hg',h2,trivial⟩
   | false=>
    simp only[hb,cond_false] at h1;rw[if_neg (qa7 hb)];exact hQ _ _ _ ⟨.exit i,σ',r',rest',B',bl',I0',Im,ρ,h1,hn',hg',h2,rfl⟩
  | ret=>
   cases e<;>first|exact h3.elim|skip
   exact hQ _ _ _ ⟨_,σ',r',rest',B',bl',I0',Im,ρ,h1,hn',hg',h2,h3⟩
  | pan c=>
   cases e<;>first|exact h3.elim|skip
   exact hQ _ _ _ ⟨_,σ',r',rest',B',bl',I0',Im,ρ,h1,hn',hg',h2,h3⟩
 | loop c ih=>
  intro hlo k Q r rest B bl I0 σ a w hQ h hn hg hO;simp only[qcx] at h;have key: ∀n σ',qxt n (qcx P E N c) (head E (qae c)) σ' k=some r->On E B bl I0 σ' a w->(Code.loop c).wpIn Fence.wide 0 P Q a w:=fun n σ' h hO=>
   wpIn_loop_rounds n (xbzd hQ (fun k' Q' r rest B bl I0 σ a w hq hb hn hg hO=>ih hlo.1 k' Q' r rest B bl I0 σ a w hq hb hn hg hO) (fun _ _ _ σ a w h=>h.head _) n r rest B bl I0 _ a w h hn hg hO)
  split at h
  ·rename_i L hL;obtain⟨n,hn'⟩:=hlo.2 L hL _ _ _ h;exact key n _ hn' (hO.head _)
  ·exact key N _ h (hO.head _)
 | exit id=>
  intro hlo k Q r rest B bl I0 σ a w hQ h hn hg hO;obtain⟨Im,ρ,hI⟩:=On.tx (l:=E.xl (id+1)) hO;exact wpIn_exit (hQ _ _ _ ⟨.exit id,_,r,rest,B,bl,I0,Im,ρ,h,hn,hg,hI,rfl⟩)
 | ret=>
  intro hlo k Q r rest B bl I0 σ a w hQ h hn hg hO;obtain⟨Im,ρ,hI⟩:=On.tx (l:=E.xl 0) hO;exact wpIn_ret (hQ _ _ _ ⟨.ret,_,r,rest,B,bl,I0,Im,ρ,h,hn,hg,hI,trivial⟩)
 | rangeFunc g ps assign body=>
  intro hlo k Q r rest B bl I0 σ a w hQ h hn hg _;simp only[qcx,hrg,Bool.not_false,cond_true] at h;cases h
 | _=>intro hlo k Q r rest B bl I0 σ a w hQ h _ _ _;simp[qcx] at h
theorem xbcq{glob:Nat->Option CV}{gf:FuncId}{fn:Func}{N:Nat}{as:List V}{obs:List Obj}{xs:List (List CV)}(Ey:Nat->Env)(hE: ∀l g,Sound P (Ey l).glob g (ctr (Ey l) g))(hdraw: ∀l,q7y P (Ey l))(hdy: ∀l Z J Jx,Caller P (Ey l).yn Z J Jx->q7z P (Ey l) Z J Jx)(hgl: ∀l,(Ey l).glob=glob)(hrg: ∀l,(Ey l).rg=false)(hyn: ∀l,(Ey l).yn=l)(hf:P.funcs[gf]? =some fn)(hb:fn.body.isSome=true)(hlo: ∀l c,fn.body=some c->qbj P (Ey l) N c)(hnt: ∀l,(Ey l).nt=fn.ntmps)(hlen:as.length<fn.ntmps)(hres:fn.results= #[])(hS: ∀l, ∃out,qoa P (Ey l) N false fn (.cl (.fn (.yield l) [] [])::as) obs=some out/\Hands out (some xs)):xbu0 P glob gf as obs xs:=by
 intro w Im ρ bl vs hpre l J Jx hJ hJx hb1 hb2 hy O C h0 hC hO;obtain⟨out,hbody,hn⟩:=hS l;obtain⟨c,hc⟩:=zbn.1 hb;have hcl:Caller P (Ey l).yn (fun b=>Im b\/bl b\/w.heap.size<=b) J Jx:=by rw[hyn];exact⟨hJ,hJx,hb1,hb2,hy⟩
 refine callsIn_of_wp_marks hf hc trivial ?_ rfl;have hvl:vs.length=as.length:=hpre.reps.1;have hOn:On (Ey l) ⟨w,fun j=>(qaj (heap0 0 obs) j).map fun o=>(shp o,ρ j),[]⟩ bl Im ⟨slots0 0 (.cl (.fn (.yield l) [] [])::as),heap0 0 obs⟩ {tmps:=(#[Value.func (.yield l) #[] #[]]++vs.toArray)++Array.replicate (fn.ntmps - (#[Value.func (.yield l) #[] #[]]++vs.toArray).size) undef,defers:=[]} w:=by
  refine⟨Im,ρ,hpre.gam,Fr.refl w bl,fun t=> ?_,by simp[hnt];omega,⟨[],rfl,by simp,by simp,fun _=>rfl⟩,by rw[hgl];exact hpre.gl,fun j o hj hg=> ?_⟩
  ·show VRep w Im ρ (shOf (heap0 0 obs)) (getV (slots0 0 (.cl (.fn (.yield l) [] [])::as)) t) _;rw[qm5,if_pos (by omega),zcv]
   cases t with
   | zero=>
    have:((#[Value.func (.yield l) #[] #[]]++vs.toArray)++Array.replicate (fn.ntmps - (#[Value.func (.yield l) #[] #[]]++vs.toArray).size) undef).getD 0 undef=Value.func (.yield l) #[] #[]:=by rw[zaz,zcn (by simp),zcn (by simp)];rfl
    rw[this];exact .cl _ _ (.fn (.yield l) [] [] [] [] rfl rfl (by simp) (by simp))
   | succ t=>
    rw[za3]
    cases ha:as[t]? with
    | none=>exact .undef _
    | some v=>
     have hlt:t<vs.length:=by have:=(zad.1 ha).1;omega
     have hv:=hpre.reps.2 t v _ ha (zae hlt);have:((#[Value.func (.yield l) #[] #[]]++vs.toArray)++Array.replicate (fn.ntmps - (#[Value.func (.yield l) #[] #[]]++vs.toArray).size) undef).getD (t+1) undef=vs[t]:=by rw[zaz,zcn (by simp;omega),Array.getElem?_append_right (by simp)];simp[hlt]
     rw[this];exact hv
  ·show(qaj (heap0 0 obs) j).map _=_;have hg:qaj (heap0 0 obs) j=some o:=hg;rw[hg];rfl
 unfold qoa at hbody;rw[hc] at hbody;refine q6m (hE l) (hdraw l) (hdy l _ _ _ hcl) (hrg l) hcl N c (hlo l c hc) _ _ out (some xs) ⟨w,_,[]⟩ bl Im _ _ _ (fun e a' w' hl=> ?_) hbody hn ⟨O,C,h0,fun b hb ho=>hO b ho hb,fun b hb hm=>(hC b hb).1 hm,rfl,fun b hb=>hb⟩ hOn;obtain⟨ex,σ',r',rest',B',bl',I0',Im',ρ',h1,hn',⟨O',C',g1,g2,g3,hdfB,_⟩,h2,h3⟩:=hl;have fin: ∀(k1:finish P false fn obs.length σ'=some r'),LeavesInM Fence.wide 0 P fn a'.tmps (fun e W'=>(∃v,e=.returned v)/\∃O' C',J [] O' C' W'\/Jx O' C' W') a'.defers .returning w':=fun k1=>by
  have hret: ∃rs objs,r'=.ret rs objs:=by
   unfold finish at k1;split at k1
   ·cases k1
   ·simp only[cond_false] at k1;replace k1:=qaa k1;obtain⟨_,k1⟩:=k1;split at k1
    ·exact⟨_,_,(zc0 k1).symm⟩
    ·cases k1
  obtain⟨rs,objs,rfl⟩:=hret;refine qqj hdfB h2 fun w1 a1 ht hI1=>⟨wrap [],qs9 (us:=[]) (by rw[hres];rfl),⟨_,rfl⟩,O',C', ?_⟩;have hp:=g1.s hcl hI1.fr g2;rcases hn' with rfl|rfl
  ·exact .inl hp
  ·exact .inr hp
 cases ex with
 | normal=>
  cases e<;>first|exact h3.elim|skip
  exact fin h1
 | ret=>
  cases e<;>first|exact h3.elim|skip
  exact fin h1
 | exit i=>cases h1
 | pan cv=>
  simp only[zaa] at h1;subst h1;cases rest'<;>exact hn'.elim
end
abbrev DSpec:=Option CV->FSpec
section
variable (P:Program) (E:Env)
structure DEnv where
 rid:Nat
 low:List (Nat×Nat)
 orc:FuncId->DSpec
 pre:FuncId->Option CV->List V->List Obj->Bool
variable (D:DEnv)
end
section
variable {P:Program} {E:Env} {w0:Base} {bl I0:Nat->Prop}
theorem an0{obs:List Obj}{ρ:Nat->Loc}: ∀j o,obs[j]? =some o->(qaj (heap0 0 obs) j).map (fun o=>(shp o,ρ j))=some (shp o,ρ j):=fun j o hj=>by rw[qez,if_pos (by omega),zcv,hj];rfl
end
end Go.Proofs.YtoiikagnjcjccaaGreatDoorA
