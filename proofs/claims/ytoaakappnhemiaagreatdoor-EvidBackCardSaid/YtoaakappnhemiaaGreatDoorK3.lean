/-
 A stretch in which an object was lent, and after which it is changed again. Conditions: none.
-/
import Derived.Test.YtoaakappnhemiaaGreatDoorK2b
import Derived.Orders
import Derived.OrdersIn
import Derived.KernelRfl
import Derived.IntWalk
import Derived.WalkKit
import Derived.ProofKit
import Derived.OpenShut
import Derived.ChangeMaps5
set_option linter.unusedVariables false
set_option linter.unusedSimpArgs false
set_option maxRecDepth 100000
set_option linter.defProp false
namespace Go.Proofs.YtoaakappnhemiaaGreatDoorA
variable {P:Program}{E:Env}{w0:Base}{bl I0 Im:NP}{s:LS}{H H':Heap}{a:Act}{w:World}{ρ:NL}{α:Type}{t:TypeId}{p pos i:Nat}{ops:Array Oper}{o:Oper}{Q:EP}{fn:Func}{bef:Array Nat}{x:V}{fps:List (Nat×List Nat×List Nat)}{g:FuncId}
def nrm(k:KT)(f:St->OO):KT:=fun ex σ=>match ex with|.normal=>f σ|e=>k e σ
def only(f:St->OO):KT:=fun ex σ=>match ex with|.normal=>f σ|_=>none
section
variable {P:Program} {E:Env} {w0:Base} {bl I0:NP} {N:Nat} {r:Out}
def xbgj(h:Inv E w0 bl I0 s H a w Im ρ){q:Nat}{L:LI}{ce:LC}{bw base lim:Nat}(hp:qal H p=some ⟨.ints .u8 L,false⟩)(hq:qal H q=some ⟨.var (ce.map .cl),false⟩)(hqp:q≠p)(hr:ρ p=some (bw,base,lim)){s':LS}(hs: ∀t,VRep w (fun b=>Im b\/b=bw) ρ (shOf [(q,⟨.var (ce.map .cl),false⟩)]) (getV s' t) (a.tmps.getD t undef)):
  Inv E ⟨w,fun j=>(qal [(q,(⟨.var (ce.map .cl),false⟩:Obj))] j).map fun o=>(shp o,ρ j),a.defers⟩ (fun b=> ∃x y,ρ q=some (b,x,y)) (fun b=>Im b\/b=bw) s' [(q,⟨.var (ce.map .cl),false⟩)] a w (fun b=>Im b\/b=bw) ρ:=by
 obtain⟨k1,k2,k3⟩:=h.gam.lk p _ bw base lim hp hr;have hk3:=k3 rfl;have one: ∀x u,qal [(q,(⟨.var (ce.map .cl),false⟩:Obj))] x=some u->x=q/\u=⟨.var (ce.map .cl),false⟩:=fun x u hx=>by
  simp only[qal] at hx
  cases hb:Nat.beq q x with
  | true=>rw[hb] at hx;simp only[cond_true,zaa] at hx;exact⟨(qag.1 hb).symm,hx.symm⟩
  | false=>rw[hb] at hx;cases hx
 refine⟨⟨fun b hb=> ?_,fun _ hb=>hb,fun x u hx=> ?_,fun x y u u' b m n m' n' hx hy hrx hry hne=> ?_,fun x u b m n hx hrx=> ?_,fun b hb=>.inl hb⟩,Fr.refl _ _,hs,h.nt,⟨[],by simp,by simp,by simp,fun _=>rfl⟩,
  fun g c hg=>(h.gl g c hg).keep (fun _ _=>rfl) fun _ hb=>.inl hb,fun j u hj hg=> ?_⟩
 ·rcases hb with hb|rfl
  ·exact h.gam.im b hb
  ·exact k1
 ·obtain⟨rfl,rfl⟩:=one x u hx;refine ORep.congr (h.gam.ob x _ hq) (fun _ _ _ _=>rfl) fun j c y hj hy=> ?_;simp only[qai,zah] at hj
  cases hd:ce[j]? with
  | none=>rw[hd] at hj;cases hj
  | some d=>
   rw[hd] at hj;simp only[zao,zaa] at hj;subst hj;exact .cl _ _ (hy.closed.keep (fun _ _=>rfl) fun _ hb=>.inl hb)
 ·exact absurd ((one x u hx).1.trans (one y u' hy).1.symm) hne
 ·obtain⟨rfl,rfl⟩:=one x u hx;obtain⟨m1,m2,m3⟩:=h.gam.lk x _ b m n hq hrx;refine⟨m1,(fun(hl:false=true)=>by cases hl),fun _=>⟨fun hb=> ?_,.inl ⟨m,n,hrx⟩⟩⟩;rcases hb with hb|rfl
  ·exact(m3 rfl).1 hb
  ·have:=(h.gam.dj x p _ _ b m n base lim hq hp hrx hr hqp).1;cases this
 ·show(qal [(q,(⟨.var (ce.map .cl),false⟩:Obj))] j).map _=_;rw[hg];rfl
def xbtn(h:Inv E w0 bl I0 s H a w Im ρ){q:Nat}{L:LI}{ce:LC}{bw base lim:Nat}{an:Nat->Option (Sh×Loc)}(hp:qal H p=some ⟨.ints .u8 L,false⟩)(hq:qal H q=some ⟨.var (ce.map .cl),false⟩)(hqp:q≠p)(h32:32<=p)(hr:ρ p=some (bw,base,lim)){s2 s3:LS}{H2:Heap}{a2:Act}{w2:World}{Im2:NP}{ρ2:NL}(hrg:E.rg=false)(h2:Inv E ⟨w,an,a.defers⟩ (fun b=> ∃x y,ρ q=some (b,x,y)) (fun b=>Im b\/b=bw) s2 H2 a2 w2 Im2 ρ2)(hs:Keep (fun b=>Im b\/b=bw) w w2->∀t,VRep w2 Im ρ (shOf [(p,⟨.ints .u8 L,false⟩)]) (getV s3 t) (a2.tmps.getD t undef)):
  Inv E w0 bl I0 s3 [(p,⟨.ints .u8 L,false⟩)] a2 w2 Im ρ:=by
 obtain⟨k1,k2,k3⟩:=h.gam.lk p _ bw base lim hp hr;have hk3:=k3 rfl;have one: ∀x u,qal [(p,(⟨.ints .u8 L,false⟩:Obj))] x=some u->x=p/\u=⟨.ints .u8 L,false⟩:=fun x u hx=>by
  simp only[qal] at hx
  cases hb:Nat.beq p x with
  | true=>rw[hb] at hx;simp only[cond_true,zaa] at hx;exact⟨(qag.1 hb).symm,hx.symm⟩
  | false=>rw[hb] at hx;cases hx
 have hK:Keep (fun b=>Im b\/b=bw) w w2:=fun b hb=>by
  refine h2.fr.block b ?_ fun⟨x,y,hb2⟩=> ?_
  ·show b<w.heap.size;rcases hb with hb|rfl
   ·exact h.gam.im b hb
   ·exact k1
  ·rcases hb with hb|rfl
   ·exact((h.gam.lk q _ b x y hq hb2).2.2 rfl).1 hb
   ·have:=(h.gam.dj q p _ _ b x y base lim hq hp hb2 hr hqp).1;cases this
 have hK1:Keep Im w w2:=fun b hb=>hK b (.inl hb);refine⟨⟨fun b hb=>za5 (h.gam.im b hb) h2.fr.size,h.gam.i0,fun x u hx=> ?_,fun x y u u' b m n m' n' hx hy hrx hry hne=> ?_,fun x u b m n hx hrx=> ?_,h.gam.imo⟩,
  h.fr.trans h2.fr fun b ⟨x,y,hb⟩=>((h.gam.lk q _ b x y hq hb).2.2 rfl).2,hs hK,h2.nt, ?_,fun g c hg=>(h.gl g c hg).keep hK1 fun _ hb=>hb,fun j u hj hg=> ?_⟩
 ·obtain⟨rfl,rfl⟩:=one x u hx;refine ORep.congr (h.gam.ob x _ hp) (fun b x y hb=>hK b (.inr ?_)) fun j c y hj hy=> ?_
  ·rw[hr] at hb;simp only[zaa,zaz] at hb;exact hb.1.symm
  ·simp only[qai,zah] at hj
   cases hd:L[j]? with
   | none=>rw[hd] at hj;cases hj
   | some d=>
    rw[hd] at hj;simp only[zao,zaa] at hj;subst hj;exact .cl _ _ (hy.closed.keep hK1 fun _ hb=>hb)
 ·exact absurd ((one x u hx).1.trans (one y u' hy).1.symm) hne
 ·obtain⟨rfl,rfl⟩:=one x u hx;rw[hr] at hrx;simp only[zaa,zaz] at hrx;obtain⟨rfl,_,_⟩:=hrx;exact⟨za5 k1 h2.fr.size,(fun(hl:false=true)=>by cases hl),fun _=>hk3⟩
 ·obtain⟨Ds,d1,_,_,d2⟩:=h2.df;have d2:=d2 hrg;subst d2;obtain⟨Ds,e1,_,_,e2⟩:=h.df;have e2:=e2 hrg;subst e2;exact⟨[],by rw[d1];simpa using e1,by simp,by simp,fun _=>rfl⟩
 ·have:=(one j u hg).1;omega
def xbgi(hE: ∀g,Sound P E.glob g (ctr E g))(hsq:qdp P E)(hyl:E.yl=fun _=>none)(hdraw:qxa P E)(hrg:E.rg=false){c5 c6 c8:Code}(l5:qbf P E N c5)(l6:qbf P E N c6)(l8:qbf P E N c8){k:KT}{σ:St}(hQ: ∀e a w,Lands E w0 bl I0 k r e a w->Q e a w)(hO:On E w0 bl I0 σ a w){q t1 t2 t5 t6:Nat}{L b1:LI}{n6:Int}{ce:LC}(hp:qal σ.heap p=some ⟨.ints .u8 L,false⟩)(hq:qal σ.heap q=some ⟨.var (ce.map .cl),false⟩)(hqp:q≠p)(h32:32<=p)(hL:L≠[])(h1:getV σ.slots t1=.cl (.sli .u8 b1))(h2:getV σ.slots t2=.ptr q 0 0)(h5:getV σ.slots t5=.ref p 0 L.length true 1)(h6:getV σ.slots t6=.cl (.int .i64 n6))(hread: ∀u1 u5,qby P E N c5 ⟨[(t1,.cl (.is (.sli .u8 b1) u1)),(t2,.ptr q 0 0),(t5,.cl (.is (.sli .u8 L) u5)),(t6,.cl (.int .i64 n6))],[(q,⟨.var (ce.map .cl),false⟩)]⟩
   (only fun σ'=>qby P E N c6 σ' (only fun σ'=>@ite _ (getV σ'.slots t1=.cl (.is (.sli .u8 b1) u1)/\getV σ'.slots t5=.cl (.is (.sli .u8 L) u5)) (ya _)
    (qby P E N c8 ⟨[(t1,.cl (.sli .u8 b1)),(t5,.ref p 0 L.length true 1)],[(p,⟨.ints .u8 L,false⟩)]⟩ k) none))=some r):
  (Code.seq c5 (Code.seq c6 c8)).wp P Q a w:=by
 obtain⟨Im,ρ,h⟩:=hO;have v1:=h.sl t1;have v2:=h.sl t2;have v5:=h.sl t5;have v6:=h.sl t6;rw[h1] at v1;rw[h2] at v2;rw[h5] at v5;rw[h6] at v6;have hS:shOf σ.heap p=some (shp ⟨.ints .u8 L,false⟩):=by simp[shOf,hp]
 have hSq:shOf σ.heap q=some (shp ⟨.var (ce.map .cl),false⟩):=by simp[shOf,hq]
 have hO5:=h.gam.ob p _ hp;obtain⟨bw,base,lim,hr⟩: ∃bw base lim,ρ p=some (bw,base,lim):=by
  cases hr:ρ p with
  | none=>
   rw[hr] at hO5;have:L.length=0:=hO5.2.1;exact absurd (zaj this) hL
  | some x=>exact⟨x.1,x.2.1,x.2.2,rfl⟩
 obtain⟨k1,_,k3⟩:=h.gam.lk p _ bw base lim hp hr;generalize hu1:a.tmps.getD t1 undef=u1 at v1;generalize hu2:a.tmps.getD t2 undef=u2 at v2;generalize hu5:a.tmps.getD t5 undef=u5 at v5;generalize hu6:a.tmps.getD t6 undef=u6 at v6;have o1:oneC u1=true:=by cases v1.closed;rfl
 have c1:=v1.closed;have c5':oneC u5=true/\CRep w (fun b=>Im b\/b=bw) (.sli .u8 L) u5:=by
  rw[hr] at hO5;clear hread;generalize hn:L.length=n at v5
  cases v5 with
  | refN _ _ _ _ _ _ _ h0 _ _=>rw[hS] at h0;cases h0
  | refV _ s' _ _ q1 q2 q3 q4=>rw[hr] at q2;cases q2
  | ref _ _ _ _ _ s' b' base' lim' ad cap q1 q2 q3 q4 q5 q6 q7 q8=>
   rw[hr] at q2;simp only[zaa,zaz] at q2;obtain⟨rfl,rfl,rfl⟩:=q2;refine⟨rfl,.sli .u8 L (some ad) n cap hn q4 fun j n hj=>⟨ad,rfl, ?_⟩⟩;have hjl:=(zae.1 hj).1;have had:=q7 (by omega);subst had;obtain⟨v,g1,_,g3⟩:=hO5.2.2.2.2 j (.cl (.int .u8 n)) (by simp[qai,hj]);refine⟨.inr rfl, ?_⟩;have:v=.int .u8 n:=by cases g3.closed;rfl
   rw[<- this, <- g1,qfh,zc9,Nat.add_zero]
 have hslots: ∀t,VRep w (fun b=>Im b\/b=bw) ρ (shOf [(q,⟨.var (ce.map .cl),false⟩)]) (getV [(t1,.cl (.is (.sli .u8 b1) u1)),(t2,.ptr q 0 0),(t5,.cl (.is (.sli .u8 L) u5)),(t6,.cl (.int .i64 n6))] t) (a.tmps.getD t undef):=fun t=>by
  have hSq':shOf [(q,(⟨.var (ce.map .cl),false⟩:Obj))] q=some (shp ⟨.var (ce.map .cl),false⟩):=by simp[shOf,qal,za7]
  unfold getV;simp only[qal]
  cases e1:Nat.beq t1 t with
  | true=>obtain rfl:=qag.1 e1;rw[hu1];exact .cl _ _ (.is _ _ o1 (c1.keep (fun _ _=>rfl) fun _ hb=>.inl hb))
  | false=>
  cases e2:Nat.beq t2 t with
  | true=>
   obtain rfl:=qag.1 e2;rw[hu2]
   cases v2 with
   | ptrN _ _ _ _ h0=>rw[hSq] at h0;cases h0
   | ptr _ _ _ s' b' base' lim' q1 q2 q3=>
    rw[hSq] at q1;simp only[zaa] at q1;subst q1;exact .ptr _ _ _ _ b' base' lim' hSq' q2 q3
  | false=>
  cases e5:Nat.beq t5 t with
  | true=>obtain rfl:=qag.1 e5;rw[hu5];exact .cl _ _ (.is _ _ c5'.1 c5'.2)
  | false=>
  cases e6:Nat.beq t6 t with
  | true=>obtain rfl:=qag.1 e6;rw[hu6];exact .cl _ _ (v6.closed.keep (fun _ _=>rfl) fun _ hb=>.inl hb)
  | false=>exact .undef _
 have hst:=xbgj h hp hq hqp hr (s':=[(t1,.cl (.is (.sli .u8 b1) u1)),(t2,.ptr q 0 0),(t5,.cl (.is (.sli .u8 L) u5)),(t6,.cl (.int .i64 n6))]) hslots;refine wp_seq (qeu hE hsq hyl hdraw N c5 l5 _ _ _ a w (fun e a w hl=> ?_) (hread u1 u5) ⟨_,_,hst⟩);obtain⟨ex,σ',Im',ρ',g1,g2,g3⟩:=hl
 cases ex with
 | normal=>
  cases e<;>first|exact g3.elim|skip
  refine wp_seq (qeu hE hsq hyl hdraw N c6 l6 _ _ _ _ _ (fun e a w hl=> ?_) g1 ⟨_,_,g2⟩);obtain⟨ex,σ2,Im2,ρ2,g4,g5,g6⟩:=hl
  cases ex with
  | normal=>
   cases e<;>first|exact g6.elim|skip
   simp only[only] at g4;split at g4
   ·rename_i hc;have s1:=g5.sl t1;have s5:=g5.sl t5;rw[hc.1] at s1;rw[hc.2] at s5;refine qeu hE hsq hyl hdraw N c8 l8 _ _ _ _ _ hQ g4 ⟨_,_,xbtn h hp hq hqp h32 hr hrg g5 (fun hK t=> ?_)⟩;unfold getV;simp only[qal]
    cases e1:Nat.beq t1 t with
    | true=>
     obtain rfl:=qag.1 e1
     cases s1.closed with
     | is _ _ _ _=>exact .cl _ _ (c1.keep (fun b hb=>hK b (.inl hb)) fun _ hb=>hb)
    | false=>
    cases e5:Nat.beq t5 t with
    | true=>
     obtain rfl:=qag.1 e5
     cases s5.closed with
     | is _ _ _ _=>
      refine v5.congr (fun b hb=>hK b (.inl hb)) (fun _ hb=>hb) fun x hx=> ?_;have:x=p:=by
       have:p=x:=by simpa [qel] using hx
       exact this.symm
      subst this;exact .inr ⟨by simp[shOf,qal,za7,hp],rfl⟩
    | false=>exact .undef _
   ·cases g4
  | _=>cases g4
 | _=>cases g1
noncomputable def spK(P:Program)(E:Env)(N:Nat)(r0 s1 r3:Code)(t:Nat)(r4 rest:Code)(K5:St->OO)(σ:St)(k:KT):OO:=
 qby P E N r0 σ (nrm k fun σ=>qby P E N s1 σ (nrm k fun σ=>qby P E N r3 σ (nrm k fun σ=>decK σ.slots t fun b s=>match b with|true=>qby P E N r4 ⟨s,σ.heap⟩ (nrm k K5)|false=>qby P E N rest ⟨s,σ.heap⟩ k)))
def xbb2(hE: ∀g,Sound P E.glob g (ctr E g))(hsq:qdp P E)(hyl:E.yl=fun _=>none)(hdraw:qxa P E){r0 s1 r3 r4 b5 rest:Code}{t:Nat}(l0:qbf P E N r0)(l1:qbf P E N s1)(l3:qbf P E N r3)(l4:qbf P E N r4)(lr:qbf P E N rest){K5:St->OO}{k:KT}(hQ: ∀e a w,Lands E w0 bl I0 k r e a w->Q e a w)(h5: ∀σ a w,K5 σ=some r->On E w0 bl I0 σ a w->∀Q',(∀e a w,Lands E w0 bl I0 (nrm k fun σ=>qby P E N rest σ k) r e a w->Q' e a w)->b5.wp P Q' a w){σ:St}(h:spK P E N r0 s1 r3 t r4 rest K5 σ k=some r)(hO:On E w0 bl I0 σ a w):(Code.seq r0 (Code.seq s1 (Code.seq (Code.seq r3 (Code.cond (.tmp t) (Code.seq r4 b5) .skip)) rest))).wp P Q a w:=by
 have C:=fun c (hc:qbf P E N c)=>qeu (w0:=w0) (bl:=bl) (I0:=I0) (r:=r) hE hsq hyl hdraw N c hc;unfold spK at h;have oth: ∀ {f:St->OO} {R:EP},(∀e a w,e≠.normal->Q e a w->R e a w)->(∀σ a w,f σ=some r->On E w0 bl I0 σ a w->R .normal a w)->∀e a w,Lands E w0 bl I0 (nrm k f) r e a w->R e a w:=fun {f R} h1 h2 e a w ⟨ex,σ,Im,ρ,g1,g2,g3⟩=>by
  cases ex with
  | normal=>
   cases e<;>first|exact g3.elim|skip
   exact h2 σ a w g1 ⟨Im,ρ,g2⟩
  | exit i=>cases e<;>first|exact g3.elim|exact h1 _ _ _ (by simp) (hQ _ _ _ ⟨_,σ,Im,ρ,g1,g2,g3⟩)
  | ret=>cases e<;>first|exact g3.elim|exact h1 _ _ _ (by simp) (hQ _ _ _ ⟨_,σ,Im,ρ,g1,g2,g3⟩)
  | pan c=>cases e<;>first|exact g3.elim|exact h1 _ _ _ (by simp) (hQ _ _ _ ⟨_,σ,Im,ρ,g1,g2,g3⟩)
 refine wp_seq (C r0 l0 _ _ _ _ _ (oth (fun e a w hne hq=> ?_) fun σ a w h hO=> ?_) h hO)
 ·cases e<;>first|exact absurd rfl hne|exact hq
 refine wp_seq (C s1 l1 _ _ _ _ _ (oth (fun e a w hne hq=> ?_) fun σ a w h hO=> ?_) h hO)
 ·cases e<;>first|exact absurd rfl hne|exact hq
 refine wp_seq (wp_seq (C r3 l3 _ _ _ _ _ (oth (fun e a w hne hq=> ?_) fun σ a w h hO=> ?_) h hO))
 ·cases e<;>first|exact absurd rfl hne|exact hq
 obtain⟨Im,ρ,hI⟩:=hO;obtain⟨b,s',h1,h2,h3⟩:=qgz h hI;refine wp_cond (t:=b) h3 ?_
 cases b with
 | true=>
  refine wp_seq (C r4 l4 _ _ _ _ _ (oth (fun e a w hne hq=> ?_) fun σ a w h hO=> ?_) h1 ⟨Im,ρ,h2⟩)
  ·cases e<;>first|exact absurd rfl hne|exact hq
  refine h5 σ a w h hO _ (oth (fun e a w hne hq=> ?_) fun σ a w h hO=> ?_)
  ·cases e<;>first|exact absurd rfl hne|exact hq
  ·exact C rest lr _ _ _ _ _ hQ h hO
 | false=>exact wp_skip (C rest lr _ _ _ _ _ hQ h1 ⟨Im,ρ,h2⟩)
end
section
variable {P:Program} {β:Type} {r:β}
def qc2{n:Int}{len:Nat}{k:Nat->Option β}(h:idxK n len k=some r): ∃j,k j=some r/\∀ {γ:Type} (k':Nat->Option γ),idxK n len k'=k' j:=by unfold idxK at h;replace h:=qaa h;obtain⟨h1,h⟩:=h;replace h:=qaa h;obtain⟨h2,h⟩:=h;exact⟨_,h,fun k'=>by simp only[idxK,h1,h2,cond_true]⟩
def xbpk{op:BinOp}{y:V}{k:V->Option β}(h:binK P op t x y k=some r): ∃v,k v=some r/\∀ {γ:Type} (k':V->Option γ),binK P op t x y k'=k' v:=by
 unfold binK at h
 repeat' (first|(dsimp only at h)|(split at h)|(replace h:=qaa h;obtain⟨_,h⟩:=h)|(replace h:=qa3 h;obtain⟨_,h⟩:=h)|(replace h:=qc2 h;obtain⟨_,h,_⟩:=h;try dsimp only at h)|(replace h:=qct h;rcases h with⟨_,h⟩|⟨_,h⟩))
 all_goals first|(cases h;done)|exact⟨_,h,fun k'=>by simp only[binK,idxK,cond_true,cond_false,if_true,if_false,zan, *]⟩
def xb13{op:UnOp}{k:V->Option β}(h:unK op x k=some r): ∃v,k v=some r/\∀ {γ:Type} (k':V->Option γ),unK op x k'=k' v:=by
 unfold unK at h
 repeat' (first|(dsimp only at h)|(split at h)|(replace h:=qaa h;obtain⟨_,h⟩:=h)|(replace h:=qa3 h;obtain⟨_,h⟩:=h)|(replace h:=qc2 h;obtain⟨_,h,_⟩:=h;try dsimp only at h)|(replace h:=qct h;rcases h with⟨_,h⟩|⟨_,h⟩))
 all_goals first|(cases h;done)|exact⟨_,h,fun k'=>by simp only[unK,idxK,cond_true,cond_false,if_true,if_false,zan, *]⟩
def xbpq{k:V->Option β}(h:qju x k=some r): ∃v,k v=some r/\∀ {γ:Type} (k':V->Option γ),qju x k'=k' v:=by
 unfold qju at h
 repeat' (first|(dsimp only at h)|(split at h)|(replace h:=qaa h;obtain⟨_,h⟩:=h)|(replace h:=qa3 h;obtain⟨_,h⟩:=h)|(replace h:=qc2 h;obtain⟨_,h,_⟩:=h;try dsimp only at h)|(replace h:=qct h;rcases h with⟨_,h⟩|⟨_,h⟩))
 all_goals first|(cases h;done)|exact⟨_,h,fun k'=>by simp only[qju,idxK,cond_true,cond_false,if_true,if_false,zan, *]⟩
def qzw{src dst:TypeId}{k:V->Option β}(h:xbn2 P src dst x k=some r): ∃v,k v=some r/\∀ {γ:Type} (k':V->Option γ),xbn2 P src dst x k'=k' v:=by
 unfold xbn2 at h
 repeat' (first|(dsimp only at h)|(split at h)|(replace h:=qaa h;obtain⟨_,h⟩:=h)|(replace h:=qa3 h;obtain⟨_,h⟩:=h)|(replace h:=qc2 h;obtain⟨_,h,_⟩:=h;try dsimp only at h)|(replace h:=qct h;rcases h with⟨_,h⟩|⟨_,h⟩))
 all_goals first|(cases h;done)|exact⟨_,h,fun k'=>by simp only[xbn2,idxK,cond_true,cond_false,if_true,if_false,zan, *]⟩
def xb1y{f:Nat}{k:V->Option β}(h:qg1 P t f x k=some r): ∃v,k v=some r/\∀ {γ:Type} (k':V->Option γ),qg1 P t f x k'=k' v:=by
 unfold qg1 at h
 repeat' (first|(dsimp only at h)|(split at h)|(replace h:=qaa h;obtain⟨_,h⟩:=h)|(replace h:=qa3 h;obtain⟨_,h⟩:=h)|(replace h:=qc2 h;obtain⟨_,h,_⟩:=h;try dsimp only at h)|(replace h:=qct h;rcases h with⟨_,h⟩|⟨_,h⟩))
 all_goals first|(cases h;done)|exact⟨_,h,fun k'=>by simp only[qg1,idxK,cond_true,cond_false,if_true,if_false,zan, *]⟩
def q81{f:Nat}{k:V->Option β}(h:q5k P t f x k=some r): ∃v,k v=some r/\∀ {γ:Type} (k':V->Option γ),q5k P t f x k'=k' v:=by
 unfold q5k at h
 repeat' (first|(dsimp only at h)|(split at h)|(replace h:=qaa h;obtain⟨_,h⟩:=h)|(replace h:=qa3 h;obtain⟨_,h⟩:=h)|(replace h:=qc2 h;obtain⟨_,h,_⟩:=h;try dsimp only at h)|(replace h:=qct h;rcases h with⟨_,h⟩|⟨_,h⟩))
 all_goals first|(cases h;done)|exact⟨_,h,fun k'=>by simp only[q5k,idxK,cond_true,cond_false,if_true,if_false,zan, *]⟩
def xb1z{i:V}{k:V->Option β}(h:qg2 P t x i k=some r): ∃v,k v=some r/\∀ {γ:Type} (k':V->Option γ),qg2 P t x i k'=k' v:=by
 unfold qg2 at h
 repeat' (first|(dsimp only at h)|(split at h)|(replace h:=qaa h;obtain⟨_,h⟩:=h)|(replace h:=qa3 h;obtain⟨_,h⟩:=h)|(replace h:=qc2 h;obtain⟨_,h,_⟩:=h;try dsimp only at h)|(replace h:=qct h;rcases h with⟨_,h⟩|⟨_,h⟩))
 all_goals first|(cases h;done)|exact⟨_,h,fun k'=>by simp only[qg2,idxK,cond_true,cond_false,if_true,if_false,zan, *]⟩
def q82{i:V}{k:V->Option β}(h:q5s P t x i k=some r): ∃v,k v=some r/\∀ {γ:Type} (k':V->Option γ),q5s P t x i k'=k' v:=by
 unfold q5s at h
 repeat' (first|(dsimp only at h)|(split at h)|(replace h:=qaa h;obtain⟨_,h⟩:=h)|(replace h:=qa3 h;obtain⟨_,h⟩:=h)|(replace h:=qc2 h;obtain⟨_,h,_⟩:=h;try dsimp only at h)|(replace h:=qct h;rcases h with⟨_,h⟩|⟨_,h⟩))
 all_goals first|(cases h;done)|exact⟨_,h,fun k'=>by simp only[q5s,idxK,cond_true,cond_false,if_true,if_false,zan, *]⟩
def xbpm{k:V->Option β}(h:qmz x i k=some r): ∃v,k v=some r/\∀ {γ:Type} (k':V->Option γ),qmz x i k'=k' v:=by
 unfold qmz at h
 repeat' (first|(dsimp only at h)|(split at h)|(replace h:=qaa h;obtain⟨_,h⟩:=h)|(replace h:=qa3 h;obtain⟨_,h⟩:=h)|(replace h:=qc2 h;obtain⟨_,h,_⟩:=h;try dsimp only at h)|(replace h:=qct h;rcases h with⟨_,h⟩|⟨_,h⟩))
 all_goals first|(cases h;done)|exact⟨_,h,fun k'=>by simp only[qmz,idxK,cond_true,cond_false,if_true,if_false,zan, *]⟩
def q2t{ok:Bool}{k:V->Option β}(h:qsv P t ok x k=some r): ∃v,k v=some r/\∀ {γ:Type} (k':V->Option γ),qsv P t ok x k'=k' v:=by
 unfold qsv at h
 repeat' (first|(dsimp only at h)|(split at h)|(replace h:=qaa h;obtain⟨_,h⟩:=h)|(replace h:=qa3 h;obtain⟨_,h⟩:=h)|(replace h:=qc2 h;obtain⟨_,h,_⟩:=h;try dsimp only at h)|(replace h:=qct h;rcases h with⟨_,h⟩|⟨_,h⟩))
 all_goals first|(cases h;done)|exact⟨_,h,fun k'=>by simp only[qsv,idxK,cond_true,cond_false,if_true,if_false,zan, *]⟩
def xbpn{t:Option TypeId}{l:LV}{k:V->Option β}(h:lenK P t l k=some r): ∃v,k v=some r/\∀ {γ:Type} (k':V->Option γ),lenK P t l k'=k' v:=by
 unfold lenK at h
 repeat' (first|(dsimp only at h)|(split at h)|(replace h:=qaa h;obtain⟨_,h⟩:=h)|(replace h:=qa3 h;obtain⟨_,h⟩:=h)|(replace h:=qc2 h;obtain⟨_,h,_⟩:=h;try dsimp only at h)|(replace h:=qct h;rcases h with⟨_,h⟩|⟨_,h⟩))
 all_goals first|(cases h;done)|exact⟨_,h,fun k'=>by simp only[lenK,idxK,cond_true,cond_false,if_true,if_false,zan, *]⟩
def xbpl{t:Option TypeId}{l:LV}{k:V->Option β}(h:capK P t l k=some r): ∃v,k v=some r/\∀ {γ:Type} (k':V->Option γ),capK P t l k'=k' v:=by
 unfold capK at h;split at h
 ·exact⟨_,h,fun k'=>by simp only[capK, *]⟩
 ·cases h
def xbpp{l:LV}{k:V->Option β}(h:minK l k=some r): ∃v,k v=some r/\∀ {γ:Type} (k':V->Option γ),minK l k'=k' v:=by
 unfold minK at h
 repeat' (first|(dsimp only at h)|(split at h)|(replace h:=qaa h;obtain⟨_,h⟩:=h)|(replace h:=qa3 h;obtain⟨_,h⟩:=h)|(replace h:=qc2 h;obtain⟨_,h,_⟩:=h;try dsimp only at h)|(replace h:=qct h;rcases h with⟨_,h⟩|⟨_,h⟩))
 all_goals first|(cases h;done)|exact⟨_,h,fun k'=>by simp only[minK,idxK,cond_true,cond_false,if_true,if_false,zan, *]⟩
def xbpo{l:LV}{k:V->Option β}(h:maxK l k=some r): ∃v,k v=some r/\∀ {γ:Type} (k':V->Option γ),maxK l k'=k' v:=by
 unfold maxK at h
 repeat' (first|(dsimp only at h)|(split at h)|(replace h:=qaa h;obtain⟨_,h⟩:=h)|(replace h:=qa3 h;obtain⟨_,h⟩:=h)|(replace h:=qc2 h;obtain⟨_,h,_⟩:=h;try dsimp only at h)|(replace h:=qct h;rcases h with⟨_,h⟩|⟨_,h⟩))
 all_goals first|(cases h;done)|exact⟨_,h,fun k'=>by simp only[maxK,idxK,cond_true,cond_false,if_true,if_false,zan, *]⟩
def xbhe{s:ByteArray}{lo hi:Option Int}{k:V->Option β}(h:qs8 s lo hi k=some r): ∃v,k v=some r/\∀ {γ:Type} (k':V->Option γ),qs8 s lo hi k'=k' v:=by
 unfold qs8 at h
 repeat' (first|(dsimp only at h)|(split at h)|(replace h:=qaa h;obtain⟨_,h⟩:=h)|(replace h:=qa3 h;obtain⟨_,h⟩:=h)|(replace h:=qc2 h;obtain⟨_,h,_⟩:=h;try dsimp only at h)|(replace h:=qct h;rcases h with⟨_,h⟩|⟨_,h⟩))
 all_goals first|(cases h;done)|exact⟨_,h,fun k'=>by simp only[qs8,idxK,cond_true,cond_false,if_true,if_false,zan, *]⟩
def qoh{v:V}{k:Rw->Option β}(h:qqn P t v k=some r): ∃rw,k rw=some r/\∀ {γ:Type} (k':Rw->Option γ),qqn P t v k'=k' rw:=by
 unfold qqn at h
 repeat' (first|(dsimp only at h)|(split at h)|(replace h:=qaa h;obtain⟨_,h⟩:=h)|(replace h:=qa3 h;obtain⟨_,h⟩:=h)|(replace h:=qc2 h;obtain⟨_,h,_⟩:=h;try dsimp only at h)|(replace h:=qct h;rcases h with⟨_,h⟩|⟨_,h⟩))
 all_goals first|(cases h;done)|exact⟨_,h,fun k'=>by simp only[qqn,idxK,cond_true,cond_false,if_true,if_false,zan, *]⟩
def q84{k:V->Option β}(h:qq2 P H t x k=some r): ∃v,k v=some r/\∀ {γ:Type} (k':V->Option γ),qq2 P H t x k'=k' v:=by
 unfold qq2 at h
 repeat' (first|(dsimp only at h)|(split at h)|(replace h:=qaa h;obtain⟨_,h⟩:=h)|(replace h:=qa3 h;obtain⟨_,h⟩:=h)|(replace h:=qc2 h;obtain⟨_,h,_⟩:=h;try dsimp only at h)|(replace h:=qct h;rcases h with⟨_,h⟩|⟨_,h⟩))
 all_goals first|(cases h;done)|exact⟨_,h,fun k'=>by simp only[qq2,idxK,cond_true,cond_false,if_true,if_false,zan, *]⟩
def q80{ps:LS}{k:V->Option β}(h:q5f P t ps k=some r): ∃v,k v=some r/\∀ {γ:Type} (k':V->Option γ),q5f P t ps k'=k' v:=by
 unfold q5f at h
 repeat' (first|(dsimp only at h)|(split at h)|(replace h:=qaa h;obtain⟨_,h⟩:=h)|(replace h:=qa3 h;obtain⟨_,h⟩:=h)|(replace h:=qc2 h;obtain⟨_,h,_⟩:=h;try dsimp only at h)|(replace h:=qct h;rcases h with⟨_,h⟩|⟨_,h⟩))
 all_goals first|(cases h;done)|exact⟨_,h,fun k'=>by simp only[q5f,idxK,cond_true,cond_false,if_true,if_false,zan, *]⟩
def qzv{n:Nat}{ps:LS}{k:V->Upd->Option β}(h:qcz P H t n pos ps k=some r): ∃v u,k v u=some r/\∀ {γ:Type} (k':V->Upd->Option γ),qcz P H t n pos ps k'=k' v u:=by
 unfold qcz at h
 repeat' (first|(dsimp only at h)|(split at h)|(replace h:=qaa h;obtain⟨_,h⟩:=h)|(replace h:=qa3 h;obtain⟨_,h⟩:=h)|(replace h:=qc2 h;obtain⟨_,h,_⟩:=h;try dsimp only at h)|(replace h:=qct h;rcases h with⟨_,h⟩|⟨_,h⟩))
 all_goals first|(cases h;done)|exact⟨_,_,h,fun k'=>by simp only[qcz,idxK,cond_true,cond_false,if_true,if_false,zan, *]⟩
def q2u{n c:V}{k:V->Upd->Option β}(h:qf5 P t pos n c k=some r): ∃v u,k v u=some r/\∀ {γ:Type} (k':V->Upd->Option γ),qf5 P t pos n c k'=k' v u:=by
 unfold qf5 at h
 repeat' (first|(dsimp only at h)|(split at h)|(replace h:=qaa h;obtain⟨_,h⟩:=h)|(replace h:=qa3 h;obtain⟨_,h⟩:=h)|(replace h:=qc2 h;obtain⟨_,h,_⟩:=h;try dsimp only at h)|(replace h:=qct h;rcases h with⟨_,h⟩|⟨_,h⟩))
 all_goals first|(cases h;done)|exact⟨_,_,h,fun k'=>by simp only[qf5,idxK,cond_true,cond_false,if_true,if_false,zan, *]⟩
def q2s{y:V}{k:V->Upd->Option β}(h:qgf P H t pos x y k=some r): ∃v u,k v u=some r/\∀ {γ:Type} (k':V->Upd->Option γ),qgf P H t pos x y k'=k' v u:=by
 unfold qgf at h
 repeat' (first|(dsimp only at h)|(split at h)|(replace h:=qaa h;obtain⟨_,h⟩:=h)|(replace h:=qa3 h;obtain⟨_,h⟩:=h)|(replace h:=qc2 h;obtain⟨_,h,_⟩:=h;try dsimp only at h)|(replace h:=qct h;rcases h with⟨_,h⟩|⟨_,h⟩))
 all_goals first|(cases h;done)|exact⟨_,_,h,fun k'=>by simp only[qgf,idxK,cond_true,cond_false,if_true,if_false,zan, *]⟩
def xb11{c:CV}{e o:Nat}{k:V->Option β}(h:qvd.one P t k c e o=some r): ∃v,k v=some r/\∀ {γ:Type} (k':V->Option γ),qvd.one P t k' c e o=k' v:=by
 unfold qvd.one at h
 repeat' (first|(dsimp only at h)|(split at h)|(replace h:=qaa h;obtain⟨_,h⟩:=h)|(replace h:=qa3 h;obtain⟨_,h⟩:=h)|(replace h:=qc2 h;obtain⟨_,h,_⟩:=h;try dsimp only at h)|(replace h:=qct h;rcases h with⟨_,h⟩|⟨_,h⟩))
 all_goals first|(cases h;done)|exact⟨_,h,fun k'=>by simp only[qvd.one,idxK,cond_true,cond_false,if_true,if_false,zan, *]⟩
def xb10{lo hi:Option Int}{xs:List α}{k:List α->Option β}(h:cutK.lst lo hi xs k=some r): ∃l,k l=some r/\∀ {γ:Type} (k':List α->Option γ),cutK.lst lo hi xs k'=k' l:=by
 unfold cutK.lst at h
 repeat' (first|(dsimp only at h)|(split at h)|(replace h:=qaa h;obtain⟨_,h⟩:=h)|(replace h:=qa3 h;obtain⟨_,h⟩:=h)|(replace h:=qc2 h;obtain⟨_,h,_⟩:=h;try dsimp only at h)|(replace h:=qct h;rcases h with⟨_,h⟩|⟨_,h⟩))
 all_goals first|(cases h;done)|exact⟨_,h,fun k'=>by simp only[cutK.lst,idxK,cond_true,cond_false,if_true,if_false,zan, *]⟩
def xb12{e:Nat}{v:V}{k:CV->Upd->Option β}(h:qd8 P H e t v k=some r): ∃c u,k c u=some r/\∀ {γ:Type} (k':CV->Upd->Option γ),qd8 P H e t v k'=k' c u:=by
 unfold qd8 at h
 repeat' (first|(dsimp only at h)|(split at h)|(replace h:=qaa h;obtain⟨_,h⟩:=h)|(replace h:=qa3 h;obtain⟨_,h⟩:=h)|(replace h:=qc2 h;obtain⟨_,h,_⟩:=h;try dsimp only at h)|(replace h:=qct h;rcases h with⟨_,h⟩|⟨_,h⟩))
 all_goals first|(cases h;done)|exact⟨_,_,h,fun k'=>by simp only[qd8,idxK,cond_true,cond_false,if_true,if_false,zan, *]⟩
def xbhf{k:V->Option β}(h:qvd P H t x k=some r): ∃v,k v=some r/\∀ {γ:Type} (k':V->Option γ),qvd P H t x k'=k' v:=by
 unfold qvd at h
 repeat' (first|(dsimp only at h)|(split at h)|(replace h:=xb11 h;obtain⟨v,h,hp⟩:=h;exact⟨v,h,fun k'=>by simp only[qvd,cond_true,cond_false, *]⟩)|(replace h:=qaa h;obtain⟨_,h⟩:=h)|(replace h:=qa3 h;obtain⟨_,h⟩:=h)|(replace h:=qc2 h;obtain⟨_,h,_⟩:=h;try dsimp only at h)|(replace h:=qct h;rcases h with⟨_,h⟩|⟨_,h⟩))
 all_goals first|(cases h;done)|exact⟨_,h,fun k'=>by simp only[qvd,idxK,cond_true,cond_false,if_true,if_false,zan, *]⟩
def xb1x{lo hi:Option Int}{k:V->Option β}(h:cutK x lo hi k=some r): ∃v,k v=some r/\∀ {γ:Type} (k':V->Option γ),cutK x lo hi k'=k' v:=by
 unfold cutK at h
 repeat' (first|(obtain⟨v,h,hp⟩:=xb10 h;exact⟨_,h,fun k'=>by simp only[cutK,cond_true,cond_false, *]⟩)|(dsimp only at h)|(split at h)|(replace h:=qaa h;obtain⟨_,h⟩:=h)|(replace h:=qa3 h;obtain⟨_,h⟩:=h)|(replace h:=qc2 h;obtain⟨_,h,_⟩:=h;try dsimp only at h)|(replace h:=qct h;rcases h with⟨_,h⟩|⟨_,h⟩))
 all_goals first|(cases h;done)|exact⟨_,h,fun k'=>by simp only[cutK,idxK,cond_true,cond_false,if_true,if_false,zan, *]⟩
def q2v{h' m:Int}{k:V->Option β}(h:slice3K P t x h' m k=some r): ∃v,k v=some r/\∀ {γ:Type} (k':V->Option γ),slice3K P t x h' m k'=k' v:=by
 unfold slice3K at h;split at h
 ·rename_i e ki xs hk;replace h:=qaa h;obtain⟨h1,h⟩:=h;replace h:=qaa h;obtain⟨h2,h⟩:=h;exact⟨_,h,fun k'=>by unfold slice3K;simp only[hk,h1,h2,cond_true]⟩
 ·cases h
def q83{lo hi:Option Int}{k:V->Option β}(h:q0e P t x lo hi k=some r): ∃v,k v=some r/\∀ {γ:Type} (k':V->Option γ),q0e P t x lo hi k'=k' v:=by
 unfold q0e at h
 repeat' (first|(obtain⟨v,h,hp⟩:=xb1x h;exact⟨_,h,fun k'=>by simp only[q0e,cond_true,cond_false, *]⟩)|(obtain⟨v,h,hp⟩:=xbhe h;exact⟨_,h,fun k'=>by simp only[q0e,cond_true,cond_false, *]⟩)|(dsimp only at h)|(split at h)|(replace h:=qaa h;obtain⟨_,h⟩:=h)|(replace h:=qa3 h;obtain⟨_,h⟩:=h)|(replace h:=qc2 h;obtain⟨_,h,_⟩:=h;try dsimp only at h)|(replace h:=qct h;rcases h with⟨_,h⟩|⟨_,h⟩))
 all_goals first|(cases h;done)|exact⟨_,h,fun k'=>by simp only[q0e,idxK,cond_true,cond_false,if_true,if_false,zan, *]⟩
def xbmb{v:V}{k:Upd->Option β}(h:qos P H t x v k=some r): ∃u,k u=some r/\∀ {γ:Type} (k':Upd->Option γ),qos P H t x v k'=k' u:=by
 unfold qos at h
 repeat' (first|(obtain⟨c,u,h,hp⟩:=xb12 h;exact⟨_,h,fun k'=>by simp only[qos,cond_true,cond_false, *]⟩)|(dsimp only at h)|(split at h)|(replace h:=qaa h;obtain⟨_,h⟩:=h)|(replace h:=qa3 h;obtain⟨_,h⟩:=h)|(replace h:=qc2 h;obtain⟨_,h,_⟩:=h;try dsimp only at h)|(replace h:=qct h;rcases h with⟨_,h⟩|⟨_,h⟩))
 all_goals first|(cases h;done)|exact⟨_,h,fun k'=>by simp only[qos,idxK,cond_true,cond_false,if_true,if_false,zan, *]⟩
end
section
variable {P:Program} {E:Env} {β:Type} {r:β}
def xbu5{mk:Bool}{args:LV}{kv:V->Upd->Option β}{kp:CV->Upd->Option β}(h:q68 P E H g mk pos args kv kp=some r):
  (∃v u,kv v u=some r/\∀ {γ:Type} (k':V->Upd->Option γ) (kp':CV->Upd->Option γ),q68 P E H g mk pos args k' kp'=k' v u)\/
   ∃c u,kp c u=some r/\∀ {γ:Type} (k':V->Upd->Option γ) (kp':CV->Upd->Option γ),q68 P E H g mk pos args k' kp'=kp' c u:=by
 unfold q68 at h;split at h
 ·cases h
 ·rename_i fn hfn;replace h:=qa3 h;obtain⟨h1,h⟩:=h;split at h
  ·rename_i as obs h63 has hobs;replace h:=qaa h;obtain⟨hpr,h⟩:=h;obtain⟨out,horc,h,hk⟩:=qle h
   cases out with
   | ret vs objs=>
    replace h:=qaa h;obtain⟨h2,h⟩:=h;exact .inl ⟨_,_,h,fun k' kp'=>by simp only[q68,hfn,h1,h63,has,hobs,hpr,hk,h2,cond_true,cond_false]⟩
   | pan c objs=>
    replace h:=qaa h;obtain⟨h2,h⟩:=h;exact .inr ⟨_,_,h,fun k' kp'=>by simp only[q68,hfn,h1,h63,has,hobs,hpr,hk,h2,cond_true,cond_false]⟩
   | yld x f t=>cases h
  ·cases h
def xb78{k:V->Upd->Option β}{kp:CV->Upd->Option β}(h:opK P E s H o k kp=some r):
  (∃v u,k v u=some r/\∀ {γ:Type} (k':V->Upd->Option γ) (kp':CV->Upd->Option γ),opK P E s H o k' kp'=k' v u)\/
   ∃c u,kp c u=some r/\∀ {γ:Type} (k':V->Upd->Option γ) (kp':CV->Upd->Option γ),opK P E s H o k' kp'=kp' c u:=by
 cases hop:o.op with
 | move x=>
  simp only[opK,hop] at h ⊢;exact .inl ⟨_,_,h,fun k' kp'=>rfl⟩
 | assign x=>
  simp only[opK,hop] at h ⊢;split at h
  ·rename_i c hc;split at h
   ·rename_i e hke;split at h
    ·rename_i r0 hr0;exact .inl ⟨_,_,h,fun k' kp'=>by simp only[hc,hke,hr0]⟩
    ·cases h
   ·cases h
  ·rename_i hn;exact .inl ⟨_,_,h,fun k' kp'=>by simp only[hn]⟩
 | pick c x y=>
  simp only[opK,hop] at h ⊢;split at h
  ·rename_i t hc
   cases t with
   | true=>exact .inl ⟨_,_,h,fun k' kp'=>by simp only[hc,cond_true]⟩
   | false=>exact .inl ⟨_,_,h,fun k' kp'=>by simp only[hc,cond_false]⟩
  ·cases h
 | alloc t=>
  simp only[opK,hop] at h ⊢;split at h
  ·rename_i z hz;obtain⟨v,h,hp⟩:=qoh h;exact .inl ⟨_,_,h,fun k' kp'=>by first|exact hp _|(simp only[hz];exact hp _)⟩
  ·cases h
 | box t x=>
  simp only[opK,hop] at h ⊢;obtain⟨v,h,hp⟩:=qoh h;exact .inl ⟨_,_,h,fun k' kp'=>hp _⟩
 | load t x=>
  simp only[opK,hop] at h ⊢;obtain⟨v,h,hp⟩:=xbhf h;exact .inl ⟨_,_,h,fun k' kp'=>hp _⟩
 | store t x y=>
  simp only[opK,hop] at h ⊢;obtain⟨u,h,hp⟩:=xbmb h;exact .inl ⟨_,_,h,fun k' kp'=>hp _⟩
 | nilCheck x=>
  simp only[opK,hop] at h ⊢;obtain⟨v,h,hp⟩:=xbpq h;exact .inl ⟨_,_,h,fun k' kp'=>hp _⟩
 | binOp op t x y yt=>
  simp only[opK,hop] at h ⊢;obtain⟨v,h,hp⟩:=xbpk h;exact .inl ⟨_,_,h,fun k' kp'=>hp _⟩
 | unOp op t x=>
  simp only[opK,hop] at h ⊢;obtain⟨v,h,hp⟩:=xb13 h;exact .inl ⟨_,_,h,fun k' kp'=>hp _⟩
 | convert src dst x=>
  simp only[opK,hop] at h ⊢;split at h
  ·rename_i e b hd hx;replace h:=qaa h;obtain⟨h1,h⟩:=h;split at h
   ·rename_i he;replace h:=qaa h;obtain⟨h2,h⟩:=h;exact .inl ⟨_,_,h,fun k' kp'=>by simp only[hd,hx,h1,h2,he,cond_true]⟩
   ·cases h
  ·rename_i b hd hx;obtain⟨v,h,hp⟩:=qzw h;exact .inl ⟨_,_,h,fun k' kp'=>by first|exact hp _|(simp only[hd,hx];exact hp _)⟩
  ·rename_i hd hn;obtain⟨v,h,hp⟩:=q84 h;exact .inl ⟨_,_,h,fun k' kp'=>by first|exact hp _|(simp only[hd,hn];exact hp _)⟩
  ·rename_i hn1 hn2 hn3;obtain⟨v,h,hp⟩:=qzw h;exact .inl ⟨_,_,h,fun k' kp'=>by first|exact hp _|(simp only[hn1,hn2,hn3];exact hp _)⟩
 | makeInterface t x=>
  simp only[opK,hop] at h ⊢;replace h:=qaa h;obtain⟨h1,h⟩:=h;split at h
  ·cases h
  ·cases h
  ·rename_i hn1 hn2;exact .inl ⟨_,_,h,fun k' kp'=>by simp only[h1,hn1,hn2,cond_true]⟩
 | makeFunc g x y=>
  simp only[opK,hop] at h ⊢;exact .inl ⟨_,_,h,fun k' kp'=>rfl⟩
 | makeSlice t n c=>
  simp only[opK,hop] at h ⊢;obtain⟨v,u,h,hp⟩:=q2u h;exact .inl ⟨_,_,h,fun k' kp'=>hp _⟩
 | slice t x lo hi mx=>
  simp only[opK,hop] at h ⊢;split at h
  ·rename_i l hh hmx hl hhi;obtain⟨v,h,hp⟩:=q83 h;exact .inl ⟨_,_,h,fun k' kp'=>by first|exact hp _|(simp only[hmx,hl,hhi];exact hp _)⟩
  ·rename_i m hh hmx hl hhi;obtain⟨v,h,hp⟩:=q2v h;exact .inl ⟨_,_,h,fun k' kp'=>by first|exact hp _|(simp only[hmx,hl,hhi];exact hp _)⟩
  ·cases h
 | fieldAddr t x f=>
  simp only[opK,hop] at h ⊢;obtain⟨v,h,hp⟩:=xb1y h;exact .inl ⟨_,_,h,fun k' kp'=>hp _⟩
 | field t x f=>
  simp only[opK,hop] at h ⊢;obtain⟨v,h,hp⟩:=q81 h;exact .inl ⟨_,_,h,fun k' kp'=>hp _⟩
 | indexAddr t x i=>
  simp only[opK,hop] at h ⊢;obtain⟨v,h,hp⟩:=xb1z h;exact .inl ⟨_,_,h,fun k' kp'=>hp _⟩
 | index t x i=>
  simp only[opK,hop] at h ⊢;obtain⟨v,h,hp⟩:=q82 h;exact .inl ⟨_,_,h,fun k' kp'=>hp _⟩
 | build t ps=>
  simp only[opK,hop] at h ⊢;obtain⟨v,h,hp⟩:=q80 h;exact .inl ⟨_,_,h,fun k' kp'=>hp _⟩
 | buildSlice t n ps=>
  simp only[opK,hop] at h ⊢;obtain⟨v,u,h,hp⟩:=qzv h;exact .inl ⟨_,_,h,fun k' kp'=>hp _⟩
 | extract x i=>
  simp only[opK,hop] at h ⊢;obtain⟨v,h,hp⟩:=xbpm h;exact .inl ⟨_,_,h,fun k' kp'=>hp _⟩
 | typeAssert x xt asserted ok=>
  simp only[opK,hop] at h ⊢;obtain⟨v,h,hp⟩:=q2t h;exact .inl ⟨_,_,h,fun k' kp'=>hp _⟩
 | panic x=>
  simp only[opK,hop] at h ⊢;split at h
  ·rename_i t c hc;exact .inr ⟨_,_,h,fun k' kp'=>by simp only[hc]⟩
  ·cases h
 | call c=>
  simp only[opK,hop] at h ⊢;split at h
  ·rename_i hcal;obtain⟨v,h,hp⟩:=xbpn h;exact .inl ⟨_,_,h,fun k' kp'=>by first|exact hp _|(simp only[hcal];exact hp _)⟩
  ·rename_i hcal;obtain⟨v,h,hp⟩:=xbpl h;exact .inl ⟨_,_,h,fun k' kp'=>by first|exact hp _|(simp only[hcal];exact hp _)⟩
  ·rename_i hcal;obtain⟨v,h,hp⟩:=xbpp h;exact .inl ⟨_,_,h,fun k' kp'=>by first|exact hp _|(simp only[hcal];exact hp _)⟩
  ·rename_i hcal;obtain⟨v,h,hp⟩:=xbpo h;exact .inl ⟨_,_,h,fun k' kp'=>by first|exact hp _|(simp only[hcal];exact hp _)⟩
  ·rename_i hcal;split at h
   ·rename_i t t2 x y hat hae;split at h
    ·rename_i b hk2;obtain⟨v,u,h,hp⟩:=q2s h;exact .inl ⟨_,_,h,fun k' kp'=>by first|exact hp _|(simp only[hcal,hat,hae,hk2];exact hp _)⟩
    ·rename_i e' hk2;replace h:=qa3 h;obtain⟨h1,h⟩:=h;obtain⟨v,u,h,hp⟩:=q2s h;exact .inl ⟨_,_,h,fun k' kp'=>by first|exact hp _|(simp only[hcal,hat,hae,hk2,h1,cond_false];exact hp _)⟩
    ·cases h
   ·cases h
  ·rename_i f hcal;split at h
   ·rename_i g A B hfn;rcases xbu5 h with⟨v,u,h,hp⟩|⟨v,u,h,hp⟩
    ·exact .inl ⟨_,_,h,fun k' kp'=>by first|exact hp _ _|(simp only[hcal,hfn];exact hp _ _)⟩
    ·exact .inr ⟨_,_,h,fun k' kp'=>by first|exact hp _ _|(simp only[hcal,hfn];exact hp _ _)⟩
   ·cases h
  ·cases h
 | _=>simp[opK,hop] at h
end
def Agree(H H':Heap)(l:List Nat):Prop:= ∀p∈l,qal H' p=qal H p
def qjc{α β:Type}{f g:α->List β}: ∀ {l:List α},(∀x∈l,f x=g x)->l.flatMap f=l.flatMap g
 | [],_=>rfl
 | x::r,h=>by simp only[za3];rw[h x (by simp),qjc (l:=r) fun y hy=>h y (by simp[hy])]
def qfu: ∀(n:Nat) (v:V),Agree H H' (reach H n v)->reach H' n v=reach H n v:=by
 intro n
 induction n with
 | zero=>intro v _;cases v<;>rfl
 | succ n ih=>
  intro v h;have lst: ∀l:LV,Agree H H' (l.flatMap (reach H n))->l.flatMap (reach H' n)=l.flatMap (reach H n):=fun l hl=>
   qjc fun x hx=>ih x fun p hp=>hl p (zb1.2 ⟨x,hx,hp⟩)
  cases v with
  | ptr p i o=>
   simp only[reach] at h ⊢;rw[h p (by simp)]
   cases ho:qal H p with
   | none=>rfl
   | some ob=>
    obtain⟨row,lock⟩:=ob;rw[ho] at h
    cases row with
    | var l=>
     show p::l.flatMap (reach H' n)=p::l.flatMap (reach H n);rw[lst l fun q hq=>h q (by simp[hq])]
    | _=>rfl
  | agg l=>simp only[reach] at h ⊢;exact lst l h
  | tup l=>simp only[reach] at h ⊢;exact lst l h
  | iface t v=>simp only[reach] at h ⊢;exact ih v h
  | fn f a b=>
   simp only[reach] at h ⊢;rw[lst a fun q hq=>h q (by simp only[zaq];exact .inl hq),lst b fun q hq=>h q (by simp only[zaq];exact .inr hq)]
  | _=>rfl
def qs5{f g:V->Option CV}: ∀ {l:LV},(∀x∈l,f x=g x)->qmh f l=qmh g l
 | [],_=>rfl
 | x::r,h=>by simp only[qmh];rw[h x (by simp),qs5 (l:=r) fun y hy=>h y (by simp[hy])]
def qs6{f g:TypeId->V->Option CV}: ∀ {l:LV} (ts:List TypeId),(∀x∈l, ∀t,f t x=g t x)->qqz f ts l=qqz g ts l
 | [],ts,_=>by cases ts<;>rfl
 | x::r,[],_=>rfl
 | x::r,t::ts,h=>by simp only[qqz];rw[h x (by simp) t,qs6 (l:=r) ts fun y hy=>h y (by simp[hy])]
def qi8: ∀(n:Nat) (t:TypeId) (v:V),Agree H H' (reach H n v)->qb4 P H' n t v=qb4 P H n t v:=by
 intro n
 induction n with
 | zero=>intro t v _;cases v<;>simp[qb4]
 | succ n ih=>
  intro t v h;have lstL: ∀l:LV,Agree H H' (l.flatMap (reach H n))->qmh (qb4 P H' n 0) l=qmh (qb4 P H n 0) l:=fun l hl=>
   qs5 fun x hx=>ih 0 x fun p hp=>hl p (zb1.2 ⟨x,hx,hp⟩)
  cases v with
  | cl c=>simp[qb4]
  | nils=>simp[qb4]
  | agg l=>
   simp only[reach] at h;simp only[qb4];rw[qs6 _ fun x hx t=>ih t x fun p hp=>h p (zb1.2 ⟨x,hx,hp⟩)]
  | ref p o len tip e=>simp only[reach] at h;simp only[qb4];rw[h p (by simp)]
  | aptr p m e=>simp only[reach] at h;simp only[qb4];rw[h p (by simp)]
  | ptr p i o=>
   simp only[reach] at h;simp only[qb4];rw[h p (by simp)]
   cases ho:qal H p with
   | none=>rfl
   | some ob=>
    obtain⟨row,lock⟩:=ob;rw[ho] at h
    cases row with
    | var l=>simp only;rw[lstL l fun q hq=>h q (by simp[hq])]
    | _=>rfl
  | iface t v=>simp only[reach] at h;simp only[qb4];rw[ih t v h]
  | fn f a b=>
   simp only[reach] at h;simp only[qb4];rw[lstL a fun q hq=>h q (by simp only[zaq];exact .inl hq),lstL b fun q hq=>h q (by simp only[zaq];exact .inr hq)]
  | undef=>simp[qb4]
  | tup l=>simp[qb4]
def qf2{H H':Heap}: ∀ {l:List Nat},Agree H H' l->lockAll H' l=lockAll H l
 | [],_=>rfl
 | p::r,h=>by simp only[lockAll];rw[h p (by simp),qf2 (l:=r) fun q hq=>h q (by simp[hq])]
def qwn{n:Nat}{v:V}(h:Agree H H' (reach H (n+1) v)):xbvf H' v=xbvf H v:=by
 cases v with
 | ref p o len tip e=>simp only[reach] at h;simp only[xbvf];rw[h p (by simp)]
 | cl c=>cases c<;>rfl
 | _=>rfl
def q6l{n:Nat}{v:V}(h:Agree H H' (reach H (n+1) v)):q6k H' v=q6k H v:=by
 unfold q6k;split
 ·rfl
 ·exact qwn h
section
variable {P:Program} {β:Type} {H H':Heap}
def xbb7{n:Nat}{v:V}{k:V->Option β}(h:Agree H H' (reach H (n+1) v)):qq2 P H' t v k=qq2 P H t v k:=by have hr:=qwn h;unfold qq2;cases v<;>simp only[hr]
def xbgn{k:V->Option β}(h: ∀p,(∃i o,x=.ptr p i o)\/(∃n e,x=.aptr p n e)->qal H' p=qal H p):qvd P H' t x k=qvd P H t x k:=by
 cases x with
 | ptr p i o=>simp only[qvd];rw[h p (.inl ⟨i,o,rfl⟩)]
 | aptr p n e=>simp only[qvd];rw[h p (.inr ⟨n,e,rfl⟩)]
 | cl c=>
  cases c with
  | vp r i o=>cases r<;>rfl
  | _=>rfl
 | _=>rfl
def xbmh{e:Nat}{v:V}{k:CV->Upd->Option β}(h:Agree H H' (reach H 4 v)):qd8 P H' e t v k=qd8 P H e t v k:=by unfold qd8;rw[qi8 4 t v h,qfu 4 v h,qf2 h]
def xbb5{v:V}{k:Upd->Option β}(h: ∀p,(∃i o,x=.ptr p i o)\/(∃n e,x=.aptr p n e)->qal H' p=qal H p)(h2:(∃p i o,x=.ptr p i o)->Agree H H' (reach H 4 v)):
  qos P H' t x v k=qos P H t x v k:=by
 cases x with
 | ptr p i o=>
  have h2:=h2 ⟨p,i,o,rfl⟩;simp only[qos];rw[h p (.inl ⟨i,o,rfl⟩),qfu 4 v h2];simp only[xbmh h2]
 | aptr p n e=>simp only[qos];rw[h p (.inr ⟨n,e,rfl⟩)]
 | _=>rfl
def qnl{e:TypeId}: ∀ {ps:LS} {row:Rw} {u:Upd},Agree H H' (ps.flatMap fun p=>reach H 4 p.2)->qgb P H' e row ps u=qgb P H e row ps u
 | [],row,u,_=>rfl
 | (i,v)::r,row,u,h=>by have h1:Agree H H' (reach H 4 v):=fun p hp=>h p (by simp only[za3,zaq];exact .inl hp);have h2:Agree H H' (r.flatMap fun p=>reach H 4 p.2):=fun p hp=>h p (by simp only[za3,zaq];exact .inr hp);simp only[qgb];rw[qi8 4 e v h1,qfu 4 v h1,qf2 h1];cases row<;>simp only[qnl h2]
def qsw{n:Nat}{ps:LS}{k:V->Upd->Option β}(h:Agree H H' (ps.flatMap fun p=>reach H 4 p.2)):qcz P H' t n pos ps k=qcz P H t n pos ps k:=by unfold qcz;simp only[qnl h]
def q5e{y:V}{k:V->Upd->Option β}(hx:Agree H H' (reach H 4 x))(hy:Agree H H' (reach H 4 y)):qgf P H' t pos x y k=qgf P H t pos x y k:=by
 unfold qgf;rw[q6l hy]
 cases x with
 | ref p o len tip e=>
  simp only[reach] at hx;have hp:=hx p (by simp);cases tip<;>simp only[hp]
 | _=>rfl
def qqc{br:List Nat}: ∀ {l:LV} {i:Nat},Agree H H' (l.flatMap (reach H 6))->qb7 H' br i l=qb7 H br i l
 | [],i,_=>rfl
 | v::r,i,h=>by simp only[qb7];rw[qfu 6 v fun p hp=>h p (by simp only[za3,zaq];exact .inl hp),qqc (l:=r) fun p hp=>h p (by simp only[za3,zaq];exact .inr hp)]
def qmp{br:List Nat}: ∀ {l:LV} {i:Nat},Agree H H' (l.flatMap (reach H 6))->qce H' br i l=qce H br i l
 | [],i,_=>rfl
 | v::r,i,h=>by simp only[qce];rw[qfu 6 v fun p hp=>h p (by simp only[za3,zaq];exact .inl hp),qmp (l:=r) fun p hp=>h p (by simp only[za3,zaq];exact .inr hp)]
def qvr{br:List Nat}: ∀ {l:LV} {i:Nat} {ts:List TypeId},Agree H H' (l.flatMap (reach H 6))->xbcd P H' br i ts l=xbcd P H br i ts l
 | [],i,ts,_=>rfl
 | v::r,i,ts,h=>by simp only[xbcd];rw[qi8 6 _ v fun p hp=>h p (by simp only[za3,zaq];exact .inl hp),qvr (l:=r) fun p hp=>h p (by simp only[za3,zaq];exact .inr hp)]
def qqj: ∀ {l:List Nat},Agree H H' l->qif H' l=qif H l
 | [],_=>rfl
 | p::r,h=>by simp only[qif];rw[h p (by simp),qqj (l:=r) fun q hq=>h q (by simp[hq])]
def qpc{br:List Nat}{q:Nat}: ∀ {l:LV} {i:Nat},q∈qb7 H br i l->q∈l.flatMap (reach H 6)
 | [],i,h=>by simp[qb7] at h
 | v::r,i,h=>by
  simp only[qb7,zaq] at h;simp only[za3,zaq];rcases h with h|h
  ·cases hb:br.any (Nat.beq i) with
   | true=>rw[hb] at h;exact .inl h
   | false=>rw[hb] at h;cases h
  ·exact .inr (qpc h)
def qkv{br:List Nat}{q:Nat}: ∀ {l:LV} {i:Nat},q∈qce H br i l->q∈l.flatMap (reach H 6)
 | [],i,h=>by simp[qce] at h
 | v::r,i,h=>by
  simp only[qce,zaq] at h;simp only[za3,zaq];rcases h with h|h
  ·cases hb:br.any (Nat.beq i) with
   | true=>rw[hb] at h;cases h
   | false=>rw[hb] at h;exact .inl h
  ·exact .inr (qkv h)
def xbea{mk:Bool}{args:LV}{kv:V->Upd->Option β}{kp:CV->Upd->Option β}(h:Agree H H' (args.flatMap (reach H 6)))(h63:qal H' 63=qal H 63):
  q68 P E H' g mk pos args kv kp=q68 P E H g mk pos args kv kp:=by
 unfold q68
 cases P.funcs[g]? with
 | none=>rfl
 | some fn=>
  dsimp only;rw[qqc h,qmp h,h63,qqj (l:=dedup (qb7 H (E.byref g) 0 args)) fun q hq=>h q (qpc (ql8.1 hq)),qf2 (l:=qce H (E.byref g) 0 args) fun q hq=>h q (qkv hq),qvr h]
def qro{s':LS}{l:List Operand}(h: ∀x∈l,opd E s' x=opd E s x):l.map (opd E s')=l.map (opd E s):=zcq h
def q53{s':LS}{k:V->Upd->Option β}{kp:CV->Upd->Option β}(ho: ∀x∈o.op.operands,opd E s' x=opd E s x)(h1:Agree H H' (touch E s H o).1)(h2:Agree H H' (touch E s H o).2):opK P E s' H' o k kp=opK P E s H o k kp:=by
 have m: ∀x,x∈o.op.operands->opd E s' x=opd E s x:=ho
 cases hop:o.op with
 | move x=>
  simp only[opK,hop];rw[m x (by simp[Op.operands,hop])]
 | assign x=>
  simp only[opK,hop];rw[m x (by simp[Op.operands,hop])]
 | pick c x y=>
  simp only[opK,hop];rw[m c (by simp[Op.operands,hop]),m x (by simp[Op.operands,hop]),m y (by simp[Op.operands,hop])]
 | alloc t=>simp only[opK,hop]
 | box t x=>
  simp only[opK,hop];rw[m x (by simp[Op.operands,hop])]
 | load t x=>
  simp only[opK,hop];rw[m x (by simp[Op.operands,hop])];refine xbgn fun p hp=>h1 p ?_;rcases hp with⟨i,j,e⟩|⟨i,j,e⟩<;>simp[touch,hop,e]
 | store t x y=>
  simp only[opK,hop];rw[m x (by simp[Op.operands,hop]),m y (by simp[Op.operands,hop])];refine xbb5 (fun p hp=>h2 p ?_) fun⟨p,i,j,e⟩ q hq=>h2 q ?_
  ·rcases hp with⟨i,j,e⟩|⟨i,j,e⟩<;>simp[touch,hop,e]
  ·simp[touch,hop,e,hq]
 | nilCheck x=>
  simp only[opK,hop];rw[m x (by simp[Op.operands,hop])]
 | binOp op t x y yt=>
  simp only[opK,hop];rw[m x (by simp[Op.operands,hop]),m y (by simp[Op.operands,hop])]
 | unOp op t x=>
  simp only[opK,hop];rw[m x (by simp[Op.operands,hop])]
 | convert src dst x=>
  simp only[opK,hop];rw[m x (by simp[Op.operands,hop])];have ht: ∀k:V->Option β,qq2 P H' src (opd E s x) k=qq2 P H src (opd E s x) k:=fun k=>xbb7 (n:=3) (by simpa [touch,hop] using h1);revert ht;generalize opd E s x=v;intro ht
  cases kd P dst with
  | str=>
   cases v with
   | cl c=>cases c<;>first|rfl|exact ht _
   | _=>exact ht _
  | slice e=>
   cases v with
   | cl c=>cases c<;>rfl
   | _=>rfl
  | _=>rfl
 | makeInterface t x=>
  simp only[opK,hop];rw[m x (by simp[Op.operands,hop])]
 | makeFunc g x y=>
  simp only[opK,hop];rw[qro (l:=x.toList) fun z hz=>m z (by simp[Op.operands,hop];exact .inl (by simpa using hz)),qro (l:=y.toList) fun z hz=>m z (by simp[Op.operands,hop];exact .inr (by simpa using hz))]
 | makeSlice t n c=>
  simp only[opK,hop];rw[m n (by simp[Op.operands,hop]),m c (by simp[Op.operands,hop])]
 | slice t x lo hi mx=>
  simp only[opK,hop];have e1:lo.map (opd E s')=lo.map (opd E s):=by
   cases lo with
   | none=>rfl
   | some z=>simp only[zao];rw[m z (by simp[Op.operands,hop])]
  have e2:hi.map (opd E s')=hi.map (opd E s):=by
   cases hi with
   | none=>rfl
   | some z=>simp only[zao];rw[m z (by simp[Op.operands,hop])]
  have e3:mx.map (opd E s')=mx.map (opd E s):=by
   cases mx with
   | none=>rfl
   | some z=>simp only[zao];rw[m z (by simp[Op.operands,hop])]
  rw[m x (by simp[Op.operands,hop]),e1,e2,e3]
 | fieldAddr t x f=>
  simp only[opK,hop];rw[m x (by simp[Op.operands,hop])]
 | field t x f=>
  simp only[opK,hop];rw[m x (by simp[Op.operands,hop])]
 | indexAddr t x i=>
  simp only[opK,hop];rw[m x (by simp[Op.operands,hop]),m i (by simp[Op.operands,hop])]
 | index t x i=>
  simp only[opK,hop];rw[m x (by simp[Op.operands,hop]),m i (by simp[Op.operands,hop])]
 | build t ps=>
  simp only[opK,hop];have e:(ps.toList.map fun p=>(p.1,opd E s' p.2))=ps.toList.map fun p=>(p.1,opd E s p.2):=zcq fun p hp=>by rw[m p.2 (by simp[Op.operands,hop];exact⟨p.1,by simpa using hp⟩)]
  rw[e]
 | buildSlice t n ps=>
  simp only[opK,hop];have e:(ps.toList.map fun p=>(p.1,opd E s' p.2))=ps.toList.map fun p=>(p.1,opd E s p.2):=zcq fun p hp=>by rw[m p.2 (by simp[Op.operands,hop];exact⟨p.1,by simpa using hp⟩)]
  rw[e];refine qsw fun q hq=>h2 q ?_;simp only[touch,hop];rw[List.flatMap_map] at hq;exact hq
 | extract x i=>
  simp only[opK,hop];rw[m x (by simp[Op.operands,hop])]
 | typeAssert x xt asserted ok=>
  simp only[opK,hop];rw[m x (by simp[Op.operands,hop])]
 | panic x=>
  simp only[opK,hop];have hr:Agree H H' (reach H 4 (opd E s x)):=by simpa [touch,hop] using h2
  rw[m x (by simp[Op.operands,hop]),qi8 4 0 _ hr,qfu 4 _ hr,qf2 hr]
 | call c=>
  simp only[opK,hop];have hargs:c.args.toList.map (opd E s')=c.args.toList.map (opd E s):=qro fun z hz=>m z (by simp[Op.operands,hop,Call.operands];exact .inr (by simpa using hz));rw[hargs]
  cases hcal:c.callee with
  | builtin b=>
   cases b with
   | append=>
    simp only
    cases hat:c.argTypes.toList with
    | nil=>rfl
    | cons t r=>
     cases r with
     | nil=>rfl
     | cons t2 r2=>
      cases r2 with
      | cons=>rfl
      | nil=>
       cases hae:c.args.toList.map (opd E s) with
       | nil=>rfl
       | cons x r=>
        cases r with
        | nil=>rfl
        | cons y r2=>
         cases r2 with
         | cons=>rfl
         | nil=>
          have hx:Agree H H' (reach H 4 x):=by simpa [touch,hop,hcal,hae] using h2
          have hy:Agree H H' (reach H 4 y):=by simpa [touch,hop,hcal,hae] using h1
          have e:=q5e (P:=P) (t:=t) (pos:=qox o) (k:=k) hx hy;dsimp only
          cases kd P t2 with
          | str=>
           cases y with
           | cl c=>cases c<;>first|rfl|exact e
           | _=>rfl
          | slice e'=>
           show cond (xbld y) none (qgf P H' t (qox o) x y k)=cond (xbld y) none (qgf P H t (qox o) x y k);rw[e]
          | _=>rfl
   | _=>rfl
  | value f=>
   simp only;rw[m f (by simp[Op.operands,hop,Call.operands,hcal])]
   cases hfn:fnOf (opd E s f) with
   | none=>rfl
   | some gab=>
    obtain⟨g,A,B⟩:=gab;simp only;refine xbea ?_ (h1 63 (by simp[touch,hop,hcal,hfn]));have:(touch E s H o).2=(A++c.args.toList.map (opd E s)++B).flatMap (reach H 6):=by simp only[touch,hop,hcal,hfn]
    rw[this] at h2;exact h2
  | invoke r n=>rfl
 | _=>simp only[opK,hop]
end
section
variable {P:Program} {E:Env} {H:Heap}
def qfn{H:Heap}: ∀ {l:List Nat} {x:Nat×Option Obj},x∈lockAll H l->x.1∈l
 | [],x,h=>by simp[lockAll] at h
 | p::r,x,h=>by
  simp only[lockAll] at h
  cases hp:qal H p with
  | none=>rw[hp] at h;exact za8 _ (qfn h)
  | some ob=>
   rw[hp] at h;rcases zaw.1 h with rfl|h
   ·simp
   ·exact za8 _ (qfn h)
def qki{e:TypeId}: ∀ {ps:LS} {row row':Rw} {u u':Upd},qgb P H e row ps u=some (row',u')->∀x∈u',x∈u\/x.1∈ps.flatMap fun p=>reach H 4 p.2
 | [],row,row',u,u',h,x,hx=>by simp only[qgb,zaa,zaz] at h;rw[h.2];exact .inl hx
 | (i,v)::r,row,row',u,u',h,x,hx=>by
  simp only[qgb] at h;simp only[za3,zaq];split at h
  ·split at h
   ·replace h:=qaa h;rcases qki h.2 x hx with h'| h'
    ·exact .inl h'
    ·exact .inr (.inr h')
   ·cases h
  ·split at h
   ·replace h:=qaa h;rcases qki h.2 x hx with h'| h'
    ·rcases zaq.1 h' with h'| h'
     ·exact .inl h'
     ·exact .inr (.inl (qfn h'))
    ·exact .inr (.inr h')
   ·cases h
  ·cases h
def qwc{names:List Nat}{pos:Nat}{f:Nat->Nat}: ∀ {objs:List (Option Obj)} {i:Nat} {x:Nat×Option Obj},x∈qgl names pos f i objs->∃j,i<=j/\j<i+objs.length/\x.1=qfi names pos j
 | [],i,x,h=>by simp[qgl] at h
 | ob::r,i,x,h=>by
  simp only[qgl,zaw] at h;rcases h with rfl|h
  ·exact⟨i,by omega,by simp,rfl⟩
  ·obtain⟨j,h1,h2,h3⟩:=qwc h;exact⟨j,by omega,by simp;omega,h3⟩
def xbh0{e:Nat}{v:V}{f:CV->Upd->Upd}{u:Upd}(h:qd8 P H e t v (fun c w=>some (f c w))=some u): ∃c w,u=f c w/\∀x∈w,x.1∈reach H 4 v:=by
 unfold qd8 at h;split at h
 ·replace h:=qaa h;obtain⟨_,h⟩:=h;simp only[zaa] at h;exact⟨_,_,h.symm,fun x hx=>qfn hx⟩
 ·cases h
def xbi2{v:V}{u:Upd}(h:qos P H t x v some=some u): ∀y∈u,(∃i o,x=.ptr y.1 i o)\/(∃n e,x=.aptr y.1 n e)\/((∃p i o,x=.ptr p i o)/\y.1∈reach H 4 v):=by
 unfold qos at h;replace h:=qaa h;obtain⟨_,h⟩:=h;split at h
 ·rename_i p n e;have one: ∀(u:Upd) ob,some [(p,ob)]=some u->∀y∈u,(∃i o,V.aptr p n e=.ptr y.1 i o)\/(∃n' e',V.aptr p n e=.aptr y.1 n' e')\/((∃q i o,V.aptr p n e=.ptr q i o)/\y.1∈reach H 4 v):=fun u ob hu y hy=>by simp only[zaa] at hu;subst hu;simp at hy;subst hy;exact .inr (.inl ⟨n,e,rfl⟩)
  split at h
  ·replace h:=qaa h;exact one _ _ h.2
  ·replace h:=qaa h;exact one _ _ h.2
  ·cases h
 ·rename_i p i o;have one: ∀(u:Upd) ob,some [(p,ob)]=some u->∀y∈u,(∃i' o',V.ptr p i o=.ptr y.1 i' o')\/(∃n' e',V.ptr p i o=.aptr y.1 n' e')\/((∃q i' o',V.ptr p i o=.ptr q i' o')/\y.1∈reach H 4 v):=fun u ob hu y hy=>by simp only[zaa] at hu;subst hu;simp at hy;subst hy;exact .inl ⟨i,o,rfl⟩
  have two: ∀(w:Upd) ob,(∀x∈w,x.1∈reach H 4 v)->∀y∈w++[(p,ob)],(∃i' o',V.ptr p i o=.ptr y.1 i' o')\/(∃n' e',V.ptr p i o=.aptr y.1 n' e')\/((∃q i' o',V.ptr p i o=.ptr q i' o')/\y.1∈reach H 4 v):=fun w ob hw y hy=>by
   rcases zaq.1 hy with hy|hy
   ·exact .inr (.inr ⟨⟨p,i,o,rfl⟩,hw y hy⟩)
   ·simp at hy;subst hy;exact .inl ⟨i,o,rfl⟩
  split at h
  ·split at h
   ·split at h
    ·replace h:=qaa h;exact one _ _ h.2
    ·cases h
   ·split at h
    ·replace h:=qaa h;exact one _ _ h.2
    ·cases h
   ·replace h:=qaa h;obtain⟨c,w,rfl,hw⟩:=xbh0 h.2;exact two w _ hw
   ·replace h:=qaa h;obtain⟨c,w,rfl,hw⟩:=xbh0 h.2;exact two w _ hw
   ·replace h:=qaa h;exact one _ _ h.2
  ·cases h
 ·cases h
def xbkh{mk:Bool}{args:LV}{u:Upd}(h:q68 P E H g mk pos args (fun _ u=>some u) (fun _ u=>some u)=some u):
  ∀x∈u,x.1∈args.flatMap (reach H 6)\/(mk=true/\∃i,i<4/\x.1=pos+1000000*i):=by
 have key: ∀(lk:Upd) (objs:List (Option Obj)) (f:Nat->Nat),(∀x∈lk,x.1∈args.flatMap (reach H 6))->(dedup (qb7 H (E.byref g) 0 args)).length<28->objs.length<=(dedup (qb7 H (E.byref g) 0 args)).length+cond mk 4 0->
   ∀x∈lk++qgl (dedup (qb7 H (E.byref g) 0 args)) pos f 0 objs,x.1∈args.flatMap (reach H 6)\/(mk=true/\∃i,i<4/\x.1=pos+1000000*i):=fun lk objs f hlk hsm hle x hx=>by
  rcases zaq.1 hx with hx|hx
  ·exact .inl (hlk x hx)
  ·obtain⟨j,_,h2,h3⟩:=qwc hx;rw[h3]
   cases hn:(dedup (qb7 H (E.byref g) 0 args))[j]? with
   | some p=>
    left;simp only[qfi,hn];exact qpc (ql8.1 (zad hn))
   | none=>
    right;have hj:=List.getElem?_eq_none_iff.1 hn;have hmk:mk=true:=by
     cases mk with
     | true=>rfl
     | false=>simp at hle;omega
    subst hmk;have hle:objs.length<=(dedup (qb7 H (E.byref g) 0 args)).length+4:=hle;have hb:Nat.blt j 32=true:=by simp[zb4];omega
    exact⟨rfl,j - (dedup (qb7 H (E.byref g) 0 args)).length,by omega,by simp[qfi,hn,hb]⟩
 unfold q68 at h;split at h
 ·cases h
 ·replace h:=qa3 h;obtain⟨hc,h⟩:=h;simp only[zct] at hc;have hsm:(dedup (qb7 H (E.byref g) 0 args)).length<28:=by
   have: ¬(28<=(dedup (qb7 H (E.byref g) 0 args)).length):=fun h=>by have:=hc.2;rw[zcr h] at this;cases this
   omega
  have hlk: ∀(b:Bool), ∀x∈(cond b [] (lockAll H (qce H (E.byref g) 0 args)):Upd),x.1∈args.flatMap (reach H 6):=fun b x hx=>by
   cases b with
   | true=>cases hx
   | false=>exact qkv (qfn hx)
  split at h
  ·replace h:=qaa h;obtain⟨hpr,h⟩:=h;obtain⟨out,_,h,_⟩:=qle h
   cases out with
   | ret vs objs=>
    replace h:=qaa h;obtain⟨hl,h⟩:=h;simp only[zab] at hl;simp only[zaa] at h;subst h;exact key _ _ _ (hlk _) hsm (zbt hl.2)
   | pan c objs=>
    replace h:=qaa h;obtain⟨hl,h⟩:=h;simp only[zaa] at h;subst h;exact key _ _ _ (hlk _) hsm (by rw[qag.1 hl];omega)
   | yld x f t=>cases h
  ·cases h
def xb1v{u:Upd}(h:opK P E s H o (fun _ u=>some u) (fun _ u=>some u)=some u): ∀x∈u,x.1∈(touch E s H o).2\/x.1∈makes E o:=by
 have nil: ∀x∈([]:Upd),x.1∈(touch E s H o).2\/x.1∈makes E o:=fun x hx=>by cases hx
 have one: ∀ob,qox o∈makes E o->∀x∈([(qox o,ob)]:Upd),x.1∈(touch E s H o).2\/x.1∈makes E o:=fun ob hm x hx=>by simp at hx;subst hx;exact .inr hm
 cases hop:o.op with
 | move x=>
  simp only[opK,hop,zaa] at h;subst h;exact nil
 | assign x=>
  simp only[opK,hop] at h;split at h
  ·split at h
   ·split at h
    ·simp only[zaa] at h;subst h;exact one _ (by simp[makes,hop])
    ·cases h
   ·cases h
  ·simp only[zaa] at h;subst h;exact nil
 | pick c x y=>
  simp only[opK,hop] at h;split at h
  ·rename_i t hc;cases t<;>simp only[cond_true,cond_false,zaa] at h<;>subst h<;>exact nil
  ·cases h
 | alloc t=>
  simp only[opK,hop] at h;split at h
  ·obtain⟨_,h,_⟩:=qoh h;simp only[zaa] at h;subst h;exact one _ (by simp[makes,hop])
  ·cases h
 | box t x=>
  simp only[opK,hop] at h;obtain⟨_,h,_⟩:=qoh h;simp only[zaa] at h;subst h;exact one _ (by simp[makes,hop])
 | store t x y=>
  simp only[opK,hop] at h;have:=xbi2 h;intro z hz;left;rcases this z hz with⟨i,j,e⟩|⟨i,j,e⟩|⟨⟨p,i,j,e⟩,hm⟩
  ·simp[touch,hop,e]
  ·simp[touch,hop,e]
  ·simp only[touch,hop,e];exact za8 _ hm
 | load t x=>
  simp only[opK,hop] at h;obtain⟨_,h,_⟩:=xbhf h;simp only[zaa] at h;subst h;exact nil
 | nilCheck x=>
  simp only[opK,hop] at h;obtain⟨_,h,_⟩:=xbpq h;simp only[zaa] at h;subst h;exact nil
 | binOp op t x y yt=>
  simp only[opK,hop] at h;obtain⟨_,h,_⟩:=xbpk h;simp only[zaa] at h;subst h;exact nil
 | unOp op t x=>
  simp only[opK,hop] at h;obtain⟨_,h,_⟩:=xb13 h;simp only[zaa] at h;subst h;exact nil
 | convert src dst x=>
  simp only[opK,hop] at h;split at h
  ·replace h:=qaa h;obtain⟨_,h⟩:=h;split at h
   ·replace h:=qaa h;obtain⟨_,h⟩:=h;simp only[zaa] at h;subst h;exact one _ (by simp[makes,hop])
   ·cases h
  ·obtain⟨_,h,_⟩:=qzw h;simp only[zaa] at h;subst h;exact nil
  ·obtain⟨_,h,_⟩:=q84 h;simp only[zaa] at h;subst h;exact nil
  ·obtain⟨_,h,_⟩:=qzw h;simp only[zaa] at h;subst h;exact nil
 | makeInterface t x=>
  simp only[opK,hop] at h;replace h:=qaa h;obtain⟨_,h⟩:=h;split at h
  ·cases h
  ·cases h
  ·simp only[zaa] at h;subst h;exact nil
 | makeFunc g x y=>
  simp only[opK,hop,zaa] at h;subst h;exact nil
 | makeSlice t n c=>
  simp only[opK,hop] at h;unfold qf5 at h;split at h
  ·replace h:=qaa h;obtain⟨_,h⟩:=h;replace h:=qaa h;obtain⟨_,h⟩:=h;replace h:=qaa h;obtain⟨_,h⟩:=h;replace h:=qaa h;obtain⟨_,h⟩:=h;split at h
   ·simp only[zaa] at h;subst h;exact one _ (by simp[makes,hop])
   ·cases h
  ·cases h
 | slice t x lo hi mx=>
  simp only[opK,hop] at h;split at h
  ·obtain⟨_,h,_⟩:=q83 h;simp only[zaa] at h;subst h;exact nil
  ·obtain⟨_,h,_⟩:=q2v h;simp only[zaa] at h;subst h;exact nil
  ·cases h
 | fieldAddr t x f=>
  simp only[opK,hop] at h;obtain⟨_,h,_⟩:=xb1y h;simp only[zaa] at h;subst h;exact nil
 | field t x f=>
  simp only[opK,hop] at h;obtain⟨_,h,_⟩:=q81 h;simp only[zaa] at h;subst h;exact nil
 | indexAddr t x i=>
  simp only[opK,hop] at h;obtain⟨_,h,_⟩:=xb1z h;simp only[zaa] at h;subst h;exact nil
 | index t x i=>
  simp only[opK,hop] at h;obtain⟨_,h,_⟩:=q82 h;simp only[zaa] at h;subst h;exact nil
 | build t ps=>
  simp only[opK,hop] at h;obtain⟨_,h,_⟩:=q80 h;simp only[zaa] at h;subst h;exact nil
 | extract x i=>
  simp only[opK,hop] at h;obtain⟨_,h,_⟩:=xbpm h;simp only[zaa] at h;subst h;exact nil
 | typeAssert x xt asserted ok=>
  simp only[opK,hop] at h;obtain⟨_,h,_⟩:=q2t h;simp only[zaa] at h;subst h;exact nil
 | buildSlice t n ps=>
  simp only[opK,hop,xbo4] at h;unfold qcz at h;split at h
  ·replace h:=qaa h;obtain⟨_,h⟩:=h;split at h
   ·split at h
    ·rename_i rw' u' hb;simp only[zaa] at h;subst h;intro x hx;rcases zaq.1 hx with hx|hx
     ·rcases qki hb x hx with h'| h'
      ·cases h'
      ·left;simp only[touch,hop];rw[List.flatMap_map] at h';exact h'
     ·exact one _ (by simp[makes,hop]) x hx
    ·cases h
   ·cases h
  ·cases h
 | panic x=>
  simp only[opK,hop] at h;split at h
  ·simp only[zaa] at h;subst h;intro y hy;left;simp only[touch,hop];exact qfn hy
  ·cases h
 | call c=>
  simp only[opK,hop] at h;split at h
  ·obtain⟨_,h,_⟩:=xbpn h;simp only[zaa] at h;subst h;exact nil
  ·obtain⟨_,h,_⟩:=xbpl h;simp only[zaa] at h;subst h;exact nil
  ·obtain⟨_,h,_⟩:=xbpp h;simp only[zaa] at h;subst h;exact nil
  ·obtain⟨_,h,_⟩:=xbpo h;simp only[zaa] at h;subst h;exact nil
  ·rename_i hcal;have happ: ∀(t:TypeId) (x y:V),qgf P H t (qox o) x y (fun _ u=>some u)=some u->c.args.toList.map (opd E s)=[x,y]->∀z∈u,z.1∈(touch E s H o).2\/z.1∈makes E o:=fun t x y h hae=>by
    have hpos:qox o∈makes E o:=by simp[makes,hop,hcal]
    unfold qgf at h;split at h
    ·split at h
     ·split at h
      ·split at h
       ·replace h:=qaa h;obtain⟨_,h⟩:=h;replace h:=qaa h;obtain⟨_,h⟩:=h;replace h:=qaa h;obtain⟨_,h⟩:=h;simp only[zaa] at h;subst h;exact one _ hpos
       ·cases h
      ·split at h
       ·split at h
        ·split at h
         ·replace h:=qaa h;obtain⟨_,h⟩:=h;replace h:=qaa h;obtain⟨_,h⟩:=h;replace h:=qaa h;obtain⟨_,h⟩:=h;simp only[zaa] at h;subst h;intro z hz;rcases zaw.1 hz with rfl|hz
          ·left;simp[touch,hop,hcal,hae,reach]
          ·exact one _ hpos z hz
         ·cases h
        ·cases h
       ·cases h
      ·cases h
     ·cases h
    ·cases h
   split at h
   ·rename_i t t2 x y hat hae;split at h
    ·exact happ _ _ _ h hae
    ·replace h:=qa3 h;exact happ _ _ _ h.2 hae
    ·cases h
   ·cases h
  ·rename_i f hcal;split at h
   ·rename_i g A B hfn;intro x hx;rcases xbkh h x hx with h'| ⟨hm,i,hi,hxi⟩
    ·left;simp only[touch,hop,hcal,hfn];exact h'
    ·right
     cases f with
     | func g'=>
      have hm:E.keep g'=true:=hm;simp only[makes,hop,hcal,hm,cond_true];have:i=0\/i=1\/i=2\/i=3:=by omega
      rcases this with rfl|rfl|rfl|rfl<;>simp[hxi]
     | _=>cases hm
   ·cases h
  ·cases h
 | _=>simp[opK,hop] at h
end
structure Rec where
 d:Option Tmp
 v:V
 u:Upd
def quy{p:Nat}: ∀ {u:Upd} {H:Heap},(∀x∈u,x.1≠p)->qal (updH H u) p=qal H p
 | [],H,_=>rfl
 | (q,none)::r,H,h=>by simp only[updH];rw[quy (u:=r) fun x hx=>h x (za8 _ hx),qcu,yb fun e=>h (q,none) (by simp) e.symm]
 | (q,some ob)::r,H,h=>by simp only[updH];rw[quy (u:=r) fun x hx=>h x (za8 _ hx),qax,yb fun e=>h (q,some ob) (by simp) e.symm]
def qi4{p:Nat}: ∀ {u:Upd} {H H':Heap},qal H p=qal H' p->qal (updH H u) p=qal (updH H' u) p
 | [],H,H',h=>h
 | (q,none)::r,H,H',h=>by simp only[updH];exact qi4 (u:=r) (by rw[qcu,qcu,h])
 | (q,some ob)::r,H,H',h=>by simp only[updH];exact qi4 (u:=r) (by rw[qax,qax,h])
def xbja{p:Nat}: ∀ {u:Upd} {H H':Heap},(∃x∈u,x.1=p)->qal (updH H u) p=qal (updH H' u) p
 | [],H,H',⟨x,hx,_⟩=>by cases hx
 | (q,none)::r,H,H',h=>by
  simp only[updH];by_cases hq:q=p
  ·exact qi4 (by rw[qcu,qcu,yc hq.symm,yc hq.symm])
  ·obtain⟨x,hx,e⟩:=h;rcases zaw.1 hx with rfl|hx
   ·exact absurd e hq
   ·exact xbja ⟨x,hx,e⟩
 | (q,some ob)::r,H,H',h=>by
  simp only[updH];by_cases hq:q=p
  ·exact qi4 (by rw[qax,qax,yc hq.symm,yc hq.symm])
  ·obtain⟨x,hx,e⟩:=h;rcases zaw.1 hx with rfl|hx
   ·exact absurd e hq
   ·exact xbja ⟨x,hx,e⟩
def qdo(S:Nat->Bool):Nat->List Rec->LS×Heap->LS×Heap
 | _,[],st=>st
 | i,r::rs,st=>qdo S (i+1) rs (cond (S i) (setD st.1 r.d r.v,updH st.2 r.u) st)
def qlp{t:Nat}{S S':Nat->Bool}: ∀ {rs:List Rec} {i:Nat} {st st':LS×Heap},getV st.1 t=getV st'.1 t->(∀(j:Nat) (r:Rec),rs[j]? =some r->S (i+j)≠S' (i+j)->r.d≠some t)->
  getV (qdo S i rs st).1 t=getV (qdo S' i rs st').1 t
 | [],i,st,st',h,_=>h
 | r::rs,i,st,st',h,hn=>by
  simp only[qdo];refine qlp ?_ fun j x hj hs=>hn (j+1) x (by simpa using hj) (by rw[show i+(j+1)=i+1+j by omega];exact hs);have h0:=hn 0 r rfl;cases hS:S i<;>cases hS':S' i<;>simp only[cond_true,cond_false]
  ·exact h
  ·rw[qe6,yb (h0 (by simp[hS,hS']))];exact h
  ·rw[qe6,yb (h0 (by simp[hS,hS']))];exact h
  ·rw[qe6,qe6,h]
def qhn{p:Nat}{S S':Nat->Bool}: ∀ {rs:List Rec} {i:Nat} {st st':LS×Heap},qal st.2 p=qal st'.2 p->(∀(j:Nat) (r:Rec),rs[j]? =some r->S (i+j)≠S' (i+j)->∀x∈r.u,x.1≠p)->
  qal (qdo S i rs st).2 p=qal (qdo S' i rs st').2 p
 | [],i,st,st',h,_=>h
 | r::rs,i,st,st',h,hn=>by
  simp only[qdo];refine qhn ?_ fun j x hj hs=>hn (j+1) x (by simpa using hj) (by rw[show i+(j+1)=i+1+j by omega];exact hs);have h0:=hn 0 r rfl;cases hS:S i<;>cases hS':S' i<;>simp only[cond_true,cond_false]
  ·exact h
  ·rw[quy (h0 (by simp[hS,hS']))];exact h
  ·rw[quy (h0 (by simp[hS,hS']))];exact h
  ·exact qi4 h
def qqi{t:Nat}{S:Nat->Bool}: ∀ {rs:List Rec} {i m:Nat} {r:Rec} {st:LS×Heap},rs[m]? =some r->S (i+m)=false->r.d=some t->
  (∀(j:Nat) (x:Rec),rs[j]? =some x->j≠m->x.d≠some t)->getV (qdo (fun j=>S j|| Nat.beq j (i+m)) i rs st).1 t=r.v
 | [],i,m,r,st,h,_,_,_=>by simp at h
 | x::rs,i,0,r,st,h,hS,hd,hn=>by
  simp only[zar,zaa] at h;subst h;simp only[qdo];have hb:(S i|| Nat.beq i (i+0))=true:=by simp[za7]
  rw[hb];simp only[cond_true];rw[qlp (S':=fun _=>false) (st':=(setD st.1 x.d x.v,updH st.2 x.u)) rfl fun j y hj _=>hn (j+1) y (by simpa using hj) (by omega)];have key: ∀(l:List Rec) (i:Nat) (st:LS×Heap),qdo (fun _=>false) i l st=st:=fun l=>by
   induction l with
   | nil=>intro i st;rfl
   | cons y l ih=>intro i st;simp only[qdo,cond_false];exact ih _ _
  rw[key,qe6,yc hd]
 | x::rs,i,m+1,r,st,h,hS,hd,hn=>by
  simp only[qdo];have:=qqi (rs:=rs) (i:=i+1) (m:=m) (r:=r) (S:=S) (st:=cond (S i|| Nat.beq i (i+(m+1))) (setD st.1 x.d x.v,updH st.2 x.u) st) (by simpa using h) (by rw[show i+1+m=i+(m+1) by omega];exact hS) hd
   (fun j y hj hne=>hn (j+1) y (by simpa using hj) (by omega))
  rw[show i+1+m=i+(m+1) by omega] at this;exact this
def qqh{p:Nat}{S:Nat->Bool}: ∀ {rs:List Rec} {i m:Nat} {r:Rec} {st:LS×Heap} {H:Heap},rs[m]? =some r->(∃x∈r.u,x.1=p)->
  (∀(j:Nat) (y:Rec),rs[j]? =some y->m<j->S (i+j)=true->∀x∈y.u,x.1≠p)->qal (qdo (fun j=>S j|| Nat.beq j (i+m)) i rs st).2 p=qal (updH H r.u) p
 | [],i,m,r,st,H,h,_,_=>by simp at h
 | x::rs,i,0,r,st,H,h,hk,hn=>by
  simp only[zar,zaa] at h;subst h;simp only[qdo];have hb:(S i|| Nat.beq i (i+0))=true:=by simp[za7]
  rw[hb];simp only[cond_true];rw[qhn (S':=fun _=>false) (st':=(setD st.1 x.d x.v,updH st.2 x.u)) rfl fun j y hj hs=>hn (j+1) y (by simpa using hj) (by omega) (by
   have hne:Nat.beq (i+1+j) (i+0)=false:=by rw[zat];intro e;have:=qag.1 e;omega
   simp only[hne,Bool.or_false,ne_eq,Bool.not_eq_false] at hs;rw[show i+(j+1)=i+1+j by omega];exact hs)]
  have key: ∀(l:List Rec) (i:Nat) (st:LS×Heap),qdo (fun _=>false) i l st=st:=fun l=>by
   induction l with
   | nil=>intro i st;rfl
   | cons y l ih=>intro i st;simp only[qdo,cond_false];exact ih _ _
  rw[key];exact xbja hk
 | x::rs,i,m+1,r,st,H,h,hk,hn=>by
  simp only[qdo];have:=qqh (rs:=rs) (i:=i+1) (m:=m) (r:=r) (S:=S) (st:=cond (S i|| Nat.beq i (i+(m+1))) (setD st.1 x.d x.v,updH st.2 x.u) st) (H:=H) (by simpa using h) hk
   (fun j y hj hlt hs=>hn (j+1) y (by simpa using hj) (by omega) (by rw[show i+(j+1)=i+1+j by omega];exact hs))
  rw[show i+1+m=i+(m+1) by omega] at this;exact this
def Inv.same{s':LS}(h:Inv E w0 bl I0 s H a w Im ρ)(hs: ∀t,getV s' t=getV s t)(hH: ∀p,qal H' p=qal H p):Inv E w0 bl I0 s' H' a w Im ρ:=by
 have hS:shOf H'=shOf H:=by funext p;simp[shOf,hH]
 refine⟨⟨h.gam.im,h.gam.i0,fun p o hp=> ?_,fun p q o o' b x y x' y' hp hq=> ?_,fun p o b x y hp=> ?_,h.gam.imo⟩,h.fr,fun t=> ?_,h.nt,h.df,h.gl,fun j o hj hg=> ?_⟩
 ·rw[hS];exact h.gam.ob p o (by rw[<- hH];exact hp)
 ·exact h.gam.dj p q o o' b x y x' y' (by rw[<- hH];exact hp) (by rw[<- hH];exact hq)
 ·exact h.gam.lk p o b x y (by rw[<- hH];exact hp)
 ·rw[hS,hs];exact h.sl t
 ·exact h.st j o hj (by rw[<- hH];exact hg)
section
variable {P:Program} {E:Env} {β:Type}
def xbb8{s':LS}(ho: ∀x∈o.op.operands,opd E s' x=opd E s x)(hH: ∀p,qal H' p=qal H p):touch E s' H' o=touch E s H o:=by
 have hr: ∀n,reach H' n=reach H n:=fun n=>funext fun v=>qfu n v fun p _=>hH p;have m: ∀x,x∈o.op.operands->opd E s' x=opd E s x:=ho
 cases hop:o.op with
 | load t x=>simp only[touch,hop];rw[m x (by simp[Op.operands,hop])]
 | store t x y=>simp only[touch,hop];rw[m x (by simp[Op.operands,hop]),m y (by simp[Op.operands,hop]),hr]
 | convert a b x=>simp only[touch,hop];rw[m x (by simp[Op.operands,hop]),hr]
 | buildSlice t n ps=>
  simp only[touch,hop];rw[hr];congr 1;exact qjc fun p hp=>by rw[m p.2 (by simp[Op.operands,hop];exact⟨p.1,by simpa using hp⟩)]
 | panic x=>simp only[touch,hop];rw[m x (by simp[Op.operands,hop]),hr]
 | call c=>
  simp only[touch,hop];have hargs:c.args.toList.map (opd E s')=c.args.toList.map (opd E s):=qro fun z hz=>m z (by simp[Op.operands,hop,Call.operands];exact .inr (by simpa using hz));rw[hargs,hr,hr]
  cases hcal:c.callee with
  | value f=>
   simp only;rw[m f (by simp[Op.operands,hop,Call.operands,hcal])]
  | builtin b=>cases b<;>rfl
  | invoke r n=>rfl
 | _=>simp only[touch,hop]
def Closed(ops:Array Oper)(S:Nat->Bool):Prop:= ∀(i:Nat) (o:Oper),ops[i]? =some o->S i=true->∀e∈o.after.toList,Region.binds .any e=true->S e.on=true
structure OrderOk (ops:Array Oper) (bef:Array Nat):Prop where
 back: ∀(i:Nat) (o:Oper),ops[i]? =some o->∀e∈o.after.toList,Region.binds .any e=true->e.on<i
 bits: ∀(i j:Nat) (o o':Oper),ops[i]? =some o->ops[j]? =some o'->(bef.getD i 0).testBit j=true->∃e∈o.after.toList,Region.binds .any e=true/\(e.on=j\/(bef.getD e.on 0).testBit j=true)
 dst: ∀(i j:Nat) (o o':Oper) (d:Nat),ops[i]? =some o->ops[j]? =some o'->o.dst=some d->o'.dst=some d->i=j
 look: ∀(i j:Nat) (o o':Oper) (d:Nat),ops[i]? =some o->ops[j]? =some o'->o'.dst=some d->d∈looks ops o->i=j\/(bef.getD i 0).testBit j=true\/(bef.getD j 0).testBit i=true
def q9x{l:List α}{x:α}(h:l[i]? =some x):(x,i)∈l.zipIdx:=by rw[zca];exact⟨i,by simp[h]⟩
def q2r(h:xbei ops bef=true):OrderOk ops bef:=by
 unfold xbei at h;have hi: ∀(i:Nat) (o:Oper),ops[i]? =some o->_:=fun i o ho=>zai.1 h (o,i) (q9x (by simpa using ho));have h1:=fun i o ho=>(zab _ _▸hi i o ho:_/\_);refine⟨fun i o ho e he hb=> ?_,fun i j o o' ho ho' hbit=> ?_,fun i j o o' d ho ho' hd hd'=> ?_,fun i j o o' d ho ho' hd hl=> ?_⟩
 ·have:=(h1 i o ho).1;have:=Array.all_eq_true_iff_forall_mem.1 this e (by simpa using he);simp only[hb,zc7,Bool.false_or] at this;simpa [zb4] using this
 ·have h2:=zai.1 (h1 i o ho).2 (o',j) (q9x (by simpa using ho'));simp only[zab,hbit,zc7,Bool.false_or] at h2;have h3:=h2.1.1;rw[<- Array.any_toList] at h3;obtain⟨e,he,hx⟩:=zde.1 h3;simp only[zab,zbx] at hx;exact⟨e,he,hx.1,hx.2.imp (fun h=>qag.1 h) id⟩
 ·have h2:=zai.1 (h1 i o ho).2 (o',j) (q9x (by simpa using ho'));simp only[zab] at h2;have h3:=h2.1.2;simp only[xbp1,hd,hd',za7,zc7,Bool.or_false] at h3;exact qag.1 h3
 ·have h2:=zai.1 (h1 i o ho).2 (o',j) (q9x (by simpa using ho'));simp only[zab] at h2;have h3:=h2.2;simp only[hd,zbx] at h3;rcases h3 with((h3|h3)|h3)|h3
  ·exact .inl (qag.1 h3)
  ·exact .inr (.inl h3)
  ·exact .inr (.inr h3)
  ·have:=zai.1 h3 d hl;simp[za7] at this
def qyc(hok:OrderOk ops bef){S:Nat->Bool}(hc:Closed ops S): ∀(i j:Nat) (o o':Oper),ops[i]? =some o->ops[j]? =some o'->S i=true->(bef.getD i 0).testBit j=true->S j=true:=by
 intro i
 induction i using Nat.strongRecOn with
 | _ i ih=>
  intro j o o' ho ho' hS hb;obtain⟨e,he,hbind,hx⟩:=hok.bits i j o o' ho ho' hb;have hSe:=hc i o ho hS e he hbind;rcases hx with rfl|hx
  ·exact hSe
  ·have hlt:=hok.back i o ho e he hbind;have hsz:i<ops.size:=by
    rcases zb5 i ops.size with h|h
    ·exact h
    ·rw[zcz h] at ho;cases ho
   exact ih e.on hlt j _ o' (zbb (by omega)) ho' hSe hx
end
abbrev SH:=LS×Heap
def stP(st0:SH)(rs:List Rec):SH:=qdo (fun _=>true) 0 rs st0
def q1x(r:Rec): ∀(rs:List Rec) (i:Nat) (st:SH),qdo (fun _=>true) i (rs++[r]) st=(setD (qdo (fun _=>true) i rs st).1 r.d r.v,updH (qdo (fun _=>true) i rs st).2 r.u)
 | [],i,st=>rfl
 | x::rs,i,st=>by simp only[zbq,qdo,cond_true];exact q1x r rs (i+1) _
def xbi0(st0:SH)(rs:List Rec)(r:Rec):stP st0 (rs++[r])=(setD (stP st0 rs).1 r.d r.v,updH (stP st0 rs).2 r.u):=q1x r rs 0 st0
section
variable {P:Program} {E:Env} {β:Type}
structure Skip (ops:Array Oper) (st:SH) (o:Oper) (rc:Rec):Prop where
 guard: ∃j want d,o.guard=some (j,want)/\(ops[j]?).bind (·.dst)=some d/\(getV st.1 d=.tup []\/∃b,getV st.1 d=.cl (.bool b)/\b≠want)
 v:rc.v=.tup []
 u:rc.u=[]
def Goes(ops:Array Oper)(st:SH)(o:Oper):Prop:=o.guard=none\/∃j want d,o.guard=some (j,want)/\(ops[j]?).bind (·.dst)=some d/\getV st.1 d=.cl (.bool want)
structure Ran (P:Program) (E:Env) (ops:Array Oper) (bef:Array Nat) (st:SH) (i:Nat) (o:Oper) (rc:Rec):Prop where
 goes:Goes ops st o
 dok:xbjv E o=true
 keys: ∀x∈rc.u,x.1∈(touch E st.1 st.2 o).2\/x.1∈makes E o
 run: ∀ {γ:Type} (k':V->Upd->Option γ) (kp':CV->Upd->Option γ),opK P E st.1 st.2 o k' kp'=k' rc.v rc.u
 clean:xbao E i (bef.getD i 0) rc.v rc.u 0 ops.toList=true
 cleanF:cleanF E i (bef.getD i 0) ((touch E st.1 st.2 o).1++(touch E st.1 st.2 o).2) 0 ops.toList=true
def xbxp(P:Program)(E:Env)(ops:Array Oper)(bef:Array Nat)(st:SH)(i:Nat)(o:Oper)(rc:Rec):Prop:=rc.d=o.dst/\(Skip ops st o rc\/Ran P E ops bef st i o rc)
structure Runs0 (P:Program) (E:Env) (ops:Array Oper) (bef:Array Nat) (st0:SH) (rs:List Rec) (fps:List (Nat×List Nat×List Nat)):Prop where
 step: ∀(i:Nat) (o:Oper) (rc:Rec),ops[i]? =some o->rs[i]? =some rc->xbxp P E ops bef (stP st0 (rs.take i)) i o rc
 fp: ∀(i:Nat) (o:Oper) (rc:Rec),ops[i]? =some o->rs[i]? =some rc->Ran P E ops bef (stP st0 (rs.take i)) i o rc->
  (i,touch E (stP st0 (rs.take i)).1 (stP st0 (rs.take i)).2 o)∈fps
 pair: ∀(i j:Nat) (o o':Oper) (rc rc':Rec),ops[i]? =some o->ops[j]? =some o'->rs[i]? =some rc->rs[j]? =some rc'->j<i->Ran P E ops bef (stP st0 (rs.take i)) i o rc->Ran P E ops bef (stP st0 (rs.take j)) j o' rc'->
  (bef.getD i 0).testBit j=true\/clash (touch E (stP st0 (rs.take j)).1 (stP st0 (rs.take j)).2 o') (touch E (stP st0 (rs.take i)).1 (stP st0 (rs.take i)).2 o)=false
def qss{bits:Nat}{fp:List Nat×List Nat}: ∀ {l:List (Nat×List Nat×List Nat)},apart bits fp l=true->∀x∈l,bits.testBit x.1=true\/clash x.2 fp=false
 | [],_,x,hx=>by cases hx
 | (i,f)::r,h,x,hx=>by
  simp only[apart,zab,zbx,zal] at h;rcases zaw.1 hx with rfl|hx
  ·exact h.1
  ·exact qss h.2 x hx
def q9m{rs:List α}{x:α}(h:i<=rs.length):(rs++[x]).take i=rs.take i:=by rw[List.take_append_of_le_length h]
def Runs0.snoc{st0:SH}{rs:List Rec}{fps':List (Nat×List Nat×List Nat)}(h:Runs0 P E ops bef st0 rs fps){rc:Rec}(ho:ops[rs.length]? =some o)(hst:xbxp P E ops bef (stP st0 rs) rs.length o rc)(hsub: ∀x∈fps,x∈fps')(hfp:Ran P E ops bef (stP st0 rs) rs.length o rc->(rs.length,touch E (stP st0 rs).1 (stP st0 rs).2 o)∈fps'/\apart (bef.getD rs.length 0) (touch E (stP st0 rs).1 (stP st0 rs).2 o) fps=true):
  Runs0 P E ops bef st0 (rs++[rc]) fps':=by
 have hcase: ∀(i:Nat) (x:Rec),(rs++[rc])[i]? =some x->(i<rs.length/\rs[i]? =some x/\(rs++[rc]).take i=rs.take i)\/(i=rs.length/\x=rc/\(rs++[rc]).take i=rs):=fun i x hx=>by
  by_cases hl:i<rs.length
  ·rw[za4 hl] at hx;exact .inl ⟨hl,hx,q9m (by omega)⟩
  ·rw[za1 (by omega)] at hx;have h0:i - rs.length=0:=by
    cases hd:i - rs.length with
    | zero=>rfl
    | succ n=>rw[hd] at hx;simp at hx
   rw[h0] at hx;simp only[zar,zaa] at hx;have hi:i=rs.length:=by omega
   refine .inr ⟨hi,hx.symm, ?_⟩;rw[hi,q9m (zap _),zcw]
 refine⟨fun i o' x ho' hx=> ?_,fun i o' x ho' hx hr=> ?_,fun i j o1 o2 x y h1 h2 hx hy hlt hr1 hr2=> ?_⟩
 ·rcases hcase i x hx with⟨_,c2,c3⟩|⟨c1,c2,c3⟩
  ·rw[c3];exact h.step i o' x ho' c2
  ·subst c1 c2;rw[ho] at ho';simp only[zaa] at ho';subst ho';rw[c3];exact hst
 ·rcases hcase i x hx with⟨_,c2,c3⟩|⟨c1,c2,c3⟩
  ·rw[c3] at hr ⊢;exact hsub _ (h.fp i o' x ho' c2 hr)
  ·subst c1 c2;rw[ho] at ho';simp only[zaa] at ho';subst ho';rw[c3] at hr ⊢;exact(hfp hr).1
 ·rcases hcase j y hy with⟨d1,d2,d3⟩|⟨d1,d2,d3⟩
  ·rw[d3] at hr2 ⊢;rcases hcase i x hx with⟨_,c2,c3⟩|⟨c1,c2,c3⟩
   ·rw[c3] at hr1 ⊢;exact h.pair i j o1 o2 x y h1 h2 c2 d2 hlt hr1 hr2
   ·subst c1 c2;rw[ho] at h1;simp only[zaa] at h1;subst h1;rw[c3] at hr1 ⊢;exact qss (hfp hr1).2 _ (h.fp j o2 y h2 d2 hr2)
  ·exfalso;rcases hcase i x hx with⟨c1,_,_⟩|⟨c1,_,_⟩<;>omega
def xbpj{s':LS}(h: ∀t,getV s' t=getV s t)(x:Operand):opd E s' x=opd E s x:=by
 cases x with
 | tmp t=>exact h t
 | _=>rfl
def q5i{d:Nat}{f:Bool->LS->Option β}{r:β}(h:decK s d f=some r): ∃b s',f b s'=some r/\(∀t,getV s' t=getV s t)/\getV s d=.cl (.bool b):=by
 unfold decK at h;split at h
 ·rename_i b hb;refine⟨b,qdq s d (.cl (.bool b)),by cases b<;>exact h,fun t=> ?_,hb⟩;rw[qth];split
  ·rename_i e;subst e;exact hb.symm
  ·rfl
 ·cases h
def xbf1{d:Nat}{want:Bool}{go skip:LS->Option β}{r:β}(h:xbav s d want go skip=some r): ∃s',(∀t,getV s' t=getV s t)/\
  ((go s'=some r/\getV s d=.cl (.bool want))\/(skip s'=some r/\(getV s d=.tup []\/∃b,getV s d=.cl (.bool b)/\b≠want))):=by
 unfold xbav at h;split at h
 ·rename_i hd;exact⟨s,fun _=>rfl,.inr ⟨h,.inl hd⟩⟩
 ·obtain⟨b,s',h1,h2,h3⟩:=q5i h;refine⟨s',h2, ?_⟩;cases b<;>cases want<;>simp only at h1
  ·exact .inl ⟨h1,h3⟩
  ·exact .inr ⟨h1,.inr ⟨_,h3,by simp⟩⟩
  ·exact .inr ⟨h1,.inr ⟨_,h3,by simp⟩⟩
  ·exact .inl ⟨h1,h3⟩
def xbme{o:Op}{f:LS->Option β}{r:β}(h:xbpr E s o f=some r): ∃s',f s'=some r/\∀t,getV s' t=getV s t:=by
 unfold xbpr at h;split at h
 ·obtain⟨b,s',h1,h2,_⟩:=q5i h;exact⟨s',h1,h2⟩
 ·split at h
  ·split at h
   ·obtain⟨b,s',h1,h2,_⟩:=q5i h;exact⟨s',h1,h2⟩
   ·exact⟨s,h,fun _=>rfl⟩
  ·exact⟨s,h,fun _=>rfl⟩
 ·exact⟨s,h,fun _=>rfl⟩
def xbwp{s':LS}(h: ∀t,getV s' t=getV s t)(d:Option Tmp)(v:V)(t:Nat):getV (setD s' d v) t=getV (setD s d v) t:=by rw[qe6,qe6,h]
structure Panics (P:Program) (E:Env) (ops:Array Oper) (bef:Array Nat) (st0:SH) {β:Type} (k:Ex->St->Option β) (r:β) (rs:List Rec) (fps:List (Nat×List Nat×List Nat)) (o:Oper) (c:CV) (u:Upd):Prop where
 runs:Runs0 P E ops bef st0 rs fps
 at':ops[rs.length]? =some o
 goes:Goes ops (stP st0 rs) o
 run: ∀ {γ:Type} (k':V->Upd->Option γ) (kp':CV->Upd->Option γ),opK P E (stP st0 rs).1 (stP st0 rs).2 o k' kp'=kp' c u
 apart:apart (bef.getD rs.length 0) (touch E (stP st0 rs).1 (stP st0 rs).2 o) fps=true
 cleanF:cleanF E rs.length (bef.getD rs.length 0) ((touch E (stP st0 rs).1 (stP st0 rs).2 o).1++(touch E (stP st0 rs).1 (stP st0 rs).2 o).2) 0 ops.toList=true
 noWrites:noWrites (bef.getD rs.length 0) fps=true
 after:qpb bef rs.length (List.range ops.size)=true
 out:k (.pan c) ⟨[],qs9 (updH (stP st0 rs).2 u)⟩=some r
def qmy{ops:Array Oper}{bef:Array Nat}{st0:SH}{k:Ex->St->Option β}{r:β}: ∀(l:List Oper) (σ:St) (rs:List Rec) (fps:List (Nat×List Nat×List Nat)),xbko P E ops bef rs.length fps l σ k=some r->
  (∀m,m<l.length->l[m]? =ops[rs.length+m]?)->(∀t,getV σ.slots t=getV (stP st0 rs).1 t)->σ.heap=(stP st0 rs).2->Runs0 P E ops bef st0 rs fps->
  (∃rs' fps' σ',rs'.length=rs.length+l.length/\Runs0 P E ops bef st0 rs' fps'/\k .normal σ'=some r/\(∀t,getV σ'.slots t=getV (stP st0 rs').1 t)/\σ'.heap=(stP st0 rs').2)\/
   ∃rs' fps' o c u,Panics P E ops bef st0 k r rs' fps' o c u
 | [],σ,rs,fps,h,hl,hs,hH,hR=>.inl ⟨rs,fps,σ,by simp,hR,h,hs,hH⟩
 | o::rest,σ,rs,fps,h,hl,hs,hH,hR=>by
  have ho:ops[rs.length]? =some o:=by have:=hl 0 (by simp);simpa using this.symm
  have hl': ∀m,m<rest.length->rest[m]? =ops[rs.length+1+m]? :=fun m hm=>by have:=hl (m+1) (by simp;omega);rw[show rs.length+(m+1)=rs.length+1+m by omega] at this;simpa using this
  have next: ∀(rc:Rec) (s2:LS) (fps2:List (Nat×List Nat×List Nat)),xbko P E ops bef (rs.length+1) fps2 rest ⟨setD s2 rc.d rc.v,updH σ.heap rc.u⟩ k=some r->(∀t,getV s2 t=getV σ.slots t)->Runs0 P E ops bef st0 (rs++[rc]) fps2->
    (∃rs' fps' σ',rs'.length=rs.length+(o::rest).length/\Runs0 P E ops bef st0 rs' fps'/\k .normal σ'=some r/\(∀t,getV σ'.slots t=getV (stP st0 rs').1 t)/\σ'.heap=(stP st0 rs').2)\/
     ∃rs' fps' o c u,Panics P E ops bef st0 k r rs' fps' o c u:=fun rc s2 fps2 hd hs2 hR2=>by
   have hlen:(rs++[rc]).length=rs.length+1:=by simp
   have:=qmy rest ⟨setD s2 rc.d rc.v,updH σ.heap rc.u⟩ (rs++[rc]) fps2 (by rw[hlen];exact hd) (by rw[hlen];exact hl') (fun t=>by rw[xbi0];exact xbwp (fun t=>(hs2 t).trans (hs t)) _ _ t) (by rw[xbi0,hH]) hR2;rw[hlen] at this;rcases this with⟨a,b,c,h1,h2⟩|h2
   ·exact .inl ⟨a,b,c,by rw[h1,zac];omega,h2⟩
   ·exact .inr h2
  have go: ∀s,(∀t,getV s t=getV σ.slots t)->Goes ops (stP st0 rs) o->(xbpr E s o.op fun s=>
    cond (apart (bef.getD rs.length 0) (touch E s σ.heap o) fps&&xbjv E o&&cleanF E rs.length (bef.getD rs.length 0) ((touch E s σ.heap o).1++(touch E s σ.heap o).2) 0 ops.toList)
    (opK P E s σ.heap o (fun v u=>cond (xbao E rs.length (bef.getD rs.length 0) v u 0 ops.toList) (xbko P E ops bef (rs.length+1) ((rs.length,touch E s σ.heap o)::fps) rest ⟨setD s o.dst v,updH σ.heap u⟩ k) none)
     (fun c u=>cond (noWrites (bef.getD rs.length 0) fps&&qpb bef rs.length (List.range ops.size)) (k (.pan c) ⟨[],qs9 (updH σ.heap u)⟩) none)) none)=some r->
    (∃rs' fps' σ',rs'.length=rs.length+(o::rest).length/\Runs0 P E ops bef st0 rs' fps'/\k .normal σ'=some r/\(∀t,getV σ'.slots t=getV (stP st0 rs').1 t)/\σ'.heap=(stP st0 rs').2)\/
     ∃rs' fps' o c u,Panics P E ops bef st0 k r rs' fps' o c u:=fun s hse hg hgo=>by
   obtain⟨s',h1,h2⟩:=xbme hgo;have hse': ∀t,getV s' t=getV (stP st0 rs).1 t:=fun t=>(h2 t).trans ((hse t).trans (hs t));have htouch:touch E s' σ.heap o=touch E (stP st0 rs).1 (stP st0 rs).2 o:=by rw[hH];exact xbb8 (fun x _=>xbpj hse' x) fun _=>rfl
   have hop: ∀ {γ:Type} (k':V->Upd->Option γ) (kp':CV->Upd->Option γ),opK P E s' σ.heap o k' kp'=opK P E (stP st0 rs).1 (stP st0 rs).2 o k' kp':=fun k' kp'=>by rw[hH];exact q53 (fun x _=>xbpj hse' x) (fun _ _=>rfl) (fun _ _=>rfl)
   replace h1:=qaa h1;obtain⟨hc,h1⟩:=h1;simp only[zab] at hc;obtain⟨⟨hc1,hc2⟩,hc3⟩:=hc;rw[htouch] at hc1 hc3;rcases xb78 h1 with⟨v,u,h3,hrun⟩|⟨c,u,h3,hrun⟩
   ·replace h3:=qaa h3;obtain⟨hcl,h3⟩:=h3;have hrun': ∀ {γ:Type} (k':V->Upd->Option γ) (kp':CV->Upd->Option γ),opK P E (stP st0 rs).1 (stP st0 rs).2 o k' kp'=k' v u:=fun k' kp'=>(hop k' kp').symm.trans (hrun k' kp');have hran:Ran P E ops bef (stP st0 rs) rs.length o ⟨o.dst,v,u⟩:=⟨hg,hc2,xb1v (hrun' _ _),hrun',hcl,hc3⟩;rw[htouch] at h3;exact next ⟨o.dst,v,u⟩ s' _ h3 (fun t=>(h2 t).trans (hse t)) (hR.snoc ho ⟨rfl,.inr hran⟩ (fun x hx=>za8 _ hx) fun _=>⟨zck,hc1⟩)
   ·replace h3:=qaa h3;obtain⟨hcl,h3⟩:=h3;simp only[zab] at hcl;have hrun': ∀ {γ:Type} (k':V->Upd->Option γ) (kp':CV->Upd->Option γ),opK P E (stP st0 rs).1 (stP st0 rs).2 o k' kp'=kp' c u:=fun k' kp'=>(hop k' kp').symm.trans (hrun k' kp');rw[hH] at h3;exact .inr ⟨rs,fps,o,c,u,hR,ho,hg,hrun',hc1,hc3,hcl.1,hcl.2,h3⟩
  simp only[xbko] at h
  cases hg:o.guard with
  | none=>
   simp only[hg] at h;exact go σ.slots (fun _=>rfl) (.inl hg) h
  | some jw=>
   obtain⟨j,want⟩:=jw;simp only[hg] at h
   cases hd:(ops[j]?).bind (·.dst) with
   | none=>simp only[hd] at h;cases h
   | some d=>
    simp only[hd] at h;obtain⟨s',h2,⟨h1,h3⟩|⟨h1,h3⟩⟩:=xbf1 h
    ·rw[hs] at h3;exact go s' h2 (.inr ⟨j,_,d,hg,hd,h3⟩) h1
    ·rw[hs] at h3;exact next ⟨o.dst,.tup [],[]⟩ s' fps h1 h2 (hR.snoc ho ⟨rfl,.inl ⟨⟨j,want,d,hg,hd,h3⟩,rfl,rfl⟩⟩ (fun x hx=>hx) fun hran=>by
      exfalso;rcases hran.goes with e|⟨j',w',d',e1,e2,e3⟩
      ·rw[hg] at e;cases e
      ·rw[hg] at e1;simp only[zaa,zaz] at e1;obtain⟨rfl,rfl⟩:=e1;rw[hd] at e2;simp only[zaa] at e2;subst e2;rw[e3] at h3;rcases h3 with h3|⟨b,h3,hne⟩
       ·cases h3
       ·simp only[V.cl.injEq,CV.bool.injEq] at h3;exact hne h3.symm)
end
section
variable {P:Program} {E:Env} {β:Type}
def qnv: ∀(l:List Rec) (i:Nat) (S:Nat->Bool) (st:SH),(∀j,i<=j->S j=false)->qdo S i l st=st
 | [],i,S,st,_=>rfl
 | x::l,i,S,st,h=>by simp only[qdo,h i (zap _),cond_false];exact qnv l (i+1) S st fun j hj=>h j (by omega)
def qys(n:Nat): ∀(rs:List Rec) (i:Nat) (st:SH),qdo (fun _=>true) i (rs.take n) st=qdo (fun j=>Nat.blt j (i+n)) i rs st:=by
 induction n with
 | zero=>
  intro rs i st;rw[zdz,qnv rs i (fun j=>Nat.blt j (i+0)) st fun j hj=>by rw[zat];intro h;simp[zb4] at h;omega];rfl
 | succ n ih=>
  intro rs i st
  cases rs with
  | nil=>rfl
  | cons x rs=>
   have hb:Nat.blt i (i+(n+1))=true:=by simp[zb4]
   simp only[zb3,qdo,hb,cond_true];rw[ih rs (i+1),show i+1+n=i+(n+1) by omega]
def q5b(hok:OrderOk ops bef): ∀(i j:Nat) (o o':Oper),ops[i]? =some o->ops[j]? =some o'->(bef.getD i 0).testBit j=true->j<i:=by
 intro i
 induction i using Nat.strongRecOn with
 | _ i ih=>
  intro j o o' ho ho' hb;obtain⟨e,he,hbind,hx⟩:=hok.bits i j o o' ho ho' hb;have hlt:=hok.back i o ho e he hbind;rcases hx with rfl|hx
  ·exact hlt
  ·have hsz:i<ops.size:=by
    rcases zb5 i ops.size with h|h
    ·exact h
    ·rw[zcz h] at ho;cases ho
   have:=ih e.on hlt j _ o' (zbb (by omega)) ho' hx;omega
def Due(ops:Array Oper)(S:Nat->Bool)(i:Nat)(o:Oper):Prop:=S i=false/\∀e∈o.after.toList,Region.binds .any e=true->S e.on=true
def qnh(hok:OrderOk ops bef){S:Nat->Bool}(hc:Closed ops S){j:Nat}{o':Oper}(ho:ops[i]? =some o)(ho':ops[j]? =some o')(hd:Due ops S i o)(hb:(bef.getD i 0).testBit j=true):S j=true:=by
 obtain⟨e,he,hbind,hx⟩:=hok.bits i j o o' ho ho' hb;rcases hx with rfl|hx
 ·exact hd.2 e he hbind
 ·have hlt:=hok.back i o ho e he hbind;have hsz:i<ops.size:=by
   rcases zb5 i ops.size with h|h
   ·exact h
   ·rw[zcz h] at ho;cases ho
  exact qyc hok hc e.on j _ o' (zbb (by omega)) ho' (hd.2 e he hbind) hx
def unordered(hok:OrderOk ops bef){S:Nat->Bool}(hc:Closed ops S){j:Nat}{o':Oper}(ho:ops[i]? =some o)(ho':ops[j]? =some o')(hd:Due ops S i o)(hne:S j≠Nat.blt j i):
  j≠i/\(bef.getD i 0).testBit j=false/\(bef.getD j 0).testBit i=false:=by
 have hbl: ∀a b,Nat.blt a b=true↔a<b:=fun a b=>by simp[zb4]
 refine⟨fun e=> ?_, ?_, ?_⟩
 ·subst e;apply hne;rw[hd.1];symm;rw[zat];intro h;have:=(hbl j j).1 h;omega
 ·rw[zat];intro hb;apply hne;rw[qnh hok hc ho ho' hd hb,(hbl j i).2 (q5b hok i j o o' ho ho' hb)]
 ·rw[zat];intro hb;have hlt:=q5b hok j i o' o ho' ho hb
  cases hS:S j with
  | true=>
   have:=qyc hok hc j i o' o ho' ho hS hb;rw[hd.1] at this;cases this
  | false=>
   apply hne;rw[hS];symm;rw[zat];intro h;have:=(hbl j i).1 h;omega
def xbu1{rs:List Rec}(hlen:rs.length<=ops.size){j:Nat}{x:Rec}(h:rs[j]? =some x): ∃o,ops[j]? =some o:=by have:=(zae.1 h).1;exact⟨_,zbb (by omega)⟩
def q0i{st0:SH}{rs:List Rec}(hok:OrderOk ops bef)(hR:Runs0 P E ops bef st0 rs fps)(hlen:rs.length<=ops.size){S:Nat->Bool}(hc:Closed ops S)(ho:ops[i]? =some o)(hd:Due ops S i o){t:Nat}(ht:t∈looks ops o):getV (qdo S 0 rs st0).1 t=getV (stP st0 (rs.take i)).1 t:=by
 unfold stP;rw[qys];refine qlp rfl fun j x hj hne hx=> ?_;rw[zay,zay] at hne;obtain⟨o',ho'⟩:=xbu1 hlen hj;obtain⟨u1,u2,u3⟩:=unordered hok hc ho ho' hd hne;rcases hok.look i j o o' t ho ho' ((hR.step j o' x ho' hj).1.symm.trans hx) ht with e|e|e
 ·exact u1 e.symm
 ·rw[u2] at e;cases e
 ·rw[u3] at e;cases e
def qlm{j bits:Nat}{fp:List Nat}: ∀ {l:List Oper} {i:Nat},cleanF E j bits fp i l=true->∀(m:Nat) (o:Oper),l[m]? =some o->i+m=j\/bits.testBit (i+m)=true\/meets (makes E o) fp=false
 | [],i,h,m,o,hm=>by simp at hm
 | x::r,i,h,m,o,hm=>by
  simp only[cleanF,zab,zbx,zal] at h
  cases m with
  | zero=>
   simp at hm;subst hm;rcases h.1 with(h1|h1)|h1
   ·exact .inl (qag.1 h1)
   ·exact .inr (.inl h1)
   ·exact .inr (.inr h1)
  | succ m=>
   have:=qlm h.2 m o (by simpa using hm);rw[show i+1+m=i+(m+1) by omega] at this;exact this
def qdk{a b:List Nat}(h:meets a b=false)(ha:p∈a)(hb:p∈b):False:=by have:=List.any_eq_false.1 h p ha;exact this (zde.2 ⟨p,hb,za7 p⟩)
def xbi6{st0:SH}{rs:List Rec}(hok:OrderOk ops bef)(hR:Runs0 P E ops bef st0 rs fps)(hlen:rs.length<=ops.size){S:Nat->Bool}(hc:Closed ops S){rc:Rec}(ho:ops[i]? =some o)(hrc:rs[i]? =some rc)(hd:Due ops S i o)(hran:Ran P E ops bef (stP st0 (rs.take i)) i o rc)(hp:p∈(touch E (stP st0 (rs.take i)).1 (stP st0 (rs.take i)).2 o).1\/p∈(touch E (stP st0 (rs.take i)).1 (stP st0 (rs.take i)).2 o).2):
  qal (qdo S 0 rs st0).2 p=qal (stP st0 (rs.take i)).2 p:=by
 have e:stP st0 (rs.take i)=qdo (fun j=>Nat.blt j (0+i)) 0 rs st0:=by unfold stP;rw[qys]
 have hgoal:qal (qdo S 0 rs st0).2 p=qal (qdo (fun j=>Nat.blt j (0+i)) 0 rs st0).2 p:=by
  refine qhn rfl fun j x hj hne y hy hyp=> ?_;rw[zay,zay] at hne;obtain⟨o',ho'⟩:=xbu1 hlen hj;obtain⟨u1,u2,u3⟩:=unordered hok hc ho ho' hd hne;rcases(hR.step j o' x ho' hj).2 with hsk|hrj
  ·rw[hsk.u] at hy;cases hy
  ·rcases hrj.keys y hy with hk|hk
   ·rw[hyp] at hk;rcases zb5 j i with hlt|hge
    ·rcases hR.pair i j o o' rc x ho ho' hrc hj hlt hran hrj with hb|hb
     ·rw[u2] at hb;cases hb
     ·simp only[clash,zct] at hb;rcases hp with hp|hp
      ·exact qdk hb.1.1 hk hp
      ·exact qdk hb.1.2 hk hp
    ·rcases hR.pair j i o' o x rc ho' ho hj hrc (by omega) hrj hran with hb|hb
     ·rw[u3] at hb;cases hb
     ·simp only[clash,zct] at hb;rcases hp with hp|hp
      ·exact qdk hb.2 hp hk
      ·exact qdk hb.1.2 hp hk
   ·rw[hyp] at hk;rcases qlm hran.cleanF j o' (by simpa using ho') with h1|h1|h1
    ·omega
    ·rw[zay,u2] at h1;cases h1
    ·exact qdk h1 hk (zaq.2 hp)
 rw[hgoal,e]
def qpg{j bits:Nat}{v:V}{u:Upd}: ∀ {l:List Oper} {i:Nat},xbao E j bits v u i l=true->∀(m:Nat) (o:Oper),l[m]? =some o->i+m=j\/bits.testBit (i+m)=true\/∀p∈makes E o,qel p v=false/\qof p u=true
 | [],i,h,m,o,hm=>by simp at hm
 | x::r,i,h,m,o,hm=>by
  simp only[xbao,zab,zbx] at h
  cases m with
  | zero=>
   simp at hm;subst hm;rcases h.1 with(h1|h1)|h1
   ·exact .inl (qag.1 h1)
   ·exact .inr (.inl h1)
   ·refine .inr (.inr fun p hp=> ?_);have:=zai.1 h1 p hp;simp only[zab,zal] at this;exact this
  | succ m=>
   have:=qpg h.2 m o (by simpa using hm);rw[show i+1+m=i+(m+1) by omega] at this;exact this
def qwa{p:Nat}: ∀ {u:Upd},qof p u=true->∀x∈u,x.1≠p
 | [],_,x,hx=>by cases hx
 | (q,ob)::r,h,x,hx=>by
  simp only[qof,zab,zal] at h;rcases zaw.1 hx with rfl|hx
  ·exact qbh h.1.1
  ·exact qwa h.2 x hx
def quv{st0:SH}{rs:List Rec}(hok:OrderOk ops bef)(hR:Runs0 P E ops bef st0 rs fps)(hlen:rs.length<=ops.size){S:Nat->Bool}{rc:Rec}(hrc:rs[i]? =some rc)(hS:S i=false)(t:Nat):
  getV (setD (qdo S 0 rs st0).1 rc.d rc.v) t=getV (qdo (fun j=>S j|| Nat.beq j i) 0 rs st0).1 t:=by
 obtain⟨o,ho⟩:=xbu1 hlen hrc;rw[qe6];split
 ·rename_i hdt;have:=qqi (t:=t) (S:=S) (rs:=rs) (i:=0) (m:=i) (r:=rc) (st:=st0) hrc (by rw[zay];exact hS) hdt fun j x hj hne hx=>by obtain⟨o',ho'⟩:=xbu1 hlen hj;exact hne (hok.dst j i o' o t ho' ho ((hR.step j o' x ho' hj).1.symm.trans hx) ((hR.step i o rc ho hrc).1.symm.trans hdt))
  rw[zay] at this;exact this.symm
 ·rename_i hdt;refine qlp rfl fun j x hj hne hx=> ?_;rw[zay] at hne
  cases hb:Nat.beq j i with
  | true=>
   obtain rfl:=qag.1 hb;rw[hrc] at hj;simp only[zaa] at hj;subst hj;exact hdt hx
  | false=>simp[hb] at hne
def quu{st0:SH}{rs:List Rec}(hok:OrderOk ops bef)(hR:Runs0 P E ops bef st0 rs fps)(hlen:rs.length<=ops.size){S:Nat->Bool}(hc:Closed ops S){rc:Rec}(ho:ops[i]? =some o)(hrc:rs[i]? =some rc)(hd:Due ops S i o)(p:Nat):qal (updH (qdo S 0 rs st0).2 rc.u) p=qal (qdo (fun j=>S j|| Nat.beq j i) 0 rs st0).2 p:=by
 by_cases hk: ∃x∈rc.u,x.1=p
 ·have:=qqh (p:=p) (S:=S) (rs:=rs) (i:=0) (m:=i) (r:=rc) (st:=st0) (H:=(qdo S 0 rs st0).2) hrc hk fun j y hj hlt hSj z hz hzp=>by
   rw[zay] at hSj;obtain⟨o',ho'⟩:=xbu1 hlen hj;have hbit:(bef.getD j 0).testBit i=false:=by rw[zat];intro hb;have:=qyc hok hc j i o' o ho' ho hSj hb;rw[hd.1] at this;cases this
   have hbit2:(bef.getD i 0).testBit j=false:=by rw[zat];intro hb;have:=q5b hok i j o o' ho ho' hb;omega
   rcases(hR.step j o' y ho' hj).2 with hsk|hrj
   ·rw[hsk.u] at hz;cases hz
   ·obtain⟨x,hx,hxp⟩:=hk;rcases(hR.step i o rc ho hrc).2 with hsk|hri
    ·rw[hsk.u] at hx;cases hx
    ·rcases hri.keys x hx with h1|h1
     ·rw[hxp] at h1;rcases hrj.keys z hz with h2|h2
      ·rw[hzp] at h2;rcases hR.pair j i o' o y rc ho' ho hj hrc hlt hrj hri with hb|hb
       ·rw[hbit] at hb;cases hb
       ·simp only[clash,zct] at hb;exact qdk hb.1.2 h1 h2
      ·rw[hzp] at h2;rcases qlm hri.cleanF j o' (by simpa using ho') with h3|h3|h3
       ·omega
       ·rw[zay,hbit2] at h3;cases h3
       ·exact qdk h3 h2 (zaq.2 (.inr h1))
     ·rw[hxp] at h1;rcases qpg hrj.clean i o (by simpa using ho) with h3|h3|h3
      ·omega
      ·rw[zay,hbit] at h3;cases h3
      ·exact qwa (h3 p h1).2 z hz hzp
  rw[zay] at this;exact this.symm
 ·rw[quy fun x hx e=>hk ⟨x,hx,e⟩];refine qhn rfl fun j x hj hne y hy hyp=> ?_;rw[zay] at hne
  cases hb:Nat.beq j i with
  | true=>
   obtain rfl:=qag.1 hb;rw[hrc] at hj;simp only[zaa] at hj;subst hj;exact hk ⟨y,hy,hyp⟩
  | false=>simp[hb] at hne
def Free.setD(h:Free p s H){d:Option Tmp}{v:V}(hv:qel p v=false):Free p (YtoaakappnhemiaaGreatDoorA.setD s d v) H:=by
 refine⟨h.big,h.none,fun t=> ?_,h.ob⟩;rw[qe6];split
 ·exact hv
 ·exact h.sl t
def Free.upd{p:Nat}{s:LS}: ∀ {u:Upd} {H:Heap},Free p s H->qof p u=true->Free p s (updH H u)
 | [],H,h,_=>h
 | (q,.none)::r,H,h,hu=>by simp only[qof,zab] at hu;exact Free.upd (u:=r) h.del hu.2
 | (q,.some ob)::r,H,h,hu=>by
  simp only[qof,zab,zal] at hu;obtain⟨⟨h1,h2⟩,h3⟩:=hu;refine Free.upd (u:=r) (H:=qdq H q ob) ⟨h.big, ?_,h.sl,fun x o hx l hl=> ?_⟩ h3
  ·rw[qax,yb fun e=>qbh h1 e.symm];exact h.none
  ·rw[qax] at hx;split at hx
   ·simp only[zaa] at hx;subst hx;obtain⟨row,lock⟩:=ob;have hl:row=.var l:=hl;subst hl;simpa using h2
   ·exact h.ob x o hx l hl
def q7i{p:Nat}{S:Nat->Bool}: ∀ {rs:List Rec} {i:Nat} {st:SH},Free p st.1 st.2->(∀(j:Nat) (x:Rec),rs[j]? =some x->S (i+j)=true->qel p x.v=false/\qof p x.u=true)->Free p (qdo S i rs st).1 (qdo S i rs st).2
 | [],i,st,h,_=>h
 | x::rs,i,st,h,hn=>by
  simp only[qdo];refine q7i ?_ fun j y hj hs=>hn (j+1) y (by simpa using hj) (by rw[show i+(j+1)=i+1+j by omega];exact hs)
  cases hS:S i with
  | false=>exact h
  | true=>
   obtain⟨h1,h2⟩:=hn 0 x rfl hS;exact Free.upd (h.setD h1) h2
def xbi5{st0:SH}{rs:List Rec}(hok:OrderOk ops bef)(hR:Runs0 P E ops bef st0 rs fps)(hlen:rs.length<=ops.size){S:Nat->Bool}(hc:Closed ops S)(ho:ops[i]? =some o)(hS:S i=false)(hp:p∈makes E o)(hf:Free p st0.1 st0.2):Free p (qdo S 0 rs st0).1 (qdo S 0 rs st0).2:=by
 refine q7i hf fun j x hj hSj=> ?_;rw[zay] at hSj;obtain⟨o',ho'⟩:=xbu1 hlen hj;rcases(hR.step j o' x ho' hj).2 with hsk|hrj
 ·rw[hsk.v,hsk.u];exact⟨rfl,rfl⟩
 ·rcases qpg hrj.clean i o (by simpa using ho) with h3|h3|h3
  ·rw[zay] at h3;subst h3;rw[hS] at hSj;cases hSj
  ·rw[zay] at h3;have:=qyc hok hc j i o' o ho' ho hSj h3;rw[hS] at this;cases this
  ·exact h3 p hp
end
section
variable {P:Program} {E:Env}
def xbgp{t:Tmp}(h:Operand.tmp t∈o.op.operands):t∈looks ops o:=by unfold looks;refine zaq.2 (.inl (List.mem_filterMap.2 ⟨.tmp t,by simpa using h,rfl⟩))
def qlt{j d:Nat}{want:Bool}(hg:o.guard=some (j,want))(hd:(ops[j]?).bind (·.dst)=some d):d∈looks ops o:=by unfold looks;refine zaq.2 (.inr ?_);simp[hg,hd]
def q6r{st0:SH}{rs:List Rec}(hE: ∀g,Sound P E.glob g (ctr E g))(hok:OrderOk ops bef)(hR:Runs0 P E ops bef st0 rs fps)(hlen:rs.length<=ops.size)(hfree: ∀(i:Nat) (o:Oper),ops[i]? =some o->∀p∈makes E o,Free p st0.1 st0.2){S:Nat->Bool}(hc:Closed ops S){rc:Rec}(ho:ops[i]? =some o)(hrc:rs[i]? =some rc)(hd:Due ops S i o)(hO:On E w0 bl I0 ⟨(qdo S 0 rs st0).1,(qdo S 0 rs st0).2⟩ a w):
  wpOp P ops Q i (On E w0 bl I0 ⟨(qdo (fun j=>S j|| Nat.beq j i) 0 rs st0).1,(qdo (fun j=>S j|| Nat.beq j i) 0 rs st0).2⟩) a w:=by
 obtain⟨Im,ρ,hI⟩:=hO;have hI:Inv E w0 bl I0 (qdo S 0 rs st0).1 (qdo S 0 rs st0).2 a w Im ρ:=hI;have hstep:=hR.step i o rc ho hrc;have hgv: ∀(j want:Nat) (d:Nat) (b:Bool),d∈looks ops o->getV (stP st0 (rs.take i)).1 d=.cl (.bool b)->a.tmps.getD d undef=.bool b:=fun _ _ d b hl hv=>by have:=hI.sl d;rw[q0i hok hR hlen hc ho hd hl,hv] at this;exact this.bool
 unfold wpOp;rw[ho];simp only;rcases hstep.2 with hsk|hran
 ·obtain⟨j,want,d,h1,h2,h3⟩:=hsk.guard;have hy:=qwb (want:=want) (tmps:=a.tmps) h2 fun b hb=>by
   rcases h3 with h3|⟨b',h3,hne⟩
   ·have:=hI.sl d;rw[q0i hok hR hlen hc ho hd (qlt h1 h2),h3,hb] at this;cases this
   ·have:=hgv 0 0 d b' (qlt h1 h2) h3;rw[this] at hb;cases hb;exact hne
  rw[yb (by simp[Region.wanted,h1,hy])];refine⟨Im,ρ,(hI.skipped o.dst).same (fun t=> ?_) fun p=> ?_⟩
  ·have:=quv hok hR hlen hrc hd.1 t;rw[hsk.v,hstep.1] at this;exact this.symm
  ·have:=quu hok hR hlen hc ho hrc hd p;rw[hsk.u] at this;exact this.symm
 ·have hw:Region.wanted o (yielded ops a.tmps)=true:=by
   rcases hran.goes with hg|⟨j,want,d,h1,h2,h3⟩
   ·simp[Region.wanted,hg]
   ·have hy:=qu2 h2 (hgv 0 0 d want (qlt h1 h2) h3);simp[Region.wanted,h1,hy]
  rw[yc hw];left;have hop:opK P E (qdo S 0 rs st0).1 (qdo S 0 rs st0).2 o (fun v u=>some (v,u)) (fun _ _=>none)=some (rc.v,rc.u):=by
   rw[q53 (s:=(stP st0 (rs.take i)).1) (H:=(stP st0 (rs.take i)).2) (fun x hx=> ?_) (fun p hp=>xbi6 hok hR hlen hc ho hrc hd hran (.inl hp)) (fun p hp=>xbi6 hok hR hlen hc ho hrc hd hran (.inr hp)),hran.run]
   cases x with
   | tmp t=>exact q0i hok hR hlen hc ho hd (xbgp hx)
   | _=>rfl
  refine qzq hE hop hI (fun p hp=>xbi5 hok hR hlen hc ho hd.1 hp (hfree i o ho p hp)) (fun v u x w' Im' ρ' hk hI' hv'=> ?_) fun c u x w' Im' ρ' hk=>by cases hk
  simp only[zaa,zaz] at hk;obtain⟨rfl,rfl⟩:=hk;have hdk: ∀t,o.dst=some t->t<E.nt:=fun t ht=>by have:=hran.dok;simp only[xbjv,ht] at this;simpa [zb4] using this
  refine⟨Im',ρ',(hI'.put hdk hv').same (fun t=> ?_) fun p=>(quu hok hR hlen hc ho hrc hd p).symm⟩;have:=quv hok hR hlen hrc hd.1 t;rw[hstep.1] at this;exact this.symm
end
def qsm{l:List Nat}: ∀(H:Heap) (p:Nat),qal (trimH l H) p=cond (l.any (Nat.beq p)) (qal H p) none
 | [],p=>by cases l.any (Nat.beq p)<;>rfl
 | (k,v)::r,p=>by
  have ih:=qsm (l:=l) r p;simp only[trimH];by_cases hk:k=p
  ·subst hk
   cases h:l.any (Nat.beq k) with
   | true=>simp only[cond_true,qal,za7]
   | false=>rw[h] at ih;simpa using ih
  ·have hb:Nat.beq k p=false:=by rw[zat];intro h;exact hk (qag.1 h)
   have e:qal ((k,v)::r) p=qal r p:=by simp only[qal,hb,cond_false]
   rw[e]
   cases h:l.any (Nat.beq k) with
   | true=>simp only[cond_true];rw[show qal ((k,v)::trimH l r) p=qal (trimH l r) p by simp only[qal,hb,cond_false]];exact ih
   | false=>simp only[cond_false];exact ih
def xbkc{n:Nat}:(List.range n).any (Nat.beq p)=Nat.blt p n:=by
 rw[zbn];simp only[zde,zb8,zb4];constructor
 ·rintro⟨x,hx,hb⟩;have:=qag.1 hb;omega
 ·intro h;exact⟨p,h,za7 p⟩
section
variable {P:Program} {E:Env} {β:Type} {w0:Base} {bl I0:NP}
def asS(listed:Array Bool):Nat->Bool:=fun j=>listed.getD j false
def left(n:Nat)(listed:Array Bool):Nat:=((List.range n).filter fun j=> !asS listed j).length
def qj8{listed:Array Bool}(h:i<listed.size):asS (listed.setIfInBounds i true)=fun j=>asS listed j|| Nat.beq j i:=by
 funext j;unfold asS;by_cases hj:i=j
 ·subst hj;simp[h,za7]
 ·rw[getD_set_ne false hj];have:Nat.beq j i=false:=by rw[zat];intro e;exact hj (qag.1 e).symm
  simp[this]
def qy2{n:Nat}{listed:Array Bool}(h:i<listed.size)(hn:i<n)(hf:asS listed i=false):left n (listed.setIfInBounds i true)<left n listed:=by
 unfold left;rw[qj8 h];have key: ∀l:List Nat,((l.filter fun j=> !(asS listed j|| Nat.beq j i)).length<=(l.filter fun j=> !asS listed j).length)/\(i∈l->(l.filter fun j=> !(asS listed j|| Nat.beq j i)).length<(l.filter fun j=> !asS listed j).length):=fun l=>by
  induction l with
  | nil=>exact⟨zap _,fun h=>by cases h⟩
  | cons x r ih=>
   by_cases hx:x=i
   ·subst hx;have e1:((x::r).filter fun j=> !(asS listed j|| Nat.beq j x))=r.filter fun j=> !(asS listed j|| Nat.beq j x):=by rw[List.filter_cons];simp[za7]
    have e2:((x::r).filter fun j=> !asS listed j)=x::r.filter fun j=> !asS listed j:=by rw[List.filter_cons];simp[hf]
    rw[e1,e2,zac];exact⟨by have:=ih.1;omega,fun _=>by have:=ih.1;omega⟩
   ·have hb:Nat.beq x i=false:=by rw[zat];intro e;exact hx (qag.1 e)
    simp only[List.filter_cons,hb,Bool.or_false];cases asS listed x<;>simp only[zc7,Bool.not_false,if_true,zan,if_false,zac]
    ·refine⟨by have:=ih.1;omega,fun h=> ?_⟩;rcases zaw.1 h with e|h
     ·exact absurd e.symm hx
     ·have:=ih.2 h;omega
    ·refine⟨ih.1,fun h=> ?_⟩;rcases zaw.1 h with e|h
     ·exact absurd e.symm hx
     ·exact ih.2 h
 exact(key (List.range n)).2 (zb8.2 hn)
def qlo{listed:Array Bool}(hsz:listed.size=ops.size)(h:i∈Region.ready .any ops listed):i<ops.size/\∃o,ops[i]? =some o/\Due ops (asS listed) i o:=by obtain⟨h0,o,ho,hall⟩:=mem_ready.1 h;have hlt:i<ops.size:=(zcy.1 ho).1;refine⟨hlt,o,ho, ?_,fun e he hb=>hall e (by simpa using he) hb⟩;unfold asS;rw[zav] at h0 ⊢;rw[zbb (by omega)] at h0 ⊢;exact h0
def qom(hok:OrderOk ops bef){listed:Array Bool}(hsz:listed.size=ops.size)(h:Region.ready .any ops listed=[]): ∀i,i<ops.size->asS listed i=true:=by
 intro i
 induction i using Nat.strongRecOn with
 | _ i ih=>
  intro hi;have ho:ops[i]? =some ops[i]:=zbb hi
  cases hc:asS listed i with
  | true=>rfl
  | false=>
   exfalso;have:i∈Region.ready .any ops listed:=mem_ready.2 ⟨by
    unfold asS at hc;rw[zav] at hc ⊢;rw[zbb (by omega)] at hc ⊢;exact hc,_,ho,fun e he hb=>ih e.on (hok.back i _ ho e (by simpa using he) hb) (by have:=hok.back i _ ho e (by simpa using he) hb;omega)⟩
   rw[h] at this;cases this
def qs7{S:Nat->Bool}(hc:Closed ops S)(ho:ops[i]? =some o)(hd:Due ops S i o):Closed ops fun j=>S j|| Nat.beq j i:=by
 intro j oj hj hS e he hb;simp only[zbx] at hS ⊢;rcases hS with hS|hS
 ·exact .inl (hc j oj hj hS e he hb)
 ·obtain rfl:=qag.1 hS;rw[ho] at hj;simp only[zaa] at hj;subst hj;exact .inl (hd.2 e he hb)
def qrh{n:Nat}{listed:Array Bool}(h:left n listed=0): ∀i,i<n->asS listed i=true:=fun i hi=>by
 unfold left at h;have hz:=zby.1 h
 cases hc:asS listed i with
 | true=>rfl
 | false=>
  have:i∈(List.range n).filter fun j=> !asS listed j:=zdu.2 ⟨zb8.2 hi,by simp[hc]⟩;rw[hz] at this;cases this
def qt5{listed:Array Bool}(hsz:listed.size=ops.size)(h: ∀i,i<ops.size->asS listed i=true):Region.ready .any ops listed=[]:=by
 cases hr:Region.ready .any ops listed with
 | nil=>rfl
 | cons i r=>
  obtain⟨h1,o,ho,hd⟩:=qlo hsz (i:=i) (by rw[hr];exact zck);have:=hd.1;rw[h i h1] at this;cases this
def xbdw{st0:SH}{rs:List Rec}(hE: ∀g,Sound P E.glob g (ctr E g))(hok:OrderOk ops bef)(hR:Runs0 P E ops bef st0 rs fps)(hlen:rs.length=ops.size)(hfree: ∀(i:Nat) (o:Oper),ops[i]? =some o->∀p∈makes E o,Free p st0.1 st0.2)(hQ: ∀a w,On E w0 bl I0 ⟨(stP st0 rs).1,(stP st0 rs).2⟩ a w->Q .normal a w): ∀(fuel:Nat) (listed:Array Bool) (a:Act) (w:World),
  listed.size=ops.size->left ops.size listed<=fuel->Closed ops (asS listed)->On E w0 bl I0 ⟨(qdo (asS listed) 0 rs st0).1,(qdo (asS listed) 0 rs st0).2⟩ a w->wpAny P .any ops Q fuel listed a w:=by
 have fin: ∀(listed:Array Bool) (a:Act) (w:World),(∀i,i<ops.size->asS listed i=true)->On E w0 bl I0 ⟨(qdo (asS listed) 0 rs st0).1,(qdo (asS listed) 0 rs st0).2⟩ a w->Q .normal a w:=fun listed a w hall hO=>by
  refine hQ a w ?_;obtain⟨Im,ρ,hI⟩:=hO;have hS: ∀(j:Nat) (r:Rec),rs[j]? =some r->asS listed (0+j)=true:=fun j r hj=>by have:=(zae.1 hj).1;rw[zay];exact hall j (by omega)
  refine⟨Im,ρ,hI.same (fun t=> ?_) fun p=> ?_⟩
  ·exact qlp rfl fun j r hj hne=>absurd (hS j r hj).symm hne
  ·exact qhn rfl fun j r hj hne=>absurd (hS j r hj).symm hne
 intro fuel
 induction fuel with
 | zero=>
  intro listed a w hsz hl hc hO;have hall:=qrh (Nat.le_zero.1 hl);exact⟨qt5 hsz hall,fin listed a w hall hO⟩
 | succ fuel ih=>
  intro listed a w hsz hl hc hO;refine⟨fun hn=>fin listed a w (qom hok hsz hn) hO,fun i hi=> ?_⟩;obtain⟨hlt,o,ho,hd⟩:=qlo hsz hi;have hrc:rs[i]? =some rs[i]:=zag (by omega);refine wpOp_mono (fun a' w' hO'=> ?_) (q6r hE hok hR (Nat.le_of_eq hlen) hfree hc ho hrc hd hO);refine ih _ a' w' (by simpa using hsz) ?_ ?_ ?_
  ·have:=qy2 (n:=ops.size) (listed:=listed) (i:=i) (by omega) hlt hd.1;omega
  ·rw[qj8 (by omega)];exact qs7 hc ho hd
  ·rw[qj8 (by omega)];exact hO'
def qqo{bits:Nat}: ∀ {l:List (Nat×List Nat×List Nat)},noWrites bits l=true->∀x∈l,bits.testBit x.1=true\/x.2.2=[]
 | [],_,x,hx=>by cases hx
 | (i,f)::r,h,x,hx=>by
  simp only[noWrites,zab,zbx] at h;rcases zaw.1 hx with rfl|hx
  ·exact h.1.imp id fun h=>List.isEmpty_iff.1 h
  ·exact qqo h.2 x hx
def qqb{b:Array Nat}{i:Nat}: ∀ {l:List Nat},qpb b i l=true->∀j∈l,j<=i\/(b.getD j 0).testBit i=true
 | [],_,j,hj=>by cases hj
 | x::r,h,j,hj=>by
  simp only[qpb,zab,zbx] at h;rcases zaw.1 hj with rfl|hj
  ·exact h.1.imp (fun h=>zbt h) id
  ·exact qqb h.2 j hj
def xbkb{st0:SH}{rs:List Rec}{k:Ex->St->Option β}{r:β}{c:CV}{u:Upd}(hE: ∀g,Sound P E.glob g (ctr E g))(hok:OrderOk ops bef)(hP:Panics P E ops bef st0 k r rs fps o c u)(hfree: ∀(i:Nat) (o:Oper),ops[i]? =some o->∀p∈makes E o,Free p st0.1 st0.2)(hQ: ∀e a w,Lands E w0 bl I0 k r e a w->Q e a w): ∀(fuel:Nat) (listed:Array Bool) (a:Act) (w:World),
  listed.size=ops.size->left ops.size listed<=fuel->Closed ops (asS listed)->(∀j,asS listed j=true->j<rs.length)->On E w0 bl I0 ⟨(qdo (asS listed) 0 rs st0).1,(qdo (asS listed) 0 rs st0).2⟩ a w->wpAny P .any ops Q fuel listed a w:=by
 have hm:rs.length<ops.size:=(zcy.1 hP.at').1;have hR:=hP.runs;intro fuel
 induction fuel with
 | zero=>
  intro listed a w hsz hl hc hS hO;have:=hS _ (qrh (Nat.le_zero.1 hl) rs.length hm);omega
 | succ fuel ih=>
  intro listed a w hsz hl hc hS hO;refine⟨fun hn=> ?_,fun i hi=> ?_⟩
  ·have:=hS _ (qom hok hsz hn rs.length hm);omega
  obtain⟨hlt,oi,ho,hd⟩:=qlo hsz hi;rcases zdr i rs.length with hil|hil|hil
  ·have hrc:rs[i]? =some rs[i]:=zag hil;refine wpOp_mono (fun a' w' hO'=> ?_) (q6r hE hok hR (Nat.le_of_lt hm) hfree hc ho hrc hd hO);refine ih _ a' w' (by simpa using hsz) ?_ ?_ ?_ ?_
   ·have:=qy2 (n:=ops.size) (listed:=listed) (i:=i) (by omega) hlt hd.1;omega
   ·rw[qj8 (by omega)];exact qs7 hc ho hd
   ·rw[qj8 (by omega)];intro j hj;simp only[zbx] at hj;rcases hj with hj|hj
    ·exact hS j hj
    ·have:=qag.1 hj;omega
   ·rw[qj8 (by omega)];exact hO'
  ·subst hil;have:=hP.at';rw[ho] at this;simp only[zaa] at this;subst this;obtain⟨Im,ρ,hI⟩:=hO;have hI:Inv E w0 bl I0 (qdo (asS listed) 0 rs st0).1 (qdo (asS listed) 0 rs st0).2 a w Im ρ:=hI;have hslot: ∀t∈looks ops oi,getV (qdo (asS listed) 0 rs st0).1 t=getV (stP st0 rs).1 t:=fun t ht=>by have:=q0i hok hR (Nat.le_of_lt hm) hc ho hd ht;rwa [zcw] at this
   have efull:stP st0 rs=qdo (fun j=>Nat.blt j (0+rs.length)) 0 rs st0:=by have:=qys rs.length rs 0 st0;rw[zcw] at this;exact this
   have hun: ∀(j:Nat) (x:Rec),rs[j]? =some x->asS listed j≠Nat.blt j rs.length->∃o',ops[j]? =some o'/\(bef.getD rs.length 0).testBit j=false:=fun j x hj hne=>by obtain⟨o',ho'⟩:=xbu1 (Nat.le_of_lt hm) hj;exact⟨o',ho',(unordered hok hc ho ho' hd hne).2.1⟩
   have hheap: ∀p,p∈(touch E (stP st0 rs).1 (stP st0 rs).2 oi).1\/p∈(touch E (stP st0 rs).1 (stP st0 rs).2 oi).2->qal (qdo (asS listed) 0 rs st0).2 p=qal (stP st0 rs).2 p:=fun p hp=>by
    rw[efull];refine qhn rfl fun j x hj hne y hy hyp=> ?_;rw[zay,zay] at hne;obtain⟨o',ho',u2⟩:=hun j x hj hne;rcases(hR.step j o' x ho' hj).2 with hsk|hrj
    ·rw[hsk.u] at hy;cases hy
    ·rcases hrj.keys y hy with hk|hk
     ·rw[hyp] at hk;rcases qss hP.apart _ (hR.fp j o' x ho' hj hrj) with hb|hb
      ·rw[u2] at hb;cases hb
      ·simp only[clash,zct] at hb;rcases hp with hp|hp
       ·exact qdk hb.1.1 hk hp
       ·exact qdk hb.1.2 hk hp
     ·rw[hyp] at hk;rcases qlm hP.cleanF j o' (by simpa using ho') with h1|h1|h1
      ·have:=(zae.1 hj).1;omega
      ·rw[zay,u2] at h1;cases h1
      ·exact qdk h1 hk (zaq.2 hp)
   have hlow: ∀p,p<32->qal (qdo (asS listed) 0 rs st0).2 p=qal (stP st0 rs).2 p:=fun p hp=>by
    rw[efull];refine qhn rfl fun j x hj hne y hy hyp=> ?_;rw[zay,zay] at hne;obtain⟨o',ho',u2⟩:=hun j x hj hne;rcases(hR.step j o' x ho' hj).2 with hsk|hrj
    ·rw[hsk.u] at hy;cases hy
    ·rcases hrj.keys y hy with hk|hk
     ·rcases qqo hP.noWrites _ (hR.fp j o' x ho' hj hrj) with hb|hb
      ·rw[u2] at hb;cases hb
      ·have hb:(touch E (stP st0 (rs.take j)).1 (stP st0 (rs.take j)).2 o').2=[]:=hb;rw[hb] at hk;cases hk
     ·have:=(hfree j o' ho' _ hk).big;omega
   unfold wpOp;rw[ho];simp only;have hw:Region.wanted oi (yielded ops a.tmps)=true:=by
    rcases hP.goes with hg|⟨j,want,d,h1,h2,h3⟩
    ·simp[Region.wanted,hg]
    ·have hb:a.tmps.getD d undef=.bool want:=by have:=hI.sl d;rw[hslot d (qlt h1 h2),h3] at this;exact this.bool
     have hy:=qu2 h2 hb;simp[Region.wanted,h1,hy]
   rw[yc hw];left;have hop:opK P E (qdo (asS listed) 0 rs st0).1 (qdo (asS listed) 0 rs st0).2 oi (fun _ _=>none) (fun c u=>some (c,u))=some (c,u):=by
    rw[q53 (s:=(stP st0 rs).1) (H:=(stP st0 rs).2) (fun x hx=> ?_) (fun p hp=>hheap p (.inl hp)) (fun p hp=>hheap p (.inr hp)),hP.run]
    cases x with
    | tmp t=>exact hslot t (xbgp hx)
    | _=>rfl
   refine qzq hE hop hI (fun p hp=>xbi5 hok hR (Nat.le_of_lt hm) hc ho hd.1 hp (hfree _ oi ho p hp)) (fun v u x w' Im' ρ' hk=>by cases hk) fun c' u' x w' Im' ρ' hk hI' hx=> ?_;simp only[zaa,zaz] at hk;obtain⟨h1,h2⟩:=hk;have h1:=h1.symm;have h2:=h2.symm;subst h1 h2;refine hQ _ _ _ ⟨.pan c,⟨[],qs9 (updH (stP st0 rs).2 u)⟩,Im',ρ',hP.out, ?_,x,rfl,hx⟩;have hI2:Inv E w0 bl I0 [] (qs9 (updH (qdo (asS listed) 0 rs st0).2 u)) a w' Im' ρ':=by
    refine hI'.map (f:=fun p=>p) (g:=fun c=>c) (Bad:=fun _=>False) (fun c=>rfl) (fun c=>.inr ⟨(qmt c).symm,fun _ _ h=>h⟩) (fun t=>.inl rfl) (fun q o' hq=> ?_) fun q _=> ?_
    ·refine⟨q,o',qh9 _ _ _ _ hq,rfl,rfl, ?_,fun _=>rfl⟩;obtain⟨row,lock⟩:=o';cases row<;>simp[qrn]
    ·cases hx:qal (qs9 (updH (qdo (asS listed) 0 rs st0).2 u)) q with
     | none=>left;simp[shOf,hx]
     | some o'=>right;exact⟨by simp[shOf,hx,qh9 _ _ _ _ hx],rfl⟩
   refine hI2.same (fun t=>rfl) fun p=> ?_;unfold qs9;rw[qsm,qsm,xbkc]
   cases hb:Nat.blt p 32 with
   | false=>rfl
   | true=>
    simp only[cond_true];exact qi4 (hlow p (by simpa [zb4] using hb)).symm
  ·exfalso;rcases qqb hP.after i (zb8.2 hlt) with h|h
   ·omega
   ·have:=hS _ (qnh hok hc ho hP.at' hd h);omega
def qkp(hE: ∀g,Sound P E.glob g (ctr E g))(hm:P.follows .mixedOrders=true):qxa P E:=by
 intro β w0 bl I0 id ops Q k r σ a w hQ hdo hfr h hO;have hok:=q2r hdo;have hfree: ∀(i:Nat) (o:Oper),ops[i]? =some o->∀p∈makes E o,Free p σ.slots σ.heap:=fun i o ho p hp=>by refine qie hfr p (zb1.2 ⟨o, ?_,hp⟩);exact zca.2 ⟨i,by simpa using ho⟩
 have hO':On E w0 bl I0 ⟨(qdo (asS (Array.replicate ops.size false)) 0 ([]:List Rec) (σ.slots,σ.heap)).1,(qdo (asS (Array.replicate ops.size false)) 0 ([]:List Rec) (σ.slots,σ.heap)).2⟩ a {w with drawn:=w.drawn+1}:=by obtain⟨Im,ρ,hI⟩:=hO;exact⟨Im,ρ,hI.world rfl rfl rfl rfl⟩
 have hnone: ∀j,asS (Array.replicate ops.size false) j=false:=fun j=>by unfold asS;rw[zav,Array.getElem?_replicate];split<;>rfl
 have hO2: ∀rs:List Rec,On E w0 bl I0 ⟨(qdo (asS (Array.replicate ops.size false)) 0 rs (σ.slots,σ.heap)).1,(qdo (asS (Array.replicate ops.size false)) 0 rs (σ.slots,σ.heap)).2⟩ a {w with drawn:=w.drawn+1}:=fun rs=>by rw[qnv rs 0 _ _ fun j _=>hnone j];exact hO'
 have hleft:left ops.size (Array.replicate ops.size false)<=ops.size:=by unfold left;exact zcb (List.length_filter_le _ _) (by simp)
 have hcl:Closed ops (asS (Array.replicate ops.size false)):=fun i o ho hS=>by rw[hnone] at hS;cases hS
 refine wp_region_any hm ?_;rcases qmy (st0:=(σ.slots,σ.heap)) ops.toList σ [] [] h (fun m _=>by simp) (fun t=>rfl) rfl ⟨fun i o rc _ h=>by simp at h,fun i o rc _ h=>by simp at h,fun i j o o' rc rc' _ _ h=>by simp at h⟩ with⟨rs,fps,σ',hl,hR,hk,hs,hH⟩|⟨rs,fps,o,c,u,hP⟩
 ·refine xbdw hE hok hR (by simpa using hl) hfree (fun a w hO=> ?_) ops.size _ a _ (by simp) hleft hcl (hO2 rs);obtain⟨Im,ρ,hI⟩:=hO;refine hQ _ _ _ ⟨.normal,σ',Im,ρ,hk,hI.same (fun t=>hs t) fun p=>by rw[hH],trivial⟩
 ·exact xbkb hE hok hP hfree hQ ops.size _ a _ (by simp) hleft hcl (fun j hj=>by rw[hnone] at hj;cases hj) (hO2 rs)
end
def qw2{n:Nat}(h:xbnr bef i n=true):(∀j,j<i->j<n->(bef.getD i 0).testBit j=true)/\∀j,i<j->j<n->(bef.getD j 0).testBit i=true:=by
 unfold xbnr at h;rw[zai] at h;refine⟨fun j hj hn=> ?_,fun j hj hn=> ?_⟩
 ·have:=h j (zb8.2 hn);rw[show Nat.beq j i=false from(zat.2 fun e=>by have:=qag.1 e;omega),show Nat.blt j i=true by rw[zb4];exact hj] at this;exact this
 ·have:=h j (zb8.2 hn);rw[show Nat.beq j i=false from(zat.2 fun e=>by have:=qag.1 e;omega),show Nat.blt j i=false from(zat.2 fun e=>by rw[zb4] at e;omega)] at this;exact this
section
variable {P:Program} {E:Env} {w0:Base} {bl I0:NP}
def xbnq(hl: ¬LetsOut Q){K:Act->World->Prop}(h:wpOp P ops Q i K a w):wpOpIn Fence.wide 0 P ops Q i K a w:=by
 unfold wpOp at h;unfold wpOpIn;split at h
 ·rename_i e;simp only[e];exact h
 ·rename_i o e;simp only[e];split at h
  ·rename_i hw;rw[yc hw];exact xbjj (h.resolve_right fun e=>hl e.2)
  ·rename_i hw;rw[yb hw];exact⟨fun _ _=>trivial,h⟩
def q1d{listed:Array Bool}(hsz:listed.size=ops.size)(h: ∀i,i<ops.size->asS listed i=true)(hQ:Q .normal a w): ∀fuel,wpAnyIn Fence.wide 0 P .any ops Q fuel listed a w
 | 0=>⟨qt5 hsz h,hQ⟩
 | fuel+1=>⟨fun _=>hQ,fun i hi=>by rw[qt5 hsz h] at hi;cases hi⟩
def xbgh{n m:Nat}{listed:Array Bool}(hm:m<n)(h:asS listed m=false):0<left n listed:=by refine zdn fun e=> ?_;have:=qrh e m hm;rw[h] at this;cases this
def xbth(hok:OrderOk ops bef){m:Nat}(ho:ops[m]? =some o)(hn:ops.size=m+1){fuel:Nat}{listed:Array Bool}(hsz:listed.size=ops.size)(hl:left ops.size listed<=fuel)(hin: ∀j,j<m->asS listed j=true)(hout:asS listed m=false)(h:wpListIn Fence.wide 0 P ops Q [o] a w):wpAnyIn Fence.wide 0 P .any ops Q fuel listed a w:=by
 have hp:=xbgh (n:=ops.size) (by omega) hout;obtain⟨fuel,rfl⟩: ∃f,fuel=f+1:=⟨fuel - 1,by omega⟩;refine⟨fun hnil=> ?_,fun i hi=> ?_⟩
 ·have:=qom hok hsz hnil m (by omega);rw[hout] at this;cases this
 ·obtain⟨hlt,o',ho',hd⟩:=qlo hsz hi;obtain rfl:i=m:=by
   rcases zb5 i m with e|e
   ·have:=hd.1;rw[hin i e] at this;cases this
   ·omega
  have hall: ∀j,j<ops.size->asS (listed.setIfInBounds i true) j=true:=fun j hj=>by
   rw[qj8 (by omega)];show(asS listed j|| j.beq i)=true;rcases zb5 j i with e|e
   ·rw[hin j e];rfl
   ·rw[show j=i by omega];simp
  unfold wpListIn at h;unfold wpOpIn;simp only[ho];split at h
  ·rename_i hw;rw[yc hw];exact Oper.wpIn_mono (fun a w h=>q1d (by simpa using hsz) hall h fuel) h
  ·rename_i hw;rw[yb hw];exact⟨h.1,q1d (by simpa using hsz) hall h.2 fuel⟩
def xbhr{st0:SH}{rs:List Rec}(hE: ∀g,Sound P E.glob g (ctr E g))(hok:OrderOk ops bef)(hR:Runs0 P E ops bef st0 rs fps){m:Nat}(hlen:rs.length=m)(hn:m<ops.size)(hy:xbnr bef m ops.size=true)(hfree: ∀(i:Nat) (o:Oper),ops[i]? =some o->∀p∈makes E o,Free p st0.1 st0.2)(hl: ¬LetsOut Q)(hnext: ∀(fuel:Nat) (listed:Array Bool) (a:Act) (w:World),listed.size=ops.size->left ops.size listed<=fuel->Closed ops (asS listed)->(∀j,j<m->asS listed j=true)->(∀j,asS listed j=true->j<m)->On E w0 bl I0 ⟨(stP st0 rs).1,(stP st0 rs).2⟩ a w->wpAnyIn Fence.wide 0 P .any ops Q fuel listed a w):
  ∀(fuel:Nat) (listed:Array Bool) (a:Act) (w:World),listed.size=ops.size->left ops.size listed<=fuel->Closed ops (asS listed)->(∀j,asS listed j=true->j<m)->On E w0 bl I0 ⟨(qdo (asS listed) 0 rs st0).1,(qdo (asS listed) 0 rs st0).2⟩ a w->wpAnyIn Fence.wide 0 P .any ops Q fuel listed a w:=by
 obtain⟨hy1,hy2⟩:=qw2 hy;obtain⟨om,hom⟩: ∃om,ops[m]? =some om:=⟨_,zbb hn⟩;have fin: ∀(fuel:Nat) (listed:Array Bool) (a:Act) (w:World),listed.size=ops.size->left ops.size listed<=fuel->Closed ops (asS listed)->(∀j,j<m->asS listed j=true)->(∀j,asS listed j=true->j<m)->On E w0 bl I0 ⟨(qdo (asS listed) 0 rs st0).1,(qdo (asS listed) 0 rs st0).2⟩ a w->wpAnyIn Fence.wide 0 P .any ops Q fuel listed a w:=fun fuel listed a w hsz hf hc h1 h2 hO=>by
  refine hnext fuel listed a w hsz hf hc h1 h2 ?_;obtain⟨Im,ρ,hI⟩:=hO;have hS: ∀(j:Nat) (r:Rec),rs[j]? =some r->asS listed (0+j)=true:=fun j r hj=>by have:=(zae.1 hj).1;rw[zay];exact h1 j (by omega)
  refine⟨Im,ρ,hI.same (fun t=> ?_) fun p=> ?_⟩
  ·exact qlp rfl fun j r hj hne=>absurd (hS j r hj).symm hne
  ·exact qhn rfl fun j r hj hne=>absurd (hS j r hj).symm hne
 intro fuel
 induction fuel with
 | zero=>
  intro listed a w hsz hf hc hS hO;have:=hS m (qrh (Nat.le_zero.1 hf) m hn);omega
 | succ fuel ih=>
  intro listed a w hsz hf hc hS hO;by_cases hall: ∀j,j<m->asS listed j=true
  ·exact fin _ _ a w hsz hf hc hall hS hO
  ·refine⟨fun hnil=> ?_,fun i hi=> ?_⟩
   ·have:=hS m (qom hok hsz hnil m hn);omega
   obtain⟨hlt,o,ho,hd⟩:=qlo hsz hi;rcases zdr i m with e|e|e
   ·have hrc:rs[i]? =some rs[i]:=zag (by omega);refine wpOpIn_mono (fun a' w' hO'=> ?_) (xbnq hl (q6r hE hok hR (by omega) hfree hc ho hrc hd hO));refine ih _ a' w' (by simpa using hsz) ?_ ?_ ?_ ?_
    ·have:=qy2 (n:=ops.size) (listed:=listed) (i:=i) (by omega) hlt hd.1;omega
    ·rw[qj8 (by omega)];exact qs7 hc ho hd
    ·rw[qj8 (by omega)];intro j hj;simp only[zbx] at hj;rcases hj with hj|hj
     ·exact hS j hj
     ·have:=qag.1 hj;omega
    ·rw[qj8 (by omega)];exact hO'
   ·subst e;refine absurd (fun j hj=> ?_) hall;obtain⟨oj,hoj⟩: ∃oj,ops[j]? =some oj:=⟨_,zbb (by omega)⟩;exact qnh hok hc ho hoj hd (hy1 j hj (by omega))
   ·have:=hS m (qnh hok hc ho hom hd (hy2 i e hlt));omega
end
def xbar{Z:NP}{J:JT}{Jx:JX}(hE: ∀g,Sound P E.glob g (ctr E g))(hm:P.follows .mixedOrders=true)(hrg:E.rg=false)(hc:Caller P E.yn Z J Jx):xbcr P E Z J Jx:=by
 intro id ops i σ k r rest B bl I0 a w hdo hfr h hh hg hO;unfold xbse at h;split at h
 ·rename_i o o2 hdrop;split at h
  ·rename_i d xs ts dd ho hdst hgd;replace h:=qaa h;obtain⟨hy,h⟩:=h;have hok:=q2r hdo;have hsize:ops.size=i+2:=by have:=congrArg List.length hdrop;simp at this;omega
   have hoi:ops[i]? =some o:=by have:=congrArg (·[0]?) hdrop;simpa using this
   have hoj:ops[i+1]? =some o2:=by have:=congrArg (·[1]?) hdrop;simpa using this
   have hfree: ∀(i:Nat) (o:Oper),ops[i]? =some o->∀p∈makes E o,Free p σ.slots σ.heap:=fun i o ho p hp=>by refine qie hfr p (zb1.2 ⟨o, ?_,hp⟩);exact zca.2 ⟨i,by simpa using ho⟩
   have hO':On E B bl I0 σ a {w with drawn:=w.drawn+1}:=by obtain⟨Im,ρ,hI⟩:=hO;exact⟨Im,ρ,hI.world rfl rfl rfl rfl⟩
   have hnone: ∀j,asS (Array.replicate ops.size false) j=false:=fun j=>by unfold asS;rw[zav,Array.getElem?_replicate];split<;>rfl
   refine wpIn_region_any hm ?_;have hlt:(ops.toList.take i).length=i:=by simp;omega
   rcases qmy (st0:=(σ.slots,σ.heap)) (ops.toList.take i) σ [] [] h (fun m hm=>by rw[hlt] at hm;simp[zc5,hm]) (fun t=>rfl) rfl ⟨fun i o rc _ h=>by simp at h,fun i o rc _ h=>by simp at h,fun i j o o' rc rc' _ _ h=>by simp at h⟩ with⟨rs,fps,σ',hl,hR,hk,hs,hH⟩|⟨rs,fps,o',c,u,hP⟩
   ·rw[hlt,zbg,zay] at hl;refine xbhr (w0:=B) (bl:=bl) (I0:=I0) hE hok hR hl (by omega) hy hfree xbf7 (fun fuel listed a1 w1 hsz hf hcl h1 h2 hO1=> ?_) ops.size _ a _ (by simp) ?_ (fun i o ho hS=>by rw[hnone] at hS;cases hS) (fun j hj=>by rw[hnone] at hj;cases hj) ?_
    ·have hout:asS listed i=false:=by
      cases hb:asS listed i with
      | false=>rfl
      | true=>have:=h2 i hb;omega
     have hp:=xbgh (n:=ops.size) (by omega) hout;obtain⟨fuel,rfl⟩: ∃f,fuel=f+1:=⟨fuel - 1,by omega⟩;refine⟨fun hnil=> ?_,fun q hq=> ?_⟩
     ·have:=qom hok hsz hnil i (by omega);rw[hout] at this;cases this
     ·obtain⟨hltq,oq,hoq,hd⟩:=qlo hsz hq;obtain rfl:q=i:=by
       rcases zdr q i with e|e|e
       ·have:=hd.1;rw[h1 q e] at this;cases this
       ·exact e
       ·have:=qnh hok hcl hoq hoi hd ((qw2 hy).2 q e hltq);rw[hout] at this;cases this
      unfold wpOpIn;simp only[hoi];rw[yc (by simp[Region.wanted,hgd])];obtain⟨Im,ρ,hI⟩:=hO1;have hI2:Inv E B bl I0 σ'.slots σ'.heap a1 w1 Im ρ:=hI.same (fun t=>hs t) fun p=>by rw[hH]
      refine q9v hrg hc hk hh hg hI2 ho hdst fun rr rest' B' bl' I0' σ2 a2 w2 h4 h5 h6 h7=> ?_;have hset:=qy2 (n:=ops.size) (listed:=listed) (i:=q) (by omega) hltq hd.1;refine xbth hok (m:=q+1) hoj (by omega) (by simpa using hsz) (by omega) (fun j hj=> ?_) ?_ ?_
      ·rw[qj8 (by omega)];show(asS listed j|| j.beq q)=true;rcases zb5 j q with e|e
       ·rw[h1 j e];rfl
       ·rw[show j=q by omega];simp
      ·rw[qj8 (by omega)];show(asS listed (q+1)|| (q+1).beq q)=false
       cases hb:asS listed (q+1) with
       | true=>have:=h2 _ hb;omega
       | false=>exact(zat.2 fun e=>by have:=qag.1 e;omega)
      ·have:=qhe (P:=P) (ops:=ops) (Q':=Lands E B' bl' I0' k rr) (Q:=qkd E Z J Jx k) (rest:=[]) qnw (fun c a w hq=>qkd.of h5 h6 hq) (fun a w hq=>qkd.of h5 h6 hq) [o2] _ _ (qd0 hE (fun _ _ _ h=>h) [o2] _ _ _ h4 h7);rwa [zb2] at this
    ·unfold left;exact zcb (List.length_filter_le _ _) (by simp)
    ·rw[qnv rs 0 _ _ fun j _=>hnone j];exact hO'
   ·have:=hP.out;cases this
  ·cases h
 ·cases h
def q9i{glob:Nat->Option CV}{gf:FuncId}{N:Nat}{as:LV}{obs:List Obj}{xs:List LC}(Ey:Nat->Env)(hE: ∀l g,Sound P (Ey l).glob g (ctr (Ey l) g))(hm:P.follows .mixedOrders=true)(hgl: ∀l,(Ey l).glob=glob)(hrg: ∀l,(Ey l).rg=false)(hyn: ∀l,(Ey l).yn=l)(hf:P.funcs[gf]? =some fn)(hb:fn.body.isSome=true)(hlo: ∀l c,fn.body=some c->qbf P (Ey l) N c)(hnt: ∀l,(Ey l).nt=fn.ntmps)(hlen:as.length<fn.ntmps)(hres:fn.results= #[])(hS: ∀l, ∃out,qqy P (Ey l) N false fn (.cl (.fn (.yield l) [] [])::as) obs=some out/\Hands out (some xs)):xbxo P glob gf as obs xs:=
 xbil Ey hE (fun l=>qkp (hE l) hm) (fun l Z J Jx hc=>xbar (hE l) hm (hrg l) hc) hgl hrg hyn hf hb hlo hnt hlen hres hS
def FUEL:Nat:=1152921504606846976
def Cd.fst:Code->Code
 | .seq a _=>a
 | .cond _ a _=>a
 | .block _ b=>b
 | .loop b=>b
 | .rangeFunc _ _ a _=>a
 | c=>c
def Cd.snd:Code->Code
 | .seq _ b=>b
 | .cond _ _ b=>b
 | .rangeFunc _ _ _ b=>b
 | c=>c
def xbz7{N rid:Nat}{b:Code}(h:E.lp rid=none): ∀L,E.lp rid=some L->∀(σ:St) (k:KT) (r:Out),L σ k=some r->∃n,q2c n (qby P E N b) (head E rid) σ k=some r:=fun L hL=>by rw[h] at hL;cases hL
def xbz8{N rid:Nat}{b:Code}{L:St->KT->OO}(h:E.lp rid=some L)(hk: ∀(σ:St) (k:KT) (r:Out),L σ k=some r->∃n,q2c n (qby P E N b) (head E rid) σ k=some r):
  ∀L,E.lp rid=some L->∀(σ:St) (k:KT) (r:Out),L σ k=some r->∃n,q2c n (qby P E N b) (head E rid) σ k=some r:=fun L' hL=>by
 rw[h] at hL;simp only[zaa] at hL;subst hL;exact hk
def xbh6{N rid nt:Nat}{ps:List Nat}{a b:Code}{L:St->List LC->KT->OO}(h:E.rf rid=some L)(hk: ∀(σ:St) (xs:List LC) (k:KT) (r:Out),L σ xs k=some r->qhi E nt rid ps (qby P E N a) (qby P E N b) xs σ k=some r):
  ∀L,E.rf rid=some L->∀(σ:St) (xs:List LC) (k:KT) (r:Out),L σ xs k=some r->qhi E nt rid ps (qby P E N a) (qby P E N b) xs σ k=some r:=fun L' hL=>by
 rw[h] at hL;simp only[zaa] at hL;subst hL;exact hk
def qg5{N rid:Nat}{b:Code}(h:E.jn rid=none): ∀L,E.jn rid=some L->∀(σ:St) (k:KT) (r:Out),L σ k=some r->qby P E N b σ (kt E rid k)=some r:=fun L hL=>by rw[h] at hL;cases hL
def xbzp{N rid:Nat}{b:Code}{L:St->KT->OO}(h:E.jn rid=some L)(hk: ∀(σ:St) (k:KT) (r:Out),L σ k=some r->qby P E N b σ (kt E rid k)=some r):
  ∀L,E.jn rid=some L->∀(σ:St) (k:KT) (r:Out),L σ k=some r->qby P E N b σ (kt E rid k)=some r:=fun L' hL=>by
 rw[h] at hL;simp only[zaa] at hL;subst hL;exact hk
def xbbk(E:Env):Code->Bool
 | .seq a b=>xbbk E a&&(xbbk E b&&(E.jn (qaj b)).isNone)
 | .cond _ a b=>xbbk E a&&(xbbk E b&&(E.jn (qaj b)).isNone)
 | .block _ b=>xbbk E b
 | .loop b=>xbbk E b&&(E.lp (qaj b)).isNone
 | .rangeFunc .. =>false
 | _=>true
def qpv{N:Nat}(c:Code)(h:xbbk E c=true):qbf P E N c:=by
 induction c with
 | seq a b ha hb=>simp only[xbbk,zab] at h;exact⟨ha h.1,hb h.2.1,qg5 (Option.isNone_iff_eq_none.1 h.2.2)⟩
 | cond x a b ha hb=>simp only[xbbk,zab] at h;exact⟨ha h.1,hb h.2.1,qg5 (Option.isNone_iff_eq_none.1 h.2.2)⟩
 | block i b hb=>exact hb h
 | loop b hb=>simp only[xbbk,zab] at h;exact⟨hb h.1,xbz7 (Option.isNone_iff_eq_none.1 h.2)⟩
 | rangeFunc _ _ _ _ _ _=>cases h
 | _=>trivial
def qe8{α:Type}(s:α->α)(z:α):Nat->α
 | 0=>z
 | n+1=>s (qe8 s z n)
def qmo{F:Nat->α}{s:α->α}{z:α}{Q:α->Prop}(h0:F 0=z)(hs: ∀n,F (n+1)=s (F n))(h:Q (qe8 s z FUEL)):Q (F FUEL):=by
 have e: ∀n,F n=qe8 s z n:=fun n=>by
  induction n with
  | zero=>exact h0
  | succ n ih=>rw[hs,ih];rfl
 rw[e];exact h
def LpOk(P:Program)(E:Env)(N:Nat)(b:Code)(rid:Nat)(L:St->KT->OO):Prop:=
 ∀(σ:St) (k:KT) (r:Out),L σ k=some r->∃n,q2c n (qby P E N b) (head E rid) σ k=some r
def JnOk(P:Program)(E:Env)(N:Nat)(b:Code)(rid:Nat)(L:St->KT->OO):Prop:=
 ∀(σ:St) (k:KT) (r:Out),L σ k=some r->qby P E N b σ (kt E rid k)=some r
def getK(l:List α)(i:Int)(k:α->OO):OO:=idxK i l.length fun j=>Option.bind l[j]? k
def rmK(n e:Nat)(x:OO):OO:=cond (Nat.ble (n*e) LIMN) (cond (Nat.ble n LIMN) x none) none
def qaz{l:List α}{i:Int}{k:α->OO}{r:OO}{x:α}(h:0<=i)(hx:l[i.toNat]? =some x)(hk:k x=r):getK l i k=r:=by have hl:=(zae.1 hx).1;unfold getK idxK;rw[yf h,yf (show i<(l.length:Int) by omega),cond_true,cond_true];show Option.bind l[i.toNat]? k=r;rw[hx];exact hk
def xbzk{n:Int}{len:Nat}{k:Nat->OO}{r:OO}(h:0<=n)(h2:n<(len:Int))(hk:k n.toNat=r):idxK n len k=r:=by unfold idxK;rw[yf h,yf h2];exact hk
def qvi{n e:Nat}{x r:OO}(h:n*e<=1099511627776)(h2:n<=1099511627776)(hk:x=r):rmK n e x=r:=by unfold rmK LIMN;rw[zcr h,zcr h2];exact hk
def qc4{n:Nat}{x y r:OO}(h:n<=1099511627776)(hk:x=r):cond (Nat.ble n LIMN) x y=r:=by unfold LIMN;rw[zcr h];exact hk
def qen(a b:Nat):(Nat.beq a b=true)=(a=b):=propext qag
section
variable {P:Program} {glob:Nat->Option CV}
def qcq:Sound P glob g (fun as obs=>cond ((fun _ _=>true:LV->List Obj->Bool) as obs) ((fun _ _=>Tree.fail:LV->List Obj->Tree) as obs).eval none):=by intro as obs out w Im ρ bl vs h;cases h
def qao{n:FuncId}{p p':LV->List Obj->Bool}{S S':LV->List Obj->Tree}(h:Sound P glob n (fun as obs=>cond (p as obs) (S as obs).eval none))(h':Sound P glob g (fun as obs=>cond (p' as obs) (S' as obs).eval none)):
  Sound P glob g (fun as obs=>cond ((cond (Nat.beq g n) p p') as obs) ((cond (Nat.beq g n) S S') as obs).eval none):=by
 cases hb:Nat.beq g n with
 | true=>obtain rfl:=qag.1 hb;exact h
 | false=>exact h'
def qqu(h:E.sq=fun _ _ _=>none):qdp P E:=fun gf as objs xs _ h'=>by rw[h] at h';cases h'
def qcp{keep:Bool}{N:Nat}{p:LV->List Obj->Bool}{S:LV->List Obj->Tree}(hm:P.follows .mixedOrders=true)(hE: ∀g,Sound P E.glob g (ctr E g))(hf:P.funcs[g]? =some fn)(hn:(fn.name== "runtime.NumGoroutine")=false)(hb:fn.body.isSome=true)(hlo: ∀c,fn.body=some c->qbf P E N c)(hnt:E.nt=fn.ntmps)(hS: ∀as obs out,p as obs=true->(S as obs).eval=some out->as.length<=fn.ntmps/\qqy P E N keep fn as obs=some out)(hsq:qdp P E:=by exact qqu rfl)(hyl:E.yl=(fun _=>none):=by rfl):Sound P E.glob g (fun as obs=>cond (p as obs) (S as obs).eval none):=
 xbd1 hE hsq (qkp hE hm) hf hn hb hyl hlo hnt fun as obs out h=>by obtain⟨h1,h2⟩:=qaa h;exact hS as obs out h1 h2
end
open IntWalk (i64_in u8_in u32_in u64_in i64_quo u8_quo rem_in)
def qae{P:Prop}[Decidable P]{a b r:OO}(h1:P->a=r)(h2: ¬P->b=r):cond (decide P) a b=r:=by
 by_cases h:P
 ·rw[yf h];exact h1 h
 ·rw[decide_eq_false h];exact h2 h
def qa0{P:Prop}[Decidable P]{a b r:OO}(h1: ¬P->a=r)(h2:P->b=r):cond (!decide P) a b=r:=by
 by_cases h:P
 ·rw[yf h];exact h2 h
 ·rw[decide_eq_false h];exact h1 h
def qaq{P:Prop}[Decidable P]{a b r:OO}(h:P)(ha:a=r):cond (decide P) a b=r:=by rw[yf h];exact ha
def qca{P:Prop}[Decidable P]{a b r:OO}(h: ¬P)(hb:b=r):cond (decide P) a b=r:=by rw[decide_eq_false h];exact hb
def xbkf{P:Prop}[Decidable P]{a b r:OO}(h: ¬P)(ha:a=r):cond (!decide P) a b=r:=by rw[decide_eq_false h];exact ha
def xbah{P:Prop}[Decidable P]{a b r:OO}(h:P)(hb:b=r):cond (!decide P) a b=r:=by rw[yf h];exact hb
def qc5{c:Bool}{a b r:OO}(h1:c=true->a=r)(h2:c=false->b=r):cond c a b=r:=by cases c<;>simp_all
def qam{c:Bool}{a b r:OO}(h:c=true)(ha:a=r):cond c a b=r:=by rw[h];exact ha
def qyh{c:Bool}{a b r:OO}(h:c=false)(hb:b=r):cond c a b=r:=by rw[h];exact hb
def qmu{k:IntKind}{a b:Int}(h:a=b):some (Out.ret [.cl (.int k a)] [])=some (Out.ret [.cl (.int k b)] []):=by rw[h]
def qa7{a b:Bool}(h:a=b):some (Out.ret [.cl (.bool a)] [])=some (Out.ret [.cl (.bool b)] []):=by rw[h]
def xbr2(s:ByteArray)(n:Int): ∃m:Nat,m<256/\bget s n=m:=by
 unfold bget
 cases h:s.data.toList[n.toNat]? with
 | none=>exact⟨0,by omega,rfl⟩
 | some b=>exact⟨b.toNat,b.toNat_lt,rfl⟩
def qkh(s:ByteArray)(n:Int):0<=bget s n/\bget s n<=255:=by obtain⟨m,h1,h2⟩:=xbr2 s n;omega
def qdr(s:ByteArray){a b:Nat}{i:Int}(h0:0<=i)(hb:(a:Int)+i<b)(hs:b<=s.size):bget (s.extract a b) i=bget s (a+i):=by unfold bget;rw[ByteArray.data_extract,Array.toList_extract,List.extract_eq_take_drop,zbu (by omega),zbv];rw[show((a:Int)+i).toNat=a+i.toNat by omega]
def qgi(s:ByteArray):(bytesOf s).length=s.size:=by unfold bytesOf;rw[zau,Array.length_toList,ByteArray.size_data]
def xbag(s:ByteArray)(h:i<s.size):(bytesOf s)[i]? =some (bget s i):=by
 unfold bytesOf bget;have h':i<s.data.toList.length:=by rw[Array.length_toList,ByteArray.size_data];exact h
 rw[zah,show((i:Int)).toNat=i from rfl,zag h'];rfl
def qeo(s:ByteArray)(h:i<s.size):(bytesOf s).drop i=bget s i::(bytesOf s).drop (i+1):=by
 have h':i<(bytesOf s).length:=by rw[qgi];exact h
 rw[zb0 h'];have:=xbag s h;rw[zag h'] at this;simp only[zaa] at this;rw[this]
def xbzm(n:Nat):((n:Int)).toNat=n:=rfl
open Go.ChangeShapes Go.WideShapes Go.ChangeAt Go.RowKit
def qu0{n:Int}(h:(Lit.int .u8 n).wf=true):0<=n/\n<=255:=by simp only[Lit.wf,zab,yd] at h;exact h
def Stays(W W':World):Prop:=W.keptBut W' (fun _=>False)/\∀a:Addr,a.block<W.heap.size->W'.frozen? a=W.frozen? a
def xbz0{W W':World}(h:Fr W (fun _=>False) W'):Stays W W':=by
 refine⟨⟨h.os,h.output,fun i hi=> ?_⟩,fun a ha=>qpk (h.block _ ha fun f=>f)⟩;rw[h.block i hi fun f=>f]
 cases hw:W.heap[i]? with
 | none=>rfl
 | some o=>cases o<;>first|exact⟨rfl,rfl,rfl,fun _ _=>rfl⟩|exact .inr ⟨rfl,rfl⟩|rfl
section
variable {H:Type} {enc:TypeId×Value->H} {P:Program}
def xbti{f:Func}{s:ChangeSpec}{apart fresh handsOn again:Bool}{W W':World}{args:Array Value}{v:Value}{ds gs:List (DataW H)}{before pa pv:List MemPlace}(hW:DataW.Whole enc P f.params.toList s.vars apart W args.toList ds gs before)(hres: ∀(b:Nat) (sp:Nat->Bool) (hd:Bool),DataW.TrodAll enc P W' b sp hd f.resultTypes.toList (v.resultList f.resultTypes.size) (s.fn H (ds++gs)).results [])(hargs: ∀sp:Nat->Bool,(∀p∈before,sp p.block=true)->DataW.TrodAll enc P W' 0 sp true f.params.toList args.toList (s.fn H (ds++gs)).args pa)(hvars: ∀sp:Nat->Bool,(∀p∈before,sp p.block=true)->DataW.TrodVars enc P W' sp s.vars (s.fn H (ds++gs)).vars pv)(hps:before=pa++pv)(hL:Stays W W')(hok: ∀(j:Nat) (t:TypeId) (r:Value),f.resultTypes[j]? =some t->(v.resultList f.resultTypes.size)[j]? =some r->Value.okWide P W' .any 0 t r):
  s.post enc P f apart fresh handsOn again W args v W':=by
 have hlt:=hW.lt;have old: ∀p∈before,(fun b=>decide (b<W.heap.size)) p.block=true:=fun p hp=>yf (hlt p hp);refine⟨ds,gs,before,[],pa,pv,hW,hres _ _ _,hargs _ old,hvars _ old,World.keptBut_mono (fun p f=>f.elim) hL.1,fun _=> ?_⟩;obtain⟨_,_,_,_,_,hz,hn⟩:=hW;refine⟨hok,_,_,([]++pa)++pv,⟨[]++pa,pv,trodAll_append (hargs _ (fun _ _=>rfl)) (hres _ _ _),hvars _ (fun _ _=>rfl),rfl,fun b off hp=> ?_,fun ha=> ?_⟩,fun p hp _=> ?_⟩
 ·rw[za9, <- hps] at hp;rw[hL.2 _ (hlt _ hp)];exact hz b off hp
 ·rw[za9, <- hps];exact hn ha
 ·rw[za9, <- hps] at hp;exact hp
end
abbrev Ct:=LV->List Obj->Option (Bool×Tree)
def kP(K:Ct)(xs:LV)(obs:List Obj):Bool:=match K xs obs with|some x=>x.1|none=>false
def kT(K:Ct)(xs:LV)(obs:List Obj):Tree:=match K xs obs with|some x=>x.2|none=>.fail
def ofS(p:LV->List Obj->Bool)(S:LV->List Obj->Tree):Ct:=fun xs obs=>some (p xs obs,S xs obs)
def tb(n:Nat)(K:Ct)(T:Nat->Ct):Nat->Ct:=fun g=>cond (Nat.beq g n) K (T g)
def t0:Nat->Ct:=fun _ _ _=>none
def lk{α:Type}(d:α):List (Nat×α)->Nat->α
 | [],_=>d
 | x::r,g=>cond (Nat.beq g x.1) x.2 (lk d r g)
def mkE(T:Nat->Ct)(gl:Nat->Option CV)(n:Nat):Env:= {orc:=fun g=>kT (T g),pre:=fun g=>kP (T g),glob:=gl,nt:=n}
def eqL:List Nat->List Nat->Bool
 | [],[]=>true
 | x::a,y::b=>Nat.beq x y&&eqL a b
 | _,_=>false
def qbi: ∀ {a b:List Nat},eqL a b=true->a=b
 | [],[],_=>rfl
 | [],_::_,h=>nomatch h
 | _::_,[],h=>nomatch h
 | x::a,y::b,h=>by simp only[eqL,zab] at h;rw[qag.1 h.1,qbi h.2]
section
variable {P:Program} {gl:Nat->Option CV}
abbrev OKc(P:Program)(gl:Nat->Option CV)(n:Nat)(K:Ct):Prop:=Sound P gl n (fun xs obs=>cond (kP K xs obs) (kT K xs obs).eval none)
def xbdn(P:Program)(gl:Nat->Option CV)(T:Nat->Ct):Prop:= ∀g,OKc P gl g (T g)
def tab0:xbdn P gl t0:=by intro g xs obs out w Im ρ bl vs h;cases h
def tabC{n:Nat}{K:Ct}{T:Nat->Ct}(h:OKc P gl n K)(h':xbdn P gl T):xbdn P gl (tb n K T):=by
 intro g;unfold tb
 cases hb:Nat.beq g n with
 | true=>obtain rfl:=qag.1 hb;exact h
 | false=>exact h' g
def rs{g N:Nat}{keep:Bool}{K:Ct}{T:Nat->Ct}(hT:xbdn P E.glob T)(hm:P.follows .mixedOrders=true)(hf:P.funcs[g]? =some fn)(hlo: ∀c,fn.body=some c->qbf P E N c)(hS: ∀xs obs y,K xs obs=some y->y.1=true->Nat.ble xs.length fn.ntmps=true/\qqy P E N keep fn xs obs=y.2.eval)(hn:(fn.name== "runtime.NumGoroutine")=false:=by rfl)(hb:fn.body.isSome=true:=by rfl)(hc: ∀g,ctr E g=fun xs obs=>cond (kP (T g) xs obs) (kT (T g) xs obs).eval none:=by exact fun _=>rfl)(hnt:E.nt=fn.ntmps:=by rfl)(hsq:qdp P E:=by exact qqu rfl)(hyl:E.yl=(fun _=>none):=by rfl):OKc P E.glob g K:=
 qcp hm (fun g=>by rw[hc];exact hT g) hf hn hb hlo hnt (fun xs obs out h1 h2=>by
  unfold kP at h1;unfold kT at h2
  cases hK:K xs obs with
  | none=>rw[hK] at h1;cases h1
  | some y=>
   rw[hK] at h1 h2;have:=hS xs obs y hK h1;exact⟨zbt this.1,this.2.trans h2⟩) hsq hyl
def rs0{g N:Nat}{keep:Bool}{K:Ct}{T:Nat->Ct}(hT:xbdn P E.glob T)(hm:P.follows .mixedOrders=true)(hf:P.funcs[g]? =some fn)(hlo:xbbk E (fn.body.getD .skip)=true)(hS: ∀xs obs y,K xs obs=some y->y.1=true->Nat.ble xs.length fn.ntmps=true/\qqy P E N keep fn xs obs=y.2.eval)(hn:(fn.name== "runtime.NumGoroutine")=false:=by rfl)(hb:fn.body.isSome=true:=by rfl)(hc: ∀g,ctr E g=fun xs obs=>cond (kP (T g) xs obs) (kT (T g) xs obs).eval none:=by exact fun _=>rfl)(hnt:E.nt=fn.ntmps:=by rfl)(hsq:qdp P E:=by exact qqu rfl)(hyl:E.yl=(fun _=>none):=by rfl):OKc P E.glob g K:=
 rs hT hm hf (fun c h=>qpv c (by rw[h] at hlo;exact hlo)) hS hn hb hc hnt hsq hyl
end
def lsL(E:Env):Code->List (Bool×Nat×Code)
 | .seq a b=>lsL E a++(lsL E b++cond (E.jn (qaj b)).isNone [] [(false,qaj b,b)])
 | .cond _ a b=>lsL E a++(lsL E b++cond (E.jn (qaj b)).isNone [] [(false,qaj b,b)])
 | .block _ b=>lsL E b
 | .loop b=>lsL E b++cond (E.lp (qaj b)).isNone [] [(true,qaj b,b)]
 | _=>[]
def noR:Code->Bool
 | .seq a b=>noR a&&noR b
 | .cond _ a b=>noR a&&noR b
 | .block _ b=>noR b
 | .loop b=>noR b
 | .rangeFunc .. =>false
 | _=>true
def bd(fn:Func):Code:=fn.body.getD .skip
def idsL(E:Env)(fn:Func):Bool×List (Bool×Nat):=(noR (bd fn),(lsL E (bd fn)).map fun x=>(x.1,x.2.1))
def nthc(E:Env)(fn:Func)(i:Nat):Code:=((lsL E (bd fn)).getD i (true,0,.skip)).2.2
section
variable {P:Program} {E:Env} {N:Nat}
def okX(P:Program)(E:Env)(N:Nat)(x:Bool×Nat)(c:Code):Prop:=match x.1 with
 | true=> ∃L,E.lp x.2=some L/\LpOk P E N c x.2 L
 | false=> ∃L,E.jn x.2=some L/\JnOk P E N c x.2 L
def okl(P:Program)(E:Env)(N:Nat)(fn:Func):List (Bool×Nat)->NP
 | [],_=>True
 | x::r,i=>okX P E N x (nthc E fn i)/\okl P E N fn r (i+1)
def xbph{fn:Func}: ∀(l:List (Bool×Nat×Code)) (i:Nat),(∀k x,l[k]? =some x->(lsL E (bd fn))[i+k]? =some x)->okl P E N fn (l.map fun x=>(x.1,x.2.1)) i->∀x∈l,okX P E N (x.1,x.2.1) x.2.2
 | [],_,_,_,x,hx=>by simp at hx
 | y::r,i,h,ho,x,hx=>by
  rcases zaw.1 hx with rfl|hx
  ·have h0:=h 0 x rfl;have e:nthc E fn i=x.2.2:=by unfold nthc;rw[za6,show(lsL E (bd fn))[i]? =some x from h0];rfl
   have:=ho.1;rw[e] at this;exact this
  ·exact xbph r (i+1) (fun k x hk=>by have:=h (k+1) x hk;rwa [show i+(k+1)=i+1+k by omega] at this) ho.2 x hx
def xb9g{b:Code}(h: ∀x∈(cond (E.jn (qaj b)).isNone [] [(false,qaj b,b)]:List (Bool×Nat×Code)),okX P E N (x.1,x.2.1) x.2.2): ∀L,E.jn (qaj b)=some L->∀(σ:St) (k:KT) (r:Out),L σ k=some r->qby P E N b σ (kt E (qaj b) k)=some r:=by
 cases hj:E.jn (qaj b) with
 | none=>intro L hL;cases hL
 | some L=>
  rw[hj] at h;obtain⟨L',h1,h2⟩:=h _ (zdw.2 rfl);rw[<- hj];exact xbzp h1 h2
def xbtq: ∀(c:Code),noR c=true->(∀x∈lsL E c,okX P E N (x.1,x.2.1) x.2.2)->qbf P E N c:=fun c hn h=>by
 induction c with
 | seq a b ha hb=>
  simp only[noR,zab] at hn;simp only[lsL,zaq] at h;exact⟨ha hn.1 fun x hx=>h x (.inl hx),hb hn.2 fun x hx=>h x (.inr (.inl hx)),xb9g fun x hx=>h x (.inr (.inr hx))⟩
 | cond y a b ha hb=>
  simp only[noR,zab] at hn;simp only[lsL,zaq] at h;exact⟨ha hn.1 fun x hx=>h x (.inl hx),hb hn.2 fun x hx=>h x (.inr (.inl hx)),xb9g fun x hx=>h x (.inr (.inr hx))⟩
 | block i b hb=>exact hb hn h
 | loop b hb=>
  simp only[lsL,zaq] at h;refine⟨hb hn fun x hx=>h x (.inl hx), ?_⟩
  cases hj:E.lp (qaj b) with
  | none=>intro L hL;cases hL
  | some L=>
   rw[hj] at h;obtain⟨L',h1,h2⟩:=h _ (.inr (zdw.2 rfl));have:=xbz8 h1 h2;rwa [hj] at this
 | rangeFunc _ _ _ _ _ _=>cases hn
 | _=>trivial
def lsB{ids:List (Bool×Nat)}(h:idsL E fn=(true,ids))(ok:okl P E N fn ids 0): ∀c,fn.body=some c->qbf P E N c:=fun c hc=>by
 have hb:bd fn=c:=by unfold bd;rw[hc];rfl
 obtain⟨h1,h2⟩:=Prod.mk.inj h;rw[<- h2] at ok;have:=xbtq (bd fn) h1 (xbph _ 0 (fun k x hk=>by rwa [zay]) ok);rwa [hb] at this
end
def tr{a:Bool}{x y z:OO}(h:y=z)(e:x=y:=by kernel_rfl)(l:a=true:=by rfl):a=true/\x=z:=⟨l,e.trans h⟩
section
variable {P:Program} {g:Nat} {fn:Func} {T:Nat->Ct}
def tcT(E:Env)(K:Ct)(hT:P.follows .mixedOrders=true->xbdn P E.glob T)(hf:P.funcs[g]? =some fn)(ids:List (Bool×Nat))(ok:okl P E 40 fn ids 0)(hS: ∀xs obs y,K xs obs=some y->y.1=true->Nat.ble xs.length fn.ntmps=true/\qqy P E 40 false fn xs obs=y.2.eval)(h:idsL E fn=(true,ids):=by kernel_rfl)(hn:(fn.name== "runtime.NumGoroutine")=false:=by rfl)(hb:fn.body.isSome=true:=by rfl)(hc: ∀g,ctr E g=fun xs obs=>cond (kP (T g) xs obs) (kT (T g) xs obs).eval none:=by exact fun _=>rfl)(hnt:E.nt=fn.ntmps:=by rfl)(hsq:qdp P E:=by exact qqu rfl)(hyl:E.yl=(fun _=>none):=by rfl)(hm:P.follows .mixedOrders=true):xbdn P E.glob (tb g K T):=
 tabC (rs (hT hm) hm hf (lsB h ok) hS hn hb hc hnt hsq hyl) (hT hm)
def tc0(E:Env)(K:Ct)(hT:P.follows .mixedOrders=true->xbdn P E.glob T)(hf:P.funcs[g]? =some fn)(hS: ∀xs obs y,K xs obs=some y->y.1=true->Nat.ble xs.length fn.ntmps=true/\qqy P E 40 false fn xs obs=y.2.eval)(hlo:xbbk E (fn.body.getD .skip)=true:=by kernel_rfl)(hn:(fn.name== "runtime.NumGoroutine")=false:=by rfl)(hb:fn.body.isSome=true:=by rfl)(hc: ∀g,ctr E g=fun xs obs=>cond (kP (T g) xs obs) (kT (T g) xs obs).eval none:=by exact fun _=>rfl)(hnt:E.nt=fn.ntmps:=by rfl)(hsq:qdp P E:=by exact qqu rfl)(hyl:E.yl=(fun _=>none):=by rfl)(hm:P.follows .mixedOrders=true):xbdn P E.glob (tb g K T):=
 tabC (rs0 (hT hm) hm hf hlo hS hn hb hc hnt hsq hyl) (hT hm)
end
noncomputable def rF(P:Program)(E:Env)(fn:Func)(i rid:Nat)(σ:St)(k:KT)(n:Nat):OO:=q2c n (qby P E 40 (nthc E fn i)) (head E rid) σ k
def LpT(P:Program)(E:Env)(fn:Func)(i rid:Nat)(L:St->KT->OO):Prop:= ∀(σ:St) (k:KT) (r:Out),L σ k=some r->∃n,rF P E fn i rid σ k n=some r
def eqF{F G:Nat->α}{s:α->α}(hs: ∀n,F (n+1)=s (F n))(hG: ∀n,G (n+1)=s (G n))(h0:F 0=G 0):F=G:=funext fun n=>by
 induction n with
 | zero=>exact h0
 | succ n ih=>rw[hs,ih,hG]
def it1{a0:Type}{s:(a0->OO)->a0->OO}{z:a0->OO}{x0:a0}{r:Out}(j:qe8 s z FUEL x0=some r)(F:Nat->a0->OO)(hs: ∀n,F (n+1)=s (F n))(h0:F 0=z): ∃n,F n x0=some r:=⟨FUEL,qmo (F:=F) (Q:=fun f=>f x0=some r) h0 hs j⟩
def it3{a0 a1 a2:Type}{s:(a0->a1->a2->OO)->a0->a1->a2->OO}{z:a0->a1->a2->OO}{x0:a0}{x1:a1}{x2:a2}{r:Out}(j:qe8 s z FUEL x0 x1 x2=some r)(F:Nat->a0->a1->a2->OO)(hs: ∀n,F (n+1)=s (F n))(h0:F 0=z): ∃n,F n x0 x1 x2=some r:=⟨FUEL,qmo (F:=F) (Q:=fun f=>f x0 x1 x2=some r) h0 hs j⟩
def it4{a0 a1 a2 a3:Type}{s:(a0->a1->a2->a3->OO)->a0->a1->a2->a3->OO}{z:a0->a1->a2->a3->OO}{x0:a0}{x1:a1}{x2:a2}{x3:a3}{r:Out}(j:qe8 s z FUEL x0 x1 x2 x3=some r)(F:Nat->a0->a1->a2->a3->OO)(hs: ∀n,F (n+1)=s (F n))(h0:F 0=z): ∃n,F n x0 x1 x2 x3=some r:=⟨FUEL,qmo (F:=F) (Q:=fun f=>f x0 x1 x2 x3=some r) h0 hs j⟩
def it5{a0 a1 a2 a3 a4:Type}{s:(a0->a1->a2->a3->a4->OO)->a0->a1->a2->a3->a4->OO}{z:a0->a1->a2->a3->a4->OO}{x0:a0}{x1:a1}{x2:a2}{x3:a3}{x4:a4}{r:Out}(j:qe8 s z FUEL x0 x1 x2 x3 x4=some r)(F:Nat->a0->a1->a2->a3->a4->OO)(hs: ∀n,F (n+1)=s (F n))(h0:F 0=z): ∃n,F n x0 x1 x2 x3 x4=some r:=⟨FUEL,qmo (F:=F) (Q:=fun f=>f x0 x1 x2 x3 x4=some r) h0 hs j⟩
def it6{a0 a1 a2 a3 a4 a5:Type}{s:(a0->a1->a2->a3->a4->a5->OO)->a0->a1->a2->a3->a4->a5->OO}{z:a0->a1->a2->a3->a4->a5->OO}{x0:a0}{x1:a1}{x2:a2}{x3:a3}{x4:a4}{x5:a5}{r:Out}(j:qe8 s z FUEL x0 x1 x2 x3 x4 x5=some r)(F:Nat->a0->a1->a2->a3->a4->a5->OO)(hs: ∀n,F (n+1)=s (F n))(h0:F 0=z): ∃n,F n x0 x1 x2 x3 x4 x5=some r:=⟨FUEL,qmo (F:=F) (Q:=fun f=>f x0 x1 x2 x3 x4 x5=some r) h0 hs j⟩
def it7{a0 a1 a2 a3 a4 a5 a6:Type}{s:(a0->a1->a2->a3->a4->a5->a6->OO)->a0->a1->a2->a3->a4->a5->a6->OO}{z:a0->a1->a2->a3->a4->a5->a6->OO}{x0:a0}{x1:a1}{x2:a2}{x3:a3}{x4:a4}{x5:a5}{x6:a6}{r:Out}(j:qe8 s z FUEL x0 x1 x2 x3 x4 x5 x6=some r)(F:Nat->a0->a1->a2->a3->a4->a5->a6->OO)(hs: ∀n,F (n+1)=s (F n))(h0:F 0=z): ∃n,F n x0 x1 x2 x3 x4 x5 x6=some r:=⟨FUEL,qmo (F:=F) (Q:=fun f=>f x0 x1 x2 x3 x4 x5 x6=some r) h0 hs j⟩
def it8{a0 a1 a2 a3 a4 a5 a6 a7:Type}{s:(a0->a1->a2->a3->a4->a5->a6->a7->OO)->a0->a1->a2->a3->a4->a5->a6->a7->OO}{z:a0->a1->a2->a3->a4->a5->a6->a7->OO}{x0:a0}{x1:a1}{x2:a2}{x3:a3}{x4:a4}{x5:a5}{x6:a6}{x7:a7}{r:Out}(j:qe8 s z FUEL x0 x1 x2 x3 x4 x5 x6 x7=some r)(F:Nat->a0->a1->a2->a3->a4->a5->a6->a7->OO)(hs: ∀n,F (n+1)=s (F n))(h0:F 0=z): ∃n,F n x0 x1 x2 x3 x4 x5 x6 x7=some r:=⟨FUEL,qmo (F:=F) (Q:=fun f=>f x0 x1 x2 x3 x4 x5 x6 x7=some r) h0 hs j⟩
def it9{a0 a1 a2 a3 a4 a5 a6 a7 a8:Type}{s:(a0->a1->a2->a3->a4->a5->a6->a7->a8->OO)->a0->a1->a2->a3->a4->a5->a6->a7->a8->OO}{z:a0->a1->a2->a3->a4->a5->a6->a7->a8->OO}{x0:a0}{x1:a1}{x2:a2}{x3:a3}{x4:a4}{x5:a5}{x6:a6}{x7:a7}{x8:a8}{r:Out}(j:qe8 s z FUEL x0 x1 x2 x3 x4 x5 x6 x7 x8=some r)(F:Nat->a0->a1->a2->a3->a4->a5->a6->a7->a8->OO)(hs: ∀n,F (n+1)=s (F n))(h0:F 0=z): ∃n,F n x0 x1 x2 x3 x4 x5 x6 x7 x8=some r:=⟨FUEL,qmo (F:=F) (Q:=fun f=>f x0 x1 x2 x3 x4 x5 x6 x7 x8=some r) h0 hs j⟩
def it10{a0 a1 a2 a3 a4 a5 a6 a7 a8 a9:Type}{s:(a0->a1->a2->a3->a4->a5->a6->a7->a8->a9->OO)->a0->a1->a2->a3->a4->a5->a6->a7->a8->a9->OO}{z:a0->a1->a2->a3->a4->a5->a6->a7->a8->a9->OO}{x0:a0}{x1:a1}{x2:a2}{x3:a3}{x4:a4}{x5:a5}{x6:a6}{x7:a7}{x8:a8}{x9:a9}{r:Out}(j:qe8 s z FUEL x0 x1 x2 x3 x4 x5 x6 x7 x8 x9=some r)(F:Nat->a0->a1->a2->a3->a4->a5->a6->a7->a8->a9->OO)(hs: ∀n,F (n+1)=s (F n))(h0:F 0=z): ∃n,F n x0 x1 x2 x3 x4 x5 x6 x7 x8 x9=some r:=⟨FUEL,qmo (F:=F) (Q:=fun f=>f x0 x1 x2 x3 x4 x5 x6 x7 x8 x9=some r) h0 hs j⟩
def it12{a0 a1 a2 a3 a4 a5 a6 a7 a8 a9 a10 a11:Type}{s:(a0->a1->a2->a3->a4->a5->a6->a7->a8->a9->a10->a11->OO)->a0->a1->a2->a3->a4->a5->a6->a7->a8->a9->a10->a11->OO}{z:a0->a1->a2->a3->a4->a5->a6->a7->a8->a9->a10->a11->OO}{x0:a0}{x1:a1}{x2:a2}{x3:a3}{x4:a4}{x5:a5}{x6:a6}{x7:a7}{x8:a8}{x9:a9}{x10:a10}{x11:a11}{r:Out}(j:qe8 s z FUEL x0 x1 x2 x3 x4 x5 x6 x7 x8 x9 x10 x11=some r)(F:Nat->a0->a1->a2->a3->a4->a5->a6->a7->a8->a9->a10->a11->OO)(hs: ∀n,F (n+1)=s (F n))(h0:F 0=z): ∃n,F n x0 x1 x2 x3 x4 x5 x6 x7 x8 x9 x10 x11=some r:=⟨FUEL,qmo (F:=F) (Q:=fun f=>f x0 x1 x2 x3 x4 x5 x6 x7 x8 x9 x10 x11=some r) h0 hs j⟩
def jt1{a0:Type}{G:Nat->a0->OO}{x0:a0}{r:Out}(j:G FUEL x0=some r)(F:Nat->a0->OO)(s:(a0->OO)->a0->OO)(hG: ∀n,G (n+1)=s (G n))(hs: ∀n,F (n+1)=s (F n))(h0:F 0=G 0): ∃n,F n x0=some r:=⟨FUEL,by rw[eqF hs hG h0];exact j⟩
def jt2{a0 a1:Type}{G:Nat->a0->a1->OO}{x0:a0}{x1:a1}{r:Out}(j:G FUEL x0 x1=some r)(F:Nat->a0->a1->OO)(s:(a0->a1->OO)->a0->a1->OO)(hG: ∀n,G (n+1)=s (G n))(hs: ∀n,F (n+1)=s (F n))(h0:F 0=G 0): ∃n,F n x0 x1=some r:=⟨FUEL,by rw[eqF hs hG h0];exact j⟩
def jt3{a0 a1 a2:Type}{G:Nat->a0->a1->a2->OO}{x0:a0}{x1:a1}{x2:a2}{r:Out}(j:G FUEL x0 x1 x2=some r)(F:Nat->a0->a1->a2->OO)(s:(a0->a1->a2->OO)->a0->a1->a2->OO)(hG: ∀n,G (n+1)=s (G n))(hs: ∀n,F (n+1)=s (F n))(h0:F 0=G 0): ∃n,F n x0 x1 x2=some r:=⟨FUEL,by rw[eqF hs hG h0];exact j⟩
def jt4{a0 a1 a2 a3:Type}{G:Nat->a0->a1->a2->a3->OO}{x0:a0}{x1:a1}{x2:a2}{x3:a3}{r:Out}(j:G FUEL x0 x1 x2 x3=some r)(F:Nat->a0->a1->a2->a3->OO)(s:(a0->a1->a2->a3->OO)->a0->a1->a2->a3->OO)(hG: ∀n,G (n+1)=s (G n))(hs: ∀n,F (n+1)=s (F n))(h0:F 0=G 0): ∃n,F n x0 x1 x2 x3=some r:=⟨FUEL,by rw[eqF hs hG h0];exact j⟩
def jt5{a0 a1 a2 a3 a4:Type}{G:Nat->a0->a1->a2->a3->a4->OO}{x0:a0}{x1:a1}{x2:a2}{x3:a3}{x4:a4}{r:Out}(j:G FUEL x0 x1 x2 x3 x4=some r)(F:Nat->a0->a1->a2->a3->a4->OO)(s:(a0->a1->a2->a3->a4->OO)->a0->a1->a2->a3->a4->OO)(hG: ∀n,G (n+1)=s (G n))(hs: ∀n,F (n+1)=s (F n))(h0:F 0=G 0): ∃n,F n x0 x1 x2 x3 x4=some r:=⟨FUEL,by rw[eqF hs hG h0];exact j⟩
def jt6{a0 a1 a2 a3 a4 a5:Type}{G:Nat->a0->a1->a2->a3->a4->a5->OO}{x0:a0}{x1:a1}{x2:a2}{x3:a3}{x4:a4}{x5:a5}{r:Out}(j:G FUEL x0 x1 x2 x3 x4 x5=some r)(F:Nat->a0->a1->a2->a3->a4->a5->OO)(s:(a0->a1->a2->a3->a4->a5->OO)->a0->a1->a2->a3->a4->a5->OO)(hG: ∀n,G (n+1)=s (G n))(hs: ∀n,F (n+1)=s (F n))(h0:F 0=G 0): ∃n,F n x0 x1 x2 x3 x4 x5=some r:=⟨FUEL,by rw[eqF hs hG h0];exact j⟩
def jt7{a0 a1 a2 a3 a4 a5 a6:Type}{G:Nat->a0->a1->a2->a3->a4->a5->a6->OO}{x0:a0}{x1:a1}{x2:a2}{x3:a3}{x4:a4}{x5:a5}{x6:a6}{r:Out}(j:G FUEL x0 x1 x2 x3 x4 x5 x6=some r)(F:Nat->a0->a1->a2->a3->a4->a5->a6->OO)(s:(a0->a1->a2->a3->a4->a5->a6->OO)->a0->a1->a2->a3->a4->a5->a6->OO)(hG: ∀n,G (n+1)=s (G n))(hs: ∀n,F (n+1)=s (F n))(h0:F 0=G 0): ∃n,F n x0 x1 x2 x3 x4 x5 x6=some r:=⟨FUEL,by rw[eqF hs hG h0];exact j⟩
def jt8{a0 a1 a2 a3 a4 a5 a6 a7:Type}{G:Nat->a0->a1->a2->a3->a4->a5->a6->a7->OO}{x0:a0}{x1:a1}{x2:a2}{x3:a3}{x4:a4}{x5:a5}{x6:a6}{x7:a7}{r:Out}(j:G FUEL x0 x1 x2 x3 x4 x5 x6 x7=some r)(F:Nat->a0->a1->a2->a3->a4->a5->a6->a7->OO)(s:(a0->a1->a2->a3->a4->a5->a6->a7->OO)->a0->a1->a2->a3->a4->a5->a6->a7->OO)(hG: ∀n,G (n+1)=s (G n))(hs: ∀n,F (n+1)=s (F n))(h0:F 0=G 0): ∃n,F n x0 x1 x2 x3 x4 x5 x6 x7=some r:=⟨FUEL,by rw[eqF hs hG h0];exact j⟩
def jt9{a0 a1 a2 a3 a4 a5 a6 a7 a8:Type}{G:Nat->a0->a1->a2->a3->a4->a5->a6->a7->a8->OO}{x0:a0}{x1:a1}{x2:a2}{x3:a3}{x4:a4}{x5:a5}{x6:a6}{x7:a7}{x8:a8}{r:Out}(j:G FUEL x0 x1 x2 x3 x4 x5 x6 x7 x8=some r)(F:Nat->a0->a1->a2->a3->a4->a5->a6->a7->a8->OO)(s:(a0->a1->a2->a3->a4->a5->a6->a7->a8->OO)->a0->a1->a2->a3->a4->a5->a6->a7->a8->OO)(hG: ∀n,G (n+1)=s (G n))(hs: ∀n,F (n+1)=s (F n))(h0:F 0=G 0): ∃n,F n x0 x1 x2 x3 x4 x5 x6 x7 x8=some r:=⟨FUEL,by rw[eqF hs hG h0];exact j⟩
def jt10{a0 a1 a2 a3 a4 a5 a6 a7 a8 a9:Type}{G:Nat->a0->a1->a2->a3->a4->a5->a6->a7->a8->a9->OO}{x0:a0}{x1:a1}{x2:a2}{x3:a3}{x4:a4}{x5:a5}{x6:a6}{x7:a7}{x8:a8}{x9:a9}{r:Out}(j:G FUEL x0 x1 x2 x3 x4 x5 x6 x7 x8 x9=some r)(F:Nat->a0->a1->a2->a3->a4->a5->a6->a7->a8->a9->OO)(s:(a0->a1->a2->a3->a4->a5->a6->a7->a8->a9->OO)->a0->a1->a2->a3->a4->a5->a6->a7->a8->a9->OO)(hG: ∀n,G (n+1)=s (G n))(hs: ∀n,F (n+1)=s (F n))(h0:F 0=G 0): ∃n,F n x0 x1 x2 x3 x4 x5 x6 x7 x8 x9=some r:=⟨FUEL,by rw[eqF hs hG h0];exact j⟩
section
variable {P:Program}
def xbto{g N:Nat}{K:Ct}{T:Nat->Ct}(hT:xbdn P E.glob T)(hm:P.follows .mixedOrders=true)(hf:P.funcs[g]? =some fn)(r0 s1 r3 r4 c5 c6 c8 rest:Code)(t t1 t2 t5 t6 p q:Nat)(hb:fn.body=some (.seq r0 (.seq s1 (.seq (.seq r3 (.cond (.tmp t) (.seq r4 (.seq c5 (.seq c6 c8))) .skip)) rest))))(hlo:xbbk E (fn.body.getD .skip)=true)(hS: ∀xs obs y,K xs obs=some y->y.1=true->Nat.ble xs.length fn.ntmps=true/\∃(r:Out) (K5:St->OO),y.2.eval=some r/\spK P E N r0 s1 r3 t r4 rest K5 ⟨slots0 0 xs,heap0 0 obs⟩ (endK P false fn obs.length)=some r/\
   ∀σ4,K5 σ4=some r->∃(L b1:LI) (n6:Int) (ce:LC),qal σ4.heap p=some ⟨.ints .u8 L,false⟩/\qal σ4.heap q=some ⟨.var (ce.map .cl),false⟩/\L≠[]/\
    getV σ4.slots t1=.cl (.sli .u8 b1)/\getV σ4.slots t2=.ptr q 0 0/\getV σ4.slots t5=.ref p 0 L.length true 1/\getV σ4.slots t6=.cl (.int .i64 n6)/\
    ∀u1 u5,qby P E N c5 ⟨[(t1,.cl (.is (.sli .u8 b1) u1)),(t2,.ptr q 0 0),(t5,.cl (.is (.sli .u8 L) u5)),(t6,.cl (.int .i64 n6))],[(q,⟨.var (ce.map .cl),false⟩)]⟩
     (only fun σ'=>qby P E N c6 σ' (only fun σ'=>@ite _ (getV σ'.slots t1=.cl (.is (.sli .u8 b1) u1)/\getV σ'.slots t5=.cl (.is (.sli .u8 L) u5)) (ya _)
      (qby P E N c8 ⟨[(t1,.cl (.sli .u8 b1)),(t5,.ref p 0 L.length true 1)],[(p,⟨.ints .u8 L,false⟩)]⟩ (nrm (endK P false fn obs.length) fun σ=>qby P E N rest σ (endK P false fn obs.length))) none))=some r)(hqp:Nat.beq q p=false)(h32:Nat.ble 32 p=true)(hrg:E.rg=false)(hn:(fn.name== "runtime.NumGoroutine")=false:=by rfl)(hc: ∀g,ctr E g=fun xs obs=>cond (kP (T g) xs obs) (kT (T g) xs obs).eval none:=by exact fun _=>rfl)(hnt:E.nt=fn.ntmps:=by rfl)(hsq:qdp P E:=by exact qqu rfl)(hyl:E.yl=(fun _=>none):=by rfl):OKc P E.glob g K:=by
 have hE: ∀g,Sound P E.glob g (ctr E g):=fun g=>by rw[hc];exact hT g
 have hdraw:=qkp hE hm;have hlo:=qpv (P:=P) (N:=N) _ hlo;rw[hb] at hlo;obtain⟨l0,⟨l1,⟨⟨l3,⟨⟨l4,⟨l5,⟨l6,l8,_⟩,_⟩,_⟩,_⟩,_⟩,lr,_⟩,_⟩,_⟩:=hlo;refine qvs (keep:=false) hf hn (by rw[hb];rfl) hnt fun xs obs out h=> ?_;obtain⟨h1,h2⟩:=qaa h;unfold kP at h1;unfold kT at h2
 cases hK:K xs obs with
 | none=>rw[hK] at h1;cases h1
 | some y=>
  rw[hK] at h1 h2;obtain⟨g1,r,K5,e1,e10,e11⟩:=hS xs obs y hK h1;have h2:y.2.eval=some out:=h2;rw[e1] at h2;simp only[zaa] at h2;subst h2;refine⟨zbt g1,fun c hc w0 bl I0 a w Q hQ hO=> ?_⟩;rw[hb] at hc;simp only[zaa] at hc;subst hc;refine xbb2 hE hsq hyl hdraw l0 l1 l3 l4 lr hQ (fun σ a w hk hO Q' hQ'=> ?_) e10 hO;obtain⟨L,b1,n6,ce,e2,e3,e4,e6,e7,e8,e9,e12⟩:=e11 σ hk;exact xbgi hE hsq hyl hdraw hrg l5 l6 l8 hQ' hO e2 e3 (qbh hqp) (zbt h32) e4 e6 e7 e8 e9 e12
end
end Go.Proofs.YtoaakappnhemiaaGreatDoorA
