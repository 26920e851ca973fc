/-
 What the layers below come to (their lemmas, as far as this seat needs them). Conditions: each function's own.
-/
import Derived.Test.YtoaakappnhemiaaGreatDoorT2a
import Derived.Test.YtoaakappnhemiaaGreatDoorT2b
import Derived.Test.YtoaakappnhemiaaGreatDoorT2c
import Derived.Test.YtoaakappnhemiaaGreatDoorT3a
import Derived.IntWalk
set_option linter.unusedVariables false
set_option linter.unusedSimpArgs false
set_option maxRecDepth 100000
set_option linter.defProp false
namespace Go.Proofs.YtoaakappnhemiaaGreatDoorA
open IntKind(i64 u8 u32 u64)
open IntWalk (i64_in u8_in u32_in u64_in i64_quo u8_quo rem_in)
def xbr5{n:Nat}{x:LC}(hn:isTf n x=true):1<=qee n x:=by obtain⟨n',t,b,l,rfl,rfl,_,hl⟩:=qdi hn;show 1<=1+b.length+_;omega
def xbqa{g:CV->Nat}: ∀ {l:LC} {c:CV},c∈l->g c<=(l.map g).sum
 | a::r,c,h=>by
  rw[zbf,zcf];rcases zaw.1 h with rfl|h
  ·omega
  ·have:=xbqa (g:=g) h;omega
def xbp9{g:CV->Nat}: ∀ {l:LC},(∀c∈l,1<=g c)->l.length<=(l.map g).sum
 | [],_=>by simp
 | a::r,h=>by rw[zbf,zcf,zac];have:=xbp9 (g:=g) (l:=r) fun c hc=>h c (za8 _ hc);have:=h a (zck ..);omega
def qld{n:Nat}{t:Int}{b:LI}{l:LC}(h:isTf (n+1) [.int .i64 t,.sli .u8 b,.slg 3 l]=true){B:Nat}(hb:qee (n+1) [.int .i64 t,.sli .u8 b,.slg 3 l]<=B):
  b.length+1<=B/\l.length+1<=B/\(∀z∈b,0<=z/\z<=255)/\(∀c∈l, ∃y,c=.agg y/\isTf n y=true/\qee n y+1<=B)/\1+b.length+(l.map fun c=>qee n (cell1 c)).sum<=B:=by
 obtain⟨n',t',b',l',hn,he,h1,h2⟩:=qdi h;obtain rfl:n=n':=by omega
 simp only[zcg,CV.int.injEq,CV.sli.injEq,CV.slg.injEq,true_and,and_true] at he;obtain⟨rfl,rfl,rfl⟩:=he;have hb:1+b.length+(l.map fun c=>qee n (cell1 c)).sum<=B:=hb;have hs:=xbp9 (g:=fun c=>qee n (cell1 c)) (l:=l) fun c hc=>by obtain⟨y,rfl,hy⟩:=h2 c hc;exact xbr5 hy
 refine⟨by omega,by omega,h1,fun c hc=> ?_,hb⟩;obtain⟨y,rfl,hy⟩:=h2 c hc;have hm:qee n y<=(l.map fun c=>qee n (cell1 c)).sum:=xbqa (g:=fun c=>qee n (cell1 c)) hc;exact⟨y,rfl,hy,by omega⟩
def xbg8: ∀ {n:Nat} {x:LC},isTf n x=true->qee n x<=30000->isNf n x=true
 | n,x,hn,hb=>by obtain⟨n',t,b,l,rfl,rfl,_,_⟩:=qdi hn;obtain⟨h1,h2,_,h3,_⟩:=qld hn hb;refine xcax (by omega) (by omega) fun c hc=> ?_;obtain⟨y,rfl,hy,hyb⟩:=h3 c hc;exact⟨y,rfl,xbg8 hy (by omega)⟩
def qjg(t n:Int):((qck t n).length:Int)=1+qau n:=by
 unfold qck qau;rw[zac]
 repeat' split
 all_goals rfl
def qdj(n:Int):1<=qau n/\qau n<=4:=by
 unfold qau
 repeat' split
 all_goals omega
def qrd{g:CV->LI}{h:CV->Nat}: ∀ {l:LC},(∀c∈l,(g c).length<=5*h c)->((l.map g).flatten).length<=5*(l.map h).sum
 | [],_=>by simp
 | a::r,hh=>by have:=hh a (zck ..);have:=qrd (g:=g) (h:=h) (l:=r) fun c hc=>hh c (za8 _ hc);simp only[zbf,zc1,zaf,zcf];omega
def qgj: ∀ {n:Nat} {x:LC},isTf n x=true->(qah n x).1.length<=5*qee n x
 | n,x,hn=>by
  obtain⟨n',t,b,l,rfl,rfl,_,hl⟩:=qdi hn;have hb:qee (n'+1) [.int .i64 t,.sli .u8 b,.slg 3 l]=1+b.length+(l.map fun c=>qee n' (cell1 c)).sum:=rfl;rw[hb];simp only[qah];split
  ·have hf:=qrd (g:=fun c=>(qah n' (cell1 c)).1) (h:=fun c=>qee n' (cell1 c)) (l:=l) fun c hc=>by obtain⟨y,rfl,hy⟩:=hl c hc;exact qgj hy
   have e:((l.map fun c=>qah n' (cell1 c)).map (·.1))=l.map fun c=>(qah n' (cell1 c)).1:=by rw[zc8];rfl
   simp only[e];have hh:=qjg t (((l.map fun c=>(qah n' (cell1 c)).1).flatten).length:Nat);have hr:=qdj (((l.map fun c=>(qah n' (cell1 c)).1).flatten).length:Nat);rw[zaf];omega
  ·have hh:=qjg t (b.length:Nat);have hr:=qdj (b.length:Nat);simp only[zaf];omega
def sumL(f:CV->LI):LC->Int
 | []=>0
 | c::r=>(f c).length+sumL f r
def qed(f:CV->LI): ∀l:LC,sumL f l=(((l.map f).flatten).length:Nat)
 | []=>rfl
 | c::r=>by simp only[sumL,zbf,zc1,zaf,qed f r];omega
def qr1(f:CV->LI)(l:LC)(i:Nat):0<=sumL f (l.drop i)/\sumL f (l.drop i)<=sumL f l:=by
 constructor
 ·rw[qed];omega
 ·rw[qed,qed,zdc];have h: ∀(ls:List LI) (i:Nat),((ls.drop i).flatten).length<=(ls.flatten).length:=fun ls=>by
   induction ls with
   | nil=>simp
   | cons a r ih=>
    intro i
    cases i with
    | zero=>exact zap _
    | succ i=>
     have:=ih i;simp only[zco,zc1,zaf];omega
  have:=h (l.map f) i;omega
def xbio(rk d:Nat)(deep:Int)(hd:1<=deep/\deep<=1000)(hdd:deep.toNat=d+1)(ka:LC)(hlen:ka.length<=30000)(hall: ∀c∈ka, ∃y,c=.agg y/\isTf rk y=true/\qee rk y<=30000)(hsum:sumL (fun c=>(qah rk (cell1 c)).1) ka<=150000)(k1:Int->Int->Int->LC->Int->Int->LC->Nat->Int->LI->LC->Int->LI->LC->Int->Int->Int->Int->Int->Int->Int->Bool->Int->Bool->Int->LI->LC->OO)(F:Int->OO): ∀(f i:Nat) (s:Int),i<=ka.length->ka.length<f+i->0<=s->s+sumL (fun c=>(qah rk (cell1 c)).1) (ka.drop i)<=150000->
  qnz rk (fun _ _ _ _ _ _ _ _ _ _ _ _ _ _ _ _ _ _ _ _ _ _ _ _ _=>zI (-1)) k1 (fun _ y56 _ _ _=>F y56) f deep s ka (ka.length:Int) i=if(ka.drop i).all (fun c=>okF rk d (cell1 c))=true then F (s+sumL (fun c=>(qah rk (cell1 c)).1) (ka.drop i)) else zI (-1)
 | 0,i,s,hi,hf,_,_=>by omega
 | f+1,i,s,hi,hf,h0,hs=>by
  show qn0 rk (qnz rk (fun _ _ _ _ _ _ _ _ _ _ _ _ _ _ _ _ _ _ _ _ _ _ _ _ _=>zI (-1)) k1 (fun _ y56 _ _ _=>F y56) f) (fun _ _ _ _ _ _ _ _ _ _ _ _ _ _ _ _ _ _ _ _ _ _ _ _ _=>zI (-1)) k1 (fun _ y56 _ _ _=>F y56) deep s ka (ka.length:Int) i=_;unfold qn0;obtain⟨R,hR⟩: ∃R:OO,R=(if(ka.drop i).all (fun c=>okF rk d (cell1 c))=true then F (s+sumL (fun c=>(qah rk (cell1 c)).1) (ka.drop i)) else zI (-1)):=⟨_,rfl⟩;rw[<- hR];refine qae (fun h=> ?_) fun h=> ?_
  ·obtain⟨c,hc⟩:=qbz (b:=ka) (i:=i) (by omega);obtain⟨y,rfl,hy,hyb⟩:=hall c (zad hc);have ed:ka.drop i=.agg y::ka.drop (i+1):=by obtain⟨hlt,e⟩:=zae.1 hc;rw[zb0 hlt,e]
   refine qaq (by omega) (qaq h ?_);rw[show(i:Int).toNat=i from rfl,hc,zak];obtain⟨m,t,b,l,hm,hye,_⟩:=qdi hy;simp only[cell1,hye,zba,zbw];refine qam rfl ?_;simp only[show i64.wrap (deep - 1)=deep - 1 from i64_in _ (by omega),qf9,qb8,qbl];refine qam ?_ ?_
   ·simp only[zab];exact⟨q75 (hye▸hy) (hye▸hyb),qfw (by omega)⟩
   ·have e:q2k [.int .i64 t,.sli .u8 b,.slg 3 l] (deep - 1)=if okF rk d y=true then((qah rk y).1.length:Int) else -1:=by rw[<- hye,qrs hy,show(deep - 1).toNat=d by omega]
    have es:sumL (fun c=>(qah rk (cell1 c)).1) (ka.drop i)=((qah rk y).1.length:Int)+sumL (fun c=>(qah rk (cell1 c)).1) (ka.drop (i+1)):=by rw[ed];rfl
    have hpos:=(qr1 (fun c=>(qah rk (cell1 c)).1) ka (i+1)).1;rw[es] at hs;rw[e];have ea:(ka.drop i).all (fun c=>okF rk d (cell1 c))=(okF rk d y&&(ka.drop (i+1)).all (fun c=>okF rk d (cell1 c))):=by rw[ed,zbz];rfl
    rw[ea,es] at hR;by_cases hok:okF rk d y=true
    ·rw[hok,zbs] at hR;rw[yc hok];refine qca (by omega) ?_;rw[show i64.wrap (s+((qah rk y).1.length:Int))=s+((qah rk y).1.length:Int) from i64_in _ (by omega)];refine qca (by omega) ?_;rw[show i64.wrap ((i:Int)+1)=((i+1:Nat):Int) from(i64_in _ (by omega)).trans (by omega)];refine(xbio rk d deep hd hdd ka hlen hall hsum k1 F f (i+1) _ (by omega) (by omega) (by omega) (by omega)).trans ?_;rw[hR,Int.add_assoc]
    ·rw[yb hok];refine qaq (by omega) ?_;rw[hR,yb (by simp[hok])]
  ·rw[zbl (by omega)] at hR;rw[hR];show F s=if([]:LC).all (fun c=>okF rk d (cell1 c))=true then F (s+0) else _
   rw[yc (by rfl),zdy]
def xb6q(rk:Nat)(ta:Int)(ba:LI)(ka:LC)(deep:Int)(hp:(isSr (rk+1) [.int .i64 ta,.sli .u8 ba,.slg 3 ka]&&qc1 deep)=true):xbs0 rk ta ba ka deep=zI (q2k [.int .i64 ta,.sli .u8 ba,.slg 3 ka] deep):=by
 simp only[zab] at hp;obtain⟨ht,hb⟩:=qls hp.1;have hd:=qic hp.2;obtain⟨h1,h2,h3,h4,h5⟩:=qld ht hb;rw[qrs ht];unfold xbs0 qep qbn qdn qcn;simp only[qab];refine qae (fun h=> ?_) fun h=> ?_
 ·subst h;rfl
 obtain⟨d,hdd⟩: ∃d,deep.toNat=d+1:=⟨deep.toNat - 1,by omega⟩;rw[hdd];have hokF:okF (rk+1) (d+1) [.int .i64 ta,.sli .u8 ba,.slg 3 ka]=(qbg ta&&(if qav ta=true then decide (ba=[])&&ka.all fun c=>okF rk d (cell1 c) else decide (ka=[])&&qbj ta ba)):=rfl;rw[hokF];refine qc5 (fun hk=> ?_) fun hk=> ?_
 ·rw[yb (by simp only[zal] at hk;simp[hk])]
 have hk:qbg ta=true:=by simpa using hk
 rw[hk,zbs];have hflen:(((ka.map fun c=>(qah rk (cell1 c)).1).flatten).length:Int)<=150000:=by
  have:=qrd (g:=fun c=>(qah rk (cell1 c)).1) (h:=fun c=>qee rk (cell1 c)) (l:=ka) fun c hc=>by obtain⟨y,rfl,hy,_⟩:=h4 c hc;exact qgj hy
  omega
 refine qc5 (fun hx=> ?_) fun hx=> ?_
 ·rw[yc hx];refine qae (fun hba=> ?_) fun hba=> ?_
  ·rw[yb (by intro e;simp only[zab,yd] at e;rw[e.1] at hba;simp at hba)]
  ·obtain rfl:ba=[]:=zaj (by omega);refine(xbio rk d deep (by omega) hdd ka (by omega) (fun c hc=>by obtain⟨y,e,hy,hyb⟩:=h4 c hc;exact⟨y,e,hy,by omega⟩) (by rw[qed];exact hflen) _ (fun n=>zI (i64.wrap (i64.wrap ((1:Int)+qau n)+n))) FUEL 0 0 (by omega) (by unfold FUEL;omega) (by omega) (by rw[zbr,qed];omega)).trans ?_;rw[zbr,yf (show([]:LI)=[] from rfl),zbs,qed,Int.zero_add];by_cases ha:(ka.all fun c=>okF rk d (cell1 c))=true
   ·rw[yc ha,yc ha];have hr:=qdj (((ka.map fun c=>(qah rk (cell1 c)).1).flatten).length:Nat);rw[show i64.wrap ((1:Int)+qau (((ka.map fun c=>(qah rk (cell1 c)).1).flatten).length:Nat))=1+qau (((ka.map fun c=>(qah rk (cell1 c)).1).flatten).length:Nat) from i64_in _ (by omega)];rw[i64_in _ (show -9223372036854775808<=(1:Int)+qau (((ka.map fun c=>(qah rk (cell1 c)).1).flatten).length:Nat)+(((ka.map fun c=>(qah rk (cell1 c)).1).flatten).length:Nat)/\_<=9223372036854775807 by omega)];refine qmu ?_;simp only[qah];rw[yc hx];have e:((ka.map fun c=>qah rk (cell1 c)).map (·.1))=ka.map fun c=>(qah rk (cell1 c)).1:=by rw[zc8];rfl
    simp only[e];rw[zaf];have hh:=qjg ta (((ka.map fun c=>(qah rk (cell1 c)).1).flatten).length:Nat);omega
   ·rw[yb ha,yb ha]
 ·rw[yb (show ¬qav ta=true by simp[hx])];refine qae (fun hka=> ?_) fun hka=> ?_
  ·rw[yb (by intro e;simp only[zab,yd] at e;rw[e.1] at hka;simp at hka)]
  ·obtain rfl:ka=[]:=zaj (by omega);refine qca (by omega) (qam (qbt (by omega) h3) ?_);rw[yf (show([]:LC)=[] from rfl),zbs];refine qc5 (fun hf=> ?_) fun hf=> ?_
   ·rw[yb (by simp only[zal] at hf;simp[hf])]
   ·rw[yc (by simpa using hf)];have hr:=qdj (ba.length:Nat);rw[show i64.wrap ((1:Int)+qau (ba.length:Nat))=1+qau (ba.length:Nat) from i64_in _ (by omega)];rw[i64_in _ (show -9223372036854775808<=(1:Int)+qau (ba.length:Nat)+(ba.length:Nat)/\_<=9223372036854775807 by omega)];refine qmu ?_;simp only[qah];rw[yb (show ¬qav ta=true by simp[hx])];have hh:=qjg ta (ba.length:Nat);simp only[zaf];omega
open IntWalk (i64_in u8_in u32_in u64_in i64_quo u8_quo rem_in)
def qhq{t:Int}(h:qbg t=true):0<=t/\t<=255:=by unfold qbg qav at h;simp only[zbx,yd] at h;omega
def q70{t n:Int}(ht:0<=t/\t<=255)(hn:0<=n/\n<16777216): ∀z∈qck t n,0<=z/\z<=255:=by
 intro z hz;unfold qck at hz;rcases zaw.1 hz with rfl|hz
 ·exact ht
 ·split at hz
  ·simp only[zaw,zcx,or_false] at hz;omega
  ·split at hz
   ·simp only[zaw,zcx,or_false] at hz;omega
   ·split at hz
    ·simp only[zaw,zcx,or_false] at hz;omega
    ·simp only[zaw,zcx,or_false] at hz;omega
def qjv{n d:Nat}{t:Int}{b:LI}{l:LC}(h:okF (n+1) d [.int .i64 t,.sli .u8 b,.slg 3 l]=true): ∃d',d=d'+1/\qbg t=true/\((qav t=true/\b=[]/\∀c∈l,okF n d' (cell1 c)=true)\/(qav t=false/\l=[]/\qbj t b=true)):=by
 cases d with
 | zero=>exact absurd h zb9
 | succ d=>
  have h:(qbg t&&(if qav t=true then decide (b=[])&&l.all fun c=>okF n d (cell1 c) else decide (l=[])&&qbj t b))=true:=h;rw[zab] at h;refine⟨d,rfl,h.1, ?_⟩;obtain⟨_,h⟩:=h;split at h
  ·rename_i hx;simp only[zab,yd,zai] at h;exact .inl ⟨hx,h⟩
  ·rename_i hx;simp only[zab,yd] at h;exact .inr ⟨by simpa using hx,h⟩
def qhk{n:Nat}{t:Int}{b:LI}{l:LC}(hx:qav t=true):qah (n+1) [.int .i64 t,.sli .u8 b,.slg 3 l]=(qck t ((l.map fun c=>(qah n (cell1 c)).1).flatten.length:Nat)++(l.map fun c=>(qah n (cell1 c)).1).flatten,(l.all fun c=>(qah n (cell1 c)).2)&&(!(decide (t=49))|| qa8 (l.map fun c=>(qah n (cell1 c)).1))):=by
 simp only[qah];rw[yc hx];have e:((l.map fun c=>qah n (cell1 c)).map (·.1))=l.map fun c=>(qah n (cell1 c)).1:=by rw[zc8];rfl
 have e2:((l.map fun c=>qah n (cell1 c)).all (·.2))=l.all fun c=>(qah n (cell1 c)).2:=by rw[List.all_map];rfl
 simp only[e,e2]
def qgy{n:Nat}{t:Int}{b:LI}{l:LC}(hx:qav t=false):qah (n+1) [.int .i64 t,.sli .u8 b,.slg 3 l]=(qck t (b.length:Nat)++b,true):=by simp only[qah];rw[yb (show ¬qav t=true by simp[hx])]
def flat5{n:Nat}{l:LC}{B:Nat}(hl: ∀c∈l, ∃y,c=.agg y/\isTf n y=true)(hb:(l.map fun c=>qee n (cell1 c)).sum<=B):((l.map fun c=>(qah n (cell1 c)).1).flatten).length<=5*B:=by
 have:=qrd (g:=fun c=>(qah n (cell1 c)).1) (h:=fun c=>qee n (cell1 c)) (l:=l) fun c hc=>by obtain⟨y,rfl,hy⟩:=hl c hc;exact qgj hy
 omega
def qkk: ∀ {n d:Nat} {x:LC},isTf n x=true->qee n x<=30000->okF n d x=true->∀z∈(qah n x).1,0<=z/\z<=255
 | n,d,x,hn,hb,hok=>by
  obtain⟨n',t,b,l,rfl,rfl,hbb,hl⟩:=qdi hn;obtain⟨h1,h2,h3,h4,h5⟩:=qld hn hb;obtain⟨d',rfl,hk,h⟩:=qjv hok;rcases h with⟨hx,rfl,hall⟩|⟨hx,rfl,hf⟩
  ·rw[qhk hx];have hfl:=flat5 (B:=30000) hl (by omega);intro z hz;rcases zaq.1 hz with hz|hz
   ·exact q70 (qhq hk) (by omega) z hz
   ·obtain⟨r,hr,hz⟩:=List.mem_flatten.1 hz;obtain⟨c,hc,rfl⟩:=zbo.1 hr;obtain⟨y,rfl,hy,hyb⟩:=h4 c hc;exact qkk hy (by omega) (hall _ hc) z hz
  ·rw[qgy hx];intro z hz;rcases zaq.1 hz with hz|hz
   ·exact q70 (qhq hk) (by omega) z hz
   ·exact h3 z hz
def qnb(R:List LI):qcs (R.map (CV.sli .u8))=R.flatten:=by unfold qcs;rw[qab,List.flatMap_map];show R.flatMap (fun x=>x)=_;rw[List.flatMap_id']
def q2d{R:List LI}(h1:R.length<=1000000)(h2: ∀x∈R,rowB x=true)(h3:R.flatten.length<=1000000):qmi (R.map (CV.sli .u8))=true:=by
 unfold qmi;rw[qab];simp only[zab,yd,zai,zau,zbo];refine⟨h1,fun x hx=> ?_, ?_⟩
 ·obtain⟨y,hy,rfl⟩:=hx;exact h2 y hy
 ·have:=qnb R;unfold qcs at this;rw[qab] at this;rw[this];exact h3
noncomputable def badW:OO:=zR [.cl (.sli .u8 []),.cl (.bool false)] []
noncomputable def xb4w(t s:Int)(rows:LC):OO:=
 cond (qhg t s) (cond (qmi rows) (cond (Nat.ble ((qch t s++qcs rows).length*1) LIMN) (cond (Nat.ble ((qch t s++qcs rows).length) LIMN) (zR [.cl (.sli .u8 (qch t s++qcs rows)),.cl (.bool true)] []) none) none) none) none
noncomputable def finW(t s:Int)(rows:LC):OO:=
 cond (decide (t=49)) (cond (qhj rows) (cond (!(qbp rows)) badW (xb4w t s rows)) none) (xb4w t s rows)
def xb82{t:Int}{R:List LI}(ht:0<=t/\t<=255)(h1:R.length<=30000)(h2: ∀x∈R,rowB x=true)(h3:R.flatten.length<=150000):
  finW t (R.flatten.length:Int) (R.map (CV.sli .u8))=if(!(decide (t=49))|| qa8 R)=true then zR [.cl (.sli .u8 (qck t (R.flatten.length:Nat)++R.flatten)),.cl (.bool true)] [] else badW:=by
 have hh:xb4w t (R.flatten.length:Int) (R.map (CV.sli .u8))=zR [.cl (.sli .u8 (qck t (R.flatten.length:Nat)++R.flatten)),.cl (.bool true)] []:=by unfold xb4w qch;rw[qab,qnb];have hl:=qjg t (R.flatten.length:Nat);have hr:=qdj (R.flatten.length:Nat);refine qam ?_ (qam (q2d (by omega) h2 (by omega)) (qc4 (by simp only[zaf];omega) (qc4 (by simp only[zaf];omega) rfl)));unfold qhg;rw[qab];exact yf (by omega)
 unfold finW;rw[hh,qgn];refine qae (fun h=>qam (qoq (by omega) h2) (qc5 (fun h9=> ?_) fun h9=> ?_)) fun h=> ?_
 ·rw[yb (by simp only[zal] at h9;simp[h,h9])]
 ·rw[yc (by simp only[Bool.not_eq_false'] at h9;simp[h9])]
 ·rw[yc (by simp[h])]
def xbvi{n d:Nat}{l:LC}(h4: ∀c∈l, ∃y,c=.agg y/\isTf n y=true/\qee n y+1<=30000)(hall: ∀c∈l,okF n d (cell1 c)=true): ∀x∈(l.map fun c=>(qah n (cell1 c)).1),rowB x=true:=by intro x hx;obtain⟨c,hc,rfl⟩:=zbo.1 hx;obtain⟨y,rfl,hy,hyb⟩:=h4 c hc;have h1:=qgj hy;have h2:=qkk hy (by omega) (hall _ hc);unfold rowB;simp only[zab,yd,zai];exact⟨by show(qah n y).1.length<=_;omega,fun z hz=>yf (h2 z hz)⟩
open IntWalk (i64_in u8_in u32_in u64_in i64_quo u8_quo rem_in)
def q9f(rk d:Nat)(deep ta:Int)(ba:LI)(hd:1<=deep/\deep<=1000)(hdd:deep.toNat=d+1)(ka:LC)(hlen:ka.length<=30000)(hall: ∀c∈ka, ∃y,c=.agg y/\isTf rk y=true/\qee rk y+1<=30000): ∀(f i:Nat) (s:Int) (rows:LC),i<=ka.length->ka.length<f+i->0<=s->s+sumL (fun c=>(qah rk (cell1 c)).1) (ka.drop i)<=150000->rows.length=i->
  qir rk (fun _ _ _ _ _ _ _ _ _ _ _ _ _ _ _ _ _ _ _ _ _ _ _ _ _ _ _ _ _ _ _ _ _ _=>badW) (fun _ _ _ _ _ _ _ _ _ _ _ _ _ _ _ _ _ _ _ _ _ _ _ _ _ _ _ _ _ _ _ _ _ _ _ _=>badW) (fun _ _ y79 _ _ _ _ y84 _ _ y87=>finW y84 y79 y87) f deep rows.length s i ta ba ka rows=if(ka.drop i).all (fun c=>okF rk d (cell1 c)&&(qah rk (cell1 c)).2)=true then finW ta (s+sumL (fun c=>(qah rk (cell1 c)).1) (ka.drop i)) (rows++(ka.drop i).map fun c=>.sli .u8 (qah rk (cell1 c)).1) else badW
 | 0,i,s,rows,hi,hf,_,_,_=>by omega
 | f+1,i,s,rows,hi,hf,h0,hs,hr=>by
  show qjr rk (qir rk (fun _ _ _ _ _ _ _ _ _ _ _ _ _ _ _ _ _ _ _ _ _ _ _ _ _ _ _ _ _ _ _ _ _ _=>badW) (fun _ _ _ _ _ _ _ _ _ _ _ _ _ _ _ _ _ _ _ _ _ _ _ _ _ _ _ _ _ _ _ _ _ _ _ _=>badW) (fun _ _ y79 _ _ _ _ y84 _ _ y87=>finW y84 y79 y87) f) (fun _ _ _ _ _ _ _ _ _ _ _ _ _ _ _ _ _ _ _ _ _ _ _ _ _ _ _ _ _ _ _ _ _ _=>badW) (fun _ _ _ _ _ _ _ _ _ _ _ _ _ _ _ _ _ _ _ _ _ _ _ _ _ _ _ _ _ _ _ _ _ _ _ _=>badW) (fun _ _ y79 _ _ _ _ y84 _ _ y87=>finW y84 y79 y87) deep rows.length s i ta ba ka rows=_;unfold qjr;obtain⟨R,hR⟩: ∃R:OO,R=if(ka.drop i).all (fun c=>okF rk d (cell1 c)&&(qah rk (cell1 c)).2)=true then finW ta (s+sumL (fun c=>(qah rk (cell1 c)).1) (ka.drop i)) (rows++(ka.drop i).map fun c=>.sli .u8 (qah rk (cell1 c)).1) else badW:=⟨_,rfl⟩
  rw[<- hR];refine qae (fun h=> ?_) fun h=> ?_
  ·obtain⟨c,hc⟩:=qbz (b:=ka) (i:=i) (by omega);obtain⟨y,rfl,hy,hyb⟩:=hall c (zad hc);have ed:ka.drop i=.agg y::ka.drop (i+1):=by obtain⟨hlt,e⟩:=zae.1 hc;rw[zb0 hlt,e]
   refine qaq (by omega) (qaq h ?_);rw[show(i:Int).toNat=i from rfl,hc,zak];obtain⟨m,t,b,l,hm,hye,_⟩:=qdi hy;simp only[cell1,hye,zba,zbw];refine qam rfl ?_;simp only[show i64.wrap (deep - 1)=deep - 1 from i64_in _ (by omega),qf9,qb8,qbl];refine qam ?_ ?_
   ·simp only[zab];exact⟨q75 (hye▸hy) (hye▸(by omega)),qfw (by omega)⟩
   ·have e:qhb [.int .i64 t,.sli .u8 b,.slg 3 l] (deep - 1)=if okF rk d y=true/\(qah rk y).2=true then((qah rk y).1,true) else([],false):=by rw[<- hye,qpt hy,show(deep - 1).toNat=d by omega]
    have es:sumL (fun c=>(qah rk (cell1 c)).1) (ka.drop i)=((qah rk y).1.length:Int)+sumL (fun c=>(qah rk (cell1 c)).1) (ka.drop (i+1)):=by rw[ed];rfl
    have hpos:=(qr1 (fun c=>(qah rk (cell1 c)).1) ka (i+1)).1;rw[es] at hs hR;have em:((ka.drop i).map fun c=>CV.sli .u8 (qah rk (cell1 c)).1)=.sli .u8 (qah rk y).1::(ka.drop (i+1)).map fun c=>.sli .u8 (qah rk (cell1 c)).1:=by rw[ed];rfl
    have ea:(ka.drop i).all (fun c=>okF rk d (cell1 c)&&(qah rk (cell1 c)).2)=((okF rk d y&&(qah rk y).2)&&(ka.drop (i+1)).all (fun c=>okF rk d (cell1 c)&&(qah rk (cell1 c)).2)):=by rw[ed,zbz];rfl
    rw[ea,em] at hR;by_cases hok:okF rk d y=true/\(qah rk y).2=true
    ·rw[yc hok] at e;rw[hok.1,hok.2,Bool.and_self,zbs] at hR;simp only[e];refine qyh rfl ?_;rw[show i64.wrap (s+((qah rk y).1.length:Int))=s+((qah rk y).1.length:Int) from i64_in _ (by omega)];refine qca (by omega) ?_;refine qc4 (by simp only[zaf,za0];omega) (qc4 (by simp only[zaf,za0];omega) ?_);rw[show i64.wrap ((i:Int)+1)=((i+1:Nat):Int) from(i64_in _ (by omega)).trans (by omega)];refine(q9f rk d deep ta ba hd hdd ka hlen hall f (i+1) _ _ (by omega) (by omega) (by omega) (by omega) (by simp only[zaf,za0];omega)).trans ?_;rw[hR,Int.add_assoc,zb7];rfl
    ·rw[yb hok] at e;simp only[e];refine qam rfl ?_;rw[hR,yb (by intro h;simp only[zab] at h;exact hok h.1)]
  ·rw[zbl (by omega)] at hR;rw[hR];show finW ta s rows=if([]:LC).all (fun c=>okF rk d (cell1 c)&&(qah rk (cell1 c)).2)=true then finW ta (s+0) (rows++[]) else _
   rw[yc (by rfl),zdy,zb2]
def q59(n:Nat)(l:LC):(l.map fun c=>CV.sli .u8 (qah n (cell1 c)).1)=(l.map fun c=>(qah n (cell1 c)).1).map (CV.sli .u8):=by rw[zc8];rfl
def xb1c(rk:Nat)(ta:Int)(ba:LI)(ka:LC)(deep:Int)(hp:(isSr (rk+1) [.int .i64 ta,.sli .u8 ba,.slg 3 ka]&&qc1 deep)=true):xbfq rk ta ba ka deep=zR [.cl (.sli .u8 (qhb [.int .i64 ta,.sli .u8 ba,.slg 3 ka] deep).1),.cl (.bool (qhb [.int .i64 ta,.sli .u8 ba,.slg 3 ka] deep).2)] []:=by
 simp only[zab] at hp;obtain⟨ht,hb⟩:=qls hp.1;have hd:=qic hp.2;obtain⟨h1,h2,h3,h4,h5⟩:=qld ht hb;rw[qpt ht];have bad: ∀P:Prop,[Decidable P]-> ¬P->∀q:LI×Bool,badW=zR [.cl (.sli .u8 (if P then q else([],false):LI×Bool).1),.cl (.bool (if P then q else([],false):LI×Bool).2)] []:=fun P _ h q=>by rw[yb h];rfl
 unfold xbfq qep qbn qdn;simp only[qab];refine qae (fun h=> ?_) fun h=> ?_
 ·subst h;exact bad _ (fun e=>absurd e.1 zb9) _
 obtain⟨d,hdd⟩: ∃d,deep.toNat=d+1:=⟨deep.toNat - 1,by omega⟩;rw[hdd];refine qc5 (fun hk=> ?_) fun hk=> ?_
 ·exact bad _ (fun e=>by obtain⟨_,_,h,_⟩:=qjv e.1;simp[h] at hk) _
 have hk:qbg ta=true:=by simpa using hk
 have hflen:=flat5 (n:=rk) (l:=ka) (B:=30000) (fun c hc=>by obtain⟨y,e,hy,_⟩:=h4 c hc;exact⟨y,e,hy⟩) (by omega);refine qc5 (fun hx=> ?_) fun hx=> ?_
 ·have hx:qav ta=false:=by simpa using hx
  refine qae (fun hka=> ?_) fun hka=> ?_
  ·exact bad _ (fun e=>by
    obtain⟨_,_,_,h|h⟩:=qjv e.1
    ·simp[hx] at h
    ·rw[h.2.1] at hka;simp at hka) _
  ·obtain rfl:ka=[]:=zaj (by omega);refine qca (by omega) (qam (qbt (by omega) h3) ?_);refine qc5 (fun hf=> ?_) fun hf=> ?_
   ·exact bad _ (fun e=>by
     obtain⟨_,_,_,h|h⟩:=qjv e.1
     ·simp[hx] at h
     ·simp[h.2.2] at hf) _
   ·have hf:qbj ta ba=true:=by simpa using hf
    have hok:okF (rk+1) (d+1) [.int .i64 ta,.sli .u8 ba,.slg 3 []]=true:=by show(qbg ta&&(if qav ta=true then _ else decide (([]:LC)=[])&&qbj ta ba))=true;rw[yb (by simp[hx]),hk,hf];rfl
    rw[qgy hx,yc ⟨hok,rfl⟩];have hr:=qjg ta (ba.length:Nat);have hr2:=qdj (ba.length:Nat);unfold qch;simp only[qab];have:=qhq hk;refine qam (by unfold qhg;rw[qab];exact yf (by omega)) (qc4 (by simp only[zaf];omega) (qc4 (by simp only[zaf];omega) rfl))
 ·have hx:qav ta=true:=by simpa using hx
  refine qae (fun hba=> ?_) fun hba=> ?_
  ·exact bad _ (fun e=>by
    obtain⟨_,_,_,h|h⟩:=qjv e.1
    ·rw[h.2.1] at hba;simp at hba
    ·simp[hx] at h) _
  ·obtain rfl:ba=[]:=zaj (by omega);refine(q9f rk d deep ta [] (by omega) hdd ka (by omega) h4 FUEL 0 0 [] (by omega) (by unfold FUEL;omega) (by omega) (by rw[zbr,qed];omega) rfl).trans ?_;rw[zbr,qed,Int.zero_add,za9,q59];by_cases ha:(ka.all fun c=>okF rk d (cell1 c)&&(qah rk (cell1 c)).2)=true
   ·rw[yc ha];simp only[zai,zab] at ha;have hok:okF (rk+1) (d+1) [.int .i64 ta,.sli .u8 [],.slg 3 ka]=true:=by show(qbg ta&&(if qav ta=true then decide (([]:LI)=[])&&ka.all fun c=>okF rk d (cell1 c) else _))=true;rw[yc hx,hk];simp only[zbs,decide_true,zai];exact fun c hc=>(ha c hc).1
    rw[xb82 (qhq hk) (by rw[zau];omega) (xbvi h4 fun c hc=>(ha c hc).1) (by omega),qhk hx];have h2':(ka.all fun c=>(qah rk (cell1 c)).2)=true:=by simp only[zai];exact fun c hc=>(ha c hc).2
    rw[h2',zbs];by_cases hs:(!(decide (ta=49))|| qa8 (ka.map fun c=>(qah rk (cell1 c)).1))=true
    ·rw[yc hs,yc ⟨hok,hs⟩]
    ·rw[yb hs];exact bad _ (fun e=>hs e.2) _
   ·rw[yb ha];refine bad _ (fun e=>ha ?_) _;obtain⟨d',e1,_,h|h⟩:=qjv e.1
    ·obtain rfl:d=d':=by omega
     have e2:=e.2;rw[qhk hx] at e2;simp only[zab,zai] at e2 ⊢;exact fun c hc=>⟨h.2.2 c hc,e2.1 c hc⟩
    ·simp[hx] at h
open IntWalk (i64_in u8_in u32_in u64_in i64_quo u8_quo rem_in)
def q7c(rk d:Nat)(ta:Int)(ba:LI)(ka kb:LC)(hlen:ka.length<=30000)(hall: ∀c∈ka, ∃y,c=.agg y/\isTf rk y=true/\qee rk y+1<=30000)(hok: ∀c∈ka,okF rk d (cell1 c)=true): ∀(f i:Nat) (s:Int),i<=ka.length->ka.length<f+i->0<=s->s+sumL (fun c=>(qah rk (cell1 c)).1) (ka.drop i)<=150000->
  qky rk (fun _ _ _ _ _ _ _ _ _ _ _ _ _ _ _ _ _ _ _ _ _ _ _ _ _ _ _ _ _ _ _=>badW) (fun _ y37 _ _ _ y41 _ _ y44=>finW y41 y37 y44) f ka.length s ka (ka.length:Int) i ta ba kb (((ka.take i).map fun c=>CV.sli .u8 (qah rk (cell1 c)).1)++List.replicate (ka.length - i) (.sli .u8 []))=if(ka.drop i).all (fun c=>(qah rk (cell1 c)).2)=true then finW ta (s+sumL (fun c=>(qah rk (cell1 c)).1) (ka.drop i)) (ka.map fun c=>.sli .u8 (qah rk (cell1 c)).1) else badW
 | 0,i,s,hi,hf,_,_=>by omega
 | f+1,i,s,hi,hf,h0,hs=>by
  show qlw rk (qky rk (fun _ _ _ _ _ _ _ _ _ _ _ _ _ _ _ _ _ _ _ _ _ _ _ _ _ _ _ _ _ _ _=>badW) (fun _ y37 _ _ _ y41 _ _ y44=>finW y41 y37 y44) f) (fun _ _ _ _ _ _ _ _ _ _ _ _ _ _ _ _ _ _ _ _ _ _ _ _ _ _ _ _ _ _ _=>badW) (fun _ y37 _ _ _ y41 _ _ y44=>finW y41 y37 y44) ka.length s ka (ka.length:Int) i ta ba kb (((ka.take i).map fun c=>CV.sli .u8 (qah rk (cell1 c)).1)++List.replicate (ka.length - i) (.sli .u8 []))=_;unfold qlw;obtain⟨R,hR⟩: ∃R:OO,R=if(ka.drop i).all (fun c=>(qah rk (cell1 c)).2)=true then finW ta (s+sumL (fun c=>(qah rk (cell1 c)).1) (ka.drop i)) (ka.map fun c=>.sli .u8 (qah rk (cell1 c)).1) else badW:=⟨_,rfl⟩
  rw[<- hR];obtain⟨W,hW⟩: ∃W:LC,W=((ka.take i).map fun c=>CV.sli .u8 (qah rk (cell1 c)).1)++List.replicate (ka.length - i) (.sli .u8 []):=⟨_,rfl⟩;rw[<- hW];refine qae (fun h=> ?_) fun h=> ?_
  ·obtain⟨c,hc⟩:=qbz (b:=ka) (i:=i) (by omega);obtain⟨y,rfl,hy,hyb⟩:=hall c (zad hc);have hoky:okF rk d y=true:=hok _ (zad hc);have ed:ka.drop i=.agg y::ka.drop (i+1):=by obtain⟨hlt,e⟩:=zae.1 hc;rw[zb0 hlt,e]
   refine qaq (by omega) (qaq h ?_);rw[show(i:Int).toNat=i from rfl,hc,zak];obtain⟨m,t,b,l,hm,hye,_⟩:=qdi hy;have hset:W.set (0+i) (.sli .u8 (qah rk y).1)=((ka.take (i+1)).map fun c=>CV.sli .u8 (qah rk (cell1 c)).1)++List.replicate (ka.length - (i+1)) (.sli .u8 []):=by
    rw[hW,zay,List.set_append_right _ _ (by simp;omega)];have e1:i - ((ka.take i).map fun c=>CV.sli .u8 (qah rk (cell1 c)).1).length=0:=by simp;omega
    rw[e1,show ka.length - i=(ka.length - (i+1))+1 by omega,List.replicate_succ,List.set_cons_zero];have e2:ka.take (i+1)=ka.take i++[.agg y]:=by rw[List.take_add_one,hc];rfl
    rw[e2,List.map_append,zb7];rfl
   simp only[cell1,hye,zba,zbw];refine qam rfl ?_;simp only[qf9,qb8,qbl];refine qam ?_ ?_
   ·exact xbo7 ⟨hye▸hy,hye▸(by omega),d,hye▸hoky⟩
   ·have e:qef [.int .i64 t,.sli .u8 b,.slg 3 l]=if(qah rk y).2=true then((qah rk y).1,true) else([],false):=by rw[<- hye,qiv hy]
    have es:sumL (fun c=>(qah rk (cell1 c)).1) (ka.drop i)=((qah rk y).1.length:Int)+sumL (fun c=>(qah rk (cell1 c)).1) (ka.drop (i+1)):=by rw[ed];rfl
    have hpos:=(qr1 (fun c=>(qah rk (cell1 c)).1) ka (i+1)).1;rw[es] at hs hR;have ea:(ka.drop i).all (fun c=>(qah rk (cell1 c)).2)=((qah rk y).2&&(ka.drop (i+1)).all (fun c=>(qah rk (cell1 c)).2)):=by rw[ed,zbz];rfl
    rw[ea] at hR;by_cases hk:(qah rk y).2=true
    ·rw[yc hk] at e;rw[hk,zbs] at hR;simp only[e];refine qyh rfl ?_;rw[show i64.wrap (s+((qah rk y).1.length:Int))=s+((qah rk y).1.length:Int) from i64_in _ (by omega)];refine qaq (by omega) (qaq h ?_);rw[hset,show i64.wrap ((i:Int)+1)=((i+1:Nat):Int) from(i64_in _ (by omega)).trans (by omega)];refine(q7c rk d ta ba ka kb hlen hall hok f (i+1) _ (by omega) (by omega) (by omega) (by omega)).trans ?_;rw[hR,Int.add_assoc]
    ·rw[yb hk] at e;simp only[e];refine qam rfl ?_;rw[hR,yb (by intro h;simp only[zab] at h;exact hk h.1)]
  ·obtain rfl:i=ka.length:=by omega
   rw[zbl (zap _)] at hR;rw[hR,hW,zcw,Nat.sub_self];show finW ta s ((ka.map fun c=>CV.sli .u8 (qah rk (cell1 c)).1)++[])=if([]:LC).all (fun c=>(qah rk (cell1 c)).2)=true then finW ta (s+0) _ else _
   rw[yc (by rfl),zdy,zb2]
def xb0q(rk:Nat)(ta:Int)(ba:LI)(ka:LC)(hp:isWr (rk+1) [.int .i64 ta,.sli .u8 ba,.slg 3 ka]=true):xbe2 rk ta ba ka=zR [.cl (.sli .u8 (qef [.int .i64 ta,.sli .u8 ba,.slg 3 ka]).1),.cl (.bool (qef [.int .i64 ta,.sli .u8 ba,.slg 3 ka]).2)] []:=by
 obtain⟨ht,hb,d,hok⟩:=qyz hp;obtain⟨h1,h2,h3,h4,h5⟩:=qld ht hb;obtain⟨d',rfl,hk,h⟩:=qjv hok;rw[qiv ht];unfold xbe2 qbn;simp only[qab];rcases h with⟨hx,rfl,hall⟩|⟨hx,rfl,hf⟩
 ·have hflen:=flat5 (n:=rk) (l:=ka) (B:=30000) (fun c hc=>by obtain⟨y,e,hy,_⟩:=h4 c hc;exact⟨y,e,hy⟩) (by simp only[zbg] at h5;omega);refine qyh (by simp[hx]) (qaq (by omega) (qaq (by omega) (qaq (by unfold LIM;omega) (qaq (by unfold LIM;omega) ?_))));refine(q7c rk d' ta [] ka ka (by omega) h4 hall FUEL 0 0 (by omega) (by unfold FUEL;omega) (by omega) (by rw[zbr,qed];omega)).trans ?_;rw[zbr,qed,Int.zero_add,q59,qhk hx];by_cases ha:(ka.all fun c=>(qah rk (cell1 c)).2)=true
  ·rw[yc ha,xb82 (qhq hk) (by rw[zau];omega) (xbvi h4 hall) (by omega),ha,zbs];by_cases hs:(!(decide (ta=49))|| qa8 (ka.map fun c=>(qah rk (cell1 c)).1))=true
   ·rw[yc hs,yc hs]
   ·rw[yb hs,yb hs];rfl
  ·rw[yb ha];have hf:(ka.all fun c=>(qah rk (cell1 c)).2)=false:=by simpa using ha
   rw[hf,zda];rfl
 ·have hr:=qjg ta (ba.length:Nat);have hr2:=qdj (ba.length:Nat);have:=qhq hk;unfold qch;simp only[qab];rw[qgy hx];refine qam (by simp[hx]) (qam (by unfold qhg;rw[qab];exact yf (by omega)) (qc4 (by simp only[zaf];omega) (qc4 (by simp only[zaf];omega) rfl)))
def xb07(ta:Int)(ba:LI)(ka:LC)(hp:isS [.int .i64 ta,.sli .u8 ba,.slg 3 ka]=true):xbfh ta ba ka=zR [.cl (.sli .u8 (qbb [.int .i64 ta,.sli .u8 ba,.slg 3 ka]).1),.cl (.int .i64 (qbb [.int .i64 ta,.sli .u8 ba,.slg 3 ka]).2)] []:=by
 obtain⟨n,ht,hb⟩:=qc8 hp;have hl:=qgj ht;unfold xbfh;refine qam (by rw[hp,qfw (by omega)];rfl) ?_;simp only[qpt ht,qfa ht,show(32:Int).toNat=32 from rfl];by_cases h:okF n 32 [.int .i64 ta,.sli .u8 ba,.slg 3 ka]=true/\(qah n [.int .i64 ta,.sli .u8 ba,.slg 3 ka]).2=true
 ·simp only[yc h];exact qyh rfl (qca (by omega) rfl)
 ·simp only[yb h];exact qam rfl rfl
def xb0j(ta:Int)(ba:LI)(ka:LC)(hp:isS [.int .i64 ta,.sli .u8 ba,.slg 3 ka]=true):xbes ta ba ka=zR [.cl (.sli .u8 (qbb [.int .i64 ta,.sli .u8 ba,.slg 3 ka]).1),.cl (.int .i64 (qbb [.int .i64 ta,.sli .u8 ba,.slg 3 ka]).2)] []:=by
 obtain⟨n,ht,hb⟩:=qc8 hp;have hl:=qgj ht;unfold xbes;refine qam (by rw[hp,qfw (by omega)];rfl) ?_;rw[qrs ht,show(32:Int).toNat=32 from rfl];by_cases hok:okF n 32 [.int .i64 ta,.sli .u8 ba,.slg 3 ka]=true
 ·simp only[yc hok];refine qca (by omega) (qca (by omega) (qam (xbtd ⟨ht,hb,32,hok⟩) ?_));simp only[qiv ht,qfa ht];by_cases h:(qah n [.int .i64 ta,.sli .u8 ba,.slg 3 ka]).2=true
  ·simp only[yc h,yc (show okF n 32 [.int .i64 ta,.sli .u8 ba,.slg 3 ka]=true/\(qah n [.int .i64 ta,.sli .u8 ba,.slg 3 ka]).2=true from⟨hok,h⟩)];exact qyh rfl rfl
  ·simp only[yb h,yb (show ¬(okF n 32 [.int .i64 ta,.sli .u8 ba,.slg 3 ka]=true/\(qah n [.int .i64 ta,.sli .u8 ba,.slg 3 ka]).2=true) from fun e=>h e.2)];exact qam rfl rfl
 ·simp only[yb hok,qfa ht,yb (show ¬(okF n 32 [.int .i64 ta,.sli .u8 ba,.slg 3 ka]=true/\(qah n [.int .i64 ta,.sli .u8 ba,.slg 3 ka]).2=true) from fun e=>hok e.1)];exact qaq (by omega) rfl
def qrc{n:Nat}{a:LC}(ht:isTf n a=true):decide ((qbb a).2=0)=qrr a:=by
 rw[qfa ht,qzi ht];by_cases h:okF n 32 a=true/\(qah n a).2=true
 ·rw[yc h,yf h];rfl
 ·rw[yb h,decide_eq_false h];rfl
def xb7d(ta:Int)(ba:LI)(ka:LC)(hp:isS [.int .i64 ta,.sli .u8 ba,.slg 3 ka]=true):xbs5 ta ba ka=zB (qrr [.int .i64 ta,.sli .u8 ba,.slg 3 ka]):=by obtain⟨n,ht,hb⟩:=qc8 hp;unfold xbs5;exact qam hp (qa7 (qrc ht))
def xb6m(ta:Int)(ba:LI)(ka:LC)(hp:isS [.int .i64 ta,.sli .u8 ba,.slg 3 ka]=true):xbsx ta ba ka=zB (qrr [.int .i64 ta,.sli .u8 ba,.slg 3 ka]):=by obtain⟨n,ht,hb⟩:=qc8 hp;unfold xbsx;exact qam hp (qa7 (qrc ht))
open IntWalk (i64_in u8_in u32_in u64_in i64_quo u8_quo rem_in)
def xbzn{a:LC}(h:isS a=true):isN a=true:=by obtain⟨n,hn,hb⟩:=qc8 h;exact xbzo (xbg8 hn hb)
def lenB(n:Int):LI:=if n<128 then[n] else if n<256 then[129,n] else if n<65536 then[130,n/ 256,n % 256] else[131,n/ 65536,n/ 256 % 256,n % 256]
def qlr(t n:Int):qck t n=t::lenB n:=rfl
def qy3(n:Int):((lenB n).length:Int)=qau n:=by
 unfold lenB qau
 repeat' split
 all_goals rfl
def xbtl(n:Int)(h0:0<=n)(h1:n<16777216)(c:LI):qac (lenB n++c)=(n,qau n):=by
 unfold lenB qau;split
 ·rename_i h;rw[List.singleton_append,qb1,yc h]
 ·rename_i h;split
  ·rename_i h2;show qac (129::n::c)=_;rw[qb1,yb (by omega),yb (by simp only[zac];omega)];have e:qar ((n::c).take (129 - 128:Int).toNat)=n:=by show(0:Int)*256+n=n;omega
   rw[e,yb (by simp only[zba];omega)];rfl
  ·rename_i h2;split
   ·rename_i h3;show qac (130::n/ 256::n % 256::c)=_;rw[qb1,yb (by omega),yb (by simp only[zac];omega)];have e:qar ((n/ 256::n % 256::c).take (130 - 128:Int).toNat)=n:=by show((0:Int)*256+n/ 256)*256+n % 256=n;omega
    rw[e,yb (by simp only[zba];omega)];rfl
   ·rename_i h3;show qac (131::n/ 65536::n/ 256 % 256::n % 256::c)=_;rw[qb1,yb (by omega),yb (by simp only[zac];omega)];have e:qar ((n/ 65536::n/ 256 % 256::n % 256::c).take (131 - 128:Int).toNat)=n:=by show(((0:Int)*256+n/ 65536)*256+n/ 256 % 256)*256+n % 256=n;omega
    rw[e,yb (by simp only[zba];omega)];rfl
def q5w{r:LI}(hb: ∀x∈r,0<=x/\x<=255)(h: ¬(qac r).2=0):r=lenB (qac r).1++r.drop (qac r).2.toNat/\qau (qac r).1=(qac r).2:=by
 match r,hb,h with
 | [],_,h=>exact absurd rfl h
 | c::t,hb,h=>
  have hc:=hb c (zck ..);rw[qb1] at h ⊢;by_cases h1:c<128
  ·rw[yc h1];have e:lenB c=[c]:=by unfold lenB;rw[yc h1]
   have e2:qau c=1:=by unfold qau;rw[yc h1]
   exact⟨by rw[e];rfl,e2⟩
  ·rw[yb h1] at h ⊢;by_cases h2:c=128\/131<c\/(t.length:Int)<c - 128
   ·rw[yc h2] at h;exact absurd rfl h
   ·rw[yb h2] at h ⊢;by_cases h3:t.headD 0=0\/qar (t.take (c - 128).toNat)<128
    ·rw[yc h3] at h;exact absurd rfl h
    ·rw[yb h3] at h ⊢;have hc3:c=129\/c=130\/c=131:=by omega
     have hbt: ∀(i:Nat) (x:Int),t[i]? =some x->0<=x/\x<=255:=fun i x hx=>hb x (za8 _ (zad hx));rcases hc3 with rfl|rfl|rfl
     ·match t,h2,h3,hbt with
      | [],h2,_,_=>simp at h2
      | x::t,h2,h3,hbt=>
       have hx:=hbt 0 x rfl;have e:qar ((x::t).take (129 - 128:Int).toNat)=x:=by show(0:Int)*256+x=x;omega
       rw[e] at h3 ⊢;simp only[zba] at h3;have e1:lenB x=[129,x]:=by unfold lenB;rw[yb (by omega),yc (by omega)]
       have e2:qau x=2:=by unfold qau;rw[yb (by omega),yc (by omega)]
       exact⟨by show _=lenB x++_;rw[e1];rfl,e2⟩
     ·match t,h2,h3,hbt with
      | [],h2,_,_=>simp at h2
      | [_],h2,_,_=>simp at h2
      | x::y::t,h2,h3,hbt=>
       have hx:=hbt 0 x rfl;have hy:=hbt 1 y rfl;have e:qar ((x::y::t).take (130 - 128:Int).toNat)=x*256+y:=by show((0:Int)*256+x)*256+y=_;omega
       rw[e] at h3 ⊢;simp only[zba] at h3;have e1:lenB (x*256+y)=[130,x,y]:=by unfold lenB;rw[yb (by omega),yb (by omega),yc (by omega),show(x*256+y)/ 256=x by omega,show(x*256+y) % 256=y by omega]
       have e2:qau (x*256+y)=3:=by unfold qau;rw[yb (by omega),yb (by omega),yc (by omega)]
       exact⟨by show _=lenB (x*256+y)++_;rw[e1];rfl,e2⟩
     ·match t,h2,h3,hbt with
      | [],h2,_,_=>simp at h2
      | [_],h2,_,_=>simp at h2
      | [_,_],h2,_,_=>simp at h2
      | x::y::z::t,h2,h3,hbt=>
       have hx:=hbt 0 x rfl;have hy:=hbt 1 y rfl;have hz:=hbt 2 z rfl;have e:qar ((x::y::z::t).take (131 - 128:Int).toNat)=(x*256+y)*256+z:=by show(((0:Int)*256+x)*256+y)*256+z=_;omega
       rw[e] at h3 ⊢;simp only[zba] at h3;have e1:lenB ((x*256+y)*256+z)=[131,x,y,z]:=by unfold lenB;rw[yb (by omega),yb (by omega),yb (by omega),show((x*256+y)*256+z)/ 65536=x by omega,show((x*256+y)*256+z)/ 256 % 256=y by omega,show((x*256+y)*256+z) % 256=z by omega]
       have e2:qau ((x*256+y)*256+z)=4:=by unfold qau;rw[yb (by omega),yb (by omega),yb (by omega)]
       exact⟨by show _=lenB ((x*256+y)*256+z)++_;rw[e1];rfl,e2⟩
def xbhg{P:LI->Int×Nd×Int}{t:Int}{r:LI}(hb:qad r=true)(h:(parse1 P t r).1=0)(rest:LI):parse1 P t (r++rest)=parse1 P t r:=by
 obtain⟨_,hk,hn⟩:=qix h;have hr:=qto hb;obtain⟨e1,e2⟩:=q5w (qak hb).2 (fun e=>hn (.inl e));have hl:qac (r++rest)=qac r:=by
  have:r++rest=lenB (qac r).1++(r.drop (qac r).2.toNat++rest):=by rw[<- zb7, <- e1]
  rw[this,xbtl _ hr.1 hr.2.1,e2]
 have hi:((r++rest).drop (qac r).2.toNat).take (qac r).1.toNat=(r.drop (qac r).2.toNat).take (qac r).1.toNat:=by rw[List.drop_append_of_le_length (by omega),List.take_append_of_le_length (by simp only[zas];omega)]
 unfold parse1;rw[hl,hi,yb hk,yb hk,yb hn,yb (by simp only[zaf];omega)]
def q85{n:Nat}{b:LI}(hb:qad b=true)(h:(qas n b).1=0)(rest:LI):qas n (b++rest)=qas n b:=by
 match n,b,hb with
 | 0,_,_=>rfl
 | n+1,[],_=>exact absurd h (by decide: ¬(1:Int)=0)
 | n+1,t::r,hb=>
  rw[qd1] at h ⊢;rw[zbq,qd1];have hbt:=qbu hb;simp only[zbw] at hbt;exact xbhg hbt h rest
def toNd:LC->Nd
 | [.int _ t,.sli _ b,.slg _ l]=>(t,b,l)
 | _=>nd0
def qwi{f:LI->Int×Nd×Int}{g:CV->LI}{nd:CV->Nd}: ∀(l:LC),(∀c∈l,(∀rest,f (g c++rest)=(0,nd c,((g c).length:Int)))/\g c≠[])->∀m,((l.map g).flatten).length<=m->qcm f m ((l.map g).flatten)=(0,l.map nd,l.map g)
 | [],_,m,_=>qma f m
 | c::r,h,m,hm=>by
  obtain⟨h1,h2⟩:=h c (zck ..);have ih:=qwi r (fun c' hc=>h c' (za8 _ hc));rw[zbf,zc1] at hm ⊢;have hl:0<(g c).length:=List.length_pos_iff.2 h2;rw[zaf] at hm;obtain⟨m,rfl⟩: ∃k,m=k+1:=⟨m - 1,by omega⟩;have hne:g c++(r.map g).flatten≠[]:=fun e=>h2 (List.append_eq_nil_iff.1 e).1;have hz:(f (g c++(r.map g).flatten)).1=0:=by rw[h1]
  rw[qua hne hz,h1];have e1:(g c++(r.map g).flatten).drop ((g c).length:Int).toNat=(r.map g).flatten:=by rw[show((g c).length:Int).toNat=(g c).length from rfl,List.drop_left]
  have e2:(g c++(r.map g).flatten).take ((g c).length:Int).toNat=g c:=by rw[show((g c).length:Int).toNat=(g c).length from rfl,List.take_left]
  rw[e1,e2,ih m (by omega)];rfl
def xbr6{n:Nat}{x:LC}(h:isTf n x=true):(qah n x).1≠[]:=by
 obtain⟨n',t,b,l,rfl,rfl,_,_⟩:=qdi h
 cases hx:qav t with
 | true=>rw[qhk hx,qlr];simp
 | false=>rw[qgy hx,qlr];simp
def xbpe{n:Nat}{y:LC}(h:isTf n y=true):ndCV (toNd y)=.agg y:=by obtain⟨n',t,b,l,rfl,rfl,_,_⟩:=qdi h;rfl
def q2w(P:LI->Int×Nd×Int){t:Int}{c:LI}(hc:c.length<16777216)(hk:qbg t=true):
  parse1 P t (lenB (c.length:Nat)++c)=if qav t=false then(if qbj t c=true then(0,(t,c,[]),1+qau (c.length:Nat)+(c.length:Nat)) else(5,nd0,0))
   else if(qcm P c.length c).1=0 then(if t=49/\qa8 (qcm P c.length c).2.2=false then(6,nd0,0) else(0,(t,[],(qcm P c.length c).2.1.map ndCV),1+qau (c.length:Nat)+(c.length:Nat))) else((qcm P c.length c).1,nd0,0):=by
 have hl:=qy3 (c.length:Nat);have hr:=qdj (c.length:Nat);have hi:((lenB (c.length:Nat)++c).drop (qau (c.length:Nat)).toNat).take (c.length:Int).toNat=c:=by rw[show(qau (c.length:Nat)).toNat=(lenB (c.length:Nat)).length by omega,List.drop_left];exact zcw
 unfold parse1;rw[xbtl _ (by omega) (by omega)];simp only[];rw[hi,yb (by simp[hk]),yb (by simp only[zaf];omega)]
def qw1: ∀ {n d:Nat} {a:LC},isTf n a=true->qee n a<=30000->okF n d a=true->(qah n a).2=true->qas d (qah n a).1=(0,toNd a,(((qah n a).1.length:Nat):Int))
 | n,d,a,hn,hb,hok,hs=>by
  obtain⟨n',t,b,l,rfl,rfl,hbb,hl⟩:=qdi hn;obtain⟨h1,h2,h3,h4,h5⟩:=qld hn hb;obtain⟨d',rfl,hk,h⟩:=qjv hok;rcases h with⟨hx,rfl,hall⟩|⟨hx,rfl,hf⟩
  ·have hfl:=flat5 (B:=30000) hl (by omega);rw[qhk hx] at hs ⊢;simp only[zab,zai] at hs;have hp:=qwi (f:=qas d') (g:=fun c=>(qah n' (cell1 c)).1) (nd:=fun c=>toNd (cell1 c)) l (fun c hc=>by
    obtain⟨y,rfl,hy,hyb⟩:=h4 c hc;have hwy:=qw1 (d:=d') hy (by omega) (hall _ hc) (hs.1 _ hc);have hby:qad (qah n' y).1=true:=qbt (by have:=qgj hy;omega) (qkk hy (by omega) (hall _ hc));refine⟨fun rest=> ?_,xbr6 hy⟩;show qas d' ((qah n' y).1++rest)=(0,toNd y,_);rw[q85 hby (by rw[hwy]) rest,hwy];rfl) _ (zap _)
   simp only[qlr,zbq];rw[qd1,q2w _ (by omega) hk,yb (by simp[hx]),hp];have hss: ¬(t=49/\qa8 (l.map fun c=>(qah n' (cell1 c)).1)=false):=fun e=>by have:=hs.2;simp[e.1,e.2] at this
   have hm:(l.map fun c=>toNd (cell1 c)).map ndCV=l:=by rw[zc8];refine(zcq fun c hc=> ?_).trans (List.map_id l);obtain⟨y,rfl,hy,_⟩:=h4 c hc;exact xbpe hy
   rw[yc rfl,yb hss,hm];have hll:=qy3 (((l.map fun c=>(qah n' (cell1 c)).1).flatten).length:Nat);simp only[toNd,zac,zaf,zaz,true_and];omega
  ·rw[qgy hx];simp only[qlr,zbq];rw[qd1,q2w _ (by omega) hk,yc hx,yc hf];have hll:=qy3 (b.length:Nat);simp only[toNd,zac,zaf,zaz,true_and];omega
def q2x{f:LI->Int×Nd×Int}{h:Nd->LI}{Q:Nd->Prop}(hu: ∀b,qad b=true->(f b).1=0->0<(f b).2.2/\(f b).2.2<=b.length)(hf: ∀b,qad b=true->(f b).1=0->Q (f b).2.1/\h (f b).2.1=b.take (f b).2.2.toNat): ∀(m:Nat) (b:LI),qad b=true->b.length<=m->(qcm f m b).1=0->
  (qcm f m b).2.2=(qcm f m b).2.1.map h/\(qcm f m b).2.2.flatten=b/\∀x∈(qcm f m b).2.1,Q x
 | 0,b,hb,hm,hz=>by have:b=[]:=zaj (by omega);subst this;rw[qma];simp
 | m+1,b,hb,hm,hz=>by
  by_cases hne:b=[]
  ·subst hne;rw[qma];simp
  ·by_cases h0:(f b).1=0
   ·have hub:=hu b hb h0;obtain⟨hq,hh⟩:=hf b hb h0;rw[qua hne h0] at hz ⊢;obtain⟨i1,i2,i3⟩:=q2x hu hf m _ (qba hb _) (by simp only[zas];omega) hz;refine⟨?_, ?_,fun x hx=> ?_⟩
    ·rw[zbf,hh, <- i1]
    ·rw[zc1,i2,List.take_append_drop]
    ·rcases zaw.1 hx with rfl|hx
     ·exact hq
     ·exact i3 x hx
   ·rw[qz0 hne h0] at hz;exact absurd hz h0
def xben{α:Type}{g:α->LI}{h:α->Nat}: ∀ {l:List α},(∀c∈l,h c<=(g c).length)->(l.map h).sum<=((l.map g).flatten).length
 | [],_=>by simp
 | a::r,hh=>by have:=hh a (zck ..);have:=xben (g:=g) (h:=h) (l:=r) fun c hc=>hh c (za8 _ hc);simp only[zbf,zc1,zaf,zcf];omega
def xbxn(d:Nat)(x:Nd):Prop:=isTf d (ndL x)=true/\okF d d (ndL x)=true/\(qah d (ndL x)).2=true/\qee d (ndL x)<=(qah d (ndL x)).1.length
def xb43{n:Nat}{t:Int}{b:LI}{l:LC}(h1: ∀z∈b,0<=z/\z<=255)(h3: ∀c∈l, ∃y,c=.agg y/\isTf n y=true):isTf (n+1) [.int .i64 t,.sli .u8 b,.slg 3 l]=true:=by show(b.all xbkd&&l.all fun c=>match c with|.agg x=>isTf n x|_=>false)=true;simp only[zab,zai];refine⟨fun z hz=>yf (h1 z hz),fun c hc=> ?_⟩;obtain⟨y,rfl,hy⟩:=h3 c hc;exact hy
def ql9: ∀(d:Nat) (b:LI),qad b=true->(qas d b).1=0->xbxn d (qas d b).2.1/\(qah d (ndL (qas d b).2.1)).1=b.take (qas d b).2.2.toNat
 | 0,b,_,h=>absurd h (by decide: ¬(3:Int)=0)
 | d+1,[],_,h=>absurd h (by decide: ¬(1:Int)=0)
 | d+1,t::r,hb,h=>by
  have hbt:=qbu hb;simp only[zbw] at hbt;have hr:=qto hbt;rw[qd1] at h ⊢;obtain⟨hu,hk,hn⟩:=qix h;obtain⟨e1,e2⟩:=q5w (qak hbt).2 (fun e=>hn (.inl e));have hk':qbg t=true:=by simpa using hk
  rw[hu];obtain⟨I,hI⟩: ∃I,I=(r.drop (qac r).2.toNat).take (qac r).1.toNat:=⟨_,rfl⟩;have hIl:(I.length:Int)=(qac r).1:=by rw[hI];simp only[zch,zas];omega
  have hIb:qad I=true:=by rw[hI];exact qgx (qba hbt _) _
  have hlb:=qy3 (qac r).1;have htake:(t::r).take (1+(qac r).2+(qac r).1).toNat=t::(lenB (I.length:Nat)++I):=by
   rw[show(1+(qac r).2+(qac r).1).toNat=((qac r).2.toNat+(qac r).1.toNat)+1 by omega,zb3,hIl];congr 1;have:r.take ((qac r).2.toNat+(qac r).1.toNat)=(lenB (qac r).1++r.drop (qac r).2.toNat).take ((lenB (qac r).1).length+(qac r).1.toNat):=by rw[<- e1,show(lenB (qac r).1).length=(qac r).2.toNat by omega]
   rw[this,List.take_length_add_append, <- hI]
  rw[htake];have hp:parse1 (qas d) t r=if qav t=false then(if qbj t I=true then(0,(t,I,[]),1+(qac r).2+(qac r).1) else(5,nd0,0))
    else if(qcm (qas d) I.length I).1=0 then(if t=49/\qa8 (qcm (qas d) I.length I).2.2=false then(6,nd0,0) else(0,(t,[],(qcm (qas d) I.length I).2.1.map ndCV),1+(qac r).2+(qac r).1)) else((qcm (qas d) I.length I).1,nd0,0):=by
   unfold parse1;rw[yb hk,yb hn, <- hI]
  rw[hp] at h ⊢
  cases hx:qav t with
  | false=>
   rw[hx,yc rfl] at h;rw[yc rfl];by_cases hf:qbj t I=true
   ·rw[yc hf];have hbl:qah (d+1) (ndL (t,I,[]))=(qck t (I.length:Nat)++I,true):=qgy hx;refine⟨⟨xb43 (qak hIb).2 (by simp), ?_,by show(qah (d+1) (ndL (t,I,[]))).2=true;rw[hbl], ?_⟩, ?_⟩
    ·show(qbg t&&(if qav t=true then _ else decide (([]:LC)=[])&&qbj t I))=true;rw[yb (by simp[hx]),hk',hf];rfl
    ·show 1+I.length+0<=(qah (d+1) (ndL (t,I,[]))).1.length;rw[hbl,qlr];simp only[zaf,zac];omega
    ·show(qah (d+1) (ndL (t,I,[]))).1=_;rw[hbl];rfl
   ·rw[yb hf] at h;exact absurd h (by decide: ¬(5:Int)=0)
  | true=>
   rw[hx,yb (by decide)] at h;rw[yb (by decide)];by_cases hz:(qcm (qas d) I.length I).1=0
   ·rw[yc hz] at h ⊢;by_cases hs:t=49/\qa8 (qcm (qas d) I.length I).2.2=false
    ·rw[yc hs] at h;exact absurd h (by decide: ¬(6:Int)=0)
    ·rw[yb hs];obtain⟨i1,i2,i3⟩:=q2x (f:=qas d) (h:=fun x=>(qah d (ndL x)).1) (Q:=xbxn d) (fun b hb h=>qf7 hb h) (fun b hb h=>ql9 d b hb h) I.length I hIb (zap _) hz;generalize qcm (qas d) I.length I=p at*;obtain⟨p1,xs,ps⟩:=p;simp only[] at i1 i2 i3 hs ⊢;have hm:((xs.map ndCV).map fun c=>(qah d (cell1 c)).1)=ps:=by rw[i1,zc8];rfl
     have hbl:qah (d+1) (ndL (t,[],xs.map ndCV))=(qck t (I.length:Nat)++I,((xs.map ndCV).all fun c=>(qah d (cell1 c)).2)&&(!(decide (t=49))|| qa8 ps)):=by refine(qhk hx).trans ?_;rw[hm,i2]
     have hall2:((xs.map ndCV).all fun c=>(qah d (cell1 c)).2)=true:=by simp only[zai,zbo];rintro c ⟨x,hx',rfl⟩;exact(i3 x hx').2.2.1
     have hso:(!(decide (t=49))|| qa8 ps)=true:=by
      by_cases h49:t=49
      ·have:qa8 ps=true:=by
        cases hh:qa8 ps with
        | true=>rfl
        | false=>exact absurd ⟨h49,hh⟩ hs
       rw[this,Bool.or_true]
      ·simp[h49]
     rw[hall2,hso] at hbl;refine⟨⟨xb43 (by simp) fun c hc=> ?_, ?_,by show(qah (d+1) (ndL (t,[],xs.map ndCV))).2=true;rw[hbl];rfl, ?_⟩, ?_⟩
     ·obtain⟨x,hx',rfl⟩:=zbo.1 hc;exact⟨_,rfl,(i3 x hx').1⟩
     ·show(qbg t&&(if qav t=true then decide (([]:LI)=[])&&(xs.map ndCV).all fun c=>okF d d (cell1 c) else _))=true;rw[yc hx,hk'];simp only[zbs,decide_true,zai,zbo];rintro c ⟨x,hx',rfl⟩;exact(i3 x hx').2.1
     ·show 1+0+((xs.map ndCV).map fun c=>qee d (cell1 c)).sum<=(qah (d+1) (ndL (t,[],xs.map ndCV))).1.length;rw[hbl,qlr];have:=xben (g:=fun x=>(qah d (ndL x)).1) (h:=fun x=>qee d (ndL x)) (l:=xs) fun x hx'=>(i3 x hx').2.2.2;rw[<- i1,i2] at this;have e:((xs.map ndCV).map fun c=>qee d (cell1 c))=xs.map fun x=>qee d (ndL x):=by rw[zc8];rfl
      rw[e];simp only[zaf,zac];omega
     ·show(qah (d+1) (ndL (t,[],xs.map ndCV))).1=_;rw[hbl];rfl
   ·rw[yb hz] at h;exact absurd h hz
def qiu(b:LI):qan b=if(qas 32 b).1=0 then(if(qas 32 b).2.2<b.length then(nd0,7) else((qas 32 b).2.1,0)) else(nd0,(qas 32 b).1):=by unfold qan qzj;rw[qab]
def xb74{n:Nat}{a:LC}(h:isTf n a=true):ndL (toNd a)=a:=by obtain⟨n',t,b,l,rfl,rfl,_,_⟩:=qdi h;rfl
def q7g{a:LC}(hs:isS a=true)(hf:qrr a=true):(qbb a).2=0/\qad (qbb a).1=true/\(qbb a).1.length<=150000/\qas 32 (qbb a).1=(0,toNd a,(((qbb a).1.length:Nat):Int))/\ndL (toNd a)=a:=by obtain⟨n,hn,hb⟩:=qc8 hs;rw[qzi hn] at hf;have hf:=ye hf;have hl:=qgj hn;rw[qfa hn,yc hf];refine⟨rfl,qbt (by show(qah n a).1.length<=_;omega) (qkk hn hb hf.1),by show(qah n a).1.length<=_;omega,qw1 hn hb hf.1 hf.2,xb74 hn⟩
def q3a{b:LI}(hb:qad b=true)(hl:b.length<=30000)(h:(qan b).2=0):isS (ndL (qan b).1)=true/\qbb (ndL (qan b).1)=(b,0)/\qrr (ndL (qan b).1)=true:=by
 rw[qiu] at h ⊢;by_cases hz:(qas 32 b).1=0
 ·rw[yc hz] at h ⊢;by_cases hlt:(qas 32 b).2.2<b.length
  ·rw[yc hlt] at h;exact absurd h (by decide: ¬(7:Int)=0)
  ·rw[yb hlt];have hu:=qf7 hb hz;obtain⟨⟨h1,h2,h3,h4⟩,h5⟩:=ql9 32 b hb hz;have e:(qah 32 (ndL (qas 32 b).2.1)).1=b:=by rw[h5];exact zc0 (by omega)
   rw[e] at h4;refine⟨(xbax h1 (by omega):isS (ndL (qas 32 b).2.1)=true), ?_, ?_⟩
   ·show qbb (ndL (qas 32 b).2.1)=_;rw[qfa h1,yc ⟨h2,h3⟩,e]
   ·show qrr (ndL (qas 32 b).2.1)=_;rw[qzi h1];exact yf ⟨h2,h3⟩
 ·rw[yb hz] at h;exact absurd h hz
def qzx{a:LC}(hs:isS a=true)(hf:qrr a=true):qan (qbb a).1=(toNd a,0):=by obtain⟨_,_,_,h,_⟩:=q7g hs hf;rw[qiu,h,yc rfl,yb (by simp)]
open IntWalk (i64_in u8_in u32_in u64_in i64_quo u8_quo rem_in)
def q0m{i:Nat}(h:i<=1000000000000):i64.wrap ((i:Int)+1)=((i+1:Nat):Int):=(i64_in _ (by omega)).trans (by omega)
def xbp2{a b:LI}{T:Nat->Int->OO}(hT: ∀(f i:Nat),T (f+1) i=cond (decide ((i:Int)<(a.length:Int))) (getK a i fun x=>getK b i fun y=>cond (!decide (x=y)) (zB false) (T f (i64.wrap ((i:Int)+1)))) (zB true))(hl:a.length=b.length)(hb:a.length<=100000000): ∀(f i:Nat),i<=a.length->a.length<f+i->T f i=zB (decide (a.drop i=b.drop i))
 | 0,i,hi,hf=>by omega
 | f+1,i,hi,hf=>by
  rw[hT];refine qae (fun h=> ?_) fun h=> ?_
  ·obtain⟨x,hx⟩:=qbz (b:=a) (i:=i) (by omega);obtain⟨y,hy⟩:=qbz (b:=b) (i:=i) (by omega);refine qaz (by omega) hx (qaz (by omega) hy ?_);rw[qd5 hx,qd5 hy];refine qa0 (fun hne=>qa7 ?_) fun he=> ?_
   ·simp[hne]
   ·subst he;rw[q0m (by omega)];refine(xbp2 hT hl hb f (i+1) (by omega) (by omega)).trans (qa7 ?_);simp
  ·refine qa7 ?_;rw[qe3 (by omega),qe3 (by omega)];simp
def xbx4{n:Nat}(h:n<=100000000):n<FUEL+0:=by unfold FUEL;omega
def xbwm{a b:LI}{x:OO}(hx:a.length=b.length->x=zB (decide (a.drop 0=b.drop 0))):
  cond (!decide ((a.length:Int)=(b.length:Int))) (zB false) x=zB (qcr a b):=by
 unfold qcr qny;rw[qab];refine qa0 (fun h=>qa7 ?_) fun h=>hx (by omega);rw[eq_comm,decide_eq_false_iff_not];intro e;subst e;exact h rfl
def xb7q(a b:LI)(hp:qdu a=true):xby3 a b=zB (qcr a b):=by unfold xby3;simp only[qab];exact xbwm fun h=>xbp2 (T:=fun f=>qzb _ _ f a b _) (fun _ _=>rfl) h (qf1 hp) FUEL 0 (by omega) (xbx4 (qf1 hp))
def xb68(a b:LI)(hp:qdu a=true):xb51 a b=zB (qcr a b):=qam hp rfl
open IntWalk (i64_in u8_in u32_in u64_in i64_quo u8_quo rem_in)
def qux{n:Int}(h:u32Ok n=true):0<=n/\n<=4294967295:=by unfold u32Ok at h;rw[qab] at h;exact ye h
def q0k{n:Int}(h:0<=n/\n<=4294967295):u32Ok n=true:=by unfold u32Ok;rw[qab];exact yf h
def qwz{o:LI}(h:qvm o=true):o.length<=1000/\∀x∈o,0<=x/\x<=4294967295:=by unfold qvm at h;rw[qab] at h;simp only[zab,yd,zai] at h;exact⟨h.1,fun x hx=>ye (h.2 x hx)⟩
def c_z{x:Int}{a b:OO}(h:x=0):cond (!decide (x=0)) a b=b:=by rw[yf h];rfl
def c_nz{x:Int}{a b:OO}(h:x≠0):cond (!decide (x=0)) a b=a:=by rw[decide_eq_false h];rfl
def or128: ∀n:Fin 256,u8.wrap ((BitVec.ofInt 8 (n.val:Int)||| BitVec.ofInt 8 128).toNat)=128+(n.val:Int) % 128:=by decide+kernel
def xb19(x:Int):u8.wrap ((BitVec.ofInt 8 (u8.wrap x)||| BitVec.ofInt 8 128).toNat)=128+x % 128:=by rw[xbw0 x];have:=or128 ⟨(x % 256).toNat,by omega⟩;simp only[zdd (show 0<=x % 256 by omega)] at this;rw[this];omega
def xb2a(x:Int):u8.wrap ((BitVec.ofInt 8 (u8.wrap x)&&& ~~~ BitVec.ofInt 8 128).toNat)=x % 128:=by rw[xbw0 x];have:=(and7 ⟨(x % 256).toNat,by omega⟩).1;simp only[zdd (show 0<=x % 256 by omega)] at this;rw[this];omega
def fd28(n:Int):Int.fdiv n (2 ^ 28)=n/ 268435456:=zbk _ (by decide)
def fd21(n:Int):Int.fdiv n (2 ^ 21)=n/ 2097152:=zbk _ (by decide)
def fd14(n:Int):Int.fdiv n (2 ^ 14)=n/ 16384:=zbk _ (by decide)
def fd7(n:Int):Int.fdiv n (2 ^ 7)=n/ 128:=zbk _ (by decide)
def xbe7(f:Nat):gHi f 0=[]:=by cases f<;>rfl
def q7p(f:Nat){n:Int}(h:n≠0):gHi (f+1) n=gHi f (n/ 128)++[128+n % 128]:=by
 conv=>lhs;unfold gHi
 rw[yb h]
def gr1{n:Int}(h:n/ 128=0):qaw n=[n % 128]:=by unfold qaw;rw[h,xbe7];rfl
def gr2{n:Int}(h:n/ 128≠0)(h':n/ 16384=0):qaw n=[128+n/ 128 % 128,n % 128]:=by unfold qaw;rw[q7p 4 h,show n/ 128/ 128=0 by omega,xbe7];rfl
def gr3{n:Int}(h:n/ 16384≠0)(h':n/ 2097152=0):qaw n=[128+n/ 16384 % 128,128+n/ 128 % 128,n % 128]:=by unfold qaw;rw[q7p 4 (by omega),q7p 3 (by omega),show n/ 128/ 128/ 128=0 by omega,xbe7,show n/ 128/ 128=n/ 16384 by omega];rfl
def gr4{n:Int}(h:n/ 2097152≠0)(h':n/ 268435456=0):qaw n=[128+n/ 2097152 % 128,128+n/ 16384 % 128,128+n/ 128 % 128,n % 128]:=by unfold qaw;rw[q7p 4 (by omega),q7p 3 (by omega),q7p 2 (by omega),show n/ 128/ 128/ 128/ 128=0 by omega,xbe7,show n/ 128/ 128/ 128=n/ 2097152 by omega,show n/ 128/ 128=n/ 16384 by omega];rfl
def gr5{n:Int}(h:n/ 268435456≠0)(h':0<=n/\n<=4294967295):qaw n=[128+n/ 268435456 % 128,128+n/ 2097152 % 128,128+n/ 16384 % 128,128+n/ 128 % 128,n % 128]:=by unfold qaw;rw[q7p 4 (by omega),q7p 3 (by omega),q7p 2 (by omega),q7p 1 (by omega),show n/ 128/ 128/ 128/ 128/ 128=0 by omega,xbe7,show n/ 128/ 128/ 128/ 128=n/ 268435456 by omega,show n/ 128/ 128/ 128=n/ 2097152 by omega,show n/ 128/ 128=n/ 16384 by omega];rfl
def q5q{n:Int}(h:0<=n/\n<=4294967295):(n/ 128=0/\n/ 16384=0/\n/ 2097152=0/\n/ 268435456=0)\/(n/ 128≠0/\n/ 16384=0/\n/ 2097152=0/\n/ 268435456=0)\/
  (n/ 128≠0/\n/ 16384≠0/\n/ 2097152=0/\n/ 268435456=0)\/(n/ 128≠0/\n/ 16384≠0/\n/ 2097152≠0/\n/ 268435456=0)\/(n/ 128≠0/\n/ 16384≠0/\n/ 2097152≠0/\n/ 268435456≠0):=by omega
def xb0y(n:Int)(hp:u32Ok n=true):xbog n=zR [.ref 0 0 (qbv n).length true 1] [some ⟨.ints .u8 (qbv n),false⟩]:=by
 have hn:=qux hp;unfold xbog qbv;simp only[qab];unfold q5t;simp only[fd28,fd21,fd14,fd7,xb19,xb2a];rcases q5q hn with⟨h1,h2,h3,h4⟩|⟨h1,h2,h3,h4⟩|⟨h1,h2,h3,h4⟩|⟨h1,h2,h3,h4⟩|⟨h1,h2,h3,h4⟩
 ·rw[c_z h4,c_z h3,c_z h2,c_z h1,gr1 h1];rfl
 ·rw[c_z h4,c_z h3,c_z h2,c_nz h1,gr2 h1 h2];rfl
 ·rw[c_z h4,c_z h3,c_nz h2,c_nz h1,gr3 h2 h3];rfl
 ·rw[c_z h4,c_nz h3,c_nz h2,c_nz h1,gr4 h3 h4];rfl
 ·rw[c_nz h4,c_nz h3,c_nz h2,c_nz h1,gr5 h4 hn];rfl
def rm1{l:LI}{x:OO}(h:l.length<=1000000000):rmK l.length 1 x=x:=qvi (by omega) (by omega) rfl
def xb0z(m:Nat)(n:Int)(l:LI)(hp:(u32Ok n&&qdu l)=true):xboh m n l=zR [.ref 1 0 (l++qbv n).length true 1] [none,some ⟨.ints .u8 (l++qbv n),false⟩]:=by
 simp only[zab] at hp;have hn:=qux hp.1;have hl:=qf1 hp.2;have rm: ∀(a:LI) {x:OO},a.length<=10->rmK (l++a).length 1 x=x:=fun a x h=>rm1 (by simp;omega);unfold xboh qbv;simp only[qab];unfold qtl;simp only[fd28,fd21,fd14,fd7,xb19,xb2a,zb7,zbq,za9];rcases q5q hn with⟨h1,h2,h3,h4⟩|⟨h1,h2,h3,h4⟩|⟨h1,h2,h3,h4⟩|⟨h1,h2,h3,h4⟩|⟨h1,h2,h3,h4⟩
 ·rw[c_z h4,c_z h3,c_z h2,c_z h1,gr1 h1,rm _ (by simp)]
 ·rw[c_z h4,c_z h3,c_z h2,c_nz h1,gr2 h1 h2,rm _ (by simp),rm _ (by simp)]
 ·rw[c_z h4,c_z h3,c_nz h2,rm _ (by simp),c_nz h1,rm _ (by simp),gr3 h2 h3,rm _ (by simp)]
 ·rw[c_z h4,c_nz h3,rm _ (by simp),c_nz h2,rm _ (by simp),c_nz h1,rm _ (by simp),gr4 h3 h4,rm _ (by simp)]
 ·rw[c_nz h4,rm _ (by simp),c_nz h3,rm _ (by simp),c_nz h2,rm _ (by simp),c_nz h1,rm _ (by simp),gr5 h4 hn,rm _ (by simp)]
def xb9c: ∀(f g:Nat) (n:Int) (l:LI),0<=n->n<=4294967295->n<128 ^ g->g<f->l.length+g<=100->
  qjn (fun y4 y5=>zR [.ref 0 0 y4 true 1] [some ⟨.ints .u8 y5,false⟩]) f n l.length l=zR [.ref 0 0 (gHi g n++l).length true 1] [some ⟨.ints .u8 (gHi g n++l),false⟩]
 | 0,g,n,l,_,_,_,h,_=>by omega
 | f+1,g,n,l,h0,hb,h1,hg,hl=>by
  show qk2 (qjn (fun y4 y5=>zR [.ref 0 0 y4 true 1] [some ⟨.ints .u8 y5,false⟩]) f) (fun y4 y5=>zR [.ref 0 0 y4 true 1] [some ⟨.ints .u8 y5,false⟩]) n l.length l=_;unfold qk2;refine qae (fun h=> ?_) fun h=> ?_
  ·obtain⟨g,rfl⟩: ∃g',g=g'+1:=⟨g - 1,by
    cases g with
    | zero=>rw[Int.pow_zero] at h1;omega
    | succ g=>rfl⟩
   rw[zc3] at h1;rw[q7p g (by omega)];dsimp only;rw[zce h0,zcd h0,show u32.wrap (128+n % 128)=128+n % 128 from u32_in _ (by omega),show u32.wrap (n/ 128)=n/ 128 from u32_in _ (by omega),show u8.wrap (128+n % 128)=128+n % 128 from u8_in _ (by omega)];rw[show[128+n % 128]++l=(128+n % 128)::l from rfl];refine qvi (by simp;omega) (by simp;omega) ?_;refine(xb9c f g (n/ 128) ((128+n % 128)::l) (by omega) (by omega) (by generalize (128:Int) ^ g=X at*;omega) (by omega) (by simp only[zac];omega)).trans ?_;simp
  ·have:n=0:=by omega
   subst this;rw[xbe7];rfl
def xbly(n:Int)(hp:u32Ok n=true):q7q n=zR [.ref 0 0 (qbv n).length true 1] [some ⟨.ints .u8 (qbv n),false⟩]:=by have hn:=qux hp;unfold q7q qbv qaw;simp only[qab];rw[zce hn.1,zcd hn.1,show u32.wrap (n/ 128)=n/ 128 from u32_in _ (by omega),show u8.wrap (n % 128)=n % 128 from u8_in _ (by omega)];exact xb9c FUEL 5 (n/ 128) [n % 128] (by omega) (by omega) (by omega) (by unfold FUEL;omega) (by simp)
def xbat(n:Int):(qaw n).length<=6:=by
 have h: ∀(f:Nat) (n:Int),(gHi f n).length<=f:=fun f=>by
  induction f with
  | zero=>intro n;simp[gHi]
  | succ f ih=>
   intro n;unfold gHi;split
   ·simp
   ·have:=ih (n/ 128);simp;omega
 unfold qaw;have:=h 5 (n/ 128);simp;omega
def qre(n:Int):qbv n=qaw n:=qab _
abbrev bO(y:LI):OO:=zR [.cl (.sli .u8 y)] []
def xb9h(r:LI)(hr: ∀x∈r,0<=x/\x<=4294967295)(hl:r.length<=1000): ∀(f i:Nat) (l:LI),i<=r.length->r.length<f+i->l.length<=6*(i+1)->
  qn1 (fun _ y=>bO y) f l.length r r.length i l=bO (l++(r.drop i).flatMap qaw)
 | 0,i,l,hi,hf,_=>by omega
 | f+1,i,l,hi,hf,hll=>by
  show qpo (qn1 (fun _ y=>bO y) f) (fun _ y=>bO y) l.length r r.length i l=_;unfold qpo;refine qae (fun h=> ?_) fun h=> ?_
  ·obtain⟨c,hc⟩:=qbz (b:=r) (i:=i) (by omega);refine qaz (by omega) hc (qam ?_ ?_)
   ·rw[q0k (hr c (zad hc)),qku (by omega)];rfl
   ·have:=xbat c;dsimp only;rw[q0m (by omega),qre,qd5 hc];refine(xb9h r hr hl f (i+1) (l++qaw c) (by omega) (by omega) (by simp;omega)).trans ?_;simp
  ·rw[qe3 (by omega)];simp
def xb9o(o:LI)(hr: ∀x∈o,0<=x/\x<=4294967295)(hl:o.length<=1000): ∀(f i:Nat) (l:LI),i<=o.length->o.length<f+i->l.length<=6*(i+1)->
  ql1 (fun _ y=>bO y) f o l.length i l=bO (l++(o.drop i).flatMap qaw)
 | 0,i,l,hi,hf,_=>by omega
 | f+1,i,l,hi,hf,hll=>by
  show qm4 (ql1 (fun _ y=>bO y) f) (fun _ y=>bO y) o l.length i l=_;unfold qm4;refine qae (fun h=> ?_) fun h=> ?_
  ·obtain⟨c,hc⟩:=qbz (b:=o) (i:=i) (by omega);have:=xbat c;refine qaz (by omega) hc (qam (q0k (hr c (zad hc))) ?_);dsimp only;rw[q0m (by omega),qre,qd5 hc,rm1 (by simp;omega)];refine(xb9o o hr hl f (i+1) (l++qaw c) (by omega) (by omega) (by simp;omega)).trans ?_;simp
  ·rw[qe3 (by omega)];simp
def qm0{o:LI}(h:qbx o=true): ∃x y r,o=x::y::r/\r.length<=18/\x<=2/\(x<2->y<40)/\y<=4294967215:=by
 match o,h with
 | x::y::r,h=>
  simp only[qbx,zab,zbx,yd] at h;exact⟨x,y,r,rfl,h.1,by omega,by omega,by omega⟩
def xb0w(o:LI)(hp:qvm o=true):xbof o=zR [.cl (.sli .u8 (qay o))] []:=by
 obtain⟨hl,hr⟩:=qwz hp;unfold xbof qay qk8 qco;simp only[qab]
 cases hf:qbx o with
 | false=>rfl
 | true=>
  obtain⟨x,y,r,rfl,hr18,hx,hxy,hy⟩:=qm0 hf;have rx:=hr x (by simp);have ry:=hr y (by simp);rw[yc rfl];refine qyh rfl (qaq (by simp only[zac];omega) ?_);simp only[zar,za2,zak];rw[show u32.wrap (40*x)=40*x from u32_in _ (by omega),show u32.wrap (40*x+y)=40*x+y from u32_in _ (by omega)];refine qaq (by simp only[zac];omega) (qam (q0k (by omega)) (qaq (by simp only[zac];omega) ?_));rw[qre];have:=xbat (40*x+y);exact xb9h r (fun z hz=>hr z (by simp[hz])) (by omega) FUEL 0 _ (by omega) (by unfold FUEL;omega) (by omega)
def xbuk(o:LI)(hp:qvm o=true):xbfd o=zR [.cl (.sli .u8 (qay o))] []:=by
 obtain⟨hl,hr⟩:=qwz hp;unfold xbfd qay qk8 qco;simp only[qab]
 cases hf:qbx o with
 | false=>rfl
 | true=>
  obtain⟨x,y,r,rfl,hr18,hx,hxy,hy⟩:=qm0 hf;have rx:=hr x (by simp);have ry:=hr y (by simp);rw[yc rfl];refine qyh rfl (qaq (by simp only[zac];omega) ?_);simp only[zar,za2,zak];rw[show u32.wrap (40*x)=40*x from u32_in _ (by omega),show u32.wrap (40*x+y)=40*x+y from u32_in _ (by omega)];refine qaq (by simp only[zac];omega) (qam (q0k (by omega)) ?_);rw[qre];have:=xbat (40*x+y);exact xb9o (x::y::r) hr (by simp;omega) FUEL 2 _ (by simp) (by unfold FUEL;simp;omega) (by omega)
open IntWalk (i64_in u8_in u32_in u64_in i64_quo u8_quo rem_in)
def xbn3{o:LI}(h:qbx o=true):2<=o.length/\o.length<=20:=by obtain⟨x,y,r,rfl,h1,_⟩:=qm0 h;simp;omega
abbrev inU(n:Int):Prop:=0<=n/\n<=4294967295
def xbfz{n:Int}(h:inU n)(rest:LI):qap (qaw n++rest)=(n,((qaw n).length:Int)):=by
 unfold qap;have go: ∀(acc i c:Int) (r:LI), ¬(i=0/\c=128)->acc<=33554431->128<=c->qb9 acc i (c::r)=qb9 (acc*128+(c - 128)) (i+1) r:=fun acc i c r h1 h2 h3=>by rw[qrt,yb (by rintro(h|h);exact h1 h;omega),yb (by omega)]
 have fin: ∀(acc i c:Int) (r:LI), ¬(i=0/\c=128)->acc<=33554431->c<128->qb9 acc i (c::r)=(acc*128+c,i+1):=fun acc i c r h1 h2 h3=>by rw[qrt,yb (by rintro(h|h);exact h1 h;omega),yc h3]
 rcases q5q h with⟨h1,h2,h3,h4⟩|⟨h1,h2,h3,h4⟩|⟨h1,h2,h3,h4⟩|⟨h1,h2,h3,h4⟩|⟨h1,h2,h3,h4⟩
 ·rw[gr1 h1];simp only[zbq,za9,zac,zbg];rw[fin _ _ _ _ (by omega) (by omega) (by omega)];exact Prod.ext (by simp only[];omega) rfl
 ·rw[gr2 h1 h2];simp only[zbq,za9,zac,zbg];rw[go _ _ _ _ (by omega) (by omega) (by omega),fin _ _ _ _ (by omega) (by omega) (by omega)];exact Prod.ext (by simp only[];omega) rfl
 ·rw[gr3 h2 h3];simp only[zbq,za9,zac,zbg];rw[go _ _ _ _ (by omega) (by omega) (by omega),go _ _ _ _ (by omega) (by omega) (by omega),fin _ _ _ _ (by omega) (by omega) (by omega)];exact Prod.ext (by simp only[];omega) rfl
 ·rw[gr4 h3 h4];simp only[zbq,za9,zac,zbg];rw[go _ _ _ _ (by omega) (by omega) (by omega),go _ _ _ _ (by omega) (by omega) (by omega),go _ _ _ _ (by omega) (by omega) (by omega),fin _ _ _ _ (by omega) (by omega) (by omega)];exact Prod.ext (by simp only[];omega) rfl
 ·rw[gr5 h4 h];simp only[zbq,za9,zac,zbg];rw[go _ _ _ _ (by omega) (by omega) (by omega),go _ _ _ _ (by omega) (by omega) (by omega),go _ _ _ _ (by omega) (by omega) (by omega),go _ _ _ _ (by omega) (by omega) (by omega),fin _ _ _ _ (by omega) (by omega) (by omega)];exact Prod.ext (by simp only[];omega) rfl
def xb6a(n:Int):0<(qaw n).length:=by unfold qaw;simp
def xbo2{n:Int}(h:inU n): ∀x∈qaw n,0<=x/\x<=255:=by
 have: ∀(f:Nat) (n:Int), ∀x∈gHi f n,0<=x/\x<=255:=fun f=>by
  induction f with
  | zero=>intro n x hx;simp[gHi] at hx
  | succ f ih=>
   intro n x hx;unfold gHi at hx;split at hx
   ·simp at hx
   ·rcases zaq.1 hx with hx|hx
    ·exact ih _ x hx
    ·simp at hx;omega
 intro x hx;unfold qaw at hx;rcases zaq.1 hx with hx|hx
 ·exact this _ _ x hx
 ·simp at hx;omega
def xbbl{n:Int}(h:inU n)(rest:LI)(hb:qad (qaw n++rest)=true):qdb (qaw n++rest)=(n,true)::qdb rest:=by have hp:=xb6a n;rw[q8x hb,yb (fun e=>by rw[List.append_eq_nil_iff] at e;rw[e.1] at hp;simp at hp),xbfz h];simp only[];rw[yb (by omega),xbzm,List.drop_left]
def q8v: ∀(l:LI) (rest:LI),(∀n∈l,inU n)->qad (l.flatMap qaw++rest)=true->qdb (l.flatMap qaw++rest)=l.map (fun n=>(n,true))++qdb rest
 | [],rest,_,_=>rfl
 | n::l,rest,h,hb=>by rw[za3,zb7] at hb ⊢;rw[xbbl (h n (by simp)) _ hb,q8v l rest (fun x hx=>h x (by simp[hx])) (by have:=qba hb (qaw n).length;rwa [List.drop_left] at this)];rfl
def oflat:LI->LI
 | x::y::r=>(40*x+y)::r
 | _=>[]
def qll{o:LI}(h:qbx o=true):qco o=(oflat o).flatMap qaw:=by obtain⟨x,y,r,rfl,_⟩:=qm0 h;unfold qco;rw[yc h];simp[oflat]
def qzo{o:LI}(h:qbx o=true)(hr: ∀n∈o,inU n): ∀n∈oflat o,inU n:=by
 obtain⟨x,y,r,rfl,h1,h2,h3,h4⟩:=qm0 h;intro n hn;have:=hr x (by simp);have:=hr y (by simp);rcases zaw.1 hn with rfl|hn
 ·exact⟨by omega,by omega⟩
 ·exact hr n (by simp[hn])
def q8z{o:LI}(h:qbx o=true):(oflat o).length+1=o.length:=by obtain⟨x,y,r,rfl,_⟩:=qm0 h;rfl
def xbr7{o:LI}(hr: ∀n∈o,inU n):qad (qco o)=true:=by
 by_cases h:qbx o=true
 ·rw[qll h];have hl:=q8z h;have hf:=xbn3 h;have hg: ∀(l:LI),(l.flatMap qaw).length<=6*l.length:=fun l=>by
   induction l with
   | nil=>simp
   | cons a l ih=>have:=xbat a;simp at*;omega
  have:=hg (oflat o);refine qbt (by omega) fun x hx=> ?_;obtain⟨n,hn,hx⟩:=zb1.1 hx;exact xbo2 (qzo h hr n hn) x hx
 ·unfold qco;rw[yb h];exact qbt (by simp) (by simp)
def xbo1: ∀(l o:LI),o≠[]->o.length+l.length<=21->qu6 (l.map fun n=>(n,true)) o=some (o++l)
 | [],o,_,_=>by simp[qu6]
 | n::l,o,h,hl=>by rw[zbf];unfold qu6;simp only[zac] at hl;rw[yb (by rintro(h|h);cases h;omega),yb h,xbo1 l (o++[n]) (by simp) (by simp;omega)];simp
def xbas{x y:Int}(h:qbx [x,y]=true)(hx:inU x)(hy:inU y):qb5 (40*x+y)=[x,y]:=by
 simp only[qbx,zab,zbx,yd] at h;unfold qb5;rcases h.2 with h|h
 ·rw[yc (by omega),show(40*x+y)/ 40=x by omega,show(40*x+y) % 40=y by omega]
 ·rw[yb (by omega),h.1,show 40*2+y - 80=y by omega]
def xbbm{o:LI}(h:qbx o=true)(hr: ∀n∈o,inU n):qcw (qco o)=(o,0):=by
 have hok:=xbr7 hr;have hfl:=xbn3 h;rw[qll h] at hok ⊢;have e:=q8v (oflat o) [] (qzo h hr) (by rwa [zb2]);rw[zb2] at e;unfold qcw;rw[e,show qdb []=[] from rfl,zb2];obtain⟨x,y,r,rfl,h1,h2,h3,h4⟩:=qm0 h;have hf2:qbx [x,y]=true:=by simp only[qbx,zab] at h ⊢;exact⟨by simp,h.2⟩
 have:qu6 ((oflat (x::y::r)).map fun n=>(n,true)) []=some (x::y::r):=by show qu6 ((40*x+y,true)::r.map fun n=>(n,true)) []=_;unfold qu6;rw[yb (by simp),yc rfl,xbas hf2 (hr x (by simp)) (hr y (by simp)),xbo1 r [x,y] (by simp) (by simp at*;omega)];rfl
 rw[this];simp only[];rw[yc h]
def xbe8: ∀(f:Nat) (n:Int),0<=n->n<128 ^ f->gHi f n=gHi (f+1) n
 | 0,n,h0,h=>by
  rw[Int.pow_zero] at h;have:n=0:=by omega
  subst this;rw[xbe7,xbe7]
 | f+1,n,h0,h=>by
  by_cases hn:n=0
  ·subst hn;rw[xbe7,xbe7]
  ·rw[q7p _ hn,q7p _ hn,xbe8 f (n/ 128) (by omega) (by rw[zc3] at h;generalize (128:Int) ^ f=X at*;omega)]
def q2l: ∀(b:LI) (acc i n k:Int),(∀x∈b,0<=x/\x<=255)->0<=acc->0<=i->(i=0->acc=0)->(0<i->0<acc)->qb9 acc i b=(n,k)->k≠0->gHi 5 acc++b.take (k - i).toNat=qaw n
 | [],acc,i,n,k,_,_,_,_,_,h,hk=>by simp[qb9] at h;omega
 | c::b,acc,i,n,k,hb,h0,hi,h1,h2,h,hk=>by
  have hc:=hb c (by simp);rw[qrt] at h;split at h
  ·simp at h;omega
  ·rename_i hn;simp only[not_or,not_and] at hn;split at h
   ·simp only[zaz] at h;obtain⟨rfl,rfl⟩:=h;unfold qaw;rw[show(i+1 - i).toNat=1 by omega,show(acc*128+c)/ 128=acc by omega,show(acc*128+c) % 128=c by omega];rfl
   ·have hrng:=qzm b (acc*128+(c - 128)) (i+1) (fun x hx=>hb x (by simp[hx])) (by omega) (by omega);rw[h] at hrng;have hk2:=hrng.2.resolve_left hk;simp only at hk2;have hpos:0<acc*128+(c - 128):=by
     by_cases hi0:i=0
     ·have:=hn.1 hi0;omega
     ·have:=h2 (by omega);omega
    have:=q2l b (acc*128+(c - 128)) (i+1) n k (fun x hx=>hb x (by simp[hx])) (by omega) (by omega) (by omega) (by omega) h hk;rw[q7p 4 (by omega),show(acc*128+(c - 128))/ 128=acc by omega,show 128+(acc*128+(c - 128)) % 128=c by omega,xbe8 4 acc h0 (by omega)] at this;rw[<- this,show(k - i).toNat=(k - (i+1)).toNat+1 by omega,zb3];simp
def q8u: ∀(f:Nat) (b:LI),qad b=true->b.length<=f->(∀p∈qdz f b,p.2=true)->b=(qdz f b).flatMap fun p=>qaw p.1
 | 0,b,_,h,_=>by have:b=[]:=zaj (by omega);subst this;rfl
 | f+1,b,hb,hl,hall=>by
  unfold qdz at hall ⊢;by_cases he:b=[]
  ·subst he;rfl
  ·rw[yb he] at hall ⊢;by_cases h0:(qap b).2=0
   ·rw[yc h0] at hall;have:=hall ((qap b).1,false) (by simp);cases this
   ·rw[yb h0] at hall ⊢;have hr:=(qiw hb).2.resolve_left h0;have hg:=q2l b 0 0 (qap b).1 (qap b).2 (qak hb).2 (by omega) (by omega) (fun _=>rfl) (by omega) rfl h0;rw[xbe7,za9,Int.sub_zero] at hg;rw[za3, <- hg, <- q8u f (b.drop (qap b).2.toNat) (qba hb _) (by simp only[zas];omega) (fun p hp=>hall p (by simp[hp]))];exact(List.take_append_drop _ _).symm
def xbzg: ∀(l:List (Int×Bool)) (o o':LI),qu6 l o=some o'->o≠[]->(∀p∈l,p.2=true)/\o'=o++l.map (·.1)
 | [],o,o',h,_=>by simp[qu6] at h;subst h;simp
 | (n,ok)::l,o,o',h,ho=>by
  unfold qu6 at h;rw[yb ho] at h;split at h
  ·cases h
  ·rename_i hn;simp only[not_or] at hn;obtain⟨h1,h2⟩:=xbzg l _ o' h (by simp);refine⟨fun p hp=> ?_,by rw[h2];simp⟩;rcases zaw.1 hp with rfl|hp
   ·simpa using hn.1
   ·exact h1 p hp
def qvt{b:LI}(hb:qad b=true):(qcw b=([],5))\/∃o,qcw b=(o,0)/\qbx o=true/\(∀n∈o,inU n)/\qco o=b:=by
 unfold qcw
 cases hg:qu6 (qdb b) [] with
 | none=>exact .inl rfl
 | some o=>
  simp only[];by_cases hf:qbx o=true
  ·rw[yc hf];refine .inr ⟨o,rfl,hf, ?_⟩;have hback:=q8u b.length b hb (zap _);have hrng:=q52 b.length b hb;change (∀p∈qdb b,p.2=true)->b=(qdb b).flatMap _ at hback;change ∀p∈qdb b,_ at hrng
   cases hl:qdb b with
   | nil=>
    rw[hl] at hg;simp[qu6] at hg;subst hg;simp[qbx] at hf
   | cons p l=>
    obtain⟨n,ok⟩:=p;rw[hl] at hg hback hrng;unfold qu6 at hg;split at hg
    ·cases hg
    ·rename_i hn;rw[yc rfl] at hg;have hne:qb5 n≠[]:=by unfold qb5;split<;>simp
     obtain⟨h1,rfl⟩:=xbzg l _ o hg hne;have hbk:=hback (fun p hp=>by
      rcases zaw.1 hp with rfl|hp
      ·simpa using (not_or.1 hn).1
      ·exact h1 p hp)
     have hn2:=hrng (n,ok) (by simp);simp only at hn2;have hfl:oflat (qb5 n++l.map (·.1))=n::l.map (·.1):=by
      unfold qb5;split
      ·simp only[zbq,za9,oflat,zcg,and_true];omega
      ·simp only[zbq,za9,oflat,zcg,and_true];omega
     have hin: ∀m∈qb5 n++l.map (·.1),inU m:=by
      intro m hm;rcases zaq.1 hm with hm|hm
      ·unfold qb5 at hm;split at hm
       ·simp at hm;rcases hm with rfl|rfl<;>exact⟨by omega,by omega⟩
       ·simp at hm;rcases hm with rfl|rfl<;>exact⟨by omega,by omega⟩
      ·obtain⟨q,hq,rfl⟩:=zbo.1 hm;exact hrng q (by simp[hq])
     refine⟨hin, ?_⟩;rw[qll hf,hfl]
     conv=>rhs;rw[hbk]
     simp[List.flatMap_map]
  ·rw[yb hf];exact .inl rfl
open IntWalk (i64_in u8_in u32_in u64_in i64_quo u8_quo rem_in)
def xbl8{b:LI}(h:num8 b=true):b.length<=8/\∀x∈b,0<=x/\x<=255:=by unfold num8 at h;rw[qab,zab,yd,zai] at h;exact⟨h.1,fun x hx=>qkj (h.2 x hx)⟩
def xb1p{b:LI}(h:b.length<=8)(h': ∀x∈b,0<=x/\x<=255):num8 b=true:=by unfold num8;rw[qab,zab,yd,zai];exact⟨h,fun x hx=>yf (h' x hx)⟩
def xbqj{n:Int}(h:0<=n/\n<=18446744073709551615):u64Ok n=true:=by unfold u64Ok;rw[qab];exact yf h
def q9u{n:Int}(h:u64Ok n=true):0<=n/\n<=18446744073709551615:=by unfold u64Ok at h;rw[qab] at h;exact ye h
abbrev xb8w:Int->OO:=fun y=>zR [.cl (.int .u64 y)] []
def xbjg(b:LI)(hb: ∀x∈b,0<=x/\x<=255)(hl:b.length<=8): ∀(f i:Nat) (n:Int),i<=b.length->b.length<f+i->0<=n->n<256 ^ i->
  qrl xb8w f n b (b.length:Int) i=zR [.cl (.int .u64 ((b.drop i).foldl (fun n x=>n*256+x) n))] []
 | 0,i,n,hi,hf,_,_=>by omega
 | f+1,i,n,hi,hf,h0,h1=>by
  show qtv (qrl xb8w f) xb8w n b _ i=_;unfold qtv;refine qae (fun h=> ?_) fun h=> ?_
  ·have hh:((256:Int) ^ i)=((256 ^ i:Nat):Int):=by rw[zdo];rfl
   have h3:(256 ^ i:Nat)<=72057594037927936:=zcb (zcu (by omega) (show i<=7 by omega)) (by decide);have h2:n<72057594037927936:=by rw[hh] at h1;generalize 256 ^ i=z at*;omega
   obtain⟨x,hx⟩:=qbz (b:=b) (i:=i) (by omega);have hxr:=hb x (zad hx);refine qaz (by omega) hx ?_;rw[qd5 hx,zbm];dsimp only;rw[show u64.wrap (n*2 ^ 8)=n*256 from(u64_in _ (by omega)).trans (by omega),show u64.wrap x=x from u64_in _ (by omega),xb1w h0 h2 hxr.1 hxr.2,show u64.wrap (n*256+x)=n*256+x from u64_in _ (by omega),
    show i64.wrap ((i:Int)+1)=((i+1:Nat):Int) from(i64_in _ (by omega)).trans (by omega)]
   exact xbjg b hb hl f (i+1) _ (by omega) (by omega) (by omega) (by rw[zc3];omega)
  ·rw[qe3 (by omega)];rfl
def xb7u(b:LI)(hp:num8 b=true):xby8 b=zR [.cl (.int .u64 (qhy b))] []:=by obtain⟨hl,hb⟩:=xbl8 hp;unfold xby8 qhy;simp only[qab];exact xbjg b hb hl FUEL 0 0 (by omega) (by unfold FUEL;omega) (by omega) (by decide)
def xb9x(x:Int):u8.wrap x=x % 256:=by simp[IntKind.wrap,IntKind.bits,IntKind.signed]
def xb9v{n:Int}(h:0<=n)(k:Nat):Int.fdiv n (2 ^ k)=n/ 2 ^ k:=zbk _ (by have:(0:Int)<2 ^ k:=Int.pow_pos (by decide);omega)
def nVLe(n:Int)(hp:u64Ok n=true):gVLe n=zR [.ref 0 0 8 true 1] [some ⟨.ints .u8 (vLe n),false⟩]:=by
 have h:=(q9u hp).1;unfold gVLe vLe vLeC;simp only[qab,xb9x,xb9v h];simp only[show(2:Int) ^ 0=1 from rfl,show(2:Int) ^ 8=256 from rfl,show(2:Int) ^ 16=65536 from rfl,show(2:Int) ^ 24=16777216 from rfl,show(2:Int) ^ 32=4294967296 from rfl,show(2:Int) ^ 40=1099511627776 from rfl,
  show(2:Int) ^ 48=281474976710656 from rfl,show(2:Int) ^ 56=72057594037927936 from rfl,Int.ediv_one]
def xbl4(l:LI)(hp:xb2i l=true):xbk5 l=zR [] [some ⟨.ints .u8 (vRev l),false⟩]:=by
 have h:l.length=8:=by unfold xb2i at hp;rw[qab] at hp;exact ye hp
 match l,h with
 | [a0,a1,a2,a3,a4,a5,a6,a7],_=>
  unfold vRev;rw[qab];rfl
def xb4t(n:Int):(vLe n).length=8:=by unfold vLe;rw[qab];rfl
def nVBe(n:Int)(hp:u64Ok n=true):gVBe n=zR [.cl (.sli .u8 (vBe n))] []:=by unfold gVBe;refine qam hp (qam (by unfold xb2i;rw[qab];exact yf (xb4t n)) ?_);unfold vBe vRev vLe;simp only[qab]
def xbqf{n:Int}(h:0<=n):u8.wrap (u64.wrap ((BitVec.ofInt 64 n&&&BitVec.ofInt 64 255).toNat))=n % 256:=by
 have e1:((BitVec.ofInt 64 n&&&BitVec.ofInt 64 255).toNat:Int)=n % 256:=by rw[BitVec.toNat_and,zcs,show(BitVec.ofInt 64 255).toNat=2 ^ 8 - 1 from rfl,Nat.and_two_pow_sub_one_eq_mod];omega
 rw[e1,u64_in _ (by omega),xb9x];omega
def xb7y(n:Int)(hp:u64Ok n=true):xbzd n=zR [.cl (.sli .u8 (vBe n))] []:=by
 have h:=(q9u hp).1;have d: ∀ {m:Int},0<=m->Int.fdiv m (2 ^ 8)=m/ 256:=fun hm=>xb9v hm 8;unfold xbzd vBe vLeC;simp only[qab,List.reverse_cons,List.reverse_nil,za9,zbq];rw[d h,d (show 0<=n/ 256 by omega),d (show 0<=n/ 256/ 256 by omega),d (show 0<=n/ 256/ 256/ 256 by omega),d (show 0<=n/ 256/ 256/ 256/ 256 by omega),d (show 0<=n/ 256/ 256/ 256/ 256/ 256 by omega),
  d (show 0<=n/ 256/ 256/ 256/ 256/ 256/ 256 by omega),xbqf h,xbqf (show 0<=n/ 256 by omega),xbqf (show 0<=n/ 256/ 256 by omega),xbqf (show 0<=n/ 256/ 256/ 256 by omega),xbqf (show 0<=n/ 256/ 256/ 256/ 256 by omega),
  xbqf (show 0<=n/ 256/ 256/ 256/ 256/ 256 by omega),xbqf (show 0<=n/ 256/ 256/ 256/ 256/ 256/ 256 by omega),xbqf (show 0<=n/ 256/ 256/ 256/ 256/ 256/ 256/ 256 by omega)]
 rw[show n/ 256/ 256=n/ 65536 by omega,show n/ 65536/ 256=n/ 16777216 by omega,show n/ 16777216/ 256=n/ 4294967296 by omega,show n/ 4294967296/ 256=n/ 1099511627776 by omega,
  show n/ 1099511627776/ 256=n/ 281474976710656 by omega,show n/ 281474976710656/ 256=n/ 72057594037927936 by omega]
def xbd9{l:LI}(h: ∀x∈l,0<=x/\x<=255)(h8:l.length<=8):qad l=true:=qbt (by omega) h
def xb4q(n:Int): ∀x∈vBe n,0<=x/\x<=255:=by unfold vBe vLeC;rw[qab];intro x hx;rw[List.mem_reverse] at hx;simp only[zaw,zcx,or_false] at hx;rcases hx with rfl|rfl|rfl|rfl|rfl|rfl|rfl|rfl<;>omega
def xbjc(n:Int):(vBe n).length=8:=by unfold vBe;rw[qab];rfl
def xbi9(a b:Int)(r:LI):q6s (a::b::r)=if(a=0/\b<128)\/(a=255/\128<=b) then q6s (b::r) else a::b::r:=by
 conv=>lhs;unfold q6s
abbrev xbnp:LI->OO:=fun y=>zR [.cl (.agg [.int .i64 2,.sli .u8 y,.slg 3 []])] []
def xbqi: ∀(f:Nat) (l:LI),l.length<f->qtw xbnp f l=xbnp (q6s l)
 | 0,l,h=>by omega
 | f+1,l,h=>by
  show qzc (qtw xbnp f) xbnp l=_;unfold qzc
  match l,h with
  | [],_=>exact qca (by simp) rfl
  | [a],_=>exact qca (by simp) rfl
  | a::b::r,h=>
   have again:=xbqi f (b::r) (by simp only[zac] at h ⊢;omega);generalize qtw xbnp f=ag at again ⊢;have l1:(1:Int)<(((a::b::r).length:Nat):Int):=by simp only[zac];omega
   rw[xbi9];refine qaq l1 (qaq (by omega) ?_);show cond (decide (a=0)) _ _=_;refine qae (fun h0=>qaq l1 ?_) fun h0=>qaq (by omega) ?_
   ·show cond (decide (b<128)) _ _=_;refine qae (fun h1=>qaq (by omega) ?_) fun h1=>qaq (by omega) ?_
    ·rw[yc (.inl ⟨h0,h1⟩)];exact again
    ·show cond (decide (a=255)) _ _=_;rw[yb (by omega)];exact qca (by omega) rfl
   ·show cond (decide (a=255)) _ _=_;refine qae (fun h1=>qaq l1 ?_) fun h1=> ?_
    ·show cond (decide (128<=b)) _ _=_;refine qae (fun h2=>qaq (by omega) ?_) fun h2=> ?_
     ·rw[yc (.inr ⟨h1,h2⟩)];exact again
     ·rw[yb (by omega)]
    ·rw[yb (by omega)]
def xb45(n:Int):u64.wrap n=n % 18446744073709551616:=by simp[IntKind.wrap,IntKind.bits,IntKind.signed]
def xbqe(n:Int):vInt n=q6s (vBe (n % 18446744073709551616)):=by unfold vInt xb4r vBe;rw[qab,qab]
def xcat(n:Int)(hp:q6m n=true):xb9b n=zR [.cl (.agg [.int .i64 2,.sli .u8 (vInt n),.slg 3 qcg])] []:=by unfold xb9b;rw[xb45];refine qam (xbqj (by omega)) ?_;simp only[qab];rw[xbqe];unfold qcg;rw[qab];exact xbqi FUEL _ (by rw[xbjc];unfold FUEL;omega)
def xbha{a b:Int}{r:LI}(ha:0<=a/\a<=255)(hb:0<=b/\b<=255):(qbj 2 (a::b::r)=false)↔((a=0/\b<128)\/(a=255/\128<=b)):=by unfold qbj;rw[yb (by decide),yc rfl];unfold qdt;simp;omega
def xbjh: ∀(f:Nat) (l:LI),l.length<f->(∀x∈l,0<=x/\x<=255)->l.length<=8->qrm xbnp f l=xbnp (q6s l)
 | 0,l,h,_,_=>by omega
 | f+1,l,h,hb,h8=>by
  show qtx (qrm xbnp f) xbnp l=_;unfold qtx
  match l,h with
  | [],_=>exact qca (by simp) rfl
  | [a],_=>exact qca (by simp) rfl
  | a::b::r,h=>
   have again:=xbjh f (b::r) (by simp only[zac] at h ⊢;omega) (fun x hx=>hb x (za8 _ hx)) (by simp only[zac] at h8 ⊢;omega);have l1:(1:Int)<(((a::b::r).length:Nat):Int):=by simp only[zac];omega
   have key:=xbha (r:=r) (hb a (by simp)) (hb b (by simp));refine qaq l1 (qam (xbd9 hb h8) ?_);dsimp only;unfold qdn;rw[qab,xbi9]
   cases hd:qbj 2 (a::b::r) with
   | false=>rw[yc (key.1 hd)];exact qaq (by omega) again
   | true=>rw[yb (fun h=>by rw[key.2 h] at hd;cases hd)];rfl
def xb70(n:Int)(hp:q6m n=true):xbzf n=zR [.cl (.agg [.int .i64 2,.sli .u8 (vInt n),.slg 3 qcg])] []:=by unfold xbzf;rw[xb45];refine qam (xbqj (by omega)) ?_;simp only[qab];rw[xbqe];unfold qcg;rw[qab];exact xbjh FUEL _ (by rw[xbjc];unfold FUEL;omega) (xb4q _) (by rw[xbjc];omega)
open IntWalk (i64_in u8_in u32_in u64_in i64_quo u8_quo rem_in)
def xb9w(n:Int):i64.wrap n=if 9223372036854775808<=n % 18446744073709551616 then n % 18446744073709551616 - 18446744073709551616 else n % 18446744073709551616:=by simp[IntKind.wrap,IntKind.bits,IntKind.signed]
def qzn(h:Int)(r:LI):qar (h::r)=h*256 ^ r.length+qar r:=by
 unfold qar;have key: ∀(r:LI) (a:Int),r.foldl (fun n x=>n*256+x) a=a*256 ^ r.length+r.foldl (fun n x=>n*256+x) 0:=by
  intro r
  induction r with
  | nil=>intro a;simp
  | cons x r ih=>
   intro a;rw[zbm,zbm,show(0:Int)*256+x=x by omega,ih,ih x,zac,zc3];generalize (256:Int) ^ r.length=z;generalize r.foldl (fun n x=>n*256+x) 0=y;rw[Int.add_mul,Int.mul_assoc,zdt 256 z];omega
 rw[zbm,key];simp
def qt6{b:LI}(hb: ∀x∈b,0<=x/\x<=255){L:Nat}(hL:b.length=L+1):0<=qar b/\qar b<256*256 ^ L/\(128<=b.headD 0↔128*256 ^ L<=qar b):=by
 cases b with
 | nil=>simp at hL
 | cons h r=>
  have h1:=hb h (by simp);have h2:=qsy (b:=r) fun x hx=>hb x (za8 _ hx);have hr:r.length=L:=by simpa using hL
  rw[qzn,hr];rw[hr] at h2;have hp:(0:Int)<256 ^ L:=Int.pow_pos (by decide);simp only[zba];generalize (256:Int) ^ L=z at*;generalize qar r=y at*;have m1:h*z<=255*z:=zcc h1.2 (by omega);have m0:0<=h*z:=Int.mul_nonneg h1.1 (by omega);refine⟨by omega,by omega,fun hh=> ?_,fun hh=> ?_⟩
  ·have:128*z<=h*z:=zcc hh (by omega);omega
  ·by_cases hc:128<=h
   ·exact hc
   ·have:h*z<=127*z:=zcc (by omega) (by omega);omega
def xb4o(b:LI)(hb: ∀x∈b,0<=x/\x<=255)(hl:b.length<=8):Int.fdiv (i64.wrap (u64.wrap (qar b*2 ^ (64 - 8*b.length)))) (2 ^ (64 - 8*b.length))=xbjz b:=by
 unfold xbjz;by_cases h0:b=[]
 ·subst h0;simp[qar,xb45,xb9w]
 obtain⟨L,hL⟩: ∃L,b.length=L+1:=⟨b.length - 1,by have:=List.length_pos_iff.2 h0;omega⟩;obtain⟨h1,h2,h3⟩:=qt6 hb hL;rw[hL] at hl ⊢;generalize qar b=u at*;have key: ∀(p q:Int),0<p->p*q=9223372036854775808->u<2*q->(128<=b.headD 0↔q<=u)->Int.fdiv (i64.wrap (u64.wrap (u*p))) p=if 128<=b.headD 0 then u - 2*q else u:=fun p q hp hpq hu hh=>by
  have hm:u*p<2*(p*q):=by have:u*p<2*q*p:=Int.mul_lt_mul_of_pos_right hu hp;rw[Int.mul_assoc,zdt q p] at this;exact this
  have h00:0<=u*p:=Int.mul_nonneg h1 (by omega);rw[xb45,Int.emod_eq_of_lt h00 (by omega),xb9w,Int.emod_eq_of_lt h00 (by omega)];by_cases hc:q<=u
  ·have hge:p*q<=u*p:=by rw[zdt p q];exact zcc hc (by omega)
   rw[yc (by omega),yc (hh.2 hc),show u*p - 18446744073709551616=(u - 2*q)*p by rw[Int.sub_mul,Int.mul_assoc,zdt q p];omega,zbk _ (by omega),Int.mul_ediv_cancel _ (by omega)]
  ·have hlt:u*p<p*q:=by rw[zdt p q];exact Int.mul_lt_mul_of_pos_right (by omega) hp
   rw[yb (by omega),yb (fun h=>hc (hh.1 h)),zbk _ (by omega),Int.mul_ediv_cancel _ (by omega)]
 have hLe:L=0\/L=1\/L=2\/L=3\/L=4\/L=5\/L=6\/L=7:=by omega
 rcases hLe with rfl|rfl|rfl|rfl|rfl|rfl|rfl|rfl
 ·exact key 72057594037927936 128 (by decide) (by decide) (by omega) (by omega)
 ·exact key 281474976710656 32768 (by decide) (by decide) (by omega) (by omega)
 ·exact key 1099511627776 8388608 (by decide) (by decide) (by omega) (by omega)
 ·exact key 4294967296 2147483648 (by decide) (by decide) (by omega) (by omega)
 ·exact key 16777216 549755813888 (by decide) (by decide) (by omega) (by omega)
 ·exact key 65536 140737488355328 (by decide) (by decide) (by omega) (by omega)
 ·exact key 256 36028797018963968 (by decide) (by decide) (by omega) (by omega)
 ·exact key 1 9223372036854775808 (by decide) (by decide) (by omega) (by omega)
def xb2h{a b c d:Int}(h1:a=c)(h2:b=d):zR [.cl (.int .i64 a),.cl (.int .i64 b)] []=zR [.cl (.int .i64 c),.cl (.int .i64 d)] []:=by rw[h1,h2]
def xbux(b:LI)(hp:qad b=true):xbfu b=zR [.cl (.int .i64 (qqx b).1),.cl (.int .i64 (qqx b).2)] []:=by
 obtain⟨hlen,hb⟩:=qak hp;unfold xbfu qqx qp8;rw[qab];refine qae (fun h=> ?_) fun h=> ?_
 ·rw[yc (by omega)]
 ·rw[yb (by omega)];have e1:i64.wrap ((8:Int)*(b.length:Int))=((8*b.length:Nat):Int):=(i64_in _ (by omega)).trans (by omega);have e2:i64.wrap ((64:Int) - ((8*b.length:Nat):Int))=((64 - 8*b.length:Nat):Int):=(i64_in _ (by omega)).trans (by omega);dsimp only;rw[e1,e2];refine qam (xb1p (by omega) hb) (qca (by omega) (qca (by omega) (xb2h ?_ rfl)));rw[show min ((64 - 8*b.length:Nat):Int).toNat 64=64 - 8*b.length by omega];unfold qhy;rw[qab];exact xb4o b hb (by omega)
open IntWalk (i64_in u8_in u32_in u64_in i64_quo u8_quo rem_in)
def xbpb{g:Int}{b:LI}(hb: ∀x∈b,0<=x/\x<=255):isTf 1 [.int .i64 g,.sli .u8 b,.slg 3 []]=true:=by show(b.all xbkd&&true)=true;rw[Bool.and_true,zai];exact fun x hx=>yf (hb x hx)
def xbgd{g:Int}{b:LI}(hb: ∀x∈b,0<=x/\x<=255)(hl:b.length<=29999):isS [.int .i64 g,.sli .u8 b,.slg 3 []]=true:=
 xbax (xbpb hb) (by unfold qee;simp;omega)
def xbgc{g:Int}{b:LI}(hb: ∀x∈b,0<=x/\x<=255)(hg:qav g=false):qrr [.int .i64 g,.sli .u8 b,.slg 3 []]=(qbg g&&qbj g b):=by rw[qzi (xbpb hb)];unfold okF qah;simp[hg]
def qjh{t:Int}{b:LI}{k:LC}(h:isS [.int .i64 t,.sli .u8 b,.slg 3 k]=true):b.length<=29999/\∀x∈b,0<=x/\x<=255:=by obtain⟨n,hn,hB⟩:=qc8 h;obtain⟨m,t',b',l',rfl,e,hb,_⟩:=qdi hn;cases e;refine⟨?_,hb⟩;change 1+b.length+_<=30000 at hB;omega
def q74{t:Int}{b:LI}{k:LC}(h:isS [.int .i64 t,.sli .u8 b,.slg 3 k]=true):qad b=true:=qbt (by have:=(qjh h).1;omega) (qjh h).2
def xbw1{g t:Int}{b:LI}{k:LC}(h:t=g)(hk:k.length=0)(hd:qbj g b=false):qr2 g t b k=5:=by unfold qr2;rw[yb (by simp[h]),yc (.inr hd)]
def qw0{g t:Int}{b:LI}{k:LC}(h:t=g)(hk:k.length=0)(hd:qbj g b=true):qr2 g t b k=0:=by unfold qr2;rw[yb (by simp[h]),yb (by simp[hk,hd])]
def xbjd{g t:Int}{b:LI}{k:LC}(h: ¬t=g):qr2 g t b k=4:=by unfold qr2;rw[yc h]
def q9s{g t:Int}{b:LI}{k:LC}(h:t=g)(hk:0<k.length):qr2 g t b k=5:=by unfold qr2;rw[yb (by simp[h]),yc (.inl (by omega))]
def quz{g t:Int}{b:LI}{k:LC}(h:qr2 g t b k=0):t=g/\k.length=0/\qbj g b=true:=by
 unfold qr2 at h;split at h
 ·omega
 ·split at h
  ·omega
  ·rename_i h1 h2;refine⟨by omega,by omega, ?_⟩
   cases hd:qbj g b with
   | true=>rfl
   | false=>exact absurd (.inr hd) h2
def xbqc{g t:Int}{b:LI}{k:LC}{bad:Int->OO}{good:OO}(hS:isS [.int .i64 t,.sli .u8 b,.slg 3 k]=true)(hk:qbg g=true)(hb:qav g=false):
  cond (!decide (t=g)) (bad 4) (cond (decide ((0:Int)<(k.length:Int))) (bad 5) (cond (isS [.int .i64 g,.sli .u8 b,.slg 3 []]) (cond (!(qrr [.int .i64 g,.sli .u8 b,.slg 3 []])) (bad 5) good) none))=if qr2 g t b k=0 then good else bad (qr2 g t b k):=by
 obtain⟨h1,h2⟩:=qjh hS;refine qa0 (fun h=> ?_) fun h=>qae (fun h'=> ?_) fun h'=>qam (xbgd h2 h1) ?_
 ·rw[xbjd h];rfl
 ·rw[q9s h (by omega)];rfl
 ·rw[xbgc h2 hb,hk,zbs]
  cases hd:qbj g b with
  | false=>rw[xbw1 h (by omega) hd];rfl
  | true=>rw[qw0 h (by omega) hd];rfl
def xbl5(t:Int)(b:LI)(k:LC)(hp:isS [.int .i64 t,.sli .u8 b,.slg 3 k]=true):q7x t b k=zR [.cl (.int .i64 (qb6 t b k).1),.cl (.int .i64 (qb6 t b k).2)] []:=by
 unfold q7x;dsimp only;refine(xbqc (bad:=fun e=>zR [.cl (.int .i64 0),.cl (.int .i64 e)] []) hp rfl rfl).trans ?_;unfold qb6;rw[qab];by_cases h:qr2 2 t b k=0
 ·rw[yc h,yc h];refine qam (q74 hp) ?_;unfold qqx;rw[qab]
 ·rw[yb h,yb h]
def xb1k(t:Int)(b:LI)(k:LC)(hp:isS [.int .i64 t,.sli .u8 b,.slg 3 k]=true):xbox t b k=zR [.cl (.sli .u32 (qgp t b k).1),.cl (.int .i64 (qgp t b k).2)] []:=by
 unfold xbox;dsimp only;refine(xbqc (bad:=fun e=>zR [.cl (.sli .u32 []),.cl (.int .i64 e)] []) hp rfl rfl).trans ?_;unfold qgp;rw[qab];by_cases h:qr2 6 t b k=0
 ·rw[yc h,yc h];exact qam (q74 hp) rfl
 ·rw[yb h,yb h]
def xb1i(t:Int)(b:LI)(k:LC)(hp:isS [.int .i64 t,.sli .u8 b,.slg 3 k]=true):xbza t b k=zR [.cl (.int .i64 (qb6 t b k).1),.cl (.int .i64 (qb6 t b k).2)] []:=qam hp rfl
def xb7v(t:Int)(b:LI)(k:LC)(hp:isS [.int .i64 t,.sli .u8 b,.slg 3 k]=true):xb58 t b k=zR [.cl (.sli .u32 (qgp t b k).1),.cl (.int .i64 (qgp t b k).2)] []:=qam hp rfl
def fits4(b:LI):qbj 4 b=true:=rfl
def xbl3(t:Int)(b:LI)(k:LC)(hp:isS [.int .i64 t,.sli .u8 b,.slg 3 k]=true):q7w t b k=zR [.cl (.sli .u8 (qa2 t b k).1),.cl (.int .i64 (qa2 t b k).2)] []:=by
 unfold q7w qa2;rw[qab];refine qa0 (fun h=> ?_) fun h=>qae (fun h'=> ?_) fun h'=>qam (qku (by have:=(qjh hp).1;omega)) ?_
 ·rw[xbjd h];rfl
 ·rw[q9s h (by omega)];rfl
 ·rw[qw0 h (by omega) (fits4 b)];rfl
open IntWalk (i64_in u8_in u32_in u64_in i64_quo u8_quo rem_in)
abbrev W3(c:CV):Prop:= ∃t b k,c=.agg [.int .i64 t,.sli .u8 b,.slg 3 k]/\isS [.int .i64 t,.sli .u8 b,.slg 3 k]=true
open IntWalk (i64_in u8_in u32_in u64_in i64_quo u8_quo rem_in)
def qcf:qcg=[]:=qab _
def xb4s:vInt 1=[1]:=by unfold vInt;rw[qab];rfl
open IntWalk (i64_in u8_in u32_in u64_in i64_quo u8_quo rem_in)
def qv2{g:Int}{b:LI}(h:qty g b=true):(g=12\/g=6\/g=24)/\b.length<=2000/\∀x∈b,0<=x/\x<=255:=by unfold qty at h;rw[qab,zab,yd,zai] at h;exact⟨h.1.1,h.1.2,fun x hx=>qkj (h.2 x hx)⟩
def xblk{g:Int}{b:LI}(h:g=12\/g=6\/g=24)(h':b.length<=2000)(hb: ∀x∈b,0<=x/\x<=255):qty g b=true:=by unfold qty;rw[qab,zab,yd,zai];exact⟨⟨h,h'⟩,fun x hx=>yf (hb x hx)⟩
def q6v{g:Int}{b:LI}(h:qbj g b=true):qgq g b=(g,b,0):=by unfold qgq xbno;rw[qab,yc h]
def xbjf{g:Int}{b:LI}(h:qbj g b=false):qgq g b=(0,[],5):=by unfold qgq xbno;rw[qab,yb (by rw[h];simp)]
def xb7x(g:Int)(b:LI)(hp:qty g b=true):xbzc g b=zR [.cl (.agg [.int .i64 (qgq g b).1,.sli .u8 (qgq g b).2.1,.slg 3 qcg]),.cl (.int .i64 (qgq g b).2.2)] []:=by
 obtain⟨hg,hl,hb⟩:=qv2 hp;have hk:qbg g=true/\qav g=false:=by rcases hg with rfl|rfl|rfl<;>exact⟨rfl,rfl⟩
 unfold xbzc;refine qam (xbgd hb (by omega)) ?_;rw[xbgc hb hk.2,hk.1,zbs,qcf]
 cases hd:qbj g b with
 | false=>rw[xbjf hd];rfl
 | true=>rw[q6v hd];rfl
def xb1j(g:Int)(b:LI)(hp:qty g b=true):xbow g b=zR [.cl (.agg [.int .i64 (qgq g b).1,.sli .u8 (qgq g b).2.1,.slg 3 qcg]),.cl (.int .i64 (qgq g b).2.2)] []:=by
 obtain⟨hg,hl,hb⟩:=qv2 hp;unfold xbow qdn;rw[qab,qcf];refine qam (qbt (by omega) hb) ?_
 cases hd:qbj g b with
 | false=>rw[xbjf hd];rfl
 | true=>rw[q6v hd];rfl
def q72{o:LI}(h:idOk o=true):o.length<=50/\∀n∈o,inU n:=by unfold idOk at h;rw[qab,zab,yd,zai] at h;exact⟨h.1,fun x hx=>ye (h.2 x hx)⟩
def q71{o:LI}(h:o.length<=50)(h': ∀n∈o,inU n):idOk o=true:=by unfold idOk;rw[qab,zab,yd,zai];exact⟨h,fun x hx=>yf (h' x hx)⟩
def xbzj{o:LI}(h:idOk o=true):qvm o=true:=by obtain⟨h1,h2⟩:=q72 h;unfold qvm;rw[qab,zab,yd,zai];exact⟨by omega,fun x hx=>yf (h2 x hx)⟩
def xbsl{o:LI}(h:qbx o=true):2<=o.length/\o.length<=20:=by
 unfold qbx at h;split at h
 ·simp at h;simp;omega
 ·cases h
def xbl9{o:LI}(hr: ∀n∈o,inU n):(qay o).length<=2000/\∀x∈qay o,0<=x/\x<=255:=by
 rw[show qay o=qco o from qab _];by_cases h:qbx o=true
 ·rw[qll h];have hl:=q8z h;have hf:=xbsl h;have hg: ∀(l:LI),(l.flatMap qaw).length<=6*l.length:=fun l=>by
   induction l with
   | nil=>simp
   | cons a l ih=>have:=xbat a;simp at*;omega
  have:=hg (oflat o);refine⟨by omega,fun x hx=> ?_⟩;obtain⟨n,hn,hx⟩:=zb1.1 hx;exact xbo2 (qzo h hr n hn) x hx
 ·unfold qco;rw[yb h];exact⟨by simp,by simp⟩
def xbo5{o:LI}(h:idOk o=true):qty 6 (qay o)=true:=
 let ⟨h1,h2⟩:=xbl9 (q72 h).2
 xblk (.inr (.inl rfl)) h1 h2
def nVId(o:LI)(hp:idOk o=true):gVId o=zR [.cl (.agg [.int .i64 (qgq 6 (qay o)).1,.sli .u8 (qgq 6 (qay o)).2.1,.slg 3 qcg]),.cl (.int .i64 (qgq 6 (qay o)).2.2)] []:=qam (xbzj hp) (qam (xbo5 hp) rfl)
def xcau(o:LI)(hp:idOk o=true):xb95 o=zR [.cl (.agg [.int .i64 (qgq 6 (qay o)).1,.sli .u8 (qgq 6 (qay o)).2.1,.slg 3 qcg]),.cl (.int .i64 (qgq 6 (qay o)).2.2)] []:=qam (xbzj hp) (qam (xbo5 hp) rfl)
def xb1g(b:LI)(hp:qdu b=true):xby9 b=zR [.cl (.agg [.int .i64 4,.sli .u8 b,.slg 3 qcg])] []:=by rw[qcf];exact qam hp rfl
def xbuy(b:LI)(hp:qdu b=true):xbs6 b=zR [.cl (.agg [.int .i64 4,.sli .u8 b,.slg 3 qcg])] []:=by rw[qcf];rfl
def q3r: ∀(l:LI),(q6s l).length<=l.length/\∀x∈q6s l,x∈l
 | []=>⟨zap _,fun x h=>h⟩
 | [a]=>⟨zap _,fun x h=>h⟩
 | a::b::r=>by
  unfold q6s;split
  ·obtain⟨h1,h2⟩:=q3r (b::r);exact⟨by simp only[zac] at*;omega,fun x hx=>za8 _ (h2 x hx)⟩
  ·exact⟨zap _,fun x h=>h⟩
def xbk9(n:Int):(vInt n).length<=8/\∀x∈vInt n,0<=x/\x<=255:=by unfold vInt xb4r;rw[qab];obtain⟨h1,h2⟩:=q3r (vLeC (n % 18446744073709551616)).reverse;refine⟨by rw[List.length_reverse] at h1;exact h1,fun x hx=> ?_⟩;have:=List.mem_reverse.1 (h2 x hx);unfold vLeC at this;simp only[zaw,zcx,or_false] at this;omega
open IntWalk (i64_in u8_in u32_in u64_in i64_quo u8_quo rem_in)
def xba2{l:LC}(h:qbw l=true):l.length<=100000000:=by unfold qbw at h;rw[qab] at h;exact ye h
def qnx{l:LC}(h:l.length<=100000000):qbw l=true:=by unfold qbw;rw[qab];exact yf h
def qbq:qa6=[]:=qab _
def xb1h(l:LC)(hp:qbw l=true):xbov l=zR [.cl (.slg 3 l)] []:=by
 have hp:=xba2 hp;unfold xbov;simp only[za9];refine qc5 (fun h=> ?_) fun h=> ?_
 ·have h:=zaj (qag.1 h);subst h;unfold xbr4;rw[yc (Eq.symm (qvi (by simp) (by simp) rfl))]
 ·exact qvi (by omega) (by omega) rfl
def xcav(l:LC)(hp:qbw l=true):xb96 l=zR [.cl (.agg [.int .i64 48,.sli .u8 qa6,.slg 3 l])] []:=by rw[qbq];exact qam hp rfl
def xb71(l:LC)(hp:qbw l=true):xb59 l=zR [.cl (.agg [.int .i64 48,.sli .u8 qa6,.slg 3 l])] []:=by rw[qbq];rfl
def q9r{g:Int}{l:LC}(h:0<=g/\g<=30):vBox g l=(160+g,l,0):=by unfold vBox xb8v;rw[qab,yc h]
def q9q{g:Int}{l:LC}(h: ¬(0<=g/\g<=30)):vBox g l=(0,[],8):=by unfold vBox xb8v;rw[qab,yb h]
def xcas(g:Int)(l:LC)(hp:qbw l=true):xb9a g l=zR [.cl (.agg [.int .i64 (vBox g l).1,.sli .u8 qa6,.slg 3 (vBox g l).2.1]),.cl (.int .i64 (vBox g l).2.2)] []:=by
 unfold xb9a;rw[qbq];refine qae (fun h=> ?_) fun h=>qae (fun h'=> ?_) fun h'=> ?_
 ·rw[q9q (by omega)]
 ·rw[q9q (by omega)]
 ·rw[q9r (by omega),show i64.wrap ((160:Int)+g)=160+g from i64_in _ (by omega)];exact qam hp rfl
def xb7z(g:Int)(l:LC)(hp:qbw l=true):xbze g l=zR [.cl (.agg [.int .i64 (vBox g l).1,.sli .u8 qa6,.slg 3 (vBox g l).2.1]),.cl (.int .i64 (vBox g l).2.2)] []:=by
 unfold xbze;rw[qbq];refine qae (fun h=> ?_) fun h=>qae (fun h'=> ?_) fun h'=> ?_
 ·rw[q9q (by omega)]
 ·rw[q9q (by omega)]
 ·rw[q9r (by omega),show i64.wrap ((160:Int)+g)=160+g from i64_in _ (by omega)]
def qr3{g t:Int}{b:LI}{k:LC}(h: ¬t=g):qb0 g t b k=([],4):=by unfold qb0 q6t;rw[qab,yc (.inl h)]
def q9t{g t:Int}{b:LI}{k:LC}(h:qav g=false):qb0 g t b k=([],4):=by unfold qb0 q6t;rw[qab,yc (.inr h)]
def xbje{g t:Int}{b:LI}{k:LC}(h:t=g)(hb:qav g=true)(hl:b.length≠0):qb0 g t b k=([],5):=by unfold qb0 q6t;rw[qab,yb (by rw[hb];rintro(e|e);exact e h;cases e),yc hl]
def q3s{g t:Int}{b:LI}{k:LC}(h:t=g)(hb:qav g=true)(hl: ¬b.length≠0):qb0 g t b k=(k,0):=by unfold qb0 q6t;rw[qab,yb (by rw[hb];rintro(e|e);exact e h;cases e),yb hl]
def xbzs{g t:Int}{b:LI}{k:LC}{bad:Int->OO}{good:OO}:
  cond (!decide (t=g)) (bad 4) (cond (!qbn g) (bad 4) (cond (decide ((0:Int)<(b.length:Int))) (bad 5) good))=if(qb0 g t b k).2=0 then good else bad (qb0 g t b k).2:=by
 unfold qbn;rw[qab];refine qa0 (fun h=> ?_) fun h=> ?_
 ·rw[qr3 h];rfl
 ·cases hb:qav g with
  | false=>rw[q9t hb];rfl
  | true=>
   refine(qae (fun h'=> ?_) fun h'=> ?_:cond (decide ((0:Int)<(b.length:Int))) (bad 5) good=_)
   ·rw[xbje h hb (by omega)];rfl
   ·rw[q3s h hb (by omega)];rfl
def qfg{g t:Int}{b:LI}{k:LC}(h:(qb0 g t b k).2=0):(qb0 g t b k).1=k:=by
 unfold qb0 q6t at h ⊢;simp only[qab] at h ⊢;split at h
 ·simp at h
 ·split at h
  ·simp at h
  ·rename_i h1 h2;rw[yb h1,yb h2]
def q6u{g t:Int}{b:LI}{k:LC}(h: ¬(qb0 g t b k).2=0):(qb0 g t b k).1=[]:=by
 unfold qb0 q6t at h ⊢;simp only[qab] at h ⊢;split
 ·rfl
 ·split
  ·rfl
  ·rename_i h1 h2;rw[yb h1,yb h2] at h;simp at h
def xb7w(t:Int)(b:LI)(k:LC)(g:Int)(hp:qbw k=true):xbzb t b k g=zR [.cl (.slg 3 (qb0 g t b k).1),.cl (.int .i64 (qb0 g t b k).2)] []:=by
 unfold xbzb;refine(xbzs (k:=k) (bad:=fun e=>zR [.cl (.slg 3 []),.cl (.int .i64 e)] [])).trans ?_;by_cases h:(qb0 g t b k).2=0
 ·rw[yc h,qfg h,h];exact qam hp rfl
 ·rw[yb h,q6u h]
def qid{α:Type}{l:List α}{i:Nat}{x:α}(h:l[i]? =some x):l.drop i=x::l.drop (i+1):=by obtain⟨hi,e⟩:=zae.1 h;rw[zb0 hi,e]
open IntWalk (i64_in u8_in u32_in u64_in i64_quo u8_quo rem_in)
def xbtf{t:Int}{b:LI}{k:LC}(h:isN [.int .i64 t,.sli .u8 b,.slg 3 k]=true):k.length<=100000000/\∀c∈k, ∃y,c=.agg y/\isN y=true:=by obtain⟨n,hn⟩:=xbtc h;obtain⟨_,_,_,_,_,e,h1,h2,h3⟩:=xb75 hn;cases e;exact⟨h2,fun c hc=>by obtain⟨y,e,hy⟩:=h3 c hc;exact⟨y,e,xbzo hy⟩⟩
open IntWalk (i64_in u8_in u32_in u64_in i64_quo u8_quo rem_in)
def xbi8: ∀ {l:LI},l≠[]->qdt (q6s l)=true
 | [],h=>absurd rfl h
 | [a],_=>rfl
 | a::b::r,_=>by
  unfold q6s;split
  ·exact xbi8 (by simp)
  ·rename_i h;show(!(decide (a=0/\b<128))&& !(decide (a=255/\128<=b)))=true;rw[decide_eq_false (fun e=>h (.inl e)),decide_eq_false (fun e=>h (.inr e))];rfl
def xb4j: ∀ {k m:Nat} {y:LC},isTf k y=true->k<=m->isTf m y=true
 | k,m,y,hy,hkm=>by obtain⟨k',t,b,l,rfl,rfl,hb,hl⟩:=qdi hy;obtain⟨m,rfl⟩: ∃q,m=q+1:=⟨m - 1,by omega⟩;refine xb43 hb fun c hc=> ?_;obtain⟨z,rfl,hz⟩:=hl c hc;exact⟨z,rfl,xb4j hz (by omega)⟩
open IntWalk (i64_in u8_in u32_in u64_in i64_quo u8_quo rem_in)
def qmf(b:Int)(r:LI):xbjz (b::r)=if 128<=b then qar (b::r) - 256 ^ (r.length+1) else qar (b::r):=rfl
def q9p: ∀ {l:LI},l≠[]->xbjz (q6s l)=xbjz l
 | [],h=>absurd rfl h
 | [a],_=>rfl
 | a::b::r,_=>by
  unfold q6s;split
  ·rename_i h;rw[q9p (by simp),qmf,qmf,qzn a (b::r)];simp only[zac];have hp:(256:Int) ^ (r.length+1+1)=256 ^ (r.length+1)*256:=zc3 ..;rw[hp];generalize (256:Int) ^ (r.length+1)=z;generalize qar (b::r)=y;rcases h with⟨rfl,hb⟩|⟨rfl,hb⟩
   ·rw[yb (by omega),yb (by omega)];omega
   ·rw[yc hb,yc (by omega)];omega
  ·rfl
def xb77{m:Int}(h:0<=m/\m<18446744073709551616):qar (vLeC m).reverse=m:=by
 have e1:m/ 65536=m/ 256/ 256:=by omega
 have e2:m/ 16777216=m/ 256/ 256/ 256:=by omega
 have e3:m/ 4294967296=m/ 256/ 256/ 256/ 256:=by omega
 have e4:m/ 1099511627776=m/ 256/ 256/ 256/ 256/ 256:=by omega
 have e5:m/ 281474976710656=m/ 256/ 256/ 256/ 256/ 256/ 256:=by omega
 have e6:m/ 72057594037927936=m/ 256/ 256/ 256/ 256/ 256/ 256/ 256:=by omega
 unfold vLeC;rw[e1,e2,e3,e4,e5,e6];show((((((((0*256+_)*256+_)*256+_)*256+_)*256+_)*256+_)*256+_)*256+_:Int)=m;clear e1 e2 e3 e4 e5 e6;omega
def xbtb{n:Int}(h:q6m n=true):xbjz (vInt n)=n:=by
 have h: -9223372036854775808<=n/\n<=9223372036854775807:=ye h;unfold vInt xb4r;rw[qab,q9p (by simp[vLeC])];have hm:0<=n % 18446744073709551616/\n % 18446744073709551616<18446744073709551616:=by omega
 unfold xbjz;rw[xb77 hm];show(if 128<=n % 18446744073709551616/ 72057594037927936 % 256 then n % 18446744073709551616 - 256 ^ 8 else n % 18446744073709551616)=n;rw[show(256:Int) ^ 8=18446744073709551616 from by decide];split<;>omega
def xbsn(n:Int):qbj 2 (vInt n)=true:=by show qdt (vInt n)=true;unfold vInt xb4r;rw[qab];exact xbi8 (by simp[vLeC])
def xbf4{n:Int}(h:q6m n=true):qb6 2 (vInt n) qcg=(n,0):=by unfold qb6;rw[qab,yc (qw0 rfl (by rw[qcf];rfl) (xbsn n))];unfold qp8;rw[yb (by have:=(xbk9 n).1;omega),xbtb h]
def xbd4(b:LI):qa2 4 b qcg=(b,0):=by unfold qa2;rw[qab,yc (qw0 rfl (by rw[qcf];rfl) (fits4 b))]
def xblh(l:LC):qb0 48 48 qa6 l=(l,0):=q3s rfl rfl (by rw[qbq];simp)
open IntWalk (i64_in u8_in u32_in u64_in i64_quo u8_quo rem_in)
def xbf3{P:Int->Prop}{lo:Int}{m:Nat}(h: ∀n:Nat,n<m->P ((n:Int)+lo)){g:Int}(h1:lo<=g)(h2:g<lo+m):P g:=by have:=h (g - lo).toNat (by omega);rwa [show(((g - lo).toNat:Nat):Int)+lo=g by omega] at this
def qyp: ∀e∈qcx,(1<=e.1/\e.1<=93)/\(e.2.2.length<=10/\∀x∈e.2.2,0<=x/\x<=4294967295):=by decide+kernel
def qyu{g:Int}(h: ¬(1<=g/\g<=93)):qaf g=(0,0,[]):=by
 unfold qaf;rw[List.find?_eq_none.2 fun e he=> ?_]
 ·rfl
 ·have:=(qyp e he).1;simp;omega
def qyt(g:Int):qaf g=(0,0,[])\/(qaf g∈qcx/\(qaf g).1=g):=by
 unfold qaf
 cases h:qcx.find? fun e=>decide (e.1=g) with
 | none=>exact .inl rfl
 | some e=>exact .inr ⟨List.mem_of_find?_eq_some h,by have:=List.find?_some h;simpa using this⟩
def qpj(g:Int):(qaf g).2.2.length<=10/\∀x∈(qaf g).2.2,inU x:=by
 rcases qyt g with h|h
 ·rw[h];exact⟨by simp,by simp⟩
 ·exact(qyp _ h.1).2
def qjf(g:Int):qa1 g=qaf g:=qab _
abbrev rowE(e:Int×Int×LI):LC:=[.agg [.int .i64 e.1,.int .i64 e.2.1,.sli .u32 e.2.2]]
def q9e:qqa=qcx.map rowE:=qab _
def xbpx:List.all qqa qog=true:=by rw[q9e];kernel_rfl
def xbt0(hp:true=true):xbsq=zR [.ref 0 0 8 true 1] [some ⟨.ints .u32 [2,16,840,1,101,3,4,2],false⟩]:=rfl
def xbt1(hp:true=true):xbsr=zR [.ref 0 0 8 true 1] [some ⟨.ints .u32 [2,16,840,1,101,3,4,3],false⟩]:=rfl
def xbt2(hp:true=true):xbss=zR [.ref 0 0 8 true 1] [some ⟨.ints .u32 [2,16,840,1,101,3,4,4],false⟩]:=rfl
def xbt3(hp:true=true):xbst=zR [.ref 0 0 8 true 1] [some ⟨.ints .u32 [2,16,840,1,101,3,4,1],false⟩]:=rfl
def xbt4(hp:true=true):xbsu=zR [.ref 0 0 8 true 1] [some ⟨.ints .u32 [1,2,840,113549,1,9,16,3],false⟩]:=rfl
def xbt5(hp:true=true):xbsv=zR [.ref 0 0 2 true 1] [some ⟨.ints .u32 [2,999],false⟩]:=rfl
def qbc{l:Nat}{x:LC}{f t:OO}{rf:Out}{r:List LC}(hf:f=some rf)(hr: ∃out,t=some out/\Hands out (some r))(h0:Hands rf none): ∃out,cond (Nat.beq l l) (yldO x f t) none=some out/\Hands out (some (x::r)):=by obtain⟨rt,h1,h2⟩:=hr;rw[za7,hf,h1];exact⟨_,rfl,rfl,h0,h2⟩
def xb6k(l:Nat)(hp:true=true): ∃out,xbsw l=some out/\Hands out (some qqa):=by rw[q9e];unfold xbsw;show ∃out,_=some out/\Hands out (some [_,_,_,_,_,_,_,_,_,_,_,_,_,_,_,_,_,_,_,_,_,_,_,_,_,_,_,_,_,_,_,_,_,_,_,_,_,_,_,_]);exact qbc rfl (qbc rfl (qbc rfl (qbc rfl (qbc rfl (qbc rfl (qbc rfl (qbc rfl (qbc rfl (qbc rfl (qbc rfl (qbc rfl (qbc rfl (qbc rfl (qbc rfl (qbc rfl (qbc rfl (qbc rfl (qbc rfl (qbc rfl (qbc rfl (qbc rfl (qbc rfl (qbc rfl (qbc rfl (qbc rfl (qbc rfl (qbc rfl (qbc rfl (qbc rfl (qbc rfl (qbc rfl (qbc rfl (qbc rfl (qbc rfl (qbc rfl (qbc rfl (qbc rfl (qbc rfl (qbc rfl (⟨_,rfl,.inl rfl⟩) (.inr rfl)) (.inr rfl)) (.inr rfl)) (.inr rfl)) (.inr rfl)) (.inr rfl)) (.inr rfl)) (.inr rfl)) (.inr rfl)) (.inr rfl)) (.inr rfl)) (.inr rfl)) (.inr rfl)) (.inr rfl)) (.inr rfl)) (.inr rfl)) (.inr rfl)) (.inr rfl)) (.inr rfl)) (.inr rfl)) (.inr rfl)) (.inr rfl)) (.inr rfl)) (.inr rfl)) (.inr rfl)) (.inr rfl)) (.inr rfl)) (.inr rfl)) (.inr rfl)) (.inr rfl)) (.inr rfl)) (.inr rfl)) (.inr rfl)) (.inr rfl)) (.inr rfl)) (.inr rfl)) (.inr rfl)) (.inr rfl)) (.inr rfl)) (.inr rfl)
def xbep(k0:Int->Int->Int->LI->OO)(k1:Int->OO)(g:Int): ∀L:List (Int×Int×LI),qi0 k0 k1 (L.map rowE) g=(match L.find? fun e=>decide (e.1=g) with|some e=>k0 g e.1 e.2.1 e.2.2|none=>k1 g)
 | []=>rfl
 | e::r=>by
  show cond (decide (e.1=g)) (k0 g e.1 e.2.1 e.2.2) (qi0 k0 k1 (r.map rowE) g)=_;rw[List.find?_cons]
  cases decide (e.1=g) with
  | true=>rfl
  | false=>exact xbep k0 k1 g r
def xb0d(g:Int)(hp:true=true):xbeq g=zR [.cl (.agg [.int .i64 (qa1 g).1,.int .i64 (qa1 g).2.1,.sli .u32 (qa1 g).2.2])] []:=by unfold xbeq;refine qam xbpx ?_;rw[qab,q9e,xbep,qjf];unfold qaf;cases qcx.find? fun e=>decide (e.1=g)<;>rfl
def xb9j(k0:LI->Int->OO)(k1:LI->OO)(o:LI): ∀L:List (Int×Int×LI),(∀e∈L,e.2.2.length<=10)->qwm k0 k1 (L.map rowE) o=(match L.find? fun e=>decide (e.2.2=o) with|some e=>k0 o e.1|none=>k1 o)
 | [],_=>rfl
 | e::r,h=>by
  show cond (qdu e.2.2) (cond (qcr e.2.2 o) (k0 o e.1) (qwm k0 k1 (r.map rowE) o)) none=_;refine qam (qku (by have:=h e (by simp);omega)) ?_;have hs:qcr e.2.2 o=decide (e.2.2=o):=by unfold qcr qny;rw[qab]
  rw[List.find?_cons,hs]
  cases decide (e.2.2=o) with
  | true=>rfl
  | false=>exact xb9j k0 k1 o r fun e he=>h e (by simp[he])
def nAOf(o:LI)(hp:true=true):gAOf o=zI (qhf o):=by unfold gAOf;refine qam xbpx ?_;rw[qab,q9e,xb9j _ _ _ _ fun e he=>(qyp e he).2.1];unfold qhf xbds;rw[qab];cases qcx.find? fun e=>decide (e.2.2=o)<;>rfl
def xcae(hp:true=true):xb9y=zR [.cl (.fn (.func 175) [] [])] []:=rfl
def xb0e(g:Int)(hp:true=true):xbx5 g=zR [.cl (.int .i64 (qa1 g).2.1)] []:=rfl
def nAId(g:Int)(hp:true=true):gAId g=zR [.cl (.sli .u32 (qa1 g).2.2)] []:=rfl
def xbci: ∀n:Nat,n<93->qtg ((n:Int)+1)=zI ((qa1 ((n:Int)+1)).2.1):=by
 intro n hn;unfold qtg qig qfm qih qa1;simp only[qab]
 exact match n,hn with
 | 0,_=>by kernel_rfl
 | 1,_=>by kernel_rfl
 | 2,_=>by kernel_rfl
 | 3,_=>by kernel_rfl
 | 4,_=>by kernel_rfl
 | 5,_=>by kernel_rfl
 | 6,_=>by kernel_rfl
 | 7,_=>by kernel_rfl
 | 8,_=>by kernel_rfl
 | 9,_=>by kernel_rfl
 | 10,_=>by kernel_rfl
 | 11,_=>by kernel_rfl
 | 12,_=>by kernel_rfl
 | 13,_=>by kernel_rfl
 | 14,_=>by kernel_rfl
 | 15,_=>by kernel_rfl
 | 16,_=>by kernel_rfl
 | 17,_=>by kernel_rfl
 | 18,_=>by kernel_rfl
 | 19,_=>by kernel_rfl
 | 20,_=>by kernel_rfl
 | 21,_=>by kernel_rfl
 | 22,_=>by kernel_rfl
 | 23,_=>by kernel_rfl
 | 24,_=>by kernel_rfl
 | 25,_=>by kernel_rfl
 | 26,_=>by kernel_rfl
 | 27,_=>by kernel_rfl
 | 28,_=>by kernel_rfl
 | 29,_=>by kernel_rfl
 | 30,_=>by kernel_rfl
 | 31,_=>by kernel_rfl
 | 32,_=>by kernel_rfl
 | 33,_=>by kernel_rfl
 | 34,_=>by kernel_rfl
 | 35,_=>by kernel_rfl
 | 36,_=>by kernel_rfl
 | 37,_=>by kernel_rfl
 | 38,_=>by kernel_rfl
 | 39,_=>by kernel_rfl
 | 40,_=>by kernel_rfl
 | 41,_=>by kernel_rfl
 | 42,_=>by kernel_rfl
 | 43,_=>by kernel_rfl
 | 44,_=>by kernel_rfl
 | 45,_=>by kernel_rfl
 | 46,_=>by kernel_rfl
 | 47,_=>by kernel_rfl
 | 48,_=>by kernel_rfl
 | 49,_=>by kernel_rfl
 | 50,_=>by kernel_rfl
 | 51,_=>by kernel_rfl
 | 52,_=>by kernel_rfl
 | 53,_=>by kernel_rfl
 | 54,_=>by kernel_rfl
 | 55,_=>by kernel_rfl
 | 56,_=>by kernel_rfl
 | 57,_=>by kernel_rfl
 | 58,_=>by kernel_rfl
 | 59,_=>by kernel_rfl
 | 60,_=>by kernel_rfl
 | 61,_=>by kernel_rfl
 | 62,_=>by kernel_rfl
 | 63,_=>by kernel_rfl
 | 64,_=>by kernel_rfl
 | 65,_=>by kernel_rfl
 | 66,_=>by kernel_rfl
 | 67,_=>by kernel_rfl
 | 68,_=>by kernel_rfl
 | 69,_=>by kernel_rfl
 | 70,_=>by kernel_rfl
 | 71,_=>by kernel_rfl
 | 72,_=>by kernel_rfl
 | 73,_=>by kernel_rfl
 | 74,_=>by kernel_rfl
 | 75,_=>by kernel_rfl
 | 76,_=>by kernel_rfl
 | 77,_=>by kernel_rfl
 | 78,_=>by kernel_rfl
 | 79,_=>by kernel_rfl
 | 80,_=>by kernel_rfl
 | 81,_=>by kernel_rfl
 | 82,_=>by kernel_rfl
 | 83,_=>by kernel_rfl
 | 84,_=>by kernel_rfl
 | 85,_=>by kernel_rfl
 | 86,_=>by kernel_rfl
 | 87,_=>by kernel_rfl
 | 88,_=>by kernel_rfl
 | 89,_=>by kernel_rfl
 | 90,_=>by kernel_rfl
 | 91,_=>by kernel_rfl
 | 92,_=>by kernel_rfl
 | n+93,h=>absurd h (by omega)
def xbtz(g:Int)(hp:true=true):qtg g=zI ((qa1 g).2.1):=by
 by_cases hg:1<=g/\g<1+93
 ·exact xbf3 (P:=fun g=>qtg g=zI ((qa1 g).2.1)) xbci hg.1 hg.2
 ·have ho:=qyu (g:=g) (by omega);unfold qtg qig qfm qih;rw[qjf,ho];simp only[qab];rcases(show g<1\/93<g by omega) with h|h<;>(repeat' (first|rfl|(refine qca (by omega) ?_)|(refine qaq (by omega) ?_)))
def xbw9: ∀n:Nat,n<93->xbx8 ((n:Int)+1)=zR [.cl (.sli .u32 (qa1 ((n:Int)+1)).2.2)] []:=by
 intro n hn;unfold xbx8 qa1 qj5 qvq qdu;simp only[qab]
 exact match n,hn with
 | 0,_=>by kernel_rfl
 | 1,_=>by kernel_rfl
 | 2,_=>by kernel_rfl
 | 3,_=>by kernel_rfl
 | 4,_=>by kernel_rfl
 | 5,_=>by kernel_rfl
 | 6,_=>by kernel_rfl
 | 7,_=>by kernel_rfl
 | 8,_=>by kernel_rfl
 | 9,_=>by kernel_rfl
 | 10,_=>by kernel_rfl
 | 11,_=>by kernel_rfl
 | 12,_=>by kernel_rfl
 | 13,_=>by kernel_rfl
 | 14,_=>by kernel_rfl
 | 15,_=>by kernel_rfl
 | 16,_=>by kernel_rfl
 | 17,_=>by kernel_rfl
 | 18,_=>by kernel_rfl
 | 19,_=>by kernel_rfl
 | 20,_=>by kernel_rfl
 | 21,_=>by kernel_rfl
 | 22,_=>by kernel_rfl
 | 23,_=>by kernel_rfl
 | 24,_=>by kernel_rfl
 | 25,_=>by kernel_rfl
 | 26,_=>by kernel_rfl
 | 27,_=>by kernel_rfl
 | 28,_=>by kernel_rfl
 | 29,_=>by kernel_rfl
 | 30,_=>by kernel_rfl
 | 31,_=>by kernel_rfl
 | 32,_=>by kernel_rfl
 | 33,_=>by kernel_rfl
 | 34,_=>by kernel_rfl
 | 35,_=>by kernel_rfl
 | 36,_=>by kernel_rfl
 | 37,_=>by kernel_rfl
 | 38,_=>by kernel_rfl
 | 39,_=>by kernel_rfl
 | 40,_=>by kernel_rfl
 | 41,_=>by kernel_rfl
 | 42,_=>by kernel_rfl
 | 43,_=>by kernel_rfl
 | 44,_=>by kernel_rfl
 | 45,_=>by kernel_rfl
 | 46,_=>by kernel_rfl
 | 47,_=>by kernel_rfl
 | 48,_=>by kernel_rfl
 | 49,_=>by kernel_rfl
 | 50,_=>by kernel_rfl
 | 51,_=>by kernel_rfl
 | 52,_=>by kernel_rfl
 | 53,_=>by kernel_rfl
 | 54,_=>by kernel_rfl
 | 55,_=>by kernel_rfl
 | 56,_=>by kernel_rfl
 | 57,_=>by kernel_rfl
 | 58,_=>by kernel_rfl
 | 59,_=>by kernel_rfl
 | 60,_=>by kernel_rfl
 | 61,_=>by kernel_rfl
 | 62,_=>by kernel_rfl
 | 63,_=>by kernel_rfl
 | 64,_=>by kernel_rfl
 | 65,_=>by kernel_rfl
 | 66,_=>by kernel_rfl
 | 67,_=>by kernel_rfl
 | 68,_=>by kernel_rfl
 | 69,_=>by kernel_rfl
 | 70,_=>by kernel_rfl
 | 71,_=>by kernel_rfl
 | 72,_=>by kernel_rfl
 | 73,_=>by kernel_rfl
 | 74,_=>by kernel_rfl
 | 75,_=>by kernel_rfl
 | 76,_=>by kernel_rfl
 | 77,_=>by kernel_rfl
 | 78,_=>by kernel_rfl
 | 79,_=>by kernel_rfl
 | 80,_=>by kernel_rfl
 | 81,_=>by kernel_rfl
 | 82,_=>by kernel_rfl
 | 83,_=>by kernel_rfl
 | 84,_=>by kernel_rfl
 | 85,_=>by kernel_rfl
 | 86,_=>by kernel_rfl
 | 87,_=>by kernel_rfl
 | 88,_=>by kernel_rfl
 | 89,_=>by kernel_rfl
 | 90,_=>by kernel_rfl
 | 91,_=>by kernel_rfl
 | 92,_=>by kernel_rfl
 | n+93,h=>absurd h (by omega)
def xcaf(g:Int)(hp:true=true):xbx8 g=zR [.cl (.sli .u32 (qa1 g).2.2)] []:=by
 by_cases hg:1<=g/\g<1+93
 ·exact xbf3 (P:=fun g=>xbx8 g=zR [.cl (.sli .u32 (qa1 g).2.2)] []) xbw9 hg.1 hg.2
 ·have ho:=qyu (g:=g) (by omega);unfold xbx8;rw[qjf,ho]
  repeat' (first|rfl|(refine qca (by omega) ?_)|(refine qaq (by omega) ?_))
open IntWalk (i64_in u8_in u32_in u64_in i64_quo u8_quo rem_in)
def xb0f(g h:Int)(hp:true=true):xbx9 g h=zR [.cl (.sli .u32 (qj5 g h))] []:=by unfold qj5;rw[qab];rfl
def xb0h(o:LI)(hp:qdu o=true):xbn7 o=zR [.cl (.sli .u32 (qvq o))] []:=by have:=qf1 hp;unfold xbn7 qvq;rw[qab];exact qvi (by simp;omega) (by simp;omega) rfl
def xb6j(g:Int)(hp:true=true):xbyc g=zI (qj7 g):=by
 unfold xbyc qj7 qb3;rw[qab];refine qae (fun h=> ?_) fun h=>qae (fun h'=> ?_) fun h'=> ?_
 ·rw[yc h]
 ·rw[yb h,yc h']
 ·rw[yb h,yb h']
def q1q: ∀e∈qcx,qaf e.1=e/\¬e.2.1=0:=by decide+kernel
def xbsg: ∀e∈qcx, ∀e'∈qcx,e.2.2=e'.2.2->e.1=e'.1:=by decide+kernel
def xb6g(g:Int)(b:LI)(hp:qdu b=true):xbx6 g b=zR [.cl (.agg [.int .i64 (qbs g b).1,.sli .u8 qa6,.slg 3 (qbs g b).2.1]),.cl (.int .i64 (qbs g b).2.2)] []:=by
 obtain⟨i1,i2⟩:=qpj g;have hid:idOk (qaf g).2.2=true:=q71 (by omega) i2;have h16:q6m 16=true:=by decide
 unfold xbx6 qbs qj7;rw[qjf];simp only[qab,qcf,qbq];unfold qga;refine qae (fun h=> ?_) fun h=>qa0 (fun h'=> ?_) fun h'=> ?_
 ·rw[yc h]
 ·rw[yb h,yc h']
 ·rw[yb h,yb (by simp[h'])];refine qam hid ?_;refine qae (fun h6=> ?_) fun h6=>qae (fun h7=> ?_) fun h7=> ?_
  ·rw[yc h6];exact qam hp (qam (qnx (by simp)) rfl)
  ·rw[yb h6,yc h7];exact qam hp (qam h16 (qam (qnx (by simp)) (qam (qnx (by simp)) rfl)))
  ·rw[yb h6,yb h7];exact qam (qnx (by simp)) rfl
open IntWalk (i64_in u8_in u32_in u64_in i64_quo u8_quo rem_in)
def q2e{t:Int}{b:LI}{k:LC}(h:isS [.int .i64 t,.sli .u8 b,.slg 3 k]=true): ∀c∈k,W3 c:=by obtain⟨n,hn,hB⟩:=qc8 h;obtain⟨n,t',b',k',rfl,e,_,_⟩:=qdi hn;cases e;obtain⟨_,_,_,h4,_⟩:=qld hn hB;intro c hc;obtain⟨y,rfl,hy,hyb⟩:=h4 c hc;obtain⟨_,t1,b1,k1,rfl,rfl,_,_⟩:=qdi hy;exact⟨t1,b1,k1,rfl,xbax hy (by omega)⟩
def q76{t:Int}{b:LI}{k:LC}(h:isS [.int .i64 t,.sli .u8 b,.slg 3 k]=true):qbw k=true:=qnx (xbtf (xbzn h)).1
def xbb6{l:LC}(h:q6q l=true): ∀c∈l,W3 c:=by unfold q6q at h;rw[qab] at h;exact @ye _ (ya _) h
def xbnk{l:LC}(h: ∀c∈l,W3 c):q6q l=true:=by unfold q6q;rw[qab];exact @yf _ (ya _) h
def q77{g t:Int}{b:LI}{k:LC}(h: ∀c∈k,W3 c): ∀c∈(qb0 g t b k).1,W3 c:=by
 by_cases e:(qb0 g t b k).2=0
 ·rw[qfg e];exact h
 ·rw[q6u e];simp
def xbdq(g:Int){t:Int}{b:LI}{k:LC}(hs:isS [.int .i64 t,.sli .u8 b,.slg 3 k]=true):
  cond (isS [.int .i64 t,.sli .u8 b,.slg 3 k]) (cond (decide ((qa2 t b k).2=0)) (zR [.cl (.sli .u8 (qa2 t b k).1),.cl (.bool (decide (((qa2 t b k).1.length:Int)=qj7 g)))] [])
   (zR [.cl (.sli .u8 (qa2 t b k).1),.cl (.bool false)] [])) none=zR [.cl (.sli .u8 (algB g (.agg [.int .i64 t,.sli .u8 b,.slg 3 k])).1),.cl (.bool (algB g (.agg [.int .i64 t,.sli .u8 b,.slg 3 k])).2)] []:=by
 refine qam hs ?_;unfold qj7;rw[qab];show _=zR [.cl (.sli .u8 (qa2 t b k).1),.cl (.bool (decide ((qa2 t b k).2=0)&&decide (((qa2 t b k).1.length:Int)=qb3 g)))] [];refine qae (fun h=> ?_) fun h=> ?_
 ·rw[yf h,zbs]
 ·rw[decide_eq_false h,zda]
def qso(g t:Int)(b:LI)(k:LC):algH g (.agg [.int .i64 t,.sli .u8 b,.slg 3 k])=if g=7 then(if ¬(qb0 48 t b k).2=0 then([],false) else algG g (qb0 48 t b k).1) else algB g (.agg [.int .i64 t,.sli .u8 b,.slg 3 k]):=rfl
def qq4(g t:Int)(b:LI)(k:LC)(p:CV):xb5n g (.agg [.int .i64 t,.sli .u8 b,.slg 3 k]) p=if ¬(qb6 t b k).2=0 then([],false) else if ¬(qb6 t b k).1=16 then([],false) else algB g p:=rfl
def qyd(g:Int)(p q:CV):algG g [p,q]=xb5n g q p:=by unfold algG;rw[yb (by simp)];rfl
def xbdr{g:Int}{two:LC}(h: ¬(two.length:Int)=2):algG g two=([],false):=by unfold algG;rw[yc h]
def qye(t:Int)(b:LI)(k r:LC):algR (.agg [.int .i64 t,.sli .u8 b,.slg 3 k]::r)=xbxq (qgp t b k) r:=by unfold algR;rw[yb (by simp only[zac];omega)];rfl
def q9l(g:Int)(l:LC):qcy g l=qpa g l:=qab _
def tail7(g:Int)(two:LC)(hk: ∀c∈two,W3 c):(cond (!decide ((two.length:Int)=2)) (
   zR [.cl (.sli .u8 []),.cl (.bool false)] [])
   (
   cond (decide ((1:Int)<(two.length:Int))) (
   Option.bind (two[1]?) fun(e11:CV)=>
   let e12:CV:=(cell1 e11).headD .nili;let e13:CV:=(cell1 e11).tail.headD .nili;let e14:CV:=(cell1 e11).tail.tail.headD .nili
   cond (qhz .i64 e12&&(qf6 .u8 e13&&(qej 3 e14&&true))) (
   let i15:Int:=qf9 e12;let l16:LI:=qb8 e13;let l17:LC:=qbl e14
   cond (isS [.int .i64 i15,.sli .u8 l16,.slg 3 l17]) (
   let r18:Int:=(qb6 i15 l16 l17).1;let r19:Int:=(qb6 i15 l16 l17).2
   cond (!decide (r19=0)) (
   zR [.cl (.sli .u8 []),.cl (.bool false)] [])
   (
   cond (!decide (r18=16)) (
   zR [.cl (.sli .u8 []),.cl (.bool false)] [])
   (
   cond (decide ((0:Int)<(two.length:Int))) (
   Option.bind (two[0]?) fun(e20:CV)=>
   let e21:CV:=(cell1 e20).headD .nili;let e22:CV:=(cell1 e20).tail.headD .nili;let e23:CV:=(cell1 e20).tail.tail.headD .nili
   cond (qhz .i64 e21&&(qf6 .u8 e22&&(qej 3 e23&&true))) (
   let i24:Int:=qf9 e21;let l25:LI:=qb8 e22;let l26:LC:=qbl e23
   cond (isS [.int .i64 i24,.sli .u8 l25,.slg 3 l26]) (
   let r27:LI:=(qa2 i24 l25 l26).1;let r28:Int:=(qa2 i24 l25 l26).2
   cond (decide (r28=0)) (
   let r29:Int:=qj7 g
   zR [.cl (.sli .u8 r27),.cl (.bool (decide ((r27.length:Int)=r29)))] [])
   (
   zR [.cl (.sli .u8 r27),.cl (.bool false)] [])) none) none) none))) none) none) none):OO)=zR [.cl (.sli .u8 (algG g two).1),.cl (.bool (algG g two).2)] []:=by
 refine qa0 (fun h3=> ?_) fun h3=> ?_
 ·rw[xbdr h3]
 match two,h3,hk with
 | [p,q],_,hk=>
  obtain⟨t2,b2,k2,rfl,hs2⟩:=hk q (by simp);obtain⟨t1,b1,k1,rfl,hs1⟩:=hk p (by simp);rw[qyd,qq4];refine qaq (by simp) ?_;rw[za2,zar,zak];refine qam (c:=qhz .i64 _&&(qf6 .u8 _&&(qej 3 _&&true))) rfl (qam hs2 ?_);show cond (!decide ((qb6 t2 b2 k2).2=0)) _ _=_;refine qa0 (fun h4=> ?_) fun h4=> ?_
  ·rw[yc h4]
  rw[yb (fun e=>e h4)];show cond (!decide ((qb6 t2 b2 k2).1=16)) _ _=_;refine qa0 (fun h5=> ?_) fun h5=> ?_
  ·rw[yc h5]
  rw[yb (fun e=>e h5)];refine qaq (by simp) ?_;rw[zar,zak];refine qam (c:=qhz .i64 _&&(qf6 .u8 _&&(qej 3 _&&true))) rfl ?_;exact xbdq g hs1
 | [],h3,_=>simp at h3
 | [_],h3,_=>simp at h3
 | _::_::_::_,h3,_=>simp at h3;omega
def xb6i(g:Int)(l:LC)(hp:q6q l=true):xbyb g l=zR [.cl (.sli .u8 (qcy g l).1),.cl (.bool (qcy g l).2)] []:=by
 have hw:=xbb6 hp;unfold xbyb;rw[q9l];unfold qpa;have hu:qj7 g=qb3 g:=qab _;refine qae (fun h=> ?_) fun h=> ?_
 ·rw[yc (hu▸h)]
 rw[yb (hu▸h)];refine qa0 (fun h1=> ?_) fun h1=> ?_
 ·rw[yc h1]
 rw[yb (fun e=>e h1)]
 match l,h1,hw with
 | [x],_,hw=>
  obtain⟨t,b,k,rfl,hs⟩:=hw x (by simp);refine qaq (by simp) ?_;rw[zar,zak,zba,qso];refine qam (c:=qhz .i64 _&&(qf6 .u8 _&&(qej 3 _&&true))) rfl ?_;show cond (decide (g=7)) _ _=_;refine qae (fun h7=> ?_) fun h7=> ?_
  ·rw[yc h7];refine qam (q76 hs) ?_;show cond (!decide ((qb0 48 t b k).2=0)) _ _=_;refine qa0 (fun h2=> ?_) fun h2=> ?_
   ·rw[yc h2]
   rw[yb (fun e=>e h2)];have hk:=q77 (g:=48) (t:=t) (b:=b) (q2e hs);exact tail7 g _ hk
  ·rw[yb h7];exact xbdq g hs
 | [],h1,_=>simp at h1
 | _::_::_,h1,_=>simp at h1;omega
def xbwz{g:Int}{l:LC}(hw: ∀c∈l,W3 c):(qcy g l).1.length<=30000:=by
 have hB: ∀x:CV,W3 x->(algB g x).1.length<=30000:=fun x hx=>by
  obtain⟨t,b,k,rfl,hs⟩:=hx;have:=(qjh hs).1;show(qa2 t b k).1.length<=30000;unfold qa2;rw[qab];split
  ·show b.length<=30000;omega
  ·simp
 rw[q9l];unfold qpa;split
 ·simp
 split
 ·simp
 rename_i h0 h1;have h1:(l.length:Int)=1:=Classical.byContradiction h1
 match l,h1,hw with
 | [x],_,hw=>
  have hx:=hw x (by simp);obtain⟨t,b,k,rfl,hs⟩:=hx;rw[zba,qso];split
  ·split
   ·simp
   have hk:=q77 (g:=48) (t:=t) (b:=b) (q2e hs);generalize (qb0 48 t b k).1=two at hk ⊢;by_cases h3:(two.length:Int)=2
   ·match two,h3,hk with
    | [p,q],_,hk=>
     obtain⟨t2,b2,k2,rfl,hs2⟩:=hk q (by simp);rw[qyd,qq4];split
     ·simp
     split
     ·simp
     ·exact hB _ (hk p (by simp))
    | [],h3,_=>simp at h3
    | [_],h3,_=>simp at h3
    | _::_::_::_,h3,_=>simp at h3;omega
   ·rw[xbdr h3];simp
  ·exact hB _ (hw _ (by simp))
 | [],h1,_=>simp at h1
 | _::_::_,h1,_=>simp at h1;omega
def xbh3(t:Int)(b:LI)(k:LC):qb2 t b k=qsq t b k:=qab _
def xb6h(t:Int)(b:LI)(k:LC)(hp:isS [.int .i64 t,.sli .u8 b,.slg 3 k]=true):xbya t b k=zR [.cl (.int .i64 (qb2 t b k).1),.cl (.sli .u8 (qb2 t b k).2.1),.cl (.int .i64 (qb2 t b k).2.2)] []:=by
 have hk:=q77 (g:=48) (t:=t) (b:=b) (q2e hp);unfold xbya;rw[xbh3];unfold qsq;refine qam (q76 hp) ?_;refine qa0 (fun h=> ?_) fun h=> ?_
 ·rw[yc h]
 rw[yb (fun e=>e h)];dsimp only;generalize (qb0 48 t b k).1=ks at hk ⊢;refine qae (fun h1=> ?_) fun h1=> ?_
 ·unfold algR;rw[yc h1]
 match ks,h1,hk with
 | [],h1,_=>exact absurd rfl h1
 | x::r,_,hk=>
  obtain⟨t1,b1,k1,rfl,hs⟩:=hk x (by simp);have hr: ∀c∈r,W3 c:=fun c hc=>hk c (by simp[hc]);rw[qye];refine qaq (by simp only[zac];omega) ?_;rw[zar,zak];refine qam (c:=qhz .i64 _&&(qf6 .u8 _&&(qej 3 _&&true))) rfl (qam hs ?_);rw[zco,zbr];unfold xbxq;show cond (!decide ((qgp t1 b1 k1).2=0)) _ _=_;refine qa0 (fun h2=> ?_) fun h2=> ?_
  ·rw[yc h2]
  rw[yb (fun e=>e h2)];refine qae (fun h3=> ?_) fun h3=> ?_
  ·rw[yc (show qhf (qgp t1 b1 k1).1=0 from h3)]
  rw[yb (show ¬qhf (qgp t1 b1 k1).1=0 from h3)];refine qaq (by simp only[zac];omega) (qam (xbnk hr) ?_);have hl:=xbwz (g:=(qa1 (qhf (qgp t1 b1 k1).1)).2.1) hr;show cond (!(qcy (qa1 (qhf (qgp t1 b1 k1).1)).2.1 r).2) _ _=_
  cases he:(qcy (qa1 (qhf (qgp t1 b1 k1).1)).2.1 r).2 with
  | false=>rw[yc rfl];rfl
  | true=>
   rw[yb (by simp)];exact qyh rfl (qam (qku (show(qcy (qa1 (qhf (qgp t1 b1 k1).1)).2.1 r).1.length<=100000000 by omega)) rfl)
open IntWalk (i64_in u8_in u32_in u64_in i64_quo u8_quo rem_in)
def xbej: ∀e∈qcx,qbx e.2.2=true:=by decide+kernel
def xbeo{g:Int}(h: ¬(qaf g).2.1=0):qaf g∈qcx/\(qaf g).1=g:=by
 rcases qyt g with e|e
 ·rw[e] at h;exact absurd rfl h
 ·exact e
def xb9i(o:LI):qhf o=xbds o:=qab _
def xb1r{e:Int×Int×LI}(h:e∈qcx):qhf e.2.2=e.1:=by
 rw[xb9i];unfold xbds
 cases hf:qcx.find? fun x=>decide (x.2.2=e.2.2) with
 | none=>exact absurd (yf rfl) (List.find?_eq_none.1 hf e h)
 | some x=>
  have h1:=List.mem_of_find?_eq_some hf;have h2:x.2.2=e.2.2:=by have:=List.find?_some hf;simpa using this
  exact xbsg x h1 e h h2
def xb1s{o:LI}(h: ¬qhf o=0):qaf (qhf o)∈qcx/\(qaf (qhf o)).2.2=o:=by
 have h0:=h;rw[xb9i] at h ⊢;unfold xbds at h ⊢
 cases hf:qcx.find? fun x=>decide (x.2.2=o) with
 | none=>rw[hf] at h;exact absurd rfl h
 | some x=>
  have h1:=List.mem_of_find?_eq_some hf;have h2:x.2.2=o:=by have:=List.find?_some hf;simpa using this
  show qaf x.1∈qcx/\(qaf x.1).2.2=o;rw[(q1q x h1).1];exact⟨h1,h2⟩
noncomputable def qj6(grp:Int)(b:LI):LC:=if grp=6 then[qbm 4 b []] else if grp=7 then[qbm 48 [] [qbm 4 b [],qbm 2 (vInt 16) []]] else[]
def xbg9(g:Int)(b:LI):qbs g b=qga g b:=qab _
def xbpf{g:Int}{b:LI}(h1: ¬(qaf g).2.1=0)(h2:(b.length:Int)=qb3 (qaf g).2.1):qbs g b=(48,qez (qaf g).2.2::qj6 (qaf g).2.1 b,0):=by rw[xbg9];unfold qga;rw[yb h1,yb (by simp[h2])];rfl
def q2b{o:LI}(hf:qbx o=true)(hr: ∀n∈o,inU n):qcw (qay o)=(o,0)/\qbj 6 (qay o)=true:=by have e:qay o=qco o:=qab _;rw[e];have h:=xbbm hf hr;refine⟨h, ?_⟩;show decide ((qcw (qco o)).2=0)=true;rw[h];rfl
def q73{o:LI}(hf:qbx o=true)(hr: ∀n∈o,inU n):qez o=qbm 6 (qay o) []:=by unfold qez;rw[q6v (q2b hf hr).2]
def xbd8(b:LI):qa2 4 b []=(b,0):=by have:=xbd4 b;rwa [qcf] at this
def qjj(l:LC):qb0 48 48 [] l=(l,0):=by have:=xblh l;rwa [qbq] at this
def qot(grp:Int):grp=6\/grp=7\/(¬grp=6/\¬grp=7/\qb3 grp=0):=by
 unfold qb3;by_cases h:grp=6
 ·exact .inl h
 ·by_cases h':grp=7
  ·exact .inr (.inl h')
  ·exact .inr (.inr ⟨h,h',by rw[yb h,yb h']⟩)
def q63{g:Int}{b:LI}(h:(b.length:Int)=qb3 g):algB g (qbm 4 b [])=(b,true):=by show((qa2 4 b []).1,decide ((qa2 4 b []).2=0)&&decide (((qa2 4 b []).1.length:Int)=qb3 g))=_;rw[xbd8];show(b,decide ((0:Int)=0)&&decide ((b.length:Int)=qb3 g))=_;rw[yf h];rfl
def xbnl{grp:Int}{b:LI}(hb:(b.length:Int)=qb3 grp):qcy grp (qj6 grp b)=(b,true):=by
 rw[q9l];unfold qpa;rcases qot grp with rfl|rfl|⟨h6,h7,h0⟩
 ·rw[yb (show ¬qb3 6=0 by decide),show qj6 6 b=[qbm 4 b []] from rfl,yb (by simp),zba];unfold qbm;rw[qso,yb (by decide)];exact q63 hb
 ·have h16:qb6 2 (vInt 16) []=(16,0):=by have:=xbf4 (n:=16) (by decide);rwa [qcf] at this
  rw[yb (show ¬qb3 7=0 by decide),show qj6 7 b=[qbm 48 [] [qbm 4 b [],qbm 2 (vInt 16) []]] from rfl,yb (by simp),zba];unfold qbm;rw[qso,yc rfl,qjj,yb (by simp),qyd,qq4,h16,yb (by simp),yb (by simp)];exact q63 hb
 ·rw[yc h0];have hl:b=[]:=zaj (by omega);subst hl;unfold qj6;rw[yb h6,yb h7];rfl
def xbmi{g:Int}{b:LI}(h1: ¬(qaf g).2.1=0)(h2:(b.length:Int)=qb3 (qaf g).2.1):qb2 48 [] (qez (qaf g).2.2::qj6 (qaf g).2.1 b)=(g,b,0):=by
 obtain⟨hm,hg⟩:=xbeo h1;have hf:=xbej _ hm;have hr:=(qpj g).2;have hof:qhf (qaf g).2.2=g:=by rw[xb1r hm,hg]
 have hid:qgp 6 (qay (qaf g).2.2) []=((qaf g).2.2,0):=by unfold qgp;rw[qab,yc (qw0 rfl rfl (q2b hf hr).2)];unfold qcl;rw[qab];exact(q2b hf hr).1
 have hgr:1<=g:=by have:=(qyp _ hm).1;rw[hg] at this;omega
 rw[xbh3];unfold qsq;rw[qjj,q73 hf hr,yb (by simp)];unfold qbm;rw[qye,hid];unfold xbxq;rw[yb (by simp)];show(if qhf (qaf g).2.2=0 then(0,[],9) else if(qcy (qa1 (qhf (qaf g).2.2)).2.1 (qj6 (qaf g).2.1 b)).2=false then(0,[],1)
  else(qhf (qaf g).2.2,(qcy (qa1 (qhf (qaf g).2.2)).2.1 (qj6 (qaf g).2.1 b)).1,0))=_
 rw[hof,qjf,xbnl h2,yb (by omega),yb (by simp)]
def int16{b:LI}(hb: ∀x∈b,0<=x/\x<=255)(hn:qdt b=true)(ht:xbjz b=16):b=[16]:=by
 match b,hb,hn,ht with
 | [],_,hn,_=>cases hn
 | [x],hb,_,ht=>
  have hx:=hb x (by simp);rw[qmf] at ht;have e:qar [x]=x:=by show 0*256+x=x;omega
  rw[e] at ht;have e1:(256:Int) ^ (([]:LI).length+1)=256:=by decide
  rw[e1] at ht;split at ht
  ·omega
  ·rw[ht]
 | x::y::r,hb,hn,ht=>
  exfalso;obtain⟨n1,n2,n3⟩:=qt6 (b:=x::y::r) (L:=r.length+1) hb rfl;obtain⟨m1,m2,m3⟩:=qt6 (b:=y::r) (L:=r.length) (fun z hz=>hb z (by simp[hz])) rfl;have hx:=hb x (by simp);have hn:(!(decide (x=0/\y<128))&& !(decide (x=255/\128<=y)))=true:=hn;simp only[zab,zal,decide_eq_false_iff_not] at hn;rw[qmf] at ht;rw[qzn x (y::r)] at n1 n2 n3 ht;simp only[zba,zac] at n1 n2 n3 m3 ht;have hp:(256:Int) ^ (r.length+1+1)=256 ^ (r.length+1)*256:=zc3 ..;have hp1:(256:Int) ^ (r.length+1)=256 ^ r.length*256:=zc3 ..;have hz:(1:Int)<=256 ^ r.length:=by have:=Int.pow_pos (n:=256) (m:=r.length) (by omega);omega
  rw[hp] at ht;rw[hp1] at ht n1 n2 n3;generalize (256:Int) ^ r.length=z at*;generalize qar (y::r)=w at*;split at ht
  ·omega
  ·rename_i h128;have hx0:x=0:=by
    rcases Int.lt_or_le 0 x with e|e
    ·have:z*256<=x*(z*256):=by have:=zcc (show(1:Int)<=x by omega) (show(0:Int)<=z*256 by omega);omega
     omega
    ·omega
   subst hx0;have:w=16:=by omega
   have hy:128<=y:=Classical.byContradiction fun e=>hn.1 ⟨rfl,by omega⟩;have:=m3.1 hy;omega
def vint16:vInt 16=[16]:=by unfold vInt;rw[qab];rfl
def xbla{t:Int}{b:LI}{k:LC}(hs:isS [.int .i64 t,.sli .u8 b,.slg 3 k]=true)(h1:(qb6 t b k).2=0)(h2:(qb6 t b k).1=16):CV.agg [.int .i64 t,.sli .u8 b,.slg 3 k]=qbm 2 (vInt 16) []:=by
 unfold qb6 at h1 h2;rw[qab] at h1 h2;split at h1
 ·rename_i he;rw[yc he] at h2;obtain⟨rfl,hk,hd⟩:=quz he;have hk:=zaj hk;subst hk;unfold qp8 at h1 h2;split at h1
  ·simp at h1
  ·rename_i h8;rw[yb h8] at h2;have hd:qdt b=true:=hd;rw[vint16,int16 (qjh hs).2 hd h2];rfl
 ·rename_i he;exact absurd h1 he
def qyj{t:Int}{b:LI}{k:LC}(h:(qa2 t b k).2=0):t=4/\k=[]/\(qa2 t b k).1=b:=by
 unfold qa2 at h ⊢;rw[qab] at h ⊢;split at h
 ·rename_i he;obtain⟨h1,h2,_⟩:=quz he;rw[yc he];exact⟨h1,zaj h2,rfl⟩
 ·rename_i he;exact absurd h he
def xbf6{t:Int}{b:LI}{k:LC}(h:(qb0 48 t b k).2=0):t=48/\b=[]/\(qb0 48 t b k).1=k:=by
 refine⟨?_, ?_,qfg h⟩
 ·exact Classical.byContradiction fun e=>by rw[qr3 e] at h;simp at h
 ·by_cases e:t=48
  ·by_cases hb:b.length≠0
   ·rw[xbje e rfl hb] at h;simp at h
   ·exact zaj (by omega)
  ·rw[qr3 e] at h;simp at h
def xbdp{g t:Int}{b:LI}{k:LC}(h:(algB g (.agg [.int .i64 t,.sli .u8 b,.slg 3 k])).2=true):CV.agg [.int .i64 t,.sli .u8 b,.slg 3 k]=qbm 4 b []/\(algB g (.agg [.int .i64 t,.sli .u8 b,.slg 3 k])).1=b/\(b.length:Int)=qb3 g:=by have h:(decide ((qa2 t b k).2=0)&&decide (((qa2 t b k).1.length:Int)=qb3 g))=true:=h;simp only[zab,yd] at h;obtain⟨rfl,rfl,e⟩:=qyj h.1;refine⟨rfl,e, ?_⟩;rw[e] at h;exact h.2
def xbwy{grp:Int}{l:LC}(hw: ∀c∈l,W3 c)(h:(qcy grp l).2=true):l=qj6 grp (qcy grp l).1/\((qcy grp l).1.length:Int)=qb3 grp:=by
 rw[q9l] at h ⊢;unfold qpa at h ⊢;by_cases h0:qb3 grp=0
 ·rw[yc h0] at h ⊢;have h:decide ((l.length:Int)=0)=true:=h;have hl:l=[]:=zaj (by have:=ye h;omega);subst hl;rcases qot grp with rfl|rfl|⟨h6,h7,_⟩
  ·exact absurd h0 (by decide)
  ·exact absurd h0 (by decide)
  ·unfold qj6;rw[yb h6,yb h7,h0];exact⟨rfl,rfl⟩
 rw[yb h0] at h ⊢;by_cases h1: ¬((l.length:Int)=1)
 ·rw[yc h1] at h;simp at h
 replace h1:=Classical.byContradiction h1;rw[yb (fun e=>e h1)] at h ⊢
 match l,h1,hw with
 | [],h1,_=>simp at h1
 | _::_::_,h1,_=>simp at h1;omega
 | [x],_,hw=>
  obtain⟨t,b,k,rfl,hs⟩:=hw x (by simp);rw[zba,qso] at h ⊢;rcases qot grp with rfl|rfl|⟨_,_,e⟩
  ·rw[yb (by decide)] at h ⊢;obtain⟨e1,e2,e3⟩:=xbdp h;refine⟨?_,by rw[e2];exact e3⟩;rw[e2,e1];rfl
  ·rw[yc rfl] at h ⊢;by_cases g1: ¬((qb0 48 t b k).2=0)
   ·rw[yc g1] at h;simp at h
   replace g1:=Classical.byContradiction g1;rw[yb (fun x=>x g1)] at h ⊢;have hk:=q77 (g:=48) (t:=t) (b:=b) (q2e hs);obtain⟨rfl,rfl,e⟩:=xbf6 g1;rw[e] at h hk ⊢;by_cases g2: ¬((k.length:Int)=2)
   ·rw[xbdr g2] at h;simp at h
   replace g2:=Classical.byContradiction g2
   match k,g2,hk with
   | [],g2,_=>simp at g2
   | [_],g2,_=>simp at g2
   | _::_::_::_,g2,_=>simp at g2;omega
   | [p,q],_,hk=>
    obtain⟨t1,b1,k1,rfl,hs1⟩:=hk p (by simp);obtain⟨t2,b2,k2,rfl,hs2⟩:=hk q (by simp);rw[qyd,qq4] at h ⊢;by_cases g3: ¬((qb6 t2 b2 k2).2=0)
    ·rw[yc g3] at h;simp at h
    replace g3:=Classical.byContradiction g3;rw[yb (fun x=>x g3)] at h ⊢;by_cases g4: ¬((qb6 t2 b2 k2).1=16)
    ·rw[yc g4] at h;simp at h
    replace g4:=Classical.byContradiction g4;rw[yb (fun x=>x g4)] at h ⊢;have hq:=xbla hs2 g3 g4;obtain⟨e1,e2,e3⟩:=xbdp h;refine⟨?_,by rw[e2];exact e3⟩;rw[e2,e1,hq];rfl
  ·exact absurd e h0
def xbvc{t:Int}{b:LI}{k:LC}(hs:isS [.int .i64 t,.sli .u8 b,.slg 3 k]=true)(h:(qb2 t b k).2.2=0):
  (qbs (qb2 t b k).1 (qb2 t b k).2.1).2.2=0/\(qbs (qb2 t b k).1 (qb2 t b k).2.1).1=t/\b=[]/\(qbs (qb2 t b k).1 (qb2 t b k).2.1).2.1=k/\(qb2 t b k).2.1.length<=16:=by
 rw[xbh3] at h ⊢;unfold qsq at h ⊢;by_cases g1: ¬((qb0 48 t b k).2=0)
 ·rw[yc g1] at h;simp at h
 replace g1:=Classical.byContradiction g1;rw[yb (fun x=>x g1)] at h ⊢;obtain⟨rfl,rfl,e⟩:=xbf6 g1;rw[e] at h ⊢;have hw:=q2e hs
 match k,hw with
 | [],_=>unfold algR at h;simp at h
 | x::r,hw=>
  obtain⟨t1,b1,k1,rfl,hs1⟩:=hw x (by simp);have hr: ∀c∈r,W3 c:=fun c hc=>hw c (by simp[hc]);rw[qye] at h ⊢;unfold xbxq at h ⊢;by_cases g3: ¬((qgp t1 b1 k1).2=0)
  ·rw[yc g3] at h;simp at h
  replace g3:=Classical.byContradiction g3;rw[yb (fun x=>x g3)] at h ⊢;by_cases g4:qhf (qgp t1 b1 k1).1=0
  ·rw[yc g4] at h;simp at h
  rw[yb g4] at h ⊢;by_cases g5:(qcy (qa1 (qhf (qgp t1 b1 k1).1)).2.1 r).2=false
  ·rw[yc g5] at h;simp at h
  rw[yb g5];have g5:(qcy (qa1 (qhf (qgp t1 b1 k1).1)).2.1 r).2=true:=by
   cases hx:(qcy (qa1 (qhf (qgp t1 b1 k1).1)).2.1 r).2 with
   | true=>rfl
   | false=>exact absurd hx g5
  have hv:qr2 6 t1 b1 k1=0:=by
   unfold qgp at g3;rw[qab] at g3;by_cases he:qr2 6 t1 b1 k1=0
   ·exact he
   ·rw[yb he] at g3;exact absurd g3 he
  have hvi:qgp t1 b1 k1=qcl b1:=by unfold qgp;rw[qab,yc hv]
  obtain⟨rfl,hk1,hd⟩:=quz hv;have hk1:=zaj hk1;subst hk1;have hp:qcl b1=qcw b1:=qab _;have hd:decide ((qcw b1).2=0)=true:=hd;rcases qvt (q74 hs1) with h5|⟨o,h5,hof,hor,hob⟩
  ·rw[h5] at hd;simp at hd
  rw[hvi,hp,h5] at g4 g5 ⊢;have g4: ¬qhf o=0:=g4;have g5:(qcy (qa1 (qhf o)).2.1 r).2=true:=g5;show(qbs (qhf o) (qcy (qa1 (qhf o)).2.1 r).1).2.2=0/\(qbs (qhf o) (qcy (qa1 (qhf o)).2.1 r).1).1=48/\([]:LI)=[]/\(qbs (qhf o) (qcy (qa1 (qhf o)).2.1 r).1).2.1=CV.agg [.int .i64 6,.sli .u8 b1,.slg 3 []]::r/\(qcy (qa1 (qhf o)).2.1 r).1.length<=16;obtain⟨q1,q2⟩:=xb1s g4;rw[qjf] at g5 ⊢;obtain⟨z1,z2⟩:=xbwy hr g5;have hne:=(q1q _ q1).2;have hu:qb3 (qaf (qhf o)).2.1<=16:=by
   rcases qot (qaf (qhf o)).2.1 with e|e|⟨_,_,e⟩
   ·rw[e];decide
   ·rw[e];decide
   ·rw[e];omega
  rw[xbpf hne z2, <- z1,q2,q73 hof hor,show qay o=b1 from(show qay o=qco o from qab _).trans hob];exact⟨rfl,rfl,rfl,rfl,by omega⟩
open IntWalk (i64_in u8_in u32_in u64_in i64_quo u8_quo rem_in)
def xbwn(l m:LI):qcr l m=decide (l=m):=by unfold qcr qny;rw[qab]
end Go.Proofs.YtoaakappnhemiaaGreatDoorA
