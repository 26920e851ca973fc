/-
 What the layers below come to (their lemmas, as far as this seat needs them). Conditions: each function's own.
-/
import Derived.Test.YtoaakappnhemiaaGreatDoorT2a
import Derived.Test.YtoaakappnhemiaaGreatDoorT2b
import Derived.Test.YtoaakappnhemiaaGreatDoorT2c
import Derived.Test.YtoaakappnhemiaaGreatDoorT3a
import Derived.IntWalk
set_option linter.unusedVariables false
set_option linter.unusedSimpArgs false
set_option maxRecDepth 100000
namespace Go.Proofs.YtoaakappnhemiaaGreatDoorA
open IntWalk (i64_in u8_in u32_in u64_in i64_quo u8_quo rem_in)
theorem xbqi{n:Nat}{x:List CV}(hn:isTf n x=true):1<=qd6 n x:=by obtain⟨n',t,b,l,rfl,rfl,_,hl⟩:=qdk hn;show 1<=1+b.length+_;omega
theorem xboq{g:CV->Nat}: ∀ {l:List CV} {c:CV},c∈l->g c<=(l.map g).sum
 | a::r,c,h=>by
  rw[zbe,zcf];rcases zav.1 h with rfl|h
  ·omega
  ·have:=xboq (g:=g) h;omega
theorem xbop{g:CV->Nat}: ∀ {l:List CV},(∀c∈l,1<=g c)->l.length<=(l.map g).sum
 | [],_=>by simp
 | a::r,h=>by rw[zbe,zcf,zac];have:=xbop (g:=g) (l:=r) fun c hc=>h c (za6 _ hc);have:=h a (zce ..);omega
theorem qm5{n:Nat}{t:Int}{b:List Int}{l:List CV}(h:isTf (n+1) [.int .i64 t,.sli .u8 b,.slg 3 l]=true){B:Nat}(hb:qd6 (n+1) [.int .i64 t,.sli .u8 b,.slg 3 l]<=B):
  b.length+1<=B/\l.length+1<=B/\(∀z∈b,0<=z/\z<=255)/\(∀c∈l, ∃y,c=.agg y/\isTf n y=true/\qd6 n y+1<=B)/\1+b.length+(l.map fun c=>qd6 n (cell1 c)).sum<=B:=by
 obtain⟨n',t',b',l',hn,he,h1,h2⟩:=qdk h;obtain rfl:n=n':=by omega
 simp only[zcl,CV.int.injEq,CV.sli.injEq,CV.slg.injEq,true_and,and_true] at he;obtain⟨rfl,rfl,rfl⟩:=he;have hb:1+b.length+(l.map fun c=>qd6 n (cell1 c)).sum<=B:=hb;have hs:=xbop (g:=fun c=>qd6 n (cell1 c)) (l:=l) fun c hc=>by obtain⟨y,rfl,hy⟩:=h2 c hc;exact xbqi hy
 refine⟨by omega,by omega,h1,fun c hc=> ?_,hb⟩;obtain⟨y,rfl,hy⟩:=h2 c hc;have hm:qd6 n y<=(l.map fun c=>qd6 n (cell1 c)).sum:=xboq (g:=fun c=>qd6 n (cell1 c)) hc;exact⟨y,rfl,hy,by omega⟩
theorem xbf1: ∀ {n:Nat} {x:List CV},isTf n x=true->qd6 n x<=30000->isNf n x=true
 | n,x,hn,hb=>by obtain⟨n',t,b,l,rfl,rfl,_,_⟩:=qdk hn;obtain⟨h1,h2,_,h3,_⟩:=qm5 hn hb;refine xb8s (by omega) (by omega) fun c hc=> ?_;obtain⟨y,rfl,hy,hyb⟩:=h3 c hc;exact⟨y,rfl,xbf1 hy (by omega)⟩
theorem qmr(t n:Int):((qcw t n).length:Int)=1+qas n:=by
 unfold qcw qas;rw[zac]
 repeat' split
 all_goals rfl
theorem qei(n:Int):1<=qas n/\qas n<=4:=by
 unfold qas
 repeat' split
 all_goals omega
theorem qqx{g:CV->List Int}{h:CV->Nat}: ∀ {l:List CV},(∀c∈l,(g c).length<=5*h c)->((l.map g).flatten).length<=5*(l.map h).sum
 | [],_=>by simp
 | a::r,hh=>by have:=hh a (zce ..);have:=qqx (g:=g) (h:=h) (l:=r) fun c hc=>hh c (za6 _ hc);simp only[zbe,zcz,zaf,zcf];omega
theorem qg6: ∀ {n:Nat} {x:List CV},isTf n x=true->(qaj n x).1.length<=5*qd6 n x
 | n,x,hn=>by
  obtain⟨n',t,b,l,rfl,rfl,_,hl⟩:=qdk hn;have hb:qd6 (n'+1) [.int .i64 t,.sli .u8 b,.slg 3 l]=1+b.length+(l.map fun c=>qd6 n' (cell1 c)).sum:=rfl;rw[hb];simp only[qaj];split
  ·have hf:=qqx (g:=fun c=>(qaj n' (cell1 c)).1) (h:=fun c=>qd6 n' (cell1 c)) (l:=l) fun c hc=>by obtain⟨y,rfl,hy⟩:=hl c hc;exact qg6 hy
   have e:((l.map fun c=>qaj n' (cell1 c)).map (·.1))=l.map fun c=>(qaj n' (cell1 c)).1:=by rw[zc6];rfl
   simp only[e];have hh:=qmr t (((l.map fun c=>(qaj n' (cell1 c)).1).flatten).length:Nat);have hr:=qei (((l.map fun c=>(qaj n' (cell1 c)).1).flatten).length:Nat);rw[zaf];omega
  ·have hh:=qmr t (b.length:Nat);have hr:=qei (b.length:Nat);simp only[zaf];omega
def sumL(f:CV->List Int):List CV->Int
 | []=>0
 | c::r=>(f c).length+sumL f r
theorem qe4(f:CV->List Int): ∀l:List CV,sumL f l=(((l.map f).flatten).length:Nat)
 | []=>rfl
 | c::r=>by simp only[sumL,zbe,zcz,zaf,qe4 f r];omega
theorem qz0(f:CV->List Int)(l:List CV)(i:Nat):0<=sumL f (l.drop i)/\sumL f (l.drop i)<=sumL f l:=by
 constructor
 ·rw[qe4];omega
 ·rw[qe4,qe4,zc9];have h: ∀(ls:List (List Int)) (i:Nat),((ls.drop i).flatten).length<=(ls.flatten).length:=fun ls=>by
   induction ls with
   | nil=>simp
   | cons a r ih=>
    intro i
    cases i with
    | zero=>exact zas _
    | succ i=>
     have:=ih i;simp only[zcn,zcz,zaf];omega
  have:=h (l.map f) i;omega
theorem xbhh(rk d:Nat)(deep:Int)(hd:1<=deep/\deep<=1000)(hdd:deep.toNat=d+1)(ka:List CV)(hlen:ka.length<=30000)(hall: ∀c∈ka, ∃y,c=.agg y/\isTf rk y=true/\qd6 rk y<=30000)(hsum:sumL (fun c=>(qaj rk (cell1 c)).1) ka<=150000)(k1:Int->Int->Int->List CV->Int->Int->List CV->Nat->Int->List Int->List CV->Int->List Int->List CV->Int->Int->Int->Int->Int->Int->Int->Bool->Int->Bool->Int->List Int->List CV->Option Out)(F:Int->Option Out): ∀(f i:Nat) (s:Int),i<=ka.length->ka.length<f+i->0<=s->s+sumL (fun c=>(qaj rk (cell1 c)).1) (ka.drop i)<=150000->
  qnp rk (fun _ _ _ _ _ _ _ _ _ _ _ _ _ _ _ _ _ _ _ _ _ _ _ _ _=>zI (-1)) k1 (fun _ y56 _ _ _=>F y56) f deep s ka (ka.length:Int) i=if(ka.drop i).all (fun c=>okF rk d (cell1 c))=true then F (s+sumL (fun c=>(qaj rk (cell1 c)).1) (ka.drop i)) else zI (-1)
 | 0,i,s,hi,hf,_,_=>by omega
 | f+1,i,s,hi,hf,h0,hs=>by
  show qnq rk (qnp rk (fun _ _ _ _ _ _ _ _ _ _ _ _ _ _ _ _ _ _ _ _ _ _ _ _ _=>zI (-1)) k1 (fun _ y56 _ _ _=>F y56) f) (fun _ _ _ _ _ _ _ _ _ _ _ _ _ _ _ _ _ _ _ _ _ _ _ _ _=>zI (-1)) k1 (fun _ y56 _ _ _=>F y56) deep s ka (ka.length:Int) i=_;unfold qnq;obtain⟨R,hR⟩: ∃R:Option Out,R=(if(ka.drop i).all (fun c=>okF rk d (cell1 c))=true then F (s+sumL (fun c=>(qaj rk (cell1 c)).1) (ka.drop i)) else zI (-1)):=⟨_,rfl⟩;rw[<- hR];refine qae (fun h=> ?_) fun h=> ?_
  ·obtain⟨c,hc⟩:=qb3 (b:=ka) (i:=i) (by omega);obtain⟨y,rfl,hy,hyb⟩:=hall c (zae hc);have ed:ka.drop i=.agg y::ka.drop (i+1):=by obtain⟨hlt,e⟩:=zad.1 hc;rw[zb1 hlt,e]
   refine qaq (by omega) (qaq h ?_);rw[show(i:Int).toNat=i from rfl,hc,zaj];obtain⟨m,t,b,l,hm,hye,_⟩:=qdk hy;simp only[cell1,hye,zba,zbu];refine qak rfl ?_;simp only[show IntKind.i64.wrap (deep - 1)=deep - 1 from i64_in _ (by omega),qfp,qcf,qbl];refine qak ?_ ?_
   ·simp only[zab];exact⟨q68 (hye▸hy) (hye▸hyb),qf8 (by omega)⟩
   ·have e:q5b [.int .i64 t,.sli .u8 b,.slg 3 l] (deep - 1)=if okF rk d y=true then((qaj rk y).1.length:Int) else -1:=by rw[<- hye,qy2 hy,show(deep - 1).toNat=d by omega]
    have es:sumL (fun c=>(qaj rk (cell1 c)).1) (ka.drop i)=((qaj rk y).1.length:Int)+sumL (fun c=>(qaj rk (cell1 c)).1) (ka.drop (i+1)):=by rw[ed];rfl
    have hpos:=(qz0 (fun c=>(qaj rk (cell1 c)).1) ka (i+1)).1;rw[es] at hs;rw[e];have ea:(ka.drop i).all (fun c=>okF rk d (cell1 c))=(okF rk d y&&(ka.drop (i+1)).all (fun c=>okF rk d (cell1 c))):=by rw[ed,zb0];rfl
    rw[ea,es] at hR;by_cases hok:okF rk d y=true
    ·rw[hok,zbt] at hR;rw[if_pos hok];refine qcq (by omega) ?_;rw[show IntKind.i64.wrap (s+((qaj rk y).1.length:Int))=s+((qaj rk y).1.length:Int) from i64_in _ (by omega)];refine qcq (by omega) ?_;rw[show IntKind.i64.wrap ((i:Int)+1)=((i+1:Nat):Int) from(i64_in _ (by omega)).trans (by omega)];refine(xbhh rk d deep hd hdd ka hlen hall hsum k1 F f (i+1) _ (by omega) (by omega) (by omega) (by omega)).trans ?_;rw[hR,Int.add_assoc]
    ·rw[if_neg hok];refine qaq (by omega) ?_;rw[hR,if_neg (by simp[hok])]
  ·rw[zbo (by omega)] at hR;rw[hR];show F s=if([]:List CV).all (fun c=>okF rk d (cell1 c))=true then F (s+0) else _
   rw[if_pos (by rfl),Int.add_zero]
theorem xb4l(rk:Nat)(ta:Int)(ba:List Int)(ka:List CV)(deep:Int)(hp:(isSr (rk+1) [.int .i64 ta,.sli .u8 ba,.slg 3 ka]&&qc2 deep)=true):xbrd rk ta ba ka deep=zI (q5b [.int .i64 ta,.sli .u8 ba,.slg 3 ka] deep):=by
 simp only[zab] at hp;obtain⟨ht,hb⟩:=qld hp.1;have hd:=qhz hp.2;obtain⟨h1,h2,h3,h4,h5⟩:=qm5 ht hb;rw[qy2 ht];unfold xbrd qeb qbm qc3 qcn;simp only[qab];refine qae (fun h=> ?_) fun h=> ?_
 ·subst h;rfl
 obtain⟨d,hdd⟩: ∃d,deep.toNat=d+1:=⟨deep.toNat - 1,by omega⟩;rw[hdd];have hokF:okF (rk+1) (d+1) [.int .i64 ta,.sli .u8 ba,.slg 3 ka]=(qbd ta&&(if qau ta=true then decide (ba=[])&&ka.all fun c=>okF rk d (cell1 c) else decide (ka=[])&&qbi ta ba)):=rfl;rw[hokF];refine qdg (fun hk=> ?_) fun hk=> ?_
 ·rw[if_neg (by simp only[zal] at hk;simp[hk])]
 have hk:qbd ta=true:=by simpa using hk
 rw[hk,zbt];have hflen:(((ka.map fun c=>(qaj rk (cell1 c)).1).flatten).length:Int)<=150000:=by
  have:=qqx (g:=fun c=>(qaj rk (cell1 c)).1) (h:=fun c=>qd6 rk (cell1 c)) (l:=ka) fun c hc=>by obtain⟨y,rfl,hy,_⟩:=h4 c hc;exact qg6 hy
  omega
 refine qdg (fun hx=> ?_) fun hx=> ?_
 ·rw[if_pos hx];refine qae (fun hba=> ?_) fun hba=> ?_
  ·rw[if_neg (by intro e;simp only[zab,decide_eq_true_eq] at e;rw[e.1] at hba;simp at hba)]
  ·obtain rfl:ba=[]:=zak (by omega);refine(xbhh rk d deep (by omega) hdd ka (by omega) (fun c hc=>by obtain⟨y,e,hy,hyb⟩:=h4 c hc;exact⟨y,e,hy,by omega⟩) (by rw[qe4];exact hflen) _ (fun n=>zI (IntKind.i64.wrap (IntKind.i64.wrap ((1:Int)+qas n)+n))) FUEL 0 0 (by omega) (by unfold FUEL;omega) (by omega) (by rw[zbx,qe4];omega)).trans ?_;rw[zbx,decide_eq_true (show([]:List Int)=[] from rfl),zbt,qe4,Int.zero_add];by_cases ha:(ka.all fun c=>okF rk d (cell1 c))=true
   ·rw[if_pos ha,if_pos ha];have hr:=qei (((ka.map fun c=>(qaj rk (cell1 c)).1).flatten).length:Nat);rw[show IntKind.i64.wrap ((1:Int)+qas (((ka.map fun c=>(qaj rk (cell1 c)).1).flatten).length:Nat))=1+qas (((ka.map fun c=>(qaj rk (cell1 c)).1).flatten).length:Nat) from i64_in _ (by omega)];rw[i64_in _ (show -9223372036854775808<=(1:Int)+qas (((ka.map fun c=>(qaj rk (cell1 c)).1).flatten).length:Nat)+(((ka.map fun c=>(qaj rk (cell1 c)).1).flatten).length:Nat)/\_<=9223372036854775807 by omega)];refine qmh ?_;simp only[qaj];rw[if_pos hx];have e:((ka.map fun c=>qaj rk (cell1 c)).map (·.1))=ka.map fun c=>(qaj rk (cell1 c)).1:=by rw[zc6];rfl
    simp only[e];rw[zaf];have hh:=qmr ta (((ka.map fun c=>(qaj rk (cell1 c)).1).flatten).length:Nat);omega
   ·rw[if_neg ha,if_neg ha]
 ·rw[if_neg (show ¬qau ta=true by simp[hx])];refine qae (fun hka=> ?_) fun hka=> ?_
  ·rw[if_neg (by intro e;simp only[zab,decide_eq_true_eq] at e;rw[e.1] at hka;simp at hka)]
  ·obtain rfl:ka=[]:=zak (by omega);refine qcq (by omega) (qak (qcm (by omega) h3) ?_);rw[decide_eq_true (show([]:List CV)=[] from rfl),zbt];refine qdg (fun hf=> ?_) fun hf=> ?_
   ·rw[if_neg (by simp only[zal] at hf;simp[hf])]
   ·rw[if_pos (by simpa using hf)];have hr:=qei (ba.length:Nat);rw[show IntKind.i64.wrap ((1:Int)+qas (ba.length:Nat))=1+qas (ba.length:Nat) from i64_in _ (by omega)];rw[i64_in _ (show -9223372036854775808<=(1:Int)+qas (ba.length:Nat)+(ba.length:Nat)/\_<=9223372036854775807 by omega)];refine qmh ?_;simp only[qaj];rw[if_neg (show ¬qau ta=true by simp[hx])];have hh:=qmr ta (ba.length:Nat);simp only[zaf];omega
open IntWalk (i64_in u8_in u32_in u64_in i64_quo u8_quo rem_in)
theorem qlf{t:Int}(h:qbd t=true):0<=t/\t<=255:=by unfold qbd qau at h;simp only[zbs,decide_eq_true_eq] at h;omega
theorem q64{t n:Int}(ht:0<=t/\t<=255)(hn:0<=n/\n<16777216): ∀z∈qcw t n,0<=z/\z<=255:=by
 intro z hz;unfold qcw at hz;rcases zav.1 hz with rfl|hz
 ·exact ht
 ·split at hz
  ·simp only[zav,zc4,or_false] at hz;omega
  ·split at hz
   ·simp only[zav,zc4,or_false] at hz;omega
   ·split at hz
    ·simp only[zav,zc4,or_false] at hz;omega
    ·simp only[zav,zc4,or_false] at hz;omega
theorem qkq{n d:Nat}{t:Int}{b:List Int}{l:List CV}(h:okF (n+1) d [.int .i64 t,.sli .u8 b,.slg 3 l]=true): ∃d',d=d'+1/\qbd t=true/\((qau t=true/\b=[]/\∀c∈l,okF n d' (cell1 c)=true)\/(qau t=false/\l=[]/\qbi t b=true)):=by
 cases d with
 | zero=>exact absurd h zb4
 | succ d=>
  have h:(qbd t&&(if qau t=true then decide (b=[])&&l.all fun c=>okF n d (cell1 c) else decide (l=[])&&qbi t b))=true:=h;rw[zab] at h;refine⟨d,rfl,h.1, ?_⟩;obtain⟨_,h⟩:=h;split at h
  ·rename_i hx;simp only[zab,decide_eq_true_eq,zai] at h;exact .inl ⟨hx,h⟩
  ·rename_i hx;simp only[zab,decide_eq_true_eq] at h;exact .inr ⟨by simpa using hx,h⟩
theorem qio{n:Nat}{t:Int}{b:List Int}{l:List CV}(hx:qau t=true):qaj (n+1) [.int .i64 t,.sli .u8 b,.slg 3 l]=(qcw t ((l.map fun c=>(qaj n (cell1 c)).1).flatten.length:Nat)++(l.map fun c=>(qaj n (cell1 c)).1).flatten,(l.all fun c=>(qaj n (cell1 c)).2)&&(!(decide (t=49))|| qba (l.map fun c=>(qaj n (cell1 c)).1))):=by
 simp only[qaj];rw[if_pos hx];have e:((l.map fun c=>qaj n (cell1 c)).map (·.1))=l.map fun c=>(qaj n (cell1 c)).1:=by rw[zc6];rfl
 have e2:((l.map fun c=>qaj n (cell1 c)).all (·.2))=l.all fun c=>(qaj n (cell1 c)).2:=by rw[List.all_map];rfl
 simp only[e,e2]
theorem qhw{n:Nat}{t:Int}{b:List Int}{l:List CV}(hx:qau t=false):qaj (n+1) [.int .i64 t,.sli .u8 b,.slg 3 l]=(qcw t (b.length:Nat)++b,true):=by simp only[qaj];rw[if_neg (show ¬qau t=true by simp[hx])]
theorem flat5{n:Nat}{l:List CV}{B:Nat}(hl: ∀c∈l, ∃y,c=.agg y/\isTf n y=true)(hb:(l.map fun c=>qd6 n (cell1 c)).sum<=B):((l.map fun c=>(qaj n (cell1 c)).1).flatten).length<=5*B:=by
 have:=qqx (g:=fun c=>(qaj n (cell1 c)).1) (h:=fun c=>qd6 n (cell1 c)) (l:=l) fun c hc=>by obtain⟨y,rfl,hy⟩:=hl c hc;exact qg6 hy
 omega
theorem qj2: ∀ {n d:Nat} {x:List CV},isTf n x=true->qd6 n x<=30000->okF n d x=true->∀z∈(qaj n x).1,0<=z/\z<=255
 | n,d,x,hn,hb,hok=>by
  obtain⟨n',t,b,l,rfl,rfl,hbb,hl⟩:=qdk hn;obtain⟨h1,h2,h3,h4,h5⟩:=qm5 hn hb;obtain⟨d',rfl,hk,h⟩:=qkq hok;rcases h with⟨hx,rfl,hall⟩|⟨hx,rfl,hf⟩
  ·rw[qio hx];have hfl:=flat5 (B:=30000) hl (by omega);intro z hz;rcases zap.1 hz with hz|hz
   ·exact q64 (qlf hk) (by omega) z hz
   ·obtain⟨r,hr,hz⟩:=List.mem_flatten.1 hz;obtain⟨c,hc,rfl⟩:=zbp.1 hr;obtain⟨y,rfl,hy,hyb⟩:=h4 c hc;exact qj2 hy (by omega) (hall _ hc) z hz
  ·rw[qhw hx];intro z hz;rcases zap.1 hz with hz|hz
   ·exact q64 (qlf hk) (by omega) z hz
   ·exact h3 z hz
theorem qtt(R:List (List Int)):qd5 (R.map (CV.sli .u8))=R.flatten:=by unfold qd5;rw[qab,List.flatMap_map];show R.flatMap (fun x=>x)=_;rw[List.flatMap_id']
theorem xbe3{R:List (List Int)}(h1:R.length<=1000000)(h2: ∀x∈R,rowB x=true)(h3:R.flatten.length<=1000000):qpc (R.map (CV.sli .u8))=true:=by
 unfold qpc;rw[qab];simp only[zab,decide_eq_true_eq,zai,zaw,zbp];refine⟨h1,fun x hx=> ?_, ?_⟩
 ·obtain⟨y,hy,rfl⟩:=hx;exact h2 y hy
 ·have:=qtt R;unfold qd5 at this;rw[qab] at this;rw[this];exact h3
noncomputable def badW:Option Out:=zR [.cl (.sli .u8 []),.cl (.bool false)] []
noncomputable def xb2z(t s:Int)(rows:List CV):Option Out:=
 cond (ql8 t s) (cond (qpc rows) (cond (Nat.ble ((qd3 t s++qd5 rows).length*1) LIMN) (cond (Nat.ble ((qd3 t s++qd5 rows).length) LIMN) (zR [.cl (.sli .u8 (qd3 t s++qd5 rows)),.cl (.bool true)] []) none) none) none) none
noncomputable def finW(t s:Int)(rows:List CV):Option Out:=
 cond (decide (t=49)) (cond (qij rows) (cond (!(qbv rows)) badW (xb2z t s rows)) none) (xb2z t s rows)
theorem xb6w{t:Int}{R:List (List Int)}(ht:0<=t/\t<=255)(h1:R.length<=30000)(h2: ∀x∈R,rowB x=true)(h3:R.flatten.length<=150000):
  finW t (R.flatten.length:Int) (R.map (CV.sli .u8))=if(!(decide (t=49))|| qba R)=true then zR [.cl (.sli .u8 (qcw t (R.flatten.length:Nat)++R.flatten)),.cl (.bool true)] [] else badW:=by
 have hh:xb2z t (R.flatten.length:Int) (R.map (CV.sli .u8))=zR [.cl (.sli .u8 (qcw t (R.flatten.length:Nat)++R.flatten)),.cl (.bool true)] []:=by unfold xb2z qd3;rw[qab,qtt];have hl:=qmr t (R.flatten.length:Nat);have hr:=qei (R.flatten.length:Nat);refine qak ?_ (qak (xbe3 (by omega) h2 (by omega)) (qdj (by simp only[zaf];omega) (qdj (by simp only[zaf];omega) rfl)));unfold ql8;rw[qab];exact decide_eq_true (by omega)
 unfold finW;rw[hh,qjf];refine qae (fun h=>qak (qtu (by omega) h2) (qdg (fun h9=> ?_) fun h9=> ?_)) fun h=> ?_
 ·rw[if_neg (by simp only[zal] at h9;simp[h,h9])]
 ·rw[if_pos (by simp only[Bool.not_eq_false'] at h9;simp[h9])]
 ·rw[if_pos (by simp[h])]
theorem xb0o{n d:Nat}{l:List CV}(h4: ∀c∈l, ∃y,c=.agg y/\isTf n y=true/\qd6 n y+1<=30000)(hall: ∀c∈l,okF n d (cell1 c)=true): ∀x∈(l.map fun c=>(qaj n (cell1 c)).1),rowB x=true:=by intro x hx;obtain⟨c,hc,rfl⟩:=zbp.1 hx;obtain⟨y,rfl,hy,hyb⟩:=h4 c hc;have h1:=qg6 hy;have h2:=qj2 hy (by omega) (hall _ hc);unfold rowB;simp only[zab,decide_eq_true_eq,zai];exact⟨by show(qaj n y).1.length<=_;omega,fun z hz=>decide_eq_true (h2 z hz)⟩
open IntWalk (i64_in u8_in u32_in u64_in i64_quo u8_quo rem_in)
theorem q8k(rk d:Nat)(deep ta:Int)(ba:List Int)(hd:1<=deep/\deep<=1000)(hdd:deep.toNat=d+1)(ka:List CV)(hlen:ka.length<=30000)(hall: ∀c∈ka, ∃y,c=.agg y/\isTf rk y=true/\qd6 rk y+1<=30000): ∀(f i:Nat) (s:Int) (rows:List CV),i<=ka.length->ka.length<f+i->0<=s->s+sumL (fun c=>(qaj rk (cell1 c)).1) (ka.drop i)<=150000->rows.length=i->
  qib rk (fun _ _ _ _ _ _ _ _ _ _ _ _ _ _ _ _ _ _ _ _ _ _ _ _ _ _ _ _ _ _ _ _ _ _=>badW) (fun _ _ _ _ _ _ _ _ _ _ _ _ _ _ _ _ _ _ _ _ _ _ _ _ _ _ _ _ _ _ _ _ _ _ _ _=>badW) (fun _ _ y79 _ _ _ _ y84 _ _ y87=>finW y84 y79 y87) f deep rows.length s i ta ba ka rows=if(ka.drop i).all (fun c=>okF rk d (cell1 c)&&(qaj rk (cell1 c)).2)=true then finW ta (s+sumL (fun c=>(qaj rk (cell1 c)).1) (ka.drop i)) (rows++(ka.drop i).map fun c=>.sli .u8 (qaj rk (cell1 c)).1) else badW
 | 0,i,s,rows,hi,hf,_,_,_=>by omega
 | f+1,i,s,rows,hi,hf,h0,hs,hr=>by
  show qi5 rk (qib rk (fun _ _ _ _ _ _ _ _ _ _ _ _ _ _ _ _ _ _ _ _ _ _ _ _ _ _ _ _ _ _ _ _ _ _=>badW) (fun _ _ _ _ _ _ _ _ _ _ _ _ _ _ _ _ _ _ _ _ _ _ _ _ _ _ _ _ _ _ _ _ _ _ _ _=>badW) (fun _ _ y79 _ _ _ _ y84 _ _ y87=>finW y84 y79 y87) f) (fun _ _ _ _ _ _ _ _ _ _ _ _ _ _ _ _ _ _ _ _ _ _ _ _ _ _ _ _ _ _ _ _ _ _=>badW) (fun _ _ _ _ _ _ _ _ _ _ _ _ _ _ _ _ _ _ _ _ _ _ _ _ _ _ _ _ _ _ _ _ _ _ _ _=>badW) (fun _ _ y79 _ _ _ _ y84 _ _ y87=>finW y84 y79 y87) deep rows.length s i ta ba ka rows=_;unfold qi5;obtain⟨R,hR⟩: ∃R:Option Out,R=if(ka.drop i).all (fun c=>okF rk d (cell1 c)&&(qaj rk (cell1 c)).2)=true then finW ta (s+sumL (fun c=>(qaj rk (cell1 c)).1) (ka.drop i)) (rows++(ka.drop i).map fun c=>.sli .u8 (qaj rk (cell1 c)).1) else badW:=⟨_,rfl⟩
  rw[<- hR];refine qae (fun h=> ?_) fun h=> ?_
  ·obtain⟨c,hc⟩:=qb3 (b:=ka) (i:=i) (by omega);obtain⟨y,rfl,hy,hyb⟩:=hall c (zae hc);have ed:ka.drop i=.agg y::ka.drop (i+1):=by obtain⟨hlt,e⟩:=zad.1 hc;rw[zb1 hlt,e]
   refine qaq (by omega) (qaq h ?_);rw[show(i:Int).toNat=i from rfl,hc,zaj];obtain⟨m,t,b,l,hm,hye,_⟩:=qdk hy;simp only[cell1,hye,zba,zbu];refine qak rfl ?_;simp only[show IntKind.i64.wrap (deep - 1)=deep - 1 from i64_in _ (by omega),qfp,qcf,qbl];refine qak ?_ ?_
   ·simp only[zab];exact⟨q68 (hye▸hy) (hye▸(by omega)),qf8 (by omega)⟩
   ·have e:qg0 [.int .i64 t,.sli .u8 b,.slg 3 l] (deep - 1)=if okF rk d y=true/\(qaj rk y).2=true then((qaj rk y).1,true) else([],false):=by rw[<- hye,qpk hy,show(deep - 1).toNat=d by omega]
    have es:sumL (fun c=>(qaj rk (cell1 c)).1) (ka.drop i)=((qaj rk y).1.length:Int)+sumL (fun c=>(qaj rk (cell1 c)).1) (ka.drop (i+1)):=by rw[ed];rfl
    have hpos:=(qz0 (fun c=>(qaj rk (cell1 c)).1) ka (i+1)).1;rw[es] at hs hR;have em:((ka.drop i).map fun c=>CV.sli .u8 (qaj rk (cell1 c)).1)=.sli .u8 (qaj rk y).1::(ka.drop (i+1)).map fun c=>.sli .u8 (qaj rk (cell1 c)).1:=by rw[ed];rfl
    have ea:(ka.drop i).all (fun c=>okF rk d (cell1 c)&&(qaj rk (cell1 c)).2)=((okF rk d y&&(qaj rk y).2)&&(ka.drop (i+1)).all (fun c=>okF rk d (cell1 c)&&(qaj rk (cell1 c)).2)):=by rw[ed,zb0];rfl
    rw[ea,em] at hR;by_cases hok:okF rk d y=true/\(qaj rk y).2=true
    ·rw[if_pos hok] at e;rw[hok.1,hok.2,Bool.and_self,zbt] at hR;simp only[e];refine xbbe rfl ?_;rw[show IntKind.i64.wrap (s+((qaj rk y).1.length:Int))=s+((qaj rk y).1.length:Int) from i64_in _ (by omega)];refine qcq (by omega) ?_;refine qdj (by simp only[zaf,zaz];omega) (qdj (by simp only[zaf,zaz];omega) ?_);rw[show IntKind.i64.wrap ((i:Int)+1)=((i+1:Nat):Int) from(i64_in _ (by omega)).trans (by omega)];refine(q8k rk d deep ta ba hd hdd ka hlen hall f (i+1) _ _ (by omega) (by omega) (by omega) (by omega) (by simp only[zaf,zaz];omega)).trans ?_;rw[hR,Int.add_assoc,zci];rfl
    ·rw[if_neg hok] at e;simp only[e];refine qak rfl ?_;rw[hR,if_neg (by intro h;simp only[zab] at h;exact hok h.1)]
  ·rw[zbo (by omega)] at hR;rw[hR];show finW ta s rows=if([]:List CV).all (fun c=>okF rk d (cell1 c)&&(qaj rk (cell1 c)).2)=true then finW ta (s+0) (rows++[]) else _
   rw[if_pos (by rfl),Int.add_zero,zbz]
theorem xbgy(n:Nat)(l:List CV):(l.map fun c=>CV.sli .u8 (qaj n (cell1 c)).1)=(l.map fun c=>(qaj n (cell1 c)).1).map (CV.sli .u8):=by rw[zc6];rfl
theorem xbzg(rk:Nat)(ta:Int)(ba:List Int)(ka:List CV)(deep:Int)(hp:(isSr (rk+1) [.int .i64 ta,.sli .u8 ba,.slg 3 ka]&&qc2 deep)=true):xbeq rk ta ba ka deep=zR [.cl (.sli .u8 (qg0 [.int .i64 ta,.sli .u8 ba,.slg 3 ka] deep).1),.cl (.bool (qg0 [.int .i64 ta,.sli .u8 ba,.slg 3 ka] deep).2)] []:=by
 simp only[zab] at hp;obtain⟨ht,hb⟩:=qld hp.1;have hd:=qhz hp.2;obtain⟨h1,h2,h3,h4,h5⟩:=qm5 ht hb;rw[qpk ht];have bad: ∀P:Prop,[Decidable P]-> ¬P->∀q:List Int×Bool,badW=zR [.cl (.sli .u8 (if P then q else([],false):List Int×Bool).1),.cl (.bool (if P then q else([],false):List Int×Bool).2)] []:=fun P _ h q=>by rw[if_neg h];rfl
 unfold xbeq qeb qbm qc3;simp only[qab];refine qae (fun h=> ?_) fun h=> ?_
 ·subst h;exact bad _ (fun e=>absurd e.1 zb4) _
 obtain⟨d,hdd⟩: ∃d,deep.toNat=d+1:=⟨deep.toNat - 1,by omega⟩;rw[hdd];refine qdg (fun hk=> ?_) fun hk=> ?_
 ·exact bad _ (fun e=>by obtain⟨_,_,h,_⟩:=qkq e.1;simp[h] at hk) _
 have hk:qbd ta=true:=by simpa using hk
 have hflen:=flat5 (n:=rk) (l:=ka) (B:=30000) (fun c hc=>by obtain⟨y,e,hy,_⟩:=h4 c hc;exact⟨y,e,hy⟩) (by omega);refine qdg (fun hx=> ?_) fun hx=> ?_
 ·have hx:qau ta=false:=by simpa using hx
  refine qae (fun hka=> ?_) fun hka=> ?_
  ·exact bad _ (fun e=>by
    obtain⟨_,_,_,h|h⟩:=qkq e.1
    ·simp[hx] at h
    ·rw[h.2.1] at hka;simp at hka) _
  ·obtain rfl:ka=[]:=zak (by omega);refine qcq (by omega) (qak (qcm (by omega) h3) ?_);refine qdg (fun hf=> ?_) fun hf=> ?_
   ·exact bad _ (fun e=>by
     obtain⟨_,_,_,h|h⟩:=qkq e.1
     ·simp[hx] at h
     ·simp[h.2.2] at hf) _
   ·have hf:qbi ta ba=true:=by simpa using hf
    have hok:okF (rk+1) (d+1) [.int .i64 ta,.sli .u8 ba,.slg 3 []]=true:=by show(qbd ta&&(if qau ta=true then _ else decide (([]:List CV)=[])&&qbi ta ba))=true;rw[if_neg (by simp[hx]),hk,hf];rfl
    rw[qhw hx,if_pos ⟨hok,rfl⟩];have hr:=qmr ta (ba.length:Nat);have hr2:=qei (ba.length:Nat);unfold qd3;simp only[qab];have:=qlf hk;refine qak (by unfold ql8;rw[qab];exact decide_eq_true (by omega)) (qdj (by simp only[zaf];omega) (qdj (by simp only[zaf];omega) rfl))
 ·have hx:qau ta=true:=by simpa using hx
  refine qae (fun hba=> ?_) fun hba=> ?_
  ·exact bad _ (fun e=>by
    obtain⟨_,_,_,h|h⟩:=qkq e.1
    ·rw[h.2.1] at hba;simp at hba
    ·simp[hx] at h) _
  ·obtain rfl:ba=[]:=zak (by omega);refine(q8k rk d deep ta [] (by omega) hdd ka (by omega) h4 FUEL 0 0 [] (by omega) (by unfold FUEL;omega) (by omega) (by rw[zbx,qe4];omega) rfl).trans ?_;rw[zbx,qe4,Int.zero_add,za7,xbgy];by_cases ha:(ka.all fun c=>okF rk d (cell1 c)&&(qaj rk (cell1 c)).2)=true
   ·rw[if_pos ha];simp only[zai,zab] at ha;have hok:okF (rk+1) (d+1) [.int .i64 ta,.sli .u8 [],.slg 3 ka]=true:=by show(qbd ta&&(if qau ta=true then decide (([]:List Int)=[])&&ka.all fun c=>okF rk d (cell1 c) else _))=true;rw[if_pos hx,hk];simp only[zbt,decide_true,zai];exact fun c hc=>(ha c hc).1
    rw[xb6w (qlf hk) (by rw[zaw];omega) (xb0o h4 fun c hc=>(ha c hc).1) (by omega),qio hx];have h2':(ka.all fun c=>(qaj rk (cell1 c)).2)=true:=by simp only[zai];exact fun c hc=>(ha c hc).2
    rw[h2',zbt];by_cases hs:(!(decide (ta=49))|| qba (ka.map fun c=>(qaj rk (cell1 c)).1))=true
    ·rw[if_pos hs,if_pos ⟨hok,hs⟩]
    ·rw[if_neg hs];exact bad _ (fun e=>hs e.2) _
   ·rw[if_neg ha];refine bad _ (fun e=>ha ?_) _;obtain⟨d',e1,_,h|h⟩:=qkq e.1
    ·obtain rfl:d=d':=by omega
     have e2:=e.2;rw[qio hx] at e2;simp only[zab,zai] at e2 ⊢;exact fun c hc=>⟨h.2.2 c hc,e2.1 c hc⟩
    ·simp[hx] at h
open IntWalk (i64_in u8_in u32_in u64_in i64_quo u8_quo rem_in)
theorem q6j(rk d:Nat)(ta:Int)(ba:List Int)(ka kb:List CV)(hlen:ka.length<=30000)(hall: ∀c∈ka, ∃y,c=.agg y/\isTf rk y=true/\qd6 rk y+1<=30000)(hok: ∀c∈ka,okF rk d (cell1 c)=true): ∀(f i:Nat) (s:Int),i<=ka.length->ka.length<f+i->0<=s->s+sumL (fun c=>(qaj rk (cell1 c)).1) (ka.drop i)<=150000->
  qkg rk (fun _ _ _ _ _ _ _ _ _ _ _ _ _ _ _ _ _ _ _ _ _ _ _ _ _ _ _ _ _ _ _=>badW) (fun _ y37 _ _ _ y41 _ _ y44=>finW y41 y37 y44) f ka.length s ka (ka.length:Int) i ta ba kb (((ka.take i).map fun c=>CV.sli .u8 (qaj rk (cell1 c)).1)++List.replicate (ka.length - i) (.sli .u8 []))=if(ka.drop i).all (fun c=>(qaj rk (cell1 c)).2)=true then finW ta (s+sumL (fun c=>(qaj rk (cell1 c)).1) (ka.drop i)) (ka.map fun c=>.sli .u8 (qaj rk (cell1 c)).1) else badW
 | 0,i,s,hi,hf,_,_=>by omega
 | f+1,i,s,hi,hf,h0,hs=>by
  show qlk rk (qkg rk (fun _ _ _ _ _ _ _ _ _ _ _ _ _ _ _ _ _ _ _ _ _ _ _ _ _ _ _ _ _ _ _=>badW) (fun _ y37 _ _ _ y41 _ _ y44=>finW y41 y37 y44) f) (fun _ _ _ _ _ _ _ _ _ _ _ _ _ _ _ _ _ _ _ _ _ _ _ _ _ _ _ _ _ _ _=>badW) (fun _ y37 _ _ _ y41 _ _ y44=>finW y41 y37 y44) ka.length s ka (ka.length:Int) i ta ba kb (((ka.take i).map fun c=>CV.sli .u8 (qaj rk (cell1 c)).1)++List.replicate (ka.length - i) (.sli .u8 []))=_;unfold qlk;obtain⟨R,hR⟩: ∃R:Option Out,R=if(ka.drop i).all (fun c=>(qaj rk (cell1 c)).2)=true then finW ta (s+sumL (fun c=>(qaj rk (cell1 c)).1) (ka.drop i)) (ka.map fun c=>.sli .u8 (qaj rk (cell1 c)).1) else badW:=⟨_,rfl⟩
  rw[<- hR];obtain⟨W,hW⟩: ∃W:List CV,W=((ka.take i).map fun c=>CV.sli .u8 (qaj rk (cell1 c)).1)++List.replicate (ka.length - i) (.sli .u8 []):=⟨_,rfl⟩;rw[<- hW];refine qae (fun h=> ?_) fun h=> ?_
  ·obtain⟨c,hc⟩:=qb3 (b:=ka) (i:=i) (by omega);obtain⟨y,rfl,hy,hyb⟩:=hall c (zae hc);have hoky:okF rk d y=true:=hok _ (zae hc);have ed:ka.drop i=.agg y::ka.drop (i+1):=by obtain⟨hlt,e⟩:=zad.1 hc;rw[zb1 hlt,e]
   refine qaq (by omega) (qaq h ?_);rw[show(i:Int).toNat=i from rfl,hc,zaj];obtain⟨m,t,b,l,hm,hye,_⟩:=qdk hy;have hset:W.set (0+i) (.sli .u8 (qaj rk y).1)=((ka.take (i+1)).map fun c=>CV.sli .u8 (qaj rk (cell1 c)).1)++List.replicate (ka.length - (i+1)) (.sli .u8 []):=by
    rw[hW,zay,List.set_append_right _ _ (by simp;omega)];have e1:i - ((ka.take i).map fun c=>CV.sli .u8 (qaj rk (cell1 c)).1).length=0:=by simp;omega
    rw[e1,show ka.length - i=(ka.length - (i+1))+1 by omega,List.replicate_succ,List.set_cons_zero];have e2:ka.take (i+1)=ka.take i++[.agg y]:=by rw[List.take_add_one,hc];rfl
    rw[e2,List.map_append,zci];rfl
   simp only[cell1,hye,zba,zbu];refine qak rfl ?_;simp only[qfp,qcf,qbl];refine qak ?_ ?_
   ·exact xbnr ⟨hye▸hy,hye▸(by omega),d,hye▸hoky⟩
   ·have e:qko [.int .i64 t,.sli .u8 b,.slg 3 l]=if(qaj rk y).2=true then((qaj rk y).1,true) else([],false):=by rw[<- hye,qtf hy]
    have es:sumL (fun c=>(qaj rk (cell1 c)).1) (ka.drop i)=((qaj rk y).1.length:Int)+sumL (fun c=>(qaj rk (cell1 c)).1) (ka.drop (i+1)):=by rw[ed];rfl
    have hpos:=(qz0 (fun c=>(qaj rk (cell1 c)).1) ka (i+1)).1;rw[es] at hs hR;have ea:(ka.drop i).all (fun c=>(qaj rk (cell1 c)).2)=((qaj rk y).2&&(ka.drop (i+1)).all (fun c=>(qaj rk (cell1 c)).2)):=by rw[ed,zb0];rfl
    rw[ea] at hR;by_cases hk:(qaj rk y).2=true
    ·rw[if_pos hk] at e;rw[hk,zbt] at hR;simp only[e];refine xbbe rfl ?_;rw[show IntKind.i64.wrap (s+((qaj rk y).1.length:Int))=s+((qaj rk y).1.length:Int) from i64_in _ (by omega)];refine qaq (by omega) (qaq h ?_);rw[hset,show IntKind.i64.wrap ((i:Int)+1)=((i+1:Nat):Int) from(i64_in _ (by omega)).trans (by omega)];refine(q6j rk d ta ba ka kb hlen hall hok f (i+1) _ (by omega) (by omega) (by omega) (by omega)).trans ?_;rw[hR,Int.add_assoc]
    ·rw[if_neg hk] at e;simp only[e];refine qak rfl ?_;rw[hR,if_neg (by intro h;simp only[zab] at h;exact hk h.1)]
  ·obtain rfl:i=ka.length:=by omega
   rw[zbo (zas _)] at hR;rw[hR,hW,zc2,Nat.sub_self];show finW ta s ((ka.map fun c=>CV.sli .u8 (qaj rk (cell1 c)).1)++[])=if([]:List CV).all (fun c=>(qaj rk (cell1 c)).2)=true then finW ta (s+0) _ else _
   rw[if_pos (by rfl),Int.add_zero,zbz]
theorem xbyt(rk:Nat)(ta:Int)(ba:List Int)(ka:List CV)(hp:isWr (rk+1) [.int .i64 ta,.sli .u8 ba,.slg 3 ka]=true):xbd2 rk ta ba ka=zR [.cl (.sli .u8 (qko [.int .i64 ta,.sli .u8 ba,.slg 3 ka]).1),.cl (.bool (qko [.int .i64 ta,.sli .u8 ba,.slg 3 ka]).2)] []:=by
 obtain⟨ht,hb,d,hok⟩:=qye hp;obtain⟨h1,h2,h3,h4,h5⟩:=qm5 ht hb;obtain⟨d',rfl,hk,h⟩:=qkq hok;rw[qtf ht];unfold xbd2 qbm;simp only[qab];rcases h with⟨hx,rfl,hall⟩|⟨hx,rfl,hf⟩
 ·have hflen:=flat5 (n:=rk) (l:=ka) (B:=30000) (fun c hc=>by obtain⟨y,e,hy,_⟩:=h4 c hc;exact⟨y,e,hy⟩) (by simp only[zbr] at h5;omega);refine xbbe (by simp[hx]) (qaq (by omega) (qaq (by omega) (qaq (by unfold LIM;omega) (qaq (by unfold LIM;omega) ?_))));refine(q6j rk d' ta [] ka ka (by omega) h4 hall FUEL 0 0 (by omega) (by unfold FUEL;omega) (by omega) (by rw[zbx,qe4];omega)).trans ?_;rw[zbx,qe4,Int.zero_add,xbgy,qio hx];by_cases ha:(ka.all fun c=>(qaj rk (cell1 c)).2)=true
  ·rw[if_pos ha,xb6w (qlf hk) (by rw[zaw];omega) (xb0o h4 hall) (by omega),ha,zbt];by_cases hs:(!(decide (ta=49))|| qba (ka.map fun c=>(qaj rk (cell1 c)).1))=true
   ·rw[if_pos hs,if_pos hs]
   ·rw[if_neg hs,if_neg hs];rfl
  ·rw[if_neg ha];have hf:(ka.all fun c=>(qaj rk (cell1 c)).2)=false:=by simpa using ha
   rw[hf,zdc];rfl
 ·have hr:=qmr ta (ba.length:Nat);have hr2:=qei (ba.length:Nat);have:=qlf hk;unfold qd3;simp only[qab];rw[qhw hx];refine qak (by simp[hx]) (qak (by unfold ql8;rw[qab];exact decide_eq_true (by omega)) (qdj (by simp only[zaf];omega) (qdj (by simp only[zaf];omega) rfl)))
theorem xbzb(ta:Int)(ba:List Int)(ka:List CV)(hp:isS [.int .i64 ta,.sli .u8 ba,.slg 3 ka]=true):xbeg ta ba ka=zR [.cl (.sli .u8 (qbf [.int .i64 ta,.sli .u8 ba,.slg 3 ka]).1),.cl (.int .i64 (qbf [.int .i64 ta,.sli .u8 ba,.slg 3 ka]).2)] []:=by
 obtain⟨n,ht,hb⟩:=qdp hp;have hl:=qg6 ht;unfold xbeg;refine qak (by rw[hp,qf8 (by omega)];rfl) ?_;simp only[qpk ht,qgz ht,show(32:Int).toNat=32 from rfl];by_cases h:okF n 32 [.int .i64 ta,.sli .u8 ba,.slg 3 ka]=true/\(qaj n [.int .i64 ta,.sli .u8 ba,.slg 3 ka]).2=true
 ·simp only[if_pos h];exact xbbe rfl (qcq (by omega) rfl)
 ·simp only[if_neg h];exact qak rfl rfl
theorem xbym(ta:Int)(ba:List Int)(ka:List CV)(hp:isS [.int .i64 ta,.sli .u8 ba,.slg 3 ka]=true):xbdt ta ba ka=zR [.cl (.sli .u8 (qbf [.int .i64 ta,.sli .u8 ba,.slg 3 ka]).1),.cl (.int .i64 (qbf [.int .i64 ta,.sli .u8 ba,.slg 3 ka]).2)] []:=by
 obtain⟨n,ht,hb⟩:=qdp hp;have hl:=qg6 ht;unfold xbdt;refine qak (by rw[hp,qf8 (by omega)];rfl) ?_;rw[qy2 ht,show(32:Int).toNat=32 from rfl];by_cases hok:okF n 32 [.int .i64 ta,.sli .u8 ba,.slg 3 ka]=true
 ·simp only[if_pos hok];refine qcq (by omega) (qcq (by omega) (qak (xb38 ⟨ht,hb,32,hok⟩) ?_));simp only[qtf ht,qgz ht];by_cases h:(qaj n [.int .i64 ta,.sli .u8 ba,.slg 3 ka]).2=true
  ·simp only[if_pos h,if_pos (show okF n 32 [.int .i64 ta,.sli .u8 ba,.slg 3 ka]=true/\(qaj n [.int .i64 ta,.sli .u8 ba,.slg 3 ka]).2=true from⟨hok,h⟩)];exact xbbe rfl rfl
  ·simp only[if_neg h,if_neg (show ¬(okF n 32 [.int .i64 ta,.sli .u8 ba,.slg 3 ka]=true/\(qaj n [.int .i64 ta,.sli .u8 ba,.slg 3 ka]).2=true) from fun e=>h e.2)];exact qak rfl rfl
 ·simp only[if_neg hok,qgz ht,if_neg (show ¬(okF n 32 [.int .i64 ta,.sli .u8 ba,.slg 3 ka]=true/\(qaj n [.int .i64 ta,.sli .u8 ba,.slg 3 ka]).2=true) from fun e=>hok e.1)];exact qaq (by omega) rfl
theorem qx3{n:Nat}{a:List CV}(ht:isTf n a=true):decide ((qbf a).2=0)=qul a:=by
 rw[qgz ht,qyy ht];by_cases h:okF n 32 a=true/\(qaj n a).2=true
 ·rw[if_pos h,decide_eq_true h];rfl
 ·rw[if_neg h,decide_eq_false h];rfl
theorem xb48(ta:Int)(ba:List Int)(ka:List CV)(hp:isS [.int .i64 ta,.sli .u8 ba,.slg 3 ka]=true):xbrh ta ba ka=zB (qul [.int .i64 ta,.sli .u8 ba,.slg 3 ka]):=by obtain⟨n,ht,hb⟩:=qdp hp;unfold xbrh;exact qak hp (qa7 (qx3 ht))
theorem xb4h(ta:Int)(ba:List Int)(ka:List CV)(hp:isS [.int .i64 ta,.sli .u8 ba,.slg 3 ka]=true):xbra ta ba ka=zB (qul [.int .i64 ta,.sli .u8 ba,.slg 3 ka]):=by obtain⟨n,ht,hb⟩:=qdp hp;unfold xbra;exact qak hp (qa7 (qx3 ht))
open IntWalk (i64_in u8_in u32_in u64_in i64_quo u8_quo rem_in)
theorem xbxp{a:List CV}(h:isS a=true):isN a=true:=by obtain⟨n,hn,hb⟩:=qdp h;exact xbxq (xbf1 hn hb)
def lenB(n:Int):List Int:=if n<128 then[n] else if n<256 then[129,n] else if n<65536 then[130,n/ 256,n % 256] else[131,n/ 65536,n/ 256 % 256,n % 256]
theorem qlc(t n:Int):qcw t n=t::lenB n:=rfl
theorem qyi(n:Int):((lenB n).length:Int)=qas n:=by
 unfold lenB qas
 repeat' split
 all_goals rfl
theorem xbx3(n:Int)(h0:0<=n)(h1:n<16777216)(c:List Int):qac (lenB n++c)=(n,qas n):=by
 unfold lenB qas;split
 ·rename_i h;rw[List.singleton_append,qbx,if_pos h]
 ·rename_i h;split
  ·rename_i h2;show qac (129::n::c)=_;rw[qbx,if_neg (by omega),if_neg (by simp only[zac];omega)];have e:qar ((n::c).take (129 - 128:Int).toNat)=n:=by show(0:Int)*256+n=n;omega
   rw[e,if_neg (by simp only[zba];omega)];rfl
  ·rename_i h2;split
   ·rename_i h3;show qac (130::n/ 256::n % 256::c)=_;rw[qbx,if_neg (by omega),if_neg (by simp only[zac];omega)];have e:qar ((n/ 256::n % 256::c).take (130 - 128:Int).toNat)=n:=by show((0:Int)*256+n/ 256)*256+n % 256=n;omega
    rw[e,if_neg (by simp only[zba];omega)];rfl
   ·rename_i h3;show qac (131::n/ 65536::n/ 256 % 256::n % 256::c)=_;rw[qbx,if_neg (by omega),if_neg (by simp only[zac];omega)];have e:qar ((n/ 65536::n/ 256 % 256::n % 256::c).take (131 - 128:Int).toNat)=n:=by show(((0:Int)*256+n/ 65536)*256+n/ 256 % 256)*256+n % 256=n;omega
    rw[e,if_neg (by simp only[zba];omega)];rfl
theorem xbff{r:List Int}(hb: ∀x∈r,0<=x/\x<=255)(h: ¬(qac r).2=0):r=lenB (qac r).1++r.drop (qac r).2.toNat/\qas (qac r).1=(qac r).2:=by
 match r,hb,h with
 | [],_,h=>exact absurd rfl h
 | c::t,hb,h=>
  have hc:=hb c (zce ..);rw[qbx] at h ⊢;by_cases h1:c<128
  ·rw[if_pos h1];have e:lenB c=[c]:=by unfold lenB;rw[if_pos h1]
   have e2:qas c=1:=by unfold qas;rw[if_pos h1]
   exact⟨by rw[e];rfl,e2⟩
  ·rw[if_neg h1] at h ⊢;by_cases h2:c=128\/131<c\/(t.length:Int)<c - 128
   ·rw[if_pos h2] at h;exact absurd rfl h
   ·rw[if_neg h2] at h ⊢;by_cases h3:t.headD 0=0\/qar (t.take (c - 128).toNat)<128
    ·rw[if_pos h3] at h;exact absurd rfl h
    ·rw[if_neg h3] at h ⊢;have hc3:c=129\/c=130\/c=131:=by omega
     have hbt: ∀(i:Nat) (x:Int),t[i]? =some x->0<=x/\x<=255:=fun i x hx=>hb x (za6 _ (zae hx));rcases hc3 with rfl|rfl|rfl
     ·match t,h2,h3,hbt with
      | [],h2,_,_=>simp at h2
      | x::t,h2,h3,hbt=>
       have hx:=hbt 0 x rfl;have e:qar ((x::t).take (129 - 128:Int).toNat)=x:=by show(0:Int)*256+x=x;omega
       rw[e] at h3 ⊢;simp only[zba] at h3;have e1:lenB x=[129,x]:=by unfold lenB;rw[if_neg (by omega),if_pos (by omega)]
       have e2:qas x=2:=by unfold qas;rw[if_neg (by omega),if_pos (by omega)]
       exact⟨by show _=lenB x++_;rw[e1];rfl,e2⟩
     ·match t,h2,h3,hbt with
      | [],h2,_,_=>simp at h2
      | [_],h2,_,_=>simp at h2
      | x::y::t,h2,h3,hbt=>
       have hx:=hbt 0 x rfl;have hy:=hbt 1 y rfl;have e:qar ((x::y::t).take (130 - 128:Int).toNat)=x*256+y:=by show((0:Int)*256+x)*256+y=_;omega
       rw[e] at h3 ⊢;simp only[zba] at h3;have e1:lenB (x*256+y)=[130,x,y]:=by unfold lenB;rw[if_neg (by omega),if_neg (by omega),if_pos (by omega),show(x*256+y)/ 256=x by omega,show(x*256+y) % 256=y by omega]
       have e2:qas (x*256+y)=3:=by unfold qas;rw[if_neg (by omega),if_neg (by omega),if_pos (by omega)]
       exact⟨by show _=lenB (x*256+y)++_;rw[e1];rfl,e2⟩
     ·match t,h2,h3,hbt with
      | [],h2,_,_=>simp at h2
      | [_],h2,_,_=>simp at h2
      | [_,_],h2,_,_=>simp at h2
      | x::y::z::t,h2,h3,hbt=>
       have hx:=hbt 0 x rfl;have hy:=hbt 1 y rfl;have hz:=hbt 2 z rfl;have e:qar ((x::y::z::t).take (131 - 128:Int).toNat)=(x*256+y)*256+z:=by show(((0:Int)*256+x)*256+y)*256+z=_;omega
       rw[e] at h3 ⊢;simp only[zba] at h3;have e1:lenB ((x*256+y)*256+z)=[131,x,y,z]:=by unfold lenB;rw[if_neg (by omega),if_neg (by omega),if_neg (by omega),show((x*256+y)*256+z)/ 65536=x by omega,show((x*256+y)*256+z)/ 256 % 256=y by omega,show((x*256+y)*256+z) % 256=z by omega]
       have e2:qas ((x*256+y)*256+z)=4:=by unfold qas;rw[if_neg (by omega),if_neg (by omega),if_neg (by omega)]
       exact⟨by show _=lenB ((x*256+y)*256+z)++_;rw[e1];rfl,e2⟩
theorem xbf9{P:List Int->Int×Nd×Int}{t:Int}{r:List Int}(hb:qad r=true)(h:(parse1 P t r).1=0)(rest:List Int):parse1 P t (r++rest)=parse1 P t r:=by
 obtain⟨_,hk,hn⟩:=qlx h;have hr:=qvg hb;obtain⟨e1,e2⟩:=xbff (qal hb).2 (fun e=>hn (.inl e));have hl:qac (r++rest)=qac r:=by
  have:r++rest=lenB (qac r).1++(r.drop (qac r).2.toNat++rest):=by rw[<- zci, <- e1]
  rw[this,xbx3 _ hr.1 hr.2.1,e2]
 have hi:((r++rest).drop (qac r).2.toNat).take (qac r).1.toNat=(r.drop (qac r).2.toNat).take (qac r).1.toNat:=by rw[List.drop_append_of_le_length (by omega),List.take_append_of_le_length (by simp only[zar];omega)]
 unfold parse1;rw[hl,hi,if_neg hk,if_neg hk,if_neg hn,if_neg (by simp only[zaf];omega)]
theorem xbkw{n:Nat}{b:List Int}(hb:qad b=true)(h:(qat n b).1=0)(rest:List Int):qat n (b++rest)=qat n b:=by
 match n,b,hb with
 | 0,_,_=>rfl
 | n+1,[],_=>exact absurd h (by decide: ¬(1:Int)=0)
 | n+1,t::r,hb=>
  rw[qey] at h ⊢;rw[zbl,qey];have hbt:=qbw hb;simp only[zbu] at hbt;exact xbf9 hbt h rest
def toNd:List CV->Nd
 | [.int _ t,.sli _ b,.slg _ l]=>(t,b,l)
 | _=>nd0
theorem qvy{f:List Int->Int×Nd×Int}{g:CV->List Int}{nd:CV->Nd}: ∀(l:List CV),(∀c∈l,(∀rest,f (g c++rest)=(0,nd c,((g c).length:Int)))/\g c≠[])->∀m,((l.map g).flatten).length<=m->qcj f m ((l.map g).flatten)=(0,l.map nd,l.map g)
 | [],_,m,_=>qlz f m
 | c::r,h,m,hm=>by
  obtain⟨h1,h2⟩:=h c (zce ..);have ih:=qvy r (fun c' hc=>h c' (za6 _ hc));rw[zbe,zcz] at hm ⊢;have hl:0<(g c).length:=List.length_pos_iff.2 h2;rw[zaf] at hm;obtain⟨m,rfl⟩: ∃k,m=k+1:=⟨m - 1,by omega⟩;have hne:g c++(r.map g).flatten≠[]:=fun e=>h2 (List.append_eq_nil_iff.1 e).1;have hz:(f (g c++(r.map g).flatten)).1=0:=by rw[h1]
  rw[qtm hne hz,h1];have e1:(g c++(r.map g).flatten).drop ((g c).length:Int).toNat=(r.map g).flatten:=by rw[show((g c).length:Int).toNat=(g c).length from rfl,List.drop_left]
  have e2:(g c++(r.map g).flatten).take ((g c).length:Int).toNat=g c:=by rw[show((g c).length:Int).toNat=(g c).length from rfl,List.take_left]
  rw[e1,e2,ih m (by omega)];rfl
theorem xbqj{n:Nat}{x:List CV}(h:isTf n x=true):(qaj n x).1≠[]:=by
 obtain⟨n',t,b,l,rfl,rfl,_,_⟩:=qdk h
 cases hx:qau t with
 | true=>rw[qio hx,qlc];simp
 | false=>rw[qhw hx,qlc];simp
theorem xbnx{n:Nat}{y:List CV}(h:isTf n y=true):ndCV (toNd y)=.agg y:=by obtain⟨n',t,b,l,rfl,rfl,_,_⟩:=qdk h;rfl
theorem q2c(P:List Int->Int×Nd×Int){t:Int}{c:List Int}(hc:c.length<16777216)(hk:qbd t=true):
  parse1 P t (lenB (c.length:Nat)++c)=if qau t=false then(if qbi t c=true then(0,(t,c,[]),1+qas (c.length:Nat)+(c.length:Nat)) else(5,nd0,0))
   else if(qcj P c.length c).1=0 then(if t=49/\qba (qcj P c.length c).2.2=false then(6,nd0,0) else(0,(t,[],(qcj P c.length c).2.1.map ndCV),1+qas (c.length:Nat)+(c.length:Nat))) else((qcj P c.length c).1,nd0,0):=by
 have hl:=qyi (c.length:Nat);have hr:=qei (c.length:Nat);have hi:((lenB (c.length:Nat)++c).drop (qas (c.length:Nat)).toNat).take (c.length:Int).toNat=c:=by rw[show(qas (c.length:Nat)).toNat=(lenB (c.length:Nat)).length by omega,List.drop_left];exact zc2
 unfold parse1;rw[xbx3 _ (by omega) (by omega)];simp only[];rw[hi,if_neg (by simp[hk]),if_neg (by simp only[zaf];omega)]
theorem qwg: ∀ {n d:Nat} {a:List CV},isTf n a=true->qd6 n a<=30000->okF n d a=true->(qaj n a).2=true->qat d (qaj n a).1=(0,toNd a,(((qaj n a).1.length:Nat):Int))
 | n,d,a,hn,hb,hok,hs=>by
  obtain⟨n',t,b,l,rfl,rfl,hbb,hl⟩:=qdk hn;obtain⟨h1,h2,h3,h4,h5⟩:=qm5 hn hb;obtain⟨d',rfl,hk,h⟩:=qkq hok;rcases h with⟨hx,rfl,hall⟩|⟨hx,rfl,hf⟩
  ·have hfl:=flat5 (B:=30000) hl (by omega);rw[qio hx] at hs ⊢;simp only[zab,zai] at hs;have hp:=qvy (f:=qat d') (g:=fun c=>(qaj n' (cell1 c)).1) (nd:=fun c=>toNd (cell1 c)) l (fun c hc=>by
    obtain⟨y,rfl,hy,hyb⟩:=h4 c hc;have hwy:=qwg (d:=d') hy (by omega) (hall _ hc) (hs.1 _ hc);have hby:qad (qaj n' y).1=true:=qcm (by have:=qg6 hy;omega) (qj2 hy (by omega) (hall _ hc));refine⟨fun rest=> ?_,xbqj hy⟩;show qat d' ((qaj n' y).1++rest)=(0,toNd y,_);rw[xbkw hby (by rw[hwy]) rest,hwy];rfl) _ (zas _)
   simp only[qlc,zbl];rw[qey,q2c _ (by omega) hk,if_neg (by simp[hx]),hp];have hss: ¬(t=49/\qba (l.map fun c=>(qaj n' (cell1 c)).1)=false):=fun e=>by have:=hs.2;simp[e.1,e.2] at this
   have hm:(l.map fun c=>toNd (cell1 c)).map ndCV=l:=by rw[zc6];refine(zcp fun c hc=> ?_).trans (List.map_id l);obtain⟨y,rfl,hy,_⟩:=h4 c hc;exact xbnx hy
   rw[if_pos rfl,if_neg hss,hm];have hll:=qyi (((l.map fun c=>(qaj n' (cell1 c)).1).flatten).length:Nat);simp only[toNd,zac,zaf,za4,true_and];omega
  ·rw[qhw hx];simp only[qlc,zbl];rw[qey,q2c _ (by omega) hk,if_pos hx,if_pos hf];have hll:=qyi (b.length:Nat);simp only[toNd,zac,zaf,za4,true_and];omega
theorem q2d{f:List Int->Int×Nd×Int}{h:Nd->List Int}{Q:Nd->Prop}(hu: ∀b,qad b=true->(f b).1=0->0<(f b).2.2/\(f b).2.2<=b.length)(hf: ∀b,qad b=true->(f b).1=0->Q (f b).2.1/\h (f b).2.1=b.take (f b).2.2.toNat): ∀(m:Nat) (b:List Int),qad b=true->b.length<=m->(qcj f m b).1=0->
  (qcj f m b).2.2=(qcj f m b).2.1.map h/\(qcj f m b).2.2.flatten=b/\∀x∈(qcj f m b).2.1,Q x
 | 0,b,hb,hm,hz=>by have:b=[]:=zak (by omega);subst this;rw[qlz];simp
 | m+1,b,hb,hm,hz=>by
  by_cases hne:b=[]
  ·subst hne;rw[qlz];simp
  ·by_cases h0:(f b).1=0
   ·have hub:=hu b hb h0;obtain⟨hq,hh⟩:=hf b hb h0;rw[qtm hne h0] at hz ⊢;obtain⟨i1,i2,i3⟩:=q2d hu hf m _ (qa9 hb _) (by simp only[zar];omega) hz;refine⟨?_, ?_,fun x hx=> ?_⟩
    ·rw[zbe,hh, <- i1]
    ·rw[zcz,i2,List.take_append_drop]
    ·rcases zav.1 hx with rfl|hx
     ·exact hq
     ·exact i3 x hx
   ·rw[qzg hne h0] at hz;exact absurd hz h0
theorem xbdo{α:Type}{g:α->List Int}{h:α->Nat}: ∀ {l:List α},(∀c∈l,h c<=(g c).length)->(l.map h).sum<=((l.map g).flatten).length
 | [],_=>by simp
 | a::r,hh=>by have:=hh a (zce ..);have:=xbdo (g:=g) (h:=h) (l:=r) fun c hc=>hh c (za6 _ hc);simp only[zbe,zcz,zaf,zcf];omega
def xbvr(d:Nat)(x:Nd):Prop:=isTf d (ndL x)=true/\okF d d (ndL x)=true/\(qaj d (ndL x)).2=true/\qd6 d (ndL x)<=(qaj d (ndL x)).1.length
theorem xb23{n:Nat}{t:Int}{b:List Int}{l:List CV}(h1: ∀z∈b,0<=z/\z<=255)(h3: ∀c∈l, ∃y,c=.agg y/\isTf n y=true):isTf (n+1) [.int .i64 t,.sli .u8 b,.slg 3 l]=true:=by show(b.all xbi4&&l.all fun c=>match c with|.agg x=>isTf n x|_=>false)=true;simp only[zab,zai];refine⟨fun z hz=>decide_eq_true (h1 z hz),fun c hc=> ?_⟩;obtain⟨y,rfl,hy⟩:=h3 c hc;exact hy
theorem qly: ∀(d:Nat) (b:List Int),qad b=true->(qat d b).1=0->xbvr d (qat d b).2.1/\(qaj d (ndL (qat d b).2.1)).1=b.take (qat d b).2.2.toNat
 | 0,b,_,h=>absurd h (by decide: ¬(3:Int)=0)
 | d+1,[],_,h=>absurd h (by decide: ¬(1:Int)=0)
 | d+1,t::r,hb,h=>by
  have hbt:=qbw hb;simp only[zbu] at hbt;have hr:=qvg hbt;rw[qey] at h ⊢;obtain⟨hu,hk,hn⟩:=qlx h;obtain⟨e1,e2⟩:=xbff (qal hbt).2 (fun e=>hn (.inl e));have hk':qbd t=true:=by simpa using hk
  rw[hu];obtain⟨I,hI⟩: ∃I,I=(r.drop (qac r).2.toNat).take (qac r).1.toNat:=⟨_,rfl⟩;have hIl:(I.length:Int)=(qac r).1:=by rw[hI];simp only[zcm,zar];omega
  have hIb:qad I=true:=by rw[hI];exact qgl (qa9 hbt _) _
  have hlb:=qyi (qac r).1;have htake:(t::r).take (1+(qac r).2+(qac r).1).toNat=t::(lenB (I.length:Nat)++I):=by
   rw[show(1+(qac r).2+(qac r).1).toNat=((qac r).2.toNat+(qac r).1.toNat)+1 by omega,zca,hIl];congr 1;have:r.take ((qac r).2.toNat+(qac r).1.toNat)=(lenB (qac r).1++r.drop (qac r).2.toNat).take ((lenB (qac r).1).length+(qac r).1.toNat):=by rw[<- e1,show(lenB (qac r).1).length=(qac r).2.toNat by omega]
   rw[this,List.take_length_add_append, <- hI]
  rw[htake];have hp:parse1 (qat d) t r=if qau t=false then(if qbi t I=true then(0,(t,I,[]),1+(qac r).2+(qac r).1) else(5,nd0,0))
    else if(qcj (qat d) I.length I).1=0 then(if t=49/\qba (qcj (qat d) I.length I).2.2=false then(6,nd0,0) else(0,(t,[],(qcj (qat d) I.length I).2.1.map ndCV),1+(qac r).2+(qac r).1)) else((qcj (qat d) I.length I).1,nd0,0):=by
   unfold parse1;rw[if_neg hk,if_neg hn, <- hI]
  rw[hp] at h ⊢
  cases hx:qau t with
  | false=>
   rw[hx,if_pos rfl] at h;rw[if_pos rfl];by_cases hf:qbi t I=true
   ·rw[if_pos hf];have hbl:qaj (d+1) (ndL (t,I,[]))=(qcw t (I.length:Nat)++I,true):=qhw hx;refine⟨⟨xb23 (qal hIb).2 (by simp), ?_,by show(qaj (d+1) (ndL (t,I,[]))).2=true;rw[hbl], ?_⟩, ?_⟩
    ·show(qbd t&&(if qau t=true then _ else decide (([]:List CV)=[])&&qbi t I))=true;rw[if_neg (by simp[hx]),hk',hf];rfl
    ·show 1+I.length+0<=(qaj (d+1) (ndL (t,I,[]))).1.length;rw[hbl,qlc];simp only[zaf,zac];omega
    ·show(qaj (d+1) (ndL (t,I,[]))).1=_;rw[hbl];rfl
   ·rw[if_neg hf] at h;exact absurd h (by decide: ¬(5:Int)=0)
  | true=>
   rw[hx,if_neg (by decide)] at h;rw[if_neg (by decide)];by_cases hz:(qcj (qat d) I.length I).1=0
   ·rw[if_pos hz] at h ⊢;by_cases hs:t=49/\qba (qcj (qat d) I.length I).2.2=false
    ·rw[if_pos hs] at h;exact absurd h (by decide: ¬(6:Int)=0)
    ·rw[if_neg hs];obtain⟨i1,i2,i3⟩:=q2d (f:=qat d) (h:=fun x=>(qaj d (ndL x)).1) (Q:=xbvr d) (fun b hb h=>qg2 hb h) (fun b hb h=>qly d b hb h) I.length I hIb (zas _) hz;generalize qcj (qat d) I.length I=p at*;obtain⟨p1,xs,ps⟩:=p;simp only[] at i1 i2 i3 hs ⊢;have hm:((xs.map ndCV).map fun c=>(qaj d (cell1 c)).1)=ps:=by rw[i1,zc6];rfl
     have hbl:qaj (d+1) (ndL (t,[],xs.map ndCV))=(qcw t (I.length:Nat)++I,((xs.map ndCV).all fun c=>(qaj d (cell1 c)).2)&&(!(decide (t=49))|| qba ps)):=by refine(qio hx).trans ?_;rw[hm,i2]
     have hall2:((xs.map ndCV).all fun c=>(qaj d (cell1 c)).2)=true:=by simp only[zai,zbp];rintro c ⟨x,hx',rfl⟩;exact(i3 x hx').2.2.1
     have hso:(!(decide (t=49))|| qba ps)=true:=by
      by_cases h49:t=49
      ·have:qba ps=true:=by
        cases hh:qba ps with
        | true=>rfl
        | false=>exact absurd ⟨h49,hh⟩ hs
       rw[this,Bool.or_true]
      ·simp[h49]
     rw[hall2,hso] at hbl;refine⟨⟨xb23 (by simp) fun c hc=> ?_, ?_,by show(qaj (d+1) (ndL (t,[],xs.map ndCV))).2=true;rw[hbl];rfl, ?_⟩, ?_⟩
     ·obtain⟨x,hx',rfl⟩:=zbp.1 hc;exact⟨_,rfl,(i3 x hx').1⟩
     ·show(qbd t&&(if qau t=true then decide (([]:List Int)=[])&&(xs.map ndCV).all fun c=>okF d d (cell1 c) else _))=true;rw[if_pos hx,hk'];simp only[zbt,decide_true,zai,zbp];rintro c ⟨x,hx',rfl⟩;exact(i3 x hx').2.1
     ·show 1+0+((xs.map ndCV).map fun c=>qd6 d (cell1 c)).sum<=(qaj (d+1) (ndL (t,[],xs.map ndCV))).1.length;rw[hbl,qlc];have:=xbdo (g:=fun x=>(qaj d (ndL x)).1) (h:=fun x=>qd6 d (ndL x)) (l:=xs) fun x hx'=>(i3 x hx').2.2.2;rw[<- i1,i2] at this;have e:((xs.map ndCV).map fun c=>qd6 d (cell1 c))=xs.map fun x=>qd6 d (ndL x):=by rw[zc6];rfl
      rw[e];simp only[zaf,zac];omega
     ·show(qaj (d+1) (ndL (t,[],xs.map ndCV))).1=_;rw[hbl];rfl
   ·rw[if_neg hz] at h;exact absurd h hz
theorem qn7(b:List Int):qap b=if(qat 32 b).1=0 then(if(qat 32 b).2.2<b.length then(nd0,7) else((qat 32 b).2.1,0)) else(nd0,(qat 32 b).1):=by unfold qap qyz;rw[qab]
theorem xb5x{n:Nat}{a:List CV}(h:isTf n a=true):ndL (toNd a)=a:=by obtain⟨n',t,b,l,rfl,rfl,_,_⟩:=qdk h;rfl
theorem xbjf{a:List CV}(hs:isS a=true)(hf:qul a=true):(qbf a).2=0/\qad (qbf a).1=true/\(qbf a).1.length<=150000/\qat 32 (qbf a).1=(0,toNd a,(((qbf a).1.length:Nat):Int))/\ndL (toNd a)=a:=by obtain⟨n,hn,hb⟩:=qdp hs;rw[qyy hn] at hf;have hf:=of_decide_eq_true hf;have hl:=qg6 hn;rw[qgz hn,if_pos hf];refine⟨rfl,qcm (by show(qaj n a).1.length<=_;omega) (qj2 hn hb hf.1),by show(qaj n a).1.length<=_;omega,qwg hn hb hf.1 hf.2,xb5x hn⟩
theorem q2g{b:List Int}(hb:qad b=true)(hl:b.length<=30000)(h:(qap b).2=0):isS (ndL (qap b).1)=true/\qbf (ndL (qap b).1)=(b,0)/\qul (ndL (qap b).1)=true:=by
 rw[qn7] at h ⊢;by_cases hz:(qat 32 b).1=0
 ·rw[if_pos hz] at h ⊢;by_cases hlt:(qat 32 b).2.2<b.length
  ·rw[if_pos hlt] at h;exact absurd h (by decide: ¬(7:Int)=0)
  ·rw[if_neg hlt];have hu:=qg2 hb hz;obtain⟨⟨h1,h2,h3,h4⟩,h5⟩:=qly 32 b hb hz;have e:(qaj 32 (ndL (qat 32 b).2.1)).1=b:=by rw[h5];exact zcy (by omega)
   rw[e] at h4;refine⟨(q9x h1 (by omega):isS (ndL (qat 32 b).2.1)=true), ?_, ?_⟩
   ·show qbf (ndL (qat 32 b).2.1)=_;rw[qgz h1,if_pos ⟨h2,h3⟩,e]
   ·show qul (ndL (qat 32 b).2.1)=_;rw[qyy h1];exact decide_eq_true ⟨h2,h3⟩
 ·rw[if_neg hz] at h;exact absurd h hz
theorem q78{a:List CV}(hs:isS a=true)(hf:qul a=true):qap (qbf a).1=(toNd a,0):=by obtain⟨_,_,_,h,_⟩:=xbjf hs hf;rw[qn7,h,if_pos rfl,if_neg (by simp)]
open IntWalk (i64_in u8_in u32_in u64_in i64_quo u8_quo rem_in)
theorem qz6{i:Nat}(h:i<=1000000000000):IntKind.i64.wrap ((i:Int)+1)=((i+1:Nat):Int):=(i64_in _ (by omega)).trans (by omega)
theorem xbhc{a b:List Int}{T:Nat->Int->Option Out}(hT: ∀(f i:Nat),T (f+1) i=cond (decide ((i:Int)<(a.length:Int))) (getK a i fun x=>getK b i fun y=>cond (!decide (x=y)) (zB false) (T f (IntKind.i64.wrap ((i:Int)+1)))) (zB true))(hl:a.length=b.length)(hb:a.length<=100000000): ∀(f i:Nat),i<=a.length->a.length<f+i->T f i=zB (decide (a.drop i=b.drop i))
 | 0,i,hi,hf=>by omega
 | f+1,i,hi,hf=>by
  rw[hT];refine qae (fun h=> ?_) fun h=> ?_
  ·obtain⟨x,hx⟩:=qb3 (b:=a) (i:=i) (by omega);obtain⟨y,hy⟩:=qb3 (b:=b) (i:=i) (by omega);refine qa1 (by omega) hx (qa1 (by omega) hy ?_);rw[qdv hx,qdv hy];refine qaw (fun hne=>qa7 ?_) fun he=> ?_
   ·simp[hne]
   ·subst he;rw[qz6 (by omega)];refine(xbhc hT hl hb f (i+1) (by omega) (by omega)).trans (qa7 ?_);simp
  ·refine qa7 ?_;rw[qes (by omega),qes (by omega)];simp
theorem xbmp{n:Nat}(h:n<=100000000):n<FUEL+0:=by unfold FUEL;omega
theorem xbhb{a b:List Int}{x:Option Out}(hx:a.length=b.length->x=zB (decide (a.drop 0=b.drop 0))):
  cond (!decide ((a.length:Int)=(b.length:Int))) (zB false) x=zB (qbt a b):=by
 unfold qbt qlg;rw[qab];refine qaw (fun h=>qa7 ?_) fun h=>hx (by omega);rw[eq_comm,decide_eq_false_iff_not];intro e;subst e;exact h rfl
theorem xby6(a b:List Int)(hp:qc7 a=true):xbm5 a b=zB (qbt a b):=by unfold xbm5;simp only[qab];exact xbhb fun h=>xbhc (T:=fun f=>qs3 _ _ f a b) (fun _ _=>rfl) h (qd7 hp) FUEL 0 (by omega) (xbmp (qd7 hp))
theorem xb5k(a b:List Int)(hp:qc7 a=true):xbw4 a b=zB (qbt a b):=by unfold xbw4;simp only[qab];exact xbhb fun h=>xbhc (T:=fun f=>qyr _ _ f a b _) (fun _ _=>rfl) h (qd7 hp) FUEL 0 (by omega) (xbmp (qd7 hp))
theorem xb43(a b:List Int)(hp:qc7 a=true):xb3x a b=zB (qbt a b):=qak hp rfl
open IntWalk (i64_in u8_in u32_in u64_in i64_quo u8_quo rem_in)
theorem qud{n:Int}(h:u32Ok n=true):0<=n/\n<=4294967295:=by unfold u32Ok at h;rw[qab] at h;exact of_decide_eq_true h
theorem qz3{n:Int}(h:0<=n/\n<=4294967295):u32Ok n=true:=by unfold u32Ok;rw[qab];exact decide_eq_true h
theorem qwf{o:List Int}(h:qu0 o=true):o.length<=1000/\∀x∈o,0<=x/\x<=4294967295:=by unfold qu0 at h;rw[qab] at h;simp only[zab,decide_eq_true_eq,zai] at h;exact⟨h.1,fun x hx=>of_decide_eq_true (h.2 x hx)⟩
theorem c_z{x:Int}{a b:Option Out}(h:x=0):cond (!decide (x=0)) a b=b:=by rw[decide_eq_true h];rfl
theorem c_nz{x:Int}{a b:Option Out}(h:x≠0):cond (!decide (x=0)) a b=a:=by rw[decide_eq_false h];rfl
theorem or128: ∀n:Fin 256,IntKind.u8.wrap ((BitVec.ofInt 8 (n.val:Int)||| BitVec.ofInt 8 128).toNat)=128+(n.val:Int) % 128:=by decide+kernel
theorem xb0f(x:Int):IntKind.u8.wrap ((BitVec.ofInt 8 (IntKind.u8.wrap x)||| BitVec.ofInt 8 128).toNat)=128+x % 128:=by rw[xbu5 x];have:=or128 ⟨(x % 256).toNat,by omega⟩;simp only[zda (show 0<=x % 256 by omega)] at this;rw[this];omega
theorem xb0g(x:Int):IntKind.u8.wrap ((BitVec.ofInt 8 (IntKind.u8.wrap x)&&& ~~~ BitVec.ofInt 8 128).toNat)=x % 128:=by rw[xbu5 x];have:=(and7 ⟨(x % 256).toNat,by omega⟩).1;simp only[zda (show 0<=x % 256 by omega)] at this;rw[this];omega
theorem fd28(n:Int):Int.fdiv n (2 ^ 28)=n/ 268435456:=zbh _ (by decide)
theorem fd21(n:Int):Int.fdiv n (2 ^ 21)=n/ 2097152:=zbh _ (by decide)
theorem fd14(n:Int):Int.fdiv n (2 ^ 14)=n/ 16384:=zbh _ (by decide)
theorem fd7(n:Int):Int.fdiv n (2 ^ 7)=n/ 128:=zbh _ (by decide)
theorem xbd6(f:Nat):gHi f 0=[]:=by cases f<;>rfl
theorem q6u(f:Nat){n:Int}(h:n≠0):gHi (f+1) n=gHi f (n/ 128)++[128+n % 128]:=by
 conv=>lhs;unfold gHi
 rw[if_neg h]
theorem gr1{n:Int}(h:n/ 128=0):qav n=[n % 128]:=by unfold qav;rw[h,xbd6];rfl
theorem gr2{n:Int}(h:n/ 128≠0)(h':n/ 16384=0):qav n=[128+n/ 128 % 128,n % 128]:=by unfold qav;rw[q6u 4 h,show n/ 128/ 128=0 by omega,xbd6];rfl
theorem gr3{n:Int}(h:n/ 16384≠0)(h':n/ 2097152=0):qav n=[128+n/ 16384 % 128,128+n/ 128 % 128,n % 128]:=by unfold qav;rw[q6u 4 (by omega),q6u 3 (by omega),show n/ 128/ 128/ 128=0 by omega,xbd6,show n/ 128/ 128=n/ 16384 by omega];rfl
theorem gr4{n:Int}(h:n/ 2097152≠0)(h':n/ 268435456=0):qav n=[128+n/ 2097152 % 128,128+n/ 16384 % 128,128+n/ 128 % 128,n % 128]:=by unfold qav;rw[q6u 4 (by omega),q6u 3 (by omega),q6u 2 (by omega),show n/ 128/ 128/ 128/ 128=0 by omega,xbd6,show n/ 128/ 128/ 128=n/ 2097152 by omega,show n/ 128/ 128=n/ 16384 by omega];rfl
theorem gr5{n:Int}(h:n/ 268435456≠0)(h':0<=n/\n<=4294967295):qav n=[128+n/ 268435456 % 128,128+n/ 2097152 % 128,128+n/ 16384 % 128,128+n/ 128 % 128,n % 128]:=by unfold qav;rw[q6u 4 (by omega),q6u 3 (by omega),q6u 2 (by omega),q6u 1 (by omega),show n/ 128/ 128/ 128/ 128/ 128=0 by omega,xbd6,show n/ 128/ 128/ 128/ 128=n/ 268435456 by omega,show n/ 128/ 128/ 128=n/ 2097152 by omega,show n/ 128/ 128=n/ 16384 by omega];rfl
theorem q41{n:Int}(h:0<=n/\n<=4294967295):(n/ 128=0/\n/ 16384=0/\n/ 2097152=0/\n/ 268435456=0)\/(n/ 128≠0/\n/ 16384=0/\n/ 2097152=0/\n/ 268435456=0)\/
  (n/ 128≠0/\n/ 16384≠0/\n/ 2097152=0/\n/ 268435456=0)\/(n/ 128≠0/\n/ 16384≠0/\n/ 2097152≠0/\n/ 268435456=0)\/(n/ 128≠0/\n/ 16384≠0/\n/ 2097152≠0/\n/ 268435456≠0):=by omega
theorem xby1(n:Int)(hp:u32Ok n=true):xbm0 n=zR [.ref 0 0 (qbq n).length true 1] [some ⟨.ints .u8 (qbq n),false⟩]:=by
 have hn:=qud hp;unfold xbm0 qbq;simp only[qab];unfold q44;simp only[fd28,fd21,fd14,fd7,xb0f,xb0g];rcases q41 hn with⟨h1,h2,h3,h4⟩|⟨h1,h2,h3,h4⟩|⟨h1,h2,h3,h4⟩|⟨h1,h2,h3,h4⟩|⟨h1,h2,h3,h4⟩
 ·rw[c_z h4,c_z h3,c_z h2,c_z h1,gr1 h1];rfl
 ·rw[c_z h4,c_z h3,c_z h2,c_nz h1,gr2 h1 h2];rfl
 ·rw[c_z h4,c_z h3,c_nz h2,c_nz h1,gr3 h2 h3];rfl
 ·rw[c_z h4,c_nz h3,c_nz h2,c_nz h1,gr4 h3 h4];rfl
 ·rw[c_nz h4,c_nz h3,c_nz h2,c_nz h1,gr5 h4 hn];rfl
theorem rm1{l:List Int}{x:Option Out}(h:l.length<=1000000000):rmK l.length 1 x=x:=qzp (by omega) (by omega) rfl
theorem xby2(m:Nat)(n:Int)(l:List Int)(hp:(u32Ok n&&qc7 l)=true):xbm1 m n l=zR [.ref 1 0 (l++qbq n).length true 1] [none,some ⟨.ints .u8 (l++qbq n),false⟩]:=by
 simp only[zab] at hp;have hn:=qud hp.1;have hl:=qd7 hp.2;have rm: ∀(a:List Int) {x:Option Out},a.length<=10->rmK (l++a).length 1 x=x:=fun a x h=>rm1 (by simp;omega);unfold xbm1 qbq;simp only[qab];unfold qsu;simp only[fd28,fd21,fd14,fd7,xb0f,xb0g,zci,zbl,za7];rcases q41 hn with⟨h1,h2,h3,h4⟩|⟨h1,h2,h3,h4⟩|⟨h1,h2,h3,h4⟩|⟨h1,h2,h3,h4⟩|⟨h1,h2,h3,h4⟩
 ·rw[c_z h4,c_z h3,c_z h2,c_z h1,gr1 h1,rm _ (by simp)]
 ·rw[c_z h4,c_z h3,c_z h2,c_nz h1,gr2 h1 h2,rm _ (by simp),rm _ (by simp)]
 ·rw[c_z h4,c_z h3,c_nz h2,rm _ (by simp),c_nz h1,rm _ (by simp),gr3 h2 h3,rm _ (by simp)]
 ·rw[c_z h4,c_nz h3,rm _ (by simp),c_nz h2,rm _ (by simp),c_nz h1,rm _ (by simp),gr4 h3 h4,rm _ (by simp)]
 ·rw[c_nz h4,rm _ (by simp),c_nz h3,rm _ (by simp),c_nz h2,rm _ (by simp),c_nz h1,rm _ (by simp),gr5 h4 hn,rm _ (by simp)]
theorem xb67: ∀(f g:Nat) (n:Int) (l:List Int),0<=n->n<=4294967295->n<128 ^ g->g<f->l.length+g<=100->
  qi1 (fun y4 y5=>zR [.ref 0 0 y4 true 1] [some ⟨.ints .u8 y5,false⟩]) f n l.length l=zR [.ref 0 0 (gHi g n++l).length true 1] [some ⟨.ints .u8 (gHi g n++l),false⟩]
 | 0,g,n,l,_,_,_,h,_=>by omega
 | f+1,g,n,l,h0,hb,h1,hg,hl=>by
  show qkk (qi1 (fun y4 y5=>zR [.ref 0 0 y4 true 1] [some ⟨.ints .u8 y5,false⟩]) f) (fun y4 y5=>zR [.ref 0 0 y4 true 1] [some ⟨.ints .u8 y5,false⟩]) n l.length l=_;unfold qkk;refine qae (fun h=> ?_) fun h=> ?_
  ·obtain⟨g,rfl⟩: ∃g',g=g'+1:=⟨g - 1,by
    cases g with
    | zero=>rw[Int.pow_zero] at h1;omega
    | succ g=>rfl⟩
   rw[zc1] at h1;rw[q6u g (by omega)];dsimp only;rw[zb9 h0,zb8 h0,show IntKind.u32.wrap (128+n % 128)=128+n % 128 from u32_in _ (by omega),show IntKind.u32.wrap (n/ 128)=n/ 128 from u32_in _ (by omega),show IntKind.u8.wrap (128+n % 128)=128+n % 128 from u8_in _ (by omega)];rw[show[128+n % 128]++l=(128+n % 128)::l from rfl];refine qzp (by simp;omega) (by simp;omega) ?_;refine(xb67 f g (n/ 128) ((128+n % 128)::l) (by omega) (by omega) (by generalize (128:Int) ^ g=X at*;omega) (by omega) (by simp only[zac];omega)).trans ?_;simp
  ·have:n=0:=by omega
   subst this;rw[xbd6];rfl
theorem xbkh(n:Int)(hp:u32Ok n=true):q6v n=zR [.ref 0 0 (qbq n).length true 1] [some ⟨.ints .u8 (qbq n),false⟩]:=by have hn:=qud hp;unfold q6v qbq qav;simp only[qab];rw[zb9 hn.1,zb8 hn.1,show IntKind.u32.wrap (n/ 128)=n/ 128 from u32_in _ (by omega),show IntKind.u8.wrap (n % 128)=n % 128 from u8_in _ (by omega)];exact xb67 FUEL 5 (n/ 128) [n % 128] (by omega) (by omega) (by omega) (by unfold FUEL;omega) (by simp)
theorem q9t(n:Int):(qav n).length<=6:=by
 have h: ∀(f:Nat) (n:Int),(gHi f n).length<=f:=fun f=>by
  induction f with
  | zero=>intro n;simp[gHi]
  | succ f ih=>
   intro n;unfold gHi;split
   ·simp
   ·have:=ih (n/ 128);simp;omega
 unfold qav;have:=h 5 (n/ 128);simp;omega
theorem qqz(n:Int):qbq n=qav n:=qab _
abbrev bO(y:List Int):Option Out:=zR [.cl (.sli .u8 y)] []
theorem xb7c(r:List Int)(hr: ∀x∈r,0<=x/\x<=4294967295)(hl:r.length<=1000): ∀(f i:Nat) (l:List Int),i<=r.length->r.length<f+i->l.length<=6*(i+1)->
  qnr (fun _ y=>bO y) f l.length r r.length i l=bO (l++(r.drop i).flatMap qav)
 | 0,i,l,hi,hf,_=>by omega
 | f+1,i,l,hi,hf,hll=>by
  show qpf (qnr (fun _ y=>bO y) f) (fun _ y=>bO y) l.length r r.length i l=_;unfold qpf;refine qae (fun h=> ?_) fun h=> ?_
  ·obtain⟨c,hc⟩:=qb3 (b:=r) (i:=i) (by omega);refine qa1 (by omega) hc (qak ?_ ?_)
   ·rw[qz3 (hr c (zae hc)),qkc (by omega)];rfl
   ·have:=q9t c;dsimp only;rw[qz6 (by omega),qqz,qdv hc];refine(xb7c r hr hl f (i+1) (l++qav c) (by omega) (by omega) (by simp;omega)).trans ?_;simp
  ·rw[qes (by omega)];simp
theorem xb7j(o:List Int)(hr: ∀x∈o,0<=x/\x<=4294967295)(hl:o.length<=1000): ∀(f i:Nat) (l:List Int),i<=o.length->o.length<f+i->l.length<=6*(i+1)->
  qlp (fun _ y=>bO y) f o l.length i l=bO (l++(o.drop i).flatMap qav)
 | 0,i,l,hi,hf,_=>by omega
 | f+1,i,l,hi,hf,hll=>by
  show qmv (qlp (fun _ y=>bO y) f) (fun _ y=>bO y) o l.length i l=_;unfold qmv;refine qae (fun h=> ?_) fun h=> ?_
  ·obtain⟨c,hc⟩:=qb3 (b:=o) (i:=i) (by omega);have:=q9t c;refine qa1 (by omega) hc (qak (qz3 (hr c (zae hc))) ?_);dsimp only;rw[qz6 (by omega),qqz,qdv hc,rm1 (by simp;omega)];refine(xb7j o hr hl f (i+1) (l++qav c) (by omega) (by omega) (by simp;omega)).trans ?_;simp
  ·rw[qes (by omega)];simp
theorem qmo{o:List Int}(h:qbs o=true): ∃x y r,o=x::y::r/\r.length<=18/\x<=2/\(x<2->y<40)/\y<=4294967215:=by
 match o,h with
 | x::y::r,h=>
  simp only[qbs,zab,zbs,decide_eq_true_eq] at h;exact⟨x,y,r,rfl,h.1,by omega,by omega,by omega⟩
theorem xbyz(o:List Int)(hp:qu0 o=true):xbmz o=zR [.cl (.sli .u8 (qax o))] []:=by
 obtain⟨hl,hr⟩:=qwf hp;unfold xbmz qax qkp qco;simp only[qab]
 cases hf:qbs o with
 | false=>rfl
 | true=>
  obtain⟨x,y,r,rfl,hr18,hx,hxy,hy⟩:=qmo hf;have rx:=hr x (by simp);have ry:=hr y (by simp);rw[if_pos rfl];refine xbbe rfl (qaq (by simp only[zac];omega) ?_);simp only[zaq,za0,zaj];rw[show IntKind.u32.wrap (40*x)=40*x from u32_in _ (by omega),show IntKind.u32.wrap (40*x+y)=40*x+y from u32_in _ (by omega)];refine qaq (by simp only[zac];omega) (qak (qz3 (by omega)) (qaq (by simp only[zac];omega) ?_));rw[qqz];have:=q9t (40*x+y);exact xb7c r (fun z hz=>hr z (by simp[hz])) (by omega) FUEL 0 _ (by omega) (by unfold FUEL;omega) (by omega)
theorem xbso(o:List Int)(hp:qu0 o=true):xbec o=zR [.cl (.sli .u8 (qax o))] []:=by
 obtain⟨hl,hr⟩:=qwf hp;unfold xbec qax qkp qco;simp only[qab]
 cases hf:qbs o with
 | false=>rfl
 | true=>
  obtain⟨x,y,r,rfl,hr18,hx,hxy,hy⟩:=qmo hf;have rx:=hr x (by simp);have ry:=hr y (by simp);rw[if_pos rfl];refine xbbe rfl (qaq (by simp only[zac];omega) ?_);simp only[zaq,za0,zaj];rw[show IntKind.u32.wrap (40*x)=40*x from u32_in _ (by omega),show IntKind.u32.wrap (40*x+y)=40*x+y from u32_in _ (by omega)];refine qaq (by simp only[zac];omega) (qak (qz3 (by omega)) ?_);rw[qqz];have:=q9t (40*x+y);exact xb7j (x::y::r) hr (by simp;omega) FUEL 2 _ (by simp) (by unfold FUEL;simp;omega) (by omega)
open IntWalk (i64_in u8_in u32_in u64_in i64_quo u8_quo rem_in)
theorem xbmm{o:List Int}(h:qbs o=true):2<=o.length/\o.length<=20:=by obtain⟨x,y,r,rfl,h1,_⟩:=qmo h;simp;omega
abbrev inU(n:Int):Prop:=0<=n/\n<=4294967295
theorem xbex{n:Int}(h:inU n)(rest:List Int):qao (qav n++rest)=(n,((qav n).length:Int)):=by
 unfold qao;have go: ∀(acc i c:Int) (r:List Int), ¬(i=0/\c=128)->acc<=33554431->128<=c->qb9 acc i (c::r)=qb9 (acc*128+(c - 128)) (i+1) r:=fun acc i c r h1 h2 h3=>by rw[qrb,if_neg (by rintro(h|h);exact h1 h;omega),if_neg (by omega)]
 have fin: ∀(acc i c:Int) (r:List Int), ¬(i=0/\c=128)->acc<=33554431->c<128->qb9 acc i (c::r)=(acc*128+c,i+1):=fun acc i c r h1 h2 h3=>by rw[qrb,if_neg (by rintro(h|h);exact h1 h;omega),if_pos h3]
 rcases q41 h with⟨h1,h2,h3,h4⟩|⟨h1,h2,h3,h4⟩|⟨h1,h2,h3,h4⟩|⟨h1,h2,h3,h4⟩|⟨h1,h2,h3,h4⟩
 ·rw[gr1 h1];simp only[zbl,za7,zac,zbr];rw[fin _ _ _ _ (by omega) (by omega) (by omega)];exact Prod.ext (by simp only[];omega) rfl
 ·rw[gr2 h1 h2];simp only[zbl,za7,zac,zbr];rw[go _ _ _ _ (by omega) (by omega) (by omega),fin _ _ _ _ (by omega) (by omega) (by omega)];exact Prod.ext (by simp only[];omega) rfl
 ·rw[gr3 h2 h3];simp only[zbl,za7,zac,zbr];rw[go _ _ _ _ (by omega) (by omega) (by omega),go _ _ _ _ (by omega) (by omega) (by omega),fin _ _ _ _ (by omega) (by omega) (by omega)];exact Prod.ext (by simp only[];omega) rfl
 ·rw[gr4 h3 h4];simp only[zbl,za7,zac,zbr];rw[go _ _ _ _ (by omega) (by omega) (by omega),go _ _ _ _ (by omega) (by omega) (by omega),go _ _ _ _ (by omega) (by omega) (by omega),fin _ _ _ _ (by omega) (by omega) (by omega)];exact Prod.ext (by simp only[];omega) rfl
 ·rw[gr5 h4 h];simp only[zbl,za7,zac,zbr];rw[go _ _ _ _ (by omega) (by omega) (by omega),go _ _ _ _ (by omega) (by omega) (by omega),go _ _ _ _ (by omega) (by omega) (by omega),go _ _ _ _ (by omega) (by omega) (by omega),fin _ _ _ _ (by omega) (by omega) (by omega)];exact Prod.ext (by simp only[];omega) rfl
theorem xb35(n:Int):0<(qav n).length:=by unfold qav;simp
theorem xbnm{n:Int}(h:inU n): ∀x∈qav n,0<=x/\x<=255:=by
 have: ∀(f:Nat) (n:Int), ∀x∈gHi f n,0<=x/\x<=255:=fun f=>by
  induction f with
  | zero=>intro n x hx;simp[gHi] at hx
  | succ f ih=>
   intro n x hx;unfold gHi at hx;split at hx
   ·simp at hx
   ·rcases zap.1 hx with hx|hx
    ·exact ih _ x hx
    ·simp at hx;omega
 intro x hx;unfold qav at hx;rcases zap.1 hx with hx|hx
 ·exact this _ _ x hx
 ·simp at hx;omega
theorem xbak{n:Int}(h:inU n)(rest:List Int)(hb:qad (qav n++rest)=true):qc5 (qav n++rest)=(n,true)::qc5 rest:=by have hp:=xb35 n;rw[q70 hb,if_neg (fun e=>by rw[List.append_eq_nil_iff] at e;rw[e.1] at hp;simp at hp),xbex h];simp only[];rw[if_neg (by omega),xbxo,List.drop_left]
theorem q7y: ∀(l:List Int) (rest:List Int),(∀n∈l,inU n)->qad (l.flatMap qav++rest)=true->qc5 (l.flatMap qav++rest)=l.map (fun n=>(n,true))++qc5 rest
 | [],rest,_,_=>rfl
 | n::l,rest,h,hb=>by rw[za1,zci] at hb ⊢;rw[xbak (h n (by simp)) _ hb,q7y l rest (fun x hx=>h x (by simp[hx])) (by have:=qa9 hb (qav n).length;rwa [List.drop_left] at this)];rfl
def oflat:List Int->List Int
 | x::y::r=>(40*x+y)::r
 | _=>[]
theorem qk4{o:List Int}(h:qbs o=true):qco o=(oflat o).flatMap qav:=by obtain⟨x,y,r,rfl,_⟩:=qmo h;unfold qco;rw[if_pos h];simp[oflat]
theorem qy5{o:List Int}(h:qbs o=true)(hr: ∀n∈o,inU n): ∀n∈oflat o,inU n:=by
 obtain⟨x,y,r,rfl,h1,h2,h3,h4⟩:=qmo h;intro n hn;have:=hr x (by simp);have:=hr y (by simp);rcases zav.1 hn with rfl|hn
 ·exact⟨by omega,by omega⟩
 ·exact hr n (by simp[hn])
theorem q72{o:List Int}(h:qbs o=true):(oflat o).length+1=o.length:=by obtain⟨x,y,r,rfl,_⟩:=qmo h;rfl
theorem xbqk{o:List Int}(hr: ∀n∈o,inU n):qad (qco o)=true:=by
 by_cases h:qbs o=true
 ·rw[qk4 h];have hl:=q72 h;have hf:=xbmm h;have hg: ∀(l:List Int),(l.flatMap qav).length<=6*l.length:=fun l=>by
   induction l with
   | nil=>simp
   | cons a l ih=>have:=q9t a;simp at*;omega
  have:=hg (oflat o);refine qcm (by omega) fun x hx=> ?_;obtain⟨n,hn,hx⟩:=zbv.1 hx;exact xbnm (qy5 h hr n hn) x hx
 ·unfold qco;rw[if_neg h];exact qcm (by simp) (by simp)
theorem xbnl: ∀(l o:List Int),o≠[]->o.length+l.length<=21->qum (l.map fun n=>(n,true)) o=some (o++l)
 | [],o,_,_=>by simp[qum]
 | n::l,o,h,hl=>by rw[zbe];unfold qum;simp only[zac] at hl;rw[if_neg (by rintro(h|h);cases h;omega),if_neg h,xbnl l (o++[n]) (by simp) (by simp;omega)];simp
theorem q9s{x y:Int}(h:qbs [x,y]=true)(hx:inU x)(hy:inU y):qb5 (40*x+y)=[x,y]:=by
 simp only[qbs,zab,zbs,decide_eq_true_eq] at h;unfold qb5;rcases h.2 with h|h
 ·rw[if_pos (by omega),show(40*x+y)/ 40=x by omega,show(40*x+y) % 40=y by omega]
 ·rw[if_neg (by omega),h.1,show 40*2+y - 80=y by omega]
theorem xbal{o:List Int}(h:qbs o=true)(hr: ∀n∈o,inU n):qct (qco o)=(o,0):=by
 have hok:=xbqk hr;have hfl:=xbmm h;rw[qk4 h] at hok ⊢;have e:=q7y (oflat o) [] (qy5 h hr) (by rwa [zbz]);rw[zbz] at e;unfold qct;rw[e,show qc5 []=[] from rfl,zbz];obtain⟨x,y,r,rfl,h1,h2,h3,h4⟩:=qmo h;have hf2:qbs [x,y]=true:=by simp only[qbs,zab] at h ⊢;exact⟨by simp,h.2⟩
 have:qum ((oflat (x::y::r)).map fun n=>(n,true)) []=some (x::y::r):=by show qum ((40*x+y,true)::r.map fun n=>(n,true)) []=_;unfold qum;rw[if_neg (by simp),if_pos rfl,q9s hf2 (hr x (by simp)) (hr y (by simp)),xbnl r [x,y] (by simp) (by simp at*;omega)];rfl
 rw[this];simp only[];rw[if_pos h]
theorem xbd7: ∀(f:Nat) (n:Int),0<=n->n<128 ^ f->gHi f n=gHi (f+1) n
 | 0,n,h0,h=>by
  rw[Int.pow_zero] at h;have:n=0:=by omega
  subst this;rw[xbd6,xbd6]
 | f+1,n,h0,h=>by
  by_cases hn:n=0
  ·subst hn;rw[xbd6,xbd6]
  ·rw[q6u _ hn,q6u _ hn,xbd7 f (n/ 128) (by omega) (by rw[zc1] at h;generalize (128:Int) ^ f=X at*;omega)]
theorem q1q: ∀(b:List Int) (acc i n k:Int),(∀x∈b,0<=x/\x<=255)->0<=acc->0<=i->(i=0->acc=0)->(0<i->0<acc)->qb9 acc i b=(n,k)->k≠0->gHi 5 acc++b.take (k - i).toNat=qav n
 | [],acc,i,n,k,_,_,_,_,_,h,hk=>by simp[qb9] at h;omega
 | c::b,acc,i,n,k,hb,h0,hi,h1,h2,h,hk=>by
  have hc:=hb c (by simp);rw[qrb] at h;split at h
  ·simp at h;omega
  ·rename_i hn;simp only[not_or,not_and] at hn;split at h
   ·simp only[za4] at h;obtain⟨rfl,rfl⟩:=h;unfold qav;rw[show(i+1 - i).toNat=1 by omega,show(acc*128+c)/ 128=acc by omega,show(acc*128+c) % 128=c by omega];rfl
   ·have hrng:=qy3 b (acc*128+(c - 128)) (i+1) (fun x hx=>hb x (by simp[hx])) (by omega) (by omega);rw[h] at hrng;have hk2:=hrng.2.resolve_left hk;simp only at hk2;have hpos:0<acc*128+(c - 128):=by
     by_cases hi0:i=0
     ·have:=hn.1 hi0;omega
     ·have:=h2 (by omega);omega
    have:=q1q b (acc*128+(c - 128)) (i+1) n k (fun x hx=>hb x (by simp[hx])) (by omega) (by omega) (by omega) (by omega) h hk;rw[q6u 4 (by omega),show(acc*128+(c - 128))/ 128=acc by omega,show 128+(acc*128+(c - 128)) % 128=c by omega,xbd7 4 acc h0 (by omega)] at this;rw[<- this,show(k - i).toNat=(k - (i+1)).toNat+1 by omega,zca];simp
theorem q7x: ∀(f:Nat) (b:List Int),qad b=true->b.length<=f->(∀p∈qds f b,p.2=true)->b=(qds f b).flatMap fun p=>qav p.1
 | 0,b,_,h,_=>by have:b=[]:=zak (by omega);subst this;rfl
 | f+1,b,hb,hl,hall=>by
  unfold qds at hall ⊢;by_cases he:b=[]
  ·subst he;rfl
  ·rw[if_neg he] at hall ⊢;by_cases h0:(qao b).2=0
   ·rw[if_pos h0] at hall;have:=hall ((qao b).1,false) (by simp);cases this
   ·rw[if_neg h0] at hall ⊢;have hr:=(qie hb).2.resolve_left h0;have hg:=q1q b 0 0 (qao b).1 (qao b).2 (qal hb).2 (by omega) (by omega) (fun _=>rfl) (by omega) rfl h0;rw[xbd6,za7,Int.sub_zero] at hg;rw[za1, <- hg, <- q7x f (b.drop (qao b).2.toNat) (qa9 hb _) (by simp only[zar];omega) (fun p hp=>hall p (by simp[hp]))];exact(List.take_append_drop _ _).symm
theorem xbxi: ∀(l:List (Int×Bool)) (o o':List Int),qum l o=some o'->o≠[]->(∀p∈l,p.2=true)/\o'=o++l.map (·.1)
 | [],o,o',h,_=>by simp[qum] at h;subst h;simp
 | (n,ok)::l,o,o',h,ho=>by
  unfold qum at h;rw[if_neg ho] at h;split at h
  ·cases h
  ·rename_i hn;simp only[not_or] at hn;obtain⟨h1,h2⟩:=xbxi l _ o' h (by simp);refine⟨fun p hp=> ?_,by rw[h2];simp⟩;rcases zav.1 hp with rfl|hp
   ·simpa using hn.1
   ·exact h1 p hp
theorem qu6{b:List Int}(hb:qad b=true):(qct b=([],5))\/∃o,qct b=(o,0)/\qbs o=true/\(∀n∈o,inU n)/\qco o=b:=by
 unfold qct
 cases hg:qum (qc5 b) [] with
 | none=>exact .inl rfl
 | some o=>
  simp only[];by_cases hf:qbs o=true
  ·rw[if_pos hf];refine .inr ⟨o,rfl,hf, ?_⟩;have hback:=q7x b.length b hb (zas _);have hrng:=q5d b.length b hb;change (∀p∈qc5 b,p.2=true)->b=(qc5 b).flatMap _ at hback;change ∀p∈qc5 b,_ at hrng
   cases hl:qc5 b with
   | nil=>
    rw[hl] at hg;simp[qum] at hg;subst hg;simp[qbs] at hf
   | cons p l=>
    obtain⟨n,ok⟩:=p;rw[hl] at hg hback hrng;unfold qum at hg;split at hg
    ·cases hg
    ·rename_i hn;rw[if_pos rfl] at hg;have hne:qb5 n≠[]:=by unfold qb5;split<;>simp
     obtain⟨h1,rfl⟩:=xbxi l _ o hg hne;have hbk:=hback (fun p hp=>by
      rcases zav.1 hp with rfl|hp
      ·simpa using (not_or.1 hn).1
      ·exact h1 p hp)
     have hn2:=hrng (n,ok) (by simp);simp only at hn2;have hfl:oflat (qb5 n++l.map (·.1))=n::l.map (·.1):=by
      unfold qb5;split
      ·simp only[zbl,za7,oflat,zcl,and_true];omega
      ·simp only[zbl,za7,oflat,zcl,and_true];omega
     have hin: ∀m∈qb5 n++l.map (·.1),inU m:=by
      intro m hm;rcases zap.1 hm with hm|hm
      ·unfold qb5 at hm;split at hm
       ·simp at hm;rcases hm with rfl|rfl<;>exact⟨by omega,by omega⟩
       ·simp at hm;rcases hm with rfl|rfl<;>exact⟨by omega,by omega⟩
      ·obtain⟨q,hq,rfl⟩:=zbp.1 hm;exact hrng q (by simp[hq])
     refine⟨hin, ?_⟩;rw[qk4 hf,hfl]
     conv=>rhs;rw[hbk]
     simp[List.flatMap_map]
  ·rw[if_neg hf];exact .inl rfl
open IntWalk (i64_in u8_in u32_in u64_in i64_quo u8_quo rem_in)
theorem xbkr{b:List Int}(h:num8 b=true):b.length<=8/\∀x∈b,0<=x/\x<=255:=by unfold num8 at h;rw[qab,zab,decide_eq_true_eq,zai] at h;exact⟨h.1,fun x hx=>qj1 (h.2 x hx)⟩
theorem xbzu{b:List Int}(h:b.length<=8)(h': ∀x∈b,0<=x/\x<=255):num8 b=true:=by unfold num8;rw[qab,zab,decide_eq_true_eq,zai];exact⟨h,fun x hx=>decide_eq_true (h' x hx)⟩
theorem xboz{n:Int}(h:0<=n/\n<=18446744073709551615):u64Ok n=true:=by unfold u64Ok;rw[qab];exact decide_eq_true h
theorem q8v{n:Int}(h:u64Ok n=true):0<=n/\n<=18446744073709551615:=by unfold u64Ok at h;rw[qab] at h;exact of_decide_eq_true h
abbrev xb6q:Int->Option Out:=fun y=>zR [.cl (.int .u64 y)] []
theorem xbh7(b:List Int)(hb: ∀x∈b,0<=x/\x<=255)(hl:b.length<=8): ∀(f i:Nat) (n:Int),i<=b.length->b.length<f+i->0<=n->n<256 ^ i->
  qq5 xb6q f n b (b.length:Int) i=zR [.cl (.int .u64 ((b.drop i).foldl (fun n x=>n*256+x) n))] []
 | 0,i,n,hi,hf,_,_=>by omega
 | f+1,i,n,hi,hf,h0,h1=>by
  show qs5 (qq5 xb6q f) xb6q n b _ i=_;unfold qs5;refine qae (fun h=> ?_) fun h=> ?_
  ·have hh:((256:Int) ^ i)=((256 ^ i:Nat):Int):=by rw[zdm];rfl
   have h3:(256 ^ i:Nat)<=72057594037927936:=zcd (zct (by omega) (show i<=7 by omega)) (by decide);have h2:n<72057594037927936:=by rw[hh] at h1;generalize 256 ^ i=z at*;omega
   obtain⟨x,hx⟩:=qb3 (b:=b) (i:=i) (by omega);have hxr:=hb x (zae hx);refine qa1 (by omega) hx ?_;rw[qdv hx,zbi];dsimp only;rw[show IntKind.u64.wrap (n*2 ^ 8)=n*256 from(u64_in _ (by omega)).trans (by omega),show IntKind.u64.wrap x=x from u64_in _ (by omega),xbz2 h0 h2 hxr.1 hxr.2,show IntKind.u64.wrap (n*256+x)=n*256+x from u64_in _ (by omega),
    show IntKind.i64.wrap ((i:Int)+1)=((i+1:Nat):Int) from(i64_in _ (by omega)).trans (by omega)]
   exact xbh7 b hb hl f (i+1) _ (by omega) (by omega) (by omega) (by rw[zc1];omega)
  ·rw[qes (by omega)];rfl
theorem xb5o(b:List Int)(hp:num8 b=true):xbw9 b=zR [.cl (.int .u64 (qhk b))] []:=by obtain⟨hl,hb⟩:=xbkr hp;unfold xbw9 qhk;simp only[qab];exact xbh7 b hb hl FUEL 0 0 (by omega) (by unfold FUEL;omega) (by omega) (by decide)
theorem xb7s(x:Int):IntKind.u8.wrap x=x % 256:=by simp[IntKind.wrap,IntKind.bits,IntKind.signed]
theorem xb7q{n:Int}(h:0<=n)(k:Nat):Int.fdiv n (2 ^ k)=n/ 2 ^ k:=zbh _ (by have:(0:Int)<2 ^ k:=Int.pow_pos (by decide);omega)
theorem nVLe(n:Int)(hp:u64Ok n=true):gVLe n=zR [.ref 0 0 8 true 1] [some ⟨.ints .u8 (vLe n),false⟩]:=by
 have h:=(q8v hp).1;unfold gVLe vLe vLeC;simp only[qab,xb7s,xb7q h];simp only[show(2:Int) ^ 0=1 from rfl,show(2:Int) ^ 8=256 from rfl,show(2:Int) ^ 16=65536 from rfl,show(2:Int) ^ 24=16777216 from rfl,show(2:Int) ^ 32=4294967296 from rfl,show(2:Int) ^ 40=1099511627776 from rfl,
  show(2:Int) ^ 48=281474976710656 from rfl,show(2:Int) ^ 56=72057594037927936 from rfl,Int.ediv_one]
theorem xbkn(l:List Int)(hp:xb0m l=true):xbjt l=zR [] [some ⟨.ints .u8 (vRev l),false⟩]:=by
 have h:l.length=8:=by unfold xb0m at hp;rw[qab] at hp;exact of_decide_eq_true hp
 match l,h with
 | [a0,a1,a2,a3,a4,a5,a6,a7],_=>
  unfold vRev;rw[qab];rfl
theorem xb2w(n:Int):(vLe n).length=8:=by unfold vLe;rw[qab];rfl
theorem nVBe(n:Int)(hp:u64Ok n=true):gVBe n=zR [.cl (.sli .u8 (vBe n))] []:=by unfold gVBe;refine qak hp (qak (by unfold xb0m;rw[qab];exact decide_eq_true (xb2w n)) ?_);unfold vBe vRev vLe;simp only[qab]
theorem xbov{n:Int}(h:0<=n):IntKind.u8.wrap (IntKind.u64.wrap ((BitVec.ofInt 64 n&&&BitVec.ofInt 64 255).toNat))=n % 256:=by
 have e1:((BitVec.ofInt 64 n&&&BitVec.ofInt 64 255).toNat:Int)=n % 256:=by rw[BitVec.toNat_and,zcr,show(BitVec.ofInt 64 255).toNat=2 ^ 8 - 1 from rfl,Nat.and_two_pow_sub_one_eq_mod];omega
 rw[e1,u64_in _ (by omega),xb7s];omega
theorem xb5s(n:Int)(hp:u64Ok n=true):xbxe n=zR [.cl (.sli .u8 (vBe n))] []:=by
 have h:=(q8v hp).1;have d: ∀ {m:Int},0<=m->Int.fdiv m (2 ^ 8)=m/ 256:=fun hm=>xb7q hm 8;unfold xbxe vBe vLeC;simp only[qab,List.reverse_cons,List.reverse_nil,za7,zbl];rw[d h,d (show 0<=n/ 256 by omega),d (show 0<=n/ 256/ 256 by omega),d (show 0<=n/ 256/ 256/ 256 by omega),d (show 0<=n/ 256/ 256/ 256/ 256 by omega),d (show 0<=n/ 256/ 256/ 256/ 256/ 256 by omega),
  d (show 0<=n/ 256/ 256/ 256/ 256/ 256/ 256 by omega),xbov h,xbov (show 0<=n/ 256 by omega),xbov (show 0<=n/ 256/ 256 by omega),xbov (show 0<=n/ 256/ 256/ 256 by omega),xbov (show 0<=n/ 256/ 256/ 256/ 256 by omega),
  xbov (show 0<=n/ 256/ 256/ 256/ 256/ 256 by omega),xbov (show 0<=n/ 256/ 256/ 256/ 256/ 256/ 256 by omega),xbov (show 0<=n/ 256/ 256/ 256/ 256/ 256/ 256/ 256 by omega)]
 rw[show n/ 256/ 256=n/ 65536 by omega,show n/ 65536/ 256=n/ 16777216 by omega,show n/ 16777216/ 256=n/ 4294967296 by omega,show n/ 4294967296/ 256=n/ 1099511627776 by omega,
  show n/ 1099511627776/ 256=n/ 281474976710656 by omega,show n/ 281474976710656/ 256=n/ 72057594037927936 by omega]
theorem xbdb{l:List Int}(h: ∀x∈l,0<=x/\x<=255)(h8:l.length<=8):qad l=true:=qcm (by omega) h
theorem xb2t(n:Int): ∀x∈vBe n,0<=x/\x<=255:=by unfold vBe vLeC;rw[qab];intro x hx;rw[List.mem_reverse] at hx;simp only[zav,zc4,or_false] at hx;rcases hx with rfl|rfl|rfl|rfl|rfl|rfl|rfl|rfl<;>omega
theorem xbh3(n:Int):(vBe n).length=8:=by unfold vBe;rw[qab];rfl
theorem xbh0(a b:Int)(r:List Int):q50 (a::b::r)=if(a=0/\b<128)\/(a=255/\128<=b) then q50 (b::r) else a::b::r:=by
 conv=>lhs;unfold q50
abbrev xbl8:List Int->Option Out:=fun y=>zR [.cl (.agg [.int .i64 2,.sli .u8 y,.slg 3 []])] []
theorem xboy: ∀(f:Nat) (l:List Int),l.length<f->qs6 xbl8 f l=xbl8 (q50 l)
 | 0,l,h=>by omega
 | f+1,l,h=>by
  show qys (qs6 xbl8 f) xbl8 l=_;unfold qys
  match l,h with
  | [],_=>exact qcq (by simp) rfl
  | [a],_=>exact qcq (by simp) rfl
  | a::b::r,h=>
   have again:=xboy f (b::r) (by simp only[zac] at h ⊢;omega);generalize qs6 xbl8 f=ag at again ⊢;have l1:(1:Int)<(((a::b::r).length:Nat):Int):=by simp only[zac];omega
   rw[xbh0];refine qaq l1 (qaq (by omega) ?_);show cond (decide (a=0)) _ _=_;refine qae (fun h0=>qaq l1 ?_) fun h0=>qaq (by omega) ?_
   ·show cond (decide (b<128)) _ _=_;refine qae (fun h1=>qaq (by omega) ?_) fun h1=>qaq (by omega) ?_
    ·rw[if_pos (.inl ⟨h0,h1⟩)];exact again
    ·show cond (decide (a=255)) _ _=_;rw[if_neg (by omega)];exact qcq (by omega) rfl
   ·show cond (decide (a=255)) _ _=_;refine qae (fun h1=>qaq l1 ?_) fun h1=> ?_
    ·show cond (decide (128<=b)) _ _=_;refine qae (fun h2=>qaq (by omega) ?_) fun h2=> ?_
     ·rw[if_pos (.inr ⟨h1,h2⟩)];exact again
     ·rw[if_neg (by omega)]
    ·rw[if_neg (by omega)]
theorem xb24(n:Int):IntKind.u64.wrap n=n % 18446744073709551616:=by simp[IntKind.wrap,IntKind.bits,IntKind.signed]
theorem xbou(n:Int):vInt n=q50 (vBe (n % 18446744073709551616)):=by unfold vInt xb2u vBe;rw[qab,qab]
theorem xb8o(n:Int)(hp:q5u n=true):xb66 n=zR [.cl (.agg [.int .i64 2,.sli .u8 (vInt n),.slg 3 qcg])] []:=by unfold xb66;rw[xb24];refine qak (xboz (by omega)) ?_;simp only[qab];rw[xbou];unfold qcg;rw[qab];exact xboy FUEL _ (by rw[xbh3];unfold FUEL;omega)
theorem xbf3{a b:Int}{r:List Int}(ha:0<=a/\a<=255)(hb:0<=b/\b<=255):(qbi 2 (a::b::r)=false)↔((a=0/\b<128)\/(a=255/\128<=b)):=by unfold qbi;rw[if_neg (by decide),if_pos rfl];unfold qdo;simp;omega
theorem xbh8: ∀(f:Nat) (l:List Int),l.length<f->(∀x∈l,0<=x/\x<=255)->l.length<=8->qq6 xbl8 f l=xbl8 (q50 l)
 | 0,l,h,_,_=>by omega
 | f+1,l,h,hb,h8=>by
  show qs7 (qq6 xbl8 f) xbl8 l=_;unfold qs7
  match l,h with
  | [],_=>exact qcq (by simp) rfl
  | [a],_=>exact qcq (by simp) rfl
  | a::b::r,h=>
   have again:=xbh8 f (b::r) (by simp only[zac] at h ⊢;omega) (fun x hx=>hb x (za6 _ hx)) (by simp only[zac] at h8 ⊢;omega);have l1:(1:Int)<(((a::b::r).length:Nat):Int):=by simp only[zac];omega
   have key:=xbf3 (r:=r) (hb a (by simp)) (hb b (by simp));refine qaq l1 (qak (xbdb hb h8) ?_);dsimp only;unfold qc3;rw[qab,xbh0]
   cases hd:qbi 2 (a::b::r) with
   | false=>rw[if_pos (key.1 hd)];exact qaq (by omega) again
   | true=>rw[if_neg (fun h=>by rw[key.2 h] at hd;cases hd)];rfl
theorem xb5u(n:Int)(hp:q5u n=true):xbxh n=zR [.cl (.agg [.int .i64 2,.sli .u8 (vInt n),.slg 3 qcg])] []:=by unfold xbxh;rw[xb24];refine qak (xboz (by omega)) ?_;simp only[qab];rw[xbou];unfold qcg;rw[qab];exact xbh8 FUEL _ (by rw[xbh3];unfold FUEL;omega) (xb2t _) (by rw[xbh3];omega)
open IntWalk (i64_in u8_in u32_in u64_in i64_quo u8_quo rem_in)
theorem xb7r(n:Int):IntKind.i64.wrap n=if 9223372036854775808<=n % 18446744073709551616 then n % 18446744073709551616 - 18446744073709551616 else n % 18446744073709551616:=by simp[IntKind.wrap,IntKind.bits,IntKind.signed]
theorem qy4(h:Int)(r:List Int):qar (h::r)=h*256 ^ r.length+qar r:=by
 unfold qar;have key: ∀(r:List Int) (a:Int),r.foldl (fun n x=>n*256+x) a=a*256 ^ r.length+r.foldl (fun n x=>n*256+x) 0:=by
  intro r
  induction r with
  | nil=>intro a;simp
  | cons x r ih=>
   intro a;rw[zbi,zbi,show(0:Int)*256+x=x by omega,ih,ih x,zac,zc1];generalize (256:Int) ^ r.length=z;generalize r.foldl (fun n x=>n*256+x) 0=y;rw[Int.add_mul,Int.mul_assoc,zdr 256 z];omega
 rw[zbi,key];simp
theorem qti{b:List Int}(hb: ∀x∈b,0<=x/\x<=255){L:Nat}(hL:b.length=L+1):0<=qar b/\qar b<256*256 ^ L/\(128<=b.headD 0↔128*256 ^ L<=qar b):=by
 cases b with
 | nil=>simp at hL
 | cons h r=>
  have h1:=hb h (by simp);have h2:=qsa (b:=r) fun x hx=>hb x (za6 _ hx);have hr:r.length=L:=by simpa using hL
  rw[qy4,hr];rw[hr] at h2;have hp:(0:Int)<256 ^ L:=Int.pow_pos (by decide);simp only[zba];generalize (256:Int) ^ L=z at*;generalize qar r=y at*;have m1:h*z<=255*z:=zb7 h1.2 (by omega);have m0:0<=h*z:=Int.mul_nonneg h1.1 (by omega);refine⟨by omega,by omega,fun hh=> ?_,fun hh=> ?_⟩
  ·have:128*z<=h*z:=zb7 hh (by omega);omega
  ·by_cases hc:128<=h
   ·exact hc
   ·have:h*z<=127*z:=zb7 (by omega) (by omega);omega
theorem xb2r(b:List Int)(hb: ∀x∈b,0<=x/\x<=255)(hl:b.length<=8):Int.fdiv (IntKind.i64.wrap (IntKind.u64.wrap (qar b*2 ^ (64 - 8*b.length)))) (2 ^ (64 - 8*b.length))=xbis b:=by
 unfold xbis;by_cases h0:b=[]
 ·subst h0;simp[qar,xb24,xb7r]
 obtain⟨L,hL⟩: ∃L,b.length=L+1:=⟨b.length - 1,by have:=List.length_pos_iff.2 h0;omega⟩;obtain⟨h1,h2,h3⟩:=qti hb hL;rw[hL] at hl ⊢;generalize qar b=u at*;have key: ∀(p q:Int),0<p->p*q=9223372036854775808->u<2*q->(128<=b.headD 0↔q<=u)->Int.fdiv (IntKind.i64.wrap (IntKind.u64.wrap (u*p))) p=if 128<=b.headD 0 then u - 2*q else u:=fun p q hp hpq hu hh=>by
  have hm:u*p<2*(p*q):=by have:u*p<2*q*p:=Int.mul_lt_mul_of_pos_right hu hp;rw[Int.mul_assoc,zdr q p] at this;exact this
  have h00:0<=u*p:=Int.mul_nonneg h1 (by omega);rw[xb24,Int.emod_eq_of_lt h00 (by omega),xb7r,Int.emod_eq_of_lt h00 (by omega)];by_cases hc:q<=u
  ·have hge:p*q<=u*p:=by rw[zdr p q];exact zb7 hc (by omega)
   rw[if_pos (by omega),if_pos (hh.2 hc),show u*p - 18446744073709551616=(u - 2*q)*p by rw[Int.sub_mul,Int.mul_assoc,zdr q p];omega,zbh _ (by omega),Int.mul_ediv_cancel _ (by omega)]
  ·have hlt:u*p<p*q:=by rw[zdr p q];exact Int.mul_lt_mul_of_pos_right (by omega) hp
   rw[if_neg (by omega),if_neg (fun h=>hc (hh.1 h)),zbh _ (by omega),Int.mul_ediv_cancel _ (by omega)]
 have hLe:L=0\/L=1\/L=2\/L=3\/L=4\/L=5\/L=6\/L=7:=by omega
 rcases hLe with rfl|rfl|rfl|rfl|rfl|rfl|rfl|rfl
 ·exact key 72057594037927936 128 (by decide) (by decide) (by omega) (by omega)
 ·exact key 281474976710656 32768 (by decide) (by decide) (by omega) (by omega)
 ·exact key 1099511627776 8388608 (by decide) (by decide) (by omega) (by omega)
 ·exact key 4294967296 2147483648 (by decide) (by decide) (by omega) (by omega)
 ·exact key 16777216 549755813888 (by decide) (by decide) (by omega) (by omega)
 ·exact key 65536 140737488355328 (by decide) (by decide) (by omega) (by omega)
 ·exact key 256 36028797018963968 (by decide) (by decide) (by omega) (by omega)
 ·exact key 1 9223372036854775808 (by decide) (by decide) (by omega) (by omega)
theorem xb0l{a b c d:Int}(h1:a=c)(h2:b=d):zR [.cl (.int .i64 a),.cl (.int .i64 b)] []=zR [.cl (.int .i64 c),.cl (.int .i64 d)] []:=by rw[h1,h2]
theorem xbs3(b:List Int)(hp:qad b=true):xbeu b=zR [.cl (.int .i64 (qqm b).1),.cl (.int .i64 (qqm b).2)] []:=by
 obtain⟨hlen,hb⟩:=qal hp;unfold xbeu qqm qpw;rw[qab];refine qae (fun h=> ?_) fun h=> ?_
 ·rw[if_pos (by omega)]
 ·rw[if_neg (by omega)];have e1:IntKind.i64.wrap ((8:Int)*(b.length:Int))=((8*b.length:Nat):Int):=(i64_in _ (by omega)).trans (by omega);have e2:IntKind.i64.wrap ((64:Int) - ((8*b.length:Nat):Int))=((64 - 8*b.length:Nat):Int):=(i64_in _ (by omega)).trans (by omega);dsimp only;rw[e1,e2];refine qak (xbzu (by omega) hb) (qcq (by omega) (qcq (by omega) (xb0l ?_ rfl)));rw[show min ((64 - 8*b.length:Nat):Int).toNat 64=64 - 8*b.length by omega];unfold qhk;rw[qab];exact xb2r b hb (by omega)
open IntWalk (i64_in u8_in u32_in u64_in i64_quo u8_quo rem_in)
theorem xbnv{g:Int}{b:List Int}(hb: ∀x∈b,0<=x/\x<=255):isTf 1 [.int .i64 g,.sli .u8 b,.slg 3 []]=true:=by show(b.all xbi4&&true)=true;rw[Bool.and_true,zai];exact fun x hx=>decide_eq_true (hb x hx)
theorem xbfb{g:Int}{b:List Int}(hb: ∀x∈b,0<=x/\x<=255)(hl:b.length<=29999):isS [.int .i64 g,.sli .u8 b,.slg 3 []]=true:=
 q9x (xbnv hb) (by unfold qd6;simp;omega)
theorem xbfa{g:Int}{b:List Int}(hb: ∀x∈b,0<=x/\x<=255)(hg:qau g=false):qul [.int .i64 g,.sli .u8 b,.slg 3 []]=(qbd g&&qbi g b):=by rw[qyy (xbnv hb)];unfold okF qaj;simp[hg]
theorem qix{t:Int}{b:List Int}{k:List CV}(h:isS [.int .i64 t,.sli .u8 b,.slg 3 k]=true):b.length<=29999/\∀x∈b,0<=x/\x<=255:=by obtain⟨n,hn,hB⟩:=qdp h;obtain⟨m,t',b',l',rfl,e,hb,_⟩:=qdk hn;cases e;refine⟨?_,hb⟩;change 1+b.length+_<=30000 at hB;omega
theorem qvd{t:Int}{b:List Int}{k:List CV}(h:isS [.int .i64 t,.sli .u8 b,.slg 3 k]=true):qad b=true:=qcm (by have:=(qix h).1;omega) (qix h).2
theorem xbh4{g t:Int}{b:List Int}{k:List CV}(h:t=g)(hk:k.length=0)(hd:qbi g b=false):qm7 g t b k=5:=by unfold qm7;rw[if_neg (by simp[h]),if_pos (.inr hd)]
theorem qug{g t:Int}{b:List Int}{k:List CV}(h:t=g)(hk:k.length=0)(hd:qbi g b=true):qm7 g t b k=0:=by unfold qm7;rw[if_neg (by simp[h]),if_neg (by simp[hk,hd])]
theorem q51{g t:Int}{b:List Int}{k:List CV}(h: ¬t=g):qm7 g t b k=4:=by unfold qm7;rw[if_pos h]
theorem qz4{g t:Int}{b:List Int}{k:List CV}(h:t=g)(hk:0<k.length):qm7 g t b k=5:=by unfold qm7;rw[if_neg (by simp[h]),if_pos (.inl (by omega))]
theorem quf{g t:Int}{b:List Int}{k:List CV}(h:qm7 g t b k=0):t=g/\k.length=0/\qbi g b=true:=by
 unfold qm7 at h;split at h
 ·omega
 ·split at h
  ·omega
  ·rename_i h1 h2;refine⟨by omega,by omega, ?_⟩
   cases hd:qbi g b with
   | true=>rfl
   | false=>exact absurd (.inr hd) h2
theorem xbos{g t:Int}{b:List Int}{k:List CV}{bad:Int->Option Out}{good:Option Out}(hS:isS [.int .i64 t,.sli .u8 b,.slg 3 k]=true)(hk:qbd g=true)(hb:qau g=false):
  cond (!decide (t=g)) (bad 4) (cond (decide ((0:Int)<(k.length:Int))) (bad 5) (cond (isS [.int .i64 g,.sli .u8 b,.slg 3 []]) (cond (!(qul [.int .i64 g,.sli .u8 b,.slg 3 []])) (bad 5) good) none))=if qm7 g t b k=0 then good else bad (qm7 g t b k):=by
 obtain⟨h1,h2⟩:=qix hS;refine qaw (fun h=> ?_) fun h=>qae (fun h'=> ?_) fun h'=>qak (xbfb h2 h1) ?_
 ·rw[q51 h];rfl
 ·rw[qz4 h (by omega)];rfl
 ·rw[xbfa h2 hb,hk,zbt]
  cases hd:qbi g b with
  | false=>rw[xbh4 h (by omega) hd];rfl
  | true=>rw[qug h (by omega) hd];rfl
theorem xbko(t:Int)(b:List Int)(k:List CV)(hp:isS [.int .i64 t,.sli .u8 b,.slg 3 k]=true):q62 t b k=zR [.cl (.int .i64 (qb7 t b k).1),.cl (.int .i64 (qb7 t b k).2)] []:=by
 unfold q62;dsimp only;refine(xbos (bad:=fun e=>zR [.cl (.int .i64 0),.cl (.int .i64 e)] []) hp rfl rfl).trans ?_;unfold qb7;rw[qab];by_cases h:qm7 2 t b k=0
 ·rw[if_pos h,if_pos h];refine qak (qvd hp) ?_;unfold qqm;rw[qab]
 ·rw[if_neg h,if_neg h]
theorem xbzq(t:Int)(b:List Int)(k:List CV)(hp:isS [.int .i64 t,.sli .u8 b,.slg 3 k]=true):xbnj t b k=zR [.cl (.sli .u32 (qe7 t b k).1),.cl (.int .i64 (qe7 t b k).2)] []:=by
 unfold xbnj;dsimp only;refine(xbos (bad:=fun e=>zR [.cl (.sli .u32 []),.cl (.int .i64 e)] []) hp rfl rfl).trans ?_;unfold qe7;rw[qab];by_cases h:qm7 6 t b k=0
 ·rw[if_pos h,if_pos h];exact qak (qvd hp) rfl
 ·rw[if_neg h,if_neg h]
theorem xbzn(t:Int)(b:List Int)(k:List CV)(g:Int)(hp:isS [.int .i64 t,.sli .u8 b,.slg 3 k]=true):xbnh t b k g=zR [.cl (.sli .u8 (quh g t b k).1),.cl (.int .i64 (quh g t b k).2)] []:=by
 unfold xbnh quh qc3;simp only[qab];refine qaw (fun h=> ?_) fun h=>qae (fun h'=> ?_) fun h'=>qak (qvd hp) ?_
 ·rw[q51 h];rfl
 ·rw[qz4 h (by omega)];rfl
 ·cases hd:qbi g b with
  | false=>rw[xbh4 h (by omega) hd];rfl
  | true=>rw[qug h (by omega) hd];rfl
theorem xbzm(t:Int)(b:List Int)(k:List CV)(hp:isS [.int .i64 t,.sli .u8 b,.slg 3 k]=true):xbxb t b k=zR [.cl (.int .i64 (qb7 t b k).1),.cl (.int .i64 (qb7 t b k).2)] []:=qak hp rfl
theorem xb5p(t:Int)(b:List Int)(k:List CV)(hp:isS [.int .i64 t,.sli .u8 b,.slg 3 k]=true):xb33 t b k=zR [.cl (.sli .u32 (qe7 t b k).1),.cl (.int .i64 (qe7 t b k).2)] []:=qak hp rfl
theorem fits4(b:List Int):qbi 4 b=true:=rfl
theorem xbkm(t:Int)(b:List Int)(k:List CV)(hp:isS [.int .i64 t,.sli .u8 b,.slg 3 k]=true):q61 t b k=zR [.cl (.sli .u8 (qa0 t b k).1),.cl (.int .i64 (qa0 t b k).2)] []:=by
 unfold q61 qa0;rw[qab];refine qaw (fun h=> ?_) fun h=>qae (fun h'=> ?_) fun h'=>qak (qkc (by have:=(qix hp).1;omega)) ?_
 ·rw[q51 h];rfl
 ·rw[qz4 h (by omega)];rfl
 ·rw[qug h (by omega) (fits4 b)];rfl
theorem xbtc{g t:Int}{b:List Int}{k:List CV}(h:qm7 g t b k=0):quh g t b k=(b,0):=by unfold quh;rw[qab,if_pos h]
theorem xbtb{g t:Int}{b:List Int}{k:List CV}(h: ¬qm7 g t b k=0):quh g t b k=([],qm7 g t b k):=by unfold quh;rw[qab,if_neg h]
theorem xbzo(t:Int)(b:List Int)(k:List CV)(hp:isS [.int .i64 t,.sli .u8 b,.slg 3 k]=true):xbxg t b k=zR [.cl (.sli .u32 (qe7 t b k).1),.cl (.int .i64 (qe7 t b k).2)] []:=by
 refine qak hp ?_;dsimp only;unfold qe7;rw[qab];by_cases h:qm7 6 t b k=0
 ·rw[if_pos h,xbtc h];exact xbql rfl (qak (qvd hp) rfl)
 ·rw[if_neg h,xbtb h];exact xbdc h rfl
open IntWalk (i64_in u8_in u32_in u64_in i64_quo u8_quo rem_in)
abbrev W3(c:CV):Prop:= ∃t b k,c=.agg [.int .i64 t,.sli .u8 b,.slg 3 k]/\isS [.int .i64 t,.sli .u8 b,.slg 3 k]=true
abbrev bad2:Option Out:=zR [.cl (.agg [.int .i64 0,.sli .u8 [],.slg 3 []]),.cl (.int .i64 1)] []
open IntWalk (i64_in u8_in u32_in u64_in i64_quo u8_quo rem_in)
theorem qce:qcg=[]:=qab _
theorem xb2v:vInt 1=[1]:=by unfold vInt;rw[qab];rfl
open IntWalk (i64_in u8_in u32_in u64_in i64_quo u8_quo rem_in)
theorem qvi{g:Int}{b:List Int}(h:qs8 g b=true):(g=12\/g=6\/g=24)/\b.length<=2000/\∀x∈b,0<=x/\x<=255:=by unfold qs8 at h;rw[qab,zab,decide_eq_true_eq,zai] at h;exact⟨h.1.1,h.1.2,fun x hx=>qj1 (h.2 x hx)⟩
theorem xbj5{g:Int}{b:List Int}(h:g=12\/g=6\/g=24)(h':b.length<=2000)(hb: ∀x∈b,0<=x/\x<=255):qs8 g b=true:=by unfold qs8;rw[qab,zab,decide_eq_true_eq,zai];exact⟨⟨h,h'⟩,fun x hx=>decide_eq_true (hb x hx)⟩
theorem q54{g:Int}{b:List Int}(h:qbi g b=true):qge g b=(g,b,0):=by unfold qge xbl7;rw[qab,if_pos h]
theorem xbh6{g:Int}{b:List Int}(h:qbi g b=false):qge g b=(0,[],5):=by unfold qge xbl7;rw[qab,if_neg (by rw[h];simp)]
theorem xb5r(g:Int)(b:List Int)(hp:qs8 g b=true):xbxd g b=zR [.cl (.agg [.int .i64 (qge g b).1,.sli .u8 (qge g b).2.1,.slg 3 qcg]),.cl (.int .i64 (qge g b).2.2)] []:=by
 obtain⟨hg,hl,hb⟩:=qvi hp;have hk:qbd g=true/\qau g=false:=by rcases hg with rfl|rfl|rfl<;>exact⟨rfl,rfl⟩
 unfold xbxd;refine qak (xbfb hb (by omega)) ?_;rw[xbfa hb hk.2,hk.1,zbt,qce]
 cases hd:qbi g b with
 | false=>rw[xbh6 hd];rfl
 | true=>rw[q54 hd];rfl
theorem xbzp(g:Int)(b:List Int)(hp:qs8 g b=true):xbni g b=zR [.cl (.agg [.int .i64 (qge g b).1,.sli .u8 (qge g b).2.1,.slg 3 qcg]),.cl (.int .i64 (qge g b).2.2)] []:=by
 obtain⟨hg,hl,hb⟩:=qvi hp;unfold xbni qc3;rw[qab,qce];refine qak (qcm (by omega) hb) ?_
 cases hd:qbi g b with
 | false=>rw[xbh6 hd];rfl
 | true=>rw[q54 hd];rfl
theorem q66{o:List Int}(h:idOk o=true):o.length<=50/\∀n∈o,inU n:=by unfold idOk at h;rw[qab,zab,decide_eq_true_eq,zai] at h;exact⟨h.1,fun x hx=>of_decide_eq_true (h.2 x hx)⟩
theorem q65{o:List Int}(h:o.length<=50)(h': ∀n∈o,inU n):idOk o=true:=by unfold idOk;rw[qab,zab,decide_eq_true_eq,zai];exact⟨h,fun x hx=>decide_eq_true (h' x hx)⟩
theorem xbxl{o:List Int}(h:idOk o=true):qu0 o=true:=by obtain⟨h1,h2⟩:=q66 h;unfold qu0;rw[qab,zab,decide_eq_true_eq,zai];exact⟨by omega,fun x hx=>decide_eq_true (h2 x hx)⟩
theorem xbqy{o:List Int}(h:qbs o=true):2<=o.length/\o.length<=20:=by
 unfold qbs at h;split at h
 ·simp at h;simp;omega
 ·cases h
theorem xbks{o:List Int}(hr: ∀n∈o,inU n):(qax o).length<=2000/\∀x∈qax o,0<=x/\x<=255:=by
 rw[show qax o=qco o from qab _];by_cases h:qbs o=true
 ·rw[qk4 h];have hl:=q72 h;have hf:=xbqy h;have hg: ∀(l:List Int),(l.flatMap qav).length<=6*l.length:=fun l=>by
   induction l with
   | nil=>simp
   | cons a l ih=>have:=q9t a;simp at*;omega
  have:=hg (oflat o);refine⟨by omega,fun x hx=> ?_⟩;obtain⟨n,hn,hx⟩:=zbv.1 hx;exact xbnm (qy5 h hr n hn) x hx
 ·unfold qco;rw[if_neg h];exact⟨by simp,by simp⟩
theorem xbnp{o:List Int}(h:idOk o=true):qs8 6 (qax o)=true:=
 let ⟨h1,h2⟩:=xbks (q66 h).2
 xbj5 (.inr (.inl rfl)) h1 h2
theorem nVId(o:List Int)(hp:idOk o=true):gVId o=zR [.cl (.agg [.int .i64 (qge 6 (qax o)).1,.sli .u8 (qge 6 (qax o)).2.1,.slg 3 qcg]),.cl (.int .i64 (qge 6 (qax o)).2.2)] []:=qak (xbxl hp) (qak (xbnp hp) rfl)
theorem xb8p(o:List Int)(hp:idOk o=true):xb70 o=zR [.cl (.agg [.int .i64 (qge 6 (qax o)).1,.sli .u8 (qge 6 (qax o)).2.1,.slg 3 qcg]),.cl (.int .i64 (qge 6 (qax o)).2.2)] []:=qak (xbxl hp) (qak (xbnp hp) rfl)
theorem xbzk(b:List Int)(hp:qc7 b=true):xbxa b=zR [.cl (.agg [.int .i64 4,.sli .u8 b,.slg 3 qcg])] []:=by rw[qce];exact qak hp rfl
theorem xbs4(b:List Int)(hp:qc7 b=true):xbrj b=zR [.cl (.agg [.int .i64 4,.sli .u8 b,.slg 3 qcg])] []:=by rw[qce];rfl
theorem q2v: ∀(l:List Int),(q50 l).length<=l.length/\∀x∈q50 l,x∈l
 | []=>⟨zas _,fun x h=>h⟩
 | [a]=>⟨zas _,fun x h=>h⟩
 | a::b::r=>by
  unfold q50;split
  ·obtain⟨h1,h2⟩:=q2v (b::r);exact⟨by simp only[zac] at*;omega,fun x hx=>za6 _ (h2 x hx)⟩
  ·exact⟨zas _,fun x h=>h⟩
theorem xbjv(n:Int):(vInt n).length<=8/\∀x∈vInt n,0<=x/\x<=255:=by unfold vInt xb2u;rw[qab];obtain⟨h1,h2⟩:=q2v (vLeC (n % 18446744073709551616)).reverse;refine⟨by rw[List.length_reverse] at h1;exact h1,fun x hx=> ?_⟩;have:=List.mem_reverse.1 (h2 x hx);unfold vLeC at this;simp only[zav,zc4,or_false] at this;omega
open IntWalk (i64_in u8_in u32_in u64_in i64_quo u8_quo rem_in)
theorem q92{l:List CV}(h:qbr l=true):l.length<=100000000:=by unfold qbr at h;rw[qab] at h;exact of_decide_eq_true h
theorem qnn{l:List CV}(h:l.length<=100000000):qbr l=true:=by unfold qbr;rw[qab];exact decide_eq_true h
theorem qbp:qa6=[]:=qab _
theorem xbzl(l:List CV)(hp:qbr l=true):xbng l=zR [.cl (.slg 3 l)] []:=by
 have hp:=q92 hp;unfold xbng;simp only[za7];refine qdg (fun h=> ?_) fun h=> ?_
 ·have h:=zak (qag.1 h);subst h;unfold xbqh;rw[if_pos (Eq.symm (qzp (by simp) (by simp) rfl))]
 ·exact qzp (by omega) (by omega) rfl
theorem xb8q(l:List CV)(hp:qbr l=true):xb71 l=zR [.cl (.agg [.int .i64 48,.sli .u8 qa6,.slg 3 l])] []:=by rw[qbp];exact qak hp rfl
theorem xb5v(l:List CV)(hp:qbr l=true):xb34 l=zR [.cl (.agg [.int .i64 48,.sli .u8 qa6,.slg 3 l])] []:=by rw[qbp];rfl
theorem q8t{g:Int}{l:List CV}(h:0<=g/\g<=30):vBox g l=(160+g,l,0):=by unfold vBox xb6p;rw[qab,if_pos h]
theorem q8s{g:Int}{l:List CV}(h: ¬(0<=g/\g<=30)):vBox g l=(0,[],8):=by unfold vBox xb6p;rw[qab,if_neg h]
theorem xb8n(g:Int)(l:List CV)(hp:qbr l=true):xb65 g l=zR [.cl (.agg [.int .i64 (vBox g l).1,.sli .u8 qa6,.slg 3 (vBox g l).2.1]),.cl (.int .i64 (vBox g l).2.2)] []:=by
 unfold xb65;rw[qbp];refine qae (fun h=> ?_) fun h=>qae (fun h'=> ?_) fun h'=> ?_
 ·rw[q8s (by omega)]
 ·rw[q8s (by omega)]
 ·rw[q8t (by omega),show IntKind.i64.wrap ((160:Int)+g)=160+g from i64_in _ (by omega)];exact qak hp rfl
theorem xb5t(g:Int)(l:List CV)(hp:qbr l=true):xbxf g l=zR [.cl (.agg [.int .i64 (vBox g l).1,.sli .u8 qa6,.slg 3 (vBox g l).2.1]),.cl (.int .i64 (vBox g l).2.2)] []:=by
 unfold xbxf;rw[qbp];refine qae (fun h=> ?_) fun h=>qae (fun h'=> ?_) fun h'=> ?_
 ·rw[q8s (by omega)]
 ·rw[q8s (by omega)]
 ·rw[q8t (by omega),show IntKind.i64.wrap ((160:Int)+g)=160+g from i64_in _ (by omega)]
theorem qrh{g t:Int}{b:List Int}{k:List CV}(h: ¬t=g):qbz g t b k=([],4):=by unfold qbz q52;rw[qab,if_pos (.inl h)]
theorem q8u{g t:Int}{b:List Int}{k:List CV}(h:qau g=false):qbz g t b k=([],4):=by unfold qbz q52;rw[qab,if_pos (.inr h)]
theorem xbh5{g t:Int}{b:List Int}{k:List CV}(h:t=g)(hb:qau g=true)(hl:b.length≠0):qbz g t b k=([],5):=by unfold qbz q52;rw[qab,if_neg (by rw[hb];rintro(e|e);exact e h;cases e),if_pos hl]
theorem q2w{g t:Int}{b:List Int}{k:List CV}(h:t=g)(hb:qau g=true)(hl: ¬b.length≠0):qbz g t b k=(k,0):=by unfold qbz q52;rw[qab,if_neg (by rw[hb];rintro(e|e);exact e h;cases e),if_neg hl]
theorem xbxt{g t:Int}{b:List Int}{k:List CV}{bad:Int->Option Out}{good:Option Out}:
  cond (!decide (t=g)) (bad 4) (cond (!qbm g) (bad 4) (cond (decide ((0:Int)<(b.length:Int))) (bad 5) good))=if(qbz g t b k).2=0 then good else bad (qbz g t b k).2:=by
 unfold qbm;rw[qab];refine qaw (fun h=> ?_) fun h=> ?_
 ·rw[qrh h];rfl
 ·cases hb:qau g with
  | false=>rw[q8u hb];rfl
  | true=>
   refine(qae (fun h'=> ?_) fun h'=> ?_:cond (decide ((0:Int)<(b.length:Int))) (bad 5) good=_)
   ·rw[xbh5 h hb (by omega)];rfl
   ·rw[q2w h hb (by omega)];rfl
theorem qe5{g t:Int}{b:List Int}{k:List CV}(h:(qbz g t b k).2=0):(qbz g t b k).1=k:=by
 unfold qbz q52 at h ⊢;simp only[qab] at h ⊢;split at h
 ·simp at h
 ·split at h
  ·simp at h
  ·rename_i h1 h2;rw[if_neg h1,if_neg h2]
theorem q53{g t:Int}{b:List Int}{k:List CV}(h: ¬(qbz g t b k).2=0):(qbz g t b k).1=[]:=by
 unfold qbz q52 at h ⊢;simp only[qab] at h ⊢;split
 ·rfl
 ·split
  ·rfl
  ·rename_i h1 h2;rw[if_neg h1,if_neg h2] at h;simp at h
theorem xb5q(t:Int)(b:List Int)(k:List CV)(g:Int)(hp:qbr k=true):xbxc t b k g=zR [.cl (.slg 3 (qbz g t b k).1),.cl (.int .i64 (qbz g t b k).2)] []:=by
 unfold xbxc;refine(xbxt (k:=k) (bad:=fun e=>zR [.cl (.slg 3 []),.cl (.int .i64 e)] [])).trans ?_;by_cases h:(qbz g t b k).2=0
 ·rw[if_pos h,qe5 h,h];exact qak hp rfl
 ·rw[if_neg h,q53 h]
theorem qni{α:Type}{l:List α}{i:Nat}{x:α}(h:l[i]? =some x):l.drop i=x::l.drop (i+1):=by obtain⟨hi,e⟩:=zad.1 h;rw[zb1 hi,e]
open IntWalk (i64_in u8_in u32_in u64_in i64_quo u8_quo rem_in)
theorem xbrs{t:Int}{b:List Int}{k:List CV}(h:isN [.int .i64 t,.sli .u8 b,.slg 3 k]=true):k.length<=100000000/\∀c∈k, ∃y,c=.agg y/\isN y=true:=by obtain⟨n,hn⟩:=xbrp h;obtain⟨_,_,_,_,_,e,h1,h2,h3⟩:=xb5y hn;cases e;exact⟨h2,fun c hc=>by obtain⟨y,e,hy⟩:=h3 c hc;exact⟨y,e,xbxq hy⟩⟩
open IntWalk (i64_in u8_in u32_in u64_in i64_quo u8_quo rem_in)
theorem xbhz: ∀ {l:List Int},l≠[]->qdo (q50 l)=true
 | [],h=>absurd rfl h
 | [a],_=>rfl
 | a::b::r,_=>by
  unfold q50;split
  ·exact xbhz (by simp)
  ·rename_i h;show(!(decide (a=0/\b<128))&& !(decide (a=255/\128<=b)))=true;rw[decide_eq_false (fun e=>h (.inl e)),decide_eq_false (fun e=>h (.inr e))];rfl
theorem xb2m: ∀ {k m:Nat} {y:List CV},isTf k y=true->k<=m->isTf m y=true
 | k,m,y,hy,hkm=>by obtain⟨k',t,b,l,rfl,rfl,hb,hl⟩:=qdk hy;obtain⟨m,rfl⟩: ∃q,m=q+1:=⟨m - 1,by omega⟩;refine xb23 hb fun c hc=> ?_;obtain⟨z,rfl,hz⟩:=hl c hc;exact⟨z,rfl,xb2m hz (by omega)⟩
open IntWalk (i64_in u8_in u32_in u64_in i64_quo u8_quo rem_in)
theorem ql4(b:Int)(r:List Int):xbis (b::r)=if 128<=b then qar (b::r) - 256 ^ (r.length+1) else qar (b::r):=rfl
theorem q8r: ∀ {l:List Int},l≠[]->xbis (q50 l)=xbis l
 | [],h=>absurd rfl h
 | [a],_=>rfl
 | a::b::r,_=>by
  unfold q50;split
  ·rename_i h;rw[q8r (by simp),ql4,ql4,qy4 a (b::r)];simp only[zac];have hp:(256:Int) ^ (r.length+1+1)=256 ^ (r.length+1)*256:=zc1 ..;rw[hp];generalize (256:Int) ^ (r.length+1)=z;generalize qar (b::r)=y;rcases h with⟨rfl,hb⟩|⟨rfl,hb⟩
   ·rw[if_neg (by omega),if_neg (by omega)];omega
   ·rw[if_pos hb,if_pos (by omega)];omega
  ·rfl
theorem xb50{m:Int}(h:0<=m/\m<18446744073709551616):qar (vLeC m).reverse=m:=by
 have e1:m/ 65536=m/ 256/ 256:=by omega
 have e2:m/ 16777216=m/ 256/ 256/ 256:=by omega
 have e3:m/ 4294967296=m/ 256/ 256/ 256/ 256:=by omega
 have e4:m/ 1099511627776=m/ 256/ 256/ 256/ 256/ 256:=by omega
 have e5:m/ 281474976710656=m/ 256/ 256/ 256/ 256/ 256/ 256:=by omega
 have e6:m/ 72057594037927936=m/ 256/ 256/ 256/ 256/ 256/ 256/ 256:=by omega
 unfold vLeC;rw[e1,e2,e3,e4,e5,e6];show((((((((0*256+_)*256+_)*256+_)*256+_)*256+_)*256+_)*256+_)*256+_:Int)=m;clear e1 e2 e3 e4 e5 e6;omega
theorem xbro{n:Int}(h:q5u n=true):xbis (vInt n)=n:=by
 have h: -9223372036854775808<=n/\n<=9223372036854775807:=of_decide_eq_true h;unfold vInt xb2u;rw[qab,q8r (by simp[vLeC])];have hm:0<=n % 18446744073709551616/\n % 18446744073709551616<18446744073709551616:=by omega
 unfold xbis;rw[xb50 hm];show(if 128<=n % 18446744073709551616/ 72057594037927936 % 256 then n % 18446744073709551616 - 256 ^ 8 else n % 18446744073709551616)=n;rw[show(256:Int) ^ 8=18446744073709551616 from by decide];split<;>omega
theorem xbq0(n:Int):qbi 2 (vInt n)=true:=by show qdo (vInt n)=true;unfold vInt xb2u;rw[qab];exact xbhz (by simp[vLeC])
theorem xbe2{n:Int}(h:q5u n=true):qb7 2 (vInt n) qcg=(n,0):=by unfold qb7;rw[qab,if_pos (qug rfl (by rw[qce];rfl) (xbq0 n))];unfold qpw;rw[if_neg (by have:=(xbjv n).1;omega),xbro h]
theorem xbc6(b:List Int):qa0 4 b qcg=(b,0):=by unfold qa0;rw[qab,if_pos (qug rfl (by rw[qce];rfl) (fits4 b))]
theorem xbj1(l:List CV):qbz 48 48 qa6 l=(l,0):=q2w rfl rfl (by rw[qbp];simp)
open IntWalk (i64_in u8_in u32_in u64_in i64_quo u8_quo rem_in)
theorem xbe1{P:Int->Prop}{lo:Int}{m:Nat}(h: ∀n:Nat,n<m->P ((n:Int)+lo)){g:Int}(h1:lo<=g)(h2:g<lo+m):P g:=by have:=h (g - lo).toNat (by omega);rwa [show(((g - lo).toNat:Nat):Int)+lo=g by omega] at this
theorem qsj: ∀e∈qci,(1<=e.1/\e.1<=93)/\(e.2.2.length<=10/\∀x∈e.2.2,0<=x/\x<=4294967295):=by decide+kernel
theorem qx8{g:Int}(h: ¬(1<=g/\g<=93)):qaf g=(0,0,[]):=by
 unfold qaf;rw[List.find?_eq_none.2 fun e he=> ?_]
 ·rfl
 ·have:=(qsj e he).1;simp;omega
theorem qqy(g:Int):qaf g=(0,0,[])\/(qaf g∈qci/\(qaf g).1=g):=by
 unfold qaf
 cases h:qci.find? fun e=>decide (e.1=g) with
 | none=>exact .inl rfl
 | some e=>exact .inr ⟨List.mem_of_find?_eq_some h,by have:=List.find?_some h;simpa using this⟩
theorem qmp(g:Int):(qaf g).2.2.length<=10/\∀x∈(qaf g).2.2,inU x:=by
 rcases qqy g with h|h
 ·rw[h];exact⟨by simp,by simp⟩
 ·exact(qsj _ h.1).2
theorem qhl(g:Int):qay g=qaf g:=qab _
abbrev rowE(e:Int×Int×List Int):List CV:=[.agg [.int .i64 e.1,.int .i64 e.2.1,.sli .u32 e.2.2]]
theorem q8j:qpz=qci.map rowE:=qab _
theorem xbog:List.all qpz qn9=true:=by rw[q8j];kernel_rfl
theorem xbr7(hp:true=true):xbq3=zR [.ref 0 0 8 true 1] [some ⟨.ints .u32 [2,16,840,1,101,3,4,2],false⟩]:=rfl
theorem xbr8(hp:true=true):xbq4=zR [.ref 0 0 8 true 1] [some ⟨.ints .u32 [2,16,840,1,101,3,4,3],false⟩]:=rfl
theorem xbr9(hp:true=true):xbq5=zR [.ref 0 0 8 true 1] [some ⟨.ints .u32 [2,16,840,1,101,3,4,4],false⟩]:=rfl
theorem xbsa(hp:true=true):xbq6=zR [.ref 0 0 8 true 1] [some ⟨.ints .u32 [2,16,840,1,101,3,4,1],false⟩]:=rfl
theorem xbsb(hp:true=true):xbq7=zR [.ref 0 0 8 true 1] [some ⟨.ints .u32 [1,2,840,113549,1,9,16,3],false⟩]:=rfl
theorem xbsc(hp:true=true):xbq8=zR [.ref 0 0 2 true 1] [some ⟨.ints .u32 [2,999],false⟩]:=rfl
theorem qbb{l:Nat}{x:List CV}{f t:Option Out}{rf:Out}{r:List (List CV)}(hf:f=some rf)(hr: ∃out,t=some out/\Hands out (some r))(h0:Hands rf none): ∃out,cond (Nat.beq l l) (yldO x f t) none=some out/\Hands out (some (x::r)):=by obtain⟨rt,h1,h2⟩:=hr;rw[zbf,hf,h1];exact⟨_,rfl,rfl,h0,h2⟩
theorem xb4f(l:Nat)(hp:true=true): ∃out,xbq9 l=some out/\Hands out (some qpz):=by rw[q8j];unfold xbq9;show ∃out,_=some out/\Hands out (some [_,_,_,_,_,_,_,_,_,_,_,_,_,_,_,_,_,_,_,_,_,_,_,_,_,_,_,_,_,_,_,_,_,_,_,_,_,_,_,_]);exact qbb rfl (qbb rfl (qbb rfl (qbb rfl (qbb rfl (qbb rfl (qbb rfl (qbb rfl (qbb rfl (qbb rfl (qbb rfl (qbb rfl (qbb rfl (qbb rfl (qbb rfl (qbb rfl (qbb rfl (qbb rfl (qbb rfl (qbb rfl (qbb rfl (qbb rfl (qbb rfl (qbb rfl (qbb rfl (qbb rfl (qbb rfl (qbb rfl (qbb rfl (qbb rfl (qbb rfl (qbb rfl (qbb rfl (qbb rfl (qbb rfl (qbb rfl (qbb rfl (qbb rfl (qbb rfl (qbb rfl (⟨_,rfl,.inl rfl⟩) (.inr rfl)) (.inr rfl)) (.inr rfl)) (.inr rfl)) (.inr rfl)) (.inr rfl)) (.inr rfl)) (.inr rfl)) (.inr rfl)) (.inr rfl)) (.inr rfl)) (.inr rfl)) (.inr rfl)) (.inr rfl)) (.inr rfl)) (.inr rfl)) (.inr rfl)) (.inr rfl)) (.inr rfl)) (.inr rfl)) (.inr rfl)) (.inr rfl)) (.inr rfl)) (.inr rfl)) (.inr rfl)) (.inr rfl)) (.inr rfl)) (.inr rfl)) (.inr rfl)) (.inr rfl)) (.inr rfl)) (.inr rfl)) (.inr rfl)) (.inr rfl)) (.inr rfl)) (.inr rfl)) (.inr rfl)) (.inr rfl)) (.inr rfl)) (.inr rfl)
theorem xbdq(k0:Int->Int->Int->List Int->Option Out)(k1:Int->Option Out)(g:Int): ∀L:List (Int×Int×List Int),qih k0 k1 (L.map rowE) g=(match L.find? fun e=>decide (e.1=g) with|some e=>k0 g e.1 e.2.1 e.2.2|none=>k1 g)
 | []=>rfl
 | e::r=>by
  show cond (decide (e.1=g)) (k0 g e.1 e.2.1 e.2.2) (qih k0 k1 (r.map rowE) g)=_;rw[List.find?_cons]
  cases decide (e.1=g) with
  | true=>rfl
  | false=>exact xbdq k0 k1 g r
theorem xbyg(g:Int)(hp:true=true):xbdr g=zR [.cl (.agg [.int .i64 (qay g).1,.int .i64 (qay g).2.1,.sli .u32 (qay g).2.2])] []:=by unfold xbdr;refine qak xbog ?_;rw[qab,q8j,xbdq,qhl];unfold qaf;cases qci.find? fun e=>decide (e.1=g)<;>rfl
theorem xb7e(k0:List Int->Int->Option Out)(k1:List Int->Option Out)(o:List Int): ∀L:List (Int×Int×List Int),(∀e∈L,e.2.2.length<=10)->qv1 k0 k1 (L.map rowE) o=(match L.find? fun e=>decide (e.2.2=o) with|some e=>k0 o e.1|none=>k1 o)
 | [],_=>rfl
 | e::r,h=>by
  show cond (qc7 e.2.2) (cond (qbt e.2.2 o) (k0 o e.1) (qv1 k0 k1 (r.map rowE) o)) none=_;refine qak (qkc (by have:=h e (by simp);omega)) ?_;have hs:qbt e.2.2 o=decide (e.2.2=o):=by unfold qbt qlg;rw[qab]
  rw[List.find?_cons,hs]
  cases decide (e.2.2=o) with
  | true=>rfl
  | false=>exact xb7e k0 k1 o r fun e he=>h e (by simp[he])
theorem nAOf(o:List Int)(hp:true=true):gAOf o=zI (qfz o):=by unfold gAOf;refine qak xbog ?_;rw[qab,q8j,xb7e _ _ _ _ fun e he=>(qsj e he).2.1];unfold qfz q9e;rw[qab];cases qci.find? fun e=>decide (e.2.2=o)<;>rfl
theorem xb78(hp:true=true):xb7t=zR [.cl (.fn (.func 175) [] [])] []:=rfl
theorem xbyh(g:Int)(hp:true=true):xbv6 g=zR [.cl (.int .i64 (qay g).2.1)] []:=rfl
theorem nAId(g:Int)(hp:true=true):gAId g=zR [.cl (.sli .u32 (qay g).2.2)] []:=rfl
theorem xbbi: ∀n:Nat,n<93->qsq ((n:Int)+1)=zI ((qay ((n:Int)+1)).2.1):=by
 intro n hn;unfold qsq qh2 qfb qh3 qay;simp only[qab]
 exact match n,hn with
 | 0,_=>by kernel_rfl
 | 1,_=>by kernel_rfl
 | 2,_=>by kernel_rfl
 | 3,_=>by kernel_rfl
 | 4,_=>by kernel_rfl
 | 5,_=>by kernel_rfl
 | 6,_=>by kernel_rfl
 | 7,_=>by kernel_rfl
 | 8,_=>by kernel_rfl
 | 9,_=>by kernel_rfl
 | 10,_=>by kernel_rfl
 | 11,_=>by kernel_rfl
 | 12,_=>by kernel_rfl
 | 13,_=>by kernel_rfl
 | 14,_=>by kernel_rfl
 | 15,_=>by kernel_rfl
 | 16,_=>by kernel_rfl
 | 17,_=>by kernel_rfl
 | 18,_=>by kernel_rfl
 | 19,_=>by kernel_rfl
 | 20,_=>by kernel_rfl
 | 21,_=>by kernel_rfl
 | 22,_=>by kernel_rfl
 | 23,_=>by kernel_rfl
 | 24,_=>by kernel_rfl
 | 25,_=>by kernel_rfl
 | 26,_=>by kernel_rfl
 | 27,_=>by kernel_rfl
 | 28,_=>by kernel_rfl
 | 29,_=>by kernel_rfl
 | 30,_=>by kernel_rfl
 | 31,_=>by kernel_rfl
 | 32,_=>by kernel_rfl
 | 33,_=>by kernel_rfl
 | 34,_=>by kernel_rfl
 | 35,_=>by kernel_rfl
 | 36,_=>by kernel_rfl
 | 37,_=>by kernel_rfl
 | 38,_=>by kernel_rfl
 | 39,_=>by kernel_rfl
 | 40,_=>by kernel_rfl
 | 41,_=>by kernel_rfl
 | 42,_=>by kernel_rfl
 | 43,_=>by kernel_rfl
 | 44,_=>by kernel_rfl
 | 45,_=>by kernel_rfl
 | 46,_=>by kernel_rfl
 | 47,_=>by kernel_rfl
 | 48,_=>by kernel_rfl
 | 49,_=>by kernel_rfl
 | 50,_=>by kernel_rfl
 | 51,_=>by kernel_rfl
 | 52,_=>by kernel_rfl
 | 53,_=>by kernel_rfl
 | 54,_=>by kernel_rfl
 | 55,_=>by kernel_rfl
 | 56,_=>by kernel_rfl
 | 57,_=>by kernel_rfl
 | 58,_=>by kernel_rfl
 | 59,_=>by kernel_rfl
 | 60,_=>by kernel_rfl
 | 61,_=>by kernel_rfl
 | 62,_=>by kernel_rfl
 | 63,_=>by kernel_rfl
 | 64,_=>by kernel_rfl
 | 65,_=>by kernel_rfl
 | 66,_=>by kernel_rfl
 | 67,_=>by kernel_rfl
 | 68,_=>by kernel_rfl
 | 69,_=>by kernel_rfl
 | 70,_=>by kernel_rfl
 | 71,_=>by kernel_rfl
 | 72,_=>by kernel_rfl
 | 73,_=>by kernel_rfl
 | 74,_=>by kernel_rfl
 | 75,_=>by kernel_rfl
 | 76,_=>by kernel_rfl
 | 77,_=>by kernel_rfl
 | 78,_=>by kernel_rfl
 | 79,_=>by kernel_rfl
 | 80,_=>by kernel_rfl
 | 81,_=>by kernel_rfl
 | 82,_=>by kernel_rfl
 | 83,_=>by kernel_rfl
 | 84,_=>by kernel_rfl
 | 85,_=>by kernel_rfl
 | 86,_=>by kernel_rfl
 | 87,_=>by kernel_rfl
 | 88,_=>by kernel_rfl
 | 89,_=>by kernel_rfl
 | 90,_=>by kernel_rfl
 | 91,_=>by kernel_rfl
 | 92,_=>by kernel_rfl
 | n+93,h=>absurd h (by omega)
theorem xbr6(g:Int)(hp:true=true):qsq g=zI ((qay g).2.1):=by
 by_cases hg:1<=g/\g<1+93
 ·exact xbe1 (P:=fun g=>qsq g=zI ((qay g).2.1)) xbbi hg.1 hg.2
 ·have ho:=qx8 (g:=g) (by omega);unfold qsq qh2 qfb qh3;rw[qhl,ho];simp only[qab];rcases(show g<1\/93<g by omega) with h|h<;>(repeat' (first|rfl|(refine qcq (by omega) ?_)|(refine qaq (by omega) ?_)))
theorem xbvc: ∀n:Nat,n<93->xbv9 ((n:Int)+1)=zR [.cl (.sli .u32 (qay ((n:Int)+1)).2.2)] []:=by
 intro n hn;unfold xbv9 qay qjl qu3 qc7;simp only[qab]
 exact match n,hn with
 | 0,_=>by kernel_rfl
 | 1,_=>by kernel_rfl
 | 2,_=>by kernel_rfl
 | 3,_=>by kernel_rfl
 | 4,_=>by kernel_rfl
 | 5,_=>by kernel_rfl
 | 6,_=>by kernel_rfl
 | 7,_=>by kernel_rfl
 | 8,_=>by kernel_rfl
 | 9,_=>by kernel_rfl
 | 10,_=>by kernel_rfl
 | 11,_=>by kernel_rfl
 | 12,_=>by kernel_rfl
 | 13,_=>by kernel_rfl
 | 14,_=>by kernel_rfl
 | 15,_=>by kernel_rfl
 | 16,_=>by kernel_rfl
 | 17,_=>by kernel_rfl
 | 18,_=>by kernel_rfl
 | 19,_=>by kernel_rfl
 | 20,_=>by kernel_rfl
 | 21,_=>by kernel_rfl
 | 22,_=>by kernel_rfl
 | 23,_=>by kernel_rfl
 | 24,_=>by kernel_rfl
 | 25,_=>by kernel_rfl
 | 26,_=>by kernel_rfl
 | 27,_=>by kernel_rfl
 | 28,_=>by kernel_rfl
 | 29,_=>by kernel_rfl
 | 30,_=>by kernel_rfl
 | 31,_=>by kernel_rfl
 | 32,_=>by kernel_rfl
 | 33,_=>by kernel_rfl
 | 34,_=>by kernel_rfl
 | 35,_=>by kernel_rfl
 | 36,_=>by kernel_rfl
 | 37,_=>by kernel_rfl
 | 38,_=>by kernel_rfl
 | 39,_=>by kernel_rfl
 | 40,_=>by kernel_rfl
 | 41,_=>by kernel_rfl
 | 42,_=>by kernel_rfl
 | 43,_=>by kernel_rfl
 | 44,_=>by kernel_rfl
 | 45,_=>by kernel_rfl
 | 46,_=>by kernel_rfl
 | 47,_=>by kernel_rfl
 | 48,_=>by kernel_rfl
 | 49,_=>by kernel_rfl
 | 50,_=>by kernel_rfl
 | 51,_=>by kernel_rfl
 | 52,_=>by kernel_rfl
 | 53,_=>by kernel_rfl
 | 54,_=>by kernel_rfl
 | 55,_=>by kernel_rfl
 | 56,_=>by kernel_rfl
 | 57,_=>by kernel_rfl
 | 58,_=>by kernel_rfl
 | 59,_=>by kernel_rfl
 | 60,_=>by kernel_rfl
 | 61,_=>by kernel_rfl
 | 62,_=>by kernel_rfl
 | 63,_=>by kernel_rfl
 | 64,_=>by kernel_rfl
 | 65,_=>by kernel_rfl
 | 66,_=>by kernel_rfl
 | 67,_=>by kernel_rfl
 | 68,_=>by kernel_rfl
 | 69,_=>by kernel_rfl
 | 70,_=>by kernel_rfl
 | 71,_=>by kernel_rfl
 | 72,_=>by kernel_rfl
 | 73,_=>by kernel_rfl
 | 74,_=>by kernel_rfl
 | 75,_=>by kernel_rfl
 | 76,_=>by kernel_rfl
 | 77,_=>by kernel_rfl
 | 78,_=>by kernel_rfl
 | 79,_=>by kernel_rfl
 | 80,_=>by kernel_rfl
 | 81,_=>by kernel_rfl
 | 82,_=>by kernel_rfl
 | 83,_=>by kernel_rfl
 | 84,_=>by kernel_rfl
 | 85,_=>by kernel_rfl
 | 86,_=>by kernel_rfl
 | 87,_=>by kernel_rfl
 | 88,_=>by kernel_rfl
 | 89,_=>by kernel_rfl
 | 90,_=>by kernel_rfl
 | 91,_=>by kernel_rfl
 | 92,_=>by kernel_rfl
 | n+93,h=>absurd h (by omega)
theorem xb79(g:Int)(hp:true=true):xbv9 g=zR [.cl (.sli .u32 (qay g).2.2)] []:=by
 by_cases hg:1<=g/\g<1+93
 ·exact xbe1 (P:=fun g=>xbv9 g=zR [.cl (.sli .u32 (qay g).2.2)] []) xbvc hg.1 hg.2
 ·have ho:=qx8 (g:=g) (by omega);unfold xbv9;rw[qhl,ho]
  repeat' (first|rfl|(refine qcq (by omega) ?_)|(refine qaq (by omega) ?_))
open IntWalk (i64_in u8_in u32_in u64_in i64_quo u8_quo rem_in)
theorem xbyi(g h:Int)(hp:true=true):xbwa g h=zR [.cl (.sli .u32 (qjl g h))] []:=by unfold qjl;rw[qab];rfl
theorem xbyk(o:List Int)(hp:qc7 o=true):xbmr o=zR [.cl (.sli .u32 (qu3 o))] []:=by have:=qd7 hp;unfold xbmr qu3;rw[qab];exact qzp (by simp;omega) (by simp;omega) rfl
theorem xb4e(g:Int)(hp:true=true):xbwd g=zI (qjn g):=by
 unfold xbwd qjn qb1;rw[qab];refine qae (fun h=> ?_) fun h=>qae (fun h'=> ?_) fun h'=> ?_
 ·rw[if_pos h]
 ·rw[if_neg h,if_pos h']
 ·rw[if_neg h,if_neg h']
def refF(o:List Int)(i:Nat):Bool:= !(decide ((qaf i).2.1=0))&&decide ((qaf i).2.2=o)
theorem xbzy(K0:Int->Option Out)(K1:Option Out)(o:List Int): ∀(f a:Nat),94<f+a->a<=94->qsx K0 K1 f o (a:Int)=(match (List.range' a (94 - a)).find? (refF o) with|some i=>K0 (i:Int)|none=>K1)
 | 0,a,h,h'=>by omega
 | f+1,a,h,h'=>by
  show qyj (qsx K0 K1 f) K0 K1 o _=_;unfold qyj;have ih:=xbzy K0 K1 o f (a+1) (by omega);generalize qsx K0 K1 f=ag at ih ⊢;refine qae (fun ha=> ?_) fun ha=> ?_
  ·rw[show 94 - a=(94 - (a+1))+1 by omega,List.range'_succ,List.find?_cons,qhl,show IntKind.i64.wrap ((a:Int)+1)=((a+1:Nat):Int) from(i64_in _ (by omega)).trans (by omega)];have hl:qc7 (qaf (a:Int)).2.2=true:=qkc (by have:=(qmp (a:Int)).1;omega);have hs:qbt (qaf (a:Int)).2.2 o=decide ((qaf (a:Int)).2.2=o):=by unfold qbt qlg;rw[qab]
   unfold refF;refine qaw (fun h0=> ?_) fun h0=> ?_
   ·rw[decide_eq_false h0,Bool.not_false,zbt];refine qak hl ?_;rw[hs]
    cases decide ((qaf (a:Int)).2.2=o) with
    | true=>rfl
    | false=>exact ih (by omega)
   ·rw[decide_eq_true h0];exact ih (by omega)
  ·rw[show 94 - a=0 by omega];rfl
theorem qsk: ∀e∈qci,qaf e.1=e/\¬e.2.1=0:=by decide+kernel
theorem xbdl: ∀e∈qci, ∀e'∈qci,e.2.2=e'.2.2->e.1=e'.1:=by decide+kernel
theorem q8d{o:List Int}{i:Nat}(h:refF o i=true):qaf i∈qci/\(qaf i).1=i/\(qaf i).2.2=o:=by
 unfold refF at h;simp only[zab,zal,decide_eq_true_eq,decide_eq_false_iff_not] at h;rcases qqy i with e|e
 ·rw[e] at h;exact absurd rfl h.1
 ·exact⟨e.1,e.2,h.2⟩
theorem xb8a(o:List Int)(hp:true=true):xb6x o=zI (qfz o):=by
 unfold xb6x qfz q9e;simp only[qab];refine(xbzy _ _ o FUEL 1 (by unfold FUEL;omega) (by omega)).trans ?_
 cases he:qci.find? fun e=>decide (e.2.2=o) with
 | none=>
  have h0:=List.find?_eq_none.1 he;rw[List.find?_eq_none.2 fun i _ hi=> ?_]
  ·rfl
  ·obtain⟨g1,_,g3⟩:=q8d hi;exact h0 _ g1 (decide_eq_true g3)
 | some e=>
  have hm:=List.mem_of_find?_eq_some he;have ho:e.2.2=o:=by have:=List.find?_some he;simpa using this
  have hr:=(qsj e hm).1;obtain⟨f1,f2⟩:=qsk e hm;have hi:refF o e.1.toNat=true:=by unfold refF;rw[show(e.1.toNat:Int)=e.1 by omega,f1,decide_eq_false f2,ho,decide_eq_true rfl];rfl
  cases hj:(List.range' 1 (94 - 1)).find? (refF o) with
  | none=>
   have:=List.find?_eq_none.1 hj e.1.toNat (List.mem_range'_1.2 (by omega));exact absurd hi this
  | some j=>
   obtain⟨g1,g2,g3⟩:=q8d (List.find?_some hj);have:=xbdl _ g1 _ hm (g3.trans ho.symm);show zI (j:Int)=zI e.1;rw[<- this,g2]
theorem xb4b(g:Int)(b:List Int)(hp:qc7 b=true):xbv7 g b=zR [.cl (.agg [.int .i64 (qbo g b).1,.sli .u8 qa6,.slg 3 (qbo g b).2.1]),.cl (.int .i64 (qbo g b).2.2)] []:=by
 obtain⟨i1,i2⟩:=qmp g;have hid:idOk (qaf g).2.2=true:=q65 (by omega) i2;have h16:q5u 16=true:=by decide
 unfold xbv7 qbo qjn;rw[qhl];simp only[qab,qce,qbp];unfold qf1;refine qae (fun h=> ?_) fun h=>qaw (fun h'=> ?_) fun h'=> ?_
 ·rw[if_pos h]
 ·rw[if_neg h,if_pos h']
 ·rw[if_neg h,if_neg (by simp[h'])];refine qak hid ?_;refine qae (fun h6=> ?_) fun h6=>qae (fun h7=> ?_) fun h7=> ?_
  ·rw[if_pos h6];exact qak hp (qak (qnn (by simp)) rfl)
  ·rw[if_neg h6,if_pos h7];exact qak hp (qak h16 (qak (qnn (by simp)) (qak (qnn (by simp)) rfl)))
  ·rw[if_neg h6,if_neg h7];exact qak (qnn (by simp)) rfl
open IntWalk (i64_in u8_in u32_in u64_in i64_quo u8_quo rem_in)
theorem q1j{t:Int}{b:List Int}{k:List CV}(h:isS [.int .i64 t,.sli .u8 b,.slg 3 k]=true): ∀c∈k,W3 c:=by obtain⟨n,hn,hB⟩:=qdp h;obtain⟨n,t',b',k',rfl,e,_,_⟩:=qdk hn;cases e;obtain⟨_,_,_,h4,_⟩:=qm5 hn hB;intro c hc;obtain⟨y,rfl,hy,hyb⟩:=h4 c hc;obtain⟨_,t1,b1,k1,rfl,rfl,_,_⟩:=qdk hy;exact⟨t1,b1,k1,rfl,q9x hy (by omega)⟩
theorem q69{t:Int}{b:List Int}{k:List CV}(h:isS [.int .i64 t,.sli .u8 b,.slg 3 k]=true):qbr k=true:=qnn (xbrs (xbxp h)).1
theorem xba6{l:List CV}(h:q5y l=true): ∀c∈l,W3 c:=by unfold q5y at h;rw[qab] at h;exact @of_decide_eq_true _ (Classical.propDecidable _) h
theorem xbl3{l:List CV}(h: ∀c∈l,W3 c):q5y l=true:=by unfold q5y;rw[qab];exact @decide_eq_true _ (Classical.propDecidable _) h
theorem q7a{g t:Int}{b:List Int}{k:List CV}(h: ∀c∈k,W3 c): ∀c∈(qbz g t b k).1,W3 c:=by
 by_cases e:(qbz g t b k).2=0
 ·rw[qe5 e];exact h
 ·rw[q53 e];simp
theorem xbcu(g:Int){t:Int}{b:List Int}{k:List CV}(hs:isS [.int .i64 t,.sli .u8 b,.slg 3 k]=true):
  cond (isS [.int .i64 t,.sli .u8 b,.slg 3 k]) (cond (decide ((qa0 t b k).2=0)) (zR [.cl (.sli .u8 (qa0 t b k).1),.cl (.bool (decide (((qa0 t b k).1.length:Int)=qjn g)))] [])
   (zR [.cl (.sli .u8 (qa0 t b k).1),.cl (.bool false)] [])) none=zR [.cl (.sli .u8 (algB g (.agg [.int .i64 t,.sli .u8 b,.slg 3 k])).1),.cl (.bool (algB g (.agg [.int .i64 t,.sli .u8 b,.slg 3 k])).2)] []:=by
 refine qak hs ?_;unfold qjn;rw[qab];show _=zR [.cl (.sli .u8 (qa0 t b k).1),.cl (.bool (decide ((qa0 t b k).2=0)&&decide (((qa0 t b k).1.length:Int)=qb1 g)))] [];refine qae (fun h=> ?_) fun h=> ?_
 ·rw[decide_eq_true h,zbt]
 ·rw[decide_eq_false h,zdc]
theorem qr1(g t:Int)(b:List Int)(k:List CV):algH g (.agg [.int .i64 t,.sli .u8 b,.slg 3 k])=if g=7 then(if ¬(qbz 48 t b k).2=0 then([],false) else algG g (qbz 48 t b k).1) else algB g (.agg [.int .i64 t,.sli .u8 b,.slg 3 k]):=rfl
theorem qqr(g t:Int)(b:List Int)(k:List CV)(p:CV):xb3l g (.agg [.int .i64 t,.sli .u8 b,.slg 3 k]) p=if ¬(qb7 t b k).2=0 then([],false) else if ¬(qb7 t b k).1=16 then([],false) else algB g p:=rfl
theorem qxq(g:Int)(p q:CV):algG g [p,q]=xb3l g q p:=by unfold algG;rw[if_neg (by simp)];rfl
theorem xbcv{g:Int}{two:List CV}(h: ¬(two.length:Int)=2):algG g two=([],false):=by unfold algG;rw[if_pos h]
theorem qxr(t:Int)(b:List Int)(k r:List CV):algR (.agg [.int .i64 t,.sli .u8 b,.slg 3 k]::r)=xbvu (qe7 t b k) r:=by unfold algR;rw[if_neg (by simp only[zac];omega)];rfl
theorem q8n(g:Int)(l:List CV):qcu g l=qo0 g l:=qab _
theorem tail7(g:Int)(two:List CV)(hk: ∀c∈two,W3 c):(cond (!decide ((two.length:Int)=2)) (
   zR [.cl (.sli .u8 []),.cl (.bool false)] [])
   (
   cond (decide ((1:Int)<(two.length:Int))) (
   Option.bind (two[1]?) fun(e11:CV)=>
   let e12:CV:=(cell1 e11).headD .nili;let e13:CV:=(cell1 e11).tail.headD .nili;let e14:CV:=(cell1 e11).tail.tail.headD .nili
   cond (qg4 .i64 e12&&(qfk .u8 e13&&(qdf 3 e14&&true))) (
   let i15:Int:=qfp e12;let l16:List Int:=qcf e13;let l17:List CV:=qbl e14
   cond (isS [.int .i64 i15,.sli .u8 l16,.slg 3 l17]) (
   let r18:Int:=(qb7 i15 l16 l17).1;let r19:Int:=(qb7 i15 l16 l17).2
   cond (!decide (r19=0)) (
   zR [.cl (.sli .u8 []),.cl (.bool false)] [])
   (
   cond (!decide (r18=16)) (
   zR [.cl (.sli .u8 []),.cl (.bool false)] [])
   (
   cond (decide ((0:Int)<(two.length:Int))) (
   Option.bind (two[0]?) fun(e20:CV)=>
   let e21:CV:=(cell1 e20).headD .nili;let e22:CV:=(cell1 e20).tail.headD .nili;let e23:CV:=(cell1 e20).tail.tail.headD .nili
   cond (qg4 .i64 e21&&(qfk .u8 e22&&(qdf 3 e23&&true))) (
   let i24:Int:=qfp e21;let l25:List Int:=qcf e22;let l26:List CV:=qbl e23
   cond (isS [.int .i64 i24,.sli .u8 l25,.slg 3 l26]) (
   let r27:List Int:=(qa0 i24 l25 l26).1;let r28:Int:=(qa0 i24 l25 l26).2
   cond (decide (r28=0)) (
   let r29:Int:=qjn g
   zR [.cl (.sli .u8 r27),.cl (.bool (decide ((r27.length:Int)=r29)))] [])
   (
   zR [.cl (.sli .u8 r27),.cl (.bool false)] [])) none) none) none))) none) none) none):Option Out)=zR [.cl (.sli .u8 (algG g two).1),.cl (.bool (algG g two).2)] []:=by
 refine qaw (fun h3=> ?_) fun h3=> ?_
 ·rw[xbcv h3]
 match two,h3,hk with
 | [p,q],_,hk=>
  obtain⟨t2,b2,k2,rfl,hs2⟩:=hk q (by simp);obtain⟨t1,b1,k1,rfl,hs1⟩:=hk p (by simp);rw[qxq,qqr];refine qaq (by simp) ?_;rw[za0,zaq,zaj];refine qak (c:=qg4 .i64 _&&(qfk .u8 _&&(qdf 3 _&&true))) rfl (qak hs2 ?_);show cond (!decide ((qb7 t2 b2 k2).2=0)) _ _=_;refine qaw (fun h4=> ?_) fun h4=> ?_
  ·rw[if_pos h4]
  rw[if_neg (fun e=>e h4)];show cond (!decide ((qb7 t2 b2 k2).1=16)) _ _=_;refine qaw (fun h5=> ?_) fun h5=> ?_
  ·rw[if_pos h5]
  rw[if_neg (fun e=>e h5)];refine qaq (by simp) ?_;rw[zaq,zaj];refine qak (c:=qg4 .i64 _&&(qfk .u8 _&&(qdf 3 _&&true))) rfl ?_;exact xbcu g hs1
 | [],h3,_=>simp at h3
 | [_],h3,_=>simp at h3
 | _::_::_::_,h3,_=>simp at h3;omega
theorem xb4d(g:Int)(l:List CV)(hp:q5y l=true):xbwc g l=zR [.cl (.sli .u8 (qcu g l).1),.cl (.bool (qcu g l).2)] []:=by
 have hw:=xba6 hp;unfold xbwc;rw[q8n];unfold qo0;have hu:qjn g=qb1 g:=qab _;refine qae (fun h=> ?_) fun h=> ?_
 ·rw[if_pos (hu▸h)]
 rw[if_neg (hu▸h)];refine qaw (fun h1=> ?_) fun h1=> ?_
 ·rw[if_pos h1]
 rw[if_neg (fun e=>e h1)]
 match l,h1,hw with
 | [x],_,hw=>
  obtain⟨t,b,k,rfl,hs⟩:=hw x (by simp);refine qaq (by simp) ?_;rw[zaq,zaj,zba,qr1];refine qak (c:=qg4 .i64 _&&(qfk .u8 _&&(qdf 3 _&&true))) rfl ?_;show cond (decide (g=7)) _ _=_;refine qae (fun h7=> ?_) fun h7=> ?_
  ·rw[if_pos h7];refine qak (q69 hs) ?_;show cond (!decide ((qbz 48 t b k).2=0)) _ _=_;refine qaw (fun h2=> ?_) fun h2=> ?_
   ·rw[if_pos h2]
   rw[if_neg (fun e=>e h2)];have hk:=q7a (g:=48) (t:=t) (b:=b) (q1j hs);exact tail7 g _ hk
  ·rw[if_neg h7];exact xbcu g hs
 | [],h1,_=>simp at h1
 | _::_::_,h1,_=>simp at h1;omega
theorem xbu4{g:Int}{l:List CV}(hw: ∀c∈l,W3 c):(qcu g l).1.length<=30000:=by
 have hB: ∀x:CV,W3 x->(algB g x).1.length<=30000:=fun x hx=>by
  obtain⟨t,b,k,rfl,hs⟩:=hx;have:=(qix hs).1;show(qa0 t b k).1.length<=30000;unfold qa0;rw[qab];split
  ·show b.length<=30000;omega
  ·simp
 rw[q8n];unfold qo0;split
 ·simp
 split
 ·simp
 rename_i h0 h1;have h1:(l.length:Int)=1:=Classical.byContradiction h1
 match l,h1,hw with
 | [x],_,hw=>
  have hx:=hw x (by simp);obtain⟨t,b,k,rfl,hs⟩:=hx;rw[zba,qr1];split
  ·split
   ·simp
   have hk:=q7a (g:=48) (t:=t) (b:=b) (q1j hs);generalize (qbz 48 t b k).1=two at hk ⊢;by_cases h3:(two.length:Int)=2
   ·match two,h3,hk with
    | [p,q],_,hk=>
     obtain⟨t2,b2,k2,rfl,hs2⟩:=hk q (by simp);rw[qxq,qqr];split
     ·simp
     split
     ·simp
     ·exact hB _ (hk p (by simp))
    | [],h3,_=>simp at h3
    | [_],h3,_=>simp at h3
    | _::_::_::_,h3,_=>simp at h3;omega
   ·rw[xbcv h3];simp
  ·exact hB _ (hw _ (by simp))
 | [],h1,_=>simp at h1
 | _::_::_,h1,_=>simp at h1;omega
theorem xbgt(t:Int)(b:List Int)(k:List CV):qby t b k=qr3 t b k:=qab _
theorem xb4c(t:Int)(b:List Int)(k:List CV)(hp:isS [.int .i64 t,.sli .u8 b,.slg 3 k]=true):xbwb t b k=zR [.cl (.int .i64 (qby t b k).1),.cl (.sli .u8 (qby t b k).2.1),.cl (.int .i64 (qby t b k).2.2)] []:=by
 have hk:=q7a (g:=48) (t:=t) (b:=b) (q1j hp);unfold xbwb;rw[xbgt];unfold qr3;refine qak (q69 hp) ?_;refine qaw (fun h=> ?_) fun h=> ?_
 ·rw[if_pos h]
 rw[if_neg (fun e=>e h)];dsimp only;generalize (qbz 48 t b k).1=ks at hk ⊢;refine qae (fun h1=> ?_) fun h1=> ?_
 ·unfold algR;rw[if_pos h1]
 match ks,h1,hk with
 | [],h1,_=>exact absurd rfl h1
 | x::r,_,hk=>
  obtain⟨t1,b1,k1,rfl,hs⟩:=hk x (by simp);have hr: ∀c∈r,W3 c:=fun c hc=>hk c (by simp[hc]);rw[qxr];refine qaq (by simp only[zac];omega) ?_;rw[zaq,zaj];refine qak (c:=qg4 .i64 _&&(qfk .u8 _&&(qdf 3 _&&true))) rfl (qak hs ?_);rw[zcn,zbx];unfold xbvu;show cond (!decide ((qe7 t1 b1 k1).2=0)) _ _=_;refine qaw (fun h2=> ?_) fun h2=> ?_
  ·rw[if_pos h2]
  rw[if_neg (fun e=>e h2)];refine qae (fun h3=> ?_) fun h3=> ?_
  ·rw[if_pos (show qfz (qe7 t1 b1 k1).1=0 from h3)]
  rw[if_neg (show ¬qfz (qe7 t1 b1 k1).1=0 from h3)];refine qaq (by simp only[zac];omega) (qak (xbl3 hr) ?_);have hl:=xbu4 (g:=(qay (qfz (qe7 t1 b1 k1).1)).2.1) hr;show cond (!(qcu (qay (qfz (qe7 t1 b1 k1).1)).2.1 r).2) _ _=_
  cases he:(qcu (qay (qfz (qe7 t1 b1 k1).1)).2.1 r).2 with
  | false=>rw[if_pos rfl];rfl
  | true=>
   rw[if_neg (by simp)];exact xbbe rfl (qak (qkc (show(qcu (qay (qfz (qe7 t1 b1 k1).1)).2.1 r).1.length<=100000000 by omega)) rfl)
open IntWalk (i64_in u8_in u32_in u64_in i64_quo u8_quo rem_in)
theorem xbdk: ∀e∈qci,qbs e.2.2=true:=by decide+kernel
theorem xbdp{g:Int}(h: ¬(qaf g).2.1=0):qaf g∈qci/\(qaf g).1=g:=by
 rcases qqy g with e|e
 ·rw[e] at h;exact absurd rfl h
 ·exact e
theorem xb7d(o:List Int):qfz o=q9e o:=qab _
theorem xbzw{e:Int×Int×List Int}(h:e∈qci):qfz e.2.2=e.1:=by
 rw[xb7d];unfold q9e
 cases hf:qci.find? fun x=>decide (x.2.2=e.2.2) with
 | none=>exact absurd (decide_eq_true rfl) (List.find?_eq_none.1 hf e h)
 | some x=>
  have h1:=List.mem_of_find?_eq_some hf;have h2:x.2.2=e.2.2:=by have:=List.find?_some hf;simpa using this
  exact xbdl x h1 e h h2
theorem xbzx{o:List Int}(h: ¬qfz o=0):qaf (qfz o)∈qci/\(qaf (qfz o)).2.2=o:=by
 have h0:=h;rw[xb7d] at h ⊢;unfold q9e at h ⊢
 cases hf:qci.find? fun x=>decide (x.2.2=o) with
 | none=>rw[hf] at h;exact absurd rfl h
 | some x=>
  have h1:=List.mem_of_find?_eq_some hf;have h2:x.2.2=o:=by have:=List.find?_some hf;simpa using this
  show qaf x.1∈qci/\(qaf x.1).2.2=o;rw[(qsk x h1).1];exact⟨h1,h2⟩
noncomputable def qjm(grp:Int)(b:List Int):List CV:=if grp=6 then[qbg 4 b []] else if grp=7 then[qbg 48 [] [qbg 4 b [],qbg 2 (vInt 16) []]] else[]
theorem xbf2(g:Int)(b:List Int):qbo g b=qf1 g b:=qab _
theorem xbny{g:Int}{b:List Int}(h1: ¬(qaf g).2.1=0)(h2:(b.length:Int)=qb1 (qaf g).2.1):qbo g b=(48,qel (qaf g).2.2::qjm (qaf g).2.1 b,0):=by rw[xbf2];unfold qf1;rw[if_neg h1,if_neg (by simp[h2])];rfl
theorem q1h{o:List Int}(hf:qbs o=true)(hr: ∀n∈o,inU n):qct (qax o)=(o,0)/\qbi 6 (qax o)=true:=by have e:qax o=qco o:=qab _;rw[e];have h:=xbal hf hr;refine⟨h, ?_⟩;show decide ((qct (qco o)).2=0)=true;rw[h];rfl
theorem q67{o:List Int}(hf:qbs o=true)(hr: ∀n∈o,inU n):qel o=qbg 6 (qax o) []:=by unfold qel;rw[q54 (q1h hf hr).2]
theorem xbda(b:List Int):qa0 4 b []=(b,0):=by have:=xbc6 b;rwa [qce] at this
theorem qle(l:List CV):qbz 48 48 [] l=(l,0):=by have:=xbj1 l;rwa [qbp] at this
theorem qom(grp:Int):grp=6\/grp=7\/(¬grp=6/\¬grp=7/\qb1 grp=0):=by
 unfold qb1;by_cases h:grp=6
 ·exact .inl h
 ·by_cases h':grp=7
  ·exact .inr (.inl h')
  ·exact .inr (.inr ⟨h,h',by rw[if_neg h,if_neg h']⟩)
theorem q6a{g:Int}{b:List Int}(h:(b.length:Int)=qb1 g):algB g (qbg 4 b [])=(b,true):=by show((qa0 4 b []).1,decide ((qa0 4 b []).2=0)&&decide (((qa0 4 b []).1.length:Int)=qb1 g))=_;rw[xbda];show(b,decide ((0:Int)=0)&&decide ((b.length:Int)=qb1 g))=_;rw[decide_eq_true h];rfl
theorem xbl4{grp:Int}{b:List Int}(hb:(b.length:Int)=qb1 grp):qcu grp (qjm grp b)=(b,true):=by
 rw[q8n];unfold qo0;rcases qom grp with rfl|rfl|⟨h6,h7,h0⟩
 ·rw[if_neg (show ¬qb1 6=0 by decide),show qjm 6 b=[qbg 4 b []] from rfl,if_neg (by simp),zba];unfold qbg;rw[qr1,if_neg (by decide)];exact q6a hb
 ·have h16:qb7 2 (vInt 16) []=(16,0):=by have:=xbe2 (n:=16) (by decide);rwa [qce] at this
  rw[if_neg (show ¬qb1 7=0 by decide),show qjm 7 b=[qbg 48 [] [qbg 4 b [],qbg 2 (vInt 16) []]] from rfl,if_neg (by simp),zba];unfold qbg;rw[qr1,if_pos rfl,qle,if_neg (by simp),qxq,qqr,h16,if_neg (by simp),if_neg (by simp)];exact q6a hb
 ·rw[if_pos h0];have hl:b=[]:=zak (by omega);subst hl;unfold qjm;rw[if_neg h6,if_neg h7];rfl
theorem xbk2{g:Int}{b:List Int}(h1: ¬(qaf g).2.1=0)(h2:(b.length:Int)=qb1 (qaf g).2.1):qby 48 [] (qel (qaf g).2.2::qjm (qaf g).2.1 b)=(g,b,0):=by
 obtain⟨hm,hg⟩:=xbdp h1;have hf:=xbdk _ hm;have hr:=(qmp g).2;have hof:qfz (qaf g).2.2=g:=by rw[xbzw hm,hg]
 have hid:qe7 6 (qax (qaf g).2.2) []=((qaf g).2.2,0):=by unfold qe7;rw[qab,if_pos (qug rfl rfl (q1h hf hr).2)];unfold qb6;rw[qab];exact(q1h hf hr).1
 have hgr:1<=g:=by have:=(qsj _ hm).1;rw[hg] at this;omega
 rw[xbgt];unfold qr3;rw[qle,q67 hf hr,if_neg (by simp)];unfold qbg;rw[qxr,hid];unfold xbvu;rw[if_neg (by simp)];show(if qfz (qaf g).2.2=0 then(0,[],9) else if(qcu (qay (qfz (qaf g).2.2)).2.1 (qjm (qaf g).2.1 b)).2=false then(0,[],1)
  else(qfz (qaf g).2.2,(qcu (qay (qfz (qaf g).2.2)).2.1 (qjm (qaf g).2.1 b)).1,0))=_
 rw[hof,qhl,xbl4 h2,if_neg (by omega),if_neg (by simp)]
theorem int16{b:List Int}(hb: ∀x∈b,0<=x/\x<=255)(hn:qdo b=true)(ht:xbis b=16):b=[16]:=by
 match b,hb,hn,ht with
 | [],_,hn,_=>cases hn
 | [x],hb,_,ht=>
  have hx:=hb x (by simp);rw[ql4] at ht;have e:qar [x]=x:=by show 0*256+x=x;omega
  rw[e] at ht;have e1:(256:Int) ^ (([]:List Int).length+1)=256:=by decide
  rw[e1] at ht;split at ht
  ·omega
  ·rw[ht]
 | x::y::r,hb,hn,ht=>
  exfalso;obtain⟨n1,n2,n3⟩:=qti (b:=x::y::r) (L:=r.length+1) hb rfl;obtain⟨m1,m2,m3⟩:=qti (b:=y::r) (L:=r.length) (fun z hz=>hb z (by simp[hz])) rfl;have hx:=hb x (by simp);have hn:(!(decide (x=0/\y<128))&& !(decide (x=255/\128<=y)))=true:=hn;simp only[zab,zal,decide_eq_false_iff_not] at hn;rw[ql4] at ht;rw[qy4 x (y::r)] at n1 n2 n3 ht;simp only[zba,zac] at n1 n2 n3 m3 ht;have hp:(256:Int) ^ (r.length+1+1)=256 ^ (r.length+1)*256:=zc1 ..;have hp1:(256:Int) ^ (r.length+1)=256 ^ r.length*256:=zc1 ..;have hz:(1:Int)<=256 ^ r.length:=by have:=Int.pow_pos (n:=256) (m:=r.length) (by omega);omega
  rw[hp] at ht;rw[hp1] at ht n1 n2 n3;generalize (256:Int) ^ r.length=z at*;generalize qar (y::r)=w at*;split at ht
  ·omega
  ·rename_i h128;have hx0:x=0:=by
    rcases Int.lt_or_le 0 x with e|e
    ·have:z*256<=x*(z*256):=by have:=zb7 (show(1:Int)<=x by omega) (show(0:Int)<=z*256 by omega);omega
     omega
    ·omega
   subst hx0;have:w=16:=by omega
   have hy:128<=y:=Classical.byContradiction fun e=>hn.1 ⟨rfl,by omega⟩;have:=m3.1 hy;omega
theorem vint16:vInt 16=[16]:=by unfold vInt;rw[qab];rfl
theorem xbjw{t:Int}{b:List Int}{k:List CV}(hs:isS [.int .i64 t,.sli .u8 b,.slg 3 k]=true)(h1:(qb7 t b k).2=0)(h2:(qb7 t b k).1=16):CV.agg [.int .i64 t,.sli .u8 b,.slg 3 k]=qbg 2 (vInt 16) []:=by
 unfold qb7 at h1 h2;rw[qab] at h1 h2;split at h1
 ·rename_i he;rw[if_pos he] at h2;obtain⟨rfl,hk,hd⟩:=quf he;have hk:=zak hk;subst hk;unfold qpw at h1 h2;split at h1
  ·simp at h1
  ·rename_i h8;rw[if_neg h8] at h2;have hd:qdo b=true:=hd;rw[vint16,int16 (qix hs).2 hd h2];rfl
 ·rename_i he;exact absurd h1 he
theorem qxx{t:Int}{b:List Int}{k:List CV}(h:(qa0 t b k).2=0):t=4/\k=[]/\(qa0 t b k).1=b:=by
 unfold qa0 at h ⊢;rw[qab] at h ⊢;split at h
 ·rename_i he;obtain⟨h1,h2,_⟩:=quf he;rw[if_pos he];exact⟨h1,zak h2,rfl⟩
 ·rename_i he;exact absurd h he
theorem xbe4{t:Int}{b:List Int}{k:List CV}(h:(qbz 48 t b k).2=0):t=48/\b=[]/\(qbz 48 t b k).1=k:=by
 refine⟨?_, ?_,qe5 h⟩
 ·exact Classical.byContradiction fun e=>by rw[qrh e] at h;simp at h
 ·by_cases e:t=48
  ·by_cases hb:b.length≠0
   ·rw[xbh5 e rfl hb] at h;simp at h
   ·exact zak (by omega)
  ·rw[qrh e] at h;simp at h
theorem xbct{g t:Int}{b:List Int}{k:List CV}(h:(algB g (.agg [.int .i64 t,.sli .u8 b,.slg 3 k])).2=true):CV.agg [.int .i64 t,.sli .u8 b,.slg 3 k]=qbg 4 b []/\(algB g (.agg [.int .i64 t,.sli .u8 b,.slg 3 k])).1=b/\(b.length:Int)=qb1 g:=by have h:(decide ((qa0 t b k).2=0)&&decide (((qa0 t b k).1.length:Int)=qb1 g))=true:=h;simp only[zab,decide_eq_true_eq] at h;obtain⟨rfl,rfl,e⟩:=qxx h.1;refine⟨rfl,e, ?_⟩;rw[e] at h;exact h.2
theorem xbu3{grp:Int}{l:List CV}(hw: ∀c∈l,W3 c)(h:(qcu grp l).2=true):l=qjm grp (qcu grp l).1/\((qcu grp l).1.length:Int)=qb1 grp:=by
 rw[q8n] at h ⊢;unfold qo0 at h ⊢;by_cases h0:qb1 grp=0
 ·rw[if_pos h0] at h ⊢;have h:decide ((l.length:Int)=0)=true:=h;have hl:l=[]:=zak (by have:=of_decide_eq_true h;omega);subst hl;rcases qom grp with rfl|rfl|⟨h6,h7,_⟩
  ·exact absurd h0 (by decide)
  ·exact absurd h0 (by decide)
  ·unfold qjm;rw[if_neg h6,if_neg h7,h0];exact⟨rfl,rfl⟩
 rw[if_neg h0] at h ⊢;by_cases h1: ¬((l.length:Int)=1)
 ·rw[if_pos h1] at h;simp at h
 replace h1:=Classical.byContradiction h1;rw[if_neg (fun e=>e h1)] at h ⊢
 match l,h1,hw with
 | [],h1,_=>simp at h1
 | _::_::_,h1,_=>simp at h1;omega
 | [x],_,hw=>
  obtain⟨t,b,k,rfl,hs⟩:=hw x (by simp);rw[zba,qr1] at h ⊢;rcases qom grp with rfl|rfl|⟨_,_,e⟩
  ·rw[if_neg (by decide)] at h ⊢;obtain⟨e1,e2,e3⟩:=xbct h;refine⟨?_,by rw[e2];exact e3⟩;rw[e2,e1];rfl
  ·rw[if_pos rfl] at h ⊢;by_cases g1: ¬((qbz 48 t b k).2=0)
   ·rw[if_pos g1] at h;simp at h
   replace g1:=Classical.byContradiction g1;rw[if_neg (fun x=>x g1)] at h ⊢;have hk:=q7a (g:=48) (t:=t) (b:=b) (q1j hs);obtain⟨rfl,rfl,e⟩:=xbe4 g1;rw[e] at h hk ⊢;by_cases g2: ¬((k.length:Int)=2)
   ·rw[xbcv g2] at h;simp at h
   replace g2:=Classical.byContradiction g2
   match k,g2,hk with
   | [],g2,_=>simp at g2
   | [_],g2,_=>simp at g2
   | _::_::_::_,g2,_=>simp at g2;omega
   | [p,q],_,hk=>
    obtain⟨t1,b1,k1,rfl,hs1⟩:=hk p (by simp);obtain⟨t2,b2,k2,rfl,hs2⟩:=hk q (by simp);rw[qxq,qqr] at h ⊢;by_cases g3: ¬((qb7 t2 b2 k2).2=0)
    ·rw[if_pos g3] at h;simp at h
    replace g3:=Classical.byContradiction g3;rw[if_neg (fun x=>x g3)] at h ⊢;by_cases g4: ¬((qb7 t2 b2 k2).1=16)
    ·rw[if_pos g4] at h;simp at h
    replace g4:=Classical.byContradiction g4;rw[if_neg (fun x=>x g4)] at h ⊢;have hq:=xbjw hs2 g3 g4;obtain⟨e1,e2,e3⟩:=xbct h;refine⟨?_,by rw[e2];exact e3⟩;rw[e2,e1,hq];rfl
  ·exact absurd e h0
theorem xbti{t:Int}{b:List Int}{k:List CV}(hs:isS [.int .i64 t,.sli .u8 b,.slg 3 k]=true)(h:(qby t b k).2.2=0):
  (qbo (qby t b k).1 (qby t b k).2.1).2.2=0/\(qbo (qby t b k).1 (qby t b k).2.1).1=t/\b=[]/\(qbo (qby t b k).1 (qby t b k).2.1).2.1=k/\(qby t b k).2.1.length<=16:=by
 rw[xbgt] at h ⊢;unfold qr3 at h ⊢;by_cases g1: ¬((qbz 48 t b k).2=0)
 ·rw[if_pos g1] at h;simp at h
 replace g1:=Classical.byContradiction g1;rw[if_neg (fun x=>x g1)] at h ⊢;obtain⟨rfl,rfl,e⟩:=xbe4 g1;rw[e] at h ⊢;have hw:=q1j hs
 match k,hw with
 | [],_=>unfold algR at h;simp at h
 | x::r,hw=>
  obtain⟨t1,b1,k1,rfl,hs1⟩:=hw x (by simp);have hr: ∀c∈r,W3 c:=fun c hc=>hw c (by simp[hc]);rw[qxr] at h ⊢;unfold xbvu at h ⊢;by_cases g3: ¬((qe7 t1 b1 k1).2=0)
  ·rw[if_pos g3] at h;simp at h
  replace g3:=Classical.byContradiction g3;rw[if_neg (fun x=>x g3)] at h ⊢;by_cases g4:qfz (qe7 t1 b1 k1).1=0
  ·rw[if_pos g4] at h;simp at h
  rw[if_neg g4] at h ⊢;by_cases g5:(qcu (qay (qfz (qe7 t1 b1 k1).1)).2.1 r).2=false
  ·rw[if_pos g5] at h;simp at h
  rw[if_neg g5];have g5:(qcu (qay (qfz (qe7 t1 b1 k1).1)).2.1 r).2=true:=by
   cases hx:(qcu (qay (qfz (qe7 t1 b1 k1).1)).2.1 r).2 with
   | true=>rfl
   | false=>exact absurd hx g5
  have hv:qm7 6 t1 b1 k1=0:=by
   unfold qe7 at g3;rw[qab] at g3;by_cases he:qm7 6 t1 b1 k1=0
   ·exact he
   ·rw[if_neg he] at g3;exact absurd g3 he
  have hvi:qe7 t1 b1 k1=qb6 b1:=by unfold qe7;rw[qab,if_pos hv]
  obtain⟨rfl,hk1,hd⟩:=quf hv;have hk1:=zak hk1;subst hk1;have hp:qb6 b1=qct b1:=qab _;have hd:decide ((qct b1).2=0)=true:=hd;rcases qu6 (qvd hs1) with h5|⟨o,h5,hof,hor,hob⟩
  ·rw[h5] at hd;simp at hd
  rw[hvi,hp,h5] at g4 g5 ⊢;have g4: ¬qfz o=0:=g4;have g5:(qcu (qay (qfz o)).2.1 r).2=true:=g5;show(qbo (qfz o) (qcu (qay (qfz o)).2.1 r).1).2.2=0/\(qbo (qfz o) (qcu (qay (qfz o)).2.1 r).1).1=48/\([]:List Int)=[]/\(qbo (qfz o) (qcu (qay (qfz o)).2.1 r).1).2.1=CV.agg [.int .i64 6,.sli .u8 b1,.slg 3 []]::r/\(qcu (qay (qfz o)).2.1 r).1.length<=16;obtain⟨q1,q2⟩:=xbzx g4;rw[qhl] at g5 ⊢;obtain⟨z1,z2⟩:=xbu3 hr g5;have hne:=(qsk _ q1).2;have hu:qb1 (qaf (qfz o)).2.1<=16:=by
   rcases qom (qaf (qfz o)).2.1 with e|e|⟨_,_,e⟩
   ·rw[e];decide
   ·rw[e];decide
   ·rw[e];omega
  rw[xbny hne z2, <- z1,q2,q67 hof hor,show qax o=b1 from(show qax o=qco o from qab _).trans hob];exact⟨rfl,rfl,rfl,rfl,by omega⟩
open IntWalk (i64_in u8_in u32_in u64_in i64_quo u8_quo rem_in)
theorem xbus(l m:List Int):qbt l m=decide (l=m):=by unfold qbt qlg;rw[qab]
end Go.Proofs.YtoaakappnhemiaaGreatDoorA
