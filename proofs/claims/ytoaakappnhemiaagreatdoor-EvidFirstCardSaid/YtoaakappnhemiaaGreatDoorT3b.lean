/-
 What the layers below come to (their lemmas, as far as this seat needs them). Conditions: each function's own.
-/
import Derived.Test.YtoaakappnhemiaaGreatDoorT2a
import Derived.Test.YtoaakappnhemiaaGreatDoorT2b
import Derived.Test.YtoaakappnhemiaaGreatDoorT2c
import Derived.Test.YtoaakappnhemiaaGreatDoorT3a
import Derived.IntWalk
set_option linter.unusedVariables false
set_option linter.unusedSimpArgs false
set_option maxRecDepth 100000
namespace Go.Proofs.YtoaakappnhemiaaGreatDoorA
open IntWalk (i64_in u8_in u32_in u64_in i64_quo u8_quo rem_in)
theorem xbnz {n:Nat} {x:List CV} (hn:isTf n x=true):1<=qdp n x:=by
 obtain⟨n',t,b,l,rfl,rfl,_,hl⟩:=qcx hn
 show 1<=1+b.length+_
 omega
theorem xbll {g:CV->Nat}: ∀ {l:List CV} {c:CV},c∈l->g c<=(l.map g).sum
 | a::r,c,h=>by
  rw[zbi,zb7]
  rcases zaw.1 h with rfl|h
  ·omega
  ·have:=xbll (g:=g) h;omega
theorem xbkh {g:CV->Nat}: ∀ {l:List CV},(∀c∈l,1<=g c)->l.length<=(l.map g).sum
 | [],_=>by simp
 | a::r,h=>by
  rw[zbi,zb7,zac]
  have:=xbkh (g:=g) (l:=r) fun c hc=>h c (zba _ hc)
  have:=h a (zcg ..)
  omega
theorem qob {n:Nat} {t:Int} {b:List Int} {l:List CV} (h:isTf (n+1) [.int .i64 t,.sli .u8 b,.slg 3 l]=true) {B:Nat} (hb:qdp (n+1) [.int .i64 t,.sli .u8 b,.slg 3 l]<=B):
  b.length+1<=B/\l.length+1<=B/\(∀z∈b,0<=z/\z<=255)/\(∀c∈l, ∃y,c=.agg y/\isTf n y=true/\qdp n y+1<=B)/\1+b.length+(l.map fun c=>qdp n (cell1 c)).sum<=B:=by
 obtain⟨n',t',b',l',hn,he,h1,h2⟩:=qcx h
 obtain rfl:n=n':=by omega
 simp only[zch,CV.int.injEq,CV.sli.injEq,CV.slg.injEq,true_and,and_true] at he
 obtain⟨rfl,rfl,rfl⟩:=he
 have hb:1+b.length+(l.map fun c=>qdp n (cell1 c)).sum<=B:=hb
 have hs:=xbkh (g:=fun c=>qdp n (cell1 c)) (l:=l) fun c hc=>by
  obtain⟨y,rfl,hy⟩:=h2 c hc
  exact xbnz hy
 refine⟨by omega,by omega,h1,fun c hc=> ?_,hb⟩
 obtain⟨y,rfl,hy⟩:=h2 c hc
 have hm:qdp n y<=(l.map fun c=>qdp n (cell1 c)).sum:=xbll (g:=fun c=>qdp n (cell1 c)) hc
 exact⟨y,rfl,hy,by omega⟩
theorem q9q: ∀ {n:Nat} {x:List CV},isTf n x=true->qdp n x<=30000->isNf n x=true
 | n,x,hn,hb=>by
  obtain⟨n',t,b,l,rfl,rfl,_,_⟩:=qcx hn
  obtain⟨h1,h2,_,h3,_⟩:=qob hn hb
  refine xb40 (by omega) (by omega) fun c hc=> ?_
  obtain⟨y,rfl,hy,hyb⟩:=h3 c hc
  exact⟨y,rfl,q9q hy (by omega)⟩
theorem qls (t n:Int):((qcd t n).length:Int)=1+qau n:=by
 unfold qcd qau
 rw[zac]
 repeat' split
 all_goals rfl
theorem qex (n:Int):1<=qau n/\qau n<=4:=by
 unfold qau
 repeat' split
 all_goals omega
theorem qpi {g:CV->List Int} {h:CV->Nat}: ∀ {l:List CV},(∀c∈l,(g c).length<=5*h c)->((l.map g).flatten).length<=5*(l.map h).sum
 | [],_=>by simp
 | a::r,hh=>by
  have:=hh a (zcg ..)
  have:=qpi (g:=g) (h:=h) (l:=r) fun c hc=>hh c (zba _ hc)
  simp only[zbi,zc1,zag,zb7]
  omega
theorem qit: ∀ {n:Nat} {x:List CV},isTf n x=true->(qai n x).1.length<=5*qdp n x
 | n,x,hn=>by
  obtain⟨n',t,b,l,rfl,rfl,_,hl⟩:=qcx hn
  have hb:qdp (n'+1) [.int .i64 t,.sli .u8 b,.slg 3 l]=1+b.length+(l.map fun c=>qdp n' (cell1 c)).sum:=rfl
  rw[hb]
  simp only[qai]
  split
  ·have hf:=qpi (g:=fun c=>(qai n' (cell1 c)).1) (h:=fun c=>qdp n' (cell1 c)) (l:=l) fun c hc=>by
    obtain⟨y,rfl,hy⟩:=hl c hc
    exact qit hy
   have e:((l.map fun c=>qai n' (cell1 c)).map (·.1))=l.map fun c=>(qai n' (cell1 c)).1:=by rw[zc6];rfl
   simp only[e]
   have hh:=qls t (((l.map fun c=>(qai n' (cell1 c)).1).flatten).length:Nat)
   have hr:=qex (((l.map fun c=>(qai n' (cell1 c)).1).flatten).length:Nat)
   rw[zag]
   omega
  ·have hh:=qls t (b.length:Nat)
   have hr:=qex (b.length:Nat)
   simp only[zag]
   omega
def sumL (f:CV->List Int):List CV->Int
 | []=>0
 | c::r=>(f c).length+sumL f r
theorem qek (f:CV->List Int): ∀l:List CV,sumL f l=(((l.map f).flatten).length:Nat)
 | []=>rfl
 | c::r=>by simp only[sumL,zbi,zc1,zag,qek f r];omega
theorem qw8 (f:CV->List Int) (l:List CV) (i:Nat):0<=sumL f (l.drop i)/\sumL f (l.drop i)<=sumL f l:=by
 constructor
 ·rw[qek];omega
 ·rw[qek,qek,zc9]
  have h: ∀(ls:List (List Int)) (i:Nat),((ls.drop i).flatten).length<=(ls.flatten).length:=fun ls=>by
   induction ls with
   | nil=>simp
   | cons a r ih=>
    intro i
    cases i with
    | zero=>exact zar _
    | succ i=>
     have:=ih i
     simp only[zci,zc1,zag]
     omega
  have:=h (l.map f) i
  omega
theorem xbcx (rk d:Nat) (deep:Int) (hd:1<=deep/\deep<=1000) (hdd:deep.toNat=d+1) (ka:List CV) (hlen:ka.length<=30000) (hall: ∀c∈ka, ∃y,c=.agg y/\isTf rk y=true/\qdp rk y<=30000) (hsum:sumL (fun c=>(qai rk (cell1 c)).1) ka<=150000) (k1:Int->Int->Int->List CV->Int->Int->List CV->Nat->Int->List Int->List CV->Int->List Int->List CV->Int->Int->Int->Int->Int->Int->Int->Bool->Int->Bool->Int->List Int->List CV->Option Out) (F:Int->Option Out): ∀(f i:Nat) (s:Int),i<=ka.length->ka.length<f+i->0<=s->s+sumL (fun c=>(qai rk (cell1 c)).1) (ka.drop i)<=150000->
  qmv rk (fun _ _ _ _ _ _ _ _ _ _ _ _ _ _ _ _ _ _ _ _ _ _ _ _ _=>some (.ret [.cl (.int .i64 (-1))] [])) k1 (fun _ y56 _ _ _=>F y56) f deep s ka (ka.length:Int) i=if(ka.drop i).all (fun c=>okF rk d (cell1 c))=true then F (s+sumL (fun c=>(qai rk (cell1 c)).1) (ka.drop i)) else some (.ret [.cl (.int .i64 (-1))] [])
 | 0,i,s,hi,hf,_,_=>by omega
 | f+1,i,s,hi,hf,h0,hs=>by
  show qmb rk (qmv rk (fun _ _ _ _ _ _ _ _ _ _ _ _ _ _ _ _ _ _ _ _ _ _ _ _ _=>some (.ret [.cl (.int .i64 (-1))] [])) k1 (fun _ y56 _ _ _=>F y56) f) (fun _ _ _ _ _ _ _ _ _ _ _ _ _ _ _ _ _ _ _ _ _ _ _ _ _=>some (.ret [.cl (.int .i64 (-1))] [])) k1 (fun _ y56 _ _ _=>F y56) deep s ka (ka.length:Int) i=_
  unfold qmb
  obtain⟨R,hR⟩: ∃R:Option Out,R=(if(ka.drop i).all (fun c=>okF rk d (cell1 c))=true then F (s+sumL (fun c=>(qai rk (cell1 c)).1) (ka.drop i)) else some (.ret [.cl (.int .i64 (-1))] [])):=⟨_,rfl⟩
  rw[<- hR]
  refine qae (fun h=> ?_) fun h=> ?_
  ·obtain⟨c,hc⟩:=qbp (b:=ka) (i:=i) (by omega)
   obtain⟨y,rfl,hy,hyb⟩:=hall c (zae hc)
   have ed:ka.drop i=.agg y::ka.drop (i+1):=by
    obtain⟨hlt,e⟩:=zad.1 hc
    rw[zbx hlt,e]
   refine qan (by omega) (qan h ?_)
   rw[show(i:Int).toNat=i from rfl,hc,zaj]
   obtain⟨m,t,b,l,hm,hye,_⟩:=qcx hy
   simp only[cell1,hye,zbw,zbr]
   refine qam rfl ?_
   simp only[show IntKind.i64.wrap (deep - 1)=deep - 1 from i64_in _ (by omega),qft,qb7,qbm]
   refine qam ?_ ?_
   ·simp only[zab]
    exact⟨q5a (hye▸hy) (hye▸hyb),qfo (by omega)⟩
   ·have e:q1s [.int .i64 t,.sli .u8 b,.slg 3 l] (deep - 1)=if okF rk d y=true then((qai rk y).1.length:Int) else -1:=by
     rw[<- hye,quy hy,show(deep - 1).toNat=d by omega]
    have es:sumL (fun c=>(qai rk (cell1 c)).1) (ka.drop i)=((qai rk y).1.length:Int)+sumL (fun c=>(qai rk (cell1 c)).1) (ka.drop (i+1)):=by rw[ed];rfl
    have hpos:=(qw8 (fun c=>(qai rk (cell1 c)).1) ka (i+1)).1
    rw[es] at hs
    rw[e]
    have ea:(ka.drop i).all (fun c=>okF rk d (cell1 c))=(okF rk d y&&(ka.drop (i+1)).all (fun c=>okF rk d (cell1 c))):=by rw[ed,zcl];rfl
    rw[ea,es] at hR
    by_cases hok:okF rk d y=true
    ·rw[hok,zbm] at hR
     rw[if_pos hok]
     refine qb6 (by omega) ?_
     rw[show IntKind.i64.wrap (s+((qai rk y).1.length:Int))=s+((qai rk y).1.length:Int) from i64_in _ (by omega)]
     refine qb6 (by omega) ?_
     rw[show IntKind.i64.wrap ((i:Int)+1)=((i+1:Nat):Int) from(i64_in _ (by omega)).trans (by omega)]
     refine(xbcx rk d deep hd hdd ka hlen hall hsum k1 F f (i+1) _ (by omega) (by omega) (by omega) (by omega)).trans ?_
     rw[hR,Int.add_assoc]
    ·rw[if_neg hok]
     refine qan (by omega) ?_
     rw[hR,if_neg (by simp[hok])]
  ·rw[zbl (by omega)] at hR
   rw[hR]
   show F s=if([]:List CV).all (fun c=>okF rk d (cell1 c))=true then F (s+0) else _
   rw[if_pos (by rfl),Int.add_zero]
theorem xb0n (rk:Nat) (ta:Int) (ba:List Int) (ka:List CV) (deep:Int) (hp:(isSr (rk+1) [.int .i64 ta,.sli .u8 ba,.slg 3 ka]&&qcg deep)=true):xbpb rk ta ba ka deep=some (.ret [.cl (.int .i64 (q1s [.int .i64 ta,.sli .u8 ba,.slg 3 ka] deep))] []):=by
 simp only[zab] at hp
 obtain⟨ht,hb⟩:=qj6 hp.1
 have hd:=qhe hp.2
 obtain⟨h1,h2,h3,h4,h5⟩:=qob ht hb
 rw[quy ht]
 unfold xbpb qdt qbj qcs qb3
 simp only[qab]
 refine qae (fun h=> ?_) fun h=> ?_
 ·subst h;rfl
 obtain⟨d,hdd⟩: ∃d,deep.toNat=d+1:=⟨deep.toNat - 1,by omega⟩
 rw[hdd]
 have hokF:okF (rk+1) (d+1) [.int .i64 ta,.sli .u8 ba,.slg 3 ka]=(qa5 ta&&(if qap ta=true then decide (ba=[])&&ka.all fun c=>okF rk d (cell1 c) else decide (ka=[])&&qbh ta ba)):=rfl
 rw[hokF]
 refine qcz (fun hk=> ?_) fun hk=> ?_
 ·rw[if_neg (by simp only[zal] at hk;simp[hk])]
 have hk:qa5 ta=true:=by simpa using hk
 rw[hk,zbm]
 have hflen:(((ka.map fun c=>(qai rk (cell1 c)).1).flatten).length:Int)<=150000:=by
  have:=qpi (g:=fun c=>(qai rk (cell1 c)).1) (h:=fun c=>qdp rk (cell1 c)) (l:=ka) fun c hc=>by
   obtain⟨y,rfl,hy,_⟩:=h4 c hc
   exact qit hy
  omega
 refine qcz (fun hx=> ?_) fun hx=> ?_
 ·rw[if_pos hx]
  refine qae (fun hba=> ?_) fun hba=> ?_
  ·rw[if_neg (by intro e;simp only[zab,decide_eq_true_eq] at e;rw[e.1] at hba;simp at hba)]
  ·obtain rfl:ba=[]:=zat (by omega)
   refine(xbcx rk d deep (by omega) hdd ka (by omega) (fun c hc=>by obtain⟨y,e,hy,hyb⟩:=h4 c hc;exact⟨y,e,hy,by omega⟩) (by rw[qek];exact hflen) _ (fun n=>some (.ret [.cl (.int .i64 (IntKind.i64.wrap (IntKind.i64.wrap ((1:Int)+qau n)+n)))] [])) FUEL 0 0 (by omega) (by unfold FUEL;omega) (by omega) (by rw[zbn,qek];omega)).trans ?_
   rw[zbn,decide_eq_true (show([]:List Int)=[] from rfl),zbm,qek,Int.zero_add]
   by_cases ha:(ka.all fun c=>okF rk d (cell1 c))=true
   ·rw[if_pos ha,if_pos ha]
    have hr:=qex (((ka.map fun c=>(qai rk (cell1 c)).1).flatten).length:Nat)
    rw[show IntKind.i64.wrap ((1:Int)+qau (((ka.map fun c=>(qai rk (cell1 c)).1).flatten).length:Nat))=1+qau (((ka.map fun c=>(qai rk (cell1 c)).1).flatten).length:Nat) from i64_in _ (by omega)]
    rw[i64_in _ (show -9223372036854775808<=(1:Int)+qau (((ka.map fun c=>(qai rk (cell1 c)).1).flatten).length:Nat)+(((ka.map fun c=>(qai rk (cell1 c)).1).flatten).length:Nat)/\_<=9223372036854775807 by omega)]
    refine qk9 ?_
    simp only[qai]
    rw[if_pos hx]
    have e:((ka.map fun c=>qai rk (cell1 c)).map (·.1))=ka.map fun c=>(qai rk (cell1 c)).1:=by rw[zc6];rfl
    simp only[e]
    rw[zag]
    have hh:=qls ta (((ka.map fun c=>(qai rk (cell1 c)).1).flatten).length:Nat)
    omega
   ·rw[if_neg ha,if_neg ha]
 ·rw[if_neg (show ¬qap ta=true by simp[hx])]
  refine qae (fun hka=> ?_) fun hka=> ?_
  ·rw[if_neg (by intro e;simp only[zab,decide_eq_true_eq] at e;rw[e.1] at hka;simp at hka)]
  ·obtain rfl:ka=[]:=zat (by omega)
   refine qb6 (by omega) (qam (qc2 (by omega) h3) ?_)
   rw[decide_eq_true (show([]:List CV)=[] from rfl),zbm]
   refine qcz (fun hf=> ?_) fun hf=> ?_
   ·rw[if_neg (by simp only[zal] at hf;simp[hf])]
   ·rw[if_pos (by simpa using hf)]
    have hr:=qex (ba.length:Nat)
    rw[show IntKind.i64.wrap ((1:Int)+qau (ba.length:Nat))=1+qau (ba.length:Nat) from i64_in _ (by omega)]
    rw[i64_in _ (show -9223372036854775808<=(1:Int)+qau (ba.length:Nat)+(ba.length:Nat)/\_<=9223372036854775807 by omega)]
    refine qk9 ?_
    simp only[qai]
    rw[if_neg (show ¬qap ta=true by simp[hx])]
    have hh:=qls ta (ba.length:Nat)
    simp only[zag]
    omega
open IntWalk (i64_in u8_in u32_in u64_in i64_quo u8_quo rem_in)
theorem qku {t:Int} (h:qa5 t=true):0<=t/\t<=255:=by
 unfold qa5 qap at h
 simp only[zbp,decide_eq_true_eq] at h
 omega
theorem q4j {t n:Int} (ht:0<=t/\t<=255) (hn:0<=n/\n<16777216): ∀z∈qcd t n,0<=z/\z<=255:=by
 intro z hz
 unfold qcd at hz
 rcases zaw.1 hz with rfl|hz
 ·exact ht
 ·split at hz
  ·simp only[zaw,zcz,or_false] at hz;omega
  ·split at hz
   ·simp only[zaw,zcz,or_false] at hz;omega
   ·split at hz
    ·simp only[zaw,zcz,or_false] at hz;omega
    ·simp only[zaw,zcz,or_false] at hz;omega
theorem qlq {n d:Nat} {t:Int} {b:List Int} {l:List CV} (h:okF (n+1) d [.int .i64 t,.sli .u8 b,.slg 3 l]=true): ∃d',d=d'+1/\qa5 t=true/\((qap t=true/\b=[]/\∀c∈l,okF n d' (cell1 c)=true)\/(qap t=false/\l=[]/\qbh t b=true)):=by
 cases d with
 | zero=>exact absurd h zb2
 | succ d=>
  have h:(qa5 t&&(if qap t=true then decide (b=[])&&l.all fun c=>okF n d (cell1 c) else decide (l=[])&&qbh t b))=true:=h
  rw[zab] at h
  refine⟨d,rfl,h.1, ?_⟩
  obtain⟨_,h⟩:=h
  split at h
  ·rename_i hx
   simp only[zab,decide_eq_true_eq,zai] at h
   exact .inl ⟨hx,h⟩
  ·rename_i hx
   simp only[zab,decide_eq_true_eq] at h
   exact .inr ⟨by simpa using hx,h⟩
theorem qks {n:Nat} {t:Int} {b:List Int} {l:List CV} (hx:qap t=true):qai (n+1) [.int .i64 t,.sli .u8 b,.slg 3 l]=(qcd t ((l.map fun c=>(qai n (cell1 c)).1).flatten.length:Nat)++(l.map fun c=>(qai n (cell1 c)).1).flatten,(l.all fun c=>(qai n (cell1 c)).2)&&(!(decide (t=49))|| qa2 (l.map fun c=>(qai n (cell1 c)).1))):=by
 simp only[qai]
 rw[if_pos hx]
 have e:((l.map fun c=>qai n (cell1 c)).map (·.1))=l.map fun c=>(qai n (cell1 c)).1:=by rw[zc6];rfl
 have e2:((l.map fun c=>qai n (cell1 c)).all (·.2))=l.all fun c=>(qai n (cell1 c)).2:=by rw[List.all_map];rfl
 simp only[e,e2]
theorem qm5 {n:Nat} {t:Int} {b:List Int} {l:List CV} (hx:qap t=false):qai (n+1) [.int .i64 t,.sli .u8 b,.slg 3 l]=(qcd t (b.length:Nat)++b,true):=by
 simp only[qai]
 rw[if_neg (show ¬qap t=true by simp[hx])]
theorem flat5 {n:Nat} {l:List CV} {B:Nat} (hl: ∀c∈l, ∃y,c=.agg y/\isTf n y=true) (hb:(l.map fun c=>qdp n (cell1 c)).sum<=B):((l.map fun c=>(qai n (cell1 c)).1).flatten).length<=5*B:=by
 have:=qpi (g:=fun c=>(qai n (cell1 c)).1) (h:=fun c=>qdp n (cell1 c)) (l:=l) fun c hc=>by
  obtain⟨y,rfl,hy⟩:=hl c hc
  exact qit hy
 omega
theorem qsa: ∀ {n d:Nat} {x:List CV},isTf n x=true->qdp n x<=30000->okF n d x=true->∀z∈(qai n x).1,0<=z/\z<=255
 | n,d,x,hn,hb,hok=>by
  obtain⟨n',t,b,l,rfl,rfl,hbb,hl⟩:=qcx hn
  obtain⟨h1,h2,h3,h4,h5⟩:=qob hn hb
  obtain⟨d',rfl,hk,h⟩:=qlq hok
  rcases h with⟨hx,rfl,hall⟩|⟨hx,rfl,hf⟩
  ·rw[qks hx]
   have hfl:=flat5 (B:=30000) hl (by omega)
   intro z hz
   rcases zao.1 hz with hz|hz
   ·exact q4j (qku hk) (by omega) z hz
   ·obtain⟨r,hr,hz⟩:=List.mem_flatten.1 hz
    obtain⟨c,hc,rfl⟩:=zbu.1 hr
    obtain⟨y,rfl,hy,hyb⟩:=h4 c hc
    exact qsa hy (by omega) (hall _ hc) z hz
  ·rw[qm5 hx]
   intro z hz
   rcases zao.1 hz with hz|hz
   ·exact q4j (qku hk) (by omega) z hz
   ·exact h3 z hz
theorem qqh (R:List (List Int)):qdk (R.map (CV.sli .u8))=R.flatten:=by
 unfold qdk
 rw[qab,List.flatMap_map]
 show R.flatMap (fun x=>x)=_
 rw[List.flatMap_id']
theorem q8z {R:List (List Int)} (h1:R.length<=1000000) (h2: ∀x∈R,rowB x=true) (h3:R.flatten.length<=1000000):qnk (R.map (CV.sli .u8))=true:=by
 unfold qnk
 rw[qab]
 simp only[zab,decide_eq_true_eq,zai,zav,zbu]
 refine⟨h1,fun x hx=> ?_, ?_⟩
 ·obtain⟨y,hy,rfl⟩:=hx
  exact h2 y hy
 ·have:=qqh R
  unfold qdk at this
  rw[qab] at this
  rw[this]
  exact h3
noncomputable def badW:Option Out:=some (.ret [.cl (.sli .u8 []),.cl (.bool false)] [])
noncomputable def xbzq (t s:Int) (rows:List CV):Option Out:=
 cond (qk1 t s) (cond (qnk rows) (cond (Nat.ble ((qdh t s++qdk rows).length*1) LIMN) (cond (Nat.ble ((qdh t s++qdk rows).length) LIMN) (some (.ret [.cl (.sli .u8 (qdh t s++qdk rows)),.cl (.bool true)] [])) none) none) none) none
noncomputable def finW (t s:Int) (rows:List CV):Option Out:=
 cond (decide (t=49)) (cond (qhm rows) (cond (!(qbn rows)) badW (xbzq t s rows)) none) (xbzq t s rows)
theorem xb3u {t:Int} {R:List (List Int)} (ht:0<=t/\t<=255) (h1:R.length<=30000) (h2: ∀x∈R,rowB x=true) (h3:R.flatten.length<=150000):
  finW t (R.flatten.length:Int) (R.map (CV.sli .u8))=if(!(decide (t=49))|| qa2 R)=true then some (.ret [.cl (.sli .u8 (qcd t (R.flatten.length:Nat)++R.flatten)),.cl (.bool true)] []) else badW:=by
 have hh:xbzq t (R.flatten.length:Int) (R.map (CV.sli .u8))=some (.ret [.cl (.sli .u8 (qcd t (R.flatten.length:Nat)++R.flatten)),.cl (.bool true)] []):=by
  unfold xbzq qdh
  rw[qab,qqh]
  have hl:=qls t (R.flatten.length:Nat)
  have hr:=qex (R.flatten.length:Nat)
  refine qam ?_ (qam (q8z (by omega) h2 (by omega)) (qcw (by simp only[zag];omega) (qcw (by simp only[zag];omega) rfl)))
  unfold qk1
  rw[qab]
  exact decide_eq_true (by omega)
 unfold finW
 rw[hh,qid]
 refine qae (fun h=>qam (qr9 (by omega) h2) (qcz (fun h9=> ?_) fun h9=> ?_)) fun h=> ?_
 ·rw[if_neg (by simp only[zal] at h9;simp[h,h9])]
 ·rw[if_pos (by simp only[Bool.not_eq_false'] at h9;simp[h9])]
 ·rw[if_pos (by simp[h])]
theorem xbtp {n d:Nat} {l:List CV} (h4: ∀c∈l, ∃y,c=.agg y/\isTf n y=true/\qdp n y+1<=30000) (hall: ∀c∈l,okF n d (cell1 c)=true): ∀x∈(l.map fun c=>(qai n (cell1 c)).1),rowB x=true:=by
 intro x hx
 obtain⟨c,hc,rfl⟩:=zbu.1 hx
 obtain⟨y,rfl,hy,hyb⟩:=h4 c hc
 have h1:=qit hy
 have h2:=qsa hy (by omega) (hall _ hc)
 unfold rowB
 simp only[zab,decide_eq_true_eq,zai]
 exact⟨by show(qai n y).1.length<=_;omega,fun z hz=>decide_eq_true (h2 z hz)⟩
open IntWalk (i64_in u8_in u32_in u64_in i64_quo u8_quo rem_in)
theorem q5s (rk d:Nat) (deep ta:Int) (ba:List Int) (hd:1<=deep/\deep<=1000) (hdd:deep.toNat=d+1) (ka:List CV) (hlen:ka.length<=30000) (hall: ∀c∈ka, ∃y,c=.agg y/\isTf rk y=true/\qdp rk y+1<=30000): ∀(f i:Nat) (s:Int) (rows:List CV),i<=ka.length->ka.length<f+i->0<=s->s+sumL (fun c=>(qai rk (cell1 c)).1) (ka.drop i)<=150000->rows.length=i->
  qhj rk (fun _ _ _ _ _ _ _ _ _ _ _ _ _ _ _ _ _ _ _ _ _ _ _ _ _ _ _ _ _ _ _ _ _ _=>badW) (fun _ _ _ _ _ _ _ _ _ _ _ _ _ _ _ _ _ _ _ _ _ _ _ _ _ _ _ _ _ _ _ _ _ _ _ _=>badW) (fun _ _ y79 _ _ _ _ y84 _ _ y87=>finW y84 y79 y87) f deep rows.length s i ta ba ka rows=if(ka.drop i).all (fun c=>okF rk d (cell1 c)&&(qai rk (cell1 c)).2)=true then finW ta (s+sumL (fun c=>(qai rk (cell1 c)).1) (ka.drop i)) (rows++(ka.drop i).map fun c=>.sli .u8 (qai rk (cell1 c)).1) else badW
 | 0,i,s,rows,hi,hf,_,_,_=>by omega
 | f+1,i,s,rows,hi,hf,h0,hs,hr=>by
  show qih rk (qhj rk (fun _ _ _ _ _ _ _ _ _ _ _ _ _ _ _ _ _ _ _ _ _ _ _ _ _ _ _ _ _ _ _ _ _ _=>badW) (fun _ _ _ _ _ _ _ _ _ _ _ _ _ _ _ _ _ _ _ _ _ _ _ _ _ _ _ _ _ _ _ _ _ _ _ _=>badW) (fun _ _ y79 _ _ _ _ y84 _ _ y87=>finW y84 y79 y87) f) (fun _ _ _ _ _ _ _ _ _ _ _ _ _ _ _ _ _ _ _ _ _ _ _ _ _ _ _ _ _ _ _ _ _ _=>badW) (fun _ _ _ _ _ _ _ _ _ _ _ _ _ _ _ _ _ _ _ _ _ _ _ _ _ _ _ _ _ _ _ _ _ _ _ _=>badW) (fun _ _ y79 _ _ _ _ y84 _ _ y87=>finW y84 y79 y87) deep rows.length s i ta ba ka rows=_
  unfold qih
  obtain⟨R,hR⟩: ∃R:Option Out,R=if(ka.drop i).all (fun c=>okF rk d (cell1 c)&&(qai rk (cell1 c)).2)=true then finW ta (s+sumL (fun c=>(qai rk (cell1 c)).1) (ka.drop i)) (rows++(ka.drop i).map fun c=>.sli .u8 (qai rk (cell1 c)).1) else badW:=⟨_,rfl⟩
  rw[<- hR]
  refine qae (fun h=> ?_) fun h=> ?_
  ·obtain⟨c,hc⟩:=qbp (b:=ka) (i:=i) (by omega)
   obtain⟨y,rfl,hy,hyb⟩:=hall c (zae hc)
   have ed:ka.drop i=.agg y::ka.drop (i+1):=by
    obtain⟨hlt,e⟩:=zad.1 hc
    rw[zbx hlt,e]
   refine qan (by omega) (qan h ?_)
   rw[show(i:Int).toNat=i from rfl,hc,zaj]
   obtain⟨m,t,b,l,hm,hye,_⟩:=qcx hy
   simp only[cell1,hye,zbw,zbr]
   refine qam rfl ?_
   simp only[show IntKind.i64.wrap (deep - 1)=deep - 1 from i64_in _ (by omega),qft,qb7,qbm]
   refine qam ?_ ?_
   ·simp only[zab]
    exact⟨q5a (hye▸hy) (hye▸(by omega)),qfo (by omega)⟩
   ·have e:qgg [.int .i64 t,.sli .u8 b,.slg 3 l] (deep - 1)=if okF rk d y=true/\(qai rk y).2=true then((qai rk y).1,true) else([],false):=by
     rw[<- hye,qnp hy,show(deep - 1).toNat=d by omega]
    have es:sumL (fun c=>(qai rk (cell1 c)).1) (ka.drop i)=((qai rk y).1.length:Int)+sumL (fun c=>(qai rk (cell1 c)).1) (ka.drop (i+1)):=by rw[ed];rfl
    have hpos:=(qw8 (fun c=>(qai rk (cell1 c)).1) ka (i+1)).1
    rw[es] at hs hR
    have em:((ka.drop i).map fun c=>CV.sli .u8 (qai rk (cell1 c)).1)=.sli .u8 (qai rk y).1::(ka.drop (i+1)).map fun c=>.sli .u8 (qai rk (cell1 c)).1:=by rw[ed];rfl
    have ea:(ka.drop i).all (fun c=>okF rk d (cell1 c)&&(qai rk (cell1 c)).2)=((okF rk d y&&(qai rk y).2)&&(ka.drop (i+1)).all (fun c=>okF rk d (cell1 c)&&(qai rk (cell1 c)).2)):=by rw[ed,zcl];rfl
    rw[ea,em] at hR
    by_cases hok:okF rk d y=true/\(qai rk y).2=true
    ·rw[if_pos hok] at e
     rw[hok.1,hok.2,Bool.and_self,zbm] at hR
     simp only[e]
     refine q8j rfl ?_
     rw[show IntKind.i64.wrap (s+((qai rk y).1.length:Int))=s+((qai rk y).1.length:Int) from i64_in _ (by omega)]
     refine qb6 (by omega) ?_
     refine qcw (by simp only[zag,zay];omega) (qcw (by simp only[zag,zay];omega) ?_)
     rw[show IntKind.i64.wrap ((i:Int)+1)=((i+1:Nat):Int) from(i64_in _ (by omega)).trans (by omega)]
     refine(q5s rk d deep ta ba hd hdd ka hlen hall f (i+1) _ _ (by omega) (by omega) (by omega) (by omega) (by simp only[zag,zay];omega)).trans ?_
     rw[hR,Int.add_assoc,zct]
     rfl
    ·rw[if_neg hok] at e
     simp only[e]
     refine qam rfl ?_
     rw[hR,if_neg (by intro h;simp only[zab] at h;exact hok h.1)]
  ·rw[zbl (by omega)] at hR
   rw[hR]
   show finW ta s rows=if([]:List CV).all (fun c=>okF rk d (cell1 c)&&(qai rk (cell1 c)).2)=true then finW ta (s+0) (rows++[]) else _
   rw[if_pos (by rfl),Int.add_zero,zcd]
theorem xbbv (n:Nat) (l:List CV):(l.map fun c=>CV.sli .u8 (qai n (cell1 c)).1)=(l.map fun c=>(qai n (cell1 c)).1).map (CV.sli .u8):=by rw[zc6];rfl
theorem xbvu (rk:Nat) (ta:Int) (ba:List Int) (ka:List CV) (deep:Int) (hp:(isSr (rk+1) [.int .i64 ta,.sli .u8 ba,.slg 3 ka]&&qcg deep)=true):xba8 rk ta ba ka deep=some (.ret [.cl (.sli .u8 (qgg [.int .i64 ta,.sli .u8 ba,.slg 3 ka] deep).1),.cl (.bool (qgg [.int .i64 ta,.sli .u8 ba,.slg 3 ka] deep).2)] []):=by
 simp only[zab] at hp
 obtain⟨ht,hb⟩:=qj6 hp.1
 have hd:=qhe hp.2
 obtain⟨h1,h2,h3,h4,h5⟩:=qob ht hb
 rw[qnp ht]
 have bad: ∀P:Prop,[Decidable P]-> ¬P->∀q:List Int×Bool,badW=some (.ret [.cl (.sli .u8 (if P then q else([],false):List Int×Bool).1),.cl (.bool (if P then q else([],false):List Int×Bool).2)] []):=fun P _ h q=>by rw[if_neg h];rfl
 unfold xba8 qdt qbj qcs
 simp only[qab]
 refine qae (fun h=> ?_) fun h=> ?_
 ·subst h;exact bad _ (fun e=>absurd e.1 zb2) _
 obtain⟨d,hdd⟩: ∃d,deep.toNat=d+1:=⟨deep.toNat - 1,by omega⟩
 rw[hdd]
 refine qcz (fun hk=> ?_) fun hk=> ?_
 ·exact bad _ (fun e=>by obtain⟨_,_,h,_⟩:=qlq e.1;simp[h] at hk) _
 have hk:qa5 ta=true:=by simpa using hk
 have hflen:=flat5 (n:=rk) (l:=ka) (B:=30000) (fun c hc=>by obtain⟨y,e,hy,_⟩:=h4 c hc;exact⟨y,e,hy⟩) (by omega)
 refine qcz (fun hx=> ?_) fun hx=> ?_
 ·have hx:qap ta=false:=by simpa using hx
  refine qae (fun hka=> ?_) fun hka=> ?_
  ·exact bad _ (fun e=>by
    obtain⟨_,_,_,h|h⟩:=qlq e.1
    ·simp[hx] at h
    ·rw[h.2.1] at hka;simp at hka) _
  ·obtain rfl:ka=[]:=zat (by omega)
   refine qb6 (by omega) (qam (qc2 (by omega) h3) ?_)
   refine qcz (fun hf=> ?_) fun hf=> ?_
   ·exact bad _ (fun e=>by
     obtain⟨_,_,_,h|h⟩:=qlq e.1
     ·simp[hx] at h
     ·simp[h.2.2] at hf) _
   ·have hf:qbh ta ba=true:=by simpa using hf
    have hok:okF (rk+1) (d+1) [.int .i64 ta,.sli .u8 ba,.slg 3 []]=true:=by
     show(qa5 ta&&(if qap ta=true then _ else decide (([]:List CV)=[])&&qbh ta ba))=true
     rw[if_neg (by simp[hx]),hk,hf]
     rfl
    rw[qm5 hx,if_pos ⟨hok,rfl⟩]
    have hr:=qls ta (ba.length:Nat)
    have hr2:=qex (ba.length:Nat)
    unfold qdh
    simp only[qab]
    have:=qku hk
    refine qam (by unfold qk1;rw[qab];exact decide_eq_true (by omega)) (qcw (by simp only[zag];omega) (qcw (by simp only[zag];omega) rfl))
 ·have hx:qap ta=true:=by simpa using hx
  refine qae (fun hba=> ?_) fun hba=> ?_
  ·exact bad _ (fun e=>by
    obtain⟨_,_,_,h|h⟩:=qlq e.1
    ·rw[h.2.1] at hba;simp at hba
    ·simp[hx] at h) _
  ·obtain rfl:ba=[]:=zat (by omega)
   refine(q5s rk d deep ta [] (by omega) hdd ka (by omega) h4 FUEL 0 0 [] (by omega) (by unfold FUEL;omega) (by omega) (by rw[zbn,qek];omega) rfl).trans ?_
   rw[zbn,qek,Int.zero_add,zbo,xbbv]
   by_cases ha:(ka.all fun c=>okF rk d (cell1 c)&&(qai rk (cell1 c)).2)=true
   ·rw[if_pos ha]
    simp only[zai,zab] at ha
    have hok:okF (rk+1) (d+1) [.int .i64 ta,.sli .u8 [],.slg 3 ka]=true:=by
     show(qa5 ta&&(if qap ta=true then decide (([]:List Int)=[])&&ka.all fun c=>okF rk d (cell1 c) else _))=true
     rw[if_pos hx,hk]
     simp only[zbm,decide_true,zai]
     exact fun c hc=>(ha c hc).1
    rw[xb3u (qku hk) (by rw[zav];omega) (xbtp h4 fun c hc=>(ha c hc).1) (by omega),qks hx]
    have h2':(ka.all fun c=>(qai rk (cell1 c)).2)=true:=by simp only[zai];exact fun c hc=>(ha c hc).2
    rw[h2',zbm]
    by_cases hs:(!(decide (ta=49))|| qa2 (ka.map fun c=>(qai rk (cell1 c)).1))=true
    ·rw[if_pos hs,if_pos ⟨hok,hs⟩]
    ·rw[if_neg hs]
     exact bad _ (fun e=>hs e.2) _
   ·rw[if_neg ha]
    refine bad _ (fun e=>ha ?_) _
    obtain⟨d',e1,_,h|h⟩:=qlq e.1
    ·obtain rfl:d=d':=by omega
     have e2:=e.2
     rw[qks hx] at e2
     simp only[zab,zai] at e2 ⊢
     exact fun c hc=>⟨h.2.2 c hc,e2.1 c hc⟩
    ·simp[hx] at h
open IntWalk (i64_in u8_in u32_in u64_in i64_quo u8_quo rem_in)
theorem q5q (rk d:Nat) (ta:Int) (ba:List Int) (ka kb:List CV) (hlen:ka.length<=30000) (hall: ∀c∈ka, ∃y,c=.agg y/\isTf rk y=true/\qdp rk y+1<=30000) (hok: ∀c∈ka,okF rk d (cell1 c)=true): ∀(f i:Nat) (s:Int),i<=ka.length->ka.length<f+i->0<=s->s+sumL (fun c=>(qai rk (cell1 c)).1) (ka.drop i)<=150000->
  qjv rk (fun _ _ _ _ _ _ _ _ _ _ _ _ _ _ _ _ _ _ _ _ _ _ _ _ _ _ _ _ _ _ _=>badW) (fun _ y37 _ _ _ y41 _ _ y44=>finW y41 y37 y44) f ka.length s ka (ka.length:Int) i ta ba kb (((ka.take i).map fun c=>CV.sli .u8 (qai rk (cell1 c)).1)++List.replicate (ka.length - i) (.sli .u8 []))=if(ka.drop i).all (fun c=>(qai rk (cell1 c)).2)=true then finW ta (s+sumL (fun c=>(qai rk (cell1 c)).1) (ka.drop i)) (ka.map fun c=>.sli .u8 (qai rk (cell1 c)).1) else badW
 | 0,i,s,hi,hf,_,_=>by omega
 | f+1,i,s,hi,hf,h0,hs=>by
  show qkj rk (qjv rk (fun _ _ _ _ _ _ _ _ _ _ _ _ _ _ _ _ _ _ _ _ _ _ _ _ _ _ _ _ _ _ _=>badW) (fun _ y37 _ _ _ y41 _ _ y44=>finW y41 y37 y44) f) (fun _ _ _ _ _ _ _ _ _ _ _ _ _ _ _ _ _ _ _ _ _ _ _ _ _ _ _ _ _ _ _=>badW) (fun _ y37 _ _ _ y41 _ _ y44=>finW y41 y37 y44) ka.length s ka (ka.length:Int) i ta ba kb (((ka.take i).map fun c=>CV.sli .u8 (qai rk (cell1 c)).1)++List.replicate (ka.length - i) (.sli .u8 []))=_
  unfold qkj
  obtain⟨R,hR⟩: ∃R:Option Out,R=if(ka.drop i).all (fun c=>(qai rk (cell1 c)).2)=true then finW ta (s+sumL (fun c=>(qai rk (cell1 c)).1) (ka.drop i)) (ka.map fun c=>.sli .u8 (qai rk (cell1 c)).1) else badW:=⟨_,rfl⟩
  rw[<- hR]
  obtain⟨W,hW⟩: ∃W:List CV,W=((ka.take i).map fun c=>CV.sli .u8 (qai rk (cell1 c)).1)++List.replicate (ka.length - i) (.sli .u8 []):=⟨_,rfl⟩
  rw[<- hW]
  refine qae (fun h=> ?_) fun h=> ?_
  ·obtain⟨c,hc⟩:=qbp (b:=ka) (i:=i) (by omega)
   obtain⟨y,rfl,hy,hyb⟩:=hall c (zae hc)
   have hoky:okF rk d y=true:=hok _ (zae hc)
   have ed:ka.drop i=.agg y::ka.drop (i+1):=by
    obtain⟨hlt,e⟩:=zad.1 hc
    rw[zbx hlt,e]
   refine qan (by omega) (qan h ?_)
   rw[show(i:Int).toNat=i from rfl,hc,zaj]
   obtain⟨m,t,b,l,hm,hye,_⟩:=qcx hy
   have hset:W.set (0+i) (.sli .u8 (qai rk y).1)=((ka.take (i+1)).map fun c=>CV.sli .u8 (qai rk (cell1 c)).1)++List.replicate (ka.length - (i+1)) (.sli .u8 []):=by
    rw[hW,zax,List.set_append_right _ _ (by simp;omega)]
    have e1:i - ((ka.take i).map fun c=>CV.sli .u8 (qai rk (cell1 c)).1).length=0:=by simp;omega
    rw[e1,show ka.length - i=(ka.length - (i+1))+1 by omega,List.replicate_succ,List.set_cons_zero]
    have e2:ka.take (i+1)=ka.take i++[.agg y]:=by
     rw[List.take_add_one,hc];rfl
    rw[e2,List.map_append,zct]
    rfl
   simp only[cell1,hye,zbw,zbr]
   refine qam rfl ?_
   simp only[qft,qb7,qbm]
   refine qam ?_ ?_
   ·exact xbk0 ⟨hye▸hy,hye▸(by omega),d,hye▸hoky⟩
   ·have e:qjx [.int .i64 t,.sli .u8 b,.slg 3 l]=if(qai rk y).2=true then((qai rk y).1,true) else([],false):=by
     rw[<- hye,qsm hy]
    have es:sumL (fun c=>(qai rk (cell1 c)).1) (ka.drop i)=((qai rk y).1.length:Int)+sumL (fun c=>(qai rk (cell1 c)).1) (ka.drop (i+1)):=by rw[ed];rfl
    have hpos:=(qw8 (fun c=>(qai rk (cell1 c)).1) ka (i+1)).1
    rw[es] at hs hR
    have ea:(ka.drop i).all (fun c=>(qai rk (cell1 c)).2)=((qai rk y).2&&(ka.drop (i+1)).all (fun c=>(qai rk (cell1 c)).2)):=by rw[ed,zcl];rfl
    rw[ea] at hR
    by_cases hk:(qai rk y).2=true
    ·rw[if_pos hk] at e
     rw[hk,zbm] at hR
     simp only[e]
     refine q8j rfl ?_
     rw[show IntKind.i64.wrap (s+((qai rk y).1.length:Int))=s+((qai rk y).1.length:Int) from i64_in _ (by omega)]
     refine qan (by omega) (qan h ?_)
     rw[hset,show IntKind.i64.wrap ((i:Int)+1)=((i+1:Nat):Int) from(i64_in _ (by omega)).trans (by omega)]
     refine(q5q rk d ta ba ka kb hlen hall hok f (i+1) _ (by omega) (by omega) (by omega) (by omega)).trans ?_
     rw[hR,Int.add_assoc]
    ·rw[if_neg hk] at e
     simp only[e]
     refine qam rfl ?_
     rw[hR,if_neg (by intro h;simp only[zab] at h;exact hk h.1)]
  ·obtain rfl:i=ka.length:=by omega
   rw[zbl (zar _)] at hR
   rw[hR,hW,zc5,Nat.sub_self]
   show finW ta s ((ka.map fun c=>CV.sli .u8 (qai rk (cell1 c)).1)++[])=if([]:List CV).all (fun c=>(qai rk (cell1 c)).2)=true then finW ta (s+0) _ else _
   rw[if_pos (by rfl),Int.add_zero,zcd]
theorem xbwr (rk:Nat) (ta:Int) (ba:List Int) (ka:List CV) (hp:isWr (rk+1) [.int .i64 ta,.sli .u8 ba,.slg 3 ka]=true):xbe9 rk ta ba ka=some (.ret [.cl (.sli .u8 (qjx [.int .i64 ta,.sli .u8 ba,.slg 3 ka]).1),.cl (.bool (qjx [.int .i64 ta,.sli .u8 ba,.slg 3 ka]).2)] []):=by
 obtain⟨ht,hb,d,hok⟩:=qvi hp
 obtain⟨h1,h2,h3,h4,h5⟩:=qob ht hb
 obtain⟨d',rfl,hk,h⟩:=qlq hok
 rw[qsm ht]
 unfold xbe9 qbj
 simp only[qab]
 rcases h with⟨hx,rfl,hall⟩|⟨hx,rfl,hf⟩
 ·have hflen:=flat5 (n:=rk) (l:=ka) (B:=30000) (fun c hc=>by obtain⟨y,e,hy,_⟩:=h4 c hc;exact⟨y,e,hy⟩) (by simp only[zcb] at h5;omega)
  refine q8j (by simp[hx]) (qan (by omega) (qan (by omega) (qan (by unfold LIM;omega) (qan (by unfold LIM;omega) ?_))))
  refine(q5q rk d' ta [] ka ka (by omega) h4 hall FUEL 0 0 (by omega) (by unfold FUEL;omega) (by omega) (by rw[zbn,qek];omega)).trans ?_
  rw[zbn,qek,Int.zero_add,xbbv,qks hx]
  by_cases ha:(ka.all fun c=>(qai rk (cell1 c)).2)=true
  ·rw[if_pos ha,xb3u (qku hk) (by rw[zav];omega) (xbtp h4 hall) (by omega),ha,zbm]
   by_cases hs:(!(decide (ta=49))|| qa2 (ka.map fun c=>(qai rk (cell1 c)).1))=true
   ·rw[if_pos hs,if_pos hs]
   ·rw[if_neg hs,if_neg hs];rfl
  ·rw[if_neg ha]
   have hf:(ka.all fun c=>(qai rk (cell1 c)).2)=false:=by simpa using ha
   rw[hf,zdc]
   rfl
 ·have hr:=qls ta (ba.length:Nat)
  have hr2:=qex (ba.length:Nat)
  have:=qku hk
  unfold qdh
  simp only[qab]
  rw[qm5 hx]
  refine qam (by simp[hx]) (qam (by unfold qk1;rw[qab];exact decide_eq_true (by omega)) (qcw (by simp only[zag];omega) (qcw (by simp only[zag];omega) rfl)))
theorem xbxd (ta:Int) (ba:List Int) (ka:List CV) (hp:isS [.int .i64 ta,.sli .u8 ba,.slg 3 ka]=true):xbcd ta ba ka=some (.ret [.cl (.sli .u8 (qbq [.int .i64 ta,.sli .u8 ba,.slg 3 ka]).1),.cl (.int .i64 (qbq [.int .i64 ta,.sli .u8 ba,.slg 3 ka]).2)] []):=by
 obtain⟨n,ht,hb⟩:=qdl hp
 have hl:=qit ht
 unfold xbcd
 refine qam (by rw[hp,qfo (by omega)];rfl) ?_
 simp only[qnp ht,qf1 ht,show(32:Int).toNat=32 from rfl]
 by_cases h:okF n 32 [.int .i64 ta,.sli .u8 ba,.slg 3 ka]=true/\(qai n [.int .i64 ta,.sli .u8 ba,.slg 3 ka]).2=true
 ·simp only[if_pos h]
  exact q8j rfl (qb6 (by omega) rfl)
 ·simp only[if_neg h]
  exact qam rfl rfl
theorem xbsj (ta:Int) (ba:List Int) (ka:List CV) (hp:isS [.int .i64 ta,.sli .u8 ba,.slg 3 ka]=true):q95 ta ba ka=some (.ret [.cl (.sli .u8 (qbq [.int .i64 ta,.sli .u8 ba,.slg 3 ka]).1),.cl (.int .i64 (qbq [.int .i64 ta,.sli .u8 ba,.slg 3 ka]).2)] []):=by
 obtain⟨n,ht,hb⟩:=qdl hp
 have hl:=qit ht
 unfold q95
 refine qam (by rw[hp,qfo (by omega)];rfl) ?_
 rw[quy ht,show(32:Int).toNat=32 from rfl]
 by_cases hok:okF n 32 [.int .i64 ta,.sli .u8 ba,.slg 3 ka]=true
 ·simp only[if_pos hok]
  refine qb6 (by omega) (qb6 (by omega) (qam (xbz6 ⟨ht,hb,32,hok⟩) ?_))
  simp only[qsm ht,qf1 ht]
  by_cases h:(qai n [.int .i64 ta,.sli .u8 ba,.slg 3 ka]).2=true
  ·simp only[if_pos h,if_pos (show okF n 32 [.int .i64 ta,.sli .u8 ba,.slg 3 ka]=true/\(qai n [.int .i64 ta,.sli .u8 ba,.slg 3 ka]).2=true from⟨hok,h⟩)]
   exact q8j rfl rfl
  ·simp only[if_neg h,if_neg (show ¬(okF n 32 [.int .i64 ta,.sli .u8 ba,.slg 3 ka]=true/\(qai n [.int .i64 ta,.sli .u8 ba,.slg 3 ka]).2=true) from fun e=>h e.2)]
   exact qam rfl rfl
 ·simp only[if_neg hok,qf1 ht,if_neg (show ¬(okF n 32 [.int .i64 ta,.sli .u8 ba,.slg 3 ka]=true/\(qai n [.int .i64 ta,.sli .u8 ba,.slg 3 ka]).2=true) from fun e=>hok e.1)]
  exact qan (by omega) rfl
theorem q39 {n:Nat} {a:List CV} (ht:isTf n a=true):decide ((qbq a).2=0)=qz2 a:=by
 rw[qf1 ht,q0h ht]
 by_cases h:okF n 32 a=true/\(qai n a).2=true
 ·rw[if_pos h,decide_eq_true h];rfl
 ·rw[if_neg h,decide_eq_false h];rfl
theorem xb15 (ta:Int) (ba:List Int) (ka:List CV) (hp:isS [.int .i64 ta,.sli .u8 ba,.slg 3 ka]=true):xbl6 ta ba ka=some (.ret [.cl (.bool (qz2 [.int .i64 ta,.sli .u8 ba,.slg 3 ka]))] []):=by
 obtain⟨n,ht,hb⟩:=qdl hp
 unfold xbl6
 exact qam hp (qaz (q39 ht))
theorem xb3h (ta:Int) (ba:List Int) (ka:List CV) (hp:isS [.int .i64 ta,.sli .u8 ba,.slg 3 ka]=true):xbn7 ta ba ka=some (.ret [.cl (.bool (qz2 [.int .i64 ta,.sli .u8 ba,.slg 3 ka]))] []):=by
 obtain⟨n,ht,hb⟩:=qdl hp
 unfold xbn7
 exact qam hp (qaz (q39 ht))
open IntWalk (i64_in u8_in u32_in u64_in i64_quo u8_quo rem_in)
theorem xbyz {a:List CV} (h:isS a=true):isN a=true:=by
 obtain⟨n,hn,hb⟩:=qdl h
 exact xbzd (q9q hn hb)
def lenB (n:Int):List Int:=if n<128 then[n] else if n<256 then[129,n] else if n<65536 then[130,n/ 256,n % 256] else[131,n/ 65536,n/ 256 % 256,n % 256]
theorem q5c (t n:Int):qcd t n=t::lenB n:=rfl
theorem xbo2 (n:Int):((lenB n).length:Int)=qau n:=by
 unfold lenB qau
 repeat' split
 all_goals rfl
theorem xbp8 {r:List Int} (hb: ∀x∈r,0<=x/\x<=255) (h: ¬(qac r).2=0):r=lenB (qac r).1++r.drop (qac r).2.toNat/\qau (qac r).1=(qac r).2:=by
 match r,hb,h with
 | [],_,h=>exact absurd rfl h
 | c::t,hb,h=>
  have hc:=hb c (zcg ..)
  rw[qda] at h ⊢
  by_cases h1:c<128
  ·rw[if_pos h1]
   have e:lenB c=[c]:=by unfold lenB;rw[if_pos h1]
   have e2:qau c=1:=by unfold qau;rw[if_pos h1]
   exact⟨by rw[e];rfl,e2⟩
  ·rw[if_neg h1] at h ⊢
   by_cases h2:c=128\/131<c\/(t.length:Int)<c - 128
   ·rw[if_pos h2] at h;exact absurd rfl h
   ·rw[if_neg h2] at h ⊢
    by_cases h3:t.headD 0=0\/qav (t.take (c - 128).toNat)<128
    ·rw[if_pos h3] at h;exact absurd rfl h
    ·rw[if_neg h3] at h ⊢
     have hc3:c=129\/c=130\/c=131:=by omega
     have hbt: ∀(i:Nat) (x:Int),t[i]? =some x->0<=x/\x<=255:=fun i x hx=>hb x (zba _ (zae hx))
     rcases hc3 with rfl|rfl|rfl
     ·match t,h2,h3,hbt with
      | [],h2,_,_=>simp at h2
      | x::t,h2,h3,hbt=>
       have hx:=hbt 0 x rfl
       have e:qav ((x::t).take (129 - 128:Int).toNat)=x:=by show(0:Int)*256+x=x;omega
       rw[e] at h3 ⊢
       simp only[zbw] at h3
       have e1:lenB x=[129,x]:=by unfold lenB;rw[if_neg (by omega),if_pos (by omega)]
       have e2:qau x=2:=by unfold qau;rw[if_neg (by omega),if_pos (by omega)]
       exact⟨by show _=lenB x++_;rw[e1];rfl,e2⟩
     ·match t,h2,h3,hbt with
      | [],h2,_,_=>simp at h2
      | [_],h2,_,_=>simp at h2
      | x::y::t,h2,h3,hbt=>
       have hx:=hbt 0 x rfl
       have hy:=hbt 1 y rfl
       have e:qav ((x::y::t).take (130 - 128:Int).toNat)=x*256+y:=by show((0:Int)*256+x)*256+y=_;omega
       rw[e] at h3 ⊢
       simp only[zbw] at h3
       have e1:lenB (x*256+y)=[130,x,y]:=by
        unfold lenB
        rw[if_neg (by omega),if_neg (by omega),if_pos (by omega),show(x*256+y)/ 256=x by omega,show(x*256+y) % 256=y by omega]
       have e2:qau (x*256+y)=3:=by unfold qau;rw[if_neg (by omega),if_neg (by omega),if_pos (by omega)]
       exact⟨by show _=lenB (x*256+y)++_;rw[e1];rfl,e2⟩
     ·match t,h2,h3,hbt with
      | [],h2,_,_=>simp at h2
      | [_],h2,_,_=>simp at h2
      | [_,_],h2,_,_=>simp at h2
      | x::y::z::t,h2,h3,hbt=>
       have hx:=hbt 0 x rfl
       have hy:=hbt 1 y rfl
       have hz:=hbt 2 z rfl
       have e:qav ((x::y::z::t).take (131 - 128:Int).toNat)=(x*256+y)*256+z:=by show(((0:Int)*256+x)*256+y)*256+z=_;omega
       rw[e] at h3 ⊢
       simp only[zbw] at h3
       have e1:lenB ((x*256+y)*256+z)=[131,x,y,z]:=by
        unfold lenB
        rw[if_neg (by omega),if_neg (by omega),if_neg (by omega),show((x*256+y)*256+z)/ 65536=x by omega,show((x*256+y)*256+z)/ 256 % 256=y by omega,show((x*256+y)*256+z) % 256=z by omega]
       have e2:qau ((x*256+y)*256+z)=4:=by unfold qau;rw[if_neg (by omega),if_neg (by omega),if_neg (by omega)]
       exact⟨by show _=lenB ((x*256+y)*256+z)++_;rw[e1];rfl,e2⟩
theorem qxy {f:List Int->Int×Nd×Int} {h:Nd->List Int} {Q:Nd->Prop} (hu: ∀b,qad b=true->(f b).1=0->0<(f b).2.2/\(f b).2.2<=b.length) (hf: ∀b,qad b=true->(f b).1=0->Q (f b).2.1/\h (f b).2.1=b.take (f b).2.2.toNat): ∀(m:Nat) (b:List Int),qad b=true->b.length<=m->(qch f m b).1=0->
  (qch f m b).2.2=(qch f m b).2.1.map h/\(qch f m b).2.2.flatten=b/\∀x∈(qch f m b).2.1,Q x
 | 0,b,hb,hm,hz=>by
  have:b=[]:=zat (by omega)
  subst this
  rw[qmc]
  simp
 | m+1,b,hb,hm,hz=>by
  by_cases hne:b=[]
  ·subst hne;rw[qmc];simp
  ·by_cases h0:(f b).1=0
   ·have hub:=hu b hb h0
    obtain⟨hq,hh⟩:=hf b hb h0
    rw[qvl hne h0] at hz ⊢
    obtain⟨i1,i2,i3⟩:=qxy hu hf m _ (qa7 hb _) (by simp only[zaq];omega) hz
    refine⟨?_, ?_,fun x hx=> ?_⟩
    ·rw[zbi,hh, <- i1]
    ·rw[zc1,i2,List.take_append_drop]
    ·rcases zaw.1 hx with rfl|hx
     ·exact hq
     ·exact i3 x hx
   ·rw[qwl hne h0] at hz
    exact absurd hz h0
theorem xbel {α:Type} {g:α->List Int} {h:α->Nat}: ∀ {l:List α},(∀c∈l,h c<=(g c).length)->(l.map h).sum<=((l.map g).flatten).length
 | [],_=>by simp
 | a::r,hh=>by
  have:=hh a (zcg ..)
  have:=xbel (g:=g) (h:=h) (l:=r) fun c hc=>hh c (zba _ hc)
  simp only[zbi,zc1,zag,zb7]
  omega
def xbur (d:Nat) (x:Nd):Prop:=isTf d (ndL x)=true/\okF d d (ndL x)=true/\(qai d (ndL x)).2=true/\qdp d (ndL x)<=(qai d (ndL x)).1.length
theorem xbs7 {n:Nat} {t:Int} {b:List Int} {l:List CV} (h1: ∀z∈b,0<=z/\z<=255) (h3: ∀c∈l, ∃y,c=.agg y/\isTf n y=true):isTf (n+1) [.int .i64 t,.sli .u8 b,.slg 3 l]=true:=by
 show(b.all xbln&&l.all fun c=>match c with|.agg x=>isTf n x|_=>false)=true
 simp only[zab,zai]
 refine⟨fun z hz=>decide_eq_true (h1 z hz),fun c hc=> ?_⟩
 obtain⟨y,rfl,hy⟩:=h3 c hc
 exact hy
theorem qnn: ∀(d:Nat) (b:List Int),qad b=true->(qaq d b).1=0->xbur d (qaq d b).2.1/\(qai d (ndL (qaq d b).2.1)).1=b.take (qaq d b).2.2.toNat
 | 0,b,_,h=>absurd h (by decide: ¬(3:Int)=0)
 | d+1,[],_,h=>absurd h (by decide: ¬(1:Int)=0)
 | d+1,t::r,hb,h=>by
  have hbt:=qbs hb
  simp only[zbr] at hbt
  have hr:=qzc hbt
  rw[qjr] at h ⊢
  obtain⟨hu,hk,hn⟩:=qnr h
  obtain⟨e1,e2⟩:=xbp8 (qal hbt).2 (fun e=>hn (.inl e))
  have hk':qa5 t=true:=by simpa using hk
  rw[hu]
  obtain⟨I,hI⟩: ∃I,I=(r.drop (qac r).2.toNat).take (qac r).1.toNat:=⟨_,rfl⟩
  have hIl:(I.length:Int)=(qac r).1:=by rw[hI];simp only[zb8,zaq];omega
  have hIb:qad I=true:=by rw[hI];exact qgh (qa7 hbt _) _
  have hlb:=xbo2 (qac r).1
  have htake:(t::r).take (1+(qac r).2+(qac r).1).toNat=t::(lenB (I.length:Nat)++I):=by
   rw[show(1+(qac r).2+(qac r).1).toNat=((qac r).2.toNat+(qac r).1.toNat)+1 by omega,zb6,hIl]
   congr 1
   have:r.take ((qac r).2.toNat+(qac r).1.toNat)=(lenB (qac r).1++r.drop (qac r).2.toNat).take ((lenB (qac r).1).length+(qac r).1.toNat):=by
    rw[<- e1,show(lenB (qac r).1).length=(qac r).2.toNat by omega]
   rw[this,List.take_length_add_append, <- hI]
  rw[htake]
  have hp:parse1 (qaq d) t r=if qap t=false then(if qbh t I=true then(0,(t,I,[]),1+(qac r).2+(qac r).1) else(5,nd0,0))
    else if(qch (qaq d) I.length I).1=0 then(if t=49/\qa2 (qch (qaq d) I.length I).2.2=false then(6,nd0,0) else(0,(t,[],(qch (qaq d) I.length I).2.1.map ndCV),1+(qac r).2+(qac r).1)) else((qch (qaq d) I.length I).1,nd0,0):=by
   unfold parse1
   rw[if_neg hk,if_neg hn, <- hI]
  rw[hp] at h ⊢
  cases hx:qap t with
  | false=>
   rw[hx,if_pos rfl] at h
   rw[if_pos rfl]
   by_cases hf:qbh t I=true
   ·rw[if_pos hf]
    have hbl:qai (d+1) (ndL (t,I,[]))=(qcd t (I.length:Nat)++I,true):=qm5 hx
    refine⟨⟨xbs7 (qal hIb).2 (by simp), ?_,by show(qai (d+1) (ndL (t,I,[]))).2=true;rw[hbl], ?_⟩, ?_⟩
    ·show(qa5 t&&(if qap t=true then _ else decide (([]:List CV)=[])&&qbh t I))=true
     rw[if_neg (by simp[hx]),hk',hf];rfl
    ·show 1+I.length+0<=(qai (d+1) (ndL (t,I,[]))).1.length
     rw[hbl,q5c]
     simp only[zag,zac];omega
    ·show(qai (d+1) (ndL (t,I,[]))).1=_
     rw[hbl];rfl
   ·rw[if_neg hf] at h;exact absurd h (by decide: ¬(5:Int)=0)
  | true=>
   rw[hx,if_neg (by decide)] at h
   rw[if_neg (by decide)]
   by_cases hz:(qch (qaq d) I.length I).1=0
   ·rw[if_pos hz] at h ⊢
    by_cases hs:t=49/\qa2 (qch (qaq d) I.length I).2.2=false
    ·rw[if_pos hs] at h;exact absurd h (by decide: ¬(6:Int)=0)
    ·rw[if_neg hs]
     obtain⟨i1,i2,i3⟩:=qxy (f:=qaq d) (h:=fun x=>(qai d (ndL x)).1) (Q:=xbur d) (fun b hb h=>qhb hb h) (fun b hb h=>qnn d b hb h) I.length I hIb (zar _) hz
     generalize qch (qaq d) I.length I=p at*
     obtain⟨p1,xs,ps⟩:=p
     simp only[] at i1 i2 i3 hs ⊢
     have hm:((xs.map ndCV).map fun c=>(qai d (cell1 c)).1)=ps:=by rw[i1,zc6];rfl
     have hbl:qai (d+1) (ndL (t,[],xs.map ndCV))=(qcd t (I.length:Nat)++I,((xs.map ndCV).all fun c=>(qai d (cell1 c)).2)&&(!(decide (t=49))|| qa2 ps)):=by
      refine(qks hx).trans ?_
      rw[hm,i2]
     have hall2:((xs.map ndCV).all fun c=>(qai d (cell1 c)).2)=true:=by
      simp only[zai,zbu]
      rintro c ⟨x,hx',rfl⟩
      exact(i3 x hx').2.2.1
     have hso:(!(decide (t=49))|| qa2 ps)=true:=by
      by_cases h49:t=49
      ·have:qa2 ps=true:=by
        cases hh:qa2 ps with
        | true=>rfl
        | false=>exact absurd ⟨h49,hh⟩ hs
       rw[this,Bool.or_true]
      ·simp[h49]
     rw[hall2,hso] at hbl
     refine⟨⟨xbs7 (by simp) fun c hc=> ?_, ?_,by show(qai (d+1) (ndL (t,[],xs.map ndCV))).2=true;rw[hbl];rfl, ?_⟩, ?_⟩
     ·obtain⟨x,hx',rfl⟩:=zbu.1 hc
      exact⟨_,rfl,(i3 x hx').1⟩
     ·show(qa5 t&&(if qap t=true then decide (([]:List Int)=[])&&(xs.map ndCV).all fun c=>okF d d (cell1 c) else _))=true
      rw[if_pos hx,hk']
      simp only[zbm,decide_true,zai,zbu]
      rintro c ⟨x,hx',rfl⟩
      exact(i3 x hx').2.1
     ·show 1+0+((xs.map ndCV).map fun c=>qdp d (cell1 c)).sum<=(qai (d+1) (ndL (t,[],xs.map ndCV))).1.length
      rw[hbl,q5c]
      have:=xbel (g:=fun x=>(qai d (ndL x)).1) (h:=fun x=>qdp d (ndL x)) (l:=xs) fun x hx'=>(i3 x hx').2.2.2
      rw[<- i1,i2] at this
      have e:((xs.map ndCV).map fun c=>qdp d (cell1 c))=xs.map fun x=>qdp d (ndL x):=by rw[zc6];rfl
      rw[e]
      simp only[zag,zac]
      omega
     ·show(qai (d+1) (ndL (t,[],xs.map ndCV))).1=_
      rw[hbl];rfl
   ·rw[if_neg hz] at h;exact absurd h hz
theorem qya (b:List Int):qa9 b=if(qaq 32 b).1=0 then(if(qaq 32 b).2.2<b.length then(nd0,7) else((qaq 32 b).2.1,0)) else(nd0,(qaq 32 b).1):=by
 unfold qa9 qu3;rw[qab]
open IntWalk (i64_in u8_in u32_in u64_in i64_quo u8_quo rem_in)
theorem qw6 {i:Nat} (h:i<=1000000000000):IntKind.i64.wrap ((i:Int)+1)=((i+1:Nat):Int):=(i64_in _ (by omega)).trans (by omega)
theorem xbi5 {a b:List Int} {T:Nat->Int->Option Out}
  (hT: ∀(f i:Nat),T (f+1) i=cond (decide ((i:Int)<(a.length:Int))) (getK a i fun x=>getK b i fun y=>cond (!decide (x=y)) (some (.ret [.cl (.bool false)] [])) (T f (IntKind.i64.wrap ((i:Int)+1)))) (some (.ret [.cl (.bool true)] [])))
  (hl:a.length=b.length) (hb:a.length<=100000000): ∀(f i:Nat),i<=a.length->a.length<f+i->T f i=some (.ret [.cl (.bool (decide (a.drop i=b.drop i)))] [])
 | 0,i,hi,hf=>by omega
 | f+1,i,hi,hf=>by
  rw[hT]
  refine qae (fun h=> ?_) fun h=> ?_
  ·obtain⟨x,hx⟩:=qbp (b:=a) (i:=i) (by omega)
   obtain⟨y,hy⟩:=qbp (b:=b) (i:=i) (by omega)
   refine qa4 (by omega) hx (qa4 (by omega) hy ?_)
   rw[qc9 hx,qc9 hy]
   refine qay (fun hne=>qaz ?_) fun he=> ?_
   ·simp[hne]
   ·subst he
    rw[qw6 (by omega)]
    refine(xbi5 hT hl hb f (i+1) (by omega) (by omega)).trans (qaz ?_)
    simp
  ·refine qaz ?_
   rw[qd6 (by omega),qd6 (by omega)]
   simp
theorem xbuu {n:Nat} (h:n<=100000000):n<FUEL+0:=by unfold FUEL;omega
theorem xbl7 {a b:List Int} {x:Option Out} (hx:a.length=b.length->x=some (.ret [.cl (.bool (decide (a.drop 0=b.drop 0)))] [])):
  cond (!decide ((a.length:Int)=(b.length:Int))) (some (.ret [.cl (.bool false)] [])) x=some (.ret [.cl (.bool (qcj a b))] []):=by
 unfold qcj qm9
 rw[qab]
 refine qay (fun h=>qaz ?_) fun h=>hx (by omega)
 rw[eq_comm,decide_eq_false_iff_not]
 intro e
 subst e
 exact h rfl
theorem xb0u (a b:List Int) (hp:qc6 a=true):xbto a b=some (.ret [.cl (.bool (qcj a b))] []):=by
 unfold xbto
 simp only[qab]
 exact xbl7 fun h=>xbi5 (T:=fun f=>qut _ _ f a b _) (fun _ _=>rfl) h (qe4 hp) FUEL 0 (by omega) (xbuu (qe4 hp))
theorem xb1v (a b:List Int) (hp:qc6 a=true):xb0b a b=some (.ret [.cl (.bool (qcj a b))] []):=qam hp rfl
open IntWalk (i64_in u8_in u32_in u64_in i64_quo u8_quo rem_in)
theorem qri {n:Int} (h:u32Ok n=true):0<=n/\n<=4294967295:=by
 unfold u32Ok at h;rw[qab] at h;exact of_decide_eq_true h
theorem qvo {n:Int} (h:0<=n/\n<=4294967295):u32Ok n=true:=by
 unfold u32Ok;rw[qab];exact decide_eq_true h
theorem qtb {o:List Int} (h:qs5 o=true):o.length<=1000/\∀x∈o,0<=x/\x<=4294967295:=by
 unfold qs5 at h
 rw[qab] at h
 simp only[zab,decide_eq_true_eq,zai] at h
 exact⟨h.1,fun x hx=>of_decide_eq_true (h.2 x hx)⟩
theorem c_z {x:Int} {a b:Option Out} (h:x=0):cond (!decide (x=0)) a b=b:=by rw[decide_eq_true h];rfl
theorem c_nz {x:Int} {a b:Option Out} (h:x≠0):cond (!decide (x=0)) a b=a:=by rw[decide_eq_false h];rfl
theorem or128: ∀n:Fin 256,IntKind.u8.wrap ((BitVec.ofInt 8 (n.val:Int)||| BitVec.ofInt 8 128).toNat)=128+(n.val:Int) % 128:=by decide+kernel
theorem xbua (x:Int):IntKind.u8.wrap ((BitVec.ofInt 8 (IntKind.u8.wrap x)||| BitVec.ofInt 8 128).toNat)=128+x % 128:=by
 rw[xbly x]
 have:=or128 ⟨(x % 256).toNat,by omega⟩
 simp only[zda (show 0<=x % 256 by omega)] at this
 rw[this];omega
theorem xbs5 (x:Int):IntKind.u8.wrap ((BitVec.ofInt 8 (IntKind.u8.wrap x)&&& ~~~ BitVec.ofInt 8 128).toNat)=x % 128:=by
 rw[xbly x]
 have:=(and7 ⟨(x % 256).toNat,by omega⟩).1
 simp only[zda (show 0<=x % 256 by omega)] at this
 rw[this];omega
theorem fd28 (n:Int):Int.fdiv n (2 ^ 28)=n/ 268435456:=zbe _ (by decide)
theorem fd21 (n:Int):Int.fdiv n (2 ^ 21)=n/ 2097152:=zbe _ (by decide)
theorem fd14 (n:Int):Int.fdiv n (2 ^ 14)=n/ 16384:=zbe _ (by decide)
theorem fd7 (n:Int):Int.fdiv n (2 ^ 7)=n/ 128:=zbe _ (by decide)
theorem xbrx (f:Nat):gHi f 0=[]:=by cases f<;>rfl
theorem xbab (f:Nat) {n:Int} (h:n≠0):gHi (f+1) n=gHi f (n/ 128)++[128+n % 128]:=by
 conv=>lhs;unfold gHi
 rw[if_neg h]
theorem gr1 {n:Int} (h:n/ 128=0):qbc n=[n % 128]:=by unfold qbc;rw[h,xbrx];rfl
theorem gr2 {n:Int} (h:n/ 128≠0) (h':n/ 16384=0):qbc n=[128+n/ 128 % 128,n % 128]:=by
 unfold qbc
 rw[xbab 4 h,show n/ 128/ 128=0 by omega,xbrx];rfl
theorem gr3 {n:Int} (h:n/ 16384≠0) (h':n/ 2097152=0):qbc n=[128+n/ 16384 % 128,128+n/ 128 % 128,n % 128]:=by
 unfold qbc
 rw[xbab 4 (by omega),xbab 3 (by omega),show n/ 128/ 128/ 128=0 by omega,xbrx,show n/ 128/ 128=n/ 16384 by omega];rfl
theorem gr4 {n:Int} (h:n/ 2097152≠0) (h':n/ 268435456=0):qbc n=[128+n/ 2097152 % 128,128+n/ 16384 % 128,128+n/ 128 % 128,n % 128]:=by
 unfold qbc
 rw[xbab 4 (by omega),xbab 3 (by omega),xbab 2 (by omega),show n/ 128/ 128/ 128/ 128=0 by omega,xbrx,show n/ 128/ 128/ 128=n/ 2097152 by omega,show n/ 128/ 128=n/ 16384 by omega];rfl
theorem gr5 {n:Int} (h:n/ 268435456≠0) (h':0<=n/\n<=4294967295):qbc n=[128+n/ 268435456 % 128,128+n/ 2097152 % 128,128+n/ 16384 % 128,128+n/ 128 % 128,n % 128]:=by
 unfold qbc
 rw[xbab 4 (by omega),xbab 3 (by omega),xbab 2 (by omega),xbab 1 (by omega),show n/ 128/ 128/ 128/ 128/ 128=0 by omega,xbrx,show n/ 128/ 128/ 128/ 128=n/ 268435456 by omega,show n/ 128/ 128/ 128=n/ 2097152 by omega,show n/ 128/ 128=n/ 16384 by omega];rfl
theorem xbd0 {n:Int} (h:0<=n/\n<=4294967295):(n/ 128=0/\n/ 16384=0/\n/ 2097152=0/\n/ 268435456=0)\/(n/ 128≠0/\n/ 16384=0/\n/ 2097152=0/\n/ 268435456=0)\/
  (n/ 128≠0/\n/ 16384≠0/\n/ 2097152=0/\n/ 268435456=0)\/(n/ 128≠0/\n/ 16384≠0/\n/ 2097152≠0/\n/ 268435456=0)\/(n/ 128≠0/\n/ 16384≠0/\n/ 2097152≠0/\n/ 268435456≠0):=by omega
theorem xbuc (n:Int) (hp:u32Ok n=true):xbjt n=some (.ret [.ref 0 0 (qbk n).length true 1] [some ⟨.ints .u8 (qbk n),false⟩]):=by
 have hn:=qri hp
 unfold xbjt qbk
 simp only[qab]
 unfold q04
 simp only[fd28,fd21,fd14,fd7,xbua,xbs5]
 rcases xbd0 hn with⟨h1,h2,h3,h4⟩|⟨h1,h2,h3,h4⟩|⟨h1,h2,h3,h4⟩|⟨h1,h2,h3,h4⟩|⟨h1,h2,h3,h4⟩
 ·rw[c_z h4,c_z h3,c_z h2,c_z h1,gr1 h1];rfl
 ·rw[c_z h4,c_z h3,c_z h2,c_nz h1,gr2 h1 h2];rfl
 ·rw[c_z h4,c_z h3,c_nz h2,c_nz h1,gr3 h2 h3];rfl
 ·rw[c_z h4,c_nz h3,c_nz h2,c_nz h1,gr4 h3 h4];rfl
 ·rw[c_nz h4,c_nz h3,c_nz h2,c_nz h1,gr5 h4 hn];rfl
theorem rm1 {l:List Int} {x:Option Out} (h:l.length<=1000000000):rmK l.length 1 x=x:=qp8 (by omega) (by omega) rfl
theorem xbx9 (m:Nat) (n:Int) (l:List Int) (hp:(u32Ok n&&qc6 l)=true):xbk7 m n l=some (.ret [.ref 1 0 (l++qbk n).length true 1] [none,some ⟨.ints .u8 (l++qbk n),false⟩]):=by
 simp only[zab] at hp
 have hn:=qri hp.1
 have hl:=qe4 hp.2
 have rm: ∀(a:List Int) {x:Option Out},a.length<=10->rmK (l++a).length 1 x=x:=fun a x h=>rm1 (by simp;omega)
 unfold xbk7 qbk
 simp only[qab]
 unfold qsk
 simp only[fd28,fd21,fd14,fd7,xbua,xbs5,zct,zc3,zbo]
 rcases xbd0 hn with⟨h1,h2,h3,h4⟩|⟨h1,h2,h3,h4⟩|⟨h1,h2,h3,h4⟩|⟨h1,h2,h3,h4⟩|⟨h1,h2,h3,h4⟩
 ·rw[c_z h4,c_z h3,c_z h2,c_z h1,gr1 h1,rm _ (by simp)]
 ·rw[c_z h4,c_z h3,c_z h2,c_nz h1,gr2 h1 h2,rm _ (by simp),rm _ (by simp)]
 ·rw[c_z h4,c_z h3,c_nz h2,rm _ (by simp),c_nz h1,rm _ (by simp),gr3 h2 h3,rm _ (by simp)]
 ·rw[c_z h4,c_nz h3,rm _ (by simp),c_nz h2,rm _ (by simp),c_nz h1,rm _ (by simp),gr4 h3 h4,rm _ (by simp)]
 ·rw[c_nz h4,rm _ (by simp),c_nz h3,rm _ (by simp),c_nz h2,rm _ (by simp),c_nz h1,rm _ (by simp),gr5 h4 hn,rm _ (by simp)]
theorem xb32: ∀(f g:Nat) (n:Int) (l:List Int),0<=n->n<=4294967295->n<128 ^ g->g<f->l.length+g<=100->
  qia (fun y4 y5=>some (.ret [.ref 0 0 y4 true 1] [some ⟨.ints .u8 y5,false⟩])) f n l.length l=some (.ret [.ref 0 0 (gHi g n++l).length true 1] [some ⟨.ints .u8 (gHi g n++l),false⟩])
 | 0,g,n,l,_,_,_,h,_=>by omega
 | f+1,g,n,l,h0,hb,h1,hg,hl=>by
  show qju (qia (fun y4 y5=>some (.ret [.ref 0 0 y4 true 1] [some ⟨.ints .u8 y5,false⟩])) f) (fun y4 y5=>some (.ret [.ref 0 0 y4 true 1] [some ⟨.ints .u8 y5,false⟩])) n l.length l=_
  unfold qju
  refine qae (fun h=> ?_) fun h=> ?_
  ·obtain⟨g,rfl⟩: ∃g',g=g'+1:=⟨g - 1,by
    cases g with
    | zero=>rw[Int.pow_zero] at h1;omega
    | succ g=>rfl⟩
   rw[zdu] at h1
   rw[xbab g (by omega)]
   dsimp only
   rw[zbs h0,zb5 h0,show IntKind.u32.wrap (128+n % 128)=128+n % 128 from u32_in _ (by omega),show IntKind.u32.wrap (n/ 128)=n/ 128 from u32_in _ (by omega),show IntKind.u8.wrap (128+n % 128)=128+n % 128 from u8_in _ (by omega)]
   rw[show[128+n % 128]++l=(128+n % 128)::l from rfl]
   refine qp8 (by simp;omega) (by simp;omega) ?_
   refine(xb32 f g (n/ 128) ((128+n % 128)::l) (by omega) (by omega) (by generalize (128:Int) ^ g=X at*;omega) (by omega) (by simp only[zac];omega)).trans ?_
   simp
  ·have:n=0:=by omega
   subst this
   rw[xbrx];rfl
theorem xbge (n:Int) (hp:u32Ok n=true):q4f n=some (.ret [.ref 0 0 (qbk n).length true 1] [some ⟨.ints .u8 (qbk n),false⟩]):=by
 have hn:=qri hp
 unfold q4f qbk qbc
 simp only[qab]
 rw[zbs hn.1,zb5 hn.1,show IntKind.u32.wrap (n/ 128)=n/ 128 from u32_in _ (by omega),show IntKind.u8.wrap (n % 128)=n % 128 from u8_in _ (by omega)]
 exact xb32 FUEL 5 (n/ 128) [n % 128] (by omega) (by omega) (by omega) (by unfold FUEL;omega) (by simp)
theorem xba9 (n:Int):(qbc n).length<=6:=by
 have h: ∀(f:Nat) (n:Int),(gHi f n).length<=f:=fun f=>by
  induction f with
  | zero=>intro n;simp[gHi]
  | succ f ih=>
   intro n
   unfold gHi
   split
   ·simp
   ·have:=ih (n/ 128);simp;omega
 unfold qbc
 have:=h 5 (n/ 128)
 simp;omega
theorem qp1 (n:Int):qbk n=qbc n:=qab _
abbrev bO (y:List Int):Option Out:=some (.ret [.cl (.sli .u8 y)] [])
theorem xb31 (r:List Int) (hr: ∀x∈r,0<=x/\x<=4294967295) (hl:r.length<=1000): ∀(f i:Nat) (l:List Int),i<=r.length->r.length<f+i->l.length<=6*(i+1)->
  ql0 (fun _ y=>bO y) f l.length r r.length i l=bO (l++(r.drop i).flatMap qbc)
 | 0,i,l,hi,hf,_=>by omega
 | f+1,i,l,hi,hf,hll=>by
  show qoe (ql0 (fun _ y=>bO y) f) (fun _ y=>bO y) l.length r r.length i l=_
  unfold qoe
  refine qae (fun h=> ?_) fun h=> ?_
  ·obtain⟨c,hc⟩:=qbp (b:=r) (i:=i) (by omega)
   refine qa4 (by omega) hc (qam ?_ ?_)
   ·rw[qvo (hr c (zae hc)),qf9 (by omega)];rfl
   ·have:=xba9 c
    dsimp only
    rw[qw6 (by omega),qp1,qc9 hc]
    refine(xb31 r hr hl f (i+1) (l++qbc c) (by omega) (by omega) (by simp;omega)).trans ?_
    simp
  ·rw[qd6 (by omega)];simp
theorem xb3s (o:List Int) (hr: ∀x∈o,0<=x/\x<=4294967295) (hl:o.length<=1000): ∀(f i:Nat) (l:List Int),i<=o.length->o.length<f+i->l.length<=6*(i+1)->
  qkw (fun _ y=>bO y) f o l.length i l=bO (l++(o.drop i).flatMap qbc)
 | 0,i,l,hi,hf,_=>by omega
 | f+1,i,l,hi,hf,hll=>by
  show qll (qkw (fun _ y=>bO y) f) (fun _ y=>bO y) o l.length i l=_
  unfold qll
  refine qae (fun h=> ?_) fun h=> ?_
  ·obtain⟨c,hc⟩:=qbp (b:=o) (i:=i) (by omega)
   have:=xba9 c
   refine qa4 (by omega) hc (qam (qvo (hr c (zae hc))) ?_)
   dsimp only
   rw[qw6 (by omega),qp1,qc9 hc,rm1 (by simp;omega)]
   refine(xb3s o hr hl f (i+1) (l++qbc c) (by omega) (by omega) (by simp;omega)).trans ?_
   simp
  ·rw[qd6 (by omega)];simp
theorem qq0 {o:List Int} (h:qcn o=true): ∃x y r,o=x::y::r/\r.length<=18/\x<=2/\(x<2->y<40)/\y<=4294967215:=by
 match o,h with
 | x::y::r,h=>
  simp only[qcn,zab,zbp,decide_eq_true_eq] at h
  exact⟨x,y,r,rfl,h.1,by omega,by omega,by omega⟩
theorem xbye (o:List Int) (hp:qs5 o=true):xblo o=some (.ret [.cl (.sli .u8 (qa3 o))] []):=by
 obtain⟨hl,hr⟩:=qtb hp
 unfold xblo qa3 qi7 qfl
 simp only[qab]
 cases hf:qcn o with
 | false=>rfl
 | true=>
  obtain⟨x,y,r,rfl,hr18,hx,hxy,hy⟩:=qq0 hf
  have rx:=hr x (by simp)
  have ry:=hr y (by simp)
  rw[if_pos rfl]
  refine q8j rfl (qan (by simp only[zac];omega) ?_)
  simp only[zap,zaz,zaj]
  rw[show IntKind.u32.wrap (40*x)=40*x from u32_in _ (by omega),show IntKind.u32.wrap (40*x+y)=40*x+y from u32_in _ (by omega)]
  refine qan (by simp only[zac];omega) (qam (qvo (by omega)) (qan (by simp only[zac];omega) ?_))
  rw[qp1]
  have:=xba9 (40*x+y)
  exact xb31 r (fun z hz=>hr z (by simp[hz])) (by omega) FUEL 0 _ (by omega) (by unfold FUEL;omega) (by omega)
theorem xbn8 (o:List Int) (hp:qs5 o=true):xban o=some (.ret [.cl (.sli .u8 (qa3 o))] []):=by
 obtain⟨hl,hr⟩:=qtb hp
 unfold xban qa3 qi7 qfl
 simp only[qab]
 cases hf:qcn o with
 | false=>rfl
 | true=>
  obtain⟨x,y,r,rfl,hr18,hx,hxy,hy⟩:=qq0 hf
  have rx:=hr x (by simp)
  have ry:=hr y (by simp)
  rw[if_pos rfl]
  refine q8j rfl (qan (by simp only[zac];omega) ?_)
  simp only[zap,zaz,zaj]
  rw[show IntKind.u32.wrap (40*x)=40*x from u32_in _ (by omega),show IntKind.u32.wrap (40*x+y)=40*x+y from u32_in _ (by omega)]
  refine qan (by simp only[zac];omega) (qam (qvo (by omega)) ?_)
  rw[qp1]
  have:=xba9 (40*x+y)
  exact xb3s (x::y::r) hr (by simp;omega) FUEL 2 _ (by simp) (by unfold FUEL;simp;omega) (by omega)
open IntWalk (i64_in u8_in u32_in u64_in i64_quo u8_quo rem_in)
abbrev inU (n:Int):Prop:=0<=n/\n<=4294967295
theorem xbun {n:Int} (h:inU n): ∀x∈qbc n,0<=x/\x<=255:=by
 have: ∀(f:Nat) (n:Int), ∀x∈gHi f n,0<=x/\x<=255:=fun f=>by
  induction f with
  | zero=>intro n x hx;simp[gHi] at hx
  | succ f ih=>
   intro n x hx
   unfold gHi at hx
   split at hx
   ·simp at hx
   ·rcases zao.1 hx with hx|hx
    ·exact ih _ x hx
    ·simp at hx;omega
 intro x hx
 unfold qbc at hx
 rcases zao.1 hx with hx|hx
 ·exact this _ _ x hx
 ·simp at hx;omega
def oflat:List Int->List Int
 | x::y::r=>(40*x+y)::r
 | _=>[]
theorem q6y {o:List Int} (h:qcn o=true):qfl o=(oflat o).flatMap qbc:=by
 obtain⟨x,y,r,rfl,_⟩:=qq0 h
 unfold qfl
 rw[if_pos h]
 simp[oflat]
theorem xbf1 {o:List Int} (h:qcn o=true) (hr: ∀n∈o,inU n): ∀n∈oflat o,inU n:=by
 obtain⟨x,y,r,rfl,h1,h2,h3,h4⟩:=qq0 h
 intro n hn
 have:=hr x (by simp)
 have:=hr y (by simp)
 rcases zaw.1 hn with rfl|hn
 ·exact⟨by omega,by omega⟩
 ·exact hr n (by simp[hn])
theorem xbih {o:List Int} (h:qcn o=true):(oflat o).length+1=o.length:=by
 obtain⟨x,y,r,rfl,_⟩:=qq0 h;rfl
open IntWalk (i64_in u8_in u32_in u64_in i64_quo u8_quo rem_in)
theorem xbfr {b:List Int} (h:num8 b=true):b.length<=8/\∀x∈b,0<=x/\x<=255:=by
 unfold num8 at h
 rw[qab,zab,decide_eq_true_eq,zai] at h
 exact⟨h.1,fun x hx=>qj2 (h.2 x hx)⟩
theorem xbuo {b:List Int} (h:b.length<=8) (h': ∀x∈b,0<=x/\x<=255):num8 b=true:=by
 unfold num8
 rw[qab,zab,decide_eq_true_eq,zai]
 exact⟨h,fun x hx=>decide_eq_true (h' x hx)⟩
theorem xbjd {n:Int} (h:0<=n/\n<=18446744073709551615):u64Ok n=true:=by unfold u64Ok;rw[qab];exact decide_eq_true h
theorem q3p {n:Int} (h:u64Ok n=true):0<=n/\n<=18446744073709551615:=by unfold u64Ok at h;rw[qab] at h;exact of_decide_eq_true h
abbrev xb21:Int->Option Out:=fun y=>some (.ret [.cl (.int .u64 y)] [])
theorem xbdp (b:List Int) (hb: ∀x∈b,0<=x/\x<=255) (hl:b.length<=8): ∀(f i:Nat) (n:Int),i<=b.length->b.length<f+i->0<=n->n<256 ^ i->
  qpf xb21 f n b (b.length:Int) i=some (.ret [.cl (.int .u64 ((b.drop i).foldl (fun n x=>n*256+x) n))] [])
 | 0,i,n,hi,hf,_,_=>by omega
 | f+1,i,n,hi,hf,h0,h1=>by
  show qq1 (qpf xb21 f) xb21 n b _ i=_
  unfold qq1
  refine qae (fun h=> ?_) fun h=> ?_
  ·have hh:((256:Int) ^ i)=((256 ^ i:Nat):Int):=by rw[zdo];rfl
   have h3:(256 ^ i:Nat)<=72057594037927936:=zca (zco (by omega) (show i<=7 by omega)) (by decide)
   have h2:n<72057594037927936:=by rw[hh] at h1;generalize 256 ^ i=z at*;omega
   obtain⟨x,hx⟩:=qbp (b:=b) (i:=i) (by omega)
   have hxr:=hb x (zae hx)
   refine qa4 (by omega) hx ?_
   rw[qc9 hx,zbf]
   dsimp only
   rw[show IntKind.u64.wrap (n*2 ^ 8)=n*256 from(u64_in _ (by omega)).trans (by omega),show IntKind.u64.wrap x=x from u64_in _ (by omega),xbsi h0 h2 hxr.1 hxr.2,show IntKind.u64.wrap (n*256+x)=n*256+x from u64_in _ (by omega),
    show IntKind.i64.wrap ((i:Int)+1)=((i+1:Nat):Int) from(i64_in _ (by omega)).trans (by omega)]
   exact xbdp b hb hl f (i+1) _ (by omega) (by omega) (by omega) (by rw[zdu];omega)
  ·rw[qd6 (by omega)];rfl
theorem xb04 (b:List Int) (hp:num8 b=true):xbt3 b=some (.ret [.cl (.int .u64 (qg0 b))] []):=by
 obtain⟨hl,hb⟩:=xbfr hp
 unfold xbt3 qg0
 simp only[qab]
 exact xbdp b hb hl FUEL 0 0 (by omega) (by unfold FUEL;omega) (by omega) (by decide)
theorem xb35 (x:Int):IntKind.u8.wrap x=x % 256:=by simp[IntKind.wrap,IntKind.bits,IntKind.signed]
theorem xb4e {n:Int} (h:0<=n) (k:Nat):Int.fdiv n (2 ^ k)=n/ 2 ^ k:=zbe _ (by have:(0:Int)<2 ^ k:=Int.pow_pos (by decide);omega)
theorem nVLe (n:Int) (hp:u64Ok n=true):gVLe n=some (.ret [.ref 0 0 8 true 1] [some ⟨.ints .u8 (vLe n),false⟩]):=by
 have h:=(q3p hp).1
 unfold gVLe vLe vLeC
 simp only[qab,xb35,xb4e h]
 simp only[show(2:Int) ^ 0=1 from rfl,show(2:Int) ^ 8=256 from rfl,show(2:Int) ^ 16=65536 from rfl,show(2:Int) ^ 24=16777216 from rfl,show(2:Int) ^ 32=4294967296 from rfl,show(2:Int) ^ 40=1099511627776 from rfl,
  show(2:Int) ^ 48=281474976710656 from rfl,show(2:Int) ^ 56=72057594037927936 from rfl,Int.ediv_one]
theorem xbf6 (l:List Int) (hp:xbsf l=true):xbh6 l=some (.ret [] [some ⟨.ints .u8 (vRev l),false⟩]):=by
 have h:l.length=8:=by unfold xbsf at hp;rw[qab] at hp;exact of_decide_eq_true hp
 match l,h with
 | [a0,a1,a2,a3,a4,a5,a6,a7],_=>
  unfold vRev
  rw[qab]
  rfl
theorem xbtg (n:Int):(vLe n).length=8:=by unfold vLe;rw[qab];rfl
theorem nVBe (n:Int) (hp:u64Ok n=true):gVBe n=some (.ret [.cl (.sli .u8 (vBe n))] []):=by
 unfold gVBe
 refine qam hp (qam (by unfold xbsf;rw[qab];exact decide_eq_true (xbtg n)) ?_)
 unfold vBe vRev vLe
 simp only[qab]
theorem xbks {n:Int} (h:0<=n):IntKind.u8.wrap (IntKind.u64.wrap ((BitVec.ofInt 64 n&&&BitVec.ofInt 64 255).toNat))=n % 256:=by
 have e1:((BitVec.ofInt 64 n&&&BitVec.ofInt 64 255).toNat:Int)=n % 256:=by
  rw[BitVec.toNat_and,zcm,show(BitVec.ofInt 64 255).toNat=2 ^ 8 - 1 from rfl,Nat.and_two_pow_sub_one_eq_mod]
  omega
 rw[e1,u64_in _ (by omega),xb35]
 omega
theorem xb1h (n:Int) (hp:u64Ok n=true):xbv2 n=some (.ret [.cl (.sli .u8 (vBe n))] []):=by
 have h:=(q3p hp).1
 have d: ∀ {m:Int},0<=m->Int.fdiv m (2 ^ 8)=m/ 256:=fun hm=>xb4e hm 8
 unfold xbv2 vBe vLeC
 simp only[qab,List.reverse_cons,List.reverse_nil,zbo,zc3]
 rw[d h,d (show 0<=n/ 256 by omega),d (show 0<=n/ 256/ 256 by omega),d (show 0<=n/ 256/ 256/ 256 by omega),d (show 0<=n/ 256/ 256/ 256/ 256 by omega),d (show 0<=n/ 256/ 256/ 256/ 256/ 256 by omega),
  d (show 0<=n/ 256/ 256/ 256/ 256/ 256/ 256 by omega),xbks h,xbks (show 0<=n/ 256 by omega),xbks (show 0<=n/ 256/ 256 by omega),xbks (show 0<=n/ 256/ 256/ 256 by omega),xbks (show 0<=n/ 256/ 256/ 256/ 256 by omega),
  xbks (show 0<=n/ 256/ 256/ 256/ 256/ 256 by omega),xbks (show 0<=n/ 256/ 256/ 256/ 256/ 256/ 256 by omega),xbks (show 0<=n/ 256/ 256/ 256/ 256/ 256/ 256/ 256 by omega)]
 rw[show n/ 256/ 256=n/ 65536 by omega,show n/ 65536/ 256=n/ 16777216 by omega,show n/ 16777216/ 256=n/ 4294967296 by omega,show n/ 4294967296/ 256=n/ 1099511627776 by omega,
  show n/ 1099511627776/ 256=n/ 281474976710656 by omega,show n/ 281474976710656/ 256=n/ 72057594037927936 by omega]
theorem q9v {l:List Int} (h: ∀x∈l,0<=x/\x<=255) (h8:l.length<=8):qad l=true:=qc2 (by omega) h
theorem xbtl (n:Int): ∀x∈vBe n,0<=x/\x<=255:=by
 unfold vBe vLeC
 rw[qab]
 intro x hx
 rw[List.mem_reverse] at hx
 simp only[zaw,zcz,or_false] at hx
 rcases hx with rfl|rfl|rfl|rfl|rfl|rfl|rfl|rfl<;>omega
theorem xbc1 (n:Int):(vBe n).length=8:=by unfold vBe;rw[qab];rfl
theorem xbce (a b:Int) (r:List Int):xbjw (a::b::r)=if(a=0/\b<128)\/(a=255/\128<=b) then xbjw (b::r) else a::b::r:=by
 conv=>lhs;unfold xbjw
abbrev xbiw:List Int->Option Out:=fun y=>some (.ret [.cl (.agg [.int .i64 2,.sli .u8 y,.slg 3 []])] [])
theorem xbld: ∀(f:Nat) (l:List Int),l.length<f->qqy xbiw f l=xbiw (xbjw l)
 | 0,l,h=>by omega
 | f+1,l,h=>by
  show qus (qqy xbiw f) xbiw l=_
  unfold qus
  match l,h with
  | [],_=>exact qb6 (by simp) rfl
  | [a],_=>exact qb6 (by simp) rfl
  | a::b::r,h=>
   have again:=xbld f (b::r) (by simp only[zac] at h ⊢;omega)
   generalize qqy xbiw f=ag at again ⊢
   have l1:(1:Int)<(((a::b::r).length:Nat):Int):=by simp only[zac];omega
   rw[xbce]
   refine qan l1 (qan (by omega) ?_)
   show cond (decide (a=0)) _ _=_
   refine qae (fun h0=>qan l1 ?_) fun h0=>qan (by omega) ?_
   ·show cond (decide (b<128)) _ _=_
    refine qae (fun h1=>qan (by omega) ?_) fun h1=>qan (by omega) ?_
    ·rw[if_pos (.inl ⟨h0,h1⟩)];exact again
    ·show cond (decide (a=255)) _ _=_
     rw[if_neg (by omega)]
     exact qb6 (by omega) rfl
   ·show cond (decide (a=255)) _ _=_
    refine qae (fun h1=>qan l1 ?_) fun h1=> ?_
    ·show cond (decide (128<=b)) _ _=_
     refine qae (fun h2=>qan (by omega) ?_) fun h2=> ?_
     ·rw[if_pos (.inr ⟨h1,h2⟩)];exact again
     ·rw[if_neg (by omega)]
    ·rw[if_neg (by omega)]
theorem xbzs (n:Int):IntKind.u64.wrap n=n % 18446744073709551616:=by simp[IntKind.wrap,IntKind.bits,IntKind.signed]
theorem xbkg (n:Int):vInt n=xbjw (vBe (n % 18446744073709551616)):=by unfold vInt xb36 vBe;rw[qab,qab]
theorem xb4t (n:Int) (hp:q67 n=true):xb4j n=some (.ret [.cl (.agg [.int .i64 2,.sli .u8 (vInt n),.slg 3 qb2])] []):=by
 unfold xb4j
 rw[xbzs]
 refine qam (xbjd (by omega)) ?_
 simp only[qab]
 rw[xbkg]
 unfold qb2
 rw[qab]
 exact xbld FUEL _ (by rw[xbc1];unfold FUEL;omega)
theorem xbfe {a b:Int} {r:List Int} (ha:0<=a/\a<=255) (hb:0<=b/\b<=255):(qbh 2 (a::b::r)=false)↔((a=0/\b<128)\/(a=255/\128<=b)):=by
 unfold qbh
 rw[if_neg (by decide),if_pos rfl]
 unfold qjo
 simp
 omega
theorem q9a: ∀(f:Nat) (l:List Int),l.length<f->(∀x∈l,0<=x/\x<=255)->l.length<=8->qp0 xbiw f l=xbiw (xbjw l)
 | 0,l,h,_,_=>by omega
 | f+1,l,h,hb,h8=>by
  show qq9 (qp0 xbiw f) xbiw l=_
  unfold qq9
  match l,h with
  | [],_=>exact qb6 (by simp) rfl
  | [a],_=>exact qb6 (by simp) rfl
  | a::b::r,h=>
   have again:=q9a f (b::r) (by simp only[zac] at h ⊢;omega) (fun x hx=>hb x (zba _ hx)) (by simp only[zac] at h8 ⊢;omega)
   have l1:(1:Int)<(((a::b::r).length:Nat):Int):=by simp only[zac];omega
   have key:=xbfe (r:=r) (hb a (by simp)) (hb b (by simp))
   refine qan l1 (qam (q9v hb h8) ?_)
   dsimp only
   unfold qcs
   rw[qab,xbce]
   cases hd:qbh 2 (a::b::r) with
   | false=>rw[if_pos (key.1 hd)];exact qan (by omega) again
   | true=>rw[if_neg (fun h=>by rw[key.2 h] at hd;cases hd)];rfl
theorem xb0a (n:Int) (hp:q67 n=true):xbwq n=some (.ret [.cl (.agg [.int .i64 2,.sli .u8 (vInt n),.slg 3 qb2])] []):=by
 unfold xbwq
 rw[xbzs]
 refine qam (xbjd (by omega)) ?_
 simp only[qab]
 rw[xbkg]
 unfold qb2
 rw[qab]
 exact q9a FUEL _ (by rw[xbc1];unfold FUEL;omega) (xbtl _) (by rw[xbc1];omega)
open IntWalk (i64_in u8_in u32_in u64_in i64_quo u8_quo rem_in)
theorem xb34 (n:Int):IntKind.i64.wrap n=if 9223372036854775808<=n % 18446744073709551616 then n % 18446744073709551616 - 18446744073709551616 else n % 18446744073709551616:=by
 simp[IntKind.wrap,IntKind.bits,IntKind.signed]
theorem xbm9 (h:Int) (r:List Int):qav (h::r)=h*256 ^ r.length+qav r:=by
 unfold qav
 have key: ∀(r:List Int) (a:Int),r.foldl (fun n x=>n*256+x) a=a*256 ^ r.length+r.foldl (fun n x=>n*256+x) 0:=by
  intro r
  induction r with
  | nil=>intro a;simp
  | cons x r ih=>
   intro a
   rw[zbf,zbf,show(0:Int)*256+x=x by omega,ih,ih x,zac,zdu]
   generalize (256:Int) ^ r.length=z
   generalize r.foldl (fun n x=>n*256+x) 0=y
   rw[Int.add_mul,Int.mul_assoc,zdt 256 z]
   omega
 rw[zbf,key]
 simp
theorem xbrc {b:List Int} (hb: ∀x∈b,0<=x/\x<=255) {L:Nat} (hL:b.length=L+1):0<=qav b/\qav b<256*256 ^ L/\(128<=b.headD 0↔128*256 ^ L<=qav b):=by
 cases b with
 | nil=>simp at hL
 | cons h r=>
  have h1:=hb h (by simp)
  have h2:=qrm (b:=r) fun x hx=>hb x (zba _ hx)
  have hr:r.length=L:=by simpa using hL
  rw[xbm9,hr]
  rw[hr] at h2
  have hp:(0:Int)<256 ^ L:=Int.pow_pos (by decide)
  simp only[zbw]
  generalize (256:Int) ^ L=z at*
  generalize qav r=y at*
  have m1:h*z<=255*z:=zcv h1.2 (by omega)
  have m0:0<=h*z:=Int.mul_nonneg h1.1 (by omega)
  refine⟨by omega,by omega,fun hh=> ?_,fun hh=> ?_⟩
  ·have:128*z<=h*z:=zcv hh (by omega)
   omega
  ·by_cases hc:128<=h
   ·exact hc
   ·have:h*z<=127*z:=zcv (by omega) (by omega)
    omega
theorem xbwx (b:List Int) (hb: ∀x∈b,0<=x/\x<=255) (hl:b.length<=8):Int.fdiv (IntKind.i64.wrap (IntKind.u64.wrap (qav b*2 ^ (64 - 8*b.length)))) (2 ^ (64 - 8*b.length))=xbz2 b:=by
 unfold xbz2
 by_cases h0:b=[]
 ·subst h0
  simp[qav,xbzs,xb34]
 obtain⟨L,hL⟩: ∃L,b.length=L+1:=⟨b.length - 1,by have:=List.length_pos_iff.2 h0;omega⟩
 obtain⟨h1,h2,h3⟩:=xbrc hb hL
 rw[hL] at hl ⊢
 generalize qav b=u at*
 have key: ∀(p q:Int),0<p->p*q=9223372036854775808->u<2*q->(128<=b.headD 0↔q<=u)->Int.fdiv (IntKind.i64.wrap (IntKind.u64.wrap (u*p))) p=if 128<=b.headD 0 then u - 2*q else u:=fun p q hp hpq hu hh=>by
  have hm:u*p<2*(p*q):=by
   have:u*p<2*q*p:=Int.mul_lt_mul_of_pos_right hu hp
   rw[Int.mul_assoc,zdt q p] at this
   exact this
  have h00:0<=u*p:=Int.mul_nonneg h1 (by omega)
  rw[xbzs,Int.emod_eq_of_lt h00 (by omega),xb34,Int.emod_eq_of_lt h00 (by omega)]
  by_cases hc:q<=u
  ·have hge:p*q<=u*p:=by rw[zdt p q];exact zcv hc (by omega)
   rw[if_pos (by omega),if_pos (hh.2 hc),show u*p - 18446744073709551616=(u - 2*q)*p by rw[Int.sub_mul,Int.mul_assoc,zdt q p];omega,zbe _ (by omega),Int.mul_ediv_cancel _ (by omega)]
  ·have hlt:u*p<p*q:=by rw[zdt p q];exact Int.mul_lt_mul_of_pos_right (by omega) hp
   rw[if_neg (by omega),if_neg (fun h=>hc (hh.1 h)),zbe _ (by omega),Int.mul_ediv_cancel _ (by omega)]
 have hLe:L=0\/L=1\/L=2\/L=3\/L=4\/L=5\/L=6\/L=7:=by omega
 rcases hLe with rfl|rfl|rfl|rfl|rfl|rfl|rfl|rfl
 ·exact key 72057594037927936 128 (by decide) (by decide) (by omega) (by omega)
 ·exact key 281474976710656 32768 (by decide) (by decide) (by omega) (by omega)
 ·exact key 1099511627776 8388608 (by decide) (by decide) (by omega) (by omega)
 ·exact key 4294967296 2147483648 (by decide) (by decide) (by omega) (by omega)
 ·exact key 16777216 549755813888 (by decide) (by decide) (by omega) (by omega)
 ·exact key 65536 140737488355328 (by decide) (by decide) (by omega) (by omega)
 ·exact key 256 36028797018963968 (by decide) (by decide) (by omega) (by omega)
 ·exact key 1 9223372036854775808 (by decide) (by decide) (by omega) (by omega)
theorem xbxo {a b c d:Int} (h1:a=c) (h2:b=d):some (Out.ret [.cl (.int .i64 a),.cl (.int .i64 b)] [])=some (Out.ret [.cl (.int .i64 c),.cl (.int .i64 d)] []):=by rw[h1,h2]
theorem xbqn (b:List Int) (hp:qad b=true):xbdm b=some (.ret [.cl (.int .i64 (qor b).1),.cl (.int .i64 (qor b).2)] []):=by
 obtain⟨hlen,hb⟩:=qal hp
 unfold xbdm qor q0g
 rw[qab]
 refine qae (fun h=> ?_) fun h=> ?_
 ·rw[if_pos (by omega)]
 ·rw[if_neg (by omega)]
  have e1:IntKind.i64.wrap ((8:Int)*(b.length:Int))=((8*b.length:Nat):Int):=(i64_in _ (by omega)).trans (by omega)
  have e2:IntKind.i64.wrap ((64:Int) - ((8*b.length:Nat):Int))=((64 - 8*b.length:Nat):Int):=(i64_in _ (by omega)).trans (by omega)
  dsimp only
  rw[e1,e2]
  refine qam (xbuo (by omega) hb) (qb6 (by omega) (qb6 (by omega) (xbxo ?_ rfl)))
  rw[show min ((64 - 8*b.length:Nat):Int).toNat 64=64 - 8*b.length by omega]
  unfold qg0
  rw[qab]
  exact xbwx b hb (by omega)
open IntWalk (i64_in u8_in u32_in u64_in i64_quo u8_quo rem_in)
theorem xbj0 {g:Int} {b:List Int} (hb: ∀x∈b,0<=x/\x<=255):isTf 1 [.int .i64 g,.sli .u8 b,.slg 3 []]=true:=by
 show(b.all xbln&&true)=true
 rw[Bool.and_true,zai]
 exact fun x hx=>decide_eq_true (hb x hx)
theorem xbdw {g:Int} {b:List Int} (hb: ∀x∈b,0<=x/\x<=255) (hl:b.length<=29999):isS [.int .i64 g,.sli .u8 b,.slg 3 []]=true:=
 q9h (xbj0 hb) (by unfold qdp;simp;omega)
theorem xbbo {g:Int} {b:List Int} (hb: ∀x∈b,0<=x/\x<=255) (hg:qap g=false):qz2 [.int .i64 g,.sli .u8 b,.slg 3 []]=(qa5 g&&qbh g b):=by
 rw[q0h (xbj0 hb)]
 unfold okF qai
 simp[hg]
theorem qmz {t:Int} {b:List Int} {k:List CV} (h:isS [.int .i64 t,.sli .u8 b,.slg 3 k]=true):b.length<=29999/\∀x∈b,0<=x/\x<=255:=by
 obtain⟨n,hn,hB⟩:=qdl h
 obtain⟨m,t',b',l',rfl,e,hb,_⟩:=qcx hn
 cases e
 refine⟨?_,hb⟩
 change 1+b.length+_<=30000 at hB
 omega
theorem xbke {t:Int} {b:List Int} {k:List CV} (h:isS [.int .i64 t,.sli .u8 b,.slg 3 k]=true):qad b=true:=qc2 (by have:=(qmz h).1;omega) (qmz h).2
theorem xbru {g t:Int} {b:List Int} {k:List CV} (h:t=g) (hk:k.length=0) (hd:qbh g b=false):qtt g t b k=5:=by unfold qtt;rw[if_neg (by simp[h]),if_pos (.inr hd)]
theorem xbjl {g t:Int} {b:List Int} {k:List CV} (h:t=g) (hk:k.length=0) (hd:qbh g b=true):qtt g t b k=0:=by unfold qtt;rw[if_neg (by simp[h]),if_neg (by simp[hk,hd])]
theorem q9c {g t:Int} {b:List Int} {k:List CV} (h: ¬t=g):qtt g t b k=4:=by unfold qtt;rw[if_pos h]
theorem q4e {g t:Int} {b:List Int} {k:List CV} (h:t=g) (hk:0<k.length):qtt g t b k=5:=by unfold qtt;rw[if_neg (by simp[h]),if_pos (.inl (by omega))]
theorem xbou {g t:Int} {b:List Int} {k:List CV} (h:qtt g t b k=0):t=g/\k.length=0/\qbh g b=true:=by
 unfold qtt at h
 split at h
 ·omega
 ·split at h
  ·omega
  ·rename_i h1 h2
   refine⟨by omega,by omega, ?_⟩
   cases hd:qbh g b with
   | true=>rfl
   | false=>exact absurd (.inr hd) h2
theorem xbjo {g t:Int} {b:List Int} {k:List CV} {bad:Int->Option Out} {good:Option Out} (hS:isS [.int .i64 t,.sli .u8 b,.slg 3 k]=true) (hk:qa5 g=true) (hb:qap g=false):
  cond (!decide (t=g)) (bad 4) (cond (decide ((0:Int)<(k.length:Int))) (bad 5) (cond (isS [.int .i64 g,.sli .u8 b,.slg 3 []]) (cond (!(qz2 [.int .i64 g,.sli .u8 b,.slg 3 []])) (bad 5) good) none))=if qtt g t b k=0 then good else bad (qtt g t b k):=by
 obtain⟨h1,h2⟩:=qmz hS
 refine qay (fun h=> ?_) fun h=>qae (fun h'=> ?_) fun h'=>qam (xbdw h2 h1) ?_
 ·rw[q9c h];rfl
 ·rw[q4e h (by omega)];rfl
 ·rw[xbbo h2 hb,hk,zbm]
  cases hd:qbh g b with
  | false=>rw[xbru h (by omega) hd];rfl
  | true=>rw[xbjl h (by omega) hd];rfl
theorem xbhf (t:Int) (b:List Int) (k:List CV) (hp:isS [.int .i64 t,.sli .u8 b,.slg 3 k]=true):q4g t b k=some (.ret [.cl (.int .i64 (qdm t b k).1),.cl (.int .i64 (qdm t b k).2)] []):=by
 unfold q4g
 dsimp only
 refine(xbjo (bad:=fun e=>some (.ret [.cl (.int .i64 0),.cl (.int .i64 e)] [])) hp rfl rfl).trans ?_
 unfold qdm
 rw[qab]
 by_cases h:qtt 2 t b k=0
 ·rw[if_pos h,if_pos h]
  refine qam (xbke hp) ?_
  unfold qor
  rw[qab]
 ·rw[if_neg h,if_neg h]
theorem xbx4 (t:Int) (b:List Int) (k:List CV) (hp:isS [.int .i64 t,.sli .u8 b,.slg 3 k]=true):xbi0 t b k=some (.ret [.cl (.sli .u32 (qos t b k).1),.cl (.int .i64 (qos t b k).2)] []):=by
 unfold xbi0
 dsimp only
 refine(xbjo (bad:=fun e=>some (.ret [.cl (.sli .u32 []),.cl (.int .i64 e)] [])) hp rfl rfl).trans ?_
 unfold qos
 rw[qab]
 by_cases h:qtt 6 t b k=0
 ·rw[if_pos h,if_pos h];exact qam (xbke hp) rfl
 ·rw[if_neg h,if_neg h]
theorem xbxe (t:Int) (b:List Int) (k:List CV) (hp:isS [.int .i64 t,.sli .u8 b,.slg 3 k]=true):xbsy t b k=some (.ret [.cl (.int .i64 (qdm t b k).1),.cl (.int .i64 (qdm t b k).2)] []):=qam hp rfl
theorem xb1w (t:Int) (b:List Int) (k:List CV) (hp:isS [.int .i64 t,.sli .u8 b,.slg 3 k]=true):xbzz t b k=some (.ret [.cl (.sli .u32 (qos t b k).1),.cl (.int .i64 (qos t b k).2)] []):=qam hp rfl
theorem fits4 (b:List Int):qbh 4 b=true:=rfl
theorem xbhl (t:Int) (b:List Int) (k:List CV) (hp:isS [.int .i64 t,.sli .u8 b,.slg 3 k]=true):q3l t b k=some (.ret [.cl (.sli .u8 (qba t b k).1),.cl (.int .i64 (qba t b k).2)] []):=by
 unfold q3l qba
 rw[qab]
 refine qay (fun h=> ?_) fun h=>qae (fun h'=> ?_) fun h'=>qam (qf9 (by have:=(qmz hp).1;omega)) ?_
 ·rw[q9c h];rfl
 ·rw[q4e h (by omega)];rfl
 ·rw[xbjl h (by omega) (fits4 b)];rfl
open IntWalk (i64_in u8_in u32_in u64_in i64_quo u8_quo rem_in)
abbrev W3 (c:CV):Prop:= ∃t b k,c=.agg [.int .i64 t,.sli .u8 b,.slg 3 k]/\isS [.int .i64 t,.sli .u8 b,.slg 3 k]=true
abbrev bad2:Option Out:=some (.ret [.cl (.agg [.int .i64 0,.sli .u8 [],.slg 3 []]),.cl (.int .i64 1)] [])
open IntWalk (i64_in u8_in u32_in u64_in i64_quo u8_quo rem_in)
theorem qdf:qb2=[]:=qab _
theorem xb17:vInt 1=[1]:=by unfold vInt;rw[qab];rfl
open IntWalk (i64_in u8_in u32_in u64_in i64_quo u8_quo rem_in)
theorem qui {g:Int} {b:List Int} (h:qrg g b=true):(g=12\/g=6\/g=24)/\b.length<=2000/\∀x∈b,0<=x/\x<=255:=by
 unfold qrg at h
 rw[qab,zab,decide_eq_true_eq,zai] at h
 exact⟨h.1.1,h.1.2,fun x hx=>qj2 (h.2 x hx)⟩
theorem xbf9 {g:Int} {b:List Int} (h:g=12\/g=6\/g=24) (h':b.length<=2000) (hb: ∀x∈b,0<=x/\x<=255):qrg g b=true:=by
 unfold qrg
 rw[qab,zab,decide_eq_true_eq,zai]
 exact⟨⟨h,h'⟩,fun x hx=>decide_eq_true (hb x hx)⟩
theorem xbah {g:Int} {b:List Int} (h:qbh g b=true):qfq g b=(g,b,0):=by unfold qfq xbg2;rw[qab,if_pos h]
theorem q96 {g:Int} {b:List Int} (h:qbh g b=false):qfq g b=(0,[],5):=by unfold qfq xbg2;rw[qab,if_neg (by rw[h];simp)]
theorem xb1f (g:Int) (b:List Int) (hp:qrg g b=true):xbv4 g b=some (.ret [.cl (.agg [.int .i64 (qfq g b).1,.sli .u8 (qfq g b).2.1,.slg 3 qb2]),.cl (.int .i64 (qfq g b).2.2)] []):=by
 obtain⟨hg,hl,hb⟩:=qui hp
 have hk:qa5 g=true/\qap g=false:=by rcases hg with rfl|rfl|rfl<;>exact⟨rfl,rfl⟩
 unfold xbv4
 refine qam (xbdw hb (by omega)) ?_
 rw[xbbo hb hk.2,hk.1,zbm,qdf]
 cases hd:qbh g b with
 | false=>rw[q96 hd];rfl
 | true=>rw[xbah hd];rfl
theorem xbtj (g:Int) (b:List Int) (hp:qrg g b=true):xbk8 g b=some (.ret [.cl (.agg [.int .i64 (qfq g b).1,.sli .u8 (qfq g b).2.1,.slg 3 qb2]),.cl (.int .i64 (qfq g b).2.2)] []):=by
 obtain⟨hg,hl,hb⟩:=qui hp
 unfold xbk8 qcs
 rw[qab,qdf]
 refine qam (qc2 (by omega) hb) ?_
 cases hd:qbh g b with
 | false=>rw[q96 hd];rfl
 | true=>rw[xbah hd];rfl
theorem q5d {o:List Int} (h:idOk o=true):o.length<=50/\∀n∈o,inU n:=by
 unfold idOk at h
 rw[qab,zab,decide_eq_true_eq,zai] at h
 exact⟨h.1,fun x hx=>of_decide_eq_true (h.2 x hx)⟩
theorem q5x {o:List Int} (h:o.length<=50) (h': ∀n∈o,inU n):idOk o=true:=by
 unfold idOk
 rw[qab,zab,decide_eq_true_eq,zai]
 exact⟨h,fun x hx=>decide_eq_true (h' x hx)⟩
theorem xbv1 {o:List Int} (h:idOk o=true):qs5 o=true:=by
 obtain⟨h1,h2⟩:=q5d h
 unfold qs5
 rw[qab,zab,decide_eq_true_eq,zai]
 exact⟨by omega,fun x hx=>decide_eq_true (h2 x hx)⟩
theorem xbo9 {o:List Int} (h:qcn o=true):2<=o.length/\o.length<=20:=by
 unfold qcn at h
 split at h
 ·simp at h
  simp
  omega
 ·cases h
theorem xbf3 {o:List Int} (hr: ∀n∈o,inU n):(qa3 o).length<=2000/\∀x∈qa3 o,0<=x/\x<=255:=by
 rw[show qa3 o=qfl o from qab _]
 by_cases h:qcn o=true
 ·rw[q6y h]
  have hl:=xbih h
  have hf:=xbo9 h
  have hg: ∀(l:List Int),(l.flatMap qbc).length<=6*l.length:=fun l=>by
   induction l with
   | nil=>simp
   | cons a l ih=>have:=xba9 a;simp at*;omega
  have:=hg (oflat o)
  refine⟨by omega,fun x hx=> ?_⟩
  obtain⟨n,hn,hx⟩:=zbt.1 hx
  exact xbun (xbf1 h hr n hn) x hx
 ·unfold qfl
  rw[if_neg h]
  exact⟨by simp,by simp⟩
theorem xbkx {o:List Int} (h:idOk o=true):qrg 6 (qa3 o)=true:=
 let ⟨h1,h2⟩:=xbf3 (q5d h).2
 xbf9 (.inr (.inl rfl)) h1 h2
theorem nVId (o:List Int) (hp:idOk o=true):gVId o=some (.ret [.cl (.agg [.int .i64 (qfq 6 (qa3 o)).1,.sli .u8 (qfq 6 (qa3 o)).2.1,.slg 3 qb2]),.cl (.int .i64 (qfq 6 (qa3 o)).2.2)] []):=qam (xbv1 hp) (qam (xbkx hp) rfl)
theorem xb44 (o:List Int) (hp:idOk o=true):xb5b o=some (.ret [.cl (.agg [.int .i64 (qfq 6 (qa3 o)).1,.sli .u8 (qfq 6 (qa3 o)).2.1,.slg 3 qb2]),.cl (.int .i64 (qfq 6 (qa3 o)).2.2)] []):=qam (xbv1 hp) (qam (xbkx hp) rfl)
theorem xbr9 (b:List Int) (hp:qc6 b=true):xbwi b=some (.ret [.cl (.agg [.int .i64 4,.sli .u8 b,.slg 3 qb2])] []):=by rw[qdf];exact qam hp rfl
theorem xbod (b:List Int) (hp:qc6 b=true):xbpu b=some (.ret [.cl (.agg [.int .i64 4,.sli .u8 b,.slg 3 qb2])] []):=by rw[qdf];rfl
open IntWalk (i64_in u8_in u32_in u64_in i64_quo u8_quo rem_in)
theorem q6m {l:List CV} (h:qbl l=true):l.length<=100000000:=by unfold qbl at h;rw[qab] at h;exact of_decide_eq_true h
theorem qmk {l:List CV} (h:l.length<=100000000):qbl l=true:=by unfold qbl;rw[qab];exact decide_eq_true h
theorem qbo:qa0=[]:=qab _
theorem xbv9 (l:List CV) (hp:qbl l=true):xbkd l=some (.ret [.cl (.slg 3 l)] []):=by
 have hp:=q6m hp
 unfold xbkd
 simp only[zbo]
 refine qcz (fun h=> ?_) fun h=> ?_
 ·have h:=zat (qaf.1 h)
  subst h
  unfold xbp3
  rw[if_pos (Eq.symm (qp8 (by simp) (by simp) rfl))]
 ·exact qp8 (by omega) (by omega) rfl
theorem xb4v (l:List CV) (hp:qbl l=true):xb4p l=some (.ret [.cl (.agg [.int .i64 48,.sli .u8 qa0,.slg 3 l])] []):=by rw[qbo];exact qam hp rfl
theorem xb2c (l:List CV) (hp:qbl l=true):xb1o l=some (.ret [.cl (.agg [.int .i64 48,.sli .u8 qa0,.slg 3 l])] []):=by rw[qbo];rfl
theorem q52 {g:Int} {l:List CV} (h:0<=g/\g<=30):vBox g l=(160+g,l,0):=by unfold vBox xbzy;rw[qab,if_pos h]
theorem q4d {g:Int} {l:List CV} (h: ¬(0<=g/\g<=30)):vBox g l=(0,[],8):=by unfold vBox xbzy;rw[qab,if_neg h]
theorem xb5q (g:Int) (l:List CV) (hp:qbl l=true):xb4a g l=some (.ret [.cl (.agg [.int .i64 (vBox g l).1,.sli .u8 qa0,.slg 3 (vBox g l).2.1]),.cl (.int .i64 (vBox g l).2.2)] []):=by
 unfold xb4a
 rw[qbo]
 refine qae (fun h=> ?_) fun h=>qae (fun h'=> ?_) fun h'=> ?_
 ·rw[q4d (by omega)]
 ·rw[q4d (by omega)]
 ·rw[q52 (by omega),show IntKind.i64.wrap ((160:Int)+g)=160+g from i64_in _ (by omega)]
  exact qam hp rfl
theorem xb0w (g:Int) (l:List CV) (hp:qbl l=true):xbt7 g l=some (.ret [.cl (.agg [.int .i64 (vBox g l).1,.sli .u8 qa0,.slg 3 (vBox g l).2.1]),.cl (.int .i64 (vBox g l).2.2)] []):=by
 unfold xbt7
 rw[qbo]
 refine qae (fun h=> ?_) fun h=>qae (fun h'=> ?_) fun h'=> ?_
 ·rw[q4d (by omega)]
 ·rw[q4d (by omega)]
 ·rw[q52 (by omega),show IntKind.i64.wrap ((160:Int)+g)=160+g from i64_in _ (by omega)]
theorem xbgo {g t:Int} {b:List Int} {k:List CV} (h: ¬t=g):qb4 g t b k=([],4):=by unfold qb4 q2g;rw[qab,if_pos (.inl h)]
theorem xbg7 {g t:Int} {b:List Int} {k:List CV} (h:qap g=false):qb4 g t b k=([],4):=by unfold qb4 q2g;rw[qab,if_pos (.inr h)]
theorem xbwn {g t:Int} {b:List Int} {k:List CV} (h:t=g) (hb:qap g=true) (hl:b.length≠0):qb4 g t b k=([],5):=by
 unfold qb4 q2g;rw[qab,if_neg (by rw[hb];rintro(e|e);exact e h;cases e),if_pos hl]
theorem xbys {g t:Int} {b:List Int} {k:List CV} (h:t=g) (hb:qap g=true) (hl: ¬b.length≠0):qb4 g t b k=(k,0):=by
 unfold qb4 q2g;rw[qab,if_neg (by rw[hb];rintro(e|e);exact e h;cases e),if_neg hl]
theorem xbti {g t:Int} {b:List Int} {k:List CV} {bad:Int->Option Out} {good:Option Out}:
  cond (!decide (t=g)) (bad 4) (cond (!qbj g) (bad 4) (cond (decide ((0:Int)<(b.length:Int))) (bad 5) good))=if(qb4 g t b k).2=0 then good else bad (qb4 g t b k).2:=by
 unfold qbj
 rw[qab]
 refine qay (fun h=> ?_) fun h=> ?_
 ·rw[xbgo h];rfl
 ·cases hb:qap g with
  | false=>rw[xbg7 hb];rfl
  | true=>
   refine(qae (fun h'=> ?_) fun h'=> ?_:cond (decide ((0:Int)<(b.length:Int))) (bad 5) good=_)
   ·rw[xbwn h hb (by omega)];rfl
   ·rw[xbys h hb (by omega)];rfl
theorem qlf {g t:Int} {b:List Int} {k:List CV} (h:(qb4 g t b k).2=0):(qb4 g t b k).1=k:=by
 unfold qb4 q2g at h ⊢
 simp only[qab] at h ⊢
 split at h
 ·simp at h
 ·split at h
  ·simp at h
  ·rename_i h1 h2;rw[if_neg h1,if_neg h2]
theorem q2c {g t:Int} {b:List Int} {k:List CV} (h: ¬(qb4 g t b k).2=0):(qb4 g t b k).1=[]:=by
 unfold qb4 q2g at h ⊢
 simp only[qab] at h ⊢
 split
 ·rfl
 ·split
  ·rfl
  ·rename_i h1 h2;rw[if_neg h1,if_neg h2] at h;simp at h
theorem xb0g (t:Int) (b:List Int) (k:List CV) (g:Int) (hp:qbl k=true):xbyi t b k g=some (.ret [.cl (.slg 3 (qb4 g t b k).1),.cl (.int .i64 (qb4 g t b k).2)] []):=by
 unfold xbyi
 refine(xbti (k:=k) (bad:=fun e=>some (.ret [.cl (.slg 3 []),.cl (.int .i64 e)] []))).trans ?_
 by_cases h:(qb4 g t b k).2=0
 ·rw[if_pos h,qlf h,h];exact qam hp rfl
 ·rw[if_neg h,q2c h]
theorem qhu {α:Type} {l:List α} {i:Nat} {x:α} (h:l[i]? =some x):l.drop i=x::l.drop (i+1):=by
 obtain⟨hi,e⟩:=zad.1 h
 rw[zbx hi,e]
open IntWalk (i64_in u8_in u32_in u64_in i64_quo u8_quo rem_in)
theorem xbn1 {t:Int} {b:List Int} {k:List CV} (h:isN [.int .i64 t,.sli .u8 b,.slg 3 k]=true):k.length<=100000000/\∀c∈k, ∃y,c=.agg y/\isN y=true:=by
 obtain⟨n,hn⟩:=xbmn h
 obtain⟨_,_,_,_,_,e,h1,h2,h3⟩:=xb3i hn
 cases e
 exact⟨h2,fun c hc=>by obtain⟨y,e,hy⟩:=h3 c hc;exact⟨y,e,xbzd hy⟩⟩
open IntWalk (i64_in u8_in u32_in u64_in i64_quo u8_quo rem_in)
theorem xbw1: ∀ {k m:Nat} {y:List CV},isTf k y=true->k<=m->isTf m y=true
 | k,m,y,hy,hkm=>by
  obtain⟨k',t,b,l,rfl,rfl,hb,hl⟩:=qcx hy
  obtain⟨m,rfl⟩: ∃q,m=q+1:=⟨m - 1,by omega⟩
  refine xbs7 hb fun c hc=> ?_
  obtain⟨z,rfl,hz⟩:=hl c hc
  exact⟨z,rfl,xbw1 hz (by omega)⟩
open IntWalk (i64_in u8_in u32_in u64_in i64_quo u8_quo rem_in)
open IntWalk (i64_in u8_in u32_in u64_in i64_quo u8_quo rem_in)
theorem xbdt {P:Int->Prop} {lo:Int} {m:Nat} (h: ∀n:Nat,n<m->P ((n:Int)+lo)) {g:Int} (h1:lo<=g) (h2:g<lo+m):P g:=by
 have:=h (g - lo).toNat (by omega)
 rwa [show(((g - lo).toNat:Nat):Int)+lo=g by omega] at this
theorem q3b: ∀e∈qgz,(1<=e.1/\e.1<=93)/\(e.2.2.length<=10/\∀x∈e.2.2,0<=x/\x<=4294967295):=by decide+kernel
theorem q3w {g:Int} (h: ¬(1<=g/\g<=93)):qat g=(0,0,[]):=by
 unfold qat
 rw[List.find?_eq_none.2 fun e he=> ?_]
 ·rfl
 ·have:=(q3b e he).1
  simp
  omega
theorem q4l (g:Int):qat g=(0,0,[])\/(qat g∈qgz/\(qat g).1=g):=by
 unfold qat
 cases h:qgz.find? fun e=>decide (e.1=g) with
 | none=>exact .inl rfl
 | some e=>exact .inr ⟨List.mem_of_find?_eq_some h,by have:=List.find?_some h;simpa using this⟩
theorem qvm (g:Int):(qat g).2.2.length<=10/\∀x∈(qat g).2.2,inU x:=by
 rcases q4l g with h|h
 ·rw[h];exact⟨by simp,by simp⟩
 ·exact(q3b _ h.1).2
theorem qlg (g:Int):qa6 g=qat g:=qab _
abbrev rowE (e:Int×Int×List Int):List CV:=[.agg [.int .i64 e.1,.int .i64 e.2.1,.sli .u32 e.2.2]]
theorem q4a:qou=qgz.map rowE:=qab _
theorem xbj9:List.all qou ql9=true:=by
 rw[q4a]
 kernel_rfl
theorem xbn5 (hp:true=true):xbmy=some (.ret [.ref 0 0 8 true 1] [some ⟨.ints .u32 [2,16,840,1,101,3,4,2],false⟩]):=rfl
theorem xbn4 (hp:true=true):xbq4=some (.ret [.ref 0 0 8 true 1] [some ⟨.ints .u32 [2,16,840,1,101,3,4,3],false⟩]):=rfl
theorem xbpc (hp:true=true):xbpw=some (.ret [.ref 0 0 8 true 1] [some ⟨.ints .u32 [2,16,840,1,101,3,4,4],false⟩]):=rfl
theorem xbp0 (hp:true=true):xbp1=some (.ret [.ref 0 0 8 true 1] [some ⟨.ints .u32 [2,16,840,1,101,3,4,1],false⟩]):=rfl
theorem xbql (hp:true=true):xbok=some (.ret [.ref 0 0 8 true 1] [some ⟨.ints .u32 [1,2,840,113549,1,9,16,3],false⟩]):=rfl
theorem xbm2 (hp:true=true):xbo4=some (.ret [.ref 0 0 2 true 1] [some ⟨.ints .u32 [2,999],false⟩]):=rfl
theorem qa8 {l:Nat} {x:List CV} {f t:Option Out} {rf:Out} {r:List (List CV)} (hf:f=some rf) (hr: ∃out,t=some out/\Hands out (some r)) (h0:Hands rf none): ∃out,cond (Nat.beq l l) (yldO x f t) none=some out/\Hands out (some (x::r)):=by
 obtain⟨rt,h1,h2⟩:=hr
 rw[zbb,hf,h1]
 exact⟨_,rfl,rfl,h0,h2⟩
theorem xb00 (l:Nat) (hp:true=true): ∃out,xbnh l=some out/\Hands out (some qou):=by
 rw[q4a]
 unfold xbnh
 show ∃out,_=some out/\Hands out (some [_,_,_,_,_,_,_,_,_,_,_,_,_,_,_,_,_,_,_,_,_,_,_,_,_,_,_,_,_,_,_,_,_,_,_,_,_,_,_,_])
 exact qa8 rfl (qa8 rfl (qa8 rfl (qa8 rfl (qa8 rfl (qa8 rfl (qa8 rfl (qa8 rfl (qa8 rfl (qa8 rfl (qa8 rfl (qa8 rfl (qa8 rfl (qa8 rfl (qa8 rfl (qa8 rfl (qa8 rfl (qa8 rfl (qa8 rfl (qa8 rfl (qa8 rfl (qa8 rfl (qa8 rfl (qa8 rfl (qa8 rfl (qa8 rfl (qa8 rfl (qa8 rfl (qa8 rfl (qa8 rfl (qa8 rfl (qa8 rfl (qa8 rfl (qa8 rfl (qa8 rfl (qa8 rfl (qa8 rfl (qa8 rfl (qa8 rfl (qa8 rfl (⟨_,rfl,.inl rfl⟩) (.inr rfl)) (.inr rfl)) (.inr rfl)) (.inr rfl)) (.inr rfl)) (.inr rfl)) (.inr rfl)) (.inr rfl)) (.inr rfl)) (.inr rfl)) (.inr rfl)) (.inr rfl)) (.inr rfl)) (.inr rfl)) (.inr rfl)) (.inr rfl)) (.inr rfl)) (.inr rfl)) (.inr rfl)) (.inr rfl)) (.inr rfl)) (.inr rfl)) (.inr rfl)) (.inr rfl)) (.inr rfl)) (.inr rfl)) (.inr rfl)) (.inr rfl)) (.inr rfl)) (.inr rfl)) (.inr rfl)) (.inr rfl)) (.inr rfl)) (.inr rfl)) (.inr rfl)) (.inr rfl)) (.inr rfl)) (.inr rfl)) (.inr rfl)) (.inr rfl)
theorem xbe5 (k0:Int->Int->Int->List Int->Option Out) (k1:Int->Option Out) (g:Int): ∀L:List (Int×Int×List Int),qhx k0 k1 (L.map rowE) g=(match L.find? fun e=>decide (e.1=g) with|some e=>k0 g e.1 e.2.1 e.2.2|none=>k1 g)
 | []=>rfl
 | e::r=>by
  show cond (decide (e.1=g)) (k0 g e.1 e.2.1 e.2.2) (qhx k0 k1 (r.map rowE) g)=_
  rw[List.find?_cons]
  cases decide (e.1=g) with
  | true=>rfl
  | false=>exact xbe5 k0 k1 g r
theorem xbxu (g:Int) (hp:true=true):q9z g=some (.ret [.cl (.agg [.int .i64 (qa6 g).1,.int .i64 (qa6 g).2.1,.sli .u32 (qa6 g).2.2])] []):=by
 unfold q9z
 refine qam xbj9 ?_
 rw[qab,q4a,xbe5,qlg]
 unfold qat
 cases qgz.find? fun e=>decide (e.1=g)<;>rfl
theorem xb3y (k0:List Int->Int->Option Out) (k1:List Int->Option Out) (o:List Int): ∀L:List (Int×Int×List Int),(∀e∈L,e.2.2.length<=10)->qtv k0 k1 (L.map rowE) o=(match L.find? fun e=>decide (e.2.2=o) with|some e=>k0 o e.1|none=>k1 o)
 | [],_=>rfl
 | e::r,h=>by
  show cond (qc6 e.2.2) (cond (qcj e.2.2 o) (k0 o e.1) (qtv k0 k1 (r.map rowE) o)) none=_
  refine qam (qf9 (by have:=h e (by simp);omega)) ?_
  have hs:qcj e.2.2 o=decide (e.2.2=o):=by unfold qcj qm9;rw[qab]
  rw[List.find?_cons,hs]
  cases decide (e.2.2=o) with
  | true=>rfl
  | false=>exact xb3y k0 k1 o r fun e he=>h e (by simp[he])
theorem nAOf (o:List Int) (hp:true=true):gAOf o=some (.ret [.cl (.int .i64 (qz5 o))] []):=by
 unfold gAOf
 refine qam xbj9 ?_
 rw[qab,q4a,xb3y _ _ _ _ fun e he=>(q3b e he).2.1]
 unfold qz5 xbuq
 rw[qab]
 cases qgz.find? fun e=>decide (e.2.2=o)<;>rfl
theorem xb43 (hp:true=true):xb5n=some (.ret [.cl (.fn (.func 175) [] [])] []):=rfl
theorem xbwm (g:Int) (hp:true=true):xbvp g=some (.ret [.cl (.int .i64 (qa6 g).2.1)] []):=rfl
theorem nAId (g:Int) (hp:true=true):gAId g=some (.ret [.cl (.sli .u32 (qa6 g).2.2)] []):=rfl
theorem xba0: ∀n:Nat,n<93->qr4 ((n:Int)+1)=some (.ret [.cl (.int .i64 ((qa6 ((n:Int)+1)).2.1))] []):=by
 intro n hn
 unfold qr4 qhd qe2 qg8 qa6
 simp only[qab]
 exact match n,hn with
 | 0,_=>by kernel_rfl
 | 1,_=>by kernel_rfl
 | 2,_=>by kernel_rfl
 | 3,_=>by kernel_rfl
 | 4,_=>by kernel_rfl
 | 5,_=>by kernel_rfl
 | 6,_=>by kernel_rfl
 | 7,_=>by kernel_rfl
 | 8,_=>by kernel_rfl
 | 9,_=>by kernel_rfl
 | 10,_=>by kernel_rfl
 | 11,_=>by kernel_rfl
 | 12,_=>by kernel_rfl
 | 13,_=>by kernel_rfl
 | 14,_=>by kernel_rfl
 | 15,_=>by kernel_rfl
 | 16,_=>by kernel_rfl
 | 17,_=>by kernel_rfl
 | 18,_=>by kernel_rfl
 | 19,_=>by kernel_rfl
 | 20,_=>by kernel_rfl
 | 21,_=>by kernel_rfl
 | 22,_=>by kernel_rfl
 | 23,_=>by kernel_rfl
 | 24,_=>by kernel_rfl
 | 25,_=>by kernel_rfl
 | 26,_=>by kernel_rfl
 | 27,_=>by kernel_rfl
 | 28,_=>by kernel_rfl
 | 29,_=>by kernel_rfl
 | 30,_=>by kernel_rfl
 | 31,_=>by kernel_rfl
 | 32,_=>by kernel_rfl
 | 33,_=>by kernel_rfl
 | 34,_=>by kernel_rfl
 | 35,_=>by kernel_rfl
 | 36,_=>by kernel_rfl
 | 37,_=>by kernel_rfl
 | 38,_=>by kernel_rfl
 | 39,_=>by kernel_rfl
 | 40,_=>by kernel_rfl
 | 41,_=>by kernel_rfl
 | 42,_=>by kernel_rfl
 | 43,_=>by kernel_rfl
 | 44,_=>by kernel_rfl
 | 45,_=>by kernel_rfl
 | 46,_=>by kernel_rfl
 | 47,_=>by kernel_rfl
 | 48,_=>by kernel_rfl
 | 49,_=>by kernel_rfl
 | 50,_=>by kernel_rfl
 | 51,_=>by kernel_rfl
 | 52,_=>by kernel_rfl
 | 53,_=>by kernel_rfl
 | 54,_=>by kernel_rfl
 | 55,_=>by kernel_rfl
 | 56,_=>by kernel_rfl
 | 57,_=>by kernel_rfl
 | 58,_=>by kernel_rfl
 | 59,_=>by kernel_rfl
 | 60,_=>by kernel_rfl
 | 61,_=>by kernel_rfl
 | 62,_=>by kernel_rfl
 | 63,_=>by kernel_rfl
 | 64,_=>by kernel_rfl
 | 65,_=>by kernel_rfl
 | 66,_=>by kernel_rfl
 | 67,_=>by kernel_rfl
 | 68,_=>by kernel_rfl
 | 69,_=>by kernel_rfl
 | 70,_=>by kernel_rfl
 | 71,_=>by kernel_rfl
 | 72,_=>by kernel_rfl
 | 73,_=>by kernel_rfl
 | 74,_=>by kernel_rfl
 | 75,_=>by kernel_rfl
 | 76,_=>by kernel_rfl
 | 77,_=>by kernel_rfl
 | 78,_=>by kernel_rfl
 | 79,_=>by kernel_rfl
 | 80,_=>by kernel_rfl
 | 81,_=>by kernel_rfl
 | 82,_=>by kernel_rfl
 | 83,_=>by kernel_rfl
 | 84,_=>by kernel_rfl
 | 85,_=>by kernel_rfl
 | 86,_=>by kernel_rfl
 | 87,_=>by kernel_rfl
 | 88,_=>by kernel_rfl
 | 89,_=>by kernel_rfl
 | 90,_=>by kernel_rfl
 | 91,_=>by kernel_rfl
 | 92,_=>by kernel_rfl
 | n+93,h=>absurd h (by omega)
theorem xbo6 (g:Int) (hp:true=true):qr4 g=some (.ret [.cl (.int .i64 ((qa6 g).2.1))] []):=by
 by_cases hg:1<=g/\g<1+93
 ·exact xbdt (P:=fun g=>qr4 g=some (.ret [.cl (.int .i64 ((qa6 g).2.1))] [])) xba0 hg.1 hg.2
 ·have ho:=q3w (g:=g) (by omega)
  unfold qr4 qhd qe2 qg8
  rw[qlg,ho]
  simp only[qab]
  rcases(show g<1\/93<g by omega) with h|h<;>(repeat' (first|rfl|(refine qb6 (by omega) ?_)|(refine qan (by omega) ?_)))
theorem xbtf: ∀n:Nat,n<93->xbtn ((n:Int)+1)=some (.ret [.cl (.sli .u32 (qa6 ((n:Int)+1)).2.2)] []):=by
 intro n hn
 unfold xbtn qa6 qiy qty qc6
 simp only[qab]
 exact match n,hn with
 | 0,_=>by kernel_rfl
 | 1,_=>by kernel_rfl
 | 2,_=>by kernel_rfl
 | 3,_=>by kernel_rfl
 | 4,_=>by kernel_rfl
 | 5,_=>by kernel_rfl
 | 6,_=>by kernel_rfl
 | 7,_=>by kernel_rfl
 | 8,_=>by kernel_rfl
 | 9,_=>by kernel_rfl
 | 10,_=>by kernel_rfl
 | 11,_=>by kernel_rfl
 | 12,_=>by kernel_rfl
 | 13,_=>by kernel_rfl
 | 14,_=>by kernel_rfl
 | 15,_=>by kernel_rfl
 | 16,_=>by kernel_rfl
 | 17,_=>by kernel_rfl
 | 18,_=>by kernel_rfl
 | 19,_=>by kernel_rfl
 | 20,_=>by kernel_rfl
 | 21,_=>by kernel_rfl
 | 22,_=>by kernel_rfl
 | 23,_=>by kernel_rfl
 | 24,_=>by kernel_rfl
 | 25,_=>by kernel_rfl
 | 26,_=>by kernel_rfl
 | 27,_=>by kernel_rfl
 | 28,_=>by kernel_rfl
 | 29,_=>by kernel_rfl
 | 30,_=>by kernel_rfl
 | 31,_=>by kernel_rfl
 | 32,_=>by kernel_rfl
 | 33,_=>by kernel_rfl
 | 34,_=>by kernel_rfl
 | 35,_=>by kernel_rfl
 | 36,_=>by kernel_rfl
 | 37,_=>by kernel_rfl
 | 38,_=>by kernel_rfl
 | 39,_=>by kernel_rfl
 | 40,_=>by kernel_rfl
 | 41,_=>by kernel_rfl
 | 42,_=>by kernel_rfl
 | 43,_=>by kernel_rfl
 | 44,_=>by kernel_rfl
 | 45,_=>by kernel_rfl
 | 46,_=>by kernel_rfl
 | 47,_=>by kernel_rfl
 | 48,_=>by kernel_rfl
 | 49,_=>by kernel_rfl
 | 50,_=>by kernel_rfl
 | 51,_=>by kernel_rfl
 | 52,_=>by kernel_rfl
 | 53,_=>by kernel_rfl
 | 54,_=>by kernel_rfl
 | 55,_=>by kernel_rfl
 | 56,_=>by kernel_rfl
 | 57,_=>by kernel_rfl
 | 58,_=>by kernel_rfl
 | 59,_=>by kernel_rfl
 | 60,_=>by kernel_rfl
 | 61,_=>by kernel_rfl
 | 62,_=>by kernel_rfl
 | 63,_=>by kernel_rfl
 | 64,_=>by kernel_rfl
 | 65,_=>by kernel_rfl
 | 66,_=>by kernel_rfl
 | 67,_=>by kernel_rfl
 | 68,_=>by kernel_rfl
 | 69,_=>by kernel_rfl
 | 70,_=>by kernel_rfl
 | 71,_=>by kernel_rfl
 | 72,_=>by kernel_rfl
 | 73,_=>by kernel_rfl
 | 74,_=>by kernel_rfl
 | 75,_=>by kernel_rfl
 | 76,_=>by kernel_rfl
 | 77,_=>by kernel_rfl
 | 78,_=>by kernel_rfl
 | 79,_=>by kernel_rfl
 | 80,_=>by kernel_rfl
 | 81,_=>by kernel_rfl
 | 82,_=>by kernel_rfl
 | 83,_=>by kernel_rfl
 | 84,_=>by kernel_rfl
 | 85,_=>by kernel_rfl
 | 86,_=>by kernel_rfl
 | 87,_=>by kernel_rfl
 | 88,_=>by kernel_rfl
 | 89,_=>by kernel_rfl
 | 90,_=>by kernel_rfl
 | 91,_=>by kernel_rfl
 | 92,_=>by kernel_rfl
 | n+93,h=>absurd h (by omega)
theorem xb5k (g:Int) (hp:true=true):xbtn g=some (.ret [.cl (.sli .u32 (qa6 g).2.2)] []):=by
 by_cases hg:1<=g/\g<1+93
 ·exact xbdt (P:=fun g=>xbtn g=some (.ret [.cl (.sli .u32 (qa6 g).2.2)] [])) xbtf hg.1 hg.2
 ·have ho:=q3w (g:=g) (by omega)
  unfold xbtn
  rw[qlg,ho]
  repeat' (first|rfl|(refine qb6 (by omega) ?_)|(refine qan (by omega) ?_))
open IntWalk (i64_in u8_in u32_in u64_in i64_quo u8_quo rem_in)
theorem xbym (g h:Int) (hp:true=true):xbwd g h=some (.ret [.cl (.sli .u32 (qiy g h))] []):=by unfold qiy;rw[qab];rfl
theorem xbxa (o:List Int) (hp:qc6 o=true):xbj5 o=some (.ret [.cl (.sli .u32 (qty o))] []):=by
 have:=qe4 hp
 unfold xbj5 qty
 rw[qab]
 exact qp8 (by simp;omega) (by simp;omega) rfl
theorem xb0e (g:Int) (hp:true=true):xbzj g=some (.ret [.cl (.int .i64 (qi0 g))] []):=by
 unfold xbzj qi0 qg6
 rw[qab]
 refine qae (fun h=> ?_) fun h=>qae (fun h'=> ?_) fun h'=> ?_
 ·rw[if_pos h]
 ·rw[if_neg h,if_pos h']
 ·rw[if_neg h,if_neg h']
theorem xb3n (g:Int) (b:List Int) (hp:qc6 b=true):xbvo g b=some (.ret [.cl (.agg [.int .i64 (qbt g b).1,.sli .u8 qa0,.slg 3 (qbt g b).2.1]),.cl (.int .i64 (qbt g b).2.2)] []):=by
 obtain⟨i1,i2⟩:=qvm g
 have hid:idOk (qat g).2.2=true:=q5x (by omega) i2
 have h16:q67 16=true:=by decide
 unfold xbvo qbt qi0
 rw[qlg]
 simp only[qab,qdf,qbo]
 unfold qh3
 refine qae (fun h=> ?_) fun h=>qay (fun h'=> ?_) fun h'=> ?_
 ·rw[if_pos h]
 ·rw[if_neg h,if_pos h']
 ·rw[if_neg h,if_neg (by simp[h'])]
  refine qam hid ?_
  refine qae (fun h6=> ?_) fun h6=>qae (fun h7=> ?_) fun h7=> ?_
  ·rw[if_pos h6]
   exact qam hp (qam (qmk (by simp)) rfl)
  ·rw[if_neg h6,if_pos h7]
   exact qam hp (qam h16 (qam (qmk (by simp)) (qam (qmk (by simp)) rfl)))
  ·rw[if_neg h6,if_neg h7]
   exact qam (qmk (by simp)) rfl
open IntWalk (i64_in u8_in u32_in u64_in i64_quo u8_quo rem_in)
theorem xbbj {t:Int} {b:List Int} {k:List CV} (h:isS [.int .i64 t,.sli .u8 b,.slg 3 k]=true): ∀c∈k,W3 c:=by
 obtain⟨n,hn,hB⟩:=qdl h
 obtain⟨n,t',b',k',rfl,e,_,_⟩:=qcx hn
 cases e
 obtain⟨_,_,_,h4,_⟩:=qob hn hB
 intro c hc
 obtain⟨y,rfl,hy,hyb⟩:=h4 c hc
 obtain⟨_,t1,b1,k1,rfl,rfl,_,_⟩:=qcx hy
 exact⟨t1,b1,k1,rfl,q9h hy (by omega)⟩
theorem q56 {t:Int} {b:List Int} {k:List CV} (h:isS [.int .i64 t,.sli .u8 b,.slg 3 k]=true):qbl k=true:=qmk (xbn1 (xbyz h)).1
theorem q7o {l:List CV} (h:q1g l=true): ∀c∈l,W3 c:=by
 unfold q1g at h;rw[qab] at h;exact @of_decide_eq_true _ (Classical.propDecidable _) h
theorem xbig {l:List CV} (h: ∀c∈l,W3 c):q1g l=true:=by
 unfold q1g;rw[qab];exact @decide_eq_true _ (Classical.propDecidable _) h
theorem q8p {g t:Int} {b:List Int} {k:List CV} (h: ∀c∈k,W3 c): ∀c∈(qb4 g t b k).1,W3 c:=by
 by_cases e:(qb4 g t b k).2=0
 ·rw[qlf e];exact h
 ·rw[q2c e];simp
theorem xbdk (g:Int) {t:Int} {b:List Int} {k:List CV} (hs:isS [.int .i64 t,.sli .u8 b,.slg 3 k]=true):
  cond (isS [.int .i64 t,.sli .u8 b,.slg 3 k]) (cond (decide ((qba t b k).2=0)) (some (Out.ret [.cl (.sli .u8 (qba t b k).1),.cl (.bool (decide (((qba t b k).1.length:Int)=qi0 g)))] []))
   (some (.ret [.cl (.sli .u8 (qba t b k).1),.cl (.bool false)] []))) none=some (.ret [.cl (.sli .u8 (algB g (.agg [.int .i64 t,.sli .u8 b,.slg 3 k])).1),.cl (.bool (algB g (.agg [.int .i64 t,.sli .u8 b,.slg 3 k])).2)] []):=by
 refine qam hs ?_
 unfold qi0
 rw[qab]
 show _=some (Out.ret [.cl (.sli .u8 (qba t b k).1),.cl (.bool (decide ((qba t b k).2=0)&&decide (((qba t b k).1.length:Int)=qg6 g)))] [])
 refine qae (fun h=> ?_) fun h=> ?_
 ·rw[decide_eq_true h,zbm]
 ·rw[decide_eq_false h,zdc]
theorem xbfg (g t:Int) (b:List Int) (k:List CV):algH g (.agg [.int .i64 t,.sli .u8 b,.slg 3 k])=if g=7 then(if ¬(qb4 48 t b k).2=0 then([],false) else algG g (qb4 48 t b k).1) else algB g (.agg [.int .i64 t,.sli .u8 b,.slg 3 k]):=rfl
theorem q3j (g t:Int) (b:List Int) (k:List CV) (p:CV):xb2q g (.agg [.int .i64 t,.sli .u8 b,.slg 3 k]) p=if ¬(qdm t b k).2=0 then([],false) else if ¬(qdm t b k).1=16 then([],false) else algB g p:=rfl
theorem xbey (g:Int) (p q:CV):algG g [p,q]=xb2q g q p:=by unfold algG;rw[if_neg (by simp)];rfl
theorem xbj2 {g:Int} {two:List CV} (h: ¬(two.length:Int)=2):algG g two=([],false):=by unfold algG;rw[if_pos h]
theorem xbik (t:Int) (b:List Int) (k r:List CV):algR (.agg [.int .i64 t,.sli .u8 b,.slg 3 k]::r)=xb11 (qos t b k) r:=by unfold algR;rw[if_neg (by simp only[zac];omega)];rfl
theorem xblx (g:Int) (l:List CV):qhy g l=qw1 g l:=qab _
theorem tail7 (g:Int) (two:List CV) (hk: ∀c∈two,W3 c):(cond (!decide ((two.length:Int)=2)) (
   some (.ret [.cl (.sli .u8 []),.cl (.bool false)] []))
   (
   cond (decide ((1:Int)<(two.length:Int))) (
   Option.bind (two[1]?) fun(e11:CV)=>
   let e12:CV:=(cell1 e11).headD .nili
   let e13:CV:=(cell1 e11).tail.headD .nili
   let e14:CV:=(cell1 e11).tail.tail.headD .nili
   cond (qh0 .i64 e12&&(qgi .u8 e13&&(qem 3 e14&&true))) (
   let i15:Int:=qft e12
   let l16:List Int:=qb7 e13
   let l17:List CV:=qbm e14
   cond (isS [.int .i64 i15,.sli .u8 l16,.slg 3 l17]) (
   let r18:Int:=(qdm i15 l16 l17).1
   let r19:Int:=(qdm i15 l16 l17).2
   cond (!decide (r19=0)) (
   some (.ret [.cl (.sli .u8 []),.cl (.bool false)] []))
   (
   cond (!decide (r18=16)) (
   some (.ret [.cl (.sli .u8 []),.cl (.bool false)] []))
   (
   cond (decide ((0:Int)<(two.length:Int))) (
   Option.bind (two[0]?) fun(e20:CV)=>
   let e21:CV:=(cell1 e20).headD .nili
   let e22:CV:=(cell1 e20).tail.headD .nili
   let e23:CV:=(cell1 e20).tail.tail.headD .nili
   cond (qh0 .i64 e21&&(qgi .u8 e22&&(qem 3 e23&&true))) (
   let i24:Int:=qft e21
   let l25:List Int:=qb7 e22
   let l26:List CV:=qbm e23
   cond (isS [.int .i64 i24,.sli .u8 l25,.slg 3 l26]) (
   let r27:List Int:=(qba i24 l25 l26).1
   let r28:Int:=(qba i24 l25 l26).2
   cond (decide (r28=0)) (
   let r29:Int:=qi0 g
   some (.ret [.cl (.sli .u8 r27),.cl (.bool (decide ((r27.length:Int)=r29)))] []))
   (
   some (.ret [.cl (.sli .u8 r27),.cl (.bool false)] []))) none) none) none))) none) none) none):Option Out)=some (.ret [.cl (.sli .u8 (algG g two).1),.cl (.bool (algG g two).2)] []):=by
 refine qay (fun h3=> ?_) fun h3=> ?_
 ·rw[xbj2 h3]
 match two,h3,hk with
 | [p,q],_,hk=>
  obtain⟨t2,b2,k2,rfl,hs2⟩:=hk q (by simp)
  obtain⟨t1,b1,k1,rfl,hs1⟩:=hk p (by simp)
  rw[xbey,q3j]
  refine qan (by simp) ?_
  rw[zaz,zap,zaj]
  refine qam (c:=qh0 .i64 _&&(qgi .u8 _&&(qem 3 _&&true))) rfl (qam hs2 ?_)
  show cond (!decide ((qdm t2 b2 k2).2=0)) _ _=_
  refine qay (fun h4=> ?_) fun h4=> ?_
  ·rw[if_pos h4]
  rw[if_neg (fun e=>e h4)]
  show cond (!decide ((qdm t2 b2 k2).1=16)) _ _=_
  refine qay (fun h5=> ?_) fun h5=> ?_
  ·rw[if_pos h5]
  rw[if_neg (fun e=>e h5)]
  refine qan (by simp) ?_
  rw[zap,zaj]
  refine qam (c:=qh0 .i64 _&&(qgi .u8 _&&(qem 3 _&&true))) rfl ?_
  exact xbdk g hs1
 | [],h3,_=>simp at h3
 | [_],h3,_=>simp at h3
 | _::_::_::_,h3,_=>simp at h3;omega
theorem xb2g (g:Int) (l:List CV) (hp:q1g l=true):xbvw g l=some (.ret [.cl (.sli .u8 (qhy g l).1),.cl (.bool (qhy g l).2)] []):=by
 have hw:=q7o hp
 unfold xbvw
 rw[xblx]
 unfold qw1
 have hu:qi0 g=qg6 g:=qab _
 refine qae (fun h=> ?_) fun h=> ?_
 ·rw[if_pos (hu▸h)]
 rw[if_neg (hu▸h)]
 refine qay (fun h1=> ?_) fun h1=> ?_
 ·rw[if_pos h1]
 rw[if_neg (fun e=>e h1)]
 match l,h1,hw with
 | [x],_,hw=>
  obtain⟨t,b,k,rfl,hs⟩:=hw x (by simp)
  refine qan (by simp) ?_
  rw[zap,zaj,zbw,xbfg]
  refine qam (c:=qh0 .i64 _&&(qgi .u8 _&&(qem 3 _&&true))) rfl ?_
  show cond (decide (g=7)) _ _=_
  refine qae (fun h7=> ?_) fun h7=> ?_
  ·rw[if_pos h7]
   refine qam (q56 hs) ?_
   show cond (!decide ((qb4 48 t b k).2=0)) _ _=_
   refine qay (fun h2=> ?_) fun h2=> ?_
   ·rw[if_pos h2]
   rw[if_neg (fun e=>e h2)]
   have hk:=q8p (g:=48) (t:=t) (b:=b) (xbbj hs)
   exact tail7 g _ hk
  ·rw[if_neg h7]
   exact xbdk g hs
 | [],h1,_=>simp at h1
 | _::_::_,h1,_=>simp at h1;omega
theorem xbmd {g:Int} {l:List CV} (hw: ∀c∈l,W3 c):(qhy g l).1.length<=30000:=by
 have hB: ∀x:CV,W3 x->(algB g x).1.length<=30000:=fun x hx=>by
  obtain⟨t,b,k,rfl,hs⟩:=hx
  have:=(qmz hs).1
  show(qba t b k).1.length<=30000
  unfold qba
  rw[qab]
  split
  ·show b.length<=30000;omega
  ·simp
 rw[xblx]
 unfold qw1
 split
 ·simp
 split
 ·simp
 rename_i h0 h1
 have h1:(l.length:Int)=1:=Classical.byContradiction h1
 match l,h1,hw with
 | [x],_,hw=>
  have hx:=hw x (by simp)
  obtain⟨t,b,k,rfl,hs⟩:=hx
  rw[zbw,xbfg]
  split
  ·split
   ·simp
   have hk:=q8p (g:=48) (t:=t) (b:=b) (xbbj hs)
   generalize (qb4 48 t b k).1=two at hk ⊢
   by_cases h3:(two.length:Int)=2
   ·match two,h3,hk with
    | [p,q],_,hk=>
     obtain⟨t2,b2,k2,rfl,hs2⟩:=hk q (by simp)
     rw[xbey,q3j]
     split
     ·simp
     split
     ·simp
     ·exact hB _ (hk p (by simp))
    | [],h3,_=>simp at h3
    | [_],h3,_=>simp at h3
    | _::_::_::_,h3,_=>simp at h3;omega
   ·rw[xbj2 h3];simp
  ·exact hB _ (hw _ (by simp))
 | [],h1,_=>simp at h1
 | _::_::_,h1,_=>simp at h1;omega
theorem xbwa (t:Int) (b:List Int) (k:List CV):qen t b k=q2h t b k:=qab _
theorem xb01 (t:Int) (b:List Int) (k:List CV) (hp:isS [.int .i64 t,.sli .u8 b,.slg 3 k]=true):xbr2 t b k=some (.ret [.cl (.int .i64 (qen t b k).1),.cl (.sli .u8 (qen t b k).2.1),.cl (.int .i64 (qen t b k).2.2)] []):=by
 have hk:=q8p (g:=48) (t:=t) (b:=b) (xbbj hp)
 unfold xbr2
 rw[xbwa]
 unfold q2h
 refine qam (q56 hp) ?_
 refine qay (fun h=> ?_) fun h=> ?_
 ·rw[if_pos h]
 rw[if_neg (fun e=>e h)]
 dsimp only
 generalize (qb4 48 t b k).1=ks at hk ⊢
 refine qae (fun h1=> ?_) fun h1=> ?_
 ·unfold algR;rw[if_pos h1]
 match ks,h1,hk with
 | [],h1,_=>exact absurd rfl h1
 | x::r,_,hk=>
  obtain⟨t1,b1,k1,rfl,hs⟩:=hk x (by simp)
  have hr: ∀c∈r,W3 c:=fun c hc=>hk c (by simp[hc])
  rw[xbik]
  refine qan (by simp only[zac];omega) ?_
  rw[zap,zaj]
  refine qam (c:=qh0 .i64 _&&(qgi .u8 _&&(qem 3 _&&true))) rfl (qam hs ?_)
  rw[zci,zbn]
  unfold xb11
  show cond (!decide ((qos t1 b1 k1).2=0)) _ _=_
  refine qay (fun h2=> ?_) fun h2=> ?_
  ·rw[if_pos h2]
  rw[if_neg (fun e=>e h2)]
  refine qae (fun h3=> ?_) fun h3=> ?_
  ·rw[if_pos (show qz5 (qos t1 b1 k1).1=0 from h3)]
  rw[if_neg (show ¬qz5 (qos t1 b1 k1).1=0 from h3)]
  refine qan (by simp only[zac];omega) (qam (xbig hr) ?_)
  have hl:=xbmd (g:=(qa6 (qz5 (qos t1 b1 k1).1)).2.1) hr
  show cond (!(qhy (qa6 (qz5 (qos t1 b1 k1).1)).2.1 r).2) _ _=_
  cases he:(qhy (qa6 (qz5 (qos t1 b1 k1).1)).2.1 r).2 with
  | false=>rw[if_pos rfl];rfl
  | true=>
   rw[if_neg (by simp)]
   exact q8j rfl (qam (qf9 (show(qhy (qa6 (qz5 (qos t1 b1 k1).1)).2.1 r).1.length<=100000000 by omega)) rfl)
open IntWalk (i64_in u8_in u32_in u64_in i64_quo u8_quo rem_in)
noncomputable def xblk (grp:Int) (b:List Int):List CV:=if grp=6 then[qcr 4 b []] else if grp=7 then[qcr 48 [] [qcr 4 b [],qcr 2 (vInt 16) []]] else[]
theorem xbkb (g:Int) (b:List Int):qbt g b=qh3 g b:=qab _
theorem xbvi {g:Int} {b:List Int} (h1: ¬(qat g).2.1=0) (h2:(b.length:Int)=qg6 (qat g).2.1):qbt g b=(48,q0v (qat g).2.2::xblk (qat g).2.1 b,0):=by
 rw[xbkb]
 unfold qh3
 rw[if_neg h1,if_neg (by simp[h2])]
 rfl
theorem xbst {n d:Nat} {t:Int} {l:List CV} (hk:qa5 t=true) (hb:qap t=true) (h: ∀c∈l,okF n d (cell1 c)=true):okF (n+1) (d+1) [.int .i64 t,.sli .u8 [],.slg 3 l]=true:=by
 show(qa5 t&&(if qap t=true then decide (([]:List Int)=[])&&l.all (fun c=>okF n d (cell1 c)) else _))=true
 rw[hk,if_pos hb,zai.2 h]
 simp
theorem xbta {n:Nat} {t:Int} {l:List CV} (hb:qap t=true) (ht: ¬t=49) (h: ∀c∈l,(qai n (cell1 c)).2=true):(qai (n+1) [.int .i64 t,.sli .u8 [],.slg 3 l]).2=true:=by
 rw[qks hb]
 show((l.all fun c=>(qai n (cell1 c)).2)&&(!(decide (t=49))|| _))=true
 rw[zai.2 h,decide_eq_false ht]
 rfl
theorem xbg4 {t:Int} {b:List Int} {k:List CV} (h:(qba t b k).2=0):t=4/\k=[]/\(qba t b k).1=b:=by
 unfold qba at h ⊢
 rw[qab] at h ⊢
 split at h
 ·rename_i he
  obtain⟨h1,h2,_⟩:=xbou he
  rw[if_pos he]
  exact⟨h1,zat h2,rfl⟩
 ·rename_i he;exact absurd h he
open IntWalk (i64_in u8_in u32_in u64_in i64_quo u8_quo rem_in)
theorem xbmu (l m:List Int):qcj l m=decide (l=m):=by unfold qcj qm9;rw[qab]
end Go.Proofs.YtoaakappnhemiaaGreatDoorA
