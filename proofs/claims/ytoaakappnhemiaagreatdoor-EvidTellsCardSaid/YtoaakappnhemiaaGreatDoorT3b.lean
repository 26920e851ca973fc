/-
 What the layers below come to (their lemmas, as far as this seat needs them). Conditions: each function's own.
-/
import Derived.Test.YtoaakappnhemiaaGreatDoorT2a
import Derived.Test.YtoaakappnhemiaaGreatDoorT2b
import Derived.Test.YtoaakappnhemiaaGreatDoorT2c
import Derived.Test.YtoaakappnhemiaaGreatDoorT3a
import Derived.IntWalk
set_option linter.unusedVariables false
set_option linter.unusedSimpArgs false
set_option maxRecDepth 100000
namespace Go.Proofs.YtoaakappnhemiaaGreatDoorA
open IntWalk (i64_in u8_in u32_in u64_in i64_quo u8_quo rem_in)
theorem xbon {n:Nat} {x:List CV} (hn:isTf n x=true):1<=qdr n x:=by
 obtain⟨n',t,b,l,rfl,rfl,_,hl⟩:=qds hn
 show 1<=1+b.length+_
 omega
theorem xbm3 {g:CV->Nat}: ∀ {l:List CV} {c:CV},c∈l->g c<=(l.map g).sum
 | a::r,c,h=>by
  rw[zbi,zb7]
  rcases zaw.1 h with rfl|h
  ·omega
  ·have:=xbm3 (g:=g) h;omega
theorem xbng {g:CV->Nat}: ∀ {l:List CV},(∀c∈l,1<=g c)->l.length<=(l.map g).sum
 | [],_=>by simp
 | a::r,h=>by
  rw[zbi,zb7,zad]
  have:=xbng (g:=g) (l:=r) fun c hc=>h c (zba _ hc)
  have:=h a (zcg ..)
  omega
theorem qox {n:Nat} {t:Int} {b:List Int} {l:List CV} (h:isTf (n+1) [.int .i64 t,.sli .u8 b,.slg 3 l]=true) {B:Nat} (hb:qdr (n+1) [.int .i64 t,.sli .u8 b,.slg 3 l]<=B):
  b.length+1<=B/\l.length+1<=B/\(∀z∈b,0<=z/\z<=255)/\(∀c∈l, ∃y,c=.agg y/\isTf n y=true/\qdr n y+1<=B)/\1+b.length+(l.map fun c=>qdr n (cell1 c)).sum<=B:=by
 obtain⟨n',t',b',l',hn,he,h1,h2⟩:=qds h
 obtain rfl:n=n':=by omega
 simp only[zct,CV.int.injEq,CV.sli.injEq,CV.slg.injEq,true_and,and_true] at he
 obtain⟨rfl,rfl,rfl⟩:=he
 have hb:1+b.length+(l.map fun c=>qdr n (cell1 c)).sum<=B:=hb
 have hs:=xbng (g:=fun c=>qdr n (cell1 c)) (l:=l) fun c hc=>by
  obtain⟨y,rfl,hy⟩:=h2 c hc
  exact xbon hy
 refine⟨by omega,by omega,h1,fun c hc=> ?_,hb⟩
 obtain⟨y,rfl,hy⟩:=h2 c hc
 have hm:qdr n y<=(l.map fun c=>qdr n (cell1 c)).sum:=xbm3 (g:=fun c=>qdr n (cell1 c)) hc
 exact⟨y,rfl,hy,by omega⟩
theorem xbgs: ∀ {n:Nat} {x:List CV},isTf n x=true->qdr n x<=30000->isNf n x=true
 | n,x,hn,hb=>by
  obtain⟨n',t,b,l,rfl,rfl,_,_⟩:=qds hn
  obtain⟨h1,h2,_,h3,_⟩:=qox hn hb
  refine xb8x (by omega) (by omega) fun c hc=> ?_
  obtain⟨y,rfl,hy,hyb⟩:=h3 c hc
  exact⟨y,rfl,xbgs hy (by omega)⟩
theorem qmn (t n:Int):((qci t n).length:Int)=1+qax n:=by
 unfold qci qax
 rw[zad]
 repeat' split
 all_goals rfl
theorem qez (n:Int):1<=qax n/\qax n<=4:=by
 unfold qax
 repeat' split
 all_goals omega
theorem qqj {g:CV->List Int} {h:CV->Nat}: ∀ {l:List CV},(∀c∈l,(g c).length<=5*h c)->((l.map g).flatten).length<=5*(l.map h).sum
 | [],_=>by simp
 | a::r,hh=>by
  have:=hh a (zcg ..)
  have:=qqj (g:=g) (h:=h) (l:=r) fun c hc=>hh c (zba _ hc)
  simp only[zbi,zc1,zag,zb7]
  omega
theorem qiu: ∀ {n:Nat} {x:List CV},isTf n x=true->(qak n x).1.length<=5*qdr n x
 | n,x,hn=>by
  obtain⟨n',t,b,l,rfl,rfl,_,hl⟩:=qds hn
  have hb:qdr (n'+1) [.int .i64 t,.sli .u8 b,.slg 3 l]=1+b.length+(l.map fun c=>qdr n' (cell1 c)).sum:=rfl
  rw[hb]
  simp only[qak]
  split
  ·have hf:=qqj (g:=fun c=>(qak n' (cell1 c)).1) (h:=fun c=>qdr n' (cell1 c)) (l:=l) fun c hc=>by
    obtain⟨y,rfl,hy⟩:=hl c hc
    exact qiu hy
   have e:((l.map fun c=>qak n' (cell1 c)).map (·.1))=l.map fun c=>(qak n' (cell1 c)).1:=by rw[zc6];rfl
   simp only[e]
   have hh:=qmn t (((l.map fun c=>(qak n' (cell1 c)).1).flatten).length:Nat)
   have hr:=qez (((l.map fun c=>(qak n' (cell1 c)).1).flatten).length:Nat)
   rw[zag]
   omega
  ·have hh:=qmn t (b.length:Nat)
   have hr:=qez (b.length:Nat)
   simp only[zag]
   omega
def sumL (f:CV->List Int):List CV->Int
 | []=>0
 | c::r=>(f c).length+sumL f r
theorem qee (f:CV->List Int): ∀l:List CV,sumL f l=(((l.map f).flatten).length:Nat)
 | []=>rfl
 | c::r=>by simp only[sumL,zbi,zc1,zag,qee f r];omega
theorem qwr (f:CV->List Int) (l:List CV) (i:Nat):0<=sumL f (l.drop i)/\sumL f (l.drop i)<=sumL f l:=by
 constructor
 ·rw[qee];omega
 ·rw[qee,qee,zc9]
  have h: ∀(ls:List (List Int)) (i:Nat),((ls.drop i).flatten).length<=(ls.flatten).length:=fun ls=>by
   induction ls with
   | nil=>simp
   | cons a r ih=>
    intro i
    cases i with
    | zero=>exact zar _
    | succ i=>
     have:=ih i
     simp only[zch,zc1,zag]
     omega
  have:=h (l.map f) i
  omega
theorem xbbk (rk d:Nat) (deep:Int) (hd:1<=deep/\deep<=1000) (hdd:deep.toNat=d+1) (ka:List CV) (hlen:ka.length<=30000) (hall: ∀c∈ka, ∃y,c=.agg y/\isTf rk y=true/\qdr rk y<=30000) (hsum:sumL (fun c=>(qak rk (cell1 c)).1) ka<=150000) (k1:Int->Int->Int->List CV->Int->Int->List CV->Nat->Int->List Int->List CV->Int->List Int->List CV->Int->Int->Int->Int->Int->Int->Int->Bool->Int->Bool->Int->List Int->List CV->Option Out) (F:Int->Option Out): ∀(f i:Nat) (s:Int),i<=ka.length->ka.length<f+i->0<=s->s+sumL (fun c=>(qak rk (cell1 c)).1) (ka.drop i)<=150000->
  qmv rk (fun _ _ _ _ _ _ _ _ _ _ _ _ _ _ _ _ _ _ _ _ _ _ _ _ _=>zI (-1)) k1 (fun _ y56 _ _ _=>F y56) f deep s ka (ka.length:Int) i=if(ka.drop i).all (fun c=>okF rk d (cell1 c))=true then F (s+sumL (fun c=>(qak rk (cell1 c)).1) (ka.drop i)) else zI (-1)
 | 0,i,s,hi,hf,_,_=>by omega
 | f+1,i,s,hi,hf,h0,hs=>by
  show qne rk (qmv rk (fun _ _ _ _ _ _ _ _ _ _ _ _ _ _ _ _ _ _ _ _ _ _ _ _ _=>zI (-1)) k1 (fun _ y56 _ _ _=>F y56) f) (fun _ _ _ _ _ _ _ _ _ _ _ _ _ _ _ _ _ _ _ _ _ _ _ _ _=>zI (-1)) k1 (fun _ y56 _ _ _=>F y56) deep s ka (ka.length:Int) i=_
  unfold qne
  obtain⟨R,hR⟩: ∃R:Option Out,R=(if(ka.drop i).all (fun c=>okF rk d (cell1 c))=true then F (s+sumL (fun c=>(qak rk (cell1 c)).1) (ka.drop i)) else zI (-1)):=⟨_,rfl⟩
  rw[<- hR]
  refine qae (fun h=> ?_) fun h=> ?_
  ·obtain⟨c,hc⟩:=qbs (b:=ka) (i:=i) (by omega)
   obtain⟨y,rfl,hy,hyb⟩:=hall c (zac hc)
   have ed:ka.drop i=.agg y::ka.drop (i+1):=by
    obtain⟨hlt,e⟩:=zae.1 hc
    rw[zbw hlt,e]
   refine qan (by omega) (qan h ?_)
   rw[show(i:Int).toNat=i from rfl,hc,zai]
   obtain⟨m,t,b,l,hm,hye,_⟩:=qds hy
   simp only[cell1,hye,zbv,zbr]
   refine qaj rfl ?_
   simp only[show IntKind.i64.wrap (deep - 1)=deep - 1 from i64_in _ (by omega),qfn,qby,qbi]
   refine qaj ?_ ?_
   ·simp only[zab]
    exact⟨q7f (hye▸hy) (hye▸hyb),qfx (by omega)⟩
   ·have e:q3l [.int .i64 t,.sli .u8 b,.slg 3 l] (deep - 1)=if okF rk d y=true then((qak rk y).1.length:Int) else -1:=by
     rw[<- hye,qyq hy,show(deep - 1).toNat=d by omega]
    have es:sumL (fun c=>(qak rk (cell1 c)).1) (ka.drop i)=((qak rk y).1.length:Int)+sumL (fun c=>(qak rk (cell1 c)).1) (ka.drop (i+1)):=by rw[ed];rfl
    have hpos:=(qwr (fun c=>(qak rk (cell1 c)).1) ka (i+1)).1
    rw[es] at hs
    rw[e]
    have ea:(ka.drop i).all (fun c=>okF rk d (cell1 c))=(okF rk d y&&(ka.drop (i+1)).all (fun c=>okF rk d (cell1 c))):=by rw[ed,zck];rfl
    rw[ea,es] at hR
    by_cases hok:okF rk d y=true
    ·rw[hok,zbm] at hR
     rw[if_pos hok]
     refine qb2 (by omega) ?_
     rw[show IntKind.i64.wrap (s+((qak rk y).1.length:Int))=s+((qak rk y).1.length:Int) from i64_in _ (by omega)]
     refine qb2 (by omega) ?_
     rw[show IntKind.i64.wrap ((i:Int)+1)=((i+1:Nat):Int) from(i64_in _ (by omega)).trans (by omega)]
     refine(xbbk rk d deep hd hdd ka hlen hall hsum k1 F f (i+1) _ (by omega) (by omega) (by omega) (by omega)).trans ?_
     rw[hR,Int.add_assoc]
    ·rw[if_neg hok]
     refine qan (by omega) ?_
     rw[hR,if_neg (by simp[hok])]
  ·rw[zbl (by omega)] at hR
   rw[hR]
   show F s=if([]:List CV).all (fun c=>okF rk d (cell1 c))=true then F (s+0) else _
   rw[if_pos (by rfl),Int.add_zero]
theorem xb52 (rk:Nat) (ta:Int) (ba:List Int) (ka:List CV) (deep:Int) (hp:(isSr (rk+1) [.int .i64 ta,.sli .u8 ba,.slg 3 ka]&&qck deep)=true):xbtv rk ta ba ka deep=zI (q3l [.int .i64 ta,.sli .u8 ba,.slg 3 ka] deep):=by
 simp only[zab] at hp
 obtain⟨ht,hb⟩:=qkv hp.1
 have hd:=qik hp.2
 obtain⟨h1,h2,h3,h4,h5⟩:=qox ht hb
 rw[qyq ht]
 unfold xbtv qdy qbn qcu qb6
 simp only[qab]
 refine qae (fun h=> ?_) fun h=> ?_
 ·subst h;rfl
 obtain⟨d,hdd⟩: ∃d,deep.toNat=d+1:=⟨deep.toNat - 1,by omega⟩
 rw[hdd]
 have hokF:okF (rk+1) (d+1) [.int .i64 ta,.sli .u8 ba,.slg 3 ka]=(qbf ta&&(if qaq ta=true then decide (ba=[])&&ka.all fun c=>okF rk d (cell1 c) else decide (ka=[])&&qbk ta ba)):=rfl
 rw[hokF]
 refine qch (fun hk=> ?_) fun hk=> ?_
 ·rw[if_neg (by simp only[zal] at hk;simp[hk])]
 have hk:qbf ta=true:=by simpa using hk
 rw[hk,zbm]
 have hflen:(((ka.map fun c=>(qak rk (cell1 c)).1).flatten).length:Int)<=150000:=by
  have:=qqj (g:=fun c=>(qak rk (cell1 c)).1) (h:=fun c=>qdr rk (cell1 c)) (l:=ka) fun c hc=>by
   obtain⟨y,rfl,hy,_⟩:=h4 c hc
   exact qiu hy
  omega
 refine qch (fun hx=> ?_) fun hx=> ?_
 ·rw[if_pos hx]
  refine qae (fun hba=> ?_) fun hba=> ?_
  ·rw[if_neg (by intro e;simp only[zab,decide_eq_true_eq] at e;rw[e.1] at hba;simp at hba)]
  ·obtain rfl:ba=[]:=zau (by omega)
   refine(xbbk rk d deep (by omega) hdd ka (by omega) (fun c hc=>by obtain⟨y,e,hy,hyb⟩:=h4 c hc;exact⟨y,e,hy,by omega⟩) (by rw[qee];exact hflen) _ (fun n=>zI (IntKind.i64.wrap (IntKind.i64.wrap ((1:Int)+qax n)+n))) FUEL 0 0 (by omega) (by unfold FUEL;omega) (by omega) (by rw[zbn,qee];omega)).trans ?_
   rw[zbn,decide_eq_true (show([]:List Int)=[] from rfl),zbm,qee,Int.zero_add]
   by_cases ha:(ka.all fun c=>okF rk d (cell1 c))=true
   ·rw[if_pos ha,if_pos ha]
    have hr:=qez (((ka.map fun c=>(qak rk (cell1 c)).1).flatten).length:Nat)
    rw[show IntKind.i64.wrap ((1:Int)+qax (((ka.map fun c=>(qak rk (cell1 c)).1).flatten).length:Nat))=1+qax (((ka.map fun c=>(qak rk (cell1 c)).1).flatten).length:Nat) from i64_in _ (by omega)]
    rw[i64_in _ (show -9223372036854775808<=(1:Int)+qax (((ka.map fun c=>(qak rk (cell1 c)).1).flatten).length:Nat)+(((ka.map fun c=>(qak rk (cell1 c)).1).flatten).length:Nat)/\_<=9223372036854775807 by omega)]
    refine ql6 ?_
    simp only[qak]
    rw[if_pos hx]
    have e:((ka.map fun c=>qak rk (cell1 c)).map (·.1))=ka.map fun c=>(qak rk (cell1 c)).1:=by rw[zc6];rfl
    simp only[e]
    rw[zag]
    have hh:=qmn ta (((ka.map fun c=>(qak rk (cell1 c)).1).flatten).length:Nat)
    omega
   ·rw[if_neg ha,if_neg ha]
 ·rw[if_neg (show ¬qaq ta=true by simp[hx])]
  refine qae (fun hka=> ?_) fun hka=> ?_
  ·rw[if_neg (by intro e;simp only[zab,decide_eq_true_eq] at e;rw[e.1] at hka;simp at hka)]
  ·obtain rfl:ka=[]:=zau (by omega)
   refine qb2 (by omega) (qaj (qc5 (by omega) h3) ?_)
   rw[decide_eq_true (show([]:List CV)=[] from rfl),zbm]
   refine qch (fun hf=> ?_) fun hf=> ?_
   ·rw[if_neg (by simp only[zal] at hf;simp[hf])]
   ·rw[if_pos (by simpa using hf)]
    have hr:=qez (ba.length:Nat)
    rw[show IntKind.i64.wrap ((1:Int)+qax (ba.length:Nat))=1+qax (ba.length:Nat) from i64_in _ (by omega)]
    rw[i64_in _ (show -9223372036854775808<=(1:Int)+qax (ba.length:Nat)+(ba.length:Nat)/\_<=9223372036854775807 by omega)]
    refine ql6 ?_
    simp only[qak]
    rw[if_neg (show ¬qaq ta=true by simp[hx])]
    have hh:=qmn ta (ba.length:Nat)
    simp only[zag]
    omega
open IntWalk (i64_in u8_in u32_in u64_in i64_quo u8_quo rem_in)
theorem qlc {t:Int} (h:qbf t=true):0<=t/\t<=255:=by
 unfold qbf qaq at h
 simp only[zbp,decide_eq_true_eq] at h
 omega
theorem q6m {t n:Int} (ht:0<=t/\t<=255) (hn:0<=n/\n<16777216): ∀z∈qci t n,0<=z/\z<=255:=by
 intro z hz
 unfold qci at hz
 rcases zaw.1 hz with rfl|hz
 ·exact ht
 ·split at hz
  ·simp only[zaw,zcz,or_false] at hz;omega
  ·split at hz
   ·simp only[zaw,zcz,or_false] at hz;omega
   ·split at hz
    ·simp only[zaw,zcz,or_false] at hz;omega
    ·simp only[zaw,zcz,or_false] at hz;omega
theorem qmd {n d:Nat} {t:Int} {b:List Int} {l:List CV} (h:okF (n+1) d [.int .i64 t,.sli .u8 b,.slg 3 l]=true): ∃d',d=d'+1/\qbf t=true/\((qaq t=true/\b=[]/\∀c∈l,okF n d' (cell1 c)=true)\/(qaq t=false/\l=[]/\qbk t b=true)):=by
 cases d with
 | zero=>exact absurd h zb1
 | succ d=>
  have h:(qbf t&&(if qaq t=true then decide (b=[])&&l.all fun c=>okF n d (cell1 c) else decide (l=[])&&qbk t b))=true:=h
  rw[zab] at h
  refine⟨d,rfl,h.1, ?_⟩
  obtain⟨_,h⟩:=h
  split at h
  ·rename_i hx
   simp only[zab,decide_eq_true_eq,zaj] at h
   exact .inl ⟨hx,h⟩
  ·rename_i hx
   simp only[zab,decide_eq_true_eq] at h
   exact .inr ⟨by simpa using hx,h⟩
theorem qm4 {n:Nat} {t:Int} {b:List Int} {l:List CV} (hx:qaq t=true):qak (n+1) [.int .i64 t,.sli .u8 b,.slg 3 l]=(qci t ((l.map fun c=>(qak n (cell1 c)).1).flatten.length:Nat)++(l.map fun c=>(qak n (cell1 c)).1).flatten,(l.all fun c=>(qak n (cell1 c)).2)&&(!(decide (t=49))|| qa5 (l.map fun c=>(qak n (cell1 c)).1))):=by
 simp only[qak]
 rw[if_pos hx]
 have e:((l.map fun c=>qak n (cell1 c)).map (·.1))=l.map fun c=>(qak n (cell1 c)).1:=by rw[zc6];rfl
 have e2:((l.map fun c=>qak n (cell1 c)).all (·.2))=l.all fun c=>(qak n (cell1 c)).2:=by rw[List.all_map];rfl
 simp only[e,e2]
theorem qni {n:Nat} {t:Int} {b:List Int} {l:List CV} (hx:qaq t=false):qak (n+1) [.int .i64 t,.sli .u8 b,.slg 3 l]=(qci t (b.length:Nat)++b,true):=by
 simp only[qak]
 rw[if_neg (show ¬qaq t=true by simp[hx])]
theorem flat5 {n:Nat} {l:List CV} {B:Nat} (hl: ∀c∈l, ∃y,c=.agg y/\isTf n y=true) (hb:(l.map fun c=>qdr n (cell1 c)).sum<=B):((l.map fun c=>(qak n (cell1 c)).1).flatten).length<=5*B:=by
 have:=qqj (g:=fun c=>(qak n (cell1 c)).1) (h:=fun c=>qdr n (cell1 c)) (l:=l) fun c hc=>by
  obtain⟨y,rfl,hy⟩:=hl c hc
  exact qiu hy
 omega
theorem qsc: ∀ {n d:Nat} {x:List CV},isTf n x=true->qdr n x<=30000->okF n d x=true->∀z∈(qak n x).1,0<=z/\z<=255
 | n,d,x,hn,hb,hok=>by
  obtain⟨n',t,b,l,rfl,rfl,hbb,hl⟩:=qds hn
  obtain⟨h1,h2,h3,h4,h5⟩:=qox hn hb
  obtain⟨d',rfl,hk,h⟩:=qmd hok
  rcases h with⟨hx,rfl,hall⟩|⟨hx,rfl,hf⟩
  ·rw[qm4 hx]
   have hfl:=flat5 (B:=30000) hl (by omega)
   intro z hz
   rcases zap.1 hz with hz|hz
   ·exact q6m (qlc hk) (by omega) z hz
   ·obtain⟨r,hr,hz⟩:=List.mem_flatten.1 hz
    obtain⟨c,hc,rfl⟩:=zbt.1 hr
    obtain⟨y,rfl,hy,hyb⟩:=h4 c hc
    exact qsc hy (by omega) (hall _ hc) z hz
  ·rw[qni hx]
   intro z hz
   rcases zap.1 hz with hz|hz
   ·exact q6m (qlc hk) (by omega) z hz
   ·exact h3 z hz
theorem qtt (R:List (List Int)):qdn (R.map (CV.sli .u8))=R.flatten:=by
 unfold qdn
 rw[qab,List.flatMap_map]
 show R.flatMap (fun x=>x)=_
 rw[List.flatMap_id']
theorem xbgb {R:List (List Int)} (h1:R.length<=1000000) (h2: ∀x∈R,rowB x=true) (h3:R.flatten.length<=1000000):qog (R.map (CV.sli .u8))=true:=by
 unfold qog
 rw[qab]
 simp only[zab,decide_eq_true_eq,zaj,zav,zbt]
 refine⟨h1,fun x hx=> ?_, ?_⟩
 ·obtain⟨y,hy,rfl⟩:=hx
  exact h2 y hy
 ·have:=qtt R
  unfold qdn at this
  rw[qab] at this
  rw[this]
  exact h3
noncomputable def badW:Option Out:=zR [.cl (.sli .u8 []),.cl (.bool false)] []
noncomputable def xb27 (t s:Int) (rows:List CV):Option Out:=
 cond (qlx t s) (cond (qog rows) (cond (Nat.ble ((qdg t s++qdn rows).length*1) LIMN) (cond (Nat.ble ((qdg t s++qdn rows).length) LIMN) (zR [.cl (.sli .u8 (qdg t s++qdn rows)),.cl (.bool true)] []) none) none) none) none
noncomputable def finW (t s:Int) (rows:List CV):Option Out:=
 cond (decide (t=49)) (cond (qh2 rows) (cond (!(qbt rows)) badW (xb27 t s rows)) none) (xb27 t s rows)
theorem xb7c {t:Int} {R:List (List Int)} (ht:0<=t/\t<=255) (h1:R.length<=30000) (h2: ∀x∈R,rowB x=true) (h3:R.flatten.length<=150000):
  finW t (R.flatten.length:Int) (R.map (CV.sli .u8))=if(!(decide (t=49))|| qa5 R)=true then zR [.cl (.sli .u8 (qci t (R.flatten.length:Nat)++R.flatten)),.cl (.bool true)] [] else badW:=by
 have hh:xb27 t (R.flatten.length:Int) (R.map (CV.sli .u8))=zR [.cl (.sli .u8 (qci t (R.flatten.length:Nat)++R.flatten)),.cl (.bool true)] []:=by
  unfold xb27 qdg
  rw[qab,qtt]
  have hl:=qmn t (R.flatten.length:Nat)
  have hr:=qez (R.flatten.length:Nat)
  refine qaj ?_ (qaj (xbgb (by omega) h2 (by omega)) (qcx (by simp only[zag];omega) (qcx (by simp only[zag];omega) rfl)))
  unfold qlx
  rw[qab]
  exact decide_eq_true (by omega)
 unfold finW
 rw[hh,qix]
 refine qae (fun h=>qaj (qta (by omega) h2) (qch (fun h9=> ?_) fun h9=> ?_)) fun h=> ?_
 ·rw[if_neg (by simp only[zal] at h9;simp[h,h9])]
 ·rw[if_pos (by simp only[Bool.not_eq_false'] at h9;simp[h9])]
 ·rw[if_pos (by simp[h])]
theorem xbzv {n d:Nat} {l:List CV} (h4: ∀c∈l, ∃y,c=.agg y/\isTf n y=true/\qdr n y+1<=30000) (hall: ∀c∈l,okF n d (cell1 c)=true): ∀x∈(l.map fun c=>(qak n (cell1 c)).1),rowB x=true:=by
 intro x hx
 obtain⟨c,hc,rfl⟩:=zbt.1 hx
 obtain⟨y,rfl,hy,hyb⟩:=h4 c hc
 have h1:=qiu hy
 have h2:=qsc hy (by omega) (hall _ hc)
 unfold rowB
 simp only[zab,decide_eq_true_eq,zaj]
 exact⟨by show(qak n y).1.length<=_;omega,fun z hz=>decide_eq_true (h2 z hz)⟩
open IntWalk (i64_in u8_in u32_in u64_in i64_quo u8_quo rem_in)
theorem q61 (rk d:Nat) (deep ta:Int) (ba:List Int) (hd:1<=deep/\deep<=1000) (hdd:deep.toNat=d+1) (ka:List CV) (hlen:ka.length<=30000) (hall: ∀c∈ka, ∃y,c=.agg y/\isTf rk y=true/\qdr rk y+1<=30000): ∀(f i:Nat) (s:Int) (rows:List CV),i<=ka.length->ka.length<f+i->0<=s->s+sumL (fun c=>(qak rk (cell1 c)).1) (ka.drop i)<=150000->rows.length=i->
  qia rk (fun _ _ _ _ _ _ _ _ _ _ _ _ _ _ _ _ _ _ _ _ _ _ _ _ _ _ _ _ _ _ _ _ _ _=>badW) (fun _ _ _ _ _ _ _ _ _ _ _ _ _ _ _ _ _ _ _ _ _ _ _ _ _ _ _ _ _ _ _ _ _ _ _ _=>badW) (fun _ _ y79 _ _ _ _ y84 _ _ y87=>finW y84 y79 y87) f deep rows.length s i ta ba ka rows=if(ka.drop i).all (fun c=>okF rk d (cell1 c)&&(qak rk (cell1 c)).2)=true then finW ta (s+sumL (fun c=>(qak rk (cell1 c)).1) (ka.drop i)) (rows++(ka.drop i).map fun c=>.sli .u8 (qak rk (cell1 c)).1) else badW
 | 0,i,s,rows,hi,hf,_,_,_=>by omega
 | f+1,i,s,rows,hi,hf,h0,hs,hr=>by
  show qiq rk (qia rk (fun _ _ _ _ _ _ _ _ _ _ _ _ _ _ _ _ _ _ _ _ _ _ _ _ _ _ _ _ _ _ _ _ _ _=>badW) (fun _ _ _ _ _ _ _ _ _ _ _ _ _ _ _ _ _ _ _ _ _ _ _ _ _ _ _ _ _ _ _ _ _ _ _ _=>badW) (fun _ _ y79 _ _ _ _ y84 _ _ y87=>finW y84 y79 y87) f) (fun _ _ _ _ _ _ _ _ _ _ _ _ _ _ _ _ _ _ _ _ _ _ _ _ _ _ _ _ _ _ _ _ _ _=>badW) (fun _ _ _ _ _ _ _ _ _ _ _ _ _ _ _ _ _ _ _ _ _ _ _ _ _ _ _ _ _ _ _ _ _ _ _ _=>badW) (fun _ _ y79 _ _ _ _ y84 _ _ y87=>finW y84 y79 y87) deep rows.length s i ta ba ka rows=_
  unfold qiq
  obtain⟨R,hR⟩: ∃R:Option Out,R=if(ka.drop i).all (fun c=>okF rk d (cell1 c)&&(qak rk (cell1 c)).2)=true then finW ta (s+sumL (fun c=>(qak rk (cell1 c)).1) (ka.drop i)) (rows++(ka.drop i).map fun c=>.sli .u8 (qak rk (cell1 c)).1) else badW:=⟨_,rfl⟩
  rw[<- hR]
  refine qae (fun h=> ?_) fun h=> ?_
  ·obtain⟨c,hc⟩:=qbs (b:=ka) (i:=i) (by omega)
   obtain⟨y,rfl,hy,hyb⟩:=hall c (zac hc)
   have ed:ka.drop i=.agg y::ka.drop (i+1):=by
    obtain⟨hlt,e⟩:=zae.1 hc
    rw[zbw hlt,e]
   refine qan (by omega) (qan h ?_)
   rw[show(i:Int).toNat=i from rfl,hc,zai]
   obtain⟨m,t,b,l,hm,hye,_⟩:=qds hy
   simp only[cell1,hye,zbv,zbr]
   refine qaj rfl ?_
   simp only[show IntKind.i64.wrap (deep - 1)=deep - 1 from i64_in _ (by omega),qfn,qby,qbi]
   refine qaj ?_ ?_
   ·simp only[zab]
    exact⟨q7f (hye▸hy) (hye▸(by omega)),qfx (by omega)⟩
   ·have e:qgr [.int .i64 t,.sli .u8 b,.slg 3 l] (deep - 1)=if okF rk d y=true/\(qak rk y).2=true then((qak rk y).1,true) else([],false):=by
     rw[<- hye,qoy hy,show(deep - 1).toNat=d by omega]
    have es:sumL (fun c=>(qak rk (cell1 c)).1) (ka.drop i)=((qak rk y).1.length:Int)+sumL (fun c=>(qak rk (cell1 c)).1) (ka.drop (i+1)):=by rw[ed];rfl
    have hpos:=(qwr (fun c=>(qak rk (cell1 c)).1) ka (i+1)).1
    rw[es] at hs hR
    have em:((ka.drop i).map fun c=>CV.sli .u8 (qak rk (cell1 c)).1)=.sli .u8 (qak rk y).1::(ka.drop (i+1)).map fun c=>.sli .u8 (qak rk (cell1 c)).1:=by rw[ed];rfl
    have ea:(ka.drop i).all (fun c=>okF rk d (cell1 c)&&(qak rk (cell1 c)).2)=((okF rk d y&&(qak rk y).2)&&(ka.drop (i+1)).all (fun c=>okF rk d (cell1 c)&&(qak rk (cell1 c)).2)):=by rw[ed,zck];rfl
    rw[ea,em] at hR
    by_cases hok:okF rk d y=true/\(qak rk y).2=true
    ·rw[if_pos hok] at e
     rw[hok.1,hok.2,Bool.and_self,zbm] at hR
     simp only[e]
     refine xbaf rfl ?_
     rw[show IntKind.i64.wrap (s+((qak rk y).1.length:Int))=s+((qak rk y).1.length:Int) from i64_in _ (by omega)]
     refine qb2 (by omega) ?_
     refine qcx (by simp only[zag,zay];omega) (qcx (by simp only[zag,zay];omega) ?_)
     rw[show IntKind.i64.wrap ((i:Int)+1)=((i+1:Nat):Int) from(i64_in _ (by omega)).trans (by omega)]
     refine(q61 rk d deep ta ba hd hdd ka hlen hall f (i+1) _ _ (by omega) (by omega) (by omega) (by omega) (by simp only[zag,zay];omega)).trans ?_
     rw[hR,Int.add_assoc,zcs]
     rfl
    ·rw[if_neg hok] at e
     simp only[e]
     refine qaj rfl ?_
     rw[hR,if_neg (by intro h;simp only[zab] at h;exact hok h.1)]
  ·rw[zbl (by omega)] at hR
   rw[hR]
   show finW ta s rows=if([]:List CV).all (fun c=>okF rk d (cell1 c)&&(qak rk (cell1 c)).2)=true then finW ta (s+0) (rows++[]) else _
   rw[if_pos (by rfl),Int.add_zero,zcd]
theorem xbd5 (n:Nat) (l:List CV):(l.map fun c=>CV.sli .u8 (qak n (cell1 c)).1)=(l.map fun c=>(qak n (cell1 c)).1).map (CV.sli .u8):=by rw[zc6];rfl
theorem xb1c (rk:Nat) (ta:Int) (ba:List Int) (ka:List CV) (deep:Int) (hp:(isSr (rk+1) [.int .i64 ta,.sli .u8 ba,.slg 3 ka]&&qck deep)=true):xbbn rk ta ba ka deep=zR [.cl (.sli .u8 (qgr [.int .i64 ta,.sli .u8 ba,.slg 3 ka] deep).1),.cl (.bool (qgr [.int .i64 ta,.sli .u8 ba,.slg 3 ka] deep).2)] []:=by
 simp only[zab] at hp
 obtain⟨ht,hb⟩:=qkv hp.1
 have hd:=qik hp.2
 obtain⟨h1,h2,h3,h4,h5⟩:=qox ht hb
 rw[qoy ht]
 have bad: ∀P:Prop,[Decidable P]-> ¬P->∀q:List Int×Bool,badW=zR [.cl (.sli .u8 (if P then q else([],false):List Int×Bool).1),.cl (.bool (if P then q else([],false):List Int×Bool).2)] []:=fun P _ h q=>by rw[if_neg h];rfl
 unfold xbbn qdy qbn qcu
 simp only[qab]
 refine qae (fun h=> ?_) fun h=> ?_
 ·subst h;exact bad _ (fun e=>absurd e.1 zb1) _
 obtain⟨d,hdd⟩: ∃d,deep.toNat=d+1:=⟨deep.toNat - 1,by omega⟩
 rw[hdd]
 refine qch (fun hk=> ?_) fun hk=> ?_
 ·exact bad _ (fun e=>by obtain⟨_,_,h,_⟩:=qmd e.1;simp[h] at hk) _
 have hk:qbf ta=true:=by simpa using hk
 have hflen:=flat5 (n:=rk) (l:=ka) (B:=30000) (fun c hc=>by obtain⟨y,e,hy,_⟩:=h4 c hc;exact⟨y,e,hy⟩) (by omega)
 refine qch (fun hx=> ?_) fun hx=> ?_
 ·have hx:qaq ta=false:=by simpa using hx
  refine qae (fun hka=> ?_) fun hka=> ?_
  ·exact bad _ (fun e=>by
    obtain⟨_,_,_,h|h⟩:=qmd e.1
    ·simp[hx] at h
    ·rw[h.2.1] at hka;simp at hka) _
  ·obtain rfl:ka=[]:=zau (by omega)
   refine qb2 (by omega) (qaj (qc5 (by omega) h3) ?_)
   refine qch (fun hf=> ?_) fun hf=> ?_
   ·exact bad _ (fun e=>by
     obtain⟨_,_,_,h|h⟩:=qmd e.1
     ·simp[hx] at h
     ·simp[h.2.2] at hf) _
   ·have hf:qbk ta ba=true:=by simpa using hf
    have hok:okF (rk+1) (d+1) [.int .i64 ta,.sli .u8 ba,.slg 3 []]=true:=by
     show(qbf ta&&(if qaq ta=true then _ else decide (([]:List CV)=[])&&qbk ta ba))=true
     rw[if_neg (by simp[hx]),hk,hf]
     rfl
    rw[qni hx,if_pos ⟨hok,rfl⟩]
    have hr:=qmn ta (ba.length:Nat)
    have hr2:=qez (ba.length:Nat)
    unfold qdg
    simp only[qab]
    have:=qlc hk
    refine qaj (by unfold qlx;rw[qab];exact decide_eq_true (by omega)) (qcx (by simp only[zag];omega) (qcx (by simp only[zag];omega) rfl))
 ·have hx:qaq ta=true:=by simpa using hx
  refine qae (fun hba=> ?_) fun hba=> ?_
  ·exact bad _ (fun e=>by
    obtain⟨_,_,_,h|h⟩:=qmd e.1
    ·rw[h.2.1] at hba;simp at hba
    ·simp[hx] at h) _
  ·obtain rfl:ba=[]:=zau (by omega)
   refine(q61 rk d deep ta [] (by omega) hdd ka (by omega) h4 FUEL 0 0 [] (by omega) (by unfold FUEL;omega) (by omega) (by rw[zbn,qee];omega) rfl).trans ?_
   rw[zbn,qee,Int.zero_add,zbo,xbd5]
   by_cases ha:(ka.all fun c=>okF rk d (cell1 c)&&(qak rk (cell1 c)).2)=true
   ·rw[if_pos ha]
    simp only[zaj,zab] at ha
    have hok:okF (rk+1) (d+1) [.int .i64 ta,.sli .u8 [],.slg 3 ka]=true:=by
     show(qbf ta&&(if qaq ta=true then decide (([]:List Int)=[])&&ka.all fun c=>okF rk d (cell1 c) else _))=true
     rw[if_pos hx,hk]
     simp only[zbm,decide_true,zaj]
     exact fun c hc=>(ha c hc).1
    rw[xb7c (qlc hk) (by rw[zav];omega) (xbzv h4 fun c hc=>(ha c hc).1) (by omega),qm4 hx]
    have h2':(ka.all fun c=>(qak rk (cell1 c)).2)=true:=by simp only[zaj];exact fun c hc=>(ha c hc).2
    rw[h2',zbm]
    by_cases hs:(!(decide (ta=49))|| qa5 (ka.map fun c=>(qak rk (cell1 c)).1))=true
    ·rw[if_pos hs,if_pos ⟨hok,hs⟩]
    ·rw[if_neg hs]
     exact bad _ (fun e=>hs e.2) _
   ·rw[if_neg ha]
    refine bad _ (fun e=>ha ?_) _
    obtain⟨d',e1,_,h|h⟩:=qmd e.1
    ·obtain rfl:d=d':=by omega
     have e2:=e.2
     rw[qm4 hx] at e2
     simp only[zab,zaj] at e2 ⊢
     exact fun c hc=>⟨h.2.2 c hc,e2.1 c hc⟩
    ·simp[hx] at h
open IntWalk (i64_in u8_in u32_in u64_in i64_quo u8_quo rem_in)
theorem q7x (rk d:Nat) (ta:Int) (ba:List Int) (ka kb:List CV) (hlen:ka.length<=30000) (hall: ∀c∈ka, ∃y,c=.agg y/\isTf rk y=true/\qdr rk y+1<=30000) (hok: ∀c∈ka,okF rk d (cell1 c)=true): ∀(f i:Nat) (s:Int),i<=ka.length->ka.length<f+i->0<=s->s+sumL (fun c=>(qak rk (cell1 c)).1) (ka.drop i)<=150000->
  qj2 rk (fun _ _ _ _ _ _ _ _ _ _ _ _ _ _ _ _ _ _ _ _ _ _ _ _ _ _ _ _ _ _ _=>badW) (fun _ y37 _ _ _ y41 _ _ y44=>finW y41 y37 y44) f ka.length s ka (ka.length:Int) i ta ba kb (((ka.take i).map fun c=>CV.sli .u8 (qak rk (cell1 c)).1)++List.replicate (ka.length - i) (.sli .u8 []))=if(ka.drop i).all (fun c=>(qak rk (cell1 c)).2)=true then finW ta (s+sumL (fun c=>(qak rk (cell1 c)).1) (ka.drop i)) (ka.map fun c=>.sli .u8 (qak rk (cell1 c)).1) else badW
 | 0,i,s,hi,hf,_,_=>by omega
 | f+1,i,s,hi,hf,h0,hs=>by
  show qk8 rk (qj2 rk (fun _ _ _ _ _ _ _ _ _ _ _ _ _ _ _ _ _ _ _ _ _ _ _ _ _ _ _ _ _ _ _=>badW) (fun _ y37 _ _ _ y41 _ _ y44=>finW y41 y37 y44) f) (fun _ _ _ _ _ _ _ _ _ _ _ _ _ _ _ _ _ _ _ _ _ _ _ _ _ _ _ _ _ _ _=>badW) (fun _ y37 _ _ _ y41 _ _ y44=>finW y41 y37 y44) ka.length s ka (ka.length:Int) i ta ba kb (((ka.take i).map fun c=>CV.sli .u8 (qak rk (cell1 c)).1)++List.replicate (ka.length - i) (.sli .u8 []))=_
  unfold qk8
  obtain⟨R,hR⟩: ∃R:Option Out,R=if(ka.drop i).all (fun c=>(qak rk (cell1 c)).2)=true then finW ta (s+sumL (fun c=>(qak rk (cell1 c)).1) (ka.drop i)) (ka.map fun c=>.sli .u8 (qak rk (cell1 c)).1) else badW:=⟨_,rfl⟩
  rw[<- hR]
  obtain⟨W,hW⟩: ∃W:List CV,W=((ka.take i).map fun c=>CV.sli .u8 (qak rk (cell1 c)).1)++List.replicate (ka.length - i) (.sli .u8 []):=⟨_,rfl⟩
  rw[<- hW]
  refine qae (fun h=> ?_) fun h=> ?_
  ·obtain⟨c,hc⟩:=qbs (b:=ka) (i:=i) (by omega)
   obtain⟨y,rfl,hy,hyb⟩:=hall c (zac hc)
   have hoky:okF rk d y=true:=hok _ (zac hc)
   have ed:ka.drop i=.agg y::ka.drop (i+1):=by
    obtain⟨hlt,e⟩:=zae.1 hc
    rw[zbw hlt,e]
   refine qan (by omega) (qan h ?_)
   rw[show(i:Int).toNat=i from rfl,hc,zai]
   obtain⟨m,t,b,l,hm,hye,_⟩:=qds hy
   have hset:W.set (0+i) (.sli .u8 (qak rk y).1)=((ka.take (i+1)).map fun c=>CV.sli .u8 (qak rk (cell1 c)).1)++List.replicate (ka.length - (i+1)) (.sli .u8 []):=by
    rw[hW,zax,List.set_append_right _ _ (by simp;omega)]
    have e1:i - ((ka.take i).map fun c=>CV.sli .u8 (qak rk (cell1 c)).1).length=0:=by simp;omega
    rw[e1,show ka.length - i=(ka.length - (i+1))+1 by omega,List.replicate_succ,List.set_cons_zero]
    have e2:ka.take (i+1)=ka.take i++[.agg y]:=by
     rw[List.take_add_one,hc];rfl
    rw[e2,List.map_append,zcs]
    rfl
   simp only[cell1,hye,zbv,zbr]
   refine qaj rfl ?_
   simp only[qfn,qby,qbi]
   refine qaj ?_ ?_
   ·exact xbod ⟨hye▸hy,hye▸(by omega),d,hye▸hoky⟩
   ·have e:qkp [.int .i64 t,.sli .u8 b,.slg 3 l]=if(qak rk y).2=true then((qak rk y).1,true) else([],false):=by
     rw[<- hye,qq1 hy]
    have es:sumL (fun c=>(qak rk (cell1 c)).1) (ka.drop i)=((qak rk y).1.length:Int)+sumL (fun c=>(qak rk (cell1 c)).1) (ka.drop (i+1)):=by rw[ed];rfl
    have hpos:=(qwr (fun c=>(qak rk (cell1 c)).1) ka (i+1)).1
    rw[es] at hs hR
    have ea:(ka.drop i).all (fun c=>(qak rk (cell1 c)).2)=((qak rk y).2&&(ka.drop (i+1)).all (fun c=>(qak rk (cell1 c)).2)):=by rw[ed,zck];rfl
    rw[ea] at hR
    by_cases hk:(qak rk y).2=true
    ·rw[if_pos hk] at e
     rw[hk,zbm] at hR
     simp only[e]
     refine xbaf rfl ?_
     rw[show IntKind.i64.wrap (s+((qak rk y).1.length:Int))=s+((qak rk y).1.length:Int) from i64_in _ (by omega)]
     refine qan (by omega) (qan h ?_)
     rw[hset,show IntKind.i64.wrap ((i:Int)+1)=((i+1:Nat):Int) from(i64_in _ (by omega)).trans (by omega)]
     refine(q7x rk d ta ba ka kb hlen hall hok f (i+1) _ (by omega) (by omega) (by omega) (by omega)).trans ?_
     rw[hR,Int.add_assoc]
    ·rw[if_neg hk] at e
     simp only[e]
     refine qaj rfl ?_
     rw[hR,if_neg (by intro h;simp only[zab] at h;exact hk h.1)]
  ·obtain rfl:i=ka.length:=by omega
   rw[zbl (zar _)] at hR
   rw[hR,hW,zc5,Nat.sub_self]
   show finW ta s ((ka.map fun c=>CV.sli .u8 (qak rk (cell1 c)).1)++[])=if([]:List CV).all (fun c=>(qak rk (cell1 c)).2)=true then finW ta (s+0) _ else _
   rw[if_pos (by rfl),Int.add_zero,zcd]
theorem xbvm (rk:Nat) (ta:Int) (ba:List Int) (ka:List CV) (hp:isWr (rk+1) [.int .i64 ta,.sli .u8 ba,.slg 3 ka]=true):xbct rk ta ba ka=zR [.cl (.sli .u8 (qkp [.int .i64 ta,.sli .u8 ba,.slg 3 ka]).1),.cl (.bool (qkp [.int .i64 ta,.sli .u8 ba,.slg 3 ka]).2)] []:=by
 obtain⟨ht,hb,d,hok⟩:=qxz hp
 obtain⟨h1,h2,h3,h4,h5⟩:=qox ht hb
 obtain⟨d',rfl,hk,h⟩:=qmd hok
 rw[qq1 ht]
 unfold xbct qbn
 simp only[qab]
 rcases h with⟨hx,rfl,hall⟩|⟨hx,rfl,hf⟩
 ·have hflen:=flat5 (n:=rk) (l:=ka) (B:=30000) (fun c hc=>by obtain⟨y,e,hy,_⟩:=h4 c hc;exact⟨y,e,hy⟩) (by simp only[zcb] at h5;omega)
  refine xbaf (by simp[hx]) (qan (by omega) (qan (by omega) (qan (by unfold LIM;omega) (qan (by unfold LIM;omega) ?_))))
  refine(q7x rk d' ta [] ka ka (by omega) h4 hall FUEL 0 0 (by omega) (by unfold FUEL;omega) (by omega) (by rw[zbn,qee];omega)).trans ?_
  rw[zbn,qee,Int.zero_add,xbd5,qm4 hx]
  by_cases ha:(ka.all fun c=>(qak rk (cell1 c)).2)=true
  ·rw[if_pos ha,xb7c (qlc hk) (by rw[zav];omega) (xbzv h4 hall) (by omega),ha,zbm]
   by_cases hs:(!(decide (ta=49))|| qa5 (ka.map fun c=>(qak rk (cell1 c)).1))=true
   ·rw[if_pos hs,if_pos hs]
   ·rw[if_neg hs,if_neg hs];rfl
  ·rw[if_neg ha]
   have hf:(ka.all fun c=>(qak rk (cell1 c)).2)=false:=by simpa using ha
   rw[hf,zdc]
   rfl
 ·have hr:=qmn ta (ba.length:Nat)
  have hr2:=qez (ba.length:Nat)
  have:=qlc hk
  unfold qdg
  simp only[qab]
  rw[qni hx]
  refine qaj (by simp[hx]) (qaj (by unfold qlx;rw[qab];exact decide_eq_true (by omega)) (qcx (by simp only[zag];omega) (qcx (by simp only[zag];omega) rfl)))
theorem xbwe (ta:Int) (ba:List Int) (ka:List CV) (hp:isS [.int .i64 ta,.sli .u8 ba,.slg 3 ka]=true):xbbw ta ba ka=zR [.cl (.sli .u8 (qbm [.int .i64 ta,.sli .u8 ba,.slg 3 ka]).1),.cl (.int .i64 (qbm [.int .i64 ta,.sli .u8 ba,.slg 3 ka]).2)] []:=by
 obtain⟨n,ht,hb⟩:=qdx hp
 have hl:=qiu ht
 unfold xbbw
 refine qaj (by rw[hp,qfx (by omega)];rfl) ?_
 simp only[qoy ht,qie ht,show(32:Int).toNat=32 from rfl]
 by_cases h:okF n 32 [.int .i64 ta,.sli .u8 ba,.slg 3 ka]=true/\(qak n [.int .i64 ta,.sli .u8 ba,.slg 3 ka]).2=true
 ·simp only[if_pos h]
  exact xbaf rfl (qb2 (by omega) rfl)
 ·simp only[if_neg h]
  exact qaj rfl rfl
theorem xb15 (ta:Int) (ba:List Int) (ka:List CV) (hp:isS [.int .i64 ta,.sli .u8 ba,.slg 3 ka]=true):xbdc ta ba ka=zR [.cl (.sli .u8 (qbm [.int .i64 ta,.sli .u8 ba,.slg 3 ka]).1),.cl (.int .i64 (qbm [.int .i64 ta,.sli .u8 ba,.slg 3 ka]).2)] []:=by
 obtain⟨n,ht,hb⟩:=qdx hp
 have hl:=qiu ht
 unfold xbdc
 refine qaj (by rw[hp,qfx (by omega)];rfl) ?_
 rw[qyq ht,show(32:Int).toNat=32 from rfl]
 by_cases hok:okF n 32 [.int .i64 ta,.sli .u8 ba,.slg 3 ka]=true
 ·simp only[if_pos hok]
  refine qb2 (by omega) (qb2 (by omega) (qaj (xb39 ⟨ht,hb,32,hok⟩) ?_))
  simp only[qq1 ht,qie ht]
  by_cases h:(qak n [.int .i64 ta,.sli .u8 ba,.slg 3 ka]).2=true
  ·simp only[if_pos h,if_pos (show okF n 32 [.int .i64 ta,.sli .u8 ba,.slg 3 ka]=true/\(qak n [.int .i64 ta,.sli .u8 ba,.slg 3 ka]).2=true from⟨hok,h⟩)]
   exact xbaf rfl rfl
  ·simp only[if_neg h,if_neg (show ¬(okF n 32 [.int .i64 ta,.sli .u8 ba,.slg 3 ka]=true/\(qak n [.int .i64 ta,.sli .u8 ba,.slg 3 ka]).2=true) from fun e=>h e.2)]
   exact qaj rfl rfl
 ·simp only[if_neg hok,qie ht,if_neg (show ¬(okF n 32 [.int .i64 ta,.sli .u8 ba,.slg 3 ka]=true/\(qak n [.int .i64 ta,.sli .u8 ba,.slg 3 ka]).2=true) from fun e=>hok e.1)]
  exact qan (by omega) rfl
theorem q6g {n:Nat} {a:List CV} (ht:isTf n a=true):decide ((qbm a).2=0)=q1m a:=by
 rw[qie ht,xbfx ht]
 by_cases h:okF n 32 a=true/\(qak n a).2=true
 ·rw[if_pos h,decide_eq_true h];rfl
 ·rw[if_neg h,decide_eq_false h];rfl
theorem xb4p (ta:Int) (ba:List Int) (ka:List CV) (hp:isS [.int .i64 ta,.sli .u8 ba,.slg 3 ka]=true):xbrm ta ba ka=zB (q1m [.int .i64 ta,.sli .u8 ba,.slg 3 ka]):=by
 obtain⟨n,ht,hb⟩:=qdx hp
 unfold xbrm
 exact qaj hp (qat (q6g ht))
theorem xb5j (ta:Int) (ba:List Int) (ka:List CV) (hp:isS [.int .i64 ta,.sli .u8 ba,.slg 3 ka]=true):xbrk ta ba ka=zB (q1m [.int .i64 ta,.sli .u8 ba,.slg 3 ka]):=by
 obtain⟨n,ht,hb⟩:=qdx hp
 unfold xbrk
 exact qaj hp (qat (q6g ht))
open IntWalk (i64_in u8_in u32_in u64_in i64_quo u8_quo rem_in)
theorem xbvq {a:List CV} (h:isS a=true):isN a=true:=by
 obtain⟨n,hn,hb⟩:=qdx h
 exact xb1n (xbgs hn hb)
def lenB (n:Int):List Int:=if n<128 then[n] else if n<256 then[129,n] else if n<65536 then[130,n/ 256,n % 256] else[131,n/ 65536,n/ 256 % 256,n % 256]
theorem q6t (t n:Int):qci t n=t::lenB n:=rfl
theorem xbou (n:Int):((lenB n).length:Int)=qax n:=by
 unfold lenB qax
 repeat' split
 all_goals rfl
theorem xbol {r:List Int} (hb: ∀x∈r,0<=x/\x<=255) (h: ¬(qac r).2=0):r=lenB (qac r).1++r.drop (qac r).2.toNat/\qax (qac r).1=(qac r).2:=by
 match r,hb,h with
 | [],_,h=>exact absurd rfl h
 | c::t,hb,h=>
  have hc:=hb c (zcg ..)
  rw[qdd] at h ⊢
  by_cases h1:c<128
  ·rw[if_pos h1]
   have e:lenB c=[c]:=by unfold lenB;rw[if_pos h1]
   have e2:qax c=1:=by unfold qax;rw[if_pos h1]
   exact⟨by rw[e];rfl,e2⟩
  ·rw[if_neg h1] at h ⊢
   by_cases h2:c=128\/131<c\/(t.length:Int)<c - 128
   ·rw[if_pos h2] at h;exact absurd rfl h
   ·rw[if_neg h2] at h ⊢
    by_cases h3:t.headD 0=0\/qa1 (t.take (c - 128).toNat)<128
    ·rw[if_pos h3] at h;exact absurd rfl h
    ·rw[if_neg h3] at h ⊢
     have hc3:c=129\/c=130\/c=131:=by omega
     have hbt: ∀(i:Nat) (x:Int),t[i]? =some x->0<=x/\x<=255:=fun i x hx=>hb x (zba _ (zac hx))
     rcases hc3 with rfl|rfl|rfl
     ·match t,h2,h3,hbt with
      | [],h2,_,_=>simp at h2
      | x::t,h2,h3,hbt=>
       have hx:=hbt 0 x rfl
       have e:qa1 ((x::t).take (129 - 128:Int).toNat)=x:=by show(0:Int)*256+x=x;omega
       rw[e] at h3 ⊢
       simp only[zbv] at h3
       have e1:lenB x=[129,x]:=by unfold lenB;rw[if_neg (by omega),if_pos (by omega)]
       have e2:qax x=2:=by unfold qax;rw[if_neg (by omega),if_pos (by omega)]
       exact⟨by show _=lenB x++_;rw[e1];rfl,e2⟩
     ·match t,h2,h3,hbt with
      | [],h2,_,_=>simp at h2
      | [_],h2,_,_=>simp at h2
      | x::y::t,h2,h3,hbt=>
       have hx:=hbt 0 x rfl
       have hy:=hbt 1 y rfl
       have e:qa1 ((x::y::t).take (130 - 128:Int).toNat)=x*256+y:=by show((0:Int)*256+x)*256+y=_;omega
       rw[e] at h3 ⊢
       simp only[zbv] at h3
       have e1:lenB (x*256+y)=[130,x,y]:=by
        unfold lenB
        rw[if_neg (by omega),if_neg (by omega),if_pos (by omega),show(x*256+y)/ 256=x by omega,show(x*256+y) % 256=y by omega]
       have e2:qax (x*256+y)=3:=by unfold qax;rw[if_neg (by omega),if_neg (by omega),if_pos (by omega)]
       exact⟨by show _=lenB (x*256+y)++_;rw[e1];rfl,e2⟩
     ·match t,h2,h3,hbt with
      | [],h2,_,_=>simp at h2
      | [_],h2,_,_=>simp at h2
      | [_,_],h2,_,_=>simp at h2
      | x::y::z::t,h2,h3,hbt=>
       have hx:=hbt 0 x rfl
       have hy:=hbt 1 y rfl
       have hz:=hbt 2 z rfl
       have e:qa1 ((x::y::z::t).take (131 - 128:Int).toNat)=(x*256+y)*256+z:=by show(((0:Int)*256+x)*256+y)*256+z=_;omega
       rw[e] at h3 ⊢
       simp only[zbv] at h3
       have e1:lenB ((x*256+y)*256+z)=[131,x,y,z]:=by
        unfold lenB
        rw[if_neg (by omega),if_neg (by omega),if_neg (by omega),show((x*256+y)*256+z)/ 65536=x by omega,show((x*256+y)*256+z)/ 256 % 256=y by omega,show((x*256+y)*256+z) % 256=z by omega]
       have e2:qax ((x*256+y)*256+z)=4:=by unfold qax;rw[if_neg (by omega),if_neg (by omega),if_neg (by omega)]
       exact⟨by show _=lenB ((x*256+y)*256+z)++_;rw[e1];rfl,e2⟩
theorem qz2 {f:List Int->Int×Nd×Int} {h:Nd->List Int} {Q:Nd->Prop} (hu: ∀b,qad b=true->(f b).1=0->0<(f b).2.2/\(f b).2.2<=b.length) (hf: ∀b,qad b=true->(f b).1=0->Q (f b).2.1/\h (f b).2.1=b.take (f b).2.2.toNat): ∀(m:Nat) (b:List Int),qad b=true->b.length<=m->(qcl f m b).1=0->
  (qcl f m b).2.2=(qcl f m b).2.1.map h/\(qcl f m b).2.2.flatten=b/\∀x∈(qcl f m b).2.1,Q x
 | 0,b,hb,hm,hz=>by
  have:b=[]:=zau (by omega)
  subst this
  rw[qny]
  simp
 | m+1,b,hb,hm,hz=>by
  by_cases hne:b=[]
  ·subst hne;rw[qny];simp
  ·by_cases h0:(f b).1=0
   ·have hub:=hu b hb h0
    obtain⟨hq,hh⟩:=hf b hb h0
    rw[qwb hne h0] at hz ⊢
    obtain⟨i1,i2,i3⟩:=qz2 hu hf m _ (qa6 hb _) (by simp only[zaq];omega) hz
    refine⟨?_, ?_,fun x hx=> ?_⟩
    ·rw[zbi,hh, <- i1]
    ·rw[zc1,i2,List.take_append_drop]
    ·rcases zaw.1 hx with rfl|hx
     ·exact hq
     ·exact i3 x hx
   ·rw[qyr hne h0] at hz
    exact absurd hz h0
theorem xbc4 {α:Type} {g:α->List Int} {h:α->Nat}: ∀ {l:List α},(∀c∈l,h c<=(g c).length)->(l.map h).sum<=((l.map g).flatten).length
 | [],_=>by simp
 | a::r,hh=>by
  have:=hh a (zcg ..)
  have:=xbc4 (g:=g) (h:=h) (l:=r) fun c hc=>hh c (zba _ hc)
  simp only[zbi,zc1,zag,zb7]
  omega
def xb1a (d:Nat) (x:Nd):Prop:=isTf d (ndL x)=true/\okF d d (ndL x)=true/\(qak d (ndL x)).2=true/\qdr d (ndL x)<=(qak d (ndL x)).1.length
theorem xb25 {n:Nat} {t:Int} {b:List Int} {l:List CV} (h1: ∀z∈b,0<=z/\z<=255) (h3: ∀c∈l, ∃y,c=.agg y/\isTf n y=true):isTf (n+1) [.int .i64 t,.sli .u8 b,.slg 3 l]=true:=by
 show(b.all xbob&&l.all fun c=>match c with|.agg x=>isTf n x|_=>false)=true
 simp only[zab,zaj]
 refine⟨fun z hz=>decide_eq_true (h1 z hz),fun c hc=> ?_⟩
 obtain⟨y,rfl,hy⟩:=h3 c hc
 exact hy
theorem qph: ∀(d:Nat) (b:List Int),qad b=true->(qar d b).1=0->xb1a d (qar d b).2.1/\(qak d (ndL (qar d b).2.1)).1=b.take (qar d b).2.2.toNat
 | 0,b,_,h=>absurd h (by decide: ¬(3:Int)=0)
 | d+1,[],_,h=>absurd h (by decide: ¬(1:Int)=0)
 | d+1,t::r,hb,h=>by
  have hbt:=qbu hb
  simp only[zbr] at hbt
  have hr:=qzd hbt
  rw[qjv] at h ⊢
  obtain⟨hu,hk,hn⟩:=qoe h
  obtain⟨e1,e2⟩:=xbol (qam hbt).2 (fun e=>hn (.inl e))
  have hk':qbf t=true:=by simpa using hk
  rw[hu]
  obtain⟨I,hI⟩: ∃I,I=(r.drop (qac r).2.toNat).take (qac r).1.toNat:=⟨_,rfl⟩
  have hIl:(I.length:Int)=(qac r).1:=by rw[hI];simp only[zb8,zaq];omega
  have hIb:qad I=true:=by rw[hI];exact qgi (qa6 hbt _) _
  have hlb:=xbou (qac r).1
  have htake:(t::r).take (1+(qac r).2+(qac r).1).toNat=t::(lenB (I.length:Nat)++I):=by
   rw[show(1+(qac r).2+(qac r).1).toNat=((qac r).2.toNat+(qac r).1.toNat)+1 by omega,zb6,hIl]
   congr 1
   have:r.take ((qac r).2.toNat+(qac r).1.toNat)=(lenB (qac r).1++r.drop (qac r).2.toNat).take ((lenB (qac r).1).length+(qac r).1.toNat):=by
    rw[<- e1,show(lenB (qac r).1).length=(qac r).2.toNat by omega]
   rw[this,List.take_length_add_append, <- hI]
  rw[htake]
  have hp:parse1 (qar d) t r=if qaq t=false then(if qbk t I=true then(0,(t,I,[]),1+(qac r).2+(qac r).1) else(5,nd0,0))
    else if(qcl (qar d) I.length I).1=0 then(if t=49/\qa5 (qcl (qar d) I.length I).2.2=false then(6,nd0,0) else(0,(t,[],(qcl (qar d) I.length I).2.1.map ndCV),1+(qac r).2+(qac r).1)) else((qcl (qar d) I.length I).1,nd0,0):=by
   unfold parse1
   rw[if_neg hk,if_neg hn, <- hI]
  rw[hp] at h ⊢
  cases hx:qaq t with
  | false=>
   rw[hx,if_pos rfl] at h
   rw[if_pos rfl]
   by_cases hf:qbk t I=true
   ·rw[if_pos hf]
    have hbl:qak (d+1) (ndL (t,I,[]))=(qci t (I.length:Nat)++I,true):=qni hx
    refine⟨⟨xb25 (qam hIb).2 (by simp), ?_,by show(qak (d+1) (ndL (t,I,[]))).2=true;rw[hbl], ?_⟩, ?_⟩
    ·show(qbf t&&(if qaq t=true then _ else decide (([]:List CV)=[])&&qbk t I))=true
     rw[if_neg (by simp[hx]),hk',hf];rfl
    ·show 1+I.length+0<=(qak (d+1) (ndL (t,I,[]))).1.length
     rw[hbl,q6t]
     simp only[zag,zad];omega
    ·show(qak (d+1) (ndL (t,I,[]))).1=_
     rw[hbl];rfl
   ·rw[if_neg hf] at h;exact absurd h (by decide: ¬(5:Int)=0)
  | true=>
   rw[hx,if_neg (by decide)] at h
   rw[if_neg (by decide)]
   by_cases hz:(qcl (qar d) I.length I).1=0
   ·rw[if_pos hz] at h ⊢
    by_cases hs:t=49/\qa5 (qcl (qar d) I.length I).2.2=false
    ·rw[if_pos hs] at h;exact absurd h (by decide: ¬(6:Int)=0)
    ·rw[if_neg hs]
     obtain⟨i1,i2,i3⟩:=qz2 (f:=qar d) (h:=fun x=>(qak d (ndL x)).1) (Q:=xb1a d) (fun b hb h=>qij hb h) (fun b hb h=>qph d b hb h) I.length I hIb (zar _) hz
     generalize qcl (qar d) I.length I=p at*
     obtain⟨p1,xs,ps⟩:=p
     simp only[] at i1 i2 i3 hs ⊢
     have hm:((xs.map ndCV).map fun c=>(qak d (cell1 c)).1)=ps:=by rw[i1,zc6];rfl
     have hbl:qak (d+1) (ndL (t,[],xs.map ndCV))=(qci t (I.length:Nat)++I,((xs.map ndCV).all fun c=>(qak d (cell1 c)).2)&&(!(decide (t=49))|| qa5 ps)):=by
      refine(qm4 hx).trans ?_
      rw[hm,i2]
     have hall2:((xs.map ndCV).all fun c=>(qak d (cell1 c)).2)=true:=by
      simp only[zaj,zbt]
      rintro c ⟨x,hx',rfl⟩
      exact(i3 x hx').2.2.1
     have hso:(!(decide (t=49))|| qa5 ps)=true:=by
      by_cases h49:t=49
      ·have:qa5 ps=true:=by
        cases hh:qa5 ps with
        | true=>rfl
        | false=>exact absurd ⟨h49,hh⟩ hs
       rw[this,Bool.or_true]
      ·simp[h49]
     rw[hall2,hso] at hbl
     refine⟨⟨xb25 (by simp) fun c hc=> ?_, ?_,by show(qak (d+1) (ndL (t,[],xs.map ndCV))).2=true;rw[hbl];rfl, ?_⟩, ?_⟩
     ·obtain⟨x,hx',rfl⟩:=zbt.1 hc
      exact⟨_,rfl,(i3 x hx').1⟩
     ·show(qbf t&&(if qaq t=true then decide (([]:List Int)=[])&&(xs.map ndCV).all fun c=>okF d d (cell1 c) else _))=true
      rw[if_pos hx,hk']
      simp only[zbm,decide_true,zaj,zbt]
      rintro c ⟨x,hx',rfl⟩
      exact(i3 x hx').2.1
     ·show 1+0+((xs.map ndCV).map fun c=>qdr d (cell1 c)).sum<=(qak (d+1) (ndL (t,[],xs.map ndCV))).1.length
      rw[hbl,q6t]
      have:=xbc4 (g:=fun x=>(qak d (ndL x)).1) (h:=fun x=>qdr d (ndL x)) (l:=xs) fun x hx'=>(i3 x hx').2.2.2
      rw[<- i1,i2] at this
      have e:((xs.map ndCV).map fun c=>qdr d (cell1 c))=xs.map fun x=>qdr d (ndL x):=by rw[zc6];rfl
      rw[e]
      simp only[zag,zad]
      omega
     ·show(qak (d+1) (ndL (t,[],xs.map ndCV))).1=_
      rw[hbl];rfl
   ·rw[if_neg hz] at h;exact absurd h hz
theorem q1f (b:List Int):qba b=if(qar 32 b).1=0 then(if(qar 32 b).2.2<b.length then(nd0,7) else((qar 32 b).2.1,0)) else(nd0,(qar 32 b).1):=by
 unfold qba qwf;rw[qab]
open IntWalk (i64_in u8_in u32_in u64_in i64_quo u8_quo rem_in)
theorem qws {i:Nat} (h:i<=1000000000000):IntKind.i64.wrap ((i:Int)+1)=((i+1:Nat):Int):=(i64_in _ (by omega)).trans (by omega)
theorem xbn3 {a b:List Int} {T:Nat->Int->Option Out}
  (hT: ∀(f i:Nat),T (f+1) i=cond (decide ((i:Int)<(a.length:Int))) (getK a i fun x=>getK b i fun y=>cond (!decide (x=y)) (zB false) (T f (IntKind.i64.wrap ((i:Int)+1)))) (zB true))
  (hl:a.length=b.length) (hb:a.length<=100000000): ∀(f i:Nat),i<=a.length->a.length<f+i->T f i=zB (decide (a.drop i=b.drop i))
 | 0,i,hi,hf=>by omega
 | f+1,i,hi,hf=>by
  rw[hT]
  refine qae (fun h=> ?_) fun h=> ?_
  ·obtain⟨x,hx⟩:=qbs (b:=a) (i:=i) (by omega)
   obtain⟨y,hy⟩:=qbs (b:=b) (i:=i) (by omega)
   refine qap (by omega) hx (qap (by omega) hy ?_)
   rw[qcm hx,qcm hy]
   refine qas (fun hne=>qat ?_) fun he=> ?_
   ·simp[hne]
   ·subst he
    rw[qws (by omega)]
    refine(xbn3 hT hl hb f (i+1) (by omega) (by omega)).trans (qat ?_)
    simp
  ·refine qat ?_
   rw[qdj (by omega),qdj (by omega)]
   simp
theorem xbx7 {n:Nat} (h:n<=100000000):n<FUEL+0:=by unfold FUEL;omega
theorem xbsq {a b:List Int} {x:Option Out} (hx:a.length=b.length->x=zB (decide (a.drop 0=b.drop 0))):
  cond (!decide ((a.length:Int)=(b.length:Int))) (zB false) x=zB (qbl a b):=by
 unfold qbl qkw
 rw[qab]
 refine qas (fun h=>qat ?_) fun h=>hx (by omega)
 rw[eq_comm,decide_eq_false_iff_not]
 intro e
 subst e
 exact h rfl
theorem xb5n (a b:List Int) (hp:qcc a=true):xb11 a b=zB (qbl a b):=by
 unfold xb11
 simp only[qab]
 exact xbsq fun h=>xbn3 (T:=fun f=>qvx _ _ f a b _) (fun _ _=>rfl) h (qeg hp) FUEL 0 (by omega) (xbx7 (qeg hp))
theorem xb3y (a b:List Int) (hp:qcc a=true):xb46 a b=zB (qbl a b):=qaj hp rfl
open IntWalk (i64_in u8_in u32_in u64_in i64_quo u8_quo rem_in)
theorem qs7 {n:Int} (h:u32Ok n=true):0<=n/\n<=4294967295:=by
 unfold u32Ok at h;rw[qab] at h;exact of_decide_eq_true h
theorem qxn {n:Int} (h:0<=n/\n<=4294967295):u32Ok n=true:=by
 unfold u32Ok;rw[qab];exact decide_eq_true h
theorem quu {o:List Int} (h:qtx o=true):o.length<=1000/\∀x∈o,0<=x/\x<=4294967295:=by
 unfold qtx at h
 rw[qab] at h
 simp only[zab,decide_eq_true_eq,zaj] at h
 exact⟨h.1,fun x hx=>of_decide_eq_true (h.2 x hx)⟩
theorem c_z {x:Int} {a b:Option Out} (h:x=0):cond (!decide (x=0)) a b=b:=by rw[decide_eq_true h];rfl
theorem c_nz {x:Int} {a b:Option Out} (h:x≠0):cond (!decide (x=0)) a b=a:=by rw[decide_eq_false h];rfl
theorem or128: ∀n:Fin 256,IntKind.u8.wrap ((BitVec.ofInt 8 (n.val:Int)||| BitVec.ofInt 8 128).toNat)=128+(n.val:Int) % 128:=by decide+kernel
theorem xb2o (x:Int):IntKind.u8.wrap ((BitVec.ofInt 8 (IntKind.u8.wrap x)||| BitVec.ofInt 8 128).toNat)=128+x % 128:=by
 rw[xbqw x]
 have:=or128 ⟨(x % 256).toNat,by omega⟩
 simp only[zda (show 0<=x % 256 by omega)] at this
 rw[this];omega
theorem xbyr (x:Int):IntKind.u8.wrap ((BitVec.ofInt 8 (IntKind.u8.wrap x)&&& ~~~ BitVec.ofInt 8 128).toNat)=x % 128:=by
 rw[xbqw x]
 have:=(and7 ⟨(x % 256).toNat,by omega⟩).1
 simp only[zda (show 0<=x % 256 by omega)] at this
 rw[this];omega
theorem fd28 (n:Int):Int.fdiv n (2 ^ 28)=n/ 268435456:=zbe _ (by decide)
theorem fd21 (n:Int):Int.fdiv n (2 ^ 21)=n/ 2097152:=zbe _ (by decide)
theorem fd14 (n:Int):Int.fdiv n (2 ^ 14)=n/ 16384:=zbe _ (by decide)
theorem fd7 (n:Int):Int.fdiv n (2 ^ 7)=n/ 128:=zbe _ (by decide)
theorem xbuv (f:Nat):gHi f 0=[]:=by cases f<;>rfl
theorem xbeh (f:Nat) {n:Int} (h:n≠0):gHi (f+1) n=gHi f (n/ 128)++[128+n % 128]:=by
 conv=>lhs;unfold gHi
 rw[if_neg h]
theorem gr1 {n:Int} (h:n/ 128=0):qbd n=[n % 128]:=by unfold qbd;rw[h,xbuv];rfl
theorem gr2 {n:Int} (h:n/ 128≠0) (h':n/ 16384=0):qbd n=[128+n/ 128 % 128,n % 128]:=by
 unfold qbd
 rw[xbeh 4 h,show n/ 128/ 128=0 by omega,xbuv];rfl
theorem gr3 {n:Int} (h:n/ 16384≠0) (h':n/ 2097152=0):qbd n=[128+n/ 16384 % 128,128+n/ 128 % 128,n % 128]:=by
 unfold qbd
 rw[xbeh 4 (by omega),xbeh 3 (by omega),show n/ 128/ 128/ 128=0 by omega,xbuv,show n/ 128/ 128=n/ 16384 by omega];rfl
theorem gr4 {n:Int} (h:n/ 2097152≠0) (h':n/ 268435456=0):qbd n=[128+n/ 2097152 % 128,128+n/ 16384 % 128,128+n/ 128 % 128,n % 128]:=by
 unfold qbd
 rw[xbeh 4 (by omega),xbeh 3 (by omega),xbeh 2 (by omega),show n/ 128/ 128/ 128/ 128=0 by omega,xbuv,show n/ 128/ 128/ 128=n/ 2097152 by omega,show n/ 128/ 128=n/ 16384 by omega];rfl
theorem gr5 {n:Int} (h:n/ 268435456≠0) (h':0<=n/\n<=4294967295):qbd n=[128+n/ 268435456 % 128,128+n/ 2097152 % 128,128+n/ 16384 % 128,128+n/ 128 % 128,n % 128]:=by
 unfold qbd
 rw[xbeh 4 (by omega),xbeh 3 (by omega),xbeh 2 (by omega),xbeh 1 (by omega),show n/ 128/ 128/ 128/ 128/ 128=0 by omega,xbuv,show n/ 128/ 128/ 128/ 128=n/ 268435456 by omega,show n/ 128/ 128/ 128=n/ 2097152 by omega,show n/ 128/ 128=n/ 16384 by omega];rfl
theorem xbcm {n:Int} (h:0<=n/\n<=4294967295):(n/ 128=0/\n/ 16384=0/\n/ 2097152=0/\n/ 268435456=0)\/(n/ 128≠0/\n/ 16384=0/\n/ 2097152=0/\n/ 268435456=0)\/
  (n/ 128≠0/\n/ 16384≠0/\n/ 2097152=0/\n/ 268435456=0)\/(n/ 128≠0/\n/ 16384≠0/\n/ 2097152≠0/\n/ 268435456=0)\/(n/ 128≠0/\n/ 16384≠0/\n/ 2097152≠0/\n/ 268435456≠0):=by omega
theorem xb2e (n:Int) (hp:u32Ok n=true):xbnb n=zR [.ref 0 0 (qbp n).length true 1] [some ⟨.ints .u8 (qbp n),false⟩]:=by
 have hn:=qs7 hp
 unfold xbnb qbp
 simp only[qab]
 unfold q1q
 simp only[fd28,fd21,fd14,fd7,xb2o,xbyr]
 rcases xbcm hn with⟨h1,h2,h3,h4⟩|⟨h1,h2,h3,h4⟩|⟨h1,h2,h3,h4⟩|⟨h1,h2,h3,h4⟩|⟨h1,h2,h3,h4⟩
 ·rw[c_z h4,c_z h3,c_z h2,c_z h1,gr1 h1];rfl
 ·rw[c_z h4,c_z h3,c_z h2,c_nz h1,gr2 h1 h2];rfl
 ·rw[c_z h4,c_z h3,c_nz h2,c_nz h1,gr3 h2 h3];rfl
 ·rw[c_z h4,c_nz h3,c_nz h2,c_nz h1,gr4 h3 h4];rfl
 ·rw[c_nz h4,c_nz h3,c_nz h2,c_nz h1,gr5 h4 hn];rfl
theorem rm1 {l:List Int} {x:Option Out} (h:l.length<=1000000000):rmK l.length 1 x=x:=qx7 (by omega) (by omega) rfl
theorem xb16 (m:Nat) (n:Int) (l:List Int) (hp:(u32Ok n&&qcc l)=true):xboc m n l=zR [.ref 1 0 (l++qbp n).length true 1] [none,some ⟨.ints .u8 (l++qbp n),false⟩]:=by
 simp only[zab] at hp
 have hn:=qs7 hp.1
 have hl:=qeg hp.2
 have rm: ∀(a:List Int) {x:Option Out},a.length<=10->rmK (l++a).length 1 x=x:=fun a x h=>rm1 (by simp;omega)
 unfold xboc qbp
 simp only[qab]
 unfold qso
 simp only[fd28,fd21,fd14,fd7,xb2o,xbyr,zcs,zc3,zbo]
 rcases xbcm hn with⟨h1,h2,h3,h4⟩|⟨h1,h2,h3,h4⟩|⟨h1,h2,h3,h4⟩|⟨h1,h2,h3,h4⟩|⟨h1,h2,h3,h4⟩
 ·rw[c_z h4,c_z h3,c_z h2,c_z h1,gr1 h1,rm _ (by simp)]
 ·rw[c_z h4,c_z h3,c_z h2,c_nz h1,gr2 h1 h2,rm _ (by simp),rm _ (by simp)]
 ·rw[c_z h4,c_z h3,c_nz h2,rm _ (by simp),c_nz h1,rm _ (by simp),gr3 h2 h3,rm _ (by simp)]
 ·rw[c_z h4,c_nz h3,rm _ (by simp),c_nz h2,rm _ (by simp),c_nz h1,rm _ (by simp),gr4 h3 h4,rm _ (by simp)]
 ·rw[c_nz h4,rm _ (by simp),c_nz h3,rm _ (by simp),c_nz h2,rm _ (by simp),c_nz h1,rm _ (by simp),gr5 h4 hn,rm _ (by simp)]
theorem xb7t: ∀(f g:Nat) (n:Int) (l:List Int),0<=n->n<=4294967295->n<128 ^ g->g<f->l.length+g<=100->
  qi0 (fun y4 y5=>zR [.ref 0 0 y4 true 1] [some ⟨.ints .u8 y5,false⟩]) f n l.length l=zR [.ref 0 0 (gHi g n++l).length true 1] [some ⟨.ints .u8 (gHi g n++l),false⟩]
 | 0,g,n,l,_,_,_,h,_=>by omega
 | f+1,g,n,l,h0,hb,h1,hg,hl=>by
  show qj3 (qi0 (fun y4 y5=>zR [.ref 0 0 y4 true 1] [some ⟨.ints .u8 y5,false⟩]) f) (fun y4 y5=>zR [.ref 0 0 y4 true 1] [some ⟨.ints .u8 y5,false⟩]) n l.length l=_
  unfold qj3
  refine qae (fun h=> ?_) fun h=> ?_
  ·obtain⟨g,rfl⟩: ∃g',g=g'+1:=⟨g - 1,by
    cases g with
    | zero=>rw[Int.pow_zero] at h1;omega
    | succ g=>rfl⟩
   rw[zds] at h1
   rw[xbeh g (by omega)]
   dsimp only
   rw[zb5 h0,zb4 h0,show IntKind.u32.wrap (128+n % 128)=128+n % 128 from u32_in _ (by omega),show IntKind.u32.wrap (n/ 128)=n/ 128 from u32_in _ (by omega),show IntKind.u8.wrap (128+n % 128)=128+n % 128 from u8_in _ (by omega)]
   rw[show[128+n % 128]++l=(128+n % 128)::l from rfl]
   refine qx7 (by simp;omega) (by simp;omega) ?_
   refine(xb7t f g (n/ 128) ((128+n % 128)::l) (by omega) (by omega) (by generalize (128:Int) ^ g=X at*;omega) (by omega) (by simp only[zad];omega)).trans ?_
   simp
  ·have:n=0:=by omega
   subst this
   rw[xbuv];rfl
theorem xbj3 (n:Int) (hp:u32Ok n=true):q7k n=zR [.ref 0 0 (qbp n).length true 1] [some ⟨.ints .u8 (qbp n),false⟩]:=by
 have hn:=qs7 hp
 unfold q7k qbp qbd
 simp only[qab]
 rw[zb5 hn.1,zb4 hn.1,show IntKind.u32.wrap (n/ 128)=n/ 128 from u32_in _ (by omega),show IntKind.u8.wrap (n % 128)=n % 128 from u8_in _ (by omega)]
 exact xb7t FUEL 5 (n/ 128) [n % 128] (by omega) (by omega) (by omega) (by unfold FUEL;omega) (by simp)
theorem xbd9 (n:Int):(qbd n).length<=6:=by
 have h: ∀(f:Nat) (n:Int),(gHi f n).length<=f:=fun f=>by
  induction f with
  | zero=>intro n;simp[gHi]
  | succ f ih=>
   intro n
   unfold gHi
   split
   ·simp
   ·have:=ih (n/ 128);simp;omega
 unfold qbd
 have:=h 5 (n/ 128)
 simp;omega
theorem qqq (n:Int):qbp n=qbd n:=qab _
abbrev bO (y:List Int):Option Out:=zR [.cl (.sli .u8 y)] []
theorem xb64 (r:List Int) (hr: ∀x∈r,0<=x/\x<=4294967295) (hl:r.length<=1000): ∀(f i:Nat) (l:List Int),i<=r.length->r.length<f+i->l.length<=6*(i+1)->
  qm9 (fun _ y=>bO y) f l.length r r.length i l=bO (l++(r.drop i).flatMap qbd)
 | 0,i,l,hi,hf,_=>by omega
 | f+1,i,l,hi,hf,hll=>by
  show qot (qm9 (fun _ y=>bO y) f) (fun _ y=>bO y) l.length r r.length i l=_
  unfold qot
  refine qae (fun h=> ?_) fun h=> ?_
  ·obtain⟨c,hc⟩:=qbs (b:=r) (i:=i) (by omega)
   refine qap (by omega) hc (qaj ?_ ?_)
   ·rw[qxn (hr c (zac hc)),qfq (by omega)];rfl
   ·have:=xbd9 c
    dsimp only
    rw[qws (by omega),qqq,qcm hc]
    refine(xb64 r hr hl f (i+1) (l++qbd c) (by omega) (by omega) (by simp;omega)).trans ?_
    simp
  ·rw[qdj (by omega)];simp
theorem xb7y (o:List Int) (hr: ∀x∈o,0<=x/\x<=4294967295) (hl:o.length<=1000): ∀(f i:Nat) (l:List Int),i<=o.length->o.length<f+i->l.length<=6*(i+1)->
  qk6 (fun _ y=>bO y) f o l.length i l=bO (l++(o.drop i).flatMap qbd)
 | 0,i,l,hi,hf,_=>by omega
 | f+1,i,l,hi,hf,hll=>by
  show qme (qk6 (fun _ y=>bO y) f) (fun _ y=>bO y) o l.length i l=_
  unfold qme
  refine qae (fun h=> ?_) fun h=> ?_
  ·obtain⟨c,hc⟩:=qbs (b:=o) (i:=i) (by omega)
   have:=xbd9 c
   refine qap (by omega) hc (qaj (qxn (hr c (zac hc))) ?_)
   dsimp only
   rw[qws (by omega),qqq,qcm hc,rm1 (by simp;omega)]
   refine(xb7y o hr hl f (i+1) (l++qbd c) (by omega) (by omega) (by simp;omega)).trans ?_
   simp
  ·rw[qdj (by omega)];simp
theorem qs6 {o:List Int} (h:qcq o=true): ∃x y r,o=x::y::r/\r.length<=18/\x<=2/\(x<2->y<40)/\y<=4294967215:=by
 match o,h with
 | x::y::r,h=>
  simp only[qcq,zab,zbp,decide_eq_true_eq] at h
  exact⟨x,y,r,rfl,h.1,by omega,by omega,by omega⟩
theorem xb0z (o:List Int) (hp:qtx o=true):xbl0 o=zR [.cl (.sli .u8 (qa3 o))] []:=by
 obtain⟨hl,hr⟩:=quu hp
 unfold xbl0 qa3 qkf qfv
 simp only[qab]
 cases hf:qcq o with
 | false=>rfl
 | true=>
  obtain⟨x,y,r,rfl,hr18,hx,hxy,hy⟩:=qs6 hf
  have rx:=hr x (by simp)
  have ry:=hr y (by simp)
  rw[if_pos rfl]
  refine xbaf rfl (qan (by simp only[zad];omega) ?_)
  simp only[zao,zaz,zai]
  rw[show IntKind.u32.wrap (40*x)=40*x from u32_in _ (by omega),show IntKind.u32.wrap (40*x+y)=40*x+y from u32_in _ (by omega)]
  refine qan (by simp only[zad];omega) (qaj (qxn (by omega)) (qan (by simp only[zad];omega) ?_))
  rw[qqq]
  have:=xbd9 (40*x+y)
  exact xb64 r (fun z hz=>hr z (by simp[hz])) (by omega) FUEL 0 _ (by omega) (by unfold FUEL;omega) (by omega)
theorem xbrq (o:List Int) (hp:qtx o=true):xbgv o=zR [.cl (.sli .u8 (qa3 o))] []:=by
 obtain⟨hl,hr⟩:=quu hp
 unfold xbgv qa3 qkf qfv
 simp only[qab]
 cases hf:qcq o with
 | false=>rfl
 | true=>
  obtain⟨x,y,r,rfl,hr18,hx,hxy,hy⟩:=qs6 hf
  have rx:=hr x (by simp)
  have ry:=hr y (by simp)
  rw[if_pos rfl]
  refine xbaf rfl (qan (by simp only[zad];omega) ?_)
  simp only[zao,zaz,zai]
  rw[show IntKind.u32.wrap (40*x)=40*x from u32_in _ (by omega),show IntKind.u32.wrap (40*x+y)=40*x+y from u32_in _ (by omega)]
  refine qan (by simp only[zad];omega) (qaj (qxn (by omega)) ?_)
  rw[qqq]
  have:=xbd9 (40*x+y)
  exact xb7y (x::y::r) hr (by simp;omega) FUEL 2 _ (by simp) (by unfold FUEL;simp;omega) (by omega)
open IntWalk (i64_in u8_in u32_in u64_in i64_quo u8_quo rem_in)
abbrev inU (n:Int):Prop:=0<=n/\n<=4294967295
theorem xbx9 {n:Int} (h:inU n): ∀x∈qbd n,0<=x/\x<=255:=by
 have: ∀(f:Nat) (n:Int), ∀x∈gHi f n,0<=x/\x<=255:=fun f=>by
  induction f with
  | zero=>intro n x hx;simp[gHi] at hx
  | succ f ih=>
   intro n x hx
   unfold gHi at hx
   split at hx
   ·simp at hx
   ·rcases zap.1 hx with hx|hx
    ·exact ih _ x hx
    ·simp at hx;omega
 intro x hx
 unfold qbd at hx
 rcases zap.1 hx with hx|hx
 ·exact this _ _ x hx
 ·simp at hx;omega
def oflat:List Int->List Int
 | x::y::r=>(40*x+y)::r
 | _=>[]
theorem q8k {o:List Int} (h:qcq o=true):qfv o=(oflat o).flatMap qbd:=by
 obtain⟨x,y,r,rfl,_⟩:=qs6 h
 unfold qfv
 rw[if_pos h]
 simp[oflat]
theorem xbih {o:List Int} (h:qcq o=true) (hr: ∀n∈o,inU n): ∀n∈oflat o,inU n:=by
 obtain⟨x,y,r,rfl,h1,h2,h3,h4⟩:=qs6 h
 intro n hn
 have:=hr x (by simp)
 have:=hr y (by simp)
 rcases zaw.1 hn with rfl|hn
 ·exact⟨by omega,by omega⟩
 ·exact hr n (by simp[hn])
theorem xbiz {o:List Int} (h:qcq o=true):(oflat o).length+1=o.length:=by
 obtain⟨x,y,r,rfl,_⟩:=qs6 h;rfl
open IntWalk (i64_in u8_in u32_in u64_in i64_quo u8_quo rem_in)
theorem xbic {b:List Int} (h:num8 b=true):b.length<=8/\∀x∈b,0<=x/\x<=255:=by
 unfold num8 at h
 rw[qab,zab,decide_eq_true_eq,zaj] at h
 exact⟨h.1,fun x hx=>qj6 (h.2 x hx)⟩
theorem xbvg {b:List Int} (h:b.length<=8) (h': ∀x∈b,0<=x/\x<=255):num8 b=true:=by
 unfold num8
 rw[qab,zab,decide_eq_true_eq,zaj]
 exact⟨h,fun x hx=>decide_eq_true (h' x hx)⟩
theorem xbmu {n:Int} (h:0<=n/\n<=18446744073709551615):u64Ok n=true:=by unfold u64Ok;rw[qab];exact decide_eq_true h
theorem q68 {n:Int} (h:u64Ok n=true):0<=n/\n<=18446744073709551615:=by unfold u64Ok at h;rw[qab] at h;exact of_decide_eq_true h
abbrev xb6s:Int->Option Out:=fun y=>zR [.cl (.int .u64 y)] []
theorem xbf5 (b:List Int) (hb: ∀x∈b,0<=x/\x<=255) (hl:b.length<=8): ∀(f i:Nat) (n:Int),i<=b.length->b.length<f+i->0<=n->n<256 ^ i->
  qqs xb6s f n b (b.length:Int) i=zR [.cl (.int .u64 ((b.drop i).foldl (fun n x=>n*256+x) n))] []
 | 0,i,n,hi,hf,_,_=>by omega
 | f+1,i,n,hi,hf,h0,h1=>by
  show qsq (qqs xb6s f) xb6s n b _ i=_
  unfold qsq
  refine qae (fun h=> ?_) fun h=> ?_
  ·have hh:((256:Int) ^ i)=((256 ^ i:Nat):Int):=by rw[zdm];rfl
   have h3:(256 ^ i:Nat)<=72057594037927936:=zca (zcn (by omega) (show i<=7 by omega)) (by decide)
   have h2:n<72057594037927936:=by rw[hh] at h1;generalize 256 ^ i=z at*;omega
   obtain⟨x,hx⟩:=qbs (b:=b) (i:=i) (by omega)
   have hxr:=hb x (zac hx)
   refine qap (by omega) hx ?_
   rw[qcm hx,zbf]
   dsimp only
   rw[show IntKind.u64.wrap (n*2 ^ 8)=n*256 from(u64_in _ (by omega)).trans (by omega),show IntKind.u64.wrap x=x from u64_in _ (by omega),xbw5 h0 h2 hxr.1 hxr.2,show IntKind.u64.wrap (n*256+x)=n*256+x from u64_in _ (by omega),
    show IntKind.i64.wrap ((i:Int)+1)=((i+1:Nat):Int) from(i64_in _ (by omega)).trans (by omega)]
   exact xbf5 b hb hl f (i+1) _ (by omega) (by omega) (by omega) (by rw[zds];omega)
  ·rw[qdj (by omega)];rfl
theorem xb3g (b:List Int) (hp:num8 b=true):xbzw b=zR [.cl (.int .u64 (qhd b))] []:=by
 obtain⟨hl,hb⟩:=xbic hp
 unfold xbzw qhd
 simp only[qab]
 exact xbf5 b hb hl FUEL 0 0 (by omega) (by unfold FUEL;omega) (by omega) (by decide)
theorem xb68 (x:Int):IntKind.u8.wrap x=x % 256:=by simp[IntKind.wrap,IntKind.bits,IntKind.signed]
theorem xb7x {n:Int} (h:0<=n) (k:Nat):Int.fdiv n (2 ^ k)=n/ 2 ^ k:=zbe _ (by have:(0:Int)<2 ^ k:=Int.pow_pos (by decide);omega)
theorem nVLe (n:Int) (hp:u64Ok n=true):gVLe n=zR [.ref 0 0 8 true 1] [some ⟨.ints .u8 (vLe n),false⟩]:=by
 have h:=(q68 hp).1
 unfold gVLe vLe vLeC
 simp only[qab,xb68,xb7x h]
 simp only[show(2:Int) ^ 0=1 from rfl,show(2:Int) ^ 8=256 from rfl,show(2:Int) ^ 16=65536 from rfl,show(2:Int) ^ 24=16777216 from rfl,show(2:Int) ^ 32=4294967296 from rfl,show(2:Int) ^ 40=1099511627776 from rfl,
  show(2:Int) ^ 48=281474976710656 from rfl,show(2:Int) ^ 56=72057594037927936 from rfl,Int.ediv_one]
theorem xbia (l:List Int) (hp:xbzs l=true):xbk7 l=zR [] [some ⟨.ints .u8 (vRev l),false⟩]:=by
 have h:l.length=8:=by unfold xbzs at hp;rw[qab] at hp;exact of_decide_eq_true hp
 match l,h with
 | [a0,a1,a2,a3,a4,a5,a6,a7],_=>
  unfold vRev
  rw[qab]
  rfl
theorem xb0t (n:Int):(vLe n).length=8:=by unfold vLe;rw[qab];rfl
theorem nVBe (n:Int) (hp:u64Ok n=true):gVBe n=zR [.cl (.sli .u8 (vBe n))] []:=by
 unfold gVBe
 refine qaj hp (qaj (by unfold xbzs;rw[qab];exact decide_eq_true (xb0t n)) ?_)
 unfold vBe vRev vLe
 simp only[qab]
theorem xbm1 {n:Int} (h:0<=n):IntKind.u8.wrap (IntKind.u64.wrap ((BitVec.ofInt 64 n&&&BitVec.ofInt 64 255).toNat))=n % 256:=by
 have e1:((BitVec.ofInt 64 n&&&BitVec.ofInt 64 255).toNat:Int)=n % 256:=by
  rw[BitVec.toNat_and,zcl,show(BitVec.ofInt 64 255).toNat=2 ^ 8 - 1 from rfl,Nat.and_two_pow_sub_one_eq_mod]
  omega
 rw[e1,u64_in _ (by omega),xb68]
 omega
theorem xb4h (n:Int) (hp:u64Ok n=true):xb2a n=zR [.cl (.sli .u8 (vBe n))] []:=by
 have h:=(q68 hp).1
 have d: ∀ {m:Int},0<=m->Int.fdiv m (2 ^ 8)=m/ 256:=fun hm=>xb7x hm 8
 unfold xb2a vBe vLeC
 simp only[qab,List.reverse_cons,List.reverse_nil,zbo,zc3]
 rw[d h,d (show 0<=n/ 256 by omega),d (show 0<=n/ 256/ 256 by omega),d (show 0<=n/ 256/ 256/ 256 by omega),d (show 0<=n/ 256/ 256/ 256/ 256 by omega),d (show 0<=n/ 256/ 256/ 256/ 256/ 256 by omega),
  d (show 0<=n/ 256/ 256/ 256/ 256/ 256/ 256 by omega),xbm1 h,xbm1 (show 0<=n/ 256 by omega),xbm1 (show 0<=n/ 256/ 256 by omega),xbm1 (show 0<=n/ 256/ 256/ 256 by omega),xbm1 (show 0<=n/ 256/ 256/ 256/ 256 by omega),
  xbm1 (show 0<=n/ 256/ 256/ 256/ 256/ 256 by omega),xbm1 (show 0<=n/ 256/ 256/ 256/ 256/ 256/ 256 by omega),xbm1 (show 0<=n/ 256/ 256/ 256/ 256/ 256/ 256/ 256 by omega)]
 rw[show n/ 256/ 256=n/ 65536 by omega,show n/ 65536/ 256=n/ 16777216 by omega,show n/ 16777216/ 256=n/ 4294967296 by omega,show n/ 4294967296/ 256=n/ 1099511627776 by omega,
  show n/ 1099511627776/ 256=n/ 281474976710656 by omega,show n/ 281474976710656/ 256=n/ 72057594037927936 by omega]
theorem xbd3 {l:List Int} (h: ∀x∈l,0<=x/\x<=255) (h8:l.length<=8):qad l=true:=qc5 (by omega) h
theorem xbxt (n:Int): ∀x∈vBe n,0<=x/\x<=255:=by
 unfold vBe vLeC
 rw[qab]
 intro x hx
 rw[List.mem_reverse] at hx
 simp only[zaw,zcz,or_false] at hx
 rcases hx with rfl|rfl|rfl|rfl|rfl|rfl|rfl|rfl<;>omega
theorem xbfd (n:Int):(vBe n).length=8:=by unfold vBe;rw[qab];rfl
theorem xbbe (a b:Int) (r:List Int):xbnk (a::b::r)=if(a=0/\b<128)\/(a=255/\128<=b) then xbnk (b::r) else a::b::r:=by
 conv=>lhs;unfold xbnk
abbrev xbj1:List Int->Option Out:=fun y=>zR [.cl (.agg [.int .i64 2,.sli .u8 y,.slg 3 []])] []
theorem xbno: ∀(f:Nat) (l:List Int),l.length<f->qsw xbj1 f l=xbj1 (xbnk l)
 | 0,l,h=>by omega
 | f+1,l,h=>by
  show qv4 (qsw xbj1 f) xbj1 l=_
  unfold qv4
  match l,h with
  | [],_=>exact qb2 (by simp) rfl
  | [a],_=>exact qb2 (by simp) rfl
  | a::b::r,h=>
   have again:=xbno f (b::r) (by simp only[zad] at h ⊢;omega)
   generalize qsw xbj1 f=ag at again ⊢
   have l1:(1:Int)<(((a::b::r).length:Nat):Int):=by simp only[zad];omega
   rw[xbbe]
   refine qan l1 (qan (by omega) ?_)
   show cond (decide (a=0)) _ _=_
   refine qae (fun h0=>qan l1 ?_) fun h0=>qan (by omega) ?_
   ·show cond (decide (b<128)) _ _=_
    refine qae (fun h1=>qan (by omega) ?_) fun h1=>qan (by omega) ?_
    ·rw[if_pos (.inl ⟨h0,h1⟩)];exact again
    ·show cond (decide (a=255)) _ _=_
     rw[if_neg (by omega)]
     exact qb2 (by omega) rfl
   ·show cond (decide (a=255)) _ _=_
    refine qae (fun h1=>qan l1 ?_) fun h1=> ?_
    ·show cond (decide (128<=b)) _ _=_
     refine qae (fun h2=>qan (by omega) ?_) fun h2=> ?_
     ·rw[if_pos (.inr ⟨h1,h2⟩)];exact again
     ·rw[if_neg (by omega)]
    ·rw[if_neg (by omega)]
theorem xb22 (n:Int):IntKind.u64.wrap n=n % 18446744073709551616:=by simp[IntKind.wrap,IntKind.bits,IntKind.signed]
theorem xbmr (n:Int):vInt n=xbnk (vBe (n % 18446744073709551616)):=by unfold vInt xb63 vBe;rw[qab,qab]
theorem xb85 (n:Int) (hp:qz6 n=true):xb7f n=zR [.cl (.agg [.int .i64 2,.sli .u8 (vInt n),.slg 3 qb7])] []:=by
 unfold xb7f
 rw[xb22]
 refine qaj (xbmu (by omega)) ?_
 simp only[qab]
 rw[xbmr]
 unfold qb7
 rw[qab]
 exact xbno FUEL _ (by rw[xbfd];unfold FUEL;omega)
theorem xbe0 {a b:Int} {r:List Int} (ha:0<=a/\a<=255) (hb:0<=b/\b<=255):(qbk 2 (a::b::r)=false)↔((a=0/\b<128)\/(a=255/\128<=b)):=by
 unfold qbk
 rw[if_neg (by decide),if_pos rfl]
 unfold qju
 simp
 omega
theorem xbel: ∀(f:Nat) (l:List Int),l.length<f->(∀x∈l,0<=x/\x<=255)->l.length<=8->qqt xbj1 f l=xbj1 (xbnk l)
 | 0,l,h,_,_=>by omega
 | f+1,l,h,hb,h8=>by
  show qsz (qqt xbj1 f) xbj1 l=_
  unfold qsz
  match l,h with
  | [],_=>exact qb2 (by simp) rfl
  | [a],_=>exact qb2 (by simp) rfl
  | a::b::r,h=>
   have again:=xbel f (b::r) (by simp only[zad] at h ⊢;omega) (fun x hx=>hb x (zba _ hx)) (by simp only[zad] at h8 ⊢;omega)
   have l1:(1:Int)<(((a::b::r).length:Nat):Int):=by simp only[zad];omega
   have key:=xbe0 (r:=r) (hb a (by simp)) (hb b (by simp))
   refine qan l1 (qaj (xbd3 hb h8) ?_)
   dsimp only
   unfold qcu
   rw[qab,xbbe]
   cases hd:qbk 2 (a::b::r) with
   | false=>rw[if_pos (key.1 hd)];exact qan (by omega) again
   | true=>rw[if_neg (fun h=>by rw[key.2 h] at hd;cases hd)];rfl
theorem xb4i (n:Int) (hp:qz6 n=true):xbu2 n=zR [.cl (.agg [.int .i64 2,.sli .u8 (vInt n),.slg 3 qb7])] []:=by
 unfold xbu2
 rw[xb22]
 refine qaj (xbmu (by omega)) ?_
 simp only[qab]
 rw[xbmr]
 unfold qb7
 rw[qab]
 exact xbel FUEL _ (by rw[xbfd];unfold FUEL;omega) (xbxt _) (by rw[xbfd];omega)
open IntWalk (i64_in u8_in u32_in u64_in i64_quo u8_quo rem_in)
theorem xb7m (n:Int):IntKind.i64.wrap n=if 9223372036854775808<=n % 18446744073709551616 then n % 18446744073709551616 - 18446744073709551616 else n % 18446744073709551616:=by
 simp[IntKind.wrap,IntKind.bits,IntKind.signed]
theorem xbp5 (h:Int) (r:List Int):qa1 (h::r)=h*256 ^ r.length+qa1 r:=by
 unfold qa1
 have key: ∀(r:List Int) (a:Int),r.foldl (fun n x=>n*256+x) a=a*256 ^ r.length+r.foldl (fun n x=>n*256+x) 0:=by
  intro r
  induction r with
  | nil=>intro a;simp
  | cons x r ih=>
   intro a
   rw[zbf,zbf,show(0:Int)*256+x=x by omega,ih,ih x,zad,zds]
   generalize (256:Int) ^ r.length=z
   generalize r.foldl (fun n x=>n*256+x) 0=y
   rw[Int.add_mul,Int.mul_assoc,zdr 256 z]
   omega
 rw[zbf,key]
 simp
theorem xbtp {b:List Int} (hb: ∀x∈b,0<=x/\x<=255) {L:Nat} (hL:b.length=L+1):0<=qa1 b/\qa1 b<256*256 ^ L/\(128<=b.headD 0↔128*256 ^ L<=qa1 b):=by
 cases b with
 | nil=>simp at hL
 | cons h r=>
  have h1:=hb h (by simp)
  have h2:=qry (b:=r) fun x hx=>hb x (zba _ hx)
  have hr:r.length=L:=by simpa using hL
  rw[xbp5,hr]
  rw[hr] at h2
  have hp:(0:Int)<256 ^ L:=Int.pow_pos (by decide)
  simp only[zbv]
  generalize (256:Int) ^ L=z at*
  generalize qa1 r=y at*
  have m1:h*z<=255*z:=zcv h1.2 (by omega)
  have m0:0<=h*z:=Int.mul_nonneg h1.1 (by omega)
  refine⟨by omega,by omega,fun hh=> ?_,fun hh=> ?_⟩
  ·have:128*z<=h*z:=zcv hh (by omega)
   omega
  ·by_cases hc:128<=h
   ·exact hc
   ·have:h*z<=127*z:=zcv (by omega) (by omega)
    omega
theorem xbwg (b:List Int) (hb: ∀x∈b,0<=x/\x<=255) (hl:b.length<=8):Int.fdiv (IntKind.i64.wrap (IntKind.u64.wrap (qa1 b*2 ^ (64 - 8*b.length)))) (2 ^ (64 - 8*b.length))=xb3h b:=by
 unfold xb3h
 by_cases h0:b=[]
 ·subst h0
  simp[qa1,xb22,xb7m]
 obtain⟨L,hL⟩: ∃L,b.length=L+1:=⟨b.length - 1,by have:=List.length_pos_iff.2 h0;omega⟩
 obtain⟨h1,h2,h3⟩:=xbtp hb hL
 rw[hL] at hl ⊢
 generalize qa1 b=u at*
 have key: ∀(p q:Int),0<p->p*q=9223372036854775808->u<2*q->(128<=b.headD 0↔q<=u)->Int.fdiv (IntKind.i64.wrap (IntKind.u64.wrap (u*p))) p=if 128<=b.headD 0 then u - 2*q else u:=fun p q hp hpq hu hh=>by
  have hm:u*p<2*(p*q):=by
   have:u*p<2*q*p:=Int.mul_lt_mul_of_pos_right hu hp
   rw[Int.mul_assoc,zdr q p] at this
   exact this
  have h00:0<=u*p:=Int.mul_nonneg h1 (by omega)
  rw[xb22,Int.emod_eq_of_lt h00 (by omega),xb7m,Int.emod_eq_of_lt h00 (by omega)]
  by_cases hc:q<=u
  ·have hge:p*q<=u*p:=by rw[zdr p q];exact zcv hc (by omega)
   rw[if_pos (by omega),if_pos (hh.2 hc),show u*p - 18446744073709551616=(u - 2*q)*p by rw[Int.sub_mul,Int.mul_assoc,zdr q p];omega,zbe _ (by omega),Int.mul_ediv_cancel _ (by omega)]
  ·have hlt:u*p<p*q:=by rw[zdr p q];exact Int.mul_lt_mul_of_pos_right (by omega) hp
   rw[if_neg (by omega),if_neg (fun h=>hc (hh.1 h)),zbe _ (by omega),Int.mul_ediv_cancel _ (by omega)]
 have hLe:L=0\/L=1\/L=2\/L=3\/L=4\/L=5\/L=6\/L=7:=by omega
 rcases hLe with rfl|rfl|rfl|rfl|rfl|rfl|rfl|rfl
 ·exact key 72057594037927936 128 (by decide) (by decide) (by omega) (by omega)
 ·exact key 281474976710656 32768 (by decide) (by decide) (by omega) (by omega)
 ·exact key 1099511627776 8388608 (by decide) (by decide) (by omega) (by omega)
 ·exact key 4294967296 2147483648 (by decide) (by decide) (by omega) (by omega)
 ·exact key 16777216 549755813888 (by decide) (by decide) (by omega) (by omega)
 ·exact key 65536 140737488355328 (by decide) (by decide) (by omega) (by omega)
 ·exact key 256 36028797018963968 (by decide) (by decide) (by omega) (by omega)
 ·exact key 1 9223372036854775808 (by decide) (by decide) (by omega) (by omega)
theorem xbyu {a b c d:Int} (h1:a=c) (h2:b=d):zR [.cl (.int .i64 a),.cl (.int .i64 b)] []=zR [.cl (.int .i64 c),.cl (.int .i64 d)] []:=by rw[h1,h2]
theorem xbqo (b:List Int) (hp:qad b=true):xbaq b=zR [.cl (.int .i64 (qpq b).1),.cl (.int .i64 (qpq b).2)] []:=by
 obtain⟨hlen,hb⟩:=qam hp
 unfold xbaq qpq q4h
 rw[qab]
 refine qae (fun h=> ?_) fun h=> ?_
 ·rw[if_pos (by omega)]
 ·rw[if_neg (by omega)]
  have e1:IntKind.i64.wrap ((8:Int)*(b.length:Int))=((8*b.length:Nat):Int):=(i64_in _ (by omega)).trans (by omega)
  have e2:IntKind.i64.wrap ((64:Int) - ((8*b.length:Nat):Int))=((64 - 8*b.length:Nat):Int):=(i64_in _ (by omega)).trans (by omega)
  dsimp only
  rw[e1,e2]
  refine qaj (xbvg (by omega) hb) (qb2 (by omega) (qb2 (by omega) (xbyu ?_ rfl)))
  rw[show min ((64 - 8*b.length:Nat):Int).toNat 64=64 - 8*b.length by omega]
  unfold qhd
  rw[qab]
  exact xbwg b hb (by omega)
open IntWalk (i64_in u8_in u32_in u64_in i64_quo u8_quo rem_in)
theorem xbl5 {g:Int} {b:List Int} (hb: ∀x∈b,0<=x/\x<=255):isTf 1 [.int .i64 g,.sli .u8 b,.slg 3 []]=true:=by
 show(b.all xbob&&true)=true
 rw[Bool.and_true,zaj]
 exact fun x hx=>decide_eq_true (hb x hx)
theorem xbd1 {g:Int} {b:List Int} (hb: ∀x∈b,0<=x/\x<=255) (hl:b.length<=29999):isS [.int .i64 g,.sli .u8 b,.slg 3 []]=true:=
 xbfa (xbl5 hb) (by unfold qdr;simp;omega)
theorem xbgk {g:Int} {b:List Int} (hb: ∀x∈b,0<=x/\x<=255) (hg:qaq g=false):q1m [.int .i64 g,.sli .u8 b,.slg 3 []]=(qbf g&&qbk g b):=by
 rw[xbfx (xbl5 hb)]
 unfold okF qak
 simp[hg]
theorem qnd {t:Int} {b:List Int} {k:List CV} (h:isS [.int .i64 t,.sli .u8 b,.slg 3 k]=true):b.length<=29999/\∀x∈b,0<=x/\x<=255:=by
 obtain⟨n,hn,hB⟩:=qdx h
 obtain⟨m,t',b',l',rfl,e,hb,_⟩:=qds hn
 cases e
 refine⟨?_,hb⟩
 change 1+b.length+_<=30000 at hB
 omega
theorem xbn6 {t:Int} {b:List Int} {k:List CV} (h:isS [.int .i64 t,.sli .u8 b,.slg 3 k]=true):qad b=true:=qc5 (by have:=(qnd h).1;omega) (qnd h).2
theorem xbpg {g t:Int} {b:List Int} {k:List CV} (h:t=g) (hk:k.length=0) (hd:qbk g b=false):quk g t b k=5:=by unfold quk;rw[if_neg (by simp[h]),if_pos (.inr hd)]
theorem xbl8 {g t:Int} {b:List Int} {k:List CV} (h:t=g) (hk:k.length=0) (hd:qbk g b=true):quk g t b k=0:=by unfold quk;rw[if_neg (by simp[h]),if_neg (by simp[hk,hd])]
theorem xbbv {g t:Int} {b:List Int} {k:List CV} (h: ¬t=g):quk g t b k=4:=by unfold quk;rw[if_pos h]
theorem q5l {g t:Int} {b:List Int} {k:List CV} (h:t=g) (hk:0<k.length):quk g t b k=5:=by unfold quk;rw[if_neg (by simp[h]),if_pos (.inl (by omega))]
theorem xbt5 {g t:Int} {b:List Int} {k:List CV} (h:quk g t b k=0):t=g/\k.length=0/\qbk g b=true:=by
 unfold quk at h
 split at h
 ·omega
 ·split at h
  ·omega
  ·rename_i h1 h2
   refine⟨by omega,by omega, ?_⟩
   cases hd:qbk g b with
   | true=>rfl
   | false=>exact absurd (.inr hd) h2
theorem xblg {g t:Int} {b:List Int} {k:List CV} {bad:Int->Option Out} {good:Option Out} (hS:isS [.int .i64 t,.sli .u8 b,.slg 3 k]=true) (hk:qbf g=true) (hb:qaq g=false):
  cond (!decide (t=g)) (bad 4) (cond (decide ((0:Int)<(k.length:Int))) (bad 5) (cond (isS [.int .i64 g,.sli .u8 b,.slg 3 []]) (cond (!(q1m [.int .i64 g,.sli .u8 b,.slg 3 []])) (bad 5) good) none))=if quk g t b k=0 then good else bad (quk g t b k):=by
 obtain⟨h1,h2⟩:=qnd hS
 refine qas (fun h=> ?_) fun h=>qae (fun h'=> ?_) fun h'=>qaj (xbd1 h2 h1) ?_
 ·rw[xbbv h];rfl
 ·rw[q5l h (by omega)];rfl
 ·rw[xbgk h2 hb,hk,zbm]
  cases hd:qbk g b with
  | false=>rw[xbpg h (by omega) hd];rfl
  | true=>rw[xbl8 h (by omega) hd];rfl
theorem xbky (t:Int) (b:List Int) (k:List CV) (hp:isS [.int .i64 t,.sli .u8 b,.slg 3 k]=true):q7n t b k=zR [.cl (.int .i64 (qdo t b k).1),.cl (.int .i64 (qdo t b k).2)] []:=by
 unfold q7n
 dsimp only
 refine(xblg (bad:=fun e=>zR [.cl (.int .i64 0),.cl (.int .i64 e)] []) hp rfl rfl).trans ?_
 unfold qdo
 rw[qab]
 by_cases h:quk 2 t b k=0
 ·rw[if_pos h,if_pos h]
  refine qaj (xbn6 hp) ?_
  unfold qpq
  rw[qab]
 ·rw[if_neg h,if_neg h]
theorem xbxh (t:Int) (b:List Int) (k:List CV) (hp:isS [.int .i64 t,.sli .u8 b,.slg 3 k]=true):xblx t b k=zR [.cl (.sli .u32 (qp0 t b k).1),.cl (.int .i64 (qp0 t b k).2)] []:=by
 unfold xblx
 dsimp only
 refine(xblg (bad:=fun e=>zR [.cl (.sli .u32 []),.cl (.int .i64 e)] []) hp rfl rfl).trans ?_
 unfold qp0
 rw[qab]
 by_cases h:quk 6 t b k=0
 ·rw[if_pos h,if_pos h];exact qaj (xbn6 hp) rfl
 ·rw[if_neg h,if_neg h]
theorem xbxv (t:Int) (b:List Int) (k:List CV) (hp:isS [.int .i64 t,.sli .u8 b,.slg 3 k]=true):xby7 t b k=zR [.cl (.int .i64 (qdo t b k).1),.cl (.int .i64 (qdo t b k).2)] []:=qaj hp rfl
theorem xb3a (t:Int) (b:List Int) (k:List CV) (hp:isS [.int .i64 t,.sli .u8 b,.slg 3 k]=true):xb50 t b k=zR [.cl (.sli .u32 (qp0 t b k).1),.cl (.int .i64 (qp0 t b k).2)] []:=qaj hp rfl
theorem fits4 (b:List Int):qbk 4 b=true:=rfl
theorem xbis (t:Int) (b:List Int) (k:List CV) (hp:isS [.int .i64 t,.sli .u8 b,.slg 3 k]=true):q6n t b k=zR [.cl (.sli .u8 (qbb t b k).1),.cl (.int .i64 (qbb t b k).2)] []:=by
 unfold q6n qbb
 rw[qab]
 refine qas (fun h=> ?_) fun h=>qae (fun h'=> ?_) fun h'=>qaj (qfq (by have:=(qnd hp).1;omega)) ?_
 ·rw[xbbv h];rfl
 ·rw[q5l h (by omega)];rfl
 ·rw[xbl8 h (by omega) (fits4 b)];rfl
open IntWalk (i64_in u8_in u32_in u64_in i64_quo u8_quo rem_in)
abbrev W3 (c:CV):Prop:= ∃t b k,c=.agg [.int .i64 t,.sli .u8 b,.slg 3 k]/\isS [.int .i64 t,.sli .u8 b,.slg 3 k]=true
abbrev bad2:Option Out:=zR [.cl (.agg [.int .i64 0,.sli .u8 [],.slg 3 []]),.cl (.int .i64 1)] []
open IntWalk (i64_in u8_in u32_in u64_in i64_quo u8_quo rem_in)
theorem qde:qb7=[]:=qab _
theorem xb3n:vInt 1=[1]:=by unfold vInt;rw[qab];rfl
open IntWalk (i64_in u8_in u32_in u64_in i64_quo u8_quo rem_in)
theorem qux {g:Int} {b:List Int} (h:qq3 g b=true):(g=12\/g=6\/g=24)/\b.length<=2000/\∀x∈b,0<=x/\x<=255:=by
 unfold qq3 at h
 rw[qab,zab,decide_eq_true_eq,zaj] at h
 exact⟨h.1.1,h.1.2,fun x hx=>qj6 (h.2 x hx)⟩
theorem xbhy {g:Int} {b:List Int} (h:g=12\/g=6\/g=24) (h':b.length<=2000) (hb: ∀x∈b,0<=x/\x<=255):qq3 g b=true:=by
 unfold qq3
 rw[qab,zab,decide_eq_true_eq,zaj]
 exact⟨⟨h,h'⟩,fun x hx=>decide_eq_true (hb x hx)⟩
theorem xbao {g:Int} {b:List Int} (h:qbk g b=true):qfy g b=(g,b,0):=by unfold qfy xbjb;rw[qab,if_pos h]
theorem xbeo {g:Int} {b:List Int} (h:qbk g b=false):qfy g b=(0,[],5):=by unfold qfy xbjb;rw[qab,if_neg (by rw[h];simp)]
theorem xb59 (g:Int) (b:List Int) (hp:qq3 g b=true):xbv4 g b=zR [.cl (.agg [.int .i64 (qfy g b).1,.sli .u8 (qfy g b).2.1,.slg 3 qb7]),.cl (.int .i64 (qfy g b).2.2)] []:=by
 obtain⟨hg,hl,hb⟩:=qux hp
 have hk:qbf g=true/\qaq g=false:=by rcases hg with rfl|rfl|rfl<;>exact⟨rfl,rfl⟩
 unfold xbv4
 refine qaj (xbd1 hb (by omega)) ?_
 rw[xbgk hb hk.2,hk.1,zbm,qde]
 cases hd:qbk g b with
 | false=>rw[xbeo hd];rfl
 | true=>rw[xbao hd];rfl
theorem xbwb (g:Int) (b:List Int) (hp:qq3 g b=true):xbmg g b=zR [.cl (.agg [.int .i64 (qfy g b).1,.sli .u8 (qfy g b).2.1,.slg 3 qb7]),.cl (.int .i64 (qfy g b).2.2)] []:=by
 obtain⟨hg,hl,hb⟩:=qux hp
 unfold xbmg qcu
 rw[qab,qde]
 refine qaj (qc5 (by omega) hb) ?_
 cases hd:qbk g b with
 | false=>rw[xbeo hd];rfl
 | true=>rw[xbao hd];rfl
theorem q60 {o:List Int} (h:idOk o=true):o.length<=50/\∀n∈o,inU n:=by
 unfold idOk at h
 rw[qab,zab,decide_eq_true_eq,zaj] at h
 exact⟨h.1,fun x hx=>of_decide_eq_true (h.2 x hx)⟩
theorem q5x {o:List Int} (h:o.length<=50) (h': ∀n∈o,inU n):idOk o=true:=by
 unfold idOk
 rw[qab,zab,decide_eq_true_eq,zaj]
 exact⟨h,fun x hx=>decide_eq_true (h' x hx)⟩
theorem xb17 {o:List Int} (h:idOk o=true):qtx o=true:=by
 obtain⟨h1,h2⟩:=q60 h
 unfold qtx
 rw[qab,zab,decide_eq_true_eq,zaj]
 exact⟨by omega,fun x hx=>decide_eq_true (h2 x hx)⟩
theorem xbo9 {o:List Int} (h:qcq o=true):2<=o.length/\o.length<=20:=by
 unfold qcq at h
 split at h
 ·simp at h
  simp
  omega
 ·cases h
theorem xbj4 {o:List Int} (hr: ∀n∈o,inU n):(qa3 o).length<=2000/\∀x∈qa3 o,0<=x/\x<=255:=by
 rw[show qa3 o=qfv o from qab _]
 by_cases h:qcq o=true
 ·rw[q8k h]
  have hl:=xbiz h
  have hf:=xbo9 h
  have hg: ∀(l:List Int),(l.flatMap qbd).length<=6*l.length:=fun l=>by
   induction l with
   | nil=>simp
   | cons a l ih=>have:=xbd9 a;simp at*;omega
  have:=hg (oflat o)
  refine⟨by omega,fun x hx=> ?_⟩
  obtain⟨n,hn,hx⟩:=zbs.1 hx
  exact xbx9 (xbih h hr n hn) x hx
 ·unfold qfv
  rw[if_neg h]
  exact⟨by simp,by simp⟩
theorem xbmf {o:List Int} (h:idOk o=true):qq3 6 (qa3 o)=true:=
 let ⟨h1,h2⟩:=xbj4 (q60 h).2
 xbhy (.inr (.inl rfl)) h1 h2
theorem nVId (o:List Int) (hp:idOk o=true):gVId o=zR [.cl (.agg [.int .i64 (qfy 6 (qa3 o)).1,.sli .u8 (qfy 6 (qa3 o)).2.1,.slg 3 qb7]),.cl (.int .i64 (qfy 6 (qa3 o)).2.2)] []:=qaj (xb17 hp) (qaj (xbmf hp) rfl)
theorem xb8a (o:List Int) (hp:idOk o=true):xb8t o=zR [.cl (.agg [.int .i64 (qfy 6 (qa3 o)).1,.sli .u8 (qfy 6 (qa3 o)).2.1,.slg 3 qb7]),.cl (.int .i64 (qfy 6 (qa3 o)).2.2)] []:=qaj (xb17 hp) (qaj (xbmf hp) rfl)
theorem xbx2 (b:List Int) (hp:qcc b=true):xbxf b=zR [.cl (.agg [.int .i64 4,.sli .u8 b,.slg 3 qb7])] []:=by rw[qde];exact qaj hp rfl
theorem xbp6 (b:List Int) (hp:qcc b=true):xbpv b=zR [.cl (.agg [.int .i64 4,.sli .u8 b,.slg 3 qb7])] []:=by rw[qde];rfl
open IntWalk (i64_in u8_in u32_in u64_in i64_quo u8_quo rem_in)
theorem q81 {l:List CV} (h:qbr l=true):l.length<=100000000:=by unfold qbr at h;rw[qab] at h;exact of_decide_eq_true h
theorem qnp {l:List CV} (h:l.length<=100000000):qbr l=true:=by unfold qbr;rw[qab];exact decide_eq_true h
theorem qbq:qa0=[]:=qab _
theorem xbyd (l:List CV) (hp:qbr l=true):xbmh l=zR [.cl (.slg 3 l)] []:=by
 have hp:=q81 hp
 unfold xbmh
 simp only[zbo]
 refine qch (fun h=> ?_) fun h=> ?_
 ·have h:=zau (qaf.1 h)
  subst h
  unfold xbpo
  rw[if_pos (Eq.symm (qx7 (by simp) (by simp) rfl))]
 ·exact qx7 (by omega) (by omega) rfl
theorem xb74 (l:List CV) (hp:qbr l=true):xb8w l=zR [.cl (.agg [.int .i64 48,.sli .u8 qa0,.slg 3 l])] []:=by rw[qbq];exact qaj hp rfl
theorem xb3q (l:List CV) (hp:qbr l=true):xb4n l=zR [.cl (.agg [.int .i64 48,.sli .u8 qa0,.slg 3 l])] []:=by rw[qbq];rfl
theorem q6b {g:Int} {l:List CV} (h:0<=g/\g<=30):vBox g l=(160+g,l,0):=by unfold vBox xb6f;rw[qab,if_pos h]
theorem q6h {g:Int} {l:List CV} (h: ¬(0<=g/\g<=30)):vBox g l=(0,[],8):=by unfold vBox xb6f;rw[qab,if_neg h]
theorem xb8c (g:Int) (l:List CV) (hp:qbr l=true):xb7q g l=zR [.cl (.agg [.int .i64 (vBox g l).1,.sli .u8 qa0,.slg 3 (vBox g l).2.1]),.cl (.int .i64 (vBox g l).2.2)] []:=by
 unfold xb7q
 rw[qbq]
 refine qae (fun h=> ?_) fun h=>qae (fun h'=> ?_) fun h'=> ?_
 ·rw[q6h (by omega)]
 ·rw[q6h (by omega)]
 ·rw[q6b (by omega),show IntKind.i64.wrap ((160:Int)+g)=160+g from i64_in _ (by omega)]
  exact qaj hp rfl
theorem xb5m (g:Int) (l:List CV) (hp:qbr l=true):xby3 g l=zR [.cl (.agg [.int .i64 (vBox g l).1,.sli .u8 qa0,.slg 3 (vBox g l).2.1]),.cl (.int .i64 (vBox g l).2.2)] []:=by
 unfold xby3
 rw[qbq]
 refine qae (fun h=> ?_) fun h=>qae (fun h'=> ?_) fun h'=> ?_
 ·rw[q6h (by omega)]
 ·rw[q6h (by omega)]
 ·rw[q6b (by omega),show IntKind.i64.wrap ((160:Int)+g)=160+g from i64_in _ (by omega)]
theorem xbjw {g t:Int} {b:List Int} {k:List CV} (h: ¬t=g):qb8 g t b k=([],4):=by unfold qb8 q3t;rw[qab,if_pos (.inl h)]
theorem xbiv {g t:Int} {b:List Int} {k:List CV} (h:qaq g=false):qb8 g t b k=([],4):=by unfold qb8 q3t;rw[qab,if_pos (.inr h)]
theorem xbw0 {g t:Int} {b:List Int} {k:List CV} (h:t=g) (hb:qaq g=true) (hl:b.length≠0):qb8 g t b k=([],5):=by
 unfold qb8 q3t;rw[qab,if_neg (by rw[hb];rintro(e|e);exact e h;cases e),if_pos hl]
theorem xby2 {g t:Int} {b:List Int} {k:List CV} (h:t=g) (hb:qaq g=true) (hl: ¬b.length≠0):qb8 g t b k=(k,0):=by
 unfold qb8 q3t;rw[qab,if_neg (by rw[hb];rintro(e|e);exact e h;cases e),if_neg hl]
theorem xbwa {g t:Int} {b:List Int} {k:List CV} {bad:Int->Option Out} {good:Option Out}:
  cond (!decide (t=g)) (bad 4) (cond (!qbn g) (bad 4) (cond (decide ((0:Int)<(b.length:Int))) (bad 5) good))=if(qb8 g t b k).2=0 then good else bad (qb8 g t b k).2:=by
 unfold qbn
 rw[qab]
 refine qas (fun h=> ?_) fun h=> ?_
 ·rw[xbjw h];rfl
 ·cases hb:qaq g with
  | false=>rw[xbiv hb];rfl
  | true=>
   refine(qae (fun h'=> ?_) fun h'=> ?_:cond (decide ((0:Int)<(b.length:Int))) (bad 5) good=_)
   ·rw[xbw0 h hb (by omega)];rfl
   ·rw[xby2 h hb (by omega)];rfl
theorem qmp {g t:Int} {b:List Int} {k:List CV} (h:(qb8 g t b k).2=0):(qb8 g t b k).1=k:=by
 unfold qb8 q3t at h ⊢
 simp only[qab] at h ⊢
 split at h
 ·simp at h
 ·split at h
  ·simp at h
  ·rename_i h1 h2;rw[if_neg h1,if_neg h2]
theorem q4j {g t:Int} {b:List Int} {k:List CV} (h: ¬(qb8 g t b k).2=0):(qb8 g t b k).1=[]:=by
 unfold qb8 q3t at h ⊢
 simp only[qab] at h ⊢
 split
 ·rfl
 ·split
  ·rfl
  ·rename_i h1 h2;rw[if_neg h1,if_neg h2] at h;simp at h
theorem xb42 (t:Int) (b:List Int) (k:List CV) (g:Int) (hp:qbr k=true):xbzk t b k g=zR [.cl (.slg 3 (qb8 g t b k).1),.cl (.int .i64 (qb8 g t b k).2)] []:=by
 unfold xbzk
 refine(xbwa (k:=k) (bad:=fun e=>zR [.cl (.slg 3 []),.cl (.int .i64 e)] [])).trans ?_
 by_cases h:(qb8 g t b k).2=0
 ·rw[if_pos h,qmp h,h];exact qaj hp rfl
 ·rw[if_neg h,q4j h]
theorem qh0 {α:Type} {l:List α} {i:Nat} {x:α} (h:l[i]? =some x):l.drop i=x::l.drop (i+1):=by
 obtain⟨hi,e⟩:=zae.1 h
 rw[zbw hi,e]
open IntWalk (i64_in u8_in u32_in u64_in i64_quo u8_quo rem_in)
theorem xbps {t:Int} {b:List Int} {k:List CV} (h:isN [.int .i64 t,.sli .u8 b,.slg 3 k]=true):k.length<=100000000/\∀c∈k, ∃y,c=.agg y/\isN y=true:=by
 obtain⟨n,hn⟩:=xbp3 h
 obtain⟨_,_,_,_,_,e,h1,h2,h3⟩:=xb3x hn
 cases e
 exact⟨h2,fun c hc=>by obtain⟨y,e,hy⟩:=h3 c hc;exact⟨y,e,xb1n hy⟩⟩
open IntWalk (i64_in u8_in u32_in u64_in i64_quo u8_quo rem_in)
theorem xb06: ∀ {k m:Nat} {y:List CV},isTf k y=true->k<=m->isTf m y=true
 | k,m,y,hy,hkm=>by
  obtain⟨k',t,b,l,rfl,rfl,hb,hl⟩:=qds hy
  obtain⟨m,rfl⟩: ∃q,m=q+1:=⟨m - 1,by omega⟩
  refine xb25 hb fun c hc=> ?_
  obtain⟨z,rfl,hz⟩:=hl c hc
  exact⟨z,rfl,xb06 hz (by omega)⟩
open IntWalk (i64_in u8_in u32_in u64_in i64_quo u8_quo rem_in)
open IntWalk (i64_in u8_in u32_in u64_in i64_quo u8_quo rem_in)
theorem xbfl {P:Int->Prop} {lo:Int} {m:Nat} (h: ∀n:Nat,n<m->P ((n:Int)+lo)) {g:Int} (h1:lo<=g) (h2:g<lo+m):P g:=by
 have:=h (g - lo).toNat (by omega)
 rwa [show(((g - lo).toNat:Nat):Int)+lo=g by omega] at this
theorem q1s: ∀e∈qhi,(1<=e.1/\e.1<=93)/\(e.2.2.length<=10/\∀x∈e.2.2,0<=x/\x<=4294967295):=by decide+kernel
theorem q7r {g:Int} (h: ¬(1<=g/\g<=93)):qaw g=(0,0,[]):=by
 unfold qaw
 rw[List.find?_eq_none.2 fun e he=> ?_]
 ·rfl
 ·have:=(q1s e he).1
  simp
  omega
theorem q6e (g:Int):qaw g=(0,0,[])\/(qaw g∈qhi/\(qaw g).1=g):=by
 unfold qaw
 cases h:qhi.find? fun e=>decide (e.1=g) with
 | none=>exact .inl rfl
 | some e=>exact .inr ⟨List.mem_of_find?_eq_some h,by have:=List.find?_some h;simpa using this⟩
theorem qwd (g:Int):(qaw g).2.2.length<=10/\∀x∈(qaw g).2.2,inU x:=by
 rcases q6e g with h|h
 ·rw[h];exact⟨by simp,by simp⟩
 ·exact(q1s _ h.1).2
theorem qmq (g:Int):qa4 g=qaw g:=qab _
abbrev rowE (e:Int×Int×List Int):List CV:=[.agg [.int .i64 e.1,.int .i64 e.2.1,.sli .u32 e.2.2]]
theorem q7b:qpw=qhi.map rowE:=qab _
theorem xbnw:List.all qpw qnr=true:=by
 rw[q7b]
 kernel_rfl
theorem xbt0 (hp:true=true):xbry=zR [.ref 0 0 8 true 1] [some ⟨.ints .u32 [2,16,840,1,101,3,4,2],false⟩]:=rfl
theorem xbof (hp:true=true):xbpc=zR [.ref 0 0 8 true 1] [some ⟨.ints .u32 [2,16,840,1,101,3,4,3],false⟩]:=rfl
theorem xbp4 (hp:true=true):xbtg=zR [.ref 0 0 8 true 1] [some ⟨.ints .u32 [2,16,840,1,101,3,4,4],false⟩]:=rfl
theorem xbta (hp:true=true):xbot=zR [.ref 0 0 8 true 1] [some ⟨.ints .u32 [2,16,840,1,101,3,4,1],false⟩]:=rfl
theorem xbqc (hp:true=true):xbpr=zR [.ref 0 0 8 true 1] [some ⟨.ints .u32 [1,2,840,113549,1,9,16,3],false⟩]:=rfl
theorem xbsu (hp:true=true):xbrg=zR [.ref 0 0 2 true 1] [some ⟨.ints .u32 [2,999],false⟩]:=rfl
theorem qa7 {l:Nat} {x:List CV} {f t:Option Out} {rf:Out} {r:List (List CV)} (hf:f=some rf) (hr: ∃out,t=some out/\Hands out (some r)) (h0:Hands rf none): ∃out,cond (Nat.beq l l) (yldO x f t) none=some out/\Hands out (some (x::r)):=by
 obtain⟨rt,h1,h2⟩:=hr
 rw[zbb,hf,h1]
 exact⟨_,rfl,rfl,h0,h2⟩
theorem xb6t (l:Nat) (hp:true=true): ∃out,xbrh l=some out/\Hands out (some qpw):=by
 rw[q7b]
 unfold xbrh
 show ∃out,_=some out/\Hands out (some [_,_,_,_,_,_,_,_,_,_,_,_,_,_,_,_,_,_,_,_,_,_,_,_,_,_,_,_,_,_,_,_,_,_,_,_,_,_,_,_])
 exact qa7 rfl (qa7 rfl (qa7 rfl (qa7 rfl (qa7 rfl (qa7 rfl (qa7 rfl (qa7 rfl (qa7 rfl (qa7 rfl (qa7 rfl (qa7 rfl (qa7 rfl (qa7 rfl (qa7 rfl (qa7 rfl (qa7 rfl (qa7 rfl (qa7 rfl (qa7 rfl (qa7 rfl (qa7 rfl (qa7 rfl (qa7 rfl (qa7 rfl (qa7 rfl (qa7 rfl (qa7 rfl (qa7 rfl (qa7 rfl (qa7 rfl (qa7 rfl (qa7 rfl (qa7 rfl (qa7 rfl (qa7 rfl (qa7 rfl (qa7 rfl (qa7 rfl (qa7 rfl (⟨_,rfl,.inl rfl⟩) (.inr rfl)) (.inr rfl)) (.inr rfl)) (.inr rfl)) (.inr rfl)) (.inr rfl)) (.inr rfl)) (.inr rfl)) (.inr rfl)) (.inr rfl)) (.inr rfl)) (.inr rfl)) (.inr rfl)) (.inr rfl)) (.inr rfl)) (.inr rfl)) (.inr rfl)) (.inr rfl)) (.inr rfl)) (.inr rfl)) (.inr rfl)) (.inr rfl)) (.inr rfl)) (.inr rfl)) (.inr rfl)) (.inr rfl)) (.inr rfl)) (.inr rfl)) (.inr rfl)) (.inr rfl)) (.inr rfl)) (.inr rfl)) (.inr rfl)) (.inr rfl)) (.inr rfl)) (.inr rfl)) (.inr rfl)) (.inr rfl)) (.inr rfl)) (.inr rfl)
theorem xbeu (k0:Int->Int->Int->List Int->Option Out) (k1:Int->Option Out) (g:Int): ∀L:List (Int×Int×List Int),qib k0 k1 (L.map rowE) g=(match L.find? fun e=>decide (e.1=g) with|some e=>k0 g e.1 e.2.1 e.2.2|none=>k1 g)
 | []=>rfl
 | e::r=>by
  show cond (decide (e.1=g)) (k0 g e.1 e.2.1 e.2.2) (qib k0 k1 (r.map rowE) g)=_
  rw[List.find?_cons]
  cases decide (e.1=g) with
  | true=>rfl
  | false=>exact xbeu k0 k1 g r
theorem xb07 (g:Int) (hp:true=true):xbha g=zR [.cl (.agg [.int .i64 (qa4 g).1,.int .i64 (qa4 g).2.1,.sli .u32 (qa4 g).2.2])] []:=by
 unfold xbha
 refine qaj xbnw ?_
 rw[qab,q7b,xbeu,qmq]
 unfold qaw
 cases qhi.find? fun e=>decide (e.1=g)<;>rfl
theorem xb7k (k0:List Int->Int->Option Out) (k1:List Int->Option Out) (o:List Int): ∀L:List (Int×Int×List Int),(∀e∈L,e.2.2.length<=10)->qu8 k0 k1 (L.map rowE) o=(match L.find? fun e=>decide (e.2.2=o) with|some e=>k0 o e.1|none=>k1 o)
 | [],_=>rfl
 | e::r,h=>by
  show cond (qcc e.2.2) (cond (qbl e.2.2 o) (k0 o e.1) (qu8 k0 k1 (r.map rowE) o)) none=_
  refine qaj (qfq (by have:=h e (by simp);omega)) ?_
  have hs:qbl e.2.2 o=decide (e.2.2=o):=by unfold qbl qkw;rw[qab]
  rw[List.find?_cons,hs]
  cases decide (e.2.2=o) with
  | true=>rfl
  | false=>exact xb7k k0 k1 o r fun e he=>h e (by simp[he])
theorem nAOf (o:List Int) (hp:true=true):gAOf o=zI (q1k o):=by
 unfold gAOf
 refine qaj xbnw ?_
 rw[qab,q7b,xb7k _ _ _ _ fun e he=>(q1s e he).2.1]
 unfold q1k xbvw
 rw[qab]
 cases qhi.find? fun e=>decide (e.2.2=o)<;>rfl
theorem xb8f (hp:true=true):xb75=zR [.cl (.fn (.func 175) [] [])] []:=rfl
theorem xbwx (g:Int) (hp:true=true):xbwm g=zR [.cl (.int .i64 (qa4 g).2.1)] []:=rfl
theorem nAId (g:Int) (hp:true=true):gAId g=zR [.cl (.sli .u32 (qa4 g).2.2)] []:=rfl
theorem xba8: ∀n:Nat,n<93->qto ((n:Int)+1)=zI ((qa4 ((n:Int)+1)).2.1):=by
 intro n hn
 unfold qto qht qe3 qhx qa4
 simp only[qab]
 exact match n,hn with
 | 0,_=>by kernel_rfl
 | 1,_=>by kernel_rfl
 | 2,_=>by kernel_rfl
 | 3,_=>by kernel_rfl
 | 4,_=>by kernel_rfl
 | 5,_=>by kernel_rfl
 | 6,_=>by kernel_rfl
 | 7,_=>by kernel_rfl
 | 8,_=>by kernel_rfl
 | 9,_=>by kernel_rfl
 | 10,_=>by kernel_rfl
 | 11,_=>by kernel_rfl
 | 12,_=>by kernel_rfl
 | 13,_=>by kernel_rfl
 | 14,_=>by kernel_rfl
 | 15,_=>by kernel_rfl
 | 16,_=>by kernel_rfl
 | 17,_=>by kernel_rfl
 | 18,_=>by kernel_rfl
 | 19,_=>by kernel_rfl
 | 20,_=>by kernel_rfl
 | 21,_=>by kernel_rfl
 | 22,_=>by kernel_rfl
 | 23,_=>by kernel_rfl
 | 24,_=>by kernel_rfl
 | 25,_=>by kernel_rfl
 | 26,_=>by kernel_rfl
 | 27,_=>by kernel_rfl
 | 28,_=>by kernel_rfl
 | 29,_=>by kernel_rfl
 | 30,_=>by kernel_rfl
 | 31,_=>by kernel_rfl
 | 32,_=>by kernel_rfl
 | 33,_=>by kernel_rfl
 | 34,_=>by kernel_rfl
 | 35,_=>by kernel_rfl
 | 36,_=>by kernel_rfl
 | 37,_=>by kernel_rfl
 | 38,_=>by kernel_rfl
 | 39,_=>by kernel_rfl
 | 40,_=>by kernel_rfl
 | 41,_=>by kernel_rfl
 | 42,_=>by kernel_rfl
 | 43,_=>by kernel_rfl
 | 44,_=>by kernel_rfl
 | 45,_=>by kernel_rfl
 | 46,_=>by kernel_rfl
 | 47,_=>by kernel_rfl
 | 48,_=>by kernel_rfl
 | 49,_=>by kernel_rfl
 | 50,_=>by kernel_rfl
 | 51,_=>by kernel_rfl
 | 52,_=>by kernel_rfl
 | 53,_=>by kernel_rfl
 | 54,_=>by kernel_rfl
 | 55,_=>by kernel_rfl
 | 56,_=>by kernel_rfl
 | 57,_=>by kernel_rfl
 | 58,_=>by kernel_rfl
 | 59,_=>by kernel_rfl
 | 60,_=>by kernel_rfl
 | 61,_=>by kernel_rfl
 | 62,_=>by kernel_rfl
 | 63,_=>by kernel_rfl
 | 64,_=>by kernel_rfl
 | 65,_=>by kernel_rfl
 | 66,_=>by kernel_rfl
 | 67,_=>by kernel_rfl
 | 68,_=>by kernel_rfl
 | 69,_=>by kernel_rfl
 | 70,_=>by kernel_rfl
 | 71,_=>by kernel_rfl
 | 72,_=>by kernel_rfl
 | 73,_=>by kernel_rfl
 | 74,_=>by kernel_rfl
 | 75,_=>by kernel_rfl
 | 76,_=>by kernel_rfl
 | 77,_=>by kernel_rfl
 | 78,_=>by kernel_rfl
 | 79,_=>by kernel_rfl
 | 80,_=>by kernel_rfl
 | 81,_=>by kernel_rfl
 | 82,_=>by kernel_rfl
 | 83,_=>by kernel_rfl
 | 84,_=>by kernel_rfl
 | 85,_=>by kernel_rfl
 | 86,_=>by kernel_rfl
 | 87,_=>by kernel_rfl
 | 88,_=>by kernel_rfl
 | 89,_=>by kernel_rfl
 | 90,_=>by kernel_rfl
 | 91,_=>by kernel_rfl
 | 92,_=>by kernel_rfl
 | n+93,h=>absurd h (by omega)
theorem xboo (g:Int) (hp:true=true):qto g=zI ((qa4 g).2.1):=by
 by_cases hg:1<=g/\g<1+93
 ·exact xbfl (P:=fun g=>qto g=zI ((qa4 g).2.1)) xba8 hg.1 hg.2
 ·have ho:=q7r (g:=g) (by omega)
  unfold qto qht qe3 qhx
  rw[qmq,ho]
  simp only[qab]
  rcases(show g<1\/93<g by omega) with h|h<;>(repeat' (first|rfl|(refine qb2 (by omega) ?_)|(refine qan (by omega) ?_)))
theorem xb0u: ∀n:Nat,n<93->xbx5 ((n:Int)+1)=zR [.cl (.sli .u32 (qa4 ((n:Int)+1)).2.2)] []:=by
 intro n hn
 unfold xbx5 qa4 qjl qup qcc
 simp only[qab]
 exact match n,hn with
 | 0,_=>by kernel_rfl
 | 1,_=>by kernel_rfl
 | 2,_=>by kernel_rfl
 | 3,_=>by kernel_rfl
 | 4,_=>by kernel_rfl
 | 5,_=>by kernel_rfl
 | 6,_=>by kernel_rfl
 | 7,_=>by kernel_rfl
 | 8,_=>by kernel_rfl
 | 9,_=>by kernel_rfl
 | 10,_=>by kernel_rfl
 | 11,_=>by kernel_rfl
 | 12,_=>by kernel_rfl
 | 13,_=>by kernel_rfl
 | 14,_=>by kernel_rfl
 | 15,_=>by kernel_rfl
 | 16,_=>by kernel_rfl
 | 17,_=>by kernel_rfl
 | 18,_=>by kernel_rfl
 | 19,_=>by kernel_rfl
 | 20,_=>by kernel_rfl
 | 21,_=>by kernel_rfl
 | 22,_=>by kernel_rfl
 | 23,_=>by kernel_rfl
 | 24,_=>by kernel_rfl
 | 25,_=>by kernel_rfl
 | 26,_=>by kernel_rfl
 | 27,_=>by kernel_rfl
 | 28,_=>by kernel_rfl
 | 29,_=>by kernel_rfl
 | 30,_=>by kernel_rfl
 | 31,_=>by kernel_rfl
 | 32,_=>by kernel_rfl
 | 33,_=>by kernel_rfl
 | 34,_=>by kernel_rfl
 | 35,_=>by kernel_rfl
 | 36,_=>by kernel_rfl
 | 37,_=>by kernel_rfl
 | 38,_=>by kernel_rfl
 | 39,_=>by kernel_rfl
 | 40,_=>by kernel_rfl
 | 41,_=>by kernel_rfl
 | 42,_=>by kernel_rfl
 | 43,_=>by kernel_rfl
 | 44,_=>by kernel_rfl
 | 45,_=>by kernel_rfl
 | 46,_=>by kernel_rfl
 | 47,_=>by kernel_rfl
 | 48,_=>by kernel_rfl
 | 49,_=>by kernel_rfl
 | 50,_=>by kernel_rfl
 | 51,_=>by kernel_rfl
 | 52,_=>by kernel_rfl
 | 53,_=>by kernel_rfl
 | 54,_=>by kernel_rfl
 | 55,_=>by kernel_rfl
 | 56,_=>by kernel_rfl
 | 57,_=>by kernel_rfl
 | 58,_=>by kernel_rfl
 | 59,_=>by kernel_rfl
 | 60,_=>by kernel_rfl
 | 61,_=>by kernel_rfl
 | 62,_=>by kernel_rfl
 | 63,_=>by kernel_rfl
 | 64,_=>by kernel_rfl
 | 65,_=>by kernel_rfl
 | 66,_=>by kernel_rfl
 | 67,_=>by kernel_rfl
 | 68,_=>by kernel_rfl
 | 69,_=>by kernel_rfl
 | 70,_=>by kernel_rfl
 | 71,_=>by kernel_rfl
 | 72,_=>by kernel_rfl
 | 73,_=>by kernel_rfl
 | 74,_=>by kernel_rfl
 | 75,_=>by kernel_rfl
 | 76,_=>by kernel_rfl
 | 77,_=>by kernel_rfl
 | 78,_=>by kernel_rfl
 | 79,_=>by kernel_rfl
 | 80,_=>by kernel_rfl
 | 81,_=>by kernel_rfl
 | 82,_=>by kernel_rfl
 | 83,_=>by kernel_rfl
 | 84,_=>by kernel_rfl
 | 85,_=>by kernel_rfl
 | 86,_=>by kernel_rfl
 | 87,_=>by kernel_rfl
 | 88,_=>by kernel_rfl
 | 89,_=>by kernel_rfl
 | 90,_=>by kernel_rfl
 | 91,_=>by kernel_rfl
 | 92,_=>by kernel_rfl
 | n+93,h=>absurd h (by omega)
theorem xb8u (g:Int) (hp:true=true):xbx5 g=zR [.cl (.sli .u32 (qa4 g).2.2)] []:=by
 by_cases hg:1<=g/\g<1+93
 ·exact xbfl (P:=fun g=>xbx5 g=zR [.cl (.sli .u32 (qa4 g).2.2)] []) xb0u hg.1 hg.2
 ·have ho:=q7r (g:=g) (by omega)
  unfold xbx5
  rw[qmq,ho]
  repeat' (first|rfl|(refine qb2 (by omega) ?_)|(refine qan (by omega) ?_))
open IntWalk (i64_in u8_in u32_in u64_in i64_quo u8_quo rem_in)
theorem xbzt (g h:Int) (hp:true=true):xbyt g h=zR [.cl (.sli .u32 (qjl g h))] []:=by unfold qjl;rw[qab];rfl
theorem xbvx (o:List Int) (hp:qcc o=true):xbmn o=zR [.cl (.sli .u32 (qup o))] []:=by
 have:=qeg hp
 unfold xbmn qup
 rw[qab]
 exact qx7 (by simp;omega) (by simp;omega) rfl
theorem xb6c (g:Int) (hp:true=true):xb03 g=zI (qjm g):=by
 unfold xb03 qjm qhg
 rw[qab]
 refine qae (fun h=> ?_) fun h=>qae (fun h'=> ?_) fun h'=> ?_
 ·rw[if_pos h]
 ·rw[if_neg h,if_pos h']
 ·rw[if_neg h,if_neg h']
theorem xb6r (g:Int) (b:List Int) (hp:qcc b=true):xbva g b=zR [.cl (.agg [.int .i64 (qbw g b).1,.sli .u8 qa0,.slg 3 (qbw g b).2.1]),.cl (.int .i64 (qbw g b).2.2)] []:=by
 obtain⟨i1,i2⟩:=qwd g
 have hid:idOk (qaw g).2.2=true:=q5x (by omega) i2
 have h16:qz6 16=true:=by decide
 unfold xbva qbw qjm
 rw[qmq]
 simp only[qab,qde,qbq]
 unfold qin
 refine qae (fun h=> ?_) fun h=>qas (fun h'=> ?_) fun h'=> ?_
 ·rw[if_pos h]
 ·rw[if_neg h,if_pos h']
 ·rw[if_neg h,if_neg (by simp[h'])]
  refine qaj hid ?_
  refine qae (fun h6=> ?_) fun h6=>qae (fun h7=> ?_) fun h7=> ?_
  ·rw[if_pos h6]
   exact qaj hp (qaj (qnp (by simp)) rfl)
  ·rw[if_neg h6,if_pos h7]
   exact qaj hp (qaj h16 (qaj (qnp (by simp)) (qaj (qnp (by simp)) rfl)))
  ·rw[if_neg h6,if_neg h7]
   exact qaj (qnp (by simp)) rfl
open IntWalk (i64_in u8_in u32_in u64_in i64_quo u8_quo rem_in)
theorem xbfi {t:Int} {b:List Int} {k:List CV} (h:isS [.int .i64 t,.sli .u8 b,.slg 3 k]=true): ∀c∈k,W3 c:=by
 obtain⟨n,hn,hB⟩:=qdx h
 obtain⟨n,t',b',k',rfl,e,_,_⟩:=qds hn
 cases e
 obtain⟨_,_,_,h4,_⟩:=qox hn hB
 intro c hc
 obtain⟨y,rfl,hy,hyb⟩:=h4 c hc
 obtain⟨_,t1,b1,k1,rfl,rfl,_,_⟩:=qds hy
 exact⟨t1,b1,k1,rfl,xbfa hy (by omega)⟩
theorem q55 {t:Int} {b:List Int} {k:List CV} (h:isS [.int .i64 t,.sli .u8 b,.slg 3 k]=true):qbr k=true:=qnp (xbps (xbvq h)).1
theorem q8w {l:List CV} (h:q40 l=true): ∀c∈l,W3 c:=by
 unfold q40 at h;rw[qab] at h;exact @of_decide_eq_true _ (Classical.propDecidable _) h
theorem xbj9 {l:List CV} (h: ∀c∈l,W3 c):q40 l=true:=by
 unfold q40;rw[qab];exact @decide_eq_true _ (Classical.propDecidable _) h
theorem xbal {g t:Int} {b:List Int} {k:List CV} (h: ∀c∈k,W3 c): ∀c∈(qb8 g t b k).1,W3 c:=by
 by_cases e:(qb8 g t b k).2=0
 ·rw[qmp e];exact h
 ·rw[q4j e];simp
theorem xbc8 (g:Int) {t:Int} {b:List Int} {k:List CV} (hs:isS [.int .i64 t,.sli .u8 b,.slg 3 k]=true):
  cond (isS [.int .i64 t,.sli .u8 b,.slg 3 k]) (cond (decide ((qbb t b k).2=0)) (zR [.cl (.sli .u8 (qbb t b k).1),.cl (.bool (decide (((qbb t b k).1.length:Int)=qjm g)))] [])
   (zR [.cl (.sli .u8 (qbb t b k).1),.cl (.bool false)] [])) none=zR [.cl (.sli .u8 (algB g (.agg [.int .i64 t,.sli .u8 b,.slg 3 k])).1),.cl (.bool (algB g (.agg [.int .i64 t,.sli .u8 b,.slg 3 k])).2)] []:=by
 refine qaj hs ?_
 unfold qjm
 rw[qab]
 show _=zR [.cl (.sli .u8 (qbb t b k).1),.cl (.bool (decide ((qbb t b k).2=0)&&decide (((qbb t b k).1.length:Int)=qhg g)))] []
 refine qae (fun h=> ?_) fun h=> ?_
 ·rw[decide_eq_true h,zbm]
 ·rw[decide_eq_false h,zdc]
theorem xbey (g t:Int) (b:List Int) (k:List CV):algH g (.agg [.int .i64 t,.sli .u8 b,.slg 3 k])=if g=7 then(if ¬(qb8 48 t b k).2=0 then([],false) else algG g (qb8 48 t b k).1) else algB g (.agg [.int .i64 t,.sli .u8 b,.slg 3 k]):=rfl
theorem q5i (g t:Int) (b:List Int) (k:List CV) (p:CV):xb4l g (.agg [.int .i64 t,.sli .u8 b,.slg 3 k]) p=if ¬(qdo t b k).2=0 then([],false) else if ¬(qdo t b k).1=16 then([],false) else algB g p:=rfl
theorem xbf9 (g:Int) (p q:CV):algG g [p,q]=xb4l g q p:=by unfold algG;rw[if_neg (by simp)];rfl
theorem xbmi {g:Int} {two:List CV} (h: ¬(two.length:Int)=2):algG g two=([],false):=by unfold algG;rw[if_pos h]
theorem xbkq (t:Int) (b:List Int) (k r:List CV):algR (.agg [.int .i64 t,.sli .u8 b,.slg 3 k]::r)=xb4o (qp0 t b k) r:=by unfold algR;rw[if_neg (by simp only[zad];omega)];rfl
theorem xbln (g:Int) (l:List CV):qhr g l=qyy g l:=qab _
theorem tail7 (g:Int) (two:List CV) (hk: ∀c∈two,W3 c):(cond (!decide ((two.length:Int)=2)) (
   zR [.cl (.sli .u8 []),.cl (.bool false)] [])
   (
   cond (decide ((1:Int)<(two.length:Int))) (
   Option.bind (two[1]?) fun(e11:CV)=>
   let e12:CV:=(cell1 e11).headD .nili
   let e13:CV:=(cell1 e11).tail.headD .nili
   let e14:CV:=(cell1 e11).tail.tail.headD .nili
   cond (qg2 .i64 e12&&(qeu .u8 e13&&(qc6 3 e14&&true))) (
   let i15:Int:=qfn e12
   let l16:List Int:=qby e13
   let l17:List CV:=qbi e14
   cond (isS [.int .i64 i15,.sli .u8 l16,.slg 3 l17]) (
   let r18:Int:=(qdo i15 l16 l17).1
   let r19:Int:=(qdo i15 l16 l17).2
   cond (!decide (r19=0)) (
   zR [.cl (.sli .u8 []),.cl (.bool false)] [])
   (
   cond (!decide (r18=16)) (
   zR [.cl (.sli .u8 []),.cl (.bool false)] [])
   (
   cond (decide ((0:Int)<(two.length:Int))) (
   Option.bind (two[0]?) fun(e20:CV)=>
   let e21:CV:=(cell1 e20).headD .nili
   let e22:CV:=(cell1 e20).tail.headD .nili
   let e23:CV:=(cell1 e20).tail.tail.headD .nili
   cond (qg2 .i64 e21&&(qeu .u8 e22&&(qc6 3 e23&&true))) (
   let i24:Int:=qfn e21
   let l25:List Int:=qby e22
   let l26:List CV:=qbi e23
   cond (isS [.int .i64 i24,.sli .u8 l25,.slg 3 l26]) (
   let r27:List Int:=(qbb i24 l25 l26).1
   let r28:Int:=(qbb i24 l25 l26).2
   cond (decide (r28=0)) (
   let r29:Int:=qjm g
   zR [.cl (.sli .u8 r27),.cl (.bool (decide ((r27.length:Int)=r29)))] [])
   (
   zR [.cl (.sli .u8 r27),.cl (.bool false)] [])) none) none) none))) none) none) none):Option Out)=zR [.cl (.sli .u8 (algG g two).1),.cl (.bool (algG g two).2)] []:=by
 refine qas (fun h3=> ?_) fun h3=> ?_
 ·rw[xbmi h3]
 match two,h3,hk with
 | [p,q],_,hk=>
  obtain⟨t2,b2,k2,rfl,hs2⟩:=hk q (by simp)
  obtain⟨t1,b1,k1,rfl,hs1⟩:=hk p (by simp)
  rw[xbf9,q5i]
  refine qan (by simp) ?_
  rw[zaz,zao,zai]
  refine qaj (c:=qg2 .i64 _&&(qeu .u8 _&&(qc6 3 _&&true))) rfl (qaj hs2 ?_)
  show cond (!decide ((qdo t2 b2 k2).2=0)) _ _=_
  refine qas (fun h4=> ?_) fun h4=> ?_
  ·rw[if_pos h4]
  rw[if_neg (fun e=>e h4)]
  show cond (!decide ((qdo t2 b2 k2).1=16)) _ _=_
  refine qas (fun h5=> ?_) fun h5=> ?_
  ·rw[if_pos h5]
  rw[if_neg (fun e=>e h5)]
  refine qan (by simp) ?_
  rw[zao,zai]
  refine qaj (c:=qg2 .i64 _&&(qeu .u8 _&&(qc6 3 _&&true))) rfl ?_
  exact xbc8 g hs1
 | [],h3,_=>simp at h3
 | [_],h3,_=>simp at h3
 | _::_::_::_,h3,_=>simp at h3;omega
theorem xb3j (g:Int) (l:List CV) (hp:q40 l=true):xbys g l=zR [.cl (.sli .u8 (qhr g l).1),.cl (.bool (qhr g l).2)] []:=by
 have hw:=q8w hp
 unfold xbys
 rw[xbln]
 unfold qyy
 have hu:qjm g=qhg g:=qab _
 refine qae (fun h=> ?_) fun h=> ?_
 ·rw[if_pos (hu▸h)]
 rw[if_neg (hu▸h)]
 refine qas (fun h1=> ?_) fun h1=> ?_
 ·rw[if_pos h1]
 rw[if_neg (fun e=>e h1)]
 match l,h1,hw with
 | [x],_,hw=>
  obtain⟨t,b,k,rfl,hs⟩:=hw x (by simp)
  refine qan (by simp) ?_
  rw[zao,zai,zbv,xbey]
  refine qaj (c:=qg2 .i64 _&&(qeu .u8 _&&(qc6 3 _&&true))) rfl ?_
  show cond (decide (g=7)) _ _=_
  refine qae (fun h7=> ?_) fun h7=> ?_
  ·rw[if_pos h7]
   refine qaj (q55 hs) ?_
   show cond (!decide ((qb8 48 t b k).2=0)) _ _=_
   refine qas (fun h2=> ?_) fun h2=> ?_
   ·rw[if_pos h2]
   rw[if_neg (fun e=>e h2)]
   have hk:=xbal (g:=48) (t:=t) (b:=b) (xbfi hs)
   exact tail7 g _ hk
  ·rw[if_neg h7]
   exact xbc8 g hs
 | [],h1,_=>simp at h1
 | _::_::_,h1,_=>simp at h1;omega
theorem xbpl {g:Int} {l:List CV} (hw: ∀c∈l,W3 c):(qhr g l).1.length<=30000:=by
 have hB: ∀x:CV,W3 x->(algB g x).1.length<=30000:=fun x hx=>by
  obtain⟨t,b,k,rfl,hs⟩:=hx
  have:=(qnd hs).1
  show(qbb t b k).1.length<=30000
  unfold qbb
  rw[qab]
  split
  ·show b.length<=30000;omega
  ·simp
 rw[xbln]
 unfold qyy
 split
 ·simp
 split
 ·simp
 rename_i h0 h1
 have h1:(l.length:Int)=1:=Classical.byContradiction h1
 match l,h1,hw with
 | [x],_,hw=>
  have hx:=hw x (by simp)
  obtain⟨t,b,k,rfl,hs⟩:=hx
  rw[zbv,xbey]
  split
  ·split
   ·simp
   have hk:=xbal (g:=48) (t:=t) (b:=b) (xbfi hs)
   generalize (qb8 48 t b k).1=two at hk ⊢
   by_cases h3:(two.length:Int)=2
   ·match two,h3,hk with
    | [p,q],_,hk=>
     obtain⟨t2,b2,k2,rfl,hs2⟩:=hk q (by simp)
     rw[xbf9,q5i]
     split
     ·simp
     split
     ·simp
     ·exact hB _ (hk p (by simp))
    | [],h3,_=>simp at h3
    | [_],h3,_=>simp at h3
    | _::_::_::_,h3,_=>simp at h3;omega
   ·rw[xbmi h3];simp
  ·exact hB _ (hw _ (by simp))
 | [],h1,_=>simp at h1
 | _::_::_,h1,_=>simp at h1;omega
theorem xbz4 (t:Int) (b:List Int) (k:List CV):qet t b k=q4b t b k:=qab _
theorem xb5t (t:Int) (b:List Int) (k:List CV) (hp:isS [.int .i64 t,.sli .u8 b,.slg 3 k]=true):xbyg t b k=zR [.cl (.int .i64 (qet t b k).1),.cl (.sli .u8 (qet t b k).2.1),.cl (.int .i64 (qet t b k).2.2)] []:=by
 have hk:=xbal (g:=48) (t:=t) (b:=b) (xbfi hp)
 unfold xbyg
 rw[xbz4]
 unfold q4b
 refine qaj (q55 hp) ?_
 refine qas (fun h=> ?_) fun h=> ?_
 ·rw[if_pos h]
 rw[if_neg (fun e=>e h)]
 dsimp only
 generalize (qb8 48 t b k).1=ks at hk ⊢
 refine qae (fun h1=> ?_) fun h1=> ?_
 ·unfold algR;rw[if_pos h1]
 match ks,h1,hk with
 | [],h1,_=>exact absurd rfl h1
 | x::r,_,hk=>
  obtain⟨t1,b1,k1,rfl,hs⟩:=hk x (by simp)
  have hr: ∀c∈r,W3 c:=fun c hc=>hk c (by simp[hc])
  rw[xbkq]
  refine qan (by simp only[zad];omega) ?_
  rw[zao,zai]
  refine qaj (c:=qg2 .i64 _&&(qeu .u8 _&&(qc6 3 _&&true))) rfl (qaj hs ?_)
  rw[zch,zbn]
  unfold xb4o
  show cond (!decide ((qp0 t1 b1 k1).2=0)) _ _=_
  refine qas (fun h2=> ?_) fun h2=> ?_
  ·rw[if_pos h2]
  rw[if_neg (fun e=>e h2)]
  refine qae (fun h3=> ?_) fun h3=> ?_
  ·rw[if_pos (show q1k (qp0 t1 b1 k1).1=0 from h3)]
  rw[if_neg (show ¬q1k (qp0 t1 b1 k1).1=0 from h3)]
  refine qan (by simp only[zad];omega) (qaj (xbj9 hr) ?_)
  have hl:=xbpl (g:=(qa4 (q1k (qp0 t1 b1 k1).1)).2.1) hr
  show cond (!(qhr (qa4 (q1k (qp0 t1 b1 k1).1)).2.1 r).2) _ _=_
  cases he:(qhr (qa4 (q1k (qp0 t1 b1 k1).1)).2.1 r).2 with
  | false=>rw[if_pos rfl];rfl
  | true=>
   rw[if_neg (by simp)]
   exact xbaf rfl (qaj (qfq (show(qhr (qa4 (q1k (qp0 t1 b1 k1).1)).2.1 r).1.length<=100000000 by omega)) rfl)
open IntWalk (i64_in u8_in u32_in u64_in i64_quo u8_quo rem_in)
noncomputable def xbm5 (grp:Int) (b:List Int):List CV:=if grp=6 then[qcy 4 b []] else if grp=7 then[qcy 48 [] [qcy 4 b [],qcy 2 (vInt 16) []]] else[]
theorem xbna (g:Int) (b:List Int):qbw g b=qin g b:=qab _
theorem xbwq {g:Int} {b:List Int} (h1: ¬(qaw g).2.1=0) (h2:(b.length:Int)=qhg (qaw g).2.1):qbw g b=(48,q48 (qaw g).2.2::xbm5 (qaw g).2.1 b,0):=by
 rw[xbna]
 unfold qin
 rw[if_neg h1,if_neg (by simp[h2])]
 rfl
theorem xbjy {t:Int} {b:List Int} {k:List CV} (h:(qbb t b k).2=0):t=4/\k=[]/\(qbb t b k).1=b:=by
 unfold qbb at h ⊢
 rw[qab] at h ⊢
 split at h
 ·rename_i he
  obtain⟨h1,h2,_⟩:=xbt5 he
  rw[if_pos he]
  exact⟨h1,zau h2,rfl⟩
 ·rename_i he;exact absurd h he
open IntWalk (i64_in u8_in u32_in u64_in i64_quo u8_quo rem_in)
theorem xbqv (l m:List Int):qbl l m=decide (l=m):=by unfold qbl qkw;rw[qab]
end Go.Proofs.YtoaakappnhemiaaGreatDoorA
