/-
 The evid layer: what der.write, der.Bytes and evid.Bytes give is an object of its own; a record from bytes. Conditions: each function's own.
-/
import Derived.Test.YtoaakappnhemiaaGreatDoorT4a
set_option linter.unusedVariables false
set_option linter.unusedSimpArgs false
set_option maxRecDepth 100000
set_option linter.defProp false
namespace Go.Proofs.YtoaakappnhemiaaGreatDoorA
open IntKind(i64 u8 u32 u64)
open IntWalk (i64_in u8_in u32_in u64_in i64_quo u8_quo rem_in)
noncomputable def retK(l:LI)(b:Bool):OO:=zR [.ref 0 0 l.length true 1,.cl (.bool b)] [some ⟨.ints .u8 l,false⟩]
noncomputable def retN(l:LI)(e:Int):OO:=zR [.ref 0 0 l.length true 1,.cl (.int .i64 e)] [some ⟨.ints .u8 l,false⟩]
noncomputable def xbr1:OO:=retK [] false
noncomputable def xbk6(t s:Int)(rows:LC):OO:=
 cond (qhg t s) (cond (qmi rows) (cond (Nat.ble ((qch t s++qcs rows).length*1) LIMN) (cond (Nat.ble ((qch t s++qcs rows).length) LIMN) (retK (qch t s++qcs rows) true) none) none) none) none
noncomputable def xbkq(t s:Int)(rows:LC):OO:=
 cond (decide (t=49)) (cond (qhj rows) (cond (!(qbp rows)) xbr1 (xbk6 t s rows)) none) (xbk6 t s rows)
def xb5s{t:Int}{R:List LI}(ht:0<=t/\t<=255)(h1:R.length<=30000)(h2: ∀x∈R,rowB x=true)(h3:R.flatten.length<=150000):
  xbkq t (R.flatten.length:Int) (R.map (CV.sli .u8))=if(!(decide (t=49))|| qa8 R)=true then retK (qck t (R.flatten.length:Nat)++R.flatten) true else xbr1:=by
 have hh:xbk6 t (R.flatten.length:Int) (R.map (CV.sli .u8))=retK (qck t (R.flatten.length:Nat)++R.flatten) true:=by unfold xbk6 qch;rw[qab,qnb];have hl:=qjg t (R.flatten.length:Nat);have hr:=qdj (R.flatten.length:Nat);refine qam ?_ (qam (q2d (by omega) h2 (by omega)) (qc4 (by simp only[zaf];omega) (qc4 (by simp only[zaf];omega) rfl)));unfold qhg;rw[qab];exact yf (by omega)
 unfold xbkq;rw[hh,qgn];refine qae (fun h=>qam (qoq (by omega) h2) (qc5 (fun h9=> ?_) fun h9=> ?_)) fun h=> ?_
 ·rw[yb (by simp only[zal] at h9;simp[h,h9])]
 ·rw[yc (by simp only[Bool.not_eq_false'] at h9;simp[h9])]
 ·rw[yc (by simp[h])]
def q1n(rk d:Nat)(ta:Int)(ba:LI)(ka kb:LC)(hlen:ka.length<=30000)(hall: ∀c∈ka, ∃y,c=.agg y/\isTf rk y=true/\qee rk y+1<=30000)(hok: ∀c∈ka,okF rk d (cell1 c)=true): ∀(f i:Nat) (s:Int),i<=ka.length->ka.length<f+i->0<=s->s+sumL (fun c=>(qah rk (cell1 c)).1) (ka.drop i)<=150000->
  qij (fun _ _ _ _ _ _ _ _ _ _ _ _ _ _ _ _ _ _ _ _ _ _ _ _ _ _ _ _ _ _ _=>xbr1) (fun _ y37 _ _ _ y41 _ _ y44=>xbkq y41 y37 y44) f ka.length s ka (ka.length:Int) i ta ba kb (((ka.take i).map fun c=>CV.sli .u8 (qah rk (cell1 c)).1)++List.replicate (ka.length - i) (.sli .u8 []))=if(ka.drop i).all (fun c=>(qah rk (cell1 c)).2)=true then xbkq ta (s+sumL (fun c=>(qah rk (cell1 c)).1) (ka.drop i)) (ka.map fun c=>.sli .u8 (qah rk (cell1 c)).1) else xbr1
 | 0,i,s,hi,hf,_,_=>by omega
 | f+1,i,s,hi,hf,h0,hs=>by
  show qjl (qij (fun _ _ _ _ _ _ _ _ _ _ _ _ _ _ _ _ _ _ _ _ _ _ _ _ _ _ _ _ _ _ _=>xbr1) (fun _ y37 _ _ _ y41 _ _ y44=>xbkq y41 y37 y44) f) (fun _ _ _ _ _ _ _ _ _ _ _ _ _ _ _ _ _ _ _ _ _ _ _ _ _ _ _ _ _ _ _=>xbr1) (fun _ y37 _ _ _ y41 _ _ y44=>xbkq y41 y37 y44) ka.length s ka (ka.length:Int) i ta ba kb (((ka.take i).map fun c=>CV.sli .u8 (qah rk (cell1 c)).1)++List.replicate (ka.length - i) (.sli .u8 []))=_;unfold qjl;obtain⟨R,hR⟩: ∃R:OO,R=if(ka.drop i).all (fun c=>(qah rk (cell1 c)).2)=true then xbkq ta (s+sumL (fun c=>(qah rk (cell1 c)).1) (ka.drop i)) (ka.map fun c=>.sli .u8 (qah rk (cell1 c)).1) else xbr1:=⟨_,rfl⟩
  rw[<- hR];obtain⟨W,hW⟩: ∃W:LC,W=((ka.take i).map fun c=>CV.sli .u8 (qah rk (cell1 c)).1)++List.replicate (ka.length - i) (.sli .u8 []):=⟨_,rfl⟩;rw[<- hW];refine qae (fun h=> ?_) fun h=> ?_
  ·obtain⟨c,hc⟩:=qbz (b:=ka) (i:=i) (by omega);obtain⟨y,rfl,hy,hyb⟩:=hall c (zad hc);have hoky:okF rk d y=true:=hok _ (zad hc);have ed:ka.drop i=.agg y::ka.drop (i+1):=by obtain⟨hlt,e⟩:=zae.1 hc;rw[zb0 hlt,e]
   refine qaq (by omega) (qaq h ?_);rw[show(i:Int).toNat=i from rfl,hc,zak];obtain⟨m,t,b,l,hm,hye,_⟩:=qdi hy;have hset:W.set (0+i) (.sli .u8 (qah rk y).1)=((ka.take (i+1)).map fun c=>CV.sli .u8 (qah rk (cell1 c)).1)++List.replicate (ka.length - (i+1)) (.sli .u8 []):=by
    rw[hW,zay,List.set_append_right _ _ (by simp;omega)];have e1:i - ((ka.take i).map fun c=>CV.sli .u8 (qah rk (cell1 c)).1).length=0:=by simp;omega
    rw[e1,show ka.length - i=(ka.length - (i+1))+1 by omega,List.replicate_succ,List.set_cons_zero];have e2:ka.take (i+1)=ka.take i++[.agg y]:=by rw[List.take_add_one,hc];rfl
    rw[e2,List.map_append,zb7];rfl
   simp only[cell1,hye,zba,zbw];refine qam rfl ?_;simp only[qf9,qb8,qbl];refine qam ?_ ?_
   ·exact xbtd (n:=rk) ⟨hye▸hy,hye▸(by omega),d,hye▸hoky⟩
   ·have e:qef [.int .i64 t,.sli .u8 b,.slg 3 l]=if(qah rk y).2=true then((qah rk y).1,true) else([],false):=by rw[<- hye,qiv hy]
    have es:sumL (fun c=>(qah rk (cell1 c)).1) (ka.drop i)=((qah rk y).1.length:Int)+sumL (fun c=>(qah rk (cell1 c)).1) (ka.drop (i+1)):=by rw[ed];rfl
    have hpos:=(qr1 (fun c=>(qah rk (cell1 c)).1) ka (i+1)).1;rw[es] at hs hR;have ea:(ka.drop i).all (fun c=>(qah rk (cell1 c)).2)=((qah rk y).2&&(ka.drop (i+1)).all (fun c=>(qah rk (cell1 c)).2)):=by rw[ed,zbz];rfl
    rw[ea] at hR;by_cases hk:(qah rk y).2=true
    ·rw[yc hk] at e;rw[hk,zbs] at hR;simp only[e];refine qyh rfl ?_;rw[show i64.wrap (s+((qah rk y).1.length:Int))=s+((qah rk y).1.length:Int) from i64_in _ (by omega)];refine qaq (by omega) (qaq h ?_);rw[hset,show i64.wrap ((i:Int)+1)=((i+1:Nat):Int) from(i64_in _ (by omega)).trans (by omega)];refine(q1n rk d ta ba ka kb hlen hall hok f (i+1) _ (by omega) (by omega) (by omega) (by omega)).trans ?_;rw[hR,Int.add_assoc]
    ·rw[yb hk] at e;simp only[e];refine qam rfl ?_;rw[hR,yb (by intro h;simp only[zab] at h;exact hk h.1)]
  ·obtain rfl:i=ka.length:=by omega
   rw[zbl (zap _)] at hR;rw[hR,hW,zcw,Nat.sub_self];show xbkq ta s ((ka.map fun c=>CV.sli .u8 (qah rk (cell1 c)).1)++[])=if([]:LC).all (fun c=>(qah rk (cell1 c)).2)=true then xbkq ta (s+0) _ else _
   rw[yc (by rfl),zdy,zb2]
def xble{x:LC}(h:isW x=true): ∃n,isTf n x=true/\qee n x<=30000/\∃d,okF n d x=true:=by unfold isW at h;rw[qab] at h;exact @ye _ (ya _) h
def xbuc(ta:Int)(ba:LI)(ka:LC)(hp:isW [.int .i64 ta,.sli .u8 ba,.slg 3 ka]=true):xbe3 ta ba ka=retK (qef [.int .i64 ta,.sli .u8 ba,.slg 3 ka]).1 (qef [.int .i64 ta,.sli .u8 ba,.slg 3 ka]).2:=by
 obtain⟨n,ht,hb,d,hok⟩:=xble hp;obtain⟨rk,_,_,_,rfl,_,_,_⟩:=qdi ht;obtain⟨h1,h2,h3,h4,h5⟩:=qld ht hb;obtain⟨d',rfl,hk,h⟩:=qjv hok;rw[qiv ht];unfold xbe3 qbn;simp only[qab];rcases h with⟨hx,rfl,hall⟩|⟨hx,rfl,hf⟩
 ·have hflen:=flat5 (n:=rk) (l:=ka) (B:=30000) (fun c hc=>by obtain⟨y,e,hy,_⟩:=h4 c hc;exact⟨y,e,hy⟩) (by simp only[zbg] at h5;omega);refine qyh (by simp[hx]) (qaq (by omega) (qaq (by omega) (qaq (by unfold LIM;omega) (qaq (by unfold LIM;omega) ?_))));refine(q1n rk d' ta [] ka ka (by omega) h4 hall FUEL 0 0 (by omega) (by unfold FUEL;omega) (by omega) (by rw[zbr,qed];omega)).trans ?_;rw[zbr,qed,Int.zero_add,q59,qhk hx];by_cases ha:(ka.all fun c=>(qah rk (cell1 c)).2)=true
  ·rw[yc ha,xb5s (qhq hk) (by rw[zau];omega) (xbvi h4 hall) (by omega),ha,zbs];by_cases hs:(!(decide (ta=49))|| qa8 (ka.map fun c=>(qah rk (cell1 c)).1))=true
   ·rw[yc hs,yc hs]
   ·rw[yb hs,yb hs];rfl
  ·rw[yb ha];have hf:(ka.all fun c=>(qah rk (cell1 c)).2)=false:=by simpa using ha
   rw[hf,zda];rfl
 ·have hr:=qjg ta (ba.length:Nat);have hr2:=qdj (ba.length:Nat);have:=qhq hk;unfold qch;simp only[qab];rw[qgy hx];refine qam (by simp[hx]) (qam (by unfold qhg;rw[qab];exact yf (by omega)) (qc4 (by simp only[zaf];omega) (qc4 (by simp only[zaf];omega) rfl)))
def xbt6(ta:Int)(ba:LI)(ka:LC)(hp:isS [.int .i64 ta,.sli .u8 ba,.slg 3 ka]=true):xbet ta ba ka=retN (qbb [.int .i64 ta,.sli .u8 ba,.slg 3 ka]).1 (qbb [.int .i64 ta,.sli .u8 ba,.slg 3 ka]).2:=by
 obtain⟨n,ht,hb⟩:=qc8 hp;have hl:=qgj ht;unfold xbet;refine qam (by rw[hp,qfw (by omega)];rfl) ?_;rw[qrs ht,show(32:Int).toNat=32 from rfl];by_cases hok:okF n 32 [.int .i64 ta,.sli .u8 ba,.slg 3 ka]=true
 ·simp only[yc hok];refine qca (by omega) (qca (by omega) (qam (xbtd ⟨ht,hb,32,hok⟩) ?_));simp only[qiv ht,qfa ht];by_cases h:(qah n [.int .i64 ta,.sli .u8 ba,.slg 3 ka]).2=true
  ·simp only[yc h,yc (show okF n 32 [.int .i64 ta,.sli .u8 ba,.slg 3 ka]=true/\(qah n [.int .i64 ta,.sli .u8 ba,.slg 3 ka]).2=true from⟨hok,h⟩)];exact qyh rfl rfl
  ·simp only[yb h,yb (show ¬(okF n 32 [.int .i64 ta,.sli .u8 ba,.slg 3 ka]=true/\(qah n [.int .i64 ta,.sli .u8 ba,.slg 3 ka]).2=true) from fun e=>h e.2)];exact qam rfl rfl
 ·simp only[yb hok,qfa ht,yb (show ¬(okF n 32 [.int .i64 ta,.sli .u8 ba,.slg 3 ka]=true/\(qah n [.int .i64 ta,.sli .u8 ba,.slg 3 ka]).2=true) from fun e=>hok e.1)];exact qaq (by omega) rfl
def xblw(g:LI)(c:LC)(hp:(qgc g&&recO c)=true):q7o g c=retN (qfj g c).1 (qfj g c).2:=by
 unfold q7o;refine qam hp ?_;rw[zab] at hp;obtain⟨hc,hn⟩:=qjz hp.2;simp only[qbq,qns,qnq];unfold qbd;refine qe1 (fun h=> ?_) fun h=> ?_
 ·rw[h];rfl
 ·rw[yc h,qrb (qvf h)];exact qam (q1w hc hn (qvf h)) rfl
def xbhi{g:LI}{c:LC}(hc:qc0 c)(hn:qc6 c<=12100)(h:qmn g c=true):qan (qbd g c).1=((48,[],qe4 g c),0)/\qbo (qbd g c).1=(g,c,0)/\(qbd g c).2=0:=by
 have hm:=qvf h;have hS:=q1w hc hn hm;have hF:qrr [.int .i64 48,.sli .u8 [],.slg 3 (qe4 g c)]=true:=by rw[<- qta hm];exact h
 have hB:qbd g c=qbb [.int .i64 48,.sli .u8 [],.slg 3 (qe4 g c)]:=by unfold qbd;rw[yc h]
 have hp:qan (qbb [.int .i64 48,.sli .u8 [],.slg 3 (qe4 g c)]).1=((48,[],qe4 g c),0):=qzx hS hF;rw[hB];refine⟨hp, ?_, ?_⟩
 ·unfold qbo;rw[hp];show(if(0:Int)≠0 then _ else if(qb0 48 48 [] (qe4 g c)).2=0/\(qnr (qb0 48 48 [] (qe4 g c)).1).2.2=true/\qmn (qnr (qb0 48 48 [] (qe4 g c)).1).1 (qnr (qb0 48 48 [] (qe4 g c)).1).2.1=true then _ else _)=_;rw[yb (by simp),qjj,qrx hc hn hm,yc ⟨rfl,rfl,h⟩]
 ·obtain⟨n,hn1,_⟩:=qc8 hS;rw[<- qrc hn1] at hF;exact ye hF
def xbmc{b:LI}(hb:qad b=true)(hl:b.length<=6000\/¬(qan b).2=0\/∃g c,qc0 c/\qc6 c<=12100/\qmn g c=true/\b=(qbd g c).1)(h:(qan b).2=0):
  isS [.int .i64 (qan b).1.1,.sli .u8 (qan b).1.2.1,.slg 3 (qan b).1.2.2]=true/\∀x y z,(qan b).1.2.2=[x,y,z]->recO (qcj qdf 48 (nT z) (nB z) (nK z))=true:=by
 rcases hl with hl|hl|⟨g,c,hc,hn,ho,rfl⟩
 ·have hLg:=q48 hb h;refine⟨xb5m hLg (by omega),fun x y z e=> ?_⟩;rw[e] at hLg;obtain⟨gz,h1,h2,_⟩:=qh6 hLg;have hz:=h1 z (by simp);have:=qkt (g:=gz) (l:=[x,y,z]) (c:=z) (by simp);obtain⟨t3,b3,k3,rfl⟩:=q47 hz;exact q7a (by omega) hz
 ·exact absurd h hl
 ·have e:=(xbhi hc hn ho).1;rw[e];refine⟨q1w hc hn (qvf ho),fun x y z e3=> ?_⟩;have e4:=qrx hc hn (qvf ho);have e3:qe4 g c=[x,y,z]:=e3;rw[e3,xbkp] at e4;have e5:qcj qdf 48 (nT z) (nB z) (nK z)=c:=congrArg (fun p=>p.2.1) e4;rw[e5];exact qwj ⟨hc,hn⟩
set_option maxHeartbeats 1600000 in
def xb0v(b:LI)(hp:(qad b&&b6w b)=true):xboe b=zR [.cl (.agg [.sli .i64 (qfz b).1,.slg 1 (qfz b).2.1]),.cl (.int .i64 (qfz b).2.2)] []:=by
 rw[zab] at hp;obtain⟨hb,hl⟩:=hp;have hl:=xbr0 hl;unfold xboe;simp only[xbzu,xbzt,xbzx,xbzw,qns,qkq];refine qam hb (qa0 (fun h=> ?_) fun h=> ?_)
 ·unfold qbo;rw[yc h]
 have key:=xbmc hb hl h;clear hl;generalize hn:(qan b).1=n at*;obtain⟨t,cb,k⟩:=n;obtain⟨hS,hR⟩:=key;replace hS:isS [.int .i64 t,.sli .u8 cb,.slg 3 k]=true:=hS;dsimp only;have hC:qbo b=if(qb0 48 t cb k).2=0/\(qnr (qb0 48 t cb k).1).2.2=true/\qmn (qnr (qb0 48 t cb k).1).1 (qnr (qb0 48 t cb k).1).2.1=true then((qnr (qb0 48 t cb k).1).1,(qnr (qb0 48 t cb k).1).2.1,0) else([],[],1):=by unfold qbo;rw[yb (fun h'=>h' h),hn]
 have bad: ¬((qb0 48 t cb k).2=0/\(qnr (qb0 48 t cb k).1).2.2=true/\qmn (qnr (qb0 48 t cb k).1).1 (qnr (qb0 48 t cb k).1).2.1=true)->zR [.cl (.agg [.sli .i64 [],.slg 1 []]),.cl (.int .i64 1)] []=zR [.cl (.agg [.sli .i64 (qbo b).1,.slg 1 (qbo b).2.1]),.cl (.int .i64 (qbo b).2.2)] []:=fun h=>by rw[hC,yb h]
 refine qam (qci (by have:=(qg3 hS).2;show k.length<=_;omega)) (qa0 (fun h3=>bad fun h'=>h3 h'.1) fun h3=>qa0 (fun h4=>bad fun h'=> ?_) fun h4=> ?_)
 ·have h5:=h'.2.1;unfold qnr at h5;rw[yc h4] at h5;cases h5
 have h3:(qb0 48 t cb k).2=0:=h3;have hk:=qfg h3;have h4:(((qb0 48 t cb k).1.length:Nat):Int)=3:=h4;rw[hk] at h4 bad hC;obtain⟨x,y,z,rfl⟩:=len3 (show k.length=3 by omega);obtain⟨t1,b1,k1,e1,S1⟩:=qk7 hS x (by simp);obtain rfl:x=qbm t1 b1 k1:=e1;obtain⟨t2,b2,k2,e2,S2⟩:=qk7 hS y (by simp);obtain rfl:y=qbm t2 b2 k2:=e2;obtain⟨t3,b3,k3,e3,S3⟩:=qk7 hS z (by simp);obtain rfl:z=qbm t3 b3 k3:=e3;rw[xbkp] at bad hC;rw[hk];have R3:recO (qcj qdf 48 t3 b3 k3)=true:=hR _ _ _ rfl;have bad2: ¬(((qb6 t1 b1 k1).2=0/\(qb6 t1 b1 k1).1=1)/\qe0 algV 48 t2 b2 k2=true/\qe0 qdf 48 t3 b3 k3=true/\qmn (qcj algV 48 t2 b2 k2) (qcj qdf 48 t3 b3 k3)=true)->zR [.cl (.agg [.sli .i64 [],.slg 1 []]),.cl (.int .i64 1)] []=zR [.cl (.agg [.sli .i64 (qbo b).1,.slg 1 (qbo b).2.1]),.cl (.int .i64 (qbo b).2.2)] []:=fun h=>bad fun h'=>h (by
  obtain⟨_,h5,h6⟩:=h';simp only[zab,yd] at h5;exact⟨h5.1,h5.2.1,h5.2.2,h6⟩)
 refine qaq (by simp) (xb40 (x:=qbm t1 b1 k1) rfl (qam rfl (qam S1 (qaq (by simp) (xb40 (x:=qbm t2 b2 k2) rfl (qam rfl (qam S2 (qaq (by simp) (xb40 (x:=qbm t3 b3 k3) rfl (qam rfl (qam S3 ?_)))))))))));refine qa0 (fun h5=>bad2 fun h'=>h5 h'.1.1) fun h5=>qa0 (fun h6=>bad2 fun h'=>h6 h'.1.2) fun h6=>qe1 (fun h7=>bad2 fun h'=> ?_) fun h7=>qe1 (fun h8=>bad2 fun h'=> ?_) fun h8=>qam ?_ (qe1 (fun h9=>bad2 fun h'=> ?_) fun h9=> ?_)
 ·have h7:qe0 algV 48 t2 b2 k2=false:=h7;rw[h'.2.1] at h7;cases h7
 ·have h8:qe0 qdf 48 t3 b3 k3=false:=h8;rw[h'.2.2.1] at h8;cases h8
 ·show(qgc (qcj algV 48 t2 b2 k2)&&recO (qcj qdf 48 t3 b3 k3))=true;rw[R3,qtj (by have:=@xbli _ algV 48 t2 b2 k2;have:=(qg3 S2).2;omega)];rfl
 ·have h9:qmn (qcj algV 48 t2 b2 k2) (qcj qdf 48 t3 b3 k3)=false:=h9;rw[h'.2.2.2] at h9;cases h9
 ·have h5:(qb6 t1 b1 k1).2=0:=h5;have h6:(qb6 t1 b1 k1).1=1:=h6;have h7:qe0 algV 48 t2 b2 k2=true:=h7;have h8:qe0 qdf 48 t3 b3 k3=true:=h8;have h9:qmn (qcj algV 48 t2 b2 k2) (qcj qdf 48 t3 b3 k3)=true:=h9;rw[hC,yc];refine⟨h3, ?_,h9⟩;show((decide ((qb6 t1 b1 k1).2=0)&&decide ((qb6 t1 b1 k1).1=1))&&(qe0 algV 48 t2 b2 k2&&qe0 qdf 48 t3 b3 k3))=true;rw[yf h5,yf h6,h7,h8];rfl
open IntWalk (i64_in u8_in u32_in u64_in i64_quo u8_quo rem_in)
def xbg7{w:LI}(hb:qad w=true)(h:(qas 32 w).1=0)(x:Int):(qan (w++[x])).2=7:=by have e:=q85 hb h [x];have hu:=(qf7 hb h).2;rw[qiu,e,yc h,yc (by rw[zaf];simp only[zac,zbg];omega)]
def xbgl{w:LI}(hb:qad w=true)(h:(qas 32 w).1=0)(hu:(qas 32 w).2.2=(w.length:Int)):(qas 32 (w.take (w.length - 1))).1=1:=by
 cases w with
 | nil=>exact absurd h (by decide: ¬(1:Int)=0)
 | cons t r=>
  rw[show(32:Nat)=31+1 from rfl,qd1] at h hu;obtain⟨u,hk,hn⟩:=qix h;have hr:r≠[]:=fun e=>by subst e;exact hn (.inl rfl)
  have hl:=List.length_pos_iff.2 hr;rw[u] at hu;rw[show(t::r).length - 1=(r.length - 1)+1 by simp only[zac];omega,zb3,show(32:Nat)=31+1 from rfl,qd1];obtain⟨q,hq⟩: ∃q,q=r.take (r.length - 1):=⟨_,rfl⟩;rw[<- hq];have hql:q.length=r.length - 1:=by rw[hq,zch];omega
  have er:r=q++r.drop (r.length - 1):=by rw[hq,List.take_append_drop]
  unfold parse1;rw[yb hk,yc];by_cases hz:(qac q).2=0
  ·exact .inl hz
  ·right;have hb0:qad r=true:=qbu hb;have hbq:qad q=true:=qbt (by have:=(qak hb0).1;omega) fun x hx=>(qak hb0).2 x (by rw[hq] at hx;exact zbh hx);have hrg:=qto hbq;obtain⟨e1,e2⟩:=q5w (qak hbq).2 hz;have hd:qac r=qac q:=by
    have:r=lenB (qac q).1++(q.drop (qac q).2.toNat++r.drop (r.length - 1)):=by rw[<- zb7, <- e1];exact er
    rw[this,xbtl _ hrg.1 hrg.2.1,e2]
   rw[hd] at hu;simp only[zac] at hu;rw[hql];omega
def xbhh{b:LI}(h: ¬(qan b).2=0):qbo b=([],[],(qan b).2):=by unfold qbo;rw[yc h]
def q88{g:LI}{c:LC}(hc:qc0 c)(hn:qc6 c<=12100)(h:qmn g c=true):qad (qbd g c).1=true/\(qbd g c).1.length<=150000/\(qbd g c).1≠[]/\(qan ((qbd g c).1++[0])).2=7/\(qan ((qbd g c).1.take ((qbd g c).1.length - 1))).2=1:=by
 have hm:=qvf h;have hS:=q1w hc hn hm;have hF:qrr [.int .i64 48,.sli .u8 [],.slg 3 (qe4 g c)]=true:=by rw[<- qta hm];exact h
 have hB:qbd g c=qbb [.int .i64 48,.sli .u8 [],.slg 3 (qe4 g c)]:=by unfold qbd;rw[yc h]
 obtain⟨f1,f2,f3,f4,_⟩:=q7g hS hF;rw[<- hB] at f1 f2 f3 f4;have h0:(qas 32 (qbd g c).1).1=0:=by rw[f4]
 refine⟨f2,f3,fun e=> ?_,xbg7 f2 h0 0, ?_⟩
 ·rw[e] at h0;exact absurd h0 (by decide: ¬(1:Int)=0)
 ·have:=xbgl f2 h0 (by rw[f4]);rw[qiu,yb (by rw[this];decide)];exact this
def xbdz{b:LI}(hb:qad b=true)(hl:b.length<=6000)(h0:(qbo b).2.2=0):qgc (qbo b).1=true/\recO (qbo b).2.1=true/\qmn (qbo b).1 (qbo b).2.1=true/\qbd (qbo b).1 (qbo b).2.1=(b,0):=by
 rw[xbhj hb hl] at h0 ⊢;unfold q87 at h0 ⊢;by_cases hz:(qan b).2=0
 ·have hR:=xb2d hl (q48 hb hz);have n0: ¬(qan b).2≠0:=fun h=>h hz;rw[yb n0] at h0 ⊢;dsimp only at h0 ⊢;have hc:=(qjz hR).1;have hi:qgc (qek (qdc (qan b).1.2.2))=true:=qtj (by
   have h1:(qek (qdc (qan b).1.2.2)).length<=0+((qdc (qan b).1.2.2).flatMap fun c=>xbbh (qbl c)).length:=qkr;have h2:((qdc (qan b).1.2.2).flatMap fun c=>xbbh (qbl c)).length<=(qdc (qan b).1.2.2).length*10000:=q1e fun x hx=>by have:=qnp hc x hx;show((qbl x).map mD).length<=10000;rw[zau];exact this
   have:=hc.1;omega)
  generalize qdc (qan b).1.2.2=c at*;generalize qek c=g at*;split at h0
  ·rename_i hr;rw[yc hr];obtain⟨r1,r2⟩:=hr;have ho:qmn g c=true:=Classical.byContradiction fun e=>by unfold qbd at r1;rw[yb e] at r1;simp at r1
   exact⟨hi,hR,ho,Prod.ext r2.symm r1⟩
  ·exact absurd h0 (by decide: ¬(1:Int)=0)
 ·rw[yc hz] at h0;exact absurd h0 hz
def xbpd(b:LI)(hb:qad b=true)(hl:b.length<=6000):q7y b=zB true:=by
 unfold q7y;simp only[qkq,qnq,qns];refine qam (by rw[hb,xbdy (.inl hl)];rfl) (qa0 (fun _=>rfl) fun h=> ?_);obtain⟨h1,h2,h3,h4⟩:=xbdz hb hl h;have hr:(qgc (qbo b).1&&recO (qbo b).2.1)=true:=by rw[h1,h2];rfl
 rw[h4];refine qam hr (qaq rfl (qam (qku (by show b.length<=_;omega)) (qam (by rw[qpn];exact qke.2 rfl) (qam hr (qam h3 rfl)))))
noncomputable def kW(g:LI)(c:LC)(b w:LI)(n:Int)(r:Out):St->OO:=fun σ=>@ite _ (qal σ.heap 94=some ⟨.ints .u8 w,false⟩/\qal σ.heap 66=some ⟨.var ([CV.sli .i64 g,.slg 1 c].map .cl),false⟩/\
 getV σ.slots 1=.cl (.sli .u8 b)/\getV σ.slots 2=.ptr 66 0 0/\getV σ.slots 5=.ref 94 0 w.length true 1/\getV σ.slots 6=.cl (.int .i64 n)) (ya _) (some r) none
def xb1m(g:LI)(c:LC)(b:LI)(hb:qad b=true)(hl:b.length<=6000)(hc:qc0 c)(hn:qc6 c<=12100)(h:qmn g c=true):xbfx b (qbd g c).1=zB true:=by
 obtain⟨f1,f2,f3,f4,f5⟩:=q88 hc hn h;obtain⟨w,hw⟩: ∃w,w=(qbd g c).1:=⟨_,rfl⟩;rw[<- hw] at f1 f2 f3 f4 f5 ⊢;have hp:=List.length_pos_iff.2 f3;have hby:=(qak f1).2;have b1:qad (w++[0])=true:=qbt (by rw[zaf];simp only[zac,zbg];omega) fun x hx=>by
  rcases zaq.1 hx with hx|hx
  ·exact hby x hx
  ·simp at hx;omega
 have b2:qad (w.take (w.length - 1))=true:=qbt (by rw[zch];omega) fun x hx=>hby x (zbh hx);have e1:qbo (w++[0])=([],[],7):=by rw[xbhh (by rw[f4];decide),f4]
 have e2:qbo (w.take (w.length - 1))=([],[],1):=by rw[xbhh (by rw[f5];decide),f5]
 unfold xbfx;rw[show i64.wrap ((w.length:Int) - 1)=((w.length - 1:Nat):Int) from(i64_in _ (by omega)).trans (by omega)];simp only[qkq,Int.toNat_natCast,e1,e2];refine qvi (by rw[zaf];simp only[zac,zbg];omega) (by rw[zaf];simp only[zac,zbg];omega) (qam (by rw[b1,xbdy (.inr (.inl (by rw[f4];decide)))];rfl) (qaq (by omega) (qaq (by omega) (qam (by rw[b2,xbdy (.inr (.inl (by rw[f5];decide)))];rfl) ?_))));exact xbah (by trivial) (xbah (by trivial) (xbpd b hb hl))
def xb72(g:LI)(c:LC)(b:LI)(hp:(recT g c&&qpd b)=true): ∃(r:Out) (K5:St->OO),zB true=some r/\q1y g c b K5=some r/\
  ∀σ4,K5 σ4=some r->∃(L b1:LI) (n6:Int) (ce:LC),qal σ4.heap 94=some ⟨.ints .u8 L,false⟩/\qal σ4.heap 66=some ⟨.var (ce.map .cl),false⟩/\L≠[]/\
   getV σ4.slots 1=.cl (.sli .u8 b1)/\getV σ4.slots 2=.ptr 66 0 0/\getV σ4.slots 5=.ref 94 0 L.length true 1/\getV σ4.slots 6=.cl (.int .i64 n6)/\
   ∀u1 u5:Value,qby Tryz.prog EWBack 40 wC5 ⟨[(1,.cl (.is (.sli .u8 b1) u1)),(2,.ptr 66 0 0),(5,.cl (.is (.sli .u8 L) u5)),(6,.cl (.int .i64 n6))],[(66,⟨.var (ce.map .cl),false⟩)]⟩
    (only fun σ'=>qby Tryz.prog EWBack 40 wC6 σ' (only fun σ'=>@ite _ (getV σ'.slots 1=.cl (.is (.sli .u8 b1) u1)/\getV σ'.slots 5=.cl (.is (.sli .u8 L) u5)) (ya _)
     (qby Tryz.prog EWBack 40 wC8 ⟨[(1,.cl (.sli .u8 b1)),(5,.ref 94 0 L.length true 1)],[(94,⟨.ints .u8 L,false⟩)]⟩ (nrm (endK Tryz.prog false Tryz.f4 0) fun σ=>qby Tryz.prog EWBack 40 wbR σ (endK Tryz.prog false Tryz.f4 0))) none))=some r:=by
 rw[zab] at hp;obtain⟨h1,h2⟩:=hp;have hr: ∀x∈b,0<=x/\x<=255:=by unfold qpd at h2;rw[qab,zai] at h2;exact fun x hx=>ye (h2 x hx)
 by_cases hs:xbsi g c=true/\b.length<=6000
 ·obtain⟨hf,hl⟩:=hs;have hb:qad b=true:=qbt (by omega) hr;obtain⟨g1,c1,n1⟩:=xbx1 h1 hf;have io:(qgc g&&recO c)=true:=by rw[g1,qwj ⟨c1,by omega⟩];rfl
  by_cases ho:qmn g c=true
  ·obtain⟨f1,f2,f3,f4,f5⟩:=q88 c1 (by omega) ho;obtain⟨p1,p2,p3⟩:=xbhi c1 (show qc6 c<=12100 by omega) ho;refine⟨_,kW g c b (qbd g c).1 0 (Out.ret [.cl (.bool true)] []),rfl, ?_,fun σ4 hk=> ?_⟩
   ·unfold q1y;simp only[qns,qnq];refine qam h1 (qyh (by rw[hf];rfl) (qca (by omega) (qam io (qam ho (qam io ?_)))));unfold kW;exact yc ⟨rfl,rfl,rfl,rfl,rfl,by rw[p3];rfl⟩
   ·unfold kW at hk;split at hk
    ·rename_i he;obtain⟨k1,k2,k3,k4,k5,k6⟩:=he;refine⟨(qbd g c).1,b,0,[.sli .i64 g,.slg 1 c],k1,k2,f3,k3,k4,k5,k6,fun u1 u5=> ?_⟩;refine(xbfw g c b (qbd g c).1 0 u1 u5 _).trans ?_;unfold xboz;simp only[qkq,p2];refine qam (by rw[f1,xbdy (.inr (.inr ⟨g,c,c1,by omega,ho,rfl⟩))];rfl) (xbah (by trivial) (xbah (by trivial) (qca (by have:=List.length_pos_iff.2 f3;omega) (qam (by rw[g1,qs1 c1];rfl) (qyh (by rw[q7e,show pD (g=g/\c=c)=true from qke.2 ⟨rfl,rfl⟩];rfl) ?_)))));rw[yc ⟨rfl,rfl⟩];exact(xbfy b (qbd g c).1).trans (xb1m g c b hb hl c1 (by omega) ho)
    ·cases hk
  ·refine⟨_,fun _=>none,rfl, ?_,fun σ4 hk=>by cases hk⟩;unfold q1y;simp only[qns];have ho:qmn g c=false:=zat.2 ho;exact qam h1 (qyh (by rw[hf];rfl) (qca (by omega) (qam io (qyh ho (xbpd b hb hl)))))
 ·refine⟨_,fun _=>none,rfl, ?_,fun σ4 hk=>by cases hk⟩;unfold q1y;refine qam h1 (qe1 (fun _=>rfl) fun hf=>qae (fun _=>rfl) fun hl=>absurd ⟨hf,by omega⟩ hs)
end Go.Proofs.YtoaakappnhemiaaGreatDoorA
