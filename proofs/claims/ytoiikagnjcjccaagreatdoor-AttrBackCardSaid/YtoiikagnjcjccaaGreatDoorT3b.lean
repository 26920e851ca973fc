/-
 What the layers below come to (their lemmas, as far as this seat needs them). Conditions: each function's own.
-/
import Derived.Test.YtoiikagnjcjccaaGreatDoorT2a
import Derived.Test.YtoiikagnjcjccaaGreatDoorT2b
import Derived.Test.YtoiikagnjcjccaaGreatDoorT3a
import Derived.IntWalk
set_option linter.unusedVariables false
set_option linter.unusedSimpArgs false
set_option maxRecDepth 100000
namespace Go.Proofs.YtoiikagnjcjccaaGreatDoorA
open IntWalk (i64_in u8_in u32_in u64_in i64_quo u8_quo rem_in)
theorem q25(rk d:Nat)(deep ta:Int)(ba:List Int)(hd:1<=deep/\deep<=1000)(hdd:deep.toNat=d+1)(ka:List CV)(hlen:ka.length<=30000)(hall: ∀c∈ka, ∃y,c=.agg y/\isTf rk y=true/\qdn rk y+1<=30000): ∀(f i:Nat) (s:Int) (rows:List CV),i<=ka.length->ka.length<f+i->0<=s->s+sumL (fun c=>(qak rk (cell1 c)).1) (ka.drop i)<=150000->rows.length=i->
  qf9 rk (fun _ _ _ _ _ _ _ _ _ _ _ _ _ _ _ _ _ _ _ _ _ _ _ _ _ _ _ _ _ _ _ _ _ _=>badW) (fun _ _ _ _ _ _ _ _ _ _ _ _ _ _ _ _ _ _ _ _ _ _ _ _ _ _ _ _ _ _ _ _ _ _ _ _=>badW) (fun _ _ y79 _ _ _ _ y84 _ _ y87=>finW y84 y79 y87) f deep rows.length s i ta ba ka rows=if(ka.drop i).all (fun c=>okF rk d (cell1 c)&&(qak rk (cell1 c)).2)=true then finW ta (s+sumL (fun c=>(qak rk (cell1 c)).1) (ka.drop i)) (rows++(ka.drop i).map fun c=>.sli .u8 (qak rk (cell1 c)).1) else badW
 | 0,i,s,rows,hi,hf,_,_,_=>by omega
 | f+1,i,s,rows,hi,hf,h0,hs,hr=>by
  show qg0 rk (qf9 rk (fun _ _ _ _ _ _ _ _ _ _ _ _ _ _ _ _ _ _ _ _ _ _ _ _ _ _ _ _ _ _ _ _ _ _=>badW) (fun _ _ _ _ _ _ _ _ _ _ _ _ _ _ _ _ _ _ _ _ _ _ _ _ _ _ _ _ _ _ _ _ _ _ _ _=>badW) (fun _ _ y79 _ _ _ _ y84 _ _ y87=>finW y84 y79 y87) f) (fun _ _ _ _ _ _ _ _ _ _ _ _ _ _ _ _ _ _ _ _ _ _ _ _ _ _ _ _ _ _ _ _ _ _=>badW) (fun _ _ _ _ _ _ _ _ _ _ _ _ _ _ _ _ _ _ _ _ _ _ _ _ _ _ _ _ _ _ _ _ _ _ _ _=>badW) (fun _ _ y79 _ _ _ _ y84 _ _ y87=>finW y84 y79 y87) deep rows.length s i ta ba ka rows=_;unfold qg0;obtain⟨R,hR⟩: ∃R:Option Out,R=if(ka.drop i).all (fun c=>okF rk d (cell1 c)&&(qak rk (cell1 c)).2)=true then finW ta (s+sumL (fun c=>(qak rk (cell1 c)).1) (ka.drop i)) (rows++(ka.drop i).map fun c=>.sli .u8 (qak rk (cell1 c)).1) else badW:=⟨_,rfl⟩
  rw[<- hR];refine qac (fun h=> ?_) fun h=> ?_
  ·obtain⟨c,hc⟩:=qay (b:=ka) (i:=i) (by omega);obtain⟨y,rfl,hy,hyb⟩:=hall c (zac hc);have ed:ka.drop i=.agg y::ka.drop (i+1):=by obtain⟨hlt,e⟩:=zad.1 hc;rw[zbd hlt,e]
   refine qat (by omega) (qat h ?_);rw[show(i:Int).toNat=i from rfl,hc,zag];obtain⟨m,t,b,l,hm,hye,_⟩:=qch hy;simp only[cell1,hye,zb5,zch];refine qan rfl ?_;simp only[show IntKind.i64.wrap (deep - 1)=deep - 1 from i64_in _ (by omega),qgo,qba,qc5];refine qan ?_ ?_
   ·simp only[zab];exact⟨q1v (hye▸hy) (hye▸(by omega)),qof (by omega)⟩
   ·have e:qfa [.int .i64 t,.sli .u8 b,.slg 3 l] (deep - 1)=if okF rk d y=true/\(qak rk y).2=true then((qak rk y).1,true) else([],false):=by rw[<- hye,qm9 hy,show(deep - 1).toNat=d by omega]
    have es:sumL (fun c=>(qak rk (cell1 c)).1) (ka.drop i)=((qak rk y).1.length:Int)+sumL (fun c=>(qak rk (cell1 c)).1) (ka.drop (i+1)):=by rw[ed];rfl
    have hpos:=(qvn (fun c=>(qak rk (cell1 c)).1) ka (i+1)).1;rw[es] at hs hR;have em:((ka.drop i).map fun c=>CV.sli .u8 (qak rk (cell1 c)).1)=.sli .u8 (qak rk y).1::(ka.drop (i+1)).map fun c=>.sli .u8 (qak rk (cell1 c)).1:=by rw[ed];rfl
    have ea:(ka.drop i).all (fun c=>okF rk d (cell1 c)&&(qak rk (cell1 c)).2)=((okF rk d y&&(qak rk y).2)&&(ka.drop (i+1)).all (fun c=>okF rk d (cell1 c)&&(qak rk (cell1 c)).2)):=by rw[ed,zc2];rfl
    rw[ea,em] at hR;by_cases hok:okF rk d y=true/\(qak rk y).2=true
    ·rw[if_pos hok] at e;rw[hok.1,hok.2,Bool.and_self,zcd] at hR;simp only[e];refine qxt rfl ?_;rw[show IntKind.i64.wrap (s+((qak rk y).1.length:Int))=s+((qak rk y).1.length:Int) from i64_in _ (by omega)];refine qd0 (by omega) ?_;refine qet (by simp only[zah,zb4];omega) (qet (by simp only[zah,zb4];omega) ?_);rw[show IntKind.i64.wrap ((i:Int)+1)=((i+1:Nat):Int) from(i64_in _ (by omega)).trans (by omega)];refine(q25 rk d deep ta ba hd hdd ka hlen hall f (i+1) _ _ (by omega) (by omega) (by omega) (by omega) (by simp only[zah,zb4];omega)).trans ?_;rw[hR,Int.add_assoc,za7];rfl
    ·rw[if_neg hok] at e;simp only[e];refine qan rfl ?_;rw[hR,if_neg (by intro h;simp only[zab] at h;exact hok h.1)]
  ·rw[za2 (by omega)] at hR;rw[hR];show finW ta s rows=if([]:List CV).all (fun c=>okF rk d (cell1 c)&&(qak rk (cell1 c)).2)=true then finW ta (s+0) (rows++[]) else _
   rw[if_pos (by rfl),Int.add_zero,za6]
theorem xbai(n:Nat)(l:List CV):(l.map fun c=>CV.sli .u8 (qak n (cell1 c)).1)=(l.map fun c=>(qak n (cell1 c)).1).map (CV.sli .u8):=by rw[zcw];rfl
theorem xbos(rk:Nat)(ta:Int)(ba:List Int)(ka:List CV)(deep:Int)(hp:(isSr (rk+1) [.int .i64 ta,.sli .u8 ba,.slg 3 ka]&&qjy deep)=true):q8c rk ta ba ka deep=zR [.cl (.sli .u8 (qfa [.int .i64 ta,.sli .u8 ba,.slg 3 ka] deep).1),.cl (.bool (qfa [.int .i64 ta,.sli .u8 ba,.slg 3 ka] deep).2)] []:=by
 simp only[zab] at hp;obtain⟨ht,hb⟩:=qi9 hp.1;have hd:=qrq hp.2;obtain⟨h1,h2,h3,h4,h5⟩:=qnm ht hb;rw[qm9 ht];have bad: ∀P:Prop,[Decidable P]-> ¬P->∀q:List Int×Bool,badW=zR [.cl (.sli .u8 (if P then q else([],false):List Int×Bool).1),.cl (.bool (if P then q else([],false):List Int×Bool).2)] []:=fun P _ h q=>by rw[if_neg h];rfl
 unfold q8c qfp qb9 qhu;simp only[qab];refine qac (fun h=> ?_) fun h=> ?_
 ·subst h;exact bad _ (fun e=>absurd e.1 zb7) _
 obtain⟨d,hdd⟩: ∃d,deep.toNat=d+1:=⟨deep.toNat - 1,by omega⟩;rw[hdd];refine qf1 (fun hk=> ?_) fun hk=> ?_
 ·exact bad _ (fun e=>by obtain⟨_,_,h,_⟩:=qir e.1;simp[h] at hk) _
 have hk:qbi ta=true:=by simpa using hk
 have hflen:=flat5 (n:=rk) (l:=ka) (B:=30000) (fun c hc=>by obtain⟨y,e,hy,_⟩:=h4 c hc;exact⟨y,e,hy⟩) (by omega);refine qf1 (fun hx=> ?_) fun hx=> ?_
 ·have hx:qaw ta=false:=by simpa using hx
  refine qac (fun hka=> ?_) fun hka=> ?_
  ·exact bad _ (fun e=>by
    obtain⟨_,_,_,h|h⟩:=qir e.1
    ·simp[hx] at h
    ·rw[h.2.1] at hka;simp at hka) _
  ·obtain rfl:ka=[]:=zal (by omega);refine qd0 (by omega) (qan (qcf (by omega) h3) ?_);refine qf1 (fun hf=> ?_) fun hf=> ?_
   ·exact bad _ (fun e=>by
     obtain⟨_,_,_,h|h⟩:=qir e.1
     ·simp[hx] at h
     ·simp[h.2.2] at hf) _
   ·have hf:qbm ta ba=true:=by simpa using hf
    have hok:okF (rk+1) (d+1) [.int .i64 ta,.sli .u8 ba,.slg 3 []]=true:=by show(qbi ta&&(if qaw ta=true then _ else decide (([]:List CV)=[])&&qbm ta ba))=true;rw[if_neg (by simp[hx]),hk,hf];rfl
    rw[qhs hx,if_pos ⟨hok,rfl⟩];have hr:=qkf ta (ba.length:Nat);have hr2:=qdf (ba.length:Nat);unfold qc0;simp only[qab];have:=qja hk;refine qan (by unfold qjz;rw[qab];exact decide_eq_true (by omega)) (qet (by simp only[zah];omega) (qet (by simp only[zah];omega) rfl))
 ·have hx:qaw ta=true:=by simpa using hx
  refine qac (fun hba=> ?_) fun hba=> ?_
  ·exact bad _ (fun e=>by
    obtain⟨_,_,_,h|h⟩:=qir e.1
    ·rw[h.2.1] at hba;simp at hba
    ·simp[hx] at h) _
  ·obtain rfl:ba=[]:=zal (by omega);refine(q25 rk d deep ta [] (by omega) hdd ka (by omega) h4 FUEL 0 0 [] (by omega) (by unfold FUEL;omega) (by omega) (by rw[zbz,qdy];omega) rfl).trans ?_;rw[zbz,qdy,Int.zero_add,za1,xbai];by_cases ha:(ka.all fun c=>okF rk d (cell1 c)&&(qak rk (cell1 c)).2)=true
   ·rw[if_pos ha];simp only[zaj,zab] at ha;have hok:okF (rk+1) (d+1) [.int .i64 ta,.sli .u8 [],.slg 3 ka]=true:=by show(qbi ta&&(if qaw ta=true then decide (([]:List Int)=[])&&ka.all fun c=>okF rk d (cell1 c) else _))=true;rw[if_pos hx,hk];simp only[zcd,decide_true,zaj];exact fun c hc=>(ha c hc).1
    rw[xbu9 (qja hk) (by rw[zan];omega) (xbpz h4 fun c hc=>(ha c hc).1) (by omega),qi3 hx];have h2':(ka.all fun c=>(qak rk (cell1 c)).2)=true:=by simp only[zaj];exact fun c hc=>(ha c hc).2
    rw[h2',zcd];by_cases hs:(!(decide (ta=49))|| qbf (ka.map fun c=>(qak rk (cell1 c)).1))=true
    ·rw[if_pos hs,if_pos ⟨hok,hs⟩]
    ·rw[if_neg hs];exact bad _ (fun e=>hs e.2) _
   ·rw[if_neg ha];refine bad _ (fun e=>ha ?_) _;obtain⟨d',e1,_,h|h⟩:=qir e.1
    ·obtain rfl:d=d':=by omega
     have e2:=e.2;rw[qi3 hx] at e2;simp only[zab,zaj] at e2 ⊢;exact fun c hc=>⟨h.2.2 c hc,e2.1 c hc⟩
    ·simp[hx] at h
open IntWalk (i64_in u8_in u32_in u64_in i64_quo u8_quo rem_in)
theorem q1c(rk d:Nat)(ta:Int)(ba:List Int)(ka kb:List CV)(hlen:ka.length<=30000)(hall: ∀c∈ka, ∃y,c=.agg y/\isTf rk y=true/\qdn rk y+1<=30000)(hok: ∀c∈ka,okF rk d (cell1 c)=true): ∀(f i:Nat) (s:Int),i<=ka.length->ka.length<f+i->0<=s->s+sumL (fun c=>(qak rk (cell1 c)).1) (ka.drop i)<=150000->
  qh3 rk (fun _ _ _ _ _ _ _ _ _ _ _ _ _ _ _ _ _ _ _ _ _ _ _ _ _ _ _ _ _ _ _=>badW) (fun _ y37 _ _ _ y41 _ _ y44=>finW y41 y37 y44) f ka.length s ka (ka.length:Int) i ta ba kb (((ka.take i).map fun c=>CV.sli .u8 (qak rk (cell1 c)).1)++List.replicate (ka.length - i) (.sli .u8 []))=if(ka.drop i).all (fun c=>(qak rk (cell1 c)).2)=true then finW ta (s+sumL (fun c=>(qak rk (cell1 c)).1) (ka.drop i)) (ka.map fun c=>.sli .u8 (qak rk (cell1 c)).1) else badW
 | 0,i,s,hi,hf,_,_=>by omega
 | f+1,i,s,hi,hf,h0,hs=>by
  show qjd rk (qh3 rk (fun _ _ _ _ _ _ _ _ _ _ _ _ _ _ _ _ _ _ _ _ _ _ _ _ _ _ _ _ _ _ _=>badW) (fun _ y37 _ _ _ y41 _ _ y44=>finW y41 y37 y44) f) (fun _ _ _ _ _ _ _ _ _ _ _ _ _ _ _ _ _ _ _ _ _ _ _ _ _ _ _ _ _ _ _=>badW) (fun _ y37 _ _ _ y41 _ _ y44=>finW y41 y37 y44) ka.length s ka (ka.length:Int) i ta ba kb (((ka.take i).map fun c=>CV.sli .u8 (qak rk (cell1 c)).1)++List.replicate (ka.length - i) (.sli .u8 []))=_;unfold qjd;obtain⟨R,hR⟩: ∃R:Option Out,R=if(ka.drop i).all (fun c=>(qak rk (cell1 c)).2)=true then finW ta (s+sumL (fun c=>(qak rk (cell1 c)).1) (ka.drop i)) (ka.map fun c=>.sli .u8 (qak rk (cell1 c)).1) else badW:=⟨_,rfl⟩
  rw[<- hR];obtain⟨W,hW⟩: ∃W:List CV,W=((ka.take i).map fun c=>CV.sli .u8 (qak rk (cell1 c)).1)++List.replicate (ka.length - i) (.sli .u8 []):=⟨_,rfl⟩;rw[<- hW];refine qac (fun h=> ?_) fun h=> ?_
  ·obtain⟨c,hc⟩:=qay (b:=ka) (i:=i) (by omega);obtain⟨y,rfl,hy,hyb⟩:=hall c (zac hc);have hoky:okF rk d y=true:=hok _ (zac hc);have ed:ka.drop i=.agg y::ka.drop (i+1):=by obtain⟨hlt,e⟩:=zad.1 hc;rw[zbd hlt,e]
   refine qat (by omega) (qat h ?_);rw[show(i:Int).toNat=i from rfl,hc,zag];obtain⟨m,t,b,l,hm,hye,_⟩:=qch hy;have hset:W.set (0+i) (.sli .u8 (qak rk y).1)=((ka.take (i+1)).map fun c=>CV.sli .u8 (qak rk (cell1 c)).1)++List.replicate (ka.length - (i+1)) (.sli .u8 []):=by
    rw[hW,za0,List.set_append_right _ _ (by simp;omega)];have e1:i - ((ka.take i).map fun c=>CV.sli .u8 (qak rk (cell1 c)).1).length=0:=by simp;omega
    rw[e1,show ka.length - i=(ka.length - (i+1))+1 by omega,List.replicate_succ,List.set_cons_zero];have e2:ka.take (i+1)=ka.take i++[.agg y]:=by rw[List.take_add_one,hc];rfl
    rw[e2,List.map_append,za7];rfl
   simp only[cell1,hye,zb5,zch];refine qan rfl ?_;simp only[qgo,qba,qc5];refine qan ?_ ?_
   ·exact xbg0 ⟨hye▸hy,hye▸(by omega),d,hye▸hoky⟩
   ·have e:qio [.int .i64 t,.sli .u8 b,.slg 3 l]=if(qak rk y).2=true then((qak rk y).1,true) else([],false):=by rw[<- hye,qqb hy]
    have es:sumL (fun c=>(qak rk (cell1 c)).1) (ka.drop i)=((qak rk y).1.length:Int)+sumL (fun c=>(qak rk (cell1 c)).1) (ka.drop (i+1)):=by rw[ed];rfl
    have hpos:=(qvn (fun c=>(qak rk (cell1 c)).1) ka (i+1)).1;rw[es] at hs hR;have ea:(ka.drop i).all (fun c=>(qak rk (cell1 c)).2)=((qak rk y).2&&(ka.drop (i+1)).all (fun c=>(qak rk (cell1 c)).2)):=by rw[ed,zc2];rfl
    rw[ea] at hR;by_cases hk:(qak rk y).2=true
    ·rw[if_pos hk] at e;rw[hk,zcd] at hR;simp only[e];refine qxt rfl ?_;rw[show IntKind.i64.wrap (s+((qak rk y).1.length:Int))=s+((qak rk y).1.length:Int) from i64_in _ (by omega)];refine qat (by omega) (qat h ?_);rw[hset,show IntKind.i64.wrap ((i:Int)+1)=((i+1:Nat):Int) from(i64_in _ (by omega)).trans (by omega)];refine(q1c rk d ta ba ka kb hlen hall hok f (i+1) _ (by omega) (by omega) (by omega) (by omega)).trans ?_;rw[hR,Int.add_assoc]
    ·rw[if_neg hk] at e;simp only[e];refine qan rfl ?_;rw[hR,if_neg (by intro h;simp only[zab] at h;exact hk h.1)]
  ·obtain rfl:i=ka.length:=by omega
   rw[za2 (zas _)] at hR;rw[hR,hW,zcf,Nat.sub_self];show finW ta s ((ka.map fun c=>CV.sli .u8 (qak rk (cell1 c)).1)++[])=if([]:List CV).all (fun c=>(qak rk (cell1 c)).2)=true then finW ta (s+0) _ else _
   rw[if_pos (by rfl),Int.add_zero,za6]
theorem xbof(rk:Nat)(ta:Int)(ba:List Int)(ka:List CV)(hp:isWr (rk+1) [.int .i64 ta,.sli .u8 ba,.slg 3 ka]=true):q7t rk ta ba ka=zR [.cl (.sli .u8 (qio [.int .i64 ta,.sli .u8 ba,.slg 3 ka]).1),.cl (.bool (qio [.int .i64 ta,.sli .u8 ba,.slg 3 ka]).2)] []:=by
 obtain⟨ht,hb,d,hok⟩:=qt7 hp;obtain⟨h1,h2,h3,h4,h5⟩:=qnm ht hb;obtain⟨d',rfl,hk,h⟩:=qir hok;rw[qqb ht];unfold q7t qb9;simp only[qab];rcases h with⟨hx,rfl,hall⟩|⟨hx,rfl,hf⟩
 ·have hflen:=flat5 (n:=rk) (l:=ka) (B:=30000) (fun c hc=>by obtain⟨y,e,hy,_⟩:=h4 c hc;exact⟨y,e,hy⟩) (by simp only[zbr] at h5;omega);refine qxt (by simp[hx]) (qat (by omega) (qat (by omega) (qat (by unfold LIM;omega) (qat (by unfold LIM;omega) ?_))));refine(q1c rk d' ta [] ka ka (by omega) h4 hall FUEL 0 0 (by omega) (by unfold FUEL;omega) (by omega) (by rw[zbz,qdy];omega)).trans ?_;rw[zbz,qdy,Int.zero_add,xbai,qi3 hx];by_cases ha:(ka.all fun c=>(qak rk (cell1 c)).2)=true
  ·rw[if_pos ha,xbu9 (qja hk) (by rw[zan];omega) (xbpz h4 hall) (by omega),ha,zcd];by_cases hs:(!(decide (ta=49))|| qbf (ka.map fun c=>(qak rk (cell1 c)).1))=true
   ·rw[if_pos hs,if_pos hs]
   ·rw[if_neg hs,if_neg hs];rfl
  ·rw[if_neg ha];have hf:(ka.all fun c=>(qak rk (cell1 c)).2)=false:=by simpa using ha
   rw[hf,Bool.false_and];rfl
 ·have hr:=qkf ta (ba.length:Nat);have hr2:=qdf (ba.length:Nat);have:=qja hk;unfold qc0;simp only[qab];rw[qhs hx];refine qan (by simp[hx]) (qan (by unfold qjz;rw[qab];exact decide_eq_true (by omega)) (qet (by simp only[zah];omega) (qet (by simp only[zah];omega) rfl)))
theorem xboq(ta:Int)(ba:List Int)(ka:List CV)(hp:isS [.int .i64 ta,.sli .u8 ba,.slg 3 ka]=true):q75 ta ba ka=zR [.cl (.sli .u8 (qa2 [.int .i64 ta,.sli .u8 ba,.slg 3 ka]).1),.cl (.int .i64 (qa2 [.int .i64 ta,.sli .u8 ba,.slg 3 ka]).2)] []:=by
 obtain⟨n,ht,hb⟩:=qcp hp;have hl:=qer ht;unfold q75;refine qan (by rw[hp,qof (by omega)];rfl) ?_;simp only[qm9 ht,qdu ht,show(32:Int).toNat=32 from rfl];by_cases h:okF n 32 [.int .i64 ta,.sli .u8 ba,.slg 3 ka]=true/\(qak n [.int .i64 ta,.sli .u8 ba,.slg 3 ka]).2=true
 ·simp only[if_pos h];exact qxt rfl (qd0 (by omega) rfl)
 ·simp only[if_neg h];exact qan rfl rfl
theorem xbob(ta:Int)(ba:List Int)(ka:List CV)(hp:isS [.int .i64 ta,.sli .u8 ba,.slg 3 ka]=true):q7q ta ba ka=zR [.cl (.sli .u8 (qa2 [.int .i64 ta,.sli .u8 ba,.slg 3 ka]).1),.cl (.int .i64 (qa2 [.int .i64 ta,.sli .u8 ba,.slg 3 ka]).2)] []:=by
 obtain⟨n,ht,hb⟩:=qcp hp;have hl:=qer ht;unfold q7q;refine qan (by rw[hp,qof (by omega)];rfl) ?_;rw[qup ht,show(32:Int).toNat=32 from rfl];by_cases hok:okF n 32 [.int .i64 ta,.sli .u8 ba,.slg 3 ka]=true
 ·simp only[if_pos hok];refine qd0 (by omega) (qd0 (by omega) (qan (xbst ⟨ht,hb,32,hok⟩) ?_));simp only[qqb ht,qdu ht];by_cases h:(qak n [.int .i64 ta,.sli .u8 ba,.slg 3 ka]).2=true
  ·simp only[if_pos h,if_pos (show okF n 32 [.int .i64 ta,.sli .u8 ba,.slg 3 ka]=true/\(qak n [.int .i64 ta,.sli .u8 ba,.slg 3 ka]).2=true from⟨hok,h⟩)];exact qxt rfl rfl
  ·simp only[if_neg h,if_neg (show ¬(okF n 32 [.int .i64 ta,.sli .u8 ba,.slg 3 ka]=true/\(qak n [.int .i64 ta,.sli .u8 ba,.slg 3 ka]).2=true) from fun e=>h e.2)];exact qan rfl rfl
 ·simp only[if_neg hok,qdu ht,if_neg (show ¬(okF n 32 [.int .i64 ta,.sli .u8 ba,.slg 3 ka]=true/\(qak n [.int .i64 ta,.sli .u8 ba,.slg 3 ka]).2=true) from fun e=>hok e.1)];exact qat (by omega) rfl
theorem xbcz{n:Nat}{a:List CV}(ht:isTf n a=true):decide ((qa2 a).2=0)=qun a:=by
 rw[qdu ht,qp9 ht];by_cases h:okF n 32 a=true/\(qak n a).2=true
 ·rw[if_pos h,decide_eq_true h];rfl
 ·rw[if_neg h,decide_eq_false h];rfl
theorem xbsy(ta:Int)(ba:List Int)(ka:List CV)(hp:isS [.int .i64 ta,.sli .u8 ba,.slg 3 ka]=true):xbjc ta ba ka=zB (qun [.int .i64 ta,.sli .u8 ba,.slg 3 ka]):=by obtain⟨n,ht,hb⟩:=qcp hp;unfold xbjc;exact qan hp (qap (xbcz ht))
open IntWalk (i64_in u8_in u32_in u64_in i64_quo u8_quo rem_in)
theorem q8q{n:Nat}{c:CV}(h:isNk n c=true): ∃y,c=.agg y/\isNf n y=true:=by
 unfold isNk at h;split at h
 ·exact⟨_,rfl,h⟩
 ·exact absurd h zb7
theorem q8s{n:Nat}{l:List CV}(h:xbgw n l=true):l.length<=100000000/\∀c∈l, ∃y,c=.agg y/\isNf n y=true:=by unfold xbgw at h;rw[qab] at h;simp only[zab,decide_eq_true_eq,zaj] at h;exact⟨h.1,fun c hc=>q8q (h.2 c hc)⟩
theorem q8r{n:Nat}{l:List CV}(h1:l.length<=100000000)(h2: ∀c∈l, ∃y,c=.agg y/\isNf n y=true):xbgw n l=true:=by unfold xbgw;rw[qab];simp only[zab,decide_eq_true_eq,zaj];refine⟨h1,fun c hc=> ?_⟩;obtain⟨y,rfl,hy⟩:=h2 c hc;exact hy
theorem q1u{l:List CV}(h:isNs l=true):l.length<=100000000/\∃n, ∀c∈l, ∃y,c=.agg y/\isNf n y=true:=by unfold isNs at h;rw[qab] at h;obtain⟨h1,n,h2⟩:=@of_decide_eq_true _ (Classical.propDecidable _) h;simp only[zaj] at h2;exact⟨h1,n,fun c hc=>q8q (h2 c hc)⟩
theorem xbgv{n:Nat}{l:List CV}(h1:l.length<=100000000)(h2: ∀c∈l, ∃y,c=.agg y/\isNf n y=true):isNs l=true:=by unfold isNs;rw[qab];refine @decide_eq_true _ (Classical.propDecidable _) ⟨h1,n, ?_⟩;simp only[zaj];intro c hc;obtain⟨y,rfl,hy⟩:=h2 c hc;exact hy
theorem qg4{a b:List CV}:qqc a b=true↔a=b:=by unfold qqc;rw[qab];exact @decide_eq_true_iff _ (Classical.propDecidable _)
theorem qnx{a b:List CV}:qqc a b=false↔ ¬a=b:=by rw[<- Bool.not_eq_true,qg4]
theorem xbmo(rk:Nat)(R:Bool->Option Out)(ka kb:List CV)(hl:ka.length=kb.length)(hka:ka.length<=100000000)(h1: ∀c∈ka, ∃y,c=.agg y/\isNf rk y=true)(n:Nat)(h2: ∀c∈kb, ∃y,c=.agg y/\isNf n y=true): ∀(f i:Nat),i<=ka.length->ka.length<f+i->
  qwr rk (fun _ _ _ _ _ _ _ _ _ _ _ _ _ _ _ _ _ _ _ _ _ _ _ _ _ _ _ _ _ _ _=>R false) (fun _ _ _ _=>R true) f kb ka (ka.length:Int) i=R (@decide (ka.drop i=kb.drop i) (Classical.propDecidable _))
 | 0,i,hi,hf=>by omega
 | f+1,i,hi,hf=>by
  show que rk (qwr rk (fun _ _ _ _ _ _ _ _ _ _ _ _ _ _ _ _ _ _ _ _ _ _ _ _ _ _ _ _ _ _ _=>R false) (fun _ _ _ _=>R true) f) (fun _ _ _ _ _ _ _ _ _ _ _ _ _ _ _ _ _ _ _ _ _ _ _ _ _ _ _ _ _ _ _=>R false) (fun _ _ _ _=>R true) kb ka (ka.length:Int) i=_;unfold que;refine qac (fun h=> ?_) fun h=> ?_
  ·obtain⟨x,hx⟩:=qay (b:=ka) (i:=i) (by omega);obtain⟨y,hy⟩:=qay (b:=kb) (i:=i) (by omega);obtain⟨x',rfl,hx'⟩:=h1 x (zac hx);obtain⟨y',rfl,hy'⟩:=h2 y (zac hy);refine qat (by omega) (qat h ?_);rw[show(i:Int).toNat=i from rfl,hx,zag];obtain⟨m,t,b,l,hm,hxe,_⟩:=qob hx';obtain⟨m',t',b',l',hm',hye,_⟩:=qob hy';simp only[cell1,hxe,hye,zb5,zch];refine qan rfl (qat (by omega) (qat (by omega) ?_));rw[hy,zag];simp only[cell1,hxe,hye,zb5,zch];refine qan rfl (qan ?_ ?_)
   ·simp only[zab];exact⟨q1t (hxe▸hx'),xbjk (n:=n) (hye▸hy')⟩
   have ed:(ka.drop i=kb.drop i)=(x'=y'/\ka.drop (i+1)=kb.drop (i+1)):=by
    have ex:ka.drop i=.agg x'::ka.drop (i+1):=by obtain⟨hlt,e⟩:=zad.1 hx;rw[zbd hlt,e]
    have ey:kb.drop i=.agg y'::kb.drop (i+1):=by obtain⟨hlt,e⟩:=zad.1 hy;rw[zbd hlt,e]
    rw[ex,ey,zbk,CV.agg.injEq]
   refine qf1 (fun h5=> ?_) fun h5=> ?_
   ·have h5: ¬x'=y':=by rw[hxe,hye];exact qe9.1 (by simpa [qgo,qba,qc5] using h5)
    show R false=_;congr 1;symm;rw[@decide_eq_false_iff_not _ (Classical.propDecidable _),ed];exact fun e=>h5 e.1
   ·have h5:x'=y':=by rw[hxe,hye];exact qgd.1 (by simpa [qgo,qba,qc5] using h5)
    rw[show IntKind.i64.wrap ((i:Int)+1)=((i+1:Nat):Int) from(i64_in _ (by omega)).trans (by omega)];refine(xbmo rk R ka kb hl hka h1 n h2 f (i+1) (by omega) (by omega)).trans ?_;congr 1;rw[zbb,@decide_eq_true_iff _ (Classical.propDecidable _),@decide_eq_true_iff _ (Classical.propDecidable _),ed];exact⟨fun e=>⟨h5,e⟩,fun e=>e.2⟩
  ·show R true=_;congr 1;symm;rw[@decide_eq_true_iff _ (Classical.propDecidable _),za2 (by omega),za2 (by omega)]
theorem nEqF(rk:Nat)(a b:List CV)(hp:(xbgw rk a&&isNs b)=true):gEqF rk a b=zB (qqc a b):=by
 simp only[zab] at hp;obtain⟨h1,h2⟩:=q8s hp.1;obtain⟨h3,n,h4⟩:=q1u hp.2;unfold gEqF;simp only[qab];refine qa5 (fun h=>qap ?_) fun h=> ?_
 ·symm;rw[qnx];exact fun e=>h (by rw[e])
 ·refine(xbmo rk (fun b=>zB b) a b (by omega) h1 h2 n h4 FUEL 0 (by omega) (by unfold FUEL;omega)).trans (qap ?_);rw[zbb,@decide_eq_true_iff _ (Classical.propDecidable _),qg4];simp only[zbz]
theorem xbs0(rk:Nat)(ta:Int)(ba:List Int)(ka:List CV)(tb:Int)(bb:List Int)(kb:List CV)(hp:(isNr (rk+1) [.int .i64 ta,.sli .u8 ba,.slg 3 ka]&&isN [.int .i64 tb,.sli .u8 bb,.slg 3 kb])=true):xbjd rk ta ba ka tb bb kb=zB (qfr [.int .i64 ta,.sli .u8 ba,.slg 3 ka] [.int .i64 tb,.sli .u8 bb,.slg 3 kb]):=by
 simp only[zab] at hp;obtain⟨m,t,b,l,hm,he,hb,hl,hc⟩:=qob (qi8 hp.1);obtain⟨n,hn⟩:=qmr hp.2;obtain⟨m',t',b',l',hm',he',hb',hl',hc'⟩:=qob hn;simp only[zbk,CV.int.injEq,CV.sli.injEq,CV.slg.injEq,true_and,and_true] at he he';obtain⟨rfl,rfl,rfl⟩:=he;obtain⟨rfl,rfl,rfl⟩:=he';obtain rfl:m=rk:=by omega
 have bad: ¬(ta=tb/\ba=bb/\ka=kb)->false=qfr [.int .i64 ta,.sli .u8 ba,.slg 3 ka] [.int .i64 tb,.sli .u8 bb,.slg 3 kb]:=fun h=>by symm;rw[qe9];simp only[zbk,CV.int.injEq,CV.sli.injEq,CV.slg.injEq,true_and,and_true];exact h
 unfold xbjd qa6 qk5;simp only[qab];refine qac (fun h=>qan (qkh hb) (qac (fun h1=>qan ?_ (qap ?_)) fun h1=>qap (bad fun e=>h1 e.2.1))) fun h=>qap (bad fun e=>h e.1)
 ·rw[q8r hl hc,xbgv hl' hc'];rfl
 ·rw[zbb,qg4,qgd];simp only[zbk,CV.int.injEq,CV.sli.injEq,CV.slg.injEq,true_and,and_true];exact⟨fun e=>⟨h,h1,e⟩,fun e=>e.2.2⟩
theorem qwn{a:List CV}(h:isS a=true):isN a=true:=by obtain⟨n,hn,hb⟩:=qcp h;exact xbjk (qz5 hn hb)
def lenB(n:Int):List Int:=if n<128 then[n] else if n<256 then[129,n] else if n<65536 then[130,n/ 256,n % 256] else[131,n/ 65536,n/ 256 % 256,n % 256]
theorem qol(t n:Int):qdp t n=t::lenB n:=rfl
theorem qzy(n:Int):((lenB n).length:Int)=qar n:=by
 unfold lenB qar
 repeat' split
 all_goals rfl
theorem xbn3(n:Int)(h0:0<=n)(h1:n<16777216)(c:List Int):qah (lenB n++c)=(n,qar n):=by
 unfold lenB qar;split
 ·rename_i h;rw[List.singleton_append,qcu,if_pos h]
 ·rename_i h;split
  ·rename_i h2;show qah (129::n::c)=_;rw[qcu,if_neg (by omega),if_neg (by simp only[zaf];omega)];have e:qb8 ((n::c).take (129 - 128:Int).toNat)=n:=by show(0:Int)*256+n=n;omega
   rw[e,if_neg (by simp only[zb5];omega)];rfl
  ·rename_i h2;split
   ·rename_i h3;show qah (130::n/ 256::n % 256::c)=_;rw[qcu,if_neg (by omega),if_neg (by simp only[zaf];omega)];have e:qb8 ((n/ 256::n % 256::c).take (130 - 128:Int).toNat)=n:=by show((0:Int)*256+n/ 256)*256+n % 256=n;omega
    rw[e,if_neg (by simp only[zb5];omega)];rfl
   ·rename_i h3;show qah (131::n/ 65536::n/ 256 % 256::n % 256::c)=_;rw[qcu,if_neg (by omega),if_neg (by simp only[zaf];omega)];have e:qb8 ((n/ 65536::n/ 256 % 256::n % 256::c).take (131 - 128:Int).toNat)=n:=by show(((0:Int)*256+n/ 65536)*256+n/ 256 % 256)*256+n % 256=n;omega
    rw[e,if_neg (by simp only[zb5];omega)];rfl
theorem xbjs{r:List Int}(hb: ∀x∈r,0<=x/\x<=255)(h: ¬(qah r).2=0):r=lenB (qah r).1++r.drop (qah r).2.toNat/\qar (qah r).1=(qah r).2:=by
 match r,hb,h with
 | [],_,h=>exact absurd rfl h
 | c::t,hb,h=>
  have hc:=hb c (zbl ..);rw[qcu] at h ⊢;by_cases h1:c<128
  ·rw[if_pos h1];have e:lenB c=[c]:=by unfold lenB;rw[if_pos h1]
   have e2:qar c=1:=by unfold qar;rw[if_pos h1]
   exact⟨by rw[e];rfl,e2⟩
  ·rw[if_neg h1] at h ⊢;by_cases h2:c=128\/131<c\/(t.length:Int)<c - 128
   ·rw[if_pos h2] at h;exact absurd rfl h
   ·rw[if_neg h2] at h ⊢;by_cases h3:t.headD 0=0\/qb8 (t.take (c - 128).toNat)<128
    ·rw[if_pos h3] at h;exact absurd rfl h
    ·rw[if_neg h3] at h ⊢;have hc3:c=129\/c=130\/c=131:=by omega
     have hbt: ∀(i:Nat) (x:Int),t[i]? =some x->0<=x/\x<=255:=fun i x hx=>hb x (zaz _ (zac hx));rcases hc3 with rfl|rfl|rfl
     ·match t,h2,h3,hbt with
      | [],h2,_,_=>simp at h2
      | x::t,h2,h3,hbt=>
       have hx:=hbt 0 x rfl;have e:qb8 ((x::t).take (129 - 128:Int).toNat)=x:=by show(0:Int)*256+x=x;omega
       rw[e] at h3 ⊢;simp only[zb5] at h3;have e1:lenB x=[129,x]:=by unfold lenB;rw[if_neg (by omega),if_pos (by omega)]
       have e2:qar x=2:=by unfold qar;rw[if_neg (by omega),if_pos (by omega)]
       exact⟨by show _=lenB x++_;rw[e1];rfl,e2⟩
     ·match t,h2,h3,hbt with
      | [],h2,_,_=>simp at h2
      | [_],h2,_,_=>simp at h2
      | x::y::t,h2,h3,hbt=>
       have hx:=hbt 0 x rfl;have hy:=hbt 1 y rfl;have e:qb8 ((x::y::t).take (130 - 128:Int).toNat)=x*256+y:=by show((0:Int)*256+x)*256+y=_;omega
       rw[e] at h3 ⊢;simp only[zb5] at h3;have e1:lenB (x*256+y)=[130,x,y]:=by unfold lenB;rw[if_neg (by omega),if_neg (by omega),if_pos (by omega),show(x*256+y)/ 256=x by omega,show(x*256+y) % 256=y by omega]
       have e2:qar (x*256+y)=3:=by unfold qar;rw[if_neg (by omega),if_neg (by omega),if_pos (by omega)]
       exact⟨by show _=lenB (x*256+y)++_;rw[e1];rfl,e2⟩
     ·match t,h2,h3,hbt with
      | [],h2,_,_=>simp at h2
      | [_],h2,_,_=>simp at h2
      | [_,_],h2,_,_=>simp at h2
      | x::y::z::t,h2,h3,hbt=>
       have hx:=hbt 0 x rfl;have hy:=hbt 1 y rfl;have hz:=hbt 2 z rfl;have e:qb8 ((x::y::z::t).take (131 - 128:Int).toNat)=(x*256+y)*256+z:=by show(((0:Int)*256+x)*256+y)*256+z=_;omega
       rw[e] at h3 ⊢;simp only[zb5] at h3;have e1:lenB ((x*256+y)*256+z)=[131,x,y,z]:=by unfold lenB;rw[if_neg (by omega),if_neg (by omega),if_neg (by omega),show((x*256+y)*256+z)/ 65536=x by omega,show((x*256+y)*256+z)/ 256 % 256=y by omega,show((x*256+y)*256+z) % 256=z by omega]
       have e2:qar ((x*256+y)*256+z)=4:=by unfold qar;rw[if_neg (by omega),if_neg (by omega),if_neg (by omega)]
       exact⟨by show _=lenB ((x*256+y)*256+z)++_;rw[e1];rfl,e2⟩
theorem q9v{P:List Int->Int×Nd×Int}{t:Int}{r:List Int}(hb:qad r=true)(h:(parse1 P t r).1=0)(rest:List Int):parse1 P t (r++rest)=parse1 P t r:=by
 obtain⟨_,hk,hn⟩:=q5k h;have hr:=xbn5 hb;obtain⟨e1,e2⟩:=xbjs (qax hb).2 (fun e=>hn (.inl e));have hl:qah (r++rest)=qah r:=by
  have:r++rest=lenB (qah r).1++(r.drop (qah r).2.toNat++rest):=by rw[<- za7, <- e1]
  rw[this,xbn3 _ hr.1 hr.2.1,e2]
 have hi:((r++rest).drop (qah r).2.toNat).take (qah r).1.toNat=(r.drop (qah r).2.toNat).take (qah r).1.toNat:=by rw[List.drop_append_of_le_length (by omega),List.take_append_of_le_length (by simp only[zar];omega)]
 unfold parse1;rw[hl,hi,if_neg hk,if_neg hk,if_neg hn,if_neg (by simp only[zah];omega)]
theorem xbec{n:Nat}{b:List Int}(hb:qad b=true)(h:(qrh n b).1=0)(rest:List Int):qrh n (b++rest)=qrh n b:=by
 match n,b,hb with
 | 0,_,_=>rfl
 | n+1,[],_=>exact absurd h (by decide: ¬(1:Int)=0)
 | n+1,t::r,hb=>
  rw[qlx] at h ⊢;rw[zbg,qlx];have hbt:=qj9 hb;simp only[zch] at hbt;exact q9v hbt h rest
def toNd:List CV->Nd
 | [.int _ t,.sli _ b,.slg _ l]=>(t,b,l)
 | _=>nd0
theorem qr9{f:List Int->Int×Nd×Int}{g:CV->List Int}{nd:CV->Nd}: ∀(l:List CV),(∀c∈l,(∀rest,f (g c++rest)=(0,nd c,((g c).length:Int)))/\g c≠[])->∀m,((l.map g).flatten).length<=m->qj0 f m ((l.map g).flatten)=(0,l.map nd,l.map g)
 | [],_,m,_=>xbed f m
 | c::r,h,m,hm=>by
  obtain⟨h1,h2⟩:=h c (zbl ..);have ih:=qr9 r (fun c' hc=>h c' (zaz _ hc));rw[zby,zdh] at hm ⊢;have hl:0<(g c).length:=List.length_pos_iff.2 h2;rw[zah] at hm;obtain⟨m,rfl⟩: ∃k,m=k+1:=⟨m - 1,by omega⟩;have hne:g c++(r.map g).flatten≠[]:=fun e=>h2 (List.append_eq_nil_iff.1 e).1;have hz:(f (g c++(r.map g).flatten)).1=0:=by rw[h1]
  rw[xbkl hne hz,h1];have e1:(g c++(r.map g).flatten).drop ((g c).length:Int).toNat=(r.map g).flatten:=by rw[show((g c).length:Int).toNat=(g c).length from rfl,List.drop_left]
  have e2:(g c++(r.map g).flatten).take ((g c).length:Int).toNat=g c:=by rw[show((g c).length:Int).toNat=(g c).length from rfl,List.take_left]
  rw[e1,e2,ih m (by omega)];rfl
theorem xbi1{n:Nat}{x:List CV}(h:isTf n x=true):(qak n x).1≠[]:=by
 obtain⟨n',t,b,l,rfl,rfl,_,_⟩:=qch h
 cases hx:qaw t with
 | true=>rw[qi3 hx,qol];simp
 | false=>rw[qhs hx,qol];simp
theorem xbpc{n:Nat}{y:List CV}(h:isTf n y=true):ndCV (toNd y)=.agg y:=by obtain⟨n',t,b,l,rfl,rfl,_,_⟩:=qch h;rfl
theorem qw5(P:List Int->Int×Nd×Int){t:Int}{c:List Int}(hc:c.length<16777216)(hk:qbi t=true):
  parse1 P t (lenB (c.length:Nat)++c)=if qaw t=false then(if qbm t c=true then(0,(t,c,[]),1+qar (c.length:Nat)+(c.length:Nat)) else(5,nd0,0))
   else if(qj0 P c.length c).1=0 then(if t=49/\qbf (qj0 P c.length c).2.2=false then(6,nd0,0) else(0,(t,[],(qj0 P c.length c).2.1.map ndCV),1+qar (c.length:Nat)+(c.length:Nat))) else((qj0 P c.length c).1,nd0,0):=by
 have hl:=qzy (c.length:Nat);have hr:=qdf (c.length:Nat);have hi:((lenB (c.length:Nat)++c).drop (qar (c.length:Nat)).toNat).take (c.length:Int).toNat=c:=by rw[show(qar (c.length:Nat)).toNat=(lenB (c.length:Nat)).length by omega,List.drop_left];exact zcf
 unfold parse1;rw[xbn3 _ (by omega) (by omega)];simp only[];rw[hi,if_neg (by simp[hk]),if_neg (by simp only[zah];omega)]
theorem qst: ∀ {n d:Nat} {a:List CV},isTf n a=true->qdn n a<=30000->okF n d a=true->(qak n a).2=true->qrh d (qak n a).1=(0,toNd a,(((qak n a).1.length:Nat):Int))
 | n,d,a,hn,hb,hok,hs=>by
  obtain⟨n',t,b,l,rfl,rfl,hbb,hl⟩:=qch hn;obtain⟨h1,h2,h3,h4,h5⟩:=qnm hn hb;obtain⟨d',rfl,hk,h⟩:=qir hok;rcases h with⟨hx,rfl,hall⟩|⟨hx,rfl,hf⟩
  ·have hfl:=flat5 (B:=30000) hl (by omega);rw[qi3 hx] at hs ⊢;simp only[zab,zaj] at hs;have hp:=qr9 (f:=qrh d') (g:=fun c=>(qak n' (cell1 c)).1) (nd:=fun c=>toNd (cell1 c)) l (fun c hc=>by
    obtain⟨y,rfl,hy,hyb⟩:=h4 c hc;have hwy:=qst (d:=d') hy (by omega) (hall _ hc) (hs.1 _ hc);have hby:qad (qak n' y).1=true:=qcf (by have:=qer hy;omega) (qhq hy (by omega) (hall _ hc));refine⟨fun rest=> ?_,xbi1 hy⟩;show qrh d' ((qak n' y).1++rest)=(0,toNd y,_);rw[xbec hby (by rw[hwy]) rest,hwy];rfl) _ (zas _)
   simp only[qol,zbg];rw[qlx,qw5 _ (by omega) hk,if_neg (by simp[hx]),hp];have hss: ¬(t=49/\qbf (l.map fun c=>(qak n' (cell1 c)).1)=false):=fun e=>by have:=hs.2;simp[e.1,e.2] at this
   have hm:(l.map fun c=>toNd (cell1 c)).map ndCV=l:=by rw[zcw];refine(zcb fun c hc=> ?_).trans (List.map_id l);obtain⟨y,rfl,hy,_⟩:=h4 c hc;exact xbpc hy
   rw[if_pos rfl,if_neg hss,hm];have hll:=qzy (((l.map fun c=>(qak n' (cell1 c)).1).flatten).length:Nat);simp only[toNd,zaf,zah,za8,true_and];omega
  ·rw[qhs hx];simp only[qol,zbg];rw[qlx,qw5 _ (by omega) hk,if_pos hx,if_pos hf];have hll:=qzy (b.length:Nat);simp only[toNd,zaf,zah,za8,true_and];omega
theorem xbv0{n:Nat}{t:Int}{b:List Int}{l:List CV}(h1: ∀z∈b,0<=z/\z<=255)(h3: ∀c∈l, ∃y,c=.agg y/\isTf n y=true):isTf (n+1) [.int .i64 t,.sli .u8 b,.slg 3 l]=true:=by show(b.all xbfj&&l.all fun c=>match c with|.agg x=>isTf n x|_=>false)=true;simp only[zab,zaj];refine⟨fun z hz=>decide_eq_true (h1 z hz),fun c hc=> ?_⟩;obtain⟨y,rfl,hy⟩:=h3 c hc;exact hy
theorem xbt3{n:Nat}{a:List CV}(h:isTf n a=true):ndL (toNd a)=a:=by obtain⟨n',t,b,l,rfl,rfl,_,_⟩:=qch h;rfl
theorem qtv{a:List CV}(hs:isS a=true)(hf:qun a=true):(qa2 a).2=0/\qad (qa2 a).1=true/\(qa2 a).1.length<=150000/\qrh 32 (qa2 a).1=(0,toNd a,(((qa2 a).1.length:Nat):Int))/\ndL (toNd a)=a:=by obtain⟨n,hn,hb⟩:=qcp hs;rw[qp9 hn] at hf;have hf:=of_decide_eq_true hf;have hl:=qer hn;rw[qdu hn,if_pos hf];refine⟨rfl,qcf (by show(qak n a).1.length<=_;omega) (qhq hn hb hf.1),by show(qak n a).1.length<=_;omega,qst hn hb hf.1 hf.2,xbt3 hn⟩
open IntWalk (i64_in u8_in u32_in u64_in i64_quo u8_quo rem_in)
theorem q3t{i:Nat}(h:i<=1000000000000):IntKind.i64.wrap ((i:Int)+1)=((i+1:Nat):Int):=(i64_in _ (by omega)).trans (by omega)
open IntWalk (i64_in u8_in u32_in u64_in i64_quo u8_quo rem_in)
theorem qq1{n:Int}(h:u32Ok n=true):0<=n/\n<=4294967295:=by unfold u32Ok at h;rw[qab] at h;exact of_decide_eq_true h
theorem qvq{n:Int}(h:0<=n/\n<=4294967295):u32Ok n=true:=by unfold u32Ok;rw[qab];exact decide_eq_true h
theorem qsr{o:List Int}(h:qrk o=true):o.length<=100000000000000/\∀x∈o,0<=x/\x<=4294967295:=by unfold qrk at h;rw[qab] at h;simp only[zab,decide_eq_true_eq,zaj] at h;exact⟨h.1,fun x hx=>of_decide_eq_true (h.2 x hx)⟩
theorem c_z{x:Int}{a b:Option Out}(h:x=0):cond (!decide (x=0)) a b=b:=by rw[decide_eq_true h];rfl
theorem c_nz{x:Int}{a b:Option Out}(h:x≠0):cond (!decide (x=0)) a b=a:=by rw[decide_eq_false h];rfl
theorem or128: ∀n:Fin 256,IntKind.u8.wrap ((BitVec.ofInt 8 (n.val:Int)||| BitVec.ofInt 8 128).toNat)=128+(n.val:Int) % 128:=by decide+kernel
theorem xbps(x:Int):IntKind.u8.wrap ((BitVec.ofInt 8 (IntKind.u8.wrap x)||| BitVec.ofInt 8 128).toNat)=128+x % 128:=by rw[xblx x];have:=or128 ⟨(x % 256).toNat,by omega⟩;simp only[zc3 (show 0<=x % 256 by omega)] at this;rw[this];omega
theorem xbpt(x:Int):IntKind.u8.wrap ((BitVec.ofInt 8 (IntKind.u8.wrap x)&&& ~~~ BitVec.ofInt 8 128).toNat)=x % 128:=by rw[xblx x];have:=(and7 ⟨(x % 256).toNat,by omega⟩).1;simp only[zc3 (show 0<=x % 256 by omega)] at this;rw[this];omega
theorem fd28(n:Int):Int.fdiv n (2 ^ 28)=n/ 268435456:=zb2 _ (by decide)
theorem fd21(n:Int):Int.fdiv n (2 ^ 21)=n/ 2097152:=zb2 _ (by decide)
theorem fd14(n:Int):Int.fdiv n (2 ^ 14)=n/ 16384:=zb2 _ (by decide)
theorem fd7(n:Int):Int.fdiv n (2 ^ 7)=n/ 128:=zb2 _ (by decide)
theorem q7v(f:Nat):gHi f 0=[]:=by cases f<;>rfl
theorem q1k(f:Nat){n:Int}(h:n≠0):gHi (f+1) n=gHi f (n/ 128)++[128+n % 128]:=by
 conv=>lhs;unfold gHi
 rw[if_neg h]
theorem gr1{n:Int}(h:n/ 128=0):qaq n=[n % 128]:=by unfold qaq;rw[h,q7v];rfl
theorem gr2{n:Int}(h:n/ 128≠0)(h':n/ 16384=0):qaq n=[128+n/ 128 % 128,n % 128]:=by unfold qaq;rw[q1k 4 h,show n/ 128/ 128=0 by omega,q7v];rfl
theorem gr3{n:Int}(h:n/ 16384≠0)(h':n/ 2097152=0):qaq n=[128+n/ 16384 % 128,128+n/ 128 % 128,n % 128]:=by unfold qaq;rw[q1k 4 (by omega),q1k 3 (by omega),show n/ 128/ 128/ 128=0 by omega,q7v,show n/ 128/ 128=n/ 16384 by omega];rfl
theorem gr4{n:Int}(h:n/ 2097152≠0)(h':n/ 268435456=0):qaq n=[128+n/ 2097152 % 128,128+n/ 16384 % 128,128+n/ 128 % 128,n % 128]:=by unfold qaq;rw[q1k 4 (by omega),q1k 3 (by omega),q1k 2 (by omega),show n/ 128/ 128/ 128/ 128=0 by omega,q7v,show n/ 128/ 128/ 128=n/ 2097152 by omega,show n/ 128/ 128=n/ 16384 by omega];rfl
theorem gr5{n:Int}(h:n/ 268435456≠0)(h':0<=n/\n<=4294967295):qaq n=[128+n/ 268435456 % 128,128+n/ 2097152 % 128,128+n/ 16384 % 128,128+n/ 128 % 128,n % 128]:=by unfold qaq;rw[q1k 4 (by omega),q1k 3 (by omega),q1k 2 (by omega),q1k 1 (by omega),show n/ 128/ 128/ 128/ 128/ 128=0 by omega,q7v,show n/ 128/ 128/ 128/ 128=n/ 268435456 by omega,show n/ 128/ 128/ 128=n/ 2097152 by omega,show n/ 128/ 128=n/ 16384 by omega];rfl
theorem qzp{n:Int}(h:0<=n/\n<=4294967295):(n/ 128=0/\n/ 16384=0/\n/ 2097152=0/\n/ 268435456=0)\/(n/ 128≠0/\n/ 16384=0/\n/ 2097152=0/\n/ 268435456=0)\/
  (n/ 128≠0/\n/ 16384≠0/\n/ 2097152=0/\n/ 268435456=0)\/(n/ 128≠0/\n/ 16384≠0/\n/ 2097152≠0/\n/ 268435456=0)\/(n/ 128≠0/\n/ 16384≠0/\n/ 2097152≠0/\n/ 268435456≠0):=by omega
theorem xboj(n:Int)(hp:u32Ok n=true):xbfy n=zR [.ref 0 0 (qbg n).length true 1] [some ⟨.ints .u8 (qbg n),false⟩]:=by
 have hn:=qq1 hp;unfold xbfy qbg;simp only[qab];unfold qzw;simp only[fd28,fd21,fd14,fd7,xbps,xbpt];rcases qzp hn with⟨h1,h2,h3,h4⟩|⟨h1,h2,h3,h4⟩|⟨h1,h2,h3,h4⟩|⟨h1,h2,h3,h4⟩|⟨h1,h2,h3,h4⟩
 ·rw[c_z h4,c_z h3,c_z h2,c_z h1,gr1 h1];rfl
 ·rw[c_z h4,c_z h3,c_z h2,c_nz h1,gr2 h1 h2];rfl
 ·rw[c_z h4,c_z h3,c_nz h2,c_nz h1,gr3 h2 h3];rfl
 ·rw[c_z h4,c_nz h3,c_nz h2,c_nz h1,gr4 h3 h4];rfl
 ·rw[c_nz h4,c_nz h3,c_nz h2,c_nz h1,gr5 h4 hn];rfl
theorem rm1{l:List Int}{x:Option Out}(h:l.length<=1000000000):rmK l.length 1 x=x:=qxc (by omega) (by omega) rfl
theorem xbok(m:Nat)(n:Int)(l:List Int)(hp:(u32Ok n&&qud l)=true):xbfz m n l=zR [.ref 1 0 (l++qbg n).length true 1] [none,some ⟨.ints .u8 (l++qbg n),false⟩]:=by
 simp only[zab] at hp;have hn:=qq1 hp.1;have hl:=qh1 hp.2;have rm: ∀(a:List Int) {x:Option Out},a.length<=10->rmK (l++a).length 1 x=x:=fun a x h=>rm1 (by simp;omega);unfold xbfz qbg;simp only[qab];unfold qps;simp only[fd28,fd21,fd14,fd7,xbps,xbpt,za7,zbg,za1];rcases qzp hn with⟨h1,h2,h3,h4⟩|⟨h1,h2,h3,h4⟩|⟨h1,h2,h3,h4⟩|⟨h1,h2,h3,h4⟩|⟨h1,h2,h3,h4⟩
 ·rw[c_z h4,c_z h3,c_z h2,c_z h1,gr1 h1,rm _ (by simp)]
 ·rw[c_z h4,c_z h3,c_z h2,c_nz h1,gr2 h1 h2,rm _ (by simp),rm _ (by simp)]
 ·rw[c_z h4,c_z h3,c_nz h2,rm _ (by simp),c_nz h1,rm _ (by simp),gr3 h2 h3,rm _ (by simp)]
 ·rw[c_z h4,c_nz h3,rm _ (by simp),c_nz h2,rm _ (by simp),c_nz h1,rm _ (by simp),gr4 h3 h4,rm _ (by simp)]
 ·rw[c_nz h4,rm _ (by simp),c_nz h3,rm _ (by simp),c_nz h2,rm _ (by simp),c_nz h1,rm _ (by simp),gr5 h4 hn,rm _ (by simp)]
theorem xbvn: ∀(f g:Nat) (n:Int) (l:List Int),0<=n->n<=4294967295->n<128 ^ g->g<f->l.length+g<=100->
  qgy (fun y4 y5=>zR [.ref 0 0 y4 true 1] [some ⟨.ints .u8 y5,false⟩]) f n l.length l=zR [.ref 0 0 (gHi g n++l).length true 1] [some ⟨.ints .u8 (gHi g n++l),false⟩]
 | 0,g,n,l,_,_,_,h,_=>by omega
 | f+1,g,n,l,h0,hb,h1,hg,hl=>by
  show qh7 (qgy (fun y4 y5=>zR [.ref 0 0 y4 true 1] [some ⟨.ints .u8 y5,false⟩]) f) (fun y4 y5=>zR [.ref 0 0 y4 true 1] [some ⟨.ints .u8 y5,false⟩]) n l.length l=_;unfold qh7;refine qac (fun h=> ?_) fun h=> ?_
  ·obtain⟨g,rfl⟩: ∃g',g=g'+1:=⟨g - 1,by
    cases g with
    | zero=>rw[Int.pow_zero] at h1;omega
    | succ g=>rfl⟩
   rw[Int.pow_succ] at h1;rw[q1k g (by omega)];dsimp only;rw[zbv h0,zb9 h0,show IntKind.u32.wrap (128+n % 128)=128+n % 128 from u32_in _ (by omega),show IntKind.u32.wrap (n/ 128)=n/ 128 from u32_in _ (by omega),show IntKind.u8.wrap (128+n % 128)=128+n % 128 from u8_in _ (by omega)];rw[show[128+n % 128]++l=(128+n % 128)::l from rfl];refine qxc (by simp;omega) (by simp;omega) ?_;refine(xbvn f g (n/ 128) ((128+n % 128)::l) (by omega) (by omega) (by generalize (128:Int) ^ g=X at*;omega) (by omega) (by simp only[zaf];omega)).trans ?_;simp
  ·have:n=0:=by omega
   subst this;rw[q7v];rfl
theorem xbd0(n:Int)(hp:u32Ok n=true):q1m n=zR [.ref 0 0 (qbg n).length true 1] [some ⟨.ints .u8 (qbg n),false⟩]:=by have hn:=qq1 hp;unfold q1m qbg qaq;simp only[qab];rw[zbv hn.1,zb9 hn.1,show IntKind.u32.wrap (n/ 128)=n/ 128 from u32_in _ (by omega),show IntKind.u8.wrap (n % 128)=n % 128 from u8_in _ (by omega)];exact xbvn FUEL 5 (n/ 128) [n % 128] (by omega) (by omega) (by omega) (by unfold FUEL;omega) (by simp)
theorem qzq(n:Int):(qaq n).length<=6:=by
 have h: ∀(f:Nat) (n:Int),(gHi f n).length<=f:=fun f=>by
  induction f with
  | zero=>intro n;simp[gHi]
  | succ f ih=>
   intro n;unfold gHi;split
   ·simp
   ·have:=ih (n/ 128);simp;omega
 unfold qaq;have:=h 5 (n/ 128);simp;omega
theorem qoj(n:Int):qbg n=qaq n:=qab _
abbrev bO(y:List Int):Option Out:=zR [.cl (.sli .u8 y)] []
theorem xbvs(r:List Int)(hr: ∀x∈r,0<=x/\x<=4294967295)(hl:r.length<=1000): ∀(f i:Nat) (l:List Int),i<=r.length->r.length<f+i->l.length<=6*(i+1)->
  qk8 (fun _ y=>bO y) f l.length r r.length i l=bO (l++(r.drop i).flatMap qaq)
 | 0,i,l,hi,hf,_=>by omega
 | f+1,i,l,hi,hf,hll=>by
  show qmu (qk8 (fun _ y=>bO y) f) (fun _ y=>bO y) l.length r r.length i l=_;unfold qmu;refine qac (fun h=> ?_) fun h=> ?_
  ·obtain⟨c,hc⟩:=qay (b:=r) (i:=i) (by omega);refine qbd (by omega) hc (qan ?_ ?_)
   ·rw[qvq (hr c (zac hc)),qkh (by omega)];rfl
   ·have:=qzq c;dsimp only;rw[q3t (by omega),qoj,qdq hc];refine(xbvs r hr hl f (i+1) (l++qaq c) (by omega) (by omega) (by simp;omega)).trans ?_;simp
  ·rw[qe3 (by omega)];simp
theorem xbvx(o:List Int)(hr: ∀x∈o,0<=x/\x<=4294967295)(hl:o.length<=1000): ∀(f i:Nat) (l:List Int),i<=o.length->o.length<f+i->l.length<=6*(i+1)->
  qji (fun _ y=>bO y) f o l.length i l=bO (l++(o.drop i).flatMap qaq)
 | 0,i,l,hi,hf,_=>by omega
 | f+1,i,l,hi,hf,hll=>by
  show qkj (qji (fun _ y=>bO y) f) (fun _ y=>bO y) o l.length i l=_;unfold qkj;refine qac (fun h=> ?_) fun h=> ?_
  ·obtain⟨c,hc⟩:=qay (b:=o) (i:=i) (by omega);have:=qzq c;refine qbd (by omega) hc (qan (qvq (hr c (zac hc))) ?_);dsimp only;rw[q3t (by omega),qoj,qdq hc,rm1 (by simp;omega)];refine(xbvx o hr hl f (i+1) (l++qaq c) (by omega) (by omega) (by simp;omega)).trans ?_;simp
  ·rw[qe3 (by omega)];simp
theorem qkd{o:List Int}(h:qbe o=true): ∃x y r,o=x::y::r/\r.length<=18/\x<=2/\(x<2->y<40)/\y<=4294967215:=by
 match o,h with
 | x::y::r,h=>
  simp only[qbe,zab,zbw,decide_eq_true_eq] at h;exact⟨x,y,r,rfl,h.1,by omega,by omega,by omega⟩
theorem xboh(o:List Int)(hp:qrk o=true):xbfx o=zR [.cl (.sli .u8 (qal o))] []:=by
 obtain⟨hl,hr⟩:=qsr hp;unfold xbfx qal qg6 qbz;simp only[qab]
 cases hf:qbe o with
 | false=>rfl
 | true=>
  obtain⟨x,y,r,rfl,hr18,hx,hxy,hy⟩:=qkd hf;have rx:=hr x (by simp);have ry:=hr y (by simp);rw[if_pos rfl];refine qxt rfl (qat (by simp only[zaf];omega) ?_);simp only[za4,za3,zag];rw[show IntKind.u32.wrap (40*x)=40*x from u32_in _ (by omega),show IntKind.u32.wrap (40*x+y)=40*x+y from u32_in _ (by omega)];refine qat (by simp only[zaf];omega) (qan (qvq (by omega)) (qat (by simp only[zaf];omega) ?_));rw[qoj];have:=qzq (40*x+y);exact xbvs r (fun z hz=>hr z (by simp[hz])) (by omega) FUEL 0 _ (by omega) (by unfold FUEL;omega) (by omega)
theorem xbj4(o:List Int)(hp:qrk o=true):q72 o=zR [.cl (.sli .u8 (qal o))] []:=by
 obtain⟨hl,hr⟩:=qsr hp;unfold q72 qal qg6 qbz;simp only[qab]
 cases hf:qbe o with
 | false=>rfl
 | true=>
  obtain⟨x,y,r,rfl,hr18,hx,hxy,hy⟩:=qkd hf;have rx:=hr x (by simp);have ry:=hr y (by simp);rw[if_pos rfl];refine qxt rfl (qat (by simp only[zaf];omega) ?_);simp only[za4,za3,zag];rw[show IntKind.u32.wrap (40*x)=40*x from u32_in _ (by omega),show IntKind.u32.wrap (40*x+y)=40*x+y from u32_in _ (by omega)];refine qat (by simp only[zaf];omega) (qan (qvq (by omega)) ?_);rw[qoj];have:=qzq (40*x+y);exact xbvx (x::y::r) hr (by simp;omega) FUEL 2 _ (by simp) (by unfold FUEL;simp;omega) (by omega)
open IntWalk (i64_in u8_in u32_in u64_in i64_quo u8_quo rem_in)
theorem xbfp{o:List Int}(h:qbe o=true):2<=o.length/\o.length<=20:=by obtain⟨x,y,r,rfl,h1,_⟩:=qkd h;simp;omega
abbrev inU(n:Int):Prop:=0<=n/\n<=4294967295
theorem q8j{n:Int}(h:inU n)(rest:List Int):qam (qaq n++rest)=(n,((qaq n).length:Int)):=by
 unfold qam;have go: ∀(acc i c:Int) (r:List Int), ¬(i=0/\c=128)->acc<=33554431->128<=c->qbt acc i (c::r)=qbt (acc*128+(c - 128)) (i+1) r:=fun acc i c r h1 h2 h3=>by rw[qov,if_neg (by rintro(h|h);exact h1 h;omega),if_neg (by omega)]
 have fin: ∀(acc i c:Int) (r:List Int), ¬(i=0/\c=128)->acc<=33554431->c<128->qbt acc i (c::r)=(acc*128+c,i+1):=fun acc i c r h1 h2 h3=>by rw[qov,if_neg (by rintro(h|h);exact h1 h;omega),if_pos h3]
 rcases qzp h with⟨h1,h2,h3,h4⟩|⟨h1,h2,h3,h4⟩|⟨h1,h2,h3,h4⟩|⟨h1,h2,h3,h4⟩|⟨h1,h2,h3,h4⟩
 ·rw[gr1 h1];simp only[zbg,za1,zaf,zbr];rw[fin _ _ _ _ (by omega) (by omega) (by omega)];exact Prod.ext (by simp only[];omega) rfl
 ·rw[gr2 h1 h2];simp only[zbg,za1,zaf,zbr];rw[go _ _ _ _ (by omega) (by omega) (by omega),fin _ _ _ _ (by omega) (by omega) (by omega)];exact Prod.ext (by simp only[];omega) rfl
 ·rw[gr3 h2 h3];simp only[zbg,za1,zaf,zbr];rw[go _ _ _ _ (by omega) (by omega) (by omega),go _ _ _ _ (by omega) (by omega) (by omega),fin _ _ _ _ (by omega) (by omega) (by omega)];exact Prod.ext (by simp only[];omega) rfl
 ·rw[gr4 h3 h4];simp only[zbg,za1,zaf,zbr];rw[go _ _ _ _ (by omega) (by omega) (by omega),go _ _ _ _ (by omega) (by omega) (by omega),go _ _ _ _ (by omega) (by omega) (by omega),fin _ _ _ _ (by omega) (by omega) (by omega)];exact Prod.ext (by simp only[];omega) rfl
 ·rw[gr5 h4 h];simp only[zbg,za1,zaf,zbr];rw[go _ _ _ _ (by omega) (by omega) (by omega),go _ _ _ _ (by omega) (by omega) (by omega),go _ _ _ _ (by omega) (by omega) (by omega),go _ _ _ _ (by omega) (by omega) (by omega),fin _ _ _ _ (by omega) (by omega) (by omega)];exact Prod.ext (by simp only[];omega) rfl
theorem xbss(n:Int):0<(qaq n).length:=by unfold qaq;simp
theorem xbgl{n:Int}(h:inU n): ∀x∈qaq n,0<=x/\x<=255:=by
 have: ∀(f:Nat) (n:Int), ∀x∈gHi f n,0<=x/\x<=255:=fun f=>by
  induction f with
  | zero=>intro n x hx;simp[gHi] at hx
  | succ f ih=>
   intro n x hx;unfold gHi at hx;split at hx
   ·simp at hx
   ·rcases zak.1 hx with hx|hx
    ·exact ih _ x hx
    ·simp at hx;omega
 intro x hx;unfold qaq at hx;rcases zak.1 hx with hx|hx
 ·exact this _ _ x hx
 ·simp at hx;omega
theorem q5j{n:Int}(h:inU n)(rest:List Int)(hb:qad (qaq n++rest)=true):qcb (qaq n++rest)=(n,true)::qcb rest:=by have hp:=xbss n;rw[q2i hb,if_neg (fun e=>by rw[List.append_eq_nil_iff] at e;rw[e.1] at hp;simp at hp),q8j h];simp only[];rw[if_neg (by omega),xbnu,List.drop_left]
theorem q2g: ∀(l:List Int) (rest:List Int),(∀n∈l,inU n)->qad (l.flatMap qaq++rest)=true->qcb (l.flatMap qaq++rest)=l.map (fun n=>(n,true))++qcb rest
 | [],rest,_,_=>rfl
 | n::l,rest,h,hb=>by rw[za5,za7] at hb ⊢;rw[q5j (h n (by simp)) _ hb,q2g l rest (fun x hx=>h x (by simp[hx])) (by have:=qbc hb (qaq n).length;rwa [List.drop_left] at this)];rfl
def oflat:List Int->List Int
 | x::y::r=>(40*x+y)::r
 | _=>[]
theorem qf2{o:List Int}(h:qbe o=true):qbz o=(oflat o).flatMap qaq:=by obtain⟨x,y,r,rfl,_⟩:=qkd h;unfold qbz;rw[if_pos h];simp[oflat]
theorem quu{o:List Int}(h:qbe o=true)(hr: ∀n∈o,inU n): ∀n∈oflat o,inU n:=by
 obtain⟨x,y,r,rfl,h1,h2,h3,h4⟩:=qkd h;intro n hn;have:=hr x (by simp);have:=hr y (by simp);rcases zau.1 hn with rfl|hn
 ·exact⟨by omega,by omega⟩
 ·exact hr n (by simp[hn])
theorem qut{o:List Int}(h:qbe o=true):(oflat o).length+1=o.length:=by obtain⟨x,y,r,rfl,_⟩:=qkd h;rfl
theorem xbi2{o:List Int}(hr: ∀n∈o,inU n):qad (qbz o)=true:=by
 by_cases h:qbe o=true
 ·rw[qf2 h];have hl:=qut h;have hf:=xbfp h;have hg: ∀(l:List Int),(l.flatMap qaq).length<=6*l.length:=fun l=>by
   induction l with
   | nil=>simp
   | cons a l ih=>have:=qzq a;simp at*;omega
  have:=hg (oflat o);refine qcf (by omega) fun x hx=> ?_;obtain⟨n,hn,hx⟩:=zb6.1 hx;exact xbgl (quu h hr n hn) x hx
 ·unfold qbz;rw[if_neg h];exact qcf (by simp) (by simp)
theorem xbgk: ∀(l o:List Int),o≠[]->o.length+l.length<=21->qq8 (l.map fun n=>(n,true)) o=some (o++l)
 | [],o,_,_=>by simp[qq8]
 | n::l,o,h,hl=>by rw[zby];unfold qq8;simp only[zaf] at hl;rw[if_neg (by rintro(h|h);cases h;omega),if_neg h,xbgk l (o++[n]) (by simp) (by simp;omega)];simp
theorem q4z{x y:Int}(h:qbe [x,y]=true)(hx:inU x)(hy:inU y):qbs (40*x+y)=[x,y]:=by
 simp only[qbe,zab,zbw,decide_eq_true_eq] at h;unfold qbs;rcases h.2 with h|h
 ·rw[if_pos (by omega),show(40*x+y)/ 40=x by omega,show(40*x+y) % 40=y by omega]
 ·rw[if_neg (by omega),h.1,show 40*2+y - 80=y by omega]
theorem qr8{o:List Int}(h:qbe o=true)(hr: ∀n∈o,inU n):qc9 (qbz o)=(o,0):=by
 have hok:=xbi2 hr;have hfl:=xbfp h;rw[qf2 h] at hok ⊢;have e:=q2g (oflat o) [] (quu h hr) (by rwa [za6]);rw[za6] at e;unfold qc9;rw[e,show qcb []=[] from rfl,za6];obtain⟨x,y,r,rfl,h1,h2,h3,h4⟩:=qkd h;have hf2:qbe [x,y]=true:=by simp only[qbe,zab] at h ⊢;exact⟨by simp,h.2⟩
 have:qq8 ((oflat (x::y::r)).map fun n=>(n,true)) []=some (x::y::r):=by show qq8 ((40*x+y,true)::r.map fun n=>(n,true)) []=_;unfold qq8;rw[if_neg (by simp),if_pos rfl,q4z hf2 (hr x (by simp)) (hr y (by simp)),xbgk r [x,y] (by simp) (by simp at*;omega)];rfl
 rw[this];simp only[];rw[if_pos h]
theorem q7w: ∀(f:Nat) (n:Int),0<=n->n<128 ^ f->gHi f n=gHi (f+1) n
 | 0,n,h0,h=>by
  rw[Int.pow_zero] at h;have:n=0:=by omega
  subst this;rw[q7v,q7v]
 | f+1,n,h0,h=>by
  by_cases hn:n=0
  ·subst hn;rw[q7v,q7v]
  ·rw[q1k _ hn,q1k _ hn,q7w f (n/ 128) (by omega) (by rw[Int.pow_succ] at h;generalize (128:Int) ^ f=X at*;omega)]
theorem qwu: ∀(b:List Int) (acc i n k:Int),(∀x∈b,0<=x/\x<=255)->0<=acc->0<=i->(i=0->acc=0)->(0<i->0<acc)->qbt acc i b=(n,k)->k≠0->gHi 5 acc++b.take (k - i).toNat=qaq n
 | [],acc,i,n,k,_,_,_,_,_,h,hk=>by simp[qbt] at h;omega
 | c::b,acc,i,n,k,hb,h0,hi,h1,h2,h,hk=>by
  have hc:=hb c (by simp);rw[qov] at h;split at h
  ·simp at h;omega
  ·rename_i hn;simp only[not_or,not_and] at hn;split at h
   ·simp only[za8] at h;obtain⟨rfl,rfl⟩:=h;unfold qaq;rw[show(i+1 - i).toNat=1 by omega,show(acc*128+c)/ 128=acc by omega,show(acc*128+c) % 128=c by omega];rfl
   ·have hrng:=qus b (acc*128+(c - 128)) (i+1) (fun x hx=>hb x (by simp[hx])) (by omega) (by omega);rw[h] at hrng;have hk2:=hrng.2.resolve_left hk;simp only at hk2;have hpos:0<acc*128+(c - 128):=by
     by_cases hi0:i=0
     ·have:=hn.1 hi0;omega
     ·have:=h2 (by omega);omega
    have:=qwu b (acc*128+(c - 128)) (i+1) n k (fun x hx=>hb x (by simp[hx])) (by omega) (by omega) (by omega) (by omega) h hk;rw[q1k 4 (by omega),show(acc*128+(c - 128))/ 128=acc by omega,show 128+(acc*128+(c - 128)) % 128=c by omega,q7w 4 acc h0 (by omega)] at this;rw[<- this,show(k - i).toNat=(k - (i+1)).toNat+1 by omega,zdl];simp
theorem q2f: ∀(f:Nat) (b:List Int),qad b=true->b.length<=f->(∀p∈qcq f b,p.2=true)->b=(qcq f b).flatMap fun p=>qaq p.1
 | 0,b,_,h,_=>by have:b=[]:=zal (by omega);subst this;rfl
 | f+1,b,hb,hl,hall=>by
  unfold qcq at hall ⊢;by_cases he:b=[]
  ·subst he;rfl
  ·rw[if_neg he] at hall ⊢;by_cases h0:(qam b).2=0
   ·rw[if_pos h0] at hall;have:=hall ((qam b).1,false) (by simp);cases this
   ·rw[if_neg h0] at hall ⊢;have hr:=(qge hb).2.resolve_left h0;have hg:=qwu b 0 0 (qam b).1 (qam b).2 (qax hb).2 (by omega) (by omega) (fun _=>rfl) (by omega) rfl h0;rw[q7v,za1,Int.sub_zero] at hg;rw[za5, <- hg, <- q2f f (b.drop (qam b).2.toNat) (qbc hb _) (by simp only[zar];omega) (fun p hp=>hall p (by simp[hp]))];exact(List.take_append_drop _ _).symm
theorem xbnm: ∀(l:List (Int×Bool)) (o o':List Int),qq8 l o=some o'->o≠[]->(∀p∈l,p.2=true)/\o'=o++l.map (·.1)
 | [],o,o',h,_=>by simp[qq8] at h;subst h;simp
 | (n,ok)::l,o,o',h,ho=>by
  unfold qq8 at h;rw[if_neg ho] at h;split at h
  ·cases h
  ·rename_i hn;simp only[not_or] at hn;obtain⟨h1,h2⟩:=xbnm l _ o' h (by simp);refine⟨fun p hp=> ?_,by rw[h2];simp⟩;rcases zau.1 hp with rfl|hp
   ·simpa using hn.1
   ·exact h1 p hp
theorem q4q{b:List Int}(hb:qad b=true):(qc9 b=([],5))\/∃o,qc9 b=(o,0)/\qbe o=true/\(∀n∈o,inU n)/\qbz o=b:=by
 unfold qc9
 cases hg:qq8 (qcb b) [] with
 | none=>exact .inl rfl
 | some o=>
  simp only[];by_cases hf:qbe o=true
  ·rw[if_pos hf];refine .inr ⟨o,rfl,hf, ?_⟩;have hback:=q2f b.length b hb (zas _);have hrng:=qz7 b.length b hb;change (∀p∈qcb b,p.2=true)->b=(qcb b).flatMap _ at hback;change ∀p∈qcb b,_ at hrng
   cases hl:qcb b with
   | nil=>
    rw[hl] at hg;simp[qq8] at hg;subst hg;simp[qbe] at hf
   | cons p l=>
    obtain⟨n,ok⟩:=p;rw[hl] at hg hback hrng;unfold qq8 at hg;split at hg
    ·cases hg
    ·rename_i hn;rw[if_pos rfl] at hg;have hne:qbs n≠[]:=by unfold qbs;split<;>simp
     obtain⟨h1,rfl⟩:=xbnm l _ o hg hne;have hbk:=hback (fun p hp=>by
      rcases zau.1 hp with rfl|hp
      ·simpa using (not_or.1 hn).1
      ·exact h1 p hp)
     have hn2:=hrng (n,ok) (by simp);simp only at hn2;have hfl:oflat (qbs n++l.map (·.1))=n::l.map (·.1):=by
      unfold qbs;split
      ·simp only[zbg,za1,oflat,zbk,and_true];omega
      ·simp only[zbg,za1,oflat,zbk,and_true];omega
     have hin: ∀m∈qbs n++l.map (·.1),inU m:=by
      intro m hm;rcases zak.1 hm with hm|hm
      ·unfold qbs at hm;split at hm
       ·simp at hm;rcases hm with rfl|rfl<;>exact⟨by omega,by omega⟩
       ·simp at hm;rcases hm with rfl|rfl<;>exact⟨by omega,by omega⟩
      ·obtain⟨q,hq,rfl⟩:=zba.1 hm;exact hrng q (by simp[hq])
     refine⟨hin, ?_⟩;rw[qf2 hf,hfl]
     conv=>rhs;rw[hbk]
     simp[List.flatMap_map]
  ·rw[if_neg hf];exact .inl rfl
open IntWalk (i64_in u8_in u32_in u64_in i64_quo u8_quo rem_in)
theorem xbg3{g:Int}{b:List Int}(hb: ∀x∈b,0<=x/\x<=255):isTf 1 [.int .i64 g,.sli .u8 b,.slg 3 []]=true:=by show(b.all xbfj&&true)=true;rw[Bool.and_true,zaj];exact fun x hx=>decide_eq_true (hb x hx)
theorem qpu{g:Int}{b:List Int}(hb: ∀x∈b,0<=x/\x<=255)(hl:b.length<=29999):isS [.int .i64 g,.sli .u8 b,.slg 3 []]=true:=
 q8t (xbg3 hb) (by unfold qdn;simp;omega)
theorem q82{g:Int}{b:List Int}(hb: ∀x∈b,0<=x/\x<=255)(hg:qaw g=false):qun [.int .i64 g,.sli .u8 b,.slg 3 []]=(qbi g&&qbm g b):=by rw[qp9 (xbg3 hb)];unfold okF qak;simp[hg]
theorem qt5{t:Int}{b:List Int}{k:List CV}(h:isS [.int .i64 t,.sli .u8 b,.slg 3 k]=true):b.length<=29999/\∀x∈b,0<=x/\x<=255:=by obtain⟨n,hn,hB⟩:=qcp h;obtain⟨m,t',b',l',rfl,e,hb,_⟩:=qch hn;cases e;refine⟨?_,hb⟩;change 1+b.length+_<=30000 at hB;omega
theorem xbgx{t:Int}{b:List Int}{k:List CV}(h:isS [.int .i64 t,.sli .u8 b,.slg 3 k]=true):qad b=true:=qcf (by have:=(qt5 h).1;omega) (qt5 h).2
theorem xbly{g t:Int}{b:List Int}{k:List CV}(h:t=g)(hk:k.length=0)(hd:qbm g b=false):q3m g t b k=5:=by unfold q3m;rw[if_neg (by simp[h]),if_pos (.inr hd)]
theorem xbh5{g t:Int}{b:List Int}{k:List CV}(h:t=g)(hk:k.length=0)(hd:qbm g b=true):q3m g t b k=0:=by unfold q3m;rw[if_neg (by simp[h]),if_neg (by simp[hk,hd])]
theorem xbb0{g t:Int}{b:List Int}{k:List CV}(h: ¬t=g):q3m g t b k=4:=by unfold q3m;rw[if_pos h]
theorem q3n{g t:Int}{b:List Int}{k:List CV}(h:t=g)(hk:0<k.length):q3m g t b k=5:=by unfold q3m;rw[if_neg (by simp[h]),if_pos (.inl (by omega))]
theorem xbrl{g t:Int}{b:List Int}{k:List CV}{bad:Int->Option Out}{good:Option Out}(hS:isS [.int .i64 t,.sli .u8 b,.slg 3 k]=true)(hk:qbi g=true)(hb:qaw g=false):
  cond (!decide (t=g)) (bad 4) (cond (decide ((0:Int)<(k.length:Int))) (bad 5) (cond (isS [.int .i64 g,.sli .u8 b,.slg 3 []]) (cond (!(qun [.int .i64 g,.sli .u8 b,.slg 3 []])) (bad 5) good) none))=if q3m g t b k=0 then good else bad (q3m g t b k):=by
 obtain⟨h1,h2⟩:=qt5 hS;refine qa5 (fun h=> ?_) fun h=>qac (fun h'=> ?_) fun h'=>qan (qpu h2 h1) ?_
 ·rw[xbb0 h];rfl
 ·rw[q3n h (by omega)];rfl
 ·rw[q82 h2 hb,hk,zcd]
  cases hd:qbm g b with
  | false=>rw[xbly h (by omega) hd];rfl
  | true=>rw[xbh5 h (by omega) hd];rfl
theorem xbo9(t:Int)(b:List Int)(k:List CV)(hp:isS [.int .i64 t,.sli .u8 b,.slg 3 k]=true):xbgi t b k=zR [.cl (.sli .u32 (qiz t b k).1),.cl (.int .i64 (qiz t b k).2)] []:=by
 unfold xbgi;dsimp only;refine(xbrl (bad:=fun e=>zR [.cl (.sli .u32 []),.cl (.int .i64 e)] []) hp rfl rfl).trans ?_;unfold qiz;rw[qab];by_cases h:q3m 6 t b k=0
 ·rw[if_pos h,if_pos h];exact qan (xbgx hp) rfl
 ·rw[if_neg h,if_neg h]
theorem xbtz(t:Int)(b:List Int)(k:List CV)(hp:isS [.int .i64 t,.sli .u8 b,.slg 3 k]=true):xbsq t b k=zR [.cl (.sli .u32 (qiz t b k).1),.cl (.int .i64 (qiz t b k).2)] []:=qan hp rfl
open IntWalk (i64_in u8_in u32_in u64_in i64_quo u8_quo rem_in)
abbrev W4(c:CV):Prop:= ∃t b k w,c=.agg [.int .i64 t,.sli .u8 b,.slg 3 k,.sli .u8 w]/\qad w=true
open IntWalk (i64_in u8_in u32_in u64_in i64_quo u8_quo rem_in)
abbrev W3(c:CV):Prop:= ∃t b k,c=.agg [.int .i64 t,.sli .u8 b,.slg 3 k]/\isS [.int .i64 t,.sli .u8 b,.slg 3 k]=true
theorem qkr{c:CV}(h:W3 c):W4 (xbfb c):=by
 obtain⟨t,b,k,rfl,hs⟩:=h;refine⟨t,b,k,_,rfl, ?_⟩;obtain⟨n,hn,hB⟩:=qcp hs;show qad (qa2 [.int .i64 t,.sli .u8 b,.slg 3 k]).1=true;rw[qdu hn];split
 ·rename_i hok;have h1:=qer hn;exact qcf (by show(qak n _).1.length<=_;omega) (qhq hn hB hok.1)
 ·exact qcf (by simp) (by simp)
open IntWalk (i64_in u8_in u32_in u64_in i64_quo u8_quo rem_in)
theorem qjq:qlu=[]:=qab _
open IntWalk (i64_in u8_in u32_in u64_in i64_quo u8_quo rem_in)
theorem qrx{g:Int}{b:List Int}(h:qp7 g b=true):(g=12\/g=6\/g=24)/\b.length<=2000/\∀x∈b,0<=x/\x<=255:=by unfold qp7 at h;rw[qab,zab,decide_eq_true_eq,zaj] at h;exact⟨h.1.1,h.1.2,fun x hx=>qkz (h.2 x hx)⟩
theorem xbds{g:Int}{b:List Int}(h:g=12\/g=6\/g=24)(h':b.length<=2000)(hb: ∀x∈b,0<=x/\x<=255):qp7 g b=true:=by unfold qp7;rw[qab,zab,decide_eq_true_eq,zaj];exact⟨⟨h,h'⟩,fun x hx=>decide_eq_true (hb x hx)⟩
theorem qq3{g:Int}{b:List Int}(h:qbm g b=true):qcm g b=(g,b,0):=by unfold qcm xbl1;rw[qab,if_pos h]
theorem qvs{g:Int}{b:List Int}(h:qbm g b=false):qcm g b=(0,[],5):=by unfold qcm xbl1;rw[qab,if_neg (by rw[h];simp)]
theorem xbt1(g:Int)(b:List Int)(hp:qp7 g b=true):xbnl g b=zR [.cl (.agg [.int .i64 (qcm g b).1,.sli .u8 (qcm g b).2.1,.slg 3 qlu]),.cl (.int .i64 (qcm g b).2.2)] []:=by
 obtain⟨hg,hl,hb⟩:=qrx hp;have hk:qbi g=true/\qaw g=false:=by rcases hg with rfl|rfl|rfl<;>exact⟨rfl,rfl⟩
 unfold xbnl;refine qan (qpu hb (by omega)) ?_;rw[q82 hb hk.2,hk.1,zcd,qjq]
 cases hd:qbm g b with
 | false=>rw[qvs hd];rfl
 | true=>rw[qq3 hd];rfl
theorem xbo8(g:Int)(b:List Int)(hp:qp7 g b=true):xbgh g b=zR [.cl (.agg [.int .i64 (qcm g b).1,.sli .u8 (qcm g b).2.1,.slg 3 qlu]),.cl (.int .i64 (qcm g b).2.2)] []:=by
 obtain⟨hg,hl,hb⟩:=qrx hp;unfold xbgh qhu;rw[qab,qjq];refine qan (qcf (by omega) hb) ?_
 cases hd:qbm g b with
 | false=>rw[qvs hd];rfl
 | true=>rw[qq3 hd];rfl
theorem q1r{o:List Int}(h:idOk o=true):o.length<=100000000000000/\∀n∈o,inU n:=by unfold idOk at h;rw[qab,zab,decide_eq_true_eq,zaj] at h;exact⟨h.1,fun x hx=>of_decide_eq_true (h.2 x hx)⟩
theorem xbgn{o:List Int}(h:o.length<=100000000000000)(h': ∀n∈o,inU n):idOk o=true:=by unfold idOk;rw[qab,zab,decide_eq_true_eq,zaj];exact⟨h,fun x hx=>decide_eq_true (h' x hx)⟩
theorem xbnr{o:List Int}(h:idOk o=true):qrk o=true:=by obtain⟨h1,h2⟩:=q1r h;unfold qrk;rw[qab,zab,decide_eq_true_eq,zaj];exact⟨by omega,fun x hx=>decide_eq_true (h2 x hx)⟩
theorem qzo{o:List Int}(h:qbe o=true):2<=o.length/\o.length<=20:=by
 unfold qbe at h;split at h
 ·simp at h;simp;omega
 ·cases h
theorem q2k{o:List Int}(hr: ∀n∈o,inU n):(qal o).length<=2000/\∀x∈qal o,0<=x/\x<=255:=by
 rw[show qal o=qbz o from qab _];by_cases h:qbe o=true
 ·rw[qf2 h];have hl:=qut h;have hf:=qzo h;have hg: ∀(l:List Int),(l.flatMap qaq).length<=6*l.length:=fun l=>by
   induction l with
   | nil=>simp
   | cons a l ih=>have:=qzq a;simp at*;omega
  have:=hg (oflat o);refine⟨by omega,fun x hx=> ?_⟩;obtain⟨n,hn,hx⟩:=zb6.1 hx;exact xbgl (quu h hr n hn) x hx
 ·unfold qbz;rw[if_neg h];exact⟨by simp,by simp⟩
theorem xbgo{o:List Int}(h:idOk o=true):qp7 6 (qal o)=true:=
 let ⟨h1,h2⟩:=q2k (q1r h).2
 xbds (.inr (.inl rfl)) h1 h2
theorem nVId(o:List Int)(hp:idOk o=true):gVId o=zR [.cl (.agg [.int .i64 (qcm 6 (qal o)).1,.sli .u8 (qcm 6 (qal o)).2.1,.slg 3 qlu]),.cl (.int .i64 (qcm 6 (qal o)).2.2)] []:=qan (xbnr hp) (qan (xbgo hp) rfl)
theorem xbwv(o:List Int)(hp:idOk o=true):xbwa o=zR [.cl (.agg [.int .i64 (qcm 6 (qal o)).1,.sli .u8 (qcm 6 (qal o)).2.1,.slg 3 qlu]),.cl (.int .i64 (qcm 6 (qal o)).2.2)] []:=qan (xbnr hp) (qan (xbgo hp) rfl)
theorem qm8(a:List CV):qfr a a=true:=by unfold qfr;rw[qab];exact @decide_eq_true _ (Classical.propDecidable _) rfl
open IntWalk (i64_in u8_in u32_in u64_in i64_quo u8_quo rem_in)
theorem q48{l:List CV}(h:qf5 l=true):l.length<=100000000:=by unfold qf5 at h;rw[qab] at h;exact of_decide_eq_true h
theorem qoo{l:List CV}(h:l.length<=100000000):qf5 l=true:=by unfold qf5;rw[qab];exact decide_eq_true h
theorem qb5:qbn=[]:=qab _
theorem xbo7(l:List CV)(hp:qf5 l=true):xbgg l=zR [.cl (.slg 3 l)] []:=by
 have hp:=q48 hp;unfold xbgg;simp only[za1];refine qf1 (fun h=> ?_) fun h=> ?_
 ·have h:=zal (qag.1 h);subst h;unfold xbi0;rw[if_pos (Eq.symm (qxc (by simp) (by simp) rfl))]
 ·exact qxc (by omega) (by omega) rfl
theorem xbww(l:List CV)(hp:qf5 l=true):xbwb l=zR [.cl (.agg [.int .i64 48,.sli .u8 qbn,.slg 3 l])] []:=by rw[qb5];exact qan hp rfl
theorem xbt2(l:List CV)(hp:qf5 l=true):xbsr l=zR [.cl (.agg [.int .i64 48,.sli .u8 qbn,.slg 3 l])] []:=by rw[qb5];rfl
theorem q3p{g t:Int}{b:List Int}{k:List CV}(h: ¬t=g):ql7 g t b k=([],4):=by unfold ql7 q0u;rw[qab,if_pos (.inl h)]
theorem xbfa{g t:Int}{b:List Int}{k:List CV}(h:qaw g=false):ql7 g t b k=([],4):=by unfold ql7 q0u;rw[qab,if_pos (.inr h)]
theorem xbh6{g t:Int}{b:List Int}{k:List CV}(h:t=g)(hb:qaw g=true)(hl:b.length≠0):ql7 g t b k=([],5):=by unfold ql7 q0u;rw[qab,if_neg (by rw[hb];rintro(e|e);exact e h;cases e),if_pos hl]
theorem xbh7{g t:Int}{b:List Int}{k:List CV}(h:t=g)(hb:qaw g=true)(hl: ¬b.length≠0):ql7 g t b k=(k,0):=by unfold ql7 q0u;rw[qab,if_neg (by rw[hb];rintro(e|e);exact e h;cases e),if_neg hl]
theorem xbnz{g t:Int}{b:List Int}{k:List CV}{bad:Int->Option Out}{good:Option Out}:
  cond (!decide (t=g)) (bad 4) (cond (!qb9 g) (bad 4) (cond (decide ((0:Int)<(b.length:Int))) (bad 5) good))=if(ql7 g t b k).2=0 then good else bad (ql7 g t b k).2:=by
 unfold qb9;rw[qab];refine qa5 (fun h=> ?_) fun h=> ?_
 ·rw[q3p h];rfl
 ·cases hb:qaw g with
  | false=>rw[xbfa hb];rfl
  | true=>
   refine(qac (fun h'=> ?_) fun h'=> ?_:cond (decide ((0:Int)<(b.length:Int))) (bad 5) good=_)
   ·rw[xbh6 h hb (by omega)];rfl
   ·rw[xbh7 h hb (by omega)];rfl
theorem xbl0{g t:Int}{b:List Int}{k:List CV}(h:(ql7 g t b k).2=0):(ql7 g t b k).1=k:=by
 unfold ql7 q0u at h ⊢;simp only[qab] at h ⊢;split at h
 ·simp at h
 ·split at h
  ·simp at h
  ·rename_i h1 h2;rw[if_neg h1,if_neg h2]
theorem xblz{g t:Int}{b:List Int}{k:List CV}(h: ¬(ql7 g t b k).2=0):(ql7 g t b k).1=[]:=by
 unfold ql7 q0u at h ⊢;simp only[qab] at h ⊢;split
 ·rfl
 ·split
  ·rfl
  ·rename_i h1 h2;rw[if_neg h1,if_neg h2] at h;simp at h
theorem xbt0(t:Int)(b:List Int)(k:List CV)(g:Int)(hp:qf5 k=true):xbnk t b k g=zR [.cl (.slg 3 (ql7 g t b k).1),.cl (.int .i64 (ql7 g t b k).2)] []:=by
 unfold xbnk;refine(xbnz (k:=k) (bad:=fun e=>zR [.cl (.slg 3 []),.cl (.int .i64 e)] [])).trans ?_;by_cases h:(ql7 g t b k).2=0
 ·rw[if_pos h,xbl0 h,h];exact qan hp rfl
 ·rw[if_neg h,xblz h]
theorem qdr{α:Type}{l:List α}{i:Nat}{x:α}(h:l[i]? =some x):l.drop i=x::l.drop (i+1):=by obtain⟨hi,e⟩:=zad.1 h;rw[zbd hi,e]
open IntWalk (i64_in u8_in u32_in u64_in i64_quo u8_quo rem_in)
theorem qpk: ∀(a b c:List Int),qav a b<=0->qav b c<=0->qav a c<=0
 | [],b,c,_,_=>by cases c<;>simp[qav]
 | x::a,[],c,h,_=>by simp[qav] at h
 | x::a,y::b,[],_,h=>by simp[qav] at h
 | x::a,y::b,z::c,h1,h2=>by
  unfold qav at h1 h2 ⊢;by_cases h:x<z
  ·rw[if_pos h];omega
  ·rw[if_neg h];have hxy: ¬y<x:=fun e=>by rw[if_neg (by omega),if_pos e] at h1;omega
   have hyz: ¬z<y:=fun e=>by rw[if_neg (by omega),if_pos e] at h2;omega
   obtain rfl:x=y:=by omega
   obtain rfl:x=z:=by omega
   simp only[Int.lt_irrefl,if_false] at h1 h2 ⊢;exact qpk a b c h1 h2
theorem q1b(a b:List Int):qav b a<0↔ ¬qav a b<=0:=by
 have:=qzk a b;by_cases h:qav a b<=0
 ·rw[decide_eq_true h] at this;refine⟨fun e=> ?_,fun e=>absurd h e⟩;rw[decide_eq_true e] at this;cases this
 ·rw[decide_eq_false h] at this;exact⟨fun _=>h,fun _=>of_decide_eq_true this⟩
theorem cmp_eq: ∀(a b:List Int),qav a b<=0->qav b a<=0->a=b
 | [],[],_,_=>rfl
 | [],y::b,_,h=>by simp[qav] at h
 | x::a,[],h,_=>by simp[qav] at h
 | x::a,y::b,h1,h2=>by
  unfold qav at h1 h2;have hxy: ¬y<x:=fun e=>by rw[if_neg (by omega),if_pos e] at h1;omega
  have hyx: ¬x<y:=fun e=>by rw[if_neg (by omega),if_pos e] at h2;omega
  obtain rfl:x=y:=by omega
  simp only[Int.lt_irrefl,if_false] at h1 h2;rw[cmp_eq a b h1 h2]
open IntWalk (i64_in u8_in u32_in u64_in i64_quo u8_quo rem_in)
open IntWalk (i64_in u8_in u32_in u64_in i64_quo u8_quo rem_in)
theorem xbbv: ∀ {k m:Nat} {y:List CV},isTf k y=true->k<=m->isTf m y=true
 | k,m,y,hy,hkm=>by obtain⟨k',t,b,l,rfl,rfl,hb,hl⟩:=qch hy;obtain⟨m,rfl⟩: ∃q,m=q+1:=⟨m - 1,by omega⟩;refine xbv0 hb fun c hc=> ?_;obtain⟨z,rfl,hz⟩:=hl c hc;exact⟨z,rfl,xbbv hz (by omega)⟩
theorem q1f{a:List CV}(h:isS a=true):qun a=decide ((qa2 a).2=0):=by
 obtain⟨n,hn,_⟩:=qcp h;rw[qp9 hn,qdu hn];split
 ·rename_i h;rw[decide_eq_true h];rfl
 ·rename_i h;rw[decide_eq_false h];rfl
open IntWalk (i64_in u8_in u32_in u64_in i64_quo u8_quo rem_in)
theorem xbjw{g:Int}{b:List Int}(h:(qcm g b).2.2=0):qbm g b=true/\qcm g b=(g,b,0):=by
 cases hd:qbm g b with
 | true=>exact⟨rfl,qq3 hd⟩
 | false=>rw[qvs hd] at h;cases h
theorem q8n{o:List Int}(hr: ∀n∈o,inU n)(h:(qcm 6 (qal o)).2.2=0):qiz (qcm 6 (qal o)).1 (qcm 6 (qal o)).2.1 qlu=(o,0):=by
 obtain⟨h1,h2⟩:=xbjw h;rw[h2];unfold qiz;rw[qab,if_pos (xbh5 rfl (by rw[qjq];rfl) h1)];have e:qal o=qbz o:=qab _;by_cases hf:qbe o=true
 ·unfold qcc;rw[qab,e];exact qr8 hf hr
 ·rw[e] at h1;unfold qbz at h1;rw[if_neg hf] at h1;exact absurd h1 (by decide)
end Go.Proofs.YtoiikagnjcjccaaGreatDoorA
