/-
 What the layers below come to (their lemmas, as far as this seat needs them). Conditions: each function's own.
-/
import Derived.Test.YtoiikagnjcjccaaGreatDoorT2a
import Derived.Test.YtoiikagnjcjccaaGreatDoorT2b
import Derived.Test.YtoiikagnjcjccaaGreatDoorT3a
import Derived.IntWalk
set_option linter.unusedVariables false
set_option linter.unusedSimpArgs false
set_option maxRecDepth 100000
namespace Go.Proofs.YtoiikagnjcjccaaGreatDoorA
open IntWalk (i64_in u8_in u32_in u64_in i64_quo u8_quo rem_in)
theorem q3d(rk d:Nat)(deep ta:Int)(ba:List Int)(hd:1<=deep/\deep<=1000)(hdd:deep.toNat=d+1)(ka:List CV)(hlen:ka.length<=30000)(hall: ∀c∈ka, ∃y,c=.agg y/\isTf rk y=true/\qdv rk y+1<=30000): ∀(f i:Nat) (s:Int) (rows:List CV),i<=ka.length->ka.length<f+i->0<=s->s+sumL (fun c=>(qal rk (cell1 c)).1) (ka.drop i)<=150000->rows.length=i->
  qf3 rk (fun _ _ _ _ _ _ _ _ _ _ _ _ _ _ _ _ _ _ _ _ _ _ _ _ _ _ _ _ _ _ _ _ _ _=>badW) (fun _ _ _ _ _ _ _ _ _ _ _ _ _ _ _ _ _ _ _ _ _ _ _ _ _ _ _ _ _ _ _ _ _ _ _ _=>badW) (fun _ _ y79 _ _ _ _ y84 _ _ y87=>finW y84 y79 y87) f deep rows.length s i ta ba ka rows=if(ka.drop i).all (fun c=>okF rk d (cell1 c)&&(qal rk (cell1 c)).2)=true then finW ta (s+sumL (fun c=>(qal rk (cell1 c)).1) (ka.drop i)) (rows++(ka.drop i).map fun c=>.sli .u8 (qal rk (cell1 c)).1) else badW
 | 0,i,s,rows,hi,hf,_,_,_=>by omega
 | f+1,i,s,rows,hi,hf,h0,hs,hr=>by
  show qgz rk (qf3 rk (fun _ _ _ _ _ _ _ _ _ _ _ _ _ _ _ _ _ _ _ _ _ _ _ _ _ _ _ _ _ _ _ _ _ _=>badW) (fun _ _ _ _ _ _ _ _ _ _ _ _ _ _ _ _ _ _ _ _ _ _ _ _ _ _ _ _ _ _ _ _ _ _ _ _=>badW) (fun _ _ y79 _ _ _ _ y84 _ _ y87=>finW y84 y79 y87) f) (fun _ _ _ _ _ _ _ _ _ _ _ _ _ _ _ _ _ _ _ _ _ _ _ _ _ _ _ _ _ _ _ _ _ _=>badW) (fun _ _ _ _ _ _ _ _ _ _ _ _ _ _ _ _ _ _ _ _ _ _ _ _ _ _ _ _ _ _ _ _ _ _ _ _=>badW) (fun _ _ y79 _ _ _ _ y84 _ _ y87=>finW y84 y79 y87) deep rows.length s i ta ba ka rows=_;unfold qgz;obtain⟨R,hR⟩: ∃R:Option Out,R=if(ka.drop i).all (fun c=>okF rk d (cell1 c)&&(qal rk (cell1 c)).2)=true then finW ta (s+sumL (fun c=>(qal rk (cell1 c)).1) (ka.drop i)) (rows++(ka.drop i).map fun c=>.sli .u8 (qal rk (cell1 c)).1) else badW:=⟨_,rfl⟩
  rw[<- hR];refine qac (fun h=> ?_) fun h=> ?_
  ·obtain⟨c,hc⟩:=qaw (b:=ka) (i:=i) (by omega);obtain⟨y,rfl,hy,hyb⟩:=hall c (zac hc);have ed:ka.drop i=.agg y::ka.drop (i+1):=by obtain⟨hlt,e⟩:=zae.1 hc;rw[zbb hlt,e]
   refine qas (by omega) (qas h ?_);rw[show(i:Int).toNat=i from rfl,hc,zaf];obtain⟨m,t,b,l,hm,hye,_⟩:=qcu hy;simp only[cell1,hye,zcr,zcn];refine qam rfl ?_;simp only[show IntKind.i64.wrap (deep - 1)=deep - 1 from i64_in _ (by omega),qgj,qa8,qc3];refine qam ?_ ?_
   ·simp only[zab];exact⟨q1x (hye▸hy) (hye▸(by omega)),qob (by omega)⟩
   ·have e:qe4 [.int .i64 t,.sli .u8 b,.slg 3 l] (deep - 1)=if okF rk d y=true/\(qal rk y).2=true then((qal rk y).1,true) else([],false):=by rw[<- hye,qm5 hy,show(deep - 1).toNat=d by omega]
    have es:sumL (fun c=>(qal rk (cell1 c)).1) (ka.drop i)=((qal rk y).1.length:Int)+sumL (fun c=>(qal rk (cell1 c)).1) (ka.drop (i+1)):=by rw[ed];rfl
    have hpos:=(qvg (fun c=>(qal rk (cell1 c)).1) ka (i+1)).1;rw[es] at hs hR;have em:((ka.drop i).map fun c=>CV.sli .u8 (qal rk (cell1 c)).1)=.sli .u8 (qal rk y).1::(ka.drop (i+1)).map fun c=>.sli .u8 (qal rk (cell1 c)).1:=by rw[ed];rfl
    have ea:(ka.drop i).all (fun c=>okF rk d (cell1 c)&&(qal rk (cell1 c)).2)=((okF rk d y&&(qal rk y).2)&&(ka.drop (i+1)).all (fun c=>okF rk d (cell1 c)&&(qal rk (cell1 c)).2)):=by rw[ed,zc3];rfl
    rw[ea,em] at hR;by_cases hok:okF rk d y=true/\(qal rk y).2=true
    ·rw[if_pos hok] at e;rw[hok.1,hok.2,Bool.and_self,zce] at hR;simp only[e];refine q66 rfl ?_;rw[show IntKind.i64.wrap (s+((qal rk y).1.length:Int))=s+((qal rk y).1.length:Int) from i64_in _ (by omega)];refine qdt (by omega) ?_;refine qek (by simp only[zah,zbr];omega) (qek (by simp only[zah,zbr];omega) ?_);rw[show IntKind.i64.wrap ((i:Int)+1)=((i+1:Nat):Int) from(i64_in _ (by omega)).trans (by omega)];refine(q3d rk d deep ta ba hd hdd ka hlen hall f (i+1) _ _ (by omega) (by omega) (by omega) (by omega) (by simp only[zah,zbr];omega)).trans ?_;rw[hR,Int.add_assoc,za7];rfl
    ·rw[if_neg hok] at e;simp only[e];refine qam rfl ?_;rw[hR,if_neg (by intro h;simp only[zab] at h;exact hok h.1)]
  ·rw[za0 (by omega)] at hR;rw[hR];show finW ta s rows=if([]:List CV).all (fun c=>okF rk d (cell1 c)&&(qal rk (cell1 c)).2)=true then finW ta (s+0) (rows++[]) else _
   rw[if_pos (by rfl),Int.add_zero,za6]
theorem xbah(n:Nat)(l:List CV):(l.map fun c=>CV.sli .u8 (qal n (cell1 c)).1)=(l.map fun c=>(qal n (cell1 c)).1).map (CV.sli .u8):=by rw[zcg];rfl
theorem xbo8(rk:Nat)(ta:Int)(ba:List Int)(ka:List CV)(deep:Int)(hp:(isSr (rk+1) [.int .i64 ta,.sli .u8 ba,.slg 3 ka]&&qjr deep)=true):q8e rk ta ba ka deep=zR [.cl (.sli .u8 (qe4 [.int .i64 ta,.sli .u8 ba,.slg 3 ka] deep).1),.cl (.bool (qe4 [.int .i64 ta,.sli .u8 ba,.slg 3 ka] deep).2)] []:=by
 simp only[zab] at hp;obtain⟨ht,hb⟩:=qi3 hp.1;have hd:=qrl hp.2;obtain⟨h1,h2,h3,h4,h5⟩:=qqv ht hb;rw[qm5 ht];have bad: ∀P:Prop,[Decidable P]-> ¬P->∀q:List Int×Bool,badW=zR [.cl (.sli .u8 (if P then q else([],false):List Int×Bool).1),.cl (.bool (if P then q else([],false):List Int×Bool).2)] []:=fun P _ h q=>by rw[if_neg h];rfl
 unfold q8e qfk qcy qfy;simp only[qab];refine qac (fun h=> ?_) fun h=> ?_
 ·subst h;exact bad _ (fun e=>absurd e.1 zb6) _
 obtain⟨d,hdd⟩: ∃d,deep.toNat=d+1:=⟨deep.toNat - 1,by omega⟩;rw[hdd];refine qfv (fun hk=> ?_) fun hk=> ?_
 ·exact bad _ (fun e=>by obtain⟨_,_,h,_⟩:=qkf e.1;simp[h] at hk) _
 have hk:qbw ta=true:=by simpa using hk
 have hflen:=flat5 (n:=rk) (l:=ka) (B:=30000) (fun c hc=>by obtain⟨y,e,hy,_⟩:=h4 c hc;exact⟨y,e,hy⟩) (by omega);refine qfv (fun hx=> ?_) fun hx=> ?_
 ·have hx:qa0 ta=false:=by simpa using hx
  refine qac (fun hka=> ?_) fun hka=> ?_
  ·exact bad _ (fun e=>by
    obtain⟨_,_,_,h|h⟩:=qkf e.1
    ·simp[hx] at h
    ·rw[h.2.1] at hka;simp at hka) _
  ·obtain rfl:ka=[]:=zal (by omega);refine qdt (by omega) (qam (qc2 (by omega) h3) ?_);refine qfv (fun hf=> ?_) fun hf=> ?_
   ·exact bad _ (fun e=>by
     obtain⟨_,_,_,h|h⟩:=qkf e.1
     ·simp[hx] at h
     ·simp[h.2.2] at hf) _
   ·have hf:qbq ta ba=true:=by simpa using hf
    have hok:okF (rk+1) (d+1) [.int .i64 ta,.sli .u8 ba,.slg 3 []]=true:=by show(qbw ta&&(if qa0 ta=true then _ else decide (([]:List CV)=[])&&qbq ta ba))=true;rw[if_neg (by simp[hx]),hk,hf];rfl
    rw[qpb hx,if_pos ⟨hok,rfl⟩];have hr:=qj7 ta (ba.length:Nat);have hr2:=qdz (ba.length:Nat);unfold qcv;simp only[qab];have:=qi4 hk;refine qam (by unfold qjs;rw[qab];exact decide_eq_true (by omega)) (qek (by simp only[zah];omega) (qek (by simp only[zah];omega) rfl))
 ·have hx:qa0 ta=true:=by simpa using hx
  refine qac (fun hba=> ?_) fun hba=> ?_
  ·exact bad _ (fun e=>by
    obtain⟨_,_,_,h|h⟩:=qkf e.1
    ·rw[h.2.1] at hba;simp at hba
    ·simp[hx] at h) _
  ·obtain rfl:ba=[]:=zal (by omega);refine(q3d rk d deep ta [] (by omega) hdd ka (by omega) h4 FUEL 0 0 [] (by omega) (by unfold FUEL;omega) (by omega) (by rw[zbv,qdr];omega) rfl).trans ?_;rw[zbv,qdr,Int.zero_add,zaz,xbah];by_cases ha:(ka.all fun c=>okF rk d (cell1 c)&&(qal rk (cell1 c)).2)=true
   ·rw[if_pos ha];simp only[zaj,zab] at ha;have hok:okF (rk+1) (d+1) [.int .i64 ta,.sli .u8 [],.slg 3 ka]=true:=by show(qbw ta&&(if qa0 ta=true then decide (([]:List Int)=[])&&ka.all fun c=>okF rk d (cell1 c) else _))=true;rw[if_pos hx,hk];simp only[zce,decide_true,zaj];exact fun c hc=>(ha c hc).1
    rw[xbvc (qi4 hk) (by rw[zam];omega) (xbqe h4 fun c hc=>(ha c hc).1) (by omega),qn9 hx];have h2':(ka.all fun c=>(qal rk (cell1 c)).2)=true:=by simp only[zaj];exact fun c hc=>(ha c hc).2
    rw[h2',zce];by_cases hs:(!(decide (ta=49))|| qbo (ka.map fun c=>(qal rk (cell1 c)).1))=true
    ·rw[if_pos hs,if_pos ⟨hok,hs⟩]
    ·rw[if_neg hs];exact bad _ (fun e=>hs e.2) _
   ·rw[if_neg ha];refine bad _ (fun e=>ha ?_) _;obtain⟨d',e1,_,h|h⟩:=qkf e.1
    ·obtain rfl:d=d':=by omega
     have e2:=e.2;rw[qn9 hx] at e2;simp only[zab,zaj] at e2 ⊢;exact fun c hc=>⟨h.2.2 c hc,e2.1 c hc⟩
    ·simp[hx] at h
open IntWalk (i64_in u8_in u32_in u64_in i64_quo u8_quo rem_in)
theorem q1a(rk d:Nat)(ta:Int)(ba:List Int)(ka kb:List CV)(hlen:ka.length<=30000)(hall: ∀c∈ka, ∃y,c=.agg y/\isTf rk y=true/\qdv rk y+1<=30000)(hok: ∀c∈ka,okF rk d (cell1 c)=true): ∀(f i:Nat) (s:Int),i<=ka.length->ka.length<f+i->0<=s->s+sumL (fun c=>(qal rk (cell1 c)).1) (ka.drop i)<=150000->
  qhx rk (fun _ _ _ _ _ _ _ _ _ _ _ _ _ _ _ _ _ _ _ _ _ _ _ _ _ _ _ _ _ _ _=>badW) (fun _ y37 _ _ _ y41 _ _ y44=>finW y41 y37 y44) f ka.length s ka (ka.length:Int) i ta ba kb (((ka.take i).map fun c=>CV.sli .u8 (qal rk (cell1 c)).1)++List.replicate (ka.length - i) (.sli .u8 []))=if(ka.drop i).all (fun c=>(qal rk (cell1 c)).2)=true then finW ta (s+sumL (fun c=>(qal rk (cell1 c)).1) (ka.drop i)) (ka.map fun c=>.sli .u8 (qal rk (cell1 c)).1) else badW
 | 0,i,s,hi,hf,_,_=>by omega
 | f+1,i,s,hi,hf,h0,hs=>by
  show qi7 rk (qhx rk (fun _ _ _ _ _ _ _ _ _ _ _ _ _ _ _ _ _ _ _ _ _ _ _ _ _ _ _ _ _ _ _=>badW) (fun _ y37 _ _ _ y41 _ _ y44=>finW y41 y37 y44) f) (fun _ _ _ _ _ _ _ _ _ _ _ _ _ _ _ _ _ _ _ _ _ _ _ _ _ _ _ _ _ _ _=>badW) (fun _ y37 _ _ _ y41 _ _ y44=>finW y41 y37 y44) ka.length s ka (ka.length:Int) i ta ba kb (((ka.take i).map fun c=>CV.sli .u8 (qal rk (cell1 c)).1)++List.replicate (ka.length - i) (.sli .u8 []))=_;unfold qi7;obtain⟨R,hR⟩: ∃R:Option Out,R=if(ka.drop i).all (fun c=>(qal rk (cell1 c)).2)=true then finW ta (s+sumL (fun c=>(qal rk (cell1 c)).1) (ka.drop i)) (ka.map fun c=>.sli .u8 (qal rk (cell1 c)).1) else badW:=⟨_,rfl⟩
  rw[<- hR];obtain⟨W,hW⟩: ∃W:List CV,W=((ka.take i).map fun c=>CV.sli .u8 (qal rk (cell1 c)).1)++List.replicate (ka.length - i) (.sli .u8 []):=⟨_,rfl⟩;rw[<- hW];refine qac (fun h=> ?_) fun h=> ?_
  ·obtain⟨c,hc⟩:=qaw (b:=ka) (i:=i) (by omega);obtain⟨y,rfl,hy,hyb⟩:=hall c (zac hc);have hoky:okF rk d y=true:=hok _ (zac hc);have ed:ka.drop i=.agg y::ka.drop (i+1):=by obtain⟨hlt,e⟩:=zae.1 hc;rw[zbb hlt,e]
   refine qas (by omega) (qas h ?_);rw[show(i:Int).toNat=i from rfl,hc,zaf];obtain⟨m,t,b,l,hm,hye,_⟩:=qcu hy;have hset:W.set (0+i) (.sli .u8 (qal rk y).1)=((ka.take (i+1)).map fun c=>CV.sli .u8 (qal rk (cell1 c)).1)++List.replicate (ka.length - (i+1)) (.sli .u8 []):=by
    rw[hW,za1,List.set_append_right _ _ (by simp;omega)];have e1:i - ((ka.take i).map fun c=>CV.sli .u8 (qal rk (cell1 c)).1).length=0:=by simp;omega
    rw[e1,show ka.length - i=(ka.length - (i+1))+1 by omega,List.replicate_succ,List.set_cons_zero];have e2:ka.take (i+1)=ka.take i++[.agg y]:=by rw[List.take_add_one,hc];rfl
    rw[e2,List.map_append,za7];rfl
   simp only[cell1,hye,zcr,zcn];refine qam rfl ?_;simp only[qgj,qa8,qc3];refine qam ?_ ?_
   ·exact xbha ⟨hye▸hy,hye▸(by omega),d,hye▸hoky⟩
   ·have e:qim [.int .i64 t,.sli .u8 b,.slg 3 l]=if(qal rk y).2=true then((qal rk y).1,true) else([],false):=by rw[<- hye,qp7 hy]
    have es:sumL (fun c=>(qal rk (cell1 c)).1) (ka.drop i)=((qal rk y).1.length:Int)+sumL (fun c=>(qal rk (cell1 c)).1) (ka.drop (i+1)):=by rw[ed];rfl
    have hpos:=(qvg (fun c=>(qal rk (cell1 c)).1) ka (i+1)).1;rw[es] at hs hR;have ea:(ka.drop i).all (fun c=>(qal rk (cell1 c)).2)=((qal rk y).2&&(ka.drop (i+1)).all (fun c=>(qal rk (cell1 c)).2)):=by rw[ed,zc3];rfl
    rw[ea] at hR;by_cases hk:(qal rk y).2=true
    ·rw[if_pos hk] at e;rw[hk,zce] at hR;simp only[e];refine q66 rfl ?_;rw[show IntKind.i64.wrap (s+((qal rk y).1.length:Int))=s+((qal rk y).1.length:Int) from i64_in _ (by omega)];refine qas (by omega) (qas h ?_);rw[hset,show IntKind.i64.wrap ((i:Int)+1)=((i+1:Nat):Int) from(i64_in _ (by omega)).trans (by omega)];refine(q1a rk d ta ba ka kb hlen hall hok f (i+1) _ (by omega) (by omega) (by omega) (by omega)).trans ?_;rw[hR,Int.add_assoc]
    ·rw[if_neg hk] at e;simp only[e];refine qam rfl ?_;rw[hR,if_neg (by intro h;simp only[zab] at h;exact hk h.1)]
  ·obtain rfl:i=ka.length:=by omega
   rw[za0 (zas _)] at hR;rw[hR,hW,zb5,Nat.sub_self];show finW ta s ((ka.map fun c=>CV.sli .u8 (qal rk (cell1 c)).1)++[])=if([]:List CV).all (fun c=>(qal rk (cell1 c)).2)=true then finW ta (s+0) _ else _
   rw[if_pos (by rfl),Int.add_zero,za6]
theorem xbov(rk:Nat)(ta:Int)(ba:List Int)(ka:List CV)(hp:isWr (rk+1) [.int .i64 ta,.sli .u8 ba,.slg 3 ka]=true):q7v rk ta ba ka=zR [.cl (.sli .u8 (qim [.int .i64 ta,.sli .u8 ba,.slg 3 ka]).1),.cl (.bool (qim [.int .i64 ta,.sli .u8 ba,.slg 3 ka]).2)] []:=by
 obtain⟨ht,hb,d,hok⟩:=qt2 hp;obtain⟨h1,h2,h3,h4,h5⟩:=qqv ht hb;obtain⟨d',rfl,hk,h⟩:=qkf hok;rw[qp7 ht];unfold q7v qcy;simp only[qab];rcases h with⟨hx,rfl,hall⟩|⟨hx,rfl,hf⟩
 ·have hflen:=flat5 (n:=rk) (l:=ka) (B:=30000) (fun c hc=>by obtain⟨y,e,hy,_⟩:=h4 c hc;exact⟨y,e,hy⟩) (by simp only[zbq] at h5;omega);refine q66 (by simp[hx]) (qas (by omega) (qas (by omega) (qas (by unfold LIM;omega) (qas (by unfold LIM;omega) ?_))));refine(q1a rk d' ta [] ka ka (by omega) h4 hall FUEL 0 0 (by omega) (by unfold FUEL;omega) (by omega) (by rw[zbv,qdr];omega)).trans ?_;rw[zbv,qdr,Int.zero_add,xbah,qn9 hx];by_cases ha:(ka.all fun c=>(qal rk (cell1 c)).2)=true
  ·rw[if_pos ha,xbvc (qi4 hk) (by rw[zam];omega) (xbqe h4 hall) (by omega),ha,zce];by_cases hs:(!(decide (ta=49))|| qbo (ka.map fun c=>(qal rk (cell1 c)).1))=true
   ·rw[if_pos hs,if_pos hs]
   ·rw[if_neg hs,if_neg hs];rfl
  ·rw[if_neg ha];have hf:(ka.all fun c=>(qal rk (cell1 c)).2)=false:=by simpa using ha
   rw[hf,Bool.false_and];rfl
 ·have hr:=qj7 ta (ba.length:Nat);have hr2:=qdz (ba.length:Nat);have:=qi4 hk;unfold qcv;simp only[qab];rw[qpb hx];refine qam (by simp[hx]) (qam (by unfold qjs;rw[qab];exact decide_eq_true (by omega)) (qek (by simp only[zah];omega) (qek (by simp only[zah];omega) rfl)))
theorem xbo6(ta:Int)(ba:List Int)(ka:List CV)(hp:isS [.int .i64 ta,.sli .u8 ba,.slg 3 ka]=true):q77 ta ba ka=zR [.cl (.sli .u8 (qa7 [.int .i64 ta,.sli .u8 ba,.slg 3 ka]).1),.cl (.int .i64 (qa7 [.int .i64 ta,.sli .u8 ba,.slg 3 ka]).2)] []:=by
 obtain⟨n,ht,hb⟩:=qcz hp;have hl:=qgm ht;unfold q77;refine qam (by rw[hp,qob (by omega)];rfl) ?_;simp only[qm5 ht,qf8 ht,show(32:Int).toNat=32 from rfl];by_cases h:okF n 32 [.int .i64 ta,.sli .u8 ba,.slg 3 ka]=true/\(qal n [.int .i64 ta,.sli .u8 ba,.slg 3 ka]).2=true
 ·simp only[if_pos h];exact q66 rfl (qdt (by omega) rfl)
 ·simp only[if_neg h];exact qam rfl rfl
theorem xbor(ta:Int)(ba:List Int)(ka:List CV)(hp:isS [.int .i64 ta,.sli .u8 ba,.slg 3 ka]=true):q7s ta ba ka=zR [.cl (.sli .u8 (qa7 [.int .i64 ta,.sli .u8 ba,.slg 3 ka]).1),.cl (.int .i64 (qa7 [.int .i64 ta,.sli .u8 ba,.slg 3 ka]).2)] []:=by
 obtain⟨n,ht,hb⟩:=qcz hp;have hl:=qgm ht;unfold q7s;refine qam (by rw[hp,qob (by omega)];rfl) ?_;rw[qui ht,show(32:Int).toNat=32 from rfl];by_cases hok:okF n 32 [.int .i64 ta,.sli .u8 ba,.slg 3 ka]=true
 ·simp only[if_pos hok];refine qdt (by omega) (qdt (by omega) (qam (xbs5 ⟨ht,hb,32,hok⟩) ?_));simp only[qp7 ht,qf8 ht];by_cases h:(qal n [.int .i64 ta,.sli .u8 ba,.slg 3 ka]).2=true
  ·simp only[if_pos h,if_pos (show okF n 32 [.int .i64 ta,.sli .u8 ba,.slg 3 ka]=true/\(qal n [.int .i64 ta,.sli .u8 ba,.slg 3 ka]).2=true from⟨hok,h⟩)];exact q66 rfl rfl
  ·simp only[if_neg h,if_neg (show ¬(okF n 32 [.int .i64 ta,.sli .u8 ba,.slg 3 ka]=true/\(qal n [.int .i64 ta,.sli .u8 ba,.slg 3 ka]).2=true) from fun e=>h e.2)];exact qam rfl rfl
 ·simp only[if_neg hok,qf8 ht,if_neg (show ¬(okF n 32 [.int .i64 ta,.sli .u8 ba,.slg 3 ka]=true/\(qal n [.int .i64 ta,.sli .u8 ba,.slg 3 ka]).2=true) from fun e=>hok e.1)];exact qas (by omega) rfl
theorem q1e{n:Nat}{a:List CV}(ht:isTf n a=true):decide ((qa7 a).2=0)=qra a:=by
 rw[qf8 ht,qz3 ht];by_cases h:okF n 32 a=true/\(qal n a).2=true
 ·rw[if_pos h,decide_eq_true h];rfl
 ·rw[if_neg h,decide_eq_false h];rfl
theorem xbtj(ta:Int)(ba:List Int)(ka:List CV)(hp:isS [.int .i64 ta,.sli .u8 ba,.slg 3 ka]=true):xbjw ta ba ka=zB (qra [.int .i64 ta,.sli .u8 ba,.slg 3 ka]):=by obtain⟨n,ht,hb⟩:=qcz hp;unfold xbjw;exact qam hp (qaq (q1e ht))
theorem xbs9(ta:Int)(ba:List Int)(ka:List CV)(hp:isS [.int .i64 ta,.sli .u8 ba,.slg 3 ka]=true):xbjs ta ba ka=zB (qra [.int .i64 ta,.sli .u8 ba,.slg 3 ka]):=by obtain⟨n,ht,hb⟩:=qcz hp;unfold xbjs;exact qam hp (qaq (q1e ht))
open IntWalk (i64_in u8_in u32_in u64_in i64_quo u8_quo rem_in)
theorem q8t{n:Nat}{c:CV}(h:isNk n c=true): ∃y,c=.agg y/\isNf n y=true:=by
 unfold isNk at h;split at h
 ·exact⟨_,rfl,h⟩
 ·exact absurd h zb6
theorem q8v{n:Nat}{l:List CV}(h:xbg8 n l=true):l.length<=100000000/\∀c∈l, ∃y,c=.agg y/\isNf n y=true:=by unfold xbg8 at h;rw[qab] at h;simp only[zab,decide_eq_true_eq,zaj] at h;exact⟨h.1,fun c hc=>q8t (h.2 c hc)⟩
theorem q8u{n:Nat}{l:List CV}(h1:l.length<=100000000)(h2: ∀c∈l, ∃y,c=.agg y/\isNf n y=true):xbg8 n l=true:=by unfold xbg8;rw[qab];simp only[zab,decide_eq_true_eq,zaj];refine⟨h1,fun c hc=> ?_⟩;obtain⟨y,rfl,hy⟩:=h2 c hc;exact hy
theorem q1v{l:List CV}(h:isNs l=true):l.length<=100000000/\∃n, ∀c∈l, ∃y,c=.agg y/\isNf n y=true:=by unfold isNs at h;rw[qab] at h;obtain⟨h1,n,h2⟩:=@of_decide_eq_true _ (Classical.propDecidable _) h;simp only[zaj] at h2;exact⟨h1,n,fun c hc=>q8t (h2 c hc)⟩
theorem xbg7{n:Nat}{l:List CV}(h1:l.length<=100000000)(h2: ∀c∈l, ∃y,c=.agg y/\isNf n y=true):isNs l=true:=by unfold isNs;rw[qab];refine @decide_eq_true _ (Classical.propDecidable _) ⟨h1,n, ?_⟩;simp only[zaj];intro c hc;obtain⟨y,rfl,hy⟩:=h2 c hc;exact hy
theorem qg3{a b:List CV}:qp8 a b=true↔a=b:=by unfold qp8;rw[qab];exact @decide_eq_true_iff _ (Classical.propDecidable _)
theorem qnv{a b:List CV}:qp8 a b=false↔ ¬a=b:=by rw[<- Bool.not_eq_true,qg3]
theorem xbm6(rk:Nat)(R:Bool->Option Out)(ka kb:List CV)(hl:ka.length=kb.length)(hka:ka.length<=100000000)(h1: ∀c∈ka, ∃y,c=.agg y/\isNf rk y=true)(n:Nat)(h2: ∀c∈kb, ∃y,c=.agg y/\isNf n y=true): ∀(f i:Nat),i<=ka.length->ka.length<f+i->
  qwn rk (fun _ _ _ _ _ _ _ _ _ _ _ _ _ _ _ _ _ _ _ _ _ _ _ _ _ _ _ _ _ _ _=>R false) (fun _ _ _ _=>R true) f kb ka (ka.length:Int) i=R (@decide (ka.drop i=kb.drop i) (Classical.propDecidable _))
 | 0,i,hi,hf=>by omega
 | f+1,i,hi,hf=>by
  show qt9 rk (qwn rk (fun _ _ _ _ _ _ _ _ _ _ _ _ _ _ _ _ _ _ _ _ _ _ _ _ _ _ _ _ _ _ _=>R false) (fun _ _ _ _=>R true) f) (fun _ _ _ _ _ _ _ _ _ _ _ _ _ _ _ _ _ _ _ _ _ _ _ _ _ _ _ _ _ _ _=>R false) (fun _ _ _ _=>R true) kb ka (ka.length:Int) i=_;unfold qt9;refine qac (fun h=> ?_) fun h=> ?_
  ·obtain⟨x,hx⟩:=qaw (b:=ka) (i:=i) (by omega);obtain⟨y,hy⟩:=qaw (b:=kb) (i:=i) (by omega);obtain⟨x',rfl,hx'⟩:=h1 x (zac hx);obtain⟨y',rfl,hy'⟩:=h2 y (zac hy);refine qas (by omega) (qas h ?_);rw[show(i:Int).toNat=i from rfl,hx,zaf];obtain⟨m,t,b,l,hm,hxe,_⟩:=qn5 hx';obtain⟨m',t',b',l',hm',hye,_⟩:=qn5 hy';simp only[cell1,hxe,hye,zcr,zcn];refine qam rfl (qas (by omega) (qas (by omega) ?_));rw[hy,zaf];simp only[cell1,hxe,hye,zcr,zcn];refine qam rfl (qam ?_ ?_)
   ·simp only[zab];exact⟨q1u (hxe▸hx'),xbj1 (n:=n) (hye▸hy')⟩
   have ed:(ka.drop i=kb.drop i)=(x'=y'/\ka.drop (i+1)=kb.drop (i+1)):=by
    have ex:ka.drop i=.agg x'::ka.drop (i+1):=by obtain⟨hlt,e⟩:=zae.1 hx;rw[zbb hlt,e]
    have ey:kb.drop i=.agg y'::kb.drop (i+1):=by obtain⟨hlt,e⟩:=zae.1 hy;rw[zbb hlt,e]
    rw[ex,ey,zbk,CV.agg.injEq]
   refine qfv (fun h5=> ?_) fun h5=> ?_
   ·have h5: ¬x'=y':=by rw[hxe,hye];exact qe2.1 (by simpa [qgj,qa8,qc3] using h5)
    show R false=_;congr 1;symm;rw[@decide_eq_false_iff_not _ (Classical.propDecidable _),ed];exact fun e=>h5 e.1
   ·have h5:x'=y':=by rw[hxe,hye];exact qf9.1 (by simpa [qgj,qa8,qc3] using h5)
    rw[show IntKind.i64.wrap ((i:Int)+1)=((i+1:Nat):Int) from(i64_in _ (by omega)).trans (by omega)];refine(xbm6 rk R ka kb hl hka h1 n h2 f (i+1) (by omega) (by omega)).trans ?_;congr 1;rw[za9,@decide_eq_true_iff _ (Classical.propDecidable _),@decide_eq_true_iff _ (Classical.propDecidable _),ed];exact⟨fun e=>⟨h5,e⟩,fun e=>e.2⟩
  ·show R true=_;congr 1;symm;rw[@decide_eq_true_iff _ (Classical.propDecidable _),za0 (by omega),za0 (by omega)]
theorem nEqF(rk:Nat)(a b:List CV)(hp:(xbg8 rk a&&isNs b)=true):gEqF rk a b=zB (qp8 a b):=by
 simp only[zab] at hp;obtain⟨h1,h2⟩:=q8v hp.1;obtain⟨h3,n,h4⟩:=q1v hp.2;unfold gEqF;simp only[qab];refine qbb (fun h=>qaq ?_) fun h=> ?_
 ·symm;rw[qnv];exact fun e=>h (by rw[e])
 ·refine(xbm6 rk (fun b=>zB b) a b (by omega) h1 h2 n h4 FUEL 0 (by omega) (by unfold FUEL;omega)).trans (qaq ?_);rw[za9,@decide_eq_true_iff _ (Classical.propDecidable _),qg3];simp only[zbv]
theorem xbtb(rk:Nat)(ta:Int)(ba:List Int)(ka:List CV)(tb:Int)(bb:List Int)(kb:List CV)(hp:(isNr (rk+1) [.int .i64 ta,.sli .u8 ba,.slg 3 ka]&&isN [.int .i64 tb,.sli .u8 bb,.slg 3 kb])=true):xbjt rk ta ba ka tb bb kb=zB (qil [.int .i64 ta,.sli .u8 ba,.slg 3 ka] [.int .i64 tb,.sli .u8 bb,.slg 3 kb]):=by
 simp only[zab] at hp;obtain⟨m,t,b,l,hm,he,hb,hl,hc⟩:=qn5 (qi2 hp.1);obtain⟨n,hn⟩:=qml hp.2;obtain⟨m',t',b',l',hm',he',hb',hl',hc'⟩:=qn5 hn;simp only[zbk,CV.int.injEq,CV.sli.injEq,CV.slg.injEq,true_and,and_true] at he he';obtain⟨rfl,rfl,rfl⟩:=he;obtain⟨rfl,rfl,rfl⟩:=he';obtain rfl:m=rk:=by omega
 have bad: ¬(ta=tb/\ba=bb/\ka=kb)->false=qil [.int .i64 ta,.sli .u8 ba,.slg 3 ka] [.int .i64 tb,.sli .u8 bb,.slg 3 kb]:=fun h=>by symm;rw[qe2];simp only[zbk,CV.int.injEq,CV.sli.injEq,CV.slg.injEq,true_and,and_true];exact h
 unfold xbjt qa2 qky;simp only[qab];refine qac (fun h=>qam (qpr hb) (qac (fun h1=>qam ?_ (qaq ?_)) fun h1=>qaq (bad fun e=>h1 e.2.1))) fun h=>qaq (bad fun e=>h e.1)
 ·rw[q8u hl hc,xbg7 hl' hc'];rfl
 ·rw[za9,qg3,qf9];simp only[zbk,CV.int.injEq,CV.sli.injEq,CV.slg.injEq,true_and,and_true];exact⟨fun e=>⟨h,h1,e⟩,fun e=>e.2.2⟩
theorem xbg6{a:List CV}(h:isS a=true):isN a=true:=by obtain⟨n,hn,hb⟩:=qcz h;exact xbj1 (qz5 hn hb)
theorem xbv5{n:Nat}{t:Int}{b:List Int}{l:List CV}(h1: ∀z∈b,0<=z/\z<=255)(h3: ∀c∈l, ∃y,c=.agg y/\isTf n y=true):isTf (n+1) [.int .i64 t,.sli .u8 b,.slg 3 l]=true:=by show(b.all xbfr&&l.all fun c=>match c with|.agg x=>isTf n x|_=>false)=true;simp only[zab,zaj];refine⟨fun z hz=>decide_eq_true (h1 z hz),fun c hc=> ?_⟩;obtain⟨y,rfl,hy⟩:=h3 c hc;exact hy
open IntWalk (i64_in u8_in u32_in u64_in i64_quo u8_quo rem_in)
theorem q3z{i:Nat}(h:i<=1000000000000):IntKind.i64.wrap ((i:Int)+1)=((i+1:Nat):Int):=(i64_in _ (by omega)).trans (by omega)
open IntWalk (i64_in u8_in u32_in u64_in i64_quo u8_quo rem_in)
theorem qqw{n:Int}(h:u32Ok n=true):0<=n/\n<=4294967295:=by unfold u32Ok at h;rw[qab] at h;exact of_decide_eq_true h
theorem qvj{n:Int}(h:0<=n/\n<=4294967295):u32Ok n=true:=by unfold u32Ok;rw[qab];exact decide_eq_true h
theorem qsl{o:List Int}(h:qre o=true):o.length<=100000000000000/\∀x∈o,0<=x/\x<=4294967295:=by unfold qre at h;rw[qab] at h;simp only[zab,decide_eq_true_eq,zaj] at h;exact⟨h.1,fun x hx=>of_decide_eq_true (h.2 x hx)⟩
theorem c_z{x:Int}{a b:Option Out}(h:x=0):cond (!decide (x=0)) a b=b:=by rw[decide_eq_true h];rfl
theorem c_nz{x:Int}{a b:Option Out}(h:x≠0):cond (!decide (x=0)) a b=a:=by rw[decide_eq_false h];rfl
theorem or128: ∀n:Fin 256,IntKind.u8.wrap ((BitVec.ofInt 8 (n.val:Int)||| BitVec.ofInt 8 128).toNat)=128+(n.val:Int) % 128:=by decide+kernel
theorem xbp7(x:Int):IntKind.u8.wrap ((BitVec.ofInt 8 (IntKind.u8.wrap x)||| BitVec.ofInt 8 128).toNat)=128+x % 128:=by rw[xbme x];have:=or128 ⟨(x % 256).toNat,by omega⟩;simp only[zc4 (show 0<=x % 256 by omega)] at this;rw[this];omega
theorem xbp8(x:Int):IntKind.u8.wrap ((BitVec.ofInt 8 (IntKind.u8.wrap x)&&& ~~~ BitVec.ofInt 8 128).toNat)=x % 128:=by rw[xbme x];have:=(and7 ⟨(x % 256).toNat,by omega⟩).1;simp only[zc4 (show 0<=x % 256 by omega)] at this;rw[this];omega
theorem fd28(n:Int):Int.fdiv n (2 ^ 28)=n/ 268435456:=zb1 _ (by decide)
theorem fd21(n:Int):Int.fdiv n (2 ^ 21)=n/ 2097152:=zb1 _ (by decide)
theorem fd14(n:Int):Int.fdiv n (2 ^ 14)=n/ 16384:=zb1 _ (by decide)
theorem fd7(n:Int):Int.fdiv n (2 ^ 7)=n/ 128:=zb1 _ (by decide)
theorem q7x(f:Nat):gHi f 0=[]:=by cases f<;>rfl
theorem q1l(f:Nat){n:Int}(h:n≠0):gHi (f+1) n=gHi f (n/ 128)++[128+n % 128]:=by
 conv=>lhs;unfold gHi
 rw[if_neg h]
theorem gr1{n:Int}(h:n/ 128=0):qap n=[n % 128]:=by unfold qap;rw[h,q7x];rfl
theorem gr2{n:Int}(h:n/ 128≠0)(h':n/ 16384=0):qap n=[128+n/ 128 % 128,n % 128]:=by unfold qap;rw[q1l 4 h,show n/ 128/ 128=0 by omega,q7x];rfl
theorem gr3{n:Int}(h:n/ 16384≠0)(h':n/ 2097152=0):qap n=[128+n/ 16384 % 128,128+n/ 128 % 128,n % 128]:=by unfold qap;rw[q1l 4 (by omega),q1l 3 (by omega),show n/ 128/ 128/ 128=0 by omega,q7x,show n/ 128/ 128=n/ 16384 by omega];rfl
theorem gr4{n:Int}(h:n/ 2097152≠0)(h':n/ 268435456=0):qap n=[128+n/ 2097152 % 128,128+n/ 16384 % 128,128+n/ 128 % 128,n % 128]:=by unfold qap;rw[q1l 4 (by omega),q1l 3 (by omega),q1l 2 (by omega),show n/ 128/ 128/ 128/ 128=0 by omega,q7x,show n/ 128/ 128/ 128=n/ 2097152 by omega,show n/ 128/ 128=n/ 16384 by omega];rfl
theorem gr5{n:Int}(h:n/ 268435456≠0)(h':0<=n/\n<=4294967295):qap n=[128+n/ 268435456 % 128,128+n/ 2097152 % 128,128+n/ 16384 % 128,128+n/ 128 % 128,n % 128]:=by unfold qap;rw[q1l 4 (by omega),q1l 3 (by omega),q1l 2 (by omega),q1l 1 (by omega),show n/ 128/ 128/ 128/ 128/ 128=0 by omega,q7x,show n/ 128/ 128/ 128/ 128=n/ 268435456 by omega,show n/ 128/ 128/ 128=n/ 2097152 by omega,show n/ 128/ 128=n/ 16384 by omega];rfl
theorem qzn{n:Int}(h:0<=n/\n<=4294967295):(n/ 128=0/\n/ 16384=0/\n/ 2097152=0/\n/ 268435456=0)\/(n/ 128≠0/\n/ 16384=0/\n/ 2097152=0/\n/ 268435456=0)\/
  (n/ 128≠0/\n/ 16384≠0/\n/ 2097152=0/\n/ 268435456=0)\/(n/ 128≠0/\n/ 16384≠0/\n/ 2097152≠0/\n/ 268435456=0)\/(n/ 128≠0/\n/ 16384≠0/\n/ 2097152≠0/\n/ 268435456≠0):=by omega
theorem xboz(n:Int)(hp:u32Ok n=true):xbf7 n=zR [.ref 0 0 (qbd n).length true 1] [some ⟨.ints .u8 (qbd n),false⟩]:=by
 have hn:=qqw hp;unfold xbf7 qbd;simp only[qab];unfold qzu;simp only[fd28,fd21,fd14,fd7,xbp7,xbp8];rcases qzn hn with⟨h1,h2,h3,h4⟩|⟨h1,h2,h3,h4⟩|⟨h1,h2,h3,h4⟩|⟨h1,h2,h3,h4⟩|⟨h1,h2,h3,h4⟩
 ·rw[c_z h4,c_z h3,c_z h2,c_z h1,gr1 h1];rfl
 ·rw[c_z h4,c_z h3,c_z h2,c_nz h1,gr2 h1 h2];rfl
 ·rw[c_z h4,c_z h3,c_nz h2,c_nz h1,gr3 h2 h3];rfl
 ·rw[c_z h4,c_nz h3,c_nz h2,c_nz h1,gr4 h3 h4];rfl
 ·rw[c_nz h4,c_nz h3,c_nz h2,c_nz h1,gr5 h4 hn];rfl
theorem rm1{l:List Int}{x:Option Out}(h:l.length<=1000000000):rmK l.length 1 x=x:=qlx (by omega) (by omega) rfl
theorem xbo0(m:Nat)(n:Int)(l:List Int)(hp:(u32Ok n&&qt7 l)=true):xbf8 m n l=zR [.ref 1 0 (l++qbd n).length true 1] [none,some ⟨.ints .u8 (l++qbd n),false⟩]:=by
 simp only[zab] at hp;have hn:=qqw hp.1;have hl:=qhv hp.2;have rm: ∀(a:List Int) {x:Option Out},a.length<=10->rmK (l++a).length 1 x=x:=fun a x h=>rm1 (by simp;omega);unfold xbf8 qbd;simp only[qab];unfold qpn;simp only[fd28,fd21,fd14,fd7,xbp7,xbp8,za7,zbe,zaz];rcases qzn hn with⟨h1,h2,h3,h4⟩|⟨h1,h2,h3,h4⟩|⟨h1,h2,h3,h4⟩|⟨h1,h2,h3,h4⟩|⟨h1,h2,h3,h4⟩
 ·rw[c_z h4,c_z h3,c_z h2,c_z h1,gr1 h1,rm _ (by simp)]
 ·rw[c_z h4,c_z h3,c_z h2,c_nz h1,gr2 h1 h2,rm _ (by simp),rm _ (by simp)]
 ·rw[c_z h4,c_z h3,c_nz h2,rm _ (by simp),c_nz h1,rm _ (by simp),gr3 h2 h3,rm _ (by simp)]
 ·rw[c_z h4,c_nz h3,rm _ (by simp),c_nz h2,rm _ (by simp),c_nz h1,rm _ (by simp),gr4 h3 h4,rm _ (by simp)]
 ·rw[c_nz h4,rm _ (by simp),c_nz h3,rm _ (by simp),c_nz h2,rm _ (by simp),c_nz h1,rm _ (by simp),gr5 h4 hn,rm _ (by simp)]
theorem xbvs: ∀(f g:Nat) (n:Int) (l:List Int),0<=n->n<=4294967295->n<128 ^ g->g<f->l.length+g<=100->
  qgx (fun y4 y5=>zR [.ref 0 0 y4 true 1] [some ⟨.ints .u8 y5,false⟩]) f n l.length l=zR [.ref 0 0 (gHi g n++l).length true 1] [some ⟨.ints .u8 (gHi g n++l),false⟩]
 | 0,g,n,l,_,_,_,h,_=>by omega
 | f+1,g,n,l,h0,hb,h1,hg,hl=>by
  show qh1 (qgx (fun y4 y5=>zR [.ref 0 0 y4 true 1] [some ⟨.ints .u8 y5,false⟩]) f) (fun y4 y5=>zR [.ref 0 0 y4 true 1] [some ⟨.ints .u8 y5,false⟩]) n l.length l=_;unfold qh1;refine qac (fun h=> ?_) fun h=> ?_
  ·obtain⟨g,rfl⟩: ∃g',g=g'+1:=⟨g - 1,by
    cases g with
    | zero=>rw[Int.pow_zero] at h1;omega
    | succ g=>rfl⟩
   rw[Int.pow_succ] at h1;rw[q1l g (by omega)];dsimp only;rw[zca h0,zb9 h0,show IntKind.u32.wrap (128+n % 128)=128+n % 128 from u32_in _ (by omega),show IntKind.u32.wrap (n/ 128)=n/ 128 from u32_in _ (by omega),show IntKind.u8.wrap (128+n % 128)=128+n % 128 from u8_in _ (by omega)];rw[show[128+n % 128]++l=(128+n % 128)::l from rfl];refine qlx (by simp;omega) (by simp;omega) ?_;refine(xbvs f g (n/ 128) ((128+n % 128)::l) (by omega) (by omega) (by generalize (128:Int) ^ g=X at*;omega) (by omega) (by simp only[zag];omega)).trans ?_;simp
  ·have:n=0:=by omega
   subst this;rw[q7x];rfl
theorem xbd8(n:Int)(hp:u32Ok n=true):q1n n=zR [.ref 0 0 (qbd n).length true 1] [some ⟨.ints .u8 (qbd n),false⟩]:=by have hn:=qqw hp;unfold q1n qbd qap;simp only[qab];rw[zca hn.1,zb9 hn.1,show IntKind.u32.wrap (n/ 128)=n/ 128 from u32_in _ (by omega),show IntKind.u8.wrap (n % 128)=n % 128 from u8_in _ (by omega)];exact xbvs FUEL 5 (n/ 128) [n % 128] (by omega) (by omega) (by omega) (by unfold FUEL;omega) (by simp)
theorem qzo(n:Int):(qap n).length<=6:=by
 have h: ∀(f:Nat) (n:Int),(gHi f n).length<=f:=fun f=>by
  induction f with
  | zero=>intro n;simp[gHi]
  | succ f ih=>
   intro n;unfold gHi;split
   ·simp
   ·have:=ih (n/ 128);simp;omega
 unfold qap;have:=h 5 (n/ 128);simp;omega
theorem qof(n:Int):qbd n=qap n:=qab _
abbrev bO(y:List Int):Option Out:=zR [.cl (.sli .u8 y)] []
theorem xbvx(r:List Int)(hr: ∀x∈r,0<=x/\x<=4294967295)(hl:r.length<=1000): ∀(f i:Nat) (l:List Int),i<=r.length->r.length<f+i->l.length<=6*(i+1)->
  qk1 (fun _ y=>bO y) f l.length r r.length i l=bO (l++(r.drop i).flatMap qap)
 | 0,i,l,hi,hf,_=>by omega
 | f+1,i,l,hi,hf,hll=>by
  show qmo (qk1 (fun _ y=>bO y) f) (fun _ y=>bO y) l.length r r.length i l=_;unfold qmo;refine qac (fun h=> ?_) fun h=> ?_
  ·obtain⟨c,hc⟩:=qaw (b:=r) (i:=i) (by omega);refine qa3 (by omega) hc (qam ?_ ?_)
   ·rw[qvj (hr c (zac hc)),qpr (by omega)];rfl
   ·have:=qzo c;dsimp only;rw[q3z (by omega),qof,qdj hc];refine(xbvx r hr hl f (i+1) (l++qap c) (by omega) (by omega) (by simp;omega)).trans ?_;simp
  ·rw[qew (by omega)];simp
theorem xbv2(o:List Int)(hr: ∀x∈o,0<=x/\x<=4294967295)(hl:o.length<=1000): ∀(f i:Nat) (l:List Int),i<=o.length->o.length<f+i->l.length<=6*(i+1)->
  qjc (fun _ y=>bO y) f o l.length i l=bO (l++(o.drop i).flatMap qap)
 | 0,i,l,hi,hf,_=>by omega
 | f+1,i,l,hi,hf,hll=>by
  show qka (qjc (fun _ y=>bO y) f) (fun _ y=>bO y) o l.length i l=_;unfold qka;refine qac (fun h=> ?_) fun h=> ?_
  ·obtain⟨c,hc⟩:=qaw (b:=o) (i:=i) (by omega);have:=qzo c;refine qa3 (by omega) hc (qam (qvj (hr c (zac hc))) ?_);dsimp only;rw[q3z (by omega),qof,qdj hc,rm1 (by simp;omega)];refine(xbv2 o hr hl f (i+1) (l++qap c) (by omega) (by omega) (by simp;omega)).trans ?_;simp
  ·rw[qew (by omega)];simp
theorem qj5{o:List Int}(h:qbc o=true): ∃x y r,o=x::y::r/\r.length<=18/\x<=2/\(x<2->y<40)/\y<=4294967215:=by
 match o,h with
 | x::y::r,h=>
  simp only[qbc,zab,zbw,decide_eq_true_eq] at h;exact⟨x,y,r,rfl,h.1,by omega,by omega,by omega⟩
theorem xbox(o:List Int)(hp:qre o=true):xbf6 o=zR [.cl (.sli .u8 (qai o))] []:=by
 obtain⟨hl,hr⟩:=qsl hp;unfold xbf6 qai qg6 qbx;simp only[qab]
 cases hf:qbc o with
 | false=>rfl
 | true=>
  obtain⟨x,y,r,rfl,hr18,hx,hxy,hy⟩:=qj5 hf;have rx:=hr x (by simp);have ry:=hr y (by simp);rw[if_pos rfl];refine q66 rfl (qas (by simp only[zag];omega) ?_);simp only[za4,za3,zaf];rw[show IntKind.u32.wrap (40*x)=40*x from u32_in _ (by omega),show IntKind.u32.wrap (40*x+y)=40*x+y from u32_in _ (by omega)];refine qas (by simp only[zag];omega) (qam (qvj (by omega)) (qas (by simp only[zag];omega) ?_));rw[qof];have:=qzo (40*x+y);exact xbvx r (fun z hz=>hr z (by simp[hz])) (by omega) FUEL 0 _ (by omega) (by unfold FUEL;omega) (by omega)
theorem xbkj(o:List Int)(hp:qre o=true):q74 o=zR [.cl (.sli .u8 (qai o))] []:=by
 obtain⟨hl,hr⟩:=qsl hp;unfold q74 qai qg6 qbx;simp only[qab]
 cases hf:qbc o with
 | false=>rfl
 | true=>
  obtain⟨x,y,r,rfl,hr18,hx,hxy,hy⟩:=qj5 hf;have rx:=hr x (by simp);have ry:=hr y (by simp);rw[if_pos rfl];refine q66 rfl (qas (by simp only[zag];omega) ?_);simp only[za4,za3,zaf];rw[show IntKind.u32.wrap (40*x)=40*x from u32_in _ (by omega),show IntKind.u32.wrap (40*x+y)=40*x+y from u32_in _ (by omega)];refine qas (by simp only[zag];omega) (qam (qvj (by omega)) ?_);rw[qof];have:=qzo (40*x+y);exact xbv2 (x::y::r) hr (by simp;omega) FUEL 2 _ (by simp) (by unfold FUEL;simp;omega) (by omega)
open IntWalk (i64_in u8_in u32_in u64_in i64_quo u8_quo rem_in)
theorem xbfy{o:List Int}(h:qbc o=true):2<=o.length/\o.length<=20:=by obtain⟨x,y,r,rfl,h1,_⟩:=qj5 h;simp;omega
abbrev inU(n:Int):Prop:=0<=n/\n<=4294967295
theorem q8l{n:Int}(h:inU n)(rest:List Int):qaj (qap n++rest)=(n,((qap n).length:Int)):=by
 unfold qaj;have go: ∀(acc i c:Int) (r:List Int), ¬(i=0/\c=128)->acc<=33554431->128<=c->qbn acc i (c::r)=qbn (acc*128+(c - 128)) (i+1) r:=fun acc i c r h1 h2 h3=>by rw[qoo,if_neg (by rintro(h|h);exact h1 h;omega),if_neg (by omega)]
 have fin: ∀(acc i c:Int) (r:List Int), ¬(i=0/\c=128)->acc<=33554431->c<128->qbn acc i (c::r)=(acc*128+c,i+1):=fun acc i c r h1 h2 h3=>by rw[qoo,if_neg (by rintro(h|h);exact h1 h;omega),if_pos h3]
 rcases qzn h with⟨h1,h2,h3,h4⟩|⟨h1,h2,h3,h4⟩|⟨h1,h2,h3,h4⟩|⟨h1,h2,h3,h4⟩|⟨h1,h2,h3,h4⟩
 ·rw[gr1 h1];simp only[zbe,zaz,zag,zbq];rw[fin _ _ _ _ (by omega) (by omega) (by omega)];exact Prod.ext (by simp only[];omega) rfl
 ·rw[gr2 h1 h2];simp only[zbe,zaz,zag,zbq];rw[go _ _ _ _ (by omega) (by omega) (by omega),fin _ _ _ _ (by omega) (by omega) (by omega)];exact Prod.ext (by simp only[];omega) rfl
 ·rw[gr3 h2 h3];simp only[zbe,zaz,zag,zbq];rw[go _ _ _ _ (by omega) (by omega) (by omega),go _ _ _ _ (by omega) (by omega) (by omega),fin _ _ _ _ (by omega) (by omega) (by omega)];exact Prod.ext (by simp only[];omega) rfl
 ·rw[gr4 h3 h4];simp only[zbe,zaz,zag,zbq];rw[go _ _ _ _ (by omega) (by omega) (by omega),go _ _ _ _ (by omega) (by omega) (by omega),go _ _ _ _ (by omega) (by omega) (by omega),fin _ _ _ _ (by omega) (by omega) (by omega)];exact Prod.ext (by simp only[];omega) rfl
 ·rw[gr5 h4 h];simp only[zbe,zaz,zag,zbq];rw[go _ _ _ _ (by omega) (by omega) (by omega),go _ _ _ _ (by omega) (by omega) (by omega),go _ _ _ _ (by omega) (by omega) (by omega),go _ _ _ _ (by omega) (by omega) (by omega),fin _ _ _ _ (by omega) (by omega) (by omega)];exact Prod.ext (by simp only[];omega) rfl
theorem xbs4(n:Int):0<(qap n).length:=by unfold qap;simp
theorem xbgv{n:Int}(h:inU n): ∀x∈qap n,0<=x/\x<=255:=by
 have: ∀(f:Nat) (n:Int), ∀x∈gHi f n,0<=x/\x<=255:=fun f=>by
  induction f with
  | zero=>intro n x hx;simp[gHi] at hx
  | succ f ih=>
   intro n x hx;unfold gHi at hx;split at hx
   ·simp at hx
   ·rcases zak.1 hx with hx|hx
    ·exact ih _ x hx
    ·simp at hx;omega
 intro x hx;unfold qap at hx;rcases zak.1 hx with hx|hx
 ·exact this _ _ x hx
 ·simp at hx;omega
theorem q5n{n:Int}(h:inU n)(rest:List Int)(hb:qad (qap n++rest)=true):qb6 (qap n++rest)=(n,true)::qb6 rest:=by have hp:=xbs4 n;rw[q2n hb,if_neg (fun e=>by rw[List.append_eq_nil_iff] at e;rw[e.1] at hp;simp at hp),q8l h];simp only[];rw[if_neg (by omega),xboe,List.drop_left]
theorem q2l: ∀(l:List Int) (rest:List Int),(∀n∈l,inU n)->qad (l.flatMap qap++rest)=true->qb6 (l.flatMap qap++rest)=l.map (fun n=>(n,true))++qb6 rest
 | [],rest,_,_=>rfl
 | n::l,rest,h,hb=>by rw[za5,za7] at hb ⊢;rw[q5n (h n (by simp)) _ hb,q2l l rest (fun x hx=>h x (by simp[hx])) (by have:=qba hb (qap n).length;rwa [List.drop_left] at this)];rfl
def oflat:List Int->List Int
 | x::y::r=>(40*x+y)::r
 | _=>[]
theorem qfw{o:List Int}(h:qbc o=true):qbx o=(oflat o).flatMap qap:=by obtain⟨x,y,r,rfl,_⟩:=qj5 h;unfold qbx;rw[if_pos h];simp[oflat]
theorem qun{o:List Int}(h:qbc o=true)(hr: ∀n∈o,inU n): ∀n∈oflat o,inU n:=by
 obtain⟨x,y,r,rfl,h1,h2,h3,h4⟩:=qj5 h;intro n hn;have:=hr x (by simp);have:=hr y (by simp);rcases zar.1 hn with rfl|hn
 ·exact⟨by omega,by omega⟩
 ·exact hr n (by simp[hn])
theorem qum{o:List Int}(h:qbc o=true):(oflat o).length+1=o.length:=by obtain⟨x,y,r,rfl,_⟩:=qj5 h;rfl
theorem xbji{o:List Int}(hr: ∀n∈o,inU n):qad (qbx o)=true:=by
 by_cases h:qbc o=true
 ·rw[qfw h];have hl:=qum h;have hf:=xbfy h;have hg: ∀(l:List Int),(l.flatMap qap).length<=6*l.length:=fun l=>by
   induction l with
   | nil=>simp
   | cons a l ih=>have:=qzo a;simp at*;omega
  have:=hg (oflat o);refine qc2 (by omega) fun x hx=> ?_;obtain⟨n,hn,hx⟩:=zb4.1 hx;exact xbgv (qun h hr n hn) x hx
 ·unfold qbx;rw[if_neg h];exact qc2 (by simp) (by simp)
theorem xbgu: ∀(l o:List Int),o≠[]->o.length+l.length<=21->qq4 (l.map fun n=>(n,true)) o=some (o++l)
 | [],o,_,_=>by simp[qq4]
 | n::l,o,h,hl=>by rw[zbz];unfold qq4;simp only[zag] at hl;rw[if_neg (by rintro(h|h);cases h;omega),if_neg h,xbgu l (o++[n]) (by simp) (by simp;omega)];simp
theorem q43{x y:Int}(h:qbc [x,y]=true)(hx:inU x)(hy:inU y):qbm (40*x+y)=[x,y]:=by
 simp only[qbc,zab,zbw,decide_eq_true_eq] at h;unfold qbm;rcases h.2 with h|h
 ·rw[if_pos (by omega),show(40*x+y)/ 40=x by omega,show(40*x+y) % 40=y by omega]
 ·rw[if_neg (by omega),h.1,show 40*2+y - 80=y by omega]
theorem qr4{o:List Int}(h:qbc o=true)(hr: ∀n∈o,inU n):qc6 (qbx o)=(o,0):=by
 have hok:=xbji hr;have hfl:=xbfy h;rw[qfw h] at hok ⊢;have e:=q2l (oflat o) [] (qun h hr) (by rwa [za6]);rw[za6] at e;unfold qc6;rw[e,show qb6 []=[] from rfl,za6];obtain⟨x,y,r,rfl,h1,h2,h3,h4⟩:=qj5 h;have hf2:qbc [x,y]=true:=by simp only[qbc,zab] at h ⊢;exact⟨by simp,h.2⟩
 have:qq4 ((oflat (x::y::r)).map fun n=>(n,true)) []=some (x::y::r):=by show qq4 ((40*x+y,true)::r.map fun n=>(n,true)) []=_;unfold qq4;rw[if_neg (by simp),if_pos rfl,q43 hf2 (hr x (by simp)) (hr y (by simp)),xbgu r [x,y] (by simp) (by simp at*;omega)];rfl
 rw[this];simp only[];rw[if_pos h]
theorem q7y: ∀(f:Nat) (n:Int),0<=n->n<128 ^ f->gHi f n=gHi (f+1) n
 | 0,n,h0,h=>by
  rw[Int.pow_zero] at h;have:n=0:=by omega
  subst this;rw[q7x,q7x]
 | f+1,n,h0,h=>by
  by_cases hn:n=0
  ·subst hn;rw[q7x,q7x]
  ·rw[q1l _ hn,q1l _ hn,q7y f (n/ 128) (by omega) (by rw[Int.pow_succ] at h;generalize (128:Int) ^ f=X at*;omega)]
theorem qwq: ∀(b:List Int) (acc i n k:Int),(∀x∈b,0<=x/\x<=255)->0<=acc->0<=i->(i=0->acc=0)->(0<i->0<acc)->qbn acc i b=(n,k)->k≠0->gHi 5 acc++b.take (k - i).toNat=qap n
 | [],acc,i,n,k,_,_,_,_,_,h,hk=>by simp[qbn] at h;omega
 | c::b,acc,i,n,k,hb,h0,hi,h1,h2,h,hk=>by
  have hc:=hb c (by simp);rw[qoo] at h;split at h
  ·simp at h;omega
  ·rename_i hn;simp only[not_or,not_and] at hn;split at h
   ·simp only[zbh] at h;obtain⟨rfl,rfl⟩:=h;unfold qap;rw[show(i+1 - i).toNat=1 by omega,show(acc*128+c)/ 128=acc by omega,show(acc*128+c) % 128=c by omega];rfl
   ·have hrng:=qul b (acc*128+(c - 128)) (i+1) (fun x hx=>hb x (by simp[hx])) (by omega) (by omega);rw[h] at hrng;have hk2:=hrng.2.resolve_left hk;simp only at hk2;have hpos:0<acc*128+(c - 128):=by
     by_cases hi0:i=0
     ·have:=hn.1 hi0;omega
     ·have:=h2 (by omega);omega
    have:=qwq b (acc*128+(c - 128)) (i+1) n k (fun x hx=>hb x (by simp[hx])) (by omega) (by omega) (by omega) (by omega) h hk;rw[q1l 4 (by omega),show(acc*128+(c - 128))/ 128=acc by omega,show 128+(acc*128+(c - 128)) % 128=c by omega,q7y 4 acc h0 (by omega)] at this;rw[<- this,show(k - i).toNat=(k - (i+1)).toNat+1 by omega,zdm];simp
theorem q2k: ∀(f:Nat) (b:List Int),qad b=true->b.length<=f->(∀p∈qcj f b,p.2=true)->b=(qcj f b).flatMap fun p=>qap p.1
 | 0,b,_,h,_=>by have:b=[]:=zal (by omega);subst this;rfl
 | f+1,b,hb,hl,hall=>by
  unfold qcj at hall ⊢;by_cases he:b=[]
  ·subst he;rfl
  ·rw[if_neg he] at hall ⊢;by_cases h0:(qaj b).2=0
   ·rw[if_pos h0] at hall;have:=hall ((qaj b).1,false) (by simp);cases this
   ·rw[if_neg h0] at hall ⊢;have hr:=(qga hb).2.resolve_left h0;have hg:=qwq b 0 0 (qaj b).1 (qaj b).2 (qav hb).2 (by omega) (by omega) (fun _=>rfl) (by omega) rfl h0;rw[q7x,zaz,Int.sub_zero] at hg;rw[za5, <- hg, <- q2k f (b.drop (qaj b).2.toNat) (qba hb _) (by simp only[zat];omega) (fun p hp=>hall p (by simp[hp]))];exact(List.take_append_drop _ _).symm
theorem xbn5: ∀(l:List (Int×Bool)) (o o':List Int),qq4 l o=some o'->o≠[]->(∀p∈l,p.2=true)/\o'=o++l.map (·.1)
 | [],o,o',h,_=>by simp[qq4] at h;subst h;simp
 | (n,ok)::l,o,o',h,ho=>by
  unfold qq4 at h;rw[if_neg ho] at h;split at h
  ·cases h
  ·rename_i hn;simp only[not_or] at hn;obtain⟨h1,h2⟩:=xbn5 l _ o' h (by simp);refine⟨fun p hp=> ?_,by rw[h2];simp⟩;rcases zar.1 hp with rfl|hp
   ·simpa using hn.1
   ·exact h1 p hp
theorem q4u{b:List Int}(hb:qad b=true):(qc6 b=([],5))\/∃o,qc6 b=(o,0)/\qbc o=true/\(∀n∈o,inU n)/\qbx o=b:=by
 unfold qc6
 cases hg:qq4 (qb6 b) [] with
 | none=>exact .inl rfl
 | some o=>
  simp only[];by_cases hf:qbc o=true
  ·rw[if_pos hf];refine .inr ⟨o,rfl,hf, ?_⟩;have hback:=q2k b.length b hb (zas _);have hrng:=qz7 b.length b hb;change (∀p∈qb6 b,p.2=true)->b=(qb6 b).flatMap _ at hback;change ∀p∈qb6 b,_ at hrng
   cases hl:qb6 b with
   | nil=>
    rw[hl] at hg;simp[qq4] at hg;subst hg;simp[qbc] at hf
   | cons p l=>
    obtain⟨n,ok⟩:=p;rw[hl] at hg hback hrng;unfold qq4 at hg;split at hg
    ·cases hg
    ·rename_i hn;rw[if_pos rfl] at hg;have hne:qbm n≠[]:=by unfold qbm;split<;>simp
     obtain⟨h1,rfl⟩:=xbn5 l _ o hg hne;have hbk:=hback (fun p hp=>by
      rcases zar.1 hp with rfl|hp
      ·simpa using (not_or.1 hn).1
      ·exact h1 p hp)
     have hn2:=hrng (n,ok) (by simp);simp only at hn2;have hfl:oflat (qbm n++l.map (·.1))=n::l.map (·.1):=by
      unfold qbm;split
      ·simp only[zbe,zaz,oflat,zbk,and_true];omega
      ·simp only[zbe,zaz,oflat,zbk,and_true];omega
     have hin: ∀m∈qbm n++l.map (·.1),inU m:=by
      intro m hm;rcases zak.1 hm with hm|hm
      ·unfold qbm at hm;split at hm
       ·simp at hm;rcases hm with rfl|rfl<;>exact⟨by omega,by omega⟩
       ·simp at hm;rcases hm with rfl|rfl<;>exact⟨by omega,by omega⟩
      ·obtain⟨q,hq,rfl⟩:=za8.1 hm;exact hrng q (by simp[hq])
     refine⟨hin, ?_⟩;rw[qfw hf,hfl]
     conv=>rhs;rw[hbk]
     simp[List.flatMap_map]
  ·rw[if_neg hf];exact .inl rfl
open IntWalk (i64_in u8_in u32_in u64_in i64_quo u8_quo rem_in)
theorem xbhe{g:Int}{b:List Int}(hb: ∀x∈b,0<=x/\x<=255):isTf 1 [.int .i64 g,.sli .u8 b,.slg 3 []]=true:=by show(b.all xbfr&&true)=true;rw[Bool.and_true,zaj];exact fun x hx=>decide_eq_true (hb x hx)
theorem qzw{g:Int}{b:List Int}(hb: ∀x∈b,0<=x/\x<=255)(hl:b.length<=29999):isS [.int .i64 g,.sli .u8 b,.slg 3 []]=true:=
 xbdo (xbhe hb) (by unfold qdv;simp;omega)
theorem xbj7{g:Int}{b:List Int}(hb: ∀x∈b,0<=x/\x<=255)(hg:qa0 g=false):qra [.int .i64 g,.sli .u8 b,.slg 3 []]=(qbw g&&qbq g b):=by rw[qz3 (xbhe hb)];unfold okF qal;simp[hg]
theorem q1w{t:Int}{b:List Int}{k:List CV}(h:isS [.int .i64 t,.sli .u8 b,.slg 3 k]=true):b.length<=29999/\∀x∈b,0<=x/\x<=255:=by obtain⟨n,hn,hB⟩:=qcz h;obtain⟨m,t',b',l',rfl,e,hb,_⟩:=qcu hn;cases e;refine⟨?_,hb⟩;change 1+b.length+_<=30000 at hB;omega
theorem q8w{t:Int}{b:List Int}{k:List CV}(h:isS [.int .i64 t,.sli .u8 b,.slg 3 k]=true):qad b=true:=qc2 (by have:=(q1w h).1;omega) (q1w h).2
theorem xbmf{g t:Int}{b:List Int}{k:List CV}(h:t=g)(hk:k.length=0)(hd:qbq g b=false):qxp g t b k=5:=by unfold qxp;rw[if_neg (by simp[h]),if_pos (.inr hd)]
theorem xbik{g t:Int}{b:List Int}{k:List CV}(h:t=g)(hk:k.length=0)(hd:qbq g b=true):qxp g t b k=0:=by unfold qxp;rw[if_neg (by simp[h]),if_neg (by simp[hk,hd])]
theorem xbb3{g t:Int}{b:List Int}{k:List CV}(h: ¬t=g):qxp g t b k=4:=by unfold qxp;rw[if_pos h]
theorem q3v{g t:Int}{b:List Int}{k:List CV}(h:t=g)(hk:0<k.length):qxp g t b k=5:=by unfold qxp;rw[if_neg (by simp[h]),if_pos (.inl (by omega))]
theorem xbpq(t:Int)(b:List Int)(k:List CV)(g:Int)(hp:isS [.int .i64 t,.sli .u8 b,.slg 3 k]=true):xbgs t b k g=zR [.cl (.sli .u8 (qqz g t b k).1),.cl (.int .i64 (qqz g t b k).2)] []:=by
 unfold xbgs qqz qfy;simp only[qab];refine qbb (fun h=> ?_) fun h=>qac (fun h'=> ?_) fun h'=>qam (q8w hp) ?_
 ·rw[xbb3 h];rfl
 ·rw[q3v h (by omega)];rfl
 ·cases hd:qbq g b with
  | false=>rw[xbmf h (by omega) hd];rfl
  | true=>rw[xbik h (by omega) hd];rfl
theorem xbk1{g t:Int}{b:List Int}{k:List CV}(h:qxp g t b k=0):qqz g t b k=(b,0):=by unfold qqz;rw[qab,if_pos h]
theorem xbk0{g t:Int}{b:List Int}{k:List CV}(h: ¬qxp g t b k=0):qqz g t b k=([],qxp g t b k):=by unfold qqz;rw[qab,if_neg h]
theorem xbpr(t:Int)(b:List Int)(k:List CV)(hp:isS [.int .i64 t,.sli .u8 b,.slg 3 k]=true):xbn3 t b k=zR [.cl (.sli .u32 (qnj t b k).1),.cl (.int .i64 (qnj t b k).2)] []:=by
 refine qam hp ?_;dsimp only;unfold qnj;rw[qab];by_cases h:qxp 6 t b k=0
 ·rw[if_pos h,xbk1 h];exact qtq rfl (qam (q8w hp) rfl)
 ·rw[if_neg h,xbk0 h];exact qv8 h rfl
open IntWalk (i64_in u8_in u32_in u64_in i64_quo u8_quo rem_in)
abbrev W4(c:CV):Prop:= ∃t b k w,c=.agg [.int .i64 t,.sli .u8 b,.slg 3 k,.sli .u8 w]/\qad w=true
theorem qwj(x:CV): ∀l:List CV,(qmi x l).length=l.length+1
 | []=>rfl
 | y::r=>by
  unfold qmi;split
  ·simp[qwj x r]
  ·rfl
theorem qwk{x:CV}: ∀ {l:List CV} {c:CV},c∈qmi x l->c=x\/c∈l
 | [],c,h=>by simp[qmi] at h;exact .inl h
 | y::r,c,h=>by
  unfold qmi at h;split at h
  ·rcases zar.1 h with rfl|h
   ·exact .inr (by simp)
   ·rcases qwk h with h|h
    ·exact .inl h
    ·exact .inr (za2 _ h)
  ·rcases zar.1 h with rfl|h
   ·exact .inl rfl
   ·exact .inr h
theorem xbss(A:List CV)(x:CV)(T:List CV):(A++x::T)[A.length]? =some x:=by rw[zav (zas _),Nat.sub_self];rfl
open IntWalk (i64_in u8_in u32_in u64_in i64_quo u8_quo rem_in)
abbrev W3(c:CV):Prop:= ∃t b k,c=.agg [.int .i64 t,.sli .u8 b,.slg 3 k]/\isS [.int .i64 t,.sli .u8 b,.slg 3 k]=true
theorem xbas{l:List CV}(h:xbe4 l=true):l.length<=2000/\∀c∈l,W3 c:=by unfold xbe4 at h;rw[qab] at h;exact @of_decide_eq_true _ (Classical.propDecidable _) h
theorem qhe{c:CV}(h:W3 c):W4 (qds c):=by
 obtain⟨t,b,k,rfl,hs⟩:=h;refine⟨t,b,k,_,rfl, ?_⟩;obtain⟨n,hn,hB⟩:=qcz hs;show qad (qa7 [.int .i64 t,.sli .u8 b,.slg 3 k]).1=true;rw[qf8 hn];split
 ·rename_i hok;have h1:=qgm hn;exact qc2 (by show(qal n _).1.length<=_;omega) (qpa hn hB hok.1)
 ·exact qc2 (by simp) (by simp)
def xbec(c:CV):CV:=.agg ((cell1 c).take 3)
theorem xbl9(l:List CV):(qn7 l).length=l.length:=by
 have key: ∀(l acc:List CV),(l.foldl (fun acc x=>qmi x acc) acc).length=l.length+acc.length:=by
  intro l
  induction l with
  | nil=>intro acc;simp
  | cons x r ih=>intro acc;rw[zdb,ih,qwj,zag];omega
 unfold qn7;rw[List.length_reverse,key];simp
open IntWalk (i64_in u8_in u32_in u64_in i64_quo u8_quo rem_in)
theorem qg5:qke=[]:=qab _
open IntWalk (i64_in u8_in u32_in u64_in i64_quo u8_quo rem_in)
theorem qrs{g:Int}{b:List Int}(h:qp4 g b=true):(g=12\/g=6\/g=24)/\b.length<=2000/\∀x∈b,0<=x/\x<=255:=by unfold qp4 at h;rw[qab,zab,decide_eq_true_eq,zaj] at h;exact⟨h.1.1,h.1.2,fun x hx=>qks (h.2 x hx)⟩
theorem xbd0{g:Int}{b:List Int}(h:g=12\/g=6\/g=24)(h':b.length<=2000)(hb: ∀x∈b,0<=x/\x<=255):qp4 g b=true:=by unfold qp4;rw[qab,zab,decide_eq_true_eq,zaj];exact⟨⟨h,h'⟩,fun x hx=>decide_eq_true (hb x hx)⟩
theorem qqy{g:Int}{b:List Int}(h:qbq g b=true):qce g b=(g,b,0):=by unfold qce xbmg;rw[qab,if_pos h]
theorem qvl{g:Int}{b:List Int}(h:qbq g b=false):qce g b=(0,[],5):=by unfold qce xbmg;rw[qab,if_neg (by rw[h];simp)]
theorem xbt8(g:Int)(b:List Int)(hp:qp4 g b=true):xbn2 g b=zR [.cl (.agg [.int .i64 (qce g b).1,.sli .u8 (qce g b).2.1,.slg 3 qke]),.cl (.int .i64 (qce g b).2.2)] []:=by
 obtain⟨hg,hl,hb⟩:=qrs hp;have hk:qbw g=true/\qa0 g=false:=by rcases hg with rfl|rfl|rfl<;>exact⟨rfl,rfl⟩
 unfold xbn2;refine qam (qzw hb (by omega)) ?_;rw[xbj7 hb hk.2,hk.1,zce,qg5]
 cases hd:qbq g b with
 | false=>rw[qvl hd];rfl
 | true=>rw[qqy hd];rfl
theorem xbps(g:Int)(b:List Int)(hp:qp4 g b=true):xbgt g b=zR [.cl (.agg [.int .i64 (qce g b).1,.sli .u8 (qce g b).2.1,.slg 3 qke]),.cl (.int .i64 (qce g b).2.2)] []:=by
 obtain⟨hg,hl,hb⟩:=qrs hp;unfold xbgt qfy;rw[qab,qg5];refine qam (qc2 (by omega) hb) ?_
 cases hd:qbq g b with
 | false=>rw[qvl hd];rfl
 | true=>rw[qqy hd];rfl
theorem q1s{o:List Int}(h:idOk o=true):o.length<=100000000000000/\∀n∈o,inU n:=by unfold idOk at h;rw[qab,zab,decide_eq_true_eq,zaj] at h;exact⟨h.1,fun x hx=>of_decide_eq_true (h.2 x hx)⟩
theorem q8p{o:List Int}(h:o.length<=100000000000000)(h': ∀n∈o,inU n):idOk o=true:=by unfold idOk;rw[qab,zab,decide_eq_true_eq,zaj];exact⟨h,fun x hx=>decide_eq_true (h' x hx)⟩
theorem xbob{o:List Int}(h:idOk o=true):qre o=true:=by obtain⟨h1,h2⟩:=q1s h;unfold qre;rw[qab,zab,decide_eq_true_eq,zaj];exact⟨by omega,fun x hx=>decide_eq_true (h2 x hx)⟩
theorem qzm{o:List Int}(h:qbc o=true):2<=o.length/\o.length<=20:=by
 unfold qbc at h;split at h
 ·simp at h;simp;omega
 ·cases h
theorem q2p{o:List Int}(hr: ∀n∈o,inU n):(qai o).length<=2000/\∀x∈qai o,0<=x/\x<=255:=by
 rw[show qai o=qbx o from qab _];by_cases h:qbc o=true
 ·rw[qfw h];have hl:=qum h;have hf:=qzm h;have hg: ∀(l:List Int),(l.flatMap qap).length<=6*l.length:=fun l=>by
   induction l with
   | nil=>simp
   | cons a l ih=>have:=qzo a;simp at*;omega
  have:=hg (oflat o);refine⟨by omega,fun x hx=> ?_⟩;obtain⟨n,hn,hx⟩:=zb4.1 hx;exact xbgv (qun h hr n hn) x hx
 ·unfold qbx;rw[if_neg h];exact⟨by simp,by simp⟩
theorem xbgx{o:List Int}(h:idOk o=true):qp4 6 (qai o)=true:=
 let ⟨h1,h2⟩:=q2p (q1s h).2
 xbd0 (.inr (.inl rfl)) h1 h2
theorem nVId(o:List Int)(hp:idOk o=true):gVId o=zR [.cl (.agg [.int .i64 (qce 6 (qai o)).1,.sli .u8 (qce 6 (qai o)).2.1,.slg 3 qke]),.cl (.int .i64 (qce 6 (qai o)).2.2)] []:=qam (xbob hp) (qam (xbgx hp) rfl)
theorem xbwz(o:List Int)(hp:idOk o=true):xbwe o=zR [.cl (.agg [.int .i64 (qce 6 (qai o)).1,.sli .u8 (qce 6 (qai o)).2.1,.slg 3 qke]),.cl (.int .i64 (qce 6 (qai o)).2.2)] []:=qam (xbob hp) (qam (xbgx hp) rfl)
theorem qru(a:List CV):qil a a=true:=by unfold qil;rw[qab];exact @decide_eq_true _ (Classical.propDecidable _) rfl
open IntWalk (i64_in u8_in u32_in u64_in i64_quo u8_quo rem_in)
theorem q5c{l:List CV}(h:qjt l=true):l.length<=100000000:=by unfold qjt at h;rw[qab] at h;exact of_decide_eq_true h
theorem qt8{l:List CV}(h:l.length<=100000000):qjt l=true:=by unfold qjt;rw[qab];exact decide_eq_true h
theorem qdn:qbv=[]:=qab _
theorem xbpp(l:List CV)(hp:qjt l=true):xbgr l=zR [.cl (.slg 3 l)] []:=by
 have hp:=q5c hp;unfold xbgr;simp only[zaz];refine qfv (fun h=> ?_) fun h=> ?_
 ·have h:=zal (qag.1 h);subst h;unfold xbjg;rw[if_pos (Eq.symm (qlx (by simp) (by simp) rfl))]
 ·exact qlx (by omega) (by omega) rfl
theorem xbw0(l:List CV)(hp:qjt l=true):xbwf l=zR [.cl (.agg [.int .i64 48,.sli .u8 qbv,.slg 3 l])] []:=by rw[qdn];exact qam hp rfl
theorem xbt9(l:List CV)(hp:qjt l=true):xbs3 l=zR [.cl (.agg [.int .i64 48,.sli .u8 qbv,.slg 3 l])] []:=by rw[qdn];rfl
theorem xbfi{g t:Int}{b:List Int}{k:List CV}(h: ¬t=g):xbcs g t b k=([],4):=by unfold xbcs xbfh;rw[qab,if_pos (.inl h)]
theorem xbrz{g t:Int}{b:List Int}{k:List CV}(h:t=g)(hb:qa0 g=true)(hl:b.length≠0):xbcs g t b k=([],5):=by unfold xbcs xbfh;rw[qab,if_neg (by rw[hb];rintro(e|e);exact e h;cases e),if_pos hl]
theorem xbr0{g t:Int}{b:List Int}{k:List CV}(h:t=g)(hb:qa0 g=true)(hl: ¬b.length≠0):xbcs g t b k=(k,0):=by unfold xbcs xbfh;rw[qab,if_neg (by rw[hb];rintro(e|e);exact e h;cases e),if_neg hl]
theorem qci{α:Type}{l:List α}{i:Nat}{x:α}(h:l[i]? =some x):l.drop i=x::l.drop (i+1):=by obtain⟨hi,e⟩:=zae.1 h;rw[zbb hi,e]
open IntWalk (i64_in u8_in u32_in u64_in i64_quo u8_quo rem_in)
theorem qgq: ∀(a b c:List Int),qan a b<=0->qan b c<=0->qan a c<=0
 | [],b,c,_,_=>by cases c<;>simp[qan]
 | x::a,[],c,h,_=>by simp[qan] at h
 | x::a,y::b,[],_,h=>by simp[qan] at h
 | x::a,y::b,z::c,h1,h2=>by
  unfold qan at h1 h2 ⊢;by_cases h:x<z
  ·rw[if_pos h];omega
  ·rw[if_neg h];have hxy: ¬y<x:=fun e=>by rw[if_neg (by omega),if_pos e] at h1;omega
   have hyz: ¬z<y:=fun e=>by rw[if_neg (by omega),if_pos e] at h2;omega
   obtain rfl:x=y:=by omega
   obtain rfl:x=z:=by omega
   simp only[Int.lt_irrefl,if_false] at h1 h2 ⊢;exact qgq a b c h1 h2
theorem qoa(a b:List Int):qan b a<0↔ ¬qan a b<=0:=by
 have:=qzi a b;by_cases h:qan a b<=0
 ·rw[decide_eq_true h] at this;refine⟨fun e=> ?_,fun e=>absurd h e⟩;rw[decide_eq_true e] at this;cases this
 ·rw[decide_eq_false h] at this;exact⟨fun _=>h,fun _=>of_decide_eq_true this⟩
theorem cmp_eq: ∀(a b:List Int),qan a b<=0->qan b a<=0->a=b
 | [],[],_,_=>rfl
 | [],y::b,_,h=>by simp[qan] at h
 | x::a,[],h,_=>by simp[qan] at h
 | x::a,y::b,h1,h2=>by
  unfold qan at h1 h2;have hxy: ¬y<x:=fun e=>by rw[if_neg (by omega),if_pos e] at h1;omega
  have hyx: ¬x<y:=fun e=>by rw[if_neg (by omega),if_pos e] at h2;omega
  obtain rfl:x=y:=by omega
  simp only[Int.lt_irrefl,if_false] at h1 h2;rw[cmp_eq a b h1 h2]
abbrev leK(x y:CV):Prop:=qan (keyC x) (keyC y)<=0
abbrev Desc(l:List CV):Prop:=l.Pairwise fun a b=>leK b a
theorem q8q{x:CV}: ∀ {l:List CV},Desc l->Desc (qmi x l)
 | [],_=>List.pairwise_singleton _ _
 | y::r,h=>by
  unfold qmi;obtain⟨h1,h2⟩:=List.pairwise_cons.1 h;split
  ·rename_i hlt;refine List.pairwise_cons.2 ⟨fun z hz=> ?_,q8q h2⟩;rcases qwk hz with rfl|hz
   ·show qan _ _<=0;omega
   ·exact h1 z hz
  ·rename_i hlt;have hyx:leK y x:=Classical.byContradiction fun e=>hlt ((qoa _ _).2 e);refine List.pairwise_cons.2 ⟨fun z hz=> ?_,h⟩;rcases zar.1 hz with rfl|hz
   ·exact hyx
   ·exact qgq _ _ _ (h1 z hz) hyx
theorem q1f: ∀(l acc:List CV),Desc acc->Desc (l.foldl (fun acc x=>qmi x acc) acc)
 | [],acc,h=>h
 | x::r,acc,h=>q1f r _ (q8q h)
def posA(b:List Int):List CV->Nat
 | []=>0
 | y::r=>if qan b (keyC y)<0 then 0 else posA b r+1
theorem qw1(b:List Int): ∀l:List CV,posA b l<=l.length
 | []=>zas _
 | y::r=>by unfold posA;split<;>simp;exact qw1 b r
theorem xbhx(b:List Int): ∀(l:List CV) (i:Nat) (y:CV),i<posA b l->l[i]? =some y-> ¬qan b (keyC y)<0
 | [],i,y,h,_=>by simp[posA] at h
 | z::r,i,y,h,hy=>by
  unfold posA at h;split at h
  ·omega
  ·rename_i hz
   cases i with
   | zero=>simp at hy;subst hy;exact hz
   | succ i=>exact xbhx b r i y (by omega) (by simpa using hy)
theorem q9z(b:List Int): ∀(l:List CV) (y:CV),l[posA b l]? =some y->qan b (keyC y)<0
 | [],y,h=>by simp at h
 | z::r,y,h=>by
  unfold posA at h;split at h
  ·rename_i hz;simp at h;subst h;exact hz
  ·exact q9z b r y (by simpa using h)
theorem xbg4{x:CV}: ∀ {l:List CV},Desc l->(qmi x l).reverse=l.reverse.take (posA (keyC x) l.reverse)++x::l.reverse.drop (posA (keyC x) l.reverse)
 | [],_=>rfl
 | y::r,h=>by
  obtain⟨h1,h2⟩:=List.pairwise_cons.1 h;unfold qmi;have hpos: ∀(A:List CV) (z:CV),(∀c∈A, ¬qan (keyC x) (keyC c)<0)->posA (keyC x) (A++[z])=A.length+(if qan (keyC x) (keyC z)<0 then 0 else 1):=by
   intro A z hA
   induction A with
   | nil=>simp only[zaz,posA,zbq,za1]
   | cons a A ih=>
    simp only[zbe,posA,zag];rw[if_neg (hA a (by simp)),ih fun c hc=>hA c (by simp[hc])];omega
  have hpos2: ∀(A:List CV) (z:CV), ¬(∀c∈A, ¬qan (keyC x) (keyC c)<0)->posA (keyC x) (A++[z])=posA (keyC x) A/\posA (keyC x) A<A.length:=by
   intro A z hA
   induction A with
   | nil=>exact absurd (fun c hc=>by simp at hc) hA
   | cons a A ih=>
    simp only[zbe,posA,zag];split
    ·exact⟨rfl,by omega⟩
    ·rename_i ha;obtain⟨e1,e2⟩:=ih fun hall=>hA fun c hc=>by
      rcases zar.1 hc with rfl|hc
      ·exact ha
      ·exact hall c hc
     exact⟨by rw[e1],by omega⟩
  rw[List.reverse_cons];split
  ·rename_i hlt;rw[List.reverse_cons,xbg4 h2];by_cases hall: ∀c∈r.reverse, ¬qan (keyC x) (keyC c)<0
   ·rw[hpos _ _ hall,if_pos hlt,Nat.add_zero];have hp:posA (keyC x) r.reverse=r.reverse.length:=by
     have hle:=qw1 (keyC x) r.reverse;rcases zbl (posA (keyC x) r.reverse) r.reverse.length with e|e
     ·obtain⟨c,hc⟩:=qaw (b:=r.reverse) (i:=posA (keyC x) r.reverse) e;exact absurd (q9z _ _ _ hc) (hall c (zac hc))
     ·omega
    rw[hp,zb5,zdh,List.take_left' rfl,List.drop_left' rfl];simp
   ·obtain⟨e1,e2⟩:=hpos2 _ y hall;rw[e1,List.take_append_of_le_length (by omega),List.drop_append_of_le_length (by omega)];simp
  ·rename_i hlt;have hyx:leK y x:=Classical.byContradiction fun e=>hlt ((qoa _ _).2 e);have hall: ∀c∈r.reverse, ¬qan (keyC x) (keyC c)<0:=fun c hc e=>by have:=qgq _ _ _ (h1 c (List.mem_reverse.1 hc)) hyx;exact(qoa _ _).1 e this
   rw[hpos _ _ hall,if_neg hlt,List.reverse_cons,List.reverse_cons];have:r.reverse.length+1=(r.reverse++[y]).length:=by simp
   rw[this,zb5,zdh]
theorem q3o(l:List CV)(x:CV):qn7 (l++[x])=(qn7 l).take (posA (keyC x) (qn7 l))++x::(qn7 l).drop (posA (keyC x) (qn7 l)):=by unfold qn7;rw[List.foldl_append,zdb,List.foldl_nil];exact xbg4 (q1f l [] List.Pairwise.nil)
abbrev txt(c:CV):CV:=.sli .u8 (keyC c)
theorem xbva(K:List CV->Nat->Nat->Int->List Int->Int->List CV->List CV->Option Out)(l:List CV)(n:Nat)(i:Int)(b:List Int)(hb:qt7 b=true)(O S:List CV)(hS:S.length<=2000): ∀(f j:Nat),S.length<f+j->j<=posA b S->
  qik K f l n S.length i b (j:Int) O (S.map txt)=K l n S.length i b ((posA b S:Nat):Int) O (S.map txt)
 | 0,j,h,h'=>by have:=qw1 b S;omega
 | f+1,j,h,h'=>by
  show qm4 (qik K f) K _ _ _ _ _ _ _ _=_;unfold qm4;have ih:=xbva K l n i b hb O S hS f (j+1) (by omega);generalize qik K f=ag at ih ⊢;have hle:=qw1 b S;refine qac (fun hj=> ?_) fun hj=> ?_
  ·obtain⟨c,hc⟩:=qaw (b:=S) (i:=j) (by omega);refine qax (by omega) (by omega) ?_;rw[show(0+Int.toNat (j:Int))=j by omega,zai,hc,zap,zaf];refine qam rfl (qam hb ?_);show cond (!qgv b (keyC c)) _ _=_;unfold qgv;rw[qab];by_cases hlt:qan b (keyC c)<0
   ·rw[decide_eq_true hlt];have:j=posA b S:=by
     rcases zbl j (posA b S) with e|e
     ·exact absurd hlt (xbhx b S j c e hc)
     ·omega
    rw[<- this];rfl
   ·rw[decide_eq_false hlt];show ag _ _ _ _ _ _ _ _=_;rw[show IntKind.i64.wrap ((j:Int)+1)=((j+1:Nat):Int) from(i64_in _ (by omega)).trans (by omega)];refine ih ?_;rcases zbl j (posA b S) with e|e
    ·omega
    ·have e:j=posA b S:=by omega
     subst e;exact absurd (q9z b S c hc) hlt
  ·rw[show j=posA b S by omega]
theorem xbmh{l:List CV}{o:Nat}:win l o 0 true=l.drop o:=by unfold win;cases o<;>rfl
theorem xbr6{c:CV}(h:W3 c):keyC (qds c)=(qa7 (cell1 c)).1/\xbec (qds c)=c:=by obtain⟨t,b,k,rfl,_⟩:=h;exact⟨rfl,rfl⟩
theorem xbhg{α:Type}(f:CV->α)(S:List CV)(x:CV)(p:Nat):(S.take p++x::S.drop p).map f=(S.map f).take p++f x::(S.map f).drop p:=by rw[List.map_append,zbz,zc2,zcx]
theorem xbi6{ag:List CV->Nat->Nat->Int->List CV->List CV->Option Out}{l:List CV}{n n' m m':Nat}{i:Int}{o o' t t':List CV}(h1:n=n')(h2:m=m')(h3:o=o')(h4:t=t'):ag l n m i o t=ag l n' m' i o' t':=by rw[h1,h2,h3,h4]
theorem xbhz(K0:Option Out)(K1:Nat->List CV->Option Out)(l:List CV)(hl:l.length<=2000)(hw: ∀c∈l,W3 c): ∀(f:Nat) (A R S:List CV),R.length<f->l=A++R->(∀c∈A,(qa7 (cell1 c)).2=0)->S=qn7 (A.map qds)->
  qlm K0 K1 f l S.length S.length (A.length:Int) (S.map xbec) (S.map txt)=
   if l.all (fun c=>decide ((qa7 (cell1 c)).2=0))=true then K1 l.length ((qn7 (l.map qds)).map xbec) else K0
 | 0,A,R,S,h,_,_,_=>by omega
 | f+1,A,R,S,h,hAR,hA,hS=>by
  show qp3 (qlm K0 K1 f) K0 K1 l _ _ _ _ _=_;unfold qp3;have hSl:S.length=A.length:=by rw[hS,xbl9,zam]
  cases R with
  | nil=>
   have e:l=A:=by simpa using hAR
   subst e;refine qdt (by omega) ?_;rw[if_pos (by rw[zaj];exact fun c hc=>decide_eq_true (hA c hc)),hSl,hS]
  | cons c R=>
   have hc:l[A.length]? =some c:=by rw[hAR];exact xbss A c R
   have ih:=xbhz K0 K1 l hl hw f (A++[c]) R (S.take (posA (keyC (qds c)) S)++qds c::S.drop (posA (keyC (qds c)) S)) (by simp at h;omega) (by simp[hAR]);generalize qlm K0 K1 f=ag at ih ⊢;have hlen:l.length=A.length+(R.length+1):=by rw[hAR];simp
   have hW:=hw c (by rw[hAR];simp);have hB:=qhe hW;obtain⟨hk1,hk2⟩:=xbr6 hW;obtain⟨t,b,k,rfl,hs⟩:=hW;refine qas (by omega) (qa3 (by omega) hc ?_);dsimp only;refine qam (c:=qhl .i64 _&&(qbi .u8 _&&(qcm 3 _&&true))) rfl (qam hs ?_);show cond (!decide ((qa7 [.int .i64 t,.sli .u8 b,.slg 3 k]).2=0)) _ _=_;refine qbb (fun hn=> ?_) fun hn=> ?_
   ·rw[if_neg];intro h;rw[zaj] at h;exact hn (of_decide_eq_true (h _ (zac hc)))
   ·have ih:=ih (fun c hc=>by
     rcases zak.1 hc with h|h
     ·exact hA c h
     ·rw[zch.1 h];exact hn) (by rw[List.map_append,zbz,List.map_nil,q3o, <- hS])
    have hbl:qt7 (qa7 [.int .i64 t,.sli .u8 b,.slg 3 k]).1=true:=by
     obtain⟨_,_,_,w,e,hw⟩:=hB;have:w=(qa7 [.int .i64 t,.sli .u8 b,.slg 3 k]).1:=by unfold qds at e;simp only[cell1,zbe,zaz,CV.agg.injEq,zbk,CV.sli.injEq,and_true] at e;exact e.2.2.2.2.symm
     rw[<- this];exact qpr (by have:=(qav hw).1;omega)
    have hkey:keyC (qds (.agg [.int .i64 t,.sli .u8 b,.slg 3 k]))=(qa7 [.int .i64 t,.sli .u8 b,.slg 3 k]).1:=hk1;rw[hkey] at ih;rw[qab];have hple:=qw1 (qa7 [.int .i64 t,.sli .u8 b,.slg 3 k]).1 S;refine(xbva _ l S.length (A.length:Int) (qa7 [.int .i64 t,.sli .u8 b,.slg 3 k]).1 hbl (S.map xbec) S (by omega) FUEL 0 (by unfold FUEL;omega) (by omega)).trans ?_;generalize (qa7 [.int .i64 t,.sli .u8 b,.slg 3 k]).1=w at*;generalize hp:posA w S=p at*;simp only[zaz,Int.toNat_natCast,za1,xbmh];have hlp:((S.map txt).take p).length<=2000:=by simp;omega
    refine qas (by omega) (qas (by omega) (qlx (by simp;omega) (by simp;omega) (qlx (by simp;omega) (by simp;omega) (qas (by omega) (qas (by omega) (qlx (by simp;omega) (by simp;omega) (qas (by omega) (qas (by omega) (qlx (by simp;omega) (by simp;omega) ?_)))))))));refine qa3 (by omega) hc ?_;refine qam (c:=qhl .i64 _&&(qbi .u8 _&&(qcm 3 _&&true))) rfl (qlx (by simp;omega) (by simp;omega) (qas (by omega) (qas (by omega) (qlx (by simp;omega) (by simp;omega) ?_))));rw[show IntKind.i64.wrap ((A.length:Int)+1)=(((A++[CV.agg [.int .i64 t,.sli .u8 b,.slg 3 k]]).length:Nat):Int) from(i64_in _ (by omega)).trans (by simp)];rw[xbhg,xbhg,hk2] at ih;refine(xbi6 (by simp) (by simp) (za7 _ _ _) ((za7 _ _ _).trans ?_)).trans ih;show _++CV.sli .u8 w::_=_++CV.sli .u8 (keyC _)::_;rw[hkey];rfl
theorem xbua(l:List CV)(hp:xbe4 l=true):xbn4 l=zR [.cl (.agg [.int .i64 (vSet l).1,.sli .u8 qbv,.slg 3 (vSet l).2.1]),.cl (.int .i64 (vSet l).2.2)] []:=by obtain⟨hl,hw⟩:=xbas hp;unfold xbn4;rw[qab];refine(xbhz _ _ l hl hw FUEL [] l [] (by unfold FUEL;omega) rfl (fun c hc=>by simp at hc) rfl).trans ?_;unfold vSet q0w qbv;simp only[qab];split<;>rfl
open IntWalk (i64_in u8_in u32_in u64_in i64_quo u8_quo rem_in)
open IntWalk (i64_in u8_in u32_in u64_in i64_quo u8_quo rem_in)
theorem xbby: ∀ {k m:Nat} {y:List CV},isTf k y=true->k<=m->isTf m y=true
 | k,m,y,hy,hkm=>by obtain⟨k',t,b,l,rfl,rfl,hb,hl⟩:=qcu hy;obtain⟨m,rfl⟩: ∃q,m=q+1:=⟨m - 1,by omega⟩;refine xbv5 hb fun c hc=> ?_;obtain⟨z,rfl,hz⟩:=hl c hc;exact⟨z,rfl,xbby hz (by omega)⟩
open IntWalk (i64_in u8_in u32_in u64_in i64_quo u8_quo rem_in)
theorem xbkb{g:Int}{b:List Int}(h:(qce g b).2.2=0):qbq g b=true/\qce g b=(g,b,0):=by
 cases hd:qbq g b with
 | true=>exact⟨rfl,qqy hd⟩
 | false=>rw[qvl hd] at h;cases h
theorem xbn8{o:List Int}(hr: ∀n∈o,inU n)(h:(qce 6 (qai o)).2.2=0):qnj (qce 6 (qai o)).1 (qce 6 (qai o)).2.1 qke=(o,0):=by
 obtain⟨h1,h2⟩:=xbkb h;rw[h2];unfold qnj;rw[qab,if_pos (xbik rfl (by rw[qg5];rfl) h1)];have e:qai o=qbx o:=qab _;by_cases hf:qbc o=true
 ·unfold qb7;rw[qab,e];exact qr4 hf hr
 ·rw[e] at h1;unfold qbx at h1;rw[if_neg hf] at h1;exact absurd h1 (by decide)
end Go.Proofs.YtoiikagnjcjccaaGreatDoorA
