/-
 What the layers below come to (their lemmas, as far as this seat needs them). Conditions: each function's own.
-/
import Derived.Test.YtoiikagnjcjccaaGreatDoorT2a
import Derived.Test.YtoiikagnjcjccaaGreatDoorT2b
import Derived.Test.YtoiikagnjcjccaaGreatDoorT2c
import Derived.Test.YtoiikagnjcjccaaGreatDoorT3a
import Derived.IntWalk
set_option linter.unusedVariables false
set_option linter.unusedSimpArgs false
set_option maxRecDepth 100000
namespace Go.Proofs.YtoiikagnjcjccaaGreatDoorA
open IntWalk (i64_in u8_in u32_in u64_in i64_quo u8_quo rem_in)
theorem q4u(rk d:Nat)(deep ta:Int)(ba:List Int)(hd:1<=deep/\deep<=1000)(hdd:deep.toNat=d+1)(ka:List CV)(hlen:ka.length<=30000)(hall: ∀c∈ka, ∃y,c=.agg y/\isTf rk y=true/\qds rk y+1<=30000): ∀(f i:Nat) (s:Int) (rows:List CV),i<=ka.length->ka.length<f+i->0<=s->s+sumL (fun c=>(qam rk (cell1 c)).1) (ka.drop i)<=150000->rows.length=i->
  qgg rk (fun _ _ _ _ _ _ _ _ _ _ _ _ _ _ _ _ _ _ _ _ _ _ _ _ _ _ _ _ _ _ _ _ _ _=>badW) (fun _ _ _ _ _ _ _ _ _ _ _ _ _ _ _ _ _ _ _ _ _ _ _ _ _ _ _ _ _ _ _ _ _ _ _ _=>badW) (fun _ _ y79 _ _ _ _ y84 _ _ y87=>finW y84 y79 y87) f deep rows.length s i ta ba ka rows=if(ka.drop i).all (fun c=>okF rk d (cell1 c)&&(qam rk (cell1 c)).2)=true then finW ta (s+sumL (fun c=>(qam rk (cell1 c)).1) (ka.drop i)) (rows++(ka.drop i).map fun c=>.sli .u8 (qam rk (cell1 c)).1) else badW
 | 0,i,s,rows,hi,hf,_,_,_=>by omega
 | f+1,i,s,rows,hi,hf,h0,hs,hr=>by
  show qg8 rk (qgg rk (fun _ _ _ _ _ _ _ _ _ _ _ _ _ _ _ _ _ _ _ _ _ _ _ _ _ _ _ _ _ _ _ _ _ _=>badW) (fun _ _ _ _ _ _ _ _ _ _ _ _ _ _ _ _ _ _ _ _ _ _ _ _ _ _ _ _ _ _ _ _ _ _ _ _=>badW) (fun _ _ y79 _ _ _ _ y84 _ _ y87=>finW y84 y79 y87) f) (fun _ _ _ _ _ _ _ _ _ _ _ _ _ _ _ _ _ _ _ _ _ _ _ _ _ _ _ _ _ _ _ _ _ _=>badW) (fun _ _ _ _ _ _ _ _ _ _ _ _ _ _ _ _ _ _ _ _ _ _ _ _ _ _ _ _ _ _ _ _ _ _ _ _=>badW) (fun _ _ y79 _ _ _ _ y84 _ _ y87=>finW y84 y79 y87) deep rows.length s i ta ba ka rows=_;unfold qg8;obtain⟨R,hR⟩: ∃R:Option Out,R=if(ka.drop i).all (fun c=>okF rk d (cell1 c)&&(qam rk (cell1 c)).2)=true then finW ta (s+sumL (fun c=>(qam rk (cell1 c)).1) (ka.drop i)) (rows++(ka.drop i).map fun c=>.sli .u8 (qam rk (cell1 c)).1) else badW:=⟨_,rfl⟩
  rw[<- hR];refine qac (fun h=> ?_) fun h=> ?_
  ·obtain⟨c,hc⟩:=qaz (b:=ka) (i:=i) (by omega);obtain⟨y,rfl,hy,hyb⟩:=hall c (zac hc);have ed:ka.drop i=.agg y::ka.drop (i+1):=by obtain⟨hlt,e⟩:=zad.1 hc;rw[zbf hlt,e]
   refine qas (by omega) (qas h ?_);rw[show(i:Int).toNat=i from rfl,hc,zag];obtain⟨m,t,b,l,hm,hye,_⟩:=qch hy;simp only[cell1,hye,zb6,zcj];refine qak rfl ?_;simp only[show IntKind.i64.wrap (deep - 1)=deep - 1 from i64_in _ (by omega),qfi,qbb,qca];refine qak ?_ ?_
   ·simp only[zab];exact⟨q3s (hye▸hy) (hye▸(by omega)),qo1 (by omega)⟩
   ·have e:qfd [.int .i64 t,.sli .u8 b,.slg 3 l] (deep - 1)=if okF rk d y=true/\(qam rk y).2=true then((qam rk y).1,true) else([],false):=by rw[<- hye,qnt hy,show(deep - 1).toNat=d by omega]
    have es:sumL (fun c=>(qam rk (cell1 c)).1) (ka.drop i)=((qam rk y).1.length:Int)+sumL (fun c=>(qam rk (cell1 c)).1) (ka.drop (i+1)):=by rw[ed];rfl
    have hpos:=(qwq (fun c=>(qam rk (cell1 c)).1) ka (i+1)).1;rw[es] at hs hR;have em:((ka.drop i).map fun c=>CV.sli .u8 (qam rk (cell1 c)).1)=.sli .u8 (qam rk y).1::(ka.drop (i+1)).map fun c=>.sli .u8 (qam rk (cell1 c)).1:=by rw[ed];rfl
    have ea:(ka.drop i).all (fun c=>okF rk d (cell1 c)&&(qam rk (cell1 c)).2)=((okF rk d y&&(qam rk y).2)&&(ka.drop (i+1)).all (fun c=>okF rk d (cell1 c)&&(qam rk (cell1 c)).2)):=by rw[ed,zc4];rfl
    rw[ea,em] at hR;by_cases hok:okF rk d y=true/\(qam rk y).2=true
    ·rw[if_pos hok] at e;rw[hok.1,hok.2,Bool.and_self,zcf] at hR;simp only[e];refine q2v rfl ?_;rw[show IntKind.i64.wrap (s+((qam rk y).1.length:Int))=s+((qam rk y).1.length:Int) from i64_in _ (by omega)];refine qdt (by omega) ?_;refine qew (by simp only[zah,zbu];omega) (qew (by simp only[zah,zbu];omega) ?_);rw[show IntKind.i64.wrap ((i:Int)+1)=((i+1:Nat):Int) from(i64_in _ (by omega)).trans (by omega)];refine(q4u rk d deep ta ba hd hdd ka hlen hall f (i+1) _ _ (by omega) (by omega) (by omega) (by omega) (by simp only[zah,zbu];omega)).trans ?_;rw[hR,Int.add_assoc,za6];rfl
    ·rw[if_neg hok] at e;simp only[e];refine qak rfl ?_;rw[hR,if_neg (by intro h;simp only[zab] at h;exact hok h.1)]
  ·rw[za2 (by omega)] at hR;rw[hR];show finW ta s rows=if([]:List CV).all (fun c=>okF rk d (cell1 c)&&(qam rk (cell1 c)).2)=true then finW ta (s+0) (rows++[]) else _
   rw[if_pos (by rfl),Int.add_zero,za9]
theorem xbcg(n:Nat)(l:List CV):(l.map fun c=>CV.sli .u8 (qam n (cell1 c)).1)=(l.map fun c=>(qam n (cell1 c)).1).map (CV.sli .u8):=by rw[zcg];rfl
theorem xbrn(rk:Nat)(ta:Int)(ba:List Int)(ka:List CV)(deep:Int)(hp:(isSr (rk+1) [.int .i64 ta,.sli .u8 ba,.slg 3 ka]&&qkd deep)=true):q95 rk ta ba ka deep=zR [.cl (.sli .u8 (qfd [.int .i64 ta,.sli .u8 ba,.slg 3 ka] deep).1),.cl (.bool (qfd [.int .i64 ta,.sli .u8 ba,.slg 3 ka] deep).2)] []:=by
 simp only[zab] at hp;obtain⟨ht,hb⟩:=qjm hp.1;have hd:=qso hp.2;obtain⟨h1,h2,h3,h4,h5⟩:=qn7 ht hb;rw[qnt ht];have bad: ∀P:Prop,[Decidable P]-> ¬P->∀q:List Int×Bool,badW=zR [.cl (.sli .u8 (if P then q else([],false):List Int×Bool).1),.cl (.bool (if P then q else([],false):List Int×Bool).2)] []:=fun P _ h q=>by rw[if_neg h];rfl
 unfold q95 qft qcb qgb;simp only[qab];refine qac (fun h=> ?_) fun h=> ?_
 ·subst h;exact bad _ (fun e=>absurd e.1 zb8) _
 obtain⟨d,hdd⟩: ∃d,deep.toNat=d+1:=⟨deep.toNat - 1,by omega⟩;rw[hdd];refine qf7 (fun hk=> ?_) fun hk=> ?_
 ·exact bad _ (fun e=>by obtain⟨_,_,h,_⟩:=qi4 e.1;simp[h] at hk) _
 have hk:qbm ta=true:=by simpa using hk
 have hflen:=flat5 (n:=rk) (l:=ka) (B:=30000) (fun c hc=>by obtain⟨y,e,hy,_⟩:=h4 c hc;exact⟨y,e,hy⟩) (by omega);refine qf7 (fun hx=> ?_) fun hx=> ?_
 ·have hx:qay ta=false:=by simpa using hx
  refine qac (fun hka=> ?_) fun hka=> ?_
  ·exact bad _ (fun e=>by
    obtain⟨_,_,_,h|h⟩:=qi4 e.1
    ·simp[hx] at h
    ·rw[h.2.1] at hka;simp at hka) _
  ·obtain rfl:ka=[]:=zal (by omega);refine qdt (by omega) (qak (qck (by omega) h3) ?_);refine qf7 (fun hf=> ?_) fun hf=> ?_
   ·exact bad _ (fun e=>by
     obtain⟨_,_,_,h|h⟩:=qi4 e.1
     ·simp[hx] at h
     ·simp[h.2.2] at hf) _
   ·have hf:qbo ta ba=true:=by simpa using hf
    have hok:okF (rk+1) (d+1) [.int .i64 ta,.sli .u8 ba,.slg 3 []]=true:=by show(qbm ta&&(if qay ta=true then _ else decide (([]:List CV)=[])&&qbo ta ba))=true;rw[if_neg (by simp[hx]),hk,hf];rfl
    rw[qh4 hx,if_pos ⟨hok,rfl⟩];have hr:=qkw ta (ba.length:Nat);have hr2:=qdm (ba.length:Nat);unfold qc6;simp only[qab];have:=qjn hk;refine qak (by unfold qke;rw[qab];exact decide_eq_true (by omega)) (qew (by simp only[zah];omega) (qew (by simp only[zah];omega) rfl))
 ·have hx:qay ta=true:=by simpa using hx
  refine qac (fun hba=> ?_) fun hba=> ?_
  ·exact bad _ (fun e=>by
    obtain⟨_,_,_,h|h⟩:=qi4 e.1
    ·rw[h.2.1] at hba;simp at hba
    ·simp[hx] at h) _
  ·obtain rfl:ba=[]:=zal (by omega);refine(q4u rk d deep ta [] (by omega) hdd ka (by omega) h4 FUEL 0 0 [] (by omega) (by unfold FUEL;omega) (by omega) (by rw[zbw,qd3];omega) rfl).trans ?_;rw[zbw,qd3,Int.zero_add,za0,xbcg];by_cases ha:(ka.all fun c=>okF rk d (cell1 c)&&(qam rk (cell1 c)).2)=true
   ·rw[if_pos ha];simp only[zai,zab] at ha;have hok:okF (rk+1) (d+1) [.int .i64 ta,.sli .u8 [],.slg 3 ka]=true:=by show(qbm ta&&(if qay ta=true then decide (([]:List Int)=[])&&ka.all fun c=>okF rk d (cell1 c) else _))=true;rw[if_pos hx,hk];simp only[zcf,decide_true,zai];exact fun c hc=>(ha c hc).1
    rw[xbyu (qjn hk) (by rw[zam];omega) (xbsw h4 fun c hc=>(ha c hc).1) (by omega),qjg hx];have h2':(ka.all fun c=>(qam rk (cell1 c)).2)=true:=by simp only[zai];exact fun c hc=>(ha c hc).2
    rw[h2',zcf];by_cases hs:(!(decide (ta=49))|| qbg (ka.map fun c=>(qam rk (cell1 c)).1))=true
    ·rw[if_pos hs,if_pos ⟨hok,hs⟩]
    ·rw[if_neg hs];exact bad _ (fun e=>hs e.2) _
   ·rw[if_neg ha];refine bad _ (fun e=>ha ?_) _;obtain⟨d',e1,_,h|h⟩:=qi4 e.1
    ·obtain rfl:d=d':=by omega
     have e2:=e.2;rw[qjg hx] at e2;simp only[zab,zai] at e2 ⊢;exact fun c hc=>⟨h.2.2 c hc,e2.1 c hc⟩
    ·simp[hx] at h
open IntWalk (i64_in u8_in u32_in u64_in i64_quo u8_quo rem_in)
theorem q27(rk d:Nat)(ta:Int)(ba:List Int)(ka kb:List CV)(hlen:ka.length<=30000)(hall: ∀c∈ka, ∃y,c=.agg y/\isTf rk y=true/\qds rk y+1<=30000)(hok: ∀c∈ka,okF rk d (cell1 c)=true): ∀(f i:Nat) (s:Int),i<=ka.length->ka.length<f+i->0<=s->s+sumL (fun c=>(qam rk (cell1 c)).1) (ka.drop i)<=150000->
  qie rk (fun _ _ _ _ _ _ _ _ _ _ _ _ _ _ _ _ _ _ _ _ _ _ _ _ _ _ _ _ _ _ _=>badW) (fun _ y37 _ _ _ y41 _ _ y44=>finW y41 y37 y44) f ka.length s ka (ka.length:Int) i ta ba kb (((ka.take i).map fun c=>CV.sli .u8 (qam rk (cell1 c)).1)++List.replicate (ka.length - i) (.sli .u8 []))=if(ka.drop i).all (fun c=>(qam rk (cell1 c)).2)=true then finW ta (s+sumL (fun c=>(qam rk (cell1 c)).1) (ka.drop i)) (ka.map fun c=>.sli .u8 (qam rk (cell1 c)).1) else badW
 | 0,i,s,hi,hf,_,_=>by omega
 | f+1,i,s,hi,hf,h0,hs=>by
  show qjq rk (qie rk (fun _ _ _ _ _ _ _ _ _ _ _ _ _ _ _ _ _ _ _ _ _ _ _ _ _ _ _ _ _ _ _=>badW) (fun _ y37 _ _ _ y41 _ _ y44=>finW y41 y37 y44) f) (fun _ _ _ _ _ _ _ _ _ _ _ _ _ _ _ _ _ _ _ _ _ _ _ _ _ _ _ _ _ _ _=>badW) (fun _ y37 _ _ _ y41 _ _ y44=>finW y41 y37 y44) ka.length s ka (ka.length:Int) i ta ba kb (((ka.take i).map fun c=>CV.sli .u8 (qam rk (cell1 c)).1)++List.replicate (ka.length - i) (.sli .u8 []))=_;unfold qjq;obtain⟨R,hR⟩: ∃R:Option Out,R=if(ka.drop i).all (fun c=>(qam rk (cell1 c)).2)=true then finW ta (s+sumL (fun c=>(qam rk (cell1 c)).1) (ka.drop i)) (ka.map fun c=>.sli .u8 (qam rk (cell1 c)).1) else badW:=⟨_,rfl⟩
  rw[<- hR];obtain⟨W,hW⟩: ∃W:List CV,W=((ka.take i).map fun c=>CV.sli .u8 (qam rk (cell1 c)).1)++List.replicate (ka.length - i) (.sli .u8 []):=⟨_,rfl⟩;rw[<- hW];refine qac (fun h=> ?_) fun h=> ?_
  ·obtain⟨c,hc⟩:=qaz (b:=ka) (i:=i) (by omega);obtain⟨y,rfl,hy,hyb⟩:=hall c (zac hc);have hoky:okF rk d y=true:=hok _ (zac hc);have ed:ka.drop i=.agg y::ka.drop (i+1):=by obtain⟨hlt,e⟩:=zad.1 hc;rw[zbf hlt,e]
   refine qas (by omega) (qas h ?_);rw[show(i:Int).toNat=i from rfl,hc,zag];obtain⟨m,t,b,l,hm,hye,_⟩:=qch hy;have hset:W.set (0+i) (.sli .u8 (qam rk y).1)=((ka.take (i+1)).map fun c=>CV.sli .u8 (qam rk (cell1 c)).1)++List.replicate (ka.length - (i+1)) (.sli .u8 []):=by
    rw[hW,za1,List.set_append_right _ _ (by simp;omega)];have e1:i - ((ka.take i).map fun c=>CV.sli .u8 (qam rk (cell1 c)).1).length=0:=by simp;omega
    rw[e1,show ka.length - i=(ka.length - (i+1))+1 by omega,List.replicate_succ,List.set_cons_zero];have e2:ka.take (i+1)=ka.take i++[.agg y]:=by rw[List.take_add_one,hc];rfl
    rw[e2,List.map_append,za6];rfl
   simp only[cell1,hye,zb6,zcj];refine qak rfl ?_;simp only[qfi,qbb,qca];refine qak ?_ ?_
   ·exact xbja ⟨hye▸hy,hye▸(by omega),d,hye▸hoky⟩
   ·have e:qi2 [.int .i64 t,.sli .u8 b,.slg 3 l]=if(qam rk y).2=true then((qam rk y).1,true) else([],false):=by rw[<- hye,qq2 hy]
    have es:sumL (fun c=>(qam rk (cell1 c)).1) (ka.drop i)=((qam rk y).1.length:Int)+sumL (fun c=>(qam rk (cell1 c)).1) (ka.drop (i+1)):=by rw[ed];rfl
    have hpos:=(qwq (fun c=>(qam rk (cell1 c)).1) ka (i+1)).1;rw[es] at hs hR;have ea:(ka.drop i).all (fun c=>(qam rk (cell1 c)).2)=((qam rk y).2&&(ka.drop (i+1)).all (fun c=>(qam rk (cell1 c)).2)):=by rw[ed,zc4];rfl
    rw[ea] at hR;by_cases hk:(qam rk y).2=true
    ·rw[if_pos hk] at e;rw[hk,zcf] at hR;simp only[e];refine q2v rfl ?_;rw[show IntKind.i64.wrap (s+((qam rk y).1.length:Int))=s+((qam rk y).1.length:Int) from i64_in _ (by omega)];refine qas (by omega) (qas h ?_);rw[hset,show IntKind.i64.wrap ((i:Int)+1)=((i+1:Nat):Int) from(i64_in _ (by omega)).trans (by omega)];refine(q27 rk d ta ba ka kb hlen hall hok f (i+1) _ (by omega) (by omega) (by omega) (by omega)).trans ?_;rw[hR,Int.add_assoc]
    ·rw[if_neg hk] at e;simp only[e];refine qak rfl ?_;rw[hR,if_neg (by intro h;simp only[zab] at h;exact hk h.1)]
  ·obtain rfl:i=ka.length:=by omega
   rw[za2 (zar _)] at hR;rw[hR,hW,zb4,Nat.sub_self];show finW ta s ((ka.map fun c=>CV.sli .u8 (qam rk (cell1 c)).1)++[])=if([]:List CV).all (fun c=>(qam rk (cell1 c)).2)=true then finW ta (s+0) _ else _
   rw[if_pos (by rfl),Int.add_zero,za9]
theorem xbra(rk:Nat)(ta:Int)(ba:List Int)(ka:List CV)(hp:isWr (rk+1) [.int .i64 ta,.sli .u8 ba,.slg 3 ka]=true):q9m rk ta ba ka=zR [.cl (.sli .u8 (qi2 [.int .i64 ta,.sli .u8 ba,.slg 3 ka]).1),.cl (.bool (qi2 [.int .i64 ta,.sli .u8 ba,.slg 3 ka]).2)] []:=by
 obtain⟨ht,hb,d,hok⟩:=qvb hp;obtain⟨h1,h2,h3,h4,h5⟩:=qn7 ht hb;obtain⟨d',rfl,hk,h⟩:=qi4 hok;rw[qq2 ht];unfold q9m qcb;simp only[qab];rcases h with⟨hx,rfl,hall⟩|⟨hx,rfl,hf⟩
 ·have hflen:=flat5 (n:=rk) (l:=ka) (B:=30000) (fun c hc=>by obtain⟨y,e,hy,_⟩:=h4 c hc;exact⟨y,e,hy⟩) (by simp only[zbt] at h5;omega);refine q2v (by simp[hx]) (qas (by omega) (qas (by omega) (qas (by unfold LIM;omega) (qas (by unfold LIM;omega) ?_))));refine(q27 rk d' ta [] ka ka (by omega) h4 hall FUEL 0 0 (by omega) (by unfold FUEL;omega) (by omega) (by rw[zbw,qd3];omega)).trans ?_;rw[zbw,qd3,Int.zero_add,xbcg,qjg hx];by_cases ha:(ka.all fun c=>(qam rk (cell1 c)).2)=true
  ·rw[if_pos ha,xbyu (qjn hk) (by rw[zam];omega) (xbsw h4 hall) (by omega),ha,zcf];by_cases hs:(!(decide (ta=49))|| qbg (ka.map fun c=>(qam rk (cell1 c)).1))=true
   ·rw[if_pos hs,if_pos hs]
   ·rw[if_neg hs,if_neg hs];rfl
  ·rw[if_neg ha];have hf:(ka.all fun c=>(qam rk (cell1 c)).2)=false:=by simpa using ha
   rw[hf,Bool.false_and];rfl
 ·have hr:=qkw ta (ba.length:Nat);have hr2:=qdm (ba.length:Nat);have:=qjn hk;unfold qc6;simp only[qab];rw[qh4 hx];refine qak (by simp[hx]) (qak (by unfold qke;rw[qab];exact decide_eq_true (by omega)) (qew (by simp only[zah];omega) (qew (by simp only[zah];omega) rfl)))
theorem xbrl(ta:Int)(ba:List Int)(ka:List CV)(hp:isS [.int .i64 ta,.sli .u8 ba,.slg 3 ka]=true):q9y ta ba ka=zR [.cl (.sli .u8 (qa0 [.int .i64 ta,.sli .u8 ba,.slg 3 ka]).1),.cl (.int .i64 (qa0 [.int .i64 ta,.sli .u8 ba,.slg 3 ka]).2)] []:=by
 obtain⟨n,ht,hb⟩:=qcc hp;have hl:=qeu ht;unfold q9y;refine qak (by rw[hp,qo1 (by omega)];rfl) ?_;simp only[qnt ht,qdz ht,show(32:Int).toNat=32 from rfl];by_cases h:okF n 32 [.int .i64 ta,.sli .u8 ba,.slg 3 ka]=true/\(qam n [.int .i64 ta,.sli .u8 ba,.slg 3 ka]).2=true
 ·simp only[if_pos h];exact q2v rfl (qdt (by omega) rfl)
 ·simp only[if_neg h];exact qak rfl rfl
theorem xbq6(ta:Int)(ba:List Int)(ka:List CV)(hp:isS [.int .i64 ta,.sli .u8 ba,.slg 3 ka]=true):q9j ta ba ka=zR [.cl (.sli .u8 (qa0 [.int .i64 ta,.sli .u8 ba,.slg 3 ka]).1),.cl (.int .i64 (qa0 [.int .i64 ta,.sli .u8 ba,.slg 3 ka]).2)] []:=by
 obtain⟨n,ht,hb⟩:=qcc hp;have hl:=qeu ht;unfold q9j;refine qak (by rw[hp,qo1 (by omega)];rfl) ?_;rw[qvs ht,show(32:Int).toNat=32 from rfl];by_cases hok:okF n 32 [.int .i64 ta,.sli .u8 ba,.slg 3 ka]=true
 ·simp only[if_pos hok];refine qdt (by omega) (qdt (by omega) (qak (xbv6 ⟨ht,hb,32,hok⟩) ?_));simp only[qq2 ht,qdz ht];by_cases h:(qam n [.int .i64 ta,.sli .u8 ba,.slg 3 ka]).2=true
  ·simp only[if_pos h,if_pos (show okF n 32 [.int .i64 ta,.sli .u8 ba,.slg 3 ka]=true/\(qam n [.int .i64 ta,.sli .u8 ba,.slg 3 ka]).2=true from⟨hok,h⟩)];exact q2v rfl rfl
  ·simp only[if_neg h,if_neg (show ¬(okF n 32 [.int .i64 ta,.sli .u8 ba,.slg 3 ka]=true/\(qam n [.int .i64 ta,.sli .u8 ba,.slg 3 ka]).2=true) from fun e=>h e.2)];exact qak rfl rfl
 ·simp only[if_neg hok,qdz ht,if_neg (show ¬(okF n 32 [.int .i64 ta,.sli .u8 ba,.slg 3 ka]=true/\(qam n [.int .i64 ta,.sli .u8 ba,.slg 3 ka]).2=true) from fun e=>hok e.1)];exact qas (by omega) rfl
theorem q3a{n:Nat}{a:List CV}(ht:isTf n a=true):decide ((qa0 a).2=0)=qou a:=by
 rw[qdz ht,qq0 ht];by_cases h:okF n 32 a=true/\(qam n a).2=true
 ·rw[if_pos h,decide_eq_true h];rfl
 ·rw[if_neg h,decide_eq_false h];rfl
theorem xbwl(ta:Int)(ba:List Int)(ka:List CV)(hp:isS [.int .i64 ta,.sli .u8 ba,.slg 3 ka]=true):xbly ta ba ka=zB (qou [.int .i64 ta,.sli .u8 ba,.slg 3 ka]):=by obtain⟨n,ht,hb⟩:=qcc hp;unfold xbly;exact qak hp (qap (q3a ht))
theorem xbwb(ta:Int)(ba:List Int)(ka:List CV)(hp:isS [.int .i64 ta,.sli .u8 ba,.slg 3 ka]=true):xblu ta ba ka=zB (qou [.int .i64 ta,.sli .u8 ba,.slg 3 ka]):=by obtain⟨n,ht,hb⟩:=qcc hp;unfold xblu;exact qak hp (qap (q3a ht))
open IntWalk (i64_in u8_in u32_in u64_in i64_quo u8_quo rem_in)
theorem xbaj{n:Nat}{c:CV}(h:isNk n c=true): ∃y,c=.agg y/\isNf n y=true:=by
 unfold isNk at h;split at h
 ·exact⟨_,rfl,h⟩
 ·exact absurd h zb8
theorem xbal{n:Nat}{l:List CV}(h:xbi7 n l=true):l.length<=100000000/\∀c∈l, ∃y,c=.agg y/\isNf n y=true:=by unfold xbi7 at h;rw[qab] at h;simp only[zab,decide_eq_true_eq,zai] at h;exact⟨h.1,fun c hc=>xbaj (h.2 c hc)⟩
theorem xbak{n:Nat}{l:List CV}(h1:l.length<=100000000)(h2: ∀c∈l, ∃y,c=.agg y/\isNf n y=true):xbi7 n l=true:=by unfold xbi7;rw[qab];simp only[zab,decide_eq_true_eq,zai];refine⟨h1,fun c hc=> ?_⟩;obtain⟨y,rfl,hy⟩:=h2 c hc;exact hy
theorem q3q{l:List CV}(h:isNs l=true):l.length<=100000000/\∃n, ∀c∈l, ∃y,c=.agg y/\isNf n y=true:=by unfold isNs at h;rw[qab] at h;obtain⟨h1,n,h2⟩:=@of_decide_eq_true _ (Classical.propDecidable _) h;simp only[zai] at h2;exact⟨h1,n,fun c hc=>xbaj (h2 c hc)⟩
theorem xbi6{n:Nat}{l:List CV}(h1:l.length<=100000000)(h2: ∀c∈l, ∃y,c=.agg y/\isNf n y=true):isNs l=true:=by unfold isNs;rw[qab];refine @decide_eq_true _ (Classical.propDecidable _) ⟨h1,n, ?_⟩;simp only[zai];intro c hc;obtain⟨y,rfl,hy⟩:=h2 c hc;exact hy
theorem qhc{a b:List CV}:qq3 a b=true↔a=b:=by unfold qq3;rw[qab];exact @decide_eq_true_iff _ (Classical.propDecidable _)
theorem qoj{a b:List CV}:qq3 a b=false↔ ¬a=b:=by rw[<- Bool.not_eq_true,qhc]
theorem xbpe(rk:Nat)(R:Bool->Option Out)(ka kb:List CV)(hl:ka.length=kb.length)(hka:ka.length<=100000000)(h1: ∀c∈ka, ∃y,c=.agg y/\isNf rk y=true)(n:Nat)(h2: ∀c∈kb, ∃y,c=.agg y/\isNf n y=true): ∀(f i:Nat),i<=ka.length->ka.length<f+i->
  qxw rk (fun _ _ _ _ _ _ _ _ _ _ _ _ _ _ _ _ _ _ _ _ _ _ _ _ _ _ _ _ _ _ _=>R false) (fun _ _ _ _=>R true) f kb ka (ka.length:Int) i=R (@decide (ka.drop i=kb.drop i) (Classical.propDecidable _))
 | 0,i,hi,hf=>by omega
 | f+1,i,hi,hf=>by
  show qvh rk (qxw rk (fun _ _ _ _ _ _ _ _ _ _ _ _ _ _ _ _ _ _ _ _ _ _ _ _ _ _ _ _ _ _ _=>R false) (fun _ _ _ _=>R true) f) (fun _ _ _ _ _ _ _ _ _ _ _ _ _ _ _ _ _ _ _ _ _ _ _ _ _ _ _ _ _ _ _=>R false) (fun _ _ _ _=>R true) kb ka (ka.length:Int) i=_;unfold qvh;refine qac (fun h=> ?_) fun h=> ?_
  ·obtain⟨x,hx⟩:=qaz (b:=ka) (i:=i) (by omega);obtain⟨y,hy⟩:=qaz (b:=kb) (i:=i) (by omega);obtain⟨x',rfl,hx'⟩:=h1 x (zac hx);obtain⟨y',rfl,hy'⟩:=h2 y (zac hy);refine qas (by omega) (qas h ?_);rw[show(i:Int).toNat=i from rfl,hx,zag];obtain⟨m,t,b,l,hm,hxe,_⟩:=qov hx';obtain⟨m',t',b',l',hm',hye,_⟩:=qov hy';simp only[cell1,hxe,hye,zb6,zcj];refine qak rfl (qas (by omega) (qas (by omega) ?_));rw[hy,zag];simp only[cell1,hxe,hye,zb6,zcj];refine qak rfl (qak ?_ ?_)
   ·simp only[zab];exact⟨q3p (hxe▸hx'),xbl3 (n:=n) (hye▸hy')⟩
   have ed:(ka.drop i=kb.drop i)=(x'=y'/\ka.drop (i+1)=kb.drop (i+1)):=by
    have ex:ka.drop i=.agg x'::ka.drop (i+1):=by obtain⟨hlt,e⟩:=zad.1 hx;rw[zbf hlt,e]
    have ey:kb.drop i=.agg y'::kb.drop (i+1):=by obtain⟨hlt,e⟩:=zad.1 hy;rw[zbf hlt,e]
    rw[ex,ey,zbc,CV.agg.injEq]
   refine qf7 (fun h5=> ?_) fun h5=> ?_
   ·have h5: ¬x'=y':=by rw[hxe,hye];exact qd9.1 (by simpa [qfi,qbb,qca] using h5)
    show R false=_;congr 1;symm;rw[@decide_eq_false_iff_not _ (Classical.propDecidable _),ed];exact fun e=>h5 e.1
   ·have h5:x'=y':=by rw[hxe,hye];exact qe3.1 (by simpa [qfi,qbb,qca] using h5)
    rw[show IntKind.i64.wrap ((i:Int)+1)=((i+1:Nat):Int) from(i64_in _ (by omega)).trans (by omega)];refine(xbpe rk R ka kb hl hka h1 n h2 f (i+1) (by omega) (by omega)).trans ?_;congr 1;rw[zbd,@decide_eq_true_iff _ (Classical.propDecidable _),@decide_eq_true_iff _ (Classical.propDecidable _),ed];exact⟨fun e=>⟨h5,e⟩,fun e=>e.2⟩
  ·show R true=_;congr 1;symm;rw[@decide_eq_true_iff _ (Classical.propDecidable _),za2 (by omega),za2 (by omega)]
theorem nEqF(rk:Nat)(a b:List CV)(hp:(xbi7 rk a&&isNs b)=true):gEqF rk a b=zB (qq3 a b):=by
 simp only[zab] at hp;obtain⟨h1,h2⟩:=xbal hp.1;obtain⟨h3,n,h4⟩:=q3q hp.2;unfold gEqF;simp only[qab];refine qa2 (fun h=>qap ?_) fun h=> ?_
 ·symm;rw[qoj];exact fun e=>h (by rw[e])
 ·refine(xbpe rk (fun b=>zB b) a b (by omega) h1 h2 n h4 FUEL 0 (by omega) (by unfold FUEL;omega)).trans (qap ?_);rw[zbd,@decide_eq_true_iff _ (Classical.propDecidable _),qhc];simp only[zbw]
theorem xbwd(rk:Nat)(ta:Int)(ba:List Int)(ka:List CV)(tb:Int)(bb:List Int)(kb:List CV)(hp:(isNr (rk+1) [.int .i64 ta,.sli .u8 ba,.slg 3 ka]&&isN [.int .i64 tb,.sli .u8 bb,.slg 3 kb])=true):xblv rk ta ba ka tb bb kb=zB (qfw [.int .i64 ta,.sli .u8 ba,.slg 3 ka] [.int .i64 tb,.sli .u8 bb,.slg 3 kb]):=by
 simp only[zab] at hp;obtain⟨m,t,b,l,hm,he,hb,hl,hc⟩:=qov (qjl hp.1);obtain⟨n,hn⟩:=qna hp.2;obtain⟨m',t',b',l',hm',he',hb',hl',hc'⟩:=qov hn;simp only[zbc,CV.int.injEq,CV.sli.injEq,CV.slg.injEq,true_and,and_true] at he he';obtain⟨rfl,rfl,rfl⟩:=he;obtain⟨rfl,rfl,rfl⟩:=he';obtain rfl:m=rk:=by omega
 have bad: ¬(ta=tb/\ba=bb/\ka=kb)->false=qfw [.int .i64 ta,.sli .u8 ba,.slg 3 ka] [.int .i64 tb,.sli .u8 bb,.slg 3 kb]:=fun h=>by symm;rw[qd9];simp only[zbc,CV.int.injEq,CV.sli.injEq,CV.slg.injEq,true_and,and_true];exact h
 unfold xblv qa5 qll;simp only[qab];refine qac (fun h=>qak (qib hb) (qac (fun h1=>qak ?_ (qap ?_)) fun h1=>qap (bad fun e=>h1 e.2.1))) fun h=>qap (bad fun e=>h e.1)
 ·rw[xbak hl hc,xbi6 hl' hc'];rfl
 ·rw[zbd,qhc,qe3];simp only[zbc,CV.int.injEq,CV.sli.injEq,CV.slg.injEq,true_and,and_true];exact⟨fun e=>⟨h,h1,e⟩,fun e=>e.2.2⟩
theorem qqd{a:List CV}(h:isS a=true):isN a=true:=by obtain⟨n,hn,hb⟩:=qcc h;exact xbl3 (q1i hn hb)
def lenB(n:Int):List Int:=if n<128 then[n] else if n<256 then[129,n] else if n<65536 then[130,n/ 256,n % 256] else[131,n/ 65536,n/ 256 % 256,n % 256]
theorem qo7(t n:Int):qdv t n=t::lenB n:=rfl
theorem q1a(n:Int):((lenB n).length:Int)=qat n:=by
 unfold lenB qat
 repeat' split
 all_goals rfl
theorem xbqy(n:Int)(h0:0<=n)(h1:n<16777216)(c:List Int):qah (lenB n++c)=(n,qat n):=by
 unfold lenB qat;split
 ·rename_i h;rw[List.singleton_append,qc0,if_pos h]
 ·rename_i h;split
  ·rename_i h2;show qah (129::n::c)=_;rw[qc0,if_neg (by omega),if_neg (by simp only[zaf];omega)];have e:qb9 ((n::c).take (129 - 128:Int).toNat)=n:=by show(0:Int)*256+n=n;omega
   rw[e,if_neg (by simp only[zb6];omega)];rfl
  ·rename_i h2;split
   ·rename_i h3;show qah (130::n/ 256::n % 256::c)=_;rw[qc0,if_neg (by omega),if_neg (by simp only[zaf];omega)];have e:qb9 ((n/ 256::n % 256::c).take (130 - 128:Int).toNat)=n:=by show((0:Int)*256+n/ 256)*256+n % 256=n;omega
    rw[e,if_neg (by simp only[zb6];omega)];rfl
   ·rename_i h3;show qah (131::n/ 65536::n/ 256 % 256::n % 256::c)=_;rw[qc0,if_neg (by omega),if_neg (by simp only[zaf];omega)];have e:qb9 ((n/ 65536::n/ 256 % 256::n % 256::c).take (131 - 128:Int).toNat)=n:=by show(((0:Int)*256+n/ 65536)*256+n/ 256 % 256)*256+n % 256=n;omega
    rw[e,if_neg (by simp only[zb6];omega)];rfl
theorem xbmb{r:List Int}(hb: ∀x∈r,0<=x/\x<=255)(h: ¬(qah r).2=0):r=lenB (qah r).1++r.drop (qah r).2.toNat/\qat (qah r).1=(qah r).2:=by
 match r,hb,h with
 | [],_,h=>exact absurd rfl h
 | c::t,hb,h=>
  have hc:=hb c (zbj ..);rw[qc0] at h ⊢;by_cases h1:c<128
  ·rw[if_pos h1];have e:lenB c=[c]:=by unfold lenB;rw[if_pos h1]
   have e2:qat c=1:=by unfold qat;rw[if_pos h1]
   exact⟨by rw[e];rfl,e2⟩
  ·rw[if_neg h1] at h ⊢;by_cases h2:c=128\/131<c\/(t.length:Int)<c - 128
   ·rw[if_pos h2] at h;exact absurd rfl h
   ·rw[if_neg h2] at h ⊢;by_cases h3:t.headD 0=0\/qb9 (t.take (c - 128).toNat)<128
    ·rw[if_pos h3] at h;exact absurd rfl h
    ·rw[if_neg h3] at h ⊢;have hc3:c=129\/c=130\/c=131:=by omega
     have hbt: ∀(i:Nat) (x:Int),t[i]? =some x->0<=x/\x<=255:=fun i x hx=>hb x (zaw _ (zac hx));rcases hc3 with rfl|rfl|rfl
     ·match t,h2,h3,hbt with
      | [],h2,_,_=>simp at h2
      | x::t,h2,h3,hbt=>
       have hx:=hbt 0 x rfl;have e:qb9 ((x::t).take (129 - 128:Int).toNat)=x:=by show(0:Int)*256+x=x;omega
       rw[e] at h3 ⊢;simp only[zb6] at h3;have e1:lenB x=[129,x]:=by unfold lenB;rw[if_neg (by omega),if_pos (by omega)]
       have e2:qat x=2:=by unfold qat;rw[if_neg (by omega),if_pos (by omega)]
       exact⟨by show _=lenB x++_;rw[e1];rfl,e2⟩
     ·match t,h2,h3,hbt with
      | [],h2,_,_=>simp at h2
      | [_],h2,_,_=>simp at h2
      | x::y::t,h2,h3,hbt=>
       have hx:=hbt 0 x rfl;have hy:=hbt 1 y rfl;have e:qb9 ((x::y::t).take (130 - 128:Int).toNat)=x*256+y:=by show((0:Int)*256+x)*256+y=_;omega
       rw[e] at h3 ⊢;simp only[zb6] at h3;have e1:lenB (x*256+y)=[130,x,y]:=by unfold lenB;rw[if_neg (by omega),if_neg (by omega),if_pos (by omega),show(x*256+y)/ 256=x by omega,show(x*256+y) % 256=y by omega]
       have e2:qat (x*256+y)=3:=by unfold qat;rw[if_neg (by omega),if_neg (by omega),if_pos (by omega)]
       exact⟨by show _=lenB (x*256+y)++_;rw[e1];rfl,e2⟩
     ·match t,h2,h3,hbt with
      | [],h2,_,_=>simp at h2
      | [_],h2,_,_=>simp at h2
      | [_,_],h2,_,_=>simp at h2
      | x::y::z::t,h2,h3,hbt=>
       have hx:=hbt 0 x rfl;have hy:=hbt 1 y rfl;have hz:=hbt 2 z rfl;have e:qb9 ((x::y::z::t).take (131 - 128:Int).toNat)=(x*256+y)*256+z:=by show(((0:Int)*256+x)*256+y)*256+z=_;omega
       rw[e] at h3 ⊢;simp only[zb6] at h3;have e1:lenB ((x*256+y)*256+z)=[131,x,y,z]:=by unfold lenB;rw[if_neg (by omega),if_neg (by omega),if_neg (by omega),show((x*256+y)*256+z)/ 65536=x by omega,show((x*256+y)*256+z)/ 256 % 256=y by omega,show((x*256+y)*256+z) % 256=z by omega]
       have e2:qat ((x*256+y)*256+z)=4:=by unfold qat;rw[if_neg (by omega),if_neg (by omega),if_neg (by omega)]
       exact⟨by show _=lenB ((x*256+y)*256+z)++_;rw[e1];rfl,e2⟩
theorem xbbr{P:List Int->Int×Nd×Int}{t:Int}{r:List Int}(hb:qad r=true)(h:(parse1 P t r).1=0)(rest:List Int):parse1 P t (r++rest)=parse1 P t r:=by
 obtain⟨_,hk,hn⟩:=q7b h;have hr:=xbq0 hb;obtain⟨e1,e2⟩:=xbmb (qax hb).2 (fun e=>hn (.inl e));have hl:qah (r++rest)=qah r:=by
  have:r++rest=lenB (qah r).1++(r.drop (qah r).2.toNat++rest):=by rw[<- za6, <- e1]
  rw[this,xbqy _ hr.1 hr.2.1,e2]
 have hi:((r++rest).drop (qah r).2.toNat).take (qah r).1.toNat=(r.drop (qah r).2.toNat).take (qah r).1.toNat:=by rw[List.drop_append_of_le_length (by omega),List.take_append_of_le_length (by simp only[zat];omega)]
 unfold parse1;rw[hl,hi,if_neg hk,if_neg hk,if_neg hn,if_neg (by simp only[zah];omega)]
theorem xbgg{n:Nat}{b:List Int}(hb:qad b=true)(h:(qsd n b).1=0)(rest:List Int):qsd n (b++rest)=qsd n b:=by
 match n,b,hb with
 | 0,_,_=>rfl
 | n+1,[],_=>exact absurd h (by decide: ¬(1:Int)=0)
 | n+1,t::r,hb=>
  rw[qme] at h ⊢;rw[za8,qme];have hbt:=qkp hb;simp only[zcj] at hbt;exact xbbr hbt h rest
def toNd:List CV->Nd
 | [.int _ t,.sli _ b,.slg _ l]=>(t,b,l)
 | _=>nd0
theorem qs6{f:List Int->Int×Nd×Int}{g:CV->List Int}{nd:CV->Nd}: ∀(l:List CV),(∀c∈l,(∀rest,f (g c++rest)=(0,nd c,((g c).length:Int)))/\g c≠[])->∀m,((l.map g).flatten).length<=m->qkf f m ((l.map g).flatten)=(0,l.map nd,l.map g)
 | [],_,m,_=>xbgh f m
 | c::r,h,m,hm=>by
  obtain⟨h1,h2⟩:=h c (zbj ..);have ih:=qs6 r (fun c' hc=>h c' (zaw _ hc));rw[zbr,zdi] at hm ⊢;have hl:0<(g c).length:=List.length_pos_iff.2 h2;rw[zah] at hm;obtain⟨m,rfl⟩: ∃k,m=k+1:=⟨m - 1,by omega⟩;have hne:g c++(r.map g).flatten≠[]:=fun e=>h2 (List.append_eq_nil_iff.1 e).1;have hz:(f (g c++(r.map g).flatten)).1=0:=by rw[h1]
  rw[xbm4 hne hz,h1];have e1:(g c++(r.map g).flatten).drop ((g c).length:Int).toNat=(r.map g).flatten:=by rw[show((g c).length:Int).toNat=(g c).length from rfl,List.drop_left]
  have e2:(g c++(r.map g).flatten).take ((g c).length:Int).toNat=g c:=by rw[show((g c).length:Int).toNat=(g c).length from rfl,List.take_left]
  rw[e1,e2,ih m (by omega)];rfl
theorem xblj{n:Nat}{x:List CV}(h:isTf n x=true):(qam n x).1≠[]:=by
 obtain⟨n',t,b,l,rfl,rfl,_,_⟩:=qch h
 cases hx:qay t with
 | true=>rw[qjg hx,qo7];simp
 | false=>rw[qh4 hx,qo7];simp
theorem xbr9{n:Nat}{y:List CV}(h:isTf n y=true):ndCV (toNd y)=.agg y:=by obtain⟨n',t,b,l,rfl,rfl,_,_⟩:=qch h;rfl
theorem qx8(P:List Int->Int×Nd×Int){t:Int}{c:List Int}(hc:c.length<16777216)(hk:qbm t=true):
  parse1 P t (lenB (c.length:Nat)++c)=if qay t=false then(if qbo t c=true then(0,(t,c,[]),1+qat (c.length:Nat)+(c.length:Nat)) else(5,nd0,0))
   else if(qkf P c.length c).1=0 then(if t=49/\qbg (qkf P c.length c).2.2=false then(6,nd0,0) else(0,(t,[],(qkf P c.length c).2.1.map ndCV),1+qat (c.length:Nat)+(c.length:Nat))) else((qkf P c.length c).1,nd0,0):=by
 have hl:=q1a (c.length:Nat);have hr:=qdm (c.length:Nat);have hi:((lenB (c.length:Nat)++c).drop (qat (c.length:Nat)).toNat).take (c.length:Int).toNat=c:=by rw[show(qat (c.length:Nat)).toNat=(lenB (c.length:Nat)).length by omega,List.drop_left];exact zb4
 unfold parse1;rw[xbqy _ (by omega) (by omega)];simp only[];rw[hi,if_neg (by simp[hk]),if_neg (by simp only[zah];omega)]
theorem qts: ∀ {n d:Nat} {a:List CV},isTf n a=true->qds n a<=30000->okF n d a=true->(qam n a).2=true->qsd d (qam n a).1=(0,toNd a,(((qam n a).1.length:Nat):Int))
 | n,d,a,hn,hb,hok,hs=>by
  obtain⟨n',t,b,l,rfl,rfl,hbb,hl⟩:=qch hn;obtain⟨h1,h2,h3,h4,h5⟩:=qn7 hn hb;obtain⟨d',rfl,hk,h⟩:=qi4 hok;rcases h with⟨hx,rfl,hall⟩|⟨hx,rfl,hf⟩
  ·have hfl:=flat5 (B:=30000) hl (by omega);rw[qjg hx] at hs ⊢;simp only[zab,zai] at hs;have hp:=qs6 (f:=qsd d') (g:=fun c=>(qam n' (cell1 c)).1) (nd:=fun c=>toNd (cell1 c)) l (fun c hc=>by
    obtain⟨y,rfl,hy,hyb⟩:=h4 c hc;have hwy:=qts (d:=d') hy (by omega) (hall _ hc) (hs.1 _ hc);have hby:qad (qam n' y).1=true:=qck (by have:=qeu hy;omega) (qh2 hy (by omega) (hall _ hc));refine⟨fun rest=> ?_,xblj hy⟩;show qsd d' ((qam n' y).1++rest)=(0,toNd y,_);rw[xbgg hby (by rw[hwy]) rest,hwy];rfl) _ (zar _)
   simp only[qo7,za8];rw[qme,qx8 _ (by omega) hk,if_neg (by simp[hx]),hp];have hss: ¬(t=49/\qbg (l.map fun c=>(qam n' (cell1 c)).1)=false):=fun e=>by have:=hs.2;simp[e.1,e.2] at this
   have hm:(l.map fun c=>toNd (cell1 c)).map ndCV=l:=by rw[zcg];refine(zbx fun c hc=> ?_).trans (List.map_id l);obtain⟨y,rfl,hy,_⟩:=h4 c hc;exact xbr9 hy
   rw[if_pos rfl,if_neg hss,hm];have hll:=q1a (((l.map fun c=>(qam n' (cell1 c)).1).flatten).length:Nat);simp only[toNd,zaf,zah,zbb,true_and];omega
  ·rw[qh4 hx];simp only[qo7,za8];rw[qme,qx8 _ (by omega) hk,if_pos hx,if_pos hf];have hll:=q1a (b.length:Nat);simp only[toNd,zaf,zah,zbb,true_and];omega
theorem xbzo{n:Nat}{t:Int}{b:List Int}{l:List CV}(h1: ∀z∈b,0<=z/\z<=255)(h3: ∀c∈l, ∃y,c=.agg y/\isTf n y=true):isTf (n+1) [.int .i64 t,.sli .u8 b,.slg 3 l]=true:=by show(b.all xbhp&&l.all fun c=>match c with|.agg x=>isTf n x|_=>false)=true;simp only[zab,zai];refine⟨fun z hz=>decide_eq_true (h1 z hz),fun c hc=> ?_⟩;obtain⟨y,rfl,hy⟩:=h3 c hc;exact hy
theorem xbxn{n:Nat}{a:List CV}(h:isTf n a=true):ndL (toNd a)=a:=by obtain⟨n',t,b,l,rfl,rfl,_,_⟩:=qch h;rfl
theorem xbe2{a:List CV}(hs:isS a=true)(hf:qou a=true):(qa0 a).2=0/\qad (qa0 a).1=true/\(qa0 a).1.length<=150000/\qsd 32 (qa0 a).1=(0,toNd a,(((qa0 a).1.length:Nat):Int))/\ndL (toNd a)=a:=by obtain⟨n,hn,hb⟩:=qcc hs;rw[qq0 hn] at hf;have hf:=of_decide_eq_true hf;have hl:=qeu hn;rw[qdz hn,if_pos hf];refine⟨rfl,qck (by show(qam n a).1.length<=_;omega) (qh2 hn hb hf.1),by show(qam n a).1.length<=_;omega,qts hn hb hf.1 hf.2,xbxn hn⟩
open IntWalk (i64_in u8_in u32_in u64_in i64_quo u8_quo rem_in)
theorem q5h{i:Nat}(h:i<=1000000000000):IntKind.i64.wrap ((i:Int)+1)=((i+1:Nat):Int):=(i64_in _ (by omega)).trans (by omega)
open IntWalk (i64_in u8_in u32_in u64_in i64_quo u8_quo rem_in)
theorem qrv{n:Int}(h:u32Ok n=true):0<=n/\n<=4294967295:=by unfold u32Ok at h;rw[qab] at h;exact of_decide_eq_true h
theorem qwt{n:Int}(h:0<=n/\n<=4294967295):u32Ok n=true:=by unfold u32Ok;rw[qab];exact decide_eq_true h
theorem qto{o:List Int}(h:qsh o=true):o.length<=100000000000000/\∀x∈o,0<=x/\x<=4294967295:=by unfold qsh at h;rw[qab] at h;simp only[zab,decide_eq_true_eq,zai] at h;exact⟨h.1,fun x hx=>of_decide_eq_true (h.2 x hx)⟩
theorem c_z{x:Int}{a b:Option Out}(h:x=0):cond (!decide (x=0)) a b=b:=by rw[decide_eq_true h];rfl
theorem c_nz{x:Int}{a b:Option Out}(h:x≠0):cond (!decide (x=0)) a b=a:=by rw[decide_eq_false h];rfl
theorem or128: ∀n:Fin 256,IntKind.u8.wrap ((BitVec.ofInt 8 (n.val:Int)||| BitVec.ofInt 8 128).toNat)=128+(n.val:Int) % 128:=by decide+kernel
theorem xbsp(x:Int):IntKind.u8.wrap ((BitVec.ofInt 8 (IntKind.u8.wrap x)||| BitVec.ofInt 8 128).toNat)=128+x % 128:=by rw[xboo x];have:=or128 ⟨(x % 256).toNat,by omega⟩;simp only[zc5 (show 0<=x % 256 by omega)] at this;rw[this];omega
theorem xbsq(x:Int):IntKind.u8.wrap ((BitVec.ofInt 8 (IntKind.u8.wrap x)&&& ~~~ BitVec.ofInt 8 128).toNat)=x % 128:=by rw[xboo x];have:=(and7 ⟨(x % 256).toNat,by omega⟩).1;simp only[zc5 (show 0<=x % 256 by omega)] at this;rw[this];omega
theorem fd28(n:Int):Int.fdiv n (2 ^ 28)=n/ 268435456:=zb3 _ (by decide)
theorem fd21(n:Int):Int.fdiv n (2 ^ 21)=n/ 2097152:=zb3 _ (by decide)
theorem fd14(n:Int):Int.fdiv n (2 ^ 14)=n/ 16384:=zb3 _ (by decide)
theorem fd7(n:Int):Int.fdiv n (2 ^ 7)=n/ 128:=zb3 _ (by decide)
theorem q9o(f:Nat):gHi f 0=[]:=by cases f<;>rfl
theorem q3g(f:Nat){n:Int}(h:n≠0):gHi (f+1) n=gHi f (n/ 128)++[128+n % 128]:=by
 conv=>lhs;unfold gHi
 rw[if_neg h]
theorem gr1{n:Int}(h:n/ 128=0):qar n=[n % 128]:=by unfold qar;rw[h,q9o];rfl
theorem gr2{n:Int}(h:n/ 128≠0)(h':n/ 16384=0):qar n=[128+n/ 128 % 128,n % 128]:=by unfold qar;rw[q3g 4 h,show n/ 128/ 128=0 by omega,q9o];rfl
theorem gr3{n:Int}(h:n/ 16384≠0)(h':n/ 2097152=0):qar n=[128+n/ 16384 % 128,128+n/ 128 % 128,n % 128]:=by unfold qar;rw[q3g 4 (by omega),q3g 3 (by omega),show n/ 128/ 128/ 128=0 by omega,q9o,show n/ 128/ 128=n/ 16384 by omega];rfl
theorem gr4{n:Int}(h:n/ 2097152≠0)(h':n/ 268435456=0):qar n=[128+n/ 2097152 % 128,128+n/ 16384 % 128,128+n/ 128 % 128,n % 128]:=by unfold qar;rw[q3g 4 (by omega),q3g 3 (by omega),q3g 2 (by omega),show n/ 128/ 128/ 128/ 128=0 by omega,q9o,show n/ 128/ 128/ 128=n/ 2097152 by omega,show n/ 128/ 128=n/ 16384 by omega];rfl
theorem gr5{n:Int}(h:n/ 268435456≠0)(h':0<=n/\n<=4294967295):qar n=[128+n/ 268435456 % 128,128+n/ 2097152 % 128,128+n/ 16384 % 128,128+n/ 128 % 128,n % 128]:=by unfold qar;rw[q3g 4 (by omega),q3g 3 (by omega),q3g 2 (by omega),q3g 1 (by omega),show n/ 128/ 128/ 128/ 128/ 128=0 by omega,q9o,show n/ 128/ 128/ 128/ 128=n/ 268435456 by omega,show n/ 128/ 128/ 128=n/ 2097152 by omega,show n/ 128/ 128=n/ 16384 by omega];rfl
theorem q01{n:Int}(h:0<=n/\n<=4294967295):(n/ 128=0/\n/ 16384=0/\n/ 2097152=0/\n/ 268435456=0)\/(n/ 128≠0/\n/ 16384=0/\n/ 2097152=0/\n/ 268435456=0)\/
  (n/ 128≠0/\n/ 16384≠0/\n/ 2097152=0/\n/ 268435456=0)\/(n/ 128≠0/\n/ 16384≠0/\n/ 2097152≠0/\n/ 268435456=0)\/(n/ 128≠0/\n/ 16384≠0/\n/ 2097152≠0/\n/ 268435456≠0):=by omega
theorem xbre(n:Int)(hp:u32Ok n=true):xbh5 n=zR [.ref 0 0 (qbi n).length true 1] [some ⟨.ints .u8 (qbi n),false⟩]:=by
 have hn:=qrv hp;unfold xbh5 qbi;simp only[qab];unfold q08;simp only[fd28,fd21,fd14,fd7,xbsp,xbsq];rcases q01 hn with⟨h1,h2,h3,h4⟩|⟨h1,h2,h3,h4⟩|⟨h1,h2,h3,h4⟩|⟨h1,h2,h3,h4⟩|⟨h1,h2,h3,h4⟩
 ·rw[c_z h4,c_z h3,c_z h2,c_z h1,gr1 h1];rfl
 ·rw[c_z h4,c_z h3,c_z h2,c_nz h1,gr2 h1 h2];rfl
 ·rw[c_z h4,c_z h3,c_nz h2,c_nz h1,gr3 h2 h3];rfl
 ·rw[c_z h4,c_nz h3,c_nz h2,c_nz h1,gr4 h3 h4];rfl
 ·rw[c_nz h4,c_nz h3,c_nz h2,c_nz h1,gr5 h4 hn];rfl
theorem rm1{l:List Int}{x:Option Out}(h:l.length<=1000000000):rmK l.length 1 x=x:=qmm (by omega) (by omega) rfl
theorem xbrf(m:Nat)(n:Int)(l:List Int)(hp:(u32Ok n&&qr9 l)=true):xbh6 m n l=zR [.ref 1 0 (l++qbi n).length true 1] [none,some ⟨.ints .u8 (l++qbi n),false⟩]:=by
 simp only[zab] at hp;have hn:=qrv hp.1;have hl:=qic hp.2;have rm: ∀(a:List Int) {x:Option Out},a.length<=10->rmK (l++a).length 1 x=x:=fun a x h=>rm1 (by simp;omega);unfold xbh6 qbi;simp only[qab];unfold qqg;simp only[fd28,fd21,fd14,fd7,xbsp,xbsq,za6,za8,za0];rcases q01 hn with⟨h1,h2,h3,h4⟩|⟨h1,h2,h3,h4⟩|⟨h1,h2,h3,h4⟩|⟨h1,h2,h3,h4⟩|⟨h1,h2,h3,h4⟩
 ·rw[c_z h4,c_z h3,c_z h2,c_z h1,gr1 h1,rm _ (by simp)]
 ·rw[c_z h4,c_z h3,c_z h2,c_nz h1,gr2 h1 h2,rm _ (by simp),rm _ (by simp)]
 ·rw[c_z h4,c_z h3,c_nz h2,rm _ (by simp),c_nz h1,rm _ (by simp),gr3 h2 h3,rm _ (by simp)]
 ·rw[c_z h4,c_nz h3,rm _ (by simp),c_nz h2,rm _ (by simp),c_nz h1,rm _ (by simp),gr4 h3 h4,rm _ (by simp)]
 ·rw[c_nz h4,rm _ (by simp),c_nz h3,rm _ (by simp),c_nz h2,rm _ (by simp),c_nz h1,rm _ (by simp),gr5 h4 hn,rm _ (by simp)]
theorem xbzb: ∀(f g:Nat) (n:Int) (l:List Int),0<=n->n<=4294967295->n<128 ^ g->g<f->l.length+g<=100->
  qg6 (fun y4 y5=>zR [.ref 0 0 y4 true 1] [some ⟨.ints .u8 y5,false⟩]) f n l.length l=zR [.ref 0 0 (gHi g n++l).length true 1] [some ⟨.ints .u8 (gHi g n++l),false⟩]
 | 0,g,n,l,_,_,_,h,_=>by omega
 | f+1,g,n,l,h0,hb,h1,hg,hl=>by
  show qii (qg6 (fun y4 y5=>zR [.ref 0 0 y4 true 1] [some ⟨.ints .u8 y5,false⟩]) f) (fun y4 y5=>zR [.ref 0 0 y4 true 1] [some ⟨.ints .u8 y5,false⟩]) n l.length l=_;unfold qii;refine qac (fun h=> ?_) fun h=> ?_
  ·obtain⟨g,rfl⟩: ∃g',g=g'+1:=⟨g - 1,by
    cases g with
    | zero=>rw[Int.pow_zero] at h1;omega
    | succ g=>rfl⟩
   rw[Int.pow_succ] at h1;rw[q3g g (by omega)];dsimp only;rw[zcb h0,zca h0,show IntKind.u32.wrap (128+n % 128)=128+n % 128 from u32_in _ (by omega),show IntKind.u32.wrap (n/ 128)=n/ 128 from u32_in _ (by omega),show IntKind.u8.wrap (128+n % 128)=128+n % 128 from u8_in _ (by omega)];rw[show[128+n % 128]++l=(128+n % 128)::l from rfl];refine qmm (by simp;omega) (by simp;omega) ?_;refine(xbzb f g (n/ 128) ((128+n % 128)::l) (by omega) (by omega) (by generalize (128:Int) ^ g=X at*;omega) (by omega) (by simp only[zaf];omega)).trans ?_;simp
  ·have:n=0:=by omega
   subst this;rw[q9o];rfl
theorem xbf3(n:Int)(hp:u32Ok n=true):q3i n=zR [.ref 0 0 (qbi n).length true 1] [some ⟨.ints .u8 (qbi n),false⟩]:=by have hn:=qrv hp;unfold q3i qbi qar;simp only[qab];rw[zcb hn.1,zca hn.1,show IntKind.u32.wrap (n/ 128)=n/ 128 from u32_in _ (by omega),show IntKind.u8.wrap (n % 128)=n % 128 from u8_in _ (by omega)];exact xbzb FUEL 5 (n/ 128) [n % 128] (by omega) (by omega) (by omega) (by unfold FUEL;omega) (by simp)
theorem q02(n:Int):(qar n).length<=6:=by
 have h: ∀(f:Nat) (n:Int),(gHi f n).length<=f:=fun f=>by
  induction f with
  | zero=>intro n;simp[gHi]
  | succ f ih=>
   intro n;unfold gHi;split
   ·simp
   ·have:=ih (n/ 128);simp;omega
 unfold qar;have:=h 5 (n/ 128);simp;omega
theorem qo5(n:Int):qbi n=qar n:=qab _
abbrev bO(y:List Int):Option Out:=zR [.cl (.sli .u8 y)] []
theorem xbzf(r:List Int)(hr: ∀x∈r,0<=x/\x<=4294967295)(hl:r.length<=1000): ∀(f i:Nat) (l:List Int),i<=r.length->r.length<f+i->l.length<=6*(i+1)->
  qlo (fun _ y=>bO y) f l.length r r.length i l=bO (l++(r.drop i).flatMap qar)
 | 0,i,l,hi,hf,_=>by omega
 | f+1,i,l,hi,hf,hll=>by
  show qnc (qlo (fun _ y=>bO y) f) (fun _ y=>bO y) l.length r r.length i l=_;unfold qnc;refine qac (fun h=> ?_) fun h=> ?_
  ·obtain⟨c,hc⟩:=qaz (b:=r) (i:=i) (by omega);refine qa1 (by omega) hc (qak ?_ ?_)
   ·rw[qwt (hr c (zac hc)),qib (by omega)];rfl
   ·have:=q02 c;dsimp only;rw[q5h (by omega),qo5,qdw hc];refine(xbzf r hr hl f (i+1) (l++qar c) (by omega) (by omega) (by simp;omega)).trans ?_;simp
  ·rw[qe7 (by omega)];simp
theorem xbzk(o:List Int)(hr: ∀x∈o,0<=x/\x<=4294967295)(hl:o.length<=1000): ∀(f i:Nat) (l:List Int),i<=o.length->o.length<f+i->l.length<=6*(i+1)->
  qjv (fun _ y=>bO y) f o l.length i l=bO (l++(o.drop i).flatMap qar)
 | 0,i,l,hi,hf,_=>by omega
 | f+1,i,l,hi,hf,hll=>by
  show qkz (qjv (fun _ y=>bO y) f) (fun _ y=>bO y) o l.length i l=_;unfold qkz;refine qac (fun h=> ?_) fun h=> ?_
  ·obtain⟨c,hc⟩:=qaz (b:=o) (i:=i) (by omega);have:=q02 c;refine qa1 (by omega) hc (qak (qwt (hr c (zac hc))) ?_);dsimp only;rw[q5h (by omega),qo5,qdw hc,rm1 (by simp;omega)];refine(xbzk o hr hl f (i+1) (l++qar c) (by omega) (by omega) (by simp;omega)).trans ?_;simp
  ·rw[qe7 (by omega)];simp
theorem qku{o:List Int}(h:qbf o=true): ∃x y r,o=x::y::r/\r.length<=18/\x<=2/\(x<2->y<40)/\y<=4294967215:=by
 match o,h with
 | x::y::r,h=>
  simp only[qbf,zab,zbz,decide_eq_true_eq] at h;exact⟨x,y,r,rfl,h.1,by omega,by omega,by omega⟩
theorem xbrc(o:List Int)(hp:qsh o=true):xbh4 o=zR [.cl (.sli .u8 (qal o))] []:=by
 obtain⟨hl,hr⟩:=qto hp;unfold xbh4 qal qhf qb0;simp only[qab]
 cases hf:qbf o with
 | false=>rfl
 | true=>
  obtain⟨x,y,r,rfl,hr18,hx,hxy,hy⟩:=qku hf;have rx:=hr x (by simp);have ry:=hr y (by simp);rw[if_pos rfl];refine q2v rfl (qas (by simp only[zaf];omega) ?_);simp only[za4,za3,zag];rw[show IntKind.u32.wrap (40*x)=40*x from u32_in _ (by omega),show IntKind.u32.wrap (40*x+y)=40*x+y from u32_in _ (by omega)];refine qas (by simp only[zaf];omega) (qak (qwt (by omega)) (qas (by simp only[zaf];omega) ?_));rw[qo5];have:=q02 (40*x+y);exact xbzf r (fun z hz=>hr z (by simp[hz])) (by omega) FUEL 0 _ (by omega) (by unfold FUEL;omega) (by omega)
theorem xbmn(o:List Int)(hp:qsh o=true):q9v o=zR [.cl (.sli .u8 (qal o))] []:=by
 obtain⟨hl,hr⟩:=qto hp;unfold q9v qal qhf qb0;simp only[qab]
 cases hf:qbf o with
 | false=>rfl
 | true=>
  obtain⟨x,y,r,rfl,hr18,hx,hxy,hy⟩:=qku hf;have rx:=hr x (by simp);have ry:=hr y (by simp);rw[if_pos rfl];refine q2v rfl (qas (by simp only[zaf];omega) ?_);simp only[za4,za3,zag];rw[show IntKind.u32.wrap (40*x)=40*x from u32_in _ (by omega),show IntKind.u32.wrap (40*x+y)=40*x+y from u32_in _ (by omega)];refine qas (by simp only[zaf];omega) (qak (qwt (by omega)) ?_);rw[qo5];have:=q02 (40*x+y);exact xbzk (x::y::r) hr (by simp;omega) FUEL 2 _ (by simp) (by unfold FUEL;simp;omega) (by omega)
open IntWalk (i64_in u8_in u32_in u64_in i64_quo u8_quo rem_in)
theorem xbhv{o:List Int}(h:qbf o=true):2<=o.length/\o.length<=20:=by obtain⟨x,y,r,rfl,h1,_⟩:=qku h;simp;omega
abbrev inU(n:Int):Prop:=0<=n/\n<=4294967295
theorem xbab{n:Int}(h:inU n)(rest:List Int):qan (qar n++rest)=(n,((qar n).length:Int)):=by
 unfold qan;have go: ∀(acc i c:Int) (r:List Int), ¬(i=0/\c=128)->acc<=33554431->128<=c->qbt acc i (c::r)=qbt (acc*128+(c - 128)) (i+1) r:=fun acc i c r h1 h2 h3=>by rw[qpg,if_neg (by rintro(h|h);exact h1 h;omega),if_neg (by omega)]
 have fin: ∀(acc i c:Int) (r:List Int), ¬(i=0/\c=128)->acc<=33554431->c<128->qbt acc i (c::r)=(acc*128+c,i+1):=fun acc i c r h1 h2 h3=>by rw[qpg,if_neg (by rintro(h|h);exact h1 h;omega),if_pos h3]
 rcases q01 h with⟨h1,h2,h3,h4⟩|⟨h1,h2,h3,h4⟩|⟨h1,h2,h3,h4⟩|⟨h1,h2,h3,h4⟩|⟨h1,h2,h3,h4⟩
 ·rw[gr1 h1];simp only[za8,za0,zaf,zbt];rw[fin _ _ _ _ (by omega) (by omega) (by omega)];exact Prod.ext (by simp only[];omega) rfl
 ·rw[gr2 h1 h2];simp only[za8,za0,zaf,zbt];rw[go _ _ _ _ (by omega) (by omega) (by omega),fin _ _ _ _ (by omega) (by omega) (by omega)];exact Prod.ext (by simp only[];omega) rfl
 ·rw[gr3 h2 h3];simp only[za8,za0,zaf,zbt];rw[go _ _ _ _ (by omega) (by omega) (by omega),go _ _ _ _ (by omega) (by omega) (by omega),fin _ _ _ _ (by omega) (by omega) (by omega)];exact Prod.ext (by simp only[];omega) rfl
 ·rw[gr4 h3 h4];simp only[za8,za0,zaf,zbt];rw[go _ _ _ _ (by omega) (by omega) (by omega),go _ _ _ _ (by omega) (by omega) (by omega),go _ _ _ _ (by omega) (by omega) (by omega),fin _ _ _ _ (by omega) (by omega) (by omega)];exact Prod.ext (by simp only[];omega) rfl
 ·rw[gr5 h4 h];simp only[za8,za0,zaf,zbt];rw[go _ _ _ _ (by omega) (by omega) (by omega),go _ _ _ _ (by omega) (by omega) (by omega),go _ _ _ _ (by omega) (by omega) (by omega),go _ _ _ _ (by omega) (by omega) (by omega),fin _ _ _ _ (by omega) (by omega) (by omega)];exact Prod.ext (by simp only[];omega) rfl
theorem xbv5(n:Int):0<(qar n).length:=by unfold qar;simp
theorem xbiu{n:Int}(h:inU n): ∀x∈qar n,0<=x/\x<=255:=by
 have: ∀(f:Nat) (n:Int), ∀x∈gHi f n,0<=x/\x<=255:=fun f=>by
  induction f with
  | zero=>intro n x hx;simp[gHi] at hx
  | succ f ih=>
   intro n x hx;unfold gHi at hx;split at hx
   ·simp at hx
   ·rcases zak.1 hx with hx|hx
    ·exact ih _ x hx
    ·simp at hx;omega
 intro x hx;unfold qar at hx;rcases zak.1 hx with hx|hx
 ·exact this _ _ x hx
 ·simp at hx;omega
theorem q7a{n:Int}(h:inU n)(rest:List Int)(hb:qad (qar n++rest)=true):qcf (qar n++rest)=(n,true)::qcf rest:=by have hp:=xbv5 n;rw[q39 hb,if_neg (fun e=>by rw[List.append_eq_nil_iff] at e;rw[e.1] at hp;simp at hp),xbab h];simp only[];rw[if_neg (by omega),xbqr,List.drop_left]
theorem q37: ∀(l:List Int) (rest:List Int),(∀n∈l,inU n)->qad (l.flatMap qar++rest)=true->qcf (l.flatMap qar++rest)=l.map (fun n=>(n,true))++qcf rest
 | [],rest,_,_=>rfl
 | n::l,rest,h,hb=>by rw[za5,za6] at hb ⊢;rw[q7a (h n (by simp)) _ hb,q37 l rest (fun x hx=>h x (by simp[hx])) (by have:=qbd hb (qar n).length;rwa [List.drop_left] at this)];rfl
def oflat:List Int->List Int
 | x::y::r=>(40*x+y)::r
 | _=>[]
theorem qf9{o:List Int}(h:qbf o=true):qb0 o=(oflat o).flatMap qar:=by obtain⟨x,y,r,rfl,_⟩:=qku h;unfold qb0;rw[if_pos h];simp[oflat]
theorem qvx{o:List Int}(h:qbf o=true)(hr: ∀n∈o,inU n): ∀n∈oflat o,inU n:=by
 obtain⟨x,y,r,rfl,h1,h2,h3,h4⟩:=qku h;intro n hn;have:=hr x (by simp);have:=hr y (by simp);rcases zas.1 hn with rfl|hn
 ·exact⟨by omega,by omega⟩
 ·exact hr n (by simp[hn])
theorem qvw{o:List Int}(h:qbf o=true):(oflat o).length+1=o.length:=by obtain⟨x,y,r,rfl,_⟩:=qku h;rfl
theorem xblk{o:List Int}(hr: ∀n∈o,inU n):qad (qb0 o)=true:=by
 by_cases h:qbf o=true
 ·rw[qf9 h];have hl:=qvw h;have hf:=xbhv h;have hg: ∀(l:List Int),(l.flatMap qar).length<=6*l.length:=fun l=>by
   induction l with
   | nil=>simp
   | cons a l ih=>have:=q02 a;simp at*;omega
  have:=hg (oflat o);refine qck (by omega) fun x hx=> ?_;obtain⟨n,hn,hx⟩:=zb7.1 hx;exact xbiu (qvx h hr n hn) x hx
 ·unfold qb0;rw[if_neg h];exact qck (by simp) (by simp)
theorem xbit: ∀(l o:List Int),o≠[]->o.length+l.length<=21->qr4 (l.map fun n=>(n,true)) o=some (o++l)
 | [],o,_,_=>by simp[qr4]
 | n::l,o,h,hl=>by rw[zbr];unfold qr4;simp only[zaf] at hl;rw[if_neg (by rintro(h|h);cases h;omega),if_neg h,xbit l (o++[n]) (by simp) (by simp;omega)];simp
theorem q6p{x y:Int}(h:qbf [x,y]=true)(hx:inU x)(hy:inU y):qbs (40*x+y)=[x,y]:=by
 simp only[qbf,zab,zbz,decide_eq_true_eq] at h;unfold qbs;rcases h.2 with h|h
 ·rw[if_pos (by omega),show(40*x+y)/ 40=x by omega,show(40*x+y) % 40=y by omega]
 ·rw[if_neg (by omega),h.1,show 40*2+y - 80=y by omega]
theorem qs5{o:List Int}(h:qbf o=true)(hr: ∀n∈o,inU n):qde (qb0 o)=(o,0):=by
 have hok:=xblk hr;have hfl:=xbhv h;rw[qf9 h] at hok ⊢;have e:=q37 (oflat o) [] (qvx h hr) (by rwa [za9]);rw[za9] at e;unfold qde;rw[e,show qcf []=[] from rfl,za9];obtain⟨x,y,r,rfl,h1,h2,h3,h4⟩:=qku h;have hf2:qbf [x,y]=true:=by simp only[qbf,zab] at h ⊢;exact⟨by simp,h.2⟩
 have:qr4 ((oflat (x::y::r)).map fun n=>(n,true)) []=some (x::y::r):=by show qr4 ((40*x+y,true)::r.map fun n=>(n,true)) []=_;unfold qr4;rw[if_neg (by simp),if_pos rfl,q6p hf2 (hr x (by simp)) (hr y (by simp)),xbit r [x,y] (by simp) (by simp at*;omega)];rfl
 rw[this];simp only[];rw[if_pos h]
theorem q9p: ∀(f:Nat) (n:Int),0<=n->n<128 ^ f->gHi f n=gHi (f+1) n
 | 0,n,h0,h=>by
  rw[Int.pow_zero] at h;have:n=0:=by omega
  subst this;rw[q9o,q9o]
 | f+1,n,h0,h=>by
  by_cases hn:n=0
  ·subst hn;rw[q9o,q9o]
  ·rw[q3g _ hn,q3g _ hn,q9p f (n/ 128) (by omega) (by rw[Int.pow_succ] at h;generalize (128:Int) ^ f=X at*;omega)]
theorem qxy: ∀(b:List Int) (acc i n k:Int),(∀x∈b,0<=x/\x<=255)->0<=acc->0<=i->(i=0->acc=0)->(0<i->0<acc)->qbt acc i b=(n,k)->k≠0->gHi 5 acc++b.take (k - i).toNat=qar n
 | [],acc,i,n,k,_,_,_,_,_,h,hk=>by simp[qbt] at h;omega
 | c::b,acc,i,n,k,hb,h0,hi,h1,h2,h,hk=>by
  have hc:=hb c (by simp);rw[qpg] at h;split at h
  ·simp at h;omega
  ·rename_i hn;simp only[not_or,not_and] at hn;split at h
   ·simp only[zbb] at h;obtain⟨rfl,rfl⟩:=h;unfold qar;rw[show(i+1 - i).toNat=1 by omega,show(acc*128+c)/ 128=acc by omega,show(acc*128+c) % 128=c by omega];rfl
   ·have hrng:=qvv b (acc*128+(c - 128)) (i+1) (fun x hx=>hb x (by simp[hx])) (by omega) (by omega);rw[h] at hrng;have hk2:=hrng.2.resolve_left hk;simp only at hk2;have hpos:0<acc*128+(c - 128):=by
     by_cases hi0:i=0
     ·have:=hn.1 hi0;omega
     ·have:=h2 (by omega);omega
    have:=qxy b (acc*128+(c - 128)) (i+1) n k (fun x hx=>hb x (by simp[hx])) (by omega) (by omega) (by omega) (by omega) h hk;rw[q3g 4 (by omega),show(acc*128+(c - 128))/ 128=acc by omega,show 128+(acc*128+(c - 128)) % 128=c by omega,q9p 4 acc h0 (by omega)] at this;rw[<- this,show(k - i).toNat=(k - (i+1)).toNat+1 by omega,zdn];simp
theorem q36: ∀(f:Nat) (b:List Int),qad b=true->b.length<=f->(∀p∈qcv f b,p.2=true)->b=(qcv f b).flatMap fun p=>qar p.1
 | 0,b,_,h,_=>by have:b=[]:=zal (by omega);subst this;rfl
 | f+1,b,hb,hl,hall=>by
  unfold qcv at hall ⊢;by_cases he:b=[]
  ·subst he;rfl
  ·rw[if_neg he] at hall ⊢;by_cases h0:(qan b).2=0
   ·rw[if_pos h0] at hall;have:=hall ((qan b).1,false) (by simp);cases this
   ·rw[if_neg h0] at hall ⊢;have hr:=(qgl hb).2.resolve_left h0;have hg:=qxy b 0 0 (qan b).1 (qan b).2 (qax hb).2 (by omega) (by omega) (fun _=>rfl) (by omega) rfl h0;rw[q9o,za0,Int.sub_zero] at hg;rw[za5, <- hg, <- q36 f (b.drop (qan b).2.toNat) (qbd hb _) (by simp only[zat];omega) (fun p hp=>hall p (by simp[hp]))];exact(List.take_append_drop _ _).symm
theorem xbqj: ∀(l:List (Int×Bool)) (o o':List Int),qr4 l o=some o'->o≠[]->(∀p∈l,p.2=true)/\o'=o++l.map (·.1)
 | [],o,o',h,_=>by simp[qr4] at h;subst h;simp
 | (n,ok)::l,o,o',h,ho=>by
  unfold qr4 at h;rw[if_neg ho] at h;split at h
  ·cases h
  ·rename_i hn;simp only[not_or] at hn;obtain⟨h1,h2⟩:=xbqj l _ o' h (by simp);refine⟨fun p hp=> ?_,by rw[h2];simp⟩;rcases zas.1 hp with rfl|hp
   ·simpa using hn.1
   ·exact h1 p hp
theorem q6g{b:List Int}(hb:qad b=true):(qde b=([],5))\/∃o,qde b=(o,0)/\qbf o=true/\(∀n∈o,inU n)/\qb0 o=b:=by
 unfold qde
 cases hg:qr4 (qcf b) [] with
 | none=>exact .inl rfl
 | some o=>
  simp only[];by_cases hf:qbf o=true
  ·rw[if_pos hf];refine .inr ⟨o,rfl,hf, ?_⟩;have hback:=q36 b.length b hb (zar _);have hrng:=q1k b.length b hb;change (∀p∈qcf b,p.2=true)->b=(qcf b).flatMap _ at hback;change ∀p∈qcf b,_ at hrng
   cases hl:qcf b with
   | nil=>
    rw[hl] at hg;simp[qr4] at hg;subst hg;simp[qbf] at hf
   | cons p l=>
    obtain⟨n,ok⟩:=p;rw[hl] at hg hback hrng;unfold qr4 at hg;split at hg
    ·cases hg
    ·rename_i hn;rw[if_pos rfl] at hg;have hne:qbs n≠[]:=by unfold qbs;split<;>simp
     obtain⟨h1,rfl⟩:=xbqj l _ o hg hne;have hbk:=hback (fun p hp=>by
      rcases zas.1 hp with rfl|hp
      ·simpa using (not_or.1 hn).1
      ·exact h1 p hp)
     have hn2:=hrng (n,ok) (by simp);simp only at hn2;have hfl:oflat (qbs n++l.map (·.1))=n::l.map (·.1):=by
      unfold qbs;split
      ·simp only[za8,za0,oflat,zbc,and_true];omega
      ·simp only[za8,za0,oflat,zbc,and_true];omega
     have hin: ∀m∈qbs n++l.map (·.1),inU m:=by
      intro m hm;rcases zak.1 hm with hm|hm
      ·unfold qbs at hm;split at hm
       ·simp at hm;rcases hm with rfl|rfl<;>exact⟨by omega,by omega⟩
       ·simp at hm;rcases hm with rfl|rfl<;>exact⟨by omega,by omega⟩
      ·obtain⟨q,hq,rfl⟩:=za7.1 hm;exact hrng q (by simp[hq])
     refine⟨hin, ?_⟩;rw[qf9 hf,hfl]
     conv=>rhs;rw[hbk]
     simp[List.flatMap_map]
  ·rw[if_neg hf];exact .inl rfl
open IntWalk (i64_in u8_in u32_in u64_in i64_quo u8_quo rem_in)
theorem xbje{g:Int}{b:List Int}(hb: ∀x∈b,0<=x/\x<=255):isTf 1 [.int .i64 g,.sli .u8 b,.slg 3 []]=true:=by show(b.all xbhp&&true)=true;rw[Bool.and_true,zai];exact fun x hx=>decide_eq_true (hb x hx)
theorem qqi{g:Int}{b:List Int}(hb: ∀x∈b,0<=x/\x<=255)(hl:b.length<=29999):isS [.int .i64 g,.sli .u8 b,.slg 3 []]=true:=
 xbam (xbje hb) (by unfold qds;simp;omega)
theorem xbav{g:Int}{b:List Int}(hb: ∀x∈b,0<=x/\x<=255)(hg:qay g=false):qou [.int .i64 g,.sli .u8 b,.slg 3 []]=(qbm g&&qbo g b):=by rw[qq0 (xbje hb)];unfold okF qam;simp[hg]
theorem qu9{t:Int}{b:List Int}{k:List CV}(h:isS [.int .i64 t,.sli .u8 b,.slg 3 k]=true):b.length<=29999/\∀x∈b,0<=x/\x<=255:=by obtain⟨n,hn,hB⟩:=qcc h;obtain⟨m,t',b',l',rfl,e,hb,_⟩:=qch hn;cases e;refine⟨?_,hb⟩;change 1+b.length+_<=30000 at hB;omega
theorem q3r{t:Int}{b:List Int}{k:List CV}(h:isS [.int .i64 t,.sli .u8 b,.slg 3 k]=true):qad b=true:=qck (by have:=(qu9 h).1;omega) (qu9 h).2
theorem xbd1{g t:Int}{b:List Int}{k:List CV}(h:t=g)(hk:k.length=0)(hd:qbo g b=false):qtp g t b k=5:=by unfold qtp;rw[if_neg (by simp[h]),if_pos (.inr hd)]
theorem xbd2{g t:Int}{b:List Int}{k:List CV}(h:t=g)(hk:k.length=0)(hd:qbo g b=true):qtp g t b k=0:=by unfold qtp;rw[if_neg (by simp[h]),if_neg (by simp[hk,hd])]
theorem q2i{g t:Int}{b:List Int}{k:List CV}(h: ¬t=g):qtp g t b k=4:=by unfold qtp;rw[if_pos h]
theorem qww{g t:Int}{b:List Int}{k:List CV}(h:t=g)(hk:0<k.length):qtp g t b k=5:=by unfold qtp;rw[if_neg (by simp[h]),if_pos (.inl (by omega))]
theorem xbun{g t:Int}{b:List Int}{k:List CV}{bad:Int->Option Out}{good:Option Out}(hS:isS [.int .i64 t,.sli .u8 b,.slg 3 k]=true)(hk:qbm g=true)(hb:qay g=false):
  cond (!decide (t=g)) (bad 4) (cond (decide ((0:Int)<(k.length:Int))) (bad 5) (cond (isS [.int .i64 g,.sli .u8 b,.slg 3 []]) (cond (!(qou [.int .i64 g,.sli .u8 b,.slg 3 []])) (bad 5) good) none))=if qtp g t b k=0 then good else bad (qtp g t b k):=by
 obtain⟨h1,h2⟩:=qu9 hS;refine qa2 (fun h=> ?_) fun h=>qac (fun h'=> ?_) fun h'=>qak (qqi h2 h1) ?_
 ·rw[q2i h];rfl
 ·rw[qww h (by omega)];rfl
 ·rw[xbav h2 hb,hk,zcf]
  cases hd:qbo g b with
  | false=>rw[xbd1 h (by omega) hd];rfl
  | true=>rw[xbd2 h (by omega) hd];rfl
theorem xbr8(t:Int)(b:List Int)(k:List CV)(hp:isS [.int .i64 t,.sli .u8 b,.slg 3 k]=true):xbis t b k=zR [.cl (.sli .u32 (qf2 t b k).1),.cl (.int .i64 (qf2 t b k).2)] []:=by
 unfold xbis;dsimp only;refine(xbun (bad:=fun e=>zR [.cl (.sli .u32 []),.cl (.int .i64 e)] []) hp rfl rfl).trans ?_;unfold qf2;rw[qab];by_cases h:qtp 6 t b k=0
 ·rw[if_pos h,if_pos h];exact qak (q3r hp) rfl
 ·rw[if_neg h,if_neg h]
theorem xbr5(t:Int)(b:List Int)(k:List CV)(g:Int)(hp:isS [.int .i64 t,.sli .u8 b,.slg 3 k]=true):xbiq t b k g=zR [.cl (.sli .u8 (qry g t b k).1),.cl (.int .i64 (qry g t b k).2)] []:=by
 unfold xbiq qry qgb;simp only[qab];refine qa2 (fun h=> ?_) fun h=>qac (fun h'=> ?_) fun h'=>qak (q3r hp) ?_
 ·rw[q2i h];rfl
 ·rw[qww h (by omega)];rfl
 ·cases hd:qbo g b with
  | false=>rw[xbd1 h (by omega) hd];rfl
  | true=>rw[xbd2 h (by omega) hd];rfl
theorem xbxi(t:Int)(b:List Int)(k:List CV)(hp:isS [.int .i64 t,.sli .u8 b,.slg 3 k]=true):xbv3 t b k=zR [.cl (.sli .u32 (qf2 t b k).1),.cl (.int .i64 (qf2 t b k).2)] []:=qak hp rfl
theorem xbm6{g t:Int}{b:List Int}{k:List CV}(h:qtp g t b k=0):qry g t b k=(b,0):=by unfold qry;rw[qab,if_pos h]
theorem xbm5{g t:Int}{b:List Int}{k:List CV}(h: ¬qtp g t b k=0):qry g t b k=([],qtp g t b k):=by unfold qry;rw[qab,if_neg h]
theorem xbr6(t:Int)(b:List Int)(k:List CV)(hp:isS [.int .i64 t,.sli .u8 b,.slg 3 k]=true):xbqh t b k=zR [.cl (.sli .u32 (qf2 t b k).1),.cl (.int .i64 (qf2 t b k).2)] []:=by
 refine qak hp ?_;dsimp only;unfold qf2;rw[qab];by_cases h:qtp 6 t b k=0
 ·rw[if_pos h,xbm6 h];exact qkq rfl (qak (q3r hp) rfl)
 ·rw[if_neg h,xbm5 h];exact qmy h rfl
open IntWalk (i64_in u8_in u32_in u64_in i64_quo u8_quo rem_in)
abbrev W4(c:CV):Prop:= ∃t b k w,c=.agg [.int .i64 t,.sli .u8 b,.slg 3 k,.sli .u8 w]/\qad w=true
theorem qxr(x:CV): ∀l:List CV,(qm7 x l).length=l.length+1
 | []=>rfl
 | y::r=>by
  unfold qm7;split
  ·simp[qxr x r]
  ·rfl
theorem qxs{x:CV}: ∀ {l:List CV} {c:CV},c∈qm7 x l->c=x\/c∈l
 | [],c,h=>by simp[qm7] at h;exact .inl h
 | y::r,c,h=>by
  unfold qm7 at h;split at h
  ·rcases zas.1 h with rfl|h
   ·exact .inr (by simp)
   ·rcases qxs h with h|h
    ·exact .inl h
    ·exact .inr (zaw _ h)
  ·rcases zas.1 h with rfl|h
   ·exact .inl rfl
   ·exact .inr h
theorem xbvn(A:List CV)(x:CV)(T:List CV):(A++x::T)[A.length]? =some x:=by rw[zav (zar _),Nat.sub_self];rfl
open IntWalk (i64_in u8_in u32_in u64_in i64_quo u8_quo rem_in)
abbrev W3(c:CV):Prop:= ∃t b k,c=.agg [.int .i64 t,.sli .u8 b,.slg 3 k]/\isS [.int .i64 t,.sli .u8 b,.slg 3 k]=true
theorem xbcr{l:List CV}(h:xbg2 l=true):l.length<=2000/\∀c∈l,W3 c:=by unfold xbg2 at h;rw[qab] at h;exact @of_decide_eq_true _ (Classical.propDecidable _) h
theorem qhn{c:CV}(h:W3 c):W4 (qd4 c):=by
 obtain⟨t,b,k,rfl,hs⟩:=h;refine⟨t,b,k,_,rfl, ?_⟩;obtain⟨n,hn,hB⟩:=qcc hs;show qad (qa0 [.int .i64 t,.sli .u8 b,.slg 3 k]).1=true;rw[qdz hn];split
 ·rename_i hok;have h1:=qeu hn;exact qck (by show(qam n _).1.length<=_;omega) (qh2 hn hB hok.1)
 ·exact qck (by simp) (by simp)
def xbf7(c:CV):CV:=.agg ((cell1 c).take 3)
theorem xboh(l:List CV):(qoy l).length=l.length:=by
 have key: ∀(l acc:List CV),(l.foldl (fun acc x=>qm7 x acc) acc).length=l.length+acc.length:=by
  intro l
  induction l with
  | nil=>intro acc;simp
  | cons x r ih=>intro acc;rw[zc8,ih,qxr,zaf];omega
 unfold qoy;rw[List.length_reverse,key];simp
open IntWalk (i64_in u8_in u32_in u64_in i64_quo u8_quo rem_in)
theorem qhe:qk3=[]:=qab _
open IntWalk (i64_in u8_in u32_in u64_in i64_quo u8_quo rem_in)
theorem qsv{g:Int}{b:List Int}(h:qqx g b=true):(g=12\/g=6\/g=24)/\b.length<=2000/\∀x∈b,0<=x/\x<=255:=by unfold qqx at h;rw[qab,zab,decide_eq_true_eq,zai] at h;exact⟨h.1.1,h.1.2,fun x hx=>qle (h.2 x hx)⟩
theorem xbfv{g:Int}{b:List Int}(h:g=12\/g=6\/g=24)(h':b.length<=2000)(hb: ∀x∈b,0<=x/\x<=255):qqx g b=true:=by unfold qqx;rw[qab,zab,decide_eq_true_eq,zai];exact⟨⟨h,h'⟩,fun x hx=>decide_eq_true (hb x hx)⟩
theorem qrx{g:Int}{b:List Int}(h:qbo g b=true):qcr g b=(g,b,0):=by unfold qcr xbor;rw[qab,if_pos h]
theorem qwx{g:Int}{b:List Int}(h:qbo g b=false):qcr g b=(0,[],5):=by unfold qcr xbor;rw[qab,if_neg (by rw[h];simp)]
theorem xbxk(g:Int)(b:List Int)(hp:qqx g b=true):xbqg g b=zR [.cl (.agg [.int .i64 (qcr g b).1,.sli .u8 (qcr g b).2.1,.slg 3 qk3]),.cl (.int .i64 (qcr g b).2.2)] []:=by
 obtain⟨hg,hl,hb⟩:=qsv hp;have hk:qbm g=true/\qay g=false:=by rcases hg with rfl|rfl|rfl<;>exact⟨rfl,rfl⟩
 unfold xbqg;refine qak (qqi hb (by omega)) ?_;rw[xbav hb hk.2,hk.1,zcf,qhe]
 cases hd:qbo g b with
 | false=>rw[qwx hd];rfl
 | true=>rw[qrx hd];rfl
theorem xbr7(g:Int)(b:List Int)(hp:qqx g b=true):xbir g b=zR [.cl (.agg [.int .i64 (qcr g b).1,.sli .u8 (qcr g b).2.1,.slg 3 qk3]),.cl (.int .i64 (qcr g b).2.2)] []:=by
 obtain⟨hg,hl,hb⟩:=qsv hp;unfold xbir qgb;rw[qab,qhe];refine qak (qck (by omega) hb) ?_
 cases hd:qbo g b with
 | false=>rw[qwx hd];rfl
 | true=>rw[qrx hd];rfl
theorem q3n{o:List Int}(h:idOk o=true):o.length<=100000000000000/\∀n∈o,inU n:=by unfold idOk at h;rw[qab,zab,decide_eq_true_eq,zai] at h;exact⟨h.1,fun x hx=>of_decide_eq_true (h.2 x hx)⟩
theorem xbaf{o:List Int}(h:o.length<=100000000000000)(h': ∀n∈o,inU n):idOk o=true:=by unfold idOk;rw[qab,zab,decide_eq_true_eq,zai];exact⟨h,fun x hx=>decide_eq_true (h' x hx)⟩
theorem xbqo{o:List Int}(h:idOk o=true):qsh o=true:=by obtain⟨h1,h2⟩:=q3n h;unfold qsh;rw[qab,zab,decide_eq_true_eq,zai];exact⟨by omega,fun x hx=>decide_eq_true (h2 x hx)⟩
theorem q0z{o:List Int}(h:qbf o=true):2<=o.length/\o.length<=20:=by
 unfold qbf at h;split at h
 ·simp at h;simp;omega
 ·cases h
theorem q4b{o:List Int}(hr: ∀n∈o,inU n):(qal o).length<=2000/\∀x∈qal o,0<=x/\x<=255:=by
 rw[show qal o=qb0 o from qab _];by_cases h:qbf o=true
 ·rw[qf9 h];have hl:=qvw h;have hf:=q0z h;have hg: ∀(l:List Int),(l.flatMap qar).length<=6*l.length:=fun l=>by
   induction l with
   | nil=>simp
   | cons a l ih=>have:=q02 a;simp at*;omega
  have:=hg (oflat o);refine⟨by omega,fun x hx=> ?_⟩;obtain⟨n,hn,hx⟩:=zb7.1 hx;exact xbiu (qvx h hr n hn) x hx
 ·unfold qb0;rw[if_neg h];exact⟨by simp,by simp⟩
theorem xbiw{o:List Int}(h:idOk o=true):qqx 6 (qal o)=true:=
 let ⟨h1,h2⟩:=q4b (q3n h).2
 xbfv (.inr (.inl rfl)) h1 h2
theorem nVId(o:List Int)(hp:idOk o=true):gVId o=zR [.cl (.agg [.int .i64 (qcr 6 (qal o)).1,.sli .u8 (qcr 6 (qal o)).2.1,.slg 3 qk3]),.cl (.int .i64 (qcr 6 (qal o)).2.2)] []:=qak (xbqo hp) (qak (xbiw hp) rfl)
theorem xb0n(o:List Int)(hp:idOk o=true):xbzz o=zR [.cl (.agg [.int .i64 (qcr 6 (qal o)).1,.sli .u8 (qcr 6 (qal o)).2.1,.slg 3 qk3]),.cl (.int .i64 (qcr 6 (qal o)).2.2)] []:=qak (xbqo hp) (qak (xbiw hp) rfl)
theorem qj3(a:List CV):qfw a a=true:=by unfold qfw;rw[qab];exact @decide_eq_true _ (Classical.propDecidable _) rfl
open IntWalk (i64_in u8_in u32_in u64_in i64_quo u8_quo rem_in)
theorem q6z{l:List CV}(h:qfu l=true):l.length<=100000000:=by unfold qfu at h;rw[qab] at h;exact of_decide_eq_true h
theorem qlk{l:List CV}(h:l.length<=100000000):qfu l=true:=by unfold qfu;rw[qab];exact decide_eq_true h
theorem qce:qbe=[]:=qab _
theorem xbr4(l:List CV)(hp:qfu l=true):xbip l=zR [.cl (.slg 3 l)] []:=by
 have hp:=q6z hp;unfold xbip;simp only[za0];refine qf7 (fun h=> ?_) fun h=> ?_
 ·have h:=zal (qag.1 h);subst h;unfold xbli;rw[if_pos (Eq.symm (qmm (by simp) (by simp) rfl))]
 ·exact qmm (by omega) (by omega) rfl
theorem xb0o(l:List CV)(hp:qfu l=true):xbz0 l=zR [.cl (.agg [.int .i64 48,.sli .u8 qbe,.slg 3 l])] []:=by rw[qce];exact qak hp rfl
theorem xbxl(l:List CV)(hp:qfu l=true):xbv4 l=zR [.cl (.agg [.int .i64 48,.sli .u8 qbe,.slg 3 l])] []:=by rw[qce];rfl
theorem q5d{g t:Int}{b:List Int}{k:List CV}(h: ¬t=g):qmp g t b k=([],4):=by unfold qmp q2j;rw[qab,if_pos (.inl h)]
theorem xbhh{g t:Int}{b:List Int}{k:List CV}(h:qay g=false):qmp g t b k=([],4):=by unfold qmp q2j;rw[qab,if_pos (.inr h)]
theorem xbkk{g t:Int}{b:List Int}{k:List CV}(h:t=g)(hb:qay g=true)(hl:b.length≠0):qmp g t b k=([],5):=by unfold qmp q2j;rw[qab,if_neg (by rw[hb];rintro(e|e);exact e h;cases e),if_pos hl]
theorem xbkl{g t:Int}{b:List Int}{k:List CV}(h:t=g)(hb:qay g=true)(hl: ¬b.length≠0):qmp g t b k=(k,0):=by unfold qmp q2j;rw[qab,if_neg (by rw[hb];rintro(e|e);exact e h;cases e),if_neg hl]
theorem xbqv{g t:Int}{b:List Int}{k:List CV}{bad:Int->Option Out}{good:Option Out}:
  cond (!decide (t=g)) (bad 4) (cond (!qcb g) (bad 4) (cond (decide ((0:Int)<(b.length:Int))) (bad 5) good))=if(qmp g t b k).2=0 then good else bad (qmp g t b k).2:=by
 unfold qcb;rw[qab];refine qa2 (fun h=> ?_) fun h=> ?_
 ·rw[q5d h];rfl
 ·cases hb:qay g with
  | false=>rw[xbhh hb];rfl
  | true=>
   refine(qac (fun h'=> ?_) fun h'=> ?_:cond (decide ((0:Int)<(b.length:Int))) (bad 5) good=_)
   ·rw[xbkk h hb (by omega)];rfl
   ·rw[xbkl h hb (by omega)];rfl
theorem xboq{g t:Int}{b:List Int}{k:List CV}(h:(qmp g t b k).2=0):(qmp g t b k).1=k:=by
 unfold qmp q2j at h ⊢;simp only[qab] at h ⊢;split at h
 ·simp at h
 ·split at h
  ·simp at h
  ·rename_i h1 h2;rw[if_neg h1,if_neg h2]
theorem xbop{g t:Int}{b:List Int}{k:List CV}(h: ¬(qmp g t b k).2=0):(qmp g t b k).1=[]:=by
 unfold qmp q2j at h ⊢;simp only[qab] at h ⊢;split
 ·rfl
 ·split
  ·rfl
  ·rename_i h1 h2;rw[if_neg h1,if_neg h2] at h;simp at h
theorem xbxj(t:Int)(b:List Int)(k:List CV)(g:Int)(hp:qfu k=true):xbqf t b k g=zR [.cl (.slg 3 (qmp g t b k).1),.cl (.int .i64 (qmp g t b k).2)] []:=by
 unfold xbqf;refine(xbqv (k:=k) (bad:=fun e=>zR [.cl (.slg 3 []),.cl (.int .i64 e)] [])).trans ?_;by_cases h:(qmp g t b k).2=0
 ·rw[if_pos h,xboq h,h];exact qak hp rfl
 ·rw[if_neg h,xbop h]
theorem qcm{α:Type}{l:List α}{i:Nat}{x:α}(h:l[i]? =some x):l.drop i=x::l.drop (i+1):=by obtain⟨hi,e⟩:=zad.1 h;rw[zbf hi,e]
open IntWalk (i64_in u8_in u32_in u64_in i64_quo u8_quo rem_in)
theorem qgz: ∀(a b c:List Int),qao a b<=0->qao b c<=0->qao a c<=0
 | [],b,c,_,_=>by cases c<;>simp[qao]
 | x::a,[],c,h,_=>by simp[qao] at h
 | x::a,y::b,[],_,h=>by simp[qao] at h
 | x::a,y::b,z::c,h1,h2=>by
  unfold qao at h1 h2 ⊢;by_cases h:x<z
  ·rw[if_pos h];omega
  ·rw[if_neg h];have hxy: ¬y<x:=fun e=>by rw[if_neg (by omega),if_pos e] at h1;omega
   have hyz: ¬z<y:=fun e=>by rw[if_neg (by omega),if_pos e] at h2;omega
   obtain rfl:x=y:=by omega
   obtain rfl:x=z:=by omega
   simp only[Int.lt_irrefl,if_false] at h1 h2 ⊢;exact qgz a b c h1 h2
theorem qo0(a b:List Int):qao b a<0↔ ¬qao a b<=0:=by
 have:=q0u a b;by_cases h:qao a b<=0
 ·rw[decide_eq_true h] at this;refine⟨fun e=> ?_,fun e=>absurd h e⟩;rw[decide_eq_true e] at this;cases this
 ·rw[decide_eq_false h] at this;exact⟨fun _=>h,fun _=>of_decide_eq_true this⟩
theorem cmp_eq: ∀(a b:List Int),qao a b<=0->qao b a<=0->a=b
 | [],[],_,_=>rfl
 | [],y::b,_,h=>by simp[qao] at h
 | x::a,[],h,_=>by simp[qao] at h
 | x::a,y::b,h1,h2=>by
  unfold qao at h1 h2;have hxy: ¬y<x:=fun e=>by rw[if_neg (by omega),if_pos e] at h1;omega
  have hyx: ¬x<y:=fun e=>by rw[if_neg (by omega),if_pos e] at h2;omega
  obtain rfl:x=y:=by omega
  simp only[Int.lt_irrefl,if_false] at h1 h2;rw[cmp_eq a b h1 h2]
abbrev leK(x y:CV):Prop:=qao (keyC x) (keyC y)<=0
abbrev Desc(l:List CV):Prop:=l.Pairwise fun a b=>leK b a
theorem xbag{x:CV}: ∀ {l:List CV},Desc l->Desc (qm7 x l)
 | [],_=>List.pairwise_singleton _ _
 | y::r,h=>by
  unfold qm7;obtain⟨h1,h2⟩:=List.pairwise_cons.1 h;split
  ·rename_i hlt;refine List.pairwise_cons.2 ⟨fun z hz=> ?_,xbag h2⟩;rcases qxs hz with rfl|hz
   ·show qao _ _<=0;omega
   ·exact h1 z hz
  ·rename_i hlt;have hyx:leK y x:=Classical.byContradiction fun e=>hlt ((qo0 _ _).2 e);refine List.pairwise_cons.2 ⟨fun z hz=> ?_,h⟩;rcases zas.1 hz with rfl|hz
   ·exact hyx
   ·exact qgz _ _ _ (h1 z hz) hyx
theorem q3b: ∀(l acc:List CV),Desc acc->Desc (l.foldl (fun acc x=>qm7 x acc) acc)
 | [],acc,h=>h
 | x::r,acc,h=>q3b r _ (xbag h)
def posA(b:List Int):List CV->Nat
 | []=>0
 | y::r=>if qao b (keyC y)<0 then 0 else posA b r+1
theorem qx9(b:List Int): ∀l:List CV,posA b l<=l.length
 | []=>zar _
 | y::r=>by unfold posA;split<;>simp;exact qx9 b r
theorem xbjw(b:List Int): ∀(l:List CV) (i:Nat) (y:CV),i<posA b l->l[i]? =some y-> ¬qao b (keyC y)<0
 | [],i,y,h,_=>by simp[posA] at h
 | z::r,i,y,h,hy=>by
  unfold posA at h;split at h
  ·omega
  ·rename_i hz
   cases i with
   | zero=>simp at hy;subst hy;exact hz
   | succ i=>exact xbjw b r i y (by omega) (by simpa using hy)
theorem xbbx(b:List Int): ∀(l:List CV) (y:CV),l[posA b l]? =some y->qao b (keyC y)<0
 | [],y,h=>by simp at h
 | z::r,y,h=>by
  unfold posA at h;split at h
  ·rename_i hz;simp at h;subst h;exact hz
  ·exact xbbx b r y (by simpa using h)
theorem xbi4{x:CV}: ∀ {l:List CV},Desc l->(qm7 x l).reverse=l.reverse.take (posA (keyC x) l.reverse)++x::l.reverse.drop (posA (keyC x) l.reverse)
 | [],_=>rfl
 | y::r,h=>by
  obtain⟨h1,h2⟩:=List.pairwise_cons.1 h;unfold qm7;have hpos: ∀(A:List CV) (z:CV),(∀c∈A, ¬qao (keyC x) (keyC c)<0)->posA (keyC x) (A++[z])=A.length+(if qao (keyC x) (keyC z)<0 then 0 else 1):=by
   intro A z hA
   induction A with
   | nil=>simp only[za0,posA,zbt,za1]
   | cons a A ih=>
    simp only[za8,posA,zaf];rw[if_neg (hA a (by simp)),ih fun c hc=>hA c (by simp[hc])];omega
  have hpos2: ∀(A:List CV) (z:CV), ¬(∀c∈A, ¬qao (keyC x) (keyC c)<0)->posA (keyC x) (A++[z])=posA (keyC x) A/\posA (keyC x) A<A.length:=by
   intro A z hA
   induction A with
   | nil=>exact absurd (fun c hc=>by simp at hc) hA
   | cons a A ih=>
    simp only[za8,posA,zaf];split
    ·exact⟨rfl,by omega⟩
    ·rename_i ha;obtain⟨e1,e2⟩:=ih fun hall=>hA fun c hc=>by
      rcases zas.1 hc with rfl|hc
      ·exact ha
      ·exact hall c hc
     exact⟨by rw[e1],by omega⟩
  rw[List.reverse_cons];split
  ·rename_i hlt;rw[List.reverse_cons,xbi4 h2];by_cases hall: ∀c∈r.reverse, ¬qao (keyC x) (keyC c)<0
   ·rw[hpos _ _ hall,if_pos hlt,Nat.add_zero];have hp:posA (keyC x) r.reverse=r.reverse.length:=by
     have hle:=qx9 (keyC x) r.reverse;rcases zbo (posA (keyC x) r.reverse) r.reverse.length with e|e
     ·obtain⟨c,hc⟩:=qaz (b:=r.reverse) (i:=posA (keyC x) r.reverse) e;exact absurd (xbbx _ _ _ hc) (hall c (zac hc))
     ·omega
    rw[hp,zb4,zdj,List.take_left' rfl,List.drop_left' rfl];simp
   ·obtain⟨e1,e2⟩:=hpos2 _ y hall;rw[e1,List.take_append_of_le_length (by omega),List.drop_append_of_le_length (by omega)];simp
  ·rename_i hlt;have hyx:leK y x:=Classical.byContradiction fun e=>hlt ((qo0 _ _).2 e);have hall: ∀c∈r.reverse, ¬qao (keyC x) (keyC c)<0:=fun c hc e=>by have:=qgz _ _ _ (h1 c (List.mem_reverse.1 hc)) hyx;exact(qo0 _ _).1 e this
   rw[hpos _ _ hall,if_neg hlt,List.reverse_cons,List.reverse_cons];have:r.reverse.length+1=(r.reverse++[y]).length:=by simp
   rw[this,zb4,zdj]
theorem q45(l:List CV)(x:CV):qoy (l++[x])=(qoy l).take (posA (keyC x) (qoy l))++x::(qoy l).drop (posA (keyC x) (qoy l)):=by unfold qoy;rw[List.foldl_append,zc8,List.foldl_nil];exact xbi4 (q3b l [] List.Pairwise.nil)
abbrev txt(c:CV):CV:=.sli .u8 (keyC c)
theorem xbys(K:List CV->Nat->Nat->Int->List Int->Int->List CV->List CV->Option Out)(l:List CV)(n:Nat)(i:Int)(b:List Int)(hb:qr9 b=true)(O S:List CV)(hS:S.length<=2000): ∀(f j:Nat),S.length<f+j->j<=posA b S->
  qi1 K f l n S.length i b (j:Int) O (S.map txt)=K l n S.length i b ((posA b S:Nat):Int) O (S.map txt)
 | 0,j,h,h'=>by have:=qx9 b S;omega
 | f+1,j,h,h'=>by
  show qns (qi1 K f) K _ _ _ _ _ _ _ _=_;unfold qns;have ih:=xbys K l n i b hb O S hS f (j+1) (by omega);generalize qi1 K f=ag at ih ⊢;have hle:=qx9 b S;refine qac (fun hj=> ?_) fun hj=> ?_
  ·obtain⟨c,hc⟩:=qaz (b:=S) (i:=j) (by omega);refine qa6 (by omega) (by omega) ?_;rw[show(0+Int.toNat (j:Int))=j by omega,zaj,hc,zap,zag];refine qak rfl (qak hb ?_);show cond (!qg4 b (keyC c)) _ _=_;unfold qg4;rw[qab];by_cases hlt:qao b (keyC c)<0
   ·rw[decide_eq_true hlt];have:j=posA b S:=by
     rcases zbo j (posA b S) with e|e
     ·exact absurd hlt (xbjw b S j c e hc)
     ·omega
    rw[<- this];rfl
   ·rw[decide_eq_false hlt];show ag _ _ _ _ _ _ _ _=_;rw[show IntKind.i64.wrap ((j:Int)+1)=((j+1:Nat):Int) from(i64_in _ (by omega)).trans (by omega)];refine ih ?_;rcases zbo j (posA b S) with e|e
    ·omega
    ·have e:j=posA b S:=by omega
     subst e;exact absurd (xbbx b S c hc) hlt
  ·rw[show j=posA b S by omega]
theorem xbos{l:List CV}{o:Nat}:win l o 0 true=l.drop o:=by unfold win;cases o<;>rfl
theorem xbuy{c:CV}(h:W3 c):keyC (qd4 c)=(qa0 (cell1 c)).1/\xbf7 (qd4 c)=c:=by obtain⟨t,b,k,rfl,_⟩:=h;exact⟨rfl,rfl⟩
theorem xbjg{α:Type}(f:CV->α)(S:List CV)(x:CV)(p:Nat):(S.take p++x::S.drop p).map f=(S.map f).take p++f x::(S.map f).drop p:=by rw[List.map_append,zbr,zc3,zcx]
theorem xbk9{ag:List CV->Nat->Nat->Int->List CV->List CV->Option Out}{l:List CV}{n n' m m':Nat}{i:Int}{o o' t t':List CV}(h1:n=n')(h2:m=m')(h3:o=o')(h4:t=t'):ag l n m i o t=ag l n' m' i o' t':=by rw[h1,h2,h3,h4]
theorem xbjy(K0:Option Out)(K1:Nat->List CV->Option Out)(l:List CV)(hl:l.length<=2000)(hw: ∀c∈l,W3 c): ∀(f:Nat) (A R S:List CV),R.length<f->l=A++R->(∀c∈A,(qa0 (cell1 c)).2=0)->S=qoy (A.map qd4)->
  ql9 K0 K1 f l S.length S.length (A.length:Int) (S.map xbf7) (S.map txt)=
   if l.all (fun c=>decide ((qa0 (cell1 c)).2=0))=true then K1 l.length ((qoy (l.map qd4)).map xbf7) else K0
 | 0,A,R,S,h,_,_,_=>by omega
 | f+1,A,R,S,h,hAR,hA,hS=>by
  show qqw (ql9 K0 K1 f) K0 K1 l _ _ _ _ _=_;unfold qqw;have hSl:S.length=A.length:=by rw[hS,xboh,zam]
  cases R with
  | nil=>
   have e:l=A:=by simpa using hAR
   subst e;refine qdt (by omega) ?_;rw[if_pos (by rw[zai];exact fun c hc=>decide_eq_true (hA c hc)),hSl,hS]
  | cons c R=>
   have hc:l[A.length]? =some c:=by rw[hAR];exact xbvn A c R
   have ih:=xbjy K0 K1 l hl hw f (A++[c]) R (S.take (posA (keyC (qd4 c)) S)++qd4 c::S.drop (posA (keyC (qd4 c)) S)) (by simp at h;omega) (by simp[hAR]);generalize ql9 K0 K1 f=ag at ih ⊢;have hlen:l.length=A.length+(R.length+1):=by rw[hAR];simp
   have hW:=hw c (by rw[hAR];simp);have hB:=qhn hW;obtain⟨hk1,hk2⟩:=xbuy hW;obtain⟨t,b,k,rfl,hs⟩:=hW;refine qas (by omega) (qa1 (by omega) hc ?_);dsimp only;refine qak (c:=qfy .i64 _&&(qbl .u8 _&&(qcj 3 _&&true))) rfl (qak hs ?_);show cond (!decide ((qa0 [.int .i64 t,.sli .u8 b,.slg 3 k]).2=0)) _ _=_;refine qa2 (fun hn=> ?_) fun hn=> ?_
   ·rw[if_neg];intro h;rw[zai] at h;exact hn (of_decide_eq_true (h _ (zac hc)))
   ·have ih:=ih (fun c hc=>by
     rcases zak.1 hc with h|h
     ·exact hA c h
     ·rw[zci.1 h];exact hn) (by rw[List.map_append,zbr,List.map_nil,q45, <- hS])
    have hbl:qr9 (qa0 [.int .i64 t,.sli .u8 b,.slg 3 k]).1=true:=by
     obtain⟨_,_,_,w,e,hw⟩:=hB;have:w=(qa0 [.int .i64 t,.sli .u8 b,.slg 3 k]).1:=by unfold qd4 at e;simp only[cell1,za8,za0,CV.agg.injEq,zbc,CV.sli.injEq,and_true] at e;exact e.2.2.2.2.symm
     rw[<- this];exact qib (by have:=(qax hw).1;omega)
    have hkey:keyC (qd4 (.agg [.int .i64 t,.sli .u8 b,.slg 3 k]))=(qa0 [.int .i64 t,.sli .u8 b,.slg 3 k]).1:=hk1;rw[hkey] at ih;rw[qab];have hple:=qx9 (qa0 [.int .i64 t,.sli .u8 b,.slg 3 k]).1 S;refine(xbys _ l S.length (A.length:Int) (qa0 [.int .i64 t,.sli .u8 b,.slg 3 k]).1 hbl (S.map xbf7) S (by omega) FUEL 0 (by unfold FUEL;omega) (by omega)).trans ?_;generalize (qa0 [.int .i64 t,.sli .u8 b,.slg 3 k]).1=w at*;generalize hp:posA w S=p at*;simp only[za0,Int.toNat_natCast,za1,xbos];have hlp:((S.map txt).take p).length<=2000:=by simp;omega
    refine qas (by omega) (qas (by omega) (qmm (by simp;omega) (by simp;omega) (qmm (by simp;omega) (by simp;omega) (qas (by omega) (qas (by omega) (qmm (by simp;omega) (by simp;omega) (qas (by omega) (qas (by omega) (qmm (by simp;omega) (by simp;omega) ?_)))))))));refine qa1 (by omega) hc ?_;refine qak (c:=qfy .i64 _&&(qbl .u8 _&&(qcj 3 _&&true))) rfl (qmm (by simp;omega) (by simp;omega) (qas (by omega) (qas (by omega) (qmm (by simp;omega) (by simp;omega) ?_))));rw[show IntKind.i64.wrap ((A.length:Int)+1)=(((A++[CV.agg [.int .i64 t,.sli .u8 b,.slg 3 k]]).length:Nat):Int) from(i64_in _ (by omega)).trans (by simp)];rw[xbjg,xbjg,hk2] at ih;refine(xbk9 (by simp) (by simp) (za6 _ _ _) ((za6 _ _ _).trans ?_)).trans ih;show _++CV.sli .u8 w::_=_++CV.sli .u8 (keyC _)::_;rw[hkey];rfl
theorem xbxm(l:List CV)(hp:xbg2 l=true):xbqi l=zR [.cl (.agg [.int .i64 (vSet l).1,.sli .u8 qbe,.slg 3 (vSet l).2.1]),.cl (.int .i64 (vSet l).2.2)] []:=by obtain⟨hl,hw⟩:=xbcr hp;unfold xbqi;rw[qab];refine(xbjy _ _ l hl hw FUEL [] l [] (by unfold FUEL;omega) rfl (fun c hc=>by simp at hc) rfl).trans ?_;unfold vSet q2k qbe;simp only[qab];split<;>rfl
open IntWalk (i64_in u8_in u32_in u64_in i64_quo u8_quo rem_in)
open IntWalk (i64_in u8_in u32_in u64_in i64_quo u8_quo rem_in)
theorem xbdw: ∀ {k m:Nat} {y:List CV},isTf k y=true->k<=m->isTf m y=true
 | k,m,y,hy,hkm=>by obtain⟨k',t,b,l,rfl,rfl,hb,hl⟩:=qch hy;obtain⟨m,rfl⟩: ∃q,m=q+1:=⟨m - 1,by omega⟩;refine xbzo hb fun c hc=> ?_;obtain⟨z,rfl,hz⟩:=hl c hc;exact⟨z,rfl,xbdw hz (by omega)⟩
theorem xbph{a:List CV}(h:isS a=true):qou a=decide ((qa0 a).2=0):=by
 obtain⟨n,hn,_⟩:=qcc h;rw[qq0 hn,qdz hn];split
 ·rename_i h;rw[decide_eq_true h];rfl
 ·rename_i h;rw[decide_eq_false h];rfl
open IntWalk (i64_in u8_in u32_in u64_in i64_quo u8_quo rem_in)
theorem xbmf{g:Int}{b:List Int}(h:(qcr g b).2.2=0):qbo g b=true/\qcr g b=(g,b,0):=by
 cases hd:qbo g b with
 | true=>exact⟨rfl,qrx hd⟩
 | false=>rw[qwx hd] at h;cases h
theorem xbqm{o:List Int}(hr: ∀n∈o,inU n)(h:(qcr 6 (qal o)).2.2=0):qf2 (qcr 6 (qal o)).1 (qcr 6 (qal o)).2.1 qk3=(o,0):=by
 obtain⟨h1,h2⟩:=xbmf h;rw[h2];unfold qf2;rw[qab,if_pos (xbd2 rfl (by rw[qhe];rfl) h1)];have e:qal o=qb0 o:=qab _;by_cases hf:qbf o=true
 ·unfold qb2;rw[qab,e];exact qs5 hf hr
 ·rw[e] at h1;unfold qb0 at h1;rw[if_neg hf] at h1;exact absurd h1 (by decide)
end Go.Proofs.YtoiikagnjcjccaaGreatDoorA
