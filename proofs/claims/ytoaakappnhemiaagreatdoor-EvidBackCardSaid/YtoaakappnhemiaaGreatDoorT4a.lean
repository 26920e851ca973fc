/-
 The evid layer: what a function makes of each; digests, parts and marks as values. Conditions: each function's own.
-/
import Derived.Test.YtoaakappnhemiaaGreatDoorT3b
set_option linter.unusedVariables false
set_option linter.unusedSimpArgs false
set_option maxRecDepth 100000
set_option linter.defProp false
namespace Go.Proofs.YtoaakappnhemiaaGreatDoorA
open IntKind(i64 u8 u32 u64)
open IntWalk (i64_in u8_in u32_in u64_in i64_quo u8_quo rem_in)
def qd6{α β:Type}{f:α->Option β}: ∀ {l:List α},l.all (fun c=>(f c).isSome)=true->(l.filterMap f).length=l.length
 | [],_=>rfl
 | x::r,h=>by simp only[zbz,zab] at h;obtain⟨y,hy⟩:=zax.1 h.1;rw[zbe hy,zac,zac,qd6 h.2]
def qqf{α β:Type}(f:α->Option β)(l:List α)(hl:l.length<=1000000)(L:Nat->Nat->Int->List β->OO)(bad:OO)(fin:List β->OO)(hstep: ∀(n i:Nat) (acc:List β) (x:α),i<l.length->acc.length=i->l[i]? =some x->L (n+1) i (i:Int) acc=match f x with|some y=>L n (i+1) ((i+1:Nat):Int) (acc++[y])|none=>bad)(hend: ∀(n:Nat) (acc:List β),L (n+1) l.length (l.length:Int) acc=fin acc):
  ∀(fuel i:Nat) (acc:List β),i<=l.length->acc.length=i->l.length<fuel+i->L fuel i (i:Int) acc=if(l.drop i).all (fun c=>(f c).isSome)=true then fin (acc++(l.drop i).filterMap f) else bad
 | 0,i,acc,hi,ha,hf=>by omega
 | fuel+1,i,acc,hi,ha,hf=>by
  rcases zb5 i l.length with h|h
  ·obtain⟨x,hx⟩: ∃x,l[i]? =some x:=⟨_,zag h⟩;rw[hstep fuel i acc x h ha hx,qid hx,zbz]
   cases hy:f x with
   | none=>simp
   | some y=>
    show L fuel (i+1) ((i+1:Nat):Int) (acc++[y])=_;rw[qqf f l hl L bad fin hstep hend fuel (i+1) (acc++[y]) h (by simp[ha]) (by omega),zbe hy];simp
  ·obtain rfl:i=l.length:=by omega
   rw[hend,zdj];simp
def xbxy{α β:Type}(f:α->Option β)(l:List α)(lo hi w:Int)(hl:l.length<=1000000)(h0:0<=w)(hw:w<=100)(out:List β->Bool->OO){X:OO}(hX:X=if l.all (fun c=>(f c).isSome)=true then out (l.filterMap f) true else out [] false):
  cond (decide ((l.length:Int)<lo)) (out [] false) (cond (decide (hi<(l.length:Int))) (out [] false) (cond (decide ((0:Int)<=(l.length:Int))) (cond (decide ((l.length:Int)*w<=LIM)) (cond (decide ((l.length:Int)<=LIM)) X none) none) none))=out (evL f lo hi l) (evB f lo hi l):=by
 have hm:(l.length:Int)*w<=1000000*100:=Int.mul_le_mul (by omega) hw h0 (by omega);refine qae (fun h=> ?_) fun h=>qae (fun h'=> ?_) fun h'=>qaq (by omega) (qaq (by unfold LIM;omega) (qaq (by unfold LIM;omega) ?_))
 ·have e:evB f lo hi l=false:=by unfold evB;rw[decide_eq_false (by omega)];rfl
  unfold evL;rw[e,yb (by simp)]
 ·have e:evB f lo hi l=false:=by unfold evB;rw[decide_eq_false (by omega)];rfl
  unfold evL;rw[e,yb (by simp)]
 ·have e:evB f lo hi l=l.all (fun c=>(f c).isSome):=by unfold evB;rw[yf (by omega)];rfl
  unfold evL;rw[hX,e];split
  ·rename_i h;rw[h]
  ·rename_i h;rw[zat.2 h]
def xbdo{α β:Type}{acc:List β}{y:β}{i w:Nat}{l:List α}{n:Int}{again:Nat->List α->Int->Int->List β->OO}(ha:acc.length=i)(hi:i<1000000)(hw:w<=100):
  rmK (acc++[y]).length w (again (acc++[y]).length l n (i64.wrap ((i:Int)+1)) (acc++[y]))=again (i+1) l n ((i+1:Nat):Int) (acc++[y]):=by
 have e2:i64.wrap ((i:Int)+1)=((i+1:Nat):Int):=i64_in _ (by omega);have e3:(acc++[y]).length=i+1:=by rw[zaf,ha];rfl
 have hm:(i+1)*w<=1000000*100:=zdi (by omega) hw;rw[e2,e3];exact qvi (by omega) (by omega) rfl
def xb8r{β:Type}{B:Bool}{fx:Option β}{y:β}{k0 X:OO}{Y:β->OO}(h:fx=cond B (some y) none)(hX:X=Y y):cond (!B) k0 X=match (generalizing:=false) fx with|some z=>Y z|none=>k0:=by
 subst h
 cases B with
 | true=>exact hX
 | false=>rfl
def qut{β:Type}{B:Bool}{fx:Option β}{y:β}{k0:OO}{acc:List β}{i w:Nat}{A:Nat->Int->List β->OO}(h:fx=cond B (some y) none)(ha:acc.length=i)(hi:i<1000000)(hw:w<=100:=by omega):
  cond (!B) k0 (rmK (acc++[y]).length w (A (acc++[y]).length (i64.wrap ((i:Int)+1)) (acc++[y])))=match (generalizing:=false) fx with|some z=>A (i+1) ((i+1:Nat):Int) (acc++[z])|none=>k0:=
 xb8r (Y:=fun z=>A (i+1) ((i+1:Nat):Int) (acc++[z])) h (xbdo (l:=([]:LI)) (n:=0) (again:=fun a _ _ c d=>A a c d) ha hi hw)
def q1o{α β:Type}{f:α->Option β}{l:List α}{lo hi w:Int}{out:List β->Bool->OO}{S:(Nat->List α->Int->Int->List β->OO)->OO->(Nat->List β->OO)->Nat->List α->Int->Int->List β->OO}(hl:l.length<=1000000)(hS: ∀again k0 k1 (i:Nat) (acc:List β) (x:α) (fx:Option β),i<l.length->acc.length=i->l[i]? =some x->f x=fx->S again k0 k1 i l (l.length:Int) (i:Int) acc=match fx with|some y=>again (i+1) l (l.length:Int) ((i+1:Nat):Int) (acc++[y])|none=>k0)(hE: ∀again k0 k1 (acc:List β),S again k0 k1 l.length l (l.length:Int) (l.length:Int) acc=k1 l.length acc)(h0:0<=w:=by omega)(hw:w<=100:=by omega):
  cond (decide ((l.length:Int)<lo)) (out [] false) (cond (decide (hi<(l.length:Int))) (out [] false) (cond (decide ((0:Int)<=(l.length:Int))) (cond (decide ((l.length:Int)*w<=LIM)) (cond (decide ((l.length:Int)<=LIM))
   (shut (qe8 (fun a=>S a (out [] false) (fun _ y=>out y true)) (fun _ _ _ _ _=>none) FUEL) 0 l (l.length:Int) 0 []) none) none) none))=out (evL f lo hi l) (evB f lo hi l):=by
 refine xbxy f l lo hi w hl h0 hw out ?_;rw[qab];refine(qqf f l hl (fun n m i acc=>qe8 (fun a=>S a (out [] false) (fun _ y=>out y true)) (fun _ _ _ _ _=>none) n m l (l.length:Int) i acc) (out [] false) (fun y=>out y true) (fun n i acc x hi ha hx=>hS _ _ _ i acc x (f x) hi ha hx rfl) (fun n acc=>hE _ _ _ acc) FUEL 0 [] (zbc _) rfl (by unfold FUEL;omega)).trans ?_;rfl
def xbxz{α β:Type}{f:α->Option β}{l:List α}{lo hi w s:Int}{out:Int->List β->Bool->OO}{S:(Nat->List α->Int->Int->Int->List β->OO)->(Int->OO)->(Nat->Int->List β->OO)->Nat->List α->Int->Int->Int->List β->OO}(hl:l.length<=1000000)(hS: ∀again k0 k1 (i:Nat) (acc:List β) (x:α) (fx:Option β),i<l.length->acc.length=i->l[i]? =some x->f x=fx->S again k0 k1 i l (l.length:Int) (i:Int) s acc=match fx with|some y=>again (i+1) l (l.length:Int) ((i+1:Nat):Int) s (acc++[y])|none=>k0 s)(hE: ∀again k0 k1 (acc:List β),S again k0 k1 l.length l (l.length:Int) (l.length:Int) s acc=k1 l.length s acc)(h0:0<=w:=by omega)(hw:w<=100:=by omega):
  cond (decide ((l.length:Int)<lo)) (out s [] false) (cond (decide (hi<(l.length:Int))) (out s [] false) (cond (decide ((0:Int)<=(l.length:Int))) (cond (decide ((l.length:Int)*w<=LIM)) (cond (decide ((l.length:Int)<=LIM))
   (shut (qe8 (fun a=>S a (fun s=>out s [] false) (fun _ s y=>out s y true)) (fun _ _ _ _ _ _=>none) FUEL) 0 l (l.length:Int) 0 s []) none) none) none))=out s (evL f lo hi l) (evB f lo hi l):=by
 refine xbxy f l lo hi w hl h0 hw (out s) ?_;rw[qab];refine(qqf f l hl (fun n m i acc=>qe8 (fun a=>S a (fun s=>out s [] false) (fun _ s y=>out s y true)) (fun _ _ _ _ _ _=>none) n m l (l.length:Int) i s acc) (out s [] false) (fun y=>out s y true) (fun n i acc x hi ha hx=>hS _ _ _ i acc x (f x) hi ha hx rfl) (fun n acc=>hE _ _ _ acc) FUEL 0 [] (zbc _) rfl (by unfold FUEL;omega)).trans ?_;rfl
def qja{β:Type}{p:Prop}[Decidable p]{x y:β}:cond (decide p) x y=if p then x else y:=by by_cases h:p<;>simp[h]
def qop{l:LC}(h:qvj l=true):xbcg l:=by unfold qvj at h;rw[qab] at h;exact @ye _ (ya _) h
def q58{l:LC}(h:xbcg l):qvj l=true:=by unfold qvj;rw[qab];exact @yf _ (ya _) h
def qlf{l:LC}(h:quw l=true):xbch l:=by unfold quw at h;rw[qab] at h;exact @ye _ (ya _) h
def q0j{l:LC}(h:xbch l):quw l=true:=by unfold quw;rw[qab];exact @yf _ (ya _) h
def qv3{l:LC}(h:qps l=true):qod l:=by unfold qps at h;rw[qab] at h;exact @ye _ (ya _) h
def xblm{l:LC}(h:qod l):qps l=true:=by unfold qps;rw[qab];exact @yf _ (ya _) h
def qds{l:LC}(h:qcb l=true):qc0 l:=by unfold qcb at h;rw[qab] at h;exact @ye _ (ya _) h
def qs1{l:LC}(h:qc0 l):qcb l=true:=by unfold qcb;rw[qab];exact @yf _ (ya _) h
def qia{b:LI}(h:qad b=true):qdu b=true:=by have:=(qak h).1;unfold qdu;rw[qab];exact yf (by omega)
def qtj{l:LI}(h:l.length<=1000000000000000):qgc l=true:=by unfold qgc;rw[qab];exact yf h
def qtk{l:LI}(h:qgc l=true):l.length<=1000000000000000:=by unfold qgc at h;rw[qab] at h;exact ye h
def qci{l:LC}(h:l.length<=100000000):qbw l=true:=by unfold qbw;rw[qab];exact yf h
def q7d{α β:Type}{f:α->Option β}{lo hi:Int}{l:List α}:(evL f lo hi l).length<=l.length:=by
 unfold evL;split
 ·exact List.length_filterMap_le ..
 ·exact zbc _
def xbsc(s lo hi:Int)(l:LC):dgL s lo hi l=evL (digF s) lo hi l:=by unfold dgL;rw[qab]
def xbxx(s lo hi:Int)(l:LC):dgB s lo hi l=evB (digF s) lo hi l:=by unfold dgB;rw[qab]
def xbhl(s lo hi:Int)(l:LC):xb15 s lo hi l=evL (qj9 s) lo hi l:=by unfold xb15;rw[qab]
def xbhk(s lo hi:Int)(l:LC):xb14 s lo hi l=evB (qj9 s) lo hi l:=by unfold xb14;rw[qab]
def qzh(lo hi:Int)(l:LC):qt0 lo hi l=evL qkf lo hi l:=by unfold qt0;rw[qab]
def q8l(lo hi:Int)(l:LC):qtz lo hi l=evB qkf lo hi l:=by unfold qtz;rw[qab]
def qym(lo hi:Int)(l:LC):qs0 lo hi l=evL qd4 lo hi l:=by unfold qs0;rw[qab]
def qq6(lo hi:Int)(l:LC):qnm lo hi l=evB qd4 lo hi l:=by unfold qnm;rw[qab]
def qn9(k:Int):qqm k=qa4 k:=by unfold qqm;rw[qab]
def xb65(k:Int)(hp:true=true):xbyr k=zI (qqm k):=by
 unfold xbyr;rw[qn9,qab];refine qae (fun h=> ?_) fun h=>qae (fun h'=> ?_) fun h'=>qaq (by omega) (qaq (by omega) ?_)
 ·unfold qa4;rw[yb (by omega)]
 ·unfold qa4;rw[yb (by omega)]
 ·obtain⟨n,rfl⟩: ∃n:Nat,k=n:=⟨k.toNat,by omega⟩;have hn:n<8:=by omega
  have:n=0\/n=1\/n=2\/n=3\/n=4\/n=5\/n=6\/n=7:=by omega
  rcases this with rfl|rfl|rfl|rfl|rfl|rfl|rfl|rfl<;>rfl
def xb05(k:Int)(hp:true=true):xbon k=zI (qqm k):=by
 unfold xbon;rw[qn9];refine qae (fun h=> ?_) fun h=>qae (fun h'=> ?_) fun h'=>qaq (by omega) (qaq (by omega) ?_)
 ·unfold qa4;rw[yb (by omega)]
 ·unfold qa4;rw[yb (by omega)]
 ·obtain⟨n,rfl⟩: ∃n:Nat,k=n:=⟨k.toNat,by omega⟩;have hn:n<8:=by omega
  have:n=0\/n=1\/n=2\/n=3\/n=4\/n=5\/n=6\/n=7:=by omega
  rcases this with rfl|rfl|rfl|rfl|rfl|rfl|rfl|rfl<;>rfl
def xcao(b:LI)(s:Int)(hp:qdu b=true):xb94 b s=zR [.cl (.agg [.int .i64 4,.sli .u8 b,.slg 3 qcg]),.cl (.bool (decide ((b.length:Int)=s)))] [some ⟨.var [.cl (.int .i64 s)],false⟩]:=qam hp rfl
def xcak(l:LC)(lo hi s:Int)(hp:qvj l=true):xb91 l lo hi s=zR [.cl (.slg 3 (dgL s lo hi l)),.cl (.bool (dgB s lo hi l))] [some ⟨.var [.cl (.int .i64 s)],false⟩]:=by
 obtain⟨hl,hr⟩:=qop hp;rw[xbsc,xbxx];refine xbxz (f:=digF s) (w:=56) (out:=(fun s x b=>zR [.cl (.slg 3 x),.cl (.bool b)] [some ⟨.var [.cl (.int .i64 s)],false⟩])) (S:=qy6) hl (fun again k0 k1 i acc x fx hi ha hx hf=> ?_) fun again k0 k1 acc=>qca (by omega) rfl;obtain⟨b,rfl,hb⟩:=hr x (zad hx);unfold qy6;simp only[qcf];refine qaq (by omega) (qaz (by omega) hx (qam rfl (qam (qia hb) ?_)));refine qut (y:=qbm 4 b []) (w:=56) (A:=fun a c acc=>again a l (l.length:Int) c s acc) ?_ ha ?_ ?_
 rotate_left
 ·omega
 ·omega
 rw[<- hf];unfold digF;rw[qja];rfl
def xb7o(l:LC)(lo hi s:Int)(hp:qvj l=true):xb56 l lo hi s=zR [.cl (.agg [.int .i64 48,.sli .u8 qa6,.slg 3 (dgL s lo hi l)]),.cl (.bool (dgB s lo hi l))] [some ⟨.var [.cl (.int .i64 s)],false⟩]:=
 qam hp (qam (qci (by rw[xbsc];have:=(qop hp).1;have:=@q7d _ _ (digF s) lo hi l;omega)) rfl)
def xb6z(l:LC)(s:Int)(hp:qvj l=true):xb50 l s=zR [.cl (.agg [.int .i64 48,.sli .u8 qa6,.slg 3 (dgL s 1 64 l)]),.cl (.bool (dgB s 1 64 l))] [some ⟨.var [.cl (.int .i64 s)],false⟩]:=qam hp rfl
def xb6r(s:Int)(hp:true=true):xb5t s=zR [.fn (.func 186) [] [.ptr 0 0 0]] [some ⟨.var [.cl (.int .i64 s)],false⟩]:=rfl
open IntWalk (i64_in u8_in u32_in u64_in i64_quo u8_quo rem_in)
def qfs{l:LC}(h:qhh l=true):l.length<=1000000/\∀c∈l, ∃t b k,c=.agg [.int .i64 t,.sli .u8 b,.slg 3 k]/\isS [.int .i64 t,.sli .u8 b,.slg 3 k]=true:=by unfold qhh at h;rw[qab] at h;exact @ye _ (ya _) h
def q8s{l:LC}(h:l.length<=1000000/\∀c∈l, ∃t b k,c=.agg [.int .i64 t,.sli .u8 b,.slg 3 k]/\isS [.int .i64 t,.sli .u8 b,.slg 3 k]=true):qhh l=true:=by unfold qhh;rw[qab];exact @yf _ (ya _) h
def q1m(lo hi:Int)(l:LC):q1l lo hi l=evL qou lo hi l:=by unfold q1l;rw[qab]
def q1k(lo hi:Int)(l:LC):q1j lo hi l=evB qou lo hi l:=by unfold q1j;rw[qab]
def qwh(lo hi:Int)(l:LC):qt9 lo hi l=evL qc3 lo hi l:=by unfold qt9;rw[qab]
def qwg(lo hi:Int)(l:LC):qt8 lo hi l=evB qc3 lo hi l:=by unfold qt8;rw[qab]
def qv5(lo hi:Int)(l:LC):qt2 lo hi l=evL qov lo hi l:=by unfold qt2;rw[qab]
def qv4(lo hi:Int)(l:LC):qt1 lo hi l=evB qov lo hi l:=by unfold qt1;rw[qab]
def qs3(lo hi:Int)(l:LC):qno lo hi l=evL qdf lo hi l:=by unfold qno;rw[qab]
def qs2(lo hi:Int)(l:LC):qnn lo hi l=evB qdf lo hi l:=by unfold qnn;rw[qab]
def q1b(lo hi:Int)(l:LC):q1a lo hi l=evL algV lo hi l:=by unfold q1a;rw[qab]
def q09(lo hi:Int)(l:LC):q08 lo hi l=evB algV lo hi l:=by unfold q08;rw[qab]
def xbzz(g t:Int)(b:LI)(k:LC):ldL g t b k=qcj qou g t b k:=by unfold ldL;rw[qab]
def xbzy(g t:Int)(b:LI)(k:LC):ldB g t b k=qe0 qou g t b k:=by unfold ldB;rw[qab]
def xbz6(g t:Int)(b:LI)(k:LC):lpL g t b k=qcj qc3 g t b k:=by unfold lpL;rw[qab]
def xbz5(g t:Int)(b:LI)(k:LC):lpB g t b k=qe0 qc3 g t b k:=by unfold lpB;rw[qab]
def xbz4(g t:Int)(b:LI)(k:LC):lmL g t b k=qcj qov g t b k:=by unfold lmL;rw[qab]
def xbz3(g t:Int)(b:LI)(k:LC):lmB g t b k=qe0 qov g t b k:=by unfold lmB;rw[qab]
def xbzx(g t:Int)(b:LI)(k:LC):lcL g t b k=qcj qdf g t b k:=by unfold lcL;rw[qab]
def xbzw(g t:Int)(b:LI)(k:LC):lcB g t b k=qe0 qdf g t b k:=by unfold lcB;rw[qab]
def xbzu(g t:Int)(b:LI)(k:LC):laL g t b k=qcj algV g t b k:=by unfold laL;rw[qab]
def xbzt(g t:Int)(b:LI)(k:LC):laB g t b k=qe0 algV g t b k:=by unfold laB;rw[qab]
def q5c(lo hi:Int)(l:LI):xbny lo hi l=evL q64 lo hi l:=by unfold xbny;rw[qab]
def xbrz(lo hi:Int)(l:LI):xbry lo hi l=evB q64 lo hi l:=by unfold xbry;rw[qab]
def xbg1{d:Int}{t:LC}{w:LI}(h:qdg d t w=true):q8j d t w=(48,qmj d t w):=by unfold q8j;rw[qab,yc h]
def qrp(d:Int)(t:LC)(w:LI):q2j d t w=qdg d t w:=by unfold q2j;rw[qab]
def q8k(t:Int)(b:LI)(k:LC):markOf t b k=qc7 t b k:=by unfold markOf;rw[qab]
def sl8(b:LI):CV:=.sli .u8 b
def sg1(b:LC):CV:=.slg 1 b
def sg3(b:LC):CV:=.slg 3 b
def b_if{β:Type}{B:Bool}{x y:β}:cond B x y=if B=true then x else y:=by cases B<;>rfl
def qmq{β:Type}{f:CV->Option β}{g t:Int}{b:LI}{k:LC}(h:(qb0 g t b k).2=0):qe0 f g t b k=evB f 0 ((qb0 g t b k).1.length:Int) (qb0 g t b k).1/\qcj f g t b k=evL f 0 ((qb0 g t b k).1.length:Int) (qb0 g t b k).1:=by
 have e:qe0 f g t b k=evB f 0 ((qb0 g t b k).1.length:Int) (qb0 g t b k).1:=by unfold qe0 evB;rw[yf h,yf (by omega)]
 refine⟨e, ?_⟩;unfold qcj evL;rw[e]
def qmr{β:Type}{f:CV->Option β}{g t:Int}{b:LI}{k:LC}(h: ¬(qb0 g t b k).2=0):qe0 f g t b k=false/\qcj f g t b k=[]:=by
 have e:qe0 f g t b k=false:=by unfold qe0;rw[decide_eq_false h];rfl
 refine⟨e, ?_⟩;unfold qcj;rw[e];rfl
def xcam(l:LC)(lo hi s:Int)(hp:quw l=true):xb93 l lo hi s=zR [.cl (.slg 3 (xb15 s lo hi l)),.cl (.bool (xb14 s lo hi l))] [some ⟨.var [.cl (.int .i64 s)],false⟩]:=by
 obtain⟨hl,hr⟩:=qlf hp;rw[xbhl,xbhk];refine xbxz (f:=qj9 s) (w:=56) (out:=(fun s x b=>zR [.cl (.slg 3 x),.cl (.bool b)] [some ⟨.var [.cl (.int .i64 s)],false⟩])) (S:=qy8) hl (fun again k0 k1 i acc x fx hi ha hx hf=> ?_) fun again k0 k1 acc=>qca (by omega) rfl;obtain⟨b,rfl,hb⟩:=hr x (zad hx);unfold qy8;simp only[qbq,xbsc,xbxx];refine qaq (by omega) (qaz (by omega) hx (qam rfl (qam (q58 hb) ?_)));refine qut (y:=qbm 48 [] (evL (digF s) 1 64 b)) (w:=56) (A:=fun a c acc=>again a l (l.length:Int) c s acc) ?_ ha ?_ ?_
 rotate_left
 ·omega
 ·omega
 rw[<- hf];unfold qj9;rw[b_if];rfl
def xcal(l:LC)(lo hi:Int)(hp:qps l=true):xb92 l lo hi=zR [.cl (.slg 3 (qt0 lo hi l)),.cl (.bool (qtz lo hi l))] []:=by
 obtain⟨hl,hr⟩:=qv3 hp;replace hl:l.length<=1000000:=by omega
 rw[qzh,q8l];refine q1o (f:=qkf) (w:=56) (out:=(fun x b=>zR [.cl (.slg 3 x),.cl (.bool b)] [])) (S:=qy7) hl (fun again k0 k1 i acc x fx hi ha hx hf=> ?_) fun again k0 k1 acc=>qca (by omega) rfl;obtain⟨d,t,w,rfl,ht,hw⟩:=hr x (zad hx);unfold qy7;simp only[qbq,qrp];refine qaq (by omega) (qaz (by omega) hx (qam rfl (qam (by show(quw t&&qad w)=true;rw[q0j ht];exact hw) ?_)));refine qut (B:=qdg d t w) (y:=qbm (q8j d t w).1 [] (q8j d t w).2) (w:=56) (A:=fun a c acc=>again a l (l.length:Int) c acc) ?_ ha ?_ ?_
 rotate_left
 ·omega
 ·omega
 rw[<- hf];show(if qdg d t w=true then some (qbm 48 [] (qmj d t w)) else none)=_
 cases hm:qdg d t w with
 | false=>rfl
 | true=>rw[xbg1 hm];rfl
def xcaj(l:LC)(lo hi:Int)(hp:qcb l=true):xb90 l lo hi=zR [.cl (.slg 3 (qs0 lo hi l)),.cl (.bool (qnm lo hi l))] []:=by
 obtain⟨hl,hr⟩:=qds hp;replace hl:l.length<=1000000:=by omega
 rw[qym,qq6];refine q1o (f:=qd4) (w:=56) (out:=(fun x b=>zR [.cl (.slg 3 x),.cl (.bool b)] [])) (S:=qy5) hl (fun again k0 k1 i acc x fx hi ha hx hf=> ?_) fun again k0 k1 acc=>qca (by omega) rfl;obtain⟨m,rfl,hm⟩:=hr x (zad hx);unfold qy5;simp only[qbq,qzh,q8l];refine qaq (by omega) (qaz (by omega) hx (qam rfl (qam (xblm hm) ?_)));refine qut (y:=qbm 48 [] (evL qkf 1 20 m)) (w:=56) (A:=fun a c acc=>again a l (l.length:Int) c acc) ?_ ha ?_ ?_
 rotate_left
 ·omega
 ·omega
 rw[<- hf];unfold qd4;rw[b_if];rfl
def xb6v(l:LC)(lo hi:Int)(hp:qhh l=true):xb5x l lo hi=zR [.cl (.slg 1 (q1l lo hi l)),.cl (.bool (q1j lo hi l))] []:=by
 obtain⟨hl,hr⟩:=qfs hp;rw[q1m,q1k];refine q1o (f:=qou) (w:=24) (out:=(fun x b=>zR [.cl (.slg 1 x),.cl (.bool b)] [])) (S:=qtr) hl (fun again k0 k1 i acc x fx hi ha hx hf=> ?_) fun again k0 k1 acc=>qca (by omega) rfl;obtain⟨t,b,k,rfl,hs⟩:=hr x (zad hx);unfold qtr;refine qaq (by omega) (qaz (by omega) hx (qam rfl (qam hs ?_)));refine qut (y:=sl8 (qa2 t b k).1) (w:=24) (A:=fun a c acc=>again a l (l.length:Int) c acc) ?_ ha ?_ ?_
 rotate_left
 ·omega
 ·omega
 rw[<- hf];unfold qou;rw[qja];rfl
def xb6x(l:LC)(lo hi:Int)(hp:qhh l=true):xb5z l lo hi=zR [.cl (.slg 1 (qt9 lo hi l)),.cl (.bool (qt8 lo hi l))] []:=by
 obtain⟨hl,hr⟩:=qfs hp;rw[qwh,qwg];refine q1o (f:=qc3) (w:=24) (out:=(fun x b=>zR [.cl (.slg 1 x),.cl (.bool b)] [])) (S:=qtt) hl (fun again k0 k1 i acc x fx hi ha hx hf=> ?_) fun again k0 k1 acc=>qca (by omega) rfl;obtain⟨t,b,k,rfl,hs⟩:=hr x (zad hx);unfold qtt;simp only[xbzz,xbzy];refine qaq (by omega) (qaz (by omega) hx (qam rfl (qam hs ?_)));refine qut (y:=sg1 (qcj qou 48 t b k)) (w:=24) (A:=fun a c acc=>again a l (l.length:Int) c acc) ?_ ha ?_ ?_
 rotate_left
 ·omega
 ·omega
 rw[<- hf];unfold qc3;rw[b_if];rfl
def xb6w(l:LC)(lo hi:Int)(hp:qhh l=true):xb5y l lo hi=zR [.cl (.slg 3 (qt2 lo hi l)),.cl (.bool (qt1 lo hi l))] []:=by
 obtain⟨hl,hr⟩:=qfs hp;rw[qv5,qv4];refine q1o (f:=qov) (w:=56) (out:=(fun x b=>zR [.cl (.slg 3 x),.cl (.bool b)] [])) (S:=qts) hl (fun again k0 k1 i acc x fx hi ha hx hf=> ?_) fun again k0 k1 acc=>qca (by omega) rfl;obtain⟨t,b,k,rfl,hs⟩:=hr x (zad hx);unfold qts;simp only[q8k];refine qaq (by omega) (qaz (by omega) hx (qam rfl (qam hs ?_)));refine qut (y:=qu5 (qc7 t b k).1 (qc7 t b k).2.1 (qc7 t b k).2.2.1) (w:=56) (A:=fun a c acc=>again a l (l.length:Int) c acc) ?_ ha ?_ ?_
 rotate_left
 ·omega
 ·omega
 rw[<- hf];unfold qov;rw[b_if];rfl
def xb6u(l:LC)(lo hi:Int)(hp:qhh l=true):xb5w l lo hi=zR [.cl (.slg 1 (qno lo hi l)),.cl (.bool (qnn lo hi l))] []:=by
 obtain⟨hl,hr⟩:=qfs hp;rw[qs3,qs2];refine q1o (f:=qdf) (w:=24) (out:=(fun x b=>zR [.cl (.slg 1 x),.cl (.bool b)] [])) (S:=qtq) hl (fun again k0 k1 i acc x fx hi ha hx hf=> ?_) fun again k0 k1 acc=>qca (by omega) rfl;obtain⟨t,b,k,rfl,hs⟩:=hr x (zad hx);unfold qtq;simp only[xbz4,xbz3];refine qaq (by omega) (qaz (by omega) hx (qam rfl (qam hs ?_)));refine qut (y:=sg3 (qcj qov 48 t b k)) (w:=24) (A:=fun a c acc=>again a l (l.length:Int) c acc) ?_ ha ?_ ?_
 rotate_left
 ·omega
 ·omega
 rw[<- hf];unfold qdf;rw[b_if];rfl
def xb6t(l:LC)(lo hi:Int)(hp:qhh l=true):xb5v l lo hi=zR [.cl (.sli .i64 (q1a lo hi l)),.cl (.bool (q08 lo hi l))] []:=by
 obtain⟨hl,hr⟩:=qfs hp;rw[q1b,q09];refine q1o (f:=algV) (w:=8) (out:=(fun x b=>zR [.cl (.sli .i64 x),.cl (.bool b)] [])) (S:=qtp) hl (fun again k0 k1 i acc x fx hi ha hx hf=> ?_) fun again k0 k1 acc=>qca (by omega) rfl;obtain⟨t,b,k,rfl,hs⟩:=hr x (zad hx);unfold qtp;refine qaq (by omega) (qaz (by omega) hx (qam rfl (qam hs ?_)));refine qut (y:=(qb2 t b k).1) (w:=8) (A:=fun a c acc=>again a l (l.length:Int) c acc) ?_ ha ?_ ?_
 rotate_left
 ·omega
 ·omega
 rw[<- hf];unfold algV;rw[qja];rfl
def xb7p(l:LC)(lo hi:Int)(hp:qps l=true):xb57 l lo hi=zR [.cl (.agg [.int .i64 48,.sli .u8 qa6,.slg 3 (qt0 lo hi l)]),.cl (.bool (qtz lo hi l))] []:=
 qam hp (qam (qci (by rw[qzh];have:=(qv3 hp).1;have:=@q7d _ _ qkf lo hi l;omega)) rfl)
def xbud(l:LC)(hp:qps l=true):xbs1 l=zR [.cl (.agg [.int .i64 48,.sli .u8 qa6,.slg 3 (qt0 1 20 l)]),.cl (.bool (qtz 1 20 l))] []:=qam hp rfl
def xb7n(l:LC)(lo hi:Int)(hp:qcb l=true):xb55 l lo hi=zR [.cl (.agg [.int .i64 48,.sli .u8 qa6,.slg 3 (qs0 lo hi l)]),.cl (.bool (qnm lo hi l))] []:=
 qam hp (qam (qci (by rw[qym];have:=(qds hp).1;have:=@q7d _ _ qd4 lo hi l;omega)) rfl)
def xblu(l:LC)(hp:qcb l=true):xbk1 l=zR [.cl (.agg [.int .i64 48,.sli .u8 qa6,.slg 3 (qs0 1 10 l)]),.cl (.bool (qnm 1 10 l))] []:=qam hp rfl
def xbgb: ∀ {l:List Nat} {x:Nat},x∈l->x<=l.sum
 | y::r,x,h=>by
  rcases zaw.1 h with rfl|h
  ·simp
  ·have:=xbgb h;simp only[zcf];omega
def qg3{t:Int}{b:LI}{k:LC}(h:isS [.int .i64 t,.sli .u8 b,.slg 3 k]=true):qhh k=true/\k.length<=30000:=by
 obtain⟨n,hn,hb⟩:=qc8 h;obtain⟨m,t',b',k',rfl,e,hb',hk⟩:=qdi hn;simp only[zcg,CV.int.injEq,CV.sli.injEq,CV.slg.injEq,and_true,true_and] at e;obtain⟨rfl,rfl,rfl⟩:=e;have hbb:1+b.length+(k.map fun c=>qee m (cell1 c)).sum<=30000:=hb;have hpos: ∀c∈k,1<=qee m (cell1 c):=fun c hc=>by obtain⟨y,rfl,hy⟩:=hk c hc;obtain⟨m',t',b',k',rfl,rfl,_,_⟩:=qdi hy;show 1<=1+b'.length+_;omega
 have hle: ∀c∈k,qee m (cell1 c)<=(k.map fun c=>qee m (cell1 c)).sum:=fun c hc=>xbgb (List.mem_map_of_mem hc);have hlen: ∀l:LC,(∀c∈l,1<=qee m (cell1 c))->l.length<=(l.map fun c=>qee m (cell1 c)).sum:=fun l=>by
  induction l with
  | nil=>intro _;simp
  | cons x r ih=>
   intro h;have:=ih fun c hc=>h c (by simp[hc]);have:=h x (by simp);simp only[zac,zbf,zcf];omega
 have h1:=hlen k hpos;refine⟨q8s ⟨by omega,fun c hc=> ?_⟩,by omega⟩;obtain⟨y,rfl,hy⟩:=hk c hc;obtain⟨m',t',b',k',_,rfl,_,_⟩:=qdi hy;have:=hle _ hc;exact⟨t',b',k',rfl,xbax hy (by show qee m (cell1 (.agg _))<=30000;omega)⟩
def qji{g t:Int}{b:LI}{k:LC}(h:isS [.int .i64 t,.sli .u8 b,.slg 3 k]=true):qhh (qb0 g t b k).1=true:=by
 by_cases h0:(qb0 g t b k).2=0
 ·rw[qfg h0];exact(qg3 h).1
 ·rw[q6u h0];exact q8s ⟨by simp,fun c hc=>by simp at hc⟩
def xb62(t:Int)(b:LI)(k:LC)(g:Int)(hp:isS [.int .i64 t,.sli .u8 b,.slg 3 k]=true):xbyo t b k g=zR [.cl (.slg 1 (ldL g t b k)),.cl (.bool (ldB g t b k))] []:=by
 unfold xbyo;rw[xbzz,xbzy];refine qam (qci (by have:=(qg3 hp).2;omega)) (qa0 (fun h=> ?_) fun h=>qam (qji hp) ?_)
 ·rw[(qmr h).1,(qmr h).2]
 ·rw[(qmq h).1,(qmq h).2, <- q1m, <- q1k]
def xb64(t:Int)(b:LI)(k:LC)(g:Int)(hp:isS [.int .i64 t,.sli .u8 b,.slg 3 k]=true):xbyq t b k g=zR [.cl (.slg 1 (lpL g t b k)),.cl (.bool (lpB g t b k))] []:=by
 unfold xbyq;rw[xbz6,xbz5];refine qam (qci (by have:=(qg3 hp).2;omega)) (qa0 (fun h=> ?_) fun h=>qam (qji hp) ?_)
 ·rw[(qmr h).1,(qmr h).2]
 ·rw[(qmq h).1,(qmq h).2, <- qwh, <- qwg]
def xb63(t:Int)(b:LI)(k:LC)(g:Int)(hp:isS [.int .i64 t,.sli .u8 b,.slg 3 k]=true):xbyp t b k g=zR [.cl (.slg 3 (lmL g t b k)),.cl (.bool (lmB g t b k))] []:=by
 unfold xbyp;rw[xbz4,xbz3];refine qam (qci (by have:=(qg3 hp).2;omega)) (qa0 (fun h=> ?_) fun h=>qam (qji hp) ?_)
 ·rw[(qmr h).1,(qmr h).2]
 ·rw[(qmq h).1,(qmq h).2, <- qv5, <- qv4]
def xb61(t:Int)(b:LI)(k:LC)(g:Int)(hp:isS [.int .i64 t,.sli .u8 b,.slg 3 k]=true):xbyn t b k g=zR [.cl (.slg 1 (lcL g t b k)),.cl (.bool (lcB g t b k))] []:=by
 unfold xbyn;rw[xbzx,xbzw];refine qam (qci (by have:=(qg3 hp).2;omega)) (qa0 (fun h=> ?_) fun h=>qam (qji hp) ?_)
 ·rw[(qmr h).1,(qmr h).2]
 ·rw[(qmq h).1,(qmq h).2, <- qs3, <- qs2]
def xb60(t:Int)(b:LI)(k:LC)(g:Int)(hp:isS [.int .i64 t,.sli .u8 b,.slg 3 k]=true):xbym t b k g=zR [.cl (.sli .i64 (laL g t b k)),.cl (.bool (laB g t b k))] []:=by
 unfold xbym;rw[xbzu,xbzt];refine qam (qci (by have:=(qg3 hp).2;omega)) (qa0 (fun h=> ?_) fun h=>qam (qji hp) ?_)
 ·rw[(qmr h).1,(qmr h).2]
 ·rw[(qmq h).1,(qmq h).2, <- q1b, <- q09]
def xb0t(t:Int)(b:LI)(k:LC)(hp:isS [.int .i64 t,.sli .u8 b,.slg 3 k]=true):xbyj t b k=zR [.cl (.sli .u8 (qa2 t b k).1),.cl (.bool (decide ((qa2 t b k).2=0)))] []:=qam hp rfl
def xbug(t:Int)(b:LI)(k:LC)(hp:isS [.int .i64 t,.sli .u8 b,.slg 3 k]=true):xbs2 t b k=zR [.cl (.slg 1 (ldL 48 t b k)),.cl (.bool (ldB 48 t b k))] []:=qam hp rfl
def xblt(t:Int)(b:LI)(k:LC)(hp:isS [.int .i64 t,.sli .u8 b,.slg 3 k]=true):xbk0 t b k=zR [.cl (.slg 3 (lmL 48 t b k)),.cl (.bool (lmB 48 t b k))] []:=qam hp rfl
def xb0s(t:Int)(b:LI)(k:LC)(hp:isS [.int .i64 t,.sli .u8 b,.slg 3 k]=true):xbyi t b k=zR [.cl (.int .i64 (qb2 t b k).1),.cl (.bool (decide ((qb2 t b k).2.2=0)))] []:=qam hp rfl
def qwr{l:LI}(h:qvk l=true):l.length<=1000000:=by unfold qvk at h;rw[qab] at h;exact ye h
def xbnb{l:LI}(h:l.length<=1000000):qvk l=true:=by unfold qvk;rw[qab];exact yf h
def qsp(g:Int)(b:LI):qbs g b=qga g b:=by unfold qbs;rw[qab]
def xcai(l:LI)(lo hi:Int)(hp:qvk l=true):xb9z l lo hi=zR [.cl (.slg 3 (xbny lo hi l)),.cl (.bool (xbry lo hi l))] []:=by
 have hl:=qwr hp;rw[q5c,xbrz];refine q1o (f:=q64) (w:=56) (out:=(fun x b=>zR [.cl (.slg 3 x),.cl (.bool b)] [])) (S:=qy4) hl (fun again k0 k1 i acc x fx hi ha hx hf=> ?_) fun again k0 k1 acc=>qca (by omega) rfl;unfold qy4;simp only[qbq,qsp];refine qaq (by omega) (qaz (by omega) hx ?_);refine qut (y:=qsn x) (w:=56) (A:=fun a c acc=>again a l (l.length:Int) c acc) ?_ ha ?_ ?_
 rotate_left
 ·omega
 ·omega
 rw[<- hf];unfold q64;rw[qja]
def xb7m(l:LI)(lo hi:Int)(hp:qvk l=true):xb54 l lo hi=zR [.cl (.agg [.int .i64 48,.sli .u8 qa6,.slg 3 (xbny lo hi l)]),.cl (.bool (xbry lo hi l))] []:=
 qam hp (qam (qci (by rw[q5c];have:=qwr hp;have:=@q7d _ _ q64 lo hi l;omega)) rfl)
def xb6y(g:Int)(hp:true=true):xbyk g=zR [.cl (.agg [.int .i64 (qbs g qa6).1,.sli .u8 qa6,.slg 3 (qbs g qa6).2.1]),.cl (.bool (decide ((qbs g qa6).2.2=0)))] []:=by unfold xbyk;rw[qbq];exact qam (by unfold qdu;rw[qab];rfl) rfl
open IntWalk (i64_in u8_in u32_in u64_in i64_quo u8_quo rem_in)
def qe1{c:Bool}{a b r:OO}(h1:c=false->a=r)(h2:c=true->b=r):cond (!c) a b=r:=by
 cases c with
 | false=>exact h1 rfl
 | true=>exact h2 rfl
def qq0{α β:Type}{f:α->Option β}{lo hi:Int}{l:List α}(h:evB f lo hi l=true):evL f lo hi l=l.filterMap f/\(evL f lo hi l).length=l.length:=by
 have e:evL f lo hi l=l.filterMap f:=by unfold evL;rw[yc h]
 refine⟨e, ?_⟩;unfold evB at h;rw[zab] at h;rw[e];exact qd6 h.2
def xb6f{α β:Type}(f:α->β)(l:List α)(hl:l.length<=1000000)(L:Nat->Nat->Int->List β->OO)(fin:List β->OO)(hstep: ∀(n i:Nat) (acc:List β) (x:α),i<l.length->acc.length=i->l[i]? =some x->L (n+1) i (i:Int) acc=L n (i+1) ((i+1:Nat):Int) (acc++[f x]))(hend: ∀(n:Nat) (acc:List β),L (n+1) l.length (l.length:Int) acc=fin acc)(fuel i:Nat)(acc:List β)(hi:i<=l.length)(ha:acc.length=i)(hf:l.length<fuel+i):L fuel i (i:Int) acc=fin (acc++(l.drop i).map f):=by have:=qqf (fun x=>some (f x)) l hl L none fin hstep hend fuel i acc hi ha hf;rw[this,yc (by simp)];exact congrArg (fun z=>fin (acc++z)) (congrFun (List.filterMap_eq_map (f:=f)) _)
def q62{β:Type}{acc:List β}{y:β}{i w:Nat}{A:Nat->Int->List β->OO}(ha:acc.length=i)(hi:i<1000000)(hw:w<=100):
  rmK (acc++[y]).length w (A (acc++[y]).length (i64.wrap ((i:Int)+1)) (acc++[y]))=A (i+1) ((i+1:Nat):Int) (acc++[y]):=
 xbdo (l:=([]:LI)) (n:=0) (again:=fun a _ _ c d=>A a c d) ha hi hw
def xbts{d:Int}{t:LC}{w:LI}(h:qdg d t w=false):q8j d t w=(0,[]):=by unfold q8j;rw[qab,yb (by rw[h];simp)]
def qd7{d:Int}{t:LC}{w:LI}:qdg d t w=true↔(qaf d).2.1=1/\(qan w).2=0/\evB (qj9 (qa4 d)) 0 20 t=true:=by unfold qdg;simp only[zab,yd]
def qoc{d:Int}{t:LC}{w:LI}(h: ¬((qaf d).2.1=1/\(qan w).2=0/\evB (qj9 (qa4 d)) 0 20 t=true)):qdg d t w=false:=zat.2 fun h'=>h (qd7.1 h')
def xb9t(l:LC):vBox 0 l=(160,l,0):=q9r (by omega)
def xb9u(l:LC):vBox 2 l=(162,l,0):=q9r (by omega)
def xb0u(d:Int)(t:LC)(w:LI)(hp:(quw t&&qad w)=true):xbod d t w=zR [.cl (.agg [.int .i64 (q8j d t w).1,.sli .u8 qa6,.slg 3 (q8j d t w).2]),.cl (.bool (q2j d t w))] []:=by
 rw[zab] at hp;obtain⟨ht,hw⟩:=hp;obtain⟨hl,_⟩:=qlf ht;obtain⟨hi1,hi2⟩:=qpj d;unfold xbod;simp only[qjf,qcf,qbq,qn9,xbhl,xbhk,qrp,xb9t,xb9u];have bad:qdg d t w=false->zR [.cl (.agg [.int .i64 0,.sli .u8 [],.slg 3 []]),.cl (.bool false)] []=zR [.cl (.agg [.int .i64 (q8j d t w).1,.sli .u8 [],.slg 3 (q8j d t w).2]),.cl (.bool (qdg d t w))] []:=fun h=>by rw[h,xbts h]
 refine qa0 (fun h=>bad (qoc fun h'=>h h'.1)) fun h=>qam (q71 (by omega) hi2) (qam (qci (by simp)) (qam hw (qam ht (qa0 (fun h2=>bad (qoc fun h'=>h2 h'.2.1)) fun h2=>qe1 (fun h3=>bad (qoc fun h'=>by rw[h3] at h';simp at h')) fun h3=> ?_))));have e:=qq0 h3;rw[xbg1 (qd7.2 ⟨h,h2,h3⟩),qd7.2 ⟨h,h2,h3⟩];unfold qmj;refine qae (fun h4=>qam (qci (by simp)) ?_) fun h4=>qam (qci (by omega)) (qam (qci (by simp)) ?_)
 ·rw[yc (zby.1 (by omega))];rfl
 ·rw[yb (fun h5=>h4 (by rw[e.2,h5];rfl))];rfl
def xcaa(K0:OO)(K1:Nat->Int->Nat->Int->LC->LI->LC->LC->Int->LI->LC->OO)(m i:Nat)(d:Int)(t:LC)(w:LI)(P:LC)(x1:Int)(x2:LI)(x3 row:LC)(hx:t[i]? =some (.slg 1 row))(hr:xbcg row):
  qg9 K0 K1 FUEL m i 0 0 d t w P [] x1 x2 x3=if row.all (fun c=>(digF (qa4 d) c).isSome)=true then K1 m i row.length d t w P (row.filterMap (digF (qa4 d))) x1 x2 x3 else K0:=by
 refine(qqf (digF (qa4 d)) row hr.1 (fun n a j acc=>qg9 K0 K1 n m i a j d t w P acc x1 x2 x3) K0 (fun y=>K1 m i row.length d t w P y x1 x2 x3) (fun n j acc x hj ha hxj=> ?_) (fun n acc=> ?_) FUEL 0 [] (zbc _) rfl (by have:=hr.1;unfold FUEL;omega)).trans rfl
 ·show qin (qg9 K0 K1 n) K0 K1 m i j j d t w P acc x1 x2 x3=_;obtain⟨b,rfl,hb⟩:=hr.2 x (zad hxj);unfold qin;simp only[qcf,qn9];refine qaz (by omega) hx (qam rfl (qaq (show(j:Int)<(row.length:Int) by omega) (qaz (by omega) hx (qam rfl (qaz (by omega) hxj (qam rfl ?_))))));refine qa0 (fun h=> ?_) fun h=>qaz (by omega) hx (qam rfl (qaz (by omega) hxj (qam rfl (qam (qia hb) ?_))))
  ·have:digF (qa4 d) (.sli .u8 b)=none:=by unfold digF;exact yb h
   rw[this]
  ·have:digF (qa4 d) (.sli .u8 b)=some (qbm 4 b []):=by unfold digF;exact yc h
   rw[this];exact q62 (w:=56) (y:=qbm 4 b []) (A:=fun a c acc=>qg9 K0 K1 n m i a c d t w P acc x1 x2 x3) ha (by have:=hr.1;omega) (by omega)
 ·show qin (qg9 K0 K1 n) K0 K1 m i row.length row.length d t w P acc x1 x2 x3=_;unfold qin;exact qaz (by omega) hx (qam rfl (qca (show ¬((row.length:Int)<(row.length:Int)) by omega) rfl))
def lpR8(K0:OO)(K1:Nat->Int->LC->LI->LC->Int->LI->LC->OO)(d:Int)(t:LC)(w:LI)(x1:Int)(x2:LI)(x3:LC)(ht:xbch t):
  qjp K0 K1 FUEL 0 0 d t w [] x1 x2 x3=if t.all (fun c=>(qj9 (qa4 d) c).isSome)=true then K1 t.length d t w (t.filterMap (qj9 (qa4 d))) x1 x2 x3 else K0:=by
 refine(qqf (qj9 (qa4 d)) t ht.1 (fun n a j acc=>qjp K0 K1 n a j d t w acc x1 x2 x3) K0 (fun y=>K1 t.length d t w y x1 x2 x3) (fun n j acc x hj ha hxj=> ?_) (fun n acc=> ?_) FUEL 0 [] (zbc _) rfl (by have:=ht.1;unfold FUEL;omega)).trans rfl
 ·show qk5 (qjp K0 K1 n) K0 K1 j j d t w acc x1 x2 x3=_;obtain⟨row,rfl,hr⟩:=ht.2 x (zad hxj);have hx':t[(j:Int).toNat]? =some (.slg 1 row):=hxj;unfold qk5;simp only[qbq,qab];rw[xcaa _ _ j j d t w acc x1 x2 x3 row hxj hr];have part:qj9 (qa4 d) (.slg 1 row)=if evB (digF (qa4 d)) 1 64 row=true then some (qbm 48 [] (evL (digF (qa4 d)) 1 64 row)) else none:=rfl
  have no: ¬evB (digF (qa4 d)) 1 64 row=true->qj9 (qa4 d) (.slg 1 row)=none:=fun h=>by rw[part,yb h]
  have rl:(row.length:Int)<1\/(64:Int)<(row.length:Int)-> ¬evB (digF (qa4 d)) 1 64 row=true:=fun h h'=>by unfold evB at h';rw[zab,yd] at h';omega
  refine qaq (show(j:Int)<(t.length:Int) by omega) (qaz (by omega) hx' (qam rfl (qae (fun h=> ?_) fun h=>qaz (by omega) hx' (qam rfl (qae (fun h2=> ?_) fun h2=> ?_)))))
  ·rw[no (rl (Or.inl h))]
  ·rw[no (rl (Or.inr h2))]
  ·have h: ¬(row.length:Int)<1:=h;have h2: ¬(64:Int)<(row.length:Int):=h2;have e:evB (digF (qa4 d)) 1 64 row=row.all (fun c=>(digF (qa4 d) c).isSome):=by unfold evB;rw[yf (by omega)];rfl
   by_cases ha':row.all (fun c=>(digF (qa4 d) c).isSome)=true
   ·rw[yc ha',part,yc (e.trans ha')];have e2:=qq0 (e.trans ha');rw[e2.1];have hl:(row.filterMap (digF (qa4 d))).length=row.length:=qd6 ha';refine qam (qci (by have:=hr.1;omega)) ?_;exact q62 (w:=56) (y:=qbm 48 [] (row.filterMap (digF (qa4 d)))) (A:=fun a c acc=>qjp K0 K1 n a c d t w acc x1 x2 x3) ha (by have:=ht.1;omega) (by omega)
   ·rw[yb ha'];rw[no (fun h'=>ha' (e.symm.trans h'))]
 ·show qk5 (qjp K0 K1 n) K0 K1 t.length t.length d t w acc x1 x2 x3=_;unfold qk5;exact qca (show ¬((t.length:Int)<(t.length:Int)) by omega) rfl
def xb7h(d:Int)(t:LC)(w:LI)(hp:(quw t&&qad w)=true):xbyz d t w=zR [.cl (.agg [.int .i64 (q50 d t w).1,.sli .u8 qa6,.slg 3 (q50 d t w).2]),.cl (.bool (q2j d t w))] []:=by
 rw[zab] at hp;obtain⟨ht,hw⟩:=hp;have htC:=qlf ht;obtain⟨hl,hr⟩:=htC;obtain⟨hi1,hi2⟩:=qpj d;unfold xbyz;simp only[qjf,qcf,qbq,qrp,xb9t,xb9u,qab];have bad: ¬((qaf d).2.1=1/\evB (qj9 (qa4 d)) 0 20 t=true)->zR [.cl (.agg [.int .i64 0,.sli .u8 [],.slg 3 []]),.cl (.bool false)] []=zR [.cl (.agg [.int .i64 (q50 d t w).1,.sli .u8 [],.slg 3 (q50 d t w).2]),.cl (.bool (qdg d t w))] []:=fun h=>by rw[qoc fun h'=>h ⟨h'.1,h'.2.2⟩];unfold q50;rw[qab,yb (by simpa only [zab,yd] using h)]
 refine qa0 (fun h=>bad fun h'=>h h'.1) fun h=>qae (fun h2=>bad fun h'=> ?_) fun h2=>qam (q71 (by omega) hi2) (qam (qci (by simp)) ?_)
 ·have:=h'.2;unfold evB at this;rw[zab,yd] at this;omega
 rw[lpR8 _ _ d t w _ _ _ ⟨hl,hr⟩];have e:evB (qj9 (qa4 d)) 0 20 t=t.all (fun c=>(qj9 (qa4 d) c).isSome):=by unfold evB;rw[yf (by omega)];rfl
 by_cases ha:t.all (fun c=>(qj9 (qa4 d) c).isSome)=true
 ·rw[yc ha];have hR:q50 d t w=(48,qmj d t w):=by unfold q50;rw[qab,yc (by rw[zab,yd];exact⟨h,e.trans ha⟩)]
  have hO:qdg d t w=decide ((qan w).2=0):=by unfold qdg;rw[yf h,e.trans ha,zbs,Bool.and_true]
  have e2:=qq0 (e.trans ha);have hl2:(t.filterMap (qj9 (qa4 d))).length=t.length:=qd6 ha;rw[hR,hO];unfold qmj;refine qae (fun h4=>qam (qci (by omega)) (qam hw (qam (qci (by simp)) ?_))) fun h4=>qam hw (qam (qci (by simp)) ?_)
  ·have h4:(0:Int)<(t.length:Int):=h4;rw[yb (fun h5=>by rw[h5] at h4;simp at h4),e2.1];rfl
  ·have h4: ¬(0:Int)<(t.length:Int):=h4;rw[yc (zby.1 (by omega))];rfl
 ·rw[yb ha];exact bad fun h'=>ha (e.symm.trans h'.2)
def xbtt{d:Int}{t:LC}{w:LI}(h:qdg d t w=true):q50 d t w=(48,qmj d t w):=by have h:=qd7.1 h;unfold q50;rw[qab,yc (by rw[zab,yd];exact⟨h.1,h.2.2⟩)]
def xb99(K0:OO)(K1:LC->Nat->Int->Nat->LC->LC->OO)(m i:Nat)(l P row:LC)(hx:l[i]? =some (.slg 3 row))(hr:qod row):
  qeq K0 K1 FUEL l m i 0 0 P []=if row.all (fun c=>(qkf c).isSome)=true then K1 l m i row.length P (row.filterMap qkf) else K0:=by
 refine(qqf qkf row (by have:=hr.1;omega) (fun n a j acc=>qeq K0 K1 n l m i a j P acc) K0 (fun y=>K1 l m i row.length P y) (fun n j acc x hj ha hxj=> ?_) (fun n acc=> ?_) FUEL 0 [] (zbc _) rfl (by have:=hr.1;unfold FUEL;omega)).trans rfl
 ·show qf3 (qeq K0 K1 n) K0 K1 l m i j j P acc=_;obtain⟨d,t,w,rfl,ht,hw⟩:=hr.2 x (zad hxj);obtain⟨fx,hf⟩: ∃fx,qkf (qu5 d t w)=fx:=⟨_,rfl⟩;rw[hf];unfold qf3;simp only[qbq,qrp];refine qaz (by omega) hx (qam rfl (qaq (show(j:Int)<(row.length:Int) by omega) (qaz (by omega) hx (qam rfl (qaz (by omega) hxj (qam rfl (qam (by show(quw t&&qad w)=true;rw[q0j ht];exact hw) ?_)))))));refine qut (B:=qdg d t w) (y:=qbm (q50 d t w).1 [] (q50 d t w).2) (w:=56) (A:=fun a c acc=>qeq K0 K1 n l m i a c P acc) ?_ ha ?_ ?_
  ·rw[<- hf];show(if qdg d t w=true then some (qbm 48 [] (qmj d t w)) else none)=_
   cases hm:qdg d t w with
   | false=>rfl
   | true=>rw[xbtt hm];rfl
  ·have:=hr.1;omega
  ·omega
 ·show qf3 (qeq K0 K1 n) K0 K1 l m i row.length row.length P acc=_;unfold qf3;exact qaz (by omega) hx (qam rfl (qca (show ¬((row.length:Int)<(row.length:Int)) by omega) rfl))
def lpR5(K0:OO)(K1:Nat->LC->OO)(l:LC)(hl:qc0 l):
  qfq K0 K1 FUEL l 0 0 []=if l.all (fun c=>(qd4 c).isSome)=true then K1 l.length (l.filterMap qd4) else K0:=by
 refine(qqf qd4 l (by have:=hl.1;omega) (fun n a j acc=>qfq K0 K1 n l a j acc) K0 (fun y=>K1 l.length y) (fun n j acc x hj ha hxj=> ?_) (fun n acc=> ?_) FUEL 0 [] (zbc _) rfl (by have:=hl.1;unfold FUEL;omega)).trans rfl
 ·show qg7 (qfq K0 K1 n) K0 K1 l j j acc=_;obtain⟨row,rfl,hr⟩:=hl.2 x (zad hxj);have hx':l[(j:Int).toNat]? =some (.slg 3 row):=hxj;unfold qg7;simp only[qbq,qab];rw[xb99 _ _ j j l acc row hxj hr];have part:qd4 (.slg 3 row)=if evB qkf 1 20 row=true then some (qbm 48 [] (evL qkf 1 20 row)) else none:=rfl
  have no: ¬evB qkf 1 20 row=true->qd4 (.slg 3 row)=none:=fun h=>by rw[part,yb h]
  have rl:(row.length:Int)<1\/(20:Int)<(row.length:Int)-> ¬evB qkf 1 20 row=true:=fun h h'=>by unfold evB at h';rw[zab,yd] at h';omega
  refine qaq (show(j:Int)<(l.length:Int) by omega) (qaz (by omega) hx' (qam rfl (qae (fun h=> ?_) fun h=>qaz (by omega) hx' (qam rfl (qae (fun h2=> ?_) fun h2=> ?_)))))
  ·rw[no (rl (Or.inl h))]
  ·rw[no (rl (Or.inr h2))]
  ·have h: ¬(row.length:Int)<1:=h;have h2: ¬(20:Int)<(row.length:Int):=h2;have e:evB qkf 1 20 row=row.all (fun c=>(qkf c).isSome):=by unfold evB;rw[yf (by omega)];rfl
   by_cases ha':row.all (fun c=>(qkf c).isSome)=true
   ·rw[yc ha',part,yc (e.trans ha')];have e2:=qq0 (e.trans ha');rw[e2.1];have hl2:(row.filterMap qkf).length=row.length:=qd6 ha';refine qam (qci (by have:=hr.1;omega)) ?_;exact q62 (w:=56) (y:=qbm 48 [] (row.filterMap qkf)) (A:=fun a c acc=>qfq K0 K1 n l a c acc) ha (by have:=hl.1;omega) (by omega)
   ·rw[yb ha'];rw[no (fun h'=>ha' (e.symm.trans h'))]
 ·show qg7 (qfq K0 K1 n) K0 K1 l l.length l.length acc=_;unfold qg7;exact qca (show ¬((l.length:Int)<(l.length:Int)) by omega) rfl
def xbuo(l:LC)(hp:qcb l=true):xbfj l=zR [.cl (.agg [.int .i64 (qol l).1,.sli .u8 qa6,.slg 3 (qol l).2]),.cl (.bool (qnm 1 10 l))] []:=by
 have hl:=qds hp;unfold xbfj qol;simp only[qbq,qq6,qab];rw[lpR5 _ _ l hl];have rl:(l.length:Int)<1\/(10:Int)<(l.length:Int)-> ¬evB qd4 1 10 l=true:=fun h h'=>by unfold evB at h';rw[zab,yd] at h';omega
 refine qae (fun h=> ?_) fun h=>qae (fun h2=> ?_) fun h2=> ?_
 ·rw[zat.2 (rl (Or.inl h))];rfl
 ·rw[zat.2 (rl (Or.inr h2))];rfl
 ·have e:evB qd4 1 10 l=l.all (fun c=>(qd4 c).isSome):=by unfold evB;rw[yf (by omega)];rfl
  by_cases ha:l.all (fun c=>(qd4 c).isSome)=true
  ·rw[yc ha,e.trans ha,yc rfl,(qq0 (e.trans ha)).1];have hl2:(l.filterMap qd4).length=l.length:=qd6 ha;exact qam (qci (by have:=hl.1;omega)) rfl
  ·rw[yb ha,e,zat.2 ha];rfl
def xbw7{l:LC}(h:qhh l=true){i:Nat}{c:CV}(hc:l[i]? =some c): ∃t b k,c=.agg [.int .i64 t,.sli .u8 b,.slg 3 k]/\isS [.int .i64 t,.sli .u8 b,.slg 3 k]=true:=(qfs h).2 c (zad hc)
def q78(t:Int)(b:LI)(k:LC):qtm t b k=qvc t b k:=by unfold qtm;rw[qab]
def xbue(t:Int)(b:LI)(k:LC)(hp:isS [.int .i64 t,.sli .u8 b,.slg 3 k]=true):xbe5 t b k=zR [.cl (.int .i64 (qtm t b k).1),.cl (.bool (qtm t b k).2)] []:=by
 have hn:=qji (g:=160) hp;unfold xbe5;rw[q78];unfold qvc;refine qam (qci (by have:=(qg3 hp).2;omega)) (qa0 (fun h=> ?_) fun h=>qa0 (fun h2=> ?_) fun h2=>qaq (by omega) ?_)
 ·rw[yc (Or.inl h)]
 ·rw[yc (Or.inr h2)]
 ·rw[yb (by rintro(h'| h');exact h' h;exact h' h2)];generalize (qb0 160 t b k).1=ks at*;have h2:ks.length=1:=by omega
  obtain⟨x,rfl⟩:=List.length_eq_one_iff.1 h2;obtain⟨t',b',k',rfl,hs⟩:=xbw7 hn (i:=0) rfl;exact qam hs rfl
def xbs7{α:Type}{l:List α}{n:Nat}{k:α->OO}{r:OO}{x:α}(hn:l.length=n+1)(hb:n<100)(hx:l[n]? =some x)(hk:k x=r):getK l (i64.wrap ((l.length:Int) - 1)) k=r:=by
 have e:i64.wrap ((l.length:Int) - 1)=(n:Int):=by rw[i64_in _ (by omega)];omega
 rw[e];exact qaz (by omega) hx hk
def len2{α:Type}{l:List α}(h:l.length=2): ∃x y,l=[x,y]:=by
 match l,h with
 | [x,y],_=>exact⟨x,y,rfl⟩
def len3{α:Type}{l:List α}(h:l.length=3): ∃x y z,l=[x,y,z]:=by
 match l,h with
 | [x,y,z],_=>exact⟨x,y,z,rfl⟩
def qzf(x y:CV):qob [x,y]=((qy0 x).1,[],(qoy y).1,(qy0 x).2&&decide ((qoy y).2=0)):=rfl
def qzg(x y z:CV):qob [x,y,z]=((qy0 x).1,qcj qc3 162 (nT y) (nB y) (nK y),(qoy z).1,(qe0 qc3 162 (nT y) (nB y) (nK y)&&decide (0<((qcj qc3 162 (nT y) (nB y) (nK y)).length:Int)))&&((qy0 x).2&&decide ((qoy z).2=0))):=rfl
def xbuf(t:Int)(b:LI)(k:LC)(hp:isS [.int .i64 t,.sli .u8 b,.slg 3 k]=true):xbe6 t b k=zR [.cl (.agg [.int .i64 (markOf t b k).1,.slg 1 (markOf t b k).2.1,.sli .u8 (markOf t b k).2.2.1]),.cl (.bool (markOf t b k).2.2.2)] []:=by
 have hn:=qji (g:=48) hp;unfold xbe6;simp only[q78,xbz6,xbz5,q8k];unfold qc7;refine qam (qci (by have:=(qg3 hp).2;omega)) (qa0 (fun h=> ?_) fun h=> ?_)
 ·rw[yc h]
 rw[yb (fun h'=>h' h)];generalize (qb0 48 t b k).1=ks at*;refine qae (fun h2=> ?_) fun h2=>qae (fun h3=> ?_) fun h3=>qae (fun h4=> ?_) fun h4=> ?_
 ·unfold qob;rw[yc (Or.inl h2)]
 ·unfold qob;rw[yc (Or.inr h3)]
 ·obtain⟨x,y,z,rfl⟩:=len3 (show ks.length=3 by omega);obtain⟨t1,b1,k1,rfl,hs1⟩:=xbw7 hn (i:=0) rfl;obtain⟨t2,b2,k2,rfl,hs2⟩:=xbw7 hn (i:=1) rfl;obtain⟨t3,b3,k3,rfl,hs3⟩:=xbw7 hn (i:=2) rfl;rw[qzg];have fin: ∀ {q:Bool},q=((qe0 qc3 162 t2 b2 k2&&decide (0<((qcj qc3 162 t2 b2 k2).length:Int)))&&((qvc t1 b1 k1).2&&decide ((qbb [.int .i64 t3,.sli .u8 b3,.slg 3 k3]).2=0)))->zR [.cl (.agg [.int .i64 (qvc t1 b1 k1).1,.slg 1 (qcj qc3 162 t2 b2 k2),.sli .u8 (qbb [.int .i64 t3,.sli .u8 b3,.slg 3 k3]).1]),.cl (.bool q)] []=zR [.cl (.agg [.int .i64 (qvc t1 b1 k1).1,.slg 1 (qcj qc3 162 t2 b2 k2),.sli .u8 (qbb [.int .i64 t3,.sli .u8 b3,.slg 3 k3]).1]),.cl (.bool ((qe0 qc3 162 t2 b2 k2&&decide (0<((qcj qc3 162 t2 b2 k2).length:Int)))&&((qvc t1 b1 k1).2&&decide ((qbb [.int .i64 t3,.sli .u8 b3,.slg 3 k3]).2=0))))] []:=fun h=>by rw[h]
  refine qaq (by simp) (qam hs2 (qc5 (fun h5=> ?_) fun h5=> ?_))
  ·have h5:qe0 qc3 162 t2 b2 k2=true:=h5;refine qaq (by simp) (qam hs1 (xbs7 (n:=2) rfl (by omega) rfl (qam rfl (qam hs3 (qae (fun h6=>qc5 (fun h7=> ?_) fun h7=> ?_) fun h6=> ?_)))))
   ·have h6:0<((qcj qc3 162 t2 b2 k2).length:Int):=h6;have h7:(qvc t1 b1 k1).2=true:=h7;exact fin (by rw[h5,h7,yf h6];rfl)
   ·have h7:(qvc t1 b1 k1).2=false:=h7;exact fin (by rw[h7,zda,Bool.and_false])
   ·have h6: ¬0<((qcj qc3 162 t2 b2 k2).length:Int):=h6;exact fin (by rw[decide_eq_false h6,Bool.and_false,zda])
  ·have h5:qe0 qc3 162 t2 b2 k2=false:=h5;refine qaq (by simp) (qam hs1 (xbs7 (n:=2) rfl (by omega) rfl (qam rfl (qam hs3 ?_))));exact fin (by rw[h5,zda,zda])
 ·obtain⟨x,y,rfl⟩:=len2 (show ks.length=2 by omega);obtain⟨t1,b1,k1,rfl,hs1⟩:=xbw7 hn (i:=0) rfl;obtain⟨t2,b2,k2,rfl,hs2⟩:=xbw7 hn (i:=1) rfl;rw[qzf];have fin: ∀ {q:Bool},q=((qvc t1 b1 k1).2&&decide ((qbb [.int .i64 t2,.sli .u8 b2,.slg 3 k2]).2=0))->zR [.cl (.agg [.int .i64 (qvc t1 b1 k1).1,.slg 1 [],.sli .u8 (qbb [.int .i64 t2,.sli .u8 b2,.slg 3 k2]).1]),.cl (.bool q)] []=zR [.cl (.agg [.int .i64 (qvc t1 b1 k1).1,.slg 1 [],.sli .u8 (qbb [.int .i64 t2,.sli .u8 b2,.slg 3 k2]).1]),.cl (.bool ((qvc t1 b1 k1).2&&decide ((qbb [.int .i64 t2,.sli .u8 b2,.slg 3 k2]).2=0)))] []:=fun h=>by rw[h]
  refine qaq (by simp) (qam hs1 (xbs7 (n:=1) rfl (by omega) rfl (qam rfl (qam hs2 (qc5 (fun h5=> ?_) fun h5=> ?_)))))
  ·have h5:(qvc t1 b1 k1).2=true:=h5;exact fin (by rw[h5];rfl)
  ·have h5:(qvc t1 b1 k1).2=false:=h5;exact fin (by rw[h5,zda])
def xb40{α:Type}{o:Option α}{x:α}{k:α->OO}{r:OO}(h:o=some x)(hk:k x=r):Option.bind o k=r:=by rw[h];exact hk
open IntWalk (i64_in u8_in u32_in u64_in i64_quo u8_quo rem_in)
def qte{α σ:Type}(F:σ->α->σ)(s0:σ)(l:List α)(L:Nat->Int->σ->OO)(fin:σ->OO)(hstep: ∀(n i:Nat) (s:σ) (x:α),l[i]? =some x->i<l.length->s=(l.take i).foldl F s0->L (n+1) (i:Int) s=L n ((i+1:Nat):Int) (F s x))(hend: ∀(n:Nat) (s:σ),L (n+1) (l.length:Int) s=fin s): ∀(fuel i:Nat) (s:σ),i<=l.length->s=(l.take i).foldl F s0->l.length<fuel+i->L fuel (i:Int) s=fin (l.foldl F s0)
 | 0,i,s,hi,hs,hf=>by omega
 | fuel+1,i,s,hi,hs,hf=>by
  rcases zb5 i l.length with h|h
  ·obtain⟨x,hx⟩: ∃x,l[i]? =some x:=⟨_,zag h⟩;rw[hstep fuel i s x hx h hs];refine qte F s0 l L fin hstep hend fuel (i+1) (F s x) h ?_ (by omega);rw[List.take_add_one,hx,List.foldl_append, <- hs];rfl
  ·obtain rfl:i=l.length:=by omega
   rw[hend,hs,zcw]
def xbsh{α:Type}(a b:List α)(hl:a.length=b.length)(L:Nat->Int->OO)(yes no:OO)(hstep: ∀(n i:Nat) (x y:α),a[i]? =some x->b[i]? =some y->i<a.length->L (n+1) (i:Int)=cond (pD (x=y)) (L n ((i+1:Nat):Int)) no)(hend: ∀n:Nat,L (n+1) (a.length:Int)=yes): ∀(fuel i:Nat),i<=a.length->a.length<fuel+i->L fuel (i:Int)=cond (pD (a.drop i=b.drop i)) yes no
 | 0,i,hi,hf=>by omega
 | fuel+1,i,hi,hf=>by
  rcases zb5 i a.length with h|h
  ·obtain⟨x,hx⟩: ∃x,a[i]? =some x:=⟨_,zag h⟩;obtain⟨y,hy⟩: ∃y,b[i]? =some y:=⟨_,zag (hl▸h)⟩;rw[hstep fuel i x y hx hy h,xbsh a b hl L yes no hstep hend fuel (i+1) h (by omega),qid hx,qid hy];unfold pD;by_cases h1:x=y
   ·subst h1;by_cases h2:a.drop (i+1)=b.drop (i+1)<;>simp[h2]
   ·simp[h1]
  ·obtain rfl:i=a.length:=by omega
   rw[hend,zdj,hl,zdj];unfold pD;simp
def qke{p:Prop}:pD p=true↔p:=by unfold pD;exact @decide_eq_true_iff _ (ya _)
def xbu4{p:Prop}[i:Decidable p]:pD p=decide p:=by unfold pD;congr
def xbzl(K0:Int->OO)(K1:OO)(l:LI)(d:Int)(hl:l.length<=1000000000000000): ∀(fuel i:Nat),i<=l.length->d∉l.take i->l.length<fuel+i->ql5 K0 K1 fuel l d (l.length:Int) i=if d∈l then K0 (l.idxOf d:Int) else K1
 | 0,i,hi,hd,hf=>by omega
 | fuel+1,i,hi,hd,hf=>by
  show qm7 (ql5 K0 K1 fuel) K0 K1 l d (l.length:Int) i=_;unfold qm7;rcases zb5 i l.length with h|h
  ·obtain⟨x,hx⟩: ∃x,l[i]? =some x:=⟨_,zag h⟩;have e2:i64.wrap ((i:Int)+1)=((i+1:Nat):Int):=i64_in _ (by omega);have hsp:l=l.take i++x::l.drop (i+1):=by rw[<- qid hx,List.take_append_drop]
   refine qaq (by omega) (qaz (by omega) hx (qae (fun h1=> ?_) fun h1=> ?_))
   ·subst h1;have hm:d∈l:=zad hx;have hio:l.idxOf d=i:=by rw[hsp,List.idxOf_append,yb hd,List.idxOf_cons_self,zay,zch,Nat.min_eq_left hi]
    rw[yc hm,hio]
   ·rw[e2];refine xbzl K0 K1 l d hl fuel (i+1) h ?_ (by omega);rw[List.take_add_one,hx];simp only[Option.toList,zaq,zdw,not_or];exact⟨hd,h1⟩
  ·obtain rfl:i=l.length:=by omega
   rw[zcw] at hd;rw[yb hd];exact qca (by omega) rfl
def xbuw(l:LI)(d:Int)(hp:qgc l=true):xbft l d=zI (idxI l d):=by
 have hl:=qtk hp;unfold xbft idxI;rw[qab,qab];refine(xbzl _ _ l d hl FUEL 0 (zbc _) (by simp) (by unfold FUEL;omega)).trans ?_;by_cases h:d∈l
 ·rw[yc h,yc h]
 ·rw[yb h,yb h]
def xb7r(l:LI)(d:Int)(hp:qgc l=true):xby4 l d=zB (hasI l d):=by
 unfold xby4;refine qam hp ?_;have e:decide ((0:Int)<=idxI l d)=hasI l d:=by
  unfold idxI hasI;rw[qab,qab];by_cases h:d∈l
  ·rw[yc h,yf h];exact yf (by omega)
  ·rw[yb h,decide_eq_false h];rfl
 show zB (decide ((0:Int)<=idxI l d))=_;rw[e]
def xb8z{α:Type}{x y:α}[Decidable (x=y)]{a b:OO}:cond (!decide (x=y)) a b=cond (pD (x=y)) b a:=by rw[xbu4];cases decide (x=y)<;>rfl
def quk(a b:LI):xbna a b=pD (a=b):=by unfold xbna;rw[qab];exact xbu4.symm
def xb4z{α:Type}{a b:List α}(h: ¬(a.length:Int)=(b.length:Int)):pD (a=b)=false:=zat.2 fun h'=>h (by rw[qke.1 h'])
def xcar(a b:LI)(hp:qgc a=true):xb89 a b=zB (xbna a b):=by
 have ha:=qtk hp;unfold xb89;rw[quk];refine qa0 (fun h=>by rw[xb4z h]) fun h=> ?_;have hl:a.length=b.length:=by omega
 rw[qab];refine(xbsh a b hl (fun n i=>q5y _ _ n a b (a.length:Int) i) _ (zB false) (fun n i x y hx hy hi=> ?_) (fun n=>qca (show ¬(a.length:Int)<(a.length:Int) by omega) rfl) FUEL 0 (zbc _) (by unfold FUEL;omega)).trans ?_
 ·have e2:i64.wrap ((i:Int)+1)=((i+1:Nat):Int):=i64_in _ (by omega);refine qaq (by omega) (qaz (by omega) hx (qaz (by omega) hy ?_));rw[e2];exact xb8z
 ·simp only[zbr];cases pD (a=b)<;>rfl
def xb1b(a b:LI)(hp:qgc a=true):xbor a b=zB (xbna a b):=by
 have ha:=qtk hp;unfold xbor;rw[quk];refine qa0 (fun h=>by rw[xb4z h]) fun h=> ?_;have hl:a.length=b.length:=by omega
 rw[qab];refine(xbsh a b hl (fun n i=>qtu _ _ n a b i) _ (zB false) (fun n i x y hx hy hi=> ?_) (fun n=>qca (show ¬(a.length:Int)<(a.length:Int) by omega) rfl) FUEL 0 (zbc _) (by unfold FUEL;omega)).trans ?_
 ·have e2:i64.wrap ((i:Int)+1)=((i+1:Nat):Int):=i64_in _ (by omega);refine qaq (by omega) (qaz (by omega) hx (qaz (by omega) hy ?_));rw[e2];exact xb8z
 ·simp only[zbr];cases pD (a=b)<;>rfl
def q5l{α:Type}{f:α->Nat}{B:Nat}: ∀ {l:List α} {s:Nat},(∀c∈l,f c<=B)->l.foldl (fun s c=>s+f c) s<=s+l.length*B
 | [],s,_=>by simp
 | x::r,s,h=>by have h1:=h x (by simp);have:=q5l (l:=r) (s:=s+f x) fun c hc=>h c (by simp[hc]);rw[zbm,zac,zcv];omega
def q5m{α β:Type}{f:α->List β}: ∀ {l:List α} {s:List β},l.foldl (fun s c=>s++f c) s=s++l.flatMap f
 | [],s=>by simp
 | x::r,s=>by rw[zbm,q5m];simp
def q1e{α β:Type}{f:α->List β}{B:Nat}: ∀ {l:List α},(∀c∈l,(f c).length<=B)->(l.flatMap f).length<=l.length*B
 | [],_=>by simp
 | x::r,h=>by have h1:=h x (by simp);have:=q1e (l:=r) fun c hc=>h c (by simp[hc]);rw[za3,zaf,zac,zcv];omega
def qnp{l:LC}(h:qc0 l): ∀c∈l,(qbl c).length<=10000:=fun c hc=>by obtain⟨m,rfl,hm⟩:=h.2 c hc;exact hm.1
def xbl2(l:LC)(hp:qcb l=true):q7v l=zR [.cl (.slg 3 (xbw6 l))] []:=by
 have hl:=qds hp;have hlen:=qnp hl;have hl1:=hl.1;have hm:l.length*10000<=10000*10000:=zdi hl1 (zap _);have htk: ∀i,(l.take i).length*10000<=10000*10000:=fun i=>zdi (by rw[zch];omega) (zap _);have htm: ∀i, ∀c∈l.take i,(qbl c).length<=10000:=fun i c hc=>hlen c (zbh hc);unfold q7v xbw6;simp only[qab];refine(qte (fun(s:Nat) c=>s+(qbl c).length) 0 l (fun n i s=>qjs _ _ n l (s:Int) l (l.length:Int) i) _ (fun n i s x hx hi hs=> ?_) (fun n s=>qca (show ¬(l.length:Int)<(l.length:Int) by omega) rfl) FUEL 0 0 (zbc _) rfl (by unfold FUEL;omega)).trans ?_
 ·obtain⟨m,rfl,hm'⟩:=hl.2 x (zad hx);have hm':=hm'.1;have hs':s<=100000000:=by have:=q5l (s:=0) (htm i);have:=htk i;rw[hs];omega
  have e1:i64.wrap ((s:Int)+(m.length:Int))=((s+m.length:Nat):Int):=by rw[i64_in _ (by omega)];omega
  have e2:i64.wrap ((i:Int)+1)=((i+1:Nat):Int):=i64_in _ (by omega);refine qaq (by omega) (qaz (by omega) hx (qam rfl ?_));show cond (decide (i64.wrap ((s:Int)+(m.length:Int))<0)) _ (qjs _ _ n l (i64.wrap ((s:Int)+(m.length:Int))) l (l.length:Int) (i64.wrap ((i:Int)+1)))=_;rw[e1,e2];exact qca (by omega) rfl
 ·have hb:=q5l (s:=0) hlen;rw[qcf];refine qam (by unfold q2a;rw[qab];exact yf (by omega)) ?_;refine(qte (fun(s:LC) c=>s++qbl c) [] l (fun n i s=>qht _ n s.length l (l.length:Int) i s) (fun s=>zR [.cl (.slg 3 s)] []) (fun n i s x hx hi hs=> ?_) (fun n s=>qca (show ¬(l.length:Int)<(l.length:Int) by omega) rfl) FUEL 0 [] (zbc _) rfl (by unfold FUEL;omega)).trans ?_
  ·obtain⟨m,rfl,hm'⟩:=hl.2 x (zad hx);have hm':=hm'.1;have hs':s.length<=100000000:=by have:=q1e (htm i);have:=htk i;rw[hs,q5m];simp only[za9];omega
   have e2:i64.wrap ((i:Int)+1)=((i+1:Nat):Int):=i64_in _ (by omega);refine qaq (by omega) (qaz (by omega) hx (qam rfl ?_));show rmK (s++m).length 56 (qht _ n (s++m).length l (l.length:Int) (i64.wrap ((i:Int)+1)) (s++m))=_;rw[e2];have:(s++m).length<=200000000:=by rw[zaf];omega
   exact qvi (by omega) (by omega) rfl
  ·rw[q5m];rfl
def xbte(l:LC):xbw6 l=l.flatMap qbl:=by unfold xbw6;rw[qab]
def q06(o:LI)(d:Int):(qgg o d).length<=o.length+1:=by unfold qgg;split<;>simp
def qje: ∀(l:LC) (o:LI),(l.foldl (fun o c=>qgg o (mD c)) o).length<=o.length+l.length
 | [],o=>by simp
 | x::r,o=>by have:=qje r (qgg o (mD x));have:=q06 o (mD x);simp only[zbm,zac];omega
def q7b(l:LC):qek l=(l.flatMap qbl).foldl (fun o c=>qgg o (mD c)) []:=by unfold qek xbbh;rw[<- List.map_flatMap,List.foldl_map]
def xbeh(l:LC):qek l=l.foldl (fun o c=>(qbl c).foldl (fun o c=>qgg o (mD c)) o) []:=by
 rw[q7b];generalize ([]:LI)=o
 induction l generalizing o with
 | nil=>rfl
 | cons x r ih=>rw[za3,List.foldl_append,ih];rfl
def qq9(l:LC):q1t l=qek l:=by unfold q1t;rw[qab]
def xbzh(l:LI)(d:Int):hasI l d=decide (d∈l):=by unfold hasI;rw[qab]
def xblv(l:LC)(hp:qcb l=true):q7n l=zR [.cl (.sli .i64 (q1t l))] []:=by
 have hl:=qds hp;have hlen:=q1e (qnp hl);have hl1:=hl.1;have hm:l.length*10000<=10000*10000:=zdi hl1 (zap _);unfold q7n;rw[qq9,q7b];refine qam hp ?_;simp only[qab,xbte];have hin: ∀c∈l.flatMap qbl,isMk c:=fun c hc=>by obtain⟨x,hx,hc⟩:=zb1.1 hc;obtain⟨m,rfl,hm'⟩:=hl.2 x hx;exact hm'.2 c hc
 generalize l.flatMap qbl=j at*;refine(qte (fun(o:LI) c=>qgg o (mD c)) [] j (fun n i s=>qfp _ n s.length j (j.length:Int) i s) (fun s=>zR [.cl (.sli .i64 s)] []) (fun n i s x hx hi hs=> ?_) (fun n s=>qca (show ¬(j.length:Int)<(j.length:Int) by omega) rfl) FUEL 0 [] (zbc _) rfl (by unfold FUEL;omega)).trans rfl;obtain⟨d,t,w,rfl,ht,hw⟩:=hin x (zad hx);have hs':s.length<=100000000:=by have:=qje (j.take i) [];rw[zch] at this;rw[hs];simp only[zbg] at this;omega
 have e2:i64.wrap ((i:Int)+1)=((i+1:Nat):Int):=i64_in _ (by omega);refine qaq (by omega) (qaz (by omega) hx (qam rfl (qam (qtj (by omega)) ?_)));show cond (!hasI s d) (rmK (s++[d]).length 8 (qfp _ n (s++[d]).length j (j.length:Int) (i64.wrap ((i:Int)+1)) (s++[d]))) (qfp _ n s.length j (j.length:Int) (i64.wrap ((i:Int)+1)) s)=qfp _ n (qgg s d).length j (j.length:Int) ((i+1:Nat):Int) (qgg s d);rw[e2,xbzh];unfold qgg;by_cases h:d∈s
 ·rw[yf h,yc h];rfl
 ·rw[decide_eq_false h,yb h];have:(s++[d]).length<=200000000:=by rw[zaf];simp;omega
  exact qvi (by omega) (by omega) rfl
def xbdv(d:Int): ∀(l:LI) (s:Bool),l.foldl (fun s e=>s|| decide (e=d)) s=(s|| decide (d∈l))
 | [],s=>by simp
 | x::r,s=>by
  rw[zbm,xbdv d r];simp only[zaw];by_cases h1:x=d
  ·subst h1;simp
  ·have: ¬d=x:=fun h=>h1 h.symm;simp[h1,this]
def xb98(K0:LC->Nat->Int->Int->Bool->LI->OO)(l:LC)(i k:Nat)(d:Int)(t:LC)(w:LI)(row:LC)(o:LI)(hx:l[i]? =some (.slg 3 row))(hy:row[k]? =some (qu5 d t w))(ho:o.length<=100000000):
  qev K0 FUEL l o.length i k false 0 o=K0 l o.length i k (decide (d∈o)) o:=by
 refine(qte (fun(s:Bool) e=>s|| decide (e=d)) false o (fun n j s=>qev K0 n l o.length i k s j o) (fun s=>K0 l o.length i k s o) (fun n j s x hxj hj hs=> ?_) (fun n s=>qca (show ¬(o.length:Int)<(o.length:Int) by omega) rfl) FUEL 0 false (zbc _) rfl (by unfold FUEL;omega)).trans (by rw[xbdv];rfl);have e2:i64.wrap ((j:Int)+1)=((j+1:Nat):Int):=i64_in _ (by omega);refine qaq (by omega) ?_
 cases s with
 | true=>
  show qev K0 n l o.length i k true (i64.wrap ((j:Int)+1)) o=_;rw[e2];rfl
 | false=>
  refine qyh rfl (xbzk (by omega) (by omega) (xb40 (x:=x) (by rw[zay];exact hxj) (qaz (by omega) hx (qam rfl (qaz (by omega) hy (qam rfl ?_))))));show qev K0 n l o.length i k (decide (x=d)) (i64.wrap ((j:Int)+1)) o=_;rw[e2];rfl
def lpD6(K0:LC->Nat->Int->LI->OO)(l:LC)(i:Nat)(row:LC)(o:LI)(hx:l[i]? =some (.slg 3 row))(hr:qod row)(ho:o.length+row.length<=100000000):
  qdv K0 FUEL l o.length i 0 o=K0 l (row.foldl (fun o c=>qgg o (mD c)) o).length i (row.foldl (fun o c=>qgg o (mD c)) o):=by
 refine(qte (fun(o:LI) c=>qgg o (mD c)) o row (fun n j s=>qdv K0 n l s.length i j s) (fun s=>K0 l s.length i s) (fun n j s x hxj hj hs=> ?_) (fun n s=> ?_) FUEL 0 o (zbc _) rfl (by have:=hr.1;unfold FUEL;omega)).trans rfl
 ·obtain⟨d,t,w,rfl,ht,hw⟩:=hr.2 x (zad hxj);have hs':s.length<=100000000:=by have:=qje (row.take j) o;rw[zch] at this;rw[hs];omega
  have hr1:=hr.1;have e2:i64.wrap ((j:Int)+1)=((j+1:Nat):Int):=i64_in _ (by omega);show qf4 (qdv K0 n) K0 l s.length i j s=_;unfold qf4;simp only[qab];rw[xb98 _ l i j d t w row s hx hxj (by omega)];refine qaz (by omega) hx (qam rfl (qaq (show(j:Int)<(row.length:Int) by omega) ?_));show cond (!decide (d∈s)) _ (qdv K0 n l s.length i (i64.wrap ((j:Int)+1)) s)=qdv K0 n l (qgg s d).length i ((j+1:Nat):Int) (qgg s d);rw[e2];unfold qgg;by_cases h:d∈s
  ·rw[yf h,yc h];rfl
  ·rw[decide_eq_false h,yb h];refine qaz (by omega) hx (qam rfl (qaz (by omega) hxj (qam rfl ?_)));have:(s++[d]).length<=200000000:=by rw[zaf];simp;omega
   exact qvi (by show(s++[d]).length*8<=_;omega) (by show(s++[d]).length<=_;omega) rfl
 ·show qf4 (qdv K0 n) K0 l s.length i row.length s=_;unfold qf4;exact qaz (by omega) hx (qam rfl (qca (show ¬((row.length:Int)<(row.length:Int)) by omega) rfl))
def qtd: ∀(l:LC) (o:LI),(∀c∈l,(qbl c).length<=10000)->(l.foldl (fun o c=>(qbl c).foldl (fun o c=>qgg o (mD c)) o) o).length<=o.length+l.length*10000
 | [],o,_=>by simp
 | x::r,o,h=>by have:=qtd r ((qbl x).foldl (fun o c=>qgg o (mD c)) o) fun c hc=>h c (by simp[hc]);have:=qje (qbl x) o;have:=h x (by simp);simp only[zbm,zac];omega
def lpD3(K0:Nat->LI->OO)(l:LC)(hl:qc0 l):qfr K0 FUEL l 0 0 []=K0 (qek l).length (qek l):=by
 have hlen:=qnp hl;have hl1:=hl.1;rw[xbeh];refine(qte (fun(o:LI) c=>(qbl c).foldl (fun o c=>qgg o (mD c)) o) [] l (fun n j s=>qfr K0 n l s.length j s) (fun s=>K0 s.length s) (fun n j s x hxj hj hs=> ?_) (fun n s=>qca (show ¬(l.length:Int)<(l.length:Int) by omega) rfl) FUEL 0 [] (zbc _) rfl (by unfold FUEL;omega)).trans rfl;obtain⟨row,rfl,hr⟩:=hl.2 x (zad hxj);have hs':s.length<=j*10000:=by have:=qtd (l.take j) [] fun c hc=>hlen c (zbh hc);rw[zch,Nat.min_eq_left (by omega)] at this;rw[hs];simpa using this
 have hr1:=hr.1;have e2:i64.wrap ((j:Int)+1)=((j+1:Nat):Int):=i64_in _ (by omega);show qk4 (qfr K0 n) K0 l s.length j s=_;unfold qk4;simp only[qab];rw[lpD6 _ l j row s hxj hr (by omega)];refine qaq (by omega) ?_;show qfr K0 n l _ (i64.wrap ((j:Int)+1)) _=_;rw[e2];rfl
def xbl0(l:LC)(hp:qcb l=true):q7s l=zR [.cl (.sli .i64 (q1t l))] []:=by unfold q7s;rw[qq9,qab];exact lpD3 _ l (qds hp)
open IntWalk (i64_in u8_in u32_in u64_in i64_quo u8_quo rem_in)
def Bk(n B:Nat)(c:CV):Prop:= ∃y,c=.agg y/\isTf n y=true/\qee n y<=B
def xbnu{k m B B':Nat}{c:CV}(h:Bk k B c)(hk:k<=m)(hB:B<=B'):Bk m B' c:=by obtain⟨y,rfl,h1,h2⟩:=h;have h3:=xb4j h1 hk;exact⟨y,rfl,h3,by rw[<- xbn0 h1 h3];omega⟩
def qmm{n S:Nat}{t:Int}{b:LI}{l:LC}(hb: ∀x∈b,0<=x/\x<=255)(h:(∀c∈l, ∃y,c=.agg y/\isTf n y=true)/\(l.map fun c=>qee n (cell1 c)).sum<=S):Bk (n+1) (1+b.length+S) (qbm t b l):=
 ⟨_,rfl,xb43 hb h.1,Nat.add_le_add_left h.2 _⟩
def q0n{n:Nat}{t:Int}{b:LI}(hb: ∀x∈b,0<=x/\x<=255):Bk (n+1) (1+b.length) (qbm t b []):=qmm (S:=0) hb ⟨by simp,by simp⟩
def qj4{n B S:Nat}{c:CV}{l:LC}(h:Bk n B c)(hl:(∀c∈l, ∃y,c=.agg y/\isTf n y=true)/\(l.map fun c=>qee n (cell1 c)).sum<=S):(∀x∈c::l, ∃y,x=.agg y/\isTf n y=true)/\((c::l).map fun c=>qee n (cell1 c)).sum<=B+S:=by
 obtain⟨y,rfl,h1,h2⟩:=h;refine⟨fun x hx=> ?_, ?_⟩
 ·rcases zaw.1 hx with rfl|hx
  ·exact⟨y,rfl,h1⟩
  ·exact hl.1 x hx
 ·have:=hl.2;show qee n y+_<=_;exact Nat.add_le_add h2 this
def xbcq{n:Nat}:(∀x∈([]:LC), ∃y,x=.agg y/\isTf n y=true)/\(([]:LC).map fun c=>qee n (cell1 c)).sum<=0:=⟨by simp,by simp⟩
def xb4g{f:CV->Option CV}{g:CV->Nat}{n:Nat}: ∀ {l:LC},(∀c∈l, ∀y,f c=some y->Bk n (g c) y)->(∀y∈l.filterMap f, ∃z,y=.agg z/\isTf n z=true)/\((l.filterMap f).map fun c=>qee n (cell1 c)).sum<=(l.map g).sum
 | [],_=>⟨by simp,by simp⟩
 | x::r,h=>by
  have ih:=xb4g (l:=r) fun c hc=>h c (by simp[hc])
  cases hx:f x with
  | none=>
   rw[List.filterMap_cons_none hx];refine⟨ih.1, ?_⟩;simp only[zbf,zcf];omega
  | some y=>
   rw[zbe hx];have:=qj4 (h x (by simp) y hx) ih;refine⟨this.1, ?_⟩;have:=this.2;simp only[zbf,zcf] at this ⊢;omega
def xbnj{f:CV->Option CV}{g:CV->Nat}{n:Nat}{lo hi:Int}{l:LC}(h: ∀c∈l, ∀y,f c=some y->Bk n (g c) y):(∀y∈evL f lo hi l, ∃z,y=.agg z/\isTf n z=true)/\((evL f lo hi l).map fun c=>qee n (cell1 c)).sum<=(l.map g).sum:=by
 unfold evL;split
 ·exact xb4g h
 ·exact⟨by simp,by simp⟩
def xb5p{s:Int}{l:LC}(h:xbcg l): ∀c∈l, ∀y,digF s c=some y->Bk 30 (1+(qb8 c).length) y:=fun c hc y hy=>by
 obtain⟨b,rfl,hb⟩:=h.2 c hc;unfold digF at hy;split at hy
 ·cases hy;exact q0n (qak hb).2
 ·cases hy
def xb16{s:Int}{t:LC}(h:xbch t): ∀c∈t, ∀y,qj9 s c=some y->Bk 31 (1+qry (qbl c)) y:=fun c hc y hy=>by
 obtain⟨l,rfl,hl⟩:=h.2 c hc;unfold qj9 at hy;split at hy
 ·cases hy;exact qmm (b:=[]) (by simp) (xbnj (xb5p hl))
 ·cases hy
def xb4l{s:Int}{t:LC}(h:xbch t)(lo hi:Int):Bk 32 (1+qml t) (qbm 162 [] (evL (qj9 s) lo hi t)):=qmm (b:=[]) (by simp) (xbnj (xb16 h))
def xbsf: ∀e∈qcx,(qco e.2.2).length<=11/\∀x∈qco e.2.2,0<=x/\x<=255:=by decide+kernel
def xb9d(d:Int):Bk 31 12 (qez (qaf d).2.2):=by
 have h:(qay (qaf d).2.2).length<=11/\∀x∈qay (qaf d).2.2,0<=x/\x<=255:=by
  unfold qay;rw[qab];rcases qyt d with h|h
  ·rw[h];exact⟨by decide,by decide⟩
  ·exact xbsf _ h.1
 unfold qez qgq xbno;rw[qab];split
 ·exact xbnu (q0n (n:=30) h.2) (by omega) (by show 1+(qay (qaf d).2.2).length<=12;omega)
 ·exact xbnu (q0n (n:=30) (by simp)) (by omega) (by simp)
def xcaw{w:LI}(hw:qad w=true)(h:(qan w).2=0):Bk 32 w.length (ndCV (qan w).1):=by
 rw[qiu] at h ⊢;by_cases hz:(qas 32 w).1=0
 ·rw[yc hz] at h ⊢;by_cases hlt:(qas 32 w).2.2<w.length
  ·rw[yc hlt] at h;exact absurd h (by decide: ¬(7:Int)=0)
  ·rw[yb hlt];obtain⟨⟨h1,h2,h3,h4⟩,h5⟩:=ql9 32 w hw hz;rw[h5,zch] at h4;exact⟨ndL (qas 32 w).2.1,rfl,h1,by omega⟩
 ·rw[yb hz] at h;exact absurd h hz
def xb0a{l:LC}(h: ∀c∈l,isMk c): ∀c∈l, ∀y,qkf c=some y->Bk 33 (2+(mW c).length+qml (mT c)+13) y:=fun c hc y hy=>by
 obtain⟨d,t,w,rfl,ht,hw⟩:=h c hc;replace hy:(if qdg d t w=true then some (qbm 48 [] (qmj d t w)) else none)=some y:=hy;split at hy
 ·rename_i hm;obtain⟨_,h2,_⟩:=qd7.1 hm;cases hy;have hbox:Bk 32 13 (qbm 160 [] [qez (qaf d).2.2]):=qmm (S:=12) (b:=[]) (by simp) (qj4 (S:=0) (xb9d d) xbcq);have htok:=xcaw hw h2;unfold qmj;refine xbnu (k:=33) (B:=1+0+(13+((1+qml t)+(w.length+0)))) (qmm (b:=[]) (by simp) ?_) (zap _) (by show _<=2+w.length+qml t+13;omega);split
  ·have:=qj4 hbox (qj4 htok xbcq);exact⟨this.1,by have:=this.2;simp only[za9];omega⟩
  ·exact qj4 hbox (qj4 (xb4l ht 0 20) (qj4 htok xbcq))
 ·cases hy
def q6p{g:CV->Nat}{K:Nat}: ∀ {l:LC},(l.map fun c=>g c+K).sum=(l.map g).sum+K*l.length
 | []=>by simp
 | x::r=>by have:=q6p (g:=g) (K:=K) (l:=r);simp only[zbf,zcf,zac,Nat.mul_succ];omega
def q1s{α β:Type}{f:α->Option β}{lo hi:Int}{l:List α}(h:evB f lo hi l=true):lo<=(l.length:Int)/\(l.length:Int)<=hi/\∀c∈l, ∃y,f c=some y:=by unfold evB at h;rw[zab,yd,zai] at h;exact⟨h.1.1,h.1.2,fun c hc=>zax.1 (h.2 c hc)⟩
def xbr8{l:LC}(h: ∀c∈l, ∃m,c=.slg 3 m/\qod m): ∀c∈l, ∀y,qd4 c=some y->Bk 34 (1+qeh (qbl c)+260) y:=fun c hc y hy=>by
 obtain⟨m,rfl,hm⟩:=h c hc;replace hy:(if evB qkf 1 20 m=true then some (qbm 48 [] (evL qkf 1 20 m)) else none)=some y:=hy;split at hy
 ·rename_i hb;cases hy;have:=xbnj (lo:=1) (hi:=20) (xb0a hm.2);rw[q6p] at this;have hl:=(q1s hb).2.1;refine xbnu (qmm (b:=[]) (by simp) this) (zap _) ?_;show 1+0+(qeh m+13*m.length)<=1+qeh m+260;omega
 ·cases hy
def qjz{l:LC}(h:recO l=true):qc0 l/\qc6 l<=12100:=by unfold recO at h;rw[qab] at h;exact @ye _ (ya _) h
def qwj{l:LC}(h:qc0 l/\qc6 l<=12100):recO l=true:=by unfold recO;rw[qab];exact @yf _ (ya _) h
def xbkm{l:LC}(h:qc0 l)(hn:qc6 l<=12100):Bk 35 14701 (qbm 48 [] (evL qd4 1 10 l)):=by
 by_cases hb:evB qd4 1 10 l=true
 ·have:=xbnj (lo:=1) (hi:=10) (xbr8 h.2);rw[q6p] at this;have hl:=(q1s hb).2.1;refine xbnu (qmm (b:=[]) (by simp) this) (zap _) ?_;have:qc6 l=(l.map fun c=>1+qeh (qbl c)).sum:=rfl;show 1+0+((l.map fun c=>1+qeh (qbl c)).sum+260*l.length)<=14701;omega
 ·unfold evL;rw[yb hb];exact xbnu (q0n (by simp)) (zap _) (by simp)
def xb48{n B:Nat}{t:Int}{b:LI}{k:LC}(h:Bk n B (qbm t b k))(hB:B<=30000):isS [.int .i64 t,.sli .u8 b,.slg 3 k]=true:=by obtain⟨y,e,h1,h2⟩:=h;cases e;exact xbax h1 (by omega)
def qtf{d:Int}: ∀ {l o:LI},d∈l.foldl qgg o->d∈o\/d∈l
 | [],o,h=>.inl h
 | x::r,o,h=>by
  rcases qtf (l:=r) h with h|h
  ·unfold qgg at h;split at h
   ·exact .inl h
   ·rcases zaq.1 h with h|h
    ·exact .inl h
    ·exact .inr (by simp at h;simp[h])
  ·exact .inr (by simp[h])
def qkr: ∀ {l o:LI},(l.foldl qgg o).length<=o.length+l.length
 | [],o=>by simp
 | x::r,o=>by have:=qkr (l:=r) (o:=qgg o x);have:=q06 o x;simp only[zbm,zac];omega
def qkn{c:CV}{m:LC}{y:CV}(hc:c=.slg 3 m)(h:qd4 c=some y):evB qkf 1 20 m=true/\y=qbm 48 [] (evL qkf 1 20 m):=by
 subst hc;replace h:(if evB qkf 1 20 m=true then some (qbm 48 [] (evL qkf 1 20 m)) else none)=some y:=h;split at h
 ·rename_i hb;cases h;exact⟨hb,rfl⟩
 ·cases h
def qrq{c:CV}{d:Int}{t:LC}{w:LI}{y:CV}(hc:c=qu5 d t w)(h:qkf c=some y):qdg d t w=true/\y=qbm 48 [] (qmj d t w):=by
 subst hc;replace h:(if qdg d t w=true then some (qbm 48 [] (qmj d t w)) else none)=some y:=h;split at h
 ·rename_i hb;cases h;exact⟨hb,rfl⟩
 ·cases h
def qko{c:LC}(hc:qc0 c)(h:evB qd4 1 10 c=true):(∀d∈qek c,(qaf d).2.1=1)/\(qek c).length<=200:=by
 obtain⟨_,hl,ha⟩:=q1s h;refine⟨fun d hd=> ?_, ?_⟩
 ·rcases qtf hd with h|h
  ·simp at h
  ·obtain⟨x,hx,hm⟩:=zb1.1 h;obtain⟨m,rfl,hmm⟩:=hc.2 x hx;obtain⟨y,hy⟩:=ha _ hx;obtain⟨hb, -⟩:=qkn rfl hy;obtain⟨z,hz,rfl⟩:=zbo.1 hm;obtain⟨d,t,w,rfl, -, -⟩:=hmm.2 z hz;obtain⟨u,hu⟩:=(q1s hb).2.2 _ hz;exact(qd7.1 (qrq rfl hu).1).1
 ·have h1:(qek c).length<=0+(c.flatMap fun c=>xbbh (qbl c)).length:=qkr;have h2:(c.flatMap fun c=>xbbh (qbl c)).length<=c.length*20:=q1e fun x hx=>by obtain⟨m,rfl,hmm⟩:=hc.2 x hx;obtain⟨y,hy⟩:=ha _ hx;have:=(q1s (qkn rfl hy).1).2.1;show(m.map mD).length<=20;rw[zau];omega
  omega
def qni{d:Int}(h:(qaf d).2.1=1):q64 d=some (qsn d)/\qsn d=qbm 48 [] [qez (qaf d).2.2]:=by
 have e:=xbpf (g:=d) (b:=[]) (by omega) (by rw[h];rfl);rw[xbg9] at e;have e2:qj6 (qaf d).2.1 []=[]:=by rw[h];rfl
 rw[e2] at e;unfold q64 qsn;rw[e];exact⟨yc rfl,rfl⟩
def xbnz{g:LI}(h: ∀d∈g,(qaf d).2.1=1):evL q64 0 (g.length:Int) g=g.map qsn:=by
 have hall: ∀ {l:LI},(∀d∈l,(qaf d).2.1=1)->l.all (fun d=>(q64 d).isSome)=true/\l.filterMap q64=l.map qsn:=fun {l}=>by
  induction l with
  | nil=>intro _;exact⟨rfl,rfl⟩
  | cons x r ih=>
   intro h;have:=ih fun d hd=>h d (by simp[hd]);have hx:=(qni (h x (by simp))).1;rw[zbz,hx,this.1,zbe hx,this.2];exact⟨rfl,rfl⟩
 have e:evB q64 0 (g.length:Int) g=true:=by unfold evB;rw[(hall h).1,yf (by omega)];rfl
 rw[(qq0 e).1,(hall h).2]
def qe5{g:LI}{c:LC}:q1u g c=true↔evB qd4 1 10 c=true/\g=qek c:=by unfold q1u;rw[zab,yd]
def xbw2:Bk 35 2 (qbm 2 (vInt 1) []):=by rw[xb4s];exact q0n (by simp)
def xb6e{g:LI}(h: ∀d∈g,(qaf d).2.1=1):(∀y∈g.map qsn, ∃z,y=.agg z/\isTf 34 z=true)/\((g.map qsn).map fun c=>qee 34 (cell1 c)).sum<=13*g.length:=by
 induction g with
 | nil=>exact⟨by simp,by simp⟩
 | cons x r ih=>
  have hx:Bk 34 13 (qsn x):=by rw[(qni (h x (by simp))).2];exact xbnu (qmm (S:=12) (b:=[]) (by simp) (qj4 (S:=0) (xb9d x) xbcq)) (by omega) (by simp)
  have:=qj4 hx (ih fun d hd=>h d (by simp[hd]));refine⟨this.1, ?_⟩;have:=this.2;rw[zac,Nat.mul_succ];rw[zbf];omega
def q1w{g:LI}{c:LC}(hc:qc0 c)(hn:qc6 c<=12100)(h:q1u g c=true):isS [.int .i64 48,.sli .u8 [],.slg 3 (qe4 g c)]=true:=by obtain⟨hb,rfl⟩:=qe5.1 h;obtain⟨hd,hl⟩:=qko hc hb;have hg:Bk 35 2601 (qbm 48 [] ((qek c).map qsn)):=xbnu (qmm (b:=[]) (by simp) (xb6e hd)) (zap _) (by show 1+0+13*(qek c).length<=2601;omega);exact xb48 (B:=1+0+(2+(2601+(14701+0)))) (qmm (b:=[]) (by simp) (qj4 xbw2 (qj4 hg (qj4 (xbkm hc hn) xbcq)))) (by omega)
def qns(g:LI)(c:LC):evOk g c=qmn g c:=by unfold evOk;rw[qab]
def qta{g:LI}{c:LC}(h:q1u g c=true):qmn g c=qrr [.int .i64 48,.sli .u8 [],.slg 3 (qe4 g c)]:=by unfold qmn;rw[h,zbs]
def qrb{g:LI}{c:LC}(h:q1u g c=true):qfy g c=(48,qe4 g c):=by unfold qfy;rw[qab,yc h]
def qra{g:LI}{c:LC}(h: ¬q1u g c=true):qfy g c=(0,[])/\qmn g c=false:=by unfold qfy qmn;rw[qab,yb h,zat.2 h];exact⟨rfl,rfl⟩
def st1:q6m 1=true:=by unfold q6m;exact yf (by omega)
def xcan(g:LI)(c:LC)(hp:(qgc g&&recO c)=true):xb85 g c=zR [.cl (.agg [.int .i64 (qfy g c).1,.sli .u8 qa6,.slg 3 (qfy g c).2]),.cl (.bool (evOk g c))] []:=by
 rw[zab] at hp;obtain⟨hg,hr⟩:=hp;obtain⟨hc,hn⟩:=qjz hr;have hco:=qs1 hc;unfold xb85;simp only[qbq,qcf,qym,qq6,qq9,q5c,qns,quk];have bad: ¬q1u g c=true->zR [.cl (.agg [.int .i64 0,.sli .u8 [],.slg 3 []]),.cl (.bool false)] []=zR [.cl (.agg [.int .i64 (qfy g c).1,.sli .u8 [],.slg 3 (qfy g c).2]),.cl (.bool (qmn g c))] []:=fun h=>by rw[(qra h).1,(qra h).2]
 refine qam hco (qe1 (fun h=>bad fun h'=>by rw[(qe5.1 h').1] at h;cases h) fun h=>qam hco (qam hg (qe1 (fun h2=>bad fun h'=>by rw[qke.2 (qe5.1 h').2] at h2;cases h2) fun h2=> ?_)));have h2:=qke.1 h2;have hm:q1u g c=true:=qe5.2 ⟨h,h2⟩;obtain⟨hd,hl⟩:=qko hc h;rw[<- h2] at hd hl;have hS:=q1w hc hn hm;refine qam (xbnb (by omega)) (qam st1 ?_);rw[xbnz hd];refine qam (qci (by simp)) (qam hS ?_);rw[qrb hm,qta hm];rfl
def xbh1{c:LC}(h:evB qd4 1 10 c=true):qol c=(48,evL qd4 1 10 c):=by unfold qol;rw[qab,yc h]
def lpRR(K0:Nat->Int->LI->LC->LC->OO)(g:LI)(c:LC)(x1:Int)(x2:LI)(x3:LC)(hl:g.length<=1000000):qm6 K0 FUEL 0 0 g c x1 x2 x3 []=K0 g.length x1 x2 x3 (g.map qsn):=by
 refine(xb6f qsn g hl (fun n a j acc=>qm6 K0 n a j g c x1 x2 x3 acc) (fun y=>K0 g.length x1 x2 x3 y) (fun n j acc x hj ha hxj=> ?_) (fun n acc=> ?_) FUEL 0 [] (zbc _) rfl (by unfold FUEL;omega)).trans rfl
 ·show qn6 (qm6 K0 n) K0 j j g c x1 x2 x3 acc=_;unfold qn6;simp only[qbq,qsp];refine qaq (show(j:Int)<(g.length:Int) by omega) (qaz (by omega) hxj (qam (qku (by simp)) ?_));exact q62 (w:=56) (y:=qsn x) (A:=fun a q acc=>qm6 K0 n a q g c x1 x2 x3 acc) ha (by omega) (by omega)
 ·show qn6 (qm6 K0 n) K0 g.length g.length g c x1 x2 x3 acc=_;unfold qn6;exact qca (show ¬((g.length:Int)<(g.length:Int)) by omega) rfl
def xcaq(g:LI)(c:LC)(hp:(qgc g&&recO c)=true):xb87 g c=zR [.cl (.agg [.int .i64 (qfy g c).1,.sli .u8 qa6,.slg 3 (qfy g c).2]),.cl (.bool (evOk g c))] []:=by
 rw[zab] at hp;obtain⟨hg,hr⟩:=hp;obtain⟨hc,hn⟩:=qjz hr;have hco:=qs1 hc;unfold xb87;simp only[qbq,qcf,qq6,qq9,qns,quk,qab];have bad: ¬q1u g c=true->zR [.cl (.agg [.int .i64 0,.sli .u8 [],.slg 3 []]),.cl (.bool false)] []=zR [.cl (.agg [.int .i64 (qfy g c).1,.sli .u8 [],.slg 3 (qfy g c).2]),.cl (.bool (qmn g c))] []:=fun h=>by rw[(qra h).1,(qra h).2]
 refine qam hco (qe1 (fun h=>bad fun h'=>by rw[(qe5.1 h').1] at h;cases h) fun h=>qam hco (qam hg (qe1 (fun h2=>bad fun h'=>by rw[qke.2 (qe5.1 h').2] at h2;cases h2) fun h2=> ?_)));have h2:=qke.1 h2;have hm:q1u g c=true:=qe5.2 ⟨h,h2⟩;obtain⟨hd,hl⟩:=qko hc h;rw[<- h2] at hd hl;have hS:=q1w hc hn hm;rw[lpRR _ g c _ _ _ (by omega),xbh1 h];refine qam st1 (qam (qci (by rw[zau];omega)) (qam (qci (by simp)) (qam hS ?_)));rw[qrb hm,qta hm];rfl
def xb6s(g:LI)(c:LC)(hp:(qgc g&&recO c)=true):xb5u g c=zB (evOk g c):=qam hp rfl
def xb7i(g:LI)(c:LC)(hp:(qgc g&&recO c)=true):xb53 g c=zB (evOk g c):=qam hp rfl
def qvf{g:LI}{c:LC}(h:qmn g c=true):q1u g c=true:=by unfold qmn at h;rw[zab] at h;exact h.1
def qnq(g:LI)(c:LC):qfj g c=qbd g c:=by unfold qfj;rw[qab]
def xbxt(g:LI)(c:LC)(hp:(qgc g&&recO c)=true):(cond (qgc g&&recO c) (
  cond (!(evOk g c)) (zR [.cl (.sli .u8 []),.cl (.int .i64 1)] [])
  (cond (isS [.int .i64 (qfy g c).1,.sli .u8 qa6,.slg 3 (qfy g c).2]) (
   zR [.cl (.sli .u8 (qbb [.int .i64 (qfy g c).1,.sli .u8 qa6,.slg 3 (qfy g c).2]).1),.cl (.int .i64 (qbb [.int .i64 (qfy g c).1,.sli .u8 qa6,.slg 3 (qfy g c).2]).2)] []) none)) none)=zR [.cl (.sli .u8 (qfj g c).1),.cl (.int .i64 (qfj g c).2)] []:=by
 refine qam hp ?_;rw[zab] at hp;obtain⟨hc,hn⟩:=qjz hp.2;rw[qbq,qns,qnq];unfold qbd;refine qe1 (fun h=> ?_) fun h=> ?_
 ·rw[h];rfl
 ·rw[yc h,qrb (qvf h)];exact qam (q1w hc hn (qvf h)) rfl
def xbuh(g:LI)(c:LC)(hp:(qgc g&&recO c)=true):xbs3 g c=zR [.cl (.sli .u8 (qfj g c).1),.cl (.int .i64 (qfj g c).2)] []:=xbxt g c hp
open IntWalk (i64_in u8_in u32_in u64_in i64_quo u8_quo rem_in)
def Lg(c:CV)(L:Nat):Prop:= ∃n d y,c=.agg y/\isTf n y=true/\okF n d y=true/\(qah n y).1.length<=L
def xbo3(t n:Int):2<=(qck t n).length:=by unfold qck;(repeat' split)<;>simp
def qzp{n d:Nat}{t:Int}{b:LI}{k:LC}(h:okF (n+1) (d+1) [.int .i64 t,.sli .u8 b,.slg 3 k]=true):(qav t=true/\b=[]/\∀c∈k,okF n d (cell1 c)=true)\/(¬qav t=true/\k=[]):=by
 replace h:(qbg t&&(if qav t=true then decide (b=[])&&k.all fun c=>okF n d (cell1 c) else decide (k=[])&&qbj t b))=true:=h;rw[zab] at h;have h:=h.2;split at h
 ·rename_i hb;rw[zab,yd,zai] at h;exact .inl ⟨hb,h.1,h.2⟩
 ·rename_i hb;rw[zab,yd] at h;exact .inr ⟨hb,h.1⟩
def q7h{α:Type}{g:α->LI}: ∀ {l:List α},((l.map g).flatten).length=(l.map fun c=>(g c).length).sum
 | []=>rfl
 | x::r=>by simp only[zbf,zc1,zaf,zcf,q7h (l:=r)]
def xbxs{n d:Nat}{t:Int}{b:LI}{k:LC}(h:okF (n+1) (d+1) [.int .i64 t,.sli .u8 b,.slg 3 k]=true):2+b.length+(k.map fun c=>(qah n (cell1 c)).1.length).sum<=(qah (n+1) [.int .i64 t,.sli .u8 b,.slg 3 k]).1.length:=by
 show _<=(if qav t=true then(qck t _++((k.map fun c=>qah n (cell1 c)).map (·.1)).flatten,_) else(qck t b.length++b,true):LI×Bool).1.length;rcases qzp h with⟨hb,rfl,_⟩|⟨hb,rfl⟩
 ·rw[yc hb];have e:((k.map fun c=>qah n (cell1 c)).map (·.1)).flatten=(k.map fun c=>(qah n (cell1 c)).1).flatten:=by rw[zc8];rfl
  simp only[e,zaf,q7h,zbg];have:=xbo3 t (((k.map fun c=>(qah n (cell1 c)).1.length).sum:Nat):Int);omega
 ·rw[yb hb];simp only[zaf,List.map_nil,List.sum_nil];have:=xbo3 t (b.length:Int);omega
def xbd3: ∀ {n d:Nat} {y:LC},isTf n y=true->okF n d y=true->qee n y<=(qah n y).1.length
 | n,0,y,h,ho=>by obtain⟨m,t,b,k,rfl,rfl,_,_⟩:=qdi h;cases ho
 | n,d+1,y,h,ho=>by
  obtain⟨m,t,b,k,rfl,rfl,_,hk⟩:=qdi h;have h1:=xbxs ho;have h2:(k.map fun c=>qee m (cell1 c)).sum<=(k.map fun c=>(qah m (cell1 c)).1.length).sum:=by
   rcases qzp ho with⟨_,_,ha⟩|⟨_,rfl⟩
   ·have: ∀l:LC,(∀c∈l,qee m (cell1 c)<=(qah m (cell1 c)).1.length)->(l.map fun c=>qee m (cell1 c)).sum<=(l.map fun c=>(qah m (cell1 c)).1.length).sum:=fun l=>by
     induction l with
     | nil=>intro _;simp
     | cons x r ih=>
      intro h;have:=ih fun c hc=>h c (by simp[hc]);have:=h x (by simp);simp only[zbf,zcf];omega
    refine this k fun c hc=> ?_;obtain⟨y,rfl,hy⟩:=hk c hc;exact xbd3 hy (ha _ hc)
   ·simp
  show 1+b.length+(k.map fun c=>qee m (cell1 c)).sum<=_;omega
def qh6{t:Int}{b:LI}{k:LC}{L:Nat}(h:Lg (qbm t b k) L): ∃g:CV->Nat,(∀c∈k,Lg c (g c))/\2+b.length+(k.map g).sum<=L/\∀x∈b,0<=x/\x<=255:=by
 obtain⟨n,d,y,e,h1,h2,h3⟩:=h;cases e;obtain⟨m,t',b',k',rfl,e,hb,hk⟩:=qdi h1;simp only[zcg,CV.int.injEq,CV.sli.injEq,CV.slg.injEq,and_true,true_and] at e;obtain⟨rfl,rfl,rfl⟩:=e
 cases d with
 | zero=>cases h2
 | succ d=>
  refine⟨fun c=>(qah m (cell1 c)).1.length,fun c hc=> ?_,by have:=xbxs h2;omega,hb⟩;obtain⟨y,rfl,hy⟩:=hk c hc;rcases qzp h2 with⟨_,_,ha⟩|⟨_,rfl⟩
  ·exact⟨m,d,y,rfl,hy,ha _ hc,zap _⟩
  ·simp at hc
def q47{c:CV}{L:Nat}(h:Lg c L): ∃t b k,c=qbm t b k:=by obtain⟨n,d,y,rfl,h1,_⟩:=h;obtain⟨m,t,b,k,rfl,rfl,_⟩:=qdi h1;exact⟨t,b,k,rfl⟩
def xb5m{t:Int}{b:LI}{k:LC}{L:Nat}(h:Lg (qbm t b k) L)(hL:L<=30000):isS [.int .i64 t,.sli .u8 b,.slg 3 k]=true:=by obtain⟨n,d,y,e,h1,h2,h3⟩:=h;cases e;have:=xbd3 h1 h2;exact xbax h1 (by omega)
def xbx3{β:Type}{f:CV->Option β}{sz:β->Nat}{g:CV->Nat}: ∀ {l:LC},(∀c∈l, ∀y,f c=some y->sz y<=g c)->((l.filterMap f).map sz).sum<=(l.map g).sum
 | [],_=>by simp
 | x::r,h=>by
  have ih:=xbx3 (l:=r) fun c hc=>h c (by simp[hc])
  cases hx:f x with
  | none=>
   rw[List.filterMap_cons_none hx];simp only[zbf,zcf];omega
  | some y=>
   rw[zbe hx];have:=h x (by simp) y hx;simp only[zbf,zcf];omega
def q2i{β:Type}{f:CV->β}{sz:β->Nat}{g:CV->Nat}: ∀ {l:LC},(∀c∈l,sz (f c)<=g c)->((l.map f).map sz).sum<=(l.map g).sum
 | [],_=>by simp
 | x::r,h=>by have ih:=q2i (l:=r) fun c hc=>h c (by simp[hc]);have:=h x (by simp);simp only[zbf,zcf];omega
def qkt{g:CV->Nat}{l:LC}{c:CV}(h:c∈l):g c<=(l.map g).sum:=xbgb (List.mem_map_of_mem h)
def qri{β:Type}{f:CV->Option β}{sz:β->Nat}{Q:β->Prop}{g t:Int}{b:LI}{k:LC}{L:Nat}(hL:L<=6000)(h:Lg (qbm t b k) L)(hf: ∀c L',L'<=6000->Lg c L'->∀y,f c=some y->sz y<=L'/\Q y):((qcj f g t b k).map sz).sum+2<=L/\∀y∈qcj f g t b k,Q y:=by
 obtain⟨gz,h1,h2,_⟩:=qh6 h;unfold qcj;split
 ·rename_i hb;have hk:(qb0 g t b k).1=k:=by unfold qe0 at hb;rw[zab,yd] at hb;exact qfg hb.1
  rw[hk];have hs: ∀c∈k,gz c<=6000:=fun c hc=>by have:=qkt (g:=gz) hc;omega
  have:=xbx3 (sz:=sz) (g:=gz) (f:=f) (l:=k) fun c hc y hy=>(hf c _ (hs c hc) (h1 c hc) y hy).1;refine⟨by omega,fun y hy=> ?_⟩;obtain⟨c,hc,hy⟩:=List.mem_filterMap.1 hy;exact(hf c _ (hs c hc) (h1 c hc) y hy).2
 ·exact⟨by simp;omega,fun y hy=>by simp at hy⟩
def qii{β:Type}{sz:β->Nat}: ∀ {l:List β},(∀y,1<=sz y)->l.length<=(l.map sz).sum
 | [],_=>by simp
 | x::r,h=>by have:=qii (l:=r) h;have:=h x;simp only[zac,zbf,zcf];omega
def qib{b:LI}(h:b.length<=6000)(hb: ∀x∈b,0<=x/\x<=255):qad b=true:=qbt (by omega) hb
def xb5q{c:CV}{L:Nat}(hL:L<=6000)(h:Lg c L)(y:CV)(hy:qou c=some y):1+(qb8 y).length<=L/\∃b,y=.sli .u8 b/\qad b=true:=by
 obtain⟨t,b,k,rfl⟩:=q47 h;obtain⟨g,_,h2,hb⟩:=qh6 h;replace hy:(if(qa2 t b k).2=0 then some (CV.sli .u8 (qa2 t b k).1) else none)=some y:=hy;split at hy
 ·rename_i h0;cases hy;rw[(qyj h0).2.2];exact⟨by show 1+b.length<=L;omega,b,rfl,qib (by omega) hb⟩
 ·cases hy
def xb2l{g t:Int}{b:LI}{k:LC}{L:Nat}(hL:L<=6000)(h:Lg (qbm t b k) L):qry (qcj qou g t b k)+2<=L/\xbcg (qcj qou g t b k):=by
 have:=qri (sz:=fun c=>1+(qb8 c).length) (Q:=fun y=> ∃b,y=.sli .u8 b/\qad b=true) (g:=g) hL h fun c L' hL' hc y hy=>xb5q hL' hc y hy;refine⟨this.1, ?_,this.2⟩;have:=qii (l:=qcj qou g t b k) (sz:=fun c=>1+(qb8 c).length) fun y=>by omega
 omega
def xb17{c:CV}{L:Nat}(hL:L<=6000)(h:Lg c L)(y:CV)(hy:qc3 c=some y):1+qry (qbl y)<=L/\∃l,y=.slg 1 l/\xbcg l:=by
 obtain⟨t,b,k,rfl⟩:=q47 h;replace hy:(if qe0 qou 48 t b k=true then some (CV.slg 1 (qcj qou 48 t b k)) else none)=some y:=hy;have:=xb2l (g:=48) hL h;split at hy
 ·cases hy;exact⟨by show 1+qry (qcj qou 48 t b k)<=L;omega,_,rfl,this.2⟩
 ·cases hy
def xb4m{g t:Int}{b:LI}{k:LC}{L:Nat}(hL:L<=6000)(h:Lg (qbm t b k) L):qml (qcj qc3 g t b k)+2<=L/\xbch (qcj qc3 g t b k):=by
 have:=qri (sz:=fun c=>1+qry (qbl c)) (Q:=fun y=> ∃l,y=.slg 1 l/\xbcg l) (g:=g) hL h fun c L' hL' hc y hy=>xb17 hL' hc y hy;refine⟨this.1, ?_,this.2⟩;have:=qii (l:=qcj qc3 g t b k) (sz:=fun c=>1+qry (qbl c)) fun y=>by omega
 omega
def xbnm{c:CV}{L:Nat}(hL:L<=6000)(h:Lg c L):(qoy c).1.length<=L/\qad (qoy c).1=true:=by
 obtain⟨t,b,k,rfl⟩:=q47 h;obtain⟨n,d,y,e,h1,h2,h3⟩:=h;cases e;have e:qoy (qbm t b k)=qbb [.int .i64 t,.sli .u8 b,.slg 3 k]:=rfl;rw[e];have hb:=xbd3 h1 h2;rw[qfa h1];split
 ·exact⟨h3,qib (by show(qah n _).1.length<=6000;omega) (qkk h1 (by omega) h2)⟩
 ·exact⟨zbc _,qib (by simp) (by simp)⟩
def xb0b{c:CV}{L:Nat}(hL:L<=6000)(h:Lg c L)(y:CV)(hy:qov c=some y):2+(mW y).length+qml (mT y)<=L/\isMk y:=by
 obtain⟨t,b,k,rfl⟩:=q47 h;obtain⟨gz,h1,h2,_⟩:=qh6 h;have hs: ∀c∈k,gz c<=6000:=fun c hc=>by have:=qkt (g:=gz) hc;omega
 replace hy:(if(qc7 t b k).2.2.2=true then some (qu5 (qc7 t b k).1 (qc7 t b k).2.1 (qc7 t b k).2.2.1) else none)=some y:=hy;split at hy
 ·rename_i hm;cases hy;unfold qc7 at hm ⊢;split at hm
  ·cases hm
  ·rename_i h0;have h0:(qb0 48 t b k).2=0:=Classical.not_not.1 h0;rw[yb (fun h=>h h0)];rw[qfg h0] at hm ⊢;by_cases hl:(k.length:Int)<2\/3<(k.length:Int)
   ·unfold qob at hm;rw[yc hl] at hm;cases hm
   ·by_cases h3:k.length=3
    ·obtain⟨x,y,z,rfl⟩:=len3 h3;have hy:=h1 y (by simp);have hz:=h1 z (by simp);have hsum:2+b.length+(gz x+(gz y+(gz z+0)))<=L:=h2;obtain⟨t2,b2,k2,rfl⟩:=q47 hy;have ht:=xb4m (g:=162) (hs _ (by simp)) hy;have hk:=xbnm (hs _ (by simp)) hz;rw[qzg];exact⟨by show 2+(qoy z).1.length+qml (qcj qc3 162 t2 b2 k2)<=L;omega,_,_,_,rfl,ht.2,hk.2⟩
    ·obtain⟨x,y,rfl⟩:=len2 (show k.length=2 by omega);have hy:=h1 y (by simp);have hsum:2+b.length+(gz x+(gz y+0))<=L:=h2;have hk:=xbnm (hs _ (by simp)) hy;rw[qzf];exact⟨by show 2+(qoy y).1.length+0<=L;omega,_,_,_,rfl,⟨by simp,by simp⟩,hk.2⟩
 ·cases hy
def xbtw{g t:Int}{b:LI}{k:LC}{L:Nat}(hL:L<=6000)(h:Lg (qbm t b k) L):qeh (qcj qov g t b k)+2<=L/\qod (qcj qov g t b k):=by
 have:=qri (sz:=fun c=>2+(mW c).length+qml (mT c)) (Q:=isMk) (g:=g) hL h fun c L' hL' hc y hy=>xb0b hL' hc y hy;refine⟨this.1, ?_,this.2⟩;have:=qii (l:=qcj qov g t b k) (sz:=fun c=>2+(mW c).length+qml (mT c)) fun y=>by omega
 omega
def xbr9{c:CV}{L:Nat}(hL:L<=6000)(h:Lg c L)(y:CV)(hy:qdf c=some y):1+qeh (qbl y)<=L/\∃m,y=.slg 3 m/\qod m:=by
 obtain⟨t,b,k,rfl⟩:=q47 h;replace hy:(if qe0 qov 48 t b k=true then some (CV.slg 3 (qcj qov 48 t b k)) else none)=some y:=hy;have:=xbtw (g:=48) hL h;split at hy
 ·cases hy;exact⟨by show 1+qeh (qcj qov 48 t b k)<=L;omega,_,rfl,this.2⟩
 ·cases hy
def q7a{g t:Int}{b:LI}{k:LC}{L:Nat}(hL:L<=6000)(h:Lg (qbm t b k) L):recO (qcj qdf g t b k)=true:=by
 have:=qri (sz:=fun c=>1+qeh (qbl c)) (Q:=fun y=> ∃m,y=.slg 3 m/\qod m) (g:=g) hL h fun c L' hL' hc y hy=>xbr9 hL' hc y hy;have h2:=qii (l:=qcj qdf g t b k) (sz:=fun c=>1+qeh (qbl c)) fun y=>by omega
 exact qwj ⟨⟨by omega,this.2⟩,by show((qcj qdf g t b k).map fun c=>1+qeh (qbl c)).sum<=12100;omega⟩
def q48{b:LI}(hb:qad b=true)(h:(qan b).2=0):Lg (qbm (qan b).1.1 (qan b).1.2.1 (qan b).1.2.2) b.length:=by
 rw[qiu] at h ⊢;by_cases hz:(qas 32 b).1=0
 ·rw[yc hz] at h ⊢;by_cases hlt:(qas 32 b).2.2<b.length
  ·rw[yc hlt] at h;exact absurd h (by decide: ¬(7:Int)=0)
  ·rw[yb hlt];obtain⟨⟨h1,h2,h3,h4⟩,h5⟩:=ql9 32 b hb hz;exact⟨32,32,ndL (qas 32 b).2.1,rfl,h1,h2,by rw[h5,zch];omega⟩
 ·rw[yb hz] at h;exact absurd h hz
def xbkp(x y z:CV):qnr [x,y,z]=(qcj algV 48 (nT y) (nB y) (nK y),qcj qdf 48 (nT z) (nB z) (nK z),(decide ((qb6 (nT x) (nB x) (nK x)).2=0)&&decide ((qb6 (nT x) (nB x) (nK x)).1=1))&&(qe0 algV 48 (nT y) (nB y) (nK y)&&qe0 qdf 48 (nT z) (nB z) (nK z))):=rfl
def qkq(b:LI):qfz b=qbo b:=by unfold qfz;rw[qab]
def xbli{β:Type}{f:CV->Option β}{g t:Int}{b:LI}{k:LC}:(qcj f g t b k).length<=k.length:=by
 unfold qcj;split
 ·rename_i hb;unfold qe0 at hb;rw[zab,yd] at hb;rw[qfg hb.1];exact List.length_filterMap_le ..
 ·exact zbc _
def xbdy{b:LI}(h:b.length<=6000\/¬(qan b).2=0\/∃g c,qc0 c/\qc6 c<=12100/\qmn g c=true/\b=(qbd g c).1):b6w b=true:=by unfold b6w;rw[qab];exact @yf _ (ya _) h
def xbr0{b:LI}(h:b6w b=true):b.length<=6000\/¬(qan b).2=0\/∃g c,qc0 c/\qc6 c<=12100/\qmn g c=true/\b=(qbd g c).1:=by unfold b6w at h;rw[qab] at h;exact @ye _ (ya _) h
open IntWalk (i64_in u8_in u32_in u64_in i64_quo u8_quo rem_in)
def xb73{B:Bool}{a b:OO}:cond (!B) a b=cond B b a:=by cases B<;>rfl
def xcay{p:Prop}(h: ¬p):pD p=false:=zat.2 fun h'=>h (qke.1 h')
def qzs{p q:Prop}(h:p↔q):pD p=pD q:=by rw[propext h]
def qpn(a b:LI):qcr a b=pD (a=b):=by rw[xbwn,xbu4]
def qwq(a b:LC):qp3 a b=pD (a=b):=by unfold qp3;rw[qab]
def qp4(a b:LC):qnd a b=pD (a=b):=by unfold qnd;rw[qab]
def q7e(g:LI)(c:LC)(h:LI)(e:LC):xbel g c h e=pD (g=h/\c=e):=by unfold xbel;rw[qab]
def eq_g{a b:LC}{X:OO}(hX:a.length=b.length->X=cond (pD (a=b)) (zB true) (zB false)):
  cond (!decide ((a.length:Int)=(b.length:Int))) (zB false) X=zB (pD (a=b)):=by
 refine qa0 (fun h=>by rw[xb4z h]) fun h=> ?_;rw[hX (by omega)];cases pD (a=b)<;>rfl
def qyo: ∀a:LI,qbr a a=0
 | []=>rfl
 | x::a=>by unfold qbr;rw[yb (by omega),yb (by omega)];exact qyo a
def xbn1: ∀a b:LI, ¬qbr a b<0-> ¬qbr b a<0->a=b
 | [],[],_,_=>rfl
 | [],y::b,h,_=>absurd (by simp[qbr]) h
 | x::a,[],_,h=>absurd (by simp[qbr]) h
 | x::a,y::b,h1,h2=>by
  unfold qbr at h1 h2;by_cases hxy:x<y
  ·rw[yc hxy] at h1;omega
  ·by_cases hyx:y<x
   ·rw[yc hyx] at h2;omega
   ·rw[yb hxy,yb hyx] at h1;rw[yb hyx,yb hxy] at h2;rw[show x=y by omega,xbn1 a b h1 h2]
def xbgk(a b:LI):qe9 a b=decide (qbr a b<0):=by unfold qe9;rw[qab]
def xb04(a b:LC)(hp:(qvj a&&qvj b)=true):xbom a b=zB (qp3 a b):=by
 rw[zab] at hp;obtain⟨⟨ha,ha'⟩,⟨hb,hb'⟩⟩:=And.intro (qop hp.1) (qop hp.2);unfold xbom;rw[qwq];refine eq_g fun hl=> ?_;rw[qab];refine(xbsh a b hl (fun n i=>qn5 _ _ n a b i) _ (zB false) (fun n i x y hx hy hi=> ?_) (fun n=>qca (show ¬(a.length:Int)<(a.length:Int) by omega) rfl) FUEL 0 (zbc _) (by unfold FUEL;omega)).trans rfl;have e2:i64.wrap ((i:Int)+1)=((i+1:Nat):Int):=i64_in _ (by omega);obtain⟨p,rfl,hp⟩:=ha' _ (zad hx);obtain⟨q,rfl,hq⟩:=hb' _ (zad hy);rw[qzs (show CV.sli .u8 p=CV.sli .u8 q↔p=q by simp)];have no: ¬p=q->pD (p=q)=false:=fun h=>zat.2 fun h'=>h (qke.1 h');refine qaq (by omega) (qaz (by omega) hx (qam rfl (qaz (by omega) hy (qam rfl (qam (qia hp) (qc5 (fun h=> ?_) fun h=>qaz (by omega) hy (qam rfl (qaz (by omega) hx (qam rfl (qam (qia hq) (qc5 (fun h2=> ?_) fun h2=> ?_)))))))))))
 ·have h:qe9 p q=true:=h;rw[xbgk,yd] at h;rw[no fun he=>by rw[he,qyo] at h;omega];rfl
 ·have h2:qe9 q p=true:=h2;rw[xbgk,yd] at h2;rw[no fun he=>by rw[he,qyo] at h2;omega];rfl
 ·have h:qe9 p q=false:=h;have h2:qe9 q p=false:=h2;rw[xbgk,decide_eq_false_iff_not] at h h2;rw[qke.2 (xbn1 p q h h2)];show qn5 _ _ n a b (i64.wrap ((i:Int)+1))=_;rw[e2];rfl
def xbun(a b:LC)(hp:(quw a&&quw b)=true):xbfg a b=zB (qnd a b):=by rw[zab] at hp;obtain⟨⟨ha,ha'⟩,⟨hb,hb'⟩⟩:=And.intro (qlf hp.1) (qlf hp.2);unfold xbfg;rw[qp4];refine eq_g fun hl=> ?_;rw[qab];refine(xbsh a b hl (fun n i=>ql2 _ _ n a b i) _ (zB false) (fun n i x y hx hy hi=> ?_) (fun n=>qca (show ¬(a.length:Int)<(a.length:Int) by omega) rfl) FUEL 0 (zbc _) (by unfold FUEL;omega)).trans rfl;have e2:i64.wrap ((i:Int)+1)=((i+1:Nat):Int):=i64_in _ (by omega);obtain⟨p,rfl,hp⟩:=ha' _ (zad hx);obtain⟨q,rfl,hq⟩:=hb' _ (zad hy);refine qaq (by omega) (qaz (by omega) hx (qam rfl (qaz (by omega) hy (qam rfl (qam (by show(qvj p&&qvj q)=true;rw[q58 hp,q58 hq];rfl) ?_)))));show cond (!qp3 p q) _ (ql2 _ _ n a b (i64.wrap ((i:Int)+1)))=_;rw[e2,xb73,qwq,qzs (show p=q↔CV.slg 1 p=CV.slg 1 q by simp)]
def lpS9(K0:OO)(K1:Int->LI->LC->LI->LC->OO)(i:Nat)(g h:LI)(c e p q:LC)(hx:c[i]? =some (.slg 3 p))(hy:e[i]? =some (.slg 3 q))(hp:qod p)(hq:qod q)(hl:p.length=q.length):
  qg8 K0 K1 FUEL i 0 g c h e=cond (pD (p=q)) (K1 i g c h e) K0:=by
 refine(xbsh p q hl (fun n j=>qg8 K0 K1 n i j g c h e) _ K0 (fun n j x y hxj hyj hj=> ?_) (fun n=> ?_) FUEL 0 (zbc _) (by have:=hp.1;unfold FUEL;omega)).trans rfl
 rotate_left
 ·show qim (qg8 K0 K1 n) K0 K1 i p.length g c h e=_;unfold qim;exact qaz (by omega) hx (qam rfl (qca (show ¬(p.length:Int)<(p.length:Int) by omega) rfl))
 have hp1:=hp.1;have e2:i64.wrap ((j:Int)+1)=((j+1:Nat):Int):=i64_in _ (by omega);obtain⟨d,t,w,rfl,ht,hw⟩:=hp.2 _ (zad hxj);obtain⟨d2,t2,w2,rfl,ht2,hw2⟩:=hq.2 _ (zad hyj);have no: ¬(d=d2/\t=t2/\w=w2)->pD (qu5 d t w=qu5 d2 t2 w2)=false:=fun h=>zat.2 fun h'=>h (by have:=qke.1 h';simpa [qu5] using this);show qim (qg8 K0 K1 n) K0 K1 i j g c h e=_;unfold qim;refine qaz (by omega) hx (qam rfl (qaq (show(j:Int)<(p.length:Int) by omega) (qaz (by omega) hx (qam rfl (qaz (by omega) hxj (qam rfl (qaz (by omega) hy (qam rfl (qaz (by omega) hyj (qam rfl (qa0 (fun h1=> ?_) fun h1=>qam (by show(quw t&&quw t2)=true;rw[q0j ht,q0j ht2];rfl) (qe1 (fun h2=> ?_) fun h2=>qam (qia hw) (qe1 (fun h3=> ?_) fun h3=> ?_)))))))))))))
 ·rw[no fun h'=>h1 h'.1];rfl
 ·have h2:qnd t t2=false:=h2;rw[no fun h'=>by rw[qp4,qke.2 h'.2.1] at h2;cases h2];rfl
 ·have h3:qcr w w2=false:=h3;rw[no fun h'=>by rw[qpn,qke.2 h'.2.2] at h3;cases h3];rfl
 ·have h1:d=d2:=h1;have h2:qnd t t2=true:=h2;have h3:qcr w w2=true:=h3;rw[qp4] at h2;rw[qpn] at h3;rw[qke.2 (show qu5 d t w=qu5 d2 t2 w2 by rw[h1,qke.1 h2,qke.1 h3])];show qg8 K0 K1 n i (i64.wrap ((j:Int)+1)) g c h e=_;rw[e2];rfl
def lpS4(K0 K1:OO)(g h:LI)(c e:LC)(hc:qc0 c)(he:qc0 e)(hl:c.length=e.length):qil K0 K1 FUEL 0 g c h e=cond (pD (c=e)) K1 K0:=by
 refine(xbsh c e hl (fun n j=>qil K0 K1 n j g c h e) _ K0 (fun n j x y hxj hyj hj=> ?_) (fun n=>qca (show ¬(c.length:Int)<(c.length:Int) by omega) rfl) FUEL 0 (zbc _) (by have:=hc.1;unfold FUEL;omega)).trans rfl;have hc1:=hc.1;have e2:i64.wrap ((j:Int)+1)=((j+1:Nat):Int):=i64_in _ (by omega);obtain⟨p,rfl,hp⟩:=hc.2 _ (zad hxj);obtain⟨q,rfl,hq⟩:=he.2 _ (zad hyj);rw[qzs (show CV.slg 3 p=CV.slg 3 q↔p=q by simp)];show qpp (qil K0 K1 n) K0 K1 j g c h e=_;unfold qpp;simp only[qab];refine qaq (by omega) (qaz (by omega) hxj (qam rfl (qaz (by omega) hyj (qam rfl (qa0 (fun h1=> ?_) fun h1=> ?_)))))
 ·have h1: ¬(p.length:Int)=(q.length:Int):=h1;rw[xb4z h1];rfl
 ·have h1:(p.length:Int)=(q.length:Int):=h1;rw[lpS9 _ _ j g h c e p q hxj hyj hp hq (by omega)];show cond (pD (p=q)) (qil K0 K1 n (i64.wrap ((j:Int)+1)) g c h e) K0=_;rw[e2]
def xb08(g:LI)(c:LC)(h:LI)(e:LC)(hp:(qgc g&&(qcb c&&qcb e))=true):xbop g c h e=zB (xbel g c h e):=by
 simp only[zab] at hp;unfold xbop;rw[q7e,quk];refine qam hp.1 (qe1 (fun h2=> ?_) fun h2=> ?_)
 ·rw[xcay (fun h':g=h/\c=e=>by rw[qke.2 h'.1] at h2;cases h2)]
 ·rw[qzs (show(g=h/\c=e)↔c=e from⟨fun h'=>h'.2,fun h'=>⟨qke.1 h2,h'⟩⟩)];refine eq_g fun hl=> ?_;rw[qab];exact lpS4 _ _ g h c e (qds hp.2.1) (qds hp.2.2) hl
def xbzr(F:CV->Int->Int)(l:LC)(L:Nat->Int->Int->OO)(fin:Int->OO)(hF: ∀c∈l, ∀x,0<=x->x<=30000->F c x<=x - 1)(hstep: ∀(n i:Nat) (x:Int) (c:CV),l[i]? =some c->i<l.length->i<=30000->0<=x->x<=30000->L (n+1) i x=L n ((i+1:Nat):Int) (F c x))(hneg: ∀(n i:Nat) (x:Int),i<l.length->x<0->L (n+1) i x=fin x)(hend: ∀(n:Nat) (x:Int),L (n+1) (l.length:Int) x=fin x):
  ∀(fuel i:Nat) (x:Int),i<=l.length->(i:Int)+x<=30000->30003<fuel+i->i<=30002->L fuel (i:Int) x=fin (qql F (l.drop i) x)
 | 0,i,x,hi,hx,hf,hb=>by omega
 | fuel+1,i,x,hi,hx,hf,hb=>by
  rcases zb5 i l.length with h|h
  ·obtain⟨c,hc⟩: ∃c,l[i]? =some c:=⟨_,zag h⟩;rw[qid hc];by_cases h0:x<0
   ·rw[hneg fuel i x h h0];show fin x=fin (if x<0 then x else _);rw[yc h0]
   ·have:=hF c (zad hc) x (by omega) (by omega);rw[hstep fuel i x c hc h (by omega) (by omega) (by omega),xbzr F l L fin hF hstep hneg hend fuel (i+1) (F c x) h (by omega) (by omega) (by omega)];show _=fin (if x<0 then x else _);rw[yb h0]
  ·obtain rfl:i=l.length:=by omega
   rw[hend,zdj];rfl
def xb4y{F:CV->Int->Int}: ∀ {l:LC} {x:Int},(∀c∈l, ∀x,0<=x->x<=30000-> -2000000<=F c x/\F c x<=x - 1)-> -2000000<=x->x<=30000-> -2000000<=qql F l x/\qql F l x<=x
 | [],x,_,h1,h2=>⟨h1,Int.le_refl _⟩
 | c::r,x,h,h1,h2=>by
  show -2000000<=(if x<0 then x else qql F r (F c x))/\(if x<0 then x else qql F r (F c x))<=x;split
  ·exact⟨h1,Int.le_refl _⟩
  ·have hc:=h c (by simp) x (by omega) h2;have:=xb4y (l:=r) (fun c hc=>h c (by simp[hc])) hc.1 (by omega);exact⟨this.1,by omega⟩
def xbf5{F:CV->Int->Int}{sz:CV->Nat}: ∀ {l:LC} {x:Int},(∀c∈l, ∀x,x<=30000->0<=F c x->F c x=x - sz c)->(∀c∈l, ∀x,0<=x->x<=30000->F c x<=x - 1)->x<=30000->0<=qql F l x->qql F l x=x - (l.map sz).sum
 | [],x,_,_,_,_=>by show x=x - 0;omega
 | c::r,x,h,hF,hx,h0=>by
  replace h0:0<=(if x<0 then x else qql F r (F c x)):=h0;show(if x<0 then x else qql F r (F c x))=_;split at h0
  ·omega
  ·rename_i hx0;rw[yb hx0];have h1:=hF c (by simp) x (by omega) hx;have ih:=xbf5 (l:=r) (x:=F c x) (fun c hc=>h c (by simp[hc])) (fun c hc=>hF c (by simp[hc])) (by omega) h0;have hz:0<=F c x:=by
    rcases r with _|⟨a,r'⟩
    ·exact h0
    ·replace h0:0<=(if F c x<0 then F c x else qql F r' (F a (F c x))):=h0;split at h0<;>omega
   rw[ih,h c (by simp) x hx hz];simp only[zbf,zcf];omega
def xbvh(c:CV)(x:Int)(h0:0<=x)(h1:x<=30000): -2000000<=rowS c x/\rowS c x<=x - 1:=by unfold rowS;omega
def xbhm(c:CV)(x:Int)(h0:0<=x)(h1:x<=30000): -2000000<=xbcf c x/\xbcf c x<=x - 1:=by unfold xbcf;have:=xb4y (l:=qbl c) (x:=x - 1) (fun c _ x=>xbvh c x) (by omega) (by omega);exact this
def xbg2(c:CV)(x:Int)(h0:0<=x)(h1:x<=30000): -2000000<=xbce c x/\xbce c x<=x - 1:=by unfold xbce;have:=xb4y (l:=mT c) (x:=x - 2 - min ((mW c).length:Int) 1048576) (fun c _ x=>xbhm c x) (by omega) (by omega);omega
def xbed(c:CV)(x:Int)(h0:0<=x)(h1:x<=30000): -2000000<=qyn c x/\qyn c x<=x - 1:=by unfold qyn;have:=xb4y (l:=qbl c) (x:=x - 1) (fun c _ x=>xbg2 c x) (by omega) (by omega);exact this
open IntWalk (i64_in u8_in u32_in u64_in i64_quo u8_quo rem_in)
def xbgg{n:Int}(h:q5v n=true):0<=n/\n<=30000:=by unfold q5v at h;rw[qab] at h;exact ye h
def xbtk{n:Int}(h:0<=n/\n<=30000):q5v n=true:=by unfold q5v;rw[qab];exact yf h
def q51(n:Nat)(m:Int):cond (decide (m<(n:Int))) m (n:Int)=min (n:Int) m:=by
 by_cases h:m<(n:Int)
 ·rw[yf h,cond_true];omega
 ·rw[decide_eq_false h,cond_false];omega
def xcac(K0:Int->Int->Int->Int->LI->LC->Int->LC->LI->OO)(y1 y2:Int)(k:Nat)(g:LI)(c:LC)(d:Int)(t:LC)(w:LI)(row:LC)(ht:t[k]? =some (.slg 1 row))(hr:xb42 row)(x:Int)(h1: -2000000<=x)(h2:x<=30000):
  qdx K0 FUEL x y1 y2 k 0 g c d t w=K0 (qql rowS row x) y1 y2 k g c d t w:=by
 refine(xbzr rowS row (fun n i x=>qdx K0 n x y1 y2 k i g c d t w) (fun x=>K0 x y1 y2 k g c d t w) (fun c _ x h0 h1=>(xbvh c x h0 h1).2) (fun n i x z hz hi hi2 h0 h3=> ?_) (fun n i x hi h0=> ?_) (fun n x=> ?_) FUEL 0 x (zbc _) (by omega) (by unfold FUEL;omega) (by omega)).trans rfl
 ·obtain⟨b,rfl,hb⟩:=hr _ (zad hz);show qdy (qdx K0 n) K0 x y1 y2 k i g c d t w=_;unfold qdy;simp only[q51];refine qaz (by omega) ht (qam rfl (qaq (show(i:Int)<(row.length:Int) by omega) (qaq h0 (qaz (by omega) ht (qam rfl (qaz (by omega) hz (qam rfl ?_)))))));show qdx K0 n (i64.wrap (i64.wrap (x - 1) - min (b.length:Int) 1048576)) y1 y2 k (i64.wrap ((i:Int)+1)) g c d t w=_;rw[i64_in (x - 1) (by omega),i64_in (x - 1 - min (b.length:Int) 1048576) (by omega),i64_in ((i:Int)+1) (by omega)];rfl
 ·show qdy (qdx K0 n) K0 x y1 y2 k i g c d t w=_;unfold qdy;exact qaz (by omega) ht (qam rfl (qaq (show(i:Int)<(row.length:Int) by omega) (qca (by omega) rfl)))
 ·show qdy (qdx K0 n) K0 x y1 y2 k row.length g c d t w=_;unfold qdy;exact qaz (by omega) ht (qam rfl (qca (show ¬(row.length:Int)<(row.length:Int) by omega) rfl))
def xcab(K0:Int->Int->Int->LI->LC->OO)(y1 y2:Int)(g:LI)(c:LC)(d:Int)(t:LC)(w:LI)(ht:xb44 t)(x:Int)(h1: -2000000<=x)(h2:x<=30000):
  qda K0 FUEL x y1 y2 0 g c d t w=K0 (qql xbcf t x) y1 y2 g c:=by
 refine(xbzr xbcf t (fun n i x=>qda K0 n x y1 y2 i g c d t w) (fun x=>K0 x y1 y2 g c) (fun c _ x h0 h1=>(xbhm c x h0 h1).2) (fun n i x z hz hi hi2 h0 h3=> ?_) (fun n i x hi h0=> ?_) (fun n x=> ?_) FUEL 0 x (zbc _) (by omega) (by unfold FUEL;omega) (by omega)).trans rfl
 ·obtain⟨row,rfl,hr⟩:=ht _ (zad hz);show qdw (qda K0 n) K0 x y1 y2 i g c d t w=_;unfold qdw;simp only[qab];rw[i64_in (x - 1) (by omega),xcac _ y1 y2 i g c d t w row hz hr (x - 1) (by omega) (by omega)];refine qaq (show(i:Int)<(t.length:Int) by omega) (qaq h0 ?_);show qda K0 n (qql rowS row (x - 1)) y1 y2 (i64.wrap ((i:Int)+1)) g c d t w=_;rw[i64_in ((i:Int)+1) (by omega)];rfl
 ·show qdw (qda K0 n) K0 x y1 y2 i g c d t w=_;unfold qdw;exact qaq (show(i:Int)<(t.length:Int) by omega) (qca (by omega) rfl)
 ·show qdw (qda K0 n) K0 x y1 y2 t.length g c d t w=_;unfold qdw;exact qca (show ¬(t.length:Int)<(t.length:Int) by omega) rfl
def lpS7(K0:Int->Int->LI->LC->OO)(k:Nat)(g:LI)(c m:LC)(hm:c[k]? =some (.slg 3 m))(hmm:xbln m)(x:Int)(h1: -2000000<=x)(h2:x<=30000):
  qex K0 FUEL x k 0 g c=K0 (qql xbce m x) k g c:=by
 refine(xbzr xbce m (fun n i x=>qex K0 n x k i g c) (fun x=>K0 x k g c) (fun c _ x h0 h1=>(xbg2 c x h0 h1).2) (fun n i x z hz hi hi2 h0 h3=> ?_) (fun n i x hi h0=> ?_) (fun n x=> ?_) FUEL 0 x (zbc _) (by omega) (by unfold FUEL;omega) (by omega)).trans rfl
 ·obtain⟨d,t,w,rfl,ht,hw⟩:=hmm _ (zad hz);show qes (qex K0 n) K0 x k i g c=_;unfold qes;simp only[q51,qab];refine qaz (by omega) hm (qam rfl (qaq (show(i:Int)<(m.length:Int) by omega) (qaq h0 (qaz (by omega) hm (qam rfl (qaz (by omega) hz (qam rfl ?_)))))));show qda (fun y20 y21 y22 y23 y24=>qex K0 n y20 y21 (i64.wrap (y22+1)) y23 y24) FUEL (i64.wrap (i64.wrap (x - 2) - min (w.length:Int) 1048576)) k i 0 g c d t w=_;rw[i64_in (x - 2) (by omega),i64_in (x - 2 - min (w.length:Int) 1048576) (by omega),xcab _ k i g c d t w ht _ (by omega) (by omega),i64_in ((i:Int)+1) (by omega)];rfl
 ·show qes (qex K0 n) K0 x k i g c=_;unfold qes;exact qaz (by omega) hm (qam rfl (qaq (show(i:Int)<(m.length:Int) by omega) (qca (by omega) rfl)))
 ·show qes (qex K0 n) K0 x k m.length g c=_;unfold qes;exact qaz (by omega) hm (qam rfl (qca (show ¬(m.length:Int)<(m.length:Int) by omega) rfl))
def lpS3(K0:Int->OO)(g:LI)(c:LC)(hc:qs4 c)(x:Int)(h1: -2000000<=x)(h2:x<=30000):qew K0 FUEL x 0 g c=K0 (qql qyn c x):=by
 refine(xbzr qyn c (fun n i x=>qew K0 n x i g c) (fun x=>K0 x) (fun c _ x h0 h1=>(xbed c x h0 h1).2) (fun n i x z hz hi hi2 h0 h3=> ?_) (fun n i x hi h0=> ?_) (fun n x=> ?_) FUEL 0 x (zbc _) (by omega) (by unfold FUEL;omega) (by omega)).trans rfl
 ·obtain⟨m,rfl,hm⟩:=hc _ (zad hz);show qer (qew K0 n) K0 x i g c=_;unfold qer;simp only[qab];rw[i64_in (x - 1) (by omega),lpS7 _ i g c m hz hm (x - 1) (by omega) (by omega)];refine qaq (show(i:Int)<(c.length:Int) by omega) (qaq h0 ?_);show qew K0 n (qql xbce m (x - 1)) (i64.wrap ((i:Int)+1)) g c=_;rw[i64_in ((i:Int)+1) (by omega)];rfl
 ·show qer (qew K0 n) K0 x i g c=_;unfold qer;exact qaq (show(i:Int)<(c.length:Int) by omega) (qca (by omega) rfl)
 ·show qer (qew K0 n) K0 x c.length g c=_;unfold qer;exact qca (show ¬(c.length:Int)<(c.length:Int) by omega) rfl
def qz7{g:LI}{l:LC}(h:recT g l=true):g.length<=1000000000000000/\l.length<=1000000000000000/\qs4 l:=by unfold recT at h;rw[qab] at h;exact @ye _ (ya _) h
def xb2c{g:LI}{l:LC}(h:g.length<=1000000000000000/\l.length<=1000000000000000/\qs4 l):recT g l=true:=by unfold recT;rw[qab];exact @yf _ (ya _) h
def q1v(g:LI)(c:LC)(n:Int):qqg g c n=qql qyn c (n - min (g.length:Int) 1000):=by unfold qqg;rw[qab]
def xbup(g:LI)(c:LC)(n:Int)(hp:(recT g c&&q5v n)=true):xbfk g c n=zI (qqg g c n):=by rw[zab] at hp;obtain⟨_,_,hc⟩:=qz7 hp.1;have hn:=xbgg hp.2;unfold xbfk;rw[q1v];simp only[q51,qab];rw[i64_in (n - min (g.length:Int) 1000) (by omega)];exact lpS3 _ g c hc _ (by omega) (by omega)
def xbek(g:LI)(c:LC):xbsi g c=(c.all (fun x=>decide ((qbl x).length<=25))&&(decide (c.length<=12)&&decide (0<=qqg g c 6000))):=by unfold xbsi;rw[qab]
def xbx0(K0:OO)(K1:LI->LC->OO)(g:LI)(c:LC)(hl:c.length<=1000000000000000)(hc:qs4 c): ∀(fuel i:Nat),i<=c.length->c.length<fuel+i->qk6 K0 K1 fuel c (c.length:Int) i g c=cond ((c.drop i).all fun x=>decide ((qbl x).length<=25)) (K1 g c) K0
 | 0,i,hi,hf=>by omega
 | fuel+1,i,hi,hf=>by
  show qpr (qk6 K0 K1 fuel) K0 K1 c (c.length:Int) i g c=_;unfold qpr;rcases zb5 i c.length with h|h
  ·obtain⟨x,hx⟩: ∃x,c[i]? =some x:=⟨_,zag h⟩;obtain⟨m,rfl,hm⟩:=hc _ (zad hx);rw[qid hx,zbz];refine qaq (by omega) (qaz (by omega) hx (qam rfl (qae (fun h1=> ?_) fun h1=> ?_)))
   ·have h1:(25:Int)<(m.length:Int):=h1;rw[decide_eq_false (show ¬(qbl (.slg 3 m)).length<=25 by show ¬m.length<=25;omega)];rfl
   ·have h1: ¬(25:Int)<(m.length:Int):=h1;rw[yf (show(qbl (.slg 3 m)).length<=25 by show m.length<=25;omega),zbs];show qk6 K0 K1 fuel c (c.length:Int) (i64.wrap ((i:Int)+1)) g c=_;rw[i64_in ((i:Int)+1) (by omega)];exact xbx0 K0 K1 g c hl hc fuel (i+1) h (by omega)
  ·obtain rfl:i=c.length:=by omega
   rw[zdj];exact qca (by omega) rfl
def xb1n(g:LI)(c:LC)(hp:recT g c=true):xbo0 g c=zB (xbsi g c):=by
 obtain⟨_,hl,hc⟩:=qz7 hp;unfold xbo0;rw[qab,xbek];refine(xbx0 _ _ g c hl hc FUEL 0 (zbc _) (by unfold FUEL;omega)).trans ?_;rw[zbr];refine qc5 (fun h=> ?_) fun h=> ?_
 ·rw[h];refine qae (fun h2=>qam (by rw[hp,xbtk (by omega)];rfl) ?_) fun h2=> ?_
  ·rw[yf (show c.length<=12 by omega)];rfl
  ·rw[decide_eq_false (show ¬c.length<=12 by omega)];rfl
 ·rw[h];rfl
def xbvj{c:CV}(hc: ∃l,c=.slg 1 l/\xb42 l)(x:Int)(hx:x<=30000)(h:0<=xbcf c x):xbcf c x=x - (1+qry (qbl c):Nat):=by unfold xbcf at h ⊢;rw[xbf5 (sz:=fun c=>1+(qb8 c).length) (fun c _ x hx h=>by unfold rowS at h ⊢;omega) (fun c _ x h0 h1=>(xbvh c x h0 h1).2) (by omega) h];have:qry (qbl c)=((qbl c).map fun c=>1+(qb8 c).length).sum:=rfl;omega
def xbtv{c:CV}(x:Int)(hx:x<=30000)(hc: ∃d t w,c=qu5 d t w/\xb44 t/\∀x∈w,0<=x/\x<=255)(h:0<=xbce c x):xbce c x=x - (2+(mW c).length+qml (mT c):Nat):=by obtain⟨d,t,w,rfl,ht, -⟩:=hc;replace h:0<=qql xbcf t (x - 2 - min (w.length:Int) 1048576):=h;show qql xbcf t (x - 2 - min (w.length:Int) 1048576)=x - ((2+w.length+qml t:Nat):Int);have e:qml t=(t.map fun c=>1+qry (qbl c)).sum:=rfl;have hs:=xbf5 (sz:=fun c=>1+qry (qbl c)) (F:=xbcf) (l:=t) (fun c hc x hx h=>xbvj (ht c hc) x hx h) (fun c _ x h0 h1=>(xbhm c x h0 h1).2) (by omega) h;omega
def xbkk{c:CV}(hc: ∃m,c=.slg 3 m/\xbln m)(x:Int)(hx:x<=30000)(h:0<=qyn c x):qyn c x=x - (1+qeh (qbl c):Nat):=by obtain⟨m,rfl,hm⟩:=hc;replace h:0<=qql xbce m (x - 1):=h;show qql xbce m (x - 1)=x - ((1+qeh m:Nat):Int);have hs:=xbf5 (sz:=fun c=>2+(mW c).length+qml (mT c)) (F:=xbce) (l:=m) (fun c hc x hx h=>xbtv x hx (hm c hc) h) (fun c _ x h0 h1=>(xbg2 c x h0 h1).2) (by omega) h;have:qeh m=(m.map fun c=>2+(mW c).length+qml (mT c)).sum:=rfl;omega
def xbne{g:LI}{c:LC}(hc:qs4 c)(h:0<=qqg g c 6000):qc6 c<=6000:=by rw[q1v] at h;have:=xbf5 (sz:=fun c=>1+qeh (qbl c)) (fun c' hc' x hx h=>xbkk (hc c' hc') x hx h) (fun c _ x h0 h1=>(xbed c x h0 h1).2) (by omega) h;have e:qc6 c=(c.map fun c=>1+qeh (qbl c)).sum:=rfl;omega
def xbkl{c:LC}(hc:qs4 c)(h:qc6 c<=6000):qc0 c:=by
 have hl:=qii (l:=c) (sz:=fun c=>1+qeh (qbl c)) fun y=>by omega
 have e:qc6 c=(c.map fun c=>1+qeh (qbl c)).sum:=rfl;refine⟨by omega,fun x hx=> ?_⟩;obtain⟨m,rfl,hm⟩:=hc x hx;have h1:=qkt (g:=fun c=>1+qeh (qbl c)) hx;have h1:1+qeh m<=_:=h1;have e2:qeh m=(m.map fun c=>2+(mW c).length+qml (mT c)).sum:=rfl;have hl2:=qii (l:=m) (sz:=fun c=>2+(mW c).length+qml (mT c)) fun y=>by omega
 refine⟨m,rfl,by omega,fun y hy=> ?_⟩;obtain⟨d,t,w,rfl,ht,hw⟩:=hm y hy;have h3:=qkt (g:=fun c=>2+(mW c).length+qml (mT c)) hy;have h3:2+w.length+qml t<=_:=h3;have e3:qml t=(t.map fun c=>1+qry (qbl c)).sum:=rfl;have hl3:=qii (l:=t) (sz:=fun c=>1+qry (qbl c)) fun y=>by omega
 refine⟨d,t,w,rfl,⟨by omega,fun z hz=> ?_⟩,qbt (by omega) hw⟩;obtain⟨l,rfl,hr⟩:=ht z hz;have h4:=qkt (g:=fun c=>1+qry (qbl c)) hz;have h4:1+qry l<=_:=h4;have e4:qry l=(l.map fun c=>1+(qb8 c).length).sum:=rfl;have hl4:=qii (l:=l) (sz:=fun c=>1+(qb8 c).length) fun y=>by omega
 refine⟨l,rfl,by omega,fun u hu=> ?_⟩;obtain⟨b,rfl,hb⟩:=hr u hu;have h5:=qkt (g:=fun c=>1+(qb8 c).length) hu;have h5:1+b.length<=_:=h5;exact⟨b,rfl,qbt (by omega) hb⟩
def xbx1{g:LI}{c:LC}(h:recT g c=true)(hf:xbsi g c=true):qgc g=true/\qc0 c/\qc6 c<=6000:=by obtain⟨h1,h2,h3⟩:=qz7 h;rw[xbek] at hf;simp only[zab,yd] at hf;have:=xbne h3 hf.2.2;exact⟨qtj h1,xbkl h3 this,this⟩
def q8p:(qan []).2=1:=by unfold qan;rw[qab];rfl
def xb1o:(qgc []&&recO [])=true:=by rw[qwj ⟨⟨by simp,by simp⟩,by decide⟩,qtj (by simp)];rfl
def xb1l(hp:true=true):xboy=zB true:=by
 unfold xboy;rw[qkq,qns];have e:qbo []=([],[],1):=by unfold qbo;rw[yc (by rw[q8p];omega),q8p]
 have e2:qmn [] []=false:=rfl;rw[e,e2];exact qam (by rw[qbt (by simp) (by simp),xbdy (.inl (by simp))];rfl) (qam xb1o rfl)
open IntWalk (i64_in u8_in u32_in u64_in i64_quo u8_quo rem_in)
def xb0g(g:Int)(b:LI)(hp:qdu b=true):xbn6 g b=zR [.cl (.agg [.int .i64 (qbs g b).1,.sli .u8 qa6,.slg 3 (qbs g b).2.1]),.cl (.int .i64 (qbs g b).2.2)] []:=by
 obtain⟨i1,i2⟩:=qpj g;have hid:idOk (qaf g).2.2=true:=q71 (by omega) i2;have h16:q6m 16=true:=by unfold q6m;exact yf (by omega)
 unfold xbn6 qbs;simp only[qjf,qab,qcf,qbq];unfold qga;refine qae (fun h=> ?_) fun h=>qae (fun h6=>qa0 (fun h'=> ?_) fun h'=>qam hid (qam hp (qam (qci (by simp)) ?_))) fun h6=>qae (fun h7=>qa0 (fun h'=> ?_) fun h'=>qam hid (qam hp (qam h16 (qam (qci (by simp)) (qam (qci (by simp)) ?_))))) fun h7=>qa0 (fun h'=> ?_) fun h'=>qam hid (qam (qci (by simp)) ?_)
 ·rw[yc h]
 ·rw[yb h,yc (by rw[h6];exact h')]
 ·rw[yb h,yb (by rw[h6];exact fun x=>x h'),yc h6];rfl
 ·rw[yb h,yc (by rw[h7];exact h')]
 ·rw[yb h,yb (by rw[h7];exact fun x=>x h'),yb h6,yc h7];rfl
 ·rw[yb h,yc (by unfold qb3;rw[yb h6,yb h7];exact h')]
 ·rw[yb h,yb (by unfold qb3;rw[yb h6,yb h7];exact fun x=>x h'),yb h6,yb h7];rfl
open IntWalk (i64_in u8_in u32_in u64_in i64_quo u8_quo rem_in)
def xbbu{k:LC}{g:CV->Nat}(hg: ∀c∈k,g c<=6000)(h: ∀c∈k,Lg c (g c)):qry (k.map fun d=>CV.sli .u8 (nB d))<=(k.map g).sum/\(k.map g).sum<=6000->xbcg (k.map fun d=>CV.sli .u8 (nB d)):=fun hs=>by
 refine⟨?_,fun c hc=> ?_⟩
 ·have:=qii (l:=k.map fun d=>CV.sli .u8 (nB d)) (sz:=fun c=>1+(qb8 c).length) fun y=>by omega
  have e:qry (k.map fun d=>CV.sli .u8 (nB d))=((k.map fun d=>CV.sli .u8 (nB d)).map fun c=>1+(qb8 c).length).sum:=rfl;omega
 ·obtain⟨d,hd,rfl⟩:=zbo.1 hc;obtain⟨t,b,k',rfl⟩:=q47 (h d hd);obtain⟨_,_,h2,hb⟩:=qh6 (h _ hd);have:=hg _ hd;exact⟨b,rfl,qib (by omega) hb⟩
def q6a{k:LC}{g:CV->Nat}(h: ∀c∈k,Lg c (g c)):qry (k.map fun d=>CV.sli .u8 (nB d))<=(k.map g).sum:=q2i (f:=fun d=>CV.sli .u8 (nB d)) (sz:=fun c=>1+(qb8 c).length) fun c hc=>by obtain⟨t,b,k',rfl⟩:=q47 (h c hc);obtain⟨_,_,h2,_⟩:=qh6 (h _ hc);show 1+b.length<=_;omega
def qwf{c:CV}{L:Nat}(hL:L<=6000)(h:Lg c L):1+qry ((nK c).map fun d=>CV.sli .u8 (nB d))<=L/\xbcg ((nK c).map fun d=>CV.sli .u8 (nB d)):=by
 obtain⟨t,b,k,rfl⟩:=q47 h;obtain⟨g,h1,h2,_⟩:=qh6 h;have hs: ∀c∈k,g c<=6000:=fun c hc=>by have:=qkt (g:=g) hc;omega
 have h3:=q6a h1;refine⟨by show 1+qry (k.map fun d=>CV.sli .u8 (nB d))<=L;omega,xbbu hs h1 ⟨h3,by show(k.map g).sum<=6000;omega⟩⟩
def xbb9{c:CV}{L:Nat}(hL:L<=6000)(h:Lg c L):qml ((nK c).map fun p=>CV.slg 1 ((nK p).map fun d=>CV.sli .u8 (nB d)))+2<=L/\xbch ((nK c).map fun p=>CV.slg 1 ((nK p).map fun d=>CV.sli .u8 (nB d))):=by
 obtain⟨t,b,k,rfl⟩:=q47 h;obtain⟨g,h1,h2,_⟩:=qh6 h;have hs: ∀c∈k,g c<=6000:=fun c hc=>by have:=qkt (g:=g) hc;omega
 have h3:qml (k.map fun p=>CV.slg 1 ((nK p).map fun d=>CV.sli .u8 (nB d)))<=(k.map g).sum:=q2i (f:=fun p=>CV.slg 1 ((nK p).map fun d=>CV.sli .u8 (nB d))) (sz:=fun c=>1+qry (qbl c)) fun c hc=>(qwf (hs c hc) (h1 c hc)).1;refine⟨by show qml (k.map _)+2<=L;omega, ?_,fun x hx=> ?_⟩
 ·have h4:=qii (l:=k.map fun p=>CV.slg 1 ((nK p).map fun d=>CV.sli .u8 (nB d))) (sz:=fun c=>1+qry (qbl c)) fun y=>by omega
  have e:qml (k.map fun p=>CV.slg 1 ((nK p).map fun d=>CV.sli .u8 (nB d)))=((k.map fun p=>CV.slg 1 ((nK p).map fun d=>CV.sli .u8 (nB d))).map fun c=>1+qry (qbl c)).sum:=rfl;show(k.map fun p=>CV.slg 1 ((nK p).map fun d=>CV.sli .u8 (nB d))).length<=1000000;omega
 ·obtain⟨p,hp,rfl⟩:=zbo.1 hx;exact⟨_,rfl,(qwf (hs p hp) (h1 p hp)).2⟩
def xb0c{c:CV}{L:Nat}(hL:L<=6000)(h:Lg c L):2+(mW (mkdV c)).length+qml (mT (mkdV c))<=L/\isMk (mkdV c):=by
 obtain⟨t,b,k,rfl⟩:=q47 h;obtain⟨g,h1,h2,_⟩:=qh6 h;have hs: ∀c∈k,g c<=6000:=fun c hc=>by have:=qkt (g:=g) hc;omega
 have hC:mkdC (qbm t b k)=if k.length<2\/(nK (k.headD .nili)).length≠1 then(0,[],[]) else(xbg6 (qbm t b k),qv7 (qbm t b k),(qoy (k.getD (k.length - 1) .nili)).1):=rfl
 have hV:mkdV (qbm t b k)=qu5 (mkdC (qbm t b k)).1 (mkdC (qbm t b k)).2.1 (mkdC (qbm t b k)).2.2:=rfl;have nil:xbch []:=⟨by simp,by simp⟩;rw[hV];show 2+(mkdC (qbm t b k)).2.2.length+qml (mkdC (qbm t b k)).2.1<=L/\isMk (qu5 (mkdC (qbm t b k)).1 (mkdC (qbm t b k)).2.1 (mkdC (qbm t b k)).2.2);rw[hC];split
 ·exact⟨by show 2+0+0<=L;omega,_,_,_,rfl,nil,qib (by simp) (by simp)⟩
 ·rename_i hn
  match k,h1,h2,hs,hn with
  | [],_,_,_,hn=>exact absurd (Or.inl (by simp)) hn
  | [x],_,_,_,hn=>exact absurd (Or.inl (by simp)) hn
  | [x,y],h1,h2,hs,hn=>
   have hsum:2+b.length+(g x+(g y+0))<=L:=h2;have hk:=xbnm (hs y (by simp)) (h1 y (by simp));exact⟨by show 2+(qoy y).1.length+0<=L;omega,_,_,_,rfl,nil,hk.2⟩
  | x::y::z::r,h1,h2,hs,hn=>
   have hsum:2+b.length+(g x+(g y+((z::r).map g).sum))<=L:=h2;obtain⟨u,hu,hm⟩: ∃u,(x::y::z::r).getD ((x::y::z::r).length - 1) .nili=u/\u∈z::r:=by refine⟨_,rfl, ?_⟩;show(x::y::z::r).getD (r.length+2) .nili∈z::r;show(z::r).getD r.length .nili∈z::r;rw[za6,zag (by simp)];exact zcm _
   have hg:=qkt (g:=g) hm;have hk:=xbnm (hs u (by simp at hm;simp[hm])) (h1 u (by simp at hm;simp[hm]));have ht:=xbb9 (hs y (by simp)) (h1 y (by simp));have e:qv7 (qbm t b (x::y::z::r))=(nK y).map fun p=>CV.slg 1 ((nK p).map fun d=>CV.sli .u8 (nB d)):=by show(if 2<(x::y::z::r).length then _ else _)=_;rw[yc (by simp)];rfl
   rw[hu,e];exact⟨by show 2+(qoy u).1.length+qml ((nK y).map fun p=>CV.slg 1 ((nK p).map fun d=>CV.sli .u8 (nB d)))<=L;omega,_,_,_,rfl,ht.2,hk.2⟩
def qt3{c:CV}{L:Nat}(hL:L<=6000)(h:Lg c L):1+qeh ((nK c).map mkdV)<=L/\qod ((nK c).map mkdV):=by
 obtain⟨t,b,k,rfl⟩:=q47 h;obtain⟨g,h1,h2,_⟩:=qh6 h;have hs: ∀c∈k,g c<=6000:=fun c hc=>by have:=qkt (g:=g) hc;omega
 have h3:qeh (k.map mkdV)<=(k.map g).sum:=q2i (f:=mkdV) (sz:=fun c=>2+(mW c).length+qml (mT c)) fun c hc=>(xb0c (hs c hc) (h1 c hc)).1;refine⟨by show 1+qeh (k.map mkdV)<=L;omega, ?_,fun x hx=> ?_⟩
 ·have h4:=qii (l:=k.map mkdV) (sz:=fun c=>2+(mW c).length+qml (mT c)) fun y=>by omega
  have e:qeh (k.map mkdV)=((k.map mkdV).map fun c=>2+(mW c).length+qml (mT c)).sum:=rfl;show(k.map mkdV).length<=10000;omega
 ·obtain⟨p,hp,rfl⟩:=zbo.1 hx;exact(xb0c (hs p hp) (h1 p hp)).2
def xb2d{t:Int}{b:LI}{k:LC}{L:Nat}(hL:L<=6000)(h:Lg (qbm t b k) L):recO (qdc k)=true:=by
 obtain⟨g,h1,h2,_⟩:=qh6 h;have hs: ∀c∈k,g c<=6000:=fun c hc=>by have:=qkt (g:=g) hc;omega
 unfold qdc;split
 ·rename_i h3;obtain⟨x,y,z,rfl⟩:=len3 h3;show recO ((nK z).map fun c=>CV.slg 3 ((nK c).map mkdV))=true;have hz:=h1 z (by simp);have hzs:=hs z (by simp);obtain⟨t3,b3,k3,rfl⟩:=q47 hz;obtain⟨g3,h31,h32,_⟩:=qh6 hz;have hs3: ∀c∈k3,g3 c<=6000:=fun c hc=>by have:=qkt (g:=g3) hc;omega
  have h4:qc6 (k3.map fun c=>CV.slg 3 ((nK c).map mkdV))<=(k3.map g3).sum:=q2i (f:=fun c=>CV.slg 3 ((nK c).map mkdV)) (sz:=fun c=>1+qeh (qbl c)) fun c hc=>(qt3 (hs3 c hc) (h31 c hc)).1;have h5:=qii (l:=k3.map fun c=>CV.slg 3 ((nK c).map mkdV)) (sz:=fun c=>1+qeh (qbl c)) fun y=>by omega
  have e:qc6 (k3.map fun c=>CV.slg 3 ((nK c).map mkdV))=((k3.map fun c=>CV.slg 3 ((nK c).map mkdV)).map fun c=>1+qeh (qbl c)).sum:=rfl;refine qwj ⟨⟨by show(k3.map _).length<=10000;omega,fun u hu=> ?_⟩,by show qc6 (k3.map _)<=12100;omega⟩;obtain⟨p,hp,rfl⟩:=zbo.1 hu;exact⟨_,rfl,(qt3 (hs3 p hp) (h31 p hp)).2⟩
 ·exact qwj ⟨⟨by simp,by simp⟩,by decide⟩
open IntWalk (i64_in u8_in u32_in u64_in i64_quo u8_quo rem_in)
def xbx2{α β:Type}{f:α->Option β}{h:β->Option α}: ∀ {l:List α},l.all (fun c=>(f c).isSome)=true->(∀c∈l, ∀y,f c=some y->h y=some c)->(l.filterMap f).filterMap h=l/\(l.filterMap f).all (fun c=>(h c).isSome)=true
 | [],_,_=>⟨rfl,rfl⟩
 | x::r,ha,hh=>by simp only[zbz,zab] at ha;obtain⟨y,hy⟩:=zax.1 ha.1;have ih:=xbx2 (l:=r) ha.2 fun c hc=>hh c (by simp[hc]);have hx:=hh x (by simp) y hy;rw[zbe hy,zbe hx,ih.1,zbz,hx,ih.2];exact⟨rfl,rfl⟩
def xbn5{α β:Type}{h:β->Option α}{f:α->Option β}: ∀ {k:List β},k.all (fun c=>(h c).isSome)=true->(k.filterMap h).all (fun c=>(f c).isSome)=true->(∀z∈k, ∀c y,h z=some c->f c=some y->y=z)->(k.filterMap h).filterMap f=k
 | [],_,_,_=>rfl
 | z::r,ha,hf,hb=>by simp only[zbz,zab] at ha;obtain⟨c,hc⟩:=zax.1 ha.1;rw[zbe hc,zbz,zab] at hf;obtain⟨y,hy⟩:=zax.1 hf.1;have:=hb z (by simp) c y hc hy;subst this;rw[zbe hc,zbe hy,xbn5 ha.2 hf.2 fun w hw=>hb w (by simp[hw])]
def qvv{α β:Type}{f:α->Option β}{lo hi:Int}{l:List α}(h:evB f lo hi l=true):l.all (fun c=>(f c).isSome)=true:=by unfold evB at h;rw[zab] at h;exact h.2
def qrg{g t:Int}{b:LI}{k:LC}(h:(qb0 g t b k).2=0):t=g/\b=[]:=by
 by_cases e:t=g
 ·refine⟨e, ?_⟩;by_cases hb:qav g=true
  ·by_cases hl:b.length≠0
   ·rw[xbje e hb hl] at h;simp at h
   ·exact zaj (by omega)
  ·rw[q9t (zat.2 hb)] at h;simp at h
 ·rw[qr3 e] at h;simp at h
def qkw{α:Type}{f:α->Option CV}{h:CV->Option α}{g lo hi:Int}{l:List α}(hg:qav g=true)(hb:evB f lo hi l=true)(hh: ∀c∈l, ∀y,f c=some y->h y=some c):
  qe0 h g g [] (evL f lo hi l)=true/\qcj h g g [] (evL f lo hi l)=l:=by
 have e:=(qq0 hb).1;obtain⟨i1,i2⟩:=xbx2 (qvv hb) hh;have hk:qb0 g g [] (evL f lo hi l)=(evL f lo hi l,0):=q3s rfl hg (by simp);have hB:qe0 h g g [] (evL f lo hi l)=true:=by unfold qe0;rw[hk,yf rfl,e];exact i2
 refine⟨hB, ?_⟩;unfold qcj;rw[yc hB,hk,e];exact i1
def xbgm{α:Type}{h:CV->Option α}{g t:Int}{b:LI}{k:LC}(hB:qe0 h g t b k=true):t=g/\b=[]/\qcj h g t b k=k.filterMap h/\k.all (fun c=>(h c).isSome)=true:=by have hB0:=hB;unfold qe0 at hB;rw[zab,yd] at hB;obtain⟨h1,h2⟩:=qrg hB.1;rw[qfg hB.1] at hB;refine⟨h1,h2, ?_,hB.2⟩;unfold qcj;rw[yc hB0,qfg (by unfold qe0 at hB0;rw[zab,yd] at hB0;exact hB0.1)]
def qrj{α:Type}{f:α->Option CV}{h:CV->Option α}{g t lo hi:Int}{b:LI}{k:LC}(hB:qe0 h g t b k=true)(hE:evB f lo hi (qcj h g t b k)=true)(hb: ∀z∈k, ∀c y,h z=some c->f c=some y->y=z):
  t=g/\b=[]/\evL f lo hi (qcj h g t b k)=k:=by
 obtain⟨h1,h2,h3,h4⟩:=xbgm hB;refine⟨h1,h2, ?_⟩;rw[(qq0 hE).1];have:=qvv hE;rw[h3] at this ⊢;exact xbn5 h4 this hb
def NdO(c:CV):Prop:= ∃t b k,c=.agg [.int .i64 t,.sli .u8 b,.slg 3 k]/\isS [.int .i64 t,.sli .u8 b,.slg 3 k]=true
def qk7{t:Int}{b:LI}{k:LC}(h:isS [.int .i64 t,.sli .u8 b,.slg 3 k]=true): ∀c∈k,NdO c:=(qfs (qg3 h).1).2
def xbkn{s:Int}{l:LC}(hl:xbcg l): ∀c∈l, ∀y,digF s c=some y->qou y=some c:=fun c hc y hy=>by
 obtain⟨b,rfl,hb⟩:=hl.2 c hc;replace hy:(if(b.length:Int)=s then some (qbm 4 b []) else none)=some y:=hy;split at hy
 ·cases hy;show(if(qa2 4 b []).2=0 then some (CV.sli .u8 (qa2 4 b []).1) else none)=_;rw[xbd8,yc rfl]
 ·cases hy
def xbsd{s:Int}{z c y:CV}(hz:NdO z)(h1:qou z=some c)(h2:digF s c=some y):y=z:=by
 obtain⟨t,b,k,rfl,_⟩:=hz;replace h1:(if(qa2 t b k).2=0 then some (CV.sli .u8 (qa2 t b k).1) else none)=some c:=h1;split at h1
 ·rename_i h0;obtain⟨rfl,rfl,e⟩:=qyj h0;cases h1;rw[e] at h2;replace h2:(if(b.length:Int)=s then some (qbm 4 b []) else none)=some y:=h2;split at h2
  ·cases h2;rfl
  ·cases h2
 ·cases h1
def qzy{s:Int}{l:LC}{y:CV}(h:qj9 s (.slg 1 l)=some y):evB (digF s) 1 64 l=true/\y=qbm 48 [] (evL (digF s) 1 64 l):=by
 replace h:(if evB (digF s) 1 64 l=true then some (qbm 48 [] (evL (digF s) 1 64 l)) else none)=some y:=h;split at h
 ·rename_i hb;cases h;exact⟨hb,rfl⟩
 ·cases h
def xbbn{t:Int}{b:LI}{k:LC}{c:CV}(h:qc3 (qbm t b k)=some c):qe0 qou 48 t b k=true/\c=.slg 1 (qcj qou 48 t b k):=by
 replace h:(if qe0 qou 48 t b k=true then some (CV.slg 1 (qcj qou 48 t b k)) else none)=some c:=h;split at h
 ·rename_i hb;cases h;exact⟨hb,rfl⟩
 ·cases h
def xbho{s:Int}{t:LC}(ht:xbch t): ∀c∈t, ∀y,qj9 s c=some y->qc3 y=some c:=fun c hc y hy=>by obtain⟨l,rfl,hl⟩:=ht.2 c hc;obtain⟨hb,rfl⟩:=qzy hy;have:=qkw (g:=48) rfl hb (xbkn hl);show(if qe0 qou 48 48 [] (evL (digF s) 1 64 l)=true then some (CV.slg 1 (qcj qou 48 48 [] (evL (digF s) 1 64 l))) else none)=_;rw[yc this.1,this.2]
def xbmd{s:Int}{z c y:CV}(hz:NdO z)(h1:qc3 z=some c)(h2:qj9 s c=some y):y=z:=by obtain⟨t,b,k,rfl,hs⟩:=hz;obtain⟨hB,rfl⟩:=xbbn h1;obtain⟨hE,rfl⟩:=qzy h2;obtain⟨rfl,rfl,e⟩:=qrj hB hE fun z hz c y=>xbsd (qk7 hs z hz);rw[e];rfl
def xb6b{t:Int}{b:LI}{k:LC}(hs:isS [.int .i64 t,.sli .u8 b,.slg 3 k]=true)(h:(qgp t b k).2=0):qez (qgp t b k).1=qbm t b k:=by
 have hv:qr2 6 t b k=0:=by
  unfold qgp at h;rw[qab] at h;by_cases he:qr2 6 t b k=0
  ·exact he
  ·rw[yb he] at h;exact absurd h he
 have hvi:qgp t b k=qcl b:=by unfold qgp;rw[qab,yc hv]
 obtain⟨rfl,hk1,hd⟩:=quz hv;have hk1:=zaj hk1;subst hk1;have hp:qcl b=qcw b:=qab _;have hd:decide ((qcw b).2=0)=true:=hd;rcases qvt (q74 hs) with h5|⟨o,h5,hof,hor,hob⟩
 ·rw[h5] at hd;simp at hd
 ·rw[hvi,hp,h5,q73 hof hor,show qay o=b from(show qay o=qco o from qab _).trans hob]
def q2f{d:Int}(h:(qaf d).2.1=1):qvc 160 [] [qez (qaf d).2.2]=(d,true):=by
 obtain⟨hm,hg⟩:=xbeo (g:=d) (by omega);have hf:=xbej _ hm;have hr:=(qpj d).2;have hof:qhf (qaf d).2.2=d:=by rw[xb1r hm,hg]
 have hid:qgp 6 (qay (qaf d).2.2) []=((qaf d).2.2,0):=by unfold qgp;rw[qab,yc (qw0 rfl rfl (q2b hf hr).2)];unfold qcl;rw[qab];exact(q2b hf hr).1
 have hk:qb0 160 160 [] [qez (qaf d).2.2]=([qez (qaf d).2.2],0):=q3s rfl rfl (by simp);unfold qvc;rw[hk,yb (by simp),q73 hf hr];show(qhf (qgp 6 (qay (qaf d).2.2) []).1,decide ((qgp 6 (qay (qaf d).2.2) []).2=0))=_;rw[hid,hof];rfl
def q79{x:CV}{d:Int}(hx:NdO x)(h:qy0 x=(d,true))(hd:(qaf d).2.1=1):qbm 160 [] [qez (qaf d).2.2]=x:=by
 obtain⟨t,b,k,rfl,hs⟩:=hx;replace h:qvc t b k=(d,true):=h;unfold qvc at h;split at h
 ·simp at h
 ·rename_i h0;have h1:(qb0 160 t b k).2=0:=Classical.byContradiction fun e=>h0 (.inl e);have h2:((qb0 160 t b k).1.length:Int)=1:=Classical.byContradiction fun e=>h0 (.inr e);obtain⟨rfl,rfl⟩:=qrg h1;rw[qfg h1] at h h2;obtain⟨c,rfl⟩:=List.length_eq_one_iff.1 (show k.length=1 by omega);obtain⟨t1,b1,k1,rfl,hs1⟩:=qk7 hs c (by simp);replace h:(qhf (qgp t1 b1 k1).1,decide ((qgp t1 b1 k1).2=0))=(d,true):=h;obtain⟨h3,h4⟩:=Prod.mk.inj h;have h4:=ye h4;have e:=xb6b hs1 h4;have h5: ¬qhf (qgp t1 b1 k1).1=0:=fun h0=>by
   rw[h0] at h3;rw[<- h3] at hd;have:(qaf 0).2.1=0:=by rw[qyu (by omega)]
   omega
  have h6:=(xb1s h5).2;rw[h3] at h6;rw[h6,e];rfl
def q9n{w:LI}(hw:qad w=true)(hl:w.length<=30000)(h:(qan w).2=0):qoy (ndCV (qan w).1)=(w,0):=(q3a hw hl h).2.1
def xbi7{z:CV}(hz:NdO z)(h:(qoy z).2=0):ndCV (qan (qoy z).1).1=z/\(qan (qoy z).1).2=0:=by
 obtain⟨t,b,k,rfl,hs⟩:=hz;replace h:(qbb [.int .i64 t,.sli .u8 b,.slg 3 k]).2=0:=h;obtain⟨n,hn,_⟩:=qc8 hs;have hf:qrr [.int .i64 t,.sli .u8 b,.slg 3 k]=true:=by rw[<- qrc hn];exact yf h
 have e:qan (qbb [.int .i64 t,.sli .u8 b,.slg 3 k]).1=(toNd [.int .i64 t,.sli .u8 b,.slg 3 k],0):=qzx hs hf;show ndCV (qan (qbb [.int .i64 t,.sli .u8 b,.slg 3 k]).1).1=_/\(qan (qbb [.int .i64 t,.sli .u8 b,.slg 3 k]).1).2=0;rw[e];exact⟨xbpe hn,rfl⟩
def ql7(d:Int)(t:LC)(w:LI):(t=[]/\qmj d t w=[qbm 160 [] [qez (qaf d).2.2],ndCV (qan w).1])\/(¬t=[]/\qmj d t w=[qbm 160 [] [qez (qaf d).2.2],qbm 162 [] (evL (qj9 (qa4 d)) 0 20 t),ndCV (qan w).1]):=by
 by_cases h:t=[]
 ·exact .inl ⟨h,by unfold qmj;rw[yc h];rfl⟩
 ·exact .inr ⟨h,by unfold qmj;rw[yb h];rfl⟩
def xbg3{d:Int}{t:LC}{w:LI}(ht:xbch t)(hw:qad w=true)(hl:w.length<=30000)(h:qdg d t w=true):qc7 48 [] (qmj d t w)=(d,t,w,true):=by
 obtain⟨h1,h2,h3⟩:=qd7.1 h;have hk:qb0 48 48 [] (qmj d t w)=(qmj d t w,0):=qjj _;have kN:qy0 (qbm 160 [] [qez (qaf d).2.2])=(d,true):=q2f h1;have kT:=q9n hw hl h2;unfold qc7;rw[hk,yb (by simp)];rcases ql7 d t w with⟨rfl,e⟩|⟨hne,e⟩
 ·show qob (qmj d [] w)=_;rw[e,qzf,kN,kT];rfl
 ·show qob (qmj d t w)=_;have hL:=qkw (g:=162) rfl h3 (xbho ht);rw[e,qzg,kN,kT];show(d,qcj qc3 162 162 [] (evL (qj9 (qa4 d)) 0 20 t),w,(qe0 qc3 162 162 [] (evL (qj9 (qa4 d)) 0 20 t)&&decide (0<((qcj qc3 162 162 [] (evL (qj9 (qa4 d)) 0 20 t)).length:Int)))&&(true&&decide ((0:Int)=0)))=_;rw[hL.1,hL.2,yf (show(0:Int)<(t.length:Int) by have:=List.length_pos_iff.2 hne;omega)];rfl
def xbbi{c y:CV}(hc:isMk c)(hl:(mW c).length<=30000)(h:qkf c=some y):qov y=some c:=by obtain⟨d,t,w,rfl,ht,hw⟩:=hc;obtain⟨hm,rfl⟩:=qrq rfl h;have e:=xbg3 ht hw hl hm;show(if(qc7 48 [] (qmj d t w)).2.2.2=true then some (qu5 (qc7 48 [] (qmj d t w)).1 (qc7 48 [] (qmj d t w)).2.1 (qc7 48 [] (qmj d t w)).2.2.1) else none)=_;rw[e];rfl
def xblp{c y:CV}(hc:isMk c)(hl:(mW c).length<=30000)(h:qkf c=some y):mkdV y=c:=by
 obtain⟨d,t,w,rfl,ht,hw⟩:=hc;obtain⟨hm,rfl⟩:=qrq rfl h;obtain⟨h1,h2,h3⟩:=qd7.1 hm;have kT:=q9n hw hl h2;have kN:=q2f h1;have hk1:qb0 160 160 [] [qez (qaf d).2.2]=([qez (qaf d).2.2],0):=q3s rfl rfl (by simp);unfold qvc at kN;rw[hk1,yb (by simp)] at kN;have hid:=(Prod.mk.inj kN).1;have hC: ∀ks,mkdC (qbm 48 [] ks)=if ks.length<2\/(nK (ks.headD .nili)).length≠1 then(0,[],[]) else(xbg6 (qbm 48 [] ks),qv7 (qbm 48 [] ks),(qoy (ks.getD (ks.length - 1) .nili)).1):=fun _=>rfl
 have fin:mkdC (qbm 48 [] (qmj d t w))=(d,t,w):=by
  rcases ql7 d t w with⟨rfl,e⟩|⟨hne,e⟩
  ·rw[e,hC,yb (by rintro(h|h);simp at h;exact h rfl)];have e1:xbg6 (qbm 48 [] [qbm 160 [] [qez (qaf d).2.2],ndCV (qan w).1])=d:=hid;have e2:qv7 (qbm 48 [] [qbm 160 [] [qez (qaf d).2.2],ndCV (qan w).1])=[]:=rfl;have e3:(qoy ([qbm 160 [] [qez (qaf d).2.2],ndCV (qan w).1].getD ([qbm 160 [] [qez (qaf d).2.2],ndCV (qan w).1].length - 1) .nili)).1=w:=congrArg (·.1) kT;rw[e1,e2,e3]
  ·rw[e,hC,yb (by rintro(h|h);simp at h;exact h rfl)];have e1:xbg6 (qbm 48 [] [qbm 160 [] [qez (qaf d).2.2],qbm 162 [] (evL (qj9 (qa4 d)) 0 20 t),ndCV (qan w).1])=d:=hid;have e2:qv7 (qbm 48 [] [qbm 160 [] [qez (qaf d).2.2],qbm 162 [] (evL (qj9 (qa4 d)) 0 20 t),ndCV (qan w).1])=(evL (qj9 (qa4 d)) 0 20 t).map fun p=>CV.slg 1 ((nK p).map fun d=>CV.sli .u8 (nB d)):=rfl;have e3:(qoy ([qbm 160 [] [qez (qaf d).2.2],qbm 162 [] (evL (qj9 (qa4 d)) 0 20 t),ndCV (qan w).1].getD ([qbm 160 [] [qez (qaf d).2.2],qbm 162 [] (evL (qj9 (qa4 d)) 0 20 t),ndCV (qan w).1].length - 1) .nili)).1=w:=congrArg (·.1) kT;rw[e1,e2,e3,(qq0 h3).1];have map_id: ∀ {f:CV->Option CV} {g:CV->CV} {l:LC},l.all (fun c=>(f c).isSome)=true->(∀c∈l, ∀y,f c=some y->g y=c)->(l.filterMap f).map g=l:=fun {f g l}=>by
    induction l with
    | nil=>intro _ _;rfl
    | cons x r ih=>
     intro ha hh;simp only[zbz,zab] at ha;obtain⟨y,hy⟩:=zax.1 ha.1;rw[zbe hy,zbf,hh x (by simp) y hy,ih ha.2 fun c hc=>hh c (by simp[hc])]
   have:(t.filterMap (qj9 (qa4 d))).map (fun p=>CV.slg 1 ((nK p).map fun d=>CV.sli .u8 (nB d)))=t:=map_id (qvv h3) fun c hc y hy=>by
    obtain⟨l,rfl,hr⟩:=ht.2 c hc;obtain⟨hb,rfl⟩:=qzy hy;show CV.slg 1 ((evL (digF (qa4 d)) 1 64 l).map fun d=>CV.sli .u8 (nB d))=_;rw[(qq0 hb).1];have:(l.filterMap (digF (qa4 d))).map (fun d=>CV.sli .u8 (nB d))=l:=map_id (qvv hb) fun c hc y hy=>by
     obtain⟨b,rfl,_⟩:=hr.2 c hc;replace hy:(if(b.length:Int)=qa4 d then some (qbm 4 b []) else none)=some y:=hy;split at hy
     ·cases hy;rfl
     ·cases hy
    rw[this]
   rw[this]
 show qu5 (mkdC (qbm 48 [] (qmj d t w))).1 (mkdC (qbm 48 [] (qmj d t w))).2.1 (mkdC (qbm 48 [] (qmj d t w))).2.2=_;rw[fin]
def xbll{z c y:CV}(hz:NdO z)(h1:qov z=some c)(h2:qkf c=some y):y=z:=by
 obtain⟨t,b,k,rfl,hs⟩:=hz;replace h1:(if(qc7 t b k).2.2.2=true then some (qu5 (qc7 t b k).1 (qc7 t b k).2.1 (qc7 t b k).2.2.1) else none)=some c:=h1;split at h1
 ·rename_i hm;cases h1;obtain⟨hok,rfl⟩:=qrq rfl h2;obtain⟨m1,m2,m3⟩:=qd7.1 hok;unfold qc7 at hm hok m1 m2 m3 ⊢;split at hm
  ·cases hm
  ·rename_i h0;have h0:(qb0 48 t b k).2=0:=Classical.not_not.1 h0;obtain⟨rfl,rfl⟩:=qrg h0;rw[yb (fun h=>h h0),qfg h0] at hok m1 m2 m3 ⊢;rw[qfg h0] at hm;by_cases hl:(k.length:Int)<2\/3<(k.length:Int)
   ·unfold qob at hm;rw[yc hl] at hm;cases hm
   ·have hn:=qk7 hs;by_cases h3:k.length=3
    ·obtain⟨x,u,v,rfl⟩:=len3 h3;rw[qzg] at hm m1 m2 m3 ⊢;simp only[zab,yd] at hm;obtain⟨⟨a1,a2⟩,a3,a4⟩:=hm;obtain⟨t2,b2,k2,rfl,hs2⟩:=hn u (by simp);have e1:=q79 (hn x (by simp)) (show qy0 x=((qy0 x).1,true) by rw[<- a3]) m1;obtain⟨rfl,rfl,e2⟩:=qrj a1 m3 fun z hz c y=>xbmd (qk7 hs2 z hz);have e3:=(xbi7 (hn v (by simp)) a4).1;rcases ql7 (qy0 x).1 (qcj qc3 162 162 [] k2) (qoy v).1 with⟨q,_⟩|⟨_,q⟩
     ·rw[show qcj qc3 162 (nT (.agg [.int .i64 162,.sli .u8 [],.slg 3 k2])) (nB (.agg [.int .i64 162,.sli .u8 [],.slg 3 k2])) (nK (.agg [.int .i64 162,.sli .u8 [],.slg 3 k2]))=[] from q] at a2;simp at a2
     ·show qbm 48 [] (qmj (qy0 x).1 (qcj qc3 162 162 [] k2) (qoy v).1)=_;rw[q,e1,e3,show evL (qj9 (qa4 (qy0 x).1)) 0 20 (qcj qc3 162 162 [] k2)=k2 from e2];rfl
    ·obtain⟨x,v,rfl⟩:=len2 (show k.length=2 by omega);rw[qzf] at hm m1 m2 m3 ⊢;simp only[zab,yd] at hm;have e1:=q79 (hn x (by simp)) (show qy0 x=((qy0 x).1,true) by rw[<- hm.1]) m1;have e3:=(xbi7 (hn v (by simp)) hm.2).1;rcases ql7 (qy0 x).1 [] (qoy v).1 with⟨_,q⟩|⟨q,_⟩
     ·show qbm 48 [] (qmj (qy0 x).1 [] (qoy v).1)=_;rw[q,e1,e3];rfl
     ·exact absurd rfl q
 ·cases h1
def xbam{t:Int}{b:LI}{k:LC}{c:CV}(h:qdf (qbm t b k)=some c):qe0 qov 48 t b k=true/\c=.slg 3 (qcj qov 48 t b k):=by
 replace h:(if qe0 qov 48 t b k=true then some (CV.slg 3 (qcj qov 48 t b k)) else none)=some c:=h;split at h
 ·rename_i hb;cases h;exact⟨hb,rfl⟩
 ·cases h
def xban{m:LC}{y:CV}(hm:qod m)(hl: ∀c∈m,(mW c).length<=30000)(h:qd4 (.slg 3 m)=some y):qdf y=some (.slg 3 m):=by obtain⟨hb,rfl⟩:=qkn rfl h;have:=qkw (g:=48) rfl hb fun c hc y hy=>xbbi (hm.2 c hc) (hl c hc) hy;show(if qe0 qov 48 48 [] (evL qkf 1 20 m)=true then some (CV.slg 3 (qcj qov 48 48 [] (evL qkf 1 20 m))) else none)=_;rw[yc this.1,this.2]
def xbee{z c y:CV}(hz:NdO z)(h1:qdf z=some c)(h2:qd4 c=some y):y=z:=by obtain⟨t,b,k,rfl,hs⟩:=hz;obtain⟨hB,rfl⟩:=xbam h1;obtain⟨hE,rfl⟩:=qkn rfl h2;obtain⟨rfl,rfl,e⟩:=qrj hB hE fun z hz c y=>xbll (qk7 hs z hz);rw[e];rfl
def xbka{a:Int}(h:(qaf a).2.1=1):algV (qsn a)=some a:=by
 have e:=xbmi (g:=a) (b:=[]) (by omega) (by rw[h];rfl);have e2:qj6 (qaf a).2.1 []=[]:=by rw[h];rfl
 rw[e2] at e;rw[(qni h).2];show(if(qb2 48 [] [qez (qaf a).2.2]).2.2=0 then some (qb2 48 [] [qez (qaf a).2.2]).1 else none)=_;rw[e];rfl
def xbuz{g:Int}{b:LI}(h:(qbs g b).2.2=0): ¬(qaf g).2.1=0/\(b.length:Int)=qb3 (qaf g).2.1:=by
 rw[xbg9] at h;unfold qga at h;split at h
 ·simp at h
 ·split at h
  ·simp at h
  ·rename_i h1 h2;exact⟨h1,Classical.byContradiction h2⟩
def xbrx{z:CV}{a:Int}(hz:NdO z)(h1:algV z=some a)(h:(qaf a).2.1=1):qsn a=z:=by
 obtain⟨t,b,k,rfl,hs⟩:=hz;replace h1:(if(qb2 t b k).2.2=0 then some (qb2 t b k).1 else none)=some a:=h1;split at h1
 ·rename_i h0;cases h1;obtain⟨r1,r2,rfl,r4,_⟩:=xbvc hs h0;have hu:=(xbuz r1).2;rw[h] at hu;have hu:((qb2 t [] k).2.1.length:Int)=0:=hu;rw[zaj (show(qb2 t [] k).2.1.length=0 by omega),qsp] at r2 r4;show qbm (qga (qb2 t [] k).1 []).1 [] (qga (qb2 t [] k).1 []).2.1=_;rw[r2,r4];rfl
 ·cases h1
def int1E{b:LI}(hb: ∀x∈b,0<=x/\x<=255)(hn:qdt b=true)(ht:xbjz b=1):b=[1]:=by
 match b,hb,hn,ht with
 | [],_,hn,_=>cases hn
 | [x],hb,_,ht=>
  have hx:=hb x (by simp);rw[qmf] at ht;have e:qar [x]=x:=by show 0*256+x=x;omega
  rw[e] at ht;have e1:(256:Int) ^ (([]:LI).length+1)=256:=by decide
  rw[e1] at ht;split at ht
  ·omega
  ·rw[ht]
 | x::y::r,hb,hn,ht=>
  exfalso;obtain⟨n1,n2,n3⟩:=qt6 (b:=x::y::r) (L:=r.length+1) hb rfl;obtain⟨m1,m2,m3⟩:=qt6 (b:=y::r) (L:=r.length) (fun z hz=>hb z (by simp[hz])) rfl;have hx:=hb x (by simp);have hn:(!(decide (x=0/\y<128))&& !(decide (x=255/\128<=y)))=true:=hn;simp only[zab,zal,decide_eq_false_iff_not] at hn;rw[qmf] at ht;rw[qzn x (y::r)] at n1 n2 n3 ht;simp only[zba,zac] at n1 n2 n3 m3 ht;have hp:(256:Int) ^ (r.length+1+1)=256 ^ (r.length+1)*256:=zc3 ..;have hp1:(256:Int) ^ (r.length+1)=256 ^ r.length*256:=zc3 ..;have hz:(1:Int)<=256 ^ r.length:=by have:=Int.pow_pos (n:=256) (m:=r.length) (by omega);omega
  rw[hp] at ht;rw[hp1] at ht n1 n2 n3;generalize (256:Int) ^ r.length=z at*;generalize qar (y::r)=w at*;split at ht
  ·omega
  ·rename_i h128;have hx0:x=0:=by
    rcases Int.lt_or_le 0 x with e|e
    ·have:z*256<=x*(z*256):=by have:=zcc (show(1:Int)<=x by omega) (show(0:Int)<=z*256 by omega);omega
     omega
    ·omega
   subst hx0;have:w=1:=by omega
   have hy:128<=y:=Classical.byContradiction fun e=>hn.1 ⟨rfl,by omega⟩;have:=m3.1 hy;omega
def xbta{t:Int}{b:LI}{k:LC}(hs:isS [.int .i64 t,.sli .u8 b,.slg 3 k]=true)(h1:(qb6 t b k).2=0)(h2:(qb6 t b k).1=1):CV.agg [.int .i64 t,.sli .u8 b,.slg 3 k]=qbm 2 (vInt 1) []:=by
 unfold qb6 at h1 h2;rw[qab] at h1 h2;split at h1
 ·rename_i he;rw[yc he] at h2;obtain⟨rfl,hk,hd⟩:=quz he;have hk:=zaj hk;subst hk;unfold qp8 at h1 h2;split at h1
  ·simp at h1
  ·rename_i h8;rw[yb h8] at h2;have hd:qdt b=true:=hd;rw[xb4s,int1E (qjh hs).2 hd h2];rfl
 ·rename_i he;exact absurd h1 he
def xblb:qb6 2 (vInt 1) []=(1,0):=by have:=xbf4 (n:=1) st1;rwa [qcf] at this
def q8m{c:LC}(hn:qc6 c<=12100): ∀x∈c, ∀m,x=.slg 3 m->∀y∈m,(mW y).length<=30000:=fun x hx m hm y hy=>by subst hm;have h1:=qkt (g:=fun c=>1+qeh (qbl c)) hx;have h1:1+qeh m<=_:=h1;have h2:=qkt (g:=fun c=>2+(mW c).length+qml (mT c)) hy;have e1:qeh m=(m.map fun c=>2+(mW c).length+qml (mT c)).sum:=rfl;have e2:qc6 c=(c.map fun c=>1+qeh (qbl c)).sum:=rfl;have h2:2+(mW y).length+qml (mT y)<=_:=h2;omega
def qrx{g:LI}{c:LC}(hc:qc0 c)(hn:qc6 c<=12100)(h:q1u g c=true):qnr (qe4 g c)=(g,c,true):=by
 obtain⟨hb,hg⟩:=qe5.1 h;have hd:=(qko hc hb).1;rw[<- hg] at hd;have h1:=qkw (g:=48) rfl hb fun x hx y hy=>by obtain⟨m,rfl,hm⟩:=hc.2 x hx;exact xban hm (q8m hn _ hx m rfl) hy
 have h2:qe0 algV 48 48 [] (g.map qsn)=true/\qcj algV 48 48 [] (g.map qsn)=g:=by
  have e:evB q64 0 (g.length:Int) g=true:=by unfold evB;rw[zab,yd,zai];exact⟨by omega,fun d hd'=>by rw[(qni (hd d hd')).1];rfl⟩
  have:=qkw (g:=48) (h:=algV) rfl e fun d hd' y hy=>by rw[(qni (hd d hd')).1] at hy;cases hy;exact xbka (hd d hd')
  rwa [xbnz hd] at this
 unfold qe4;rw[xbkp];show(qcj algV 48 48 [] (g.map qsn),qcj qdf 48 48 [] (evL qd4 1 10 c),(decide ((qb6 2 (vInt 1) []).2=0)&&decide ((qb6 2 (vInt 1) []).1=1))&&(qe0 algV 48 48 [] (g.map qsn)&&qe0 qdf 48 48 [] (evL qd4 1 10 c)))=_;rw[h1.1,h1.2,h2.1,h2.2,xblb];rfl
def xb2e{g:LI}{c:LC}(hc:qc0 c)(hn:qc6 c<=12100)(h:q1u g c=true):qdc (qe4 g c)=c:=by
 obtain⟨hb,hg⟩:=qe5.1 h;have map_id: ∀ {f:CV->Option CV} {q:CV->CV} {l:LC},l.all (fun c=>(f c).isSome)=true->(∀c∈l, ∀y,f c=some y->q y=c)->(l.filterMap f).map q=l:=fun {f q l}=>by
  induction l with
  | nil=>intro _ _;rfl
  | cons x r ih=>
   intro ha hh;simp only[zbz,zab] at ha;obtain⟨y,hy⟩:=zax.1 ha.1;rw[zbe hy,zbf,hh x (by simp) y hy,ih ha.2 fun c hc=>hh c (by simp[hc])]
 show(evL qd4 1 10 c).map (fun c=>CV.slg 3 ((nK c).map mkdV))=c;rw[(qq0 hb).1];refine map_id (qvv hb) fun x hx y hy=> ?_;obtain⟨m,rfl,hm⟩:=hc.2 x hx;obtain⟨hb2,rfl⟩:=qkn rfl hy;show CV.slg 3 ((evL qkf 1 20 m).map mkdV)=_;rw[(qq0 hb2).1,map_id (qvv hb2) fun z hz y hy=>xblp (hm.2 z hz) (q8m hn _ hx m rfl z hz) hy]
def xbvd{k:LC}(hk: ∀z∈k,NdO z)(h:(qnr k).2.2=true)(hc:qc0 (qnr k).2.1)(hm:q1u (qnr k).1 (qnr k).2.1=true):k=qe4 (qnr k).1 (qnr k).2.1:=by
 unfold qnr at h;split at h
 ·cases h
 ·rename_i h3;obtain⟨x,y,z,rfl⟩:=len3 (show k.length=3 by omega);obtain⟨t1,b1,k1,rfl,s1⟩:=hk x (by simp);obtain⟨t2,b2,k2,rfl,s2⟩:=hk y (by simp);obtain⟨t3,b3,k3,rfl,s3⟩:=hk z (by simp);replace h:((decide ((qb6 t1 b1 k1).2=0)&&decide ((qb6 t1 b1 k1).1=1))&&(qe0 algV 48 t2 b2 k2&&qe0 qdf 48 t3 b3 k3))=true:=h;simp only[zab,yd] at h;obtain⟨⟨v1,v2⟩,v3,v4⟩:=h;rw[xbkp] at hc hm ⊢;replace hm:q1u (qcj algV 48 t2 b2 k2) (qcj qdf 48 t3 b3 k3)=true:=hm;replace hc:qc0 (qcj qdf 48 t3 b3 k3):=hc;obtain⟨hb,hg⟩:=qe5.1 hm;have hd:=(qko hc hb).1;rw[<- hg] at hd;obtain⟨rfl,rfl,e3⟩:=qrj v4 hb fun z hz c y=>xbee (qk7 s3 z hz);obtain⟨rfl,rfl,e2,a2⟩:=xbgm v3;have e1:=xbta s1 v1 v2;have e4:(qcj algV 48 48 [] k2).map qsn=k2:=by
   rw[e2] at hd ⊢;have: ∀l:LC,(∀z∈l,NdO z)->l.all (fun c=>(algV c).isSome)=true->(∀d∈l.filterMap algV,(qaf d).2.1=1)->(l.filterMap algV).map qsn=l:=fun l=>by
    induction l with
    | nil=>intro _ _ _;rfl
    | cons x r ih=>
     intro h1 h2 h3;simp only[zbz,zab] at h2;obtain⟨a,ha⟩:=zax.1 h2.1;rw[zbe ha] at h3 ⊢;rw[zbf,xbrx (h1 x (by simp)) ha (h3 a (by simp)),ih (fun z hz=>h1 z (by simp[hz])) h2.2 fun d hd=>h3 d (by simp[hd])]
   exact this k2 (qk7 s2) a2 hd
  show _=qe4 (qcj algV 48 48 [] k2) (qcj qdf 48 48 [] k3);unfold qe4;rw[e1,e4,e3];rfl
def xbhj{b:LI}(hb:qad b=true)(hl:b.length<=6000):qbo b=q87 b:=by
 by_cases h0:(qan b).2=0
 ·have hLg:=q48 hb h0;obtain⟨f1,f2,f3⟩:=q3a hb (by omega) h0;unfold qbo q87;have n0: ¬(qan b).2≠0:=fun h=>h h0;rw[yb n0,yb n0];generalize hn:(qan b).1=n at*;obtain⟨t,cb,k⟩:=n;replace hLg:Lg (qbm t cb k) b.length:=hLg;replace f1:isS [.int .i64 t,.sli .u8 cb,.slg 3 k]=true:=f1;replace f2:qbb [.int .i64 t,.sli .u8 cb,.slg 3 k]=(b,0):=f2;dsimp only;have hK:=qk7 f1;by_cases hv:(qb0 48 t cb k).2=0/\(qnr (qb0 48 t cb k).1).2.2=true/\qmn (qnr (qb0 48 t cb k).1).1 (qnr (qb0 48 t cb k).1).2.1=true
  ·rw[yc hv];obtain⟨h1,h2,h3⟩:=hv;obtain⟨rfl,rfl⟩:=qrg h1;rw[qfg h1] at h2 h3 ⊢;have hk3:k.length=3:=Classical.byContradiction fun e=>by unfold qnr at h2;rw[yc (by omega)] at h2;cases h2
   obtain⟨x,y,z,hxyz⟩:=len3 hk3;have hR:recO (qnr k).2.1=true:=by subst hxyz;obtain⟨gz,g1,g2,_⟩:=qh6 hLg;obtain⟨t3,b3,k3,rfl⟩:=q47 (g1 z (by simp));have:=qkt (g:=gz) (l:=[x,y,qbm t3 b3 k3]) (c:=qbm t3 b3 k3) (by simp);exact q7a (g:=48) (by omega) (g1 (qbm t3 b3 k3) (by simp))
   obtain⟨hc,hcn⟩:=qjz hR;have hm:=qvf h3;have e:=xbvd hK h2 hc hm;generalize (qnr k).1=g at*;generalize (qnr k).2.1=c at*;subst e;have e1:=xb2e hc hcn hm;have e2:=(qe5.1 hm).2;have e3:qbd g c=(b,0):=by unfold qbd;rw[yc h3];exact f2
   rw[e1, <- e2,e3,yc ⟨rfl,rfl⟩]
  ·rw[yb hv];by_cases hr:(qbd (qek (qdc k)) (qdc k)).2=0/\b=(qbd (qek (qdc k)) (qdc k)).1
   ·exfalso;have hR:=xb2d hl hLg;obtain⟨hc,hcn⟩:=qjz hR;generalize qdc k=c at*;generalize qek c=g at*;obtain⟨r1,r2⟩:=hr;have hok:qmn g c=true:=Classical.byContradiction fun e=>by unfold qbd at r1;rw[yb e] at r1;simp at r1
    have hm:=qvf hok;have hS:=q1w hc hcn hm;have hF:qrr [.int .i64 48,.sli .u8 [],.slg 3 (qe4 g c)]=true:=by rw[qta hm] at hok;exact hok
    have hB:qbd g c=qbb [.int .i64 48,.sli .u8 [],.slg 3 (qe4 g c)]:=by unfold qbd;rw[yc hok]
    have hp:=qzx hS hF;rw[hB] at r2;rw[<- r2] at hp;obtain⟨m,hm1,_⟩:=qc8 hS;have e:(t,cb,k)=toNd [.int .i64 48,.sli .u8 [],.slg 3 (qe4 g c)]:=by rw[<- hn,hp]
    have e:(t,cb,k)=((48:Int),([]:LI),qe4 g c):=e;obtain⟨rfl,rfl,rfl⟩:t=48/\cb=[]/\k=qe4 g c:=by simpa using e
    refine hv ⟨by rw[qjj], ?_, ?_⟩
    ·rw[qjj,qrx hc hcn hm]
    ·rw[qjj,qrx hc hcn hm];exact hok
   ·rw[yb hr]
 ·unfold qbo q87;rw[yc h0,yc h0]
end Go.Proofs.YtoaakappnhemiaaGreatDoorA
