/-
 The evid layer: what a function makes of each; digests, parts and marks as values. Conditions: each function's own.
-/
import Derived.Test.YtoaakappnhemiaaGreatDoorT3b
set_option linter.unusedVariables false
set_option linter.unusedSimpArgs false
set_option maxRecDepth 100000
namespace Go.Proofs.YtoaakappnhemiaaGreatDoorA
open IntWalk (i64_in u8_in u32_in u64_in i64_quo u8_quo rem_in)
theorem qc8 {α β:Type} {f:α->Option β}: ∀ {l:List α},l.all (fun c=>(f c).isSome)=true->(l.filterMap f).length=l.length
 | [],_=>rfl
 | x::r,h=>by
  simp only[zck,zab] at h
  obtain⟨y,hy⟩:=za2.1 h.1
  rw[zcw hy,zad,zad,qc8 h.2]
theorem qpi {α β:Type} (f:α->Option β) (l:List α) (hl:l.length<=1000000) (L:Nat->Nat->Int->List β->Option Out) (bad:Option Out) (fin:List β->Option Out)
  (hstep: ∀(n i:Nat) (acc:List β) (x:α),i<l.length->acc.length=i->l[i]? =some x->L (n+1) i (i:Int) acc=match f x with|some y=>L n (i+1) ((i+1:Nat):Int) (acc++[y])|none=>bad)
  (hend: ∀(n:Nat) (acc:List β),L (n+1) l.length (l.length:Int) acc=fin acc):
  ∀(fuel i:Nat) (acc:List β),i<=l.length->acc.length=i->l.length<fuel+i->L fuel i (i:Int) acc=if(l.drop i).all (fun c=>(f c).isSome)=true then fin (acc++(l.drop i).filterMap f) else bad
 | 0,i,acc,hi,ha,hf=>by omega
 | fuel+1,i,acc,hi,ha,hf=>by
  rcases zby i l.length with h|h
  ·obtain⟨x,hx⟩: ∃x,l[i]? =some x:=⟨_,zaf h⟩
   rw[hstep fuel i acc x h ha hx,qh0 hx,zck]
   cases hy:f x with
   | none=>simp
   | some y=>
    show L fuel (i+1) ((i+1:Nat):Int) (acc++[y])=_
    rw[qpi f l hl L bad fin hstep hend fuel (i+1) (acc++[y]) h (by simp[ha]) (by omega),zcw hy]
    simp
  ·obtain rfl:i=l.length:=by omega
   rw[hend,zdi]
   simp
theorem xbz6 {α β:Type} (f:α->Option β) (l:List α) (lo hi w:Int) (hl:l.length<=1000000) (h0:0<=w) (hw:w<=100) (out:List β->Bool->Option Out) {X:Option Out} (hX:X=if l.all (fun c=>(f c).isSome)=true then out (l.filterMap f) true else out [] false):
  cond (decide ((l.length:Int)<lo)) (out [] false) (cond (decide (hi<(l.length:Int))) (out [] false) (cond (decide ((0:Int)<=(l.length:Int))) (cond (decide ((l.length:Int)*w<=LIM)) (cond (decide ((l.length:Int)<=LIM)) X none) none) none))=out (evL f lo hi l) (evB f lo hi l):=by
 have hm:(l.length:Int)*w<=1000000*100:=Int.mul_le_mul (by omega) hw h0 (by omega)
 refine qae (fun h=> ?_) fun h=>qae (fun h'=> ?_) fun h'=>qan (by omega) (qan (by unfold LIM;omega) (qan (by unfold LIM;omega) ?_))
 ·have e:evB f lo hi l=false:=by unfold evB;rw[decide_eq_false (by omega)];rfl
  unfold evL
  rw[e,if_neg (by simp)]
 ·have e:evB f lo hi l=false:=by unfold evB;rw[decide_eq_false (by omega)];rfl
  unfold evL
  rw[e,if_neg (by simp)]
 ·have e:evB f lo hi l=l.all (fun c=>(f c).isSome):=by unfold evB;rw[decide_eq_true (by omega)];rfl
  unfold evL
  rw[hX,e]
  split
  ·rename_i h;rw[h]
  ·rename_i h;rw[zas.2 h]
theorem xbed {α β:Type} {acc:List β} {y:β} {i w:Nat} {l:List α} {n:Int} {again:Nat->List α->Int->Int->List β->Option Out} (ha:acc.length=i) (hi:i<1000000) (hw:w<=100):
  rmK (acc++[y]).length w (again (acc++[y]).length l n (IntKind.i64.wrap ((i:Int)+1)) (acc++[y]))=again (i+1) l n ((i+1:Nat):Int) (acc++[y]):=by
 have e2:IntKind.i64.wrap ((i:Int)+1)=((i+1:Nat):Int):=i64_in _ (by omega)
 have e3:(acc++[y]).length=i+1:=by rw[zag,ha];rfl
 have hm:(i+1)*w<=1000000*100:=zdh (by omega) hw
 rw[e2,e3]
 exact qx7 (by omega) (by omega) rfl
theorem xb29 {β:Type} {B:Bool} {fx:Option β} {y:β} {k0 X:Option Out} {Y:β->Option Out} (h:fx=cond B (some y) none) (hX:X=Y y):cond (!B) k0 X=match (generalizing:=false) fx with|some z=>Y z|none=>k0:=by
 subst h
 cases B with
 | true=>exact hX
 | false=>rfl
theorem qq4 {β:Type} {B:Bool} {fx:Option β} {y:β} {k0:Option Out} {acc:List β} {i w:Nat} {A:Nat->Int->List β->Option Out} (h:fx=cond B (some y) none) (ha:acc.length=i) (hi:i<1000000) (hw:w<=100:=by omega):
  cond (!B) k0 (rmK (acc++[y]).length w (A (acc++[y]).length (IntKind.i64.wrap ((i:Int)+1)) (acc++[y])))=match (generalizing:=false) fx with|some z=>A (i+1) ((i+1:Nat):Int) (acc++[z])|none=>k0:=
 xb29 (Y:=fun z=>A (i+1) ((i+1:Nat):Int) (acc++[z])) h (xbed (l:=([]:List Int)) (n:=0) (again:=fun a _ _ c d=>A a c d) ha hi hw)
theorem q1e {α β:Type} {f:α->Option β} {l:List α} {lo hi w:Int} {out:List β->Bool->Option Out} {S:(Nat->List α->Int->Int->List β->Option Out)->Option Out->(Nat->List β->Option Out)->Nat->List α->Int->Int->List β->Option Out} (hl:l.length<=1000000)
  (hS: ∀again k0 k1 (i:Nat) (acc:List β) (x:α) (fx:Option β),i<l.length->acc.length=i->l[i]? =some x->f x=fx->S again k0 k1 i l (l.length:Int) (i:Int) acc=match fx with|some y=>again (i+1) l (l.length:Int) ((i+1:Nat):Int) (acc++[y])|none=>k0)
  (hE: ∀again k0 k1 (acc:List β),S again k0 k1 l.length l (l.length:Int) (l.length:Int) acc=k1 l.length acc) (h0:0<=w:=by omega) (hw:w<=100:=by omega):
  cond (decide ((l.length:Int)<lo)) (out [] false) (cond (decide (hi<(l.length:Int))) (out [] false) (cond (decide ((0:Int)<=(l.length:Int))) (cond (decide ((l.length:Int)*w<=LIM)) (cond (decide ((l.length:Int)<=LIM))
   (shut (qdp (fun a=>S a (out [] false) (fun _ y=>out y true)) (fun _ _ _ _ _=>none) FUEL) 0 l (l.length:Int) 0 []) none) none) none))=out (evL f lo hi l) (evB f lo hi l):=by
 refine xbz6 f l lo hi w hl h0 hw out ?_
 rw[qab]
 refine(qpi f l hl (fun n m i acc=>qdp (fun a=>S a (out [] false) (fun _ y=>out y true)) (fun _ _ _ _ _=>none) n m l (l.length:Int) i acc) (out [] false) (fun y=>out y true) (fun n i acc x hi ha hx=>hS _ _ _ i acc x (f x) hi ha hx rfl) (fun n acc=>hE _ _ _ acc) FUEL 0 [] (za1 _) rfl (by unfold FUEL;omega)).trans ?_
 rfl
theorem xbvj {α β:Type} {f:α->Option β} {l:List α} {lo hi w s:Int} {out:Int->List β->Bool->Option Out} {S:(Nat->List α->Int->Int->Int->List β->Option Out)->(Int->Option Out)->(Nat->Int->List β->Option Out)->Nat->List α->Int->Int->Int->List β->Option Out} (hl:l.length<=1000000)
  (hS: ∀again k0 k1 (i:Nat) (acc:List β) (x:α) (fx:Option β),i<l.length->acc.length=i->l[i]? =some x->f x=fx->S again k0 k1 i l (l.length:Int) (i:Int) s acc=match fx with|some y=>again (i+1) l (l.length:Int) ((i+1:Nat):Int) s (acc++[y])|none=>k0 s)
  (hE: ∀again k0 k1 (acc:List β),S again k0 k1 l.length l (l.length:Int) (l.length:Int) s acc=k1 l.length s acc) (h0:0<=w:=by omega) (hw:w<=100:=by omega):
  cond (decide ((l.length:Int)<lo)) (out s [] false) (cond (decide (hi<(l.length:Int))) (out s [] false) (cond (decide ((0:Int)<=(l.length:Int))) (cond (decide ((l.length:Int)*w<=LIM)) (cond (decide ((l.length:Int)<=LIM))
   (shut (qdp (fun a=>S a (fun s=>out s [] false) (fun _ s y=>out s y true)) (fun _ _ _ _ _ _=>none) FUEL) 0 l (l.length:Int) 0 s []) none) none) none))=out s (evL f lo hi l) (evB f lo hi l):=by
 refine xbz6 f l lo hi w hl h0 hw (out s) ?_
 rw[qab]
 refine(qpi f l hl (fun n m i acc=>qdp (fun a=>S a (fun s=>out s [] false) (fun _ s y=>out s y true)) (fun _ _ _ _ _ _=>none) n m l (l.length:Int) i s acc) (out s [] false) (fun y=>out s y true) (fun n i acc x hi ha hx=>hS _ _ _ i acc x (f x) hi ha hx rfl) (fun n acc=>hE _ _ _ acc) FUEL 0 [] (za1 _) rfl (by unfold FUEL;omega)).trans ?_
 rfl
theorem qio {β:Type} {p:Prop} [Decidable p] {x y:β}:cond (decide p) x y=if p then x else y:=by by_cases h:p<;>simp[h]
theorem qh7 {l:List CV} (h:qjw l=true):xbhz l:=by unfold qjw at h;rw[qab] at h;exact @of_decide_eq_true _ (Classical.propDecidable _) h
theorem qrq {l:List CV} (h:xbhz l):qjw l=true:=by unfold qjw;rw[qab];exact @decide_eq_true _ (Classical.propDecidable _) h
theorem qgt {l:List CV} (h:qjr l=true):xble l:=by unfold qjr at h;rw[qab] at h;exact @of_decide_eq_true _ (Classical.propDecidable _) h
theorem qou {l:List CV} (h:xble l):qjr l=true:=by unfold qjr;rw[qab];exact @decide_eq_true _ (Classical.propDecidable _) h
theorem qlf {l:List CV} (h:qe6 l=true):qp9 l:=by unfold qe6 at h;rw[qab] at h;exact @of_decide_eq_true _ (Classical.propDecidable _) h
theorem qyu {l:List CV} (h:qp9 l):qe6 l=true:=by unfold qe6;rw[qab];exact @decide_eq_true _ (Classical.propDecidable _) h
theorem qca {l:List CV} (h:qa9 l=true):qdh l:=by unfold qa9 at h;rw[qab] at h;exact @of_decide_eq_true _ (Classical.propDecidable _) h
theorem qhm {l:List CV} (h:qdh l):qa9 l=true:=by unfold qa9;rw[qab];exact @decide_eq_true _ (Classical.propDecidable _) h
theorem qex {b:List Int} (h:qad b=true):qcc b=true:=by
 have:=(qam h).1
 unfold qcc;rw[qab];exact decide_eq_true (by omega)
theorem qxd {l:List Int} (h:l.length<=1000000000000000):qdt l=true:=by unfold qdt;rw[qab];exact decide_eq_true h
theorem qr2 {l:List Int} (h:qdt l=true):l.length<=1000000000000000:=by unfold qdt at h;rw[qab] at h;exact of_decide_eq_true h
theorem qb4 {l:List CV} (h:l.length<=100000000):qbr l=true:=by unfold qbr;rw[qab];exact decide_eq_true h
theorem q5j {α β:Type} {f:α->Option β} {lo hi:Int} {l:List α}:(evL f lo hi l).length<=l.length:=by
 unfold evL
 split
 ·exact List.length_filterMap_le ..
 ·exact za1 _
theorem xbul (s lo hi:Int) (l:List CV):dgL s lo hi l=evL (digF s) lo hi l:=by unfold dgL;rw[qab]
theorem xby6 (s lo hi:Int) (l:List CV):dgB s lo hi l=evB (digF s) lo hi l:=by unfold dgB;rw[qab]
theorem xbca (s lo hi:Int) (l:List CV):xb01 s lo hi l=evL (qqk s) lo hi l:=by unfold xb01;rw[qab]
theorem xbdr (s lo hi:Int) (l:List CV):xb0f s lo hi l=evB (qqk s) lo hi l:=by unfold xb0f;rw[qab]
theorem qxo (lo hi:Int) (l:List CV):qr8 lo hi l=evL qmt lo hi l:=by unfold qr8;rw[qab]
theorem q7s (lo hi:Int) (l:List CV):qsa lo hi l=evB qmt lo hi l:=by unfold qsa;rw[qab]
theorem qqe (lo hi:Int) (l:List CV):qqc lo hi l=evL qdk lo hi l:=by unfold qqc;rw[qab]
theorem qqn (lo hi:Int) (l:List CV):qn8 lo hi l=evB qdk lo hi l:=by unfold qn8;rw[qab]
theorem qn6 (k:Int):qp2 k=qbg k:=by unfold qp2;rw[qab]
theorem xb3w (k:Int) (hp:true=true):xb2b k=zI (qp2 k):=by
 unfold xb2b
 rw[qn6,qab]
 refine qae (fun h=> ?_) fun h=>qae (fun h'=> ?_) fun h'=>qan (by omega) (qan (by omega) ?_)
 ·unfold qbg;rw[if_neg (by omega)]
 ·unfold qbg;rw[if_neg (by omega)]
 ·obtain⟨n,rfl⟩: ∃n:Nat,k=n:=⟨k.toNat,by omega⟩
  have hn:n<8:=by omega
  have:n=0\/n=1\/n=2\/n=3\/n=4\/n=5\/n=6\/n=7:=by omega
  rcases this with rfl|rfl|rfl|rfl|rfl|rfl|rfl|rfl<;>rfl
theorem xb1o (k:Int) (hp:true=true):xbm2 k=zI (qp2 k):=by
 unfold xbm2
 rw[qn6]
 refine qae (fun h=> ?_) fun h=>qae (fun h'=> ?_) fun h'=>qan (by omega) (qan (by omega) ?_)
 ·unfold qbg;rw[if_neg (by omega)]
 ·unfold qbg;rw[if_neg (by omega)]
 ·obtain⟨n,rfl⟩: ∃n:Nat,k=n:=⟨k.toNat,by omega⟩
  have hn:n<8:=by omega
  have:n=0\/n=1\/n=2\/n=3\/n=4\/n=5\/n=6\/n=7:=by omega
  rcases this with rfl|rfl|rfl|rfl|rfl|rfl|rfl|rfl<;>rfl
theorem xb8h (b:List Int) (s:Int) (hp:qcc b=true):xb83 b s=zR [.cl (.agg [.int .i64 4,.sli .u8 b,.slg 3 qb7]),.cl (.bool (decide ((b.length:Int)=s)))] [some ⟨.var [.cl (.int .i64 s)],false⟩]:=qaj hp rfl
theorem xb73 (l:List CV) (lo hi s:Int) (hp:qjw l=true):xb8i l lo hi s=zR [.cl (.slg 3 (dgL s lo hi l)),.cl (.bool (dgB s lo hi l))] [some ⟨.var [.cl (.int .i64 s)],false⟩]:=by
 obtain⟨hl,hr⟩:=qh7 hp
 rw[xbul,xby6]
 refine xbvj (f:=digF s) (w:=56) (out:=(fun s x b=>zR [.cl (.slg 3 x),.cl (.bool b)] [some ⟨.var [.cl (.int .i64 s)],false⟩])) (S:=qye) hl (fun again k0 k1 i acc x fx hi ha hx hf=> ?_) fun again k0 k1 acc=>qb2 (by omega) rfl
 obtain⟨b,rfl,hb⟩:=hr x (zac hx)
 unfold qye
 simp only[qde]
 refine qan (by omega) (qap (by omega) hx (qaj rfl (qaj (qex hb) ?_)))
 refine qq4 (y:=qcy 4 b []) (w:=56) (A:=fun a c acc=>again a l (l.length:Int) c s acc) ?_ ha ?_ ?_
 rotate_left
 ·omega
 ·omega
 rw[<- hf]
 unfold digF
 rw[qio]
 rfl
theorem xb6l (l:List CV) (lo hi s:Int) (hp:qjw l=true):xb4j l lo hi s=zR [.cl (.agg [.int .i64 48,.sli .u8 qa0,.slg 3 (dgL s lo hi l)]),.cl (.bool (dgB s lo hi l))] [some ⟨.var [.cl (.int .i64 s)],false⟩]:=
 qaj hp (qaj (qb4 (by rw[xbul];have:=(qh7 hp).1;have:=@q5j _ _ (digF s) lo hi l;omega)) rfl)
theorem xb3t (l:List CV) (s:Int) (hp:qjw l=true):xb6k l s=zR [.cl (.agg [.int .i64 48,.sli .u8 qa0,.slg 3 (dgL s 1 64 l)]),.cl (.bool (dgB s 1 64 l))] [some ⟨.var [.cl (.int .i64 s)],false⟩]:=qaj hp rfl
theorem xb49 (s:Int) (hp:true=true):xb3d s=zR [.fn (.func 186) [] [.ptr 0 0 0]] [some ⟨.var [.cl (.int .i64 s)],false⟩]:=rfl
open IntWalk (i64_in u8_in u32_in u64_in i64_quo u8_quo rem_in)
theorem qf9 {l:List CV} (h:qgv l=true):l.length<=1000000/\∀c∈l, ∃t b k,c=.agg [.int .i64 t,.sli .u8 b,.slg 3 k]/\isS [.int .i64 t,.sli .u8 b,.slg 3 k]=true:=by unfold qgv at h;rw[qab] at h;exact @of_decide_eq_true _ (Classical.propDecidable _) h
theorem q6q {l:List CV} (h:l.length<=1000000/\∀c∈l, ∃t b k,c=.agg [.int .i64 t,.sli .u8 b,.slg 3 k]/\isS [.int .i64 t,.sli .u8 b,.slg 3 k]=true):qgv l=true:=by unfold qgv;rw[qab];exact @decide_eq_true _ (Classical.propDecidable _) h
theorem q0s (lo hi:Int) (l:List CV):q0v lo hi l=evL qu2 lo hi l:=by unfold q0v;rw[qab]
theorem q0q (lo hi:Int) (l:List CV):q1c lo hi l=evB qu2 lo hi l:=by unfold q1c;rw[qab]
theorem qum (lo hi:Int) (l:List CV):qq5 lo hi l=evL qd5 lo hi l:=by unfold qq5;rw[qab]
theorem qu9 (lo hi:Int) (l:List CV):qsl lo hi l=evB qd5 lo hi l:=by unfold qsl;rw[qab]
theorem quj (lo hi:Int) (l:List CV):qse lo hi l=evL qve lo hi l:=by unfold qse;rw[qab]
theorem qt7 (lo hi:Int) (l:List CV):qsb lo hi l=evB qve lo hi l:=by unfold qsb;rw[qab]
theorem qrj (lo hi:Int) (l:List CV):qns lo hi l=evL qey lo hi l:=by unfold qns;rw[qab]
theorem qsn (lo hi:Int) (l:List CV):qnb lo hi l=evB qey lo hi l:=by unfold qnb;rw[qab]
theorem q0m (lo hi:Int) (l:List CV):qzb lo hi l=evL algV lo hi l:=by unfold qzb;rw[qab]
theorem q0k (lo hi:Int) (l:List CV):qzu lo hi l=evB algV lo hi l:=by unfold qzu;rw[qab]
theorem xb1b (g t:Int) (b:List Int) (k:List CV):ldL g t b k=qdw qu2 g t b k:=by unfold ldL;rw[qab]
theorem xby1 (g t:Int) (b:List Int) (k:List CV):ldB g t b k=qhu qu2 g t b k:=by unfold ldB;rw[qab]
theorem xbw9 (g t:Int) (b:List Int) (k:List CV):lpL g t b k=qdw qd5 g t b k:=by unfold lpL;rw[qab]
theorem xbzh (g t:Int) (b:List Int) (k:List CV):lpB g t b k=qhu qd5 g t b k:=by unfold lpB;rw[qab]
theorem xbzu (g t:Int) (b:List Int) (k:List CV):lmL g t b k=qdw qve g t b k:=by unfold lmL;rw[qab]
theorem xbz1 (g t:Int) (b:List Int) (k:List CV):lmB g t b k=qhu qve g t b k:=by unfold lmB;rw[qab]
theorem xby4 (g t:Int) (b:List Int) (k:List CV):lcL g t b k=qdw qey g t b k:=by unfold lcL;rw[qab]
theorem xbx3 (g t:Int) (b:List Int) (k:List CV):lcB g t b k=qhu qey g t b k:=by unfold lcB;rw[qab]
theorem xbws (g t:Int) (b:List Int) (k:List CV):laL g t b k=qdw algV g t b k:=by unfold laL;rw[qab]
theorem xb0b (g t:Int) (b:List Int) (k:List CV):laB g t b k=qhu algV g t b k:=by unfold laB;rw[qab]
theorem q2j (lo hi:Int) (l:List Int):xbl7 lo hi l=evL q8f lo hi l:=by unfold xbl7;rw[qab]
theorem xbsv (lo hi:Int) (l:List Int):xbsw lo hi l=evB q8f lo hi l:=by unfold xbsw;rw[qab]
theorem xbcz {d:Int} {t:List CV} {w:List Int} (h:qcv d t w=true):q59 d t w=(48,q6r d t w):=by unfold q59;rw[qab,if_pos h]
theorem qqf (d:Int) (t:List CV) (w:List Int):qz1 d t w=qcv d t w:=by unfold qz1;rw[qab]
theorem q6a (t:Int) (b:List Int) (k:List CV):qm7 t b k=qgp t b k:=by unfold qm7;rw[qab]
def sl8 (b:List Int):CV:=.sli .u8 b
def sg1 (b:List CV):CV:=.slg 1 b
def sg3 (b:List CV):CV:=.slg 3 b
theorem b_if {β:Type} {B:Bool} {x y:β}:cond B x y=if B=true then x else y:=by cases B<;>rfl
theorem ql5 {β:Type} {f:CV->Option β} {g t:Int} {b:List Int} {k:List CV} (h:(qb8 g t b k).2=0):qhu f g t b k=evB f 0 ((qb8 g t b k).1.length:Int) (qb8 g t b k).1/\qdw f g t b k=evL f 0 ((qb8 g t b k).1.length:Int) (qb8 g t b k).1:=by
 have e:qhu f g t b k=evB f 0 ((qb8 g t b k).1.length:Int) (qb8 g t b k).1:=by
  unfold qhu evB
  rw[decide_eq_true h,decide_eq_true (by omega)]
 refine⟨e, ?_⟩
 unfold qdw evL
 rw[e]
theorem ql2 {β:Type} {f:CV->Option β} {g t:Int} {b:List Int} {k:List CV} (h: ¬(qb8 g t b k).2=0):qhu f g t b k=false/\qdw f g t b k=[]:=by
 have e:qhu f g t b k=false:=by unfold qhu;rw[decide_eq_false h];rfl
 refine⟨e, ?_⟩
 unfold qdw
 rw[e]
 rfl
theorem xb7z (l:List CV) (lo hi s:Int) (hp:qjr l=true):xb8y l lo hi s=zR [.cl (.slg 3 (xb01 s lo hi l)),.cl (.bool (xb0f s lo hi l))] [some ⟨.var [.cl (.int .i64 s)],false⟩]:=by
 obtain⟨hl,hr⟩:=qgt hp
 rw[xbca,xbdr]
 refine xbvj (f:=qqk s) (w:=56) (out:=(fun s x b=>zR [.cl (.slg 3 x),.cl (.bool b)] [some ⟨.var [.cl (.int .i64 s)],false⟩])) (S:=qyi) hl (fun again k0 k1 i acc x fx hi ha hx hf=> ?_) fun again k0 k1 acc=>qb2 (by omega) rfl
 obtain⟨b,rfl,hb⟩:=hr x (zac hx)
 unfold qyi
 simp only[qbq,xbul,xby6]
 refine qan (by omega) (qap (by omega) hx (qaj rfl (qaj (qrq hb) ?_)))
 refine qq4 (y:=qcy 48 [] (evL (digF s) 1 64 b)) (w:=56) (A:=fun a c acc=>again a l (l.length:Int) c s acc) ?_ ha ?_ ?_
 rotate_left
 ·omega
 ·omega
 rw[<- hf]
 unfold qqk
 rw[b_if]
 rfl
theorem xb8g (l:List CV) (lo hi:Int) (hp:qe6 l=true):xb84 l lo hi=zR [.cl (.slg 3 (qr8 lo hi l)),.cl (.bool (qsa lo hi l))] []:=by
 obtain⟨hl,hr⟩:=qlf hp
 replace hl:l.length<=1000000:=by omega
 rw[qxo,q7s]
 refine q1e (f:=qmt) (w:=56) (out:=(fun x b=>zR [.cl (.slg 3 x),.cl (.bool b)] [])) (S:=qvz) hl (fun again k0 k1 i acc x fx hi ha hx hf=> ?_) fun again k0 k1 acc=>qb2 (by omega) rfl
 obtain⟨d,t,w,rfl,ht,hw⟩:=hr x (zac hx)
 unfold qvz
 simp only[qbq,qqf]
 refine qan (by omega) (qap (by omega) hx (qaj rfl (qaj (by show(qjr t&&qad w)=true;rw[qou ht];exact hw) ?_)))
 refine qq4 (B:=qcv d t w) (y:=qcy (q59 d t w).1 [] (q59 d t w).2) (w:=56) (A:=fun a c acc=>again a l (l.length:Int) c acc) ?_ ha ?_ ?_
 rotate_left
 ·omega
 ·omega
 rw[<- hf]
 show(if qcv d t w=true then some (qcy 48 [] (q6r d t w)) else none)=_
 cases hm:qcv d t w with
 | false=>rfl
 | true=>rw[xbcz hm];rfl
theorem xb8b (l:List CV) (lo hi:Int) (hp:qa9 l=true):xb8o l lo hi=zR [.cl (.slg 3 (qqc lo hi l)),.cl (.bool (qn8 lo hi l))] []:=by
 obtain⟨hl,hr⟩:=qca hp
 replace hl:l.length<=1000000:=by omega
 rw[qqe,qqn]
 refine q1e (f:=qdk) (w:=56) (out:=(fun x b=>zR [.cl (.slg 3 x),.cl (.bool b)] [])) (S:=qxj) hl (fun again k0 k1 i acc x fx hi ha hx hf=> ?_) fun again k0 k1 acc=>qb2 (by omega) rfl
 obtain⟨m,rfl,hm⟩:=hr x (zac hx)
 unfold qxj
 simp only[qbq,qxo,q7s]
 refine qan (by omega) (qap (by omega) hx (qaj rfl (qaj (qyu hm) ?_)))
 refine qq4 (y:=qcy 48 [] (evL qmt 1 20 m)) (w:=56) (A:=fun a c acc=>again a l (l.length:Int) c acc) ?_ ha ?_ ?_
 rotate_left
 ·omega
 ·omega
 rw[<- hf]
 unfold qdk
 rw[b_if]
 rfl
theorem xb5q (l:List CV) (lo hi:Int) (hp:qgv l=true):xb4r l lo hi=zR [.cl (.slg 1 (q0v lo hi l)),.cl (.bool (q1c lo hi l))] []:=by
 obtain⟨hl,hr⟩:=qf9 hp
 rw[q0s,q0q]
 refine q1e (f:=qu2) (w:=24) (out:=(fun x b=>zR [.cl (.slg 1 x),.cl (.bool b)] [])) (S:=qtc) hl (fun again k0 k1 i acc x fx hi ha hx hf=> ?_) fun again k0 k1 acc=>qb2 (by omega) rfl
 obtain⟨t,b,k,rfl,hs⟩:=hr x (zac hx)
 unfold qtc
 refine qan (by omega) (qap (by omega) hx (qaj rfl (qaj hs ?_)))
 refine qq4 (y:=sl8 (qbb t b k).1) (w:=24) (A:=fun a c acc=>again a l (l.length:Int) c acc) ?_ ha ?_ ?_
 rotate_left
 ·omega
 ·omega
 rw[<- hf]
 unfold qu2
 rw[qio]
 rfl
theorem xb4c (l:List CV) (lo hi:Int) (hp:qgv l=true):xb5s l lo hi=zR [.cl (.slg 1 (qq5 lo hi l)),.cl (.bool (qsl lo hi l))] []:=by
 obtain⟨hl,hr⟩:=qf9 hp
 rw[qum,qu9]
 refine q1e (f:=qd5) (w:=24) (out:=(fun x b=>zR [.cl (.slg 1 x),.cl (.bool b)] [])) (S:=qrf) hl (fun again k0 k1 i acc x fx hi ha hx hf=> ?_) fun again k0 k1 acc=>qb2 (by omega) rfl
 obtain⟨t,b,k,rfl,hs⟩:=hr x (zac hx)
 unfold qrf
 simp only[xb1b,xby1]
 refine qan (by omega) (qap (by omega) hx (qaj rfl (qaj hs ?_)))
 refine qq4 (y:=sg1 (qdw qu2 48 t b k)) (w:=24) (A:=fun a c acc=>again a l (l.length:Int) c acc) ?_ ha ?_ ?_
 rotate_left
 ·omega
 ·omega
 rw[<- hf]
 unfold qd5
 rw[b_if]
 rfl
theorem xb5i (l:List CV) (lo hi:Int) (hp:qgv l=true):xb4f l lo hi=zR [.cl (.slg 3 (qse lo hi l)),.cl (.bool (qsb lo hi l))] []:=by
 obtain⟨hl,hr⟩:=qf9 hp
 rw[quj,qt7]
 refine q1e (f:=qve) (w:=56) (out:=(fun x b=>zR [.cl (.slg 3 x),.cl (.bool b)] [])) (S:=qti) hl (fun again k0 k1 i acc x fx hi ha hx hf=> ?_) fun again k0 k1 acc=>qb2 (by omega) rfl
 obtain⟨t,b,k,rfl,hs⟩:=hr x (zac hx)
 unfold qti
 simp only[q6a]
 refine qan (by omega) (qap (by omega) hx (qaj rfl (qaj hs ?_)))
 refine qq4 (y:=qv3 (qgp t b k).1 (qgp t b k).2.1 (qgp t b k).2.2.1) (w:=56) (A:=fun a c acc=>again a l (l.length:Int) c acc) ?_ ha ?_ ?_
 rotate_left
 ·omega
 ·omega
 rw[<- hf]
 unfold qve
 rw[b_if]
 rfl
theorem xb5h (l:List CV) (lo hi:Int) (hp:qgv l=true):xb4y l lo hi=zR [.cl (.slg 1 (qns lo hi l)),.cl (.bool (qnb lo hi l))] []:=by
 obtain⟨hl,hr⟩:=qf9 hp
 rw[qrj,qsn]
 refine q1e (f:=qey) (w:=24) (out:=(fun x b=>zR [.cl (.slg 1 x),.cl (.bool b)] [])) (S:=qrl) hl (fun again k0 k1 i acc x fx hi ha hx hf=> ?_) fun again k0 k1 acc=>qb2 (by omega) rfl
 obtain⟨t,b,k,rfl,hs⟩:=hr x (zac hx)
 unfold qrl
 simp only[xbzu,xbz1]
 refine qan (by omega) (qap (by omega) hx (qaj rfl (qaj hs ?_)))
 refine qq4 (y:=sg3 (qdw qve 48 t b k)) (w:=24) (A:=fun a c acc=>again a l (l.length:Int) c acc) ?_ ha ?_ ?_
 rotate_left
 ·omega
 ·omega
 rw[<- hf]
 unfold qey
 rw[b_if]
 rfl
theorem xb47 (l:List CV) (lo hi:Int) (hp:qgv l=true):xb4k l lo hi=zR [.cl (.sli .i64 (qzb lo hi l)),.cl (.bool (qzu lo hi l))] []:=by
 obtain⟨hl,hr⟩:=qf9 hp
 rw[q0m,q0k]
 refine q1e (f:=algV) (w:=8) (out:=(fun x b=>zR [.cl (.sli .i64 x),.cl (.bool b)] [])) (S:=qr6) hl (fun again k0 k1 i acc x fx hi ha hx hf=> ?_) fun again k0 k1 acc=>qb2 (by omega) rfl
 obtain⟨t,b,k,rfl,hs⟩:=hr x (zac hx)
 unfold qr6
 refine qan (by omega) (qap (by omega) hx (qaj rfl (qaj hs ?_)))
 refine qq4 (y:=(qet t b k).1) (w:=8) (A:=fun a c acc=>again a l (l.length:Int) c acc) ?_ ha ?_ ?_
 rotate_left
 ·omega
 ·omega
 rw[<- hf]
 unfold algV
 rw[qio]
 rfl
theorem xb6m (l:List CV) (lo hi:Int) (hp:qe6 l=true):xb51 l lo hi=zR [.cl (.agg [.int .i64 48,.sli .u8 qa0,.slg 3 (qr8 lo hi l)]),.cl (.bool (qsa lo hi l))] []:=
 qaj hp (qaj (qb4 (by rw[qxo];have:=(qlf hp).1;have:=@q5j _ _ qmt lo hi l;omega)) rfl)
theorem xbqy (l:List CV) (hp:qe6 l=true):xbo4 l=zR [.cl (.agg [.int .i64 48,.sli .u8 qa0,.slg 3 (qr8 1 20 l)]),.cl (.bool (qsa 1 20 l))] []:=qaj hp rfl
theorem xb3k (l:List CV) (lo hi:Int) (hp:qa9 l=true):xb4u l lo hi=zR [.cl (.agg [.int .i64 48,.sli .u8 qa0,.slg 3 (qqc lo hi l)]),.cl (.bool (qn8 lo hi l))] []:=
 qaj hp (qaj (qb4 (by rw[qqe];have:=(qca hp).1;have:=@q5j _ _ qdk lo hi l;omega)) rfl)
theorem xbh3 (l:List CV) (hp:qa9 l=true):xbhu l=zR [.cl (.agg [.int .i64 48,.sli .u8 qa0,.slg 3 (qqc 1 10 l)]),.cl (.bool (qn8 1 10 l))] []:=qaj hp rfl
theorem xbb2: ∀ {l:List Nat} {x:Nat},x∈l->x<=l.sum
 | y::r,x,h=>by
  rcases zaw.1 h with rfl|h
  ·simp
  ·have:=xbb2 h
   simp only[zb7]
   omega
theorem qhe {t:Int} {b:List Int} {k:List CV} (h:isS [.int .i64 t,.sli .u8 b,.slg 3 k]=true):qgv k=true/\k.length<=30000:=by
 obtain⟨n,hn,hb⟩:=qdx h
 obtain⟨m,t',b',k',rfl,e,hb',hk⟩:=qds hn
 simp only[zct,CV.int.injEq,CV.sli.injEq,CV.slg.injEq,and_true,true_and] at e
 obtain⟨rfl,rfl,rfl⟩:=e
 have hbb:1+b.length+(k.map fun c=>qdr m (cell1 c)).sum<=30000:=hb
 have hpos: ∀c∈k,1<=qdr m (cell1 c):=fun c hc=>by
  obtain⟨y,rfl,hy⟩:=hk c hc
  obtain⟨m',t',b',k',rfl,rfl,_,_⟩:=qds hy
  show 1<=1+b'.length+_
  omega
 have hle: ∀c∈k,qdr m (cell1 c)<=(k.map fun c=>qdr m (cell1 c)).sum:=fun c hc=>xbb2 (List.mem_map_of_mem hc)
 have hlen: ∀l:List CV,(∀c∈l,1<=qdr m (cell1 c))->l.length<=(l.map fun c=>qdr m (cell1 c)).sum:=fun l=>by
  induction l with
  | nil=>intro _;simp
  | cons x r ih=>
   intro h
   have:=ih fun c hc=>h c (by simp[hc])
   have:=h x (by simp)
   simp only[zad,zbi,zb7]
   omega
 have h1:=hlen k hpos
 refine⟨q6q ⟨by omega,fun c hc=> ?_⟩,by omega⟩
 obtain⟨y,rfl,hy⟩:=hk c hc
 obtain⟨m',t',b',k',_,rfl,_,_⟩:=qds hy
 have:=hle _ hc
 exact⟨t',b',k',rfl,xbfa hy (by show qdr m (cell1 (.agg _))<=30000;omega)⟩
theorem qjh {g t:Int} {b:List Int} {k:List CV} (h:isS [.int .i64 t,.sli .u8 b,.slg 3 k]=true):qgv (qb8 g t b k).1=true:=by
 by_cases h0:(qb8 g t b k).2=0
 ·rw[qmp h0];exact(qhe h).1
 ·rw[q4j h0];exact q6q ⟨by simp,fun c hc=>by simp at hc⟩
theorem xb5g (t:Int) (b:List Int) (k:List CV) (g:Int) (hp:isS [.int .i64 t,.sli .u8 b,.slg 3 k]=true):xbyv t b k g=zR [.cl (.slg 1 (ldL g t b k)),.cl (.bool (ldB g t b k))] []:=by
 unfold xbyv
 rw[xb1b,xby1]
 refine qaj (qb4 (by have:=(qhe hp).2;omega)) (qas (fun h=> ?_) fun h=>qaj (qjh hp) ?_)
 ·rw[(ql2 h).1,(ql2 h).2]
 ·rw[(ql5 h).1,(ql5 h).2, <- q0s, <- q0q]
theorem xb32 (t:Int) (b:List Int) (k:List CV) (g:Int) (hp:isS [.int .i64 t,.sli .u8 b,.slg 3 k]=true):xbyw t b k g=zR [.cl (.slg 1 (lpL g t b k)),.cl (.bool (lpB g t b k))] []:=by
 unfold xbyw
 rw[xbw9,xbzh]
 refine qaj (qb4 (by have:=(qhe hp).2;omega)) (qas (fun h=> ?_) fun h=>qaj (qjh hp) ?_)
 ·rw[(ql2 h).1,(ql2 h).2]
 ·rw[(ql5 h).1,(ql5 h).2, <- qum, <- qu9]
theorem xb6e (t:Int) (b:List Int) (k:List CV) (g:Int) (hp:isS [.int .i64 t,.sli .u8 b,.slg 3 k]=true):xbyy t b k g=zR [.cl (.slg 3 (lmL g t b k)),.cl (.bool (lmB g t b k))] []:=by
 unfold xbyy
 rw[xbzu,xbz1]
 refine qaj (qb4 (by have:=(qhe hp).2;omega)) (qas (fun h=> ?_) fun h=>qaj (qjh hp) ?_)
 ·rw[(ql2 h).1,(ql2 h).2]
 ·rw[(ql5 h).1,(ql5 h).2, <- quj, <- qt7]
theorem xb3m (t:Int) (b:List Int) (k:List CV) (g:Int) (hp:isS [.int .i64 t,.sli .u8 b,.slg 3 k]=true):xbx6 t b k g=zR [.cl (.slg 1 (lcL g t b k)),.cl (.bool (lcB g t b k))] []:=by
 unfold xbx6
 rw[xby4,xbx3]
 refine qaj (qb4 (by have:=(qhe hp).2;omega)) (qas (fun h=> ?_) fun h=>qaj (qjh hp) ?_)
 ·rw[(ql2 h).1,(ql2 h).2]
 ·rw[(ql5 h).1,(ql5 h).2, <- qrj, <- qsn]
theorem xb55 (t:Int) (b:List Int) (k:List CV) (g:Int) (hp:isS [.int .i64 t,.sli .u8 b,.slg 3 k]=true):xbxj t b k g=zR [.cl (.sli .i64 (laL g t b k)),.cl (.bool (laB g t b k))] []:=by
 unfold xbxj
 rw[xbws,xb0b]
 refine qaj (qb4 (by have:=(qhe hp).2;omega)) (qas (fun h=> ?_) fun h=>qaj (qjh hp) ?_)
 ·rw[(ql2 h).1,(ql2 h).2]
 ·rw[(ql5 h).1,(ql5 h).2, <- q0m, <- q0k]
theorem xbyh (t:Int) (b:List Int) (k:List CV) (hp:isS [.int .i64 t,.sli .u8 b,.slg 3 k]=true):xb1u t b k=zR [.cl (.sli .u8 (qbb t b k).1),.cl (.bool (decide ((qbb t b k).2=0)))] []:=qaj hp rfl
theorem xboj (t:Int) (b:List Int) (k:List CV) (hp:isS [.int .i64 t,.sli .u8 b,.slg 3 k]=true):xbqs t b k=zR [.cl (.slg 1 (ldL 48 t b k)),.cl (.bool (ldB 48 t b k))] []:=qaj hp rfl
theorem xbh7 (t:Int) (b:List Int) (k:List CV) (hp:isS [.int .i64 t,.sli .u8 b,.slg 3 k]=true):xbkl t b k=zR [.cl (.slg 3 (lmL 48 t b k)),.cl (.bool (lmB 48 t b k))] []:=qaj hp rfl
theorem xbu6 (t:Int) (b:List Int) (k:List CV) (hp:isS [.int .i64 t,.sli .u8 b,.slg 3 k]=true):xbx8 t b k=zR [.cl (.int .i64 (qet t b k).1),.cl (.bool (decide ((qet t b k).2.2=0)))] []:=qaj hp rfl
theorem quc {l:List Int} (h:qtz l=true):l.length<=1000000:=by unfold qtz at h;rw[qab] at h;exact of_decide_eq_true h
theorem xbkw {l:List Int} (h:l.length<=1000000):qtz l=true:=by unfold qtz;rw[qab];exact decide_eq_true h
theorem q0u (g:Int) (b:List Int):qbw g b=qin g b:=by unfold qbw;rw[qab]
theorem xb70 (l:List Int) (lo hi:Int) (hp:qtz l=true):xb77 l lo hi=zR [.cl (.slg 3 (xbl7 lo hi l)),.cl (.bool (xbsw lo hi l))] []:=by
 have hl:=quc hp
 rw[q2j,xbsv]
 refine q1e (f:=q8f) (w:=56) (out:=(fun x b=>zR [.cl (.slg 3 x),.cl (.bool b)] [])) (S:=qyc) hl (fun again k0 k1 i acc x fx hi ha hx hf=> ?_) fun again k0 k1 acc=>qb2 (by omega) rfl
 unfold qyc
 simp only[qbq,q0u]
 refine qan (by omega) (qap (by omega) hx ?_)
 refine qq4 (y:=q4y x) (w:=56) (A:=fun a c acc=>again a l (l.length:Int) c acc) ?_ ha ?_ ?_
 rotate_left
 ·omega
 ·omega
 rw[<- hf]
 unfold q8f
 rw[qio]
theorem xb3l (l:List Int) (lo hi:Int) (hp:qtz l=true):xb3u l lo hi=zR [.cl (.agg [.int .i64 48,.sli .u8 qa0,.slg 3 (xbl7 lo hi l)]),.cl (.bool (xbsw lo hi l))] []:=
 qaj hp (qaj (qb4 (by rw[q2j];have:=quc hp;have:=@q5j _ _ q8f lo hi l;omega)) rfl)
theorem xb4s (g:Int) (hp:true=true):xbwu g=zR [.cl (.agg [.int .i64 (qbw g qa0).1,.sli .u8 qa0,.slg 3 (qbw g qa0).2.1]),.cl (.bool (decide ((qbw g qa0).2.2=0)))] []:=by
 unfold xbwu
 rw[qbq]
 exact qaj (by unfold qcc;rw[qab];rfl) rfl
open IntWalk (i64_in u8_in u32_in u64_in i64_quo u8_quo rem_in)
theorem qdl {c:Bool} {a b r:Option Out} (h1:c=false->a=r) (h2:c=true->b=r):cond (!c) a b=r:=by
 cases c with
 | false=>exact h1 rfl
 | true=>exact h2 rfl
theorem q8a {α β:Type} {f:α->Option β} {lo hi:Int} {l:List α} (h:evB f lo hi l=true):evL f lo hi l=l.filterMap f/\(evL f lo hi l).length=l.length:=by
 have e:evL f lo hi l=l.filterMap f:=by unfold evL;rw[if_pos h]
 refine⟨e, ?_⟩
 unfold evB at h
 rw[zab] at h
 rw[e]
 exact qc8 h.2
theorem xb5w {α β:Type} (f:α->β) (l:List α) (hl:l.length<=1000000) (L:Nat->Nat->Int->List β->Option Out) (fin:List β->Option Out)
  (hstep: ∀(n i:Nat) (acc:List β) (x:α),i<l.length->acc.length=i->l[i]? =some x->L (n+1) i (i:Int) acc=L n (i+1) ((i+1:Nat):Int) (acc++[f x]))
  (hend: ∀(n:Nat) (acc:List β),L (n+1) l.length (l.length:Int) acc=fin acc) (fuel i:Nat) (acc:List β) (hi:i<=l.length) (ha:acc.length=i) (hf:l.length<fuel+i):L fuel i (i:Int) acc=fin (acc++(l.drop i).map f):=by
 have:=qpi (fun x=>some (f x)) l hl L none fin hstep hend fuel i acc hi ha hf
 rw[this,if_pos (by simp)]
 exact congrArg (fun z=>fin (acc++z)) (congrFun (List.filterMap_eq_map (f:=f)) _)
theorem q6y {β:Type} {acc:List β} {y:β} {i w:Nat} {A:Nat->Int->List β->Option Out} (ha:acc.length=i) (hi:i<1000000) (hw:w<=100):
  rmK (acc++[y]).length w (A (acc++[y]).length (IntKind.i64.wrap ((i:Int)+1)) (acc++[y]))=A (i+1) ((i+1:Nat):Int) (acc++[y]):=
 xbed (l:=([]:List Int)) (n:=0) (again:=fun a _ _ c d=>A a c d) ha hi hw
theorem xbq2 {d:Int} {t:List CV} {w:List Int} (h:qcv d t w=false):q59 d t w=(0,[]):=by unfold q59;rw[qab,if_neg (by rw[h];simp)]
theorem qga {d:Int} {t:List CV} {w:List Int}:qcv d t w=true↔(qaw d).2.1=1/\(qba w).2=0/\evB (qqk (qbg d)) 0 20 t=true:=by unfold qcv;simp only[zab,decide_eq_true_eq]
theorem qm5 {d:Int} {t:List CV} {w:List Int} (h: ¬((qaw d).2.1=1/\(qba w).2=0/\evB (qqk (qbg d)) 0 20 t=true)):qcv d t w=false:=zas.2 fun h'=>h (qga.1 h')
theorem xb7h (l:List CV):vBox 0 l=(160,l,0):=q6b (by omega)
theorem xb7b (l:List CV):vBox 2 l=(162,l,0):=q6b (by omega)
theorem xbwo (d:Int) (t:List CV) (w:List Int) (hp:(qjr t&&qad w)=true):xbn4 d t w=zR [.cl (.agg [.int .i64 (q59 d t w).1,.sli .u8 qa0,.slg 3 (q59 d t w).2]),.cl (.bool (qz1 d t w))] []:=by
 rw[zab] at hp
 obtain⟨ht,hw⟩:=hp
 obtain⟨hl,_⟩:=qgt ht
 obtain⟨hi1,hi2⟩:=qwd d
 unfold xbn4
 simp only[qmq,qde,qbq,qn6,xbca,xbdr,qqf,xb7h,xb7b]
 have bad:qcv d t w=false->zR [.cl (.agg [.int .i64 0,.sli .u8 [],.slg 3 []]),.cl (.bool false)] []=zR [.cl (.agg [.int .i64 (q59 d t w).1,.sli .u8 [],.slg 3 (q59 d t w).2]),.cl (.bool (qcv d t w))] []:=fun h=>by rw[h,xbq2 h]
 refine qas (fun h=>bad (qm5 fun h'=>h h'.1)) fun h=>qaj (q5x (by omega) hi2) (qaj (qb4 (by simp)) (qaj hw (qaj ht (qas (fun h2=>bad (qm5 fun h'=>h2 h'.2.1)) fun h2=>qdl (fun h3=>bad (qm5 fun h'=>by rw[h3] at h';simp at h')) fun h3=> ?_))))
 have e:=q8a h3
 rw[xbcz (qga.2 ⟨h,h2,h3⟩),qga.2 ⟨h,h2,h3⟩]
 unfold q6r
 refine qae (fun h4=>qaj (qb4 (by simp)) ?_) fun h4=>qaj (qb4 (by omega)) (qaj (qb4 (by simp)) ?_)
 ·rw[if_pos (zbu.1 (by omega))]
  rfl
 ·rw[if_neg (fun h5=>h4 (by rw[e.2,h5];rfl))]
  rfl
theorem xb8m (K0:Option Out) (K1:Nat->Int->Nat->Int->List CV->List Int->List CV->List CV->Int->List Int->List CV->Option Out) (m i:Nat) (d:Int) (t:List CV) (w:List Int) (P:List CV) (x1:Int) (x2:List Int) (x3 row:List CV) (hx:t[i]? =some (.slg 1 row)) (hr:xbhz row):
  qgm K0 K1 FUEL m i 0 0 d t w P [] x1 x2 x3=if row.all (fun c=>(digF (qbg d) c).isSome)=true then K1 m i row.length d t w P (row.filterMap (digF (qbg d))) x1 x2 x3 else K0:=by
 refine(qpi (digF (qbg d)) row hr.1 (fun n a j acc=>qgm K0 K1 n m i a j d t w P acc x1 x2 x3) K0 (fun y=>K1 m i row.length d t w P y x1 x2 x3) (fun n j acc x hj ha hxj=> ?_) (fun n acc=> ?_) FUEL 0 [] (za1 _) rfl (by have:=hr.1;unfold FUEL;omega)).trans rfl
 ·show qih (qgm K0 K1 n) K0 K1 m i j j d t w P acc x1 x2 x3=_
  obtain⟨b,rfl,hb⟩:=hr.2 x (zac hxj)
  unfold qih
  simp only[qde,qn6]
  refine qap (by omega) hx (qaj rfl (qan (show(j:Int)<(row.length:Int) by omega) (qap (by omega) hx (qaj rfl (qap (by omega) hxj (qaj rfl ?_))))))
  refine qas (fun h=> ?_) fun h=>qap (by omega) hx (qaj rfl (qap (by omega) hxj (qaj rfl (qaj (qex hb) ?_))))
  ·have:digF (qbg d) (.sli .u8 b)=none:=by unfold digF;exact if_neg h
   rw[this]
  ·have:digF (qbg d) (.sli .u8 b)=some (qcy 4 b []):=by unfold digF;exact if_pos h
   rw[this]
   exact q6y (w:=56) (y:=qcy 4 b []) (A:=fun a c acc=>qgm K0 K1 n m i a c d t w P acc x1 x2 x3) ha (by have:=hr.1;omega) (by omega)
 ·show qih (qgm K0 K1 n) K0 K1 m i row.length row.length d t w P acc x1 x2 x3=_
  unfold qih
  exact qap (by omega) hx (qaj rfl (qb2 (show ¬((row.length:Int)<(row.length:Int)) by omega) rfl))
theorem lpR8 (K0:Option Out) (K1:Nat->Int->List CV->List Int->List CV->Int->List Int->List CV->Option Out) (d:Int) (t:List CV) (w:List Int) (x1:Int) (x2:List Int) (x3:List CV) (ht:xble t):
  qi7 K0 K1 FUEL 0 0 d t w [] x1 x2 x3=if t.all (fun c=>(qqk (qbg d) c).isSome)=true then K1 t.length d t w (t.filterMap (qqk (qbg d))) x1 x2 x3 else K0:=by
 refine(qpi (qqk (qbg d)) t ht.1 (fun n a j acc=>qi7 K0 K1 n a j d t w acc x1 x2 x3) K0 (fun y=>K1 t.length d t w y x1 x2 x3) (fun n j acc x hj ha hxj=> ?_) (fun n acc=> ?_) FUEL 0 [] (za1 _) rfl (by have:=ht.1;unfold FUEL;omega)).trans rfl
 ·show qku (qi7 K0 K1 n) K0 K1 j j d t w acc x1 x2 x3=_
  obtain⟨row,rfl,hr⟩:=ht.2 x (zac hxj)
  have hx':t[(j:Int).toNat]? =some (.slg 1 row):=hxj
  unfold qku
  simp only[qbq,qab]
  rw[xb8m _ _ j j d t w acc x1 x2 x3 row hxj hr]
  have part:qqk (qbg d) (.slg 1 row)=if evB (digF (qbg d)) 1 64 row=true then some (qcy 48 [] (evL (digF (qbg d)) 1 64 row)) else none:=rfl
  have no: ¬evB (digF (qbg d)) 1 64 row=true->qqk (qbg d) (.slg 1 row)=none:=fun h=>by rw[part,if_neg h]
  have rl:(row.length:Int)<1\/(64:Int)<(row.length:Int)-> ¬evB (digF (qbg d)) 1 64 row=true:=fun h h'=>by
   unfold evB at h'
   rw[zab,decide_eq_true_eq] at h'
   omega
  refine qan (show(j:Int)<(t.length:Int) by omega) (qap (by omega) hx' (qaj rfl (qae (fun h=> ?_) fun h=>qap (by omega) hx' (qaj rfl (qae (fun h2=> ?_) fun h2=> ?_)))))
  ·rw[no (rl (Or.inl h))]
  ·rw[no (rl (Or.inr h2))]
  ·have h: ¬(row.length:Int)<1:=h
   have h2: ¬(64:Int)<(row.length:Int):=h2
   have e:evB (digF (qbg d)) 1 64 row=row.all (fun c=>(digF (qbg d) c).isSome):=by unfold evB;rw[decide_eq_true (by omega)];rfl
   by_cases ha':row.all (fun c=>(digF (qbg d) c).isSome)=true
   ·rw[if_pos ha',part,if_pos (e.trans ha')]
    have e2:=q8a (e.trans ha')
    rw[e2.1]
    have hl:(row.filterMap (digF (qbg d))).length=row.length:=qc8 ha'
    refine qaj (qb4 (by have:=hr.1;omega)) ?_
    exact q6y (w:=56) (y:=qcy 48 [] (row.filterMap (digF (qbg d)))) (A:=fun a c acc=>qi7 K0 K1 n a c d t w acc x1 x2 x3) ha (by have:=ht.1;omega) (by omega)
   ·rw[if_neg ha']
    rw[no (fun h'=>ha' (e.symm.trans h'))]
 ·show qku (qi7 K0 K1 n) K0 K1 t.length t.length d t w acc x1 x2 x3=_
  unfold qku
  exact qb2 (show ¬((t.length:Int)<(t.length:Int)) by omega) rfl
theorem xb5b (d:Int) (t:List CV) (w:List Int) (hp:(qjr t&&qad w)=true):xbwn d t w=zR [.cl (.agg [.int .i64 (q1o d t w).1,.sli .u8 qa0,.slg 3 (q1o d t w).2]),.cl (.bool (qz1 d t w))] []:=by
 rw[zab] at hp
 obtain⟨ht,hw⟩:=hp
 have htC:=qgt ht
 obtain⟨hl,hr⟩:=htC
 obtain⟨hi1,hi2⟩:=qwd d
 unfold xbwn
 simp only[qmq,qde,qbq,qqf,xb7h,xb7b,qab]
 have bad: ¬((qaw d).2.1=1/\evB (qqk (qbg d)) 0 20 t=true)->zR [.cl (.agg [.int .i64 0,.sli .u8 [],.slg 3 []]),.cl (.bool false)] []=zR [.cl (.agg [.int .i64 (q1o d t w).1,.sli .u8 [],.slg 3 (q1o d t w).2]),.cl (.bool (qcv d t w))] []:=fun h=>by
  rw[qm5 fun h'=>h ⟨h'.1,h'.2.2⟩]
  unfold q1o
  rw[qab,if_neg (by simpa only [zab,decide_eq_true_eq] using h)]
 refine qas (fun h=>bad fun h'=>h h'.1) fun h=>qae (fun h2=>bad fun h'=> ?_) fun h2=>qaj (q5x (by omega) hi2) (qaj (qb4 (by simp)) ?_)
 ·have:=h'.2
  unfold evB at this
  rw[zab,decide_eq_true_eq] at this
  omega
 rw[lpR8 _ _ d t w _ _ _ ⟨hl,hr⟩]
 have e:evB (qqk (qbg d)) 0 20 t=t.all (fun c=>(qqk (qbg d) c).isSome):=by unfold evB;rw[decide_eq_true (by omega)];rfl
 by_cases ha:t.all (fun c=>(qqk (qbg d) c).isSome)=true
 ·rw[if_pos ha]
  have hR:q1o d t w=(48,q6r d t w):=by
   unfold q1o
   rw[qab,if_pos (by rw[zab,decide_eq_true_eq];exact⟨h,e.trans ha⟩)]
  have hO:qcv d t w=decide ((qba w).2=0):=by
   unfold qcv
   rw[decide_eq_true h,e.trans ha,zbm,Bool.and_true]
  have e2:=q8a (e.trans ha)
  have hl2:(t.filterMap (qqk (qbg d))).length=t.length:=qc8 ha
  rw[hR,hO]
  unfold q6r
  refine qae (fun h4=>qaj (qb4 (by omega)) (qaj hw (qaj (qb4 (by simp)) ?_))) fun h4=>qaj hw (qaj (qb4 (by simp)) ?_)
  ·have h4:(0:Int)<(t.length:Int):=h4
   rw[if_neg (fun h5=>by rw[h5] at h4;simp at h4),e2.1]
   rfl
  ·have h4: ¬(0:Int)<(t.length:Int):=h4
   rw[if_pos (zbu.1 (by omega))]
   rfl
 ·rw[if_neg ha]
  exact bad fun h'=>ha (e.symm.trans h'.2)
theorem xbr5 {d:Int} {t:List CV} {w:List Int} (h:qcv d t w=true):q1o d t w=(48,q6r d t w):=by
 have h:=qga.1 h
 unfold q1o
 rw[qab,if_pos (by rw[zab,decide_eq_true_eq];exact⟨h.1,h.2.2⟩)]
theorem xb80 (K0:Option Out) (K1:List CV->Nat->Int->Nat->List CV->List CV->Option Out) (m i:Nat) (l P row:List CV) (hx:l[i]? =some (.slg 3 row)) (hr:qp9 row):
  qd0 K0 K1 FUEL l m i 0 0 P []=if row.all (fun c=>(qmt c).isSome)=true then K1 l m i row.length P (row.filterMap qmt) else K0:=by
 refine(qpi qmt row (by have:=hr.1;omega) (fun n a j acc=>qd0 K0 K1 n l m i a j P acc) K0 (fun y=>K1 l m i row.length P y) (fun n j acc x hj ha hxj=> ?_) (fun n acc=> ?_) FUEL 0 [] (za1 _) rfl (by have:=hr.1;unfold FUEL;omega)).trans rfl
 ·show qfm (qd0 K0 K1 n) K0 K1 l m i j j P acc=_
  obtain⟨d,t,w,rfl,ht,hw⟩:=hr.2 x (zac hxj)
  obtain⟨fx,hf⟩: ∃fx,qmt (qv3 d t w)=fx:=⟨_,rfl⟩
  rw[hf]
  unfold qfm
  simp only[qbq,qqf]
  refine qap (by omega) hx (qaj rfl (qan (show(j:Int)<(row.length:Int) by omega) (qap (by omega) hx (qaj rfl (qap (by omega) hxj (qaj rfl (qaj (by show(qjr t&&qad w)=true;rw[qou ht];exact hw) ?_)))))))
  refine qq4 (B:=qcv d t w) (y:=qcy (q1o d t w).1 [] (q1o d t w).2) (w:=56) (A:=fun a c acc=>qd0 K0 K1 n l m i a c P acc) ?_ ha ?_ ?_
  ·rw[<- hf]
   show(if qcv d t w=true then some (qcy 48 [] (q6r d t w)) else none)=_
   cases hm:qcv d t w with
   | false=>rfl
   | true=>rw[xbr5 hm];rfl
  ·have:=hr.1;omega
  ·omega
 ·show qfm (qd0 K0 K1 n) K0 K1 l m i row.length row.length P acc=_
  unfold qfm
  exact qap (by omega) hx (qaj rfl (qb2 (show ¬((row.length:Int)<(row.length:Int)) by omega) rfl))
theorem lpR5 (K0:Option Out) (K1:Nat->List CV->Option Out) (l:List CV) (hl:qdh l):
  qe1 K0 K1 FUEL l 0 0 []=if l.all (fun c=>(qdk c).isSome)=true then K1 l.length (l.filterMap qdk) else K0:=by
 refine(qpi qdk l (by have:=hl.1;omega) (fun n a j acc=>qe1 K0 K1 n l a j acc) K0 (fun y=>K1 l.length y) (fun n j acc x hj ha hxj=> ?_) (fun n acc=> ?_) FUEL 0 [] (za1 _) rfl (by have:=hl.1;unfold FUEL;omega)).trans rfl
 ·show qge (qe1 K0 K1 n) K0 K1 l j j acc=_
  obtain⟨row,rfl,hr⟩:=hl.2 x (zac hxj)
  have hx':l[(j:Int).toNat]? =some (.slg 3 row):=hxj
  unfold qge
  simp only[qbq,qab]
  rw[xb80 _ _ j j l acc row hxj hr]
  have part:qdk (.slg 3 row)=if evB qmt 1 20 row=true then some (qcy 48 [] (evL qmt 1 20 row)) else none:=rfl
  have no: ¬evB qmt 1 20 row=true->qdk (.slg 3 row)=none:=fun h=>by rw[part,if_neg h]
  have rl:(row.length:Int)<1\/(20:Int)<(row.length:Int)-> ¬evB qmt 1 20 row=true:=fun h h'=>by
   unfold evB at h'
   rw[zab,decide_eq_true_eq] at h'
   omega
  refine qan (show(j:Int)<(l.length:Int) by omega) (qap (by omega) hx' (qaj rfl (qae (fun h=> ?_) fun h=>qap (by omega) hx' (qaj rfl (qae (fun h2=> ?_) fun h2=> ?_)))))
  ·rw[no (rl (Or.inl h))]
  ·rw[no (rl (Or.inr h2))]
  ·have h: ¬(row.length:Int)<1:=h
   have h2: ¬(20:Int)<(row.length:Int):=h2
   have e:evB qmt 1 20 row=row.all (fun c=>(qmt c).isSome):=by unfold evB;rw[decide_eq_true (by omega)];rfl
   by_cases ha':row.all (fun c=>(qmt c).isSome)=true
   ·rw[if_pos ha',part,if_pos (e.trans ha')]
    have e2:=q8a (e.trans ha')
    rw[e2.1]
    have hl2:(row.filterMap qmt).length=row.length:=qc8 ha'
    refine qaj (qb4 (by have:=hr.1;omega)) ?_
    exact q6y (w:=56) (y:=qcy 48 [] (row.filterMap qmt)) (A:=fun a c acc=>qe1 K0 K1 n l a c acc) ha (by have:=hl.1;omega) (by omega)
   ·rw[if_neg ha']
    rw[no (fun h'=>ha' (e.symm.trans h'))]
 ·show qge (qe1 K0 K1 n) K0 K1 l l.length l.length acc=_
  unfold qge
  exact qb2 (show ¬((l.length:Int)<(l.length:Int)) by omega) rfl
theorem xbut (l:List CV) (hp:qa9 l=true):xbhb l=zR [.cl (.agg [.int .i64 (qj0 l).1,.sli .u8 qa0,.slg 3 (qj0 l).2]),.cl (.bool (qn8 1 10 l))] []:=by
 have hl:=qca hp
 unfold xbhb qj0
 simp only[qbq,qqn,qab]
 rw[lpR5 _ _ l hl]
 have rl:(l.length:Int)<1\/(10:Int)<(l.length:Int)-> ¬evB qdk 1 10 l=true:=fun h h'=>by
  unfold evB at h'
  rw[zab,decide_eq_true_eq] at h'
  omega
 refine qae (fun h=> ?_) fun h=>qae (fun h2=> ?_) fun h2=> ?_
 ·rw[zas.2 (rl (Or.inl h))];rfl
 ·rw[zas.2 (rl (Or.inr h2))];rfl
 ·have e:evB qdk 1 10 l=l.all (fun c=>(qdk c).isSome):=by unfold evB;rw[decide_eq_true (by omega)];rfl
  by_cases ha:l.all (fun c=>(qdk c).isSome)=true
  ·rw[if_pos ha,e.trans ha,if_pos rfl,(q8a (e.trans ha)).1]
   have hl2:(l.filterMap qdk).length=l.length:=qc8 ha
   exact qaj (qb4 (by have:=hl.1;omega)) rfl
  ·rw[if_neg ha,e,zas.2 ha];rfl
theorem xbuu {l:List CV} (h:qgv l=true) {i:Nat} {c:CV} (hc:l[i]? =some c): ∃t b k,c=.agg [.int .i64 t,.sli .u8 b,.slg 3 k]/\isS [.int .i64 t,.sli .u8 b,.slg 3 k]=true:=(qf9 h).2 c (zac hc)
theorem q7w (t:Int) (b:List Int) (k:List CV):kindOf t b k=q1l t b k:=by unfold kindOf;rw[qab]
theorem xbui (t:Int) (b:List Int) (k:List CV) (hp:isS [.int .i64 t,.sli .u8 b,.slg 3 k]=true):xbdg t b k=zR [.cl (.int .i64 (kindOf t b k).1),.cl (.bool (kindOf t b k).2)] []:=by
 have hn:=qjh (g:=160) hp
 unfold xbdg
 rw[q7w]
 unfold q1l
 refine qaj (qb4 (by have:=(qhe hp).2;omega)) (qas (fun h=> ?_) fun h=>qas (fun h2=> ?_) fun h2=>qan (by omega) ?_)
 ·rw[if_pos (Or.inl h)]
 ·rw[if_pos (Or.inr h2)]
 ·rw[if_neg (by rintro(h'| h');exact h' h;exact h' h2)]
  generalize (qb8 160 t b k).1=ks at*
  have h2:ks.length=1:=by omega
  obtain⟨x,rfl⟩:=List.length_eq_one_iff.1 h2
  obtain⟨t',b',k',rfl,hs⟩:=xbuu hn (i:=0) rfl
  exact qaj hs rfl
theorem xbpu {α:Type} {l:List α} {n:Nat} {k:α->Option Out} {r:Option Out} {x:α} (hn:l.length=n+1) (hb:n<100) (hx:l[n]? =some x) (hk:k x=r):getK l (IntKind.i64.wrap ((l.length:Int) - 1)) k=r:=by
 have e:IntKind.i64.wrap ((l.length:Int) - 1)=(n:Int):=by rw[i64_in _ (by omega)];omega
 rw[e]
 exact qap (by omega) hx hk
theorem len2 {α:Type} {l:List α} (h:l.length=2): ∃x y,l=[x,y]:=by
 match l,h with
 | [x,y],_=>exact⟨x,y,rfl⟩
theorem len3 {α:Type} {l:List α} (h:l.length=3): ∃x y z,l=[x,y,z]:=by
 match l,h with
 | [x,y,z],_=>exact⟨x,y,z,rfl⟩
theorem xbgz (x y:CV):qvb [x,y]=((xbn5 x).1,[],(q9f y).1,(xbn5 x).2&&decide ((q9f y).2=0)):=rfl
theorem xbg3 (x y z:CV):qvb [x,y,z]=((xbn5 x).1,qdw qd5 162 (nT y) (nB y) (nK y),(q9f z).1,(qhu qd5 162 (nT y) (nB y) (nK y)&&decide (0<((qdw qd5 162 (nT y) (nB y) (nK y)).length:Int)))&&((xbn5 x).2&&decide ((q9f z).2=0))):=rfl
theorem xbo3 (t:Int) (b:List Int) (k:List CV) (hp:isS [.int .i64 t,.sli .u8 b,.slg 3 k]=true):xbdp t b k=zR [.cl (.agg [.int .i64 (qm7 t b k).1,.slg 1 (qm7 t b k).2.1,.sli .u8 (qm7 t b k).2.2.1]),.cl (.bool (qm7 t b k).2.2.2)] []:=by
 have hn:=qjh (g:=48) hp
 unfold xbdp
 simp only[q7w,xbw9,xbzh,q6a]
 unfold qgp
 refine qaj (qb4 (by have:=(qhe hp).2;omega)) (qas (fun h=> ?_) fun h=> ?_)
 ·rw[if_pos h]
 rw[if_neg (fun h'=>h' h)]
 generalize (qb8 48 t b k).1=ks at*
 refine qae (fun h2=> ?_) fun h2=>qae (fun h3=> ?_) fun h3=>qae (fun h4=> ?_) fun h4=> ?_
 ·unfold qvb;rw[if_pos (Or.inl h2)]
 ·unfold qvb;rw[if_pos (Or.inr h3)]
 ·obtain⟨x,y,z,rfl⟩:=len3 (show ks.length=3 by omega)
  obtain⟨t1,b1,k1,rfl,hs1⟩:=xbuu hn (i:=0) rfl
  obtain⟨t2,b2,k2,rfl,hs2⟩:=xbuu hn (i:=1) rfl
  obtain⟨t3,b3,k3,rfl,hs3⟩:=xbuu hn (i:=2) rfl
  rw[xbg3]
  have fin: ∀ {q:Bool},q=((qhu qd5 162 t2 b2 k2&&decide (0<((qdw qd5 162 t2 b2 k2).length:Int)))&&((q1l t1 b1 k1).2&&decide ((qbm [.int .i64 t3,.sli .u8 b3,.slg 3 k3]).2=0)))->zR [.cl (.agg [.int .i64 (q1l t1 b1 k1).1,.slg 1 (qdw qd5 162 t2 b2 k2),.sli .u8 (qbm [.int .i64 t3,.sli .u8 b3,.slg 3 k3]).1]),.cl (.bool q)] []=zR [.cl (.agg [.int .i64 (q1l t1 b1 k1).1,.slg 1 (qdw qd5 162 t2 b2 k2),.sli .u8 (qbm [.int .i64 t3,.sli .u8 b3,.slg 3 k3]).1]),.cl (.bool ((qhu qd5 162 t2 b2 k2&&decide (0<((qdw qd5 162 t2 b2 k2).length:Int)))&&((q1l t1 b1 k1).2&&decide ((qbm [.int .i64 t3,.sli .u8 b3,.slg 3 k3]).2=0))))] []:=fun h=>by rw[h]
  refine qan (by simp) (qaj hs2 (qch (fun h5=> ?_) fun h5=> ?_))
  ·have h5:qhu qd5 162 t2 b2 k2=true:=h5
   refine qan (by simp) (qaj hs1 (xbpu (n:=2) rfl (by omega) rfl (qaj rfl (qaj hs3 (qae (fun h6=>qch (fun h7=> ?_) fun h7=> ?_) fun h6=> ?_)))))
   ·have h6:0<((qdw qd5 162 t2 b2 k2).length:Int):=h6
    have h7:(q1l t1 b1 k1).2=true:=h7
    exact fin (by rw[h5,h7,decide_eq_true h6];rfl)
   ·have h7:(q1l t1 b1 k1).2=false:=h7
    exact fin (by rw[h7,zdc,Bool.and_false])
   ·have h6: ¬0<((qdw qd5 162 t2 b2 k2).length:Int):=h6
    exact fin (by rw[decide_eq_false h6,Bool.and_false,zdc])
  ·have h5:qhu qd5 162 t2 b2 k2=false:=h5
   refine qan (by simp) (qaj hs1 (xbpu (n:=2) rfl (by omega) rfl (qaj rfl (qaj hs3 ?_))))
   exact fin (by rw[h5,zdc,zdc])
 ·obtain⟨x,y,rfl⟩:=len2 (show ks.length=2 by omega)
  obtain⟨t1,b1,k1,rfl,hs1⟩:=xbuu hn (i:=0) rfl
  obtain⟨t2,b2,k2,rfl,hs2⟩:=xbuu hn (i:=1) rfl
  rw[xbgz]
  have fin: ∀ {q:Bool},q=((q1l t1 b1 k1).2&&decide ((qbm [.int .i64 t2,.sli .u8 b2,.slg 3 k2]).2=0))->zR [.cl (.agg [.int .i64 (q1l t1 b1 k1).1,.slg 1 [],.sli .u8 (qbm [.int .i64 t2,.sli .u8 b2,.slg 3 k2]).1]),.cl (.bool q)] []=zR [.cl (.agg [.int .i64 (q1l t1 b1 k1).1,.slg 1 [],.sli .u8 (qbm [.int .i64 t2,.sli .u8 b2,.slg 3 k2]).1]),.cl (.bool ((q1l t1 b1 k1).2&&decide ((qbm [.int .i64 t2,.sli .u8 b2,.slg 3 k2]).2=0)))] []:=fun h=>by rw[h]
  refine qan (by simp) (qaj hs1 (xbpu (n:=1) rfl (by omega) rfl (qaj rfl (qaj hs2 (qch (fun h5=> ?_) fun h5=> ?_)))))
  ·have h5:(q1l t1 b1 k1).2=true:=h5
   exact fin (by rw[h5];rfl)
  ·have h5:(q1l t1 b1 k1).2=false:=h5
   exact fin (by rw[h5,zdc])
theorem xb2z {α:Type} {o:Option α} {x:α} {k:α->Option Out} {r:Option Out} (h:o=some x) (hk:k x=r):Option.bind o k=r:=by rw[h];exact hk
open IntWalk (i64_in u8_in u32_in u64_in i64_quo u8_quo rem_in)
theorem qq6 {α σ:Type} (F:σ->α->σ) (s0:σ) (l:List α) (L:Nat->Int->σ->Option Out) (fin:σ->Option Out)
  (hstep: ∀(n i:Nat) (s:σ) (x:α),l[i]? =some x->i<l.length->s=(l.take i).foldl F s0->L (n+1) (i:Int) s=L n ((i+1:Nat):Int) (F s x))
  (hend: ∀(n:Nat) (s:σ),L (n+1) (l.length:Int) s=fin s): ∀(fuel i:Nat) (s:σ),i<=l.length->s=(l.take i).foldl F s0->l.length<fuel+i->L fuel (i:Int) s=fin (l.foldl F s0)
 | 0,i,s,hi,hs,hf=>by omega
 | fuel+1,i,s,hi,hs,hf=>by
  rcases zby i l.length with h|h
  ·obtain⟨x,hx⟩: ∃x,l[i]? =some x:=⟨_,zaf h⟩
   rw[hstep fuel i s x hx h hs]
   refine qq6 F s0 l L fin hstep hend fuel (i+1) (F s x) h ?_ (by omega)
   rw[List.take_add_one,hx,List.foldl_append, <- hs]
   rfl
  ·obtain rfl:i=l.length:=by omega
   rw[hend,hs,zc5]
theorem xbae {α:Type} (a b:List α) (hl:a.length=b.length) (L:Nat->Int->Option Out) (yes no:Option Out)
  (hstep: ∀(n i:Nat) (x y:α),a[i]? =some x->b[i]? =some y->i<a.length->L (n+1) (i:Int)=cond (pD (x=y)) (L n ((i+1:Nat):Int)) no)
  (hend: ∀n:Nat,L (n+1) (a.length:Int)=yes): ∀(fuel i:Nat),i<=a.length->a.length<fuel+i->L fuel (i:Int)=cond (pD (a.drop i=b.drop i)) yes no
 | 0,i,hi,hf=>by omega
 | fuel+1,i,hi,hf=>by
  rcases zby i a.length with h|h
  ·obtain⟨x,hx⟩: ∃x,a[i]? =some x:=⟨_,zaf h⟩
   obtain⟨y,hy⟩: ∃y,b[i]? =some y:=⟨_,zaf (hl▸h)⟩
   rw[hstep fuel i x y hx hy h,xbae a b hl L yes no hstep hend fuel (i+1) h (by omega),qh0 hx,qh0 hy]
   unfold pD
   by_cases h1:x=y
   ·subst h1
    by_cases h2:a.drop (i+1)=b.drop (i+1)<;>simp[h2]
   ·simp[h1]
  ·obtain rfl:i=a.length:=by omega
   rw[hend,zdi,hl,zdi]
   unfold pD
   simp
theorem qfz {p:Prop}:pD p=true↔p:=by unfold pD;exact @decide_eq_true_iff _ (Classical.propDecidable _)
theorem xbt1 {p:Prop} [i:Decidable p]:pD p=decide p:=by unfold pD;congr
theorem xb0m (K0:Int->Option Out) (K1:Option Out) (l:List Int) (d:Int) (hl:l.length<=1000000000000000): ∀(fuel i:Nat),i<=l.length->d∉l.take i->l.length<fuel+i->qk1 K0 K1 fuel l d (l.length:Int) i=if d∈l then K0 (l.idxOf d:Int) else K1
 | 0,i,hi,hd,hf=>by omega
 | fuel+1,i,hi,hd,hf=>by
  show qmr (qk1 K0 K1 fuel) K0 K1 l d (l.length:Int) i=_
  unfold qmr
  rcases zby i l.length with h|h
  ·obtain⟨x,hx⟩: ∃x,l[i]? =some x:=⟨_,zaf h⟩
   have e2:IntKind.i64.wrap ((i:Int)+1)=((i+1:Nat):Int):=i64_in _ (by omega)
   have hsp:l=l.take i++x::l.drop (i+1):=by rw[<- qh0 hx,List.take_append_drop]
   refine qan (by omega) (qap (by omega) hx (qae (fun h1=> ?_) fun h1=> ?_))
   ·subst h1
    have hm:d∈l:=zac hx
    have hio:l.idxOf d=i:=by
     rw[hsp,List.idxOf_append,if_neg hd,List.idxOf_cons_self,zax,zb8,Nat.min_eq_left hi]
    rw[if_pos hm,hio]
   ·rw[e2]
    refine xb0m K0 K1 l d hl fuel (i+1) h ?_ (by omega)
    rw[List.take_add_one,hx]
    simp only[Option.toList,zap,zdv,not_or]
    exact⟨hd,h1⟩
  ·obtain rfl:i=l.length:=by omega
   rw[zc5] at hd
   rw[if_neg hd]
   exact qb2 (by omega) rfl
theorem xbt8 (l:List Int) (d:Int) (hp:qdt l=true):xbdt l d=zI (idxI l d):=by
 have hl:=qr2 hp
 unfold xbdt idxI
 rw[qab,qab]
 refine(xb0m _ _ l d hl FUEL 0 (za1 _) (by simp) (by unfold FUEL;omega)).trans ?_
 by_cases h:d∈l
 ·rw[if_pos h,if_pos h]
 ·rw[if_neg h,if_neg h]
theorem xb43 (l:List Int) (d:Int) (hp:qdt l=true):xb2i l d=zB (hasI l d):=by
 unfold xb2i
 refine qaj hp ?_
 have e:decide ((0:Int)<=idxI l d)=hasI l d:=by
  unfold idxI hasI
  rw[qab,qab]
  by_cases h:d∈l
  ·rw[if_pos h,decide_eq_true h];exact decide_eq_true (by omega)
  ·rw[if_neg h,decide_eq_false h];rfl
 show zB (decide ((0:Int)<=idxI l d))=_
 rw[e]
theorem xb3v {α:Type} {x y:α} [Decidable (x=y)] {a b:Option Out}:cond (!decide (x=y)) a b=cond (pD (x=y)) b a:=by
 rw[xbt1]
 cases decide (x=y)<;>rfl
theorem qo1 (a b:List Int):xbhm a b=pD (a=b):=by unfold xbhm;rw[qab];exact xbt1.symm
theorem xb20 {α:Type} {a b:List α} (h: ¬(a.length:Int)=(b.length:Int)):pD (a=b)=false:=zas.2 fun h'=>h (by rw[qfz.1 h'])
theorem xb8e (a b:List Int) (hp:qdt a=true):xb7a a b=zB (xbhm a b):=by
 have ha:=qr2 hp
 unfold xb7a
 rw[qo1]
 refine qas (fun h=>by rw[xb20 h]) fun h=> ?_
 have hl:a.length=b.length:=by omega
 rw[qab]
 refine(xbae a b hl (fun n i=>q2y _ _ n a b (a.length:Int) i) _ (zB false) (fun n i x y hx hy hi=> ?_) (fun n=>qb2 (show ¬(a.length:Int)<(a.length:Int) by omega) rfl) FUEL 0 (za1 _) (by unfold FUEL;omega)).trans ?_
 ·have e2:IntKind.i64.wrap ((i:Int)+1)=((i+1:Nat):Int):=i64_in _ (by omega)
  refine qan (by omega) (qap (by omega) hx (qap (by omega) hy ?_))
  rw[e2]
  exact xb3v
 ·simp only[zbn]
  cases pD (a=b)<;>rfl
theorem xbxd (a b:List Int) (hp:qdt a=true):xbmd a b=zB (xbhm a b):=by
 have ha:=qr2 hp
 unfold xbmd
 rw[qo1]
 refine qas (fun h=>by rw[xb20 h]) fun h=> ?_
 have hl:a.length=b.length:=by omega
 rw[qab]
 refine(xbae a b hl (fun n i=>qrp _ _ n a b i) _ (zB false) (fun n i x y hx hy hi=> ?_) (fun n=>qb2 (show ¬(a.length:Int)<(a.length:Int) by omega) rfl) FUEL 0 (za1 _) (by unfold FUEL;omega)).trans ?_
 ·have e2:IntKind.i64.wrap ((i:Int)+1)=((i+1:Nat):Int):=i64_in _ (by omega)
  refine qan (by omega) (qap (by omega) hx (qap (by omega) hy ?_))
  rw[e2]
  exact xb3v
 ·simp only[zbn]
  cases pD (a=b)<;>rfl
theorem q43 {α:Type} {f:α->Nat} {B:Nat}: ∀ {l:List α} {s:Nat},(∀c∈l,f c<=B)->l.foldl (fun s c=>s+f c) s<=s+l.length*B
 | [],s,_=>by simp
 | x::r,s,h=>by
  have h1:=h x (by simp)
  have:=q43 (l:=r) (s:=s+f x) fun c hc=>h c (by simp[hc])
  rw[zbf,zad,zco]
  omega
theorem q3v {α β:Type} {f:α->List β}: ∀ {l:List α} {s:List β},l.foldl (fun s c=>s++f c) s=s++l.flatMap f
 | [],s=>by simp
 | x::r,s=>by rw[zbf,q3v];simp
theorem q0e {α β:Type} {f:α->List β} {B:Nat}: ∀ {l:List α},(∀c∈l,(f c).length<=B)->(l.flatMap f).length<=l.length*B
 | [],_=>by simp
 | x::r,h=>by
  have h1:=h x (by simp)
  have:=q0e (l:=r) fun c hc=>h c (by simp[hc])
  rw[za3,zag,zad,zco]
  omega
theorem qnv {l:List CV} (h:qdh l): ∀c∈l,(qbi c).length<=10000:=fun c hc=>by
 obtain⟨m,rfl,hm⟩:=h.2 c hc
 exact hm.1
theorem xbjp (l:List CV) (hp:qa9 l=true):q7m l=zR [.cl (.slg 3 (xbuw l))] []:=by
 have hl:=qca hp
 have hlen:=qnv hl
 have hl1:=hl.1
 have hm:l.length*10000<=10000*10000:=zdh hl1 (zar _)
 have htk: ∀i,(l.take i).length*10000<=10000*10000:=fun i=>zdh (by rw[zb8];omega) (zar _)
 have htm: ∀i, ∀c∈l.take i,(qbi c).length<=10000:=fun i c hc=>hlen c (zbc hc)
 unfold q7m xbuw
 simp only[qab]
 refine(qq6 (fun(s:Nat) c=>s+(qbi c).length) 0 l (fun n i s=>qip _ _ n l (s:Int) l (l.length:Int) i) _ (fun n i s x hx hi hs=> ?_) (fun n s=>qb2 (show ¬(l.length:Int)<(l.length:Int) by omega) rfl) FUEL 0 0 (za1 _) rfl (by unfold FUEL;omega)).trans ?_
 ·obtain⟨m,rfl,hm'⟩:=hl.2 x (zac hx)
  have hm':=hm'.1
  have hs':s<=100000000:=by
   have:=q43 (s:=0) (htm i)
   have:=htk i
   rw[hs];omega
  have e1:IntKind.i64.wrap ((s:Int)+(m.length:Int))=((s+m.length:Nat):Int):=by rw[i64_in _ (by omega)];omega
  have e2:IntKind.i64.wrap ((i:Int)+1)=((i+1:Nat):Int):=i64_in _ (by omega)
  refine qan (by omega) (qap (by omega) hx (qaj rfl ?_))
  show cond (decide (IntKind.i64.wrap ((s:Int)+(m.length:Int))<0)) _ (qip _ _ n l (IntKind.i64.wrap ((s:Int)+(m.length:Int))) l (l.length:Int) (IntKind.i64.wrap ((i:Int)+1)))=_
  rw[e1,e2]
  exact qb2 (by omega) rfl
 ·have hb:=q43 (s:=0) hlen
  rw[qde]
  refine qaj (by unfold q1i;rw[qab];exact decide_eq_true (by omega)) ?_
  refine(qq6 (fun(s:List CV) c=>s++qbi c) [] l (fun n i s=>qgy _ n s.length l (l.length:Int) i s) (fun s=>zR [.cl (.slg 3 s)] []) (fun n i s x hx hi hs=> ?_) (fun n s=>qb2 (show ¬(l.length:Int)<(l.length:Int) by omega) rfl) FUEL 0 [] (za1 _) rfl (by unfold FUEL;omega)).trans ?_
  ·obtain⟨m,rfl,hm'⟩:=hl.2 x (zac hx)
   have hm':=hm'.1
   have hs':s.length<=100000000:=by
    have:=q0e (htm i)
    have:=htk i
    rw[hs,q3v]
    simp only[zbo]
    omega
   have e2:IntKind.i64.wrap ((i:Int)+1)=((i+1:Nat):Int):=i64_in _ (by omega)
   refine qan (by omega) (qap (by omega) hx (qaj rfl ?_))
   show rmK (s++m).length 56 (qgy _ n (s++m).length l (l.length:Int) (IntKind.i64.wrap ((i:Int)+1)) (s++m))=_
   rw[e2]
   have:(s++m).length<=200000000:=by rw[zag];omega
   exact qx7 (by omega) (by omega) rfl
  ·rw[q3v];rfl
theorem xbox (l:List CV):xbuw l=l.flatMap qbi:=by unfold xbuw;rw[qab]
theorem qzn (o:List Int) (d:Int):(qf1 o d).length<=o.length+1:=by unfold qf1;split<;>simp
theorem qis: ∀(l:List CV) (o:List Int),(l.foldl (fun o c=>qf1 o (mD c)) o).length<=o.length+l.length
 | [],o=>by simp
 | x::r,o=>by
  have:=qis r (qf1 o (mD x))
  have:=qzn o (mD x)
  simp only[zbf,zad]
  omega
theorem q7y (l:List CV):qgg l=(l.flatMap qbi).foldl (fun o c=>qf1 o (mD c)) []:=by
 unfold qgg q9q
 rw[<- List.map_flatMap,List.foldl_map]
theorem xbhd (l:List CV):qgg l=l.foldl (fun o c=>(qbi c).foldl (fun o c=>qf1 o (mD c)) o) []:=by
 rw[q7y]
 generalize ([]:List Int)=o
 induction l generalizing o with
 | nil=>rfl
 | cons x r ih=>rw[za3,List.foldl_append,ih];rfl
theorem qnh (l:List CV):qsu l=qgg l:=by unfold qsu;rw[qab]
theorem xbxq (l:List Int) (d:Int):hasI l d=decide (d∈l):=by unfold hasI;rw[qab]
theorem xbks (l:List CV) (hp:qa9 l=true):q6j l=zR [.cl (.sli .i64 (qsu l))] []:=by
 have hl:=qca hp
 have hlen:=q0e (qnv hl)
 have hl1:=hl.1
 have hm:l.length*10000<=10000*10000:=zdh hl1 (zar _)
 unfold q6j
 rw[qnh,q7y]
 refine qaj hp ?_
 simp only[qab,xbox]
 have hin: ∀c∈l.flatMap qbi,isMk c:=fun c hc=>by
  obtain⟨x,hx,hc⟩:=zbs.1 hc
  obtain⟨m,rfl,hm'⟩:=hl.2 x hx
  exact hm'.2 c hc
 generalize l.flatMap qbi=j at*
 refine(qq6 (fun(o:List Int) c=>qf1 o (mD c)) [] j (fun n i s=>qe8 _ n s.length j (j.length:Int) i s) (fun s=>zR [.cl (.sli .i64 s)] []) (fun n i s x hx hi hs=> ?_) (fun n s=>qb2 (show ¬(j.length:Int)<(j.length:Int) by omega) rfl) FUEL 0 [] (za1 _) rfl (by unfold FUEL;omega)).trans rfl
 obtain⟨d,t,w,rfl,ht,hw⟩:=hin x (zac hx)
 have hs':s.length<=100000000:=by
  have:=qis (j.take i) []
  rw[zb8] at this
  rw[hs]
  simp only[zcb] at this
  omega
 have e2:IntKind.i64.wrap ((i:Int)+1)=((i+1:Nat):Int):=i64_in _ (by omega)
 refine qan (by omega) (qap (by omega) hx (qaj rfl (qaj (qxd (by omega)) ?_)))
 show cond (!hasI s d) (rmK (s++[d]).length 8 (qe8 _ n (s++[d]).length j (j.length:Int) (IntKind.i64.wrap ((i:Int)+1)) (s++[d]))) (qe8 _ n s.length j (j.length:Int) (IntKind.i64.wrap ((i:Int)+1)) s)=qe8 _ n (qf1 s d).length j (j.length:Int) ((i+1:Nat):Int) (qf1 s d)
 rw[e2,xbxq]
 unfold qf1
 by_cases h:d∈s
 ·rw[decide_eq_true h,if_pos h];rfl
 ·rw[decide_eq_false h,if_neg h]
  have:(s++[d]).length<=200000000:=by rw[zag];simp;omega
  exact qx7 (by omega) (by omega) rfl
theorem xbau (d:Int): ∀(l:List Int) (s:Bool),l.foldl (fun s e=>s|| decide (e=d)) s=(s|| decide (d∈l))
 | [],s=>by simp
 | x::r,s=>by
  rw[zbf,xbau d r]
  simp only[zaw]
  by_cases h1:x=d
  ·subst h1;simp
  ·have: ¬d=x:=fun h=>h1 h.symm
   simp[h1,this]
theorem xb8k (K0:List CV->Nat->Int->Int->Bool->List Int->Option Out) (l:List CV) (i k:Nat) (d:Int) (t:List CV) (w:List Int) (row:List CV) (o:List Int) (hx:l[i]? =some (.slg 3 row)) (hy:row[k]? =some (qv3 d t w)) (ho:o.length<=100000000):
  qd8 K0 FUEL l o.length i k false 0 o=K0 l o.length i k (decide (d∈o)) o:=by
 refine(qq6 (fun(s:Bool) e=>s|| decide (e=d)) false o (fun n j s=>qd8 K0 n l o.length i k s j o) (fun s=>K0 l o.length i k s o) (fun n j s x hxj hj hs=> ?_) (fun n s=>qb2 (show ¬(o.length:Int)<(o.length:Int) by omega) rfl) FUEL 0 false (za1 _) rfl (by unfold FUEL;omega)).trans (by rw[xbau];rfl)
 have e2:IntKind.i64.wrap ((j:Int)+1)=((j+1:Nat):Int):=i64_in _ (by omega)
 refine qan (by omega) ?_
 cases s with
 | true=>
  show qd8 K0 n l o.length i k true (IntKind.i64.wrap ((j:Int)+1)) o=_
  rw[e2];rfl
 | false=>
  refine xbaf rfl (xb2v (by omega) (by omega) (xb2z (x:=x) (by rw[zax];exact hxj) (qap (by omega) hx (qaj rfl (qap (by omega) hy (qaj rfl ?_))))))
  show qd8 K0 n l o.length i k (decide (x=d)) (IntKind.i64.wrap ((j:Int)+1)) o=_
  rw[e2];rfl
theorem lpD6 (K0:List CV->Nat->Int->List Int->Option Out) (l:List CV) (i:Nat) (row:List CV) (o:List Int) (hx:l[i]? =some (.slg 3 row)) (hr:qp9 row) (ho:o.length+row.length<=100000000):
  qc2 K0 FUEL l o.length i 0 o=K0 l (row.foldl (fun o c=>qf1 o (mD c)) o).length i (row.foldl (fun o c=>qf1 o (mD c)) o):=by
 refine(qq6 (fun(o:List Int) c=>qf1 o (mD c)) o row (fun n j s=>qc2 K0 n l s.length i j s) (fun s=>K0 l s.length i s) (fun n j s x hxj hj hs=> ?_) (fun n s=> ?_) FUEL 0 o (za1 _) rfl (by have:=hr.1;unfold FUEL;omega)).trans rfl
 ·obtain⟨d,t,w,rfl,ht,hw⟩:=hr.2 x (zac hxj)
  have hs':s.length<=100000000:=by
   have:=qis (row.take j) o
   rw[zb8] at this
   rw[hs]
   omega
  have hr1:=hr.1
  have e2:IntKind.i64.wrap ((j:Int)+1)=((j+1:Nat):Int):=i64_in _ (by omega)
  show qff (qc2 K0 n) K0 l s.length i j s=_
  unfold qff
  simp only[qab]
  rw[xb8k _ l i j d t w row s hx hxj (by omega)]
  refine qap (by omega) hx (qaj rfl (qan (show(j:Int)<(row.length:Int) by omega) ?_))
  show cond (!decide (d∈s)) _ (qc2 K0 n l s.length i (IntKind.i64.wrap ((j:Int)+1)) s)=qc2 K0 n l (qf1 s d).length i ((j+1:Nat):Int) (qf1 s d)
  rw[e2]
  unfold qf1
  by_cases h:d∈s
  ·rw[decide_eq_true h,if_pos h];rfl
  ·rw[decide_eq_false h,if_neg h]
   refine qap (by omega) hx (qaj rfl (qap (by omega) hxj (qaj rfl ?_)))
   have:(s++[d]).length<=200000000:=by rw[zag];simp;omega
   exact qx7 (by show(s++[d]).length*8<=_;omega) (by show(s++[d]).length<=_;omega) rfl
 ·show qff (qc2 K0 n) K0 l s.length i row.length s=_
  unfold qff
  exact qap (by omega) hx (qaj rfl (qb2 (show ¬((row.length:Int)<(row.length:Int)) by omega) rfl))
theorem qtg: ∀(l:List CV) (o:List Int),(∀c∈l,(qbi c).length<=10000)->(l.foldl (fun o c=>(qbi c).foldl (fun o c=>qf1 o (mD c)) o) o).length<=o.length+l.length*10000
 | [],o,_=>by simp
 | x::r,o,h=>by
  have:=qtg r ((qbi x).foldl (fun o c=>qf1 o (mD c)) o) fun c hc=>h c (by simp[hc])
  have:=qis (qbi x) o
  have:=h x (by simp)
  simp only[zbf,zad]
  omega
theorem lpD3 (K0:Nat->List Int->Option Out) (l:List CV) (hl:qdh l):qev K0 FUEL l 0 0 []=K0 (qgg l).length (qgg l):=by
 have hlen:=qnv hl
 have hl1:=hl.1
 rw[xbhd]
 refine(qq6 (fun(o:List Int) c=>(qbi c).foldl (fun o c=>qf1 o (mD c)) o) [] l (fun n j s=>qev K0 n l s.length j s) (fun s=>K0 s.length s) (fun n j s x hxj hj hs=> ?_) (fun n s=>qb2 (show ¬(l.length:Int)<(l.length:Int) by omega) rfl) FUEL 0 [] (za1 _) rfl (by unfold FUEL;omega)).trans rfl
 obtain⟨row,rfl,hr⟩:=hl.2 x (zac hxj)
 have hs':s.length<=j*10000:=by
  have:=qtg (l.take j) [] fun c hc=>hlen c (zbc hc)
  rw[zb8,Nat.min_eq_left (by omega)] at this
  rw[hs]
  simpa using this
 have hr1:=hr.1
 have e2:IntKind.i64.wrap ((j:Int)+1)=((j+1:Nat):Int):=i64_in _ (by omega)
 show qke (qev K0 n) K0 l s.length j s=_
 unfold qke
 simp only[qab]
 rw[lpD6 _ l j row s hxj hr (by omega)]
 refine qan (by omega) ?_
 show qev K0 n l _ (IntKind.i64.wrap ((j:Int)+1)) _=_
 rw[e2]
 rfl
theorem xbjz (l:List CV) (hp:qa9 l=true):q6p l=zR [.cl (.sli .i64 (qsu l))] []:=by
 unfold q6p
 rw[qnh,qab]
 exact lpD3 _ l (qca hp)
open IntWalk (i64_in u8_in u32_in u64_in i64_quo u8_quo rem_in)
def Bk (n B:Nat) (c:CV):Prop:= ∃y,c=.agg y/\isTf n y=true/\qdr n y<=B
theorem xbny {k m B B':Nat} {c:CV} (h:Bk k B c) (hk:k<=m) (hB:B<=B'):Bk m B' c:=by
 obtain⟨y,rfl,h1,h2⟩:=h
 have h3:=xb06 h1 hk
 exact⟨y,rfl,h3,by rw[<- xbli h1 h3];omega⟩
theorem ql3 {n S:Nat} {t:Int} {b:List Int} {l:List CV} (hb: ∀x∈b,0<=x/\x<=255) (h:(∀c∈l, ∃y,c=.agg y/\isTf n y=true)/\(l.map fun c=>qdr n (cell1 c)).sum<=S):Bk (n+1) (1+b.length+S) (qcy t b l):=
 ⟨_,rfl,xb25 hb h.1,Nat.add_le_add_left h.2 _⟩
theorem q0l {n:Nat} {t:Int} {b:List Int} (hb: ∀x∈b,0<=x/\x<=255):Bk (n+1) (1+b.length) (qcy t b []):=ql3 (S:=0) hb ⟨by simp,by simp⟩
theorem qjq {n B S:Nat} {c:CV} {l:List CV} (h:Bk n B c) (hl:(∀c∈l, ∃y,c=.agg y/\isTf n y=true)/\(l.map fun c=>qdr n (cell1 c)).sum<=S):(∀x∈c::l, ∃y,x=.agg y/\isTf n y=true)/\((c::l).map fun c=>qdr n (cell1 c)).sum<=B+S:=by
 obtain⟨y,rfl,h1,h2⟩:=h
 refine⟨fun x hx=> ?_, ?_⟩
 ·rcases zaw.1 hx with rfl|hx
  ·exact⟨y,rfl,h1⟩
  ·exact hl.1 x hx
 ·have:=hl.2
  show qdr n y+_<=_
  exact Nat.add_le_add h2 this
theorem xbby {n:Nat}:(∀x∈([]:List CV), ∃y,x=.agg y/\isTf n y=true)/\(([]:List CV).map fun c=>qdr n (cell1 c)).sum<=0:=⟨by simp,by simp⟩
theorem xbwy {f:CV->Option CV} {g:CV->Nat} {n:Nat}: ∀ {l:List CV},(∀c∈l, ∀y,f c=some y->Bk n (g c) y)->(∀y∈l.filterMap f, ∃z,y=.agg z/\isTf n z=true)/\((l.filterMap f).map fun c=>qdr n (cell1 c)).sum<=(l.map g).sum
 | [],_=>⟨by simp,by simp⟩
 | x::r,h=>by
  have ih:=xbwy (l:=r) fun c hc=>h c (by simp[hc])
  cases hx:f x with
  | none=>
   rw[List.filterMap_cons_none hx]
   refine⟨ih.1, ?_⟩
   simp only[zbi,zb7]
   omega
  | some y=>
   rw[zcw hx]
   have:=qjq (h x (by simp) y hx) ih
   refine⟨this.1, ?_⟩
   have:=this.2
   simp only[zbi,zb7] at this ⊢
   omega
theorem xbjj {f:CV->Option CV} {g:CV->Nat} {n:Nat} {lo hi:Int} {l:List CV} (h: ∀c∈l, ∀y,f c=some y->Bk n (g c) y):(∀y∈evL f lo hi l, ∃z,y=.agg z/\isTf n z=true)/\((evL f lo hi l).map fun c=>qdr n (cell1 c)).sum<=(l.map g).sum:=by
 unfold evL
 split
 ·exact xbwy h
 ·exact⟨by simp,by simp⟩
theorem xb6q {s:Int} {l:List CV} (h:xbhz l): ∀c∈l, ∀y,digF s c=some y->Bk 30 (1+(qby c).length) y:=fun c hc y hy=>by
 obtain⟨b,rfl,hb⟩:=h.2 c hc
 unfold digF at hy
 split at hy
 ·cases hy;exact q0l (qam hb).2
 ·cases hy
theorem xbz2 {s:Int} {t:List CV} (h:xble t): ∀c∈t, ∀y,qqk s c=some y->Bk 31 (1+q1n (qbi c)) y:=fun c hc y hy=>by
 obtain⟨l,rfl,hl⟩:=h.2 c hc
 unfold qqk at hy
 split at hy
 ·cases hy
  exact ql3 (b:=[]) (by simp) (xbjj (xb6q hl))
 ·cases hy
theorem xb2p {s:Int} {t:List CV} (h:xble t) (lo hi:Int):Bk 32 (1+qt8 t) (qcy 162 [] (evL (qqk s) lo hi t)):=ql3 (b:=[]) (by simp) (xbjj (xbz2 h))
theorem xbst: ∀e∈qhi,(qfv e.2.2).length<=11/\∀x∈qfv e.2.2,0<=x/\x<=255:=by decide+kernel
theorem xb7r (d:Int):Bk 31 12 (q48 (qaw d).2.2):=by
 have h:(qa3 (qaw d).2.2).length<=11/\∀x∈qa3 (qaw d).2.2,0<=x/\x<=255:=by
  unfold qa3
  rw[qab]
  rcases q6e d with h|h
  ·rw[h];exact⟨by decide,by decide⟩
  ·exact xbst _ h.1
 unfold q48 qfy xbjb
 rw[qab]
 split
 ·exact xbny (q0l (n:=30) h.2) (by omega) (by show 1+(qa3 (qaw d).2.2).length<=12;omega)
 ·exact xbny (q0l (n:=30) (by simp)) (by omega) (by simp)
theorem xb81 {w:List Int} (hw:qad w=true) (h:(qba w).2=0):Bk 32 w.length (ndCV (qba w).1):=by
 rw[q1f] at h ⊢
 by_cases hz:(qar 32 w).1=0
 ·rw[if_pos hz] at h ⊢
  by_cases hlt:(qar 32 w).2.2<w.length
  ·rw[if_pos hlt] at h;exact absurd h (by decide: ¬(7:Int)=0)
  ·rw[if_neg hlt]
   obtain⟨⟨h1,h2,h3,h4⟩,h5⟩:=qph 32 w hw hz
   rw[h5,zb8] at h4
   exact⟨ndL (qar 32 w).2.1,rfl,h1,by omega⟩
 ·rw[if_neg hz] at h;exact absurd h hz
theorem xb0g {l:List CV} (h: ∀c∈l,isMk c): ∀c∈l, ∀y,qmt c=some y->Bk 33 (2+(mW c).length+qt8 (mT c)+13) y:=fun c hc y hy=>by
 obtain⟨d,t,w,rfl,ht,hw⟩:=h c hc
 replace hy:(if qcv d t w=true then some (qcy 48 [] (q6r d t w)) else none)=some y:=hy
 split at hy
 ·rename_i hm
  obtain⟨_,h2,_⟩:=qga.1 hm
  cases hy
  have hbox:Bk 32 13 (qcy 160 [] [q48 (qaw d).2.2]):=ql3 (S:=12) (b:=[]) (by simp) (qjq (S:=0) (xb7r d) xbby)
  have htok:=xb81 hw h2
  unfold q6r
  refine xbny (k:=33) (B:=1+0+(13+((1+qt8 t)+(w.length+0)))) (ql3 (b:=[]) (by simp) ?_) (zar _) (by show _<=2+w.length+qt8 t+13;omega)
  split
  ·have:=qjq hbox (qjq htok xbby)
   exact⟨this.1,by have:=this.2;simp only[zbo];omega⟩
  ·exact qjq hbox (qjq (xb2p ht 0 20) (qjq htok xbby))
 ·cases hy
theorem q35 {g:CV->Nat} {K:Nat}: ∀ {l:List CV},(l.map fun c=>g c+K).sum=(l.map g).sum+K*l.length
 | []=>by simp
 | x::r=>by
  have:=q35 (g:=g) (K:=K) (l:=r)
  simp only[zbi,zb7,zad,Nat.mul_succ]
  omega
theorem qu3 {α β:Type} {f:α->Option β} {lo hi:Int} {l:List α} (h:evB f lo hi l=true):lo<=(l.length:Int)/\(l.length:Int)<=hi/\∀c∈l, ∃y,f c=some y:=by
 unfold evB at h
 rw[zab,decide_eq_true_eq,zaj] at h
 exact⟨h.1.1,h.1.2,fun c hc=>za2.1 (h.2 c hc)⟩
theorem xbsi {l:List CV} (h: ∀c∈l, ∃m,c=.slg 3 m/\qp9 m): ∀c∈l, ∀y,qdk c=some y->Bk 34 (1+qgu (qbi c)+260) y:=fun c hc y hy=>by
 obtain⟨m,rfl,hm⟩:=h c hc
 replace hy:(if evB qmt 1 20 m=true then some (qcy 48 [] (evL qmt 1 20 m)) else none)=some y:=hy
 split at hy
 ·rename_i hb
  cases hy
  have:=xbjj (lo:=1) (hi:=20) (xb0g hm.2)
  rw[q35] at this
  have hl:=(qu3 hb).2.1
  refine xbny (ql3 (b:=[]) (by simp) this) (zar _) ?_
  show 1+0+(qgu m+13*m.length)<=1+qgu m+260
  omega
 ·cases hy
theorem qn1 {l:List CV} (h:recO l=true):qdh l/\qea l<=12100:=by unfold recO at h;rw[qab] at h;exact @of_decide_eq_true _ (Classical.propDecidable _) h
theorem xbd7 {l:List CV} (h:qdh l/\qea l<=12100):recO l=true:=by unfold recO;rw[qab];exact @decide_eq_true _ (Classical.propDecidable _) h
theorem q58 {l:List CV} (h:qdh l) (hn:qea l<=12100):Bk 35 14701 (qcy 48 [] (evL qdk 1 10 l)):=by
 by_cases hb:evB qdk 1 10 l=true
 ·have:=xbjj (lo:=1) (hi:=10) (xbsi h.2)
  rw[q35] at this
  have hl:=(qu3 hb).2.1
  refine xbny (ql3 (b:=[]) (by simp) this) (zar _) ?_
  have:qea l=(l.map fun c=>1+qgu (qbi c)).sum:=rfl
  show 1+0+((l.map fun c=>1+qgu (qbi c)).sum+260*l.length)<=14701
  omega
 ·unfold evL
  rw[if_neg hb]
  exact xbny (q0l (by simp)) (zar _) (by simp)
theorem xb0o {n B:Nat} {t:Int} {b:List Int} {k:List CV} (h:Bk n B (qcy t b k)) (hB:B<=30000):isS [.int .i64 t,.sli .u8 b,.slg 3 k]=true:=by
 obtain⟨y,e,h1,h2⟩:=h
 cases e
 exact xbfa h1 (by omega)
theorem qs1 {l:List CV} (h:qdh l) (hn:qea l<=12100):isS [.int .i64 48,.sli .u8 [],.slg 3 (evL qdk 1 10 l)]=true:=xb0o (q58 h hn) (by omega)
theorem qsj {d:Int}: ∀ {l o:List Int},d∈l.foldl qf1 o->d∈o\/d∈l
 | [],o,h=>.inl h
 | x::r,o,h=>by
  rcases qsj (l:=r) h with h|h
  ·unfold qf1 at h
   split at h
   ·exact .inl h
   ·rcases zap.1 h with h|h
    ·exact .inl h
    ·exact .inr (by simp at h;simp[h])
  ·exact .inr (by simp[h])
theorem qka: ∀ {l o:List Int},(l.foldl qf1 o).length<=o.length+l.length
 | [],o=>by simp
 | x::r,o=>by
  have:=qka (l:=r) (o:=qf1 o x)
  have:=qzn o x
  simp only[zbf,zad]
  omega
theorem q05 {c:CV} {m:List CV} {y:CV} (hc:c=.slg 3 m) (h:qdk c=some y):evB qmt 1 20 m=true/\y=qcy 48 [] (evL qmt 1 20 m):=by
 subst hc
 replace h:(if evB qmt 1 20 m=true then some (qcy 48 [] (evL qmt 1 20 m)) else none)=some y:=h
 split at h
 ·rename_i hb;cases h;exact⟨hb,rfl⟩
 ·cases h
theorem xbk0 {c:CV} {d:Int} {t:List CV} {w:List Int} {y:CV} (hc:c=qv3 d t w) (h:qmt c=some y):qcv d t w=true/\y=qcy 48 [] (q6r d t w):=by
 subst hc
 replace h:(if qcv d t w=true then some (qcy 48 [] (q6r d t w)) else none)=some y:=h
 split at h
 ·rename_i hb;cases h;exact⟨hb,rfl⟩
 ·cases h
theorem qrx {c:List CV} (hc:qdh c) (h:evB qdk 1 10 c=true):(∀d∈qgg c,(qaw d).2.1=1)/\(qgg c).length<=200:=by
 obtain⟨_,hl,ha⟩:=qu3 h
 refine⟨fun d hd=> ?_, ?_⟩
 ·rcases qsj hd with h|h
  ·simp at h
  ·obtain⟨x,hx,hm⟩:=zbs.1 h
   obtain⟨m,rfl,hmm⟩:=hc.2 x hx
   obtain⟨y,hy⟩:=ha _ hx
   obtain⟨hb, -⟩:=q05 rfl hy
   obtain⟨z,hz,rfl⟩:=zbt.1 hm
   obtain⟨d,t,w,rfl, -, -⟩:=hmm.2 z hz
   obtain⟨u,hu⟩:=(qu3 hb).2.2 _ hz
   exact(qga.1 (xbk0 rfl hu).1).1
 ·have h1:(qgg c).length<=0+(c.flatMap fun c=>q9q (qbi c)).length:=qka
  have h2:(c.flatMap fun c=>q9q (qbi c)).length<=c.length*20:=q0e fun x hx=>by
   obtain⟨m,rfl,hmm⟩:=hc.2 x hx
   obtain⟨y,hy⟩:=ha _ hx
   have:=(qu3 (q05 rfl hy).1).2.1
   show(m.map mD).length<=20
   rw[zav]
   omega
  omega
theorem q7d {d:Int} (h:(qaw d).2.1=1):q8f d=some (q4y d)/\q4y d=qcy 48 [] [q48 (qaw d).2.2]:=by
 have e:=xbwq (g:=d) (b:=[]) (by omega) (by rw[h];rfl)
 rw[xbna] at e
 have e2:xbm5 (qaw d).2.1 []=[]:=by rw[h];rfl
 rw[e2] at e
 unfold q8f q4y
 rw[e]
 exact⟨if_pos rfl,rfl⟩
theorem xbyq {g:List Int} (h: ∀d∈g,(qaw d).2.1=1):evL q8f 0 (g.length:Int) g=g.map q4y:=by
 have hall: ∀ {l:List Int},(∀d∈l,(qaw d).2.1=1)->l.all (fun d=>(q8f d).isSome)=true/\l.filterMap q8f=l.map q4y:=fun {l}=>by
  induction l with
  | nil=>intro _;exact⟨rfl,rfl⟩
  | cons x r ih=>
   intro h
   have:=ih fun d hd=>h d (by simp[hd])
   have hx:=(q7d (h x (by simp))).1
   rw[zck,hx,this.1,zcw hx,this.2]
   exact⟨rfl,rfl⟩
 have e:evB q8f 0 (g.length:Int) g=true:=by unfold evB;rw[(hall h).1,decide_eq_true (by omega)];rfl
 rw[(q8a e).1,(hall h).2]
theorem qgz {g:List Int} {c:List CV}:q9r g c=true↔evB qdk 1 10 c=true/\g=qgg c:=by unfold q9r;rw[zab,decide_eq_true_eq]
theorem xbq5:Bk 35 2 (qcy 2 (vInt 1) []):=by rw[xb3n];exact q0l (by simp)
theorem xb4a {g:List Int} (h: ∀d∈g,(qaw d).2.1=1):(∀y∈g.map q4y, ∃z,y=.agg z/\isTf 34 z=true)/\((g.map q4y).map fun c=>qdr 34 (cell1 c)).sum<=13*g.length:=by
 induction g with
 | nil=>exact⟨by simp,by simp⟩
 | cons x r ih=>
  have hx:Bk 34 13 (q4y x):=by
   rw[(q7d (h x (by simp))).2]
   exact xbny (ql3 (S:=12) (b:=[]) (by simp) (qjq (S:=0) (xb7r x) xbby)) (by omega) (by simp)
  have:=qjq hx (ih fun d hd=>h d (by simp[hd]))
  refine⟨this.1, ?_⟩
  have:=this.2
  rw[zad,Nat.mul_succ]
  rw[zbi]
  omega
theorem xbi1 {g:List Int} {c:List CV} (hc:qdh c) (hn:qea c<=12100) (h:q9r g c=true):isS [.int .i64 48,.sli .u8 [],.slg 3 (q78 g c)]=true:=by
 obtain⟨hb,rfl⟩:=qgz.1 h
 obtain⟨hd,hl⟩:=qrx hc hb
 have hg:Bk 35 2601 (qcy 48 [] ((qgg c).map q4y)):=xbny (ql3 (b:=[]) (by simp) (xb4a hd)) (zar _) (by show 1+0+13*(qgg c).length<=2601;omega)
 exact xb0o (B:=1+0+(2+(2601+(14701+0)))) (ql3 (b:=[]) (by simp) (qjq xbq5 (qjq hg (qjq (q58 hc hn) xbby)))) (by omega)
theorem qq7 (g:List Int) (c:List CV):evOk g c=qyo g c:=by unfold evOk;rw[qab]
theorem xba7 {g:List Int} {c:List CV} (h:q9r g c=true):qyo g c=q1m [.int .i64 48,.sli .u8 [],.slg 3 (q78 g c)]:=by unfold qyo;rw[h,zbm]
theorem qvl {g:List Int} {c:List CV} (h:q9r g c=true):qfd g c=(48,q78 g c):=by unfold qfd;rw[qab,if_pos h]
theorem qqi {g:List Int} {c:List CV} (h: ¬q9r g c=true):qfd g c=(0,[])/\qyo g c=false:=by
 unfold qfd qyo
 rw[qab,if_neg h,zas.2 h]
 exact⟨rfl,rfl⟩
theorem st1:qz6 1=true:=by unfold qz6;exact decide_eq_true (by omega)
theorem xb71 (g:List Int) (c:List CV) (hp:(qdt g&&recO c)=true):xb7e g c=zR [.cl (.agg [.int .i64 (qfd g c).1,.sli .u8 qa0,.slg 3 (qfd g c).2]),.cl (.bool (evOk g c))] []:=by
 rw[zab] at hp
 obtain⟨hg,hr⟩:=hp
 obtain⟨hc,hn⟩:=qn1 hr
 have hco:=qhm hc
 unfold xb7e
 simp only[qbq,qde,qqe,qqn,qnh,q2j,qq7,qo1]
 have bad: ¬q9r g c=true->zR [.cl (.agg [.int .i64 0,.sli .u8 [],.slg 3 []]),.cl (.bool false)] []=zR [.cl (.agg [.int .i64 (qfd g c).1,.sli .u8 [],.slg 3 (qfd g c).2]),.cl (.bool (qyo g c))] []:=fun h=>by rw[(qqi h).1,(qqi h).2]
 refine qaj hco (qdl (fun h=>bad fun h'=>by rw[(qgz.1 h').1] at h;cases h) fun h=>qaj hco (qaj hg (qdl (fun h2=>bad fun h'=>by rw[qfz.2 (qgz.1 h').2] at h2;cases h2) fun h2=> ?_)))
 have h2:=qfz.1 h2
 have hm:q9r g c=true:=qgz.2 ⟨h,h2⟩
 obtain⟨hd,hl⟩:=qrx hc h
 rw[<- h2] at hd hl
 have hS:=xbi1 hc hn hm
 refine qaj (xbkw (by omega)) (qaj st1 ?_)
 rw[xbyq hd]
 refine qaj (qb4 (by simp)) (qaj hS ?_)
 rw[qvl hm,xba7 hm]
 rfl
theorem qy7 {c:List CV} (h:evB qdk 1 10 c=true):qj0 c=(48,evL qdk 1 10 c):=by unfold qj0;rw[qab,if_pos h]
theorem lpRR (K0:Nat->Int->List Int->List CV->List CV->Option Out) (g:List Int) (c:List CV) (x1:Int) (x2:List Int) (x3:List CV) (hl:g.length<=1000000):qmh K0 FUEL 0 0 g c x1 x2 x3 []=K0 g.length x1 x2 x3 (g.map q4y):=by
 refine(xb5w q4y g hl (fun n a j acc=>qmh K0 n a j g c x1 x2 x3 acc) (fun y=>K0 g.length x1 x2 x3 y) (fun n j acc x hj ha hxj=> ?_) (fun n acc=> ?_) FUEL 0 [] (za1 _) rfl (by unfold FUEL;omega)).trans rfl
 ·show qnz (qmh K0 n) K0 j j g c x1 x2 x3 acc=_
  unfold qnz
  simp only[qbq,q0u]
  refine qan (show(j:Int)<(g.length:Int) by omega) (qap (by omega) hxj (qaj (qfq (by simp)) ?_))
  exact q6y (w:=56) (y:=q4y x) (A:=fun a q acc=>qmh K0 n a q g c x1 x2 x3 acc) ha (by omega) (by omega)
 ·show qnz (qmh K0 n) K0 g.length g.length g c x1 x2 x3 acc=_
  unfold qnz
  exact qb2 (show ¬((g.length:Int)<(g.length:Int)) by omega) rfl
theorem xb8q (g:List Int) (c:List CV) (hp:(qdt g&&recO c)=true):xb7j g c=zR [.cl (.agg [.int .i64 (qfd g c).1,.sli .u8 qa0,.slg 3 (qfd g c).2]),.cl (.bool (evOk g c))] []:=by
 rw[zab] at hp
 obtain⟨hg,hr⟩:=hp
 obtain⟨hc,hn⟩:=qn1 hr
 have hco:=qhm hc
 unfold xb7j
 simp only[qbq,qde,qqn,qnh,qq7,qo1,qab]
 have bad: ¬q9r g c=true->zR [.cl (.agg [.int .i64 0,.sli .u8 [],.slg 3 []]),.cl (.bool false)] []=zR [.cl (.agg [.int .i64 (qfd g c).1,.sli .u8 [],.slg 3 (qfd g c).2]),.cl (.bool (qyo g c))] []:=fun h=>by rw[(qqi h).1,(qqi h).2]
 refine qaj hco (qdl (fun h=>bad fun h'=>by rw[(qgz.1 h').1] at h;cases h) fun h=>qaj hco (qaj hg (qdl (fun h2=>bad fun h'=>by rw[qfz.2 (qgz.1 h').2] at h2;cases h2) fun h2=> ?_)))
 have h2:=qfz.1 h2
 have hm:q9r g c=true:=qgz.2 ⟨h,h2⟩
 obtain⟨hd,hl⟩:=qrx hc h
 rw[<- h2] at hd hl
 have hS:=xbi1 hc hn hm
 rw[lpRR _ g c _ _ _ (by omega),qy7 h]
 refine qaj st1 (qaj (qb4 (by rw[zav];omega)) (qaj (qb4 (by simp)) (qaj hS ?_)))
 rw[qvl hm,xba7 hm]
 rfl
theorem xb5u (g:List Int) (c:List CV) (hp:(qdt g&&recO c)=true):xb5r g c=zB (evOk g c):=qaj hp rfl
theorem xb3f (g:List Int) (c:List CV) (hp:(qdt g&&recO c)=true):xb5f g c=zB (evOk g c):=qaj hp rfl
theorem xbhp {g:List Int} {c:List CV} (h:qyo g c=true):q9r g c=true:=by unfold qyo at h;rw[zab] at h;exact h.1
theorem qze (g:List Int) (c:List CV):qfe g c=qvy g c:=by unfold qfe;rw[qab]
theorem xbl3 (g:List Int) (c:List CV) (hp:(qdt g&&recO c)=true):(cond (qdt g&&recO c) (
  cond (!(evOk g c)) (zR [.cl (.sli .u8 []),.cl (.int .i64 1)] [])
  (cond (isS [.int .i64 (qfd g c).1,.sli .u8 qa0,.slg 3 (qfd g c).2]) (
   zR [.cl (.sli .u8 (qbm [.int .i64 (qfd g c).1,.sli .u8 qa0,.slg 3 (qfd g c).2]).1),.cl (.int .i64 (qbm [.int .i64 (qfd g c).1,.sli .u8 qa0,.slg 3 (qfd g c).2]).2)] []) none)) none)=zR [.cl (.sli .u8 (qfe g c).1),.cl (.int .i64 (qfe g c).2)] []:=by
 refine qaj hp ?_
 rw[zab] at hp
 obtain⟨hc,hn⟩:=qn1 hp.2
 rw[qbq,qq7,qze]
 unfold qvy
 refine qdl (fun h=> ?_) fun h=> ?_
 ·rw[h];rfl
 ·rw[if_pos h,qvl (xbhp h)]
  exact qaj (xbi1 hc hn (xbhp h)) rfl
theorem xbun (g:List Int) (c:List CV) (hp:(qdt g&&recO c)=true):xbtw g c=zR [.cl (.sli .u8 (qfe g c).1),.cl (.int .i64 (qfe g c).2)] []:=xbl3 g c hp
theorem xbt3 (g:List Int) (c:List CV) (hp:(qdt g&&recO c)=true):xbr9 g c=zR [.cl (.sli .u8 (qfe g c).1),.cl (.int .i64 (qfe g c).2)] []:=xbl3 g c hp
theorem qh5 {c:List CV} (h:qdh c) (n:Nat):qdh (c.take n):=⟨by have:=h.1;rw[zb8];omega,fun x hx=>h.2 x (zbc hx)⟩
theorem qwe {g:CV->Nat}: ∀(l:List CV) (n:Nat),((l.take n).map g).sum<=(l.map g).sum
 | [],n=>by simp
 | x::r,0=>by simp
 | x::r,n+1=>by
  have:=qwe (g:=g) r n
  simp only[zb6,zbi,zb7]
  omega
theorem q4w (g:List Int) (c:List CV) (n:Int):q2d g c n=xbgf g c n:=by unfold q2d;rw[qab]
theorem xb3b {c:List CV} {n:Int} (h:evB qdk 1 10 c=true) (h1: ¬n<1) (h2: ¬(c.length:Int)<n):evB qdk 1 10 (c.take n.toNat)=true:=by
 obtain⟨_,h4,h5⟩:=qu3 h
 unfold evB
 rw[zab,decide_eq_true_eq,zaj,zb8,Nat.min_eq_left (by omega)]
 exact⟨by omega,fun x hx=>za2.2 (h5 x (zbc hx))⟩
theorem xb4t (g:List Int) (c:List CV) (n:Int) (hp:(qdt g&&recO c)=true):xbwv g c n=zR [.cl (.sli .u8 (q2d g c n).1),.cl (.int .i64 (q2d g c n).2)] []:=by
 unfold xbwv
 refine qaj hp ?_
 rw[zab] at hp
 obtain⟨hc,hn⟩:=qn1 hp.2
 simp only[qbq,qq7,q4w,qqe]
 unfold xbgf
 refine qdl (fun h=> ?_) fun h=>qae (fun h1=> ?_) fun h1=>qae (fun h2=> ?_) fun h2=>qan (by omega) (qan (by omega) (qaj (qhm (qh5 hc _)) (qaj (qs1 (qh5 hc _) (by have:qea (c.take n.toNat)<=qea c:=qwe _ _;omega)) ?_)))
 ·rw[if_pos h]
 ·rw[if_neg (by rw[h];simp),if_pos (Or.inl h1)]
 ·rw[if_neg (by rw[h];simp),if_pos (Or.inr h2)]
 ·rw[if_neg (by rw[h];simp),if_neg (by rintro(h'| h');exact h1 h';exact h2 h')]
theorem xb41 (g:List Int) (c:List CV) (n:Int) (hp:(qdt g&&recO c)=true):xb2s g c n=zR [.cl (.sli .u8 (q2d g c n).1),.cl (.int .i64 (q2d g c n).2)] []:=by
 unfold xb2s
 refine qaj hp ?_
 rw[zab] at hp
 obtain⟨hc,hn⟩:=qn1 hp.2
 simp only[qbq,qq7,q4w]
 unfold xbgf
 refine qdl (fun h=> ?_) fun h=>qae (fun h1=> ?_) fun h1=>qae (fun h2=> ?_) fun h2=>qan (by omega) (qan (by omega) (qaj (qhm (qh5 hc _)) ?_))
 ·rw[if_pos h]
 ·rw[if_neg (by rw[h];simp),if_pos (Or.inl h1)]
 ·rw[if_neg (by rw[h];simp),if_pos (Or.inr h2)]
 ·rw[qy7 (xb3b (qgz.1 (xbhp h)).1 h1 h2)]
  refine qaj (qs1 (qh5 hc _) (by have:qea (c.take n.toNat)<=qea c:=qwe _ _;omega)) ?_
  rw[if_neg (by rw[h];simp),if_neg (by rintro(h'| h');exact h1 h';exact h2 h')]
open IntWalk (i64_in u8_in u32_in u64_in i64_quo u8_quo rem_in)
def Lg (c:CV) (L:Nat):Prop:= ∃n d y,c=.agg y/\isTf n y=true/\okF n d y=true/\(qak n y).1.length<=L
theorem xbl9 (t n:Int):2<=(qci t n).length:=by unfold qci;(repeat' split)<;>simp
theorem qwg {n d:Nat} {t:Int} {b:List Int} {k:List CV} (h:okF (n+1) (d+1) [.int .i64 t,.sli .u8 b,.slg 3 k]=true):(qaq t=true/\b=[]/\∀c∈k,okF n d (cell1 c)=true)\/(¬qaq t=true/\k=[]):=by
 replace h:(qbf t&&(if qaq t=true then decide (b=[])&&k.all fun c=>okF n d (cell1 c) else decide (k=[])&&qbk t b))=true:=h
 rw[zab] at h
 have h:=h.2
 split at h
 ·rename_i hb
  rw[zab,decide_eq_true_eq,zaj] at h
  exact .inl ⟨hb,h.1,h.2⟩
 ·rename_i hb
  rw[zab,decide_eq_true_eq] at h
  exact .inr ⟨hb,h.1⟩
theorem q5s {α:Type} {g:α->List Int}: ∀ {l:List α},((l.map g).flatten).length=(l.map fun c=>(g c).length).sum
 | []=>rfl
 | x::r=>by simp only[zbi,zc1,zag,zb7,q5s (l:=r)]
theorem xbzd {n d:Nat} {t:Int} {b:List Int} {k:List CV} (h:okF (n+1) (d+1) [.int .i64 t,.sli .u8 b,.slg 3 k]=true):2+b.length+(k.map fun c=>(qak n (cell1 c)).1.length).sum<=(qak (n+1) [.int .i64 t,.sli .u8 b,.slg 3 k]).1.length:=by
 show _<=(if qaq t=true then(qci t _++((k.map fun c=>qak n (cell1 c)).map (·.1)).flatten,_) else(qci t b.length++b,true):List Int×Bool).1.length
 rcases qwg h with⟨hb,rfl,_⟩|⟨hb,rfl⟩
 ·rw[if_pos hb]
  have e:((k.map fun c=>qak n (cell1 c)).map (·.1)).flatten=(k.map fun c=>(qak n (cell1 c)).1).flatten:=by rw[zc6];rfl
  simp only[e,zag,q5s,zcb]
  have:=xbl9 t (((k.map fun c=>(qak n (cell1 c)).1.length).sum:Nat):Int)
  omega
 ·rw[if_neg hb]
  simp only[zag,List.map_nil,List.sum_nil]
  have:=xbl9 t (b.length:Int)
  omega
theorem xbb3: ∀ {n d:Nat} {y:List CV},isTf n y=true->okF n d y=true->qdr n y<=(qak n y).1.length
 | n,0,y,h,ho=>by
  obtain⟨m,t,b,k,rfl,rfl,_,_⟩:=qds h
  cases ho
 | n,d+1,y,h,ho=>by
  obtain⟨m,t,b,k,rfl,rfl,_,hk⟩:=qds h
  have h1:=xbzd ho
  have h2:(k.map fun c=>qdr m (cell1 c)).sum<=(k.map fun c=>(qak m (cell1 c)).1.length).sum:=by
   rcases qwg ho with⟨_,_,ha⟩|⟨_,rfl⟩
   ·have: ∀l:List CV,(∀c∈l,qdr m (cell1 c)<=(qak m (cell1 c)).1.length)->(l.map fun c=>qdr m (cell1 c)).sum<=(l.map fun c=>(qak m (cell1 c)).1.length).sum:=fun l=>by
     induction l with
     | nil=>intro _;simp
     | cons x r ih=>
      intro h
      have:=ih fun c hc=>h c (by simp[hc])
      have:=h x (by simp)
      simp only[zbi,zb7]
      omega
    refine this k fun c hc=> ?_
    obtain⟨y,rfl,hy⟩:=hk c hc
    exact xbb3 hy (ha _ hc)
   ·simp
  show 1+b.length+(k.map fun c=>qdr m (cell1 c)).sum<=_
  omega
theorem q6c {t:Int} {b:List Int} {k:List CV} {L:Nat} (h:Lg (qcy t b k) L): ∃g:CV->Nat,(∀c∈k,Lg c (g c))/\2+b.length+(k.map g).sum<=L/\∀x∈b,0<=x/\x<=255:=by
 obtain⟨n,d,y,e,h1,h2,h3⟩:=h
 cases e
 obtain⟨m,t',b',k',rfl,e,hb,hk⟩:=qds h1
 simp only[zct,CV.int.injEq,CV.sli.injEq,CV.slg.injEq,and_true,true_and] at e
 obtain⟨rfl,rfl,rfl⟩:=e
 cases d with
 | zero=>cases h2
 | succ d=>
  refine⟨fun c=>(qak m (cell1 c)).1.length,fun c hc=> ?_,by have:=xbzd h2;omega,hb⟩
  obtain⟨y,rfl,hy⟩:=hk c hc
  rcases qwg h2 with⟨_,_,ha⟩|⟨_,rfl⟩
  ·exact⟨m,d,y,rfl,hy,ha _ hc,zar _⟩
  ·simp at hc
theorem xbk4 {c:CV} {L:Nat} (h:Lg c L): ∃t b k,c=qcy t b k:=by
 obtain⟨n,d,y,rfl,h1,_⟩:=h
 obtain⟨m,t,b,k,rfl,rfl,_⟩:=qds h1
 exact⟨t,b,k,rfl⟩
theorem xbjf {t:Int} {b:List Int} {k:List CV} {L:Nat} (h:Lg (qcy t b k) L) (hL:L<=30000):isS [.int .i64 t,.sli .u8 b,.slg 3 k]=true:=by
 obtain⟨n,d,y,e,h1,h2,h3⟩:=h
 cases e
 have:=xbb3 h1 h2
 exact xbfa h1 (by omega)
theorem xbx1 {β:Type} {f:CV->Option β} {sz:β->Nat} {g:CV->Nat}: ∀ {l:List CV},(∀c∈l, ∀y,f c=some y->sz y<=g c)->((l.filterMap f).map sz).sum<=(l.map g).sum
 | [],_=>by simp
 | x::r,h=>by
  have ih:=xbx1 (l:=r) fun c hc=>h c (by simp[hc])
  cases hx:f x with
  | none=>
   rw[List.filterMap_cons_none hx]
   simp only[zbi,zb7]
   omega
  | some y=>
   rw[zcw hx]
   have:=h x (by simp) y hx
   simp only[zbi,zb7]
   omega
theorem q2n {g:CV->Nat} {l:List CV} {c:CV} (h:c∈l):g c<=(l.map g).sum:=xbb2 (List.mem_map_of_mem h)
theorem qqz {β:Type} {f:CV->Option β} {sz:β->Nat} {Q:β->Prop} {g t:Int} {b:List Int} {k:List CV} {L:Nat} (hL:L<=6000) (h:Lg (qcy t b k) L) (hf: ∀c L',L'<=6000->Lg c L'->∀y,f c=some y->sz y<=L'/\Q y):((qdw f g t b k).map sz).sum+2<=L/\∀y∈qdw f g t b k,Q y:=by
 obtain⟨gz,h1,h2,_⟩:=q6c h
 unfold qdw
 split
 ·rename_i hb
  have hk:(qb8 g t b k).1=k:=by
   unfold qhu at hb
   rw[zab,decide_eq_true_eq] at hb
   exact qmp hb.1
  rw[hk]
  have hs: ∀c∈k,gz c<=6000:=fun c hc=>by have:=q2n (g:=gz) hc;omega
  have:=xbx1 (sz:=sz) (g:=gz) (f:=f) (l:=k) fun c hc y hy=>(hf c _ (hs c hc) (h1 c hc) y hy).1
  refine⟨by omega,fun y hy=> ?_⟩
  obtain⟨c,hc,hy⟩:=List.mem_filterMap.1 hy
  exact(hf c _ (hs c hc) (h1 c hc) y hy).2
 ·exact⟨by simp;omega,fun y hy=>by simp at hy⟩
theorem qmz {β:Type} {sz:β->Nat}: ∀ {l:List β},(∀y,1<=sz y)->l.length<=(l.map sz).sum
 | [],_=>by simp
 | x::r,h=>by
  have:=qmz (l:=r) h
  have:=h x
  simp only[zad,zbi,zb7]
  omega
theorem qod {b:List Int} (h:b.length<=6000) (hb: ∀x∈b,0<=x/\x<=255):qad b=true:=qc5 (by omega) hb
theorem xb4z {c:CV} {L:Nat} (hL:L<=6000) (h:Lg c L) (y:CV) (hy:qu2 c=some y):1+(qby y).length<=L/\∃b,y=.sli .u8 b/\qad b=true:=by
 obtain⟨t,b,k,rfl⟩:=xbk4 h
 obtain⟨g,_,h2,hb⟩:=q6c h
 replace hy:(if(qbb t b k).2=0 then some (CV.sli .u8 (qbb t b k).1) else none)=some y:=hy
 split at hy
 ·rename_i h0
  cases hy
  rw[(xbjy h0).2.2]
  exact⟨by show 1+b.length<=L;omega,b,rfl,qod (by omega) hb⟩
 ·cases hy
theorem xbu5 {g t:Int} {b:List Int} {k:List CV} {L:Nat} (hL:L<=6000) (h:Lg (qcy t b k) L):q1n (qdw qu2 g t b k)+2<=L/\xbhz (qdw qu2 g t b k):=by
 have:=qqz (sz:=fun c=>1+(qby c).length) (Q:=fun y=> ∃b,y=.sli .u8 b/\qad b=true) (g:=g) hL h fun c L' hL' hc y hy=>xb4z hL' hc y hy
 refine⟨this.1, ?_,this.2⟩
 have:=qmz (l:=qdw qu2 g t b k) (sz:=fun c=>1+(qby c).length) fun y=>by omega
 omega
theorem xb1l {c:CV} {L:Nat} (hL:L<=6000) (h:Lg c L) (y:CV) (hy:qd5 c=some y):1+q1n (qbi y)<=L/\∃l,y=.slg 1 l/\xbhz l:=by
 obtain⟨t,b,k,rfl⟩:=xbk4 h
 replace hy:(if qhu qu2 48 t b k=true then some (CV.slg 1 (qdw qu2 48 t b k)) else none)=some y:=hy
 have:=xbu5 (g:=48) hL h
 split at hy
 ·cases hy
  exact⟨by show 1+q1n (qdw qu2 48 t b k)<=L;omega,_,rfl,this.2⟩
 ·cases hy
theorem xbyk {g t:Int} {b:List Int} {k:List CV} {L:Nat} (hL:L<=6000) (h:Lg (qcy t b k) L):qt8 (qdw qd5 g t b k)+2<=L/\xble (qdw qd5 g t b k):=by
 have:=qqz (sz:=fun c=>1+q1n (qbi c)) (Q:=fun y=> ∃l,y=.slg 1 l/\xbhz l) (g:=g) hL h fun c L' hL' hc y hy=>xb1l hL' hc y hy
 refine⟨this.1, ?_,this.2⟩
 have:=qmz (l:=qdw qd5 g t b k) (sz:=fun c=>1+q1n (qbi c)) fun y=>by omega
 omega
theorem xbz3 {c:CV} {L:Nat} (hL:L<=6000) (h:Lg c L):(q9f c).1.length<=L/\qad (q9f c).1=true:=by
 obtain⟨t,b,k,rfl⟩:=xbk4 h
 obtain⟨n,d,y,e,h1,h2,h3⟩:=h
 cases e
 have e:q9f (qcy t b k)=qbm [.int .i64 t,.sli .u8 b,.slg 3 k]:=rfl
 rw[e]
 have hb:=xbb3 h1 h2
 rw[qie h1]
 split
 ·exact⟨h3,qod (by show(qak n _).1.length<=6000;omega) (qsc h1 (by omega) h2)⟩
 ·exact⟨za1 _,qod (by simp) (by simp)⟩
theorem xbwt {c:CV} {L:Nat} (hL:L<=6000) (h:Lg c L) (y:CV) (hy:qve c=some y):2+(mW y).length+qt8 (mT y)<=L/\isMk y:=by
 obtain⟨t,b,k,rfl⟩:=xbk4 h
 obtain⟨gz,h1,h2,_⟩:=q6c h
 have hs: ∀c∈k,gz c<=6000:=fun c hc=>by have:=q2n (g:=gz) hc;omega
 replace hy:(if(qgp t b k).2.2.2=true then some (qv3 (qgp t b k).1 (qgp t b k).2.1 (qgp t b k).2.2.1) else none)=some y:=hy
 split at hy
 ·rename_i hm
  cases hy
  unfold qgp at hm ⊢
  split at hm
  ·cases hm
  ·rename_i h0
   have h0:(qb8 48 t b k).2=0:=Classical.not_not.1 h0
   rw[if_neg (fun h=>h h0)]
   rw[qmp h0] at hm ⊢
   by_cases hl:(k.length:Int)<2\/3<(k.length:Int)
   ·unfold qvb at hm
    rw[if_pos hl] at hm
    cases hm
   ·by_cases h3:k.length=3
    ·obtain⟨x,y,z,rfl⟩:=len3 h3
     have hy:=h1 y (by simp)
     have hz:=h1 z (by simp)
     have hsum:2+b.length+(gz x+(gz y+(gz z+0)))<=L:=h2
     obtain⟨t2,b2,k2,rfl⟩:=xbk4 hy
     have ht:=xbyk (g:=162) (hs _ (by simp)) hy
     have hk:=xbz3 (hs _ (by simp)) hz
     rw[xbg3]
     exact⟨by show 2+(q9f z).1.length+qt8 (qdw qd5 162 t2 b2 k2)<=L;omega,_,_,_,rfl,ht.2,hk.2⟩
    ·obtain⟨x,y,rfl⟩:=len2 (show k.length=2 by omega)
     have hy:=h1 y (by simp)
     have hsum:2+b.length+(gz x+(gz y+0))<=L:=h2
     have hk:=xbz3 (hs _ (by simp)) hy
     rw[xbgz]
     exact⟨by show 2+(q9f y).1.length+0<=L;omega,_,_,_,rfl,⟨by simp,by simp⟩,hk.2⟩
 ·cases hy
theorem xbro {g t:Int} {b:List Int} {k:List CV} {L:Nat} (hL:L<=6000) (h:Lg (qcy t b k) L):qgu (qdw qve g t b k)+2<=L/\qp9 (qdw qve g t b k):=by
 have:=qqz (sz:=fun c=>2+(mW c).length+qt8 (mT c)) (Q:=isMk) (g:=g) hL h fun c L' hL' hc y hy=>xbwt hL' hc y hy
 refine⟨this.1, ?_,this.2⟩
 have:=qmz (l:=qdw qve g t b k) (sz:=fun c=>2+(mW c).length+qt8 (mT c)) fun y=>by omega
 omega
theorem xbsk {c:CV} {L:Nat} (hL:L<=6000) (h:Lg c L) (y:CV) (hy:qey c=some y):1+qgu (qbi y)<=L/\∃m,y=.slg 3 m/\qp9 m:=by
 obtain⟨t,b,k,rfl⟩:=xbk4 h
 replace hy:(if qhu qve 48 t b k=true then some (CV.slg 3 (qdw qve 48 t b k)) else none)=some y:=hy
 have:=xbro (g:=48) hL h
 split at hy
 ·cases hy
  exact⟨by show 1+qgu (qdw qve 48 t b k)<=L;omega,_,rfl,this.2⟩
 ·cases hy
theorem xbkv {g t:Int} {b:List Int} {k:List CV} {L:Nat} (hL:L<=6000) (h:Lg (qcy t b k) L):recO (qdw qey g t b k)=true:=by
 have:=qqz (sz:=fun c=>1+qgu (qbi c)) (Q:=fun y=> ∃m,y=.slg 3 m/\qp9 m) (g:=g) hL h fun c L' hL' hc y hy=>xbsk hL' hc y hy
 have h2:=qmz (l:=qdw qey g t b k) (sz:=fun c=>1+qgu (qbi c)) fun y=>by omega
 exact xbd7 ⟨⟨by omega,this.2⟩,by show((qdw qey g t b k).map fun c=>1+qgu (qbi c)).sum<=12100;omega⟩
theorem xbr6 {b:List Int} (hb:qad b=true) (h:(qba b).2=0):Lg (qcy (qba b).1.1 (qba b).1.2.1 (qba b).1.2.2) b.length:=by
 rw[q1f] at h ⊢
 by_cases hz:(qar 32 b).1=0
 ·rw[if_pos hz] at h ⊢
  by_cases hlt:(qar 32 b).2.2<b.length
  ·rw[if_pos hlt] at h;exact absurd h (by decide: ¬(7:Int)=0)
  ·rw[if_neg hlt]
   obtain⟨⟨h1,h2,h3,h4⟩,h5⟩:=qph 32 b hb hz
   exact⟨32,32,ndL (qar 32 b).2.1,rfl,h1,h2,by rw[h5,zb8];omega⟩
 ·rw[if_neg hz] at h;exact absurd h hz
theorem xb4m (x y z:CV):xbai [x,y,z]=(qdw algV 48 (nT y) (nB y) (nK y),qdw qey 48 (nT z) (nB z) (nK z),(decide ((qdo (nT x) (nB x) (nK x)).2=0)&&decide ((qdo (nT x) (nB x) (nK x)).1=1))&&(qhu algV 48 (nT y) (nB y) (nK y)&&qhu qey 48 (nT z) (nB z) (nK z))):=rfl
theorem xbos {b:List Int} (h:b6k b=true):b.length<=6000:=by unfold b6k at h;rw[qab] at h;exact of_decide_eq_true h
theorem qz9 (b:List Int):qnu b=qe9 b:=by unfold qnu;rw[qab]
theorem xbig {β:Type} {f:CV->Option β} {g t:Int} {b:List Int} {k:List CV}:(qdw f g t b k).length<=k.length:=by
 unfold qdw
 split
 ·rename_i hb
  unfold qhu at hb
  rw[zab,decide_eq_true_eq] at hb
  rw[qmp hb.1]
  exact List.length_filterMap_le ..
 ·exact za1 _
theorem xb0r (b:List Int) (hp:(qad b&&b6k b)=true):xbms b=zR [.cl (.agg [.sli .i64 (qnu b).1,.slg 1 (qnu b).2.1]),.cl (.int .i64 (qnu b).2.2)] []:=by
 rw[zab] at hp
 obtain⟨hb,hl⟩:=hp
 have hl:=xbos hl
 unfold xbms
 simp only[xbws,xb0b,xby4,xbx3,qq7,qz9]
 refine qaj hb (qas (fun h=> ?_) fun h=> ?_)
 ·unfold qe9;rw[if_pos h]
 have hLg:=xbr6 hb h
 generalize hn:(qba b).1=n at*
 obtain⟨t,cb,k⟩:=n
 replace hLg:Lg (qcy t cb k) b.length:=hLg
 dsimp only
 have hS:=xbjf hLg (by omega)
 have hC:qe9 b=if(qb8 48 t cb k).2=0/\(xbai (qb8 48 t cb k).1).2.2=true/\qyo (xbai (qb8 48 t cb k).1).1 (xbai (qb8 48 t cb k).1).2.1=true then((xbai (qb8 48 t cb k).1).1,(xbai (qb8 48 t cb k).1).2.1,0) else([],[],1):=by
  unfold qe9
  rw[if_neg (fun h'=>h' h),hn]
 have bad: ¬((qb8 48 t cb k).2=0/\(xbai (qb8 48 t cb k).1).2.2=true/\qyo (xbai (qb8 48 t cb k).1).1 (xbai (qb8 48 t cb k).1).2.1=true)->zR [.cl (.agg [.sli .i64 [],.slg 1 []]),.cl (.int .i64 1)] []=zR [.cl (.agg [.sli .i64 (qe9 b).1,.slg 1 (qe9 b).2.1]),.cl (.int .i64 (qe9 b).2.2)] []:=fun h=>by rw[hC,if_neg h]
 obtain⟨gz,h1,h2,_⟩:=q6c hLg
 have hs: ∀c∈k,gz c<=6000:=fun c hc=>by have:=q2n (g:=gz) hc;omega
 refine qaj (qb4 (by have:=(qhe hS).2;show k.length<=_;omega)) (qas (fun h3=>bad fun h'=>h3 h'.1) fun h3=>qas (fun h4=>bad fun h'=> ?_) fun h4=> ?_)
 ·have h5:=h'.2.1
  unfold xbai at h5
  rw[if_pos h4] at h5
  cases h5
 have h3:(qb8 48 t cb k).2=0:=h3
 have hk:=qmp h3
 have h4:(((qb8 48 t cb k).1.length:Nat):Int)=3:=h4
 rw[hk] at h4 bad hC
 obtain⟨x,y,z,rfl⟩:=len3 (show k.length=3 by omega)
 have hx:=h1 x (by simp)
 have hy:=h1 y (by simp)
 have hz:=h1 z (by simp)
 obtain⟨t1,b1,k1,rfl⟩:=xbk4 hx
 obtain⟨t2,b2,k2,rfl⟩:=xbk4 hy
 obtain⟨t3,b3,k3,rfl⟩:=xbk4 hz
 rw[xb4m] at bad hC
 rw[hk]
 have S1:=xbjf hx (by have:=hs _ (show qcy t1 b1 k1∈[qcy t1 b1 k1,qcy t2 b2 k2,qcy t3 b3 k3] by simp);omega)
 have S2:=xbjf hy (by have:=hs _ (show qcy t2 b2 k2∈[qcy t1 b1 k1,qcy t2 b2 k2,qcy t3 b3 k3] by simp);omega)
 have S3:=xbjf hz (by have:=hs _ (show qcy t3 b3 k3∈[qcy t1 b1 k1,qcy t2 b2 k2,qcy t3 b3 k3] by simp);omega)
 have R3:recO (qdw qey 48 t3 b3 k3)=true:=xbkv (hs _ (by simp)) hz
 have bad2: ¬(((qdo t1 b1 k1).2=0/\(qdo t1 b1 k1).1=1)/\qhu algV 48 t2 b2 k2=true/\qhu qey 48 t3 b3 k3=true/\qyo (qdw algV 48 t2 b2 k2) (qdw qey 48 t3 b3 k3)=true)->zR [.cl (.agg [.sli .i64 [],.slg 1 []]),.cl (.int .i64 1)] []=zR [.cl (.agg [.sli .i64 (qe9 b).1,.slg 1 (qe9 b).2.1]),.cl (.int .i64 (qe9 b).2.2)] []:=fun h=>bad fun h'=>h (by
  obtain⟨_,h5,h6⟩:=h'
  simp only[zab,decide_eq_true_eq] at h5
  exact⟨h5.1,h5.2.1,h5.2.2,h6⟩)
 refine qan (by simp) (xb2z (x:=qcy t1 b1 k1) rfl (qaj rfl (qaj S1 (qan (by simp) (xb2z (x:=qcy t2 b2 k2) rfl (qaj rfl (qaj S2 (qan (by simp) (xb2z (x:=qcy t3 b3 k3) rfl (qaj rfl (qaj S3 ?_)))))))))))
 refine qas (fun h5=>bad2 fun h'=>h5 h'.1.1) fun h5=>qas (fun h6=>bad2 fun h'=>h6 h'.1.2) fun h6=>qdl (fun h7=>bad2 fun h'=> ?_) fun h7=>qdl (fun h8=>bad2 fun h'=> ?_) fun h8=>qaj ?_ (qdl (fun h9=>bad2 fun h'=> ?_) fun h9=> ?_)
 ·have h7:qhu algV 48 t2 b2 k2=false:=h7
  rw[h'.2.1] at h7;cases h7
 ·have h8:qhu qey 48 t3 b3 k3=false:=h8
  rw[h'.2.2.1] at h8;cases h8
 ·show(qdt (qdw algV 48 t2 b2 k2)&&recO (qdw qey 48 t3 b3 k3))=true
  rw[R3,qxd (by have:=@xbig _ algV 48 t2 b2 k2;have:=(qhe S2).2;omega)]
  rfl
 ·have h9:qyo (qdw algV 48 t2 b2 k2) (qdw qey 48 t3 b3 k3)=false:=h9
  rw[h'.2.2.2] at h9;cases h9
 ·have h5:(qdo t1 b1 k1).2=0:=h5
  have h6:(qdo t1 b1 k1).1=1:=h6
  have h7:qhu algV 48 t2 b2 k2=true:=h7
  have h8:qhu qey 48 t3 b3 k3=true:=h8
  have h9:qyo (qdw algV 48 t2 b2 k2) (qdw qey 48 t3 b3 k3)=true:=h9
  rw[hC,if_pos]
  refine⟨h3, ?_,h9⟩
  show((decide ((qdo t1 b1 k1).2=0)&&decide ((qdo t1 b1 k1).1=1))&&(qhu algV 48 t2 b2 k2&&qhu qey 48 t3 b3 k3))=true
  rw[decide_eq_true h5,decide_eq_true h6,h7,h8]
  rfl
open IntWalk (i64_in u8_in u32_in u64_in i64_quo u8_quo rem_in)
theorem xba1 {B:Bool} {a b:Option Out}:cond (!B) a b=cond B b a:=by cases B<;>rfl
theorem xb2y {p:Prop} (h: ¬p):pD p=false:=zas.2 fun h'=>h (qfz.1 h')
theorem qhj {p q:Prop} (h:p↔q):pD p=pD q:=by rw[propext h]
theorem qf6 (a b:List Int):qbl a b=pD (a=b):=by rw[xbqv,xbt1]
theorem qk9 (a b:List CV):qe7 a b=pD (a=b):=by unfold qe7;rw[qab]
theorem qh4 (a b:List CV):qhc a b=pD (a=b):=by unfold qhc;rw[qab]
theorem qs0 (a b:List CV):qf3 a b=pD (a=b):=by unfold qf3;rw[qab]
theorem qpp (a b:List CV):qkc a b=pD (a=b):=by unfold qkc;rw[qab]
theorem q7l (d:Int) (t:List CV) (w:List Int) (e:Int) (u:List CV) (x:List Int):q86 d t w e u x=pD (d=e/\t=u/\w=x):=by unfold q86;rw[qab]
theorem qvn (g:List Int) (c:List CV) (h:List Int) (e:List CV):qxs g c h e=pD (g=h/\c=e):=by unfold qxs;rw[qab]
theorem eq_g {a b:List CV} {X:Option Out} (hX:a.length=b.length->X=cond (pD (a=b)) (zB true) (zB false)):
  cond (!decide ((a.length:Int)=(b.length:Int))) (zB false) X=zB (pD (a=b)):=by
 refine qas (fun h=>by rw[xb20 h]) fun h=> ?_
 rw[hX (by omega)]
 cases pD (a=b)<;>rfl
theorem xb12 (a b:List Int) (hp:qcc a=true):xby8 a b=zB (qbl a b):=qaj hp rfl
theorem xbza (a b:List CV) (hp:(qjw a&&qjw b)=true):xblv a b=zB (qe7 a b):=by
 rw[zab] at hp
 obtain⟨⟨ha,ha'⟩,⟨hb,hb'⟩⟩:=And.intro (qh7 hp.1) (qh7 hp.2)
 unfold xblv
 rw[qk9]
 refine eq_g fun hl=> ?_
 rw[qab]
 refine(xbae a b hl (fun n i=>qna _ _ n b a (a.length:Int) i) _ (zB false) (fun n i x y hx hy hi=> ?_) (fun n=>qb2 (show ¬(a.length:Int)<(a.length:Int) by omega) rfl) FUEL 0 (za1 _) (by unfold FUEL;omega)).trans rfl
 have e2:IntKind.i64.wrap ((i:Int)+1)=((i+1:Nat):Int):=i64_in _ (by omega)
 obtain⟨p,rfl,hp⟩:=ha' _ (zac hx)
 obtain⟨q,rfl,hq⟩:=hb' _ (zac hy)
 refine qan (by omega) (qap (by omega) hx (qaj rfl (qap (by omega) hy (qaj rfl (qaj (qex hp) ?_)))))
 show cond (!qbl p q) _ (qna _ _ n b a (a.length:Int) (IntKind.i64.wrap ((i:Int)+1)))=_
 rw[e2,xba1,qf6,qhj (show p=q↔CV.sli .u8 p=CV.sli .u8 q by simp)]
theorem xby5 (a b:List CV) (hp:(qjw a&&qjw b)=true):xbvz a b=zB (qe7 a b):=qaj hp rfl
theorem xb2t (a b:List CV) (hp:(qjr a&&qjr b)=true):xblu a b=zB (qhc a b):=by
 rw[zab] at hp
 obtain⟨⟨ha,ha'⟩,⟨hb,hb'⟩⟩:=And.intro (qgt hp.1) (qgt hp.2)
 unfold xblu
 rw[qh4]
 refine eq_g fun hl=> ?_
 rw[qab]
 refine(xbae a b hl (fun n i=>qnw _ _ n b a (a.length:Int) i) _ (zB false) (fun n i x y hx hy hi=> ?_) (fun n=>qb2 (show ¬(a.length:Int)<(a.length:Int) by omega) rfl) FUEL 0 (za1 _) (by unfold FUEL;omega)).trans rfl
 have e2:IntKind.i64.wrap ((i:Int)+1)=((i+1:Nat):Int):=i64_in _ (by omega)
 obtain⟨p,rfl,hp⟩:=ha' _ (zac hx)
 obtain⟨q,rfl,hq⟩:=hb' _ (zac hy)
 refine qan (by omega) (qap (by omega) hx (qaj rfl (qap (by omega) hy (qaj rfl (qaj (by show(qjw p&&qjw q)=true;rw[qrq hp,qrq hq];rfl) ?_)))))
 show cond (!qe7 p q) _ (qnw _ _ n b a (a.length:Int) (IntKind.i64.wrap ((i:Int)+1)))=_
 rw[e2,xba1,qk9,qhj (show p=q↔CV.slg 1 p=CV.slg 1 q by simp)]
theorem xbo6 (d:Int) (t:List CV) (w:List Int) (e:Int) (u:List CV) (x:List Int) (hp:((qjr t&&qcc w)&&qjr u)=true):xbbd d t w e u x=zB (q86 d t w e u x):=by
 simp only[zab] at hp
 unfold xbbd
 rw[q7l]
 simp only[qh4,qf6]
 refine qae (fun h=>qaj (by rw[hp.1.1,hp.2];rfl) (qch (fun h2=>qaj hp.1.2 ?_) fun h2=> ?_)) fun h=> ?_
 ·rw[qhj (show(d=e/\t=u/\w=x)↔w=x from⟨fun h'=>h'.2.2,fun h'=>⟨h,qfz.1 h2,h'⟩⟩)]
 ·rw[xb2y (fun h':d=e/\t=u/\w=x=>by rw[qfz.2 h'.2.1] at h2;cases h2)]
 ·rw[xb2y (fun h':d=e/\t=u/\w=x=>h h'.1)]
theorem xbuk (a b:List CV) (hp:(qe6 a&&qe6 b)=true):xbcv a b=zB (qf3 a b):=by
 rw[zab] at hp
 obtain⟨⟨ha,ha'⟩,⟨hb,hb'⟩⟩:=And.intro (qlf hp.1) (qlf hp.2)
 unfold xbcv
 rw[qs0]
 refine eq_g fun hl=> ?_
 rw[qab]
 refine(xbae a b hl (fun n i=>qlg _ _ n b a (a.length:Int) i) _ (zB false) (fun n i x y hx hy hi=> ?_) (fun n=>qb2 (show ¬(a.length:Int)<(a.length:Int) by omega) rfl) FUEL 0 (za1 _) (by unfold FUEL;omega)).trans rfl
 have e2:IntKind.i64.wrap ((i:Int)+1)=((i+1:Nat):Int):=i64_in _ (by omega)
 obtain⟨d,t,w,rfl,ht,hw⟩:=ha' _ (zac hx)
 obtain⟨d2,t2,w2,rfl,ht2,hw2⟩:=hb' _ (zac hy)
 refine qan (by omega) (qap (by omega) hx (qaj rfl (qap (by omega) hy (qaj rfl (qaj (by show((qjr t&&qcc w)&&qjr t2)=true;rw[qou ht,qou ht2,qex hw];rfl) ?_)))))
 show cond (!q86 d t w d2 t2 w2) _ (qlg _ _ n b a (a.length:Int) (IntKind.i64.wrap ((i:Int)+1)))=_
 rw[e2,xba1,q7l,qhj (show(d=d2/\t=t2/\w=w2)↔qv3 d t w=qv3 d2 t2 w2 by simp[qv3])]
theorem xbwd (a b:List CV) (hp:(qe6 a&&qe6 b)=true):xbze a b=zB (qf3 a b):=qaj hp rfl
theorem xbj2 (a b:List CV) (hp:(qa9 a&&qa9 b)=true):q5m a b=zB (qkc a b):=by
 rw[zab] at hp
 obtain⟨⟨ha,ha'⟩,⟨hb,hb'⟩⟩:=And.intro (qca hp.1) (qca hp.2)
 unfold q5m
 rw[qpp]
 refine eq_g fun hl=> ?_
 rw[qab]
 refine(xbae a b hl (fun n i=>qiy _ _ n b a (a.length:Int) i) _ (zB false) (fun n i x y hx hy hi=> ?_) (fun n=>qb2 (show ¬(a.length:Int)<(a.length:Int) by omega) rfl) FUEL 0 (za1 _) (by unfold FUEL;omega)).trans rfl
 have e2:IntKind.i64.wrap ((i:Int)+1)=((i+1:Nat):Int):=i64_in _ (by omega)
 obtain⟨p,rfl,hp⟩:=ha' _ (zac hx)
 obtain⟨q,rfl,hq⟩:=hb' _ (zac hy)
 refine qan (by omega) (qap (by omega) hx (qaj rfl (qap (by omega) hy (qaj rfl (qaj (by show(qe6 p&&qe6 q)=true;rw[qyu hp,qyu hq];rfl) ?_)))))
 show cond (!qf3 p q) _ (qiy _ _ n b a (a.length:Int) (IntKind.i64.wrap ((i:Int)+1)))=_
 rw[e2,xba1,qs0,qhj (show p=q↔CV.slg 3 p=CV.slg 3 q by simp)]
theorem xb48 (g:List Int) (c:List CV) (h:List Int) (e:List CV) (hp:(qdt g&&(qa9 c&&qa9 e))=true):xb1e g c h e=zB (qxs g c h e):=by
 rw[zab] at hp
 unfold xb1e
 rw[qvn,qo1]
 simp only[qpp]
 refine qaj hp.1 (qch (fun h2=>qaj hp.2 ?_) fun h2=> ?_)
 ·rw[qhj (show(g=h/\c=e)↔c=e from⟨fun h'=>h'.2,fun h'=>⟨qfz.1 h2,h'⟩⟩)]
 ·rw[xb2y (fun h':g=h/\c=e=>by rw[qfz.2 h'.1] at h2;cases h2)]
theorem qwc: ∀a:List Int,qbo a a=0
 | []=>rfl
 | x::a=>by unfold qbo;rw[if_neg (by omega),if_neg (by omega)];exact qwc a
theorem xbnd: ∀a b:List Int, ¬qbo a b<0-> ¬qbo b a<0->a=b
 | [],[],_,_=>rfl
 | [],y::b,h,_=>absurd (by simp[qbo]) h
 | x::a,[],_,h=>absurd (by simp[qbo]) h
 | x::a,y::b,h1,h2=>by
  unfold qbo at h1 h2
  by_cases hxy:x<y
  ·rw[if_pos hxy] at h1;omega
  ·by_cases hyx:y<x
   ·rw[if_pos hyx] at h2;omega
   ·rw[if_neg hxy,if_neg hyx] at h1
    rw[if_neg hyx,if_neg hxy] at h2
    rw[show x=y by omega,xbnd a b h1 h2]
theorem xbce (a b:List Int):qec a b=decide (qbo a b<0):=by unfold qec;rw[qab]
theorem xbya (a b:List CV) (hp:(qjw a&&qjw b)=true):xbnh a b=zB (qe7 a b):=by
 rw[zab] at hp
 obtain⟨⟨ha,ha'⟩,⟨hb,hb'⟩⟩:=And.intro (qh7 hp.1) (qh7 hp.2)
 unfold xbnh
 rw[qk9]
 refine eq_g fun hl=> ?_
 rw[qab]
 refine(xbae a b hl (fun n i=>qm6 _ _ n a b i) _ (zB false) (fun n i x y hx hy hi=> ?_) (fun n=>qb2 (show ¬(a.length:Int)<(a.length:Int) by omega) rfl) FUEL 0 (za1 _) (by unfold FUEL;omega)).trans rfl
 have e2:IntKind.i64.wrap ((i:Int)+1)=((i+1:Nat):Int):=i64_in _ (by omega)
 obtain⟨p,rfl,hp⟩:=ha' _ (zac hx)
 obtain⟨q,rfl,hq⟩:=hb' _ (zac hy)
 rw[qhj (show CV.sli .u8 p=CV.sli .u8 q↔p=q by simp)]
 have no: ¬p=q->pD (p=q)=false:=fun h=>zas.2 fun h'=>h (qfz.1 h')
 refine qan (by omega) (qap (by omega) hx (qaj rfl (qap (by omega) hy (qaj rfl (qaj (qex hp) (qch (fun h=> ?_) fun h=>qap (by omega) hy (qaj rfl (qap (by omega) hx (qaj rfl (qaj (qex hq) (qch (fun h2=> ?_) fun h2=> ?_)))))))))))
 ·have h:qec p q=true:=h
  rw[xbce,decide_eq_true_eq] at h
  rw[no fun he=>by rw[he,qwc] at h;omega]
  rfl
 ·have h2:qec q p=true:=h2
  rw[xbce,decide_eq_true_eq] at h2
  rw[no fun he=>by rw[he,qwc] at h2;omega]
  rfl
 ·have h:qec p q=false:=h
  have h2:qec q p=false:=h2
  rw[xbce,decide_eq_false_iff_not] at h h2
  rw[qfz.2 (xbnd p q h h2)]
  show qm6 _ _ n a b (IntKind.i64.wrap ((i:Int)+1))=_
  rw[e2]
  rfl
theorem xbqi (a b:List CV) (hp:(qjr a&&qjr b)=true):xbb6 a b=zB (qhc a b):=by
 rw[zab] at hp
 obtain⟨⟨ha,ha'⟩,⟨hb,hb'⟩⟩:=And.intro (qgt hp.1) (qgt hp.2)
 unfold xbb6
 rw[qh4]
 refine eq_g fun hl=> ?_
 rw[qab]
 refine(xbae a b hl (fun n i=>qkz _ _ n a b i) _ (zB false) (fun n i x y hx hy hi=> ?_) (fun n=>qb2 (show ¬(a.length:Int)<(a.length:Int) by omega) rfl) FUEL 0 (za1 _) (by unfold FUEL;omega)).trans rfl
 have e2:IntKind.i64.wrap ((i:Int)+1)=((i+1:Nat):Int):=i64_in _ (by omega)
 obtain⟨p,rfl,hp⟩:=ha' _ (zac hx)
 obtain⟨q,rfl,hq⟩:=hb' _ (zac hy)
 refine qan (by omega) (qap (by omega) hx (qaj rfl (qap (by omega) hy (qaj rfl (qaj (by show(qjw p&&qjw q)=true;rw[qrq hp,qrq hq];rfl) ?_)))))
 show cond (!qe7 p q) _ (qkz _ _ n a b (IntKind.i64.wrap ((i:Int)+1)))=_
 rw[e2,xba1,qk9,qhj (show p=q↔CV.slg 1 p=CV.slg 1 q by simp)]
theorem lpS9 (K0:Option Out) (K1:Int->List Int->List CV->List Int->List CV->Option Out) (i:Nat) (g h:List Int) (c e p q:List CV) (hx:c[i]? =some (.slg 3 p)) (hy:e[i]? =some (.slg 3 q)) (hp:qp9 p) (hq:qp9 q) (hl:p.length=q.length):
  qgl K0 K1 FUEL i 0 g c h e=cond (pD (p=q)) (K1 i g c h e) K0:=by
 refine(xbae p q hl (fun n j=>qgl K0 K1 n i j g c h e) _ K0 (fun n j x y hxj hyj hj=> ?_) (fun n=> ?_) FUEL 0 (za1 _) (by have:=hp.1;unfold FUEL;omega)).trans rfl
 rotate_left
 ·show qid (qgl K0 K1 n) K0 K1 i p.length g c h e=_
  unfold qid
  exact qap (by omega) hx (qaj rfl (qb2 (show ¬(p.length:Int)<(p.length:Int) by omega) rfl))
 have hp1:=hp.1
 have e2:IntKind.i64.wrap ((j:Int)+1)=((j+1:Nat):Int):=i64_in _ (by omega)
 obtain⟨d,t,w,rfl,ht,hw⟩:=hp.2 _ (zac hxj)
 obtain⟨d2,t2,w2,rfl,ht2,hw2⟩:=hq.2 _ (zac hyj)
 have no: ¬(d=d2/\t=t2/\w=w2)->pD (qv3 d t w=qv3 d2 t2 w2)=false:=fun h=>zas.2 fun h'=>h (by have:=qfz.1 h';simpa [qv3] using this)
 show qid (qgl K0 K1 n) K0 K1 i j g c h e=_
 unfold qid
 refine qap (by omega) hx (qaj rfl (qan (show(j:Int)<(p.length:Int) by omega) (qap (by omega) hx (qaj rfl (qap (by omega) hxj (qaj rfl (qap (by omega) hy (qaj rfl (qap (by omega) hyj (qaj rfl (qas (fun h1=> ?_) fun h1=>qaj (by show(qjr t&&qjr t2)=true;rw[qou ht,qou ht2];rfl) (qdl (fun h2=> ?_) fun h2=>qaj (qex hw) (qdl (fun h3=> ?_) fun h3=> ?_)))))))))))))
 ·rw[no fun h'=>h1 h'.1];rfl
 ·have h2:qhc t t2=false:=h2
  rw[no fun h'=>by rw[qh4,qfz.2 h'.2.1] at h2;cases h2];rfl
 ·have h3:qbl w w2=false:=h3
  rw[no fun h'=>by rw[qf6,qfz.2 h'.2.2] at h3;cases h3];rfl
 ·have h1:d=d2:=h1
  have h2:qhc t t2=true:=h2
  have h3:qbl w w2=true:=h3
  rw[qh4] at h2
  rw[qf6] at h3
  rw[qfz.2 (show qv3 d t w=qv3 d2 t2 w2 by rw[h1,qfz.1 h2,qfz.1 h3])]
  show qgl K0 K1 n i (IntKind.i64.wrap ((j:Int)+1)) g c h e=_
  rw[e2]
  rfl
theorem lpS4 (K0 K1:Option Out) (g h:List Int) (c e:List CV) (hc:qdh c) (he:qdh e) (hl:c.length=e.length):qh9 K0 K1 FUEL 0 g c h e=cond (pD (c=e)) K1 K0:=by
 refine(xbae c e hl (fun n j=>qh9 K0 K1 n j g c h e) _ K0 (fun n j x y hxj hyj hj=> ?_) (fun n=>qb2 (show ¬(c.length:Int)<(c.length:Int) by omega) rfl) FUEL 0 (za1 _) (by have:=hc.1;unfold FUEL;omega)).trans rfl
 have hc1:=hc.1
 have e2:IntKind.i64.wrap ((j:Int)+1)=((j+1:Nat):Int):=i64_in _ (by omega)
 obtain⟨p,rfl,hp⟩:=hc.2 _ (zac hxj)
 obtain⟨q,rfl,hq⟩:=he.2 _ (zac hyj)
 rw[qhj (show CV.slg 3 p=CV.slg 3 q↔p=q by simp)]
 show qoq (qh9 K0 K1 n) K0 K1 j g c h e=_
 unfold qoq
 simp only[qab]
 refine qan (by omega) (qap (by omega) hxj (qaj rfl (qap (by omega) hyj (qaj rfl (qas (fun h1=> ?_) fun h1=> ?_)))))
 ·have h1: ¬(p.length:Int)=(q.length:Int):=h1
  rw[xb20 h1];rfl
 ·have h1:(p.length:Int)=(q.length:Int):=h1
  rw[lpS9 _ _ j g h c e p q hxj hyj hp hq (by omega)]
  show cond (pD (p=q)) (qh9 K0 K1 n (IntKind.i64.wrap ((j:Int)+1)) g c h e) K0=_
  rw[e2]
theorem xbuz (g:List Int) (c:List CV) (h:List Int) (e:List CV) (hp:(qdt g&&(qa9 c&&qa9 e))=true):xboa g c h e=zB (qxs g c h e):=by
 simp only[zab] at hp
 unfold xboa
 rw[qvn,qo1]
 refine qaj hp.1 (qdl (fun h2=> ?_) fun h2=> ?_)
 ·rw[xb2y (fun h':g=h/\c=e=>by rw[qfz.2 h'.1] at h2;cases h2)]
 ·rw[qhj (show(g=h/\c=e)↔c=e from⟨fun h'=>h'.2,fun h'=>⟨qfz.1 h2,h'⟩⟩)]
  refine eq_g fun hl=> ?_
  rw[qab]
  exact lpS4 _ _ g h c e (qca hp.2.1) (qca hp.2.2) hl
theorem xbxu (F:CV->Int->Int) (l:List CV) (L:Nat->Int->Int->Option Out) (fin:Int->Option Out) (hF: ∀c∈l, ∀x,0<=x->x<=30000->F c x<=x - 1)
  (hstep: ∀(n i:Nat) (x:Int) (c:CV),l[i]? =some c->i<l.length->i<=30000->0<=x->x<=30000->L (n+1) i x=L n ((i+1:Nat):Int) (F c x))
  (hneg: ∀(n i:Nat) (x:Int),i<l.length->x<0->L (n+1) i x=fin x) (hend: ∀(n:Nat) (x:Int),L (n+1) (l.length:Int) x=fin x):
  ∀(fuel i:Nat) (x:Int),i<=l.length->(i:Int)+x<=30000->30003<fuel+i->i<=30002->L fuel (i:Int) x=fin (qpx F (l.drop i) x)
 | 0,i,x,hi,hx,hf,hb=>by omega
 | fuel+1,i,x,hi,hx,hf,hb=>by
  rcases zby i l.length with h|h
  ·obtain⟨c,hc⟩: ∃c,l[i]? =some c:=⟨_,zaf h⟩
   rw[qh0 hc]
   by_cases h0:x<0
   ·rw[hneg fuel i x h h0]
    show fin x=fin (if x<0 then x else _)
    rw[if_pos h0]
   ·have:=hF c (zac hc) x (by omega) (by omega)
    rw[hstep fuel i x c hc h (by omega) (by omega) (by omega),xbxu F l L fin hF hstep hneg hend fuel (i+1) (F c x) h (by omega) (by omega) (by omega)]
    show _=fin (if x<0 then x else _)
    rw[if_neg h0]
  ·obtain rfl:i=l.length:=by omega
   rw[hend,zdi]
   rfl
theorem xb24 {F:CV->Int->Int}: ∀ {l:List CV} {x:Int},(∀c∈l, ∀x,0<=x->x<=30000-> -2000000<=F c x/\F c x<=x - 1)-> -2000000<=x->x<=30000-> -2000000<=qpx F l x/\qpx F l x<=x
 | [],x,_,h1,h2=>⟨h1,Int.le_refl _⟩
 | c::r,x,h,h1,h2=>by
  show -2000000<=(if x<0 then x else qpx F r (F c x))/\(if x<0 then x else qpx F r (F c x))<=x
  split
  ·exact⟨h1,Int.le_refl _⟩
  ·have hc:=h c (by simp) x (by omega) h2
   have:=xb24 (l:=r) (fun c hc=>h c (by simp[hc])) hc.1 (by omega)
   exact⟨this.1,by omega⟩
theorem xbbl {F:CV->Int->Int} {sz:CV->Nat}: ∀ {l:List CV} {x:Int},(∀c∈l, ∀x,x<=30000->0<=F c x->F c x=x - sz c)->(∀c∈l, ∀x,0<=x->x<=30000->F c x<=x - 1)->x<=30000->0<=qpx F l x->qpx F l x=x - (l.map sz).sum
 | [],x,_,_,_,_=>by show x=x - 0;omega
 | c::r,x,h,hF,hx,h0=>by
  replace h0:0<=(if x<0 then x else qpx F r (F c x)):=h0
  show(if x<0 then x else qpx F r (F c x))=_
  split at h0
  ·omega
  ·rename_i hx0
   rw[if_neg hx0]
   have h1:=hF c (by simp) x (by omega) hx
   have ih:=xbbl (l:=r) (x:=F c x) (fun c hc=>h c (by simp[hc])) (fun c hc=>hF c (by simp[hc])) (by omega) h0
   have hz:0<=F c x:=by
    rcases r with _|⟨a,r'⟩
    ·exact h0
    ·replace h0:0<=(if F c x<0 then F c x else qpx F r' (F a (F c x))):=h0
     split at h0<;>omega
   rw[ih,h c (by simp) x hx hz]
   simp only[zbi,zb7]
   omega
theorem xbs0 (c:CV) (x:Int) (h0:0<=x) (h1:x<=30000): -2000000<=rowS c x/\rowS c x<=x - 1:=by unfold rowS;omega
theorem xbb8 (c:CV) (x:Int) (h0:0<=x) (h1:x<=30000): -2000000<=xbag c x/\xbag c x<=x - 1:=by
 unfold xbag
 have:=xb24 (l:=qbi c) (x:=x - 1) (fun c _ x=>xbs0 c x) (by omega) (by omega)
 exact this
theorem xbem (c:CV) (x:Int) (h0:0<=x) (h1:x<=30000): -2000000<=xbad c x/\xbad c x<=x - 1:=by
 unfold xbad
 have:=xb24 (l:=mT c) (x:=x - 2 - min ((mW c).length:Int) 1048576) (fun c _ x=>xbb8 c x) (by omega) (by omega)
 omega
theorem xbgt (c:CV) (x:Int) (h0:0<=x) (h1:x<=30000): -2000000<=qyp c x/\qyp c x<=x - 1:=by
 unfold qyp
 have:=xb24 (l:=qbi c) (x:=x - 1) (fun c _ x=>xbem c x) (by omega) (by omega)
 exact this
open IntWalk (i64_in u8_in u32_in u64_in i64_quo u8_quo rem_in)
theorem xbdk {n:Int} (h:q4n n=true):0<=n/\n<=30000:=by unfold q4n at h;rw[qab] at h;exact of_decide_eq_true h
theorem xbqn {n:Int} (h:0<=n/\n<=30000):q4n n=true:=by unfold q4n;rw[qab];exact decide_eq_true h
theorem q2t (n:Nat) (m:Int):cond (decide (m<(n:Int))) m (n:Int)=min (n:Int) m:=by
 by_cases h:m<(n:Int)
 ·rw[decide_eq_true h,cond_true];omega
 ·rw[decide_eq_false h,cond_false];omega
theorem xb8p (K0:Int->Int->Int->Int->List Int->List CV->Int->List CV->List Int->Option Out) (y1 y2:Int) (k:Nat) (g:List Int) (c:List CV) (d:Int) (t:List CV) (w:List Int) (row:List CV) (ht:t[k]? =some (.slg 1 row)) (hr:xb21 row) (x:Int) (h1: -2000000<=x) (h2:x<=30000):
  qc7 K0 FUEL x y1 y2 k 0 g c d t w=K0 (qpx rowS row x) y1 y2 k g c d t w:=by
 refine(xbxu rowS row (fun n i x=>qc7 K0 n x y1 y2 k i g c d t w) (fun x=>K0 x y1 y2 k g c d t w) (fun c _ x h0 h1=>(xbs0 c x h0 h1).2) (fun n i x z hz hi hi2 h0 h3=> ?_) (fun n i x hi h0=> ?_) (fun n x=> ?_) FUEL 0 x (za1 _) (by omega) (by unfold FUEL;omega) (by omega)).trans rfl
 ·obtain⟨b,rfl,hb⟩:=hr _ (zac hz)
  show qcz (qc7 K0 n) K0 x y1 y2 k i g c d t w=_
  unfold qcz
  simp only[q2t]
  refine qap (by omega) ht (qaj rfl (qan (show(i:Int)<(row.length:Int) by omega) (qan h0 (qap (by omega) ht (qaj rfl (qap (by omega) hz (qaj rfl ?_)))))))
  show qc7 K0 n (IntKind.i64.wrap (IntKind.i64.wrap (x - 1) - min (b.length:Int) 1048576)) y1 y2 k (IntKind.i64.wrap ((i:Int)+1)) g c d t w=_
  rw[i64_in (x - 1) (by omega),i64_in (x - 1 - min (b.length:Int) 1048576) (by omega),i64_in ((i:Int)+1) (by omega)]
  rfl
 ·show qcz (qc7 K0 n) K0 x y1 y2 k i g c d t w=_
  unfold qcz
  exact qap (by omega) ht (qaj rfl (qan (show(i:Int)<(row.length:Int) by omega) (qb2 (by omega) rfl)))
 ·show qcz (qc7 K0 n) K0 x y1 y2 k row.length g c d t w=_
  unfold qcz
  exact qap (by omega) ht (qaj rfl (qb2 (show ¬(row.length:Int)<(row.length:Int) by omega) rfl))
theorem xb8j (K0:Int->Int->Int->List Int->List CV->Option Out) (y1 y2:Int) (g:List Int) (c:List CV) (d:Int) (t:List CV) (w:List Int) (ht:xb26 t) (x:Int) (h1: -2000000<=x) (h2:x<=30000):
  qco K0 FUEL x y1 y2 0 g c d t w=K0 (qpx xbag t x) y1 y2 g c:=by
 refine(xbxu xbag t (fun n i x=>qco K0 n x y1 y2 i g c d t w) (fun x=>K0 x y1 y2 g c) (fun c _ x h0 h1=>(xbb8 c x h0 h1).2) (fun n i x z hz hi hi2 h0 h3=> ?_) (fun n i x hi h0=> ?_) (fun n x=> ?_) FUEL 0 x (za1 _) (by omega) (by unfold FUEL;omega) (by omega)).trans rfl
 ·obtain⟨row,rfl,hr⟩:=ht _ (zac hz)
  show qc0 (qco K0 n) K0 x y1 y2 i g c d t w=_
  unfold qc0
  simp only[qab]
  rw[i64_in (x - 1) (by omega),xb8p _ y1 y2 i g c d t w row hz hr (x - 1) (by omega) (by omega)]
  refine qan (show(i:Int)<(t.length:Int) by omega) (qan h0 ?_)
  show qco K0 n (qpx rowS row (x - 1)) y1 y2 (IntKind.i64.wrap ((i:Int)+1)) g c d t w=_
  rw[i64_in ((i:Int)+1) (by omega)]
  rfl
 ·show qc0 (qco K0 n) K0 x y1 y2 i g c d t w=_
  unfold qc0
  exact qan (show(i:Int)<(t.length:Int) by omega) (qb2 (by omega) rfl)
 ·show qc0 (qco K0 n) K0 x y1 y2 t.length g c d t w=_
  unfold qc0
  exact qb2 (show ¬(t.length:Int)<(t.length:Int) by omega) rfl
theorem lpS7 (K0:Int->Int->List Int->List CV->Option Out) (k:Nat) (g:List Int) (c m:List CV) (hm:c[k]? =some (.slg 3 m)) (hmm:xbh4 m) (x:Int) (h1: -2000000<=x) (h2:x<=30000):
  qd9 K0 FUEL x k 0 g c=K0 (qpx xbad m x) k g c:=by
 refine(xbxu xbad m (fun n i x=>qd9 K0 n x k i g c) (fun x=>K0 x k g c) (fun c _ x h0 h1=>(xbem c x h0 h1).2) (fun n i x z hz hi hi2 h0 h3=> ?_) (fun n i x hi h0=> ?_) (fun n x=> ?_) FUEL 0 x (za1 _) (by omega) (by unfold FUEL;omega) (by omega)).trans rfl
 ·obtain⟨d,t,w,rfl,ht,hw⟩:=hmm _ (zac hz)
  show qdv (qd9 K0 n) K0 x k i g c=_
  unfold qdv
  simp only[q2t,qab]
  refine qap (by omega) hm (qaj rfl (qan (show(i:Int)<(m.length:Int) by omega) (qan h0 (qap (by omega) hm (qaj rfl (qap (by omega) hz (qaj rfl ?_)))))))
  show qco (fun y20 y21 y22 y23 y24=>qd9 K0 n y20 y21 (IntKind.i64.wrap (y22+1)) y23 y24) FUEL (IntKind.i64.wrap (IntKind.i64.wrap (x - 2) - min (w.length:Int) 1048576)) k i 0 g c d t w=_
  rw[i64_in (x - 2) (by omega),i64_in (x - 2 - min (w.length:Int) 1048576) (by omega),xb8j _ k i g c d t w ht _ (by omega) (by omega),i64_in ((i:Int)+1) (by omega)]
  rfl
 ·show qdv (qd9 K0 n) K0 x k i g c=_
  unfold qdv
  exact qap (by omega) hm (qaj rfl (qan (show(i:Int)<(m.length:Int) by omega) (qb2 (by omega) rfl)))
 ·show qdv (qd9 K0 n) K0 x k m.length g c=_
  unfold qdv
  exact qap (by omega) hm (qaj rfl (qb2 (show ¬(m.length:Int)<(m.length:Int) by omega) rfl))
theorem lpS3 (K0:Int->Option Out) (g:List Int) (c:List CV) (hc:qtl c) (x:Int) (h1: -2000000<=x) (h2:x<=30000):qeb K0 FUEL x 0 g c=K0 (qpx qyp c x):=by
 refine(xbxu qyp c (fun n i x=>qeb K0 n x i g c) (fun x=>K0 x) (fun c _ x h0 h1=>(xbgt c x h0 h1).2) (fun n i x z hz hi hi2 h0 h3=> ?_) (fun n i x hi h0=> ?_) (fun n x=> ?_) FUEL 0 x (za1 _) (by omega) (by unfold FUEL;omega) (by omega)).trans rfl
 ·obtain⟨m,rfl,hm⟩:=hc _ (zac hz)
  show qdu (qeb K0 n) K0 x i g c=_
  unfold qdu
  simp only[qab]
  rw[i64_in (x - 1) (by omega),lpS7 _ i g c m hz hm (x - 1) (by omega) (by omega)]
  refine qan (show(i:Int)<(c.length:Int) by omega) (qan h0 ?_)
  show qeb K0 n (qpx xbad m (x - 1)) (IntKind.i64.wrap ((i:Int)+1)) g c=_
  rw[i64_in ((i:Int)+1) (by omega)]
  rfl
 ·show qdu (qeb K0 n) K0 x i g c=_
  unfold qdu
  exact qan (show(i:Int)<(c.length:Int) by omega) (qb2 (by omega) rfl)
 ·show qdu (qeb K0 n) K0 x c.length g c=_
  unfold qdu
  exact qb2 (show ¬(c.length:Int)<(c.length:Int) by omega) rfl
theorem qw5 {g:List Int} {l:List CV} (h:recT g l=true):g.length<=1000000000000000/\l.length<=1000000000000000/\qtl l:=by unfold recT at h;rw[qab] at h;exact @of_decide_eq_true _ (Classical.propDecidable _) h
theorem xb2h {g:List Int} {l:List CV} (h:g.length<=1000000000000000/\l.length<=1000000000000000/\qtl l):recT g l=true:=by unfold recT;rw[qab];exact @decide_eq_true _ (Classical.propDecidable _) h
theorem q0z (g:List Int) (c:List CV) (n:Int):qpt g c n=qpx qyp c (n - min (g.length:Int) 1000):=by unfold qpt;rw[qab]
theorem xbtf (g:List Int) (c:List CV) (n:Int) (hp:(recT g c&&q4n n)=true):xbek g c n=zI (qpt g c n):=by
 rw[zab] at hp
 obtain⟨_,_,hc⟩:=qw5 hp.1
 have hn:=xbdk hp.2
 unfold xbek
 rw[q0z]
 simp only[q2t,qab]
 rw[i64_in (n - min (g.length:Int) 1000) (by omega)]
 exact lpS3 _ g c hc _ (by omega) (by omega)
theorem xber (g:List Int) (c:List CV):xbuj g c=(c.all (fun x=>decide ((qbi x).length<=25))&&(decide (c.length<=12)&&decide (0<=qpt g c 6000))):=by unfold xbuj;rw[qab]
theorem xbwf (K0:Option Out) (K1:List Int->List CV->Option Out) (g:List Int) (c:List CV) (hl:c.length<=1000000000000000) (hc:qtl c): ∀(fuel i:Nat),i<=c.length->c.length<fuel+i->qjy K0 K1 fuel c (c.length:Int) i g c=cond ((c.drop i).all fun x=>decide ((qbi x).length<=25)) (K1 g c) K0
 | 0,i,hi,hf=>by omega
 | fuel+1,i,hi,hf=>by
  show qo8 (qjy K0 K1 fuel) K0 K1 c (c.length:Int) i g c=_
  unfold qo8
  rcases zby i c.length with h|h
  ·obtain⟨x,hx⟩: ∃x,c[i]? =some x:=⟨_,zaf h⟩
   obtain⟨m,rfl,hm⟩:=hc _ (zac hx)
   rw[qh0 hx,zck]
   refine qan (by omega) (qap (by omega) hx (qaj rfl (qae (fun h1=> ?_) fun h1=> ?_)))
   ·have h1:(25:Int)<(m.length:Int):=h1
    rw[decide_eq_false (show ¬(qbi (.slg 3 m)).length<=25 by show ¬m.length<=25;omega)]
    rfl
   ·have h1: ¬(25:Int)<(m.length:Int):=h1
    rw[decide_eq_true (show(qbi (.slg 3 m)).length<=25 by show m.length<=25;omega),zbm]
    show qjy K0 K1 fuel c (c.length:Int) (IntKind.i64.wrap ((i:Int)+1)) g c=_
    rw[i64_in ((i:Int)+1) (by omega)]
    exact xbwf K0 K1 g c hl hc fuel (i+1) h (by omega)
  ·obtain rfl:i=c.length:=by omega
   rw[zdi]
   exact qb2 (by omega) rfl
theorem xbuy (g:List Int) (c:List CV) (hp:recT g c=true):xbl1 g c=zB (xbuj g c):=by
 obtain⟨_,hl,hc⟩:=qw5 hp
 unfold xbl1
 rw[qab,xber]
 refine(xbwf _ _ g c hl hc FUEL 0 (za1 _) (by unfold FUEL;omega)).trans ?_
 rw[zbn]
 refine qch (fun h=> ?_) fun h=> ?_
 ·rw[h]
  refine qae (fun h2=>qaj (by rw[hp,xbqn (by omega)];rfl) ?_) fun h2=> ?_
  ·rw[decide_eq_true (show c.length<=12 by omega)];rfl
  ·rw[decide_eq_false (show ¬c.length<=12 by omega)];rfl
 ·rw[h];rfl
theorem xbuq {c:CV} (hc: ∃l,c=.slg 1 l/\xb21 l) (x:Int) (hx:x<=30000) (h:0<=xbag c x):xbag c x=x - (1+q1n (qbi c):Nat):=by
 unfold xbag at h ⊢
 rw[xbbl (sz:=fun c=>1+(qby c).length) (fun c _ x hx h=>by unfold rowS at h ⊢;omega) (fun c _ x h0 h1=>(xbs0 c x h0 h1).2) (by omega) h]
 have:q1n (qbi c)=((qbi c).map fun c=>1+(qby c).length).sum:=rfl
 omega
theorem xbs8 {c:CV} (x:Int) (hx:x<=30000) (hc: ∃d t w,c=qv3 d t w/\xb26 t/\∀x∈w,0<=x/\x<=255) (h:0<=xbad c x):xbad c x=x - (2+(mW c).length+qt8 (mT c):Nat):=by
 obtain⟨d,t,w,rfl,ht, -⟩:=hc
 replace h:0<=qpx xbag t (x - 2 - min (w.length:Int) 1048576):=h
 show qpx xbag t (x - 2 - min (w.length:Int) 1048576)=x - ((2+w.length+qt8 t:Nat):Int)
 have e:qt8 t=(t.map fun c=>1+q1n (qbi c)).sum:=rfl
 have hs:=xbbl (sz:=fun c=>1+q1n (qbi c)) (F:=xbag) (l:=t) (fun c hc x hx h=>xbuq (ht c hc) x hx h) (fun c _ x h0 h1=>(xbb8 c x h0 h1).2) (by omega) h
 omega
theorem xbka {c:CV} (hc: ∃m,c=.slg 3 m/\xbh4 m) (x:Int) (hx:x<=30000) (h:0<=qyp c x):qyp c x=x - (1+qgu (qbi c):Nat):=by
 obtain⟨m,rfl,hm⟩:=hc
 replace h:0<=qpx xbad m (x - 1):=h
 show qpx xbad m (x - 1)=x - ((1+qgu m:Nat):Int)
 have hs:=xbbl (sz:=fun c=>2+(mW c).length+qt8 (mT c)) (F:=xbad) (l:=m) (fun c hc x hx h=>xbs8 x hx (hm c hc) h) (fun c _ x h0 h1=>(xbem c x h0 h1).2) (by omega) h
 have:qgu m=(m.map fun c=>2+(mW c).length+qt8 (mT c)).sum:=rfl
 omega
theorem xbhv {g:List Int} {c:List CV} (hc:qtl c) (h:0<=qpt g c 6000):qea c<=6000:=by
 rw[q0z] at h
 have:=xbbl (sz:=fun c=>1+qgu (qbi c)) (fun c' hc' x hx h=>xbka (hc c' hc') x hx h) (fun c _ x h0 h1=>(xbgt c x h0 h1).2) (by omega) h
 have e:qea c=(c.map fun c=>1+qgu (qbi c)).sum:=rfl
 omega
theorem xbh9 {c:List CV} (hc:qtl c) (h:qea c<=6000):qdh c:=by
 have hl:=qmz (l:=c) (sz:=fun c=>1+qgu (qbi c)) fun y=>by omega
 have e:qea c=(c.map fun c=>1+qgu (qbi c)).sum:=rfl
 refine⟨by omega,fun x hx=> ?_⟩
 obtain⟨m,rfl,hm⟩:=hc x hx
 have h1:=q2n (g:=fun c=>1+qgu (qbi c)) hx
 have h1:1+qgu m<=_:=h1
 have e2:qgu m=(m.map fun c=>2+(mW c).length+qt8 (mT c)).sum:=rfl
 have hl2:=qmz (l:=m) (sz:=fun c=>2+(mW c).length+qt8 (mT c)) fun y=>by omega
 refine⟨m,rfl,by omega,fun y hy=> ?_⟩
 obtain⟨d,t,w,rfl,ht,hw⟩:=hm y hy
 have h3:=q2n (g:=fun c=>2+(mW c).length+qt8 (mT c)) hy
 have h3:2+w.length+qt8 t<=_:=h3
 have e3:qt8 t=(t.map fun c=>1+q1n (qbi c)).sum:=rfl
 have hl3:=qmz (l:=t) (sz:=fun c=>1+q1n (qbi c)) fun y=>by omega
 refine⟨d,t,w,rfl,⟨by omega,fun z hz=> ?_⟩,qc5 (by omega) hw⟩
 obtain⟨l,rfl,hr⟩:=ht z hz
 have h4:=q2n (g:=fun c=>1+q1n (qbi c)) hz
 have h4:1+q1n l<=_:=h4
 have e4:q1n l=(l.map fun c=>1+(qby c).length).sum:=rfl
 have hl4:=qmz (l:=l) (sz:=fun c=>1+(qby c).length) fun y=>by omega
 refine⟨l,rfl,by omega,fun u hu=> ?_⟩
 obtain⟨b,rfl,hb⟩:=hr u hu
 have h5:=q2n (g:=fun c=>1+(qby c).length) hu
 have h5:1+b.length<=_:=h5
 exact⟨b,rfl,qc5 (by omega) hb⟩
theorem xbnq {g:List Int} {c:List CV} (h:recT g c=true) (hf:xbuj g c=true):qdt g=true/\qdh c/\qea c<=6000:=by
 obtain⟨h1,h2,h3⟩:=qw5 h
 rw[xber] at hf
 simp only[zab,decide_eq_true_eq] at hf
 have:=xbhv h3 hf.2.2
 exact⟨qxd h1,xbh9 h3 this,this⟩
theorem q7p:(qba []).2=1:=by unfold qba;rw[qab];rfl
theorem xbxr:(qdt []&&recO [])=true:=by rw[xbd7 ⟨⟨by simp,by simp⟩,by decide⟩,qxd (by simp)];rfl
theorem xbvr (hp:true=true):xbnm=zB true:=by
 unfold xbnm
 rw[qz9,qq7]
 have e:qe9 []=([],[],1):=by unfold qe9;rw[if_pos (by rw[q7p];omega),q7p]
 have e2:qyo [] []=false:=rfl
 rw[e,e2]
 exact qaj (by rw[qc5 (by simp) (by simp)];unfold b6k;rw[qab];rfl) (qaj xbxr rfl)
open IntWalk (i64_in u8_in u32_in u64_in i64_quo u8_quo rem_in)
theorem xbzg (g:Int) (b:List Int) (hp:qcc b=true):xblf g b=zR [.cl (.agg [.int .i64 (qbw g b).1,.sli .u8 qa0,.slg 3 (qbw g b).2.1]),.cl (.int .i64 (qbw g b).2.2)] []:=by
 obtain⟨i1,i2⟩:=qwd g
 have hid:idOk (qaw g).2.2=true:=q5x (by omega) i2
 have h16:qz6 16=true:=by unfold qz6;exact decide_eq_true (by omega)
 unfold xblf qbw
 simp only[qmq,qab,qde,qbq]
 unfold qin
 refine qae (fun h=> ?_) fun h=>qae (fun h6=>qas (fun h'=> ?_) fun h'=>qaj hid (qaj hp (qaj (qb4 (by simp)) ?_))) fun h6=>qae (fun h7=>qas (fun h'=> ?_) fun h'=>qaj hid (qaj hp (qaj h16 (qaj (qb4 (by simp)) (qaj (qb4 (by simp)) ?_))))) fun h7=>qas (fun h'=> ?_) fun h'=>qaj hid (qaj (qb4 (by simp)) ?_)
 ·rw[if_pos h]
 ·rw[if_neg h,if_pos (by rw[h6];exact h')]
 ·rw[if_neg h,if_neg (by rw[h6];exact fun x=>x h'),if_pos h6]
  rfl
 ·rw[if_neg h,if_pos (by rw[h7];exact h')]
 ·rw[if_neg h,if_neg (by rw[h7];exact fun x=>x h'),if_neg h6,if_pos h7]
  rfl
 ·rw[if_neg h,if_pos (by unfold qhg;rw[if_neg h6,if_neg h7];exact h')]
 ·rw[if_neg h,if_neg (by unfold qhg;rw[if_neg h6,if_neg h7];exact fun x=>x h'),if_neg h6,if_neg h7]
  rfl
theorem q0j {a:List CV} (h:isS a=true):qcc (qbm a).1=true:=by
 obtain⟨n,hn,hb⟩:=qdx h
 have:=qiu hn
 rw[qie hn]
 split
 ·exact qfq (by show(qak n a).1.length<=_;omega)
 ·exact qfq (by simp)
theorem q9w {g:List Int} {c:List CV} (hc:qdh c) (hn:qea c<=12100):qcc (qfe g c).1=true:=by
 rw[qze]
 unfold qvy
 split
 ·rename_i h;exact q0j (xbi1 hc hn (xbhp h))
 ·exact qfq (by simp)
theorem xbhw {g:List Int} {c:List CV} (n:Int) (hc:qdh c) (hn:qea c<=12100):qcc (q2d g c n).1=true:=by
 rw[q4w]
 unfold xbgf
 split
 ·exact qfq (by simp)
 ·split
  ·exact qfq (by simp)
  ·exact q0j (qs1 (qh5 hc _) (by have:qea (c.take n.toNat)<=qea c:=qwe _ _;omega))
theorem xb76 (K0:Option Out) (K1:List Int->Int->List Int->Int->List Int->Int->List Int->Int->List Int->List CV->List Int->List CV->Option Out) (a:List Int) (b:Int) (a2:List Int) (b2:Int) (a3:List Int) (b3:Int) (a4:List Int) (b4:Int) (o:List Int) (g:List Int) (c:List CV) (h:List Int) (e:List CV) (hl:o.length<=1000000000000000):
  qh6 K0 K1 FUEL a b a2 b2 a3 b3 a4 b4 o o (o.length:Int) 0 g c h e=K1 a b a2 b2 a3 b3 a4 b4 g c h e:=by
 refine(xbae o o rfl (fun n i=>qh6 K0 K1 n a b a2 b2 a3 b3 a4 b4 o o (o.length:Int) i g c h e) (K1 a b a2 b2 a3 b3 a4 b4 g c h e) K0 (fun n i x y hx hy hi=> ?_) (fun n=>qb2 (show ¬(o.length:Int)<(o.length:Int) by omega) rfl) FUEL 0 (za1 _) (by unfold FUEL;omega)).trans ?_
 ·have e2:IntKind.i64.wrap ((i:Int)+1)=((i+1:Nat):Int):=i64_in _ (by omega)
  show qmm (qh6 K0 K1 n) K0 K1 a b a2 b2 a3 b3 a4 b4 o o (o.length:Int) i g c h e=_
  unfold qmm
  refine qan (by omega) (qap (by omega) hx (qap (by omega) hy ?_))
  rw[e2]
  exact xb3v
 ·rw[qfz.2 rfl];rfl
theorem xbs1 {c:List CV} (hc:qdh c):(qsu c).length<=100000000:=by
 rw[qnh]
 have h1:(qgg c).length<=0+(c.flatMap fun c=>q9q (qbi c)).length:=qka
 have h2:(c.flatMap fun c=>q9q (qbi c)).length<=c.length*10000:=q0e fun x hx=>by
  have:=qnv hc x hx
  show((qbi x).map mD).length<=10000
  rw[zav]
  exact this
 have:=hc.1
 omega
theorem xb0y (g:List Int) (c:List CV) (h:List Int) (e:List CV) (n:Int) (hp:(recT g c&&(recT h e&&qz6 n))=true):xbgh g c h e n=zB true:=by
 simp only[zab] at hp
 obtain⟨h1,h2,_⟩:=hp
 unfold xbgh
 refine qaj h1 (qdl (fun _=>rfl) fun f1=>qaj h2 (qdl (fun _=>rfl) fun f2=> ?_))
 obtain⟨g1,c1,n1⟩:=xbnq h1 f1
 obtain⟨g2,c2,n2⟩:=xbnq h2 f2
 have io:(qdt g&&recO c)=true:=by rw[g1,xbd7 ⟨c1,by omega⟩];rfl
 have co:=qhm c1
 have ce:=qhm c2
 have cc:(qdt g&&(qa9 c&&qa9 e))=true:=by rw[g1,co,ce];rfl
 have cc2:(qdt g&&(qa9 c&&qa9 c))=true:=by rw[g1,co];rfl
 refine qaj io (qaj io (qaj io (qaj io (qaj co (qaj co (xbp8 rfl ?_))))))
 rw[qab,xb76 _ _ _ _ _ _ _ _ _ _ _ _ _ _ _ (by have:=xbs1 c1;omega)]
 refine qaj io (qaj io (qaj (by simp) (qaj (q9w c1 (by omega)) (qaj (by rw[qf6];exact qfz.2 rfl) (qan rfl (qaj (xbhw n c1 (by omega)) (qaj (by rw[qf6];exact qfz.2 rfl) (qan rfl (qaj cc (qaj cc (qaj (by simp) (qaj cc2 (qaj (by rw[qvn];exact qfz.2 ⟨rfl,rfl⟩) rfl)))))))))))))
end Go.Proofs.YtoaakappnhemiaaGreatDoorA
