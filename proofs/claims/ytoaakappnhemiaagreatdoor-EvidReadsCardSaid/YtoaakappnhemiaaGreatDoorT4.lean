/-
 The evid layer: what a function makes of each; digests, parts and marks as values. Conditions: each function's own.
-/
import Derived.Test.YtoaakappnhemiaaGreatDoorT3b
set_option linter.unusedVariables false
set_option linter.unusedSimpArgs false
set_option maxRecDepth 100000
namespace Go.Proofs.YtoaakappnhemiaaGreatDoorA
open IntWalk (i64_in u8_in u32_in u64_in i64_quo u8_quo rem_in)
theorem qdw{α β:Type}{f:α->Option β}: ∀ {l:List α},l.all (fun c=>(f c).isSome)=true->(l.filterMap f).length=l.length
 | [],_=>rfl
 | x::r,h=>by simp only[zb0,zab] at h;obtain⟨y,hy⟩:=zax.1 h.1;rw[zbb hy,zac,zac,qdw h.2]
theorem qp5{α β:Type}(f:α->Option β)(l:List α)(hl:l.length<=1000000)(L:Nat->Nat->Int->List β->Option Out)(bad:Option Out)(fin:List β->Option Out)(hstep: ∀(n i:Nat) (acc:List β) (x:α),i<l.length->acc.length=i->l[i]? =some x->L (n+1) i (i:Int) acc=match f x with|some y=>L n (i+1) ((i+1:Nat):Int) (acc++[y])|none=>bad)(hend: ∀(n:Nat) (acc:List β),L (n+1) l.length (l.length:Int) acc=fin acc):
  ∀(fuel i:Nat) (acc:List β),i<=l.length->acc.length=i->l.length<fuel+i->L fuel i (i:Int) acc=if(l.drop i).all (fun c=>(f c).isSome)=true then fin (acc++(l.drop i).filterMap f) else bad
 | 0,i,acc,hi,ha,hf=>by omega
 | fuel+1,i,acc,hi,ha,hf=>by
  rcases zcc i l.length with h|h
  ·obtain⟨x,hx⟩: ∃x,l[i]? =some x:=⟨_,zag h⟩;rw[hstep fuel i acc x h ha hx,qni hx,zb0]
   cases hy:f x with
   | none=>simp
   | some y=>
    show L fuel (i+1) ((i+1:Nat):Int) (acc++[y])=_;rw[qp5 f l hl L bad fin hstep hend fuel (i+1) (acc++[y]) h (by simp[ha]) (by omega),zbb hy];simp
  ·obtain rfl:i=l.length:=by omega
   rw[hend,List.drop_length];simp
theorem xbv2{α β:Type}(f:α->Option β)(l:List α)(lo hi w:Int)(hl:l.length<=1000000)(h0:0<=w)(hw:w<=100)(out:List β->Bool->Option Out){X:Option Out}(hX:X=if l.all (fun c=>(f c).isSome)=true then out (l.filterMap f) true else out [] false):
  cond (decide ((l.length:Int)<lo)) (out [] false) (cond (decide (hi<(l.length:Int))) (out [] false) (cond (decide ((0:Int)<=(l.length:Int))) (cond (decide ((l.length:Int)*w<=LIM)) (cond (decide ((l.length:Int)<=LIM)) X none) none) none))=out (evL f lo hi l) (evB f lo hi l):=by
 have hm:(l.length:Int)*w<=1000000*100:=Int.mul_le_mul (by omega) hw h0 (by omega);refine qae (fun h=> ?_) fun h=>qae (fun h'=> ?_) fun h'=>qaq (by omega) (qaq (by unfold LIM;omega) (qaq (by unfold LIM;omega) ?_))
 ·have e:evB f lo hi l=false:=by unfold evB;rw[decide_eq_false (by omega)];rfl
  unfold evL;rw[e,if_neg (by simp)]
 ·have e:evB f lo hi l=false:=by unfold evB;rw[decide_eq_false (by omega)];rfl
  unfold evL;rw[e,if_neg (by simp)]
 ·have e:evB f lo hi l=l.all (fun c=>(f c).isSome):=by unfold evB;rw[decide_eq_true (by omega)];rfl
  unfold evL;rw[hX,e];split
  ·rename_i h;rw[h]
  ·rename_i h;rw[zat.2 h]
theorem xbcs{α β:Type}{acc:List β}{y:β}{i w:Nat}{l:List α}{n:Int}{again:Nat->List α->Int->Int->List β->Option Out}(ha:acc.length=i)(hi:i<1000000)(hw:w<=100):
  rmK (acc++[y]).length w (again (acc++[y]).length l n (IntKind.i64.wrap ((i:Int)+1)) (acc++[y]))=again (i+1) l n ((i+1:Nat):Int) (acc++[y]):=by
 have e2:IntKind.i64.wrap ((i:Int)+1)=((i+1:Nat):Int):=i64_in _ (by omega);have e3:(acc++[y]).length=i+1:=by rw[zaf,ha];rfl
 have hm:(i+1)*w<=1000000*100:=zdi (by omega) hw;rw[e2,e3];exact qzp (by omega) (by omega) rfl
theorem xb6l{β:Type}{B:Bool}{fx:Option β}{y:β}{k0 X:Option Out}{Y:β->Option Out}(h:fx=cond B (some y) none)(hX:X=Y y):cond (!B) k0 X=match (generalizing:=false) fx with|some z=>Y z|none=>k0:=by
 subst h
 cases B with
 | true=>exact hX
 | false=>rfl
theorem qt8{β:Type}{B:Bool}{fx:Option β}{y:β}{k0:Option Out}{acc:List β}{i w:Nat}{A:Nat->Int->List β->Option Out}(h:fx=cond B (some y) none)(ha:acc.length=i)(hi:i<1000000)(hw:w<=100:=by omega):
  cond (!B) k0 (rmK (acc++[y]).length w (A (acc++[y]).length (IntKind.i64.wrap ((i:Int)+1)) (acc++[y])))=match (generalizing:=false) fx with|some z=>A (i+1) ((i+1:Nat):Int) (acc++[z])|none=>k0:=
 xb6l (Y:=fun z=>A (i+1) ((i+1:Nat):Int) (acc++[z])) h (xbcs (l:=([]:List Int)) (n:=0) (again:=fun a _ _ c d=>A a c d) ha hi hw)
theorem q07{α β:Type}{f:α->Option β}{l:List α}{lo hi w:Int}{out:List β->Bool->Option Out}{S:(Nat->List α->Int->Int->List β->Option Out)->Option Out->(Nat->List β->Option Out)->Nat->List α->Int->Int->List β->Option Out}(hl:l.length<=1000000)(hS: ∀again k0 k1 (i:Nat) (acc:List β) (x:α) (fx:Option β),i<l.length->acc.length=i->l[i]? =some x->f x=fx->S again k0 k1 i l (l.length:Int) (i:Int) acc=match fx with|some y=>again (i+1) l (l.length:Int) ((i+1:Nat):Int) (acc++[y])|none=>k0)(hE: ∀again k0 k1 (acc:List β),S again k0 k1 l.length l (l.length:Int) (l.length:Int) acc=k1 l.length acc)(h0:0<=w:=by omega)(hw:w<=100:=by omega):
  cond (decide ((l.length:Int)<lo)) (out [] false) (cond (decide (hi<(l.length:Int))) (out [] false) (cond (decide ((0:Int)<=(l.length:Int))) (cond (decide ((l.length:Int)*w<=LIM)) (cond (decide ((l.length:Int)<=LIM))
   (shut (qem (fun a=>S a (out [] false) (fun _ y=>out y true)) (fun _ _ _ _ _=>none) FUEL) 0 l (l.length:Int) 0 []) none) none) none))=out (evL f lo hi l) (evB f lo hi l):=by
 refine xbv2 f l lo hi w hl h0 hw out ?_;rw[qab];refine(qp5 f l hl (fun n m i acc=>qem (fun a=>S a (out [] false) (fun _ y=>out y true)) (fun _ _ _ _ _=>none) n m l (l.length:Int) i acc) (out [] false) (fun y=>out y true) (fun n i acc x hi ha hx=>hS _ _ _ i acc x (f x) hi ha hx rfl) (fun n acc=>hE _ _ _ acc) FUEL 0 [] (zbc _) rfl (by unfold FUEL;omega)).trans ?_;rfl
theorem xbv3{α β:Type}{f:α->Option β}{l:List α}{lo hi w s:Int}{out:Int->List β->Bool->Option Out}{S:(Nat->List α->Int->Int->Int->List β->Option Out)->(Int->Option Out)->(Nat->Int->List β->Option Out)->Nat->List α->Int->Int->Int->List β->Option Out}(hl:l.length<=1000000)(hS: ∀again k0 k1 (i:Nat) (acc:List β) (x:α) (fx:Option β),i<l.length->acc.length=i->l[i]? =some x->f x=fx->S again k0 k1 i l (l.length:Int) (i:Int) s acc=match fx with|some y=>again (i+1) l (l.length:Int) ((i+1:Nat):Int) s (acc++[y])|none=>k0 s)(hE: ∀again k0 k1 (acc:List β),S again k0 k1 l.length l (l.length:Int) (l.length:Int) s acc=k1 l.length s acc)(h0:0<=w:=by omega)(hw:w<=100:=by omega):
  cond (decide ((l.length:Int)<lo)) (out s [] false) (cond (decide (hi<(l.length:Int))) (out s [] false) (cond (decide ((0:Int)<=(l.length:Int))) (cond (decide ((l.length:Int)*w<=LIM)) (cond (decide ((l.length:Int)<=LIM))
   (shut (qem (fun a=>S a (fun s=>out s [] false) (fun _ s y=>out s y true)) (fun _ _ _ _ _ _=>none) FUEL) 0 l (l.length:Int) 0 s []) none) none) none))=out s (evL f lo hi l) (evB f lo hi l):=by
 refine xbv2 f l lo hi w hl h0 hw (out s) ?_;rw[qab];refine(qp5 f l hl (fun n m i acc=>qem (fun a=>S a (fun s=>out s [] false) (fun _ s y=>out s y true)) (fun _ _ _ _ _ _=>none) n m l (l.length:Int) i s acc) (out s [] false) (fun y=>out s y true) (fun n i acc x hi ha hx=>hS _ _ _ i acc x (f x) hi ha hx rfl) (fun n acc=>hE _ _ _ acc) FUEL 0 [] (zbc _) rfl (by unfold FUEL;omega)).trans ?_;rfl
theorem qis{β:Type}{p:Prop}[Decidable p]{x y:β}:cond (decide p) x y=if p then x else y:=by by_cases h:p<;>simp[h]
theorem qoj{l:List CV}(h:qux l=true):xbbg l:=by unfold qux at h;rw[qab] at h;exact @of_decide_eq_true _ (Classical.propDecidable _) h
theorem q5k{l:List CV}(h:xbbg l):qux l=true:=by unfold qux;rw[qab];exact @decide_eq_true _ (Classical.propDecidable _) h
theorem qkw{l:List CV}(h:quc l=true):xbbh l:=by unfold quc at h;rw[qab] at h;exact @of_decide_eq_true _ (Classical.propDecidable _) h
theorem qz2{l:List CV}(h:xbbh l):quc l=true:=by unfold quc;rw[qab];exact @decide_eq_true _ (Classical.propDecidable _) h
theorem qvj{l:List CV}(h:qpi l=true):qn4 l:=by unfold qpi at h;rw[qab] at h;exact @of_decide_eq_true _ (Classical.propDecidable _) h
theorem xbj7{l:List CV}(h:qn4 l):qpi l=true:=by unfold qpi;rw[qab];exact @decide_eq_true _ (Classical.propDecidable _) h
theorem qdn{l:List CV}(h:qb0 l=true):qeq l:=by unfold qb0 at h;rw[qab] at h;exact @of_decide_eq_true _ (Classical.propDecidable _) h
theorem qne{l:List CV}(h:qeq l):qb0 l=true:=by unfold qb0;rw[qab];exact @decide_eq_true _ (Classical.propDecidable _) h
theorem qgh{b:List Int}(h:qad b=true):qc7 b=true:=by have:=(qal h).1;unfold qc7;rw[qab];exact decide_eq_true (by omega)
theorem qms{l:List Int}(h:l.length<=1000000000000000):qh1 l=true:=by unfold qh1;rw[qab];exact decide_eq_true h
theorem qst{l:List Int}(h:qh1 l=true):l.length<=1000000000000000:=by unfold qh1 at h;rw[qab] at h;exact of_decide_eq_true h
theorem qch{l:List CV}(h:l.length<=100000000):qbr l=true:=by unfold qbr;rw[qab];exact decide_eq_true h
theorem q6k{α β:Type}{f:α->Option β}{lo hi:Int}{l:List α}:(evL f lo hi l).length<=l.length:=by
 unfold evL;split
 ·exact List.length_filterMap_le ..
 ·exact zbc _
theorem xbqq(s lo hi:Int)(l:List CV):dgL s lo hi l=evL (digF s) lo hi l:=by unfold dgL;rw[qab]
theorem xbv1(s lo hi:Int)(l:List CV):dgB s lo hi l=evB (digF s) lo hi l:=by unfold dgB;rw[qab]
theorem xbgc(s lo hi:Int)(l:List CV):xb0b s lo hi l=evL (qjr s) lo hi l:=by unfold xb0b;rw[qab]
theorem xbgb(s lo hi:Int)(l:List CV):xb0a s lo hi l=evB (qjr s) lo hi l:=by unfold xb0a;rw[qab]
theorem qyx(lo hi:Int)(l:List CV):qta lo hi l=evL qjw lo hi l:=by unfold qta;rw[qab]
theorem q7o(lo hi:Int)(l:List CV):qs9 lo hi l=evB qjw lo hi l:=by unfold qs9;rw[qab]
theorem qx0(lo hi:Int)(l:List CV):qsb lo hi l=evL qdu lo hi l:=by unfold qsb;rw[qab]
theorem qqt(lo hi:Int)(l:List CV):qnd lo hi l=evB qdu lo hi l:=by unfold qnd;rw[qab]
theorem qnz(k:Int):qqb k=qa4 k:=by unfold qqb;rw[qab]
theorem xb40(k:Int)(hp:true=true):xbws k=zI (qqb k):=by
 unfold xbws;rw[qnz,qab];refine qae (fun h=> ?_) fun h=>qae (fun h'=> ?_) fun h'=>qaq (by omega) (qaq (by omega) ?_)
 ·unfold qa4;rw[if_neg (by omega)]
 ·unfold qa4;rw[if_neg (by omega)]
 ·obtain⟨n,rfl⟩: ∃n:Nat,k=n:=⟨k.toNat,by omega⟩;have hn:n<8:=by omega
  have:n=0\/n=1\/n=2\/n=3\/n=4\/n=5\/n=6\/n=7:=by omega
  rcases this with rfl|rfl|rfl|rfl|rfl|rfl|rfl|rfl<;>rfl
theorem xby9(k:Int)(hp:true=true):xbm8 k=zI (qqb k):=by
 unfold xbm8;rw[qnz];refine qae (fun h=> ?_) fun h=>qae (fun h'=> ?_) fun h'=>qaq (by omega) (qaq (by omega) ?_)
 ·unfold qa4;rw[if_neg (by omega)]
 ·unfold qa4;rw[if_neg (by omega)]
 ·obtain⟨n,rfl⟩: ∃n:Nat,k=n:=⟨k.toNat,by omega⟩;have hn:n<8:=by omega
  have:n=0\/n=1\/n=2\/n=3\/n=4\/n=5\/n=6\/n=7:=by omega
  rcases this with rfl|rfl|rfl|rfl|rfl|rfl|rfl|rfl<;>rfl
theorem xb8j(b:List Int)(s:Int)(hp:qc7 b=true):xb7z b s=zR [.cl (.agg [.int .i64 4,.sli .u8 b,.slg 3 qcg]),.cl (.bool (decide ((b.length:Int)=s)))] [some ⟨.var [.cl (.int .i64 s)],false⟩]:=qak hp rfl
theorem xb8f(l:List CV)(lo hi s:Int)(hp:qux l=true):xb7w l lo hi s=zR [.cl (.slg 3 (dgL s lo hi l)),.cl (.bool (dgB s lo hi l))] [some ⟨.var [.cl (.int .i64 s)],false⟩]:=by
 obtain⟨hl,hr⟩:=qoj hp;rw[xbqq,xbv1];refine xbv3 (f:=digF s) (w:=56) (out:=(fun s x b=>zR [.cl (.slg 3 x),.cl (.bool b)] [some ⟨.var [.cl (.int .i64 s)],false⟩])) (S:=qym) hl (fun again k0 k1 i acc x fx hi ha hx hf=> ?_) fun again k0 k1 acc=>qcq (by omega) rfl;obtain⟨b,rfl,hb⟩:=hr x (zae hx);unfold qym;simp only[qce];refine qaq (by omega) (qa1 (by omega) hx (qak rfl (qak (qgh hb) ?_)));refine qt8 (y:=qbg 4 b []) (w:=56) (A:=fun a c acc=>again a l (l.length:Int) c s acc) ?_ ha ?_ ?_
 rotate_left
 ·omega
 ·omega
 rw[<- hf];unfold digF;rw[qis];rfl
theorem xb5i(l:List CV)(lo hi s:Int)(hp:qux l=true):xb31 l lo hi s=zR [.cl (.agg [.int .i64 48,.sli .u8 qa6,.slg 3 (dgL s lo hi l)]),.cl (.bool (dgB s lo hi l))] [some ⟨.var [.cl (.int .i64 s)],false⟩]:=
 qak hp (qak (qch (by rw[xbqq];have:=(qoj hp).1;have:=@q6k _ _ (digF s) lo hi l;omega)) rfl)
theorem xb4u(l:List CV)(s:Int)(hp:qux l=true):xb3w l s=zR [.cl (.agg [.int .i64 48,.sli .u8 qa6,.slg 3 (dgL s 1 64 l)]),.cl (.bool (dgB s 1 64 l))] [some ⟨.var [.cl (.int .i64 s)],false⟩]:=qak hp rfl
theorem xb4m(s:Int)(hp:true=true):xb3p s=zR [.fn (.func 186) [] [.ptr 0 0 0]] [some ⟨.var [.cl (.int .i64 s)],false⟩]:=rfl
open IntWalk (i64_in u8_in u32_in u64_in i64_quo u8_quo rem_in)
theorem qcz{l:List CV}(h:qfx l=true):l.length<=1000000/\∀c∈l, ∃t b k,c=.agg [.int .i64 t,.sli .u8 b,.slg 3 k]/\isS [.int .i64 t,.sli .u8 b,.slg 3 k]=true:=by unfold qfx at h;rw[qab] at h;exact @of_decide_eq_true _ (Classical.propDecidable _) h
theorem q7v{l:List CV}(h:l.length<=1000000/\∀c∈l, ∃t b k,c=.agg [.int .i64 t,.sli .u8 b,.slg 3 k]/\isS [.int .i64 t,.sli .u8 b,.slg 3 k]=true):qfx l=true:=by unfold qfx;rw[qab];exact @decide_eq_true _ (Classical.propDecidable _) h
theorem q06(lo hi:Int)(l:List CV):q05 lo hi l=evL qon lo hi l:=by unfold q05;rw[qab]
theorem q04(lo hi:Int)(l:List CV):q03 lo hi l=evB qon lo hi l:=by unfold q03;rw[qab]
theorem qvx(lo hi:Int)(l:List CV):qtl lo hi l=evL qc1 lo hi l:=by unfold qtl;rw[qab]
theorem qvw(lo hi:Int)(l:List CV):qtk lo hi l=evB qc1 lo hi l:=by unfold qtk;rw[qab]
theorem qvl(lo hi:Int)(l:List CV):qtc lo hi l=evL qoo lo hi l:=by unfold qtc;rw[qab]
theorem qvk(lo hi:Int)(l:List CV):qtb lo hi l=evB qoo lo hi l:=by unfold qtb;rw[qab]
theorem qsd(lo hi:Int)(l:List CV):qng lo hi l=evL qdi lo hi l:=by unfold qng;rw[qab]
theorem qsc(lo hi:Int)(l:List CV):qnf lo hi l=evB qdi lo hi l:=by unfold qnf;rw[qab]
theorem q0w(lo hi:Int)(l:List CV):q0v lo hi l=evL algV lo hi l:=by unfold q0v;rw[qab]
theorem q0u(lo hi:Int)(l:List CV):q0t lo hi l=evB algV lo hi l:=by unfold q0t;rw[qab]
theorem xbx0(g t:Int)(b:List Int)(k:List CV):ldL g t b k=qcl qon g t b k:=by unfold ldL;rw[qab]
theorem xbxz(g t:Int)(b:List Int)(k:List CV):ldB g t b k=qen qon g t b k:=by unfold ldB;rw[qab]
theorem xbx8(g t:Int)(b:List Int)(k:List CV):lpL g t b k=qcl qc1 g t b k:=by unfold lpL;rw[qab]
theorem xbx7(g t:Int)(b:List Int)(k:List CV):lpB g t b k=qen qc1 g t b k:=by unfold lpB;rw[qab]
theorem xbx6(g t:Int)(b:List Int)(k:List CV):lmL g t b k=qcl qoo g t b k:=by unfold lmL;rw[qab]
theorem xbx5(g t:Int)(b:List Int)(k:List CV):lmB g t b k=qen qoo g t b k:=by unfold lmB;rw[qab]
theorem xbxy(g t:Int)(b:List Int)(k:List CV):lcL g t b k=qcl qdi g t b k:=by unfold lcL;rw[qab]
theorem xbxx(g t:Int)(b:List Int)(k:List CV):lcB g t b k=qen qdi g t b k:=by unfold lcB;rw[qab]
theorem xbxv(g t:Int)(b:List Int)(k:List CV):laL g t b k=qcl algV g t b k:=by unfold laL;rw[qab]
theorem xbxu(g t:Int)(b:List Int)(k:List CV):laB g t b k=qen algV g t b k:=by unfold laB;rw[qab]
theorem q4n(lo hi:Int)(l:List Int):xbmh lo hi l=evL q6b lo hi l:=by unfold xbmh;rw[qab]
theorem xbqe(lo hi:Int)(l:List Int):xbqd lo hi l=evB q6b lo hi l:=by unfold xbqd;rw[qab]
theorem xbfx{d:Int}{t:List CV}{w:List Int}(h:qc8 d t w=true):q7m d t w=(48,ql9 d t w):=by unfold q7m;rw[qab,if_pos h]
theorem qq9(d:Int)(t:List CV)(w:List Int):q1p d t w=qc8 d t w:=by unfold q1p;rw[qab]
theorem q7n(t:Int)(b:List Int)(k:List CV):qn1 t b k=qc4 t b k:=by unfold qn1;rw[qab]
def sl8(b:List Int):CV:=.sli .u8 b
def sg1(b:List CV):CV:=.slg 1 b
def sg3(b:List CV):CV:=.slg 3 b
theorem b_if{β:Type}{B:Bool}{x y:β}:cond B x y=if B=true then x else y:=by cases B<;>rfl
theorem qmd{β:Type}{f:CV->Option β}{g t:Int}{b:List Int}{k:List CV}(h:(qbz g t b k).2=0):qen f g t b k=evB f 0 ((qbz g t b k).1.length:Int) (qbz g t b k).1/\qcl f g t b k=evL f 0 ((qbz g t b k).1.length:Int) (qbz g t b k).1:=by
 have e:qen f g t b k=evB f 0 ((qbz g t b k).1.length:Int) (qbz g t b k).1:=by unfold qen evB;rw[decide_eq_true h,decide_eq_true (by omega)]
 refine⟨e, ?_⟩;unfold qcl evL;rw[e]
theorem qme{β:Type}{f:CV->Option β}{g t:Int}{b:List Int}{k:List CV}(h: ¬(qbz g t b k).2=0):qen f g t b k=false/\qcl f g t b k=[]:=by
 have e:qen f g t b k=false:=by unfold qen;rw[decide_eq_false h];rfl
 refine⟨e, ?_⟩;unfold qcl;rw[e];rfl
theorem xb8h(l:List CV)(lo hi s:Int)(hp:quc l=true):xb7y l lo hi s=zR [.cl (.slg 3 (xb0b s lo hi l)),.cl (.bool (xb0a s lo hi l))] [some ⟨.var [.cl (.int .i64 s)],false⟩]:=by
 obtain⟨hl,hr⟩:=qkw hp;rw[xbgc,xbgb];refine xbv3 (f:=qjr s) (w:=56) (out:=(fun s x b=>zR [.cl (.slg 3 x),.cl (.bool b)] [some ⟨.var [.cl (.int .i64 s)],false⟩])) (S:=qyo) hl (fun again k0 k1 i acc x fx hi ha hx hf=> ?_) fun again k0 k1 acc=>qcq (by omega) rfl;obtain⟨b,rfl,hb⟩:=hr x (zae hx);unfold qyo;simp only[qbp,xbqq,xbv1];refine qaq (by omega) (qa1 (by omega) hx (qak rfl (qak (q5k hb) ?_)));refine qt8 (y:=qbg 48 [] (evL (digF s) 1 64 b)) (w:=56) (A:=fun a c acc=>again a l (l.length:Int) c s acc) ?_ ha ?_ ?_
 rotate_left
 ·omega
 ·omega
 rw[<- hf];unfold qjr;rw[b_if];rfl
theorem xb8g(l:List CV)(lo hi:Int)(hp:qpi l=true):xb7x l lo hi=zR [.cl (.slg 3 (qta lo hi l)),.cl (.bool (qs9 lo hi l))] []:=by
 obtain⟨hl,hr⟩:=qvj hp;replace hl:l.length<=1000000:=by omega
 rw[qyx,q7o];refine q07 (f:=qjw) (w:=56) (out:=(fun x b=>zR [.cl (.slg 3 x),.cl (.bool b)] [])) (S:=qyn) hl (fun again k0 k1 i acc x fx hi ha hx hf=> ?_) fun again k0 k1 acc=>qcq (by omega) rfl;obtain⟨d,t,w,rfl,ht,hw⟩:=hr x (zae hx);unfold qyn;simp only[qbp,qq9];refine qaq (by omega) (qa1 (by omega) hx (qak rfl (qak (by show(quc t&&qad w)=true;rw[qz2 ht];exact hw) ?_)));refine qt8 (B:=qc8 d t w) (y:=qbg (q7m d t w).1 [] (q7m d t w).2) (w:=56) (A:=fun a c acc=>again a l (l.length:Int) c acc) ?_ ha ?_ ?_
 rotate_left
 ·omega
 ·omega
 rw[<- hf];show(if qc8 d t w=true then some (qbg 48 [] (ql9 d t w)) else none)=_
 cases hm:qc8 d t w with
 | false=>rfl
 | true=>rw[xbfx hm];rfl
theorem xb8e(l:List CV)(lo hi:Int)(hp:qb0 l=true):xb7v l lo hi=zR [.cl (.slg 3 (qsb lo hi l)),.cl (.bool (qnd lo hi l))] []:=by
 obtain⟨hl,hr⟩:=qdn hp;replace hl:l.length<=1000000:=by omega
 rw[qx0,qqt];refine q07 (f:=qdu) (w:=56) (out:=(fun x b=>zR [.cl (.slg 3 x),.cl (.bool b)] [])) (S:=qyl) hl (fun again k0 k1 i acc x fx hi ha hx hf=> ?_) fun again k0 k1 acc=>qcq (by omega) rfl;obtain⟨m,rfl,hm⟩:=hr x (zae hx);unfold qyl;simp only[qbp,qyx,q7o];refine qaq (by omega) (qa1 (by omega) hx (qak rfl (qak (xbj7 hm) ?_)));refine qt8 (y:=qbg 48 [] (evL qjw 1 20 m)) (w:=56) (A:=fun a c acc=>again a l (l.length:Int) c acc) ?_ ha ?_ ?_
 rotate_left
 ·omega
 ·omega
 rw[<- hf];unfold qdu;rw[b_if];rfl
theorem xb4q(l:List CV)(lo hi:Int)(hp:qfx l=true):xb3t l lo hi=zR [.cl (.slg 1 (q05 lo hi l)),.cl (.bool (q03 lo hi l))] []:=by
 obtain⟨hl,hr⟩:=qcz hp;rw[q06,q04];refine q07 (f:=qon) (w:=24) (out:=(fun x b=>zR [.cl (.slg 1 x),.cl (.bool b)] [])) (S:=qs0) hl (fun again k0 k1 i acc x fx hi ha hx hf=> ?_) fun again k0 k1 acc=>qcq (by omega) rfl;obtain⟨t,b,k,rfl,hs⟩:=hr x (zae hx);unfold qs0;refine qaq (by omega) (qa1 (by omega) hx (qak rfl (qak hs ?_)));refine qt8 (y:=sl8 (qa0 t b k).1) (w:=24) (A:=fun a c acc=>again a l (l.length:Int) c acc) ?_ ha ?_ ?_
 rotate_left
 ·omega
 ·omega
 rw[<- hf];unfold qon;rw[qis];rfl
theorem xb4s(l:List CV)(lo hi:Int)(hp:qfx l=true):xb3v l lo hi=zR [.cl (.slg 1 (qtl lo hi l)),.cl (.bool (qtk lo hi l))] []:=by
 obtain⟨hl,hr⟩:=qcz hp;rw[qvx,qvw];refine q07 (f:=qc1) (w:=24) (out:=(fun x b=>zR [.cl (.slg 1 x),.cl (.bool b)] [])) (S:=qs2) hl (fun again k0 k1 i acc x fx hi ha hx hf=> ?_) fun again k0 k1 acc=>qcq (by omega) rfl;obtain⟨t,b,k,rfl,hs⟩:=hr x (zae hx);unfold qs2;simp only[xbx0,xbxz];refine qaq (by omega) (qa1 (by omega) hx (qak rfl (qak hs ?_)));refine qt8 (y:=sg1 (qcl qon 48 t b k)) (w:=24) (A:=fun a c acc=>again a l (l.length:Int) c acc) ?_ ha ?_ ?_
 rotate_left
 ·omega
 ·omega
 rw[<- hf];unfold qc1;rw[b_if];rfl
theorem xb4r(l:List CV)(lo hi:Int)(hp:qfx l=true):xb3u l lo hi=zR [.cl (.slg 3 (qtc lo hi l)),.cl (.bool (qtb lo hi l))] []:=by
 obtain⟨hl,hr⟩:=qcz hp;rw[qvl,qvk];refine q07 (f:=qoo) (w:=56) (out:=(fun x b=>zR [.cl (.slg 3 x),.cl (.bool b)] [])) (S:=qs1) hl (fun again k0 k1 i acc x fx hi ha hx hf=> ?_) fun again k0 k1 acc=>qcq (by omega) rfl;obtain⟨t,b,k,rfl,hs⟩:=hr x (zae hx);unfold qs1;simp only[q7n];refine qaq (by omega) (qa1 (by omega) hx (qak rfl (qak hs ?_)));refine qt8 (y:=qz7 (qc4 t b k).1 (qc4 t b k).2.1 (qc4 t b k).2.2.1) (w:=56) (A:=fun a c acc=>again a l (l.length:Int) c acc) ?_ ha ?_ ?_
 rotate_left
 ·omega
 ·omega
 rw[<- hf];unfold qoo;rw[b_if];rfl
theorem xb4p(l:List CV)(lo hi:Int)(hp:qfx l=true):xb3s l lo hi=zR [.cl (.slg 1 (qng lo hi l)),.cl (.bool (qnf lo hi l))] []:=by
 obtain⟨hl,hr⟩:=qcz hp;rw[qsd,qsc];refine q07 (f:=qdi) (w:=24) (out:=(fun x b=>zR [.cl (.slg 1 x),.cl (.bool b)] [])) (S:=qsz) hl (fun again k0 k1 i acc x fx hi ha hx hf=> ?_) fun again k0 k1 acc=>qcq (by omega) rfl;obtain⟨t,b,k,rfl,hs⟩:=hr x (zae hx);unfold qsz;simp only[xbx6,xbx5];refine qaq (by omega) (qa1 (by omega) hx (qak rfl (qak hs ?_)));refine qt8 (y:=sg3 (qcl qoo 48 t b k)) (w:=24) (A:=fun a c acc=>again a l (l.length:Int) c acc) ?_ ha ?_ ?_
 rotate_left
 ·omega
 ·omega
 rw[<- hf];unfold qdi;rw[b_if];rfl
theorem xb4o(l:List CV)(lo hi:Int)(hp:qfx l=true):xb3r l lo hi=zR [.cl (.sli .i64 (q0v lo hi l)),.cl (.bool (q0t lo hi l))] []:=by
 obtain⟨hl,hr⟩:=qcz hp;rw[q0w,q0u];refine q07 (f:=algV) (w:=8) (out:=(fun x b=>zR [.cl (.sli .i64 x),.cl (.bool b)] [])) (S:=qsy) hl (fun again k0 k1 i acc x fx hi ha hx hf=> ?_) fun again k0 k1 acc=>qcq (by omega) rfl;obtain⟨t,b,k,rfl,hs⟩:=hr x (zae hx);unfold qsy;refine qaq (by omega) (qa1 (by omega) hx (qak rfl (qak hs ?_)));refine qt8 (y:=(qby t b k).1) (w:=8) (A:=fun a c acc=>again a l (l.length:Int) c acc) ?_ ha ?_ ?_
 rotate_left
 ·omega
 ·omega
 rw[<- hf];unfold algV;rw[qis];rfl
theorem xb5j(l:List CV)(lo hi:Int)(hp:qpi l=true):xb32 l lo hi=zR [.cl (.agg [.int .i64 48,.sli .u8 qa6,.slg 3 (qta lo hi l)]),.cl (.bool (qs9 lo hi l))] []:=
 qak hp (qak (qch (by rw[qyx];have:=(qvj hp).1;have:=@q6k _ _ qjw lo hi l;omega)) rfl)
theorem xbsi(l:List CV)(hp:qpi l=true):xbre l=zR [.cl (.agg [.int .i64 48,.sli .u8 qa6,.slg 3 (qta 1 20 l)]),.cl (.bool (qs9 1 20 l))] []:=qak hp rfl
theorem xb5h(l:List CV)(lo hi:Int)(hp:qb0 l=true):xb30 l lo hi=zR [.cl (.agg [.int .i64 48,.sli .u8 qa6,.slg 3 (qsb lo hi l)]),.cl (.bool (qnd lo hi l))] []:=
 qak hp (qak (qch (by rw[qx0];have:=(qdn hp).1;have:=@q6k _ _ qdu lo hi l;omega)) rfl)
theorem xbke(l:List CV)(hp:qb0 l=true):xbjp l=zR [.cl (.agg [.int .i64 48,.sli .u8 qa6,.slg 3 (qsb 1 10 l)]),.cl (.bool (qnd 1 10 l))] []:=qak hp rfl
theorem xbe9: ∀ {l:List Nat} {x:Nat},x∈l->x<=l.sum
 | y::r,x,h=>by
  rcases zav.1 h with rfl|h
  ·simp
  ·have:=xbe9 h;simp only[zcf];omega
theorem qde{t:Int}{b:List Int}{k:List CV}(h:isS [.int .i64 t,.sli .u8 b,.slg 3 k]=true):qfx k=true/\k.length<=30000:=by
 obtain⟨n,hn,hb⟩:=qdp h;obtain⟨m,t',b',k',rfl,e,hb',hk⟩:=qdk hn;simp only[zcl,CV.int.injEq,CV.sli.injEq,CV.slg.injEq,and_true,true_and] at e;obtain⟨rfl,rfl,rfl⟩:=e;have hbb:1+b.length+(k.map fun c=>qd6 m (cell1 c)).sum<=30000:=hb;have hpos: ∀c∈k,1<=qd6 m (cell1 c):=fun c hc=>by obtain⟨y,rfl,hy⟩:=hk c hc;obtain⟨m',t',b',k',rfl,rfl,_,_⟩:=qdk hy;show 1<=1+b'.length+_;omega
 have hle: ∀c∈k,qd6 m (cell1 c)<=(k.map fun c=>qd6 m (cell1 c)).sum:=fun c hc=>xbe9 (List.mem_map_of_mem hc);have hlen: ∀l:List CV,(∀c∈l,1<=qd6 m (cell1 c))->l.length<=(l.map fun c=>qd6 m (cell1 c)).sum:=fun l=>by
  induction l with
  | nil=>intro _;simp
  | cons x r ih=>
   intro h;have:=ih fun c hc=>h c (by simp[hc]);have:=h x (by simp);simp only[zac,zbe,zcf];omega
 have h1:=hlen k hpos;refine⟨q7v ⟨by omega,fun c hc=> ?_⟩,by omega⟩;obtain⟨y,rfl,hy⟩:=hk c hc;obtain⟨m',t',b',k',_,rfl,_,_⟩:=qdk hy;have:=hle _ hc;exact⟨t',b',k',rfl,q9x hy (by show qd6 m (cell1 (.agg _))<=30000;omega)⟩
theorem qiy{g t:Int}{b:List Int}{k:List CV}(h:isS [.int .i64 t,.sli .u8 b,.slg 3 k]=true):qfx (qbz g t b k).1=true:=by
 by_cases h0:(qbz g t b k).2=0
 ·rw[qe5 h0];exact(qde h).1
 ·rw[q53 h0];exact q7v ⟨by simp,fun c hc=>by simp at hc⟩
theorem xb4x(t:Int)(b:List Int)(k:List CV)(g:Int)(hp:isS [.int .i64 t,.sli .u8 b,.slg 3 k]=true):xbwp t b k g=zR [.cl (.slg 1 (ldL g t b k)),.cl (.bool (ldB g t b k))] []:=by
 unfold xbwp;rw[xbx0,xbxz];refine qak (qch (by have:=(qde hp).2;omega)) (qaw (fun h=> ?_) fun h=>qak (qiy hp) ?_)
 ·rw[(qme h).1,(qme h).2]
 ·rw[(qmd h).1,(qmd h).2, <- q06, <- q04]
theorem xb4z(t:Int)(b:List Int)(k:List CV)(g:Int)(hp:isS [.int .i64 t,.sli .u8 b,.slg 3 k]=true):xbwr t b k g=zR [.cl (.slg 1 (lpL g t b k)),.cl (.bool (lpB g t b k))] []:=by
 unfold xbwr;rw[xbx8,xbx7];refine qak (qch (by have:=(qde hp).2;omega)) (qaw (fun h=> ?_) fun h=>qak (qiy hp) ?_)
 ·rw[(qme h).1,(qme h).2]
 ·rw[(qmd h).1,(qmd h).2, <- qvx, <- qvw]
theorem xb4y(t:Int)(b:List Int)(k:List CV)(g:Int)(hp:isS [.int .i64 t,.sli .u8 b,.slg 3 k]=true):xbwq t b k g=zR [.cl (.slg 3 (lmL g t b k)),.cl (.bool (lmB g t b k))] []:=by
 unfold xbwq;rw[xbx6,xbx5];refine qak (qch (by have:=(qde hp).2;omega)) (qaw (fun h=> ?_) fun h=>qak (qiy hp) ?_)
 ·rw[(qme h).1,(qme h).2]
 ·rw[(qmd h).1,(qmd h).2, <- qvl, <- qvk]
theorem xb4w(t:Int)(b:List Int)(k:List CV)(g:Int)(hp:isS [.int .i64 t,.sli .u8 b,.slg 3 k]=true):xbwo t b k g=zR [.cl (.slg 1 (lcL g t b k)),.cl (.bool (lcB g t b k))] []:=by
 unfold xbwo;rw[xbxy,xbxx];refine qak (qch (by have:=(qde hp).2;omega)) (qaw (fun h=> ?_) fun h=>qak (qiy hp) ?_)
 ·rw[(qme h).1,(qme h).2]
 ·rw[(qmd h).1,(qmd h).2, <- qsd, <- qsc]
theorem xb4v(t:Int)(b:List Int)(k:List CV)(g:Int)(hp:isS [.int .i64 t,.sli .u8 b,.slg 3 k]=true):xbwn t b k g=zR [.cl (.sli .i64 (laL g t b k)),.cl (.bool (laB g t b k))] []:=by
 unfold xbwn;rw[xbxv,xbxu];refine qak (qch (by have:=(qde hp).2;omega)) (qaw (fun h=> ?_) fun h=>qak (qiy hp) ?_)
 ·rw[(qme h).1,(qme h).2]
 ·rw[(qmd h).1,(qmd h).2, <- q0w, <- q0u]
theorem xbyw(t:Int)(b:List Int)(k:List CV)(hp:isS [.int .i64 t,.sli .u8 b,.slg 3 k]=true):xbwk t b k=zR [.cl (.sli .u8 (qa0 t b k).1),.cl (.bool (decide ((qa0 t b k).2=0)))] []:=qak hp rfl
theorem xbsl(t:Int)(b:List Int)(k:List CV)(hp:isS [.int .i64 t,.sli .u8 b,.slg 3 k]=true):xbrf t b k=zR [.cl (.slg 1 (ldL 48 t b k)),.cl (.bool (ldB 48 t b k))] []:=qak hp rfl
theorem xbkd(t:Int)(b:List Int)(k:List CV)(hp:isS [.int .i64 t,.sli .u8 b,.slg 3 k]=true):xbjo t b k=zR [.cl (.slg 3 (lmL 48 t b k)),.cl (.bool (lmB 48 t b k))] []:=qak hp rfl
theorem xbyv(t:Int)(b:List Int)(k:List CV)(hp:isS [.int .i64 t,.sli .u8 b,.slg 3 k]=true):xbwj t b k=zR [.cl (.int .i64 (qby t b k).1),.cl (.bool (decide ((qby t b k).2.2=0)))] []:=qak hp rfl
theorem qv7{l:List Int}(h:quy l=true):l.length<=1000000:=by unfold quy at h;rw[qab] at h;exact of_decide_eq_true h
theorem xblw{l:List Int}(h:l.length<=1000000):quy l=true:=by unfold quy;rw[qab];exact decide_eq_true h
theorem qr2(g:Int)(b:List Int):qbo g b=qf1 g b:=by unfold qbo;rw[qab]
theorem xb8d(l:List Int)(lo hi:Int)(hp:quy l=true):xb7u l lo hi=zR [.cl (.slg 3 (xbmh lo hi l)),.cl (.bool (xbqd lo hi l))] []:=by
 have hl:=qv7 hp;rw[q4n,xbqe];refine q07 (f:=q6b) (w:=56) (out:=(fun x b=>zR [.cl (.slg 3 x),.cl (.bool b)] [])) (S:=qyk) hl (fun again k0 k1 i acc x fx hi ha hx hf=> ?_) fun again k0 k1 acc=>qcq (by omega) rfl;unfold qyk;simp only[qbp,qr2];refine qaq (by omega) (qa1 (by omega) hx ?_);refine qt8 (y:=qr0 x) (w:=56) (A:=fun a c acc=>again a l (l.length:Int) c acc) ?_ ha ?_ ?_
 rotate_left
 ·omega
 ·omega
 rw[<- hf];unfold q6b;rw[qis]
theorem xb5g(l:List Int)(lo hi:Int)(hp:quy l=true):xb3z l lo hi=zR [.cl (.agg [.int .i64 48,.sli .u8 qa6,.slg 3 (xbmh lo hi l)]),.cl (.bool (xbqd lo hi l))] []:=
 qak hp (qak (qch (by rw[q4n];have:=qv7 hp;have:=@q6k _ _ q6b lo hi l;omega)) rfl)
theorem xb4t(g:Int)(hp:true=true):xbwl g=zR [.cl (.agg [.int .i64 (qbo g qa6).1,.sli .u8 qa6,.slg 3 (qbo g qa6).2.1]),.cl (.bool (decide ((qbo g qa6).2.2=0)))] []:=by unfold xbwl;rw[qbp];exact qak (by unfold qc7;rw[qab];rfl) rfl
open IntWalk (i64_in u8_in u32_in u64_in i64_quo u8_quo rem_in)
theorem qe8{c:Bool}{a b r:Option Out}(h1:c=false->a=r)(h2:c=true->b=r):cond (!c) a b=r:=by
 cases c with
 | false=>exact h1 rfl
 | true=>exact h2 rfl
theorem qqo{α β:Type}{f:α->Option β}{lo hi:Int}{l:List α}(h:evB f lo hi l=true):evL f lo hi l=l.filterMap f/\(evL f lo hi l).length=l.length:=by
 have e:evL f lo hi l=l.filterMap f:=by unfold evL;rw[if_pos h]
 refine⟨e, ?_⟩;unfold evB at h;rw[zab] at h;rw[e];exact qdw h.2
theorem xbfw{α β:Type}(f:α->β)(l:List α)(hl:l.length<=1000000)(L:Nat->Nat->Int->List β->Option Out)(fin:List β->Option Out)(hstep: ∀(n i:Nat) (acc:List β) (x:α),i<l.length->acc.length=i->l[i]? =some x->L (n+1) i (i:Int) acc=L n (i+1) ((i+1:Nat):Int) (acc++[f x]))(hend: ∀(n:Nat) (acc:List β),L (n+1) l.length (l.length:Int) acc=fin acc)(fuel i:Nat)(acc:List β)(hi:i<=l.length)(ha:acc.length=i)(hf:l.length<fuel+i):L fuel i (i:Int) acc=fin (acc++(l.drop i).map f):=by have:=qp5 (fun x=>some (f x)) l hl L none fin hstep hend fuel i acc hi ha hf;rw[this,if_pos (by simp)];exact congrArg (fun z=>fin (acc++z)) (congrFun (List.filterMap_eq_map (f:=f)) _)
theorem qpy{β:Type}{acc:List β}{y:β}{i w:Nat}{A:Nat->Int->List β->Option Out}(ha:acc.length=i)(hi:i<1000000)(hw:w<=100):
  rmK (acc++[y]).length w (A (acc++[y]).length (IntKind.i64.wrap ((i:Int)+1)) (acc++[y]))=A (i+1) ((i+1:Nat):Int) (acc++[y]):=
 xbcs (l:=([]:List Int)) (n:=0) (again:=fun a _ _ c d=>A a c d) ha hi hw
theorem xbr1{d:Int}{t:List CV}{w:List Int}(h:qc8 d t w=false):q7m d t w=(0,[]):=by unfold q7m;rw[qab,if_neg (by rw[h];simp)]
theorem qdx{d:Int}{t:List CV}{w:List Int}:qc8 d t w=true↔(qaf d).2.1=1/\(qap w).2=0/\evB (qjr (qa4 d)) 0 20 t=true:=by unfold qc8;simp only[zab,decide_eq_true_eq]
theorem qn3{d:Int}{t:List CV}{w:List Int}(h: ¬((qaf d).2.1=1/\(qap w).2=0/\evB (qjr (qa4 d)) 0 20 t=true)):qc8 d t w=false:=zat.2 fun h'=>h (qdx.1 h')
theorem xb7o(l:List CV):vBox 0 l=(160,l,0):=q8t (by omega)
theorem xb7p(l:List CV):vBox 2 l=(162,l,0):=q8t (by omega)
theorem xbyx(d:Int)(t:List CV)(w:List Int)(hp:(quc t&&qad w)=true):xbmx d t w=zR [.cl (.agg [.int .i64 (q7m d t w).1,.sli .u8 qa6,.slg 3 (q7m d t w).2]),.cl (.bool (q1p d t w))] []:=by
 rw[zab] at hp;obtain⟨ht,hw⟩:=hp;obtain⟨hl,_⟩:=qkw ht;obtain⟨hi1,hi2⟩:=qmp d;unfold xbmx;simp only[qhl,qce,qbp,qnz,xbgc,xbgb,qq9,xb7o,xb7p];have bad:qc8 d t w=false->zR [.cl (.agg [.int .i64 0,.sli .u8 [],.slg 3 []]),.cl (.bool false)] []=zR [.cl (.agg [.int .i64 (q7m d t w).1,.sli .u8 [],.slg 3 (q7m d t w).2]),.cl (.bool (qc8 d t w))] []:=fun h=>by rw[h,xbr1 h]
 refine qaw (fun h=>bad (qn3 fun h'=>h h'.1)) fun h=>qak (q65 (by omega) hi2) (qak (qch (by simp)) (qak hw (qak ht (qaw (fun h2=>bad (qn3 fun h'=>h2 h'.2.1)) fun h2=>qe8 (fun h3=>bad (qn3 fun h'=>by rw[h3] at h';simp at h')) fun h3=> ?_))));have e:=qqo h3;rw[xbfx (qdx.2 ⟨h,h2,h3⟩),qdx.2 ⟨h,h2,h3⟩];unfold ql9;refine qae (fun h4=>qak (qch (by simp)) ?_) fun h4=>qak (qch (by omega)) (qak (qch (by simp)) ?_)
 ·rw[if_pos (zby.1 (by omega))];rfl
 ·rw[if_neg (fun h5=>h4 (by rw[e.2,h5];rfl))];rfl
theorem xb77(K0:Option Out)(K1:Nat->Int->Nat->Int->List CV->List Int->List CV->List CV->Int->List Int->List CV->Option Out)(m i:Nat)(d:Int)(t:List CV)(w:List Int)(P:List CV)(x1:Int)(x2:List Int)(x3 row:List CV)(hx:t[i]? =some (.slg 1 row))(hr:xbbg row):
  qgv K0 K1 FUEL m i 0 0 d t w P [] x1 x2 x3=if row.all (fun c=>(digF (qa4 d) c).isSome)=true then K1 m i row.length d t w P (row.filterMap (digF (qa4 d))) x1 x2 x3 else K0:=by
 refine(qp5 (digF (qa4 d)) row hr.1 (fun n a j acc=>qgv K0 K1 n m i a j d t w P acc x1 x2 x3) K0 (fun y=>K1 m i row.length d t w P y x1 x2 x3) (fun n j acc x hj ha hxj=> ?_) (fun n acc=> ?_) FUEL 0 [] (zbc _) rfl (by have:=hr.1;unfold FUEL;omega)).trans rfl
 ·show qh7 (qgv K0 K1 n) K0 K1 m i j j d t w P acc x1 x2 x3=_;obtain⟨b,rfl,hb⟩:=hr.2 x (zae hxj);unfold qh7;simp only[qce,qnz];refine qa1 (by omega) hx (qak rfl (qaq (show(j:Int)<(row.length:Int) by omega) (qa1 (by omega) hx (qak rfl (qa1 (by omega) hxj (qak rfl ?_))))));refine qaw (fun h=> ?_) fun h=>qa1 (by omega) hx (qak rfl (qa1 (by omega) hxj (qak rfl (qak (qgh hb) ?_))))
  ·have:digF (qa4 d) (.sli .u8 b)=none:=by unfold digF;exact if_neg h
   rw[this]
  ·have:digF (qa4 d) (.sli .u8 b)=some (qbg 4 b []):=by unfold digF;exact if_pos h
   rw[this];exact qpy (w:=56) (y:=qbg 4 b []) (A:=fun a c acc=>qgv K0 K1 n m i a c d t w P acc x1 x2 x3) ha (by have:=hr.1;omega) (by omega)
 ·show qh7 (qgv K0 K1 n) K0 K1 m i row.length row.length d t w P acc x1 x2 x3=_;unfold qh7;exact qa1 (by omega) hx (qak rfl (qcq (show ¬((row.length:Int)<(row.length:Int)) by omega) rfl))
theorem lpR8(K0:Option Out)(K1:Nat->Int->List CV->List Int->List CV->Int->List Int->List CV->Option Out)(d:Int)(t:List CV)(w:List Int)(x1:Int)(x2:List Int)(x3:List CV)(ht:xbbh t):
  qi3 K0 K1 FUEL 0 0 d t w [] x1 x2 x3=if t.all (fun c=>(qjr (qa4 d) c).isSome)=true then K1 t.length d t w (t.filterMap (qjr (qa4 d))) x1 x2 x3 else K0:=by
 refine(qp5 (qjr (qa4 d)) t ht.1 (fun n a j acc=>qi3 K0 K1 n a j d t w acc x1 x2 x3) K0 (fun y=>K1 t.length d t w y x1 x2 x3) (fun n j acc x hj ha hxj=> ?_) (fun n acc=> ?_) FUEL 0 [] (zbc _) rfl (by have:=ht.1;unfold FUEL;omega)).trans rfl
 ·show qkn (qi3 K0 K1 n) K0 K1 j j d t w acc x1 x2 x3=_;obtain⟨row,rfl,hr⟩:=ht.2 x (zae hxj);have hx':t[(j:Int).toNat]? =some (.slg 1 row):=hxj;unfold qkn;simp only[qbp,qab];rw[xb77 _ _ j j d t w acc x1 x2 x3 row hxj hr];have part:qjr (qa4 d) (.slg 1 row)=if evB (digF (qa4 d)) 1 64 row=true then some (qbg 48 [] (evL (digF (qa4 d)) 1 64 row)) else none:=rfl
  have no: ¬evB (digF (qa4 d)) 1 64 row=true->qjr (qa4 d) (.slg 1 row)=none:=fun h=>by rw[part,if_neg h]
  have rl:(row.length:Int)<1\/(64:Int)<(row.length:Int)-> ¬evB (digF (qa4 d)) 1 64 row=true:=fun h h'=>by unfold evB at h';rw[zab,decide_eq_true_eq] at h';omega
  refine qaq (show(j:Int)<(t.length:Int) by omega) (qa1 (by omega) hx' (qak rfl (qae (fun h=> ?_) fun h=>qa1 (by omega) hx' (qak rfl (qae (fun h2=> ?_) fun h2=> ?_)))))
  ·rw[no (rl (Or.inl h))]
  ·rw[no (rl (Or.inr h2))]
  ·have h: ¬(row.length:Int)<1:=h;have h2: ¬(64:Int)<(row.length:Int):=h2;have e:evB (digF (qa4 d)) 1 64 row=row.all (fun c=>(digF (qa4 d) c).isSome):=by unfold evB;rw[decide_eq_true (by omega)];rfl
   by_cases ha':row.all (fun c=>(digF (qa4 d) c).isSome)=true
   ·rw[if_pos ha',part,if_pos (e.trans ha')];have e2:=qqo (e.trans ha');rw[e2.1];have hl:(row.filterMap (digF (qa4 d))).length=row.length:=qdw ha';refine qak (qch (by have:=hr.1;omega)) ?_;exact qpy (w:=56) (y:=qbg 48 [] (row.filterMap (digF (qa4 d)))) (A:=fun a c acc=>qi3 K0 K1 n a c d t w acc x1 x2 x3) ha (by have:=ht.1;omega) (by omega)
   ·rw[if_neg ha'];rw[no (fun h'=>ha' (e.symm.trans h'))]
 ·show qkn (qi3 K0 K1 n) K0 K1 t.length t.length d t w acc x1 x2 x3=_;unfold qkn;exact qcq (show ¬((t.length:Int)<(t.length:Int)) by omega) rfl
theorem xb5c(d:Int)(t:List CV)(w:List Int)(hp:(quc t&&qad w)=true):xbw0 d t w=zR [.cl (.agg [.int .i64 (q49 d t w).1,.sli .u8 qa6,.slg 3 (q49 d t w).2]),.cl (.bool (q1p d t w))] []:=by
 rw[zab] at hp;obtain⟨ht,hw⟩:=hp;have htC:=qkw ht;obtain⟨hl,hr⟩:=htC;obtain⟨hi1,hi2⟩:=qmp d;unfold xbw0;simp only[qhl,qce,qbp,qq9,xb7o,xb7p,qab];have bad: ¬((qaf d).2.1=1/\evB (qjr (qa4 d)) 0 20 t=true)->zR [.cl (.agg [.int .i64 0,.sli .u8 [],.slg 3 []]),.cl (.bool false)] []=zR [.cl (.agg [.int .i64 (q49 d t w).1,.sli .u8 [],.slg 3 (q49 d t w).2]),.cl (.bool (qc8 d t w))] []:=fun h=>by rw[qn3 fun h'=>h ⟨h'.1,h'.2.2⟩];unfold q49;rw[qab,if_neg (by simpa only [zab,decide_eq_true_eq] using h)]
 refine qaw (fun h=>bad fun h'=>h h'.1) fun h=>qae (fun h2=>bad fun h'=> ?_) fun h2=>qak (q65 (by omega) hi2) (qak (qch (by simp)) ?_)
 ·have:=h'.2;unfold evB at this;rw[zab,decide_eq_true_eq] at this;omega
 rw[lpR8 _ _ d t w _ _ _ ⟨hl,hr⟩];have e:evB (qjr (qa4 d)) 0 20 t=t.all (fun c=>(qjr (qa4 d) c).isSome):=by unfold evB;rw[decide_eq_true (by omega)];rfl
 by_cases ha:t.all (fun c=>(qjr (qa4 d) c).isSome)=true
 ·rw[if_pos ha];have hR:q49 d t w=(48,ql9 d t w):=by unfold q49;rw[qab,if_pos (by rw[zab,decide_eq_true_eq];exact⟨h,e.trans ha⟩)]
  have hO:qc8 d t w=decide ((qap w).2=0):=by unfold qc8;rw[decide_eq_true h,e.trans ha,zbt,Bool.and_true]
  have e2:=qqo (e.trans ha);have hl2:(t.filterMap (qjr (qa4 d))).length=t.length:=qdw ha;rw[hR,hO];unfold ql9;refine qae (fun h4=>qak (qch (by omega)) (qak hw (qak (qch (by simp)) ?_))) fun h4=>qak hw (qak (qch (by simp)) ?_)
  ·have h4:(0:Int)<(t.length:Int):=h4;rw[if_neg (fun h5=>by rw[h5] at h4;simp at h4),e2.1];rfl
  ·have h4: ¬(0:Int)<(t.length:Int):=h4;rw[if_pos (zby.1 (by omega))];rfl
 ·rw[if_neg ha];exact bad fun h'=>ha (e.symm.trans h'.2)
theorem xbr2{d:Int}{t:List CV}{w:List Int}(h:qc8 d t w=true):q49 d t w=(48,ql9 d t w):=by have h:=qdx.1 h;unfold q49;rw[qab,if_pos (by rw[zab,decide_eq_true_eq];exact⟨h.1,h.2.2⟩)]
theorem xb76(K0:Option Out)(K1:List CV->Nat->Int->Nat->List CV->List CV->Option Out)(m i:Nat)(l P row:List CV)(hx:l[i]? =some (.slg 3 row))(hr:qn4 row):
  qec K0 K1 FUEL l m i 0 0 P []=if row.all (fun c=>(qjw c).isSome)=true then K1 l m i row.length P (row.filterMap qjw) else K0:=by
 refine(qp5 qjw row (by have:=hr.1;omega) (fun n a j acc=>qec K0 K1 n l m i a j P acc) K0 (fun y=>K1 l m i row.length P y) (fun n j acc x hj ha hxj=> ?_) (fun n acc=> ?_) FUEL 0 [] (zbc _) rfl (by have:=hr.1;unfold FUEL;omega)).trans rfl
 ·show qfs (qec K0 K1 n) K0 K1 l m i j j P acc=_;obtain⟨d,t,w,rfl,ht,hw⟩:=hr.2 x (zae hxj);obtain⟨fx,hf⟩: ∃fx,qjw (qz7 d t w)=fx:=⟨_,rfl⟩;rw[hf];unfold qfs;simp only[qbp,qq9];refine qa1 (by omega) hx (qak rfl (qaq (show(j:Int)<(row.length:Int) by omega) (qa1 (by omega) hx (qak rfl (qa1 (by omega) hxj (qak rfl (qak (by show(quc t&&qad w)=true;rw[qz2 ht];exact hw) ?_)))))));refine qt8 (B:=qc8 d t w) (y:=qbg (q49 d t w).1 [] (q49 d t w).2) (w:=56) (A:=fun a c acc=>qec K0 K1 n l m i a c P acc) ?_ ha ?_ ?_
  ·rw[<- hf];show(if qc8 d t w=true then some (qbg 48 [] (ql9 d t w)) else none)=_
   cases hm:qc8 d t w with
   | false=>rfl
   | true=>rw[xbr2 hm];rfl
  ·have:=hr.1;omega
  ·omega
 ·show qfs (qec K0 K1 n) K0 K1 l m i row.length row.length P acc=_;unfold qfs;exact qa1 (by omega) hx (qak rfl (qcq (show ¬((row.length:Int)<(row.length:Int)) by omega) rfl))
theorem lpR5(K0:Option Out)(K1:Nat->List CV->Option Out)(l:List CV)(hl:qeq l):
  qff K0 K1 FUEL l 0 0 []=if l.all (fun c=>(qdu c).isSome)=true then K1 l.length (l.filterMap qdu) else K0:=by
 refine(qp5 qdu l (by have:=hl.1;omega) (fun n a j acc=>qff K0 K1 n l a j acc) K0 (fun y=>K1 l.length y) (fun n j acc x hj ha hxj=> ?_) (fun n acc=> ?_) FUEL 0 [] (zbc _) rfl (by have:=hl.1;unfold FUEL;omega)).trans rfl
 ·show qgs (qff K0 K1 n) K0 K1 l j j acc=_;obtain⟨row,rfl,hr⟩:=hl.2 x (zae hxj);have hx':l[(j:Int).toNat]? =some (.slg 3 row):=hxj;unfold qgs;simp only[qbp,qab];rw[xb76 _ _ j j l acc row hxj hr];have part:qdu (.slg 3 row)=if evB qjw 1 20 row=true then some (qbg 48 [] (evL qjw 1 20 row)) else none:=rfl
  have no: ¬evB qjw 1 20 row=true->qdu (.slg 3 row)=none:=fun h=>by rw[part,if_neg h]
  have rl:(row.length:Int)<1\/(20:Int)<(row.length:Int)-> ¬evB qjw 1 20 row=true:=fun h h'=>by unfold evB at h';rw[zab,decide_eq_true_eq] at h';omega
  refine qaq (show(j:Int)<(l.length:Int) by omega) (qa1 (by omega) hx' (qak rfl (qae (fun h=> ?_) fun h=>qa1 (by omega) hx' (qak rfl (qae (fun h2=> ?_) fun h2=> ?_)))))
  ·rw[no (rl (Or.inl h))]
  ·rw[no (rl (Or.inr h2))]
  ·have h: ¬(row.length:Int)<1:=h;have h2: ¬(20:Int)<(row.length:Int):=h2;have e:evB qjw 1 20 row=row.all (fun c=>(qjw c).isSome):=by unfold evB;rw[decide_eq_true (by omega)];rfl
   by_cases ha':row.all (fun c=>(qjw c).isSome)=true
   ·rw[if_pos ha',part,if_pos (e.trans ha')];have e2:=qqo (e.trans ha');rw[e2.1];have hl2:(row.filterMap qjw).length=row.length:=qdw ha';refine qak (qch (by have:=hr.1;omega)) ?_;exact qpy (w:=56) (y:=qbg 48 [] (row.filterMap qjw)) (A:=fun a c acc=>qff K0 K1 n l a c acc) ha (by have:=hl.1;omega) (by omega)
   ·rw[if_neg ha'];rw[no (fun h'=>ha' (e.symm.trans h'))]
 ·show qgs (qff K0 K1 n) K0 K1 l l.length l.length acc=_;unfold qgs;exact qcq (show ¬((l.length:Int)<(l.length:Int)) by omega) rfl
theorem xbss(l:List CV)(hp:qb0 l=true):xbei l=zR [.cl (.agg [.int .i64 (qoe l).1,.sli .u8 qa6,.slg 3 (qoe l).2]),.cl (.bool (qnd 1 10 l))] []:=by
 have hl:=qdn hp;unfold xbei qoe;simp only[qbp,qqt,qab];rw[lpR5 _ _ l hl];have rl:(l.length:Int)<1\/(10:Int)<(l.length:Int)-> ¬evB qdu 1 10 l=true:=fun h h'=>by unfold evB at h';rw[zab,decide_eq_true_eq] at h';omega
 refine qae (fun h=> ?_) fun h=>qae (fun h2=> ?_) fun h2=> ?_
 ·rw[zat.2 (rl (Or.inl h))];rfl
 ·rw[zat.2 (rl (Or.inr h2))];rfl
 ·have e:evB qdu 1 10 l=l.all (fun c=>(qdu c).isSome):=by unfold evB;rw[decide_eq_true (by omega)];rfl
  by_cases ha:l.all (fun c=>(qdu c).isSome)=true
  ·rw[if_pos ha,e.trans ha,if_pos rfl,(qqo (e.trans ha)).1];have hl2:(l.filterMap qdu).length=l.length:=qdw ha;exact qak (qch (by have:=hl.1;omega)) rfl
  ·rw[if_neg ha,e,zat.2 ha];rfl
theorem q5c{l:List CV}(h:qfx l=true){i:Nat}{c:CV}(hc:l[i]? =some c): ∃t b k,c=.agg [.int .i64 t,.sli .u8 b,.slg 3 k]/\isS [.int .i64 t,.sli .u8 b,.slg 3 k]=true:=(qcz h).2 c (zae hc)
theorem q7b(t:Int)(b:List Int)(k:List CV):qsv t b k=qus t b k:=by unfold qsv;rw[qab]
theorem xbsj(t:Int)(b:List Int)(k:List CV)(hp:isS [.int .i64 t,.sli .u8 b,.slg 3 k]=true):xbd4 t b k=zR [.cl (.int .i64 (qsv t b k).1),.cl (.bool (qsv t b k).2)] []:=by
 have hn:=qiy (g:=160) hp;unfold xbd4;rw[q7b];unfold qus;refine qak (qch (by have:=(qde hp).2;omega)) (qaw (fun h=> ?_) fun h=>qaw (fun h2=> ?_) fun h2=>qaq (by omega) ?_)
 ·rw[if_pos (Or.inl h)]
 ·rw[if_pos (Or.inr h2)]
 ·rw[if_neg (by rintro(h'| h');exact h' h;exact h' h2)];generalize (qbz 160 t b k).1=ks at*;have h2:ks.length=1:=by omega
  obtain⟨x,rfl⟩:=List.length_eq_one_iff.1 h2;obtain⟨t',b',k',rfl,hs⟩:=q5c hn (i:=0) rfl;exact qak hs rfl
theorem xbrk{α:Type}{l:List α}{n:Nat}{k:α->Option Out}{r:Option Out}{x:α}(hn:l.length=n+1)(hb:n<100)(hx:l[n]? =some x)(hk:k x=r):getK l (IntKind.i64.wrap ((l.length:Int) - 1)) k=r:=by
 have e:IntKind.i64.wrap ((l.length:Int) - 1)=(n:Int):=by rw[i64_in _ (by omega)];omega
 rw[e];exact qa1 (by omega) hx hk
theorem len2{α:Type}{l:List α}(h:l.length=2): ∃x y,l=[x,y]:=by
 match l,h with
 | [x,y],_=>exact⟨x,y,rfl⟩
theorem len3{α:Type}{l:List α}(h:l.length=3): ∃x y z,l=[x,y,z]:=by
 match l,h with
 | [x,y,z],_=>exact⟨x,y,z,rfl⟩
theorem qyv(x y:CV):qn2 [x,y]=((qyf x).1,[],(qm6 y).1,(qyf x).2&&decide ((qm6 y).2=0)):=rfl
theorem qyw(x y z:CV):qn2 [x,y,z]=((qyf x).1,qcl qc1 162 (nT y) (nB y) (nK y),(qm6 z).1,(qen qc1 162 (nT y) (nB y) (nK y)&&decide (0<((qcl qc1 162 (nT y) (nB y) (nK y)).length:Int)))&&((qyf x).2&&decide ((qm6 z).2=0))):=rfl
theorem xbsk(t:Int)(b:List Int)(k:List CV)(hp:isS [.int .i64 t,.sli .u8 b,.slg 3 k]=true):xbd5 t b k=zR [.cl (.agg [.int .i64 (qn1 t b k).1,.slg 1 (qn1 t b k).2.1,.sli .u8 (qn1 t b k).2.2.1]),.cl (.bool (qn1 t b k).2.2.2)] []:=by
 have hn:=qiy (g:=48) hp;unfold xbd5;simp only[q7b,xbx8,xbx7,q7n];unfold qc4;refine qak (qch (by have:=(qde hp).2;omega)) (qaw (fun h=> ?_) fun h=> ?_)
 ·rw[if_pos h]
 rw[if_neg (fun h'=>h' h)];generalize (qbz 48 t b k).1=ks at*;refine qae (fun h2=> ?_) fun h2=>qae (fun h3=> ?_) fun h3=>qae (fun h4=> ?_) fun h4=> ?_
 ·unfold qn2;rw[if_pos (Or.inl h2)]
 ·unfold qn2;rw[if_pos (Or.inr h3)]
 ·obtain⟨x,y,z,rfl⟩:=len3 (show ks.length=3 by omega);obtain⟨t1,b1,k1,rfl,hs1⟩:=q5c hn (i:=0) rfl;obtain⟨t2,b2,k2,rfl,hs2⟩:=q5c hn (i:=1) rfl;obtain⟨t3,b3,k3,rfl,hs3⟩:=q5c hn (i:=2) rfl;rw[qyw];have fin: ∀ {q:Bool},q=((qen qc1 162 t2 b2 k2&&decide (0<((qcl qc1 162 t2 b2 k2).length:Int)))&&((qus t1 b1 k1).2&&decide ((qbf [.int .i64 t3,.sli .u8 b3,.slg 3 k3]).2=0)))->zR [.cl (.agg [.int .i64 (qus t1 b1 k1).1,.slg 1 (qcl qc1 162 t2 b2 k2),.sli .u8 (qbf [.int .i64 t3,.sli .u8 b3,.slg 3 k3]).1]),.cl (.bool q)] []=zR [.cl (.agg [.int .i64 (qus t1 b1 k1).1,.slg 1 (qcl qc1 162 t2 b2 k2),.sli .u8 (qbf [.int .i64 t3,.sli .u8 b3,.slg 3 k3]).1]),.cl (.bool ((qen qc1 162 t2 b2 k2&&decide (0<((qcl qc1 162 t2 b2 k2).length:Int)))&&((qus t1 b1 k1).2&&decide ((qbf [.int .i64 t3,.sli .u8 b3,.slg 3 k3]).2=0))))] []:=fun h=>by rw[h]
  refine qaq (by simp) (qak hs2 (qdg (fun h5=> ?_) fun h5=> ?_))
  ·have h5:qen qc1 162 t2 b2 k2=true:=h5;refine qaq (by simp) (qak hs1 (xbrk (n:=2) rfl (by omega) rfl (qak rfl (qak hs3 (qae (fun h6=>qdg (fun h7=> ?_) fun h7=> ?_) fun h6=> ?_)))))
   ·have h6:0<((qcl qc1 162 t2 b2 k2).length:Int):=h6;have h7:(qus t1 b1 k1).2=true:=h7;exact fin (by rw[h5,h7,decide_eq_true h6];rfl)
   ·have h7:(qus t1 b1 k1).2=false:=h7;exact fin (by rw[h7,zdc,Bool.and_false])
   ·have h6: ¬0<((qcl qc1 162 t2 b2 k2).length:Int):=h6;exact fin (by rw[decide_eq_false h6,Bool.and_false,zdc])
  ·have h5:qen qc1 162 t2 b2 k2=false:=h5;refine qaq (by simp) (qak hs1 (xbrk (n:=2) rfl (by omega) rfl (qak rfl (qak hs3 ?_))));exact fin (by rw[h5,zdc,zdc])
 ·obtain⟨x,y,rfl⟩:=len2 (show ks.length=2 by omega);obtain⟨t1,b1,k1,rfl,hs1⟩:=q5c hn (i:=0) rfl;obtain⟨t2,b2,k2,rfl,hs2⟩:=q5c hn (i:=1) rfl;rw[qyv];have fin: ∀ {q:Bool},q=((qus t1 b1 k1).2&&decide ((qbf [.int .i64 t2,.sli .u8 b2,.slg 3 k2]).2=0))->zR [.cl (.agg [.int .i64 (qus t1 b1 k1).1,.slg 1 [],.sli .u8 (qbf [.int .i64 t2,.sli .u8 b2,.slg 3 k2]).1]),.cl (.bool q)] []=zR [.cl (.agg [.int .i64 (qus t1 b1 k1).1,.slg 1 [],.sli .u8 (qbf [.int .i64 t2,.sli .u8 b2,.slg 3 k2]).1]),.cl (.bool ((qus t1 b1 k1).2&&decide ((qbf [.int .i64 t2,.sli .u8 b2,.slg 3 k2]).2=0)))] []:=fun h=>by rw[h]
  refine qaq (by simp) (qak hs1 (xbrk (n:=1) rfl (by omega) rfl (qak rfl (qak hs2 (qdg (fun h5=> ?_) fun h5=> ?_)))))
  ·have h5:(qus t1 b1 k1).2=true:=h5;exact fin (by rw[h5];rfl)
  ·have h5:(qus t1 b1 k1).2=false:=h5;exact fin (by rw[h5,zdc])
theorem q1r{α:Type}{o:Option α}{x:α}{k:α->Option Out}{r:Option Out}(h:o=some x)(hk:k x=r):Option.bind o k=r:=by rw[h];exact hk
theorem xb74(K0:Int->Nat->Int->List Int->List CV->Int->Nat->List CV->List CV->Option Out)(i:Nat)(t:Int)(b:List Int)(k:List CV)(id:Int)(m:Nat)(P:List CV)(t2:Int)(b2:List Int)(k2:List CV)(t3:Int)(b3:List Int)(k3:List CV)(hk:k[1]? =some (.agg [.int .i64 t2,.sli .u8 b2,.slg 3 k2]))(hx:k2[i]? =some (.agg [.int .i64 t3,.sli .u8 b3,.slg 3 k3]))(hn:qfx k3=true):
  qee K0 FUEL i 0 0 t b k id m [] P=K0 i k3.length t b k id m (k3.map fun d=>.sli .u8 (nB d)) P:=by
 have hl:=(qcz hn).1;have h1:1<k.length:=(zad.1 hk).1;refine(xbfw (fun d=>CV.sli .u8 (nB d)) k3 hl (fun n a j acc=>qee K0 n i a j t b k id m acc P) (fun y=>K0 i k3.length t b k id m y P) (fun n j acc x hj ha hxj=> ?_) (fun n acc=> ?_) FUEL 0 [] (zbc _) rfl (by unfold FUEL;omega)).trans rfl
 ·show qfv (qee K0 n) K0 i j j t b k id m acc P=_;obtain⟨t4,b4,k4,rfl,_⟩:=q5c hn hxj;unfold qfv;refine qaq (by omega) (q1r hk (qak rfl (qa1 (by omega) hx (qak rfl (qaq (show(j:Int)<(k3.length:Int) by omega) (qaq (by omega) (q1r hk (qak rfl (qa1 (by omega) hx (qak rfl (qa1 (by omega) hxj (qak rfl ?_))))))))))));exact qpy (w:=24) (y:=sl8 b4) (A:=fun a c acc=>qee K0 n i a c t b k id m acc P) ha (by omega) (by omega)
 ·show qfv (qee K0 n) K0 i k3.length k3.length t b k id m acc P=_;unfold qfv;exact qaq (by omega) (q1r hk (qak rfl (qa1 (by omega) hx (qak rfl (qcq (show ¬((k3.length:Int)<(k3.length:Int)) by omega) rfl)))))
theorem lpM8(K0:Int->List Int->List CV->Int->Nat->List CV->Option Out)(t:Int)(b:List Int)(k:List CV)(id:Int)(t2:Int)(b2:List Int)(k2:List CV)(hk:k[1]? =some (.agg [.int .i64 t2,.sli .u8 b2,.slg 3 k2]))(hn:qfx k2=true):
  qfi K0 FUEL 0 t b k id 0 []=K0 t b k id k2.length (k2.map fun p=>.slg 1 ((nK p).map fun d=>.sli .u8 (nB d))):=by
 have hl:=(qcz hn).1;have h1:1<k.length:=(zad.1 hk).1;refine(xbfw (fun p=>CV.slg 1 ((nK p).map fun d=>.sli .u8 (nB d))) k2 hl (fun n a j acc=>qfi K0 n j t b k id a acc) (fun y=>K0 t b k id k2.length y) (fun n j acc x hj ha hxj=> ?_) (fun n acc=> ?_) FUEL 0 [] (zbc _) rfl (by unfold FUEL;omega)).trans rfl
 ·show qgw (qfi K0 n) K0 j t b k id j acc=_;obtain⟨t4,b4,k4,rfl,hs⟩:=q5c hn hxj;unfold qgw;simp only[qab];rw[xb74 _ j t b k id j acc t2 b2 k2 t4 b4 k4 hk hxj (qde hs).1];refine qaq (by omega) (q1r hk (qak rfl (qaq (show(j:Int)<(k2.length:Int) by omega) ?_)));exact qpy (w:=24) (y:=sg1 (k4.map fun d=>.sli .u8 (nB d))) (A:=fun a c acc=>qfi K0 n c t b k id a acc) ha (by omega) (by omega)
 ·show qgw (qfi K0 n) K0 k2.length t b k id k2.length acc=_;unfold qgw;exact qaq (by omega) (q1r hk (qak rfl (qcq (show ¬((k2.length:Int)<(k2.length:Int)) by omega) rfl)))
theorem xbye(t:Int)(b:List Int)(k:List CV):mkd t b k=mkdC (qbg t b k):=by unfold mkd;rw[qab]
theorem xbsw(t:Int)(b:List Int)(k:List CV)(hp:isS [.int .i64 t,.sli .u8 b,.slg 3 k]=true):xbem t b k=zR [.cl (.agg [.int .i64 (mkd t b k).1,.slg 1 (mkd t b k).2.1,.sli .u8 (mkd t b k).2.2])] []:=by
 obtain⟨hn,hlen⟩:=qde hp;have hC:mkd t b k=if k.length<2\/(nK (k.headD .nili)).length≠1 then(0,[],[]) else(q5a (qbg t b k),qn6 (qbg t b k),(qm6 (k.getD (k.length - 1) .nili)).1):=xbye t b k
 unfold xbem;simp only[qab];refine qae (fun h=> ?_) fun h=>qaq (by omega) ?_
 ·rw[hC,if_pos (Or.inl (by omega))]
 obtain⟨x,hx⟩: ∃x,k[0]? =some x:=⟨_,zag (by omega)⟩;obtain⟨t1,b1,k1,rfl,hs1⟩:=q5c hn hx;have hh:k.headD .nili=.agg [.int .i64 t1,.sli .u8 b1,.slg 3 k1]:=by cases k with|nil=>simp at hx|cons a r=>simpa using hx
 refine q1r hx (qak rfl (qaw (fun h2=> ?_) fun h2=>qaq (by omega) (q1r hx (qak rfl (qaq (show(0:Int)<(k1.length:Int) by have h2:(k1.length:Int)=1:=h2;omega) ?_)))))
 ·have h2: ¬(k1.length:Int)=1:=h2;rw[hC,if_pos (Or.inr (by rw[hh];show ¬k1.length=1;omega))]
 have h2:(k1.length:Int)=1:=h2;have hC2:=hC.trans (if_neg (by rw[hh];show ¬(k.length<2\/¬k1.length=1);omega));obtain⟨y,rfl⟩:=List.length_eq_one_iff.1 (show k1.length=1 by omega);obtain⟨t3,b3,k3,rfl,hs3⟩:=q5c (qde hs1).1 (i:=0) rfl;have hid:q5a (qbg t b k)=qfz (qe7 t3 b3 k3).1:=by show qfz (qe7 (nT ((nK (k.headD .nili)).headD .nili)) (nB ((nK (k.headD .nili)).headD .nili)) (nK ((nK (k.headD .nili)).headD .nili))).1=_;rw[hh];rfl
 obtain⟨n,hkn⟩: ∃n,k.length=n+1:=⟨k.length - 1,by omega⟩;obtain⟨z,hz⟩: ∃z,k[n]? =some z:=⟨_,zag (by omega)⟩;obtain⟨t5,b5,k5,rfl,hs5⟩:=q5c hn hz;have htok:(qm6 (k.getD (k.length - 1) .nili)).1=(qbf [.int .i64 t5,.sli .u8 b5,.slg 3 k5]).1:=by rw[hkn,show n+1 - 1=n by omega,za3,hz];rfl
 have gz: ∀ {α:Type} {f:CV->Option Out} {r:Option Out},f (.agg [.int .i64 t5,.sli .u8 b5,.slg 3 k5])=r->getK k (IntKind.i64.wrap ((k.length:Int) - 1)) f=r:=fun h=>by
  have e:IntKind.i64.wrap ((k.length:Int) - 1)=(n:Int):=by rw[i64_in _ (by omega)];omega
  rw[e];exact qa1 (by omega) hz h
 refine q1r rfl (qak rfl (qak hs3 (qae (fun h4=> ?_) fun h4=> ?_)))
 ·obtain⟨u,hu⟩: ∃u,k[1]? =some u:=⟨_,zag (by omega)⟩;obtain⟨t6,b6,k6,rfl,hs6⟩:=q5c hn hu;have htree:qn6 (qbg t b k)=k6.map fun p=>.slg 1 ((nK p).map fun d=>.sli .u8 (nB d)):=by show(if 2<k.length then(nK (k.getD 1 .nili)).map fun p=>CV.slg 1 ((nK p).map fun d=>CV.sli .u8 (nB d)) else[])=_;rw[if_pos (by omega),za3,hu];rfl
  rw[lpM8 _ t b k _ t6 b6 k6 hu (qde hs6).1];rw[hC2,hid,htree,htok];exact gz (α:=Unit) (qak rfl (qak hs5 rfl))
 ·have htree:qn6 (qbg t b k)=[]:=by show(if 2<k.length then(nK (k.getD 1 .nili)).map fun p=>CV.slg 1 ((nK p).map fun d=>CV.sli .u8 (nB d)) else[])=_;rw[if_neg (by omega)]
  rw[hC2,hid,htree,htok];exact gz (α:=Unit) (qak rfl (qak hs5 rfl))
open IntWalk (i64_in u8_in u32_in u64_in i64_quo u8_quo rem_in)
theorem qso{α σ:Type}(F:σ->α->σ)(s0:σ)(l:List α)(L:Nat->Int->σ->Option Out)(fin:σ->Option Out)(hstep: ∀(n i:Nat) (s:σ) (x:α),l[i]? =some x->i<l.length->s=(l.take i).foldl F s0->L (n+1) (i:Int) s=L n ((i+1:Nat):Int) (F s x))(hend: ∀(n:Nat) (s:σ),L (n+1) (l.length:Int) s=fin s): ∀(fuel i:Nat) (s:σ),i<=l.length->s=(l.take i).foldl F s0->l.length<fuel+i->L fuel (i:Int) s=fin (l.foldl F s0)
 | 0,i,s,hi,hs,hf=>by omega
 | fuel+1,i,s,hi,hs,hf=>by
  rcases zcc i l.length with h|h
  ·obtain⟨x,hx⟩: ∃x,l[i]? =some x:=⟨_,zag h⟩;rw[hstep fuel i s x hx h hs];refine qso F s0 l L fin hstep hend fuel (i+1) (F s x) h ?_ (by omega);rw[List.take_add_one,hx,List.foldl_append, <- hs];rfl
  ·obtain rfl:i=l.length:=by omega
   rw[hend,hs,zc2]
theorem xbqu{α:Type}(a b:List α)(hl:a.length=b.length)(L:Nat->Int->Option Out)(yes no:Option Out)(hstep: ∀(n i:Nat) (x y:α),a[i]? =some x->b[i]? =some y->i<a.length->L (n+1) (i:Int)=cond (pD (x=y)) (L n ((i+1:Nat):Int)) no)(hend: ∀n:Nat,L (n+1) (a.length:Int)=yes): ∀(fuel i:Nat),i<=a.length->a.length<fuel+i->L fuel (i:Int)=cond (pD (a.drop i=b.drop i)) yes no
 | 0,i,hi,hf=>by omega
 | fuel+1,i,hi,hf=>by
  rcases zcc i a.length with h|h
  ·obtain⟨x,hx⟩: ∃x,a[i]? =some x:=⟨_,zag h⟩;obtain⟨y,hy⟩: ∃y,b[i]? =some y:=⟨_,zag (hl▸h)⟩;rw[hstep fuel i x y hx hy h,xbqu a b hl L yes no hstep hend fuel (i+1) h (by omega),qni hx,qni hy];unfold pD;by_cases h1:x=y
   ·subst h1;by_cases h2:a.drop (i+1)=b.drop (i+1)<;>simp[h2]
   ·simp[h1]
  ·obtain rfl:i=a.length:=by omega
   rw[hend,List.drop_length,hl,List.drop_length];unfold pD;simp
theorem qi9{p:Prop}:pD p=true↔p:=by unfold pD;exact @decide_eq_true_iff _ (Classical.propDecidable _)
theorem xbs9{p:Prop}[i:Decidable p]:pD p=decide p:=by unfold pD;congr
theorem xbxn(K0:Int->Option Out)(K1:Option Out)(l:List Int)(d:Int)(hl:l.length<=1000000000000000): ∀(fuel i:Nat),i<=l.length->d∉l.take i->l.length<fuel+i->qlt K0 K1 fuel l d (l.length:Int) i=if d∈l then K0 (l.idxOf d:Int) else K1
 | 0,i,hi,hd,hf=>by omega
 | fuel+1,i,hi,hd,hf=>by
  show qmy (qlt K0 K1 fuel) K0 K1 l d (l.length:Int) i=_;unfold qmy;rcases zcc i l.length with h|h
  ·obtain⟨x,hx⟩: ∃x,l[i]? =some x:=⟨_,zag h⟩;have e2:IntKind.i64.wrap ((i:Int)+1)=((i+1:Nat):Int):=i64_in _ (by omega);have hsp:l=l.take i++x::l.drop (i+1):=by rw[<- qni hx,List.take_append_drop]
   refine qaq (by omega) (qa1 (by omega) hx (qae (fun h1=> ?_) fun h1=> ?_))
   ·subst h1;have hm:d∈l:=zae hx;have hio:l.idxOf d=i:=by rw[hsp,List.idxOf_append,if_neg hd,List.idxOf_cons_self,zay,zcm,Nat.min_eq_left hi]
    rw[if_pos hm,hio]
   ·rw[e2];refine xbxn K0 K1 l d hl fuel (i+1) h ?_ (by omega);rw[List.take_add_one,hx];simp only[Option.toList,zap,zdu,not_or];exact⟨hd,h1⟩
  ·obtain rfl:i=l.length:=by omega
   rw[zc2] at hd;rw[if_neg hd];exact qcq (by omega) rfl
theorem xbs2(l:List Int)(d:Int)(hp:qh1 l=true):xbet l d=zI (idxI l d):=by
 have hl:=qst hp;unfold xbet idxI;rw[qab,qab];refine(xbxn _ _ l d hl FUEL 0 (zbc _) (by simp) (by unfold FUEL;omega)).trans ?_;by_cases h:d∈l
 ·rw[if_pos h,if_pos h]
 ·rw[if_neg h,if_neg h]
theorem xb5l(l:List Int)(d:Int)(hp:qh1 l=true):xbw5 l d=zB (hasI l d):=by
 unfold xbw5;refine qak hp ?_;have e:decide ((0:Int)<=idxI l d)=hasI l d:=by
  unfold idxI hasI;rw[qab,qab];by_cases h:d∈l
  ·rw[if_pos h,decide_eq_true h];exact decide_eq_true (by omega)
  ·rw[if_neg h,decide_eq_false h];rfl
 show zB (decide ((0:Int)<=idxI l d))=_;rw[e]
theorem xb6t{α:Type}{x y:α}[Decidable (x=y)]{a b:Option Out}:cond (!decide (x=y)) a b=cond (pD (x=y)) b a:=by rw[xbs9];cases decide (x=y)<;>rfl
theorem qtz(a b:List Int):xblv a b=pD (a=b):=by unfold xblv;rw[qab];exact xbs9.symm
theorem xb21{α:Type}{a b:List α}(h: ¬(a.length:Int)=(b.length:Int)):pD (a=b)=false:=zat.2 fun h'=>h (by rw[qi9.1 h'])
theorem xb8m(a b:List Int)(hp:qh1 a=true):xb64 a b=zB (xblv a b):=by
 have ha:=qst hp;unfold xb64;rw[qtz];refine qaw (fun h=>by rw[xb21 h]) fun h=> ?_;have hl:a.length=b.length:=by omega
 rw[qab];refine(xbqu a b hl (fun n i=>q47 _ _ n a b (a.length:Int) i) _ (zB false) (fun n i x y hx hy hi=> ?_) (fun n=>qcq (show ¬(a.length:Int)<(a.length:Int) by omega) rfl) FUEL 0 (zbc _) (by unfold FUEL;omega)).trans ?_
 ·have e2:IntKind.i64.wrap ((i:Int)+1)=((i+1:Nat):Int):=i64_in _ (by omega);refine qaq (by omega) (qa1 (by omega) hx (qa1 (by omega) hy ?_));rw[e2];exact xb6t
 ·simp only[zbx];cases pD (a=b)<;>rfl
theorem xbzf(a b:List Int)(hp:qh1 a=true):xbnc a b=zB (xblv a b):=by
 have ha:=qst hp;unfold xbnc;rw[qtz];refine qaw (fun h=>by rw[xb21 h]) fun h=> ?_;have hl:a.length=b.length:=by omega
 rw[qab];refine(xbqu a b hl (fun n i=>qs4 _ _ n a b i) _ (zB false) (fun n i x y hx hy hi=> ?_) (fun n=>qcq (show ¬(a.length:Int)<(a.length:Int) by omega) rfl) FUEL 0 (zbc _) (by unfold FUEL;omega)).trans ?_
 ·have e2:IntKind.i64.wrap ((i:Int)+1)=((i+1:Nat):Int):=i64_in _ (by omega);refine qaq (by omega) (qa1 (by omega) hx (qa1 (by omega) hy ?_));rw[e2];exact xb6t
 ·simp only[zbx];cases pD (a=b)<;>rfl
theorem q4w{α:Type}{f:α->Nat}{B:Nat}: ∀ {l:List α} {s:Nat},(∀c∈l,f c<=B)->l.foldl (fun s c=>s+f c) s<=s+l.length*B
 | [],s,_=>by simp
 | x::r,s,h=>by have h1:=h x (by simp);have:=q4w (l:=r) (s:=s+f x) fun c hc=>h c (by simp[hc]);rw[zbi,zac,zcu];omega
theorem q4x{α β:Type}{f:α->List β}: ∀ {l:List α} {s:List β},l.foldl (fun s c=>s++f c) s=s++l.flatMap f
 | [],s=>by simp
 | x::r,s=>by rw[zbi,q4x];simp
theorem qu4{α β:Type}{f:α->List β}{B:Nat}: ∀ {l:List α},(∀c∈l,(f c).length<=B)->(l.flatMap f).length<=l.length*B
 | [],_=>by simp
 | x::r,h=>by have h1:=h x (by simp);have:=qu4 (l:=r) fun c hc=>h c (by simp[hc]);rw[za1,zaf,zac,zcu];omega
theorem qj6{l:List CV}(h:qeq l): ∀c∈l,(qbl c).length<=10000:=fun c hc=>by obtain⟨m,rfl,hm⟩:=h.2 c hc;exact hm.1
theorem xbkl(l:List CV)(hp:qb0 l=true):q60 l=zR [.cl (.slg 3 (xbva l))] []:=by
 have hl:=qdn hp;have hlen:=qj6 hl;have hl1:=hl.1;have hm:l.length*10000<=10000*10000:=zdi hl1 (zas _);have htk: ∀i,(l.take i).length*10000<=10000*10000:=fun i=>zdi (by rw[zcm];omega) (zas _);have htm: ∀i, ∀c∈l.take i,(qbl c).length<=10000:=fun i c hc=>hlen c (zbq hc);unfold q60 xbva;simp only[qab];refine(qso (fun(s:Nat) c=>s+(qbl c).length) 0 l (fun n i s=>qi6 _ _ n l (s:Int) l (l.length:Int) i) _ (fun n i s x hx hi hs=> ?_) (fun n s=>qcq (show ¬(l.length:Int)<(l.length:Int) by omega) rfl) FUEL 0 0 (zbc _) rfl (by unfold FUEL;omega)).trans ?_
 ·obtain⟨m,rfl,hm'⟩:=hl.2 x (zae hx);have hm':=hm'.1;have hs':s<=100000000:=by have:=q4w (s:=0) (htm i);have:=htk i;rw[hs];omega
  have e1:IntKind.i64.wrap ((s:Int)+(m.length:Int))=((s+m.length:Nat):Int):=by rw[i64_in _ (by omega)];omega
  have e2:IntKind.i64.wrap ((i:Int)+1)=((i+1:Nat):Int):=i64_in _ (by omega);refine qaq (by omega) (qa1 (by omega) hx (qak rfl ?_));show cond (decide (IntKind.i64.wrap ((s:Int)+(m.length:Int))<0)) _ (qi6 _ _ n l (IntKind.i64.wrap ((s:Int)+(m.length:Int))) l (l.length:Int) (IntKind.i64.wrap ((i:Int)+1)))=_;rw[e1,e2];exact qcq (by omega) rfl
 ·have hb:=q4w (s:=0) hlen;rw[qce];refine qak (by unfold q1g;rw[qab];exact decide_eq_true (by omega)) ?_;refine(qso (fun(s:List CV) c=>s++qbl c) [] l (fun n i s=>qhg _ n s.length l (l.length:Int) i s) (fun s=>zR [.cl (.slg 3 s)] []) (fun n i s x hx hi hs=> ?_) (fun n s=>qcq (show ¬(l.length:Int)<(l.length:Int) by omega) rfl) FUEL 0 [] (zbc _) rfl (by unfold FUEL;omega)).trans ?_
  ·obtain⟨m,rfl,hm'⟩:=hl.2 x (zae hx);have hm':=hm'.1;have hs':s.length<=100000000:=by have:=qu4 (htm i);have:=htk i;rw[hs,q4x];simp only[za7];omega
   have e2:IntKind.i64.wrap ((i:Int)+1)=((i+1:Nat):Int):=i64_in _ (by omega);refine qaq (by omega) (qa1 (by omega) hx (qak rfl ?_));show rmK (s++m).length 56 (qhg _ n (s++m).length l (l.length:Int) (IntKind.i64.wrap ((i:Int)+1)) (s++m))=_;rw[e2];have:(s++m).length<=200000000:=by rw[zaf];omega
   exact qzp (by omega) (by omega) rfl
  ·rw[q4x];rfl
theorem xbrr(l:List CV):xbva l=l.flatMap qbl:=by unfold xbva;rw[qab]
theorem q0r(o:List Int)(d:Int):(qf6 o d).length<=o.length+1:=by unfold qf6;split<;>simp
theorem qiw: ∀(l:List CV) (o:List Int),(l.foldl (fun o c=>qf6 o (mD c)) o).length<=o.length+l.length
 | [],o=>by simp
 | x::r,o=>by have:=qiw r (qf6 o (mD x));have:=q0r o (mD x);simp only[zbi,zac];omega
theorem q6i(l:List CV):qb4 l=(l.flatMap qbl).foldl (fun o c=>qf6 o (mD c)) []:=by unfold qb4 q1o;rw[<- List.map_flatMap,List.foldl_map]
theorem xbdi(l:List CV):qb4 l=l.foldl (fun o c=>(qbl c).foldl (fun o c=>qf6 o (mD c)) o) []:=by
 rw[q6i];generalize ([]:List Int)=o
 induction l generalizing o with
 | nil=>rfl
 | cons x r ih=>rw[za1,List.foldl_append,ih];rfl
theorem qk9(l:List CV):qmm l=qb4 l:=by unfold qmm;rw[qab]
theorem xbxj(l:List Int)(d:Int):hasI l d=decide (d∈l):=by unfold hasI;rw[qab]
theorem xbkf(l:List CV)(hp:qb0 l=true):q6t l=zR [.cl (.sli .i64 (qmm l))] []:=by
 have hl:=qdn hp;have hlen:=qu4 (qj6 hl);have hl1:=hl.1;have hm:l.length*10000<=10000*10000:=zdi hl1 (zas _);unfold q6t;rw[qk9,q6i];refine qak hp ?_;simp only[qab,xbrr];have hin: ∀c∈l.flatMap qbl,isMk c:=fun c hc=>by obtain⟨x,hx,hc⟩:=zbv.1 hc;obtain⟨m,rfl,hm'⟩:=hl.2 x hx;exact hm'.2 c hc
 generalize l.flatMap qbl=j at*;refine(qso (fun(o:List Int) c=>qf6 o (mD c)) [] j (fun n i s=>qfe _ n s.length j (j.length:Int) i s) (fun s=>zR [.cl (.sli .i64 s)] []) (fun n i s x hx hi hs=> ?_) (fun n s=>qcq (show ¬(j.length:Int)<(j.length:Int) by omega) rfl) FUEL 0 [] (zbc _) rfl (by unfold FUEL;omega)).trans rfl;obtain⟨d,t,w,rfl,ht,hw⟩:=hin x (zae hx);have hs':s.length<=100000000:=by have:=qiw (j.take i) [];rw[zcm] at this;rw[hs];simp only[zbr] at this;omega
 have e2:IntKind.i64.wrap ((i:Int)+1)=((i+1:Nat):Int):=i64_in _ (by omega);refine qaq (by omega) (qa1 (by omega) hx (qak rfl (qak (qms (by omega)) ?_)));show cond (!hasI s d) (rmK (s++[d]).length 8 (qfe _ n (s++[d]).length j (j.length:Int) (IntKind.i64.wrap ((i:Int)+1)) (s++[d]))) (qfe _ n s.length j (j.length:Int) (IntKind.i64.wrap ((i:Int)+1)) s)=qfe _ n (qf6 s d).length j (j.length:Int) ((i+1:Nat):Int) (qf6 s d);rw[e2,xbxj];unfold qf6;by_cases h:d∈s
 ·rw[decide_eq_true h,if_pos h];rfl
 ·rw[decide_eq_false h,if_neg h];have:(s++[d]).length<=200000000:=by rw[zaf];simp;omega
  exact qzp (by omega) (by omega) rfl
theorem xbcy(d:Int): ∀(l:List Int) (s:Bool),l.foldl (fun s e=>s|| decide (e=d)) s=(s|| decide (d∈l))
 | [],s=>by simp
 | x::r,s=>by
  rw[zbi,xbcy d r];simp only[zav];by_cases h1:x=d
  ·subst h1;simp
  ·have: ¬d=x:=fun h=>h1 h.symm;simp[h1,this]
theorem xb73(K0:List CV->Nat->Int->Int->Bool->List Int->Option Out)(l:List CV)(i k:Nat)(d:Int)(t:List CV)(w:List Int)(row:List CV)(o:List Int)(hx:l[i]? =some (.slg 3 row))(hy:row[k]? =some (qz7 d t w))(ho:o.length<=100000000):
  qej K0 FUEL l o.length i k false 0 o=K0 l o.length i k (decide (d∈o)) o:=by
 refine(qso (fun(s:Bool) e=>s|| decide (e=d)) false o (fun n j s=>qej K0 n l o.length i k s j o) (fun s=>K0 l o.length i k s o) (fun n j s x hxj hj hs=> ?_) (fun n s=>qcq (show ¬(o.length:Int)<(o.length:Int) by omega) rfl) FUEL 0 false (zbc _) rfl (by unfold FUEL;omega)).trans (by rw[xbcy];rfl);have e2:IntKind.i64.wrap ((j:Int)+1)=((j+1:Nat):Int):=i64_in _ (by omega);refine qaq (by omega) ?_
 cases s with
 | true=>
  show qej K0 n l o.length i k true (IntKind.i64.wrap ((j:Int)+1)) o=_;rw[e2];rfl
 | false=>
  refine xbbe rfl (xbxm (by omega) (by omega) (q1r (x:=x) (by rw[zay];exact hxj) (qa1 (by omega) hx (qak rfl (qa1 (by omega) hy (qak rfl ?_))))));show qej K0 n l o.length i k (decide (x=d)) (IntKind.i64.wrap ((j:Int)+1)) o=_;rw[e2];rfl
theorem lpD6(K0:List CV->Nat->Int->List Int->Option Out)(l:List CV)(i:Nat)(row:List CV)(o:List Int)(hx:l[i]? =some (.slg 3 row))(hr:qn4 row)(ho:o.length+row.length<=100000000):
  qdr K0 FUEL l o.length i 0 o=K0 l (row.foldl (fun o c=>qf6 o (mD c)) o).length i (row.foldl (fun o c=>qf6 o (mD c)) o):=by
 refine(qso (fun(o:List Int) c=>qf6 o (mD c)) o row (fun n j s=>qdr K0 n l s.length i j s) (fun s=>K0 l s.length i s) (fun n j s x hxj hj hs=> ?_) (fun n s=> ?_) FUEL 0 o (zbc _) rfl (by have:=hr.1;unfold FUEL;omega)).trans rfl
 ·obtain⟨d,t,w,rfl,ht,hw⟩:=hr.2 x (zae hxj);have hs':s.length<=100000000:=by have:=qiw (row.take j) o;rw[zcm] at this;rw[hs];omega
  have hr1:=hr.1;have e2:IntKind.i64.wrap ((j:Int)+1)=((j+1:Nat):Int):=i64_in _ (by omega);show qft (qdr K0 n) K0 l s.length i j s=_;unfold qft;simp only[qab];rw[xb73 _ l i j d t w row s hx hxj (by omega)];refine qa1 (by omega) hx (qak rfl (qaq (show(j:Int)<(row.length:Int) by omega) ?_));show cond (!decide (d∈s)) _ (qdr K0 n l s.length i (IntKind.i64.wrap ((j:Int)+1)) s)=qdr K0 n l (qf6 s d).length i ((j+1:Nat):Int) (qf6 s d);rw[e2];unfold qf6;by_cases h:d∈s
  ·rw[decide_eq_true h,if_pos h];rfl
  ·rw[decide_eq_false h,if_neg h];refine qa1 (by omega) hx (qak rfl (qa1 (by omega) hxj (qak rfl ?_)));have:(s++[d]).length<=200000000:=by rw[zaf];simp;omega
   exact qzp (by show(s++[d]).length*8<=_;omega) (by show(s++[d]).length<=_;omega) rfl
 ·show qft (qdr K0 n) K0 l s.length i row.length s=_;unfold qft;exact qa1 (by omega) hx (qak rfl (qcq (show ¬((row.length:Int)<(row.length:Int)) by omega) rfl))
theorem qsn: ∀(l:List CV) (o:List Int),(∀c∈l,(qbl c).length<=10000)->(l.foldl (fun o c=>(qbl c).foldl (fun o c=>qf6 o (mD c)) o) o).length<=o.length+l.length*10000
 | [],o,_=>by simp
 | x::r,o,h=>by have:=qsn r ((qbl x).foldl (fun o c=>qf6 o (mD c)) o) fun c hc=>h c (by simp[hc]);have:=qiw (qbl x) o;have:=h x (by simp);simp only[zbi,zac];omega
theorem lpD3(K0:Nat->List Int->Option Out)(l:List CV)(hl:qeq l):qfg K0 FUEL l 0 0 []=K0 (qb4 l).length (qb4 l):=by
 have hlen:=qj6 hl;have hl1:=hl.1;rw[xbdi];refine(qso (fun(o:List Int) c=>(qbl c).foldl (fun o c=>qf6 o (mD c)) o) [] l (fun n j s=>qfg K0 n l s.length j s) (fun s=>K0 s.length s) (fun n j s x hxj hj hs=> ?_) (fun n s=>qcq (show ¬(l.length:Int)<(l.length:Int) by omega) rfl) FUEL 0 [] (zbc _) rfl (by unfold FUEL;omega)).trans rfl;obtain⟨row,rfl,hr⟩:=hl.2 x (zae hxj);have hs':s.length<=j*10000:=by have:=qsn (l.take j) [] fun c hc=>hlen c (zbq hc);rw[zcm,Nat.min_eq_left (by omega)] at this;rw[hs];simpa using this
 have hr1:=hr.1;have e2:IntKind.i64.wrap ((j:Int)+1)=((j+1:Nat):Int):=i64_in _ (by omega);show qkm (qfg K0 n) K0 l s.length j s=_;unfold qkm;simp only[qab];rw[lpD6 _ l j row s hxj hr (by omega)];refine qaq (by omega) ?_;show qfg K0 n l _ (IntKind.i64.wrap ((j:Int)+1)) _=_;rw[e2];rfl
theorem xbkj(l:List CV)(hp:qb0 l=true):q6x l=zR [.cl (.sli .i64 (qmm l))] []:=by unfold q6x;rw[qk9,qab];exact lpD3 _ l (qdn hp)
open IntWalk (i64_in u8_in u32_in u64_in i64_quo u8_quo rem_in)
def Bk(n B:Nat)(c:CV):Prop:= ∃y,c=.agg y/\isTf n y=true/\qd6 n y<=B
theorem xbmd{k m B B':Nat}{c:CV}(h:Bk k B c)(hk:k<=m)(hB:B<=B'):Bk m B' c:=by obtain⟨y,rfl,h1,h2⟩:=h;have h3:=xb2m h1 hk;exact⟨y,rfl,h3,by rw[<- xbmj h1 h3];omega⟩
theorem qmb{n S:Nat}{t:Int}{b:List Int}{l:List CV}(hb: ∀x∈b,0<=x/\x<=255)(h:(∀c∈l, ∃y,c=.agg y/\isTf n y=true)/\(l.map fun c=>qd6 n (cell1 c)).sum<=S):Bk (n+1) (1+b.length+S) (qbg t b l):=
 ⟨_,rfl,xb23 hb h.1,Nat.add_le_add_left h.2 _⟩
theorem qz8{n:Nat}{t:Int}{b:List Int}(hb: ∀x∈b,0<=x/\x<=255):Bk (n+1) (1+b.length) (qbg t b []):=qmb (S:=0) hb ⟨by simp,by simp⟩
theorem qjk{n B S:Nat}{c:CV}{l:List CV}(h:Bk n B c)(hl:(∀c∈l, ∃y,c=.agg y/\isTf n y=true)/\(l.map fun c=>qd6 n (cell1 c)).sum<=S):(∀x∈c::l, ∃y,x=.agg y/\isTf n y=true)/\((c::l).map fun c=>qd6 n (cell1 c)).sum<=B+S:=by
 obtain⟨y,rfl,h1,h2⟩:=h;refine⟨fun x hx=> ?_, ?_⟩
 ·rcases zav.1 hx with rfl|hx
  ·exact⟨y,rfl,h1⟩
  ·exact hl.1 x hx
 ·have:=hl.2;show qd6 n y+_<=_;exact Nat.add_le_add h2 this
theorem xbbr{n:Nat}:(∀x∈([]:List CV), ∃y,x=.agg y/\isTf n y=true)/\(([]:List CV).map fun c=>qd6 n (cell1 c)).sum<=0:=⟨by simp,by simp⟩
theorem xb2j{f:CV->Option CV}{g:CV->Nat}{n:Nat}: ∀ {l:List CV},(∀c∈l, ∀y,f c=some y->Bk n (g c) y)->(∀y∈l.filterMap f, ∃z,y=.agg z/\isTf n z=true)/\((l.filterMap f).map fun c=>qd6 n (cell1 c)).sum<=(l.map g).sum
 | [],_=>⟨by simp,by simp⟩
 | x::r,h=>by
  have ih:=xb2j (l:=r) fun c hc=>h c (by simp[hc])
  cases hx:f x with
  | none=>
   rw[List.filterMap_cons_none hx];refine⟨ih.1, ?_⟩;simp only[zbe,zcf];omega
  | some y=>
   rw[zbb hx];have:=qjk (h x (by simp) y hx) ih;refine⟨this.1, ?_⟩;have:=this.2;simp only[zbe,zcf] at this ⊢;omega
theorem xbl2{f:CV->Option CV}{g:CV->Nat}{n:Nat}{lo hi:Int}{l:List CV}(h: ∀c∈l, ∀y,f c=some y->Bk n (g c) y):(∀y∈evL f lo hi l, ∃z,y=.agg z/\isTf n z=true)/\((evL f lo hi l).map fun c=>qd6 n (cell1 c)).sum<=(l.map g).sum:=by
 unfold evL;split
 ·exact xb2j h
 ·exact⟨by simp,by simp⟩
theorem xb3m{s:Int}{l:List CV}(h:xbbg l): ∀c∈l, ∀y,digF s c=some y->Bk 30 (1+(qcf c).length) y:=fun c hc y hy=>by
 obtain⟨b,rfl,hb⟩:=h.2 c hc;unfold digF at hy;split at hy
 ·cases hy;exact qz8 (qal hb).2
 ·cases hy
theorem xb0c{s:Int}{t:List CV}(h:xbbh t): ∀c∈t, ∀y,qjr s c=some y->Bk 31 (1+q5j (qbl c)) y:=fun c hc y hy=>by
 obtain⟨l,rfl,hl⟩:=h.2 c hc;unfold qjr at hy;split at hy
 ·cases hy;exact qmb (b:=[]) (by simp) (xbl2 (xb3m hl))
 ·cases hy
theorem xb2o{s:Int}{t:List CV}(h:xbbh t)(lo hi:Int):Bk 32 (1+qub t) (qbg 162 [] (evL (qjr s) lo hi t)):=qmb (b:=[]) (by simp) (xbl2 (xb0c h))
theorem xbqt: ∀e∈qci,(qco e.2.2).length<=11/\∀x∈qco e.2.2,0<=x/\x<=255:=by decide+kernel
theorem xb68(d:Int):Bk 31 12 (qel (qaf d).2.2):=by
 have h:(qax (qaf d).2.2).length<=11/\∀x∈qax (qaf d).2.2,0<=x/\x<=255:=by
  unfold qax;rw[qab];rcases qqy d with h|h
  ·rw[h];exact⟨by decide,by decide⟩
  ·exact xbqt _ h.1
 unfold qel qge xbl7;rw[qab];split
 ·exact xbmd (qz8 (n:=30) h.2) (by omega) (by show 1+(qax (qaf d).2.2).length<=12;omega)
 ·exact xbmd (qz8 (n:=30) (by simp)) (by omega) (by simp)
theorem xb8r{w:List Int}(hw:qad w=true)(h:(qap w).2=0):Bk 32 w.length (ndCV (qap w).1):=by
 rw[qn7] at h ⊢;by_cases hz:(qat 32 w).1=0
 ·rw[if_pos hz] at h ⊢;by_cases hlt:(qat 32 w).2.2<w.length
  ·rw[if_pos hlt] at h;exact absurd h (by decide: ¬(7:Int)=0)
  ·rw[if_neg hlt];obtain⟨⟨h1,h2,h3,h4⟩,h5⟩:=qly 32 w hw hz;rw[h5,zcm] at h4;exact⟨ndL (qat 32 w).2.1,rfl,h1,by omega⟩
 ·rw[if_neg hz] at h;exact absurd h hz
theorem xbyc{l:List CV}(h: ∀c∈l,isMk c): ∀c∈l, ∀y,qjw c=some y->Bk 33 (2+(mW c).length+qub (mT c)+13) y:=fun c hc y hy=>by
 obtain⟨d,t,w,rfl,ht,hw⟩:=h c hc;replace hy:(if qc8 d t w=true then some (qbg 48 [] (ql9 d t w)) else none)=some y:=hy;split at hy
 ·rename_i hm;obtain⟨_,h2,_⟩:=qdx.1 hm;cases hy;have hbox:Bk 32 13 (qbg 160 [] [qel (qaf d).2.2]):=qmb (S:=12) (b:=[]) (by simp) (qjk (S:=0) (xb68 d) xbbr);have htok:=xb8r hw h2;unfold ql9;refine xbmd (k:=33) (B:=1+0+(13+((1+qub t)+(w.length+0)))) (qmb (b:=[]) (by simp) ?_) (zas _) (by show _<=2+w.length+qub t+13;omega);split
  ·have:=qjk hbox (qjk htok xbbr);exact⟨this.1,by have:=this.2;simp only[za7];omega⟩
  ·exact qjk hbox (qjk (xb2o ht 0 20) (qjk htok xbbr))
 ·cases hy
theorem q5x{g:CV->Nat}{K:Nat}: ∀ {l:List CV},(l.map fun c=>g c+K).sum=(l.map g).sum+K*l.length
 | []=>by simp
 | x::r=>by have:=q5x (g:=g) (K:=K) (l:=r);simp only[zbe,zcf,zac,Nat.mul_succ];omega
theorem q1a{α β:Type}{f:α->Option β}{lo hi:Int}{l:List α}(h:evB f lo hi l=true):lo<=(l.length:Int)/\(l.length:Int)<=hi/\∀c∈l, ∃y,f c=some y:=by unfold evB at h;rw[zab,decide_eq_true_eq,zai] at h;exact⟨h.1.1,h.1.2,fun c hc=>zax.1 (h.2 c hc)⟩
theorem xbqm{l:List CV}(h: ∀c∈l, ∃m,c=.slg 3 m/\qn4 m): ∀c∈l, ∀y,qdu c=some y->Bk 34 (1+qgy (qbl c)+260) y:=fun c hc y hy=>by
 obtain⟨m,rfl,hm⟩:=h c hc;replace hy:(if evB qjw 1 20 m=true then some (qbg 48 [] (evL qjw 1 20 m)) else none)=some y:=hy;split at hy
 ·rename_i hb;cases hy;have:=xbl2 (lo:=1) (hi:=20) (xbyc hm.2);rw[q5x] at this;have hl:=(q1a hb).2.1;refine xbmd (qmb (b:=[]) (by simp) this) (zas _) ?_;show 1+0+(qgy m+13*m.length)<=1+qgy m+260;omega
 ·cases hy
theorem qjd{l:List CV}(h:recO l=true):qeq l/\qhx l<=12100:=by unfold recO at h;rw[qab] at h;exact @of_decide_eq_true _ (Classical.propDecidable _) h
theorem q8b{l:List CV}(h:qeq l/\qhx l<=12100):recO l=true:=by unfold recO;rw[qab];exact @decide_eq_true _ (Classical.propDecidable _) h
theorem xbja{l:List CV}(h:qeq l)(hn:qhx l<=12100):Bk 35 14701 (qbg 48 [] (evL qdu 1 10 l)):=by
 by_cases hb:evB qdu 1 10 l=true
 ·have:=xbl2 (lo:=1) (hi:=10) (xbqm h.2);rw[q5x] at this;have hl:=(q1a hb).2.1;refine xbmd (qmb (b:=[]) (by simp) this) (zas _) ?_;have:qhx l=(l.map fun c=>1+qgy (qbl c)).sum:=rfl;show 1+0+((l.map fun c=>1+qgy (qbl c)).sum+260*l.length)<=14701;omega
 ·unfold evL;rw[if_neg hb];exact xbmd (qz8 (by simp)) (zas _) (by simp)
theorem xb27{n B:Nat}{t:Int}{b:List Int}{k:List CV}(h:Bk n B (qbg t b k))(hB:B<=30000):isS [.int .i64 t,.sli .u8 b,.slg 3 k]=true:=by obtain⟨y,e,h1,h2⟩:=h;cases e;exact q9x h1 (by omega)
theorem qsp{d:Int}: ∀ {l o:List Int},d∈l.foldl qf6 o->d∈o\/d∈l
 | [],o,h=>.inl h
 | x::r,o,h=>by
  rcases qsp (l:=r) h with h|h
  ·unfold qf6 at h;split at h
   ·exact .inl h
   ·rcases zap.1 h with h|h
    ·exact .inl h
    ·exact .inr (by simp at h;simp[h])
  ·exact .inr (by simp[h])
theorem qhb: ∀ {l o:List Int},(l.foldl qf6 o).length<=o.length+l.length
 | [],o=>by simp
 | x::r,o=>by have:=qhb (l:=r) (o:=qf6 o x);have:=q0r o x;simp only[zbi,zac];omega
theorem qj5{c:CV}{m:List CV}{y:CV}(hc:c=.slg 3 m)(h:qdu c=some y):evB qjw 1 20 m=true/\y=qbg 48 [] (evL qjw 1 20 m):=by
 subst hc;replace h:(if evB qjw 1 20 m=true then some (qbg 48 [] (evL qjw 1 20 m)) else none)=some y:=h;split at h
 ·rename_i hb;cases h;exact⟨hb,rfl⟩
 ·cases h
theorem qra{c:CV}{d:Int}{t:List CV}{w:List Int}{y:CV}(hc:c=qz7 d t w)(h:qjw c=some y):qc8 d t w=true/\y=qbg 48 [] (ql9 d t w):=by
 subst hc;replace h:(if qc8 d t w=true then some (qbg 48 [] (ql9 d t w)) else none)=some y:=h;split at h
 ·rename_i hb;cases h;exact⟨hb,rfl⟩
 ·cases h
theorem qj7{c:List CV}(hc:qeq c)(h:evB qdu 1 10 c=true):(∀d∈qb4 c,(qaf d).2.1=1)/\(qb4 c).length<=200:=by
 obtain⟨_,hl,ha⟩:=q1a h;refine⟨fun d hd=> ?_, ?_⟩
 ·rcases qsp hd with h|h
  ·simp at h
  ·obtain⟨x,hx,hm⟩:=zbv.1 h;obtain⟨m,rfl,hmm⟩:=hc.2 x hx;obtain⟨y,hy⟩:=ha _ hx;obtain⟨hb, -⟩:=qj5 rfl hy;obtain⟨z,hz,rfl⟩:=zbp.1 hm;obtain⟨d,t,w,rfl, -, -⟩:=hmm.2 z hz;obtain⟨u,hu⟩:=(q1a hb).2.2 _ hz;exact(qdx.1 (qra rfl hu).1).1
 ·have h1:(qb4 c).length<=0+(c.flatMap fun c=>q1o (qbl c)).length:=qhb;have h2:(c.flatMap fun c=>q1o (qbl c)).length<=c.length*20:=qu4 fun x hx=>by obtain⟨m,rfl,hmm⟩:=hc.2 x hx;obtain⟨y,hy⟩:=ha _ hx;have:=(q1a (qj5 rfl hy).1).2.1;show(m.map mD).length<=20;rw[zaw];omega
  omega
theorem qna{d:Int}(h:(qaf d).2.1=1):q6b d=some (qr0 d)/\qr0 d=qbg 48 [] [qel (qaf d).2.2]:=by
 have e:=xbny (g:=d) (b:=[]) (by omega) (by rw[h];rfl);rw[xbf2] at e;have e2:qjm (qaf d).2.1 []=[]:=by rw[h];rfl
 rw[e2] at e;unfold q6b qr0;rw[e];exact⟨if_pos rfl,rfl⟩
theorem xbmi{g:List Int}(h: ∀d∈g,(qaf d).2.1=1):evL q6b 0 (g.length:Int) g=g.map qr0:=by
 have hall: ∀ {l:List Int},(∀d∈l,(qaf d).2.1=1)->l.all (fun d=>(q6b d).isSome)=true/\l.filterMap q6b=l.map qr0:=fun {l}=>by
  induction l with
  | nil=>intro _;exact⟨rfl,rfl⟩
  | cons x r ih=>
   intro h;have:=ih fun d hd=>h d (by simp[hd]);have hx:=(qna (h x (by simp))).1;rw[zb0,hx,this.1,zbb hx,this.2];exact⟨rfl,rfl⟩
 have e:evB q6b 0 (g.length:Int) g=true:=by unfold evB;rw[(hall h).1,decide_eq_true (by omega)];rfl
 rw[(qqo e).1,(hall h).2]
theorem qet{g:List Int}{c:List CV}:q1c g c=true↔evB qdu 1 10 c=true/\g=qb4 c:=by unfold q1c;rw[zab,decide_eq_true_eq]
theorem xbu6:Bk 35 2 (qbg 2 (vInt 1) []):=by rw[xb2v];exact qz8 (by simp)
theorem xb4a{g:List Int}(h: ∀d∈g,(qaf d).2.1=1):(∀y∈g.map qr0, ∃z,y=.agg z/\isTf 34 z=true)/\((g.map qr0).map fun c=>qd6 34 (cell1 c)).sum<=13*g.length:=by
 induction g with
 | nil=>exact⟨by simp,by simp⟩
 | cons x r ih=>
  have hx:Bk 34 13 (qr0 x):=by rw[(qna (h x (by simp))).2];exact xbmd (qmb (S:=12) (b:=[]) (by simp) (qjk (S:=0) (xb68 x) xbbr)) (by omega) (by simp)
  have:=qjk hx (ih fun d hd=>h d (by simp[hd]));refine⟨this.1, ?_⟩;have:=this.2;rw[zac,Nat.mul_succ];rw[zbe];omega
theorem xbjd{g:List Int}{c:List CV}(hc:qeq c)(hn:qhx c<=12100)(h:q1c g c=true):isS [.int .i64 48,.sli .u8 [],.slg 3 (qj8 g c)]=true:=by obtain⟨hb,rfl⟩:=qet.1 h;obtain⟨hd,hl⟩:=qj7 hc hb;have hg:Bk 35 2601 (qbg 48 [] ((qb4 c).map qr0)):=xbmd (qmb (b:=[]) (by simp) (xb4a hd)) (zas _) (by show 1+0+13*(qb4 c).length<=2601;omega);exact xb27 (B:=1+0+(2+(2601+(14701+0)))) (qmb (b:=[]) (by simp) (qjk xbu6 (qjk hg (qjk (xbja hc hn) xbbr)))) (by omega)
theorem q1d(g:List Int)(c:List CV):evOk g c=qu9 g c:=by unfold evOk;rw[qab]
theorem q4u{g:List Int}{c:List CV}(h:q1c g c=true):qu9 g c=qul [.int .i64 48,.sli .u8 [],.slg 3 (qj8 g c)]:=by unfold qu9;rw[h,zbt]
theorem qx2{g:List Int}{c:List CV}(h:q1c g c=true):qga g c=(48,qj8 g c):=by unfold qga;rw[qab,if_pos h]
theorem qqw{g:List Int}{c:List CV}(h: ¬q1c g c=true):qga g c=(0,[])/\qu9 g c=false:=by unfold qga qu9;rw[qab,if_neg h,zat.2 h];exact⟨rfl,rfl⟩
theorem st1:q5u 1=true:=by unfold q5u;exact decide_eq_true (by omega)
theorem xb8i(g:List Int)(c:List CV)(hp:(qh1 g&&recO c)=true):xb60 g c=zR [.cl (.agg [.int .i64 (qga g c).1,.sli .u8 qa6,.slg 3 (qga g c).2]),.cl (.bool (evOk g c))] []:=by
 rw[zab] at hp;obtain⟨hg,hr⟩:=hp;obtain⟨hc,hn⟩:=qjd hr;have hco:=qne hc;unfold xb60;simp only[qbp,qce,qx0,qqt,qk9,q4n,q1d,qtz];have bad: ¬q1c g c=true->zR [.cl (.agg [.int .i64 0,.sli .u8 [],.slg 3 []]),.cl (.bool false)] []=zR [.cl (.agg [.int .i64 (qga g c).1,.sli .u8 [],.slg 3 (qga g c).2]),.cl (.bool (qu9 g c))] []:=fun h=>by rw[(qqw h).1,(qqw h).2]
 refine qak hco (qe8 (fun h=>bad fun h'=>by rw[(qet.1 h').1] at h;cases h) fun h=>qak hco (qak hg (qe8 (fun h2=>bad fun h'=>by rw[qi9.2 (qet.1 h').2] at h2;cases h2) fun h2=> ?_)));have h2:=qi9.1 h2;have hm:q1c g c=true:=qet.2 ⟨h,h2⟩;obtain⟨hd,hl⟩:=qj7 hc h;rw[<- h2] at hd hl;have hS:=xbjd hc hn hm;refine qak (xblw (by omega)) (qak st1 ?_);rw[xbmi hd];refine qak (qch (by simp)) (qak hS ?_);rw[qx2 hm,q4u hm];rfl
theorem xbgr{c:List CV}(h:evB qdu 1 10 c=true):qoe c=(48,evL qdu 1 10 c):=by unfold qoe;rw[qab,if_pos h]
theorem lpRR(K0:Nat->Int->List Int->List CV->List CV->Option Out)(g:List Int)(c:List CV)(x1:Int)(x2:List Int)(x3:List CV)(hl:g.length<=1000000):qmx K0 FUEL 0 0 g c x1 x2 x3 []=K0 g.length x1 x2 x3 (g.map qr0):=by
 refine(xbfw qr0 g hl (fun n a j acc=>qmx K0 n a j g c x1 x2 x3 acc) (fun y=>K0 g.length x1 x2 x3 y) (fun n j acc x hj ha hxj=> ?_) (fun n acc=> ?_) FUEL 0 [] (zbc _) rfl (by unfold FUEL;omega)).trans rfl
 ·show qnw (qmx K0 n) K0 j j g c x1 x2 x3 acc=_;unfold qnw;simp only[qbp,qr2];refine qaq (show(j:Int)<(g.length:Int) by omega) (qa1 (by omega) hxj (qak (qkc (by simp)) ?_));exact qpy (w:=56) (y:=qr0 x) (A:=fun a q acc=>qmx K0 n a q g c x1 x2 x3 acc) ha (by omega) (by omega)
 ·show qnw (qmx K0 n) K0 g.length g.length g c x1 x2 x3 acc=_;unfold qnw;exact qcq (show ¬((g.length:Int)<(g.length:Int)) by omega) rfl
theorem xb8l(g:List Int)(c:List CV)(hp:(qh1 g&&recO c)=true):xb62 g c=zR [.cl (.agg [.int .i64 (qga g c).1,.sli .u8 qa6,.slg 3 (qga g c).2]),.cl (.bool (evOk g c))] []:=by
 rw[zab] at hp;obtain⟨hg,hr⟩:=hp;obtain⟨hc,hn⟩:=qjd hr;have hco:=qne hc;unfold xb62;simp only[qbp,qce,qqt,qk9,q1d,qtz,qab];have bad: ¬q1c g c=true->zR [.cl (.agg [.int .i64 0,.sli .u8 [],.slg 3 []]),.cl (.bool false)] []=zR [.cl (.agg [.int .i64 (qga g c).1,.sli .u8 [],.slg 3 (qga g c).2]),.cl (.bool (qu9 g c))] []:=fun h=>by rw[(qqw h).1,(qqw h).2]
 refine qak hco (qe8 (fun h=>bad fun h'=>by rw[(qet.1 h').1] at h;cases h) fun h=>qak hco (qak hg (qe8 (fun h2=>bad fun h'=>by rw[qi9.2 (qet.1 h').2] at h2;cases h2) fun h2=> ?_)));have h2:=qi9.1 h2;have hm:q1c g c=true:=qet.2 ⟨h,h2⟩;obtain⟨hd,hl⟩:=qj7 hc h;rw[<- h2] at hd hl;have hS:=xbjd hc hn hm;rw[lpRR _ g c _ _ _ (by omega),xbgr h];refine qak st1 (qak (qch (by rw[zaw];omega)) (qak (qch (by simp)) (qak hS ?_)));rw[qx2 hm,q4u hm];rfl
theorem xb4n(g:List Int)(c:List CV)(hp:(qh1 g&&recO c)=true):xb3q g c=zB (evOk g c):=qak hp rfl
theorem xbkt{g:List Int}{c:List CV}(h:qu9 g c=true):q1c g c=true:=by unfold qu9 at h;rw[zab] at h;exact h.1
theorem q1b(g:List Int)(c:List CV):qg9 g c=qcx g c:=by unfold qg9;rw[qab]
theorem xbvx(g:List Int)(c:List CV)(hp:(qh1 g&&recO c)=true):(cond (qh1 g&&recO c) (
  cond (!(evOk g c)) (zR [.cl (.sli .u8 []),.cl (.int .i64 1)] [])
  (cond (isS [.int .i64 (qga g c).1,.sli .u8 qa6,.slg 3 (qga g c).2]) (
   zR [.cl (.sli .u8 (qbf [.int .i64 (qga g c).1,.sli .u8 qa6,.slg 3 (qga g c).2]).1),.cl (.int .i64 (qbf [.int .i64 (qga g c).1,.sli .u8 qa6,.slg 3 (qga g c).2]).2)] []) none)) none)=zR [.cl (.sli .u8 (qg9 g c).1),.cl (.int .i64 (qg9 g c).2)] []:=by
 refine qak hp ?_;rw[zab] at hp;obtain⟨hc,hn⟩:=qjd hp.2;rw[qbp,q1d,q1b];unfold qcx;refine qe8 (fun h=> ?_) fun h=> ?_
 ·rw[h];rfl
 ·rw[if_pos h,qx2 (xbkt h)];exact qak (xbjd hc hn (xbkt h)) rfl
theorem xbsy(g:List Int)(c:List CV)(hp:(qh1 g&&recO c)=true):xbri g c=zR [.cl (.sli .u8 (qg9 g c).1),.cl (.int .i64 (qg9 g c).2)] []:=xbvx g c hp
open IntWalk (i64_in u8_in u32_in u64_in i64_quo u8_quo rem_in)
def Lg(c:CV)(L:Nat):Prop:= ∃n d y,c=.agg y/\isTf n y=true/\okF n d y=true/\(qaj n y).1.length<=L
theorem xbnn(t n:Int):2<=(qcw t n).length:=by unfold qcw;(repeat' split)<;>simp
theorem qy6{n d:Nat}{t:Int}{b:List Int}{k:List CV}(h:okF (n+1) (d+1) [.int .i64 t,.sli .u8 b,.slg 3 k]=true):(qau t=true/\b=[]/\∀c∈k,okF n d (cell1 c)=true)\/(¬qau t=true/\k=[]):=by
 replace h:(qbd t&&(if qau t=true then decide (b=[])&&k.all fun c=>okF n d (cell1 c) else decide (k=[])&&qbi t b))=true:=h;rw[zab] at h;have h:=h.2;split at h
 ·rename_i hb;rw[zab,decide_eq_true_eq,zai] at h;exact .inl ⟨hb,h.1,h.2⟩
 ·rename_i hb;rw[zab,decide_eq_true_eq] at h;exact .inr ⟨hb,h.1⟩
theorem q6n{α:Type}{g:α->List Int}: ∀ {l:List α},((l.map g).flatten).length=(l.map fun c=>(g c).length).sum
 | []=>rfl
 | x::r=>by simp only[zbe,zcz,zaf,zcf,q6n (l:=r)]
theorem xbvw{n d:Nat}{t:Int}{b:List Int}{k:List CV}(h:okF (n+1) (d+1) [.int .i64 t,.sli .u8 b,.slg 3 k]=true):2+b.length+(k.map fun c=>(qaj n (cell1 c)).1.length).sum<=(qaj (n+1) [.int .i64 t,.sli .u8 b,.slg 3 k]).1.length:=by
 show _<=(if qau t=true then(qcw t _++((k.map fun c=>qaj n (cell1 c)).map (·.1)).flatten,_) else(qcw t b.length++b,true):List Int×Bool).1.length;rcases qy6 h with⟨hb,rfl,_⟩|⟨hb,rfl⟩
 ·rw[if_pos hb];have e:((k.map fun c=>qaj n (cell1 c)).map (·.1)).flatten=(k.map fun c=>(qaj n (cell1 c)).1).flatten:=by rw[zc6];rfl
  simp only[e,zaf,q6n,zbr];have:=xbnn t (((k.map fun c=>(qaj n (cell1 c)).1.length).sum:Nat):Int);omega
 ·rw[if_neg hb];simp only[zaf,List.map_nil,List.sum_nil];have:=xbnn t (b.length:Int);omega
theorem xbc5: ∀ {n d:Nat} {y:List CV},isTf n y=true->okF n d y=true->qd6 n y<=(qaj n y).1.length
 | n,0,y,h,ho=>by obtain⟨m,t,b,k,rfl,rfl,_,_⟩:=qdk h;cases ho
 | n,d+1,y,h,ho=>by
  obtain⟨m,t,b,k,rfl,rfl,_,hk⟩:=qdk h;have h1:=xbvw ho;have h2:(k.map fun c=>qd6 m (cell1 c)).sum<=(k.map fun c=>(qaj m (cell1 c)).1.length).sum:=by
   rcases qy6 ho with⟨_,_,ha⟩|⟨_,rfl⟩
   ·have: ∀l:List CV,(∀c∈l,qd6 m (cell1 c)<=(qaj m (cell1 c)).1.length)->(l.map fun c=>qd6 m (cell1 c)).sum<=(l.map fun c=>(qaj m (cell1 c)).1.length).sum:=fun l=>by
     induction l with
     | nil=>intro _;simp
     | cons x r ih=>
      intro h;have:=ih fun c hc=>h c (by simp[hc]);have:=h x (by simp);simp only[zbe,zcf];omega
    refine this k fun c hc=> ?_;obtain⟨y,rfl,hy⟩:=hk c hc;exact xbc5 hy (ha _ hc)
   ·simp
  show 1+b.length+(k.map fun c=>qd6 m (cell1 c)).sum<=_;omega
theorem qhr{t:Int}{b:List Int}{k:List CV}{L:Nat}(h:Lg (qbg t b k) L): ∃g:CV->Nat,(∀c∈k,Lg c (g c))/\2+b.length+(k.map g).sum<=L/\∀x∈b,0<=x/\x<=255:=by
 obtain⟨n,d,y,e,h1,h2,h3⟩:=h;cases e;obtain⟨m,t',b',k',rfl,e,hb,hk⟩:=qdk h1;simp only[zcl,CV.int.injEq,CV.sli.injEq,CV.slg.injEq,and_true,true_and] at e;obtain⟨rfl,rfl,rfl⟩:=e
 cases d with
 | zero=>cases h2
 | succ d=>
  refine⟨fun c=>(qaj m (cell1 c)).1.length,fun c hc=> ?_,by have:=xbvw h2;omega,hb⟩;obtain⟨y,rfl,hy⟩:=hk c hc;rcases qy6 h2 with⟨_,_,ha⟩|⟨_,rfl⟩
  ·exact⟨m,d,y,rfl,hy,ha _ hc,zas _⟩
  ·simp at hc
theorem q0q{c:CV}{L:Nat}(h:Lg c L): ∃t b k,c=qbg t b k:=by obtain⟨n,d,y,rfl,h1,_⟩:=h;obtain⟨m,t,b,k,rfl,rfl,_⟩:=qdk h1;exact⟨t,b,k,rfl⟩
theorem xbcp{t:Int}{b:List Int}{k:List CV}{L:Nat}(h:Lg (qbg t b k) L)(hL:L<=30000):isS [.int .i64 t,.sli .u8 b,.slg 3 k]=true:=by obtain⟨n,d,y,e,h1,h2,h3⟩:=h;cases e;have:=xbc5 h1 h2;exact q9x h1 (by omega)
theorem xbv5{β:Type}{f:CV->Option β}{sz:β->Nat}{g:CV->Nat}: ∀ {l:List CV},(∀c∈l, ∀y,f c=some y->sz y<=g c)->((l.filterMap f).map sz).sum<=(l.map g).sum
 | [],_=>by simp
 | x::r,h=>by
  have ih:=xbv5 (l:=r) fun c hc=>h c (by simp[hc])
  cases hx:f x with
  | none=>
   rw[List.filterMap_cons_none hx];simp only[zbe,zcf];omega
  | some y=>
   rw[zbb hx];have:=h x (by simp) y hx;simp only[zbe,zcf];omega
theorem q1n{β:Type}{f:CV->β}{sz:β->Nat}{g:CV->Nat}: ∀ {l:List CV},(∀c∈l,sz (f c)<=g c)->((l.map f).map sz).sum<=(l.map g).sum
 | [],_=>by simp
 | x::r,h=>by have ih:=q1n (l:=r) fun c hc=>h c (by simp[hc]);have:=h x (by simp);simp only[zbe,zcf];omega
theorem qpd{g:CV->Nat}{l:List CV}{c:CV}(h:c∈l):g c<=(l.map g).sum:=xbe9 (List.mem_map_of_mem h)
theorem qq2{β:Type}{f:CV->Option β}{sz:β->Nat}{Q:β->Prop}{g t:Int}{b:List Int}{k:List CV}{L:Nat}(hL:L<=6000)(h:Lg (qbg t b k) L)(hf: ∀c L',L'<=6000->Lg c L'->∀y,f c=some y->sz y<=L'/\Q y):((qcl f g t b k).map sz).sum+2<=L/\∀y∈qcl f g t b k,Q y:=by
 obtain⟨gz,h1,h2,_⟩:=qhr h;unfold qcl;split
 ·rename_i hb;have hk:(qbz g t b k).1=k:=by unfold qen at hb;rw[zab,decide_eq_true_eq] at hb;exact qe5 hb.1
  rw[hk];have hs: ∀c∈k,gz c<=6000:=fun c hc=>by have:=qpd (g:=gz) hc;omega
  have:=xbv5 (sz:=sz) (g:=gz) (f:=f) (l:=k) fun c hc y hy=>(hf c _ (hs c hc) (h1 c hc) y hy).1;refine⟨by omega,fun y hy=> ?_⟩;obtain⟨c,hc,hy⟩:=List.mem_filterMap.1 hy;exact(hf c _ (hs c hc) (h1 c hc) y hy).2
 ·exact⟨by simp;omega,fun y hy=>by simp at hy⟩
theorem qno{β:Type}{sz:β->Nat}: ∀ {l:List β},(∀y,1<=sz y)->l.length<=(l.map sz).sum
 | [],_=>by simp
 | x::r,h=>by have:=qno (l:=r) h;have:=h x;simp only[zac,zbe,zcf];omega
theorem qhv{b:List Int}(h:b.length<=6000)(hb: ∀x∈b,0<=x/\x<=255):qad b=true:=qcm (by omega) hb
theorem xb3n{c:CV}{L:Nat}(hL:L<=6000)(h:Lg c L)(y:CV)(hy:qon c=some y):1+(qcf y).length<=L/\∃b,y=.sli .u8 b/\qad b=true:=by
 obtain⟨t,b,k,rfl⟩:=q0q h;obtain⟨g,_,h2,hb⟩:=qhr h;replace hy:(if(qa0 t b k).2=0 then some (CV.sli .u8 (qa0 t b k).1) else none)=some y:=hy;split at hy
 ·rename_i h0;cases hy;rw[(qxx h0).2.2];exact⟨by show 1+b.length<=L;omega,b,rfl,qhv (by omega) hb⟩
 ·cases hy
theorem xb0p{g t:Int}{b:List Int}{k:List CV}{L:Nat}(hL:L<=6000)(h:Lg (qbg t b k) L):q5j (qcl qon g t b k)+2<=L/\xbbg (qcl qon g t b k):=by
 have:=qq2 (sz:=fun c=>1+(qcf c).length) (Q:=fun y=> ∃b,y=.sli .u8 b/\qad b=true) (g:=g) hL h fun c L' hL' hc y hy=>xb3n hL' hc y hy;refine⟨this.1, ?_,this.2⟩;have:=qno (l:=qcl qon g t b k) (sz:=fun c=>1+(qcf c).length) fun y=>by omega
 omega
theorem xb0d{c:CV}{L:Nat}(hL:L<=6000)(h:Lg c L)(y:CV)(hy:qc1 c=some y):1+q5j (qbl y)<=L/\∃l,y=.slg 1 l/\xbbg l:=by
 obtain⟨t,b,k,rfl⟩:=q0q h;replace hy:(if qen qon 48 t b k=true then some (CV.slg 1 (qcl qon 48 t b k)) else none)=some y:=hy;have:=xb0p (g:=48) hL h;split at hy
 ·cases hy;exact⟨by show 1+q5j (qcl qon 48 t b k)<=L;omega,_,rfl,this.2⟩
 ·cases hy
theorem xb2p{g t:Int}{b:List Int}{k:List CV}{L:Nat}(hL:L<=6000)(h:Lg (qbg t b k) L):qub (qcl qc1 g t b k)+2<=L/\xbbh (qcl qc1 g t b k):=by
 have:=qq2 (sz:=fun c=>1+q5j (qbl c)) (Q:=fun y=> ∃l,y=.slg 1 l/\xbbg l) (g:=g) hL h fun c L' hL' hc y hy=>xb0d hL' hc y hy;refine⟨this.1, ?_,this.2⟩;have:=qno (l:=qcl qc1 g t b k) (sz:=fun c=>1+q5j (qbl c)) fun y=>by omega
 omega
theorem xbl5{c:CV}{L:Nat}(hL:L<=6000)(h:Lg c L):(qm6 c).1.length<=L/\qad (qm6 c).1=true:=by
 obtain⟨t,b,k,rfl⟩:=q0q h;obtain⟨n,d,y,e,h1,h2,h3⟩:=h;cases e;have e:qm6 (qbg t b k)=qbf [.int .i64 t,.sli .u8 b,.slg 3 k]:=rfl;rw[e];have hb:=xbc5 h1 h2;rw[qgz h1];split
 ·exact⟨h3,qhv (by show(qaj n _).1.length<=6000;omega) (qj2 h1 (by omega) h2)⟩
 ·exact⟨zbc _,qhv (by simp) (by simp)⟩
theorem xbyd{c:CV}{L:Nat}(hL:L<=6000)(h:Lg c L)(y:CV)(hy:qoo c=some y):2+(mW y).length+qub (mT y)<=L/\isMk y:=by
 obtain⟨t,b,k,rfl⟩:=q0q h;obtain⟨gz,h1,h2,_⟩:=qhr h;have hs: ∀c∈k,gz c<=6000:=fun c hc=>by have:=qpd (g:=gz) hc;omega
 replace hy:(if(qc4 t b k).2.2.2=true then some (qz7 (qc4 t b k).1 (qc4 t b k).2.1 (qc4 t b k).2.2.1) else none)=some y:=hy;split at hy
 ·rename_i hm;cases hy;unfold qc4 at hm ⊢;split at hm
  ·cases hm
  ·rename_i h0;have h0:(qbz 48 t b k).2=0:=Classical.not_not.1 h0;rw[if_neg (fun h=>h h0)];rw[qe5 h0] at hm ⊢;by_cases hl:(k.length:Int)<2\/3<(k.length:Int)
   ·unfold qn2 at hm;rw[if_pos hl] at hm;cases hm
   ·by_cases h3:k.length=3
    ·obtain⟨x,y,z,rfl⟩:=len3 h3;have hy:=h1 y (by simp);have hz:=h1 z (by simp);have hsum:2+b.length+(gz x+(gz y+(gz z+0)))<=L:=h2;obtain⟨t2,b2,k2,rfl⟩:=q0q hy;have ht:=xb2p (g:=162) (hs _ (by simp)) hy;have hk:=xbl5 (hs _ (by simp)) hz;rw[qyw];exact⟨by show 2+(qm6 z).1.length+qub (qcl qc1 162 t2 b2 k2)<=L;omega,_,_,_,rfl,ht.2,hk.2⟩
    ·obtain⟨x,y,rfl⟩:=len2 (show k.length=2 by omega);have hy:=h1 y (by simp);have hsum:2+b.length+(gz x+(gz y+0))<=L:=h2;have hk:=xbl5 (hs _ (by simp)) hy;rw[qyv];exact⟨by show 2+(qm6 y).1.length+0<=L;omega,_,_,_,rfl,⟨by simp,by simp⟩,hk.2⟩
 ·cases hy
theorem xbr3{g t:Int}{b:List Int}{k:List CV}{L:Nat}(hL:L<=6000)(h:Lg (qbg t b k) L):qgy (qcl qoo g t b k)+2<=L/\qn4 (qcl qoo g t b k):=by
 have:=qq2 (sz:=fun c=>2+(mW c).length+qub (mT c)) (Q:=isMk) (g:=g) hL h fun c L' hL' hc y hy=>xbyd hL' hc y hy;refine⟨this.1, ?_,this.2⟩;have:=qno (l:=qcl qoo g t b k) (sz:=fun c=>2+(mW c).length+qub (mT c)) fun y=>by omega
 omega
theorem xbqn{c:CV}{L:Nat}(hL:L<=6000)(h:Lg c L)(y:CV)(hy:qdi c=some y):1+qgy (qbl y)<=L/\∃m,y=.slg 3 m/\qn4 m:=by
 obtain⟨t,b,k,rfl⟩:=q0q h;replace hy:(if qen qoo 48 t b k=true then some (CV.slg 3 (qcl qoo 48 t b k)) else none)=some y:=hy;have:=xbr3 (g:=48) hL h;split at hy
 ·cases hy;exact⟨by show 1+qgy (qcl qoo 48 t b k)<=L;omega,_,rfl,this.2⟩
 ·cases hy
theorem q6h{g t:Int}{b:List Int}{k:List CV}{L:Nat}(hL:L<=6000)(h:Lg (qbg t b k) L):recO (qcl qdi g t b k)=true:=by
 have:=qq2 (sz:=fun c=>1+qgy (qbl c)) (Q:=fun y=> ∃m,y=.slg 3 m/\qn4 m) (g:=g) hL h fun c L' hL' hc y hy=>xbqn hL' hc y hy;have h2:=qno (l:=qcl qdi g t b k) (sz:=fun c=>1+qgy (qbl c)) fun y=>by omega
 exact q8b ⟨⟨by omega,this.2⟩,by show((qcl qdi g t b k).map fun c=>1+qgy (qbl c)).sum<=12100;omega⟩
theorem qxm{b:List Int}(hb:qad b=true)(h:(qap b).2=0):Lg (qbg (qap b).1.1 (qap b).1.2.1 (qap b).1.2.2) b.length:=by
 rw[qn7] at h ⊢;by_cases hz:(qat 32 b).1=0
 ·rw[if_pos hz] at h ⊢;by_cases hlt:(qat 32 b).2.2<b.length
  ·rw[if_pos hlt] at h;exact absurd h (by decide: ¬(7:Int)=0)
  ·rw[if_neg hlt];obtain⟨⟨h1,h2,h3,h4⟩,h5⟩:=qly 32 b hb hz;exact⟨32,32,ndL (qat 32 b).2.1,rfl,h1,h2,by rw[h5,zcm];omega⟩
 ·rw[if_neg hz] at h;exact absurd h hz
theorem xbqv(x y z:CV):qp6 [x,y,z]=(qcl algV 48 (nT y) (nB y) (nK y),qcl qdi 48 (nT z) (nB z) (nK z),(decide ((qb7 (nT x) (nB x) (nK x)).2=0)&&decide ((qb7 (nT x) (nB x) (nK x)).1=1))&&(qen algV 48 (nT y) (nB y) (nK y)&&qen qdi 48 (nT z) (nB z) (nK z))):=rfl
theorem xbc1{b:List Int}(h:b6k b=true):b.length<=6000:=by unfold b6k at h;rw[qab] at h;exact of_decide_eq_true h
theorem qsl(b:List Int):qjp b=qdd b:=by unfold qjp;rw[qab]
theorem xbj3{β:Type}{f:CV->Option β}{g t:Int}{b:List Int}{k:List CV}:(qcl f g t b k).length<=k.length:=by
 unfold qcl;split
 ·rename_i hb;unfold qen at hb;rw[zab,decide_eq_true_eq] at hb;rw[qe5 hb.1];exact List.length_filterMap_le ..
 ·exact zbc _
theorem xbyy(b:List Int)(hp:(qad b&&b6k b)=true):xbmy b=zR [.cl (.agg [.sli .i64 (qjp b).1,.slg 1 (qjp b).2.1]),.cl (.int .i64 (qjp b).2.2)] []:=by
 rw[zab] at hp;obtain⟨hb,hl⟩:=hp;have hl:=xbc1 hl;unfold xbmy;simp only[xbxv,xbxu,xbxy,xbxx,q1d,qsl];refine qak hb (qaw (fun h=> ?_) fun h=> ?_)
 ·unfold qdd;rw[if_pos h]
 have hLg:=qxm hb h;generalize hn:(qap b).1=n at*;obtain⟨t,cb,k⟩:=n;replace hLg:Lg (qbg t cb k) b.length:=hLg;dsimp only;have hS:=xbcp hLg (by omega);have hC:qdd b=if(qbz 48 t cb k).2=0/\(qp6 (qbz 48 t cb k).1).2.2=true/\qu9 (qp6 (qbz 48 t cb k).1).1 (qp6 (qbz 48 t cb k).1).2.1=true then((qp6 (qbz 48 t cb k).1).1,(qp6 (qbz 48 t cb k).1).2.1,0) else([],[],1):=by unfold qdd;rw[if_neg (fun h'=>h' h),hn]
 have bad: ¬((qbz 48 t cb k).2=0/\(qp6 (qbz 48 t cb k).1).2.2=true/\qu9 (qp6 (qbz 48 t cb k).1).1 (qp6 (qbz 48 t cb k).1).2.1=true)->zR [.cl (.agg [.sli .i64 [],.slg 1 []]),.cl (.int .i64 1)] []=zR [.cl (.agg [.sli .i64 (qdd b).1,.slg 1 (qdd b).2.1]),.cl (.int .i64 (qdd b).2.2)] []:=fun h=>by rw[hC,if_neg h]
 obtain⟨gz,h1,h2,_⟩:=qhr hLg;have hs: ∀c∈k,gz c<=6000:=fun c hc=>by have:=qpd (g:=gz) hc;omega
 refine qak (qch (by have:=(qde hS).2;show k.length<=_;omega)) (qaw (fun h3=>bad fun h'=>h3 h'.1) fun h3=>qaw (fun h4=>bad fun h'=> ?_) fun h4=> ?_)
 ·have h5:=h'.2.1;unfold qp6 at h5;rw[if_pos h4] at h5;cases h5
 have h3:(qbz 48 t cb k).2=0:=h3;have hk:=qe5 h3;have h4:(((qbz 48 t cb k).1.length:Nat):Int)=3:=h4;rw[hk] at h4 bad hC;obtain⟨x,y,z,rfl⟩:=len3 (show k.length=3 by omega);have hx:=h1 x (by simp);have hy:=h1 y (by simp);have hz:=h1 z (by simp);obtain⟨t1,b1,k1,rfl⟩:=q0q hx;obtain⟨t2,b2,k2,rfl⟩:=q0q hy;obtain⟨t3,b3,k3,rfl⟩:=q0q hz;rw[xbqv] at bad hC;rw[hk];have S1:=xbcp hx (by have:=hs _ (show qbg t1 b1 k1∈[qbg t1 b1 k1,qbg t2 b2 k2,qbg t3 b3 k3] by simp);omega);have S2:=xbcp hy (by have:=hs _ (show qbg t2 b2 k2∈[qbg t1 b1 k1,qbg t2 b2 k2,qbg t3 b3 k3] by simp);omega);have S3:=xbcp hz (by have:=hs _ (show qbg t3 b3 k3∈[qbg t1 b1 k1,qbg t2 b2 k2,qbg t3 b3 k3] by simp);omega);have R3:recO (qcl qdi 48 t3 b3 k3)=true:=q6h (hs _ (by simp)) hz;have bad2: ¬(((qb7 t1 b1 k1).2=0/\(qb7 t1 b1 k1).1=1)/\qen algV 48 t2 b2 k2=true/\qen qdi 48 t3 b3 k3=true/\qu9 (qcl algV 48 t2 b2 k2) (qcl qdi 48 t3 b3 k3)=true)->zR [.cl (.agg [.sli .i64 [],.slg 1 []]),.cl (.int .i64 1)] []=zR [.cl (.agg [.sli .i64 (qdd b).1,.slg 1 (qdd b).2.1]),.cl (.int .i64 (qdd b).2.2)] []:=fun h=>bad fun h'=>h (by
  obtain⟨_,h5,h6⟩:=h';simp only[zab,decide_eq_true_eq] at h5;exact⟨h5.1,h5.2.1,h5.2.2,h6⟩)
 refine qaq (by simp) (q1r (x:=qbg t1 b1 k1) rfl (qak rfl (qak S1 (qaq (by simp) (q1r (x:=qbg t2 b2 k2) rfl (qak rfl (qak S2 (qaq (by simp) (q1r (x:=qbg t3 b3 k3) rfl (qak rfl (qak S3 ?_)))))))))));refine qaw (fun h5=>bad2 fun h'=>h5 h'.1.1) fun h5=>qaw (fun h6=>bad2 fun h'=>h6 h'.1.2) fun h6=>qe8 (fun h7=>bad2 fun h'=> ?_) fun h7=>qe8 (fun h8=>bad2 fun h'=> ?_) fun h8=>qak ?_ (qe8 (fun h9=>bad2 fun h'=> ?_) fun h9=> ?_)
 ·have h7:qen algV 48 t2 b2 k2=false:=h7;rw[h'.2.1] at h7;cases h7
 ·have h8:qen qdi 48 t3 b3 k3=false:=h8;rw[h'.2.2.1] at h8;cases h8
 ·show(qh1 (qcl algV 48 t2 b2 k2)&&recO (qcl qdi 48 t3 b3 k3))=true;rw[R3,qms (by have:=@xbj3 _ algV 48 t2 b2 k2;have:=(qde S2).2;omega)];rfl
 ·have h9:qu9 (qcl algV 48 t2 b2 k2) (qcl qdi 48 t3 b3 k3)=false:=h9;rw[h'.2.2.2] at h9;cases h9
 ·have h5:(qb7 t1 b1 k1).2=0:=h5;have h6:(qb7 t1 b1 k1).1=1:=h6;have h7:qen algV 48 t2 b2 k2=true:=h7;have h8:qen qdi 48 t3 b3 k3=true:=h8;have h9:qu9 (qcl algV 48 t2 b2 k2) (qcl qdi 48 t3 b3 k3)=true:=h9;rw[hC,if_pos];refine⟨h3, ?_,h9⟩;show((decide ((qb7 t1 b1 k1).2=0)&&decide ((qb7 t1 b1 k1).1=1))&&(qen algV 48 t2 b2 k2&&qen qdi 48 t3 b3 k3))=true;rw[decide_eq_true h5,decide_eq_true h6,h7,h8];rfl
open IntWalk (i64_in u8_in u32_in u64_in i64_quo u8_quo rem_in)
theorem xb5w{B:Bool}{a b:Option Out}:cond (!B) a b=cond B b a:=by cases B<;>rfl
theorem xb8t{p:Prop}(h: ¬p):pD p=false:=zat.2 fun h'=>h (qi9.1 h')
theorem qy9{p q:Prop}(h:p↔q):pD p=pD q:=by rw[propext h]
theorem qpe(a b:List Int):qbt a b=pD (a=b):=by rw[xbus,xbs9]
theorem qv5(a b:List CV):qps a b=pD (a=b):=by unfold qps;rw[qab]
theorem qpt(a b:List CV):qm2 a b=pD (a=b):=by unfold qm2;rw[qab]
theorem q6l(g:List Int)(c:List CV)(h:List Int)(e:List CV):xbdm g c h e=pD (g=h/\c=e):=by unfold xbdm;rw[qab]
theorem eq_g{a b:List CV}{X:Option Out}(hX:a.length=b.length->X=cond (pD (a=b)) (zB true) (zB false)):
  cond (!decide ((a.length:Int)=(b.length:Int))) (zB false) X=zB (pD (a=b)):=by
 refine qaw (fun h=>by rw[xb21 h]) fun h=> ?_;rw[hX (by omega)];cases pD (a=b)<;>rfl
theorem qx1: ∀a:List Int,qbn a a=0
 | []=>rfl
 | x::a=>by unfold qbn;rw[if_neg (by omega),if_neg (by omega)];exact qx1 a
theorem xbmk: ∀a b:List Int, ¬qbn a b<0-> ¬qbn b a<0->a=b
 | [],[],_,_=>rfl
 | [],y::b,h,_=>absurd (by simp[qbn]) h
 | x::a,[],_,h=>absurd (by simp[qbn]) h
 | x::a,y::b,h1,h2=>by
  unfold qbn at h1 h2;by_cases hxy:x<y
  ·rw[if_pos hxy] at h1;omega
  ·by_cases hyx:y<x
   ·rw[if_pos hyx] at h2;omega
   ·rw[if_neg hxy,if_neg hyx] at h1;rw[if_neg hyx,if_neg hxy] at h2;rw[show x=y by omega,xbmk a b h1 h2]
theorem xbfg(a b:List Int):qew a b=decide (qbn a b<0):=by unfold qew;rw[qab]
theorem xby8(a b:List CV)(hp:(qux a&&qux b)=true):xbm7 a b=zB (qps a b):=by
 rw[zab] at hp;obtain⟨⟨ha,ha'⟩,⟨hb,hb'⟩⟩:=And.intro (qoj hp.1) (qoj hp.2);unfold xbm7;rw[qv5];refine eq_g fun hl=> ?_;rw[qab];refine(xbqu a b hl (fun n i=>qnv _ _ n a b i) _ (zB false) (fun n i x y hx hy hi=> ?_) (fun n=>qcq (show ¬(a.length:Int)<(a.length:Int) by omega) rfl) FUEL 0 (zbc _) (by unfold FUEL;omega)).trans rfl;have e2:IntKind.i64.wrap ((i:Int)+1)=((i+1:Nat):Int):=i64_in _ (by omega);obtain⟨p,rfl,hp⟩:=ha' _ (zae hx);obtain⟨q,rfl,hq⟩:=hb' _ (zae hy);rw[qy9 (show CV.sli .u8 p=CV.sli .u8 q↔p=q by simp)];have no: ¬p=q->pD (p=q)=false:=fun h=>zat.2 fun h'=>h (qi9.1 h');refine qaq (by omega) (qa1 (by omega) hx (qak rfl (qa1 (by omega) hy (qak rfl (qak (qgh hp) (qdg (fun h=> ?_) fun h=>qa1 (by omega) hy (qak rfl (qa1 (by omega) hx (qak rfl (qak (qgh hq) (qdg (fun h2=> ?_) fun h2=> ?_)))))))))))
 ·have h:qew p q=true:=h;rw[xbfg,decide_eq_true_eq] at h;rw[no fun he=>by rw[he,qx1] at h;omega];rfl
 ·have h2:qew q p=true:=h2;rw[xbfg,decide_eq_true_eq] at h2;rw[no fun he=>by rw[he,qx1] at h2;omega];rfl
 ·have h:qew p q=false:=h;have h2:qew q p=false:=h2;rw[xbfg,decide_eq_false_iff_not] at h h2;rw[qi9.2 (xbmk p q h h2)];show qnv _ _ n a b (IntKind.i64.wrap ((i:Int)+1))=_;rw[e2];rfl
theorem xbsr(a b:List CV)(hp:(quc a&&quc b)=true):xbef a b=zB (qm2 a b):=by rw[zab] at hp;obtain⟨⟨ha,ha'⟩,⟨hb,hb'⟩⟩:=And.intro (qkw hp.1) (qkw hp.2);unfold xbef;rw[qpt];refine eq_g fun hl=> ?_;rw[qab];refine(xbqu a b hl (fun n i=>qlq _ _ n a b i) _ (zB false) (fun n i x y hx hy hi=> ?_) (fun n=>qcq (show ¬(a.length:Int)<(a.length:Int) by omega) rfl) FUEL 0 (zbc _) (by unfold FUEL;omega)).trans rfl;have e2:IntKind.i64.wrap ((i:Int)+1)=((i+1:Nat):Int):=i64_in _ (by omega);obtain⟨p,rfl,hp⟩:=ha' _ (zae hx);obtain⟨q,rfl,hq⟩:=hb' _ (zae hy);refine qaq (by omega) (qa1 (by omega) hx (qak rfl (qa1 (by omega) hy (qak rfl (qak (by show(qux p&&qux q)=true;rw[q5k hp,q5k hq];rfl) ?_)))));show cond (!qps p q) _ (qlq _ _ n a b (IntKind.i64.wrap ((i:Int)+1)))=_;rw[e2,xb5w,qv5,qy9 (show p=q↔CV.slg 1 p=CV.slg 1 q by simp)]
theorem lpS9(K0:Option Out)(K1:Int->List Int->List CV->List Int->List CV->Option Out)(i:Nat)(g h:List Int)(c e p q:List CV)(hx:c[i]? =some (.slg 3 p))(hy:e[i]? =some (.slg 3 q))(hp:qn4 p)(hq:qn4 q)(hl:p.length=q.length):
  qgu K0 K1 FUEL i 0 g c h e=cond (pD (p=q)) (K1 i g c h e) K0:=by
 refine(xbqu p q hl (fun n j=>qgu K0 K1 n i j g c h e) _ K0 (fun n j x y hxj hyj hj=> ?_) (fun n=> ?_) FUEL 0 (zbc _) (by have:=hp.1;unfold FUEL;omega)).trans rfl
 rotate_left
 ·show qh6 (qgu K0 K1 n) K0 K1 i p.length g c h e=_;unfold qh6;exact qa1 (by omega) hx (qak rfl (qcq (show ¬(p.length:Int)<(p.length:Int) by omega) rfl))
 have hp1:=hp.1;have e2:IntKind.i64.wrap ((j:Int)+1)=((j+1:Nat):Int):=i64_in _ (by omega);obtain⟨d,t,w,rfl,ht,hw⟩:=hp.2 _ (zae hxj);obtain⟨d2,t2,w2,rfl,ht2,hw2⟩:=hq.2 _ (zae hyj);have no: ¬(d=d2/\t=t2/\w=w2)->pD (qz7 d t w=qz7 d2 t2 w2)=false:=fun h=>zat.2 fun h'=>h (by have:=qi9.1 h';simpa [qz7] using this);show qh6 (qgu K0 K1 n) K0 K1 i j g c h e=_;unfold qh6;refine qa1 (by omega) hx (qak rfl (qaq (show(j:Int)<(p.length:Int) by omega) (qa1 (by omega) hx (qak rfl (qa1 (by omega) hxj (qak rfl (qa1 (by omega) hy (qak rfl (qa1 (by omega) hyj (qak rfl (qaw (fun h1=> ?_) fun h1=>qak (by show(quc t&&quc t2)=true;rw[qz2 ht,qz2 ht2];rfl) (qe8 (fun h2=> ?_) fun h2=>qak (qgh hw) (qe8 (fun h3=> ?_) fun h3=> ?_)))))))))))))
 ·rw[no fun h'=>h1 h'.1];rfl
 ·have h2:qm2 t t2=false:=h2;rw[no fun h'=>by rw[qpt,qi9.2 h'.2.1] at h2;cases h2];rfl
 ·have h3:qbt w w2=false:=h3;rw[no fun h'=>by rw[qpe,qi9.2 h'.2.2] at h3;cases h3];rfl
 ·have h1:d=d2:=h1;have h2:qm2 t t2=true:=h2;have h3:qbt w w2=true:=h3;rw[qpt] at h2;rw[qpe] at h3;rw[qi9.2 (show qz7 d t w=qz7 d2 t2 w2 by rw[h1,qi9.1 h2,qi9.1 h3])];show qgu K0 K1 n i (IntKind.i64.wrap ((j:Int)+1)) g c h e=_;rw[e2];rfl
theorem lpS4(K0 K1:Option Out)(g h:List Int)(c e:List CV)(hc:qeq c)(he:qeq e)(hl:c.length=e.length):qh5 K0 K1 FUEL 0 g c h e=cond (pD (c=e)) K1 K0:=by
 refine(xbqu c e hl (fun n j=>qh5 K0 K1 n j g c h e) _ K0 (fun n j x y hxj hyj hj=> ?_) (fun n=>qcq (show ¬(c.length:Int)<(c.length:Int) by omega) rfl) FUEL 0 (zbc _) (by have:=hc.1;unfold FUEL;omega)).trans rfl;have hc1:=hc.1;have e2:IntKind.i64.wrap ((j:Int)+1)=((j+1:Nat):Int):=i64_in _ (by omega);obtain⟨p,rfl,hp⟩:=hc.2 _ (zae hxj);obtain⟨q,rfl,hq⟩:=he.2 _ (zae hyj);rw[qy9 (show CV.slg 3 p=CV.slg 3 q↔p=q by simp)];show qpg (qh5 K0 K1 n) K0 K1 j g c h e=_;unfold qpg;simp only[qab];refine qaq (by omega) (qa1 (by omega) hxj (qak rfl (qa1 (by omega) hyj (qak rfl (qaw (fun h1=> ?_) fun h1=> ?_)))))
 ·have h1: ¬(p.length:Int)=(q.length:Int):=h1;rw[xb21 h1];rfl
 ·have h1:(p.length:Int)=(q.length:Int):=h1;rw[lpS9 _ _ j g h c e p q hxj hyj hp hq (by omega)];show cond (pD (p=q)) (qh5 K0 K1 n (IntKind.i64.wrap ((j:Int)+1)) g c h e) K0=_;rw[e2]
theorem xbzc(g:List Int)(c:List CV)(h:List Int)(e:List CV)(hp:(qh1 g&&(qb0 c&&qb0 e))=true):xbna g c h e=zB (xbdm g c h e):=by
 simp only[zab] at hp;unfold xbna;rw[q6l,qtz];refine qak hp.1 (qe8 (fun h2=> ?_) fun h2=> ?_)
 ·rw[xb8t (fun h':g=h/\c=e=>by rw[qi9.2 h'.1] at h2;cases h2)]
 ·rw[qy9 (show(g=h/\c=e)↔c=e from⟨fun h'=>h'.2,fun h'=>⟨qi9.1 h2,h'⟩⟩)];refine eq_g fun hl=> ?_;rw[qab];exact lpS4 _ _ g h c e (qdn hp.2.1) (qdn hp.2.2) hl
open IntWalk (i64_in u8_in u32_in u64_in i64_quo u8_quo rem_in)
theorem q7s:(qap []).2=1:=by unfold qap;rw[qab];rfl
theorem xbzt:(qh1 []&&recO [])=true:=by rw[q8b ⟨⟨by simp,by simp⟩,by decide⟩,qms (by simp)];rfl
theorem xbzr(hp:true=true):xbnk=zB true:=by
 unfold xbnk;rw[qsl,q1d];have e:qdd []=([],[],1):=by unfold qdd;rw[if_pos (by rw[q7s];omega),q7s]
 have e2:qu9 [] []=false:=rfl;rw[e,e2];exact qak (by rw[qcm (by simp) (by simp)];unfold b6k;rw[qab];rfl) (qak xbzt rfl)
open IntWalk (i64_in u8_in u32_in u64_in i64_quo u8_quo rem_in)
theorem xbyj(g:Int)(b:List Int)(hp:qc7 b=true):xbmq g b=zR [.cl (.agg [.int .i64 (qbo g b).1,.sli .u8 qa6,.slg 3 (qbo g b).2.1]),.cl (.int .i64 (qbo g b).2.2)] []:=by
 obtain⟨i1,i2⟩:=qmp g;have hid:idOk (qaf g).2.2=true:=q65 (by omega) i2;have h16:q5u 16=true:=by unfold q5u;exact decide_eq_true (by omega)
 unfold xbmq qbo;simp only[qhl,qab,qce,qbp];unfold qf1;refine qae (fun h=> ?_) fun h=>qae (fun h6=>qaw (fun h'=> ?_) fun h'=>qak hid (qak hp (qak (qch (by simp)) ?_))) fun h6=>qae (fun h7=>qaw (fun h'=> ?_) fun h'=>qak hid (qak hp (qak h16 (qak (qch (by simp)) (qak (qch (by simp)) ?_))))) fun h7=>qaw (fun h'=> ?_) fun h'=>qak hid (qak (qch (by simp)) ?_)
 ·rw[if_pos h]
 ·rw[if_neg h,if_pos (by rw[h6];exact h')]
 ·rw[if_neg h,if_neg (by rw[h6];exact fun x=>x h'),if_pos h6];rfl
 ·rw[if_neg h,if_pos (by rw[h7];exact h')]
 ·rw[if_neg h,if_neg (by rw[h7];exact fun x=>x h'),if_neg h6,if_pos h7];rfl
 ·rw[if_neg h,if_pos (by unfold qb1;rw[if_neg h6,if_neg h7];exact h')]
 ·rw[if_neg h,if_neg (by unfold qb1;rw[if_neg h6,if_neg h7];exact fun x=>x h'),if_neg h6,if_neg h7];rfl
open IntWalk (i64_in u8_in u32_in u64_in i64_quo u8_quo rem_in)
theorem xbat{k:List CV}{g:CV->Nat}(hg: ∀c∈k,g c<=6000)(h: ∀c∈k,Lg c (g c)):q5j (k.map fun d=>CV.sli .u8 (nB d))<=(k.map g).sum/\(k.map g).sum<=6000->xbbg (k.map fun d=>CV.sli .u8 (nB d)):=fun hs=>by
 refine⟨?_,fun c hc=> ?_⟩
 ·have:=qno (l:=k.map fun d=>CV.sli .u8 (nB d)) (sz:=fun c=>1+(qcf c).length) fun y=>by omega
  have e:q5j (k.map fun d=>CV.sli .u8 (nB d))=((k.map fun d=>CV.sli .u8 (nB d)).map fun c=>1+(qcf c).length).sum:=rfl;omega
 ·obtain⟨d,hd,rfl⟩:=zbp.1 hc;obtain⟨t,b,k',rfl⟩:=q0q (h d hd);obtain⟨_,_,h2,hb⟩:=qhr (h _ hd);have:=hg _ hd;exact⟨b,rfl,qhv (by omega) hb⟩
theorem q5l{k:List CV}{g:CV->Nat}(h: ∀c∈k,Lg c (g c)):q5j (k.map fun d=>CV.sli .u8 (nB d))<=(k.map g).sum:=q1n (f:=fun d=>CV.sli .u8 (nB d)) (sz:=fun c=>1+(qcf c).length) fun c hc=>by obtain⟨t,b,k',rfl⟩:=q0q (h c hc);obtain⟨_,_,h2,_⟩:=qhr (h _ hc);show 1+b.length<=_;omega
theorem qvu{c:CV}{L:Nat}(hL:L<=6000)(h:Lg c L):1+q5j ((nK c).map fun d=>CV.sli .u8 (nB d))<=L/\xbbg ((nK c).map fun d=>CV.sli .u8 (nB d)):=by
 obtain⟨t,b,k,rfl⟩:=q0q h;obtain⟨g,h1,h2,_⟩:=qhr h;have hs: ∀c∈k,g c<=6000:=fun c hc=>by have:=qpd (g:=g) hc;omega
 have h3:=q5l h1;refine⟨by show 1+q5j (k.map fun d=>CV.sli .u8 (nB d))<=L;omega,xbat hs h1 ⟨h3,by show(k.map g).sum<=6000;omega⟩⟩
theorem xba9{c:CV}{L:Nat}(hL:L<=6000)(h:Lg c L):qub ((nK c).map fun p=>CV.slg 1 ((nK p).map fun d=>CV.sli .u8 (nB d)))+2<=L/\xbbh ((nK c).map fun p=>CV.slg 1 ((nK p).map fun d=>CV.sli .u8 (nB d))):=by
 obtain⟨t,b,k,rfl⟩:=q0q h;obtain⟨g,h1,h2,_⟩:=qhr h;have hs: ∀c∈k,g c<=6000:=fun c hc=>by have:=qpd (g:=g) hc;omega
 have h3:qub (k.map fun p=>CV.slg 1 ((nK p).map fun d=>CV.sli .u8 (nB d)))<=(k.map g).sum:=q1n (f:=fun p=>CV.slg 1 ((nK p).map fun d=>CV.sli .u8 (nB d))) (sz:=fun c=>1+q5j (qbl c)) fun c hc=>(qvu (hs c hc) (h1 c hc)).1;refine⟨by show qub (k.map _)+2<=L;omega, ?_,fun x hx=> ?_⟩
 ·have h4:=qno (l:=k.map fun p=>CV.slg 1 ((nK p).map fun d=>CV.sli .u8 (nB d))) (sz:=fun c=>1+q5j (qbl c)) fun y=>by omega
  have e:qub (k.map fun p=>CV.slg 1 ((nK p).map fun d=>CV.sli .u8 (nB d)))=((k.map fun p=>CV.slg 1 ((nK p).map fun d=>CV.sli .u8 (nB d))).map fun c=>1+q5j (qbl c)).sum:=rfl;show(k.map fun p=>CV.slg 1 ((nK p).map fun d=>CV.sli .u8 (nB d))).length<=1000000;omega
 ·obtain⟨p,hp,rfl⟩:=zbp.1 hx;exact⟨_,rfl,(qvu (hs p hp) (h1 p hp)).2⟩
theorem xbyf{c:CV}{L:Nat}(hL:L<=6000)(h:Lg c L):2+(mW (mkdV c)).length+qub (mT (mkdV c))<=L/\isMk (mkdV c):=by
 obtain⟨t,b,k,rfl⟩:=q0q h;obtain⟨g,h1,h2,_⟩:=qhr h;have hs: ∀c∈k,g c<=6000:=fun c hc=>by have:=qpd (g:=g) hc;omega
 have hC:mkdC (qbg t b k)=if k.length<2\/(nK (k.headD .nili)).length≠1 then(0,[],[]) else(q5a (qbg t b k),qn6 (qbg t b k),(qm6 (k.getD (k.length - 1) .nili)).1):=rfl
 have hV:mkdV (qbg t b k)=qz7 (mkdC (qbg t b k)).1 (mkdC (qbg t b k)).2.1 (mkdC (qbg t b k)).2.2:=rfl;have nil:xbbh []:=⟨by simp,by simp⟩;rw[hV];show 2+(mkdC (qbg t b k)).2.2.length+qub (mkdC (qbg t b k)).2.1<=L/\isMk (qz7 (mkdC (qbg t b k)).1 (mkdC (qbg t b k)).2.1 (mkdC (qbg t b k)).2.2);rw[hC];split
 ·exact⟨by show 2+0+0<=L;omega,_,_,_,rfl,nil,qhv (by simp) (by simp)⟩
 ·rename_i hn
  match k,h1,h2,hs,hn with
  | [],_,_,_,hn=>exact absurd (Or.inl (by simp)) hn
  | [x],_,_,_,hn=>exact absurd (Or.inl (by simp)) hn
  | [x,y],h1,h2,hs,hn=>
   have hsum:2+b.length+(g x+(g y+0))<=L:=h2;have hk:=xbl5 (hs y (by simp)) (h1 y (by simp));exact⟨by show 2+(qm6 y).1.length+0<=L;omega,_,_,_,rfl,nil,hk.2⟩
  | x::y::z::r,h1,h2,hs,hn=>
   have hsum:2+b.length+(g x+(g y+((z::r).map g).sum))<=L:=h2;obtain⟨u,hu,hm⟩: ∃u,(x::y::z::r).getD ((x::y::z::r).length - 1) .nili=u/\u∈z::r:=by refine⟨_,rfl, ?_⟩;show(x::y::z::r).getD (r.length+2) .nili∈z::r;show(z::r).getD r.length .nili∈z::r;rw[za3,zag (by simp)];exact zcv _
   have hg:=qpd (g:=g) hm;have hk:=xbl5 (hs u (by simp at hm;simp[hm])) (h1 u (by simp at hm;simp[hm]));have ht:=xba9 (hs y (by simp)) (h1 y (by simp));have e:qn6 (qbg t b (x::y::z::r))=(nK y).map fun p=>CV.slg 1 ((nK p).map fun d=>CV.sli .u8 (nB d)):=by show(if 2<(x::y::z::r).length then _ else _)=_;rw[if_pos (by simp)];rfl
   rw[hu,e];exact⟨by show 2+(qm6 u).1.length+qub ((nK y).map fun p=>CV.slg 1 ((nK p).map fun d=>CV.sli .u8 (nB d)))<=L;omega,_,_,_,rfl,ht.2,hk.2⟩
theorem qtd{c:CV}{L:Nat}(hL:L<=6000)(h:Lg c L):1+qgy ((nK c).map mkdV)<=L/\qn4 ((nK c).map mkdV):=by
 obtain⟨t,b,k,rfl⟩:=q0q h;obtain⟨g,h1,h2,_⟩:=qhr h;have hs: ∀c∈k,g c<=6000:=fun c hc=>by have:=qpd (g:=g) hc;omega
 have h3:qgy (k.map mkdV)<=(k.map g).sum:=q1n (f:=mkdV) (sz:=fun c=>2+(mW c).length+qub (mT c)) fun c hc=>(xbyf (hs c hc) (h1 c hc)).1;refine⟨by show 1+qgy (k.map mkdV)<=L;omega, ?_,fun x hx=> ?_⟩
 ·have h4:=qno (l:=k.map mkdV) (sz:=fun c=>2+(mW c).length+qub (mT c)) fun y=>by omega
  have e:qgy (k.map mkdV)=((k.map mkdV).map fun c=>2+(mW c).length+qub (mT c)).sum:=rfl;show(k.map mkdV).length<=10000;omega
 ·obtain⟨p,hp,rfl⟩:=zbp.1 hx;exact(xbyf (hs p hp) (h1 p hp)).2
theorem xbtk{t:Int}{b:List Int}{k:List CV}{L:Nat}(hL:L<=6000)(h:Lg (qbg t b k) L):recO (qbu k)=true:=by
 obtain⟨g,h1,h2,_⟩:=qhr h;have hs: ∀c∈k,g c<=6000:=fun c hc=>by have:=qpd (g:=g) hc;omega
 unfold qbu;split
 ·rename_i h3;obtain⟨x,y,z,rfl⟩:=len3 h3;show recO ((nK z).map fun c=>CV.slg 3 ((nK c).map mkdV))=true;have hz:=h1 z (by simp);have hzs:=hs z (by simp);obtain⟨t3,b3,k3,rfl⟩:=q0q hz;obtain⟨g3,h31,h32,_⟩:=qhr hz;have hs3: ∀c∈k3,g3 c<=6000:=fun c hc=>by have:=qpd (g:=g3) hc;omega
  have h4:qhx (k3.map fun c=>CV.slg 3 ((nK c).map mkdV))<=(k3.map g3).sum:=q1n (f:=fun c=>CV.slg 3 ((nK c).map mkdV)) (sz:=fun c=>1+qgy (qbl c)) fun c hc=>(qtd (hs3 c hc) (h31 c hc)).1;have h5:=qno (l:=k3.map fun c=>CV.slg 3 ((nK c).map mkdV)) (sz:=fun c=>1+qgy (qbl c)) fun y=>by omega
  have e:qhx (k3.map fun c=>CV.slg 3 ((nK c).map mkdV))=((k3.map fun c=>CV.slg 3 ((nK c).map mkdV)).map fun c=>1+qgy (qbl c)).sum:=rfl;refine q8b ⟨⟨by show(k3.map _).length<=10000;omega,fun u hu=> ?_⟩,by show qhx (k3.map _)<=12100;omega⟩;obtain⟨p,hp,rfl⟩:=zbp.1 hu;exact⟨_,rfl,(qtd (hs3 p hp) (h31 p hp)).2⟩
 ·exact q8b ⟨⟨by simp,by simp⟩,by decide⟩
theorem xb75(K0:List Int->Int->Nat->Int->List Int->List CV->Nat->List CV->List CV->Option Out)(b:List Int)(i:Nat)(t:Int)(cb:List Int)(k:List CV)(m:Nat)(P:List CV)(t2:Int)(b2:List Int)(k2:List CV)(t3:Int)(b3:List Int)(k3:List CV)(hk:k[2]? =some (.agg [.int .i64 t2,.sli .u8 b2,.slg 3 k2]))(hx:k2[i]? =some (.agg [.int .i64 t3,.sli .u8 b3,.slg 3 k3]))(hn:qfx k3=true):
  qed K0 FUEL b i 0 0 t cb k m [] P=K0 b i k3.length t cb k m (k3.map mkdV) P:=by
 have hl:=(qcz hn).1;have h1:2<k.length:=(zad.1 hk).1;refine(xbfw mkdV k3 hl (fun n a j acc=>qed K0 n b i a j t cb k m acc P) (fun y=>K0 b i k3.length t cb k m y P) (fun n j acc x hj ha hxj=> ?_) (fun n acc=> ?_) FUEL 0 [] (zbc _) rfl (by unfold FUEL;omega)).trans rfl
 ·show qfu (qed K0 n) K0 b i j j t cb k m acc P=_;obtain⟨t4,b4,k4,rfl,hs⟩:=q5c hn hxj;unfold qfu;simp only[xbye];refine qaq (by omega) (q1r hk (qak rfl (qa1 (by omega) hx (qak rfl (qaq (show(j:Int)<(k3.length:Int) by omega) (qaq (by omega) (q1r hk (qak rfl (qa1 (by omega) hx (qak rfl (qa1 (by omega) hxj (qak rfl (qak hs ?_)))))))))))));exact qpy (w:=56) (y:=mkdV (qbg t4 b4 k4)) (A:=fun a c acc=>qed K0 n b i a c t cb k m acc P) ha (by omega) (by omega)
 ·show qfu (qed K0 n) K0 b i k3.length k3.length t cb k m acc P=_;unfold qfu;exact qaq (by omega) (q1r hk (qak rfl (qa1 (by omega) hx (qak rfl (qcq (show ¬((k3.length:Int)<(k3.length:Int)) by omega) rfl)))))
theorem lpP7(K0:List Int->Nat->List CV->Option Out)(b:List Int)(t:Int)(cb:List Int)(k:List CV)(t2:Int)(b2:List Int)(k2:List CV)(hk:k[2]? =some (.agg [.int .i64 t2,.sli .u8 b2,.slg 3 k2]))(hn:qfx k2=true):
  qfh K0 FUEL b 0 t cb k 0 []=K0 b k2.length (k2.map fun c=>.slg 3 ((nK c).map mkdV)):=by
 have hl:=(qcz hn).1;have h1:2<k.length:=(zad.1 hk).1;refine(xbfw (fun c=>CV.slg 3 ((nK c).map mkdV)) k2 hl (fun n a j acc=>qfh K0 n b j t cb k a acc) (fun y=>K0 b k2.length y) (fun n j acc x hj ha hxj=> ?_) (fun n acc=> ?_) FUEL 0 [] (zbc _) rfl (by unfold FUEL;omega)).trans rfl
 ·show qgt (qfh K0 n) K0 b j t cb k j acc=_;obtain⟨t4,b4,k4,rfl,hs⟩:=q5c hn hxj;unfold qgt;simp only[qab];rw[xb75 _ b j t cb k j acc t2 b2 k2 t4 b4 k4 hk hxj (qde hs).1];refine qaq (by omega) (q1r hk (qak rfl (qaq (show(j:Int)<(k2.length:Int) by omega) ?_)));exact qpy (w:=24) (y:=sg3 (k4.map mkdV)) (A:=fun a c acc=>qfh K0 n b c t cb k a acc) ha (by omega) (by omega)
 ·show qgt (qfh K0 n) K0 b k2.length t cb k k2.length acc=_;unfold qgt;exact qaq (by omega) (q1r hk (qak rfl (qcq (show ¬((k2.length:Int)<(k2.length:Int)) by omega) rfl)))
theorem q8a(b:List Int):qtr b=qof b:=by unfold qtr;rw[qab]
theorem xb0r(b:List Int)(c:List CV)(hr:recO c=true)(hb:qad b=true):
  cond (qb0 c) (cond (qh1 (qmm c)&&recO c) (cond (!decide ((qg9 (qmm c) c).2=0)) (zR [.cl (.agg [.sli .i64 [],.slg 1 []]),.cl (.int .i64 1)] [])
   (cond (qc7 b) (cond (!(qbt b (qg9 (qmm c) c).1)) (zR [.cl (.agg [.sli .i64 [],.slg 1 []]),.cl (.int .i64 1)] []) (zR [.cl (.agg [.sli .i64 (qmm c),.slg 1 c]),.cl (.int .i64 0)] [])) none)) none) none=
  zR [.cl (.agg [.sli .i64 (if(qcx (qb4 c) c).2=0/\b=(qcx (qb4 c) c).1 then(qb4 c,c,(0:Int)) else([],[],1)).1,.slg 1 (if(qcx (qb4 c) c).2=0/\b=(qcx (qb4 c) c).1 then(qb4 c,c,(0:Int)) else([],[],1)).2.1]),.cl (.int .i64 (if(qcx (qb4 c) c).2=0/\b=(qcx (qb4 c) c).1 then(qb4 c,c,(0:Int)) else([],[],1)).2.2)] []:=by
 obtain⟨hc,hn⟩:=qjd hr;have hi:qh1 (qmm c)=true:=qms (by
  rw[qk9];have h1:(qb4 c).length<=0+(c.flatMap fun c=>q1o (qbl c)).length:=qhb;have h2:(c.flatMap fun c=>q1o (qbl c)).length<=c.length*10000:=qu4 fun x hx=>by have:=qj6 hc x hx;show((qbl x).map mD).length<=10000;rw[zaw];exact this
  have:=hc.1;omega)
 refine qak (qne hc) (qak (by rw[hi,hr];rfl) ?_);simp only[q1b,qk9,qpe];refine qaw (fun h=> ?_) fun h=>qak (qgh hb) (qe8 (fun h2=> ?_) fun h2=> ?_)
 ·rw[if_neg (fun h'=>h h'.1)]
 ·rw[if_neg (fun h'=>by rw[qi9.2 h'.2] at h2;cases h2)]
 ·rw[if_pos ⟨h,qi9.1 h2⟩]
theorem xbst(b:List Int)(hp:(qad b&&b6k b)=true):xbej b=zR [.cl (.agg [.sli .i64 (qtr b).1,.slg 1 (qtr b).2.1]),.cl (.int .i64 (qtr b).2.2)] []:=by
 rw[zab] at hp;obtain⟨hb,hl⟩:=hp;have hl:=xbc1 hl;unfold xbej;rw[q8a];simp only[qab];refine qak hb (qaw (fun h=> ?_) fun h=> ?_)
 ·unfold qof;rw[if_pos h]
 have hLg:=qxm hb h;generalize hn:(qap b).1=n at*;obtain⟨t,cb,k⟩:=n;replace hLg:Lg (qbg t cb k) b.length:=hLg;dsimp only;have hS:=xbcp hLg (by omega);have hr:=xbtk hl hLg;have hC:qof b=if(qcx (qb4 (qbu k)) (qbu k)).2=0/\b=(qcx (qb4 (qbu k)) (qbu k)).1 then(qb4 (qbu k),qbu k,(0:Int)) else([],[],1):=by unfold qof;rw[if_neg (fun h'=>h' h),hn]
 rw[hC];refine qae (fun h3=> ?_) fun h3=> ?_
 ·obtain⟨x,y,z,rfl⟩:=len3 (show k.length=3 by omega);obtain⟨t3,b3,k3,rfl,hs3⟩:=q5c (qde hS).1 (i:=2) rfl;rw[lpP7 _ b t cb _ t3 b3 k3 rfl (qde hs3).1];exact xb0r b _ hr hb
 ·have e:qbu k=[]:=by unfold qbu;rw[if_neg (by omega)]
  rw[e] at hr ⊢;exact xb0r b [] hr hb
open IntWalk (i64_in u8_in u32_in u64_in i64_quo u8_quo rem_in)
theorem xbv4{α β:Type}{f:α->Option β}{h:β->Option α}: ∀ {l:List α},l.all (fun c=>(f c).isSome)=true->(∀c∈l, ∀y,f c=some y->h y=some c)->(l.filterMap f).filterMap h=l/\(l.filterMap f).all (fun c=>(h c).isSome)=true
 | [],_,_=>⟨rfl,rfl⟩
 | x::r,ha,hh=>by simp only[zb0,zab] at ha;obtain⟨y,hy⟩:=zax.1 ha.1;have ih:=xbv4 (l:=r) ha.2 fun c hc=>hh c (by simp[hc]);have hx:=hh x (by simp) y hy;rw[zbb hy,zbb hx,ih.1,zb0,hx,ih.2];exact⟨rfl,rfl⟩
theorem xbmo{α β:Type}{h:β->Option α}{f:α->Option β}: ∀ {k:List β},k.all (fun c=>(h c).isSome)=true->(k.filterMap h).all (fun c=>(f c).isSome)=true->(∀z∈k, ∀c y,h z=some c->f c=some y->y=z)->(k.filterMap h).filterMap f=k
 | [],_,_,_=>rfl
 | z::r,ha,hf,hb=>by simp only[zb0,zab] at ha;obtain⟨c,hc⟩:=zax.1 ha.1;rw[zbb hc,zb0,zab] at hf;obtain⟨y,hy⟩:=zax.1 hf.1;have:=hb z (by simp) c y hc hy;subst this;rw[zbb hc,zbb hy,xbmo ha.2 hf.2 fun w hw=>hb w (by simp[hw])]
theorem qu8{α β:Type}{f:α->Option β}{lo hi:Int}{l:List α}(h:evB f lo hi l=true):l.all (fun c=>(f c).isSome)=true:=by unfold evB at h;rw[zab] at h;exact h.2
theorem qq0{g t:Int}{b:List Int}{k:List CV}(h:(qbz g t b k).2=0):t=g/\b=[]:=by
 by_cases e:t=g
 ·refine⟨e, ?_⟩;by_cases hb:qau g=true
  ·by_cases hl:b.length≠0
   ·rw[xbh5 e hb hl] at h;simp at h
   ·exact zak (by omega)
  ·rw[q8u (zat.2 hb)] at h;simp at h
 ·rw[qrh e] at h;simp at h
theorem qke{α:Type}{f:α->Option CV}{h:CV->Option α}{g lo hi:Int}{l:List α}(hg:qau g=true)(hb:evB f lo hi l=true)(hh: ∀c∈l, ∀y,f c=some y->h y=some c):
  qen h g g [] (evL f lo hi l)=true/\qcl h g g [] (evL f lo hi l)=l:=by
 have e:=(qqo hb).1;obtain⟨i1,i2⟩:=xbv4 (qu8 hb) hh;have hk:qbz g g [] (evL f lo hi l)=(evL f lo hi l,0):=q2w rfl hg (by simp);have hB:qen h g g [] (evL f lo hi l)=true:=by unfold qen;rw[hk,decide_eq_true rfl,e];exact i2
 refine⟨hB, ?_⟩;unfold qcl;rw[if_pos hB,hk,e];exact i1
theorem xbfh{α:Type}{h:CV->Option α}{g t:Int}{b:List Int}{k:List CV}(hB:qen h g t b k=true):t=g/\b=[]/\qcl h g t b k=k.filterMap h/\k.all (fun c=>(h c).isSome)=true:=by have hB0:=hB;unfold qen at hB;rw[zab,decide_eq_true_eq] at hB;obtain⟨h1,h2⟩:=qq0 hB.1;rw[qe5 hB.1] at hB;refine⟨h1,h2, ?_,hB.2⟩;unfold qcl;rw[if_pos hB0,qe5 (by unfold qen at hB0;rw[zab,decide_eq_true_eq] at hB0;exact hB0.1)]
theorem qq3{α:Type}{f:α->Option CV}{h:CV->Option α}{g t lo hi:Int}{b:List Int}{k:List CV}(hB:qen h g t b k=true)(hE:evB f lo hi (qcl h g t b k)=true)(hb: ∀z∈k, ∀c y,h z=some c->f c=some y->y=z):
  t=g/\b=[]/\evL f lo hi (qcl h g t b k)=k:=by
 obtain⟨h1,h2,h3,h4⟩:=xbfh hB;refine⟨h1,h2, ?_⟩;rw[(qqo hE).1];have:=qu8 hE;rw[h3] at this ⊢;exact xbmo h4 this hb
def NdO(c:CV):Prop:= ∃t b k,c=.agg [.int .i64 t,.sli .u8 b,.slg 3 k]/\isS [.int .i64 t,.sli .u8 b,.slg 3 k]=true
theorem qqc{t:Int}{b:List Int}{k:List CV}(h:isS [.int .i64 t,.sli .u8 b,.slg 3 k]=true): ∀c∈k,NdO c:=(qcz (qde h).1).2
theorem xbjb{s:Int}{l:List CV}(hl:xbbg l): ∀c∈l, ∀y,digF s c=some y->qon y=some c:=fun c hc y hy=>by
 obtain⟨b,rfl,hb⟩:=hl.2 c hc;replace hy:(if(b.length:Int)=s then some (qbg 4 b []) else none)=some y:=hy;split at hy
 ·cases hy;show(if(qa0 4 b []).2=0 then some (CV.sli .u8 (qa0 4 b []).1) else none)=_;rw[xbda,if_pos rfl]
 ·cases hy
theorem xbqr{s:Int}{z c y:CV}(hz:NdO z)(h1:qon z=some c)(h2:digF s c=some y):y=z:=by
 obtain⟨t,b,k,rfl,_⟩:=hz;replace h1:(if(qa0 t b k).2=0 then some (CV.sli .u8 (qa0 t b k).1) else none)=some c:=h1;split at h1
 ·rename_i h0;obtain⟨rfl,rfl,e⟩:=qxx h0;cases h1;rw[e] at h2;replace h2:(if(b.length:Int)=s then some (qbg 4 b []) else none)=some y:=h2;split at h2
  ·cases h2;rfl
  ·cases h2
 ·cases h1
theorem qze{s:Int}{l:List CV}{y:CV}(h:qjr s (.slg 1 l)=some y):evB (digF s) 1 64 l=true/\y=qbg 48 [] (evL (digF s) 1 64 l):=by
 replace h:(if evB (digF s) 1 64 l=true then some (qbg 48 [] (evL (digF s) 1 64 l)) else none)=some y:=h;split at h
 ·rename_i hb;cases h;exact⟨hb,rfl⟩
 ·cases h
theorem xbam{t:Int}{b:List Int}{k:List CV}{c:CV}(h:qc1 (qbg t b k)=some c):qen qon 48 t b k=true/\c=.slg 1 (qcl qon 48 t b k):=by
 replace h:(if qen qon 48 t b k=true then some (CV.slg 1 (qcl qon 48 t b k)) else none)=some c:=h;split at h
 ·rename_i hb;cases h;exact⟨hb,rfl⟩
 ·cases h
theorem xbge{s:Int}{t:List CV}(ht:xbbh t): ∀c∈t, ∀y,qjr s c=some y->qc1 y=some c:=fun c hc y hy=>by obtain⟨l,rfl,hl⟩:=ht.2 c hc;obtain⟨hb,rfl⟩:=qze hy;have:=qke (g:=48) rfl hb (xbjb hl);show(if qen qon 48 48 [] (evL (digF s) 1 64 l)=true then some (CV.slg 1 (qcl qon 48 48 [] (evL (digF s) 1 64 l))) else none)=_;rw[if_pos this.1,this.2]
theorem xbkx{s:Int}{z c y:CV}(hz:NdO z)(h1:qc1 z=some c)(h2:qjr s c=some y):y=z:=by obtain⟨t,b,k,rfl,hs⟩:=hz;obtain⟨hB,rfl⟩:=xbam h1;obtain⟨hE,rfl⟩:=qze h2;obtain⟨rfl,rfl,e⟩:=qq3 hB hE fun z hz c y=>xbqr (qqc hs z hz);rw[e];rfl
theorem xb36{t:Int}{b:List Int}{k:List CV}(hs:isS [.int .i64 t,.sli .u8 b,.slg 3 k]=true)(h:(qe7 t b k).2=0):qel (qe7 t b k).1=qbg t b k:=by
 have hv:qm7 6 t b k=0:=by
  unfold qe7 at h;rw[qab] at h;by_cases he:qm7 6 t b k=0
  ·exact he
  ·rw[if_neg he] at h;exact absurd h he
 have hvi:qe7 t b k=qb6 b:=by unfold qe7;rw[qab,if_pos hv]
 obtain⟨rfl,hk1,hd⟩:=quf hv;have hk1:=zak hk1;subst hk1;have hp:qb6 b=qct b:=qab _;have hd:decide ((qct b).2=0)=true:=hd;rcases qu6 (qvd hs) with h5|⟨o,h5,hof,hor,hob⟩
 ·rw[h5] at hd;simp at hd
 ·rw[hvi,hp,h5,q67 hof hor,show qax o=b from(show qax o=qco o from qab _).trans hob]
theorem q1k{d:Int}(h:(qaf d).2.1=1):qus 160 [] [qel (qaf d).2.2]=(d,true):=by
 obtain⟨hm,hg⟩:=xbdp (g:=d) (by omega);have hf:=xbdk _ hm;have hr:=(qmp d).2;have hof:qfz (qaf d).2.2=d:=by rw[xbzw hm,hg]
 have hid:qe7 6 (qax (qaf d).2.2) []=((qaf d).2.2,0):=by unfold qe7;rw[qab,if_pos (qug rfl rfl (q1h hf hr).2)];unfold qb6;rw[qab];exact(q1h hf hr).1
 have hk:qbz 160 160 [] [qel (qaf d).2.2]=([qel (qaf d).2.2],0):=q2w rfl rfl (by simp);unfold qus;rw[hk,if_neg (by simp),q67 hf hr];show(qfz (qe7 6 (qax (qaf d).2.2) []).1,decide ((qe7 6 (qax (qaf d).2.2) []).2=0))=_;rw[hid,hof];rfl
theorem q7c{x:CV}{d:Int}(hx:NdO x)(h:qyf x=(d,true))(hd:(qaf d).2.1=1):qbg 160 [] [qel (qaf d).2.2]=x:=by
 obtain⟨t,b,k,rfl,hs⟩:=hx;replace h:qus t b k=(d,true):=h;unfold qus at h;split at h
 ·simp at h
 ·rename_i h0;have h1:(qbz 160 t b k).2=0:=Classical.byContradiction fun e=>h0 (.inl e);have h2:((qbz 160 t b k).1.length:Int)=1:=Classical.byContradiction fun e=>h0 (.inr e);obtain⟨rfl,rfl⟩:=qq0 h1;rw[qe5 h1] at h h2;obtain⟨c,rfl⟩:=List.length_eq_one_iff.1 (show k.length=1 by omega);obtain⟨t1,b1,k1,rfl,hs1⟩:=qqc hs c (by simp);replace h:(qfz (qe7 t1 b1 k1).1,decide ((qe7 t1 b1 k1).2=0))=(d,true):=h;obtain⟨h3,h4⟩:=Prod.mk.inj h;have h4:=of_decide_eq_true h4;have e:=xb36 hs1 h4;have h5: ¬qfz (qe7 t1 b1 k1).1=0:=fun h0=>by
   rw[h0] at h3;rw[<- h3] at hd;have:(qaf 0).2.1=0:=by rw[qx8 (by omega)]
   omega
  have h6:=(xbzx h5).2;rw[h3] at h6;rw[h6,e];rfl
theorem q8p{w:List Int}(hw:qad w=true)(hl:w.length<=30000)(h:(qap w).2=0):qm6 (ndCV (qap w).1)=(w,0):=(q2g hw hl h).2.1
theorem xbhy{z:CV}(hz:NdO z)(h:(qm6 z).2=0):ndCV (qap (qm6 z).1).1=z/\(qap (qm6 z).1).2=0:=by
 obtain⟨t,b,k,rfl,hs⟩:=hz;replace h:(qbf [.int .i64 t,.sli .u8 b,.slg 3 k]).2=0:=h;obtain⟨n,hn,_⟩:=qdp hs;have hf:qul [.int .i64 t,.sli .u8 b,.slg 3 k]=true:=by rw[<- qx3 hn];exact decide_eq_true h
 have e:qap (qbf [.int .i64 t,.sli .u8 b,.slg 3 k]).1=(toNd [.int .i64 t,.sli .u8 b,.slg 3 k],0):=q78 hs hf;show ndCV (qap (qbf [.int .i64 t,.sli .u8 b,.slg 3 k]).1).1=_/\(qap (qbf [.int .i64 t,.sli .u8 b,.slg 3 k]).1).2=0;rw[e];exact⟨xbnx hn,rfl⟩
theorem qlv(d:Int)(t:List CV)(w:List Int):(t=[]/\ql9 d t w=[qbg 160 [] [qel (qaf d).2.2],ndCV (qap w).1])\/(¬t=[]/\ql9 d t w=[qbg 160 [] [qel (qaf d).2.2],qbg 162 [] (evL (qjr (qa4 d)) 0 20 t),ndCV (qap w).1]):=by
 by_cases h:t=[]
 ·exact .inl ⟨h,by unfold ql9;rw[if_pos h];rfl⟩
 ·exact .inr ⟨h,by unfold ql9;rw[if_neg h];rfl⟩
theorem xbfy{d:Int}{t:List CV}{w:List Int}(ht:xbbh t)(hw:qad w=true)(hl:w.length<=30000)(h:qc8 d t w=true):qc4 48 [] (ql9 d t w)=(d,t,w,true):=by
 obtain⟨h1,h2,h3⟩:=qdx.1 h;have hk:qbz 48 48 [] (ql9 d t w)=(ql9 d t w,0):=qle _;have kN:qyf (qbg 160 [] [qel (qaf d).2.2])=(d,true):=q1k h1;have kT:=q8p hw hl h2;unfold qc4;rw[hk,if_neg (by simp)];rcases qlv d t w with⟨rfl,e⟩|⟨hne,e⟩
 ·show qn2 (ql9 d [] w)=_;rw[e,qyv,kN,kT];rfl
 ·show qn2 (ql9 d t w)=_;have hL:=qke (g:=162) rfl h3 (xbge ht);rw[e,qyw,kN,kT];show(d,qcl qc1 162 162 [] (evL (qjr (qa4 d)) 0 20 t),w,(qen qc1 162 162 [] (evL (qjr (qa4 d)) 0 20 t)&&decide (0<((qcl qc1 162 162 [] (evL (qjr (qa4 d)) 0 20 t)).length:Int)))&&(true&&decide ((0:Int)=0)))=_;rw[hL.1,hL.2,decide_eq_true (show(0:Int)<(t.length:Int) by have:=List.length_pos_iff.2 hne;omega)];rfl
theorem xbai{c y:CV}(hc:isMk c)(hl:(mW c).length<=30000)(h:qjw c=some y):qoo y=some c:=by obtain⟨d,t,w,rfl,ht,hw⟩:=hc;obtain⟨hm,rfl⟩:=qra rfl h;have e:=xbfy ht hw hl hm;show(if(qc4 48 [] (ql9 d t w)).2.2.2=true then some (qz7 (qc4 48 [] (ql9 d t w)).1 (qc4 48 [] (ql9 d t w)).2.1 (qc4 48 [] (ql9 d t w)).2.2.1) else none)=_;rw[e];rfl
theorem xbj9{c y:CV}(hc:isMk c)(hl:(mW c).length<=30000)(h:qjw c=some y):mkdV y=c:=by
 obtain⟨d,t,w,rfl,ht,hw⟩:=hc;obtain⟨hm,rfl⟩:=qra rfl h;obtain⟨h1,h2,h3⟩:=qdx.1 hm;have kT:=q8p hw hl h2;have kN:=q1k h1;have hk1:qbz 160 160 [] [qel (qaf d).2.2]=([qel (qaf d).2.2],0):=q2w rfl rfl (by simp);unfold qus at kN;rw[hk1,if_neg (by simp)] at kN;have hid:=(Prod.mk.inj kN).1;have hC: ∀ks,mkdC (qbg 48 [] ks)=if ks.length<2\/(nK (ks.headD .nili)).length≠1 then(0,[],[]) else(q5a (qbg 48 [] ks),qn6 (qbg 48 [] ks),(qm6 (ks.getD (ks.length - 1) .nili)).1):=fun _=>rfl
 have fin:mkdC (qbg 48 [] (ql9 d t w))=(d,t,w):=by
  rcases qlv d t w with⟨rfl,e⟩|⟨hne,e⟩
  ·rw[e,hC,if_neg (by rintro(h|h);simp at h;exact h rfl)];have e1:q5a (qbg 48 [] [qbg 160 [] [qel (qaf d).2.2],ndCV (qap w).1])=d:=hid;have e2:qn6 (qbg 48 [] [qbg 160 [] [qel (qaf d).2.2],ndCV (qap w).1])=[]:=rfl;have e3:(qm6 ([qbg 160 [] [qel (qaf d).2.2],ndCV (qap w).1].getD ([qbg 160 [] [qel (qaf d).2.2],ndCV (qap w).1].length - 1) .nili)).1=w:=congrArg (·.1) kT;rw[e1,e2,e3]
  ·rw[e,hC,if_neg (by rintro(h|h);simp at h;exact h rfl)];have e1:q5a (qbg 48 [] [qbg 160 [] [qel (qaf d).2.2],qbg 162 [] (evL (qjr (qa4 d)) 0 20 t),ndCV (qap w).1])=d:=hid;have e2:qn6 (qbg 48 [] [qbg 160 [] [qel (qaf d).2.2],qbg 162 [] (evL (qjr (qa4 d)) 0 20 t),ndCV (qap w).1])=(evL (qjr (qa4 d)) 0 20 t).map fun p=>CV.slg 1 ((nK p).map fun d=>CV.sli .u8 (nB d)):=rfl;have e3:(qm6 ([qbg 160 [] [qel (qaf d).2.2],qbg 162 [] (evL (qjr (qa4 d)) 0 20 t),ndCV (qap w).1].getD ([qbg 160 [] [qel (qaf d).2.2],qbg 162 [] (evL (qjr (qa4 d)) 0 20 t),ndCV (qap w).1].length - 1) .nili)).1=w:=congrArg (·.1) kT;rw[e1,e2,e3,(qqo h3).1];have map_id: ∀ {f:CV->Option CV} {g:CV->CV} {l:List CV},l.all (fun c=>(f c).isSome)=true->(∀c∈l, ∀y,f c=some y->g y=c)->(l.filterMap f).map g=l:=fun {f g l}=>by
    induction l with
    | nil=>intro _ _;rfl
    | cons x r ih=>
     intro ha hh;simp only[zb0,zab] at ha;obtain⟨y,hy⟩:=zax.1 ha.1;rw[zbb hy,zbe,hh x (by simp) y hy,ih ha.2 fun c hc=>hh c (by simp[hc])]
   have:(t.filterMap (qjr (qa4 d))).map (fun p=>CV.slg 1 ((nK p).map fun d=>CV.sli .u8 (nB d)))=t:=map_id (qu8 h3) fun c hc y hy=>by
    obtain⟨l,rfl,hr⟩:=ht.2 c hc;obtain⟨hb,rfl⟩:=qze hy;show CV.slg 1 ((evL (digF (qa4 d)) 1 64 l).map fun d=>CV.sli .u8 (nB d))=_;rw[(qqo hb).1];have:(l.filterMap (digF (qa4 d))).map (fun d=>CV.sli .u8 (nB d))=l:=map_id (qu8 hb) fun c hc y hy=>by
     obtain⟨b,rfl,_⟩:=hr.2 c hc;replace hy:(if(b.length:Int)=qa4 d then some (qbg 4 b []) else none)=some y:=hy;split at hy
     ·cases hy;rfl
     ·cases hy
    rw[this]
   rw[this]
 show qz7 (mkdC (qbg 48 [] (ql9 d t w))).1 (mkdC (qbg 48 [] (ql9 d t w))).2.1 (mkdC (qbg 48 [] (ql9 d t w))).2.2=_;rw[fin]
theorem xbj6{z c y:CV}(hz:NdO z)(h1:qoo z=some c)(h2:qjw c=some y):y=z:=by
 obtain⟨t,b,k,rfl,hs⟩:=hz;replace h1:(if(qc4 t b k).2.2.2=true then some (qz7 (qc4 t b k).1 (qc4 t b k).2.1 (qc4 t b k).2.2.1) else none)=some c:=h1;split at h1
 ·rename_i hm;cases h1;obtain⟨hok,rfl⟩:=qra rfl h2;obtain⟨m1,m2,m3⟩:=qdx.1 hok;unfold qc4 at hm hok m1 m2 m3 ⊢;split at hm
  ·cases hm
  ·rename_i h0;have h0:(qbz 48 t b k).2=0:=Classical.not_not.1 h0;obtain⟨rfl,rfl⟩:=qq0 h0;rw[if_neg (fun h=>h h0),qe5 h0] at hok m1 m2 m3 ⊢;rw[qe5 h0] at hm;by_cases hl:(k.length:Int)<2\/3<(k.length:Int)
   ·unfold qn2 at hm;rw[if_pos hl] at hm;cases hm
   ·have hn:=qqc hs;by_cases h3:k.length=3
    ·obtain⟨x,u,v,rfl⟩:=len3 h3;rw[qyw] at hm m1 m2 m3 ⊢;simp only[zab,decide_eq_true_eq] at hm;obtain⟨⟨a1,a2⟩,a3,a4⟩:=hm;obtain⟨t2,b2,k2,rfl,hs2⟩:=hn u (by simp);have e1:=q7c (hn x (by simp)) (show qyf x=((qyf x).1,true) by rw[<- a3]) m1;obtain⟨rfl,rfl,e2⟩:=qq3 a1 m3 fun z hz c y=>xbkx (qqc hs2 z hz);have e3:=(xbhy (hn v (by simp)) a4).1;rcases qlv (qyf x).1 (qcl qc1 162 162 [] k2) (qm6 v).1 with⟨q,_⟩|⟨_,q⟩
     ·rw[show qcl qc1 162 (nT (.agg [.int .i64 162,.sli .u8 [],.slg 3 k2])) (nB (.agg [.int .i64 162,.sli .u8 [],.slg 3 k2])) (nK (.agg [.int .i64 162,.sli .u8 [],.slg 3 k2]))=[] from q] at a2;simp at a2
     ·show qbg 48 [] (ql9 (qyf x).1 (qcl qc1 162 162 [] k2) (qm6 v).1)=_;rw[q,e1,e3,show evL (qjr (qa4 (qyf x).1)) 0 20 (qcl qc1 162 162 [] k2)=k2 from e2];rfl
    ·obtain⟨x,v,rfl⟩:=len2 (show k.length=2 by omega);rw[qyv] at hm m1 m2 m3 ⊢;simp only[zab,decide_eq_true_eq] at hm;have e1:=q7c (hn x (by simp)) (show qyf x=((qyf x).1,true) by rw[<- hm.1]) m1;have e3:=(xbhy (hn v (by simp)) hm.2).1;rcases qlv (qyf x).1 [] (qm6 v).1 with⟨_,q⟩|⟨q,_⟩
     ·show qbg 48 [] (ql9 (qyf x).1 [] (qm6 v).1)=_;rw[q,e1,e3];rfl
     ·exact absurd rfl q
 ·cases h1
theorem q9m{t:Int}{b:List Int}{k:List CV}{c:CV}(h:qdi (qbg t b k)=some c):qen qoo 48 t b k=true/\c=.slg 3 (qcl qoo 48 t b k):=by
 replace h:(if qen qoo 48 t b k=true then some (CV.slg 3 (qcl qoo 48 t b k)) else none)=some c:=h;split at h
 ·rename_i hb;cases h;exact⟨hb,rfl⟩
 ·cases h
theorem q9n{m:List CV}{y:CV}(hm:qn4 m)(hl: ∀c∈m,(mW c).length<=30000)(h:qdu (.slg 3 m)=some y):qdi y=some (.slg 3 m):=by obtain⟨hb,rfl⟩:=qj5 rfl h;have:=qke (g:=48) rfl hb fun c hc y hy=>xbai (hm.2 c hc) (hl c hc) hy;show(if qen qoo 48 48 [] (evL qjw 1 20 m)=true then some (CV.slg 3 (qcl qoo 48 48 [] (evL qjw 1 20 m))) else none)=_;rw[if_pos this.1,this.2]
theorem xbdf{z c y:CV}(hz:NdO z)(h1:qdi z=some c)(h2:qdu c=some y):y=z:=by obtain⟨t,b,k,rfl,hs⟩:=hz;obtain⟨hB,rfl⟩:=q9m h1;obtain⟨hE,rfl⟩:=qj5 rfl h2;obtain⟨rfl,rfl,e⟩:=qq3 hB hE fun z hz c y=>xbj6 (qqc hs z hz);rw[e];rfl
theorem xbi1{a:Int}(h:(qaf a).2.1=1):algV (qr0 a)=some a:=by
 have e:=xbk2 (g:=a) (b:=[]) (by omega) (by rw[h];rfl);have e2:qjm (qaf a).2.1 []=[]:=by rw[h];rfl
 rw[e2] at e;rw[(qna h).2];show(if(qby 48 [] [qel (qaf a).2.2]).2.2=0 then some (qby 48 [] [qel (qaf a).2.2]).1 else none)=_;rw[e];rfl
theorem xbs5{g:Int}{b:List Int}(h:(qbo g b).2.2=0): ¬(qaf g).2.1=0/\(b.length:Int)=qb1 (qaf g).2.1:=by
 rw[xbf2] at h;unfold qf1 at h;split at h
 ·simp at h
 ·split at h
  ·simp at h
  ·rename_i h1 h2;exact⟨h1,Classical.byContradiction h2⟩
theorem xbqc{z:CV}{a:Int}(hz:NdO z)(h1:algV z=some a)(h:(qaf a).2.1=1):qr0 a=z:=by
 obtain⟨t,b,k,rfl,hs⟩:=hz;replace h1:(if(qby t b k).2.2=0 then some (qby t b k).1 else none)=some a:=h1;split at h1
 ·rename_i h0;cases h1;obtain⟨r1,r2,rfl,r4,_⟩:=xbti hs h0;have hu:=(xbs5 r1).2;rw[h] at hu;have hu:((qby t [] k).2.1.length:Int)=0:=hu;rw[zak (show(qby t [] k).2.1.length=0 by omega),qr2] at r2 r4;show qbg (qf1 (qby t [] k).1 []).1 [] (qf1 (qby t [] k).1 []).2.1=_;rw[r2,r4];rfl
 ·cases h1
theorem int1E{b:List Int}(hb: ∀x∈b,0<=x/\x<=255)(hn:qdo b=true)(ht:xbis b=1):b=[1]:=by
 match b,hb,hn,ht with
 | [],_,hn,_=>cases hn
 | [x],hb,_,ht=>
  have hx:=hb x (by simp);rw[ql4] at ht;have e:qar [x]=x:=by show 0*256+x=x;omega
  rw[e] at ht;have e1:(256:Int) ^ (([]:List Int).length+1)=256:=by decide
  rw[e1] at ht;split at ht
  ·omega
  ·rw[ht]
 | x::y::r,hb,hn,ht=>
  exfalso;obtain⟨n1,n2,n3⟩:=qti (b:=x::y::r) (L:=r.length+1) hb rfl;obtain⟨m1,m2,m3⟩:=qti (b:=y::r) (L:=r.length) (fun z hz=>hb z (by simp[hz])) rfl;have hx:=hb x (by simp);have hn:(!(decide (x=0/\y<128))&& !(decide (x=255/\128<=y)))=true:=hn;simp only[zab,zal,decide_eq_false_iff_not] at hn;rw[ql4] at ht;rw[qy4 x (y::r)] at n1 n2 n3 ht;simp only[zba,zac] at n1 n2 n3 m3 ht;have hp:(256:Int) ^ (r.length+1+1)=256 ^ (r.length+1)*256:=zc1 ..;have hp1:(256:Int) ^ (r.length+1)=256 ^ r.length*256:=zc1 ..;have hz:(1:Int)<=256 ^ r.length:=by have:=Int.pow_pos (n:=256) (m:=r.length) (by omega);omega
  rw[hp] at ht;rw[hp1] at ht n1 n2 n3;generalize (256:Int) ^ r.length=z at*;generalize qar (y::r)=w at*;split at ht
  ·omega
  ·rename_i h128;have hx0:x=0:=by
    rcases Int.lt_or_le 0 x with e|e
    ·have:z*256<=x*(z*256):=by have:=zb7 (show(1:Int)<=x by omega) (show(0:Int)<=z*256 by omega);omega
     omega
    ·omega
   subst hx0;have:w=1:=by omega
   have hy:128<=y:=Classical.byContradiction fun e=>hn.1 ⟨rfl,by omega⟩;have:=m3.1 hy;omega
theorem xbrn{t:Int}{b:List Int}{k:List CV}(hs:isS [.int .i64 t,.sli .u8 b,.slg 3 k]=true)(h1:(qb7 t b k).2=0)(h2:(qb7 t b k).1=1):CV.agg [.int .i64 t,.sli .u8 b,.slg 3 k]=qbg 2 (vInt 1) []:=by
 unfold qb7 at h1 h2;rw[qab] at h1 h2;split at h1
 ·rename_i he;rw[if_pos he] at h2;obtain⟨rfl,hk,hd⟩:=quf he;have hk:=zak hk;subst hk;unfold qpw at h1 h2;split at h1
  ·simp at h1
  ·rename_i h8;rw[if_neg h8] at h2;have hd:qdo b=true:=hd;rw[xb2v,int1E (qix hs).2 hd h2];rfl
 ·rename_i he;exact absurd h1 he
theorem xbjx:qb7 2 (vInt 1) []=(1,0):=by have:=xbe2 (n:=1) st1;rwa [qce] at this
theorem q7p{c:List CV}(hn:qhx c<=12100): ∀x∈c, ∀m,x=.slg 3 m->∀y∈m,(mW y).length<=30000:=fun x hx m hm y hy=>by subst hm;have h1:=qpd (g:=fun c=>1+qgy (qbl c)) hx;have h1:1+qgy m<=_:=h1;have h2:=qpd (g:=fun c=>2+(mW c).length+qub (mT c)) hy;have e1:qgy m=(m.map fun c=>2+(mW c).length+qub (mT c)).sum:=rfl;have e2:qhx c=(c.map fun c=>1+qgy (qbl c)).sum:=rfl;have h2:2+(mW y).length+qub (mT y)<=_:=h2;omega
theorem q8c{g:List Int}{c:List CV}(hc:qeq c)(hn:qhx c<=12100)(h:q1c g c=true):qp6 (qj8 g c)=(g,c,true):=by
 obtain⟨hb,hg⟩:=qet.1 h;have hd:=(qj7 hc hb).1;rw[<- hg] at hd;have h1:=qke (g:=48) rfl hb fun x hx y hy=>by obtain⟨m,rfl,hm⟩:=hc.2 x hx;exact q9n hm (q7p hn _ hx m rfl) hy
 have h2:qen algV 48 48 [] (g.map qr0)=true/\qcl algV 48 48 [] (g.map qr0)=g:=by
  have e:evB q6b 0 (g.length:Int) g=true:=by unfold evB;rw[zab,decide_eq_true_eq,zai];exact⟨by omega,fun d hd'=>by rw[(qna (hd d hd')).1];rfl⟩
  have:=qke (g:=48) (h:=algV) rfl e fun d hd' y hy=>by rw[(qna (hd d hd')).1] at hy;cases hy;exact xbi1 (hd d hd')
  rwa [xbmi hd] at this
 unfold qj8;rw[xbqv];show(qcl algV 48 48 [] (g.map qr0),qcl qdi 48 48 [] (evL qdu 1 10 c),(decide ((qb7 2 (vInt 1) []).2=0)&&decide ((qb7 2 (vInt 1) []).1=1))&&(qen algV 48 48 [] (g.map qr0)&&qen qdi 48 48 [] (evL qdu 1 10 c)))=_;rw[h1.1,h1.2,h2.1,h2.2,xbjx];rfl
theorem xb0i{g:List Int}{c:List CV}(hc:qeq c)(hn:qhx c<=12100)(h:q1c g c=true):qbu (qj8 g c)=c:=by
 obtain⟨hb,hg⟩:=qet.1 h;have map_id: ∀ {f:CV->Option CV} {q:CV->CV} {l:List CV},l.all (fun c=>(f c).isSome)=true->(∀c∈l, ∀y,f c=some y->q y=c)->(l.filterMap f).map q=l:=fun {f q l}=>by
  induction l with
  | nil=>intro _ _;rfl
  | cons x r ih=>
   intro ha hh;simp only[zb0,zab] at ha;obtain⟨y,hy⟩:=zax.1 ha.1;rw[zbb hy,zbe,hh x (by simp) y hy,ih ha.2 fun c hc=>hh c (by simp[hc])]
 show(evL qdu 1 10 c).map (fun c=>CV.slg 3 ((nK c).map mkdV))=c;rw[(qqo hb).1];refine map_id (qu8 hb) fun x hx y hy=> ?_;obtain⟨m,rfl,hm⟩:=hc.2 x hx;obtain⟨hb2,rfl⟩:=qj5 rfl hy;show CV.slg 3 ((evL qjw 1 20 m).map mkdV)=_;rw[(qqo hb2).1,map_id (qu8 hb2) fun z hz y hy=>xbj9 (hm.2 z hz) (q7p hn _ hx m rfl z hz) hy]
theorem xbtj{k:List CV}(hk: ∀z∈k,NdO z)(h:(qp6 k).2.2=true)(hc:qeq (qp6 k).2.1)(hm:q1c (qp6 k).1 (qp6 k).2.1=true):k=qj8 (qp6 k).1 (qp6 k).2.1:=by
 unfold qp6 at h;split at h
 ·cases h
 ·rename_i h3;obtain⟨x,y,z,rfl⟩:=len3 (show k.length=3 by omega);obtain⟨t1,b1,k1,rfl,s1⟩:=hk x (by simp);obtain⟨t2,b2,k2,rfl,s2⟩:=hk y (by simp);obtain⟨t3,b3,k3,rfl,s3⟩:=hk z (by simp);replace h:((decide ((qb7 t1 b1 k1).2=0)&&decide ((qb7 t1 b1 k1).1=1))&&(qen algV 48 t2 b2 k2&&qen qdi 48 t3 b3 k3))=true:=h;simp only[zab,decide_eq_true_eq] at h;obtain⟨⟨v1,v2⟩,v3,v4⟩:=h;rw[xbqv] at hc hm ⊢;replace hm:q1c (qcl algV 48 t2 b2 k2) (qcl qdi 48 t3 b3 k3)=true:=hm;replace hc:qeq (qcl qdi 48 t3 b3 k3):=hc;obtain⟨hb,hg⟩:=qet.1 hm;have hd:=(qj7 hc hb).1;rw[<- hg] at hd;obtain⟨rfl,rfl,e3⟩:=qq3 v4 hb fun z hz c y=>xbdf (qqc s3 z hz);obtain⟨rfl,rfl,e2,a2⟩:=xbfh v3;have e1:=xbrn s1 v1 v2;have e4:(qcl algV 48 48 [] k2).map qr0=k2:=by
   rw[e2] at hd ⊢;have: ∀l:List CV,(∀z∈l,NdO z)->l.all (fun c=>(algV c).isSome)=true->(∀d∈l.filterMap algV,(qaf d).2.1=1)->(l.filterMap algV).map qr0=l:=fun l=>by
    induction l with
    | nil=>intro _ _ _;rfl
    | cons x r ih=>
     intro h1 h2 h3;simp only[zb0,zab] at h2;obtain⟨a,ha⟩:=zax.1 h2.1;rw[zbb ha] at h3 ⊢;rw[zbe,xbqc (h1 x (by simp)) ha (h3 a (by simp)),ih (fun z hz=>h1 z (by simp[hz])) h2.2 fun d hd=>h3 d (by simp[hd])]
   exact this k2 (qqc s2) a2 hd
  show _=qj8 (qcl algV 48 48 [] k2) (qcl qdi 48 48 [] k3);unfold qj8;rw[e1,e4,e3];rfl
theorem xbga{b:List Int}(hb:qad b=true)(hl:b.length<=6000):qdd b=qof b:=by
 by_cases h0:(qap b).2=0
 ·have hLg:=qxm hb h0;obtain⟨f1,f2,f3⟩:=q2g hb (by omega) h0;unfold qdd qof;have n0: ¬(qap b).2≠0:=fun h=>h h0;rw[if_neg n0,if_neg n0];generalize hn:(qap b).1=n at*;obtain⟨t,cb,k⟩:=n;replace hLg:Lg (qbg t cb k) b.length:=hLg;replace f1:isS [.int .i64 t,.sli .u8 cb,.slg 3 k]=true:=f1;replace f2:qbf [.int .i64 t,.sli .u8 cb,.slg 3 k]=(b,0):=f2;dsimp only;have hK:=qqc f1;by_cases hv:(qbz 48 t cb k).2=0/\(qp6 (qbz 48 t cb k).1).2.2=true/\qu9 (qp6 (qbz 48 t cb k).1).1 (qp6 (qbz 48 t cb k).1).2.1=true
  ·rw[if_pos hv];obtain⟨h1,h2,h3⟩:=hv;obtain⟨rfl,rfl⟩:=qq0 h1;rw[qe5 h1] at h2 h3 ⊢;have hk3:k.length=3:=Classical.byContradiction fun e=>by unfold qp6 at h2;rw[if_pos (by omega)] at h2;cases h2
   obtain⟨x,y,z,hxyz⟩:=len3 hk3;have hR:recO (qp6 k).2.1=true:=by subst hxyz;obtain⟨gz,g1,g2,_⟩:=qhr hLg;obtain⟨t3,b3,k3,rfl⟩:=q0q (g1 z (by simp));have:=qpd (g:=gz) (l:=[x,y,qbg t3 b3 k3]) (c:=qbg t3 b3 k3) (by simp);exact q6h (g:=48) (by omega) (g1 (qbg t3 b3 k3) (by simp))
   obtain⟨hc,hcn⟩:=qjd hR;have hm:=xbkt h3;have e:=xbtj hK h2 hc hm;generalize (qp6 k).1=g at*;generalize (qp6 k).2.1=c at*;subst e;have e1:=xb0i hc hcn hm;have e2:=(qet.1 hm).2;have e3:qcx g c=(b,0):=by unfold qcx;rw[if_pos h3];exact f2
   rw[e1, <- e2,e3,if_pos ⟨rfl,rfl⟩]
  ·rw[if_neg hv];by_cases hr:(qcx (qb4 (qbu k)) (qbu k)).2=0/\b=(qcx (qb4 (qbu k)) (qbu k)).1
   ·exfalso;have hR:=xbtk hl hLg;obtain⟨hc,hcn⟩:=qjd hR;generalize qbu k=c at*;generalize qb4 c=g at*;obtain⟨r1,r2⟩:=hr;have hok:qu9 g c=true:=Classical.byContradiction fun e=>by unfold qcx at r1;rw[if_neg e] at r1;simp at r1
    have hm:=xbkt hok;have hS:=xbjd hc hcn hm;have hF:qul [.int .i64 48,.sli .u8 [],.slg 3 (qj8 g c)]=true:=by rw[q4u hm] at hok;exact hok
    have hB:qcx g c=qbf [.int .i64 48,.sli .u8 [],.slg 3 (qj8 g c)]:=by unfold qcx;rw[if_pos hok]
    have hp:=q78 hS hF;rw[hB] at r2;rw[<- r2] at hp;obtain⟨m,hm1,_⟩:=qdp hS;have e:(t,cb,k)=toNd [.int .i64 48,.sli .u8 [],.slg 3 (qj8 g c)]:=by rw[<- hn,hp]
    have e:(t,cb,k)=((48:Int),([]:List Int),qj8 g c):=e;obtain⟨rfl,rfl,rfl⟩:t=48/\cb=[]/\k=qj8 g c:=by simpa using e
    refine hv ⟨by rw[qle], ?_, ?_⟩
    ·rw[qle,q8c hc hcn hm]
    ·rw[qle,q8c hc hcn hm];exact hok
   ·rw[if_neg hr]
 ·unfold qdd qof;rw[if_pos h0,if_pos h0]
theorem xbzs(b:List Int)(hp:qo3 b=true):xbev b=zB true:=by
 have hr: ∀x∈b,0<=x/\x<=255:=by unfold qo3 at hp;rw[qab,zai] at hp;exact fun x hx=>of_decide_eq_true (hp x hx)
 unfold xbev;refine qae (fun _=>rfl) fun h=> ?_;have hl:b.length<=6000:=by omega
 have hb:qad b=true:=qcm (by omega) hr;have hbb:(qad b&&b6k b)=true:=by rw[hb];unfold b6k;rw[qab];exact decide_eq_true hl
 have e:=xbga hb hl;refine qak hbb (qak hbb ?_);simp only[qsl,q8a, <- e];have hok:qh1 (qdd b).1=true/\qeq (qdd b).2.1:=by
  rw[e];unfold qof;by_cases h0:(qap b).2=0
  ·have hR:=xbtk hl (qxm hb h0);rw[if_neg (fun h=>h h0)];have hc:=(qjd hR).1;dsimp only;split
   ·exact⟨qms (by
     have h1:(qb4 (qbu (qap b).1.2.2)).length<=0+((qbu (qap b).1.2.2).flatMap fun c=>q1o (qbl c)).length:=qhb;have h2:((qbu (qap b).1.2.2).flatMap fun c=>q1o (qbl c)).length<=(qbu (qap b).1.2.2).length*10000:=qu4 fun x hx=>by have:=qj6 hc x hx;show((qbl x).map mD).length<=10000;rw[zaw];exact this
     have:=hc.1;show(qb4 (qbu (qap b).1.2.2)).length<=_;omega),hc⟩
   ·exact⟨qms (by simp),⟨by simp,by simp⟩⟩
  ·rw[if_pos h0];exact⟨qms (by simp),⟨by simp,by simp⟩⟩
 refine qak (by rw[hok.1,qne hok.2];rfl) (qak (by rw[q6l];exact qi9.2 ⟨rfl,rfl⟩) (qaq (by trivial) rfl))
end Go.Proofs.YtoaakappnhemiaaGreatDoorA
