/-
 The evid layer: what a function makes of each; digests, parts and marks as values. Conditions: each function's own.
-/
import Derived.Test.YtoaakappnhemiaaGreatDoorT3b
set_option linter.unusedVariables false
set_option linter.unusedSimpArgs false
set_option maxRecDepth 100000
namespace Go.Proofs.YtoaakappnhemiaaGreatDoorA
open IntWalk (i64_in u8_in u32_in u64_in i64_quo u8_quo rem_in)
theorem qde {α β:Type} {f:α->Option β}: ∀ {l:List α},l.all (fun c=>(f c).isSome)=true->(l.filterMap f).length=l.length
 | [],_=>rfl
 | x::r,h=>by
  simp only[zcl,zab] at h
  obtain⟨y,hy⟩:=za1.1 h.1
  rw[zcw hy,zac,zac,qde h.2]
theorem qop {α β:Type} (f:α->Option β) (l:List α) (hl:l.length<=1000000) (L:Nat->Nat->Int->List β->Option Out) (bad:Option Out) (fin:List β->Option Out)
  (hstep: ∀(n i:Nat) (acc:List β) (x:α),i<l.length->acc.length=i->l[i]? =some x->L (n+1) i (i:Int) acc=match f x with|some y=>L n (i+1) ((i+1:Nat):Int) (acc++[y])|none=>bad)
  (hend: ∀(n:Nat) (acc:List β),L (n+1) l.length (l.length:Int) acc=fin acc):
  ∀(fuel i:Nat) (acc:List β),i<=l.length->acc.length=i->l.length<fuel+i->L fuel i (i:Int) acc=if(l.drop i).all (fun c=>(f c).isSome)=true then fin (acc++(l.drop i).filterMap f) else bad
 | 0,i,acc,hi,ha,hf=>by omega
 | fuel+1,i,acc,hi,ha,hf=>by
  rcases zbz i l.length with h|h
  ·obtain⟨x,hx⟩: ∃x,l[i]? =some x:=⟨_,zaf h⟩
   rw[hstep fuel i acc x h ha hx,qhu hx,zcl]
   cases hy:f x with
   | none=>simp
   | some y=>
    show L fuel (i+1) ((i+1:Nat):Int) (acc++[y])=_
    rw[qop f l hl L bad fin hstep hend fuel (i+1) (acc++[y]) h (by simp[ha]) (by omega),zcw hy]
    simp
  ·obtain rfl:i=l.length:=by omega
   rw[hend,zdi]
   simp
theorem xbyr {α β:Type} (f:α->Option β) (l:List α) (lo hi w:Int) (hl:l.length<=1000000) (h0:0<=w) (hw:w<=100) (out:List β->Bool->Option Out) {X:Option Out} (hX:X=if l.all (fun c=>(f c).isSome)=true then out (l.filterMap f) true else out [] false):
  cond (decide ((l.length:Int)<lo)) (out [] false) (cond (decide (hi<(l.length:Int))) (out [] false) (cond (decide ((0:Int)<=(l.length:Int))) (cond (decide ((l.length:Int)*w<=LIM)) (cond (decide ((l.length:Int)<=LIM)) X none) none) none))=out (evL f lo hi l) (evB f lo hi l):=by
 have hm:(l.length:Int)*w<=1000000*100:=Int.mul_le_mul (by omega) hw h0 (by omega)
 refine qae (fun h=> ?_) fun h=>qae (fun h'=> ?_) fun h'=>qan (by omega) (qan (by unfold LIM;omega) (qan (by unfold LIM;omega) ?_))
 ·have e:evB f lo hi l=false:=by unfold evB;rw[decide_eq_false (by omega)];rfl
  unfold evL
  rw[e,if_neg (by simp)]
 ·have e:evB f lo hi l=false:=by unfold evB;rw[decide_eq_false (by omega)];rfl
  unfold evL
  rw[e,if_neg (by simp)]
 ·have e:evB f lo hi l=l.all (fun c=>(f c).isSome):=by unfold evB;rw[decide_eq_true (by omega)];rfl
  unfold evL
  rw[hX,e]
  split
  ·rename_i h;rw[h]
  ·rename_i h;rw[zau.2 h]
theorem xbdx {α β:Type} {acc:List β} {y:β} {i w:Nat} {l:List α} {n:Int} {again:Nat->List α->Int->Int->List β->Option Out} (ha:acc.length=i) (hi:i<1000000) (hw:w<=100):
  rmK (acc++[y]).length w (again (acc++[y]).length l n (IntKind.i64.wrap ((i:Int)+1)) (acc++[y]))=again (i+1) l n ((i+1:Nat):Int) (acc++[y]):=by
 have e2:IntKind.i64.wrap ((i:Int)+1)=((i+1:Nat):Int):=i64_in _ (by omega)
 have e3:(acc++[y]).length=i+1:=by rw[zag,ha];rfl
 have hm:(i+1)*w<=1000000*100:=zdh (by omega) hw
 rw[e2,e3]
 exact qp8 (by omega) (by omega) rfl
theorem xb1y {β:Type} {B:Bool} {fx:Option β} {y:β} {k0 X:Option Out} {Y:β->Option Out} (h:fx=cond B (some y) none) (hX:X=Y y):cond (!B) k0 X=match (generalizing:=false) fx with|some z=>Y z|none=>k0:=by
 subst h
 cases B with
 | true=>exact hX
 | false=>rfl
theorem qrp {β:Type} {B:Bool} {fx:Option β} {y:β} {k0:Option Out} {acc:List β} {i w:Nat} {A:Nat->Int->List β->Option Out} (h:fx=cond B (some y) none) (ha:acc.length=i) (hi:i<1000000) (hw:w<=100:=by omega):
  cond (!B) k0 (rmK (acc++[y]).length w (A (acc++[y]).length (IntKind.i64.wrap ((i:Int)+1)) (acc++[y])))=match (generalizing:=false) fx with|some z=>A (i+1) ((i+1:Nat):Int) (acc++[z])|none=>k0:=
 xb1y (Y:=fun z=>A (i+1) ((i+1:Nat):Int) (acc++[z])) h (xbdx (l:=([]:List Int)) (n:=0) (again:=fun a _ _ c d=>A a c d) ha hi hw)
theorem qxx {α β:Type} {f:α->Option β} {l:List α} {lo hi w:Int} {out:List β->Bool->Option Out} {S:(Nat->List α->Int->Int->List β->Option Out)->Option Out->(Nat->List β->Option Out)->Nat->List α->Int->Int->List β->Option Out} (hl:l.length<=1000000)
  (hS: ∀again k0 k1 (i:Nat) (acc:List β) (x:α) (fx:Option β),i<l.length->acc.length=i->l[i]? =some x->f x=fx->S again k0 k1 i l (l.length:Int) (i:Int) acc=match fx with|some y=>again (i+1) l (l.length:Int) ((i+1:Nat):Int) (acc++[y])|none=>k0)
  (hE: ∀again k0 k1 (acc:List β),S again k0 k1 l.length l (l.length:Int) (l.length:Int) acc=k1 l.length acc) (h0:0<=w:=by omega) (hw:w<=100:=by omega):
  cond (decide ((l.length:Int)<lo)) (out [] false) (cond (decide (hi<(l.length:Int))) (out [] false) (cond (decide ((0:Int)<=(l.length:Int))) (cond (decide ((l.length:Int)*w<=LIM)) (cond (decide ((l.length:Int)<=LIM))
   (shut (qe3 (fun a=>S a (out [] false) (fun _ y=>out y true)) (fun _ _ _ _ _=>none) FUEL) 0 l (l.length:Int) 0 []) none) none) none))=out (evL f lo hi l) (evB f lo hi l):=by
 refine xbyr f l lo hi w hl h0 hw out ?_
 rw[qab]
 refine(qop f l hl (fun n m i acc=>qe3 (fun a=>S a (out [] false) (fun _ y=>out y true)) (fun _ _ _ _ _=>none) n m l (l.length:Int) i acc) (out [] false) (fun y=>out y true) (fun n i acc x hi ha hx=>hS _ _ _ i acc x (f x) hi ha hx rfl) (fun n acc=>hE _ _ _ acc) FUEL 0 [] (zbc _) rfl (by unfold FUEL;omega)).trans ?_
 rfl
theorem xbxs {α β:Type} {f:α->Option β} {l:List α} {lo hi w s:Int} {out:Int->List β->Bool->Option Out} {S:(Nat->List α->Int->Int->Int->List β->Option Out)->(Int->Option Out)->(Nat->Int->List β->Option Out)->Nat->List α->Int->Int->Int->List β->Option Out} (hl:l.length<=1000000)
  (hS: ∀again k0 k1 (i:Nat) (acc:List β) (x:α) (fx:Option β),i<l.length->acc.length=i->l[i]? =some x->f x=fx->S again k0 k1 i l (l.length:Int) (i:Int) s acc=match fx with|some y=>again (i+1) l (l.length:Int) ((i+1:Nat):Int) s (acc++[y])|none=>k0 s)
  (hE: ∀again k0 k1 (acc:List β),S again k0 k1 l.length l (l.length:Int) (l.length:Int) s acc=k1 l.length s acc) (h0:0<=w:=by omega) (hw:w<=100:=by omega):
  cond (decide ((l.length:Int)<lo)) (out s [] false) (cond (decide (hi<(l.length:Int))) (out s [] false) (cond (decide ((0:Int)<=(l.length:Int))) (cond (decide ((l.length:Int)*w<=LIM)) (cond (decide ((l.length:Int)<=LIM))
   (shut (qe3 (fun a=>S a (fun s=>out s [] false) (fun _ s y=>out s y true)) (fun _ _ _ _ _ _=>none) FUEL) 0 l (l.length:Int) 0 s []) none) none) none))=out s (evL f lo hi l) (evB f lo hi l):=by
 refine xbyr f l lo hi w hl h0 hw (out s) ?_
 rw[qab]
 refine(qop f l hl (fun n m i acc=>qe3 (fun a=>S a (fun s=>out s [] false) (fun _ s y=>out s y true)) (fun _ _ _ _ _ _=>none) n m l (l.length:Int) i s acc) (out s [] false) (fun y=>out s y true) (fun n i acc x hi ha hx=>hS _ _ _ i acc x (f x) hi ha hx rfl) (fun n acc=>hE _ _ _ acc) FUEL 0 [] (zbc _) rfl (by unfold FUEL;omega)).trans ?_
 rfl
theorem qik {β:Type} {p:Prop} [Decidable p] {x y:β}:cond (decide p) x y=if p then x else y:=by by_cases h:p<;>simp[h]
theorem qyy {l:List CV} (h:q59 l=true):xbix l:=by unfold q59 at h;rw[qab] at h;exact @of_decide_eq_true _ (Classical.propDecidable _) h
theorem xbmi {l:List CV} (h:xbix l):q59 l=true:=by unfold q59;rw[qab];exact @decide_eq_true _ (Classical.propDecidable _) h
theorem qsh {l:List CV} (h:q3h l=true):xbjr l:=by unfold q3h at h;rw[qab] at h;exact @of_decide_eq_true _ (Classical.propDecidable _) h
theorem q9p {l:List CV} (h:xbjr l):q3h l=true:=by unfold q3h;rw[qab];exact @decide_eq_true _ (Classical.propDecidable _) h
theorem qt4 {l:List CV} (h:qoj l=true):qsx l:=by unfold qoj at h;rw[qab] at h;exact @of_decide_eq_true _ (Classical.propDecidable _) h
theorem xbgg {l:List CV} (h:qsx l):qoj l=true:=by unfold qoj;rw[qab];exact @decide_eq_true _ (Classical.propDecidable _) h
theorem qe0 {l:List CV} (h:qcb l=true):qdj l:=by unfold qcb at h;rw[qab] at h;exact @of_decide_eq_true _ (Classical.propDecidable _) h
theorem qm1 {l:List CV} (h:qdj l):qcb l=true:=by unfold qcb;rw[qab];exact @decide_eq_true _ (Classical.propDecidable _) h
theorem qt9 {b:List Int} (h:qad b=true):qc6 b=true:=by
 have:=(qal h).1
 unfold qc6;rw[qab];exact decide_eq_true (by omega)
theorem qrx {l:List Int} (h:l.length<=1000000000000000):qgv l=true:=by unfold qgv;rw[qab];exact decide_eq_true h
theorem qsb {l:List Int} (h:qgv l=true):l.length<=1000000000000000:=by unfold qgv at h;rw[qab] at h;exact of_decide_eq_true h
theorem qbz {l:List CV} (h:l.length<=100000000):qbl l=true:=by unfold qbl;rw[qab];exact decide_eq_true h
theorem q5b {α β:Type} {f:α->Option β} {lo hi:Int} {l:List α}:(evL f lo hi l).length<=l.length:=by
 unfold evL
 split
 ·exact List.length_filterMap_le ..
 ·exact zbc _
theorem xbn9 (s lo hi:Int) (l:List CV):dgL s lo hi l=evL (digF s) lo hi l:=by unfold dgL;rw[qab]
theorem xbw8 (s lo hi:Int) (l:List CV):dgB s lo hi l=evB (digF s) lo hi l:=by unfold dgB;rw[qab]
theorem xbc3 (s lo hi:Int) (l:List CV):xbub s lo hi l=evL (qpt s) lo hi l:=by unfold xbub;rw[qab]
theorem xbdr (s lo hi:Int) (l:List CV):xbyv s lo hi l=evB (qpt s) lo hi l:=by unfold xbyv;rw[qab]
theorem qw3 (lo hi:Int) (l:List CV):qrd lo hi l=evL qlz lo hi l:=by unfold qrd;rw[qab]
theorem q47 (lo hi:Int) (l:List CV):qrf lo hi l=evB qlz lo hi l:=by unfold qrf;rw[qab]
theorem qpj (lo hi:Int) (l:List CV):qpd lo hi l=evL qci lo hi l:=by unfold qpd;rw[qab]
theorem qpy (lo hi:Int) (l:List CV):qme lo hi l=evB qci lo hi l:=by unfold qme;rw[qab]
theorem qnb (k:Int):qow k=qbf k:=by unfold qow;rw[qab]
theorem xb0k (k:Int) (hp:true=true):xbug k=some (.ret [.cl (.int .i64 (qow k))] []):=by
 unfold xbug
 rw[qnb,qab]
 refine qae (fun h=> ?_) fun h=>qae (fun h'=> ?_) fun h'=>qan (by omega) (qan (by omega) ?_)
 ·unfold qbf;rw[if_neg (by omega)]
 ·unfold qbf;rw[if_neg (by omega)]
 ·obtain⟨n,rfl⟩: ∃n:Nat,k=n:=⟨k.toNat,by omega⟩
  have hn:n<8:=by omega
  have:n=0\/n=1\/n=2\/n=3\/n=4\/n=5\/n=6\/n=7:=by omega
  rcases this with rfl|rfl|rfl|rfl|rfl|rfl|rfl|rfl<;>rfl
theorem xbtt (k:Int) (hp:true=true):xbko k=some (.ret [.cl (.int .i64 (qow k))] []):=by
 unfold xbko
 rw[qnb]
 refine qae (fun h=> ?_) fun h=>qae (fun h'=> ?_) fun h'=>qan (by omega) (qan (by omega) ?_)
 ·unfold qbf;rw[if_neg (by omega)]
 ·unfold qbf;rw[if_neg (by omega)]
 ·obtain⟨n,rfl⟩: ∃n:Nat,k=n:=⟨k.toNat,by omega⟩
  have hn:n<8:=by omega
  have:n=0\/n=1\/n=2\/n=3\/n=4\/n=5\/n=6\/n=7:=by omega
  rcases this with rfl|rfl|rfl|rfl|rfl|rfl|rfl|rfl<;>rfl
theorem xb5s (b:List Int) (s:Int) (hp:qc6 b=true):xb5r b s=some (.ret [.cl (.agg [.int .i64 4,.sli .u8 b,.slg 3 qb2]),.cl (.bool (decide ((b.length:Int)=s)))] [some ⟨.var [.cl (.int .i64 s)],false⟩]):=qam hp rfl
theorem xb49 (l:List CV) (lo hi s:Int) (hp:q59 l=true):xb4z l lo hi s=some (.ret [.cl (.slg 3 (dgL s lo hi l)),.cl (.bool (dgB s lo hi l))] [some ⟨.var [.cl (.int .i64 s)],false⟩]):=by
 obtain⟨hl,hr⟩:=qyy hp
 rw[xbn9,xbw8]
 refine xbxs (f:=digF s) (w:=56) (out:=(fun s x b=>some (.ret [.cl (.slg 3 x),.cl (.bool b)] [some ⟨.var [.cl (.int .i64 s)],false⟩]))) (S:=qxi) hl (fun again k0 k1 i acc x fx hi ha hx hf=> ?_) fun again k0 k1 acc=>qb6 (by omega) rfl
 obtain⟨b,rfl,hb⟩:=hr x (zae hx)
 unfold qxi
 simp only[qdf]
 refine qan (by omega) (qa4 (by omega) hx (qam rfl (qam (qt9 hb) ?_)))
 refine qrp (y:=qcr 4 b []) (w:=56) (A:=fun a c acc=>again a l (l.length:Int) c s acc) ?_ ha ?_ ?_
 rotate_left
 ·omega
 ·omega
 rw[<- hf]
 unfold digF
 rw[qik]
 rfl
theorem xb1n (l:List CV) (lo hi s:Int) (hp:q59 l=true):xb2a l lo hi s=some (.ret [.cl (.agg [.int .i64 48,.sli .u8 qa0,.slg 3 (dgL s lo hi l)]),.cl (.bool (dgB s lo hi l))] [some ⟨.var [.cl (.int .i64 s)],false⟩]):=
 qam hp (qam (qbz (by rw[xbn9];have:=(qyy hp).1;have:=@q5b _ _ (digF s) lo hi l;omega)) rfl)
theorem xb24 (l:List CV) (s:Int) (hp:q59 l=true):xb1u l s=some (.ret [.cl (.agg [.int .i64 48,.sli .u8 qa0,.slg 3 (dgL s 1 64 l)]),.cl (.bool (dgB s 1 64 l))] [some ⟨.var [.cl (.int .i64 s)],false⟩]):=qam hp rfl
theorem xb2y (s:Int) (hp:true=true):xb26 s=some (.ret [.fn (.func 186) [] [.ptr 0 0 0]] [some ⟨.var [.cl (.int .i64 s)],false⟩]):=rfl
open IntWalk (i64_in u8_in u32_in u64_in i64_quo u8_quo rem_in)
theorem qfz {l:List CV} (h:qgj l=true):l.length<=1000000/\∀c∈l, ∃t b k,c=.agg [.int .i64 t,.sli .u8 b,.slg 3 k]/\isS [.int .i64 t,.sli .u8 b,.slg 3 k]=true:=by unfold qgj at h;rw[qab] at h;exact @of_decide_eq_true _ (Classical.propDecidable _) h
theorem q4m {l:List CV} (h:l.length<=1000000/\∀c∈l, ∃t b k,c=.agg [.int .i64 t,.sli .u8 b,.slg 3 k]/\isS [.int .i64 t,.sli .u8 b,.slg 3 k]=true):qgj l=true:=by unfold qgj;rw[qab];exact @decide_eq_true _ (Classical.propDecidable _) h
theorem qyk (lo hi:Int) (l:List CV):qy1 lo hi l=evL quj lo hi l:=by unfold qy1;rw[qab]
theorem qy9 (lo hi:Int) (l:List CV):qym lo hi l=evB quj lo hi l:=by unfold qym;rw[qab]
theorem qt5 (lo hi:Int) (l:List CV):qr6 lo hi l=evL qdz lo hi l:=by unfold qr6;rw[qab]
theorem qug (lo hi:Int) (l:List CV):qss lo hi l=evB qdz lo hi l:=by unfold qss;rw[qab]
theorem qtd (lo hi:Int) (l:List CV):qsc lo hi l=evL qt2 lo hi l:=by unfold qsc;rw[qab]
theorem qtw (lo hi:Int) (l:List CV):qqu lo hi l=evB qt2 lo hi l:=by unfold qqu;rw[qab]
theorem qp3 (lo hi:Int) (l:List CV):ql6 lo hi l=evL qeq lo hi l:=by unfold ql6;rw[qab]
theorem qrh (lo hi:Int) (l:List CV):qmd lo hi l=evB qeq lo hi l:=by unfold qmd;rw[qab]
theorem qzf (lo hi:Int) (l:List CV):qzh lo hi l=evL algV lo hi l:=by unfold qzh;rw[qab]
theorem qza (lo hi:Int) (l:List CV):qzz lo hi l=evB algV lo hi l:=by unfold qzz;rw[qab]
theorem xbyk (g t:Int) (b:List Int) (k:List CV):ldL g t b k=qdw quj g t b k:=by unfold ldL;rw[qab]
theorem xbt4 (g t:Int) (b:List Int) (k:List CV):ldB g t b k=qg9 quj g t b k:=by unfold ldB;rw[qab]
theorem xbyp (g t:Int) (b:List Int) (k:List CV):lpL g t b k=qdw qdz g t b k:=by unfold lpL;rw[qab]
theorem xbvn (g t:Int) (b:List Int) (k:List CV):lpB g t b k=qg9 qdz g t b k:=by unfold lpB;rw[qab]
theorem xbyh (g t:Int) (b:List Int) (k:List CV):lmL g t b k=qdw qt2 g t b k:=by unfold lmL;rw[qab]
theorem xbwp (g t:Int) (b:List Int) (k:List CV):lmB g t b k=qg9 qt2 g t b k:=by unfold lmB;rw[qab]
theorem xbxm (g t:Int) (b:List Int) (k:List CV):lcL g t b k=qdw qeq g t b k:=by unfold lcL;rw[qab]
theorem xby2 (g t:Int) (b:List Int) (k:List CV):lcB g t b k=qg9 qeq g t b k:=by unfold lcB;rw[qab]
theorem xbsv (g t:Int) (b:List Int) (k:List CV):laL g t b k=qdw algV g t b k:=by unfold laL;rw[qab]
theorem xbyw (g t:Int) (b:List Int) (k:List CV):laB g t b k=qg9 algV g t b k:=by unfold laB;rw[qab]
theorem q1b (lo hi:Int) (l:List Int):xbju lo hi l=evL q8c lo hi l:=by unfold xbju;rw[qab]
theorem xbpq (lo hi:Int) (l:List Int):xbnk lo hi l=evB q8c lo hi l:=by unfold xbnk;rw[qab]
theorem q98 {d:Int} {t:List CV} {w:List Int} (h:qct d t w=true):q55 d t w=(48,q40 d t w):=by unfold q55;rw[qab,if_pos h]
theorem qpn (d:Int) (t:List CV) (w:List Int):qy4 d t w=qct d t w:=by unfold qy4;rw[qab]
theorem q3u (t:Int) (b:List Int) (k:List CV):markOf t b k=qf7 t b k:=by unfold markOf;rw[qab]
def sl8 (b:List Int):CV:=.sli .u8 b
def sg1 (b:List CV):CV:=.slg 1 b
def sg3 (b:List CV):CV:=.slg 3 b
theorem b_if {β:Type} {B:Bool} {x y:β}:cond B x y=if B=true then x else y:=by cases B<;>rfl
theorem qk6 {β:Type} {f:CV->Option β} {g t:Int} {b:List Int} {k:List CV} (h:(qb4 g t b k).2=0):qg9 f g t b k=evB f 0 ((qb4 g t b k).1.length:Int) (qb4 g t b k).1/\qdw f g t b k=evL f 0 ((qb4 g t b k).1.length:Int) (qb4 g t b k).1:=by
 have e:qg9 f g t b k=evB f 0 ((qb4 g t b k).1.length:Int) (qb4 g t b k).1:=by
  unfold qg9 evB
  rw[decide_eq_true h,decide_eq_true (by omega)]
 refine⟨e, ?_⟩
 unfold qdw evL
 rw[e]
theorem qla {β:Type} {f:CV->Option β} {g t:Int} {b:List Int} {k:List CV} (h: ¬(qb4 g t b k).2=0):qg9 f g t b k=false/\qdw f g t b k=[]:=by
 have e:qg9 f g t b k=false:=by unfold qg9;rw[decide_eq_false h];rfl
 refine⟨e, ?_⟩
 unfold qdw
 rw[e]
 rfl
theorem xb5p (l:List CV) (lo hi s:Int) (hp:q3h l=true):xb5d l lo hi s=some (.ret [.cl (.slg 3 (xbub s lo hi l)),.cl (.bool (xbyv s lo hi l))] [some ⟨.var [.cl (.int .i64 s)],false⟩]):=by
 obtain⟨hl,hr⟩:=qsh hp
 rw[xbc3,xbdr]
 refine xbxs (f:=qpt s) (w:=56) (out:=(fun s x b=>some (.ret [.cl (.slg 3 x),.cl (.bool b)] [some ⟨.var [.cl (.int .i64 s)],false⟩]))) (S:=qwi) hl (fun again k0 k1 i acc x fx hi ha hx hf=> ?_) fun again k0 k1 acc=>qb6 (by omega) rfl
 obtain⟨b,rfl,hb⟩:=hr x (zae hx)
 unfold qwi
 simp only[qbo,xbn9,xbw8]
 refine qan (by omega) (qa4 (by omega) hx (qam rfl (qam (xbmi hb) ?_)))
 refine qrp (y:=qcr 48 [] (evL (digF s) 1 64 b)) (w:=56) (A:=fun a c acc=>again a l (l.length:Int) c s acc) ?_ ha ?_ ?_
 rotate_left
 ·omega
 ·omega
 rw[<- hf]
 unfold qpt
 rw[b_if]
 rfl
theorem xb48 (l:List CV) (lo hi:Int) (hp:qoj l=true):xb5a l lo hi=some (.ret [.cl (.slg 3 (qrd lo hi l)),.cl (.bool (qrf lo hi l))] []):=by
 obtain⟨hl,hr⟩:=qt4 hp
 replace hl:l.length<=1000000:=by omega
 rw[qw3,q47]
 refine qxx (f:=qlz) (w:=56) (out:=(fun x b=>some (.ret [.cl (.slg 3 x),.cl (.bool b)] []))) (S:=qva) hl (fun again k0 k1 i acc x fx hi ha hx hf=> ?_) fun again k0 k1 acc=>qb6 (by omega) rfl
 obtain⟨d,t,w,rfl,ht,hw⟩:=hr x (zae hx)
 unfold qva
 simp only[qbo,qpn]
 refine qan (by omega) (qa4 (by omega) hx (qam rfl (qam (by show(q3h t&&qad w)=true;rw[q9p ht];exact hw) ?_)))
 refine qrp (B:=qct d t w) (y:=qcr (q55 d t w).1 [] (q55 d t w).2) (w:=56) (A:=fun a c acc=>again a l (l.length:Int) c acc) ?_ ha ?_ ?_
 rotate_left
 ·omega
 ·omega
 rw[<- hf]
 show(if qct d t w=true then some (qcr 48 [] (q40 d t w)) else none)=_
 cases hm:qct d t w with
 | false=>rfl
 | true=>rw[q98 hm];rfl
theorem xb4y (l:List CV) (lo hi:Int) (hp:qcb l=true):xb4s l lo hi=some (.ret [.cl (.slg 3 (qpd lo hi l)),.cl (.bool (qme lo hi l))] []):=by
 obtain⟨hl,hr⟩:=qe0 hp
 replace hl:l.length<=1000000:=by omega
 rw[qpj,qpy]
 refine qxx (f:=qci) (w:=56) (out:=(fun x b=>some (.ret [.cl (.slg 3 x),.cl (.bool b)] []))) (S:=qw5) hl (fun again k0 k1 i acc x fx hi ha hx hf=> ?_) fun again k0 k1 acc=>qb6 (by omega) rfl
 obtain⟨m,rfl,hm⟩:=hr x (zae hx)
 unfold qw5
 simp only[qbo,qw3,q47]
 refine qan (by omega) (qa4 (by omega) hx (qam rfl (qam (xbgg hm) ?_)))
 refine qrp (y:=qcr 48 [] (evL qlz 1 20 m)) (w:=56) (A:=fun a c acc=>again a l (l.length:Int) c acc) ?_ ha ?_ ?_
 rotate_left
 ·omega
 ·omega
 rw[<- hf]
 unfold qci
 rw[b_if]
 rfl
theorem xb3c (l:List CV) (lo hi:Int) (hp:qgj l=true):xb1i l lo hi=some (.ret [.cl (.slg 1 (qy1 lo hi l)),.cl (.bool (qym lo hi l))] []):=by
 obtain⟨hl,hr⟩:=qfz hp
 rw[qyk,qy9]
 refine qxx (f:=quj) (w:=24) (out:=(fun x b=>some (.ret [.cl (.slg 1 x),.cl (.bool b)] []))) (S:=qql) hl (fun again k0 k1 i acc x fx hi ha hx hf=> ?_) fun again k0 k1 acc=>qb6 (by omega) rfl
 obtain⟨t,b,k,rfl,hs⟩:=hr x (zae hx)
 unfold qql
 refine qan (by omega) (qa4 (by omega) hx (qam rfl (qam hs ?_)))
 refine qrp (y:=sl8 (qba t b k).1) (w:=24) (A:=fun a c acc=>again a l (l.length:Int) c acc) ?_ ha ?_ ?_
 rotate_left
 ·omega
 ·omega
 rw[<- hf]
 unfold quj
 rw[qik]
 rfl
theorem xbz5 (l:List CV) (lo hi:Int) (hp:qgj l=true):xb23 l lo hi=some (.ret [.cl (.slg 1 (qr6 lo hi l)),.cl (.bool (qss lo hi l))] []):=by
 obtain⟨hl,hr⟩:=qfz hp
 rw[qt5,qug]
 refine qxx (f:=qdz) (w:=24) (out:=(fun x b=>some (.ret [.cl (.slg 1 x),.cl (.bool b)] []))) (S:=qqc) hl (fun again k0 k1 i acc x fx hi ha hx hf=> ?_) fun again k0 k1 acc=>qb6 (by omega) rfl
 obtain⟨t,b,k,rfl,hs⟩:=hr x (zae hx)
 unfold qqc
 simp only[xbyk,xbt4]
 refine qan (by omega) (qa4 (by omega) hx (qam rfl (qam hs ?_)))
 refine qrp (y:=sg1 (qdw quj 48 t b k)) (w:=24) (A:=fun a c acc=>again a l (l.length:Int) c acc) ?_ ha ?_ ?_
 rotate_left
 ·omega
 ·omega
 rw[<- hf]
 unfold qdz
 rw[b_if]
 rfl
theorem xb05 (l:List CV) (lo hi:Int) (hp:qgj l=true):xb2h l lo hi=some (.ret [.cl (.slg 3 (qsc lo hi l)),.cl (.bool (qqu lo hi l))] []):=by
 obtain⟨hl,hr⟩:=qfz hp
 rw[qtd,qtw]
 refine qxx (f:=qt2) (w:=56) (out:=(fun x b=>some (.ret [.cl (.slg 3 x),.cl (.bool b)] []))) (S:=qp2) hl (fun again k0 k1 i acc x fx hi ha hx hf=> ?_) fun again k0 k1 acc=>qb6 (by omega) rfl
 obtain⟨t,b,k,rfl,hs⟩:=hr x (zae hx)
 unfold qp2
 simp only[q3u]
 refine qan (by omega) (qa4 (by omega) hx (qam rfl (qam hs ?_)))
 refine qrp (y:=xbd3 (qf7 t b k).1 (qf7 t b k).2.1 (qf7 t b k).2.2.1) (w:=56) (A:=fun a c acc=>again a l (l.length:Int) c acc) ?_ ha ?_ ?_
 rotate_left
 ·omega
 ·omega
 rw[<- hf]
 unfold qt2
 rw[b_if]
 rfl
theorem xb1x (l:List CV) (lo hi:Int) (hp:qgj l=true):xb2v l lo hi=some (.ret [.cl (.slg 1 (ql6 lo hi l)),.cl (.bool (qmd lo hi l))] []):=by
 obtain⟨hl,hr⟩:=qfz hp
 rw[qp3,qrh]
 refine qxx (f:=qeq) (w:=24) (out:=(fun x b=>some (.ret [.cl (.slg 1 x),.cl (.bool b)] []))) (S:=qrs) hl (fun again k0 k1 i acc x fx hi ha hx hf=> ?_) fun again k0 k1 acc=>qb6 (by omega) rfl
 obtain⟨t,b,k,rfl,hs⟩:=hr x (zae hx)
 unfold qrs
 simp only[xbyh,xbwp]
 refine qan (by omega) (qa4 (by omega) hx (qam rfl (qam hs ?_)))
 refine qrp (y:=sg3 (qdw qt2 48 t b k)) (w:=24) (A:=fun a c acc=>again a l (l.length:Int) c acc) ?_ ha ?_ ?_
 rotate_left
 ·omega
 ·omega
 rw[<- hf]
 unfold qeq
 rw[b_if]
 rfl
theorem xb2t (l:List CV) (lo hi:Int) (hp:qgj l=true):xb3g l lo hi=some (.ret [.cl (.sli .i64 (qzh lo hi l)),.cl (.bool (qzz lo hi l))] []):=by
 obtain⟨hl,hr⟩:=qfz hp
 rw[qzf,qza]
 refine qxx (f:=algV) (w:=8) (out:=(fun x b=>some (.ret [.cl (.sli .i64 x),.cl (.bool b)] []))) (S:=qqr) hl (fun again k0 k1 i acc x fx hi ha hx hf=> ?_) fun again k0 k1 acc=>qb6 (by omega) rfl
 obtain⟨t,b,k,rfl,hs⟩:=hr x (zae hx)
 unfold qqr
 refine qan (by omega) (qa4 (by omega) hx (qam rfl (qam hs ?_)))
 refine qrp (y:=(qen t b k).1) (w:=8) (A:=fun a c acc=>again a l (l.length:Int) c acc) ?_ ha ?_ ?_
 rotate_left
 ·omega
 ·omega
 rw[<- hf]
 unfold algV
 rw[qik]
 rfl
theorem xb2d (l:List CV) (lo hi:Int) (hp:qoj l=true):xb1t l lo hi=some (.ret [.cl (.agg [.int .i64 48,.sli .u8 qa0,.slg 3 (qrd lo hi l)]),.cl (.bool (qrf lo hi l))] []):=
 qam hp (qam (qbz (by rw[qw3];have:=(qt4 hp).1;have:=@q5b _ _ qlz lo hi l;omega)) rfl)
theorem xbo3 (l:List CV) (hp:qoj l=true):xbri l=some (.ret [.cl (.agg [.int .i64 48,.sli .u8 qa0,.slg 3 (qrd 1 20 l)]),.cl (.bool (qrf 1 20 l))] []):=qam hp rfl
theorem xb1g (l:List CV) (lo hi:Int) (hp:qcb l=true):xb13 l lo hi=some (.ret [.cl (.agg [.int .i64 48,.sli .u8 qa0,.slg 3 (qpd lo hi l)]),.cl (.bool (qme lo hi l))] []):=
 qam hp (qam (qbz (by rw[qpj];have:=(qe0 hp).1;have:=@q5b _ _ qci lo hi l;omega)) rfl)
theorem xbft (l:List CV) (hp:qcb l=true):xbiy l=some (.ret [.cl (.agg [.int .i64 48,.sli .u8 qa0,.slg 3 (qpd 1 10 l)]),.cl (.bool (qme 1 10 l))] []):=qam hp rfl
theorem q9s: ∀ {l:List Nat} {x:Nat},x∈l->x<=l.sum
 | y::r,x,h=>by
  rcases zaw.1 h with rfl|h
  ·simp
  ·have:=q9s h
   simp only[zb7]
   omega
theorem qg5 {t:Int} {b:List Int} {k:List CV} (h:isS [.int .i64 t,.sli .u8 b,.slg 3 k]=true):qgj k=true/\k.length<=30000:=by
 obtain⟨n,hn,hb⟩:=qdl h
 obtain⟨m,t',b',k',rfl,e,hb',hk⟩:=qcx hn
 simp only[zch,CV.int.injEq,CV.sli.injEq,CV.slg.injEq,and_true,true_and] at e
 obtain⟨rfl,rfl,rfl⟩:=e
 have hbb:1+b.length+(k.map fun c=>qdp m (cell1 c)).sum<=30000:=hb
 have hpos: ∀c∈k,1<=qdp m (cell1 c):=fun c hc=>by
  obtain⟨y,rfl,hy⟩:=hk c hc
  obtain⟨m',t',b',k',rfl,rfl,_,_⟩:=qcx hy
  show 1<=1+b'.length+_
  omega
 have hle: ∀c∈k,qdp m (cell1 c)<=(k.map fun c=>qdp m (cell1 c)).sum:=fun c hc=>q9s (List.mem_map_of_mem hc)
 have hlen: ∀l:List CV,(∀c∈l,1<=qdp m (cell1 c))->l.length<=(l.map fun c=>qdp m (cell1 c)).sum:=fun l=>by
  induction l with
  | nil=>intro _;simp
  | cons x r ih=>
   intro h
   have:=ih fun c hc=>h c (by simp[hc])
   have:=h x (by simp)
   simp only[zac,zbi,zb7]
   omega
 have h1:=hlen k hpos
 refine⟨q4m ⟨by omega,fun c hc=> ?_⟩,by omega⟩
 obtain⟨y,rfl,hy⟩:=hk c hc
 obtain⟨m',t',b',k',_,rfl,_,_⟩:=qcx hy
 have:=hle _ hc
 exact⟨t',b',k',rfl,q9h hy (by show qdp m (cell1 (.agg _))<=30000;omega)⟩
theorem qil {g t:Int} {b:List Int} {k:List CV} (h:isS [.int .i64 t,.sli .u8 b,.slg 3 k]=true):qgj (qb4 g t b k).1=true:=by
 by_cases h0:(qb4 g t b k).2=0
 ·rw[qlf h0];exact(qg5 h).1
 ·rw[q2c h0];exact q4m ⟨by simp,fun c hc=>by simp at hc⟩
theorem xb2o (t:Int) (b:List Int) (k:List CV) (g:Int) (hp:isS [.int .i64 t,.sli .u8 b,.slg 3 k]=true):xbw2 t b k g=some (.ret [.cl (.slg 1 (ldL g t b k)),.cl (.bool (ldB g t b k))] []):=by
 unfold xbw2
 rw[xbyk,xbt4]
 refine qam (qbz (by have:=(qg5 hp).2;omega)) (qay (fun h=> ?_) fun h=>qam (qil hp) ?_)
 ·rw[(qla h).1,(qla h).2]
 ·rw[(qk6 h).1,(qk6 h).2, <- qyk, <- qy9]
theorem xb3j (t:Int) (b:List Int) (k:List CV) (g:Int) (hp:isS [.int .i64 t,.sli .u8 b,.slg 3 k]=true):xbsu t b k g=some (.ret [.cl (.slg 1 (lpL g t b k)),.cl (.bool (lpB g t b k))] []):=by
 unfold xbsu
 rw[xbyp,xbvn]
 refine qam (qbz (by have:=(qg5 hp).2;omega)) (qay (fun h=> ?_) fun h=>qam (qil hp) ?_)
 ·rw[(qla h).1,(qla h).2]
 ·rw[(qk6 h).1,(qk6 h).2, <- qt5, <- qug]
theorem xbz9 (t:Int) (b:List Int) (k:List CV) (g:Int) (hp:isS [.int .i64 t,.sli .u8 b,.slg 3 k]=true):xbr5 t b k g=some (.ret [.cl (.slg 3 (lmL g t b k)),.cl (.bool (lmB g t b k))] []):=by
 unfold xbr5
 rw[xbyh,xbwp]
 refine qam (qbz (by have:=(qg5 hp).2;omega)) (qay (fun h=> ?_) fun h=>qam (qil hp) ?_)
 ·rw[(qla h).1,(qla h).2]
 ·rw[(qk6 h).1,(qk6 h).2, <- qtd, <- qtw]
theorem xb3k (t:Int) (b:List Int) (k:List CV) (g:Int) (hp:isS [.int .i64 t,.sli .u8 b,.slg 3 k]=true):xbt1 t b k g=some (.ret [.cl (.slg 1 (lcL g t b k)),.cl (.bool (lcB g t b k))] []):=by
 unfold xbt1
 rw[xbxm,xby2]
 refine qam (qbz (by have:=(qg5 hp).2;omega)) (qay (fun h=> ?_) fun h=>qam (qil hp) ?_)
 ·rw[(qla h).1,(qla h).2]
 ·rw[(qk6 h).1,(qk6 h).2, <- qp3, <- qrh]
theorem xb19 (t:Int) (b:List Int) (k:List CV) (g:Int) (hp:isS [.int .i64 t,.sli .u8 b,.slg 3 k]=true):xbyg t b k g=some (.ret [.cl (.sli .i64 (laL g t b k)),.cl (.bool (laB g t b k))] []):=by
 unfold xbyg
 rw[xbsv,xbyw]
 refine qam (qbz (by have:=(qg5 hp).2;omega)) (qay (fun h=> ?_) fun h=>qam (qil hp) ?_)
 ·rw[(qla h).1,(qla h).2]
 ·rw[(qk6 h).1,(qk6 h).2, <- qzf, <- qza]
theorem xbxl (t:Int) (b:List Int) (k:List CV) (hp:isS [.int .i64 t,.sli .u8 b,.slg 3 k]=true):xbxn t b k=some (.ret [.cl (.sli .u8 (qba t b k).1),.cl (.bool (decide ((qba t b k).2=0)))] []):=qam hp rfl
theorem xbq1 (t:Int) (b:List Int) (k:List CV) (hp:isS [.int .i64 t,.sli .u8 b,.slg 3 k]=true):xboz t b k=some (.ret [.cl (.slg 1 (ldL 48 t b k)),.cl (.bool (ldB 48 t b k))] []):=qam hp rfl
theorem xbhu (t:Int) (b:List Int) (k:List CV) (hp:isS [.int .i64 t,.sli .u8 b,.slg 3 k]=true):xbgj t b k=some (.ret [.cl (.slg 3 (lmL 48 t b k)),.cl (.bool (lmB 48 t b k))] []):=qam hp rfl
theorem xbyc (t:Int) (b:List Int) (k:List CV) (hp:isS [.int .i64 t,.sli .u8 b,.slg 3 k]=true):xbzk t b k=some (.ret [.cl (.int .i64 (qen t b k).1),.cl (.bool (decide ((qen t b k).2.2=0)))] []):=qam hp rfl
theorem qub {l:List Int} (h:qs3 l=true):l.length<=1000000:=by unfold qs3 at h;rw[qab] at h;exact of_decide_eq_true h
theorem xbiv {l:List Int} (h:l.length<=1000000):qs3 l=true:=by unfold qs3;rw[qab];exact decide_eq_true h
theorem qyi (g:Int) (b:List Int):qbt g b=qh3 g b:=by unfold qbt;rw[qab]
theorem xb5f (l:List Int) (lo hi:Int) (hp:qs3 l=true):xb5h l lo hi=some (.ret [.cl (.slg 3 (xbju lo hi l)),.cl (.bool (xbnk lo hi l))] []):=by
 have hl:=qub hp
 rw[q1b,xbpq]
 refine qxx (f:=q8c) (w:=56) (out:=(fun x b=>some (.ret [.cl (.slg 3 x),.cl (.bool b)] []))) (S:=qwj) hl (fun again k0 k1 i acc x fx hi ha hx hf=> ?_) fun again k0 k1 acc=>qb6 (by omega) rfl
 unfold qwj
 simp only[qbo,qyi]
 refine qan (by omega) (qa4 (by omega) hx ?_)
 refine qrp (y:=q0o x) (w:=56) (A:=fun a c acc=>again a l (l.length:Int) c acc) ?_ ha ?_ ?_
 rotate_left
 ·omega
 ·omega
 rw[<- hf]
 unfold q8c
 rw[qik]
theorem xb3b (l:List Int) (lo hi:Int) (hp:qs3 l=true):xb0f l lo hi=some (.ret [.cl (.agg [.int .i64 48,.sli .u8 qa0,.slg 3 (xbju lo hi l)]),.cl (.bool (xbnk lo hi l))] []):=
 qam hp (qam (qbz (by rw[q1b];have:=qub hp;have:=@q5b _ _ q8c lo hi l;omega)) rfl)
theorem xb18 (g:Int) (hp:true=true):xbui g=some (.ret [.cl (.agg [.int .i64 (qbt g qa0).1,.sli .u8 qa0,.slg 3 (qbt g qa0).2.1]),.cl (.bool (decide ((qbt g qa0).2.2=0)))] []):=by
 unfold xbui
 rw[qbo]
 exact qam (by unfold qc6;rw[qab];rfl) rfl
open IntWalk (i64_in u8_in u32_in u64_in i64_quo u8_quo rem_in)
theorem qff {c:Bool} {a b r:Option Out} (h1:c=false->a=r) (h2:c=true->b=r):cond (!c) a b=r:=by
 cases c with
 | false=>exact h1 rfl
 | true=>exact h2 rfl
theorem qzn {α β:Type} {f:α->Option β} {lo hi:Int} {l:List α} (h:evB f lo hi l=true):evL f lo hi l=l.filterMap f/\(evL f lo hi l).length=l.length:=by
 have e:evL f lo hi l=l.filterMap f:=by unfold evL;rw[if_pos h]
 refine⟨e, ?_⟩
 unfold evB at h
 rw[zab] at h
 rw[e]
 exact qde h.2
theorem xb1q {α β:Type} (f:α->β) (l:List α) (hl:l.length<=1000000) (L:Nat->Nat->Int->List β->Option Out) (fin:List β->Option Out)
  (hstep: ∀(n i:Nat) (acc:List β) (x:α),i<l.length->acc.length=i->l[i]? =some x->L (n+1) i (i:Int) acc=L n (i+1) ((i+1:Nat):Int) (acc++[f x]))
  (hend: ∀(n:Nat) (acc:List β),L (n+1) l.length (l.length:Int) acc=fin acc) (fuel i:Nat) (acc:List β) (hi:i<=l.length) (ha:acc.length=i) (hf:l.length<fuel+i):L fuel i (i:Int) acc=fin (acc++(l.drop i).map f):=by
 have:=qop (fun x=>some (f x)) l hl L none fin hstep hend fuel i acc hi ha hf
 rw[this,if_pos (by simp)]
 exact congrArg (fun z=>fin (acc++z)) (congrFun (List.filterMap_eq_map (f:=f)) _)
theorem q4y {β:Type} {acc:List β} {y:β} {i w:Nat} {A:Nat->Int->List β->Option Out} (ha:acc.length=i) (hi:i<1000000) (hw:w<=100):
  rmK (acc++[y]).length w (A (acc++[y]).length (IntKind.i64.wrap ((i:Int)+1)) (acc++[y]))=A (i+1) ((i+1:Nat):Int) (acc++[y]):=
 xbdx (l:=([]:List Int)) (n:=0) (again:=fun a _ _ c d=>A a c d) ha hi hw
theorem xbmr {d:Int} {t:List CV} {w:List Int} (h:qct d t w=false):q55 d t w=(0,[]):=by unfold q55;rw[qab,if_neg (by rw[h];simp)]
theorem qfy {d:Int} {t:List CV} {w:List Int}:qct d t w=true↔(qat d).2.1=1/\(qa9 w).2=0/\evB (qpt (qbf d)) 0 20 t=true:=by unfold qct;simp only[zab,decide_eq_true_eq]
theorem qmi {d:Int} {t:List CV} {w:List Int} (h: ¬((qat d).2.1=1/\(qa9 w).2=0/\evB (qpt (qbf d)) 0 20 t=true)):qct d t w=false:=zau.2 fun h'=>h (qfy.1 h')
theorem xb4n (l:List CV):vBox 0 l=(160,l,0):=q52 (by omega)
theorem xb3v (l:List CV):vBox 2 l=(162,l,0):=q52 (by omega)
theorem xby9 (d:Int) (t:List CV) (w:List Int) (hp:(q3h t&&qad w)=true):xbjn d t w=some (.ret [.cl (.agg [.int .i64 (q55 d t w).1,.sli .u8 qa0,.slg 3 (q55 d t w).2]),.cl (.bool (qy4 d t w))] []):=by
 rw[zab] at hp
 obtain⟨ht,hw⟩:=hp
 obtain⟨hl,_⟩:=qsh ht
 obtain⟨hi1,hi2⟩:=qvm d
 unfold xbjn
 simp only[qlg,qdf,qbo,qnb,xbc3,xbdr,qpn,xb4n,xb3v]
 have bad:qct d t w=false->some (Out.ret [.cl (.agg [.int .i64 0,.sli .u8 [],.slg 3 []]),.cl (.bool false)] [])=some (.ret [.cl (.agg [.int .i64 (q55 d t w).1,.sli .u8 [],.slg 3 (q55 d t w).2]),.cl (.bool (qct d t w))] []):=fun h=>by rw[h,xbmr h]
 refine qay (fun h=>bad (qmi fun h'=>h h'.1)) fun h=>qam (q5x (by omega) hi2) (qam (qbz (by simp)) (qam hw (qam ht (qay (fun h2=>bad (qmi fun h'=>h2 h'.2.1)) fun h2=>qff (fun h3=>bad (qmi fun h'=>by rw[h3] at h';simp at h')) fun h3=> ?_))))
 have e:=qzn h3
 rw[q98 (qfy.2 ⟨h,h2,h3⟩),qfy.2 ⟨h,h2,h3⟩]
 unfold q40
 refine qae (fun h4=>qam (qbz (by simp)) ?_) fun h4=>qam (qbz (by omega)) (qam (qbz (by simp)) ?_)
 ·rw[if_pos (zbv.1 (by omega))]
  rfl
 ·rw[if_neg (fun h5=>h4 (by rw[e.2,h5];rfl))]
  rfl
theorem xb41 (K0:Option Out) (K1:Nat->Int->Nat->Int->List CV->List Int->List CV->List CV->Int->List Int->List CV->Option Out) (m i:Nat) (d:Int) (t:List CV) (w:List Int) (P:List CV) (x1:Int) (x2:List Int) (x3 row:List CV) (hx:t[i]? =some (.slg 1 row)) (hr:xbix row):
  qgd K0 K1 FUEL m i 0 0 d t w P [] x1 x2 x3=if row.all (fun c=>(digF (qbf d) c).isSome)=true then K1 m i row.length d t w P (row.filterMap (digF (qbf d))) x1 x2 x3 else K0:=by
 refine(qop (digF (qbf d)) row hr.1 (fun n a j acc=>qgd K0 K1 n m i a j d t w P acc x1 x2 x3) K0 (fun y=>K1 m i row.length d t w P y x1 x2 x3) (fun n j acc x hj ha hxj=> ?_) (fun n acc=> ?_) FUEL 0 [] (zbc _) rfl (by have:=hr.1;unfold FUEL;omega)).trans rfl
 ·show qhs (qgd K0 K1 n) K0 K1 m i j j d t w P acc x1 x2 x3=_
  obtain⟨b,rfl,hb⟩:=hr.2 x (zae hxj)
  unfold qhs
  simp only[qdf,qnb]
  refine qa4 (by omega) hx (qam rfl (qan (show(j:Int)<(row.length:Int) by omega) (qa4 (by omega) hx (qam rfl (qa4 (by omega) hxj (qam rfl ?_))))))
  refine qay (fun h=> ?_) fun h=>qa4 (by omega) hx (qam rfl (qa4 (by omega) hxj (qam rfl (qam (qt9 hb) ?_))))
  ·have:digF (qbf d) (.sli .u8 b)=none:=by unfold digF;exact if_neg h
   rw[this]
  ·have:digF (qbf d) (.sli .u8 b)=some (qcr 4 b []):=by unfold digF;exact if_pos h
   rw[this]
   exact q4y (w:=56) (y:=qcr 4 b []) (A:=fun a c acc=>qgd K0 K1 n m i a c d t w P acc x1 x2 x3) ha (by have:=hr.1;omega) (by omega)
 ·show qhs (qgd K0 K1 n) K0 K1 m i row.length row.length d t w P acc x1 x2 x3=_
  unfold qhs
  exact qa4 (by omega) hx (qam rfl (qb6 (show ¬((row.length:Int)<(row.length:Int)) by omega) rfl))
theorem lpR8 (K0:Option Out) (K1:Nat->Int->List CV->List Int->List CV->Int->List Int->List CV->Option Out) (d:Int) (t:List CV) (w:List Int) (x1:Int) (x2:List Int) (x3:List CV) (ht:xbjr t):
  qib K0 K1 FUEL 0 0 d t w [] x1 x2 x3=if t.all (fun c=>(qpt (qbf d) c).isSome)=true then K1 t.length d t w (t.filterMap (qpt (qbf d))) x1 x2 x3 else K0:=by
 refine(qop (qpt (qbf d)) t ht.1 (fun n a j acc=>qib K0 K1 n a j d t w acc x1 x2 x3) K0 (fun y=>K1 t.length d t w y x1 x2 x3) (fun n j acc x hj ha hxj=> ?_) (fun n acc=> ?_) FUEL 0 [] (zbc _) rfl (by have:=ht.1;unfold FUEL;omega)).trans rfl
 ·show qjf (qib K0 K1 n) K0 K1 j j d t w acc x1 x2 x3=_
  obtain⟨row,rfl,hr⟩:=ht.2 x (zae hxj)
  have hx':t[(j:Int).toNat]? =some (.slg 1 row):=hxj
  unfold qjf
  simp only[qbo,qab]
  rw[xb41 _ _ j j d t w acc x1 x2 x3 row hxj hr]
  have part:qpt (qbf d) (.slg 1 row)=if evB (digF (qbf d)) 1 64 row=true then some (qcr 48 [] (evL (digF (qbf d)) 1 64 row)) else none:=rfl
  have no: ¬evB (digF (qbf d)) 1 64 row=true->qpt (qbf d) (.slg 1 row)=none:=fun h=>by rw[part,if_neg h]
  have rl:(row.length:Int)<1\/(64:Int)<(row.length:Int)-> ¬evB (digF (qbf d)) 1 64 row=true:=fun h h'=>by
   unfold evB at h'
   rw[zab,decide_eq_true_eq] at h'
   omega
  refine qan (show(j:Int)<(t.length:Int) by omega) (qa4 (by omega) hx' (qam rfl (qae (fun h=> ?_) fun h=>qa4 (by omega) hx' (qam rfl (qae (fun h2=> ?_) fun h2=> ?_)))))
  ·rw[no (rl (Or.inl h))]
  ·rw[no (rl (Or.inr h2))]
  ·have h: ¬(row.length:Int)<1:=h
   have h2: ¬(64:Int)<(row.length:Int):=h2
   have e:evB (digF (qbf d)) 1 64 row=row.all (fun c=>(digF (qbf d) c).isSome):=by unfold evB;rw[decide_eq_true (by omega)];rfl
   by_cases ha':row.all (fun c=>(digF (qbf d) c).isSome)=true
   ·rw[if_pos ha',part,if_pos (e.trans ha')]
    have e2:=qzn (e.trans ha')
    rw[e2.1]
    have hl:(row.filterMap (digF (qbf d))).length=row.length:=qde ha'
    refine qam (qbz (by have:=hr.1;omega)) ?_
    exact q4y (w:=56) (y:=qcr 48 [] (row.filterMap (digF (qbf d)))) (A:=fun a c acc=>qib K0 K1 n a c d t w acc x1 x2 x3) ha (by have:=ht.1;omega) (by omega)
   ·rw[if_neg ha']
    rw[no (fun h'=>ha' (e.symm.trans h'))]
 ·show qjf (qib K0 K1 n) K0 K1 t.length t.length d t w acc x1 x2 x3=_
  unfold qjf
  exact qb6 (show ¬((t.length:Int)<(t.length:Int)) by omega) rfl
theorem xb2k (d:Int) (t:List CV) (w:List Int) (hp:(q3h t&&qad w)=true):xbul d t w=some (.ret [.cl (.agg [.int .i64 (q2f d t w).1,.sli .u8 qa0,.slg 3 (q2f d t w).2]),.cl (.bool (qy4 d t w))] []):=by
 rw[zab] at hp
 obtain⟨ht,hw⟩:=hp
 have htC:=qsh ht
 obtain⟨hl,hr⟩:=htC
 obtain⟨hi1,hi2⟩:=qvm d
 unfold xbul
 simp only[qlg,qdf,qbo,qpn,xb4n,xb3v,qab]
 have bad: ¬((qat d).2.1=1/\evB (qpt (qbf d)) 0 20 t=true)->some (Out.ret [.cl (.agg [.int .i64 0,.sli .u8 [],.slg 3 []]),.cl (.bool false)] [])=some (.ret [.cl (.agg [.int .i64 (q2f d t w).1,.sli .u8 [],.slg 3 (q2f d t w).2]),.cl (.bool (qct d t w))] []):=fun h=>by
  rw[qmi fun h'=>h ⟨h'.1,h'.2.2⟩]
  unfold q2f
  rw[qab,if_neg (by simpa only [zab,decide_eq_true_eq] using h)]
 refine qay (fun h=>bad fun h'=>h h'.1) fun h=>qae (fun h2=>bad fun h'=> ?_) fun h2=>qam (q5x (by omega) hi2) (qam (qbz (by simp)) ?_)
 ·have:=h'.2
  unfold evB at this
  rw[zab,decide_eq_true_eq] at this
  omega
 rw[lpR8 _ _ d t w _ _ _ ⟨hl,hr⟩]
 have e:evB (qpt (qbf d)) 0 20 t=t.all (fun c=>(qpt (qbf d) c).isSome):=by unfold evB;rw[decide_eq_true (by omega)];rfl
 by_cases ha:t.all (fun c=>(qpt (qbf d) c).isSome)=true
 ·rw[if_pos ha]
  have hR:q2f d t w=(48,q40 d t w):=by
   unfold q2f
   rw[qab,if_pos (by rw[zab,decide_eq_true_eq];exact⟨h,e.trans ha⟩)]
  have hO:qct d t w=decide ((qa9 w).2=0):=by
   unfold qct
   rw[decide_eq_true h,e.trans ha,zbm,Bool.and_true]
  have e2:=qzn (e.trans ha)
  have hl2:(t.filterMap (qpt (qbf d))).length=t.length:=qde ha
  rw[hR,hO]
  unfold q40
  refine qae (fun h4=>qam (qbz (by omega)) (qam hw (qam (qbz (by simp)) ?_))) fun h4=>qam hw (qam (qbz (by simp)) ?_)
  ·have h4:(0:Int)<(t.length:Int):=h4
   rw[if_neg (fun h5=>by rw[h5] at h4;simp at h4),e2.1]
   rfl
  ·have h4: ¬(0:Int)<(t.length:Int):=h4
   rw[if_pos (zbv.1 (by omega))]
   rfl
 ·rw[if_neg ha]
  exact bad fun h'=>ha (e.symm.trans h'.2)
theorem xbrq {d:Int} {t:List CV} {w:List Int} (h:qct d t w=true):q2f d t w=(48,q40 d t w):=by
 have h:=qfy.1 h
 unfold q2f
 rw[qab,if_pos (by rw[zab,decide_eq_true_eq];exact⟨h.1,h.2.2⟩)]
theorem xb5i (K0:Option Out) (K1:List CV->Nat->Int->Nat->List CV->List CV->Option Out) (m i:Nat) (l P row:List CV) (hx:l[i]? =some (.slg 3 row)) (hr:qsx row):
  qdv K0 K1 FUEL l m i 0 0 P []=if row.all (fun c=>(qlz c).isSome)=true then K1 l m i row.length P (row.filterMap qlz) else K0:=by
 refine(qop qlz row (by have:=hr.1;omega) (fun n a j acc=>qdv K0 K1 n l m i a j P acc) K0 (fun y=>K1 l m i row.length P y) (fun n j acc x hj ha hxj=> ?_) (fun n acc=> ?_) FUEL 0 [] (zbc _) rfl (by have:=hr.1;unfold FUEL;omega)).trans rfl
 ·show qe6 (qdv K0 K1 n) K0 K1 l m i j j P acc=_
  obtain⟨d,t,w,rfl,ht,hw⟩:=hr.2 x (zae hxj)
  obtain⟨fx,hf⟩: ∃fx,qlz (xbd3 d t w)=fx:=⟨_,rfl⟩
  rw[hf]
  unfold qe6
  simp only[qbo,qpn]
  refine qa4 (by omega) hx (qam rfl (qan (show(j:Int)<(row.length:Int) by omega) (qa4 (by omega) hx (qam rfl (qa4 (by omega) hxj (qam rfl (qam (by show(q3h t&&qad w)=true;rw[q9p ht];exact hw) ?_)))))))
  refine qrp (B:=qct d t w) (y:=qcr (q2f d t w).1 [] (q2f d t w).2) (w:=56) (A:=fun a c acc=>qdv K0 K1 n l m i a c P acc) ?_ ha ?_ ?_
  ·rw[<- hf]
   show(if qct d t w=true then some (qcr 48 [] (q40 d t w)) else none)=_
   cases hm:qct d t w with
   | false=>rfl
   | true=>rw[xbrq hm];rfl
  ·have:=hr.1;omega
  ·omega
 ·show qe6 (qdv K0 K1 n) K0 K1 l m i row.length row.length P acc=_
  unfold qe6
  exact qa4 (by omega) hx (qam rfl (qb6 (show ¬((row.length:Int)<(row.length:Int)) by omega) rfl))
theorem lpR5 (K0:Option Out) (K1:Nat->List CV->Option Out) (l:List CV) (hl:qdj l):
  qep K0 K1 FUEL l 0 0 []=if l.all (fun c=>(qci c).isSome)=true then K1 l.length (l.filterMap qci) else K0:=by
 refine(qop qci l (by have:=hl.1;omega) (fun n a j acc=>qep K0 K1 n l a j acc) K0 (fun y=>K1 l.length y) (fun n j acc x hj ha hxj=> ?_) (fun n acc=> ?_) FUEL 0 [] (zbc _) rfl (by have:=hl.1;unfold FUEL;omega)).trans rfl
 ·show qf4 (qep K0 K1 n) K0 K1 l j j acc=_
  obtain⟨row,rfl,hr⟩:=hl.2 x (zae hxj)
  have hx':l[(j:Int).toNat]? =some (.slg 3 row):=hxj
  unfold qf4
  simp only[qbo,qab]
  rw[xb5i _ _ j j l acc row hxj hr]
  have part:qci (.slg 3 row)=if evB qlz 1 20 row=true then some (qcr 48 [] (evL qlz 1 20 row)) else none:=rfl
  have no: ¬evB qlz 1 20 row=true->qci (.slg 3 row)=none:=fun h=>by rw[part,if_neg h]
  have rl:(row.length:Int)<1\/(20:Int)<(row.length:Int)-> ¬evB qlz 1 20 row=true:=fun h h'=>by
   unfold evB at h'
   rw[zab,decide_eq_true_eq] at h'
   omega
  refine qan (show(j:Int)<(l.length:Int) by omega) (qa4 (by omega) hx' (qam rfl (qae (fun h=> ?_) fun h=>qa4 (by omega) hx' (qam rfl (qae (fun h2=> ?_) fun h2=> ?_)))))
  ·rw[no (rl (Or.inl h))]
  ·rw[no (rl (Or.inr h2))]
  ·have h: ¬(row.length:Int)<1:=h
   have h2: ¬(20:Int)<(row.length:Int):=h2
   have e:evB qlz 1 20 row=row.all (fun c=>(qlz c).isSome):=by unfold evB;rw[decide_eq_true (by omega)];rfl
   by_cases ha':row.all (fun c=>(qlz c).isSome)=true
   ·rw[if_pos ha',part,if_pos (e.trans ha')]
    have e2:=qzn (e.trans ha')
    rw[e2.1]
    have hl2:(row.filterMap qlz).length=row.length:=qde ha'
    refine qam (qbz (by have:=hr.1;omega)) ?_
    exact q4y (w:=56) (y:=qcr 48 [] (row.filterMap qlz)) (A:=fun a c acc=>qep K0 K1 n l a c acc) ha (by have:=hl.1;omega) (by omega)
   ·rw[if_neg ha']
    rw[no (fun h'=>ha' (e.symm.trans h'))]
 ·show qf4 (qep K0 K1 n) K0 K1 l l.length l.length acc=_
  unfold qf4
  exact qb6 (show ¬((l.length:Int)<(l.length:Int)) by omega) rfl
theorem xbpe (l:List CV) (hp:qcb l=true):xbck l=some (.ret [.cl (.agg [.int .i64 (qmr l).1,.sli .u8 qa0,.slg 3 (qmr l).2]),.cl (.bool (qme 1 10 l))] []):=by
 have hl:=qe0 hp
 unfold xbck qmr
 simp only[qbo,qpy,qab]
 rw[lpR5 _ _ l hl]
 have rl:(l.length:Int)<1\/(10:Int)<(l.length:Int)-> ¬evB qci 1 10 l=true:=fun h h'=>by
  unfold evB at h'
  rw[zab,decide_eq_true_eq] at h'
  omega
 refine qae (fun h=> ?_) fun h=>qae (fun h2=> ?_) fun h2=> ?_
 ·rw[zau.2 (rl (Or.inl h))];rfl
 ·rw[zau.2 (rl (Or.inr h2))];rfl
 ·have e:evB qci 1 10 l=l.all (fun c=>(qci c).isSome):=by unfold evB;rw[decide_eq_true (by omega)];rfl
  by_cases ha:l.all (fun c=>(qci c).isSome)=true
  ·rw[if_pos ha,e.trans ha,if_pos rfl,(qzn (e.trans ha)).1]
   have hl2:(l.filterMap qci).length=l.length:=qde ha
   exact qam (qbz (by have:=hl.1;omega)) rfl
  ·rw[if_neg ha,e,zau.2 ha];rfl
theorem xbrz {l:List CV} (h:qgj l=true) {i:Nat} {c:CV} (hc:l[i]? =some c): ∃t b k,c=.agg [.int .i64 t,.sli .u8 b,.slg 3 k]/\isS [.int .i64 t,.sli .u8 b,.slg 3 k]=true:=(qfz h).2 c (zae hc)
theorem q5e (t:Int) (b:List Int) (k:List CV):qr8 t b k=qz4 t b k:=by unfold qr8;rw[qab]
theorem xbqx (t:Int) (b:List Int) (k:List CV) (hp:isS [.int .i64 t,.sli .u8 b,.slg 3 k]=true):xbdn t b k=some (.ret [.cl (.int .i64 (qr8 t b k).1),.cl (.bool (qr8 t b k).2)] []):=by
 have hn:=qil (g:=160) hp
 unfold xbdn
 rw[q5e]
 unfold qz4
 refine qam (qbz (by have:=(qg5 hp).2;omega)) (qay (fun h=> ?_) fun h=>qay (fun h2=> ?_) fun h2=>qan (by omega) ?_)
 ·rw[if_pos (Or.inl h)]
 ·rw[if_pos (Or.inr h2)]
 ·rw[if_neg (by rintro(h'| h');exact h' h;exact h' h2)]
  generalize (qb4 160 t b k).1=ks at*
  have h2:ks.length=1:=by omega
  obtain⟨x,rfl⟩:=List.length_eq_one_iff.1 h2
  obtain⟨t',b',k',rfl,hs⟩:=xbrz hn (i:=0) rfl
  exact qam hs rfl
theorem xbov {α:Type} {l:List α} {n:Nat} {k:α->Option Out} {r:Option Out} {x:α} (hn:l.length=n+1) (hb:n<100) (hx:l[n]? =some x) (hk:k x=r):getK l (IntKind.i64.wrap ((l.length:Int) - 1)) k=r:=by
 have e:IntKind.i64.wrap ((l.length:Int) - 1)=(n:Int):=by rw[i64_in _ (by omega)];omega
 rw[e]
 exact qa4 (by omega) hx hk
theorem len2 {α:Type} {l:List α} (h:l.length=2): ∃x y,l=[x,y]:=by
 match l,h with
 | [x,y],_=>exact⟨x,y,rfl⟩
theorem len3 {α:Type} {l:List α} (h:l.length=3): ∃x y z,l=[x,y,z]:=by
 match l,h with
 | [x,y,z],_=>exact⟨x,y,z,rfl⟩
theorem q9w (x y:CV):qtz [x,y]=((xbki x).1,[],(q7k y).1,(xbki x).2&&decide ((q7k y).2=0)):=rfl
theorem xbep (x y z:CV):qtz [x,y,z]=((xbki x).1,qdw qdz 162 (nT y) (nB y) (nK y),(q7k z).1,(qg9 qdz 162 (nT y) (nB y) (nK y)&&decide (0<((qdw qdz 162 (nT y) (nB y) (nK y)).length:Int)))&&((xbki x).2&&decide ((q7k z).2=0))):=rfl
theorem xbp6 (t:Int) (b:List Int) (k:List CV) (hp:isS [.int .i64 t,.sli .u8 b,.slg 3 k]=true):xbde t b k=some (.ret [.cl (.agg [.int .i64 (markOf t b k).1,.slg 1 (markOf t b k).2.1,.sli .u8 (markOf t b k).2.2.1]),.cl (.bool (markOf t b k).2.2.2)] []):=by
 have hn:=qil (g:=48) hp
 unfold xbde
 simp only[q5e,xbyp,xbvn,q3u]
 unfold qf7
 refine qam (qbz (by have:=(qg5 hp).2;omega)) (qay (fun h=> ?_) fun h=> ?_)
 ·rw[if_pos h]
 rw[if_neg (fun h'=>h' h)]
 generalize (qb4 48 t b k).1=ks at*
 refine qae (fun h2=> ?_) fun h2=>qae (fun h3=> ?_) fun h3=>qae (fun h4=> ?_) fun h4=> ?_
 ·unfold qtz;rw[if_pos (Or.inl h2)]
 ·unfold qtz;rw[if_pos (Or.inr h3)]
 ·obtain⟨x,y,z,rfl⟩:=len3 (show ks.length=3 by omega)
  obtain⟨t1,b1,k1,rfl,hs1⟩:=xbrz hn (i:=0) rfl
  obtain⟨t2,b2,k2,rfl,hs2⟩:=xbrz hn (i:=1) rfl
  obtain⟨t3,b3,k3,rfl,hs3⟩:=xbrz hn (i:=2) rfl
  rw[xbep]
  have fin: ∀ {q:Bool},q=((qg9 qdz 162 t2 b2 k2&&decide (0<((qdw qdz 162 t2 b2 k2).length:Int)))&&((qz4 t1 b1 k1).2&&decide ((qbq [.int .i64 t3,.sli .u8 b3,.slg 3 k3]).2=0)))->some (Out.ret [.cl (.agg [.int .i64 (qz4 t1 b1 k1).1,.slg 1 (qdw qdz 162 t2 b2 k2),.sli .u8 (qbq [.int .i64 t3,.sli .u8 b3,.slg 3 k3]).1]),.cl (.bool q)] [])=some (.ret [.cl (.agg [.int .i64 (qz4 t1 b1 k1).1,.slg 1 (qdw qdz 162 t2 b2 k2),.sli .u8 (qbq [.int .i64 t3,.sli .u8 b3,.slg 3 k3]).1]),.cl (.bool ((qg9 qdz 162 t2 b2 k2&&decide (0<((qdw qdz 162 t2 b2 k2).length:Int)))&&((qz4 t1 b1 k1).2&&decide ((qbq [.int .i64 t3,.sli .u8 b3,.slg 3 k3]).2=0))))] []):=fun h=>by rw[h]
  refine qan (by simp) (qam hs2 (qcz (fun h5=> ?_) fun h5=> ?_))
  ·have h5:qg9 qdz 162 t2 b2 k2=true:=h5
   refine qan (by simp) (qam hs1 (xbov (n:=2) rfl (by omega) rfl (qam rfl (qam hs3 (qae (fun h6=>qcz (fun h7=> ?_) fun h7=> ?_) fun h6=> ?_)))))
   ·have h6:0<((qdw qdz 162 t2 b2 k2).length:Int):=h6
    have h7:(qz4 t1 b1 k1).2=true:=h7
    exact fin (by rw[h5,h7,decide_eq_true h6];rfl)
   ·have h7:(qz4 t1 b1 k1).2=false:=h7
    exact fin (by rw[h7,zdc,Bool.and_false])
   ·have h6: ¬0<((qdw qdz 162 t2 b2 k2).length:Int):=h6
    exact fin (by rw[decide_eq_false h6,Bool.and_false,zdc])
  ·have h5:qg9 qdz 162 t2 b2 k2=false:=h5
   refine qan (by simp) (qam hs1 (xbov (n:=2) rfl (by omega) rfl (qam rfl (qam hs3 ?_))))
   exact fin (by rw[h5,zdc,zdc])
 ·obtain⟨x,y,rfl⟩:=len2 (show ks.length=2 by omega)
  obtain⟨t1,b1,k1,rfl,hs1⟩:=xbrz hn (i:=0) rfl
  obtain⟨t2,b2,k2,rfl,hs2⟩:=xbrz hn (i:=1) rfl
  rw[q9w]
  have fin: ∀ {q:Bool},q=((qz4 t1 b1 k1).2&&decide ((qbq [.int .i64 t2,.sli .u8 b2,.slg 3 k2]).2=0))->some (Out.ret [.cl (.agg [.int .i64 (qz4 t1 b1 k1).1,.slg 1 [],.sli .u8 (qbq [.int .i64 t2,.sli .u8 b2,.slg 3 k2]).1]),.cl (.bool q)] [])=some (.ret [.cl (.agg [.int .i64 (qz4 t1 b1 k1).1,.slg 1 [],.sli .u8 (qbq [.int .i64 t2,.sli .u8 b2,.slg 3 k2]).1]),.cl (.bool ((qz4 t1 b1 k1).2&&decide ((qbq [.int .i64 t2,.sli .u8 b2,.slg 3 k2]).2=0)))] []):=fun h=>by rw[h]
  refine qan (by simp) (qam hs1 (xbov (n:=1) rfl (by omega) rfl (qam rfl (qam hs2 (qcz (fun h5=> ?_) fun h5=> ?_)))))
  ·have h5:(qz4 t1 b1 k1).2=true:=h5
   exact fin (by rw[h5];rfl)
  ·have h5:(qz4 t1 b1 k1).2=false:=h5
   exact fin (by rw[h5,zdc])
theorem xbzr {α:Type} {o:Option α} {x:α} {k:α->Option Out} {r:Option Out} (h:o=some x) (hk:k x=r):Option.bind o k=r:=by rw[h];exact hk
open IntWalk (i64_in u8_in u32_in u64_in i64_quo u8_quo rem_in)
theorem qr2 {α σ:Type} (F:σ->α->σ) (s0:σ) (l:List α) (L:Nat->Int->σ->Option Out) (fin:σ->Option Out)
  (hstep: ∀(n i:Nat) (s:σ) (x:α),l[i]? =some x->i<l.length->s=(l.take i).foldl F s0->L (n+1) (i:Int) s=L n ((i+1:Nat):Int) (F s x))
  (hend: ∀(n:Nat) (s:σ),L (n+1) (l.length:Int) s=fin s): ∀(fuel i:Nat) (s:σ),i<=l.length->s=(l.take i).foldl F s0->l.length<fuel+i->L fuel (i:Int) s=fin (l.foldl F s0)
 | 0,i,s,hi,hs,hf=>by omega
 | fuel+1,i,s,hi,hs,hf=>by
  rcases zbz i l.length with h|h
  ·obtain⟨x,hx⟩: ∃x,l[i]? =some x:=⟨_,zaf h⟩
   rw[hstep fuel i s x hx h hs]
   refine qr2 F s0 l L fin hstep hend fuel (i+1) (F s x) h ?_ (by omega)
   rw[List.take_add_one,hx,List.foldl_append, <- hs]
   rfl
  ·obtain rfl:i=l.length:=by omega
   rw[hend,hs,zc5]
theorem xb2x {α:Type} (a b:List α) (hl:a.length=b.length) (L:Nat->Int->Option Out) (yes no:Option Out)
  (hstep: ∀(n i:Nat) (x y:α),a[i]? =some x->b[i]? =some y->i<a.length->L (n+1) (i:Int)=cond (pD (x=y)) (L n ((i+1:Nat):Int)) no)
  (hend: ∀n:Nat,L (n+1) (a.length:Int)=yes): ∀(fuel i:Nat),i<=a.length->a.length<fuel+i->L fuel (i:Int)=cond (pD (a.drop i=b.drop i)) yes no
 | 0,i,hi,hf=>by omega
 | fuel+1,i,hi,hf=>by
  rcases zbz i a.length with h|h
  ·obtain⟨x,hx⟩: ∃x,a[i]? =some x:=⟨_,zaf h⟩
   obtain⟨y,hy⟩: ∃y,b[i]? =some y:=⟨_,zaf (hl▸h)⟩
   rw[hstep fuel i x y hx hy h,xb2x a b hl L yes no hstep hend fuel (i+1) h (by omega),qhu hx,qhu hy]
   unfold pD
   by_cases h1:x=y
   ·subst h1
    by_cases h2:a.drop (i+1)=b.drop (i+1)<;>simp[h2]
   ·simp[h1]
  ·obtain rfl:i=a.length:=by omega
   rw[hend,zdi,hl,zdi]
   unfold pD
   simp
theorem q6d {p:Prop}:pD p=true↔p:=by unfold pD;exact @decide_eq_true_iff _ (Classical.propDecidable _)
theorem xbqw {p:Prop} [i:Decidable p]:pD p=decide p:=by unfold pD;congr
theorem xby4 (K0:Int->Option Out) (K1:Option Out) (l:List Int) (d:Int) (hl:l.length<=1000000000000000): ∀(fuel i:Nat),i<=l.length->d∉l.take i->l.length<fuel+i->qkf K0 K1 fuel l d (l.length:Int) i=if d∈l then K0 (l.idxOf d:Int) else K1
 | 0,i,hi,hd,hf=>by omega
 | fuel+1,i,hi,hd,hf=>by
  show qlt (qkf K0 K1 fuel) K0 K1 l d (l.length:Int) i=_
  unfold qlt
  rcases zbz i l.length with h|h
  ·obtain⟨x,hx⟩: ∃x,l[i]? =some x:=⟨_,zaf h⟩
   have e2:IntKind.i64.wrap ((i:Int)+1)=((i+1:Nat):Int):=i64_in _ (by omega)
   have hsp:l=l.take i++x::l.drop (i+1):=by rw[<- qhu hx,List.take_append_drop]
   refine qan (by omega) (qa4 (by omega) hx (qae (fun h1=> ?_) fun h1=> ?_))
   ·subst h1
    have hm:d∈l:=zae hx
    have hio:l.idxOf d=i:=by
     rw[hsp,List.idxOf_append,if_neg hd,List.idxOf_cons_self,zax,zb8,Nat.min_eq_left hi]
    rw[if_pos hm,hio]
   ·rw[e2]
    refine xby4 K0 K1 l d hl fuel (i+1) h ?_ (by omega)
    rw[List.take_add_one,hx]
    simp only[Option.toList,zao,zdn,not_or]
    exact⟨hd,h1⟩
  ·obtain rfl:i=l.length:=by omega
   rw[zc5] at hd
   rw[if_neg hd]
   exact qb6 (by omega) rfl
theorem xbq6 (l:List Int) (d:Int) (hp:qgv l=true):xbfd l d=some (.ret [.cl (.int .i64 (idxI l d))] []):=by
 have hl:=qsb hp
 unfold xbfd idxI
 rw[qab,qab]
 refine(xby4 _ _ l d hl FUEL 0 (zbc _) (by simp) (by unfold FUEL;omega)).trans ?_
 by_cases h:d∈l
 ·rw[if_pos h,if_pos h]
 ·rw[if_neg h,if_neg h]
theorem xb2l (l:List Int) (d:Int) (hp:qgv l=true):xbvr l d=some (.ret [.cl (.bool (hasI l d))] []):=by
 unfold xbvr
 refine qam hp ?_
 have e:decide ((0:Int)<=idxI l d)=hasI l d:=by
  unfold idxI hasI
  rw[qab,qab]
  by_cases h:d∈l
  ·rw[if_pos h,decide_eq_true h];exact decide_eq_true (by omega)
  ·rw[if_neg h,decide_eq_false h];rfl
 show some (Out.ret [.cl (.bool (decide ((0:Int)<=idxI l d)))] [])=_
 rw[e]
theorem xb3o {α:Type} {x y:α} [Decidable (x=y)] {a b:Option Out}:cond (!decide (x=y)) a b=cond (pD (x=y)) b a:=by
 rw[xbqw]
 cases decide (x=y)<;>rfl
theorem qwv (a b:List Int):xblq a b=pD (a=b):=by unfold xblq;rw[qab];exact xbqw.symm
theorem xb4b {α:Type} {a b:List α} (h: ¬(a.length:Int)=(b.length:Int)):pD (a=b)=false:=zau.2 fun h'=>h (by rw[q6d.1 h'])
theorem xb5e (a b:List Int) (hp:qgv a=true):xb4i a b=some (.ret [.cl (.bool (xblq a b))] []):=by
 have ha:=qsb hp
 unfold xb4i
 rw[qwv]
 refine qay (fun h=>by rw[xb4b h]) fun h=> ?_
 have hl:a.length=b.length:=by omega
 rw[qab]
 refine(xb2x a b hl (fun n i=>q0i _ _ n a b (a.length:Int) i) _ (some (.ret [.cl (.bool false)] [])) (fun n i x y hx hy hi=> ?_) (fun n=>qb6 (show ¬(a.length:Int)<(a.length:Int) by omega) rfl) FUEL 0 (zbc _) (by unfold FUEL;omega)).trans ?_
 ·have e2:IntKind.i64.wrap ((i:Int)+1)=((i+1:Nat):Int):=i64_in _ (by omega)
  refine qan (by omega) (qa4 (by omega) hx (qa4 (by omega) hy ?_))
  rw[e2]
  exact xb3o
 ·simp only[zbn]
  cases pD (a=b)<;>rfl
theorem xbs6 (a b:List Int) (hp:qgv a=true):xblc a b=some (.ret [.cl (.bool (xblq a b))] []):=by
 have ha:=qsb hp
 unfold xblc
 rw[qwv]
 refine qay (fun h=>by rw[xb4b h]) fun h=> ?_
 have hl:a.length=b.length:=by omega
 rw[qab]
 refine(xb2x a b hl (fun n i=>qqv _ _ n a b i) _ (some (.ret [.cl (.bool false)] [])) (fun n i x y hx hy hi=> ?_) (fun n=>qb6 (show ¬(a.length:Int)<(a.length:Int) by omega) rfl) FUEL 0 (zbc _) (by unfold FUEL;omega)).trans ?_
 ·have e2:IntKind.i64.wrap ((i:Int)+1)=((i+1:Nat):Int):=i64_in _ (by omega)
  refine qan (by omega) (qa4 (by omega) hx (qa4 (by omega) hy ?_))
  rw[e2]
  exact xb3o
 ·simp only[zbn]
  cases pD (a=b)<;>rfl
theorem q1z {α:Type} {f:α->Nat} {B:Nat}: ∀ {l:List α} {s:Nat},(∀c∈l,f c<=B)->l.foldl (fun s c=>s+f c) s<=s+l.length*B
 | [],s,_=>by simp
 | x::r,s,h=>by
  have h1:=h x (by simp)
  have:=q1z (l:=r) (s:=s+f x) fun c hc=>h c (by simp[hc])
  rw[zbf,zac,zcp]
  omega
theorem q3i {α β:Type} {f:α->List β}: ∀ {l:List α} {s:List β},l.foldl (fun s c=>s++f c) s=s++l.flatMap f
 | [],s=>by simp
 | x::r,s=>by rw[zbf,q3i];simp
theorem qx2 {α β:Type} {f:α->List β} {B:Nat}: ∀ {l:List α},(∀c∈l,(f c).length<=B)->(l.flatMap f).length<=l.length*B
 | [],_=>by simp
 | x::r,h=>by
  have h1:=h x (by simp)
  have:=qx2 (l:=r) fun c hc=>h c (by simp[hc])
  rw[za2,zag,zac,zcp]
  omega
theorem qmo {l:List CV} (h:qdj l): ∀c∈l,(qbm c).length<=10000:=fun c hc=>by
 obtain⟨m,rfl,hm⟩:=h.2 c hc
 exact hm.1
theorem xbgy (l:List CV) (hp:qcb l=true):q4s l=some (.ret [.cl (.slg 3 (xbr0 l))] []):=by
 have hl:=qe0 hp
 have hlen:=qmo hl
 have hl1:=hl.1
 have hm:l.length*10000<=10000*10000:=zdh hl1 (zar _)
 have htk: ∀i,(l.take i).length*10000<=10000*10000:=fun i=>zdh (by rw[zb8];omega) (zar _)
 have htm: ∀i, ∀c∈l.take i,(qbm c).length<=10000:=fun i c hc=>hlen c (za9 hc)
 unfold q4s xbr0
 simp only[qab]
 refine(qr2 (fun(s:Nat) c=>s+(qbm c).length) 0 l (fun n i s=>qh5 _ _ n l (s:Int) l (l.length:Int) i) _ (fun n i s x hx hi hs=> ?_) (fun n s=>qb6 (show ¬(l.length:Int)<(l.length:Int) by omega) rfl) FUEL 0 0 (zbc _) rfl (by unfold FUEL;omega)).trans ?_
 ·obtain⟨m,rfl,hm'⟩:=hl.2 x (zae hx)
  have hm':=hm'.1
  have hs':s<=100000000:=by
   have:=q1z (s:=0) (htm i)
   have:=htk i
   rw[hs];omega
  have e1:IntKind.i64.wrap ((s:Int)+(m.length:Int))=((s+m.length:Nat):Int):=by rw[i64_in _ (by omega)];omega
  have e2:IntKind.i64.wrap ((i:Int)+1)=((i+1:Nat):Int):=i64_in _ (by omega)
  refine qan (by omega) (qa4 (by omega) hx (qam rfl ?_))
  show cond (decide (IntKind.i64.wrap ((s:Int)+(m.length:Int))<0)) _ (qh5 _ _ n l (IntKind.i64.wrap ((s:Int)+(m.length:Int))) l (l.length:Int) (IntKind.i64.wrap ((i:Int)+1)))=_
  rw[e1,e2]
  exact qb6 (by omega) rfl
 ·have hb:=q1z (s:=0) hlen
  rw[qdf]
  refine qam (by unfold qyj;rw[qab];exact decide_eq_true (by omega)) ?_
  refine(qr2 (fun(s:List CV) c=>s++qbm c) [] l (fun n i s=>qgs _ n s.length l (l.length:Int) i s) (fun s=>some (.ret [.cl (.slg 3 s)] [])) (fun n i s x hx hi hs=> ?_) (fun n s=>qb6 (show ¬(l.length:Int)<(l.length:Int) by omega) rfl) FUEL 0 [] (zbc _) rfl (by unfold FUEL;omega)).trans ?_
  ·obtain⟨m,rfl,hm'⟩:=hl.2 x (zae hx)
   have hm':=hm'.1
   have hs':s.length<=100000000:=by
    have:=qx2 (htm i)
    have:=htk i
    rw[hs,q3i]
    simp only[zbo]
    omega
   have e2:IntKind.i64.wrap ((i:Int)+1)=((i+1:Nat):Int):=i64_in _ (by omega)
   refine qan (by omega) (qa4 (by omega) hx (qam rfl ?_))
   show rmK (s++m).length 56 (qgs _ n (s++m).length l (l.length:Int) (IntKind.i64.wrap ((i:Int)+1)) (s++m))=_
   rw[e2]
   have:(s++m).length<=200000000:=by rw[zag];omega
   exact qp8 (by omega) (by omega) rfl
  ·rw[q3i];rfl
theorem xbrf (l:List CV):xbr0 l=l.flatMap qbm:=by unfold xbr0;rw[qab]
theorem qy5 (o:List Int) (d:Int):(qfr o d).length<=o.length+1:=by unfold qfr;split<;>simp
theorem qij: ∀(l:List CV) (o:List Int),(l.foldl (fun o c=>qfr o (mD c)) o).length<=o.length+l.length
 | [],o=>by simp
 | x::r,o=>by
  have:=qij r (qfr o (mD x))
  have:=qy5 o (mD x)
  simp only[zbf,zac]
  omega
theorem q3z (l:List CV):qf5 l=(l.flatMap qbm).foldl (fun o c=>qfr o (mD c)) []:=by
 unfold qf5 q7e
 rw[<- List.map_flatMap,List.foldl_map]
theorem xbal (l:List CV):qf5 l=l.foldl (fun o c=>(qbm c).foldl (fun o c=>qfr o (mD c)) o) []:=by
 rw[q3z]
 generalize ([]:List Int)=o
 induction l generalizing o with
 | nil=>rfl
 | cons x r ih=>rw[za2,List.foldl_append,ih];rfl
theorem ql5 (l:List CV):qrw l=qf5 l:=by unfold qrw;rw[qab]
theorem xbr6 (l:List Int) (d:Int):hasI l d=decide (d∈l):=by unfold hasI;rw[qab]
theorem xbfx (l:List CV) (hp:qcb l=true):q5j l=some (.ret [.cl (.sli .i64 (qrw l))] []):=by
 have hl:=qe0 hp
 have hlen:=qx2 (qmo hl)
 have hl1:=hl.1
 have hm:l.length*10000<=10000*10000:=zdh hl1 (zar _)
 unfold q5j
 rw[ql5,q3z]
 refine qam hp ?_
 simp only[qab,xbrf]
 have hin: ∀c∈l.flatMap qbm,isMk c:=fun c hc=>by
  obtain⟨x,hx,hc⟩:=zbt.1 hc
  obtain⟨m,rfl,hm'⟩:=hl.2 x hx
  exact hm'.2 c hc
 generalize l.flatMap qbm=j at*
 refine(qr2 (fun(o:List Int) c=>qfr o (mD c)) [] j (fun n i s=>qez _ n s.length j (j.length:Int) i s) (fun s=>some (.ret [.cl (.sli .i64 s)] [])) (fun n i s x hx hi hs=> ?_) (fun n s=>qb6 (show ¬(j.length:Int)<(j.length:Int) by omega) rfl) FUEL 0 [] (zbc _) rfl (by unfold FUEL;omega)).trans rfl
 obtain⟨d,t,w,rfl,ht,hw⟩:=hin x (zae hx)
 have hs':s.length<=100000000:=by
  have:=qij (j.take i) []
  rw[zb8] at this
  rw[hs]
  simp only[zcb] at this
  omega
 have e2:IntKind.i64.wrap ((i:Int)+1)=((i+1:Nat):Int):=i64_in _ (by omega)
 refine qan (by omega) (qa4 (by omega) hx (qam rfl (qam (qrx (by omega)) ?_)))
 show cond (!hasI s d) (rmK (s++[d]).length 8 (qez _ n (s++[d]).length j (j.length:Int) (IntKind.i64.wrap ((i:Int)+1)) (s++[d]))) (qez _ n s.length j (j.length:Int) (IntKind.i64.wrap ((i:Int)+1)) s)=qez _ n (qfr s d).length j (j.length:Int) ((i+1:Nat):Int) (qfr s d)
 rw[e2,xbr6]
 unfold qfr
 by_cases h:d∈s
 ·rw[decide_eq_true h,if_pos h];rfl
 ·rw[decide_eq_false h,if_neg h]
  have:(s++[d]).length<=200000000:=by rw[zag];simp;omega
  exact qp8 (by omega) (by omega) rfl
theorem xbb0 (d:Int): ∀(l:List Int) (s:Bool),l.foldl (fun s e=>s|| decide (e=d)) s=(s|| decide (d∈l))
 | [],s=>by simp
 | x::r,s=>by
  rw[zbf,xbb0 d r]
  simp only[zaw]
  by_cases h1:x=d
  ·subst h1;simp
  ·have: ¬d=x:=fun h=>h1 h.symm
   simp[h1,this]
theorem xb4x (K0:List CV->Nat->Int->Int->Bool->List Int->Option Out) (l:List CV) (i k:Nat) (d:Int) (t:List CV) (w:List Int) (row:List CV) (o:List Int) (hx:l[i]? =some (.slg 3 row)) (hy:row[k]? =some (xbd3 d t w)) (ho:o.length<=100000000):
  qd4 K0 FUEL l o.length i k false 0 o=K0 l o.length i k (decide (d∈o)) o:=by
 refine(qr2 (fun(s:Bool) e=>s|| decide (e=d)) false o (fun n j s=>qd4 K0 n l o.length i k s j o) (fun s=>K0 l o.length i k s o) (fun n j s x hxj hj hs=> ?_) (fun n s=>qb6 (show ¬(o.length:Int)<(o.length:Int) by omega) rfl) FUEL 0 false (zbc _) rfl (by unfold FUEL;omega)).trans (by rw[xbb0];rfl)
 have e2:IntKind.i64.wrap ((j:Int)+1)=((j+1:Nat):Int):=i64_in _ (by omega)
 refine qan (by omega) ?_
 cases s with
 | true=>
  show qd4 K0 n l o.length i k true (IntKind.i64.wrap ((j:Int)+1)) o=_
  rw[e2];rfl
 | false=>
  refine q8j rfl (xbyo (by omega) (by omega) (xbzr (x:=x) (by rw[zax];exact hxj) (qa4 (by omega) hx (qam rfl (qa4 (by omega) hy (qam rfl ?_))))))
  show qd4 K0 n l o.length i k (decide (x=d)) (IntKind.i64.wrap ((j:Int)+1)) o=_
  rw[e2];rfl
theorem lpD6 (K0:List CV->Nat->Int->List Int->Option Out) (l:List CV) (i:Nat) (row:List CV) (o:List Int) (hx:l[i]? =some (.slg 3 row)) (hr:qsx row) (ho:o.length+row.length<=100000000):
  qc0 K0 FUEL l o.length i 0 o=K0 l (row.foldl (fun o c=>qfr o (mD c)) o).length i (row.foldl (fun o c=>qfr o (mD c)) o):=by
 refine(qr2 (fun(o:List Int) c=>qfr o (mD c)) o row (fun n j s=>qc0 K0 n l s.length i j s) (fun s=>K0 l s.length i s) (fun n j s x hxj hj hs=> ?_) (fun n s=> ?_) FUEL 0 o (zbc _) rfl (by have:=hr.1;unfold FUEL;omega)).trans rfl
 ·obtain⟨d,t,w,rfl,ht,hw⟩:=hr.2 x (zae hxj)
  have hs':s.length<=100000000:=by
   have:=qij (row.take j) o
   rw[zb8] at this
   rw[hs]
   omega
  have hr1:=hr.1
  have e2:IntKind.i64.wrap ((j:Int)+1)=((j+1:Nat):Int):=i64_in _ (by omega)
  show qfb (qc0 K0 n) K0 l s.length i j s=_
  unfold qfb
  simp only[qab]
  rw[xb4x _ l i j d t w row s hx hxj (by omega)]
  refine qa4 (by omega) hx (qam rfl (qan (show(j:Int)<(row.length:Int) by omega) ?_))
  show cond (!decide (d∈s)) _ (qc0 K0 n l s.length i (IntKind.i64.wrap ((j:Int)+1)) s)=qc0 K0 n l (qfr s d).length i ((j+1:Nat):Int) (qfr s d)
  rw[e2]
  unfold qfr
  by_cases h:d∈s
  ·rw[decide_eq_true h,if_pos h];rfl
  ·rw[decide_eq_false h,if_neg h]
   refine qa4 (by omega) hx (qam rfl (qa4 (by omega) hxj (qam rfl ?_)))
   have:(s++[d]).length<=200000000:=by rw[zag];simp;omega
   exact qp8 (by show(s++[d]).length*8<=_;omega) (by show(s++[d]).length<=_;omega) rfl
 ·show qfb (qc0 K0 n) K0 l s.length i row.length s=_
  unfold qfb
  exact qa4 (by omega) hx (qam rfl (qb6 (show ¬((row.length:Int)<(row.length:Int)) by omega) rfl))
theorem qq6: ∀(l:List CV) (o:List Int),(∀c∈l,(qbm c).length<=10000)->(l.foldl (fun o c=>(qbm c).foldl (fun o c=>qfr o (mD c)) o) o).length<=o.length+l.length*10000
 | [],o,_=>by simp
 | x::r,o,h=>by
  have:=qq6 r ((qbm x).foldl (fun o c=>qfr o (mD c)) o) fun c hc=>h c (by simp[hc])
  have:=qij (qbm x) o
  have:=h x (by simp)
  simp only[zbf,zac]
  omega
theorem lpD3 (K0:Nat->List Int->Option Out) (l:List CV) (hl:qdj l):qew K0 FUEL l 0 0 []=K0 (qf5 l).length (qf5 l):=by
 have hlen:=qmo hl
 have hl1:=hl.1
 rw[xbal]
 refine(qr2 (fun(o:List Int) c=>(qbm c).foldl (fun o c=>qfr o (mD c)) o) [] l (fun n j s=>qew K0 n l s.length j s) (fun s=>K0 s.length s) (fun n j s x hxj hj hs=> ?_) (fun n s=>qb6 (show ¬(l.length:Int)<(l.length:Int) by omega) rfl) FUEL 0 [] (zbc _) rfl (by unfold FUEL;omega)).trans rfl
 obtain⟨row,rfl,hr⟩:=hl.2 x (zae hxj)
 have hs':s.length<=j*10000:=by
  have:=qq6 (l.take j) [] fun c hc=>hlen c (za9 hc)
  rw[zb8,Nat.min_eq_left (by omega)] at this
  rw[hs]
  simpa using this
 have hr1:=hr.1
 have e2:IntKind.i64.wrap ((j:Int)+1)=((j+1:Nat):Int):=i64_in _ (by omega)
 show qja (qew K0 n) K0 l s.length j s=_
 unfold qja
 simp only[qab]
 rw[lpD6 _ l j row s hxj hr (by omega)]
 refine qan (by omega) ?_
 show qew K0 n l _ (IntKind.i64.wrap ((j:Int)+1)) _=_
 rw[e2]
 rfl
theorem xbhe (l:List CV) (hp:qcb l=true):q54 l=some (.ret [.cl (.sli .i64 (qrw l))] []):=by
 unfold q54
 rw[ql5,qab]
 exact lpD3 _ l (qe0 hp)
open IntWalk (i64_in u8_in u32_in u64_in i64_quo u8_quo rem_in)
def Bk (n B:Nat) (c:CV):Prop:= ∃y,c=.agg y/\isTf n y=true/\qdp n y<=B
theorem xbli {k m B B':Nat} {c:CV} (h:Bk k B c) (hk:k<=m) (hB:B<=B'):Bk m B' c:=by
 obtain⟨y,rfl,h1,h2⟩:=h
 have h3:=xbw1 h1 hk
 exact⟨y,rfl,h3,by rw[<- xbkc h1 h3];omega⟩
theorem qk5 {n S:Nat} {t:Int} {b:List Int} {l:List CV} (hb: ∀x∈b,0<=x/\x<=255) (h:(∀c∈l, ∃y,c=.agg y/\isTf n y=true)/\(l.map fun c=>qdp n (cell1 c)).sum<=S):Bk (n+1) (1+b.length+S) (qcr t b l):=
 ⟨_,rfl,xbs7 hb h.1,Nat.add_le_add_left h.2 _⟩
theorem qy8 {n:Nat} {t:Int} {b:List Int} (hb: ∀x∈b,0<=x/\x<=255):Bk (n+1) (1+b.length) (qcr t b []):=qk5 (S:=0) hb ⟨by simp,by simp⟩
theorem qi3 {n B S:Nat} {c:CV} {l:List CV} (h:Bk n B c) (hl:(∀c∈l, ∃y,c=.agg y/\isTf n y=true)/\(l.map fun c=>qdp n (cell1 c)).sum<=S):(∀x∈c::l, ∃y,x=.agg y/\isTf n y=true)/\((c::l).map fun c=>qdp n (cell1 c)).sum<=B+S:=by
 obtain⟨y,rfl,h1,h2⟩:=h
 refine⟨fun x hx=> ?_, ?_⟩
 ·rcases zaw.1 hx with rfl|hx
  ·exact⟨y,rfl,h1⟩
  ·exact hl.1 x hx
 ·have:=hl.2
  show qdp n y+_<=_
  exact Nat.add_le_add h2 this
theorem xbby {n:Nat}:(∀x∈([]:List CV), ∃y,x=.agg y/\isTf n y=true)/\(([]:List CV).map fun c=>qdp n (cell1 c)).sum<=0:=⟨by simp,by simp⟩
theorem xbxy {f:CV->Option CV} {g:CV->Nat} {n:Nat}: ∀ {l:List CV},(∀c∈l, ∀y,f c=some y->Bk n (g c) y)->(∀y∈l.filterMap f, ∃z,y=.agg z/\isTf n z=true)/\((l.filterMap f).map fun c=>qdp n (cell1 c)).sum<=(l.map g).sum
 | [],_=>⟨by simp,by simp⟩
 | x::r,h=>by
  have ih:=xbxy (l:=r) fun c hc=>h c (by simp[hc])
  cases hx:f x with
  | none=>
   rw[List.filterMap_cons_none hx]
   refine⟨ih.1, ?_⟩
   simp only[zbi,zb7]
   omega
  | some y=>
   rw[zcw hx]
   have:=qi3 (h x (by simp) y hx) ih
   refine⟨this.1, ?_⟩
   have:=this.2
   simp only[zbi,zb7] at this ⊢
   omega
theorem xbh3 {f:CV->Option CV} {g:CV->Nat} {n:Nat} {lo hi:Int} {l:List CV} (h: ∀c∈l, ∀y,f c=some y->Bk n (g c) y):(∀y∈evL f lo hi l, ∃z,y=.agg z/\isTf n z=true)/\((evL f lo hi l).map fun c=>qdp n (cell1 c)).sum<=(l.map g).sum:=by
 unfold evL
 split
 ·exact xbxy h
 ·exact⟨by simp,by simp⟩
theorem xbz1 {s:Int} {l:List CV} (h:xbix l): ∀c∈l, ∀y,digF s c=some y->Bk 30 (1+(qb7 c).length) y:=fun c hc y hy=>by
 obtain⟨b,rfl,hb⟩:=h.2 c hc
 unfold digF at hy
 split at hy
 ·cases hy;exact qy8 (qal hb).2
 ·cases hy
theorem xbxq {s:Int} {t:List CV} (h:xbjr t): ∀c∈t, ∀y,qpt s c=some y->Bk 31 (1+qz3 (qbm c)) y:=fun c hc y hy=>by
 obtain⟨l,rfl,hl⟩:=h.2 c hc
 unfold qpt at hy
 split at hy
 ·cases hy
  exact qk5 (b:=[]) (by simp) (xbh3 (xbz1 hl))
 ·cases hy
theorem xbv8 {s:Int} {t:List CV} (h:xbjr t) (lo hi:Int):Bk 32 (1+qs9 t) (qcr 162 [] (evL (qpt s) lo hi t)):=qk5 (b:=[]) (by simp) (xbh3 (xbxq h))
theorem xbml: ∀e∈qgz,(qfl e.2.2).length<=11/\∀x∈qfl e.2.2,0<=x/\x<=255:=by decide+kernel
theorem xb37 (d:Int):Bk 31 12 (q0v (qat d).2.2):=by
 have h:(qa3 (qat d).2.2).length<=11/\∀x∈qa3 (qat d).2.2,0<=x/\x<=255:=by
  unfold qa3
  rw[qab]
  rcases q4l d with h|h
  ·rw[h];exact⟨by decide,by decide⟩
  ·exact xbml _ h.1
 unfold q0v qfq xbg2
 rw[qab]
 split
 ·exact xbli (qy8 (n:=30) h.2) (by omega) (by show 1+(qa3 (qat d).2.2).length<=12;omega)
 ·exact xbli (qy8 (n:=30) (by simp)) (by omega) (by simp)
theorem xb4r {w:List Int} (hw:qad w=true) (h:(qa9 w).2=0):Bk 32 w.length (ndCV (qa9 w).1):=by
 rw[qya] at h ⊢
 by_cases hz:(qaq 32 w).1=0
 ·rw[if_pos hz] at h ⊢
  by_cases hlt:(qaq 32 w).2.2<w.length
  ·rw[if_pos hlt] at h;exact absurd h (by decide: ¬(7:Int)=0)
  ·rw[if_neg hlt]
   obtain⟨⟨h1,h2,h3,h4⟩,h5⟩:=qnn 32 w hw hz
   rw[h5,zb8] at h4
   exact⟨ndL (qaq 32 w).2.1,rfl,h1,by omega⟩
 ·rw[if_neg hz] at h;exact absurd h hz
theorem xbzl {l:List CV} (h: ∀c∈l,isMk c): ∀c∈l, ∀y,qlz c=some y->Bk 33 (2+(mW c).length+qs9 (mT c)+13) y:=fun c hc y hy=>by
 obtain⟨d,t,w,rfl,ht,hw⟩:=h c hc
 replace hy:(if qct d t w=true then some (qcr 48 [] (q40 d t w)) else none)=some y:=hy
 split at hy
 ·rename_i hm
  obtain⟨_,h2,_⟩:=qfy.1 hm
  cases hy
  have hbox:Bk 32 13 (qcr 160 [] [q0v (qat d).2.2]):=qk5 (S:=12) (b:=[]) (by simp) (qi3 (S:=0) (xb37 d) xbby)
  have htok:=xb4r hw h2
  unfold q40
  refine xbli (k:=33) (B:=1+0+(13+((1+qs9 t)+(w.length+0)))) (qk5 (b:=[]) (by simp) ?_) (zar _) (by show _<=2+w.length+qs9 t+13;omega)
  split
  ·have:=qi3 hbox (qi3 htok xbby)
   exact⟨this.1,by have:=this.2;simp only[zbo];omega⟩
  ·exact qi3 hbox (qi3 (xbv8 ht 0 20) (qi3 htok xbby))
 ·cases hy
theorem q01 {g:CV->Nat} {K:Nat}: ∀ {l:List CV},(l.map fun c=>g c+K).sum=(l.map g).sum+K*l.length
 | []=>by simp
 | x::r=>by
  have:=q01 (g:=g) (K:=K) (l:=r)
  simp only[zbi,zb7,zac,Nat.mul_succ]
  omega
theorem qoy {α β:Type} {f:α->Option β} {lo hi:Int} {l:List α} (h:evB f lo hi l=true):lo<=(l.length:Int)/\(l.length:Int)<=hi/\∀c∈l, ∃y,f c=some y:=by
 unfold evB at h
 rw[zab,decide_eq_true_eq,zai] at h
 exact⟨h.1.1,h.1.2,fun c hc=>za1.1 (h.2 c hc)⟩
theorem xboc {l:List CV} (h: ∀c∈l, ∃m,c=.slg 3 m/\qsx m): ∀c∈l, ∀y,qci c=some y->Bk 34 (1+qgl (qbm c)+260) y:=fun c hc y hy=>by
 obtain⟨m,rfl,hm⟩:=h c hc
 replace hy:(if evB qlz 1 20 m=true then some (qcr 48 [] (evL qlz 1 20 m)) else none)=some y:=hy
 split at hy
 ·rename_i hb
  cases hy
  have:=xbh3 (lo:=1) (hi:=20) (xbzl hm.2)
  rw[q01] at this
  have hl:=(qoy hb).2.1
  refine xbli (qk5 (b:=[]) (by simp) this) (zar _) ?_
  show 1+0+(qgl m+13*m.length)<=1+qgl m+260
  omega
 ·cases hy
theorem qvp {l:List CV} (h:recO l=true):qdj l/\qcu l<=12100:=by unfold recO at h;rw[qab] at h;exact @of_decide_eq_true _ (Classical.propDecidable _) h
theorem q36 {l:List CV} (h:qdj l/\qcu l<=12100):recO l=true:=by unfold recO;rw[qab];exact @decide_eq_true _ (Classical.propDecidable _) h
theorem q5z {l:List CV} (h:qdj l) (hn:qcu l<=12100):Bk 35 14701 (qcr 48 [] (evL qci 1 10 l)):=by
 by_cases hb:evB qci 1 10 l=true
 ·have:=xbh3 (lo:=1) (hi:=10) (xboc h.2)
  rw[q01] at this
  have hl:=(qoy hb).2.1
  refine xbli (qk5 (b:=[]) (by simp) this) (zar _) ?_
  have:qcu l=(l.map fun c=>1+qgl (qbm c)).sum:=rfl
  show 1+0+((l.map fun c=>1+qgl (qbm c)).sum+260*l.length)<=14701
  omega
 ·unfold evL
  rw[if_neg hb]
  exact xbli (qy8 (by simp)) (zar _) (by simp)
theorem xbs1 {n B:Nat} {t:Int} {b:List Int} {k:List CV} (h:Bk n B (qcr t b k)) (hB:B<=30000):isS [.int .i64 t,.sli .u8 b,.slg 3 k]=true:=by
 obtain⟨y,e,h1,h2⟩:=h
 cases e
 exact q9h h1 (by omega)
theorem qzb {l:List CV} (h:qdj l) (hn:qcu l<=12100):isS [.int .i64 48,.sli .u8 [],.slg 3 (evL qci 1 10 l)]=true:=xbs1 (q5z h hn) (by omega)
theorem qqp {d:Int}: ∀ {l o:List Int},d∈l.foldl qfr o->d∈o\/d∈l
 | [],o,h=>.inl h
 | x::r,o,h=>by
  rcases qqp (l:=r) h with h|h
  ·unfold qfr at h
   split at h
   ·exact .inl h
   ·rcases zao.1 h with h|h
    ·exact .inl h
    ·exact .inr (by simp at h;simp[h])
  ·exact .inr (by simp[h])
theorem qjw: ∀ {l o:List Int},(l.foldl qfr o).length<=o.length+l.length
 | [],o=>by simp
 | x::r,o=>by
  have:=qjw (l:=r) (o:=qfr o x)
  have:=qy5 o x
  simp only[zbf,zac]
  omega
theorem qx3 {c:CV} {m:List CV} {y:CV} (hc:c=.slg 3 m) (h:qci c=some y):evB qlz 1 20 m=true/\y=qcr 48 [] (evL qlz 1 20 m):=by
 subst hc
 replace h:(if evB qlz 1 20 m=true then some (qcr 48 [] (evL qlz 1 20 m)) else none)=some y:=h
 split at h
 ·rename_i hb;cases h;exact⟨hb,rfl⟩
 ·cases h
theorem xbh7 {c:CV} {d:Int} {t:List CV} {w:List Int} {y:CV} (hc:c=xbd3 d t w) (h:qlz c=some y):qct d t w=true/\y=qcr 48 [] (q40 d t w):=by
 subst hc
 replace h:(if qct d t w=true then some (qcr 48 [] (q40 d t w)) else none)=some y:=h
 split at h
 ·rename_i hb;cases h;exact⟨hb,rfl⟩
 ·cases h
theorem qso {c:List CV} (hc:qdj c) (h:evB qci 1 10 c=true):(∀d∈qf5 c,(qat d).2.1=1)/\(qf5 c).length<=200:=by
 obtain⟨_,hl,ha⟩:=qoy h
 refine⟨fun d hd=> ?_, ?_⟩
 ·rcases qqp hd with h|h
  ·simp at h
  ·obtain⟨x,hx,hm⟩:=zbt.1 h
   obtain⟨m,rfl,hmm⟩:=hc.2 x hx
   obtain⟨y,hy⟩:=ha _ hx
   obtain⟨hb, -⟩:=qx3 rfl hy
   obtain⟨z,hz,rfl⟩:=zbu.1 hm
   obtain⟨d,t,w,rfl, -, -⟩:=hmm.2 z hz
   obtain⟨u,hu⟩:=(qoy hb).2.2 _ hz
   exact(qfy.1 (xbh7 rfl hu).1).1
 ·have h1:(qf5 c).length<=0+(c.flatMap fun c=>q7e (qbm c)).length:=qjw
  have h2:(c.flatMap fun c=>q7e (qbm c)).length<=c.length*20:=qx2 fun x hx=>by
   obtain⟨m,rfl,hmm⟩:=hc.2 x hx
   obtain⟨y,hy⟩:=ha _ hx
   have:=(qoy (qx3 rfl hy).1).2.1
   show(m.map mD).length<=20
   rw[zav]
   omega
  omega
theorem q5i {d:Int} (h:(qat d).2.1=1):q8c d=some (q0o d)/\q0o d=qcr 48 [] [q0v (qat d).2.2]:=by
 have e:=xbvi (g:=d) (b:=[]) (by omega) (by rw[h];rfl)
 rw[xbkb] at e
 have e2:xblk (qat d).2.1 []=[]:=by rw[h];rfl
 rw[e2] at e
 unfold q8c q0o
 rw[e]
 exact⟨if_pos rfl,rfl⟩
theorem xbyd {g:List Int} (h: ∀d∈g,(qat d).2.1=1):evL q8c 0 (g.length:Int) g=g.map q0o:=by
 have hall: ∀ {l:List Int},(∀d∈l,(qat d).2.1=1)->l.all (fun d=>(q8c d).isSome)=true/\l.filterMap q8c=l.map q0o:=fun {l}=>by
  induction l with
  | nil=>intro _;exact⟨rfl,rfl⟩
  | cons x r ih=>
   intro h
   have:=ih fun d hd=>h d (by simp[hd])
   have hx:=(q5i (h x (by simp))).1
   rw[zcl,hx,this.1,zcw hx,this.2]
   exact⟨rfl,rfl⟩
 have e:evB q8c 0 (g.length:Int) g=true:=by unfold evB;rw[(hall h).1,decide_eq_true (by omega)];rfl
 rw[(qzn e).1,(hall h).2]
theorem qfj {g:List Int} {c:List CV}:q6z g c=true↔evB qci 1 10 c=true/\g=qf5 c:=by unfold q6z;rw[zab,decide_eq_true_eq]
theorem xbnt:Bk 35 2 (qcr 2 (vInt 1) []):=by rw[xb17];exact qy8 (by simp)
theorem xb1e {g:List Int} (h: ∀d∈g,(qat d).2.1=1):(∀y∈g.map q0o, ∃z,y=.agg z/\isTf 34 z=true)/\((g.map q0o).map fun c=>qdp 34 (cell1 c)).sum<=13*g.length:=by
 induction g with
 | nil=>exact⟨by simp,by simp⟩
 | cons x r ih=>
  have hx:Bk 34 13 (q0o x):=by
   rw[(q5i (h x (by simp))).2]
   exact xbli (qk5 (S:=12) (b:=[]) (by simp) (qi3 (S:=0) (xb37 x) xbby)) (by omega) (by simp)
  have:=qi3 hx (ih fun d hd=>h d (by simp[hd]))
  refine⟨this.1, ?_⟩
  have:=this.2
  rw[zac,Nat.mul_succ]
  rw[zbi]
  omega
theorem xbrm {g:List Int} {c:List CV} (hc:qdj c) (hn:qcu c<=12100) (h:q6z g c=true):isS [.int .i64 48,.sli .u8 [],.slg 3 (q1l g c)]=true:=by
 obtain⟨hb,rfl⟩:=qfj.1 h
 obtain⟨hd,hl⟩:=qso hc hb
 have hg:Bk 35 2601 (qcr 48 [] ((qf5 c).map q0o)):=xbli (qk5 (b:=[]) (by simp) (xb1e hd)) (zar _) (by show 1+0+13*(qf5 c).length<=2601;omega)
 exact xbs1 (B:=1+0+(2+(2601+(14701+0)))) (qk5 (b:=[]) (by simp) (qi3 xbnt (qi3 hg (qi3 (q5z hc hn) xbby)))) (by omega)
theorem qrj (g:List Int) (c:List CV):evOk g c=qs7 g c:=by unfold evOk;rw[qab]
theorem q0r {g:List Int} {c:List CV} (h:q6z g c=true):qs7 g c=qz2 [.int .i64 48,.sli .u8 [],.slg 3 (q1l g c)]:=by unfold qs7;rw[h,zbm]
theorem q4h {g:List Int} {c:List CV} (h:q6z g c=true):qk2 g c=(48,q1l g c):=by unfold qk2;rw[qab,if_pos h]
theorem qpq {g:List Int} {c:List CV} (h: ¬q6z g c=true):qk2 g c=(0,[])/\qs7 g c=false:=by
 unfold qk2 qs7
 rw[qab,if_neg h,zau.2 h]
 exact⟨rfl,rfl⟩
theorem st1:q67 1=true:=by unfold q67;exact decide_eq_true (by omega)
theorem xb5l (g:List Int) (c:List CV) (hp:(qgv g&&recO c)=true):xb38 g c=some (.ret [.cl (.agg [.int .i64 (qk2 g c).1,.sli .u8 qa0,.slg 3 (qk2 g c).2]),.cl (.bool (evOk g c))] []):=by
 rw[zab] at hp
 obtain⟨hg,hr⟩:=hp
 obtain⟨hc,hn⟩:=qvp hr
 have hco:=qm1 hc
 unfold xb38
 simp only[qbo,qdf,qpj,qpy,ql5,q1b,qrj,qwv]
 have bad: ¬q6z g c=true->some (Out.ret [.cl (.agg [.int .i64 0,.sli .u8 [],.slg 3 []]),.cl (.bool false)] [])=some (.ret [.cl (.agg [.int .i64 (qk2 g c).1,.sli .u8 [],.slg 3 (qk2 g c).2]),.cl (.bool (qs7 g c))] []):=fun h=>by rw[(qpq h).1,(qpq h).2]
 refine qam hco (qff (fun h=>bad fun h'=>by rw[(qfj.1 h').1] at h;cases h) fun h=>qam hco (qam hg (qff (fun h2=>bad fun h'=>by rw[q6d.2 (qfj.1 h').2] at h2;cases h2) fun h2=> ?_)))
 have h2:=q6d.1 h2
 have hm:q6z g c=true:=qfj.2 ⟨h,h2⟩
 obtain⟨hd,hl⟩:=qso hc h
 rw[<- h2] at hd hl
 have hS:=xbrm hc hn hm
 refine qam (xbiv (by omega)) (qam st1 ?_)
 rw[xbyd hd]
 refine qam (qbz (by simp)) (qam hS ?_)
 rw[q4h hm,q0r hm]
 rfl
theorem xbc6 {c:List CV} (h:evB qci 1 10 c=true):qmr c=(48,evL qci 1 10 c):=by unfold qmr;rw[qab,if_pos h]
theorem lpRR (K0:Nat->Int->List Int->List CV->List CV->Option Out) (g:List Int) (c:List CV) (x1:Int) (x2:List Int) (x3:List CV) (hl:g.length<=1000000):qlp K0 FUEL 0 0 g c x1 x2 x3 []=K0 g.length x1 x2 x3 (g.map q0o):=by
 refine(xb1q q0o g hl (fun n a j acc=>qlp K0 n a j g c x1 x2 x3 acc) (fun y=>K0 g.length x1 x2 x3 y) (fun n j acc x hj ha hxj=> ?_) (fun n acc=> ?_) FUEL 0 [] (zbc _) rfl (by unfold FUEL;omega)).trans rfl
 ·show qmf (qlp K0 n) K0 j j g c x1 x2 x3 acc=_
  unfold qmf
  simp only[qbo,qyi]
  refine qan (show(j:Int)<(g.length:Int) by omega) (qa4 (by omega) hxj (qam (qf9 (by simp)) ?_))
  exact q4y (w:=56) (y:=q0o x) (A:=fun a q acc=>qlp K0 n a q g c x1 x2 x3 acc) ha (by omega) (by omega)
 ·show qmf (qlp K0 n) K0 g.length g.length g c x1 x2 x3 acc=_
  unfold qmf
  exact qb6 (show ¬((g.length:Int)<(g.length:Int)) by omega) rfl
theorem xb5j (g:List Int) (c:List CV) (hp:(qgv g&&recO c)=true):xb4f g c=some (.ret [.cl (.agg [.int .i64 (qk2 g c).1,.sli .u8 qa0,.slg 3 (qk2 g c).2]),.cl (.bool (evOk g c))] []):=by
 rw[zab] at hp
 obtain⟨hg,hr⟩:=hp
 obtain⟨hc,hn⟩:=qvp hr
 have hco:=qm1 hc
 unfold xb4f
 simp only[qbo,qdf,qpy,ql5,qrj,qwv,qab]
 have bad: ¬q6z g c=true->some (Out.ret [.cl (.agg [.int .i64 0,.sli .u8 [],.slg 3 []]),.cl (.bool false)] [])=some (.ret [.cl (.agg [.int .i64 (qk2 g c).1,.sli .u8 [],.slg 3 (qk2 g c).2]),.cl (.bool (qs7 g c))] []):=fun h=>by rw[(qpq h).1,(qpq h).2]
 refine qam hco (qff (fun h=>bad fun h'=>by rw[(qfj.1 h').1] at h;cases h) fun h=>qam hco (qam hg (qff (fun h2=>bad fun h'=>by rw[q6d.2 (qfj.1 h').2] at h2;cases h2) fun h2=> ?_)))
 have h2:=q6d.1 h2
 have hm:q6z g c=true:=qfj.2 ⟨h,h2⟩
 obtain⟨hd,hl⟩:=qso hc h
 rw[<- h2] at hd hl
 have hS:=xbrm hc hn hm
 rw[lpRR _ g c _ _ _ (by omega),xbc6 h]
 refine qam st1 (qam (qbz (by rw[zav];omega)) (qam (qbz (by simp)) (qam hS ?_)))
 rw[q4h hm,q0r hm]
 rfl
theorem xb0l (g:List Int) (c:List CV) (hp:(qgv g&&recO c)=true):xb2w g c=some (.ret [.cl (.bool (evOk g c))] []):=qam hp rfl
theorem xb0i (g:List Int) (c:List CV) (hp:(qgv g&&recO c)=true):xb2f g c=some (.ret [.cl (.bool (evOk g c))] []):=qam hp rfl
theorem xbxc {g:List Int} {c:List CV} (h:qs7 g c=true):q6z g c=true:=by unfold qs7 at h;rw[zab] at h;exact h.1
theorem qn8 {c:List CV} (h:qdj c) (n:Nat):qdj (c.take n):=⟨by have:=h.1;rw[zb8];omega,fun x hx=>h.2 x (za9 hx)⟩
theorem q0j {g:CV->Nat}: ∀(l:List CV) (n:Nat),((l.take n).map g).sum<=(l.map g).sum
 | [],n=>by simp
 | x::r,0=>by simp
 | x::r,n+1=>by
  have:=q0j (g:=g) r n
  simp only[zb6,zbi,zb7]
  omega
theorem qv3 (g:List Int) (c:List CV) (n:Int):qxr g c n=q6c g c n:=by unfold qxr;rw[qab]
theorem xb0p {c:List CV} {n:Int} (h:evB qci 1 10 c=true) (h1: ¬n<1) (h2: ¬(c.length:Int)<n):evB qci 1 10 (c.take n.toNat)=true:=by
 obtain⟨_,h4,h5⟩:=qoy h
 unfold evB
 rw[zab,decide_eq_true_eq,zai,zb8,Nat.min_eq_left (by omega)]
 exact⟨by omega,fun x hx=>za1.2 (h5 x (za9 hx))⟩
theorem xb2n (g:List Int) (c:List CV) (n:Int) (hp:(qgv g&&recO c)=true):xbt0 g c n=some (.ret [.cl (.sli .u8 (qxr g c n).1),.cl (.int .i64 (qxr g c n).2)] []):=by
 unfold xbt0
 refine qam hp ?_
 rw[zab] at hp
 obtain⟨hc,hn⟩:=qvp hp.2
 simp only[qbo,qrj,qv3,qpj]
 unfold q6c
 refine qff (fun h=> ?_) fun h=>qae (fun h1=> ?_) fun h1=>qae (fun h2=> ?_) fun h2=>qan (by omega) (qan (by omega) (qam (qm1 (qn8 hc _)) (qam (qzb (qn8 hc _) (by have:qcu (c.take n.toNat)<=qcu c:=q0j _ _;omega)) ?_)))
 ·rw[if_pos h]
 ·rw[if_neg (by rw[h];simp),if_pos (Or.inl h1)]
 ·rw[if_neg (by rw[h];simp),if_pos (Or.inr h2)]
 ·rw[if_neg (by rw[h];simp),if_neg (by rintro(h'| h');exact h1 h';exact h2 h')]
open IntWalk (i64_in u8_in u32_in u64_in i64_quo u8_quo rem_in)
def Lg (c:CV) (L:Nat):Prop:= ∃n d y,c=.agg y/\isTf n y=true/\okF n d y=true/\(qai n y).1.length<=L
theorem xbj7 (t n:Int):2<=(qcd t n).length:=by unfold qcd;(repeat' split)<;>simp
theorem qpx {n d:Nat} {t:Int} {b:List Int} {k:List CV} (h:okF (n+1) (d+1) [.int .i64 t,.sli .u8 b,.slg 3 k]=true):(qap t=true/\b=[]/\∀c∈k,okF n d (cell1 c)=true)\/(¬qap t=true/\k=[]):=by
 replace h:(qa5 t&&(if qap t=true then decide (b=[])&&k.all fun c=>okF n d (cell1 c) else decide (k=[])&&qbh t b))=true:=h
 rw[zab] at h
 have h:=h.2
 split at h
 ·rename_i hb
  rw[zab,decide_eq_true_eq,zai] at h
  exact .inl ⟨hb,h.1,h.2⟩
 ·rename_i hb
  rw[zab,decide_eq_true_eq] at h
  exact .inr ⟨hb,h.1⟩
theorem q4i {α:Type} {g:α->List Int}: ∀ {l:List α},((l.map g).flatten).length=(l.map fun c=>(g c).length).sum
 | []=>rfl
 | x::r=>by simp only[zbi,zc1,zag,zb7,q4i (l:=r)]
theorem xbyb {n d:Nat} {t:Int} {b:List Int} {k:List CV} (h:okF (n+1) (d+1) [.int .i64 t,.sli .u8 b,.slg 3 k]=true):2+b.length+(k.map fun c=>(qai n (cell1 c)).1.length).sum<=(qai (n+1) [.int .i64 t,.sli .u8 b,.slg 3 k]).1.length:=by
 show _<=(if qap t=true then(qcd t _++((k.map fun c=>qai n (cell1 c)).map (·.1)).flatten,_) else(qcd t b.length++b,true):List Int×Bool).1.length
 rcases qpx h with⟨hb,rfl,_⟩|⟨hb,rfl⟩
 ·rw[if_pos hb]
  have e:((k.map fun c=>qai n (cell1 c)).map (·.1)).flatten=(k.map fun c=>(qai n (cell1 c)).1).flatten:=by rw[zc6];rfl
  simp only[e,zag,q4i,zcb]
  have:=xbj7 t (((k.map fun c=>(qai n (cell1 c)).1.length).sum:Nat):Int)
  omega
 ·rw[if_neg hb]
  simp only[zag,List.map_nil,List.sum_nil]
  have:=xbj7 t (b.length:Int)
  omega
theorem xbda: ∀ {n d:Nat} {y:List CV},isTf n y=true->okF n d y=true->qdp n y<=(qai n y).1.length
 | n,0,y,h,ho=>by
  obtain⟨m,t,b,k,rfl,rfl,_,_⟩:=qcx h
  cases ho
 | n,d+1,y,h,ho=>by
  obtain⟨m,t,b,k,rfl,rfl,_,hk⟩:=qcx h
  have h1:=xbyb ho
  have h2:(k.map fun c=>qdp m (cell1 c)).sum<=(k.map fun c=>(qai m (cell1 c)).1.length).sum:=by
   rcases qpx ho with⟨_,_,ha⟩|⟨_,rfl⟩
   ·have: ∀l:List CV,(∀c∈l,qdp m (cell1 c)<=(qai m (cell1 c)).1.length)->(l.map fun c=>qdp m (cell1 c)).sum<=(l.map fun c=>(qai m (cell1 c)).1.length).sum:=fun l=>by
     induction l with
     | nil=>intro _;simp
     | cons x r ih=>
      intro h
      have:=ih fun c hc=>h c (by simp[hc])
      have:=h x (by simp)
      simp only[zbi,zb7]
      omega
    refine this k fun c hc=> ?_
    obtain⟨y,rfl,hy⟩:=hk c hc
    exact xbda hy (ha _ hc)
   ·simp
  show 1+b.length+(k.map fun c=>qdp m (cell1 c)).sum<=_
  omega
theorem q5m {t:Int} {b:List Int} {k:List CV} {L:Nat} (h:Lg (qcr t b k) L): ∃g:CV->Nat,(∀c∈k,Lg c (g c))/\2+b.length+(k.map g).sum<=L/\∀x∈b,0<=x/\x<=255:=by
 obtain⟨n,d,y,e,h1,h2,h3⟩:=h
 cases e
 obtain⟨m,t',b',k',rfl,e,hb,hk⟩:=qcx h1
 simp only[zch,CV.int.injEq,CV.sli.injEq,CV.slg.injEq,and_true,true_and] at e
 obtain⟨rfl,rfl,rfl⟩:=e
 cases d with
 | zero=>cases h2
 | succ d=>
  refine⟨fun c=>(qai m (cell1 c)).1.length,fun c hc=> ?_,by have:=xbyb h2;omega,hb⟩
  obtain⟨y,rfl,hy⟩:=hk c hc
  rcases qpx h2 with⟨_,_,ha⟩|⟨_,rfl⟩
  ·exact⟨m,d,y,rfl,hy,ha _ hc,zar _⟩
  ·simp at hc
theorem xbgc {c:CV} {L:Nat} (h:Lg c L): ∃t b k,c=qcr t b k:=by
 obtain⟨n,d,y,rfl,h1,_⟩:=h
 obtain⟨m,t,b,k,rfl,rfl,_⟩:=qcx h1
 exact⟨t,b,k,rfl⟩
theorem xbfo {t:Int} {b:List Int} {k:List CV} {L:Nat} (h:Lg (qcr t b k) L) (hL:L<=30000):isS [.int .i64 t,.sli .u8 b,.slg 3 k]=true:=by
 obtain⟨n,d,y,e,h1,h2,h3⟩:=h
 cases e
 have:=xbda h1 h2
 exact q9h h1 (by omega)
theorem xbsa {β:Type} {f:CV->Option β} {sz:β->Nat} {g:CV->Nat}: ∀ {l:List CV},(∀c∈l, ∀y,f c=some y->sz y<=g c)->((l.filterMap f).map sz).sum<=(l.map g).sum
 | [],_=>by simp
 | x::r,h=>by
  have ih:=xbsa (l:=r) fun c hc=>h c (by simp[hc])
  cases hx:f x with
  | none=>
   rw[List.filterMap_cons_none hx]
   simp only[zbi,zb7]
   omega
  | some y=>
   rw[zcw hx]
   have:=h x (by simp) y hx
   simp only[zbi,zb7]
   omega
theorem q0s {g:CV->Nat} {l:List CV} {c:CV} (h:c∈l):g c<=(l.map g).sum:=q9s (List.mem_map_of_mem h)
theorem qpw {β:Type} {f:CV->Option β} {sz:β->Nat} {Q:β->Prop} {g t:Int} {b:List Int} {k:List CV} {L:Nat} (hL:L<=6000) (h:Lg (qcr t b k) L) (hf: ∀c L',L'<=6000->Lg c L'->∀y,f c=some y->sz y<=L'/\Q y):((qdw f g t b k).map sz).sum+2<=L/\∀y∈qdw f g t b k,Q y:=by
 obtain⟨gz,h1,h2,_⟩:=q5m h
 unfold qdw
 split
 ·rename_i hb
  have hk:(qb4 g t b k).1=k:=by
   unfold qg9 at hb
   rw[zab,decide_eq_true_eq] at hb
   exact qlf hb.1
  rw[hk]
  have hs: ∀c∈k,gz c<=6000:=fun c hc=>by have:=q0s (g:=gz) hc;omega
  have:=xbsa (sz:=sz) (g:=gz) (f:=f) (l:=k) fun c hc y hy=>(hf c _ (hs c hc) (h1 c hc) y hy).1
  refine⟨by omega,fun y hy=> ?_⟩
  obtain⟨c,hc,hy⟩:=zdm.1 hy
  exact(hf c _ (hs c hc) (h1 c hc) y hy).2
 ·exact⟨by simp;omega,fun y hy=>by simp at hy⟩
theorem qm7 {β:Type} {sz:β->Nat}: ∀ {l:List β},(∀y,1<=sz y)->l.length<=(l.map sz).sum
 | [],_=>by simp
 | x::r,h=>by
  have:=qm7 (l:=r) h
  have:=h x
  simp only[zac,zbi,zb7]
  omega
theorem qn6 {b:List Int} (h:b.length<=6000) (hb: ∀x∈b,0<=x/\x<=255):qad b=true:=qc2 (by omega) hb
theorem xb2e {c:CV} {L:Nat} (hL:L<=6000) (h:Lg c L) (y:CV) (hy:quj c=some y):1+(qb7 y).length<=L/\∃b,y=.sli .u8 b/\qad b=true:=by
 obtain⟨t,b,k,rfl⟩:=xbgc h
 obtain⟨g,_,h2,hb⟩:=q5m h
 replace hy:(if(qba t b k).2=0 then some (CV.sli .u8 (qba t b k).1) else none)=some y:=hy
 split at hy
 ·rename_i h0
  cases hy
  rw[(xbg4 h0).2.2]
  exact⟨by show 1+b.length<=L;omega,b,rfl,qn6 (by omega) hb⟩
 ·cases hy
theorem xbt5 {g t:Int} {b:List Int} {k:List CV} {L:Nat} (hL:L<=6000) (h:Lg (qcr t b k) L):qz3 (qdw quj g t b k)+2<=L/\xbix (qdw quj g t b k):=by
 have:=qpw (sz:=fun c=>1+(qb7 c).length) (Q:=fun y=> ∃b,y=.sli .u8 b/\qad b=true) (g:=g) hL h fun c L' hL' hc y hy=>xb2e hL' hc y hy
 refine⟨this.1, ?_,this.2⟩
 have:=qm7 (l:=qdw quj g t b k) (sz:=fun c=>1+(qb7 c).length) fun y=>by omega
 omega
theorem xbv5 {c:CV} {L:Nat} (hL:L<=6000) (h:Lg c L) (y:CV) (hy:qdz c=some y):1+qz3 (qbm y)<=L/\∃l,y=.slg 1 l/\xbix l:=by
 obtain⟨t,b,k,rfl⟩:=xbgc h
 replace hy:(if qg9 quj 48 t b k=true then some (CV.slg 1 (qdw quj 48 t b k)) else none)=some y:=hy
 have:=xbt5 (g:=48) hL h
 split at hy
 ·cases hy
  exact⟨by show 1+qz3 (qdw quj 48 t b k)<=L;omega,_,rfl,this.2⟩
 ·cases hy
theorem xbxb {g t:Int} {b:List Int} {k:List CV} {L:Nat} (hL:L<=6000) (h:Lg (qcr t b k) L):qs9 (qdw qdz g t b k)+2<=L/\xbjr (qdw qdz g t b k):=by
 have:=qpw (sz:=fun c=>1+qz3 (qbm c)) (Q:=fun y=> ∃l,y=.slg 1 l/\xbix l) (g:=g) hL h fun c L' hL' hc y hy=>xbv5 hL' hc y hy
 refine⟨this.1, ?_,this.2⟩
 have:=qm7 (l:=qdw qdz g t b k) (sz:=fun c=>1+qz3 (qbm c)) fun y=>by omega
 omega
theorem xbx5 {c:CV} {L:Nat} (hL:L<=6000) (h:Lg c L):(q7k c).1.length<=L/\qad (q7k c).1=true:=by
 obtain⟨t,b,k,rfl⟩:=xbgc h
 obtain⟨n,d,y,e,h1,h2,h3⟩:=h
 cases e
 have e:q7k (qcr t b k)=qbq [.int .i64 t,.sli .u8 b,.slg 3 k]:=rfl
 rw[e]
 have hb:=xbda h1 h2
 rw[qf1 h1]
 split
 ·exact⟨h3,qn6 (by show(qai n _).1.length<=6000;omega) (qsa h1 (by omega) h2)⟩
 ·exact⟨zbc _,qn6 (by simp) (by simp)⟩
theorem xbxi {c:CV} {L:Nat} (hL:L<=6000) (h:Lg c L) (y:CV) (hy:qt2 c=some y):2+(mW y).length+qs9 (mT y)<=L/\isMk y:=by
 obtain⟨t,b,k,rfl⟩:=xbgc h
 obtain⟨gz,h1,h2,_⟩:=q5m h
 have hs: ∀c∈k,gz c<=6000:=fun c hc=>by have:=q0s (g:=gz) hc;omega
 replace hy:(if(qf7 t b k).2.2.2=true then some (xbd3 (qf7 t b k).1 (qf7 t b k).2.1 (qf7 t b k).2.2.1) else none)=some y:=hy
 split at hy
 ·rename_i hm
  cases hy
  unfold qf7 at hm ⊢
  split at hm
  ·cases hm
  ·rename_i h0
   have h0:(qb4 48 t b k).2=0:=Classical.not_not.1 h0
   rw[if_neg (fun h=>h h0)]
   rw[qlf h0] at hm ⊢
   by_cases hl:(k.length:Int)<2\/3<(k.length:Int)
   ·unfold qtz at hm
    rw[if_pos hl] at hm
    cases hm
   ·by_cases h3:k.length=3
    ·obtain⟨x,y,z,rfl⟩:=len3 h3
     have hy:=h1 y (by simp)
     have hz:=h1 z (by simp)
     have hsum:2+b.length+(gz x+(gz y+(gz z+0)))<=L:=h2
     obtain⟨t2,b2,k2,rfl⟩:=xbgc hy
     have ht:=xbxb (g:=162) (hs _ (by simp)) hy
     have hk:=xbx5 (hs _ (by simp)) hz
     rw[xbep]
     exact⟨by show 2+(q7k z).1.length+qs9 (qdw qdz 162 t2 b2 k2)<=L;omega,_,_,_,rfl,ht.2,hk.2⟩
    ·obtain⟨x,y,rfl⟩:=len2 (show k.length=2 by omega)
     have hy:=h1 y (by simp)
     have hsum:2+b.length+(gz x+(gz y+0))<=L:=h2
     have hk:=xbx5 (hs _ (by simp)) hy
     rw[q9w]
     exact⟨by show 2+(q7k y).1.length+0<=L;omega,_,_,_,rfl,⟨by simp,by simp⟩,hk.2⟩
 ·cases hy
theorem xbob {g t:Int} {b:List Int} {k:List CV} {L:Nat} (hL:L<=6000) (h:Lg (qcr t b k) L):qgl (qdw qt2 g t b k)+2<=L/\qsx (qdw qt2 g t b k):=by
 have:=qpw (sz:=fun c=>2+(mW c).length+qs9 (mT c)) (Q:=isMk) (g:=g) hL h fun c L' hL' hc y hy=>xbxi hL' hc y hy
 refine⟨this.1, ?_,this.2⟩
 have:=qm7 (l:=qdw qt2 g t b k) (sz:=fun c=>2+(mW c).length+qs9 (mT c)) fun y=>by omega
 omega
theorem xbon {c:CV} {L:Nat} (hL:L<=6000) (h:Lg c L) (y:CV) (hy:qeq c=some y):1+qgl (qbm y)<=L/\∃m,y=.slg 3 m/\qsx m:=by
 obtain⟨t,b,k,rfl⟩:=xbgc h
 replace hy:(if qg9 qt2 48 t b k=true then some (CV.slg 3 (qdw qt2 48 t b k)) else none)=some y:=hy
 have:=xbob (g:=48) hL h
 split at hy
 ·cases hy
  exact⟨by show 1+qgl (qdw qt2 48 t b k)<=L;omega,_,rfl,this.2⟩
 ·cases hy
theorem xbh5 {g t:Int} {b:List Int} {k:List CV} {L:Nat} (hL:L<=6000) (h:Lg (qcr t b k) L):recO (qdw qeq g t b k)=true:=by
 have:=qpw (sz:=fun c=>1+qgl (qbm c)) (Q:=fun y=> ∃m,y=.slg 3 m/\qsx m) (g:=g) hL h fun c L' hL' hc y hy=>xbon hL' hc y hy
 have h2:=qm7 (l:=qdw qeq g t b k) (sz:=fun c=>1+qgl (qbm c)) fun y=>by omega
 exact q36 ⟨⟨by omega,this.2⟩,by show((qdw qeq g t b k).map fun c=>1+qgl (qbm c)).sum<=12100;omega⟩
theorem xbma {b:List Int} (hb:qad b=true) (h:(qa9 b).2=0):Lg (qcr (qa9 b).1.1 (qa9 b).1.2.1 (qa9 b).1.2.2) b.length:=by
 rw[qya] at h ⊢
 by_cases hz:(qaq 32 b).1=0
 ·rw[if_pos hz] at h ⊢
  by_cases hlt:(qaq 32 b).2.2<b.length
  ·rw[if_pos hlt] at h;exact absurd h (by decide: ¬(7:Int)=0)
  ·rw[if_neg hlt]
   obtain⟨⟨h1,h2,h3,h4⟩,h5⟩:=qnn 32 b hb hz
   exact⟨32,32,ndL (qaq 32 b).2.1,rfl,h1,h2,by rw[h5,zb8];omega⟩
 ·rw[if_neg hz] at h;exact absurd h hz
theorem xb2j (x y z:CV):xbbe [x,y,z]=(qdw algV 48 (nT y) (nB y) (nK y),qdw qeq 48 (nT z) (nB z) (nK z),(decide ((qdm (nT x) (nB x) (nK x)).2=0)&&decide ((qdm (nT x) (nB x) (nK x)).1=1))&&(qg9 algV 48 (nT y) (nB y) (nK y)&&qg9 qeq 48 (nT z) (nB z) (nK z))):=rfl
theorem xbpd {b:List Int} (h:b6k b=true):b.length<=6000:=by unfold b6k at h;rw[qab] at h;exact of_decide_eq_true h
theorem qzp (b:List Int):qm2 b=qes b:=by unfold qm2;rw[qab]
theorem xbib {β:Type} {f:CV->Option β} {g t:Int} {b:List Int} {k:List CV}:(qdw f g t b k).length<=k.length:=by
 unfold qdw
 split
 ·rename_i hb
  unfold qg9 at hb
  rw[zab,decide_eq_true_eq] at hb
  rw[qlf hb.1]
  exact List.length_filterMap_le ..
 ·exact zbc _
theorem xbwg (b:List Int) (hp:(qad b&&b6k b)=true):xbjm b=some (.ret [.cl (.agg [.sli .i64 (qm2 b).1,.slg 1 (qm2 b).2.1]),.cl (.int .i64 (qm2 b).2.2)] []):=by
 rw[zab] at hp
 obtain⟨hb,hl⟩:=hp
 have hl:=xbpd hl
 unfold xbjm
 simp only[xbsv,xbyw,xbxm,xby2,qrj,qzp]
 refine qam hb (qay (fun h=> ?_) fun h=> ?_)
 ·unfold qes;rw[if_pos h]
 have hLg:=xbma hb h
 generalize hn:(qa9 b).1=n at*
 obtain⟨t,cb,k⟩:=n
 replace hLg:Lg (qcr t cb k) b.length:=hLg
 dsimp only
 have hS:=xbfo hLg (by omega)
 have hC:qes b=if(qb4 48 t cb k).2=0/\(xbbe (qb4 48 t cb k).1).2.2=true/\qs7 (xbbe (qb4 48 t cb k).1).1 (xbbe (qb4 48 t cb k).1).2.1=true then((xbbe (qb4 48 t cb k).1).1,(xbbe (qb4 48 t cb k).1).2.1,0) else([],[],1):=by
  unfold qes
  rw[if_neg (fun h'=>h' h),hn]
 have bad: ¬((qb4 48 t cb k).2=0/\(xbbe (qb4 48 t cb k).1).2.2=true/\qs7 (xbbe (qb4 48 t cb k).1).1 (xbbe (qb4 48 t cb k).1).2.1=true)->some (Out.ret [.cl (.agg [.sli .i64 [],.slg 1 []]),.cl (.int .i64 1)] [])=some (.ret [.cl (.agg [.sli .i64 (qes b).1,.slg 1 (qes b).2.1]),.cl (.int .i64 (qes b).2.2)] []):=fun h=>by rw[hC,if_neg h]
 obtain⟨gz,h1,h2,_⟩:=q5m hLg
 have hs: ∀c∈k,gz c<=6000:=fun c hc=>by have:=q0s (g:=gz) hc;omega
 refine qam (qbz (by have:=(qg5 hS).2;show k.length<=_;omega)) (qay (fun h3=>bad fun h'=>h3 h'.1) fun h3=>qay (fun h4=>bad fun h'=> ?_) fun h4=> ?_)
 ·have h5:=h'.2.1
  unfold xbbe at h5
  rw[if_pos h4] at h5
  cases h5
 have h3:(qb4 48 t cb k).2=0:=h3
 have hk:=qlf h3
 have h4:(((qb4 48 t cb k).1.length:Nat):Int)=3:=h4
 rw[hk] at h4 bad hC
 obtain⟨x,y,z,rfl⟩:=len3 (show k.length=3 by omega)
 have hx:=h1 x (by simp)
 have hy:=h1 y (by simp)
 have hz:=h1 z (by simp)
 obtain⟨t1,b1,k1,rfl⟩:=xbgc hx
 obtain⟨t2,b2,k2,rfl⟩:=xbgc hy
 obtain⟨t3,b3,k3,rfl⟩:=xbgc hz
 rw[xb2j] at bad hC
 rw[hk]
 have S1:=xbfo hx (by have:=hs _ (show qcr t1 b1 k1∈[qcr t1 b1 k1,qcr t2 b2 k2,qcr t3 b3 k3] by simp);omega)
 have S2:=xbfo hy (by have:=hs _ (show qcr t2 b2 k2∈[qcr t1 b1 k1,qcr t2 b2 k2,qcr t3 b3 k3] by simp);omega)
 have S3:=xbfo hz (by have:=hs _ (show qcr t3 b3 k3∈[qcr t1 b1 k1,qcr t2 b2 k2,qcr t3 b3 k3] by simp);omega)
 have R3:recO (qdw qeq 48 t3 b3 k3)=true:=xbh5 (hs _ (by simp)) hz
 have bad2: ¬(((qdm t1 b1 k1).2=0/\(qdm t1 b1 k1).1=1)/\qg9 algV 48 t2 b2 k2=true/\qg9 qeq 48 t3 b3 k3=true/\qs7 (qdw algV 48 t2 b2 k2) (qdw qeq 48 t3 b3 k3)=true)->some (Out.ret [.cl (.agg [.sli .i64 [],.slg 1 []]),.cl (.int .i64 1)] [])=some (.ret [.cl (.agg [.sli .i64 (qes b).1,.slg 1 (qes b).2.1]),.cl (.int .i64 (qes b).2.2)] []):=fun h=>bad fun h'=>h (by
  obtain⟨_,h5,h6⟩:=h'
  simp only[zab,decide_eq_true_eq] at h5
  exact⟨h5.1,h5.2.1,h5.2.2,h6⟩)
 refine qan (by simp) (xbzr (x:=qcr t1 b1 k1) rfl (qam rfl (qam S1 (qan (by simp) (xbzr (x:=qcr t2 b2 k2) rfl (qam rfl (qam S2 (qan (by simp) (xbzr (x:=qcr t3 b3 k3) rfl (qam rfl (qam S3 ?_)))))))))))
 refine qay (fun h5=>bad2 fun h'=>h5 h'.1.1) fun h5=>qay (fun h6=>bad2 fun h'=>h6 h'.1.2) fun h6=>qff (fun h7=>bad2 fun h'=> ?_) fun h7=>qff (fun h8=>bad2 fun h'=> ?_) fun h8=>qam ?_ (qff (fun h9=>bad2 fun h'=> ?_) fun h9=> ?_)
 ·have h7:qg9 algV 48 t2 b2 k2=false:=h7
  rw[h'.2.1] at h7;cases h7
 ·have h8:qg9 qeq 48 t3 b3 k3=false:=h8
  rw[h'.2.2.1] at h8;cases h8
 ·show(qgv (qdw algV 48 t2 b2 k2)&&recO (qdw qeq 48 t3 b3 k3))=true
  rw[R3,qrx (by have:=@xbib _ algV 48 t2 b2 k2;have:=(qg5 S2).2;omega)]
  rfl
 ·have h9:qs7 (qdw algV 48 t2 b2 k2) (qdw qeq 48 t3 b3 k3)=false:=h9
  rw[h'.2.2.2] at h9;cases h9
 ·have h5:(qdm t1 b1 k1).2=0:=h5
  have h6:(qdm t1 b1 k1).1=1:=h6
  have h7:qg9 algV 48 t2 b2 k2=true:=h7
  have h8:qg9 qeq 48 t3 b3 k3=true:=h8
  have h9:qs7 (qdw algV 48 t2 b2 k2) (qdw qeq 48 t3 b3 k3)=true:=h9
  rw[hC,if_pos]
  refine⟨h3, ?_,h9⟩
  show((decide ((qdm t1 b1 k1).2=0)&&decide ((qdm t1 b1 k1).1=1))&&(qg9 algV 48 t2 b2 k2&&qg9 qeq 48 t3 b3 k3))=true
  rw[decide_eq_true h5,decide_eq_true h6,h7,h8]
  rfl
open IntWalk (i64_in u8_in u32_in u64_in i64_quo u8_quo rem_in)
theorem q7i (a b:List Int):qcj a b=pD (a=b):=by rw[xbmu,xbqw]
theorem xbvz (F:CV->Int->Int) (l:List CV) (L:Nat->Int->Int->Option Out) (fin:Int->Option Out) (hF: ∀c∈l, ∀x,0<=x->x<=30000->F c x<=x - 1)
  (hstep: ∀(n i:Nat) (x:Int) (c:CV),l[i]? =some c->i<l.length->i<=30000->0<=x->x<=30000->L (n+1) i x=L n ((i+1:Nat):Int) (F c x))
  (hneg: ∀(n i:Nat) (x:Int),i<l.length->x<0->L (n+1) i x=fin x) (hend: ∀(n:Nat) (x:Int),L (n+1) (l.length:Int) x=fin x):
  ∀(fuel i:Nat) (x:Int),i<=l.length->(i:Int)+x<=30000->30003<fuel+i->i<=30002->L fuel (i:Int) x=fin (qo7 F (l.drop i) x)
 | 0,i,x,hi,hx,hf,hb=>by omega
 | fuel+1,i,x,hi,hx,hf,hb=>by
  rcases zbz i l.length with h|h
  ·obtain⟨c,hc⟩: ∃c,l[i]? =some c:=⟨_,zaf h⟩
   rw[qhu hc]
   by_cases h0:x<0
   ·rw[hneg fuel i x h h0]
    show fin x=fin (if x<0 then x else _)
    rw[if_pos h0]
   ·have:=hF c (zae hc) x (by omega) (by omega)
    rw[hstep fuel i x c hc h (by omega) (by omega) (by omega),xbvz F l L fin hF hstep hneg hend fuel (i+1) (F c x) h (by omega) (by omega) (by omega)]
    show _=fin (if x<0 then x else _)
    rw[if_neg h0]
  ·obtain rfl:i=l.length:=by omega
   rw[hend,zdi]
   rfl
theorem xbzx {F:CV->Int->Int}: ∀ {l:List CV} {x:Int},(∀c∈l, ∀x,0<=x->x<=30000-> -2000000<=F c x/\F c x<=x - 1)-> -2000000<=x->x<=30000-> -2000000<=qo7 F l x/\qo7 F l x<=x
 | [],x,_,h1,h2=>⟨h1,Int.le_refl _⟩
 | c::r,x,h,h1,h2=>by
  show -2000000<=(if x<0 then x else qo7 F r (F c x))/\(if x<0 then x else qo7 F r (F c x))<=x
  split
  ·exact⟨h1,Int.le_refl _⟩
  ·have hc:=h c (by simp) x (by omega) h2
   have:=xbzx (l:=r) (fun c hc=>h c (by simp[hc])) hc.1 (by omega)
   exact⟨this.1,by omega⟩
theorem xbbb {F:CV->Int->Int} {sz:CV->Nat}: ∀ {l:List CV} {x:Int},(∀c∈l, ∀x,x<=30000->0<=F c x->F c x=x - sz c)->(∀c∈l, ∀x,0<=x->x<=30000->F c x<=x - 1)->x<=30000->0<=qo7 F l x->qo7 F l x=x - (l.map sz).sum
 | [],x,_,_,_,_=>by show x=x - 0;omega
 | c::r,x,h,hF,hx,h0=>by
  replace h0:0<=(if x<0 then x else qo7 F r (F c x)):=h0
  show(if x<0 then x else qo7 F r (F c x))=_
  split at h0
  ·omega
  ·rename_i hx0
   rw[if_neg hx0]
   have h1:=hF c (by simp) x (by omega) hx
   have ih:=xbbb (l:=r) (x:=F c x) (fun c hc=>h c (by simp[hc])) (fun c hc=>hF c (by simp[hc])) (by omega) h0
   have hz:0<=F c x:=by
    rcases r with _|⟨a,r'⟩
    ·exact h0
    ·replace h0:0<=(if F c x<0 then F c x else qo7 F r' (F a (F c x))):=h0
     split at h0<;>omega
   rw[ih,h c (by simp) x hx hz]
   simp only[zbi,zb7]
   omega
theorem xbrv (c:CV) (x:Int) (h0:0<=x) (h1:x<=30000): -2000000<=rowS c x/\rowS c x<=x - 1:=by unfold rowS;omega
theorem xbch (c:CV) (x:Int) (h0:0<=x) (h1:x<=30000): -2000000<=q8m c x/\q8m c x<=x - 1:=by
 unfold q8m
 have:=xbzx (l:=qbm c) (x:=x - 1) (fun c _ x=>xbrv c x) (by omega) (by omega)
 exact this
theorem xbdu (c:CV) (x:Int) (h0:0<=x) (h1:x<=30000): -2000000<=q8l c x/\q8l c x<=x - 1:=by
 unfold q8l
 have:=xbzx (l:=mT c) (x:=x - 2 - min ((mW c).length:Int) 1048576) (fun c _ x=>xbch c x) (by omega) (by omega)
 omega
theorem xbbl (c:CV) (x:Int) (h0:0<=x) (h1:x<=30000): -2000000<=qvs c x/\qvs c x<=x - 1:=by
 unfold qvs
 have:=xbzx (l:=qbm c) (x:=x - 1) (fun c _ x=>xbdu c x) (by omega) (by omega)
 exact this
open IntWalk (i64_in u8_in u32_in u64_in i64_quo u8_quo rem_in)
theorem q90 {n:Int} (h:qzj n=true):0<=n/\n<=30000:=by unfold qzj at h;rw[qab] at h;exact of_decide_eq_true h
theorem q9l {n:Int} (h:0<=n/\n<=30000):qzj n=true:=by unfold qzj;rw[qab];exact decide_eq_true h
theorem q2s (n:Nat) (m:Int):cond (decide (m<(n:Int))) m (n:Int)=min (n:Int) m:=by
 by_cases h:m<(n:Int)
 ·rw[decide_eq_true h,cond_true];omega
 ·rw[decide_eq_false h,cond_false];omega
theorem xb5m (K0:Int->Int->Int->Int->List Int->List CV->Int->List CV->List Int->Option Out) (y1 y2:Int) (k:Nat) (g:List Int) (c:List CV) (d:Int) (t:List CV) (w:List Int) (row:List CV) (ht:t[k]? =some (.slg 1 row)) (hr:xbzw row) (x:Int) (h1: -2000000<=x) (h2:x<=30000):
  qcy K0 FUEL x y1 y2 k 0 g c d t w=K0 (qo7 rowS row x) y1 y2 k g c d t w:=by
 refine(xbvz rowS row (fun n i x=>qcy K0 n x y1 y2 k i g c d t w) (fun x=>K0 x y1 y2 k g c d t w) (fun c _ x h0 h1=>(xbrv c x h0 h1).2) (fun n i x z hz hi hi2 h0 h3=> ?_) (fun n i x hi h0=> ?_) (fun n x=> ?_) FUEL 0 x (zbc _) (by omega) (by unfold FUEL;omega) (by omega)).trans rfl
 ·obtain⟨b,rfl,hb⟩:=hr _ (zae hz)
  show qc7 (qcy K0 n) K0 x y1 y2 k i g c d t w=_
  unfold qc7
  simp only[q2s]
  refine qa4 (by omega) ht (qam rfl (qan (show(i:Int)<(row.length:Int) by omega) (qan h0 (qa4 (by omega) ht (qam rfl (qa4 (by omega) hz (qam rfl ?_)))))))
  show qcy K0 n (IntKind.i64.wrap (IntKind.i64.wrap (x - 1) - min (b.length:Int) 1048576)) y1 y2 k (IntKind.i64.wrap ((i:Int)+1)) g c d t w=_
  rw[i64_in (x - 1) (by omega),i64_in (x - 1 - min (b.length:Int) 1048576) (by omega),i64_in ((i:Int)+1) (by omega)]
  rfl
 ·show qc7 (qcy K0 n) K0 x y1 y2 k i g c d t w=_
  unfold qc7
  exact qa4 (by omega) ht (qam rfl (qan (show(i:Int)<(row.length:Int) by omega) (qb6 (by omega) rfl)))
 ·show qc7 (qcy K0 n) K0 x y1 y2 k row.length g c d t w=_
  unfold qc7
  exact qa4 (by omega) ht (qam rfl (qb6 (show ¬(row.length:Int)<(row.length:Int) by omega) rfl))
theorem xb47 (K0:Int->Int->Int->List Int->List CV->Option Out) (y1 y2:Int) (g:List Int) (c:List CV) (d:Int) (t:List CV) (w:List Int) (ht:xbzp t) (x:Int) (h1: -2000000<=x) (h2:x<=30000):
  qck K0 FUEL x y1 y2 0 g c d t w=K0 (qo7 q8m t x) y1 y2 g c:=by
 refine(xbvz q8m t (fun n i x=>qck K0 n x y1 y2 i g c d t w) (fun x=>K0 x y1 y2 g c) (fun c _ x h0 h1=>(xbch c x h0 h1).2) (fun n i x z hz hi hi2 h0 h3=> ?_) (fun n i x hi h0=> ?_) (fun n x=> ?_) FUEL 0 x (zbc _) (by omega) (by unfold FUEL;omega) (by omega)).trans rfl
 ·obtain⟨row,rfl,hr⟩:=ht _ (zae hz)
  show qc1 (qck K0 n) K0 x y1 y2 i g c d t w=_
  unfold qc1
  simp only[qab]
  rw[i64_in (x - 1) (by omega),xb5m _ y1 y2 i g c d t w row hz hr (x - 1) (by omega) (by omega)]
  refine qan (show(i:Int)<(t.length:Int) by omega) (qan h0 ?_)
  show qck K0 n (qo7 rowS row (x - 1)) y1 y2 (IntKind.i64.wrap ((i:Int)+1)) g c d t w=_
  rw[i64_in ((i:Int)+1) (by omega)]
  rfl
 ·show qc1 (qck K0 n) K0 x y1 y2 i g c d t w=_
  unfold qc1
  exact qan (show(i:Int)<(t.length:Int) by omega) (qb6 (by omega) rfl)
 ·show qc1 (qck K0 n) K0 x y1 y2 t.length g c d t w=_
  unfold qc1
  exact qb6 (show ¬(t.length:Int)<(t.length:Int) by omega) rfl
theorem lpS7 (K0:Int->Int->List Int->List CV->Option Out) (k:Nat) (g:List Int) (c m:List CV) (hm:c[k]? =some (.slg 3 m)) (hmm:q6u m) (x:Int) (h1: -2000000<=x) (h2:x<=30000):
  qd2 K0 FUEL x k 0 g c=K0 (qo7 q8l m x) k g c:=by
 refine(xbvz q8l m (fun n i x=>qd2 K0 n x k i g c) (fun x=>K0 x k g c) (fun c _ x h0 h1=>(xbdu c x h0 h1).2) (fun n i x z hz hi hi2 h0 h3=> ?_) (fun n i x hi h0=> ?_) (fun n x=> ?_) FUEL 0 x (zbc _) (by omega) (by unfold FUEL;omega) (by omega)).trans rfl
 ·obtain⟨d,t,w,rfl,ht,hw⟩:=hmm _ (zae hz)
  show qdy (qd2 K0 n) K0 x k i g c=_
  unfold qdy
  simp only[q2s,qab]
  refine qa4 (by omega) hm (qam rfl (qan (show(i:Int)<(m.length:Int) by omega) (qan h0 (qa4 (by omega) hm (qam rfl (qa4 (by omega) hz (qam rfl ?_)))))))
  show qck (fun y20 y21 y22 y23 y24=>qd2 K0 n y20 y21 (IntKind.i64.wrap (y22+1)) y23 y24) FUEL (IntKind.i64.wrap (IntKind.i64.wrap (x - 2) - min (w.length:Int) 1048576)) k i 0 g c d t w=_
  rw[i64_in (x - 2) (by omega),i64_in (x - 2 - min (w.length:Int) 1048576) (by omega),xb47 _ k i g c d t w ht _ (by omega) (by omega),i64_in ((i:Int)+1) (by omega)]
  rfl
 ·show qdy (qd2 K0 n) K0 x k i g c=_
  unfold qdy
  exact qa4 (by omega) hm (qam rfl (qan (show(i:Int)<(m.length:Int) by omega) (qb6 (by omega) rfl)))
 ·show qdy (qd2 K0 n) K0 x k m.length g c=_
  unfold qdy
  exact qa4 (by omega) hm (qam rfl (qb6 (show ¬(m.length:Int)<(m.length:Int) by omega) rfl))
theorem lpS3 (K0:Int->Option Out) (g:List Int) (c:List CV) (hc:qo6 c) (x:Int) (h1: -2000000<=x) (h2:x<=30000):qd5 K0 FUEL x 0 g c=K0 (qo7 qvs c x):=by
 refine(xbvz qvs c (fun n i x=>qd5 K0 n x i g c) (fun x=>K0 x) (fun c _ x h0 h1=>(xbbl c x h0 h1).2) (fun n i x z hz hi hi2 h0 h3=> ?_) (fun n i x hi h0=> ?_) (fun n x=> ?_) FUEL 0 x (zbc _) (by omega) (by unfold FUEL;omega) (by omega)).trans rfl
 ·obtain⟨m,rfl,hm⟩:=hc _ (zae hz)
  show qdr (qd5 K0 n) K0 x i g c=_
  unfold qdr
  simp only[qab]
  rw[i64_in (x - 1) (by omega),lpS7 _ i g c m hz hm (x - 1) (by omega) (by omega)]
  refine qan (show(i:Int)<(c.length:Int) by omega) (qan h0 ?_)
  show qd5 K0 n (qo7 q8l m (x - 1)) (IntKind.i64.wrap ((i:Int)+1)) g c=_
  rw[i64_in ((i:Int)+1) (by omega)]
  rfl
 ·show qdr (qd5 K0 n) K0 x i g c=_
  unfold qdr
  exact qan (show(i:Int)<(c.length:Int) by omega) (qb6 (by omega) rfl)
 ·show qdr (qd5 K0 n) K0 x c.length g c=_
  unfold qdr
  exact qb6 (show ¬(c.length:Int)<(c.length:Int) by omega) rfl
theorem qur {g:List Int} {l:List CV} (h:recT g l=true):g.length<=1000000000000000/\l.length<=1000000000000000/\qo6 l:=by unfold recT at h;rw[qab] at h;exact @of_decide_eq_true _ (Classical.propDecidable _) h
theorem xbji {g:List Int} {l:List CV} (h:g.length<=1000000000000000/\l.length<=1000000000000000/\qo6 l):recT g l=true:=by unfold recT;rw[qab];exact @decide_eq_true _ (Classical.propDecidable _) h
theorem q1r {l:List CV} (h:qsf l=true):q6u l:=by unfold qsf at h;rw[qab] at h;exact @of_decide_eq_true _ (Classical.propDecidable _) h
theorem qyz (g:List Int) (c:List CV) (n:Int):qjz g c n=qo7 qvs c (n - min (g.length:Int) 1000):=by unfold qjz;rw[qab]
theorem xbqg (g:List Int) (c:List CV) (n:Int) (hp:(recT g c&&qzj n)=true):q8y g c n=some (.ret [.cl (.int .i64 (qjz g c n))] []):=by
 rw[zab] at hp
 obtain⟨_,_,hc⟩:=qur hp.1
 have hn:=q90 hp.2
 unfold q8y
 rw[qyz]
 simp only[q2s,qab]
 rw[i64_in (n - min (g.length:Int) 1000) (by omega)]
 exact lpS3 _ g c hc _ (by omega) (by omega)
theorem xbar (g:List Int) (c:List CV):xbry g c=(c.all (fun x=>decide ((qbm x).length<=25))&&(decide (c.length<=12)&&decide (0<=qjz g c 6000))):=by unfold xbry;rw[qab]
theorem xbvh (K0:Option Out) (K1:List Int->List CV->Option Out) (g:List Int) (c:List CV) (hl:c.length<=1000000000000000) (hc:qo6 c): ∀(fuel i:Nat),i<=c.length->c.length<fuel+i->qjy K0 K1 fuel c (c.length:Int) i g c=cond ((c.drop i).all fun x=>decide ((qbm x).length<=25)) (K1 g c) K0
 | 0,i,hi,hf=>by omega
 | fuel+1,i,hi,hf=>by
  show qni (qjy K0 K1 fuel) K0 K1 c (c.length:Int) i g c=_
  unfold qni
  rcases zbz i c.length with h|h
  ·obtain⟨x,hx⟩: ∃x,c[i]? =some x:=⟨_,zaf h⟩
   obtain⟨m,rfl,hm⟩:=hc _ (zae hx)
   rw[qhu hx,zcl]
   refine qan (by omega) (qa4 (by omega) hx (qam rfl (qae (fun h1=> ?_) fun h1=> ?_)))
   ·have h1:(25:Int)<(m.length:Int):=h1
    rw[decide_eq_false (show ¬(qbm (.slg 3 m)).length<=25 by show ¬m.length<=25;omega)]
    rfl
   ·have h1: ¬(25:Int)<(m.length:Int):=h1
    rw[decide_eq_true (show(qbm (.slg 3 m)).length<=25 by show m.length<=25;omega),zbm]
    show qjy K0 K1 fuel c (c.length:Int) (IntKind.i64.wrap ((i:Int)+1)) g c=_
    rw[i64_in ((i:Int)+1) (by omega)]
    exact xbvh K0 K1 g c hl hc fuel (i+1) h (by omega)
  ·obtain rfl:i=c.length:=by omega
   rw[zdi]
   exact qb6 (by omega) rfl
theorem xbxz (g:List Int) (c:List CV) (hp:recT g c=true):xbkm g c=some (.ret [.cl (.bool (xbry g c))] []):=by
 obtain⟨_,hl,hc⟩:=qur hp
 unfold xbkm
 rw[qab,xbar]
 refine(xbvh _ _ g c hl hc FUEL 0 (zbc _) (by unfold FUEL;omega)).trans ?_
 rw[zbn]
 refine qcz (fun h=> ?_) fun h=> ?_
 ·rw[h]
  refine qae (fun h2=>qam (by rw[hp,q9l (by omega)];rfl) ?_) fun h2=> ?_
  ·rw[decide_eq_true (show c.length<=12 by omega)];rfl
  ·rw[decide_eq_false (show ¬c.length<=12 by omega)];rfl
 ·rw[h];rfl
theorem xbqo {c:CV} (hc: ∃l,c=.slg 1 l/\xbzw l) (x:Int) (hx:x<=30000) (h:0<=q8m c x):q8m c x=x - (1+qz3 (qbm c):Nat):=by
 unfold q8m at h ⊢
 rw[xbbb (sz:=fun c=>1+(qb7 c).length) (fun c _ x hx h=>by unfold rowS at h ⊢;omega) (fun c _ x h0 h1=>(xbrv c x h0 h1).2) (by omega) h]
 have:qz3 (qbm c)=((qbm c).map fun c=>1+(qb7 c).length).sum:=rfl
 omega
theorem xbl2 {c:CV} (x:Int) (hx:x<=30000) (hc: ∃d t w,c=xbd3 d t w/\xbzp t/\∀x∈w,0<=x/\x<=255) (h:0<=q8l c x):q8l c x=x - (2+(mW c).length+qs9 (mT c):Nat):=by
 obtain⟨d,t,w,rfl,ht, -⟩:=hc
 replace h:0<=qo7 q8m t (x - 2 - min (w.length:Int) 1048576):=h
 show qo7 q8m t (x - 2 - min (w.length:Int) 1048576)=x - ((2+w.length+qs9 t:Nat):Int)
 have e:qs9 t=(t.map fun c=>1+qz3 (qbm c)).sum:=rfl
 have hs:=xbbb (sz:=fun c=>1+qz3 (qbm c)) (F:=q8m) (l:=t) (fun c hc x hx h=>xbqo (ht c hc) x hx h) (fun c _ x h0 h1=>(xbch c x h0 h1).2) (by omega) h
 omega
theorem xbg5 {c:CV} (hc: ∃m,c=.slg 3 m/\q6u m) (x:Int) (hx:x<=30000) (h:0<=qvs c x):qvs c x=x - (1+qgl (qbm c):Nat):=by
 obtain⟨m,rfl,hm⟩:=hc
 replace h:0<=qo7 q8l m (x - 1):=h
 show qo7 q8l m (x - 1)=x - ((1+qgl m:Nat):Int)
 have hs:=xbbb (sz:=fun c=>2+(mW c).length+qs9 (mT c)) (F:=q8l) (l:=m) (fun c hc x hx h=>xbl2 x hx (hm c hc) h) (fun c _ x h0 h1=>(xbdu c x h0 h1).2) (by omega) h
 have:qgl m=(m.map fun c=>2+(mW c).length+qs9 (mT c)).sum:=rfl
 omega
theorem q3q {g:List Int} {c:List CV} (hc:qo6 c) (h:0<=qjz g c 6000):qcu c<=6000:=by
 rw[qyz] at h
 have:=xbbb (sz:=fun c=>1+qgl (qbm c)) (fun c' hc' x hx h=>xbg5 (hc c' hc') x hx h) (fun c _ x h0 h1=>(xbbl c x h0 h1).2) (by omega) h
 have e:qcu c=(c.map fun c=>1+qgl (qbm c)).sum:=rfl
 omega
theorem q41 {c:List CV} (hc:qo6 c) (h:qcu c<=6000):qdj c:=by
 have hl:=qm7 (l:=c) (sz:=fun c=>1+qgl (qbm c)) fun y=>by omega
 have e:qcu c=(c.map fun c=>1+qgl (qbm c)).sum:=rfl
 refine⟨by omega,fun x hx=> ?_⟩
 obtain⟨m,rfl,hm⟩:=hc x hx
 have h1:=q0s (g:=fun c=>1+qgl (qbm c)) hx
 have h1:1+qgl m<=_:=h1
 have e2:qgl m=(m.map fun c=>2+(mW c).length+qs9 (mT c)).sum:=rfl
 have hl2:=qm7 (l:=m) (sz:=fun c=>2+(mW c).length+qs9 (mT c)) fun y=>by omega
 refine⟨m,rfl,by omega,fun y hy=> ?_⟩
 obtain⟨d,t,w,rfl,ht,hw⟩:=hm y hy
 have h3:=q0s (g:=fun c=>2+(mW c).length+qs9 (mT c)) hy
 have h3:2+w.length+qs9 t<=_:=h3
 have e3:qs9 t=(t.map fun c=>1+qz3 (qbm c)).sum:=rfl
 have hl3:=qm7 (l:=t) (sz:=fun c=>1+qz3 (qbm c)) fun y=>by omega
 refine⟨d,t,w,rfl,⟨by omega,fun z hz=> ?_⟩,qc2 (by omega) hw⟩
 obtain⟨l,rfl,hr⟩:=ht z hz
 have h4:=q0s (g:=fun c=>1+qz3 (qbm c)) hz
 have h4:1+qz3 l<=_:=h4
 have e4:qz3 l=(l.map fun c=>1+(qb7 c).length).sum:=rfl
 have hl4:=qm7 (l:=l) (sz:=fun c=>1+(qb7 c).length) fun y=>by omega
 refine⟨l,rfl,by omega,fun u hu=> ?_⟩
 obtain⟨b,rfl,hb⟩:=hr u hu
 have h5:=q0s (g:=fun c=>1+(qb7 c).length) hu
 have h5:1+b.length<=_:=h5
 exact⟨b,rfl,qc2 (by omega) hb⟩
theorem xbxx {g:List Int} {c:List CV} (h:recT g c=true) (hf:xbry g c=true):qgv g=true/\qdj c/\qcu c<=6000:=by
 obtain⟨h1,h2,h3⟩:=qur h
 rw[xbar] at hf
 simp only[zab,decide_eq_true_eq] at hf
 have:=q3q h3 hf.2.2
 exact⟨qrx h1,q41 h3 this,this⟩
theorem q4t:(qa9 []).2=1:=by unfold qa9;rw[qab];rfl
theorem xbu4:(qgv []&&recO [])=true:=by rw[q36 ⟨⟨by simp,by simp⟩,by decide⟩,qrx (by simp)];rfl
theorem xby0 (hp:true=true):xbk2=some (.ret [.cl (.bool true)] []):=by
 unfold xbk2
 rw[qzp,qrj]
 have e:qes []=([],[],1):=by unfold qes;rw[if_pos (by rw[q4t];omega),q4t]
 have e2:qs7 [] []=false:=rfl
 rw[e,e2]
 exact qam (by rw[qc2 (by simp) (by simp)];unfold b6k;rw[qab];rfl) (qam xbu4 rfl)
open IntWalk (i64_in u8_in u32_in u64_in i64_quo u8_quo rem_in)
theorem xbws (g:Int) (b:List Int) (hp:qc6 b=true):xbj3 g b=some (.ret [.cl (.agg [.int .i64 (qbt g b).1,.sli .u8 qa0,.slg 3 (qbt g b).2.1]),.cl (.int .i64 (qbt g b).2.2)] []):=by
 obtain⟨i1,i2⟩:=qvm g
 have hid:idOk (qat g).2.2=true:=q5x (by omega) i2
 have h16:q67 16=true:=by unfold q67;exact decide_eq_true (by omega)
 unfold xbj3 qbt
 simp only[qlg,qab,qdf,qbo]
 unfold qh3
 refine qae (fun h=> ?_) fun h=>qae (fun h6=>qay (fun h'=> ?_) fun h'=>qam hid (qam hp (qam (qbz (by simp)) ?_))) fun h6=>qae (fun h7=>qay (fun h'=> ?_) fun h'=>qam hid (qam hp (qam h16 (qam (qbz (by simp)) (qam (qbz (by simp)) ?_))))) fun h7=>qay (fun h'=> ?_) fun h'=>qam hid (qam (qbz (by simp)) ?_)
 ·rw[if_pos h]
 ·rw[if_neg h,if_pos (by rw[h6];exact h')]
 ·rw[if_neg h,if_neg (by rw[h6];exact fun x=>x h'),if_pos h6]
  rfl
 ·rw[if_neg h,if_pos (by rw[h7];exact h')]
 ·rw[if_neg h,if_neg (by rw[h7];exact fun x=>x h'),if_neg h6,if_pos h7]
  rfl
 ·rw[if_neg h,if_pos (by unfold qg6;rw[if_neg h6,if_neg h7];exact h')]
 ·rw[if_neg h,if_neg (by unfold qg6;rw[if_neg h6,if_neg h7];exact fun x=>x h'),if_neg h6,if_neg h7]
  rfl
theorem xbb4 {a:List CV} (h:isS a=true):qc6 (qbq a).1=true:=by
 obtain⟨n,hn,hb⟩:=qdl h
 have:=qit hn
 rw[qf1 hn]
 split
 ·exact qf9 (by show(qai n a).1.length<=_;omega)
 ·exact qf9 (by simp)
theorem xbg0 {g:List Int} {c:List CV} (n:Int) (hc:qdj c) (hn:qcu c<=12100):qc6 (qxr g c n).1=true:=by
 rw[qv3]
 unfold q6c
 split
 ·exact qf9 (by simp)
 ·split
  ·exact qf9 (by simp)
  ·exact xbb4 (qzb (qn8 hc _) (by have:qcu (c.take n.toNat)<=qcu c:=q0j _ _;omega))
theorem xbnv {c:List CV} (hc:qdj c):(qrw c).length<=100000000:=by
 rw[ql5]
 have h1:(qf5 c).length<=0+(c.flatMap fun c=>q7e (qbm c)).length:=qjw
 have h2:(c.flatMap fun c=>q7e (qbm c)).length<=c.length*10000:=qx2 fun x hx=>by
  have:=qmo hc x hx
  show((qbm x).map mD).length<=10000
  rw[zav]
  exact this
 have:=hc.1
 omega
theorem xbja: ∀ {n d:Nat} {x:List CV},isTf n x=true->okF n d x=true->okF n (d+1) x=true
 | n,0,x,h,ho=>by
  obtain⟨m,t,b,k,rfl,rfl,_,_⟩:=qcx h
  cases ho
 | n,d+1,x,h,ho=>by
  obtain⟨m,t,b,k,rfl,rfl,_,hk⟩:=qcx h
  replace ho:(qa5 t&&(if qap t=true then decide (b=[])&&k.all fun c=>okF m d (cell1 c) else decide (k=[])&&qbh t b))=true:=ho
  show(qa5 t&&(if qap t=true then decide (b=[])&&k.all fun c=>okF m (d+1) (cell1 c) else decide (k=[])&&qbh t b))=true
  rw[zab] at ho ⊢
  refine⟨ho.1, ?_⟩
  have ho:=ho.2
  split at ho
  ·rename_i hb
   rw[if_pos hb]
   rw[zab,zai] at ho ⊢
   refine⟨ho.1,fun c hc=> ?_⟩
   obtain⟨y,rfl,hy⟩:=hk c hc
   exact xbja hy (ho.2 _ hc)
  ·rename_i hb
   rw[if_neg hb]
   exact ho
theorem xbkr {n:Nat} {l:List CV} (h:(qai (n+1) [.int .i64 48,.sli .u8 [],.slg 3 l]).2=true): ∀c∈l,(qai n (cell1 c)).2=true:=fun c hc=>by
 have e:(qai (n+1) [.int .i64 48,.sli .u8 [],.slg 3 l]).2=((l.map fun c=>qai n (cell1 c)).all (·.2)&&(!(decide ((48:Int)=49))|| qa2 ((l.map fun c=>qai n (cell1 c)).map (·.1)))):=rfl
 rw[e,zab,zai] at h
 exact h.1 _ (List.mem_map_of_mem hc)
theorem xbjp {n d:Nat} {l:List CV} (h:okF (n+1) (d+1) [.int .i64 48,.sli .u8 [],.slg 3 l]=true): ∀c∈l,okF n d (cell1 c)=true:=by
 rcases qpx h with⟨_,_,h⟩|⟨h,_⟩
 ·exact h
 ·exact absurd rfl h
theorem q9n {g:List Int} {c:List CV} {n:Int} (hc:qdj c) (hn:qcu c<=12100) (h:qs7 g c=true) (h1: ¬n<1) (h2: ¬(c.length:Int)<n):(qbq [.int .i64 48,.sli .u8 [],.slg 3 (evL qci 1 10 (c.take n.toNat))]).2=0:=by
 have hm:=xbxc h
 obtain⟨m,hm1,hm2⟩:=qdl (xbrm hc hn hm)
 rw[q0r hm,q0h hm1] at h
 obtain⟨o1,y1⟩:=of_decide_eq_true h
 obtain⟨m1,t1,b1,k1,rfl,e1,_,hk1⟩:=qcx hm1
 simp only[zch,CV.int.injEq,CV.sli.injEq,CV.slg.injEq,and_true,true_and] at e1
 obtain⟨rfl,rfl,rfl⟩:=e1
 have hin:(qcr 48 [] (evL qci 1 10 c))∈q1l g c:=by unfold q1l;simp
 have o2:=xbjp o1 _ hin
 have y2:=xbkr y1 _ hin
 obtain⟨z,e2,hz⟩:=hk1 _ hin
 cases e2
 obtain⟨m2,t2,b2,k2,rfl,e2,_,hk2⟩:=qcx hz
 simp only[zch,CV.int.injEq,CV.sli.injEq,CV.slg.injEq,and_true,true_and] at e2
 obtain⟨rfl,rfl,rfl⟩:=e2
 have o3:=xbjp o2
 have y3:=xbkr y2
 have hb:=(qfj.1 hm).1
 have sub: ∀x∈evL qci 1 10 (c.take n.toNat),x∈evL qci 1 10 c:=fun x hx=>by
  rw[(qzn (xb0p hb h1 h2)).1] at hx
  rw[(qzn hb).1]
  obtain⟨u,hu,hu2⟩:=zdm.1 hx
  exact zdm.2 ⟨u,za9 hu,hu2⟩
 have ht:isTf (m2+1) [.int .i64 48,.sli .u8 [],.slg 3 (evL qci 1 10 (c.take n.toNat))]=true:=xbs7 (by simp) fun x hx=>hk2 x (sub x hx)
 rw[qf1 ht,if_pos]
 refine⟨xbst (d:=31) rfl rfl fun x hx=> ?_,xbta rfl (by omega) fun x hx=>y3 x (sub x hx)⟩
 obtain⟨z,rfl,hz⟩:=hk2 x (sub x hx)
 exact xbja hz (o3 _ (sub _ hx))
theorem xbc0 {g:List Int} {c:List CV} {l9:List CV} {g9:List Int} {k:Int} (io:(qgv g&&recO c)=true) (io2:(qgv g9&&recO l9)=true) (c1:qdj c) (n1:qcu c<=12100) (f2:qs7 g c=true) (f3:qs7 g9 l9=true) (e9: ∃z,l9=c++z) (h1:1<=k) (h2:k<=(c.length:Int)) {X Y Z T:Option Out} (hT:T=some (.ret [.cl (.bool true)] [])):
  cond (qgv g&&recO c) (cond (qgv g9&&recO l9) (cond (decide ((qxr g c k).2=0)) (cond (decide ((qxr g9 l9 k).2=0)) (cond (qc6 (qxr g c k).1) (cond (qcj (qxr g c k).1 (qxr g9 l9 k).1) T X) none) Y) Z) none) none=some (Out.ret [.cl (.bool true)] []):=by
 obtain⟨z,rfl⟩:=e9
 have s1:qxr g c k=qbq [.int .i64 48,.sli .u8 [],.slg 3 (evL qci 1 10 (c.take k.toNat))]:=by
  rw[qv3];unfold q6c
  rw[if_neg (by rw[f2];simp),if_neg (by omega)]
 have s2:qxr g9 (c++z) k=qbq [.int .i64 48,.sli .u8 [],.slg 3 (evL qci 1 10 (c.take k.toNat))]:=by
  rw[qv3];unfold q6c
  rw[if_neg (by rw[f3];simp),if_neg (by simp;omega),List.take_append_of_le_length (by omega)]
 have s0:=q9n c1 n1 f2 (n:=k) (by omega) (by omega)
 refine qam io (qam io2 (qan (by rw[s1];exact s0) (qan (by rw[s2];exact s0) (qam (xbg0 k c1 n1) (qam ?_ hT)))))
 rw[s1,s2,q7i]
 exact q6d.2 rfl
theorem xbu2 (g:List Int) (c:List CV) (l:List CV) (n:Int) (hp:(recT g c&&(qsf l&&u8Ok n))=true):xbea g c l n=some (.ret [.cl (.bool true)] []):=by
 simp only[zab] at hp
 obtain⟨h1,h2,h3⟩:=hp
 have h3:0<=n/\n<=255:=by unfold u8Ok at h3;rw[qab] at h3;exact of_decide_eq_true h3
 have hml:=q1r h2
 have hT:qo6 [.slg 3 l]:=fun x hx=>by
  rw[zdn] at hx
  exact⟨l,hx,hml⟩
 have hrl:recT [] [.slg 3 l]=true:=xbji ⟨by simp,by simp,hT⟩
 unfold xbea
 refine qam h1 (qff (fun _=>rfl) fun f1=> ?_)
 obtain⟨g1,c1,n1⟩:=xbxx h1 f1
 have io:(qgv g&&recO c)=true:=by rw[g1,q36 ⟨c1,by omega⟩];rfl
 refine qam io (qff (fun _=>rfl) fun f2=>qae (fun _=>rfl) fun h4=>qam (by rw[hrl,q9l (by omega)];rfl) (qae (fun _=>rfl) fun h5=> ?_))
 rw[qrj] at f2
 have h5:0<=qjz [] [.slg 3 l] 6000:=by
  have h5: ¬qjz [] [.slg 3 l] 6000<0:=h5
  omega
 have n2:=q3q hT h5
 have c2:=q41 hT n2
 have hb:=(qfj.1 (xbxc f2)).1
 have hlen:=(qoy hb).1
 have hlen2:=(qoy hb).2.1
 have e9:([]++c:List CV)=c:=rfl
 have c3:qdj (c++[.slg 3 l]):=by
  refine⟨by simp;omega,fun x hx=> ?_⟩
  rcases zao.1 hx with hx|hx
  ·exact c1.2 x hx
  ·exact c2.2 x hx
 have n3:qcu (c++[.slg 3 l])<=12100:=by
  have:qcu (c++[.slg 3 l])=qcu c+qcu [.slg 3 l]:=by unfold qcu;rw[List.map_append,List.sum_append]
  omega
 have io2:(qgv (qrw (c++[.slg 3 l]))&&recO (c++[.slg 3 l]))=true:=by
  rw[qrx (by have:=xbnv c3;omega),q36 ⟨c3,n3⟩];rfl
 rw[e9]
 refine qp8 (by omega) (by omega) (qp8 (by simp;omega) (by simp;omega) (qam (qm1 c3) (qam io2 (qff (fun _=>rfl) fun f3=>qb6 (show ¬(c.length:Int)=0 by omega) ?_))))
 rw[qrj] at f3
 have hk:1<=IntKind.i64.wrap (1+Int.tmod (IntKind.i64.wrap n) (c.length:Int))/\IntKind.i64.wrap (1+Int.tmod (IntKind.i64.wrap n) (c.length:Int))<=(c.length:Int):=by
  have e1:IntKind.i64.wrap n=n:=i64_in _ (by omega)
  have e2:0<=Int.tmod n (c.length:Int)/\Int.tmod n (c.length:Int)<(c.length:Int):=by
   rw[zbs h3.1]
   exact⟨Int.emod_nonneg _ (by omega),Int.emod_lt_of_pos _ (by omega)⟩
  rw[e1,i64_in _ (by omega)]
  exact⟨by omega,by omega⟩
 exact xbc0 io io2 c1 (by omega) f2 f3 ⟨_,rfl⟩ hk.1 hk.2 rfl
end Go.Proofs.YtoaakappnhemiaaGreatDoorA
