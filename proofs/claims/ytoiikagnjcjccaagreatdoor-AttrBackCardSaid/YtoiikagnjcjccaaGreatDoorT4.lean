/-
 The attr layer: the library's sort, first steps: comparing, changing places, turning. Conditions: each function's own.
-/
import Derived.Test.YtoiikagnjcjccaaGreatDoorT3b
set_option linter.unusedVariables false
set_option linter.unusedSimpArgs false
set_option maxRecDepth 100000
namespace Go.Proofs.YtoiikagnjcjccaaGreatDoorA
open IntWalk (i64_in u8_in u32_in u64_in i64_quo u8_quo rem_in)
theorem qef(ky:CV->List Int):Ord2 (ltK ky):=by
 have sw:=q1b;have tr:=qpk;have e: ∀a b,ltK ky a b=true↔qav (ky a) (ky b)<0:=fun a b=>decide_eq_true_iff;have n: ∀a b,ltK ky a b=false↔qav (ky b) (ky a)<=0:=fun a b=>by rw[zat,ne_eq,e,sw (ky b) (ky a),Classical.not_not]
 refine {tr:=fun a b c h1 h2=> ?_,ge:=fun a b c h1 h2=> ?_,irr:=fun a b h=> ?_,mix:=fun a b c h1 h2=> ?_}
 ·refine Classical.byContradiction fun h=> ?_;have h:=(n a c).1 (zat.2 h);have h1':=(e a b).1 h1;have h2':=(e b c).1 h2;rw[sw (ky c) (ky b)] at h2';exact h2' (tr _ _ _ h (by omega))
 ·exact(n a c).2 (tr _ _ _ ((n b c).1 h2) ((n a b).1 h1))
 ·have:=(e a b).1 h;exact(n b a).2 (by omega)
 ·refine Classical.byContradiction fun h=> ?_;have h:=(n c a).1 (zat.2 h);have h2':=(e c b).1 h2;rw[sw (ky b) (ky c)] at h2';exact h2' (tr _ _ _ ((n a b).1 h1) h)
theorem qa8{m:Nat}{l:List CV}(h:rows4 m l=true):m=l.length/\l.length<=2000/\∀c∈l,W4A c:=by unfold rows4 at h;rw[qab] at h;exact @of_decide_eq_true _ (Classical.propDecidable _) h
theorem qhb{m:Nat}{l:List CV}(h:m=l.length/\l.length<=2000/\∀c∈l,W4A c):rows4 m l=true:=by unfold rows4;rw[qab];exact @decide_eq_true _ (Classical.propDecidable _) h
theorem qa7{m:Nat}{l:List CV}(h:rows3 m l=true):m=l.length/\l.length<=2000/\∀c∈l,W3A c:=by unfold rows3 at h;rw[qab] at h;exact @of_decide_eq_true _ (Classical.propDecidable _) h
theorem qit{m:Nat}{l:List CV}(h:m=l.length/\l.length<=2000/\∀c∈l,W3A c):rows3 m l=true:=by unfold rows3;rw[qab];exact @decide_eq_true _ (Classical.propDecidable _) h
theorem q3i{m:Nat}{a b n:Int}(h:swOk m a b n=true):0<=a/\0<=n/\a+n<=b/\b+n<=(m:Int):=by unfold swOk at h;rw[qab] at h;exact of_decide_eq_true h
theorem qsq{m:Nat}{a b n:Int}(h:0<=a/\0<=n/\a+n<=b/\b+n<=(m:Int)):swOk m a b n=true:=by unfold swOk;rw[qab];exact decide_eq_true h
theorem qk0{m:Nat}{a p b:Int}(h:qdk m a p b=true):0<=a/\a<p/\p<b/\b<=(m:Int):=by unfold qdk at h;rw[qab] at h;exact of_decide_eq_true h
theorem qfo{m:Nat}{a p b:Int}(h:0<=a/\a<p/\p<b/\b<=(m:Int)):qdk m a p b=true:=by unfold qdk;rw[qab];exact decide_eq_true h
theorem xbhz{d:List CV}{a b n:Nat}(h:a+n<=b)(hb:b+n<=d.length){c:CV}(hc:c∈swp d a b n):c∈d:=by
 obtain⟨i,hi⟩:=zb0.1 hc;rw[qiw d h hb] at hi
 (repeat' split at hi)<;>exact zac hi
theorem xbti(tp:Int)(bp:List Int)(kp:List CV)(wp:List Int)(tq:Int)(bq:List Int)(kq:List CV)(wq:List Int)(hp:(qad wp&&qad wq)=true):xbsl tp bp kp wp tq bq kq wq=zI (qbh wp wq):=qan hp rfl
theorem xbth(op:List Int)(kp:List CV)(wp:List Int)(oq:List Int)(kq:List CV)(wq:List Int)(hp:(qad wp&&qad wq)=true):xbsk op kp wp oq kq wq=zI (qbh wp wq):=qan hp rfl
theorem xbbk(K:List CV->Option Out)(d:List CV)(m a b n:Nat)(hm:m=d.length)(hl:d.length<=2000)(hW: ∀c∈d,W4A c)(h1:a+n<=b)(h2:b+n<=d.length): ∀(f k:Nat),k<=n->n - k<f->qlm K f m a b n k (swp d a b k)=K (swp d a b n)
 | 0,k,hk,hf=>by omega
 | f+1,k,hk,hf=>by
  show qmx (qlm K f) K m a b n k (swp d a b k)=_;unfold qmx;refine qac (fun h=> ?_) fun h=> ?_
  ·have hk2:k<n:=by omega
   obtain⟨x,hx⟩: ∃x,d[a+k]? =some x:=⟨_,zae (by omega)⟩;obtain⟨y,hy⟩: ∃y,d[b+k]? =some y:=⟨_,zae (by omega)⟩;have gx:(swp d a b k)[a+k]? =some x:=by rw[qiw d (by omega) (by omega),if_neg (by omega),if_neg (by omega),hx]
   have gy:(swp d a b k)[b+k]? =some y:=by rw[qiw d (by omega) (by omega),if_neg (by omega),if_neg (by omega),hy]
   obtain⟨t1,b1,k1,w1,rfl,_⟩:=hW x (zac hx);obtain⟨t2,b2,k2,w2,rfl,_⟩:=hW y (zac hy);have e1:IntKind.i64.wrap ((a:Int)+k)=((a+k:Nat):Int):=(i64_in _ (by omega)).trans (by omega);have e2:IntKind.i64.wrap ((b:Int)+k)=((b+k:Nat):Int):=(i64_in _ (by omega)).trans (by omega);have e3:IntKind.i64.wrap ((k:Int)+1)=((k+1:Nat):Int):=(i64_in _ (by omega)).trans (by omega);have n1:0+Int.toNat ((a+k:Nat):Int)=a+k:=by omega
   have n2:0+Int.toNat ((b+k:Nat):Int)=b+k:=by omega
   have st:=xbbm d (show a+k<b by omega) (show b+k<d.length by omega) hx hy;simp only[e1,e2,e3,n1,n2];refine qa1 (by omega) (by omega) ?_;rw[gy,zag];refine qan rfl (qa1 (by omega) (by omega) ?_);rw[gx,zag];refine qan rfl (qa1 (by omega) (by omega) (qa1 (by omega) (by omega) ?_));refine zdr ?_ (xbbk K d m a b n hm hl hW h1 h2 f (k+1) (by omega) (by omega));rw[<- st];rfl
  ·have:k=n:=by omega
   rw[this]
theorem xbo2(m:Nat)(a b n:Int)(l:List CV)(hp:(rows4 m l&&swOk m a b n)=true):xbgb m a b n l=zR [] [some ⟨.gen 4 (swpC l a b n),false⟩]:=by rw[zab] at hp;obtain⟨rfl,hl,hW⟩:=qa8 hp.1;obtain⟨h1,h2,h3,h4⟩:=q3i hp.2;obtain⟨a',rfl⟩:=Int.eq_ofNat_of_zero_le h1;obtain⟨n',rfl⟩:=Int.eq_ofNat_of_zero_le h2;obtain⟨b',rfl⟩:=Int.eq_ofNat_of_zero_le (show 0<=b by omega);unfold xbgb swpC;rw[qab,qab];have:=xbbk (fun y=>zR [] [some ⟨.gen 4 y,false⟩]) l l.length a' b' n' rfl hl hW (by omega) (by omega) FUEL 0 (by omega) (by unfold FUEL;omega);rw[xbbl l (by omega) (by omega)] at this;exact this
theorem xbbj(K:List CV->Option Out)(d:List CV)(m a b n:Nat)(hm:m=d.length)(hl:d.length<=2000)(hW: ∀c∈d,W3A c)(h1:a+n<=b)(h2:b+n<=d.length): ∀(f k:Nat),k<=n->n - k<f->qll K f m a b n k (swp d a b k)=K (swp d a b n)
 | 0,k,hk,hf=>by omega
 | f+1,k,hk,hf=>by
  show qmw (qll K f) K m a b n k (swp d a b k)=_;unfold qmw;refine qac (fun h=> ?_) fun h=> ?_
  ·have hk2:k<n:=by omega
   obtain⟨x,hx⟩: ∃x,d[a+k]? =some x:=⟨_,zae (by omega)⟩;obtain⟨y,hy⟩: ∃y,d[b+k]? =some y:=⟨_,zae (by omega)⟩;have gx:(swp d a b k)[a+k]? =some x:=by rw[qiw d (by omega) (by omega),if_neg (by omega),if_neg (by omega),hx]
   have gy:(swp d a b k)[b+k]? =some y:=by rw[qiw d (by omega) (by omega),if_neg (by omega),if_neg (by omega),hy]
   obtain⟨b1,k1,w1,rfl,_⟩:=hW x (zac hx);obtain⟨b2,k2,w2,rfl,_⟩:=hW y (zac hy);have e1:IntKind.i64.wrap ((a:Int)+k)=((a+k:Nat):Int):=(i64_in _ (by omega)).trans (by omega);have e2:IntKind.i64.wrap ((b:Int)+k)=((b+k:Nat):Int):=(i64_in _ (by omega)).trans (by omega);have e3:IntKind.i64.wrap ((k:Int)+1)=((k+1:Nat):Int):=(i64_in _ (by omega)).trans (by omega);have n1:0+Int.toNat ((a+k:Nat):Int)=a+k:=by omega
   have n2:0+Int.toNat ((b+k:Nat):Int)=b+k:=by omega
   have st:=xbbm d (show a+k<b by omega) (show b+k<d.length by omega) hx hy;simp only[e1,e2,e3,n1,n2];refine qa1 (by omega) (by omega) ?_;rw[gy,zag];refine qan rfl (qa1 (by omega) (by omega) ?_);rw[gx,zag];refine qan rfl (qa1 (by omega) (by omega) (qa1 (by omega) (by omega) ?_));refine zdr ?_ (xbbj K d m a b n hm hl hW h1 h2 f (k+1) (by omega) (by omega));rw[<- st];rfl
  ·have:k=n:=by omega
   rw[this]
theorem xbo1(m:Nat)(a b n:Int)(l:List CV)(hp:(rows3 m l&&swOk m a b n)=true):xbga m a b n l=zR [] [some ⟨.gen 3 (swpC l a b n),false⟩]:=by rw[zab] at hp;obtain⟨rfl,hl,hW⟩:=qa7 hp.1;obtain⟨h1,h2,h3,h4⟩:=q3i hp.2;obtain⟨a',rfl⟩:=Int.eq_ofNat_of_zero_le h1;obtain⟨n',rfl⟩:=Int.eq_ofNat_of_zero_le h2;obtain⟨b',rfl⟩:=Int.eq_ofNat_of_zero_le (show 0<=b by omega);unfold xbga swpC;rw[qab,qab];have:=xbbj (fun y=>zR [] [some ⟨.gen 3 y,false⟩]) l l.length a' b' n' rfl hl hW (by omega) (by omega) FUEL 0 (by omega) (by unfold FUEL;omega);rw[xbbl l (by omega) (by omega)] at this;exact this
open IntWalk (i64_in u8_in u32_in u64_in i64_quo u8_quo rem_in)
theorem qnl(l:List CV)(a b n:Nat):swpC l a b n=swp l a b n:=by unfold swpC;rw[qab];rfl
abbrev ret4(l:List CV):Option Out:=zR [] [some ⟨.gen 4 l,false⟩]
theorem q24{m:Nat}{d:List CV}{a b n:Nat}(h:rows4 m d=true)(h1:a+n<=b)(h2:b+n<=d.length):rows4 m (swp d a b n)=true:=by obtain⟨e1,e2,e3⟩:=qa8 h;have:=qix d h1 h2;exact qhb ⟨by omega,by omega,fun c hc=>e3 c (xbhz h1 h2 hc)⟩
noncomputable abbrev xbub:Nat->Int->Int->List CV->Option Out:=fun y3 y4 y5 y6=>cond (rows4 y3 y6&&swOk y3 (IntKind.i64.wrap (y4 - y5)) y4 y5) (ret4 (swpC y6 (IntKind.i64.wrap (y4 - y5)) y4 y5)) none
theorem xbaf(m p:Nat): ∀(f:Nat) (d:List CV) (i j:Nat),rows4 m d=true->0<i->0<j->i<=p->p+j<=d.length->i+j<=f->
  qos xbub f m p i j d=ret4 (rotF f d p i j)
 | 0,_,_,_,_,_,_,_,_,_=>by omega
 | f+1,d,i,j,hr,hi,hj,hp,hd,hf=>by
  obtain⟨hm,hl,_⟩:=qa8 hr;show qpz (qos xbub f) xbub m p i j d=_;unfold qpz;have w1:IntKind.i64.wrap ((p:Int) - i)=((p - i:Nat):Int):=(i64_in _ (by omega)).trans (by omega);refine qa5 (fun hne=> ?_) fun heq=> ?_
  ·have hne: ¬i=j:=fun e=>hne (by rw[e]);refine qac (fun h=> ?_) fun h=> ?_
   ·have w2:IntKind.i64.wrap ((i:Int) - j)=((i - j:Nat):Int):=(i64_in _ (by omega)).trans (by omega);rw[w1,w2];refine qan (by rw[hr,qsq (by omega)];rfl) ?_;rw[qnl];have hs:=qix d (a:=p - i) (b:=p) (n:=j) (by omega) (by omega);refine(xbaf m p f _ (i - j) j (q24 hr (by omega) (by omega)) (by omega) hj (by omega) (by omega) (by omega)).trans ?_;show _=ret4 (if i=j then _ else if j<i then _ else _);rw[if_neg hne,if_pos (by omega)]
   ·have w2:IntKind.i64.wrap ((p:Int)+j)=((p+j:Nat):Int):=(i64_in _ (by omega)).trans (by omega);have w3:IntKind.i64.wrap (((p+j:Nat):Int) - i)=((p+j - i:Nat):Int):=(i64_in _ (by omega)).trans (by omega);have w4:IntKind.i64.wrap ((j:Int) - i)=((j - i:Nat):Int):=(i64_in _ (by omega)).trans (by omega);simp only[w1,w2,w3,w4];refine qan (by rw[hr,qsq (by omega)];rfl) ?_;rw[qnl];have hs:=qix d (a:=p - i) (b:=p+j - i) (n:=i) (by omega) (by omega);refine(xbaf m p f _ i (j - i) (q24 hr (by omega) (by omega)) hi (by omega) hp (by omega) (by omega)).trans ?_;show _=ret4 (if i=j then _ else if j<i then _ else _);rw[if_neg hne,if_neg (by omega)]
  ·have heq:i=j:=by have:(i:Int)=j:=heq;omega
   show cond (rows4 m d&&swOk m (IntKind.i64.wrap ((p:Int) - i)) p i) (ret4 (swpC d (IntKind.i64.wrap ((p:Int) - i)) p i)) none=ret4 (if i=j then swp d (p - i) p i else _);rw[w1,if_pos heq];refine qan (by rw[hr,qsq (by omega)];rfl) ?_;rw[qnl]
theorem xbtq(m:Nat)(a p b:Int)(l:List CV)(hp:(rows4 m l&&qdk m a p b)=true):xbnd m a p b l=zR [] [some ⟨.gen 4 (rotC l a p b),false⟩]:=by rw[zab] at hp;obtain⟨e1,hl,hW⟩:=qa8 hp.1;obtain⟨h1,h2,h3,h4⟩:=qk0 hp.2;obtain⟨a',rfl⟩:=Int.eq_ofNat_of_zero_le h1;obtain⟨p',rfl⟩:=Int.eq_ofNat_of_zero_le (show 0<=p by omega);obtain⟨b',rfl⟩:=Int.eq_ofNat_of_zero_le (show 0<=b by omega);unfold xbnd rotC;rw[qab,qab];have w1:IntKind.i64.wrap ((p':Int) - a')=((p' - a':Nat):Int):=(i64_in _ (by omega)).trans (by omega);have w2:IntKind.i64.wrap ((b':Int) - p')=((b' - p':Nat):Int):=(i64_in _ (by omega)).trans (by omega);dsimp only;rw[w1,w2];refine(xbaf m p' FUEL l (p' - a') (b' - p') hp.1 (by omega) (by omega) (by omega) (by omega) (by unfold FUEL;omega)).trans ?_;rw[q2z FUEL l p' (p' - a') (b' - p') (by omega) (by omega) (by omega) (by omega) (by unfold FUEL;omega),show p' - (p' - a')=a' by omega,show p'+(b' - p')=b' by omega];rfl
abbrev ret3(l:List CV):Option Out:=zR [] [some ⟨.gen 3 l,false⟩]
theorem q22{m:Nat}{d:List CV}{a b n:Nat}(h:rows3 m d=true)(h1:a+n<=b)(h2:b+n<=d.length):rows3 m (swp d a b n)=true:=by obtain⟨e1,e2,e3⟩:=qa7 h;have:=qix d h1 h2;exact qit ⟨by omega,by omega,fun c hc=>e3 c (xbhz h1 h2 hc)⟩
noncomputable abbrev xbua:Nat->Int->Int->List CV->Option Out:=fun y3 y4 y5 y6=>cond (rows3 y3 y6&&swOk y3 (IntKind.i64.wrap (y4 - y5)) y4 y5) (ret3 (swpC y6 (IntKind.i64.wrap (y4 - y5)) y4 y5)) none
theorem xbae(m p:Nat): ∀(f:Nat) (d:List CV) (i j:Nat),rows3 m d=true->0<i->0<j->i<=p->p+j<=d.length->i+j<=f->
  qor xbua f m p i j d=ret3 (rotF f d p i j)
 | 0,_,_,_,_,_,_,_,_,_=>by omega
 | f+1,d,i,j,hr,hi,hj,hp,hd,hf=>by
  obtain⟨hm,hl,_⟩:=qa7 hr;show qpy (qor xbua f) xbua m p i j d=_;unfold qpy;have w1:IntKind.i64.wrap ((p:Int) - i)=((p - i:Nat):Int):=(i64_in _ (by omega)).trans (by omega);refine qa5 (fun hne=> ?_) fun heq=> ?_
  ·have hne: ¬i=j:=fun e=>hne (by rw[e]);refine qac (fun h=> ?_) fun h=> ?_
   ·have w2:IntKind.i64.wrap ((i:Int) - j)=((i - j:Nat):Int):=(i64_in _ (by omega)).trans (by omega);rw[w1,w2];refine qan (by rw[hr,qsq (by omega)];rfl) ?_;rw[qnl];have hs:=qix d (a:=p - i) (b:=p) (n:=j) (by omega) (by omega);refine(xbae m p f _ (i - j) j (q22 hr (by omega) (by omega)) (by omega) hj (by omega) (by omega) (by omega)).trans ?_;show _=ret3 (if i=j then _ else if j<i then _ else _);rw[if_neg hne,if_pos (by omega)]
   ·have w2:IntKind.i64.wrap ((p:Int)+j)=((p+j:Nat):Int):=(i64_in _ (by omega)).trans (by omega);have w3:IntKind.i64.wrap (((p+j:Nat):Int) - i)=((p+j - i:Nat):Int):=(i64_in _ (by omega)).trans (by omega);have w4:IntKind.i64.wrap ((j:Int) - i)=((j - i:Nat):Int):=(i64_in _ (by omega)).trans (by omega);simp only[w1,w2,w3,w4];refine qan (by rw[hr,qsq (by omega)];rfl) ?_;rw[qnl];have hs:=qix d (a:=p - i) (b:=p+j - i) (n:=i) (by omega) (by omega);refine(xbae m p f _ i (j - i) (q22 hr (by omega) (by omega)) hi (by omega) hp (by omega) (by omega)).trans ?_;show _=ret3 (if i=j then _ else if j<i then _ else _);rw[if_neg hne,if_neg (by omega)]
  ·have heq:i=j:=by have:(i:Int)=j:=heq;omega
   show cond (rows3 m d&&swOk m (IntKind.i64.wrap ((p:Int) - i)) p i) (ret3 (swpC d (IntKind.i64.wrap ((p:Int) - i)) p i)) none=ret3 (if i=j then swp d (p - i) p i else _);rw[w1,if_pos heq];refine qan (by rw[hr,qsq (by omega)];rfl) ?_;rw[qnl]
theorem xbtp(m:Nat)(a p b:Int)(l:List CV)(hp:(rows3 m l&&qdk m a p b)=true):xbnc m a p b l=zR [] [some ⟨.gen 3 (rotC l a p b),false⟩]:=by rw[zab] at hp;obtain⟨e1,hl,hW⟩:=qa7 hp.1;obtain⟨h1,h2,h3,h4⟩:=qk0 hp.2;obtain⟨a',rfl⟩:=Int.eq_ofNat_of_zero_le h1;obtain⟨p',rfl⟩:=Int.eq_ofNat_of_zero_le (show 0<=p by omega);obtain⟨b',rfl⟩:=Int.eq_ofNat_of_zero_le (show 0<=b by omega);unfold xbnc rotC;rw[qab,qab];have w1:IntKind.i64.wrap ((p':Int) - a')=((p' - a':Nat):Int):=(i64_in _ (by omega)).trans (by omega);have w2:IntKind.i64.wrap ((b':Int) - p')=((b' - p':Nat):Int):=(i64_in _ (by omega)).trans (by omega);dsimp only;rw[w1,w2];refine(xbae m p' FUEL l (p' - a') (b' - p') hp.1 (by omega) (by omega) (by omega) (by omega) (by unfold FUEL;omega)).trans ?_;rw[q2z FUEL l p' (p' - a') (b' - p') (by omega) (by omega) (by omega) (by omega) (by unfold FUEL;omega),show p' - (p' - a')=a' by omega,show p'+(b' - p')=b' by omega];rfl
open IntWalk (i64_in u8_in u32_in u64_in i64_quo u8_quo rem_in)
theorem xbfk{α:Type}{d:List α}{i j:Nat}{y z:α}(hy:d[i]? =some y)(hz:d[j]? =some z):chg2 d i j=(d.set i z).set j y:=by unfold chg2;rw[hy,hz]
theorem qmh{α:Type}(d:List α)(i j:Nat):(chg2 d i j).length=d.length:=by unfold chg2;split<;>simp
theorem q7i{α:Type}{d:List α}{i j:Nat}{c:α}(h:c∈chg2 d i j):c∈d:=by
 unfold chg2 at h;split at h
 ·rename_i y z hy hz;rcases List.mem_or_eq_of_mem_set h with h|h
  ·rcases List.mem_or_eq_of_mem_set h with h|h
   ·exact h
   ·rw[h];exact zac hz
  ·rw[h];exact zac hy
 ·exact h
theorem xbfl(a b:List Int):qbh a b=qav a b:=by unfold qbh;rw[qab]
theorem qt4{α:Type}{lt:α->α->Bool}{d:List α}{a b:Nat}{c:α}(h:c∈insS lt d a b):c∈d:=by
 unfold insS pu at h;rcases zak.1 h with h|h
 ·exact za9 h
 ·rcases zak.1 h with h|h
  ·exact za9 (zbh (qfg.1 h))
  ·exact zbh h
theorem xbek{m:Nat}{d:List CV}{i j:Nat}(h:rows4 m d=true):rows4 m (chg2 d i j)=true:=by obtain⟨e1,e2,e3⟩:=qa8 h;exact qhb ⟨by rw[qmh];exact e1,by rw[qmh];exact e2,fun c hc=>e3 c (q7i hc)⟩
theorem q3d(K:Nat->Int->Int->Int->List CV->Option Out)(m a:Nat)(b i:Int): ∀(f:Nat) (d:List CV) (j:Nat),rows4 m d=true->a<=j->j<d.length->j - a<f->
  qlg K f m a b i j d=K m a b i (slide (ltK ky4) f d a j)
 | 0,_,_,_,_,_,_=>by omega
 | f+1,d,j,hr,haj,hj,hf=>by
  obtain⟨hm,hl,hW⟩:=qa8 hr;show qpx (qlg K f) K m a b i j d=K m a b i (if a<j/\ltA (ltK ky4) d j (j - 1)=true then slide (ltK ky4) f (chg2 d j (j - 1)) a (j - 1) else d);unfold qpx;refine qac (fun h=> ?_) fun h=>by rw[if_neg (by omega)]
  have hja:a<j:=by omega
  obtain⟨x,hx⟩: ∃x,d[j]? =some x:=⟨_,zae hj⟩;obtain⟨y,hy⟩: ∃y,d[j - 1]? =some y:=⟨_,zae (by omega)⟩;have ec:=xbfk hx hy;have el:=qkm (lt:=ltK ky4) hx hy;have hrc:=xbek (i:=j) (j:=j - 1) hr;have ih:=q3d K m a b i f (chg2 d j (j - 1)) (j - 1) hrc (by omega) (by rw[qmh];omega) (by omega);obtain⟨t1,b1,k1,w1,rfl,hw1⟩:=hW x (zac hx);obtain⟨t2,b2,k2,w2,rfl,hw2⟩:=hW y (zac hy);rw[el];generalize qlg K f=ag at ih ⊢;have e1:IntKind.i64.wrap ((j:Int) - 1)=((j - 1:Nat):Int):=(i64_in _ (by omega)).trans (by omega);have n1:0+Int.toNat (j:Int)=j:=by omega
  have n2:0+Int.toNat ((j - 1:Nat):Int)=j - 1:=by omega
  simp only[e1,n1,n2];refine qa1 (by omega) (by omega) ?_;rw[hx,zag];refine qan rfl (qa1 (by omega) (by omega) ?_);rw[hy,zag];refine qan rfl (qan (c:=qad w1&&qad w2) (by rw[hw1,hw2];rfl) ?_);show cond (decide (qbh w1 w2<0)) _ _=K m a b i (if a<j/\decide (qav w1 w2<0)=true then _ else _);rw[xbfl];refine qac (fun hc=> ?_) fun hc=> ?_
  ·rw[if_pos ⟨hja,decide_eq_true hc⟩];refine qa1 (by omega) (by omega) ?_;rw[zag];refine qan rfl (qa1 (by omega) (by omega) ?_);rw[zag];refine qan rfl (qa1 (by omega) (by omega) (qa1 (by omega) (by omega) ?_));rw[<- ih,ec];rfl
  ·rw[if_neg (by rw[decide_eq_false hc];simp)]
theorem xbgs(m a b:Nat)(l:List CV)(hr:rows4 m l=true)(hb:b<=l.length): ∀(f i:Nat),a<i->i<=b->b - i<f->qjo ret4 f m a b i (insS (ltK ky4) l a i)=ret4 (insS (ltK ky4) l a b)
 | 0,_,_,_,_=>by omega
 | f+1,i,hi,hib,hf=>by
  obtain⟨hm,hl,hW⟩:=qa8 hr;show qic (qjo ret4 f) ret4 m a b i (insS (ltK ky4) l a i)=_;unfold qic;refine qac (fun h=> ?_) fun h=>by rw[show i=b by omega]
  have hL:=qmp (lt:=ltK ky4) l (show a<=i by omega) (by omega);have hr2:rows4 m (insS (ltK ky4) l a i)=true:=qhb ⟨by omega,by omega,fun c hc=>hW c (qt4 hc)⟩;rw[qab,q3d _ m a b i FUEL _ i hr2 (by omega) (by omega) (by unfold FUEL;omega),q8p (qef ky4) l (by omega) (by omega) (by unfold FUEL;omega)];dsimp only;rw[show IntKind.i64.wrap ((i:Int)+1)=((i+1:Nat):Int) from(i64_in _ (by omega)).trans (by omega)];exact xbgs m a b l hr hb f (i+1) (by omega) (by omega) (by omega)
theorem qzu(l:List CV)(a b:Nat):ins4 l a b=insS (ltK ky4) l a b:=by unfold ins4;rw[qab];rfl
theorem xbtk(m:Nat)(a b:Int)(l:List CV)(hp:(rows4 m l&&decide (0<=a/\a<=b/\b<=(m:Int)))=true):xbm8 m a b l=zR [] [some ⟨.gen 4 (ins4 l a b),false⟩]:=by
 rw[zab,decide_eq_true_eq] at hp;obtain⟨hr,h1,h2,h3⟩:=hp;obtain⟨e1,hl,hW⟩:=qa8 hr;obtain⟨a',rfl⟩:=Int.eq_ofNat_of_zero_le h1;obtain⟨b',rfl⟩:=Int.eq_ofNat_of_zero_le (show 0<=b by omega);unfold xbm8;rw[qab,qzu];dsimp only;rw[show IntKind.i64.wrap ((a':Int)+1)=((a'+1:Nat):Int) from(i64_in _ (by omega)).trans (by omega)];by_cases h:a'< b'
 ·have:=xbgs m a' b' l hr (by omega) FUEL (a'+1) (by omega) (by omega) (by unfold FUEL;omega);rw[qt3 l (show a'<=a'+1 by omega) (by omega) (by omega)] at this;exact this
 ·rw[qt3 l (show a'<=b' by omega) (by omega) (by omega)];have key: ∀f,0<f->qjo ret4 f m a' b' ((a'+1:Nat):Int) l=ret4 l:=fun f hf=>by obtain⟨f,rfl⟩: ∃g,f=g+1:=⟨f - 1,by omega⟩;show qic (qjo ret4 f) ret4 m a' b' ((a'+1:Nat):Int) l=_;unfold qic;exact qd0 (by omega) rfl
  exact key FUEL (by unfold FUEL;omega)
theorem xbej{m:Nat}{d:List CV}{i j:Nat}(h:rows3 m d=true):rows3 m (chg2 d i j)=true:=by obtain⟨e1,e2,e3⟩:=qa7 h;exact qit ⟨by rw[qmh];exact e1,by rw[qmh];exact e2,fun c hc=>e3 c (q7i hc)⟩
theorem q3c(K:Nat->Int->Int->Int->List CV->Option Out)(m a:Nat)(b i:Int): ∀(f:Nat) (d:List CV) (j:Nat),rows3 m d=true->a<=j->j<d.length->j - a<f->
  qlf K f m a b i j d=K m a b i (slide (ltK ky3) f d a j)
 | 0,_,_,_,_,_,_=>by omega
 | f+1,d,j,hr,haj,hj,hf=>by
  obtain⟨hm,hl,hW⟩:=qa7 hr;show qpw (qlf K f) K m a b i j d=K m a b i (if a<j/\ltA (ltK ky3) d j (j - 1)=true then slide (ltK ky3) f (chg2 d j (j - 1)) a (j - 1) else d);unfold qpw;refine qac (fun h=> ?_) fun h=>by rw[if_neg (by omega)]
  have hja:a<j:=by omega
  obtain⟨x,hx⟩: ∃x,d[j]? =some x:=⟨_,zae hj⟩;obtain⟨y,hy⟩: ∃y,d[j - 1]? =some y:=⟨_,zae (by omega)⟩;have ec:=xbfk hx hy;have el:=qkm (lt:=ltK ky3) hx hy;have hrc:=xbej (i:=j) (j:=j - 1) hr;have ih:=q3c K m a b i f (chg2 d j (j - 1)) (j - 1) hrc (by omega) (by rw[qmh];omega) (by omega);obtain⟨b1,k1,w1,rfl,hw1⟩:=hW x (zac hx);obtain⟨b2,k2,w2,rfl,hw2⟩:=hW y (zac hy);rw[el];generalize qlf K f=ag at ih ⊢;have e1:IntKind.i64.wrap ((j:Int) - 1)=((j - 1:Nat):Int):=(i64_in _ (by omega)).trans (by omega);have n1:0+Int.toNat (j:Int)=j:=by omega
  have n2:0+Int.toNat ((j - 1:Nat):Int)=j - 1:=by omega
  simp only[e1,n1,n2];refine qa1 (by omega) (by omega) ?_;rw[hx,zag];refine qan rfl (qa1 (by omega) (by omega) ?_);rw[hy,zag];refine qan rfl (qan (c:=qad w1&&qad w2) (by rw[hw1,hw2];rfl) ?_);show cond (decide (qbh w1 w2<0)) _ _=K m a b i (if a<j/\decide (qav w1 w2<0)=true then _ else _);rw[xbfl];refine qac (fun hc=> ?_) fun hc=> ?_
  ·rw[if_pos ⟨hja,decide_eq_true hc⟩];refine qa1 (by omega) (by omega) ?_;rw[zag];refine qan rfl (qa1 (by omega) (by omega) ?_);rw[zag];refine qan rfl (qa1 (by omega) (by omega) (qa1 (by omega) (by omega) ?_));rw[<- ih,ec];rfl
  ·rw[if_neg (by rw[decide_eq_false hc];simp)]
theorem xbgr(m a b:Nat)(l:List CV)(hr:rows3 m l=true)(hb:b<=l.length): ∀(f i:Nat),a<i->i<=b->b - i<f->qjn ret3 f m a b i (insS (ltK ky3) l a i)=ret3 (insS (ltK ky3) l a b)
 | 0,_,_,_,_=>by omega
 | f+1,i,hi,hib,hf=>by
  obtain⟨hm,hl,hW⟩:=qa7 hr;show qib (qjn ret3 f) ret3 m a b i (insS (ltK ky3) l a i)=_;unfold qib;refine qac (fun h=> ?_) fun h=>by rw[show i=b by omega]
  have hL:=qmp (lt:=ltK ky3) l (show a<=i by omega) (by omega);have hr2:rows3 m (insS (ltK ky3) l a i)=true:=qit ⟨by omega,by omega,fun c hc=>hW c (qt4 hc)⟩;rw[qab,q3c _ m a b i FUEL _ i hr2 (by omega) (by omega) (by unfold FUEL;omega),q8p (qef ky3) l (by omega) (by omega) (by unfold FUEL;omega)];dsimp only;rw[show IntKind.i64.wrap ((i:Int)+1)=((i+1:Nat):Int) from(i64_in _ (by omega)).trans (by omega)];exact xbgr m a b l hr hb f (i+1) (by omega) (by omega) (by omega)
theorem qzt(l:List CV)(a b:Nat):ins3 l a b=insS (ltK ky3) l a b:=by unfold ins3;rw[qab];rfl
theorem xbtj(m:Nat)(a b:Int)(l:List CV)(hp:(rows3 m l&&decide (0<=a/\a<=b/\b<=(m:Int)))=true):xbm7 m a b l=zR [] [some ⟨.gen 3 (ins3 l a b),false⟩]:=by
 rw[zab,decide_eq_true_eq] at hp;obtain⟨hr,h1,h2,h3⟩:=hp;obtain⟨e1,hl,hW⟩:=qa7 hr;obtain⟨a',rfl⟩:=Int.eq_ofNat_of_zero_le h1;obtain⟨b',rfl⟩:=Int.eq_ofNat_of_zero_le (show 0<=b by omega);unfold xbm7;rw[qab,qzt];dsimp only;rw[show IntKind.i64.wrap ((a':Int)+1)=((a'+1:Nat):Int) from(i64_in _ (by omega)).trans (by omega)];by_cases h:a'< b'
 ·have:=xbgr m a' b' l hr (by omega) FUEL (a'+1) (by omega) (by omega) (by unfold FUEL;omega);rw[qt3 l (show a'<=a'+1 by omega) (by omega) (by omega)] at this;exact this
 ·rw[qt3 l (show a'<=b' by omega) (by omega) (by omega)];have key: ∀f,0<f->qjn ret3 f m a' b' ((a'+1:Nat):Int) l=ret3 l:=fun f hf=>by obtain⟨f,rfl⟩: ∃g,f=g+1:=⟨f - 1,by omega⟩;show qib (qjn ret3 f) ret3 m a' b' ((a'+1:Nat):Int) l=_;unfold qib;exact qd0 (by omega) rfl
  exact key FUEL (by unfold FUEL;omega)
open IntWalk (i64_in u8_in u32_in u64_in i64_quo u8_quo rem_in)
theorem xbsv{α:Type}{lt:α->α->Bool}{u v:List α}{c:α}(h:c∈mg lt u v):c∈u\/c∈v:=List.mem_merge.1 h
theorem qse{α:Type}{d:List α}{a b:Nat}{c:α}(h:c∈seg d a b):c∈d:=za9 (zbh h)
theorem xbbn{α:Type}{lt:α->α->Bool}{d:List α}{a m b:Nat}{c:α}(h:c∈symS lt d a m b):c∈d:=by
 unfold symS pu at h;rcases zak.1 h with h|h
 ·exact za9 h
 ·rcases zak.1 h with h|h
  ·exact(xbsv h).elim qse qse
  ·exact zbh h
theorem qnv{ky:CV->List Int}{l:List CV}{a p b:Nat}(h1:Srt (ltK ky) (seg l a p))(h2:Srt (ltK ky) (seg l p b)):xbl8 ky l a p b=true:=by unfold xbl8;rw[qab];exact @decide_eq_true _ (Classical.propDecidable _) ⟨h1,h2⟩
theorem q1p{ky:CV->List Int}{l:List CV}{a p b:Nat}(h:xbl8 ky l a p b=true):Srt (ltK ky) (seg l a p)/\Srt (ltK ky) (seg l p b):=by unfold xbl8 at h;rw[qab] at h;exact @of_decide_eq_true _ (Classical.propDecidable _) h
theorem q23{m:Nat}{d:List CV}{a b:Nat}(h:rows4 m d=true)(h1:a<=b)(h2:b<=d.length):rows4 m (insS (ltK ky4) d a b)=true:=by obtain⟨e1,e2,e3⟩:=qa8 h;have:=qmp (lt:=ltK ky4) d h1 h2;exact qhb ⟨by omega,by omega,fun c hc=>e3 c (qt4 hc)⟩
theorem qqk{m:Nat}{d:List CV}{a p b:Nat}(h:rows4 m d=true)(h1:a<=p)(h2:p<=b)(h3:b<=d.length):rows4 m (symS (ltK ky4) d a p b)=true:=by obtain⟨e1,e2,e3⟩:=qa8 h;have:=q0s (lt:=ltK ky4) d h1 h2 h3;exact qhb ⟨by omega,by omega,fun c hc=>e3 c (xbbn hc)⟩
theorem qqy(l:List CV)(a p b:Nat):sym4 l a p b=symS (ltK ky4) l a p b:=by unfold sym4;rw[qab];rfl
theorem xbfi(K:Nat->Int->Int->List CV->Option Out)(m:Nat)(d0:List CV)(h0:d0.length=m)(hm:m<=2000): ∀(f a:Nat) (d:List CV),rows4 m d=true->xbfe (ltK ky4) 20 d0 d a->a<=m->m - a<f->
  ∃(a':Nat) (d':List CV),qlj K f m m a ((a+20:Nat):Int) d=K m m (a':Int) d'/\rows4 m d'=true/\xbfe (ltK ky4) 20 d0 d' a'/\a'<=m/\m<a'+20
 | 0,_,_,_,_,_,_=>by omega
 | f+1,a,d,hr,hd,ha,hf=>by
  obtain⟨e1,e2,e3⟩:=qa8 hr;by_cases h:a+20<=m
  ·obtain⟨a',d',g1,g2⟩:=xbfi K m d0 h0 hm f (a+20) _ (q23 hr (show a<=a+20 by omega) (by omega)) (qwb (by omega) (by omega) hd) h (by omega);refine⟨a',d', ?_,g2⟩;rw[<- g1];show qif (qlj K f) K m m a ((a+20:Nat):Int) d=_;unfold qif;refine qat (by omega) (qan (by rw[hr];simp;omega) ?_);rw[qzu,show IntKind.i64.wrap (((a+20:Nat):Int)+20)=((a+20+20:Nat):Int) from(i64_in _ (by omega)).trans (by omega)]
  ·refine⟨a,d, ?_,hr,hd,ha,by omega⟩;show qif (qlj K f) K m m a ((a+20:Nat):Int) d=_;unfold qif;exact qd0 (by omega) rfl
theorem q9y(K:Nat->Int->Int->Int->List CV->Option Out)(m s:Nat)(d0:List CV)(h0:d0.length=m)(hm:m<=2000)(hs:0<s)(hs2:s<=4000): ∀(f a:Nat) (d:List CV),rows4 m d=true->Done (ltK ky4) (2*s) d0 (bk (ltK ky4) s (d0.drop a)) d a->a<=m->m - a<f->
  ∃(a':Nat) (d':List CV),qlk K f m m s a ((a+2*s:Nat):Int) d=K m m s (a':Int) d'/\rows4 m d'=true/\Done (ltK ky4) (2*s) d0 (bk (ltK ky4) s (d0.drop a')) d' a'/\a'<=m/\m<a'+2*s
 | 0,_,_,_,_,_,_=>by omega
 | f+1,a,d,hr,hd,ha,hf=>by
  obtain⟨e1,e2,e3⟩:=qa8 hr;by_cases h:a+2*s<=m
  ·obtain⟨q1,q2,q3⟩:=q2r (qef ky4) hs (by omega) hd;obtain⟨a',d',g1,g2⟩:=q9y K m s d0 h0 hm hs hs2 f (a+2*s) _ (qqk hr (show a<=a+s by omega) (by omega) (by omega)) q3 h (by omega);refine⟨a',d', ?_,g2⟩;rw[<- g1];show qig (qlk K f) K m m s a ((a+2*s:Nat):Int) d=_;unfold qig;have w1:IntKind.i64.wrap ((a:Int)+s)=((a+s:Nat):Int):=(i64_in _ (by omega)).trans (by omega);have w2:IntKind.i64.wrap ((2:Int)*s)=((2*s:Nat):Int):=(i64_in _ (by omega)).trans (by omega);have w3:IntKind.i64.wrap (((a+2*s:Nat):Int)+((2*s:Nat):Int))=((a+2*s+2*s:Nat):Int):=(i64_in _ (by omega)).trans (by omega);simp only[w1,w2,w3];refine qat (by omega) (qan (by rw[hr,qfo (by omega),show half4 d a ((a+s:Nat):Int) ((a+2*s:Nat):Int)=true from qnv q1 q2];rfl) ?_);rw[qqy]
  ·refine⟨a,d, ?_,hr,hd,ha,by omega⟩;show qig (qlk K f) K m m s a ((a+2*s:Nat):Int) d=_;unfold qig;exact qd0 (by omega) rfl
theorem xbbd(m:Nat)(d0:List CV)(h0:d0.length=m)(hm:m<=2000)(hW: ∀c∈d0,W4A c): ∀(f s:Nat),0<f->0<s->s<=4000->m<s+f->rows4 m (bk (ltK ky4) s d0)=true->qg3 ret4 f m m s (bk (ltK ky4) s d0)=ret4 (isort (ltK ky4) d0)
 | 0,s,hf0,hs,hs2,hf,hr=>by omega
 | f+1,s,hf0,hs,hs2,hf,hr=>by
  show qp1 (qg3 ret4 f) ret4 m m s (bk (ltK ky4) s d0)=_;unfold qp1;refine qac (fun h=> ?_) fun h=>by rw[q9z (by omega)]
  have w2:IntKind.i64.wrap ((2:Int)*s)=((0+2*s:Nat):Int):=(i64_in _ (by omega)).trans (by omega);have w3:IntKind.i64.wrap ((s:Int)*2)=((2*s:Nat):Int):=(i64_in _ (by omega)).trans (by omega);rw[qab];simp only[w2];obtain⟨a',d',g1,g2,g3,g4,g5⟩:=q9y (fun(y7:Nat) (y8 y9 y10:Int) (y11:List CV)=>cond (decide (IntKind.i64.wrap (y10+y9)<y8)) (cond (rows4 y7 y11&&(qdk y7 y10 (IntKind.i64.wrap (y10+y9)) y8&&half4 y11 y10 (IntKind.i64.wrap (y10+y9)) y8)) (qg3 ret4 f y7 y8 (IntKind.i64.wrap (y9*2)) (sym4 y11 y10 (IntKind.i64.wrap (y10+y9)) y8)) none) (qg3 ret4 f y7 y8 (IntKind.i64.wrap (y9*2)) y11)) m s d0 h0 hm hs hs2 FUEL 0 _ hr (q2q d0) (by omega) (by unfold FUEL;omega);refine(show _=_ from g1).trans ?_;obtain⟨p1,p2⟩:=q90 (qef ky4) hs (show a'<=d0.length by omega) (by omega) g3;rw[h0] at p1 p2;obtain⟨e1,e2,e3⟩:=qa8 g2;have w1:IntKind.i64.wrap ((a':Int)+s)=((a'+s:Nat):Int):=(i64_in _ (by omega)).trans (by omega);rw[w1,w3];refine qac (fun h1=> ?_) fun h1=> ?_
  ·have h1:a'+s<m:=by omega
   obtain⟨q1,q2⟩:=p1 h1;rw[if_pos h1] at p2;refine qan (by rw[g2,qfo (by omega),show half4 d' a' ((a'+s:Nat):Int) (m:Int)=true from qnv q1 q2];rfl) ?_;have hr2:=qqk g2 (show a'<=a'+s by omega) (show a'+s<=m by omega) (by omega);rw[p2] at hr2;rw[qqy,p2];exact xbbd m d0 h0 hm hW f (2*s) (by omega) (by omega) (by omega) (by omega) hr2
  ·have h1: ¬a'+s<m:=by omega
   rw[if_neg h1] at p2;rw[p2] at g2 ⊢;exact xbbd m d0 h0 hm hW f (2*s) (by omega) (by omega) (by omega) (by omega) g2
theorem xbrc(l:List CV):srt4 l=isort (ltK ky4) l:=by unfold srt4;rw[qab]
theorem xbtt(m:Nat)(n:Int)(l:List CV)(hp:(rows4 m l&&decide (n=(m:Int)))=true):xbnh m n l=zR [] [some ⟨.gen 4 (srt4 l),false⟩]:=by rw[zab,decide_eq_true_eq] at hp;obtain⟨hr,rfl⟩:=hp;obtain⟨e1,hl,hW⟩:=qa8 hr;unfold xbnh;rw[qab,xbrc];obtain⟨a',d',g1,g2,g3,g4,g5⟩:=xbfi (fun(y1:Nat) (y2 y3:Int) (y4:List CV)=>cond (rows4 y1 y4&&decide (0<=y3/\y3<=y2/\y2<=(y1:Int))) (shut (qg3 ret4 FUEL) y1 y2 20 (ins4 y4 y3 y2)) none) m l e1.symm (by omega) FUEL 0 l hr (qwa l) (by omega) (by unfold FUEL;omega);refine(show _=_ from g1).trans ?_;refine qan (by rw[g2];simp;omega) ?_;have hb:=q05 (lt:=ltK ky4) (s:=20) (show a'<=l.length by omega) (by omega) g3;obtain⟨e2,_,_⟩:=qa8 g2;have hr2:=q23 g2 (show a'<=m by omega) (by omega);rw[e1,hb] at hr2;rw[qab,qzu,e1,hb];rw[<- e1] at hr2 ⊢;exact xbbd m l e1.symm (by omega) hW FUEL 20 (by unfold FUEL;omega) (by omega) (by omega) (by unfold FUEL;omega) hr2
theorem xbo0(m:Nat)(l:List CV)(hp:rows4 m l=true):xbnf m l=zR [] [some ⟨.gen 4 (srt4 l),false⟩]:=qan (by rw[hp];simp) rfl
theorem q21{m:Nat}{d:List CV}{a b:Nat}(h:rows3 m d=true)(h1:a<=b)(h2:b<=d.length):rows3 m (insS (ltK ky3) d a b)=true:=by obtain⟨e1,e2,e3⟩:=qa7 h;have:=qmp (lt:=ltK ky3) d h1 h2;exact qit ⟨by omega,by omega,fun c hc=>e3 c (qt4 hc)⟩
theorem qqj{m:Nat}{d:List CV}{a p b:Nat}(h:rows3 m d=true)(h1:a<=p)(h2:p<=b)(h3:b<=d.length):rows3 m (symS (ltK ky3) d a p b)=true:=by obtain⟨e1,e2,e3⟩:=qa7 h;have:=q0s (lt:=ltK ky3) d h1 h2 h3;exact qit ⟨by omega,by omega,fun c hc=>e3 c (xbbn hc)⟩
theorem qqx(l:List CV)(a p b:Nat):sym3 l a p b=symS (ltK ky3) l a p b:=by unfold sym3;rw[qab];rfl
theorem xbfh(K:Nat->Int->Int->List CV->Option Out)(m:Nat)(d0:List CV)(h0:d0.length=m)(hm:m<=2000): ∀(f a:Nat) (d:List CV),rows3 m d=true->xbfe (ltK ky3) 20 d0 d a->a<=m->m - a<f->
  ∃(a':Nat) (d':List CV),qlh K f m m a ((a+20:Nat):Int) d=K m m (a':Int) d'/\rows3 m d'=true/\xbfe (ltK ky3) 20 d0 d' a'/\a'<=m/\m<a'+20
 | 0,_,_,_,_,_,_=>by omega
 | f+1,a,d,hr,hd,ha,hf=>by
  obtain⟨e1,e2,e3⟩:=qa7 hr;by_cases h:a+20<=m
  ·obtain⟨a',d',g1,g2⟩:=xbfh K m d0 h0 hm f (a+20) _ (q21 hr (show a<=a+20 by omega) (by omega)) (qwb (by omega) (by omega) hd) h (by omega);refine⟨a',d', ?_,g2⟩;rw[<- g1];show qid (qlh K f) K m m a ((a+20:Nat):Int) d=_;unfold qid;refine qat (by omega) (qan (by rw[hr];simp;omega) ?_);rw[qzt,show IntKind.i64.wrap (((a+20:Nat):Int)+20)=((a+20+20:Nat):Int) from(i64_in _ (by omega)).trans (by omega)]
  ·refine⟨a,d, ?_,hr,hd,ha,by omega⟩;show qid (qlh K f) K m m a ((a+20:Nat):Int) d=_;unfold qid;exact qd0 (by omega) rfl
theorem q9x(K:Nat->Int->Int->Int->List CV->Option Out)(m s:Nat)(d0:List CV)(h0:d0.length=m)(hm:m<=2000)(hs:0<s)(hs2:s<=4000): ∀(f a:Nat) (d:List CV),rows3 m d=true->Done (ltK ky3) (2*s) d0 (bk (ltK ky3) s (d0.drop a)) d a->a<=m->m - a<f->
  ∃(a':Nat) (d':List CV),qli K f m m s a ((a+2*s:Nat):Int) d=K m m s (a':Int) d'/\rows3 m d'=true/\Done (ltK ky3) (2*s) d0 (bk (ltK ky3) s (d0.drop a')) d' a'/\a'<=m/\m<a'+2*s
 | 0,_,_,_,_,_,_=>by omega
 | f+1,a,d,hr,hd,ha,hf=>by
  obtain⟨e1,e2,e3⟩:=qa7 hr;by_cases h:a+2*s<=m
  ·obtain⟨q1,q2,q3⟩:=q2r (qef ky3) hs (by omega) hd;obtain⟨a',d',g1,g2⟩:=q9x K m s d0 h0 hm hs hs2 f (a+2*s) _ (qqj hr (show a<=a+s by omega) (by omega) (by omega)) q3 h (by omega);refine⟨a',d', ?_,g2⟩;rw[<- g1];show qie (qli K f) K m m s a ((a+2*s:Nat):Int) d=_;unfold qie;have w1:IntKind.i64.wrap ((a:Int)+s)=((a+s:Nat):Int):=(i64_in _ (by omega)).trans (by omega);have w2:IntKind.i64.wrap ((2:Int)*s)=((2*s:Nat):Int):=(i64_in _ (by omega)).trans (by omega);have w3:IntKind.i64.wrap (((a+2*s:Nat):Int)+((2*s:Nat):Int))=((a+2*s+2*s:Nat):Int):=(i64_in _ (by omega)).trans (by omega);simp only[w1,w2,w3];refine qat (by omega) (qan (by rw[hr,qfo (by omega),show half3 d a ((a+s:Nat):Int) ((a+2*s:Nat):Int)=true from qnv q1 q2];rfl) ?_);rw[qqx]
  ·refine⟨a,d, ?_,hr,hd,ha,by omega⟩;show qie (qli K f) K m m s a ((a+2*s:Nat):Int) d=_;unfold qie;exact qd0 (by omega) rfl
theorem xbbc(m:Nat)(d0:List CV)(h0:d0.length=m)(hm:m<=2000)(hW: ∀c∈d0,W3A c): ∀(f s:Nat),0<f->0<s->s<=4000->m<s+f->rows3 m (bk (ltK ky3) s d0)=true->qg2 ret3 f m m s (bk (ltK ky3) s d0)=ret3 (isort (ltK ky3) d0)
 | 0,s,hf0,hs,hs2,hf,hr=>by omega
 | f+1,s,hf0,hs,hs2,hf,hr=>by
  show qp0 (qg2 ret3 f) ret3 m m s (bk (ltK ky3) s d0)=_;unfold qp0;refine qac (fun h=> ?_) fun h=>by rw[q9z (by omega)]
  have w2:IntKind.i64.wrap ((2:Int)*s)=((0+2*s:Nat):Int):=(i64_in _ (by omega)).trans (by omega);have w3:IntKind.i64.wrap ((s:Int)*2)=((2*s:Nat):Int):=(i64_in _ (by omega)).trans (by omega);rw[qab];simp only[w2];obtain⟨a',d',g1,g2,g3,g4,g5⟩:=q9x (fun(y7:Nat) (y8 y9 y10:Int) (y11:List CV)=>cond (decide (IntKind.i64.wrap (y10+y9)<y8)) (cond (rows3 y7 y11&&(qdk y7 y10 (IntKind.i64.wrap (y10+y9)) y8&&half3 y11 y10 (IntKind.i64.wrap (y10+y9)) y8)) (qg2 ret3 f y7 y8 (IntKind.i64.wrap (y9*2)) (sym3 y11 y10 (IntKind.i64.wrap (y10+y9)) y8)) none) (qg2 ret3 f y7 y8 (IntKind.i64.wrap (y9*2)) y11)) m s d0 h0 hm hs hs2 FUEL 0 _ hr (q2q d0) (by omega) (by unfold FUEL;omega);refine(show _=_ from g1).trans ?_;obtain⟨p1,p2⟩:=q90 (qef ky3) hs (show a'<=d0.length by omega) (by omega) g3;rw[h0] at p1 p2;obtain⟨e1,e2,e3⟩:=qa7 g2;have w1:IntKind.i64.wrap ((a':Int)+s)=((a'+s:Nat):Int):=(i64_in _ (by omega)).trans (by omega);rw[w1,w3];refine qac (fun h1=> ?_) fun h1=> ?_
  ·have h1:a'+s<m:=by omega
   obtain⟨q1,q2⟩:=p1 h1;rw[if_pos h1] at p2;refine qan (by rw[g2,qfo (by omega),show half3 d' a' ((a'+s:Nat):Int) (m:Int)=true from qnv q1 q2];rfl) ?_;have hr2:=qqj g2 (show a'<=a'+s by omega) (show a'+s<=m by omega) (by omega);rw[p2] at hr2;rw[qqx,p2];exact xbbc m d0 h0 hm hW f (2*s) (by omega) (by omega) (by omega) (by omega) hr2
  ·have h1: ¬a'+s<m:=by omega
   rw[if_neg h1] at p2;rw[p2] at g2 ⊢;exact xbbc m d0 h0 hm hW f (2*s) (by omega) (by omega) (by omega) (by omega) g2
theorem xbra(l:List CV):srt3 l=isort (ltK ky3) l:=by unfold srt3;rw[qab]
theorem xbts(m:Nat)(n:Int)(l:List CV)(hp:(rows3 m l&&decide (n=(m:Int)))=true):xbng m n l=zR [] [some ⟨.gen 3 (srt3 l),false⟩]:=by rw[zab,decide_eq_true_eq] at hp;obtain⟨hr,rfl⟩:=hp;obtain⟨e1,hl,hW⟩:=qa7 hr;unfold xbng;rw[qab,xbra];obtain⟨a',d',g1,g2,g3,g4,g5⟩:=xbfh (fun(y1:Nat) (y2 y3:Int) (y4:List CV)=>cond (rows3 y1 y4&&decide (0<=y3/\y3<=y2/\y2<=(y1:Int))) (shut (qg2 ret3 FUEL) y1 y2 20 (ins3 y4 y3 y2)) none) m l e1.symm (by omega) FUEL 0 l hr (qwa l) (by omega) (by unfold FUEL;omega);refine(show _=_ from g1).trans ?_;refine qan (by rw[g2];simp;omega) ?_;have hb:=q05 (lt:=ltK ky3) (s:=20) (show a'<=l.length by omega) (by omega) g3;obtain⟨e2,_,_⟩:=qa7 g2;have hr2:=q21 g2 (show a'<=m by omega) (by omega);rw[e1,hb] at hr2;rw[qab,qzt,e1,hb];rw[<- e1] at hr2 ⊢;exact xbbc m l e1.symm (by omega) hW FUEL 20 (by unfold FUEL;omega) (by omega) (by omega) (by unfold FUEL;omega) hr2
theorem xboz(m:Nat)(l:List CV)(hp:rows3 m l=true):xbne m l=zR [] [some ⟨.gen 3 (srt3 l),false⟩]:=qan (by rw[hp];simp) rfl
open IntWalk (i64_in u8_in u32_in u64_in i64_quo u8_quo rem_in)
theorem qhw{a b:Nat}(h:a+b<=8000):IntKind.i64.wrap (Int.fdiv (IntKind.u64.wrap (IntKind.i64.wrap ((a:Int)+b))) (2 ^ 1))=(((a+b)/ 2:Nat):Int):=by rw[i64_in ((a:Int)+b) (by omega),u64_in ((a:Int)+b) (by omega),show Int.fdiv ((a:Int)+b) (2 ^ 1)=(((a+b)/ 2:Nat):Int) by rw[zb2 _ (by decide)];omega,i64_in _ (by omega)]
theorem xbl7{P Q:Prop}[Decidable P][Decidable Q]{X Y R:Option Out}(h1:P/\Q->X=R)(h2: ¬(P/\Q)->Y=R):cond (decide P) (cond (decide Q) X Y) Y=R:=
 qac (fun hp=>qac (fun hq=>h1 ⟨hp,hq⟩) fun hq=>h2 fun h=>hq h.2) fun hp=>h2 fun h=>hp h.1
theorem q3a{α:Type}{d:List α}{a:Nat}{x:α}(hx:d[a]? =some x):pu d a (a+1) (seg d (a+1) (a+1)++[x])=d:=by
 have hl:a<d.length:=by
  rcases zbq a d.length with h|h
  ·exact h
  ·rw[zax h] at hx;cases hx
 rw[qsf,za1, <- q27 d hx,qw7 d (by omega) (by omega)]
theorem q29{α:Type}{d:List α}{m:Nat}{y:α}(hy:d[m]? =some y):pu d m (m+1) (y::seg d m m)=d:=by
 have hl:m<d.length:=by
  rcases zbq m d.length with h|h
  ·exact h
  ·rw[zax h] at hy;cases hy
 rw[qsf, <- q27 d hy,qw7 d (by omega) (by omega)]
theorem xbav{α:Type}{d:List α}{a k:Nat}{x:α}(hak:a<=k)(hk:k+1<d.length): ∃z,d[k+1]? =some z/\(pu d a (k+1) (seg d (a+1) (k+1)++[x]))[k]? =some x/\(pu d a (k+1) (seg d (a+1) (k+1)++[x]))[k+1]? =some z/\
  ((pu d a (k+1) (seg d (a+1) (k+1)++[x])).set k z).set (k+1) x=pu d a (k+1+1) (seg d (a+1) (k+1+1)++[x]):=by
 have hz:=zae hk;have hs:=qbk d (a:=a+1) (b:=k+1) (by omega);have hs2:=qbk d (a:=a+1) (b:=k+1+1) (by omega);have hL:(seg d (a+1) (k+1)++[x]).length=k+1 - a:=by rw[zah,hs,zb4];omega
 have hL2:(seg d (a+1) (k+1+1)++[x]).length=k+1+1 - a:=by rw[zah,hs2,zb4];omega
 have g:=fun i=>qne d (a:=a) (b:=k+1) (s:=seg d (a+1) (k+1)++[x]) (by omega) (by omega) hL i;refine⟨_,hz, ?_, ?_, ?_⟩
 ·rw[g,if_pos (by omega),zaw (by omega),hs,show k - a - (k+1 - (a+1))=0 by omega];rfl
 ·rw[g,if_neg (by omega)];exact hz
 ·refine List.ext_getElem? fun i=> ?_;rw[List.getElem?_set,List.getElem?_set,g,qne d (by omega) (by omega) hL2,List.length_set,qw6 d (by omega) (by omega) hL];by_cases h1:k+1=i
  ·rw[if_pos h1,if_pos (by omega),if_pos (by omega),zaw (by omega),hs2,show i - a - (k+1+1 - (a+1))=0 by omega];rfl
  ·rw[if_neg h1];by_cases h2:k=i
   ·rw[if_pos h2,if_pos (by omega),if_pos (by omega),zav (by omega),qdh d (by omega),show a+1+(i - a)=k+1 by omega];exact hz.symm
   ·rw[if_neg h2];by_cases h3:a<=i/\i<k+1
    ·rw[if_pos h3,if_pos (by omega),zav (by omega),zav (by omega),qdh d (by omega),qdh d (by omega)]
    ·rw[if_neg h3,if_neg (by omega)]
theorem xbau{α:Type}{d:List α}{m k:Nat}{y:α}(hk:0<k)(hkm:k<=m)(hm:m<d.length): ∃z,d[k - 1]? =some z/\(pu d k (m+1) (y::seg d k m))[k]? =some y/\(pu d k (m+1) (y::seg d k m))[k - 1]? =some z/\
  ((pu d k (m+1) (y::seg d k m)).set k z).set (k - 1) y=pu d (k - 1) (m+1) (y::seg d (k - 1) m):=by
 have hz:d[k - 1]? =some _:=zae (show k - 1<d.length by omega);have hs:=qbk d (a:=k) (b:=m) (by omega);have hs2:=qbk d (a:=k - 1) (b:=m) (by omega);have hL:(y::seg d k m).length=m+1 - k:=by rw[zaf,hs];omega
 have hL2:(y::seg d (k - 1) m).length=m+1 - (k - 1):=by rw[zaf,hs2];omega
 have g:=fun i=>qne d (a:=k) (b:=m+1) (s:=y::seg d k m) (by omega) (by omega) hL i;refine⟨_,hz, ?_, ?_, ?_⟩
 ·rw[g,if_pos (by omega),show k - k=0 by omega];rfl
 ·rw[g,if_neg (by omega)];exact hz
 ·refine List.ext_getElem? fun i=> ?_;rw[List.getElem?_set,List.getElem?_set,g,qne d (by omega) (by omega) hL2,List.length_set,qw6 d (by omega) (by omega) hL];by_cases h1:k - 1=i
  ·rw[if_pos h1,if_pos (by omega),if_pos (by omega),show i - (k - 1)=0 by omega];rfl
  ·rw[if_neg h1];by_cases h2:k=i
   ·rw[if_pos h2,if_pos (by omega),if_pos (by omega),show i - (k - 1)=0+1 by omega,za3,qdh d (by omega),show k - 1+0=k - 1 by omega];exact hz.symm
   ·rw[if_neg h2];by_cases h3:k<=i/\i<m+1
    ·rw[if_pos h3,if_pos (by omega),show i - k=(i - k - 1)+1 by omega,za3,show i - (k - 1)=(i - k)+1 by omega,za3,qdh d (by omega),qdh d (by omega),show k+(i - k - 1)=k - 1+(i - k) by omega]
    ·rw[if_neg h3,if_neg (by omega)]
theorem q0j(K:Nat->Int->Int->List CV->Option Out)(rk m a:Nat)(d:List CV)(hr:rows4 m d=true)(ha:a<d.length): ∀(f lo hi:Nat),lo<=hi->hi<=d.length->hi - lo<f->qlp rk K f m a lo hi d=K m a ((bsr (fun h=>ltA (ltK ky4) d h a) f lo hi:Nat):Int) d
 | 0,_,_,_,_,_=>by omega
 | f+1,lo,hi,h1,h2,hf=>by
  obtain⟨hm,hl,hW⟩:=qa8 hr;show qp4 rk (qlp rk K f) K m a lo hi d=K m a ((if lo<hi then(if ltA (ltK ky4) d ((lo+hi)/ 2) a=true then bsr (fun h=>ltA (ltK ky4) d h a) f ((lo+hi)/ 2+1) hi else bsr (fun h=>ltA (ltK ky4) d h a) f lo ((lo+hi)/ 2)) else lo:Nat):Int) d;unfold qp4;refine qac (fun h=> ?_) fun h=>by rw[if_neg (by omega)]
  have hlh:lo<hi:=by omega
  rw[if_pos hlh];obtain⟨x,hx⟩: ∃x,d[(lo+hi)/ 2]? =some x:=⟨_,zae (by omega)⟩;obtain⟨y,hy⟩: ∃y,d[a]? =some y:=⟨_,zae ha⟩;have el:=qkm (lt:=ltK ky4) hx hy;have ih1:=q0j K rk m a d hr ha f ((lo+hi)/ 2+1) hi (by omega) (by omega) (by omega);have ih2:=q0j K rk m a d hr ha f lo ((lo+hi)/ 2) (by omega) (by omega) (by omega);obtain⟨t1,b1,k1,w1,rfl,hw1⟩:=hW x (zac hx);obtain⟨t2,b2,k2,w2,rfl,hw2⟩:=hW y (zac hy);rw[el];generalize qlp rk K f=ag at ih1 ih2 ⊢;have e1:=qhw (a:=lo) (b:=hi) (by omega);have e2:IntKind.i64.wrap ((((lo+hi)/ 2:Nat):Int)+1)=(((lo+hi)/ 2+1:Nat):Int):=(i64_in _ (by omega)).trans (by omega);have n1:0+Int.toNat (((lo+hi)/ 2:Nat):Int)=(lo+hi)/ 2:=by omega
  have n2:0+Int.toNat (a:Int)=a:=by omega
  dsimp only;simp only[e1,e2,n1,n2];refine qa1 (by omega) (by omega) ?_;rw[hx,zag];refine qan rfl (qa1 (by omega) (by omega) ?_);rw[hy,zag];refine qan rfl (qan (c:=qad w1&&qad w2) (by rw[hw1,hw2];rfl) ?_);show cond (decide (qbh w1 w2<0)) _ _=K m a ((if decide (qav w1 w2<0)=true then _ else _:Nat):Int) d;rw[xbfl];refine qac (fun hc=> ?_) fun hc=> ?_
  ·rw[if_pos (decide_eq_true hc)];exact ih1
  ·rw[if_neg (by rw[decide_eq_false hc];simp)];exact ih2
theorem q0l(K:Nat->Int->Int->List CV->Option Out)(rk m p:Nat)(d:List CV)(hr:rows4 m d=true)(ha:p<d.length): ∀(f lo hi:Nat),lo<=hi->hi<=d.length->hi - lo<f->qik rk K f m p lo hi d=K m p ((bsr (fun h=> !(ltA (ltK ky4) d p h)) f lo hi:Nat):Int) d
 | 0,_,_,_,_,_=>by omega
 | f+1,lo,hi,h1,h2,hf=>by
  obtain⟨hm,hl,hW⟩:=qa8 hr;show qm1 rk (qik rk K f) K m p lo hi d=K m p ((if lo<hi then(if(!(ltA (ltK ky4) d p ((lo+hi)/ 2)))=true then bsr (fun h=> !(ltA (ltK ky4) d p h)) f ((lo+hi)/ 2+1) hi else bsr (fun h=> !(ltA (ltK ky4) d p h)) f lo ((lo+hi)/ 2)) else lo:Nat):Int) d;unfold qm1;refine qac (fun h=> ?_) fun h=>by rw[if_neg (by omega)]
  have hlh:lo<hi:=by omega
  rw[if_pos hlh];obtain⟨x,hx⟩: ∃x,d[p]? =some x:=⟨_,zae ha⟩;obtain⟨y,hy⟩: ∃y,d[(lo+hi)/ 2]? =some y:=⟨_,zae (by omega)⟩;have el:=qkm (lt:=ltK ky4) hx hy;have ih1:=q0l K rk m p d hr ha f ((lo+hi)/ 2+1) hi (by omega) (by omega) (by omega);have ih2:=q0l K rk m p d hr ha f lo ((lo+hi)/ 2) (by omega) (by omega) (by omega);obtain⟨t1,b1,k1,w1,rfl,hw1⟩:=hW x (zac hx);obtain⟨t2,b2,k2,w2,rfl,hw2⟩:=hW y (zac hy);rw[el];generalize qik rk K f=ag at ih1 ih2 ⊢;have e1:=qhw (a:=lo) (b:=hi) (by omega);have e2:IntKind.i64.wrap ((((lo+hi)/ 2:Nat):Int)+1)=(((lo+hi)/ 2+1:Nat):Int):=(i64_in _ (by omega)).trans (by omega);have n1:0+Int.toNat (((lo+hi)/ 2:Nat):Int)=(lo+hi)/ 2:=by omega
  have n2:0+Int.toNat (p:Int)=p:=by omega
  dsimp only;simp only[e1,e2,n1,n2];refine qa1 (by omega) (by omega) ?_;rw[hx,zag];refine qan rfl (qa1 (by omega) (by omega) ?_);rw[hy,zag];refine qan rfl (qan (c:=qad w1&&qad w2) (by rw[hw1,hw2];rfl) ?_);show cond (!(decide (qbh w1 w2<0))) _ _=K m p ((if(!(decide (qav w1 w2<0)))=true then _ else _:Nat):Int) d;rw[xbfl];refine qa5 (fun hc=> ?_) fun hc=> ?_
  ·rw[if_pos (by rw[decide_eq_false hc];rfl)];exact ih1
  ·rw[if_neg (by rw[decide_eq_true hc];simp)];exact ih2
theorem q0h(K:Nat->Int->Int->Int->Int->Int->Int->List CV->Option Out)(rk m:Nat)(a p b mid n:Int)(q:Nat)(d:List CV)(hr:rows4 m d=true)(hq:q<=8000): ∀(f lo hi:Nat),lo<=hi->hi<=d.length->(∀c,lo<=c->c<hi->c<=q/\q - c<d.length)->hi - lo<f->qim rk K f m a p b mid n lo hi q d=K m a p b mid n ((bsr (fun c=> !(ltA (ltK ky4) d (q - c) c)) f lo hi:Nat):Int) d
 | 0,_,_,_,_,_,_=>by omega
 | f+1,lo,hi,h1,h2,h3,hf=>by
  obtain⟨hm,hl,hW⟩:=qa8 hr;show qm3 rk (qim rk K f) K m a p b mid n lo hi q d=K m a p b mid n ((if lo<hi then(if(!(ltA (ltK ky4) d (q - (lo+hi)/ 2) ((lo+hi)/ 2)))=true then bsr (fun c=> !(ltA (ltK ky4) d (q - c) c)) f ((lo+hi)/ 2+1) hi else bsr (fun c=> !(ltA (ltK ky4) d (q - c) c)) f lo ((lo+hi)/ 2)) else lo:Nat):Int) d;unfold qm3;refine qac (fun h=> ?_) fun h=>by rw[if_neg (by omega)]
  have hlh:lo<hi:=by omega
  rw[if_pos hlh];obtain⟨hc1,hc2⟩:=h3 ((lo+hi)/ 2) (by omega) (by omega);obtain⟨x,hx⟩: ∃x,d[q - (lo+hi)/ 2]? =some x:=⟨_,zae hc2⟩;obtain⟨y,hy⟩: ∃y,d[(lo+hi)/ 2]? =some y:=⟨_,zae (by omega)⟩;have el:=qkm (lt:=ltK ky4) hx hy;have ih1:=q0h K rk m a p b mid n q d hr hq f ((lo+hi)/ 2+1) hi (by omega) (by omega) (fun c hc hd=>h3 c (by omega) hd) (by omega);have ih2:=q0h K rk m a p b mid n q d hr hq f lo ((lo+hi)/ 2) (by omega) (by omega) (fun c hc hd=>h3 c hc (by omega)) (by omega);obtain⟨t1,b1,k1,w1,rfl,hw1⟩:=hW x (zac hx);obtain⟨t2,b2,k2,w2,rfl,hw2⟩:=hW y (zac hy);rw[el];generalize qim rk K f=ag at ih1 ih2 ⊢;have e1:=qhw (a:=lo) (b:=hi) (by omega);have e2:IntKind.i64.wrap ((((lo+hi)/ 2:Nat):Int)+1)=(((lo+hi)/ 2+1:Nat):Int):=(i64_in _ (by omega)).trans (by omega);have e3:IntKind.i64.wrap ((q:Int) - (((lo+hi)/ 2:Nat):Int))=((q - (lo+hi)/ 2:Nat):Int):=(i64_in _ (by omega)).trans (by omega);have n1:0+Int.toNat (((lo+hi)/ 2:Nat):Int)=(lo+hi)/ 2:=by omega
  have n2:0+Int.toNat ((q - (lo+hi)/ 2:Nat):Int)=q - (lo+hi)/ 2:=by omega
  dsimp only;simp only[e1,e2,e3,n1,n2];refine qa1 (by omega) (by omega) ?_;rw[hx,zag];refine qan rfl (qa1 (by omega) (by omega) ?_);rw[hy,zag];refine qan rfl (qan (c:=qad w1&&qad w2) (by rw[hw1,hw2];rfl) ?_);show cond (!(decide (qbh w1 w2<0))) _ _=K m a p b mid n ((if(!(decide (qav w1 w2<0)))=true then _ else _:Nat):Int) d;rw[xbfl];refine qa5 (fun hc=> ?_) fun hc=> ?_
  ·rw[if_pos (by rw[decide_eq_false hc];rfl)];exact ih1
  ·rw[if_neg (by rw[decide_eq_true hc];simp)];exact ih2
theorem xbhw(K:List CV->Option Out)(rk m a i:Nat)(d:List CV)(x:CV)(hx:d[a]? =some x)(hr:rows4 m d=true)(hi:i<=d.length): ∀(f k:Nat),a<=k->k<i->i - k<f->qlq rk K f m i k (pu d a (k+1) (seg d (a+1) (k+1)++[x]))=K (pu d a i (seg d (a+1) i++[x]))
 | 0,_,_,_,_=>by omega
 | f+1,k,h1,h2,hf=>by
  obtain⟨hm,hl,hW⟩:=qa8 hr;show qp5 rk (qlq rk K f) K m i k (pu d a (k+1) (seg d (a+1) (k+1)++[x]))=_;unfold qp5;have w1:IntKind.i64.wrap ((i:Int) - 1)=((i - 1:Nat):Int):=(i64_in _ (by omega)).trans (by omega);have w2:IntKind.i64.wrap ((k:Int)+1)=((k+1:Nat):Int):=(i64_in _ (by omega)).trans (by omega);dsimp only;rw[w1,w2];refine qac (fun h=> ?_) fun h=>by rw[show k+1=i by omega]
  obtain⟨z,hz,g1,g2,g3⟩:=xbav (d:=d) (a:=a) (k:=k) (x:=x) h1 (by omega);have ih:=xbhw K rk m a i d x hx hr hi f (k+1) (by omega) (by omega) (by omega);rw[<- g3] at ih;obtain⟨t1,b1,k1,v1,rfl,hw1⟩:=hW z (zac hz);obtain⟨t2,b2,k2,v2,rfl,hw2⟩:=hW x (zac hx);generalize pu d a (k+1) _=e at ih g1 g2 ⊢;generalize qlq rk K f=ag at ih ⊢;have n1:0+Int.toNat ((k+1:Nat):Int)=k+1:=by omega
  have n2:0+Int.toNat (k:Int)=k:=by omega
  simp only[n1,n2];refine qa1 (by omega) (by omega) ?_;rw[g2,zag];refine qan rfl (qa1 (by omega) (by omega) ?_);rw[g1,zag];refine qan rfl (qa1 (by omega) (by omega) (qa1 (by omega) (by omega) ?_));exact ih
theorem xbhu(K:List CV->Option Out)(rk m p i:Nat)(d:List CV)(x:CV)(hx:d[p]? =some x)(hr:rows4 m d=true)(hp:p<d.length): ∀(f k:Nat),i<=k->k<=p->k - i<f->qil rk K f m i k (pu d k (p+1) (x::seg d k p))=K (pu d i (p+1) (x::seg d i p))
 | 0,_,_,_,_=>by omega
 | f+1,k,h1,h2,hf=>by
  obtain⟨hm,hl,hW⟩:=qa8 hr;show qm2 rk (qil rk K f) K m i k (pu d k (p+1) (x::seg d k p))=_;unfold qm2;refine qac (fun h=> ?_) fun h=>by rw[show k=i by omega]
  have w1:IntKind.i64.wrap ((k:Int) - 1)=((k - 1:Nat):Int):=(i64_in _ (by omega)).trans (by omega);dsimp only;rw[w1];obtain⟨z,hz,g1,g2,g3⟩:=xbau (d:=d) (m:=p) (k:=k) (y:=x) (by omega) h2 hp;have ih:=xbhu K rk m p i d x hx hr hp f (k - 1) (by omega) (by omega) (by omega);rw[<- g3] at ih;obtain⟨t1,b1,k1,v1,rfl,hw1⟩:=hW z (zac hz);obtain⟨t2,b2,k2,v2,rfl,hw2⟩:=hW x (zac hx);generalize pu d k (p+1) _=e at ih g1 g2 ⊢;generalize qil rk K f=ag at ih ⊢;have n1:0+Int.toNat ((k - 1:Nat):Int)=k - 1:=by omega
  have n2:0+Int.toNat (k:Int)=k:=by omega
  simp only[n1,n2];refine qa1 (by omega) (by omega) ?_;rw[g2,zag];refine qan rfl (qa1 (by omega) (by omega) ?_);rw[g1,zag];refine qan rfl (qa1 (by omega) (by omega) (qa1 (by omega) (by omega) ?_));exact ih
theorem xbbq(k0:List CV->Option Out)(rk m mid e b:Nat)(d2 R:List CV)(hr:rows4 m d2=true)(hb:b<=m)(h:(if mid<e/\e<b then symS (ltK ky4) d2 mid e b else d2)=R)(hs:Srt (ltK ky4) (seg d2 mid e)/\Srt (ltK ky4) (seg d2 e b))(hk:b - mid<rk):
  cond (decide ((mid:Int)<e)) (cond (decide ((e:Int)<b)) (cond (rows4 m d2&&(qdk m mid e b&&(half4 d2 mid e b&&decide (((b:Int) - mid).toNat<rk)))) (k0 (sym4 d2 mid e b)) none) (k0 d2)) (k0 d2)=k0 R:=by
 refine xbl7 (fun hc=> ?_) fun hc=> ?_
 ·rw[if_pos ⟨by omega,by omega⟩] at h;refine qan (by rw[hr,qfo (by omega),show half4 d2 mid e b=true from qnv hs.1 hs.2,decide_eq_true (show((b:Int) - mid).toNat<rk by omega)];rfl) ?_;rw[qqy,h]
 ·rw[if_neg (fun hh=>hc ⟨by omega,by omega⟩)] at h;rw[h]
theorem xbbs(k0:List CV->Option Out)(rk m a p b:Nat)(d:List CV)(hr:rows4 m d=true)(hap:a<p)(hpb:p<b)(hb:b<=m)(hs1:Srt (ltK ky4) (seg d a p))(hs2:Srt (ltK ky4) (seg d p b))(hk:b - a<rk+1)(lo hi:Nat)(hlo:lo=if(a+b)/ 2<p then(a+b)/ 2+p - b else a)(hhi:hi=if(a+b)/ 2<p then(a+b)/ 2 else p):
  qh0 rk k0 m a p b (((a+b)/ 2:Nat):Int) (((a+b)/ 2+p:Nat):Int) lo hi d=k0 (symS (ltK ky4) d a p b):=by
 obtain⟨hm,hl,hW⟩:=qa8 hr;unfold qh0;have w1:IntKind.i64.wrap ((((a+b)/ 2+p:Nat):Int) - 1)=(((a+b)/ 2+p - 1:Nat):Int):=(i64_in _ (by omega)).trans (by omega);dsimp only;have hlh:lo<=hi/\hi<=p/\a<=lo/\(a+b)/ 2+p - b<=lo:=by rw[hlo,hhi];split<;>omega
 rw[qab,w1,q0h _ rk m a p b _ _ _ d hr (by omega) FUEL lo hi hlh.1 (by omega) (fun c hc1 hc2=>⟨by omega,by omega⟩) (by unfold FUEL;omega)]
 try dsimp only
 generalize hs:bsr _ FUEL lo hi=s;have hs':s=xbrz (ltK ky4) d a p b FUEL:=by rw[<- hs,hlo,hhi];rfl
 obtain⟨q0,q1,q2,q3,q4,q5,q6,⟨q7,q8⟩,q9,q10⟩:=xbh0 (qef ky4) d hap hpb (by omega) (show b - a<FUEL by unfold FUEL;omega) hs1 hs2 s _ _ _ hs' rfl rfl rfl;generalize hmid:(a+b)/ 2=mid at*;generalize he:mid+p - s=e at*;have w2:IntKind.i64.wrap (((mid+p:Nat):Int) - s)=(e:Int):=(i64_in _ (by omega)).trans (by omega);rw[w2];have hrot:s<p/\p<e->rows4 m (rot d s p e)=true:=fun hc=>by
  have:=xbag d (a:=s) (m:=p) (b:=e) (by omega) (by omega) (by omega);refine qhb ⟨by omega,by omega,fun c hcm=> ?_⟩;unfold rot pu at hcm;rcases zak.1 hcm with g|g
  ·exact hW c (za9 g)
  ·rcases zak.1 g with g|g
   ·exact(zak.1 g).elim (fun g=>hW c (qse g)) fun g=>hW c (qse g)
   ·exact hW c (zbh g)
 have two: ∀d1:List CV,rows4 m d1=true->d1=(if s<p/\p<e then rot d s p e else d)->
   cond (decide ((a:Int)<s)) (cond (decide ((s:Int)<mid)) (cond (rows4 m d1&&(qdk m a s mid&&(half4 d1 a s mid&&decide (((mid:Int) - a).toNat<rk))))
    (cond (decide ((mid:Int)<e)) (cond (decide ((e:Int)<b)) (cond (rows4 m (sym4 d1 a s mid)&&(qdk m mid e b&&(half4 (sym4 d1 a s mid) mid e b&&decide (((b:Int) - mid).toNat<rk)))) (k0 (sym4 (sym4 d1 a s mid) mid e b)) none) (k0 (sym4 d1 a s mid))) (k0 (sym4 d1 a s mid))) none)
    (cond (decide ((mid:Int)<e)) (cond (decide ((e:Int)<b)) (cond (rows4 m d1&&(qdk m mid e b&&(half4 d1 mid e b&&decide (((b:Int) - mid).toNat<rk)))) (k0 (sym4 d1 mid e b)) none) (k0 d1)) (k0 d1)))
    (cond (decide ((mid:Int)<e)) (cond (decide ((e:Int)<b)) (cond (rows4 m d1&&(qdk m mid e b&&(half4 d1 mid e b&&decide (((b:Int) - mid).toNat<rk)))) (k0 (sym4 d1 mid e b)) none) (k0 d1)) (k0 d1))=k0 (symS (ltK ky4) d a p b):=fun d1 hr1 hd1=>by
  rw[<- hd1] at q0 q5 q6 q7 q8 q9 q10;refine xbl7 (fun hc=> ?_) fun hc=> ?_
  ·rw[if_pos (show a<s/\s<mid by omega)] at q0 q6 q9 q10;refine qan (by rw[hr1,qfo (by omega),show half4 d1 a s mid=true from qnv q7 q8,decide_eq_true (show((mid:Int) - a).toNat<rk by omega)];rfl) ?_;rw[qqy];exact xbbq k0 rk m mid e b _ _ (qqk hr1 (by omega) (by omega) (by omega)) hb q0 ⟨q9,q10⟩ (by omega)
  ·rw[if_neg (show ¬(a<s/\s<mid) by omega)] at q0 q6 q9 q10;exact xbbq k0 rk m mid e b _ _ hr1 hb q0 ⟨q9,q10⟩ (by omega)
 refine xbl7 (fun hc=> ?_) fun hc=> ?_
 ·refine qan (by rw[hr,qfo (by omega)];rfl) ?_;have hc':s<p/\p<e:=by omega
  have:=two (rot d s p e) (hrot hc') (if_pos hc').symm;rw[show rotC d s p e=rot d s p e by unfold rotC;rw[qab];rfl];exact this
 ·exact two d hr (if_neg (show ¬(s<p/\p<e) by omega)).symm
theorem xbtv(rk m:Nat)(a p b:Int)(l:List CV)(hp:(rows4 m l&&(qdk m a p b&&half4 l a p b))=true)(hk:(b - a).toNat<rk+1):xbji rk m a p b l=zR [] [some ⟨.gen 4 (sym4 l a p b),false⟩]:=by
 rw[zab,zab] at hp;obtain⟨hr,hc,hh⟩:=hp;obtain⟨e1,hl,hW⟩:=qa8 hr;obtain⟨h1,h2,h3,h4⟩:=qk0 hc;obtain⟨a',rfl⟩:=Int.eq_ofNat_of_zero_le h1;obtain⟨p',rfl⟩:=Int.eq_ofNat_of_zero_le (show 0<=p by omega);obtain⟨b',rfl⟩:=Int.eq_ofNat_of_zero_le (show 0<=b by omega);obtain⟨hs1,hs2⟩:Srt (ltK ky4) (seg l a' p')/\Srt (ltK ky4) (seg l p' b'):=q1p hh;rw[qqy];unfold xbji;have w1:IntKind.i64.wrap ((p':Int) - a')=((p' - a':Nat):Int):=(i64_in _ (by omega)).trans (by omega);have w2:IntKind.i64.wrap ((b':Int) - p')=((b' - p':Nat):Int):=(i64_in _ (by omega)).trans (by omega);dsimp only;rw[w1,w2,qhw (by omega)];obtain⟨x,hx⟩: ∃x,l[a']? =some x:=⟨_,zae (by omega)⟩;obtain⟨y,hy⟩: ∃y,l[p']? =some y:=⟨_,zae (by omega)⟩;refine qac (fun hq=> ?_) fun hq=>qac (fun hq2=> ?_) fun hq2=> ?_
 ·obtain rfl:p'=a'+1:=by omega
  obtain⟨g1,g2,g3⟩:=xbbo (qef ky4) l (a:=a') (b:=b') (f:=FUEL) (by omega) (by omega) (by unfold FUEL;omega) hx hs2 _ rfl;rw[qab,q0j _ rk m a' l hr (by omega) FUEL (a'+1) b' (by omega) (by omega) (by unfold FUEL;omega),qab]
  try dsimp only
  generalize bsr _ FUEL (a'+1) b'=i at g1 g2 g3 ⊢;have:=xbhw ret4 rk m a' i l x hx hr (by omega) FUEL a' (by omega) (by omega) (by unfold FUEL;omega);rw[q3a hx,g3] at this;exact this
 ·obtain rfl:b'=p'+1:=by omega
  obtain⟨g1,g2,g3⟩:=q3j (qef ky4) l (a:=a') (m:=p') (f:=FUEL) (by omega) (by omega) (by unfold FUEL;omega) hy hs1 _ rfl;rw[qab,q0l _ rk m p' l hr (by omega) FUEL a' p' (by omega) (by omega) (by unfold FUEL;omega),qab]
  try dsimp only
  generalize bsr _ FUEL a' p'=i at g1 g2 g3 ⊢;have:=xbhu ret4 rk m p' i l y hy hr (by omega) FUEL p' (by omega) (by omega) (by unfold FUEL;omega);rw[q29 hy,g3] at this;exact this
 ·have w3:IntKind.i64.wrap ((((a'+b')/ 2:Nat):Int)+p')=(((a'+b')/ 2+p':Nat):Int):=(i64_in _ (by omega)).trans (by omega);have hk':b' - a'< rk+1:=by omega
  rw[w3];refine qac (fun hm=> ?_) fun hm=> ?_
  ·have w4:IntKind.i64.wrap ((((a'+b')/ 2+p':Nat):Int) - b')=(((a'+b')/ 2+p' - b':Nat):Int):=(i64_in _ (by omega)).trans (by omega);rw[w4,qab];exact xbbs ret4 rk m a' p' b' l hr (by omega) (by omega) (by omega) hs1 hs2 hk' _ _ (if_pos (by omega)).symm (if_pos (by omega)).symm
  ·rw[qab];exact xbbs ret4 rk m a' p' b' l hr (by omega) (by omega) (by omega) hs1 hs2 hk' _ _ (if_neg (by omega)).symm (if_neg (by omega)).symm
theorem q0i(K:Nat->Int->Int->List CV->Option Out)(rk m a:Nat)(d:List CV)(hr:rows3 m d=true)(ha:a<d.length): ∀(f lo hi:Nat),lo<=hi->hi<=d.length->hi - lo<f->qln rk K f m a lo hi d=K m a ((bsr (fun h=>ltA (ltK ky3) d h a) f lo hi:Nat):Int) d
 | 0,_,_,_,_,_=>by omega
 | f+1,lo,hi,h1,h2,hf=>by
  obtain⟨hm,hl,hW⟩:=qa7 hr;show qp2 rk (qln rk K f) K m a lo hi d=K m a ((if lo<hi then(if ltA (ltK ky3) d ((lo+hi)/ 2) a=true then bsr (fun h=>ltA (ltK ky3) d h a) f ((lo+hi)/ 2+1) hi else bsr (fun h=>ltA (ltK ky3) d h a) f lo ((lo+hi)/ 2)) else lo:Nat):Int) d;unfold qp2;refine qac (fun h=> ?_) fun h=>by rw[if_neg (by omega)]
  have hlh:lo<hi:=by omega
  rw[if_pos hlh];obtain⟨x,hx⟩: ∃x,d[(lo+hi)/ 2]? =some x:=⟨_,zae (by omega)⟩;obtain⟨y,hy⟩: ∃y,d[a]? =some y:=⟨_,zae ha⟩;have el:=qkm (lt:=ltK ky3) hx hy;have ih1:=q0i K rk m a d hr ha f ((lo+hi)/ 2+1) hi (by omega) (by omega) (by omega);have ih2:=q0i K rk m a d hr ha f lo ((lo+hi)/ 2) (by omega) (by omega) (by omega);obtain⟨b1,k1,w1,rfl,hw1⟩:=hW x (zac hx);obtain⟨b2,k2,w2,rfl,hw2⟩:=hW y (zac hy);rw[el];generalize qln rk K f=ag at ih1 ih2 ⊢;have e1:=qhw (a:=lo) (b:=hi) (by omega);have e2:IntKind.i64.wrap ((((lo+hi)/ 2:Nat):Int)+1)=(((lo+hi)/ 2+1:Nat):Int):=(i64_in _ (by omega)).trans (by omega);have n1:0+Int.toNat (((lo+hi)/ 2:Nat):Int)=(lo+hi)/ 2:=by omega
  have n2:0+Int.toNat (a:Int)=a:=by omega
  dsimp only;simp only[e1,e2,n1,n2];refine qa1 (by omega) (by omega) ?_;rw[hx,zag];refine qan rfl (qa1 (by omega) (by omega) ?_);rw[hy,zag];refine qan rfl (qan (c:=qad w1&&qad w2) (by rw[hw1,hw2];rfl) ?_);show cond (decide (qbh w1 w2<0)) _ _=K m a ((if decide (qav w1 w2<0)=true then _ else _:Nat):Int) d;rw[xbfl];refine qac (fun hc=> ?_) fun hc=> ?_
  ·rw[if_pos (decide_eq_true hc)];exact ih1
  ·rw[if_neg (by rw[decide_eq_false hc];simp)];exact ih2
theorem q0k(K:Nat->Int->Int->List CV->Option Out)(rk m p:Nat)(d:List CV)(hr:rows3 m d=true)(ha:p<d.length): ∀(f lo hi:Nat),lo<=hi->hi<=d.length->hi - lo<f->qih rk K f m p lo hi d=K m p ((bsr (fun h=> !(ltA (ltK ky3) d p h)) f lo hi:Nat):Int) d
 | 0,_,_,_,_,_=>by omega
 | f+1,lo,hi,h1,h2,hf=>by
  obtain⟨hm,hl,hW⟩:=qa7 hr;show qmy rk (qih rk K f) K m p lo hi d=K m p ((if lo<hi then(if(!(ltA (ltK ky3) d p ((lo+hi)/ 2)))=true then bsr (fun h=> !(ltA (ltK ky3) d p h)) f ((lo+hi)/ 2+1) hi else bsr (fun h=> !(ltA (ltK ky3) d p h)) f lo ((lo+hi)/ 2)) else lo:Nat):Int) d;unfold qmy;refine qac (fun h=> ?_) fun h=>by rw[if_neg (by omega)]
  have hlh:lo<hi:=by omega
  rw[if_pos hlh];obtain⟨x,hx⟩: ∃x,d[p]? =some x:=⟨_,zae ha⟩;obtain⟨y,hy⟩: ∃y,d[(lo+hi)/ 2]? =some y:=⟨_,zae (by omega)⟩;have el:=qkm (lt:=ltK ky3) hx hy;have ih1:=q0k K rk m p d hr ha f ((lo+hi)/ 2+1) hi (by omega) (by omega) (by omega);have ih2:=q0k K rk m p d hr ha f lo ((lo+hi)/ 2) (by omega) (by omega) (by omega);obtain⟨b1,k1,w1,rfl,hw1⟩:=hW x (zac hx);obtain⟨b2,k2,w2,rfl,hw2⟩:=hW y (zac hy);rw[el];generalize qih rk K f=ag at ih1 ih2 ⊢;have e1:=qhw (a:=lo) (b:=hi) (by omega);have e2:IntKind.i64.wrap ((((lo+hi)/ 2:Nat):Int)+1)=(((lo+hi)/ 2+1:Nat):Int):=(i64_in _ (by omega)).trans (by omega);have n1:0+Int.toNat (((lo+hi)/ 2:Nat):Int)=(lo+hi)/ 2:=by omega
  have n2:0+Int.toNat (p:Int)=p:=by omega
  dsimp only;simp only[e1,e2,n1,n2];refine qa1 (by omega) (by omega) ?_;rw[hx,zag];refine qan rfl (qa1 (by omega) (by omega) ?_);rw[hy,zag];refine qan rfl (qan (c:=qad w1&&qad w2) (by rw[hw1,hw2];rfl) ?_);show cond (!(decide (qbh w1 w2<0))) _ _=K m p ((if(!(decide (qav w1 w2<0)))=true then _ else _:Nat):Int) d;rw[xbfl];refine qa5 (fun hc=> ?_) fun hc=> ?_
  ·rw[if_pos (by rw[decide_eq_false hc];rfl)];exact ih1
  ·rw[if_neg (by rw[decide_eq_true hc];simp)];exact ih2
theorem q0g(K:Nat->Int->Int->Int->Int->Int->Int->List CV->Option Out)(rk m:Nat)(a p b mid n:Int)(q:Nat)(d:List CV)(hr:rows3 m d=true)(hq:q<=8000): ∀(f lo hi:Nat),lo<=hi->hi<=d.length->(∀c,lo<=c->c<hi->c<=q/\q - c<d.length)->hi - lo<f->qij rk K f m a p b mid n lo hi q d=K m a p b mid n ((bsr (fun c=> !(ltA (ltK ky3) d (q - c) c)) f lo hi:Nat):Int) d
 | 0,_,_,_,_,_,_=>by omega
 | f+1,lo,hi,h1,h2,h3,hf=>by
  obtain⟨hm,hl,hW⟩:=qa7 hr;show qm0 rk (qij rk K f) K m a p b mid n lo hi q d=K m a p b mid n ((if lo<hi then(if(!(ltA (ltK ky3) d (q - (lo+hi)/ 2) ((lo+hi)/ 2)))=true then bsr (fun c=> !(ltA (ltK ky3) d (q - c) c)) f ((lo+hi)/ 2+1) hi else bsr (fun c=> !(ltA (ltK ky3) d (q - c) c)) f lo ((lo+hi)/ 2)) else lo:Nat):Int) d;unfold qm0;refine qac (fun h=> ?_) fun h=>by rw[if_neg (by omega)]
  have hlh:lo<hi:=by omega
  rw[if_pos hlh];obtain⟨hc1,hc2⟩:=h3 ((lo+hi)/ 2) (by omega) (by omega);obtain⟨x,hx⟩: ∃x,d[q - (lo+hi)/ 2]? =some x:=⟨_,zae hc2⟩;obtain⟨y,hy⟩: ∃y,d[(lo+hi)/ 2]? =some y:=⟨_,zae (by omega)⟩;have el:=qkm (lt:=ltK ky3) hx hy;have ih1:=q0g K rk m a p b mid n q d hr hq f ((lo+hi)/ 2+1) hi (by omega) (by omega) (fun c hc hd=>h3 c (by omega) hd) (by omega);have ih2:=q0g K rk m a p b mid n q d hr hq f lo ((lo+hi)/ 2) (by omega) (by omega) (fun c hc hd=>h3 c hc (by omega)) (by omega);obtain⟨b1,k1,w1,rfl,hw1⟩:=hW x (zac hx);obtain⟨b2,k2,w2,rfl,hw2⟩:=hW y (zac hy);rw[el];generalize qij rk K f=ag at ih1 ih2 ⊢;have e1:=qhw (a:=lo) (b:=hi) (by omega);have e2:IntKind.i64.wrap ((((lo+hi)/ 2:Nat):Int)+1)=(((lo+hi)/ 2+1:Nat):Int):=(i64_in _ (by omega)).trans (by omega);have e3:IntKind.i64.wrap ((q:Int) - (((lo+hi)/ 2:Nat):Int))=((q - (lo+hi)/ 2:Nat):Int):=(i64_in _ (by omega)).trans (by omega);have n1:0+Int.toNat (((lo+hi)/ 2:Nat):Int)=(lo+hi)/ 2:=by omega
  have n2:0+Int.toNat ((q - (lo+hi)/ 2:Nat):Int)=q - (lo+hi)/ 2:=by omega
  dsimp only;simp only[e1,e2,e3,n1,n2];refine qa1 (by omega) (by omega) ?_;rw[hx,zag];refine qan rfl (qa1 (by omega) (by omega) ?_);rw[hy,zag];refine qan rfl (qan (c:=qad w1&&qad w2) (by rw[hw1,hw2];rfl) ?_);show cond (!(decide (qbh w1 w2<0))) _ _=K m a p b mid n ((if(!(decide (qav w1 w2<0)))=true then _ else _:Nat):Int) d;rw[xbfl];refine qa5 (fun hc=> ?_) fun hc=> ?_
  ·rw[if_pos (by rw[decide_eq_false hc];rfl)];exact ih1
  ·rw[if_neg (by rw[decide_eq_true hc];simp)];exact ih2
theorem xbhv(K:List CV->Option Out)(rk m a i:Nat)(d:List CV)(x:CV)(hx:d[a]? =some x)(hr:rows3 m d=true)(hi:i<=d.length): ∀(f k:Nat),a<=k->k<i->i - k<f->qlo rk K f m i k (pu d a (k+1) (seg d (a+1) (k+1)++[x]))=K (pu d a i (seg d (a+1) i++[x]))
 | 0,_,_,_,_=>by omega
 | f+1,k,h1,h2,hf=>by
  obtain⟨hm,hl,hW⟩:=qa7 hr;show qp3 rk (qlo rk K f) K m i k (pu d a (k+1) (seg d (a+1) (k+1)++[x]))=_;unfold qp3;have w1:IntKind.i64.wrap ((i:Int) - 1)=((i - 1:Nat):Int):=(i64_in _ (by omega)).trans (by omega);have w2:IntKind.i64.wrap ((k:Int)+1)=((k+1:Nat):Int):=(i64_in _ (by omega)).trans (by omega);dsimp only;rw[w1,w2];refine qac (fun h=> ?_) fun h=>by rw[show k+1=i by omega]
  obtain⟨z,hz,g1,g2,g3⟩:=xbav (d:=d) (a:=a) (k:=k) (x:=x) h1 (by omega);have ih:=xbhv K rk m a i d x hx hr hi f (k+1) (by omega) (by omega) (by omega);rw[<- g3] at ih;obtain⟨b1,k1,v1,rfl,hw1⟩:=hW z (zac hz);obtain⟨b2,k2,v2,rfl,hw2⟩:=hW x (zac hx);generalize pu d a (k+1) _=e at ih g1 g2 ⊢;generalize qlo rk K f=ag at ih ⊢;have n1:0+Int.toNat ((k+1:Nat):Int)=k+1:=by omega
  have n2:0+Int.toNat (k:Int)=k:=by omega
  simp only[n1,n2];refine qa1 (by omega) (by omega) ?_;rw[g2,zag];refine qan rfl (qa1 (by omega) (by omega) ?_);rw[g1,zag];refine qan rfl (qa1 (by omega) (by omega) (qa1 (by omega) (by omega) ?_));exact ih
theorem xbht(K:List CV->Option Out)(rk m p i:Nat)(d:List CV)(x:CV)(hx:d[p]? =some x)(hr:rows3 m d=true)(hp:p<d.length): ∀(f k:Nat),i<=k->k<=p->k - i<f->qii rk K f m i k (pu d k (p+1) (x::seg d k p))=K (pu d i (p+1) (x::seg d i p))
 | 0,_,_,_,_=>by omega
 | f+1,k,h1,h2,hf=>by
  obtain⟨hm,hl,hW⟩:=qa7 hr;show qmz rk (qii rk K f) K m i k (pu d k (p+1) (x::seg d k p))=_;unfold qmz;refine qac (fun h=> ?_) fun h=>by rw[show k=i by omega]
  have w1:IntKind.i64.wrap ((k:Int) - 1)=((k - 1:Nat):Int):=(i64_in _ (by omega)).trans (by omega);dsimp only;rw[w1];obtain⟨z,hz,g1,g2,g3⟩:=xbau (d:=d) (m:=p) (k:=k) (y:=x) (by omega) h2 hp;have ih:=xbht K rk m p i d x hx hr hp f (k - 1) (by omega) (by omega) (by omega);rw[<- g3] at ih;obtain⟨b1,k1,v1,rfl,hw1⟩:=hW z (zac hz);obtain⟨b2,k2,v2,rfl,hw2⟩:=hW x (zac hx);generalize pu d k (p+1) _=e at ih g1 g2 ⊢;generalize qii rk K f=ag at ih ⊢;have n1:0+Int.toNat ((k - 1:Nat):Int)=k - 1:=by omega
  have n2:0+Int.toNat (k:Int)=k:=by omega
  simp only[n1,n2];refine qa1 (by omega) (by omega) ?_;rw[g2,zag];refine qan rfl (qa1 (by omega) (by omega) ?_);rw[g1,zag];refine qan rfl (qa1 (by omega) (by omega) (qa1 (by omega) (by omega) ?_));exact ih
theorem xbbp(k0:List CV->Option Out)(rk m mid e b:Nat)(d2 R:List CV)(hr:rows3 m d2=true)(hb:b<=m)(h:(if mid<e/\e<b then symS (ltK ky3) d2 mid e b else d2)=R)(hs:Srt (ltK ky3) (seg d2 mid e)/\Srt (ltK ky3) (seg d2 e b))(hk:b - mid<rk):
  cond (decide ((mid:Int)<e)) (cond (decide ((e:Int)<b)) (cond (rows3 m d2&&(qdk m mid e b&&(half3 d2 mid e b&&decide (((b:Int) - mid).toNat<rk)))) (k0 (sym3 d2 mid e b)) none) (k0 d2)) (k0 d2)=k0 R:=by
 refine xbl7 (fun hc=> ?_) fun hc=> ?_
 ·rw[if_pos ⟨by omega,by omega⟩] at h;refine qan (by rw[hr,qfo (by omega),show half3 d2 mid e b=true from qnv hs.1 hs.2,decide_eq_true (show((b:Int) - mid).toNat<rk by omega)];rfl) ?_;rw[qqx,h]
 ·rw[if_neg (fun hh=>hc ⟨by omega,by omega⟩)] at h;rw[h]
theorem xbbr(k0:List CV->Option Out)(rk m a p b:Nat)(d:List CV)(hr:rows3 m d=true)(hap:a<p)(hpb:p<b)(hb:b<=m)(hs1:Srt (ltK ky3) (seg d a p))(hs2:Srt (ltK ky3) (seg d p b))(hk:b - a<rk+1)(lo hi:Nat)(hlo:lo=if(a+b)/ 2<p then(a+b)/ 2+p - b else a)(hhi:hi=if(a+b)/ 2<p then(a+b)/ 2 else p):
  qhz rk k0 m a p b (((a+b)/ 2:Nat):Int) (((a+b)/ 2+p:Nat):Int) lo hi d=k0 (symS (ltK ky3) d a p b):=by
 obtain⟨hm,hl,hW⟩:=qa7 hr;unfold qhz;have w1:IntKind.i64.wrap ((((a+b)/ 2+p:Nat):Int) - 1)=(((a+b)/ 2+p - 1:Nat):Int):=(i64_in _ (by omega)).trans (by omega);dsimp only;have hlh:lo<=hi/\hi<=p/\a<=lo/\(a+b)/ 2+p - b<=lo:=by rw[hlo,hhi];split<;>omega
 rw[qab,w1,q0g _ rk m a p b _ _ _ d hr (by omega) FUEL lo hi hlh.1 (by omega) (fun c hc1 hc2=>⟨by omega,by omega⟩) (by unfold FUEL;omega)]
 try dsimp only
 generalize hs:bsr _ FUEL lo hi=s;have hs':s=xbrz (ltK ky3) d a p b FUEL:=by rw[<- hs,hlo,hhi];rfl
 obtain⟨q0,q1,q2,q3,q4,q5,q6,⟨q7,q8⟩,q9,q10⟩:=xbh0 (qef ky3) d hap hpb (by omega) (show b - a<FUEL by unfold FUEL;omega) hs1 hs2 s _ _ _ hs' rfl rfl rfl;generalize hmid:(a+b)/ 2=mid at*;generalize he:mid+p - s=e at*;have w2:IntKind.i64.wrap (((mid+p:Nat):Int) - s)=(e:Int):=(i64_in _ (by omega)).trans (by omega);rw[w2];have hrot:s<p/\p<e->rows3 m (rot d s p e)=true:=fun hc=>by
  have:=xbag d (a:=s) (m:=p) (b:=e) (by omega) (by omega) (by omega);refine qit ⟨by omega,by omega,fun c hcm=> ?_⟩;unfold rot pu at hcm;rcases zak.1 hcm with g|g
  ·exact hW c (za9 g)
  ·rcases zak.1 g with g|g
   ·exact(zak.1 g).elim (fun g=>hW c (qse g)) fun g=>hW c (qse g)
   ·exact hW c (zbh g)
 have two: ∀d1:List CV,rows3 m d1=true->d1=(if s<p/\p<e then rot d s p e else d)->
   cond (decide ((a:Int)<s)) (cond (decide ((s:Int)<mid)) (cond (rows3 m d1&&(qdk m a s mid&&(half3 d1 a s mid&&decide (((mid:Int) - a).toNat<rk))))
    (cond (decide ((mid:Int)<e)) (cond (decide ((e:Int)<b)) (cond (rows3 m (sym3 d1 a s mid)&&(qdk m mid e b&&(half3 (sym3 d1 a s mid) mid e b&&decide (((b:Int) - mid).toNat<rk)))) (k0 (sym3 (sym3 d1 a s mid) mid e b)) none) (k0 (sym3 d1 a s mid))) (k0 (sym3 d1 a s mid))) none)
    (cond (decide ((mid:Int)<e)) (cond (decide ((e:Int)<b)) (cond (rows3 m d1&&(qdk m mid e b&&(half3 d1 mid e b&&decide (((b:Int) - mid).toNat<rk)))) (k0 (sym3 d1 mid e b)) none) (k0 d1)) (k0 d1)))
    (cond (decide ((mid:Int)<e)) (cond (decide ((e:Int)<b)) (cond (rows3 m d1&&(qdk m mid e b&&(half3 d1 mid e b&&decide (((b:Int) - mid).toNat<rk)))) (k0 (sym3 d1 mid e b)) none) (k0 d1)) (k0 d1))=k0 (symS (ltK ky3) d a p b):=fun d1 hr1 hd1=>by
  rw[<- hd1] at q0 q5 q6 q7 q8 q9 q10;refine xbl7 (fun hc=> ?_) fun hc=> ?_
  ·rw[if_pos (show a<s/\s<mid by omega)] at q0 q6 q9 q10;refine qan (by rw[hr1,qfo (by omega),show half3 d1 a s mid=true from qnv q7 q8,decide_eq_true (show((mid:Int) - a).toNat<rk by omega)];rfl) ?_;rw[qqx];exact xbbp k0 rk m mid e b _ _ (qqj hr1 (by omega) (by omega) (by omega)) hb q0 ⟨q9,q10⟩ (by omega)
  ·rw[if_neg (show ¬(a<s/\s<mid) by omega)] at q0 q6 q9 q10;exact xbbp k0 rk m mid e b _ _ hr1 hb q0 ⟨q9,q10⟩ (by omega)
 refine xbl7 (fun hc=> ?_) fun hc=> ?_
 ·refine qan (by rw[hr,qfo (by omega)];rfl) ?_;have hc':s<p/\p<e:=by omega
  have:=two (rot d s p e) (hrot hc') (if_pos hc').symm;rw[show rotC d s p e=rot d s p e by unfold rotC;rw[qab];rfl];exact this
 ·exact two d hr (if_neg (show ¬(s<p/\p<e) by omega)).symm
theorem xbtu(rk m:Nat)(a p b:Int)(l:List CV)(hp:(rows3 m l&&(qdk m a p b&&half3 l a p b))=true)(hk:(b - a).toNat<rk+1):xbjh rk m a p b l=zR [] [some ⟨.gen 3 (sym3 l a p b),false⟩]:=by
 rw[zab,zab] at hp;obtain⟨hr,hc,hh⟩:=hp;obtain⟨e1,hl,hW⟩:=qa7 hr;obtain⟨h1,h2,h3,h4⟩:=qk0 hc;obtain⟨a',rfl⟩:=Int.eq_ofNat_of_zero_le h1;obtain⟨p',rfl⟩:=Int.eq_ofNat_of_zero_le (show 0<=p by omega);obtain⟨b',rfl⟩:=Int.eq_ofNat_of_zero_le (show 0<=b by omega);obtain⟨hs1,hs2⟩:Srt (ltK ky3) (seg l a' p')/\Srt (ltK ky3) (seg l p' b'):=q1p hh;rw[qqx];unfold xbjh;have w1:IntKind.i64.wrap ((p':Int) - a')=((p' - a':Nat):Int):=(i64_in _ (by omega)).trans (by omega);have w2:IntKind.i64.wrap ((b':Int) - p')=((b' - p':Nat):Int):=(i64_in _ (by omega)).trans (by omega);dsimp only;rw[w1,w2,qhw (by omega)];obtain⟨x,hx⟩: ∃x,l[a']? =some x:=⟨_,zae (by omega)⟩;obtain⟨y,hy⟩: ∃y,l[p']? =some y:=⟨_,zae (by omega)⟩;refine qac (fun hq=> ?_) fun hq=>qac (fun hq2=> ?_) fun hq2=> ?_
 ·obtain rfl:p'=a'+1:=by omega
  obtain⟨g1,g2,g3⟩:=xbbo (qef ky3) l (a:=a') (b:=b') (f:=FUEL) (by omega) (by omega) (by unfold FUEL;omega) hx hs2 _ rfl;rw[qab,q0i _ rk m a' l hr (by omega) FUEL (a'+1) b' (by omega) (by omega) (by unfold FUEL;omega),qab]
  try dsimp only
  generalize bsr _ FUEL (a'+1) b'=i at g1 g2 g3 ⊢;have:=xbhv ret3 rk m a' i l x hx hr (by omega) FUEL a' (by omega) (by omega) (by unfold FUEL;omega);rw[q3a hx,g3] at this;exact this
 ·obtain rfl:b'=p'+1:=by omega
  obtain⟨g1,g2,g3⟩:=q3j (qef ky3) l (a:=a') (m:=p') (f:=FUEL) (by omega) (by omega) (by unfold FUEL;omega) hy hs1 _ rfl;rw[qab,q0k _ rk m p' l hr (by omega) FUEL a' p' (by omega) (by omega) (by unfold FUEL;omega),qab]
  try dsimp only
  generalize bsr _ FUEL a' p'=i at g1 g2 g3 ⊢;have:=xbht ret3 rk m p' i l y hy hr (by omega) FUEL p' (by omega) (by omega) (by unfold FUEL;omega);rw[q29 hy,g3] at this;exact this
 ·have w3:IntKind.i64.wrap ((((a'+b')/ 2:Nat):Int)+p')=(((a'+b')/ 2+p':Nat):Int):=(i64_in _ (by omega)).trans (by omega);have hk':b' - a'< rk+1:=by omega
  rw[w3];refine qac (fun hm=> ?_) fun hm=> ?_
  ·have w4:IntKind.i64.wrap ((((a'+b')/ 2+p':Nat):Int) - b')=(((a'+b')/ 2+p' - b':Nat):Int):=(i64_in _ (by omega)).trans (by omega);rw[w4,qab];exact xbbr ret3 rk m a' p' b' l hr (by omega) (by omega) (by omega) hs1 hs2 hk' _ _ (if_pos (by omega)).symm (if_pos (by omega)).symm
  ·rw[qab];exact xbbr ret3 rk m a' p' b' l hr (by omega) (by omega) (by omega) hs1 hs2 hk' _ _ (if_neg (by omega)).symm (if_neg (by omega)).symm
open IntWalk (i64_in u8_in u32_in u64_in i64_quo u8_quo rem_in)
theorem qft{p:Prop}:pT p=true↔p:=⟨@of_decide_eq_true _ (Classical.propDecidable _),@decide_eq_true _ (Classical.propDecidable _)⟩
theorem qw0{p:Prop}(h: ¬p):pT p=false:=zat.2 fun e=>h (qft.1 e)
theorem xbt6{p q:Prop}(h:p↔q):pT p=pT q:=congrArg pT (propext h)
theorem qd7{o:List Int}:qks o=true↔o.length<=35184372088832:=by unfold qks;rw[qab,decide_eq_true_eq]
theorem qdl{o:List Int}{k:List CV}:at1Ok o k=true↔xbe7 o/\qj2 k:=by unfold at1Ok;rw[qab,qft]
theorem q3s{k:List CV}:xbrq k=true↔qj2 k:=by unfold xbrq;rw[qab,qft]
theorem qaz{l:List CV}:qbl l=true↔l.length<=1800/\(∀c∈l,WA c)/\qpg l<=1800:=by unfold qbl;rw[qab,qft]
theorem qdg(a b:List Int):qa6 a b=decide (a=b):=qab _
theorem xbap{α:Type}{a b:List α}(hl:a.length=b.length)(L:Nat->Nat->Option Out)(bad good:Option Out)(h1: ∀(n i:Nat) (x:α),i<a.length->a[i]? =some x->b[i]? =some x->L (n+1) i=L n (i+1))(h2: ∀(n i:Nat) (x y:α),i<a.length->a[i]? =some x->b[i]? =some y->x≠y->L (n+1) i=bad)(h3: ∀n,L (n+1) a.length=good): ∀(f i:Nat),i<=a.length->a.length<f+i->L f i=cond (pT (a.drop i=b.drop i)) good bad
 | 0,i,hi,hf=>by omega
 | f+1,i,hi,hf=>by
  rcases zbq i a.length with h|h
  ·obtain⟨x,hx⟩:=qay h;obtain⟨y,hy⟩:=qay (b:=b) (i:=i) (by omega);rw[qdr hx,qdr hy];by_cases e:x=y
   ·subst e;rw[h1 f i x h hx hy,xbap hl L bad good h1 h2 h3 f (i+1) h (by omega)];exact congrArg (fun p=>cond p good bad) (xbt6 (by simp))
   ·rw[h2 f i x y h hx hy e,qw0 fun he=>e (List.cons.inj he).1];rfl
  ·obtain rfl:i=a.length:=by omega
   rw[h3,List.drop_of_length_le (zas _),List.drop_of_length_le (by omega),qft.2 rfl];rfl
theorem qvf{α:Type}{a b:List α}{L:Nat->Nat->Option Out}{bad good x:Option Out}(hx:x=L FUEL 0)(hb:a.length<=1000000000000000)(h1: ∀(n i:Nat) (x:α),i<a.length->a[i]? =some x->b[i]? =some x->L (n+1) i=L n (i+1))(h2: ∀(n i:Nat) (x y:α),i<a.length->a[i]? =some x->b[i]? =some y->x≠y->L (n+1) i=bad)(h3: ∀n,L (n+1) a.length=good):cond (!decide ((a.length:Int)=(b.length:Int))) bad x=cond (pT (a=b)) good bad:=by
 refine qa5 (fun h=> ?_) fun h=> ?_
 ·rw[qw0 fun e=>h (by rw[e])];rfl
 ·rw[hx,xbap (by omega) L bad good h1 h2 h3 FUEL 0 (zcg _) (by unfold FUEL;omega)];rfl
theorem xbhq{α β:Type}(f:α->Option β)(d:β)(l:List α)(L:Nat->Nat->List β->Option Out)(bad:Option Out)(fin:List β->Option Out)(hstep: ∀(n i:Nat) (acc:List β) (x:α),i<l.length->acc.length=l.length->l[i]? =some x->L (n+1) i acc=match f x with|some y=>L n (i+1) (acc.set i y)|none=>bad)(hend: ∀(n:Nat) (acc:List β),L (n+1) l.length acc=fin acc):
  ∀(fuel i:Nat) (acc:List β),i<=l.length->acc.length=i->l.length<fuel+i->L fuel i (acc++List.replicate (l.length - i) d)=if(l.drop i).all (fun c=>(f c).isSome)=true then fin (acc++(l.drop i).filterMap f) else bad
 | 0,i,acc,hi,ha,hf=>by omega
 | fuel+1,i,acc,hi,ha,hf=>by
  rcases zbq i l.length with h|h
  ·obtain⟨x,hx⟩:=qay h;rw[hstep fuel i _ x h (by rw[zah,List.length_replicate];omega) hx,qdr hx,zc2]
   cases hy:f x with
   | none=>simp
   | some y=>
    show L fuel (i+1) _=_;rw[List.set_append_right _ _ (by omega),ha,Nat.sub_self,show l.length - i=(l.length - (i+1))+1 by omega,List.replicate_succ,List.set_cons_zero,List.append_cons,
     xbhq f d l L bad fin hstep hend fuel (i+1) (acc++[y]) h (by simp[ha]) (by omega),zcz hy]
    simp
  ·obtain rfl:i=l.length:=by omega
   rw[Nat.sub_self,List.replicate_zero,za6,hend,List.drop_of_length_le (zas _)];simp
theorem xbq8{α β:Type}{f:α->Option β}{d:β}{l:List α}{L:Nat->Nat->List β->Option Out}{bad:Option Out}{fin:List β->Option Out}{w:Int}{x:Option Out}(hl:l.length<=1000000)(hw0:0<=w)(hw:w<=100)(hx:x=L FUEL 0 (List.replicate l.length d))(hstep: ∀(n i:Nat) (acc:List β) (x:α),i<l.length->acc.length=l.length->l[i]? =some x->L (n+1) i acc=match f x with|some y=>L n (i+1) (acc.set i y)|none=>bad)(hend: ∀(n:Nat) (acc:List β),L (n+1) l.length acc=fin acc):
  cond (decide ((0:Int)<=(l.length:Int))) (cond (decide ((l.length:Int)<=(l.length:Int))) (cond (decide ((l.length:Int)*w<=LIM)) (cond (decide ((l.length:Int)<=LIM)) x none) none) none) none=if l.all (fun c=>(f c).isSome)=true then fin (l.filterMap f) else bad:=by
 have hm:(l.length:Int)*w<=1000000*100:=Int.mul_le_mul (by omega) hw hw0 (by omega);refine qat (by omega) (qat (Int.le_refl _) (qat (by unfold LIM;omega) (qat (by unfold LIM;omega) ?_)));exact hx.trans (xbhq f d l L bad fin hstep hend FUEL 0 [] (zcg _) rfl (by unfold FUEL;omega))
theorem q7n{α β:Type}(f:α->Option β)(l:List α)(L:Nat->Nat->List β->Option Out)(bad:Option Out)(fin:List β->Option Out)(hstep: ∀(n i:Nat) (acc:List β) (x:α),i<l.length->acc.length=i->l[i]? =some x->L (n+1) i acc=match f x with|some y=>L n (i+1) (acc++[y])|none=>bad)(hend: ∀(n:Nat) (acc:List β),acc.length=l.length->L (n+1) l.length acc=fin acc):
  ∀(fuel i:Nat) (acc:List β),i<=l.length->acc.length=i->l.length<fuel+i->L fuel i acc=if(l.drop i).all (fun c=>(f c).isSome)=true then fin (acc++(l.drop i).filterMap f) else bad
 | 0,i,acc,hi,ha,hf=>by omega
 | fuel+1,i,acc,hi,ha,hf=>by
  rcases zbq i l.length with h|h
  ·obtain⟨x,hx⟩:=qay h;rw[hstep fuel i acc x h ha hx,qdr hx,zc2]
   cases hy:f x with
   | none=>simp
   | some y=>
    show L fuel (i+1) (acc++[y])=_;rw[q7n f l L bad fin hstep hend fuel (i+1) (acc++[y]) h (by simp[ha]) (by omega),zcz hy];simp
  ·obtain rfl:i=l.length:=by omega
   rw[hend _ _ ha,List.drop_length];simp
theorem q7o{α β:Type}{f:α->Option β}{l:List α}{L:Nat->Nat->List β->Option Out}{bad:Option Out}{fin:List β->Option Out}{x:Option Out}(hl:l.length<=1000000)(hx:x=L FUEL 0 [])(hstep: ∀(n i:Nat) (acc:List β) (x:α),i<l.length->acc.length=i->l[i]? =some x->L (n+1) i acc=match f x with|some y=>L n (i+1) (acc++[y])|none=>bad)(hend: ∀(n:Nat) (acc:List β),acc.length=l.length->L (n+1) l.length acc=fin acc):x=if l.all (fun c=>(f c).isSome)=true then fin (l.filterMap f) else bad:=
 hx.trans (q7n f l L bad fin hstep hend FUEL 0 [] (zcg _) rfl (by unfold FUEL;omega))
theorem room{n:Nat}{w:Int}{x r:Option Out}(hn:n<=1000000)(h:x=r)(h0:0<=w:=by omega)(hw:w<=100:=by omega):cond (decide ((0:Int)<=(n:Int))) (cond (decide ((n:Int)*w<=LIM)) (cond (decide ((n:Int)<=LIM)) x none) none) none=r:=by have hm:(n:Int)*w<=1000000*100:=Int.mul_le_mul (by omega) hw h0 (by omega);exact qat (by omega) (qat (by unfold LIM;omega) (qat (by unfold LIM;omega) h))
theorem q2t{β:Type}{acc:List β}{y:β}{i w:Nat}{A:Nat->Int->List β->Option Out}(ha:acc.length=i)(hi:i<1000000)(hw:w<=100):rmK (acc++[y]).length w (A (acc++[y]).length (IntKind.i64.wrap ((i:Int)+1)) (acc++[y]))=A (acc++[y]).length ((i+1:Nat):Int) (acc++[y]):=by
 have e3:(acc++[y]).length=i+1:=by rw[zah,ha];rfl
 have hm:(acc++[y]).length*w<=1000000*100:=Nat.mul_le_mul (by omega) hw;rw[show IntKind.i64.wrap ((i:Int)+1)=((i+1:Nat):Int) from(i64_in _ (by omega)).trans (by omega)];exact qxc (by omega) (by omega) rfl
theorem xbov(o:List Int)(hp:qks o=true):xbf7 o=zR [.cl (.sli .u32 o)] []:=by
 have hp:=qd7.1 hp;unfold xbf7;simp only[za1];refine qf1 (fun h=> ?_) fun h=> ?_
 ·have h:=zal (qag.1 h);subst h;unfold xbi0;rw[if_pos (Eq.symm (qxc (by simp) (by simp) rfl))]
 ·exact qxc (by omega) (by omega) rfl
theorem xbaq{a b:List Int}{x:Option Out}(h:x=cond (pT (a=b)) (zB true) (zB false)):x=zB (qa6 a b):=by
 rw[h,qdg];by_cases e:a=b
 ·rw[qft.2 e,decide_eq_true e];rfl
 ·rw[qw0 e,decide_eq_false e];rfl
theorem qoc{i:Nat}(h:i<=1000000000000000):IntKind.i64.wrap ((i:Int)+1)=((i+1:Nat):Int):=(i64_in _ (by omega)).trans (by omega)
theorem xbwp(a b:List Int)(hp:qks a=true):xbvj a b=zB (qa6 a b):=by
 have hp:=qd7.1 hp;unfold xbvj;rw[qab];refine xbaq (qvf (L:=fun f i=>qz0 _ _ f a b (a.length:Int) (i:Int)) rfl (by omega) (fun n i x hi hx hy=> ?_) (fun n i x y hi hx hy hne=> ?_) fun n=> ?_)
 ·refine qat (by omega) (qbd (by omega) hx (qbd (by omega) hy (qn7 rfl ?_)));rw[qoc (by omega)];rfl
 ·exact qat (by omega) (qbd (by omega) hx (qbd (by omega) hy (qzi hne rfl)))
 ·exact qd0 (by omega) rfl
theorem xboy(a b:List Int)(hp:qks a=true):xbna a b=zB (qa6 a b):=qan hp rfl
theorem xbo4(a b:List Int)(hp:qks a=true):xbgd a b=zB (qa6 a b):=by
 have hp:=qd7.1 hp;unfold xbgd;rw[qab];refine xbaq (qvf (L:=fun f i=>qp6 _ _ f a b (i:Int)) rfl (by omega) (fun n i x hi hx hy=> ?_) (fun n i x y hi hx hy hne=> ?_) fun n=> ?_)
 ·refine qat (by omega) (qbd (by omega) hx (qbd (by omega) hy (qn7 rfl ?_)));rw[qoc (by omega)];rfl
 ·exact qat (by omega) (qbd (by omega) hx (qbd (by omega) hy (qzi hne rfl)))
 ·exact qd0 (by omega) rfl
theorem xbwu(o:List Int)(k:List CV)(p:List Int)(q:List CV)(hp:qks p=true):xbv9 o k p q=zR [.cl (.bool (qa6 p o))] [some ⟨.var [.cl (.sli .u32 p),.cl (.slg 3 q)],false⟩]:=qan hp rfl
theorem xbwm(o:List Int)(k:List CV)(p:List Int)(hp:qks o=true):xbv7 o k p=zR [.cl (.bool (qa6 o p))] [some ⟨.var [.cl (.sli .u32 p)],false⟩]:=qan hp rfl
theorem xbdd{p:List Int}: ∀ {l:List CV} {i:Nat},qvv p i l<0↔ ∀c∈l,typA c≠p
 | [],i=>by simp[qvv]
 | c::r,i=>by
  unfold qvv;by_cases h:typA c=p
  ·rw[if_pos h];exact⟨fun e=>by omega,fun e=>absurd h (e c (by simp))⟩
  ·rw[if_neg h,xbdd];simp[h]
theorem xbns{p:List Int}: ∀ {l:List CV} {i:Nat},0<=qvv p i l->∃(j:Nat) (c:CV),qvv p i l=((i+j:Nat):Int)/\l[j]? =some c/\l.find? (fun c=>decide (typA c=p))=some c
 | [],i,h=>by simp[qvv] at h
 | c::r,i,h=>by
  unfold qvv at h ⊢;by_cases e:typA c=p
  ·rw[if_pos e];exact⟨0,c,rfl,rfl,by simp[e]⟩
  ·rw[if_neg e] at h ⊢;obtain⟨j,c',h1,h2,h3⟩:=xbns h;exact⟨j+1,c',by rw[h1];omega,h2,by rw[List.find?_cons_of_neg (by simpa using e)];exact h3⟩
theorem xbnt(K:Int->List Int->List CV->Option Out)(K1:List Int->List CV->Option Out)(hK: ∀a b,K1 a b=K (-1) a b)(l:List CV)(hl:l.length<=1800)(hw: ∀c∈l,WA c)(p:List Int)(q:List CV)(hp:qks p=true): ∀(f i:Nat),i<=l.length->l.length<f+i->
  qug K K1 f l (l.length:Int) (i:Int) p q=K (qvv p i (l.drop i)) p q
 | 0,i,hi,hf=>by omega
 | f+1,i,hi,hf=>by
  show quh (qug K K1 f) K K1 l _ _ p q=_;unfold quh;refine qac (fun h=> ?_) fun h=> ?_
  ·obtain⟨c,hc⟩:=qay (b:=l) (i:=i) (by omega);rw[qdr hc];obtain⟨o,k,rfl,ho,hk⟩:=hw c (zac hc);refine qbd (by omega) hc (qan rfl (qan hp ?_));show cond (qa6 p o) _ _=_;rw[qdg];unfold qvv;refine qac (fun e=> ?_) fun e=> ?_
   ·rw[if_pos (show typA (mkA o k)=p from e.symm)]
   ·rw[if_neg (show ¬typA (mkA o k)=p from fun e'=>e (Eq.symm e')),qoc (by omega)];exact xbnt K K1 hK l hl hw p q hp f (i+1) (by omega) (by omega)
  ·obtain rfl:i=l.length:=by omega
   rw[hK,List.drop_of_length_le (zas _)];rfl
theorem xbgp(K:Int->List Int->Option Out)(K1:List Int->Option Out)(hK: ∀a,K1 a=K (-1) a)(l:List CV)(hl:l.length<=1800)(hw: ∀c∈l,WA c)(p:List Int): ∀(f i:Nat),i<=l.length->l.length<f+i->
  qle K K1 f l (l.length:Int) (i:Int) p=K (qvv p i (l.drop i)) p
 | 0,i,hi,hf=>by omega
 | f+1,i,hi,hf=>by
  show qmv (qle K K1 f) K K1 l _ _ p=_;unfold qmv;refine qac (fun h=> ?_) fun h=> ?_
  ·obtain⟨c,hc⟩:=qay (b:=l) (i:=i) (by omega);rw[qdr hc];obtain⟨o,k,rfl,ho,hk⟩:=hw c (zac hc);refine qbd (by omega) hc (qan rfl (qan (qd7.2 ho.1) ?_));show cond (qa6 o p) _ _=_;rw[qdg];unfold qvv;refine qac (fun e=> ?_) fun e=> ?_
   ·rw[if_pos (show typA (mkA o k)=p from e)]
   ·rw[if_neg (show ¬typA (mkA o k)=p from e),qoc (by omega)];exact xbgp K K1 hK l hl hw p f (i+1) (by omega) (by omega)
  ·obtain rfl:i=l.length:=by omega
   rw[hK,List.drop_of_length_le (zas _)];rfl
theorem xbow(l:List CV)(p:List Int)(q:List CV)(hp:(qbl l&&qks p)=true):xbf8 l p q=zR [.cl (.int .i64 (idxA p l))] [some ⟨.var [.cl (.sli .u32 p),.cl (.slg 3 q)],false⟩]:=by rw[zab] at hp;obtain⟨hl,hw,_⟩:=qaz.1 hp.1;unfold xbf8 idxA;rw[qab,qab];exact xbnt _ _ (fun _ _=>rfl) l hl hw p q hp.2 FUEL 0 (zcg _) (by unfold FUEL;omega)
theorem xbox(l:List CV)(p:List Int)(hp:qbl l=true):xbf9 l p=zR [.cl (.int .i64 (idxA p l))] [some ⟨.var [.cl (.sli .u32 p)],false⟩]:=by obtain⟨hl,hw,_⟩:=qaz.1 hp;unfold xbf9 idxA;rw[qab,qab];exact xbgp _ _ (fun _=>rfl) l hl hw p FUEL 0 (zcg _) (by unfold FUEL;omega)
theorem xbwh(l:List CV)(p:List Int)(q:List CV)(hp:(qbl l&&qks p)=true):xbv5 l p q=zR [.cl (.bool (hasA p l))] [some ⟨.var [.cl (.sli .u32 p),.cl (.slg 3 q)],false⟩]:=by unfold hasA;refine qan hp ?_;unfold idxA;rw[qab,qab]
theorem q69(l:List CV)(n:Nat):qpg (l.take n)<=qpg l:=by
 have:qpg l=qpg (l.take n++l.drop n):=by rw[List.take_append_drop]
 rw[this];unfold qpg;rw[List.map_append,List.sum_append];omega
theorem q6y{l:List CV}(h:qbl l=true)(n:Nat):qbl (l.take n)=true:=by obtain⟨h1,h2,h3⟩:=qaz.1 h;have:=q69 l n;exact qaz.2 ⟨by rw[zbt];omega,fun c hc=>h2 c (za9 hc),by omega⟩
theorem xbbw(l:List CV)(hp:qbl l=true)(K0 K1:Option Out): ∀(f i:Nat),i<=l.length->l.length<f+i->((l.take i).map typA).Nodup->
  qlr K0 K1 f l l (l.length:Int) (i:Int)=cond (pT (l.map typA).Nodup) K1 K0
 | 0,i,hi,hf,_=>by omega
 | f+1,i,hi,hf,hn=>by
  obtain⟨hl,hw,_⟩:=qaz.1 hp;show qm4 (qlr K0 K1 f) K0 K1 l l _ _=_;unfold qm4;refine qac (fun h=> ?_) fun h=> ?_
  ·obtain⟨c,hc⟩:=qay (b:=l) (i:=i) (by omega);have ih:=xbbw l hp K0 K1 f (i+1) (by omega) (by omega);rw[List.take_add_one,hc] at ih;obtain⟨o,k,rfl,ho,hk⟩:=hw c (zac hc);have hm:mkA o k∈l.drop i:=by rw[qdr hc];simp
   refine qbd (by omega) hc (qan rfl (qat (by omega) (qat (by omega) ?_)));rw[show Int.toNat (i:Int)=i by omega];refine qan (by rw[q6y hp];exact qd7.2 ho.1) ?_;show cond (hasA o (l.take i)) _ _=_;unfold hasA;rw[qab];refine qac (fun e=> ?_) fun e=> ?_
   ·rw[qw0]
    ·rfl
    ·intro hnd;rw[<- List.take_append_drop i l,List.map_append,List.nodup_append] at hnd;have: ¬qvv o 0 (l.take i)<0:=by omega
     refine this (xbdd.2 fun c hc e'=> ?_);exact hnd.2.2 (typA c) (List.mem_map_of_mem hc) (typA (mkA o k)) (List.mem_map_of_mem hm) e'
   ·rw[qoc (by omega)];refine ih ?_;rw[List.map_append,List.nodup_append];refine⟨hn,by simp,fun a ha b hb=> ?_⟩;obtain⟨c,hc,rfl⟩:=zba.1 ha;have e2:=xbdd.1 (show qvv o 0 (l.take i)<0 by omega) c hc;simp at hb;rw[hb];exact e2
  ·obtain rfl:i=l.length:=by omega
   rw[zcf] at hn;rw[qft.2 hn];rfl
theorem xbo3(l:List CV)(hp:qbl l=true):xbgc l=zB (twoA l):=by
 obtain⟨hl,_⟩:=qaz.1 hp;unfold xbgc twoA;rw[qab,qab];refine(xbbw l hp _ _ FUEL 0 (zcg _) (by unfold FUEL;omega) (by simp)).trans ?_;by_cases h:(l.map typA).Nodup
 ·rw[qft.2 h,decide_eq_false (fun e=>e h)];rfl
 ·rw[qw0 h,decide_eq_true h];rfl
open IntWalk (i64_in u8_in u32_in u64_in i64_quo u8_quo rem_in)
theorem q3r: ∀ {k:List CV},(∀v∈k,qur v)->∃n,(∀c∈k, ∃y,c=.agg y/\isTf n y=true)/\∀m,n<=m->(k.map fun c=>qdn m (cell1 c)).sum=qgn k
 | [],_=>⟨0,by simp,fun m _=>rfl⟩
 | v::r,h=>by
  obtain⟨n,h1,h2⟩:=q3r fun c hc=>h c (zaz _ hc);obtain⟨t,b,k,rfl,hs⟩:=h v (by simp);obtain⟨m,hm,_⟩:=qcp hs;refine⟨max n m,fun c hc=> ?_,fun p hp=> ?_⟩
  ·rcases zau.1 hc with rfl|hc
   ·exact⟨_,rfl,xbbv hm (by omega)⟩
   ·obtain⟨y,rfl,hy⟩:=h1 c hc;exact⟨y,rfl,xbbv hy (by omega)⟩
  ·have e:=qwc (xbbv hm (show m<=p by omega)) (qei hm);have e2:=h2 p (by omega);unfold qgn at e2 ⊢;rw[zby,zci,zby,zci,e2];exact congrArg (· +_) e
abbrev ndC(t:Int)(b:List Int)(k:List CV):List CV:=[.int .i64 t,.sli .u8 b,.slg 3 k]
noncomputable abbrev q7a(a:List CV):Nat:=qdn (rkOf a) a
theorem qr3{t:Int}{b:List Int}{k:List CV}(hb: ∀x∈b,0<=x/\x<=255)(h: ∀v∈k,qur v)(hB:1+b.length+qgn k<=30000):isS (ndC t b k)=true/\q7a (ndC t b k)=1+b.length+qgn k:=by
 obtain⟨n,h1,h2⟩:=q3r h;have ht:=xbv0 (t:=t) hb h1;have hk:qdn (n+1) (ndC t b k)=1+b.length+qgn k:=by rw[<- h2 n (zas _)];rfl
 exact⟨q8t ht (by rw[hk];exact hB),(qwc (qei ht) ht).trans hk⟩
theorem qd9{t:Int}{b:List Int}{k:List CV}(h:isS (ndC t b k)=true):(∀v∈k,qur v)/\q7a (ndC t b k)=1+b.length+qgn k/\1+b.length+qgn k<=30000:=by
 obtain⟨n,hn,hB⟩:=qcp h;obtain⟨m,t',b',l',rfl,e,hb,hl⟩:=qch hn;cases e;have hB':1+b.length+(k.map fun c=>qdn m (cell1 c)).sum<=30000:=hB;have hk: ∀v∈k,qur v:=fun c hc=>by have hm:=qqw (g:=fun c=>qdn m (cell1 c)) hc;obtain⟨y,rfl,hy⟩:=hl c hc;obtain⟨_,t1,b1,k1,_,rfl,_⟩:=qch hy;exact⟨t1,b1,k1,rfl,q8t hy (zbu hm (by omega))⟩
 obtain⟨n,h1,h2⟩:=q3r hk;have e:qdn (max n m+1) (ndC t b k)=qdn (m+1) (ndC t b k):=qwc (xbbv hn (by omega)) hn;have e2:qdn (max n m+1) (ndC t b k)=1+b.length+qgn k:=by rw[<- h2 (max n m) (by omega)];rfl
 exact⟨hk,((qwc (qei hn) hn).trans e.symm).trans e2,by omega⟩
theorem flat6: ∀l:List Int,(l.flatMap qaq).length<=6*l.length
 | []=>by simp
 | x::r=>by have:=qzq x;have:=flat6 r;rw[za5,zah,zaf];omega
theorem xbnp{o:List Int}(hf:qbe o=true)(hr: ∀n∈o,inU n):qbm 6 (qal o)=true:=by show decide ((qc9 (qal o)).2=0)=true;rw[show qal o=qbz o from qab _,qr8 hf hr];rfl
theorem made6{o:List Int}(hr: ∀n∈o,inU n):((qcm 6 (qal o)).2.2=0↔qbe o=true)/\(qcm 6 (qal o)).2.1.length<=120/\∀x∈(qcm 6 (qal o)).2.1,0<=x/\x<=255:=by
 have e:qal o=qbz o:=qab _
 cases hf:qbe o with
 | true=>
  rw[qq3 (xbnp hf hr)];refine⟨by simp, ?_,(q2k hr).2⟩;show(qal o).length<=120;rw[e,qf2 hf];have:=flat6 (oflat o);have:=qut hf;have:=(qzo hf).2;omega
 | false=>
  have e2:qal o=[]:=by rw[e];unfold qbz;rw[hf];rfl
  rw[e2,qvs rfl];simp
theorem xbn1{o:List Int}(ho:xbe7 o):isS (ndC (qcm 6 (qal o)).1 (qcm 6 (qal o)).2.1 [])=true/\q7a (ndC (qcm 6 (qal o)).1 (qcm 6 (qal o)).2.1 [])<=121:=by obtain⟨_,h1,h2⟩:=made6 ho.2;have h:=qr3 (t:=(qcm 6 (qal o)).1) (k:=[]) h2 (by simp) (by show 1+_+0<=_;omega);exact⟨h.1,by rw[h.2];show 1+_+0<=_;omega⟩
theorem quq: ∀x∈([]:List Int),0<=x/\x<=255:=by simp
theorem qrz{o:List Int}{k:List CV}(ho:xbe7 o)(hk:qj2 k):isS (ndA (mkA o k))=true/\q7a (ndA (mkA o k))<=123+qgn k:=by
 obtain⟨a1,a2⟩:=xbn1 ho;obtain⟨b1,b2⟩:=qr3 (t:=49) (b:=[]) quq hk.1 (by have:=hk.2;simp;omega);have hb:qgn (qvw o k)=q7a (ndC (qcm 6 (qal o)).1 (qcm 6 (qal o)).2.1 [])+q7a (ndC 49 [] k):=rfl;have:=hk.2;simp only[zbr] at b2;obtain⟨c1,c2⟩:=qr3 (t:=48) (b:=[]) (k:=qvw o k) quq (fun v hv=>by
  unfold qvw at hv;simp only[zau,zc9,or_false] at hv;rcases hv with rfl|rfl
  ·exact⟨_,_,_,rfl,a1⟩
  ·exact⟨_,_,_,rfl,b1⟩) (by simp;omega)
 refine⟨c1, ?_⟩;show q7a (ndC 48 [] (qvw o k))<=_;rw[c2];simp;omega
noncomputable def gIf(P:CV->Prop)(g:CV->CV)(c:CV):Option CV:=@ite _ (P c) (Classical.propDecidable _) (some (g c)) none
theorem q1l{P:CV->Prop}{g:CV->CV}{c:CV}(h:P c):gIf P g c=some (g c):=if_pos h
theorem q7x{P:CV->Prop}{g:CV->CV}{c:CV}(h: ¬P c):gIf P g c=none:=if_neg h
theorem xbfw{P:CV->Prop}{g:CV->CV}: ∀ {l:List CV},(∀c∈l,P c)->l.filterMap (gIf P g)=l.map g
 | [],_=>rfl
 | c::r,h=>by rw[zcz (q1l (h c (by simp))),xbfw fun c hc=>h c (by simp[hc])];rfl
theorem xbfv{P:CV->Prop}{g:CV->CV}{l:List CV}{x:List CV->Option Out}{y r:Option Out}(h1:(∀c∈l,P c)->x (l.map g)=r)(h2: ¬(∀c∈l,P c)->y=r):(if l.all (fun c=>(gIf P g c).isSome)=true then x (l.filterMap (gIf P g)) else y)=r:=by
 by_cases h: ∀c∈l,P c
 ·rw[if_pos (by rw[zaj];exact fun c hc=>by rw[q1l (h c hc)];rfl),xbfw h];exact h1 h
 ·rw[if_neg]
  ·exact h2 h
  ·rw[zaj];intro ha;refine h fun c hc=>Classical.byContradiction fun hn=> ?_;have:=ha c hc;rw[q7x hn] at this;cases this
theorem q7m{P:CV->Prop}{g:CV->CV}{l:List CV}{L:Nat->Nat->List CV->Option Out}{bad:Option Out}{fin:List CV->Option Out}{x r:Option Out}(hl:l.length<=1000000)(hx:x=L FUEL 0 [])(hs: ∀(n i:Nat) (acc:List CV) (c:CV),i<l.length->acc.length=i->l[i]? =some c->(P c->L (n+1) i acc=L n (i+1) (acc++[g c]))/\(¬P c->L (n+1) i acc=bad))(hend: ∀(n:Nat) (acc:List CV),acc.length=l.length->L (n+1) l.length acc=fin acc)(h1:(∀c∈l,P c)->fin (l.map g)=r)(h2: ¬(∀c∈l,P c)->bad=r):x=r:=by
 refine(q7o (f:=gIf P g) hl hx (fun n i acc c hi ha hc=> ?_) hend).trans (xbfv (x:=fin) h1 h2);obtain⟨a1,a2⟩:=hs n i acc c hi ha hc;by_cases h:P c
 ·rw[q1l h];exact a1 h
 ·rw[q7x h];exact a2 h
theorem xblo{P:CV->Prop}{g:CV->CV}{d:CV}{l:List CV}{L:Nat->Nat->List CV->Option Out}{bad:Option Out}{fin:List CV->Option Out}{w:Int}{x r:Option Out}(hl:l.length<=1000000)(hx:x=L FUEL 0 (List.replicate l.length d))(hs: ∀(n i:Nat) (acc:List CV) (c:CV),i<l.length->acc.length=l.length->l[i]? =some c->(P c->L (n+1) i acc=L n (i+1) (acc.set i (g c)))/\(¬P c->L (n+1) i acc=bad))(hend: ∀(n:Nat) (acc:List CV),L (n+1) l.length acc=fin acc)(h1:(∀c∈l,P c)->fin (l.map g)=r)(h2: ¬(∀c∈l,P c)->bad=r)(hw0:0<=w:=by omega)(hw:w<=100:=by omega):
  cond (decide ((0:Int)<=(l.length:Int))) (cond (decide ((l.length:Int)<=(l.length:Int))) (cond (decide ((l.length:Int)*w<=LIM)) (cond (decide ((l.length:Int)<=LIM)) x none) none) none) none=r:=by
 refine(xbq8 (f:=gIf P g) (d:=d) hl hw0 hw hx (fun n i acc c hi ha hc=> ?_) hend).trans (xbfv (x:=fin) h1 h2);obtain⟨a1,a2⟩:=hs n i acc c hi ha hc;by_cases h:P c
 ·rw[q1l h];exact a1 h
 ·rw[q7x h];exact a2 h
theorem qzg{k:List CV}(h: ∀v∈k,qur v):k.length<=qgn k:=by refine xbbi fun v hv=> ?_;obtain⟨t,b,q,rfl,hs⟩:=h v hv;obtain⟨n,hn,_⟩:=qcp hs;exact q7c (qei hn)
theorem qvt{k:List CV}(h:qj2 k):k.length<=1800:=by have:=qzg h.1;have:=h.2;omega
theorem xbtn(t:Int)(b:List Int)(k:List CV)(hp:true=true):xbsn t b k=zR [.cl (.agg [.int .i64 t,.sli .u8 b,.slg 3 k]),.cl (.bool true)] []:=rfl
theorem xbrd(l:List CV):srt4 l=isort (ltK ky4) l:=by unfold srt4;rw[qab]
theorem xbrb(l:List CV):srt3 l=isort (ltK ky3) l:=by unfold srt3;rw[qab]
theorem xbwl(l:List CV)(hp:xbrq l=true):xbvg l=zR [.cl (.slg 4 (itV l).1),.cl (.bool (itV l).2)] []:=by
 have hk:=q3s.1 hp;have hl:=qvt hk;unfold xbvg itV;rw[qab,qab];refine room (by omega) (q7m (l:=l) (P:=fun v=>(qa2 (cell1 v)).2=0) (g:=wbV) (L:=fun f i acc=>quj _ _ f acc.length l (l.length:Int) (i:Int) acc) (bad:=zR [.cl (.slg 4 []),.cl (.bool false)] []) (fin:=fun acc=>cond (rows4 acc.length acc) (zR [.cl (.slg 4 (srt4 acc)),.cl (.bool true)] []) none) (by omega) rfl (fun n i acc x hi ha hx=> ?_) (fun n acc ha=>qd0 (by omega) rfl) (fun hf=> ?_) fun hf=> ?_)
 ·obtain⟨t,b,k,rfl,hs⟩:=hk.1 x (zac hx);exact⟨fun h=>qat (by omega) (qbd (by omega) hx (qan rfl (qan hs (qn7 h (q2t (A:=fun a b c=>quj _ _ n a l _ b c) ha (by omega) (by omega)))))),fun h=>qat (by omega) (qbd (by omega) hx (qan rfl (qan hs (qzi h rfl))))⟩
 ·refine qan (qhb ⟨rfl,by rw[zan];omega,fun c hc=> ?_⟩) ?_
  ·obtain⟨v,hv,rfl⟩:=zba.1 hc;exact qkr (hk.1 v hv)
  ·rw[if_pos (show fitV l from hf),xbrd]
 ·rw[if_neg (show ¬fitV l from hf)]
theorem xbwt(l:List CV)(hp:rows4 l.length l=true):xbvm l=zR [.cl (.slg 3 (thV l))] []:=by obtain⟨_,hl,hw⟩:=qa8 hp;unfold xbvm thV;rw[qab,qab];refine xblo (P:=fun _=>True) (g:=cut3) (L:=fun f i acc=>qz2 _ f l.length l (l.length:Int) (i:Int) acc) (bad:=none) (fin:=fun acc=>zR [.cl (.slg 3 acc)] []) (by omega) rfl (fun n i acc x hi ha hx=>⟨fun _=> ?_,fun h=>absurd trivial h⟩) (fun n acc=>qd0 (by omega) rfl) (fun _=>rfl) fun h=>absurd (fun _ _=>trivial) h;obtain⟨t,b,k,w,rfl,_⟩:=hw x (zac hx);refine qat (by omega) (qbd (by omega) hx (qan rfl (qa1 (by omega) (by omega) ?_)));rw[show 0+Int.toNat (i:Int)=i by omega,qoc (by omega)];rfl
theorem xbws(l:List CV)(hp:rows3 l.length l=true):xbvl l=zR [.cl (.slg 2 (thA l))] []:=by obtain⟨_,hl,hw⟩:=qa7 hp;unfold xbvl thA;rw[qab,qab];refine xblo (P:=fun _=>True) (g:=cut2) (L:=fun f i acc=>qz1 _ f l.length l (l.length:Int) (i:Int) acc) (bad:=none) (fin:=fun acc=>zR [.cl (.slg 2 acc)] []) (by omega) rfl (fun n i acc x hi ha hx=>⟨fun _=> ?_,fun h=>absurd trivial h⟩) (fun n acc=>qd0 (by omega) rfl) (fun _=>rfl) fun h=>absurd (fun _ _=>trivial) h;obtain⟨o,k,w,rfl,_⟩:=hw x (zac hx);refine qat (by omega) (qbd (by omega) hx (qan rfl (qa1 (by omega) (by omega) ?_)));rw[show 0+Int.toNat (i:Int)=i by omega,qoc (by omega)];rfl
theorem xbwc{k:List CV}(h: ∀v∈k,qur v): ∀c∈isort (ltK ky4) (k.map wbV),W4A c:=fun c hc=>by obtain⟨v,hv,rfl⟩:=zba.1 (qfg.1 hc);exact qkr (h v hv)
theorem xbwo(o:List Int)(k:List CV)(hp:at1Ok o k=true):xbvi o k=zR [.cl (.agg [.sli .u32 o,.slg 3 (ordV k)]),.cl (.bool (xbkj o k))] []:=by
 obtain⟨ho,hk⟩:=qdl.1 hp;have hl:=qvt hk;unfold xbvi ordV qrg xbkj itV thV;simp only[qab];refine qan (q3s.2 hk) (qan (qd7.2 ho.1) ?_);by_cases hf:fitV k
 ·simp only[if_pos hf];refine qan (qhb ⟨rfl,by rw[qc8,zan];omega,xbwc hk.1⟩) ?_;show cond (decide ((0:Int)<(((isort (ltK ky4) (k.map wbV)).length:Nat):Int))) _ _=_;rw[qc8,zan];unfold qg6;rw[qab];refine qac (fun h=> ?_) fun h=> ?_
  ·cases he:qbe o with
   | true=>rw[qft.2 ⟨hf,by omega,he⟩]
   | false=>rw[qw0 fun h'=>by rw[h'.2.2] at he;cases he]
  ·rw[qw0 fun h'=>h (by have:=h'.2.1;omega)]
 ·simp only[if_neg hf];refine qan (qhb ⟨rfl,by simp,by simp⟩) ?_;rw[qw0 fun h'=>hf h'.1];rfl
theorem nTNd(o:List Int)(k:List CV)(hp:at1Ok o k=true):gTNd o k=zR [.cl (.agg [.int .i64 48,.sli .u8 qbn,.slg 3 (qq9 o k)]),.cl (.bool (xbl6 o))] []:=by obtain⟨ho,hk⟩:=qdl.1 hp;unfold gTNd qq9 xbl6 qvw;simp only[qab,qjq];exact qan (xbgn (by have:=ho.1;omega) ho.2) (qan (qoo (by simp)) rfl)
theorem xbrr{o:List Int}{k:List CV}(ho:xbe7 o)(hk:qj2 k):W3A (wbA (mkA o k)):=by have hs:=(qrz ho hk).1;obtain⟨t,b,q,w,e,hw⟩:=qkr (c:=.agg (ndA (mkA o k))) ⟨_,_,_,rfl,hs⟩;have e:CV.agg [.int .i64 48,.sli .u8 [],.slg 3 (qvw o k),.sli .u8 (qa2 (ndA (mkA o k))).1]=.agg [.int .i64 t,.sli .u8 b,.slg 3 q,.sli .u8 w]:=e;simp only[CV.agg.injEq,zbk,CV.sli.injEq,true_and,and_true] at e;exact⟨o,k,_,rfl,by rw[e.2.2.2];exact hw⟩
theorem xbwk(l:List CV)(hp:qbl l=true):xbvf l=zR [.cl (.slg 3 (itA l).1),.cl (.bool (itA l).2)] []:=by
 obtain⟨hl,hW,_⟩:=qaz.1 hp;unfold xbvf itA;rw[qab,qab];refine room (by omega) (q7m (l:=l) (P:=fun c=>(qcm 6 (qal (typA c))).2.2=0/\(qa2 (ndA c)).2=0) (g:=wbA) (L:=fun f i acc=>qui _ _ f acc.length l (l.length:Int) (i:Int) acc) (bad:=zR [.cl (.slg 3 []),.cl (.bool false)] []) (fin:=fun acc=>cond (rows3 acc.length acc) (zR [.cl (.slg 3 (srt3 acc)),.cl (.bool true)] []) none) (by omega) rfl (fun n i acc x hi ha hx=> ?_) (fun n acc ha=>qd0 (by omega) rfl) (fun hf=> ?_) fun hf=> ?_)
 ·obtain⟨o,k,rfl,ho,hk⟩:=hW x (zac hx);have hs:=(qrz ho hk).1;have st: ∀ {X Y R:Option Out},(((qcm 6 (qal o)).2.2=0/\(qa2 (ndA (mkA o k))).2=0)->Y=R)->(¬((qcm 6 (qal o)).2.2=0/\(qa2 (ndA (mkA o k))).2=0)->X=R)->cond (isS (ndC 48 qbn (qq9 o k))) (cond (!xbl6 o) X (cond (!decide ((qa2 (ndC 48 qbn (qq9 o k))).2=0)) X Y)) none=R:=fun h1 h2=>by rw[qb5,show qq9 o k=qvw o k from qab _,show xbl6 o=decide ((qcm 6 (qal o)).2.2=0) from qab _];exact qan hs (qa5 (fun h=>h2 fun e=>h e.1) fun h=>qa5 (fun h'=>h2 fun e=>h' e.2) fun h'=>h1 ⟨h,h'⟩)
  refine⟨fun h=>qat (by omega) (qbd (by omega) hx (qan rfl (qan (qdl.2 ⟨ho,hk⟩) (st (fun _=> ?_) fun h'=>absurd h h')))),fun h=>qat (by omega) (qbd (by omega) hx (qan rfl (qan (qdl.2 ⟨ho,hk⟩) (st (fun h'=>absurd h' h) fun _=>rfl))))⟩;dsimp only;rw[qb5,show qq9 (qba ((cell1 (mkA o k)).headD .nili)) (qc5 ((cell1 (mkA o k)).tail.headD .nili))=qvw o k from qab _];exact q2t (A:=fun a b c=>qui _ _ n a l _ b c) ha (by omega) (by omega)
 ·refine qan (qit ⟨rfl,by rw[zan];omega,fun c hc=> ?_⟩) ?_
  ·obtain⟨v,hv,rfl⟩:=zba.1 hc;obtain⟨o,k,rfl,ho,hk⟩:=hW v hv;exact xbrr ho hk
  ·rw[if_pos (show fitA l from hf),xbrb]
 ·rw[if_neg (show ¬fitA l from hf)]
theorem xbwg(l:List CV)(g:Int)(hp:qbl l=true):xbvd l g=zR [.cl (.agg [.int .i64 g,.sli .u8 qbn,.slg 3 (xbiv l)])] []:=by obtain⟨hl,hW,_⟩:=qaz.1 hp;unfold xbvd xbiv boxA;rw[qab,qab,qb5];refine q7m (l:=l) (P:=fun _=>True) (g:=fun c=>.agg (ndA c)) (L:=fun f i acc=>quf _ f l (l.length:Int) (i:Int) g acc.length acc) (bad:=none) (fin:=fun acc=>zR [.cl (.agg [.int .i64 g,.sli .u8 [],.slg 3 acc])] []) (by omega) rfl (fun n i acc x hi ha hx=>⟨fun _=> ?_,fun h=>absurd trivial h⟩) (fun n acc ha=>qd0 (by omega) rfl) (fun _=>rfl) fun h=>absurd (fun _ _=>trivial) h;obtain⟨o,k,rfl,ho,hk⟩:=hW x (zac hx);refine qat (by omega) (qbd (by omega) hx (qan rfl (qan (qdl.2 ⟨ho,hk⟩) ?_)));dsimp only;rw[qb5,show qq9 (qba ((cell1 (mkA o k)).headD .nili)) (qc5 ((cell1 (mkA o k)).tail.headD .nili))=qvw o k from qab _];exact q2t (A:=fun a b c=>quf _ n l _ b g a c) ha (by omega) (by omega)
section
variable {α β:Type} {lt:α->α->Bool} {lt':β->β->Bool}
theorem q1s{x:α}: ∀ {l:List α},(ins lt x l).Perm (x::l)
 | []=>.refl _
 | z::r=>by
  unfold ins;split
  ·exact((q1s).cons z).trans (.swap ..)
  ·exact .refl _
theorem qhy: ∀ {l:List α},(isort lt l).Perm l
 | []=>.refl _
 | x::r=>q1s.trans (qhy.cons x)
theorem qzv: ∀ {l:List α},Srt lt l->isort lt l=l
 | [],_=>rfl
 | [x],_=>rfl
 | x::z::r,h=>by obtain⟨h1,h2⟩:=List.pairwise_cons.1 h;show ins lt x (isort lt (z::r))=_;rw[qzv h2];unfold ins;rw[if_neg (by rw[h1 z (by simp)];simp)]
theorem xbjm(hp:Ord2 lt){l l':List α}(h:l.Perm l')(inj: ∀x∈l, ∀y∈l,lt x y=false->lt y x=false->x=y):isort lt l=isort lt l':=
 List.Perm.eq_of_pairwise (le:=fun a b=>lt b a=false) (fun a b ha hb h1 h2=>inj a (qfg.1 ha) b (h.mem_iff.2 (qfg.1 hb)) h2 h1) (qd8 hp.toPre2 hp.irr _) (qd8 hp.toPre2 hp.irr _) (qhy.trans (h.trans qhy.symm))
theorem qka{f:α->β}{g:β->α}{l:List α}(h: ∀c∈l,g (f c)=c):(l.map f).map g=l:=by rw[zcw];exact(zcb h).trans (List.map_id l)
end
theorem xbfo{v:CV}(h:qur v):cut3 (wbV v)=v:=by obtain⟨t,b,k,rfl,_⟩:=h;rfl
theorem xbfn{c:CV}(h:WA c):cut2 (wbA c)=c:=by obtain⟨o,k,rfl,_⟩:=h;rfl
theorem xbrt{k:List CV}(h: ∀v∈k,qur v): ∀c∈isort (ltK ky4) (k.map wbV),wbV (cut3 c)=c:=fun c hc=>by obtain⟨v,hv,rfl⟩:=zba.1 (qfg.1 hc);rw[xbfo (h v hv)]
theorem xbrs{l:List CV}(h: ∀c∈l,WA c): ∀c∈isort (ltK ky3) (l.map wbA),wbA (cut2 c)=c:=fun c hc=>by obtain⟨v,hv,rfl⟩:=zba.1 (qfg.1 hc);rw[xbfn (h v hv)]
theorem qow{k:List CV}(hf:fitV k):qrg k=(isort (ltK ky4) (k.map wbV)).map cut3:=by unfold qrg;rw[if_pos hf]
theorem xbea{k:List CV}(hf: ¬fitV k):qrg k=[]:=by unfold qrg;rw[if_neg hf]
theorem qqg{k:List CV}(h: ∀v∈k,qur v)(hf:fitV k):(qrg k).Perm k:=by rw[qow hf];refine(qhy.map cut3).trans ?_;rw[qka fun c hc=>xbfo (h c hc)]
theorem qvm{l:List CV}(h: ∀c∈l,WA c):(srtA l).Perm l:=by unfold srtA;refine(qhy.map cut2).trans ?_;rw[qka fun c hc=>xbfn (h c hc)]
theorem q7b{k q:List CV}(h:k.Perm q):qgn k=qgn q:=List.Perm.sum_nat (h.map _)
theorem q68{k q:List CV}(h:k.Perm q):qpg k=qpg q:=List.Perm.sum_nat (h.map _)
theorem xbb1{k:List CV}(h:qj2 k):qj2 (qrg k)/\qgn (qrg k)<=qgn k:=by
 by_cases hf:fitV k
 ·have hq:=qqg h.1 hf;have:=q7b hq;exact⟨⟨fun v hv=>h.1 v (hq.mem_iff.1 hv),by have:=h.2;omega⟩,by omega⟩
 ·rw[xbea hf];exact⟨⟨by simp,by show 0<=_;omega⟩,by show 0<=_;omega⟩
theorem xbhb(o:List Int)(k:List CV):ordA (mkA o k)=mkA o (qrg k):=rfl
theorem xbsc{c:CV}(h:WA c):WA (ordA c):=by obtain⟨o,k,rfl,ho,hk⟩:=h;exact⟨o,_,rfl,ho,(xbb1 hk).1⟩
theorem q07: ∀ {l:List CV},(∀c∈l,WA c)->qpg (l.map ordA)<=qpg l
 | [],_=>zas _
 | c::r,h=>by have ih:=q07 fun c hc=>h c (zaz _ hc);obtain⟨o,k,rfl,ho,hk⟩:=h c (by simp);have:=(xbb1 hk).2;unfold qpg at ih ⊢;rw[zby,zby,zci,zby,zci];have e1:qgn (qox (ordA (mkA o k)))=qgn (qrg k):=rfl;have e2:qgn (qox (mkA o k))=qgn k:=rfl;omega
theorem q02{l:List CV}(h:qbl l=true):qbl (l.map ordA)=true:=by obtain⟨h1,h2,h3⟩:=qaz.1 h;refine qaz.2 ⟨by rw[zan];exact h1,fun c hc=> ?_,zbu (q07 h2) h3⟩;obtain⟨v,hv,rfl⟩:=zba.1 hc;exact xbsc (h2 v hv)
theorem q6z{l q:List CV}(p:q.Perm l)(h:qbl l=true):qbl q=true:=by obtain⟨h1,h2,h3⟩:=qaz.1 h;exact qaz.2 ⟨by rw[p.length_eq];exact h1,fun c hc=>h2 c (p.mem_iff.1 hc),by rw[q68 p];exact h3⟩
theorem q60{l:List CV}(h:qbl l=true):qbl (srtA l)=true:=q6z (qvm (qaz.1 h).2.1) h
theorem xbmd{l:List CV}(h:qbl l=true):qbl (srtA (l.map ordA))=true:=q60 (q02 h)
theorem xbmk{l:List CV}(h: ∀c∈l,WA c): ∀v∈boxA l,qur v:=fun v hv=>by obtain⟨c,hc,rfl⟩:=zba.1 hv;obtain⟨o,k,rfl,ho,hk⟩:=h c hc;exact⟨_,_,_,rfl,(qrz ho hk).1⟩
theorem q06: ∀ {l:List CV},(∀c∈l,WA c)->qgn (boxA l)<=123*l.length+qpg l
 | [],_=>zas _
 | c::r,h=>by have ih:=q06 fun c hc=>h c (zaz _ hc);obtain⟨o,k,rfl,ho,hk⟩:=h c (by simp);have e:=(qrz ho hk).2;unfold qgn boxA qpg at ih ⊢;rw[zby,zby,zci,zby,zci,zaf];have e1:qdn (rkOf (cell1 (.agg (ndA (mkA o k))))) (cell1 (.agg (ndA (mkA o k))))=q7a (ndA (mkA o k)):=rfl;have e2:qgn (qox (mkA o k))=qgn k:=rfl;omega
theorem qpc{l:List CV}(g:Int)(h:qbl l=true)(hl:l.length<=20):isS (ndC g [] (boxA l))=true:=by obtain⟨_,h2,h3⟩:=qaz.1 h;have:=q06 h2;exact(qr3 quq (xbmk h2) (by simp;omega)).1
theorem xbcu{a b:List CV}(ha:isS a=true)(hb:isS b=true)(fa:(qa2 a).2=0)(fb:(qa2 b).2=0)(h:(qa2 a).1=(qa2 b).1):a=b:=by obtain⟨_,_,_,p1,q1⟩:=qtv ha (by rw[q1f ha];exact decide_eq_true fa);obtain⟨_,_,_,p2,q2⟩:=qtv hb (by rw[q1f hb];exact decide_eq_true fb);rw[h,p2] at p1;have e:=(Prod.mk.inj (Prod.mk.inj p1).2).1;rw[<- q1, <- q2,e]
theorem xbpb{c d:CV}(hc:WA c)(hd:WA d)(fc:(qcm 6 (qal (typA c))).2.2=0)(fd:(qcm 6 (qal (typA d))).2.2=0)(h:ndA c=ndA d):c=d:=by obtain⟨o,k,rfl,ho,hk⟩:=hc;obtain⟨p,q,rfl,hp,hq⟩:=hd;have h:[CV.int .i64 48,.sli .u8 [],.slg 3 (qvw o k)]=[.int .i64 48,.sli .u8 [],.slg 3 (qvw p q)]:=h;unfold qvw at h;simp only[zbk,CV.slg.injEq,CV.agg.injEq,CV.int.injEq,CV.sli.injEq,true_and,and_true] at h;have b1:=q8n (o:=o) ho.2 fc;have b2:=q8n (o:=p) hp.2 fd;rw[h.1.1,h.1.2,b2] at b1;rw[(Prod.mk.inj b1).1,h.2]
theorem xbny{l:List CV}(hW: ∀c∈l,WA c)(hf:fitA l): ∀x∈l.map wbA, ∀y∈l.map wbA,ltK ky3 x y=false->ltK ky3 y x=false->x=y:=fun x hx y hy h1 h2=>by
 obtain⟨c,hc,rfl⟩:=zba.1 hx;obtain⟨d,hd,rfl⟩:=zba.1 hy;have n: ∀a b:CV,ltK ky3 a b=false->qav (ky3 b) (ky3 a)<=0:=fun a b h=>Classical.byContradiction fun e=>by have:=decide_eq_true ((q1b (ky3 b) (ky3 a)).2 e);rw[show ltK ky3 a b=true from this] at h;cases h
 have e:=cmp_eq _ _ (n _ _ h2) (n _ _ h1);have key: ∀ {c:CV},WA c->ky3 (wbA c)=(qa2 (ndA c)).1/\isS (ndA c)=true:=fun h=>by obtain⟨o,k,rfl,ho,hk⟩:=h;exact⟨rfl,(qrz ho hk).1⟩
 rw[(key (hW c hc)).1,(key (hW d hd)).1] at e;rw[xbpb (hW c hc) (hW d hd) (hf c hc).1 (hf d hd).1 (xbcu (key (hW c hc)).2 (key (hW d hd)).2 (hf c hc).2 (hf d hd).2 e)]
theorem xbre{l m:List CV}(hW: ∀c∈l,WA c)(hf:fitA l)(p:l.Perm m):srtA l=srtA m:=by unfold srtA;rw[xbjm (qef ky3) (p.map wbA) (xbny hW hf)]
theorem q9q{k:List CV}(h: ∀v∈k,qur v)(hf:fitV k):fitV (qrg k)/\qrg (qrg k)=qrg k:=by have hp:=qqg h hf;have hf2:fitV (qrg k):=fun v hv=>hf v (hp.mem_iff.1 hv);refine⟨hf2, ?_⟩;rw[qow hf2,qow hf,qka (xbrt h),qzv (qd8 (qef ky4).toPre2 (qef ky4).irr _)]
theorem xbe4{l:List CV}(h: ∀c∈l,WA c):srtA (srtA l)=srtA l:=by unfold srtA;rw[qka (xbrs h),qzv (qd8 (qef ky3).toPre2 (qef ky3).irr _)]
theorem xbd9{c:CV}(h:WA c)(hb:ordB (typA c) (qox c)):ordA (ordA c)=ordA c/\ordB (typA (ordA c)) (qox (ordA c)):=by obtain⟨o,k,rfl,ho,hk⟩:=h;have hb:ordB o k:=hb;obtain⟨h1,h2⟩:=q9q hk.1 hb.1;rw[xbhb,xbhb,h2];exact⟨rfl,h1,by have:=(qqg hk.1 hb.1).length_eq;show 0<(qrg k).length;have:=hb.2.1;omega,hb.2.2⟩
theorem xbjx{α:Type}{f:α->α}{l:List α}(h: ∀c∈l,f c=c):l.map f=l:=(zcb h).trans (List.map_id l)
theorem xbnn{l:List CV}(h:qbl l=true)(hg:q8i l):okA (srtA (l.map ordA)):=by
 obtain⟨_,hW,_⟩:=qaz.1 h;obtain⟨_,hW2,_⟩:=qaz.1 (q02 h);obtain⟨g1,g2,g3,g4,g5⟩:=hg;have hp:=qvm hW2;have hm: ∀c∈srtA (l.map ordA),ordA c=c/\ordB (typA c) (qox c):=fun c hc=>by obtain⟨d,hd,rfl⟩:=zba.1 (hp.mem_iff.1 hc);exact xbd9 (hW d hd) (g3 d hd)
 have e:=xbjx fun c hc=>(hm c hc).1;have hs:srtA (srtA (l.map ordA))=srtA (l.map ordA):=xbe4 hW2;refine⟨⟨?_, ?_,fun c hc=>(hm c hc).2, ?_, ?_⟩, ?_⟩
 ·rw[hp.length_eq,zan];exact g1
 ·refine(hp.map typA).nodup_iff.2 ?_;rw[zcw];exact g2
 ·rw[e];exact fun c hc=>g4 c (hp.mem_iff.1 hc)
 ·rw[e,hs];exact g5
 ·rw[e,hs]
theorem xbdb{l m:List CV}(h:qbl l=true)(p:l.Perm m)(hg:q8i l):q8i m/\srtA (m.map ordA)=srtA (l.map ordA):=by obtain⟨_,hW2,_⟩:=qaz.1 (q02 h);obtain⟨g1,g2,g3,g4,g5⟩:=hg;have e:=xbre hW2 g4 (p.map ordA);refine⟨⟨by rw[<- p.length_eq];exact g1,(p.map typA).nodup_iff.1 g2,fun c hc=>g3 c (p.mem_iff.2 hc),fun c hc=>g4 c ((p.map ordA).mem_iff.2 hc),by rw[<- e];exact g5⟩,e.symm⟩
open IntWalk (i64_in u8_in u32_in u64_in i64_quo u8_quo rem_in)
theorem xbn9{l:List CV}(h:q8i l):qfn l=(srtA (l.map ordA),0):=by unfold qfn q6x;rw[qab,if_pos h]
theorem xbry{l:List CV}(h: ¬q8i l):qfn l=([],1):=by unfold qfn q6x;rw[qab,if_neg h]
theorem xbsw{l:List CV}(h:qbl l=true):qbl (qfn l).1=true:=by
 by_cases hg:q8i l
 ·rw[xbn9 hg];exact xbmd h
 ·rw[xbry hg];exact qaz.2 ⟨by simp,by simp,by show 0<=_;omega⟩
theorem xbjl{l:List CV}(h: ∀c∈l,WA c): ∀c∈isort (ltK ky3) (l.map wbA),W3A c:=fun c hc=>by obtain⟨v,hv,rfl⟩:=zba.1 (qfg.1 hc);obtain⟨o,k,rfl,ho,hk⟩:=h v hv;exact xbrr ho hk
theorem xbtl(l:List CV)(hp:qbl l=true):xbm9 l=zR [.cl (.slg 2 (qfn l).1),.cl (.int .i64 (qfn l).2)] []:=by
 obtain⟨hl,hW,_⟩:=qaz.1 hp;have bad: ¬q8i l->zR [.cl (.slg 2 []),.cl (.int .i64 1)] []=zR [.cl (.slg 2 (qfn l).1),.cl (.int .i64 (qfn l).2)] []:=fun h=>by rw[xbry h]
 unfold xbm9 twoA;simp only[qab];refine qac (fun h=>bad fun hg=>by have:=hg.1.1;omega) fun h=>qac (fun h2=>bad fun hg=>by have:=hg.1.2;omega) fun h2=>qan hp (qac (fun h3=>bad fun hg=>h3 hg.2.1) fun h3=> ?_);refine xblo (P:=fun c=>ordB (typA c) (qox c)) (g:=ordA) (L:=fun f i acc=>quk _ _ f l.length l (l.length:Int) (i:Int) acc) (by omega) rfl (fun n i acc x hi ha hx=> ?_) (fun n acc=>qd0 (by omega) rfl) (fun hf=> ?_) fun hf=>bad fun hg=>hf hg.2.2.1
 ·obtain⟨o,k,rfl,ho,hk⟩:=hW x (zac hx);have e0:xbkj o k=pT (ordB o k):=qab _;refine⟨fun h=>qat (by omega) (qbd (by omega) hx (qan rfl (qan (qdl.2 ⟨ho,hk⟩) ?_))),fun h=>qat (by omega) (qbd (by omega) hx (qan rfl (qan (qdl.2 ⟨ho,hk⟩) ?_)))⟩
  ·show cond (!xbkj o k) _ (idxK (i:Int) l.length fun _=>_)=_;rw[e0,qft.2 (show ordB o k from h)];refine qxt rfl (qa1 (by omega) (by omega) ?_);dsimp only;rw[show 0+Int.toNat (i:Int)=i by omega,qoc (by omega),show ordV (qc5 ((cell1 (mkA o k)).tail.headD .nili))=qrg k from qab _];rfl
  ·show cond (!xbkj o k) _ _=_;rw[e0,qw0 (show ¬ordB o k from h)];rfl
 ·have hq:=q02 hp;obtain⟨hl2,hW2,_⟩:=qaz.1 hq;refine qan hq ?_;unfold itA thA xbiv;simp only[qab,qb5];by_cases hf2:fitA (l.map ordA)
  ·simp only[if_pos hf2];have hr:rows3 (isort (ltK ky3) ((l.map ordA).map wbA)).length (isort (ltK ky3) ((l.map ordA).map wbA))=true:=qit ⟨rfl,by rw[qc8,zan];omega,xbjl hW2⟩;have hs:=qpc 49 (q60 hq) (by rw[(qvm hW2).length_eq,zan];omega);refine qxt rfl (qan hr (qan (q60 hq) (qan hs ?_)));show cond (!qun (ndC 49 [] (boxA (srtA (l.map ordA))))) _ _=_
   cases hfit:qun (ndC 49 [] (boxA (srtA (l.map ordA)))) with
   | true=>
    rw[xbn9 ⟨by omega,Classical.not_not.1 h3,hf,hf2,hfit⟩];exact qxt rfl (qan hr rfl)
   | false=>exact bad fun hg=>by rw[show qun (ndC 49 [] (boxA (srtA (l.map ordA))))=true from hg.2.2.2.2] at hfit;cases hfit
  ·simp only[if_neg hf2];exact bad fun hg=>hf2 hg.2.2.2.1
theorem q3q{k:List CV}(h:qj2 k):isNs k=true:=by obtain⟨n,h1,h2⟩:=q3r h.1;have e:=h2 n (zas _);have:=qvt h;refine xbgv (n:=n) (by omega) fun c hc=> ?_;have hm:=qqw (g:=fun c=>qdn n (cell1 c)) hc;obtain⟨y,rfl,hy⟩:=h1 c hc;have:=h.2;exact⟨y,rfl,qz5 hy (zbu hm (by omega))⟩
theorem qkx(a b:List CV):qhm a b=pT (a=b):=qab _
theorem xbwq(o:List Int)(k:List CV)(p:List Int)(q:List CV)(hp:(at1Ok o k&&at1Ok p q)=true):xbvk o k p q=zB (qhm [mkA o k] [mkA p q]):=by
 rw[zab] at hp;obtain⟨ho,hk⟩:=qdl.1 hp.1;obtain⟨hp2,hq⟩:=qdl.1 hp.2;unfold xbvk;rw[qkx,qdg];refine qan (qd7.2 ho.1) (qac (fun e=>qan (by rw[q3q hk,q3q hq];rfl) ?_) fun e=> ?_)
 ·subst e;by_cases e:k=q
  ·subst e;rw[qft.2 rfl,qg4.2 rfl]
  ·rw[qw0 (by simp[e]),qnx.2 e]
 ·rw[qw0 (by simp[e])]
theorem q26{a b:List CV}{x:Option Out}(h:x=cond (pT (a=b)) (zB true) (zB false)):x=zB (qhm a b):=by rw[h,qkx];cases pT (a=b)<;>rfl
theorem xbwi(a b:List CV)(hp:(qbl a&&qbl b)=true):xbve a b=zB (qhm a b):=by
 rw[zab] at hp;obtain⟨hl,hW,_⟩:=qaz.1 hp.1;obtain⟨hl2,hW2,_⟩:=qaz.1 hp.2;unfold xbve;rw[qab];have st: ∀ {o p:List Int} {k q:List CV} {X Y:Option Out},WA (mkA o k)->WA (mkA p q)->cond (at1Ok o k&&at1Ok p q) (cond (!qhm [mkA o k] [mkA p q]) X Y) none=cond (pT (mkA o k=mkA p q)) Y X:=fun {o p k q X Y} h1 h2=>by obtain⟨_,_,e1,a1,a2⟩:=h1;obtain⟨_,_,e2,b1,b2⟩:=h2;cases e1;cases e2;rw[qdl.2 ⟨a1,a2⟩,qdl.2 ⟨b1,b2⟩,qkx,xbt6 (show([mkA o k]=[mkA p q])↔(mkA o k=mkA p q) by simp)];cases pT (mkA o k=mkA p q)<;>rfl
 refine q26 (qvf (L:=fun f i=>qzz _ _ f b a (a.length:Int) (i:Int)) rfl (by omega) (fun n i x hi hx hy=> ?_) (fun n i x y hi hx hy hne=> ?_) fun n=> ?_)
 ·have h1:=hW x (zac hx);obtain⟨o,k,rfl,ho,hk⟩:=h1;refine qat (by omega) (qbd (by omega) hx (qan rfl (qbd (by omega) hy (qan rfl ((st ⟨o,k,rfl,ho,hk⟩ ⟨o,k,rfl,ho,hk⟩).trans ?_)))));rw[qft.2 rfl,qoc (by omega)];rfl
 ·have h1:=hW x (zac hx);have h2:=hW2 y (zac hy);obtain⟨o,k,rfl,ho,hk⟩:=h1;obtain⟨p,q,rfl,hp2,hq⟩:=h2;refine qat (by omega) (qbd (by omega) hx (qan rfl (qbd (by omega) hy (qan rfl ((st ⟨o,k,rfl,ho,hk⟩ ⟨p,q,rfl,hp2,hq⟩).trans ?_)))));rw[qw0 hne];rfl
 ·exact qd0 (by omega) rfl
theorem xbtr(a b:List CV)(hp:(qbl a&&qbl b)=true):xbso a b=zB (qhm a b):=qan hp rfl
theorem qwk(l:List CV):qzd l=pT (okA l):=qab _
theorem xbv4{l:List CV}{g:Option Out}(hp:qbl l=true)(h:g=cond (qbl l) (cond (decide ((qfn l).2=0)) (cond (qbl l&&qbl (qfn l).1) (zB (qhm l (qfn l).1)) none) (zB false)) none):g=zB (qzd l):=by
 rw[h,qwk];refine qan hp ?_;by_cases hg:q8i l
 ·have hm:=xbsw hp;rw[xbn9 hg] at hm ⊢;refine qat rfl (qan (by rw[hp,hm];rfl) ?_);rw[qkx,xbt6 (show l=srtA (l.map ordA)↔okA l from⟨fun e=>⟨hg,e⟩,fun e=>e.2⟩)]
 ·rw[xbry hg];refine qd0 (by simp) ?_;rw[qw0 fun e=>hg e.1]
theorem xbwj(l:List CV)(hp:qbl l=true):xbv6 l=zB (qzd l):=xbv4 hp rfl
theorem xblv(g:Int):xbiw g=decide (g=49\/(160<=g/\g<=190)):=qab _
theorem xbw0{g:Int}{x:Option Out}(h:x=cond (decide (g=49)) (zB true) (cond (decide ((160:Int)<=g)) (zB (decide (g<=190))) (zB false))):x=zB (xbiw g):=by
 rw[h,xblv];refine qac (fun h=> ?_) fun h=>qac (fun h2=>qap ?_) fun h2=>qap ?_
 ·rw[decide_eq_true (.inl h)]
 ·rw[decide_eq_decide];omega
 ·rw[eq_comm,decide_eq_false_iff_not];omega
theorem xbwr(g:Int)(hp:true=true):xbv8 g=zB (xbiw g):=xbw0 rfl
theorem q9l{l:List CV}{g:Int}(h: ¬(g=49\/(160<=g/\g<=190))):qbq l g=(0,[],4):=by unfold qbq;rw[qab,if_pos h]
theorem q9k{l:List CV}{g:Int}(h:g=49\/(160<=g/\g<=190))(hk: ¬okA l):qbq l g=(0,[],1):=by unfold qbq;rw[qab,if_neg (fun e=>e h),if_neg hk]
theorem qwt{l:List CV}{g:Int}(h:g=49\/(160<=g/\g<=190))(hk:okA l):qbq l g=(g,boxA l,0):=by unfold qbq;rw[qab,if_neg (fun e=>e h),if_pos hk]
theorem xbt4{l:List CV}{g:Int}{x:Option Out}{B:List CV}(hp:qbl l=true)(hB:okA l->B=boxA l)(h:x=cond (!xbiw g) (zR [.cl (.agg [.int .i64 0,.sli .u8 [],.slg 3 []]),.cl (.int .i64 4)] []) (cond (qbl l) (cond (!qzd l) (zR [.cl (.agg [.int .i64 0,.sli .u8 [],.slg 3 []]),.cl (.int .i64 1)] []) (cond (qbl l) (zR [.cl (.agg [.int .i64 g,.sli .u8 qbn,.slg 3 B]),.cl (.int .i64 0)] []) none)) none)):
  x=zR [.cl (.agg [.int .i64 (qbq l g).1,.sli .u8 qbn,.slg 3 (qbq l g).2.1]),.cl (.int .i64 (qbq l g).2.2)] []:=by
 rw[h,qb5,xblv,qwk];refine qa5 (fun h=> ?_) fun h=>qan hp ?_
 ·rw[q9l h]
 ·by_cases hk:okA l
  ·rw[qwt h hk,qft.2 hk,hB hk];exact qxt rfl (qan hp rfl)
  ·rw[q9k h hk,qw0 hk];rfl
theorem xbsf(l:List CV):xbiv l=boxA l:=qab _
theorem xbtm(l:List CV)(g:Int)(hp:qbl l=true):xbsm l g=zR [.cl (.agg [.int .i64 (qbq l g).1,.sli .u8 qbn,.slg 3 (qbq l g).2.1]),.cl (.int .i64 (qbq l g).2.2)] []:=xbt4 hp (fun _=>xbsf l) rfl
theorem xbu0{k:List CV}(h: ∀v∈k,qur v)(hl:k.length=2): ∃t0 b0 k0 t1 b1 k1,k=[.agg (ndC t0 b0 k0),.agg (ndC t1 b1 k1)]/\isS (ndC t0 b0 k0)=true/\isS (ndC t1 b1 k1)=true:=by
 match k,hl with
 | [x,y],_=>
  obtain⟨t0,b0,k0,rfl,h0⟩:=h x (by simp);obtain⟨t1,b1,k1,rfl,h1⟩:=h y (by simp);exact⟨_,_,_,_,_,_,rfl,h0,h1⟩
theorem xbpd{t:Int}{b:List Int}{k:List CV}(h:isS (ndC t b k)=true):k.length<=30000:=by obtain⟨h1,_,h3⟩:=qd9 h;have:=qzg h1;omega
theorem q3o{g t:Int}{b:List Int}{k:List CV}(hg:g=48\/g=49):ql7 g t b k=if t=g/\b=[] then(k,0) else([],if t=g then 5 else 4):=by
 have hb:qaw g=true:=decide_eq_true (by omega);by_cases h:t=g
 ·by_cases h2:b=[]
  ·rw[if_pos ⟨h,h2⟩,xbh7 h hb (by rw[h2];simp)]
  ·rw[if_neg (fun e=>h2 e.2),if_pos h,xbh6 h hb (fun e=>h2 (zal e))]
 ·rw[if_neg (fun e=>h e.1),if_neg h,q3p h]
theorem xbtg(t:Int)(b:List Int)(k:List CV)(hp:isS [.int .i64 t,.sli .u8 b,.slg 3 k]=true):xbm6 t b k=zR [.cl (.agg [.sli .u32 (qjw t b k).1,.slg 3 (qjw t b k).2.1]),.cl (.bool (qjw t b k).2.2)] []:=by
 have hn:=xbpd hp;have hk:=(qd9 hp).1;unfold xbm6 qjw;rw[qab];refine qan (qoo (by omega)) ?_;have e48:=q3o (g:=48) (t:=t) (b:=b) (k:=k) (.inl rfl);by_cases h:t=48/\b=[]
 ·rw[if_pos h] at e48;simp only[e48];refine qn7 trivial (qa5 (fun hl=> ?_) fun hl=> ?_)
  ·unfold qdm;rw[if_pos h];split
   ·exact absurd rfl hl
   ·rfl
  ·obtain⟨t0,b0,k0,t1,b1,k1,rfl,s0,s1⟩:=xbu0 hk (by omega);unfold qdm;rw[if_pos h];refine qat (by omega) (qan s0 ?_);show cond (!decide ((qiz t0 b0 k0).2=0)) _ (cond _ _ none)=_;refine qa5 (fun h0=> ?_) fun h0=>qat (by omega) (qan (qoo (l:=k1) (by have:=xbpd s1;omega)) ?_)
   ·simp only[if_neg h0]
   ·simp only[if_pos h0];rfl
 ·rw[if_neg h] at e48;simp only[e48];unfold qdm;rw[if_neg h];exact qzi (by split<;>simp) rfl
theorem q61{t:Int}{b:List Int}{k:List CV}(h:(qdm t b k).2.2=true):t=48/\b=[]/\∃t0 b0 k0 k1,k=[.agg (ndC t0 b0 k0),.agg (ndC 49 [] k1)]/\(qiz t0 b0 k0).2=0/\qdm t b k=((qiz t0 b0 k0).1,k1,true):=by
 by_cases hb:t=48/\b=[]
 ·obtain⟨rfl,rfl⟩:=hb;refine⟨rfl,rfl, ?_⟩;unfold qdm at h ⊢;rw[if_pos ⟨rfl,rfl⟩] at h ⊢;split at h
  ·rename_i t0 b0 k0 t1 b1 k1;by_cases h0:(qiz t0 b0 k0).2=0
   ·rw[if_pos h0] at h;have h:(ql7 49 t1 b1 k1).2=0:=of_decide_eq_true h;by_cases h2:t1=49/\b1=[]
    ·obtain⟨rfl,rfl⟩:=h2;refine⟨t0,b0,k0,k1,rfl,h0, ?_⟩;simp only[if_pos h0];rw[q3o (.inr rfl),if_pos ⟨rfl,rfl⟩];rfl
    ·rw[q3o (.inr rfl),if_neg h2] at h;have h:(if t1=49 then(5:Int) else 4)=0:=h;split at h<;>omega
   ·rw[if_neg h0] at h;cases h
  ·cases h
 ·unfold qdm at h;rw[if_neg hb] at h;cases h
theorem xbfg{c d:CV}(hn:qur c)(h:q4n c=some d): ∃t0 b0 k0 k1,c=.agg (ndC 48 [] [.agg (ndC t0 b0 k0),.agg (ndC 49 [] k1)])/\(qiz t0 b0 k0).2=0/\d=mkA (qiz t0 b0 k0).1 k1:=by
 obtain⟨t,b,k,rfl,_⟩:=hn;have h:(if(qdm t b k).2.2=true then some (mkA (qdm t b k).1 (qdm t b k).2.1) else none)=some d:=h;split at h
 ·rename_i hx;obtain⟨rfl,rfl,t0,b0,k0,k1,rfl,h0,e⟩:=q61 hx;rw[e] at h;cases h;exact⟨t0,b0,k0,k1,rfl,h0,rfl⟩
 ·cases h
theorem xbmf{t0:Int}{b0:List Int}{k0 k1:List CV}(h:(qiz t0 b0 k0).2=0):q4n (.agg (ndC 48 [] [.agg (ndC t0 b0 k0),.agg (ndC 49 [] k1)]))=some (mkA (qiz t0 b0 k0).1 k1):=by
 show(if(qdm 48 [] [.agg (ndC t0 b0 k0),.agg (ndC 49 [] k1)]).2.2=true then some (mkA (qdm 48 [] [.agg (ndC t0 b0 k0),.agg (ndC 49 [] k1)]).1 (qdm 48 [] [.agg (ndC t0 b0 k0),.agg (ndC 49 [] k1)]).2.1) else none)=_;have e:qdm 48 [] [.agg (ndC t0 b0 k0),.agg (ndC 49 [] k1)]=((qiz t0 b0 k0).1,k1,true):=by unfold qdm;rw[if_pos ⟨rfl,rfl⟩];simp only[if_pos h];rw[q3o (.inr rfl),if_pos ⟨rfl,rfl⟩];rfl
 rw[e];rfl
theorem xbnq{t:Int}{b:List Int}{k:List CV}(hs:isS (ndC t b k)=true)(h:(qiz t b k).2=0):xbe7 (qiz t b k).1/\(qiz t b k).1.length<=20/\qcm 6 (qal (qiz t b k).1)=(t,b,0)/\k=[]:=by
 have h1:q3m 6 t b k=0:=Classical.byContradiction fun e=>by unfold qiz at h;rw[qab,if_neg e] at h;exact e h
 have e:qiz t b k=qcc b:=by unfold qiz;rw[qab,if_pos h1]
 have ht:t=6:=Classical.byContradiction fun e=>by rw[xbb0 e] at h1;cases h1
 have hk:k=[]:=Classical.byContradiction fun e=>by rw[q3n ht (List.length_pos_iff.2 e)] at h1;cases h1
 rw[e] at h ⊢;have e2:qcc b=qc9 b:=qab _;rw[e2] at h ⊢;rcases q4q (xbgx hs) with h2|⟨o,h2,hf,hr,hb⟩
 ·rw[h2] at h;cases h
 ·rw[h2];have:=(qzo hf).2;refine⟨⟨by show o.length<=_;omega,hr⟩,this, ?_,hk⟩;rw[qq3 (xbnp hf hr),ht,show qal o=qbz o from qab _,hb]
theorem qtt{c d:CV}(hc:qur c)(h:q4n c=some d):c=.agg (ndA d)/\d=xbbx c/\(qj2 (qox d)->WA d):=by obtain⟨t0,b0,k0,k1,rfl,h0,rfl⟩:=xbfg hc h;obtain⟨_,_,_,e,hs⟩:=hc;cases e;have hk:=(qd9 hs).1;obtain⟨_,_,_,e,s0⟩:=hk _ (zbl ..);cases e;obtain⟨h1,_,h2,rfl⟩:=xbnq s0 h0;refine⟨?_,rfl,fun hv=>⟨_,k1,rfl,h1,hv⟩⟩;show CV.agg (ndC 48 [] [.agg (ndC t0 b0 []),.agg (ndC 49 [] k1)])=.agg [.int .i64 48,.sli .u8 [],.slg 3 (qvw (qiz t0 b0 []).1 k1)];unfold qvw;rw[h2]
theorem q67{c:CV}(h:WA c)(hf:(qcm 6 (qal (typA c))).2.2=0):q4n (.agg (ndA c))=some c:=by obtain⟨o,k,rfl,ho,hk⟩:=h;have hb:=q8n (o:=o) ho.2 hf;rw[qjq] at hb;have:=xbmf (t0:=(qcm 6 (qal o)).1) (b0:=(qcm 6 (qal o)).2.1) (k0:=[]) (k1:=k) (by rw[hb]);rw[hb] at this;exact this
theorem xbcs{l:List CV}{c:CV}(h:c∈l):qgn (qox c)<=qpg l:=qqw (g:=fun c=>qgn (qox c)) h
theorem qqa{t:Int}{b:List Int}{k:List CV}:ndSm t b k=true↔isS (ndC t b k)=true/\k.length<=1800/\qpg (k.map xbbx)<=1800:=by unfold ndSm;rw[qab,qft]
theorem xbjb{α β:Type}{f:α->Option β}{g:α->β}: ∀ {l:List α},(∀c∈l,f c=some (g c))->l.filterMap f=l.map g
 | [],_=>rfl
 | c::r,h=>by rw[zcz (h c (by simp)),xbjb fun c hc=>h c (by simp[hc])];rfl
theorem q62{t:Int}{b:List Int}{k l:List CV}(hp:ndSm t b k=true)(h:qn5 k=some l):l=k.map xbbx/\k=boxA l/\qbl l=true:=by
 obtain⟨hs,hl,hB⟩:=qqa.1 hp;have hk:=(qd9 hs).1;unfold qn5 at h;split at h
 ·rename_i ha;rw[zaj] at ha;cases h;have h1: ∀c∈k,q4n c=some (xbbx c):=fun c hc=>by obtain⟨d,hd⟩:=zbm.1 (ha c hc);rw[hd,(qtt (hk c hc) hd).2.1]
  have e:=xbjb h1;rw[e];refine⟨rfl, ?_,qaz.2 ⟨by rw[zan];exact hl,fun d hd=> ?_,hB⟩⟩
  ·exact(qka (f:=xbbx) (g:=fun c=>CV.agg (ndA c)) fun c hc=>(qtt (hk c hc) (h1 c hc)).1.symm).symm
  ·obtain⟨c,hc,rfl⟩:=zba.1 hd;have hb:=xbcs hd;obtain⟨t0,b0,k0,k1,rfl,h0,e2⟩:=xbfg (hk c hc) (h1 c hc);obtain⟨_,_,_,e,hs⟩:=hk _ hc;cases e;obtain⟨_,_,_,e,s1⟩:=(qd9 hs).1 _ (zaz _ (zbl ..));cases e;refine(qtt (hk _ hc) (h1 _ hc)).2.2 ?_;rw[e2] at hb ⊢;exact⟨(qd9 s1).1,zbu hb hB⟩
 ·cases h
theorem q0a{g t:Int}{b:List Int}{k:List CV}(h: ¬(g=49\/(160<=g/\g<=190))\/t≠g):qdz g t b k=([],4):=by unfold qdz xbt9;rw[qab,if_pos h]
theorem q2u{g t:Int}{b:List Int}{k:List CV}(h1:g=49\/(160<=g/\g<=190))(h2:t=g):qdz g t b k=match qn5 k with
 | none=>([],1)
 | some l=>@ite _ (b=[]/\okA l) (Classical.propDecidable _) (l,0) ([],1):=by
 unfold qdz xbt9;rw[qab,if_neg (fun e=>e.elim (fun e=>e h1) fun e=>e h2)];cases qn5 k<;>rfl
theorem xbto(t:Int)(b:List Int)(k:List CV)(g:Int)(hp:ndSm t b k=true):xbnb t b k g=zR [.cl (.slg 2 (qdz g t b k).1),.cl (.int .i64 (qdz g t b k).2)] []:=by
 obtain⟨hs,hl,_⟩:=qqa.1 hp;have hk:=(qd9 hs).1;unfold xbnb;rw[xblv,qab];refine qa5 (fun h=> ?_) fun h1=>qa5 (fun h=> ?_) fun h2=> ?_
 ·rw[q0a (.inl h)]
 ·rw[q0a (.inr h)]
 rw[q2u h1 h2];refine(q7o (f:=q4n) (L:=fun f i acc=>qoq _ _ f acc.length k (k.length:Int) (i:Int) t b k acc) (bad:=zR [.cl (.slg 2 []),.cl (.int .i64 1)] []) (fin:=fun acc=>cond (decide ((0:Int)<(b.length:Int))) (zR [.cl (.slg 2 []),.cl (.int .i64 1)] []) (cond (qbl acc) (cond (!qzd acc) (zR [.cl (.slg 2 []),.cl (.int .i64 1)] []) (zR [.cl (.slg 2 acc),.cl (.int .i64 0)] [])) none)) (show k.length<=_ by omega) rfl (fun n i acc x hi ha hx=> ?_) fun n acc ha=>qd0 (by omega) rfl).trans ?_
 ·have hx':=hk x (zac hx);obtain⟨t',b',k',rfl,hs'⟩:=hx';refine qat (by omega) (qbd (by omega) hx (qan rfl (qan hs' ?_)));have e:q4n (.agg (ndC t' b' k'))=if(qjw t' b' k').2.2=true then some (mkA (qjw t' b' k').1 (qjw t' b' k').2.1) else none:=by unfold qjw;rw[qab];rfl
  rw[e];show cond (!(qjw t' b' k').2.2) _ _=_
  cases(qjw t' b' k').2.2 with
  | false=>rfl
  | true=>exact q2t (A:=fun a b c=>qoq _ _ n a k _ b t _ k c) ha (by omega) (by omega)
 ·unfold qn5;by_cases ha:(k.all fun c=>(q4n c).isSome)=true
  ·rw[if_pos ha,if_pos ha];have hq:=(q62 hp (show qn5 k=some (k.filterMap q4n) by unfold qn5;rw[if_pos ha])).2.2;refine qac (fun h=> ?_) fun h=>qan hq ?_
   ·simp only[];rw[if_neg (fun e=>by rw[e.1] at h;simp at h)]
   ·have hb:b=[]:=zal (by omega);simp only[];rw[qwk];by_cases ho:okA (k.filterMap q4n)
    ·rw[qft.2 ho,if_pos ⟨hb,ho⟩];rfl
    ·rw[qw0 ho,if_neg fun e=>ho e.2];rfl
  ·rw[if_neg ha,if_neg ha]
open IntWalk (i64_in u8_in u32_in u64_in i64_quo u8_quo rem_in)
abbrev hasT(o:List Int)(c:CV):Bool:=decide (typA c=o)
theorem xbpi{l:List CV}{o:List Int}(h: ¬okA l):qpb l o=((0,[],[]),1):=by unfold qpb xbg7;rw[qab,if_neg h];rfl
theorem q9o{l:List CV}{o:List Int}(h:okA l)(hn:l.find? (hasT o)=none):qpb l o=((0,[],[]),18):=by unfold qpb xbg7;rw[qab,if_pos h,hn];rfl
theorem xbkg{l:List CV}{o:List Int}{c:CV}(h:okA l)(hn:l.find? (hasT o)=some c)(hm:1<(qox c).length):qpb l o=((0,[],[]),24):=by unfold qpb xbg7;rw[qab,if_pos h,hn];simp only[if_pos hm];rfl
theorem xbg9{l:List CV}{o:List Int}{c:CV}{t:Int}{b:List Int}{k r:List CV}(h:okA l)(hn:l.find? (hasT o)=some c)(hm: ¬1<(qox c).length)(hv:qox c=.agg (ndC t b k)::r):qpb l o=((t,b,k),0):=by unfold qpb xbg7;rw[qab,if_pos h,hn];simp only[if_neg hm];rw[hv];rfl
theorem xbph{l:List CV}(hk:okA l){c:CV}(hc:c∈l):0<(qox c).length:=(hk.1.2.2.1 c hc).2.1
noncomputable abbrev q0c(l:List CV)(o:List Int):Option Out:=zR [.cl (.agg [.int .i64 (qpb l o).1.1,.sli .u8 (qpb l o).1.2.1,.slg 3 (qpb l o).1.2.2]),.cl (.int .i64 (qpb l o).2)] []
abbrev xbw1(e:Int):Option Out:=zR [.cl (.agg [.int .i64 0,.sli .u8 [],.slg 3 []]),.cl (.int .i64 e)] []
theorem xbd6{l:List CV}{o p:List Int}{k:List CV}(hk:okA l)(ho:l.find? (hasT o)=some (mkA p k))(hv:qj2 k):(1<k.length->xbw1 24=q0c l o)/\(¬1<k.length->∃t b q r,k=.agg (ndC t b q)::r/\zR [.cl (.agg [.int .i64 t,.sli .u8 b,.slg 3 q]),.cl (.int .i64 0)] []=q0c l o):=by
 have hpos:0<k.length:=xbph hk (List.mem_of_find?_eq_some ho);refine⟨fun h=> ?_,fun h=> ?_⟩
 ·unfold q0c;rw[xbkg hk ho h]
 ·obtain⟨v,r,rfl⟩:=List.exists_cons_of_length_pos hpos;obtain⟨t,b,q,rfl,_⟩:=hv.1 v (by simp);refine⟨t,b,q,r,rfl, ?_⟩;unfold q0c;rw[xbg9 hk ho h rfl]
theorem xbwn(l:List CV)(o:List Int)(hp:qbl l=true):xbvh l o=q0c l o:=by
 obtain⟨hl,hW,_⟩:=qaz.1 hp;unfold xbvh;refine qan hp ?_;rw[qwk];by_cases hk:okA l
 ·rw[qft.2 hk];refine qxt rfl (qan hp ?_);rw[show idxA o l=qvv o 0 l from qab _];refine qac (fun h=> ?_) fun h=> ?_
  ·unfold q0c;rw[q9o hk (List.find?_eq_none.2 fun c hc=>by simpa using xbdd.1 h c hc)]
  ·obtain⟨j,c,h1,h2,h3⟩:=xbns (show 0<=qvv o 0 l by omega);rw[h1];obtain⟨p,k,rfl,hp2,hv⟩:=hW c (zac h2);have h2':l[Int.toNat ((0+j:Nat):Int)]? =some (mkA p k):=by rw[show Int.toNat ((0+j:Nat):Int)=j by omega];exact h2
   obtain⟨f1,f2⟩:=xbd6 hk h3 hv;refine qbd (by omega) h2' (qan rfl (qac (fun h=>f1 (by have h:(1:Int)<(k.length:Int):=h;omega)) fun h=> ?_));have h': ¬1<k.length:=by have h: ¬(1:Int)<(k.length:Int):=h;omega
   obtain⟨t,b,q,r,rfl,f⟩:=f2 h';refine qbd (by omega) h2' (qan rfl (qat (by show(0:Int)<(((CV.agg (ndC t b q)::r).length:Nat):Int);rw[zaf];omega) ?_));exact f
 ·rw[qw0 hk];unfold q0c;rw[xbpi hk];rfl
theorem xbuz{l:List CV}{x:Option Out}(hp:qbl l=true)(h:x=cond (qbl l) (cond (!decide ((qbq l 49).2.2=0)) (zR [.cl (.sli .u8 []),.cl (.int .i64 (qbq l 49).2.2)] []) (cond (isS (ndC (qbq l 49).1 qbn (qbq l 49).2.1)) (zR [.cl (.sli .u8 (qa2 (ndC (qbq l 49).1 qbn (qbq l 49).2.1)).1),.cl (.int .i64 (qa2 (ndC (qbq l 49).1 qbn (qbq l 49).2.1)).2)] []) none)) none):
  x=zR [.cl (.sli .u8 (qme l).1),.cl (.int .i64 (qme l).2)] []:=by
 rw[h,qb5];refine qan hp ?_;unfold qme xbrj;rw[qab];by_cases hk:okA l
 ·rw[qwt (.inl rfl) hk,if_pos hk];exact qn7 rfl (qan (qpc 49 hp hk.1.1.2) rfl)
 ·rw[q9k (.inl rfl) hk,if_neg hk];exact qzi (by simp) rfl
theorem xbtw(l:List CV)(hp:qbl l=true):xbsp l=zR [.cl (.sli .u8 (qme l).1),.cl (.int .i64 (qme l).2)] []:=xbuz hp rfl
open IntWalk (i64_in u8_in u32_in u64_in i64_quo u8_quo rem_in)
theorem qvr{c:CV}(h:WA c)(hf:(qcm 6 (qal (typA c))).2.2=0):xbbx (.agg (ndA c))=c:=by have e:=q67 h hf;obtain⟨o,k,rfl,ho,hk⟩:=h;exact(qtt ⟨_,_,_,rfl,(qrz ho hk).1⟩ e).2.1.symm
theorem xbpf{l:List CV}(hp:qbl l=true)(hg: ∀c∈l,ordB (typA c) (qox c)): ∀c∈l,(qcm 6 (qal (typA c))).2.2=0:=fun c hc=>by obtain⟨o,k,rfl,ho,hk⟩:=(qaz.1 hp).2.1 c hc;exact(made6 ho.2).1.2 (hg _ hc).2.2
theorem q03{l:List CV}(hp:qbl l=true)(hg: ∀c∈l,ordB (typA c) (qox c)):(boxA l).map xbbx=l/\qn5 (boxA l)=some l:=by
 have hW:=(qaz.1 hp).2.1;have hm:=xbpf hp hg;refine⟨qka fun c hc=>qvr (hW c hc) (hm c hc), ?_⟩;have h1: ∀v∈boxA l,q4n v=some (xbbx v):=fun v hv=>by obtain⟨c,hc,rfl⟩:=zba.1 hv;rw[q67 (hW c hc) (hm c hc),qvr (hW c hc) (hm c hc)]
 unfold qn5;rw[if_pos (by rw[zaj];exact fun v hv=>by rw[h1 v hv];rfl),xbjb h1];exact congrArg some (qka fun c hc=>qvr (hW c hc) (hm c hc))
theorem xbtx(a b:List CV)(hp:(qbl a&&qbl b)=true):xbni a b=zB (qhm a b):=by
 rw[zab] at hp;obtain⟨hl,hW,_⟩:=qaz.1 hp.1;obtain⟨hl2,hW2,_⟩:=qaz.1 hp.2;have lenV: ∀ {k:List CV},qj2 k->qf5 k=true:=fun h=>qoo (by have:=qvt h;omega);have nV: ∀ {k:List CV},qj2 k->isN (ndC 48 qbn k)=true:=fun h=>by rw[qb5];exact qwn (qr3 quq h.1 (by have:=h.2;simp;omega)).1
 unfold xbni;rw[qab];refine q26 (qvf (L:=fun f i=>qul _ _ f a b (i:Int)) rfl (by omega) (fun n i x hi hx hy=> ?_) (fun n i x y hi hx hy hne=> ?_) fun n=> ?_)
 ·obtain⟨o,k,rfl,ho,hk⟩:=hW x (zac hx);refine qat (by omega) (qbd (by omega) hx (qan rfl (qbd (by omega) hy (qan rfl (qan (qd7.2 ho.1) ?_)))));show cond (!qa6 o o) _ _=_;rw[qdg];refine qn7 rfl (qbd (by omega) hx (qan rfl (qan (lenV hk) (qbd (by omega) hy (qan rfl (qan (lenV hk) (qan (c:=isN (ndC 48 qbn k)&&isN (ndC 48 qbn k)) (by rw[nV hk];rfl) ?_)))))));show cond (!qfr (ndC 48 qbn k) (ndC 48 qbn k)) _ _=_;rw[qm8,qoc (by omega)];rfl
 ·obtain⟨o,k,rfl,ho,hk⟩:=hW x (zac hx);obtain⟨p,q,rfl,hp2,hq⟩:=hW2 y (zac hy);refine qat (by omega) (qbd (by omega) hx (qan rfl (qbd (by omega) hy (qan rfl (qan (qd7.2 ho.1) ?_)))));show cond (!qa6 o p) _ _=_;rw[qdg];refine qa5 (fun e=>rfl) fun e=>(qbd (by omega) hx (qan rfl (qan (lenV hk) (qbd (by omega) hy (qan rfl (qan (lenV hq) (qan (c:=isN (ndC 48 qbn k)&&isN (ndC 48 qbn q)) (by rw[nV hk,nV hq];rfl) ?_)))))));show cond (!qfr (ndC 48 qbn k) (ndC 48 qbn q)) _ _=_;rw[qe9.2 (fun e2=>hne (by subst e;simp at e2;rw[e2]))];rfl
 ·exact qd0 (by omega) rfl
open IntWalk (i64_in u8_in u32_in u64_in i64_quo u8_quo rem_in)
abbrev tyT(v:CV):Prop:= ∃t b q,v=.agg [.int .i64 t,.sli .u8 b,.slg 3 q]/\isT [.int .i64 t,.sli .u8 b,.slg 3 q]=true
theorem qts{l:List CV}:q4m l=true↔ ∀c∈l,WT c:=by unfold q4m;rw[qab,qft]
theorem q8x: ∀ {k:List CV},(∀v∈k,tyT v)->∀z,qdc qby k z<=z:=fun {k} h=>q8w fun v hv z=>by obtain⟨t,b,q,rfl,hs⟩:=h v hv;obtain⟨n,hn⟩:=qhx hs;show qby (ndC t b q) z<=z - 1;rw[qeh hn];exact qni hn z
theorem q3f(K:List CV->Int->Int->Option Out)(l:List CV)(i:Nat)(o:List Int)(k:List CV)(hi:l[i]? =some (mkA o k))(hk: ∀v∈k,tyT v): ∀(f j:Nat) (z:Int),z<=30000 - j->30005<f+j->j<=k.length->j<=30001->qgb K f l z (i:Int) (j:Int)=K l (qdc qby (k.drop j) z) (i:Int)
 | 0,j,z,hz,hf,hj,hj2=>by omega
 | f+1,j,z,hz,hf,hj,hj2=>by
  have ih:=q3f K l i o k hi hk f (j+1);show qm6 (qgb K f) K l z (i:Int) (j:Int)=_;unfold qm6;generalize qgb K f=ag at ih ⊢;refine qbd (by omega) hi (qan rfl ?_);show cond (decide ((j:Int)<(k.length:Int))) _ _=_;refine qac (fun h=> ?_) fun h=> ?_
  ·obtain⟨c,hc⟩:=qay (b:=k) (i:=j) (by omega);rw[qdr hc];obtain⟨t,b,q,rfl,hs⟩:=hk c (zac hc);unfold qdc;refine qac (fun h0=> ?_) fun h0=> ?_
   ·rw[if_neg (by omega)];refine qbd (by omega) hi (qan rfl (qbd (by omega) hc (qan rfl (qan (c:=isT (ndC t b q)&&qoa z) (by rw[hs,qub (by omega)];rfl) ?_))));obtain⟨n,hn⟩:=qhx hs;have hle:qby (ndC t b q) z<=z - 1:=by rw[qeh hn];exact qni hn z
    show ag l (qby (ndC t b q) z) (i:Int) (IntKind.i64.wrap ((j:Int)+1))=_;rw[qoc (by omega)];exact ih (qby (ndC t b q) z) (by omega) (by omega) (by omega) (by omega)
   ·rw[if_pos (by omega)]
  ·rw[za2 (by omega)];rfl
theorem q7k(a:Nat):cond (decide ((1000:Int)<(a:Int))) 1000 (a:Int)=min (a:Int) 1000:=by
 by_cases h:(1000:Int)<(a:Int)
 ·rw[decide_eq_true h,cond_true];omega
 ·rw[decide_eq_false h,cond_false];omega
theorem q3e(K:Int->Option Out)(l:List CV)(hl:l.length<=25)(hW: ∀c∈l,WT c): ∀(f i:Nat) (z:Int),z<=30000->i<=l.length->l.length<f+i->qin K f l z (i:Int)=K (smA (l.drop i) z)
 | 0,i,z,hz,hi,hf=>by omega
 | f+1,i,z,hz,hi,hf=>by
  have ih:=q3e K l hl hW f (i+1);show qm5 (qin K f) K l z _=_;unfold qm5;generalize qin K f=ag at ih ⊢;refine qac (fun h=> ?_) fun h=> ?_
  ·obtain⟨c,hc⟩:=qay (b:=l) (i:=i) (by omega);rw[qdr hc];obtain⟨o,k,rfl,ho,hk⟩:=hW c (zac hc);unfold smA;refine qac (fun h0=> ?_) fun h0=> ?_
   ·rw[if_neg (by omega)];refine qbd (by omega) hc (qan rfl ?_);show shut (qgb _ FUEL) l (IntKind.i64.wrap (z - cond (decide ((1000:Int)<(o.length:Int))) 1000 (o.length:Int))) (i:Int) 0=_;rw[q7k,i64_in _ (by omega),qab];have hle:=q8x hk (z - min (o.length:Int) 1000);refine(q3f _ l i o k hc hk FUEL 0 _ (by omega) (by unfold FUEL;omega) (zcg _) (by omega)).trans ?_;rw[zbz];show ag l (qdc qby k (z - min (o.length:Int) 1000)) (IntKind.i64.wrap ((i:Int)+1))=_;rw[qoc (by omega)];exact ih _ (by omega) (by omega) (by omega)
   ·rw[if_pos (by omega)]
  ·rw[za2 (by omega)];rfl
theorem xbaz{l:List CV}{n:Int}:smOk l n=true↔l.length<=25/\0<=n/\n<=30000:=by unfold smOk;rw[qab,decide_eq_true_eq]
theorem xbo5(l:List CV)(n:Int)(hp:(q4m l&&smOk l n)=true):xbge l n=zI (qrn l n):=by rw[zab,xbaz] at hp;obtain⟨hW,hl,hn⟩:=hp;have hW:=qts.1 hW;unfold xbge qrn;simp only[qab,q7k];rw[i64_in _ (by omega)];refine(q3e _ l hl hW FUEL 0 _ (by omega) (zcg _) (by unfold FUEL;omega)).trans ?_;rw[zbz]
theorem xbkc(l:List CV)(hp:q4m l=true):q8h l=zB (xbl5 l):=by
 unfold q8h xbl5;rw[qab];refine qac (fun h=>qan (by rw[hp,xbaz.2 ⟨by omega,by omega,by omega⟩];rfl) (qap ?_)) fun h=>qap ?_
 ·have e:qrn l 1500=smA l (1500 - l.length):=by unfold qrn;rw[qab,show min (l.length:Int) 1000=l.length by omega]
  rw[e,decide_eq_decide];exact⟨fun h'=>⟨by omega,h'⟩,fun h'=>h'.2⟩
 ·rw[eq_comm,decide_eq_false_iff_not];exact fun h'=>h (by omega)
theorem q8v{k:List CV}(hk: ∀v∈k,tyT v){z:Int}(hz:z<=1500)(h0:0<=qdc qby k z):(∀v∈k,qur v)/\(qgn k:Int)=z - qdc qby k z:=by
 have h:=qt9 (f:=qby) (g:=fun c=>qdn (rkOf (cell1 c)) (cell1 c)) (l:=k) (fun v hv z hz h=>by
  obtain⟨t,b,q,rfl,hs⟩:=hk v hv;obtain⟨n,hn⟩:=qhx hs;have hn:=qei hn;have h:0<=qby (ndC t b q) z:=h;rw[qeh hn] at h;show((qdn _ (ndC t b q):Nat):Int)=z - qby (ndC t b q) z;rw[qeh hn];exact qqq hn z hz h) (fun v hv z=>by
  obtain⟨t,b,q,rfl,hs⟩:=hk v hv;obtain⟨n,hn⟩:=qhx hs;show qby (ndC t b q) z<=z - 1;rw[qeh hn];exact qni hn z) z (by omega) h0
 have hb:(qgn k:Int)=z - qdc qby k z:=h.2;refine⟨fun v hv=> ?_,hb⟩;have hm:=qqw (g:=fun c=>qdn (rkOf (cell1 c)) (cell1 c)) hv;obtain⟨t,b,q,rfl,hs⟩:=hk v hv;obtain⟨n,hn⟩:=qhx hs;exact⟨t,b,q,rfl,q8t (qei hn) (zbu hm (by show qgn k<=_;omega))⟩
theorem q1d: ∀ {l:List CV} {z:Int},(∀c∈l,WT c)->z<=1500->0<=smA l z->(∀c∈l,WA c)/\(qpg l:Int)<=z
 | [],z,_,_,h=>⟨by simp,h⟩
 | c::r,z,hW,hz,h=>by
  obtain⟨o,k,rfl,ho,hk⟩:=hW c (by simp);have hle:=q8x hk (z - min (o.length:Int) 1000);have h:0<=(if z<0 then z else smA r (qdc qby k (z - min (o.length:Int) 1000))):=h;split at h
  ·omega
  ·have hr:0<=qdc qby k (z - min (o.length:Int) 1000):=by
    by_cases h':qdc qby k (z - min (o.length:Int) 1000)<0
    ·cases r with
     | nil=>exact h
     | cons d r'=>
      have h:0<=(if qdc qby k (z - min (o.length:Int) 1000)<0 then qdc qby k (z - min (o.length:Int) 1000) else _):=h;rw[if_pos h'] at h;exact h
    ·omega
   obtain⟨a1,a2⟩:=q8v hk (by omega) hr;obtain⟨b1,b2⟩:=q1d (fun c hc=>hW c (zaz _ hc)) (by omega) h;refine⟨fun c hc=> ?_, ?_⟩
   ·rcases zau.1 hc with rfl|hc
    ·exact⟨o,k,rfl,ho,a1,by omega⟩
    ·exact b1 c hc
   ·have e:qpg (mkA o k::r)=qgn k+qpg r:=by unfold qpg;rw[zby,zci];rfl
    omega
theorem xbmp{l:List CV}(hW:q4m l=true)(h:xbl5 l=true):qbl l=true:=by unfold xbl5 at h;rw[qab,decide_eq_true_eq] at h;obtain⟨h1,h2⟩:=q1d (qts.1 hW) (by omega) h.2;exact qaz.2 ⟨by omega,h1,by omega⟩
theorem e42:qcm 6 (qal [1,2])=(6,[42],0):=by rw[show qal [1,2]=[42] from(qab _).trans (by kernel_rfl)];exact(qab _).trans (by kernel_rfl)
theorem e43:qcm 6 (qal [1,3])=(6,[43],0):=by rw[show qal [1,3]=[43] from(qab _).trans (by kernel_rfl)];exact(qab _).trans (by kernel_rfl)
abbrev v42:CV:=.agg (ndC 6 [42] [])
abbrev c42:CV:=mkA [1,3] [v42]
theorem nd42:qur v42:=⟨6,[42],[],rfl,qpu (by simp) (by simp)⟩
theorem xbsi{n:Nat}{a:List CV}(h:isTf n a=true)(h1:okF n 32 a=true)(h2:(qak n a).2=true):(qa2 a).2=0/\qun a=true:=by rw[qdu h,qp9 h,if_pos ⟨h1,h2⟩];exact⟨rfl,decide_eq_true ⟨h1,h2⟩⟩
theorem ok42:qbl [c42]=true/\okA [c42]:=by
 have hv:qj2 [v42]:=⟨fun v hv=>by rw[zcq.1 hv];exact nd42,by
  have:=(qr3 (t:=6) (b:=[42]) (k:=[]) (by simp) (by simp) (by show 1+1+0<=30000;omega)).2;show q7a (ndC 6 [42] [])+0<=1800;rw[this];show 1+1+0+0<=1800;omega⟩
 have hW: ∀c∈[c42],WA c:=fun c hc=>by rw[zcq.1 hc];exact⟨[1,3],_,rfl,⟨by simp,by simp⟩,hv⟩
 have hf:fitV [v42]:=fun v hv=>by rw[zcq.1 hv];exact(xbsi (n:=1) (a:=ndC 6 [42] []) (by kernel_rfl) (by kernel_rfl) (by kernel_rfl)).1
 have ho:qrg [v42]=[v42]:=by rw[qow hf];rfl
 have hm:[c42].map ordA=[c42]:=by show[mkA [1,3] (qrg [v42])]=_;rw[ho]
 have hn:ndA c42=[.int .i64 48,.sli .u8 [],.slg 3 [.agg (ndC 6 [43] []),.agg (ndC 49 [] [v42])]]:=by show[CV.int .i64 48,.sli .u8 [],.slg 3 (qvw [1,3] [v42])]=_;unfold qvw;rw[e43]
 have hs:srtA [c42]=[c42]:=rfl;refine⟨qaz.2 ⟨by simp,hW,by show qgn [v42]+0<=1800;have:=hv.2;omega⟩,⟨⟨by simp,by simp⟩,by simp,fun c hc=> ?_, ?_, ?_⟩, ?_⟩
 ·rw[zcq.1 hc];exact⟨hf,by show 0<1;omega,rfl⟩
 ·rw[hm];intro c hc;rw[zcq.1 hc];refine⟨by show(qcm 6 (qal [1,3])).2.2=0;rw[e43], ?_⟩;rw[hn];exact(xbsi (n:=3) (by kernel_rfl) (by kernel_rfl) (by kernel_rfl)).1
 ·rw[hm,hs];show qun (ndC 49 [] [.agg (ndA c42)])=true;rw[hn];exact(xbsi (n:=4) (by kernel_rfl) (by kernel_rfl) (by kernel_rfl)).2
 ·rw[hm,hs]
theorem xbme:qbl []=true:=qaz.2 ⟨by simp,by simp,by show 0<=1800;omega⟩
theorem xbkb(hp:true=true):q8f=zB true:=by obtain⟨ha,hk⟩:=ok42;unfold q8f;simp only[e42,qjq];have h18:qpb [c42] [1,4]=((0,[],[]),18):=q9o hk rfl;have h0:qpb [c42] [1,3]=((6,[42],[]),0):=xbg9 hk (c:=c42) (r:=[]) rfl (by show ¬1<1;omega) rfl;have hN:=qwn (qpu (g:=6) (b:=[42]) (by simp) (by simp));refine qan (xbgn (by simp) (by simp;exact⟨⟨by omega,by omega⟩,by omega,by omega⟩)) (qan ha (qan ha (qan xbme ?_)));rw[qwk,qwk,qw0 (fun h:okA []=>by have:=h.1.1.1;simp at this)];refine qan rfl (qan ha (qan (qft.2 hk) (qat (by rw[h18]) (qat (by rw[h0]) ?_))));rw[h0];refine qan (by rw[hN];rfl) (qan (qm8 _) (qan (qd7.2 (by simp)) ?_));rw[qdg];rfl
theorem xbiz{c:Bool}{a b r:Option Out}(h1:c=false->a=r)(h2:c=true->b=r):cond (!c) a b=r:=by
 cases c with
 | false=>exact h1 rfl
 | true=>exact h2 rfl
theorem xbq5(a:List CV):qhm a a=true:=by rw[qkx];exact qft.2 rfl
theorem xbce:isN (ndC 0 [] [])=true:=qwn (qpu (by simp) (by simp))
theorem xbd4{l:List CV}(g:Int)(hp:qbl l=true):isN (ndC (qbq l g).1 qbn (qbq l g).2.1)=true:=by
 rw[qb5];by_cases h:g=49\/(160<=g/\g<=190)
 ·by_cases hk:okA l
  ·rw[qwt h hk];exact qwn (qpc g hp hk.1.1.2)
  ·rw[q9k h hk];exact xbce
 ·rw[q9l h];exact xbce
theorem xblw{l:List CV}(hp:qbl l=true):qud (qme l).1=true:=by
 have e:qme l=xbrj l:=qab _;rw[e];unfold xbrj;by_cases hk:okA l
 ·rw[if_pos hk];have hs:=qpc 49 hp hk.1.1.2;by_cases h0:(qa2 (ndC 49 [] (boxA l))).2=0
  ·have:=(qtv hs (by rw[q1f hs];exact decide_eq_true h0)).2.2.1;exact qkh (b:=(qa2 (ndC 49 [] (boxA l))).1) (by omega)
  ·obtain⟨n,hn,_⟩:=qcp hs;rw[qdu hn] at h0 ⊢;split at h0
   ·exact absurd rfl h0
   ·rw[if_neg (by assumption)];exact qkh (by simp)
 ·rw[if_neg hk];exact qkh (by simp)
theorem xbjn{c:CV}(h:qur c):qgn (qox (xbbx c))<=q7a (cell1 c):=by
 obtain⟨t,b,k,rfl,hs⟩:=h;obtain⟨hk,e,_⟩:=qd9 hs;show qgn (qc5 ((cell1 (k.getD 1 .nili)).getD 2 .nili))<=q7a (ndC t b k)
 match k,hk,e with
 | [],_,_=>exact zcg _
 | [_],_,_=>exact zcg _
 | u::v::r,hk,e=>
  rw[e];obtain⟨t1,b1,k1,rfl,s1⟩:=hk v (by simp);have e1:=(qd9 s1).2.1;have hm:=qqw (g:=fun c=>qdn (rkOf (cell1 c)) (cell1 c)) (l:=u::.agg (ndC t1 b1 k1)::r) (c:=.agg (ndC t1 b1 k1)) (by simp);have hm:1+b1.length+qgn k1<=qgn (u::.agg (ndC t1 b1 k1)::r):=zbu (Nat.le_of_eq e1.symm) hm;exact zbu (zbu (Nat.le_add_left (qgn k1) (1+b1.length)) hm) (Nat.le_add_left _ _)
theorem qwp: ∀ {k:List CV},(∀v∈k,qur v)->qpg (k.map xbbx)<=qgn k
 | [],_=>zas _
 | c::r,h=>by have ih:=qwp fun v hv=>h v (zaz _ hv);have h1:=xbjn (h c (by simp));unfold qpg qgn at ih ⊢;rw[zby,zby,zci,zby,zci];exact Nat.add_le_add h1 ih
theorem xblq{t:Int}{b:List Int}{k:List CV}(hs:isT (ndC t b k)=true)(h0: ¬qby (ndC t b k) 1500<0):ndSm t b k=true:=by obtain⟨n,hn⟩:=qhx hs;have hn:=qei hn;rw[qeh hn] at h0;have hb:=qqq hn 1500 (by omega) (by omega);have hS:=q8t hn (by omega);obtain⟨hk,e,_⟩:=qd9 hS;have:=qzg hk;have:=qwp hk;have e:qdn (rkOf (ndC t b k)) (ndC t b k)=1+b.length+qgn k:=e;exact qqa.2 ⟨hS,by omega,by omega⟩
theorem q04{t:Int}{b:List Int}{k:List CV}{x:Option Out}(hs:ndSm t b k=true)(h:x=cond (ndSm t b k) (cond (!decide ((qdz t t b k).2=0)) (cond (decide ((((qdz t t b k).1.length:Nat):Int)=0)) (zB true) (zB false)) (cond (qbl (qdz t t b k).1) (cond (decide ((qbq (qdz t t b k).1 t).2.2=0)) (cond (isN (ndC (qbq (qdz t t b k).1 t).1 qbn (qbq (qdz t t b k).1 t).2.1)&&isN (ndC t b k)) (cond (qfr (ndC (qbq (qdz t t b k).1 t).1 qbn (qbq (qdz t t b k).1 t).2.1) (ndC t b k)) (cond (qbl (qdz t t b k).1) (cond (qzd (qdz t t b k).1) (zB true) (zB false)) none) (zB false)) none) (zB false)) none)) none):
  x=zB true:=by
 rw[h];refine qan hs ?_;have hN:=qwn (qqa.1 hs).1;by_cases hT:t=49\/(160<=t/\t<=190)
 ·by_cases hg: ∃l,qn5 k=some l/\b=[]/\okA l
  ·obtain⟨l,e,hk⟩:=hg;obtain⟨_,q2,hq⟩:=q62 hs e;have hN2:=xbd4 t hq;rw[show qdz t t b k=(l,0) by rw[q2u hT rfl,e];exact if_pos hk,qwk,qft.2 hk.2];refine qn7 rfl (qan hq ?_);show cond (decide ((qbq l t).2.2=0)) (cond (isN (ndC (qbq l t).1 qbn (qbq l t).2.1)&&isN (ndC t b k)) (cond (qfr (ndC (qbq l t).1 qbn (qbq l t).2.1) (ndC t b k)) _ _) none) _=_;rw[hN2,hN,qwt hT hk.2,qb5, <- q2,hk.1];exact qat rfl (qan rfl (qan (qm8 _) (qan hq rfl)))
  ·have er:qdz t t b k=([],1):=by
    rw[q2u hT rfl]
    cases e:qn5 k with
    | none=>rfl
    | some l=>exact if_neg fun h=>hg ⟨l,e,h⟩
   rw[er];exact qzi (by simp) (qat rfl rfl)
 ·rw[q0a (.inl hT)];exact qzi (by simp) (qat rfl rfl)
theorem xbsg{l:List CV}{g:Int}(hp:qbl l=true)(hk:okA l):ndSm g qbn (boxA l)=true:=by obtain⟨hl,hW,hB⟩:=qaz.1 hp;rw[qb5];refine qqa.2 ⟨qpc g hp hk.1.1.2,by unfold boxA;rw[zan];exact hl, ?_⟩;rw[(q03 hp hk.1.2.2.1).1];exact hB
theorem xbke{l:List CV}(hp:qbl l=true)(hk:okA l):(qa2 (ndC 49 [] (boxA l))).2=0/\qme l=qa2 (ndC 49 [] (boxA l))/\qud (qa2 (ndC 49 [] (boxA l))).1=true:=by
 have hs:=qpc 49 hp hk.1.1.2;have h5:=hk.1.2.2.2.2;rw[<- hk.2] at h5;have h5:qun (ndC 49 [] (boxA l))=true:=h5;have e:qme l=qa2 (ndC 49 [] (boxA l)):=by refine(qab _).trans ?_;unfold xbrj;rw[if_pos hk]
 exact⟨of_decide_eq_true ((q1f hs).symm.trans h5),e,e▸xblw hp⟩
theorem xbmg{l:List CV}{g:Int}(hT:g=49\/(160<=g/\g<=190))(hp:qbl l=true)(hk:okA l):qdz g g [] (boxA l)=(l,0):=by rw[q2u hT rfl,(q03 hp hk.1.2.2.1).2];exact if_pos ⟨rfl,hk⟩
theorem xbrg{l:List CV}{i:Nat}{a c:CV}(h0:l[0]? =some a)(hi:l[i]? =some c):((l.set 0 c).set i a).Perm l:=by obtain⟨l0,e0⟩:=zad.1 h0;obtain⟨li,ei⟩:=zad.1 hi;have:=@List.set_set_perm _ l 0 i l0 li;rw[e0,ei] at this;exact this
theorem xbpa(l:List CV)(t:Int)(b:List Int)(k:List CV)(x:Int)(y:Int)(hp:(q4m l&&(isT [.int .i64 t,.sli .u8 b,.slg 3 k]&&(u8Ok x&&u8Ok y)))=true):xbgj l t b k x y=zB true:=by
 simp only[zab] at hp;obtain⟨p1,p2,p3,p4⟩:=hp;have hx:0<=x/\x<=255:=by unfold u8Ok at p3;rw[qab] at p3;exact of_decide_eq_true p3
 have hy:0<=y/\y<=255:=by unfold u8Ok at p4;rw[qab] at p4;exact of_decide_eq_true p4
 refine qan p1 (xbiz (fun _=>rfl) fun h1=>qan (by rw[p2,qub (by omega)];rfl) (qac (fun _=>rfl) fun h2=> ?_));have hl:=xbmp p1 h1;have hs:=xblq p2 h2;refine qan hl (qac (fun h3=> ?_) fun h3=>q04 hs rfl);have hg:q8i l:=Classical.byContradiction fun e=>by rw[xbry e] at h3;cases h3
 have ek:=xbn9 hg;have hq:=xbmd hl;have hk:=xbnn hl hg;obtain⟨hl1,hW,_⟩:=qaz.1 hl;have hpos:=hg.1.1;have etag:IntKind.i64.wrap ((160:Int)+IntKind.i64.wrap (Int.tmod x 31))=160+x % 31:=by rw[zbv hx.1,i64_in (x % 31) (by omega),i64_in _ (by omega)]
 have hT:(160+x % 31=49\/(160<=160+x % 31/\160+x % 31<=190)):=by omega
 have eix:Int.tmod (IntKind.i64.wrap y) (l.length:Int)=y % (l.length:Int):=by rw[i64_in y (by omega),zbv hy.1]
 have hi0:=Int.emod_nonneg y (show(l.length:Int)≠0 by omega);have hi1:=Int.emod_lt_of_pos y (show(0:Int)<(l.length:Int) by omega);rw[etag,ek];simp only[za1,eix];generalize y % (l.length:Int)=ix at hi0 hi1 ⊢;obtain⟨j,rfl⟩: ∃j:Nat,ix=(j:Int):=⟨ix.toNat,by omega⟩;obtain⟨a,ha⟩:=qay (b:=l) (i:=0) (by omega);obtain⟨c,hc⟩:=qay (b:=l) (i:=j) (by omega);have hsw:=xbrg ha hc;obtain⟨gm,em⟩:=xbdb hl hsw.symm hg;have hswa:=q6z hsw hl;have ekm:=xbn9 gm;rw[em] at ekm;refine qxc (by omega) (by omega) (qd0 (by omega) (qa1 (by omega) (by omega) ?_));have hj:0+Int.toNat (j:Int)=j:=by omega
 simp only[hj];rw[hc,zag,ha,zag];obtain⟨oc,kc,rfl,hoc,hkc⟩:=hW c (zac hc);obtain⟨oa,ka,rfl,hoa,hka⟩:=hW a (zac ha);obtain⟨t1,t2,t3⟩:=xbke hq hk;have t3':=t3;rw[<- t2] at t3';refine qan rfl (qat (by omega) (qan rfl (qat (by omega) (qa1 (by omega) (by omega) (qan hswa (qan hq ?_))))));show cond (ndSm (qbq (srtA (l.map ordA)) (160+x % 31)).1 qbn (qbq (srtA (l.map ordA)) (160+x % 31)).2.1) _ _=_;rw[qwt hT hk];refine qan (xbsg hq hk) (qan hq (qan hq ?_));rw[qwk,qft.2 hk];have ekm2:qfn ((l.set 0 (CV.agg [.sli .u32 (qba ((cell1 (mkA oc kc)).headD .nili)),.slg 3 (qc5 ((cell1 (mkA oc kc)).tail.headD .nili))])).set j (CV.agg [.sli .u32 (qba ((cell1 (mkA oa ka)).headD .nili)),.slg 3 (qc5 ((cell1 (mkA oa ka)).tail.headD .nili))]))=(srtA (l.map ordA),0):=ekm;have er:qdz (160+x % 31) (160+x % 31,boxA (srtA (l.map ordA)),(0:Int)).1 qbn (160+x % 31,boxA (srtA (l.map ordA)),(0:Int)).2.1=(srtA (l.map ordA),0):=by rw[qb5];exact xbmg hT hq hk
 rw[<- qb5] at t1 t2 t3;have hS:isS (ndC 49 qbn (boxA (srtA (l.map ordA))))=true:=by rw[qb5];exact qpc 49 hq hk.1.1.2
 rw[ekm2,er,t2];exact qxt rfl (qn7 rfl (qan (by rw[hq];rfl) (qxt (by rw[xbq5];rfl) (qn7 rfl (qn7 rfl (qan (by rw[hq];rfl) (qxt (by rw[xbq5];rfl) (qn7 t1 (qan hS (qn7 t1 (qan t3 (qxt (by rw[qdg,decide_eq_true rfl];rfl) (q04 hs rfl)))))))))))))
end Go.Proofs.YtoiikagnjcjccaaGreatDoorA
