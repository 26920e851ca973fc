/-
 The attr layer: the library's sort, first steps: comparing, changing places, turning. Conditions: each function's own.
-/
import Derived.Test.YtoiikagnjcjccaaGreatDoorT3b
set_option linter.unusedVariables false
set_option linter.unusedSimpArgs false
set_option maxRecDepth 100000
namespace Go.Proofs.YtoiikagnjcjccaaGreatDoorA
open IntWalk (i64_in u8_in u32_in u64_in i64_quo u8_quo rem_in)
theorem qd8(ky:CV->List Int):Ord2 (ltK ky):=by
 have sw:=qoa;have tr:=qgq;have e: ∀a b,ltK ky a b=true↔qan (ky a) (ky b)<0:=fun a b=>decide_eq_true_iff;have n: ∀a b,ltK ky a b=false↔qan (ky b) (ky a)<=0:=fun a b=>by rw[zau,ne_eq,e,sw (ky b) (ky a),Classical.not_not]
 refine {tr:=fun a b c h1 h2=> ?_,ge:=fun a b c h1 h2=> ?_,irr:=fun a b h=> ?_,mix:=fun a b c h1 h2=> ?_}
 ·refine Classical.byContradiction fun h=> ?_;have h:=(n a c).1 (zau.2 h);have h1':=(e a b).1 h1;have h2':=(e b c).1 h2;rw[sw (ky c) (ky b)] at h2';exact h2' (tr _ _ _ h (by omega))
 ·exact(n a c).2 (tr _ _ _ ((n b c).1 h2) ((n a b).1 h1))
 ·have:=(e a b).1 h;exact(n b a).2 (by omega)
 ·refine Classical.byContradiction fun h=> ?_;have h:=(n c a).1 (zau.2 h);have h2':=(e c b).1 h2;rw[sw (ky b) (ky c)] at h2';exact h2' (tr _ _ _ ((n a b).1 h1) h)
theorem qa5{m:Nat}{l:List CV}(h:rows4 m l=true):m=l.length/\l.length<=2000/\∀c∈l,W4A c:=by unfold rows4 at h;rw[qab] at h;exact @of_decide_eq_true _ (Classical.propDecidable _) h
theorem qhb{m:Nat}{l:List CV}(h:m=l.length/\l.length<=2000/\∀c∈l,W4A c):rows4 m l=true:=by unfold rows4;rw[qab];exact @decide_eq_true _ (Classical.propDecidable _) h
theorem qa4{m:Nat}{l:List CV}(h:rows3 m l=true):m=l.length/\l.length<=2000/\∀c∈l,W3A c:=by unfold rows3 at h;rw[qab] at h;exact @of_decide_eq_true _ (Classical.propDecidable _) h
theorem qip{m:Nat}{l:List CV}(h:m=l.length/\l.length<=2000/\∀c∈l,W3A c):rows3 m l=true:=by unfold rows3;rw[qab];exact @decide_eq_true _ (Classical.propDecidable _) h
theorem q3r{m:Nat}{a b n:Int}(h:swOk m a b n=true):0<=a/\0<=n/\a+n<=b/\b+n<=(m:Int):=by unfold swOk at h;rw[qab] at h;exact of_decide_eq_true h
theorem qsk{m:Nat}{a b n:Int}(h:0<=a/\0<=n/\a+n<=b/\b+n<=(m:Int)):swOk m a b n=true:=by unfold swOk;rw[qab];exact decide_eq_true h
theorem qkt{m:Nat}{a p b:Int}(h:qdg m a p b=true):0<=a/\a<p/\p<b/\b<=(m:Int):=by unfold qdg at h;rw[qab] at h;exact of_decide_eq_true h
theorem qfj{m:Nat}{a p b:Int}(h:0<=a/\a<p/\p<b/\b<=(m:Int)):qdg m a p b=true:=by unfold qdg;rw[qab];exact decide_eq_true h
theorem xbif{d:List CV}{a b n:Nat}(h:a+n<=b)(hb:b+n<=d.length){c:CV}(hc:c∈swp d a b n):c∈d:=by
 obtain⟨i,hi⟩:=zb3.1 hc;rw[qis d h hb] at hi
 (repeat' split at hi)<;>exact zac hi
theorem xbtt(tp:Int)(bp:List Int)(kp:List CV)(wp:List Int)(tq:Int)(bq:List Int)(kq:List CV)(wq:List Int)(hp:(qad wp&&qad wq)=true):xbs0 tp bp kp wp tq bq kq wq=zI (qbf wp wq):=qam hp rfl
theorem xbts(op:List Int)(kp:List CV)(wp:List Int)(oq:List Int)(kq:List CV)(wq:List Int)(hp:(qad wp&&qad wq)=true):xbsz op kp wp oq kq wq=zI (qbf wp wq):=qam hp rfl
theorem xbbn(K:List CV->Option Out)(d:List CV)(m a b n:Nat)(hm:m=d.length)(hl:d.length<=2000)(hW: ∀c∈d,W4A c)(h1:a+n<=b)(h2:b+n<=d.length): ∀(f k:Nat),k<=n->n - k<f->qlf K f m a b n k (swp d a b k)=K (swp d a b n)
 | 0,k,hk,hf=>by omega
 | f+1,k,hk,hf=>by
  show qmr (qlf K f) K m a b n k (swp d a b k)=_;unfold qmr;refine qac (fun h=> ?_) fun h=> ?_
  ·have hk2:k<n:=by omega
   obtain⟨x,hx⟩: ∃x,d[a+k]? =some x:=⟨_,zad (by omega)⟩;obtain⟨y,hy⟩: ∃y,d[b+k]? =some y:=⟨_,zad (by omega)⟩;have gx:(swp d a b k)[a+k]? =some x:=by rw[qis d (by omega) (by omega),if_neg (by omega),if_neg (by omega),hx]
   have gy:(swp d a b k)[b+k]? =some y:=by rw[qis d (by omega) (by omega),if_neg (by omega),if_neg (by omega),hy]
   obtain⟨t1,b1,k1,w1,rfl,_⟩:=hW x (zac hx);obtain⟨t2,b2,k2,w2,rfl,_⟩:=hW y (zac hy);have e1:IntKind.i64.wrap ((a:Int)+k)=((a+k:Nat):Int):=(i64_in _ (by omega)).trans (by omega);have e2:IntKind.i64.wrap ((b:Int)+k)=((b+k:Nat):Int):=(i64_in _ (by omega)).trans (by omega);have e3:IntKind.i64.wrap ((k:Int)+1)=((k+1:Nat):Int):=(i64_in _ (by omega)).trans (by omega);have n1:0+Int.toNat ((a+k:Nat):Int)=a+k:=by omega
   have n2:0+Int.toNat ((b+k:Nat):Int)=b+k:=by omega
   have st:=xbbp d (show a+k<b by omega) (show b+k<d.length by omega) hx hy;simp only[e1,e2,e3,n1,n2];refine qax (by omega) (by omega) ?_;rw[gy,zaf];refine qam rfl (qax (by omega) (by omega) ?_);rw[gx,zaf];refine qam rfl (qax (by omega) (by omega) (qax (by omega) (by omega) ?_));refine zds ?_ (xbbn K d m a b n hm hl hW h1 h2 f (k+1) (by omega) (by omega));rw[<- st];rfl
  ·have:k=n:=by omega
   rw[this]
theorem xbpi(m:Nat)(a b n:Int)(l:List CV)(hp:(rows4 m l&&swOk m a b n)=true):xbgk m a b n l=zR [] [some ⟨.gen 4 (swpC l a b n),false⟩]:=by rw[zab] at hp;obtain⟨rfl,hl,hW⟩:=qa5 hp.1;obtain⟨h1,h2,h3,h4⟩:=q3r hp.2;obtain⟨a',rfl⟩:=Int.eq_ofNat_of_zero_le h1;obtain⟨n',rfl⟩:=Int.eq_ofNat_of_zero_le h2;obtain⟨b',rfl⟩:=Int.eq_ofNat_of_zero_le (show 0<=b by omega);unfold xbgk swpC;rw[qab,qab];have:=xbbn (fun y=>zR [] [some ⟨.gen 4 y,false⟩]) l l.length a' b' n' rfl hl hW (by omega) (by omega) FUEL 0 (by omega) (by unfold FUEL;omega);rw[xbbo l (by omega) (by omega)] at this;exact this
theorem xbbm(K:List CV->Option Out)(d:List CV)(m a b n:Nat)(hm:m=d.length)(hl:d.length<=2000)(hW: ∀c∈d,W3A c)(h1:a+n<=b)(h2:b+n<=d.length): ∀(f k:Nat),k<=n->n - k<f->qle K f m a b n k (swp d a b k)=K (swp d a b n)
 | 0,k,hk,hf=>by omega
 | f+1,k,hk,hf=>by
  show qmq (qle K f) K m a b n k (swp d a b k)=_;unfold qmq;refine qac (fun h=> ?_) fun h=> ?_
  ·have hk2:k<n:=by omega
   obtain⟨x,hx⟩: ∃x,d[a+k]? =some x:=⟨_,zad (by omega)⟩;obtain⟨y,hy⟩: ∃y,d[b+k]? =some y:=⟨_,zad (by omega)⟩;have gx:(swp d a b k)[a+k]? =some x:=by rw[qis d (by omega) (by omega),if_neg (by omega),if_neg (by omega),hx]
   have gy:(swp d a b k)[b+k]? =some y:=by rw[qis d (by omega) (by omega),if_neg (by omega),if_neg (by omega),hy]
   obtain⟨b1,k1,w1,rfl,_⟩:=hW x (zac hx);obtain⟨b2,k2,w2,rfl,_⟩:=hW y (zac hy);have e1:IntKind.i64.wrap ((a:Int)+k)=((a+k:Nat):Int):=(i64_in _ (by omega)).trans (by omega);have e2:IntKind.i64.wrap ((b:Int)+k)=((b+k:Nat):Int):=(i64_in _ (by omega)).trans (by omega);have e3:IntKind.i64.wrap ((k:Int)+1)=((k+1:Nat):Int):=(i64_in _ (by omega)).trans (by omega);have n1:0+Int.toNat ((a+k:Nat):Int)=a+k:=by omega
   have n2:0+Int.toNat ((b+k:Nat):Int)=b+k:=by omega
   have st:=xbbp d (show a+k<b by omega) (show b+k<d.length by omega) hx hy;simp only[e1,e2,e3,n1,n2];refine qax (by omega) (by omega) ?_;rw[gy,zaf];refine qam rfl (qax (by omega) (by omega) ?_);rw[gx,zaf];refine qam rfl (qax (by omega) (by omega) (qax (by omega) (by omega) ?_));refine zds ?_ (xbbm K d m a b n hm hl hW h1 h2 f (k+1) (by omega) (by omega));rw[<- st];rfl
  ·have:k=n:=by omega
   rw[this]
theorem xbph(m:Nat)(a b n:Int)(l:List CV)(hp:(rows3 m l&&swOk m a b n)=true):xbgj m a b n l=zR [] [some ⟨.gen 3 (swpC l a b n),false⟩]:=by rw[zab] at hp;obtain⟨rfl,hl,hW⟩:=qa4 hp.1;obtain⟨h1,h2,h3,h4⟩:=q3r hp.2;obtain⟨a',rfl⟩:=Int.eq_ofNat_of_zero_le h1;obtain⟨n',rfl⟩:=Int.eq_ofNat_of_zero_le h2;obtain⟨b',rfl⟩:=Int.eq_ofNat_of_zero_le (show 0<=b by omega);unfold xbgj swpC;rw[qab,qab];have:=xbbm (fun y=>zR [] [some ⟨.gen 3 y,false⟩]) l l.length a' b' n' rfl hl hW (by omega) (by omega) FUEL 0 (by omega) (by unfold FUEL;omega);rw[xbbo l (by omega) (by omega)] at this;exact this
open IntWalk (i64_in u8_in u32_in u64_in i64_quo u8_quo rem_in)
theorem qni(l:List CV)(a b n:Nat):swpC l a b n=swp l a b n:=by unfold swpC;rw[qab];rfl
abbrev ret4(l:List CV):Option Out:=zR [] [some ⟨.gen 4 l,false⟩]
theorem q3c{m:Nat}{d:List CV}{a b n:Nat}(h:rows4 m d=true)(h1:a+n<=b)(h2:b+n<=d.length):rows4 m (swp d a b n)=true:=by obtain⟨e1,e2,e3⟩:=qa5 h;have:=qit d h1 h2;exact qhb ⟨by omega,by omega,fun c hc=>e3 c (xbif h1 h2 hc)⟩
noncomputable abbrev xbuf:Nat->Int->Int->List CV->Option Out:=fun y3 y4 y5 y6=>cond (rows4 y3 y6&&swOk y3 (IntKind.i64.wrap (y4 - y5)) y4 y5) (ret4 (swpC y6 (IntKind.i64.wrap (y4 - y5)) y4 y5)) none
theorem xbae(m p:Nat): ∀(f:Nat) (d:List CV) (i j:Nat),rows4 m d=true->0<i->0<j->i<=p->p+j<=d.length->i+j<=f->
  qol xbuf f m p i j d=ret4 (rotF f d p i j)
 | 0,_,_,_,_,_,_,_,_,_=>by omega
 | f+1,d,i,j,hr,hi,hj,hp,hd,hf=>by
  obtain⟨hm,hl,_⟩:=qa5 hr;show qpv (qol xbuf f) xbuf m p i j d=_;unfold qpv;have w1:IntKind.i64.wrap ((p:Int) - i)=((p - i:Nat):Int):=(i64_in _ (by omega)).trans (by omega);refine qbb (fun hne=> ?_) fun heq=> ?_
  ·have hne: ¬i=j:=fun e=>hne (by rw[e]);refine qac (fun h=> ?_) fun h=> ?_
   ·have w2:IntKind.i64.wrap ((i:Int) - j)=((i - j:Nat):Int):=(i64_in _ (by omega)).trans (by omega);rw[w1,w2];refine qam (by rw[hr,qsk (by omega)];rfl) ?_;rw[qni];have hs:=qit d (a:=p - i) (b:=p) (n:=j) (by omega) (by omega);refine(xbae m p f _ (i - j) j (q3c hr (by omega) (by omega)) (by omega) hj (by omega) (by omega) (by omega)).trans ?_;show _=ret4 (if i=j then _ else if j<i then _ else _);rw[if_neg hne,if_pos (by omega)]
   ·have w2:IntKind.i64.wrap ((p:Int)+j)=((p+j:Nat):Int):=(i64_in _ (by omega)).trans (by omega);have w3:IntKind.i64.wrap (((p+j:Nat):Int) - i)=((p+j - i:Nat):Int):=(i64_in _ (by omega)).trans (by omega);have w4:IntKind.i64.wrap ((j:Int) - i)=((j - i:Nat):Int):=(i64_in _ (by omega)).trans (by omega);simp only[w1,w2,w3,w4];refine qam (by rw[hr,qsk (by omega)];rfl) ?_;rw[qni];have hs:=qit d (a:=p - i) (b:=p+j - i) (n:=i) (by omega) (by omega);refine(xbae m p f _ i (j - i) (q3c hr (by omega) (by omega)) hi (by omega) hp (by omega) (by omega)).trans ?_;show _=ret4 (if i=j then _ else if j<i then _ else _);rw[if_neg hne,if_neg (by omega)]
  ·have heq:i=j:=by have:(i:Int)=j:=heq;omega
   show cond (rows4 m d&&swOk m (IntKind.i64.wrap ((p:Int) - i)) p i) (ret4 (swpC d (IntKind.i64.wrap ((p:Int) - i)) p i)) none=ret4 (if i=j then swp d (p - i) p i else _);rw[w1,if_pos heq];refine qam (by rw[hr,qsk (by omega)];rfl) ?_;rw[qni]
theorem xbtz(m:Nat)(a p b:Int)(l:List CV)(hp:(rows4 m l&&qdg m a p b)=true):xbnu m a p b l=zR [] [some ⟨.gen 4 (rotC l a p b),false⟩]:=by rw[zab] at hp;obtain⟨e1,hl,hW⟩:=qa5 hp.1;obtain⟨h1,h2,h3,h4⟩:=qkt hp.2;obtain⟨a',rfl⟩:=Int.eq_ofNat_of_zero_le h1;obtain⟨p',rfl⟩:=Int.eq_ofNat_of_zero_le (show 0<=p by omega);obtain⟨b',rfl⟩:=Int.eq_ofNat_of_zero_le (show 0<=b by omega);unfold xbnu rotC;rw[qab,qab];have w1:IntKind.i64.wrap ((p':Int) - a')=((p' - a':Nat):Int):=(i64_in _ (by omega)).trans (by omega);have w2:IntKind.i64.wrap ((b':Int) - p')=((b' - p':Nat):Int):=(i64_in _ (by omega)).trans (by omega);dsimp only;rw[w1,w2];refine(xbae m p' FUEL l (p' - a') (b' - p') hp.1 (by omega) (by omega) (by omega) (by omega) (by unfold FUEL;omega)).trans ?_;rw[q28 FUEL l p' (p' - a') (b' - p') (by omega) (by omega) (by omega) (by omega) (by unfold FUEL;omega),show p' - (p' - a')=a' by omega,show p'+(b' - p')=b' by omega];rfl
abbrev ret3(l:List CV):Option Out:=zR [] [some ⟨.gen 3 l,false⟩]
theorem q3a{m:Nat}{d:List CV}{a b n:Nat}(h:rows3 m d=true)(h1:a+n<=b)(h2:b+n<=d.length):rows3 m (swp d a b n)=true:=by obtain⟨e1,e2,e3⟩:=qa4 h;have:=qit d h1 h2;exact qip ⟨by omega,by omega,fun c hc=>e3 c (xbif h1 h2 hc)⟩
noncomputable abbrev xbue:Nat->Int->Int->List CV->Option Out:=fun y3 y4 y5 y6=>cond (rows3 y3 y6&&swOk y3 (IntKind.i64.wrap (y4 - y5)) y4 y5) (ret3 (swpC y6 (IntKind.i64.wrap (y4 - y5)) y4 y5)) none
theorem xbad(m p:Nat): ∀(f:Nat) (d:List CV) (i j:Nat),rows3 m d=true->0<i->0<j->i<=p->p+j<=d.length->i+j<=f->
  qok xbue f m p i j d=ret3 (rotF f d p i j)
 | 0,_,_,_,_,_,_,_,_,_=>by omega
 | f+1,d,i,j,hr,hi,hj,hp,hd,hf=>by
  obtain⟨hm,hl,_⟩:=qa4 hr;show qpu (qok xbue f) xbue m p i j d=_;unfold qpu;have w1:IntKind.i64.wrap ((p:Int) - i)=((p - i:Nat):Int):=(i64_in _ (by omega)).trans (by omega);refine qbb (fun hne=> ?_) fun heq=> ?_
  ·have hne: ¬i=j:=fun e=>hne (by rw[e]);refine qac (fun h=> ?_) fun h=> ?_
   ·have w2:IntKind.i64.wrap ((i:Int) - j)=((i - j:Nat):Int):=(i64_in _ (by omega)).trans (by omega);rw[w1,w2];refine qam (by rw[hr,qsk (by omega)];rfl) ?_;rw[qni];have hs:=qit d (a:=p - i) (b:=p) (n:=j) (by omega) (by omega);refine(xbad m p f _ (i - j) j (q3a hr (by omega) (by omega)) (by omega) hj (by omega) (by omega) (by omega)).trans ?_;show _=ret3 (if i=j then _ else if j<i then _ else _);rw[if_neg hne,if_pos (by omega)]
   ·have w2:IntKind.i64.wrap ((p:Int)+j)=((p+j:Nat):Int):=(i64_in _ (by omega)).trans (by omega);have w3:IntKind.i64.wrap (((p+j:Nat):Int) - i)=((p+j - i:Nat):Int):=(i64_in _ (by omega)).trans (by omega);have w4:IntKind.i64.wrap ((j:Int) - i)=((j - i:Nat):Int):=(i64_in _ (by omega)).trans (by omega);simp only[w1,w2,w3,w4];refine qam (by rw[hr,qsk (by omega)];rfl) ?_;rw[qni];have hs:=qit d (a:=p - i) (b:=p+j - i) (n:=i) (by omega) (by omega);refine(xbad m p f _ i (j - i) (q3a hr (by omega) (by omega)) hi (by omega) hp (by omega) (by omega)).trans ?_;show _=ret3 (if i=j then _ else if j<i then _ else _);rw[if_neg hne,if_neg (by omega)]
  ·have heq:i=j:=by have:(i:Int)=j:=heq;omega
   show cond (rows3 m d&&swOk m (IntKind.i64.wrap ((p:Int) - i)) p i) (ret3 (swpC d (IntKind.i64.wrap ((p:Int) - i)) p i)) none=ret3 (if i=j then swp d (p - i) p i else _);rw[w1,if_pos heq];refine qam (by rw[hr,qsk (by omega)];rfl) ?_;rw[qni]
theorem xbty(m:Nat)(a p b:Int)(l:List CV)(hp:(rows3 m l&&qdg m a p b)=true):xbnt m a p b l=zR [] [some ⟨.gen 3 (rotC l a p b),false⟩]:=by rw[zab] at hp;obtain⟨e1,hl,hW⟩:=qa4 hp.1;obtain⟨h1,h2,h3,h4⟩:=qkt hp.2;obtain⟨a',rfl⟩:=Int.eq_ofNat_of_zero_le h1;obtain⟨p',rfl⟩:=Int.eq_ofNat_of_zero_le (show 0<=p by omega);obtain⟨b',rfl⟩:=Int.eq_ofNat_of_zero_le (show 0<=b by omega);unfold xbnt rotC;rw[qab,qab];have w1:IntKind.i64.wrap ((p':Int) - a')=((p' - a':Nat):Int):=(i64_in _ (by omega)).trans (by omega);have w2:IntKind.i64.wrap ((b':Int) - p')=((b' - p':Nat):Int):=(i64_in _ (by omega)).trans (by omega);dsimp only;rw[w1,w2];refine(xbad m p' FUEL l (p' - a') (b' - p') hp.1 (by omega) (by omega) (by omega) (by omega) (by unfold FUEL;omega)).trans ?_;rw[q28 FUEL l p' (p' - a') (b' - p') (by omega) (by omega) (by omega) (by omega) (by unfold FUEL;omega),show p' - (p' - a')=a' by omega,show p'+(b' - p')=b' by omega];rfl
open IntWalk (i64_in u8_in u32_in u64_in i64_quo u8_quo rem_in)
theorem xbfs{α:Type}{d:List α}{i j:Nat}{y z:α}(hy:d[i]? =some y)(hz:d[j]? =some z):chg2 d i j=(d.set i z).set j y:=by unfold chg2;rw[hy,hz]
theorem ql9{α:Type}(d:List α)(i j:Nat):(chg2 d i j).length=d.length:=by unfold chg2;split<;>simp
theorem q7m{α:Type}{d:List α}{i j:Nat}{c:α}(h:c∈chg2 d i j):c∈d:=by
 unfold chg2 at h;split at h
 ·rename_i y z hy hz;rcases List.mem_or_eq_of_mem_set h with h|h
  ·rcases List.mem_or_eq_of_mem_set h with h|h
   ·exact h
   ·rw[h];exact zac hz
  ·rw[h];exact zac hy
 ·exact h
theorem xbft(a b:List Int):qbf a b=qan a b:=by unfold qbf;rw[qab]
theorem qt0{α:Type}{lt:α->α->Bool}{d:List α}{a b:Nat}{c:α}(h:c∈insS lt d a b):c∈d:=by
 unfold insS pu at h;rcases zak.1 h with h|h
 ·exact zbg h
 ·rcases zak.1 h with h|h
  ·exact zbg (zbf (qgu.1 h))
  ·exact zbf h
theorem xbeq{m:Nat}{d:List CV}{i j:Nat}(h:rows4 m d=true):rows4 m (chg2 d i j)=true:=by obtain⟨e1,e2,e3⟩:=qa5 h;exact qhb ⟨by rw[ql9];exact e1,by rw[ql9];exact e2,fun c hc=>e3 c (q7m hc)⟩
theorem q3l(K:Nat->Int->Int->Int->List CV->Option Out)(m a:Nat)(b i:Int): ∀(f:Nat) (d:List CV) (j:Nat),rows4 m d=true->a<=j->j<d.length->j - a<f->
  qk9 K f m a b i j d=K m a b i (slide (ltK ky4) f d a j)
 | 0,_,_,_,_,_,_=>by omega
 | f+1,d,j,hr,haj,hj,hf=>by
  obtain⟨hm,hl,hW⟩:=qa5 hr;show qpt (qk9 K f) K m a b i j d=K m a b i (if a<j/\ltA (ltK ky4) d j (j - 1)=true then slide (ltK ky4) f (chg2 d j (j - 1)) a (j - 1) else d);unfold qpt;refine qac (fun h=> ?_) fun h=>by rw[if_neg (by omega)]
  have hja:a<j:=by omega
  obtain⟨x,hx⟩: ∃x,d[j]? =some x:=⟨_,zad hj⟩;obtain⟨y,hy⟩: ∃y,d[j - 1]? =some y:=⟨_,zad (by omega)⟩;have ec:=xbfs hx hy;have el:=qkd (lt:=ltK ky4) hx hy;have hrc:=xbeq (i:=j) (j:=j - 1) hr;have ih:=q3l K m a b i f (chg2 d j (j - 1)) (j - 1) hrc (by omega) (by rw[ql9];omega) (by omega);obtain⟨t1,b1,k1,w1,rfl,hw1⟩:=hW x (zac hx);obtain⟨t2,b2,k2,w2,rfl,hw2⟩:=hW y (zac hy);rw[el];generalize qk9 K f=ag at ih ⊢;have e1:IntKind.i64.wrap ((j:Int) - 1)=((j - 1:Nat):Int):=(i64_in _ (by omega)).trans (by omega);have n1:0+Int.toNat (j:Int)=j:=by omega
  have n2:0+Int.toNat ((j - 1:Nat):Int)=j - 1:=by omega
  simp only[e1,n1,n2];refine qax (by omega) (by omega) ?_;rw[hx,zaf];refine qam rfl (qax (by omega) (by omega) ?_);rw[hy,zaf];refine qam rfl (qam (c:=qad w1&&qad w2) (by rw[hw1,hw2];rfl) ?_);show cond (decide (qbf w1 w2<0)) _ _=K m a b i (if a<j/\decide (qan w1 w2<0)=true then _ else _);rw[xbft];refine qac (fun hc=> ?_) fun hc=> ?_
  ·rw[if_pos ⟨hja,decide_eq_true hc⟩];refine qax (by omega) (by omega) ?_;rw[zaf];refine qam rfl (qax (by omega) (by omega) ?_);rw[zaf];refine qam rfl (qax (by omega) (by omega) (qax (by omega) (by omega) ?_));rw[<- ih,ec];rfl
  ·rw[if_neg (by rw[decide_eq_false hc];simp)]
theorem xbg1(m a b:Nat)(l:List CV)(hr:rows4 m l=true)(hb:b<=l.length): ∀(f i:Nat),a<i->i<=b->b - i<f->qji ret4 f m a b i (insS (ltK ky4) l a i)=ret4 (insS (ltK ky4) l a b)
 | 0,_,_,_,_=>by omega
 | f+1,i,hi,hib,hf=>by
  obtain⟨hm,hl,hW⟩:=qa5 hr;show qh6 (qji ret4 f) ret4 m a b i (insS (ltK ky4) l a i)=_;unfold qh6;refine qac (fun h=> ?_) fun h=>by rw[show i=b by omega]
  have hL:=qmj (lt:=ltK ky4) l (show a<=i by omega) (by omega);have hr2:rows4 m (insS (ltK ky4) l a i)=true:=qhb ⟨by omega,by omega,fun c hc=>hW c (qt0 hc)⟩;rw[qab,q3l _ m a b i FUEL _ i hr2 (by omega) (by omega) (by unfold FUEL;omega),q8s (qd8 ky4) l (by omega) (by omega) (by unfold FUEL;omega)];dsimp only;rw[show IntKind.i64.wrap ((i:Int)+1)=((i+1:Nat):Int) from(i64_in _ (by omega)).trans (by omega)];exact xbg1 m a b l hr hb f (i+1) (by omega) (by omega) (by omega)
theorem qzs(l:List CV)(a b:Nat):ins4 l a b=insS (ltK ky4) l a b:=by unfold ins4;rw[qab];rfl
theorem xbtv(m:Nat)(a b:Int)(l:List CV)(hp:(rows4 m l&&decide (0<=a/\a<=b/\b<=(m:Int)))=true):xbnq m a b l=zR [] [some ⟨.gen 4 (ins4 l a b),false⟩]:=by
 rw[zab,decide_eq_true_eq] at hp;obtain⟨hr,h1,h2,h3⟩:=hp;obtain⟨e1,hl,hW⟩:=qa5 hr;obtain⟨a',rfl⟩:=Int.eq_ofNat_of_zero_le h1;obtain⟨b',rfl⟩:=Int.eq_ofNat_of_zero_le (show 0<=b by omega);unfold xbnq;rw[qab,qzs];dsimp only;rw[show IntKind.i64.wrap ((a':Int)+1)=((a'+1:Nat):Int) from(i64_in _ (by omega)).trans (by omega)];by_cases h:a'< b'
 ·have:=xbg1 m a' b' l hr (by omega) FUEL (a'+1) (by omega) (by omega) (by unfold FUEL;omega);rw[qtz l (show a'<=a'+1 by omega) (by omega) (by omega)] at this;exact this
 ·rw[qtz l (show a'<=b' by omega) (by omega) (by omega)];have key: ∀f,0<f->qji ret4 f m a' b' ((a'+1:Nat):Int) l=ret4 l:=fun f hf=>by obtain⟨f,rfl⟩: ∃g,f=g+1:=⟨f - 1,by omega⟩;show qh6 (qji ret4 f) ret4 m a' b' ((a'+1:Nat):Int) l=_;unfold qh6;exact qdt (by omega) rfl
  exact key FUEL (by unfold FUEL;omega)
theorem xbep{m:Nat}{d:List CV}{i j:Nat}(h:rows3 m d=true):rows3 m (chg2 d i j)=true:=by obtain⟨e1,e2,e3⟩:=qa4 h;exact qip ⟨by rw[ql9];exact e1,by rw[ql9];exact e2,fun c hc=>e3 c (q7m hc)⟩
theorem q3k(K:Nat->Int->Int->Int->List CV->Option Out)(m a:Nat)(b i:Int): ∀(f:Nat) (d:List CV) (j:Nat),rows3 m d=true->a<=j->j<d.length->j - a<f->
  qk8 K f m a b i j d=K m a b i (slide (ltK ky3) f d a j)
 | 0,_,_,_,_,_,_=>by omega
 | f+1,d,j,hr,haj,hj,hf=>by
  obtain⟨hm,hl,hW⟩:=qa4 hr;show qps (qk8 K f) K m a b i j d=K m a b i (if a<j/\ltA (ltK ky3) d j (j - 1)=true then slide (ltK ky3) f (chg2 d j (j - 1)) a (j - 1) else d);unfold qps;refine qac (fun h=> ?_) fun h=>by rw[if_neg (by omega)]
  have hja:a<j:=by omega
  obtain⟨x,hx⟩: ∃x,d[j]? =some x:=⟨_,zad hj⟩;obtain⟨y,hy⟩: ∃y,d[j - 1]? =some y:=⟨_,zad (by omega)⟩;have ec:=xbfs hx hy;have el:=qkd (lt:=ltK ky3) hx hy;have hrc:=xbep (i:=j) (j:=j - 1) hr;have ih:=q3k K m a b i f (chg2 d j (j - 1)) (j - 1) hrc (by omega) (by rw[ql9];omega) (by omega);obtain⟨b1,k1,w1,rfl,hw1⟩:=hW x (zac hx);obtain⟨b2,k2,w2,rfl,hw2⟩:=hW y (zac hy);rw[el];generalize qk8 K f=ag at ih ⊢;have e1:IntKind.i64.wrap ((j:Int) - 1)=((j - 1:Nat):Int):=(i64_in _ (by omega)).trans (by omega);have n1:0+Int.toNat (j:Int)=j:=by omega
  have n2:0+Int.toNat ((j - 1:Nat):Int)=j - 1:=by omega
  simp only[e1,n1,n2];refine qax (by omega) (by omega) ?_;rw[hx,zaf];refine qam rfl (qax (by omega) (by omega) ?_);rw[hy,zaf];refine qam rfl (qam (c:=qad w1&&qad w2) (by rw[hw1,hw2];rfl) ?_);show cond (decide (qbf w1 w2<0)) _ _=K m a b i (if a<j/\decide (qan w1 w2<0)=true then _ else _);rw[xbft];refine qac (fun hc=> ?_) fun hc=> ?_
  ·rw[if_pos ⟨hja,decide_eq_true hc⟩];refine qax (by omega) (by omega) ?_;rw[zaf];refine qam rfl (qax (by omega) (by omega) ?_);rw[zaf];refine qam rfl (qax (by omega) (by omega) (qax (by omega) (by omega) ?_));rw[<- ih,ec];rfl
  ·rw[if_neg (by rw[decide_eq_false hc];simp)]
theorem xbg0(m a b:Nat)(l:List CV)(hr:rows3 m l=true)(hb:b<=l.length): ∀(f i:Nat),a<i->i<=b->b - i<f->qjh ret3 f m a b i (insS (ltK ky3) l a i)=ret3 (insS (ltK ky3) l a b)
 | 0,_,_,_,_=>by omega
 | f+1,i,hi,hib,hf=>by
  obtain⟨hm,hl,hW⟩:=qa4 hr;show qh5 (qjh ret3 f) ret3 m a b i (insS (ltK ky3) l a i)=_;unfold qh5;refine qac (fun h=> ?_) fun h=>by rw[show i=b by omega]
  have hL:=qmj (lt:=ltK ky3) l (show a<=i by omega) (by omega);have hr2:rows3 m (insS (ltK ky3) l a i)=true:=qip ⟨by omega,by omega,fun c hc=>hW c (qt0 hc)⟩;rw[qab,q3k _ m a b i FUEL _ i hr2 (by omega) (by omega) (by unfold FUEL;omega),q8s (qd8 ky3) l (by omega) (by omega) (by unfold FUEL;omega)];dsimp only;rw[show IntKind.i64.wrap ((i:Int)+1)=((i+1:Nat):Int) from(i64_in _ (by omega)).trans (by omega)];exact xbg0 m a b l hr hb f (i+1) (by omega) (by omega) (by omega)
theorem qzr(l:List CV)(a b:Nat):ins3 l a b=insS (ltK ky3) l a b:=by unfold ins3;rw[qab];rfl
theorem xbtu(m:Nat)(a b:Int)(l:List CV)(hp:(rows3 m l&&decide (0<=a/\a<=b/\b<=(m:Int)))=true):xbnp m a b l=zR [] [some ⟨.gen 3 (ins3 l a b),false⟩]:=by
 rw[zab,decide_eq_true_eq] at hp;obtain⟨hr,h1,h2,h3⟩:=hp;obtain⟨e1,hl,hW⟩:=qa4 hr;obtain⟨a',rfl⟩:=Int.eq_ofNat_of_zero_le h1;obtain⟨b',rfl⟩:=Int.eq_ofNat_of_zero_le (show 0<=b by omega);unfold xbnp;rw[qab,qzr];dsimp only;rw[show IntKind.i64.wrap ((a':Int)+1)=((a'+1:Nat):Int) from(i64_in _ (by omega)).trans (by omega)];by_cases h:a'< b'
 ·have:=xbg0 m a' b' l hr (by omega) FUEL (a'+1) (by omega) (by omega) (by unfold FUEL;omega);rw[qtz l (show a'<=a'+1 by omega) (by omega) (by omega)] at this;exact this
 ·rw[qtz l (show a'<=b' by omega) (by omega) (by omega)];have key: ∀f,0<f->qjh ret3 f m a' b' ((a'+1:Nat):Int) l=ret3 l:=fun f hf=>by obtain⟨f,rfl⟩: ∃g,f=g+1:=⟨f - 1,by omega⟩;show qh5 (qjh ret3 f) ret3 m a' b' ((a'+1:Nat):Int) l=_;unfold qh5;exact qdt (by omega) rfl
  exact key FUEL (by unfold FUEL;omega)
open IntWalk (i64_in u8_in u32_in u64_in i64_quo u8_quo rem_in)
theorem xbs7{α:Type}{lt:α->α->Bool}{u v:List α}{c:α}(h:c∈mg lt u v):c∈u\/c∈v:=List.mem_merge.1 h
theorem qr9{α:Type}{d:List α}{a b:Nat}{c:α}(h:c∈seg d a b):c∈d:=zbg (zbf h)
theorem xbbq{α:Type}{lt:α->α->Bool}{d:List α}{a m b:Nat}{c:α}(h:c∈symS lt d a m b):c∈d:=by
 unfold symS pu at h;rcases zak.1 h with h|h
 ·exact zbg h
 ·rcases zak.1 h with h|h
  ·exact(xbs7 h).elim qr9 qr9
  ·exact zbf h
theorem qnt{ky:CV->List Int}{l:List CV}{a p b:Nat}(h1:Srt (ltK ky) (seg l a p))(h2:Srt (ltK ky) (seg l p b)):xbmn ky l a p b=true:=by unfold xbmn;rw[qab];exact @decide_eq_true _ (Classical.propDecidable _) ⟨h1,h2⟩
theorem q1q{ky:CV->List Int}{l:List CV}{a p b:Nat}(h:xbmn ky l a p b=true):Srt (ltK ky) (seg l a p)/\Srt (ltK ky) (seg l p b):=by unfold xbmn at h;rw[qab] at h;exact @of_decide_eq_true _ (Classical.propDecidable _) h
theorem q3b{m:Nat}{d:List CV}{a b:Nat}(h:rows4 m d=true)(h1:a<=b)(h2:b<=d.length):rows4 m (insS (ltK ky4) d a b)=true:=by obtain⟨e1,e2,e3⟩:=qa5 h;have:=qmj (lt:=ltK ky4) d h1 h2;exact qhb ⟨by omega,by omega,fun c hc=>e3 c (qt0 hc)⟩
theorem qqf{m:Nat}{d:List CV}{a p b:Nat}(h:rows4 m d=true)(h1:a<=p)(h2:p<=b)(h3:b<=d.length):rows4 m (symS (ltK ky4) d a p b)=true:=by obtain⟨e1,e2,e3⟩:=qa5 h;have:=q0s (lt:=ltK ky4) d h1 h2 h3;exact qhb ⟨by omega,by omega,fun c hc=>e3 c (xbbq hc)⟩
theorem qqs(l:List CV)(a p b:Nat):sym4 l a p b=symS (ltK ky4) l a p b:=by unfold sym4;rw[qab];rfl
theorem xbfo(K:Nat->Int->Int->List CV->Option Out)(m:Nat)(d0:List CV)(h0:d0.length=m)(hm:m<=2000): ∀(f a:Nat) (d:List CV),rows4 m d=true->xbfl (ltK ky4) 20 d0 d a->a<=m->m - a<f->
  ∃(a':Nat) (d':List CV),qlc K f m m a ((a+20:Nat):Int) d=K m m (a':Int) d'/\rows4 m d'=true/\xbfl (ltK ky4) 20 d0 d' a'/\a'<=m/\m<a'+20
 | 0,_,_,_,_,_,_=>by omega
 | f+1,a,d,hr,hd,ha,hf=>by
  obtain⟨e1,e2,e3⟩:=qa5 hr;by_cases h:a+20<=m
  ·obtain⟨a',d',g1,g2⟩:=xbfo K m d0 h0 hm f (a+20) _ (q3b hr (show a<=a+20 by omega) (by omega)) (qv6 (by omega) (by omega) hd) h (by omega);refine⟨a',d', ?_,g2⟩;rw[<- g1];show qh9 (qlc K f) K m m a ((a+20:Nat):Int) d=_;unfold qh9;refine qas (by omega) (qam (by rw[hr];simp;omega) ?_);rw[qzs,show IntKind.i64.wrap (((a+20:Nat):Int)+20)=((a+20+20:Nat):Int) from(i64_in _ (by omega)).trans (by omega)]
  ·refine⟨a,d, ?_,hr,hd,ha,by omega⟩;show qh9 (qlc K f) K m m a ((a+20:Nat):Int) d=_;unfold qh9;exact qdt (by omega) rfl
theorem q9w(K:Nat->Int->Int->Int->List CV->Option Out)(m s:Nat)(d0:List CV)(h0:d0.length=m)(hm:m<=2000)(hs:0<s)(hs2:s<=4000): ∀(f a:Nat) (d:List CV),rows4 m d=true->Done (ltK ky4) (2*s) d0 (bk (ltK ky4) s (d0.drop a)) d a->a<=m->m - a<f->
  ∃(a':Nat) (d':List CV),qld K f m m s a ((a+2*s:Nat):Int) d=K m m s (a':Int) d'/\rows4 m d'=true/\Done (ltK ky4) (2*s) d0 (bk (ltK ky4) s (d0.drop a')) d' a'/\a'<=m/\m<a'+2*s
 | 0,_,_,_,_,_,_=>by omega
 | f+1,a,d,hr,hd,ha,hf=>by
  obtain⟨e1,e2,e3⟩:=qa5 hr;by_cases h:a+2*s<=m
  ·obtain⟨q1,q2,q3⟩:=q2x (qd8 ky4) hs (by omega) hd;obtain⟨a',d',g1,g2⟩:=q9w K m s d0 h0 hm hs hs2 f (a+2*s) _ (qqf hr (show a<=a+s by omega) (by omega) (by omega)) q3 h (by omega);refine⟨a',d', ?_,g2⟩;rw[<- g1];show qia (qld K f) K m m s a ((a+2*s:Nat):Int) d=_;unfold qia;have w1:IntKind.i64.wrap ((a:Int)+s)=((a+s:Nat):Int):=(i64_in _ (by omega)).trans (by omega);have w2:IntKind.i64.wrap ((2:Int)*s)=((2*s:Nat):Int):=(i64_in _ (by omega)).trans (by omega);have w3:IntKind.i64.wrap (((a+2*s:Nat):Int)+((2*s:Nat):Int))=((a+2*s+2*s:Nat):Int):=(i64_in _ (by omega)).trans (by omega);simp only[w1,w2,w3];refine qas (by omega) (qam (by rw[hr,qfj (by omega),show half4 d a ((a+s:Nat):Int) ((a+2*s:Nat):Int)=true from qnt q1 q2];rfl) ?_);rw[qqs]
  ·refine⟨a,d, ?_,hr,hd,ha,by omega⟩;show qia (qld K f) K m m s a ((a+2*s:Nat):Int) d=_;unfold qia;exact qdt (by omega) rfl
theorem xbbg(m:Nat)(d0:List CV)(h0:d0.length=m)(hm:m<=2000)(hW: ∀c∈d0,W4A c): ∀(f s:Nat),0<f->0<s->s<=4000->m<s+f->rows4 m (bk (ltK ky4) s d0)=true->qg2 ret4 f m m s (bk (ltK ky4) s d0)=ret4 (isort (ltK ky4) d0)
 | 0,s,hf0,hs,hs2,hf,hr=>by omega
 | f+1,s,hf0,hs,hs2,hf,hr=>by
  show qpx (qg2 ret4 f) ret4 m m s (bk (ltK ky4) s d0)=_;unfold qpx;refine qac (fun h=> ?_) fun h=>by rw[q9x (by omega)]
  have w2:IntKind.i64.wrap ((2:Int)*s)=((0+2*s:Nat):Int):=(i64_in _ (by omega)).trans (by omega);have w3:IntKind.i64.wrap ((s:Int)*2)=((2*s:Nat):Int):=(i64_in _ (by omega)).trans (by omega);rw[qab];simp only[w2];obtain⟨a',d',g1,g2,g3,g4,g5⟩:=q9w (fun(y7:Nat) (y8 y9 y10:Int) (y11:List CV)=>cond (decide (IntKind.i64.wrap (y10+y9)<y8)) (cond (rows4 y7 y11&&(qdg y7 y10 (IntKind.i64.wrap (y10+y9)) y8&&half4 y11 y10 (IntKind.i64.wrap (y10+y9)) y8)) (qg2 ret4 f y7 y8 (IntKind.i64.wrap (y9*2)) (sym4 y11 y10 (IntKind.i64.wrap (y10+y9)) y8)) none) (qg2 ret4 f y7 y8 (IntKind.i64.wrap (y9*2)) y11)) m s d0 h0 hm hs hs2 FUEL 0 _ hr (q2w d0) (by omega) (by unfold FUEL;omega);refine(show _=_ from g1).trans ?_;obtain⟨p1,p2⟩:=q9y (qd8 ky4) hs (show a'<=d0.length by omega) (by omega) g3;rw[h0] at p1 p2;obtain⟨e1,e2,e3⟩:=qa5 g2;have w1:IntKind.i64.wrap ((a':Int)+s)=((a'+s:Nat):Int):=(i64_in _ (by omega)).trans (by omega);rw[w1,w3];refine qac (fun h1=> ?_) fun h1=> ?_
  ·have h1:a'+s<m:=by omega
   obtain⟨q1,q2⟩:=p1 h1;rw[if_pos h1] at p2;refine qam (by rw[g2,qfj (by omega),show half4 d' a' ((a'+s:Nat):Int) (m:Int)=true from qnt q1 q2];rfl) ?_;have hr2:=qqf g2 (show a'<=a'+s by omega) (show a'+s<=m by omega) (by omega);rw[p2] at hr2;rw[qqs,p2];exact xbbg m d0 h0 hm hW f (2*s) (by omega) (by omega) (by omega) (by omega) hr2
  ·have h1: ¬a'+s<m:=by omega
   rw[if_neg h1] at p2;rw[p2] at g2 ⊢;exact xbbg m d0 h0 hm hW f (2*s) (by omega) (by omega) (by omega) (by omega) g2
theorem xbro(l:List CV):srt4 l=isort (ltK ky4) l:=by unfold srt4;rw[qab]
theorem xbt2(m:Nat)(n:Int)(l:List CV)(hp:(rows4 m l&&decide (n=(m:Int)))=true):xbny m n l=zR [] [some ⟨.gen 4 (srt4 l),false⟩]:=by rw[zab,decide_eq_true_eq] at hp;obtain⟨hr,rfl⟩:=hp;obtain⟨e1,hl,hW⟩:=qa5 hr;unfold xbny;rw[qab,xbro];obtain⟨a',d',g1,g2,g3,g4,g5⟩:=xbfo (fun(y1:Nat) (y2 y3:Int) (y4:List CV)=>cond (rows4 y1 y4&&decide (0<=y3/\y3<=y2/\y2<=(y1:Int))) (shut (qg2 ret4 FUEL) y1 y2 20 (ins4 y4 y3 y2)) none) m l e1.symm (by omega) FUEL 0 l hr (qv5 l) (by omega) (by unfold FUEL;omega);refine(show _=_ from g1).trans ?_;refine qam (by rw[g2];simp;omega) ?_;have hb:=q04 (lt:=ltK ky4) (s:=20) (show a'<=l.length by omega) (by omega) g3;obtain⟨e2,_,_⟩:=qa5 g2;have hr2:=q3b g2 (show a'<=m by omega) (by omega);rw[e1,hb] at hr2;rw[qab,qzs,e1,hb];rw[<- e1] at hr2 ⊢;exact xbbg m l e1.symm (by omega) hW FUEL 20 (by unfold FUEL;omega) (by omega) (by omega) (by unfold FUEL;omega) hr2
theorem xbpg(m:Nat)(l:List CV)(hp:rows4 m l=true):xbnw m l=zR [] [some ⟨.gen 4 (srt4 l),false⟩]:=qam (by rw[hp];simp) rfl
theorem q29{m:Nat}{d:List CV}{a b:Nat}(h:rows3 m d=true)(h1:a<=b)(h2:b<=d.length):rows3 m (insS (ltK ky3) d a b)=true:=by obtain⟨e1,e2,e3⟩:=qa4 h;have:=qmj (lt:=ltK ky3) d h1 h2;exact qip ⟨by omega,by omega,fun c hc=>e3 c (qt0 hc)⟩
theorem qqe{m:Nat}{d:List CV}{a p b:Nat}(h:rows3 m d=true)(h1:a<=p)(h2:p<=b)(h3:b<=d.length):rows3 m (symS (ltK ky3) d a p b)=true:=by obtain⟨e1,e2,e3⟩:=qa4 h;have:=q0s (lt:=ltK ky3) d h1 h2 h3;exact qip ⟨by omega,by omega,fun c hc=>e3 c (xbbq hc)⟩
theorem qqr(l:List CV)(a p b:Nat):sym3 l a p b=symS (ltK ky3) l a p b:=by unfold sym3;rw[qab];rfl
theorem xbfn(K:Nat->Int->Int->List CV->Option Out)(m:Nat)(d0:List CV)(h0:d0.length=m)(hm:m<=2000): ∀(f a:Nat) (d:List CV),rows3 m d=true->xbfl (ltK ky3) 20 d0 d a->a<=m->m - a<f->
  ∃(a':Nat) (d':List CV),qla K f m m a ((a+20:Nat):Int) d=K m m (a':Int) d'/\rows3 m d'=true/\xbfl (ltK ky3) 20 d0 d' a'/\a'<=m/\m<a'+20
 | 0,_,_,_,_,_,_=>by omega
 | f+1,a,d,hr,hd,ha,hf=>by
  obtain⟨e1,e2,e3⟩:=qa4 hr;by_cases h:a+20<=m
  ·obtain⟨a',d',g1,g2⟩:=xbfn K m d0 h0 hm f (a+20) _ (q29 hr (show a<=a+20 by omega) (by omega)) (qv6 (by omega) (by omega) hd) h (by omega);refine⟨a',d', ?_,g2⟩;rw[<- g1];show qh7 (qla K f) K m m a ((a+20:Nat):Int) d=_;unfold qh7;refine qas (by omega) (qam (by rw[hr];simp;omega) ?_);rw[qzr,show IntKind.i64.wrap (((a+20:Nat):Int)+20)=((a+20+20:Nat):Int) from(i64_in _ (by omega)).trans (by omega)]
  ·refine⟨a,d, ?_,hr,hd,ha,by omega⟩;show qh7 (qla K f) K m m a ((a+20:Nat):Int) d=_;unfold qh7;exact qdt (by omega) rfl
theorem q9v(K:Nat->Int->Int->Int->List CV->Option Out)(m s:Nat)(d0:List CV)(h0:d0.length=m)(hm:m<=2000)(hs:0<s)(hs2:s<=4000): ∀(f a:Nat) (d:List CV),rows3 m d=true->Done (ltK ky3) (2*s) d0 (bk (ltK ky3) s (d0.drop a)) d a->a<=m->m - a<f->
  ∃(a':Nat) (d':List CV),qlb K f m m s a ((a+2*s:Nat):Int) d=K m m s (a':Int) d'/\rows3 m d'=true/\Done (ltK ky3) (2*s) d0 (bk (ltK ky3) s (d0.drop a')) d' a'/\a'<=m/\m<a'+2*s
 | 0,_,_,_,_,_,_=>by omega
 | f+1,a,d,hr,hd,ha,hf=>by
  obtain⟨e1,e2,e3⟩:=qa4 hr;by_cases h:a+2*s<=m
  ·obtain⟨q1,q2,q3⟩:=q2x (qd8 ky3) hs (by omega) hd;obtain⟨a',d',g1,g2⟩:=q9v K m s d0 h0 hm hs hs2 f (a+2*s) _ (qqe hr (show a<=a+s by omega) (by omega) (by omega)) q3 h (by omega);refine⟨a',d', ?_,g2⟩;rw[<- g1];show qh8 (qlb K f) K m m s a ((a+2*s:Nat):Int) d=_;unfold qh8;have w1:IntKind.i64.wrap ((a:Int)+s)=((a+s:Nat):Int):=(i64_in _ (by omega)).trans (by omega);have w2:IntKind.i64.wrap ((2:Int)*s)=((2*s:Nat):Int):=(i64_in _ (by omega)).trans (by omega);have w3:IntKind.i64.wrap (((a+2*s:Nat):Int)+((2*s:Nat):Int))=((a+2*s+2*s:Nat):Int):=(i64_in _ (by omega)).trans (by omega);simp only[w1,w2,w3];refine qas (by omega) (qam (by rw[hr,qfj (by omega),show half3 d a ((a+s:Nat):Int) ((a+2*s:Nat):Int)=true from qnt q1 q2];rfl) ?_);rw[qqr]
  ·refine⟨a,d, ?_,hr,hd,ha,by omega⟩;show qh8 (qlb K f) K m m s a ((a+2*s:Nat):Int) d=_;unfold qh8;exact qdt (by omega) rfl
theorem xbbf(m:Nat)(d0:List CV)(h0:d0.length=m)(hm:m<=2000)(hW: ∀c∈d0,W3A c): ∀(f s:Nat),0<f->0<s->s<=4000->m<s+f->rows3 m (bk (ltK ky3) s d0)=true->qg1 ret3 f m m s (bk (ltK ky3) s d0)=ret3 (isort (ltK ky3) d0)
 | 0,s,hf0,hs,hs2,hf,hr=>by omega
 | f+1,s,hf0,hs,hs2,hf,hr=>by
  show qpw (qg1 ret3 f) ret3 m m s (bk (ltK ky3) s d0)=_;unfold qpw;refine qac (fun h=> ?_) fun h=>by rw[q9x (by omega)]
  have w2:IntKind.i64.wrap ((2:Int)*s)=((0+2*s:Nat):Int):=(i64_in _ (by omega)).trans (by omega);have w3:IntKind.i64.wrap ((s:Int)*2)=((2*s:Nat):Int):=(i64_in _ (by omega)).trans (by omega);rw[qab];simp only[w2];obtain⟨a',d',g1,g2,g3,g4,g5⟩:=q9v (fun(y7:Nat) (y8 y9 y10:Int) (y11:List CV)=>cond (decide (IntKind.i64.wrap (y10+y9)<y8)) (cond (rows3 y7 y11&&(qdg y7 y10 (IntKind.i64.wrap (y10+y9)) y8&&half3 y11 y10 (IntKind.i64.wrap (y10+y9)) y8)) (qg1 ret3 f y7 y8 (IntKind.i64.wrap (y9*2)) (sym3 y11 y10 (IntKind.i64.wrap (y10+y9)) y8)) none) (qg1 ret3 f y7 y8 (IntKind.i64.wrap (y9*2)) y11)) m s d0 h0 hm hs hs2 FUEL 0 _ hr (q2w d0) (by omega) (by unfold FUEL;omega);refine(show _=_ from g1).trans ?_;obtain⟨p1,p2⟩:=q9y (qd8 ky3) hs (show a'<=d0.length by omega) (by omega) g3;rw[h0] at p1 p2;obtain⟨e1,e2,e3⟩:=qa4 g2;have w1:IntKind.i64.wrap ((a':Int)+s)=((a'+s:Nat):Int):=(i64_in _ (by omega)).trans (by omega);rw[w1,w3];refine qac (fun h1=> ?_) fun h1=> ?_
  ·have h1:a'+s<m:=by omega
   obtain⟨q1,q2⟩:=p1 h1;rw[if_pos h1] at p2;refine qam (by rw[g2,qfj (by omega),show half3 d' a' ((a'+s:Nat):Int) (m:Int)=true from qnt q1 q2];rfl) ?_;have hr2:=qqe g2 (show a'<=a'+s by omega) (show a'+s<=m by omega) (by omega);rw[p2] at hr2;rw[qqr,p2];exact xbbf m d0 h0 hm hW f (2*s) (by omega) (by omega) (by omega) (by omega) hr2
  ·have h1: ¬a'+s<m:=by omega
   rw[if_neg h1] at p2;rw[p2] at g2 ⊢;exact xbbf m d0 h0 hm hW f (2*s) (by omega) (by omega) (by omega) (by omega) g2
theorem xbrm(l:List CV):srt3 l=isort (ltK ky3) l:=by unfold srt3;rw[qab]
theorem xbt1(m:Nat)(n:Int)(l:List CV)(hp:(rows3 m l&&decide (n=(m:Int)))=true):xbnx m n l=zR [] [some ⟨.gen 3 (srt3 l),false⟩]:=by rw[zab,decide_eq_true_eq] at hp;obtain⟨hr,rfl⟩:=hp;obtain⟨e1,hl,hW⟩:=qa4 hr;unfold xbnx;rw[qab,xbrm];obtain⟨a',d',g1,g2,g3,g4,g5⟩:=xbfn (fun(y1:Nat) (y2 y3:Int) (y4:List CV)=>cond (rows3 y1 y4&&decide (0<=y3/\y3<=y2/\y2<=(y1:Int))) (shut (qg1 ret3 FUEL) y1 y2 20 (ins3 y4 y3 y2)) none) m l e1.symm (by omega) FUEL 0 l hr (qv5 l) (by omega) (by unfold FUEL;omega);refine(show _=_ from g1).trans ?_;refine qam (by rw[g2];simp;omega) ?_;have hb:=q04 (lt:=ltK ky3) (s:=20) (show a'<=l.length by omega) (by omega) g3;obtain⟨e2,_,_⟩:=qa4 g2;have hr2:=q29 g2 (show a'<=m by omega) (by omega);rw[e1,hb] at hr2;rw[qab,qzr,e1,hb];rw[<- e1] at hr2 ⊢;exact xbbf m l e1.symm (by omega) hW FUEL 20 (by unfold FUEL;omega) (by omega) (by omega) (by unfold FUEL;omega) hr2
theorem xbpf(m:Nat)(l:List CV)(hp:rows3 m l=true):xbnv m l=zR [] [some ⟨.gen 3 (srt3 l),false⟩]:=qam (by rw[hp];simp) rfl
open IntWalk (i64_in u8_in u32_in u64_in i64_quo u8_quo rem_in)
theorem qhs{a b:Nat}(h:a+b<=8000):IntKind.i64.wrap (Int.fdiv (IntKind.u64.wrap (IntKind.i64.wrap ((a:Int)+b))) (2 ^ 1))=(((a+b)/ 2:Nat):Int):=by rw[i64_in ((a:Int)+b) (by omega),u64_in ((a:Int)+b) (by omega),show Int.fdiv ((a:Int)+b) (2 ^ 1)=(((a+b)/ 2:Nat):Int) by rw[zb1 _ (by decide)];omega,i64_in _ (by omega)]
theorem xbmm{P Q:Prop}[Decidable P][Decidable Q]{X Y R:Option Out}(h1:P/\Q->X=R)(h2: ¬(P/\Q)->Y=R):cond (decide P) (cond (decide Q) X Y) Y=R:=
 qac (fun hp=>qac (fun hq=>h1 ⟨hp,hq⟩) fun hq=>h2 fun h=>hq h.2) fun hp=>h2 fun h=>hp h.1
theorem q3i{α:Type}{d:List α}{a:Nat}{x:α}(hx:d[a]? =some x):pu d a (a+1) (seg d (a+1) (a+1)++[x])=d:=by
 have hl:a<d.length:=by
  rcases zbl a d.length with h|h
  ·exact h
  ·rw[zax h] at hx;cases hx
 rw[qsa,zaz, <- q3f d hx,qw3 d (by omega) (by omega)]
theorem q3h{α:Type}{d:List α}{m:Nat}{y:α}(hy:d[m]? =some y):pu d m (m+1) (y::seg d m m)=d:=by
 have hl:m<d.length:=by
  rcases zbl m d.length with h|h
  ·exact h
  ·rw[zax h] at hy;cases hy
 rw[qsa, <- q3f d hy,qw3 d (by omega) (by omega)]
theorem xbav{α:Type}{d:List α}{a k:Nat}{x:α}(hak:a<=k)(hk:k+1<d.length): ∃z,d[k+1]? =some z/\(pu d a (k+1) (seg d (a+1) (k+1)++[x]))[k]? =some x/\(pu d a (k+1) (seg d (a+1) (k+1)++[x]))[k+1]? =some z/\
  ((pu d a (k+1) (seg d (a+1) (k+1)++[x])).set k z).set (k+1) x=pu d a (k+1+1) (seg d (a+1) (k+1+1)++[x]):=by
 have hz:=zad hk;have hs:=qbg d (a:=a+1) (b:=k+1) (by omega);have hs2:=qbg d (a:=a+1) (b:=k+1+1) (by omega);have hL:(seg d (a+1) (k+1)++[x]).length=k+1 - a:=by rw[zah,hs,zbr];omega
 have hL2:(seg d (a+1) (k+1+1)++[x]).length=k+1+1 - a:=by rw[zah,hs2,zbr];omega
 have g:=fun i=>qnb d (a:=a) (b:=k+1) (s:=seg d (a+1) (k+1)++[x]) (by omega) (by omega) hL i;refine⟨_,hz, ?_, ?_, ?_⟩
 ·rw[g,if_pos (by omega),zav (by omega),hs,show k - a - (k+1 - (a+1))=0 by omega];rfl
 ·rw[g,if_neg (by omega)];exact hz
 ·refine List.ext_getElem? fun i=> ?_;rw[List.getElem?_set,List.getElem?_set,g,qnb d (by omega) (by omega) hL2,List.length_set,qw2 d (by omega) (by omega) hL];by_cases h1:k+1=i
  ·rw[if_pos h1,if_pos (by omega),if_pos (by omega),zav (by omega),hs2,show i - a - (k+1+1 - (a+1))=0 by omega];rfl
  ·rw[if_neg h1];by_cases h2:k=i
   ·rw[if_pos h2,if_pos (by omega),if_pos (by omega),zaw (by omega),qdd d (by omega),show a+1+(i - a)=k+1 by omega];exact hz.symm
   ·rw[if_neg h2];by_cases h3:a<=i/\i<k+1
    ·rw[if_pos h3,if_pos (by omega),zaw (by omega),zaw (by omega),qdd d (by omega),qdd d (by omega)]
    ·rw[if_neg h3,if_neg (by omega)]
theorem xbau{α:Type}{d:List α}{m k:Nat}{y:α}(hk:0<k)(hkm:k<=m)(hm:m<d.length): ∃z,d[k - 1]? =some z/\(pu d k (m+1) (y::seg d k m))[k]? =some y/\(pu d k (m+1) (y::seg d k m))[k - 1]? =some z/\
  ((pu d k (m+1) (y::seg d k m)).set k z).set (k - 1) y=pu d (k - 1) (m+1) (y::seg d (k - 1) m):=by
 have hz:d[k - 1]? =some _:=zad (show k - 1<d.length by omega);have hs:=qbg d (a:=k) (b:=m) (by omega);have hs2:=qbg d (a:=k - 1) (b:=m) (by omega);have hL:(y::seg d k m).length=m+1 - k:=by rw[zag,hs];omega
 have hL2:(y::seg d (k - 1) m).length=m+1 - (k - 1):=by rw[zag,hs2];omega
 have g:=fun i=>qnb d (a:=k) (b:=m+1) (s:=y::seg d k m) (by omega) (by omega) hL i;refine⟨_,hz, ?_, ?_, ?_⟩
 ·rw[g,if_pos (by omega),show k - k=0 by omega];rfl
 ·rw[g,if_neg (by omega)];exact hz
 ·refine List.ext_getElem? fun i=> ?_;rw[List.getElem?_set,List.getElem?_set,g,qnb d (by omega) (by omega) hL2,List.length_set,qw2 d (by omega) (by omega) hL];by_cases h1:k - 1=i
  ·rw[if_pos h1,if_pos (by omega),if_pos (by omega),show i - (k - 1)=0 by omega];rfl
  ·rw[if_neg h1];by_cases h2:k=i
   ·rw[if_pos h2,if_pos (by omega),if_pos (by omega),show i - (k - 1)=0+1 by omega,za3,qdd d (by omega),show k - 1+0=k - 1 by omega];exact hz.symm
   ·rw[if_neg h2];by_cases h3:k<=i/\i<m+1
    ·rw[if_pos h3,if_pos (by omega),show i - k=(i - k - 1)+1 by omega,za3,show i - (k - 1)=(i - k)+1 by omega,za3,qdd d (by omega),qdd d (by omega),show k+(i - k - 1)=k - 1+(i - k) by omega]
    ·rw[if_neg h3,if_neg (by omega)]
theorem q0i(K:Nat->Int->Int->List CV->Option Out)(rk m a:Nat)(d:List CV)(hr:rows4 m d=true)(ha:a<d.length): ∀(f lo hi:Nat),lo<=hi->hi<=d.length->hi - lo<f->qli rk K f m a lo hi d=K m a ((bsr (fun h=>ltA (ltK ky4) d h a) f lo hi:Nat):Int) d
 | 0,_,_,_,_,_=>by omega
 | f+1,lo,hi,h1,h2,hf=>by
  obtain⟨hm,hl,hW⟩:=qa5 hr;show qp0 rk (qli rk K f) K m a lo hi d=K m a ((if lo<hi then(if ltA (ltK ky4) d ((lo+hi)/ 2) a=true then bsr (fun h=>ltA (ltK ky4) d h a) f ((lo+hi)/ 2+1) hi else bsr (fun h=>ltA (ltK ky4) d h a) f lo ((lo+hi)/ 2)) else lo:Nat):Int) d;unfold qp0;refine qac (fun h=> ?_) fun h=>by rw[if_neg (by omega)]
  have hlh:lo<hi:=by omega
  rw[if_pos hlh];obtain⟨x,hx⟩: ∃x,d[(lo+hi)/ 2]? =some x:=⟨_,zad (by omega)⟩;obtain⟨y,hy⟩: ∃y,d[a]? =some y:=⟨_,zad ha⟩;have el:=qkd (lt:=ltK ky4) hx hy;have ih1:=q0i K rk m a d hr ha f ((lo+hi)/ 2+1) hi (by omega) (by omega) (by omega);have ih2:=q0i K rk m a d hr ha f lo ((lo+hi)/ 2) (by omega) (by omega) (by omega);obtain⟨t1,b1,k1,w1,rfl,hw1⟩:=hW x (zac hx);obtain⟨t2,b2,k2,w2,rfl,hw2⟩:=hW y (zac hy);rw[el];generalize qli rk K f=ag at ih1 ih2 ⊢;have e1:=qhs (a:=lo) (b:=hi) (by omega);have e2:IntKind.i64.wrap ((((lo+hi)/ 2:Nat):Int)+1)=(((lo+hi)/ 2+1:Nat):Int):=(i64_in _ (by omega)).trans (by omega);have n1:0+Int.toNat (((lo+hi)/ 2:Nat):Int)=(lo+hi)/ 2:=by omega
  have n2:0+Int.toNat (a:Int)=a:=by omega
  dsimp only;simp only[e1,e2,n1,n2];refine qax (by omega) (by omega) ?_;rw[hx,zaf];refine qam rfl (qax (by omega) (by omega) ?_);rw[hy,zaf];refine qam rfl (qam (c:=qad w1&&qad w2) (by rw[hw1,hw2];rfl) ?_);show cond (decide (qbf w1 w2<0)) _ _=K m a ((if decide (qan w1 w2<0)=true then _ else _:Nat):Int) d;rw[xbft];refine qac (fun hc=> ?_) fun hc=> ?_
  ·rw[if_pos (decide_eq_true hc)];exact ih1
  ·rw[if_neg (by rw[decide_eq_false hc];simp)];exact ih2
theorem q0k(K:Nat->Int->Int->List CV->Option Out)(rk m p:Nat)(d:List CV)(hr:rows4 m d=true)(ha:p<d.length): ∀(f lo hi:Nat),lo<=hi->hi<=d.length->hi - lo<f->qie rk K f m p lo hi d=K m p ((bsr (fun h=> !(ltA (ltK ky4) d p h)) f lo hi:Nat):Int) d
 | 0,_,_,_,_,_=>by omega
 | f+1,lo,hi,h1,h2,hf=>by
  obtain⟨hm,hl,hW⟩:=qa5 hr;show qmv rk (qie rk K f) K m p lo hi d=K m p ((if lo<hi then(if(!(ltA (ltK ky4) d p ((lo+hi)/ 2)))=true then bsr (fun h=> !(ltA (ltK ky4) d p h)) f ((lo+hi)/ 2+1) hi else bsr (fun h=> !(ltA (ltK ky4) d p h)) f lo ((lo+hi)/ 2)) else lo:Nat):Int) d;unfold qmv;refine qac (fun h=> ?_) fun h=>by rw[if_neg (by omega)]
  have hlh:lo<hi:=by omega
  rw[if_pos hlh];obtain⟨x,hx⟩: ∃x,d[p]? =some x:=⟨_,zad ha⟩;obtain⟨y,hy⟩: ∃y,d[(lo+hi)/ 2]? =some y:=⟨_,zad (by omega)⟩;have el:=qkd (lt:=ltK ky4) hx hy;have ih1:=q0k K rk m p d hr ha f ((lo+hi)/ 2+1) hi (by omega) (by omega) (by omega);have ih2:=q0k K rk m p d hr ha f lo ((lo+hi)/ 2) (by omega) (by omega) (by omega);obtain⟨t1,b1,k1,w1,rfl,hw1⟩:=hW x (zac hx);obtain⟨t2,b2,k2,w2,rfl,hw2⟩:=hW y (zac hy);rw[el];generalize qie rk K f=ag at ih1 ih2 ⊢;have e1:=qhs (a:=lo) (b:=hi) (by omega);have e2:IntKind.i64.wrap ((((lo+hi)/ 2:Nat):Int)+1)=(((lo+hi)/ 2+1:Nat):Int):=(i64_in _ (by omega)).trans (by omega);have n1:0+Int.toNat (((lo+hi)/ 2:Nat):Int)=(lo+hi)/ 2:=by omega
  have n2:0+Int.toNat (p:Int)=p:=by omega
  dsimp only;simp only[e1,e2,n1,n2];refine qax (by omega) (by omega) ?_;rw[hx,zaf];refine qam rfl (qax (by omega) (by omega) ?_);rw[hy,zaf];refine qam rfl (qam (c:=qad w1&&qad w2) (by rw[hw1,hw2];rfl) ?_);show cond (!(decide (qbf w1 w2<0))) _ _=K m p ((if(!(decide (qan w1 w2<0)))=true then _ else _:Nat):Int) d;rw[xbft];refine qbb (fun hc=> ?_) fun hc=> ?_
  ·rw[if_pos (by rw[decide_eq_false hc];rfl)];exact ih1
  ·rw[if_neg (by rw[decide_eq_true hc];simp)];exact ih2
theorem q0g(K:Nat->Int->Int->Int->Int->Int->Int->List CV->Option Out)(rk m:Nat)(a p b mid n:Int)(q:Nat)(d:List CV)(hr:rows4 m d=true)(hq:q<=8000): ∀(f lo hi:Nat),lo<=hi->hi<=d.length->(∀c,lo<=c->c<hi->c<=q/\q - c<d.length)->hi - lo<f->qig rk K f m a p b mid n lo hi q d=K m a p b mid n ((bsr (fun c=> !(ltA (ltK ky4) d (q - c) c)) f lo hi:Nat):Int) d
 | 0,_,_,_,_,_,_=>by omega
 | f+1,lo,hi,h1,h2,h3,hf=>by
  obtain⟨hm,hl,hW⟩:=qa5 hr;show qmx rk (qig rk K f) K m a p b mid n lo hi q d=K m a p b mid n ((if lo<hi then(if(!(ltA (ltK ky4) d (q - (lo+hi)/ 2) ((lo+hi)/ 2)))=true then bsr (fun c=> !(ltA (ltK ky4) d (q - c) c)) f ((lo+hi)/ 2+1) hi else bsr (fun c=> !(ltA (ltK ky4) d (q - c) c)) f lo ((lo+hi)/ 2)) else lo:Nat):Int) d;unfold qmx;refine qac (fun h=> ?_) fun h=>by rw[if_neg (by omega)]
  have hlh:lo<hi:=by omega
  rw[if_pos hlh];obtain⟨hc1,hc2⟩:=h3 ((lo+hi)/ 2) (by omega) (by omega);obtain⟨x,hx⟩: ∃x,d[q - (lo+hi)/ 2]? =some x:=⟨_,zad hc2⟩;obtain⟨y,hy⟩: ∃y,d[(lo+hi)/ 2]? =some y:=⟨_,zad (by omega)⟩;have el:=qkd (lt:=ltK ky4) hx hy;have ih1:=q0g K rk m a p b mid n q d hr hq f ((lo+hi)/ 2+1) hi (by omega) (by omega) (fun c hc hd=>h3 c (by omega) hd) (by omega);have ih2:=q0g K rk m a p b mid n q d hr hq f lo ((lo+hi)/ 2) (by omega) (by omega) (fun c hc hd=>h3 c hc (by omega)) (by omega);obtain⟨t1,b1,k1,w1,rfl,hw1⟩:=hW x (zac hx);obtain⟨t2,b2,k2,w2,rfl,hw2⟩:=hW y (zac hy);rw[el];generalize qig rk K f=ag at ih1 ih2 ⊢;have e1:=qhs (a:=lo) (b:=hi) (by omega);have e2:IntKind.i64.wrap ((((lo+hi)/ 2:Nat):Int)+1)=(((lo+hi)/ 2+1:Nat):Int):=(i64_in _ (by omega)).trans (by omega);have e3:IntKind.i64.wrap ((q:Int) - (((lo+hi)/ 2:Nat):Int))=((q - (lo+hi)/ 2:Nat):Int):=(i64_in _ (by omega)).trans (by omega);have n1:0+Int.toNat (((lo+hi)/ 2:Nat):Int)=(lo+hi)/ 2:=by omega
  have n2:0+Int.toNat ((q - (lo+hi)/ 2:Nat):Int)=q - (lo+hi)/ 2:=by omega
  dsimp only;simp only[e1,e2,e3,n1,n2];refine qax (by omega) (by omega) ?_;rw[hx,zaf];refine qam rfl (qax (by omega) (by omega) ?_);rw[hy,zaf];refine qam rfl (qam (c:=qad w1&&qad w2) (by rw[hw1,hw2];rfl) ?_);show cond (!(decide (qbf w1 w2<0))) _ _=K m a p b mid n ((if(!(decide (qan w1 w2<0)))=true then _ else _:Nat):Int) d;rw[xbft];refine qbb (fun hc=> ?_) fun hc=> ?_
  ·rw[if_pos (by rw[decide_eq_false hc];rfl)];exact ih1
  ·rw[if_neg (by rw[decide_eq_true hc];simp)];exact ih2
theorem xbic(K:List CV->Option Out)(rk m a i:Nat)(d:List CV)(x:CV)(hx:d[a]? =some x)(hr:rows4 m d=true)(hi:i<=d.length): ∀(f k:Nat),a<=k->k<i->i - k<f->qlj rk K f m i k (pu d a (k+1) (seg d (a+1) (k+1)++[x]))=K (pu d a i (seg d (a+1) i++[x]))
 | 0,_,_,_,_=>by omega
 | f+1,k,h1,h2,hf=>by
  obtain⟨hm,hl,hW⟩:=qa5 hr;show qp1 rk (qlj rk K f) K m i k (pu d a (k+1) (seg d (a+1) (k+1)++[x]))=_;unfold qp1;have w1:IntKind.i64.wrap ((i:Int) - 1)=((i - 1:Nat):Int):=(i64_in _ (by omega)).trans (by omega);have w2:IntKind.i64.wrap ((k:Int)+1)=((k+1:Nat):Int):=(i64_in _ (by omega)).trans (by omega);dsimp only;rw[w1,w2];refine qac (fun h=> ?_) fun h=>by rw[show k+1=i by omega]
  obtain⟨z,hz,g1,g2,g3⟩:=xbav (d:=d) (a:=a) (k:=k) (x:=x) h1 (by omega);have ih:=xbic K rk m a i d x hx hr hi f (k+1) (by omega) (by omega) (by omega);rw[<- g3] at ih;obtain⟨t1,b1,k1,v1,rfl,hw1⟩:=hW z (zac hz);obtain⟨t2,b2,k2,v2,rfl,hw2⟩:=hW x (zac hx);generalize pu d a (k+1) _=e at ih g1 g2 ⊢;generalize qlj rk K f=ag at ih ⊢;have n1:0+Int.toNat ((k+1:Nat):Int)=k+1:=by omega
  have n2:0+Int.toNat (k:Int)=k:=by omega
  simp only[n1,n2];refine qax (by omega) (by omega) ?_;rw[g2,zaf];refine qam rfl (qax (by omega) (by omega) ?_);rw[g1,zaf];refine qam rfl (qax (by omega) (by omega) (qax (by omega) (by omega) ?_));exact ih
theorem xbia(K:List CV->Option Out)(rk m p i:Nat)(d:List CV)(x:CV)(hx:d[p]? =some x)(hr:rows4 m d=true)(hp:p<d.length): ∀(f k:Nat),i<=k->k<=p->k - i<f->qif rk K f m i k (pu d k (p+1) (x::seg d k p))=K (pu d i (p+1) (x::seg d i p))
 | 0,_,_,_,_=>by omega
 | f+1,k,h1,h2,hf=>by
  obtain⟨hm,hl,hW⟩:=qa5 hr;show qmw rk (qif rk K f) K m i k (pu d k (p+1) (x::seg d k p))=_;unfold qmw;refine qac (fun h=> ?_) fun h=>by rw[show k=i by omega]
  have w1:IntKind.i64.wrap ((k:Int) - 1)=((k - 1:Nat):Int):=(i64_in _ (by omega)).trans (by omega);dsimp only;rw[w1];obtain⟨z,hz,g1,g2,g3⟩:=xbau (d:=d) (m:=p) (k:=k) (y:=x) (by omega) h2 hp;have ih:=xbia K rk m p i d x hx hr hp f (k - 1) (by omega) (by omega) (by omega);rw[<- g3] at ih;obtain⟨t1,b1,k1,v1,rfl,hw1⟩:=hW z (zac hz);obtain⟨t2,b2,k2,v2,rfl,hw2⟩:=hW x (zac hx);generalize pu d k (p+1) _=e at ih g1 g2 ⊢;generalize qif rk K f=ag at ih ⊢;have n1:0+Int.toNat ((k - 1:Nat):Int)=k - 1:=by omega
  have n2:0+Int.toNat (k:Int)=k:=by omega
  simp only[n1,n2];refine qax (by omega) (by omega) ?_;rw[g2,zaf];refine qam rfl (qax (by omega) (by omega) ?_);rw[g1,zaf];refine qam rfl (qax (by omega) (by omega) (qax (by omega) (by omega) ?_));exact ih
theorem xbbt(k0:List CV->Option Out)(rk m mid e b:Nat)(d2 R:List CV)(hr:rows4 m d2=true)(hb:b<=m)(h:(if mid<e/\e<b then symS (ltK ky4) d2 mid e b else d2)=R)(hs:Srt (ltK ky4) (seg d2 mid e)/\Srt (ltK ky4) (seg d2 e b))(hk:b - mid<rk):
  cond (decide ((mid:Int)<e)) (cond (decide ((e:Int)<b)) (cond (rows4 m d2&&(qdg m mid e b&&(half4 d2 mid e b&&decide (((b:Int) - mid).toNat<rk)))) (k0 (sym4 d2 mid e b)) none) (k0 d2)) (k0 d2)=k0 R:=by
 refine xbmm (fun hc=> ?_) fun hc=> ?_
 ·rw[if_pos ⟨by omega,by omega⟩] at h;refine qam (by rw[hr,qfj (by omega),show half4 d2 mid e b=true from qnt hs.1 hs.2,decide_eq_true (show((b:Int) - mid).toNat<rk by omega)];rfl) ?_;rw[qqs,h]
 ·rw[if_neg (fun hh=>hc ⟨by omega,by omega⟩)] at h;rw[h]
theorem xbbv(k0:List CV->Option Out)(rk m a p b:Nat)(d:List CV)(hr:rows4 m d=true)(hap:a<p)(hpb:p<b)(hb:b<=m)(hs1:Srt (ltK ky4) (seg d a p))(hs2:Srt (ltK ky4) (seg d p b))(hk:b - a<rk+1)(lo hi:Nat)(hlo:lo=if(a+b)/ 2<p then(a+b)/ 2+p - b else a)(hhi:hi=if(a+b)/ 2<p then(a+b)/ 2 else p):
  qhu rk k0 m a p b (((a+b)/ 2:Nat):Int) (((a+b)/ 2+p:Nat):Int) lo hi d=k0 (symS (ltK ky4) d a p b):=by
 obtain⟨hm,hl,hW⟩:=qa5 hr;unfold qhu;have w1:IntKind.i64.wrap ((((a+b)/ 2+p:Nat):Int) - 1)=(((a+b)/ 2+p - 1:Nat):Int):=(i64_in _ (by omega)).trans (by omega);dsimp only;have hlh:lo<=hi/\hi<=p/\a<=lo/\(a+b)/ 2+p - b<=lo:=by rw[hlo,hhi];split<;>omega
 rw[qab,w1,q0g _ rk m a p b _ _ _ d hr (by omega) FUEL lo hi hlh.1 (by omega) (fun c hc1 hc2=>⟨by omega,by omega⟩) (by unfold FUEL;omega)]
 try dsimp only
 generalize hs:bsr _ FUEL lo hi=s;have hs':s=xbse (ltK ky4) d a p b FUEL:=by rw[<- hs,hlo,hhi];rfl
 obtain⟨q0,q1,q2,q3,q4,q5,q6,⟨q7,q8⟩,q9,q10⟩:=xbig (qd8 ky4) d hap hpb (by omega) (show b - a<FUEL by unfold FUEL;omega) hs1 hs2 s _ _ _ hs' rfl rfl rfl;generalize hmid:(a+b)/ 2=mid at*;generalize he:mid+p - s=e at*;have w2:IntKind.i64.wrap (((mid+p:Nat):Int) - s)=(e:Int):=(i64_in _ (by omega)).trans (by omega);rw[w2];have hrot:s<p/\p<e->rows4 m (rot d s p e)=true:=fun hc=>by
  have:=xbaf d (a:=s) (m:=p) (b:=e) (by omega) (by omega) (by omega);refine qhb ⟨by omega,by omega,fun c hcm=> ?_⟩;unfold rot pu at hcm;rcases zak.1 hcm with g|g
  ·exact hW c (zbg g)
  ·rcases zak.1 g with g|g
   ·exact(zak.1 g).elim (fun g=>hW c (qr9 g)) fun g=>hW c (qr9 g)
   ·exact hW c (zbf g)
 have two: ∀d1:List CV,rows4 m d1=true->d1=(if s<p/\p<e then rot d s p e else d)->
   cond (decide ((a:Int)<s)) (cond (decide ((s:Int)<mid)) (cond (rows4 m d1&&(qdg m a s mid&&(half4 d1 a s mid&&decide (((mid:Int) - a).toNat<rk))))
    (cond (decide ((mid:Int)<e)) (cond (decide ((e:Int)<b)) (cond (rows4 m (sym4 d1 a s mid)&&(qdg m mid e b&&(half4 (sym4 d1 a s mid) mid e b&&decide (((b:Int) - mid).toNat<rk)))) (k0 (sym4 (sym4 d1 a s mid) mid e b)) none) (k0 (sym4 d1 a s mid))) (k0 (sym4 d1 a s mid))) none)
    (cond (decide ((mid:Int)<e)) (cond (decide ((e:Int)<b)) (cond (rows4 m d1&&(qdg m mid e b&&(half4 d1 mid e b&&decide (((b:Int) - mid).toNat<rk)))) (k0 (sym4 d1 mid e b)) none) (k0 d1)) (k0 d1)))
    (cond (decide ((mid:Int)<e)) (cond (decide ((e:Int)<b)) (cond (rows4 m d1&&(qdg m mid e b&&(half4 d1 mid e b&&decide (((b:Int) - mid).toNat<rk)))) (k0 (sym4 d1 mid e b)) none) (k0 d1)) (k0 d1))=k0 (symS (ltK ky4) d a p b):=fun d1 hr1 hd1=>by
  rw[<- hd1] at q0 q5 q6 q7 q8 q9 q10;refine xbmm (fun hc=> ?_) fun hc=> ?_
  ·rw[if_pos (show a<s/\s<mid by omega)] at q0 q6 q9 q10;refine qam (by rw[hr1,qfj (by omega),show half4 d1 a s mid=true from qnt q7 q8,decide_eq_true (show((mid:Int) - a).toNat<rk by omega)];rfl) ?_;rw[qqs];exact xbbt k0 rk m mid e b _ _ (qqf hr1 (by omega) (by omega) (by omega)) hb q0 ⟨q9,q10⟩ (by omega)
  ·rw[if_neg (show ¬(a<s/\s<mid) by omega)] at q0 q6 q9 q10;exact xbbt k0 rk m mid e b _ _ hr1 hb q0 ⟨q9,q10⟩ (by omega)
 refine xbmm (fun hc=> ?_) fun hc=> ?_
 ·refine qam (by rw[hr,qfj (by omega)];rfl) ?_;have hc':s<p/\p<e:=by omega
  have:=two (rot d s p e) (hrot hc') (if_pos hc').symm;rw[show rotC d s p e=rot d s p e by unfold rotC;rw[qab];rfl];exact this
 ·exact two d hr (if_neg (show ¬(s<p/\p<e) by omega)).symm
theorem xbt4(rk m:Nat)(a p b:Int)(l:List CV)(hp:(rows4 m l&&(qdg m a p b&&half4 l a p b))=true)(hk:(b - a).toNat<rk+1):xbjz rk m a p b l=zR [] [some ⟨.gen 4 (sym4 l a p b),false⟩]:=by
 rw[zab,zab] at hp;obtain⟨hr,hc,hh⟩:=hp;obtain⟨e1,hl,hW⟩:=qa5 hr;obtain⟨h1,h2,h3,h4⟩:=qkt hc;obtain⟨a',rfl⟩:=Int.eq_ofNat_of_zero_le h1;obtain⟨p',rfl⟩:=Int.eq_ofNat_of_zero_le (show 0<=p by omega);obtain⟨b',rfl⟩:=Int.eq_ofNat_of_zero_le (show 0<=b by omega);obtain⟨hs1,hs2⟩:Srt (ltK ky4) (seg l a' p')/\Srt (ltK ky4) (seg l p' b'):=q1q hh;rw[qqs];unfold xbjz;have w1:IntKind.i64.wrap ((p':Int) - a')=((p' - a':Nat):Int):=(i64_in _ (by omega)).trans (by omega);have w2:IntKind.i64.wrap ((b':Int) - p')=((b' - p':Nat):Int):=(i64_in _ (by omega)).trans (by omega);dsimp only;rw[w1,w2,qhs (by omega)];obtain⟨x,hx⟩: ∃x,l[a']? =some x:=⟨_,zad (by omega)⟩;obtain⟨y,hy⟩: ∃y,l[p']? =some y:=⟨_,zad (by omega)⟩;refine qac (fun hq=> ?_) fun hq=>qac (fun hq2=> ?_) fun hq2=> ?_
 ·obtain rfl:p'=a'+1:=by omega
  obtain⟨g1,g2,g3⟩:=xbbr (qd8 ky4) l (a:=a') (b:=b') (f:=FUEL) (by omega) (by omega) (by unfold FUEL;omega) hx hs2 _ rfl;rw[qab,q0i _ rk m a' l hr (by omega) FUEL (a'+1) b' (by omega) (by omega) (by unfold FUEL;omega),qab]
  try dsimp only
  generalize bsr _ FUEL (a'+1) b'=i at g1 g2 g3 ⊢;have:=xbic ret4 rk m a' i l x hx hr (by omega) FUEL a' (by omega) (by omega) (by unfold FUEL;omega);rw[q3i hx,g3] at this;exact this
 ·obtain rfl:b'=p'+1:=by omega
  obtain⟨g1,g2,g3⟩:=q3s (qd8 ky4) l (a:=a') (m:=p') (f:=FUEL) (by omega) (by omega) (by unfold FUEL;omega) hy hs1 _ rfl;rw[qab,q0k _ rk m p' l hr (by omega) FUEL a' p' (by omega) (by omega) (by unfold FUEL;omega),qab]
  try dsimp only
  generalize bsr _ FUEL a' p'=i at g1 g2 g3 ⊢;have:=xbia ret4 rk m p' i l y hy hr (by omega) FUEL p' (by omega) (by omega) (by unfold FUEL;omega);rw[q3h hy,g3] at this;exact this
 ·have w3:IntKind.i64.wrap ((((a'+b')/ 2:Nat):Int)+p')=(((a'+b')/ 2+p':Nat):Int):=(i64_in _ (by omega)).trans (by omega);have hk':b' - a'< rk+1:=by omega
  rw[w3];refine qac (fun hm=> ?_) fun hm=> ?_
  ·have w4:IntKind.i64.wrap ((((a'+b')/ 2+p':Nat):Int) - b')=(((a'+b')/ 2+p' - b':Nat):Int):=(i64_in _ (by omega)).trans (by omega);rw[w4,qab];exact xbbv ret4 rk m a' p' b' l hr (by omega) (by omega) (by omega) hs1 hs2 hk' _ _ (if_pos (by omega)).symm (if_pos (by omega)).symm
  ·rw[qab];exact xbbv ret4 rk m a' p' b' l hr (by omega) (by omega) (by omega) hs1 hs2 hk' _ _ (if_neg (by omega)).symm (if_neg (by omega)).symm
theorem q0h(K:Nat->Int->Int->List CV->Option Out)(rk m a:Nat)(d:List CV)(hr:rows3 m d=true)(ha:a<d.length): ∀(f lo hi:Nat),lo<=hi->hi<=d.length->hi - lo<f->qlg rk K f m a lo hi d=K m a ((bsr (fun h=>ltA (ltK ky3) d h a) f lo hi:Nat):Int) d
 | 0,_,_,_,_,_=>by omega
 | f+1,lo,hi,h1,h2,hf=>by
  obtain⟨hm,hl,hW⟩:=qa4 hr;show qpy rk (qlg rk K f) K m a lo hi d=K m a ((if lo<hi then(if ltA (ltK ky3) d ((lo+hi)/ 2) a=true then bsr (fun h=>ltA (ltK ky3) d h a) f ((lo+hi)/ 2+1) hi else bsr (fun h=>ltA (ltK ky3) d h a) f lo ((lo+hi)/ 2)) else lo:Nat):Int) d;unfold qpy;refine qac (fun h=> ?_) fun h=>by rw[if_neg (by omega)]
  have hlh:lo<hi:=by omega
  rw[if_pos hlh];obtain⟨x,hx⟩: ∃x,d[(lo+hi)/ 2]? =some x:=⟨_,zad (by omega)⟩;obtain⟨y,hy⟩: ∃y,d[a]? =some y:=⟨_,zad ha⟩;have el:=qkd (lt:=ltK ky3) hx hy;have ih1:=q0h K rk m a d hr ha f ((lo+hi)/ 2+1) hi (by omega) (by omega) (by omega);have ih2:=q0h K rk m a d hr ha f lo ((lo+hi)/ 2) (by omega) (by omega) (by omega);obtain⟨b1,k1,w1,rfl,hw1⟩:=hW x (zac hx);obtain⟨b2,k2,w2,rfl,hw2⟩:=hW y (zac hy);rw[el];generalize qlg rk K f=ag at ih1 ih2 ⊢;have e1:=qhs (a:=lo) (b:=hi) (by omega);have e2:IntKind.i64.wrap ((((lo+hi)/ 2:Nat):Int)+1)=(((lo+hi)/ 2+1:Nat):Int):=(i64_in _ (by omega)).trans (by omega);have n1:0+Int.toNat (((lo+hi)/ 2:Nat):Int)=(lo+hi)/ 2:=by omega
  have n2:0+Int.toNat (a:Int)=a:=by omega
  dsimp only;simp only[e1,e2,n1,n2];refine qax (by omega) (by omega) ?_;rw[hx,zaf];refine qam rfl (qax (by omega) (by omega) ?_);rw[hy,zaf];refine qam rfl (qam (c:=qad w1&&qad w2) (by rw[hw1,hw2];rfl) ?_);show cond (decide (qbf w1 w2<0)) _ _=K m a ((if decide (qan w1 w2<0)=true then _ else _:Nat):Int) d;rw[xbft];refine qac (fun hc=> ?_) fun hc=> ?_
  ·rw[if_pos (decide_eq_true hc)];exact ih1
  ·rw[if_neg (by rw[decide_eq_false hc];simp)];exact ih2
theorem q0j(K:Nat->Int->Int->List CV->Option Out)(rk m p:Nat)(d:List CV)(hr:rows3 m d=true)(ha:p<d.length): ∀(f lo hi:Nat),lo<=hi->hi<=d.length->hi - lo<f->qib rk K f m p lo hi d=K m p ((bsr (fun h=> !(ltA (ltK ky3) d p h)) f lo hi:Nat):Int) d
 | 0,_,_,_,_,_=>by omega
 | f+1,lo,hi,h1,h2,hf=>by
  obtain⟨hm,hl,hW⟩:=qa4 hr;show qms rk (qib rk K f) K m p lo hi d=K m p ((if lo<hi then(if(!(ltA (ltK ky3) d p ((lo+hi)/ 2)))=true then bsr (fun h=> !(ltA (ltK ky3) d p h)) f ((lo+hi)/ 2+1) hi else bsr (fun h=> !(ltA (ltK ky3) d p h)) f lo ((lo+hi)/ 2)) else lo:Nat):Int) d;unfold qms;refine qac (fun h=> ?_) fun h=>by rw[if_neg (by omega)]
  have hlh:lo<hi:=by omega
  rw[if_pos hlh];obtain⟨x,hx⟩: ∃x,d[p]? =some x:=⟨_,zad ha⟩;obtain⟨y,hy⟩: ∃y,d[(lo+hi)/ 2]? =some y:=⟨_,zad (by omega)⟩;have el:=qkd (lt:=ltK ky3) hx hy;have ih1:=q0j K rk m p d hr ha f ((lo+hi)/ 2+1) hi (by omega) (by omega) (by omega);have ih2:=q0j K rk m p d hr ha f lo ((lo+hi)/ 2) (by omega) (by omega) (by omega);obtain⟨b1,k1,w1,rfl,hw1⟩:=hW x (zac hx);obtain⟨b2,k2,w2,rfl,hw2⟩:=hW y (zac hy);rw[el];generalize qib rk K f=ag at ih1 ih2 ⊢;have e1:=qhs (a:=lo) (b:=hi) (by omega);have e2:IntKind.i64.wrap ((((lo+hi)/ 2:Nat):Int)+1)=(((lo+hi)/ 2+1:Nat):Int):=(i64_in _ (by omega)).trans (by omega);have n1:0+Int.toNat (((lo+hi)/ 2:Nat):Int)=(lo+hi)/ 2:=by omega
  have n2:0+Int.toNat (p:Int)=p:=by omega
  dsimp only;simp only[e1,e2,n1,n2];refine qax (by omega) (by omega) ?_;rw[hx,zaf];refine qam rfl (qax (by omega) (by omega) ?_);rw[hy,zaf];refine qam rfl (qam (c:=qad w1&&qad w2) (by rw[hw1,hw2];rfl) ?_);show cond (!(decide (qbf w1 w2<0))) _ _=K m p ((if(!(decide (qan w1 w2<0)))=true then _ else _:Nat):Int) d;rw[xbft];refine qbb (fun hc=> ?_) fun hc=> ?_
  ·rw[if_pos (by rw[decide_eq_false hc];rfl)];exact ih1
  ·rw[if_neg (by rw[decide_eq_true hc];simp)];exact ih2
theorem q0f(K:Nat->Int->Int->Int->Int->Int->Int->List CV->Option Out)(rk m:Nat)(a p b mid n:Int)(q:Nat)(d:List CV)(hr:rows3 m d=true)(hq:q<=8000): ∀(f lo hi:Nat),lo<=hi->hi<=d.length->(∀c,lo<=c->c<hi->c<=q/\q - c<d.length)->hi - lo<f->qid rk K f m a p b mid n lo hi q d=K m a p b mid n ((bsr (fun c=> !(ltA (ltK ky3) d (q - c) c)) f lo hi:Nat):Int) d
 | 0,_,_,_,_,_,_=>by omega
 | f+1,lo,hi,h1,h2,h3,hf=>by
  obtain⟨hm,hl,hW⟩:=qa4 hr;show qmu rk (qid rk K f) K m a p b mid n lo hi q d=K m a p b mid n ((if lo<hi then(if(!(ltA (ltK ky3) d (q - (lo+hi)/ 2) ((lo+hi)/ 2)))=true then bsr (fun c=> !(ltA (ltK ky3) d (q - c) c)) f ((lo+hi)/ 2+1) hi else bsr (fun c=> !(ltA (ltK ky3) d (q - c) c)) f lo ((lo+hi)/ 2)) else lo:Nat):Int) d;unfold qmu;refine qac (fun h=> ?_) fun h=>by rw[if_neg (by omega)]
  have hlh:lo<hi:=by omega
  rw[if_pos hlh];obtain⟨hc1,hc2⟩:=h3 ((lo+hi)/ 2) (by omega) (by omega);obtain⟨x,hx⟩: ∃x,d[q - (lo+hi)/ 2]? =some x:=⟨_,zad hc2⟩;obtain⟨y,hy⟩: ∃y,d[(lo+hi)/ 2]? =some y:=⟨_,zad (by omega)⟩;have el:=qkd (lt:=ltK ky3) hx hy;have ih1:=q0f K rk m a p b mid n q d hr hq f ((lo+hi)/ 2+1) hi (by omega) (by omega) (fun c hc hd=>h3 c (by omega) hd) (by omega);have ih2:=q0f K rk m a p b mid n q d hr hq f lo ((lo+hi)/ 2) (by omega) (by omega) (fun c hc hd=>h3 c hc (by omega)) (by omega);obtain⟨b1,k1,w1,rfl,hw1⟩:=hW x (zac hx);obtain⟨b2,k2,w2,rfl,hw2⟩:=hW y (zac hy);rw[el];generalize qid rk K f=ag at ih1 ih2 ⊢;have e1:=qhs (a:=lo) (b:=hi) (by omega);have e2:IntKind.i64.wrap ((((lo+hi)/ 2:Nat):Int)+1)=(((lo+hi)/ 2+1:Nat):Int):=(i64_in _ (by omega)).trans (by omega);have e3:IntKind.i64.wrap ((q:Int) - (((lo+hi)/ 2:Nat):Int))=((q - (lo+hi)/ 2:Nat):Int):=(i64_in _ (by omega)).trans (by omega);have n1:0+Int.toNat (((lo+hi)/ 2:Nat):Int)=(lo+hi)/ 2:=by omega
  have n2:0+Int.toNat ((q - (lo+hi)/ 2:Nat):Int)=q - (lo+hi)/ 2:=by omega
  dsimp only;simp only[e1,e2,e3,n1,n2];refine qax (by omega) (by omega) ?_;rw[hx,zaf];refine qam rfl (qax (by omega) (by omega) ?_);rw[hy,zaf];refine qam rfl (qam (c:=qad w1&&qad w2) (by rw[hw1,hw2];rfl) ?_);show cond (!(decide (qbf w1 w2<0))) _ _=K m a p b mid n ((if(!(decide (qan w1 w2<0)))=true then _ else _:Nat):Int) d;rw[xbft];refine qbb (fun hc=> ?_) fun hc=> ?_
  ·rw[if_pos (by rw[decide_eq_false hc];rfl)];exact ih1
  ·rw[if_neg (by rw[decide_eq_true hc];simp)];exact ih2
theorem xbib(K:List CV->Option Out)(rk m a i:Nat)(d:List CV)(x:CV)(hx:d[a]? =some x)(hr:rows3 m d=true)(hi:i<=d.length): ∀(f k:Nat),a<=k->k<i->i - k<f->qlh rk K f m i k (pu d a (k+1) (seg d (a+1) (k+1)++[x]))=K (pu d a i (seg d (a+1) i++[x]))
 | 0,_,_,_,_=>by omega
 | f+1,k,h1,h2,hf=>by
  obtain⟨hm,hl,hW⟩:=qa4 hr;show qpz rk (qlh rk K f) K m i k (pu d a (k+1) (seg d (a+1) (k+1)++[x]))=_;unfold qpz;have w1:IntKind.i64.wrap ((i:Int) - 1)=((i - 1:Nat):Int):=(i64_in _ (by omega)).trans (by omega);have w2:IntKind.i64.wrap ((k:Int)+1)=((k+1:Nat):Int):=(i64_in _ (by omega)).trans (by omega);dsimp only;rw[w1,w2];refine qac (fun h=> ?_) fun h=>by rw[show k+1=i by omega]
  obtain⟨z,hz,g1,g2,g3⟩:=xbav (d:=d) (a:=a) (k:=k) (x:=x) h1 (by omega);have ih:=xbib K rk m a i d x hx hr hi f (k+1) (by omega) (by omega) (by omega);rw[<- g3] at ih;obtain⟨b1,k1,v1,rfl,hw1⟩:=hW z (zac hz);obtain⟨b2,k2,v2,rfl,hw2⟩:=hW x (zac hx);generalize pu d a (k+1) _=e at ih g1 g2 ⊢;generalize qlh rk K f=ag at ih ⊢;have n1:0+Int.toNat ((k+1:Nat):Int)=k+1:=by omega
  have n2:0+Int.toNat (k:Int)=k:=by omega
  simp only[n1,n2];refine qax (by omega) (by omega) ?_;rw[g2,zaf];refine qam rfl (qax (by omega) (by omega) ?_);rw[g1,zaf];refine qam rfl (qax (by omega) (by omega) (qax (by omega) (by omega) ?_));exact ih
theorem xbh9(K:List CV->Option Out)(rk m p i:Nat)(d:List CV)(x:CV)(hx:d[p]? =some x)(hr:rows3 m d=true)(hp:p<d.length): ∀(f k:Nat),i<=k->k<=p->k - i<f->qic rk K f m i k (pu d k (p+1) (x::seg d k p))=K (pu d i (p+1) (x::seg d i p))
 | 0,_,_,_,_=>by omega
 | f+1,k,h1,h2,hf=>by
  obtain⟨hm,hl,hW⟩:=qa4 hr;show qmt rk (qic rk K f) K m i k (pu d k (p+1) (x::seg d k p))=_;unfold qmt;refine qac (fun h=> ?_) fun h=>by rw[show k=i by omega]
  have w1:IntKind.i64.wrap ((k:Int) - 1)=((k - 1:Nat):Int):=(i64_in _ (by omega)).trans (by omega);dsimp only;rw[w1];obtain⟨z,hz,g1,g2,g3⟩:=xbau (d:=d) (m:=p) (k:=k) (y:=x) (by omega) h2 hp;have ih:=xbh9 K rk m p i d x hx hr hp f (k - 1) (by omega) (by omega) (by omega);rw[<- g3] at ih;obtain⟨b1,k1,v1,rfl,hw1⟩:=hW z (zac hz);obtain⟨b2,k2,v2,rfl,hw2⟩:=hW x (zac hx);generalize pu d k (p+1) _=e at ih g1 g2 ⊢;generalize qic rk K f=ag at ih ⊢;have n1:0+Int.toNat ((k - 1:Nat):Int)=k - 1:=by omega
  have n2:0+Int.toNat (k:Int)=k:=by omega
  simp only[n1,n2];refine qax (by omega) (by omega) ?_;rw[g2,zaf];refine qam rfl (qax (by omega) (by omega) ?_);rw[g1,zaf];refine qam rfl (qax (by omega) (by omega) (qax (by omega) (by omega) ?_));exact ih
theorem xbbs(k0:List CV->Option Out)(rk m mid e b:Nat)(d2 R:List CV)(hr:rows3 m d2=true)(hb:b<=m)(h:(if mid<e/\e<b then symS (ltK ky3) d2 mid e b else d2)=R)(hs:Srt (ltK ky3) (seg d2 mid e)/\Srt (ltK ky3) (seg d2 e b))(hk:b - mid<rk):
  cond (decide ((mid:Int)<e)) (cond (decide ((e:Int)<b)) (cond (rows3 m d2&&(qdg m mid e b&&(half3 d2 mid e b&&decide (((b:Int) - mid).toNat<rk)))) (k0 (sym3 d2 mid e b)) none) (k0 d2)) (k0 d2)=k0 R:=by
 refine xbmm (fun hc=> ?_) fun hc=> ?_
 ·rw[if_pos ⟨by omega,by omega⟩] at h;refine qam (by rw[hr,qfj (by omega),show half3 d2 mid e b=true from qnt hs.1 hs.2,decide_eq_true (show((b:Int) - mid).toNat<rk by omega)];rfl) ?_;rw[qqr,h]
 ·rw[if_neg (fun hh=>hc ⟨by omega,by omega⟩)] at h;rw[h]
theorem xbbu(k0:List CV->Option Out)(rk m a p b:Nat)(d:List CV)(hr:rows3 m d=true)(hap:a<p)(hpb:p<b)(hb:b<=m)(hs1:Srt (ltK ky3) (seg d a p))(hs2:Srt (ltK ky3) (seg d p b))(hk:b - a<rk+1)(lo hi:Nat)(hlo:lo=if(a+b)/ 2<p then(a+b)/ 2+p - b else a)(hhi:hi=if(a+b)/ 2<p then(a+b)/ 2 else p):
  qht rk k0 m a p b (((a+b)/ 2:Nat):Int) (((a+b)/ 2+p:Nat):Int) lo hi d=k0 (symS (ltK ky3) d a p b):=by
 obtain⟨hm,hl,hW⟩:=qa4 hr;unfold qht;have w1:IntKind.i64.wrap ((((a+b)/ 2+p:Nat):Int) - 1)=(((a+b)/ 2+p - 1:Nat):Int):=(i64_in _ (by omega)).trans (by omega);dsimp only;have hlh:lo<=hi/\hi<=p/\a<=lo/\(a+b)/ 2+p - b<=lo:=by rw[hlo,hhi];split<;>omega
 rw[qab,w1,q0f _ rk m a p b _ _ _ d hr (by omega) FUEL lo hi hlh.1 (by omega) (fun c hc1 hc2=>⟨by omega,by omega⟩) (by unfold FUEL;omega)]
 try dsimp only
 generalize hs:bsr _ FUEL lo hi=s;have hs':s=xbse (ltK ky3) d a p b FUEL:=by rw[<- hs,hlo,hhi];rfl
 obtain⟨q0,q1,q2,q3,q4,q5,q6,⟨q7,q8⟩,q9,q10⟩:=xbig (qd8 ky3) d hap hpb (by omega) (show b - a<FUEL by unfold FUEL;omega) hs1 hs2 s _ _ _ hs' rfl rfl rfl;generalize hmid:(a+b)/ 2=mid at*;generalize he:mid+p - s=e at*;have w2:IntKind.i64.wrap (((mid+p:Nat):Int) - s)=(e:Int):=(i64_in _ (by omega)).trans (by omega);rw[w2];have hrot:s<p/\p<e->rows3 m (rot d s p e)=true:=fun hc=>by
  have:=xbaf d (a:=s) (m:=p) (b:=e) (by omega) (by omega) (by omega);refine qip ⟨by omega,by omega,fun c hcm=> ?_⟩;unfold rot pu at hcm;rcases zak.1 hcm with g|g
  ·exact hW c (zbg g)
  ·rcases zak.1 g with g|g
   ·exact(zak.1 g).elim (fun g=>hW c (qr9 g)) fun g=>hW c (qr9 g)
   ·exact hW c (zbf g)
 have two: ∀d1:List CV,rows3 m d1=true->d1=(if s<p/\p<e then rot d s p e else d)->
   cond (decide ((a:Int)<s)) (cond (decide ((s:Int)<mid)) (cond (rows3 m d1&&(qdg m a s mid&&(half3 d1 a s mid&&decide (((mid:Int) - a).toNat<rk))))
    (cond (decide ((mid:Int)<e)) (cond (decide ((e:Int)<b)) (cond (rows3 m (sym3 d1 a s mid)&&(qdg m mid e b&&(half3 (sym3 d1 a s mid) mid e b&&decide (((b:Int) - mid).toNat<rk)))) (k0 (sym3 (sym3 d1 a s mid) mid e b)) none) (k0 (sym3 d1 a s mid))) (k0 (sym3 d1 a s mid))) none)
    (cond (decide ((mid:Int)<e)) (cond (decide ((e:Int)<b)) (cond (rows3 m d1&&(qdg m mid e b&&(half3 d1 mid e b&&decide (((b:Int) - mid).toNat<rk)))) (k0 (sym3 d1 mid e b)) none) (k0 d1)) (k0 d1)))
    (cond (decide ((mid:Int)<e)) (cond (decide ((e:Int)<b)) (cond (rows3 m d1&&(qdg m mid e b&&(half3 d1 mid e b&&decide (((b:Int) - mid).toNat<rk)))) (k0 (sym3 d1 mid e b)) none) (k0 d1)) (k0 d1))=k0 (symS (ltK ky3) d a p b):=fun d1 hr1 hd1=>by
  rw[<- hd1] at q0 q5 q6 q7 q8 q9 q10;refine xbmm (fun hc=> ?_) fun hc=> ?_
  ·rw[if_pos (show a<s/\s<mid by omega)] at q0 q6 q9 q10;refine qam (by rw[hr1,qfj (by omega),show half3 d1 a s mid=true from qnt q7 q8,decide_eq_true (show((mid:Int) - a).toNat<rk by omega)];rfl) ?_;rw[qqr];exact xbbs k0 rk m mid e b _ _ (qqe hr1 (by omega) (by omega) (by omega)) hb q0 ⟨q9,q10⟩ (by omega)
  ·rw[if_neg (show ¬(a<s/\s<mid) by omega)] at q0 q6 q9 q10;exact xbbs k0 rk m mid e b _ _ hr1 hb q0 ⟨q9,q10⟩ (by omega)
 refine xbmm (fun hc=> ?_) fun hc=> ?_
 ·refine qam (by rw[hr,qfj (by omega)];rfl) ?_;have hc':s<p/\p<e:=by omega
  have:=two (rot d s p e) (hrot hc') (if_pos hc').symm;rw[show rotC d s p e=rot d s p e by unfold rotC;rw[qab];rfl];exact this
 ·exact two d hr (if_neg (show ¬(s<p/\p<e) by omega)).symm
theorem xbt3(rk m:Nat)(a p b:Int)(l:List CV)(hp:(rows3 m l&&(qdg m a p b&&half3 l a p b))=true)(hk:(b - a).toNat<rk+1):xbjy rk m a p b l=zR [] [some ⟨.gen 3 (sym3 l a p b),false⟩]:=by
 rw[zab,zab] at hp;obtain⟨hr,hc,hh⟩:=hp;obtain⟨e1,hl,hW⟩:=qa4 hr;obtain⟨h1,h2,h3,h4⟩:=qkt hc;obtain⟨a',rfl⟩:=Int.eq_ofNat_of_zero_le h1;obtain⟨p',rfl⟩:=Int.eq_ofNat_of_zero_le (show 0<=p by omega);obtain⟨b',rfl⟩:=Int.eq_ofNat_of_zero_le (show 0<=b by omega);obtain⟨hs1,hs2⟩:Srt (ltK ky3) (seg l a' p')/\Srt (ltK ky3) (seg l p' b'):=q1q hh;rw[qqr];unfold xbjy;have w1:IntKind.i64.wrap ((p':Int) - a')=((p' - a':Nat):Int):=(i64_in _ (by omega)).trans (by omega);have w2:IntKind.i64.wrap ((b':Int) - p')=((b' - p':Nat):Int):=(i64_in _ (by omega)).trans (by omega);dsimp only;rw[w1,w2,qhs (by omega)];obtain⟨x,hx⟩: ∃x,l[a']? =some x:=⟨_,zad (by omega)⟩;obtain⟨y,hy⟩: ∃y,l[p']? =some y:=⟨_,zad (by omega)⟩;refine qac (fun hq=> ?_) fun hq=>qac (fun hq2=> ?_) fun hq2=> ?_
 ·obtain rfl:p'=a'+1:=by omega
  obtain⟨g1,g2,g3⟩:=xbbr (qd8 ky3) l (a:=a') (b:=b') (f:=FUEL) (by omega) (by omega) (by unfold FUEL;omega) hx hs2 _ rfl;rw[qab,q0h _ rk m a' l hr (by omega) FUEL (a'+1) b' (by omega) (by omega) (by unfold FUEL;omega),qab]
  try dsimp only
  generalize bsr _ FUEL (a'+1) b'=i at g1 g2 g3 ⊢;have:=xbib ret3 rk m a' i l x hx hr (by omega) FUEL a' (by omega) (by omega) (by unfold FUEL;omega);rw[q3i hx,g3] at this;exact this
 ·obtain rfl:b'=p'+1:=by omega
  obtain⟨g1,g2,g3⟩:=q3s (qd8 ky3) l (a:=a') (m:=p') (f:=FUEL) (by omega) (by omega) (by unfold FUEL;omega) hy hs1 _ rfl;rw[qab,q0j _ rk m p' l hr (by omega) FUEL a' p' (by omega) (by omega) (by unfold FUEL;omega),qab]
  try dsimp only
  generalize bsr _ FUEL a' p'=i at g1 g2 g3 ⊢;have:=xbh9 ret3 rk m p' i l y hy hr (by omega) FUEL p' (by omega) (by omega) (by unfold FUEL;omega);rw[q3h hy,g3] at this;exact this
 ·have w3:IntKind.i64.wrap ((((a'+b')/ 2:Nat):Int)+p')=(((a'+b')/ 2+p':Nat):Int):=(i64_in _ (by omega)).trans (by omega);have hk':b' - a'< rk+1:=by omega
  rw[w3];refine qac (fun hm=> ?_) fun hm=> ?_
  ·have w4:IntKind.i64.wrap ((((a'+b')/ 2+p':Nat):Int) - b')=(((a'+b')/ 2+p' - b':Nat):Int):=(i64_in _ (by omega)).trans (by omega);rw[w4,qab];exact xbbu ret3 rk m a' p' b' l hr (by omega) (by omega) (by omega) hs1 hs2 hk' _ _ (if_pos (by omega)).symm (if_pos (by omega)).symm
  ·rw[qab];exact xbbu ret3 rk m a' p' b' l hr (by omega) (by omega) (by omega) hs1 hs2 hk' _ _ (if_neg (by omega)).symm (if_neg (by omega)).symm
open IntWalk (i64_in u8_in u32_in u64_in i64_quo u8_quo rem_in)
theorem qfn{p:Prop}:pT p=true↔p:=⟨@of_decide_eq_true _ (Classical.propDecidable _),@decide_eq_true _ (Classical.propDecidable _)⟩
theorem qr3{p:Prop}(h: ¬p):pT p=false:=zau.2 fun e=>h (qfn.1 e)
theorem xbsd{p q:Prop}(h:p↔q):pT p=pT q:=congrArg pT (propext h)
theorem qdh{o:List Int}:qj2 o=true↔o.length<=35184372088832:=by unfold qj2;rw[qab,decide_eq_true_eq]
theorem qcn{o:List Int}{k:List CV}:at1Ok o k=true↔xbb0 o/\qjw k:=by unfold at1Ok;rw[qab,qfn]
theorem q3y{k:List CV}:xbr2 k=true↔qjw k:=by unfold xbr2;rw[qab,qfn]
theorem qau{l:List CV}:qbp l=true↔l.length<=1800/\(∀c∈l,WA c)/\qvn l<=1800:=by unfold qbp;rw[qab,qfn]
theorem qdc(a b:List Int):qa2 a b=decide (a=b):=qab _
theorem xbao{α:Type}{a b:List α}(hl:a.length=b.length)(L:Nat->Nat->Option Out)(bad good:Option Out)(h1: ∀(n i:Nat) (x:α),i<a.length->a[i]? =some x->b[i]? =some x->L (n+1) i=L n (i+1))(h2: ∀(n i:Nat) (x y:α),i<a.length->a[i]? =some x->b[i]? =some y->x≠y->L (n+1) i=bad)(h3: ∀n,L (n+1) a.length=good): ∀(f i:Nat),i<=a.length->a.length<f+i->L f i=cond (pT (a.drop i=b.drop i)) good bad
 | 0,i,hi,hf=>by omega
 | f+1,i,hi,hf=>by
  rcases zbl i a.length with h|h
  ·obtain⟨x,hx⟩:=qaw h;obtain⟨y,hy⟩:=qaw (b:=b) (i:=i) (by omega);rw[qci hx,qci hy];by_cases e:x=y
   ·subst e;rw[h1 f i x h hx hy,xbao hl L bad good h1 h2 h3 f (i+1) h (by omega)];exact congrArg (fun p=>cond p good bad) (xbsd (by simp))
   ·rw[h2 f i x y h hx hy e,qr3 fun he=>e (List.cons.inj he).1];rfl
  ·obtain rfl:i=a.length:=by omega
   rw[h3,List.drop_of_length_le (zas _),List.drop_of_length_le (by omega),qfn.2 rfl];rfl
theorem qu9{α:Type}{a b:List α}{L:Nat->Nat->Option Out}{bad good x:Option Out}(hx:x=L FUEL 0)(hb:a.length<=1000000000000000)(h1: ∀(n i:Nat) (x:α),i<a.length->a[i]? =some x->b[i]? =some x->L (n+1) i=L n (i+1))(h2: ∀(n i:Nat) (x y:α),i<a.length->a[i]? =some x->b[i]? =some y->x≠y->L (n+1) i=bad)(h3: ∀n,L (n+1) a.length=good):cond (!decide ((a.length:Int)=(b.length:Int))) bad x=cond (pT (a=b)) good bad:=by
 refine qbb (fun h=> ?_) fun h=> ?_
 ·rw[qr3 fun e=>h (by rw[e])];rfl
 ·rw[hx,xbao (by omega) L bad good h1 h2 h3 FUEL 0 (zcf _) (by unfold FUEL;omega)];rfl
theorem xbh4{α β:Type}(f:α->Option β)(d:β)(l:List α)(L:Nat->Nat->List β->Option Out)(bad:Option Out)(fin:List β->Option Out)(hstep: ∀(n i:Nat) (acc:List β) (x:α),i<l.length->acc.length=l.length->l[i]? =some x->L (n+1) i acc=match f x with|some y=>L n (i+1) (acc.set i y)|none=>bad)(hend: ∀(n:Nat) (acc:List β),L (n+1) l.length acc=fin acc):
  ∀(fuel i:Nat) (acc:List β),i<=l.length->acc.length=i->l.length<fuel+i->L fuel i (acc++List.replicate (l.length - i) d)=if(l.drop i).all (fun c=>(f c).isSome)=true then fin (acc++(l.drop i).filterMap f) else bad
 | 0,i,acc,hi,ha,hf=>by omega
 | fuel+1,i,acc,hi,ha,hf=>by
  rcases zbl i l.length with h|h
  ·obtain⟨x,hx⟩:=qaw h;rw[hstep fuel i _ x h (by rw[zah,List.length_replicate];omega) hx,qci hx,zc3]
   cases hy:f x with
   | none=>simp
   | some y=>
    show L fuel (i+1) _=_;rw[List.set_append_right _ _ (by omega),ha,Nat.sub_self,show l.length - i=(l.length - (i+1))+1 by omega,List.replicate_succ,List.set_cons_zero,List.append_cons,
     xbh4 f d l L bad fin hstep hend fuel (i+1) (acc++[y]) h (by simp[ha]) (by omega),zc0 hy]
    simp
  ·obtain rfl:i=l.length:=by omega
   rw[Nat.sub_self,List.replicate_zero,za6,hend,List.drop_of_length_le (zas _)];simp
theorem xbrk{α β:Type}{f:α->Option β}{d:β}{l:List α}{L:Nat->Nat->List β->Option Out}{bad:Option Out}{fin:List β->Option Out}{w:Int}{x:Option Out}(hl:l.length<=1000000)(hw0:0<=w)(hw:w<=100)(hx:x=L FUEL 0 (List.replicate l.length d))(hstep: ∀(n i:Nat) (acc:List β) (x:α),i<l.length->acc.length=l.length->l[i]? =some x->L (n+1) i acc=match f x with|some y=>L n (i+1) (acc.set i y)|none=>bad)(hend: ∀(n:Nat) (acc:List β),L (n+1) l.length acc=fin acc):
  cond (decide ((0:Int)<=(l.length:Int))) (cond (decide ((l.length:Int)<=(l.length:Int))) (cond (decide ((l.length:Int)*w<=LIM)) (cond (decide ((l.length:Int)<=LIM)) x none) none) none) none=if l.all (fun c=>(f c).isSome)=true then fin (l.filterMap f) else bad:=by
 have hm:(l.length:Int)*w<=1000000*100:=Int.mul_le_mul (by omega) hw hw0 (by omega);refine qas (by omega) (qas (Int.le_refl _) (qas (by unfold LIM;omega) (qas (by unfold LIM;omega) ?_)));exact hx.trans (xbh4 f d l L bad fin hstep hend FUEL 0 [] (zcf _) rfl (by unfold FUEL;omega))
theorem q7q{α β:Type}(f:α->Option β)(l:List α)(L:Nat->Nat->List β->Option Out)(bad:Option Out)(fin:List β->Option Out)(hstep: ∀(n i:Nat) (acc:List β) (x:α),i<l.length->acc.length=i->l[i]? =some x->L (n+1) i acc=match f x with|some y=>L n (i+1) (acc++[y])|none=>bad)(hend: ∀(n:Nat) (acc:List β),acc.length=l.length->L (n+1) l.length acc=fin acc):
  ∀(fuel i:Nat) (acc:List β),i<=l.length->acc.length=i->l.length<fuel+i->L fuel i acc=if(l.drop i).all (fun c=>(f c).isSome)=true then fin (acc++(l.drop i).filterMap f) else bad
 | 0,i,acc,hi,ha,hf=>by omega
 | fuel+1,i,acc,hi,ha,hf=>by
  rcases zbl i l.length with h|h
  ·obtain⟨x,hx⟩:=qaw h;rw[hstep fuel i acc x h ha hx,qci hx,zc3]
   cases hy:f x with
   | none=>simp
   | some y=>
    show L fuel (i+1) (acc++[y])=_;rw[q7q f l L bad fin hstep hend fuel (i+1) (acc++[y]) h (by simp[ha]) (by omega),zc0 hy];simp
  ·obtain rfl:i=l.length:=by omega
   rw[hend _ _ ha,zdh];simp
theorem xbjm{α β:Type}{f:α->Option β}{l:List α}{L:Nat->Nat->List β->Option Out}{bad:Option Out}{fin:List β->Option Out}{x:Option Out}(hl:l.length<=1000000)(hx:x=L FUEL 0 [])(hstep: ∀(n i:Nat) (acc:List β) (x:α),i<l.length->acc.length=i->l[i]? =some x->L (n+1) i acc=match f x with|some y=>L n (i+1) (acc++[y])|none=>bad)(hend: ∀(n:Nat) (acc:List β),acc.length=l.length->L (n+1) l.length acc=fin acc):x=if l.all (fun c=>(f c).isSome)=true then fin (l.filterMap f) else bad:=
 hx.trans (q7q f l L bad fin hstep hend FUEL 0 [] (zcf _) rfl (by unfold FUEL;omega))
theorem room{n:Nat}{w:Int}{x r:Option Out}(hn:n<=1000000)(h:x=r)(h0:0<=w:=by omega)(hw:w<=100:=by omega):cond (decide ((0:Int)<=(n:Int))) (cond (decide ((n:Int)*w<=LIM)) (cond (decide ((n:Int)<=LIM)) x none) none) none=r:=by have hm:(n:Int)*w<=1000000*100:=Int.mul_le_mul (by omega) hw h0 (by omega);exact qas (by omega) (qas (by unfold LIM;omega) (qas (by unfold LIM;omega) h))
theorem q2z{β:Type}{acc:List β}{y:β}{i w:Nat}{A:Nat->Int->List β->Option Out}(ha:acc.length=i)(hi:i<1000000)(hw:w<=100):rmK (acc++[y]).length w (A (acc++[y]).length (IntKind.i64.wrap ((i:Int)+1)) (acc++[y]))=A (acc++[y]).length ((i+1:Nat):Int) (acc++[y]):=by
 have e3:(acc++[y]).length=i+1:=by rw[zah,ha];rfl
 have hm:(acc++[y]).length*w<=1000000*100:=Nat.mul_le_mul (by omega) hw;rw[show IntKind.i64.wrap ((i:Int)+1)=((i+1:Nat):Int) from(i64_in _ (by omega)).trans (by omega)];exact qlx (by omega) (by omega) rfl
theorem xbpb(o:List Int)(hp:qj2 o=true):xbgg o=zR [.cl (.sli .u32 o)] []:=by
 have hp:=qdh.1 hp;unfold xbgg;simp only[zaz];refine qfv (fun h=> ?_) fun h=> ?_
 ·have h:=zal (qag.1 h);subst h;unfold xbjg;rw[if_pos (Eq.symm (qlx (by simp) (by simp) rfl))]
 ·exact qlx (by omega) (by omega) rfl
theorem xbap{a b:List Int}{x:Option Out}(h:x=cond (pT (a=b)) (zB true) (zB false)):x=zB (qa2 a b):=by
 rw[h,qdc];by_cases e:a=b
 ·rw[qfn.2 e,decide_eq_true e];rfl
 ·rw[qr3 e,decide_eq_false e];rfl
theorem ql0{i:Nat}(h:i<=1000000000000000):IntKind.i64.wrap ((i:Int)+1)=((i+1:Nat):Int):=(i64_in _ (by omega)).trans (by omega)
theorem xbwt(a b:List Int)(hp:qj2 a=true):xbvo a b=zB (qa2 a b):=by
 have hp:=qdh.1 hp;unfold xbvo;rw[qab];refine xbap (qu9 (L:=fun f i=>qzz _ _ f a b (a.length:Int) (i:Int)) rfl (by omega) (fun n i x hi hx hy=> ?_) (fun n i x y hi hx hy hne=> ?_) fun n=> ?_)
 ·refine qas (by omega) (qa3 (by omega) hx (qa3 (by omega) hy (qtq rfl ?_)));rw[ql0 (by omega)];rfl
 ·exact qas (by omega) (qa3 (by omega) hx (qa3 (by omega) hy (qv8 hne rfl)))
 ·exact qdt (by omega) rfl
theorem xbpe(a b:List Int)(hp:qj2 a=true):xbns a b=zB (qa2 a b):=qam hp rfl
theorem xbpk(a b:List Int)(hp:qj2 a=true):xbgm a b=zB (qa2 a b):=by
 have hp:=qdh.1 hp;unfold xbgm;rw[qab];refine xbap (qu9 (L:=fun f i=>qp2 _ _ f a b (i:Int)) rfl (by omega) (fun n i x hi hx hy=> ?_) (fun n i x y hi hx hy hne=> ?_) fun n=> ?_)
 ·refine qas (by omega) (qa3 (by omega) hx (qa3 (by omega) hy (qtq rfl ?_)));rw[ql0 (by omega)];rfl
 ·exact qas (by omega) (qa3 (by omega) hx (qa3 (by omega) hy (qv8 hne rfl)))
 ·exact qdt (by omega) rfl
theorem xbwx(o:List Int)(k:List CV)(p:List Int)(q:List CV)(hp:qj2 p=true):xbwc o k p q=zR [.cl (.bool (qa2 p o))] [some ⟨.var [.cl (.sli .u32 p),.cl (.slg 3 q)],false⟩]:=qam hp rfl
theorem xbwq(o:List Int)(k:List CV)(p:List Int)(hp:qj2 o=true):xbwb o k p=zR [.cl (.bool (qa2 o p))] [some ⟨.var [.cl (.sli .u32 p)],false⟩]:=qam hp rfl
theorem xbdl{p:List Int}: ∀ {l:List CV} {i:Nat},qvo p i l<0↔ ∀c∈l,typA c≠p
 | [],i=>by simp[qvo]
 | c::r,i=>by
  unfold qvo;by_cases h:typA c=p
  ·rw[if_pos h];exact⟨fun e=>by omega,fun e=>absurd h (e c (by simp))⟩
  ·rw[if_neg h,xbdl];simp[h]
theorem xboc{p:List Int}: ∀ {l:List CV} {i:Nat},0<=qvo p i l->∃(j:Nat) (c:CV),qvo p i l=((i+j:Nat):Int)/\l[j]? =some c/\l.find? (fun c=>decide (typA c=p))=some c
 | [],i,h=>by simp[qvo] at h
 | c::r,i,h=>by
  unfold qvo at h ⊢;by_cases e:typA c=p
  ·rw[if_pos e];exact⟨0,c,rfl,rfl,by simp[e]⟩
  ·rw[if_neg e] at h ⊢;obtain⟨j,c',h1,h2,h3⟩:=xboc h;exact⟨j+1,c',by rw[h1];omega,h2,by rw[List.find?_cons_of_neg (by simpa using e)];exact h3⟩
theorem xbod(K:Int->List Int->List CV->Option Out)(K1:List Int->List CV->Option Out)(hK: ∀a b,K1 a b=K (-1) a b)(l:List CV)(hl:l.length<=1800)(hw: ∀c∈l,WA c)(p:List Int)(q:List CV)(hp:qj2 p=true): ∀(f i:Nat),i<=l.length->l.length<f+i->
  qub K K1 f l (l.length:Int) (i:Int) p q=K (qvo p i (l.drop i)) p q
 | 0,i,hi,hf=>by omega
 | f+1,i,hi,hf=>by
  show quc (qub K K1 f) K K1 l _ _ p q=_;unfold quc;refine qac (fun h=> ?_) fun h=> ?_
  ·obtain⟨c,hc⟩:=qaw (b:=l) (i:=i) (by omega);rw[qci hc];obtain⟨o,k,rfl,ho,hk⟩:=hw c (zac hc);refine qa3 (by omega) hc (qam rfl (qam hp ?_));show cond (qa2 p o) _ _=_;rw[qdc];unfold qvo;refine qac (fun e=> ?_) fun e=> ?_
   ·rw[if_pos (show typA (mkA o k)=p from e.symm)]
   ·rw[if_neg (show ¬typA (mkA o k)=p from fun e'=>e (Eq.symm e')),ql0 (by omega)];exact xbod K K1 hK l hl hw p q hp f (i+1) (by omega) (by omega)
  ·obtain rfl:i=l.length:=by omega
   rw[hK,List.drop_of_length_le (zas _)];rfl
theorem xbgy(K:Int->List Int->Option Out)(K1:List Int->Option Out)(hK: ∀a,K1 a=K (-1) a)(l:List CV)(hl:l.length<=1800)(hw: ∀c∈l,WA c)(p:List Int): ∀(f i:Nat),i<=l.length->l.length<f+i->
  qk7 K K1 f l (l.length:Int) (i:Int) p=K (qvo p i (l.drop i)) p
 | 0,i,hi,hf=>by omega
 | f+1,i,hi,hf=>by
  show qmp (qk7 K K1 f) K K1 l _ _ p=_;unfold qmp;refine qac (fun h=> ?_) fun h=> ?_
  ·obtain⟨c,hc⟩:=qaw (b:=l) (i:=i) (by omega);rw[qci hc];obtain⟨o,k,rfl,ho,hk⟩:=hw c (zac hc);refine qa3 (by omega) hc (qam rfl (qam (qdh.2 ho.1) ?_));show cond (qa2 o p) _ _=_;rw[qdc];unfold qvo;refine qac (fun e=> ?_) fun e=> ?_
   ·rw[if_pos (show typA (mkA o k)=p from e)]
   ·rw[if_neg (show ¬typA (mkA o k)=p from e),ql0 (by omega)];exact xbgy K K1 hK l hl hw p f (i+1) (by omega) (by omega)
  ·obtain rfl:i=l.length:=by omega
   rw[hK,List.drop_of_length_le (zas _)];rfl
theorem xbpc(l:List CV)(p:List Int)(q:List CV)(hp:(qbp l&&qj2 p)=true):xbgh l p q=zR [.cl (.int .i64 (idxA p l))] [some ⟨.var [.cl (.sli .u32 p),.cl (.slg 3 q)],false⟩]:=by rw[zab] at hp;obtain⟨hl,hw,_⟩:=qau.1 hp.1;unfold xbgh idxA;rw[qab,qab];exact xbod _ _ (fun _ _=>rfl) l hl hw p q hp.2 FUEL 0 (zcf _) (by unfold FUEL;omega)
theorem xbpd(l:List CV)(p:List Int)(hp:qbp l=true):xbgi l p=zR [.cl (.int .i64 (idxA p l))] [some ⟨.var [.cl (.sli .u32 p)],false⟩]:=by obtain⟨hl,hw,_⟩:=qau.1 hp;unfold xbgi idxA;rw[qab,qab];exact xbgy _ _ (fun _=>rfl) l hl hw p FUEL 0 (zcf _) (by unfold FUEL;omega)
theorem xbwl(l:List CV)(p:List Int)(q:List CV)(hp:(qbp l&&qj2 p)=true):xbv9 l p q=zR [.cl (.bool (hasA p l))] [some ⟨.var [.cl (.sli .u32 p),.cl (.slg 3 q)],false⟩]:=by unfold hasA;refine qam hp ?_;unfold idxA;rw[qab,qab]
theorem q7e(l:List CV)(n:Nat):qvn (l.take n)<=qvn l:=by
 have:qvn l=qvn (l.take n++l.drop n):=by rw[List.take_append_drop]
 rw[this];unfold qvn;rw[List.map_append,List.sum_append];omega
theorem q63{l:List CV}(h:qbp l=true)(n:Nat):qbp (l.take n)=true:=by obtain⟨h1,h2,h3⟩:=qau.1 h;have:=q7e l n;exact qau.2 ⟨by rw[zbm];omega,fun c hc=>h2 c (zbg hc),by omega⟩
theorem xbbz(l:List CV)(hp:qbp l=true)(K0 K1:Option Out): ∀(f i:Nat),i<=l.length->l.length<f+i->((l.take i).map typA).Nodup->
  qlk K0 K1 f l l (l.length:Int) (i:Int)=cond (pT (l.map typA).Nodup) K1 K0
 | 0,i,hi,hf,_=>by omega
 | f+1,i,hi,hf,hn=>by
  obtain⟨hl,hw,_⟩:=qau.1 hp;show qmy (qlk K0 K1 f) K0 K1 l l _ _=_;unfold qmy;refine qac (fun h=> ?_) fun h=> ?_
  ·obtain⟨c,hc⟩:=qaw (b:=l) (i:=i) (by omega);have ih:=xbbz l hp K0 K1 f (i+1) (by omega) (by omega);rw[List.take_add_one,hc] at ih;obtain⟨o,k,rfl,ho,hk⟩:=hw c (zac hc);have hm:mkA o k∈l.drop i:=by rw[qci hc];simp
   refine qa3 (by omega) hc (qam rfl (qas (by omega) (qas (by omega) ?_)));rw[show Int.toNat (i:Int)=i by omega];refine qam (by rw[q63 hp];exact qdh.2 ho.1) ?_;show cond (hasA o (l.take i)) _ _=_;unfold hasA;rw[qab];refine qac (fun e=> ?_) fun e=> ?_
   ·rw[qr3]
    ·rfl
    ·intro hnd;rw[<- List.take_append_drop i l,List.map_append,List.nodup_append] at hnd;have: ¬qvo o 0 (l.take i)<0:=by omega
     refine this (xbdl.2 fun c hc e'=> ?_);exact hnd.2.2 (typA c) (List.mem_map_of_mem hc) (typA (mkA o k)) (List.mem_map_of_mem hm) e'
   ·rw[ql0 (by omega)];refine ih ?_;rw[List.map_append,List.nodup_append];refine⟨hn,by simp,fun a ha b hb=> ?_⟩;obtain⟨c,hc,rfl⟩:=za8.1 ha;have e2:=xbdl.1 (show qvo o 0 (l.take i)<0 by omega) c hc;simp at hb;rw[hb];exact e2
  ·obtain rfl:i=l.length:=by omega
   rw[zb5] at hn;rw[qfn.2 hn];rfl
theorem xbpj(l:List CV)(hp:qbp l=true):xbgl l=zB (twoA l):=by
 obtain⟨hl,_⟩:=qau.1 hp;unfold xbgl twoA;rw[qab,qab];refine(xbbz l hp _ _ FUEL 0 (zcf _) (by unfold FUEL;omega) (by simp)).trans ?_;by_cases h:(l.map typA).Nodup
 ·rw[qfn.2 h,decide_eq_false (fun e=>e h)];rfl
 ·rw[qr3 h,decide_eq_true h];rfl
open IntWalk (i64_in u8_in u32_in u64_in i64_quo u8_quo rem_in)
theorem q3x: ∀ {k:List CV},(∀v∈k,qvq v)->∃n,(∀c∈k, ∃y,c=.agg y/\isTf n y=true)/\∀m,n<=m->(k.map fun c=>qdv m (cell1 c)).sum=qkl k
 | [],_=>⟨0,by simp,fun m _=>rfl⟩
 | v::r,h=>by
  obtain⟨n,h1,h2⟩:=q3x fun c hc=>h c (za2 _ hc);obtain⟨t,b,k,rfl,hs⟩:=h v (by simp);obtain⟨m,hm,_⟩:=qcz hs;refine⟨max n m,fun c hc=> ?_,fun p hp=> ?_⟩
  ·rcases zar.1 hc with rfl|hc
   ·exact⟨_,rfl,xbby hm (by omega)⟩
   ·obtain⟨y,rfl,hy⟩:=h1 c hc;exact⟨y,rfl,xbby hy (by omega)⟩
  ·have e:=qv7 (xbby hm (show m<=p by omega)) (qef hm);have e2:=h2 p (by omega);unfold qkl at e2 ⊢;rw[zbz,zco,zbz,zco,e2];exact congrArg (· +_) e
abbrev ndC(t:Int)(b:List Int)(k:List CV):List CV:=[.int .i64 t,.sli .u8 b,.slg 3 k]
noncomputable abbrev xbc2(a:List CV):Nat:=qdv (rkOf a) a
theorem qry{t:Int}{b:List Int}{k:List CV}(hb: ∀x∈b,0<=x/\x<=255)(h: ∀v∈k,qvq v)(hB:1+b.length+qkl k<=30000):isS (ndC t b k)=true/\xbc2 (ndC t b k)=1+b.length+qkl k:=by
 obtain⟨n,h1,h2⟩:=q3x h;have ht:=xbv5 (t:=t) hb h1;have hk:qdv (n+1) (ndC t b k)=1+b.length+qkl k:=by rw[<- h2 n (zas _)];rfl
 exact⟨xbdo ht (by rw[hk];exact hB),(qv7 (qef ht) ht).trans hk⟩
theorem xbed{t:Int}{b:List Int}{k:List CV}(h:isS (ndC t b k)=true):(∀v∈k,qvq v)/\xbc2 (ndC t b k)=1+b.length+qkl k/\1+b.length+qkl k<=30000:=by
 obtain⟨n,hn,hB⟩:=qcz h;obtain⟨m,t',b',l',rfl,e,hb,hl⟩:=qcu hn;cases e;have hB':1+b.length+(k.map fun c=>qdv m (cell1 c)).sum<=30000:=hB;have hk: ∀v∈k,qvq v:=fun c hc=>by have hm:=qxn (g:=fun c=>qdv m (cell1 c)) hc;obtain⟨y,rfl,hy⟩:=hl c hc;obtain⟨_,t1,b1,k1,_,rfl,_⟩:=qcu hy;exact⟨t1,b1,k1,rfl,xbdo hy (zb7 hm (by omega))⟩
 obtain⟨n,h1,h2⟩:=q3x hk;have e:qdv (max n m+1) (ndC t b k)=qdv (m+1) (ndC t b k):=qv7 (xbby hn (by omega)) hn;have e2:qdv (max n m+1) (ndC t b k)=1+b.length+qkl k:=by rw[<- h2 (max n m) (by omega)];rfl
 exact⟨hk,((qv7 (qef hn) hn).trans e.symm).trans e2,by omega⟩
theorem flat6: ∀l:List Int,(l.flatMap qap).length<=6*l.length
 | []=>by simp
 | x::r=>by have:=qzo x;have:=flat6 r;rw[za5,zah,zag];omega
theorem xbn9{o:List Int}(hf:qbc o=true)(hr: ∀n∈o,inU n):qbq 6 (qai o)=true:=by show decide ((qc6 (qai o)).2=0)=true;rw[show qai o=qbx o from qab _,qr4 hf hr];rfl
theorem made6{o:List Int}(hr: ∀n∈o,inU n):((qce 6 (qai o)).2.2=0↔qbc o=true)/\(qce 6 (qai o)).2.1.length<=120/\∀x∈(qce 6 (qai o)).2.1,0<=x/\x<=255:=by
 have e:qai o=qbx o:=qab _
 cases hf:qbc o with
 | true=>
  rw[qqy (xbn9 hf hr)];refine⟨by simp, ?_,(q2p hr).2⟩;show(qai o).length<=120;rw[e,qfw hf];have:=flat6 (oflat o);have:=qum hf;have:=(qzm hf).2;omega
 | false=>
  have e2:qai o=[]:=by rw[e];unfold qbx;rw[hf];rfl
  rw[e2,qvl rfl];simp
theorem xbhd{o:List Int}(ho:xbb0 o):isS (ndC (qce 6 (qai o)).1 (qce 6 (qai o)).2.1 [])=true/\xbc2 (ndC (qce 6 (qai o)).1 (qce 6 (qai o)).2.1 [])<=121:=by obtain⟨_,h1,h2⟩:=made6 ho.2;have h:=qry (t:=(qce 6 (qai o)).1) (k:=[]) h2 (by simp) (by show 1+_+0<=_;omega);exact⟨h.1,by rw[h.2];show 1+_+0<=_;omega⟩
theorem quj: ∀x∈([]:List Int),0<=x/\x<=255:=by simp
theorem qwo{o:List Int}{k:List CV}(ho:xbb0 o)(hk:qjw k):isS (ndA (mkA o k))=true/\xbc2 (ndA (mkA o k))<=123+qkl k:=by
 obtain⟨a1,a2⟩:=xbhd ho;obtain⟨b1,b2⟩:=qry (t:=49) (b:=[]) quj hk.1 (by have:=hk.2;simp;omega);have hb:qkl (qvp o k)=xbc2 (ndC (qce 6 (qai o)).1 (qce 6 (qai o)).2.1 [])+xbc2 (ndC 49 [] k):=rfl;have:=hk.2;simp only[zbq] at b2;obtain⟨c1,c2⟩:=qry (t:=48) (b:=[]) (k:=qvp o k) quj (fun v hv=>by
  unfold qvp at hv;simp only[zar,zc9,or_false] at hv;rcases hv with rfl|rfl
  ·exact⟨_,_,_,rfl,a1⟩
  ·exact⟨_,_,_,rfl,b1⟩) (by simp;omega)
 refine⟨c1, ?_⟩;show xbc2 (ndC 48 [] (qvp o k))<=_;rw[c2];simp;omega
noncomputable def gIf(P:CV->Prop)(g:CV->CV)(c:CV):Option CV:=@ite _ (P c) (Classical.propDecidable _) (some (g c)) none
theorem q1m{P:CV->Prop}{g:CV->CV}{c:CV}(h:P c):gIf P g c=some (g c):=if_pos h
theorem q7z{P:CV->Prop}{g:CV->CV}{c:CV}(h: ¬P c):gIf P g c=none:=if_neg h
theorem xbf5{P:CV->Prop}{g:CV->CV}: ∀ {l:List CV},(∀c∈l,P c)->l.filterMap (gIf P g)=l.map g
 | [],_=>rfl
 | c::r,h=>by rw[zc0 (q1m (h c (by simp))),xbf5 fun c hc=>h c (by simp[hc])];rfl
theorem xbf4{P:CV->Prop}{g:CV->CV}{l:List CV}{x:List CV->Option Out}{y r:Option Out}(h1:(∀c∈l,P c)->x (l.map g)=r)(h2: ¬(∀c∈l,P c)->y=r):(if l.all (fun c=>(gIf P g c).isSome)=true then x (l.filterMap (gIf P g)) else y)=r:=by
 by_cases h: ∀c∈l,P c
 ·rw[if_pos (by rw[zaj];exact fun c hc=>by rw[q1m (h c hc)];rfl),xbf5 h];exact h1 h
 ·rw[if_neg]
  ·exact h2 h
  ·rw[zaj];intro ha;refine h fun c hc=>Classical.byContradiction fun hn=> ?_;have:=ha c hc;rw[q7z hn] at this;cases this
theorem q1b{P:CV->Prop}{g:CV->CV}{l:List CV}{L:Nat->Nat->List CV->Option Out}{bad:Option Out}{fin:List CV->Option Out}{x r:Option Out}(hl:l.length<=1000000)(hx:x=L FUEL 0 [])(hs: ∀(n i:Nat) (acc:List CV) (c:CV),i<l.length->acc.length=i->l[i]? =some c->(P c->L (n+1) i acc=L n (i+1) (acc++[g c]))/\(¬P c->L (n+1) i acc=bad))(hend: ∀(n:Nat) (acc:List CV),acc.length=l.length->L (n+1) l.length acc=fin acc)(h1:(∀c∈l,P c)->fin (l.map g)=r)(h2: ¬(∀c∈l,P c)->bad=r):x=r:=by
 refine(xbjm (f:=gIf P g) hl hx (fun n i acc c hi ha hc=> ?_) hend).trans (xbf4 (x:=fin) h1 h2);obtain⟨a1,a2⟩:=hs n i acc c hi ha hc;by_cases h:P c
 ·rw[q1m h];exact a1 h
 ·rw[q7z h];exact a2 h
theorem xbl7{P:CV->Prop}{g:CV->CV}{d:CV}{l:List CV}{L:Nat->Nat->List CV->Option Out}{bad:Option Out}{fin:List CV->Option Out}{w:Int}{x r:Option Out}(hl:l.length<=1000000)(hx:x=L FUEL 0 (List.replicate l.length d))(hs: ∀(n i:Nat) (acc:List CV) (c:CV),i<l.length->acc.length=l.length->l[i]? =some c->(P c->L (n+1) i acc=L n (i+1) (acc.set i (g c)))/\(¬P c->L (n+1) i acc=bad))(hend: ∀(n:Nat) (acc:List CV),L (n+1) l.length acc=fin acc)(h1:(∀c∈l,P c)->fin (l.map g)=r)(h2: ¬(∀c∈l,P c)->bad=r)(hw0:0<=w:=by omega)(hw:w<=100:=by omega):
  cond (decide ((0:Int)<=(l.length:Int))) (cond (decide ((l.length:Int)<=(l.length:Int))) (cond (decide ((l.length:Int)*w<=LIM)) (cond (decide ((l.length:Int)<=LIM)) x none) none) none) none=r:=by
 refine(xbrk (f:=gIf P g) (d:=d) hl hw0 hw hx (fun n i acc c hi ha hc=> ?_) hend).trans (xbf4 (x:=fin) h1 h2);obtain⟨a1,a2⟩:=hs n i acc c hi ha hc;by_cases h:P c
 ·rw[q1m h];exact a1 h
 ·rw[q7z h];exact a2 h
theorem xbjh{k:List CV}(h: ∀v∈k,qvq v):k.length<=qkl k:=by refine xbbl fun v hv=> ?_;obtain⟨t,b,q,rfl,hs⟩:=h v hv;obtain⟨n,hn,_⟩:=qcz hs;exact q7g (qef hn)
theorem qq0{k:List CV}(h:qjw k):k.length<=1800:=by have:=xbjh h.1;have:=h.2;omega
theorem xbtx(t:Int)(b:List Int)(k:List CV)(hp:true=true):xbs1 t b k=zR [.cl (.agg [.int .i64 t,.sli .u8 b,.slg 3 k]),.cl (.bool true)] []:=rfl
theorem xbrp(l:List CV):srt4 l=isort (ltK ky4) l:=by unfold srt4;rw[qab]
theorem xbrn(l:List CV):srt3 l=isort (ltK ky3) l:=by unfold srt3;rw[qab]
theorem xbwp(l:List CV)(hp:xbr2 l=true):xbvl l=zR [.cl (.slg 4 (itV l).1),.cl (.bool (itV l).2)] []:=by
 have hk:=q3y.1 hp;have hl:=qq0 hk;unfold xbvl itV;rw[qab,qab];refine room (by omega) (q1b (l:=l) (P:=fun v=>(qa7 (cell1 v)).2=0) (g:=wbV) (L:=fun f i acc=>que _ _ f acc.length l (l.length:Int) (i:Int) acc) (bad:=zR [.cl (.slg 4 []),.cl (.bool false)] []) (fin:=fun acc=>cond (rows4 acc.length acc) (zR [.cl (.slg 4 (srt4 acc)),.cl (.bool true)] []) none) (by omega) rfl (fun n i acc x hi ha hx=> ?_) (fun n acc ha=>qdt (by omega) rfl) (fun hf=> ?_) fun hf=> ?_)
 ·obtain⟨t,b,k,rfl,hs⟩:=hk.1 x (zac hx);exact⟨fun h=>qas (by omega) (qa3 (by omega) hx (qam rfl (qam hs (qtq h (q2z (A:=fun a b c=>que _ _ n a l _ b c) ha (by omega) (by omega)))))),fun h=>qas (by omega) (qa3 (by omega) hx (qam rfl (qam hs (qv8 h rfl))))⟩
 ·refine qam (qhb ⟨rfl,by rw[zam];omega,fun c hc=> ?_⟩) ?_
  ·obtain⟨v,hv,rfl⟩:=za8.1 hc;exact qhe (hk.1 v hv)
  ·rw[if_pos (show fitV l from hf),xbrp]
 ·rw[if_neg (show ¬fitV l from hf)]
theorem xbww(l:List CV)(hp:rows4 l.length l=true):xbvr l=zR [.cl (.slg 3 (thV l))] []:=by obtain⟨_,hl,hw⟩:=qa5 hp;unfold xbvr thV;rw[qab,qab];refine xbl7 (P:=fun _=>True) (g:=cut3) (L:=fun f i acc=>qz1 _ f l.length l (l.length:Int) (i:Int) acc) (bad:=none) (fin:=fun acc=>zR [.cl (.slg 3 acc)] []) (by omega) rfl (fun n i acc x hi ha hx=>⟨fun _=> ?_,fun h=>absurd trivial h⟩) (fun n acc=>qdt (by omega) rfl) (fun _=>rfl) fun h=>absurd (fun _ _=>trivial) h;obtain⟨t,b,k,w,rfl,_⟩:=hw x (zac hx);refine qas (by omega) (qa3 (by omega) hx (qam rfl (qax (by omega) (by omega) ?_)));rw[show 0+Int.toNat (i:Int)=i by omega,ql0 (by omega)];rfl
theorem xbwv(l:List CV)(hp:rows3 l.length l=true):xbvq l=zR [.cl (.slg 2 (thA l))] []:=by obtain⟨_,hl,hw⟩:=qa4 hp;unfold xbvq thA;rw[qab,qab];refine xbl7 (P:=fun _=>True) (g:=cut2) (L:=fun f i acc=>qz0 _ f l.length l (l.length:Int) (i:Int) acc) (bad:=none) (fin:=fun acc=>zR [.cl (.slg 2 acc)] []) (by omega) rfl (fun n i acc x hi ha hx=>⟨fun _=> ?_,fun h=>absurd trivial h⟩) (fun n acc=>qdt (by omega) rfl) (fun _=>rfl) fun h=>absurd (fun _ _=>trivial) h;obtain⟨o,k,w,rfl,_⟩:=hw x (zac hx);refine qas (by omega) (qa3 (by omega) hx (qam rfl (qax (by omega) (by omega) ?_)));rw[show 0+Int.toNat (i:Int)=i by omega,ql0 (by omega)];rfl
theorem xbwg{k:List CV}(h: ∀v∈k,qvq v): ∀c∈isort (ltK ky4) (k.map wbV),W4A c:=fun c hc=>by obtain⟨v,hv,rfl⟩:=za8.1 (qgu.1 hc);exact qhe (h v hv)
theorem xbws(o:List Int)(k:List CV)(hp:at1Ok o k=true):xbvn o k=zR [.cl (.agg [.sli .u32 o,.slg 3 (ordV k)]),.cl (.bool (xbky o k))] []:=by
 obtain⟨ho,hk⟩:=qcn.1 hp;have hl:=qq0 hk;unfold xbvn ordV qop xbky itV thV;simp only[qab];refine qam (q3y.2 hk) (qam (qdh.2 ho.1) ?_);by_cases hf:fitV k
 ·simp only[if_pos hf];refine qam (qhb ⟨rfl,by rw[qc5,zam];omega,xbwg hk.1⟩) ?_;show cond (decide ((0:Int)<(((isort (ltK ky4) (k.map wbV)).length:Nat):Int))) _ _=_;rw[qc5,zam];unfold qg6;rw[qab];refine qac (fun h=> ?_) fun h=> ?_
  ·cases he:qbc o with
   | true=>rw[qfn.2 ⟨hf,by omega,he⟩]
   | false=>rw[qr3 fun h'=>by rw[h'.2.2] at he;cases he]
  ·rw[qr3 fun h'=>h (by have:=h'.2.1;omega)]
 ·simp only[if_neg hf];refine qam (qhb ⟨rfl,by simp,by simp⟩) ?_;rw[qr3 fun h'=>hf h'.1];rfl
theorem nTNd(o:List Int)(k:List CV)(hp:at1Ok o k=true):gTNd o k=zR [.cl (.agg [.int .i64 48,.sli .u8 qbv,.slg 3 (qq5 o k)]),.cl (.bool (xbml o))] []:=by obtain⟨ho,hk⟩:=qcn.1 hp;unfold gTNd qq5 xbml qvp;simp only[qab,qg5];exact qam (q8p (by have:=ho.1;omega) ho.2) (qam (qt8 (by simp)) rfl)
theorem xbr3{o:List Int}{k:List CV}(ho:xbb0 o)(hk:qjw k):W3A (wbA (mkA o k)):=by have hs:=(qwo ho hk).1;obtain⟨t,b,q,w,e,hw⟩:=qhe (c:=.agg (ndA (mkA o k))) ⟨_,_,_,rfl,hs⟩;have e:CV.agg [.int .i64 48,.sli .u8 [],.slg 3 (qvp o k),.sli .u8 (qa7 (ndA (mkA o k))).1]=.agg [.int .i64 t,.sli .u8 b,.slg 3 q,.sli .u8 w]:=e;simp only[CV.agg.injEq,zbk,CV.sli.injEq,true_and,and_true] at e;exact⟨o,k,_,rfl,by rw[e.2.2.2];exact hw⟩
theorem xbwo(l:List CV)(hp:qbp l=true):xbvk l=zR [.cl (.slg 3 (itA l).1),.cl (.bool (itA l).2)] []:=by
 obtain⟨hl,hW,_⟩:=qau.1 hp;unfold xbvk itA;rw[qab,qab];refine room (by omega) (q1b (l:=l) (P:=fun c=>(qce 6 (qai (typA c))).2.2=0/\(qa7 (ndA c)).2=0) (g:=wbA) (L:=fun f i acc=>qud _ _ f acc.length l (l.length:Int) (i:Int) acc) (bad:=zR [.cl (.slg 3 []),.cl (.bool false)] []) (fin:=fun acc=>cond (rows3 acc.length acc) (zR [.cl (.slg 3 (srt3 acc)),.cl (.bool true)] []) none) (by omega) rfl (fun n i acc x hi ha hx=> ?_) (fun n acc ha=>qdt (by omega) rfl) (fun hf=> ?_) fun hf=> ?_)
 ·obtain⟨o,k,rfl,ho,hk⟩:=hW x (zac hx);have hs:=(qwo ho hk).1;have st: ∀ {X Y R:Option Out},(((qce 6 (qai o)).2.2=0/\(qa7 (ndA (mkA o k))).2=0)->Y=R)->(¬((qce 6 (qai o)).2.2=0/\(qa7 (ndA (mkA o k))).2=0)->X=R)->cond (isS (ndC 48 qbv (qq5 o k))) (cond (!xbml o) X (cond (!decide ((qa7 (ndC 48 qbv (qq5 o k))).2=0)) X Y)) none=R:=fun h1 h2=>by rw[qdn,show qq5 o k=qvp o k from qab _,show xbml o=decide ((qce 6 (qai o)).2.2=0) from qab _];exact qam hs (qbb (fun h=>h2 fun e=>h e.1) fun h=>qbb (fun h'=>h2 fun e=>h' e.2) fun h'=>h1 ⟨h,h'⟩)
  refine⟨fun h=>qas (by omega) (qa3 (by omega) hx (qam rfl (qam (qcn.2 ⟨ho,hk⟩) (st (fun _=> ?_) fun h'=>absurd h h')))),fun h=>qas (by omega) (qa3 (by omega) hx (qam rfl (qam (qcn.2 ⟨ho,hk⟩) (st (fun h'=>absurd h' h) fun _=>rfl))))⟩;dsimp only;rw[qdn,show qq5 (qa8 ((cell1 (mkA o k)).headD .nili)) (qc3 ((cell1 (mkA o k)).tail.headD .nili))=qvp o k from qab _];exact q2z (A:=fun a b c=>qud _ _ n a l _ b c) ha (by omega) (by omega)
 ·refine qam (qip ⟨rfl,by rw[zam];omega,fun c hc=> ?_⟩) ?_
  ·obtain⟨v,hv,rfl⟩:=za8.1 hc;obtain⟨o,k,rfl,ho,hk⟩:=hW v hv;exact xbr3 ho hk
  ·rw[if_pos (show fitA l from hf),xbrn]
 ·rw[if_neg (show ¬fitA l from hf)]
theorem xbwk(l:List CV)(g:Int)(hp:qbp l=true):xbvi l g=zR [.cl (.agg [.int .i64 g,.sli .u8 qbv,.slg 3 (xbmu l)])] []:=by obtain⟨hl,hW,_⟩:=qau.1 hp;unfold xbvi xbmu boxA;rw[qab,qab,qdn];refine q1b (l:=l) (P:=fun _=>True) (g:=fun c=>.agg (ndA c)) (L:=fun f i acc=>qua _ f l (l.length:Int) (i:Int) g acc.length acc) (bad:=none) (fin:=fun acc=>zR [.cl (.agg [.int .i64 g,.sli .u8 [],.slg 3 acc])] []) (by omega) rfl (fun n i acc x hi ha hx=>⟨fun _=> ?_,fun h=>absurd trivial h⟩) (fun n acc ha=>qdt (by omega) rfl) (fun _=>rfl) fun h=>absurd (fun _ _=>trivial) h;obtain⟨o,k,rfl,ho,hk⟩:=hW x (zac hx);refine qas (by omega) (qa3 (by omega) hx (qam rfl (qam (qcn.2 ⟨ho,hk⟩) ?_)));dsimp only;rw[qdn,show qq5 (qa8 ((cell1 (mkA o k)).headD .nili)) (qc3 ((cell1 (mkA o k)).tail.headD .nili))=qvp o k from qab _];exact q2z (A:=fun a b c=>qua _ n l _ b g a c) ha (by omega) (by omega)
section
variable {α β:Type} {lt:α->α->Bool} {lt':β->β->Bool}
theorem q1t{x:α}: ∀ {l:List α},(ins lt x l).Perm (x::l)
 | []=>.refl _
 | z::r=>by
  unfold ins;split
  ·exact((q1t).cons z).trans (.swap ..)
  ·exact .refl _
theorem qpl: ∀ {l:List α},(isort lt l).Perm l
 | []=>.refl _
 | x::r=>q1t.trans (qpl.cons x)
theorem qzt: ∀ {l:List α},Srt lt l->isort lt l=l
 | [],_=>rfl
 | [x],_=>rfl
 | x::z::r,h=>by obtain⟨h1,h2⟩:=List.pairwise_cons.1 h;show ins lt x (isort lt (z::r))=_;rw[qzt h2];unfold ins;rw[if_neg (by rw[h1 z (by simp)];simp)]
theorem xbg3(g:α->β){x:α}: ∀ {l:List α},(∀z∈l,lt' (g z) (g x)=lt z x)->ins lt' (g x) (l.map g)=(ins lt x l).map g
 | [],_=>rfl
 | z::r,h=>by
  rw[zbz];unfold ins;rw[h z (by simp)];by_cases e:lt z x=true
  ·rw[if_pos e,if_pos e,xbg3 g fun c hc=>h c (by simp[hc])];rfl
  ·rw[if_neg e,if_neg e];rfl
theorem q1z(g:α->β): ∀ {l:List α},(∀x∈l, ∀y∈l,lt' (g x) (g y)=lt x y)->isort lt' (l.map g)=(isort lt l).map g
 | [],_=>rfl
 | x::r,h=>by show ins lt' (g x) (isort lt' (r.map g))=(ins lt x (isort lt r)).map g;rw[q1z g fun a ha b hb=>h a (by simp[ha]) b (by simp[hb]),xbg3 g fun z hz=>h z (by simp[qgu.1 hz]) x (by simp)]
theorem qmd{f:α->β}{g:β->α}{l:List α}(h: ∀c∈l,g (f c)=c):(l.map f).map g=l:=by rw[zcg];exact(zby h).trans (List.map_id l)
end
theorem xbfw{v:CV}(h:qvq v):cut3 (wbV v)=v:=by obtain⟨t,b,k,rfl,_⟩:=h;rfl
theorem xbfv{c:CV}(h:WA c):cut2 (wbA c)=c:=by obtain⟨o,k,rfl,_⟩:=h;rfl
theorem xbr5{k:List CV}(h: ∀v∈k,qvq v): ∀c∈isort (ltK ky4) (k.map wbV),wbV (cut3 c)=c:=fun c hc=>by obtain⟨v,hv,rfl⟩:=za8.1 (qgu.1 hc);rw[xbfw (h v hv)]
theorem xbr4{l:List CV}(h: ∀c∈l,WA c): ∀c∈isort (ltK ky3) (l.map wbA),wbA (cut2 c)=c:=fun c hc=>by obtain⟨v,hv,rfl⟩:=za8.1 (qgu.1 hc);rw[xbfv (h v hv)]
theorem qjk{k:List CV}(hf:fitV k):qop k=(isort (ltK ky4) (k.map wbV)).map cut3:=by unfold qop;rw[if_pos hf]
theorem xbei{k:List CV}(hf: ¬fitV k):qop k=[]:=by unfold qop;rw[if_neg hf]
theorem qqb{k:List CV}(h: ∀v∈k,qvq v)(hf:fitV k):(qop k).Perm k:=by rw[qjk hf];refine(qpl.map cut3).trans ?_;rw[qmd fun c hc=>xbfw (h c hc)]
theorem qor{l:List CV}(h: ∀c∈l,WA c):(srtA l).Perm l:=by unfold srtA;refine(qpl.map cut2).trans ?_;rw[qmd fun c hc=>xbfv (h c hc)]
theorem q7f{k q:List CV}(h:k.Perm q):qkl k=qkl q:=List.Perm.sum_nat (h.map _)
theorem q7d{k q:List CV}(h:k.Perm q):qvn k=qvn q:=List.Perm.sum_nat (h.map _)
theorem xbb5{k:List CV}(h:qjw k):qjw (qop k)/\qkl (qop k)<=qkl k:=by
 by_cases hf:fitV k
 ·have hq:=qqb h.1 hf;have:=q7f hq;exact⟨⟨fun v hv=>h.1 v (hq.mem_iff.1 hv),by have:=h.2;omega⟩,by omega⟩
 ·rw[xbei hf];exact⟨⟨by simp,by show 0<=_;omega⟩,by show 0<=_;omega⟩
theorem xbhn(o:List Int)(k:List CV):ordA (mkA o k)=mkA o (qop k):=rfl
theorem xbsr{c:CV}(h:WA c):WA (ordA c):=by obtain⟨o,k,rfl,ho,hk⟩:=h;exact⟨o,_,rfl,ho,(xbb5 hk).1⟩
theorem q06: ∀ {l:List CV},(∀c∈l,WA c)->qvn (l.map ordA)<=qvn l
 | [],_=>zas _
 | c::r,h=>by have ih:=q06 fun c hc=>h c (za2 _ hc);obtain⟨o,k,rfl,ho,hk⟩:=h c (by simp);have:=(xbb5 hk).2;unfold qvn at ih ⊢;rw[zbz,zbz,zco,zbz,zco];have e1:qkl (qjv (ordA (mkA o k)))=qkl (qop k):=rfl;have e2:qkl (qjv (mkA o k))=qkl k:=rfl;omega
theorem qri{l:List CV}(h:qbp l=true):qbp (l.map ordA)=true:=by obtain⟨h1,h2,h3⟩:=qau.1 h;refine qau.2 ⟨by rw[zam];exact h1,fun c hc=> ?_,zb7 (q06 h2) h3⟩;obtain⟨v,hv,rfl⟩:=za8.1 hc;exact xbsr (h2 v hv)
theorem xbjb{l q:List CV}(p:q.Perm l)(h:qbp l=true):qbp q=true:=by obtain⟨h1,h2,h3⟩:=qau.1 h;exact qau.2 ⟨by rw[p.length_eq];exact h1,fun c hc=>h2 c (p.mem_iff.1 hc),by rw[q7d p];exact h3⟩
theorem q64{l:List CV}(h:qbp l=true):qbp (srtA l)=true:=xbjb (qor (qau.1 h).2.1) h
theorem xbja{l:List CV}(h:qbp l=true):qbp (srtA (l.map ordA))=true:=q64 (qri h)
theorem xbfp{l:List CV}(h: ∀c∈l,WA c): ∀v∈boxA l,qvq v:=fun v hv=>by obtain⟨c,hc,rfl⟩:=za8.1 hv;obtain⟨o,k,rfl,ho,hk⟩:=h c hc;exact⟨_,_,_,rfl,(qwo ho hk).1⟩
theorem q05: ∀ {l:List CV},(∀c∈l,WA c)->qkl (boxA l)<=123*l.length+qvn l
 | [],_=>zas _
 | c::r,h=>by have ih:=q05 fun c hc=>h c (za2 _ hc);obtain⟨o,k,rfl,ho,hk⟩:=h c (by simp);have e:=(qwo ho hk).2;unfold qkl boxA qvn at ih ⊢;rw[zbz,zbz,zco,zbz,zco,zag];have e1:qdv (rkOf (cell1 (.agg (ndA (mkA o k))))) (cell1 (.agg (ndA (mkA o k))))=xbc2 (ndA (mkA o k)):=rfl;have e2:qkl (qjv (mkA o k))=qkl k:=rfl;omega
theorem xbfq{l:List CV}(g:Int)(h:qbp l=true)(hl:l.length<=20):isS (ndC g [] (boxA l))=true:=by obtain⟨_,h2,h3⟩:=qau.1 h;have:=q05 h2;exact(qry quj (xbfp h2) (by simp;omega)).1
theorem q9p{k:List CV}(h: ∀v∈k,qvq v)(hf:fitV k):fitV (qop k)/\qop (qop k)=qop k:=by have hp:=qqb h hf;have hf2:fitV (qop k):=fun v hv=>hf v (hp.mem_iff.1 hv);refine⟨hf2, ?_⟩;rw[qjk hf2,qjk hf,qmd (xbr5 h),qzt (qfa (qd8 ky4).toPre2 (qd8 ky4).irr _)]
theorem xbfc{l:List CV}(h: ∀c∈l,WA c):srtA (srtA l)=srtA l:=by unfold srtA;rw[qmd (xbr4 h),qzt (qfa (qd8 ky3).toPre2 (qd8 ky3).irr _)]
theorem xbeh{c:CV}(h:WA c)(hb:ordB (typA c) (qjv c)):ordA (ordA c)=ordA c/\ordB (typA (ordA c)) (qjv (ordA c)):=by obtain⟨o,k,rfl,ho,hk⟩:=h;have hb:ordB o k:=hb;obtain⟨h1,h2⟩:=q9p hk.1 hb.1;rw[xbhn,xbhn,h2];exact⟨rfl,h1,by have:=(qqb hk.1 hb.1).length_eq;show 0<(qop k).length;have:=hb.2.1;omega,hb.2.2⟩
theorem xbkc{α:Type}{f:α->α}{l:List α}(h: ∀c∈l,f c=c):l.map f=l:=(zby h).trans (List.map_id l)
theorem xbn6{l:List CV}(h:qbp l=true)(hg:xbcq l):okA (srtA (l.map ordA)):=by
 obtain⟨_,hW,_⟩:=qau.1 h;obtain⟨_,hW2,_⟩:=qau.1 (qri h);obtain⟨g1,g2,g3,g4,g5⟩:=hg;have hp:=qor hW2;have hm: ∀c∈srtA (l.map ordA),ordA c=c/\ordB (typA c) (qjv c):=fun c hc=>by obtain⟨d,hd,rfl⟩:=za8.1 (hp.mem_iff.1 hc);exact xbeh (hW d hd) (g3 d hd)
 have e:=xbkc fun c hc=>(hm c hc).1;have hs:srtA (srtA (l.map ordA))=srtA (l.map ordA):=xbfc hW2;refine⟨⟨?_, ?_,fun c hc=>(hm c hc).2, ?_, ?_⟩, ?_⟩
 ·rw[hp.length_eq,zam];exact g1
 ·refine(hp.map typA).nodup_iff.2 ?_;rw[zcg];exact g2
 ·rw[e];exact fun c hc=>g4 c (hp.mem_iff.1 hc)
 ·rw[e,hs];exact g5
 ·rw[e,hs]
open IntWalk (i64_in u8_in u32_in u64_in i64_quo u8_quo rem_in)
theorem xbsc{l:List CV}(h:xbcq l):qd4 l=(srtA (l.map ordA),0):=by unfold qd4 q62;rw[qab,if_pos h]
theorem xbsb{l:List CV}(h: ¬xbcq l):qd4 l=([],1):=by unfold qd4 q62;rw[qab,if_neg h]
theorem xbop{l:List CV}(h:qbp l=true):qbp (qd4 l).1=true:=by
 by_cases hg:xbcq l
 ·rw[xbsc hg];exact xbja h
 ·rw[xbsb hg];exact qau.2 ⟨by simp,by simp,by show 0<=_;omega⟩
theorem xbj2{l:List CV}(h: ∀c∈l,WA c): ∀c∈isort (ltK ky3) (l.map wbA),W3A c:=fun c hc=>by obtain⟨v,hv,rfl⟩:=za8.1 (qgu.1 hc);obtain⟨o,k,rfl,ho,hk⟩:=h v hv;exact xbr3 ho hk
theorem xbtw(l:List CV)(hp:qbp l=true):xbnr l=zR [.cl (.slg 2 (qd4 l).1),.cl (.int .i64 (qd4 l).2)] []:=by
 obtain⟨hl,hW,_⟩:=qau.1 hp;have bad: ¬xbcq l->zR [.cl (.slg 2 []),.cl (.int .i64 1)] []=zR [.cl (.slg 2 (qd4 l).1),.cl (.int .i64 (qd4 l).2)] []:=fun h=>by rw[xbsb h]
 unfold xbnr twoA;simp only[qab];refine qac (fun h=>bad fun hg=>by have:=hg.1.1;omega) fun h=>qac (fun h2=>bad fun hg=>by have:=hg.1.2;omega) fun h2=>qam hp (qac (fun h3=>bad fun hg=>h3 hg.2.1) fun h3=> ?_);refine xbl7 (P:=fun c=>ordB (typA c) (qjv c)) (g:=ordA) (L:=fun f i acc=>quf _ _ f l.length l (l.length:Int) (i:Int) acc) (by omega) rfl (fun n i acc x hi ha hx=> ?_) (fun n acc=>qdt (by omega) rfl) (fun hf=> ?_) fun hf=>bad fun hg=>hf hg.2.2.1
 ·obtain⟨o,k,rfl,ho,hk⟩:=hW x (zac hx);have e0:xbky o k=pT (ordB o k):=qab _;refine⟨fun h=>qas (by omega) (qa3 (by omega) hx (qam rfl (qam (qcn.2 ⟨ho,hk⟩) ?_))),fun h=>qas (by omega) (qa3 (by omega) hx (qam rfl (qam (qcn.2 ⟨ho,hk⟩) ?_)))⟩
  ·show cond (!xbky o k) _ (idxK (i:Int) l.length fun _=>_)=_;rw[e0,qfn.2 (show ordB o k from h)];refine q66 rfl (qax (by omega) (by omega) ?_);dsimp only;rw[show 0+Int.toNat (i:Int)=i by omega,ql0 (by omega),show ordV (qc3 ((cell1 (mkA o k)).tail.headD .nili))=qop k from qab _];rfl
  ·show cond (!xbky o k) _ _=_;rw[e0,qr3 (show ¬ordB o k from h)];rfl
 ·have hq:=qri hp;obtain⟨hl2,hW2,_⟩:=qau.1 hq;refine qam hq ?_;unfold itA thA xbmu;simp only[qab,qdn];by_cases hf2:fitA (l.map ordA)
  ·simp only[if_pos hf2];have hr:rows3 (isort (ltK ky3) ((l.map ordA).map wbA)).length (isort (ltK ky3) ((l.map ordA).map wbA))=true:=qip ⟨rfl,by rw[qc5,zam];omega,xbj2 hW2⟩;have hs:=xbfq 49 (q64 hq) (by rw[(qor hW2).length_eq,zam];omega);refine q66 rfl (qam hr (qam (q64 hq) (qam hs ?_)));show cond (!qra (ndC 49 [] (boxA (srtA (l.map ordA))))) _ _=_
   cases hfit:qra (ndC 49 [] (boxA (srtA (l.map ordA)))) with
   | true=>
    rw[xbsc ⟨by omega,Classical.not_not.1 h3,hf,hf2,hfit⟩];exact q66 rfl (qam hr rfl)
   | false=>exact bad fun hg=>by rw[show qra (ndC 49 [] (boxA (srtA (l.map ordA))))=true from hg.2.2.2.2] at hfit;cases hfit
  ·simp only[if_neg hf2];exact bad fun hg=>hf2 hg.2.2.2.1
theorem q3w{k:List CV}(h:qjw k):isNs k=true:=by obtain⟨n,h1,h2⟩:=q3x h.1;have e:=h2 n (zas _);have:=qq0 h;refine xbg7 (n:=n) (by omega) fun c hc=> ?_;have hm:=qxn (g:=fun c=>qdv n (cell1 c)) hc;obtain⟨y,rfl,hy⟩:=h1 c hc;have:=h.2;exact⟨y,rfl,qz5 hy (zb7 hm (by omega))⟩
theorem qkq(a b:List CV):qfi a b=pT (a=b):=qab _
theorem xbwu(o:List Int)(k:List CV)(p:List Int)(q:List CV)(hp:(at1Ok o k&&at1Ok p q)=true):xbvp o k p q=zB (qfi [mkA o k] [mkA p q]):=by
 rw[zab] at hp;obtain⟨ho,hk⟩:=qcn.1 hp.1;obtain⟨hp2,hq⟩:=qcn.1 hp.2;unfold xbvp;rw[qkq,qdc];refine qam (qdh.2 ho.1) (qac (fun e=>qam (by rw[q3w hk,q3w hq];rfl) ?_) fun e=> ?_)
 ·subst e;by_cases e:k=q
  ·subst e;rw[qfn.2 rfl,qg3.2 rfl]
  ·rw[qr3 (by simp[e]),qnv.2 e]
 ·rw[qr3 (by simp[e])]
theorem q3e{a b:List CV}{x:Option Out}(h:x=cond (pT (a=b)) (zB true) (zB false)):x=zB (qfi a b):=by rw[h,qkq];cases pT (a=b)<;>rfl
theorem xbwm(a b:List CV)(hp:(qbp a&&qbp b)=true):xbvj a b=zB (qfi a b):=by
 rw[zab] at hp;obtain⟨hl,hW,_⟩:=qau.1 hp.1;obtain⟨hl2,hW2,_⟩:=qau.1 hp.2;unfold xbvj;rw[qab];have st: ∀ {o p:List Int} {k q:List CV} {X Y:Option Out},WA (mkA o k)->WA (mkA p q)->cond (at1Ok o k&&at1Ok p q) (cond (!qfi [mkA o k] [mkA p q]) X Y) none=cond (pT (mkA o k=mkA p q)) Y X:=fun {o p k q X Y} h1 h2=>by obtain⟨_,_,e1,a1,a2⟩:=h1;obtain⟨_,_,e2,b1,b2⟩:=h2;cases e1;cases e2;rw[qcn.2 ⟨a1,a2⟩,qcn.2 ⟨b1,b2⟩,qkq,xbsd (show([mkA o k]=[mkA p q])↔(mkA o k=mkA p q) by simp)];cases pT (mkA o k=mkA p q)<;>rfl
 refine q3e (qu9 (L:=fun f i=>qzy _ _ f b a (a.length:Int) (i:Int)) rfl (by omega) (fun n i x hi hx hy=> ?_) (fun n i x y hi hx hy hne=> ?_) fun n=> ?_)
 ·have h1:=hW x (zac hx);obtain⟨o,k,rfl,ho,hk⟩:=h1;refine qas (by omega) (qa3 (by omega) hx (qam rfl (qa3 (by omega) hy (qam rfl ((st ⟨o,k,rfl,ho,hk⟩ ⟨o,k,rfl,ho,hk⟩).trans ?_)))));rw[qfn.2 rfl,ql0 (by omega)];rfl
 ·have h1:=hW x (zac hx);have h2:=hW2 y (zac hy);obtain⟨o,k,rfl,ho,hk⟩:=h1;obtain⟨p,q,rfl,hp2,hq⟩:=h2;refine qas (by omega) (qa3 (by omega) hx (qam rfl (qa3 (by omega) hy (qam rfl ((st ⟨o,k,rfl,ho,hk⟩ ⟨p,q,rfl,hp2,hq⟩).trans ?_)))));rw[qr3 hne];rfl
 ·exact qdt (by omega) rfl
theorem xbt0(a b:List CV)(hp:(qbp a&&qbp b)=true):xbs2 a b=zB (qfi a b):=qam hp rfl
theorem xbc8(l:List CV):q61 l=pT (okA l):=qab _
theorem xbvd{l:List CV}{g:Option Out}(hp:qbp l=true)(h:g=cond (qbp l) (cond (decide ((qd4 l).2=0)) (cond (qbp l&&qbp (qd4 l).1) (zB (qfi l (qd4 l).1)) none) (zB false)) none):g=zB (q61 l):=by
 rw[h,xbc8];refine qam hp ?_;by_cases hg:xbcq l
 ·have hm:=xbop hp;rw[xbsc hg] at hm ⊢;refine qas rfl (qam (by rw[hp,hm];rfl) ?_);rw[qkq,xbsd (show l=srtA (l.map ordA)↔okA l from⟨fun e=>⟨hg,e⟩,fun e=>e.2⟩)]
 ·rw[xbsb hg];refine qdt (by simp) ?_;rw[qr3 fun e=>hg e.1]
theorem xbwn(l:List CV)(hp:qbp l=true):xbwa l=zB (q61 l):=xbvd hp rfl
theorem xbb4{g t:Int}{b:List Int}{k:List CV}(hg:g=48\/g=49):xbcs g t b k=if t=g/\b=[] then(k,0) else([],if t=g then 5 else 4):=by
 have hb:qa0 g=true:=decide_eq_true (by omega);by_cases h:t=g
 ·by_cases h2:b=[]
  ·rw[if_pos ⟨h,h2⟩,xbr0 h hb (by rw[h2];simp)]
  ·rw[if_neg (fun e=>h2 e.2),if_pos h,xbrz h hb (fun e=>h2 (zal e))]
 ·rw[if_neg (fun e=>h e.1),if_neg h,xbfi h]
theorem q65{t:Int}{b:List Int}{k:List CV}(h:(qeu t b k).2.2=true):t=48/\b=[]/\∃t0 b0 k0 k1,k=[.agg (ndC t0 b0 k0),.agg (ndC 49 [] k1)]/\(qnj t0 b0 k0).2=0/\qeu t b k=((qnj t0 b0 k0).1,k1,true):=by
 by_cases hb:t=48/\b=[]
 ·obtain⟨rfl,rfl⟩:=hb;refine⟨rfl,rfl, ?_⟩;unfold qeu at h ⊢;rw[if_pos ⟨rfl,rfl⟩] at h ⊢;split at h
  ·rename_i t0 b0 k0 t1 b1 k1;by_cases h0:(qnj t0 b0 k0).2=0
   ·rw[if_pos h0] at h;have h:(xbcs 49 t1 b1 k1).2=0:=of_decide_eq_true h;by_cases h2:t1=49/\b1=[]
    ·obtain⟨rfl,rfl⟩:=h2;refine⟨t0,b0,k0,k1,rfl,h0, ?_⟩;simp only[if_pos h0];rw[xbb4 (.inr rfl),if_pos ⟨rfl,rfl⟩];rfl
    ·rw[xbb4 (.inr rfl),if_neg h2] at h;have h:(if t1=49 then(5:Int) else 4)=0:=h;split at h<;>omega
   ·rw[if_neg h0] at h;cases h
  ·cases h
 ·unfold qeu at h;rw[if_neg hb] at h;cases h
theorem xbmx{c d:CV}(hn:qvq c)(h:xbjc c=some d): ∃t0 b0 k0 k1,c=.agg (ndC 48 [] [.agg (ndC t0 b0 k0),.agg (ndC 49 [] k1)])/\(qnj t0 b0 k0).2=0/\d=mkA (qnj t0 b0 k0).1 k1:=by
 obtain⟨t,b,k,rfl,_⟩:=hn;have h:(if(qeu t b k).2.2=true then some (mkA (qeu t b k).1 (qeu t b k).2.1) else none)=some d:=h;split at h
 ·rename_i hx;obtain⟨rfl,rfl,t0,b0,k0,k1,rfl,h0,e⟩:=q65 hx;rw[e] at h;cases h;exact⟨t0,b0,k0,k1,rfl,h0,rfl⟩
 ·cases h
theorem xbmw{t0:Int}{b0:List Int}{k0 k1:List CV}(h:(qnj t0 b0 k0).2=0):xbjc (.agg (ndC 48 [] [.agg (ndC t0 b0 k0),.agg (ndC 49 [] k1)]))=some (mkA (qnj t0 b0 k0).1 k1):=by
 show(if(qeu 48 [] [.agg (ndC t0 b0 k0),.agg (ndC 49 [] k1)]).2.2=true then some (mkA (qeu 48 [] [.agg (ndC t0 b0 k0),.agg (ndC 49 [] k1)]).1 (qeu 48 [] [.agg (ndC t0 b0 k0),.agg (ndC 49 [] k1)]).2.1) else none)=_;have e:qeu 48 [] [.agg (ndC t0 b0 k0),.agg (ndC 49 [] k1)]=((qnj t0 b0 k0).1,k1,true):=by unfold qeu;rw[if_pos ⟨rfl,rfl⟩];simp only[if_pos h];rw[xbb4 (.inr rfl),if_pos ⟨rfl,rfl⟩];rfl
 rw[e];rfl
theorem xboa{t:Int}{b:List Int}{k:List CV}(hs:isS (ndC t b k)=true)(h:(qnj t b k).2=0):xbb0 (qnj t b k).1/\(qnj t b k).1.length<=20/\qce 6 (qai (qnj t b k).1)=(t,b,0)/\k=[]:=by
 have h1:qxp 6 t b k=0:=Classical.byContradiction fun e=>by unfold qnj at h;rw[qab,if_neg e] at h;exact e h
 have e:qnj t b k=qb7 b:=by unfold qnj;rw[qab,if_pos h1]
 have ht:t=6:=Classical.byContradiction fun e=>by rw[xbb3 e] at h1;cases h1
 have hk:k=[]:=Classical.byContradiction fun e=>by rw[q3v ht (List.length_pos_iff.2 e)] at h1;cases h1
 rw[e] at h ⊢;have e2:qb7 b=qc6 b:=qab _;rw[e2] at h ⊢;rcases q4u (q8w hs) with h2|⟨o,h2,hf,hr,hb⟩
 ·rw[h2] at h;cases h
 ·rw[h2];have:=(qzm hf).2;refine⟨⟨by show o.length<=_;omega,hr⟩,this, ?_,hk⟩;rw[qqy (xbn9 hf hr),ht,show qai o=qbx o from qab _,hb]
theorem xbjd{c d:CV}(hc:qvq c)(h:xbjc c=some d):c=.agg (ndA d)/\d=xbmp c/\(qjw (qjv d)->WA d):=by obtain⟨t0,b0,k0,k1,rfl,h0,rfl⟩:=xbmx hc h;obtain⟨_,_,_,e,hs⟩:=hc;cases e;have hk:=(xbed hs).1;obtain⟨_,_,_,e,s0⟩:=hk _ (zbu ..);cases e;obtain⟨h1,_,h2,rfl⟩:=xboa s0 h0;refine⟨?_,rfl,fun hv=>⟨_,k1,rfl,h1,hv⟩⟩;show CV.agg (ndC 48 [] [.agg (ndC t0 b0 []),.agg (ndC 49 [] k1)])=.agg [.int .i64 48,.sli .u8 [],.slg 3 (qvp (qnj t0 b0 []).1 k1)];unfold qvp;rw[h2]
theorem q7c{c:CV}(h:WA c)(hf:(qce 6 (qai (typA c))).2.2=0):xbjc (.agg (ndA c))=some c:=by obtain⟨o,k,rfl,ho,hk⟩:=h;have hb:=xbn8 (o:=o) ho.2 hf;rw[qg5] at hb;have:=xbmw (t0:=(qce 6 (qai o)).1) (b0:=(qce 6 (qai o)).2.1) (k0:=[]) (k1:=k) (by rw[hb]);rw[hb] at this;exact this
theorem xbm8{α β:Type}{f:α->Option β}{g:α->β}: ∀ {l:List α},(∀c∈l,f c=some (g c))->l.filterMap f=l.map g
 | [],_=>rfl
 | c::r,h=>by rw[zc0 (h c (by simp)),xbm8 fun c hc=>h c (by simp[hc])];rfl
open IntWalk (i64_in u8_in u32_in u64_in i64_quo u8_quo rem_in)
abbrev hasT(o:List Int)(c:CV):Bool:=decide (typA c=o)
theorem xbpx{l:List CV}{o:List Int}(h: ¬okA l):qo6 l o=((0,[],[]),1):=by unfold qo6 xbhj;rw[qab,if_neg h];rfl
theorem q9o{l:List CV}{o:List Int}(h:okA l)(hn:l.find? (hasT o)=none):qo6 l o=((0,[],[]),18):=by unfold qo6 xbhj;rw[qab,if_pos h,hn];rfl
theorem xbkv{l:List CV}{o:List Int}{c:CV}(h:okA l)(hn:l.find? (hasT o)=some c)(hm:1<(qjv c).length):qo6 l o=((0,[],[]),24):=by unfold qo6 xbhj;rw[qab,if_pos h,hn];simp only[if_pos hm];rfl
theorem xbhl{l:List CV}{o:List Int}{c:CV}{t:Int}{b:List Int}{k r:List CV}(h:okA l)(hn:l.find? (hasT o)=some c)(hm: ¬1<(qjv c).length)(hv:qjv c=.agg (ndC t b k)::r):qo6 l o=((t,b,k),0):=by unfold qo6 xbhj;rw[qab,if_pos h,hn];simp only[if_neg hm];rw[hv];rfl
theorem xbpw{l:List CV}(hk:okA l){c:CV}(hc:c∈l):0<(qjv c).length:=(hk.1.2.2.1 c hc).2.1
noncomputable abbrev q0b(l:List CV)(o:List Int):Option Out:=zR [.cl (.agg [.int .i64 (qo6 l o).1.1,.sli .u8 (qo6 l o).1.2.1,.slg 3 (qo6 l o).1.2.2]),.cl (.int .i64 (qo6 l o).2)] []
abbrev xbsg(e:Int):Option Out:=zR [.cl (.agg [.int .i64 0,.sli .u8 [],.slg 3 []]),.cl (.int .i64 e)] []
theorem xbef{l:List CV}{o p:List Int}{k:List CV}(hk:okA l)(ho:l.find? (hasT o)=some (mkA p k))(hv:qjw k):(1<k.length->xbsg 24=q0b l o)/\(¬1<k.length->∃t b q r,k=.agg (ndC t b q)::r/\zR [.cl (.agg [.int .i64 t,.sli .u8 b,.slg 3 q]),.cl (.int .i64 0)] []=q0b l o):=by
 have hpos:0<k.length:=xbpw hk (List.mem_of_find?_eq_some ho);refine⟨fun h=> ?_,fun h=> ?_⟩
 ·unfold q0b;rw[xbkv hk ho h]
 ·obtain⟨v,r,rfl⟩:=List.exists_cons_of_length_pos hpos;obtain⟨t,b,q,rfl,_⟩:=hv.1 v (by simp);refine⟨t,b,q,r,rfl, ?_⟩;unfold q0b;rw[xbhl hk ho h rfl]
theorem xbwr(l:List CV)(o:List Int)(hp:qbp l=true):xbvm l o=q0b l o:=by
 obtain⟨hl,hW,_⟩:=qau.1 hp;unfold xbvm;refine qam hp ?_;rw[xbc8];by_cases hk:okA l
 ·rw[qfn.2 hk];refine q66 rfl (qam hp ?_);rw[show idxA o l=qvo o 0 l from qab _];refine qac (fun h=> ?_) fun h=> ?_
  ·unfold q0b;rw[q9o hk (List.find?_eq_none.2 fun c hc=>by simpa using xbdl.1 h c hc)]
  ·obtain⟨j,c,h1,h2,h3⟩:=xboc (show 0<=qvo o 0 l by omega);rw[h1];obtain⟨p,k,rfl,hp2,hv⟩:=hW c (zac h2);have h2':l[Int.toNat ((0+j:Nat):Int)]? =some (mkA p k):=by rw[show Int.toNat ((0+j:Nat):Int)=j by omega];exact h2
   obtain⟨f1,f2⟩:=xbef hk h3 hv;refine qa3 (by omega) h2' (qam rfl (qac (fun h=>f1 (by have h:(1:Int)<(k.length:Int):=h;omega)) fun h=> ?_));have h': ¬1<k.length:=by have h: ¬(1:Int)<(k.length:Int):=h;omega
   obtain⟨t,b,q,r,rfl,f⟩:=f2 h';refine qa3 (by omega) h2' (qam rfl (qas (by show(0:Int)<(((CV.agg (ndC t b q)::r).length:Nat):Int);rw[zag];omega) ?_));exact f
 ·rw[qr3 hk];unfold q0b;rw[xbpx hk];rfl
theorem xboo(x:CV): ∀S:List CV,mg (ltK ky4) S [x]=S.take (posA (keyC x) S)++x::S.drop (posA (keyC x) S)
 | []=>by rw[quk];rfl
 | y::r=>by
  rw[qf7];show(if decide (qan (keyC x) (keyC y)<0)=true then _ else _)=_;unfold posA;by_cases h:qan (keyC x) (keyC y)<0
  ·rw[if_pos (decide_eq_true h),if_pos h,qp6];rfl
  ·rw[if_neg (by simpa using h),if_neg h,xboo x r];rfl
theorem xba2: ∀(n:Nat) (l:List CV),l.length=n->qn7 l=isort (ltK ky4) l
 | 0,l,h=>by rw[zal h];rfl
 | n+1,l,h=>by
  rcases List.eq_nil_or_concat l with rfl|⟨r,x,rfl⟩
  ·simp at h
  ·rw[List.concat_eq_append] at h ⊢;rw[q3o,q1y (qd8 ky4),xboo,xba2 n r (by simpa using h)]
theorem qql{k:List CV}(h:fitV k):q0w k=(49,qop k,0):=by unfold q0w;rw[if_pos (by rw[zaj];exact fun c hc=>decide_eq_true (h c hc)),xba2 _ _ rfl,qjk h];rfl
theorem xbh8{k:List CV}(h: ¬fitV k):q0w k=(0,[],1):=by unfold q0w;rw[if_neg];rw[zaj];exact fun e=>h fun c hc=>of_decide_eq_true (e c hc)
theorem xbrx{o:List Int}{k:List CV}(ho:xbb0 o):uOk o k↔ordB o k:=by unfold uOk ordB;rw[(made6 ho.2).1];exact⟨fun h=>⟨h.2,h.1.2,h.1.1⟩,fun h=>⟨⟨h.2.2,h.2.1⟩,h.1⟩⟩
theorem xbe5{l:List CV}(h:l.length<=2000/\∀c∈l,qvq c):xbe4 l=true:=by unfold xbe4;rw[qab];exact @decide_eq_true _ (Classical.propDecidable _) h
theorem xbh5{k:List CV}(h: ∀v∈k,qvq v)(hl:k.length<=2000):xbe4 k=true:=xbe5 ⟨hl,h⟩
theorem q0v{o:List Int}{k:List CV}(h:uOk o k):qos o k=(48,qvp o (qop k),0):=by unfold qos;rw[qab,if_pos h,qql h.2]
theorem q0u{o:List Int}{k:List CV}(h: ¬uOk o k):qos o k=(0,[],1):=by unfold qos;rw[qab,if_neg h]
theorem nUNd(o:List Int)(k:List CV)(hp:at1Ok o k=true):gUNd o k=zR [.cl (.agg [.int .i64 (qos o k).1,.sli .u8 qbv,.slg 3 (qos o k).2.1]),.cl (.int .i64 (qos o k).2.2)] []:=by
 obtain⟨ho,hk⟩:=qcn.1 hp;have hl:=qq0 hk;have bad: ¬uOk o k->zR [.cl (.agg [.int .i64 0,.sli .u8 [],.slg 3 []]),.cl (.int .i64 1)] []=zR [.cl (.agg [.int .i64 (qos o k).1,.sli .u8 [],.slg 3 (qos o k).2.1]),.cl (.int .i64 (qos o k).2.2)] []:=fun h=>by rw[q0u h]
 unfold gUNd;rw[qg5,qdn];refine qam (q8p (by have:=ho.1;omega) ho.2) (qbb (fun h=>bad fun e=>h e.1.1) fun h=>qac (fun h2=>bad fun e=>by have:=e.1.2;omega) fun h2=>qam (xbh5 hk.1 (by omega)) ?_);have e:vSet k=q0w k:=qab _;simp only[e];by_cases hf:fitV k
 ·rw[qql hf,q0v ⟨⟨h,by omega⟩,hf⟩];exact qtq rfl (qam (qt8 (by simp)) (by unfold qvp;rfl))
 ·rw[xbh8 hf];exact qv8 (by simp) (bad fun e=>hf e.2)
theorem xbm7{m:List CV}(h: ∀c∈m,(qce 6 (qai (typA c))).2.2=0):fitV (boxA m)↔fitA m:=by
 constructor
 ·exact fun hf c hc=>⟨h c hc,hf _ (List.mem_map_of_mem hc)⟩
 ·intro hf v hv;obtain⟨c,hc,rfl⟩:=za8.1 hv;exact(hf c hc).2
noncomputable def wbG(e:CV):CV:=.agg (ndA (cut2 e)++[.sli .u8 (ky3 e)])
theorem xbsv{m:List CV}(h: ∀c∈m,WA c):(boxA m).map wbV=(m.map wbA).map wbG:=by unfold boxA;rw[zcg,zcg];refine zby fun c hc=> ?_;obtain⟨o,k,rfl,_⟩:=h c hc;rfl
theorem q2q{m:List CV}(h: ∀c∈m,WA c)(hf:fitV (boxA m)):qop (boxA m)=boxA (srtA m):=by rw[qjk hf,xbsv h,q1z (lt:=ltK ky3) wbG fun x hx y hy=>rfl];unfold boxA srtA;rw[zcg,zcg];exact zby fun e he=>rfl
theorem qxo{l:List CV}(h: ∀c∈l,uOk (typA c) (qjv c)):uOut l=boxA (l.map ordA):=by unfold uOut boxA;rw[zcg];refine zby fun c hc=> ?_;show CV.agg (ndA (mkA (typA c) (q0w (qjv c)).2.1))=.agg (ndA (ordA c));rw[qql (h c hc).2];rfl
theorem q8k{l:List CV}(hp:qbp l=true):xbrw l↔xbcq l:=by
 obtain⟨_,hW,_⟩:=qau.1 hp;obtain⟨_,hW2,_⟩:=qau.1 (qri hp);have hall:(∀c∈l,uOk (typA c) (qjv c))↔ ∀c∈l,ordB (typA c) (qjv c):=by
  have: ∀c∈l,(uOk (typA c) (qjv c)↔ordB (typA c) (qjv c)):=fun c hc=>by obtain⟨o,k,rfl,ho,_⟩:=hW c hc;exact xbrx ho
  exact⟨fun h c hc=>(this c hc).1 (h c hc),fun h c hc=>(this c hc).2 (h c hc)⟩
 have key:(∀c∈l,uOk (typA c) (qjv c))->(fitV (uOut l)↔fitA (l.map ordA))/\(fitV (uOut l)->(q0w (uOut l)).2.1=boxA (srtA (l.map ordA))):=fun h=>by rw[qxo h];refine⟨xbm7 fun c hc=> ?_,fun hf=>by rw[qql hf];exact q2q hW2 hf⟩;obtain⟨d,hd,rfl⟩:=za8.1 hc;exact(h d hd).1.1
 constructor
 ·rintro⟨h1,h2,h3,h4,h5⟩;obtain⟨e1,e2⟩:=key h3;rw[e2 h4] at h5;exact⟨h1,h2,hall.1 h3,e1.1 h4,h5⟩
 ·rintro⟨h1,h2,h3,h4,h5⟩;have h3:=hall.2 h3;obtain⟨e1,e2⟩:=key h3;have h4:=e1.2 h4;exact⟨h1,h2,h3,h4,by rw[e2 h4];exact h5⟩
theorem xbb8{l:List CV}(h: ¬xbrw l):qkk l=(0,[],1):=by unfold qkk;rw[qab,if_neg h]
theorem xbb9{l:List CV}(hp:qbp l=true)(h:xbrw l):qkk l=(49,boxA (srtA (l.map ordA)),0):=by unfold qkk;rw[qab,if_pos h,qxo h.2.2.1,qql (by rw[<- qxo h.2.2.1];exact h.2.2.2.1),q2q (qau.1 (qri hp)).2.1 (by rw[<- qxo h.2.2.1];exact h.2.2.2.1)]
open IntWalk (i64_in u8_in u32_in u64_in i64_quo u8_quo rem_in)
theorem xbm5(k0:Option Out)(k1:List CV->Nat->Int->List CV->Option Out)(l:List CV)(hl:l.length<=20)(hW: ∀c∈l,WA c)(m i:Nat)(o:List Int)(q y:List CV)(hi:l[i]? =some (mkA o q))(ho:xbb0 o): ∀(f j:Nat),j<=i->i<f+j->
  qij k0 k1 f l m (i:Int) (j:Int) y=cond (pT (∀c∈(l.take i).drop j,typA c≠o)) (k1 l m (i:Int) y) k0
 | 0,j,h1,h2=>by omega
 | f+1,j,h1,h2=>by
  have hlt:=(zae.1 hi).1;have ih:=xbm5 k0 k1 l hl hW m i o q y hi ho f (j+1);show qm3 (qij k0 k1 f) k0 k1 l m _ _ y=_;unfold qm3;generalize qij k0 k1 f=ag at ih ⊢;refine qac (fun h=> ?_) fun h=> ?_
  ·obtain⟨c,hc⟩:=qaw (b:=l) (i:=j) (by omega);have hc2:(l.take i)[j]? =some c:=by rw[zc6,if_pos (by omega)];exact hc
   rw[qci hc2];obtain⟨p,k,rfl,hp,hk⟩:=hW c (zac hc);refine qa3 (by omega) hi (qam rfl (qa3 (by omega) hc (qam rfl (qam (qdh.2 ho.1) ?_))));show cond (qa2 o p) _ _=_;rw[qdc];refine qac (fun e=> ?_) fun e=> ?_
   ·rw[qr3 fun h=>h _ (zbu ..) e.symm];rfl
   ·rw[ql0 (by omega)];refine(ih (by omega) (by omega)).trans ?_;rw[xbsd (show(∀c∈(l.take i).drop (j+1),typA c≠o)↔ ∀c∈mkA p k::(l.take i).drop (j+1),typA c≠o from⟨fun h c hc=>(zar.1 hc).elim (fun e'=>by rw[e'];exact fun e''=>e (Eq.symm e'')) (h c),fun h c hc=>h c (za2 _ hc)⟩)]
  ·obtain rfl:j=i:=by omega
   rw[qfn.2]
   ·rfl
   ·intro c hc;rw[za0 (by rw[zbm];omega)] at hc;simp at hc
theorem xbb7(k0:Option Out)(k1:Int->Option Out)(k2:Nat->List CV->Option Out)(he:k1 1=k0)(l:List CV)(hl:l.length<=20)(hW: ∀c∈l,WA c): ∀(f i:Nat) (acc:List CV),i<=l.length->l.length<f+i->acc=(l.take i).map (fun c=>.agg (ndA (ordA c)))->((l.take i).map typA).Nodup->(∀c∈l.take i,uOk (typA c) (qjv c))->
  qii k0 k1 k2 f l acc.length (i:Int) acc=cond (pT ((l.map typA).Nodup/\∀c∈l,uOk (typA c) (qjv c))) (k2 l.length (boxA (l.map ordA))) k0
 | 0,i,acc,hi,hf,_,_,_=>by omega
 | f+1,i,acc,hi,hf,ha,hn,hu=>by
  have ih:=xbb7 k0 k1 k2 he l hl hW f (i+1);show qm2 (qii k0 k1 k2 f) k0 k1 k2 l acc.length _ acc=_;unfold qm2;generalize qii k0 k1 k2 f=ag at ih ⊢;have hal:acc.length=i:=by rw[ha,zam,zbm];omega
  refine qac (fun h=> ?_) fun h=> ?_
  ·obtain⟨c,hc⟩:=qaw (b:=l) (i:=i) (by omega);rw[List.take_add_one,hc] at ih;obtain⟨o,k,rfl,ho,hk⟩:=hW c (zac hc);have hm:mkA o k∈l.drop i:=by rw[qci hc];simp
   have hm2:=zac hc;rw[qab];refine(xbm5 _ _ l hl hW acc.length i o k acc hc ho FUEL 0 (zcf _) (by unfold FUEL;omega)).trans ?_;rw[zbv];by_cases hd: ∀c∈l.take i,typA c≠o
   ·rw[qfn.2 hd];refine qa3 (by omega) hc (qam rfl (qam (qcn.2 ⟨ho,hk⟩) ?_));show cond (!decide ((qos o k).2.2=0)) _ _=_;by_cases hb:uOk o k
    ·refine qtq (by rw[q0v hb]) ?_;show rmK (acc++[CV.agg [.int .i64 (qos o k).1,.sli .u8 qbv,.slg 3 (qos o k).2.1]]).length 56 (ag l (acc++[CV.agg [.int .i64 (qos o k).1,.sli .u8 qbv,.slg 3 (qos o k).2.1]]).length (IntKind.i64.wrap ((i:Int)+1)) (acc++[CV.agg [.int .i64 (qos o k).1,.sli .u8 qbv,.slg 3 (qos o k).2.1]]))=_;rw[qdn,q0v hb,ql0 (by omega)];refine qlx (by rw[zah,zbr];omega) (by rw[zah,zbr];omega) ?_;refine ih _ (by omega) (by omega) (by rw[ha];exact(List.map_append (f:=fun c=>CV.agg (ndA (ordA c))) (l₁:=l.take i) (l₂:=[mkA o k])).symm) (List.map_append .. ▸List.nodup_append.2 ⟨hn,by simp,fun a ha b hb=> ?_⟩) fun c hc=> ?_
     ·obtain⟨c,hc,rfl⟩:=za8.1 ha;rw[show b=o from zch.1 hb];exact hd c hc
     ·rcases zak.1 hc with hc|hc
      ·exact hu c hc
      ·have:c=mkA o k:=by simpa using hc
       subst this;exact hb
    ·refine qv8 (by rw[q0u hb];simp) ?_;show k1 (qos o k).2.2=_;rw[qr3 fun h=>hb (h.2 (mkA o k) hm2),q0u hb];exact he
   ·rw[qr3 hd,qr3]
    ·rfl
    ·rintro⟨hnd,_⟩;rw[<- List.take_append_drop i l,List.map_append,List.nodup_append] at hnd;exact hd fun c hc=>hnd.2.2 _ (List.mem_map_of_mem hc) _ (List.mem_map_of_mem hm)
  ·obtain rfl:i=l.length:=by omega
   rw[zb5] at hn hu ha;rw[qfn.2 ⟨hn,hu⟩,hal,ha];unfold boxA;rw[zcg];rfl
theorem xbpo(l:List CV)(hp:qbp l=true):xbgq l=zR [.cl (.agg [.int .i64 (qkk l).1,.sli .u8 qbv,.slg 3 (qkk l).2.1]),.cl (.int .i64 (qkk l).2.2)] []:=by
 obtain⟨hl,hW,_⟩:=qau.1 hp;have bad: ¬xbrw l->xbsg 1=zR [.cl (.agg [.int .i64 (qkk l).1,.sli .u8 [],.slg 3 (qkk l).2.1]),.cl (.int .i64 (qkk l).2.2)] []:=fun h=>by rw[xbb8 h]
 unfold xbgq;rw[qdn,qab];refine qac (fun h=>bad fun hg=>by have:=hg.1.1;omega) fun h=>qac (fun h2=>bad fun hg=>by have:=hg.1.2;omega) fun h2=> ?_;refine(xbb7 (xbsg 1) (fun y1=>xbsg y1) _ rfl l (by omega) hW FUEL 0 [] (zcf _) (by unfold FUEL;omega) rfl (by simp) (by simp)).trans ?_;by_cases hq:(l.map typA).Nodup/\∀c∈l,uOk (typA c) (qjv c)
 ·rw[qfn.2 hq];have hu:=qxo hq.2;obtain⟨_,hW2,_⟩:=qau.1 (qri hp);have hn:=xbfp hW2;refine qam rfl (qam (xbh5 hn (by unfold boxA;rw[zam,zam];omega)) ?_);show cond (!decide ((vSet (boxA (l.map ordA))).2.2=0)) _ (cond (isS (ndC (vSet (boxA (l.map ordA))).1 [] (vSet (boxA (l.map ordA))).2.1)) _ _)=_;rw[show vSet (boxA (l.map ordA))=q0w (boxA (l.map ordA)) from qab _];by_cases hf:fitV (boxA (l.map ordA))
  ·have e2:(q0w (uOut l)).2.1=boxA (srtA (l.map ordA)):=by rw[hu,qql hf];exact q2q hW2 hf
   rw[qql hf,q2q hW2 hf];refine qtq rfl (qam (xbfq 49 (xbja hp) (by rw[(qor hW2).length_eq,zam];omega)) ?_);show cond (!qra (ndC 49 [] (boxA (srtA (l.map ordA))))) _ _=_
   cases hfit:qra (ndC 49 [] (boxA (srtA (l.map ordA)))) with
   | true=>
    rw[xbb9 hp ⟨by omega,hq.1,hq.2,by rw[hu];exact hf,by rw[e2];exact hfit⟩];rfl
   | false=>exact bad fun hg=>by have:=hg.2.2.2.2;rw[e2] at this;rw[show qra (ndC 49 [] (boxA (srtA (l.map ordA))))=true from this] at hfit;cases hfit
  ·rw[xbh8 hf];exact qv8 (by simp) (bad fun hg=>hf (by rw[<- hu];exact hg.2.2.2.1))
 ·rw[qr3 hq];exact bad fun hg=>hq ⟨hg.2.1,hg.2.2.1⟩
theorem q1i{k:List CV}:qwh k=true↔k.length<=100000/\∀c∈k,xbve c:=by unfold qwh;rw[qab,qfn]
theorem xbpl(t:Int)(b:List Int)(k:List CV)(hp:qwh k=true):xbgn t b k=zR [.cl (.slg 2 (q53 k))] []:=by obtain⟨hl,hk⟩:=q1i.1 hp;unfold xbgn q53;rw[qab,qab];refine q1b (l:=k) (P:=fun _=>True) (g:=xbmp) (L:=fun f i acc=>qll _ f acc.length (i:Int) t b k acc) (bad:=none) (fin:=fun acc=>zR [.cl (.slg 2 acc)] []) (by omega) rfl (fun n i acc x hi ha hx=>⟨fun _=> ?_,fun h=>absurd trivial h⟩) (fun n acc ha=>qdt (by omega) rfl) (fun _=>rfl) fun h=>absurd (fun _ _=>trivial) h;obtain⟨t',b',t0,b0,k0,t1,b1,k1,rfl,hs⟩:=hk x (zac hx);exact qas (by omega) (qa3 (by omega) hx (qam rfl (qas (by show(0:Int)<2;omega) (qam hs (qa3 (by omega) hx (qam rfl (qas (by show(1:Int)<2;omega) (q2z (A:=fun a' b' c=>qll _ n a' b' t b k c) ha (by omega) (by omega)))))))))
theorem qvk{c:CV}(h:WA c)(hf:(qce 6 (qai (typA c))).2.2=0):xbmp (.agg (ndA c))=c:=by have e:=q7c h hf;obtain⟨o,k,rfl,ho,hk⟩:=h;exact(xbjd ⟨_,_,_,rfl,(qwo ho hk).1⟩ e).2.1.symm
theorem xbpu{l:List CV}(hp:qbp l=true)(hg: ∀c∈l,ordB (typA c) (qjv c)): ∀c∈l,(qce 6 (qai (typA c))).2.2=0:=fun c hc=>by obtain⟨o,k,rfl,ho,hk⟩:=(qau.1 hp).2.1 c hc;exact(made6 ho.2).1.2 (hg _ hc).2.2
theorem xbc1{l:List CV}(hp:qbp l=true)(hg: ∀c∈l,ordB (typA c) (qjv c)):(boxA l).map xbmp=l/\xbmy (boxA l)=some l:=by
 have hW:=(qau.1 hp).2.1;have hm:=xbpu hp hg;refine⟨qmd fun c hc=>qvk (hW c hc) (hm c hc), ?_⟩;have h1: ∀v∈boxA l,xbjc v=some (xbmp v):=fun v hv=>by obtain⟨c,hc,rfl⟩:=za8.1 hv;rw[q7c (hW c hc) (hm c hc),qvk (hW c hc) (hm c hc)]
 unfold xbmy;rw[if_pos (by rw[zaj];exact fun v hv=>by rw[h1 v hv];rfl),xbm8 h1];exact congrArg some (qmd fun c hc=>qvk (hW c hc) (hm c hc))
theorem xbt5(l:List CV)(hp:qbp l=true):xbnz l=zR [.cl (.slg 2 (qd4 l).1),.cl (.int .i64 (qd4 l).2)] []:=by
 obtain⟨hl,hW,_⟩:=qau.1 hp;unfold xbnz;refine qam hp ?_;by_cases hg:xbcq l
 ·have hk:=xbn6 hp hg;have hq:=xbja hp;rw[xbb9 hp ((q8k hp).2 hg),xbsc hg];refine qtq rfl (qam (q1i.2 ⟨by show(boxA _).length<=_;unfold boxA;rw[zam];have:=(qau.1 hq).1;omega,fun v hv=> ?_⟩) ?_)
  ·obtain⟨c,hc,rfl⟩:=za8.1 hv;obtain⟨o,k,rfl,ho,hk⟩:=(qau.1 hq).2.1 c hc;exact⟨_,_,_,_,_,_,_,_,rfl,(xbhd ho).1⟩
  ·have e:=(xbc1 hq hk.1.2.2.1).1;show zR [.cl (.slg 2 (q53 (boxA (srtA (l.map ordA))))),.cl (.int .i64 0)] []=_;unfold q53;rw[qab,e]
 ·rw[xbb8 fun e=>hg ((q8k hp).1 e),xbsb hg];exact qv8 (by simp) rfl
theorem xbt6(a b:List CV)(hp:(qbp a&&qbp b)=true):xbn0 a b=zB (qfi a b):=by
 rw[zab] at hp;obtain⟨hl,hW,_⟩:=qau.1 hp.1;obtain⟨hl2,hW2,_⟩:=qau.1 hp.2;have lenV: ∀ {k:List CV},qjw k->qjt k=true:=fun h=>qt8 (by have:=qq0 h;omega);have nV: ∀ {k:List CV},qjw k->isN (ndC 48 qbv k)=true:=fun h=>by rw[qdn];exact xbg6 (qry quj h.1 (by have:=h.2;simp;omega)).1
 unfold xbn0;rw[qab];refine q3e (qu9 (L:=fun f i=>qug _ _ f a b (i:Int)) rfl (by omega) (fun n i x hi hx hy=> ?_) (fun n i x y hi hx hy hne=> ?_) fun n=> ?_)
 ·obtain⟨o,k,rfl,ho,hk⟩:=hW x (zac hx);refine qas (by omega) (qa3 (by omega) hx (qam rfl (qa3 (by omega) hy (qam rfl (qam (qdh.2 ho.1) ?_)))));show cond (!qa2 o o) _ _=_;rw[qdc];refine qtq rfl (qa3 (by omega) hx (qam rfl (qam (lenV hk) (qa3 (by omega) hy (qam rfl (qam (lenV hk) (qam (c:=isN (ndC 48 qbv k)&&isN (ndC 48 qbv k)) (by rw[nV hk];rfl) ?_)))))));show cond (!qil (ndC 48 qbv k) (ndC 48 qbv k)) _ _=_;rw[qru,ql0 (by omega)];rfl
 ·obtain⟨o,k,rfl,ho,hk⟩:=hW x (zac hx);obtain⟨p,q,rfl,hp2,hq⟩:=hW2 y (zac hy);refine qas (by omega) (qa3 (by omega) hx (qam rfl (qa3 (by omega) hy (qam rfl (qam (qdh.2 ho.1) ?_)))));show cond (!qa2 o p) _ _=_;rw[qdc];refine qbb (fun e=>rfl) fun e=>(qa3 (by omega) hx (qam rfl (qam (lenV hk) (qa3 (by omega) hy (qam rfl (qam (lenV hq) (qam (c:=isN (ndC 48 qbv k)&&isN (ndC 48 qbv q)) (by rw[nV hk,nV hq];rfl) ?_)))))));show cond (!qil (ndC 48 qbv k) (ndC 48 qbv q)) _ _=_;rw[qe2.2 (fun e2=>hne (by subst e;simp at e2;rw[e2]))];rfl
 ·exact qdt (by omega) rfl
theorem xbwy(l:List CV)(hp:qbp l=true):xbwd l=zB (q61 l):=xbvd hp rfl
open IntWalk (i64_in u8_in u32_in u64_in i64_quo u8_quo rem_in)
abbrev tyT(v:CV):Prop:= ∃t b q,v=.agg [.int .i64 t,.sli .u8 b,.slg 3 q]/\isT [.int .i64 t,.sli .u8 b,.slg 3 q]=true
theorem qtp{l:List CV}:qv2 l=true↔ ∀c∈l,WT c:=by unfold qv2;rw[qab,qfn]
theorem q80: ∀ {k:List CV},(∀v∈k,tyT v)->∀z,qc9 qb3 k z<=z:=fun {k} h=>q8z fun v hv z=>by obtain⟨t,b,q,rfl,hs⟩:=h v hv;obtain⟨n,hn⟩:=qmm hs;show qb3 (ndC t b q) z<=z - 1;rw[qe3 hn];exact qnf hn z
theorem q3n(K:List CV->Int->Int->Option Out)(l:List CV)(i:Nat)(o:List Int)(k:List CV)(hi:l[i]? =some (mkA o k))(hk: ∀v∈k,tyT v): ∀(f j:Nat) (z:Int),z<=30000 - j->30005<f+j->j<=k.length->j<=30001->qf5 K f l z (i:Int) (j:Int)=K l (qc9 qb3 (k.drop j) z) (i:Int)
 | 0,j,z,hz,hf,hj,hj2=>by omega
 | f+1,j,z,hz,hf,hj,hj2=>by
  have ih:=q3n K l i o k hi hk f (j+1);show qm0 (qf5 K f) K l z (i:Int) (j:Int)=_;unfold qm0;generalize qf5 K f=ag at ih ⊢;refine qa3 (by omega) hi (qam rfl ?_);show cond (decide ((j:Int)<(k.length:Int))) _ _=_;refine qac (fun h=> ?_) fun h=> ?_
  ·obtain⟨c,hc⟩:=qaw (b:=k) (i:=j) (by omega);rw[qci hc];obtain⟨t,b,q,rfl,hs⟩:=hk c (zac hc);unfold qc9;refine qac (fun h0=> ?_) fun h0=> ?_
   ·rw[if_neg (by omega)];refine qa3 (by omega) hi (qam rfl (qa3 (by omega) hc (qam rfl (qam (c:=isT (ndC t b q)&&qpq z) (by rw[hs,q2b (by omega)];rfl) ?_))));obtain⟨n,hn⟩:=qmm hs;have hle:qb3 (ndC t b q) z<=z - 1:=by rw[qe3 hn];exact qnf hn z
    show ag l (qb3 (ndC t b q) z) (i:Int) (IntKind.i64.wrap ((j:Int)+1))=_;rw[ql0 (by omega)];exact ih (qb3 (ndC t b q) z) (by omega) (by omega) (by omega) (by omega)
   ·rw[if_pos (by omega)]
  ·rw[za0 (by omega)];rfl
theorem q7o(a:Nat):cond (decide ((1000:Int)<(a:Int))) 1000 (a:Int)=min (a:Int) 1000:=by
 by_cases h:(1000:Int)<(a:Int)
 ·rw[decide_eq_true h,cond_true];omega
 ·rw[decide_eq_false h,cond_false];omega
theorem q3m(K:Int->Option Out)(l:List CV)(hl:l.length<=25)(hW: ∀c∈l,WT c): ∀(f i:Nat) (z:Int),z<=30000->i<=l.length->l.length<f+i->qih K f l z (i:Int)=K (smA (l.drop i) z)
 | 0,i,z,hz,hi,hf=>by omega
 | f+1,i,z,hz,hi,hf=>by
  have ih:=q3m K l hl hW f (i+1);show qmz (qih K f) K l z _=_;unfold qmz;generalize qih K f=ag at ih ⊢;refine qac (fun h=> ?_) fun h=> ?_
  ·obtain⟨c,hc⟩:=qaw (b:=l) (i:=i) (by omega);rw[qci hc];obtain⟨o,k,rfl,ho,hk⟩:=hW c (zac hc);unfold smA;refine qac (fun h0=> ?_) fun h0=> ?_
   ·rw[if_neg (by omega)];refine qa3 (by omega) hc (qam rfl ?_);show shut (qf5 _ FUEL) l (IntKind.i64.wrap (z - cond (decide ((1000:Int)<(o.length:Int))) 1000 (o.length:Int))) (i:Int) 0=_;rw[q7o,i64_in _ (by omega),qab];have hle:=q80 hk (z - min (o.length:Int) 1000);refine(q3n _ l i o k hc hk FUEL 0 _ (by omega) (by unfold FUEL;omega) (zcf _) (by omega)).trans ?_;rw[zbv];show ag l (qc9 qb3 k (z - min (o.length:Int) 1000)) (IntKind.i64.wrap ((i:Int)+1))=_;rw[ql0 (by omega)];exact ih _ (by omega) (by omega) (by omega)
   ·rw[if_pos (by omega)]
  ·rw[za0 (by omega)];rfl
theorem xbaz{l:List CV}{n:Int}:smOk l n=true↔l.length<=25/\0<=n/\n<=30000:=by unfold smOk;rw[qab,decide_eq_true_eq]
theorem xbpm(l:List CV)(n:Int)(hp:(qv2 l&&smOk l n)=true):xbgo l n=zI (qrh l n):=by rw[zab,xbaz] at hp;obtain⟨hW,hl,hn⟩:=hp;have hW:=qtp.1 hW;unfold xbgo qrh;simp only[qab,q7o];rw[i64_in _ (by omega)];refine(q3m _ l hl hW FUEL 0 _ (by omega) (zcf _) (by unfold FUEL;omega)).trans ?_;rw[zbv]
theorem xbkr(l:List CV)(hp:qv2 l=true):q8i l=zB (xbi9 l):=by
 unfold q8i xbi9;rw[qab];refine qac (fun h=>qam (by rw[hp,xbaz.2 ⟨by omega,by omega,by omega⟩];rfl) (qaq ?_)) fun h=>qaq ?_
 ·have e:qrh l 1500=smA l (1500 - l.length):=by unfold qrh;rw[qab,show min (l.length:Int) 1000=l.length by omega]
  rw[e,decide_eq_decide];exact⟨fun h'=>⟨by omega,h'⟩,fun h'=>h'.2⟩
 ·rw[eq_comm,decide_eq_false_iff_not];exact fun h'=>h (by omega)
theorem q8y{k:List CV}(hk: ∀v∈k,tyT v){z:Int}(hz:z<=1500)(h0:0<=qc9 qb3 k z):(∀v∈k,qvq v)/\(qkl k:Int)=z - qc9 qb3 k z:=by
 have h:=qt4 (f:=qb3) (g:=fun c=>qdv (rkOf (cell1 c)) (cell1 c)) (l:=k) (fun v hv z hz h=>by
  obtain⟨t,b,q,rfl,hs⟩:=hk v hv;obtain⟨n,hn⟩:=qmm hs;have hn:=qef hn;have h:0<=qb3 (ndC t b q) z:=h;rw[qe3 hn] at h;show((qdv _ (ndC t b q):Nat):Int)=z - qb3 (ndC t b q) z;rw[qe3 hn];exact qxf hn z hz h) (fun v hv z=>by
  obtain⟨t,b,q,rfl,hs⟩:=hk v hv;obtain⟨n,hn⟩:=qmm hs;show qb3 (ndC t b q) z<=z - 1;rw[qe3 hn];exact qnf hn z) z (by omega) h0
 have hb:(qkl k:Int)=z - qc9 qb3 k z:=h.2;refine⟨fun v hv=> ?_,hb⟩;have hm:=qxn (g:=fun c=>qdv (rkOf (cell1 c)) (cell1 c)) hv;obtain⟨t,b,q,rfl,hs⟩:=hk v hv;obtain⟨n,hn⟩:=qmm hs;exact⟨t,b,q,rfl,xbdo (qef hn) (zb7 hm (by show qkl k<=_;omega))⟩
theorem q1c: ∀ {l:List CV} {z:Int},(∀c∈l,WT c)->z<=1500->0<=smA l z->(∀c∈l,WA c)/\(qvn l:Int)<=z
 | [],z,_,_,h=>⟨by simp,h⟩
 | c::r,z,hW,hz,h=>by
  obtain⟨o,k,rfl,ho,hk⟩:=hW c (by simp);have hle:=q80 hk (z - min (o.length:Int) 1000);have h:0<=(if z<0 then z else smA r (qc9 qb3 k (z - min (o.length:Int) 1000))):=h;split at h
  ·omega
  ·have hr:0<=qc9 qb3 k (z - min (o.length:Int) 1000):=by
    by_cases h':qc9 qb3 k (z - min (o.length:Int) 1000)<0
    ·cases r with
     | nil=>exact h
     | cons d r'=>
      have h:0<=(if qc9 qb3 k (z - min (o.length:Int) 1000)<0 then qc9 qb3 k (z - min (o.length:Int) 1000) else _):=h;rw[if_pos h'] at h;exact h
    ·omega
   obtain⟨a1,a2⟩:=q8y hk (by omega) hr;obtain⟨b1,b2⟩:=q1c (fun c hc=>hW c (za2 _ hc)) (by omega) h;refine⟨fun c hc=> ?_, ?_⟩
   ·rcases zar.1 hc with rfl|hc
    ·exact⟨o,k,rfl,ho,a1,by omega⟩
    ·exact b1 c hc
   ·have e:qvn (mkA o k::r)=qkl k+qvn r:=by unfold qvn;rw[zbz,zco];rfl
    omega
theorem xbfx{l:List CV}(hW:qv2 l=true)(h:xbi9 l=true):qbp l=true:=by unfold xbi9 at h;rw[qab,decide_eq_true_eq] at h;obtain⟨h1,h2⟩:=q1c (qtp.1 hW) (by omega) h.2;exact qau.2 ⟨by omega,h1,by omega⟩
theorem e42:qce 6 (qai [1,2])=(6,[42],0):=by rw[show qai [1,2]=[42] from(qab _).trans (by kernel_rfl)];exact(qab _).trans (by kernel_rfl)
theorem e43:qce 6 (qai [1,3])=(6,[43],0):=by rw[show qai [1,3]=[43] from(qab _).trans (by kernel_rfl)];exact(qab _).trans (by kernel_rfl)
abbrev v42:CV:=.agg (ndC 6 [42] [])
abbrev c42:CV:=mkA [1,3] [v42]
theorem nd42:qvq v42:=⟨6,[42],[],rfl,qzw (by simp) (by simp)⟩
theorem xbsx{n:Nat}{a:List CV}(h:isTf n a=true)(h1:okF n 32 a=true)(h2:(qal n a).2=true):(qa7 a).2=0/\qra a=true:=by rw[qf8 h,qz3 h,if_pos ⟨h1,h2⟩];exact⟨rfl,decide_eq_true ⟨h1,h2⟩⟩
theorem ok42:qbp [c42]=true/\okA [c42]:=by
 have hv:qjw [v42]:=⟨fun v hv=>by rw[zch.1 hv];exact nd42,by
  have:=(qry (t:=6) (b:=[42]) (k:=[]) (by simp) (by simp) (by show 1+1+0<=30000;omega)).2;show xbc2 (ndC 6 [42] [])+0<=1800;rw[this];show 1+1+0+0<=1800;omega⟩
 have hW: ∀c∈[c42],WA c:=fun c hc=>by rw[zch.1 hc];exact⟨[1,3],_,rfl,⟨by simp,by simp⟩,hv⟩
 have hf:fitV [v42]:=fun v hv=>by rw[zch.1 hv];exact(xbsx (n:=1) (a:=ndC 6 [42] []) (by kernel_rfl) (by kernel_rfl) (by kernel_rfl)).1
 have ho:qop [v42]=[v42]:=by rw[qjk hf];rfl
 have hm:[c42].map ordA=[c42]:=by show[mkA [1,3] (qop [v42])]=_;rw[ho]
 have hn:ndA c42=[.int .i64 48,.sli .u8 [],.slg 3 [.agg (ndC 6 [43] []),.agg (ndC 49 [] [v42])]]:=by show[CV.int .i64 48,.sli .u8 [],.slg 3 (qvp [1,3] [v42])]=_;unfold qvp;rw[e43]
 have hs:srtA [c42]=[c42]:=rfl;refine⟨qau.2 ⟨by simp,hW,by show qkl [v42]+0<=1800;have:=hv.2;omega⟩,⟨⟨by simp,by simp⟩,by simp,fun c hc=> ?_, ?_, ?_⟩, ?_⟩
 ·rw[zch.1 hc];exact⟨hf,by show 0<1;omega,rfl⟩
 ·rw[hm];intro c hc;rw[zch.1 hc];refine⟨by show(qce 6 (qai [1,3])).2.2=0;rw[e43], ?_⟩;rw[hn];exact(xbsx (n:=3) (by kernel_rfl) (by kernel_rfl) (by kernel_rfl)).1
 ·rw[hm,hs];show qra (ndC 49 [] [.agg (ndA c42)])=true;rw[hn];exact(xbsx (n:=4) (by kernel_rfl) (by kernel_rfl) (by kernel_rfl)).2
 ·rw[hm,hs]
theorem xbmv:qbp []=true:=qau.2 ⟨by simp,by simp,by show 0<=1800;omega⟩
theorem xbkq(hp:true=true):q8h=zB true:=by obtain⟨ha,hk⟩:=ok42;unfold q8h;simp only[e42,qg5];have h18:qo6 [c42] [1,4]=((0,[],[]),18):=q9o hk rfl;have h0:qo6 [c42] [1,3]=((6,[42],[]),0):=xbhl hk (c:=c42) (r:=[]) rfl (by show ¬1<1;omega) rfl;have hN:=xbg6 (qzw (g:=6) (b:=[42]) (by simp) (by simp));refine qam (q8p (by simp) (by simp;exact⟨⟨by omega,by omega⟩,by omega,by omega⟩)) (qam ha (qam ha (qam xbmv ?_)));rw[xbc8,xbc8,qr3 (fun h:okA []=>by have:=h.1.1.1;simp at this)];refine qam rfl (qam ha (qam (qfn.2 hk) (qas (by rw[h18]) (qas (by rw[h0]) ?_))));rw[h0];refine qam (by rw[hN];rfl) (qam (qru _) (qam (qdh.2 (by simp)) ?_));rw[qdc];rfl
theorem q69{c:Bool}{a b r:Option Out}(h1:c=false->a=r)(h2:c=true->b=r):cond (!c) a b=r:=by
 cases c with
 | false=>exact h1 rfl
 | true=>exact h2 rfl
theorem xbrh(a:List CV):qfi a a=true:=by rw[qkq];exact qfn.2 rfl
theorem xbks(l m:List CV)(hp:(qv2 l&&qv2 m)=true):q8j l m=zB true:=by rw[zab] at hp;refine qam hp.1 (q69 (fun _=>rfl) fun h1=>qam hp.2 (q69 (fun _=>rfl) fun h2=> ?_));have hl:=xbfx hp.1 h1;have hm:=xbfx hp.2 h2;have hk:=xbop hl;exact qam hl (qam hl (qam hl (qam hl (qam (by simp) (qam (by rw[hk];rfl) (qam (xbrh _) (qas rfl (qam (by rw[hl,hm];rfl) (qam (by rw[hl,hm];rfl) (qam (by simp) (qam (by rw[hl];rfl) (qam (xbrh l) rfl))))))))))))
end Go.Proofs.YtoiikagnjcjccaaGreatDoorA
