/-
 The attr layer: the library's sort, first steps: comparing, changing places, turning. Conditions: each function's own.
-/
import Derived.Test.YtoiikagnjcjccaaGreatDoorT3b
set_option linter.unusedVariables false
set_option linter.unusedSimpArgs false
set_option maxRecDepth 100000
namespace Go.Proofs.YtoiikagnjcjccaaGreatDoorA
open IntWalk (i64_in u8_in u32_in u64_in i64_quo u8_quo rem_in)
theorem qei(ky:CV->List Int):Ord2 (ltK ky):=by
 have sw:=qo0;have tr:=qgz;have e: ∀a b,ltK ky a b=true↔qao (ky a) (ky b)<0:=fun a b=>decide_eq_true_iff;have n: ∀a b,ltK ky a b=false↔qao (ky b) (ky a)<=0:=fun a b=>by rw[zau,ne_eq,e,sw (ky b) (ky a),Classical.not_not]
 refine {tr:=fun a b c h1 h2=> ?_,ge:=fun a b c h1 h2=> ?_,irr:=fun a b h=> ?_,mix:=fun a b c h1 h2=> ?_}
 ·refine Classical.byContradiction fun h=> ?_;have h:=(n a c).1 (zau.2 h);have h1':=(e a b).1 h1;have h2':=(e b c).1 h2;rw[sw (ky c) (ky b)] at h2';exact h2' (tr _ _ _ h (by omega))
 ·exact(n a c).2 (tr _ _ _ ((n b c).1 h2) ((n a b).1 h1))
 ·have:=(e a b).1 h;exact(n b a).2 (by omega)
 ·refine Classical.byContradiction fun h=> ?_;have h:=(n c a).1 (zau.2 h);have h2':=(e c b).1 h2;rw[sw (ky b) (ky c)] at h2';exact h2' (tr _ _ _ ((n a b).1 h1) h)
theorem qba{m:Nat}{l:List CV}(h:rows4 m l=true):m=l.length/\l.length<=2000/\∀c∈l,W4A c:=by unfold rows4 at h;rw[qab] at h;exact @of_decide_eq_true _ (Classical.propDecidable _) h
theorem qhk{m:Nat}{l:List CV}(h:m=l.length/\l.length<=2000/\∀c∈l,W4A c):rows4 m l=true:=by unfold rows4;rw[qab];exact @decide_eq_true _ (Classical.propDecidable _) h
theorem qa9{m:Nat}{l:List CV}(h:rows3 m l=true):m=l.length/\l.length<=2000/\∀c∈l,W3A c:=by unfold rows3 at h;rw[qab] at h;exact @of_decide_eq_true _ (Classical.propDecidable _) h
theorem qi6{m:Nat}{l:List CV}(h:m=l.length/\l.length<=2000/\∀c∈l,W3A c):rows3 m l=true:=by unfold rows3;rw[qab];exact @decide_eq_true _ (Classical.propDecidable _) h
theorem q48{m:Nat}{a b n:Int}(h:swOk m a b n=true):0<=a/\0<=n/\a+n<=b/\b+n<=(m:Int):=by unfold swOk at h;rw[qab] at h;exact of_decide_eq_true h
theorem qtn{m:Nat}{a b n:Int}(h:0<=a/\0<=n/\a+n<=b/\b+n<=(m:Int)):swOk m a b n=true:=by unfold swOk;rw[qab];exact decide_eq_true h
theorem qlf{m:Nat}{a p b:Int}(h:qdq m a p b=true):0<=a/\a<p/\p<b/\b<=(m:Int):=by unfold qdq at h;rw[qab] at h;exact of_decide_eq_true h
theorem qfs{m:Nat}{a p b:Int}(h:0<=a/\a<p/\p<b/\b<=(m:Int)):qdq m a p b=true:=by unfold qdq;rw[qab];exact decide_eq_true h
theorem xbke{d:List CV}{a b n:Nat}(h:a+n<=b)(hb:b+n<=d.length){c:CV}(hc:c∈swp d a b n):c∈d:=by
 obtain⟨i,hi⟩:=zb1.1 hc;rw[qi9 d h hb] at hi
 (repeat' split at hi)<;>exact zac hi
theorem xbww(tp:Int)(bp:List Int)(kp:List CV)(wp:List Int)(tq:Int)(bq:List Int)(kq:List CV)(wq:List Int)(hp:(qad wp&&qad wq)=true):xbvw tp bp kp wp tq bq kq wq=zI (qbk wp wq):=qak hp rfl
theorem xbwv(op:List Int)(kp:List CV)(wp:List Int)(oq:List Int)(kq:List CV)(wq:List Int)(hp:(qad wp&&qad wq)=true):xbvv op kp wp oq kq wq=zI (qbk wp wq):=qak hp rfl
theorem xbdl(K:List CV->Option Out)(d:List CV)(m a b n:Nat)(hm:m=d.length)(hl:d.length<=2000)(hW: ∀c∈d,W4A c)(h1:a+n<=b)(h2:b+n<=d.length): ∀(f k:Nat),k<=n->n - k<f->ql2 K f m a b n k (swp d a b k)=K (swp d a b n)
 | 0,k,hk,hf=>by omega
 | f+1,k,hk,hf=>by
  show qnf (ql2 K f) K m a b n k (swp d a b k)=_;unfold qnf;refine qac (fun h=> ?_) fun h=> ?_
  ·have hk2:k<n:=by omega
   obtain⟨x,hx⟩: ∃x,d[a+k]? =some x:=⟨_,zae (by omega)⟩;obtain⟨y,hy⟩: ∃y,d[b+k]? =some y:=⟨_,zae (by omega)⟩;have gx:(swp d a b k)[a+k]? =some x:=by rw[qi9 d (by omega) (by omega),if_neg (by omega),if_neg (by omega),hx]
   have gy:(swp d a b k)[b+k]? =some y:=by rw[qi9 d (by omega) (by omega),if_neg (by omega),if_neg (by omega),hy]
   obtain⟨t1,b1,k1,w1,rfl,_⟩:=hW x (zac hx);obtain⟨t2,b2,k2,w2,rfl,_⟩:=hW y (zac hy);have e1:IntKind.i64.wrap ((a:Int)+k)=((a+k:Nat):Int):=(i64_in _ (by omega)).trans (by omega);have e2:IntKind.i64.wrap ((b:Int)+k)=((b+k:Nat):Int):=(i64_in _ (by omega)).trans (by omega);have e3:IntKind.i64.wrap ((k:Int)+1)=((k+1:Nat):Int):=(i64_in _ (by omega)).trans (by omega);have n1:0+Int.toNat ((a+k:Nat):Int)=a+k:=by omega
   have n2:0+Int.toNat ((b+k:Nat):Int)=b+k:=by omega
   have st:=xbdn d (show a+k<b by omega) (show b+k<d.length by omega) hx hy;simp only[e1,e2,e3,n1,n2];refine qa6 (by omega) (by omega) ?_;rw[gy,zag];refine qak rfl (qa6 (by omega) (by omega) ?_);rw[gx,zag];refine qak rfl (qa6 (by omega) (by omega) (qa6 (by omega) (by omega) ?_));refine zds ?_ (xbdl K d m a b n hm hl hW h1 h2 f (k+1) (by omega) (by omega));rw[<- st];rfl
  ·have:k=n:=by omega
   rw[this]
theorem xbrx(m:Nat)(a b n:Int)(l:List CV)(hp:(rows4 m l&&swOk m a b n)=true):xbii m a b n l=zR [] [some ⟨.gen 4 (swpC l a b n),false⟩]:=by rw[zab] at hp;obtain⟨rfl,hl,hW⟩:=qba hp.1;obtain⟨h1,h2,h3,h4⟩:=q48 hp.2;obtain⟨a',rfl⟩:=Int.eq_ofNat_of_zero_le h1;obtain⟨n',rfl⟩:=Int.eq_ofNat_of_zero_le h2;obtain⟨b',rfl⟩:=Int.eq_ofNat_of_zero_le (show 0<=b by omega);unfold xbii swpC;rw[qab,qab];have:=xbdl (fun y=>zR [] [some ⟨.gen 4 y,false⟩]) l l.length a' b' n' rfl hl hW (by omega) (by omega) FUEL 0 (by omega) (by unfold FUEL;omega);rw[xbdm l (by omega) (by omega)] at this;exact this
theorem xbdk(K:List CV->Option Out)(d:List CV)(m a b n:Nat)(hm:m=d.length)(hl:d.length<=2000)(hW: ∀c∈d,W3A c)(h1:a+n<=b)(h2:b+n<=d.length): ∀(f k:Nat),k<=n->n - k<f->ql1 K f m a b n k (swp d a b k)=K (swp d a b n)
 | 0,k,hk,hf=>by omega
 | f+1,k,hk,hf=>by
  show qne (ql1 K f) K m a b n k (swp d a b k)=_;unfold qne;refine qac (fun h=> ?_) fun h=> ?_
  ·have hk2:k<n:=by omega
   obtain⟨x,hx⟩: ∃x,d[a+k]? =some x:=⟨_,zae (by omega)⟩;obtain⟨y,hy⟩: ∃y,d[b+k]? =some y:=⟨_,zae (by omega)⟩;have gx:(swp d a b k)[a+k]? =some x:=by rw[qi9 d (by omega) (by omega),if_neg (by omega),if_neg (by omega),hx]
   have gy:(swp d a b k)[b+k]? =some y:=by rw[qi9 d (by omega) (by omega),if_neg (by omega),if_neg (by omega),hy]
   obtain⟨b1,k1,w1,rfl,_⟩:=hW x (zac hx);obtain⟨b2,k2,w2,rfl,_⟩:=hW y (zac hy);have e1:IntKind.i64.wrap ((a:Int)+k)=((a+k:Nat):Int):=(i64_in _ (by omega)).trans (by omega);have e2:IntKind.i64.wrap ((b:Int)+k)=((b+k:Nat):Int):=(i64_in _ (by omega)).trans (by omega);have e3:IntKind.i64.wrap ((k:Int)+1)=((k+1:Nat):Int):=(i64_in _ (by omega)).trans (by omega);have n1:0+Int.toNat ((a+k:Nat):Int)=a+k:=by omega
   have n2:0+Int.toNat ((b+k:Nat):Int)=b+k:=by omega
   have st:=xbdn d (show a+k<b by omega) (show b+k<d.length by omega) hx hy;simp only[e1,e2,e3,n1,n2];refine qa6 (by omega) (by omega) ?_;rw[gy,zag];refine qak rfl (qa6 (by omega) (by omega) ?_);rw[gx,zag];refine qak rfl (qa6 (by omega) (by omega) (qa6 (by omega) (by omega) ?_));refine zds ?_ (xbdk K d m a b n hm hl hW h1 h2 f (k+1) (by omega) (by omega));rw[<- st];rfl
  ·have:k=n:=by omega
   rw[this]
theorem xbrw(m:Nat)(a b n:Int)(l:List CV)(hp:(rows3 m l&&swOk m a b n)=true):xbih m a b n l=zR [] [some ⟨.gen 3 (swpC l a b n),false⟩]:=by rw[zab] at hp;obtain⟨rfl,hl,hW⟩:=qa9 hp.1;obtain⟨h1,h2,h3,h4⟩:=q48 hp.2;obtain⟨a',rfl⟩:=Int.eq_ofNat_of_zero_le h1;obtain⟨n',rfl⟩:=Int.eq_ofNat_of_zero_le h2;obtain⟨b',rfl⟩:=Int.eq_ofNat_of_zero_le (show 0<=b by omega);unfold xbih swpC;rw[qab,qab];have:=xbdk (fun y=>zR [] [some ⟨.gen 3 y,false⟩]) l l.length a' b' n' rfl hl hW (by omega) (by omega) FUEL 0 (by omega) (by unfold FUEL;omega);rw[xbdm l (by omega) (by omega)] at this;exact this
open IntWalk (i64_in u8_in u32_in u64_in i64_quo u8_quo rem_in)
theorem qn6(l:List CV)(a b n:Nat):swpC l a b n=swp l a b n:=by unfold swpC;rw[qab];rfl
abbrev ret4(l:List CV):Option Out:=zR [] [some ⟨.gen 4 l,false⟩]
theorem q4t{m:Nat}{d:List CV}{a b n:Nat}(h:rows4 m d=true)(h1:a+n<=b)(h2:b+n<=d.length):rows4 m (swp d a b n)=true:=by obtain⟨e1,e2,e3⟩:=qba h;have:=qja d h1 h2;exact qhk ⟨by omega,by omega,fun c hc=>e3 c (xbke h1 h2 hc)⟩
noncomputable abbrev xbxt:Nat->Int->Int->List CV->Option Out:=fun y3 y4 y5 y6=>cond (rows4 y3 y6&&swOk y3 (IntKind.i64.wrap (y4 - y5)) y4 y5) (ret4 (swpC y6 (IntKind.i64.wrap (y4 - y5)) y4 y5)) none
theorem xbcd(m p:Nat): ∀(f:Nat) (d:List CV) (i j:Nat),rows4 m d=true->0<i->0<j->i<=p->p+j<=d.length->i+j<=f->
  qpd xbxt f m p i j d=ret4 (rotF f d p i j)
 | 0,_,_,_,_,_,_,_,_,_=>by omega
 | f+1,d,i,j,hr,hi,hj,hp,hd,hf=>by
  obtain⟨hm,hl,_⟩:=qba hr;show qqn (qpd xbxt f) xbxt m p i j d=_;unfold qqn;have w1:IntKind.i64.wrap ((p:Int) - i)=((p - i:Nat):Int):=(i64_in _ (by omega)).trans (by omega);refine qa2 (fun hne=> ?_) fun heq=> ?_
  ·have hne: ¬i=j:=fun e=>hne (by rw[e]);refine qac (fun h=> ?_) fun h=> ?_
   ·have w2:IntKind.i64.wrap ((i:Int) - j)=((i - j:Nat):Int):=(i64_in _ (by omega)).trans (by omega);rw[w1,w2];refine qak (by rw[hr,qtn (by omega)];rfl) ?_;rw[qn6];have hs:=qja d (a:=p - i) (b:=p) (n:=j) (by omega) (by omega);refine(xbcd m p f _ (i - j) j (q4t hr (by omega) (by omega)) (by omega) hj (by omega) (by omega) (by omega)).trans ?_;show _=ret4 (if i=j then _ else if j<i then _ else _);rw[if_neg hne,if_pos (by omega)]
   ·have w2:IntKind.i64.wrap ((p:Int)+j)=((p+j:Nat):Int):=(i64_in _ (by omega)).trans (by omega);have w3:IntKind.i64.wrap (((p+j:Nat):Int) - i)=((p+j - i:Nat):Int):=(i64_in _ (by omega)).trans (by omega);have w4:IntKind.i64.wrap ((j:Int) - i)=((j - i:Nat):Int):=(i64_in _ (by omega)).trans (by omega);simp only[w1,w2,w3,w4];refine qak (by rw[hr,qtn (by omega)];rfl) ?_;rw[qn6];have hs:=qja d (a:=p - i) (b:=p+j - i) (n:=i) (by omega) (by omega);refine(xbcd m p f _ i (j - i) (q4t hr (by omega) (by omega)) hi (by omega) hp (by omega) (by omega)).trans ?_;show _=ret4 (if i=j then _ else if j<i then _ else _);rw[if_neg hne,if_neg (by omega)]
  ·have heq:i=j:=by have:(i:Int)=j:=heq;omega
   show cond (rows4 m d&&swOk m (IntKind.i64.wrap ((p:Int) - i)) p i) (ret4 (swpC d (IntKind.i64.wrap ((p:Int) - i)) p i)) none=ret4 (if i=j then swp d (p - i) p i else _);rw[w1,if_pos heq];refine qak (by rw[hr,qtn (by omega)];rfl) ?_;rw[qn6]
theorem xbw4(m:Nat)(a p b:Int)(l:List CV)(hp:(rows4 m l&&qdq m a p b)=true):xbp5 m a p b l=zR [] [some ⟨.gen 4 (rotC l a p b),false⟩]:=by rw[zab] at hp;obtain⟨e1,hl,hW⟩:=qba hp.1;obtain⟨h1,h2,h3,h4⟩:=qlf hp.2;obtain⟨a',rfl⟩:=Int.eq_ofNat_of_zero_le h1;obtain⟨p',rfl⟩:=Int.eq_ofNat_of_zero_le (show 0<=p by omega);obtain⟨b',rfl⟩:=Int.eq_ofNat_of_zero_le (show 0<=b by omega);unfold xbp5 rotC;rw[qab,qab];have w1:IntKind.i64.wrap ((p':Int) - a')=((p' - a':Nat):Int):=(i64_in _ (by omega)).trans (by omega);have w2:IntKind.i64.wrap ((b':Int) - p')=((b' - p':Nat):Int):=(i64_in _ (by omega)).trans (by omega);dsimp only;rw[w1,w2];refine(xbcd m p' FUEL l (p' - a') (b' - p') hp.1 (by omega) (by omega) (by omega) (by omega) (by unfold FUEL;omega)).trans ?_;rw[q4p FUEL l p' (p' - a') (b' - p') (by omega) (by omega) (by omega) (by omega) (by unfold FUEL;omega),show p' - (p' - a')=a' by omega,show p'+(b' - p')=b' by omega];rfl
abbrev ret3(l:List CV):Option Out:=zR [] [some ⟨.gen 3 l,false⟩]
theorem q4r{m:Nat}{d:List CV}{a b n:Nat}(h:rows3 m d=true)(h1:a+n<=b)(h2:b+n<=d.length):rows3 m (swp d a b n)=true:=by obtain⟨e1,e2,e3⟩:=qa9 h;have:=qja d h1 h2;exact qi6 ⟨by omega,by omega,fun c hc=>e3 c (xbke h1 h2 hc)⟩
noncomputable abbrev xbxs:Nat->Int->Int->List CV->Option Out:=fun y3 y4 y5 y6=>cond (rows3 y3 y6&&swOk y3 (IntKind.i64.wrap (y4 - y5)) y4 y5) (ret3 (swpC y6 (IntKind.i64.wrap (y4 - y5)) y4 y5)) none
theorem xbcc(m p:Nat): ∀(f:Nat) (d:List CV) (i j:Nat),rows3 m d=true->0<i->0<j->i<=p->p+j<=d.length->i+j<=f->
  qpc xbxs f m p i j d=ret3 (rotF f d p i j)
 | 0,_,_,_,_,_,_,_,_,_=>by omega
 | f+1,d,i,j,hr,hi,hj,hp,hd,hf=>by
  obtain⟨hm,hl,_⟩:=qa9 hr;show qqm (qpc xbxs f) xbxs m p i j d=_;unfold qqm;have w1:IntKind.i64.wrap ((p:Int) - i)=((p - i:Nat):Int):=(i64_in _ (by omega)).trans (by omega);refine qa2 (fun hne=> ?_) fun heq=> ?_
  ·have hne: ¬i=j:=fun e=>hne (by rw[e]);refine qac (fun h=> ?_) fun h=> ?_
   ·have w2:IntKind.i64.wrap ((i:Int) - j)=((i - j:Nat):Int):=(i64_in _ (by omega)).trans (by omega);rw[w1,w2];refine qak (by rw[hr,qtn (by omega)];rfl) ?_;rw[qn6];have hs:=qja d (a:=p - i) (b:=p) (n:=j) (by omega) (by omega);refine(xbcc m p f _ (i - j) j (q4r hr (by omega) (by omega)) (by omega) hj (by omega) (by omega) (by omega)).trans ?_;show _=ret3 (if i=j then _ else if j<i then _ else _);rw[if_neg hne,if_pos (by omega)]
   ·have w2:IntKind.i64.wrap ((p:Int)+j)=((p+j:Nat):Int):=(i64_in _ (by omega)).trans (by omega);have w3:IntKind.i64.wrap (((p+j:Nat):Int) - i)=((p+j - i:Nat):Int):=(i64_in _ (by omega)).trans (by omega);have w4:IntKind.i64.wrap ((j:Int) - i)=((j - i:Nat):Int):=(i64_in _ (by omega)).trans (by omega);simp only[w1,w2,w3,w4];refine qak (by rw[hr,qtn (by omega)];rfl) ?_;rw[qn6];have hs:=qja d (a:=p - i) (b:=p+j - i) (n:=i) (by omega) (by omega);refine(xbcc m p f _ i (j - i) (q4r hr (by omega) (by omega)) hi (by omega) hp (by omega) (by omega)).trans ?_;show _=ret3 (if i=j then _ else if j<i then _ else _);rw[if_neg hne,if_neg (by omega)]
  ·have heq:i=j:=by have:(i:Int)=j:=heq;omega
   show cond (rows3 m d&&swOk m (IntKind.i64.wrap ((p:Int) - i)) p i) (ret3 (swpC d (IntKind.i64.wrap ((p:Int) - i)) p i)) none=ret3 (if i=j then swp d (p - i) p i else _);rw[w1,if_pos heq];refine qak (by rw[hr,qtn (by omega)];rfl) ?_;rw[qn6]
theorem xbw3(m:Nat)(a p b:Int)(l:List CV)(hp:(rows3 m l&&qdq m a p b)=true):xbp4 m a p b l=zR [] [some ⟨.gen 3 (rotC l a p b),false⟩]:=by rw[zab] at hp;obtain⟨e1,hl,hW⟩:=qa9 hp.1;obtain⟨h1,h2,h3,h4⟩:=qlf hp.2;obtain⟨a',rfl⟩:=Int.eq_ofNat_of_zero_le h1;obtain⟨p',rfl⟩:=Int.eq_ofNat_of_zero_le (show 0<=p by omega);obtain⟨b',rfl⟩:=Int.eq_ofNat_of_zero_le (show 0<=b by omega);unfold xbp4 rotC;rw[qab,qab];have w1:IntKind.i64.wrap ((p':Int) - a')=((p' - a':Nat):Int):=(i64_in _ (by omega)).trans (by omega);have w2:IntKind.i64.wrap ((b':Int) - p')=((b' - p':Nat):Int):=(i64_in _ (by omega)).trans (by omega);dsimp only;rw[w1,w2];refine(xbcc m p' FUEL l (p' - a') (b' - p') hp.1 (by omega) (by omega) (by omega) (by omega) (by unfold FUEL;omega)).trans ?_;rw[q4p FUEL l p' (p' - a') (b' - p') (by omega) (by omega) (by omega) (by omega) (by unfold FUEL;omega),show p' - (p' - a')=a' by omega,show p'+(b' - p')=b' by omega];rfl
open IntWalk (i64_in u8_in u32_in u64_in i64_quo u8_quo rem_in)
theorem xbhq{α:Type}{d:List α}{i j:Nat}{y z:α}(hy:d[i]? =some y)(hz:d[j]? =some z):chg2 d i j=(d.set i z).set j y:=by unfold chg2;rw[hy,hz]
theorem qmz{α:Type}(d:List α)(i j:Nat):(chg2 d i j).length=d.length:=by unfold chg2;split<;>simp
theorem q9c{α:Type}{d:List α}{i j:Nat}{c:α}(h:c∈chg2 d i j):c∈d:=by
 unfold chg2 at h;split at h
 ·rename_i y z hy hz;rcases List.mem_or_eq_of_mem_set h with h|h
  ·rcases List.mem_or_eq_of_mem_set h with h|h
   ·exact h
   ·rw[h];exact zac hz
  ·rw[h];exact zac hy
 ·exact h
theorem xbhr(a b:List Int):qbk a b=qao a b:=by unfold qbk;rw[qab]
theorem qu8{α:Type}{lt:α->α->Bool}{d:List α}{a b:Nat}{c:α}(h:c∈insS lt d a b):c∈d:=by
 unfold insS pu at h;rcases zak.1 h with h|h
 ·exact zba h
 ·rcases zak.1 h with h|h
  ·exact zba (zbi (qg3.1 h))
  ·exact zbi h
theorem xbgo{m:Nat}{d:List CV}{i j:Nat}(h:rows4 m d=true):rows4 m (chg2 d i j)=true:=by obtain⟨e1,e2,e3⟩:=qba h;exact qhk ⟨by rw[qmz];exact e1,by rw[qmz];exact e2,fun c hc=>e3 c (q9c hc)⟩
theorem q42(K:Nat->Int->Int->Int->List CV->Option Out)(m a:Nat)(b i:Int): ∀(f:Nat) (d:List CV) (j:Nat),rows4 m d=true->a<=j->j<d.length->j - a<f->
  qlw K f m a b i j d=K m a b i (slide (ltK ky4) f d a j)
 | 0,_,_,_,_,_,_=>by omega
 | f+1,d,j,hr,haj,hj,hf=>by
  obtain⟨hm,hl,hW⟩:=qba hr;show qql (qlw K f) K m a b i j d=K m a b i (if a<j/\ltA (ltK ky4) d j (j - 1)=true then slide (ltK ky4) f (chg2 d j (j - 1)) a (j - 1) else d);unfold qql;refine qac (fun h=> ?_) fun h=>by rw[if_neg (by omega)]
  have hja:a<j:=by omega
  obtain⟨x,hx⟩: ∃x,d[j]? =some x:=⟨_,zae hj⟩;obtain⟨y,hy⟩: ∃y,d[j - 1]? =some y:=⟨_,zae (by omega)⟩;have ec:=xbhq hx hy;have el:=qk2 (lt:=ltK ky4) hx hy;have hrc:=xbgo (i:=j) (j:=j - 1) hr;have ih:=q42 K m a b i f (chg2 d j (j - 1)) (j - 1) hrc (by omega) (by rw[qmz];omega) (by omega);obtain⟨t1,b1,k1,w1,rfl,hw1⟩:=hW x (zac hx);obtain⟨t2,b2,k2,w2,rfl,hw2⟩:=hW y (zac hy);rw[el];generalize qlw K f=ag at ih ⊢;have e1:IntKind.i64.wrap ((j:Int) - 1)=((j - 1:Nat):Int):=(i64_in _ (by omega)).trans (by omega);have n1:0+Int.toNat (j:Int)=j:=by omega
  have n2:0+Int.toNat ((j - 1:Nat):Int)=j - 1:=by omega
  simp only[e1,n1,n2];refine qa6 (by omega) (by omega) ?_;rw[hx,zag];refine qak rfl (qa6 (by omega) (by omega) ?_);rw[hy,zag];refine qak rfl (qak (c:=qad w1&&qad w2) (by rw[hw1,hw2];rfl) ?_);show cond (decide (qbk w1 w2<0)) _ _=K m a b i (if a<j/\decide (qao w1 w2<0)=true then _ else _);rw[xbhr];refine qac (fun hc=> ?_) fun hc=> ?_
  ·rw[if_pos ⟨hja,decide_eq_true hc⟩];refine qa6 (by omega) (by omega) ?_;rw[zag];refine qak rfl (qa6 (by omega) (by omega) ?_);rw[zag];refine qak rfl (qa6 (by omega) (by omega) (qa6 (by omega) (by omega) ?_));rw[<- ih,ec];rfl
  ·rw[if_neg (by rw[decide_eq_false hc];simp)]
theorem xbi1(m a b:Nat)(l:List CV)(hr:rows4 m l=true)(hb:b<=l.length): ∀(f i:Nat),a<i->i<=b->b - i<f->qj1 ret4 f m a b i (insS (ltK ky4) l a i)=ret4 (insS (ltK ky4) l a b)
 | 0,_,_,_,_=>by omega
 | f+1,i,hi,hib,hf=>by
  obtain⟨hm,hl,hW⟩:=qba hr;show qin (qj1 ret4 f) ret4 m a b i (insS (ltK ky4) l a i)=_;unfold qin;refine qac (fun h=> ?_) fun h=>by rw[show i=b by omega]
  have hL:=qm8 (lt:=ltK ky4) l (show a<=i by omega) (by omega);have hr2:rows4 m (insS (ltK ky4) l a i)=true:=qhk ⟨by omega,by omega,fun c hc=>hW c (qu8 hc)⟩;rw[qab,q42 _ m a b i FUEL _ i hr2 (by omega) (by omega) (by unfold FUEL;omega),xbai (qei ky4) l (by omega) (by omega) (by unfold FUEL;omega)];dsimp only;rw[show IntKind.i64.wrap ((i:Int)+1)=((i+1:Nat):Int) from(i64_in _ (by omega)).trans (by omega)];exact xbi1 m a b l hr hb f (i+1) (by omega) (by omega) (by omega)
theorem q06(l:List CV)(a b:Nat):ins4 l a b=insS (ltK ky4) l a b:=by unfold ins4;rw[qab];rfl
theorem xbwy(m:Nat)(a b:Int)(l:List CV)(hp:(rows4 m l&&decide (0<=a/\a<=b/\b<=(m:Int)))=true):xbp0 m a b l=zR [] [some ⟨.gen 4 (ins4 l a b),false⟩]:=by
 rw[zab,decide_eq_true_eq] at hp;obtain⟨hr,h1,h2,h3⟩:=hp;obtain⟨e1,hl,hW⟩:=qba hr;obtain⟨a',rfl⟩:=Int.eq_ofNat_of_zero_le h1;obtain⟨b',rfl⟩:=Int.eq_ofNat_of_zero_le (show 0<=b by omega);unfold xbp0;rw[qab,q06];dsimp only;rw[show IntKind.i64.wrap ((a':Int)+1)=((a'+1:Nat):Int) from(i64_in _ (by omega)).trans (by omega)];by_cases h:a'< b'
 ·have:=xbi1 m a' b' l hr (by omega) FUEL (a'+1) (by omega) (by omega) (by unfold FUEL;omega);rw[qu7 l (show a'<=a'+1 by omega) (by omega) (by omega)] at this;exact this
 ·rw[qu7 l (show a'<=b' by omega) (by omega) (by omega)];have key: ∀f,0<f->qj1 ret4 f m a' b' ((a'+1:Nat):Int) l=ret4 l:=fun f hf=>by obtain⟨f,rfl⟩: ∃g,f=g+1:=⟨f - 1,by omega⟩;show qin (qj1 ret4 f) ret4 m a' b' ((a'+1:Nat):Int) l=_;unfold qin;exact qdt (by omega) rfl
  exact key FUEL (by unfold FUEL;omega)
theorem xbgn{m:Nat}{d:List CV}{i j:Nat}(h:rows3 m d=true):rows3 m (chg2 d i j)=true:=by obtain⟨e1,e2,e3⟩:=qa9 h;exact qi6 ⟨by rw[qmz];exact e1,by rw[qmz];exact e2,fun c hc=>e3 c (q9c hc)⟩
theorem q41(K:Nat->Int->Int->Int->List CV->Option Out)(m a:Nat)(b i:Int): ∀(f:Nat) (d:List CV) (j:Nat),rows3 m d=true->a<=j->j<d.length->j - a<f->
  qlv K f m a b i j d=K m a b i (slide (ltK ky3) f d a j)
 | 0,_,_,_,_,_,_=>by omega
 | f+1,d,j,hr,haj,hj,hf=>by
  obtain⟨hm,hl,hW⟩:=qa9 hr;show qqk (qlv K f) K m a b i j d=K m a b i (if a<j/\ltA (ltK ky3) d j (j - 1)=true then slide (ltK ky3) f (chg2 d j (j - 1)) a (j - 1) else d);unfold qqk;refine qac (fun h=> ?_) fun h=>by rw[if_neg (by omega)]
  have hja:a<j:=by omega
  obtain⟨x,hx⟩: ∃x,d[j]? =some x:=⟨_,zae hj⟩;obtain⟨y,hy⟩: ∃y,d[j - 1]? =some y:=⟨_,zae (by omega)⟩;have ec:=xbhq hx hy;have el:=qk2 (lt:=ltK ky3) hx hy;have hrc:=xbgn (i:=j) (j:=j - 1) hr;have ih:=q41 K m a b i f (chg2 d j (j - 1)) (j - 1) hrc (by omega) (by rw[qmz];omega) (by omega);obtain⟨b1,k1,w1,rfl,hw1⟩:=hW x (zac hx);obtain⟨b2,k2,w2,rfl,hw2⟩:=hW y (zac hy);rw[el];generalize qlv K f=ag at ih ⊢;have e1:IntKind.i64.wrap ((j:Int) - 1)=((j - 1:Nat):Int):=(i64_in _ (by omega)).trans (by omega);have n1:0+Int.toNat (j:Int)=j:=by omega
  have n2:0+Int.toNat ((j - 1:Nat):Int)=j - 1:=by omega
  simp only[e1,n1,n2];refine qa6 (by omega) (by omega) ?_;rw[hx,zag];refine qak rfl (qa6 (by omega) (by omega) ?_);rw[hy,zag];refine qak rfl (qak (c:=qad w1&&qad w2) (by rw[hw1,hw2];rfl) ?_);show cond (decide (qbk w1 w2<0)) _ _=K m a b i (if a<j/\decide (qao w1 w2<0)=true then _ else _);rw[xbhr];refine qac (fun hc=> ?_) fun hc=> ?_
  ·rw[if_pos ⟨hja,decide_eq_true hc⟩];refine qa6 (by omega) (by omega) ?_;rw[zag];refine qak rfl (qa6 (by omega) (by omega) ?_);rw[zag];refine qak rfl (qa6 (by omega) (by omega) (qa6 (by omega) (by omega) ?_));rw[<- ih,ec];rfl
  ·rw[if_neg (by rw[decide_eq_false hc];simp)]
theorem xbi0(m a b:Nat)(l:List CV)(hr:rows3 m l=true)(hb:b<=l.length): ∀(f i:Nat),a<i->i<=b->b - i<f->qj0 ret3 f m a b i (insS (ltK ky3) l a i)=ret3 (insS (ltK ky3) l a b)
 | 0,_,_,_,_=>by omega
 | f+1,i,hi,hib,hf=>by
  obtain⟨hm,hl,hW⟩:=qa9 hr;show qim (qj0 ret3 f) ret3 m a b i (insS (ltK ky3) l a i)=_;unfold qim;refine qac (fun h=> ?_) fun h=>by rw[show i=b by omega]
  have hL:=qm8 (lt:=ltK ky3) l (show a<=i by omega) (by omega);have hr2:rows3 m (insS (ltK ky3) l a i)=true:=qi6 ⟨by omega,by omega,fun c hc=>hW c (qu8 hc)⟩;rw[qab,q41 _ m a b i FUEL _ i hr2 (by omega) (by omega) (by unfold FUEL;omega),xbai (qei ky3) l (by omega) (by omega) (by unfold FUEL;omega)];dsimp only;rw[show IntKind.i64.wrap ((i:Int)+1)=((i+1:Nat):Int) from(i64_in _ (by omega)).trans (by omega)];exact xbi0 m a b l hr hb f (i+1) (by omega) (by omega) (by omega)
theorem q05(l:List CV)(a b:Nat):ins3 l a b=insS (ltK ky3) l a b:=by unfold ins3;rw[qab];rfl
theorem xbwx(m:Nat)(a b:Int)(l:List CV)(hp:(rows3 m l&&decide (0<=a/\a<=b/\b<=(m:Int)))=true):xbpz m a b l=zR [] [some ⟨.gen 3 (ins3 l a b),false⟩]:=by
 rw[zab,decide_eq_true_eq] at hp;obtain⟨hr,h1,h2,h3⟩:=hp;obtain⟨e1,hl,hW⟩:=qa9 hr;obtain⟨a',rfl⟩:=Int.eq_ofNat_of_zero_le h1;obtain⟨b',rfl⟩:=Int.eq_ofNat_of_zero_le (show 0<=b by omega);unfold xbpz;rw[qab,q05];dsimp only;rw[show IntKind.i64.wrap ((a':Int)+1)=((a'+1:Nat):Int) from(i64_in _ (by omega)).trans (by omega)];by_cases h:a'< b'
 ·have:=xbi0 m a' b' l hr (by omega) FUEL (a'+1) (by omega) (by omega) (by unfold FUEL;omega);rw[qu7 l (show a'<=a'+1 by omega) (by omega) (by omega)] at this;exact this
 ·rw[qu7 l (show a'<=b' by omega) (by omega) (by omega)];have key: ∀f,0<f->qj0 ret3 f m a' b' ((a'+1:Nat):Int) l=ret3 l:=fun f hf=>by obtain⟨f,rfl⟩: ∃g,f=g+1:=⟨f - 1,by omega⟩;show qim (qj0 ret3 f) ret3 m a' b' ((a'+1:Nat):Int) l=_;unfold qim;exact qdt (by omega) rfl
  exact key FUEL (by unfold FUEL;omega)
open IntWalk (i64_in u8_in u32_in u64_in i64_quo u8_quo rem_in)
theorem xbv8{α:Type}{lt:α->α->Bool}{u v:List α}{c:α}(h:c∈mg lt u v):c∈u\/c∈v:=List.mem_merge.1 h
theorem qtb{α:Type}{d:List α}{a b:Nat}{c:α}(h:c∈seg d a b):c∈d:=zba (zbi h)
theorem xbdo{α:Type}{lt:α->α->Bool}{d:List α}{a m b:Nat}{c:α}(h:c∈symS lt d a m b):c∈d:=by
 unfold symS pu at h;rcases zak.1 h with h|h
 ·exact zba h
 ·rcases zak.1 h with h|h
  ·exact(xbv8 h).elim qtb qtb
  ·exact zbi h
theorem qoh{ky:CV->List Int}{l:List CV}{a p b:Nat}(h1:Srt (ltK ky) (seg l a p))(h2:Srt (ltK ky) (seg l p b)):xboz ky l a p b=true:=by unfold xboz;rw[qab];exact @decide_eq_true _ (Classical.propDecidable _) ⟨h1,h2⟩
theorem q3l{ky:CV->List Int}{l:List CV}{a p b:Nat}(h:xboz ky l a p b=true):Srt (ltK ky) (seg l a p)/\Srt (ltK ky) (seg l p b):=by unfold xboz at h;rw[qab] at h;exact @of_decide_eq_true _ (Classical.propDecidable _) h
theorem q4s{m:Nat}{d:List CV}{a b:Nat}(h:rows4 m d=true)(h1:a<=b)(h2:b<=d.length):rows4 m (insS (ltK ky4) d a b)=true:=by obtain⟨e1,e2,e3⟩:=qba h;have:=qm8 (lt:=ltK ky4) d h1 h2;exact qhk ⟨by omega,by omega,fun c hc=>e3 c (qu8 hc)⟩
theorem qrd{m:Nat}{d:List CV}{a p b:Nat}(h:rows4 m d=true)(h1:a<=p)(h2:p<=b)(h3:b<=d.length):rows4 m (symS (ltK ky4) d a p b)=true:=by obtain⟨e1,e2,e3⟩:=qba h;have:=q2e (lt:=ltK ky4) d h1 h2 h3;exact qhk ⟨by omega,by omega,fun c hc=>e3 c (xbdo hc)⟩
theorem qrs(l:List CV)(a p b:Nat):sym4 l a p b=symS (ltK ky4) l a p b:=by unfold sym4;rw[qab];rfl
theorem xbhn(K:Nat->Int->Int->List CV->Option Out)(m:Nat)(d0:List CV)(h0:d0.length=m)(hm:m<=2000): ∀(f a:Nat) (d:List CV),rows4 m d=true->xbhk (ltK ky4) 20 d0 d a->a<=m->m - a<f->
  ∃(a':Nat) (d':List CV),qlz K f m m a ((a+20:Nat):Int) d=K m m (a':Int) d'/\rows4 m d'=true/\xbhk (ltK ky4) 20 d0 d' a'/\a'<=m/\m<a'+20
 | 0,_,_,_,_,_,_=>by omega
 | f+1,a,d,hr,hd,ha,hf=>by
  obtain⟨e1,e2,e3⟩:=qba hr;by_cases h:a+20<=m
  ·obtain⟨a',d',g1,g2⟩:=xbhn K m d0 h0 hm f (a+20) _ (q4s hr (show a<=a+20 by omega) (by omega)) (qxf (by omega) (by omega) hd) h (by omega);refine⟨a',d', ?_,g2⟩;rw[<- g1];show qiq (qlz K f) K m m a ((a+20:Nat):Int) d=_;unfold qiq;refine qas (by omega) (qak (by rw[hr];simp;omega) ?_);rw[q06,show IntKind.i64.wrap (((a+20:Nat):Int)+20)=((a+20+20:Nat):Int) from(i64_in _ (by omega)).trans (by omega)]
  ·refine⟨a,d, ?_,hr,hd,ha,by omega⟩;show qiq (qlz K f) K m m a ((a+20:Nat):Int) d=_;unfold qiq;exact qdt (by omega) rfl
theorem xbbu(K:Nat->Int->Int->Int->List CV->Option Out)(m s:Nat)(d0:List CV)(h0:d0.length=m)(hm:m<=2000)(hs:0<s)(hs2:s<=4000): ∀(f a:Nat) (d:List CV),rows4 m d=true->Done (ltK ky4) (2*s) d0 (bk (ltK ky4) s (d0.drop a)) d a->a<=m->m - a<f->
  ∃(a':Nat) (d':List CV),ql0 K f m m s a ((a+2*s:Nat):Int) d=K m m s (a':Int) d'/\rows4 m d'=true/\Done (ltK ky4) (2*s) d0 (bk (ltK ky4) s (d0.drop a')) d' a'/\a'<=m/\m<a'+2*s
 | 0,_,_,_,_,_,_=>by omega
 | f+1,a,d,hr,hd,ha,hf=>by
  obtain⟨e1,e2,e3⟩:=qba hr;by_cases h:a+2*s<=m
  ·obtain⟨q1,q2,q3⟩:=q4j (qei ky4) hs (by omega) hd;obtain⟨a',d',g1,g2⟩:=xbbu K m s d0 h0 hm hs hs2 f (a+2*s) _ (qrd hr (show a<=a+s by omega) (by omega) (by omega)) q3 h (by omega);refine⟨a',d', ?_,g2⟩;rw[<- g1];show qir (ql0 K f) K m m s a ((a+2*s:Nat):Int) d=_;unfold qir;have w1:IntKind.i64.wrap ((a:Int)+s)=((a+s:Nat):Int):=(i64_in _ (by omega)).trans (by omega);have w2:IntKind.i64.wrap ((2:Int)*s)=((2*s:Nat):Int):=(i64_in _ (by omega)).trans (by omega);have w3:IntKind.i64.wrap (((a+2*s:Nat):Int)+((2*s:Nat):Int))=((a+2*s+2*s:Nat):Int):=(i64_in _ (by omega)).trans (by omega);simp only[w1,w2,w3];refine qas (by omega) (qak (by rw[hr,qfs (by omega),show half4 d a ((a+s:Nat):Int) ((a+2*s:Nat):Int)=true from qoh q1 q2];rfl) ?_);rw[qrs]
  ·refine⟨a,d, ?_,hr,hd,ha,by omega⟩;show qir (ql0 K f) K m m s a ((a+2*s:Nat):Int) d=_;unfold qir;exact qdt (by omega) rfl
theorem xbde(m:Nat)(d0:List CV)(h0:d0.length=m)(hm:m<=2000)(hW: ∀c∈d0,W4A c): ∀(f s:Nat),0<f->0<s->s<=4000->m<s+f->rows4 m (bk (ltK ky4) s d0)=true->qhb ret4 f m m s (bk (ltK ky4) s d0)=ret4 (isort (ltK ky4) d0)
 | 0,s,hf0,hs,hs2,hf,hr=>by omega
 | f+1,s,hf0,hs,hs2,hf,hr=>by
  show qqp (qhb ret4 f) ret4 m m s (bk (ltK ky4) s d0)=_;unfold qqp;refine qac (fun h=> ?_) fun h=>by rw[xbbv (by omega)]
  have w2:IntKind.i64.wrap ((2:Int)*s)=((0+2*s:Nat):Int):=(i64_in _ (by omega)).trans (by omega);have w3:IntKind.i64.wrap ((s:Int)*2)=((2*s:Nat):Int):=(i64_in _ (by omega)).trans (by omega);rw[qab];simp only[w2];obtain⟨a',d',g1,g2,g3,g4,g5⟩:=xbbu (fun(y7:Nat) (y8 y9 y10:Int) (y11:List CV)=>cond (decide (IntKind.i64.wrap (y10+y9)<y8)) (cond (rows4 y7 y11&&(qdq y7 y10 (IntKind.i64.wrap (y10+y9)) y8&&half4 y11 y10 (IntKind.i64.wrap (y10+y9)) y8)) (qhb ret4 f y7 y8 (IntKind.i64.wrap (y9*2)) (sym4 y11 y10 (IntKind.i64.wrap (y10+y9)) y8)) none) (qhb ret4 f y7 y8 (IntKind.i64.wrap (y9*2)) y11)) m s d0 h0 hm hs hs2 FUEL 0 _ hr (q4i d0) (by omega) (by unfold FUEL;omega);refine(show _=_ from g1).trans ?_;obtain⟨p1,p2⟩:=xbbw (qei ky4) hs (show a'<=d0.length by omega) (by omega) g3;rw[h0] at p1 p2;obtain⟨e1,e2,e3⟩:=qba g2;have w1:IntKind.i64.wrap ((a':Int)+s)=((a'+s:Nat):Int):=(i64_in _ (by omega)).trans (by omega);rw[w1,w3];refine qac (fun h1=> ?_) fun h1=> ?_
  ·have h1:a'+s<m:=by omega
   obtain⟨q1,q2⟩:=p1 h1;rw[if_pos h1] at p2;refine qak (by rw[g2,qfs (by omega),show half4 d' a' ((a'+s:Nat):Int) (m:Int)=true from qoh q1 q2];rfl) ?_;have hr2:=qrd g2 (show a'<=a'+s by omega) (show a'+s<=m by omega) (by omega);rw[p2] at hr2;rw[qrs,p2];exact xbde m d0 h0 hm hW f (2*s) (by omega) (by omega) (by omega) (by omega) hr2
  ·have h1: ¬a'+s<m:=by omega
   rw[if_neg h1] at p2;rw[p2] at g2 ⊢;exact xbde m d0 h0 hm hW f (2*s) (by omega) (by omega) (by omega) (by omega) g2
theorem xbug(l:List CV):srt4 l=isort (ltK ky4) l:=by unfold srt4;rw[qab]
theorem xbw7(m:Nat)(n:Int)(l:List CV)(hp:(rows4 m l&&decide (n=(m:Int)))=true):xbp9 m n l=zR [] [some ⟨.gen 4 (srt4 l),false⟩]:=by rw[zab,decide_eq_true_eq] at hp;obtain⟨hr,rfl⟩:=hp;obtain⟨e1,hl,hW⟩:=qba hr;unfold xbp9;rw[qab,xbug];obtain⟨a',d',g1,g2,g3,g4,g5⟩:=xbhn (fun(y1:Nat) (y2 y3:Int) (y4:List CV)=>cond (rows4 y1 y4&&decide (0<=y3/\y3<=y2/\y2<=(y1:Int))) (shut (qhb ret4 FUEL) y1 y2 20 (ins4 y4 y3 y2)) none) m l e1.symm (by omega) FUEL 0 l hr (qxe l) (by omega) (by unfold FUEL;omega);refine(show _=_ from g1).trans ?_;refine qak (by rw[g2];simp;omega) ?_;have hb:=q2w (lt:=ltK ky4) (s:=20) (show a'<=l.length by omega) (by omega) g3;obtain⟨e2,_,_⟩:=qba g2;have hr2:=q4s g2 (show a'<=m by omega) (by omega);rw[e1,hb] at hr2;rw[qab,q06,e1,hb];rw[<- e1] at hr2 ⊢;exact xbde m l e1.symm (by omega) hW FUEL 20 (by unfold FUEL;omega) (by omega) (by omega) (by unfold FUEL;omega) hr2
theorem xbrv(m:Nat)(l:List CV)(hp:rows4 m l=true):xbp7 m l=zR [] [some ⟨.gen 4 (srt4 l),false⟩]:=qak (by rw[hp];simp) rfl
theorem q4q{m:Nat}{d:List CV}{a b:Nat}(h:rows3 m d=true)(h1:a<=b)(h2:b<=d.length):rows3 m (insS (ltK ky3) d a b)=true:=by obtain⟨e1,e2,e3⟩:=qa9 h;have:=qm8 (lt:=ltK ky3) d h1 h2;exact qi6 ⟨by omega,by omega,fun c hc=>e3 c (qu8 hc)⟩
theorem qrc{m:Nat}{d:List CV}{a p b:Nat}(h:rows3 m d=true)(h1:a<=p)(h2:p<=b)(h3:b<=d.length):rows3 m (symS (ltK ky3) d a p b)=true:=by obtain⟨e1,e2,e3⟩:=qa9 h;have:=q2e (lt:=ltK ky3) d h1 h2 h3;exact qi6 ⟨by omega,by omega,fun c hc=>e3 c (xbdo hc)⟩
theorem qrr(l:List CV)(a p b:Nat):sym3 l a p b=symS (ltK ky3) l a p b:=by unfold sym3;rw[qab];rfl
theorem xbhm(K:Nat->Int->Int->List CV->Option Out)(m:Nat)(d0:List CV)(h0:d0.length=m)(hm:m<=2000): ∀(f a:Nat) (d:List CV),rows3 m d=true->xbhk (ltK ky3) 20 d0 d a->a<=m->m - a<f->
  ∃(a':Nat) (d':List CV),qlx K f m m a ((a+20:Nat):Int) d=K m m (a':Int) d'/\rows3 m d'=true/\xbhk (ltK ky3) 20 d0 d' a'/\a'<=m/\m<a'+20
 | 0,_,_,_,_,_,_=>by omega
 | f+1,a,d,hr,hd,ha,hf=>by
  obtain⟨e1,e2,e3⟩:=qa9 hr;by_cases h:a+20<=m
  ·obtain⟨a',d',g1,g2⟩:=xbhm K m d0 h0 hm f (a+20) _ (q4q hr (show a<=a+20 by omega) (by omega)) (qxf (by omega) (by omega) hd) h (by omega);refine⟨a',d', ?_,g2⟩;rw[<- g1];show qio (qlx K f) K m m a ((a+20:Nat):Int) d=_;unfold qio;refine qas (by omega) (qak (by rw[hr];simp;omega) ?_);rw[q05,show IntKind.i64.wrap (((a+20:Nat):Int)+20)=((a+20+20:Nat):Int) from(i64_in _ (by omega)).trans (by omega)]
  ·refine⟨a,d, ?_,hr,hd,ha,by omega⟩;show qio (qlx K f) K m m a ((a+20:Nat):Int) d=_;unfold qio;exact qdt (by omega) rfl
theorem xbbt(K:Nat->Int->Int->Int->List CV->Option Out)(m s:Nat)(d0:List CV)(h0:d0.length=m)(hm:m<=2000)(hs:0<s)(hs2:s<=4000): ∀(f a:Nat) (d:List CV),rows3 m d=true->Done (ltK ky3) (2*s) d0 (bk (ltK ky3) s (d0.drop a)) d a->a<=m->m - a<f->
  ∃(a':Nat) (d':List CV),qly K f m m s a ((a+2*s:Nat):Int) d=K m m s (a':Int) d'/\rows3 m d'=true/\Done (ltK ky3) (2*s) d0 (bk (ltK ky3) s (d0.drop a')) d' a'/\a'<=m/\m<a'+2*s
 | 0,_,_,_,_,_,_=>by omega
 | f+1,a,d,hr,hd,ha,hf=>by
  obtain⟨e1,e2,e3⟩:=qa9 hr;by_cases h:a+2*s<=m
  ·obtain⟨q1,q2,q3⟩:=q4j (qei ky3) hs (by omega) hd;obtain⟨a',d',g1,g2⟩:=xbbt K m s d0 h0 hm hs hs2 f (a+2*s) _ (qrc hr (show a<=a+s by omega) (by omega) (by omega)) q3 h (by omega);refine⟨a',d', ?_,g2⟩;rw[<- g1];show qip (qly K f) K m m s a ((a+2*s:Nat):Int) d=_;unfold qip;have w1:IntKind.i64.wrap ((a:Int)+s)=((a+s:Nat):Int):=(i64_in _ (by omega)).trans (by omega);have w2:IntKind.i64.wrap ((2:Int)*s)=((2*s:Nat):Int):=(i64_in _ (by omega)).trans (by omega);have w3:IntKind.i64.wrap (((a+2*s:Nat):Int)+((2*s:Nat):Int))=((a+2*s+2*s:Nat):Int):=(i64_in _ (by omega)).trans (by omega);simp only[w1,w2,w3];refine qas (by omega) (qak (by rw[hr,qfs (by omega),show half3 d a ((a+s:Nat):Int) ((a+2*s:Nat):Int)=true from qoh q1 q2];rfl) ?_);rw[qrr]
  ·refine⟨a,d, ?_,hr,hd,ha,by omega⟩;show qip (qly K f) K m m s a ((a+2*s:Nat):Int) d=_;unfold qip;exact qdt (by omega) rfl
theorem xbdd(m:Nat)(d0:List CV)(h0:d0.length=m)(hm:m<=2000)(hW: ∀c∈d0,W3A c): ∀(f s:Nat),0<f->0<s->s<=4000->m<s+f->rows3 m (bk (ltK ky3) s d0)=true->qha ret3 f m m s (bk (ltK ky3) s d0)=ret3 (isort (ltK ky3) d0)
 | 0,s,hf0,hs,hs2,hf,hr=>by omega
 | f+1,s,hf0,hs,hs2,hf,hr=>by
  show qqo (qha ret3 f) ret3 m m s (bk (ltK ky3) s d0)=_;unfold qqo;refine qac (fun h=> ?_) fun h=>by rw[xbbv (by omega)]
  have w2:IntKind.i64.wrap ((2:Int)*s)=((0+2*s:Nat):Int):=(i64_in _ (by omega)).trans (by omega);have w3:IntKind.i64.wrap ((s:Int)*2)=((2*s:Nat):Int):=(i64_in _ (by omega)).trans (by omega);rw[qab];simp only[w2];obtain⟨a',d',g1,g2,g3,g4,g5⟩:=xbbt (fun(y7:Nat) (y8 y9 y10:Int) (y11:List CV)=>cond (decide (IntKind.i64.wrap (y10+y9)<y8)) (cond (rows3 y7 y11&&(qdq y7 y10 (IntKind.i64.wrap (y10+y9)) y8&&half3 y11 y10 (IntKind.i64.wrap (y10+y9)) y8)) (qha ret3 f y7 y8 (IntKind.i64.wrap (y9*2)) (sym3 y11 y10 (IntKind.i64.wrap (y10+y9)) y8)) none) (qha ret3 f y7 y8 (IntKind.i64.wrap (y9*2)) y11)) m s d0 h0 hm hs hs2 FUEL 0 _ hr (q4i d0) (by omega) (by unfold FUEL;omega);refine(show _=_ from g1).trans ?_;obtain⟨p1,p2⟩:=xbbw (qei ky3) hs (show a'<=d0.length by omega) (by omega) g3;rw[h0] at p1 p2;obtain⟨e1,e2,e3⟩:=qa9 g2;have w1:IntKind.i64.wrap ((a':Int)+s)=((a'+s:Nat):Int):=(i64_in _ (by omega)).trans (by omega);rw[w1,w3];refine qac (fun h1=> ?_) fun h1=> ?_
  ·have h1:a'+s<m:=by omega
   obtain⟨q1,q2⟩:=p1 h1;rw[if_pos h1] at p2;refine qak (by rw[g2,qfs (by omega),show half3 d' a' ((a'+s:Nat):Int) (m:Int)=true from qoh q1 q2];rfl) ?_;have hr2:=qrc g2 (show a'<=a'+s by omega) (show a'+s<=m by omega) (by omega);rw[p2] at hr2;rw[qrr,p2];exact xbdd m d0 h0 hm hW f (2*s) (by omega) (by omega) (by omega) (by omega) hr2
  ·have h1: ¬a'+s<m:=by omega
   rw[if_neg h1] at p2;rw[p2] at g2 ⊢;exact xbdd m d0 h0 hm hW f (2*s) (by omega) (by omega) (by omega) (by omega) g2
theorem xbue(l:List CV):srt3 l=isort (ltK ky3) l:=by unfold srt3;rw[qab]
theorem xbw6(m:Nat)(n:Int)(l:List CV)(hp:(rows3 m l&&decide (n=(m:Int)))=true):xbp8 m n l=zR [] [some ⟨.gen 3 (srt3 l),false⟩]:=by rw[zab,decide_eq_true_eq] at hp;obtain⟨hr,rfl⟩:=hp;obtain⟨e1,hl,hW⟩:=qa9 hr;unfold xbp8;rw[qab,xbue];obtain⟨a',d',g1,g2,g3,g4,g5⟩:=xbhm (fun(y1:Nat) (y2 y3:Int) (y4:List CV)=>cond (rows3 y1 y4&&decide (0<=y3/\y3<=y2/\y2<=(y1:Int))) (shut (qha ret3 FUEL) y1 y2 20 (ins3 y4 y3 y2)) none) m l e1.symm (by omega) FUEL 0 l hr (qxe l) (by omega) (by unfold FUEL;omega);refine(show _=_ from g1).trans ?_;refine qak (by rw[g2];simp;omega) ?_;have hb:=q2w (lt:=ltK ky3) (s:=20) (show a'<=l.length by omega) (by omega) g3;obtain⟨e2,_,_⟩:=qa9 g2;have hr2:=q4q g2 (show a'<=m by omega) (by omega);rw[e1,hb] at hr2;rw[qab,q05,e1,hb];rw[<- e1] at hr2 ⊢;exact xbdd m l e1.symm (by omega) hW FUEL 20 (by unfold FUEL;omega) (by omega) (by omega) (by unfold FUEL;omega) hr2
theorem xbru(m:Nat)(l:List CV)(hp:rows3 m l=true):xbp6 m l=zR [] [some ⟨.gen 3 (srt3 l),false⟩]:=qak (by rw[hp];simp) rfl
open IntWalk (i64_in u8_in u32_in u64_in i64_quo u8_quo rem_in)
theorem qh7{a b:Nat}(h:a+b<=8000):IntKind.i64.wrap (Int.fdiv (IntKind.u64.wrap (IntKind.i64.wrap ((a:Int)+b))) (2 ^ 1))=(((a+b)/ 2:Nat):Int):=by rw[i64_in ((a:Int)+b) (by omega),u64_in ((a:Int)+b) (by omega),show Int.fdiv ((a:Int)+b) (2 ^ 1)=(((a+b)/ 2:Nat):Int) by rw[zb3 _ (by decide)];omega,i64_in _ (by omega)]
theorem xboy{P Q:Prop}[Decidable P][Decidable Q]{X Y R:Option Out}(h1:P/\Q->X=R)(h2: ¬(P/\Q)->Y=R):cond (decide P) (cond (decide Q) X Y) Y=R:=
 qac (fun hp=>qac (fun hq=>h1 ⟨hp,hq⟩) fun hq=>h2 fun h=>hq h.2) fun hp=>h2 fun h=>hp h.1
theorem q4z{α:Type}{d:List α}{a:Nat}{x:α}(hx:d[a]? =some x):pu d a (a+1) (seg d (a+1) (a+1)++[x])=d:=by
 have hl:a<d.length:=by
  rcases zbo a d.length with h|h
  ·exact h
  ·rw[zay h] at hx;cases hx
 rw[qtc,za0, <- q4w d hx,qyb d (by omega) (by omega)]
theorem q4y{α:Type}{d:List α}{m:Nat}{y:α}(hy:d[m]? =some y):pu d m (m+1) (y::seg d m m)=d:=by
 have hl:m<d.length:=by
  rcases zbo m d.length with h|h
  ·exact h
  ·rw[zay h] at hy;cases hy
 rw[qtc, <- q4w d hy,qyb d (by omega) (by omega)]
theorem xbcu{α:Type}{d:List α}{a k:Nat}{x:α}(hak:a<=k)(hk:k+1<d.length): ∃z,d[k+1]? =some z/\(pu d a (k+1) (seg d (a+1) (k+1)++[x]))[k]? =some x/\(pu d a (k+1) (seg d (a+1) (k+1)++[x]))[k+1]? =some z/\
  ((pu d a (k+1) (seg d (a+1) (k+1)++[x])).set k z).set (k+1) x=pu d a (k+1+1) (seg d (a+1) (k+1+1)++[x]):=by
 have hz:=zae hk;have hs:=qbn d (a:=a+1) (b:=k+1) (by omega);have hs2:=qbn d (a:=a+1) (b:=k+1+1) (by omega);have hL:(seg d (a+1) (k+1)++[x]).length=k+1 - a:=by rw[zah,hs,zbu];omega
 have hL2:(seg d (a+1) (k+1+1)++[x]).length=k+1+1 - a:=by rw[zah,hs2,zbu];omega
 have g:=fun i=>qnz d (a:=a) (b:=k+1) (s:=seg d (a+1) (k+1)++[x]) (by omega) (by omega) hL i;refine⟨_,hz, ?_, ?_, ?_⟩
 ·rw[g,if_pos (by omega),zav (by omega),hs,show k - a - (k+1 - (a+1))=0 by omega];rfl
 ·rw[g,if_neg (by omega)];exact hz
 ·refine List.ext_getElem? fun i=> ?_;rw[List.getElem?_set,List.getElem?_set,g,qnz d (by omega) (by omega) hL2,List.length_set,qya d (by omega) (by omega) hL];by_cases h1:k+1=i
  ·rw[if_pos h1,if_pos (by omega),if_pos (by omega),zav (by omega),hs2,show i - a - (k+1+1 - (a+1))=0 by omega];rfl
  ·rw[if_neg h1];by_cases h2:k=i
   ·rw[if_pos h2,if_pos (by omega),if_pos (by omega),zax (by omega),qdn d (by omega),show a+1+(i - a)=k+1 by omega];exact hz.symm
   ·rw[if_neg h2];by_cases h3:a<=i/\i<k+1
    ·rw[if_pos h3,if_pos (by omega),zax (by omega),zax (by omega),qdn d (by omega),qdn d (by omega)]
    ·rw[if_neg h3,if_neg (by omega)]
theorem xbct{α:Type}{d:List α}{m k:Nat}{y:α}(hk:0<k)(hkm:k<=m)(hm:m<d.length): ∃z,d[k - 1]? =some z/\(pu d k (m+1) (y::seg d k m))[k]? =some y/\(pu d k (m+1) (y::seg d k m))[k - 1]? =some z/\
  ((pu d k (m+1) (y::seg d k m)).set k z).set (k - 1) y=pu d (k - 1) (m+1) (y::seg d (k - 1) m):=by
 have hz:d[k - 1]? =some _:=zae (show k - 1<d.length by omega);have hs:=qbn d (a:=k) (b:=m) (by omega);have hs2:=qbn d (a:=k - 1) (b:=m) (by omega);have hL:(y::seg d k m).length=m+1 - k:=by rw[zaf,hs];omega
 have hL2:(y::seg d (k - 1) m).length=m+1 - (k - 1):=by rw[zaf,hs2];omega
 have g:=fun i=>qnz d (a:=k) (b:=m+1) (s:=y::seg d k m) (by omega) (by omega) hL i;refine⟨_,hz, ?_, ?_, ?_⟩
 ·rw[g,if_pos (by omega),show k - k=0 by omega];rfl
 ·rw[g,if_neg (by omega)];exact hz
 ·refine List.ext_getElem? fun i=> ?_;rw[List.getElem?_set,List.getElem?_set,g,qnz d (by omega) (by omega) hL2,List.length_set,qya d (by omega) (by omega) hL];by_cases h1:k - 1=i
  ·rw[if_pos h1,if_pos (by omega),if_pos (by omega),show i - (k - 1)=0 by omega];rfl
  ·rw[if_neg h1];by_cases h2:k=i
   ·rw[if_pos h2,if_pos (by omega),if_pos (by omega),show i - (k - 1)=0+1 by omega,za3,qdn d (by omega),show k - 1+0=k - 1 by omega];exact hz.symm
   ·rw[if_neg h2];by_cases h3:k<=i/\i<m+1
    ·rw[if_pos h3,if_pos (by omega),show i - k=(i - k - 1)+1 by omega,za3,show i - (k - 1)=(i - k)+1 by omega,za3,qdn d (by omega),qdn d (by omega),show k+(i - k - 1)=k - 1+(i - k) by omega]
    ·rw[if_neg h3,if_neg (by omega)]
theorem q1u(K:Nat->Int->Int->List CV->Option Out)(rk m a:Nat)(d:List CV)(hr:rows4 m d=true)(ha:a<d.length): ∀(f lo hi:Nat),lo<=hi->hi<=d.length->hi - lo<f->ql5 rk K f m a lo hi d=K m a ((bsr (fun h=>ltA (ltK ky4) d h a) f lo hi:Nat):Int) d
 | 0,_,_,_,_,_=>by omega
 | f+1,lo,hi,h1,h2,hf=>by
  obtain⟨hm,hl,hW⟩:=qba hr;show qqs rk (ql5 rk K f) K m a lo hi d=K m a ((if lo<hi then(if ltA (ltK ky4) d ((lo+hi)/ 2) a=true then bsr (fun h=>ltA (ltK ky4) d h a) f ((lo+hi)/ 2+1) hi else bsr (fun h=>ltA (ltK ky4) d h a) f lo ((lo+hi)/ 2)) else lo:Nat):Int) d;unfold qqs;refine qac (fun h=> ?_) fun h=>by rw[if_neg (by omega)]
  have hlh:lo<hi:=by omega
  rw[if_pos hlh];obtain⟨x,hx⟩: ∃x,d[(lo+hi)/ 2]? =some x:=⟨_,zae (by omega)⟩;obtain⟨y,hy⟩: ∃y,d[a]? =some y:=⟨_,zae ha⟩;have el:=qk2 (lt:=ltK ky4) hx hy;have ih1:=q1u K rk m a d hr ha f ((lo+hi)/ 2+1) hi (by omega) (by omega) (by omega);have ih2:=q1u K rk m a d hr ha f lo ((lo+hi)/ 2) (by omega) (by omega) (by omega);obtain⟨t1,b1,k1,w1,rfl,hw1⟩:=hW x (zac hx);obtain⟨t2,b2,k2,w2,rfl,hw2⟩:=hW y (zac hy);rw[el];generalize ql5 rk K f=ag at ih1 ih2 ⊢;have e1:=qh7 (a:=lo) (b:=hi) (by omega);have e2:IntKind.i64.wrap ((((lo+hi)/ 2:Nat):Int)+1)=(((lo+hi)/ 2+1:Nat):Int):=(i64_in _ (by omega)).trans (by omega);have n1:0+Int.toNat (((lo+hi)/ 2:Nat):Int)=(lo+hi)/ 2:=by omega
  have n2:0+Int.toNat (a:Int)=a:=by omega
  dsimp only;simp only[e1,e2,n1,n2];refine qa6 (by omega) (by omega) ?_;rw[hx,zag];refine qak rfl (qa6 (by omega) (by omega) ?_);rw[hy,zag];refine qak rfl (qak (c:=qad w1&&qad w2) (by rw[hw1,hw2];rfl) ?_);show cond (decide (qbk w1 w2<0)) _ _=K m a ((if decide (qao w1 w2<0)=true then _ else _:Nat):Int) d;rw[xbhr];refine qac (fun hc=> ?_) fun hc=> ?_
  ·rw[if_pos (decide_eq_true hc)];exact ih1
  ·rw[if_neg (by rw[decide_eq_false hc];simp)];exact ih2
theorem q1w(K:Nat->Int->Int->List CV->Option Out)(rk m p:Nat)(d:List CV)(hr:rows4 m d=true)(ha:p<d.length): ∀(f lo hi:Nat),lo<=hi->hi<=d.length->hi - lo<f->qiv rk K f m p lo hi d=K m p ((bsr (fun h=> !(ltA (ltK ky4) d p h)) f lo hi:Nat):Int) d
 | 0,_,_,_,_,_=>by omega
 | f+1,lo,hi,h1,h2,hf=>by
  obtain⟨hm,hl,hW⟩:=qba hr;show qnj rk (qiv rk K f) K m p lo hi d=K m p ((if lo<hi then(if(!(ltA (ltK ky4) d p ((lo+hi)/ 2)))=true then bsr (fun h=> !(ltA (ltK ky4) d p h)) f ((lo+hi)/ 2+1) hi else bsr (fun h=> !(ltA (ltK ky4) d p h)) f lo ((lo+hi)/ 2)) else lo:Nat):Int) d;unfold qnj;refine qac (fun h=> ?_) fun h=>by rw[if_neg (by omega)]
  have hlh:lo<hi:=by omega
  rw[if_pos hlh];obtain⟨x,hx⟩: ∃x,d[p]? =some x:=⟨_,zae ha⟩;obtain⟨y,hy⟩: ∃y,d[(lo+hi)/ 2]? =some y:=⟨_,zae (by omega)⟩;have el:=qk2 (lt:=ltK ky4) hx hy;have ih1:=q1w K rk m p d hr ha f ((lo+hi)/ 2+1) hi (by omega) (by omega) (by omega);have ih2:=q1w K rk m p d hr ha f lo ((lo+hi)/ 2) (by omega) (by omega) (by omega);obtain⟨t1,b1,k1,w1,rfl,hw1⟩:=hW x (zac hx);obtain⟨t2,b2,k2,w2,rfl,hw2⟩:=hW y (zac hy);rw[el];generalize qiv rk K f=ag at ih1 ih2 ⊢;have e1:=qh7 (a:=lo) (b:=hi) (by omega);have e2:IntKind.i64.wrap ((((lo+hi)/ 2:Nat):Int)+1)=(((lo+hi)/ 2+1:Nat):Int):=(i64_in _ (by omega)).trans (by omega);have n1:0+Int.toNat (((lo+hi)/ 2:Nat):Int)=(lo+hi)/ 2:=by omega
  have n2:0+Int.toNat (p:Int)=p:=by omega
  dsimp only;simp only[e1,e2,n1,n2];refine qa6 (by omega) (by omega) ?_;rw[hx,zag];refine qak rfl (qa6 (by omega) (by omega) ?_);rw[hy,zag];refine qak rfl (qak (c:=qad w1&&qad w2) (by rw[hw1,hw2];rfl) ?_);show cond (!(decide (qbk w1 w2<0))) _ _=K m p ((if(!(decide (qao w1 w2<0)))=true then _ else _:Nat):Int) d;rw[xbhr];refine qa2 (fun hc=> ?_) fun hc=> ?_
  ·rw[if_pos (by rw[decide_eq_false hc];rfl)];exact ih1
  ·rw[if_neg (by rw[decide_eq_true hc];simp)];exact ih2
theorem q1s(K:Nat->Int->Int->Int->Int->Int->Int->List CV->Option Out)(rk m:Nat)(a p b mid n:Int)(q:Nat)(d:List CV)(hr:rows4 m d=true)(hq:q<=8000): ∀(f lo hi:Nat),lo<=hi->hi<=d.length->(∀c,lo<=c->c<hi->c<=q/\q - c<d.length)->hi - lo<f->qix rk K f m a p b mid n lo hi q d=K m a p b mid n ((bsr (fun c=> !(ltA (ltK ky4) d (q - c) c)) f lo hi:Nat):Int) d
 | 0,_,_,_,_,_,_=>by omega
 | f+1,lo,hi,h1,h2,h3,hf=>by
  obtain⟨hm,hl,hW⟩:=qba hr;show qnl rk (qix rk K f) K m a p b mid n lo hi q d=K m a p b mid n ((if lo<hi then(if(!(ltA (ltK ky4) d (q - (lo+hi)/ 2) ((lo+hi)/ 2)))=true then bsr (fun c=> !(ltA (ltK ky4) d (q - c) c)) f ((lo+hi)/ 2+1) hi else bsr (fun c=> !(ltA (ltK ky4) d (q - c) c)) f lo ((lo+hi)/ 2)) else lo:Nat):Int) d;unfold qnl;refine qac (fun h=> ?_) fun h=>by rw[if_neg (by omega)]
  have hlh:lo<hi:=by omega
  rw[if_pos hlh];obtain⟨hc1,hc2⟩:=h3 ((lo+hi)/ 2) (by omega) (by omega);obtain⟨x,hx⟩: ∃x,d[q - (lo+hi)/ 2]? =some x:=⟨_,zae hc2⟩;obtain⟨y,hy⟩: ∃y,d[(lo+hi)/ 2]? =some y:=⟨_,zae (by omega)⟩;have el:=qk2 (lt:=ltK ky4) hx hy;have ih1:=q1s K rk m a p b mid n q d hr hq f ((lo+hi)/ 2+1) hi (by omega) (by omega) (fun c hc hd=>h3 c (by omega) hd) (by omega);have ih2:=q1s K rk m a p b mid n q d hr hq f lo ((lo+hi)/ 2) (by omega) (by omega) (fun c hc hd=>h3 c hc (by omega)) (by omega);obtain⟨t1,b1,k1,w1,rfl,hw1⟩:=hW x (zac hx);obtain⟨t2,b2,k2,w2,rfl,hw2⟩:=hW y (zac hy);rw[el];generalize qix rk K f=ag at ih1 ih2 ⊢;have e1:=qh7 (a:=lo) (b:=hi) (by omega);have e2:IntKind.i64.wrap ((((lo+hi)/ 2:Nat):Int)+1)=(((lo+hi)/ 2+1:Nat):Int):=(i64_in _ (by omega)).trans (by omega);have e3:IntKind.i64.wrap ((q:Int) - (((lo+hi)/ 2:Nat):Int))=((q - (lo+hi)/ 2:Nat):Int):=(i64_in _ (by omega)).trans (by omega);have n1:0+Int.toNat (((lo+hi)/ 2:Nat):Int)=(lo+hi)/ 2:=by omega
  have n2:0+Int.toNat ((q - (lo+hi)/ 2:Nat):Int)=q - (lo+hi)/ 2:=by omega
  dsimp only;simp only[e1,e2,e3,n1,n2];refine qa6 (by omega) (by omega) ?_;rw[hx,zag];refine qak rfl (qa6 (by omega) (by omega) ?_);rw[hy,zag];refine qak rfl (qak (c:=qad w1&&qad w2) (by rw[hw1,hw2];rfl) ?_);show cond (!(decide (qbk w1 w2<0))) _ _=K m a p b mid n ((if(!(decide (qao w1 w2<0)))=true then _ else _:Nat):Int) d;rw[xbhr];refine qa2 (fun hc=> ?_) fun hc=> ?_
  ·rw[if_pos (by rw[decide_eq_false hc];rfl)];exact ih1
  ·rw[if_neg (by rw[decide_eq_true hc];simp)];exact ih2
theorem xbkb(K:List CV->Option Out)(rk m a i:Nat)(d:List CV)(x:CV)(hx:d[a]? =some x)(hr:rows4 m d=true)(hi:i<=d.length): ∀(f k:Nat),a<=k->k<i->i - k<f->ql6 rk K f m i k (pu d a (k+1) (seg d (a+1) (k+1)++[x]))=K (pu d a i (seg d (a+1) i++[x]))
 | 0,_,_,_,_=>by omega
 | f+1,k,h1,h2,hf=>by
  obtain⟨hm,hl,hW⟩:=qba hr;show qqt rk (ql6 rk K f) K m i k (pu d a (k+1) (seg d (a+1) (k+1)++[x]))=_;unfold qqt;have w1:IntKind.i64.wrap ((i:Int) - 1)=((i - 1:Nat):Int):=(i64_in _ (by omega)).trans (by omega);have w2:IntKind.i64.wrap ((k:Int)+1)=((k+1:Nat):Int):=(i64_in _ (by omega)).trans (by omega);dsimp only;rw[w1,w2];refine qac (fun h=> ?_) fun h=>by rw[show k+1=i by omega]
  obtain⟨z,hz,g1,g2,g3⟩:=xbcu (d:=d) (a:=a) (k:=k) (x:=x) h1 (by omega);have ih:=xbkb K rk m a i d x hx hr hi f (k+1) (by omega) (by omega) (by omega);rw[<- g3] at ih;obtain⟨t1,b1,k1,v1,rfl,hw1⟩:=hW z (zac hz);obtain⟨t2,b2,k2,v2,rfl,hw2⟩:=hW x (zac hx);generalize pu d a (k+1) _=e at ih g1 g2 ⊢;generalize ql6 rk K f=ag at ih ⊢;have n1:0+Int.toNat ((k+1:Nat):Int)=k+1:=by omega
  have n2:0+Int.toNat (k:Int)=k:=by omega
  simp only[n1,n2];refine qa6 (by omega) (by omega) ?_;rw[g2,zag];refine qak rfl (qa6 (by omega) (by omega) ?_);rw[g1,zag];refine qak rfl (qa6 (by omega) (by omega) (qa6 (by omega) (by omega) ?_));exact ih
theorem xbj9(K:List CV->Option Out)(rk m p i:Nat)(d:List CV)(x:CV)(hx:d[p]? =some x)(hr:rows4 m d=true)(hp:p<d.length): ∀(f k:Nat),i<=k->k<=p->k - i<f->qiw rk K f m i k (pu d k (p+1) (x::seg d k p))=K (pu d i (p+1) (x::seg d i p))
 | 0,_,_,_,_=>by omega
 | f+1,k,h1,h2,hf=>by
  obtain⟨hm,hl,hW⟩:=qba hr;show qnk rk (qiw rk K f) K m i k (pu d k (p+1) (x::seg d k p))=_;unfold qnk;refine qac (fun h=> ?_) fun h=>by rw[show k=i by omega]
  have w1:IntKind.i64.wrap ((k:Int) - 1)=((k - 1:Nat):Int):=(i64_in _ (by omega)).trans (by omega);dsimp only;rw[w1];obtain⟨z,hz,g1,g2,g3⟩:=xbct (d:=d) (m:=p) (k:=k) (y:=x) (by omega) h2 hp;have ih:=xbj9 K rk m p i d x hx hr hp f (k - 1) (by omega) (by omega) (by omega);rw[<- g3] at ih;obtain⟨t1,b1,k1,v1,rfl,hw1⟩:=hW z (zac hz);obtain⟨t2,b2,k2,v2,rfl,hw2⟩:=hW x (zac hx);generalize pu d k (p+1) _=e at ih g1 g2 ⊢;generalize qiw rk K f=ag at ih ⊢;have n1:0+Int.toNat ((k - 1:Nat):Int)=k - 1:=by omega
  have n2:0+Int.toNat (k:Int)=k:=by omega
  simp only[n1,n2];refine qa6 (by omega) (by omega) ?_;rw[g2,zag];refine qak rfl (qa6 (by omega) (by omega) ?_);rw[g1,zag];refine qak rfl (qa6 (by omega) (by omega) (qa6 (by omega) (by omega) ?_));exact ih
theorem xbdr(k0:List CV->Option Out)(rk m mid e b:Nat)(d2 R:List CV)(hr:rows4 m d2=true)(hb:b<=m)(h:(if mid<e/\e<b then symS (ltK ky4) d2 mid e b else d2)=R)(hs:Srt (ltK ky4) (seg d2 mid e)/\Srt (ltK ky4) (seg d2 e b))(hk:b - mid<rk):
  cond (decide ((mid:Int)<e)) (cond (decide ((e:Int)<b)) (cond (rows4 m d2&&(qdq m mid e b&&(half4 d2 mid e b&&decide (((b:Int) - mid).toNat<rk)))) (k0 (sym4 d2 mid e b)) none) (k0 d2)) (k0 d2)=k0 R:=by
 refine xboy (fun hc=> ?_) fun hc=> ?_
 ·rw[if_pos ⟨by omega,by omega⟩] at h;refine qak (by rw[hr,qfs (by omega),show half4 d2 mid e b=true from qoh hs.1 hs.2,decide_eq_true (show((b:Int) - mid).toNat<rk by omega)];rfl) ?_;rw[qrs,h]
 ·rw[if_neg (fun hh=>hc ⟨by omega,by omega⟩)] at h;rw[h]
theorem xbdt(k0:List CV->Option Out)(rk m a p b:Nat)(d:List CV)(hr:rows4 m d=true)(hap:a<p)(hpb:p<b)(hb:b<=m)(hs1:Srt (ltK ky4) (seg d a p))(hs2:Srt (ltK ky4) (seg d p b))(hk:b - a<rk+1)(lo hi:Nat)(hlo:lo=if(a+b)/ 2<p then(a+b)/ 2+p - b else a)(hhi:hi=if(a+b)/ 2<p then(a+b)/ 2 else p):
  qia rk k0 m a p b (((a+b)/ 2:Nat):Int) (((a+b)/ 2+p:Nat):Int) lo hi d=k0 (symS (ltK ky4) d a p b):=by
 obtain⟨hm,hl,hW⟩:=qba hr;unfold qia;have w1:IntKind.i64.wrap ((((a+b)/ 2+p:Nat):Int) - 1)=(((a+b)/ 2+p - 1:Nat):Int):=(i64_in _ (by omega)).trans (by omega);dsimp only;have hlh:lo<=hi/\hi<=p/\a<=lo/\(a+b)/ 2+p - b<=lo:=by rw[hlo,hhi];split<;>omega
 rw[qab,w1,q1s _ rk m a p b _ _ _ d hr (by omega) FUEL lo hi hlh.1 (by omega) (fun c hc1 hc2=>⟨by omega,by omega⟩) (by unfold FUEL;omega)]
 try dsimp only
 generalize hs:bsr _ FUEL lo hi=s;have hs':s=xbu6 (ltK ky4) d a p b FUEL:=by rw[<- hs,hlo,hhi];rfl
 obtain⟨q0,q1,q2,q3,q4,q5,q6,⟨q7,q8⟩,q9,q10⟩:=xbkf (qei ky4) d hap hpb (by omega) (show b - a<FUEL by unfold FUEL;omega) hs1 hs2 s _ _ _ hs' rfl rfl rfl;generalize hmid:(a+b)/ 2=mid at*;generalize he:mid+p - s=e at*;have w2:IntKind.i64.wrap (((mid+p:Nat):Int) - s)=(e:Int):=(i64_in _ (by omega)).trans (by omega);rw[w2];have hrot:s<p/\p<e->rows4 m (rot d s p e)=true:=fun hc=>by
  have:=xbce d (a:=s) (m:=p) (b:=e) (by omega) (by omega) (by omega);refine qhk ⟨by omega,by omega,fun c hcm=> ?_⟩;unfold rot pu at hcm;rcases zak.1 hcm with g|g
  ·exact hW c (zba g)
  ·rcases zak.1 g with g|g
   ·exact(zak.1 g).elim (fun g=>hW c (qtb g)) fun g=>hW c (qtb g)
   ·exact hW c (zbi g)
 have two: ∀d1:List CV,rows4 m d1=true->d1=(if s<p/\p<e then rot d s p e else d)->
   cond (decide ((a:Int)<s)) (cond (decide ((s:Int)<mid)) (cond (rows4 m d1&&(qdq m a s mid&&(half4 d1 a s mid&&decide (((mid:Int) - a).toNat<rk))))
    (cond (decide ((mid:Int)<e)) (cond (decide ((e:Int)<b)) (cond (rows4 m (sym4 d1 a s mid)&&(qdq m mid e b&&(half4 (sym4 d1 a s mid) mid e b&&decide (((b:Int) - mid).toNat<rk)))) (k0 (sym4 (sym4 d1 a s mid) mid e b)) none) (k0 (sym4 d1 a s mid))) (k0 (sym4 d1 a s mid))) none)
    (cond (decide ((mid:Int)<e)) (cond (decide ((e:Int)<b)) (cond (rows4 m d1&&(qdq m mid e b&&(half4 d1 mid e b&&decide (((b:Int) - mid).toNat<rk)))) (k0 (sym4 d1 mid e b)) none) (k0 d1)) (k0 d1)))
    (cond (decide ((mid:Int)<e)) (cond (decide ((e:Int)<b)) (cond (rows4 m d1&&(qdq m mid e b&&(half4 d1 mid e b&&decide (((b:Int) - mid).toNat<rk)))) (k0 (sym4 d1 mid e b)) none) (k0 d1)) (k0 d1))=k0 (symS (ltK ky4) d a p b):=fun d1 hr1 hd1=>by
  rw[<- hd1] at q0 q5 q6 q7 q8 q9 q10;refine xboy (fun hc=> ?_) fun hc=> ?_
  ·rw[if_pos (show a<s/\s<mid by omega)] at q0 q6 q9 q10;refine qak (by rw[hr1,qfs (by omega),show half4 d1 a s mid=true from qoh q7 q8,decide_eq_true (show((mid:Int) - a).toNat<rk by omega)];rfl) ?_;rw[qrs];exact xbdr k0 rk m mid e b _ _ (qrd hr1 (by omega) (by omega) (by omega)) hb q0 ⟨q9,q10⟩ (by omega)
  ·rw[if_neg (show ¬(a<s/\s<mid) by omega)] at q0 q6 q9 q10;exact xbdr k0 rk m mid e b _ _ hr1 hb q0 ⟨q9,q10⟩ (by omega)
 refine xboy (fun hc=> ?_) fun hc=> ?_
 ·refine qak (by rw[hr,qfs (by omega)];rfl) ?_;have hc':s<p/\p<e:=by omega
  have:=two (rot d s p e) (hrot hc') (if_pos hc').symm;rw[show rotC d s p e=rot d s p e by unfold rotC;rw[qab];rfl];exact this
 ·exact two d hr (if_neg (show ¬(s<p/\p<e) by omega)).symm
theorem xbw9(rk m:Nat)(a p b:Int)(l:List CV)(hp:(rows4 m l&&(qdq m a p b&&half4 l a p b))=true)(hk:(b - a).toNat<rk+1):xbl1 rk m a p b l=zR [] [some ⟨.gen 4 (sym4 l a p b),false⟩]:=by
 rw[zab,zab] at hp;obtain⟨hr,hc,hh⟩:=hp;obtain⟨e1,hl,hW⟩:=qba hr;obtain⟨h1,h2,h3,h4⟩:=qlf hc;obtain⟨a',rfl⟩:=Int.eq_ofNat_of_zero_le h1;obtain⟨p',rfl⟩:=Int.eq_ofNat_of_zero_le (show 0<=p by omega);obtain⟨b',rfl⟩:=Int.eq_ofNat_of_zero_le (show 0<=b by omega);obtain⟨hs1,hs2⟩:Srt (ltK ky4) (seg l a' p')/\Srt (ltK ky4) (seg l p' b'):=q3l hh;rw[qrs];unfold xbl1;have w1:IntKind.i64.wrap ((p':Int) - a')=((p' - a':Nat):Int):=(i64_in _ (by omega)).trans (by omega);have w2:IntKind.i64.wrap ((b':Int) - p')=((b' - p':Nat):Int):=(i64_in _ (by omega)).trans (by omega);dsimp only;rw[w1,w2,qh7 (by omega)];obtain⟨x,hx⟩: ∃x,l[a']? =some x:=⟨_,zae (by omega)⟩;obtain⟨y,hy⟩: ∃y,l[p']? =some y:=⟨_,zae (by omega)⟩;refine qac (fun hq=> ?_) fun hq=>qac (fun hq2=> ?_) fun hq2=> ?_
 ·obtain rfl:p'=a'+1:=by omega
  obtain⟨g1,g2,g3⟩:=xbdp (qei ky4) l (a:=a') (b:=b') (f:=FUEL) (by omega) (by omega) (by unfold FUEL;omega) hx hs2 _ rfl;rw[qab,q1u _ rk m a' l hr (by omega) FUEL (a'+1) b' (by omega) (by omega) (by unfold FUEL;omega),qab]
  try dsimp only
  generalize bsr _ FUEL (a'+1) b'=i at g1 g2 g3 ⊢;have:=xbkb ret4 rk m a' i l x hx hr (by omega) FUEL a' (by omega) (by omega) (by unfold FUEL;omega);rw[q4z hx,g3] at this;exact this
 ·obtain rfl:b'=p'+1:=by omega
  obtain⟨g1,g2,g3⟩:=q49 (qei ky4) l (a:=a') (m:=p') (f:=FUEL) (by omega) (by omega) (by unfold FUEL;omega) hy hs1 _ rfl;rw[qab,q1w _ rk m p' l hr (by omega) FUEL a' p' (by omega) (by omega) (by unfold FUEL;omega),qab]
  try dsimp only
  generalize bsr _ FUEL a' p'=i at g1 g2 g3 ⊢;have:=xbj9 ret4 rk m p' i l y hy hr (by omega) FUEL p' (by omega) (by omega) (by unfold FUEL;omega);rw[q4y hy,g3] at this;exact this
 ·have w3:IntKind.i64.wrap ((((a'+b')/ 2:Nat):Int)+p')=(((a'+b')/ 2+p':Nat):Int):=(i64_in _ (by omega)).trans (by omega);have hk':b' - a'< rk+1:=by omega
  rw[w3];refine qac (fun hm=> ?_) fun hm=> ?_
  ·have w4:IntKind.i64.wrap ((((a'+b')/ 2+p':Nat):Int) - b')=(((a'+b')/ 2+p' - b':Nat):Int):=(i64_in _ (by omega)).trans (by omega);rw[w4,qab];exact xbdt ret4 rk m a' p' b' l hr (by omega) (by omega) (by omega) hs1 hs2 hk' _ _ (if_pos (by omega)).symm (if_pos (by omega)).symm
  ·rw[qab];exact xbdt ret4 rk m a' p' b' l hr (by omega) (by omega) (by omega) hs1 hs2 hk' _ _ (if_neg (by omega)).symm (if_neg (by omega)).symm
theorem q1t(K:Nat->Int->Int->List CV->Option Out)(rk m a:Nat)(d:List CV)(hr:rows3 m d=true)(ha:a<d.length): ∀(f lo hi:Nat),lo<=hi->hi<=d.length->hi - lo<f->ql3 rk K f m a lo hi d=K m a ((bsr (fun h=>ltA (ltK ky3) d h a) f lo hi:Nat):Int) d
 | 0,_,_,_,_,_=>by omega
 | f+1,lo,hi,h1,h2,hf=>by
  obtain⟨hm,hl,hW⟩:=qa9 hr;show qqq rk (ql3 rk K f) K m a lo hi d=K m a ((if lo<hi then(if ltA (ltK ky3) d ((lo+hi)/ 2) a=true then bsr (fun h=>ltA (ltK ky3) d h a) f ((lo+hi)/ 2+1) hi else bsr (fun h=>ltA (ltK ky3) d h a) f lo ((lo+hi)/ 2)) else lo:Nat):Int) d;unfold qqq;refine qac (fun h=> ?_) fun h=>by rw[if_neg (by omega)]
  have hlh:lo<hi:=by omega
  rw[if_pos hlh];obtain⟨x,hx⟩: ∃x,d[(lo+hi)/ 2]? =some x:=⟨_,zae (by omega)⟩;obtain⟨y,hy⟩: ∃y,d[a]? =some y:=⟨_,zae ha⟩;have el:=qk2 (lt:=ltK ky3) hx hy;have ih1:=q1t K rk m a d hr ha f ((lo+hi)/ 2+1) hi (by omega) (by omega) (by omega);have ih2:=q1t K rk m a d hr ha f lo ((lo+hi)/ 2) (by omega) (by omega) (by omega);obtain⟨b1,k1,w1,rfl,hw1⟩:=hW x (zac hx);obtain⟨b2,k2,w2,rfl,hw2⟩:=hW y (zac hy);rw[el];generalize ql3 rk K f=ag at ih1 ih2 ⊢;have e1:=qh7 (a:=lo) (b:=hi) (by omega);have e2:IntKind.i64.wrap ((((lo+hi)/ 2:Nat):Int)+1)=(((lo+hi)/ 2+1:Nat):Int):=(i64_in _ (by omega)).trans (by omega);have n1:0+Int.toNat (((lo+hi)/ 2:Nat):Int)=(lo+hi)/ 2:=by omega
  have n2:0+Int.toNat (a:Int)=a:=by omega
  dsimp only;simp only[e1,e2,n1,n2];refine qa6 (by omega) (by omega) ?_;rw[hx,zag];refine qak rfl (qa6 (by omega) (by omega) ?_);rw[hy,zag];refine qak rfl (qak (c:=qad w1&&qad w2) (by rw[hw1,hw2];rfl) ?_);show cond (decide (qbk w1 w2<0)) _ _=K m a ((if decide (qao w1 w2<0)=true then _ else _:Nat):Int) d;rw[xbhr];refine qac (fun hc=> ?_) fun hc=> ?_
  ·rw[if_pos (decide_eq_true hc)];exact ih1
  ·rw[if_neg (by rw[decide_eq_false hc];simp)];exact ih2
theorem q1v(K:Nat->Int->Int->List CV->Option Out)(rk m p:Nat)(d:List CV)(hr:rows3 m d=true)(ha:p<d.length): ∀(f lo hi:Nat),lo<=hi->hi<=d.length->hi - lo<f->qis rk K f m p lo hi d=K m p ((bsr (fun h=> !(ltA (ltK ky3) d p h)) f lo hi:Nat):Int) d
 | 0,_,_,_,_,_=>by omega
 | f+1,lo,hi,h1,h2,hf=>by
  obtain⟨hm,hl,hW⟩:=qa9 hr;show qng rk (qis rk K f) K m p lo hi d=K m p ((if lo<hi then(if(!(ltA (ltK ky3) d p ((lo+hi)/ 2)))=true then bsr (fun h=> !(ltA (ltK ky3) d p h)) f ((lo+hi)/ 2+1) hi else bsr (fun h=> !(ltA (ltK ky3) d p h)) f lo ((lo+hi)/ 2)) else lo:Nat):Int) d;unfold qng;refine qac (fun h=> ?_) fun h=>by rw[if_neg (by omega)]
  have hlh:lo<hi:=by omega
  rw[if_pos hlh];obtain⟨x,hx⟩: ∃x,d[p]? =some x:=⟨_,zae ha⟩;obtain⟨y,hy⟩: ∃y,d[(lo+hi)/ 2]? =some y:=⟨_,zae (by omega)⟩;have el:=qk2 (lt:=ltK ky3) hx hy;have ih1:=q1v K rk m p d hr ha f ((lo+hi)/ 2+1) hi (by omega) (by omega) (by omega);have ih2:=q1v K rk m p d hr ha f lo ((lo+hi)/ 2) (by omega) (by omega) (by omega);obtain⟨b1,k1,w1,rfl,hw1⟩:=hW x (zac hx);obtain⟨b2,k2,w2,rfl,hw2⟩:=hW y (zac hy);rw[el];generalize qis rk K f=ag at ih1 ih2 ⊢;have e1:=qh7 (a:=lo) (b:=hi) (by omega);have e2:IntKind.i64.wrap ((((lo+hi)/ 2:Nat):Int)+1)=(((lo+hi)/ 2+1:Nat):Int):=(i64_in _ (by omega)).trans (by omega);have n1:0+Int.toNat (((lo+hi)/ 2:Nat):Int)=(lo+hi)/ 2:=by omega
  have n2:0+Int.toNat (p:Int)=p:=by omega
  dsimp only;simp only[e1,e2,n1,n2];refine qa6 (by omega) (by omega) ?_;rw[hx,zag];refine qak rfl (qa6 (by omega) (by omega) ?_);rw[hy,zag];refine qak rfl (qak (c:=qad w1&&qad w2) (by rw[hw1,hw2];rfl) ?_);show cond (!(decide (qbk w1 w2<0))) _ _=K m p ((if(!(decide (qao w1 w2<0)))=true then _ else _:Nat):Int) d;rw[xbhr];refine qa2 (fun hc=> ?_) fun hc=> ?_
  ·rw[if_pos (by rw[decide_eq_false hc];rfl)];exact ih1
  ·rw[if_neg (by rw[decide_eq_true hc];simp)];exact ih2
theorem q1r(K:Nat->Int->Int->Int->Int->Int->Int->List CV->Option Out)(rk m:Nat)(a p b mid n:Int)(q:Nat)(d:List CV)(hr:rows3 m d=true)(hq:q<=8000): ∀(f lo hi:Nat),lo<=hi->hi<=d.length->(∀c,lo<=c->c<hi->c<=q/\q - c<d.length)->hi - lo<f->qiu rk K f m a p b mid n lo hi q d=K m a p b mid n ((bsr (fun c=> !(ltA (ltK ky3) d (q - c) c)) f lo hi:Nat):Int) d
 | 0,_,_,_,_,_,_=>by omega
 | f+1,lo,hi,h1,h2,h3,hf=>by
  obtain⟨hm,hl,hW⟩:=qa9 hr;show qni rk (qiu rk K f) K m a p b mid n lo hi q d=K m a p b mid n ((if lo<hi then(if(!(ltA (ltK ky3) d (q - (lo+hi)/ 2) ((lo+hi)/ 2)))=true then bsr (fun c=> !(ltA (ltK ky3) d (q - c) c)) f ((lo+hi)/ 2+1) hi else bsr (fun c=> !(ltA (ltK ky3) d (q - c) c)) f lo ((lo+hi)/ 2)) else lo:Nat):Int) d;unfold qni;refine qac (fun h=> ?_) fun h=>by rw[if_neg (by omega)]
  have hlh:lo<hi:=by omega
  rw[if_pos hlh];obtain⟨hc1,hc2⟩:=h3 ((lo+hi)/ 2) (by omega) (by omega);obtain⟨x,hx⟩: ∃x,d[q - (lo+hi)/ 2]? =some x:=⟨_,zae hc2⟩;obtain⟨y,hy⟩: ∃y,d[(lo+hi)/ 2]? =some y:=⟨_,zae (by omega)⟩;have el:=qk2 (lt:=ltK ky3) hx hy;have ih1:=q1r K rk m a p b mid n q d hr hq f ((lo+hi)/ 2+1) hi (by omega) (by omega) (fun c hc hd=>h3 c (by omega) hd) (by omega);have ih2:=q1r K rk m a p b mid n q d hr hq f lo ((lo+hi)/ 2) (by omega) (by omega) (fun c hc hd=>h3 c hc (by omega)) (by omega);obtain⟨b1,k1,w1,rfl,hw1⟩:=hW x (zac hx);obtain⟨b2,k2,w2,rfl,hw2⟩:=hW y (zac hy);rw[el];generalize qiu rk K f=ag at ih1 ih2 ⊢;have e1:=qh7 (a:=lo) (b:=hi) (by omega);have e2:IntKind.i64.wrap ((((lo+hi)/ 2:Nat):Int)+1)=(((lo+hi)/ 2+1:Nat):Int):=(i64_in _ (by omega)).trans (by omega);have e3:IntKind.i64.wrap ((q:Int) - (((lo+hi)/ 2:Nat):Int))=((q - (lo+hi)/ 2:Nat):Int):=(i64_in _ (by omega)).trans (by omega);have n1:0+Int.toNat (((lo+hi)/ 2:Nat):Int)=(lo+hi)/ 2:=by omega
  have n2:0+Int.toNat ((q - (lo+hi)/ 2:Nat):Int)=q - (lo+hi)/ 2:=by omega
  dsimp only;simp only[e1,e2,e3,n1,n2];refine qa6 (by omega) (by omega) ?_;rw[hx,zag];refine qak rfl (qa6 (by omega) (by omega) ?_);rw[hy,zag];refine qak rfl (qak (c:=qad w1&&qad w2) (by rw[hw1,hw2];rfl) ?_);show cond (!(decide (qbk w1 w2<0))) _ _=K m a p b mid n ((if(!(decide (qao w1 w2<0)))=true then _ else _:Nat):Int) d;rw[xbhr];refine qa2 (fun hc=> ?_) fun hc=> ?_
  ·rw[if_pos (by rw[decide_eq_false hc];rfl)];exact ih1
  ·rw[if_neg (by rw[decide_eq_true hc];simp)];exact ih2
theorem xbka(K:List CV->Option Out)(rk m a i:Nat)(d:List CV)(x:CV)(hx:d[a]? =some x)(hr:rows3 m d=true)(hi:i<=d.length): ∀(f k:Nat),a<=k->k<i->i - k<f->ql4 rk K f m i k (pu d a (k+1) (seg d (a+1) (k+1)++[x]))=K (pu d a i (seg d (a+1) i++[x]))
 | 0,_,_,_,_=>by omega
 | f+1,k,h1,h2,hf=>by
  obtain⟨hm,hl,hW⟩:=qa9 hr;show qqr rk (ql4 rk K f) K m i k (pu d a (k+1) (seg d (a+1) (k+1)++[x]))=_;unfold qqr;have w1:IntKind.i64.wrap ((i:Int) - 1)=((i - 1:Nat):Int):=(i64_in _ (by omega)).trans (by omega);have w2:IntKind.i64.wrap ((k:Int)+1)=((k+1:Nat):Int):=(i64_in _ (by omega)).trans (by omega);dsimp only;rw[w1,w2];refine qac (fun h=> ?_) fun h=>by rw[show k+1=i by omega]
  obtain⟨z,hz,g1,g2,g3⟩:=xbcu (d:=d) (a:=a) (k:=k) (x:=x) h1 (by omega);have ih:=xbka K rk m a i d x hx hr hi f (k+1) (by omega) (by omega) (by omega);rw[<- g3] at ih;obtain⟨b1,k1,v1,rfl,hw1⟩:=hW z (zac hz);obtain⟨b2,k2,v2,rfl,hw2⟩:=hW x (zac hx);generalize pu d a (k+1) _=e at ih g1 g2 ⊢;generalize ql4 rk K f=ag at ih ⊢;have n1:0+Int.toNat ((k+1:Nat):Int)=k+1:=by omega
  have n2:0+Int.toNat (k:Int)=k:=by omega
  simp only[n1,n2];refine qa6 (by omega) (by omega) ?_;rw[g2,zag];refine qak rfl (qa6 (by omega) (by omega) ?_);rw[g1,zag];refine qak rfl (qa6 (by omega) (by omega) (qa6 (by omega) (by omega) ?_));exact ih
theorem xbj8(K:List CV->Option Out)(rk m p i:Nat)(d:List CV)(x:CV)(hx:d[p]? =some x)(hr:rows3 m d=true)(hp:p<d.length): ∀(f k:Nat),i<=k->k<=p->k - i<f->qit rk K f m i k (pu d k (p+1) (x::seg d k p))=K (pu d i (p+1) (x::seg d i p))
 | 0,_,_,_,_=>by omega
 | f+1,k,h1,h2,hf=>by
  obtain⟨hm,hl,hW⟩:=qa9 hr;show qnh rk (qit rk K f) K m i k (pu d k (p+1) (x::seg d k p))=_;unfold qnh;refine qac (fun h=> ?_) fun h=>by rw[show k=i by omega]
  have w1:IntKind.i64.wrap ((k:Int) - 1)=((k - 1:Nat):Int):=(i64_in _ (by omega)).trans (by omega);dsimp only;rw[w1];obtain⟨z,hz,g1,g2,g3⟩:=xbct (d:=d) (m:=p) (k:=k) (y:=x) (by omega) h2 hp;have ih:=xbj8 K rk m p i d x hx hr hp f (k - 1) (by omega) (by omega) (by omega);rw[<- g3] at ih;obtain⟨b1,k1,v1,rfl,hw1⟩:=hW z (zac hz);obtain⟨b2,k2,v2,rfl,hw2⟩:=hW x (zac hx);generalize pu d k (p+1) _=e at ih g1 g2 ⊢;generalize qit rk K f=ag at ih ⊢;have n1:0+Int.toNat ((k - 1:Nat):Int)=k - 1:=by omega
  have n2:0+Int.toNat (k:Int)=k:=by omega
  simp only[n1,n2];refine qa6 (by omega) (by omega) ?_;rw[g2,zag];refine qak rfl (qa6 (by omega) (by omega) ?_);rw[g1,zag];refine qak rfl (qa6 (by omega) (by omega) (qa6 (by omega) (by omega) ?_));exact ih
theorem xbdq(k0:List CV->Option Out)(rk m mid e b:Nat)(d2 R:List CV)(hr:rows3 m d2=true)(hb:b<=m)(h:(if mid<e/\e<b then symS (ltK ky3) d2 mid e b else d2)=R)(hs:Srt (ltK ky3) (seg d2 mid e)/\Srt (ltK ky3) (seg d2 e b))(hk:b - mid<rk):
  cond (decide ((mid:Int)<e)) (cond (decide ((e:Int)<b)) (cond (rows3 m d2&&(qdq m mid e b&&(half3 d2 mid e b&&decide (((b:Int) - mid).toNat<rk)))) (k0 (sym3 d2 mid e b)) none) (k0 d2)) (k0 d2)=k0 R:=by
 refine xboy (fun hc=> ?_) fun hc=> ?_
 ·rw[if_pos ⟨by omega,by omega⟩] at h;refine qak (by rw[hr,qfs (by omega),show half3 d2 mid e b=true from qoh hs.1 hs.2,decide_eq_true (show((b:Int) - mid).toNat<rk by omega)];rfl) ?_;rw[qrr,h]
 ·rw[if_neg (fun hh=>hc ⟨by omega,by omega⟩)] at h;rw[h]
theorem xbds(k0:List CV->Option Out)(rk m a p b:Nat)(d:List CV)(hr:rows3 m d=true)(hap:a<p)(hpb:p<b)(hb:b<=m)(hs1:Srt (ltK ky3) (seg d a p))(hs2:Srt (ltK ky3) (seg d p b))(hk:b - a<rk+1)(lo hi:Nat)(hlo:lo=if(a+b)/ 2<p then(a+b)/ 2+p - b else a)(hhi:hi=if(a+b)/ 2<p then(a+b)/ 2 else p):
  qh9 rk k0 m a p b (((a+b)/ 2:Nat):Int) (((a+b)/ 2+p:Nat):Int) lo hi d=k0 (symS (ltK ky3) d a p b):=by
 obtain⟨hm,hl,hW⟩:=qa9 hr;unfold qh9;have w1:IntKind.i64.wrap ((((a+b)/ 2+p:Nat):Int) - 1)=(((a+b)/ 2+p - 1:Nat):Int):=(i64_in _ (by omega)).trans (by omega);dsimp only;have hlh:lo<=hi/\hi<=p/\a<=lo/\(a+b)/ 2+p - b<=lo:=by rw[hlo,hhi];split<;>omega
 rw[qab,w1,q1r _ rk m a p b _ _ _ d hr (by omega) FUEL lo hi hlh.1 (by omega) (fun c hc1 hc2=>⟨by omega,by omega⟩) (by unfold FUEL;omega)]
 try dsimp only
 generalize hs:bsr _ FUEL lo hi=s;have hs':s=xbu6 (ltK ky3) d a p b FUEL:=by rw[<- hs,hlo,hhi];rfl
 obtain⟨q0,q1,q2,q3,q4,q5,q6,⟨q7,q8⟩,q9,q10⟩:=xbkf (qei ky3) d hap hpb (by omega) (show b - a<FUEL by unfold FUEL;omega) hs1 hs2 s _ _ _ hs' rfl rfl rfl;generalize hmid:(a+b)/ 2=mid at*;generalize he:mid+p - s=e at*;have w2:IntKind.i64.wrap (((mid+p:Nat):Int) - s)=(e:Int):=(i64_in _ (by omega)).trans (by omega);rw[w2];have hrot:s<p/\p<e->rows3 m (rot d s p e)=true:=fun hc=>by
  have:=xbce d (a:=s) (m:=p) (b:=e) (by omega) (by omega) (by omega);refine qi6 ⟨by omega,by omega,fun c hcm=> ?_⟩;unfold rot pu at hcm;rcases zak.1 hcm with g|g
  ·exact hW c (zba g)
  ·rcases zak.1 g with g|g
   ·exact(zak.1 g).elim (fun g=>hW c (qtb g)) fun g=>hW c (qtb g)
   ·exact hW c (zbi g)
 have two: ∀d1:List CV,rows3 m d1=true->d1=(if s<p/\p<e then rot d s p e else d)->
   cond (decide ((a:Int)<s)) (cond (decide ((s:Int)<mid)) (cond (rows3 m d1&&(qdq m a s mid&&(half3 d1 a s mid&&decide (((mid:Int) - a).toNat<rk))))
    (cond (decide ((mid:Int)<e)) (cond (decide ((e:Int)<b)) (cond (rows3 m (sym3 d1 a s mid)&&(qdq m mid e b&&(half3 (sym3 d1 a s mid) mid e b&&decide (((b:Int) - mid).toNat<rk)))) (k0 (sym3 (sym3 d1 a s mid) mid e b)) none) (k0 (sym3 d1 a s mid))) (k0 (sym3 d1 a s mid))) none)
    (cond (decide ((mid:Int)<e)) (cond (decide ((e:Int)<b)) (cond (rows3 m d1&&(qdq m mid e b&&(half3 d1 mid e b&&decide (((b:Int) - mid).toNat<rk)))) (k0 (sym3 d1 mid e b)) none) (k0 d1)) (k0 d1)))
    (cond (decide ((mid:Int)<e)) (cond (decide ((e:Int)<b)) (cond (rows3 m d1&&(qdq m mid e b&&(half3 d1 mid e b&&decide (((b:Int) - mid).toNat<rk)))) (k0 (sym3 d1 mid e b)) none) (k0 d1)) (k0 d1))=k0 (symS (ltK ky3) d a p b):=fun d1 hr1 hd1=>by
  rw[<- hd1] at q0 q5 q6 q7 q8 q9 q10;refine xboy (fun hc=> ?_) fun hc=> ?_
  ·rw[if_pos (show a<s/\s<mid by omega)] at q0 q6 q9 q10;refine qak (by rw[hr1,qfs (by omega),show half3 d1 a s mid=true from qoh q7 q8,decide_eq_true (show((mid:Int) - a).toNat<rk by omega)];rfl) ?_;rw[qrr];exact xbdq k0 rk m mid e b _ _ (qrc hr1 (by omega) (by omega) (by omega)) hb q0 ⟨q9,q10⟩ (by omega)
  ·rw[if_neg (show ¬(a<s/\s<mid) by omega)] at q0 q6 q9 q10;exact xbdq k0 rk m mid e b _ _ hr1 hb q0 ⟨q9,q10⟩ (by omega)
 refine xboy (fun hc=> ?_) fun hc=> ?_
 ·refine qak (by rw[hr,qfs (by omega)];rfl) ?_;have hc':s<p/\p<e:=by omega
  have:=two (rot d s p e) (hrot hc') (if_pos hc').symm;rw[show rotC d s p e=rot d s p e by unfold rotC;rw[qab];rfl];exact this
 ·exact two d hr (if_neg (show ¬(s<p/\p<e) by omega)).symm
theorem xbw8(rk m:Nat)(a p b:Int)(l:List CV)(hp:(rows3 m l&&(qdq m a p b&&half3 l a p b))=true)(hk:(b - a).toNat<rk+1):xbl0 rk m a p b l=zR [] [some ⟨.gen 3 (sym3 l a p b),false⟩]:=by
 rw[zab,zab] at hp;obtain⟨hr,hc,hh⟩:=hp;obtain⟨e1,hl,hW⟩:=qa9 hr;obtain⟨h1,h2,h3,h4⟩:=qlf hc;obtain⟨a',rfl⟩:=Int.eq_ofNat_of_zero_le h1;obtain⟨p',rfl⟩:=Int.eq_ofNat_of_zero_le (show 0<=p by omega);obtain⟨b',rfl⟩:=Int.eq_ofNat_of_zero_le (show 0<=b by omega);obtain⟨hs1,hs2⟩:Srt (ltK ky3) (seg l a' p')/\Srt (ltK ky3) (seg l p' b'):=q3l hh;rw[qrr];unfold xbl0;have w1:IntKind.i64.wrap ((p':Int) - a')=((p' - a':Nat):Int):=(i64_in _ (by omega)).trans (by omega);have w2:IntKind.i64.wrap ((b':Int) - p')=((b' - p':Nat):Int):=(i64_in _ (by omega)).trans (by omega);dsimp only;rw[w1,w2,qh7 (by omega)];obtain⟨x,hx⟩: ∃x,l[a']? =some x:=⟨_,zae (by omega)⟩;obtain⟨y,hy⟩: ∃y,l[p']? =some y:=⟨_,zae (by omega)⟩;refine qac (fun hq=> ?_) fun hq=>qac (fun hq2=> ?_) fun hq2=> ?_
 ·obtain rfl:p'=a'+1:=by omega
  obtain⟨g1,g2,g3⟩:=xbdp (qei ky3) l (a:=a') (b:=b') (f:=FUEL) (by omega) (by omega) (by unfold FUEL;omega) hx hs2 _ rfl;rw[qab,q1t _ rk m a' l hr (by omega) FUEL (a'+1) b' (by omega) (by omega) (by unfold FUEL;omega),qab]
  try dsimp only
  generalize bsr _ FUEL (a'+1) b'=i at g1 g2 g3 ⊢;have:=xbka ret3 rk m a' i l x hx hr (by omega) FUEL a' (by omega) (by omega) (by unfold FUEL;omega);rw[q4z hx,g3] at this;exact this
 ·obtain rfl:b'=p'+1:=by omega
  obtain⟨g1,g2,g3⟩:=q49 (qei ky3) l (a:=a') (m:=p') (f:=FUEL) (by omega) (by omega) (by unfold FUEL;omega) hy hs1 _ rfl;rw[qab,q1v _ rk m p' l hr (by omega) FUEL a' p' (by omega) (by omega) (by unfold FUEL;omega),qab]
  try dsimp only
  generalize bsr _ FUEL a' p'=i at g1 g2 g3 ⊢;have:=xbj8 ret3 rk m p' i l y hy hr (by omega) FUEL p' (by omega) (by omega) (by unfold FUEL;omega);rw[q4y hy,g3] at this;exact this
 ·have w3:IntKind.i64.wrap ((((a'+b')/ 2:Nat):Int)+p')=(((a'+b')/ 2+p':Nat):Int):=(i64_in _ (by omega)).trans (by omega);have hk':b' - a'< rk+1:=by omega
  rw[w3];refine qac (fun hm=> ?_) fun hm=> ?_
  ·have w4:IntKind.i64.wrap ((((a'+b')/ 2+p':Nat):Int) - b')=(((a'+b')/ 2+p' - b':Nat):Int):=(i64_in _ (by omega)).trans (by omega);rw[w4,qab];exact xbds ret3 rk m a' p' b' l hr (by omega) (by omega) (by omega) hs1 hs2 hk' _ _ (if_pos (by omega)).symm (if_pos (by omega)).symm
  ·rw[qab];exact xbds ret3 rk m a' p' b' l hr (by omega) (by omega) (by omega) hs1 hs2 hk' _ _ (if_neg (by omega)).symm (if_neg (by omega)).symm
open IntWalk (i64_in u8_in u32_in u64_in i64_quo u8_quo rem_in)
theorem qea{p:Prop}:pT p=true↔p:=⟨@of_decide_eq_true _ (Classical.propDecidable _),@decide_eq_true _ (Classical.propDecidable _)⟩
theorem qow{p:Prop}(h: ¬p):pT p=false:=zau.2 fun e=>h (qea.1 e)
theorem xbu5{p q:Prop}(h:p↔q):pT p=pT q:=congrArg pT (propext h)
theorem qdc{o:List Int}:qkj o=true↔o.length<=35184372088832:=by unfold qkj;rw[qab,decide_eq_true_eq]
theorem qcy{o:List Int}{k:List CV}:at1Ok o k=true↔xbdy o/\qjd k:=by unfold at1Ok;rw[qab,qea]
theorem q5g{k:List CV}:xbuu k=true↔qjd k:=by unfold xbuu;rw[qab,qea]
theorem qav{l:List CV}:qbh l=true↔l.length<=1800/\(∀c∈l,WA c)/\qp1 l<=1800:=by unfold qbh;rw[qab,qea]
theorem qcn(a b:List Int):qa5 a b=decide (a=b):=qab _
theorem xbcn{α:Type}{a b:List α}(hl:a.length=b.length)(L:Nat->Nat->Option Out)(bad good:Option Out)(h1: ∀(n i:Nat) (x:α),i<a.length->a[i]? =some x->b[i]? =some x->L (n+1) i=L n (i+1))(h2: ∀(n i:Nat) (x y:α),i<a.length->a[i]? =some x->b[i]? =some y->x≠y->L (n+1) i=bad)(h3: ∀n,L (n+1) a.length=good): ∀(f i:Nat),i<=a.length->a.length<f+i->L f i=cond (pT (a.drop i=b.drop i)) good bad
 | 0,i,hi,hf=>by omega
 | f+1,i,hi,hf=>by
  rcases zbo i a.length with h|h
  ·obtain⟨x,hx⟩:=qaz h;obtain⟨y,hy⟩:=qaz (b:=b) (i:=i) (by omega);rw[qcm hx,qcm hy];by_cases e:x=y
   ·subst e;rw[h1 f i x h hx hy,xbcn hl L bad good h1 h2 h3 f (i+1) h (by omega)];exact congrArg (fun p=>cond p good bad) (xbu5 (by simp))
   ·rw[h2 f i x y h hx hy e,qow fun he=>e (List.cons.inj he).1];rfl
  ·obtain rfl:i=a.length:=by omega
   rw[h3,List.drop_of_length_le (zar _),List.drop_of_length_le (by omega),qea.2 rfl];rfl
theorem qwj{α:Type}{a b:List α}{L:Nat->Nat->Option Out}{bad good x:Option Out}(hx:x=L FUEL 0)(hb:a.length<=1000000000000000)(h1: ∀(n i:Nat) (x:α),i<a.length->a[i]? =some x->b[i]? =some x->L (n+1) i=L n (i+1))(h2: ∀(n i:Nat) (x y:α),i<a.length->a[i]? =some x->b[i]? =some y->x≠y->L (n+1) i=bad)(h3: ∀n,L (n+1) a.length=good):cond (!decide ((a.length:Int)=(b.length:Int))) bad x=cond (pT (a=b)) good bad:=by
 refine qa2 (fun h=> ?_) fun h=> ?_
 ·rw[qow fun e=>h (by rw[e])];rfl
 ·rw[hx,xbcn (by omega) L bad good h1 h2 h3 FUEL 0 (zcc _) (by unfold FUEL;omega)];rfl
theorem xbj3{α β:Type}(f:α->Option β)(d:β)(l:List α)(L:Nat->Nat->List β->Option Out)(bad:Option Out)(fin:List β->Option Out)(hstep: ∀(n i:Nat) (acc:List β) (x:α),i<l.length->acc.length=l.length->l[i]? =some x->L (n+1) i acc=match f x with|some y=>L n (i+1) (acc.set i y)|none=>bad)(hend: ∀(n:Nat) (acc:List β),L (n+1) l.length acc=fin acc):
  ∀(fuel i:Nat) (acc:List β),i<=l.length->acc.length=i->l.length<fuel+i->L fuel i (acc++List.replicate (l.length - i) d)=if(l.drop i).all (fun c=>(f c).isSome)=true then fin (acc++(l.drop i).filterMap f) else bad
 | 0,i,acc,hi,ha,hf=>by omega
 | fuel+1,i,acc,hi,ha,hf=>by
  rcases zbo i l.length with h|h
  ·obtain⟨x,hx⟩:=qaz h;rw[hstep fuel i _ x h (by rw[zah,List.length_replicate];omega) hx,qcm hx,zc4]
   cases hy:f x with
   | none=>simp
   | some y=>
    show L fuel (i+1) _=_;rw[List.set_append_right _ _ (by omega),ha,Nat.sub_self,show l.length - i=(l.length - (i+1))+1 by omega,List.replicate_succ,List.set_cons_zero,List.append_cons,
     xbj3 f d l L bad fin hstep hend fuel (i+1) (acc++[y]) h (by simp[ha]) (by omega),zc1 hy]
    simp
  ·obtain rfl:i=l.length:=by omega
   rw[Nat.sub_self,List.replicate_zero,za9,hend,List.drop_of_length_le (zar _)];simp
theorem xbub{α β:Type}{f:α->Option β}{d:β}{l:List α}{L:Nat->Nat->List β->Option Out}{bad:Option Out}{fin:List β->Option Out}{w:Int}{x:Option Out}(hl:l.length<=1000000)(hw0:0<=w)(hw:w<=100)(hx:x=L FUEL 0 (List.replicate l.length d))(hstep: ∀(n i:Nat) (acc:List β) (x:α),i<l.length->acc.length=l.length->l[i]? =some x->L (n+1) i acc=match f x with|some y=>L n (i+1) (acc.set i y)|none=>bad)(hend: ∀(n:Nat) (acc:List β),L (n+1) l.length acc=fin acc):
  cond (decide ((0:Int)<=(l.length:Int))) (cond (decide ((l.length:Int)<=(l.length:Int))) (cond (decide ((l.length:Int)*w<=LIM)) (cond (decide ((l.length:Int)<=LIM)) x none) none) none) none=if l.all (fun c=>(f c).isSome)=true then fin (l.filterMap f) else bad:=by
 have hm:(l.length:Int)*w<=1000000*100:=Int.mul_le_mul (by omega) hw hw0 (by omega);refine qas (by omega) (qas (Int.le_refl _) (qas (by unfold LIM;omega) (qas (by unfold LIM;omega) ?_)));exact hx.trans (xbj3 f d l L bad fin hstep hend FUEL 0 [] (zcc _) rfl (by unfold FUEL;omega))
theorem q9g{α β:Type}(f:α->Option β)(l:List α)(L:Nat->Nat->List β->Option Out)(bad:Option Out)(fin:List β->Option Out)(hstep: ∀(n i:Nat) (acc:List β) (x:α),i<l.length->acc.length=i->l[i]? =some x->L (n+1) i acc=match f x with|some y=>L n (i+1) (acc++[y])|none=>bad)(hend: ∀(n:Nat) (acc:List β),acc.length=l.length->L (n+1) l.length acc=fin acc):
  ∀(fuel i:Nat) (acc:List β),i<=l.length->acc.length=i->l.length<fuel+i->L fuel i acc=if(l.drop i).all (fun c=>(f c).isSome)=true then fin (acc++(l.drop i).filterMap f) else bad
 | 0,i,acc,hi,ha,hf=>by omega
 | fuel+1,i,acc,hi,ha,hf=>by
  rcases zbo i l.length with h|h
  ·obtain⟨x,hx⟩:=qaz h;rw[hstep fuel i acc x h ha hx,qcm hx,zc4]
   cases hy:f x with
   | none=>simp
   | some y=>
    show L fuel (i+1) (acc++[y])=_;rw[q9g f l L bad fin hstep hend fuel (i+1) (acc++[y]) h (by simp[ha]) (by omega),zc1 hy];simp
  ·obtain rfl:i=l.length:=by omega
   rw[hend _ _ ha,zdj];simp
theorem q9h{α β:Type}{f:α->Option β}{l:List α}{L:Nat->Nat->List β->Option Out}{bad:Option Out}{fin:List β->Option Out}{x:Option Out}(hl:l.length<=1000000)(hx:x=L FUEL 0 [])(hstep: ∀(n i:Nat) (acc:List β) (x:α),i<l.length->acc.length=i->l[i]? =some x->L (n+1) i acc=match f x with|some y=>L n (i+1) (acc++[y])|none=>bad)(hend: ∀(n:Nat) (acc:List β),acc.length=l.length->L (n+1) l.length acc=fin acc):x=if l.all (fun c=>(f c).isSome)=true then fin (l.filterMap f) else bad:=
 hx.trans (q9g f l L bad fin hstep hend FUEL 0 [] (zcc _) rfl (by unfold FUEL;omega))
theorem room{n:Nat}{w:Int}{x r:Option Out}(hn:n<=1000000)(h:x=r)(h0:0<=w:=by omega)(hw:w<=100:=by omega):cond (decide ((0:Int)<=(n:Int))) (cond (decide ((n:Int)*w<=LIM)) (cond (decide ((n:Int)<=LIM)) x none) none) none=r:=by have hm:(n:Int)*w<=1000000*100:=Int.mul_le_mul (by omega) hw h0 (by omega);exact qas (by omega) (qas (by unfold LIM;omega) (qas (by unfold LIM;omega) h))
theorem qyd{β:Type}{acc:List β}{y:β}{i w:Nat}{A:Nat->Int->List β->Option Out}(ha:acc.length=i)(hi:i<1000000)(hw:w<=100):rmK (acc++[y]).length w (A (acc++[y]).length (IntKind.i64.wrap ((i:Int)+1)) (acc++[y]))=A (acc++[y]).length ((i+1:Nat):Int) (acc++[y]):=by
 have e3:(acc++[y]).length=i+1:=by rw[zah,ha];rfl
 have hm:(acc++[y]).length*w<=1000000*100:=Nat.mul_le_mul (by omega) hw;rw[show IntKind.i64.wrap ((i:Int)+1)=((i+1:Nat):Int) from(i64_in _ (by omega)).trans (by omega)];exact qmm (by omega) (by omega) rfl
theorem xbrq(o:List Int)(hp:qkj o=true):xbie o=zR [.cl (.sli .u32 o)] []:=by
 have hp:=qdc.1 hp;unfold xbie;simp only[za0];refine qf7 (fun h=> ?_) fun h=> ?_
 ·have h:=zal (qag.1 h);subst h;unfold xbli;rw[if_pos (Eq.symm (qmm (by simp) (by simp) rfl))]
 ·exact qmm (by omega) (by omega) rfl
theorem xbco{a b:List Int}{x:Option Out}(h:x=cond (pT (a=b)) (zB true) (zB false)):x=zB (qa5 a b):=by
 rw[h,qcn];by_cases e:a=b
 ·rw[qea.2 e,decide_eq_true e];rfl
 ·rw[qow e,decide_eq_false e];rfl
theorem qkh{i:Nat}(h:i<=1000000000000000):IntKind.i64.wrap ((i:Int)+1)=((i+1:Nat):Int):=(i64_in _ (by omega)).trans (by omega)
theorem xb0e(a b:List Int)(hp:qkj a=true):xby6 a b=zB (qa5 a b):=by
 have hp:=qdc.1 hp;unfold xby6;rw[qab];refine xbco (qwj (L:=fun f i=>q1d _ _ f a b (a.length:Int) (i:Int)) rfl (by omega) (fun n i x hi hx hy=> ?_) (fun n i x y hi hx hy hne=> ?_) fun n=> ?_)
 ·refine qas (by omega) (qa1 (by omega) hx (qa1 (by omega) hy (qkq rfl ?_)));rw[qkh (by omega)];rfl
 ·exact qas (by omega) (qa1 (by omega) hx (qa1 (by omega) hy (qmy hne rfl)))
 ·exact qdt (by omega) rfl
theorem xbrt(a b:List Int)(hp:qkj a=true):xbp2 a b=zB (qa5 a b):=qak hp rfl
theorem xbrz(a b:List Int)(hp:qkj a=true):xbik a b=zB (qa5 a b):=by
 have hp:=qdc.1 hp;unfold xbik;rw[qab];refine xbco (qwj (L:=fun f i=>qqu _ _ f a b (i:Int)) rfl (by omega) (fun n i x hi hx hy=> ?_) (fun n i x y hi hx hy hne=> ?_) fun n=> ?_)
 ·refine qas (by omega) (qa1 (by omega) hx (qa1 (by omega) hy (qkq rfl ?_)));rw[qkh (by omega)];rfl
 ·exact qas (by omega) (qa1 (by omega) hx (qa1 (by omega) hy (qmy hne rfl)))
 ·exact qdt (by omega) rfl
theorem xb0j(o:List Int)(k:List CV)(p:List Int)(q:List CV)(hp:qkj p=true):xbzw o k p q=zR [.cl (.bool (qa5 p o))] [some ⟨.var [.cl (.sli .u32 p),.cl (.slg 3 q)],false⟩]:=qak hp rfl
theorem xb0b(o:List Int)(k:List CV)(p:List Int)(hp:qkj o=true):xbzu o k p=zR [.cl (.bool (qa5 o p))] [some ⟨.var [.cl (.sli .u32 p)],false⟩]:=qak hp rfl
theorem xbfh{p:List Int}: ∀ {l:List CV} {i:Nat},qwz p i l<0↔ ∀c∈l,typA c≠p
 | [],i=>by simp[qwz]
 | c::r,i=>by
  unfold qwz;by_cases h:typA c=p
  ·rw[if_pos h];exact⟨fun e=>by omega,fun e=>absurd h (e c (by simp))⟩
  ·rw[if_neg h,xbfh];simp[h]
theorem xbqp{p:List Int}: ∀ {l:List CV} {i:Nat},0<=qwz p i l->∃(j:Nat) (c:CV),qwz p i l=((i+j:Nat):Int)/\l[j]? =some c/\l.find? (fun c=>decide (typA c=p))=some c
 | [],i,h=>by simp[qwz] at h
 | c::r,i,h=>by
  unfold qwz at h ⊢;by_cases e:typA c=p
  ·rw[if_pos e];exact⟨0,c,rfl,rfl,by simp[e]⟩
  ·rw[if_neg e] at h ⊢;obtain⟨j,c',h1,h2,h3⟩:=xbqp h;exact⟨j+1,c',by rw[h1];omega,h2,by rw[List.find?_cons_of_neg (by simpa using e)];exact h3⟩
theorem xbqq(K:Int->List Int->List CV->Option Out)(K1:List Int->List CV->Option Out)(hK: ∀a b,K1 a b=K (-1) a b)(l:List CV)(hl:l.length<=1800)(hw: ∀c∈l,WA c)(p:List Int)(q:List CV)(hp:qkj p=true): ∀(f i:Nat),i<=l.length->l.length<f+i->
  qvj K K1 f l (l.length:Int) (i:Int) p q=K (qwz p i (l.drop i)) p q
 | 0,i,hi,hf=>by omega
 | f+1,i,hi,hf=>by
  show qvk (qvj K K1 f) K K1 l _ _ p q=_;unfold qvk;refine qac (fun h=> ?_) fun h=> ?_
  ·obtain⟨c,hc⟩:=qaz (b:=l) (i:=i) (by omega);rw[qcm hc];obtain⟨o,k,rfl,ho,hk⟩:=hw c (zac hc);refine qa1 (by omega) hc (qak rfl (qak hp ?_));show cond (qa5 p o) _ _=_;rw[qcn];unfold qwz;refine qac (fun e=> ?_) fun e=> ?_
   ·rw[if_pos (show typA (mkA o k)=p from e.symm)]
   ·rw[if_neg (show ¬typA (mkA o k)=p from fun e'=>e (Eq.symm e')),qkh (by omega)];exact xbqq K K1 hK l hl hw p q hp f (i+1) (by omega) (by omega)
  ·obtain rfl:i=l.length:=by omega
   rw[hK,List.drop_of_length_le (zar _)];rfl
theorem xbiy(K:Int->List Int->Option Out)(K1:List Int->Option Out)(hK: ∀a,K1 a=K (-1) a)(l:List CV)(hl:l.length<=1800)(hw: ∀c∈l,WA c)(p:List Int): ∀(f i:Nat),i<=l.length->l.length<f+i->
  qlu K K1 f l (l.length:Int) (i:Int) p=K (qwz p i (l.drop i)) p
 | 0,i,hi,hf=>by omega
 | f+1,i,hi,hf=>by
  show qnd (qlu K K1 f) K K1 l _ _ p=_;unfold qnd;refine qac (fun h=> ?_) fun h=> ?_
  ·obtain⟨c,hc⟩:=qaz (b:=l) (i:=i) (by omega);rw[qcm hc];obtain⟨o,k,rfl,ho,hk⟩:=hw c (zac hc);refine qa1 (by omega) hc (qak rfl (qak (qdc.2 ho.1) ?_));show cond (qa5 o p) _ _=_;rw[qcn];unfold qwz;refine qac (fun e=> ?_) fun e=> ?_
   ·rw[if_pos (show typA (mkA o k)=p from e)]
   ·rw[if_neg (show ¬typA (mkA o k)=p from e),qkh (by omega)];exact xbiy K K1 hK l hl hw p f (i+1) (by omega) (by omega)
  ·obtain rfl:i=l.length:=by omega
   rw[hK,List.drop_of_length_le (zar _)];rfl
theorem xbrr(l:List CV)(p:List Int)(q:List CV)(hp:(qbh l&&qkj p)=true):xbif l p q=zR [.cl (.int .i64 (idxA p l))] [some ⟨.var [.cl (.sli .u32 p),.cl (.slg 3 q)],false⟩]:=by rw[zab] at hp;obtain⟨hl,hw,_⟩:=qav.1 hp.1;unfold xbif idxA;rw[qab,qab];exact xbqq _ _ (fun _ _=>rfl) l hl hw p q hp.2 FUEL 0 (zcc _) (by unfold FUEL;omega)
theorem xbrs(l:List CV)(p:List Int)(hp:qbh l=true):xbig l p=zR [.cl (.int .i64 (idxA p l))] [some ⟨.var [.cl (.sli .u32 p)],false⟩]:=by obtain⟨hl,hw,_⟩:=qav.1 hp;unfold xbig idxA;rw[qab,qab];exact xbiy _ _ (fun _=>rfl) l hl hw p FUEL 0 (zcc _) (by unfold FUEL;omega)
theorem xbz6(l:List CV)(p:List Int)(q:List CV)(hp:(qbh l&&qkj p)=true):xbzs l p q=zR [.cl (.bool (hasA p l))] [some ⟨.var [.cl (.sli .u32 p),.cl (.slg 3 q)],false⟩]:=by unfold hasA;refine qak hp ?_;unfold idxA;rw[qab,qab]
theorem q83(l:List CV)(n:Nat):qp1 (l.take n)<=qp1 l:=by
 have:qp1 l=qp1 (l.take n++l.drop n):=by rw[List.take_append_drop]
 rw[this];unfold qp1;rw[List.map_append,List.sum_append];omega
theorem q8t{l:List CV}(h:qbh l=true)(n:Nat):qbh (l.take n)=true:=by obtain⟨h1,h2,h3⟩:=qav.1 h;have:=q83 l n;exact qav.2 ⟨by rw[zbp];omega,fun c hc=>h2 c (zba hc),by omega⟩
theorem xbdx(l:List CV)(hp:qbh l=true)(K0 K1:Option Out): ∀(f i:Nat),i<=l.length->l.length<f+i->((l.take i).map typA).Nodup->
  ql7 K0 K1 f l l (l.length:Int) (i:Int)=cond (pT (l.map typA).Nodup) K1 K0
 | 0,i,hi,hf,_=>by omega
 | f+1,i,hi,hf,hn=>by
  obtain⟨hl,hw,_⟩:=qav.1 hp;show qnm (ql7 K0 K1 f) K0 K1 l l _ _=_;unfold qnm;refine qac (fun h=> ?_) fun h=> ?_
  ·obtain⟨c,hc⟩:=qaz (b:=l) (i:=i) (by omega);have ih:=xbdx l hp K0 K1 f (i+1) (by omega) (by omega);rw[List.take_add_one,hc] at ih;obtain⟨o,k,rfl,ho,hk⟩:=hw c (zac hc);have hm:mkA o k∈l.drop i:=by rw[qcm hc];simp
   refine qa1 (by omega) hc (qak rfl (qas (by omega) (qas (by omega) ?_)));rw[show Int.toNat (i:Int)=i by omega];refine qak (by rw[q8t hp];exact qdc.2 ho.1) ?_;show cond (hasA o (l.take i)) _ _=_;unfold hasA;rw[qab];refine qac (fun e=> ?_) fun e=> ?_
   ·rw[qow]
    ·rfl
    ·intro hnd;rw[<- List.take_append_drop i l,List.map_append,List.nodup_append] at hnd;have: ¬qwz o 0 (l.take i)<0:=by omega
     refine this (xbfh.2 fun c hc e'=> ?_);exact hnd.2.2 (typA c) (List.mem_map_of_mem hc) (typA (mkA o k)) (List.mem_map_of_mem hm) e'
   ·rw[qkh (by omega)];refine ih ?_;rw[List.map_append,List.nodup_append];refine⟨hn,by simp,fun a ha b hb=> ?_⟩;obtain⟨c,hc,rfl⟩:=za7.1 ha;have e2:=xbfh.1 (show qwz o 0 (l.take i)<0 by omega) c hc;simp at hb;rw[hb];exact e2
  ·obtain rfl:i=l.length:=by omega
   rw[zb4] at hn;rw[qea.2 hn];rfl
theorem xbry(l:List CV)(hp:qbh l=true):xbij l=zB (twoA l):=by
 obtain⟨hl,_⟩:=qav.1 hp;unfold xbij twoA;rw[qab,qab];refine(xbdx l hp _ _ FUEL 0 (zcc _) (by unfold FUEL;omega) (by simp)).trans ?_;by_cases h:(l.map typA).Nodup
 ·rw[qea.2 h,decide_eq_false (fun e=>e h)];rfl
 ·rw[qow h,decide_eq_true h];rfl
open IntWalk (i64_in u8_in u32_in u64_in i64_quo u8_quo rem_in)
theorem q5f: ∀ {k:List CV},(∀v∈k,qsb v)->∃n,(∀c∈k, ∃y,c=.agg y/\isTf n y=true)/\∀m,n<=m->(k.map fun c=>qds m (cell1 c)).sum=qf8 k
 | [],_=>⟨0,by simp,fun m _=>rfl⟩
 | v::r,h=>by
  obtain⟨n,h1,h2⟩:=q5f fun c hc=>h c (zaw _ hc);obtain⟨t,b,k,rfl,hs⟩:=h v (by simp);obtain⟨m,hm,_⟩:=qcc hs;refine⟨max n m,fun c hc=> ?_,fun p hp=> ?_⟩
  ·rcases zas.1 hc with rfl|hc
   ·exact⟨_,rfl,xbdw hm (by omega)⟩
   ·obtain⟨y,rfl,hy⟩:=h1 c hc;exact⟨y,rfl,xbdw hy (by omega)⟩
  ·have e:=qxg (xbdw hm (show m<=p by omega)) (qel hm);have e2:=h2 p (by omega);unfold qf8 at e2 ⊢;rw[zbr,zck,zbr,zck,e2];exact congrArg (· +_) e
abbrev ndC(t:Int)(b:List Int)(k:List CV):List CV:=[.int .i64 t,.sli .u8 b,.slg 3 k]
noncomputable abbrev q84(a:List CV):Nat:=qds (rkOf a) a
theorem qs0{t:Int}{b:List Int}{k:List CV}(hb: ∀x∈b,0<=x/\x<=255)(h: ∀v∈k,qsb v)(hB:1+b.length+qf8 k<=30000):isS (ndC t b k)=true/\q84 (ndC t b k)=1+b.length+qf8 k:=by
 obtain⟨n,h1,h2⟩:=q5f h;have ht:=xbzo (t:=t) hb h1;have hk:qds (n+1) (ndC t b k)=1+b.length+qf8 k:=by rw[<- h2 n (zar _)];rfl
 exact⟨xbam ht (by rw[hk];exact hB),(qxg (qel ht) ht).trans hk⟩
theorem qb6{t:Int}{b:List Int}{k:List CV}(h:isS (ndC t b k)=true):(∀v∈k,qsb v)/\q84 (ndC t b k)=1+b.length+qf8 k/\1+b.length+qf8 k<=30000:=by
 obtain⟨n,hn,hB⟩:=qcc h;obtain⟨m,t',b',l',rfl,e,hb,hl⟩:=qch hn;cases e;have hB':1+b.length+(k.map fun c=>qds m (cell1 c)).sum<=30000:=hB;have hk: ∀v∈k,qsb v:=fun c hc=>by have hm:=qrq (g:=fun c=>qds m (cell1 c)) hc;obtain⟨y,rfl,hy⟩:=hl c hc;obtain⟨_,t1,b1,k1,_,rfl,_⟩:=qch hy;exact⟨t1,b1,k1,rfl,xbam hy (zby hm (by omega))⟩
 obtain⟨n,h1,h2⟩:=q5f hk;have e:qds (max n m+1) (ndC t b k)=qds (m+1) (ndC t b k):=qxg (xbdw hn (by omega)) hn;have e2:qds (max n m+1) (ndC t b k)=1+b.length+qf8 k:=by rw[<- h2 (max n m) (by omega)];rfl
 exact⟨hk,((qxg (qel hn) hn).trans e.symm).trans e2,by omega⟩
theorem flat6: ∀l:List Int,(l.flatMap qar).length<=6*l.length
 | []=>by simp
 | x::r=>by have:=q02 x;have:=flat6 r;rw[za5,zah,zaf];omega
theorem xbqn{o:List Int}(hf:qbf o=true)(hr: ∀n∈o,inU n):qbo 6 (qal o)=true:=by show decide ((qde (qal o)).2=0)=true;rw[show qal o=qb0 o from qab _,qs5 hf hr];rfl
theorem made6{o:List Int}(hr: ∀n∈o,inU n):((qcr 6 (qal o)).2.2=0↔qbf o=true)/\(qcr 6 (qal o)).2.1.length<=120/\∀x∈(qcr 6 (qal o)).2.1,0<=x/\x<=255:=by
 have e:qal o=qb0 o:=qab _
 cases hf:qbf o with
 | true=>
  rw[qrx (xbqn hf hr)];refine⟨by simp, ?_,(q4b hr).2⟩;show(qal o).length<=120;rw[e,qf9 hf];have:=flat6 (oflat o);have:=qvw hf;have:=(q0z hf).2;omega
 | false=>
  have e2:qal o=[]:=by rw[e];unfold qb0;rw[hf];rfl
  rw[e2,qwx rfl];simp
theorem xbjd{o:List Int}(ho:xbdy o):isS (ndC (qcr 6 (qal o)).1 (qcr 6 (qal o)).2.1 [])=true/\q84 (ndC (qcr 6 (qal o)).1 (qcr 6 (qal o)).2.1 [])<=121:=by obtain⟨_,h1,h2⟩:=made6 ho.2;have h:=qs0 (t:=(qcr 6 (qal o)).1) (k:=[]) h2 (by simp) (by show 1+_+0<=_;omega);exact⟨h.1,by rw[h.2];show 1+_+0<=_;omega⟩
theorem qvt: ∀x∈([]:List Int),0<=x/\x<=255:=by simp
theorem qxx{o:List Int}{k:List CV}(ho:xbdy o)(hk:qjd k):isS (ndA (mkA o k))=true/\q84 (ndA (mkA o k))<=123+qf8 k:=by
 obtain⟨a1,a2⟩:=xbjd ho;obtain⟨b1,b2⟩:=qs0 (t:=49) (b:=[]) qvt hk.1 (by have:=hk.2;simp;omega);have hb:qf8 (qw0 o k)=q84 (ndC (qcr 6 (qal o)).1 (qcr 6 (qal o)).2.1 [])+q84 (ndC 49 [] k):=rfl;have:=hk.2;simp only[zbt] at b2;obtain⟨c1,c2⟩:=qs0 (t:=48) (b:=[]) (k:=qw0 o k) qvt (fun v hv=>by
  unfold qw0 at hv;simp only[zas,zdb,or_false] at hv;rcases hv with rfl|rfl
  ·exact⟨_,_,_,rfl,a1⟩
  ·exact⟨_,_,_,rfl,b1⟩) (by simp;omega)
 refine⟨c1, ?_⟩;show q84 (ndC 48 [] (qw0 o k))<=_;rw[c2];simp;omega
noncomputable def gIf(P:CV->Prop)(g:CV->CV)(c:CV):Option CV:=@ite _ (P c) (Classical.propDecidable _) (some (g c)) none
theorem q3h{P:CV->Prop}{g:CV->CV}{c:CV}(h:P c):gIf P g c=some (g c):=if_pos h
theorem q9q{P:CV->Prop}{g:CV->CV}{c:CV}(h: ¬P c):gIf P g c=none:=if_neg h
theorem xbh3{P:CV->Prop}{g:CV->CV}: ∀ {l:List CV},(∀c∈l,P c)->l.filterMap (gIf P g)=l.map g
 | [],_=>rfl
 | c::r,h=>by rw[zc1 (q3h (h c (by simp))),xbh3 fun c hc=>h c (by simp[hc])];rfl
theorem xbh2{P:CV->Prop}{g:CV->CV}{l:List CV}{x:List CV->Option Out}{y r:Option Out}(h1:(∀c∈l,P c)->x (l.map g)=r)(h2: ¬(∀c∈l,P c)->y=r):(if l.all (fun c=>(gIf P g c).isSome)=true then x (l.filterMap (gIf P g)) else y)=r:=by
 by_cases h: ∀c∈l,P c
 ·rw[if_pos (by rw[zai];exact fun c hc=>by rw[q3h (h c hc)];rfl),xbh3 h];exact h1 h
 ·rw[if_neg]
  ·exact h2 h
  ·rw[zai];intro ha;refine h fun c hc=>Classical.byContradiction fun hn=> ?_;have:=ha c hc;rw[q9q hn] at this;cases this
theorem qxm{P:CV->Prop}{g:CV->CV}{l:List CV}{L:Nat->Nat->List CV->Option Out}{bad:Option Out}{fin:List CV->Option Out}{x r:Option Out}(hl:l.length<=1000000)(hx:x=L FUEL 0 [])(hs: ∀(n i:Nat) (acc:List CV) (c:CV),i<l.length->acc.length=i->l[i]? =some c->(P c->L (n+1) i acc=L n (i+1) (acc++[g c]))/\(¬P c->L (n+1) i acc=bad))(hend: ∀(n:Nat) (acc:List CV),acc.length=l.length->L (n+1) l.length acc=fin acc)(h1:(∀c∈l,P c)->fin (l.map g)=r)(h2: ¬(∀c∈l,P c)->bad=r):x=r:=by
 refine(q9h (f:=gIf P g) hl hx (fun n i acc c hi ha hc=> ?_) hend).trans (xbh2 (x:=fin) h1 h2);obtain⟨a1,a2⟩:=hs n i acc c hi ha hc;by_cases h:P c
 ·rw[q3h h];exact a1 h
 ·rw[q9q h];exact a2 h
theorem xboe{P:CV->Prop}{g:CV->CV}{d:CV}{l:List CV}{L:Nat->Nat->List CV->Option Out}{bad:Option Out}{fin:List CV->Option Out}{w:Int}{x r:Option Out}(hl:l.length<=1000000)(hx:x=L FUEL 0 (List.replicate l.length d))(hs: ∀(n i:Nat) (acc:List CV) (c:CV),i<l.length->acc.length=l.length->l[i]? =some c->(P c->L (n+1) i acc=L n (i+1) (acc.set i (g c)))/\(¬P c->L (n+1) i acc=bad))(hend: ∀(n:Nat) (acc:List CV),L (n+1) l.length acc=fin acc)(h1:(∀c∈l,P c)->fin (l.map g)=r)(h2: ¬(∀c∈l,P c)->bad=r)(hw0:0<=w:=by omega)(hw:w<=100:=by omega):
  cond (decide ((0:Int)<=(l.length:Int))) (cond (decide ((l.length:Int)<=(l.length:Int))) (cond (decide ((l.length:Int)*w<=LIM)) (cond (decide ((l.length:Int)<=LIM)) x none) none) none) none=r:=by
 refine(xbub (f:=gIf P g) (d:=d) hl hw0 hw hx (fun n i acc c hi ha hc=> ?_) hend).trans (xbh2 (x:=fin) h1 h2);obtain⟨a1,a2⟩:=hs n i acc c hi ha hc;by_cases h:P c
 ·rw[q3h h];exact a1 h
 ·rw[q9q h];exact a2 h
theorem q0r{k:List CV}(h: ∀v∈k,qsb v):k.length<=qf8 k:=by refine xbdj fun v hv=> ?_;obtain⟨t,b,q,rfl,hs⟩:=h v hv;obtain⟨n,hn,_⟩:=qcc hs;exact q86 (qel hn)
theorem qrz{k:List CV}(h:qjd k):k.length<=1800:=by have:=q0r h.1;have:=h.2;omega
theorem xbw1(t:Int)(b:List Int)(k:List CV)(hp:true=true):xbvy t b k=zR [.cl (.agg [.int .i64 t,.sli .u8 b,.slg 3 k]),.cl (.bool true)] []:=rfl
theorem xbuh(l:List CV):srt4 l=isort (ltK ky4) l:=by unfold srt4;rw[qab]
theorem xbuf(l:List CV):srt3 l=isort (ltK ky3) l:=by unfold srt3;rw[qab]
theorem xb0a(l:List CV)(hp:xbuu l=true):xby3 l=zR [.cl (.slg 4 (itV l).1),.cl (.bool (itV l).2)] []:=by
 have hk:=q5g.1 hp;have hl:=qrz hk;unfold xby3 itV;rw[qab,qab];refine room (by omega) (qxm (l:=l) (P:=fun v=>(qa0 (cell1 v)).2=0) (g:=wbV) (L:=fun f i acc=>qvm _ _ f acc.length l (l.length:Int) (i:Int) acc) (bad:=zR [.cl (.slg 4 []),.cl (.bool false)] []) (fin:=fun acc=>cond (rows4 acc.length acc) (zR [.cl (.slg 4 (srt4 acc)),.cl (.bool true)] []) none) (by omega) rfl (fun n i acc x hi ha hx=> ?_) (fun n acc ha=>qdt (by omega) rfl) (fun hf=> ?_) fun hf=> ?_)
 ·obtain⟨t,b,k,rfl,hs⟩:=hk.1 x (zac hx);exact⟨fun h=>qas (by omega) (qa1 (by omega) hx (qak rfl (qak hs (qkq h (qyd (A:=fun a b c=>qvm _ _ n a l _ b c) ha (by omega) (by omega)))))),fun h=>qas (by omega) (qa1 (by omega) hx (qak rfl (qak hs (qmy h rfl))))⟩
 ·refine qak (qhk ⟨rfl,by rw[zam];omega,fun c hc=> ?_⟩) ?_
  ·obtain⟨v,hv,rfl⟩:=za7.1 hc;exact qhn (hk.1 v hv)
  ·rw[if_pos (show fitV l from hf),xbuh]
 ·rw[if_neg (show ¬fitV l from hf)]
theorem xb0i(l:List CV)(hp:rows4 l.length l=true):xby9 l=zR [.cl (.slg 3 (thV l))] []:=by obtain⟨_,hl,hw⟩:=qba hp;unfold xby9 thV;rw[qab,qab];refine xboe (P:=fun _=>True) (g:=cut3) (L:=fun f i acc=>q1f _ f l.length l (l.length:Int) (i:Int) acc) (bad:=none) (fin:=fun acc=>zR [.cl (.slg 3 acc)] []) (by omega) rfl (fun n i acc x hi ha hx=>⟨fun _=> ?_,fun h=>absurd trivial h⟩) (fun n acc=>qdt (by omega) rfl) (fun _=>rfl) fun h=>absurd (fun _ _=>trivial) h;obtain⟨t,b,k,w,rfl,_⟩:=hw x (zac hx);refine qas (by omega) (qa1 (by omega) hx (qak rfl (qa6 (by omega) (by omega) ?_)));rw[show 0+Int.toNat (i:Int)=i by omega,qkh (by omega)];rfl
theorem xb0h(l:List CV)(hp:rows3 l.length l=true):xby8 l=zR [.cl (.slg 2 (thA l))] []:=by obtain⟨_,hl,hw⟩:=qa9 hp;unfold xby8 thA;rw[qab,qab];refine xboe (P:=fun _=>True) (g:=cut2) (L:=fun f i acc=>q1e _ f l.length l (l.length:Int) (i:Int) acc) (bad:=none) (fin:=fun acc=>zR [.cl (.slg 2 acc)] []) (by omega) rfl (fun n i acc x hi ha hx=>⟨fun _=> ?_,fun h=>absurd trivial h⟩) (fun n acc=>qdt (by omega) rfl) (fun _=>rfl) fun h=>absurd (fun _ _=>trivial) h;obtain⟨o,k,w,rfl,_⟩:=hw x (zac hx);refine qas (by omega) (qa1 (by omega) hx (qak rfl (qa6 (by omega) (by omega) ?_)));rw[show 0+Int.toNat (i:Int)=i by omega,qkh (by omega)];rfl
theorem xbz1{k:List CV}(h: ∀v∈k,qsb v): ∀c∈isort (ltK ky4) (k.map wbV),W4A c:=fun c hc=>by obtain⟨v,hv,rfl⟩:=za7.1 (qg3.1 hc);exact qhn (h v hv)
theorem xb0d(o:List Int)(k:List CV)(hp:at1Ok o k=true):xby5 o k=zR [.cl (.agg [.sli .u32 o,.slg 3 (ordV k)]),.cl (.bool (xbm2 o k))] []:=by
 obtain⟨ho,hk⟩:=qcy.1 hp;have hl:=qrz hk;unfold xby5 ordV qph xbm2 itV thV;simp only[qab];refine qak (q5g.2 hk) (qak (qdc.2 ho.1) ?_);by_cases hf:fitV k
 ·simp only[if_pos hf];refine qak (qhk ⟨rfl,by rw[qdd,zam];omega,xbz1 hk.1⟩) ?_;show cond (decide ((0:Int)<(((isort (ltK ky4) (k.map wbV)).length:Nat):Int))) _ _=_;rw[qdd,zam];unfold qhf;rw[qab];refine qac (fun h=> ?_) fun h=> ?_
  ·cases he:qbf o with
   | true=>rw[qea.2 ⟨hf,by omega,he⟩]
   | false=>rw[qow fun h'=>by rw[h'.2.2] at he;cases he]
  ·rw[qow fun h'=>h (by have:=h'.2.1;omega)]
 ·simp only[if_neg hf];refine qak (qhk ⟨rfl,by simp,by simp⟩) ?_;rw[qow fun h'=>hf h'.1];rfl
theorem nTNd(o:List Int)(k:List CV)(hp:at1Ok o k=true):gTNd o k=zR [.cl (.agg [.int .i64 48,.sli .u8 qbe,.slg 3 (qr5 o k)]),.cl (.bool (xbox o))] []:=by obtain⟨ho,hk⟩:=qcy.1 hp;unfold gTNd qr5 xbox qw0;simp only[qab,qhe];exact qak (xbaf (by have:=ho.1;omega) ho.2) (qak (qlk (by simp)) rfl)
theorem xbuv{o:List Int}{k:List CV}(ho:xbdy o)(hk:qjd k):W3A (wbA (mkA o k)):=by have hs:=(qxx ho hk).1;obtain⟨t,b,q,w,e,hw⟩:=qhn (c:=.agg (ndA (mkA o k))) ⟨_,_,_,rfl,hs⟩;have e:CV.agg [.int .i64 48,.sli .u8 [],.slg 3 (qw0 o k),.sli .u8 (qa0 (ndA (mkA o k))).1]=.agg [.int .i64 t,.sli .u8 b,.slg 3 q,.sli .u8 w]:=e;simp only[CV.agg.injEq,zbc,CV.sli.injEq,true_and,and_true] at e;exact⟨o,k,_,rfl,by rw[e.2.2.2];exact hw⟩
theorem xbz9(l:List CV)(hp:qbh l=true):xby2 l=zR [.cl (.slg 3 (itA l).1),.cl (.bool (itA l).2)] []:=by
 obtain⟨hl,hW,_⟩:=qav.1 hp;unfold xby2 itA;rw[qab,qab];refine room (by omega) (qxm (l:=l) (P:=fun c=>(qcr 6 (qal (typA c))).2.2=0/\(qa0 (ndA c)).2=0) (g:=wbA) (L:=fun f i acc=>qvl _ _ f acc.length l (l.length:Int) (i:Int) acc) (bad:=zR [.cl (.slg 3 []),.cl (.bool false)] []) (fin:=fun acc=>cond (rows3 acc.length acc) (zR [.cl (.slg 3 (srt3 acc)),.cl (.bool true)] []) none) (by omega) rfl (fun n i acc x hi ha hx=> ?_) (fun n acc ha=>qdt (by omega) rfl) (fun hf=> ?_) fun hf=> ?_)
 ·obtain⟨o,k,rfl,ho,hk⟩:=hW x (zac hx);have hs:=(qxx ho hk).1;have st: ∀ {X Y R:Option Out},(((qcr 6 (qal o)).2.2=0/\(qa0 (ndA (mkA o k))).2=0)->Y=R)->(¬((qcr 6 (qal o)).2.2=0/\(qa0 (ndA (mkA o k))).2=0)->X=R)->cond (isS (ndC 48 qbe (qr5 o k))) (cond (!xbox o) X (cond (!decide ((qa0 (ndC 48 qbe (qr5 o k))).2=0)) X Y)) none=R:=fun h1 h2=>by rw[qce,show qr5 o k=qw0 o k from qab _,show xbox o=decide ((qcr 6 (qal o)).2.2=0) from qab _];exact qak hs (qa2 (fun h=>h2 fun e=>h e.1) fun h=>qa2 (fun h'=>h2 fun e=>h' e.2) fun h'=>h1 ⟨h,h'⟩)
  refine⟨fun h=>qas (by omega) (qa1 (by omega) hx (qak rfl (qak (qcy.2 ⟨ho,hk⟩) (st (fun _=> ?_) fun h'=>absurd h h')))),fun h=>qas (by omega) (qa1 (by omega) hx (qak rfl (qak (qcy.2 ⟨ho,hk⟩) (st (fun h'=>absurd h' h) fun _=>rfl))))⟩;dsimp only;rw[qce,show qr5 (qbb ((cell1 (mkA o k)).headD .nili)) (qca ((cell1 (mkA o k)).tail.headD .nili))=qw0 o k from qab _];exact qyd (A:=fun a b c=>qvl _ _ n a l _ b c) ha (by omega) (by omega)
 ·refine qak (qi6 ⟨rfl,by rw[zam];omega,fun c hc=> ?_⟩) ?_
  ·obtain⟨v,hv,rfl⟩:=za7.1 hc;obtain⟨o,k,rfl,ho,hk⟩:=hW v hv;exact xbuv ho hk
  ·rw[if_pos (show fitA l from hf),xbuf]
 ·rw[if_neg (show ¬fitA l from hf)]
theorem xbz5(l:List CV)(g:Int)(hp:qbh l=true):xby0 l g=zR [.cl (.agg [.int .i64 g,.sli .u8 qbe,.slg 3 (xblc l)])] []:=by obtain⟨hl,hW,_⟩:=qav.1 hp;unfold xby0 xblc boxA;rw[qab,qab,qce];refine qxm (l:=l) (P:=fun _=>True) (g:=fun c=>.agg (ndA c)) (L:=fun f i acc=>qvi _ f l (l.length:Int) (i:Int) g acc.length acc) (bad:=none) (fin:=fun acc=>zR [.cl (.agg [.int .i64 g,.sli .u8 [],.slg 3 acc])] []) (by omega) rfl (fun n i acc x hi ha hx=>⟨fun _=> ?_,fun h=>absurd trivial h⟩) (fun n acc ha=>qdt (by omega) rfl) (fun _=>rfl) fun h=>absurd (fun _ _=>trivial) h;obtain⟨o,k,rfl,ho,hk⟩:=hW x (zac hx);refine qas (by omega) (qa1 (by omega) hx (qak rfl (qak (qcy.2 ⟨ho,hk⟩) ?_)));dsimp only;rw[qce,show qr5 (qbb ((cell1 (mkA o k)).headD .nili)) (qca ((cell1 (mkA o k)).tail.headD .nili))=qw0 o k from qab _];exact qyd (A:=fun a b c=>qvi _ n l _ b g a c) ha (by omega) (by omega)
section
variable {α β:Type} {lt:α->α->Bool} {lt':β->β->Bool}
theorem q3o{x:α}: ∀ {l:List α},(ins lt x l).Perm (x::l)
 | []=>.refl _
 | z::r=>by
  unfold ins;split
  ·exact((q3o).cons z).trans (.swap ..)
  ·exact .refl _
theorem qqe: ∀ {l:List α},(isort lt l).Perm l
 | []=>.refl _
 | x::r=>q3o.trans (qqe.cons x)
theorem q07: ∀ {l:List α},Srt lt l->isort lt l=l
 | [],_=>rfl
 | [x],_=>rfl
 | x::z::r,h=>by obtain⟨h1,h2⟩:=List.pairwise_cons.1 h;show ins lt x (isort lt (z::r))=_;rw[q07 h2];unfold ins;rw[if_neg (by rw[h1 z (by simp)];simp)]
theorem xbi3(g:α->β){x:α}: ∀ {l:List α},(∀z∈l,lt' (g z) (g x)=lt z x)->ins lt' (g x) (l.map g)=(ins lt x l).map g
 | [],_=>rfl
 | z::r,h=>by
  rw[zbr];unfold ins;rw[h z (by simp)];by_cases e:lt z x=true
  ·rw[if_pos e,if_pos e,xbi3 g fun c hc=>h c (by simp[hc])];rfl
  ·rw[if_neg e,if_neg e];rfl
theorem q3u(g:α->β): ∀ {l:List α},(∀x∈l, ∀y∈l,lt' (g x) (g y)=lt x y)->isort lt' (l.map g)=(isort lt l).map g
 | [],_=>rfl
 | x::r,h=>by show ins lt' (g x) (isort lt' (r.map g))=(ins lt x (isort lt r)).map g;rw[q3u g fun a ha b hb=>h a (by simp[ha]) b (by simp[hb]),xbi3 g fun z hz=>h z (by simp[qg3.1 hz]) x (by simp)]
theorem qkr{f:α->β}{g:β->α}{l:List α}(h: ∀c∈l,g (f c)=c):(l.map f).map g=l:=by rw[zcg];exact(zbx h).trans (List.map_id l)
end
theorem xbhu{v:CV}(h:qsb v):cut3 (wbV v)=v:=by obtain⟨t,b,k,rfl,_⟩:=h;rfl
theorem xbht{c:CV}(h:WA c):cut2 (wbA c)=c:=by obtain⟨o,k,rfl,_⟩:=h;rfl
theorem xbux{k:List CV}(h: ∀v∈k,qsb v): ∀c∈isort (ltK ky4) (k.map wbV),wbV (cut3 c)=c:=fun c hc=>by obtain⟨v,hv,rfl⟩:=za7.1 (qg3.1 hc);rw[xbhu (h v hv)]
theorem xbuw{l:List CV}(h: ∀c∈l,WA c): ∀c∈isort (ltK ky3) (l.map wbA),wbA (cut2 c)=c:=fun c hc=>by obtain⟨v,hv,rfl⟩:=za7.1 (qg3.1 hc);rw[xbht (h v hv)]
theorem qj4{k:List CV}(hf:fitV k):qph k=(isort (ltK ky4) (k.map wbV)).map cut3:=by unfold qph;rw[if_pos hf]
theorem xbge{k:List CV}(hf: ¬fitV k):qph k=[]:=by unfold qph;rw[if_neg hf]
theorem qq7{k:List CV}(h: ∀v∈k,qsb v)(hf:fitV k):(qph k).Perm k:=by rw[qj4 hf];refine(qqe.map cut3).trans ?_;rw[qkr fun c hc=>xbhu (h c hc)]
theorem qpi{l:List CV}(h: ∀c∈l,WA c):(srtA l).Perm l:=by unfold srtA;refine(qqe.map cut2).trans ?_;rw[qkr fun c hc=>xbht (h c hc)]
theorem q85{k q:List CV}(h:k.Perm q):qf8 k=qf8 q:=List.Perm.sum_nat (h.map _)
theorem q82{k q:List CV}(h:k.Perm q):qp1 k=qp1 q:=List.Perm.sum_nat (h.map _)
theorem xbd3{k:List CV}(h:qjd k):qjd (qph k)/\qf8 (qph k)<=qf8 k:=by
 by_cases hf:fitV k
 ·have hq:=qq7 h.1 hf;have:=q85 hq;exact⟨⟨fun v hv=>h.1 v (hq.mem_iff.1 hv),by have:=h.2;omega⟩,by omega⟩
 ·rw[xbge hf];exact⟨⟨by simp,by show 0<=_;omega⟩,by show 0<=_;omega⟩
theorem xbjm(o:List Int)(k:List CV):ordA (mkA o k)=mkA o (qph k):=rfl
theorem xbvm{c:CV}(h:WA c):WA (ordA c):=by obtain⟨o,k,rfl,ho,hk⟩:=h;exact⟨o,_,rfl,ho,(xbd3 hk).1⟩
theorem q2z: ∀ {l:List CV},(∀c∈l,WA c)->qp1 (l.map ordA)<=qp1 l
 | [],_=>zar _
 | c::r,h=>by have ih:=q2z fun c hc=>h c (zaw _ hc);obtain⟨o,k,rfl,ho,hk⟩:=h c (by simp);have:=(xbd3 hk).2;unfold qp1 at ih ⊢;rw[zbr,zbr,zck,zbr,zck];have e1:qf8 (qhw (ordA (mkA o k)))=qf8 (qph k):=rfl;have e2:qf8 (qhw (mkA o k))=qf8 k:=rfl;omega
theorem qsl{l:List CV}(h:qbh l=true):qbh (l.map ordA)=true:=by obtain⟨h1,h2,h3⟩:=qav.1 h;refine qav.2 ⟨by rw[zam];exact h1,fun c hc=> ?_,zby (q2z h2) h3⟩;obtain⟨v,hv,rfl⟩:=za7.1 hc;exact xbvm (h2 v hv)
theorem xble{l q:List CV}(p:q.Perm l)(h:qbh l=true):qbh q=true:=by obtain⟨h1,h2,h3⟩:=qav.1 h;exact qav.2 ⟨by rw[p.length_eq];exact h1,fun c hc=>h2 c (p.mem_iff.1 hc),by rw[q82 p];exact h3⟩
theorem q8u{l:List CV}(h:qbh l=true):qbh (srtA l)=true:=xble (qpi (qav.1 h).2.1) h
theorem xbld{l:List CV}(h:qbh l=true):qbh (srtA (l.map ordA))=true:=q8u (qsl h)
theorem xbho{l:List CV}(h: ∀c∈l,WA c): ∀v∈boxA l,qsb v:=fun v hv=>by obtain⟨c,hc,rfl⟩:=za7.1 hv;obtain⟨o,k,rfl,ho,hk⟩:=h c hc;exact⟨_,_,_,rfl,(qxx ho hk).1⟩
theorem q2x: ∀ {l:List CV},(∀c∈l,WA c)->qf8 (boxA l)<=123*l.length+qp1 l
 | [],_=>zar _
 | c::r,h=>by have ih:=q2x fun c hc=>h c (zaw _ hc);obtain⟨o,k,rfl,ho,hk⟩:=h c (by simp);have e:=(qxx ho hk).2;unfold qf8 boxA qp1 at ih ⊢;rw[zbr,zbr,zck,zbr,zck,zaf];have e1:qds (rkOf (cell1 (.agg (ndA (mkA o k))))) (cell1 (.agg (ndA (mkA o k))))=q84 (ndA (mkA o k)):=rfl;have e2:qf8 (qhw (mkA o k))=qf8 k:=rfl;omega
theorem qsm{l:List CV}(g:Int)(h:qbh l=true)(hl:l.length<=20):isS (ndC g [] (boxA l))=true:=by obtain⟨_,h2,h3⟩:=qav.1 h;have:=q2x h2;exact(qs0 qvt (xbho h2) (by simp;omega)).1
theorem xbbm{k:List CV}(h: ∀v∈k,qsb v)(hf:fitV k):fitV (qph k)/\qph (qph k)=qph k:=by have hp:=qq7 h hf;have hf2:fitV (qph k):=fun v hv=>hf v (hp.mem_iff.1 hv);refine⟨hf2, ?_⟩;rw[qj4 hf2,qj4 hf,qkr (xbux h),q07 (qfl (qei ky4).toPre2 (qei ky4).irr _)]
theorem xbha{l:List CV}(h: ∀c∈l,WA c):srtA (srtA l)=srtA l:=by unfold srtA;rw[qkr (xbuw h),q07 (qfl (qei ky3).toPre2 (qei ky3).irr _)]
theorem xbgd{c:CV}(h:WA c)(hb:ordB (typA c) (qhw c)):ordA (ordA c)=ordA c/\ordB (typA (ordA c)) (qhw (ordA c)):=by obtain⟨o,k,rfl,ho,hk⟩:=h;have hb:ordB o k:=hb;obtain⟨h1,h2⟩:=xbbm hk.1 hb.1;rw[xbjm,xbjm,h2];exact⟨rfl,h1,by have:=(qq7 hk.1 hb.1).length_eq;show 0<(qph k).length;have:=hb.2.1;omega,hb.2.2⟩
theorem xbmg{α:Type}{f:α->α}{l:List α}(h: ∀c∈l,f c=c):l.map f=l:=(zbx h).trans (List.map_id l)
theorem xbqk{l:List CV}(h:qbh l=true)(hg:xben l):okA (srtA (l.map ordA)):=by
 obtain⟨_,hW,_⟩:=qav.1 h;obtain⟨_,hW2,_⟩:=qav.1 (qsl h);obtain⟨g1,g2,g3,g4,g5⟩:=hg;have hp:=qpi hW2;have hm: ∀c∈srtA (l.map ordA),ordA c=c/\ordB (typA c) (qhw c):=fun c hc=>by obtain⟨d,hd,rfl⟩:=za7.1 (hp.mem_iff.1 hc);exact xbgd (hW d hd) (g3 d hd)
 have e:=xbmg fun c hc=>(hm c hc).1;have hs:srtA (srtA (l.map ordA))=srtA (l.map ordA):=xbha hW2;refine⟨⟨?_, ?_,fun c hc=>(hm c hc).2, ?_, ?_⟩, ?_⟩
 ·rw[hp.length_eq,zam];exact g1
 ·refine(hp.map typA).nodup_iff.2 ?_;rw[zcg];exact g2
 ·rw[e];exact fun c hc=>g4 c (hp.mem_iff.1 hc)
 ·rw[e,hs];exact g5
 ·rw[e,hs]
open IntWalk (i64_in u8_in u32_in u64_in i64_quo u8_quo rem_in)
theorem xbu4{l:List CV}(h:xben l):qfh l=(srtA (l.map ordA),0):=by unfold qfh q8r;rw[qab,if_pos h]
theorem xbu3{l:List CV}(h: ¬xben l):qfh l=([],1):=by unfold qfh q8r;rw[qab,if_neg h]
theorem xbv9{l:List CV}(h:qbh l=true):qbh (qfh l).1=true:=by
 by_cases hg:xben l
 ·rw[xbu4 hg];exact xbld h
 ·rw[xbu3 hg];exact qav.2 ⟨by simp,by simp,by show 0<=_;omega⟩
theorem xbl4{l:List CV}(h: ∀c∈l,WA c): ∀c∈isort (ltK ky3) (l.map wbA),W3A c:=fun c hc=>by obtain⟨v,hv,rfl⟩:=za7.1 (qg3.1 hc);obtain⟨o,k,rfl,ho,hk⟩:=h v hv;exact xbuv ho hk
theorem xbwz(l:List CV)(hp:qbh l=true):xbp1 l=zR [.cl (.slg 2 (qfh l).1),.cl (.int .i64 (qfh l).2)] []:=by
 obtain⟨hl,hW,_⟩:=qav.1 hp;have bad: ¬xben l->zR [.cl (.slg 2 []),.cl (.int .i64 1)] []=zR [.cl (.slg 2 (qfh l).1),.cl (.int .i64 (qfh l).2)] []:=fun h=>by rw[xbu3 h]
 unfold xbp1 twoA;simp only[qab];refine qac (fun h=>bad fun hg=>by have:=hg.1.1;omega) fun h=>qac (fun h2=>bad fun hg=>by have:=hg.1.2;omega) fun h2=>qak hp (qac (fun h3=>bad fun hg=>h3 hg.2.1) fun h3=> ?_);refine xboe (P:=fun c=>ordB (typA c) (qhw c)) (g:=ordA) (L:=fun f i acc=>qvn _ _ f l.length l (l.length:Int) (i:Int) acc) (by omega) rfl (fun n i acc x hi ha hx=> ?_) (fun n acc=>qdt (by omega) rfl) (fun hf=> ?_) fun hf=>bad fun hg=>hf hg.2.2.1
 ·obtain⟨o,k,rfl,ho,hk⟩:=hW x (zac hx);have e0:xbm2 o k=pT (ordB o k):=qab _;refine⟨fun h=>qas (by omega) (qa1 (by omega) hx (qak rfl (qak (qcy.2 ⟨ho,hk⟩) ?_))),fun h=>qas (by omega) (qa1 (by omega) hx (qak rfl (qak (qcy.2 ⟨ho,hk⟩) ?_)))⟩
  ·show cond (!xbm2 o k) _ (idxK (i:Int) l.length fun _=>_)=_;rw[e0,qea.2 (show ordB o k from h)];refine q2v rfl (qa6 (by omega) (by omega) ?_);dsimp only;rw[show 0+Int.toNat (i:Int)=i by omega,qkh (by omega),show ordV (qca ((cell1 (mkA o k)).tail.headD .nili))=qph k from qab _];rfl
  ·show cond (!xbm2 o k) _ _=_;rw[e0,qow (show ¬ordB o k from h)];rfl
 ·have hq:=qsl hp;obtain⟨hl2,hW2,_⟩:=qav.1 hq;refine qak hq ?_;unfold itA thA xblc;simp only[qab,qce];by_cases hf2:fitA (l.map ordA)
  ·simp only[if_pos hf2];have hr:rows3 (isort (ltK ky3) ((l.map ordA).map wbA)).length (isort (ltK ky3) ((l.map ordA).map wbA))=true:=qi6 ⟨rfl,by rw[qdd,zam];omega,xbl4 hW2⟩;have hs:=qsm 49 (q8u hq) (by rw[(qpi hW2).length_eq,zam];omega);refine q2v rfl (qak hr (qak (q8u hq) (qak hs ?_)));show cond (!qou (ndC 49 [] (boxA (srtA (l.map ordA))))) _ _=_
   cases hfit:qou (ndC 49 [] (boxA (srtA (l.map ordA)))) with
   | true=>
    rw[xbu4 ⟨by omega,Classical.not_not.1 h3,hf,hf2,hfit⟩];exact q2v rfl (qak hr rfl)
   | false=>exact bad fun hg=>by rw[show qou (ndC 49 [] (boxA (srtA (l.map ordA))))=true from hg.2.2.2.2] at hfit;cases hfit
  ·simp only[if_neg hf2];exact bad fun hg=>hf2 hg.2.2.2.1
theorem q5e{k:List CV}(h:qjd k):isNs k=true:=by obtain⟨n,h1,h2⟩:=q5f h.1;have e:=h2 n (zar _);have:=qrz h;refine xbi6 (n:=n) (by omega) fun c hc=> ?_;have hm:=qrq (g:=fun c=>qds n (cell1 c)) hc;obtain⟨y,rfl,hy⟩:=h1 c hc;have:=h.2;exact⟨y,rfl,q1i hy (zby hm (by omega))⟩
theorem qlc(a b:List CV):qhv a b=pT (a=b):=qab _
theorem xb0f(o:List Int)(k:List CV)(p:List Int)(q:List CV)(hp:(at1Ok o k&&at1Ok p q)=true):xby7 o k p q=zB (qhv [mkA o k] [mkA p q]):=by
 rw[zab] at hp;obtain⟨ho,hk⟩:=qcy.1 hp.1;obtain⟨hp2,hq⟩:=qcy.1 hp.2;unfold xby7;rw[qlc,qcn];refine qak (qdc.2 ho.1) (qac (fun e=>qak (by rw[q5e hk,q5e hq];rfl) ?_) fun e=> ?_)
 ·subst e;by_cases e:k=q
  ·subst e;rw[qea.2 rfl,qhc.2 rfl]
  ·rw[qow (by simp[e]),qoj.2 e]
 ·rw[qow (by simp[e])]
theorem q4v{a b:List CV}{x:Option Out}(h:x=cond (pT (a=b)) (zB true) (zB false)):x=zB (qhv a b):=by rw[h,qlc];cases pT (a=b)<;>rfl
theorem xbz7(a b:List CV)(hp:(qbh a&&qbh b)=true):xby1 a b=zB (qhv a b):=by
 rw[zab] at hp;obtain⟨hl,hW,_⟩:=qav.1 hp.1;obtain⟨hl2,hW2,_⟩:=qav.1 hp.2;unfold xby1;rw[qab];have st: ∀ {o p:List Int} {k q:List CV} {X Y:Option Out},WA (mkA o k)->WA (mkA p q)->cond (at1Ok o k&&at1Ok p q) (cond (!qhv [mkA o k] [mkA p q]) X Y) none=cond (pT (mkA o k=mkA p q)) Y X:=fun {o p k q X Y} h1 h2=>by obtain⟨_,_,e1,a1,a2⟩:=h1;obtain⟨_,_,e2,b1,b2⟩:=h2;cases e1;cases e2;rw[qcy.2 ⟨a1,a2⟩,qcy.2 ⟨b1,b2⟩,qlc,xbu5 (show([mkA o k]=[mkA p q])↔(mkA o k=mkA p q) by simp)];cases pT (mkA o k=mkA p q)<;>rfl
 refine q4v (qwj (L:=fun f i=>q1c _ _ f b a (a.length:Int) (i:Int)) rfl (by omega) (fun n i x hi hx hy=> ?_) (fun n i x y hi hx hy hne=> ?_) fun n=> ?_)
 ·have h1:=hW x (zac hx);obtain⟨o,k,rfl,ho,hk⟩:=h1;refine qas (by omega) (qa1 (by omega) hx (qak rfl (qa1 (by omega) hy (qak rfl ((st ⟨o,k,rfl,ho,hk⟩ ⟨o,k,rfl,ho,hk⟩).trans ?_)))));rw[qea.2 rfl,qkh (by omega)];rfl
 ·have h1:=hW x (zac hx);have h2:=hW2 y (zac hy);obtain⟨o,k,rfl,ho,hk⟩:=h1;obtain⟨p,q,rfl,hp2,hq⟩:=h2;refine qas (by omega) (qa1 (by omega) hx (qak rfl (qa1 (by omega) hy (qak rfl ((st ⟨o,k,rfl,ho,hk⟩ ⟨p,q,rfl,hp2,hq⟩).trans ?_)))));rw[qow hne];rfl
 ·exact qdt (by omega) rfl
theorem xbw5(a b:List CV)(hp:(qbh a&&qbh b)=true):xbvz a b=zB (qhv a b):=qak hp rfl
theorem q0y(l:List CV):q0o l=pT (okA l):=qab _
theorem xbyv{l:List CV}{g:Option Out}(hp:qbh l=true)(h:g=cond (qbh l) (cond (decide ((qfh l).2=0)) (cond (qbh l&&qbh (qfh l).1) (zB (qhv l (qfh l).1)) none) (zB false)) none):g=zB (q0o l):=by
 rw[h,q0y];refine qak hp ?_;by_cases hg:xben l
 ·have hm:=xbv9 hp;rw[xbu4 hg] at hm ⊢;refine qas rfl (qak (by rw[hp,hm];rfl) ?_);rw[qlc,xbu5 (show l=srtA (l.map ordA)↔okA l from⟨fun e=>⟨hg,e⟩,fun e=>e.2⟩)]
 ·rw[xbu3 hg];refine qdt (by simp) ?_;rw[qow fun e=>hg e.1]
theorem xbz8(l:List CV)(hp:qbh l=true):xbzt l=zB (q0o l):=xbyv hp rfl
theorem xbhd(g:Int):q8s g=decide (g=49\/(160<=g/\g<=190)):=qab _
theorem xbzn{g:Int}{x:Option Out}(h:x=cond (decide (g=49)) (zB true) (cond (decide ((160:Int)<=g)) (zB (decide (g<=190))) (zB false))):x=zB (q8s g):=by
 rw[h,xbhd];refine qac (fun h=> ?_) fun h=>qac (fun h2=>qap ?_) fun h2=>qap ?_
 ·rw[decide_eq_true (.inl h)]
 ·rw[decide_eq_decide];omega
 ·rw[eq_comm,decide_eq_false_iff_not];omega
theorem xb0g(g:Int)(hp:true=true):xbzv g=zB (q8s g):=xbzn rfl
theorem xbbf{l:List CV}{g:Int}(h: ¬(g=49\/(160<=g/\g<=190))):qbx l g=(0,[],4):=by unfold qbx;rw[qab,if_pos h]
theorem q33{l:List CV}{g:Int}(h:g=49\/(160<=g/\g<=190))(hk: ¬okA l):qbx l g=(0,[],1):=by unfold qbx;rw[qab,if_neg (fun e=>e h),if_neg hk]
theorem q34{l:List CV}{g:Int}(h:g=49\/(160<=g/\g<=190))(hk:okA l):qbx l g=(g,boxA l,0):=by unfold qbx;rw[qab,if_neg (fun e=>e h),if_pos hk]
theorem xbsa{l:List CV}{g:Int}{x:Option Out}{B:List CV}(hp:qbh l=true)(hB:okA l->B=boxA l)(h:x=cond (!q8s g) (zR [.cl (.agg [.int .i64 0,.sli .u8 [],.slg 3 []]),.cl (.int .i64 4)] []) (cond (qbh l) (cond (!q0o l) (zR [.cl (.agg [.int .i64 0,.sli .u8 [],.slg 3 []]),.cl (.int .i64 1)] []) (cond (qbh l) (zR [.cl (.agg [.int .i64 g,.sli .u8 qbe,.slg 3 B]),.cl (.int .i64 0)] []) none)) none)):
  x=zR [.cl (.agg [.int .i64 (qbx l g).1,.sli .u8 qbe,.slg 3 (qbx l g).2.1]),.cl (.int .i64 (qbx l g).2.2)] []:=by
 rw[h,qce,xbhd,q0y];refine qa2 (fun h=> ?_) fun h=>qak hp ?_
 ·rw[xbbf h]
 ·by_cases hk:okA l
  ·rw[q34 h hk,qea.2 hk,hB hk];exact q2v rfl (qak hp rfl)
  ·rw[q33 h hk,qow hk];rfl
theorem xbvq(l:List CV):xblc l=boxA l:=qab _
theorem xbw0(l:List CV)(g:Int)(hp:qbh l=true):xbvx l g=zR [.cl (.agg [.int .i64 (qbx l g).1,.sli .u8 qbe,.slg 3 (qbx l g).2.1]),.cl (.int .i64 (qbx l g).2.2)] []:=xbsa hp (fun _=>xbvq l) rfl
theorem xbom{k:List CV}(h: ∀v∈k,qsb v)(hl:k.length=2): ∃t0 b0 k0 t1 b1 k1,k=[.agg (ndC t0 b0 k0),.agg (ndC t1 b1 k1)]/\isS (ndC t0 b0 k0)=true/\isS (ndC t1 b1 k1)=true:=by
 match k,hl with
 | [x,y],_=>
  obtain⟨t0,b0,k0,rfl,h0⟩:=h x (by simp);obtain⟨t1,b1,k1,rfl,h1⟩:=h y (by simp);exact⟨_,_,_,_,_,_,rfl,h0,h1⟩
theorem xbmx{t:Int}{b:List Int}{k:List CV}(h:isS (ndC t b k)=true):k.length<=30000:=by obtain⟨h1,_,h3⟩:=qb6 h;have:=q0r h1;omega
theorem q5c{g t:Int}{b:List Int}{k:List CV}(hg:g=48\/g=49):qmp g t b k=if t=g/\b=[] then(k,0) else([],if t=g then 5 else 4):=by
 have hb:qay g=true:=decide_eq_true (by omega);by_cases h:t=g
 ·by_cases h2:b=[]
  ·rw[if_pos ⟨h,h2⟩,xbkl h hb (by rw[h2];simp)]
  ·rw[if_neg (fun e=>h2 e.2),if_pos h,xbkk h hb (fun e=>h2 (zal e))]
 ·rw[if_neg (fun e=>h e.1),if_neg h,q5d h]
theorem xbwu(t:Int)(b:List Int)(k:List CV)(hp:isS [.int .i64 t,.sli .u8 b,.slg 3 k]=true):xbpy t b k=zR [.cl (.agg [.sli .u32 (qka t b k).1,.slg 3 (qka t b k).2.1]),.cl (.bool (qka t b k).2.2)] []:=by
 have hn:=xbmx hp;have hk:=(qb6 hp).1;unfold xbpy qka;rw[qab];refine qak (qlk (by omega)) ?_;have e48:=q5c (g:=48) (t:=t) (b:=b) (k:=k) (.inl rfl);by_cases h:t=48/\b=[]
 ·rw[if_pos h] at e48;simp only[e48];refine qkq trivial (qa2 (fun hl=> ?_) fun hl=> ?_)
  ·unfold qdr;rw[if_pos h];split
   ·exact absurd rfl hl
   ·rfl
  ·obtain⟨t0,b0,k0,t1,b1,k1,rfl,s0,s1⟩:=xbom hk (by omega);unfold qdr;rw[if_pos h];refine qas (by omega) (qak s0 ?_);show cond (!decide ((qf2 t0 b0 k0).2=0)) _ (cond _ _ none)=_;refine qa2 (fun h0=> ?_) fun h0=>qas (by omega) (qak (qlk (l:=k1) (by have:=xbmx s1;omega)) ?_)
   ·simp only[if_neg h0]
   ·simp only[if_pos h0];rfl
 ·rw[if_neg h] at e48;simp only[e48];unfold qdr;rw[if_neg h];exact qmy (by split<;>simp) rfl
theorem q8v{t:Int}{b:List Int}{k:List CV}(h:(qdr t b k).2.2=true):t=48/\b=[]/\∃t0 b0 k0 k1,k=[.agg (ndC t0 b0 k0),.agg (ndC 49 [] k1)]/\(qf2 t0 b0 k0).2=0/\qdr t b k=((qf2 t0 b0 k0).1,k1,true):=by
 by_cases hb:t=48/\b=[]
 ·obtain⟨rfl,rfl⟩:=hb;refine⟨rfl,rfl, ?_⟩;unfold qdr at h ⊢;rw[if_pos ⟨rfl,rfl⟩] at h ⊢;split at h
  ·rename_i t0 b0 k0 t1 b1 k1;by_cases h0:(qf2 t0 b0 k0).2=0
   ·rw[if_pos h0] at h;have h:(qmp 49 t1 b1 k1).2=0:=of_decide_eq_true h;by_cases h2:t1=49/\b1=[]
    ·obtain⟨rfl,rfl⟩:=h2;refine⟨t0,b0,k0,k1,rfl,h0, ?_⟩;simp only[if_pos h0];rw[q5c (.inr rfl),if_pos ⟨rfl,rfl⟩];rfl
    ·rw[q5c (.inr rfl),if_neg h2] at h;have h:(if t1=49 then(5:Int) else 4)=0:=h;split at h<;>omega
   ·rw[if_neg h0] at h;cases h
  ·cases h
 ·unfold qdr at h;rw[if_neg hb] at h;cases h
theorem q8w{c d:CV}(hn:qsb c)(h:q6d c=some d): ∃t0 b0 k0 k1,c=.agg (ndC 48 [] [.agg (ndC t0 b0 k0),.agg (ndC 49 [] k1)])/\(qf2 t0 b0 k0).2=0/\d=mkA (qf2 t0 b0 k0).1 k1:=by
 obtain⟨t,b,k,rfl,_⟩:=hn;have h:(if(qdr t b k).2.2=true then some (mkA (qdr t b k).1 (qdr t b k).2.1) else none)=some d:=h;split at h
 ·rename_i hx;obtain⟨rfl,rfl,t0,b0,k0,k1,rfl,h0,e⟩:=q8v hx;rw[e] at h;cases h;exact⟨t0,b0,k0,k1,rfl,h0,rfl⟩
 ·cases h
theorem xbo6{t0:Int}{b0:List Int}{k0 k1:List CV}(h:(qf2 t0 b0 k0).2=0):q6d (.agg (ndC 48 [] [.agg (ndC t0 b0 k0),.agg (ndC 49 [] k1)]))=some (mkA (qf2 t0 b0 k0).1 k1):=by
 show(if(qdr 48 [] [.agg (ndC t0 b0 k0),.agg (ndC 49 [] k1)]).2.2=true then some (mkA (qdr 48 [] [.agg (ndC t0 b0 k0),.agg (ndC 49 [] k1)]).1 (qdr 48 [] [.agg (ndC t0 b0 k0),.agg (ndC 49 [] k1)]).2.1) else none)=_;have e:qdr 48 [] [.agg (ndC t0 b0 k0),.agg (ndC 49 [] k1)]=((qf2 t0 b0 k0).1,k1,true):=by unfold qdr;rw[if_pos ⟨rfl,rfl⟩];simp only[if_pos h];rw[q5c (.inr rfl),if_pos ⟨rfl,rfl⟩];rfl
 rw[e];rfl
theorem xbix{t:Int}{b:List Int}{k:List CV}(hs:isS (ndC t b k)=true)(h:(qf2 t b k).2=0):xbdy (qf2 t b k).1/\(qf2 t b k).1.length<=20/\qcr 6 (qal (qf2 t b k).1)=(t,b,0)/\k=[]:=by
 have h1:qtp 6 t b k=0:=Classical.byContradiction fun e=>by unfold qf2 at h;rw[qab,if_neg e] at h;exact e h
 have e:qf2 t b k=qb2 b:=by unfold qf2;rw[qab,if_pos h1]
 have ht:t=6:=Classical.byContradiction fun e=>by rw[q2i e] at h1;cases h1
 have hk:k=[]:=Classical.byContradiction fun e=>by rw[qww ht (List.length_pos_iff.2 e)] at h1;cases h1
 rw[e] at h ⊢;have e2:qb2 b=qde b:=qab _;rw[e2] at h ⊢;rcases q6g (q3r hs) with h2|⟨o,h2,hf,hr,hb⟩
 ·rw[h2] at h;cases h
 ·rw[h2];have:=(q0z hf).2;refine⟨⟨by show o.length<=_;omega,hr⟩,this, ?_,hk⟩;rw[qrx (xbqn hf hr),ht,show qal o=qb0 o from qab _,hb]
theorem qux{c d:CV}(hc:qsb c)(h:q6d c=some d):c=.agg (ndA d)/\d=qwu c/\(qjd (qhw d)->WA d):=by obtain⟨t0,b0,k0,k1,rfl,h0,rfl⟩:=q8w hc h;obtain⟨_,_,_,e,hs⟩:=hc;cases e;have hk:=(qb6 hs).1;obtain⟨_,_,_,e,s0⟩:=hk _ (zbj ..);cases e;obtain⟨h1,_,h2,rfl⟩:=xbix s0 h0;refine⟨?_,rfl,fun hv=>⟨_,k1,rfl,h1,hv⟩⟩;show CV.agg (ndC 48 [] [.agg (ndC t0 b0 []),.agg (ndC 49 [] k1)])=.agg [.int .i64 48,.sli .u8 [],.slg 3 (qw0 (qf2 t0 b0 []).1 k1)];unfold qw0;rw[h2]
theorem q81{c:CV}(h:WA c)(hf:(qcr 6 (qal (typA c))).2.2=0):q6d (.agg (ndA c))=some c:=by obtain⟨o,k,rfl,ho,hk⟩:=h;have hb:=xbqm (o:=o) ho.2 hf;rw[qhe] at hb;have:=xbo6 (t0:=(qcr 6 (qal o)).1) (b0:=(qcr 6 (qal o)).2.1) (k0:=[]) (k1:=k) (by rw[hb]);rw[hb] at this;exact this
theorem q2y{l:List CV}{c:CV}(h:c∈l):qf8 (qhw c)<=qp1 l:=qrq (g:=fun c=>qf8 (qhw c)) h
theorem qq1{t:Int}{b:List Int}{k:List CV}:ndSm t b k=true↔isS (ndC t b k)=true/\k.length<=1800/\qp1 (k.map qwu)<=1800:=by unfold ndSm;rw[qab,qea]
theorem xblt{α β:Type}{f:α->Option β}{g:α->β}: ∀ {l:List α},(∀c∈l,f c=some (g c))->l.filterMap f=l.map g
 | [],_=>rfl
 | c::r,h=>by rw[zc1 (h c (by simp)),xblt fun c hc=>h c (by simp[hc])];rfl
theorem qpx{t:Int}{b:List Int}{k l:List CV}(hp:ndSm t b k=true)(h:qkb k=some l):l=k.map qwu/\k=boxA l/\qbh l=true:=by
 obtain⟨hs,hl,hB⟩:=qq1.1 hp;have hk:=(qb6 hs).1;unfold qkb at h;split at h
 ·rename_i ha;rw[zai] at ha;cases h;have h1: ∀c∈k,q6d c=some (qwu c):=fun c hc=>by obtain⟨d,hd⟩:=zbn.1 (ha c hc);rw[hd,(qux (hk c hc) hd).2.1]
  have e:=xblt h1;rw[e];refine⟨rfl, ?_,qav.2 ⟨by rw[zam];exact hl,fun d hd=> ?_,hB⟩⟩
  ·exact(qkr (f:=qwu) (g:=fun c=>CV.agg (ndA c)) fun c hc=>(qux (hk c hc) (h1 c hc)).1.symm).symm
  ·obtain⟨c,hc,rfl⟩:=za7.1 hd;have hb:=q2y hd;obtain⟨t0,b0,k0,k1,rfl,h0,e2⟩:=q8w (hk c hc) (h1 c hc);obtain⟨_,_,_,e,hs⟩:=hk _ hc;cases e;obtain⟨_,_,_,e,s1⟩:=(qb6 hs).1 _ (zaw _ (zbj ..));cases e;refine(qux (hk _ hc) (h1 _ hc)).2.2 ?_;rw[e2] at hb ⊢;exact⟨(qb6 s1).1,zby hb hB⟩
 ·cases h
theorem qrb{g t:Int}{b:List Int}{k:List CV}(h: ¬(g=49\/(160<=g/\g<=190))\/t≠g):qhy g t b k=([],4):=by unfold qhy xbxr;rw[qab,if_pos h]
theorem xbb9{g t:Int}{b:List Int}{k:List CV}(h1:g=49\/(160<=g/\g<=190))(h2:t=g):qhy g t b k=match qkb k with
 | none=>([],1)
 | some l=>@ite _ (b=[]/\okA l) (Classical.propDecidable _) (l,0) ([],1):=by
 unfold qhy xbxr;rw[qab,if_neg (fun e=>e.elim (fun e=>e h1) fun e=>e h2)];cases qkb k<;>rfl
theorem xbw2(t:Int)(b:List Int)(k:List CV)(g:Int)(hp:ndSm t b k=true):xbp3 t b k g=zR [.cl (.slg 2 (qhy g t b k).1),.cl (.int .i64 (qhy g t b k).2)] []:=by
 obtain⟨hs,hl,_⟩:=qq1.1 hp;have hk:=(qb6 hs).1;unfold xbp3;rw[xbhd,qab];refine qa2 (fun h=> ?_) fun h1=>qa2 (fun h=> ?_) fun h2=> ?_
 ·rw[qrb (.inl h)]
 ·rw[qrb (.inr h)]
 rw[xbb9 h1 h2];refine(q9h (f:=q6d) (L:=fun f i acc=>qpb _ _ f acc.length k (k.length:Int) (i:Int) t b k acc) (bad:=zR [.cl (.slg 2 []),.cl (.int .i64 1)] []) (fin:=fun acc=>cond (decide ((0:Int)<(b.length:Int))) (zR [.cl (.slg 2 []),.cl (.int .i64 1)] []) (cond (qbh acc) (cond (!q0o acc) (zR [.cl (.slg 2 []),.cl (.int .i64 1)] []) (zR [.cl (.slg 2 acc),.cl (.int .i64 0)] [])) none)) (show k.length<=_ by omega) rfl (fun n i acc x hi ha hx=> ?_) fun n acc ha=>qdt (by omega) rfl).trans ?_
 ·have hx':=hk x (zac hx);obtain⟨t',b',k',rfl,hs'⟩:=hx';refine qas (by omega) (qa1 (by omega) hx (qak rfl (qak hs' ?_)));have e:q6d (.agg (ndC t' b' k'))=if(qka t' b' k').2.2=true then some (mkA (qka t' b' k').1 (qka t' b' k').2.1) else none:=by unfold qka;rw[qab];rfl
  rw[e];show cond (!(qka t' b' k').2.2) _ _=_
  cases(qka t' b' k').2.2 with
  | false=>rfl
  | true=>exact qyd (A:=fun a b c=>qpb _ _ n a k _ b t _ k c) ha (by omega) (by omega)
 ·unfold qkb;by_cases ha:(k.all fun c=>(q6d c).isSome)=true
  ·rw[if_pos ha,if_pos ha];have hq:=(qpx hp (show qkb k=some (k.filterMap q6d) by unfold qkb;rw[if_pos ha])).2.2;refine qac (fun h=> ?_) fun h=>qak hq ?_
   ·simp only[];rw[if_neg (fun e=>by rw[e.1] at h;simp at h)]
   ·have hb:b=[]:=zal (by omega);simp only[];rw[q0y];by_cases ho:okA (k.filterMap q6d)
    ·rw[qea.2 ho,if_pos ⟨hb,ho⟩];rfl
    ·rw[qow ho,if_neg fun e=>ho e.2];rfl
  ·rw[if_neg ha,if_neg ha]
open IntWalk (i64_in u8_in u32_in u64_in i64_quo u8_quo rem_in)
abbrev hasT(o:List Int)(c:CV):Bool:=decide (typA c=o)
theorem xbbi{l:List CV}{o:List Int}(h: ¬okA l):qhq l o=((0,[],[]),1):=by unfold qhq xbjj;rw[qab,if_neg h];rfl
theorem qvz{l:List CV}{o:List Int}(h:okA l)(hn:l.find? (hasT o)=none):qhq l o=((0,[],[]),18):=by unfold qhq xbjj;rw[qab,if_pos h,hn];rfl
theorem xbbj{l:List CV}{o:List Int}{c:CV}(h:okA l)(hn:l.find? (hasT o)=some c)(hm:1<(qhw c).length):qhq l o=((0,[],[]),24):=by unfold qhq xbjj;rw[qab,if_pos h,hn];simp only[if_pos hm];rfl
theorem xbbk{l:List CV}{o:List Int}{c:CV}{t:Int}{b:List Int}{k r:List CV}(h:okA l)(hn:l.find? (hasT o)=some c)(hm: ¬1<(qhw c).length)(hv:qhw c=.agg (ndC t b k)::r):qhq l o=((t,b,k),0):=by unfold qhq xbjj;rw[qab,if_pos h,hn];simp only[if_neg hm];rw[hv];rfl
theorem xbse{l:List CV}(hk:okA l){c:CV}(hc:c∈l):0<(qhw c).length:=(hk.1.2.2.1 c hc).2.1
noncomputable abbrev qse(l:List CV)(o:List Int):Option Out:=zR [.cl (.agg [.int .i64 (qhq l o).1.1,.sli .u8 (qhq l o).1.2.1,.slg 3 (qhq l o).1.2.2]),.cl (.int .i64 (qhq l o).2)] []
abbrev xbva(e:Int):Option Out:=zR [.cl (.agg [.int .i64 0,.sli .u8 [],.slg 3 []]),.cl (.int .i64 e)] []
theorem qvy{l:List CV}{o p:List Int}{k:List CV}(hk:okA l)(ho:l.find? (hasT o)=some (mkA p k))(hv:qjd k):(1<k.length->xbva 24=qse l o)/\(¬1<k.length->∃t b q r,k=.agg (ndC t b q)::r/\zR [.cl (.agg [.int .i64 t,.sli .u8 b,.slg 3 q]),.cl (.int .i64 0)] []=qse l o):=by
 have hpos:0<k.length:=xbse hk (List.mem_of_find?_eq_some ho);refine⟨fun h=> ?_,fun h=> ?_⟩
 ·unfold qse;rw[xbbj hk ho h]
 ·obtain⟨v,r,rfl⟩:=List.exists_cons_of_length_pos hpos;obtain⟨t,b,q,rfl,_⟩:=hv.1 v (by simp);refine⟨t,b,q,r,rfl, ?_⟩;unfold qse;rw[xbbk hk ho h rfl]
theorem xb0c(l:List CV)(o:List Int)(hp:qbh l=true):xby4 l o=qse l o:=by
 obtain⟨hl,hW,_⟩:=qav.1 hp;unfold xby4;refine qak hp ?_;rw[q0y];by_cases hk:okA l
 ·rw[qea.2 hk];refine q2v rfl (qak hp ?_);rw[show idxA o l=qwz o 0 l from qab _];refine qac (fun h=> ?_) fun h=> ?_
  ·unfold qse;rw[qvz hk (List.find?_eq_none.2 fun c hc=>by simpa using xbfh.1 h c hc)]
  ·obtain⟨j,c,h1,h2,h3⟩:=xbqp (show 0<=qwz o 0 l by omega);rw[h1];obtain⟨p,k,rfl,hp2,hv⟩:=hW c (zac h2);have h2':l[Int.toNat ((0+j:Nat):Int)]? =some (mkA p k):=by rw[show Int.toNat ((0+j:Nat):Int)=j by omega];exact h2
   obtain⟨f1,f2⟩:=qvy hk h3 hv;refine qa1 (by omega) h2' (qak rfl (qac (fun h=>f1 (by have h:(1:Int)<(k.length:Int):=h;omega)) fun h=> ?_));have h': ¬1<k.length:=by have h: ¬(1:Int)<(k.length:Int):=h;omega
   obtain⟨t,b,q,r,rfl,f⟩:=f2 h';refine qa1 (by omega) h2' (qak rfl (qas (by show(0:Int)<(((CV.agg (ndC t b q)::r).length:Nat):Int);rw[zaf];omega) ?_));exact f
 ·rw[qow hk];unfold qse;rw[xbbi hk];rfl
theorem xbkj(K0 K2:Option Out)(K1:Int->List Int->List CV->Option Out)(R:Option Out)(l:List CV)(hl:l.length<=1800)(hW: ∀c∈l,WA c)(o:List Int)(hn:l.find? (hasT o)=none->K2=R)(hs: ∀p k,l.find? (hasT o)=some (mkA p k)->qjd k->(1<k.length->K0=R)/\(¬1<k.length->∃t b q r,k=.agg (ndC t b q)::r/\K1 t b q=R)): ∀(f i:Nat),i<=l.length->l.length<f+i->(l.drop i).find? (hasT o)=l.find? (hasT o)->qqv K0 K1 K2 f l o (i:Int)=R
 | 0,i,hi,hf,_=>by omega
 | f+1,i,hi,hf,he=>by
  have ih:=xbkj K0 K2 K1 R l hl hW o hn hs f (i+1);show qvp (qqv K0 K1 K2 f) K0 K1 K2 l o _=R;unfold qvp;generalize qqv K0 K1 K2 f=ag at ih ⊢;refine qac (fun h=> ?_) fun h=> ?_
  ·obtain⟨c,hc⟩:=qaz (b:=l) (i:=i) (by omega);rw[qcm hc] at he;obtain⟨p,k,rfl,hp2,hv⟩:=hW c (zac hc);refine qa1 (by omega) hc (qak rfl (qak (qdc.2 hp2.1) ?_));show cond (qa5 p o) _ _=_;rw[qcn];refine qac (fun e=> ?_) fun e=> ?_
   ·rw[List.find?_cons_of_pos (show hasT o (mkA p k)=true from decide_eq_true e)] at he;obtain⟨f1,f2⟩:=hs p k he.symm hv;refine qa1 (by omega) hc (qak rfl (qac (fun h=>f1 (by have h:(1:Int)<(k.length:Int):=h;omega)) fun h=> ?_));have h': ¬1<k.length:=by have h: ¬(1:Int)<(k.length:Int):=h;omega
    obtain⟨t,b,q,r,rfl,f⟩:=f2 h';exact qa1 (by omega) hc (qak rfl (qas (by show(0:Int)<(((CV.agg (ndC t b q)::r).length:Nat):Int);rw[zaf];omega) f))
   ·rw[List.find?_cons_of_neg (show ¬hasT o (mkA p k)=true from fun e'=>e (of_decide_eq_true e'))] at he;rw[qkh (by omega)];exact ih (by omega) (by omega) he
  ·obtain rfl:i=l.length:=by omega
   rw[List.drop_of_length_le (zar _)] at he;exact hn he.symm
theorem xb0l(l:List CV)(o:List Int)(hp:qbh l=true):xbza l o=qse l o:=by
 obtain⟨hl,hW,_⟩:=qav.1 hp;unfold xbza;refine qak hp ?_;rw[q0y,qab];by_cases hk:okA l
 ·rw[qea.2 hk];exact q2v rfl (xbkj _ _ _ _ l hl hW o (fun hn=>by unfold qse;rw[qvz hk hn]) (fun p k ho hv=>qvy hk ho hv) FUEL 0 (zcc _) (by unfold FUEL;omega) rfl)
 ·rw[qow hk];unfold qse;rw[xbbi hk];rfl
theorem xbul{l:List CV}{x:Option Out}(hp:qbh l=true)(h:x=cond (qbh l) (cond (!decide ((qbx l 49).2.2=0)) (zR [.cl (.sli .u8 []),.cl (.int .i64 (qbx l 49).2.2)] []) (cond (isS (ndC (qbx l 49).1 qbe (qbx l 49).2.1)) (zR [.cl (.sli .u8 (qa0 (ndC (qbx l 49).1 qbe (qbx l 49).2.1)).1),.cl (.int .i64 (qa0 (ndC (qbx l 49).1 qbe (qbx l 49).2.1)).2)] []) none)) none):
  x=zR [.cl (.sli .u8 (qhz l).1),.cl (.int .i64 (qhz l).2)] []:=by
 rw[h,qce];refine qak hp ?_;unfold qhz xbu7;rw[qab];by_cases hk:okA l
 ·rw[q34 (.inl rfl) hk,if_pos hk];exact qkq rfl (qak (qsm 49 hp hk.1.1.2) rfl)
 ·rw[q33 (.inl rfl) hk,if_neg hk];exact qmy (by simp) rfl
theorem xbxa(l:List CV)(hp:qbh l=true):xbv0 l=zR [.cl (.sli .u8 (qhz l).1),.cl (.int .i64 (qhz l).2)] []:=xbul hp rfl
theorem xbxg(l:List CV)(hp:qbh l=true):xbv2 l=zR [.cl (.sli .u8 (qhz l).1),.cl (.int .i64 (qhz l).2)] []:=xbul hp rfl
theorem xbq4(x:CV): ∀S:List CV,mg (ltK ky4) S [x]=S.take (posA (keyC x) S)++x::S.drop (posA (keyC x) S)
 | []=>by rw[qvu];rfl
 | y::r=>by
  rw[qgk];show(if decide (qao (keyC x) (keyC y)<0)=true then _ else _)=_;unfold posA;by_cases h:qao (keyC x) (keyC y)<0
  ·rw[if_pos (decide_eq_true h),if_pos h,qqz];rfl
  ·rw[if_neg (by simpa using h),if_neg h,xbq4 x r];rfl
theorem xbc1: ∀(n:Nat) (l:List CV),l.length=n->qoy l=isort (ltK ky4) l
 | 0,l,h=>by rw[zal h];rfl
 | n+1,l,h=>by
  rcases List.eq_nil_or_concat l with rfl|⟨r,x,rfl⟩
  ·simp at h
  ·rw[List.concat_eq_append] at h ⊢;rw[q45,q3t (qei ky4),xbq4,xbc1 n r (by simpa using h)]
theorem qrj{k:List CV}(h:fitV k):q2k k=(49,qph k,0):=by unfold q2k;rw[if_pos (by rw[zai];exact fun c hc=>decide_eq_true (h c hc)),xbc1 _ _ rfl,qj4 h];rfl
theorem xbj7{k:List CV}(h: ¬fitV k):q2k k=(0,[],1):=by unfold q2k;rw[if_neg];rw[zai];exact fun e=>h fun c hc=>of_decide_eq_true (e c hc)
theorem xbur{o:List Int}{k:List CV}(ho:xbdy o):uOk o k↔ordB o k:=by unfold uOk ordB;rw[(made6 ho.2).1];exact⟨fun h=>⟨h.2,h.1.2,h.1.1⟩,fun h=>⟨⟨h.2.2,h.2.1⟩,h.1⟩⟩
theorem xbg3{l:List CV}(h:l.length<=2000/\∀c∈l,qsb c):xbg2 l=true:=by unfold xbg2;rw[qab];exact @decide_eq_true _ (Classical.propDecidable _) h
theorem xbj4{k:List CV}(h: ∀v∈k,qsb v)(hl:k.length<=2000):xbg2 k=true:=xbg3 ⟨hl,h⟩
theorem q2h{o:List Int}{k:List CV}(h:uOk o k):qpj o k=(48,qw0 o (qph k),0):=by unfold qpj;rw[qab,if_pos h,qrj h.2]
theorem q2g{o:List Int}{k:List CV}(h: ¬uOk o k):qpj o k=(0,[],1):=by unfold qpj;rw[qab,if_neg h]
theorem nUNd(o:List Int)(k:List CV)(hp:at1Ok o k=true):gUNd o k=zR [.cl (.agg [.int .i64 (qpj o k).1,.sli .u8 qbe,.slg 3 (qpj o k).2.1]),.cl (.int .i64 (qpj o k).2.2)] []:=by
 obtain⟨ho,hk⟩:=qcy.1 hp;have hl:=qrz hk;have bad: ¬uOk o k->zR [.cl (.agg [.int .i64 0,.sli .u8 [],.slg 3 []]),.cl (.int .i64 1)] []=zR [.cl (.agg [.int .i64 (qpj o k).1,.sli .u8 [],.slg 3 (qpj o k).2.1]),.cl (.int .i64 (qpj o k).2.2)] []:=fun h=>by rw[q2g h]
 unfold gUNd;rw[qhe,qce];refine qak (xbaf (by have:=ho.1;omega) ho.2) (qa2 (fun h=>bad fun e=>h e.1.1) fun h=>qac (fun h2=>bad fun e=>by have:=e.1.2;omega) fun h2=>qak (xbj4 hk.1 (by omega)) ?_);have e:vSet k=q2k k:=qab _;simp only[e];by_cases hf:fitV k
 ·rw[qrj hf,q2h ⟨⟨h,by omega⟩,hf⟩];exact qkq rfl (qak (qlk (by simp)) (by unfold qw0;rfl))
 ·rw[xbj7 hf];exact qmy (by simp) (bad fun e=>hf e.2)
theorem xbpg{m:List CV}(h: ∀c∈m,(qcr 6 (qal (typA c))).2.2=0):fitV (boxA m)↔fitA m:=by
 constructor
 ·exact fun hf c hc=>⟨h c hc,hf _ (List.mem_map_of_mem hc)⟩
 ·intro hf v hv;obtain⟨c,hc,rfl⟩:=za7.1 hv;exact(hf c hc).2
noncomputable def wbG(e:CV):CV:=.agg (ndA (cut2 e)++[.sli .u8 (ky3 e)])
theorem xbvr{m:List CV}(h: ∀c∈m,WA c):(boxA m).map wbV=(m.map wbA).map wbG:=by unfold boxA;rw[zcg,zcg];refine zbx fun c hc=> ?_;obtain⟨o,k,rfl,_⟩:=h c hc;rfl
theorem q4c{m:List CV}(h: ∀c∈m,WA c)(hf:fitV (boxA m)):qph (boxA m)=boxA (srtA m):=by rw[qj4 hf,xbvr h,q3u (lt:=ltK ky3) wbG fun x hx y hy=>rfl];unfold boxA srtA;rw[zcg,zcg];exact zbx fun e he=>rfl
theorem qyx{l:List CV}(h: ∀c∈l,uOk (typA c) (qhw c)):uOut l=boxA (l.map ordA):=by unfold uOut boxA;rw[zcg];refine zbx fun c hc=> ?_;show CV.agg (ndA (mkA (typA c) (q2k (qhw c)).2.1))=.agg (ndA (ordA c));rw[qrj (h c hc).2];rfl
theorem q00{l:List CV}(hp:qbh l=true):xbuq l↔xben l:=by
 obtain⟨_,hW,_⟩:=qav.1 hp;obtain⟨_,hW2,_⟩:=qav.1 (qsl hp);have hall:(∀c∈l,uOk (typA c) (qhw c))↔ ∀c∈l,ordB (typA c) (qhw c):=by
  have: ∀c∈l,(uOk (typA c) (qhw c)↔ordB (typA c) (qhw c)):=fun c hc=>by obtain⟨o,k,rfl,ho,_⟩:=hW c hc;exact xbur ho
  exact⟨fun h c hc=>(this c hc).1 (h c hc),fun h c hc=>(this c hc).2 (h c hc)⟩
 have key:(∀c∈l,uOk (typA c) (qhw c))->(fitV (uOut l)↔fitA (l.map ordA))/\(fitV (uOut l)->(q2k (uOut l)).2.1=boxA (srtA (l.map ordA))):=fun h=>by rw[qyx h];refine⟨xbpg fun c hc=> ?_,fun hf=>by rw[qrj hf];exact q4c hW2 hf⟩;obtain⟨d,hd,rfl⟩:=za7.1 hc;exact(h d hd).1.1
 constructor
 ·rintro⟨h1,h2,h3,h4,h5⟩;obtain⟨e1,e2⟩:=key h3;rw[e2 h4] at h5;exact⟨h1,h2,hall.1 h3,e1.1 h4,h5⟩
 ·rintro⟨h1,h2,h3,h4,h5⟩;have h3:=hall.2 h3;obtain⟨e1,e2⟩:=key h3;have h4:=e1.2 h4;exact⟨h1,h2,h3,h4,by rw[e2 h4];exact h5⟩
theorem xbd6{l:List CV}(h: ¬xbuq l):qki l=(0,[],1):=by unfold qki;rw[qab,if_neg h]
theorem q2m{l:List CV}(hp:qbh l=true)(h:xbuq l):qki l=(49,boxA (srtA (l.map ordA)),0):=by unfold qki;rw[qab,if_pos h,qyx h.2.2.1,qrj (by rw[<- qyx h.2.2.1];exact h.2.2.2.1),q4c (qav.1 (qsl hp)).2.1 (by rw[<- qyx h.2.2.1];exact h.2.2.2.1)]
open IntWalk (i64_in u8_in u32_in u64_in i64_quo u8_quo rem_in)
theorem xbpd(k0:Option Out)(k1:List CV->Nat->Int->List CV->Option Out)(l:List CV)(hl:l.length<=20)(hW: ∀c∈l,WA c)(m i:Nat)(o:List Int)(q y:List CV)(hi:l[i]? =some (mkA o q))(ho:xbdy o): ∀(f j:Nat),j<=i->i<f+j->
  qi0 k0 k1 f l m (i:Int) (j:Int) y=cond (pT (∀c∈(l.take i).drop j,typA c≠o)) (k1 l m (i:Int) y) k0
 | 0,j,h1,h2=>by omega
 | f+1,j,h1,h2=>by
  have hlt:=(zad.1 hi).1;have ih:=xbpd k0 k1 l hl hW m i o q y hi ho f (j+1);show qnr (qi0 k0 k1 f) k0 k1 l m _ _ y=_;unfold qnr;generalize qi0 k0 k1 f=ag at ih ⊢;refine qac (fun h=> ?_) fun h=> ?_
  ·obtain⟨c,hc⟩:=qaz (b:=l) (i:=j) (by omega);have hc2:(l.take i)[j]? =some c:=by rw[zcy,if_pos (by omega)];exact hc
   rw[qcm hc2];obtain⟨p,k,rfl,hp,hk⟩:=hW c (zac hc);refine qa1 (by omega) hi (qak rfl (qa1 (by omega) hc (qak rfl (qak (qdc.2 ho.1) ?_))));show cond (qa5 o p) _ _=_;rw[qcn];refine qac (fun e=> ?_) fun e=> ?_
   ·rw[qow fun h=>h _ (zbj ..) e.symm];rfl
   ·rw[qkh (by omega)];refine(ih (by omega) (by omega)).trans ?_;rw[xbu5 (show(∀c∈(l.take i).drop (j+1),typA c≠o)↔ ∀c∈mkA p k::(l.take i).drop (j+1),typA c≠o from⟨fun h c hc=>(zas.1 hc).elim (fun e'=>by rw[e'];exact fun e''=>e (Eq.symm e'')) (h c),fun h c hc=>h c (zaw _ hc)⟩)]
  ·obtain rfl:j=i:=by omega
   rw[qea.2]
   ·rfl
   ·intro c hc;rw[za2 (by rw[zbp];omega)] at hc;simp at hc
theorem xbd5(k0:Option Out)(k1:Int->Option Out)(k2:Nat->List CV->Option Out)(he:k1 1=k0)(l:List CV)(hl:l.length<=20)(hW: ∀c∈l,WA c): ∀(f i:Nat) (acc:List CV),i<=l.length->l.length<f+i->acc=(l.take i).map (fun c=>.agg (ndA (ordA c)))->((l.take i).map typA).Nodup->(∀c∈l.take i,uOk (typA c) (qhw c))->
  qiz k0 k1 k2 f l acc.length (i:Int) acc=cond (pT ((l.map typA).Nodup/\∀c∈l,uOk (typA c) (qhw c))) (k2 l.length (boxA (l.map ordA))) k0
 | 0,i,acc,hi,hf,_,_,_=>by omega
 | f+1,i,acc,hi,hf,ha,hn,hu=>by
  have ih:=xbd5 k0 k1 k2 he l hl hW f (i+1);show qnq (qiz k0 k1 k2 f) k0 k1 k2 l acc.length _ acc=_;unfold qnq;generalize qiz k0 k1 k2 f=ag at ih ⊢;have hal:acc.length=i:=by rw[ha,zam,zbp];omega
  refine qac (fun h=> ?_) fun h=> ?_
  ·obtain⟨c,hc⟩:=qaz (b:=l) (i:=i) (by omega);rw[List.take_add_one,hc] at ih;obtain⟨o,k,rfl,ho,hk⟩:=hW c (zac hc);have hm:mkA o k∈l.drop i:=by rw[qcm hc];simp
   have hm2:=zac hc;rw[qab];refine(xbpd _ _ l hl hW acc.length i o k acc hc ho FUEL 0 (zcc _) (by unfold FUEL;omega)).trans ?_;rw[zbw];by_cases hd: ∀c∈l.take i,typA c≠o
   ·rw[qea.2 hd];refine qa1 (by omega) hc (qak rfl (qak (qcy.2 ⟨ho,hk⟩) ?_));show cond (!decide ((qpj o k).2.2=0)) _ _=_;by_cases hb:uOk o k
    ·refine qkq (by rw[q2h hb]) ?_;show rmK (acc++[CV.agg [.int .i64 (qpj o k).1,.sli .u8 qbe,.slg 3 (qpj o k).2.1]]).length 56 (ag l (acc++[CV.agg [.int .i64 (qpj o k).1,.sli .u8 qbe,.slg 3 (qpj o k).2.1]]).length (IntKind.i64.wrap ((i:Int)+1)) (acc++[CV.agg [.int .i64 (qpj o k).1,.sli .u8 qbe,.slg 3 (qpj o k).2.1]]))=_;rw[qce,q2h hb,qkh (by omega)];refine qmm (by rw[zah,zbu];omega) (by rw[zah,zbu];omega) ?_;refine ih _ (by omega) (by omega) (by rw[ha];exact(List.map_append (f:=fun c=>CV.agg (ndA (ordA c))) (l₁:=l.take i) (l₂:=[mkA o k])).symm) (List.map_append .. ▸List.nodup_append.2 ⟨hn,by simp,fun a ha b hb=> ?_⟩) fun c hc=> ?_
     ·obtain⟨c,hc,rfl⟩:=za7.1 ha;rw[show b=o from zci.1 hb];exact hd c hc
     ·rcases zak.1 hc with hc|hc
      ·exact hu c hc
      ·have:c=mkA o k:=by simpa using hc
       subst this;exact hb
    ·refine qmy (by rw[q2g hb];simp) ?_;show k1 (qpj o k).2.2=_;rw[qow fun h=>hb (h.2 (mkA o k) hm2),q2g hb];exact he
   ·rw[qow hd,qow]
    ·rfl
    ·rintro⟨hnd,_⟩;rw[<- List.take_append_drop i l,List.map_append,List.nodup_append] at hnd;exact hd fun c hc=>hnd.2.2 _ (List.mem_map_of_mem hc) _ (List.mem_map_of_mem hm)
  ·obtain rfl:i=l.length:=by omega
   rw[zb4] at hn hu ha;rw[qea.2 ⟨hn,hu⟩,hal,ha];unfold boxA;rw[zcg];rfl
theorem xbr3(l:List CV)(hp:qbh l=true):xbio l=zR [.cl (.agg [.int .i64 (qki l).1,.sli .u8 qbe,.slg 3 (qki l).2.1]),.cl (.int .i64 (qki l).2.2)] []:=by
 obtain⟨hl,hW,_⟩:=qav.1 hp;have bad: ¬xbuq l->xbva 1=zR [.cl (.agg [.int .i64 (qki l).1,.sli .u8 [],.slg 3 (qki l).2.1]),.cl (.int .i64 (qki l).2.2)] []:=fun h=>by rw[xbd6 h]
 unfold xbio;rw[qce,qab];refine qac (fun h=>bad fun hg=>by have:=hg.1.1;omega) fun h=>qac (fun h2=>bad fun hg=>by have:=hg.1.2;omega) fun h2=> ?_;refine(xbd5 (xbva 1) (fun y1=>xbva y1) _ rfl l (by omega) hW FUEL 0 [] (zcc _) (by unfold FUEL;omega) rfl (by simp) (by simp)).trans ?_;by_cases hq:(l.map typA).Nodup/\∀c∈l,uOk (typA c) (qhw c)
 ·rw[qea.2 hq];have hu:=qyx hq.2;obtain⟨_,hW2,_⟩:=qav.1 (qsl hp);have hn:=xbho hW2;refine qak rfl (qak (xbj4 hn (by unfold boxA;rw[zam,zam];omega)) ?_);show cond (!decide ((vSet (boxA (l.map ordA))).2.2=0)) _ (cond (isS (ndC (vSet (boxA (l.map ordA))).1 [] (vSet (boxA (l.map ordA))).2.1)) _ _)=_;rw[show vSet (boxA (l.map ordA))=q2k (boxA (l.map ordA)) from qab _];by_cases hf:fitV (boxA (l.map ordA))
  ·have e2:(q2k (uOut l)).2.1=boxA (srtA (l.map ordA)):=by rw[hu,qrj hf];exact q4c hW2 hf
   rw[qrj hf,q4c hW2 hf];refine qkq rfl (qak (qsm 49 (xbld hp) (by rw[(qpi hW2).length_eq,zam];omega)) ?_);show cond (!qou (ndC 49 [] (boxA (srtA (l.map ordA))))) _ _=_
   cases hfit:qou (ndC 49 [] (boxA (srtA (l.map ordA)))) with
   | true=>
    rw[q2m hp ⟨by omega,hq.1,hq.2,by rw[hu];exact hf,by rw[e2];exact hfit⟩];rfl
   | false=>exact bad fun hg=>by have:=hg.2.2.2.2;rw[e2] at this;rw[show qou (ndC 49 [] (boxA (srtA (l.map ordA))))=true from this] at hfit;cases hfit
  ·rw[xbj7 hf];exact qmy (by simp) (bad fun hg=>hf (by rw[<- hu];exact hg.2.2.2.1))
 ·rw[qow hq];exact bad fun hg=>hq ⟨hg.2.1,hg.2.2.1⟩
theorem qu2{k:List CV}:qqa k=true↔k.length<=100000/\∀c∈k,xbyw c:=by unfold qqa;rw[qab,qea]
theorem xbr0(t:Int)(b:List Int)(k:List CV)(hp:qqa k=true):xbil t b k=zR [.cl (.slg 2 (qyw k))] []:=by obtain⟨hl,hk⟩:=qu2.1 hp;unfold xbil qyw;rw[qab,qab];refine qxm (l:=k) (P:=fun _=>True) (g:=qwu) (L:=fun f i acc=>ql8 _ f acc.length (i:Int) t b k acc) (bad:=none) (fin:=fun acc=>zR [.cl (.slg 2 acc)] []) (by omega) rfl (fun n i acc x hi ha hx=>⟨fun _=> ?_,fun h=>absurd trivial h⟩) (fun n acc ha=>qdt (by omega) rfl) (fun _=>rfl) fun h=>absurd (fun _ _=>trivial) h;obtain⟨t',b',t0,b0,k0,t1,b1,k1,rfl,hs⟩:=hk x (zac hx);exact qas (by omega) (qa1 (by omega) hx (qak rfl (qas (by show(0:Int)<2;omega) (qak hs (qa1 (by omega) hx (qak rfl (qas (by show(1:Int)<2;omega) (qyd (A:=fun a' b' c=>ql8 _ n a' b' t b k c) ha (by omega) (by omega)))))))))
theorem qwv{c:CV}(h:WA c)(hf:(qcr 6 (qal (typA c))).2.2=0):qwu (.agg (ndA c))=c:=by have e:=q81 h hf;obtain⟨o,k,rfl,ho,hk⟩:=h;exact(qux ⟨_,_,_,rfl,(qxx ho hk).1⟩ e).2.1.symm
theorem xbsc{l:List CV}(hp:qbh l=true)(hg: ∀c∈l,ordB (typA c) (qhw c)): ∀c∈l,(qcr 6 (qal (typA c))).2.2=0:=fun c hc=>by obtain⟨o,k,rfl,ho,hk⟩:=(qav.1 hp).2.1 c hc;exact(made6 ho.2).1.2 (hg _ hc).2.2
theorem q2u{l:List CV}(hp:qbh l=true)(hg: ∀c∈l,ordB (typA c) (qhw c)):(boxA l).map qwu=l/\qkb (boxA l)=some l:=by
 have hW:=(qav.1 hp).2.1;have hm:=xbsc hp hg;refine⟨qkr fun c hc=>qwv (hW c hc) (hm c hc), ?_⟩;have h1: ∀v∈boxA l,q6d v=some (qwu v):=fun v hv=>by obtain⟨c,hc,rfl⟩:=za7.1 hv;rw[q81 (hW c hc) (hm c hc),qwv (hW c hc) (hm c hc)]
 unfold qkb;rw[if_pos (by rw[zai];exact fun v hv=>by rw[h1 v hv];rfl),xblt h1];exact congrArg some (qkr fun c hc=>qwv (hW c hc) (hm c hc))
theorem xbxc(l:List CV)(hp:qbh l=true):xbqb l=zR [.cl (.slg 2 (qfh l).1),.cl (.int .i64 (qfh l).2)] []:=by
 obtain⟨hl,hW,_⟩:=qav.1 hp;unfold xbqb;refine qak hp ?_;by_cases hg:xben l
 ·have hk:=xbqk hp hg;have hq:=xbld hp;rw[q2m hp ((q00 hp).2 hg),xbu4 hg];refine qkq rfl (qak (qu2.2 ⟨by show(boxA _).length<=_;unfold boxA;rw[zam];have:=(qav.1 hq).1;omega,fun v hv=> ?_⟩) ?_)
  ·obtain⟨c,hc,rfl⟩:=za7.1 hv;obtain⟨o,k,rfl,ho,hk⟩:=(qav.1 hq).2.1 c hc;exact⟨_,_,_,_,_,_,_,_,rfl,(xbjd ho).1⟩
  ·have e:=(q2u hq hk.1.2.2.1).1;show zR [.cl (.slg 2 (qyw (boxA (srtA (l.map ordA))))),.cl (.int .i64 0)] []=_;unfold qyw;rw[qab,e]
 ·rw[xbd6 fun e=>hg ((q00 hp).1 e),xbu3 hg];exact qmy (by simp) rfl
theorem xbxf(a b:List CV)(hp:(qbh a&&qbh b)=true):xbqd a b=zB (qhv a b):=by
 rw[zab] at hp;obtain⟨hl,hW,_⟩:=qav.1 hp.1;obtain⟨hl2,hW2,_⟩:=qav.1 hp.2;have lenV: ∀ {k:List CV},qjd k->qfu k=true:=fun h=>qlk (by have:=qrz h;omega);have nV: ∀ {k:List CV},qjd k->isN (ndC 48 qbe k)=true:=fun h=>by rw[qce];exact qqd (qs0 qvt h.1 (by have:=h.2;simp;omega)).1
 unfold xbqd;rw[qab];refine q4v (qwj (L:=fun f i=>qvq _ _ f a b (i:Int)) rfl (by omega) (fun n i x hi hx hy=> ?_) (fun n i x y hi hx hy hne=> ?_) fun n=> ?_)
 ·obtain⟨o,k,rfl,ho,hk⟩:=hW x (zac hx);refine qas (by omega) (qa1 (by omega) hx (qak rfl (qa1 (by omega) hy (qak rfl (qak (qdc.2 ho.1) ?_)))));show cond (!qa5 o o) _ _=_;rw[qcn];refine qkq rfl (qa1 (by omega) hx (qak rfl (qak (lenV hk) (qa1 (by omega) hy (qak rfl (qak (lenV hk) (qak (c:=isN (ndC 48 qbe k)&&isN (ndC 48 qbe k)) (by rw[nV hk];rfl) ?_)))))));show cond (!qfw (ndC 48 qbe k) (ndC 48 qbe k)) _ _=_;rw[qj3,qkh (by omega)];rfl
 ·obtain⟨o,k,rfl,ho,hk⟩:=hW x (zac hx);obtain⟨p,q,rfl,hp2,hq⟩:=hW2 y (zac hy);refine qas (by omega) (qa1 (by omega) hx (qak rfl (qa1 (by omega) hy (qak rfl (qak (qdc.2 ho.1) ?_)))));show cond (!qa5 o p) _ _=_;rw[qcn];refine qa2 (fun e=>rfl) fun e=>(qa1 (by omega) hx (qak rfl (qak (lenV hk) (qa1 (by omega) hy (qak rfl (qak (lenV hq) (qak (c:=isN (ndC 48 qbe k)&&isN (ndC 48 qbe q)) (by rw[nV hk,nV hq];rfl) ?_)))))));show cond (!qfw (ndC 48 qbe k) (ndC 48 qbe q)) _ _=_;rw[qd9.2 (fun e2=>hne (by subst e;simp at e2;rw[e2]))];rfl
 ·exact qdt (by omega) rfl
theorem xb0k(l:List CV)(hp:qbh l=true):xbzx l=zB (q0o l):=xbyv hp rfl
theorem xb0m(g:Int)(hp:true=true):xbzy g=zB (q8s g):=xbzn rfl
theorem xbxd(l:List CV)(g:Int)(hp:qbh l=true):xbv1 l g=zR [.cl (.agg [.int .i64 (qbx l g).1,.sli .u8 qbe,.slg 3 (qbx l g).2.1]),.cl (.int .i64 (qbx l g).2.2)] []:=
 xbsa hp (fun hk=>by rw[q2m hp ((q00 hp).2 hk.1)];show boxA _=_;rw[<- hk.2]) rfl
theorem xbhw(k:List CV):xbu8 k=pT (∀c∈k,(qca ((cell1 c).getD 2 .nili)).length=2/\(idV (xbl5 c 0)).2=0):=qab _
theorem xbxb(t:Int)(b:List Int)(k:List CV)(hp:isS [.int .i64 t,.sli .u8 b,.slg 3 k]=true):xbqa t b k=zB (xbu8 k):=by
 have hl:=xbmx hp;have hk:=(qb6 hp).1;unfold xbqa;rw[qab,xbhw];refine qxm (l:=k) (P:=fun c=>(qca ((cell1 c).getD 2 .nili)).length=2/\(idV (xbl5 c 0)).2=0) (g:=id) (L:=fun f i acc=>qvo _ _ f (i:Int) t b k) (bad:=zB false) (fin:=fun acc=>zB true) (by omega) rfl (fun n i acc x hi ha hx=> ?_) (fun n acc ha=>qdt (by omega) rfl) (fun h=>by rw[qea.2 h]) fun h=>by rw[qow h]
 obtain⟨t',b',k',rfl,hs⟩:=hk x (zac hx);have hk':=(qb6 hs).1;by_cases h2:k'.length=2
 ·obtain⟨t0,b0,k0,t1,b1,k1,rfl,s0,s1⟩:=xbom hk' h2;refine⟨fun h=> ?_,fun h=> ?_⟩
  ·refine qas (by omega) (qa1 (by omega) hx (qak rfl (qkq rfl (qas (by show(0:Int)<2;omega) (qak s0 (qkq h.2 ?_))))));dsimp only;rw[qkh (by omega)];rfl
  ·exact qas (by omega) (qa1 (by omega) hx (qak rfl (qkq rfl (qas (by show(0:Int)<2;omega) (qak s0 (qmy (fun e=>h ⟨rfl,e⟩) rfl))))))
 ·exact⟨fun h=>absurd h.1 h2,fun _=>qas (by omega) (qa1 (by omega) hx (qak rfl (qmy (fun e=>h2 (by have e:(k'.length:Int)=2:=e;omega)) rfl)))⟩
theorem xbe5{t:Int}{b:List Int}{k:List CV}(hp:ndSm t b k=true)(hf: ∀c∈k,(qca ((cell1 c).getD 2 .nili)).length=2/\(idV (xbl5 c 0)).2=0):qqa k=true/\qbh (k.map qwu)=true:=by
 obtain⟨hs,hl,hB⟩:=qq1.1 hp;have hk:=(qb6 hs).1;have h2: ∀c∈k, ∃t b t0 b0 k0 t1 b1 k1,c=.agg (ndC t b [.agg (ndC t0 b0 k0),.agg (ndC t1 b1 k1)])/\isS (ndC t0 b0 k0)=true/\isS (ndC t1 b1 k1)=true:=fun c hc=>by have h3:=(hf c hc).1;obtain⟨t',b',k',rfl,hs'⟩:=hk c hc;obtain⟨t0,b0,k0,t1,b1,k1,rfl,s0,s1⟩:=xbom (qb6 hs').1 h3;exact⟨_,_,_,_,_,_,_,_,rfl,s0,s1⟩
 refine⟨qu2.2 ⟨by omega,fun c hc=> ?_⟩,qav.2 ⟨by rw[zam];exact hl,fun d hd=> ?_,hB⟩⟩
 ·obtain⟨t,b,t0,b0,k0,t1,b1,k1,rfl,s0,s1⟩:=h2 c hc;exact⟨_,_,_,_,_,_,_,_,rfl,s0⟩
 ·have hb:=q2y hd;obtain⟨c,hc,rfl⟩:=za7.1 hd;have h3:=(hf c hc).2;obtain⟨t,b,t0,b0,k0,t1,b1,k1,rfl,s0,s1⟩:=h2 c hc;have hb:qf8 k1<=_:=hb;exact⟨(qf2 t0 b0 k0).1,k1,rfl,(xbix s0 h3).1,(qb6 s1).1,by omega⟩
theorem xbxe(t:Int)(b:List Int)(k:List CV)(g:Int)(hp:ndSm t b k=true):xbqc t b k g=zR [.cl (.slg 2 (qhy g t b k).1),.cl (.int .i64 (qhy g t b k).2)] []:=by
 obtain⟨hs,hl,_⟩:=qq1.1 hp;have hk:=(qb6 hs).1;unfold xbqc;rw[xbhd,xbhw];refine qa2 (fun h=> ?_) fun h1=>qa2 (fun h=> ?_) fun h2=>qak hs ?_
 ·rw[qrb (.inl h)]
 ·rw[qrb (.inr h)]
 rw[xbb9 h1 h2];have none_bad: ¬(∃l,qkb k=some l/\b=[]/\okA l)->zR [.cl (.slg 2 []),.cl (.int .i64 1)] []=zR [.cl (.slg 2 (match qkb k with|none=>(([]:List CV),(1:Int))|some l=>@ite _ (b=[]/\okA l) (Classical.propDecidable _) (l,0) ([],1)).1),.cl (.int .i64 (match qkb k with|none=>(([]:List CV),(1:Int))|some l=>@ite _ (b=[]/\okA l) (Classical.propDecidable _) (l,0) ([],1)).2)] []:=fun h=>by
  cases e:qkb k with
  | none=>rfl
  | some l=>simp only[];rw[if_neg fun h'=>h ⟨l,e,h'⟩]
 by_cases hf: ∀c∈k,(qca ((cell1 c).getD 2 .nili)).length=2/\(idV (xbl5 c 0)).2=0
 ·rw[qea.2 hf];obtain⟨f1,f2⟩:=xbe5 hp hf;have e3:qyw k=k.map qwu:=qab _;refine q2v rfl (qak f1 ?_);rw[e3];refine qak f2 ?_;by_cases hko:okA (k.map qwu)
  ·rw[q34 h1 hko,qce];refine qkq rfl (qak (c:=isN (ndC g [] (boxA (k.map qwu)))&&isN (ndC t b k)) (by rw[qqd (qsm g f2 hko.1.1.2),qqd hs];rfl) ?_);show cond (!qfw (ndC g [] (boxA (k.map qwu))) (ndC t b k)) _ _=_;by_cases hsame:ndC g [] (boxA (k.map qwu))=ndC t b k
   ·rw[qe3.2 hsame];simp only[zbc,CV.sli.injEq,CV.slg.injEq,true_and,and_true] at hsame;have e:=(q2u f2 hko.1.2.2.1).2;rw[hsame.2.2] at e;rw[e];simp only[];rw[if_pos ⟨hsame.2.1.symm,hko⟩];rfl
   ·rw[qd9.2 hsame];refine none_bad fun⟨l,e,e1,e2⟩=>hsame ?_;obtain⟨q1,q2,_⟩:=qpx hp e;rw[<- q1, <- q2,e1,h2]
  ·rw[q33 h1 hko];refine qmy (by simp) (none_bad fun⟨l,e,e1,e2⟩=>hko ?_);rw[<- (qpx hp e).1];exact e2
 ·rw[qow hf];refine none_bad fun⟨l,e,e1,e2⟩=>hf fun c hc=> ?_;obtain⟨q1,q2,_⟩:=qpx hp e;unfold qkb at e;split at e
  ·rename_i ha;rw[zai] at ha;obtain⟨d,hd⟩:=zbn.1 (ha c hc);obtain⟨t0,b0,k0,k1,rfl,h0,_⟩:=q8w (hk c hc) hd;exact⟨rfl,h0⟩
  ·cases e
open IntWalk (i64_in u8_in u32_in u64_in i64_quo u8_quo rem_in)
abbrev tyT(v:CV):Prop:= ∃t b q,v=.agg [.int .i64 t,.sli .u8 b,.slg 3 q]/\isT [.int .i64 t,.sli .u8 b,.slg 3 q]=true
theorem quw{l:List CV}:q6c l=true↔ ∀c∈l,WT c:=by unfold q6c;rw[qab,qea]
theorem xbaq: ∀ {k:List CV},(∀v∈k,tyT v)->∀z,qdi qbz k z<=z:=fun {k} h=>xbap fun v hv z=>by obtain⟨t,b,q,rfl,hs⟩:=h v hv;obtain⟨n,hn⟩:=qh8 hs;show qbz (ndC t b q) z<=z - 1;rw[qek hn];exact qn3 hn z
theorem q44(K:List CV->Int->Int->Option Out)(l:List CV)(i:Nat)(o:List Int)(k:List CV)(hi:l[i]? =some (mkA o k))(hk: ∀v∈k,tyT v): ∀(f j:Nat) (z:Int),z<=30000 - j->30005<f+j->j<=k.length->j<=30001->qgi K f l z (i:Int) (j:Int)=K l (qdi qbz (k.drop j) z) (i:Int)
 | 0,j,z,hz,hf,hj,hj2=>by omega
 | f+1,j,z,hz,hf,hj,hj2=>by
  have ih:=q44 K l i o k hi hk f (j+1);show qno (qgi K f) K l z (i:Int) (j:Int)=_;unfold qno;generalize qgi K f=ag at ih ⊢;refine qa1 (by omega) hi (qak rfl ?_);show cond (decide ((j:Int)<(k.length:Int))) _ _=_;refine qac (fun h=> ?_) fun h=> ?_
  ·obtain⟨c,hc⟩:=qaz (b:=k) (i:=j) (by omega);rw[qcm hc];obtain⟨t,b,q,rfl,hs⟩:=hk c (zac hc);unfold qdi;refine qac (fun h0=> ?_) fun h0=> ?_
   ·rw[if_neg (by omega)];refine qa1 (by omega) hi (qak rfl (qa1 (by omega) hc (qak rfl (qak (c:=isT (ndC t b q)&&qot z) (by rw[hs,qvf (by omega)];rfl) ?_))));obtain⟨n,hn⟩:=qh8 hs;have hle:qbz (ndC t b q) z<=z - 1:=by rw[qek hn];exact qn3 hn z
    show ag l (qbz (ndC t b q) z) (i:Int) (IntKind.i64.wrap ((j:Int)+1))=_;rw[qkh (by omega)];exact ih (qbz (ndC t b q) z) (by omega) (by omega) (by omega) (by omega)
   ·rw[if_pos (by omega)]
  ·rw[za2 (by omega)];rfl
theorem q9e(a:Nat):cond (decide ((1000:Int)<(a:Int))) 1000 (a:Int)=min (a:Int) 1000:=by
 by_cases h:(1000:Int)<(a:Int)
 ·rw[decide_eq_true h,cond_true];omega
 ·rw[decide_eq_false h,cond_false];omega
theorem q43(K:Int->Option Out)(l:List CV)(hl:l.length<=25)(hW: ∀c∈l,WT c): ∀(f i:Nat) (z:Int),z<=30000->i<=l.length->l.length<f+i->qiy K f l z (i:Int)=K (smA (l.drop i) z)
 | 0,i,z,hz,hi,hf=>by omega
 | f+1,i,z,hz,hi,hf=>by
  have ih:=q43 K l hl hW f (i+1);show qnn (qiy K f) K l z _=_;unfold qnn;generalize qiy K f=ag at ih ⊢;refine qac (fun h=> ?_) fun h=> ?_
  ·obtain⟨c,hc⟩:=qaz (b:=l) (i:=i) (by omega);rw[qcm hc];obtain⟨o,k,rfl,ho,hk⟩:=hW c (zac hc);unfold smA;refine qac (fun h0=> ?_) fun h0=> ?_
   ·rw[if_neg (by omega)];refine qa1 (by omega) hc (qak rfl ?_);show shut (qgi _ FUEL) l (IntKind.i64.wrap (z - cond (decide ((1000:Int)<(o.length:Int))) 1000 (o.length:Int))) (i:Int) 0=_;rw[q9e,i64_in _ (by omega),qab];have hle:=xbaq hk (z - min (o.length:Int) 1000);refine(q44 _ l i o k hc hk FUEL 0 _ (by omega) (by unfold FUEL;omega) (zcc _) (by omega)).trans ?_;rw[zbw];show ag l (qdi qbz k (z - min (o.length:Int) 1000)) (IntKind.i64.wrap ((i:Int)+1))=_;rw[qkh (by omega)];exact ih _ (by omega) (by omega) (by omega)
   ·rw[if_pos (by omega)]
  ·rw[za2 (by omega)];rfl
theorem xbcy{l:List CV}{n:Int}:smOk l n=true↔l.length<=25/\0<=n/\n<=30000:=by unfold smOk;rw[qab,decide_eq_true_eq]
theorem xbr1(l:List CV)(n:Int)(hp:(q6c l&&smOk l n)=true):xbim l n=zI (qsk l n):=by rw[zab,xbcy] at hp;obtain⟨hW,hl,hn⟩:=hp;have hW:=quw.1 hW;unfold xbim qsk;simp only[qab,q9e];rw[i64_in _ (by omega)];refine(q43 _ l hl hW FUEL 0 _ (by omega) (zcc _) (by unfold FUEL;omega)).trans ?_;rw[zbw]
theorem xbmw(l:List CV)(hp:q6c l=true):xbaa l=zB (xbow l):=by
 unfold xbaa xbow;rw[qab];refine qac (fun h=>qak (by rw[hp,xbcy.2 ⟨by omega,by omega,by omega⟩];rfl) (qap ?_)) fun h=>qap ?_
 ·have e:qsk l 1500=smA l (1500 - l.length):=by unfold qsk;rw[qab,show min (l.length:Int) 1000=l.length by omega]
  rw[e,decide_eq_decide];exact⟨fun h'=>⟨by omega,h'⟩,fun h'=>h'.2⟩
 ·rw[eq_comm,decide_eq_false_iff_not];exact fun h'=>h (by omega)
theorem xbao{k:List CV}(hk: ∀v∈k,tyT v){z:Int}(hz:z<=1500)(h0:0<=qdi qbz k z):(∀v∈k,qsb v)/\(qf8 k:Int)=z - qdi qbz k z:=by
 have h:=qvd (f:=qbz) (g:=fun c=>qds (rkOf (cell1 c)) (cell1 c)) (l:=k) (fun v hv z hz h=>by
  obtain⟨t,b,q,rfl,hs⟩:=hk v hv;obtain⟨n,hn⟩:=qh8 hs;have hn:=qel hn;have h:0<=qbz (ndC t b q) z:=h;rw[qek hn] at h;show((qds _ (ndC t b q):Nat):Int)=z - qbz (ndC t b q) z;rw[qek hn];exact qrk hn z hz h) (fun v hv z=>by
  obtain⟨t,b,q,rfl,hs⟩:=hk v hv;obtain⟨n,hn⟩:=qh8 hs;show qbz (ndC t b q) z<=z - 1;rw[qek hn];exact qn3 hn z) z (by omega) h0
 have hb:(qf8 k:Int)=z - qdi qbz k z:=h.2;refine⟨fun v hv=> ?_,hb⟩;have hm:=qrq (g:=fun c=>qds (rkOf (cell1 c)) (cell1 c)) hv;obtain⟨t,b,q,rfl,hs⟩:=hk v hv;obtain⟨n,hn⟩:=qh8 hs;exact⟨t,b,q,rfl,xbam (qel hn) (zby hm (by show qf8 k<=_;omega))⟩
theorem q28: ∀ {l:List CV} {z:Int},(∀c∈l,WT c)->z<=1500->0<=smA l z->(∀c∈l,WA c)/\(qp1 l:Int)<=z
 | [],z,_,_,h=>⟨by simp,h⟩
 | c::r,z,hW,hz,h=>by
  obtain⟨o,k,rfl,ho,hk⟩:=hW c (by simp);have hle:=xbaq hk (z - min (o.length:Int) 1000);have h:0<=(if z<0 then z else smA r (qdi qbz k (z - min (o.length:Int) 1000))):=h;split at h
  ·omega
  ·have hr:0<=qdi qbz k (z - min (o.length:Int) 1000):=by
    by_cases h':qdi qbz k (z - min (o.length:Int) 1000)<0
    ·cases r with
     | nil=>exact h
     | cons d r'=>
      have h:0<=(if qdi qbz k (z - min (o.length:Int) 1000)<0 then qdi qbz k (z - min (o.length:Int) 1000) else _):=h;rw[if_pos h'] at h;exact h
    ·omega
   obtain⟨a1,a2⟩:=xbao hk (by omega) hr;obtain⟨b1,b2⟩:=q28 (fun c hc=>hW c (zaw _ hc)) (by omega) h;refine⟨fun c hc=> ?_, ?_⟩
   ·rcases zas.1 hc with rfl|hc
    ·exact⟨o,k,rfl,ho,a1,by omega⟩
    ·exact b1 c hc
   ·have e:qp1 (mkA o k::r)=qf8 k+qp1 r:=by unfold qp1;rw[zbr,zck];rfl
    omega
theorem xbpf{l:List CV}(hW:q6c l=true)(h:xbow l=true):qbh l=true:=by unfold xbow at h;rw[qab,decide_eq_true_eq] at h;obtain⟨h1,h2⟩:=q28 (quw.1 hW) (by omega) h.2;exact qav.2 ⟨by omega,h1,by omega⟩
theorem e42:qcr 6 (qal [1,2])=(6,[42],0):=by rw[show qal [1,2]=[42] from(qab _).trans (by kernel_rfl)];exact(qab _).trans (by kernel_rfl)
theorem e43:qcr 6 (qal [1,3])=(6,[43],0):=by rw[show qal [1,3]=[43] from(qab _).trans (by kernel_rfl)];exact(qab _).trans (by kernel_rfl)
abbrev v42:CV:=.agg (ndC 6 [42] [])
abbrev c42:CV:=mkA [1,3] [v42]
theorem nd42:qsb v42:=⟨6,[42],[],rfl,qqi (by simp) (by simp)⟩
theorem xbvt{n:Nat}{a:List CV}(h:isTf n a=true)(h1:okF n 32 a=true)(h2:(qam n a).2=true):(qa0 a).2=0/\qou a=true:=by rw[qdz h,qq0 h,if_pos ⟨h1,h2⟩];exact⟨rfl,decide_eq_true ⟨h1,h2⟩⟩
theorem ok42:qbh [c42]=true/\okA [c42]:=by
 have hv:qjd [v42]:=⟨fun v hv=>by rw[zci.1 hv];exact nd42,by
  have:=(qs0 (t:=6) (b:=[42]) (k:=[]) (by simp) (by simp) (by show 1+1+0<=30000;omega)).2;show q84 (ndC 6 [42] [])+0<=1800;rw[this];show 1+1+0+0<=1800;omega⟩
 have hW: ∀c∈[c42],WA c:=fun c hc=>by rw[zci.1 hc];exact⟨[1,3],_,rfl,⟨by simp,by simp⟩,hv⟩
 have hf:fitV [v42]:=fun v hv=>by rw[zci.1 hv];exact(xbvt (n:=1) (a:=ndC 6 [42] []) (by kernel_rfl) (by kernel_rfl) (by kernel_rfl)).1
 have ho:qph [v42]=[v42]:=by rw[qj4 hf];rfl
 have hm:[c42].map ordA=[c42]:=by show[mkA [1,3] (qph [v42])]=_;rw[ho]
 have hn:ndA c42=[.int .i64 48,.sli .u8 [],.slg 3 [.agg (ndC 6 [43] []),.agg (ndC 49 [] [v42])]]:=by show[CV.int .i64 48,.sli .u8 [],.slg 3 (qw0 [1,3] [v42])]=_;unfold qw0;rw[e43]
 have hs:srtA [c42]=[c42]:=rfl;refine⟨qav.2 ⟨by simp,hW,by show qf8 [v42]+0<=1800;have:=hv.2;omega⟩,⟨⟨by simp,by simp⟩,by simp,fun c hc=> ?_, ?_, ?_⟩, ?_⟩
 ·rw[zci.1 hc];exact⟨hf,by show 0<1;omega,rfl⟩
 ·rw[hm];intro c hc;rw[zci.1 hc];refine⟨by show(qcr 6 (qal [1,3])).2.2=0;rw[e43], ?_⟩;rw[hn];exact(xbvt (n:=3) (by kernel_rfl) (by kernel_rfl) (by kernel_rfl)).1
 ·rw[hm,hs];show qou (ndC 49 [] [.agg (ndA c42)])=true;rw[hn];exact(xbvt (n:=4) (by kernel_rfl) (by kernel_rfl) (by kernel_rfl)).2
 ·rw[hm,hs]
theorem q2t:qbh []=true:=qav.2 ⟨by simp,by simp,by show 0<=1800;omega⟩
theorem xbmu(hp:true=true):q98=zB true:=by obtain⟨ha,hk⟩:=ok42;unfold q98;simp only[e42,qhe];have h18:qhq [c42] [1,4]=((0,[],[]),18):=qvz hk rfl;have h0:qhq [c42] [1,3]=((6,[42],[]),0):=xbbk hk (c:=c42) (r:=[]) rfl (by show ¬1<1;omega) rfl;have hN:=qqd (qqi (g:=6) (b:=[42]) (by simp) (by simp));refine qak (xbaf (by simp) (by simp;exact⟨⟨by omega,by omega⟩,by omega,by omega⟩)) (qak ha (qak ha (qak q2t ?_)));rw[q0y,q0y,qow (fun h:okA []=>by have:=h.1.1.1;simp at this)];refine qak rfl (qak ha (qak (qea.2 hk) (qas (by rw[h18]) (qas (by rw[h0]) ?_))));rw[h0];refine qak (by rw[hN];rfl) (qak (qj3 _) (qak (qdc.2 (by simp)) ?_));rw[qcn];rfl
theorem xblh{c:Bool}{a b r:Option Out}(h1:c=false->a=r)(h2:c=true->b=r):cond (!c) a b=r:=by
 cases c with
 | false=>exact h1 rfl
 | true=>exact h2 rfl
theorem xbyi(a:List CV):qhv a a=true:=by rw[qlc];exact qea.2 rfl
theorem qr2:isN (ndC 0 [] [])=true:=qqd (qqi (by simp) (by simp))
theorem xbf8{l:List CV}(g:Int)(hp:qbh l=true):isN (ndC (qbx l g).1 qbe (qbx l g).2.1)=true:=by
 rw[qce];by_cases h:g=49\/(160<=g/\g<=190)
 ·by_cases hk:okA l
  ·rw[q34 h hk];exact qqd (qsm g hp hk.1.1.2)
  ·rw[q33 h hk];exact qr2
 ·rw[xbbf h];exact qr2
theorem xbsf{l:List CV}(o:List Int)(hp:qbh l=true):isN (ndC (qhq l o).1.1 (qhq l o).1.2.1 (qhq l o).1.2.2)=true:=by
 by_cases hk:okA l
 ·cases hf:l.find? (hasT o) with
  | none=>rw[qvz hk hf];exact qr2
  | some c=>
   obtain⟨p,k,rfl,hp2,hv⟩:=(qav.1 hp).2.1 c (List.mem_of_find?_eq_some hf);obtain⟨f1,f2⟩:=qvy hk hf hv;by_cases h:1<k.length
   ·rw[xbbj hk hf h];exact qr2
   ·obtain⟨t,b,q,r,rfl,_⟩:=f2 h;rw[xbbk hk hf h rfl];obtain⟨_,_,_,e,hs⟩:=hv.1 _ (zbj ..);cases e;exact qqd hs
 ·rw[xbbi hk];exact qr2
theorem xbon{l:List CV}(hp:qbh l=true):qr9 (qhz l).1=true:=by
 have e:qhz l=xbu7 l:=qab _;rw[e];unfold xbu7;by_cases hk:okA l
 ·rw[if_pos hk];have hs:=qsm 49 hp hk.1.1.2;by_cases h0:(qa0 (ndC 49 [] (boxA l))).2=0
  ·have:=(xbe2 hs (by rw[xbph hs];exact decide_eq_true h0)).2.2.1;exact qib (b:=(qa0 (ndC 49 [] (boxA l))).1) (by omega)
  ·obtain⟨n,hn,_⟩:=qcc hs;rw[qdz hn] at h0 ⊢;split at h0
   ·exact absurd rfl h0
   ·rw[if_neg (by assumption)];exact qib (by simp)
 ·rw[if_neg hk];exact qib (by simp)
theorem xbnb{g t:Int}{b:List Int}{k:List CV}(hp:ndSm t b k=true):qbh (qhy g t b k).1=true:=by
 by_cases h: ¬(g=49\/(160<=g/\g<=190))\/t≠g
 ·rw[qrb h];exact q2t
 ·rw[xbb9 (Classical.not_not.1 fun e=>h (.inl e)) (Classical.not_not.1 fun e=>h (.inr e))]
  cases e:qkb k with
  | none=>exact q2t
  | some l=>
   simp only[];split
   ·exact(qpx hp e).2.2
   ·exact q2t
theorem xbl6{c:CV}(h:qsb c):qf8 (qhw (qwu c))<=q84 (cell1 c):=by
 obtain⟨t,b,k,rfl,hs⟩:=h;obtain⟨hk,e,_⟩:=qb6 hs;show qf8 (qca ((cell1 (k.getD 1 .nili)).getD 2 .nili))<=q84 (ndC t b k)
 match k,hk,e with
 | [],_,_=>exact zcc _
 | [_],_,_=>exact zcc _
 | u::v::r,hk,e=>
  rw[e];obtain⟨t1,b1,k1,rfl,s1⟩:=hk v (by simp);have e1:=(qb6 s1).2.1;have hm:=qrq (g:=fun c=>qds (rkOf (cell1 c)) (cell1 c)) (l:=u::.agg (ndC t1 b1 k1)::r) (c:=.agg (ndC t1 b1 k1)) (by simp);have hm:1+b1.length+qf8 k1<=qf8 (u::.agg (ndC t1 b1 k1)::r):=zby (Nat.le_of_eq e1.symm) hm;exact zby (zby (Nat.le_add_left (qf8 k1) (1+b1.length)) hm) (Nat.le_add_left _ _)
theorem qxu: ∀ {k:List CV},(∀v∈k,qsb v)->qp1 (k.map qwu)<=qf8 k
 | [],_=>zar _
 | c::r,h=>by have ih:=qxu fun v hv=>h v (zaw _ hv);have h1:=xbl6 (h c (by simp));unfold qp1 qf8 at ih ⊢;rw[zbr,zbr,zck,zbr,zck];exact Nat.add_le_add h1 ih
theorem xbog{t:Int}{b:List Int}{k:List CV}(hs:isT (ndC t b k)=true)(h0: ¬qbz (ndC t b k) 1500<0):ndSm t b k=true:=by obtain⟨n,hn⟩:=qh8 hs;have hn:=qel hn;rw[qek hn] at h0;have hb:=qrk hn 1500 (by omega) (by omega);have hS:=xbam hn (by omega);obtain⟨hk,e,_⟩:=qb6 hS;have:=q0r hk;have:=qxu hk;have e:qds (rkOf (ndC t b k)) (ndC t b k)=1+b.length+qf8 k:=e;exact qq1.2 ⟨hS,by omega,by omega⟩
theorem xbmv(l:List CV)(t:Int)(b:List Int)(k:List CV)(g:Int)(o:List Int)(hp:(q6c l&&(isT [.int .i64 t,.sli .u8 b,.slg 3 k]&&u32Any o))=true):q99 l t b k g o=zB true:=by rw[zab,zab] at hp;refine qak hp.1 (xblh (fun _=>rfl) fun h1=>qak (by rw[hp.2.1,qvf (by omega)];rfl) (qac (fun _=>rfl) fun h2=>qac (fun _=>rfl) fun h3=> ?_));have hl:=xbpf hp.1 h1;have hs:=xbog hp.2.1 h2;have n1:=xbf8 g hl;have n2:=xbsf o hl;exact qak hl (qak hl (qak hs (qak hs (qak hl (qak hl (qak hl (qak hl (qak (by rw[n1];rfl) (qak (qj3 _) (qas rfl (qak (by rw[xbnb hs];rfl) (qak (xbyi _) (qas rfl (qak (by rw[n2];rfl) (qak (qj3 _) (qas rfl (qak (xbon hl) (qak (by rw[qcn];exact decide_eq_true rfl) (qas rfl rfl)))))))))))))))))))
end Go.Proofs.YtoiikagnjcjccaaGreatDoorA
