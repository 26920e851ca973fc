/-
 What the layers below come to (their lemmas, as far as this seat needs them). Conditions: each function's own.
-/
import Derived.Test.YtoaakappnhemiaaGreatDoorT2a
import Derived.Test.YtoaakappnhemiaaGreatDoorT2b
import Derived.Test.YtoaakappnhemiaaGreatDoorT2c
import Derived.Test.YtoaakappnhemiaaGreatDoorK3
import Derived.IntWalk
set_option linter.unusedVariables false
set_option linter.unusedSimpArgs false
set_option maxRecDepth 100000
set_option linter.defProp false
namespace Go.Proofs.YtoaakappnhemiaaGreatDoorA
open IntKind(i64 u8 u32 u64)
def q6n(y:Int):qff (y+1)=qff y+365+(if qne y=true then 1 else 0):=by unfold qff qne;simp only[yd];split<;>omega
def qur{y m:Int}(h1:1<=m)(h2:m<=12):qey y (m+1)=qey y m+qj1 y m:=by
 have hm:m=1\/m=2\/m=3\/m=4\/m=5\/m=6\/m=7\/m=8\/m=9\/m=10\/m=11\/m=12:=by omega
 unfold qey qj1;cases qne y<;>rcases hm with h|h|h|h|h|h|h|h|h|h|h|h<;>subst h<;>rfl
def xbb4(y:Int):qey y 1=0:=by unfold qey;rfl
def qus(y m:Int):28<=qj1 y m/\qj1 y m<=31:=by
 unfold qj1;split
 ·split<;>omega
 ·split<;>omega
open IntWalk (i64_in u8_in u32_in u64_in i64_quo u8_quo rem_in)
def xb0r(s:ByteArray)(hp:decide (2<=s.size)=true):xboc s=zI (qge s):=by
 simp only[yd] at hp;unfold xboc qge qp6;have r0:=qkh s 0;have r1:=qkh s 1;refine qaq (by omega) ?_;extract_lets x1 x2 x3 x4 x5 x6 x7 x8;have e2:x2=bget s 0:=i64_in _ (by omega);have e3:x3=bget s 0 - 48:=by show i64.wrap (x2 - 48)=_;rw[e2];exact i64_in _ (by omega)
 refine qaq (by omega) ?_;have e5:x5=bget s 1:=i64_in _ (by omega);have e6:x6=bget s 1 - 48:=by show i64.wrap (x5 - 48)=_;rw[e5];exact i64_in _ (by omega)
 refine qae (fun h=> ?_) fun h1=>qae (fun h=> ?_) fun h2=>qae (fun h=> ?_) fun h3=>qae (fun h=> ?_) fun h4=> ?_
 ·rw[yc (by omega)]
 ·rw[yc (by omega)]
 ·rw[yc (by omega)]
 ·rw[yc (by omega)]
 ·rw[yb (by omega)];have e7:x7=10*x3:=i64_in _ (by omega);have e8:x8=10*x3+x6:=by show i64.wrap (x7+x6)=_;rw[e7];exact i64_in _ (by omega)
  exact qmu (by rw[e8,e3,e6])
def xb6n(d0 d1 d2 d3 d4 d5:Int)(hp:stOk d0=true):xbyf d0 d1 d2 d3 d4 d5=zB (qne d0):=by
 simp only[stOk,yd] at hp;unfold xbyf qne;rw[rem_in d0 4 (by omega),rem_in d0 100 (by omega),rem_in d0 400 (by omega)];refine qae (fun h=>qa0 (fun h2=> ?_) fun h2=> ?_) fun h=> ?_
 ·exact qa7 (by symm;rw[yd];exact⟨h,.inl h2⟩)
 ·refine qa7 (by rw[zbn];simp only[yd];omega)
 ·exact qa7 (by symm;rw[decide_eq_false_iff_not];exact fun h'=>h h'.1)
def xb7g(y:Int)(hp:stOk y=true):xbyy y=zB (qne y):=by
 simp only[stOk,yd] at hp;unfold xbyy qne;rw[rem_in y 4 (by omega),rem_in y 100 (by omega),rem_in y 400 (by omega)];refine qae (fun h=>qa0 (fun h2=> ?_) fun h2=> ?_) fun h=> ?_
 ·exact qa7 (by symm;rw[yd];exact⟨h,.inl h2⟩)
 ·refine qa7 (by rw[zbn];simp only[yd];omega)
 ·refine qa7 (by rw[zbn];simp only[yd];omega)
def xb6l(d0 d1 d2 d3 d4 d5:Int)(hp:stOk d0=true):xbyd d0 d1 d2 d3 d4 d5=zI (qj1 d0 d1):=by
 unfold xbyd qj1;refine qae (fun h=>qam hp (qc5 (fun h2=> ?_) fun h2=> ?_)) fun h=>qae (fun h2=> ?_) fun h2=>qae (fun h3=> ?_) fun h3=>qae (fun h4=> ?_) fun h4=>qae (fun h5=> ?_) fun h5=> ?_
 ·rw[yc h,yc h2]
 ·rw[yc h,yb (by rw[h2];simp)]
 all_goals first|rw[yb h,yc (by omega)]|rw[yb h,yb (by omega)]
def xcag(d0 d1 d2 d3 d4 d5:Int)(hp:true=true):xb83 d0 d1 d2 d3 d4 d5=zB (qqv d0 d1 d2 d3 d4 d5):=by
 unfold xb83 qqv;have no: ∀ {p:Prop} [Decidable p], ¬p->zB false=zB (decide p):=fun h=>qa7 (by symm;rw[decide_eq_false_iff_not];exact h);refine qae (fun h=>no (by omega)) fun h1=>qae (fun h=>no (by omega)) fun h2=>qae (fun h=>no (by omega)) fun h3=>qae (fun h=>no (by omega)) fun h4=>qae (fun h=>no (by omega)) fun h5=>qam (by simp only[stOk,yd];omega) (qae (fun h=>no (by omega)) fun h6=>
  qae (fun g1=>qae (fun g2=>qae (fun g3=>qae (fun g4=>qae (fun g5=> ?_) fun h=>no (by omega)) fun h=>no (by omega)) fun h=>no (by omega)) fun h=>no (by omega)) fun h=>no (by omega))
 refine qa7 ?_;rw[zbn];simp only[yd];omega
def qor{y m d h i s:Int}(hp:qqv y m d h i s=true):(1<=y/\y<=9999/\1<=m/\m<=12)/\(1<=d/\d<=qj1 y m)/\0<=h/\h<24/\0<=i/\i<60/\0<=s/\s<60:=by unfold qqv at hp;simpa only [yd] using hp
def xb7c(y m:Int)(hp:true=true):xbyw y m=zI (qkc y m):=by
 unfold xbyw qkc;refine qae (fun h=> ?_) fun h1=>qae (fun h=> ?_) fun h2=>qae (fun h=> ?_) fun h3=>qae (fun h=> ?_) fun h4=> ?_
 ·rw[yb (by omega)]
 ·rw[yb (by omega)]
 ·rw[yb (by omega)]
 ·rw[yb (by omega)]
 rw[yc (by omega)];unfold qj1;refine qae (fun h=>qam (by simp only[stOk,yd];omega) (qc5 (fun h2=> ?_) fun h2=> ?_)) fun h=>qae (fun h2=> ?_) fun h2=>qae (fun h3=> ?_) fun h3=>qae (fun h4=> ?_) fun h4=>qae (fun h5=> ?_) fun h5=> ?_
 ·rw[yc h,yc h2]
 ·rw[yc h,yb (by rw[h2];simp)]
 all_goals first|rw[yb h,yc (by omega)]|rw[yb h,yb (by omega)]
open IntWalk (i64_in u8_in u32_in u64_in i64_quo u8_quo rem_in)
def xb1d(y:Int)(hp:stOk y=true):xbos y=zI (qff y):=by simp only[stOk,yd] at hp;unfold xbos qff;extract_lets x1 x2 x3 x4 x5 x6 x7 x8;have e1:x1=y - 1:=i64_in _ (by omega);have e2:x2=x1*365:=i64_in _ (by omega);have e3:x3=x1/ 4:=i64_quo _ _ (by omega);have e4:x4=x2+x3:=i64_in _ (by omega);have e5:x5=x1/ 100:=i64_quo _ _ (by omega);have e6:x6=x4 - x5:=i64_in _ (by omega);have e7:x7=x1/ 400:=i64_quo _ _ (by omega);have e8:x8=x6+x7:=i64_in _ (by omega);exact qmu (by rw[e8,e6,e4,e2,e3,e5,e7,e1])
def xb6p(d0 d1 d2 d3 d4 d5:Int)(hp:qqv d0 d1 d2 d3 d4 d5=true):xbyh d0 d1 d2 d3 d4 d5=zI (qvl d0 d1 d2 d3 d4 d5):=by
 obtain⟨⟨a1,a2,a3,a4⟩,⟨a5,a6⟩,a7,a8,a9,a10,a11,a12⟩:=qor hp;have a6':d2<=31:=by have:=qus d0 d1;omega
 clear a6 hp;have hs:=q6n d0;unfold xbyh;have hy0:qff d0=(d0 - 1)*365+(d0 - 1)/ 4 - (d0 - 1)/ 100+(d0 - 1)/ 400:=rfl;have hy1:qff (d0+1)=d0*365+d0/ 4 - d0/ 100+d0/ 400:=by unfold qff;rw[show d0+1 - 1=d0 by omega]
 rw[hy1] at hs;extract_lets x1 x2 x3 x4 x5 x6 x7 x8 x9 x10 x11 x12 x13 x14 x15 x16 x17 x18 x19 x20 x21 x22 x23 x24 x25 x26 x27 x28 x29 x30 x31 x32 x33 x34 x35 x36 x37 x38 x39 x40 x41 x42 x43;have e1:x1=d1 - 3:=i64_in _ (by omega);refine qae (fun h=>qmu ?_) fun h=>qmu ?_
 ·have e2:x2=d0 - 1:=i64_in _ (by omega);have e3:x3=d1+9:=(i64_in (x1+12) (by omega)).trans (by omega);have e4:x4=x2/ 400:=i64_quo _ _ (by omega);have e5:x5=x2 % 400:=rem_in _ _ (by omega)
  clear_value x1 x2 x3 x4 x5
  have r4:0<=x4/\x4<=24/\x2=400*x4+x5/\0<=x5/\x5<=399:=by clear hs hy0 hy1;omega
  have c4:(d0 - 1)/ 4=100*x4+x5/ 4/\(d0 - 1)/ 100=4*x4+x5/ 100/\(d0 - 1)/ 400=x4:=by clear hs hy0 hy1;omega
  have e6:x6=153*x3:=i64_in _ (by omega);have e7:x7=153*x3+2:=(i64_in (x6+2) (by omega)).trans (by omega);have e8:x8=(153*x3+2)/ 5:=(i64_quo x7 5 (by omega)).trans (by rw[e7])
  clear_value x6 x7 x8
  have r8:306<=x8/\x8<=337/\x8=306+31*(d1 - 1):=by clear hs hy0 hy1 r4 c4 e4 e5;omega
  clear e4 e5 e6 e7 e8 hs hy1;have e9:x9=x8+d2:=i64_in _ (by omega);have e10:x10=x8+d2 - 1:=(i64_in (x9 - 1) (by omega)).trans (by omega);have e11:x11=x4*146097:=i64_in _ (by omega);have e12:x12=x5*365:=i64_in _ (by omega);have e13:x13=x11+x12:=i64_in _ (by omega);have e14:x14=x5/ 4:=i64_quo _ _ (by omega);have e15:x15=x13+x14:=i64_in _ (by omega);have e16:x16=x5/ 100:=i64_quo _ _ (by omega);have e17:x17=x15 - x16:=i64_in _ (by omega);have e18:x18=x17+x10:=i64_in _ (by omega);have e19:x19=x18 - 719468:=i64_in _ (by omega);have e20:x20=x19*86400:=i64_in _ (by omega);have e21:x21=d3*3600:=i64_in _ (by omega);have e22:x22=d4*60:=i64_in _ (by omega);have e23:x23=x21+x22:=i64_in _ (by omega);have e24:x24=x23+d5:=i64_in _ (by omega);have e25:x25=x20+x24:=i64_in _ (by omega);have hm:qey d0 d1=31*(d1 - 1):=by unfold qey;rw[yc (by omega)]
  have hday:qff d0+qey d0 d1+(d2 - 1)=x19+719162:=by rw[hy0,hm,c4.1,c4.2.1,c4.2.2,e19,e18,e17,e15,e13,e11,e12,e14,e16,e10];omega
  unfold qvl;rw[hday,e25,e20,e24,e23,e21,e22];omega
 ·have e26:x26=d0/ 400:=i64_quo _ _ (by omega);have e27:x27=d0 % 400:=rem_in _ _ (by omega)
  clear_value x1 x26 x27
  have r4:0<=x26/\x26<=24/\d0=400*x26+x27/\0<=x27/\x27<=399:=by clear hs hy0 hy1;omega
  have c4:d0/ 4=100*x26+x27/ 4/\d0/ 100=4*x26+x27/ 100/\d0/ 400=x26:=by clear hs hy0 hy1;omega
  have e28:x28=153*x1:=i64_in _ (by omega);have e29:x29=153*x1+2:=(i64_in (x28+2) (by omega)).trans (by omega);have e30:x30=(153*x1+2)/ 5:=(i64_quo x29 5 (by omega)).trans (by rw[e29])
  clear_value x28 x29 x30
  have r8:0<=x30/\x30<=337:=by clear hs hy0 hy1 r4 c4;omega
  have hm:qey d0 d1=x30+59+(if qne d0=true then 1 else 0):=by unfold qey;rw[yb (by omega), <- e1,e30]
  clear e26 e27 e28 e29 e30 hy0 hy1;have e31:x31=x30+d2:=i64_in _ (by omega);have e32:x32=x30+d2 - 1:=(i64_in (x31 - 1) (by omega)).trans (by omega);have e33:x33=x26*146097:=i64_in _ (by omega);have e34:x34=x27*365:=i64_in _ (by omega);have e35:x35=x33+x34:=i64_in _ (by omega);have e36:x36=x27/ 4:=i64_quo _ _ (by omega);have e37:x37=x35+x36:=i64_in _ (by omega);have e38:x38=x27/ 100:=i64_quo _ _ (by omega);have e39:x39=x37 - x38:=i64_in _ (by omega);have e40:x40=x39+x32:=i64_in _ (by omega);have e41:x41=x40 - 719468:=i64_in _ (by omega);have e42:x42=x41*86400:=i64_in _ (by omega);have e21:x21=d3*3600:=i64_in _ (by omega);have e22:x22=d4*60:=i64_in _ (by omega);have e23:x23=x21+x22:=i64_in _ (by omega);have e24:x24=x23+d5:=i64_in _ (by omega);have e43:x43=x42+x24:=i64_in _ (by omega);have hday:qff d0+qey d0 d1+(d2 - 1)=x41+719162:=by rw[hm];generalize (if qne d0=true then 1 else 0:Int)=lp at*;rw[c4.1,c4.2.1,c4.2.2] at hs;rw[e41,e40,e39,e37,e35,e33,e34,e36,e38,e32];omega
  unfold qvl;rw[hday,e43,e42,e24,e23,e21,e22];omega
open IntWalk (i64_in u8_in u32_in u64_in i64_quo u8_quo rem_in)
def xb7s(s:ByteArray)(hp:true=true):xby5 s=zR [.cl (.int .i64 (qp7 s).1),.cl (.int .i64 (qp7 s).2)] []:=by
 unfold xby5 qp7;have dig: ∀k:Nat,(k:Int)+2<=s.size->qge (s.extract k s.size)=qp6 (bget s k) (bget s (k+1)):=fun k hk=>by unfold qge;rw[qdr s (by omega) (by omega) (zap _),qdr s (by omega) (by omega) (zap _),zdy]
 have sz: ∀k:Nat,(s.extract k s.size).size=s.size - k:=fun k=>by rw[zdf,Nat.min_self]
 refine qa0 (fun h=> ?_) fun h=>qaq (by omega) ?_
 ·rw[yb (by omega)]
 have hs:s.size=15:=by omega
 have d2:=dig 2 (by omega);have d4:=dig 4 (by omega);have d6:=dig 6 (by omega);have d8:=dig 8 (by omega);have d10:=dig 10 (by omega);have d12:=dig 12 (by omega);extract_lets x1 s2 r3 s4 r5 s6 r7 s8 r9 s10 r11 s12 r13 r14 x15 x16 r17 r18 y m d hh i c;refine qa0 (fun h=> ?_) fun h1=> ?_
 ·rw[yb fun e=>h e.2]
 rw[yc ⟨hs,h1⟩];have z2:=sz 2;have z4:=sz 4;have z6:=sz 6;have z8:=sz 8;have z10:=sz 10;have z12:=sz 12;have rng: ∀a b,0<=a/\a<=255->0<=b/\b<=255-> -100000<=qp6 a b/\qp6 a b<=99:=fun a b h1 h2=>by unfold qp6;split<;>omega
 have g2:=rng _ _ (qkh s 2) (qkh s 3);have g0:=rng _ _ (qkh s 0) (qkh s 1);have e14:r14=qp6 (bget s 0) (bget s 1):=rfl;have e3:r3=qp6 (bget s 2) (bget s 3):=d2;have e15:x15=100*qp6 (bget s 0) (bget s 1):=i64_in _ (by rw[e14];omega);have e16:x16=y:=(i64_in (r3+x15) (by omega)).trans (by rw[e3,e15]);have e5:r5=m:=d4;have e7:r7=d:=d6;have e9:r9=hh:=d8;have e11:r11=i:=d10;have e13:r13=c:=d12;have hr:r17=qqv y m d hh i c:=by show qqv x16 r5 r7 r9 r11 r13=_;rw[e16,e5,e7,e9,e11,e13]
 have h18:r18=qvl y m d hh i c:=by show qvl x16 r5 r7 r9 r11 r13=_;rw[e16,e5,e7,e9,e11,e13]
 refine qaq (by omega) (qaq (by show 2<=(s.extract 2 s.size).size;omega) (qaq (by omega) (qaq (by show 2<=(s.extract 4 s.size).size;omega) (qaq (by omega) (qaq (by show 2<=(s.extract 6 s.size).size;omega) (qaq (by omega) (qaq (by show 2<=(s.extract 8 s.size).size;omega) (qaq (by omega) (qaq (by show 2<=(s.extract 10 s.size).size;omega)
  (qaq (by omega) (qaq (by show 2<=(s.extract 12 s.size).size;omega) (qaq (by omega) ?_))))))))))))
 rw[hr]
 cases hf:qqv y m d hh i c with
 | false=>rfl
 | true=>
  rw[yc rfl];show cond (qqv x16 r5 r7 r9 r11 r13) (zR [.cl (.int .i64 r18),.cl (.int .i64 0)] []) none=_;rw[show qqv x16 r5 r7 r9 r11 r13=true from hr.trans hf,h18];rfl
open IntWalk (i64_in u8_in u32_in u64_in i64_quo u8_quo rem_in)
def q8h(s:ByteArray)(hs:s.size<=18): ∀(fuel i:Nat) (acc:Int),i<=s.size->s.size<fuel+i->0<=acc->acc<((10 ^ i:Nat):Int)->
  qio (fun _ _ _ _ _ _ _ _ _ _=>zI (-1)) (fun _ _ _ _ _ _ _ _ _ _ _ _ _ _=>zI (-1)) (fun _ y2 _ _ _ _=>zI y2) fuel s acc i=zI (qwy ((bytesOf s).drop i) acc)
 | 0,i,acc,hi,hf,h0,h1=>by omega
 | fuel+1,i,acc,hi,hf,h0,h1=>by
  simp only[qio];unfold qm5;have rb:=qkh s i;extract_lets x1 x3 x5 x6 x7 x8;refine qae (fun h=> ?_) fun h=> ?_
  ·have hlt:i<s.size:=by omega
   rw[qeo s hlt];refine qaq (by omega) (qaq h ?_);unfold qwy;refine qae (fun h2=> ?_) fun h2=>qaq (by omega) (qaq h (qae (fun h3=> ?_) fun h3=>qaq (by omega) (qaq h ?_)))
   ·rw[yc (.inl h2)]
   ·rw[yc (.inr h3)]
   ·have h2: ¬bget s i<48:=h2;have h3: ¬57<bget s i:=h3;have e1:x1=bget s i:=rfl
    clear_value x1
    rw[yb (by omega)];have hp:10 ^ (i+1)=10*10 ^ i:=by rw[Nat.pow_succ];omega
    have hp2:10 ^ i<=10 ^ 17:=zcu (by omega) (by omega);have e3:x3=acc*10:=i64_in _ (by omega);have e5:x5=x1 - 48:=u8_in _ (by omega);have e6:x6=x1 - 48:=(i64_in x5 (by omega)).trans e5;have e7:x7=acc*10+(x1 - 48):=(i64_in (x3+x6) (by omega)).trans (by rw[e3,e6]);have e8:x8=((i+1:Nat):Int):=(i64_in ((i:Int)+1) (by omega)).trans (by omega);rw[e7,e8,e1];exact q8h s hs fuel (i+1) _ (by omega) (by omega) (by omega) (by omega)
  ·have:i=s.size:=by omega
   subst this;rw[zbl (by rw[qgi];exact zap _)];rfl
def xbus(s:ByteArray)(hp:decide (s.size<=18)=true):xbfn s=zI (qet s):=by simp only[yd] at hp;unfold xbfn qet;rw[qab];exact q8h s hp FUEL 0 0 (by omega) (by unfold FUEL;omega) (by omega) (by omega)
def xbiz{y m:Int}(h:1<=y/\y<=9999)(hm:1<=m/\m<=12):qkc y m=qey y (m+1) - qey y m:=by unfold qkc;rw[yc (by omega),qur hm.1 hm.2];omega
open IntWalk (i64_in u8_in u32_in u64_in i64_quo u8_quo rem_in)
def xbz9{y m h i c:Int}(F:Int->Int->Int->Int->Int->Int->OO)(hy:1<=y/\y<=9999)(hm:1<=m/\m<=12): ∀(fuel:Nat) (n k:Int),1<=k->k<=m->m - k<fuel->0<=n->n<=4000000+31*k->
  qiq (fun y18 y19 y20 y21 y22 y23 _ _ _=>F y18 y19 y20 y21 y22 y23) fuel y m h i c n k=F y m h i c (n+qey y m - qey y k)
 | 0,n,k,h1,h2,h3,h4,h5=>by omega
 | fuel+1,n,k,h1,h2,h3,h4,h5=>by
  rw[show qiq (fun y18 y19 y20 y21 y22 y23 _ _ _=>F y18 y19 y20 y21 y22 y23) (fuel+1)=ql4 (qiq (fun y18 y19 y20 y21 y22 y23 _ _ _=>F y18 y19 y20 y21 y22 y23) fuel) (fun y18 y19 y20 y21 y22 y23 _ _ _=>F y18 y19 y20 y21 y22 y23) from rfl];unfold ql4;have hmo:=xbiz hy (m:=k) (by omega);have hst:=qur (y:=y) (m:=k) (by omega) (by omega);have hr:=qus y k;extract_lets r18 x19 x20;have e18:r18=qj1 y k:=by show qkc y k=_;rw[hmo];omega
  refine qae (fun hlt=> ?_) fun hlt=> ?_
  ·have e19:x19=n+qj1 y k:=(i64_in (n+r18) (by omega)).trans (by rw[e18]);have e20:x20=k+1:=i64_in _ (by omega);rw[e19,e20];rw[xbz9 F hy hm fuel (n+qj1 y k) (k+1) (by omega) (by omega) (by omega) (by omega) (by omega),hst];congr 1;omega
  ·have:k=m:=by omega
   subst this;show F y k h i c n=_;congr 1;omega
def num2{a b:Int}(ha:0<=a/\a<=255)(hb:0<=b/\b<=255):qwy [a,b] 0=(if qp6 a b<0 then -1 else qp6 a b)/\(qp6 a b= -100000\/0<=qp6 a b/\qp6 a b<=99):=by
 unfold qp6 qwy qwy qwy;by_cases h1:a<48\/57<a
 ·rw[yc h1,yc (show(if a<48\/57<a\/b<48\/57<b then(-100000:Int) else _)<0 by rw[yc (by omega)];omega),yc (by omega)];exact⟨rfl,.inl rfl⟩
 ·by_cases h2:b<48\/57<b
  ·rw[yb h1,yc h2,yc (show(if a<48\/57<a\/b<48\/57<b then(-100000:Int) else _)<0 by rw[yc (by omega)];omega),yc (by omega)];exact⟨rfl,.inl rfl⟩
  ·rw[yb h1,yb h2,yb (by omega),yb (by omega)];exact⟨by omega,by omega⟩
def num4{a b c d:Int}(ha:0<=a/\a<=255)(hb:0<=b/\b<=255)(hc:0<=c/\c<=255)(hd:0<=d/\d<=255):qwy [a,b,c,d] 0=(if qp6 a b<0\/qp6 c d<0 then -1 else 100*qp6 a b+qp6 c d):=by
 unfold qp6 qwy qwy qwy qwy qwy;by_cases h1:a<48\/57<a
 ·rw[yc h1,yc (.inl (by rw[yc (by omega)];omega))]
 ·by_cases h2:b<48\/57<b
  ·rw[yb h1,yc h2,yc (.inl (by rw[yc (by omega)];omega))]
  ·by_cases h3:c<48\/57<c
   ·rw[yb h1,yb h2,yc h3,yc (show c<48\/57<c\/d<48\/57<d by omega),yc (by omega)]
   ·by_cases h4:d<48\/57<d
    ·rw[yb h1,yb h2,yb h3,yc h4,yc (show c<48\/57<c\/d<48\/57<d by omega),yc (by omega)]
    ·rw[yb h1,yb h2,yb h3,yb h4,yb (show ¬(a<48\/57<a\/b<48\/57<b) by omega),yb (show ¬(c<48\/57<c\/d<48\/57<d) by omega),yb (by omega)];omega
def qkl(s:ByteArray){k:Nat}(h:k+2<=s.size):bytesOf (s.extract k (k+2))=[bget s k,bget s (k+1)]:=by
 have hz:(s.extract k (k+2)).size=2:=by rw[zdf];omega
 have h0:=qeo (s.extract k (k+2)) (i:=0) (by omega);have h1:=qeo (s.extract k (k+2)) (i:=1) (by omega);rw[zbr] at h0;rw[h0,h1,zbl (by rw[qgi];omega),qdr s (by omega) (by omega) h,qdr s (by omega) (by omega) h];simp
def xbd6(s:ByteArray)(h:4<=s.size):bytesOf (s.extract 0 4)=[bget s 0,bget s 1,bget s 2,bget s 3]:=by
 have hz:(s.extract 0 4).size=4:=by rw[zdf];omega
 have h0:=qeo (s.extract 0 4) (i:=0) (by omega);have h1:=qeo (s.extract 0 4) (i:=1) (by omega);have h2:=qeo (s.extract 0 4) (i:=2) (by omega);have h3:=qeo (s.extract 0 4) (i:=3) (by omega);rw[zbr] at h0;rw[h0,h1,h2,h3,zbl (by rw[qgi];omega),qdr s (by omega) (by omega) h,qdr s (by omega) (by omega) h,qdr s (by omega) (by omega) h,qdr s (by omega) (by omega) h];simp
def xbsm{D01 D23 D4 D6 D8 D10 D12:Int}(v01:D01= -100000\/0<=D01/\D01<=99)(v23:D23= -100000\/0<=D23/\D23<=99)(v4:D4= -100000\/0<=D4/\D4<=99)(v6:D6= -100000\/0<=D6/\D6<=99)(v8:D8= -100000\/0<=D8/\D8<=99)(v10:D10= -100000\/0<=D10/\D10<=99)(v12:D12= -100000\/0<=D12/\D12<=99){y m d h i c:Int}(ey:y=if D01<0\/D23<0 then -1 else 100*D01+D23)(em:m=if D4<0 then -1 else D4)(ed:d=if D6<0 then -1 else D6)(eh:h=if D8<0 then -1 else D8)(ei:i=if D10<0 then -1 else D10)(ec:c=if D12<0 then -1 else D12):
  (qqv (D23+100*D01) D4 D6 D8 D10 D12=true/\qqv y m d h i c=true/\y=D23+100*D01/\m=D4/\d=D6/\h=D8/\i=D10/\c=D12)\/(qqv (D23+100*D01) D4 D6 D8 D10 D12=false/\qqv y m d h i c=false):=by
 cases hf:qqv (D23+100*D01) D4 D6 D8 D10 D12 with
 | true=>
  left;obtain⟨⟨a1,a2,a3,a4⟩,⟨a5,a6⟩,a7,a8,a9,a10,a11,a12⟩:=qor hf;have e1:y=D23+100*D01:=by rw[ey,yb (by omega)];omega
  have e2:m=D4:=by rw[em,yb (by omega)]
  have e3:d=D6:=by rw[ed,yb (by omega)]
  have e4:h=D8:=by rw[eh,yb (by omega)]
  have e5:i=D10:=by rw[ei,yb (by omega)]
  have e6:c=D12:=by rw[ec,yb (by omega)]
  exact⟨rfl,by rw[e1,e2,e3,e4,e5,e6,hf],e1,e2,e3,e4,e5,e6⟩
 | false=>
  right;refine⟨rfl, ?_⟩
  cases hg:qqv y m d h i c with
  | false=>rfl
  | true=>
   exfalso;obtain⟨⟨a1,a2,a3,a4⟩,⟨a5,a6⟩,a7,a8,a9,a10,a11,a12⟩:=qor hg;have e1:y=D23+100*D01:=by split at ey<;>omega
   have e2:m=D4:=by split at em<;>omega
   have e3:d=D6:=by split at ed<;>omega
   have e4:h=D8:=by split at eh<;>omega
   have e5:i=D10:=by split at ei<;>omega
   have e6:c=D12:=by split at ec<;>omega
   rw[<- e1, <- e2, <- e3, <- e4, <- e5, <- e6,hg] at hf;cases hf
def xb7j(s:ByteArray)(hp:true=true):xby0 s=zR [.cl (.int .i64 (qp7 s).1),.cl (.int .i64 (qp7 s).2)] []:=by
 unfold xby0 qp7;refine qa0 (fun h=> ?_) fun h=>qaq (by omega) ?_
 ·rw[yb (by omega)]
 have hs:s.size=15:=by omega
 have sz: ∀k n:Nat,k+n<=15->(s.extract k (k+n)).size=n:=fun k n hk=>by rw[zdf];omega
 have z0:=sz 0 4 (by omega);have z4:=sz 4 2 (by omega);have z6:=sz 6 2 (by omega);have z8:=sz 8 2 (by omega);have z10:=sz 10 2 (by omega);have z12:=sz 12 2 (by omega);have b:=qkh s;have n0:qet (s.extract 0 4)=_:=(congrArg (qwy · 0) (xbd6 s (by omega))).trans (num4 (b 0) (b 1) (b 2) (b 3));have n4:qet (s.extract 4 6)=_:=(congrArg (qwy · 0) (qkl s (k:=4) (by omega))).trans (num2 (b 4) (b 5)).1;have n6:qet (s.extract 6 8)=_:=(congrArg (qwy · 0) (qkl s (k:=6) (by omega))).trans (num2 (b 6) (b 7)).1;have n8:qet (s.extract 8 10)=_:=(congrArg (qwy · 0) (qkl s (k:=8) (by omega))).trans (num2 (b 8) (b 9)).1;have n10:qet (s.extract 10 12)=_:=(congrArg (qwy · 0) (qkl s (k:=10) (by omega))).trans (num2 (b 10) (b 11)).1;have n12:qet (s.extract 12 14)=_:=(congrArg (qwy · 0) (qkl s (k:=12) (by omega))).trans (num2 (b 12) (b 13)).1;have same:=xbsm (num2 (b 0) (b 1)).2 (num2 (b 2) (b 3)).2 (num2 (b 4) (b 5)).2 (num2 (b 6) (b 7)).2 (num2 (b 8) (b 9)).2 (num2 (b 10) (b 11)).2 (num2 (b 12) (b 13)).2 n0 n4 n6 n8 n10 n12;extract_lets x1 s2 r3 s4 r5 s6 r7 s8 r9 s10 r11 s12 r13 r14 r15 x16 x17 y m d hh i c;refine qa0 (fun h=> ?_) fun h1=> ?_
 ·rw[yb fun e=>h e.2]
 rw[yc ⟨hs,h1⟩];have z0:s2.size=4:=z0;have z4:s4.size=2:=z4;have z6:s6.size=2:=z6;have z8:s8.size=2:=z8;have z10:s10.size=2:=z10;have z12:s12.size=2:=z12;refine qaq (by omega) (qaq (by omega) (qaq (by omega) (qaq (by omega) (qaq (by omega) (qaq (by omega) (qaq (by omega) (qaq (by omega) (qaq (by omega) (qaq (by omega) (qaq (by omega) (qaq (by omega) ?_)))))))))));have same:(qqv y m d hh i c=true/\qqv r3 r5 r7 r9 r11 r13=true/\r3=y/\r5=m/\r7=d/\r9=hh/\r11=i/\r13=c)\/(qqv y m d hh i c=false/\qqv r3 r5 r7 r9 r11 r13=false):=same;have e14:r14=qkc r3 r5:=rfl;have e15:r15=qff r3:=rfl;have e16:x16=i64.wrap (r7 - 1):=rfl;have e17:x17=i64.wrap (r15+x16):=rfl
 clear_value r14 r15 x16 x17 r3 r5 r7 r9 r11 r13 y m d hh i c s2 s4 s6 s8 s10 s12 x1
 clear n0 n4 n6 n8 n10 n12 z0 z4 z6 z8 z10 z12 b sz h1 hs h;rcases same with⟨hf,hg,rfl,rfl,rfl,rfl,rfl,rfl⟩|⟨hf,hg⟩
 ·rw[yc hf];obtain⟨⟨a1,a2,a3,a4⟩,⟨a5,a6⟩,a7,a8,a9,a10,a11,a12⟩:=qor hf;have hmo:qkc r3 r5=qj1 r3 r5:=by unfold qkc;rw[yc (by omega)]
  have hr:=qus r3 r5;have hy:0<=qff r3/\qff r3<=3652059:=by unfold qff;omega
  have e16:x16=r7 - 1:=e16.trans (i64_in _ (by omega));have e17:x17=qff r3+(r7 - 1):=e17.trans ((i64_in _ (by omega)).trans (by rw[e15,e16]));refine qca (by omega) (qca (by omega) (qca (by omega) (qca (by omega) (qca (by omega) (qca (by omega) (qca (by omega) (qca (by omega) (qam (by simp only[stOk,yd];omega) ?_))))))));rw[qab,e17];refine(xbz9 (fun _ _ y20 y21 y22 y23=>
            let x27:Int:=i64.wrap (y23*86400);let x28:Int:=i64.wrap (((-62135596800):Int)+x27);let x29:Int:=i64.wrap (y20*3600);let x30:Int:=i64.wrap (y21*60);let x31:Int:=i64.wrap (x29+x30);let x32:Int:=i64.wrap (x31+y22);let x33:Int:=i64.wrap (x28+x32)
            zR [.cl (.int .i64 x33),.cl (.int .i64 0)] []) ⟨a1,a2⟩ ⟨a3,a4⟩ FUEL _ 1 (by omega) (by omega) (by unfold FUEL;omega) (by omega) (by omega)).trans ?_
  rw[xbb4];have hA:0<=qey r3 r5/\qey r3 r5<=335:=by refine⟨?_, ?_⟩<;>(unfold qey;split<;>(try split)<;>omega)
  extract_lets x27 x28 x29 x30 x31 x32 x33;have e27:x27=(qff r3+(r7 - 1)+qey r3 r5 - 0)*86400:=i64_in _ (by omega);have e28:x28= -62135596800+x27:=i64_in _ (by omega);have e29:x29=r9*3600:=i64_in _ (by omega);have e30:x30=r11*60:=i64_in _ (by omega);have e31:x31=x29+x30:=i64_in _ (by omega);have e32:x32=x31+r13:=i64_in _ (by omega);have e33:x33=x28+x32:=i64_in _ (by omega);have e:x33=qvl r3 r5 r7 r9 r11 r13:=by unfold qvl;rw[e33,e28,e27,e32,e31,e29,e30];omega
  rw[e]
 ·rw[yb (by rw[hf];simp)];have hg': ¬((1<=r3/\r3<=9999/\1<=r5/\r5<=12)/\(1<=r7/\r7<=qj1 r3 r5)/\0<=r9/\r9<24/\0<=r11/\r11<60/\0<=r13/\r13<60):=by unfold qqv at hg;simpa only [decide_eq_false_iff_not] using hg
  have hmo:qkc r3 r5=if 1<=r3/\r3<=9999/\1<=r5/\r5<=12 then qj1 r3 r5 else 0:=rfl
  refine qae (fun h=>rfl) fun g1=>qae (fun h=>rfl) fun g2=>qae (fun h=>rfl) fun g3=>qae (fun h=>rfl) fun g4=>qae (fun h=>rfl) fun g5=>qae (fun h=>rfl) fun g6=>qae (fun h=>rfl) fun g7=>qae (fun h=>rfl) fun g8=> ?_;exfalso;apply hg';rw[e14] at g2;split at hmo<;>omega
open IntWalk (i64_in u8_in u32_in u64_in i64_quo u8_quo rem_in)
def qkj{x:Int}(h:xbkd x=true):0<=x/\x<=255:=ye h
def qak{b:LI}(h:qad b=true):b.length<=1000000/\∀x∈b,0<=x/\x<=255:=by unfold qad at h;rw[qab] at h;simp only[zab,yd,zai] at h;exact⟨h.1,fun x hx=>qkj (h.2 x hx)⟩
def qbt{b:LI}(h:b.length<=1000000)(h': ∀x∈b,0<=x/\x<=255):qad b=true:=by unfold qad;rw[qab];simp only[zab,yd,zai];exact⟨h,fun x hx=>yf (h' x hx)⟩
def qpe{a b:LI}(h:qad b=true)(hl:a.length<=b.length)(hs: ∀x∈a,x∈b):qad a=true:=
 let ⟨h1,h2⟩:=qak h;qbt (by omega) fun x hx=>h2 x (hs x hx)
def qba{b:LI}(h:qad b=true)(n:Nat):qad (b.drop n)=true:=qpe h (by simp) fun x hx=>zb6 hx
def qgx{b:LI}(h:qad b=true)(n:Nat):qad (b.take n)=true:=qpe h (by simp;omega) fun x hx=>zbh hx
def qbu{b:LI}(h:qad b=true):qad b.tail=true:=qpe h (by simp) fun x hx=>List.mem_of_mem_tail hx
def qa5{b:LI}(h:qad b=true){i:Nat}{x:Int}(hx:b[i]? =some x):0<=x/\x<=255:=(qak h).2 x (zad hx)
def qf1{b:LI}(h:qdu b=true):b.length<=100000000:=by unfold qdu at h;rw[qab] at h;exact ye h
def qku{b:LI}(h:b.length<=100000000):qdu b=true:=by unfold qdu;rw[qab];exact yf h
def qbz{α:Type}{b:List α}{i:Nat}(h:i<b.length): ∃x,b[i]? =some x:=⟨_,zag h⟩
def xb0i(tag:Int)(hp:true=true):xbn9 tag=zB (qbn tag):=by
 unfold xbn9 qbn qav;rw[qab];simp only[zc6]
 repeat' split
 all_goals (refine qa7 ?_;rw[zbn];simp only[yd,true_iff,zan,false_iff];omega)
def xb06(tag:Int)(hp:true=true):xboo tag=zB (qbn tag):=by
 unfold xboo qbn qav;rw[qab];simp only[zc6]
 repeat' split
 all_goals (refine qa7 ?_;rw[zbn];simp only[yd,true_iff,zan,false_iff];omega)
def xb0l(tag:Int)(hp:true=true):xboa tag=zB (qep tag):=by
 unfold xboa qep qbg qbn;simp only[qab,zc6];cases qav tag
 all_goals simp only[cond_true,cond_false]
 all_goals repeat' split
 all_goals (refine qa7 ?_;rw[zbn];(try simp only[zbx,yd,or_true,true_or,zan,false_or,Bool.true_eq,true_iff,false_iff]);(try omega))
def xbuu(tag:Int)(hp:true=true):xbfp tag=zB (qep tag):=by
 unfold xbfp qep qbg qbn;simp only[qab,zc6];cases qav tag
 all_goals simp only[cond_true,cond_false]
 all_goals repeat' split
 all_goals (refine qa7 ?_;rw[zbn];(try simp only[zbx,yd,or_true,true_or,zan,false_or,Bool.true_eq,true_iff,false_iff]);(try omega))
def xbls(n:Int)(hp:true=true):q7l n=zI (qcn n):=by
 unfold q7l qcn qau;simp only[qab,zc6]
 repeat' split
 all_goals rfl
def xb7b(b:LI)(i:Int)(hp:decide (0<=i)=true):xbyv b i=zB (u8Cont b i):=by
 have hp:=ye hp;unfold xbyv u8Cont u8At;simp only[qab];refine qae (fun h=>qaq hp (qaq h ?_)) fun h=>qa7 ?_
 ·obtain⟨x,hx⟩:=qbz (b:=b) (i:=i.toNat) (by omega);rw[hx,zak];refine qa7 ?_;rw[zbn];simp only[yd];rw[zbk _ (by omega)];omega
 ·rw[zbi (by omega)]
def q9o(o:LI):o.length<2/\qbx o=false\/∃x y r,o=x::y::r:=by
 match o with
 | []=>exact .inl ⟨by simp,rfl⟩
 | [x]=>exact .inl ⟨by simp,rfl⟩
 | x::y::r=>exact .inr ⟨x,y,r,rfl⟩
def xcap(o:LI)(hp:true=true):xb86 o=zB (qk8 o):=by
 unfold xb86 qk8;simp only[qab,zc6];rcases q9o o with⟨h,e⟩|⟨x,y,r,rfl⟩
 ·rw[yc (by omega),e]
 ·simp only[zar,za2,zak,zac,qbx]
  repeat' split
  all_goals first
   | (refine qa7 ?_;rw[zbn];simp only[zab,zbx,yd,zan,false_iff,true_iff];omega)
   | omega
def xb7a(o:LI)(hp:true=true):xbyu o=zB (qk8 o):=by
 unfold xbyu qk8;simp only[qab];rcases q9o o with⟨h,e⟩|⟨x,y,r,rfl⟩
 ·exact qaq (by omega) (qa7 e.symm)
 ·simp only[zar,za2,zak,zac,qbx]
  repeat' (refine qae (fun _=> ?_) fun _=> ?_)
  all_goals first
   | (refine qa7 ?_;rw[zbn];simp only[zab,zbx,yd,zan,false_iff,true_iff];omega)
   | omega
def xbua(b:LI)(hp:qad b=true):xbew b=zB (qgk b):=by
 unfold xbew qgk;rw[qab]
 match b,hp with
 | [],_=>rfl
 | [x],_=>rfl
 | x::y::r,hp=>
  have hx:=qa5 hp (i:=0) (x:=x) rfl;have hy:=qa5 hp (i:=1) (x:=y) rfl;simp only[zar,za2,zak,zac,qdt];rw[show u64.wrap x=x from u64_in _ (by omega),show u64.wrap y=y from u64_in _ (by omega),show u64.wrap (x*2 ^ 1)=x*2 from(u64_in _ (by omega)).trans (by omega),
   show Int.fdiv y (2 ^ 7)=y/ 128 from zbk _ (by omega)]
  have hor:((BitVec.ofInt 64 (x*2)||| BitVec.ofInt 64 (y/ 128)).toNat:Int)=x*2+y/ 128:=by
   have h2:y/ 128=0\/y/ 128=1:=by omega
   obtain⟨n,rfl⟩: ∃n:Nat,x=n:=⟨x.toNat,by omega⟩;have hn:n<256:=by omega
   rcases h2 with h2|h2
   ·rw[h2];simp[zcs];omega
   ·rw[h2,zdv];simp only[zcs];have: ∀n:Fin 256,((((n.val:Int)*2 % (2 ^ 64:Nat)).toNat||| ((1:Int) % (2 ^ 64:Nat)).toNat:Nat):Int)=(n.val:Int)*2+1:=by decide+kernel
    exact this ⟨n,hn⟩
  rw[hor,show u64.wrap (x*2+y/ 128)=x*2+y/ 128 from u64_in _ (by omega)];simp only[zc6];rw[yb (by omega),yc (by omega),yc (by omega)];refine qa0 (fun h=>qa7 ?_) fun h=>qa7 ?_
  ·rw[zbn];simp only[zab,zal,decide_eq_false_iff_not];omega
  ·rw[zbn];simp only[zab,zal,decide_eq_false_iff_not,zan,false_iff];omega
def xbuq(b:LI)(hp:qad b=true):xbfl b=zB (qgk b):=by
 unfold xbfl qgk;rw[qab]
 match b,hp with
 | [],_=>rfl
 | [x],_=>rfl
 | x::y::r,hp=>
  have hx:=qa5 hp (i:=0) (x:=x) rfl;have hy:=qa5 hp (i:=1) (x:=y) rfl;simp only[zar,za2,zak,zac,qdt,zc6,Bool.cond_not]
  repeat' split
  all_goals first
   | omega
   | (refine qa7 ?_;rw[zbn];simp only[zab,zal,decide_eq_false_iff_not,zan,false_iff,true_iff];omega)
def xbul(n:Int)(hp:u32Ok n=true):xbfe n=zR [.cl (.sli .u32 (qhc n))] []:=by
 unfold u32Ok at hp;rw[qab] at hp;have hp:=ye hp;unfold xbfe qhc qb5;simp only[qab];refine qae (fun h=> ?_) fun h=> ?_
 ·rw[yc h,show u64.wrap (Int.tdiv n 40)=n/ 40 by rw[zcd (by omega)];exact u64_in _ (by omega),zce (by omega),
   show u32.wrap (n/ 40)=n/ 40 from u32_in _ (by omega),show u32.wrap (n % 40)=n % 40 from u32_in _ (by omega)]
 ·rw[yb h,show u64.wrap (n - 80)=n - 80 from u64_in _ (by omega),show u32.wrap (n - 80)=n - 80 from u32_in _ (by omega)]
def xb1e(b:LI)(hp:qdu b=true):xbot b=zR [.cl (.sli .u8 b)] []:=by
 have hp:=qf1 hp;unfold xbot;simp only[za9];refine qc5 (fun h=> ?_) fun h=> ?_
 ·have h:=zaj (qag.1 h);subst h;unfold xbr4;rw[yc (Eq.symm (qc4 (by simp) (qc4 (by simp) rfl)))]
 ·exact qc4 (by omega) (qc4 (by omega) rfl)
open IntWalk (i64_in u8_in u32_in u64_in i64_quo u8_quo rem_in)
def qd5{b:LI}{i:Nat}{x:Int}(h:b[i]? =some x):b.drop i=x::b.drop (i+1):=by obtain⟨hlt,e⟩:=zae.1 h;rw[zb0 hlt,e]
def qe3{α:Type}{b:List α}{i:Nat}(h:b.length<=i):b.drop i=[]:=zbl h
def xbp3(a b:LI)(hl:a.length=b.length)(hb:a.length<=100000000): ∀(f i:Nat),i<=a.length->a.length<f+i->
  qk1 (fun _ _ _ _ _ _ _ _ _ _ _ _ _ _ _ _=>zB false) (fun _ _ _ _ _ _=>zB true) f a b i=zB (decide (a.drop i=b.drop i))
 | 0,i,hi,hf=>by omega
 | f+1,i,hi,hf=>by
  show ql0 (qk1 (fun _ _ _ _ _ _ _ _ _ _ _ _ _ _ _ _=>zB false) (fun _ _ _ _ _ _=>zB true) f) (fun _ _ _ _ _ _ _ _ _ _ _ _ _ _ _ _=>zB false) (fun _ _ _ _ _ _=>zB true) a b i=_;unfold ql0;refine qae (fun h=> ?_) fun h=> ?_
  ·obtain⟨x,hx⟩:=qbz (b:=a) (i:=i) (by omega);obtain⟨y,hy⟩:=qbz (b:=b) (i:=i) (by omega);refine qaq (by omega) (qaq h ?_);rw[show(i:Int).toNat=i from rfl,hx,zak];refine qaq (by omega) (qaq (by omega) ?_);rw[hy,zak];rw[qd5 hx,qd5 hy];refine qa0 (fun hne=>qa7 ?_) fun he=> ?_
   ·simp[hne]
   ·subst he;rw[show i64.wrap ((i:Int)+1)=((i+1:Nat):Int) from(i64_in _ (by omega)).trans (by omega)];refine(xbp3 a b hl hb f (i+1) (by omega) (by omega)).trans (qa7 ?_);simp
  ·refine qa7 ?_;rw[qe3 (by omega),qe3 (by omega)];simp
def xb02(a b:LI)(hp:qdu a=true):xbok a b=zB (qcr a b):=by
 have hp:=qf1 hp;unfold xbok qcr qny;simp only[qab];refine qa0 (fun h=>qa7 ?_) fun h=> ?_
 ·rw[eq_comm,decide_eq_false_iff_not];intro e;subst e;exact h rfl
 ·exact xbp3 a b (by omega) hp FUEL 0 (by omega) (by unfold FUEL;omega)
def xbkt(b:LI)(hb: ∀x∈b,0<=x/\x<=255): ∀(n:Int) (k:Nat),0<=n->n<256 ^ k->0<=b.foldl (fun n x=>n*256+x) n/\b.foldl (fun n x=>n*256+x) n<256 ^ (k+b.length):=by
 induction b with
 | nil=>intro n k h0 h1;exact⟨h0,h1⟩
 | cons x r ih=>
  intro n k h0 h1;have hx:=hb x (by simp);have:=ih (fun y hy=>hb y (by simp[hy])) (n*256+x) (k+1) (by omega) (by rw[zc3];omega);simp only[zbm,zac];rw[show k+(r.length+1)=k+1+r.length by omega];exact this
def qsy{b:LI}(hb: ∀x∈b,0<=x/\x<=255):0<=qar b/\qar b<256 ^ b.length:=by have:=xbkt b hb 0 0 (by omega) (by decide);rwa [zay] at this
def xb1q(b:LI)(hb: ∀x∈b,0<=x/\x<=255)(hl:b.length<=7): ∀(f i:Nat) (n:Int),i<=b.length->b.length<f+i->0<=n->n<256 ^ i->
  qn3 (fun _ y2 _ _ _ _=>zR [.cl (.int .u64 y2)] []) f b n i=zR [.cl (.int .u64 ((b.drop i).foldl (fun n x=>n*256+x) n))] []
 | 0,i,n,hi,hf,_,_=>by omega
 | f+1,i,n,hi,hf,h0,h1=>by
  show qn4 (qn3 (fun _ y2 _ _ _ _=>zR [.cl (.int .u64 y2)] []) f) (fun _ y2 _ _ _ _=>zR [.cl (.int .u64 y2)] []) b n i=_;unfold qn4;have hh:((256:Int) ^ i)=((256 ^ i:Nat):Int):=by rw[zdo];rfl
  have h3:(256 ^ i:Nat)<=72057594037927936:=zcb (zcu (by omega) (show i<=7 by omega)) (by decide);have h2:n<72057594037927936:=by rw[hh] at h1;generalize 256 ^ i=z at*;omega
  refine qae (fun h=> ?_) fun h=> ?_
  ·obtain⟨x,hx⟩:=qbz (b:=b) (i:=i) (by omega);have hxr:=hb x (zad hx);extract_lets x1 x5;refine qaq (by omega) (qaq h ?_);rw[show(i:Int).toNat=i from rfl,hx,zak,qd5 hx,zbm];extract_lets x3 x4;have e1:x1=n*256:=u64_in _ (by omega);have e3:x3=x:=u64_in _ (by omega);have e4:x4=n*256+x:=(u64_in (x1+x3) (by omega)).trans (by omega);have e5:x5=((i+1:Nat):Int):=(i64_in _ (by omega)).trans (by omega);rw[e4,e5];exact xb1q b hb hl f (i+1) _ (by omega) (by omega) (by omega) (by rw[zc3];omega)
  ·rw[qe3 (by omega)];rfl
def xb69(b:LI)(hp:(qad b&&decide (b.length<=7))=true):xbyt b=zR [.cl (.int .u64 (qhy b))] []:=by simp only[zab,yd] at hp;unfold xbyt qhy;simp only[qab];exact xb1q b (qak hp.1).2 hp.2 FUEL 0 0 (by omega) (by unfold FUEL;omega) (by omega) (by decide)
def xbt8(e:Int)(hp:true=true):xbsy e=zR [] []:=rfl
def xbt9(e:Int)(hp:true=true):xbsz e=some (.pan (.iface 85 (.agg [.int .i64 e])) []):=rfl
def xb6o(l:LI)(d:Int)(hp:qad l=true):xbyg l d=(Tree.ite (l.isEmpty) (.leaf (.pan (.iface 85 (.agg [.int .i64 1])) [some ⟨.var [.cl (.sli .u8 l),.cl (.int .i64 d)],false⟩])) (.leaf (.ret [.cl (.int .i64 (l.headD 0))] [some ⟨.var [.cl (.sli .u8 l.tail),.cl (.int .i64 d)],false⟩]))).eval:=by
 unfold xbyg
 match l,hp with
 | [],_=>rfl
 | x::r,hp=>
  have hx:=qa5 hp (i:=0) (x:=x) rfl;refine qaq (by simp only[zac];omega) (qaq (by simp only[zac];omega) ?_);simp only[zar,zak];refine qaq (by simp only[zac];omega) ?_;rw[show i64.wrap x=x from i64_in _ (by omega)];rfl
open IntWalk (i64_in u8_in u32_in u64_in i64_quo u8_quo rem_in)
def xb1w{n x:Int}(h0:0<=n)(h1:n<72057594037927936)(h2:0<=x)(h3:x<=255):((BitVec.ofInt 64 (n*256)||| BitVec.ofInt 64 x).toNat:Int)=n*256+x:=by
 obtain⟨a,rfl⟩: ∃a:Nat,n=a:=⟨n.toNat,by omega⟩;obtain⟨b,rfl⟩: ∃b:Nat,x=b:=⟨x.toNat,by omega⟩;rw[zdv];have e1:(BitVec.ofInt 64 ((a:Int)*256)).toNat=2 ^ 8*a:=by rw[zcs];omega
 have e2:(BitVec.ofInt 64 (b:Int)).toNat=b:=by rw[zcs];omega
 rw[e1,e2, <- Nat.two_pow_add_eq_or_of_lt (by omega:b<2 ^ 8)];omega
def qvw{r:LI}(hb: ∀x∈r,0<=x/\x<=255){j:Nat}(hj:j<=3):0<=qar (r.take j)/\qar (r.take j)<16777216:=by
 have h:=qsy (b:=r.take j) fun x hx=>hb x (zbh hx);refine⟨h.1, ?_⟩;have hl:(r.take j).length<=3:=by simp;omega
 have h3:(256 ^ (r.take j).length:Nat)<=16777216:=zcb (zcu (by omega) hl) (by decide);have hh:((256:Int) ^ (r.take j).length)=((256 ^ (r.take j).length:Nat):Int):=by rw[zdo];rfl
 have:=h.2;rw[hh] at this;omega
def xbur(b:LI)(hp:qad b=true):xbfm b=zR [.cl (.int .i64 (qhm b).1),.cl (.int .i64 (qhm b).2)] []:=by
 unfold xbfm qhm;simp only[qab]
 match b,hp with
 | [],_=>rfl
 | c::t,hp=>
  have hc:=qa5 hp (i:=0) (x:=c) rfl;have hl:=(qak hp).1;have ht:=(qak (qbu hp)).2;simp only[zbw] at ht;simp only[zac] at hl;simp only[zar,zak,zac,qac];refine qca (by omega) (qaq (by omega) (qae (fun h=>qaq (by omega) ?_) fun h=>qaq (by omega) ?_))
  ·rw[yc h,show i64.wrap c=c from i64_in _ (by omega)]
  ·rw[yb h];rw[show i64.wrap c=c from i64_in _ (by omega),show i64.wrap (c - 128)=c - 128 from i64_in _ (by omega),show i64.wrap (1+(c - 128))=1+(c - 128) from i64_in _ (by omega)];refine qae (fun h1=> ?_) fun h1=>qae (fun h2=> ?_) fun h2=>qae (fun h3=> ?_) fun h3=> ?_
   ·rw[yc (by omega)]
   ·rw[yc (by omega)]
   ·rw[yc (by omega)]
   ·rw[yb (by omega)];obtain⟨j,hj⟩: ∃j:Nat,c - 128=j:=⟨(c - 128).toNat,by omega⟩;have hdt:List.drop 1 (List.take (1+(c - 128)).toNat (c::t))=t.take j:=by rw[hj,show((1:Int)+(j:Int)).toNat=j+1 by omega,zb3,List.drop_one,zbw]
    rw[hdt];have hlen:(t.take j).length=j:=by simp;omega
    refine qaq (by omega) (qaq (by omega) (qam ?_ (qaq (by omega) ?_)))
    ·simp only[zab,yd];exact⟨qgx (qbu hp) j,by omega⟩
    ·obtain⟨y,t',rfl⟩: ∃y t',t=y::t':=by
      cases t with
      | nil=>simp at hlen;omega
      | cons y t'=>exact⟨y,t',rfl⟩
     simp only[za2,zar,zak];have hr:=qvw ht (j:=j) (by omega);rw[show(c - 128).toNat=j by omega];unfold qhy;simp only[qab];rw[show i64.wrap (qar (List.take j (y::t')))=qar (List.take j (y::t')) from i64_in _ (by omega)];refine qae (fun h4=> ?_) fun h4=>qae (fun h5=> ?_) fun h5=> ?_
     ·rw[yc (show(y::t').headD 0=0\/qar (List.take j (y::t'))<128 from .inl h4)]
     ·rw[yc (show(y::t').headD 0=0\/qar (List.take j (y::t'))<128 from .inr h5)]
     ·rw[yb (show ¬((y::t').headD 0=0\/qar (List.take j (y::t'))<128) from fun h=>h.elim h4 h5)]
def xbz1(k0:Int->Int->Int->Int->Int->Int->LI->Int->OO)(k1:Int->Int->Int->Int->LI->Int->OO)(F0:LI->Int->OO)(F1:Int->LI->Int->OO)(h0: ∀a b c d e f g h,k0 a b c d e f g h=F0 g h)(c cnt:Int)(h1: ∀b d e f,k1 c b cnt d e f=F1 b e f)(hcnt:cnt<=3):
  ∀(f i:Nat) (n:Int) (r:LI) (d:Int),qad r=true->(i:Int)<=cnt->cnt<f+i->0<=n->n<256 ^ i->
  qfo k0 k1 f c n cnt i r d=if(r.length:Int)<cnt - i then F0 [] d else F1 ((r.take (cnt - i).toNat).foldl (fun n x=>n*256+x) n) (r.drop (cnt - i).toNat) d
 | 0,i,n,r,d,hr,hi,hf,_,_=>by omega
 | f+1,i,n,r,d,hr,hi,hf,hn0,hn1=>by
  show qjk (qfo k0 k1 f) k0 k1 c n cnt i r d=_;unfold qjk;have hi3:i<=3:=by omega
  have h3:(256 ^ i:Nat)<=16777216:=zcb (zcu (by omega) hi3) (by decide);have hh:((256:Int) ^ i)=((256 ^ i:Nat):Int):=by rw[zdo];rfl
  have h4:n<16777216:=by rw[hh] at hn1;generalize 256 ^ i=z at*;omega
  refine qae (fun h=> ?_) fun h=> ?_
  ·cases r with
   | nil=>
    refine qam hr (qam rfl ?_);rw[h0,yc (by simp;omega)]
   | cons x r=>
    have hx:=qa5 hr (i:=0) (x:=x) rfl;extract_lets x4 r5 r6 x7 x8;have e4:x4=n*256:=(i64_in (n*2 ^ 8) (by omega)).trans (by omega);refine qam hr (qyh rfl ?_);have e7:x7=n*256+x:=by show i64.wrap ((BitVec.ofInt 64 x4||| BitVec.ofInt 64 x).toNat)=_;rw[e4,xb1w hn0 (by omega) hx.1 hx.2];exact i64_in _ (by omega)
    have e8:x8=((i+1:Nat):Int):=(i64_in ((i:Int)+1) (by omega)).trans (by omega);rw[e7,e8];refine(xbz1 k0 k1 F0 F1 h0 c cnt h1 hcnt f (i+1) _ r6 d (qbu hr) (by omega) (by omega) (by omega) (by rw[zc3];omega)).trans ?_;show(if(r.length:Int)<cnt - ((i+1:Nat):Int) then _ else F1 ((r.take (cnt - ((i+1:Nat):Int)).toNat).foldl _ _) (r.drop (cnt - ((i+1:Nat):Int)).toNat) d)=_;obtain⟨m,hm⟩: ∃m:Nat,(cnt - (i:Int)).toNat=m+1:=⟨(cnt - (i:Int)).toNat - 1,by omega⟩;have hm':(cnt - ((i+1:Nat):Int)).toNat=m:=by omega
    rw[hm,hm',zb3,zbm,zco];by_cases hlt:(r.length:Int)<cnt - ((i+1:Nat):Int)
    ·rw[yc hlt,yc (by simp;omega)]
    ·rw[yb hlt,yb (by simp;omega)]
  ·rw[h1,yb (by omega),show(cnt - (i:Int)).toNat=0 by omega];rfl
def xbtm{t:LI}(ht: ∀x∈t,0<=x/\x<=255){j:Nat}(hj:1<=j)(hj3:j<=3)(hl:j<=t.length):qau (qar (t.take j))=1+j↔ ¬(t.headD 0=0\/qar (t.take j)<128):=by
 have hall: ∀(i:Nat) (x:Int),t[i]? =some x->0<=x/\x<=255:=fun i x h=>ht x (zad h);unfold qau
 match j,hj,hj3,t,hl,hall with
 | 1,_,_,x::t,_,hall=>
  have:=hall 0 x rfl;simp only[zb3,zdz,qar,zbm,List.foldl_nil,zba]
  repeat' split
  all_goals omega
 | 2,_,_,x::y::t,_,hall=>
  have:=hall 0 x rfl;have:=hall 1 y rfl;simp only[zb3,zdz,qar,zbm,List.foldl_nil,zba]
  repeat' split
  all_goals omega
 | 3,_,_,x::y::z::t,_,hall=>
  have:=hall 0 x rfl;have:=hall 1 y rfl;have:=hall 2 z rfl;simp only[zb3,zdz,qar,zbm,List.foldl_nil,zba]
  repeat' split
  all_goals omega
 | 2,_,_,[x],hl,_=>simp at hl
 | 3,_,_,[x],hl,_=>simp at hl
 | 3,_,_,[x,y],hl,_=>simp at hl
def qb1(c:Int)(t:LI):qac (c::t)=if c<128 then(c,1) else if c=128\/131<c\/(t.length:Int)<c - 128 then(0,0)
  else if t.headD 0=0\/qar (t.take (c - 128).toNat)<128 then(0,0) else(qar (t.take (c - 128).toNat),1+(c - 128)):=rfl
def xbt7(l:LI)(d:Int)(hp:qad l=true):xbev l d=(Tree.ite (!(qqp l)) (.leaf (.pan (.iface 85 (.agg [.int .i64 1])) [some ⟨.var [.cl (.sli .u8 (qhx l)),.cl (.int .i64 d)],false⟩])) (.leaf (.ret [.cl (.int .i64 (qfc l).1)] [some ⟨.var [.cl (.sli .u8 (qfc l).2),.cl (.int .i64 d)],false⟩]))).eval:=by
 unfold xbev qqp qhx qfc;simp only[qab,Bool.not_not];refine qam hp ?_
 match l,hp with
 | [],_=>rfl
 | c::t,hp=>
  have hc:=qa5 hp (i:=0) (x:=c) rfl;have hl:=(qak hp).1;have ht:=(qak (qbu hp)).2;have hbt:=qbu hp;simp only[zbw] at ht hbt;simp only[zac] at hl;simp only[List.isEmpty_cons,cond_false,zba,zbw,cond_true];have hR:qlb (c::t)=if c=128\/131<c then t else t.drop (c - 128).toNat:=rfl
  refine qae (fun h=> ?_) fun h=> ?_
  ·have hD:qac (c::t)=(c,1):=by rw[qb1,yc h]
   rw[hD];rfl
  ·have hbad:(c=128\/131<c)->some (Out.pan (.iface 85 (.agg [.int .i64 1])) [some ⟨.var [.cl (.sli .u8 t),.cl (.int .i64 d)],false⟩])=(Tree.ite (decide ((qac (c::t)).2=0)) (.leaf (.pan (.iface 85 (.agg [.int .i64 1])) [some ⟨.var [.cl (.sli .u8 (qlb (c::t))),.cl (.int .i64 d)],false⟩])) (.leaf (.ret [.cl (.int .i64 (qac (c::t)).1)] [some ⟨.var [.cl (.sli .u8 ((c::t).drop (qac (c::t)).2.toNat)),.cl (.int .i64 d)],false⟩]))).eval:=fun hb=>by
    have hD:qac (c::t)=(0,0):=by rw[qb1,yb h,yc (show c=128\/131<c\/(t.length:Int)<c - 128 by omega)]
    rw[hD,hR,yc hb];rfl
   refine qae (fun h1=>qae (fun h2=> ?_) fun h2=>hbad (by omega)) fun h1=>hbad (by omega);rw[show i64.wrap (c - 128)=c - 128 from i64_in _ (by omega)];obtain⟨j,hj⟩: ∃j:Nat,c - 128=j:=⟨(c - 128).toNat,by omega⟩;have key:=xbz1 (fun _ _ _ _ _ _ y10 y11=>some (.pan (.iface 85 (.agg [.int .i64 1])) [some ⟨.var [.cl (.sli .u8 y10),.cl (.int .i64 y11)],false⟩]))
    (fun y12 y13 _ _ y16 y17=>cond (decide (qcn y13=i64.wrap (i64.wrap ((1:Int)+y12) - 128))) (zR [.cl (.int .i64 y13)] [some ⟨.var [.cl (.sli .u8 y16),.cl (.int .i64 y17)],false⟩]) (some (.pan (.iface 85 (.agg [.int .i64 1])) [some ⟨.var [.cl (.sli .u8 y16),.cl (.int .i64 y17)],false⟩])))
    (fun y10 y11=>some (.pan (.iface 85 (.agg [.int .i64 1])) [some ⟨.var [.cl (.sli .u8 y10),.cl (.int .i64 y11)],false⟩]))
    (fun y13 y16 y17=>cond (decide (qcn y13=i64.wrap (i64.wrap ((1:Int)+c) - 128))) (zR [.cl (.int .i64 y13)] [some ⟨.var [.cl (.sli .u8 y16),.cl (.int .i64 y17)],false⟩]) (some (.pan (.iface 85 (.agg [.int .i64 1])) [some ⟨.var [.cl (.sli .u8 y16),.cl (.int .i64 y17)],false⟩])))
    (fun _ _ _ _ _ _ _ _=>rfl) c (c - 128) (fun _ _ _ _=>rfl) (by omega) FUEL 0 0 t d hbt (by omega) (by unfold FUEL;omega) (by omega) (by decide)
   refine zdx key ?_;rw[show c - 128 - ((0:Nat):Int)=c - 128 by omega];simp only[show i64.wrap ((1:Int)+c)=1+c from i64_in _ (by omega),show i64.wrap (1+c - 128)=1+c - 128 from i64_in _ (by omega),show(c - 128).toNat=j by omega];by_cases h5:(t.length:Int)<c - 128
   ·have hD:qac (c::t)=(0,0):=by rw[qb1,yb h,yc (show c=128\/131<c\/(t.length:Int)<c - 128 by omega)]
    rw[yc h5,hD,hR,yb (show ¬(c=128\/131<c) by omega),qe3 (by omega)];rfl
   ·have hD:qac (c::t)=if t.headD 0=0\/qar (t.take j)<128 then(0,0) else(qar (t.take j),1+(c - 128)):=by rw[qb1,yb h,yb (show ¬(c=128\/131<c\/(t.length:Int)<c - 128) by omega),show(c - 128).toNat=j by omega]
    rw[yb h5];have hs:=xbtm ht (j:=j) (by omega) (by omega) (by omega);unfold qcn;simp only[qab];rw[show(t.take j).foldl (fun n x=>n*256+x) 0=qar (t.take j) from rfl];by_cases h6:t.headD 0=0\/qar (t.take j)<128
    ·rw[yc h6] at hD;rw[hD,hR,yb (show ¬(c=128\/131<c) by omega),show(c - 128).toNat=j by omega];refine qca (fun e=> ?_) rfl;exact hs.1 (by omega) h6
    ·rw[yb h6] at hD;rw[hD];refine qaq (by have:=hs.2 h6;omega) ?_;show _=(Tree.ite (decide (1+(c - 128)=0)) _ _).eval;rw[show(decide (1+(c - 128)=0))=false from decide_eq_false (by omega),show(1+(c - 128)).toNat=j+1 by omega,zco];rfl
open IntWalk (i64_in u8_in u32_in u64_in i64_quo u8_quo rem_in)
def xbxv(b:LI):decide (qbr [] b<0)=decide (0<b.length):=by
 cases b with
 | nil=>rfl
 | cons x r=>simp[qbr]
def xbsa(a:LI):decide (qbr a []<0)=false:=by
 cases a with
 | nil=>rfl
 | cons x r=>simp[qbr]
def xbpc(a b:LI)(hb:a.length<=100000000): ∀(f i:Nat),i<=a.length->i<=b.length->a.length<f+i->
  qk3 (fun _ _ y3 _ _ _ _ _ _ _ _ _ _ _ _ _ _ _ _ _ _ _ _ _ _ _ _ _ _ _ _ _ _=>zB y3) (fun y34 y35 _ _ _ _ _ _ _ _ _=>zB (decide ((y34.length:Int)<(y35.length:Int)))) (fun y45 y46 _ _ _ _ _=>zB (decide ((y45.length:Int)<(y46.length:Int)))) f a b i=
   zB (decide (qbr (a.drop i) (b.drop i)<0))
 | 0,i,hi,hi',hf=>by omega
 | f+1,i,hi,hi',hf=>by
  show ql3 (qk3 (fun _ _ y3 _ _ _ _ _ _ _ _ _ _ _ _ _ _ _ _ _ _ _ _ _ _ _ _ _ _ _ _ _ _=>zB y3) (fun y34 y35 _ _ _ _ _ _ _ _ _=>zB (decide ((y34.length:Int)<(y35.length:Int)))) (fun y45 y46 _ _ _ _ _=>zB (decide ((y45.length:Int)<(y46.length:Int)))) f) _ _ _ a b i=_;unfold ql3;refine qae (fun h=>qae (fun h'=> ?_) fun h'=>qa7 ?_) fun h=>qa7 ?_
  ·obtain⟨x,hx⟩:=qbz (b:=a) (i:=i) (by omega);obtain⟨y,hy⟩:=qbz (b:=b) (i:=i) (by omega);refine qaq (by omega) (qaq h ?_);rw[show(i:Int).toNat=i from rfl,hx,zak];refine qaq (by omega) (qaq h' ?_);rw[hy,zak,qd5 hx,qd5 hy];refine qa0 (fun hne=>qaq (by omega) (qaq h ?_)) fun he=> ?_
   ·rw[zak];refine qaq (by omega) (qaq h' ?_);rw[zak];refine qa7 ?_;unfold qbr;by_cases hlt:x<y
    ·rw[yc hlt];simp[hlt]
    ·rw[yb hlt,yc (by omega)];simp[hlt]
   ·subst he;rw[show i64.wrap ((i:Int)+1)=((i+1:Nat):Int) from(i64_in _ (by omega)).trans (by omega)];refine(xbpc a b hb f (i+1) (by omega) (by omega) (by omega)).trans (qa7 ?_)
    conv=>rhs;unfold qbr
    rw[yb (by omega),yb (by omega)]
  ·rw[qe3 (b:=b) (by omega),xbsa];exact decide_eq_false (by omega)
  ·rw[qe3 (b:=a) (by omega),xbxv,zas,zbn];simp only[yd];omega
def xb03(a b:LI)(hp:qdu a=true):xbol a b=zB (qe9 a b):=by unfold xbol qe9;simp only[qab];exact xbpc a b (qf1 hp) FUEL 0 (by omega) (by omega) (by have:=qf1 hp;unfold FUEL;omega)
def qmd{l:LC}(h:qhj l=true):l.length<=1000000/\∀(i:Nat) (e:CV),l[i]? =some e->∃x,e=.sli .u8 x/\qad x=true:=by
 unfold qhj at h;rw[qab] at h;simp only[zab,yd,zai] at h;refine⟨h.1,fun i e he=> ?_⟩;have:=h.2 e (zad he);unfold xb2j at this;split at this
 ·rename_i l';refine⟨l',rfl, ?_⟩;unfold rowB at this;simp only[zab,yd,zai] at this;exact qbt this.1 fun x hx=>qkj (this.2 x hx)
 ·cases this
def q3l{l:LC}{i:Nat}{a b:LI}(h1:l[i]? =some (.sli .u8 a))(h2:l[i+1]? =some (.sli .u8 b)):qa8 ((l.map qb8).drop i)=(decide (qbr a b<=0)&&qa8 ((l.map qb8).drop (i+1))):=by
 have e1:(l.map qb8)[i]? =some a:=by rw[zah,h1];rfl
 have e2:(l.map qb8)[i+1]? =some b:=by rw[zah,h2];rfl
 have d: ∀ {l:List LI} {i:Nat} {x:LI},l[i]? =some x->l.drop i=x::l.drop (i+1):=fun {l i x} h=>by obtain⟨hlt,e⟩:=zae.1 h;rw[zb0 hlt,e]
 rw[d e1,d e2];rfl
def q3k{l:LC}{i:Nat}(h:l.length<=i+1):qa8 ((l.map qb8).drop i)=true:=by
 have:((l.map qb8).drop i).length<=1:=by simp;omega
 match (l.map qb8).drop i,this with
 | [],_=>rfl
 | [_],_=>rfl
 | _::_::_,h=>simp at h
def xbeg: ∀(a b:LI),decide (qbr b a<0)= !(decide (qbr a b<=0))
 | [],[]=>rfl
 | [],_::_=>by simp[qbr]
 | _::_,[]=>by simp[qbr]
 | x::a,y::b=>by
  unfold qbr;by_cases h1:x<y
  ·rw[yc h1,yb (by omega),yc h1];simp
  ·by_cases h2:y<x
   ·rw[yc h2,yb h1,yc h2];simp
   ·rw[yb h1,yb h2,yb h2,yb h1];exact xbeg a b
def xb9n(l:LC)(hok:qhj l=true): ∀(f i:Nat),l.length<f+i->qg6 (fun _ _ _ _ _ _ _ _ _ _ _ _ _ _ _ _=>zB false) (fun _ _ _ _ _=>zB true) f l ((i+1:Nat):Int)=zB (qa8 ((l.map qb8).drop i))\/f=0
 | 0,i,hf=>.inr rfl
 | f+1,i,hf=>by
  left;obtain⟨hl,hr⟩:=qmd hok;show qhs (qg6 (fun _ _ _ _ _ _ _ _ _ _ _ _ _ _ _ _=>zB false) (fun _ _ _ _ _=>zB true) f) _ _ l ((i+1:Nat):Int)=_;unfold qhs;refine qae (fun h=>qaq (by omega) (qaq h ?_)) fun h=>qa7 ?_
  ·obtain⟨e1,he1⟩:=qbz (b:=l) (i:=i) (by omega);obtain⟨e2,he2⟩:=qbz (b:=l) (i:=i+1) (by omega);obtain⟨x,rfl,hx⟩:=hr _ _ he1;obtain⟨y,rfl,hy⟩:=hr _ _ he2;rw[show((i+1:Nat):Int).toNat=i+1 from rfl,he2,zak];refine qam rfl ?_;rw[show i64.wrap (((i+1:Nat):Int) - 1)=(i:Int) from(i64_in _ (by omega)).trans (by omega)];refine qaq (by omega) (qaq (by omega) ?_);rw[show(i:Int).toNat=i from rfl,he1,zak];refine qam rfl (qam (qku (by have:=(qak hy).1;show y.length<=_;omega)) ?_);show cond (qe9 y x) _ _=_;rw[q3l he1 he2];unfold qe9;rw[qab,xbeg x y]
   cases decide (qbr x y<=0) with
   | true=>
    simp only[zc7,cond_false,zbs];rw[show i64.wrap (((i+1:Nat):Int)+1)=((i+1+1:Nat):Int) from(i64_in _ (by omega)).trans (by omega)];exact(xb9n l hok f (i+1) (by omega)).resolve_right (by omega)
   | false=>rfl
  ·rw[q3k (by omega)]
def xblz(l:LC)(hp:qhj l=true):q7r l=zB (qbp l):=by unfold q7r qbp;simp only[qab];exact(xb9n l hp FUEL 0 (by have:=(qmd hp).1;unfold FUEL;omega)).resolve_right (by unfold FUEL;omega)
def xblr(a b:LI)(hp:(qad a&&qad b)=true):q7k a b=zI (qhr a b):=by unfold q7k;exact qam hp rfl
def xb66(a b:LI)(hp:(qad a&&qad b)=true):xbys a b=zB (decide (qhr a b<=0)):=by unfold xbys;exact qam hp rfl
def xb9l(l:LC)(hok:qhj l=true): ∀(f i:Nat),l.length<f+i->qkz (fun _ _ _ _ _ _ _ _ _ _ _ _ _ _ _ _ _=>zB false) (fun _ _ _ _ _=>zB true) f l ((i+1:Nat):Int)=zB (qa8 ((l.map qb8).drop i))\/f=0
 | 0,i,hf=>.inr rfl
 | f+1,i,hf=>by
  left;obtain⟨hl,hr⟩:=qmd hok;show qly (qkz (fun _ _ _ _ _ _ _ _ _ _ _ _ _ _ _ _ _=>zB false) (fun _ _ _ _ _=>zB true) f) _ _ l ((i+1:Nat):Int)=_;unfold qly;refine qae (fun h=> ?_) fun h=>qa7 ?_
  ·obtain⟨e1,he1⟩:=qbz (b:=l) (i:=i) (by omega);obtain⟨e2,he2⟩:=qbz (b:=l) (i:=i+1) (by omega);obtain⟨x,rfl,hx⟩:=hr _ _ he1;obtain⟨y,rfl,hy⟩:=hr _ _ he2;rw[show i64.wrap (((i+1:Nat):Int) - 1)=(i:Int) from(i64_in _ (by omega)).trans (by omega)];refine qaq (by omega) (qaq (by omega) ?_);rw[show(i:Int).toNat=i from rfl,he1,zak];refine qam rfl (qaq (by omega) (qaq h ?_));rw[show((i+1:Nat):Int).toNat=i+1 from rfl,he2,zak];refine qam rfl (qam (by show(qad x&&qad y)=true;rw[hx,hy];rfl) ?_);show cond (!(decide (qhr x y<=0))) _ _=_;rw[q3l he1 he2];unfold qhr;rw[qab]
   cases decide (qbr x y<=0) with
   | true=>
    simp only[zc7,cond_false,zbs];rw[show i64.wrap (((i+1:Nat):Int)+1)=((i+1+1:Nat):Int) from(i64_in _ (by omega)).trans (by omega)];exact(xb9l l hok f (i+1) (by omega)).resolve_right (by omega)
   | false=>rfl
  ·rw[q3k (by omega)]
def xb00(l:LC)(hp:qhj l=true):xboi l=zB (qbp l):=by unfold xboi qbp;simp only[qab];exact(xb9l l hp FUEL 0 (by have:=(qmd hp).1;unfold FUEL;omega)).resolve_right (by unfold FUEL;omega)
def xbuj(l:LC)(hp:qhj l=true):xbfc l=zB (qbp l):=by unfold xbfc;exact qam hp rfl
open IntWalk (i64_in u8_in u32_in u64_in i64_quo u8_quo rem_in)
def qfe(c:Int)(r:LI):qeg (c::r)=if c<128 then 1
  else if 194<=c/\c<=223/\u8At r 0=true then 2
  else if 224<=c/\c<=239/\u8At r 0=true/\u8At r 1=true/\(c=224->160<=r.headD 0)/\(c=237->r.headD 0<160) then 3
  else if 240<=c/\c<=244/\u8At r 0=true/\u8At r 1=true/\u8At r 2=true/\(c=240->144<=r.headD 0)/\(c=244->r.headD 0<144) then 4
  else 0:=rfl
set_option maxHeartbeats 4000000 in
def xb7k(b:LI)(i:Int)(hp:(qad b&&decide (0<=i/\i<b.length))=true):xby1 b i=zI (u8Rune b i):=by
 simp only[zab,yd] at hp;obtain⟨hb,hi0,hi1⟩:=hp;have hl:=(qak hb).1;obtain⟨c,hc⟩:=qbz (b:=b) (i:=i.toNat) (by omega);have hcr:=qa5 hb hc;have hdrop:=qd5 hc;have hat: ∀k:Nat,b[i.toNat+1+k]? =(b.drop (i.toNat+1))[k]? :=fun k=>by rw[zbv]
 generalize ht:b.drop (i.toNat+1)=t at*;have huc: ∀k:Nat,u8Cont b (i+((k+1:Nat):Int))=u8At t k:=fun k=>by unfold u8Cont u8At;rw[qab,show(i+((k+1:Nat):Int)).toNat=i.toNat+1+k by omega,hat]
 have w1:i64.wrap (i+1)=i+1:=i64_in _ (by omega);have w2:i64.wrap (i+2)=i+2:=i64_in _ (by omega);have w3:i64.wrap (i+3)=i+3:=i64_in _ (by omega);have u1:u8Cont b (i+1)=u8At t 0:=huc 0;have u2:u8Cont b (i+2)=u8At t 1:=huc 1;have u3:u8Cont b (i+3)=u8At t 2:=huc 2;unfold u8Rune;rw[qab,hdrop,qfe];unfold xby1 qho qf0;simp only[getK,idxK,qab,hc,zak,w1,w2,w3,u1,u2,u3];refine qaq hi0 (qaq hi1 (qaq (by omega) ?_))
 cases ha0:u8At t 0 with
 | false=>
  simp only[cond_false,zan,and_false,false_and,if_false]
  repeat' (refine qae (fun _=> ?_) fun _=> ?_)
  all_goals first
   | (refine qmu ?_;(repeat' split)<;>omega)
   | omega
 | true=>
  obtain⟨y,t',rfl⟩: ∃y t',t=y::t':=by
   cases t with
   | nil=>simp[u8At] at ha0
   | cons y t'=>exact⟨y,t',rfl⟩
  have hy:b[(i+1).toNat]? =some y:=by have:=hat 0;rw[show(i+1).toNat=i.toNat+1+0 by omega,this];rfl
  have hy1:i+1<b.length:=by have:=(zae.1 hy).1;omega
  simp only[cond_true,hy,zak,zba,true_and,and_true];refine qaq (by omega) ?_
  cases ha1:u8At (y::t') 1 with
  | false=>
   simp only[cond_false,zan,and_false,false_and,if_false]
   repeat' (refine qae (fun _=> ?_) fun _=> ?_)
   all_goals first
    | (refine qmu ?_;(repeat' split)<;>omega)
    | omega
  | true=>
   simp only[cond_true,true_and]
   cases ha2:u8At (y::t') 2 with
   | false=>
    simp only[cond_false,zan,and_false,false_and,if_false]
    repeat' (first|refine qae (fun _=> ?_) fun _=> ?_|refine qa0 (fun _=> ?_) fun _=> ?_)
    all_goals first
     | (refine qmu ?_;(repeat' split)<;>omega)
     | omega
   | true=>
    simp only[cond_true,true_and]
    repeat' (first|refine qae (fun _=> ?_) fun _=> ?_|refine qa0 (fun _=> ?_) fun _=> ?_)
    all_goals first
     | (refine qmu ?_;(repeat' split)<;>omega)
     | omega
def q6d(l:LI):0<=qeg l/\qeg l<=l.length/\(qeg l=0->∀c r,l=c::r-> ¬c<128):=by
 have hlt: ∀(l:LI) (k:Nat),u8At l k=true->k<l.length:=fun l k h=>by
  unfold u8At at h;split at h
  ·rename_i x hx;exact(zae.1 hx).1
  ·cases h
 cases l with
 | nil=>exact⟨by simp[qeg],by simp[qeg],fun _ c r h=>by cases h⟩
 | cons c r=>
  rw[qfe];by_cases h1:c<128
  ·rw[yc h1];exact⟨by omega,by simp;omega,fun h=>by omega⟩
  ·rw[yb h1];split
   ·rename_i h;have:=hlt _ _ h.2.2;exact⟨by omega,by simp only[zac];omega,fun h=>by omega⟩
   ·split
    ·rename_i h;have:=hlt _ _ h.2.2.2.1;exact⟨by omega,by simp only[zac];omega,fun h=>by omega⟩
    ·split
     ·rename_i h;have:=hlt _ _ h.2.2.2.2.1;exact⟨by omega,by simp only[zac];omega,fun h=>by omega⟩
     ·exact⟨by omega,by simp only[zac];omega,fun _ c' r' e=>by cases e;exact h1⟩
def q3t: ∀(n m:Nat) (l:LI),l.length<=n->l.length<=m->qj2 n l=qj2 m l
 | 0,0,l,_,_=>rfl
 | 0,m+1,l,h,_=>by have:l=[]:=zaj (by omega);subst this;simp[qj2]
 | n+1,0,l,_,h=>by have:l=[]:=zaj (by omega);subst this;simp[qj2]
 | n+1,m+1,l,h1,h2=>by
  unfold qj2;by_cases h:l=[]
  ·rw[yc h,yc h]
  ·rw[yb h,yb h];by_cases h0:qeg l=0
   ·rw[yc h0,yc h0]
   ·rw[yb h0,yb h0];have:=q6d l;exact q3t n m _ (by simp only[zas];omega) (by simp only[zas];omega)
def qlg(l:LI):qdd l=if l=[] then true else if qeg l=0 then false else qdd (l.drop (qeg l).toNat):=by
 unfold qdd
 cases l with
 | nil=>simp[qj2]
 | cons c r=>
  rw[yb (by simp)]
  conv=>lhs;rw[zac];unfold qj2
  rw[yb (by simp)];by_cases h0:qeg (c::r)=0
  ·rw[yc h0,yc h0]
  ·rw[yb h0,yb h0];have:=q6d (c::r);exact q3t _ _ _ (by simp only[zas,zac];omega) (zap _)
def xb4p(b:LI)(hb:qad b=true): ∀(f i:Nat),i<=b.length->b.length<f+i->
  qn7 (fun _ _ _ _ _ _ _ _ _ _=>zB false) (fun _ _ _ _ _=>zB true) f b i=zB (qdd (b.drop i))
 | 0,i,hi,hf=>by omega
 | f+1,i,hi,hf=>by
  show qn8 (qn7 (fun _ _ _ _ _ _ _ _ _ _=>zB false) (fun _ _ _ _ _=>zB true) f) _ _ b i=_;unfold qn8;have hl:=(qak hb).1;refine qae (fun h=>qam ?_ ?_) fun h=>qa7 ?_
  ·simp only[zab,yd];exact⟨hb,by omega,by omega⟩
  ·extract_lets r1 x2;have hr:=q6d (b.drop i);have e1:r1=qeg (b.drop i):=by show u8Rune b i=_;unfold u8Rune;rw[qab];rfl
   rw[zas] at hr;rw[qlg,yb (by intro e;have:=congrArg List.length e;simp at this;omega)];refine qae (fun h0=>qa7 ?_) fun h0=> ?_
   ·rw[yc (by omega)]
   ·rw[yb (by omega)];have e2:x2=((i+(qeg (b.drop i)).toNat:Nat):Int):=(i64_in ((i:Int)+r1) (by omega)).trans (by omega);rw[e2];refine(xb4p b hb f _ (by omega) (by omega)).trans ?_;rw[List.drop_drop]
  ·rw[qe3 (by omega)];rfl
def xb7l(b:LI)(hp:qad b=true):xby2 b=zB (u8Valid b):=by unfold xby2 u8Valid;simp only[qab];exact xb4p b hp FUEL 0 (by omega) (by have:=(qak hp).1;unfold FUEL;omega)
open IntWalk (i64_in u8_in u32_in u64_in i64_quo u8_quo rem_in)
def q8y{n:Nat}(h:n<2 ^ 64):(BitVec.ofInt 64 (n:Int)).toNat=n:=by rw[zcs];omega
def orN{a b:Nat}(ha:a<2 ^ 64)(hb:b<2 ^ 64):u64.wrap ((BitVec.ofInt 64 (a:Int)||| BitVec.ofInt 64 (b:Int)).toNat)=((a||| b:Nat):Int):=by rw[zdv,q8y ha,q8y hb];have:=zbd ha hb;exact u64_in _ (by omega)
def andN{a b:Nat}(ha:a<2 ^ 64)(hb:b<2 ^ 64):u64.wrap ((BitVec.ofInt 64 (a:Int)&&&BitVec.ofInt 64 (b:Int)).toNat)=((a&&&b:Nat):Int):=by rw[BitVec.toNat_and,q8y ha,q8y hb];have:a&&&b<=a:=Nat.and_le_left;exact u64_in _ (by omega)
def xb7t(b:LI)(hp:(qad b&&decide (8<=b.length))=true):xby7 b=zR [.cl (.int .u64 (u8Word b))] []:=by
 simp only[zab,yd] at hp;obtain⟨hb,hl⟩:=hp
 match b,hl,hb with
 | x0::x1::x2::x3::x4::x5::x6::x7::r,_,hb=>
  have r0:=qa5 hb (i:=0) (x:=x0) rfl;have r1:=qa5 hb (i:=1) (x:=x1) rfl;have r2:=qa5 hb (i:=2) (x:=x2) rfl;have r3:=qa5 hb (i:=3) (x:=x3) rfl;have r4:=qa5 hb (i:=4) (x:=x4) rfl;have r5:=qa5 hb (i:=5) (x:=x5) rfl;have r6:=qa5 hb (i:=6) (x:=x6) rfl;have r7:=qa5 hb (i:=7) (x:=x7) rfl;obtain⟨n0,rfl⟩: ∃n:Nat,x0=n:=⟨x0.toNat,by omega⟩;obtain⟨n1,rfl⟩: ∃n:Nat,x1=n:=⟨x1.toNat,by omega⟩;obtain⟨n2,rfl⟩: ∃n:Nat,x2=n:=⟨x2.toNat,by omega⟩;obtain⟨n3,rfl⟩: ∃n:Nat,x3=n:=⟨x3.toNat,by omega⟩;obtain⟨n4,rfl⟩: ∃n:Nat,x4=n:=⟨x4.toNat,by omega⟩;obtain⟨n5,rfl⟩: ∃n:Nat,x5=n:=⟨x5.toNat,by omega⟩;obtain⟨n6,rfl⟩: ∃n:Nat,x6=n:=⟨x6.toNat,by omega⟩;obtain⟨n7,rfl⟩: ∃n:Nat,x7=n:=⟨x7.toNat,by omega⟩;unfold xby7 u8Word xbqd;simp only[qab,zar,za2,zak,zac,List.getD_cons_zero,List.getD_cons_succ,Int.toNat_natCast];have w: ∀n:Nat,n<=255->u64.wrap (n:Int)=(n:Int):=fun n h=>u64_in _ (by omega);have sh: ∀(n k:Nat),n<=255->k<=56->u64.wrap ((n:Int)*2 ^ k)=((n*2 ^ k:Nat):Int):=fun n k h hk=>by
   have h2:2 ^ k<=2 ^ 56:=zcu (by omega) hk;have h3:n*2 ^ k<=255*2 ^ 56:=zdi h h2;have e:((n:Int)*2 ^ k)=((n*2 ^ k:Nat):Int):=by rw[Int.natCast_mul,zdo];rfl
   rw[e];exact u64_in _ (by omega)
  have lt: ∀(n k:Nat),n<=255->k<=56->n*2 ^ k<2 ^ 64:=fun n k h hk=>by have h2:2 ^ k<=2 ^ 56:=zcu (by omega) hk;have h3:n*2 ^ k<=255*2 ^ 56:=zdi h h2;omega
  have p0:n0<2 ^ 64:=by omega
  have p1:=zbd p0 (lt n1 8 (by omega) (by omega));have p2:=zbd p1 (lt n2 16 (by omega) (by omega));have p3:=zbd p2 (lt n3 24 (by omega) (by omega));have p4:=zbd p3 (lt n4 32 (by omega) (by omega));have p5:=zbd p4 (lt n5 40 (by omega) (by omega));have p6:=zbd p5 (lt n6 48 (by omega) (by omega));rw[w n0 (by omega),w n1 (by omega),w n2 (by omega),w n3 (by omega),w n4 (by omega),w n5 (by omega),w n6 (by omega),w n7 (by omega)];rw[sh n1 8 (by omega) (by omega),sh n2 16 (by omega) (by omega),sh n3 24 (by omega) (by omega),sh n4 32 (by omega) (by omega),sh n5 40 (by omega) (by omega),sh n6 48 (by omega) (by omega),sh n7 56 (by omega) (by omega)];rw[orN p0 (lt n1 8 (by omega) (by omega)),orN p1 (lt n2 16 (by omega) (by omega)),orN p2 (lt n3 24 (by omega) (by omega)),orN p3 (lt n4 32 (by omega) (by omega)),orN p4 (lt n5 40 (by omega) (by omega)),orN p5 (lt n6 48 (by omega) (by omega)),orN p6 (lt n7 56 (by omega) (by omega))];exact qaq (by omega) (qaq (by omega) (qaq (by omega) (qaq (by omega) (qaq (by omega) (qaq (by omega) (qaq (by omega) (qaq (by omega) rfl)))))))
def MASK:Nat:=9259542123273814144
def qk9{a b:Nat}:(a||| b)&&&MASK=0↔a&&&MASK=0/\b&&&MASK=0:=by
 rw[Nat.and_or_distrib_right];constructor
 ·intro h;have h1:a&&&MASK<=(a&&&MASK)||| (b&&&MASK):=Nat.left_le_or;have h2:b&&&MASK<=(a&&&MASK)||| (b&&&MASK):=Nat.right_le_or;omega
 ·rintro⟨h1,h2⟩;rw[h1,h2];rfl
def xbke: ∀k:Fin 8, ∀n:Fin 256,((n.val*2 ^ (8*k.val))&&&MASK=0)=(n.val<128):=by decide+kernel
def xbdx(k:Nat)(l:LI):Prop:=k<=l.length/\∀i x,i<k->l[i]? =some x->x<128
def qnk: ∀(k:Nat) (l:LI),xbdx k l->qdd (l.drop k)=qdd l
 | 0,l,_=>rfl
 | k+1,l,h=>by
  match l,h with
  | [],h=>have:=h.1;simp at this
  | c::r,h=>
   have hc:c<128:=h.2 0 c (by omega) rfl;rw[qlg (c::r),yb (by simp),qfe,yc hc,yb (by omega)];exact qnk k r ⟨by have:=h.1;simp at this;omega,fun i x hi hx=>h.2 (i+1) x (by omega) (by simpa using hx)⟩
def qj3{l:LI}(hb:qad l=true)(hl:8<=l.length): ∃N:Nat,u8Word l=N/\N<2 ^ 64/\(N&&&MASK=0->xbdx 8 l):=by
 unfold u8Word;rw[qab];refine⟨_,rfl, ?_,fun h=>⟨hl, ?_⟩⟩
 ·have hr: ∀i,(l.getD i 0).toNat<=255:=fun i=>by
   rw[za6]
   cases hx:l[i]? with
   | none=>simp
   | some x=>have:=qa5 hb hx;simp;omega
  have h0:=hr 0;have h1:=hr 1;have h2:=hr 2;have h3:=hr 3;have h4:=hr 4;have h5:=hr 5;have h6:=hr 6;have h7:=hr 7;exact zbd (zbd (zbd (zbd (zbd (zbd (zbd (by omega) (by omega)) (by omega)) (by omega)) (by omega)) (by omega)) (by omega)) (by omega)
 ·rw[qk9,qk9,qk9,qk9,qk9,qk9,qk9] at h;obtain⟨⟨⟨⟨⟨⟨⟨a0,a1⟩,a2⟩,a3⟩,a4⟩,a5⟩,a6⟩,a7⟩:=h;have key: ∀(k:Fin 8) (n:Nat),n<=255->(n*2 ^ (8*k.val))&&&MASK=0->n<128:=fun k n hn h=>by have:=xbke k ⟨n,by omega⟩;simp only at this;rw[this] at h;exact h
  intro i x hi hx;have hxr:=qa5 hb hx;have hg:(l.getD i 0).toNat=x.toNat:=by rw[za6,hx];rfl
  match i,hi,hg with
  | 0,_,hg=>rw[hg] at a0;have:=key 0 x.toNat (by omega) (by simpa using a0);omega
  | 1,_,hg=>rw[hg] at a1;have:=key 1 x.toNat (by omega) a1;omega
  | 2,_,hg=>rw[hg] at a2;have:=key 2 x.toNat (by omega) a2;omega
  | 3,_,hg=>rw[hg] at a3;have:=key 3 x.toNat (by omega) a3;omega
  | 4,_,hg=>rw[hg] at a4;have:=key 4 x.toNat (by omega) a4;omega
  | 5,_,hg=>rw[hg] at a5;have:=key 5 x.toNat (by omega) a5;omega
  | 6,_,hg=>rw[hg] at a6;have:=key 6 x.toNat (by omega) a6;omega
  | 7,_,hg=>rw[hg] at a7;have:=key 7 x.toNat (by omega) a7;omega
def qq5{j k:Nat}{l:LI}(h1:xbdx j l)(h2:xbdx k (l.drop j)):xbdx (j+k) l:=by
 refine⟨by have:=h2.1;simp only[zas] at this;have:=h1.1;omega,fun i x hi hx=> ?_⟩;by_cases h:i<j
 ·exact h1.2 i x h hx
 ·exact h2.2 (i - j) x (by omega) (by rw[zbv,show j+(i - j)=i by omega];exact hx)
def xbjb(A:LI->OO)(R:OO)(L:Nat)(v:Bool)(hA: ∀l,l.length<=L->qad l=true->qdd l=v->A l=R): ∀(f:Nat) (l:LI),l.length<f->l.length<=L->qad l=true->qdd l=v->
  ql6 A f l=R
 | 0,l,h,_,_,_=>by omega
 | f+1,l,hf,hL,hb,hv=>by
  show qm8 (ql6 A f) A l=R;unfold qm8;refine qae (fun h=> ?_) fun h=>hA l hL hb hv;have b1:=qba hb 8;have b2:=qba hb 16;have b3:=qba hb 24;have l1:8<=(l.drop 8).length:=by simp only[zas];omega
  have l2:8<=(l.drop 16).length:=by simp only[zas];omega
  have l3:8<=(l.drop 24).length:=by simp only[zas];omega
  obtain⟨n0,e0,p0,q0⟩:=qj3 hb (show 8<=l.length by omega);obtain⟨n1,e1,p1,q1⟩:=qj3 b1 l1;obtain⟨n2,e2,p2,q2⟩:=qj3 b2 l2;obtain⟨n3,e3,p3,q3⟩:=qj3 b3 l3;have two: ∀(l:LI),qad l=true->8<=l.length->(qad l&&decide (8<=l.length))=true:=fun l h1 h2=>by rw[h1,yf h2];rfl
  refine qam (two _ hb (by omega)) (qaq (by omega) (qam (two _ b1 l1) (qaq (by omega) (qam (two _ b2 l2) (qaq (by omega) (qam (two _ b3 l3) ?_))))));dsimp only;rw[e0,e1,e2,e3];rw[orN p0 p1,orN p2 p3,orN (zbd p0 p1) (zbd p2 p3)];rw[show(9259542123273814144:Int)=(MASK:Int) from rfl,andN (zbd (zbd p0 p1) (zbd p2 p3)) (by decide)];refine qae (fun hz=>qaq (by omega) ?_) fun _=>hA l hL hb hv;have hz:((n0||| n1)||| (n2||| n3))&&&MASK=0:=by omega
  rw[qk9,qk9,qk9] at hz;have hasc:=qq5 (qq5 (qq5 (q0 hz.1.1) (q1 hz.1.2)) (q2 hz.2.1)) (q3 hz.2.2);exact xbjb A R L v hA f _ (by simp only[zas];omega) (by simp only[zas];omega) (qba hb 32) ((qnk 32 l hasc).trans hv)
def xbqb(n s lo hi:Int):Bool:=
 decide ((s=1/\(n<194\/244<n))\/(s=2/\194<=n/\n<=223/\lo=128/\hi=191)\/(s=3/\224<=n/\n<=239/\lo=(if n=224 then 160 else 128)/\hi=(if n=237 then 159 else 191))\/
  (s=4/\240<=n/\n<=244/\lo=(if n=240 then 144 else 128)/\hi=(if n=244 then 143 else 191)))
def tabB(n:Nat):Bool:=match qh3[n]? with
 | some f=>match qmg[(Int.fdiv f (2 ^ 4)).toNat]? with
  | some (.agg [.int .u8 lo,.int .u8 hi])=>decide (0<=Int.fdiv f (2 ^ 4)/\Int.fdiv f (2 ^ 4)<16)&&xbqb n (i64.wrap (u8.wrap ((BitVec.ofInt 8 f&&&BitVec.ofInt 8 7).toNat))) lo hi
  | _=>false
 | none=>false
def xb4i: ∀n:Fin 256,128<=n.val->tabB n.val=true:=by decide+kernel
def xb8u{e:Int}(h1:128<=e)(h2:e<=255): ∃f lo hi,u8First[e.toNat]? =some f/\(0<=Int.fdiv f (2 ^ 4)/\Int.fdiv f (2 ^ 4)<16)/\u8Accept[(Int.fdiv f (2 ^ 4)).toNat]? =some (.agg [.int .u8 lo,.int .u8 hi])/\
  xbqb e (i64.wrap (u8.wrap ((BitVec.ofInt 8 f&&&BitVec.ofInt 8 7).toNat))) lo hi=true:=by
 have h:=xb4i ⟨e.toNat,by omega⟩ (by simp;omega);simp only at h;unfold tabB at h;unfold u8First u8Accept;simp only[qab];split at h
 ·rename_i f hf;split at h
  ·rename_i lo hi ha;simp only[zab,yd] at h;refine⟨f,lo,hi,hf,h.1,ha, ?_⟩;rw[show e=(e.toNat:Int) by omega];exact h.2
  ·cases h
 ·cases h
def q67{l:LI}{k:Nat}{x:Int}(h:l[k]? =some x):u8At l k=decide (128<=x/\x<192):=by unfold u8At;rw[h]
def xb9s: ∀(f:Nat) (l:LI),l.length<f->qad l=true->qit (zB false) (zB true) f l=zB (qdd l)
 | 0,l,h,_=>by omega
 | f+1,l,hf,hb=>by
  have again: ∀l':LI,l'.length<l.length->qad l'=true->qdd l'=qdd l->qit (zB false) (zB true) f l'=zB (qdd l):=fun l' h1 h2 h3=>by rw[<- h3];exact xb9s f l' (by omega) h2
  show qpq (qit (zB false) (zB true) f) (zB false) (zB true) l=_;generalize qit (zB false) (zB true) f=ag at again;have hl:=(qak hb).1;unfold qpq
  cases l with
  | nil=>exact qca (by simp) rfl
  | cons c r=>
  have hc:=qa5 hb (i:=0) (x:=c) rfl;have hbr:=qbu hb;simp only[zbw] at hbr;refine qaq (by simp only[zac];omega) (qaq (by simp only[zac];omega) ?_);simp only[zar,zak];refine qae (fun h7=>qaq (by simp only[zac];omega) ?_) fun h7=> ?_
  ·
   have hone:qdd r=qdd (c::r):=by rw[qlg (c::r),yb (by simp),qfe,yc h7,yb (by omega)];rfl
   rw[List.drop_one,zbw];have two: ∀(l:LI),qad l=true->8<=l.length->(qad l&&decide (8<=l.length))=true:=fun l h1 h2=>by rw[h1,yf h2];rfl
   refine qae (fun h8=>qam (two r hbr (by omega)) ?_) fun _=>again r (by simp) hbr hone;obtain⟨n0,e0,p0,q0⟩:=qj3 hbr (show 8<=r.length by omega);rw[e0,show(9259542123273814144:Int)=(MASK:Int) from rfl,andN p0 (by decide)];refine qae (fun hz=>qaq (by omega) ?_) fun _=>again r (by simp) hbr hone;have a0:=q0 (by omega);have hd8:=(qnk 8 r a0).trans hone;have hb8:=qba hbr 8;refine qae (fun h16=> ?_) fun _=>again _ (by simp only[zas,zac];omega) hb8 hd8;have hb16:=qba hb8 8;have l1:8<=(List.drop 8 r).length:=by omega
   have l2:8<=(List.drop 8 (List.drop 8 r)).length:=by rw[zas];omega
   obtain⟨n1,e1,p1,q1⟩:=qj3 hb8 l1;obtain⟨n2,e2,p2,q2⟩:=qj3 hb16 l2;refine qam (two _ hb8 l1) (qaq (by omega) (qam (two _ hb16 l2) ?_));rw[e1,e2,orN p1 p2,andN (zbd p1 p2) (by decide)];refine qae (fun hz=>qaq (by omega) ?_) fun _=>again _ (by simp only[zas,zac];omega) hb8 hd8;have hz:(n1||| n2)&&&MASK=0:=by omega
   rw[qk9] at hz;have a12:=qq5 (q1 hz.1) (q2 hz.2);have hb24:=qba hb8 16;have hd24:=(qnk 16 _ a12).trans hd8;rw[qab];exact xbjb ag _ (List.drop 16 (List.drop 8 r)).length (qdd (c::r)) (fun l' h1 h2 h3=>again l' (by simp only[zas,zac] at h1 ⊢;omega) h2 h3) FUEL _ (by simp only[zac] at hl;simp only[zas];unfold FUEL;omega) (zap _) hb24 hd24
  ·obtain⟨fv,lo,hi,t1,t2,t3,t4⟩:=xb8u (e:=c) (by omega) hc.2;refine qaq (by omega) (qaq (by omega) ?_);simp only[t1,zak];refine qaq t2.1 (qaq t2.2 ?_);simp only[t3,zak];refine qam rfl ?_;generalize i64.wrap (u8.wrap ((BitVec.ofInt 8 fv&&&BitVec.ofInt 8 7).toNat))=s at t4 ⊢;have t4:=ye t4;show cond (decide (s=2)) _ _=_;simp only[show qf9 ((cell1 (CV.agg [.int .u8 lo,.int .u8 hi])).headD .nili)=lo from rfl,show qf9 ((cell1 (CV.agg [.int .u8 lo,.int .u8 hi])).tail.headD .nili)=hi from rfl];have bad:qeg (c::r)=0->(zB false:OO)=zB (qdd (c::r)):=fun h=>by rw[qlg (c::r),yb (by simp),yc h]
   have good: ∀k:Nat,0<k->qeg (c::r)=k->k<=(c::r).length->ag ((c::r).drop k)=zB (qdd (c::r)):=fun k h0 h hk=>by refine again _ (by simp only[zas,zac] at hk ⊢;omega) (qba hb k) ?_;rw[qlg (c::r),yb (by simp),yb (by omega),h];rfl
   have hx: ∀k,k<r.length->∃x,r[k]? =some x/\0<=x/\x<=255:=fun k hk=>by obtain⟨x,hx⟩:=qbz (b:=r) hk;exact⟨x,hx,qa5 hbr hx⟩
   have hnone: ∀k,r.length<=k-> ¬u8At r k=true:=fun k hk=>by unfold u8At;rw[zbi hk];simp
   have hf: ∀(k:Nat) (x:Int),r[k]? =some x->(x<128\/191<x)-> ¬u8At r k=true:=fun k x hx h=>by rw[q67 hx,yd];omega
   have ht: ∀(k:Nat) (x:Int),r[k]? =some x->128<=x->x<=191->u8At r k=true:=fun k x hx h h'=>by rw[q67 hx,yd];omega
   have hd: ∀x,r[0]? =some x->r.headD 0=x:=fun x hx=>by cases r with|nil=>cases hx|cons y t=>simpa using hx
   simp only[zac] at good ⊢;rcases t4 with⟨rfl,hn⟩|⟨rfl,hn1,hn2,rfl,rfl⟩|⟨rfl,hn1,hn2,hlo,hhi⟩|⟨rfl,hn1,hn2,hlo,hhi⟩
   ·refine qca (by omega) (qca (by omega) (qca (by omega) (bad ?_)));rw[qfe,yb h7,yb (by omega),yb (by omega),yb (by omega)]
   ·have zero: ¬u8At r 0=true->qeg (c::r)=0:=fun h=>by rw[qfe,yb h7,yb (fun h'=>h h'.2.2),yb (by omega),yb (by omega)]
    refine qaq rfl (qae (fun hs=>bad (zero (hnone 0 (by omega)))) fun hs=> ?_);obtain⟨x,hx0,hxr⟩:=hx 0 (by omega);simp only[za2,hx0,zak];refine qaq (by omega) (qae (fun hs=>bad (zero (hf 0 x hx0 (by omega)))) fun hs1=>qaq (by omega) (qae (fun hs=>bad (zero (hf 0 x hx0 (by omega)))) fun hs2=>qaq (by omega) ?_));exact good 2 (by omega) (by rw[qfe,yb h7,yc ⟨hn1,hn2,ht 0 x hx0 (by omega) (by omega)⟩];rfl) (by omega)
   ·have zero: ¬(u8At r 0=true/\u8At r 1=true/\(c=224->160<=r.headD 0)/\(c=237->r.headD 0<160))->qeg (c::r)=0:=fun h=>by rw[qfe,yb h7,yb (by omega),yb (fun h'=>h h'.2.2),yb (by omega)]
    refine qca (by omega) (qaq rfl (qae (fun hs=>bad (zero fun h=>hnone 1 (by omega) h.2.1)) fun hs=> ?_));obtain⟨x,hx0,hxr⟩:=hx 0 (by omega);obtain⟨y,hy0,hyr⟩:=hx 1 (by omega);have hdx:=hd x hx0;simp only[za2,hx0,hy0,zak];have zx:(x<lo\/hi<x)->qeg (c::r)=0:=fun hh=>zero fun h=>by have h1:=h.1;rw[q67 hx0,yd] at h1;rw[hdx] at h;have:=h.2.2.1;have:=h.2.2.2;rw[hlo,hhi] at hh;split at hh<;>split at hh<;>omega
    refine qaq (by omega) (qae (fun hs=>bad (zx (.inl hs))) fun hs1=>qaq (by omega) (qae (fun hs=>bad (zx (.inr hs))) fun hs2=> ?_));refine qaq (by omega) (qae (fun hs=>bad (zero fun h=>hf 1 y hy0 (by omega) h.2.1)) fun hs3=>qaq (by omega) (qae (fun hs=>bad (zero fun h=>hf 1 y hy0 (by omega) h.2.1)) fun hs4=>qaq (by omega) ?_));refine good 3 (by omega) ?_ (by omega);rw[hlo] at hs1;rw[hhi] at hs2;rw[qfe,yb h7,yb (by omega),yc ⟨hn1,hn2,ht 0 x hx0 (by split at hs1<;>omega) (by split at hs2<;>omega),ht 1 y hy0 (by omega) (by omega),fun e=>by rw[yc e] at hs1;rw[hdx];omega,fun e=>by rw[yc e] at hs2;rw[hdx];omega⟩];rfl
   ·have zero: ¬(u8At r 0=true/\u8At r 1=true/\u8At r 2=true/\(c=240->144<=r.headD 0)/\(c=244->r.headD 0<144))->qeg (c::r)=0:=fun h=>by rw[qfe,yb h7,yb (by omega),yb (by omega),yb (fun h'=>h h'.2.2)]
    refine qca (by omega) (qca (by omega) (qaq rfl (qae (fun hs=>bad (zero fun h=>hnone 2 (by omega) h.2.2.1)) fun hs=> ?_)));obtain⟨x,hx0,hxr⟩:=hx 0 (by omega);obtain⟨y,hy0,hyr⟩:=hx 1 (by omega);obtain⟨z,hz0,hzr⟩:=hx 2 (by omega);have hdx:=hd x hx0;simp only[za2,hx0,hy0,hz0,zak];have zx:(x<lo\/hi<x)->qeg (c::r)=0:=fun hh=>zero fun h=>by have h1:=h.1;rw[q67 hx0,yd] at h1;rw[hdx] at h;have:=h.2.2.2.1;have:=h.2.2.2.2;rw[hlo,hhi] at hh;split at hh<;>split at hh<;>omega
    refine qaq (by omega) (qae (fun hs=>bad (zx (.inl hs))) fun hs1=>qaq (by omega) (qae (fun hs=>bad (zx (.inr hs))) fun hs2=> ?_));refine qaq (by omega) (qae (fun hs=>bad (zero fun h=>hf 1 y hy0 (by omega) h.2.1)) fun hs3=>qaq (by omega) (qae (fun hs=>bad (zero fun h=>hf 1 y hy0 (by omega) h.2.1)) fun hs4=> ?_));refine qaq (by omega) (qae (fun hs=>bad (zero fun h=>hf 2 z hz0 (by omega) h.2.2.1)) fun hs5=>qaq (by omega) (qae (fun hs=>bad (zero fun h=>hf 2 z hz0 (by omega) h.2.2.1)) fun hs6=>qaq (by omega) ?_));refine good 4 (by omega) ?_ (by omega);rw[hlo] at hs1;rw[hhi] at hs2;rw[qfe,yb h7,yb (by omega),yb (by omega),yc ⟨hn1,hn2,ht 0 x hx0 (by split at hs1<;>omega) (by split at hs2<;>omega),ht 1 y hy0 (by omega) (by omega),ht 2 z hz0 (by omega) (by omega),fun e=>by rw[yc e] at hs1;rw[hdx];omega,fun e=>by rw[yc e] at hs2;rw[hdx];omega⟩];rfl
def xb1f(b:LI)(hp:qad b=true):xbou b=zB (u8Valid b):=by unfold xbou u8Valid;simp only[qab];refine qam (by simp) (qaq (by omega) ?_);rw[show((b.length:Int)).toNat=b.length from rfl,zcw];exact xb9s FUEL b (by have:=(qak hp).1;unfold FUEL;omega) hp
open IntWalk (i64_in u8_in u32_in u64_in i64_quo u8_quo rem_in)
def xbtx: ∀(k:Fin 8) (n:Fin 256),(u8.wrap ((BitVec.ofInt 8 (n.val:Int)&&&BitVec.ofInt 8 (u8.wrap (u8.wrap (1*2 ^ (min k.val 8)) - 1))).toNat)=0)=((n.val:Int) % 2 ^ k.val=0):=by decide+kernel
def xblo: ∀(k:Fin 8) (n:Fin 256),u8.wrap (1*2 ^ (min k.val 8))≠0/\(Int.tmod (n.val:Int) (u8.wrap (1*2 ^ (min k.val 8)))=0)=((n.val:Int) % 2 ^ k.val=0):=by decide+kernel
def xbf8(y:Int)(r:LI)(x:Int):(x::y::r)[(r.length+1)]? =some ((y::r).getLast (by simp)):=by rw[za2,List.getLast_eq_getElem];simp
def xb0o(b:LI)(hp:qad b=true):xbob b=zB (qjb b):=by
 unfold xbob qjb;rw[qab]
 match b,hp with
 | [],_=>rfl
 | [x],hp=>
  have hx:=qa5 hp (i:=0) (x:=x) rfl;refine qca (by simp) (qaq (by simp) ?_);simp only[zar,zak];refine qae (fun h=>qa7 ?_) fun h=>qaq (by simp) (qaq (by simp) rfl);exact(decide_eq_false (by omega)).symm
 | x::y::r,hp=>
  have hx:=qa5 hp (i:=0) (x:=x) rfl;have hl:=(qak hp).1;have hg:=xbf8 y r x;have hz:=qa5 hp hg;simp only[zac] at hl;simp only[qq7];generalize (y::r).getLast (by simp)=z at*;refine qca (by simp only[zac];omega) (qaq (by simp only[zac];omega) ?_);simp only[zar,zak];refine qae (fun h=>qa7 ?_) fun h=>qca (by simp only[zac];omega) ?_
  ·rw[show decide (x<=7)=false from decide_eq_false (by omega)];rfl
  ·rw[show i64.wrap ((((x::y::r).length:Nat):Int) - 1)=((r.length+1:Nat):Int) from(i64_in ((((x::y::r).length:Nat):Int) - 1) (by simp only[zac];omega)).trans (by simp only[zac];omega)];refine qaq (by omega) (qaq (by simp only[zac];omega) ?_);rw[show(((r.length+1:Nat):Int)).toNat=r.length+1 from rfl,hg,zak];refine qaq (by simp only[zac];omega) (qca (by omega) (qa7 ?_));have:=xbtx ⟨x.toNat,by omega⟩ ⟨z.toNat,by omega⟩;simp only[zdd hz.1] at this;rw[show decide (x<=7)=true from yf (by omega),zbs];rw[zbn];simp only[yd];rw[this]
def xbl1(b:LI)(hp:qad b=true):q7t b=zB (qjb b):=by
 unfold q7t qjb;rw[qab]
 match b,hp with
 | [],_=>rfl
 | [x],hp=>
  have hx:=qa5 hp (i:=0) (x:=x) rfl;refine qca (by simp) (qaq (by simp) ?_);simp only[zar,zak];refine qae (fun h=>qa7 ?_) fun h=>qaq (by simp) (qaq (by simp) rfl);exact(decide_eq_false (by omega)).symm
 | x::y::r,hp=>
  have hx:=qa5 hp (i:=0) (x:=x) rfl;have hl:=(qak hp).1;have hg:=xbf8 y r x;have hz:=qa5 hp hg;simp only[zac] at hl;simp only[qq7];generalize (y::r).getLast (by simp)=z at*;refine qca (by simp only[zac];omega) (qaq (by simp only[zac];omega) ?_);simp only[zar,zak];refine qae (fun h=>qa7 ?_) fun h=>qca (by simp only[zac];omega) ?_
  ·rw[show decide (x<=7)=false from decide_eq_false (by omega)];rfl
  ·rw[show i64.wrap ((((x::y::r).length:Nat):Int) - 1)=((r.length+1:Nat):Int) from(i64_in ((((x::y::r).length:Nat):Int) - 1) (by simp only[zac];omega)).trans (by simp only[zac];omega)];refine qaq (by omega) (qaq (by simp only[zac];omega) ?_);rw[show(((r.length+1:Nat):Int)).toNat=r.length+1 from rfl,hg,zak];have:=xblo ⟨x.toNat,by omega⟩ ⟨z.toNat,by omega⟩;simp only[zdd hz.1] at this;refine qaq (by simp only[zac];omega) (qca (by omega) (qca this.1 (qa7 ?_)));rw[show decide (x<=7)=true from yf (by omega),zbs];rw[zbn];simp only[yd];rw[this.2]
def or7{n x:Int}(h0:0<=n)(h1:n<72057594037927936)(h2:0<=x)(h3:x<=127):((BitVec.ofInt 64 (n*128)||| BitVec.ofInt 64 x).toNat:Int)=n*128+x:=by
 obtain⟨a,rfl⟩: ∃a:Nat,n=a:=⟨n.toNat,by omega⟩;obtain⟨b,rfl⟩: ∃b:Nat,x=b:=⟨x.toNat,by omega⟩;rw[zdv];have e1:(BitVec.ofInt 64 ((a:Int)*128)).toNat=2 ^ 7*a:=by rw[zcs];omega
 have e2:(BitVec.ofInt 64 (b:Int)).toNat=b:=by rw[zcs];omega
 rw[e1,e2, <- Nat.two_pow_add_eq_or_of_lt (by omega:b<2 ^ 7)];omega
def and7: ∀n:Fin 256,u8.wrap ((BitVec.ofInt 8 (n.val:Int)&&& ~~~ BitVec.ofInt 8 128).toNat)=(n.val:Int) % 128/\(u8.wrap ((BitVec.ofInt 8 (n.val:Int)&&&BitVec.ofInt 8 128).toNat)=0)=((n.val:Int)<128):=by decide+kernel
def xbu0(b:LI)(hb:qad b=true): ∀(f i:Nat) (n:Int),i<=b.length->b.length<f+i->0<=n->n<4294967296->
  qik (fun _ _ _ _ _ _ _ _ _ _ _ _ _ _ _=>zR [.cl (.int .u32 0),.cl (.int .i64 0)] []) (fun _ _ _ _ _ _ _ _ _ _ _ _ _ _ _ _ _=>zR [.cl (.int .u32 0),.cl (.int .i64 0)] []) (fun y33 y34 _ _ _ _ _ _ _ _ _ _ _ _ _ _ _ _ _ _ _ _ _ _ _ _ _ _ _ _ _=>zR [.cl (.int .u32 y33),.cl (.int .i64 y34)] []) (fun _ _ _ _ _ _ _ _ _ _ _ _ _ _=>zR [.cl (.int .u32 0),.cl (.int .i64 0)] [])
   (fun y33 y34 _ _ _ _ _ _ _ _ _ _ _ _ _ _ _ _ _ _ _ _ _ _ _ _ _ _=>zR [.cl (.int .u32 y33),.cl (.int .i64 y34)] []) (fun _ _ _ _=>zR [.cl (.int .u32 0),.cl (.int .i64 0)] []) f n b (b.length:Int) i=zR [.cl (.int .u32 (qb9 n i (b.drop i)).1),.cl (.int .i64 (qb9 n i (b.drop i)).2)] []
 | 0,i,n,hi,hf,_,_=>by omega
 | f+1,i,n,hi,hf,h0,h1=>by
  show qjm (qik (fun _ _ _ _ _ _ _ _ _ _ _ _ _ _ _=>zR [.cl (.int .u32 0),.cl (.int .i64 0)] []) (fun _ _ _ _ _ _ _ _ _ _ _ _ _ _ _ _ _=>zR [.cl (.int .u32 0),.cl (.int .i64 0)] []) (fun y33 y34 _ _ _ _ _ _ _ _ _ _ _ _ _ _ _ _ _ _ _ _ _ _ _ _ _ _ _ _ _=>zR [.cl (.int .u32 y33),.cl (.int .i64 y34)] []) (fun _ _ _ _ _ _ _ _ _ _ _ _ _ _=>zR [.cl (.int .u32 0),.cl (.int .i64 0)] [])
   (fun y33 y34 _ _ _ _ _ _ _ _ _ _ _ _ _ _ _ _ _ _ _ _ _ _ _ _ _ _=>zR [.cl (.int .u32 y33),.cl (.int .i64 y34)] []) (fun _ _ _ _=>zR [.cl (.int .u32 0),.cl (.int .i64 0)] []) f) _ _ _ _ _ _ n b (b.length:Int) i=_
  have hl:=(qak hb).1;unfold qjm;refine qae (fun h=>qaq (by omega) (qaq h ?_)) fun h=> ?_
  ·obtain⟨c,hc⟩:=qbz (b:=b) (i:=i) (by omega);have hcr:=qa5 hb hc;rw[show(i:Int).toNat=i from rfl,hc,zak,qd5 hc];have a7:=and7 ⟨c.toNat,by omega⟩;simp only[zdd hcr.1] at a7;have step: ∀(X:OO), ¬33554431<n-> ¬((i:Int)=0/\c=128)->(u64.wrap (n*2 ^ 7)=n*128)/\u64.wrap (u8.wrap ((BitVec.ofInt 8 c&&& ~~~ BitVec.ofInt 8 128).toNat))=c % 128/\u64.wrap ((BitVec.ofInt 64 (n*128)||| BitVec.ofInt 64 (c % 128)).toNat)=n*128+c % 128/\
     qb9 n i (c::b.drop (i+1))=if c<128 then(n*128+c,(i:Int)+1) else qb9 (n*128+(c - 128)) ((i:Int)+1) (b.drop (i+1)):=fun X g1 g2=>by
    refine⟨(u64_in _ (by omega)).trans (by omega), ?_, ?_, ?_⟩
    ·rw[a7.1];exact u64_in _ (by omega)
    ·rw[or7 h0 (by omega) (by omega) (by omega)];exact u64_in _ (by omega)
    ·conv=>lhs;unfold qb9
     rw[yb (by rintro(h|h);exact g2 h;exact g1 h)]
   have stop:((i:Int)=0/\c=128)\/33554431<n->(zR [.cl (.int .u32 0),.cl (.int .i64 0)] []:OO)=zR [.cl (.int .u32 (qb9 n i (c::b.drop (i+1))).1),.cl (.int .i64 (qb9 n i (c::b.drop (i+1))).2)] []:=fun h=>by unfold qb9;rw[yc h]
   have go: ∀(g1: ¬33554431<n) (g2: ¬((i:Int)=0/\c=128)) (R:OO) (K:Int->Int->OO) (A:OO),True:=fun _ _ _ _ _=>trivial;refine qae (fun hi0=>qae (fun h128=>stop (.inl ⟨hi0,h128⟩)) fun h128=>qae (fun hn=>stop (.inr hn)) fun hn=> ?_) fun hi0=>qae (fun hn=>stop (.inr hn)) fun hn=> ?_
   ·obtain⟨s1,s2,s3,s4⟩:=step none hn (by omega);dsimp only;rw[s1,s2,s3,s4];refine qae (fun hz=> ?_) fun hz=> ?_
    ·have hz:c<128:=by rwa [a7.2] at hz
     rw[yc hz,show c % 128=c by omega,show u32.wrap (n*128+c)=n*128+c from u32_in _ (by omega),show i64.wrap ((i:Int)+1)=(i:Int)+1 from i64_in _ (by omega)]
    ·have hz: ¬c<128:=by rwa [a7.2] at hz
     rw[yb hz,show c % 128=c - 128 by omega,show i64.wrap ((i:Int)+1)=((i+1:Nat):Int) from(i64_in _ (by omega)).trans (by omega)];exact xbu0 b hb f (i+1) _ (by omega) (by omega) (by omega) (by omega)
   ·obtain⟨s1,s2,s3,s4⟩:=step none hn (by omega);dsimp only;rw[s1,s2,s3,s4];refine qae (fun hz=> ?_) fun hz=> ?_
    ·have hz:c<128:=by rwa [a7.2] at hz
     rw[yc hz,show c % 128=c by omega,show u32.wrap (n*128+c)=n*128+c from u32_in _ (by omega),show i64.wrap ((i:Int)+1)=(i:Int)+1 from i64_in _ (by omega)]
    ·have hz: ¬c<128:=by rwa [a7.2] at hz
     rw[yb hz,show c % 128=c - 128 by omega,show i64.wrap ((i:Int)+1)=((i+1:Nat):Int) from(i64_in _ (by omega)).trans (by omega)];exact xbu0 b hb f (i+1) _ (by omega) (by omega) (by omega) (by omega)
  ·rw[qe3 (by omega)];rfl
def xbui(b:LI)(hp:qad b=true):xbe9 b=zR [.cl (.int .u32 (qgm b).1),.cl (.int .i64 (qgm b).2)] []:=by unfold xbe9 qgm;simp only[qab];exact xbu0 b hp FUEL 0 0 (by omega) (by have:=(qak hp).1;unfold FUEL;omega) (by omega) (by omega)
def xblx(b:LI)(hp:true=true):xbk2 b=zR [.fn (.func 189) [] [.ptr 0 0 0]] [some ⟨.var [.cl (.sli .u8 b)],false⟩]:=rfl
open IntWalk (i64_in u8_in u32_in u64_in i64_quo u8_quo rem_in)
def qzm: ∀(b:LI) (n i:Int),(∀x∈b,0<=x/\x<=255)->0<=n->0<=i->(0<=(qb9 n i b).1/\(qb9 n i b).1<=4294967295)/\((qb9 n i b).2=0\/i<(qb9 n i b).2/\(qb9 n i b).2<=i+b.length)
 | [],n,i,_,_,_=>by simp[qb9]
 | c::r,n,i,hb,hn,hi=>by
  have hc:=hb c (by simp);unfold qb9;split
  ·simp
  ·rename_i h;split
   ·exact⟨by omega,.inr (by simp only[zac];omega)⟩
   ·have:=qzm r (n*128+(c - 128)) (i+1) (fun x hx=>hb x (by simp[hx])) (by omega) (by omega);refine⟨this.1,this.2.imp id fun h=> ?_⟩;simp only[zac];omega
def qiw{b:LI}(hb:qad b=true):(0<=(qap b).1/\(qap b).1<=4294967295)/\((qap b).2=0\/0<(qap b).2/\(qap b).2<=b.length):=by have:=qzm b 0 0 (qak hb).2 (by omega) (by omega);unfold qap;exact⟨this.1,this.2.imp id fun h=>by omega⟩
def q8w: ∀(n m:Nat) (b:LI),qad b=true->b.length<=n->b.length<=m->qdz n b=qdz m b
 | 0,0,b,_,_,_=>rfl
 | 0,m+1,b,_,h,_=>by have:b=[]:=zaj (by omega);subst this;simp[qdz]
 | n+1,0,b,_,_,h=>by have:b=[]:=zaj (by omega);subst this;simp[qdz]
 | n+1,m+1,b,hb,h1,h2=>by
  unfold qdz;by_cases h:b=[]
  ·rw[yc h,yc h]
  ·rw[yb h,yb h];by_cases h0:(qap b).2=0
   ·rw[yc h0,yc h0]
   ·rw[yb h0,yb h0];have:=(qiw hb).2;rw[q8w n m _ (qba hb _) (by simp only[zas];omega) (by simp only[zas];omega)]
def q8x{b:LI}(hb:qad b=true):qdb b=if b=[] then[] else if(qap b).2=0 then[((qap b).1,false)] else((qap b).1,true)::qdb (b.drop (qap b).2.toNat):=by
 unfold qdb
 cases b with
 | nil=>rfl
 | cons c r=>
  rw[yb (by simp)]
  conv=>lhs;rw[zac];unfold qdz
  rw[yb (by simp)];by_cases h0:(qap (c::r)).2=0
  ·rw[yc h0,yc h0]
  ·rw[yb h0,yb h0];have:=(qiw hb).2;rw[q8w _ _ _ (qba hb _) (by simp only[zas,zac] at*;omega) (zap _)]
def xbvg(p:Int×Bool):LC:=[.int .u32 p.1,.bool p.2]
def xb9e(l:Nat): ∀(f:Nat) (b:LI),qad b=true->b.length<f->∃out,qlx l
  (fun _ _ _ _ _ _ _ _ _ _ _ _ _ _ y15=>zR [] [some ⟨.var [.cl (.sli .u8 y15)],false⟩]) (fun _ _ _ _ _ _ _ _ _ _ _ _ _ _ _ _ y32=>zR [] [some ⟨.var [.cl (.sli .u8 y32)],false⟩]) (fun _ _ y35=>zR [] [some ⟨.var [.cl (.sli .u8 y35)],false⟩]) f b=some out/\Hands out (some ((qdb b).map xbvg))
 | 0,b,_,h=>by omega
 | f+1,b,hb,hf=>by
  have ih:=fun b' h1 h2=>xb9e l f b' h1 h2;generalize hag:qlx l (fun _ _ _ _ _ _ _ _ _ _ _ _ _ _ y15=>zR [] [some ⟨.var [.cl (.sli .u8 y15)],false⟩]) (fun _ _ _ _ _ _ _ _ _ _ _ _ _ _ _ _ y32=>zR [] [some ⟨.var [.cl (.sli .u8 y32)],false⟩]) (fun _ _ y35=>zR [] [some ⟨.var [.cl (.sli .u8 y35)],false⟩]) f=ag at ih;have e:qlx l (fun _ _ _ _ _ _ _ _ _ _ _ _ _ _ y15=>zR [] [some ⟨.var [.cl (.sli .u8 y15)],false⟩]) (fun _ _ _ _ _ _ _ _ _ _ _ _ _ _ _ _ y32=>zR [] [some ⟨.var [.cl (.sli .u8 y32)],false⟩]) (fun _ _ y35=>zR [] [some ⟨.var [.cl (.sli .u8 y35)],false⟩]) (f+1) b=
    qn2 l ag (fun _ _ _ _ _ _ _ _ _ _ _ _ _ _ y15=>zR [] [some ⟨.var [.cl (.sli .u8 y15)],false⟩]) (fun _ _ _ _ _ _ _ _ _ _ _ _ _ _ _ _ y32=>zR [] [some ⟨.var [.cl (.sli .u8 y32)],false⟩]) (fun _ _ y35=>zR [] [some ⟨.var [.cl (.sli .u8 y35)],false⟩]) b:=by rw[<- hag];rfl
  rw[e];unfold qn2;rw[q8x hb];by_cases h:b=[]
  ·subst h;exact⟨_,qca (by simp) rfl,.inl rfl⟩
  ·have hlen:0<b.length:=List.length_pos_iff.2 h;rw[yb h];have hr:=qiw hb;have e1:qgm b=qap b:=by unfold qgm;rw[qab]
   rw[e1];by_cases h0:(qap b).2=0
   ·rw[yc h0];refine⟨.yld [.int .u32 (qap b).1,.bool (decide ((0:Int)<(qap b).2))] (.ret [] [some ⟨.var [.cl (.sli .u8 b)],false⟩]) (.ret [] [some ⟨.var [.cl (.sli .u8 b)],false⟩]),qaq (by omega) (qam hb (qam (za7 l) ?_)), ?_⟩
    ·dsimp only;rw[yf h0];rfl
    ·refine⟨?_,.inr rfl,.inl rfl⟩;show[CV.int .u32 (qap b).1,.bool (decide ((0:Int)<(qap b).2))]=[.int .u32 (qap b).1,.bool false];rw[decide_eq_false (by omega)]
   ·rw[yb h0];obtain⟨out,g1,g2⟩:=ih (b.drop (qap b).2.toNat) (qba hb _) (by simp only[zas];omega);refine⟨.yld [.int .u32 (qap b).1,.bool (decide ((0:Int)<(qap b).2))] (.ret [] [some ⟨.var [.cl (.sli .u8 b)],false⟩]) out,qaq (by omega) (qam hb (qam (za7 l) ?_)), ?_⟩
    ·dsimp only;rw[decide_eq_false h0];show yldO _ _ (cond (decide ((0:Int)<=(qap b).2)) (cond (decide ((qap b).2<=(b.length:Int))) (ag (List.drop (Int.toNat (qap b).2) b)) none) none)=_;rw[yf (show(0:Int)<=(qap b).2 by omega),yf (show(qap b).2<=(b.length:Int) by omega)];simp only[cond_true];rw[g1];rfl
    ·refine⟨?_,.inr rfl,g2⟩;show[CV.int .u32 (qap b).1,.bool (decide ((0:Int)<(qap b).2))]=[.int .u32 (qap b).1,.bool true];rw[yf (by omega)]
def xb67(l:Nat)(b:LI)(hp:qad b=true): ∃out,xbs4 l b=some out/\Hands out (some (qt7 (qwe b))):=by unfold xbs4 qt7 qwe;simp only[qab];obtain⟨out,h1,h2⟩:=xb9e l FUEL b hp (by have:=(qak hp).1;unfold FUEL;omega);exact⟨out,by rw[za7,cond_true];exact h1,h2⟩
def xbkr{n:Int}(h0:0<=n)(h1:n<=4294967295): ∃x,cond (decide ((2:Int)<n/ 40)) 2 (n/ 40)=x/\0<=x/\x<=2/\ [x,n - 40*x]=qb5 n/\0<=n - 40*x:=by
 unfold qb5;by_cases h:n<80
 ·rw[yc h,decide_eq_false (by omega)];exact⟨n/ 40,rfl,by omega,by omega,by simp;omega,by omega⟩
 ·rw[yb h];by_cases h2:2<n/ 40
  ·rw[yf h2];exact⟨2,rfl,by omega,by omega,by simp,by omega⟩
  ·rw[decide_eq_false h2];exact⟨n/ 40,rfl,by omega,by omega,by simp;omega,by omega⟩
def xb9p(R0:OO)(K:Nat->LI->OO): ∀(ps:List (Int×Bool)) (o:LI),(∀p∈ps,0<=p.1/\p.1<=4294967295)->o.length<=24->
  qi1 (fun _ _=>R0) K (ps.map xbvg) o.length o=match qu6 ps o with|some o'=>K o'.length o'| none=>R0
 | [],o,_,_=>rfl
 | (n,ok)::ps,o,hp,ho=>by
  have hn:=hp (n,ok) (by simp);have ih:=fun o' h=>xb9p R0 K ps o' (fun p hp'=>hp p (by simp[hp'])) h;show qmc (qi1 (fun _ _=>R0) K (ps.map xbvg)) (fun _ _=>R0) K n ok o.length o=_;unfold qmc qu6
  cases ok with
  | false=>simp
  | true=>
   simp only[zc7,cond_false,Bool.true_eq_false,false_or];refine qae (fun h=> ?_) fun h=> ?_
   ·rw[yc (by omega)]
   ·rw[yb (by omega)];refine qae (fun h0=> ?_) fun h0=> ?_
    ·have:o=[]:=zaj (by omega);subst this;rw[yc rfl];obtain⟨x,g1,g2,g3,g4,g5⟩:=xbkr hn.1 hn.2;rw[show u32.wrap (Int.tdiv n 40)=n/ 40 by rw[zcd hn.1];exact u32_in _ (by simp only at hn;omega)];rw[g1,show u32.wrap (40*x)=40*x from u32_in _ (by omega),show u32.wrap (n - 40*x)=n - 40*x from u32_in _ (by simp only at hn;omega)];rw[za9,zbq,za9];rw[g4];have hlen:(qb5 n).length=2:=by rw[<- g4];rfl
     refine qc4 (by simp) (qc4 (by simp) (qc4 (by rw[hlen];simp) (qc4 (by rw[hlen];simp) (ih (qb5 n) (by omega)))))
    ·rw[yb (by intro e;subst e;simp at h0)];refine qc4 (by simp only[zaf,zac,zbg];omega) (qc4 (by simp only[zaf,zac,zbg];omega) (ih _ (by simp only[zaf,zac,zbg];omega)))
def q52: ∀(n:Nat) (b:LI),qad b=true->∀p∈qdz n b,0<=p.1/\p.1<=4294967295
 | 0,b,_,p,hp=>by simp[qdz] at hp
 | n+1,b,hb,p,hp=>by
  have hr:=(qiw hb).1;unfold qdz at hp;split at hp
  ·simp at hp
  ·split at hp
   ·simp at hp;subst hp;exact hr
   ·rcases zaw.1 hp with rfl|hp
    ·exact hr
    ·exact q52 n _ (qba hb _) p hp
def xb0x(b:LI)(hp:qad b=true):xbfa b=zR [.cl (.sli .u32 (qcl b).1),.cl (.int .i64 (qcl b).2)] []:=by
 unfold xbfa;refine qam hp (qam ?_ ?_)
 ·unfold qt7;rw[qab,List.all_map,zai];intro p _;rfl
 ·unfold qt7 qwe qcl qcw qk8;simp only[qab];refine(xb9p _ _ (qdb b) [] (q52 _ b hp) (by simp)).trans ?_
  cases qu6 (qdb b) [] with
  | none=>rfl
  | some o=>
   show cond (!(qbx o)) _ _=_;cases h:qbx o<;>simp[h]
def qms(o:LI)(n:Int):LI:=if o=[] then qb5 n else o++[n]
def qwk:Int->Bool->LI->LI->Option LI
 | _,fresh,[],o=>if fresh=true then some o else none
 | n,fresh,c::r,o=>if fresh=true/\c=128 then none else if 4294967295<n*128+c % 128 then none else if c<128 then qwk 0 true r (qms o (n*128+c % 128)) else qwk (n*128+c % 128) false r o
def qve:Option LI->LI×Int
 | some o=>if qbx o=true then(o,0) else([],5)
 | none=>([],5)
def xbhz(o:LI)(n:Int):o.length<=(qms o n).length:=by
 unfold qms;split
 ·rename_i h;subst h;simp
 ·simp
def qz8: ∀(b:LI) (n:Int) (fresh:Bool) (o o':LI),qwk n fresh b o=some o'->o.length<=o'.length
 | [],n,fresh,o,o',h=>by
  unfold qwk at h;split at h
  ·simp at h;subst h;exact zap _
  ·cases h
 | c::r,n,fresh,o,o',h=>by
  unfold qwk at h;split at h
  ·cases h
  ·split at h
   ·cases h
   ·split at h
    ·exact zcb (xbhz o _) (qz8 r _ _ _ _ h)
    ·exact qz8 r _ _ _ _ h
def xbh4(n:Int)(fresh:Bool)(c:Int)(r o:LI):qwk n fresh (c::r) o=if fresh=true/\c=128 then none else if 4294967295<n*128+c % 128 then none else if c<128 then qwk 0 true r (qms o (n*128+c % 128)) else qwk (n*128+c % 128) false r o:=rfl
def qrt(n i c:Int)(r:LI):qb9 n i (c::r)=if(i=0/\c=128)\/33554431<n then(0,0) else if c<128 then(n*128+c,i+1) else qb9 (n*128+(c - 128)) (i+1) r:=rfl
def q89: ∀(b:LI) (n i:Int) (fresh:Bool) (o:LI),(∀x∈b,0<=x/\x<=255)->0<=n->0<=i->(fresh=true↔i=0)->(b=[]->fresh=false)->
  qwk n fresh b o=if(qb9 n i b).2=0 then none else qwk 0 true (b.drop ((qb9 n i b).2 - i).toNat) (qms o (qb9 n i b).1)
 | [],n,i,fresh,o,_,_,_,_,h=>by simp[qwk,qb9,h rfl]
 | c::r,n,i,fresh,o,hb,hn,hi,hf,_=>by
  have hc:=hb c (by simp);rw[xbh4,qrt];by_cases h1:fresh=true/\c=128
  ·rw[yc h1,yc (show(i=0/\c=128)\/33554431<n from .inl ⟨hf.1 h1.1,h1.2⟩)];rfl
  ·rw[yb h1];by_cases h2:33554431<n
   ·rw[yc (by omega),yc (show(i=0/\c=128)\/33554431<n from .inr h2)];rfl
   ·rw[yb (by omega),yb (show ¬((i=0/\c=128)\/33554431<n) from fun h=>h.elim (fun h=>h1 ⟨hf.2 h.1,h.2⟩) h2)];by_cases h3:c<128
    ·rw[yc h3,yc h3,show c % 128=c by omega];simp only;rw[yb (by omega),show(i+1 - i).toNat=1 by omega];rfl
    ·rw[yb h3,yb h3,show c % 128=c - 128 by omega];rw[q89 r (n*128+(c - 128)) (i+1) false o (fun x hx=>hb x (by simp[hx])) (by omega) (by omega) (by simp;omega) (fun _=>rfl)];have hr:=qzm r (n*128+(c - 128)) (i+1) (fun x hx=>hb x (by simp[hx])) (by omega) (by omega);by_cases h4:(qb9 (n*128+(c - 128)) (i+1) r).2=0
     ·rw[yc h4,yc h4]
     ·rw[yb h4,yb h4];have hr2:=hr.2.resolve_left h4;rw[show((qb9 (n*128+(c - 128)) (i+1) r).2 - i).toNat=((qb9 (n*128+(c - 128)) (i+1) r).2 - (i+1)).toNat+1 by omega,zco]
def xbsj{o:LI}(h:20<o.length):qve (some o)=([],5):=by
 unfold qve;have:qbx o=false:=by
  match o,h with
  | x::y::r,h=>simp only[qbx];simp only[zac] at h;rw[show decide (r.length<=18)=false from decide_eq_false (by omega)];rfl
  | [x],h=>simp at h
  | [],h=>simp at h
 show(if qbx o=true then(o,0) else([],5):LI×Int)=_;rw[this];rfl
def xb2f: ∀(n:Nat) (b:LI),qad b=true->b.length<=n->∀o,qve (qwk 0 true b o)=qve (qu6 (qdz n b) o)
 | 0,b,_,h,o=>by have:b=[]:=zaj (by omega);subst this;rfl
 | n+1,b,hb,h,o=>by
  unfold qdz;by_cases he:b=[]
  ·subst he;rfl
  ·rw[yb he];have hr:=qiw hb;have hnum:=q89 b 0 0 true o (qak hb).2 (by omega) (by omega) (by simp) (fun h=>absurd h he);rw[show qb9 0 0 b=qap b from rfl] at hnum;by_cases h0:(qap b).2=0
   ·rw[yc h0,hnum,yc h0];simp[qu6]
   ·rw[yb h0,hnum,yb h0];have hr2:=hr.2.resolve_left h0
    conv=>rhs;unfold qu6
    by_cases hlong:20<o.length
    ·rw[yc (.inr hlong)]
     cases hg:qwk 0 true (List.drop ((qap b).2 - 0).toNat b) (qms o (qap b).1) with
     | none=>rfl
     | some o'=>
      rw[xbsj (by have:=qz8 _ _ _ _ _ hg;have:=xbhz o (qap b).1;omega)];rfl
    ·rw[yb (by rintro(h|h);cases h;exact hlong h),Int.sub_zero];rw[xb2f n _ (qba hb _) (by simp only[zas];omega)];unfold qms;split<;>rfl
def xb9m(b:LI)(hb:qad b=true): ∀(f i:Nat) (n:Int) (fresh:Bool) (o:LI),i<=b.length->b.length<f+i->0<=n->n<=4294967295->o.length<=2+i->
  qgu (fun _ _ _ _ _ _ _ _ _ _ _ _ _ _ _ _=>zR [.cl (.sli .u32 []),.cl (.int .i64 5)] []) (fun _ _ _ _ _ _ _ _ _ _ _ _ _ _ _ _ _ _ _ _ _ _ _ _ _ _ _ _ _ _ _ _ _=>zR [.cl (.sli .u32 []),.cl (.int .i64 5)] []) (fun _ _ _ _ _ _ _ _ _ _ _ _ _ _ _ _ _ _ _ _ _ _ _ _ _ _ _=>zR [.cl (.sli .u32 []),.cl (.int .i64 5)] [])
   (fun _ _ _ y80 _ _ _ _ y85=>cond (!y80) (zR [.cl (.sli .u32 []),.cl (.int .i64 5)] []) (let r86:Bool:=qk8 y85;cond (!r86) (zR [.cl (.sli .u32 []),.cl (.int .i64 5)] []) (zR [.cl (.sli .u32 y85),.cl (.int .i64 0)] []))) f b o.length n fresh i o=
   zR [.cl (.sli .u32 (qve (qwk n fresh (b.drop i) o)).1),.cl (.int .i64 (qve (qwk n fresh (b.drop i) o)).2)] []
 | 0,i,n,fresh,o,hi,hf,_,_,_=>by omega
 | f+1,i,n,fresh,o,hi,hf,h0,h1,ho=>by
  have ih:=fun n fresh o h0 h1 ho hi=>xb9m b hb f (i+1) n fresh o hi (by omega) h0 h1 ho;have hl:=(qak hb).1;generalize hag:qgu (fun _ _ _ _ _ _ _ _ _ _ _ _ _ _ _ _=>zR [.cl (.sli .u32 []),.cl (.int .i64 5)] []) (fun _ _ _ _ _ _ _ _ _ _ _ _ _ _ _ _ _ _ _ _ _ _ _ _ _ _ _ _ _ _ _ _ _=>zR [.cl (.sli .u32 []),.cl (.int .i64 5)] []) (fun _ _ _ _ _ _ _ _ _ _ _ _ _ _ _ _ _ _ _ _ _ _ _ _ _ _ _=>zR [.cl (.sli .u32 []),.cl (.int .i64 5)] [])
   (fun _ _ _ y80 _ _ _ _ y85=>cond (!y80) (zR [.cl (.sli .u32 []),.cl (.int .i64 5)] []) (let r86:Bool:=qk8 y85;cond (!r86) (zR [.cl (.sli .u32 []),.cl (.int .i64 5)] []) (zR [.cl (.sli .u32 y85),.cl (.int .i64 0)] []))) f=ag at ih
  show qjo (qgu _ _ _ _ f) _ _ _ _ b o.length n fresh i o=_;rw[hag];unfold qjo;refine qae (fun h=> ?_) fun h=> ?_
  ·obtain⟨c,hc⟩:=qbz (b:=b) (i:=i) (by omega);have hcr:=qa5 hb hc;rw[qd5 hc];have ti:(i:Int).toNat=i:=rfl;have main:cond (decide ((4294967295:Int)<n*128+c % 128)) (zR [.cl (.sli .u32 []),.cl (.int .i64 5)] []) (cond (!(decide (c<128))) (ag b o.length (n*128+c % 128) (decide (c<128)) ((i+1:Nat):Int) o)
     (cond (decide ((o.length:Int)=0)) (cond (u32Ok (n*128+c % 128)) (cond (Nat.ble ((o++qhc (n*128+c % 128)).length*4) LIMN) (cond (Nat.ble ((o++qhc (n*128+c % 128)).length) LIMN) (ag b (o++qhc (n*128+c % 128)).length 0 (decide (c<128)) ((i+1:Nat):Int) (o++qhc (n*128+c % 128))) none) none) none)
      (cond (Nat.ble ((o++[u32.wrap (n*128+c % 128)]).length*4) LIMN) (cond (Nat.ble ((o++[u32.wrap (n*128+c % 128)]).length) LIMN) (ag b (o++[u32.wrap (n*128+c % 128)]).length 0 (decide (c<128)) ((i+1:Nat):Int) (o++[u32.wrap (n*128+c % 128)])) none) none)))=
     zR [.cl (.sli .u32 (qve (if 4294967295<n*128+c % 128 then none else if c<128 then qwk 0 true (b.drop (i+1)) (qms o (n*128+c % 128)) else qwk (n*128+c % 128) false (b.drop (i+1)) o)).1),.cl (.int .i64 (qve (if 4294967295<n*128+c % 128 then none else if c<128 then qwk 0 true (b.drop (i+1)) (qms o (n*128+c % 128)) else qwk (n*128+c % 128) false (b.drop (i+1)) o)).2)] []:=by
    refine qae (fun h2=> ?_) fun h2=> ?_
    ·rw[yc h2];rfl
    ·rw[yb h2];by_cases h3:c<128
     ·rw[yc h3,yf h3];simp only[zc7,cond_false];unfold qms;refine qae (fun h4=> ?_) fun h4=> ?_
      ·have:o=[]:=zaj (by omega);subst this;rw[yc rfl];have hok:u32Ok (n*128+c % 128)=true:=by unfold u32Ok;rw[qab];exact yf (by omega)
       have e1:qhc (n*128+c % 128)=qb5 (n*128+c % 128):=by unfold qhc;rw[qab]
       have hlen:(qb5 (n*128+c % 128)).length=2:=by unfold qb5;split<;>rfl
       rw[e1,za9];exact qam hok (qc4 (by rw[hlen];simp) (qc4 (by rw[hlen];simp) (ih _ _ _ (by omega) (by omega) (by omega) (by omega))))
      ·rw[yb (by intro e;subst e;simp at h4),show u32.wrap (n*128+c % 128)=n*128+c % 128 from u32_in _ (by omega)];refine qc4 (by simp only[zaf,zac,zbg];omega) (qc4 (by simp only[zaf,zac,zbg];omega) (ih _ _ _ (by omega) (by omega) (by simp only[zaf,zac,zbg];omega) (by omega)))
     ·rw[yb h3,decide_eq_false h3];simp only[Bool.not_false,cond_true];exact ih _ _ _ (by omega) (by omega) (by omega) (by omega)
   have wi:i64.wrap ((i:Int)+1)=((i+1:Nat):Int):=(i64_in _ (by omega)).trans (by omega);have wn:u64.wrap (n*128)=n*128:=u64_in _ (by omega);have wm:Int.tmod c 128=c % 128:=zce hcr.1;have wc:u64.wrap (c % 128)=c % 128:=u64_in _ (by omega);have ws:u64.wrap (n*128+c % 128)=n*128+c % 128:=u64_in _ (by omega)
   conv=>rhs;unfold qwk
   cases fresh with
   | true=>
    simp only[cond_true,true_and];refine qaq (by omega) (qaq h ?_);simp only[ti,hc,zak];refine qae (fun h5=> ?_) fun h5=> ?_
    ·rw[yc h5];rfl
    ·rw[yb h5,wm,wc,wn,ws,wi];refine qaq (by omega) (qaq h (qaq (by omega) (qaq h main)))
   | false=>
    simp only[cond_false,zan,false_and,if_false];refine qaq (by omega) (qaq h ?_);simp only[ti,hc,zak];rw[wm,wc,wn,ws,wi];exact qaq (by omega) (qaq h main)
  ·rw[qe3 (by omega)]
   cases fresh with
   | false=>rfl
   | true=>
    show cond (!true) _ (cond (!(qk8 o)) _ _)=_;unfold qk8;rw[qab];show _=zR [.cl (.sli .u32 (if qbx o=true then(o,0) else([],5):LI×Int).1),.cl (.int .i64 (if qbx o=true then(o,0) else([],5):LI×Int).2)] [];cases qbx o<;>rfl
def xbum(b:LI)(hp:qad b=true):xbff b=zR [.cl (.sli .u32 (qcl b).1),.cl (.int .i64 (qcl b).2)] []:=by
 unfold xbff qcl;simp only[qab];refine(xb9m b hp FUEL 0 0 true [] (by omega) (by have:=(qak hp).1;unfold FUEL;omega) (by omega) (by omega) (by simp)).trans ?_;rw[zbr,xb2f b.length b hp (zap _)];have:qve (qu6 (qdz b.length b) [])=qcw b:=by unfold qve qcw qdb;rfl
 rw[this]
open IntWalk (i64_in u8_in u32_in u64_in i64_quo u8_quo rem_in)
def qic{n:Int}(h:qc1 n=true):0<=n/\n<=1000:=by unfold qc1 at h;rw[qab] at h;exact ye h
def qfw{n:Int}(h:0<=n/\n<=1000):qc1 n=true:=by unfold qc1;rw[qab];exact yf h
def xb0k(tag:Int)(b:LI)(hp:qad b=true):xbye tag b=zB (qdn tag b):=by
 unfold xbye qdn qbj qgk qjb qcl u8Valid;simp only[qab];refine qae (fun h=> ?_) fun h=> ?_
 ·rw[yc h]
  match b,hp with
  | [],_=>rfl
  | [x],_=>
   refine qaq (by simp) (qaq (by simp) ?_);simp only[zar,zak];refine qae (fun h=>qa7 ?_) fun h=>qaq (by simp) (qa7 ?_)
   ·simp[h]
   ·simp[h]
  | x::y::r,_=>exact qca (by simp only[zac];omega) (qa7 (by simp))
 ·rw[yb h];refine qae (fun h=> ?_) fun h=> ?_
  ·rw[yc h];exact qam hp rfl
  ·rw[yb h];refine qae (fun h=> ?_) fun h=> ?_
   ·rw[yc h];exact qam hp rfl
   ·rw[yb h];refine qae (fun h=> ?_) fun h=> ?_
    ·rw[yc h];refine qa7 ?_;rw[zbn];simp only[yd];cases b<;>simp;omega
    ·rw[yb h];refine qae (fun h=> ?_) fun h=> ?_
     ·rw[yc h];exact qam hp rfl
     ·rw[yb h];refine qae (fun h=> ?_) fun h=> ?_
      ·rw[yc h];exact qam hp rfl
      ·rw[yb h];refine qae (fun h=> ?_) fun h=> ?_
       ·rw[yc h]
       ·rw[yb h]
def xb7e(tag:Int)(b:LI)(hp:qad b=true):xb52 tag b=zB (qdn tag b):=xb0k tag b hp
def qto{l:LI}(hb:qad l=true):0<=(qac l).1/\(qac l).1<16777216/\0<=(qac l).2/\(qac l).2<=4/\(qac l).2<=l.length:=by
 match l,hb with
 | [],_=>decide
 | c::t,hb=>
  have hc:=qa5 hb (i:=0) (x:=c) rfl;have ht:=(qak (qbu hb)).2;simp only[zbw] at ht;rw[qb1];split
  ·simp only[zac];omega
  ·split
   ·simp only[zac];omega
   ·split
    ·simp only[zac];omega
    ·have:=qvw ht (j:=(c - 128).toNat) (by omega);simp only[zac];omega
def parse1(P:LI->Int×Nd×Int)(t:Int)(r:LI):Int×Nd×Int:=
 if qbg t=false then(4,nd0,0)
 else if(qac r).2=0\/(r.length:Int) - (qac r).2<(qac r).1 then(1,nd0,0)
 else if qav t=false then(if qbj t ((r.drop (qac r).2.toNat).take (qac r).1.toNat)=true then(0,(t,((r.drop (qac r).2.toNat).take (qac r).1.toNat),[]),1+(qac r).2+(qac r).1) else(5,nd0,0))
 else if(qcm P ((r.drop (qac r).2.toNat).take (qac r).1.toNat).length ((r.drop (qac r).2.toNat).take (qac r).1.toNat)).1=0 then
  (if t=49/\qa8 (qcm P ((r.drop (qac r).2.toNat).take (qac r).1.toNat).length ((r.drop (qac r).2.toNat).take (qac r).1.toNat)).2.2=false then(6,nd0,0) else(0,(t,[],(qcm P ((r.drop (qac r).2.toNat).take (qac r).1.toNat).length ((r.drop (qac r).2.toNat).take (qac r).1.toNat)).2.1.map ndCV),1+(qac r).2+(qac r).1))
  else((qcm P ((r.drop (qac r).2.toNat).take (qac r).1.toNat).length ((r.drop (qac r).2.toNat).take (qac r).1.toNat)).1,nd0,0)
def qd1(n:Nat)(t:Int)(r:LI):qas (n+1) (t::r)=parse1 (qas n) t r:=rfl
def qix{P:LI->Int×Nd×Int}{t:Int}{r:LI}(h:(parse1 P t r).1=0):(parse1 P t r).2.2=1+(qac r).2+(qac r).1/\¬qbg t=false/\¬((qac r).2=0\/(r.length:Int) - (qac r).2<(qac r).1):=by
 unfold parse1 at h ⊢;split at h
 ·exact absurd h (by decide: ¬(4:Int)=0)
 ·rename_i h1;rw[yb h1];split at h
  ·exact absurd h (by decide: ¬(1:Int)=0)
  ·rename_i h2;rw[yb h2];refine⟨?_,h1,h2⟩;split at h
   ·rename_i h3;rw[yc h3];split at h
    ·rename_i h4;rw[yc h4]
    ·exact absurd h (by decide: ¬(5:Int)=0)
   ·rename_i h3;rw[yb h3];split at h
    ·rename_i h4;rw[yc h4];split at h
     ·exact absurd h (by decide: ¬(6:Int)=0)
     ·rename_i h5;rw[yb h5]
    ·rename_i h4;exact absurd h h4
def qf7{n:Nat}{b:LI}(hb:qad b=true)(h:(qas n b).1=0):0<(qas n b).2.2/\(qas n b).2.2<=b.length:=by
 match n,b,hb with
 | 0,_,_=>exact absurd h (by decide: ¬(3:Int)=0)
 | n+1,[],_=>exact absurd h (by decide: ¬(1:Int)=0)
 | n+1,t::r,hb=>
  rw[qd1] at h ⊢;have:=qix h;have hr:=qto (qbu hb);simp only[zbw] at hr;simp only[zac];omega
def q9c{d:Int}{b:LI}(hb:qad b=true)(h:(qas d.toNat b).1=0):qka b d=b.drop (qas d.toNat b).2.2.toNat:=by
 obtain⟨n,hn⟩: ∃n,d.toNat=n:=⟨_,rfl⟩;rw[hn] at h ⊢
 match n,b,hb with
 | 0,_,_=>exact absurd h (by decide: ¬(3:Int)=0)
 | n+1,[],_=>exact absurd h (by decide: ¬(1:Int)=0)
 | n+1,t::r,hb=>
  rw[qd1] at h ⊢;have hu:=qix h;have hr:=qto (qbu hb);simp only[zbw] at hr;unfold qka;rw[yb (by omega)];show(if qbg t=false then r else _)=_;rw[yb hu.2.1,yb (fun e=>hu.2.2 (.inl e)),yb (fun e=>hu.2.2 (.inr e)),hu.1,
   show(1+(qac r).2+(qac r).1).toNat=((qac r).2+(qac r).1).toNat+1 by omega,zco]
def qma(f:LI->Int×Nd×Int)(m:Nat):qcm f m []=(0,[],[]):=by cases m<;>rfl
def qua{f:LI->Int×Nd×Int}{m:Nat}{b:LI}(hne:b≠[])(h:(f b).1=0):qcm f (m+1) b=((qcm f m (b.drop (f b).2.2.toNat)).1,(f b).2.1::(qcm f m (b.drop (f b).2.2.toNat)).2.1,b.take (f b).2.2.toNat::(qcm f m (b.drop (f b).2.2.toNat)).2.2):=by show(if b=[] then _ else _)=_;rw[yb hne,yc h]
def qz0{f:LI->Int×Nd×Int}{m:Nat}{b:LI}(hne:b≠[])(h: ¬(f b).1=0):qcm f (m+1) b=((f b).1,[],[]):=by show(if b=[] then _ else _)=_;rw[yb hne,yb h]
def qzl{b:LI}{d:Int}(h:(qas d.toNat b).1=0):qfb b d=((qas d.toNat b).2.1,(qas d.toNat b).2.2,0):=by unfold qfb;rw[qab];exact yc h
def qzk{b:LI}{d:Int}(h: ¬(qas d.toNat b).1=0):qfb b d=(nd0,0,(qas d.toNat b).1):=by unfold qfb;rw[qab];exact yb h
def xbpv(rk:Nat)(F0:Int->OO)(F1:Int->Int->Int->Int->LC->LC->OO)(v1 v2 v3 v4 v7:Int)(h1:1<=v1)(h2:v1<=1000)(h3:v1.toNat<rk+1): ∀(f m:Nat) (b:LI) (rows kids:LC),qad b=true->b.length<=m->b.length<f->rows.length+b.length<=1000000->kids.length+b.length<=1000000->
  qip rk (fun _ y16=>(fun _ _ _ _ _ _ _ _ _ _ _ _ _ _ _ _ _ _ _ _ _ _ _ _ _ _ _ _ _ _ _ _ _ _ _ _=>F0 y16)) (fun _ y54 y55 y56 _ _ _ _ y61 _ y63 y64=>F1 y54 y55 y56 y61 y63 y64) f v1 v2 v3 v4 b rows.length v7 kids.length rows kids
   =if(qcm (qas (v1 - 1).toNat) m b).1=0 then F1 v2 v3 v4 v7 (rows++(qcm (qas (v1 - 1).toNat) m b).2.2.map (CV.sli .u8)) (kids++(qcm (qas (v1 - 1).toNat) m b).2.1.map ndCV) else F0 (qcm (qas (v1 - 1).toNat) m b).1
 | 0,m,b,rows,kids,hb,hm,hf,hr,hk=>by omega
 | f+1,m,b,rows,kids,hb,hm,hf,hr,hk=>by
  show qjq rk (qip rk (fun _ y16=>(fun _ _ _ _ _ _ _ _ _ _ _ _ _ _ _ _ _ _ _ _ _ _ _ _ _ _ _ _ _ _ _ _ _ _ _ _=>F0 y16)) (fun _ y54 y55 y56 _ _ _ _ y61 _ y63 y64=>F1 y54 y55 y56 y61 y63 y64) f) (fun _ y16=>(fun _ _ _ _ _ _ _ _ _ _ _ _ _ _ _ _ _ _ _ _ _ _ _ _ _ _ _ _ _ _ _ _ _ _ _ _=>F0 y16)) (fun _ y54 y55 y56 _ _ _ _ y61 _ y63 y64=>F1 y54 y55 y56 y61 y63 y64) v1 v2 v3 v4 b rows.length v7 kids.length rows kids=_;unfold qjq;refine qae (fun h=> ?_) fun h=> ?_
  ·have hne:b≠[]:=by intro e;subst e;simp at h
   simp only[show i64.wrap (v1 - 1)=v1 - 1 from i64_in _ (by omega)];refine qam ?_ ?_
   ·simp only[zab,yd];exact⟨hb,qfw (by omega),by omega⟩
   ·obtain⟨m,rfl⟩: ∃k,m=k+1:=⟨m - 1,by omega⟩;by_cases hz:(qas (v1 - 1).toNat b).1=0
    ·have hu:=qf7 hb hz;rw[qua hne hz];simp only[qzl hz];refine qyh (by simp) ?_;refine qc4 (by simp only[zaf,za0];omega) (qc4 (by simp only[zaf,za0];omega) (qaq (by omega) (qaq hu.2 ?_)));refine qc4 (by simp only[zaf,za0];omega) (qc4 (by simp only[zaf,za0];omega) (qaq (by omega) (qaq hu.2 ?_)));refine(xbpv rk F0 F1 v1 v2 v3 v4 v7 h1 h2 h3 f m _ _ _ (qba hb _) (by simp only[zas];omega) (by simp only[zas];omega) (by simp only[zas,zaf,za0];omega) (by simp only[zas,zaf,za0];omega)).trans ?_;simp only[zb7,List.singleton_append,zbf];rfl
    ·rw[qz0 hne hz];simp only[qzk hz];refine xbkf hz ?_;rw[yb hz]
  ·have e:b=[]:=zaj (by omega);subst e;rw[qma];simp
def qzz{f:LI->Int×Nd×Int}(hf: ∀b,qad b=true->(f b).1=0->0<(f b).2.2/\(f b).2.2<=b.length): ∀(m:Nat) (b:LI),qad b=true->(qcm f m b).2.1.length<=b.length/\(qcm f m b).2.2.length<=b.length/\∀x∈(qcm f m b).2.2,rowB x=true
 | 0,b,hb=>by simp[qcm]
 | m+1,b,hb=>by
  by_cases hne:b=[]
  ·subst hne;rw[qma];simp
  ·by_cases hz:(f b).1=0
   ·have hu:=hf b hb hz;have ih:=qzz hf m (b.drop (f b).2.2.toNat) (qba hb _);rw[qua hne hz];simp only[zac,zas,zaw] at ih ⊢;refine⟨by omega,by omega,fun x hx=>hx.elim (fun e=> ?_) (ih.2.2 x)⟩;subst e;have:=qgx hb (f b).2.2.toNat;unfold qad at this;rwa [qab] at this
   ·rw[qz0 hne hz];simp
def qoq{l:List LI}(h1:l.length<=1000000)(h2: ∀x∈l,rowB x=true):qhj (l.map (CV.sli .u8))=true:=by unfold qhj;rw[qab];simp only[zab,yd,zai,zau,zbo];refine⟨h1,fun x hx=> ?_⟩;obtain⟨y,hy,rfl⟩:=hx;exact h2 y hy
def qgn(l:List LI):qbp (l.map (CV.sli .u8))=qa8 l:=by unfold qbp;rw[qab,zc8];congr 1;exact(zcq fun x _=>rfl).trans (List.map_id l)
noncomputable def xb41(p:Int×Nd×Int):OO:=if p.1=0 then zR [.cl (.agg [.int .i64 p.2.1.1,.sli .u8 p.2.1.2.1,.slg 3 p.2.1.2.2]),.cl (.int .i64 p.2.2),.cl (.int .i64 0)] [] else zR [.cl (.agg [.int .i64 0,.sli .u8 [],.slg 3 []]),.cl (.int .i64 0),.cl (.int .i64 p.1)] []
def xbk7{t:Int}{r:LI}{A B:Int}(hA:0<=A)(hB:0<=B):List.drop (Int.toNat (1+B)) (List.take (Int.toNat (1+B+A)) (t::r))=(r.drop B.toNat).take A.toNat:=by rw[show(1+B).toNat=B.toNat+1 by omega,show(1+B+A).toNat=(B.toNat+A.toNat)+1 by omega,zb3,zco,List.drop_take,show B.toNat+A.toNat - B.toNat=A.toNat by omega]
def xbut(rk:Nat)(b:LI)(deep:Int)(hb:qad b=true)(hd:0<=deep/\deep<=1000)(hk:deep.toNat<rk+1):q7u rk b deep=xb41 (qas deep.toNat b):=by
 unfold q7u;refine qae (fun h=> ?_) fun h=> ?_
 ·subst h;rfl
 ·obtain⟨n,hn⟩: ∃n,deep.toNat=n+1:=⟨deep.toNat - 1,by omega⟩;rw[hn]
  match b,hb with
  | [],_=>rfl
  | t::r,hb=>
   have ht:=qa5 hb (i:=0) (x:=t) rfl;have hl:=(qak hb).1;have hbt:=qbu hb;simp only[zbw] at hbt;simp only[zac] at hl;have hr:=qto hbt;rw[qd1];unfold parse1;simp only[qep,qhm,qbn,qdn,qab,zac,zar,zak,List.drop_one,zbw];refine qca (by omega) (qaq (by omega) ?_);rw[show i64.wrap t=t from i64_in _ (by omega)];refine qc5 (fun h=> ?_) fun h=> ?_
   ·rw[yc (by simpa using h)];rfl
   rw[yb (by simpa using h)];refine qaq (by omega) (qam hbt ?_);generalize hA:(qac r).1=A at*;generalize hB:(qac r).2=B at*;refine qae (fun h5=> ?_) fun h5=> ?_
   ·rw[yc (.inl h5)];rfl
   rw[show i64.wrap (((r.length+1:Nat):Int) - 1)=r.length from(i64_in _ (by omega)).trans (by omega),show i64.wrap ((r.length:Int) - B)=r.length - B from i64_in _ (by omega)];refine qae (fun h6=> ?_) fun h6=> ?_
   ·rw[yc (.inr h6)];rfl
   rw[yb (by omega)];simp only[show i64.wrap ((1:Int)+B)=1+B from i64_in _ (by omega),show i64.wrap (1+B+A)=1+B+A from i64_in _ (by omega)];refine qaq (by omega) (qaq (by omega) (qaq (by omega) ?_));rw[xbk7 (by omega) (by omega)];have hin:qad ((r.drop B.toNat).take A.toNat)=true:=qgx (qba hbt _) _;have hil:((r.drop B.toNat).take A.toNat).length<=1000000:=(qak hin).1;generalize hI:(r.drop B.toNat).take A.toNat=I at*;refine qc5 (fun h7=> ?_) fun h7=> ?_
   ·rw[yc (by simpa using h7)];refine qam hin (qc5 (fun h8=> ?_) fun h8=> ?_)
    ·rw[yb (by simpa using h8)];rfl
    ·rw[yc (by simpa using h8)];rfl
   ·rw[yb (by simpa using h7)];refine(xbpv rk (fun e=>zR [.cl (.agg [.int .i64 0,.sli .u8 [],.slg 3 []]),.cl (.int .i64 0),.cl (.int .i64 e)] [])
     (fun y54 y55 y56 y61 y63 y64=>cond (decide (y54=49)) (cond (qhj y63) (cond (!(qbp y63)) (zR [.cl (.agg [.int .i64 0,.sli .u8 [],.slg 3 []]),.cl (.int .i64 0),.cl (.int .i64 6)] []) (zR [.cl (.agg [.int .i64 y61,.sli .u8 [],.slg 3 y64]),.cl (.int .i64 (i64.wrap (y56+y55))),.cl (.int .i64 0)] [])) none) (zR [.cl (.agg [.int .i64 y61,.sli .u8 [],.slg 3 y64]),.cl (.int .i64 (i64.wrap (y56+y55))),.cl (.int .i64 0)] []))
     deep t A (1+B) t (by omega) hd.2 hk FUEL I.length I [] [] hin (zap _) (by unfold FUEL;omega) (by simp;omega) (by simp;omega)).trans ?_
    rw[show(deep - 1).toNat=n by omega];have hpl:=qzz (f:=qas n) (fun b hb h=>qf7 hb h) I.length I hin;generalize hP:qcm (qas n) I.length I=p at*;obtain⟨p1,p2,p3⟩:=p;simp only[za9] at hpl ⊢;by_cases hz:p1=0
    ·subst hz;rw[yc rfl,yc rfl,show i64.wrap (1+B+A)=1+B+A from i64_in _ (by omega),qgn];refine qae (fun h8=>qam (qoq (by omega) hpl.2.2) (qc5 (fun h9=> ?_) fun h9=> ?_)) fun h8=> ?_
     ·rw[yc ⟨h8,by simpa using h9⟩];rfl
     ·rw[yb (fun e=>by simp[e.2] at h9)];rfl
     ·rw[yb (fun e=>h8 e.1)];rfl
    ·rw[yb hz,yb hz];unfold xb41;rw[yb hz]
def xbh2(b:LI)(d:Int):xb41 (qas d.toNat b)=zR [.cl (.agg [.int .i64 (qfb b d).1.1,.sli .u8 (qfb b d).1.2.1,.slg 3 (qfb b d).1.2.2]),.cl (.int .i64 (qfb b d).2.1),.cl (.int .i64 (qfb b d).2.2)] []:=by
 unfold xb41;by_cases hz:(qas d.toNat b).1=0
 ·rw[yc hz,qzl hz]
 ·rw[yb hz,qzk hz];rfl
def xb1a(rk:Nat)(b:LI)(deep:Int)(hp:(qad b&&(qc1 deep&&decide (deep.toNat<rk+1)))=true):q7u rk b deep=zR [.cl (.agg [.int .i64 (qfb b deep).1.1,.sli .u8 (qfb b deep).1.2.1,.slg 3 (qfb b deep).1.2.2]),.cl (.int .i64 (qfb b deep).2.1),.cl (.int .i64 (qfb b deep).2.2)] []:=by simp only[zab,yd] at hp;rw[<- xbh2];exact xbut rk b deep hp.1 (qic hp.2.1) hp.2.2
open IntWalk (i64_in u8_in u32_in u64_in i64_quo u8_quo rem_in)
noncomputable def xbqg(p:Int×Nd)(l:LI)(d:Int):Tree:=.ite (!(decide (p.1=0))) (.leaf (.pan (.iface 85 (.agg [.int .i64 p.1])) [some ⟨.var [.cl (.sli .u8 l),.cl (.int .i64 d)],false⟩])) (.leaf (.ret [.cl (.agg [.int .i64 p.2.1,.sli .u8 p.2.2.1,.slg 3 p.2.2.2])] [some ⟨.var [.cl (.sli .u8 l),.cl (.int .i64 d)],false⟩]))
def xbmk(t:Int)(r:LI){d:Int}(h:0<d):qka (t::r) d=if qbg t=false then r
   else if(qac r).2=0 then qlb r
   else if(r.length:Int) - (qac r).2<(qac r).1 then r.drop (qac r).2.toNat
   else r.drop ((qac r).2+(qac r).1).toNat:=by
 unfold qka;rw[yb (by omega)]
def xbub(rk:Nat)(l:LI)(d:Int)(hb:qad l=true)(hd:0<=d/\d<=1000)(hk:d.toNat<rk+1):q7m rk l d=(xbqg ((qas d.toNat l).1,(qas d.toNat l).2.1) (qka l d) d).eval:=by
 unfold q7m;refine qae (fun h=>qam hb ?_) fun h=> ?_
 ·obtain⟨n,hn⟩: ∃n,d.toNat=n+1:=⟨d.toNat - 1,by omega⟩;rw[hn]
  match l,hb with
  | [],_=>
   show _=(xbqg (1,nd0) (qka [] d) d).eval;have:qka [] d=[]:=by unfold qka;rw[yb (by omega)]
   rw[this];rfl
  | t::r,hb=>
   have ht:=qa5 hb (i:=0) (x:=t) rfl;have hl:=(qak hb).1;have hbt:=qbu hb;simp only[zbw] at hbt;simp only[zac] at hl;have hr:=qto hbt;rw[qd1,xbmk t r h];unfold parse1;simp only[qep,qbn,qdn,qqp,qhx,qfc,qab,List.isEmpty_cons,cond_false,zba,zbw,Bool.not_not];refine qc5 (fun h1=>qam hbt ?_) fun h1=> ?_
   ·have hkn: ¬qbg t=false:=by simp[h1]
    rw[yb hkn,yb hkn];refine qae (fun h5=> ?_) fun h5=> ?_
    ·rw[yc (.inl h5),yc h5];rfl
    rw[yb h5];have hdl:((r.drop (qac r).2.toNat).length:Int)=r.length - (qac r).2:=by simp only[zas];omega
    refine qae (fun h6=> ?_) fun h6=> ?_
    ·rw[yb (show ¬((qac r).2=0\/(r.length:Int) - (qac r).2<(qac r).1) by omega),yb (show ¬((r.length:Int) - (qac r).2<(qac r).1) by omega)];refine qaq (by omega) (qaq h6 (qaq (by omega) (qaq h6 ?_)));have hin:qad ((r.drop (qac r).2.toNat).take (qac r).1.toNat)=true:=qgx (qba hbt _) _;have hil:((r.drop (qac r).2.toNat).take (qac r).1.toNat).length<=1000000:=(qak hin).1;rw[show List.drop (qac r).1.toNat (List.drop (qac r).2.toNat r)=r.drop ((qac r).2+(qac r).1).toNat by rw[List.drop_drop,show(qac r).2.toNat+(qac r).1.toNat=((qac r).2+(qac r).1).toNat by omega]];generalize hI:(r.drop (qac r).2.toNat).take (qac r).1.toNat=I at*;refine qc5 (fun h7=>qam ?_ ?_) fun h7=>qam hin ?_
     ·simp only[zab,yd];exact⟨hin,qfw hd,by omega,by omega⟩
     ·rw[yb (show ¬qav t=false by simp[h7])];unfold qbe;rw[qab,show(d - 1).toNat=n by omega];generalize qcm (qas n) I.length I=p;obtain⟨p1,p2,p3⟩:=p;simp only[];by_cases hz:p1=0
      ·subst hz;rw[yc rfl,yc rfl];by_cases h8:t=49/\qa8 p3=false
       ·rw[yc h8,yc h8];rfl
       ·rw[yb h8,yb h8];rfl
      ·rw[yb hz,yb hz];rfl
     ·rw[yc h7];refine qc5 (fun h8=>qam (qku (by omega)) ?_) fun h8=> ?_
      ·rw[yc h8];rfl
      ·rw[yb (show ¬_=true by simp[h8])];rfl
    ·rw[yc (show(qac r).2=0\/(r.length:Int) - (qac r).2<(qac r).1 by omega),yc (show(r.length:Int) - (qac r).2<(qac r).1 by omega)];rfl
   ·rw[yc h1,yc h1];rfl
 ·have e:d.toNat=0:=by omega
  have:qka l d=l:=by unfold qka;rw[yc (by omega)]
  rw[this,e];rfl
def xb0p(rk:Nat)(l:LI)(d:Int)(hp:(qad l&&(qc1 d&&decide (d.toNat<rk+1)))=true):q7m rk l d=(Tree.ite (!(decide ((qmk l d).1=0))) (.leaf (.pan (.iface 85 (.agg [.int .i64 ((qmk l d).1)])) [some ⟨.var [.cl (.sli .u8 ((qmk l d).2.2)),.cl (.int .i64 d)],false⟩])) (.leaf (.ret [.cl (.agg [.int .i64 ((qmk l d).2.1.1),.sli .u8 ((qmk l d).2.1.2.1),.slg 3 ((qmk l d).2.1.2.2)])] [some ⟨.var [.cl (.sli .u8 ((qmk l d).2.2)),.cl (.int .i64 d)],false⟩]))).eval:=by simp only[zab,yd] at hp;rw[xbub rk l d hp.1 (qic hp.2.1) hp.2.2];unfold qmk;rw[qab];rfl
def xbps(b:LI)(d:Int):(qmk b d).1=(qas d.toNat b).1:=by unfold qmk;rw[qab]
def xbpt(b:LI)(d:Int):(qmk b d).2.1=(qas d.toNat b).2.1:=by unfold qmk;rw[qab]
def xbpu(b:LI)(d:Int):(qmk b d).2.2=qka b d:=by unfold qmk;rw[qab]
def xbhp(rk:Nat)(F0:Int->OO)(F1:LC->LC->OO)(l:LI)(d tag:Int)(v9:Int)(h1:0<=v9)(h2:v9<=1000)(h3:v9.toNat<rk)(k0:Int->LI->Int->OO)(k1:Int->Nat->LI->Int->LI->Int->Int->Nat->LC->LI->Int->LC->OO)(hk0: ∀e,k0 e l d=F0 e)(hk1: ∀a b c e rows f g kids,k1 tag a b c l d tag e rows f g kids=F1 rows kids): ∀(f m:Nat) (b:LI) (rows kids:LC),qad b=true->b.length<=m->b.length<f->rows.length+b.length<=1000000->kids.length+b.length<=1000000->
  qkx rk k0 k1 f tag rows.length l d tag kids.length rows b v9 kids
   =if(qcm (qas v9.toNat) m b).1=0 then F1 (rows++(qcm (qas v9.toNat) m b).2.2.map (CV.sli .u8)) (kids++(qcm (qas v9.toNat) m b).2.1.map ndCV) else F0 (qcm (qas v9.toNat) m b).1
 | 0,m,b,rows,kids,hb,hm,hf,hr,hk=>by omega
 | f+1,m,b,rows,kids,hb,hm,hf,hr,hk=>by
  show qlu rk (qkx rk k0 k1 f) k0 k1 tag rows.length l d tag kids.length rows b v9 kids=_;unfold qlu;refine qae (fun h=> ?_) fun h=> ?_
  ·have hne:b≠[]:=by intro e;subst e;simp at h
   refine qam ?_ ?_
   ·simp only[zab,yd];exact⟨hb,qfw (by omega),h3⟩
   ·obtain⟨m,rfl⟩: ∃k,m=k+1:=⟨m - 1,by omega⟩;simp only[xbps,xbpt,xbpu];by_cases hz:(qas v9.toNat b).1=0
    ·have hu:=qf7 hb hz;rw[qua hne hz];refine xbah hz ?_;rw[q9c hb hz];rw[show i64.wrap ((b.length:Int) - (((b.drop (qas v9.toNat b).2.2.toNat).length:Nat):Int))=(qas v9.toNat b).2.2 from(i64_in _ (by have:=(qak hb).1;simp only[zas];omega)).trans (by simp only[zas];omega)];refine qc4 (by simp only[zaf,za0];omega) (qc4 (by simp only[zaf,za0];omega) (qaq (by omega) (qaq hu.2 ?_)));refine qc4 (by simp only[zaf,za0];omega) (qc4 (by simp only[zaf,za0];omega) ?_);refine(xbhp rk F0 F1 l d tag v9 h1 h2 h3 k0 k1 hk0 hk1 f m _ _ _ (qba hb _) (by simp only[zas];omega) (by simp only[zas];omega) (by simp only[zas,zaf,za0];omega) (by simp only[zas,zaf,za0];omega)).trans ?_;simp only[zb7,List.singleton_append,zbf];rfl
    ·rw[qz0 hne hz];refine xbkf hz ?_;rw[yb hz,hk0]
  ·have e:b=[]:=zaj (by omega);subst e;rw[qma,hk1];simp
def xb0n(rk:Nat)(tag:Int)(b:LI)(l:LI)(d:Int)(hp:(qad b&&(qc1 d&&decide (0<d/\d.toNat<rk+1)))=true):xbez rk tag b l d=(Tree.ite (!(decide ((qbe tag b d).1=0))) (.leaf (.pan (.iface 85 (.agg [.int .i64 ((qbe tag b d).1)])) [some ⟨.var [.cl (.sli .u8 l),.cl (.int .i64 d)],false⟩])) (.leaf (.ret [.cl (.agg [.int .i64 ((qbe tag b d).2.1),.sli .u8 ((qbe tag b d).2.2.1),.slg 3 ((qbe tag b d).2.2.2)])] [some ⟨.var [.cl (.sli .u8 l),.cl (.int .i64 d)],false⟩]))).eval:=by
 simp only[zab,yd] at hp;obtain⟨hb,hd,h0,hk⟩:=hp;have hd:=qic hd;have hlen:=(qak hb).1;unfold xbez;simp only[qab];rw[show i64.wrap (d - 1)=d - 1 from i64_in _ (by omega)];refine(xbhp rk (fun e=>some (.pan (.iface 85 (.agg [.int .i64 e])) [some ⟨.var [.cl (.sli .u8 l),.cl (.int .i64 d)],false⟩]))
  (fun rows kids=>cond (!decide (tag=49)) (zR [.cl (.agg [.int .i64 tag,.sli .u8 [],.slg 3 kids])] [some ⟨.var [.cl (.sli .u8 l),.cl (.int .i64 d)],false⟩]) (cond (qhj rows) (cond (qbp rows) (zR [.cl (.agg [.int .i64 tag,.sli .u8 [],.slg 3 kids])] [some ⟨.var [.cl (.sli .u8 l),.cl (.int .i64 d)],false⟩]) (cond true (some (.pan (.iface 85 (.agg [.int .i64 6])) [some ⟨.var [.cl (.sli .u8 l),.cl (.int .i64 d)],false⟩])) (zR [.cl (.agg [.int .i64 tag,.sli .u8 [],.slg 3 kids])] [some ⟨.var [.cl (.sli .u8 l),.cl (.int .i64 d)],false⟩]))) none))
  l d tag (d - 1) (by omega) (by omega) (by omega) _ _ (fun _=>rfl) (fun _ _ _ _ _ _ _ _=>rfl) FUEL b.length b [] [] hb (zap _) (by unfold FUEL;omega) (by simp;omega) (by simp;omega)).trans ?_
 unfold qbe;rw[qab];have hpl:=qzz (f:=qas (d - 1).toNat) (fun b hb h=>qf7 hb h) b.length b hb;generalize hP:qcm (qas (d - 1).toNat) b.length b=p at*;obtain⟨p1,p2,p3⟩:=p;simp only[za9] at hpl ⊢;by_cases hz:p1=0
 ·subst hz;rw[yc rfl,qgn];refine qa0 (fun h8=> ?_) fun h8=>qam (qoq (by omega) hpl.2.2) (qc5 (fun h9=> ?_) fun h9=> ?_)
  ·simp[h8,Tree.eval]
  ·simp[h8,h9,Tree.eval]
  ·simp[h8,h9,Tree.eval]
 ·rw[yb hz];simp[hz,Tree.eval]
def xb0m(b:LI)(hp:qad b=true):xbex b=zR [.cl (.agg [.int .i64 ((qan b).1.1),.sli .u8 ((qan b).1.2.1),.slg 3 ((qan b).1.2.2)]),.cl (.int .i64 ((qan b).2))] []:=by
 have hl:=(qak hp).1;unfold xbex;simp only[xbps,xbpt,xbpu];refine qca (by omega) (qam ?_ ?_)
 ·simp only[zab];exact⟨hp,qfw (by omega)⟩
 unfold qan qzj;rw[qab];show _=zR [.cl (.agg [.int .i64 (if(qas 32 b).1=0 then(if(qas 32 b).2.2<b.length then(nd0,7) else((qas 32 b).2.1,0)) else(nd0,(qas 32 b).1):Nd×Int).1.1,.sli .u8 (if(qas 32 b).1=0 then(if(qas 32 b).2.2<b.length then(nd0,7) else((qas 32 b).2.1,0)) else(nd0,(qas 32 b).1):Nd×Int).1.2.1,.slg 3 (if(qas 32 b).1=0 then(if(qas 32 b).2.2<b.length then(nd0,7) else((qas 32 b).2.1,0)) else(nd0,(qas 32 b).1):Nd×Int).1.2.2]),.cl (.int .i64 (if(qas 32 b).1=0 then(if(qas 32 b).2.2<b.length then(nd0,7) else((qas 32 b).2.1,0)) else(nd0,(qas 32 b).1):Nd×Int).2)] [];by_cases hz:(qas (32:Int).toNat b).1=0
 ·have hu:=qf7 hp hz;rw[q9c hp hz];have hz':(qas 32 b).1=0:=hz;rw[yc hz'];refine xbah hz (qae (fun h=> ?_) fun h=> ?_)
  ·rw[yb (by simp only[zas] at h;exact fun e=>by have:(qas (32:Int).toNat b).2.2<b.length:=e;omega)];rfl
  ·rw[yc (by simp only[zas] at h;show(qas (32:Int).toNat b).2.2<b.length;omega)];rfl
 ·have hz': ¬(qas 32 b).1=0:=hz;rw[yb hz'];exact xbkf hz rfl
def xb09(b:LI)(hp:qad b=true):xboq b=zR [.cl (.agg [.int .i64 ((qan b).1.1),.sli .u8 ((qan b).1.2.1),.slg 3 ((qan b).1.2.2)]),.cl (.int .i64 ((qan b).2))] []:=by
 have hl:=(qak hp).1;unfold xboq;refine qca (by omega) (qam ?_ ?_)
 ·simp only[zab];exact⟨hp,qfw (by omega)⟩
 unfold qan qzj;rw[qab];show _=zR [.cl (.agg [.int .i64 (if(qas 32 b).1=0 then(if(qas 32 b).2.2<b.length then(nd0,7) else((qas 32 b).2.1,0)) else(nd0,(qas 32 b).1):Nd×Int).1.1,.sli .u8 (if(qas 32 b).1=0 then(if(qas 32 b).2.2<b.length then(nd0,7) else((qas 32 b).2.1,0)) else(nd0,(qas 32 b).1):Nd×Int).1.2.1,.slg 3 (if(qas 32 b).1=0 then(if(qas 32 b).2.2<b.length then(nd0,7) else((qas 32 b).2.1,0)) else(nd0,(qas 32 b).1):Nd×Int).1.2.2]),.cl (.int .i64 (if(qas 32 b).1=0 then(if(qas 32 b).2.2<b.length then(nd0,7) else((qas 32 b).2.1,0)) else(nd0,(qas 32 b).1):Nd×Int).2)] [];by_cases hz:(qas (32:Int).toNat b).1=0
 ·have hz':(qas 32 b).1=0:=hz;rw[yc hz'];simp only[qzl hz];refine qyh (by simp) (qae (fun h=> ?_) fun h=> ?_)
  ·rw[yc (show(qas 32 b).2.2<b.length from h)];rfl
  ·rw[yb (show ¬(qas 32 b).2.2<b.length from h)];rfl
 ·have hz': ¬(qas 32 b).1=0:=hz;rw[yb hz'];simp only[qzk hz];exact xbkf hz rfl
def xb75: ∀ {n:Nat} {x:LC},isNf n x=true->∃m t b l,n=m+1/\x=[.int .i64 t,.sli .u8 b,.slg 3 l]/\b.length<=100000000/\l.length<=100000000/\∀c∈l, ∃y,c=.agg y/\isNf m y=true
 | 0,x,h=>by simp[isNf] at h
 | n+1,x,h=>by
  unfold isNf at h;split at h
  ·exact absurd h zb9
  ·rename_i n' t b l hn;obtain rfl:n=n':=by omega
   simp only[zab,yd,zai] at h;refine⟨n,t,b,l,rfl,rfl,h.1,h.2.1,fun c hc=> ?_⟩;have:=h.2.2 c hc;split at this
   ·exact⟨_,rfl,this⟩
   ·exact absurd this zb9
  ·exact absurd h zb9
def xcax{n:Nat}{t:Int}{b:LI}{l:LC}(h1:b.length<=100000000)(h2:l.length<=100000000)(h3: ∀c∈l, ∃y,c=.agg y/\isNf n y=true):isNf (n+1) [.int .i64 t,.sli .u8 b,.slg 3 l]=true:=by show(decide (b.length<=100000000)&&(decide (l.length<=100000000)&&l.all fun c=>match c with|.agg x=>isNf n x|_=>false))=true;simp only[zab,yd,zai];refine⟨h1,h2,fun c hc=> ?_⟩;obtain⟨y,rfl,hy⟩:=h3 c hc;exact hy
def xbtc{x:LC}(h:isN x=true): ∃n,isNf n x=true:=by unfold isN at h;rw[qab] at h;exact @ye _ (ya _) h
def xbzo{n:Nat}{x:LC}(h:isNf n x=true):isN x=true:=by unfold isN;rw[qab];exact @yf _ (ya _) ⟨n,h⟩
open IntWalk (i64_in u8_in u32_in u64_in i64_quo u8_quo rem_in)
def ndL(x:Nd):LC:=[.int .i64 x.1,.sli .u8 x.2.1,.slg 3 x.2.2]
open IntWalk (i64_in u8_in u32_in u64_in i64_quo u8_quo rem_in)
def qdi: ∀ {n:Nat} {x:LC},isTf n x=true->∃m t b l,n=m+1/\x=[.int .i64 t,.sli .u8 b,.slg 3 l]/\(∀z∈b,0<=z/\z<=255)/\∀c∈l, ∃y,c=.agg y/\isTf m y=true
 | 0,x,h=>by simp[isTf] at h
 | n+1,x,h=>by
  unfold isTf at h;split at h
  ·exact absurd h zb9
  ·rename_i n' t b l hn;obtain rfl:n=n':=by omega
   simp only[zab,zai] at h;refine⟨n,t,b,l,rfl,rfl,fun z hz=>qkj (h.1 z hz),fun c hc=> ?_⟩;have:=h.2 c hc;split at this
   ·exact⟨_,rfl,this⟩
   ·exact absurd this zb9
  ·exact absurd h zb9
def xbn0: ∀ {n m:Nat} {x:LC},isTf n x=true->isTf m x=true->qee n x=qee m x
 | n,m,x,hn,hm=>by obtain⟨n',t,b,l,rfl,rfl,_,hl⟩:=qdi hn;obtain⟨m',t',b',l',rfl,he,_,hl'⟩:=qdi hm;simp only[zcg,CV.int.injEq,CV.sli.injEq,CV.slg.injEq,true_and,and_true] at he;obtain⟨rfl,rfl,rfl⟩:=he;show 1+b.length+(l.map fun c=>qee n' (cell1 c)).sum=1+b.length+(l.map fun c=>qee m' (cell1 c)).sum;congr 2;refine zcq fun c hc=> ?_;obtain⟨y,rfl,hy⟩:=hl c hc;obtain⟨y',e,hy'⟩:=hl' _ hc;cases e;exact xbn0 hy hy'
def q66{f g:CV->Bool}: ∀ {l:LC},(∀c∈l,f c=g c)->l.all f=l.all g
 | [],_=>rfl
 | c::r,h=>by rw[zbz,zbz,h c (zck ..),q66 fun c' hc=>h c' (za8 _ hc)]
def xb1u: ∀ {n m:Nat} {x:LC},isTf n x=true->isTf m x=true->∀d,okF n d x=okF m d x
 | n,m,x,hn,hm,d=>by
  obtain⟨n',t,b,l,rfl,rfl,_,hl⟩:=qdi hn;obtain⟨m',t',b',l',rfl,he,_,hl'⟩:=qdi hm;simp only[zcg,CV.int.injEq,CV.sli.injEq,CV.slg.injEq,true_and,and_true] at he;obtain⟨rfl,rfl,rfl⟩:=he
  cases d with
  | zero=>rfl
  | succ d=>
   show(qbg t&&(if qav t=true then decide (b=[])&&l.all fun c=>okF n' d (cell1 c) else decide (l=[])&&qbj t b))=(qbg t&&(if qav t=true then decide (b=[])&&l.all fun c=>okF m' d (cell1 c) else decide (l=[])&&qbj t b));have:(l.all fun c=>okF n' d (cell1 c))=l.all fun c=>okF m' d (cell1 c):=q66 fun c hc=>by obtain⟨y,rfl,hy⟩:=hl c hc;obtain⟨y',e,hy'⟩:=hl' _ hc;cases e;exact xb1u hy hy' d
   rw[this]
def qpf: ∀ {n m:Nat} {x:LC},isTf n x=true->isTf m x=true->qah n x=qah m x
 | n,m,x,hn,hm=>by
  obtain⟨n',t,b,l,rfl,rfl,_,hl⟩:=qdi hn;obtain⟨m',t',b',l',rfl,he,_,hl'⟩:=qdi hm;simp only[zcg,CV.int.injEq,CV.sli.injEq,CV.slg.injEq,true_and,and_true] at he;obtain⟨rfl,rfl,rfl⟩:=he;have:(l.map fun c=>qah n' (cell1 c))=l.map fun c=>qah m' (cell1 c):=zcq fun c hc=>by obtain⟨y,rfl,hy⟩:=hl c hc;obtain⟨y',e,hy'⟩:=hl' _ hc;cases e;exact qpf hy hy'
  simp only[qah,this]
def qoo{a:LC}{n:Nat}(h:isTf n a=true):isTf (rkOf a) a=true:=by unfold rkOf;have hx: ∃n,isTf n a=true:=⟨n,h⟩;rw[@dif_pos _ (ya _) hx];exact Classical.choose_spec hx
def qls{n:Nat}{x:LC}(h:isSr n x=true):isTf n x=true/\qee n x<=30000:=by unfold isSr at h;rw[qab] at h;simpa [zab] using h
def q75{n:Nat}{x:LC}(h:isTf n x=true)(h':qee n x<=30000):isSr n x=true:=by unfold isSr;rw[qab];simp[h,h']
def qc8{x:LC}(h:isS x=true): ∃n,isTf n x=true/\qee n x<=30000:=by unfold isS at h;rw[qab] at h;exact @ye _ (ya _) h
def xbax{x:LC}{n:Nat}(h:isTf n x=true)(h':qee n x<=30000):isS x=true:=by unfold isS;rw[qab];exact @yf _ (ya _) ⟨n,h,h'⟩
def qyz{n:Nat}{x:LC}(h:isWr n x=true):isTf n x=true/\qee n x<=30000/\∃d,okF n d x=true:=by unfold isWr at h;rw[qab] at h;exact @ye _ (ya _) h
def xbo7{n:Nat}{x:LC}(h:isTf n x=true/\qee n x<=30000/\∃d,okF n d x=true):isWr n x=true:=by unfold isWr;rw[qab];exact @yf _ (ya _) h
def xbtd{x:LC}{n:Nat}(h:isTf n x=true/\qee n x<=30000/\∃d,okF n d x=true):isW x=true:=by unfold isW;rw[qab];exact @yf _ (ya _) ⟨n,h⟩
def qrs{n:Nat}{a:LC}(h:isTf n a=true)(d:Int):q2k a d=if okF n d.toNat a=true then((qah n a).1.length:Int) else -1:=by unfold q2k;rw[qab,xb1u (qoo h) h,qpf (qoo h) h]
def qiv{n:Nat}{a:LC}(h:isTf n a=true):qef a=if(qah n a).2=true then((qah n a).1,true) else([],false):=by unfold qef;rw[qab,qpf (qoo h) h]
def qpt{n:Nat}{a:LC}(h:isTf n a=true)(d:Int):qhb a d=if okF n d.toNat a=true/\(qah n a).2=true then((qah n a).1,true) else([],false):=by unfold qhb;rw[qab,xb1u (qoo h) h,qpf (qoo h) h]
def qfa{n:Nat}{a:LC}(h:isTf n a=true):qbb a=if okF n 32 a=true/\(qah n a).2=true then((qah n a).1,0) else([],1):=by unfold qbb;rw[qab,xb1u (qoo h) h,qpf (qoo h) h]
def qzi{n:Nat}{a:LC}(h:isTf n a=true):qrr a=decide (okF n 32 a=true/\(qah n a).2=true):=by unfold qrr;rw[qab,xb1u (qoo h) h,qpf (qoo h) h]
def qvx{tag n:Int}(h:qhg tag n=true):(0<=tag/\tag<=255)/\0<=n/\n<16777216:=by unfold qhg at h;rw[qab] at h;exact ye h
def qyx{l l':LI}{k:Nat}(h:l=l')(hk:k=l'.length):zR [.ref 0 0 k true 1] [some ⟨.ints .u8 l,false⟩]=zR [.ref 0 0 l'.length true 1] [some ⟨.ints .u8 l',false⟩]:=by rw[h,hk]
def xb7f(tag n:Int)(hp:qhg tag n=true):xbyx tag n=zR [.ref 0 0 (qch tag n).length true 1] [some ⟨.ints .u8 (qch tag n),false⟩]:=by
 obtain⟨ht,hn⟩:=qvx hp;unfold xbyx qch;rw[qab];unfold qck;have et:u8.wrap tag=tag:=u8_in _ (by omega);refine qae (fun h=> ?_) fun h=>qae (fun h2=> ?_) fun h2=>qae (fun h3=> ?_) fun h3=> ?_
 ·rw[yc h];exact qyx (by rw[et,show u8.wrap n=n from u8_in _ (by omega)]) rfl
 ·rw[yb h,yc h2];exact qyx (by rw[et,show u8.wrap n=n from u8_in _ (by omega)]) rfl
 ·rw[yb h,yb h2,yc h3];refine qyx ?_ rfl;rw[et,zcd (by omega),zce (by omega),show i64.wrap (n/ 256)=n/ 256 from i64_in _ (by omega),show u8.wrap (n/ 256)=n/ 256 from u8_in _ (by omega),show u8.wrap (n % 256)=n % 256 from u8_in _ (by omega)]
 ·rw[yb h,yb h2,yb h3];refine qyx ?_ rfl;rw[et,zcd (by omega),zcd (by omega),show i64.wrap (n/ 256)=n/ 256 from i64_in _ (by omega),show i64.wrap (n/ 65536)=n/ 65536 from i64_in _ (by omega),zce (by omega),zce (by omega),
   show u8.wrap (n/ 65536)=n/ 65536 from u8_in _ (by omega),show u8.wrap (n/ 256 % 256)=n/ 256 % 256 from u8_in _ (by omega),show u8.wrap (n % 256)=n % 256 from u8_in _ (by omega)]
open IntWalk (i64_in u8_in u32_in u64_in i64_quo u8_quo rem_in)
def xbw0(n:Int):u8.wrap n=n % 256:=by simp[IntKind.wrap,IntKind.signed,IntKind.bits]
def putB(n:Int):Nat->LI
 | 0=>[]
 | c+1=>n/ 2 ^ (8*c) % 256::putB n c
def xb2b(n:Int)(h0:0<=n)(h1:n<16777216): ∀(c f:Nat) (l:LI),c<=3->c<f->l.length+c<=10->
  qm3 (fun y8 _ _ _ y12=>zR [.ref 0 0 y8 true 1] [some ⟨.ints .u8 y12,false⟩]) f l.length n ((c:Int) - 1) l=zR [.ref 0 0 (l++putB n c).length true 1] [some ⟨.ints .u8 (l++putB n c),false⟩]
 | c,0,l,_,hf,_=>by omega
 | 0,f+1,l,_,_,hl=>by show qlv (qm3 (fun y8 _ _ _ y12=>zR [.ref 0 0 y8 true 1] [some ⟨.ints .u8 y12,false⟩]) f) (fun y8 _ _ _ y12=>zR [.ref 0 0 y8 true 1] [some ⟨.ints .u8 y12,false⟩]) l.length n (((0:Nat):Int) - 1) l=_;unfold qlv;refine qca (by omega) ?_;simp only[putB,zb2]
 | c+1,f+1,l,hc,hf,hl=>by
  show qlv (qm3 (fun y8 _ _ _ y12=>zR [.ref 0 0 y8 true 1] [some ⟨.ints .u8 y12,false⟩]) f) (fun y8 _ _ _ y12=>zR [.ref 0 0 y8 true 1] [some ⟨.ints .u8 y12,false⟩]) l.length n (((c+1:Nat):Int) - 1) l=_;unfold qlv;have e1:((c+1:Nat):Int) - 1=c:=by omega
  rw[e1];refine qaq (by omega) ?_;simp only[show i64.wrap ((8:Int)*(c:Int))=((8*c:Nat):Int) from(i64_in _ (by omega)).trans (by omega)];refine qca (by omega) ?_;have e2:min ((8*c:Nat):Int).toNat 64=8*c:=by show min (8*c) 64=8*c;omega
  simp only[e2];have e3:u8.wrap (Int.fdiv n (2 ^ (8*c)))=n/ 2 ^ (8*c) % 256:=by
   have hc2:c=0\/c=1\/c=2:=by omega
   rw[xbw0];rcases hc2 with rfl|rfl|rfl<;>rw[zbk n (by decide)]
  rw[e3,show i64.wrap ((c:Int) - 1)=(c:Int) - 1 from i64_in _ (by omega)];refine qc4 (by simp only[zaf,za0];omega) (qc4 (by simp only[zaf,za0];omega) ?_);refine(xb2b n h0 h1 c f _ (by omega) (by omega) (by simp only[zaf,za0];omega)).trans ?_;simp only[putB,zb7,List.singleton_append]
def xcah(tag n:Int)(hp:qhg tag n=true):xb84 tag n=zR [.ref 0 0 (qch tag n).length true 1] [some ⟨.ints .u8 (qch tag n),false⟩]:=by
 obtain⟨ht,hn⟩:=qvx hp;unfold xb84 qch qcn;simp only[qab];unfold qck qau;have et:u8.wrap tag=tag:=u8_in _ (by omega);rw[et];by_cases h:n<128
 ·rw[yc h,yc h,show i64.wrap ((1:Int) - 1)=0 from i64_in _ (by omega),show u8.wrap n=n from u8_in _ (by omega)];exact qaq rfl rfl
 ·rw[yb h,yb h];have fin: ∀c:Nat,1<=c->c<=3->∀l',[tag,128+(c:Int)]++putB n c=l'->(cond (decide (i64.wrap ((c:Int)+1 - 1)=0)) (zR [.ref 0 0 2 true 1] [some ⟨.ints .u8 [tag,u8.wrap n],false⟩]) (qm3 (fun y8 _ _ _ y12=>zR [.ref 0 0 y8 true 1] [some ⟨.ints .u8 y12,false⟩]) FUEL 2 n (i64.wrap (i64.wrap ((c:Int)+1 - 1) - 1)) [tag,u8.wrap (i64.wrap ((128:Int)+i64.wrap ((c:Int)+1 - 1)))]))=zR [.ref 0 0 l'.length true 1] [some ⟨.ints .u8 l',false⟩]:=fun c h1 h3 l' hl'=>by rw[show i64.wrap ((c:Int)+1 - 1)=c from(i64_in _ (by omega)).trans (by omega),show i64.wrap ((128:Int)+c)=128+c from i64_in _ (by omega),show u8.wrap ((128:Int)+c)=128+c from u8_in _ (by omega),show i64.wrap ((c:Int) - 1)=(c:Int) - 1 from i64_in _ (by omega)];refine qca (by omega) ((xb2b n hn.1 hn.2 c FUEL [tag,128+(c:Int)] h3 (by unfold FUEL;omega) (by simp only[zac,zbg];omega)).trans ?_);rw[hl']
  by_cases h2:n<256
  ·rw[yc h2,yc h2];refine fin 1 (by omega) (by omega) _ ?_;show[tag,(129:Int),n/ 1 % 256]=_;rw[show n/ 1 % 256=n by omega]
  ·rw[yb h2,yb h2];by_cases h3:n<65536
   ·rw[yc h3,yc h3];refine fin 2 (by omega) (by omega) _ ?_;show[tag,(130:Int),n/ 256 % 256,n/ 1 % 256]=_;rw[show n/ 256 % 256=n/ 256 by omega,show n/ 1 % 256=n % 256 by omega]
   ·rw[yb h3,yb h3];refine fin 3 (by omega) (by omega) _ ?_;show[tag,(131:Int),n/ 65536 % 256,n/ 256 % 256,n/ 1 % 256]=_;rw[show n/ 65536 % 256=n/ 65536 by omega,show n/ 1 % 256=n % 256 by omega]
def xbml{c:CV}(h:xb2j c=true): ∃x,c=.sli .u8 x/\rowB x=true:=by
 unfold xb2j at h;split at h
 ·exact⟨_,rfl,h⟩
 ·exact absurd h zb9
def qv0{l:LC}(h:qmi l=true):l.length<=1000000/\(∀c∈l, ∃x,c=.sli .u8 x)/\(l.flatMap qb8).length<=1000000:=by unfold qmi at h;rw[qab] at h;simp only[zab,yd,zai] at h;exact⟨h.1,fun c hc=>let ⟨x,e,_⟩:=xbml (h.2.1 c hc);⟨x,e⟩,h.2.2⟩
def qjd{l:LC}{i:Nat}{x:LI}(h:l[i]? =some (.sli .u8 x)):(l.drop i).flatMap qb8=x++(l.drop (i+1)).flatMap qb8:=by obtain⟨hlt,e⟩:=zae.1 h;rw[zb0 hlt,e,za3];rfl
def xbo8(l:LC)(hl:l.length<=1000000)(hall: ∀c∈l, ∃x,c=.sli .u8 x): ∀(f i:Nat) (acc:LI),i<=l.length->l.length<f+i->acc.length+((l.drop i).flatMap qb8).length<=1000000->
  qk0 (fun _ _ _ _ _ _ y7=>zR [.cl (.sli .u8 y7)] []) f l acc.length i acc=zR [.cl (.sli .u8 (acc++(l.drop i).flatMap qb8))] []
 | 0,i,acc,hi,hf,_=>by omega
 | f+1,i,acc,hi,hf,hs=>by
  show qlz (qk0 (fun _ _ _ _ _ _ y7=>zR [.cl (.sli .u8 y7)] []) f) (fun _ _ _ _ _ _ y7=>zR [.cl (.sli .u8 y7)] []) l acc.length i acc=_;unfold qlz;refine qae (fun h=> ?_) fun h=> ?_
  ·obtain⟨c,hc⟩:=qbz (b:=l) (i:=i) (by omega);obtain⟨x,rfl⟩:=hall c (zad hc);refine qaq (by omega) (qaq h ?_);rw[show(i:Int).toNat=i from rfl,hc,zak];refine qam rfl ?_;have hfl:=qjd hc;rw[hfl,zaf] at hs;have e:qb8 ((cell1 (.sli .u8 x)).getD 0 .nili)=x:=rfl;simp only[e];refine qc4 (by simp only[zaf];omega) (qc4 (by simp only[zaf];omega) ?_);rw[show i64.wrap ((i:Int)+1)=((i+1:Nat):Int) from(i64_in _ (by omega)).trans (by omega)];refine(xbo8 l hl hall f (i+1) (acc++x) (by omega) (by omega) (by simp only[zaf];omega)).trans ?_;rw[hfl,zb7]
  ·rw[zbl (by omega),List.flatMap_nil,zb2]
def xb01(l:LC)(hp:qmi l=true):xboj l=zR [.cl (.sli .u8 (qcs l))] []:=by obtain⟨h1,h2,h3⟩:=qv0 hp;unfold xboj qcs;simp only[qab];exact xbo8 l h1 h2 FUEL 0 [] (by omega) (by unfold FUEL;omega) (by simpa using h3)
def xbxu(l:LC)(hl:l.length<=1000000)(hall: ∀c∈l, ∃x,c=.sli .u8 x): ∀(f i:Nat) (acc:LI),i<=l.length->l.length<f+i->acc.length+((l.drop i).flatMap qb8).length<=1000000->
  qha (fun _ _ _ _ y27=>zR [.cl (.sli .u8 y27)] []) f acc.length l (l.length:Int) i acc=zR [.cl (.sli .u8 (acc++(l.drop i).flatMap qb8))] []
 | 0,i,acc,hi,hf,_=>by omega
 | f+1,i,acc,hi,hf,hs=>by
  show qhu (qha (fun _ _ _ _ y27=>zR [.cl (.sli .u8 y27)] []) f) (fun _ _ _ _ y27=>zR [.cl (.sli .u8 y27)] []) acc.length l (l.length:Int) i acc=_;unfold qhu;refine qae (fun h=> ?_) fun h=> ?_
  ·obtain⟨c,hc⟩:=qbz (b:=l) (i:=i) (by omega);obtain⟨x,rfl⟩:=hall c (zad hc);refine qaq (by omega) (qaq h ?_);rw[show(i:Int).toNat=i from rfl,hc,zak];refine qam rfl ?_;have hfl:=qjd hc;rw[hfl,zaf] at hs;have e:qb8 ((cell1 (.sli .u8 x)).getD 0 .nili)=x:=rfl;simp only[e];refine qc4 (by simp only[zaf];omega) (qc4 (by simp only[zaf];omega) ?_);rw[show i64.wrap ((i:Int)+1)=((i+1:Nat):Int) from(i64_in _ (by omega)).trans (by omega)];refine(xbxu l hl hall f (i+1) (acc++x) (by omega) (by omega) (by simp only[zaf];omega)).trans ?_;rw[hfl,zb7]
  ·rw[zbl (by omega),List.flatMap_nil,zb2]
def xbp6(l:LC)(hl:l.length<=1000000)(hall: ∀c∈l, ∃x,c=.sli .u8 x)(k0:ByteArray->LC->Int->LI->LC->Int->Int->LC->Nat->LI->Int->LI->Int->Int->Int->ByteArray->OO)(k1:LC->Int->LC->Int->Int->OO): ∀(f i:Nat) (n:Int),i<=l.length->l.length<f+i->0<=n->n+((l.drop i).flatMap qb8).length<=1000000->
  qis k0 k1 f l n l (l.length:Int) i=k1 l (n+((l.drop i).flatMap qb8).length) l (l.length:Int) l.length
 | 0,i,n,hi,hf,_,_=>by omega
 | f+1,i,n,hi,hf,h0,hs=>by
  show qjt (qis k0 k1 f) k0 k1 l n l (l.length:Int) i=_;unfold qjt;refine qae (fun h=> ?_) fun h=> ?_
  ·obtain⟨c,hc⟩:=qbz (b:=l) (i:=i) (by omega);obtain⟨x,rfl⟩:=hall c (zad hc);refine qaq (by omega) (qaq h ?_);rw[show(i:Int).toNat=i from rfl,hc,zak];refine qam rfl ?_;have hfl:=qjd hc;rw[hfl,zaf] at hs;have e:qb8 ((cell1 (.sli .u8 x)).getD 0 .nili)=x:=rfl;simp only[e];rw[show i64.wrap (n+(x.length:Int))=n+x.length from i64_in _ (by omega)];refine qca (by omega) ?_;rw[show i64.wrap ((i:Int)+1)=((i+1:Nat):Int) from(i64_in _ (by omega)).trans (by omega)];refine(xbp6 l hl hall k0 k1 f (i+1) _ (by omega) (by omega) (by omega) (by omega)).trans ?_;rw[hfl,zaf,show n+(x.length:Int)+(((l.drop (i+1)).flatMap qb8).length:Nat)=n+((x.length+((l.drop (i+1)).flatMap qb8).length:Nat):Int) by omega]
  ·obtain rfl:i=l.length:=by omega
   rw[zbl (zap _)];simp
def xbuv(l:LC)(hp:qmi l=true):xbfs l=zR [.cl (.sli .u8 (qcs l))] []:=by obtain⟨h1,h2,h3⟩:=qv0 hp;unfold xbfs qcs qa6;simp only[qab];refine(xbp6 l h1 h2 _ _ FUEL 0 0 (by omega) (by unfold FUEL;omega) (by omega) (by rw[zbr];omega)).trans ?_;refine qam ?_ (xbxu l h1 h2 FUEL 0 [] (by omega) (by unfold FUEL;omega) (by simpa using h3));unfold q2a;rw[qab,zbr];exact yf (by omega)
end Go.Proofs.YtoaakappnhemiaaGreatDoorA
