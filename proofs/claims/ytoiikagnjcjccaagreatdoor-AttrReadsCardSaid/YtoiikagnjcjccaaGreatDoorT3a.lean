/-
 What the layers below come to (their lemmas, as far as this seat needs them). Conditions: each function's own.
-/
import Derived.Test.YtoiikagnjcjccaaGreatDoorT2a
import Derived.Test.YtoiikagnjcjccaaGreatDoorT2b
import Derived.Test.YtoiikagnjcjccaaGreatDoorT2c
import Derived.Test.YtoiikagnjcjccaaGreatDoorK3
import Derived.IntWalk
set_option linter.unusedVariables false
set_option linter.unusedSimpArgs false
set_option maxRecDepth 100000
namespace Go.Proofs.YtoiikagnjcjccaaGreatDoorA
theorem q2c(y:Int):qd2 (y+1)=qd2 y+365+(if qk6 y=true then 1 else 0):=by unfold qd2 qk6;simp only[decide_eq_true_eq];split<;>omega
theorem qro{y m:Int}(h1:1<=m)(h2:m<=12):qdp y (m+1)=qdp y m+qhl y m:=by
 have hm:m=1\/m=2\/m=3\/m=4\/m=5\/m=6\/m=7\/m=8\/m=9\/m=10\/m=11\/m=12:=by omega
 unfold qdp qhl;cases qk6 y<;>rcases hm with h|h|h|h|h|h|h|h|h|h|h|h<;>subst h<;>rfl
theorem q7m(y:Int):qdp y 1=0:=by unfold qdp;rfl
theorem qrp(y m:Int):28<=qhl y m/\qhl y m<=31:=by
 unfold qhl;split
 ·split<;>omega
 ·split<;>omega
open IntWalk (i64_in u8_in u32_in u64_in i64_quo u8_quo rem_in)
theorem xbrb(s:ByteArray)(hp:decide (2<=s.size)=true):xbh1 s=zI (qeq s):=by
 simp only[decide_eq_true_eq] at hp;unfold xbh1 qeq qn4;have r0:=qh0 s 0;have r1:=qh0 s 1;refine qas (by omega) ?_;extract_lets x1 x2 x3 x4 x5 x6 x7 x8;have e2:x2=bget s 0:=i64_in _ (by omega);have e3:x3=bget s 0 - 48:=by show IntKind.i64.wrap (x2 - 48)=_;rw[e2];exact i64_in _ (by omega)
 refine qas (by omega) ?_;have e5:x5=bget s 1:=i64_in _ (by omega);have e6:x6=bget s 1 - 48:=by show IntKind.i64.wrap (x5 - 48)=_;rw[e5];exact i64_in _ (by omega)
 refine qac (fun h=> ?_) fun h1=>qac (fun h=> ?_) fun h2=>qac (fun h=> ?_) fun h3=>qac (fun h=> ?_) fun h4=> ?_
 ·rw[if_pos (by omega)]
 ·rw[if_pos (by omega)]
 ·rw[if_pos (by omega)]
 ·rw[if_pos (by omega)]
 ·rw[if_neg (by omega)];have e7:x7=10*x3:=i64_in _ (by omega);have e8:x8=10*x3+x6:=by show IntKind.i64.wrap (x7+x6)=_;rw[e7];exact i64_in _ (by omega)
  exact qkn (by rw[e8,e3,e6])
theorem xbwc(d0 d1 d2 d3 d4 d5:Int)(hp:stOk d0=true):xbpk d0 d1 d2 d3 d4 d5=zB (qk6 d0):=by
 simp only[stOk,decide_eq_true_eq] at hp;unfold xbpk qk6;rw[rem_in d0 4 (by omega),rem_in d0 100 (by omega),rem_in d0 400 (by omega)];refine qac (fun h=>qa2 (fun h2=> ?_) fun h2=> ?_) fun h=> ?_
 ·exact qap (by symm;rw[decide_eq_true_eq];exact⟨h,.inl h2⟩)
 ·refine qap (by rw[zbd];simp only[decide_eq_true_eq];omega)
 ·exact qap (by symm;rw[decide_eq_false_iff_not];exact fun h'=>h h'.1)
theorem xbwo(y:Int)(hp:stOk y=true):xbpt y=zB (qk6 y):=by
 simp only[stOk,decide_eq_true_eq] at hp;unfold xbpt qk6;rw[rem_in y 4 (by omega),rem_in y 100 (by omega),rem_in y 400 (by omega)];refine qac (fun h=>qa2 (fun h2=> ?_) fun h2=> ?_) fun h=> ?_
 ·exact qap (by symm;rw[decide_eq_true_eq];exact⟨h,.inl h2⟩)
 ·refine qap (by rw[zbd];simp only[decide_eq_true_eq];omega)
 ·refine qap (by rw[zbd];simp only[decide_eq_true_eq];omega)
theorem xbwa(d0 d1 d2 d3 d4 d5:Int)(hp:stOk d0=true):xbpi d0 d1 d2 d3 d4 d5=zI (qhl d0 d1):=by
 unfold xbpi qhl;refine qac (fun h=>qak hp (qf7 (fun h2=> ?_) fun h2=> ?_)) fun h=>qac (fun h2=> ?_) fun h2=>qac (fun h3=> ?_) fun h3=>qac (fun h4=> ?_) fun h4=>qac (fun h5=> ?_) fun h5=> ?_
 ·rw[if_pos h,if_pos h2]
 ·rw[if_pos h,if_neg (by rw[h2];simp)]
 all_goals first|rw[if_neg h,if_pos (by omega)]|rw[if_neg h,if_neg (by omega)]
theorem xbz2(d0 d1 d2 d3 d4 d5:Int)(hp:true=true):xbyx d0 d1 d2 d3 d4 d5=zB (qop d0 d1 d2 d3 d4 d5):=by
 unfold xbyx qop;have no: ∀ {p:Prop} [Decidable p], ¬p->zB false=zB (decide p):=fun h=>qap (by symm;rw[decide_eq_false_iff_not];exact h);refine qac (fun h=>no (by omega)) fun h1=>qac (fun h=>no (by omega)) fun h2=>qac (fun h=>no (by omega)) fun h3=>qac (fun h=>no (by omega)) fun h4=>qac (fun h=>no (by omega)) fun h5=>qak (by simp only[stOk,decide_eq_true_eq];omega) (qac (fun h=>no (by omega)) fun h6=>
  qac (fun g1=>qac (fun g2=>qac (fun g3=>qac (fun g4=>qac (fun g5=> ?_) fun h=>no (by omega)) fun h=>no (by omega)) fun h=>no (by omega)) fun h=>no (by omega)) fun h=>no (by omega))
 refine qap ?_;rw[zbd];simp only[decide_eq_true_eq];omega
theorem qmn{y m d h i s:Int}(hp:qop y m d h i s=true):(1<=y/\y<=9999/\1<=m/\m<=12)/\(1<=d/\d<=qhl y m)/\0<=h/\h<24/\0<=i/\i<60/\0<=s/\s<60:=by unfold qop at hp;simpa only [decide_eq_true_eq] using hp
theorem xbwk(y m:Int)(hp:true=true):xbpr y m=zI (qht y m):=by
 unfold xbpr qht;refine qac (fun h=> ?_) fun h1=>qac (fun h=> ?_) fun h2=>qac (fun h=> ?_) fun h3=>qac (fun h=> ?_) fun h4=> ?_
 ·rw[if_neg (by omega)]
 ·rw[if_neg (by omega)]
 ·rw[if_neg (by omega)]
 ·rw[if_neg (by omega)]
 rw[if_pos (by omega)];unfold qhl;refine qac (fun h=>qak (by simp only[stOk,decide_eq_true_eq];omega) (qf7 (fun h2=> ?_) fun h2=> ?_)) fun h=>qac (fun h2=> ?_) fun h2=>qac (fun h3=> ?_) fun h3=>qac (fun h4=> ?_) fun h4=>qac (fun h5=> ?_) fun h5=> ?_
 ·rw[if_pos h,if_pos h2]
 ·rw[if_pos h,if_neg (by rw[h2];simp)]
 all_goals first|rw[if_neg h,if_pos (by omega)]|rw[if_neg h,if_neg (by omega)]
open IntWalk (i64_in u8_in u32_in u64_in i64_quo u8_quo rem_in)
theorem xbro(y:Int)(hp:stOk y=true):xbic y=zI (qd2 y):=by simp only[stOk,decide_eq_true_eq] at hp;unfold xbic qd2;extract_lets x1 x2 x3 x4 x5 x6 x7 x8;have e1:x1=y - 1:=i64_in _ (by omega);have e2:x2=x1*365:=i64_in _ (by omega);have e3:x3=x1/ 4:=i64_quo _ _ (by omega);have e4:x4=x2+x3:=i64_in _ (by omega);have e5:x5=x1/ 100:=i64_quo _ _ (by omega);have e6:x6=x4 - x5:=i64_in _ (by omega);have e7:x7=x1/ 400:=i64_quo _ _ (by omega);have e8:x8=x6+x7:=i64_in _ (by omega);exact qkn (by rw[e8,e6,e4,e2,e3,e5,e7,e1])
theorem xbwe(d0 d1 d2 d3 d4 d5:Int)(hp:qop d0 d1 d2 d3 d4 d5=true):xbpl d0 d1 d2 d3 d4 d5=zI (qsg d0 d1 d2 d3 d4 d5):=by
 obtain⟨⟨a1,a2,a3,a4⟩,⟨a5,a6⟩,a7,a8,a9,a10,a11,a12⟩:=qmn hp;have a6':d2<=31:=by have:=qrp d0 d1;omega
 clear a6 hp;have hs:=q2c d0;unfold xbpl;have hy0:qd2 d0=(d0 - 1)*365+(d0 - 1)/ 4 - (d0 - 1)/ 100+(d0 - 1)/ 400:=rfl;have hy1:qd2 (d0+1)=d0*365+d0/ 4 - d0/ 100+d0/ 400:=by unfold qd2;rw[show d0+1 - 1=d0 by omega]
 rw[hy1] at hs;extract_lets x1 x2 x3 x4 x5 x6 x7 x8 x9 x10 x11 x12 x13 x14 x15 x16 x17 x18 x19 x20 x21 x22 x23 x24 x25 x26 x27 x28 x29 x30 x31 x32 x33 x34 x35 x36 x37 x38 x39 x40 x41 x42 x43;have e1:x1=d1 - 3:=i64_in _ (by omega);refine qac (fun h=>qkn ?_) fun h=>qkn ?_
 ·have e2:x2=d0 - 1:=i64_in _ (by omega);have e3:x3=d1+9:=(i64_in (x1+12) (by omega)).trans (by omega);have e4:x4=x2/ 400:=i64_quo _ _ (by omega);have e5:x5=x2 % 400:=rem_in _ _ (by omega)
  clear_value x1 x2 x3 x4 x5
  have r4:0<=x4/\x4<=24/\x2=400*x4+x5/\0<=x5/\x5<=399:=by clear hs hy0 hy1;omega
  have c4:(d0 - 1)/ 4=100*x4+x5/ 4/\(d0 - 1)/ 100=4*x4+x5/ 100/\(d0 - 1)/ 400=x4:=by clear hs hy0 hy1;omega
  have e6:x6=153*x3:=i64_in _ (by omega);have e7:x7=153*x3+2:=(i64_in (x6+2) (by omega)).trans (by omega);have e8:x8=(153*x3+2)/ 5:=(i64_quo x7 5 (by omega)).trans (by rw[e7])
  clear_value x6 x7 x8
  have r8:306<=x8/\x8<=337/\x8=306+31*(d1 - 1):=by clear hs hy0 hy1 r4 c4 e4 e5;omega
  clear e4 e5 e6 e7 e8 hs hy1;have e9:x9=x8+d2:=i64_in _ (by omega);have e10:x10=x8+d2 - 1:=(i64_in (x9 - 1) (by omega)).trans (by omega);have e11:x11=x4*146097:=i64_in _ (by omega);have e12:x12=x5*365:=i64_in _ (by omega);have e13:x13=x11+x12:=i64_in _ (by omega);have e14:x14=x5/ 4:=i64_quo _ _ (by omega);have e15:x15=x13+x14:=i64_in _ (by omega);have e16:x16=x5/ 100:=i64_quo _ _ (by omega);have e17:x17=x15 - x16:=i64_in _ (by omega);have e18:x18=x17+x10:=i64_in _ (by omega);have e19:x19=x18 - 719468:=i64_in _ (by omega);have e20:x20=x19*86400:=i64_in _ (by omega);have e21:x21=d3*3600:=i64_in _ (by omega);have e22:x22=d4*60:=i64_in _ (by omega);have e23:x23=x21+x22:=i64_in _ (by omega);have e24:x24=x23+d5:=i64_in _ (by omega);have e25:x25=x20+x24:=i64_in _ (by omega);have hm:qdp d0 d1=31*(d1 - 1):=by unfold qdp;rw[if_pos (by omega)]
  have hday:qd2 d0+qdp d0 d1+(d2 - 1)=x19+719162:=by rw[hy0,hm,c4.1,c4.2.1,c4.2.2,e19,e18,e17,e15,e13,e11,e12,e14,e16,e10];omega
  unfold qsg;rw[hday,e25,e20,e24,e23,e21,e22];omega
 ·have e26:x26=d0/ 400:=i64_quo _ _ (by omega);have e27:x27=d0 % 400:=rem_in _ _ (by omega)
  clear_value x1 x26 x27
  have r4:0<=x26/\x26<=24/\d0=400*x26+x27/\0<=x27/\x27<=399:=by clear hs hy0 hy1;omega
  have c4:d0/ 4=100*x26+x27/ 4/\d0/ 100=4*x26+x27/ 100/\d0/ 400=x26:=by clear hs hy0 hy1;omega
  have e28:x28=153*x1:=i64_in _ (by omega);have e29:x29=153*x1+2:=(i64_in (x28+2) (by omega)).trans (by omega);have e30:x30=(153*x1+2)/ 5:=(i64_quo x29 5 (by omega)).trans (by rw[e29])
  clear_value x28 x29 x30
  have r8:0<=x30/\x30<=337:=by clear hs hy0 hy1 r4 c4;omega
  have hm:qdp d0 d1=x30+59+(if qk6 d0=true then 1 else 0):=by unfold qdp;rw[if_neg (by omega), <- e1,e30]
  clear e26 e27 e28 e29 e30 hy0 hy1;have e31:x31=x30+d2:=i64_in _ (by omega);have e32:x32=x30+d2 - 1:=(i64_in (x31 - 1) (by omega)).trans (by omega);have e33:x33=x26*146097:=i64_in _ (by omega);have e34:x34=x27*365:=i64_in _ (by omega);have e35:x35=x33+x34:=i64_in _ (by omega);have e36:x36=x27/ 4:=i64_quo _ _ (by omega);have e37:x37=x35+x36:=i64_in _ (by omega);have e38:x38=x27/ 100:=i64_quo _ _ (by omega);have e39:x39=x37 - x38:=i64_in _ (by omega);have e40:x40=x39+x32:=i64_in _ (by omega);have e41:x41=x40 - 719468:=i64_in _ (by omega);have e42:x42=x41*86400:=i64_in _ (by omega);have e21:x21=d3*3600:=i64_in _ (by omega);have e22:x22=d4*60:=i64_in _ (by omega);have e23:x23=x21+x22:=i64_in _ (by omega);have e24:x24=x23+d5:=i64_in _ (by omega);have e43:x43=x42+x24:=i64_in _ (by omega);have hday:qd2 d0+qdp d0 d1+(d2 - 1)=x41+719162:=by rw[hm];generalize (if qk6 d0=true then 1 else 0:Int)=lp at*;rw[c4.1,c4.2.1,c4.2.2] at hs;rw[e41,e40,e39,e37,e35,e33,e34,e36,e38,e32];omega
  unfold qsg;rw[hday,e43,e42,e24,e23,e21,e22];omega
open IntWalk (i64_in u8_in u32_in u64_in i64_quo u8_quo rem_in)
theorem xbwt(s:ByteArray)(hp:true=true):xbpx s=zR [.cl (.int .i64 (qn5 s).1),.cl (.int .i64 (qn5 s).2)] []:=by
 unfold xbpx qn5;have dig: ∀k:Nat,(k:Int)+2<=s.size->qeq (s.extract k s.size)=qn4 (bget s k) (bget s (k+1)):=fun k hk=>by unfold qeq;rw[qcu s (by omega) (by omega) (zar _),qcu s (by omega) (by omega) (zar _),Int.add_zero]
 have sz: ∀k:Nat,(s.extract k s.size).size=s.size - k:=fun k=>by rw[zc6,Nat.min_self]
 refine qa2 (fun h=> ?_) fun h=>qas (by omega) ?_
 ·rw[if_neg (by omega)]
 have hs:s.size=15:=by omega
 have d2:=dig 2 (by omega);have d4:=dig 4 (by omega);have d6:=dig 6 (by omega);have d8:=dig 8 (by omega);have d10:=dig 10 (by omega);have d12:=dig 12 (by omega);extract_lets x1 s2 r3 s4 r5 s6 r7 s8 r9 s10 r11 s12 r13 r14 x15 x16 r17 r18 y m d hh i c;refine qa2 (fun h=> ?_) fun h1=> ?_
 ·rw[if_neg fun e=>h e.2]
 rw[if_pos ⟨hs,h1⟩];have z2:=sz 2;have z4:=sz 4;have z6:=sz 6;have z8:=sz 8;have z10:=sz 10;have z12:=sz 12;have rng: ∀a b,0<=a/\a<=255->0<=b/\b<=255-> -100000<=qn4 a b/\qn4 a b<=99:=fun a b h1 h2=>by unfold qn4;split<;>omega
 have g2:=rng _ _ (qh0 s 2) (qh0 s 3);have g0:=rng _ _ (qh0 s 0) (qh0 s 1);have e14:r14=qn4 (bget s 0) (bget s 1):=rfl;have e3:r3=qn4 (bget s 2) (bget s 3):=d2;have e15:x15=100*qn4 (bget s 0) (bget s 1):=i64_in _ (by rw[e14];omega);have e16:x16=y:=(i64_in (r3+x15) (by omega)).trans (by rw[e3,e15]);have e5:r5=m:=d4;have e7:r7=d:=d6;have e9:r9=hh:=d8;have e11:r11=i:=d10;have e13:r13=c:=d12;have hr:r17=qop y m d hh i c:=by show qop x16 r5 r7 r9 r11 r13=_;rw[e16,e5,e7,e9,e11,e13]
 have h18:r18=qsg y m d hh i c:=by show qsg x16 r5 r7 r9 r11 r13=_;rw[e16,e5,e7,e9,e11,e13]
 refine qas (by omega) (qas (by show 2<=(s.extract 2 s.size).size;omega) (qas (by omega) (qas (by show 2<=(s.extract 4 s.size).size;omega) (qas (by omega) (qas (by show 2<=(s.extract 6 s.size).size;omega) (qas (by omega) (qas (by show 2<=(s.extract 8 s.size).size;omega) (qas (by omega) (qas (by show 2<=(s.extract 10 s.size).size;omega)
  (qas (by omega) (qas (by show 2<=(s.extract 12 s.size).size;omega) (qas (by omega) ?_))))))))))))
 rw[hr]
 cases hf:qop y m d hh i c with
 | false=>rfl
 | true=>
  rw[if_pos rfl];show cond (qop x16 r5 r7 r9 r11 r13) (zR [.cl (.int .i64 r18),.cl (.int .i64 0)] []) none=_;rw[show qop x16 r5 r7 r9 r11 r13=true from hr.trans hf,h18];rfl
open IntWalk (i64_in u8_in u32_in u64_in i64_quo u8_quo rem_in)
theorem q3w(s:ByteArray)(hs:s.size<=18): ∀(fuel i:Nat) (acc:Int),i<=s.size->s.size<fuel+i->0<=acc->acc<((10 ^ i:Nat):Int)->
  qge (fun _ _ _ _ _ _ _ _ _ _=>zI (-1)) (fun _ _ _ _ _ _ _ _ _ _ _ _ _ _=>zI (-1)) (fun _ y2 _ _ _ _=>zI y2) fuel s acc i=zI (qtm ((bytesOf s).drop i) acc)
 | 0,i,acc,hi,hf,h0,h1=>by omega
 | fuel+1,i,acc,hi,hf,h0,h1=>by
  simp only[qge];unfold qk0;have rb:=qh0 s i;extract_lets x1 x3 x5 x6 x7 x8;refine qac (fun h=> ?_) fun h=> ?_
  ·have hlt:i<s.size:=by omega
   rw[qdh s hlt];refine qas (by omega) (qas h ?_);unfold qtm;refine qac (fun h2=> ?_) fun h2=>qas (by omega) (qas h (qac (fun h3=> ?_) fun h3=>qas (by omega) (qas h ?_)))
   ·rw[if_pos (.inl h2)]
   ·rw[if_pos (.inr h3)]
   ·have h2: ¬bget s i<48:=h2;have h3: ¬57<bget s i:=h3;have e1:x1=bget s i:=rfl
    clear_value x1
    rw[if_neg (by omega)];have hp:10 ^ (i+1)=10*10 ^ i:=by rw[Nat.pow_succ];omega
    have hp2:10 ^ i<=10 ^ 17:=zc9 (by omega) (by omega);have e3:x3=acc*10:=i64_in _ (by omega);have e5:x5=x1 - 48:=u8_in _ (by omega);have e6:x6=x1 - 48:=(i64_in x5 (by omega)).trans e5;have e7:x7=acc*10+(x1 - 48):=(i64_in (x3+x6) (by omega)).trans (by rw[e3,e6]);have e8:x8=((i+1:Nat):Int):=(i64_in ((i:Int)+1) (by omega)).trans (by omega);rw[e7,e8,e1];exact q3w s hs fuel (i+1) _ (by omega) (by omega) (by omega) (by omega)
  ·have:i=s.size:=by omega
   subst this;rw[za2 (by rw[qet];exact zar _)];rfl
theorem xbmr(s:ByteArray)(hp:decide (s.size<=18)=true):q91 s=zI (qdk s):=by simp only[decide_eq_true_eq] at hp;unfold q91 qdk;rw[qab];exact q3w s hp FUEL 0 0 (by omega) (by unfold FUEL;omega) (by omega) (by omega)
theorem xbdb{y m:Int}(h:1<=y/\y<=9999)(hm:1<=m/\m<=12):qht y m=qdp y (m+1) - qdp y m:=by unfold qht;rw[if_pos (by omega),qro hm.1 hm.2];omega
open IntWalk (i64_in u8_in u32_in u64_in i64_quo u8_quo rem_in)
theorem xbq3{y m h i c:Int}(F:Int->Int->Int->Int->Int->Int->Option Out)(hy:1<=y/\y<=9999)(hm:1<=m/\m<=12): ∀(fuel:Nat) (n k:Int),1<=k->k<=m->m - k<fuel->0<=n->n<=4000000+31*k->
  qgf (fun y18 y19 y20 y21 y22 y23 _ _ _=>F y18 y19 y20 y21 y22 y23) fuel y m h i c n k=F y m h i c (n+qdp y m - qdp y k)
 | 0,n,k,h1,h2,h3,h4,h5=>by omega
 | fuel+1,n,k,h1,h2,h3,h4,h5=>by
  rw[show qgf (fun y18 y19 y20 y21 y22 y23 _ _ _=>F y18 y19 y20 y21 y22 y23) (fuel+1)=qjx (qgf (fun y18 y19 y20 y21 y22 y23 _ _ _=>F y18 y19 y20 y21 y22 y23) fuel) (fun y18 y19 y20 y21 y22 y23 _ _ _=>F y18 y19 y20 y21 y22 y23) from rfl];unfold qjx;have hmo:=xbdb hy (m:=k) (by omega);have hst:=qro (y:=y) (m:=k) (by omega) (by omega);have hr:=qrp y k;extract_lets r18 x19 x20;have e18:r18=qhl y k:=by show qht y k=_;rw[hmo];omega
  refine qac (fun hlt=> ?_) fun hlt=> ?_
  ·have e19:x19=n+qhl y k:=(i64_in (n+r18) (by omega)).trans (by rw[e18]);have e20:x20=k+1:=i64_in _ (by omega);rw[e19,e20];rw[xbq3 F hy hm fuel (n+qhl y k) (k+1) (by omega) (by omega) (by omega) (by omega) (by omega),hst];congr 1;omega
  ·have:k=m:=by omega
   subst this;show F y k h i c n=_;congr 1;omega
theorem num2{a b:Int}(ha:0<=a/\a<=255)(hb:0<=b/\b<=255):qtm [a,b] 0=(if qn4 a b<0 then -1 else qn4 a b)/\(qn4 a b= -100000\/0<=qn4 a b/\qn4 a b<=99):=by
 unfold qn4 qtm qtm qtm;by_cases h1:a<48\/57<a
 ·rw[if_pos h1,if_pos (show(if a<48\/57<a\/b<48\/57<b then(-100000:Int) else _)<0 by rw[if_pos (by omega)];omega),if_pos (by omega)];exact⟨rfl,.inl rfl⟩
 ·by_cases h2:b<48\/57<b
  ·rw[if_neg h1,if_pos h2,if_pos (show(if a<48\/57<a\/b<48\/57<b then(-100000:Int) else _)<0 by rw[if_pos (by omega)];omega),if_pos (by omega)];exact⟨rfl,.inl rfl⟩
  ·rw[if_neg h1,if_neg h2,if_neg (by omega),if_neg (by omega)];exact⟨by omega,by omega⟩
theorem num4{a b c d:Int}(ha:0<=a/\a<=255)(hb:0<=b/\b<=255)(hc:0<=c/\c<=255)(hd:0<=d/\d<=255):qtm [a,b,c,d] 0=(if qn4 a b<0\/qn4 c d<0 then -1 else 100*qn4 a b+qn4 c d):=by
 unfold qn4 qtm qtm qtm qtm qtm;by_cases h1:a<48\/57<a
 ·rw[if_pos h1,if_pos (.inl (by rw[if_pos (by omega)];omega))]
 ·by_cases h2:b<48\/57<b
  ·rw[if_neg h1,if_pos h2,if_pos (.inl (by rw[if_pos (by omega)];omega))]
  ·by_cases h3:c<48\/57<c
   ·rw[if_neg h1,if_neg h2,if_pos h3,if_pos (show c<48\/57<c\/d<48\/57<d by omega),if_pos (by omega)]
   ·by_cases h4:d<48\/57<d
    ·rw[if_neg h1,if_neg h2,if_neg h3,if_pos h4,if_pos (show c<48\/57<c\/d<48\/57<d by omega),if_pos (by omega)]
    ·rw[if_neg h1,if_neg h2,if_neg h3,if_neg h4,if_neg (show ¬(a<48\/57<a\/b<48\/57<b) by omega),if_neg (show ¬(c<48\/57<c\/d<48\/57<d) by omega),if_neg (by omega)];omega
theorem qh3(s:ByteArray){k:Nat}(h:k+2<=s.size):bytesOf (s.extract k (k+2))=[bget s k,bget s (k+1)]:=by
 have hz:(s.extract k (k+2)).size=2:=by rw[zc6];omega
 have h0:=qdh (s.extract k (k+2)) (i:=0) (by omega);have h1:=qdh (s.extract k (k+2)) (i:=1) (by omega);rw[zbw] at h0;rw[h0,h1,za2 (by rw[qet];omega),qcu s (by omega) (by omega) h,qcu s (by omega) (by omega) h];simp
theorem q88(s:ByteArray)(h:4<=s.size):bytesOf (s.extract 0 4)=[bget s 0,bget s 1,bget s 2,bget s 3]:=by
 have hz:(s.extract 0 4).size=4:=by rw[zc6];omega
 have h0:=qdh (s.extract 0 4) (i:=0) (by omega);have h1:=qdh (s.extract 0 4) (i:=1) (by omega);have h2:=qdh (s.extract 0 4) (i:=2) (by omega);have h3:=qdh (s.extract 0 4) (i:=3) (by omega);rw[zbw] at h0;rw[h0,h1,h2,h3,za2 (by rw[qet];omega),qcu s (by omega) (by omega) h,qcu s (by omega) (by omega) h,qcu s (by omega) (by omega) h,qcu s (by omega) (by omega) h];simp
theorem xblq{D01 D23 D4 D6 D8 D10 D12:Int}(v01:D01= -100000\/0<=D01/\D01<=99)(v23:D23= -100000\/0<=D23/\D23<=99)(v4:D4= -100000\/0<=D4/\D4<=99)(v6:D6= -100000\/0<=D6/\D6<=99)(v8:D8= -100000\/0<=D8/\D8<=99)(v10:D10= -100000\/0<=D10/\D10<=99)(v12:D12= -100000\/0<=D12/\D12<=99){y m d h i c:Int}(ey:y=if D01<0\/D23<0 then -1 else 100*D01+D23)(em:m=if D4<0 then -1 else D4)(ed:d=if D6<0 then -1 else D6)(eh:h=if D8<0 then -1 else D8)(ei:i=if D10<0 then -1 else D10)(ec:c=if D12<0 then -1 else D12):
  (qop (D23+100*D01) D4 D6 D8 D10 D12=true/\qop y m d h i c=true/\y=D23+100*D01/\m=D4/\d=D6/\h=D8/\i=D10/\c=D12)\/(qop (D23+100*D01) D4 D6 D8 D10 D12=false/\qop y m d h i c=false):=by
 cases hf:qop (D23+100*D01) D4 D6 D8 D10 D12 with
 | true=>
  left;obtain⟨⟨a1,a2,a3,a4⟩,⟨a5,a6⟩,a7,a8,a9,a10,a11,a12⟩:=qmn hf;have e1:y=D23+100*D01:=by rw[ey,if_neg (by omega)];omega
  have e2:m=D4:=by rw[em,if_neg (by omega)]
  have e3:d=D6:=by rw[ed,if_neg (by omega)]
  have e4:h=D8:=by rw[eh,if_neg (by omega)]
  have e5:i=D10:=by rw[ei,if_neg (by omega)]
  have e6:c=D12:=by rw[ec,if_neg (by omega)]
  exact⟨rfl,by rw[e1,e2,e3,e4,e5,e6,hf],e1,e2,e3,e4,e5,e6⟩
 | false=>
  right;refine⟨rfl, ?_⟩
  cases hg:qop y m d h i c with
  | false=>rfl
  | true=>
   exfalso;obtain⟨⟨a1,a2,a3,a4⟩,⟨a5,a6⟩,a7,a8,a9,a10,a11,a12⟩:=qmn hg;have e1:y=D23+100*D01:=by split at ey<;>omega
   have e2:m=D4:=by split at em<;>omega
   have e3:d=D6:=by split at ed<;>omega
   have e4:h=D8:=by split at eh<;>omega
   have e5:i=D10:=by split at ei<;>omega
   have e6:c=D12:=by split at ec<;>omega
   rw[<- e1, <- e2, <- e3, <- e4, <- e5, <- e6,hg] at hf;cases hf
theorem xbwp(s:ByteArray)(hp:true=true):xbpu s=zR [.cl (.int .i64 (qn5 s).1),.cl (.int .i64 (qn5 s).2)] []:=by
 unfold xbpu qn5;refine qa2 (fun h=> ?_) fun h=>qas (by omega) ?_
 ·rw[if_neg (by omega)]
 have hs:s.size=15:=by omega
 have sz: ∀k n:Nat,k+n<=15->(s.extract k (k+n)).size=n:=fun k n hk=>by rw[zc6];omega
 have z0:=sz 0 4 (by omega);have z4:=sz 4 2 (by omega);have z6:=sz 6 2 (by omega);have z8:=sz 8 2 (by omega);have z10:=sz 10 2 (by omega);have z12:=sz 12 2 (by omega);have b:=qh0 s;have n0:qdk (s.extract 0 4)=_:=(congrArg (qtm · 0) (q88 s (by omega))).trans (num4 (b 0) (b 1) (b 2) (b 3));have n4:qdk (s.extract 4 6)=_:=(congrArg (qtm · 0) (qh3 s (k:=4) (by omega))).trans (num2 (b 4) (b 5)).1;have n6:qdk (s.extract 6 8)=_:=(congrArg (qtm · 0) (qh3 s (k:=6) (by omega))).trans (num2 (b 6) (b 7)).1;have n8:qdk (s.extract 8 10)=_:=(congrArg (qtm · 0) (qh3 s (k:=8) (by omega))).trans (num2 (b 8) (b 9)).1;have n10:qdk (s.extract 10 12)=_:=(congrArg (qtm · 0) (qh3 s (k:=10) (by omega))).trans (num2 (b 10) (b 11)).1;have n12:qdk (s.extract 12 14)=_:=(congrArg (qtm · 0) (qh3 s (k:=12) (by omega))).trans (num2 (b 12) (b 13)).1;have same:=xblq (num2 (b 0) (b 1)).2 (num2 (b 2) (b 3)).2 (num2 (b 4) (b 5)).2 (num2 (b 6) (b 7)).2 (num2 (b 8) (b 9)).2 (num2 (b 10) (b 11)).2 (num2 (b 12) (b 13)).2 n0 n4 n6 n8 n10 n12;extract_lets x1 s2 r3 s4 r5 s6 r7 s8 r9 s10 r11 s12 r13 r14 r15 x16 x17 y m d hh i c;refine qa2 (fun h=> ?_) fun h1=> ?_
 ·rw[if_neg fun e=>h e.2]
 rw[if_pos ⟨hs,h1⟩];have z0:s2.size=4:=z0;have z4:s4.size=2:=z4;have z6:s6.size=2:=z6;have z8:s8.size=2:=z8;have z10:s10.size=2:=z10;have z12:s12.size=2:=z12;refine qas (by omega) (qas (by omega) (qas (by omega) (qas (by omega) (qas (by omega) (qas (by omega) (qas (by omega) (qas (by omega) (qas (by omega) (qas (by omega) (qas (by omega) (qas (by omega) ?_)))))))))));have same:(qop y m d hh i c=true/\qop r3 r5 r7 r9 r11 r13=true/\r3=y/\r5=m/\r7=d/\r9=hh/\r11=i/\r13=c)\/(qop y m d hh i c=false/\qop r3 r5 r7 r9 r11 r13=false):=same;have e14:r14=qht r3 r5:=rfl;have e15:r15=qd2 r3:=rfl;have e16:x16=IntKind.i64.wrap (r7 - 1):=rfl;have e17:x17=IntKind.i64.wrap (r15+x16):=rfl
 clear_value r14 r15 x16 x17 r3 r5 r7 r9 r11 r13 y m d hh i c s2 s4 s6 s8 s10 s12 x1
 clear n0 n4 n6 n8 n10 n12 z0 z4 z6 z8 z10 z12 b sz h1 hs h;rcases same with⟨hf,hg,rfl,rfl,rfl,rfl,rfl,rfl⟩|⟨hf,hg⟩
 ·rw[if_pos hf];obtain⟨⟨a1,a2,a3,a4⟩,⟨a5,a6⟩,a7,a8,a9,a10,a11,a12⟩:=qmn hf;have hmo:qht r3 r5=qhl r3 r5:=by unfold qht;rw[if_pos (by omega)]
  have hr:=qrp r3 r5;have hy:0<=qd2 r3/\qd2 r3<=3652059:=by unfold qd2;omega
  have e16:x16=r7 - 1:=e16.trans (i64_in _ (by omega));have e17:x17=qd2 r3+(r7 - 1):=e17.trans ((i64_in _ (by omega)).trans (by rw[e15,e16]));refine qdt (by omega) (qdt (by omega) (qdt (by omega) (qdt (by omega) (qdt (by omega) (qdt (by omega) (qdt (by omega) (qdt (by omega) (qak (by simp only[stOk,decide_eq_true_eq];omega) ?_))))))));rw[qab,e17];refine(xbq3 (fun _ _ y20 y21 y22 y23=>
            let x27:Int:=IntKind.i64.wrap (y23*86400);let x28:Int:=IntKind.i64.wrap (((-62135596800):Int)+x27);let x29:Int:=IntKind.i64.wrap (y20*3600);let x30:Int:=IntKind.i64.wrap (y21*60);let x31:Int:=IntKind.i64.wrap (x29+x30);let x32:Int:=IntKind.i64.wrap (x31+y22);let x33:Int:=IntKind.i64.wrap (x28+x32)
            zR [.cl (.int .i64 x33),.cl (.int .i64 0)] []) ⟨a1,a2⟩ ⟨a3,a4⟩ FUEL _ 1 (by omega) (by omega) (by unfold FUEL;omega) (by omega) (by omega)).trans ?_
  rw[q7m];have hA:0<=qdp r3 r5/\qdp r3 r5<=335:=by refine⟨?_, ?_⟩<;>(unfold qdp;split<;>(try split)<;>omega)
  extract_lets x27 x28 x29 x30 x31 x32 x33;have e27:x27=(qd2 r3+(r7 - 1)+qdp r3 r5 - 0)*86400:=i64_in _ (by omega);have e28:x28= -62135596800+x27:=i64_in _ (by omega);have e29:x29=r9*3600:=i64_in _ (by omega);have e30:x30=r11*60:=i64_in _ (by omega);have e31:x31=x29+x30:=i64_in _ (by omega);have e32:x32=x31+r13:=i64_in _ (by omega);have e33:x33=x28+x32:=i64_in _ (by omega);have e:x33=qsg r3 r5 r7 r9 r11 r13:=by unfold qsg;rw[e33,e28,e27,e32,e31,e29,e30];omega
  rw[e]
 ·rw[if_neg (by rw[hf];simp)];have hg': ¬((1<=r3/\r3<=9999/\1<=r5/\r5<=12)/\(1<=r7/\r7<=qhl r3 r5)/\0<=r9/\r9<24/\0<=r11/\r11<60/\0<=r13/\r13<60):=by unfold qop at hg;simpa only [decide_eq_false_iff_not] using hg
  have hmo:qht r3 r5=if 1<=r3/\r3<=9999/\1<=r5/\r5<=12 then qhl r3 r5 else 0:=rfl
  refine qac (fun h=>rfl) fun g1=>qac (fun h=>rfl) fun g2=>qac (fun h=>rfl) fun g3=>qac (fun h=>rfl) fun g4=>qac (fun h=>rfl) fun g5=>qac (fun h=>rfl) fun g6=>qac (fun h=>rfl) fun g7=>qac (fun h=>rfl) fun g8=> ?_;exfalso;apply hg';rw[e14] at g2;split at hmo<;>omega
open IntWalk (i64_in u8_in u32_in u64_in i64_quo u8_quo rem_in)
theorem qle{x:Int}(h:xbhp x=true):0<=x/\x<=255:=of_decide_eq_true h
theorem qax{b:List Int}(h:qad b=true):b.length<=1000000/\∀x∈b,0<=x/\x<=255:=by unfold qad at h;rw[qab] at h;simp only[zab,decide_eq_true_eq,zai] at h;exact⟨h.1,fun x hx=>qle (h.2 x hx)⟩
theorem qck{b:List Int}(h:b.length<=1000000)(h': ∀x∈b,0<=x/\x<=255):qad b=true:=by unfold qad;rw[qab];simp only[zab,decide_eq_true_eq,zai];exact⟨h,fun x hx=>decide_eq_true (h' x hx)⟩
theorem qsn{a b:List Int}(h:qad b=true)(hl:a.length<=b.length)(hs: ∀x∈a,x∈b):qad a=true:=
 let ⟨h1,h2⟩:=qax h;qck (by omega) fun x hx=>h2 x (hs x hx)
theorem qbd{b:List Int}(h:qad b=true)(n:Nat):qad (b.drop n)=true:=qsn h (by simp) fun x hx=>zbi hx
theorem qkp{b:List Int}(h:qad b=true):qad b.tail=true:=qsn h (by simp) fun x hx=>List.mem_of_mem_tail hx
theorem qa4{b:List Int}(h:qad b=true){i:Nat}{x:Int}(hx:b[i]? =some x):0<=x/\x<=255:=(qax h).2 x (zac hx)
theorem qic{b:List Int}(h:qr9 b=true):b.length<=100000000:=by unfold qr9 at h;rw[qab] at h;exact of_decide_eq_true h
theorem qib{b:List Int}(h:b.length<=100000000):qr9 b=true:=by unfold qr9;rw[qab];exact decide_eq_true h
theorem qaz{α:Type}{b:List α}{i:Nat}(h:i<b.length): ∃x,b[i]? =some x:=⟨_,zae h⟩
theorem xbq5(tag:Int)(hp:true=true):xbhy tag=zB (qcb tag):=by
 unfold xbhy qcb qay;rw[qab];simp only[zcs]
 repeat' split
 all_goals (refine qap ?_;rw[zbd];simp only[decide_eq_true_eq,true_iff,zan,false_iff];omega)
theorem xbrk(tag:Int)(hp:true=true):xbib tag=zB (qcb tag):=by
 unfold xbib qcb qay;rw[qab];simp only[zcs]
 repeat' split
 all_goals (refine qap ?_;rw[zbd];simp only[decide_eq_true_eq,true_iff,zan,false_iff];omega)
theorem xbq8(tag:Int)(hp:true=true):xbhz tag=zB (qft tag):=by
 unfold xbhz qft qbm qcb;simp only[qab,zcs];cases qay tag
 all_goals simp only[cond_true,cond_false]
 all_goals repeat' split
 all_goals (refine qap ?_;rw[zbd];(try simp only[zbz,decide_eq_true_eq,or_true,true_or,zan,false_or,Bool.true_eq,true_iff,false_iff]);(try omega))
theorem xbms(tag:Int)(hp:true=true):q94 tag=zB (qft tag):=by
 unfold q94 qft qbm qcb;simp only[qab,zcs];cases qay tag
 all_goals simp only[cond_true,cond_false]
 all_goals repeat' split
 all_goals (refine qap ?_;rw[zbd];(try simp only[zbz,decide_eq_true_eq,or_true,true_or,zan,false_or,Bool.true_eq,true_iff,false_iff]);(try omega))
theorem xbf1(n:Int)(hp:true=true):q3f n=zI (qef n):=by
 unfold q3f qef qat;simp only[qab,zcs]
 repeat' split
 all_goals rfl
theorem xbwj(b:List Int)(i:Int)(hp:decide (0<=i)=true):xbpq b i=zB (u8Cont b i):=by
 have hp:=of_decide_eq_true hp;unfold xbpq u8Cont u8At;simp only[qab];refine qac (fun h=>qas hp (qas h ?_)) fun h=>qap ?_
 ·obtain⟨x,hx⟩:=qaz (b:=b) (i:=i.toNat) (by omega);rw[hx,zag];refine qap ?_;rw[zbd];simp only[decide_eq_true_eq];rw[zb3 _ (by omega)];omega
 ·rw[zay (by omega)]
theorem q5b(o:List Int):o.length<2/\qbf o=false\/∃x y r,o=x::y::r:=by
 match o with
 | []=>exact .inl ⟨by simp,rfl⟩
 | [x]=>exact .inl ⟨by simp,rfl⟩
 | x::y::r=>exact .inr ⟨x,y,r,rfl⟩
theorem xbz4(o:List Int)(hp:true=true):xbyz o=zB (qhf o):=by
 unfold xbyz qhf;simp only[qab,zcs];rcases q5b o with⟨h,e⟩|⟨x,y,r,rfl⟩
 ·rw[if_pos (by omega),e]
 ·simp only[za4,za3,zag,zaf,qbf]
  repeat' split
  all_goals first
   | (refine qap ?_;rw[zbd];simp only[zab,zbz,decide_eq_true_eq,zan,false_iff,true_iff];omega)
   | omega
theorem xbwi(o:List Int)(hp:true=true):xbpp o=zB (qhf o):=by
 unfold xbpp qhf;simp only[qab];rcases q5b o with⟨h,e⟩|⟨x,y,r,rfl⟩
 ·exact qas (by omega) (qap e.symm)
 ·simp only[za4,za3,zag,zaf,qbf]
  repeat' (refine qac (fun _=> ?_) fun _=> ?_)
  all_goals first
   | (refine qap ?_;rw[zbd];simp only[zab,zbz,decide_eq_true_eq,zan,false_iff,true_iff];omega)
   | omega
theorem xbmk(b:List Int)(hp:qad b=true):q9l b=zB (qev b):=by
 unfold q9l qev;rw[qab]
 match b,hp with
 | [],_=>rfl
 | [x],_=>rfl
 | x::y::r,hp=>
  have hx:=qa4 hp (i:=0) (x:=x) rfl;have hy:=qa4 hp (i:=1) (x:=y) rfl;simp only[za4,za3,zag,zaf,qlg];rw[show IntKind.u64.wrap x=x from u64_in _ (by omega),show IntKind.u64.wrap y=y from u64_in _ (by omega),show IntKind.u64.wrap (x*2 ^ 1)=x*2 from(u64_in _ (by omega)).trans (by omega),
   show Int.fdiv y (2 ^ 7)=y/ 128 from zb3 _ (by omega)]
  have hor:((BitVec.ofInt 64 (x*2)||| BitVec.ofInt 64 (y/ 128)).toNat:Int)=x*2+y/ 128:=by
   have h2:y/ 128=0\/y/ 128=1:=by omega
   obtain⟨n,rfl⟩: ∃n:Nat,x=n:=⟨x.toNat,by omega⟩;have hn:n<256:=by omega
   rcases h2 with h2|h2
   ·rw[h2];simp[zc7];omega
   ·rw[h2,BitVec.toNat_or];simp only[zc7];have: ∀n:Fin 256,((((n.val:Int)*2 % (2 ^ 64:Nat)).toNat||| ((1:Int) % (2 ^ 64:Nat)).toNat:Nat):Int)=(n.val:Int)*2+1:=by decide+kernel
    exact this ⟨n,hn⟩
  rw[hor,show IntKind.u64.wrap (x*2+y/ 128)=x*2+y/ 128 from u64_in _ (by omega)];simp only[zcs];rw[if_neg (by omega),if_pos (by omega),if_pos (by omega)];refine qa2 (fun h=>qap ?_) fun h=>qap ?_
  ·rw[zbd];simp only[zab,zao,decide_eq_false_iff_not];omega
  ·rw[zbd];simp only[zab,zao,decide_eq_false_iff_not,zan,false_iff];omega
theorem xbmq(b:List Int)(hp:qad b=true):q90 b=zB (qev b):=by
 unfold q90 qev;rw[qab]
 match b,hp with
 | [],_=>rfl
 | [x],_=>rfl
 | x::y::r,hp=>
  have hx:=qa4 hp (i:=0) (x:=x) rfl;have hy:=qa4 hp (i:=1) (x:=y) rfl;simp only[za4,za3,zag,zaf,qlg,zcs,Bool.cond_not]
  repeat' split
  all_goals first
   | omega
   | (refine qap ?_;rw[zbd];simp only[zab,zao,decide_eq_false_iff_not,zan,false_iff,true_iff];omega)
theorem xbmo(n:Int)(hp:u32Ok n=true):q9w n=zR [.cl (.sli .u32 (qfe n))] []:=by
 unfold u32Ok at hp;rw[qab] at hp;have hp:=of_decide_eq_true hp;unfold q9w qfe qbs;simp only[qab];refine qac (fun h=> ?_) fun h=> ?_
 ·rw[if_pos h,show IntKind.u64.wrap (Int.tdiv n 40)=n/ 40 by rw[zca (by omega)];exact u64_in _ (by omega),zcb (by omega),
   show IntKind.u32.wrap (n/ 40)=n/ 40 from u32_in _ (by omega),show IntKind.u32.wrap (n % 40)=n % 40 from u32_in _ (by omega)]
 ·rw[if_neg h,show IntKind.u64.wrap (n - 80)=n - 80 from u64_in _ (by omega),show IntKind.u32.wrap (n - 80)=n - 80 from u32_in _ (by omega)]
open IntWalk (i64_in u8_in u32_in u64_in i64_quo u8_quo rem_in)
theorem qdw{b:List Int}{i:Nat}{x:Int}(h:b[i]? =some x):b.drop i=x::b.drop (i+1):=by obtain⟨hlt,e⟩:=zad.1 h;rw[zbf hlt,e]
theorem qe7{α:Type}{b:List α}{i:Nat}(h:b.length<=i):b.drop i=[]:=za2 h
theorem xbj2(a b:List Int)(hl:a.length=b.length)(hb:a.length<=100000000): ∀(f i:Nat),i<=a.length->a.length<f+i->
  qih (fun _ _ _ _ _ _ _ _ _ _ _ _ _ _ _ _=>zB false) (fun _ _ _ _ _ _=>zB true) f a b i=zB (decide (a.drop i=b.drop i))
 | 0,i,hi,hf=>by omega
 | f+1,i,hi,hf=>by
  show qju (qih (fun _ _ _ _ _ _ _ _ _ _ _ _ _ _ _ _=>zB false) (fun _ _ _ _ _ _=>zB true) f) (fun _ _ _ _ _ _ _ _ _ _ _ _ _ _ _ _=>zB false) (fun _ _ _ _ _ _=>zB true) a b i=_;unfold qju;refine qac (fun h=> ?_) fun h=> ?_
  ·obtain⟨x,hx⟩:=qaz (b:=a) (i:=i) (by omega);obtain⟨y,hy⟩:=qaz (b:=b) (i:=i) (by omega);refine qas (by omega) (qas h ?_);rw[show(i:Int).toNat=i from rfl,hx,zag];refine qas (by omega) (qas (by omega) ?_);rw[hy,zag];rw[qdw hx,qdw hy];refine qa2 (fun hne=>qap ?_) fun he=> ?_
   ·simp[hne]
   ·subst he;rw[show IntKind.i64.wrap ((i:Int)+1)=((i+1:Nat):Int) from(i64_in _ (by omega)).trans (by omega)];refine(xbj2 a b hl hb f (i+1) (by omega) (by omega)).trans (qap ?_);simp
  ·refine qap ?_;rw[qe7 (by omega),qe7 (by omega)];simp
theorem xbri(a b:List Int)(hp:qr9 a=true):xbh9 a b=zB (qa5 a b):=by
 have hp:=qic hp;unfold xbh9 qa5 qll;simp only[qab];refine qa2 (fun h=>qap ?_) fun h=> ?_
 ·rw[eq_comm,decide_eq_false_iff_not];intro e;subst e;exact h rfl
 ·exact xbj2 a b (by omega) hp FUEL 0 (by omega) (by unfold FUEL;omega)
theorem xbe4(b:List Int)(hb: ∀x∈b,0<=x/\x<=255): ∀(n:Int) (k:Nat),0<=n->n<256 ^ k->0<=b.foldl (fun n x=>n*256+x) n/\b.foldl (fun n x=>n*256+x) n<256 ^ (k+b.length):=by
 induction b with
 | nil=>intro n k h0 h1;exact⟨h0,h1⟩
 | cons x r ih=>
  intro n k h0 h1;have hx:=hb x (by simp);have:=ih (fun y hy=>hb y (by simp[hy])) (n*256+x) (k+1) (by omega) (by rw[Int.pow_succ];omega);simp only[zc8,zaf];rw[show k+(r.length+1)=k+1+r.length by omega];exact this
theorem q0s{b:List Int}(hb: ∀x∈b,0<=x/\x<=255):0<=qb9 b/\qb9 b<256 ^ b.length:=by have:=xbe4 b hb 0 0 (by omega) (by decide);rwa [za1] at this
open IntWalk (i64_in u8_in u32_in u64_in i64_quo u8_quo rem_in)
theorem q6q{r:List Int}(hb: ∀x∈r,0<=x/\x<=255){j:Nat}(hj:j<=3):0<=qb9 (r.take j)/\qb9 (r.take j)<16777216:=by
 have h:=q0s (b:=r.take j) fun x hx=>hb x (zba hx);refine⟨h.1, ?_⟩;have hl:(r.take j).length<=3:=by simp;omega
 have h3:(256 ^ (r.take j).length:Nat)<=16777216:=zby (zc9 (by omega) hl) (by decide);have hh:((256:Int) ^ (r.take j).length)=((256 ^ (r.take j).length:Nat):Int):=by rw[Int.natCast_pow];rfl
 have:=h.2;rw[hh] at this;omega
theorem qc0(c:Int)(t:List Int):qah (c::t)=if c<128 then(c,1) else if c=128\/131<c\/(t.length:Int)<c - 128 then(0,0)
  else if t.headD 0=0\/qb9 (t.take (c - 128).toNat)<128 then(0,0) else(qb9 (t.take (c - 128).toNat),1+(c - 128)):=rfl
open IntWalk (i64_in u8_in u32_in u64_in i64_quo u8_quo rem_in)
theorem xbpb(b:List Int):decide (qao [] b<0)=decide (0<b.length):=by
 cases b with
 | nil=>rfl
 | cons x r=>simp[qao]
theorem xbll(a:List Int):decide (qao a []<0)=false:=by
 cases a with
 | nil=>rfl
 | cons x r=>simp[qao]
theorem xbjf(a b:List Int)(hb:a.length<=100000000): ∀(f i:Nat),i<=a.length->i<=b.length->a.length<f+i->
  qij (fun _ _ y3 _ _ _ _ _ _ _ _ _ _ _ _ _ _ _ _ _ _ _ _ _ _ _ _ _ _ _ _ _ _=>zB y3) (fun y34 y35 _ _ _ _ _ _ _ _ _=>zB (decide ((y34.length:Int)<(y35.length:Int)))) (fun y45 y46 _ _ _ _ _=>zB (decide ((y45.length:Int)<(y46.length:Int)))) f a b i=
   zB (decide (qao (a.drop i) (b.drop i)<0))
 | 0,i,hi,hi',hf=>by omega
 | f+1,i,hi,hi',hf=>by
  show qjw (qij (fun _ _ y3 _ _ _ _ _ _ _ _ _ _ _ _ _ _ _ _ _ _ _ _ _ _ _ _ _ _ _ _ _ _=>zB y3) (fun y34 y35 _ _ _ _ _ _ _ _ _=>zB (decide ((y34.length:Int)<(y35.length:Int)))) (fun y45 y46 _ _ _ _ _=>zB (decide ((y45.length:Int)<(y46.length:Int)))) f) _ _ _ a b i=_;unfold qjw;refine qac (fun h=>qac (fun h'=> ?_) fun h'=>qap ?_) fun h=>qap ?_
  ·obtain⟨x,hx⟩:=qaz (b:=a) (i:=i) (by omega);obtain⟨y,hy⟩:=qaz (b:=b) (i:=i) (by omega);refine qas (by omega) (qas h ?_);rw[show(i:Int).toNat=i from rfl,hx,zag];refine qas (by omega) (qas h' ?_);rw[hy,zag,qdw hx,qdw hy];refine qa2 (fun hne=>qas (by omega) (qas h ?_)) fun he=> ?_
   ·rw[zag];refine qas (by omega) (qas h' ?_);rw[zag];refine qap ?_;unfold qao;by_cases hlt:x<y
    ·rw[if_pos hlt];simp[hlt]
    ·rw[if_neg hlt,if_pos (by omega)];simp[hlt]
   ·subst he;rw[show IntKind.i64.wrap ((i:Int)+1)=((i+1:Nat):Int) from(i64_in _ (by omega)).trans (by omega)];refine(xbjf a b hb f (i+1) (by omega) (by omega) (by omega)).trans (qap ?_)
    conv=>rhs;unfold qao
    rw[if_neg (by omega),if_neg (by omega)]
  ·rw[qe7 (b:=b) (by omega),xbll];exact decide_eq_false (by omega)
  ·rw[qe7 (b:=a) (by omega),xbpb,zat,zbd];simp only[decide_eq_true_eq];omega
theorem xbrj(a b:List Int)(hp:qr9 a=true):xbia a b=zB (qg4 a b):=by unfold xbia qg4;simp only[qab];exact xbjf a b (qic hp) FUEL 0 (by omega) (by omega) (by have:=qic hp;unfold FUEL;omega)
theorem qj7{l:List CV}(h:qkg l=true):l.length<=1000000/\∀(i:Nat) (e:CV),l[i]? =some e->∃x,e=.sli .u8 x/\qad x=true:=by
 unfold qkg at h;rw[qab] at h;simp only[zab,decide_eq_true_eq,zai] at h;refine⟨h.1,fun i e he=> ?_⟩;have:=h.2 e (zac he);unfold xbsv at this;split at this
 ·rename_i l';refine⟨l',rfl, ?_⟩;unfold rowB at this;simp only[zab,decide_eq_true_eq,zai] at this;exact qck this.1 fun x hx=>qle (this.2 x hx)
 ·cases this
theorem qyp{l:List CV}{i:Nat}{a b:List Int}(h1:l[i]? =some (.sli .u8 a))(h2:l[i+1]? =some (.sli .u8 b)):qbg ((l.map qbb).drop i)=(decide (qao a b<=0)&&qbg ((l.map qbb).drop (i+1))):=by
 have e1:(l.map qbb)[i]? =some a:=by rw[zaj,h1];rfl
 have e2:(l.map qbb)[i+1]? =some b:=by rw[zaj,h2];rfl
 have d: ∀ {l:List (List Int)} {i:Nat} {x:List Int},l[i]? =some x->l.drop i=x::l.drop (i+1):=fun {l i x} h=>by obtain⟨hlt,e⟩:=zad.1 h;rw[zbf hlt,e]
 rw[d e1,d e2];rfl
theorem qyo{l:List CV}{i:Nat}(h:l.length<=i+1):qbg ((l.map qbb).drop i)=true:=by
 have:((l.map qbb).drop i).length<=1:=by simp;omega
 match (l.map qbb).drop i,this with
 | [],_=>rfl
 | [_],_=>rfl
 | _::_::_,h=>simp at h
theorem q0u: ∀(a b:List Int),decide (qao b a<0)= !(decide (qao a b<=0))
 | [],[]=>rfl
 | [],_::_=>by simp[qao]
 | _::_,[]=>by simp[qao]
 | x::a,y::b=>by
  unfold qao;by_cases h1:x<y
  ·rw[if_pos h1,if_neg (by omega),if_pos h1];simp
  ·by_cases h2:y<x
   ·rw[if_pos h2,if_neg h1,if_pos h2];simp
   ·rw[if_neg h1,if_neg h2,if_neg h2,if_neg h1];exact q0u a b
theorem xbzj(l:List CV)(hok:qkg l=true): ∀(f i:Nat),l.length<f+i->qfb (fun _ _ _ _ _ _ _ _ _ _ _ _ _ _ _ _=>zB false) (fun _ _ _ _ _=>zB true) f l ((i+1:Nat):Int)=zB (qbg ((l.map qbb).drop i))\/f=0
 | 0,i,hf=>.inr rfl
 | f+1,i,hf=>by
  left;obtain⟨hl,hr⟩:=qj7 hok;show qfo (qfb (fun _ _ _ _ _ _ _ _ _ _ _ _ _ _ _ _=>zB false) (fun _ _ _ _ _=>zB true) f) _ _ l ((i+1:Nat):Int)=_;unfold qfo;refine qac (fun h=>qas (by omega) (qas h ?_)) fun h=>qap ?_
  ·obtain⟨e1,he1⟩:=qaz (b:=l) (i:=i) (by omega);obtain⟨e2,he2⟩:=qaz (b:=l) (i:=i+1) (by omega);obtain⟨x,rfl,hx⟩:=hr _ _ he1;obtain⟨y,rfl,hy⟩:=hr _ _ he2;rw[show((i+1:Nat):Int).toNat=i+1 from rfl,he2,zag];refine qak rfl ?_;rw[show IntKind.i64.wrap (((i+1:Nat):Int) - 1)=(i:Int) from(i64_in _ (by omega)).trans (by omega)];refine qas (by omega) (qas (by omega) ?_);rw[show(i:Int).toNat=i from rfl,he1,zag];refine qak rfl (qak (qib (by have:=(qax hy).1;show y.length<=_;omega)) ?_);show cond (qg4 y x) _ _=_;rw[qyp he1 he2];unfold qg4;rw[qab,q0u x y]
   cases decide (qao x y<=0) with
   | true=>
    simp only[zct,cond_false,zcf];rw[show IntKind.i64.wrap (((i+1:Nat):Int)+1)=((i+1+1:Nat):Int) from(i64_in _ (by omega)).trans (by omega)];exact(xbzj l hok f (i+1) (by omega)).resolve_right (by omega)
   | false=>rfl
  ·rw[qyo (by omega)]
theorem xbf4(l:List CV)(hp:qkg l=true):q3j l=zB (qb1 l):=by unfold q3j qb1;simp only[qab];exact(xbzj l hp FUEL 0 (by have:=(qj7 hp).1;unfold FUEL;omega)).resolve_right (by unfold FUEL;omega)
theorem xbf0(a b:List Int)(hp:(qad a&&qad b)=true):q3e a b=zI (qbk a b):=by unfold q3e;exact qak hp rfl
theorem xbwg(a b:List Int)(hp:(qad a&&qad b)=true):xbpo a b=zB (decide (qbk a b<=0)):=by unfold xbpo;exact qak hp rfl
theorem xbzh(l:List CV)(hok:qkg l=true): ∀(f i:Nat),l.length<f+i->qif (fun _ _ _ _ _ _ _ _ _ _ _ _ _ _ _ _ _=>zB false) (fun _ _ _ _ _=>zB true) f l ((i+1:Nat):Int)=zB (qbg ((l.map qbb).drop i))\/f=0
 | 0,i,hf=>.inr rfl
 | f+1,i,hf=>by
  left;obtain⟨hl,hr⟩:=qj7 hok;show qjs (qif (fun _ _ _ _ _ _ _ _ _ _ _ _ _ _ _ _ _=>zB false) (fun _ _ _ _ _=>zB true) f) _ _ l ((i+1:Nat):Int)=_;unfold qjs;refine qac (fun h=> ?_) fun h=>qap ?_
  ·obtain⟨e1,he1⟩:=qaz (b:=l) (i:=i) (by omega);obtain⟨e2,he2⟩:=qaz (b:=l) (i:=i+1) (by omega);obtain⟨x,rfl,hx⟩:=hr _ _ he1;obtain⟨y,rfl,hy⟩:=hr _ _ he2;rw[show IntKind.i64.wrap (((i+1:Nat):Int) - 1)=(i:Int) from(i64_in _ (by omega)).trans (by omega)];refine qas (by omega) (qas (by omega) ?_);rw[show(i:Int).toNat=i from rfl,he1,zag];refine qak rfl (qas (by omega) (qas h ?_));rw[show((i+1:Nat):Int).toNat=i+1 from rfl,he2,zag];refine qak rfl (qak (by show(qad x&&qad y)=true;rw[hx,hy];rfl) ?_);show cond (!(decide (qbk x y<=0))) _ _=_;rw[qyp he1 he2];unfold qbk;rw[qab]
   cases decide (qao x y<=0) with
   | true=>
    simp only[zct,cond_false,zcf];rw[show IntKind.i64.wrap (((i+1:Nat):Int)+1)=((i+1+1:Nat):Int) from(i64_in _ (by omega)).trans (by omega)];exact(xbzh l hok f (i+1) (by omega)).resolve_right (by omega)
   | false=>rfl
  ·rw[qyo (by omega)]
theorem xbrg(l:List CV)(hp:qkg l=true):xbh7 l=zB (qb1 l):=by unfold xbh7 qb1;simp only[qab];exact(xbzh l hp FUEL 0 (by have:=(qj7 hp).1;unfold FUEL;omega)).resolve_right (by unfold FUEL;omega)
theorem xbmm(l:List CV)(hp:qkg l=true):q9u l=zB (qb1 l):=by unfold q9u;exact qak hp rfl
open IntWalk (i64_in u8_in u32_in u64_in i64_quo u8_quo rem_in)
theorem qd1(c:Int)(r:List Int):qc8 (c::r)=if c<128 then 1
  else if 194<=c/\c<=223/\u8At r 0=true then 2
  else if 224<=c/\c<=239/\u8At r 0=true/\u8At r 1=true/\(c=224->160<=r.headD 0)/\(c=237->r.headD 0<160) then 3
  else if 240<=c/\c<=244/\u8At r 0=true/\u8At r 1=true/\u8At r 2=true/\(c=240->144<=r.headD 0)/\(c=244->r.headD 0<144) then 4
  else 0:=rfl
set_option maxHeartbeats 4000000 in
theorem xbwq(b:List Int)(i:Int)(hp:(qad b&&decide (0<=i/\i<b.length))=true):xbpv b i=zI (u8Rune b i):=by
 simp only[zab,decide_eq_true_eq] at hp;obtain⟨hb,hi0,hi1⟩:=hp;have hl:=(qax hb).1;obtain⟨c,hc⟩:=qaz (b:=b) (i:=i.toNat) (by omega);have hcr:=qa4 hb hc;have hdrop:=qdw hc;have hat: ∀k:Nat,b[i.toNat+1+k]? =(b.drop (i.toNat+1))[k]? :=fun k=>by rw[zbv]
 generalize ht:b.drop (i.toNat+1)=t at*;have huc: ∀k:Nat,u8Cont b (i+((k+1:Nat):Int))=u8At t k:=fun k=>by unfold u8Cont u8At;rw[qab,show(i+((k+1:Nat):Int)).toNat=i.toNat+1+k by omega,hat]
 have w1:IntKind.i64.wrap (i+1)=i+1:=i64_in _ (by omega);have w2:IntKind.i64.wrap (i+2)=i+2:=i64_in _ (by omega);have w3:IntKind.i64.wrap (i+3)=i+3:=i64_in _ (by omega);have u1:u8Cont b (i+1)=u8At t 0:=huc 0;have u2:u8Cont b (i+2)=u8At t 1:=huc 1;have u3:u8Cont b (i+3)=u8At t 2:=huc 2;unfold u8Rune;rw[qab,hdrop,qd1];unfold xbpv qfm qeg;simp only[getK,idxK,qab,hc,zag,w1,w2,w3,u1,u2,u3];refine qas hi0 (qas hi1 (qas (by omega) ?_))
 cases ha0:u8At t 0 with
 | false=>
  simp only[cond_false,zan,and_false,false_and,if_false]
  repeat' (refine qac (fun _=> ?_) fun _=> ?_)
  all_goals first
   | (refine qkn ?_;(repeat' split)<;>omega)
   | omega
 | true=>
  obtain⟨y,t',rfl⟩: ∃y t',t=y::t':=by
   cases t with
   | nil=>simp[u8At] at ha0
   | cons y t'=>exact⟨y,t',rfl⟩
  have hy:b[(i+1).toNat]? =some y:=by have:=hat 0;rw[show(i+1).toNat=i.toNat+1+0 by omega,this];rfl
  have hy1:i+1<b.length:=by have:=(zad.1 hy).1;omega
  simp only[cond_true,hy,zag,zb6,true_and,and_true];refine qas (by omega) ?_
  cases ha1:u8At (y::t') 1 with
  | false=>
   simp only[cond_false,zan,and_false,false_and,if_false]
   repeat' (refine qac (fun _=> ?_) fun _=> ?_)
   all_goals first
    | (refine qkn ?_;(repeat' split)<;>omega)
    | omega
  | true=>
   simp only[cond_true,true_and]
   cases ha2:u8At (y::t') 2 with
   | false=>
    simp only[cond_false,zan,and_false,false_and,if_false]
    repeat' (first|refine qac (fun _=> ?_) fun _=> ?_|refine qa2 (fun _=> ?_) fun _=> ?_)
    all_goals first
     | (refine qkn ?_;(repeat' split)<;>omega)
     | omega
   | true=>
    simp only[cond_true,true_and]
    repeat' (first|refine qac (fun _=> ?_) fun _=> ?_|refine qa2 (fun _=> ?_) fun _=> ?_)
    all_goals first
     | (refine qkn ?_;(repeat' split)<;>omega)
     | omega
theorem q1q(l:List Int):0<=qc8 l/\qc8 l<=l.length/\(qc8 l=0->∀c r,l=c::r-> ¬c<128):=by
 have hlt: ∀(l:List Int) (k:Nat),u8At l k=true->k<l.length:=fun l k h=>by
  unfold u8At at h;split at h
  ·rename_i x hx;exact(zad.1 hx).1
  ·cases h
 cases l with
 | nil=>exact⟨by simp[qc8],by simp[qc8],fun _ c r h=>by cases h⟩
 | cons c r=>
  rw[qd1];by_cases h1:c<128
  ·rw[if_pos h1];exact⟨by omega,by simp;omega,fun h=>by omega⟩
  ·rw[if_neg h1];split
   ·rename_i h;have:=hlt _ _ h.2.2;exact⟨by omega,by simp only[zaf];omega,fun h=>by omega⟩
   ·split
    ·rename_i h;have:=hlt _ _ h.2.2.2.1;exact⟨by omega,by simp only[zaf];omega,fun h=>by omega⟩
    ·split
     ·rename_i h;have:=hlt _ _ h.2.2.2.2.1;exact⟨by omega,by simp only[zaf];omega,fun h=>by omega⟩
     ·exact⟨by omega,by simp only[zaf];omega,fun _ c' r' e=>by cases e;exact h1⟩
theorem qyy: ∀(n m:Nat) (l:List Int),l.length<=n->l.length<=m->qhm n l=qhm m l
 | 0,0,l,_,_=>rfl
 | 0,m+1,l,h,_=>by have:l=[]:=zal (by omega);subst this;simp[qhm]
 | n+1,0,l,_,h=>by have:l=[]:=zal (by omega);subst this;simp[qhm]
 | n+1,m+1,l,h1,h2=>by
  unfold qhm;by_cases h:l=[]
  ·rw[if_pos h,if_pos h]
  ·rw[if_neg h,if_neg h];by_cases h0:qc8 l=0
   ·rw[if_pos h0,if_pos h0]
   ·rw[if_neg h0,if_neg h0];have:=q1q l;exact qyy n m _ (by simp only[zat];omega) (by simp only[zat];omega)
theorem qjc(l:List Int):qci l=if l=[] then true else if qc8 l=0 then false else qci (l.drop (qc8 l).toNat):=by
 unfold qci
 cases l with
 | nil=>simp[qhm]
 | cons c r=>
  rw[if_neg (by simp)]
  conv=>lhs;rw[zaf];unfold qhm
  rw[if_neg (by simp)];by_cases h0:qc8 (c::r)=0
  ·rw[if_pos h0,if_pos h0]
  ·rw[if_neg h0,if_neg h0];have:=q1q (c::r);exact qyy _ _ _ (by simp only[zat,zaf];omega) (zar _)
theorem xbus(b:List Int)(hb:qad b=true): ∀(f i:Nat),i<=b.length->b.length<f+i->
  qls (fun _ _ _ _ _ _ _ _ _ _=>zB false) (fun _ _ _ _ _=>zB true) f b i=zB (qci (b.drop i))
 | 0,i,hi,hf=>by omega
 | f+1,i,hi,hf=>by
  show qlt (qls (fun _ _ _ _ _ _ _ _ _ _=>zB false) (fun _ _ _ _ _=>zB true) f) _ _ b i=_;unfold qlt;have hl:=(qax hb).1;refine qac (fun h=>qak ?_ ?_) fun h=>qap ?_
  ·simp only[zab,decide_eq_true_eq];exact⟨hb,by omega,by omega⟩
  ·extract_lets r1 x2;have hr:=q1q (b.drop i);have e1:r1=qc8 (b.drop i):=by show u8Rune b i=_;unfold u8Rune;rw[qab];rfl
   rw[zat] at hr;rw[qjc,if_neg (by intro e;have:=congrArg List.length e;simp at this;omega)];refine qac (fun h0=>qap ?_) fun h0=> ?_
   ·rw[if_pos (by omega)]
   ·rw[if_neg (by omega)];have e2:x2=((i+(qc8 (b.drop i)).toNat:Nat):Int):=(i64_in ((i:Int)+r1) (by omega)).trans (by omega);rw[e2];refine(xbus b hb f _ (by omega) (by omega)).trans ?_;rw[List.drop_drop]
  ·rw[qe7 (by omega)];rfl
theorem xbws(b:List Int)(hp:qad b=true):xbpw b=zB (u8Valid b):=by unfold xbpw u8Valid;simp only[qab];exact xbus b hp FUEL 0 (by omega) (by have:=(qax hp).1;unfold FUEL;omega)
open IntWalk (i64_in u8_in u32_in u64_in i64_quo u8_quo rem_in)
theorem q4a{n:Nat}(h:n<2 ^ 64):(BitVec.ofInt 64 (n:Int)).toNat=n:=by rw[zc7];omega
theorem orN{a b:Nat}(ha:a<2 ^ 64)(hb:b<2 ^ 64):IntKind.u64.wrap ((BitVec.ofInt 64 (a:Int)||| BitVec.ofInt 64 (b:Int)).toNat)=((a||| b:Nat):Int):=by rw[BitVec.toNat_or,q4a ha,q4a hb];have:=zbh ha hb;exact u64_in _ (by omega)
theorem andN{a b:Nat}(ha:a<2 ^ 64)(hb:b<2 ^ 64):IntKind.u64.wrap ((BitVec.ofInt 64 (a:Int)&&&BitVec.ofInt 64 (b:Int)).toNat)=((a&&&b:Nat):Int):=by rw[BitVec.toNat_and,q4a ha,q4a hb];have:a&&&b<=a:=Nat.and_le_left;exact u64_in _ (by omega)
theorem xbxh(b:List Int)(hp:(qad b&&decide (8<=b.length))=true):xbqe b=zR [.cl (.int .u64 (u8Word b))] []:=by
 simp only[zab,decide_eq_true_eq] at hp;obtain⟨hb,hl⟩:=hp
 match b,hl,hb with
 | x0::x1::x2::x3::x4::x5::x6::x7::r,_,hb=>
  have r0:=qa4 hb (i:=0) (x:=x0) rfl;have r1:=qa4 hb (i:=1) (x:=x1) rfl;have r2:=qa4 hb (i:=2) (x:=x2) rfl;have r3:=qa4 hb (i:=3) (x:=x3) rfl;have r4:=qa4 hb (i:=4) (x:=x4) rfl;have r5:=qa4 hb (i:=5) (x:=x5) rfl;have r6:=qa4 hb (i:=6) (x:=x6) rfl;have r7:=qa4 hb (i:=7) (x:=x7) rfl;obtain⟨n0,rfl⟩: ∃n:Nat,x0=n:=⟨x0.toNat,by omega⟩;obtain⟨n1,rfl⟩: ∃n:Nat,x1=n:=⟨x1.toNat,by omega⟩;obtain⟨n2,rfl⟩: ∃n:Nat,x2=n:=⟨x2.toNat,by omega⟩;obtain⟨n3,rfl⟩: ∃n:Nat,x3=n:=⟨x3.toNat,by omega⟩;obtain⟨n4,rfl⟩: ∃n:Nat,x4=n:=⟨x4.toNat,by omega⟩;obtain⟨n5,rfl⟩: ∃n:Nat,x5=n:=⟨x5.toNat,by omega⟩;obtain⟨n6,rfl⟩: ∃n:Nat,x6=n:=⟨x6.toNat,by omega⟩;obtain⟨n7,rfl⟩: ∃n:Nat,x7=n:=⟨x7.toNat,by omega⟩;unfold xbqe u8Word xbki;simp only[qab,za4,za3,zag,zaf,List.getD_cons_zero,List.getD_cons_succ,Int.toNat_natCast];have w: ∀n:Nat,n<=255->IntKind.u64.wrap (n:Int)=(n:Int):=fun n h=>u64_in _ (by omega);have sh: ∀(n k:Nat),n<=255->k<=56->IntKind.u64.wrap ((n:Int)*2 ^ k)=((n*2 ^ k:Nat):Int):=fun n k h hk=>by
   have h2:2 ^ k<=2 ^ 56:=zc9 (by omega) hk;have h3:n*2 ^ k<=255*2 ^ 56:=Nat.mul_le_mul h h2;have e:((n:Int)*2 ^ k)=((n*2 ^ k:Nat):Int):=by rw[Int.natCast_mul,Int.natCast_pow];rfl
   rw[e];exact u64_in _ (by omega)
  have lt: ∀(n k:Nat),n<=255->k<=56->n*2 ^ k<2 ^ 64:=fun n k h hk=>by have h2:2 ^ k<=2 ^ 56:=zc9 (by omega) hk;have h3:n*2 ^ k<=255*2 ^ 56:=Nat.mul_le_mul h h2;omega
  have p0:n0<2 ^ 64:=by omega
  have p1:=zbh p0 (lt n1 8 (by omega) (by omega));have p2:=zbh p1 (lt n2 16 (by omega) (by omega));have p3:=zbh p2 (lt n3 24 (by omega) (by omega));have p4:=zbh p3 (lt n4 32 (by omega) (by omega));have p5:=zbh p4 (lt n5 40 (by omega) (by omega));have p6:=zbh p5 (lt n6 48 (by omega) (by omega));rw[w n0 (by omega),w n1 (by omega),w n2 (by omega),w n3 (by omega),w n4 (by omega),w n5 (by omega),w n6 (by omega),w n7 (by omega)];rw[sh n1 8 (by omega) (by omega),sh n2 16 (by omega) (by omega),sh n3 24 (by omega) (by omega),sh n4 32 (by omega) (by omega),sh n5 40 (by omega) (by omega),sh n6 48 (by omega) (by omega),sh n7 56 (by omega) (by omega)];rw[orN p0 (lt n1 8 (by omega) (by omega)),orN p1 (lt n2 16 (by omega) (by omega)),orN p2 (lt n3 24 (by omega) (by omega)),orN p3 (lt n4 32 (by omega) (by omega)),orN p4 (lt n5 40 (by omega) (by omega)),orN p5 (lt n6 48 (by omega) (by omega)),orN p6 (lt n7 56 (by omega) (by omega))];exact qas (by omega) (qas (by omega) (qas (by omega) (qas (by omega) (qas (by omega) (qas (by omega) (qas (by omega) (qas (by omega) rfl)))))))
def MASK:Nat:=9259542123273814144
theorem qi5{a b:Nat}:(a||| b)&&&MASK=0↔a&&&MASK=0/\b&&&MASK=0:=by
 rw[Nat.and_or_distrib_right];constructor
 ·intro h;have h1:a&&&MASK<=(a&&&MASK)||| (b&&&MASK):=Nat.left_le_or;have h2:b&&&MASK<=(a&&&MASK)||| (b&&&MASK):=Nat.right_le_or;omega
 ·rintro⟨h1,h2⟩;rw[h1,h2];rfl
theorem xbex: ∀k:Fin 8, ∀n:Fin 256,((n.val*2 ^ (8*k.val))&&&MASK=0)=(n.val<128):=by decide+kernel
def q8q(k:Nat)(l:List Int):Prop:=k<=l.length/\∀i x,i<k->l[i]? =some x->x<128
theorem qlb: ∀(k:Nat) (l:List Int),q8q k l->qci (l.drop k)=qci l
 | 0,l,_=>rfl
 | k+1,l,h=>by
  match l,h with
  | [],h=>have:=h.1;simp at this
  | c::r,h=>
   have hc:c<128:=h.2 0 c (by omega) rfl;rw[qjc (c::r),if_neg (by simp),qd1,if_pos hc,if_neg (by omega)];exact qlb k r ⟨by have:=h.1;simp at this;omega,fun i x hi hx=>h.2 (i+1) x (by omega) (by simpa using hx)⟩
theorem qho{l:List Int}(hb:qad l=true)(hl:8<=l.length): ∃N:Nat,u8Word l=N/\N<2 ^ 64/\(N&&&MASK=0->q8q 8 l):=by
 unfold u8Word;rw[qab];refine⟨_,rfl, ?_,fun h=>⟨hl, ?_⟩⟩
 ·have hr: ∀i,(l.getD i 0).toNat<=255:=fun i=>by
   rw[zbl]
   cases hx:l[i]? with
   | none=>simp
   | some x=>have:=qa4 hb hx;simp;omega
  have h0:=hr 0;have h1:=hr 1;have h2:=hr 2;have h3:=hr 3;have h4:=hr 4;have h5:=hr 5;have h6:=hr 6;have h7:=hr 7;exact zbh (zbh (zbh (zbh (zbh (zbh (zbh (by omega) (by omega)) (by omega)) (by omega)) (by omega)) (by omega)) (by omega)) (by omega)
 ·rw[qi5,qi5,qi5,qi5,qi5,qi5,qi5] at h;obtain⟨⟨⟨⟨⟨⟨⟨a0,a1⟩,a2⟩,a3⟩,a4⟩,a5⟩,a6⟩,a7⟩:=h;have key: ∀(k:Fin 8) (n:Nat),n<=255->(n*2 ^ (8*k.val))&&&MASK=0->n<128:=fun k n hn h=>by have:=xbex k ⟨n,by omega⟩;simp only at this;rw[this] at h;exact h
  intro i x hi hx;have hxr:=qa4 hb hx;have hg:(l.getD i 0).toNat=x.toNat:=by rw[zbl,hx];rfl
  match i,hi,hg with
  | 0,_,hg=>rw[hg] at a0;have:=key 0 x.toNat (by omega) (by simpa using a0);omega
  | 1,_,hg=>rw[hg] at a1;have:=key 1 x.toNat (by omega) a1;omega
  | 2,_,hg=>rw[hg] at a2;have:=key 2 x.toNat (by omega) a2;omega
  | 3,_,hg=>rw[hg] at a3;have:=key 3 x.toNat (by omega) a3;omega
  | 4,_,hg=>rw[hg] at a4;have:=key 4 x.toNat (by omega) a4;omega
  | 5,_,hg=>rw[hg] at a5;have:=key 5 x.toNat (by omega) a5;omega
  | 6,_,hg=>rw[hg] at a6;have:=key 6 x.toNat (by omega) a6;omega
  | 7,_,hg=>rw[hg] at a7;have:=key 7 x.toNat (by omega) a7;omega
theorem qoz{j k:Nat}{l:List Int}(h1:q8q j l)(h2:q8q k (l.drop j)):q8q (j+k) l:=by
 refine⟨by have:=h2.1;simp only[zat] at this;have:=h1.1;omega,fun i x hi hx=> ?_⟩;by_cases h:i<j
 ·exact h1.2 i x h hx
 ·exact h2.2 (i - j) x (by omega) (by rw[zbv,show j+(i - j)=i by omega];exact hx)
theorem xbd0(A:List Int->Option Out)(R:Option Out)(L:Nat)(v:Bool)(hA: ∀l,l.length<=L->qad l=true->qci l=v->A l=R): ∀(f:Nat) (l:List Int),l.length<f->l.length<=L->qad l=true->qci l=v->
  qj2 A f l=R
 | 0,l,h,_,_,_=>by omega
 | f+1,l,hf,hL,hb,hv=>by
  show qk1 (qj2 A f) A l=R;unfold qk1;refine qac (fun h=> ?_) fun h=>hA l hL hb hv;have b1:=qbd hb 8;have b2:=qbd hb 16;have b3:=qbd hb 24;have l1:8<=(l.drop 8).length:=by simp only[zat];omega
  have l2:8<=(l.drop 16).length:=by simp only[zat];omega
  have l3:8<=(l.drop 24).length:=by simp only[zat];omega
  obtain⟨n0,e0,p0,q0⟩:=qho hb (show 8<=l.length by omega);obtain⟨n1,e1,p1,q1⟩:=qho b1 l1;obtain⟨n2,e2,p2,q2⟩:=qho b2 l2;obtain⟨n3,e3,p3,q3⟩:=qho b3 l3;have two: ∀(l:List Int),qad l=true->8<=l.length->(qad l&&decide (8<=l.length))=true:=fun l h1 h2=>by rw[h1,decide_eq_true h2];rfl
  refine qak (two _ hb (by omega)) (qas (by omega) (qak (two _ b1 l1) (qas (by omega) (qak (two _ b2 l2) (qas (by omega) (qak (two _ b3 l3) ?_))))));dsimp only;rw[e0,e1,e2,e3];rw[orN p0 p1,orN p2 p3,orN (zbh p0 p1) (zbh p2 p3)];rw[show(9259542123273814144:Int)=(MASK:Int) from rfl,andN (zbh (zbh p0 p1) (zbh p2 p3)) (by decide)];refine qac (fun hz=>qas (by omega) ?_) fun _=>hA l hL hb hv;have hz:((n0||| n1)||| (n2||| n3))&&&MASK=0:=by omega
  rw[qi5,qi5,qi5] at hz;have hasc:=qoz (qoz (qoz (q0 hz.1.1) (q1 hz.1.2)) (q2 hz.2.1)) (q3 hz.2.2);exact xbd0 A R L v hA f _ (by simp only[zat];omega) (by simp only[zat];omega) (qbd hb 32) ((qlb 32 l hasc).trans hv)
def xbkg(n s lo hi:Int):Bool:=
 decide ((s=1/\(n<194\/244<n))\/(s=2/\194<=n/\n<=223/\lo=128/\hi=191)\/(s=3/\224<=n/\n<=239/\lo=(if n=224 then 160 else 128)/\hi=(if n=237 then 159 else 191))\/
  (s=4/\240<=n/\n<=244/\lo=(if n=240 then 144 else 128)/\hi=(if n=244 then 143 else 191)))
def tabB(n:Nat):Bool:=match qf1[n]? with
 | some f=>match qj9[(Int.fdiv f (2 ^ 4)).toNat]? with
  | some (.agg [.int .u8 lo,.int .u8 hi])=>decide (0<=Int.fdiv f (2 ^ 4)/\Int.fdiv f (2 ^ 4)<16)&&xbkg n (IntKind.i64.wrap (IntKind.u8.wrap ((BitVec.ofInt 8 f&&&BitVec.ofInt 8 7).toNat))) lo hi
  | _=>false
 | none=>false
theorem xbuk: ∀n:Fin 256,128<=n.val->tabB n.val=true:=by decide+kernel
theorem xbyk{e:Int}(h1:128<=e)(h2:e<=255): ∃f lo hi,u8First[e.toNat]? =some f/\(0<=Int.fdiv f (2 ^ 4)/\Int.fdiv f (2 ^ 4)<16)/\u8Accept[(Int.fdiv f (2 ^ 4)).toNat]? =some (.agg [.int .u8 lo,.int .u8 hi])/\
  xbkg e (IntKind.i64.wrap (IntKind.u8.wrap ((BitVec.ofInt 8 f&&&BitVec.ofInt 8 7).toNat))) lo hi=true:=by
 have h:=xbuk ⟨e.toNat,by omega⟩ (by simp;omega);simp only at h;unfold tabB at h;unfold u8First u8Accept;simp only[qab];split at h
 ·rename_i f hf;split at h
  ·rename_i lo hi ha;simp only[zab,decide_eq_true_eq] at h;refine⟨f,lo,hi,hf,h.1,ha, ?_⟩;rw[show e=(e.toNat:Int) by omega];exact h.2
  ·cases h
 ·cases h
theorem q2s{l:List Int}{k:Nat}{x:Int}(h:l[k]? =some x):u8At l k=decide (128<=x/\x<192):=by unfold u8At;rw[h]
theorem xbzp: ∀(f:Nat) (l:List Int),l.length<f->qad l=true->qgj (zB false) (zB true) f l=zB (qci l)
 | 0,l,h,_=>by omega
 | f+1,l,hf,hb=>by
  have again: ∀l':List Int,l'.length<l.length->qad l'=true->qci l'=qci l->qgj (zB false) (zB true) f l'=zB (qci l):=fun l' h1 h2 h3=>by rw[<- h3];exact xbzp f l' (by omega) h2
  show qnp (qgj (zB false) (zB true) f) (zB false) (zB true) l=_;generalize qgj (zB false) (zB true) f=ag at again;have hl:=(qax hb).1;unfold qnp
  cases l with
  | nil=>exact qdt (by simp) rfl
  | cons c r=>
  have hc:=qa4 hb (i:=0) (x:=c) rfl;have hbr:=qkp hb;simp only[zcj] at hbr;refine qas (by simp only[zaf];omega) (qas (by simp only[zaf];omega) ?_);simp only[za4,zag];refine qac (fun h7=>qas (by simp only[zaf];omega) ?_) fun h7=> ?_
  ·
   have hone:qci r=qci (c::r):=by rw[qjc (c::r),if_neg (by simp),qd1,if_pos h7,if_neg (by omega)];rfl
   rw[List.drop_one,zcj];have two: ∀(l:List Int),qad l=true->8<=l.length->(qad l&&decide (8<=l.length))=true:=fun l h1 h2=>by rw[h1,decide_eq_true h2];rfl
   refine qac (fun h8=>qak (two r hbr (by omega)) ?_) fun _=>again r (by simp) hbr hone;obtain⟨n0,e0,p0,q0⟩:=qho hbr (show 8<=r.length by omega);rw[e0,show(9259542123273814144:Int)=(MASK:Int) from rfl,andN p0 (by decide)];refine qac (fun hz=>qas (by omega) ?_) fun _=>again r (by simp) hbr hone;have a0:=q0 (by omega);have hd8:=(qlb 8 r a0).trans hone;have hb8:=qbd hbr 8;refine qac (fun h16=> ?_) fun _=>again _ (by simp only[zat,zaf];omega) hb8 hd8;have hb16:=qbd hb8 8;have l1:8<=(List.drop 8 r).length:=by omega
   have l2:8<=(List.drop 8 (List.drop 8 r)).length:=by rw[zat];omega
   obtain⟨n1,e1,p1,q1⟩:=qho hb8 l1;obtain⟨n2,e2,p2,q2⟩:=qho hb16 l2;refine qak (two _ hb8 l1) (qas (by omega) (qak (two _ hb16 l2) ?_));rw[e1,e2,orN p1 p2,andN (zbh p1 p2) (by decide)];refine qac (fun hz=>qas (by omega) ?_) fun _=>again _ (by simp only[zat,zaf];omega) hb8 hd8;have hz:(n1||| n2)&&&MASK=0:=by omega
   rw[qi5] at hz;have a12:=qoz (q1 hz.1) (q2 hz.2);have hb24:=qbd hb8 16;have hd24:=(qlb 16 _ a12).trans hd8;rw[qab];exact xbd0 ag _ (List.drop 16 (List.drop 8 r)).length (qci (c::r)) (fun l' h1 h2 h3=>again l' (by simp only[zat,zaf] at h1 ⊢;omega) h2 h3) FUEL _ (by simp only[zaf] at hl;simp only[zat];unfold FUEL;omega) (zar _) hb24 hd24
  ·obtain⟨fv,lo,hi,t1,t2,t3,t4⟩:=xbyk (e:=c) (by omega) hc.2;refine qas (by omega) (qas (by omega) ?_);simp only[t1,zag];refine qas t2.1 (qas t2.2 ?_);simp only[t3,zag];refine qak rfl ?_;generalize IntKind.i64.wrap (IntKind.u8.wrap ((BitVec.ofInt 8 fv&&&BitVec.ofInt 8 7).toNat))=s at t4 ⊢;have t4:=of_decide_eq_true t4;show cond (decide (s=2)) _ _=_;simp only[show qfi ((cell1 (CV.agg [.int .u8 lo,.int .u8 hi])).headD .nili)=lo from rfl,show qfi ((cell1 (CV.agg [.int .u8 lo,.int .u8 hi])).tail.headD .nili)=hi from rfl];have bad:qc8 (c::r)=0->(zB false:Option Out)=zB (qci (c::r)):=fun h=>by rw[qjc (c::r),if_neg (by simp),if_pos h]
   have good: ∀k:Nat,0<k->qc8 (c::r)=k->k<=(c::r).length->ag ((c::r).drop k)=zB (qci (c::r)):=fun k h0 h hk=>by refine again _ (by simp only[zat,zaf] at hk ⊢;omega) (qbd hb k) ?_;rw[qjc (c::r),if_neg (by simp),if_neg (by omega),h];rfl
   have hx: ∀k,k<r.length->∃x,r[k]? =some x/\0<=x/\x<=255:=fun k hk=>by obtain⟨x,hx⟩:=qaz (b:=r) hk;exact⟨x,hx,qa4 hbr hx⟩
   have hnone: ∀k,r.length<=k-> ¬u8At r k=true:=fun k hk=>by unfold u8At;rw[zay hk];simp
   have hf: ∀(k:Nat) (x:Int),r[k]? =some x->(x<128\/191<x)-> ¬u8At r k=true:=fun k x hx h=>by rw[q2s hx,decide_eq_true_eq];omega
   have ht: ∀(k:Nat) (x:Int),r[k]? =some x->128<=x->x<=191->u8At r k=true:=fun k x hx h h'=>by rw[q2s hx,decide_eq_true_eq];omega
   have hd: ∀x,r[0]? =some x->r.headD 0=x:=fun x hx=>by cases r with|nil=>cases hx|cons y t=>simpa using hx
   simp only[zaf] at good ⊢;rcases t4 with⟨rfl,hn⟩|⟨rfl,hn1,hn2,rfl,rfl⟩|⟨rfl,hn1,hn2,hlo,hhi⟩|⟨rfl,hn1,hn2,hlo,hhi⟩
   ·refine qdt (by omega) (qdt (by omega) (qdt (by omega) (bad ?_)));rw[qd1,if_neg h7,if_neg (by omega),if_neg (by omega),if_neg (by omega)]
   ·have zero: ¬u8At r 0=true->qc8 (c::r)=0:=fun h=>by rw[qd1,if_neg h7,if_neg (fun h'=>h h'.2.2),if_neg (by omega),if_neg (by omega)]
    refine qas rfl (qac (fun hs=>bad (zero (hnone 0 (by omega)))) fun hs=> ?_);obtain⟨x,hx0,hxr⟩:=hx 0 (by omega);simp only[za3,hx0,zag];refine qas (by omega) (qac (fun hs=>bad (zero (hf 0 x hx0 (by omega)))) fun hs1=>qas (by omega) (qac (fun hs=>bad (zero (hf 0 x hx0 (by omega)))) fun hs2=>qas (by omega) ?_));exact good 2 (by omega) (by rw[qd1,if_neg h7,if_pos ⟨hn1,hn2,ht 0 x hx0 (by omega) (by omega)⟩];rfl) (by omega)
   ·have zero: ¬(u8At r 0=true/\u8At r 1=true/\(c=224->160<=r.headD 0)/\(c=237->r.headD 0<160))->qc8 (c::r)=0:=fun h=>by rw[qd1,if_neg h7,if_neg (by omega),if_neg (fun h'=>h h'.2.2),if_neg (by omega)]
    refine qdt (by omega) (qas rfl (qac (fun hs=>bad (zero fun h=>hnone 1 (by omega) h.2.1)) fun hs=> ?_));obtain⟨x,hx0,hxr⟩:=hx 0 (by omega);obtain⟨y,hy0,hyr⟩:=hx 1 (by omega);have hdx:=hd x hx0;simp only[za3,hx0,hy0,zag];have zx:(x<lo\/hi<x)->qc8 (c::r)=0:=fun hh=>zero fun h=>by have h1:=h.1;rw[q2s hx0,decide_eq_true_eq] at h1;rw[hdx] at h;have:=h.2.2.1;have:=h.2.2.2;rw[hlo,hhi] at hh;split at hh<;>split at hh<;>omega
    refine qas (by omega) (qac (fun hs=>bad (zx (.inl hs))) fun hs1=>qas (by omega) (qac (fun hs=>bad (zx (.inr hs))) fun hs2=> ?_));refine qas (by omega) (qac (fun hs=>bad (zero fun h=>hf 1 y hy0 (by omega) h.2.1)) fun hs3=>qas (by omega) (qac (fun hs=>bad (zero fun h=>hf 1 y hy0 (by omega) h.2.1)) fun hs4=>qas (by omega) ?_));refine good 3 (by omega) ?_ (by omega);rw[hlo] at hs1;rw[hhi] at hs2;rw[qd1,if_neg h7,if_neg (by omega),if_pos ⟨hn1,hn2,ht 0 x hx0 (by split at hs1<;>omega) (by split at hs2<;>omega),ht 1 y hy0 (by omega) (by omega),fun e=>by rw[if_pos e] at hs1;rw[hdx];omega,fun e=>by rw[if_pos e] at hs2;rw[hdx];omega⟩];rfl
   ·have zero: ¬(u8At r 0=true/\u8At r 1=true/\u8At r 2=true/\(c=240->144<=r.headD 0)/\(c=244->r.headD 0<144))->qc8 (c::r)=0:=fun h=>by rw[qd1,if_neg h7,if_neg (by omega),if_neg (by omega),if_neg (fun h'=>h h'.2.2)]
    refine qdt (by omega) (qdt (by omega) (qas rfl (qac (fun hs=>bad (zero fun h=>hnone 2 (by omega) h.2.2.1)) fun hs=> ?_)));obtain⟨x,hx0,hxr⟩:=hx 0 (by omega);obtain⟨y,hy0,hyr⟩:=hx 1 (by omega);obtain⟨z,hz0,hzr⟩:=hx 2 (by omega);have hdx:=hd x hx0;simp only[za3,hx0,hy0,hz0,zag];have zx:(x<lo\/hi<x)->qc8 (c::r)=0:=fun hh=>zero fun h=>by have h1:=h.1;rw[q2s hx0,decide_eq_true_eq] at h1;rw[hdx] at h;have:=h.2.2.2.1;have:=h.2.2.2.2;rw[hlo,hhi] at hh;split at hh<;>split at hh<;>omega
    refine qas (by omega) (qac (fun hs=>bad (zx (.inl hs))) fun hs1=>qas (by omega) (qac (fun hs=>bad (zx (.inr hs))) fun hs2=> ?_));refine qas (by omega) (qac (fun hs=>bad (zero fun h=>hf 1 y hy0 (by omega) h.2.1)) fun hs3=>qas (by omega) (qac (fun hs=>bad (zero fun h=>hf 1 y hy0 (by omega) h.2.1)) fun hs4=> ?_));refine qas (by omega) (qac (fun hs=>bad (zero fun h=>hf 2 z hz0 (by omega) h.2.2.1)) fun hs5=>qas (by omega) (qac (fun hs=>bad (zero fun h=>hf 2 z hz0 (by omega) h.2.2.1)) fun hs6=>qas (by omega) ?_));refine good 4 (by omega) ?_ (by omega);rw[hlo] at hs1;rw[hhi] at hs2;rw[qd1,if_neg h7,if_neg (by omega),if_neg (by omega),if_pos ⟨hn1,hn2,ht 0 x hx0 (by split at hs1<;>omega) (by split at hs2<;>omega),ht 1 y hy0 (by omega) (by omega),ht 2 z hz0 (by omega) (by omega),fun e=>by rw[if_pos e] at hs1;rw[hdx];omega,fun e=>by rw[if_pos e] at hs2;rw[hdx];omega⟩];rfl
theorem xbr2(b:List Int)(hp:qad b=true):xbin b=zB (u8Valid b):=by unfold xbin u8Valid;simp only[qab];refine qak (by simp) (qas (by omega) ?_);rw[show((b.length:Int)).toNat=b.length from rfl,zb4];exact xbzp FUEL b (by have:=(qax hp).1;unfold FUEL;omega) hp
open IntWalk (i64_in u8_in u32_in u64_in i64_quo u8_quo rem_in)
theorem xbmh: ∀(k:Fin 8) (n:Fin 256),(IntKind.u8.wrap ((BitVec.ofInt 8 (n.val:Int)&&&BitVec.ofInt 8 (IntKind.u8.wrap (IntKind.u8.wrap (1*2 ^ (min k.val 8)) - 1))).toNat)=0)=((n.val:Int) % 2 ^ k.val=0):=by decide+kernel
theorem xbfw: ∀(k:Fin 8) (n:Fin 256),IntKind.u8.wrap (1*2 ^ (min k.val 8))≠0/\(Int.tmod (n.val:Int) (IntKind.u8.wrap (1*2 ^ (min k.val 8)))=0)=((n.val:Int) % 2 ^ k.val=0):=by decide+kernel
theorem xbas(y:Int)(r:List Int)(x:Int):(x::y::r)[(r.length+1)]? =some ((y::r).getLast (by simp)):=by rw[za3,List.getLast_eq_getElem];simp
theorem xbq9(b:List Int)(hp:qad b=true):xbh0 b=zB (qg0 b):=by
 unfold xbh0 qg0;rw[qab]
 match b,hp with
 | [],_=>rfl
 | [x],hp=>
  have hx:=qa4 hp (i:=0) (x:=x) rfl;refine qdt (by simp) (qas (by simp) ?_);simp only[za4,zag];refine qac (fun h=>qap ?_) fun h=>qas (by simp) (qas (by simp) rfl);exact(decide_eq_false (by omega)).symm
 | x::y::r,hp=>
  have hx:=qa4 hp (i:=0) (x:=x) rfl;have hl:=(qax hp).1;have hg:=xbas y r x;have hz:=qa4 hp hg;simp only[zaf] at hl;simp only[qo2];generalize (y::r).getLast (by simp)=z at*;refine qdt (by simp only[zaf];omega) (qas (by simp only[zaf];omega) ?_);simp only[za4,zag];refine qac (fun h=>qap ?_) fun h=>qdt (by simp only[zaf];omega) ?_
  ·rw[show decide (x<=7)=false from decide_eq_false (by omega)];rfl
  ·rw[show IntKind.i64.wrap ((((x::y::r).length:Nat):Int) - 1)=((r.length+1:Nat):Int) from(i64_in ((((x::y::r).length:Nat):Int) - 1) (by simp only[zaf];omega)).trans (by simp only[zaf];omega)];refine qas (by omega) (qas (by simp only[zaf];omega) ?_);rw[show(((r.length+1:Nat):Int)).toNat=r.length+1 from rfl,hg,zag];refine qas (by simp only[zaf];omega) (qdt (by omega) (qap ?_));have:=xbmh ⟨x.toNat,by omega⟩ ⟨z.toNat,by omega⟩;simp only[zc5 hz.1] at this;rw[show decide (x<=7)=true from decide_eq_true (by omega),zcf];rw[zbd];simp only[decide_eq_true_eq];rw[this]
theorem xbf5(b:List Int)(hp:qad b=true):q3k b=zB (qg0 b):=by
 unfold q3k qg0;rw[qab]
 match b,hp with
 | [],_=>rfl
 | [x],hp=>
  have hx:=qa4 hp (i:=0) (x:=x) rfl;refine qdt (by simp) (qas (by simp) ?_);simp only[za4,zag];refine qac (fun h=>qap ?_) fun h=>qas (by simp) (qas (by simp) rfl);exact(decide_eq_false (by omega)).symm
 | x::y::r,hp=>
  have hx:=qa4 hp (i:=0) (x:=x) rfl;have hl:=(qax hp).1;have hg:=xbas y r x;have hz:=qa4 hp hg;simp only[zaf] at hl;simp only[qo2];generalize (y::r).getLast (by simp)=z at*;refine qdt (by simp only[zaf];omega) (qas (by simp only[zaf];omega) ?_);simp only[za4,zag];refine qac (fun h=>qap ?_) fun h=>qdt (by simp only[zaf];omega) ?_
  ·rw[show decide (x<=7)=false from decide_eq_false (by omega)];rfl
  ·rw[show IntKind.i64.wrap ((((x::y::r).length:Nat):Int) - 1)=((r.length+1:Nat):Int) from(i64_in ((((x::y::r).length:Nat):Int) - 1) (by simp only[zaf];omega)).trans (by simp only[zaf];omega)];refine qas (by omega) (qas (by simp only[zaf];omega) ?_);rw[show(((r.length+1:Nat):Int)).toNat=r.length+1 from rfl,hg,zag];have:=xbfw ⟨x.toNat,by omega⟩ ⟨z.toNat,by omega⟩;simp only[zc5 hz.1] at this;refine qas (by simp only[zaf];omega) (qdt (by omega) (qdt this.1 (qap ?_)));rw[show decide (x<=7)=true from decide_eq_true (by omega),zcf];rw[zbd];simp only[decide_eq_true_eq];rw[this.2]
theorem or7{n x:Int}(h0:0<=n)(h1:n<72057594037927936)(h2:0<=x)(h3:x<=127):((BitVec.ofInt 64 (n*128)||| BitVec.ofInt 64 x).toNat:Int)=n*128+x:=by
 obtain⟨a,rfl⟩: ∃a:Nat,n=a:=⟨n.toNat,by omega⟩;obtain⟨b,rfl⟩: ∃b:Nat,x=b:=⟨x.toNat,by omega⟩;rw[BitVec.toNat_or];have e1:(BitVec.ofInt 64 ((a:Int)*128)).toNat=2 ^ 7*a:=by rw[zc7];omega
 have e2:(BitVec.ofInt 64 (b:Int)).toNat=b:=by rw[zc7];omega
 rw[e1,e2, <- Nat.two_pow_add_eq_or_of_lt (by omega:b<2 ^ 7)];omega
theorem and7: ∀n:Fin 256,IntKind.u8.wrap ((BitVec.ofInt 8 (n.val:Int)&&& ~~~ BitVec.ofInt 8 128).toNat)=(n.val:Int) % 128/\(IntKind.u8.wrap ((BitVec.ofInt 8 (n.val:Int)&&&BitVec.ofInt 8 128).toNat)=0)=((n.val:Int)<128):=by decide+kernel
theorem xbmy(b:List Int)(hb:qad b=true): ∀(f i:Nat) (n:Int),i<=b.length->b.length<f+i->0<=n->n<4294967296->
  qgd (fun _ _ _ _ _ _ _ _ _ _ _ _ _ _ _=>zR [.cl (.int .u32 0),.cl (.int .i64 0)] []) (fun _ _ _ _ _ _ _ _ _ _ _ _ _ _ _ _ _=>zR [.cl (.int .u32 0),.cl (.int .i64 0)] []) (fun y33 y34 _ _ _ _ _ _ _ _ _ _ _ _ _ _ _ _ _ _ _ _ _ _ _ _ _ _ _ _ _=>zR [.cl (.int .u32 y33),.cl (.int .i64 y34)] []) (fun _ _ _ _ _ _ _ _ _ _ _ _ _ _=>zR [.cl (.int .u32 0),.cl (.int .i64 0)] [])
   (fun y33 y34 _ _ _ _ _ _ _ _ _ _ _ _ _ _ _ _ _ _ _ _ _ _ _ _ _ _=>zR [.cl (.int .u32 y33),.cl (.int .i64 y34)] []) (fun _ _ _ _=>zR [.cl (.int .u32 0),.cl (.int .i64 0)] []) f n b (b.length:Int) i=zR [.cl (.int .u32 (qbt n i (b.drop i)).1),.cl (.int .i64 (qbt n i (b.drop i)).2)] []
 | 0,i,n,hi,hf,_,_=>by omega
 | f+1,i,n,hi,hf,h0,h1=>by
  show qg5 (qgd (fun _ _ _ _ _ _ _ _ _ _ _ _ _ _ _=>zR [.cl (.int .u32 0),.cl (.int .i64 0)] []) (fun _ _ _ _ _ _ _ _ _ _ _ _ _ _ _ _ _=>zR [.cl (.int .u32 0),.cl (.int .i64 0)] []) (fun y33 y34 _ _ _ _ _ _ _ _ _ _ _ _ _ _ _ _ _ _ _ _ _ _ _ _ _ _ _ _ _=>zR [.cl (.int .u32 y33),.cl (.int .i64 y34)] []) (fun _ _ _ _ _ _ _ _ _ _ _ _ _ _=>zR [.cl (.int .u32 0),.cl (.int .i64 0)] [])
   (fun y33 y34 _ _ _ _ _ _ _ _ _ _ _ _ _ _ _ _ _ _ _ _ _ _ _ _ _ _=>zR [.cl (.int .u32 y33),.cl (.int .i64 y34)] []) (fun _ _ _ _=>zR [.cl (.int .u32 0),.cl (.int .i64 0)] []) f) _ _ _ _ _ _ n b (b.length:Int) i=_
  have hl:=(qax hb).1;unfold qg5;refine qac (fun h=>qas (by omega) (qas h ?_)) fun h=> ?_
  ·obtain⟨c,hc⟩:=qaz (b:=b) (i:=i) (by omega);have hcr:=qa4 hb hc;rw[show(i:Int).toNat=i from rfl,hc,zag,qdw hc];have a7:=and7 ⟨c.toNat,by omega⟩;simp only[zc5 hcr.1] at a7;have step: ∀(X:Option Out), ¬33554431<n-> ¬((i:Int)=0/\c=128)->(IntKind.u64.wrap (n*2 ^ 7)=n*128)/\IntKind.u64.wrap (IntKind.u8.wrap ((BitVec.ofInt 8 c&&& ~~~ BitVec.ofInt 8 128).toNat))=c % 128/\IntKind.u64.wrap ((BitVec.ofInt 64 (n*128)||| BitVec.ofInt 64 (c % 128)).toNat)=n*128+c % 128/\
     qbt n i (c::b.drop (i+1))=if c<128 then(n*128+c,(i:Int)+1) else qbt (n*128+(c - 128)) ((i:Int)+1) (b.drop (i+1)):=fun X g1 g2=>by
    refine⟨(u64_in _ (by omega)).trans (by omega), ?_, ?_, ?_⟩
    ·rw[a7.1];exact u64_in _ (by omega)
    ·rw[or7 h0 (by omega) (by omega) (by omega)];exact u64_in _ (by omega)
    ·conv=>lhs;unfold qbt
     rw[if_neg (by rintro(h|h);exact g2 h;exact g1 h)]
   have stop:((i:Int)=0/\c=128)\/33554431<n->(zR [.cl (.int .u32 0),.cl (.int .i64 0)] []:Option Out)=zR [.cl (.int .u32 (qbt n i (c::b.drop (i+1))).1),.cl (.int .i64 (qbt n i (c::b.drop (i+1))).2)] []:=fun h=>by unfold qbt;rw[if_pos h]
   have go: ∀(g1: ¬33554431<n) (g2: ¬((i:Int)=0/\c=128)) (R:Option Out) (K:Int->Int->Option Out) (A:Option Out),True:=fun _ _ _ _ _=>trivial;refine qac (fun hi0=>qac (fun h128=>stop (.inl ⟨hi0,h128⟩)) fun h128=>qac (fun hn=>stop (.inr hn)) fun hn=> ?_) fun hi0=>qac (fun hn=>stop (.inr hn)) fun hn=> ?_
   ·obtain⟨s1,s2,s3,s4⟩:=step none hn (by omega);dsimp only;rw[s1,s2,s3,s4];refine qac (fun hz=> ?_) fun hz=> ?_
    ·have hz:c<128:=by rwa [a7.2] at hz
     rw[if_pos hz,show c % 128=c by omega,show IntKind.u32.wrap (n*128+c)=n*128+c from u32_in _ (by omega),show IntKind.i64.wrap ((i:Int)+1)=(i:Int)+1 from i64_in _ (by omega)]
    ·have hz: ¬c<128:=by rwa [a7.2] at hz
     rw[if_neg hz,show c % 128=c - 128 by omega,show IntKind.i64.wrap ((i:Int)+1)=((i+1:Nat):Int) from(i64_in _ (by omega)).trans (by omega)];exact xbmy b hb f (i+1) _ (by omega) (by omega) (by omega) (by omega)
   ·obtain⟨s1,s2,s3,s4⟩:=step none hn (by omega);dsimp only;rw[s1,s2,s3,s4];refine qac (fun hz=> ?_) fun hz=> ?_
    ·have hz:c<128:=by rwa [a7.2] at hz
     rw[if_pos hz,show c % 128=c by omega,show IntKind.u32.wrap (n*128+c)=n*128+c from u32_in _ (by omega),show IntKind.i64.wrap ((i:Int)+1)=(i:Int)+1 from i64_in _ (by omega)]
    ·have hz: ¬c<128:=by rwa [a7.2] at hz
     rw[if_neg hz,show c % 128=c - 128 by omega,show IntKind.i64.wrap ((i:Int)+1)=((i+1:Nat):Int) from(i64_in _ (by omega)).trans (by omega)];exact xbmy b hb f (i+1) _ (by omega) (by omega) (by omega) (by omega)
  ·rw[qe7 (by omega)];rfl
theorem xbml(b:List Int)(hp:qad b=true):q9r b=zR [.cl (.int .u32 (qex b).1),.cl (.int .i64 (qex b).2)] []:=by unfold q9r qex;simp only[qab];exact xbmy b hp FUEL 0 0 (by omega) (by have:=(qax hp).1;unfold FUEL;omega) (by omega) (by omega)
theorem xbf2(b:List Int)(hp:true=true):xbe9 b=zR [.fn (.func 127) [] [.ptr 0 0 0]] [some ⟨.var [.cl (.sli .u8 b)],false⟩]:=rfl
open IntWalk (i64_in u8_in u32_in u64_in i64_quo u8_quo rem_in)
theorem qvv: ∀(b:List Int) (n i:Int),(∀x∈b,0<=x/\x<=255)->0<=n->0<=i->(0<=(qbt n i b).1/\(qbt n i b).1<=4294967295)/\((qbt n i b).2=0\/i<(qbt n i b).2/\(qbt n i b).2<=i+b.length)
 | [],n,i,_,_,_=>by simp[qbt]
 | c::r,n,i,hb,hn,hi=>by
  have hc:=hb c (by simp);unfold qbt;split
  ·simp
  ·rename_i h;split
   ·exact⟨by omega,.inr (by simp only[zaf];omega)⟩
   ·have:=qvv r (n*128+(c - 128)) (i+1) (fun x hx=>hb x (by simp[hx])) (by omega) (by omega);refine⟨this.1,this.2.imp id fun h=> ?_⟩;simp only[zaf];omega
theorem qgl{b:List Int}(hb:qad b=true):(0<=(qan b).1/\(qan b).1<=4294967295)/\((qan b).2=0\/0<(qan b).2/\(qan b).2<=b.length):=by have:=qvv b 0 0 (qax hb).2 (by omega) (by omega);unfold qan;exact⟨this.1,this.2.imp id fun h=>by omega⟩
theorem q38: ∀(n m:Nat) (b:List Int),qad b=true->b.length<=n->b.length<=m->qcv n b=qcv m b
 | 0,0,b,_,_,_=>rfl
 | 0,m+1,b,_,h,_=>by have:b=[]:=zal (by omega);subst this;simp[qcv]
 | n+1,0,b,_,_,h=>by have:b=[]:=zal (by omega);subst this;simp[qcv]
 | n+1,m+1,b,hb,h1,h2=>by
  unfold qcv;by_cases h:b=[]
  ·rw[if_pos h,if_pos h]
  ·rw[if_neg h,if_neg h];by_cases h0:(qan b).2=0
   ·rw[if_pos h0,if_pos h0]
   ·rw[if_neg h0,if_neg h0];have:=(qgl hb).2;rw[q38 n m _ (qbd hb _) (by simp only[zat];omega) (by simp only[zat];omega)]
theorem q39{b:List Int}(hb:qad b=true):qcf b=if b=[] then[] else if(qan b).2=0 then[((qan b).1,false)] else((qan b).1,true)::qcf (b.drop (qan b).2.toNat):=by
 unfold qcf
 cases b with
 | nil=>rfl
 | cons c r=>
  rw[if_neg (by simp)]
  conv=>lhs;rw[zaf];unfold qcv
  rw[if_neg (by simp)];by_cases h0:(qan (c::r)).2=0
  ·rw[if_pos h0,if_pos h0]
  ·rw[if_neg h0,if_neg h0];have:=(qgl hb).2;rw[q38 _ _ _ (qbd hb _) (by simp only[zat,zaf] at*;omega) (zar _)]
def xbne(p:Int×Bool):List CV:=[.int .u32 p.1,.bool p.2]
theorem xbzc(l:Nat): ∀(f:Nat) (b:List Int),qad b=true->b.length<f->∃out,qjr l
  (fun _ _ _ _ _ _ _ _ _ _ _ _ _ _ y15=>zR [] [some ⟨.var [.cl (.sli .u8 y15)],false⟩]) (fun _ _ _ _ _ _ _ _ _ _ _ _ _ _ _ _ y32=>zR [] [some ⟨.var [.cl (.sli .u8 y32)],false⟩]) (fun _ _ y35=>zR [] [some ⟨.var [.cl (.sli .u8 y35)],false⟩]) f b=some out/\Hands out (some ((qcf b).map xbne))
 | 0,b,_,h=>by omega
 | f+1,b,hb,hf=>by
  have ih:=fun b' h1 h2=>xbzc l f b' h1 h2;generalize hag:qjr l (fun _ _ _ _ _ _ _ _ _ _ _ _ _ _ y15=>zR [] [some ⟨.var [.cl (.sli .u8 y15)],false⟩]) (fun _ _ _ _ _ _ _ _ _ _ _ _ _ _ _ _ y32=>zR [] [some ⟨.var [.cl (.sli .u8 y32)],false⟩]) (fun _ _ y35=>zR [] [some ⟨.var [.cl (.sli .u8 y35)],false⟩]) f=ag at ih;have e:qjr l (fun _ _ _ _ _ _ _ _ _ _ _ _ _ _ y15=>zR [] [some ⟨.var [.cl (.sli .u8 y15)],false⟩]) (fun _ _ _ _ _ _ _ _ _ _ _ _ _ _ _ _ y32=>zR [] [some ⟨.var [.cl (.sli .u8 y32)],false⟩]) (fun _ _ y35=>zR [] [some ⟨.var [.cl (.sli .u8 y35)],false⟩]) (f+1) b=
    qlp l ag (fun _ _ _ _ _ _ _ _ _ _ _ _ _ _ y15=>zR [] [some ⟨.var [.cl (.sli .u8 y15)],false⟩]) (fun _ _ _ _ _ _ _ _ _ _ _ _ _ _ _ _ y32=>zR [] [some ⟨.var [.cl (.sli .u8 y32)],false⟩]) (fun _ _ y35=>zR [] [some ⟨.var [.cl (.sli .u8 y35)],false⟩]) b:=by rw[<- hag];rfl
  rw[e];unfold qlp;rw[q39 hb];by_cases h:b=[]
  ·subst h;exact⟨_,qdt (by simp) rfl,.inl rfl⟩
  ·have hlen:0<b.length:=List.length_pos_iff.2 h;rw[if_neg h];have hr:=qgl hb;have e1:qex b=qan b:=by unfold qex;rw[qab]
   rw[e1];by_cases h0:(qan b).2=0
   ·rw[if_pos h0];refine⟨.yld [.int .u32 (qan b).1,.bool (decide ((0:Int)<(qan b).2))] (.ret [] [some ⟨.var [.cl (.sli .u8 b)],false⟩]) (.ret [] [some ⟨.var [.cl (.sli .u8 b)],false⟩]),qas (by omega) (qak hb (qak (zbk l) ?_)), ?_⟩
    ·dsimp only;rw[decide_eq_true h0];rfl
    ·refine⟨?_,.inr rfl,.inl rfl⟩;show[CV.int .u32 (qan b).1,.bool (decide ((0:Int)<(qan b).2))]=[.int .u32 (qan b).1,.bool false];rw[decide_eq_false (by omega)]
   ·rw[if_neg h0];obtain⟨out,g1,g2⟩:=ih (b.drop (qan b).2.toNat) (qbd hb _) (by simp only[zat];omega);refine⟨.yld [.int .u32 (qan b).1,.bool (decide ((0:Int)<(qan b).2))] (.ret [] [some ⟨.var [.cl (.sli .u8 b)],false⟩]) out,qas (by omega) (qak hb (qak (zbk l) ?_)), ?_⟩
    ·dsimp only;rw[decide_eq_false h0];show yldO _ _ (cond (decide ((0:Int)<=(qan b).2)) (cond (decide ((qan b).2<=(b.length:Int))) (ag (List.drop (Int.toNat (qan b).2) b)) none) none)=_;rw[decide_eq_true (show(0:Int)<=(qan b).2 by omega),decide_eq_true (show(qan b).2<=(b.length:Int) by omega)];simp only[cond_true];rw[g1];rfl
    ·refine⟨?_,.inr rfl,g2⟩;show[CV.int .u32 (qan b).1,.bool (decide ((0:Int)<(qan b).2))]=[.int .u32 (qan b).1,.bool true];rw[decide_eq_true (by omega)]
theorem xbwh(l:Nat)(b:List Int)(hp:qad b=true): ∃out,xblx l b=some out/\Hands out (some (qq6 (qs4 b))):=by unfold xblx qq6 qs4;simp only[qab];obtain⟨out,h1,h2⟩:=xbzc l FUEL b hp (by have:=(qax hp).1;unfold FUEL;omega);exact⟨out,by rw[zbk,cond_true];exact h1,h2⟩
theorem xbe1{n:Int}(h0:0<=n)(h1:n<=4294967295): ∃x,cond (decide ((2:Int)<n/ 40)) 2 (n/ 40)=x/\0<=x/\x<=2/\ [x,n - 40*x]=qbs n/\0<=n - 40*x:=by
 unfold qbs;by_cases h:n<80
 ·rw[if_pos h,decide_eq_false (by omega)];exact⟨n/ 40,rfl,by omega,by omega,by simp;omega,by omega⟩
 ·rw[if_neg h];by_cases h2:2<n/ 40
  ·rw[decide_eq_true h2];exact⟨2,rfl,by omega,by omega,by simp,by omega⟩
  ·rw[decide_eq_false h2];exact⟨n/ 40,rfl,by omega,by omega,by simp;omega,by omega⟩
theorem xbzl(R0:Option Out)(K:Nat->List Int->Option Out): ∀(ps:List (Int×Bool)) (o:List Int),(∀p∈ps,0<=p.1/\p.1<=4294967295)->o.length<=24->
  qgp (fun _ _=>R0) K (ps.map xbne) o.length o=match qr4 ps o with|some o'=>K o'.length o'| none=>R0
 | [],o,_,_=>rfl
 | (n,ok)::ps,o,hp,ho=>by
  have hn:=hp (n,ok) (by simp);have ih:=fun o' h=>xbzl R0 K ps o' (fun p hp'=>hp p (by simp[hp'])) h;show qj6 (qgp (fun _ _=>R0) K (ps.map xbne)) (fun _ _=>R0) K n ok o.length o=_;unfold qj6 qr4
  cases ok with
  | false=>simp
  | true=>
   simp only[zct,cond_false,Bool.true_eq_false,false_or];refine qac (fun h=> ?_) fun h=> ?_
   ·rw[if_pos (by omega)]
   ·rw[if_neg (by omega)];refine qac (fun h0=> ?_) fun h0=> ?_
    ·have:o=[]:=zal (by omega);subst this;rw[if_pos rfl];obtain⟨x,g1,g2,g3,g4,g5⟩:=xbe1 hn.1 hn.2;rw[show IntKind.u32.wrap (Int.tdiv n 40)=n/ 40 by rw[zca hn.1];exact u32_in _ (by simp only at hn;omega)];rw[g1,show IntKind.u32.wrap (40*x)=40*x from u32_in _ (by omega),show IntKind.u32.wrap (n - 40*x)=n - 40*x from u32_in _ (by simp only at hn;omega)];rw[za0,za8,za0];rw[g4];have hlen:(qbs n).length=2:=by rw[<- g4];rfl
     refine qew (by simp) (qew (by simp) (qew (by rw[hlen];simp) (qew (by rw[hlen];simp) (ih (qbs n) (by omega)))))
    ·rw[if_neg (by intro e;subst e;simp at h0)];refine qew (by simp only[zah,zaf,zbt];omega) (qew (by simp only[zah,zaf,zbt];omega) (ih _ (by simp only[zah,zaf,zbt];omega)))
theorem q1k: ∀(n:Nat) (b:List Int),qad b=true->∀p∈qcv n b,0<=p.1/\p.1<=4294967295
 | 0,b,_,p,hp=>by simp[qcv] at hp
 | n+1,b,hb,p,hp=>by
  have hr:=(qgl hb).1;unfold qcv at hp;split at hp
  ·simp at hp
  ·split at hp
   ·simp at hp;subst hp;exact hr
   ·rcases zas.1 hp with rfl|hp
    ·exact hr
    ·exact q1k n _ (qbd hb _) p hp
theorem xbrd(b:List Int)(hp:qad b=true):q9s b=zR [.cl (.sli .u32 (qb2 b).1),.cl (.int .i64 (qb2 b).2)] []:=by
 unfold q9s;refine qak hp (qak ?_ ?_)
 ·unfold qq6;rw[qab,List.all_map,zai];intro p _;rfl
 ·unfold qq6 qs4 qb2 qde qhf;simp only[qab];refine(xbzl _ _ (qcf b) [] (q1k _ b hp) (by simp)).trans ?_
  cases qr4 (qcf b) [] with
  | none=>rfl
  | some o=>
   show cond (!(qbf o)) _ _=_;cases h:qbf o<;>simp[h]
def qkl(o:List Int)(n:Int):List Int:=if o=[] then qbs n else o++[n]
def qs7:Int->Bool->List Int->List Int->Option (List Int)
 | _,fresh,[],o=>if fresh=true then some o else none
 | n,fresh,c::r,o=>if fresh=true/\c=128 then none else if 4294967295<n*128+c % 128 then none else if c<128 then qs7 0 true r (qkl o (n*128+c % 128)) else qs7 (n*128+c % 128) false r o
def qsc:Option (List Int)->List Int×Int
 | some o=>if qbf o=true then(o,0) else([],5)
 | none=>([],5)
theorem xbb7(o:List Int)(n:Int):o.length<=(qkl o n).length:=by
 unfold qkl;split
 ·rename_i h;subst h;simp
 ·simp
theorem qwe: ∀(b:List Int) (n:Int) (fresh:Bool) (o o':List Int),qs7 n fresh b o=some o'->o.length<=o'.length
 | [],n,fresh,o,o',h=>by
  unfold qs7 at h;split at h
  ·simp at h;subst h;exact zar _
  ·cases h
 | c::r,n,fresh,o,o',h=>by
  unfold qs7 at h;split at h
  ·cases h
  ·split at h
   ·cases h
   ·split at h
    ·exact zby (xbb7 o _) (qwe r _ _ _ _ h)
    ·exact qwe r _ _ _ _ h
theorem xbca(n:Int)(fresh:Bool)(c:Int)(r o:List Int):qs7 n fresh (c::r) o=if fresh=true/\c=128 then none else if 4294967295<n*128+c % 128 then none else if c<128 then qs7 0 true r (qkl o (n*128+c % 128)) else qs7 (n*128+c % 128) false r o:=rfl
theorem qpg(n i c:Int)(r:List Int):qbt n i (c::r)=if(i=0/\c=128)\/33554431<n then(0,0) else if c<128 then(n*128+c,i+1) else qbt (n*128+(c - 128)) (i+1) r:=rfl
theorem q4l: ∀(b:List Int) (n i:Int) (fresh:Bool) (o:List Int),(∀x∈b,0<=x/\x<=255)->0<=n->0<=i->(fresh=true↔i=0)->(b=[]->fresh=false)->
  qs7 n fresh b o=if(qbt n i b).2=0 then none else qs7 0 true (b.drop ((qbt n i b).2 - i).toNat) (qkl o (qbt n i b).1)
 | [],n,i,fresh,o,_,_,_,_,h=>by simp[qs7,qbt,h rfl]
 | c::r,n,i,fresh,o,hb,hn,hi,hf,_=>by
  have hc:=hb c (by simp);rw[xbca,qpg];by_cases h1:fresh=true/\c=128
  ·rw[if_pos h1,if_pos (show(i=0/\c=128)\/33554431<n from .inl ⟨hf.1 h1.1,h1.2⟩)];rfl
  ·rw[if_neg h1];by_cases h2:33554431<n
   ·rw[if_pos (by omega),if_pos (show(i=0/\c=128)\/33554431<n from .inr h2)];rfl
   ·rw[if_neg (by omega),if_neg (show ¬((i=0/\c=128)\/33554431<n) from fun h=>h.elim (fun h=>h1 ⟨hf.2 h.1,h.2⟩) h2)];by_cases h3:c<128
    ·rw[if_pos h3,if_pos h3,show c % 128=c by omega];simp only;rw[if_neg (by omega),show(i+1 - i).toNat=1 by omega];rfl
    ·rw[if_neg h3,if_neg h3,show c % 128=c - 128 by omega];rw[q4l r (n*128+(c - 128)) (i+1) false o (fun x hx=>hb x (by simp[hx])) (by omega) (by omega) (by simp;omega) (fun _=>rfl)];have hr:=qvv r (n*128+(c - 128)) (i+1) (fun x hx=>hb x (by simp[hx])) (by omega) (by omega);by_cases h4:(qbt (n*128+(c - 128)) (i+1) r).2=0
     ·rw[if_pos h4,if_pos h4]
     ·rw[if_neg h4,if_neg h4];have hr2:=hr.2.resolve_left h4;rw[show((qbt (n*128+(c - 128)) (i+1) r).2 - i).toNat=((qbt (n*128+(c - 128)) (i+1) r).2 - (i+1)).toNat+1 by omega,zdm]
theorem xblo{o:List Int}(h:20<o.length):qsc (some o)=([],5):=by
 unfold qsc;have:qbf o=false:=by
  match o,h with
  | x::y::r,h=>simp only[qbf];simp only[zaf] at h;rw[show decide (r.length<=18)=false from decide_eq_false (by omega)];rfl
  | [x],h=>simp at h
  | [],h=>simp at h
 show(if qbf o=true then(o,0) else([],5):List Int×Int)=_;rw[this];rfl
theorem xbss: ∀(n:Nat) (b:List Int),qad b=true->b.length<=n->∀o,qsc (qs7 0 true b o)=qsc (qr4 (qcv n b) o)
 | 0,b,_,h,o=>by have:b=[]:=zal (by omega);subst this;rfl
 | n+1,b,hb,h,o=>by
  unfold qcv;by_cases he:b=[]
  ·subst he;rfl
  ·rw[if_neg he];have hr:=qgl hb;have hnum:=q4l b 0 0 true o (qax hb).2 (by omega) (by omega) (by simp) (fun h=>absurd h he);rw[show qbt 0 0 b=qan b from rfl] at hnum;by_cases h0:(qan b).2=0
   ·rw[if_pos h0,hnum,if_pos h0];simp[qr4]
   ·rw[if_neg h0,hnum,if_neg h0];have hr2:=hr.2.resolve_left h0
    conv=>rhs;unfold qr4
    by_cases hlong:20<o.length
    ·rw[if_pos (.inr hlong)]
     cases hg:qs7 0 true (List.drop ((qan b).2 - 0).toNat b) (qkl o (qan b).1) with
     | none=>rfl
     | some o'=>
      rw[xblo (by have:=qwe _ _ _ _ _ hg;have:=xbb7 o (qan b).1;omega)];rfl
    ·rw[if_neg (by rintro(h|h);cases h;exact hlong h),Int.sub_zero];rw[xbss n _ (qbd hb _) (by simp only[zat];omega)];unfold qkl;split<;>rfl
theorem xbzi(b:List Int)(hb:qad b=true): ∀(f i:Nat) (n:Int) (fresh:Bool) (o:List Int),i<=b.length->b.length<f+i->0<=n->n<=4294967295->o.length<=2+i->
  qe2 (fun _ _ _ _ _ _ _ _ _ _ _ _ _ _ _ _=>zR [.cl (.sli .u32 []),.cl (.int .i64 5)] []) (fun _ _ _ _ _ _ _ _ _ _ _ _ _ _ _ _ _ _ _ _ _ _ _ _ _ _ _ _ _ _ _ _ _=>zR [.cl (.sli .u32 []),.cl (.int .i64 5)] []) (fun _ _ _ _ _ _ _ _ _ _ _ _ _ _ _ _ _ _ _ _ _ _ _ _ _ _ _=>zR [.cl (.sli .u32 []),.cl (.int .i64 5)] [])
   (fun _ _ _ y80 _ _ _ _ y85=>cond (!y80) (zR [.cl (.sli .u32 []),.cl (.int .i64 5)] []) (let r86:Bool:=qhf y85;cond (!r86) (zR [.cl (.sli .u32 []),.cl (.int .i64 5)] []) (zR [.cl (.sli .u32 y85),.cl (.int .i64 0)] []))) f b o.length n fresh i o=
   zR [.cl (.sli .u32 (qsc (qs7 n fresh (b.drop i) o)).1),.cl (.int .i64 (qsc (qs7 n fresh (b.drop i) o)).2)] []
 | 0,i,n,fresh,o,hi,hf,_,_,_=>by omega
 | f+1,i,n,fresh,o,hi,hf,h0,h1,ho=>by
  have ih:=fun n fresh o h0 h1 ho hi=>xbzi b hb f (i+1) n fresh o hi (by omega) h0 h1 ho;have hl:=(qax hb).1;generalize hag:qe2 (fun _ _ _ _ _ _ _ _ _ _ _ _ _ _ _ _=>zR [.cl (.sli .u32 []),.cl (.int .i64 5)] []) (fun _ _ _ _ _ _ _ _ _ _ _ _ _ _ _ _ _ _ _ _ _ _ _ _ _ _ _ _ _ _ _ _ _=>zR [.cl (.sli .u32 []),.cl (.int .i64 5)] []) (fun _ _ _ _ _ _ _ _ _ _ _ _ _ _ _ _ _ _ _ _ _ _ _ _ _ _ _=>zR [.cl (.sli .u32 []),.cl (.int .i64 5)] [])
   (fun _ _ _ y80 _ _ _ _ y85=>cond (!y80) (zR [.cl (.sli .u32 []),.cl (.int .i64 5)] []) (let r86:Bool:=qhf y85;cond (!r86) (zR [.cl (.sli .u32 []),.cl (.int .i64 5)] []) (zR [.cl (.sli .u32 y85),.cl (.int .i64 0)] []))) f=ag at ih
  show qg7 (qe2 _ _ _ _ f) _ _ _ _ b o.length n fresh i o=_;rw[hag];unfold qg7;refine qac (fun h=> ?_) fun h=> ?_
  ·obtain⟨c,hc⟩:=qaz (b:=b) (i:=i) (by omega);have hcr:=qa4 hb hc;rw[qdw hc];have ti:(i:Int).toNat=i:=rfl;have main:cond (decide ((4294967295:Int)<n*128+c % 128)) (zR [.cl (.sli .u32 []),.cl (.int .i64 5)] []) (cond (!(decide (c<128))) (ag b o.length (n*128+c % 128) (decide (c<128)) ((i+1:Nat):Int) o)
     (cond (decide ((o.length:Int)=0)) (cond (u32Ok (n*128+c % 128)) (cond (Nat.ble ((o++qfe (n*128+c % 128)).length*4) LIMN) (cond (Nat.ble ((o++qfe (n*128+c % 128)).length) LIMN) (ag b (o++qfe (n*128+c % 128)).length 0 (decide (c<128)) ((i+1:Nat):Int) (o++qfe (n*128+c % 128))) none) none) none)
      (cond (Nat.ble ((o++[IntKind.u32.wrap (n*128+c % 128)]).length*4) LIMN) (cond (Nat.ble ((o++[IntKind.u32.wrap (n*128+c % 128)]).length) LIMN) (ag b (o++[IntKind.u32.wrap (n*128+c % 128)]).length 0 (decide (c<128)) ((i+1:Nat):Int) (o++[IntKind.u32.wrap (n*128+c % 128)])) none) none)))=
     zR [.cl (.sli .u32 (qsc (if 4294967295<n*128+c % 128 then none else if c<128 then qs7 0 true (b.drop (i+1)) (qkl o (n*128+c % 128)) else qs7 (n*128+c % 128) false (b.drop (i+1)) o)).1),.cl (.int .i64 (qsc (if 4294967295<n*128+c % 128 then none else if c<128 then qs7 0 true (b.drop (i+1)) (qkl o (n*128+c % 128)) else qs7 (n*128+c % 128) false (b.drop (i+1)) o)).2)] []:=by
    refine qac (fun h2=> ?_) fun h2=> ?_
    ·rw[if_pos h2];rfl
    ·rw[if_neg h2];by_cases h3:c<128
     ·rw[if_pos h3,decide_eq_true h3];simp only[zct,cond_false];unfold qkl;refine qac (fun h4=> ?_) fun h4=> ?_
      ·have:o=[]:=zal (by omega);subst this;rw[if_pos rfl];have hok:u32Ok (n*128+c % 128)=true:=by unfold u32Ok;rw[qab];exact decide_eq_true (by omega)
       have e1:qfe (n*128+c % 128)=qbs (n*128+c % 128):=by unfold qfe;rw[qab]
       have hlen:(qbs (n*128+c % 128)).length=2:=by unfold qbs;split<;>rfl
       rw[e1,za0];exact qak hok (qew (by rw[hlen];simp) (qew (by rw[hlen];simp) (ih _ _ _ (by omega) (by omega) (by omega) (by omega))))
      ·rw[if_neg (by intro e;subst e;simp at h4),show IntKind.u32.wrap (n*128+c % 128)=n*128+c % 128 from u32_in _ (by omega)];refine qew (by simp only[zah,zaf,zbt];omega) (qew (by simp only[zah,zaf,zbt];omega) (ih _ _ _ (by omega) (by omega) (by simp only[zah,zaf,zbt];omega) (by omega)))
     ·rw[if_neg h3,decide_eq_false h3];simp only[Bool.not_false,cond_true];exact ih _ _ _ (by omega) (by omega) (by omega) (by omega)
   have wi:IntKind.i64.wrap ((i:Int)+1)=((i+1:Nat):Int):=(i64_in _ (by omega)).trans (by omega);have wn:IntKind.u64.wrap (n*128)=n*128:=u64_in _ (by omega);have wm:Int.tmod c 128=c % 128:=zcb hcr.1;have wc:IntKind.u64.wrap (c % 128)=c % 128:=u64_in _ (by omega);have ws:IntKind.u64.wrap (n*128+c % 128)=n*128+c % 128:=u64_in _ (by omega)
   conv=>rhs;unfold qs7
   cases fresh with
   | true=>
    simp only[cond_true,true_and];refine qas (by omega) (qas h ?_);simp only[ti,hc,zag];refine qac (fun h5=> ?_) fun h5=> ?_
    ·rw[if_pos h5];rfl
    ·rw[if_neg h5,wm,wc,wn,ws,wi];refine qas (by omega) (qas h (qas (by omega) (qas h main)))
   | false=>
    simp only[cond_false,zan,false_and,if_false];refine qas (by omega) (qas h ?_);simp only[ti,hc,zag];rw[wm,wc,wn,ws,wi];exact qas (by omega) (qas h main)
  ·rw[qe7 (by omega)]
   cases fresh with
   | false=>rfl
   | true=>
    show cond (!true) _ (cond (!(qhf o)) _ _)=_;unfold qhf;rw[qab];show _=zR [.cl (.sli .u32 (if qbf o=true then(o,0) else([],5):List Int×Int).1),.cl (.int .i64 (if qbf o=true then(o,0) else([],5):List Int×Int).2)] [];cases qbf o<;>rfl
theorem xbmp(b:List Int)(hp:qad b=true):q9x b=zR [.cl (.sli .u32 (qb2 b).1),.cl (.int .i64 (qb2 b).2)] []:=by
 unfold q9x qb2;simp only[qab];refine(xbzi b hp FUEL 0 0 true [] (by omega) (by have:=(qax hp).1;unfold FUEL;omega) (by omega) (by omega) (by simp)).trans ?_;rw[zbw,xbss b.length b hp (zar _)];have:qsc (qr4 (qcv b.length b) [])=qde b:=by unfold qsc qde qcf;rfl
 rw[this]
open IntWalk (i64_in u8_in u32_in u64_in i64_quo u8_quo rem_in)
theorem qso{n:Int}(h:qkd n=true):0<=n/\n<=1000:=by unfold qkd at h;rw[qab] at h;exact of_decide_eq_true h
theorem qo1{n:Int}(h:0<=n/\n<=1000):qkd n=true:=by unfold qkd;rw[qab];exact decide_eq_true h
theorem xbq7(tag:Int)(b:List Int)(hp:qad b=true):xbpj tag b=zB (qgb tag b):=by
 unfold xbpj qgb qbo qev qg0 qb2 u8Valid;simp only[qab];refine qac (fun h=> ?_) fun h=> ?_
 ·rw[if_pos h]
  match b,hp with
  | [],_=>rfl
  | [x],_=>
   refine qas (by simp) (qas (by simp) ?_);simp only[za4,zag];refine qac (fun h=>qap ?_) fun h=>qas (by simp) (qap ?_)
   ·simp[h]
   ·simp[h]
  | x::y::r,_=>exact qdt (by simp only[zaf];omega) (qap (by simp))
 ·rw[if_neg h];refine qac (fun h=> ?_) fun h=> ?_
  ·rw[if_pos h];exact qak hp rfl
  ·rw[if_neg h];refine qac (fun h=> ?_) fun h=> ?_
   ·rw[if_pos h];exact qak hp rfl
   ·rw[if_neg h];refine qac (fun h=> ?_) fun h=> ?_
    ·rw[if_pos h];refine qap ?_;rw[zbd];simp only[decide_eq_true_eq];cases b<;>simp;omega
    ·rw[if_neg h];refine qac (fun h=> ?_) fun h=> ?_
     ·rw[if_pos h];exact qak hp rfl
     ·rw[if_neg h];refine qac (fun h=> ?_) fun h=> ?_
      ·rw[if_pos h];exact qak hp rfl
      ·rw[if_neg h];refine qac (fun h=> ?_) fun h=> ?_
       ·rw[if_pos h]
       ·rw[if_neg h]
theorem xbwm(tag:Int)(b:List Int)(hp:qad b=true):xbvu tag b=zB (qgb tag b):=xbq7 tag b hp
theorem xbq0{l:List Int}(hb:qad l=true):0<=(qah l).1/\(qah l).1<16777216/\0<=(qah l).2/\(qah l).2<=4/\(qah l).2<=l.length:=by
 match l,hb with
 | [],_=>decide
 | c::t,hb=>
  have hc:=qa4 hb (i:=0) (x:=c) rfl;have ht:=(qax (qkp hb)).2;simp only[zcj] at ht;rw[qc0];split
  ·simp only[zaf];omega
  ·split
   ·simp only[zaf];omega
   ·split
    ·simp only[zaf];omega
    ·have:=q6q ht (j:=(c - 128).toNat) (by omega);simp only[zaf];omega
def parse1(P:List Int->Int×Nd×Int)(t:Int)(r:List Int):Int×Nd×Int:=
 if qbm t=false then(4,nd0,0)
 else if(qah r).2=0\/(r.length:Int) - (qah r).2<(qah r).1 then(1,nd0,0)
 else if qay t=false then(if qbo t ((r.drop (qah r).2.toNat).take (qah r).1.toNat)=true then(0,(t,((r.drop (qah r).2.toNat).take (qah r).1.toNat),[]),1+(qah r).2+(qah r).1) else(5,nd0,0))
 else if(qkf P ((r.drop (qah r).2.toNat).take (qah r).1.toNat).length ((r.drop (qah r).2.toNat).take (qah r).1.toNat)).1=0 then
  (if t=49/\qbg (qkf P ((r.drop (qah r).2.toNat).take (qah r).1.toNat).length ((r.drop (qah r).2.toNat).take (qah r).1.toNat)).2.2=false then(6,nd0,0) else(0,(t,[],(qkf P ((r.drop (qah r).2.toNat).take (qah r).1.toNat).length ((r.drop (qah r).2.toNat).take (qah r).1.toNat)).2.1.map ndCV),1+(qah r).2+(qah r).1))
  else((qkf P ((r.drop (qah r).2.toNat).take (qah r).1.toNat).length ((r.drop (qah r).2.toNat).take (qah r).1.toNat)).1,nd0,0)
theorem qme(n:Nat)(t:Int)(r:List Int):qsd (n+1) (t::r)=parse1 (qsd n) t r:=rfl
theorem q7b{P:List Int->Int×Nd×Int}{t:Int}{r:List Int}(h:(parse1 P t r).1=0):(parse1 P t r).2.2=1+(qah r).2+(qah r).1/\¬qbm t=false/\¬((qah r).2=0\/(r.length:Int) - (qah r).2<(qah r).1):=by
 unfold parse1 at h ⊢;split at h
 ·exact absurd h (by decide: ¬(4:Int)=0)
 ·rename_i h1;rw[if_neg h1];split at h
  ·exact absurd h (by decide: ¬(1:Int)=0)
  ·rename_i h2;rw[if_neg h2];refine⟨?_,h1,h2⟩;split at h
   ·rename_i h3;rw[if_pos h3];split at h
    ·rename_i h4;rw[if_pos h4]
    ·exact absurd h (by decide: ¬(5:Int)=0)
   ·rename_i h3;rw[if_neg h3];split at h
    ·rename_i h4;rw[if_pos h4];split at h
     ·exact absurd h (by decide: ¬(6:Int)=0)
     ·rename_i h5;rw[if_neg h5]
    ·rename_i h4;exact absurd h h4
theorem xbgh(f:List Int->Int×Nd×Int)(m:Nat):qkf f m []=(0,[],[]):=by cases m<;>rfl
theorem xbm4{f:List Int->Int×Nd×Int}{m:Nat}{b:List Int}(hne:b≠[])(h:(f b).1=0):qkf f (m+1) b=((qkf f m (b.drop (f b).2.2.toNat)).1,(f b).2.1::(qkf f m (b.drop (f b).2.2.toNat)).2.1,b.take (f b).2.2.toNat::(qkf f m (b.drop (f b).2.2.toNat)).2.2):=by show(if b=[] then _ else _)=_;rw[if_neg hne,if_pos h]
theorem xbcf{l:List (List Int)}(h1:l.length<=1000000)(h2: ∀x∈l,rowB x=true):qkg (l.map (CV.sli .u8))=true:=by unfold qkg;rw[qab];simp only[zab,decide_eq_true_eq,zai,zam,za7];refine⟨h1,fun x hx=> ?_⟩;obtain⟨y,hy,rfl⟩:=hx;exact h2 y hy
theorem qwg(l:List (List Int)):qb1 (l.map (CV.sli .u8))=qbg l:=by unfold qb1;rw[qab,zcg];congr 1;exact(zbx fun x _=>rfl).trans (List.map_id l)
open IntWalk (i64_in u8_in u32_in u64_in i64_quo u8_quo rem_in)
theorem qov: ∀ {n:Nat} {x:List CV},isNf n x=true->∃m t b l,n=m+1/\x=[.int .i64 t,.sli .u8 b,.slg 3 l]/\b.length<=100000000/\l.length<=100000000/\∀c∈l, ∃y,c=.agg y/\isNf m y=true
 | 0,x,h=>by simp[isNf] at h
 | n+1,x,h=>by
  unfold isNf at h;split at h
  ·exact absurd h zb8
  ·rename_i n' t b l hn;obtain rfl:n=n':=by omega
   simp only[zab,decide_eq_true_eq,zai] at h;refine⟨n,t,b,l,rfl,rfl,h.1,h.2.1,fun c hc=> ?_⟩;have:=h.2.2 c hc;split at this
   ·exact⟨_,rfl,this⟩
   ·exact absurd this zb8
  ·exact absurd h zb8
theorem xb0p{n:Nat}{t:Int}{b:List Int}{l:List CV}(h1:b.length<=100000000)(h2:l.length<=100000000)(h3: ∀c∈l, ∃y,c=.agg y/\isNf n y=true):isNf (n+1) [.int .i64 t,.sli .u8 b,.slg 3 l]=true:=by show(decide (b.length<=100000000)&&(decide (l.length<=100000000)&&l.all fun c=>match c with|.agg x=>isNf n x|_=>false))=true;simp only[zab,decide_eq_true_eq,zai];refine⟨h1,h2,fun c hc=> ?_⟩;obtain⟨y,rfl,hy⟩:=h3 c hc;exact hy
theorem qjl{n:Nat}{x:List CV}(h:isNr n x=true):isNf n x=true:=by unfold isNr at h;rwa [qab] at h
theorem q3p{n:Nat}{x:List CV}(h:isNf n x=true):isNr n x=true:=by unfold isNr;rwa [qab]
theorem qna{x:List CV}(h:isN x=true): ∃n,isNf n x=true:=by unfold isN at h;rw[qab] at h;exact @of_decide_eq_true _ (Classical.propDecidable _) h
theorem xbl3{n:Nat}{x:List CV}(h:isNf n x=true):isN x=true:=by unfold isN;rw[qab];exact @decide_eq_true _ (Classical.propDecidable _) ⟨n,h⟩
theorem qe3{a b:List CV}:qfw a b=true↔a=b:=by unfold qfw;rw[qab];exact @decide_eq_true_iff _ (Classical.propDecidable _)
theorem qd9{a b:List CV}:qfw a b=false↔ ¬a=b:=by rw[<- Bool.not_eq_true,qe3]
theorem qyn(rk:Nat)(k0:Int->Int->List CV->Int->List CV->Int->List CV->Nat->Int->List Int->List CV->List CV->Int->List CV->Nat->Int->List Int->List CV->Bool->Int->List Int->List CV->Int->List Int->List CV->Option Out)(k1:Int->Int->List CV->Int->Int->List Int->List CV->Int->List Int->List CV->Option Out)(R:Bool->Option Out)(ta tb:Int)(ba bb:List Int)(ka kb:List CV)(hk0:k0=(fun _ _ _ _ _ _ _ _ _ _ _ _ _ _ _ _ _ _ _ _ _ _ _ _ _=>R false))(hk1:k1=(fun _ _ _ _ _ _ _ _ _ _=>R true))(hl:ka.length=kb.length)(hka:ka.length<=100000000)(h1: ∀c∈ka, ∃y,c=.agg y/\isNf rk y=true)(n:Nat)(h2: ∀c∈kb, ∃y,c=.agg y/\isNf n y=true): ∀(f i:Nat),i<=ka.length->ka.length<f+i->
  qlq rk k0 k1 f i ta ba ka tb bb kb=R (@decide (ka.drop i=kb.drop i) (Classical.propDecidable _))
 | 0,i,hi,hf=>by omega
 | f+1,i,hi,hf=>by
  show qlr rk (qlq rk k0 k1 f) k0 k1 i ta ba ka tb bb kb=_;unfold qlr;refine qac (fun h=> ?_) fun h=> ?_
  ·obtain⟨x,hx⟩:=qaz (b:=ka) (i:=i) (by omega);obtain⟨y,hy⟩:=qaz (b:=kb) (i:=i) (by omega);obtain⟨x',rfl,hx'⟩:=h1 x (zac hx);obtain⟨y',rfl,hy'⟩:=h2 y (zac hy);refine qas (by omega) (qas h ?_);rw[show(i:Int).toNat=i from rfl,hx,zag];obtain⟨m,t,b,l,hm,hxe,_⟩:=qov hx';obtain⟨m',t',b',l',hm',hye,_⟩:=qov hy';simp only[cell1,hxe,hye,zb6,zcj];refine qak rfl (qas (by omega) (qas (by omega) ?_));rw[hy,zag];simp only[cell1,hxe,hye,zb6,zcj];refine qak rfl (qak ?_ ?_)
   ·simp only[zab];exact⟨q3p (hxe▸hx'),xbl3 (n:=n) (hye▸hy')⟩
   have ed:(ka.drop i=kb.drop i)=(x'=y'/\ka.drop (i+1)=kb.drop (i+1)):=by
    have ex:ka.drop i=.agg x'::ka.drop (i+1):=by obtain⟨hlt,e⟩:=zad.1 hx;rw[zbf hlt,e]
    have ey:kb.drop i=.agg y'::kb.drop (i+1):=by obtain⟨hlt,e⟩:=zad.1 hy;rw[zbf hlt,e]
    rw[ex,ey,zbc,CV.agg.injEq]
   refine qf7 (fun h5=> ?_) fun h5=> ?_
   ·rw[hk0];have h5: ¬x'=y':=by rw[hxe,hye];exact qd9.1 (by simpa [qfi,qbb,qca] using h5)
    show R false=_;congr 1;symm;rw[@decide_eq_false_iff_not _ (Classical.propDecidable _),ed];exact fun e=>h5 e.1
   ·have h5:x'=y':=by rw[hxe,hye];exact qe3.1 (by simpa [qfi,qbb,qca] using h5)
    rw[show IntKind.i64.wrap ((i:Int)+1)=((i+1:Nat):Int) from(i64_in _ (by omega)).trans (by omega)];refine(qyn rk k0 k1 R ta tb ba bb ka kb hk0 hk1 hl hka h1 n h2 f (i+1) (by omega) (by omega)).trans ?_;congr 1;rw[zbd,@decide_eq_true_iff _ (Classical.propDecidable _),@decide_eq_true_iff _ (Classical.propDecidable _),ed];exact⟨fun e=>⟨h5,e⟩,fun e=>e.2⟩
  ·rw[hk1];show R true=_;congr 1;symm;rw[@decide_eq_true_iff _ (Classical.propDecidable _),za2 (by omega),za2 (by omega)]
theorem xbwr(rk:Nat)(ta:Int)(ba:List Int)(ka:List CV)(tb:Int)(bb:List Int)(kb:List CV)(hp:(isNr (rk+1) [.int .i64 ta,.sli .u8 ba,.slg 3 ka]&&isN [.int .i64 tb,.sli .u8 bb,.slg 3 kb])=true):xblz rk ta ba ka tb bb kb=zB (qfw [.int .i64 ta,.sli .u8 ba,.slg 3 ka] [.int .i64 tb,.sli .u8 bb,.slg 3 kb]):=by
 simp only[zab] at hp;obtain⟨m,t,b,l,hm,he,hb,hl,hc⟩:=qov (qjl hp.1);obtain⟨n,hn⟩:=qna hp.2;obtain⟨m',t',b',l',hm',he',hb',hl',hc'⟩:=qov hn;simp only[zbc,CV.int.injEq,CV.sli.injEq,CV.slg.injEq,true_and,and_true] at he he';obtain⟨rfl,rfl,rfl⟩:=he;obtain⟨rfl,rfl,rfl⟩:=he';obtain rfl:m=rk:=by omega
 have bad: ¬(ta=tb/\ba=bb/\ka=kb)->false=qfw [.int .i64 ta,.sli .u8 ba,.slg 3 ka] [.int .i64 tb,.sli .u8 bb,.slg 3 kb]:=fun h=>by symm;rw[qd9];simp only[zbc,CV.int.injEq,CV.sli.injEq,CV.slg.injEq,true_and,and_true];exact h
 unfold xblz qa5 qll;simp only[qab];refine qa2 (fun h=>qap (bad fun e=>h e.1)) fun h=>qak (qib hb) (qa2 (fun h1=>qap (bad fun e=>h1 e.2.1)) fun h1=>qa2 (fun h2=>qap (bad fun e=>h2 (by rw[e.2.2]))) fun h2=> ?_);refine(qyn m _ _ (fun b=>zB b) ta tb ba bb ka kb rfl rfl (by omega) hl hc m' hc' FUEL 0 (by omega) (by unfold FUEL;omega)).trans (qap ?_);rw[zbd,@decide_eq_true_iff _ (Classical.propDecidable _),qe3];simp only[zbw,zbc,CV.int.injEq,CV.sli.injEq,CV.slg.injEq,true_and,and_true];exact⟨fun e=>⟨h,h1,e⟩,fun e=>e.2.2⟩
open IntWalk (i64_in u8_in u32_in u64_in i64_quo u8_quo rem_in)
def ndL(x:Nd):List CV:=[.int .i64 x.1,.sli .u8 x.2.1,.slg 3 x.2.2]
open IntWalk (i64_in u8_in u32_in u64_in i64_quo u8_quo rem_in)
theorem qch: ∀ {n:Nat} {x:List CV},isTf n x=true->∃m t b l,n=m+1/\x=[.int .i64 t,.sli .u8 b,.slg 3 l]/\(∀z∈b,0<=z/\z<=255)/\∀c∈l, ∃y,c=.agg y/\isTf m y=true
 | 0,x,h=>by simp[isTf] at h
 | n+1,x,h=>by
  unfold isTf at h;split at h
  ·exact absurd h zb8
  ·rename_i n' t b l hn;obtain rfl:n=n':=by omega
   simp only[zab,zai] at h;refine⟨n,t,b,l,rfl,rfl,fun z hz=>qle (h.1 z hz),fun c hc=> ?_⟩;have:=h.2 c hc;split at this
   ·exact⟨_,rfl,this⟩
   ·exact absurd this zb8
  ·exact absurd h zb8
theorem qxv{f g:List CV->Int->Int}: ∀ {l:List CV},(∀c∈l, ∀x,f (cell1 c) x=g (cell1 c) x)->∀x,qdi f l x=qdi g l x
 | [],_,x=>rfl
 | c::r,h,x=>by
  simp only[qdi];split
  ·rfl
  ·rw[h c (zbj ..)];exact qxv (fun c' hc=>h c' (zaw _ hc)) _
theorem xbc0: ∀ {n m:Nat} {x:List CV},isTf n x=true->isTf m x=true->∀z,qi8 n x z=qi8 m x z
 | n,m,x,hn,hm,z=>by obtain⟨n',t,b,l,rfl,rfl,_,hl⟩:=qch hn;obtain⟨m',t',b',l',rfl,he,_,hl'⟩:=qch hm;simp only[zbc,CV.int.injEq,CV.sli.injEq,CV.slg.injEq,true_and,and_true] at he;obtain⟨rfl,rfl,rfl⟩:=he;show qdi (qi8 n') l _=qdi (qi8 m') l _;refine qxv (fun c hc x=> ?_) _;obtain⟨y,rfl,hy⟩:=hl c hc;obtain⟨y',e,hy'⟩:=hl' _ hc;cases e;exact xbc0 hy hy' x
theorem qxg: ∀ {n m:Nat} {x:List CV},isTf n x=true->isTf m x=true->qds n x=qds m x
 | n,m,x,hn,hm=>by obtain⟨n',t,b,l,rfl,rfl,_,hl⟩:=qch hn;obtain⟨m',t',b',l',rfl,he,_,hl'⟩:=qch hm;simp only[zbc,CV.int.injEq,CV.sli.injEq,CV.slg.injEq,true_and,and_true] at he;obtain⟨rfl,rfl,rfl⟩:=he;show 1+b.length+(l.map fun c=>qds n' (cell1 c)).sum=1+b.length+(l.map fun c=>qds m' (cell1 c)).sum;congr 2;refine zbx fun c hc=> ?_;obtain⟨y,rfl,hy⟩:=hl c hc;obtain⟨y',e,hy'⟩:=hl' _ hc;cases e;exact qxg hy hy'
theorem q2q{f g:CV->Bool}: ∀ {l:List CV},(∀c∈l,f c=g c)->l.all f=l.all g
 | [],_=>rfl
 | c::r,h=>by rw[zc4,zc4,h c (zbj ..),q2q fun c' hc=>h c' (zaw _ hc)]
theorem xbsd: ∀ {n m:Nat} {x:List CV},isTf n x=true->isTf m x=true->∀d,okF n d x=okF m d x
 | n,m,x,hn,hm,d=>by
  obtain⟨n',t,b,l,rfl,rfl,_,hl⟩:=qch hn;obtain⟨m',t',b',l',rfl,he,_,hl'⟩:=qch hm;simp only[zbc,CV.int.injEq,CV.sli.injEq,CV.slg.injEq,true_and,and_true] at he;obtain⟨rfl,rfl,rfl⟩:=he
  cases d with
  | zero=>rfl
  | succ d=>
   show(qbm t&&(if qay t=true then decide (b=[])&&l.all fun c=>okF n' d (cell1 c) else decide (l=[])&&qbo t b))=(qbm t&&(if qay t=true then decide (b=[])&&l.all fun c=>okF m' d (cell1 c) else decide (l=[])&&qbo t b));have:(l.all fun c=>okF n' d (cell1 c))=l.all fun c=>okF m' d (cell1 c):=q2q fun c hc=>by obtain⟨y,rfl,hy⟩:=hl c hc;obtain⟨y',e,hy'⟩:=hl' _ hc;cases e;exact xbsd hy hy' d
   rw[this]
theorem qmx: ∀ {n m:Nat} {x:List CV},isTf n x=true->isTf m x=true->qam n x=qam m x
 | n,m,x,hn,hm=>by
  obtain⟨n',t,b,l,rfl,rfl,_,hl⟩:=qch hn;obtain⟨m',t',b',l',rfl,he,_,hl'⟩:=qch hm;simp only[zbc,CV.int.injEq,CV.sli.injEq,CV.slg.injEq,true_and,and_true] at he;obtain⟨rfl,rfl,rfl⟩:=he;have:(l.map fun c=>qam n' (cell1 c))=l.map fun c=>qam m' (cell1 c):=zbx fun c hc=>by obtain⟨y,rfl,hy⟩:=hl c hc;obtain⟨y',e,hy'⟩:=hl' _ hc;cases e;exact qmx hy hy'
  simp only[qam,this]
theorem qel{a:List CV}{n:Nat}(h:isTf n a=true):isTf (rkOf a) a=true:=by unfold rkOf;have hx: ∃n,isTf n a=true:=⟨n,h⟩;rw[@dif_pos _ (Classical.propDecidable _) hx];exact Classical.choose_spec hx
theorem qva{n:Nat}{x:List CV}(h:isTr n x=true):isTf n x=true:=by unfold isTr at h;rwa [qab] at h
theorem xbi9{n:Nat}{x:List CV}(h:isTf n x=true):isTr n x=true:=by unfold isTr;rwa [qab]
theorem qh8{x:List CV}(h:isT x=true): ∃n,isTf n x=true:=by unfold isT at h;rw[qab] at h;exact @of_decide_eq_true _ (Classical.propDecidable _) h
theorem qjm{n:Nat}{x:List CV}(h:isSr n x=true):isTf n x=true/\qds n x<=30000:=by unfold isSr at h;rw[qab] at h;simpa [zab] using h
theorem q3s{n:Nat}{x:List CV}(h:isTf n x=true)(h':qds n x<=30000):isSr n x=true:=by unfold isSr;rw[qab];simp[h,h']
theorem qcc{x:List CV}(h:isS x=true): ∃n,isTf n x=true/\qds n x<=30000:=by unfold isS at h;rw[qab] at h;exact @of_decide_eq_true _ (Classical.propDecidable _) h
theorem xbam{x:List CV}{n:Nat}(h:isTf n x=true)(h':qds n x<=30000):isS x=true:=by unfold isS;rw[qab];exact @decide_eq_true _ (Classical.propDecidable _) ⟨n,h,h'⟩
theorem qvb{n:Nat}{x:List CV}(h:isWr n x=true):isTf n x=true/\qds n x<=30000/\∃d,okF n d x=true:=by unfold isWr at h;rw[qab] at h;exact @of_decide_eq_true _ (Classical.propDecidable _) h
theorem xbja{n:Nat}{x:List CV}(h:isTf n x=true/\qds n x<=30000/\∃d,okF n d x=true):isWr n x=true:=by unfold isWr;rw[qab];exact @decide_eq_true _ (Classical.propDecidable _) h
theorem xbv6{x:List CV}{n:Nat}(h:isTf n x=true/\qds n x<=30000/\∃d,okF n d x=true):isW x=true:=by unfold isW;rw[qab];exact @decide_eq_true _ (Classical.propDecidable _) ⟨n,h⟩
theorem qek{n:Nat}{a:List CV}(h:isTf n a=true)(z:Int):qbz a z=qi8 n a z:=by unfold qbz;rw[qab];exact xbc0 (qel h) h z
theorem qvs{n:Nat}{a:List CV}(h:isTf n a=true)(d:Int):q1h a d=if okF n d.toNat a=true then((qam n a).1.length:Int) else -1:=by unfold q1h;rw[qab,xbsd (qel h) h,qmx (qel h) h]
theorem qq2{n:Nat}{a:List CV}(h:isTf n a=true):qi2 a=if(qam n a).2=true then((qam n a).1,true) else([],false):=by unfold qi2;rw[qab,qmx (qel h) h]
theorem qnt{n:Nat}{a:List CV}(h:isTf n a=true)(d:Int):qfd a d=if okF n d.toNat a=true/\(qam n a).2=true then((qam n a).1,true) else([],false):=by unfold qfd;rw[qab,xbsd (qel h) h,qmx (qel h) h]
theorem qdz{n:Nat}{a:List CV}(h:isTf n a=true):qa0 a=if okF n 32 a=true/\(qam n a).2=true then((qam n a).1,0) else([],1):=by unfold qa0;rw[qab,xbsd (qel h) h,qmx (qel h) h]
theorem qq0{n:Nat}{a:List CV}(h:isTf n a=true):qou a=decide (okF n 32 a=true/\(qam n a).2=true):=by unfold qou;rw[qab,xbsd (qel h) h,qmx (qel h) h]
theorem qsq{tag n:Int}(h:qke tag n=true):(0<=tag/\tag<=255)/\0<=n/\n<16777216:=by unfold qke at h;rw[qab] at h;exact of_decide_eq_true h
theorem qu5{l l':List Int}{k:Nat}(h:l=l')(hk:k=l'.length):zR [.ref 0 0 k true 1] [some ⟨.ints .u8 l,false⟩]=zR [.ref 0 0 l'.length true 1] [some ⟨.ints .u8 l',false⟩]:=by rw[h,hk]
theorem xbwn(tag n:Int)(hp:qke tag n=true):xbps tag n=zR [.ref 0 0 (qc6 tag n).length true 1] [some ⟨.ints .u8 (qc6 tag n),false⟩]:=by
 obtain⟨ht,hn⟩:=qsq hp;unfold xbps qc6;rw[qab];unfold qdv;have et:IntKind.u8.wrap tag=tag:=u8_in _ (by omega);refine qac (fun h=> ?_) fun h=>qac (fun h2=> ?_) fun h2=>qac (fun h3=> ?_) fun h3=> ?_
 ·rw[if_pos h];exact qu5 (by rw[et,show IntKind.u8.wrap n=n from u8_in _ (by omega)]) rfl
 ·rw[if_neg h,if_pos h2];exact qu5 (by rw[et,show IntKind.u8.wrap n=n from u8_in _ (by omega)]) rfl
 ·rw[if_neg h,if_neg h2,if_pos h3];refine qu5 ?_ rfl;rw[et,zca (by omega),zcb (by omega),show IntKind.i64.wrap (n/ 256)=n/ 256 from i64_in _ (by omega),show IntKind.u8.wrap (n/ 256)=n/ 256 from u8_in _ (by omega),show IntKind.u8.wrap (n % 256)=n % 256 from u8_in _ (by omega)]
 ·rw[if_neg h,if_neg h2,if_neg h3];refine qu5 ?_ rfl;rw[et,zca (by omega),zca (by omega),show IntKind.i64.wrap (n/ 256)=n/ 256 from i64_in _ (by omega),show IntKind.i64.wrap (n/ 65536)=n/ 65536 from i64_in _ (by omega),zcb (by omega),zcb (by omega),
   show IntKind.u8.wrap (n/ 65536)=n/ 65536 from u8_in _ (by omega),show IntKind.u8.wrap (n/ 256 % 256)=n/ 256 % 256 from u8_in _ (by omega),show IntKind.u8.wrap (n % 256)=n % 256 from u8_in _ (by omega)]
open IntWalk (i64_in u8_in u32_in u64_in i64_quo u8_quo rem_in)
theorem xboo(n:Int):IntKind.u8.wrap n=n % 256:=by simp[IntKind.wrap,IntKind.signed,IntKind.bits]
def putB(n:Int):Nat->List Int
 | 0=>[]
 | c+1=>n/ 2 ^ (8*c) % 256::putB n c
theorem xbsr(n:Int)(h0:0<=n)(h1:n<16777216): ∀(c f:Nat) (l:List Int),c<=3->c<f->l.length+c<=10->
  qky (fun y8 _ _ _ y12=>zR [.ref 0 0 y8 true 1] [some ⟨.ints .u8 y12,false⟩]) f l.length n ((c:Int) - 1) l=zR [.ref 0 0 (l++putB n c).length true 1] [some ⟨.ints .u8 (l++putB n c),false⟩]
 | c,0,l,_,hf,_=>by omega
 | 0,f+1,l,_,_,hl=>by show qjp (qky (fun y8 _ _ _ y12=>zR [.ref 0 0 y8 true 1] [some ⟨.ints .u8 y12,false⟩]) f) (fun y8 _ _ _ y12=>zR [.ref 0 0 y8 true 1] [some ⟨.ints .u8 y12,false⟩]) l.length n (((0:Nat):Int) - 1) l=_;unfold qjp;refine qdt (by omega) ?_;simp only[putB,za9]
 | c+1,f+1,l,hc,hf,hl=>by
  show qjp (qky (fun y8 _ _ _ y12=>zR [.ref 0 0 y8 true 1] [some ⟨.ints .u8 y12,false⟩]) f) (fun y8 _ _ _ y12=>zR [.ref 0 0 y8 true 1] [some ⟨.ints .u8 y12,false⟩]) l.length n (((c+1:Nat):Int) - 1) l=_;unfold qjp;have e1:((c+1:Nat):Int) - 1=c:=by omega
  rw[e1];refine qas (by omega) ?_;simp only[show IntKind.i64.wrap ((8:Int)*(c:Int))=((8*c:Nat):Int) from(i64_in _ (by omega)).trans (by omega)];refine qdt (by omega) ?_;have e2:min ((8*c:Nat):Int).toNat 64=8*c:=by show min (8*c) 64=8*c;omega
  simp only[e2];have e3:IntKind.u8.wrap (Int.fdiv n (2 ^ (8*c)))=n/ 2 ^ (8*c) % 256:=by
   have hc2:c=0\/c=1\/c=2:=by omega
   rw[xboo];rcases hc2 with rfl|rfl|rfl<;>rw[zb3 n (by decide)]
  rw[e3,show IntKind.i64.wrap ((c:Int) - 1)=(c:Int) - 1 from i64_in _ (by omega)];refine qew (by simp only[zah,zbu];omega) (qew (by simp only[zah,zbu];omega) ?_);refine(xbsr n h0 h1 c f _ (by omega) (by omega) (by simp only[zah,zbu];omega)).trans ?_;simp only[putB,za6,List.singleton_append]
theorem xbz3(tag n:Int)(hp:qke tag n=true):xbyy tag n=zR [.ref 0 0 (qc6 tag n).length true 1] [some ⟨.ints .u8 (qc6 tag n),false⟩]:=by
 obtain⟨ht,hn⟩:=qsq hp;unfold xbyy qc6 qef;simp only[qab];unfold qdv qat;have et:IntKind.u8.wrap tag=tag:=u8_in _ (by omega);rw[et];by_cases h:n<128
 ·rw[if_pos h,if_pos h,show IntKind.i64.wrap ((1:Int) - 1)=0 from i64_in _ (by omega),show IntKind.u8.wrap n=n from u8_in _ (by omega)];exact qas rfl rfl
 ·rw[if_neg h,if_neg h];have fin: ∀c:Nat,1<=c->c<=3->∀l',[tag,128+(c:Int)]++putB n c=l'->(cond (decide (IntKind.i64.wrap ((c:Int)+1 - 1)=0)) (zR [.ref 0 0 2 true 1] [some ⟨.ints .u8 [tag,IntKind.u8.wrap n],false⟩]) (qky (fun y8 _ _ _ y12=>zR [.ref 0 0 y8 true 1] [some ⟨.ints .u8 y12,false⟩]) FUEL 2 n (IntKind.i64.wrap (IntKind.i64.wrap ((c:Int)+1 - 1) - 1)) [tag,IntKind.u8.wrap (IntKind.i64.wrap ((128:Int)+IntKind.i64.wrap ((c:Int)+1 - 1)))]))=zR [.ref 0 0 l'.length true 1] [some ⟨.ints .u8 l',false⟩]:=fun c h1 h3 l' hl'=>by rw[show IntKind.i64.wrap ((c:Int)+1 - 1)=c from(i64_in _ (by omega)).trans (by omega),show IntKind.i64.wrap ((128:Int)+c)=128+c from i64_in _ (by omega),show IntKind.u8.wrap ((128:Int)+c)=128+c from u8_in _ (by omega),show IntKind.i64.wrap ((c:Int) - 1)=(c:Int) - 1 from i64_in _ (by omega)];refine qdt (by omega) ((xbsr n hn.1 hn.2 c FUEL [tag,128+(c:Int)] h3 (by unfold FUEL;omega) (by simp only[zaf,zbt];omega)).trans ?_);rw[hl']
  by_cases h2:n<256
  ·rw[if_pos h2,if_pos h2];refine fin 1 (by omega) (by omega) _ ?_;show[tag,(129:Int),n/ 1 % 256]=_;rw[show n/ 1 % 256=n by omega]
  ·rw[if_neg h2,if_neg h2];by_cases h3:n<65536
   ·rw[if_pos h3,if_pos h3];refine fin 2 (by omega) (by omega) _ ?_;show[tag,(130:Int),n/ 256 % 256,n/ 1 % 256]=_;rw[show n/ 256 % 256=n/ 256 by omega,show n/ 1 % 256=n % 256 by omega]
   ·rw[if_neg h3,if_neg h3];refine fin 3 (by omega) (by omega) _ ?_;show[tag,(131:Int),n/ 65536 % 256,n/ 256 % 256,n/ 1 % 256]=_;rw[show n/ 65536 % 256=n/ 65536 by omega,show n/ 1 % 256=n % 256 by omega]
theorem xbgm{c:CV}(h:xbsv c=true): ∃x,c=.sli .u8 x/\rowB x=true:=by
 unfold xbsv at h;split at h
 ·exact⟨_,rfl,h⟩
 ·exact absurd h zb8
theorem qst{l:List CV}(h:qnb l=true):l.length<=1000000/\(∀c∈l, ∃x,c=.sli .u8 x)/\(l.flatMap qbb).length<=1000000:=by unfold qnb at h;rw[qab] at h;simp only[zab,decide_eq_true_eq,zai] at h;exact⟨h.1,fun c hc=>let ⟨x,e,_⟩:=xbgm (h.2.1 c hc);⟨x,e⟩,h.2.2⟩
theorem qg2{l:List CV}{i:Nat}{x:List Int}(h:l[i]? =some (.sli .u8 x)):(l.drop i).flatMap qbb=x++(l.drop (i+1)).flatMap qbb:=by obtain⟨hlt,e⟩:=zad.1 h;rw[zbf hlt,e,za5];rfl
theorem xbjb(l:List CV)(hl:l.length<=1000000)(hall: ∀c∈l, ∃x,c=.sli .u8 x): ∀(f i:Nat) (acc:List Int),i<=l.length->l.length<f+i->acc.length+((l.drop i).flatMap qbb).length<=1000000->
  qig (fun _ _ _ _ _ _ y7=>zR [.cl (.sli .u8 y7)] []) f l acc.length i acc=zR [.cl (.sli .u8 (acc++(l.drop i).flatMap qbb))] []
 | 0,i,acc,hi,hf,_=>by omega
 | f+1,i,acc,hi,hf,hs=>by
  show qjt (qig (fun _ _ _ _ _ _ y7=>zR [.cl (.sli .u8 y7)] []) f) (fun _ _ _ _ _ _ y7=>zR [.cl (.sli .u8 y7)] []) l acc.length i acc=_;unfold qjt;refine qac (fun h=> ?_) fun h=> ?_
  ·obtain⟨c,hc⟩:=qaz (b:=l) (i:=i) (by omega);obtain⟨x,rfl⟩:=hall c (zac hc);refine qas (by omega) (qas h ?_);rw[show(i:Int).toNat=i from rfl,hc,zag];refine qak rfl ?_;have hfl:=qg2 hc;rw[hfl,zah] at hs;have e:qbb ((cell1 (.sli .u8 x)).getD 0 .nili)=x:=rfl;simp only[e];refine qew (by simp only[zah];omega) (qew (by simp only[zah];omega) ?_);rw[show IntKind.i64.wrap ((i:Int)+1)=((i+1:Nat):Int) from(i64_in _ (by omega)).trans (by omega)];refine(xbjb l hl hall f (i+1) (acc++x) (by omega) (by omega) (by simp only[zah];omega)).trans ?_;rw[hfl,za6]
  ·rw[za2 (by omega),List.flatMap_nil,za9]
theorem xbrh(l:List CV)(hp:qnb l=true):xbh8 l=zR [.cl (.sli .u8 (qc9 l))] []:=by obtain⟨h1,h2,h3⟩:=qst hp;unfold xbh8 qc9;simp only[qab];exact xbjb l h1 h2 FUEL 0 [] (by omega) (by unfold FUEL;omega) (by simpa using h3)
theorem xbpa(l:List CV)(hl:l.length<=1000000)(hall: ∀c∈l, ∃x,c=.sli .u8 x): ∀(f i:Nat) (acc:List Int),i<=l.length->l.length<f+i->acc.length+((l.drop i).flatMap qbb).length<=1000000->
  qfc (fun _ _ _ _ y27=>zR [.cl (.sli .u8 y27)] []) f acc.length l (l.length:Int) i acc=zR [.cl (.sli .u8 (acc++(l.drop i).flatMap qbb))] []
 | 0,i,acc,hi,hf,_=>by omega
 | f+1,i,acc,hi,hf,hs=>by
  show qfp (qfc (fun _ _ _ _ y27=>zR [.cl (.sli .u8 y27)] []) f) (fun _ _ _ _ y27=>zR [.cl (.sli .u8 y27)] []) acc.length l (l.length:Int) i acc=_;unfold qfp;refine qac (fun h=> ?_) fun h=> ?_
  ·obtain⟨c,hc⟩:=qaz (b:=l) (i:=i) (by omega);obtain⟨x,rfl⟩:=hall c (zac hc);refine qas (by omega) (qas h ?_);rw[show(i:Int).toNat=i from rfl,hc,zag];refine qak rfl ?_;have hfl:=qg2 hc;rw[hfl,zah] at hs;have e:qbb ((cell1 (.sli .u8 x)).getD 0 .nili)=x:=rfl;simp only[e];refine qew (by simp only[zah];omega) (qew (by simp only[zah];omega) ?_);rw[show IntKind.i64.wrap ((i:Int)+1)=((i+1:Nat):Int) from(i64_in _ (by omega)).trans (by omega)];refine(xbpa l hl hall f (i+1) (acc++x) (by omega) (by omega) (by simp only[zah];omega)).trans ?_;rw[hfl,za6]
  ·rw[za2 (by omega),List.flatMap_nil,za9]
theorem xbkc(l:List CV)(hl:l.length<=1000000)(hall: ∀c∈l, ∃x,c=.sli .u8 x)(k0:ByteArray->List CV->Int->List Int->List CV->Int->Int->List CV->Nat->List Int->Int->List Int->Int->Int->Int->ByteArray->Option Out)(k1:List CV->Int->List CV->Int->Int->Option Out): ∀(f i:Nat) (n:Int),i<=l.length->l.length<f+i->0<=n->n+((l.drop i).flatMap qbb).length<=1000000->
  qgh k0 k1 f l n l (l.length:Int) i=k1 l (n+((l.drop i).flatMap qbb).length) l (l.length:Int) l.length
 | 0,i,n,hi,hf,_,_=>by omega
 | f+1,i,n,hi,hf,h0,hs=>by
  show qg9 (qgh k0 k1 f) k0 k1 l n l (l.length:Int) i=_;unfold qg9;refine qac (fun h=> ?_) fun h=> ?_
  ·obtain⟨c,hc⟩:=qaz (b:=l) (i:=i) (by omega);obtain⟨x,rfl⟩:=hall c (zac hc);refine qas (by omega) (qas h ?_);rw[show(i:Int).toNat=i from rfl,hc,zag];refine qak rfl ?_;have hfl:=qg2 hc;rw[hfl,zah] at hs;have e:qbb ((cell1 (.sli .u8 x)).getD 0 .nili)=x:=rfl;simp only[e];rw[show IntKind.i64.wrap (n+(x.length:Int))=n+x.length from i64_in _ (by omega)];refine qdt (by omega) ?_;rw[show IntKind.i64.wrap ((i:Int)+1)=((i+1:Nat):Int) from(i64_in _ (by omega)).trans (by omega)];refine(xbkc l hl hall k0 k1 f (i+1) _ (by omega) (by omega) (by omega) (by omega)).trans ?_;rw[hfl,zah,show n+(x.length:Int)+(((l.drop (i+1)).flatMap qbb).length:Nat)=n+((x.length+((l.drop (i+1)).flatMap qbb).length:Nat):Int) by omega]
  ·obtain rfl:i=l.length:=by omega
   rw[za2 (zar _)];simp
theorem xbmt(l:List CV)(hp:qnb l=true):q97 l=zR [.cl (.sli .u8 (qc9 l))] []:=by obtain⟨h1,h2,h3⟩:=qst hp;unfold q97 qc9 qbe;simp only[qab];refine(xbkc l h1 h2 _ _ FUEL 0 0 (by omega) (by unfold FUEL;omega) (by omega) (by rw[zbw];omega)).trans ?_;refine qak ?_ (xbpa l h1 h2 FUEL 0 [] (by omega) (by unfold FUEL;omega) (by simpa using h3));unfold xbfg;rw[qab,zbw];exact decide_eq_true (by omega)
theorem xbt9(a b:List Int)(hl:a.length=b.length)(hb:a.length<=100000000): ∀(f i:Nat),i<=a.length->a.length<f+i->
  qil (fun _ _ _ _ _ _ _ _ _ _ _ _ _ _ _ _=>zB false) (fun _ _ _ _=>zB true) f a b (a.length:Int) i=zB (decide (a.drop i=b.drop i))
 | 0,i,hi,hf=>by omega
 | f+1,i,hi,hf=>by
  show qjz (qil (fun _ _ _ _ _ _ _ _ _ _ _ _ _ _ _ _=>zB false) (fun _ _ _ _=>zB true) f) (fun _ _ _ _ _ _ _ _ _ _ _ _ _ _ _ _=>zB false) (fun _ _ _ _=>zB true) a b (a.length:Int) i=_;unfold qjz;refine qac (fun h=> ?_) fun h=> ?_
  ·obtain⟨x,hx⟩:=qaz (b:=a) (i:=i) (by omega);obtain⟨y,hy⟩:=qaz (b:=b) (i:=i) (by omega);refine qas (by omega) (qas h ?_);rw[show(i:Int).toNat=i from rfl,hx,zag];refine qas (by omega) (qas (by omega) ?_);rw[hy,zag];rw[qdw hx,qdw hy];refine qa2 (fun hne=>qap ?_) fun he=> ?_
   ·simp[hne]
   ·subst he;rw[show IntKind.i64.wrap ((i:Int)+1)=((i+1:Nat):Int) from(i64_in _ (by omega)).trans (by omega)];refine(xbt9 a b hl hb f (i+1) (by omega) (by omega)).trans (qap ?_);simp
  ·refine qap ?_;rw[qe7 (by omega),qe7 (by omega)];simp
theorem xbrp(a b:List Int)(hp:qr9 a=true):xbid a b=zB (qa5 a b):=by
 have hp:=qic hp;unfold xbid qa5 qll;simp only[qab];refine qa2 (fun h=>qap ?_) fun h=> ?_
 ·rw[eq_comm,decide_eq_false_iff_not];intro e;subst e;exact h rfl
 ·exact xbt9 a b (by omega) hp FUEL 0 (by omega) (by unfold FUEL;omega)
open IntWalk (i64_in u8_in u32_in u64_in i64_quo u8_quo rem_in)
theorem q6y{n:Int}(h:qot n=true):0<=n/\n<=30000:=by unfold qot at h;rw[qab] at h;exact of_decide_eq_true h
theorem qvf{n:Int}(h:0<=n/\n<=30000):qot n=true:=by unfold qot;rw[qab];exact decide_eq_true h
theorem xbap{f:List CV->Int->Int}: ∀ {l:List CV},(∀c∈l, ∀x,f (cell1 c) x<=x - 1)->∀x,qdi f l x<=x
 | [],_,x=>Int.le_refl _
 | c::r,h,x=>by
  simp only[qdi];split
  ·exact Int.le_refl _
  ·have h1:=h c (zbj ..) x;have h2:=xbap (l:=r) (fun c' hc=>h c' (zaw _ hc)) (f (cell1 c) x);omega
theorem qn3: ∀ {n:Nat} {x:List CV},isTf n x=true->∀z,qi8 n x z<=z - 1
 | n,x,hn,z=>by
  obtain⟨n',t,b,l,rfl,rfl,_,hl⟩:=qch hn;show qdi (qi8 n') l (z - 1 - min (b.length:Int) 1048576)<=z - 1;have:=xbap (f:=qi8 n') (l:=l) (fun c hc x=>by
   obtain⟨y,rfl,hy⟩:=hl c hc;exact qn3 hy x) (z - 1 - min (b.length:Int) 1048576)
  omega
theorem qvd{f:List CV->Int->Int}{g:CV->Nat}: ∀ {l:List CV},(∀c∈l, ∀x,x<=30000->0<=f (cell1 c) x->(g c:Int)=x - f (cell1 c) x)->(∀c∈l, ∀x,f (cell1 c) x<=x - 1)->∀x,x<=30000->0<=qdi f l x->0<=x/\((l.map g).sum:Nat)=x - qdi f l x
 | [],_,_,x,_,h=>⟨h,by simp[qdi]⟩
 | c::r,h,hle,x,hx,h0=>by
  simp only[qdi] at h0 ⊢;split at h0
  ·omega
  ·rename_i hx0;rw[if_neg hx0];have h1:=hle c (zbj ..) x;have ih:=qvd (l:=r) (fun c' hc=>h c' (zaw _ hc)) (fun c' hc=>hle c' (zaw _ hc)) (f (cell1 c) x) (by omega) h0;have h2:=h c (zbj ..) x hx ih.1;refine⟨by omega, ?_⟩;rw[zbr,zck];omega
theorem qrk: ∀ {n:Nat} {x:List CV},isTf n x=true->∀z,z<=30000->0<=qi8 n x z->(qds n x:Int)=z - qi8 n x z
 | n,x,hn,z,hz,h0=>by
  obtain⟨n',t,b,l,rfl,rfl,_,hl⟩:=qch hn;have h0:0<=qdi (qi8 n') l (z - 1 - min (b.length:Int) 1048576):=h0;have hk:=qvd (f:=qi8 n') (g:=fun c=>qds n' (cell1 c)) (l:=l) (fun c hc x hx h=>by
   obtain⟨y,rfl,hy⟩:=hl c hc;exact qrk hy x hx h) (fun c hc x=>by
   obtain⟨y,rfl,hy⟩:=hl c hc;exact qn3 hy x) _ (by omega) h0
  show((1+b.length+(l.map fun c=>qds n' (cell1 c)).sum:Nat):Int)=z - qdi (qi8 n') l (z - 1 - min (b.length:Int) 1048576);omega
theorem q86{n:Nat}{x:List CV}(hn:isTf n x=true):1<=qds n x:=by obtain⟨n',t,b,l,rfl,rfl,_,hl⟩:=qch hn;show 1<=1+b.length+_;omega
theorem qrq{g:CV->Nat}: ∀ {l:List CV} {c:CV},c∈l->g c<=(l.map g).sum
 | a::r,c,h=>by
  rw[zbr,zck];rcases zas.1 h with rfl|h
  ·omega
  ·have:=qrq (g:=g) h;omega
theorem xbdj{g:CV->Nat}: ∀ {l:List CV},(∀c∈l,1<=g c)->l.length<=(l.map g).sum
 | [],_=>by simp
 | a::r,h=>by rw[zbr,zck,zaf];have:=xbdj (g:=g) (l:=r) fun c hc=>h c (zaw _ hc);have:=h a (zbj ..);omega
theorem qn7{n:Nat}{t:Int}{b:List Int}{l:List CV}(h:isTf (n+1) [.int .i64 t,.sli .u8 b,.slg 3 l]=true){B:Nat}(hb:qds (n+1) [.int .i64 t,.sli .u8 b,.slg 3 l]<=B):
  b.length+1<=B/\l.length+1<=B/\(∀z∈b,0<=z/\z<=255)/\(∀c∈l, ∃y,c=.agg y/\isTf n y=true/\qds n y+1<=B)/\1+b.length+(l.map fun c=>qds n (cell1 c)).sum<=B:=by
 obtain⟨n',t',b',l',hn,he,h1,h2⟩:=qch h;obtain rfl:n=n':=by omega
 simp only[zbc,CV.int.injEq,CV.sli.injEq,CV.slg.injEq,true_and,and_true] at he;obtain⟨rfl,rfl,rfl⟩:=he;have hb:1+b.length+(l.map fun c=>qds n (cell1 c)).sum<=B:=hb;have hs:=xbdj (g:=fun c=>qds n (cell1 c)) (l:=l) fun c hc=>by obtain⟨y,rfl,hy⟩:=h2 c hc;exact q86 hy
 refine⟨by omega,by omega,h1,fun c hc=> ?_,hb⟩;obtain⟨y,rfl,hy⟩:=h2 c hc;have hm:qds n y<=(l.map fun c=>qds n (cell1 c)).sum:=qrq (g:=fun c=>qds n (cell1 c)) hc;exact⟨y,rfl,hy,by omega⟩
theorem q1i: ∀ {n:Nat} {x:List CV},isTf n x=true->qds n x<=30000->isNf n x=true
 | n,x,hn,hb=>by obtain⟨n',t,b,l,rfl,rfl,_,_⟩:=qch hn;obtain⟨h1,h2,_,h3,_⟩:=qn7 hn hb;refine xb0p (by omega) (by omega) fun c hc=> ?_;obtain⟨y,rfl,hy,hyb⟩:=h3 c hc;exact⟨y,rfl,q1i hy (by omega)⟩
theorem xbcz(rk:Nat)(ta:Int)(ba:List Int)(ka:List CV)(hall: ∀c∈ka, ∃y,c=.agg y/\isTf rk y=true): ∀(f i:Nat) (z:Int),z<=29999 - i->30005<f+i->i<=ka.length->i<=30000->
  qik rk (fun y4=>(fun _ _ _ _ _ _ _ _ _ _=>zI y4)) (fun y15=>(fun _ _ _ _ _ _ _ _=>zI y15)) f z i ta ba ka=zI (qdi (qi8 rk) (ka.drop i) z)
 | 0,i,z,hz,hf,hi,hi2=>by omega
 | f+1,i,z,hz,hf,hi,hi2=>by
  show qjy rk (qik rk (fun y4=>(fun _ _ _ _ _ _ _ _ _ _=>zI y4)) (fun y15=>(fun _ _ _ _ _ _ _ _=>zI y15)) f) (fun y4=>(fun _ _ _ _ _ _ _ _ _ _=>zI y4)) (fun y15=>(fun _ _ _ _ _ _ _ _=>zI y15)) z i ta ba ka=_;unfold qjy;refine qac (fun h=> ?_) fun h=> ?_
  ·obtain⟨c,hc⟩:=qaz (b:=ka) (i:=i) (by omega);obtain⟨y,rfl,hy⟩:=hall c (zac hc);have ed:ka.drop i=.agg y::ka.drop (i+1):=by obtain⟨hlt,e⟩:=zad.1 hc;rw[zbf hlt,e]
   rw[ed];simp only[qdi];refine qac (fun h0=>qas (by omega) (qas h ?_)) fun h0=> ?_
   ·rw[if_neg (by omega),show(i:Int).toNat=i from rfl,hc,zag];obtain⟨m,t,b,l,hm,hye,_⟩:=qch hy;simp only[cell1,hye,zb6,zcj];refine qak rfl (qak ?_ ?_)
    ·simp only[zab];exact⟨xbi9 (hye▸hy),qvf (by omega)⟩
    ·have e:qbz [.int .i64 t,.sli .u8 b,.slg 3 l] z=qi8 rk y z:=by rw[<- hye];exact qek hy z
     simp only[qfi,qbb,qca];rw[e, <- hye,show IntKind.i64.wrap ((i:Int)+1)=((i+1:Nat):Int) from(i64_in _ (by omega)).trans (by omega)];have:=qn3 hy z;exact xbcz rk ta ba ka hall f (i+1) _ (by omega) (by omega) (by omega) (by omega)
   ·rw[if_pos (by omega)]
  ·rw[za2 (by omega)];rfl
theorem xbrm(rk:Nat)(ta:Int)(ba:List Int)(ka:List CV)(left:Int)(hp:(isTr (rk+1) [.int .i64 ta,.sli .u8 ba,.slg 3 ka]&&qot left)=true):q92 rk ta ba ka left=zI (qbz [.int .i64 ta,.sli .u8 ba,.slg 3 ka] left):=by
 simp only[zab] at hp;have ht:=qva hp.1;have hl:=q6y hp.2;rw[qek ht];obtain⟨m,t,b,l,hm,he,_,hall⟩:=qch ht;obtain rfl:rk=m:=by omega
 simp only[zbc,CV.int.injEq,CV.sli.injEq,CV.slg.injEq,true_and,and_true] at he;obtain⟨rfl,rfl,rfl⟩:=he;unfold q92;simp only[qab];have e2:(cond (decide ((1048576:Int)<(ba.length:Int))) 1048576 (ba.length:Int))=min (ba.length:Int) 1048576:=by
  by_cases h:(1048576:Int)<(ba.length:Int)
  ·rw[decide_eq_true h];show(1048576:Int)=_;omega
  ·rw[decide_eq_false h];show(ba.length:Int)=_;omega
 rw[e2,show IntKind.i64.wrap (left - 1)=left - 1 from i64_in _ (by omega),show IntKind.i64.wrap (left - 1 - min (ba.length:Int) 1048576)=left - 1 - min (ba.length:Int) 1048576 from i64_in _ (by omega)];exact xbcz rk ta ba ka hall FUEL 0 _ (by omega) (by unfold FUEL;omega) (by omega) (by omega)
theorem qkw(t n:Int):((qdv t n).length:Int)=1+qat n:=by
 unfold qdv qat;rw[zaf]
 repeat' split
 all_goals rfl
theorem qdm(n:Int):1<=qat n/\qat n<=4:=by
 unfold qat
 repeat' split
 all_goals omega
theorem qo4{g:CV->List Int}{h:CV->Nat}: ∀ {l:List CV},(∀c∈l,(g c).length<=5*h c)->((l.map g).flatten).length<=5*(l.map h).sum
 | [],_=>by simp
 | a::r,hh=>by have:=hh a (zbj ..);have:=qo4 (g:=g) (h:=h) (l:=r) fun c hc=>hh c (zaw _ hc);simp only[zbr,zdi,zah,zck];omega
theorem qeu: ∀ {n:Nat} {x:List CV},isTf n x=true->(qam n x).1.length<=5*qds n x
 | n,x,hn=>by
  obtain⟨n',t,b,l,rfl,rfl,_,hl⟩:=qch hn;have hb:qds (n'+1) [.int .i64 t,.sli .u8 b,.slg 3 l]=1+b.length+(l.map fun c=>qds n' (cell1 c)).sum:=rfl;rw[hb];simp only[qam];split
  ·have hf:=qo4 (g:=fun c=>(qam n' (cell1 c)).1) (h:=fun c=>qds n' (cell1 c)) (l:=l) fun c hc=>by obtain⟨y,rfl,hy⟩:=hl c hc;exact qeu hy
   have e:((l.map fun c=>qam n' (cell1 c)).map (·.1))=l.map fun c=>(qam n' (cell1 c)).1:=by rw[zcg];rfl
   simp only[e];have hh:=qkw t (((l.map fun c=>(qam n' (cell1 c)).1).flatten).length:Nat);have hr:=qdm (((l.map fun c=>(qam n' (cell1 c)).1).flatten).length:Nat);rw[zah];omega
  ·have hh:=qkw t (b.length:Nat);have hr:=qdm (b.length:Nat);simp only[zah];omega
def sumL(f:CV->List Int):List CV->Int
 | []=>0
 | c::r=>(f c).length+sumL f r
theorem qd3(f:CV->List Int): ∀l:List CV,sumL f l=(((l.map f).flatten).length:Nat)
 | []=>rfl
 | c::r=>by simp only[sumL,zbr,zdi,zah,qd3 f r];omega
theorem qwq(f:CV->List Int)(l:List CV)(i:Nat):0<=sumL f (l.drop i)/\sumL f (l.drop i)<=sumL f l:=by
 constructor
 ·rw[qd3];omega
 ·rw[qd3,qd3,zcx];have h: ∀(ls:List (List Int)) (i:Nat),((ls.drop i).flatten).length<=(ls.flatten).length:=fun ls=>by
   induction ls with
   | nil=>simp
   | cons a r ih=>
    intro i
    cases i with
    | zero=>exact zar _
    | succ i=>
     have:=ih i;simp only[zdm,zdi,zah];omega
  have:=h (l.map f) i;omega
theorem xbcw(rk d:Nat)(deep:Int)(hd:1<=deep/\deep<=1000)(hdd:deep.toNat=d+1)(ka:List CV)(hlen:ka.length<=30000)(hall: ∀c∈ka, ∃y,c=.agg y/\isTf rk y=true/\qds rk y<=30000)(hsum:sumL (fun c=>(qam rk (cell1 c)).1) ka<=150000)(k1:Int->Int->Int->List CV->Int->Int->List CV->Nat->Int->List Int->List CV->Int->List Int->List CV->Int->Int->Int->Int->Int->Int->Int->Bool->Int->Bool->Int->List Int->List CV->Option Out)(F:Int->Option Out): ∀(f i:Nat) (s:Int),i<=ka.length->ka.length<f+i->0<=s->s+sumL (fun c=>(qam rk (cell1 c)).1) (ka.drop i)<=150000->
  qlm rk (fun _ _ _ _ _ _ _ _ _ _ _ _ _ _ _ _ _ _ _ _ _ _ _ _ _=>zI (-1)) k1 (fun _ y56 _ _ _=>F y56) f deep s ka (ka.length:Int) i=if(ka.drop i).all (fun c=>okF rk d (cell1 c))=true then F (s+sumL (fun c=>(qam rk (cell1 c)).1) (ka.drop i)) else zI (-1)
 | 0,i,s,hi,hf,_,_=>by omega
 | f+1,i,s,hi,hf,h0,hs=>by
  show qln rk (qlm rk (fun _ _ _ _ _ _ _ _ _ _ _ _ _ _ _ _ _ _ _ _ _ _ _ _ _=>zI (-1)) k1 (fun _ y56 _ _ _=>F y56) f) (fun _ _ _ _ _ _ _ _ _ _ _ _ _ _ _ _ _ _ _ _ _ _ _ _ _=>zI (-1)) k1 (fun _ y56 _ _ _=>F y56) deep s ka (ka.length:Int) i=_;unfold qln;obtain⟨R,hR⟩: ∃R:Option Out,R=(if(ka.drop i).all (fun c=>okF rk d (cell1 c))=true then F (s+sumL (fun c=>(qam rk (cell1 c)).1) (ka.drop i)) else zI (-1)):=⟨_,rfl⟩;rw[<- hR];refine qac (fun h=> ?_) fun h=> ?_
  ·obtain⟨c,hc⟩:=qaz (b:=ka) (i:=i) (by omega);obtain⟨y,rfl,hy,hyb⟩:=hall c (zac hc);have ed:ka.drop i=.agg y::ka.drop (i+1):=by obtain⟨hlt,e⟩:=zad.1 hc;rw[zbf hlt,e]
   refine qas (by omega) (qas h ?_);rw[show(i:Int).toNat=i from rfl,hc,zag];obtain⟨m,t,b,l,hm,hye,_⟩:=qch hy;simp only[cell1,hye,zb6,zcj];refine qak rfl ?_;simp only[show IntKind.i64.wrap (deep - 1)=deep - 1 from i64_in _ (by omega),qfi,qbb,qca];refine qak ?_ ?_
   ·simp only[zab];exact⟨q3s (hye▸hy) (hye▸hyb),qo1 (by omega)⟩
   ·have e:q1h [.int .i64 t,.sli .u8 b,.slg 3 l] (deep - 1)=if okF rk d y=true then((qam rk y).1.length:Int) else -1:=by rw[<- hye,qvs hy,show(deep - 1).toNat=d by omega]
    have es:sumL (fun c=>(qam rk (cell1 c)).1) (ka.drop i)=((qam rk y).1.length:Int)+sumL (fun c=>(qam rk (cell1 c)).1) (ka.drop (i+1)):=by rw[ed];rfl
    have hpos:=(qwq (fun c=>(qam rk (cell1 c)).1) ka (i+1)).1;rw[es] at hs;rw[e];have ea:(ka.drop i).all (fun c=>okF rk d (cell1 c))=(okF rk d y&&(ka.drop (i+1)).all (fun c=>okF rk d (cell1 c))):=by rw[ed,zc4];rfl
    rw[ea,es] at hR;by_cases hok:okF rk d y=true
    ·rw[hok,zcf] at hR;rw[if_pos hok];refine qdt (by omega) ?_;rw[show IntKind.i64.wrap (s+((qam rk y).1.length:Int))=s+((qam rk y).1.length:Int) from i64_in _ (by omega)];refine qdt (by omega) ?_;rw[show IntKind.i64.wrap ((i:Int)+1)=((i+1:Nat):Int) from(i64_in _ (by omega)).trans (by omega)];refine(xbcw rk d deep hd hdd ka hlen hall hsum k1 F f (i+1) _ (by omega) (by omega) (by omega) (by omega)).trans ?_;rw[hR,Int.add_assoc]
    ·rw[if_neg hok];refine qas (by omega) ?_;rw[hR,if_neg (by simp[hok])]
  ·rw[za2 (by omega)] at hR;rw[hR];show F s=if([]:List CV).all (fun c=>okF rk d (cell1 c))=true then F (s+0) else _
   rw[if_pos (by rfl),Int.add_zero]
theorem xbwf(rk:Nat)(ta:Int)(ba:List Int)(ka:List CV)(deep:Int)(hp:(isSr (rk+1) [.int .i64 ta,.sli .u8 ba,.slg 3 ka]&&qkd deep)=true):xblw rk ta ba ka deep=zI (q1h [.int .i64 ta,.sli .u8 ba,.slg 3 ka] deep):=by
 simp only[zab] at hp;obtain⟨ht,hb⟩:=qjm hp.1;have hd:=qso hp.2;obtain⟨h1,h2,h3,h4,h5⟩:=qn7 ht hb;rw[qvs ht];unfold xblw qft qcb qgb qef;simp only[qab];refine qac (fun h=> ?_) fun h=> ?_
 ·subst h;rfl
 obtain⟨d,hdd⟩: ∃d,deep.toNat=d+1:=⟨deep.toNat - 1,by omega⟩;rw[hdd];have hokF:okF (rk+1) (d+1) [.int .i64 ta,.sli .u8 ba,.slg 3 ka]=(qbm ta&&(if qay ta=true then decide (ba=[])&&ka.all fun c=>okF rk d (cell1 c) else decide (ka=[])&&qbo ta ba)):=rfl;rw[hokF];refine qf7 (fun hk=> ?_) fun hk=> ?_
 ·rw[if_neg (by simp only[zao] at hk;simp[hk])]
 have hk:qbm ta=true:=by simpa using hk
 rw[hk,zcf];have hflen:(((ka.map fun c=>(qam rk (cell1 c)).1).flatten).length:Int)<=150000:=by
  have:=qo4 (g:=fun c=>(qam rk (cell1 c)).1) (h:=fun c=>qds rk (cell1 c)) (l:=ka) fun c hc=>by obtain⟨y,rfl,hy,_⟩:=h4 c hc;exact qeu hy
  omega
 refine qf7 (fun hx=> ?_) fun hx=> ?_
 ·rw[if_pos hx];refine qac (fun hba=> ?_) fun hba=> ?_
  ·rw[if_neg (by intro e;simp only[zab,decide_eq_true_eq] at e;rw[e.1] at hba;simp at hba)]
  ·obtain rfl:ba=[]:=zal (by omega);refine(xbcw rk d deep (by omega) hdd ka (by omega) (fun c hc=>by obtain⟨y,e,hy,hyb⟩:=h4 c hc;exact⟨y,e,hy,by omega⟩) (by rw[qd3];exact hflen) _ (fun n=>zI (IntKind.i64.wrap (IntKind.i64.wrap ((1:Int)+qat n)+n))) FUEL 0 0 (by omega) (by unfold FUEL;omega) (by omega) (by rw[zbw,qd3];omega)).trans ?_;rw[zbw,decide_eq_true (show([]:List Int)=[] from rfl),zcf,qd3,Int.zero_add];by_cases ha:(ka.all fun c=>okF rk d (cell1 c))=true
   ·rw[if_pos ha,if_pos ha];have hr:=qdm (((ka.map fun c=>(qam rk (cell1 c)).1).flatten).length:Nat);rw[show IntKind.i64.wrap ((1:Int)+qat (((ka.map fun c=>(qam rk (cell1 c)).1).flatten).length:Nat))=1+qat (((ka.map fun c=>(qam rk (cell1 c)).1).flatten).length:Nat) from i64_in _ (by omega)];rw[i64_in _ (show -9223372036854775808<=(1:Int)+qat (((ka.map fun c=>(qam rk (cell1 c)).1).flatten).length:Nat)+(((ka.map fun c=>(qam rk (cell1 c)).1).flatten).length:Nat)/\_<=9223372036854775807 by omega)];refine qkn ?_;simp only[qam];rw[if_pos hx];have e:((ka.map fun c=>qam rk (cell1 c)).map (·.1))=ka.map fun c=>(qam rk (cell1 c)).1:=by rw[zcg];rfl
    simp only[e];rw[zah];have hh:=qkw ta (((ka.map fun c=>(qam rk (cell1 c)).1).flatten).length:Nat);omega
   ·rw[if_neg ha,if_neg ha]
 ·rw[if_neg (show ¬qay ta=true by simp[hx])];refine qac (fun hka=> ?_) fun hka=> ?_
  ·rw[if_neg (by intro e;simp only[zab,decide_eq_true_eq] at e;rw[e.1] at hka;simp at hka)]
  ·obtain rfl:ka=[]:=zal (by omega);refine qdt (by omega) (qak (qck (by omega) h3) ?_);rw[decide_eq_true (show([]:List CV)=[] from rfl),zcf];refine qf7 (fun hf=> ?_) fun hf=> ?_
   ·rw[if_neg (by simp only[zao] at hf;simp[hf])]
   ·rw[if_pos (by simpa using hf)];have hr:=qdm (ba.length:Nat);rw[show IntKind.i64.wrap ((1:Int)+qat (ba.length:Nat))=1+qat (ba.length:Nat) from i64_in _ (by omega)];rw[i64_in _ (show -9223372036854775808<=(1:Int)+qat (ba.length:Nat)+(ba.length:Nat)/\_<=9223372036854775807 by omega)];refine qkn ?_;simp only[qam];rw[if_neg (show ¬qay ta=true by simp[hx])];have hh:=qkw ta (ba.length:Nat);simp only[zah];omega
open IntWalk (i64_in u8_in u32_in u64_in i64_quo u8_quo rem_in)
theorem qjn{t:Int}(h:qbm t=true):0<=t/\t<=255:=by unfold qbm qay at h;simp only[zbz,decide_eq_true_eq] at h;omega
theorem q3m{t n:Int}(ht:0<=t/\t<=255)(hn:0<=n/\n<16777216): ∀z∈qdv t n,0<=z/\z<=255:=by
 intro z hz;unfold qdv at hz;rcases zas.1 hz with rfl|hz
 ·exact ht
 ·split at hz
  ·simp only[zas,zdb,or_false] at hz;omega
  ·split at hz
   ·simp only[zas,zdb,or_false] at hz;omega
   ·split at hz
    ·simp only[zas,zdb,or_false] at hz;omega
    ·simp only[zas,zdb,or_false] at hz;omega
theorem qi4{n d:Nat}{t:Int}{b:List Int}{l:List CV}(h:okF (n+1) d [.int .i64 t,.sli .u8 b,.slg 3 l]=true): ∃d',d=d'+1/\qbm t=true/\((qay t=true/\b=[]/\∀c∈l,okF n d' (cell1 c)=true)\/(qay t=false/\l=[]/\qbo t b=true)):=by
 cases d with
 | zero=>exact absurd h zb8
 | succ d=>
  have h:(qbm t&&(if qay t=true then decide (b=[])&&l.all fun c=>okF n d (cell1 c) else decide (l=[])&&qbo t b))=true:=h;rw[zab] at h;refine⟨d,rfl,h.1, ?_⟩;obtain⟨_,h⟩:=h;split at h
  ·rename_i hx;simp only[zab,decide_eq_true_eq,zai] at h;exact .inl ⟨hx,h⟩
  ·rename_i hx;simp only[zab,decide_eq_true_eq] at h;exact .inr ⟨by simpa using hx,h⟩
theorem qjg{n:Nat}{t:Int}{b:List Int}{l:List CV}(hx:qay t=true):qam (n+1) [.int .i64 t,.sli .u8 b,.slg 3 l]=(qdv t ((l.map fun c=>(qam n (cell1 c)).1).flatten.length:Nat)++(l.map fun c=>(qam n (cell1 c)).1).flatten,(l.all fun c=>(qam n (cell1 c)).2)&&(!(decide (t=49))|| qbg (l.map fun c=>(qam n (cell1 c)).1))):=by
 simp only[qam];rw[if_pos hx];have e:((l.map fun c=>qam n (cell1 c)).map (·.1))=l.map fun c=>(qam n (cell1 c)).1:=by rw[zcg];rfl
 have e2:((l.map fun c=>qam n (cell1 c)).all (·.2))=l.all fun c=>(qam n (cell1 c)).2:=by rw[List.all_map];rfl
 simp only[e,e2]
theorem qh4{n:Nat}{t:Int}{b:List Int}{l:List CV}(hx:qay t=false):qam (n+1) [.int .i64 t,.sli .u8 b,.slg 3 l]=(qdv t (b.length:Nat)++b,true):=by simp only[qam];rw[if_neg (show ¬qay t=true by simp[hx])]
theorem flat5{n:Nat}{l:List CV}{B:Nat}(hl: ∀c∈l, ∃y,c=.agg y/\isTf n y=true)(hb:(l.map fun c=>qds n (cell1 c)).sum<=B):((l.map fun c=>(qam n (cell1 c)).1).flatten).length<=5*B:=by
 have:=qo4 (g:=fun c=>(qam n (cell1 c)).1) (h:=fun c=>qds n (cell1 c)) (l:=l) fun c hc=>by obtain⟨y,rfl,hy⟩:=hl c hc;exact qeu hy
 omega
theorem qh2: ∀ {n d:Nat} {x:List CV},isTf n x=true->qds n x<=30000->okF n d x=true->∀z∈(qam n x).1,0<=z/\z<=255
 | n,d,x,hn,hb,hok=>by
  obtain⟨n',t,b,l,rfl,rfl,hbb,hl⟩:=qch hn;obtain⟨h1,h2,h3,h4,h5⟩:=qn7 hn hb;obtain⟨d',rfl,hk,h⟩:=qi4 hok;rcases h with⟨hx,rfl,hall⟩|⟨hx,rfl,hf⟩
  ·rw[qjg hx];have hfl:=flat5 (B:=30000) hl (by omega);intro z hz;rcases zak.1 hz with hz|hz
   ·exact q3m (qjn hk) (by omega) z hz
   ·obtain⟨r,hr,hz⟩:=List.mem_flatten.1 hz;obtain⟨c,hc,rfl⟩:=za7.1 hr;obtain⟨y,rfl,hy,hyb⟩:=h4 c hc;exact qh2 hy (by omega) (hall _ hc) z hz
  ·rw[qh4 hx];intro z hz;rcases zak.1 hz with hz|hz
   ·exact q3m (qjn hk) (by omega) z hz
   ·exact h3 z hz
theorem qre(R:List (List Int)):qc9 (R.map (CV.sli .u8))=R.flatten:=by unfold qc9;rw[qab,List.flatMap_map];show R.flatMap (fun x=>x)=_;rw[List.flatMap_id']
theorem xban{R:List (List Int)}(h1:R.length<=1000000)(h2: ∀x∈R,rowB x=true)(h3:R.flatten.length<=1000000):qnb (R.map (CV.sli .u8))=true:=by
 unfold qnb;rw[qab];simp only[zab,decide_eq_true_eq,zai,zam,za7];refine⟨h1,fun x hx=> ?_, ?_⟩
 ·obtain⟨y,hy,rfl⟩:=hx;exact h2 y hy
 ·have:=qre R;unfold qc9 at this;rw[qab] at this;rw[this];exact h3
noncomputable def badW:Option Out:=zR [.cl (.sli .u8 []),.cl (.bool false)] []
noncomputable def xbu1(t s:Int)(rows:List CV):Option Out:=
 cond (qke t s) (cond (qnb rows) (cond (Nat.ble ((qc6 t s++qc9 rows).length*1) LIMN) (cond (Nat.ble ((qc6 t s++qc9 rows).length) LIMN) (zR [.cl (.sli .u8 (qc6 t s++qc9 rows)),.cl (.bool true)] []) none) none) none) none
noncomputable def finW(t s:Int)(rows:List CV):Option Out:=
 cond (decide (t=49)) (cond (qkg rows) (cond (!(qb1 rows)) badW (xbu1 t s rows)) none) (xbu1 t s rows)
theorem xbyu{t:Int}{R:List (List Int)}(ht:0<=t/\t<=255)(h1:R.length<=30000)(h2: ∀x∈R,rowB x=true)(h3:R.flatten.length<=150000):
  finW t (R.flatten.length:Int) (R.map (CV.sli .u8))=if(!(decide (t=49))|| qbg R)=true then zR [.cl (.sli .u8 (qdv t (R.flatten.length:Nat)++R.flatten)),.cl (.bool true)] [] else badW:=by
 have hh:xbu1 t (R.flatten.length:Int) (R.map (CV.sli .u8))=zR [.cl (.sli .u8 (qdv t (R.flatten.length:Nat)++R.flatten)),.cl (.bool true)] []:=by unfold xbu1 qc6;rw[qab,qre];have hl:=qkw t (R.flatten.length:Nat);have hr:=qdm (R.flatten.length:Nat);refine qak ?_ (qak (xban (by omega) h2 (by omega)) (qew (by simp only[zah];omega) (qew (by simp only[zah];omega) rfl)));unfold qke;rw[qab];exact decide_eq_true (by omega)
 unfold finW;rw[hh,qwg];refine qac (fun h=>qak (xbcf (by omega) h2) (qf7 (fun h9=> ?_) fun h9=> ?_)) fun h=> ?_
 ·rw[if_neg (by simp only[zao] at h9;simp[h,h9])]
 ·rw[if_pos (by simp only[Bool.not_eq_false'] at h9;simp[h9])]
 ·rw[if_pos (by simp[h])]
theorem xbsw{n d:Nat}{l:List CV}(h4: ∀c∈l, ∃y,c=.agg y/\isTf n y=true/\qds n y+1<=30000)(hall: ∀c∈l,okF n d (cell1 c)=true): ∀x∈(l.map fun c=>(qam n (cell1 c)).1),rowB x=true:=by intro x hx;obtain⟨c,hc,rfl⟩:=za7.1 hx;obtain⟨y,rfl,hy,hyb⟩:=h4 c hc;have h1:=qeu hy;have h2:=qh2 hy (by omega) (hall _ hc);unfold rowB;simp only[zab,decide_eq_true_eq,zai];exact⟨by show(qam n y).1.length<=_;omega,fun z hz=>decide_eq_true (h2 z hz)⟩
end Go.Proofs.YtoiikagnjcjccaaGreatDoorA
