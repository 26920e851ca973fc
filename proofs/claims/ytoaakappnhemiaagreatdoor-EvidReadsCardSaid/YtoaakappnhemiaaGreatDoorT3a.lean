/-
 What the layers below come to (their lemmas, as far as this seat needs them). Conditions: each function's own.
-/
import Derived.Test.YtoaakappnhemiaaGreatDoorT2a
import Derived.Test.YtoaakappnhemiaaGreatDoorT2b
import Derived.Test.YtoaakappnhemiaaGreatDoorT2c
import Derived.Test.YtoaakappnhemiaaGreatDoorK3
import Derived.IntWalk
set_option linter.unusedVariables false
set_option linter.unusedSimpArgs false
set_option maxRecDepth 100000
namespace Go.Proofs.YtoaakappnhemiaaGreatDoorA
theorem q5v(y:Int):qe3 (y+1)=qe3 y+365+(if qm3 y=true then 1 else 0):=by unfold qe3 qm3;simp only[decide_eq_true_eq];split<;>omega
theorem qt6{y m:Int}(h1:1<=m)(h2:m<=12):qek y (m+1)=qek y m+qjg y m:=by
 have hm:m=1\/m=2\/m=3\/m=4\/m=5\/m=6\/m=7\/m=8\/m=9\/m=10\/m=11\/m=12:=by omega
 unfold qek qjg;cases qm3 y<;>rcases hm with h|h|h|h|h|h|h|h|h|h|h|h<;>subst h<;>rfl
theorem xba4(y:Int):qek y 1=0:=by unfold qek;rfl
theorem qt7(y m:Int):28<=qjg y m/\qjg y m<=31:=by
 unfold qjg;split
 ·split<;>omega
 ·split<;>omega
open IntWalk (i64_in u8_in u32_in u64_in i64_quo u8_quo rem_in)
theorem xbyu(s:ByteArray)(hp:decide (2<=s.size)=true):xbmw s=zI (qf4 s):=by
 simp only[decide_eq_true_eq] at hp;unfold xbmw qf4 qpu;have r0:=qjz s 0;have r1:=qjz s 1;refine qaq (by omega) ?_;extract_lets x1 x2 x3 x4 x5 x6 x7 x8;have e2:x2=bget s 0:=i64_in _ (by omega);have e3:x3=bget s 0 - 48:=by show IntKind.i64.wrap (x2 - 48)=_;rw[e2];exact i64_in _ (by omega)
 refine qaq (by omega) ?_;have e5:x5=bget s 1:=i64_in _ (by omega);have e6:x6=bget s 1 - 48:=by show IntKind.i64.wrap (x5 - 48)=_;rw[e5];exact i64_in _ (by omega)
 refine qae (fun h=> ?_) fun h1=>qae (fun h=> ?_) fun h2=>qae (fun h=> ?_) fun h3=>qae (fun h=> ?_) fun h4=> ?_
 ·rw[if_pos (by omega)]
 ·rw[if_pos (by omega)]
 ·rw[if_pos (by omega)]
 ·rw[if_pos (by omega)]
 ·rw[if_neg (by omega)];have e7:x7=10*x3:=i64_in _ (by omega);have e8:x8=10*x3+x6:=by show IntKind.i64.wrap (x7+x6)=_;rw[e7];exact i64_in _ (by omega)
  exact qmh (by rw[e8,e3,e6])
theorem xb4i(d0 d1 d2 d3 d4 d5:Int)(hp:stOk d0=true):xbwg d0 d1 d2 d3 d4 d5=zB (qm3 d0):=by
 simp only[stOk,decide_eq_true_eq] at hp;unfold xbwg qm3;rw[rem_in d0 4 (by omega),rem_in d0 100 (by omega),rem_in d0 400 (by omega)];refine qae (fun h=>qaw (fun h2=> ?_) fun h2=> ?_) fun h=> ?_
 ·exact qa7 (by symm;rw[decide_eq_true_eq];exact⟨h,.inl h2⟩)
 ·refine qa7 (by rw[zbj];simp only[decide_eq_true_eq];omega)
 ·exact qa7 (by symm;rw[decide_eq_false_iff_not];exact fun h'=>h h'.1)
theorem xb5b(y:Int)(hp:stOk y=true):xbwz y=zB (qm3 y):=by
 simp only[stOk,decide_eq_true_eq] at hp;unfold xbwz qm3;rw[rem_in y 4 (by omega),rem_in y 100 (by omega),rem_in y 400 (by omega)];refine qae (fun h=>qaw (fun h2=> ?_) fun h2=> ?_) fun h=> ?_
 ·exact qa7 (by symm;rw[decide_eq_true_eq];exact⟨h,.inl h2⟩)
 ·refine qa7 (by rw[zbj];simp only[decide_eq_true_eq];omega)
 ·refine qa7 (by rw[zbj];simp only[decide_eq_true_eq];omega)
theorem xb4g(d0 d1 d2 d3 d4 d5:Int)(hp:stOk d0=true):xbwe d0 d1 d2 d3 d4 d5=zI (qjg d0 d1):=by
 unfold xbwe qjg;refine qae (fun h=>qak hp (qdg (fun h2=> ?_) fun h2=> ?_)) fun h=>qae (fun h2=> ?_) fun h2=>qae (fun h3=> ?_) fun h3=>qae (fun h4=> ?_) fun h4=>qae (fun h5=> ?_) fun h5=> ?_
 ·rw[if_pos h,if_pos h2]
 ·rw[if_pos h,if_neg (by rw[h2];simp)]
 all_goals first|rw[if_neg h,if_pos (by omega)]|rw[if_neg h,if_neg (by omega)]
theorem xb8b(d0 d1 d2 d3 d4 d5:Int)(hp:true=true):xb6y d0 d1 d2 d3 d4 d5=zB (qqk d0 d1 d2 d3 d4 d5):=by
 unfold xb6y qqk;have no: ∀ {p:Prop} [Decidable p], ¬p->zB false=zB (decide p):=fun h=>qa7 (by symm;rw[decide_eq_false_iff_not];exact h);refine qae (fun h=>no (by omega)) fun h1=>qae (fun h=>no (by omega)) fun h2=>qae (fun h=>no (by omega)) fun h3=>qae (fun h=>no (by omega)) fun h4=>qae (fun h=>no (by omega)) fun h5=>qak (by simp only[stOk,decide_eq_true_eq];omega) (qae (fun h=>no (by omega)) fun h6=>
  qae (fun g1=>qae (fun g2=>qae (fun g3=>qae (fun g4=>qae (fun g5=> ?_) fun h=>no (by omega)) fun h=>no (by omega)) fun h=>no (by omega)) fun h=>no (by omega)) fun h=>no (by omega))
 refine qa7 ?_;rw[zbj];simp only[decide_eq_true_eq];omega
theorem qok{y m d h i s:Int}(hp:qqk y m d h i s=true):(1<=y/\y<=9999/\1<=m/\m<=12)/\(1<=d/\d<=qjg y m)/\0<=h/\h<24/\0<=i/\i<60/\0<=s/\s<60:=by unfold qqk at hp;simpa only [decide_eq_true_eq] using hp
theorem xb47(y m:Int)(hp:true=true):xbwx y m=zI (qju y m):=by
 unfold xbwx qju;refine qae (fun h=> ?_) fun h1=>qae (fun h=> ?_) fun h2=>qae (fun h=> ?_) fun h3=>qae (fun h=> ?_) fun h4=> ?_
 ·rw[if_neg (by omega)]
 ·rw[if_neg (by omega)]
 ·rw[if_neg (by omega)]
 ·rw[if_neg (by omega)]
 rw[if_pos (by omega)];unfold qjg;refine qae (fun h=>qak (by simp only[stOk,decide_eq_true_eq];omega) (qdg (fun h2=> ?_) fun h2=> ?_)) fun h=>qae (fun h2=> ?_) fun h2=>qae (fun h3=> ?_) fun h3=>qae (fun h4=> ?_) fun h4=>qae (fun h5=> ?_) fun h5=> ?_
 ·rw[if_pos h,if_pos h2]
 ·rw[if_pos h,if_neg (by rw[h2];simp)]
 all_goals first|rw[if_neg h,if_pos (by omega)]|rw[if_neg h,if_neg (by omega)]
open IntWalk (i64_in u8_in u32_in u64_in i64_quo u8_quo rem_in)
theorem xbzh(y:Int)(hp:stOk y=true):xbnd y=zI (qe3 y):=by simp only[stOk,decide_eq_true_eq] at hp;unfold xbnd qe3;extract_lets x1 x2 x3 x4 x5 x6 x7 x8;have e1:x1=y - 1:=i64_in _ (by omega);have e2:x2=x1*365:=i64_in _ (by omega);have e3:x3=x1/ 4:=i64_quo _ _ (by omega);have e4:x4=x2+x3:=i64_in _ (by omega);have e5:x5=x1/ 100:=i64_quo _ _ (by omega);have e6:x6=x4 - x5:=i64_in _ (by omega);have e7:x7=x1/ 400:=i64_quo _ _ (by omega);have e8:x8=x6+x7:=i64_in _ (by omega);exact qmh (by rw[e8,e6,e4,e2,e3,e5,e7,e1])
theorem xb4k(d0 d1 d2 d3 d4 d5:Int)(hp:qqk d0 d1 d2 d3 d4 d5=true):xbwi d0 d1 d2 d3 d4 d5=zI (quz d0 d1 d2 d3 d4 d5):=by
 obtain⟨⟨a1,a2,a3,a4⟩,⟨a5,a6⟩,a7,a8,a9,a10,a11,a12⟩:=qok hp;have a6':d2<=31:=by have:=qt7 d0 d1;omega
 clear a6 hp;have hs:=q5v d0;unfold xbwi;have hy0:qe3 d0=(d0 - 1)*365+(d0 - 1)/ 4 - (d0 - 1)/ 100+(d0 - 1)/ 400:=rfl;have hy1:qe3 (d0+1)=d0*365+d0/ 4 - d0/ 100+d0/ 400:=by unfold qe3;rw[show d0+1 - 1=d0 by omega]
 rw[hy1] at hs;extract_lets x1 x2 x3 x4 x5 x6 x7 x8 x9 x10 x11 x12 x13 x14 x15 x16 x17 x18 x19 x20 x21 x22 x23 x24 x25 x26 x27 x28 x29 x30 x31 x32 x33 x34 x35 x36 x37 x38 x39 x40 x41 x42 x43;have e1:x1=d1 - 3:=i64_in _ (by omega);refine qae (fun h=>qmh ?_) fun h=>qmh ?_
 ·have e2:x2=d0 - 1:=i64_in _ (by omega);have e3:x3=d1+9:=(i64_in (x1+12) (by omega)).trans (by omega);have e4:x4=x2/ 400:=i64_quo _ _ (by omega);have e5:x5=x2 % 400:=rem_in _ _ (by omega)
  clear_value x1 x2 x3 x4 x5
  have r4:0<=x4/\x4<=24/\x2=400*x4+x5/\0<=x5/\x5<=399:=by clear hs hy0 hy1;omega
  have c4:(d0 - 1)/ 4=100*x4+x5/ 4/\(d0 - 1)/ 100=4*x4+x5/ 100/\(d0 - 1)/ 400=x4:=by clear hs hy0 hy1;omega
  have e6:x6=153*x3:=i64_in _ (by omega);have e7:x7=153*x3+2:=(i64_in (x6+2) (by omega)).trans (by omega);have e8:x8=(153*x3+2)/ 5:=(i64_quo x7 5 (by omega)).trans (by rw[e7])
  clear_value x6 x7 x8
  have r8:306<=x8/\x8<=337/\x8=306+31*(d1 - 1):=by clear hs hy0 hy1 r4 c4 e4 e5;omega
  clear e4 e5 e6 e7 e8 hs hy1;have e9:x9=x8+d2:=i64_in _ (by omega);have e10:x10=x8+d2 - 1:=(i64_in (x9 - 1) (by omega)).trans (by omega);have e11:x11=x4*146097:=i64_in _ (by omega);have e12:x12=x5*365:=i64_in _ (by omega);have e13:x13=x11+x12:=i64_in _ (by omega);have e14:x14=x5/ 4:=i64_quo _ _ (by omega);have e15:x15=x13+x14:=i64_in _ (by omega);have e16:x16=x5/ 100:=i64_quo _ _ (by omega);have e17:x17=x15 - x16:=i64_in _ (by omega);have e18:x18=x17+x10:=i64_in _ (by omega);have e19:x19=x18 - 719468:=i64_in _ (by omega);have e20:x20=x19*86400:=i64_in _ (by omega);have e21:x21=d3*3600:=i64_in _ (by omega);have e22:x22=d4*60:=i64_in _ (by omega);have e23:x23=x21+x22:=i64_in _ (by omega);have e24:x24=x23+d5:=i64_in _ (by omega);have e25:x25=x20+x24:=i64_in _ (by omega);have hm:qek d0 d1=31*(d1 - 1):=by unfold qek;rw[if_pos (by omega)]
  have hday:qe3 d0+qek d0 d1+(d2 - 1)=x19+719162:=by rw[hy0,hm,c4.1,c4.2.1,c4.2.2,e19,e18,e17,e15,e13,e11,e12,e14,e16,e10];omega
  unfold quz;rw[hday,e25,e20,e24,e23,e21,e22];omega
 ·have e26:x26=d0/ 400:=i64_quo _ _ (by omega);have e27:x27=d0 % 400:=rem_in _ _ (by omega)
  clear_value x1 x26 x27
  have r4:0<=x26/\x26<=24/\d0=400*x26+x27/\0<=x27/\x27<=399:=by clear hs hy0 hy1;omega
  have c4:d0/ 4=100*x26+x27/ 4/\d0/ 100=4*x26+x27/ 100/\d0/ 400=x26:=by clear hs hy0 hy1;omega
  have e28:x28=153*x1:=i64_in _ (by omega);have e29:x29=153*x1+2:=(i64_in (x28+2) (by omega)).trans (by omega);have e30:x30=(153*x1+2)/ 5:=(i64_quo x29 5 (by omega)).trans (by rw[e29])
  clear_value x28 x29 x30
  have r8:0<=x30/\x30<=337:=by clear hs hy0 hy1 r4 c4;omega
  have hm:qek d0 d1=x30+59+(if qm3 d0=true then 1 else 0):=by unfold qek;rw[if_neg (by omega), <- e1,e30]
  clear e26 e27 e28 e29 e30 hy0 hy1;have e31:x31=x30+d2:=i64_in _ (by omega);have e32:x32=x30+d2 - 1:=(i64_in (x31 - 1) (by omega)).trans (by omega);have e33:x33=x26*146097:=i64_in _ (by omega);have e34:x34=x27*365:=i64_in _ (by omega);have e35:x35=x33+x34:=i64_in _ (by omega);have e36:x36=x27/ 4:=i64_quo _ _ (by omega);have e37:x37=x35+x36:=i64_in _ (by omega);have e38:x38=x27/ 100:=i64_quo _ _ (by omega);have e39:x39=x37 - x38:=i64_in _ (by omega);have e40:x40=x39+x32:=i64_in _ (by omega);have e41:x41=x40 - 719468:=i64_in _ (by omega);have e42:x42=x41*86400:=i64_in _ (by omega);have e21:x21=d3*3600:=i64_in _ (by omega);have e22:x22=d4*60:=i64_in _ (by omega);have e23:x23=x21+x22:=i64_in _ (by omega);have e24:x24=x23+d5:=i64_in _ (by omega);have e43:x43=x42+x24:=i64_in _ (by omega);have hday:qe3 d0+qek d0 d1+(d2 - 1)=x41+719162:=by rw[hm];generalize (if qm3 d0=true then 1 else 0:Int)=lp at*;rw[c4.1,c4.2.1,c4.2.2] at hs;rw[e41,e40,e39,e37,e35,e33,e34,e36,e38,e32];omega
  unfold quz;rw[hday,e43,e42,e24,e23,e21,e22];omega
open IntWalk (i64_in u8_in u32_in u64_in i64_quo u8_quo rem_in)
theorem xb5m(s:ByteArray)(hp:true=true):xbw6 s=zR [.cl (.int .i64 (qpv s).1),.cl (.int .i64 (qpv s).2)] []:=by
 unfold xbw6 qpv;have dig: ∀k:Nat,(k:Int)+2<=s.size->qf4 (s.extract k s.size)=qpu (bget s k) (bget s (k+1)):=fun k hk=>by unfold qf4;rw[qdm s (by omega) (by omega) (zas _),qdm s (by omega) (by omega) (zas _),Int.add_zero]
 have sz: ∀k:Nat,(s.extract k s.size).size=s.size - k:=fun k=>by rw[zdd,Nat.min_self]
 refine qaw (fun h=> ?_) fun h=>qaq (by omega) ?_
 ·rw[if_neg (by omega)]
 have hs:s.size=15:=by omega
 have d2:=dig 2 (by omega);have d4:=dig 4 (by omega);have d6:=dig 6 (by omega);have d8:=dig 8 (by omega);have d10:=dig 10 (by omega);have d12:=dig 12 (by omega);extract_lets x1 s2 r3 s4 r5 s6 r7 s8 r9 s10 r11 s12 r13 r14 x15 x16 r17 r18 y m d hh i c;refine qaw (fun h=> ?_) fun h1=> ?_
 ·rw[if_neg fun e=>h e.2]
 rw[if_pos ⟨hs,h1⟩];have z2:=sz 2;have z4:=sz 4;have z6:=sz 6;have z8:=sz 8;have z10:=sz 10;have z12:=sz 12;have rng: ∀a b,0<=a/\a<=255->0<=b/\b<=255-> -100000<=qpu a b/\qpu a b<=99:=fun a b h1 h2=>by unfold qpu;split<;>omega
 have g2:=rng _ _ (qjz s 2) (qjz s 3);have g0:=rng _ _ (qjz s 0) (qjz s 1);have e14:r14=qpu (bget s 0) (bget s 1):=rfl;have e3:r3=qpu (bget s 2) (bget s 3):=d2;have e15:x15=100*qpu (bget s 0) (bget s 1):=i64_in _ (by rw[e14];omega);have e16:x16=y:=(i64_in (r3+x15) (by omega)).trans (by rw[e3,e15]);have e5:r5=m:=d4;have e7:r7=d:=d6;have e9:r9=hh:=d8;have e11:r11=i:=d10;have e13:r13=c:=d12;have hr:r17=qqk y m d hh i c:=by show qqk x16 r5 r7 r9 r11 r13=_;rw[e16,e5,e7,e9,e11,e13]
 have h18:r18=quz y m d hh i c:=by show quz x16 r5 r7 r9 r11 r13=_;rw[e16,e5,e7,e9,e11,e13]
 refine qaq (by omega) (qaq (by show 2<=(s.extract 2 s.size).size;omega) (qaq (by omega) (qaq (by show 2<=(s.extract 4 s.size).size;omega) (qaq (by omega) (qaq (by show 2<=(s.extract 6 s.size).size;omega) (qaq (by omega) (qaq (by show 2<=(s.extract 8 s.size).size;omega) (qaq (by omega) (qaq (by show 2<=(s.extract 10 s.size).size;omega)
  (qaq (by omega) (qaq (by show 2<=(s.extract 12 s.size).size;omega) (qaq (by omega) ?_))))))))))))
 rw[hr]
 cases hf:qqk y m d hh i c with
 | false=>rfl
 | true=>
  rw[if_pos rfl];show cond (qqk x16 r5 r7 r9 r11 r13) (zR [.cl (.int .i64 r18),.cl (.int .i64 0)] []) none=_;rw[show qqk x16 r5 r7 r9 r11 r13=true from hr.trans hf,h18];rfl
open IntWalk (i64_in u8_in u32_in u64_in i64_quo u8_quo rem_in)
theorem q7k(s:ByteArray)(hs:s.size<=18): ∀(fuel i:Nat) (acc:Int),i<=s.size->s.size<fuel+i->0<=acc->acc<((10 ^ i:Nat):Int)->
  qh8 (fun _ _ _ _ _ _ _ _ _ _=>zI (-1)) (fun _ _ _ _ _ _ _ _ _ _ _ _ _ _=>zI (-1)) (fun _ y2 _ _ _ _=>zI y2) fuel s acc i=zI (qwe ((bytesOf s).drop i) acc)
 | 0,i,acc,hi,hf,h0,h1=>by omega
 | fuel+1,i,acc,hi,hf,h0,h1=>by
  simp only[qh8];unfold qmw;have rb:=qjz s i;extract_lets x1 x3 x5 x6 x7 x8;refine qae (fun h=> ?_) fun h=> ?_
  ·have hlt:i<s.size:=by omega
   rw[qea s hlt];refine qaq (by omega) (qaq h ?_);unfold qwe;refine qae (fun h2=> ?_) fun h2=>qaq (by omega) (qaq h (qae (fun h3=> ?_) fun h3=>qaq (by omega) (qaq h ?_)))
   ·rw[if_pos (.inl h2)]
   ·rw[if_pos (.inr h3)]
   ·have h2: ¬bget s i<48:=h2;have h3: ¬57<bget s i:=h3;have e1:x1=bget s i:=rfl
    clear_value x1
    rw[if_neg (by omega)];have hp:10 ^ (i+1)=10*10 ^ i:=by rw[Nat.pow_succ];omega
    have hp2:10 ^ i<=10 ^ 17:=zct (by omega) (by omega);have e3:x3=acc*10:=i64_in _ (by omega);have e5:x5=x1 - 48:=u8_in _ (by omega);have e6:x6=x1 - 48:=(i64_in x5 (by omega)).trans e5;have e7:x7=acc*10+(x1 - 48):=(i64_in (x3+x6) (by omega)).trans (by rw[e3,e6]);have e8:x8=((i+1:Nat):Int):=(i64_in ((i:Int)+1) (by omega)).trans (by omega);rw[e7,e8,e1];exact q7k s hs fuel (i+1) _ (by omega) (by omega) (by omega) (by omega)
  ·have:i=s.size:=by omega
   subst this;rw[zbo (by rw[qf7];exact zas _)];rfl
theorem xbsx(s:ByteArray)(hp:decide (s.size<=18)=true):xben s=zI (qeg s):=by simp only[decide_eq_true_eq] at hp;unfold xben qeg;rw[qab];exact q7k s hp FUEL 0 0 (by omega) (by unfold FUEL;omega) (by omega) (by omega)
theorem xbhr{y m:Int}(h:1<=y/\y<=9999)(hm:1<=m/\m<=12):qju y m=qek y (m+1) - qek y m:=by unfold qju;rw[if_pos (by omega),qt6 hm.1 hm.2];omega
open IntWalk (i64_in u8_in u32_in u64_in i64_quo u8_quo rem_in)
theorem xbyb{y m h i c:Int}(F:Int->Int->Int->Int->Int->Int->Option Out)(hy:1<=y/\y<=9999)(hm:1<=m/\m<=12): ∀(fuel:Nat) (n k:Int),1<=k->k<=m->m - k<fuel->0<=n->n<=4000000+31*k->
  qia (fun y18 y19 y20 y21 y22 y23 _ _ _=>F y18 y19 y20 y21 y22 y23) fuel y m h i c n k=F y m h i c (n+qek y m - qek y k)
 | 0,n,k,h1,h2,h3,h4,h5=>by omega
 | fuel+1,n,k,h1,h2,h3,h4,h5=>by
  rw[show qia (fun y18 y19 y20 y21 y22 y23 _ _ _=>F y18 y19 y20 y21 y22 y23) (fuel+1)=qls (qia (fun y18 y19 y20 y21 y22 y23 _ _ _=>F y18 y19 y20 y21 y22 y23) fuel) (fun y18 y19 y20 y21 y22 y23 _ _ _=>F y18 y19 y20 y21 y22 y23) from rfl];unfold qls;have hmo:=xbhr hy (m:=k) (by omega);have hst:=qt6 (y:=y) (m:=k) (by omega) (by omega);have hr:=qt7 y k;extract_lets r18 x19 x20;have e18:r18=qjg y k:=by show qju y k=_;rw[hmo];omega
  refine qae (fun hlt=> ?_) fun hlt=> ?_
  ·have e19:x19=n+qjg y k:=(i64_in (n+r18) (by omega)).trans (by rw[e18]);have e20:x20=k+1:=i64_in _ (by omega);rw[e19,e20];rw[xbyb F hy hm fuel (n+qjg y k) (k+1) (by omega) (by omega) (by omega) (by omega) (by omega),hst];congr 1;omega
  ·have:k=m:=by omega
   subst this;show F y k h i c n=_;congr 1;omega
theorem num2{a b:Int}(ha:0<=a/\a<=255)(hb:0<=b/\b<=255):qwe [a,b] 0=(if qpu a b<0 then -1 else qpu a b)/\(qpu a b= -100000\/0<=qpu a b/\qpu a b<=99):=by
 unfold qpu qwe qwe qwe;by_cases h1:a<48\/57<a
 ·rw[if_pos h1,if_pos (show(if a<48\/57<a\/b<48\/57<b then(-100000:Int) else _)<0 by rw[if_pos (by omega)];omega),if_pos (by omega)];exact⟨rfl,.inl rfl⟩
 ·by_cases h2:b<48\/57<b
  ·rw[if_neg h1,if_pos h2,if_pos (show(if a<48\/57<a\/b<48\/57<b then(-100000:Int) else _)<0 by rw[if_pos (by omega)];omega),if_pos (by omega)];exact⟨rfl,.inl rfl⟩
  ·rw[if_neg h1,if_neg h2,if_neg (by omega),if_neg (by omega)];exact⟨by omega,by omega⟩
theorem num4{a b c d:Int}(ha:0<=a/\a<=255)(hb:0<=b/\b<=255)(hc:0<=c/\c<=255)(hd:0<=d/\d<=255):qwe [a,b,c,d] 0=(if qpu a b<0\/qpu c d<0 then -1 else 100*qpu a b+qpu c d):=by
 unfold qpu qwe qwe qwe qwe qwe;by_cases h1:a<48\/57<a
 ·rw[if_pos h1,if_pos (.inl (by rw[if_pos (by omega)];omega))]
 ·by_cases h2:b<48\/57<b
  ·rw[if_neg h1,if_pos h2,if_pos (.inl (by rw[if_pos (by omega)];omega))]
  ·by_cases h3:c<48\/57<c
   ·rw[if_neg h1,if_neg h2,if_pos h3,if_pos (show c<48\/57<c\/d<48\/57<d by omega),if_pos (by omega)]
   ·by_cases h4:d<48\/57<d
    ·rw[if_neg h1,if_neg h2,if_neg h3,if_pos h4,if_pos (show c<48\/57<c\/d<48\/57<d by omega),if_pos (by omega)]
    ·rw[if_neg h1,if_neg h2,if_neg h3,if_neg h4,if_neg (show ¬(a<48\/57<a\/b<48\/57<b) by omega),if_neg (show ¬(c<48\/57<c\/d<48\/57<d) by omega),if_neg (by omega)];omega
theorem qj3(s:ByteArray){k:Nat}(h:k+2<=s.size):bytesOf (s.extract k (k+2))=[bget s k,bget s (k+1)]:=by
 have hz:(s.extract k (k+2)).size=2:=by rw[zdd];omega
 have h0:=qea (s.extract k (k+2)) (i:=0) (by omega);have h1:=qea (s.extract k (k+2)) (i:=1) (by omega);rw[zbx] at h0;rw[h0,h1,zbo (by rw[qf7];omega),qdm s (by omega) (by omega) h,qdm s (by omega) (by omega) h];simp
theorem xbc8(s:ByteArray)(h:4<=s.size):bytesOf (s.extract 0 4)=[bget s 0,bget s 1,bget s 2,bget s 3]:=by
 have hz:(s.extract 0 4).size=4:=by rw[zdd];omega
 have h0:=qea (s.extract 0 4) (i:=0) (by omega);have h1:=qea (s.extract 0 4) (i:=1) (by omega);have h2:=qea (s.extract 0 4) (i:=2) (by omega);have h3:=qea (s.extract 0 4) (i:=3) (by omega);rw[zbx] at h0;rw[h0,h1,h2,h3,zbo (by rw[qf7];omega),qdm s (by omega) (by omega) h,qdm s (by omega) (by omega) h,qdm s (by omega) (by omega) h,qdm s (by omega) (by omega) h];simp
theorem xbqz{D01 D23 D4 D6 D8 D10 D12:Int}(v01:D01= -100000\/0<=D01/\D01<=99)(v23:D23= -100000\/0<=D23/\D23<=99)(v4:D4= -100000\/0<=D4/\D4<=99)(v6:D6= -100000\/0<=D6/\D6<=99)(v8:D8= -100000\/0<=D8/\D8<=99)(v10:D10= -100000\/0<=D10/\D10<=99)(v12:D12= -100000\/0<=D12/\D12<=99){y m d h i c:Int}(ey:y=if D01<0\/D23<0 then -1 else 100*D01+D23)(em:m=if D4<0 then -1 else D4)(ed:d=if D6<0 then -1 else D6)(eh:h=if D8<0 then -1 else D8)(ei:i=if D10<0 then -1 else D10)(ec:c=if D12<0 then -1 else D12):
  (qqk (D23+100*D01) D4 D6 D8 D10 D12=true/\qqk y m d h i c=true/\y=D23+100*D01/\m=D4/\d=D6/\h=D8/\i=D10/\c=D12)\/(qqk (D23+100*D01) D4 D6 D8 D10 D12=false/\qqk y m d h i c=false):=by
 cases hf:qqk (D23+100*D01) D4 D6 D8 D10 D12 with
 | true=>
  left;obtain⟨⟨a1,a2,a3,a4⟩,⟨a5,a6⟩,a7,a8,a9,a10,a11,a12⟩:=qok hf;have e1:y=D23+100*D01:=by rw[ey,if_neg (by omega)];omega
  have e2:m=D4:=by rw[em,if_neg (by omega)]
  have e3:d=D6:=by rw[ed,if_neg (by omega)]
  have e4:h=D8:=by rw[eh,if_neg (by omega)]
  have e5:i=D10:=by rw[ei,if_neg (by omega)]
  have e6:c=D12:=by rw[ec,if_neg (by omega)]
  exact⟨rfl,by rw[e1,e2,e3,e4,e5,e6,hf],e1,e2,e3,e4,e5,e6⟩
 | false=>
  right;refine⟨rfl, ?_⟩
  cases hg:qqk y m d h i c with
  | false=>rfl
  | true=>
   exfalso;obtain⟨⟨a1,a2,a3,a4⟩,⟨a5,a6⟩,a7,a8,a9,a10,a11,a12⟩:=qok hg;have e1:y=D23+100*D01:=by split at ey<;>omega
   have e2:m=D4:=by split at em<;>omega
   have e3:d=D6:=by split at ed<;>omega
   have e4:h=D8:=by split at eh<;>omega
   have e5:i=D10:=by split at ei<;>omega
   have e6:c=D12:=by split at ec<;>omega
   rw[<- e1, <- e2, <- e3, <- e4, <- e5, <- e6,hg] at hf;cases hf
theorem xb5d(s:ByteArray)(hp:true=true):xbw1 s=zR [.cl (.int .i64 (qpv s).1),.cl (.int .i64 (qpv s).2)] []:=by
 unfold xbw1 qpv;refine qaw (fun h=> ?_) fun h=>qaq (by omega) ?_
 ·rw[if_neg (by omega)]
 have hs:s.size=15:=by omega
 have sz: ∀k n:Nat,k+n<=15->(s.extract k (k+n)).size=n:=fun k n hk=>by rw[zdd];omega
 have z0:=sz 0 4 (by omega);have z4:=sz 4 2 (by omega);have z6:=sz 6 2 (by omega);have z8:=sz 8 2 (by omega);have z10:=sz 10 2 (by omega);have z12:=sz 12 2 (by omega);have b:=qjz s;have n0:qeg (s.extract 0 4)=_:=(congrArg (qwe · 0) (xbc8 s (by omega))).trans (num4 (b 0) (b 1) (b 2) (b 3));have n4:qeg (s.extract 4 6)=_:=(congrArg (qwe · 0) (qj3 s (k:=4) (by omega))).trans (num2 (b 4) (b 5)).1;have n6:qeg (s.extract 6 8)=_:=(congrArg (qwe · 0) (qj3 s (k:=6) (by omega))).trans (num2 (b 6) (b 7)).1;have n8:qeg (s.extract 8 10)=_:=(congrArg (qwe · 0) (qj3 s (k:=8) (by omega))).trans (num2 (b 8) (b 9)).1;have n10:qeg (s.extract 10 12)=_:=(congrArg (qwe · 0) (qj3 s (k:=10) (by omega))).trans (num2 (b 10) (b 11)).1;have n12:qeg (s.extract 12 14)=_:=(congrArg (qwe · 0) (qj3 s (k:=12) (by omega))).trans (num2 (b 12) (b 13)).1;have same:=xbqz (num2 (b 0) (b 1)).2 (num2 (b 2) (b 3)).2 (num2 (b 4) (b 5)).2 (num2 (b 6) (b 7)).2 (num2 (b 8) (b 9)).2 (num2 (b 10) (b 11)).2 (num2 (b 12) (b 13)).2 n0 n4 n6 n8 n10 n12;extract_lets x1 s2 r3 s4 r5 s6 r7 s8 r9 s10 r11 s12 r13 r14 r15 x16 x17 y m d hh i c;refine qaw (fun h=> ?_) fun h1=> ?_
 ·rw[if_neg fun e=>h e.2]
 rw[if_pos ⟨hs,h1⟩];have z0:s2.size=4:=z0;have z4:s4.size=2:=z4;have z6:s6.size=2:=z6;have z8:s8.size=2:=z8;have z10:s10.size=2:=z10;have z12:s12.size=2:=z12;refine qaq (by omega) (qaq (by omega) (qaq (by omega) (qaq (by omega) (qaq (by omega) (qaq (by omega) (qaq (by omega) (qaq (by omega) (qaq (by omega) (qaq (by omega) (qaq (by omega) (qaq (by omega) ?_)))))))))));have same:(qqk y m d hh i c=true/\qqk r3 r5 r7 r9 r11 r13=true/\r3=y/\r5=m/\r7=d/\r9=hh/\r11=i/\r13=c)\/(qqk y m d hh i c=false/\qqk r3 r5 r7 r9 r11 r13=false):=same;have e14:r14=qju r3 r5:=rfl;have e15:r15=qe3 r3:=rfl;have e16:x16=IntKind.i64.wrap (r7 - 1):=rfl;have e17:x17=IntKind.i64.wrap (r15+x16):=rfl
 clear_value r14 r15 x16 x17 r3 r5 r7 r9 r11 r13 y m d hh i c s2 s4 s6 s8 s10 s12 x1
 clear n0 n4 n6 n8 n10 n12 z0 z4 z6 z8 z10 z12 b sz h1 hs h;rcases same with⟨hf,hg,rfl,rfl,rfl,rfl,rfl,rfl⟩|⟨hf,hg⟩
 ·rw[if_pos hf];obtain⟨⟨a1,a2,a3,a4⟩,⟨a5,a6⟩,a7,a8,a9,a10,a11,a12⟩:=qok hf;have hmo:qju r3 r5=qjg r3 r5:=by unfold qju;rw[if_pos (by omega)]
  have hr:=qt7 r3 r5;have hy:0<=qe3 r3/\qe3 r3<=3652059:=by unfold qe3;omega
  have e16:x16=r7 - 1:=e16.trans (i64_in _ (by omega));have e17:x17=qe3 r3+(r7 - 1):=e17.trans ((i64_in _ (by omega)).trans (by rw[e15,e16]));refine qcq (by omega) (qcq (by omega) (qcq (by omega) (qcq (by omega) (qcq (by omega) (qcq (by omega) (qcq (by omega) (qcq (by omega) (qak (by simp only[stOk,decide_eq_true_eq];omega) ?_))))))));rw[qab,e17];refine(xbyb (fun _ _ y20 y21 y22 y23=>
            let x27:Int:=IntKind.i64.wrap (y23*86400);let x28:Int:=IntKind.i64.wrap (((-62135596800):Int)+x27);let x29:Int:=IntKind.i64.wrap (y20*3600);let x30:Int:=IntKind.i64.wrap (y21*60);let x31:Int:=IntKind.i64.wrap (x29+x30);let x32:Int:=IntKind.i64.wrap (x31+y22);let x33:Int:=IntKind.i64.wrap (x28+x32)
            zR [.cl (.int .i64 x33),.cl (.int .i64 0)] []) ⟨a1,a2⟩ ⟨a3,a4⟩ FUEL _ 1 (by omega) (by omega) (by unfold FUEL;omega) (by omega) (by omega)).trans ?_
  rw[xba4];have hA:0<=qek r3 r5/\qek r3 r5<=335:=by refine⟨?_, ?_⟩<;>(unfold qek;split<;>(try split)<;>omega)
  extract_lets x27 x28 x29 x30 x31 x32 x33;have e27:x27=(qe3 r3+(r7 - 1)+qek r3 r5 - 0)*86400:=i64_in _ (by omega);have e28:x28= -62135596800+x27:=i64_in _ (by omega);have e29:x29=r9*3600:=i64_in _ (by omega);have e30:x30=r11*60:=i64_in _ (by omega);have e31:x31=x29+x30:=i64_in _ (by omega);have e32:x32=x31+r13:=i64_in _ (by omega);have e33:x33=x28+x32:=i64_in _ (by omega);have e:x33=quz r3 r5 r7 r9 r11 r13:=by unfold quz;rw[e33,e28,e27,e32,e31,e29,e30];omega
  rw[e]
 ·rw[if_neg (by rw[hf];simp)];have hg': ¬((1<=r3/\r3<=9999/\1<=r5/\r5<=12)/\(1<=r7/\r7<=qjg r3 r5)/\0<=r9/\r9<24/\0<=r11/\r11<60/\0<=r13/\r13<60):=by unfold qqk at hg;simpa only [decide_eq_false_iff_not] using hg
  have hmo:qju r3 r5=if 1<=r3/\r3<=9999/\1<=r5/\r5<=12 then qjg r3 r5 else 0:=rfl
  refine qae (fun h=>rfl) fun g1=>qae (fun h=>rfl) fun g2=>qae (fun h=>rfl) fun g3=>qae (fun h=>rfl) fun g4=>qae (fun h=>rfl) fun g5=>qae (fun h=>rfl) fun g6=>qae (fun h=>rfl) fun g7=>qae (fun h=>rfl) fun g8=> ?_;exfalso;apply hg';rw[e14] at g2;split at hmo<;>omega
open IntWalk (i64_in u8_in u32_in u64_in i64_quo u8_quo rem_in)
theorem qj1{x:Int}(h:xbi4 x=true):0<=x/\x<=255:=of_decide_eq_true h
theorem qal{b:List Int}(h:qad b=true):b.length<=1000000/\∀x∈b,0<=x/\x<=255:=by unfold qad at h;rw[qab] at h;simp only[zab,decide_eq_true_eq,zai] at h;exact⟨h.1,fun x hx=>qj1 (h.2 x hx)⟩
theorem qcm{b:List Int}(h:b.length<=1000000)(h': ∀x∈b,0<=x/\x<=255):qad b=true:=by unfold qad;rw[qab];simp only[zab,decide_eq_true_eq,zai];exact⟨h,fun x hx=>decide_eq_true (h' x hx)⟩
theorem qo4{a b:List Int}(h:qad b=true)(hl:a.length<=b.length)(hs: ∀x∈a,x∈b):qad a=true:=
 let ⟨h1,h2⟩:=qal h;qcm (by omega) fun x hx=>h2 x (hs x hx)
theorem qa9{b:List Int}(h:qad b=true)(n:Nat):qad (b.drop n)=true:=qo4 h (by simp) fun x hx=>zb3 hx
theorem qgl{b:List Int}(h:qad b=true)(n:Nat):qad (b.take n)=true:=qo4 h (by simp;omega) fun x hx=>zbq hx
theorem qbw{b:List Int}(h:qad b=true):qad b.tail=true:=qo4 h (by simp) fun x hx=>List.mem_of_mem_tail hx
theorem qa5{b:List Int}(h:qad b=true){i:Nat}{x:Int}(hx:b[i]? =some x):0<=x/\x<=255:=(qal h).2 x (zae hx)
theorem qd7{b:List Int}(h:qc7 b=true):b.length<=100000000:=by unfold qc7 at h;rw[qab] at h;exact of_decide_eq_true h
theorem qkc{b:List Int}(h:b.length<=100000000):qc7 b=true:=by unfold qc7;rw[qab];exact decide_eq_true h
theorem qb3{α:Type}{b:List α}{i:Nat}(h:i<b.length): ∃x,b[i]? =some x:=⟨_,zag h⟩
theorem xbyl(tag:Int)(hp:true=true):xbmt tag=zB (qbm tag):=by
 unfold xbmt qbm qau;rw[qab];simp only[zc3]
 repeat' split
 all_goals (refine qa7 ?_;rw[zbj];simp only[decide_eq_true_eq,true_iff,zan,false_iff];omega)
theorem xbza(tag:Int)(hp:true=true):xbm9 tag=zB (qbm tag):=by
 unfold xbm9 qbm qau;rw[qab];simp only[zc3]
 repeat' split
 all_goals (refine qa7 ?_;rw[zbj];simp only[decide_eq_true_eq,true_iff,zan,false_iff];omega)
theorem xbyo(tag:Int)(hp:true=true):xbmu tag=zB (qeb tag):=by
 unfold xbmu qeb qbd qbm;simp only[qab,zc3];cases qau tag
 all_goals simp only[cond_true,cond_false]
 all_goals repeat' split
 all_goals (refine qa7 ?_;rw[zbj];(try simp only[zbs,decide_eq_true_eq,or_true,true_or,zan,false_or,Bool.true_eq,true_iff,false_iff]);(try omega))
theorem xbs0(tag:Int)(hp:true=true):xbep tag=zB (qeb tag):=by
 unfold xbep qeb qbd qbm;simp only[qab,zc3];cases qau tag
 all_goals simp only[cond_true,cond_false]
 all_goals repeat' split
 all_goals (refine qa7 ?_;rw[zbj];(try simp only[zbs,decide_eq_true_eq,or_true,true_or,zan,false_or,Bool.true_eq,true_iff,false_iff]);(try omega))
theorem xbkc(n:Int)(hp:true=true):q6r n=zI (qcn n):=by
 unfold q6r qcn qas;simp only[qab,zc3]
 repeat' split
 all_goals rfl
theorem xb46(b:List Int)(i:Int)(hp:decide (0<=i)=true):xbww b i=zB (u8Cont b i):=by
 have hp:=of_decide_eq_true hp;unfold xbww u8Cont u8At;simp only[qab];refine qae (fun h=>qaq hp (qaq h ?_)) fun h=>qa7 ?_
 ·obtain⟨x,hx⟩:=qb3 (b:=b) (i:=i.toNat) (by omega);rw[hx,zaj];refine qa7 ?_;rw[zbj];simp only[decide_eq_true_eq];rw[zbh _ (by omega)];omega
 ·rw[zbg (by omega)]
theorem q8q(o:List Int):o.length<2/\qbs o=false\/∃x y r,o=x::y::r:=by
 match o with
 | []=>exact .inl ⟨by simp,rfl⟩
 | [x]=>exact .inl ⟨by simp,rfl⟩
 | x::y::r=>exact .inr ⟨x,y,r,rfl⟩
theorem xb8k(o:List Int)(hp:true=true):xb61 o=zB (qkp o):=by
 unfold xb61 qkp;simp only[qab,zc3];rcases q8q o with⟨h,e⟩|⟨x,y,r,rfl⟩
 ·rw[if_pos (by omega),e]
 ·simp only[zaq,za0,zaj,zac,qbs]
  repeat' split
  all_goals first
   | (refine qa7 ?_;rw[zbj];simp only[zab,zbs,decide_eq_true_eq,zan,false_iff,true_iff];omega)
   | omega
theorem xb45(o:List Int)(hp:true=true):xbwv o=zB (qkp o):=by
 unfold xbwv qkp;simp only[qab];rcases q8q o with⟨h,e⟩|⟨x,y,r,rfl⟩
 ·exact qaq (by omega) (qa7 e.symm)
 ·simp only[zaq,za0,zaj,zac,qbs]
  repeat' (refine qae (fun _=> ?_) fun _=> ?_)
  all_goals first
   | (refine qa7 ?_;rw[zbj];simp only[zab,zbs,decide_eq_true_eq,zan,false_iff,true_iff];omega)
   | omega
theorem xbsg(b:List Int)(hp:qad b=true):xbdw b=zB (qf9 b):=by
 unfold xbdw qf9;rw[qab]
 match b,hp with
 | [],_=>rfl
 | [x],_=>rfl
 | x::y::r,hp=>
  have hx:=qa5 hp (i:=0) (x:=x) rfl;have hy:=qa5 hp (i:=1) (x:=y) rfl;simp only[zaq,za0,zaj,zac,qdo];rw[show IntKind.u64.wrap x=x from u64_in _ (by omega),show IntKind.u64.wrap y=y from u64_in _ (by omega),show IntKind.u64.wrap (x*2 ^ 1)=x*2 from(u64_in _ (by omega)).trans (by omega),
   show Int.fdiv y (2 ^ 7)=y/ 128 from zbh _ (by omega)]
  have hor:((BitVec.ofInt 64 (x*2)||| BitVec.ofInt 64 (y/ 128)).toNat:Int)=x*2+y/ 128:=by
   have h2:y/ 128=0\/y/ 128=1:=by omega
   obtain⟨n,rfl⟩: ∃n:Nat,x=n:=⟨x.toNat,by omega⟩;have hn:n<256:=by omega
   rcases h2 with h2|h2
   ·rw[h2];simp[zcr];omega
   ·rw[h2,zdt];simp only[zcr];have: ∀n:Fin 256,((((n.val:Int)*2 % (2 ^ 64:Nat)).toNat||| ((1:Int) % (2 ^ 64:Nat)).toNat:Nat):Int)=(n.val:Int)*2+1:=by decide+kernel
    exact this ⟨n,hn⟩
  rw[hor,show IntKind.u64.wrap (x*2+y/ 128)=x*2+y/ 128 from u64_in _ (by omega)];simp only[zc3];rw[if_neg (by omega),if_pos (by omega),if_pos (by omega)];refine qaw (fun h=>qa7 ?_) fun h=>qa7 ?_
  ·rw[zbj];simp only[zab,zal,decide_eq_false_iff_not];omega
  ·rw[zbj];simp only[zab,zal,decide_eq_false_iff_not,zan,false_iff];omega
theorem xbsu(b:List Int)(hp:qad b=true):xbek b=zB (qf9 b):=by
 unfold xbek qf9;rw[qab]
 match b,hp with
 | [],_=>rfl
 | [x],_=>rfl
 | x::y::r,hp=>
  have hx:=qa5 hp (i:=0) (x:=x) rfl;have hy:=qa5 hp (i:=1) (x:=y) rfl;simp only[zaq,za0,zaj,zac,qdo,zc3,Bool.cond_not]
  repeat' split
  all_goals first
   | omega
   | (refine qa7 ?_;rw[zbj];simp only[zab,zal,decide_eq_false_iff_not,zan,false_iff,true_iff];omega)
theorem xbsp(n:Int)(hp:u32Ok n=true):xbed n=zR [.cl (.sli .u32 (qg1 n))] []:=by
 unfold u32Ok at hp;rw[qab] at hp;have hp:=of_decide_eq_true hp;unfold xbed qg1 qb5;simp only[qab];refine qae (fun h=> ?_) fun h=> ?_
 ·rw[if_pos h,show IntKind.u64.wrap (Int.tdiv n 40)=n/ 40 by rw[zb8 (by omega)];exact u64_in _ (by omega),zb9 (by omega),
   show IntKind.u32.wrap (n/ 40)=n/ 40 from u32_in _ (by omega),show IntKind.u32.wrap (n % 40)=n % 40 from u32_in _ (by omega)]
 ·rw[if_neg h,show IntKind.u64.wrap (n - 80)=n - 80 from u64_in _ (by omega),show IntKind.u32.wrap (n - 80)=n - 80 from u32_in _ (by omega)]
theorem xbzi(b:List Int)(hp:qc7 b=true):xbne b=zR [.cl (.sli .u8 b)] []:=by
 have hp:=qd7 hp;unfold xbne;simp only[za7];refine qdg (fun h=> ?_) fun h=> ?_
 ·have h:=zak (qag.1 h);subst h;unfold xbqh;rw[if_pos (Eq.symm (qdj (by simp) (qdj (by simp) rfl)))]
 ·exact qdj (by omega) (qdj (by omega) rfl)
open IntWalk (i64_in u8_in u32_in u64_in i64_quo u8_quo rem_in)
theorem qdv{b:List Int}{i:Nat}{x:Int}(h:b[i]? =some x):b.drop i=x::b.drop (i+1):=by obtain⟨hlt,e⟩:=zad.1 h;rw[zb1 hlt,e]
theorem qes{α:Type}{b:List α}{i:Nat}(h:b.length<=i):b.drop i=[]:=zbo h
theorem xbol(a b:List Int)(hl:a.length=b.length)(hb:a.length<=100000000): ∀(f i:Nat),i<=a.length->a.length<f+i->
  qkj (fun _ _ _ _ _ _ _ _ _ _ _ _ _ _ _ _=>zB false) (fun _ _ _ _ _ _=>zB true) f a b i=zB (decide (a.drop i=b.drop i))
 | 0,i,hi,hf=>by omega
 | f+1,i,hi,hf=>by
  show qlo (qkj (fun _ _ _ _ _ _ _ _ _ _ _ _ _ _ _ _=>zB false) (fun _ _ _ _ _ _=>zB true) f) (fun _ _ _ _ _ _ _ _ _ _ _ _ _ _ _ _=>zB false) (fun _ _ _ _ _ _=>zB true) a b i=_;unfold qlo;refine qae (fun h=> ?_) fun h=> ?_
  ·obtain⟨x,hx⟩:=qb3 (b:=a) (i:=i) (by omega);obtain⟨y,hy⟩:=qb3 (b:=b) (i:=i) (by omega);refine qaq (by omega) (qaq h ?_);rw[show(i:Int).toNat=i from rfl,hx,zaj];refine qaq (by omega) (qaq (by omega) ?_);rw[hy,zaj];rw[qdv hx,qdv hy];refine qaw (fun hne=>qa7 ?_) fun he=> ?_
   ·simp[hne]
   ·subst he;rw[show IntKind.i64.wrap ((i:Int)+1)=((i+1:Nat):Int) from(i64_in _ (by omega)).trans (by omega)];refine(xbol a b hl hb f (i+1) (by omega) (by omega)).trans (qa7 ?_);simp
  ·refine qa7 ?_;rw[qes (by omega),qes (by omega)];simp
theorem xby5(a b:List Int)(hp:qc7 a=true):xbm4 a b=zB (qbt a b):=by
 have hp:=qd7 hp;unfold xbm4 qbt qlg;simp only[qab];refine qaw (fun h=>qa7 ?_) fun h=> ?_
 ·rw[eq_comm,decide_eq_false_iff_not];intro e;subst e;exact h rfl
 ·exact xbol a b (by omega) hp FUEL 0 (by omega) (by unfold FUEL;omega)
theorem xbjh(b:List Int)(hb: ∀x∈b,0<=x/\x<=255): ∀(n:Int) (k:Nat),0<=n->n<256 ^ k->0<=b.foldl (fun n x=>n*256+x) n/\b.foldl (fun n x=>n*256+x) n<256 ^ (k+b.length):=by
 induction b with
 | nil=>intro n k h0 h1;exact⟨h0,h1⟩
 | cons x r ih=>
  intro n k h0 h1;have hx:=hb x (by simp);have:=ih (fun y hy=>hb y (by simp[hy])) (n*256+x) (k+1) (by omega) (by rw[zc1];omega);simp only[zbi,zac];rw[show k+(r.length+1)=k+1+r.length by omega];exact this
theorem qsa{b:List Int}(hb: ∀x∈b,0<=x/\x<=255):0<=qar b/\qar b<256 ^ b.length:=by have:=xbjh b hb 0 0 (by omega) (by decide);rwa [zay] at this
theorem xbzv(b:List Int)(hb: ∀x∈b,0<=x/\x<=255)(hl:b.length<=7): ∀(f i:Nat) (n:Int),i<=b.length->b.length<f+i->0<=n->n<256 ^ i->
  qnt (fun _ y2 _ _ _ _=>zR [.cl (.int .u64 y2)] []) f b n i=zR [.cl (.int .u64 ((b.drop i).foldl (fun n x=>n*256+x) n))] []
 | 0,i,n,hi,hf,_,_=>by omega
 | f+1,i,n,hi,hf,h0,h1=>by
  show qnu (qnt (fun _ y2 _ _ _ _=>zR [.cl (.int .u64 y2)] []) f) (fun _ y2 _ _ _ _=>zR [.cl (.int .u64 y2)] []) b n i=_;unfold qnu;have hh:((256:Int) ^ i)=((256 ^ i:Nat):Int):=by rw[zdm];rfl
  have h3:(256 ^ i:Nat)<=72057594037927936:=zcd (zct (by omega) (show i<=7 by omega)) (by decide);have h2:n<72057594037927936:=by rw[hh] at h1;generalize 256 ^ i=z at*;omega
  refine qae (fun h=> ?_) fun h=> ?_
  ·obtain⟨x,hx⟩:=qb3 (b:=b) (i:=i) (by omega);have hxr:=hb x (zae hx);extract_lets x1 x5;refine qaq (by omega) (qaq h ?_);rw[show(i:Int).toNat=i from rfl,hx,zaj,qdv hx,zbi];extract_lets x3 x4;have e1:x1=n*256:=u64_in _ (by omega);have e3:x3=x:=u64_in _ (by omega);have e4:x4=n*256+x:=(u64_in (x1+x3) (by omega)).trans (by omega);have e5:x5=((i+1:Nat):Int):=(i64_in _ (by omega)).trans (by omega);rw[e4,e5];exact xbzv b hb hl f (i+1) _ (by omega) (by omega) (by omega) (by rw[zc1];omega)
  ·rw[qes (by omega)];rfl
theorem xb44(b:List Int)(hp:(qad b&&decide (b.length<=7))=true):xbwu b=zR [.cl (.int .u64 (qhk b))] []:=by simp only[zab,decide_eq_true_eq] at hp;unfold xbwu qhk;simp only[qab];exact xbzv b (qal hp.1).2 hp.2 FUEL 0 0 (by omega) (by unfold FUEL;omega) (by omega) (by decide)
theorem xbse(e:Int)(hp:true=true):xbrb e=zR [] []:=rfl
theorem xbsf(e:Int)(hp:true=true):xbrc e=some (.pan (.iface 85 (.agg [.int .i64 e])) []):=rfl
theorem xb4j(l:List Int)(d:Int)(hp:qad l=true):xbwh l d=(Tree.ite (l.isEmpty) (.leaf (.pan (.iface 85 (.agg [.int .i64 1])) [some ⟨.var [.cl (.sli .u8 l),.cl (.int .i64 d)],false⟩])) (.leaf (.ret [.cl (.int .i64 (l.headD 0))] [some ⟨.var [.cl (.sli .u8 l.tail),.cl (.int .i64 d)],false⟩]))).eval:=by
 unfold xbwh
 match l,hp with
 | [],_=>rfl
 | x::r,hp=>
  have hx:=qa5 hp (i:=0) (x:=x) rfl;refine qaq (by simp only[zac];omega) (qaq (by simp only[zac];omega) ?_);simp only[zaq,zaj];refine qaq (by simp only[zac];omega) ?_;rw[show IntKind.i64.wrap x=x from i64_in _ (by omega)];rfl
open IntWalk (i64_in u8_in u32_in u64_in i64_quo u8_quo rem_in)
theorem xbz2{n x:Int}(h0:0<=n)(h1:n<72057594037927936)(h2:0<=x)(h3:x<=255):((BitVec.ofInt 64 (n*256)||| BitVec.ofInt 64 x).toNat:Int)=n*256+x:=by
 obtain⟨a,rfl⟩: ∃a:Nat,n=a:=⟨n.toNat,by omega⟩;obtain⟨b,rfl⟩: ∃b:Nat,x=b:=⟨x.toNat,by omega⟩;rw[zdt];have e1:(BitVec.ofInt 64 ((a:Int)*256)).toNat=2 ^ 8*a:=by rw[zcr];omega
 have e2:(BitVec.ofInt 64 (b:Int)).toNat=b:=by rw[zcr];omega
 rw[e1,e2, <- Nat.two_pow_add_eq_or_of_lt (by omega:b<2 ^ 8)];omega
theorem qva{r:List Int}(hb: ∀x∈r,0<=x/\x<=255){j:Nat}(hj:j<=3):0<=qar (r.take j)/\qar (r.take j)<16777216:=by
 have h:=qsa (b:=r.take j) fun x hx=>hb x (zbq hx);refine⟨h.1, ?_⟩;have hl:(r.take j).length<=3:=by simp;omega
 have h3:(256 ^ (r.take j).length:Nat)<=16777216:=zcd (zct (by omega) hl) (by decide);have hh:((256:Int) ^ (r.take j).length)=((256 ^ (r.take j).length:Nat):Int):=by rw[zdm];rfl
 have:=h.2;rw[hh] at this;omega
theorem xbsv(b:List Int)(hp:qad b=true):xbel b=zR [.cl (.int .i64 (qg8 b).1),.cl (.int .i64 (qg8 b).2)] []:=by
 unfold xbel qg8;simp only[qab]
 match b,hp with
 | [],_=>rfl
 | c::t,hp=>
  have hc:=qa5 hp (i:=0) (x:=c) rfl;have hl:=(qal hp).1;have ht:=(qal (qbw hp)).2;simp only[zbu] at ht;simp only[zac] at hl;simp only[zaq,zaj,zac,qac];refine qcq (by omega) (qaq (by omega) (qae (fun h=>qaq (by omega) ?_) fun h=>qaq (by omega) ?_))
  ·rw[if_pos h,show IntKind.i64.wrap c=c from i64_in _ (by omega)]
  ·rw[if_neg h];rw[show IntKind.i64.wrap c=c from i64_in _ (by omega),show IntKind.i64.wrap (c - 128)=c - 128 from i64_in _ (by omega),show IntKind.i64.wrap (1+(c - 128))=1+(c - 128) from i64_in _ (by omega)];refine qae (fun h1=> ?_) fun h1=>qae (fun h2=> ?_) fun h2=>qae (fun h3=> ?_) fun h3=> ?_
   ·rw[if_pos (by omega)]
   ·rw[if_pos (by omega)]
   ·rw[if_pos (by omega)]
   ·rw[if_neg (by omega)];obtain⟨j,hj⟩: ∃j:Nat,c - 128=j:=⟨(c - 128).toNat,by omega⟩;have hdt:List.drop 1 (List.take (1+(c - 128)).toNat (c::t))=t.take j:=by rw[hj,show((1:Int)+(j:Int)).toNat=j+1 by omega,zca,List.drop_one,zbu]
    rw[hdt];have hlen:(t.take j).length=j:=by simp;omega
    refine qaq (by omega) (qaq (by omega) (qak ?_ (qaq (by omega) ?_)))
    ·simp only[zab,decide_eq_true_eq];exact⟨qgl (qbw hp) j,by omega⟩
    ·obtain⟨y,t',rfl⟩: ∃y t',t=y::t':=by
      cases t with
      | nil=>simp at hlen;omega
      | cons y t'=>exact⟨y,t',rfl⟩
     simp only[za0,zaq,zaj];have hr:=qva ht (j:=j) (by omega);rw[show(c - 128).toNat=j by omega];unfold qhk;simp only[qab];rw[show IntKind.i64.wrap (qar (List.take j (y::t')))=qar (List.take j (y::t')) from i64_in _ (by omega)];refine qae (fun h4=> ?_) fun h4=>qae (fun h5=> ?_) fun h5=> ?_
     ·rw[if_pos (show(y::t').headD 0=0\/qar (List.take j (y::t'))<128 from .inl h4)]
     ·rw[if_pos (show(y::t').headD 0=0\/qar (List.take j (y::t'))<128 from .inr h5)]
     ·rw[if_neg (show ¬((y::t').headD 0=0\/qar (List.take j (y::t'))<128) from fun h=>h.elim h4 h5)]
theorem xbx2(k0:Int->Int->Int->Int->Int->Int->List Int->Int->Option Out)(k1:Int->Int->Int->Int->List Int->Int->Option Out)(F0:List Int->Int->Option Out)(F1:Int->List Int->Int->Option Out)(h0: ∀a b c d e f g h,k0 a b c d e f g h=F0 g h)(c cnt:Int)(h1: ∀b d e f,k1 c b cnt d e f=F1 b e f)(hcnt:cnt<=3):
  ∀(f i:Nat) (n:Int) (r:List Int) (d:Int),qad r=true->(i:Int)<=cnt->cnt<f+i->0<=n->n<256 ^ i->
  qfd k0 k1 f c n cnt i r d=if(r.length:Int)<cnt - i then F0 [] d else F1 ((r.take (cnt - i).toNat).foldl (fun n x=>n*256+x) n) (r.drop (cnt - i).toNat) d
 | 0,i,n,r,d,hr,hi,hf,_,_=>by omega
 | f+1,i,n,r,d,hr,hi,hf,hn0,hn1=>by
  show qiz (qfd k0 k1 f) k0 k1 c n cnt i r d=_;unfold qiz;have hi3:i<=3:=by omega
  have h3:(256 ^ i:Nat)<=16777216:=zcd (zct (by omega) hi3) (by decide);have hh:((256:Int) ^ i)=((256 ^ i:Nat):Int):=by rw[zdm];rfl
  have h4:n<16777216:=by rw[hh] at hn1;generalize 256 ^ i=z at*;omega
  refine qae (fun h=> ?_) fun h=> ?_
  ·cases r with
   | nil=>
    refine qak hr (qak rfl ?_);rw[h0,if_pos (by simp;omega)]
   | cons x r=>
    have hx:=qa5 hr (i:=0) (x:=x) rfl;extract_lets x4 r5 r6 x7 x8;have e4:x4=n*256:=(i64_in (n*2 ^ 8) (by omega)).trans (by omega);refine qak hr (xbbe rfl ?_);have e7:x7=n*256+x:=by show IntKind.i64.wrap ((BitVec.ofInt 64 x4||| BitVec.ofInt 64 x).toNat)=_;rw[e4,xbz2 hn0 (by omega) hx.1 hx.2];exact i64_in _ (by omega)
    have e8:x8=((i+1:Nat):Int):=(i64_in ((i:Int)+1) (by omega)).trans (by omega);rw[e7,e8];refine(xbx2 k0 k1 F0 F1 h0 c cnt h1 hcnt f (i+1) _ r6 d (qbw hr) (by omega) (by omega) (by omega) (by rw[zc1];omega)).trans ?_;show(if(r.length:Int)<cnt - ((i+1:Nat):Int) then _ else F1 ((r.take (cnt - ((i+1:Nat):Int)).toNat).foldl _ _) (r.drop (cnt - ((i+1:Nat):Int)).toNat) d)=_;obtain⟨m,hm⟩: ∃m:Nat,(cnt - (i:Int)).toNat=m+1:=⟨(cnt - (i:Int)).toNat - 1,by omega⟩;have hm':(cnt - ((i+1:Nat):Int)).toNat=m:=by omega
    rw[hm,hm',zca,zbi,zcn];by_cases hlt:(r.length:Int)<cnt - ((i+1:Nat):Int)
    ·rw[if_pos hlt,if_pos (by simp;omega)]
    ·rw[if_neg hlt,if_neg (by simp;omega)]
  ·rw[h1,if_neg (by omega),show(cnt - (i:Int)).toNat=0 by omega];rfl
theorem xbrx{t:List Int}(ht: ∀x∈t,0<=x/\x<=255){j:Nat}(hj:1<=j)(hj3:j<=3)(hl:j<=t.length):qas (qar (t.take j))=1+j↔ ¬(t.headD 0=0\/qar (t.take j)<128):=by
 have hall: ∀(i:Nat) (x:Int),t[i]? =some x->0<=x/\x<=255:=fun i x h=>ht x (zae h);unfold qas
 match j,hj,hj3,t,hl,hall with
 | 1,_,_,x::t,_,hall=>
  have:=hall 0 x rfl;simp only[zca,zdw,qar,zbi,List.foldl_nil,zba]
  repeat' split
  all_goals omega
 | 2,_,_,x::y::t,_,hall=>
  have:=hall 0 x rfl;have:=hall 1 y rfl;simp only[zca,zdw,qar,zbi,List.foldl_nil,zba]
  repeat' split
  all_goals omega
 | 3,_,_,x::y::z::t,_,hall=>
  have:=hall 0 x rfl;have:=hall 1 y rfl;have:=hall 2 z rfl;simp only[zca,zdw,qar,zbi,List.foldl_nil,zba]
  repeat' split
  all_goals omega
 | 2,_,_,[x],hl,_=>simp at hl
 | 3,_,_,[x],hl,_=>simp at hl
 | 3,_,_,[x,y],hl,_=>simp at hl
theorem qbx(c:Int)(t:List Int):qac (c::t)=if c<128 then(c,1) else if c=128\/131<c\/(t.length:Int)<c - 128 then(0,0)
  else if t.headD 0=0\/qar (t.take (c - 128).toNat)<128 then(0,0) else(qar (t.take (c - 128).toNat),1+(c - 128)):=rfl
theorem xbsd(l:List Int)(d:Int)(hp:qad l=true):xbdv l d=(Tree.ite (!(qqf l)) (.leaf (.pan (.iface 85 (.agg [.int .i64 1])) [some ⟨.var [.cl (.sli .u8 (qhj l)),.cl (.int .i64 d)],false⟩])) (.leaf (.ret [.cl (.int .i64 (qez l).1)] [some ⟨.var [.cl (.sli .u8 (qez l).2),.cl (.int .i64 d)],false⟩]))).eval:=by
 unfold xbdv qqf qhj qez;simp only[qab,Bool.not_not];refine qak hp ?_
 match l,hp with
 | [],_=>rfl
 | c::t,hp=>
  have hc:=qa5 hp (i:=0) (x:=c) rfl;have hl:=(qal hp).1;have ht:=(qal (qbw hp)).2;have hbt:=qbw hp;simp only[zbu] at ht hbt;simp only[zac] at hl;simp only[List.isEmpty_cons,cond_false,zba,zbu,cond_true];have hR:qkt (c::t)=if c=128\/131<c then t else t.drop (c - 128).toNat:=rfl
  refine qae (fun h=> ?_) fun h=> ?_
  ·have hD:qac (c::t)=(c,1):=by rw[qbx,if_pos h]
   rw[hD];rfl
  ·have hbad:(c=128\/131<c)->some (Out.pan (.iface 85 (.agg [.int .i64 1])) [some ⟨.var [.cl (.sli .u8 t),.cl (.int .i64 d)],false⟩])=(Tree.ite (decide ((qac (c::t)).2=0)) (.leaf (.pan (.iface 85 (.agg [.int .i64 1])) [some ⟨.var [.cl (.sli .u8 (qkt (c::t))),.cl (.int .i64 d)],false⟩])) (.leaf (.ret [.cl (.int .i64 (qac (c::t)).1)] [some ⟨.var [.cl (.sli .u8 ((c::t).drop (qac (c::t)).2.toNat)),.cl (.int .i64 d)],false⟩]))).eval:=fun hb=>by
    have hD:qac (c::t)=(0,0):=by rw[qbx,if_neg h,if_pos (show c=128\/131<c\/(t.length:Int)<c - 128 by omega)]
    rw[hD,hR,if_pos hb];rfl
   refine qae (fun h1=>qae (fun h2=> ?_) fun h2=>hbad (by omega)) fun h1=>hbad (by omega);rw[show IntKind.i64.wrap (c - 128)=c - 128 from i64_in _ (by omega)];obtain⟨j,hj⟩: ∃j:Nat,c - 128=j:=⟨(c - 128).toNat,by omega⟩;have key:=xbx2 (fun _ _ _ _ _ _ y10 y11=>some (.pan (.iface 85 (.agg [.int .i64 1])) [some ⟨.var [.cl (.sli .u8 y10),.cl (.int .i64 y11)],false⟩]))
    (fun y12 y13 _ _ y16 y17=>cond (decide (qcn y13=IntKind.i64.wrap (IntKind.i64.wrap ((1:Int)+y12) - 128))) (zR [.cl (.int .i64 y13)] [some ⟨.var [.cl (.sli .u8 y16),.cl (.int .i64 y17)],false⟩]) (some (.pan (.iface 85 (.agg [.int .i64 1])) [some ⟨.var [.cl (.sli .u8 y16),.cl (.int .i64 y17)],false⟩])))
    (fun y10 y11=>some (.pan (.iface 85 (.agg [.int .i64 1])) [some ⟨.var [.cl (.sli .u8 y10),.cl (.int .i64 y11)],false⟩]))
    (fun y13 y16 y17=>cond (decide (qcn y13=IntKind.i64.wrap (IntKind.i64.wrap ((1:Int)+c) - 128))) (zR [.cl (.int .i64 y13)] [some ⟨.var [.cl (.sli .u8 y16),.cl (.int .i64 y17)],false⟩]) (some (.pan (.iface 85 (.agg [.int .i64 1])) [some ⟨.var [.cl (.sli .u8 y16),.cl (.int .i64 y17)],false⟩])))
    (fun _ _ _ _ _ _ _ _=>rfl) c (c - 128) (fun _ _ _ _=>rfl) (by omega) FUEL 0 0 t d hbt (by omega) (by unfold FUEL;omega) (by omega) (by decide)
   refine zdv key ?_;rw[show c - 128 - ((0:Nat):Int)=c - 128 by omega];simp only[show IntKind.i64.wrap ((1:Int)+c)=1+c from i64_in _ (by omega),show IntKind.i64.wrap (1+c - 128)=1+c - 128 from i64_in _ (by omega),show(c - 128).toNat=j by omega];by_cases h5:(t.length:Int)<c - 128
   ·have hD:qac (c::t)=(0,0):=by rw[qbx,if_neg h,if_pos (show c=128\/131<c\/(t.length:Int)<c - 128 by omega)]
    rw[if_pos h5,hD,hR,if_neg (show ¬(c=128\/131<c) by omega),qes (by omega)];rfl
   ·have hD:qac (c::t)=if t.headD 0=0\/qar (t.take j)<128 then(0,0) else(qar (t.take j),1+(c - 128)):=by rw[qbx,if_neg h,if_neg (show ¬(c=128\/131<c\/(t.length:Int)<c - 128) by omega),show(c - 128).toNat=j by omega]
    rw[if_neg h5];have hs:=xbrx ht (j:=j) (by omega) (by omega) (by omega);unfold qcn;simp only[qab];rw[show(t.take j).foldl (fun n x=>n*256+x) 0=qar (t.take j) from rfl];by_cases h6:t.headD 0=0\/qar (t.take j)<128
    ·rw[if_pos h6] at hD;rw[hD,hR,if_neg (show ¬(c=128\/131<c) by omega),show(c - 128).toNat=j by omega];refine qcq (fun e=> ?_) rfl;exact hs.1 (by omega) h6
    ·rw[if_neg h6] at hD;rw[hD];refine qaq (by have:=hs.2 h6;omega) ?_;show _=(Tree.ite (decide (1+(c - 128)=0)) _ _).eval;rw[show(decide (1+(c - 128)=0))=false from decide_eq_false (by omega),show(1+(c - 128)).toNat=j+1 by omega,zcn];rfl
open IntWalk (i64_in u8_in u32_in u64_in i64_quo u8_quo rem_in)
theorem xbvz(b:List Int):decide (qbn [] b<0)=decide (0<b.length):=by
 cases b with
 | nil=>rfl
 | cons x r=>simp[qbn]
theorem xbqo(a:List Int):decide (qbn a []<0)=false:=by
 cases a with
 | nil=>rfl
 | cons x r=>simp[qbn]
theorem xbnw(a b:List Int)(hb:a.length<=100000000): ∀(f i:Nat),i<=a.length->i<=b.length->a.length<f+i->
  qkl (fun _ _ y3 _ _ _ _ _ _ _ _ _ _ _ _ _ _ _ _ _ _ _ _ _ _ _ _ _ _ _ _ _ _=>zB y3) (fun y34 y35 _ _ _ _ _ _ _ _ _=>zB (decide ((y34.length:Int)<(y35.length:Int)))) (fun y45 y46 _ _ _ _ _=>zB (decide ((y45.length:Int)<(y46.length:Int)))) f a b i=
   zB (decide (qbn (a.drop i) (b.drop i)<0))
 | 0,i,hi,hi',hf=>by omega
 | f+1,i,hi,hi',hf=>by
  show qlr (qkl (fun _ _ y3 _ _ _ _ _ _ _ _ _ _ _ _ _ _ _ _ _ _ _ _ _ _ _ _ _ _ _ _ _ _=>zB y3) (fun y34 y35 _ _ _ _ _ _ _ _ _=>zB (decide ((y34.length:Int)<(y35.length:Int)))) (fun y45 y46 _ _ _ _ _=>zB (decide ((y45.length:Int)<(y46.length:Int)))) f) _ _ _ a b i=_;unfold qlr;refine qae (fun h=>qae (fun h'=> ?_) fun h'=>qa7 ?_) fun h=>qa7 ?_
  ·obtain⟨x,hx⟩:=qb3 (b:=a) (i:=i) (by omega);obtain⟨y,hy⟩:=qb3 (b:=b) (i:=i) (by omega);refine qaq (by omega) (qaq h ?_);rw[show(i:Int).toNat=i from rfl,hx,zaj];refine qaq (by omega) (qaq h' ?_);rw[hy,zaj,qdv hx,qdv hy];refine qaw (fun hne=>qaq (by omega) (qaq h ?_)) fun he=> ?_
   ·rw[zaj];refine qaq (by omega) (qaq h' ?_);rw[zaj];refine qa7 ?_;unfold qbn;by_cases hlt:x<y
    ·rw[if_pos hlt];simp[hlt]
    ·rw[if_neg hlt,if_pos (by omega)];simp[hlt]
   ·subst he;rw[show IntKind.i64.wrap ((i:Int)+1)=((i+1:Nat):Int) from(i64_in _ (by omega)).trans (by omega)];refine(xbnw a b hb f (i+1) (by omega) (by omega) (by omega)).trans (qa7 ?_)
    conv=>rhs;unfold qbn
    rw[if_neg (by omega),if_neg (by omega)]
  ·rw[qes (b:=b) (by omega),xbqo];exact decide_eq_false (by omega)
  ·rw[qes (b:=a) (by omega),xbvz,zar,zbj];simp only[decide_eq_true_eq];omega
theorem xby7(a b:List Int)(hp:qc7 a=true):xbm6 a b=zB (qew a b):=by unfold xbm6 qew;simp only[qab];exact xbnw a b (qd7 hp) FUEL 0 (by omega) (by omega) (by have:=qd7 hp;unfold FUEL;omega)
theorem ql2{l:List CV}(h:qij l=true):l.length<=1000000/\∀(i:Nat) (e:CV),l[i]? =some e->∃x,e=.sli .u8 x/\qad x=true:=by
 unfold qij at h;rw[qab] at h;simp only[zab,decide_eq_true_eq,zai] at h;refine⟨h.1,fun i e he=> ?_⟩;have:=h.2 e (zae he);unfold xb0n at this;split at this
 ·rename_i l';refine⟨l',rfl, ?_⟩;unfold rowB at this;simp only[zab,decide_eq_true_eq,zai] at this;exact qcm this.1 fun x hx=>qj1 (this.2 x hx)
 ·cases this
theorem q2q{l:List CV}{i:Nat}{a b:List Int}(h1:l[i]? =some (.sli .u8 a))(h2:l[i+1]? =some (.sli .u8 b)):qba ((l.map qcf).drop i)=(decide (qbn a b<=0)&&qba ((l.map qcf).drop (i+1))):=by
 have e1:(l.map qcf)[i]? =some a:=by rw[zah,h1];rfl
 have e2:(l.map qcf)[i+1]? =some b:=by rw[zah,h2];rfl
 have d: ∀ {l:List (List Int)} {i:Nat} {x:List Int},l[i]? =some x->l.drop i=x::l.drop (i+1):=fun {l i x} h=>by obtain⟨hlt,e⟩:=zad.1 h;rw[zb1 hlt,e]
 rw[d e1,d e2];rfl
theorem q2p{l:List CV}{i:Nat}(h:l.length<=i+1):qba ((l.map qcf).drop i)=true:=by
 have:((l.map qcf).drop i).length<=1:=by simp;omega
 match (l.map qcf).drop i,this with
 | [],_=>rfl
 | [_],_=>rfl
 | _::_::_,h=>simp at h
theorem xbdh: ∀(a b:List Int),decide (qbn b a<0)= !(decide (qbn a b<=0))
 | [],[]=>rfl
 | [],_::_=>by simp[qbn]
 | _::_,[]=>by simp[qbn]
 | x::a,y::b=>by
  unfold qbn;by_cases h1:x<y
  ·rw[if_pos h1,if_neg (by omega),if_pos h1];simp
  ·by_cases h2:y<x
   ·rw[if_pos h2,if_neg h1,if_pos h2];simp
   ·rw[if_neg h1,if_neg h2,if_neg h2,if_neg h1];exact xbdh a b
theorem xb7i(l:List CV)(hok:qij l=true): ∀(f i:Nat),l.length<f+i->qgr (fun _ _ _ _ _ _ _ _ _ _ _ _ _ _ _ _=>zB false) (fun _ _ _ _ _=>zB true) f l ((i+1:Nat):Int)=zB (qba ((l.map qcf).drop i))\/f=0
 | 0,i,hf=>.inr rfl
 | f+1,i,hf=>by
  left;obtain⟨hl,hr⟩:=ql2 hok;show qhf (qgr (fun _ _ _ _ _ _ _ _ _ _ _ _ _ _ _ _=>zB false) (fun _ _ _ _ _=>zB true) f) _ _ l ((i+1:Nat):Int)=_;unfold qhf;refine qae (fun h=>qaq (by omega) (qaq h ?_)) fun h=>qa7 ?_
  ·obtain⟨e1,he1⟩:=qb3 (b:=l) (i:=i) (by omega);obtain⟨e2,he2⟩:=qb3 (b:=l) (i:=i+1) (by omega);obtain⟨x,rfl,hx⟩:=hr _ _ he1;obtain⟨y,rfl,hy⟩:=hr _ _ he2;rw[show((i+1:Nat):Int).toNat=i+1 from rfl,he2,zaj];refine qak rfl ?_;rw[show IntKind.i64.wrap (((i+1:Nat):Int) - 1)=(i:Int) from(i64_in _ (by omega)).trans (by omega)];refine qaq (by omega) (qaq (by omega) ?_);rw[show(i:Int).toNat=i from rfl,he1,zaj];refine qak rfl (qak (qkc (by have:=(qal hy).1;show y.length<=_;omega)) ?_);show cond (qew y x) _ _=_;rw[q2q he1 he2];unfold qew;rw[qab,xbdh x y]
   cases decide (qbn x y<=0) with
   | true=>
    simp only[zc5,cond_false,zbt];rw[show IntKind.i64.wrap (((i+1:Nat):Int)+1)=((i+1+1:Nat):Int) from(i64_in _ (by omega)).trans (by omega)];exact(xb7i l hok f (i+1) (by omega)).resolve_right (by omega)
   | false=>rfl
  ·rw[q2p (by omega)]
theorem xbki(l:List CV)(hp:qij l=true):q6w l=zB (qbv l):=by unfold q6w qbv;simp only[qab];exact(xb7i l hp FUEL 0 (by have:=(ql2 hp).1;unfold FUEL;omega)).resolve_right (by unfold FUEL;omega)
theorem xbkb(a b:List Int)(hp:(qad a&&qad b)=true):q6q a b=zI (qhe a b):=by unfold q6q;exact qak hp rfl
theorem xb41(a b:List Int)(hp:(qad a&&qad b)=true):xbwt a b=zB (decide (qhe a b<=0)):=by unfold xbwt;exact qak hp rfl
theorem xb7g(l:List CV)(hok:qij l=true): ∀(f i:Nat),l.length<f+i->qkh (fun _ _ _ _ _ _ _ _ _ _ _ _ _ _ _ _ _=>zB false) (fun _ _ _ _ _=>zB true) f l ((i+1:Nat):Int)=zB (qba ((l.map qcf).drop i))\/f=0
 | 0,i,hf=>.inr rfl
 | f+1,i,hf=>by
  left;obtain⟨hl,hr⟩:=ql2 hok;show qlm (qkh (fun _ _ _ _ _ _ _ _ _ _ _ _ _ _ _ _ _=>zB false) (fun _ _ _ _ _=>zB true) f) _ _ l ((i+1:Nat):Int)=_;unfold qlm;refine qae (fun h=> ?_) fun h=>qa7 ?_
  ·obtain⟨e1,he1⟩:=qb3 (b:=l) (i:=i) (by omega);obtain⟨e2,he2⟩:=qb3 (b:=l) (i:=i+1) (by omega);obtain⟨x,rfl,hx⟩:=hr _ _ he1;obtain⟨y,rfl,hy⟩:=hr _ _ he2;rw[show IntKind.i64.wrap (((i+1:Nat):Int) - 1)=(i:Int) from(i64_in _ (by omega)).trans (by omega)];refine qaq (by omega) (qaq (by omega) ?_);rw[show(i:Int).toNat=i from rfl,he1,zaj];refine qak rfl (qaq (by omega) (qaq h ?_));rw[show((i+1:Nat):Int).toNat=i+1 from rfl,he2,zaj];refine qak rfl (qak (by show(qad x&&qad y)=true;rw[hx,hy];rfl) ?_);show cond (!(decide (qhe x y<=0))) _ _=_;rw[q2q he1 he2];unfold qhe;rw[qab]
   cases decide (qbn x y<=0) with
   | true=>
    simp only[zc5,cond_false,zbt];rw[show IntKind.i64.wrap (((i+1:Nat):Int)+1)=((i+1+1:Nat):Int) from(i64_in _ (by omega)).trans (by omega)];exact(xb7g l hok f (i+1) (by omega)).resolve_right (by omega)
   | false=>rfl
  ·rw[q2p (by omega)]
theorem xby3(l:List CV)(hp:qij l=true):xbm2 l=zB (qbv l):=by unfold xbm2 qbv;simp only[qab];exact(xb7g l hp FUEL 0 (by have:=(ql2 hp).1;unfold FUEL;omega)).resolve_right (by unfold FUEL;omega)
theorem xbsn(l:List CV)(hp:qij l=true):xbeb l=zB (qbv l):=by unfold xbeb;exact qak hp rfl
open IntWalk (i64_in u8_in u32_in u64_in i64_quo u8_quo rem_in)
theorem qe1(c:Int)(r:List Int):qd4 (c::r)=if c<128 then 1
  else if 194<=c/\c<=223/\u8At r 0=true then 2
  else if 224<=c/\c<=239/\u8At r 0=true/\u8At r 1=true/\(c=224->160<=r.headD 0)/\(c=237->r.headD 0<160) then 3
  else if 240<=c/\c<=244/\u8At r 0=true/\u8At r 1=true/\u8At r 2=true/\(c=240->144<=r.headD 0)/\(c=244->r.headD 0<144) then 4
  else 0:=rfl
set_option maxHeartbeats 4000000 in
theorem xb5e(b:List Int)(i:Int)(hp:(qad b&&decide (0<=i/\i<b.length))=true):xbw2 b i=zI (u8Rune b i):=by
 simp only[zab,decide_eq_true_eq] at hp;obtain⟨hb,hi0,hi1⟩:=hp;have hl:=(qal hb).1;obtain⟨c,hc⟩:=qb3 (b:=b) (i:=i.toNat) (by omega);have hcr:=qa5 hb hc;have hdrop:=qdv hc;have hat: ∀k:Nat,b[i.toNat+1+k]? =(b.drop (i.toNat+1))[k]? :=fun k=>by rw[zbn]
 generalize ht:b.drop (i.toNat+1)=t at*;have huc: ∀k:Nat,u8Cont b (i+((k+1:Nat):Int))=u8At t k:=fun k=>by unfold u8Cont u8At;rw[qab,show(i+((k+1:Nat):Int)).toNat=i.toNat+1+k by omega,hat]
 have w1:IntKind.i64.wrap (i+1)=i+1:=i64_in _ (by omega);have w2:IntKind.i64.wrap (i+2)=i+2:=i64_in _ (by omega);have w3:IntKind.i64.wrap (i+3)=i+3:=i64_in _ (by omega);have u1:u8Cont b (i+1)=u8At t 0:=huc 0;have u2:u8Cont b (i+2)=u8At t 1:=huc 1;have u3:u8Cont b (i+3)=u8At t 2:=huc 2;unfold u8Rune;rw[qab,hdrop,qe1];unfold xbw2 qhc qfq;simp only[getK,idxK,qab,hc,zaj,w1,w2,w3,u1,u2,u3];refine qaq hi0 (qaq hi1 (qaq (by omega) ?_))
 cases ha0:u8At t 0 with
 | false=>
  simp only[cond_false,zan,and_false,false_and,if_false]
  repeat' (refine qae (fun _=> ?_) fun _=> ?_)
  all_goals first
   | (refine qmh ?_;(repeat' split)<;>omega)
   | omega
 | true=>
  obtain⟨y,t',rfl⟩: ∃y t',t=y::t':=by
   cases t with
   | nil=>simp[u8At] at ha0
   | cons y t'=>exact⟨y,t',rfl⟩
  have hy:b[(i+1).toNat]? =some y:=by have:=hat 0;rw[show(i+1).toNat=i.toNat+1+0 by omega,this];rfl
  have hy1:i+1<b.length:=by have:=(zad.1 hy).1;omega
  simp only[cond_true,hy,zaj,zba,true_and,and_true];refine qaq (by omega) ?_
  cases ha1:u8At (y::t') 1 with
  | false=>
   simp only[cond_false,zan,and_false,false_and,if_false]
   repeat' (refine qae (fun _=> ?_) fun _=> ?_)
   all_goals first
    | (refine qmh ?_;(repeat' split)<;>omega)
    | omega
  | true=>
   simp only[cond_true,true_and]
   cases ha2:u8At (y::t') 2 with
   | false=>
    simp only[cond_false,zan,and_false,false_and,if_false]
    repeat' (first|refine qae (fun _=> ?_) fun _=> ?_|refine qaw (fun _=> ?_) fun _=> ?_)
    all_goals first
     | (refine qmh ?_;(repeat' split)<;>omega)
     | omega
   | true=>
    simp only[cond_true,true_and]
    repeat' (first|refine qae (fun _=> ?_) fun _=> ?_|refine qaw (fun _=> ?_) fun _=> ?_)
    all_goals first
     | (refine qmh ?_;(repeat' split)<;>omega)
     | omega
theorem q5o(l:List Int):0<=qd4 l/\qd4 l<=l.length/\(qd4 l=0->∀c r,l=c::r-> ¬c<128):=by
 have hlt: ∀(l:List Int) (k:Nat),u8At l k=true->k<l.length:=fun l k h=>by
  unfold u8At at h;split at h
  ·rename_i x hx;exact(zad.1 hx).1
  ·cases h
 cases l with
 | nil=>exact⟨by simp[qd4],by simp[qd4],fun _ c r h=>by cases h⟩
 | cons c r=>
  rw[qe1];by_cases h1:c<128
  ·rw[if_pos h1];exact⟨by omega,by simp;omega,fun h=>by omega⟩
  ·rw[if_neg h1];split
   ·rename_i h;have:=hlt _ _ h.2.2;exact⟨by omega,by simp only[zac];omega,fun h=>by omega⟩
   ·split
    ·rename_i h;have:=hlt _ _ h.2.2.2.1;exact⟨by omega,by simp only[zac];omega,fun h=>by omega⟩
    ·split
     ·rename_i h;have:=hlt _ _ h.2.2.2.2.1;exact⟨by omega,by simp only[zac];omega,fun h=>by omega⟩
     ·exact⟨by omega,by simp only[zac];omega,fun _ c' r' e=>by cases e;exact h1⟩
theorem q2x: ∀(n m:Nat) (l:List Int),l.length<=n->l.length<=m->qjh n l=qjh m l
 | 0,0,l,_,_=>rfl
 | 0,m+1,l,h,_=>by have:l=[]:=zak (by omega);subst this;simp[qjh]
 | n+1,0,l,_,h=>by have:l=[]:=zak (by omega);subst this;simp[qjh]
 | n+1,m+1,l,h1,h2=>by
  unfold qjh;by_cases h:l=[]
  ·rw[if_pos h,if_pos h]
  ·rw[if_neg h,if_neg h];by_cases h0:qd4 l=0
   ·rw[if_pos h0,if_pos h0]
   ·rw[if_neg h0,if_neg h0];have:=q5o l;exact q2x n m _ (by simp only[zar];omega) (by simp only[zar];omega)
theorem qkx(l:List Int):qc6 l=if l=[] then true else if qd4 l=0 then false else qc6 (l.drop (qd4 l).toNat):=by
 unfold qc6
 cases l with
 | nil=>simp[qjh]
 | cons c r=>
  rw[if_neg (by simp)]
  conv=>lhs;rw[zac];unfold qjh
  rw[if_neg (by simp)];by_cases h0:qd4 (c::r)=0
  ·rw[if_pos h0,if_pos h0]
  ·rw[if_neg h0,if_neg h0];have:=q5o (c::r);exact q2x _ _ _ (by simp only[zar,zac];omega) (zas _)
theorem xb2s(b:List Int)(hb:qad b=true): ∀(f i:Nat),i<=b.length->b.length<f+i->
  qnx (fun _ _ _ _ _ _ _ _ _ _=>zB false) (fun _ _ _ _ _=>zB true) f b i=zB (qc6 (b.drop i))
 | 0,i,hi,hf=>by omega
 | f+1,i,hi,hf=>by
  show qny (qnx (fun _ _ _ _ _ _ _ _ _ _=>zB false) (fun _ _ _ _ _=>zB true) f) _ _ b i=_;unfold qny;have hl:=(qal hb).1;refine qae (fun h=>qak ?_ ?_) fun h=>qa7 ?_
  ·simp only[zab,decide_eq_true_eq];exact⟨hb,by omega,by omega⟩
  ·extract_lets r1 x2;have hr:=q5o (b.drop i);have e1:r1=qd4 (b.drop i):=by show u8Rune b i=_;unfold u8Rune;rw[qab];rfl
   rw[zar] at hr;rw[qkx,if_neg (by intro e;have:=congrArg List.length e;simp at this;omega)];refine qae (fun h0=>qa7 ?_) fun h0=> ?_
   ·rw[if_pos (by omega)]
   ·rw[if_neg (by omega)];have e2:x2=((i+(qd4 (b.drop i)).toNat:Nat):Int):=(i64_in ((i:Int)+r1) (by omega)).trans (by omega);rw[e2];refine(xb2s b hb f _ (by omega) (by omega)).trans ?_;rw[List.drop_drop]
  ·rw[qes (by omega)];rfl
theorem xb5f(b:List Int)(hp:qad b=true):xbw3 b=zB (u8Valid b):=by unfold xbw3 u8Valid;simp only[qab];exact xb2s b hp FUEL 0 (by omega) (by have:=(qal hp).1;unfold FUEL;omega)
open IntWalk (i64_in u8_in u32_in u64_in i64_quo u8_quo rem_in)
theorem q71{n:Nat}(h:n<2 ^ 64):(BitVec.ofInt 64 (n:Int)).toNat=n:=by rw[zcr];omega
theorem orN{a b:Nat}(ha:a<2 ^ 64)(hb:b<2 ^ 64):IntKind.u64.wrap ((BitVec.ofInt 64 (a:Int)||| BitVec.ofInt 64 (b:Int)).toNat)=((a||| b:Nat):Int):=by rw[zdt,q71 ha,q71 hb];have:=za9 ha hb;exact u64_in _ (by omega)
theorem andN{a b:Nat}(ha:a<2 ^ 64)(hb:b<2 ^ 64):IntKind.u64.wrap ((BitVec.ofInt 64 (a:Int)&&&BitVec.ofInt 64 (b:Int)).toNat)=((a&&&b:Nat):Int):=by rw[BitVec.toNat_and,q71 ha,q71 hb];have:a&&&b<=a:=Nat.and_le_left;exact u64_in _ (by omega)
theorem xb5n(b:List Int)(hp:(qad b&&decide (8<=b.length))=true):xbw8 b=zR [.cl (.int .u64 (u8Word b))] []:=by
 simp only[zab,decide_eq_true_eq] at hp;obtain⟨hb,hl⟩:=hp
 match b,hl,hb with
 | x0::x1::x2::x3::x4::x5::x6::x7::r,_,hb=>
  have r0:=qa5 hb (i:=0) (x:=x0) rfl;have r1:=qa5 hb (i:=1) (x:=x1) rfl;have r2:=qa5 hb (i:=2) (x:=x2) rfl;have r3:=qa5 hb (i:=3) (x:=x3) rfl;have r4:=qa5 hb (i:=4) (x:=x4) rfl;have r5:=qa5 hb (i:=5) (x:=x5) rfl;have r6:=qa5 hb (i:=6) (x:=x6) rfl;have r7:=qa5 hb (i:=7) (x:=x7) rfl;obtain⟨n0,rfl⟩: ∃n:Nat,x0=n:=⟨x0.toNat,by omega⟩;obtain⟨n1,rfl⟩: ∃n:Nat,x1=n:=⟨x1.toNat,by omega⟩;obtain⟨n2,rfl⟩: ∃n:Nat,x2=n:=⟨x2.toNat,by omega⟩;obtain⟨n3,rfl⟩: ∃n:Nat,x3=n:=⟨x3.toNat,by omega⟩;obtain⟨n4,rfl⟩: ∃n:Nat,x4=n:=⟨x4.toNat,by omega⟩;obtain⟨n5,rfl⟩: ∃n:Nat,x5=n:=⟨x5.toNat,by omega⟩;obtain⟨n6,rfl⟩: ∃n:Nat,x6=n:=⟨x6.toNat,by omega⟩;obtain⟨n7,rfl⟩: ∃n:Nat,x7=n:=⟨x7.toNat,by omega⟩;unfold xbw8 u8Word xbot;simp only[qab,zaq,za0,zaj,zac,List.getD_cons_zero,List.getD_cons_succ,Int.toNat_natCast];have w: ∀n:Nat,n<=255->IntKind.u64.wrap (n:Int)=(n:Int):=fun n h=>u64_in _ (by omega);have sh: ∀(n k:Nat),n<=255->k<=56->IntKind.u64.wrap ((n:Int)*2 ^ k)=((n*2 ^ k:Nat):Int):=fun n k h hk=>by
   have h2:2 ^ k<=2 ^ 56:=zct (by omega) hk;have h3:n*2 ^ k<=255*2 ^ 56:=zdi h h2;have e:((n:Int)*2 ^ k)=((n*2 ^ k:Nat):Int):=by rw[Int.natCast_mul,zdm];rfl
   rw[e];exact u64_in _ (by omega)
  have lt: ∀(n k:Nat),n<=255->k<=56->n*2 ^ k<2 ^ 64:=fun n k h hk=>by have h2:2 ^ k<=2 ^ 56:=zct (by omega) hk;have h3:n*2 ^ k<=255*2 ^ 56:=zdi h h2;omega
  have p0:n0<2 ^ 64:=by omega
  have p1:=za9 p0 (lt n1 8 (by omega) (by omega));have p2:=za9 p1 (lt n2 16 (by omega) (by omega));have p3:=za9 p2 (lt n3 24 (by omega) (by omega));have p4:=za9 p3 (lt n4 32 (by omega) (by omega));have p5:=za9 p4 (lt n5 40 (by omega) (by omega));have p6:=za9 p5 (lt n6 48 (by omega) (by omega));rw[w n0 (by omega),w n1 (by omega),w n2 (by omega),w n3 (by omega),w n4 (by omega),w n5 (by omega),w n6 (by omega),w n7 (by omega)];rw[sh n1 8 (by omega) (by omega),sh n2 16 (by omega) (by omega),sh n3 24 (by omega) (by omega),sh n4 32 (by omega) (by omega),sh n5 40 (by omega) (by omega),sh n6 48 (by omega) (by omega),sh n7 56 (by omega) (by omega)];rw[orN p0 (lt n1 8 (by omega) (by omega)),orN p1 (lt n2 16 (by omega) (by omega)),orN p2 (lt n3 24 (by omega) (by omega)),orN p3 (lt n4 32 (by omega) (by omega)),orN p4 (lt n5 40 (by omega) (by omega)),orN p5 (lt n6 48 (by omega) (by omega)),orN p6 (lt n7 56 (by omega) (by omega))];exact qaq (by omega) (qaq (by omega) (qaq (by omega) (qaq (by omega) (qaq (by omega) (qaq (by omega) (qaq (by omega) (qaq (by omega) rfl)))))))
def MASK:Nat:=9259542123273814144
theorem qkr{a b:Nat}:(a||| b)&&&MASK=0↔a&&&MASK=0/\b&&&MASK=0:=by
 rw[Nat.and_or_distrib_right];constructor
 ·intro h;have h1:a&&&MASK<=(a&&&MASK)||| (b&&&MASK):=Nat.left_le_or;have h2:b&&&MASK<=(a&&&MASK)||| (b&&&MASK):=Nat.right_le_or;omega
 ·rintro⟨h1,h2⟩;rw[h1,h2];rfl
theorem xbi5: ∀k:Fin 8, ∀n:Fin 256,((n.val*2 ^ (8*k.val))&&&MASK=0)=(n.val<128):=by decide+kernel
def xbc0(k:Nat)(l:List Int):Prop:=k<=l.length/\∀i x,i<k->l[i]? =some x->x<128
theorem qnb: ∀(k:Nat) (l:List Int),xbc0 k l->qc6 (l.drop k)=qc6 l
 | 0,l,_=>rfl
 | k+1,l,h=>by
  match l,h with
  | [],h=>have:=h.1;simp at this
  | c::r,h=>
   have hc:c<128:=h.2 0 c (by omega) rfl;rw[qkx (c::r),if_neg (by simp),qe1,if_pos hc,if_neg (by omega)];exact qnb k r ⟨by have:=h.1;simp at this;omega,fun i x hi hx=>h.2 (i+1) x (by omega) (by simpa using hx)⟩
theorem qji{l:List Int}(hb:qad l=true)(hl:8<=l.length): ∃N:Nat,u8Word l=N/\N<2 ^ 64/\(N&&&MASK=0->xbc0 8 l):=by
 unfold u8Word;rw[qab];refine⟨_,rfl, ?_,fun h=>⟨hl, ?_⟩⟩
 ·have hr: ∀i,(l.getD i 0).toNat<=255:=fun i=>by
   rw[za3]
   cases hx:l[i]? with
   | none=>simp
   | some x=>have:=qa5 hb hx;simp;omega
  have h0:=hr 0;have h1:=hr 1;have h2:=hr 2;have h3:=hr 3;have h4:=hr 4;have h5:=hr 5;have h6:=hr 6;have h7:=hr 7;exact za9 (za9 (za9 (za9 (za9 (za9 (za9 (by omega) (by omega)) (by omega)) (by omega)) (by omega)) (by omega)) (by omega)) (by omega)
 ·rw[qkr,qkr,qkr,qkr,qkr,qkr,qkr] at h;obtain⟨⟨⟨⟨⟨⟨⟨a0,a1⟩,a2⟩,a3⟩,a4⟩,a5⟩,a6⟩,a7⟩:=h;have key: ∀(k:Fin 8) (n:Nat),n<=255->(n*2 ^ (8*k.val))&&&MASK=0->n<128:=fun k n hn h=>by have:=xbi5 k ⟨n,by omega⟩;simp only at this;rw[this] at h;exact h
  intro i x hi hx;have hxr:=qa5 hb hx;have hg:(l.getD i 0).toNat=x.toNat:=by rw[za3,hx];rfl
  match i,hi,hg with
  | 0,_,hg=>rw[hg] at a0;have:=key 0 x.toNat (by omega) (by simpa using a0);omega
  | 1,_,hg=>rw[hg] at a1;have:=key 1 x.toNat (by omega) a1;omega
  | 2,_,hg=>rw[hg] at a2;have:=key 2 x.toNat (by omega) a2;omega
  | 3,_,hg=>rw[hg] at a3;have:=key 3 x.toNat (by omega) a3;omega
  | 4,_,hg=>rw[hg] at a4;have:=key 4 x.toNat (by omega) a4;omega
  | 5,_,hg=>rw[hg] at a5;have:=key 5 x.toNat (by omega) a5;omega
  | 6,_,hg=>rw[hg] at a6;have:=key 6 x.toNat (by omega) a6;omega
  | 7,_,hg=>rw[hg] at a7;have:=key 7 x.toNat (by omega) a7;omega
theorem qqs{j k:Nat}{l:List Int}(h1:xbc0 j l)(h2:xbc0 k (l.drop j)):xbc0 (j+k) l:=by
 refine⟨by have:=h2.1;simp only[zar] at this;have:=h1.1;omega,fun i x hi hx=> ?_⟩;by_cases h:i<j
 ·exact h1.2 i x h hx
 ·exact h2.2 (i - j) x (by omega) (by rw[zbn,show j+(i - j)=i by omega];exact hx)
theorem xbh2(A:List Int->Option Out)(R:Option Out)(L:Nat)(v:Bool)(hA: ∀l,l.length<=L->qad l=true->qc6 l=v->A l=R): ∀(f:Nat) (l:List Int),l.length<f->l.length<=L->qad l=true->qc6 l=v->
  qlu A f l=R
 | 0,l,h,_,_,_=>by omega
 | f+1,l,hf,hL,hb,hv=>by
  show qmz (qlu A f) A l=R;unfold qmz;refine qae (fun h=> ?_) fun h=>hA l hL hb hv;have b1:=qa9 hb 8;have b2:=qa9 hb 16;have b3:=qa9 hb 24;have l1:8<=(l.drop 8).length:=by simp only[zar];omega
  have l2:8<=(l.drop 16).length:=by simp only[zar];omega
  have l3:8<=(l.drop 24).length:=by simp only[zar];omega
  obtain⟨n0,e0,p0,q0⟩:=qji hb (show 8<=l.length by omega);obtain⟨n1,e1,p1,q1⟩:=qji b1 l1;obtain⟨n2,e2,p2,q2⟩:=qji b2 l2;obtain⟨n3,e3,p3,q3⟩:=qji b3 l3;have two: ∀(l:List Int),qad l=true->8<=l.length->(qad l&&decide (8<=l.length))=true:=fun l h1 h2=>by rw[h1,decide_eq_true h2];rfl
  refine qak (two _ hb (by omega)) (qaq (by omega) (qak (two _ b1 l1) (qaq (by omega) (qak (two _ b2 l2) (qaq (by omega) (qak (two _ b3 l3) ?_))))));dsimp only;rw[e0,e1,e2,e3];rw[orN p0 p1,orN p2 p3,orN (za9 p0 p1) (za9 p2 p3)];rw[show(9259542123273814144:Int)=(MASK:Int) from rfl,andN (za9 (za9 p0 p1) (za9 p2 p3)) (by decide)];refine qae (fun hz=>qaq (by omega) ?_) fun _=>hA l hL hb hv;have hz:((n0||| n1)||| (n2||| n3))&&&MASK=0:=by omega
  rw[qkr,qkr,qkr] at hz;have hasc:=qqs (qqs (qqs (q0 hz.1.1) (q1 hz.1.2)) (q2 hz.2.1)) (q3 hz.2.2);exact xbh2 A R L v hA f _ (by simp only[zar];omega) (by simp only[zar];omega) (qa9 hb 32) ((qnb 32 l hasc).trans hv)
def xbor(n s lo hi:Int):Bool:=
 decide ((s=1/\(n<194\/244<n))\/(s=2/\194<=n/\n<=223/\lo=128/\hi=191)\/(s=3/\224<=n/\n<=239/\lo=(if n=224 then 160 else 128)/\hi=(if n=237 then 159 else 191))\/
  (s=4/\240<=n/\n<=244/\lo=(if n=240 then 144 else 128)/\hi=(if n=244 then 143 else 191)))
def tabB(n:Nat):Bool:=match qhp[n]? with
 | some f=>match ql5[(Int.fdiv f (2 ^ 4)).toNat]? with
  | some (.agg [.int .u8 lo,.int .u8 hi])=>decide (0<=Int.fdiv f (2 ^ 4)/\Int.fdiv f (2 ^ 4)<16)&&xbor n (IntKind.i64.wrap (IntKind.u8.wrap ((BitVec.ofInt 8 f&&&BitVec.ofInt 8 7).toNat))) lo hi
  | _=>false
 | none=>false
theorem xb2l: ∀n:Fin 256,128<=n.val->tabB n.val=true:=by decide+kernel
theorem xb6o{e:Int}(h1:128<=e)(h2:e<=255): ∃f lo hi,u8First[e.toNat]? =some f/\(0<=Int.fdiv f (2 ^ 4)/\Int.fdiv f (2 ^ 4)<16)/\u8Accept[(Int.fdiv f (2 ^ 4)).toNat]? =some (.agg [.int .u8 lo,.int .u8 hi])/\
  xbor e (IntKind.i64.wrap (IntKind.u8.wrap ((BitVec.ofInt 8 f&&&BitVec.ofInt 8 7).toNat))) lo hi=true:=by
 have h:=xb2l ⟨e.toNat,by omega⟩ (by simp;omega);simp only at h;unfold tabB at h;unfold u8First u8Accept;simp only[qab];split at h
 ·rename_i f hf;split at h
  ·rename_i lo hi ha;simp only[zab,decide_eq_true_eq] at h;refine⟨f,lo,hi,hf,h.1,ha, ?_⟩;rw[show e=(e.toNat:Int) by omega];exact h.2
  ·cases h
 ·cases h
theorem q6e{l:List Int}{k:Nat}{x:Int}(h:l[k]? =some x):u8At l k=decide (128<=x/\x<192):=by unfold u8At;rw[h]
theorem xb7n: ∀(f:Nat) (l:List Int),l.length<f->qad l=true->qid (zB false) (zB true) f l=zB (qc6 l)
 | 0,l,h,_=>by omega
 | f+1,l,hf,hb=>by
  have again: ∀l':List Int,l'.length<l.length->qad l'=true->qc6 l'=qc6 l->qid (zB false) (zB true) f l'=zB (qc6 l):=fun l' h1 h2 h3=>by rw[<- h3];exact xb7n f l' (by omega) h2
  show qph (qid (zB false) (zB true) f) (zB false) (zB true) l=_;generalize qid (zB false) (zB true) f=ag at again;have hl:=(qal hb).1;unfold qph
  cases l with
  | nil=>exact qcq (by simp) rfl
  | cons c r=>
  have hc:=qa5 hb (i:=0) (x:=c) rfl;have hbr:=qbw hb;simp only[zbu] at hbr;refine qaq (by simp only[zac];omega) (qaq (by simp only[zac];omega) ?_);simp only[zaq,zaj];refine qae (fun h7=>qaq (by simp only[zac];omega) ?_) fun h7=> ?_
  ·
   have hone:qc6 r=qc6 (c::r):=by rw[qkx (c::r),if_neg (by simp),qe1,if_pos h7,if_neg (by omega)];rfl
   rw[List.drop_one,zbu];have two: ∀(l:List Int),qad l=true->8<=l.length->(qad l&&decide (8<=l.length))=true:=fun l h1 h2=>by rw[h1,decide_eq_true h2];rfl
   refine qae (fun h8=>qak (two r hbr (by omega)) ?_) fun _=>again r (by simp) hbr hone;obtain⟨n0,e0,p0,q0⟩:=qji hbr (show 8<=r.length by omega);rw[e0,show(9259542123273814144:Int)=(MASK:Int) from rfl,andN p0 (by decide)];refine qae (fun hz=>qaq (by omega) ?_) fun _=>again r (by simp) hbr hone;have a0:=q0 (by omega);have hd8:=(qnb 8 r a0).trans hone;have hb8:=qa9 hbr 8;refine qae (fun h16=> ?_) fun _=>again _ (by simp only[zar,zac];omega) hb8 hd8;have hb16:=qa9 hb8 8;have l1:8<=(List.drop 8 r).length:=by omega
   have l2:8<=(List.drop 8 (List.drop 8 r)).length:=by rw[zar];omega
   obtain⟨n1,e1,p1,q1⟩:=qji hb8 l1;obtain⟨n2,e2,p2,q2⟩:=qji hb16 l2;refine qak (two _ hb8 l1) (qaq (by omega) (qak (two _ hb16 l2) ?_));rw[e1,e2,orN p1 p2,andN (za9 p1 p2) (by decide)];refine qae (fun hz=>qaq (by omega) ?_) fun _=>again _ (by simp only[zar,zac];omega) hb8 hd8;have hz:(n1||| n2)&&&MASK=0:=by omega
   rw[qkr] at hz;have a12:=qqs (q1 hz.1) (q2 hz.2);have hb24:=qa9 hb8 16;have hd24:=(qnb 16 _ a12).trans hd8;rw[qab];exact xbh2 ag _ (List.drop 16 (List.drop 8 r)).length (qc6 (c::r)) (fun l' h1 h2 h3=>again l' (by simp only[zar,zac] at h1 ⊢;omega) h2 h3) FUEL _ (by simp only[zac] at hl;simp only[zar];unfold FUEL;omega) (zas _) hb24 hd24
  ·obtain⟨fv,lo,hi,t1,t2,t3,t4⟩:=xb6o (e:=c) (by omega) hc.2;refine qaq (by omega) (qaq (by omega) ?_);simp only[t1,zaj];refine qaq t2.1 (qaq t2.2 ?_);simp only[t3,zaj];refine qak rfl ?_;generalize IntKind.i64.wrap (IntKind.u8.wrap ((BitVec.ofInt 8 fv&&&BitVec.ofInt 8 7).toNat))=s at t4 ⊢;have t4:=of_decide_eq_true t4;show cond (decide (s=2)) _ _=_;simp only[show qfp ((cell1 (CV.agg [.int .u8 lo,.int .u8 hi])).headD .nili)=lo from rfl,show qfp ((cell1 (CV.agg [.int .u8 lo,.int .u8 hi])).tail.headD .nili)=hi from rfl];have bad:qd4 (c::r)=0->(zB false:Option Out)=zB (qc6 (c::r)):=fun h=>by rw[qkx (c::r),if_neg (by simp),if_pos h]
   have good: ∀k:Nat,0<k->qd4 (c::r)=k->k<=(c::r).length->ag ((c::r).drop k)=zB (qc6 (c::r)):=fun k h0 h hk=>by refine again _ (by simp only[zar,zac] at hk ⊢;omega) (qa9 hb k) ?_;rw[qkx (c::r),if_neg (by simp),if_neg (by omega),h];rfl
   have hx: ∀k,k<r.length->∃x,r[k]? =some x/\0<=x/\x<=255:=fun k hk=>by obtain⟨x,hx⟩:=qb3 (b:=r) hk;exact⟨x,hx,qa5 hbr hx⟩
   have hnone: ∀k,r.length<=k-> ¬u8At r k=true:=fun k hk=>by unfold u8At;rw[zbg hk];simp
   have hf: ∀(k:Nat) (x:Int),r[k]? =some x->(x<128\/191<x)-> ¬u8At r k=true:=fun k x hx h=>by rw[q6e hx,decide_eq_true_eq];omega
   have ht: ∀(k:Nat) (x:Int),r[k]? =some x->128<=x->x<=191->u8At r k=true:=fun k x hx h h'=>by rw[q6e hx,decide_eq_true_eq];omega
   have hd: ∀x,r[0]? =some x->r.headD 0=x:=fun x hx=>by cases r with|nil=>cases hx|cons y t=>simpa using hx
   simp only[zac] at good ⊢;rcases t4 with⟨rfl,hn⟩|⟨rfl,hn1,hn2,rfl,rfl⟩|⟨rfl,hn1,hn2,hlo,hhi⟩|⟨rfl,hn1,hn2,hlo,hhi⟩
   ·refine qcq (by omega) (qcq (by omega) (qcq (by omega) (bad ?_)));rw[qe1,if_neg h7,if_neg (by omega),if_neg (by omega),if_neg (by omega)]
   ·have zero: ¬u8At r 0=true->qd4 (c::r)=0:=fun h=>by rw[qe1,if_neg h7,if_neg (fun h'=>h h'.2.2),if_neg (by omega),if_neg (by omega)]
    refine qaq rfl (qae (fun hs=>bad (zero (hnone 0 (by omega)))) fun hs=> ?_);obtain⟨x,hx0,hxr⟩:=hx 0 (by omega);simp only[za0,hx0,zaj];refine qaq (by omega) (qae (fun hs=>bad (zero (hf 0 x hx0 (by omega)))) fun hs1=>qaq (by omega) (qae (fun hs=>bad (zero (hf 0 x hx0 (by omega)))) fun hs2=>qaq (by omega) ?_));exact good 2 (by omega) (by rw[qe1,if_neg h7,if_pos ⟨hn1,hn2,ht 0 x hx0 (by omega) (by omega)⟩];rfl) (by omega)
   ·have zero: ¬(u8At r 0=true/\u8At r 1=true/\(c=224->160<=r.headD 0)/\(c=237->r.headD 0<160))->qd4 (c::r)=0:=fun h=>by rw[qe1,if_neg h7,if_neg (by omega),if_neg (fun h'=>h h'.2.2),if_neg (by omega)]
    refine qcq (by omega) (qaq rfl (qae (fun hs=>bad (zero fun h=>hnone 1 (by omega) h.2.1)) fun hs=> ?_));obtain⟨x,hx0,hxr⟩:=hx 0 (by omega);obtain⟨y,hy0,hyr⟩:=hx 1 (by omega);have hdx:=hd x hx0;simp only[za0,hx0,hy0,zaj];have zx:(x<lo\/hi<x)->qd4 (c::r)=0:=fun hh=>zero fun h=>by have h1:=h.1;rw[q6e hx0,decide_eq_true_eq] at h1;rw[hdx] at h;have:=h.2.2.1;have:=h.2.2.2;rw[hlo,hhi] at hh;split at hh<;>split at hh<;>omega
    refine qaq (by omega) (qae (fun hs=>bad (zx (.inl hs))) fun hs1=>qaq (by omega) (qae (fun hs=>bad (zx (.inr hs))) fun hs2=> ?_));refine qaq (by omega) (qae (fun hs=>bad (zero fun h=>hf 1 y hy0 (by omega) h.2.1)) fun hs3=>qaq (by omega) (qae (fun hs=>bad (zero fun h=>hf 1 y hy0 (by omega) h.2.1)) fun hs4=>qaq (by omega) ?_));refine good 3 (by omega) ?_ (by omega);rw[hlo] at hs1;rw[hhi] at hs2;rw[qe1,if_neg h7,if_neg (by omega),if_pos ⟨hn1,hn2,ht 0 x hx0 (by split at hs1<;>omega) (by split at hs2<;>omega),ht 1 y hy0 (by omega) (by omega),fun e=>by rw[if_pos e] at hs1;rw[hdx];omega,fun e=>by rw[if_pos e] at hs2;rw[hdx];omega⟩];rfl
   ·have zero: ¬(u8At r 0=true/\u8At r 1=true/\u8At r 2=true/\(c=240->144<=r.headD 0)/\(c=244->r.headD 0<144))->qd4 (c::r)=0:=fun h=>by rw[qe1,if_neg h7,if_neg (by omega),if_neg (by omega),if_neg (fun h'=>h h'.2.2)]
    refine qcq (by omega) (qcq (by omega) (qaq rfl (qae (fun hs=>bad (zero fun h=>hnone 2 (by omega) h.2.2.1)) fun hs=> ?_)));obtain⟨x,hx0,hxr⟩:=hx 0 (by omega);obtain⟨y,hy0,hyr⟩:=hx 1 (by omega);obtain⟨z,hz0,hzr⟩:=hx 2 (by omega);have hdx:=hd x hx0;simp only[za0,hx0,hy0,hz0,zaj];have zx:(x<lo\/hi<x)->qd4 (c::r)=0:=fun hh=>zero fun h=>by have h1:=h.1;rw[q6e hx0,decide_eq_true_eq] at h1;rw[hdx] at h;have:=h.2.2.2.1;have:=h.2.2.2.2;rw[hlo,hhi] at hh;split at hh<;>split at hh<;>omega
    refine qaq (by omega) (qae (fun hs=>bad (zx (.inl hs))) fun hs1=>qaq (by omega) (qae (fun hs=>bad (zx (.inr hs))) fun hs2=> ?_));refine qaq (by omega) (qae (fun hs=>bad (zero fun h=>hf 1 y hy0 (by omega) h.2.1)) fun hs3=>qaq (by omega) (qae (fun hs=>bad (zero fun h=>hf 1 y hy0 (by omega) h.2.1)) fun hs4=> ?_));refine qaq (by omega) (qae (fun hs=>bad (zero fun h=>hf 2 z hz0 (by omega) h.2.2.1)) fun hs5=>qaq (by omega) (qae (fun hs=>bad (zero fun h=>hf 2 z hz0 (by omega) h.2.2.1)) fun hs6=>qaq (by omega) ?_));refine good 4 (by omega) ?_ (by omega);rw[hlo] at hs1;rw[hhi] at hs2;rw[qe1,if_neg h7,if_neg (by omega),if_neg (by omega),if_pos ⟨hn1,hn2,ht 0 x hx0 (by split at hs1<;>omega) (by split at hs2<;>omega),ht 1 y hy0 (by omega) (by omega),ht 2 z hz0 (by omega) (by omega),fun e=>by rw[if_pos e] at hs1;rw[hdx];omega,fun e=>by rw[if_pos e] at hs2;rw[hdx];omega⟩];rfl
theorem xbzj(b:List Int)(hp:qad b=true):xbnf b=zB (u8Valid b):=by unfold xbnf u8Valid;simp only[qab];refine qak (by simp) (qaq (by omega) ?_);rw[show((b.length:Int)).toNat=b.length from rfl,zc2];exact xb7n FUEL b (by have:=(qal hp).1;unfold FUEL;omega) hp
open IntWalk (i64_in u8_in u32_in u64_in i64_quo u8_quo rem_in)
theorem xbr4: ∀(k:Fin 8) (n:Fin 256),(IntKind.u8.wrap ((BitVec.ofInt 8 (n.val:Int)&&&BitVec.ofInt 8 (IntKind.u8.wrap (IntKind.u8.wrap (1*2 ^ (min k.val 8)) - 1))).toNat)=0)=((n.val:Int) % 2 ^ k.val=0):=by decide+kernel
theorem xbj8: ∀(k:Fin 8) (n:Fin 256),IntKind.u8.wrap (1*2 ^ (min k.val 8))≠0/\(Int.tmod (n.val:Int) (IntKind.u8.wrap (1*2 ^ (min k.val 8)))=0)=((n.val:Int) % 2 ^ k.val=0):=by decide+kernel
theorem xbe6(y:Int)(r:List Int)(x:Int):(x::y::r)[(r.length+1)]? =some ((y::r).getLast (by simp)):=by rw[za0,List.getLast_eq_getElem];simp
theorem xbyr(b:List Int)(hp:qad b=true):xbmv b=zB (qit b):=by
 unfold xbmv qit;rw[qab]
 match b,hp with
 | [],_=>rfl
 | [x],hp=>
  have hx:=qa5 hp (i:=0) (x:=x) rfl;refine qcq (by simp) (qaq (by simp) ?_);simp only[zaq,zaj];refine qae (fun h=>qa7 ?_) fun h=>qaq (by simp) (qaq (by simp) rfl);exact(decide_eq_false (by omega)).symm
 | x::y::r,hp=>
  have hx:=qa5 hp (i:=0) (x:=x) rfl;have hl:=(qal hp).1;have hg:=xbe6 y r x;have hz:=qa5 hp hg;simp only[zac] at hl;simp only[qqu];generalize (y::r).getLast (by simp)=z at*;refine qcq (by simp only[zac];omega) (qaq (by simp only[zac];omega) ?_);simp only[zaq,zaj];refine qae (fun h=>qa7 ?_) fun h=>qcq (by simp only[zac];omega) ?_
  ·rw[show decide (x<=7)=false from decide_eq_false (by omega)];rfl
  ·rw[show IntKind.i64.wrap ((((x::y::r).length:Nat):Int) - 1)=((r.length+1:Nat):Int) from(i64_in ((((x::y::r).length:Nat):Int) - 1) (by simp only[zac];omega)).trans (by simp only[zac];omega)];refine qaq (by omega) (qaq (by simp only[zac];omega) ?_);rw[show(((r.length+1:Nat):Int)).toNat=r.length+1 from rfl,hg,zaj];refine qaq (by simp only[zac];omega) (qcq (by omega) (qa7 ?_));have:=xbr4 ⟨x.toNat,by omega⟩ ⟨z.toNat,by omega⟩;simp only[zda hz.1] at this;rw[show decide (x<=7)=true from decide_eq_true (by omega),zbt];rw[zbj];simp only[decide_eq_true_eq];rw[this]
theorem xbkk(b:List Int)(hp:qad b=true):q6y b=zB (qit b):=by
 unfold q6y qit;rw[qab]
 match b,hp with
 | [],_=>rfl
 | [x],hp=>
  have hx:=qa5 hp (i:=0) (x:=x) rfl;refine qcq (by simp) (qaq (by simp) ?_);simp only[zaq,zaj];refine qae (fun h=>qa7 ?_) fun h=>qaq (by simp) (qaq (by simp) rfl);exact(decide_eq_false (by omega)).symm
 | x::y::r,hp=>
  have hx:=qa5 hp (i:=0) (x:=x) rfl;have hl:=(qal hp).1;have hg:=xbe6 y r x;have hz:=qa5 hp hg;simp only[zac] at hl;simp only[qqu];generalize (y::r).getLast (by simp)=z at*;refine qcq (by simp only[zac];omega) (qaq (by simp only[zac];omega) ?_);simp only[zaq,zaj];refine qae (fun h=>qa7 ?_) fun h=>qcq (by simp only[zac];omega) ?_
  ·rw[show decide (x<=7)=false from decide_eq_false (by omega)];rfl
  ·rw[show IntKind.i64.wrap ((((x::y::r).length:Nat):Int) - 1)=((r.length+1:Nat):Int) from(i64_in ((((x::y::r).length:Nat):Int) - 1) (by simp only[zac];omega)).trans (by simp only[zac];omega)];refine qaq (by omega) (qaq (by simp only[zac];omega) ?_);rw[show(((r.length+1:Nat):Int)).toNat=r.length+1 from rfl,hg,zaj];have:=xbj8 ⟨x.toNat,by omega⟩ ⟨z.toNat,by omega⟩;simp only[zda hz.1] at this;refine qaq (by simp only[zac];omega) (qcq (by omega) (qcq this.1 (qa7 ?_)));rw[show decide (x<=7)=true from decide_eq_true (by omega),zbt];rw[zbj];simp only[decide_eq_true_eq];rw[this.2]
theorem or7{n x:Int}(h0:0<=n)(h1:n<72057594037927936)(h2:0<=x)(h3:x<=127):((BitVec.ofInt 64 (n*128)||| BitVec.ofInt 64 x).toNat:Int)=n*128+x:=by
 obtain⟨a,rfl⟩: ∃a:Nat,n=a:=⟨n.toNat,by omega⟩;obtain⟨b,rfl⟩: ∃b:Nat,x=b:=⟨x.toNat,by omega⟩;rw[zdt];have e1:(BitVec.ofInt 64 ((a:Int)*128)).toNat=2 ^ 7*a:=by rw[zcr];omega
 have e2:(BitVec.ofInt 64 (b:Int)).toNat=b:=by rw[zcr];omega
 rw[e1,e2, <- Nat.two_pow_add_eq_or_of_lt (by omega:b<2 ^ 7)];omega
theorem and7: ∀n:Fin 256,IntKind.u8.wrap ((BitVec.ofInt 8 (n.val:Int)&&& ~~~ BitVec.ofInt 8 128).toNat)=(n.val:Int) % 128/\(IntKind.u8.wrap ((BitVec.ofInt 8 (n.val:Int)&&&BitVec.ofInt 8 128).toNat)=0)=((n.val:Int)<128):=by decide+kernel
theorem xbs6(b:List Int)(hb:qad b=true): ∀(f i:Nat) (n:Int),i<=b.length->b.length<f+i->0<=n->n<4294967296->
  qh4 (fun _ _ _ _ _ _ _ _ _ _ _ _ _ _ _=>zR [.cl (.int .u32 0),.cl (.int .i64 0)] []) (fun _ _ _ _ _ _ _ _ _ _ _ _ _ _ _ _ _=>zR [.cl (.int .u32 0),.cl (.int .i64 0)] []) (fun y33 y34 _ _ _ _ _ _ _ _ _ _ _ _ _ _ _ _ _ _ _ _ _ _ _ _ _ _ _ _ _=>zR [.cl (.int .u32 y33),.cl (.int .i64 y34)] []) (fun _ _ _ _ _ _ _ _ _ _ _ _ _ _=>zR [.cl (.int .u32 0),.cl (.int .i64 0)] [])
   (fun y33 y34 _ _ _ _ _ _ _ _ _ _ _ _ _ _ _ _ _ _ _ _ _ _ _ _ _ _=>zR [.cl (.int .u32 y33),.cl (.int .i64 y34)] []) (fun _ _ _ _=>zR [.cl (.int .u32 0),.cl (.int .i64 0)] []) f n b (b.length:Int) i=zR [.cl (.int .u32 (qb9 n i (b.drop i)).1),.cl (.int .i64 (qb9 n i (b.drop i)).2)] []
 | 0,i,n,hi,hf,_,_=>by omega
 | f+1,i,n,hi,hf,h0,h1=>by
  show qi0 (qh4 (fun _ _ _ _ _ _ _ _ _ _ _ _ _ _ _=>zR [.cl (.int .u32 0),.cl (.int .i64 0)] []) (fun _ _ _ _ _ _ _ _ _ _ _ _ _ _ _ _ _=>zR [.cl (.int .u32 0),.cl (.int .i64 0)] []) (fun y33 y34 _ _ _ _ _ _ _ _ _ _ _ _ _ _ _ _ _ _ _ _ _ _ _ _ _ _ _ _ _=>zR [.cl (.int .u32 y33),.cl (.int .i64 y34)] []) (fun _ _ _ _ _ _ _ _ _ _ _ _ _ _=>zR [.cl (.int .u32 0),.cl (.int .i64 0)] [])
   (fun y33 y34 _ _ _ _ _ _ _ _ _ _ _ _ _ _ _ _ _ _ _ _ _ _ _ _ _ _=>zR [.cl (.int .u32 y33),.cl (.int .i64 y34)] []) (fun _ _ _ _=>zR [.cl (.int .u32 0),.cl (.int .i64 0)] []) f) _ _ _ _ _ _ n b (b.length:Int) i=_
  have hl:=(qal hb).1;unfold qi0;refine qae (fun h=>qaq (by omega) (qaq h ?_)) fun h=> ?_
  ·obtain⟨c,hc⟩:=qb3 (b:=b) (i:=i) (by omega);have hcr:=qa5 hb hc;rw[show(i:Int).toNat=i from rfl,hc,zaj,qdv hc];have a7:=and7 ⟨c.toNat,by omega⟩;simp only[zda hcr.1] at a7;have step: ∀(X:Option Out), ¬33554431<n-> ¬((i:Int)=0/\c=128)->(IntKind.u64.wrap (n*2 ^ 7)=n*128)/\IntKind.u64.wrap (IntKind.u8.wrap ((BitVec.ofInt 8 c&&& ~~~ BitVec.ofInt 8 128).toNat))=c % 128/\IntKind.u64.wrap ((BitVec.ofInt 64 (n*128)||| BitVec.ofInt 64 (c % 128)).toNat)=n*128+c % 128/\
     qb9 n i (c::b.drop (i+1))=if c<128 then(n*128+c,(i:Int)+1) else qb9 (n*128+(c - 128)) ((i:Int)+1) (b.drop (i+1)):=fun X g1 g2=>by
    refine⟨(u64_in _ (by omega)).trans (by omega), ?_, ?_, ?_⟩
    ·rw[a7.1];exact u64_in _ (by omega)
    ·rw[or7 h0 (by omega) (by omega) (by omega)];exact u64_in _ (by omega)
    ·conv=>lhs;unfold qb9
     rw[if_neg (by rintro(h|h);exact g2 h;exact g1 h)]
   have stop:((i:Int)=0/\c=128)\/33554431<n->(zR [.cl (.int .u32 0),.cl (.int .i64 0)] []:Option Out)=zR [.cl (.int .u32 (qb9 n i (c::b.drop (i+1))).1),.cl (.int .i64 (qb9 n i (c::b.drop (i+1))).2)] []:=fun h=>by unfold qb9;rw[if_pos h]
   have go: ∀(g1: ¬33554431<n) (g2: ¬((i:Int)=0/\c=128)) (R:Option Out) (K:Int->Int->Option Out) (A:Option Out),True:=fun _ _ _ _ _=>trivial;refine qae (fun hi0=>qae (fun h128=>stop (.inl ⟨hi0,h128⟩)) fun h128=>qae (fun hn=>stop (.inr hn)) fun hn=> ?_) fun hi0=>qae (fun hn=>stop (.inr hn)) fun hn=> ?_
   ·obtain⟨s1,s2,s3,s4⟩:=step none hn (by omega);dsimp only;rw[s1,s2,s3,s4];refine qae (fun hz=> ?_) fun hz=> ?_
    ·have hz:c<128:=by rwa [a7.2] at hz
     rw[if_pos hz,show c % 128=c by omega,show IntKind.u32.wrap (n*128+c)=n*128+c from u32_in _ (by omega),show IntKind.i64.wrap ((i:Int)+1)=(i:Int)+1 from i64_in _ (by omega)]
    ·have hz: ¬c<128:=by rwa [a7.2] at hz
     rw[if_neg hz,show c % 128=c - 128 by omega,show IntKind.i64.wrap ((i:Int)+1)=((i+1:Nat):Int) from(i64_in _ (by omega)).trans (by omega)];exact xbs6 b hb f (i+1) _ (by omega) (by omega) (by omega) (by omega)
   ·obtain⟨s1,s2,s3,s4⟩:=step none hn (by omega);dsimp only;rw[s1,s2,s3,s4];refine qae (fun hz=> ?_) fun hz=> ?_
    ·have hz:c<128:=by rwa [a7.2] at hz
     rw[if_pos hz,show c % 128=c by omega,show IntKind.u32.wrap (n*128+c)=n*128+c from u32_in _ (by omega),show IntKind.i64.wrap ((i:Int)+1)=(i:Int)+1 from i64_in _ (by omega)]
    ·have hz: ¬c<128:=by rwa [a7.2] at hz
     rw[if_neg hz,show c % 128=c - 128 by omega,show IntKind.i64.wrap ((i:Int)+1)=((i+1:Nat):Int) from(i64_in _ (by omega)).trans (by omega)];exact xbs6 b hb f (i+1) _ (by omega) (by omega) (by omega) (by omega)
  ·rw[qes (by omega)];rfl
theorem xbsm(b:List Int)(hp:qad b=true):xbd8 b=zR [.cl (.int .u32 (qgc b).1),.cl (.int .i64 (qgc b).2)] []:=by unfold xbd8 qgc;simp only[qab];exact xbs6 b hp FUEL 0 0 (by omega) (by have:=(qal hp).1;unfold FUEL;omega) (by omega) (by omega)
theorem xbkg(b:List Int)(hp:true=true):xbjq b=zR [.fn (.func 189) [] [.ptr 0 0 0]] [some ⟨.var [.cl (.sli .u8 b)],false⟩]:=rfl
open IntWalk (i64_in u8_in u32_in u64_in i64_quo u8_quo rem_in)
theorem qy3: ∀(b:List Int) (n i:Int),(∀x∈b,0<=x/\x<=255)->0<=n->0<=i->(0<=(qb9 n i b).1/\(qb9 n i b).1<=4294967295)/\((qb9 n i b).2=0\/i<(qb9 n i b).2/\(qb9 n i b).2<=i+b.length)
 | [],n,i,_,_,_=>by simp[qb9]
 | c::r,n,i,hb,hn,hi=>by
  have hc:=hb c (by simp);unfold qb9;split
  ·simp
  ·rename_i h;split
   ·exact⟨by omega,.inr (by simp only[zac];omega)⟩
   ·have:=qy3 r (n*128+(c - 128)) (i+1) (fun x hx=>hb x (by simp[hx])) (by omega) (by omega);refine⟨this.1,this.2.imp id fun h=> ?_⟩;simp only[zac];omega
theorem qie{b:List Int}(hb:qad b=true):(0<=(qao b).1/\(qao b).1<=4294967295)/\((qao b).2=0\/0<(qao b).2/\(qao b).2<=b.length):=by have:=qy3 b 0 0 (qal hb).2 (by omega) (by omega);unfold qao;exact⟨this.1,this.2.imp id fun h=>by omega⟩
theorem q7z: ∀(n m:Nat) (b:List Int),qad b=true->b.length<=n->b.length<=m->qds n b=qds m b
 | 0,0,b,_,_,_=>rfl
 | 0,m+1,b,_,h,_=>by have:b=[]:=zak (by omega);subst this;simp[qds]
 | n+1,0,b,_,_,h=>by have:b=[]:=zak (by omega);subst this;simp[qds]
 | n+1,m+1,b,hb,h1,h2=>by
  unfold qds;by_cases h:b=[]
  ·rw[if_pos h,if_pos h]
  ·rw[if_neg h,if_neg h];by_cases h0:(qao b).2=0
   ·rw[if_pos h0,if_pos h0]
   ·rw[if_neg h0,if_neg h0];have:=(qie hb).2;rw[q7z n m _ (qa9 hb _) (by simp only[zar];omega) (by simp only[zar];omega)]
theorem q70{b:List Int}(hb:qad b=true):qc5 b=if b=[] then[] else if(qao b).2=0 then[((qao b).1,false)] else((qao b).1,true)::qc5 (b.drop (qao b).2.toNat):=by
 unfold qc5
 cases b with
 | nil=>rfl
 | cons c r=>
  rw[if_neg (by simp)]
  conv=>lhs;rw[zac];unfold qds
  rw[if_neg (by simp)];by_cases h0:(qao (c::r)).2=0
  ·rw[if_pos h0,if_pos h0]
  ·rw[if_neg h0,if_neg h0];have:=(qie hb).2;rw[q7z _ _ _ (qa9 hb _) (by simp only[zar,zac] at*;omega) (zas _)]
def xbtn(p:Int×Bool):List CV:=[.int .u32 p.1,.bool p.2]
theorem xb69(l:Nat): ∀(f:Nat) (b:List Int),qad b=true->b.length<f->∃out,qll l
  (fun _ _ _ _ _ _ _ _ _ _ _ _ _ _ y15=>zR [] [some ⟨.var [.cl (.sli .u8 y15)],false⟩]) (fun _ _ _ _ _ _ _ _ _ _ _ _ _ _ _ _ y32=>zR [] [some ⟨.var [.cl (.sli .u8 y32)],false⟩]) (fun _ _ y35=>zR [] [some ⟨.var [.cl (.sli .u8 y35)],false⟩]) f b=some out/\Hands out (some ((qc5 b).map xbtn))
 | 0,b,_,h=>by omega
 | f+1,b,hb,hf=>by
  have ih:=fun b' h1 h2=>xb69 l f b' h1 h2;generalize hag:qll l (fun _ _ _ _ _ _ _ _ _ _ _ _ _ _ y15=>zR [] [some ⟨.var [.cl (.sli .u8 y15)],false⟩]) (fun _ _ _ _ _ _ _ _ _ _ _ _ _ _ _ _ y32=>zR [] [some ⟨.var [.cl (.sli .u8 y32)],false⟩]) (fun _ _ y35=>zR [] [some ⟨.var [.cl (.sli .u8 y35)],false⟩]) f=ag at ih;have e:qll l (fun _ _ _ _ _ _ _ _ _ _ _ _ _ _ y15=>zR [] [some ⟨.var [.cl (.sli .u8 y15)],false⟩]) (fun _ _ _ _ _ _ _ _ _ _ _ _ _ _ _ _ y32=>zR [] [some ⟨.var [.cl (.sli .u8 y32)],false⟩]) (fun _ _ y35=>zR [] [some ⟨.var [.cl (.sli .u8 y35)],false⟩]) (f+1) b=
    qns l ag (fun _ _ _ _ _ _ _ _ _ _ _ _ _ _ y15=>zR [] [some ⟨.var [.cl (.sli .u8 y15)],false⟩]) (fun _ _ _ _ _ _ _ _ _ _ _ _ _ _ _ _ y32=>zR [] [some ⟨.var [.cl (.sli .u8 y32)],false⟩]) (fun _ _ y35=>zR [] [some ⟨.var [.cl (.sli .u8 y35)],false⟩]) b:=by rw[<- hag];rfl
  rw[e];unfold qns;rw[q70 hb];by_cases h:b=[]
  ·subst h;exact⟨_,qcq (by simp) rfl,.inl rfl⟩
  ·have hlen:0<b.length:=List.length_pos_iff.2 h;rw[if_neg h];have hr:=qie hb;have e1:qgc b=qao b:=by unfold qgc;rw[qab]
   rw[e1];by_cases h0:(qao b).2=0
   ·rw[if_pos h0];refine⟨.yld [.int .u32 (qao b).1,.bool (decide ((0:Int)<(qao b).2))] (.ret [] [some ⟨.var [.cl (.sli .u8 b)],false⟩]) (.ret [] [some ⟨.var [.cl (.sli .u8 b)],false⟩]),qaq (by omega) (qak hb (qak (zbf l) ?_)), ?_⟩
    ·dsimp only;rw[decide_eq_true h0];rfl
    ·refine⟨?_,.inr rfl,.inl rfl⟩;show[CV.int .u32 (qao b).1,.bool (decide ((0:Int)<(qao b).2))]=[.int .u32 (qao b).1,.bool false];rw[decide_eq_false (by omega)]
   ·rw[if_neg h0];obtain⟨out,g1,g2⟩:=ih (b.drop (qao b).2.toNat) (qa9 hb _) (by simp only[zar];omega);refine⟨.yld [.int .u32 (qao b).1,.bool (decide ((0:Int)<(qao b).2))] (.ret [] [some ⟨.var [.cl (.sli .u8 b)],false⟩]) out,qaq (by omega) (qak hb (qak (zbf l) ?_)), ?_⟩
    ·dsimp only;rw[decide_eq_false h0];show yldO _ _ (cond (decide ((0:Int)<=(qao b).2)) (cond (decide ((qao b).2<=(b.length:Int))) (ag (List.drop (Int.toNat (qao b).2) b)) none) none)=_;rw[decide_eq_true (show(0:Int)<=(qao b).2 by omega),decide_eq_true (show(qao b).2<=(b.length:Int) by omega)];simp only[cond_true];rw[g1];rfl
    ·refine⟨?_,.inr rfl,g2⟩;show[CV.int .u32 (qao b).1,.bool (decide ((0:Int)<(qao b).2))]=[.int .u32 (qao b).1,.bool true];rw[decide_eq_true (by omega)]
theorem xb42(l:Nat)(b:List Int)(hp:qad b=true): ∃out,xbrg l b=some out/\Hands out (some (qtj (qvt b))):=by unfold xbrg qtj qvt;simp only[qab];obtain⟨out,h1,h2⟩:=xb69 l FUEL b hp (by have:=(qal hp).1;unfold FUEL;omega);exact⟨out,by rw[zbf,cond_true];exact h1,h2⟩
theorem xbje{n:Int}(h0:0<=n)(h1:n<=4294967295): ∃x,cond (decide ((2:Int)<n/ 40)) 2 (n/ 40)=x/\0<=x/\x<=2/\ [x,n - 40*x]=qb5 n/\0<=n - 40*x:=by
 unfold qb5;by_cases h:n<80
 ·rw[if_pos h,decide_eq_false (by omega)];exact⟨n/ 40,rfl,by omega,by omega,by simp;omega,by omega⟩
 ·rw[if_neg h];by_cases h2:2<n/ 40
  ·rw[decide_eq_true h2];exact⟨2,rfl,by omega,by omega,by simp,by omega⟩
  ·rw[decide_eq_false h2];exact⟨n/ 40,rfl,by omega,by omega,by simp;omega,by omega⟩
theorem xb7k(R0:Option Out)(K:Nat->List Int->Option Out): ∀(ps:List (Int×Bool)) (o:List Int),(∀p∈ps,0<=p.1/\p.1<=4294967295)->o.length<=24->
  qii (fun _ _=>R0) K (ps.map xbtn) o.length o=match qum ps o with|some o'=>K o'.length o'| none=>R0
 | [],o,_,_=>rfl
 | (n,ok)::ps,o,hp,ho=>by
  have hn:=hp (n,ok) (by simp);have ih:=fun o' h=>xb7k R0 K ps o' (fun p hp'=>hp p (by simp[hp'])) h;show ql1 (qii (fun _ _=>R0) K (ps.map xbtn)) (fun _ _=>R0) K n ok o.length o=_;unfold ql1 qum
  cases ok with
  | false=>simp
  | true=>
   simp only[zc5,cond_false,Bool.true_eq_false,false_or];refine qae (fun h=> ?_) fun h=> ?_
   ·rw[if_pos (by omega)]
   ·rw[if_neg (by omega)];refine qae (fun h0=> ?_) fun h0=> ?_
    ·have:o=[]:=zak (by omega);subst this;rw[if_pos rfl];obtain⟨x,g1,g2,g3,g4,g5⟩:=xbje hn.1 hn.2;rw[show IntKind.u32.wrap (Int.tdiv n 40)=n/ 40 by rw[zb8 hn.1];exact u32_in _ (by simp only at hn;omega)];rw[g1,show IntKind.u32.wrap (40*x)=40*x from u32_in _ (by omega),show IntKind.u32.wrap (n - 40*x)=n - 40*x from u32_in _ (by simp only at hn;omega)];rw[za7,zbl,za7];rw[g4];have hlen:(qb5 n).length=2:=by rw[<- g4];rfl
     refine qdj (by simp) (qdj (by simp) (qdj (by rw[hlen];simp) (qdj (by rw[hlen];simp) (ih (qb5 n) (by omega)))))
    ·rw[if_neg (by intro e;subst e;simp at h0)];refine qdj (by simp only[zaf,zac,zbr];omega) (qdj (by simp only[zaf,zac,zbr];omega) (ih _ (by simp only[zaf,zac,zbr];omega)))
theorem q5d: ∀(n:Nat) (b:List Int),qad b=true->∀p∈qds n b,0<=p.1/\p.1<=4294967295
 | 0,b,_,p,hp=>by simp[qds] at hp
 | n+1,b,hb,p,hp=>by
  have hr:=(qie hb).1;unfold qds at hp;split at hp
  ·simp at hp
  ·split at hp
   ·simp at hp;subst hp;exact hr
   ·rcases zav.1 hp with rfl|hp
    ·exact hr
    ·exact q5d n _ (qa9 hb _) p hp
theorem xby0(b:List Int)(hp:qad b=true):xbd9 b=zR [.cl (.sli .u32 (qb6 b).1),.cl (.int .i64 (qb6 b).2)] []:=by
 unfold xbd9;refine qak hp (qak ?_ ?_)
 ·unfold qtj;rw[qab,List.all_map,zai];intro p _;rfl
 ·unfold qtj qvt qb6 qct qkp;simp only[qab];refine(xb7k _ _ (qc5 b) [] (q5d _ b hp) (by simp)).trans ?_
  cases qum (qc5 b) [] with
  | none=>rfl
  | some o=>
   show cond (!(qbs o)) _ _=_;cases h:qbs o<;>simp[h]
def qmf(o:List Int)(n:Int):List Int:=if o=[] then qb5 n else o++[n]
def qvz:Int->Bool->List Int->List Int->Option (List Int)
 | _,fresh,[],o=>if fresh=true then some o else none
 | n,fresh,c::r,o=>if fresh=true/\c=128 then none else if 4294967295<n*128+c % 128 then none else if c<128 then qvz 0 true r (qmf o (n*128+c % 128)) else qvz (n*128+c % 128) false r o
def quu:Option (List Int)->List Int×Int
 | some o=>if qbs o=true then(o,0) else([],5)
 | none=>([],5)
theorem xbgp(o:List Int)(n:Int):o.length<=(qmf o n).length:=by
 unfold qmf;split
 ·rename_i h;subst h;simp
 ·simp
theorem qzo: ∀(b:List Int) (n:Int) (fresh:Bool) (o o':List Int),qvz n fresh b o=some o'->o.length<=o'.length
 | [],n,fresh,o,o',h=>by
  unfold qvz at h;split at h
  ·simp at h;subst h;exact zas _
  ·cases h
 | c::r,n,fresh,o,o',h=>by
  unfold qvz at h;split at h
  ·cases h
  ·split at h
   ·cases h
   ·split at h
    ·exact zcd (xbgp o _) (qzo r _ _ _ _ h)
    ·exact qzo r _ _ _ _ h
theorem xbgu(n:Int)(fresh:Bool)(c:Int)(r o:List Int):qvz n fresh (c::r) o=if fresh=true/\c=128 then none else if 4294967295<n*128+c % 128 then none else if c<128 then qvz 0 true r (qmf o (n*128+c % 128)) else qvz (n*128+c % 128) false r o:=rfl
theorem qrb(n i c:Int)(r:List Int):qb9 n i (c::r)=if(i=0/\c=128)\/33554431<n then(0,0) else if c<128 then(n*128+c,i+1) else qb9 (n*128+(c - 128)) (i+1) r:=rfl
theorem q8e: ∀(b:List Int) (n i:Int) (fresh:Bool) (o:List Int),(∀x∈b,0<=x/\x<=255)->0<=n->0<=i->(fresh=true↔i=0)->(b=[]->fresh=false)->
  qvz n fresh b o=if(qb9 n i b).2=0 then none else qvz 0 true (b.drop ((qb9 n i b).2 - i).toNat) (qmf o (qb9 n i b).1)
 | [],n,i,fresh,o,_,_,_,_,h=>by simp[qvz,qb9,h rfl]
 | c::r,n,i,fresh,o,hb,hn,hi,hf,_=>by
  have hc:=hb c (by simp);rw[xbgu,qrb];by_cases h1:fresh=true/\c=128
  ·rw[if_pos h1,if_pos (show(i=0/\c=128)\/33554431<n from .inl ⟨hf.1 h1.1,h1.2⟩)];rfl
  ·rw[if_neg h1];by_cases h2:33554431<n
   ·rw[if_pos (by omega),if_pos (show(i=0/\c=128)\/33554431<n from .inr h2)];rfl
   ·rw[if_neg (by omega),if_neg (show ¬((i=0/\c=128)\/33554431<n) from fun h=>h.elim (fun h=>h1 ⟨hf.2 h.1,h.2⟩) h2)];by_cases h3:c<128
    ·rw[if_pos h3,if_pos h3,show c % 128=c by omega];simp only;rw[if_neg (by omega),show(i+1 - i).toNat=1 by omega];rfl
    ·rw[if_neg h3,if_neg h3,show c % 128=c - 128 by omega];rw[q8e r (n*128+(c - 128)) (i+1) false o (fun x hx=>hb x (by simp[hx])) (by omega) (by omega) (by simp;omega) (fun _=>rfl)];have hr:=qy3 r (n*128+(c - 128)) (i+1) (fun x hx=>hb x (by simp[hx])) (by omega) (by omega);by_cases h4:(qb9 (n*128+(c - 128)) (i+1) r).2=0
     ·rw[if_pos h4,if_pos h4]
     ·rw[if_neg h4,if_neg h4];have hr2:=hr.2.resolve_left h4;rw[show((qb9 (n*128+(c - 128)) (i+1) r).2 - i).toNat=((qb9 (n*128+(c - 128)) (i+1) r).2 - (i+1)).toNat+1 by omega,zcn]
theorem xbqw{o:List Int}(h:20<o.length):quu (some o)=([],5):=by
 unfold quu;have:qbs o=false:=by
  match o,h with
  | x::y::r,h=>simp only[qbs];simp only[zac] at h;rw[show decide (r.length<=18)=false from decide_eq_false (by omega)];rfl
  | [x],h=>simp at h
  | [],h=>simp at h
 show(if qbs o=true then(o,0) else([],5):List Int×Int)=_;rw[this];rfl
theorem xb0j: ∀(n:Nat) (b:List Int),qad b=true->b.length<=n->∀o,quu (qvz 0 true b o)=quu (qum (qds n b) o)
 | 0,b,_,h,o=>by have:b=[]:=zak (by omega);subst this;rfl
 | n+1,b,hb,h,o=>by
  unfold qds;by_cases he:b=[]
  ·subst he;rfl
  ·rw[if_neg he];have hr:=qie hb;have hnum:=q8e b 0 0 true o (qal hb).2 (by omega) (by omega) (by simp) (fun h=>absurd h he);rw[show qb9 0 0 b=qao b from rfl] at hnum;by_cases h0:(qao b).2=0
   ·rw[if_pos h0,hnum,if_pos h0];simp[qum]
   ·rw[if_neg h0,hnum,if_neg h0];have hr2:=hr.2.resolve_left h0
    conv=>rhs;unfold qum
    by_cases hlong:20<o.length
    ·rw[if_pos (.inr hlong)]
     cases hg:qvz 0 true (List.drop ((qao b).2 - 0).toNat b) (qmf o (qao b).1) with
     | none=>rfl
     | some o'=>
      rw[xbqw (by have:=qzo _ _ _ _ _ hg;have:=xbgp o (qao b).1;omega)];rfl
    ·rw[if_neg (by rintro(h|h);cases h;exact hlong h),Int.sub_zero];rw[xb0j n _ (qa9 hb _) (by simp only[zar];omega)];unfold qmf;split<;>rfl
theorem xb7h(b:List Int)(hb:qad b=true): ∀(f i:Nat) (n:Int) (fresh:Bool) (o:List Int),i<=b.length->b.length<f+i->0<=n->n<=4294967295->o.length<=2+i->
  qgj (fun _ _ _ _ _ _ _ _ _ _ _ _ _ _ _ _=>zR [.cl (.sli .u32 []),.cl (.int .i64 5)] []) (fun _ _ _ _ _ _ _ _ _ _ _ _ _ _ _ _ _ _ _ _ _ _ _ _ _ _ _ _ _ _ _ _ _=>zR [.cl (.sli .u32 []),.cl (.int .i64 5)] []) (fun _ _ _ _ _ _ _ _ _ _ _ _ _ _ _ _ _ _ _ _ _ _ _ _ _ _ _=>zR [.cl (.sli .u32 []),.cl (.int .i64 5)] [])
   (fun _ _ _ y80 _ _ _ _ y85=>cond (!y80) (zR [.cl (.sli .u32 []),.cl (.int .i64 5)] []) (let r86:Bool:=qkp y85;cond (!r86) (zR [.cl (.sli .u32 []),.cl (.int .i64 5)] []) (zR [.cl (.sli .u32 y85),.cl (.int .i64 0)] []))) f b o.length n fresh i o=
   zR [.cl (.sli .u32 (quu (qvz n fresh (b.drop i) o)).1),.cl (.int .i64 (quu (qvz n fresh (b.drop i) o)).2)] []
 | 0,i,n,fresh,o,hi,hf,_,_,_=>by omega
 | f+1,i,n,fresh,o,hi,hf,h0,h1,ho=>by
  have ih:=fun n fresh o h0 h1 ho hi=>xb7h b hb f (i+1) n fresh o hi (by omega) h0 h1 ho;have hl:=(qal hb).1;generalize hag:qgj (fun _ _ _ _ _ _ _ _ _ _ _ _ _ _ _ _=>zR [.cl (.sli .u32 []),.cl (.int .i64 5)] []) (fun _ _ _ _ _ _ _ _ _ _ _ _ _ _ _ _ _ _ _ _ _ _ _ _ _ _ _ _ _ _ _ _ _=>zR [.cl (.sli .u32 []),.cl (.int .i64 5)] []) (fun _ _ _ _ _ _ _ _ _ _ _ _ _ _ _ _ _ _ _ _ _ _ _ _ _ _ _=>zR [.cl (.sli .u32 []),.cl (.int .i64 5)] [])
   (fun _ _ _ y80 _ _ _ _ y85=>cond (!y80) (zR [.cl (.sli .u32 []),.cl (.int .i64 5)] []) (let r86:Bool:=qkp y85;cond (!r86) (zR [.cl (.sli .u32 []),.cl (.int .i64 5)] []) (zR [.cl (.sli .u32 y85),.cl (.int .i64 0)] []))) f=ag at ih
  show qi2 (qgj _ _ _ _ f) _ _ _ _ b o.length n fresh i o=_;rw[hag];unfold qi2;refine qae (fun h=> ?_) fun h=> ?_
  ·obtain⟨c,hc⟩:=qb3 (b:=b) (i:=i) (by omega);have hcr:=qa5 hb hc;rw[qdv hc];have ti:(i:Int).toNat=i:=rfl;have main:cond (decide ((4294967295:Int)<n*128+c % 128)) (zR [.cl (.sli .u32 []),.cl (.int .i64 5)] []) (cond (!(decide (c<128))) (ag b o.length (n*128+c % 128) (decide (c<128)) ((i+1:Nat):Int) o)
     (cond (decide ((o.length:Int)=0)) (cond (u32Ok (n*128+c % 128)) (cond (Nat.ble ((o++qg1 (n*128+c % 128)).length*4) LIMN) (cond (Nat.ble ((o++qg1 (n*128+c % 128)).length) LIMN) (ag b (o++qg1 (n*128+c % 128)).length 0 (decide (c<128)) ((i+1:Nat):Int) (o++qg1 (n*128+c % 128))) none) none) none)
      (cond (Nat.ble ((o++[IntKind.u32.wrap (n*128+c % 128)]).length*4) LIMN) (cond (Nat.ble ((o++[IntKind.u32.wrap (n*128+c % 128)]).length) LIMN) (ag b (o++[IntKind.u32.wrap (n*128+c % 128)]).length 0 (decide (c<128)) ((i+1:Nat):Int) (o++[IntKind.u32.wrap (n*128+c % 128)])) none) none)))=
     zR [.cl (.sli .u32 (quu (if 4294967295<n*128+c % 128 then none else if c<128 then qvz 0 true (b.drop (i+1)) (qmf o (n*128+c % 128)) else qvz (n*128+c % 128) false (b.drop (i+1)) o)).1),.cl (.int .i64 (quu (if 4294967295<n*128+c % 128 then none else if c<128 then qvz 0 true (b.drop (i+1)) (qmf o (n*128+c % 128)) else qvz (n*128+c % 128) false (b.drop (i+1)) o)).2)] []:=by
    refine qae (fun h2=> ?_) fun h2=> ?_
    ·rw[if_pos h2];rfl
    ·rw[if_neg h2];by_cases h3:c<128
     ·rw[if_pos h3,decide_eq_true h3];simp only[zc5,cond_false];unfold qmf;refine qae (fun h4=> ?_) fun h4=> ?_
      ·have:o=[]:=zak (by omega);subst this;rw[if_pos rfl];have hok:u32Ok (n*128+c % 128)=true:=by unfold u32Ok;rw[qab];exact decide_eq_true (by omega)
       have e1:qg1 (n*128+c % 128)=qb5 (n*128+c % 128):=by unfold qg1;rw[qab]
       have hlen:(qb5 (n*128+c % 128)).length=2:=by unfold qb5;split<;>rfl
       rw[e1,za7];exact qak hok (qdj (by rw[hlen];simp) (qdj (by rw[hlen];simp) (ih _ _ _ (by omega) (by omega) (by omega) (by omega))))
      ·rw[if_neg (by intro e;subst e;simp at h4),show IntKind.u32.wrap (n*128+c % 128)=n*128+c % 128 from u32_in _ (by omega)];refine qdj (by simp only[zaf,zac,zbr];omega) (qdj (by simp only[zaf,zac,zbr];omega) (ih _ _ _ (by omega) (by omega) (by simp only[zaf,zac,zbr];omega) (by omega)))
     ·rw[if_neg h3,decide_eq_false h3];simp only[Bool.not_false,cond_true];exact ih _ _ _ (by omega) (by omega) (by omega) (by omega)
   have wi:IntKind.i64.wrap ((i:Int)+1)=((i+1:Nat):Int):=(i64_in _ (by omega)).trans (by omega);have wn:IntKind.u64.wrap (n*128)=n*128:=u64_in _ (by omega);have wm:Int.tmod c 128=c % 128:=zb9 hcr.1;have wc:IntKind.u64.wrap (c % 128)=c % 128:=u64_in _ (by omega);have ws:IntKind.u64.wrap (n*128+c % 128)=n*128+c % 128:=u64_in _ (by omega)
   conv=>rhs;unfold qvz
   cases fresh with
   | true=>
    simp only[cond_true,true_and];refine qaq (by omega) (qaq h ?_);simp only[ti,hc,zaj];refine qae (fun h5=> ?_) fun h5=> ?_
    ·rw[if_pos h5];rfl
    ·rw[if_neg h5,wm,wc,wn,ws,wi];refine qaq (by omega) (qaq h (qaq (by omega) (qaq h main)))
   | false=>
    simp only[cond_false,zan,false_and,if_false];refine qaq (by omega) (qaq h ?_);simp only[ti,hc,zaj];rw[wm,wc,wn,ws,wi];exact qaq (by omega) (qaq h main)
  ·rw[qes (by omega)]
   cases fresh with
   | false=>rfl
   | true=>
    show cond (!true) _ (cond (!(qkp o)) _ _)=_;unfold qkp;rw[qab];show _=zR [.cl (.sli .u32 (if qbs o=true then(o,0) else([],5):List Int×Int).1),.cl (.int .i64 (if qbs o=true then(o,0) else([],5):List Int×Int).2)] [];cases qbs o<;>rfl
theorem xbsq(b:List Int)(hp:qad b=true):xbee b=zR [.cl (.sli .u32 (qb6 b).1),.cl (.int .i64 (qb6 b).2)] []:=by
 unfold xbee qb6;simp only[qab];refine(xb7h b hp FUEL 0 0 true [] (by omega) (by have:=(qal hp).1;unfold FUEL;omega) (by omega) (by omega) (by simp)).trans ?_;rw[zbx,xb0j b.length b hp (zas _)];have:quu (qum (qds b.length b) [])=qct b:=by unfold quu qct qc5;rfl
 rw[this]
open IntWalk (i64_in u8_in u32_in u64_in i64_quo u8_quo rem_in)
theorem qhz{n:Int}(h:qc2 n=true):0<=n/\n<=1000:=by unfold qc2 at h;rw[qab] at h;exact of_decide_eq_true h
theorem qf8{n:Int}(h:0<=n/\n<=1000):qc2 n=true:=by unfold qc2;rw[qab];exact decide_eq_true h
theorem xbyn(tag:Int)(b:List Int)(hp:qad b=true):xbwf tag b=zB (qc3 tag b):=by
 unfold xbwf qc3 qbi qf9 qit qb6 u8Valid;simp only[qab];refine qae (fun h=> ?_) fun h=> ?_
 ·rw[if_pos h]
  match b,hp with
  | [],_=>rfl
  | [x],_=>
   refine qaq (by simp) (qaq (by simp) ?_);simp only[zaq,zaj];refine qae (fun h=>qa7 ?_) fun h=>qaq (by simp) (qa7 ?_)
   ·simp[h]
   ·simp[h]
  | x::y::r,_=>exact qcq (by simp only[zac];omega) (qa7 (by simp))
 ·rw[if_neg h];refine qae (fun h=> ?_) fun h=> ?_
  ·rw[if_pos h];exact qak hp rfl
  ·rw[if_neg h];refine qae (fun h=> ?_) fun h=> ?_
   ·rw[if_pos h];exact qak hp rfl
   ·rw[if_neg h];refine qae (fun h=> ?_) fun h=> ?_
    ·rw[if_pos h];refine qa7 ?_;rw[zbj];simp only[decide_eq_true_eq];cases b<;>simp;omega
    ·rw[if_neg h];refine qae (fun h=> ?_) fun h=> ?_
     ·rw[if_pos h];exact qak hp rfl
     ·rw[if_neg h];refine qae (fun h=> ?_) fun h=> ?_
      ·rw[if_pos h];exact qak hp rfl
      ·rw[if_neg h];refine qae (fun h=> ?_) fun h=> ?_
       ·rw[if_pos h]
       ·rw[if_neg h]
theorem xb49(tag:Int)(b:List Int)(hp:qad b=true):xb3y tag b=zB (qc3 tag b):=xbyn tag b hp
theorem qvg{l:List Int}(hb:qad l=true):0<=(qac l).1/\(qac l).1<16777216/\0<=(qac l).2/\(qac l).2<=4/\(qac l).2<=l.length:=by
 match l,hb with
 | [],_=>decide
 | c::t,hb=>
  have hc:=qa5 hb (i:=0) (x:=c) rfl;have ht:=(qal (qbw hb)).2;simp only[zbu] at ht;rw[qbx];split
  ·simp only[zac];omega
  ·split
   ·simp only[zac];omega
   ·split
    ·simp only[zac];omega
    ·have:=qva ht (j:=(c - 128).toNat) (by omega);simp only[zac];omega
def parse1(P:List Int->Int×Nd×Int)(t:Int)(r:List Int):Int×Nd×Int:=
 if qbd t=false then(4,nd0,0)
 else if(qac r).2=0\/(r.length:Int) - (qac r).2<(qac r).1 then(1,nd0,0)
 else if qau t=false then(if qbi t ((r.drop (qac r).2.toNat).take (qac r).1.toNat)=true then(0,(t,((r.drop (qac r).2.toNat).take (qac r).1.toNat),[]),1+(qac r).2+(qac r).1) else(5,nd0,0))
 else if(qcj P ((r.drop (qac r).2.toNat).take (qac r).1.toNat).length ((r.drop (qac r).2.toNat).take (qac r).1.toNat)).1=0 then
  (if t=49/\qba (qcj P ((r.drop (qac r).2.toNat).take (qac r).1.toNat).length ((r.drop (qac r).2.toNat).take (qac r).1.toNat)).2.2=false then(6,nd0,0) else(0,(t,[],(qcj P ((r.drop (qac r).2.toNat).take (qac r).1.toNat).length ((r.drop (qac r).2.toNat).take (qac r).1.toNat)).2.1.map ndCV),1+(qac r).2+(qac r).1))
  else((qcj P ((r.drop (qac r).2.toNat).take (qac r).1.toNat).length ((r.drop (qac r).2.toNat).take (qac r).1.toNat)).1,nd0,0)
theorem qey(n:Nat)(t:Int)(r:List Int):qat (n+1) (t::r)=parse1 (qat n) t r:=rfl
theorem qlx{P:List Int->Int×Nd×Int}{t:Int}{r:List Int}(h:(parse1 P t r).1=0):(parse1 P t r).2.2=1+(qac r).2+(qac r).1/\¬qbd t=false/\¬((qac r).2=0\/(r.length:Int) - (qac r).2<(qac r).1):=by
 unfold parse1 at h ⊢;split at h
 ·exact absurd h (by decide: ¬(4:Int)=0)
 ·rename_i h1;rw[if_neg h1];split at h
  ·exact absurd h (by decide: ¬(1:Int)=0)
  ·rename_i h2;rw[if_neg h2];refine⟨?_,h1,h2⟩;split at h
   ·rename_i h3;rw[if_pos h3];split at h
    ·rename_i h4;rw[if_pos h4]
    ·exact absurd h (by decide: ¬(5:Int)=0)
   ·rename_i h3;rw[if_neg h3];split at h
    ·rename_i h4;rw[if_pos h4];split at h
     ·exact absurd h (by decide: ¬(6:Int)=0)
     ·rename_i h5;rw[if_neg h5]
    ·rename_i h4;exact absurd h h4
theorem qg2{n:Nat}{b:List Int}(hb:qad b=true)(h:(qat n b).1=0):0<(qat n b).2.2/\(qat n b).2.2<=b.length:=by
 match n,b,hb with
 | 0,_,_=>exact absurd h (by decide: ¬(3:Int)=0)
 | n+1,[],_=>exact absurd h (by decide: ¬(1:Int)=0)
 | n+1,t::r,hb=>
  rw[qey] at h ⊢;have:=qlx h;have hr:=qvg (qbw hb);simp only[zbu] at hr;simp only[zac];omega
theorem q8h{d:Int}{b:List Int}(hb:qad b=true)(h:(qat d.toNat b).1=0):qjs b d=b.drop (qat d.toNat b).2.2.toNat:=by
 obtain⟨n,hn⟩: ∃n,d.toNat=n:=⟨_,rfl⟩;rw[hn] at h ⊢
 match n,b,hb with
 | 0,_,_=>exact absurd h (by decide: ¬(3:Int)=0)
 | n+1,[],_=>exact absurd h (by decide: ¬(1:Int)=0)
 | n+1,t::r,hb=>
  rw[qey] at h ⊢;have hu:=qlx h;have hr:=qvg (qbw hb);simp only[zbu] at hr;unfold qjs;rw[if_neg (by omega)];show(if qbd t=false then r else _)=_;rw[if_neg hu.2.1,if_neg (fun e=>hu.2.2 (.inl e)),if_neg (fun e=>hu.2.2 (.inr e)),hu.1,
   show(1+(qac r).2+(qac r).1).toNat=((qac r).2+(qac r).1).toNat+1 by omega,zcn]
theorem qlz(f:List Int->Int×Nd×Int)(m:Nat):qcj f m []=(0,[],[]):=by cases m<;>rfl
theorem qtm{f:List Int->Int×Nd×Int}{m:Nat}{b:List Int}(hne:b≠[])(h:(f b).1=0):qcj f (m+1) b=((qcj f m (b.drop (f b).2.2.toNat)).1,(f b).2.1::(qcj f m (b.drop (f b).2.2.toNat)).2.1,b.take (f b).2.2.toNat::(qcj f m (b.drop (f b).2.2.toNat)).2.2):=by show(if b=[] then _ else _)=_;rw[if_neg hne,if_pos h]
theorem qzg{f:List Int->Int×Nd×Int}{m:Nat}{b:List Int}(hne:b≠[])(h: ¬(f b).1=0):qcj f (m+1) b=((f b).1,[],[]):=by show(if b=[] then _ else _)=_;rw[if_neg hne,if_neg h]
theorem qy1{b:List Int}{d:Int}(h:(qat d.toNat b).1=0):qex b d=((qat d.toNat b).2.1,(qat d.toNat b).2.2,0):=by unfold qex;rw[qab];exact if_pos h
theorem qy0{b:List Int}{d:Int}(h: ¬(qat d.toNat b).1=0):qex b d=(nd0,0,(qat d.toNat b).1):=by unfold qex;rw[qab];exact if_neg h
theorem xboe(rk:Nat)(F0:Int->Option Out)(F1:Int->Int->Int->Int->List CV->List CV->Option Out)(v1 v2 v3 v4 v7:Int)(h1:1<=v1)(h2:v1<=1000)(h3:v1.toNat<rk+1): ∀(f m:Nat) (b:List Int) (rows kids:List CV),qad b=true->b.length<=m->b.length<f->rows.length+b.length<=1000000->kids.length+b.length<=1000000->
  qh9 rk (fun _ y16=>(fun _ _ _ _ _ _ _ _ _ _ _ _ _ _ _ _ _ _ _ _ _ _ _ _ _ _ _ _ _ _ _ _ _ _ _ _=>F0 y16)) (fun _ y54 y55 y56 _ _ _ _ y61 _ y63 y64=>F1 y54 y55 y56 y61 y63 y64) f v1 v2 v3 v4 b rows.length v7 kids.length rows kids
   =if(qcj (qat (v1 - 1).toNat) m b).1=0 then F1 v2 v3 v4 v7 (rows++(qcj (qat (v1 - 1).toNat) m b).2.2.map (CV.sli .u8)) (kids++(qcj (qat (v1 - 1).toNat) m b).2.1.map ndCV) else F0 (qcj (qat (v1 - 1).toNat) m b).1
 | 0,m,b,rows,kids,hb,hm,hf,hr,hk=>by omega
 | f+1,m,b,rows,kids,hb,hm,hf,hr,hk=>by
  show qi4 rk (qh9 rk (fun _ y16=>(fun _ _ _ _ _ _ _ _ _ _ _ _ _ _ _ _ _ _ _ _ _ _ _ _ _ _ _ _ _ _ _ _ _ _ _ _=>F0 y16)) (fun _ y54 y55 y56 _ _ _ _ y61 _ y63 y64=>F1 y54 y55 y56 y61 y63 y64) f) (fun _ y16=>(fun _ _ _ _ _ _ _ _ _ _ _ _ _ _ _ _ _ _ _ _ _ _ _ _ _ _ _ _ _ _ _ _ _ _ _ _=>F0 y16)) (fun _ y54 y55 y56 _ _ _ _ y61 _ y63 y64=>F1 y54 y55 y56 y61 y63 y64) v1 v2 v3 v4 b rows.length v7 kids.length rows kids=_;unfold qi4;refine qae (fun h=> ?_) fun h=> ?_
  ·have hne:b≠[]:=by intro e;subst e;simp at h
   simp only[show IntKind.i64.wrap (v1 - 1)=v1 - 1 from i64_in _ (by omega)];refine qak ?_ ?_
   ·simp only[zab,decide_eq_true_eq];exact⟨hb,qf8 (by omega),by omega⟩
   ·obtain⟨m,rfl⟩: ∃k,m=k+1:=⟨m - 1,by omega⟩;by_cases hz:(qat (v1 - 1).toNat b).1=0
    ·have hu:=qg2 hb hz;rw[qtm hne hz];simp only[qy1 hz];refine xbbe (by simp) ?_;refine qdj (by simp only[zaf,zaz];omega) (qdj (by simp only[zaf,zaz];omega) (qaq (by omega) (qaq hu.2 ?_)));refine qdj (by simp only[zaf,zaz];omega) (qdj (by simp only[zaf,zaz];omega) (qaq (by omega) (qaq hu.2 ?_)));refine(xboe rk F0 F1 v1 v2 v3 v4 v7 h1 h2 h3 f m _ _ _ (qa9 hb _) (by simp only[zar];omega) (by simp only[zar];omega) (by simp only[zar,zaf,zaz];omega) (by simp only[zar,zaf,zaz];omega)).trans ?_;simp only[zci,List.singleton_append,zbe];rfl
    ·rw[qzg hne hz];simp only[qy0 hz];refine xbdc hz ?_;rw[if_neg hz]
  ·have e:b=[]:=zak (by omega);subst e;rw[qlz];simp
theorem qzf{f:List Int->Int×Nd×Int}(hf: ∀b,qad b=true->(f b).1=0->0<(f b).2.2/\(f b).2.2<=b.length): ∀(m:Nat) (b:List Int),qad b=true->(qcj f m b).2.1.length<=b.length/\(qcj f m b).2.2.length<=b.length/\∀x∈(qcj f m b).2.2,rowB x=true
 | 0,b,hb=>by simp[qcj]
 | m+1,b,hb=>by
  by_cases hne:b=[]
  ·subst hne;rw[qlz];simp
  ·by_cases hz:(f b).1=0
   ·have hu:=hf b hb hz;have ih:=qzf hf m (b.drop (f b).2.2.toNat) (qa9 hb _);rw[qtm hne hz];simp only[zac,zar,zav] at ih ⊢;refine⟨by omega,by omega,fun x hx=>hx.elim (fun e=> ?_) (ih.2.2 x)⟩;subst e;have:=qgl hb (f b).2.2.toNat;unfold qad at this;rwa [qab] at this
   ·rw[qzg hne hz];simp
theorem qtu{l:List (List Int)}(h1:l.length<=1000000)(h2: ∀x∈l,rowB x=true):qij (l.map (CV.sli .u8))=true:=by unfold qij;rw[qab];simp only[zab,decide_eq_true_eq,zai,zaw,zbp];refine⟨h1,fun x hx=> ?_⟩;obtain⟨y,hy,rfl⟩:=hx;exact h2 y hy
theorem qjf(l:List (List Int)):qbv (l.map (CV.sli .u8))=qba l:=by unfold qbv;rw[qab,zc6];congr 1;exact(zcp fun x _=>rfl).trans (List.map_id l)
noncomputable def xb22(p:Int×Nd×Int):Option Out:=if p.1=0 then zR [.cl (.agg [.int .i64 p.2.1.1,.sli .u8 p.2.1.2.1,.slg 3 p.2.1.2.2]),.cl (.int .i64 p.2.2),.cl (.int .i64 0)] [] else zR [.cl (.agg [.int .i64 0,.sli .u8 [],.slg 3 []]),.cl (.int .i64 0),.cl (.int .i64 p.1)] []
theorem xbju{t:Int}{r:List Int}{A B:Int}(hA:0<=A)(hB:0<=B):List.drop (Int.toNat (1+B)) (List.take (Int.toNat (1+B+A)) (t::r))=(r.drop B.toNat).take A.toNat:=by rw[show(1+B).toNat=B.toNat+1 by omega,show(1+B+A).toNat=(B.toNat+A.toNat)+1 by omega,zca,zcn,List.drop_take,show B.toNat+A.toNat - B.toNat=A.toNat by omega]
theorem xbsz(rk:Nat)(b:List Int)(deep:Int)(hb:qad b=true)(hd:0<=deep/\deep<=1000)(hk:deep.toNat<rk+1):q6z rk b deep=xb22 (qat deep.toNat b):=by
 unfold q6z;refine qae (fun h=> ?_) fun h=> ?_
 ·subst h;rfl
 ·obtain⟨n,hn⟩: ∃n,deep.toNat=n+1:=⟨deep.toNat - 1,by omega⟩;rw[hn]
  match b,hb with
  | [],_=>rfl
  | t::r,hb=>
   have ht:=qa5 hb (i:=0) (x:=t) rfl;have hl:=(qal hb).1;have hbt:=qbw hb;simp only[zbu] at hbt;simp only[zac] at hl;have hr:=qvg hbt;rw[qey];unfold parse1;simp only[qeb,qg8,qbm,qc3,qab,zac,zaq,zaj,List.drop_one,zbu];refine qcq (by omega) (qaq (by omega) ?_);rw[show IntKind.i64.wrap t=t from i64_in _ (by omega)];refine qdg (fun h=> ?_) fun h=> ?_
   ·rw[if_pos (by simpa using h)];rfl
   rw[if_neg (by simpa using h)];refine qaq (by omega) (qak hbt ?_);generalize hA:(qac r).1=A at*;generalize hB:(qac r).2=B at*;refine qae (fun h5=> ?_) fun h5=> ?_
   ·rw[if_pos (.inl h5)];rfl
   rw[show IntKind.i64.wrap (((r.length+1:Nat):Int) - 1)=r.length from(i64_in _ (by omega)).trans (by omega),show IntKind.i64.wrap ((r.length:Int) - B)=r.length - B from i64_in _ (by omega)];refine qae (fun h6=> ?_) fun h6=> ?_
   ·rw[if_pos (.inr h6)];rfl
   rw[if_neg (by omega)];simp only[show IntKind.i64.wrap ((1:Int)+B)=1+B from i64_in _ (by omega),show IntKind.i64.wrap (1+B+A)=1+B+A from i64_in _ (by omega)];refine qaq (by omega) (qaq (by omega) (qaq (by omega) ?_));rw[xbju (by omega) (by omega)];have hin:qad ((r.drop B.toNat).take A.toNat)=true:=qgl (qa9 hbt _) _;have hil:((r.drop B.toNat).take A.toNat).length<=1000000:=(qal hin).1;generalize hI:(r.drop B.toNat).take A.toNat=I at*;refine qdg (fun h7=> ?_) fun h7=> ?_
   ·rw[if_pos (by simpa using h7)];refine qak hin (qdg (fun h8=> ?_) fun h8=> ?_)
    ·rw[if_neg (by simpa using h8)];rfl
    ·rw[if_pos (by simpa using h8)];rfl
   ·rw[if_neg (by simpa using h7)];refine(xboe rk (fun e=>zR [.cl (.agg [.int .i64 0,.sli .u8 [],.slg 3 []]),.cl (.int .i64 0),.cl (.int .i64 e)] [])
     (fun y54 y55 y56 y61 y63 y64=>cond (decide (y54=49)) (cond (qij y63) (cond (!(qbv y63)) (zR [.cl (.agg [.int .i64 0,.sli .u8 [],.slg 3 []]),.cl (.int .i64 0),.cl (.int .i64 6)] []) (zR [.cl (.agg [.int .i64 y61,.sli .u8 [],.slg 3 y64]),.cl (.int .i64 (IntKind.i64.wrap (y56+y55))),.cl (.int .i64 0)] [])) none) (zR [.cl (.agg [.int .i64 y61,.sli .u8 [],.slg 3 y64]),.cl (.int .i64 (IntKind.i64.wrap (y56+y55))),.cl (.int .i64 0)] []))
     deep t A (1+B) t (by omega) hd.2 hk FUEL I.length I [] [] hin (zas _) (by unfold FUEL;omega) (by simp;omega) (by simp;omega)).trans ?_
    rw[show(deep - 1).toNat=n by omega];have hpl:=qzf (f:=qat n) (fun b hb h=>qg2 hb h) I.length I hin;generalize hP:qcj (qat n) I.length I=p at*;obtain⟨p1,p2,p3⟩:=p;simp only[za7] at hpl ⊢;by_cases hz:p1=0
    ·subst hz;rw[if_pos rfl,if_pos rfl,show IntKind.i64.wrap (1+B+A)=1+B+A from i64_in _ (by omega),qjf];refine qae (fun h8=>qak (qtu (by omega) hpl.2.2) (qdg (fun h9=> ?_) fun h9=> ?_)) fun h8=> ?_
     ·rw[if_pos ⟨h8,by simpa using h9⟩];rfl
     ·rw[if_neg (fun e=>by simp[e.2] at h9)];rfl
     ·rw[if_neg (fun e=>h8 e.1)];rfl
    ·rw[if_neg hz,if_neg hz];unfold xb22;rw[if_neg hz]
theorem xbgs(b:List Int)(d:Int):xb22 (qat d.toNat b)=zR [.cl (.agg [.int .i64 (qex b d).1.1,.sli .u8 (qex b d).1.2.1,.slg 3 (qex b d).1.2.2]),.cl (.int .i64 (qex b d).2.1),.cl (.int .i64 (qex b d).2.2)] []:=by
 unfold xb22;by_cases hz:(qat d.toNat b).1=0
 ·rw[if_pos hz,qy1 hz]
 ·rw[if_neg hz,qy0 hz];rfl
theorem xbze(rk:Nat)(b:List Int)(deep:Int)(hp:(qad b&&(qc2 deep&&decide (deep.toNat<rk+1)))=true):q6z rk b deep=zR [.cl (.agg [.int .i64 (qex b deep).1.1,.sli .u8 (qex b deep).1.2.1,.slg 3 (qex b deep).1.2.2]),.cl (.int .i64 (qex b deep).2.1),.cl (.int .i64 (qex b deep).2.2)] []:=by simp only[zab,decide_eq_true_eq] at hp;rw[<- xbgs];exact xbsz rk b deep hp.1 (qhz hp.2.1) hp.2.2
open IntWalk (i64_in u8_in u32_in u64_in i64_quo u8_quo rem_in)
noncomputable def xbow(p:Int×Nd)(l:List Int)(d:Int):Tree:=.ite (!(decide (p.1=0))) (.leaf (.pan (.iface 85 (.agg [.int .i64 p.1])) [some ⟨.var [.cl (.sli .u8 l),.cl (.int .i64 d)],false⟩])) (.leaf (.ret [.cl (.agg [.int .i64 p.2.1,.sli .u8 p.2.2.1,.slg 3 p.2.2.2])] [some ⟨.var [.cl (.sli .u8 l),.cl (.int .i64 d)],false⟩]))
theorem xbk4(t:Int)(r:List Int){d:Int}(h:0<d):qjs (t::r) d=if qbd t=false then r
   else if(qac r).2=0 then qkt r
   else if(r.length:Int) - (qac r).2<(qac r).1 then r.drop (qac r).2.toNat
   else r.drop ((qac r).2+(qac r).1).toNat:=by
 unfold qjs;rw[if_neg (by omega)]
theorem xbsh(rk:Nat)(l:List Int)(d:Int)(hb:qad l=true)(hd:0<=d/\d<=1000)(hk:d.toNat<rk+1):q6s rk l d=(xbow ((qat d.toNat l).1,(qat d.toNat l).2.1) (qjs l d) d).eval:=by
 unfold q6s;refine qae (fun h=>qak hb ?_) fun h=> ?_
 ·obtain⟨n,hn⟩: ∃n,d.toNat=n+1:=⟨d.toNat - 1,by omega⟩;rw[hn]
  match l,hb with
  | [],_=>
   show _=(xbow (1,nd0) (qjs [] d) d).eval;have:qjs [] d=[]:=by unfold qjs;rw[if_neg (by omega)]
   rw[this];rfl
  | t::r,hb=>
   have ht:=qa5 hb (i:=0) (x:=t) rfl;have hl:=(qal hb).1;have hbt:=qbw hb;simp only[zbu] at hbt;simp only[zac] at hl;have hr:=qvg hbt;rw[qey,xbk4 t r h];unfold parse1;simp only[qeb,qbm,qc3,qqf,qhj,qez,qab,List.isEmpty_cons,cond_false,zba,zbu,Bool.not_not];refine qdg (fun h1=>qak hbt ?_) fun h1=> ?_
   ·have hkn: ¬qbd t=false:=by simp[h1]
    rw[if_neg hkn,if_neg hkn];refine qae (fun h5=> ?_) fun h5=> ?_
    ·rw[if_pos (.inl h5),if_pos h5];rfl
    rw[if_neg h5];have hdl:((r.drop (qac r).2.toNat).length:Int)=r.length - (qac r).2:=by simp only[zar];omega
    refine qae (fun h6=> ?_) fun h6=> ?_
    ·rw[if_neg (show ¬((qac r).2=0\/(r.length:Int) - (qac r).2<(qac r).1) by omega),if_neg (show ¬((r.length:Int) - (qac r).2<(qac r).1) by omega)];refine qaq (by omega) (qaq h6 (qaq (by omega) (qaq h6 ?_)));have hin:qad ((r.drop (qac r).2.toNat).take (qac r).1.toNat)=true:=qgl (qa9 hbt _) _;have hil:((r.drop (qac r).2.toNat).take (qac r).1.toNat).length<=1000000:=(qal hin).1;rw[show List.drop (qac r).1.toNat (List.drop (qac r).2.toNat r)=r.drop ((qac r).2+(qac r).1).toNat by rw[List.drop_drop,show(qac r).2.toNat+(qac r).1.toNat=((qac r).2+(qac r).1).toNat by omega]];generalize hI:(r.drop (qac r).2.toNat).take (qac r).1.toNat=I at*;refine qdg (fun h7=>qak ?_ ?_) fun h7=>qak hin ?_
     ·simp only[zab,decide_eq_true_eq];exact⟨hin,qf8 hd,by omega,by omega⟩
     ·rw[if_neg (show ¬qau t=false by simp[h7])];unfold qbc;rw[qab,show(d - 1).toNat=n by omega];generalize qcj (qat n) I.length I=p;obtain⟨p1,p2,p3⟩:=p;simp only[];by_cases hz:p1=0
      ·subst hz;rw[if_pos rfl,if_pos rfl];by_cases h8:t=49/\qba p3=false
       ·rw[if_pos h8,if_pos h8];rfl
       ·rw[if_neg h8,if_neg h8];rfl
      ·rw[if_neg hz,if_neg hz];rfl
     ·rw[if_pos h7];refine qdg (fun h8=>qak (qkc (by omega)) ?_) fun h8=> ?_
      ·rw[if_pos h8];rfl
      ·rw[if_neg (show ¬_=true by simp[h8])];rfl
    ·rw[if_pos (show(qac r).2=0\/(r.length:Int) - (qac r).2<(qac r).1 by omega),if_pos (show(r.length:Int) - (qac r).2<(qac r).1 by omega)];rfl
   ·rw[if_pos h1,if_pos h1];rfl
 ·have e:d.toNat=0:=by omega
  have:qjs l d=l:=by unfold qjs;rw[if_pos (by omega)]
  rw[this,e];rfl
theorem xbys(rk:Nat)(l:List Int)(d:Int)(hp:(qad l&&(qc2 d&&decide (d.toNat<rk+1)))=true):q6s rk l d=(Tree.ite (!(decide ((qma l d).1=0))) (.leaf (.pan (.iface 85 (.agg [.int .i64 ((qma l d).1)])) [some ⟨.var [.cl (.sli .u8 ((qma l d).2.2)),.cl (.int .i64 d)],false⟩])) (.leaf (.ret [.cl (.agg [.int .i64 ((qma l d).2.1.1),.sli .u8 ((qma l d).2.1.2.1),.slg 3 ((qma l d).2.1.2.2)])] [some ⟨.var [.cl (.sli .u8 ((qma l d).2.2)),.cl (.int .i64 d)],false⟩]))).eval:=by simp only[zab,decide_eq_true_eq] at hp;rw[xbsh rk l d hp.1 (qhz hp.2.1) hp.2.2];unfold qma;rw[qab];rfl
theorem xbob(b:List Int)(d:Int):(qma b d).1=(qat d.toNat b).1:=by unfold qma;rw[qab]
theorem xboc(b:List Int)(d:Int):(qma b d).2.1=(qat d.toNat b).2.1:=by unfold qma;rw[qab]
theorem xbod(b:List Int)(d:Int):(qma b d).2.2=qjs b d:=by unfold qma;rw[qab]
theorem xbgf(rk:Nat)(F0:Int->Option Out)(F1:List CV->List CV->Option Out)(l:List Int)(d tag:Int)(v9:Int)(h1:0<=v9)(h2:v9<=1000)(h3:v9.toNat<rk)(k0:Int->List Int->Int->Option Out)(k1:Int->Nat->List Int->Int->List Int->Int->Int->Nat->List CV->List Int->Int->List CV->Option Out)(hk0: ∀e,k0 e l d=F0 e)(hk1: ∀a b c e rows f g kids,k1 tag a b c l d tag e rows f g kids=F1 rows kids): ∀(f m:Nat) (b:List Int) (rows kids:List CV),qad b=true->b.length<=m->b.length<f->rows.length+b.length<=1000000->kids.length+b.length<=1000000->
  qkf rk k0 k1 f tag rows.length l d tag kids.length rows b v9 kids
   =if(qcj (qat v9.toNat) m b).1=0 then F1 (rows++(qcj (qat v9.toNat) m b).2.2.map (CV.sli .u8)) (kids++(qcj (qat v9.toNat) m b).2.1.map ndCV) else F0 (qcj (qat v9.toNat) m b).1
 | 0,m,b,rows,kids,hb,hm,hf,hr,hk=>by omega
 | f+1,m,b,rows,kids,hb,hm,hf,hr,hk=>by
  show qli rk (qkf rk k0 k1 f) k0 k1 tag rows.length l d tag kids.length rows b v9 kids=_;unfold qli;refine qae (fun h=> ?_) fun h=> ?_
  ·have hne:b≠[]:=by intro e;subst e;simp at h
   refine qak ?_ ?_
   ·simp only[zab,decide_eq_true_eq];exact⟨hb,qf8 (by omega),h3⟩
   ·obtain⟨m,rfl⟩: ∃k,m=k+1:=⟨m - 1,by omega⟩;simp only[xbob,xboc,xbod];by_cases hz:(qat v9.toNat b).1=0
    ·have hu:=qg2 hb hz;rw[qtm hne hz];refine xbql hz ?_;rw[q8h hb hz];rw[show IntKind.i64.wrap ((b.length:Int) - (((b.drop (qat v9.toNat b).2.2.toNat).length:Nat):Int))=(qat v9.toNat b).2.2 from(i64_in _ (by have:=(qal hb).1;simp only[zar];omega)).trans (by simp only[zar];omega)];refine qdj (by simp only[zaf,zaz];omega) (qdj (by simp only[zaf,zaz];omega) (qaq (by omega) (qaq hu.2 ?_)));refine qdj (by simp only[zaf,zaz];omega) (qdj (by simp only[zaf,zaz];omega) ?_);refine(xbgf rk F0 F1 l d tag v9 h1 h2 h3 k0 k1 hk0 hk1 f m _ _ _ (qa9 hb _) (by simp only[zar];omega) (by simp only[zar];omega) (by simp only[zar,zaf,zaz];omega) (by simp only[zar,zaf,zaz];omega)).trans ?_;simp only[zci,List.singleton_append,zbe];rfl
    ·rw[qzg hne hz];refine xbdc hz ?_;rw[if_neg hz,hk0]
  ·have e:b=[]:=zak (by omega);subst e;rw[qlz,hk1];simp
theorem xbyq(rk:Nat)(tag:Int)(b:List Int)(l:List Int)(d:Int)(hp:(qad b&&(qc2 d&&decide (0<d/\d.toNat<rk+1)))=true):xbdz rk tag b l d=(Tree.ite (!(decide ((qbc tag b d).1=0))) (.leaf (.pan (.iface 85 (.agg [.int .i64 ((qbc tag b d).1)])) [some ⟨.var [.cl (.sli .u8 l),.cl (.int .i64 d)],false⟩])) (.leaf (.ret [.cl (.agg [.int .i64 ((qbc tag b d).2.1),.sli .u8 ((qbc tag b d).2.2.1),.slg 3 ((qbc tag b d).2.2.2)])] [some ⟨.var [.cl (.sli .u8 l),.cl (.int .i64 d)],false⟩]))).eval:=by
 simp only[zab,decide_eq_true_eq] at hp;obtain⟨hb,hd,h0,hk⟩:=hp;have hd:=qhz hd;have hlen:=(qal hb).1;unfold xbdz;simp only[qab];rw[show IntKind.i64.wrap (d - 1)=d - 1 from i64_in _ (by omega)];refine(xbgf rk (fun e=>some (.pan (.iface 85 (.agg [.int .i64 e])) [some ⟨.var [.cl (.sli .u8 l),.cl (.int .i64 d)],false⟩]))
  (fun rows kids=>cond (!decide (tag=49)) (zR [.cl (.agg [.int .i64 tag,.sli .u8 [],.slg 3 kids])] [some ⟨.var [.cl (.sli .u8 l),.cl (.int .i64 d)],false⟩]) (cond (qij rows) (cond (qbv rows) (zR [.cl (.agg [.int .i64 tag,.sli .u8 [],.slg 3 kids])] [some ⟨.var [.cl (.sli .u8 l),.cl (.int .i64 d)],false⟩]) (cond true (some (.pan (.iface 85 (.agg [.int .i64 6])) [some ⟨.var [.cl (.sli .u8 l),.cl (.int .i64 d)],false⟩])) (zR [.cl (.agg [.int .i64 tag,.sli .u8 [],.slg 3 kids])] [some ⟨.var [.cl (.sli .u8 l),.cl (.int .i64 d)],false⟩]))) none))
  l d tag (d - 1) (by omega) (by omega) (by omega) _ _ (fun _=>rfl) (fun _ _ _ _ _ _ _ _=>rfl) FUEL b.length b [] [] hb (zas _) (by unfold FUEL;omega) (by simp;omega) (by simp;omega)).trans ?_
 unfold qbc;rw[qab];have hpl:=qzf (f:=qat (d - 1).toNat) (fun b hb h=>qg2 hb h) b.length b hb;generalize hP:qcj (qat (d - 1).toNat) b.length b=p at*;obtain⟨p1,p2,p3⟩:=p;simp only[za7] at hpl ⊢;by_cases hz:p1=0
 ·subst hz;rw[if_pos rfl,qjf];refine qaw (fun h8=> ?_) fun h8=>qak (qtu (by omega) hpl.2.2) (qdg (fun h9=> ?_) fun h9=> ?_)
  ·simp[h8,Tree.eval]
  ·simp[h8,h9,Tree.eval]
  ·simp[h8,h9,Tree.eval]
 ·rw[if_neg hz];simp[hz,Tree.eval]
theorem xbyp(b:List Int)(hp:qad b=true):xbdx b=zR [.cl (.agg [.int .i64 ((qap b).1.1),.sli .u8 ((qap b).1.2.1),.slg 3 ((qap b).1.2.2)]),.cl (.int .i64 ((qap b).2))] []:=by
 have hl:=(qal hp).1;unfold xbdx;simp only[xbob,xboc,xbod];refine qcq (by omega) (qak ?_ ?_)
 ·simp only[zab];exact⟨hp,qf8 (by omega)⟩
 unfold qap qyz;rw[qab];show _=zR [.cl (.agg [.int .i64 (if(qat 32 b).1=0 then(if(qat 32 b).2.2<b.length then(nd0,7) else((qat 32 b).2.1,0)) else(nd0,(qat 32 b).1):Nd×Int).1.1,.sli .u8 (if(qat 32 b).1=0 then(if(qat 32 b).2.2<b.length then(nd0,7) else((qat 32 b).2.1,0)) else(nd0,(qat 32 b).1):Nd×Int).1.2.1,.slg 3 (if(qat 32 b).1=0 then(if(qat 32 b).2.2<b.length then(nd0,7) else((qat 32 b).2.1,0)) else(nd0,(qat 32 b).1):Nd×Int).1.2.2]),.cl (.int .i64 (if(qat 32 b).1=0 then(if(qat 32 b).2.2<b.length then(nd0,7) else((qat 32 b).2.1,0)) else(nd0,(qat 32 b).1):Nd×Int).2)] [];by_cases hz:(qat (32:Int).toNat b).1=0
 ·have hu:=qg2 hp hz;rw[q8h hp hz];have hz':(qat 32 b).1=0:=hz;rw[if_pos hz'];refine xbql hz (qae (fun h=> ?_) fun h=> ?_)
  ·rw[if_neg (by simp only[zar] at h;exact fun e=>by have:(qat (32:Int).toNat b).2.2<b.length:=e;omega)];rfl
  ·rw[if_pos (by simp only[zar] at h;show(qat (32:Int).toNat b).2.2<b.length;omega)];rfl
 ·have hz': ¬(qat 32 b).1=0:=hz;rw[if_neg hz'];exact xbdc hz rfl
theorem xbzd(b:List Int)(hp:qad b=true):xbnb b=zR [.cl (.agg [.int .i64 ((qap b).1.1),.sli .u8 ((qap b).1.2.1),.slg 3 ((qap b).1.2.2)]),.cl (.int .i64 ((qap b).2))] []:=by
 have hl:=(qal hp).1;unfold xbnb;refine qcq (by omega) (qak ?_ ?_)
 ·simp only[zab];exact⟨hp,qf8 (by omega)⟩
 unfold qap qyz;rw[qab];show _=zR [.cl (.agg [.int .i64 (if(qat 32 b).1=0 then(if(qat 32 b).2.2<b.length then(nd0,7) else((qat 32 b).2.1,0)) else(nd0,(qat 32 b).1):Nd×Int).1.1,.sli .u8 (if(qat 32 b).1=0 then(if(qat 32 b).2.2<b.length then(nd0,7) else((qat 32 b).2.1,0)) else(nd0,(qat 32 b).1):Nd×Int).1.2.1,.slg 3 (if(qat 32 b).1=0 then(if(qat 32 b).2.2<b.length then(nd0,7) else((qat 32 b).2.1,0)) else(nd0,(qat 32 b).1):Nd×Int).1.2.2]),.cl (.int .i64 (if(qat 32 b).1=0 then(if(qat 32 b).2.2<b.length then(nd0,7) else((qat 32 b).2.1,0)) else(nd0,(qat 32 b).1):Nd×Int).2)] [];by_cases hz:(qat (32:Int).toNat b).1=0
 ·have hz':(qat 32 b).1=0:=hz;rw[if_pos hz'];simp only[qy1 hz];refine xbbe (by simp) (qae (fun h=> ?_) fun h=> ?_)
  ·rw[if_pos (show(qat 32 b).2.2<b.length from h)];rfl
  ·rw[if_neg (show ¬(qat 32 b).2.2<b.length from h)];rfl
 ·have hz': ¬(qat 32 b).1=0:=hz;rw[if_neg hz'];simp only[qy0 hz];exact xbdc hz rfl
theorem xb5y: ∀ {n:Nat} {x:List CV},isNf n x=true->∃m t b l,n=m+1/\x=[.int .i64 t,.sli .u8 b,.slg 3 l]/\b.length<=100000000/\l.length<=100000000/\∀c∈l, ∃y,c=.agg y/\isNf m y=true
 | 0,x,h=>by simp[isNf] at h
 | n+1,x,h=>by
  unfold isNf at h;split at h
  ·exact absurd h zb4
  ·rename_i n' t b l hn;obtain rfl:n=n':=by omega
   simp only[zab,decide_eq_true_eq,zai] at h;refine⟨n,t,b,l,rfl,rfl,h.1,h.2.1,fun c hc=> ?_⟩;have:=h.2.2 c hc;split at this
   ·exact⟨_,rfl,this⟩
   ·exact absurd this zb4
  ·exact absurd h zb4
theorem xb8s{n:Nat}{t:Int}{b:List Int}{l:List CV}(h1:b.length<=100000000)(h2:l.length<=100000000)(h3: ∀c∈l, ∃y,c=.agg y/\isNf n y=true):isNf (n+1) [.int .i64 t,.sli .u8 b,.slg 3 l]=true:=by show(decide (b.length<=100000000)&&(decide (l.length<=100000000)&&l.all fun c=>match c with|.agg x=>isNf n x|_=>false))=true;simp only[zab,decide_eq_true_eq,zai];refine⟨h1,h2,fun c hc=> ?_⟩;obtain⟨y,rfl,hy⟩:=h3 c hc;exact hy
theorem xbrp{x:List CV}(h:isN x=true): ∃n,isNf n x=true:=by unfold isN at h;rw[qab] at h;exact @of_decide_eq_true _ (Classical.propDecidable _) h
theorem xbxq{n:Nat}{x:List CV}(h:isNf n x=true):isN x=true:=by unfold isN;rw[qab];exact @decide_eq_true _ (Classical.propDecidable _) ⟨n,h⟩
open IntWalk (i64_in u8_in u32_in u64_in i64_quo u8_quo rem_in)
def ndL(x:Nd):List CV:=[.int .i64 x.1,.sli .u8 x.2.1,.slg 3 x.2.2]
open IntWalk (i64_in u8_in u32_in u64_in i64_quo u8_quo rem_in)
theorem qdk: ∀ {n:Nat} {x:List CV},isTf n x=true->∃m t b l,n=m+1/\x=[.int .i64 t,.sli .u8 b,.slg 3 l]/\(∀z∈b,0<=z/\z<=255)/\∀c∈l, ∃y,c=.agg y/\isTf m y=true
 | 0,x,h=>by simp[isTf] at h
 | n+1,x,h=>by
  unfold isTf at h;split at h
  ·exact absurd h zb4
  ·rename_i n' t b l hn;obtain rfl:n=n':=by omega
   simp only[zab,zai] at h;refine⟨n,t,b,l,rfl,rfl,fun z hz=>qj1 (h.1 z hz),fun c hc=> ?_⟩;have:=h.2 c hc;split at this
   ·exact⟨_,rfl,this⟩
   ·exact absurd this zb4
  ·exact absurd h zb4
theorem xbmj: ∀ {n m:Nat} {x:List CV},isTf n x=true->isTf m x=true->qd6 n x=qd6 m x
 | n,m,x,hn,hm=>by obtain⟨n',t,b,l,rfl,rfl,_,hl⟩:=qdk hn;obtain⟨m',t',b',l',rfl,he,_,hl'⟩:=qdk hm;simp only[zcl,CV.int.injEq,CV.sli.injEq,CV.slg.injEq,true_and,and_true] at he;obtain⟨rfl,rfl,rfl⟩:=he;show 1+b.length+(l.map fun c=>qd6 n' (cell1 c)).sum=1+b.length+(l.map fun c=>qd6 m' (cell1 c)).sum;congr 2;refine zcp fun c hc=> ?_;obtain⟨y,rfl,hy⟩:=hl c hc;obtain⟨y',e,hy'⟩:=hl' _ hc;cases e;exact xbmj hy hy'
theorem q6d{f g:CV->Bool}: ∀ {l:List CV},(∀c∈l,f c=g c)->l.all f=l.all g
 | [],_=>rfl
 | c::r,h=>by rw[zb0,zb0,h c (zce ..),q6d fun c' hc=>h c' (za6 _ hc)]
theorem xbz0: ∀ {n m:Nat} {x:List CV},isTf n x=true->isTf m x=true->∀d,okF n d x=okF m d x
 | n,m,x,hn,hm,d=>by
  obtain⟨n',t,b,l,rfl,rfl,_,hl⟩:=qdk hn;obtain⟨m',t',b',l',rfl,he,_,hl'⟩:=qdk hm;simp only[zcl,CV.int.injEq,CV.sli.injEq,CV.slg.injEq,true_and,and_true] at he;obtain⟨rfl,rfl,rfl⟩:=he
  cases d with
  | zero=>rfl
  | succ d=>
   show(qbd t&&(if qau t=true then decide (b=[])&&l.all fun c=>okF n' d (cell1 c) else decide (l=[])&&qbi t b))=(qbd t&&(if qau t=true then decide (b=[])&&l.all fun c=>okF m' d (cell1 c) else decide (l=[])&&qbi t b));have:(l.all fun c=>okF n' d (cell1 c))=l.all fun c=>okF m' d (cell1 c):=q6d fun c hc=>by obtain⟨y,rfl,hy⟩:=hl c hc;obtain⟨y',e,hy'⟩:=hl' _ hc;cases e;exact xbz0 hy hy' d
   rw[this]
theorem qo5: ∀ {n m:Nat} {x:List CV},isTf n x=true->isTf m x=true->qaj n x=qaj m x
 | n,m,x,hn,hm=>by
  obtain⟨n',t,b,l,rfl,rfl,_,hl⟩:=qdk hn;obtain⟨m',t',b',l',rfl,he,_,hl'⟩:=qdk hm;simp only[zcl,CV.int.injEq,CV.sli.injEq,CV.slg.injEq,true_and,and_true] at he;obtain⟨rfl,rfl,rfl⟩:=he;have:(l.map fun c=>qaj n' (cell1 c))=l.map fun c=>qaj m' (cell1 c):=zcp fun c hc=>by obtain⟨y,rfl,hy⟩:=hl c hc;obtain⟨y',e,hy'⟩:=hl' _ hc;cases e;exact qo5 hy hy'
  simp only[qaj,this]
theorem qoi{a:List CV}{n:Nat}(h:isTf n a=true):isTf (rkOf a) a=true:=by unfold rkOf;have hx: ∃n,isTf n a=true:=⟨n,h⟩;rw[@dif_pos _ (Classical.propDecidable _) hx];exact Classical.choose_spec hx
theorem qld{n:Nat}{x:List CV}(h:isSr n x=true):isTf n x=true/\qd6 n x<=30000:=by unfold isSr at h;rw[qab] at h;simpa [zab] using h
theorem q68{n:Nat}{x:List CV}(h:isTf n x=true)(h':qd6 n x<=30000):isSr n x=true:=by unfold isSr;rw[qab];simp[h,h']
theorem qdp{x:List CV}(h:isS x=true): ∃n,isTf n x=true/\qd6 n x<=30000:=by unfold isS at h;rw[qab] at h;exact @of_decide_eq_true _ (Classical.propDecidable _) h
theorem q9x{x:List CV}{n:Nat}(h:isTf n x=true)(h':qd6 n x<=30000):isS x=true:=by unfold isS;rw[qab];exact @decide_eq_true _ (Classical.propDecidable _) ⟨n,h,h'⟩
theorem qye{n:Nat}{x:List CV}(h:isWr n x=true):isTf n x=true/\qd6 n x<=30000/\∃d,okF n d x=true:=by unfold isWr at h;rw[qab] at h;exact @of_decide_eq_true _ (Classical.propDecidable _) h
theorem xbnr{n:Nat}{x:List CV}(h:isTf n x=true/\qd6 n x<=30000/\∃d,okF n d x=true):isWr n x=true:=by unfold isWr;rw[qab];exact @decide_eq_true _ (Classical.propDecidable _) h
theorem xb38{x:List CV}{n:Nat}(h:isTf n x=true/\qd6 n x<=30000/\∃d,okF n d x=true):isW x=true:=by unfold isW;rw[qab];exact @decide_eq_true _ (Classical.propDecidable _) ⟨n,h⟩
theorem qy2{n:Nat}{a:List CV}(h:isTf n a=true)(d:Int):q5b a d=if okF n d.toNat a=true then((qaj n a).1.length:Int) else -1:=by unfold q5b;rw[qab,xbz0 (qoi h) h,qo5 (qoi h) h]
theorem qtf{n:Nat}{a:List CV}(h:isTf n a=true):qko a=if(qaj n a).2=true then((qaj n a).1,true) else([],false):=by unfold qko;rw[qab,qo5 (qoi h) h]
theorem qpk{n:Nat}{a:List CV}(h:isTf n a=true)(d:Int):qg0 a d=if okF n d.toNat a=true/\(qaj n a).2=true then((qaj n a).1,true) else([],false):=by unfold qg0;rw[qab,xbz0 (qoi h) h,qo5 (qoi h) h]
theorem qgz{n:Nat}{a:List CV}(h:isTf n a=true):qbf a=if okF n 32 a=true/\(qaj n a).2=true then((qaj n a).1,0) else([],1):=by unfold qbf;rw[qab,xbz0 (qoi h) h,qo5 (qoi h) h]
theorem qyy{n:Nat}{a:List CV}(h:isTf n a=true):qul a=decide (okF n 32 a=true/\(qaj n a).2=true):=by unfold qul;rw[qab,xbz0 (qoi h) h,qo5 (qoi h) h]
theorem qvb{tag n:Int}(h:ql8 tag n=true):(0<=tag/\tag<=255)/\0<=n/\n<16777216:=by unfold ql8 at h;rw[qab] at h;exact of_decide_eq_true h
theorem qyc{l l':List Int}{k:Nat}(h:l=l')(hk:k=l'.length):zR [.ref 0 0 k true 1] [some ⟨.ints .u8 l,false⟩]=zR [.ref 0 0 l'.length true 1] [some ⟨.ints .u8 l',false⟩]:=by rw[h,hk]
theorem xb5a(tag n:Int)(hp:ql8 tag n=true):xbwy tag n=zR [.ref 0 0 (qd3 tag n).length true 1] [some ⟨.ints .u8 (qd3 tag n),false⟩]:=by
 obtain⟨ht,hn⟩:=qvb hp;unfold xbwy qd3;rw[qab];unfold qcw;have et:IntKind.u8.wrap tag=tag:=u8_in _ (by omega);refine qae (fun h=> ?_) fun h=>qae (fun h2=> ?_) fun h2=>qae (fun h3=> ?_) fun h3=> ?_
 ·rw[if_pos h];exact qyc (by rw[et,show IntKind.u8.wrap n=n from u8_in _ (by omega)]) rfl
 ·rw[if_neg h,if_pos h2];exact qyc (by rw[et,show IntKind.u8.wrap n=n from u8_in _ (by omega)]) rfl
 ·rw[if_neg h,if_neg h2,if_pos h3];refine qyc ?_ rfl;rw[et,zb8 (by omega),zb9 (by omega),show IntKind.i64.wrap (n/ 256)=n/ 256 from i64_in _ (by omega),show IntKind.u8.wrap (n/ 256)=n/ 256 from u8_in _ (by omega),show IntKind.u8.wrap (n % 256)=n % 256 from u8_in _ (by omega)]
 ·rw[if_neg h,if_neg h2,if_neg h3];refine qyc ?_ rfl;rw[et,zb8 (by omega),zb8 (by omega),show IntKind.i64.wrap (n/ 256)=n/ 256 from i64_in _ (by omega),show IntKind.i64.wrap (n/ 65536)=n/ 65536 from i64_in _ (by omega),zb9 (by omega),zb9 (by omega),
   show IntKind.u8.wrap (n/ 65536)=n/ 65536 from u8_in _ (by omega),show IntKind.u8.wrap (n/ 256 % 256)=n/ 256 % 256 from u8_in _ (by omega),show IntKind.u8.wrap (n % 256)=n % 256 from u8_in _ (by omega)]
open IntWalk (i64_in u8_in u32_in u64_in i64_quo u8_quo rem_in)
theorem xbu5(n:Int):IntKind.u8.wrap n=n % 256:=by simp[IntKind.wrap,IntKind.signed,IntKind.bits]
def putB(n:Int):Nat->List Int
 | 0=>[]
 | c+1=>n/ 2 ^ (8*c) % 256::putB n c
theorem xb0h(n:Int)(h0:0<=n)(h1:n<16777216): ∀(c f:Nat) (l:List Int),c<=3->c<f->l.length+c<=10->
  qmu (fun y8 _ _ _ y12=>zR [.ref 0 0 y8 true 1] [some ⟨.ints .u8 y12,false⟩]) f l.length n ((c:Int) - 1) l=zR [.ref 0 0 (l++putB n c).length true 1] [some ⟨.ints .u8 (l++putB n c),false⟩]
 | c,0,l,_,hf,_=>by omega
 | 0,f+1,l,_,_,hl=>by show qlj (qmu (fun y8 _ _ _ y12=>zR [.ref 0 0 y8 true 1] [some ⟨.ints .u8 y12,false⟩]) f) (fun y8 _ _ _ y12=>zR [.ref 0 0 y8 true 1] [some ⟨.ints .u8 y12,false⟩]) l.length n (((0:Nat):Int) - 1) l=_;unfold qlj;refine qcq (by omega) ?_;simp only[putB,zbz]
 | c+1,f+1,l,hc,hf,hl=>by
  show qlj (qmu (fun y8 _ _ _ y12=>zR [.ref 0 0 y8 true 1] [some ⟨.ints .u8 y12,false⟩]) f) (fun y8 _ _ _ y12=>zR [.ref 0 0 y8 true 1] [some ⟨.ints .u8 y12,false⟩]) l.length n (((c+1:Nat):Int) - 1) l=_;unfold qlj;have e1:((c+1:Nat):Int) - 1=c:=by omega
  rw[e1];refine qaq (by omega) ?_;simp only[show IntKind.i64.wrap ((8:Int)*(c:Int))=((8*c:Nat):Int) from(i64_in _ (by omega)).trans (by omega)];refine qcq (by omega) ?_;have e2:min ((8*c:Nat):Int).toNat 64=8*c:=by show min (8*c) 64=8*c;omega
  simp only[e2];have e3:IntKind.u8.wrap (Int.fdiv n (2 ^ (8*c)))=n/ 2 ^ (8*c) % 256:=by
   have hc2:c=0\/c=1\/c=2:=by omega
   rw[xbu5];rcases hc2 with rfl|rfl|rfl<;>rw[zbh n (by decide)]
  rw[e3,show IntKind.i64.wrap ((c:Int) - 1)=(c:Int) - 1 from i64_in _ (by omega)];refine qdj (by simp only[zaf,zaz];omega) (qdj (by simp only[zaf,zaz];omega) ?_);refine(xb0h n h0 h1 c f _ (by omega) (by omega) (by simp only[zaf,zaz];omega)).trans ?_;simp only[putB,zci,List.singleton_append]
theorem xb8c(tag n:Int)(hp:ql8 tag n=true):xb6z tag n=zR [.ref 0 0 (qd3 tag n).length true 1] [some ⟨.ints .u8 (qd3 tag n),false⟩]:=by
 obtain⟨ht,hn⟩:=qvb hp;unfold xb6z qd3 qcn;simp only[qab];unfold qcw qas;have et:IntKind.u8.wrap tag=tag:=u8_in _ (by omega);rw[et];by_cases h:n<128
 ·rw[if_pos h,if_pos h,show IntKind.i64.wrap ((1:Int) - 1)=0 from i64_in _ (by omega),show IntKind.u8.wrap n=n from u8_in _ (by omega)];exact qaq rfl rfl
 ·rw[if_neg h,if_neg h];have fin: ∀c:Nat,1<=c->c<=3->∀l',[tag,128+(c:Int)]++putB n c=l'->(cond (decide (IntKind.i64.wrap ((c:Int)+1 - 1)=0)) (zR [.ref 0 0 2 true 1] [some ⟨.ints .u8 [tag,IntKind.u8.wrap n],false⟩]) (qmu (fun y8 _ _ _ y12=>zR [.ref 0 0 y8 true 1] [some ⟨.ints .u8 y12,false⟩]) FUEL 2 n (IntKind.i64.wrap (IntKind.i64.wrap ((c:Int)+1 - 1) - 1)) [tag,IntKind.u8.wrap (IntKind.i64.wrap ((128:Int)+IntKind.i64.wrap ((c:Int)+1 - 1)))]))=zR [.ref 0 0 l'.length true 1] [some ⟨.ints .u8 l',false⟩]:=fun c h1 h3 l' hl'=>by rw[show IntKind.i64.wrap ((c:Int)+1 - 1)=c from(i64_in _ (by omega)).trans (by omega),show IntKind.i64.wrap ((128:Int)+c)=128+c from i64_in _ (by omega),show IntKind.u8.wrap ((128:Int)+c)=128+c from u8_in _ (by omega),show IntKind.i64.wrap ((c:Int) - 1)=(c:Int) - 1 from i64_in _ (by omega)];refine qcq (by omega) ((xb0h n hn.1 hn.2 c FUEL [tag,128+(c:Int)] h3 (by unfold FUEL;omega) (by simp only[zac,zbr];omega)).trans ?_);rw[hl']
  by_cases h2:n<256
  ·rw[if_pos h2,if_pos h2];refine fin 1 (by omega) (by omega) _ ?_;show[tag,(129:Int),n/ 1 % 256]=_;rw[show n/ 1 % 256=n by omega]
  ·rw[if_neg h2,if_neg h2];by_cases h3:n<65536
   ·rw[if_pos h3,if_pos h3];refine fin 2 (by omega) (by omega) _ ?_;show[tag,(130:Int),n/ 256 % 256,n/ 1 % 256]=_;rw[show n/ 256 % 256=n/ 256 by omega,show n/ 1 % 256=n % 256 by omega]
   ·rw[if_neg h3,if_neg h3];refine fin 3 (by omega) (by omega) _ ?_;show[tag,(131:Int),n/ 65536 % 256,n/ 256 % 256,n/ 1 % 256]=_;rw[show n/ 65536 % 256=n/ 65536 by omega,show n/ 1 % 256=n % 256 by omega]
theorem xbk5{c:CV}(h:xb0n c=true): ∃x,c=.sli .u8 x/\rowB x=true:=by
 unfold xb0n at h;split at h
 ·exact⟨_,rfl,h⟩
 ·exact absurd h zb4
theorem qvf{l:List CV}(h:qpc l=true):l.length<=1000000/\(∀c∈l, ∃x,c=.sli .u8 x)/\(l.flatMap qcf).length<=1000000:=by unfold qpc at h;rw[qab] at h;simp only[zab,decide_eq_true_eq,zai] at h;exact⟨h.1,fun c hc=>let ⟨x,e,_⟩:=xbk5 (h.2.1 c hc);⟨x,e⟩,h.2.2⟩
theorem qiv{l:List CV}{i:Nat}{x:List Int}(h:l[i]? =some (.sli .u8 x)):(l.drop i).flatMap qcf=x++(l.drop (i+1)).flatMap qcf:=by obtain⟨hlt,e⟩:=zad.1 h;rw[zb1 hlt,e,za1];rfl
theorem xbns(l:List CV)(hl:l.length<=1000000)(hall: ∀c∈l, ∃x,c=.sli .u8 x): ∀(f i:Nat) (acc:List Int),i<=l.length->l.length<f+i->acc.length+((l.drop i).flatMap qcf).length<=1000000->
  qki (fun _ _ _ _ _ _ y7=>zR [.cl (.sli .u8 y7)] []) f l acc.length i acc=zR [.cl (.sli .u8 (acc++(l.drop i).flatMap qcf))] []
 | 0,i,acc,hi,hf,_=>by omega
 | f+1,i,acc,hi,hf,hs=>by
  show qln (qki (fun _ _ _ _ _ _ y7=>zR [.cl (.sli .u8 y7)] []) f) (fun _ _ _ _ _ _ y7=>zR [.cl (.sli .u8 y7)] []) l acc.length i acc=_;unfold qln;refine qae (fun h=> ?_) fun h=> ?_
  ·obtain⟨c,hc⟩:=qb3 (b:=l) (i:=i) (by omega);obtain⟨x,rfl⟩:=hall c (zae hc);refine qaq (by omega) (qaq h ?_);rw[show(i:Int).toNat=i from rfl,hc,zaj];refine qak rfl ?_;have hfl:=qiv hc;rw[hfl,zaf] at hs;have e:qcf ((cell1 (.sli .u8 x)).getD 0 .nili)=x:=rfl;simp only[e];refine qdj (by simp only[zaf];omega) (qdj (by simp only[zaf];omega) ?_);rw[show IntKind.i64.wrap ((i:Int)+1)=((i+1:Nat):Int) from(i64_in _ (by omega)).trans (by omega)];refine(xbns l hl hall f (i+1) (acc++x) (by omega) (by omega) (by simp only[zaf];omega)).trans ?_;rw[hfl,zci]
  ·rw[zbo (by omega),List.flatMap_nil,zbz]
theorem xby4(l:List CV)(hp:qpc l=true):xbm3 l=zR [.cl (.sli .u8 (qd5 l))] []:=by obtain⟨h1,h2,h3⟩:=qvf hp;unfold xbm3 qd5;simp only[qab];exact xbns l h1 h2 FUEL 0 [] (by omega) (by unfold FUEL;omega) (by simpa using h3)
theorem xbvy(l:List CV)(hl:l.length<=1000000)(hall: ∀c∈l, ∃x,c=.sli .u8 x): ∀(f i:Nat) (acc:List Int),i<=l.length->l.length<f+i->acc.length+((l.drop i).flatMap qcf).length<=1000000->
  qgx (fun _ _ _ _ y27=>zR [.cl (.sli .u8 y27)] []) f acc.length l (l.length:Int) i acc=zR [.cl (.sli .u8 (acc++(l.drop i).flatMap qcf))] []
 | 0,i,acc,hi,hf,_=>by omega
 | f+1,i,acc,hi,hf,hs=>by
  show qhh (qgx (fun _ _ _ _ y27=>zR [.cl (.sli .u8 y27)] []) f) (fun _ _ _ _ y27=>zR [.cl (.sli .u8 y27)] []) acc.length l (l.length:Int) i acc=_;unfold qhh;refine qae (fun h=> ?_) fun h=> ?_
  ·obtain⟨c,hc⟩:=qb3 (b:=l) (i:=i) (by omega);obtain⟨x,rfl⟩:=hall c (zae hc);refine qaq (by omega) (qaq h ?_);rw[show(i:Int).toNat=i from rfl,hc,zaj];refine qak rfl ?_;have hfl:=qiv hc;rw[hfl,zaf] at hs;have e:qcf ((cell1 (.sli .u8 x)).getD 0 .nili)=x:=rfl;simp only[e];refine qdj (by simp only[zaf];omega) (qdj (by simp only[zaf];omega) ?_);rw[show IntKind.i64.wrap ((i:Int)+1)=((i+1:Nat):Int) from(i64_in _ (by omega)).trans (by omega)];refine(xbvy l hl hall f (i+1) (acc++x) (by omega) (by omega) (by simp only[zaf];omega)).trans ?_;rw[hfl,zci]
  ·rw[zbo (by omega),List.flatMap_nil,zbz]
theorem xboo(l:List CV)(hl:l.length<=1000000)(hall: ∀c∈l, ∃x,c=.sli .u8 x)(k0:ByteArray->List CV->Int->List Int->List CV->Int->Int->List CV->Nat->List Int->Int->List Int->Int->Int->Int->ByteArray->Option Out)(k1:List CV->Int->List CV->Int->Int->Option Out): ∀(f i:Nat) (n:Int),i<=l.length->l.length<f+i->0<=n->n+((l.drop i).flatMap qcf).length<=1000000->
  qic k0 k1 f l n l (l.length:Int) i=k1 l (n+((l.drop i).flatMap qcf).length) l (l.length:Int) l.length
 | 0,i,n,hi,hf,_,_=>by omega
 | f+1,i,n,hi,hf,h0,hs=>by
  show qi7 (qic k0 k1 f) k0 k1 l n l (l.length:Int) i=_;unfold qi7;refine qae (fun h=> ?_) fun h=> ?_
  ·obtain⟨c,hc⟩:=qb3 (b:=l) (i:=i) (by omega);obtain⟨x,rfl⟩:=hall c (zae hc);refine qaq (by omega) (qaq h ?_);rw[show(i:Int).toNat=i from rfl,hc,zaj];refine qak rfl ?_;have hfl:=qiv hc;rw[hfl,zaf] at hs;have e:qcf ((cell1 (.sli .u8 x)).getD 0 .nili)=x:=rfl;simp only[e];rw[show IntKind.i64.wrap (n+(x.length:Int))=n+x.length from i64_in _ (by omega)];refine qcq (by omega) ?_;rw[show IntKind.i64.wrap ((i:Int)+1)=((i+1:Nat):Int) from(i64_in _ (by omega)).trans (by omega)];refine(xboo l hl hall k0 k1 f (i+1) _ (by omega) (by omega) (by omega) (by omega)).trans ?_;rw[hfl,zaf,show n+(x.length:Int)+(((l.drop (i+1)).flatMap qcf).length:Nat)=n+((x.length+((l.drop (i+1)).flatMap qcf).length:Nat):Int) by omega]
  ·obtain rfl:i=l.length:=by omega
   rw[zbo (zas _)];simp
theorem xbs1(l:List CV)(hp:qpc l=true):xbes l=zR [.cl (.sli .u8 (qd5 l))] []:=by obtain⟨h1,h2,h3⟩:=qvf hp;unfold xbes qd5 qa6;simp only[qab];refine(xboo l h1 h2 _ _ FUEL 0 0 (by omega) (by unfold FUEL;omega) (by omega) (by rw[zbx];omega)).trans ?_;refine qak ?_ (xbvy l h1 h2 FUEL 0 [] (by omega) (by unfold FUEL;omega) (by simpa using h3));unfold q1g;rw[qab,zbx];exact decide_eq_true (by omega)
end Go.Proofs.YtoaakappnhemiaaGreatDoorA
