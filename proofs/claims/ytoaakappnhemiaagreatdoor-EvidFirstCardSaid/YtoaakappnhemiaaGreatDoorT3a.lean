/-
 What the layers below come to (their lemmas, as far as this seat needs them). Conditions: each function's own.
-/
import Derived.Test.YtoaakappnhemiaaGreatDoorT2a
import Derived.Test.YtoaakappnhemiaaGreatDoorT2b
import Derived.Test.YtoaakappnhemiaaGreatDoorT2c
import Derived.Test.YtoaakappnhemiaaGreatDoorK3
import Derived.IntWalk
set_option linter.unusedVariables false
set_option linter.unusedSimpArgs false
set_option maxRecDepth 100000
namespace Go.Proofs.YtoaakappnhemiaaGreatDoorA
theorem q2y (y:Int):qeh (y+1)=qeh y+365+(if qlx y=true then 1 else 0):=by
 unfold qeh qlx
 simp only[decide_eq_true_eq]
 split<;>omega
theorem qqx {y m:Int} (h1:1<=m) (h2:m<=12):qd3 y (m+1)=qd3 y m+qic y m:=by
 have hm:m=1\/m=2\/m=3\/m=4\/m=5\/m=6\/m=7\/m=8\/m=9\/m=10\/m=11\/m=12:=by omega
 unfold qd3 qic
 cases qlx y<;>rcases hm with h|h|h|h|h|h|h|h|h|h|h|h<;>subst h<;>rfl
theorem q72 (y:Int):qd3 y 1=0:=by unfold qd3;rfl
theorem qq5 (y m:Int):28<=qic y m/\qic y m<=31:=by
 unfold qic
 split
 ·split<;>omega
 ·split<;>omega
open IntWalk (i64_in u8_in u32_in u64_in i64_quo u8_quo rem_in)
theorem xbx1 (s:ByteArray) (hp:decide (2<=s.size)=true):xbjb s=some (.ret [.cl (.int .i64 (qfh s))] []):=by
 simp only[decide_eq_true_eq] at hp
 unfold xbjb qfh qoa
 have r0:=qj0 s 0
 have r1:=qj0 s 1
 refine qan (by omega) ?_
 extract_lets x1 x2 x3 x4 x5 x6 x7 x8
 have e2:x2=bget s 0:=i64_in _ (by omega)
 have e3:x3=bget s 0 - 48:=by show IntKind.i64.wrap (x2 - 48)=_;rw[e2];exact i64_in _ (by omega)
 refine qan (by omega) ?_
 have e5:x5=bget s 1:=i64_in _ (by omega)
 have e6:x6=bget s 1 - 48:=by show IntKind.i64.wrap (x5 - 48)=_;rw[e5];exact i64_in _ (by omega)
 refine qae (fun h=> ?_) fun h1=>qae (fun h=> ?_) fun h2=>qae (fun h=> ?_) fun h3=>qae (fun h=> ?_) fun h4=> ?_
 ·rw[if_pos (by omega)]
 ·rw[if_pos (by omega)]
 ·rw[if_pos (by omega)]
 ·rw[if_pos (by omega)]
 ·rw[if_neg (by omega)]
  have e7:x7=10*x3:=i64_in _ (by omega)
  have e8:x8=10*x3+x6:=by show IntKind.i64.wrap (x7+x6)=_;rw[e7];exact i64_in _ (by omega)
  exact qk9 (by rw[e8,e3,e6])
theorem xb3e (d0 d1 d2 d3 d4 d5:Int) (hp:stOk d0=true):xbsk d0 d1 d2 d3 d4 d5=some (.ret [.cl (.bool (qlx d0))] []):=by
 simp only[stOk,decide_eq_true_eq] at hp
 unfold xbsk qlx
 rw[rem_in d0 4 (by omega),rem_in d0 100 (by omega),rem_in d0 400 (by omega)]
 refine qae (fun h=>qay (fun h2=> ?_) fun h2=> ?_) fun h=> ?_
 ·exact qaz (by symm;rw[decide_eq_true_eq];exact⟨h,.inl h2⟩)
 ·refine qaz (by rw[zbg];simp only[decide_eq_true_eq];omega)
 ·exact qaz (by symm;rw[decide_eq_false_iff_not];exact fun h'=>h h'.1)
theorem xb0z (y:Int) (hp:stOk y=true):xbt2 y=some (.ret [.cl (.bool (qlx y))] []):=by
 simp only[stOk,decide_eq_true_eq] at hp
 unfold xbt2 qlx
 rw[rem_in y 4 (by omega),rem_in y 100 (by omega),rem_in y 400 (by omega)]
 refine qae (fun h=>qay (fun h2=> ?_) fun h2=> ?_) fun h=> ?_
 ·exact qaz (by symm;rw[decide_eq_true_eq];exact⟨h,.inl h2⟩)
 ·refine qaz (by rw[zbg];simp only[decide_eq_true_eq];omega)
 ·refine qaz (by rw[zbg];simp only[decide_eq_true_eq];omega)
theorem xb0v (d0 d1 d2 d3 d4 d5:Int) (hp:stOk d0=true):xbsb d0 d1 d2 d3 d4 d5=some (.ret [.cl (.int .i64 (qic d0 d1))] []):=by
 unfold xbsb qic
 refine qae (fun h=>qam hp (qcz (fun h2=> ?_) fun h2=> ?_)) fun h=>qae (fun h2=> ?_) fun h2=>qae (fun h3=> ?_) fun h3=>qae (fun h4=> ?_) fun h4=>qae (fun h5=> ?_) fun h5=> ?_
 ·rw[if_pos h,if_pos h2]
 ·rw[if_pos h,if_neg (by rw[h2];simp)]
 all_goals first|rw[if_neg h,if_pos (by omega)]|rw[if_neg h,if_neg (by omega)]
theorem xb4u (d0 d1 d2 d3 d4 d5:Int) (hp:true=true):xb4c d0 d1 d2 d3 d4 d5=some (.ret [.cl (.bool (qov d0 d1 d2 d3 d4 d5))] []):=by
 unfold xb4c qov
 have no: ∀ {p:Prop} [Decidable p], ¬p->some (Out.ret [.cl (.bool false)] [])=some (Out.ret [.cl (.bool (decide p))] []):=fun h=>qaz (by symm;rw[decide_eq_false_iff_not];exact h)
 refine qae (fun h=>no (by omega)) fun h1=>qae (fun h=>no (by omega)) fun h2=>qae (fun h=>no (by omega)) fun h3=>qae (fun h=>no (by omega)) fun h4=>qae (fun h=>no (by omega)) fun h5=>qam (by simp only[stOk,decide_eq_true_eq];omega) (qae (fun h=>no (by omega)) fun h6=>
  qae (fun g1=>qae (fun g2=>qae (fun g3=>qae (fun g4=>qae (fun g5=> ?_) fun h=>no (by omega)) fun h=>no (by omega)) fun h=>no (by omega)) fun h=>no (by omega)) fun h=>no (by omega))
 refine qaz ?_
 rw[zbg]
 simp only[decide_eq_true_eq]
 omega
theorem qm8 {y m d h i s:Int} (hp:qov y m d h i s=true):(1<=y/\y<=9999/\1<=m/\m<=12)/\(1<=d/\d<=qic y m)/\0<=h/\h<24/\0<=i/\i<60/\0<=s/\s<60:=by
 unfold qov at hp
 simpa only [decide_eq_true_eq] using hp
theorem xb2b (y m:Int) (hp:true=true):xbyn y m=some (.ret [.cl (.int .i64 (qiz y m))] []):=by
 unfold xbyn qiz
 refine qae (fun h=> ?_) fun h1=>qae (fun h=> ?_) fun h2=>qae (fun h=> ?_) fun h3=>qae (fun h=> ?_) fun h4=> ?_
 ·rw[if_neg (by omega)]
 ·rw[if_neg (by omega)]
 ·rw[if_neg (by omega)]
 ·rw[if_neg (by omega)]
 rw[if_pos (by omega)]
 unfold qic
 refine qae (fun h=>qam (by simp only[stOk,decide_eq_true_eq];omega) (qcz (fun h2=> ?_) fun h2=> ?_)) fun h=>qae (fun h2=> ?_) fun h2=>qae (fun h3=> ?_) fun h3=>qae (fun h4=> ?_) fun h4=>qae (fun h5=> ?_) fun h5=> ?_
 ·rw[if_pos h,if_pos h2]
 ·rw[if_pos h,if_neg (by rw[h2];simp)]
 all_goals first|rw[if_neg h,if_pos (by omega)]|rw[if_neg h,if_neg (by omega)]
open IntWalk (i64_in u8_in u32_in u64_in i64_quo u8_quo rem_in)
theorem xbzn (y:Int) (hp:stOk y=true):xbjv y=some (.ret [.cl (.int .i64 (qeh y))] []):=by
 simp only[stOk,decide_eq_true_eq] at hp
 unfold xbjv qeh
 extract_lets x1 x2 x3 x4 x5 x6 x7 x8
 have e1:x1=y - 1:=i64_in _ (by omega)
 have e2:x2=x1*365:=i64_in _ (by omega)
 have e3:x3=x1/ 4:=i64_quo _ _ (by omega)
 have e4:x4=x2+x3:=i64_in _ (by omega)
 have e5:x5=x1/ 100:=i64_quo _ _ (by omega)
 have e6:x6=x4 - x5:=i64_in _ (by omega)
 have e7:x7=x1/ 400:=i64_quo _ _ (by omega)
 have e8:x8=x6+x7:=i64_in _ (by omega)
 exact qk9 (by rw[e8,e6,e4,e2,e3,e5,e7,e1])
theorem xb16 (d0 d1 d2 d3 d4 d5:Int) (hp:qov d0 d1 d2 d3 d4 d5=true):xbvy d0 d1 d2 d3 d4 d5=some (.ret [.cl (.int .i64 (qsy d0 d1 d2 d3 d4 d5))] []):=by
 obtain⟨⟨a1,a2,a3,a4⟩,⟨a5,a6⟩,a7,a8,a9,a10,a11,a12⟩:=qm8 hp
 have a6':d2<=31:=by have:=qq5 d0 d1;omega
 clear a6 hp
 have hs:=q2y d0
 unfold xbvy
 have hy0:qeh d0=(d0 - 1)*365+(d0 - 1)/ 4 - (d0 - 1)/ 100+(d0 - 1)/ 400:=rfl
 have hy1:qeh (d0+1)=d0*365+d0/ 4 - d0/ 100+d0/ 400:=by unfold qeh;rw[show d0+1 - 1=d0 by omega]
 rw[hy1] at hs
 extract_lets x1 x2 x3 x4 x5 x6 x7 x8 x9 x10 x11 x12 x13 x14 x15 x16 x17 x18 x19 x20 x21 x22 x23 x24 x25 x26 x27 x28 x29 x30 x31 x32 x33 x34 x35 x36 x37 x38 x39 x40 x41 x42 x43
 have e1:x1=d1 - 3:=i64_in _ (by omega)
 refine qae (fun h=>qk9 ?_) fun h=>qk9 ?_
 ·have e2:x2=d0 - 1:=i64_in _ (by omega)
  have e3:x3=d1+9:=(i64_in (x1+12) (by omega)).trans (by omega)
  have e4:x4=x2/ 400:=i64_quo _ _ (by omega)
  have e5:x5=x2 % 400:=rem_in _ _ (by omega)
  clear_value x1 x2 x3 x4 x5
  have r4:0<=x4/\x4<=24/\x2=400*x4+x5/\0<=x5/\x5<=399:=by clear hs hy0 hy1;omega
  have c4:(d0 - 1)/ 4=100*x4+x5/ 4/\(d0 - 1)/ 100=4*x4+x5/ 100/\(d0 - 1)/ 400=x4:=by clear hs hy0 hy1;omega
  have e6:x6=153*x3:=i64_in _ (by omega)
  have e7:x7=153*x3+2:=(i64_in (x6+2) (by omega)).trans (by omega)
  have e8:x8=(153*x3+2)/ 5:=(i64_quo x7 5 (by omega)).trans (by rw[e7])
  clear_value x6 x7 x8
  have r8:306<=x8/\x8<=337/\x8=306+31*(d1 - 1):=by clear hs hy0 hy1 r4 c4 e4 e5;omega
  clear e4 e5 e6 e7 e8 hs hy1
  have e9:x9=x8+d2:=i64_in _ (by omega)
  have e10:x10=x8+d2 - 1:=(i64_in (x9 - 1) (by omega)).trans (by omega)
  have e11:x11=x4*146097:=i64_in _ (by omega)
  have e12:x12=x5*365:=i64_in _ (by omega)
  have e13:x13=x11+x12:=i64_in _ (by omega)
  have e14:x14=x5/ 4:=i64_quo _ _ (by omega)
  have e15:x15=x13+x14:=i64_in _ (by omega)
  have e16:x16=x5/ 100:=i64_quo _ _ (by omega)
  have e17:x17=x15 - x16:=i64_in _ (by omega)
  have e18:x18=x17+x10:=i64_in _ (by omega)
  have e19:x19=x18 - 719468:=i64_in _ (by omega)
  have e20:x20=x19*86400:=i64_in _ (by omega)
  have e21:x21=d3*3600:=i64_in _ (by omega)
  have e22:x22=d4*60:=i64_in _ (by omega)
  have e23:x23=x21+x22:=i64_in _ (by omega)
  have e24:x24=x23+d5:=i64_in _ (by omega)
  have e25:x25=x20+x24:=i64_in _ (by omega)
  have hm:qd3 d0 d1=31*(d1 - 1):=by unfold qd3;rw[if_pos (by omega)]
  have hday:qeh d0+qd3 d0 d1+(d2 - 1)=x19+719162:=by
   rw[hy0,hm,c4.1,c4.2.1,c4.2.2,e19,e18,e17,e15,e13,e11,e12,e14,e16,e10]
   omega
  unfold qsy
  rw[hday,e25,e20,e24,e23,e21,e22]
  omega
 ·have e26:x26=d0/ 400:=i64_quo _ _ (by omega)
  have e27:x27=d0 % 400:=rem_in _ _ (by omega)
  clear_value x1 x26 x27
  have r4:0<=x26/\x26<=24/\d0=400*x26+x27/\0<=x27/\x27<=399:=by clear hs hy0 hy1;omega
  have c4:d0/ 4=100*x26+x27/ 4/\d0/ 100=4*x26+x27/ 100/\d0/ 400=x26:=by clear hs hy0 hy1;omega
  have e28:x28=153*x1:=i64_in _ (by omega)
  have e29:x29=153*x1+2:=(i64_in (x28+2) (by omega)).trans (by omega)
  have e30:x30=(153*x1+2)/ 5:=(i64_quo x29 5 (by omega)).trans (by rw[e29])
  clear_value x28 x29 x30
  have r8:0<=x30/\x30<=337:=by clear hs hy0 hy1 r4 c4;omega
  have hm:qd3 d0 d1=x30+59+(if qlx d0=true then 1 else 0):=by unfold qd3;rw[if_neg (by omega), <- e1,e30]
  clear e26 e27 e28 e29 e30 hy0 hy1
  have e31:x31=x30+d2:=i64_in _ (by omega)
  have e32:x32=x30+d2 - 1:=(i64_in (x31 - 1) (by omega)).trans (by omega)
  have e33:x33=x26*146097:=i64_in _ (by omega)
  have e34:x34=x27*365:=i64_in _ (by omega)
  have e35:x35=x33+x34:=i64_in _ (by omega)
  have e36:x36=x27/ 4:=i64_quo _ _ (by omega)
  have e37:x37=x35+x36:=i64_in _ (by omega)
  have e38:x38=x27/ 100:=i64_quo _ _ (by omega)
  have e39:x39=x37 - x38:=i64_in _ (by omega)
  have e40:x40=x39+x32:=i64_in _ (by omega)
  have e41:x41=x40 - 719468:=i64_in _ (by omega)
  have e42:x42=x41*86400:=i64_in _ (by omega)
  have e21:x21=d3*3600:=i64_in _ (by omega)
  have e22:x22=d4*60:=i64_in _ (by omega)
  have e23:x23=x21+x22:=i64_in _ (by omega)
  have e24:x24=x23+d5:=i64_in _ (by omega)
  have e43:x43=x42+x24:=i64_in _ (by omega)
  have hday:qeh d0+qd3 d0 d1+(d2 - 1)=x41+719162:=by
   rw[hm]
   generalize (if qlx d0=true then 1 else 0:Int)=lp at*
   rw[c4.1,c4.2.1,c4.2.2] at hs
   rw[e41,e40,e39,e37,e35,e33,e34,e36,e38,e32]
   omega
  unfold qsy
  rw[hday,e43,e42,e24,e23,e21,e22]
  omega
open IntWalk (i64_in u8_in u32_in u64_in i64_quo u8_quo rem_in)
theorem xb02 (s:ByteArray) (hp:true=true):xbyj s=some (.ret [.cl (.int .i64 (qn4 s).1),.cl (.int .i64 (qn4 s).2)] []):=by
 unfold xbyj qn4
 have dig: ∀k:Nat,(k:Int)+2<=s.size->qfh (s.extract k s.size)=qoa (bget s k) (bget s (k+1)):=fun k hk=>by
  unfold qfh
  rw[qc4 s (by omega) (by omega) (zar _),qc4 s (by omega) (by omega) (zar _),Int.add_zero]
 have sz: ∀k:Nat,(s.extract k s.size).size=s.size - k:=fun k=>by rw[zdd,Nat.min_self]
 refine qay (fun h=> ?_) fun h=>qan (by omega) ?_
 ·rw[if_neg (by omega)]
 have hs:s.size=15:=by omega
 have d2:=dig 2 (by omega)
 have d4:=dig 4 (by omega)
 have d6:=dig 6 (by omega)
 have d8:=dig 8 (by omega)
 have d10:=dig 10 (by omega)
 have d12:=dig 12 (by omega)
 extract_lets x1 s2 r3 s4 r5 s6 r7 s8 r9 s10 r11 s12 r13 r14 x15 x16 r17 r18 y m d hh i c
 refine qay (fun h=> ?_) fun h1=> ?_
 ·rw[if_neg fun e=>h e.2]
 rw[if_pos ⟨hs,h1⟩]
 have z2:=sz 2
 have z4:=sz 4
 have z6:=sz 6
 have z8:=sz 8
 have z10:=sz 10
 have z12:=sz 12
 have rng: ∀a b,0<=a/\a<=255->0<=b/\b<=255-> -100000<=qoa a b/\qoa a b<=99:=fun a b h1 h2=>by
  unfold qoa
  split<;>omega
 have g2:=rng _ _ (qj0 s 2) (qj0 s 3)
 have g0:=rng _ _ (qj0 s 0) (qj0 s 1)
 have e14:r14=qoa (bget s 0) (bget s 1):=rfl
 have e3:r3=qoa (bget s 2) (bget s 3):=d2
 have e15:x15=100*qoa (bget s 0) (bget s 1):=i64_in _ (by rw[e14];omega)
 have e16:x16=y:=(i64_in (r3+x15) (by omega)).trans (by rw[e3,e15])
 have e5:r5=m:=d4
 have e7:r7=d:=d6
 have e9:r9=hh:=d8
 have e11:r11=i:=d10
 have e13:r13=c:=d12
 have hr:r17=qov y m d hh i c:=by show qov x16 r5 r7 r9 r11 r13=_;rw[e16,e5,e7,e9,e11,e13]
 have h18:r18=qsy y m d hh i c:=by show qsy x16 r5 r7 r9 r11 r13=_;rw[e16,e5,e7,e9,e11,e13]
 refine qan (by omega) (qan (by show 2<=(s.extract 2 s.size).size;omega) (qan (by omega) (qan (by show 2<=(s.extract 4 s.size).size;omega) (qan (by omega) (qan (by show 2<=(s.extract 6 s.size).size;omega) (qan (by omega) (qan (by show 2<=(s.extract 8 s.size).size;omega) (qan (by omega) (qan (by show 2<=(s.extract 10 s.size).size;omega)
  (qan (by omega) (qan (by show 2<=(s.extract 12 s.size).size;omega) (qan (by omega) ?_))))))))))))
 rw[hr]
 cases hf:qov y m d hh i c with
 | false=>rfl
 | true=>
  rw[if_pos rfl]
  show cond (qov x16 r5 r7 r9 r11 r13) (some (Out.ret [.cl (.int .i64 r18),.cl (.int .i64 0)] [])) none=_
  rw[show qov x16 r5 r7 r9 r11 r13=true from hr.trans hf,h18]
  rfl
open IntWalk (i64_in u8_in u32_in u64_in i64_quo u8_quo rem_in)
theorem q3k (s:ByteArray) (hs:s.size<=18): ∀(fuel i:Nat) (acc:Int),i<=s.size->s.size<fuel+i->0<=acc->acc<((10 ^ i:Nat):Int)->
  qht (fun _ _ _ _ _ _ _ _ _ _=>some (.ret [.cl (.int .i64 (-1))] [])) (fun _ _ _ _ _ _ _ _ _ _ _ _ _ _=>some (.ret [.cl (.int .i64 (-1))] [])) (fun _ y2 _ _ _ _=>some (.ret [.cl (.int .i64 y2)] [])) fuel s acc i=some (.ret [.cl (.int .i64 (quf ((bytesOf s).drop i) acc))] [])
 | 0,i,acc,hi,hf,h0,h1=>by omega
 | fuel+1,i,acc,hi,hf,h0,h1=>by
  simp only[qht]
  unfold qlk
  have rb:=qj0 s i
  extract_lets x1 x3 x5 x6 x7 x8
  refine qae (fun h=> ?_) fun h=> ?_
  ·have hlt:i<s.size:=by omega
   rw[qdx s hlt]
   refine qan (by omega) (qan h ?_)
   unfold quf
   refine qae (fun h2=> ?_) fun h2=>qan (by omega) (qan h (qae (fun h3=> ?_) fun h3=>qan (by omega) (qan h ?_)))
   ·rw[if_pos (.inl h2)]
   ·rw[if_pos (.inr h3)]
   ·have h2: ¬bget s i<48:=h2
    have h3: ¬57<bget s i:=h3
    have e1:x1=bget s i:=rfl
    clear_value x1
    rw[if_neg (by omega)]
    have hp:10 ^ (i+1)=10*10 ^ i:=by rw[Nat.pow_succ];omega
    have hp2:10 ^ i<=10 ^ 17:=zco (by omega) (by omega)
    have e3:x3=acc*10:=i64_in _ (by omega)
    have e5:x5=x1 - 48:=u8_in _ (by omega)
    have e6:x6=x1 - 48:=(i64_in x5 (by omega)).trans e5
    have e7:x7=acc*10+(x1 - 48):=(i64_in (x3+x6) (by omega)).trans (by rw[e3,e6])
    have e8:x8=((i+1:Nat):Int):=(i64_in ((i:Int)+1) (by omega)).trans (by omega)
    rw[e7,e8,e1]
    exact q3k s hs fuel (i+1) _ (by omega) (by omega) (by omega) (by omega)
  ·have:i=s.size:=by omega
   subst this
   rw[zbl (by rw[qfk];exact zar _)]
   rfl
theorem xbm8 (s:ByteArray) (hp:decide (s.size<=18)=true):xbe6 s=some (.ret [.cl (.int .i64 (qds s))] []):=by
 simp only[decide_eq_true_eq] at hp
 unfold xbe6 qds
 rw[qab]
 exact q3k s hp FUEL 0 0 (by omega) (by unfold FUEL;omega) (by omega) (by omega)
theorem q88 {y m:Int} (h:1<=y/\y<=9999) (hm:1<=m/\m<=12):qiz y m=qd3 y (m+1) - qd3 y m:=by
 unfold qiz
 rw[if_pos (by omega),qqx hm.1 hm.2]
 omega
open IntWalk (i64_in u8_in u32_in u64_in i64_quo u8_quo rem_in)
theorem xbzc {y m h i c:Int} (F:Int->Int->Int->Int->Int->Int->Option Out) (hy:1<=y/\y<=9999) (hm:1<=m/\m<=12): ∀(fuel:Nat) (n k:Int),1<=k->k<=m->m - k<fuel->0<=n->n<=4000000+31*k->
  qhi (fun y18 y19 y20 y21 y22 y23 _ _ _=>F y18 y19 y20 y21 y22 y23) fuel y m h i c n k=F y m h i c (n+qd3 y m - qd3 y k)
 | 0,n,k,h1,h2,h3,h4,h5=>by omega
 | fuel+1,n,k,h1,h2,h3,h4,h5=>by
  rw[show qhi (fun y18 y19 y20 y21 y22 y23 _ _ _=>F y18 y19 y20 y21 y22 y23) (fuel+1)=qkp (qhi (fun y18 y19 y20 y21 y22 y23 _ _ _=>F y18 y19 y20 y21 y22 y23) fuel) (fun y18 y19 y20 y21 y22 y23 _ _ _=>F y18 y19 y20 y21 y22 y23) from rfl]
  unfold qkp
  have hmo:=q88 hy (m:=k) (by omega)
  have hst:=qqx (y:=y) (m:=k) (by omega) (by omega)
  have hr:=qq5 y k
  extract_lets r18 x19 x20
  have e18:r18=qic y k:=by show qiz y k=_;rw[hmo];omega
  refine qae (fun hlt=> ?_) fun hlt=> ?_
  ·have e19:x19=n+qic y k:=(i64_in (n+r18) (by omega)).trans (by rw[e18])
   have e20:x20=k+1:=i64_in _ (by omega)
   rw[e19,e20]
   rw[xbzc F hy hm fuel (n+qic y k) (k+1) (by omega) (by omega) (by omega) (by omega) (by omega),hst]
   congr 1
   omega
  ·have:k=m:=by omega
   subst this
   show F y k h i c n=_
   congr 1
   omega
theorem num2 {a b:Int} (ha:0<=a/\a<=255) (hb:0<=b/\b<=255):quf [a,b] 0=(if qoa a b<0 then -1 else qoa a b)/\(qoa a b= -100000\/0<=qoa a b/\qoa a b<=99):=by
 unfold qoa quf quf quf
 by_cases h1:a<48\/57<a
 ·rw[if_pos h1,if_pos (show(if a<48\/57<a\/b<48\/57<b then(-100000:Int) else _)<0 by rw[if_pos (by omega)];omega),if_pos (by omega)];exact⟨rfl,.inl rfl⟩
 ·by_cases h2:b<48\/57<b
  ·rw[if_neg h1,if_pos h2,if_pos (show(if a<48\/57<a\/b<48\/57<b then(-100000:Int) else _)<0 by rw[if_pos (by omega)];omega),if_pos (by omega)];exact⟨rfl,.inl rfl⟩
  ·rw[if_neg h1,if_neg h2,if_neg (by omega),if_neg (by omega)]
   exact⟨by omega,by omega⟩
theorem num4 {a b c d:Int} (ha:0<=a/\a<=255) (hb:0<=b/\b<=255) (hc:0<=c/\c<=255) (hd:0<=d/\d<=255):quf [a,b,c,d] 0=(if qoa a b<0\/qoa c d<0 then -1 else 100*qoa a b+qoa c d):=by
 unfold qoa quf quf quf quf quf
 by_cases h1:a<48\/57<a
 ·rw[if_pos h1,if_pos (.inl (by rw[if_pos (by omega)];omega))]
 ·by_cases h2:b<48\/57<b
  ·rw[if_neg h1,if_pos h2,if_pos (.inl (by rw[if_pos (by omega)];omega))]
  ·by_cases h3:c<48\/57<c
   ·rw[if_neg h1,if_neg h2,if_pos h3,if_pos (show c<48\/57<c\/d<48\/57<d by omega),if_pos (by omega)]
   ·by_cases h4:d<48\/57<d
    ·rw[if_neg h1,if_neg h2,if_neg h3,if_pos h4,if_pos (show c<48\/57<c\/d<48\/57<d by omega),if_pos (by omega)]
    ·rw[if_neg h1,if_neg h2,if_neg h3,if_neg h4,if_neg (show ¬(a<48\/57<a\/b<48\/57<b) by omega),if_neg (show ¬(c<48\/57<c\/d<48\/57<d) by omega),if_neg (by omega)]
     omega
theorem qj1 (s:ByteArray) {k:Nat} (h:k+2<=s.size):bytesOf (s.extract k (k+2))=[bget s k,bget s (k+1)]:=by
 have hz:(s.extract k (k+2)).size=2:=by rw[zdd];omega
 have h0:=qdx (s.extract k (k+2)) (i:=0) (by omega)
 have h1:=qdx (s.extract k (k+2)) (i:=1) (by omega)
 rw[zbn] at h0
 rw[h0,h1,zbl (by rw[qfk];omega),qc4 s (by omega) (by omega) h,qc4 s (by omega) (by omega) h]
 simp
theorem xbcg (s:ByteArray) (h:4<=s.size):bytesOf (s.extract 0 4)=[bget s 0,bget s 1,bget s 2,bget s 3]:=by
 have hz:(s.extract 0 4).size=4:=by rw[zdd];omega
 have h0:=qdx (s.extract 0 4) (i:=0) (by omega)
 have h1:=qdx (s.extract 0 4) (i:=1) (by omega)
 have h2:=qdx (s.extract 0 4) (i:=2) (by omega)
 have h3:=qdx (s.extract 0 4) (i:=3) (by omega)
 rw[zbn] at h0
 rw[h0,h1,h2,h3,zbl (by rw[qfk];omega),qc4 s (by omega) (by omega) h,qc4 s (by omega) (by omega) h,qc4 s (by omega) (by omega) h,qc4 s (by omega) (by omega) h]
 simp
theorem xbpk {D01 D23 D4 D6 D8 D10 D12:Int} (v01:D01= -100000\/0<=D01/\D01<=99) (v23:D23= -100000\/0<=D23/\D23<=99) (v4:D4= -100000\/0<=D4/\D4<=99) (v6:D6= -100000\/0<=D6/\D6<=99) (v8:D8= -100000\/0<=D8/\D8<=99) (v10:D10= -100000\/0<=D10/\D10<=99) (v12:D12= -100000\/0<=D12/\D12<=99)
  {y m d h i c:Int} (ey:y=if D01<0\/D23<0 then -1 else 100*D01+D23) (em:m=if D4<0 then -1 else D4) (ed:d=if D6<0 then -1 else D6) (eh:h=if D8<0 then -1 else D8) (ei:i=if D10<0 then -1 else D10) (ec:c=if D12<0 then -1 else D12):
  (qov (D23+100*D01) D4 D6 D8 D10 D12=true/\qov y m d h i c=true/\y=D23+100*D01/\m=D4/\d=D6/\h=D8/\i=D10/\c=D12)\/(qov (D23+100*D01) D4 D6 D8 D10 D12=false/\qov y m d h i c=false):=by
 cases hf:qov (D23+100*D01) D4 D6 D8 D10 D12 with
 | true=>
  left
  obtain⟨⟨a1,a2,a3,a4⟩,⟨a5,a6⟩,a7,a8,a9,a10,a11,a12⟩:=qm8 hf
  have e1:y=D23+100*D01:=by rw[ey,if_neg (by omega)];omega
  have e2:m=D4:=by rw[em,if_neg (by omega)]
  have e3:d=D6:=by rw[ed,if_neg (by omega)]
  have e4:h=D8:=by rw[eh,if_neg (by omega)]
  have e5:i=D10:=by rw[ei,if_neg (by omega)]
  have e6:c=D12:=by rw[ec,if_neg (by omega)]
  exact⟨rfl,by rw[e1,e2,e3,e4,e5,e6,hf],e1,e2,e3,e4,e5,e6⟩
 | false=>
  right
  refine⟨rfl, ?_⟩
  cases hg:qov y m d h i c with
  | false=>rfl
  | true=>
   exfalso
   obtain⟨⟨a1,a2,a3,a4⟩,⟨a5,a6⟩,a7,a8,a9,a10,a11,a12⟩:=qm8 hg
   have e1:y=D23+100*D01:=by split at ey<;>omega
   have e2:m=D4:=by split at em<;>omega
   have e3:d=D6:=by split at ed<;>omega
   have e4:h=D8:=by split at eh<;>omega
   have e5:i=D10:=by split at ei<;>omega
   have e6:c=D12:=by split at ec<;>omega
   rw[<- e1, <- e2, <- e3, <- e4, <- e5, <- e6,hg] at hf
   cases hf
theorem xb1p (s:ByteArray) (hp:true=true):xbzo s=some (.ret [.cl (.int .i64 (qn4 s).1),.cl (.int .i64 (qn4 s).2)] []):=by
 unfold xbzo qn4
 refine qay (fun h=> ?_) fun h=>qan (by omega) ?_
 ·rw[if_neg (by omega)]
 have hs:s.size=15:=by omega
 have sz: ∀k n:Nat,k+n<=15->(s.extract k (k+n)).size=n:=fun k n hk=>by rw[zdd];omega
 have z0:=sz 0 4 (by omega)
 have z4:=sz 4 2 (by omega)
 have z6:=sz 6 2 (by omega)
 have z8:=sz 8 2 (by omega)
 have z10:=sz 10 2 (by omega)
 have z12:=sz 12 2 (by omega)
 have b:=qj0 s
 have n0:qds (s.extract 0 4)=_:=(congrArg (quf · 0) (xbcg s (by omega))).trans (num4 (b 0) (b 1) (b 2) (b 3))
 have n4:qds (s.extract 4 6)=_:=(congrArg (quf · 0) (qj1 s (k:=4) (by omega))).trans (num2 (b 4) (b 5)).1
 have n6:qds (s.extract 6 8)=_:=(congrArg (quf · 0) (qj1 s (k:=6) (by omega))).trans (num2 (b 6) (b 7)).1
 have n8:qds (s.extract 8 10)=_:=(congrArg (quf · 0) (qj1 s (k:=8) (by omega))).trans (num2 (b 8) (b 9)).1
 have n10:qds (s.extract 10 12)=_:=(congrArg (quf · 0) (qj1 s (k:=10) (by omega))).trans (num2 (b 10) (b 11)).1
 have n12:qds (s.extract 12 14)=_:=(congrArg (quf · 0) (qj1 s (k:=12) (by omega))).trans (num2 (b 12) (b 13)).1
 have same:=xbpk (num2 (b 0) (b 1)).2 (num2 (b 2) (b 3)).2 (num2 (b 4) (b 5)).2 (num2 (b 6) (b 7)).2 (num2 (b 8) (b 9)).2 (num2 (b 10) (b 11)).2 (num2 (b 12) (b 13)).2 n0 n4 n6 n8 n10 n12
 extract_lets x1 s2 r3 s4 r5 s6 r7 s8 r9 s10 r11 s12 r13 r14 r15 x16 x17 y m d hh i c
 refine qay (fun h=> ?_) fun h1=> ?_
 ·rw[if_neg fun e=>h e.2]
 rw[if_pos ⟨hs,h1⟩]
 have z0:s2.size=4:=z0
 have z4:s4.size=2:=z4
 have z6:s6.size=2:=z6
 have z8:s8.size=2:=z8
 have z10:s10.size=2:=z10
 have z12:s12.size=2:=z12
 refine qan (by omega) (qan (by omega) (qan (by omega) (qan (by omega) (qan (by omega) (qan (by omega) (qan (by omega) (qan (by omega) (qan (by omega) (qan (by omega) (qan (by omega) (qan (by omega) ?_)))))))))))
 have same:(qov y m d hh i c=true/\qov r3 r5 r7 r9 r11 r13=true/\r3=y/\r5=m/\r7=d/\r9=hh/\r11=i/\r13=c)\/(qov y m d hh i c=false/\qov r3 r5 r7 r9 r11 r13=false):=same
 have e14:r14=qiz r3 r5:=rfl
 have e15:r15=qeh r3:=rfl
 have e16:x16=IntKind.i64.wrap (r7 - 1):=rfl
 have e17:x17=IntKind.i64.wrap (r15+x16):=rfl
 clear_value r14 r15 x16 x17 r3 r5 r7 r9 r11 r13 y m d hh i c s2 s4 s6 s8 s10 s12 x1
 clear n0 n4 n6 n8 n10 n12 z0 z4 z6 z8 z10 z12 b sz h1 hs h
 rcases same with⟨hf,hg,rfl,rfl,rfl,rfl,rfl,rfl⟩|⟨hf,hg⟩
 ·rw[if_pos hf]
  obtain⟨⟨a1,a2,a3,a4⟩,⟨a5,a6⟩,a7,a8,a9,a10,a11,a12⟩:=qm8 hf
  have hmo:qiz r3 r5=qic r3 r5:=by unfold qiz;rw[if_pos (by omega)]
  have hr:=qq5 r3 r5
  have hy:0<=qeh r3/\qeh r3<=3652059:=by unfold qeh;omega
  have e16:x16=r7 - 1:=e16.trans (i64_in _ (by omega))
  have e17:x17=qeh r3+(r7 - 1):=e17.trans ((i64_in _ (by omega)).trans (by rw[e15,e16]))
  refine qb6 (by omega) (qb6 (by omega) (qb6 (by omega) (qb6 (by omega) (qb6 (by omega) (qb6 (by omega) (qb6 (by omega) (qb6 (by omega) (qam (by simp only[stOk,decide_eq_true_eq];omega) ?_))))))))
  rw[qab,e17]
  refine(xbzc (fun _ _ y20 y21 y22 y23=>
            let x27:Int:=IntKind.i64.wrap (y23*86400)
            let x28:Int:=IntKind.i64.wrap (((-62135596800):Int)+x27)
            let x29:Int:=IntKind.i64.wrap (y20*3600)
            let x30:Int:=IntKind.i64.wrap (y21*60)
            let x31:Int:=IntKind.i64.wrap (x29+x30)
            let x32:Int:=IntKind.i64.wrap (x31+y22)
            let x33:Int:=IntKind.i64.wrap (x28+x32)
            some (.ret [.cl (.int .i64 x33),.cl (.int .i64 0)] [])) ⟨a1,a2⟩ ⟨a3,a4⟩ FUEL _ 1 (by omega) (by omega) (by unfold FUEL;omega) (by omega) (by omega)).trans ?_
  rw[q72]
  have hA:0<=qd3 r3 r5/\qd3 r3 r5<=335:=by refine⟨?_, ?_⟩<;>(unfold qd3;split<;>(try split)<;>omega)
  extract_lets x27 x28 x29 x30 x31 x32 x33
  have e27:x27=(qeh r3+(r7 - 1)+qd3 r3 r5 - 0)*86400:=i64_in _ (by omega)
  have e28:x28= -62135596800+x27:=i64_in _ (by omega)
  have e29:x29=r9*3600:=i64_in _ (by omega)
  have e30:x30=r11*60:=i64_in _ (by omega)
  have e31:x31=x29+x30:=i64_in _ (by omega)
  have e32:x32=x31+r13:=i64_in _ (by omega)
  have e33:x33=x28+x32:=i64_in _ (by omega)
  have e:x33=qsy r3 r5 r7 r9 r11 r13:=by
   unfold qsy
   rw[e33,e28,e27,e32,e31,e29,e30]
   omega
  rw[e]
 ·rw[if_neg (by rw[hf];simp)]
  have hg': ¬((1<=r3/\r3<=9999/\1<=r5/\r5<=12)/\(1<=r7/\r7<=qic r3 r5)/\0<=r9/\r9<24/\0<=r11/\r11<60/\0<=r13/\r13<60):=by
   unfold qov at hg
   simpa only [decide_eq_false_iff_not] using hg
  have hmo:qiz r3 r5=if 1<=r3/\r3<=9999/\1<=r5/\r5<=12 then qic r3 r5 else 0:=rfl
  refine qae (fun h=>rfl) fun g1=>qae (fun h=>rfl) fun g2=>qae (fun h=>rfl) fun g3=>qae (fun h=>rfl) fun g4=>qae (fun h=>rfl) fun g5=>qae (fun h=>rfl) fun g6=>qae (fun h=>rfl) fun g7=>qae (fun h=>rfl) fun g8=> ?_
  exfalso
  apply hg'
  rw[e14] at g2
  split at hmo<;>omega
open IntWalk (i64_in u8_in u32_in u64_in i64_quo u8_quo rem_in)
theorem qj2 {x:Int} (h:xbln x=true):0<=x/\x<=255:=of_decide_eq_true h
theorem qal {b:List Int} (h:qad b=true):b.length<=1000000/\∀x∈b,0<=x/\x<=255:=by
 unfold qad at h
 rw[qab] at h
 simp only[zab,decide_eq_true_eq,zai] at h
 exact⟨h.1,fun x hx=>qj2 (h.2 x hx)⟩
theorem qc2 {b:List Int} (h:b.length<=1000000) (h': ∀x∈b,0<=x/\x<=255):qad b=true:=by
 unfold qad
 rw[qab]
 simp only[zab,decide_eq_true_eq,zai]
 exact⟨h,fun x hx=>decide_eq_true (h' x hx)⟩
theorem qnv {a b:List Int} (h:qad b=true) (hl:a.length<=b.length) (hs: ∀x∈a,x∈b):qad a=true:=
 let ⟨h1,h2⟩:=qal h;qc2 (by omega) fun x hx=>h2 x (hs x hx)
theorem qa7 {b:List Int} (h:qad b=true) (n:Nat):qad (b.drop n)=true:=qnv h (by simp) fun x hx=>zb0 hx
theorem qgh {b:List Int} (h:qad b=true) (n:Nat):qad (b.take n)=true:=qnv h (by simp;omega) fun x hx=>za9 hx
theorem qbs {b:List Int} (h:qad b=true):qad b.tail=true:=qnv h (by simp) fun x hx=>List.mem_of_mem_tail hx
theorem qax {b:List Int} (h:qad b=true) {i:Nat} {x:Int} (hx:b[i]? =some x):0<=x/\x<=255:=(qal h).2 x (zae hx)
theorem qe4 {b:List Int} (h:qc6 b=true):b.length<=100000000:=by
 unfold qc6 at h;rw[qab] at h;exact of_decide_eq_true h
theorem qf9 {b:List Int} (h:b.length<=100000000):qc6 b=true:=by
 unfold qc6;rw[qab];exact decide_eq_true h
theorem qbp {α:Type} {b:List α} {i:Nat} (h:i<b.length): ∃x,b[i]? =some x:=⟨_,zaf h⟩
theorem xbva (tag:Int) (hp:true=true):xbi9 tag=some (.ret [.cl (.bool (qbj tag))] []):=by
 unfold xbi9 qbj qap
 rw[qab]
 simp only[zcy]
 repeat' split
 all_goals (refine qaz ?_;rw[zbg];simp only[decide_eq_true_eq,true_iff,zam,false_iff];omega)
theorem xbx2 (tag:Int) (hp:true=true):xbi2 tag=some (.ret [.cl (.bool (qbj tag))] []):=by
 unfold xbi2 qbj qap
 rw[qab]
 simp only[zcy]
 repeat' split
 all_goals (refine qaz ?_;rw[zbg];simp only[decide_eq_true_eq,true_iff,zam,false_iff];omega)
theorem xbvj (tag:Int) (hp:true=true):xblu tag=some (.ret [.cl (.bool (qdt tag))] []):=by
 unfold xblu qdt qa5 qbj
 simp only[qab,zcy]
 cases qap tag
 all_goals simp only[cond_true,cond_false]
 all_goals repeat' split
 all_goals (refine qaz ?_;rw[zbg];(try simp only[zbp,decide_eq_true_eq,or_true,true_or,zam,false_or,Bool.true_eq,true_iff,false_iff]);(try omega))
theorem xbps (tag:Int) (hp:true=true):xbcq tag=some (.ret [.cl (.bool (qdt tag))] []):=by
 unfold xbcq qdt qa5 qbj
 simp only[qab,zcy]
 cases qap tag
 all_goals simp only[cond_true,cond_false]
 all_goals repeat' split
 all_goals (refine qaz ?_;rw[zbg];(try simp only[zbp,decide_eq_true_eq,or_true,true_or,zam,false_or,Bool.true_eq,true_iff,false_iff]);(try omega))
theorem xbhy (n:Int) (hp:true=true):q3s n=some (.ret [.cl (.int .i64 (qb3 n))] []):=by
 unfold q3s qb3 qau
 simp only[qab,zcy]
 repeat' split
 all_goals rfl
theorem xb0s (b:List Int) (i:Int) (hp:decide (0<=i)=true):xbr4 b i=some (.ret [.cl (.bool (u8Cont b i))] []):=by
 have hp:=of_decide_eq_true hp
 unfold xbr4 u8Cont u8At
 simp only[qab]
 refine qae (fun h=>qan hp (qan h ?_)) fun h=>qaz ?_
 ·obtain⟨x,hx⟩:=qbp (b:=b) (i:=i.toNat) (by omega)
  rw[hx,zaj]
  refine qaz ?_
  rw[zbg]
  simp only[decide_eq_true_eq]
  rw[zbe _ (by omega)]
  omega
 ·rw[zbd (by omega)]
theorem q5o (o:List Int):o.length<2/\qcn o=false\/∃x y r,o=x::y::r:=by
 match o with
 | []=>exact .inl ⟨by simp,rfl⟩
 | [x]=>exact .inl ⟨by simp,rfl⟩
 | x::y::r=>exact .inr ⟨x,y,r,rfl⟩
theorem xb5o (o:List Int) (hp:true=true):xb30 o=some (.ret [.cl (.bool (qi7 o))] []):=by
 unfold xb30 qi7
 simp only[qab,zcy]
 rcases q5o o with⟨h,e⟩|⟨x,y,r,rfl⟩
 ·rw[if_pos (by omega),e]
 ·simp only[zap,zaz,zaj,zac,qcn]
  repeat' split
  all_goals first
   | (refine qaz ?_;rw[zbg];simp only[zab,zbp,decide_eq_true_eq,zam,false_iff,true_iff];omega)
   | omega
theorem xb2i (o:List Int) (hp:true=true):xbuf o=some (.ret [.cl (.bool (qi7 o))] []):=by
 unfold xbuf qi7
 simp only[qab]
 rcases q5o o with⟨h,e⟩|⟨x,y,r,rfl⟩
 ·exact qan (by omega) (qaz e.symm)
 ·simp only[zap,zaz,zaj,zac,qcn]
  repeat' (refine qae (fun _=> ?_) fun _=> ?_)
  all_goals first
   | (refine qaz ?_;rw[zbg];simp only[zab,zbp,decide_eq_true_eq,zam,false_iff,true_iff];omega)
   | omega
theorem xbq5 (b:List Int) (hp:qad b=true):xbaq b=some (.ret [.cl (.bool (qfp b))] []):=by
 unfold xbaq qfp
 rw[qab]
 match b,hp with
 | [],_=>rfl
 | [x],_=>rfl
 | x::y::r,hp=>
  have hx:=qax hp (i:=0) (x:=x) rfl
  have hy:=qax hp (i:=1) (x:=y) rfl
  simp only[zap,zaz,zaj,zac,qjo]
  rw[show IntKind.u64.wrap x=x from u64_in _ (by omega),show IntKind.u64.wrap y=y from u64_in _ (by omega),show IntKind.u64.wrap (x*2 ^ 1)=x*2 from(u64_in _ (by omega)).trans (by omega),
   show Int.fdiv y (2 ^ 7)=y/ 128 from zbe _ (by omega)]
  have hor:((BitVec.ofInt 64 (x*2)||| BitVec.ofInt 64 (y/ 128)).toNat:Int)=x*2+y/ 128:=by
   have h2:y/ 128=0\/y/ 128=1:=by omega
   obtain⟨n,rfl⟩: ∃n:Nat,x=n:=⟨x.toNat,by omega⟩
   have hn:n<256:=by omega
   rcases h2 with h2|h2
   ·rw[h2]
    simp[zcm]
    omega
   ·rw[h2,zdw]
    simp only[zcm]
    have: ∀n:Fin 256,((((n.val:Int)*2 % (2 ^ 64:Nat)).toNat||| ((1:Int) % (2 ^ 64:Nat)).toNat:Nat):Int)=(n.val:Int)*2+1:=by decide+kernel
    exact this ⟨n,hn⟩
  rw[hor,show IntKind.u64.wrap (x*2+y/ 128)=x*2+y/ 128 from u64_in _ (by omega)]
  simp only[zcy]
  rw[if_neg (by omega),if_pos (by omega),if_pos (by omega)]
  refine qay (fun h=>qaz ?_) fun h=>qaz ?_
  ·rw[zbg]
   simp only[zab,zal,decide_eq_false_iff_not]
   omega
  ·rw[zbg]
   simp only[zab,zal,decide_eq_false_iff_not,zam,false_iff]
   omega
theorem xbrl (b:List Int) (hp:qad b=true):xbfb b=some (.ret [.cl (.bool (qfp b))] []):=by
 unfold xbfb qfp
 rw[qab]
 match b,hp with
 | [],_=>rfl
 | [x],_=>rfl
 | x::y::r,hp=>
  have hx:=qax hp (i:=0) (x:=x) rfl
  have hy:=qax hp (i:=1) (x:=y) rfl
  simp only[zap,zaz,zaj,zac,qjo,zcy,Bool.cond_not]
  repeat' split
  all_goals first
   | omega
   | (refine qaz ?_;rw[zbg];simp only[zab,zal,decide_eq_false_iff_not,zam,false_iff,true_iff];omega)
theorem xbno (n:Int) (hp:u32Ok n=true):xbee n=some (.ret [.cl (.sli .u32 (qf2 n))] []):=by
 unfold u32Ok at hp
 rw[qab] at hp
 have hp:=of_decide_eq_true hp
 unfold xbee qf2 qee
 simp only[qab]
 refine qae (fun h=> ?_) fun h=> ?_
 ·rw[if_pos h,show IntKind.u64.wrap (Int.tdiv n 40)=n/ 40 by rw[zb5 (by omega)];exact u64_in _ (by omega),zbs (by omega),
   show IntKind.u32.wrap (n/ 40)=n/ 40 from u32_in _ (by omega),show IntKind.u32.wrap (n % 40)=n % 40 from u32_in _ (by omega)]
 ·rw[if_neg h,show IntKind.u64.wrap (n - 80)=n - 80 from u64_in _ (by omega),show IntKind.u32.wrap (n - 80)=n - 80 from u32_in _ (by omega)]
theorem xbsw (b:List Int) (hp:qc6 b=true):xbjj b=some (.ret [.cl (.sli .u8 b)] []):=by
 have hp:=qe4 hp
 unfold xbjj
 simp only[zbo]
 refine qcz (fun h=> ?_) fun h=> ?_
 ·have h:=zat (qaf.1 h)
  subst h
  unfold xbp3
  rw[if_pos (Eq.symm (qcw (by simp) (qcw (by simp) rfl)))]
 ·exact qcw (by omega) (qcw (by omega) rfl)
open IntWalk (i64_in u8_in u32_in u64_in i64_quo u8_quo rem_in)
theorem qc9 {b:List Int} {i:Nat} {x:Int} (h:b[i]? =some x):b.drop i=x::b.drop (i+1):=by
 obtain⟨hlt,e⟩:=zad.1 h
 rw[zbx hlt,e]
theorem qd6 {α:Type} {b:List α} {i:Nat} (h:b.length<=i):b.drop i=[]:=zbl h
theorem xbkq (a b:List Int) (hl:a.length=b.length) (hb:a.length<=100000000): ∀(f i:Nat),i<=a.length->a.length<f+i->
  qje (fun _ _ _ _ _ _ _ _ _ _ _ _ _ _ _ _=>some (.ret [.cl (.bool false)] [])) (fun _ _ _ _ _ _=>some (.ret [.cl (.bool true)] [])) f a b i=some (.ret [.cl (.bool (decide (a.drop i=b.drop i)))] [])
 | 0,i,hi,hf=>by omega
 | f+1,i,hi,hf=>by
  show qke (qje (fun _ _ _ _ _ _ _ _ _ _ _ _ _ _ _ _=>some (.ret [.cl (.bool false)] [])) (fun _ _ _ _ _ _=>some (.ret [.cl (.bool true)] [])) f) (fun _ _ _ _ _ _ _ _ _ _ _ _ _ _ _ _=>some (.ret [.cl (.bool false)] [])) (fun _ _ _ _ _ _=>some (.ret [.cl (.bool true)] [])) a b i=_
  unfold qke
  refine qae (fun h=> ?_) fun h=> ?_
  ·obtain⟨x,hx⟩:=qbp (b:=a) (i:=i) (by omega)
   obtain⟨y,hy⟩:=qbp (b:=b) (i:=i) (by omega)
   refine qan (by omega) (qan h ?_)
   rw[show(i:Int).toNat=i from rfl,hx,zaj]
   refine qan (by omega) (qan (by omega) ?_)
   rw[hy,zaj]
   rw[qc9 hx,qc9 hy]
   refine qay (fun hne=>qaz ?_) fun he=> ?_
   ·simp[hne]
   ·subst he
    rw[show IntKind.i64.wrap ((i:Int)+1)=((i+1:Nat):Int) from(i64_in _ (by omega)).trans (by omega)]
    refine(xbkq a b hl hb f (i+1) (by omega) (by omega)).trans (qaz ?_)
    simp
  ·refine qaz ?_
   rw[qd6 (by omega),qd6 (by omega)]
   simp
theorem xby7 (a b:List Int) (hp:qc6 a=true):xbkt a b=some (.ret [.cl (.bool (qcj a b))] []):=by
 have hp:=qe4 hp
 unfold xbkt qcj qm9
 simp only[qab]
 refine qay (fun h=>qaz ?_) fun h=> ?_
 ·rw[eq_comm,decide_eq_false_iff_not]
  intro e
  subst e
  exact h rfl
 ·exact xbkq a b (by omega) hp FUEL 0 (by omega) (by unfold FUEL;omega)
theorem xbf2 (b:List Int) (hb: ∀x∈b,0<=x/\x<=255): ∀(n:Int) (k:Nat),0<=n->n<256 ^ k->0<=b.foldl (fun n x=>n*256+x) n/\b.foldl (fun n x=>n*256+x) n<256 ^ (k+b.length):=by
 induction b with
 | nil=>intro n k h0 h1;exact⟨h0,h1⟩
 | cons x r ih=>
  intro n k h0 h1
  have hx:=hb x (by simp)
  have:=ih (fun y hy=>hb y (by simp[hy])) (n*256+x) (k+1) (by omega) (by rw[zdu];omega)
  simp only[zbf,zac]
  rw[show k+(r.length+1)=k+1+r.length by omega]
  exact this
theorem qrm {b:List Int} (hb: ∀x∈b,0<=x/\x<=255):0<=qav b/\qav b<256 ^ b.length:=by
 have:=xbf2 b hb 0 0 (by omega) (by decide)
 rwa [zax] at this
theorem xbyu (b:List Int) (hb: ∀x∈b,0<=x/\x<=255) (hl:b.length<=7): ∀(f i:Nat) (n:Int),i<=b.length->b.length<f+i->0<=n->n<256 ^ i->
  ql1 (fun _ y2 _ _ _ _=>some (.ret [.cl (.int .u64 y2)] [])) f b n i=some (.ret [.cl (.int .u64 ((b.drop i).foldl (fun n x=>n*256+x) n))] [])
 | 0,i,n,hi,hf,_,_=>by omega
 | f+1,i,n,hi,hf,h0,h1=>by
  show qmy (ql1 (fun _ y2 _ _ _ _=>some (.ret [.cl (.int .u64 y2)] [])) f) (fun _ y2 _ _ _ _=>some (.ret [.cl (.int .u64 y2)] [])) b n i=_
  unfold qmy
  have hh:((256:Int) ^ i)=((256 ^ i:Nat):Int):=by rw[zdo];rfl
  have h3:(256 ^ i:Nat)<=72057594037927936:=zca (zco (by omega) (show i<=7 by omega)) (by decide)
  have h2:n<72057594037927936:=by rw[hh] at h1;generalize 256 ^ i=z at*;omega
  refine qae (fun h=> ?_) fun h=> ?_
  ·obtain⟨x,hx⟩:=qbp (b:=b) (i:=i) (by omega)
   have hxr:=hb x (zae hx)
   extract_lets x1 x5
   refine qan (by omega) (qan h ?_)
   rw[show(i:Int).toNat=i from rfl,hx,zaj,qc9 hx,zbf]
   extract_lets x3 x4
   have e1:x1=n*256:=u64_in _ (by omega)
   have e3:x3=x:=u64_in _ (by omega)
   have e4:x4=n*256+x:=(u64_in (x1+x3) (by omega)).trans (by omega)
   have e5:x5=((i+1:Nat):Int):=(i64_in _ (by omega)).trans (by omega)
   rw[e4,e5]
   exact xbyu b hb hl f (i+1) _ (by omega) (by omega) (by omega) (by rw[zdu];omega)
  ·rw[qd6 (by omega)];rfl
theorem xb0j (b:List Int) (hp:(qad b&&decide (b.length<=7))=true):xbwh b=some (.ret [.cl (.int .u64 (qg0 b))] []):=by
 simp only[zab,decide_eq_true_eq] at hp
 unfold xbwh qg0
 simp only[qab]
 exact xbyu b (qal hp.1).2 hp.2 FUEL 0 0 (by omega) (by unfold FUEL;omega) (by omega) (by decide)
theorem xbq7 (e:Int) (hp:true=true):xbpt e=some (.ret [] []):=rfl
theorem xbm3 (e:Int) (hp:true=true):xbnb e=some (.pan (.iface 85 (.agg [.int .i64 e])) []):=rfl
theorem xb1b (l:List Int) (d:Int) (hp:qad l=true):xbsz l d=(Tree.ite (l.isEmpty) (.leaf (.pan (.iface 85 (.agg [.int .i64 1])) [some ⟨.var [.cl (.sli .u8 l),.cl (.int .i64 d)],false⟩])) (.leaf (.ret [.cl (.int .i64 (l.headD 0))] [some ⟨.var [.cl (.sli .u8 l.tail),.cl (.int .i64 d)],false⟩]))).eval:=by
 unfold xbsz
 match l,hp with
 | [],_=>rfl
 | x::r,hp=>
  have hx:=qax hp (i:=0) (x:=x) rfl
  refine qan (by simp only[zac];omega) (qan (by simp only[zac];omega) ?_)
  simp only[zap,zaj]
  refine qan (by simp only[zac];omega) ?_
  rw[show IntKind.i64.wrap x=x from i64_in _ (by omega)]
  rfl
open IntWalk (i64_in u8_in u32_in u64_in i64_quo u8_quo rem_in)
theorem xbsi {n x:Int} (h0:0<=n) (h1:n<72057594037927936) (h2:0<=x) (h3:x<=255):((BitVec.ofInt 64 (n*256)||| BitVec.ofInt 64 x).toNat:Int)=n*256+x:=by
 obtain⟨a,rfl⟩: ∃a:Nat,n=a:=⟨n.toNat,by omega⟩
 obtain⟨b,rfl⟩: ∃b:Nat,x=b:=⟨x.toNat,by omega⟩
 rw[zdw]
 have e1:(BitVec.ofInt 64 ((a:Int)*256)).toNat=2 ^ 8*a:=by rw[zcm];omega
 have e2:(BitVec.ofInt 64 (b:Int)).toNat=b:=by rw[zcm];omega
 rw[e1,e2, <- Nat.two_pow_add_eq_or_of_lt (by omega:b<2 ^ 8)]
 omega
theorem qtj {r:List Int} (hb: ∀x∈r,0<=x/\x<=255) {j:Nat} (hj:j<=3):0<=qav (r.take j)/\qav (r.take j)<16777216:=by
 have h:=qrm (b:=r.take j) fun x hx=>hb x (za9 hx)
 refine⟨h.1, ?_⟩
 have hl:(r.take j).length<=3:=by simp;omega
 have h3:(256 ^ (r.take j).length:Nat)<=16777216:=zca (zco (by omega) hl) (by decide)
 have hh:((256:Int) ^ (r.take j).length)=((256 ^ (r.take j).length:Nat):Int):=by rw[zdo];rfl
 have:=h.2
 rw[hh] at this
 omega
theorem xbrj (b:List Int) (hp:qad b=true):xbb3 b=some (.ret [.cl (.int .i64 (qgr b).1),.cl (.int .i64 (qgr b).2)] []):=by
 unfold xbb3 qgr
 simp only[qab]
 match b,hp with
 | [],_=>rfl
 | c::t,hp=>
  have hc:=qax hp (i:=0) (x:=c) rfl
  have hl:=(qal hp).1
  have ht:=(qal (qbs hp)).2
  simp only[zbr] at ht
  simp only[zac] at hl
  simp only[zap,zaj,zac,qac]
  refine qb6 (by omega) (qan (by omega) (qae (fun h=>qan (by omega) ?_) fun h=>qan (by omega) ?_))
  ·rw[if_pos h,show IntKind.i64.wrap c=c from i64_in _ (by omega)]
  ·rw[if_neg h]
   rw[show IntKind.i64.wrap c=c from i64_in _ (by omega),show IntKind.i64.wrap (c - 128)=c - 128 from i64_in _ (by omega),show IntKind.i64.wrap (1+(c - 128))=1+(c - 128) from i64_in _ (by omega)]
   refine qae (fun h1=> ?_) fun h1=>qae (fun h2=> ?_) fun h2=>qae (fun h3=> ?_) fun h3=> ?_
   ·rw[if_pos (by omega)]
   ·rw[if_pos (by omega)]
   ·rw[if_pos (by omega)]
   ·rw[if_neg (by omega)]
    obtain⟨j,hj⟩: ∃j:Nat,c - 128=j:=⟨(c - 128).toNat,by omega⟩
    have hdt:List.drop 1 (List.take (1+(c - 128)).toNat (c::t))=t.take j:=by
     rw[hj,show((1:Int)+(j:Int)).toNat=j+1 by omega,zb6,List.drop_one,zbr]
    rw[hdt]
    have hlen:(t.take j).length=j:=by simp;omega
    refine qan (by omega) (qan (by omega) (qam ?_ (qan (by omega) ?_)))
    ·simp only[zab,decide_eq_true_eq]
     exact⟨qgh (qbs hp) j,by omega⟩
    ·obtain⟨y,t',rfl⟩: ∃y t',t=y::t':=by
      cases t with
      | nil=>simp at hlen;omega
      | cons y t'=>exact⟨y,t',rfl⟩
     simp only[zaz,zap,zaj]
     have hr:=qtj ht (j:=j) (by omega)
     rw[show(c - 128).toNat=j by omega]
     unfold qg0
     simp only[qab]
     rw[show IntKind.i64.wrap (qav (List.take j (y::t')))=qav (List.take j (y::t')) from i64_in _ (by omega)]
     refine qae (fun h4=> ?_) fun h4=>qae (fun h5=> ?_) fun h5=> ?_
     ·rw[if_pos (show(y::t').headD 0=0\/qav (List.take j (y::t'))<128 from .inl h4)]
     ·rw[if_pos (show(y::t').headD 0=0\/qav (List.take j (y::t'))<128 from .inr h5)]
     ·rw[if_neg (show ¬((y::t').headD 0=0\/qav (List.take j (y::t'))<128) from fun h=>h.elim h4 h5)]
theorem xbt6 (k0:Int->Int->Int->Int->Int->Int->List Int->Int->Option Out) (k1:Int->Int->Int->Int->List Int->Int->Option Out) (F0:List Int->Int->Option Out) (F1:Int->List Int->Int->Option Out) (h0: ∀a b c d e f g h,k0 a b c d e f g h=F0 g h) (c cnt:Int) (h1: ∀b d e f,k1 c b cnt d e f=F1 b e f) (hcnt:cnt<=3):
  ∀(f i:Nat) (n:Int) (r:List Int) (d:Int),qad r=true->(i:Int)<=cnt->cnt<f+i->0<=n->n<256 ^ i->
  qey k0 k1 f c n cnt i r d=if(r.length:Int)<cnt - i then F0 [] d else F1 ((r.take (cnt - i).toNat).foldl (fun n x=>n*256+x) n) (r.drop (cnt - i).toNat) d
 | 0,i,n,r,d,hr,hi,hf,_,_=>by omega
 | f+1,i,n,r,d,hr,hi,hf,hn0,hn1=>by
  show qh4 (qey k0 k1 f) k0 k1 c n cnt i r d=_
  unfold qh4
  have hi3:i<=3:=by omega
  have h3:(256 ^ i:Nat)<=16777216:=zca (zco (by omega) hi3) (by decide)
  have hh:((256:Int) ^ i)=((256 ^ i:Nat):Int):=by rw[zdo];rfl
  have h4:n<16777216:=by rw[hh] at hn1;generalize 256 ^ i=z at*;omega
  refine qae (fun h=> ?_) fun h=> ?_
  ·cases r with
   | nil=>
    refine qam hr (qam rfl ?_)
    rw[h0,if_pos (by simp;omega)]
   | cons x r=>
    have hx:=qax hr (i:=0) (x:=x) rfl
    extract_lets x4 r5 r6 x7 x8
    have e4:x4=n*256:=(i64_in (n*2 ^ 8) (by omega)).trans (by omega)
    refine qam hr (q8j rfl ?_)
    have e7:x7=n*256+x:=by
     show IntKind.i64.wrap ((BitVec.ofInt 64 x4||| BitVec.ofInt 64 x).toNat)=_
     rw[e4,xbsi hn0 (by omega) hx.1 hx.2]
     exact i64_in _ (by omega)
    have e8:x8=((i+1:Nat):Int):=(i64_in ((i:Int)+1) (by omega)).trans (by omega)
    rw[e7,e8]
    refine(xbt6 k0 k1 F0 F1 h0 c cnt h1 hcnt f (i+1) _ r6 d (qbs hr) (by omega) (by omega) (by omega) (by rw[zdu];omega)).trans ?_
    show(if(r.length:Int)<cnt - ((i+1:Nat):Int) then _ else F1 ((r.take (cnt - ((i+1:Nat):Int)).toNat).foldl _ _) (r.drop (cnt - ((i+1:Nat):Int)).toNat) d)=_
    obtain⟨m,hm⟩: ∃m:Nat,(cnt - (i:Int)).toNat=m+1:=⟨(cnt - (i:Int)).toNat - 1,by omega⟩
    have hm':(cnt - ((i+1:Nat):Int)).toNat=m:=by omega
    rw[hm,hm',zb6,zbf,zci]
    by_cases hlt:(r.length:Int)<cnt - ((i+1:Nat):Int)
    ·rw[if_pos hlt,if_pos (by simp;omega)]
    ·rw[if_neg hlt,if_neg (by simp;omega)]
  ·rw[h1,if_neg (by omega),show(cnt - (i:Int)).toNat=0 by omega]
   rfl
theorem xbl8 {t:List Int} (ht: ∀x∈t,0<=x/\x<=255) {j:Nat} (hj:1<=j) (hj3:j<=3) (hl:j<=t.length):qau (qav (t.take j))=1+j↔ ¬(t.headD 0=0\/qav (t.take j)<128):=by
 have hall: ∀(i:Nat) (x:Int),t[i]? =some x->0<=x/\x<=255:=fun i x h=>ht x (zae h)
 unfold qau
 match j,hj,hj3,t,hl,hall with
 | 1,_,_,x::t,_,hall=>
  have:=hall 0 x rfl
  simp only[zb6,zdy,qav,zbf,List.foldl_nil,zbw]
  repeat' split
  all_goals omega
 | 2,_,_,x::y::t,_,hall=>
  have:=hall 0 x rfl
  have:=hall 1 y rfl
  simp only[zb6,zdy,qav,zbf,List.foldl_nil,zbw]
  repeat' split
  all_goals omega
 | 3,_,_,x::y::z::t,_,hall=>
  have:=hall 0 x rfl
  have:=hall 1 y rfl
  have:=hall 2 z rfl
  simp only[zb6,zdy,qav,zbf,List.foldl_nil,zbw]
  repeat' split
  all_goals omega
 | 2,_,_,[x],hl,_=>simp at hl
 | 3,_,_,[x],hl,_=>simp at hl
 | 3,_,_,[x,y],hl,_=>simp at hl
theorem qda (c:Int) (t:List Int):qac (c::t)=if c<128 then(c,1) else if c=128\/131<c\/(t.length:Int)<c - 128 then(0,0)
  else if t.headD 0=0\/qav (t.take (c - 128).toNat)<128 then(0,0) else(qav (t.take (c - 128).toNat),1+(c - 128)):=rfl
theorem xbn6 (l:List Int) (d:Int) (hp:qad l=true):q9e l d=(Tree.ite (!(qo3 l)) (.leaf (.pan (.iface 85 (.agg [.int .i64 1])) [some ⟨.var [.cl (.sli .u8 (qgt l)),.cl (.int .i64 d)],false⟩])) (.leaf (.ret [.cl (.int .i64 (qea l).1)] [some ⟨.var [.cl (.sli .u8 (qea l).2),.cl (.int .i64 d)],false⟩]))).eval:=by
 unfold q9e qo3 qgt qea
 simp only[qab,Bool.not_not]
 refine qam hp ?_
 match l,hp with
 | [],_=>rfl
 | c::t,hp=>
  have hc:=qax hp (i:=0) (x:=c) rfl
  have hl:=(qal hp).1
  have ht:=(qal (qbs hp)).2
  have hbt:=qbs hp
  simp only[zbr] at ht hbt
  simp only[zac] at hl
  simp only[List.isEmpty_cons,cond_false,zbw,zbr,cond_true]
  have hR:qjj (c::t)=if c=128\/131<c then t else t.drop (c - 128).toNat:=rfl
  refine qae (fun h=> ?_) fun h=> ?_
  ·have hD:qac (c::t)=(c,1):=by rw[qda,if_pos h]
   rw[hD]
   rfl
  ·have hbad:(c=128\/131<c)->some (Out.pan (.iface 85 (.agg [.int .i64 1])) [some ⟨.var [.cl (.sli .u8 t),.cl (.int .i64 d)],false⟩])=(Tree.ite (decide ((qac (c::t)).2=0)) (.leaf (.pan (.iface 85 (.agg [.int .i64 1])) [some ⟨.var [.cl (.sli .u8 (qjj (c::t))),.cl (.int .i64 d)],false⟩])) (.leaf (.ret [.cl (.int .i64 (qac (c::t)).1)] [some ⟨.var [.cl (.sli .u8 ((c::t).drop (qac (c::t)).2.toNat)),.cl (.int .i64 d)],false⟩]))).eval:=fun hb=>by
    have hD:qac (c::t)=(0,0):=by rw[qda,if_neg h,if_pos (show c=128\/131<c\/(t.length:Int)<c - 128 by omega)]
    rw[hD,hR,if_pos hb]
    rfl
   refine qae (fun h1=>qae (fun h2=> ?_) fun h2=>hbad (by omega)) fun h1=>hbad (by omega)
   rw[show IntKind.i64.wrap (c - 128)=c - 128 from i64_in _ (by omega)]
   obtain⟨j,hj⟩: ∃j:Nat,c - 128=j:=⟨(c - 128).toNat,by omega⟩
   have key:=xbt6 (fun _ _ _ _ _ _ y10 y11=>some (.pan (.iface 85 (.agg [.int .i64 1])) [some ⟨.var [.cl (.sli .u8 y10),.cl (.int .i64 y11)],false⟩]))
    (fun y12 y13 _ _ y16 y17=>cond (decide (qb3 y13=IntKind.i64.wrap (IntKind.i64.wrap ((1:Int)+y12) - 128))) (some (.ret [.cl (.int .i64 y13)] [some ⟨.var [.cl (.sli .u8 y16),.cl (.int .i64 y17)],false⟩])) (some (.pan (.iface 85 (.agg [.int .i64 1])) [some ⟨.var [.cl (.sli .u8 y16),.cl (.int .i64 y17)],false⟩])))
    (fun y10 y11=>some (.pan (.iface 85 (.agg [.int .i64 1])) [some ⟨.var [.cl (.sli .u8 y10),.cl (.int .i64 y11)],false⟩]))
    (fun y13 y16 y17=>cond (decide (qb3 y13=IntKind.i64.wrap (IntKind.i64.wrap ((1:Int)+c) - 128))) (some (.ret [.cl (.int .i64 y13)] [some ⟨.var [.cl (.sli .u8 y16),.cl (.int .i64 y17)],false⟩])) (some (.pan (.iface 85 (.agg [.int .i64 1])) [some ⟨.var [.cl (.sli .u8 y16),.cl (.int .i64 y17)],false⟩])))
    (fun _ _ _ _ _ _ _ _=>rfl) c (c - 128) (fun _ _ _ _=>rfl) (by omega) FUEL 0 0 t d hbt (by omega) (by unfold FUEL;omega) (by omega) (by decide)
   refine zdx key ?_
   rw[show c - 128 - ((0:Nat):Int)=c - 128 by omega]
   simp only[show IntKind.i64.wrap ((1:Int)+c)=1+c from i64_in _ (by omega),show IntKind.i64.wrap (1+c - 128)=1+c - 128 from i64_in _ (by omega),show(c - 128).toNat=j by omega]
   by_cases h5:(t.length:Int)<c - 128
   ·have hD:qac (c::t)=(0,0):=by rw[qda,if_neg h,if_pos (show c=128\/131<c\/(t.length:Int)<c - 128 by omega)]
    rw[if_pos h5,hD,hR,if_neg (show ¬(c=128\/131<c) by omega),qd6 (by omega)]
    rfl
   ·have hD:qac (c::t)=if t.headD 0=0\/qav (t.take j)<128 then(0,0) else(qav (t.take j),1+(c - 128)):=by
     rw[qda,if_neg h,if_neg (show ¬(c=128\/131<c\/(t.length:Int)<c - 128) by omega),show(c - 128).toNat=j by omega]
    rw[if_neg h5]
    have hs:=xbl8 ht (j:=j) (by omega) (by omega) (by omega)
    unfold qb3
    simp only[qab]
    rw[show(t.take j).foldl (fun n x=>n*256+x) 0=qav (t.take j) from rfl]
    by_cases h6:t.headD 0=0\/qav (t.take j)<128
    ·rw[if_pos h6] at hD
     rw[hD,hR,if_neg (show ¬(c=128\/131<c) by omega),show(c - 128).toNat=j by omega]
     refine qb6 (fun e=> ?_) rfl
     exact hs.1 (by omega) h6
    ·rw[if_neg h6] at hD
     rw[hD]
     refine qan (by have:=hs.2 h6;omega) ?_
     show _=(Tree.ite (decide (1+(c - 128)=0)) _ _).eval
     rw[show(decide (1+(c - 128)=0))=false from decide_eq_false (by omega),show(1+(c - 128)).toNat=j+1 by omega,zci]
     rfl
open IntWalk (i64_in u8_in u32_in u64_in i64_quo u8_quo rem_in)
theorem xbte (b:List Int):decide (qb0 [] b<0)=decide (0<b.length):=by
 cases b with
 | nil=>rfl
 | cons x r=>simp[qb0]
theorem xbom (a:List Int):decide (qb0 a []<0)=false:=by
 cases a with
 | nil=>rfl
 | cons x r=>simp[qb0]
theorem xbky (a b:List Int) (hb:a.length<=100000000): ∀(f i:Nat),i<=a.length->i<=b.length->a.length<f+i->
  qjl (fun _ _ y3 _ _ _ _ _ _ _ _ _ _ _ _ _ _ _ _ _ _ _ _ _ _ _ _ _ _ _ _ _ _=>some (.ret [.cl (.bool y3)] [])) (fun y34 y35 _ _ _ _ _ _ _ _ _=>some (.ret [.cl (.bool (decide ((y34.length:Int)<(y35.length:Int))))] [])) (fun y45 y46 _ _ _ _ _=>some (.ret [.cl (.bool (decide ((y45.length:Int)<(y46.length:Int))))] [])) f a b i=
   some (.ret [.cl (.bool (decide (qb0 (a.drop i) (b.drop i)<0)))] [])
 | 0,i,hi,hi',hf=>by omega
 | f+1,i,hi,hi',hf=>by
  show qkr (qjl (fun _ _ y3 _ _ _ _ _ _ _ _ _ _ _ _ _ _ _ _ _ _ _ _ _ _ _ _ _ _ _ _ _ _=>some (.ret [.cl (.bool y3)] [])) (fun y34 y35 _ _ _ _ _ _ _ _ _=>some (.ret [.cl (.bool (decide ((y34.length:Int)<(y35.length:Int))))] [])) (fun y45 y46 _ _ _ _ _=>some (.ret [.cl (.bool (decide ((y45.length:Int)<(y46.length:Int))))] [])) f) _ _ _ a b i=_
  unfold qkr
  refine qae (fun h=>qae (fun h'=> ?_) fun h'=>qaz ?_) fun h=>qaz ?_
  ·obtain⟨x,hx⟩:=qbp (b:=a) (i:=i) (by omega)
   obtain⟨y,hy⟩:=qbp (b:=b) (i:=i) (by omega)
   refine qan (by omega) (qan h ?_)
   rw[show(i:Int).toNat=i from rfl,hx,zaj]
   refine qan (by omega) (qan h' ?_)
   rw[hy,zaj,qc9 hx,qc9 hy]
   refine qay (fun hne=>qan (by omega) (qan h ?_)) fun he=> ?_
   ·rw[zaj]
    refine qan (by omega) (qan h' ?_)
    rw[zaj]
    refine qaz ?_
    unfold qb0
    by_cases hlt:x<y
    ·rw[if_pos hlt];simp[hlt]
    ·rw[if_neg hlt,if_pos (by omega)];simp[hlt]
   ·subst he
    rw[show IntKind.i64.wrap ((i:Int)+1)=((i+1:Nat):Int) from(i64_in _ (by omega)).trans (by omega)]
    refine(xbky a b hb f (i+1) (by omega) (by omega) (by omega)).trans (qaz ?_)
    conv=>rhs;unfold qb0
    rw[if_neg (by omega),if_neg (by omega)]
  ·rw[qd6 (b:=b) (by omega),xbom]
   exact decide_eq_false (by omega)
  ·rw[qd6 (b:=a) (by omega),xbte,zaq,zbg]
   simp only[decide_eq_true_eq]
   omega
theorem xbtk (a b:List Int) (hp:qc6 a=true):xbjk a b=some (.ret [.cl (.bool (qn3 a b))] []):=by
 unfold xbjk qn3
 simp only[qab]
 exact xbky a b (qe4 hp) FUEL 0 (by omega) (by omega) (by have:=qe4 hp;unfold FUEL;omega)
theorem qkg {l:List CV} (h:qhm l=true):l.length<=1000000/\∀(i:Nat) (e:CV),l[i]? =some e->∃x,e=.sli .u8 x/\qad x=true:=by
 unfold qhm at h
 rw[qab] at h
 simp only[zab,decide_eq_true_eq,zai] at h
 refine⟨h.1,fun i e he=> ?_⟩
 have:=h.2 e (zae he)
 unfold xbvm at this
 split at this
 ·rename_i l'
  refine⟨l',rfl, ?_⟩
  unfold rowB at this
  simp only[zab,decide_eq_true_eq,zai] at this
  exact qc2 this.1 fun x hx=>qj2 (this.2 x hx)
 ·cases this
theorem qz0 {l:List CV} {i:Nat} {a b:List Int} (h1:l[i]? =some (.sli .u8 a)) (h2:l[i+1]? =some (.sli .u8 b)):qa2 ((l.map qb7).drop i)=(decide (qb0 a b<=0)&&qa2 ((l.map qb7).drop (i+1))):=by
 have e1:(l.map qb7)[i]? =some a:=by rw[zah,h1];rfl
 have e2:(l.map qb7)[i+1]? =some b:=by rw[zah,h2];rfl
 have d: ∀ {l:List (List Int)} {i:Nat} {x:List Int},l[i]? =some x->l.drop i=x::l.drop (i+1):=fun {l i x} h=>by
  obtain⟨hlt,e⟩:=zad.1 h
  rw[zbx hlt,e]
 rw[d e1,d e2]
 rfl
theorem qyt {l:List CV} {i:Nat} (h:l.length<=i+1):qa2 ((l.map qb7).drop i)=true:=by
 have:((l.map qb7).drop i).length<=1:=by simp;omega
 match (l.map qb7).drop i,this with
 | [],_=>rfl
 | [_],_=>rfl
 | _::_::_,h=>simp at h
theorem xbet: ∀(a b:List Int),decide (qb0 b a<0)= !(decide (qb0 a b<=0))
 | [],[]=>rfl
 | [],_::_=>by simp[qb0]
 | _::_,[]=>by simp[qb0]
 | x::a,y::b=>by
  unfold qb0
  by_cases h1:x<y
  ·rw[if_pos h1,if_neg (by omega),if_pos h1];simp
  ·by_cases h2:y<x
   ·rw[if_pos h2,if_neg h1,if_pos h2];simp
   ·rw[if_neg h1,if_neg h2,if_neg h2,if_neg h1];exact xbet a b
theorem xb3w (l:List CV) (hok:qhm l=true): ∀(f i:Nat),l.length<f+i->qgc (fun _ _ _ _ _ _ _ _ _ _ _ _ _ _ _ _=>some (.ret [.cl (.bool false)] [])) (fun _ _ _ _ _=>some (.ret [.cl (.bool true)] [])) f l ((i+1:Nat):Int)=some (.ret [.cl (.bool (qa2 ((l.map qb7).drop i)))] [])\/f=0
 | 0,i,hf=>.inr rfl
 | f+1,i,hf=>by
  left
  obtain⟨hl,hr⟩:=qkg hok
  show qgq (qgc (fun _ _ _ _ _ _ _ _ _ _ _ _ _ _ _ _=>some (.ret [.cl (.bool false)] [])) (fun _ _ _ _ _=>some (.ret [.cl (.bool true)] [])) f) _ _ l ((i+1:Nat):Int)=_
  unfold qgq
  refine qae (fun h=>qan (by omega) (qan h ?_)) fun h=>qaz ?_
  ·obtain⟨e1,he1⟩:=qbp (b:=l) (i:=i) (by omega)
   obtain⟨e2,he2⟩:=qbp (b:=l) (i:=i+1) (by omega)
   obtain⟨x,rfl,hx⟩:=hr _ _ he1
   obtain⟨y,rfl,hy⟩:=hr _ _ he2
   rw[show((i+1:Nat):Int).toNat=i+1 from rfl,he2,zaj]
   refine qam rfl ?_
   rw[show IntKind.i64.wrap (((i+1:Nat):Int) - 1)=(i:Int) from(i64_in _ (by omega)).trans (by omega)]
   refine qan (by omega) (qan (by omega) ?_)
   rw[show(i:Int).toNat=i from rfl,he1,zaj]
   refine qam rfl (qam (qf9 (by have:=(qal hy).1;show y.length<=_;omega)) ?_)
   show cond (qn3 y x) _ _=_
   rw[qz0 he1 he2]
   unfold qn3
   rw[qab,xbet x y]
   cases decide (qb0 x y<=0) with
   | true=>
    simp only[zc0,cond_false,zbm]
    rw[show IntKind.i64.wrap (((i+1:Nat):Int)+1)=((i+1+1:Nat):Int) from(i64_in _ (by omega)).trans (by omega)]
    exact(xb3w l hok f (i+1) (by omega)).resolve_right (by omega)
   | false=>rfl
  ·rw[qyt (by omega)]
theorem xbgm (l:List CV) (hp:qhm l=true):q51 l=some (.ret [.cl (.bool (qbn l))] []):=by
 unfold q51 qbn
 simp only[qab]
 exact(xb3w l hp FUEL 0 (by have:=(qkg hp).1;unfold FUEL;omega)).resolve_right (by unfold FUEL;omega)
theorem xbhr (a b:List Int) (hp:(qad a&&qad b)=true):q3n a b=some (.ret [.cl (.int .i64 (qgx a b))] []):=by
 unfold q3n
 exact qam hp rfl
theorem xbz4 (a b:List Int) (hp:(qad a&&qad b)=true):xby1 a b=some (.ret [.cl (.bool (decide (qgx a b<=0)))] []):=by
 unfold xby1
 exact qam hp rfl
theorem xb4o (l:List CV) (hok:qhm l=true): ∀(f i:Nat),l.length<f+i->qjp (fun _ _ _ _ _ _ _ _ _ _ _ _ _ _ _ _ _=>some (.ret [.cl (.bool false)] [])) (fun _ _ _ _ _=>some (.ret [.cl (.bool true)] [])) f l ((i+1:Nat):Int)=some (.ret [.cl (.bool (qa2 ((l.map qb7).drop i)))] [])\/f=0
 | 0,i,hf=>.inr rfl
 | f+1,i,hf=>by
  left
  obtain⟨hl,hr⟩:=qkg hok
  show qkq (qjp (fun _ _ _ _ _ _ _ _ _ _ _ _ _ _ _ _ _=>some (.ret [.cl (.bool false)] [])) (fun _ _ _ _ _=>some (.ret [.cl (.bool true)] [])) f) _ _ l ((i+1:Nat):Int)=_
  unfold qkq
  refine qae (fun h=> ?_) fun h=>qaz ?_
  ·obtain⟨e1,he1⟩:=qbp (b:=l) (i:=i) (by omega)
   obtain⟨e2,he2⟩:=qbp (b:=l) (i:=i+1) (by omega)
   obtain⟨x,rfl,hx⟩:=hr _ _ he1
   obtain⟨y,rfl,hy⟩:=hr _ _ he2
   rw[show IntKind.i64.wrap (((i+1:Nat):Int) - 1)=(i:Int) from(i64_in _ (by omega)).trans (by omega)]
   refine qan (by omega) (qan (by omega) ?_)
   rw[show(i:Int).toNat=i from rfl,he1,zaj]
   refine qam rfl (qan (by omega) (qan h ?_))
   rw[show((i+1:Nat):Int).toNat=i+1 from rfl,he2,zaj]
   refine qam rfl (qam (by show(qad x&&qad y)=true;rw[hx,hy];rfl) ?_)
   show cond (!(decide (qgx x y<=0))) _ _=_
   rw[qz0 he1 he2]
   unfold qgx
   rw[qab]
   cases decide (qb0 x y<=0) with
   | true=>
    simp only[zc0,cond_false,zbm]
    rw[show IntKind.i64.wrap (((i+1:Nat):Int)+1)=((i+1+1:Nat):Int) from(i64_in _ (by omega)).trans (by omega)]
    exact(xb4o l hok f (i+1) (by omega)).resolve_right (by omega)
   | false=>rfl
  ·rw[qyt (by omega)]
theorem xbw9 (l:List CV) (hp:qhm l=true):xblv l=some (.ret [.cl (.bool (qbn l))] []):=by
 unfold xblv qbn
 simp only[qab]
 exact(xb4o l hp FUEL 0 (by have:=(qkg hp).1;unfold FUEL;omega)).resolve_right (by unfold FUEL;omega)
theorem xbpr (l:List CV) (hp:qhm l=true):q84 l=some (.ret [.cl (.bool (qbn l))] []):=by
 unfold q84
 exact qam hp rfl
open IntWalk (i64_in u8_in u32_in u64_in i64_quo u8_quo rem_in)
theorem qeg (c:Int) (r:List Int):qdi (c::r)=if c<128 then 1
  else if 194<=c/\c<=223/\u8At r 0=true then 2
  else if 224<=c/\c<=239/\u8At r 0=true/\u8At r 1=true/\(c=224->160<=r.headD 0)/\(c=237->r.headD 0<160) then 3
  else if 240<=c/\c<=244/\u8At r 0=true/\u8At r 1=true/\u8At r 2=true/\(c=240->144<=r.headD 0)/\(c=244->r.headD 0<144) then 4
  else 0:=rfl
set_option maxHeartbeats 4000000 in
theorem xb27 (b:List Int) (i:Int) (hp:(qad b&&decide (0<=i/\i<b.length))=true):xbxp b i=some (.ret [.cl (.int .i64 (u8Rune b i))] []):=by
 simp only[zab,decide_eq_true_eq] at hp
 obtain⟨hb,hi0,hi1⟩:=hp
 have hl:=(qal hb).1
 obtain⟨c,hc⟩:=qbp (b:=b) (i:=i.toNat) (by omega)
 have hcr:=qax hb hc
 have hdrop:=qc9 hc
 have hat: ∀k:Nat,b[i.toNat+1+k]? =(b.drop (i.toNat+1))[k]? :=fun k=>by rw[zbk]
 generalize ht:b.drop (i.toNat+1)=t at*
 have huc: ∀k:Nat,u8Cont b (i+((k+1:Nat):Int))=u8At t k:=fun k=>by
  unfold u8Cont u8At
  rw[qab,show(i+((k+1:Nat):Int)).toNat=i.toNat+1+k by omega,hat]
 have w1:IntKind.i64.wrap (i+1)=i+1:=i64_in _ (by omega)
 have w2:IntKind.i64.wrap (i+2)=i+2:=i64_in _ (by omega)
 have w3:IntKind.i64.wrap (i+3)=i+3:=i64_in _ (by omega)
 have u1:u8Cont b (i+1)=u8At t 0:=huc 0
 have u2:u8Cont b (i+2)=u8At t 1:=huc 1
 have u3:u8Cont b (i+3)=u8At t 2:=huc 2
 unfold u8Rune
 rw[qab,hdrop,qeg]
 unfold xbxp qgy qe9
 simp only[getK,idxK,qab,hc,zaj,w1,w2,w3,u1,u2,u3]
 refine qan hi0 (qan hi1 (qan (by omega) ?_))
 cases ha0:u8At t 0 with
 | false=>
  simp only[cond_false,zam,and_false,false_and,if_false]
  repeat' (refine qae (fun _=> ?_) fun _=> ?_)
  all_goals first
   | (refine qk9 ?_;(repeat' split)<;>omega)
   | omega
 | true=>
  obtain⟨y,t',rfl⟩: ∃y t',t=y::t':=by
   cases t with
   | nil=>simp[u8At] at ha0
   | cons y t'=>exact⟨y,t',rfl⟩
  have hy:b[(i+1).toNat]? =some y:=by
   have:=hat 0
   rw[show(i+1).toNat=i.toNat+1+0 by omega,this];rfl
  have hy1:i+1<b.length:=by
   have:=(zad.1 hy).1
   omega
  simp only[cond_true,hy,zaj,zbw,true_and,and_true]
  refine qan (by omega) ?_
  cases ha1:u8At (y::t') 1 with
  | false=>
   simp only[cond_false,zam,and_false,false_and,if_false]
   repeat' (refine qae (fun _=> ?_) fun _=> ?_)
   all_goals first
    | (refine qk9 ?_;(repeat' split)<;>omega)
    | omega
  | true=>
   simp only[cond_true,true_and]
   cases ha2:u8At (y::t') 2 with
   | false=>
    simp only[cond_false,zam,and_false,false_and,if_false]
    repeat' (first|refine qae (fun _=> ?_) fun _=> ?_|refine qay (fun _=> ?_) fun _=> ?_)
    all_goals first
     | (refine qk9 ?_;(repeat' split)<;>omega)
     | omega
   | true=>
    simp only[cond_true,true_and]
    repeat' (first|refine qae (fun _=> ?_) fun _=> ?_|refine qay (fun _=> ?_) fun _=> ?_)
    all_goals first
     | (refine qk9 ?_;(repeat' split)<;>omega)
     | omega
theorem q0c (l:List Int):0<=qdi l/\qdi l<=l.length/\(qdi l=0->∀c r,l=c::r-> ¬c<128):=by
 have hlt: ∀(l:List Int) (k:Nat),u8At l k=true->k<l.length:=fun l k h=>by
  unfold u8At at h
  split at h
  ·rename_i x hx;exact(zad.1 hx).1
  ·cases h
 cases l with
 | nil=>exact⟨by simp[qdi],by simp[qdi],fun _ c r h=>by cases h⟩
 | cons c r=>
  rw[qeg]
  by_cases h1:c<128
  ·rw[if_pos h1];exact⟨by omega,by simp;omega,fun h=>by omega⟩
  ·rw[if_neg h1]
   split
   ·rename_i h;have:=hlt _ _ h.2.2;exact⟨by omega,by simp only[zac];omega,fun h=>by omega⟩
   ·split
    ·rename_i h;have:=hlt _ _ h.2.2.2.1;exact⟨by omega,by simp only[zac];omega,fun h=>by omega⟩
    ·split
     ·rename_i h;have:=hlt _ _ h.2.2.2.2.1;exact⟨by omega,by simp only[zac];omega,fun h=>by omega⟩
     ·exact⟨by omega,by simp only[zac];omega,fun _ c' r' e=>by cases e;exact h1⟩
theorem qyo: ∀(n m:Nat) (l:List Int),l.length<=n->l.length<=m->qif n l=qif m l
 | 0,0,l,_,_=>rfl
 | 0,m+1,l,h,_=>by
  have:l=[]:=zat (by omega)
  subst this
  simp[qif]
 | n+1,0,l,_,h=>by
  have:l=[]:=zat (by omega)
  subst this
  simp[qif]
 | n+1,m+1,l,h1,h2=>by
  unfold qif
  by_cases h:l=[]
  ·rw[if_pos h,if_pos h]
  ·rw[if_neg h,if_neg h]
   by_cases h0:qdi l=0
   ·rw[if_pos h0,if_pos h0]
   ·rw[if_neg h0,if_neg h0]
    have:=q0c l
    exact qyo n m _ (by simp only[zaq];omega) (by simp only[zaq];omega)
theorem qi6 (l:List Int):qcl l=if l=[] then true else if qdi l=0 then false else qcl (l.drop (qdi l).toNat):=by
 unfold qcl
 cases l with
 | nil=>simp[qif]
 | cons c r=>
  rw[if_neg (by simp)]
  conv=>lhs;rw[zac];unfold qif
  rw[if_neg (by simp)]
  by_cases h0:qdi (c::r)=0
  ·rw[if_pos h0,if_pos h0]
  ·rw[if_neg h0,if_neg h0]
   have:=q0c (c::r)
   exact qyo _ _ _ (by simp only[zaq,zac];omega) (zar _)
theorem xbwl (b:List Int) (hb:qad b=true): ∀(f i:Nat),i<=b.length->b.length<f+i->
  ql4 (fun _ _ _ _ _ _ _ _ _ _=>some (.ret [.cl (.bool false)] [])) (fun _ _ _ _ _=>some (.ret [.cl (.bool true)] [])) f b i=some (.ret [.cl (.bool (qcl (b.drop i)))] [])
 | 0,i,hi,hf=>by omega
 | f+1,i,hi,hf=>by
  show qmx (ql4 (fun _ _ _ _ _ _ _ _ _ _=>some (.ret [.cl (.bool false)] [])) (fun _ _ _ _ _=>some (.ret [.cl (.bool true)] [])) f) _ _ b i=_
  unfold qmx
  have hl:=(qal hb).1
  refine qae (fun h=>qam ?_ ?_) fun h=>qaz ?_
  ·simp only[zab,decide_eq_true_eq];exact⟨hb,by omega,by omega⟩
  ·extract_lets r1 x2
   have hr:=q0c (b.drop i)
   have e1:r1=qdi (b.drop i):=by show u8Rune b i=_;unfold u8Rune;rw[qab];rfl
   rw[zaq] at hr
   rw[qi6,if_neg (by intro e;have:=congrArg List.length e;simp at this;omega)]
   refine qae (fun h0=>qaz ?_) fun h0=> ?_
   ·rw[if_pos (by omega)]
   ·rw[if_neg (by omega)]
    have e2:x2=((i+(qdi (b.drop i)).toNat:Nat):Int):=(i64_in ((i:Int)+r1) (by omega)).trans (by omega)
    rw[e2]
    refine(xbwl b hb f _ (by omega) (by omega)).trans ?_
    rw[List.drop_drop]
  ·rw[qd6 (by omega)];rfl
theorem xb1j (b:List Int) (hp:qad b=true):xbue b=some (.ret [.cl (.bool (u8Valid b))] []):=by
 unfold xbue u8Valid
 simp only[qab]
 exact xbwl b hp FUEL 0 (by omega) (by have:=(qal hp).1;unfold FUEL;omega)
open IntWalk (i64_in u8_in u32_in u64_in i64_quo u8_quo rem_in)
theorem q46 {n:Nat} (h:n<2 ^ 64):(BitVec.ofInt 64 (n:Int)).toNat=n:=by
 rw[zcm];omega
theorem orN {a b:Nat} (ha:a<2 ^ 64) (hb:b<2 ^ 64):IntKind.u64.wrap ((BitVec.ofInt 64 (a:Int)||| BitVec.ofInt 64 (b:Int)).toNat)=((a||| b:Nat):Int):=by
 rw[zdw,q46 ha,q46 hb]
 have:=za6 ha hb
 exact u64_in _ (by omega)
theorem andN {a b:Nat} (ha:a<2 ^ 64) (hb:b<2 ^ 64):IntKind.u64.wrap ((BitVec.ofInt 64 (a:Int)&&&BitVec.ofInt 64 (b:Int)).toNat)=((a&&&b:Nat):Int):=by
 rw[BitVec.toNat_and,q46 ha,q46 hb]
 have:a&&&b<=a:=Nat.and_le_left
 exact u64_in _ (by omega)
theorem xb1d (b:List Int) (hp:(qad b&&decide (8<=b.length))=true):xbvs b=some (.ret [.cl (.int .u64 (u8Word b))] []):=by
 simp only[zab,decide_eq_true_eq] at hp
 obtain⟨hb,hl⟩:=hp
 match b,hl,hb with
 | x0::x1::x2::x3::x4::x5::x6::x7::r,_,hb=>
  have r0:=qax hb (i:=0) (x:=x0) rfl
  have r1:=qax hb (i:=1) (x:=x1) rfl
  have r2:=qax hb (i:=2) (x:=x2) rfl
  have r3:=qax hb (i:=3) (x:=x3) rfl
  have r4:=qax hb (i:=4) (x:=x4) rfl
  have r5:=qax hb (i:=5) (x:=x5) rfl
  have r6:=qax hb (i:=6) (x:=x6) rfl
  have r7:=qax hb (i:=7) (x:=x7) rfl
  obtain⟨n0,rfl⟩: ∃n:Nat,x0=n:=⟨x0.toNat,by omega⟩
  obtain⟨n1,rfl⟩: ∃n:Nat,x1=n:=⟨x1.toNat,by omega⟩
  obtain⟨n2,rfl⟩: ∃n:Nat,x2=n:=⟨x2.toNat,by omega⟩
  obtain⟨n3,rfl⟩: ∃n:Nat,x3=n:=⟨x3.toNat,by omega⟩
  obtain⟨n4,rfl⟩: ∃n:Nat,x4=n:=⟨x4.toNat,by omega⟩
  obtain⟨n5,rfl⟩: ∃n:Nat,x5=n:=⟨x5.toNat,by omega⟩
  obtain⟨n6,rfl⟩: ∃n:Nat,x6=n:=⟨x6.toNat,by omega⟩
  obtain⟨n7,rfl⟩: ∃n:Nat,x7=n:=⟨x7.toNat,by omega⟩
  unfold xbvs u8Word xblw
  simp only[qab,zap,zaz,zaj,zac,List.getD_cons_zero,List.getD_cons_succ,Int.toNat_natCast]
  have w: ∀n:Nat,n<=255->IntKind.u64.wrap (n:Int)=(n:Int):=fun n h=>u64_in _ (by omega)
  have sh: ∀(n k:Nat),n<=255->k<=56->IntKind.u64.wrap ((n:Int)*2 ^ k)=((n*2 ^ k:Nat):Int):=fun n k h hk=>by
   have h2:2 ^ k<=2 ^ 56:=zco (by omega) hk
   have h3:n*2 ^ k<=255*2 ^ 56:=zdh h h2
   have e:((n:Int)*2 ^ k)=((n*2 ^ k:Nat):Int):=by rw[Int.natCast_mul,zdo];rfl
   rw[e]
   exact u64_in _ (by omega)
  have lt: ∀(n k:Nat),n<=255->k<=56->n*2 ^ k<2 ^ 64:=fun n k h hk=>by
   have h2:2 ^ k<=2 ^ 56:=zco (by omega) hk
   have h3:n*2 ^ k<=255*2 ^ 56:=zdh h h2
   omega
  have p0:n0<2 ^ 64:=by omega
  have p1:=za6 p0 (lt n1 8 (by omega) (by omega))
  have p2:=za6 p1 (lt n2 16 (by omega) (by omega))
  have p3:=za6 p2 (lt n3 24 (by omega) (by omega))
  have p4:=za6 p3 (lt n4 32 (by omega) (by omega))
  have p5:=za6 p4 (lt n5 40 (by omega) (by omega))
  have p6:=za6 p5 (lt n6 48 (by omega) (by omega))
  rw[w n0 (by omega),w n1 (by omega),w n2 (by omega),w n3 (by omega),w n4 (by omega),w n5 (by omega),w n6 (by omega),w n7 (by omega)]
  rw[sh n1 8 (by omega) (by omega),sh n2 16 (by omega) (by omega),sh n3 24 (by omega) (by omega),sh n4 32 (by omega) (by omega),sh n5 40 (by omega) (by omega),sh n6 48 (by omega) (by omega),sh n7 56 (by omega) (by omega)]
  rw[orN p0 (lt n1 8 (by omega) (by omega)),orN p1 (lt n2 16 (by omega) (by omega)),orN p2 (lt n3 24 (by omega) (by omega)),orN p3 (lt n4 32 (by omega) (by omega)),orN p4 (lt n5 40 (by omega) (by omega)),orN p5 (lt n6 48 (by omega) (by omega)),orN p6 (lt n7 56 (by omega) (by omega))]
  exact qan (by omega) (qan (by omega) (qan (by omega) (qan (by omega) (qan (by omega) (qan (by omega) (qan (by omega) (qan (by omega) rfl)))))))
def MASK:Nat:=9259542123273814144
theorem qj3 {a b:Nat}:(a||| b)&&&MASK=0↔a&&&MASK=0/\b&&&MASK=0:=by
 rw[Nat.and_or_distrib_right]
 constructor
 ·intro h
  have h1:a&&&MASK<=(a&&&MASK)||| (b&&&MASK):=Nat.left_le_or
  have h2:b&&&MASK<=(a&&&MASK)||| (b&&&MASK):=Nat.right_le_or
  omega
 ·rintro⟨h1,h2⟩
  rw[h1,h2];rfl
theorem xbgi: ∀k:Fin 8, ∀n:Fin 256,((n.val*2 ^ (8*k.val))&&&MASK=0)=(n.val<128):=by decide+kernel
def xbcn (k:Nat) (l:List Int):Prop:=k<=l.length/\∀i x,i<k->l[i]? =some x->x<128
theorem qmu: ∀(k:Nat) (l:List Int),xbcn k l->qcl (l.drop k)=qcl l
 | 0,l,_=>rfl
 | k+1,l,h=>by
  match l,h with
  | [],h=>have:=h.1;simp at this
  | c::r,h=>
   have hc:c<128:=h.2 0 c (by omega) rfl
   rw[qi6 (c::r),if_neg (by simp),qeg,if_pos hc,if_neg (by omega)]
   exact qmu k r ⟨by have:=h.1;simp at this;omega,fun i x hi hx=>h.2 (i+1) x (by omega) (by simpa using hx)⟩
theorem qio {l:List Int} (hb:qad l=true) (hl:8<=l.length): ∃N:Nat,u8Word l=N/\N<2 ^ 64/\(N&&&MASK=0->xbcn 8 l):=by
 unfold u8Word
 rw[qab]
 refine⟨_,rfl, ?_,fun h=>⟨hl, ?_⟩⟩
 ·have hr: ∀i,(l.getD i 0).toNat<=255:=fun i=>by
   rw[za7]
   cases hx:l[i]? with
   | none=>simp
   | some x=>have:=qax hb hx;simp;omega
  have h0:=hr 0;have h1:=hr 1;have h2:=hr 2;have h3:=hr 3;have h4:=hr 4;have h5:=hr 5;have h6:=hr 6;have h7:=hr 7
  exact za6 (za6 (za6 (za6 (za6 (za6 (za6 (by omega) (by omega)) (by omega)) (by omega)) (by omega)) (by omega)) (by omega)) (by omega)
 ·rw[qj3,qj3,qj3,qj3,qj3,qj3,qj3] at h
  obtain⟨⟨⟨⟨⟨⟨⟨a0,a1⟩,a2⟩,a3⟩,a4⟩,a5⟩,a6⟩,a7⟩:=h
  have key: ∀(k:Fin 8) (n:Nat),n<=255->(n*2 ^ (8*k.val))&&&MASK=0->n<128:=fun k n hn h=>by
   have:=xbgi k ⟨n,by omega⟩
   simp only at this
   rw[this] at h
   exact h
  intro i x hi hx
  have hxr:=qax hb hx
  have hg:(l.getD i 0).toNat=x.toNat:=by rw[za7,hx];rfl
  match i,hi,hg with
  | 0,_,hg=>rw[hg] at a0;have:=key 0 x.toNat (by omega) (by simpa using a0);omega
  | 1,_,hg=>rw[hg] at a1;have:=key 1 x.toNat (by omega) a1;omega
  | 2,_,hg=>rw[hg] at a2;have:=key 2 x.toNat (by omega) a2;omega
  | 3,_,hg=>rw[hg] at a3;have:=key 3 x.toNat (by omega) a3;omega
  | 4,_,hg=>rw[hg] at a4;have:=key 4 x.toNat (by omega) a4;omega
  | 5,_,hg=>rw[hg] at a5;have:=key 5 x.toNat (by omega) a5;omega
  | 6,_,hg=>rw[hg] at a6;have:=key 6 x.toNat (by omega) a6;omega
  | 7,_,hg=>rw[hg] at a7;have:=key 7 x.toNat (by omega) a7;omega
theorem qpp {j k:Nat} {l:List Int} (h1:xbcn j l) (h2:xbcn k (l.drop j)):xbcn (j+k) l:=by
 refine⟨by have:=h2.1;simp only[zaq] at this;have:=h1.1;omega,fun i x hi hx=> ?_⟩
 by_cases h:i<j
 ·exact h1.2 i x h hx
 ·exact h2.2 (i - j) x (by omega) (by rw[zbk,show j+(i - j)=i by omega];exact hx)
theorem xbbq (A:List Int->Option Out) (R:Option Out) (L:Nat) (v:Bool) (hA: ∀l,l.length<=L->qad l=true->qcl l=v->A l=R): ∀(f:Nat) (l:List Int),l.length<f->l.length<=L->qad l=true->qcl l=v->
  qkb A f l=R
 | 0,l,h,_,_,_=>by omega
 | f+1,l,hf,hL,hb,hv=>by
  show qlm (qkb A f) A l=R
  unfold qlm
  refine qae (fun h=> ?_) fun h=>hA l hL hb hv
  have b1:=qa7 hb 8
  have b2:=qa7 hb 16
  have b3:=qa7 hb 24
  have l1:8<=(l.drop 8).length:=by simp only[zaq];omega
  have l2:8<=(l.drop 16).length:=by simp only[zaq];omega
  have l3:8<=(l.drop 24).length:=by simp only[zaq];omega
  obtain⟨n0,e0,p0,q0⟩:=qio hb (show 8<=l.length by omega)
  obtain⟨n1,e1,p1,q1⟩:=qio b1 l1
  obtain⟨n2,e2,p2,q2⟩:=qio b2 l2
  obtain⟨n3,e3,p3,q3⟩:=qio b3 l3
  have two: ∀(l:List Int),qad l=true->8<=l.length->(qad l&&decide (8<=l.length))=true:=fun l h1 h2=>by rw[h1,decide_eq_true h2];rfl
  refine qam (two _ hb (by omega)) (qan (by omega) (qam (two _ b1 l1) (qan (by omega) (qam (two _ b2 l2) (qan (by omega) (qam (two _ b3 l3) ?_))))))
  dsimp only
  rw[e0,e1,e2,e3]
  rw[orN p0 p1,orN p2 p3,orN (za6 p0 p1) (za6 p2 p3)]
  rw[show(9259542123273814144:Int)=(MASK:Int) from rfl,andN (za6 (za6 p0 p1) (za6 p2 p3)) (by decide)]
  refine qae (fun hz=>qan (by omega) ?_) fun _=>hA l hL hb hv
  have hz:((n0||| n1)||| (n2||| n3))&&&MASK=0:=by omega
  rw[qj3,qj3,qj3] at hz
  have hasc:=qpp (qpp (qpp (q0 hz.1.1) (q1 hz.1.2)) (q2 hz.2.1)) (q3 hz.2.2)
  exact xbbq A R L v hA f _ (by simp only[zaq];omega) (by simp only[zaq];omega) (qa7 hb 32) ((qmu 32 l hasc).trans hv)
def xbku (n s lo hi:Int):Bool:=
 decide ((s=1/\(n<194\/244<n))\/(s=2/\194<=n/\n<=223/\lo=128/\hi=191)\/(s=3/\224<=n/\n<=239/\lo=(if n=224 then 160 else 128)/\hi=(if n=237 then 159 else 191))\/
  (s=4/\240<=n/\n<=244/\lo=(if n=240 then 144 else 128)/\hi=(if n=244 then 143 else 191)))
def tabB (n:Nat):Bool:=match qg1[n]? with
 | some f=>match qj4[(Int.fdiv f (2 ^ 4)).toNat]? with
  | some (.agg [.int .u8 lo,.int .u8 hi])=>decide (0<=Int.fdiv f (2 ^ 4)/\Int.fdiv f (2 ^ 4)<16)&&xbku n (IntKind.i64.wrap (IntKind.u8.wrap ((BitVec.ofInt 8 f&&&BitVec.ofInt 8 7).toNat))) lo hi
  | _=>false
 | none=>false
theorem xbu9: ∀n:Fin 256,128<=n.val->tabB n.val=true:=by decide+kernel
theorem xb1k {e:Int} (h1:128<=e) (h2:e<=255): ∃f lo hi,u8First[e.toNat]? =some f/\(0<=Int.fdiv f (2 ^ 4)/\Int.fdiv f (2 ^ 4)<16)/\u8Accept[(Int.fdiv f (2 ^ 4)).toNat]? =some (.agg [.int .u8 lo,.int .u8 hi])/\
  xbku e (IntKind.i64.wrap (IntKind.u8.wrap ((BitVec.ofInt 8 f&&&BitVec.ofInt 8 7).toNat))) lo hi=true:=by
 have h:=xbu9 ⟨e.toNat,by omega⟩ (by simp;omega)
 simp only at h
 unfold tabB at h
 unfold u8First u8Accept
 simp only[qab]
 split at h
 ·rename_i f hf
  split at h
  ·rename_i lo hi ha
   simp only[zab,decide_eq_true_eq] at h
   refine⟨f,lo,hi,hf,h.1,ha, ?_⟩
   rw[show e=(e.toNat:Int) by omega]
   exact h.2
  ·cases h
 ·cases h
theorem q4q {l:List Int} {k:Nat} {x:Int} (h:l[k]? =some x):u8At l k=decide (128<=x/\x<192):=by unfold u8At;rw[h]
theorem xb33: ∀(f:Nat) (l:List Int),l.length<f->qad l=true->qhn (some (.ret [.cl (.bool false)] [])) (some (.ret [.cl (.bool true)] [])) f l=some (.ret [.cl (.bool (qcl l))] [])
 | 0,l,h,_=>by omega
 | f+1,l,hf,hb=>by
  have again: ∀l':List Int,l'.length<l.length->qad l'=true->qcl l'=qcl l->qhn (some (.ret [.cl (.bool false)] [])) (some (.ret [.cl (.bool true)] [])) f l'=some (.ret [.cl (.bool (qcl l))] []):=fun l' h1 h2 h3=>by
   rw[<- h3];exact xb33 f l' (by omega) h2
  show qn1 (qhn (some (.ret [.cl (.bool false)] [])) (some (.ret [.cl (.bool true)] [])) f) (some (.ret [.cl (.bool false)] [])) (some (.ret [.cl (.bool true)] [])) l=_
  generalize qhn (some (.ret [.cl (.bool false)] [])) (some (.ret [.cl (.bool true)] [])) f=ag at again
  have hl:=(qal hb).1
  unfold qn1
  cases l with
  | nil=>exact qb6 (by simp) rfl
  | cons c r=>
  have hc:=qax hb (i:=0) (x:=c) rfl
  have hbr:=qbs hb
  simp only[zbr] at hbr
  refine qan (by simp only[zac];omega) (qan (by simp only[zac];omega) ?_)
  simp only[zap,zaj]
  refine qae (fun h7=>qan (by simp only[zac];omega) ?_) fun h7=> ?_
  ·
   have hone:qcl r=qcl (c::r):=by
    rw[qi6 (c::r),if_neg (by simp),qeg,if_pos h7,if_neg (by omega)];rfl
   rw[List.drop_one,zbr]
   have two: ∀(l:List Int),qad l=true->8<=l.length->(qad l&&decide (8<=l.length))=true:=fun l h1 h2=>by rw[h1,decide_eq_true h2];rfl
   refine qae (fun h8=>qam (two r hbr (by omega)) ?_) fun _=>again r (by simp) hbr hone
   obtain⟨n0,e0,p0,q0⟩:=qio hbr (show 8<=r.length by omega)
   rw[e0,show(9259542123273814144:Int)=(MASK:Int) from rfl,andN p0 (by decide)]
   refine qae (fun hz=>qan (by omega) ?_) fun _=>again r (by simp) hbr hone
   have a0:=q0 (by omega)
   have hd8:=(qmu 8 r a0).trans hone
   have hb8:=qa7 hbr 8
   refine qae (fun h16=> ?_) fun _=>again _ (by simp only[zaq,zac];omega) hb8 hd8
   have hb16:=qa7 hb8 8
   have l1:8<=(List.drop 8 r).length:=by omega
   have l2:8<=(List.drop 8 (List.drop 8 r)).length:=by rw[zaq];omega
   obtain⟨n1,e1,p1,q1⟩:=qio hb8 l1
   obtain⟨n2,e2,p2,q2⟩:=qio hb16 l2
   refine qam (two _ hb8 l1) (qan (by omega) (qam (two _ hb16 l2) ?_))
   rw[e1,e2,orN p1 p2,andN (za6 p1 p2) (by decide)]
   refine qae (fun hz=>qan (by omega) ?_) fun _=>again _ (by simp only[zaq,zac];omega) hb8 hd8
   have hz:(n1||| n2)&&&MASK=0:=by omega
   rw[qj3] at hz
   have a12:=qpp (q1 hz.1) (q2 hz.2)
   have hb24:=qa7 hb8 16
   have hd24:=(qmu 16 _ a12).trans hd8
   rw[qab]
   exact xbbq ag _ (List.drop 16 (List.drop 8 r)).length (qcl (c::r)) (fun l' h1 h2 h3=>again l' (by simp only[zaq,zac] at h1 ⊢;omega) h2 h3) FUEL _ (by simp only[zac] at hl;simp only[zaq];unfold FUEL;omega) (zar _) hb24 hd24
  ·obtain⟨fv,lo,hi,t1,t2,t3,t4⟩:=xb1k (e:=c) (by omega) hc.2
   refine qan (by omega) (qan (by omega) ?_)
   simp only[t1,zaj]
   refine qan t2.1 (qan t2.2 ?_)
   simp only[t3,zaj]
   refine qam rfl ?_
   generalize IntKind.i64.wrap (IntKind.u8.wrap ((BitVec.ofInt 8 fv&&&BitVec.ofInt 8 7).toNat))=s at t4 ⊢
   have t4:=of_decide_eq_true t4
   show cond (decide (s=2)) _ _=_
   simp only[show qft ((cell1 (CV.agg [.int .u8 lo,.int .u8 hi])).headD .nili)=lo from rfl,show qft ((cell1 (CV.agg [.int .u8 lo,.int .u8 hi])).tail.headD .nili)=hi from rfl]
   have bad:qdi (c::r)=0->(some (Out.ret [.cl (.bool false)] []):Option Out)=some (.ret [.cl (.bool (qcl (c::r)))] []):=fun h=>by
    rw[qi6 (c::r),if_neg (by simp),if_pos h]
   have good: ∀k:Nat,0<k->qdi (c::r)=k->k<=(c::r).length->ag ((c::r).drop k)=some (.ret [.cl (.bool (qcl (c::r)))] []):=fun k h0 h hk=>by
    refine again _ (by simp only[zaq,zac] at hk ⊢;omega) (qa7 hb k) ?_
    rw[qi6 (c::r),if_neg (by simp),if_neg (by omega),h]
    rfl
   have hx: ∀k,k<r.length->∃x,r[k]? =some x/\0<=x/\x<=255:=fun k hk=>by
    obtain⟨x,hx⟩:=qbp (b:=r) hk
    exact⟨x,hx,qax hbr hx⟩
   have hnone: ∀k,r.length<=k-> ¬u8At r k=true:=fun k hk=>by unfold u8At;rw[zbd hk];simp
   have hf: ∀(k:Nat) (x:Int),r[k]? =some x->(x<128\/191<x)-> ¬u8At r k=true:=fun k x hx h=>by rw[q4q hx,decide_eq_true_eq];omega
   have ht: ∀(k:Nat) (x:Int),r[k]? =some x->128<=x->x<=191->u8At r k=true:=fun k x hx h h'=>by rw[q4q hx,decide_eq_true_eq];omega
   have hd: ∀x,r[0]? =some x->r.headD 0=x:=fun x hx=>by cases r with|nil=>cases hx|cons y t=>simpa using hx
   simp only[zac] at good ⊢
   rcases t4 with⟨rfl,hn⟩|⟨rfl,hn1,hn2,rfl,rfl⟩|⟨rfl,hn1,hn2,hlo,hhi⟩|⟨rfl,hn1,hn2,hlo,hhi⟩
   ·refine qb6 (by omega) (qb6 (by omega) (qb6 (by omega) (bad ?_)))
    rw[qeg,if_neg h7,if_neg (by omega),if_neg (by omega),if_neg (by omega)]
   ·have zero: ¬u8At r 0=true->qdi (c::r)=0:=fun h=>by rw[qeg,if_neg h7,if_neg (fun h'=>h h'.2.2),if_neg (by omega),if_neg (by omega)]
    refine qan rfl (qae (fun hs=>bad (zero (hnone 0 (by omega)))) fun hs=> ?_)
    obtain⟨x,hx0,hxr⟩:=hx 0 (by omega)
    simp only[zaz,hx0,zaj]
    refine qan (by omega) (qae (fun hs=>bad (zero (hf 0 x hx0 (by omega)))) fun hs1=>qan (by omega) (qae (fun hs=>bad (zero (hf 0 x hx0 (by omega)))) fun hs2=>qan (by omega) ?_))
    exact good 2 (by omega) (by rw[qeg,if_neg h7,if_pos ⟨hn1,hn2,ht 0 x hx0 (by omega) (by omega)⟩];rfl) (by omega)
   ·have zero: ¬(u8At r 0=true/\u8At r 1=true/\(c=224->160<=r.headD 0)/\(c=237->r.headD 0<160))->qdi (c::r)=0:=fun h=>by rw[qeg,if_neg h7,if_neg (by omega),if_neg (fun h'=>h h'.2.2),if_neg (by omega)]
    refine qb6 (by omega) (qan rfl (qae (fun hs=>bad (zero fun h=>hnone 1 (by omega) h.2.1)) fun hs=> ?_))
    obtain⟨x,hx0,hxr⟩:=hx 0 (by omega)
    obtain⟨y,hy0,hyr⟩:=hx 1 (by omega)
    have hdx:=hd x hx0
    simp only[zaz,hx0,hy0,zaj]
    have zx:(x<lo\/hi<x)->qdi (c::r)=0:=fun hh=>zero fun h=>by
     have h1:=h.1
     rw[q4q hx0,decide_eq_true_eq] at h1
     rw[hdx] at h
     have:=h.2.2.1
     have:=h.2.2.2
     rw[hlo,hhi] at hh
     split at hh<;>split at hh<;>omega
    refine qan (by omega) (qae (fun hs=>bad (zx (.inl hs))) fun hs1=>qan (by omega) (qae (fun hs=>bad (zx (.inr hs))) fun hs2=> ?_))
    refine qan (by omega) (qae (fun hs=>bad (zero fun h=>hf 1 y hy0 (by omega) h.2.1)) fun hs3=>qan (by omega) (qae (fun hs=>bad (zero fun h=>hf 1 y hy0 (by omega) h.2.1)) fun hs4=>qan (by omega) ?_))
    refine good 3 (by omega) ?_ (by omega)
    rw[hlo] at hs1
    rw[hhi] at hs2
    rw[qeg,if_neg h7,if_neg (by omega),if_pos ⟨hn1,hn2,ht 0 x hx0 (by split at hs1<;>omega) (by split at hs2<;>omega),ht 1 y hy0 (by omega) (by omega),fun e=>by rw[if_pos e] at hs1;rw[hdx];omega,fun e=>by rw[if_pos e] at hs2;rw[hdx];omega⟩]
    rfl
   ·have zero: ¬(u8At r 0=true/\u8At r 1=true/\u8At r 2=true/\(c=240->144<=r.headD 0)/\(c=244->r.headD 0<144))->qdi (c::r)=0:=fun h=>by rw[qeg,if_neg h7,if_neg (by omega),if_neg (by omega),if_neg (fun h'=>h h'.2.2)]
    refine qb6 (by omega) (qb6 (by omega) (qan rfl (qae (fun hs=>bad (zero fun h=>hnone 2 (by omega) h.2.2.1)) fun hs=> ?_)))
    obtain⟨x,hx0,hxr⟩:=hx 0 (by omega)
    obtain⟨y,hy0,hyr⟩:=hx 1 (by omega)
    obtain⟨z,hz0,hzr⟩:=hx 2 (by omega)
    have hdx:=hd x hx0
    simp only[zaz,hx0,hy0,hz0,zaj]
    have zx:(x<lo\/hi<x)->qdi (c::r)=0:=fun hh=>zero fun h=>by
     have h1:=h.1
     rw[q4q hx0,decide_eq_true_eq] at h1
     rw[hdx] at h
     have:=h.2.2.2.1
     have:=h.2.2.2.2
     rw[hlo,hhi] at hh
     split at hh<;>split at hh<;>omega
    refine qan (by omega) (qae (fun hs=>bad (zx (.inl hs))) fun hs1=>qan (by omega) (qae (fun hs=>bad (zx (.inr hs))) fun hs2=> ?_))
    refine qan (by omega) (qae (fun hs=>bad (zero fun h=>hf 1 y hy0 (by omega) h.2.1)) fun hs3=>qan (by omega) (qae (fun hs=>bad (zero fun h=>hf 1 y hy0 (by omega) h.2.1)) fun hs4=> ?_))
    refine qan (by omega) (qae (fun hs=>bad (zero fun h=>hf 2 z hz0 (by omega) h.2.2.1)) fun hs5=>qan (by omega) (qae (fun hs=>bad (zero fun h=>hf 2 z hz0 (by omega) h.2.2.1)) fun hs6=>qan (by omega) ?_))
    refine good 4 (by omega) ?_ (by omega)
    rw[hlo] at hs1
    rw[hhi] at hs2
    rw[qeg,if_neg h7,if_neg (by omega),if_neg (by omega),if_pos ⟨hn1,hn2,ht 0 x hx0 (by split at hs1<;>omega) (by split at hs2<;>omega),ht 1 y hy0 (by omega) (by omega),ht 2 z hz0 (by omega) (by omega),fun e=>by rw[if_pos e] at hs1;rw[hdx];omega,fun e=>by rw[if_pos e] at hs2;rw[hdx];omega⟩]
    rfl
theorem xbxt (b:List Int) (hp:qad b=true):xbjs b=some (.ret [.cl (.bool (u8Valid b))] []):=by
 unfold xbjs u8Valid
 simp only[qab]
 refine qam (by simp) (qan (by omega) ?_)
 rw[show((b.length:Int)).toNat=b.length from rfl,zc5]
 exact xb33 FUEL b (by have:=(qal hp).1;unfold FUEL;omega) hp
open IntWalk (i64_in u8_in u32_in u64_in i64_quo u8_quo rem_in)
theorem xbog: ∀(k:Fin 8) (n:Fin 256),(IntKind.u8.wrap ((BitVec.ofInt 8 (n.val:Int)&&&BitVec.ofInt 8 (IntKind.u8.wrap (IntKind.u8.wrap (1*2 ^ (min k.val 8)) - 1))).toNat)=0)=((n.val:Int) % 2 ^ k.val=0):=by decide+kernel
theorem xbin: ∀(k:Fin 8) (n:Fin 256),IntKind.u8.wrap (1*2 ^ (min k.val 8))≠0/\(Int.tmod (n.val:Int) (IntKind.u8.wrap (1*2 ^ (min k.val 8)))=0)=((n.val:Int) % 2 ^ k.val=0):=by decide+kernel
theorem xbbw (y:Int) (r:List Int) (x:Int):(x::y::r)[(r.length+1)]? =some ((y::r).getLast (by simp)):=by
 rw[zaz,List.getLast_eq_getElem]
 simp
theorem xbyq (b:List Int) (hp:qad b=true):xbi7 b=some (.ret [.cl (.bool (qig b))] []):=by
 unfold xbi7 qig
 rw[qab]
 match b,hp with
 | [],_=>rfl
 | [x],hp=>
  have hx:=qax hp (i:=0) (x:=x) rfl
  refine qb6 (by simp) (qan (by simp) ?_)
  simp only[zap,zaj]
  refine qae (fun h=>qaz ?_) fun h=>qan (by simp) (qan (by simp) rfl)
  exact(decide_eq_false (by omega)).symm
 | x::y::r,hp=>
  have hx:=qax hp (i:=0) (x:=x) rfl
  have hl:=(qal hp).1
  have hg:=xbbw y r x
  have hz:=qax hp hg
  simp only[zac] at hl
  simp only[qpg]
  generalize (y::r).getLast (by simp)=z at*
  refine qb6 (by simp only[zac];omega) (qan (by simp only[zac];omega) ?_)
  simp only[zap,zaj]
  refine qae (fun h=>qaz ?_) fun h=>qb6 (by simp only[zac];omega) ?_
  ·rw[show decide (x<=7)=false from decide_eq_false (by omega)];rfl
  ·rw[show IntKind.i64.wrap ((((x::y::r).length:Nat):Int) - 1)=((r.length+1:Nat):Int) from(i64_in ((((x::y::r).length:Nat):Int) - 1) (by simp only[zac];omega)).trans (by simp only[zac];omega)]
   refine qan (by omega) (qan (by simp only[zac];omega) ?_)
   rw[show(((r.length+1:Nat):Int)).toNat=r.length+1 from rfl,hg,zaj]
   refine qan (by simp only[zac];omega) (qb6 (by omega) (qaz ?_))
   have:=xbog ⟨x.toNat,by omega⟩ ⟨z.toNat,by omega⟩
   simp only[zda hz.1] at this
   rw[show decide (x<=7)=true from decide_eq_true (by omega),zbm]
   rw[zbg]
   simp only[decide_eq_true_eq]
   rw[this]
theorem xbgs (b:List Int) (hp:qad b=true):q4p b=some (.ret [.cl (.bool (qig b))] []):=by
 unfold q4p qig
 rw[qab]
 match b,hp with
 | [],_=>rfl
 | [x],hp=>
  have hx:=qax hp (i:=0) (x:=x) rfl
  refine qb6 (by simp) (qan (by simp) ?_)
  simp only[zap,zaj]
  refine qae (fun h=>qaz ?_) fun h=>qan (by simp) (qan (by simp) rfl)
  exact(decide_eq_false (by omega)).symm
 | x::y::r,hp=>
  have hx:=qax hp (i:=0) (x:=x) rfl
  have hl:=(qal hp).1
  have hg:=xbbw y r x
  have hz:=qax hp hg
  simp only[zac] at hl
  simp only[qpg]
  generalize (y::r).getLast (by simp)=z at*
  refine qb6 (by simp only[zac];omega) (qan (by simp only[zac];omega) ?_)
  simp only[zap,zaj]
  refine qae (fun h=>qaz ?_) fun h=>qb6 (by simp only[zac];omega) ?_
  ·rw[show decide (x<=7)=false from decide_eq_false (by omega)];rfl
  ·rw[show IntKind.i64.wrap ((((x::y::r).length:Nat):Int) - 1)=((r.length+1:Nat):Int) from(i64_in ((((x::y::r).length:Nat):Int) - 1) (by simp only[zac];omega)).trans (by simp only[zac];omega)]
   refine qan (by omega) (qan (by simp only[zac];omega) ?_)
   rw[show(((r.length+1:Nat):Int)).toNat=r.length+1 from rfl,hg,zaj]
   have:=xbin ⟨x.toNat,by omega⟩ ⟨z.toNat,by omega⟩
   simp only[zda hz.1] at this
   refine qan (by simp only[zac];omega) (qb6 (by omega) (qb6 this.1 (qaz ?_)))
   rw[show decide (x<=7)=true from decide_eq_true (by omega),zbm]
   rw[zbg]
   simp only[decide_eq_true_eq]
   rw[this.2]
theorem or7 {n x:Int} (h0:0<=n) (h1:n<72057594037927936) (h2:0<=x) (h3:x<=127):((BitVec.ofInt 64 (n*128)||| BitVec.ofInt 64 x).toNat:Int)=n*128+x:=by
 obtain⟨a,rfl⟩: ∃a:Nat,n=a:=⟨n.toNat,by omega⟩
 obtain⟨b,rfl⟩: ∃b:Nat,x=b:=⟨x.toNat,by omega⟩
 rw[zdw]
 have e1:(BitVec.ofInt 64 ((a:Int)*128)).toNat=2 ^ 7*a:=by rw[zcm];omega
 have e2:(BitVec.ofInt 64 (b:Int)).toNat=b:=by rw[zcm];omega
 rw[e1,e2, <- Nat.two_pow_add_eq_or_of_lt (by omega:b<2 ^ 7)]
 omega
theorem and7: ∀n:Fin 256,IntKind.u8.wrap ((BitVec.ofInt 8 (n.val:Int)&&& ~~~ BitVec.ofInt 8 128).toNat)=(n.val:Int) % 128/\(IntKind.u8.wrap ((BitVec.ofInt 8 (n.val:Int)&&&BitVec.ofInt 8 128).toNat)=0)=((n.val:Int)<128):=by decide+kernel
theorem xbre (b:List Int) (hb:qad b=true): ∀(f i:Nat) (n:Int),i<=b.length->b.length<f+i->0<=n->n<4294967296->
  qhf (fun _ _ _ _ _ _ _ _ _ _ _ _ _ _ _=>some (.ret [.cl (.int .u32 0),.cl (.int .i64 0)] [])) (fun _ _ _ _ _ _ _ _ _ _ _ _ _ _ _ _ _=>some (.ret [.cl (.int .u32 0),.cl (.int .i64 0)] [])) (fun y33 y34 _ _ _ _ _ _ _ _ _ _ _ _ _ _ _ _ _ _ _ _ _ _ _ _ _ _ _ _ _=>some (.ret [.cl (.int .u32 y33),.cl (.int .i64 y34)] [])) (fun _ _ _ _ _ _ _ _ _ _ _ _ _ _=>some (.ret [.cl (.int .u32 0),.cl (.int .i64 0)] []))
   (fun y33 y34 _ _ _ _ _ _ _ _ _ _ _ _ _ _ _ _ _ _ _ _ _ _ _ _ _ _=>some (.ret [.cl (.int .u32 y33),.cl (.int .i64 y34)] [])) (fun _ _ _ _=>some (.ret [.cl (.int .u32 0),.cl (.int .i64 0)] [])) f n b (b.length:Int) i=some (.ret [.cl (.int .u32 (qcc n i (b.drop i)).1),.cl (.int .i64 (qcc n i (b.drop i)).2)] [])
 | 0,i,n,hi,hf,_,_=>by omega
 | f+1,i,n,hi,hf,h0,h1=>by
  show qip (qhf (fun _ _ _ _ _ _ _ _ _ _ _ _ _ _ _=>some (.ret [.cl (.int .u32 0),.cl (.int .i64 0)] [])) (fun _ _ _ _ _ _ _ _ _ _ _ _ _ _ _ _ _=>some (.ret [.cl (.int .u32 0),.cl (.int .i64 0)] [])) (fun y33 y34 _ _ _ _ _ _ _ _ _ _ _ _ _ _ _ _ _ _ _ _ _ _ _ _ _ _ _ _ _=>some (.ret [.cl (.int .u32 y33),.cl (.int .i64 y34)] [])) (fun _ _ _ _ _ _ _ _ _ _ _ _ _ _=>some (.ret [.cl (.int .u32 0),.cl (.int .i64 0)] []))
   (fun y33 y34 _ _ _ _ _ _ _ _ _ _ _ _ _ _ _ _ _ _ _ _ _ _ _ _ _ _=>some (.ret [.cl (.int .u32 y33),.cl (.int .i64 y34)] [])) (fun _ _ _ _=>some (.ret [.cl (.int .u32 0),.cl (.int .i64 0)] [])) f) _ _ _ _ _ _ n b (b.length:Int) i=_
  have hl:=(qal hb).1
  unfold qip
  refine qae (fun h=>qan (by omega) (qan h ?_)) fun h=> ?_
  ·obtain⟨c,hc⟩:=qbp (b:=b) (i:=i) (by omega)
   have hcr:=qax hb hc
   rw[show(i:Int).toNat=i from rfl,hc,zaj,qc9 hc]
   have a7:=and7 ⟨c.toNat,by omega⟩
   simp only[zda hcr.1] at a7
   have step: ∀(X:Option Out), ¬33554431<n-> ¬((i:Int)=0/\c=128)->(IntKind.u64.wrap (n*2 ^ 7)=n*128)/\IntKind.u64.wrap (IntKind.u8.wrap ((BitVec.ofInt 8 c&&& ~~~ BitVec.ofInt 8 128).toNat))=c % 128/\IntKind.u64.wrap ((BitVec.ofInt 64 (n*128)||| BitVec.ofInt 64 (c % 128)).toNat)=n*128+c % 128/\
     qcc n i (c::b.drop (i+1))=if c<128 then(n*128+c,(i:Int)+1) else qcc (n*128+(c - 128)) ((i:Int)+1) (b.drop (i+1)):=fun X g1 g2=>by
    refine⟨(u64_in _ (by omega)).trans (by omega), ?_, ?_, ?_⟩
    ·rw[a7.1];exact u64_in _ (by omega)
    ·rw[or7 h0 (by omega) (by omega) (by omega)];exact u64_in _ (by omega)
    ·conv=>lhs;unfold qcc
     rw[if_neg (by rintro(h|h);exact g2 h;exact g1 h)]
   have stop:((i:Int)=0/\c=128)\/33554431<n->(some (.ret [.cl (.int .u32 0),.cl (.int .i64 0)] []):Option Out)=some (.ret [.cl (.int .u32 (qcc n i (c::b.drop (i+1))).1),.cl (.int .i64 (qcc n i (c::b.drop (i+1))).2)] []):=fun h=>by
    unfold qcc
    rw[if_pos h]
   have go: ∀(g1: ¬33554431<n) (g2: ¬((i:Int)=0/\c=128)) (R:Option Out) (K:Int->Int->Option Out) (A:Option Out),True:=fun _ _ _ _ _=>trivial
   refine qae (fun hi0=>qae (fun h128=>stop (.inl ⟨hi0,h128⟩)) fun h128=>qae (fun hn=>stop (.inr hn)) fun hn=> ?_) fun hi0=>qae (fun hn=>stop (.inr hn)) fun hn=> ?_
   ·obtain⟨s1,s2,s3,s4⟩:=step none hn (by omega)
    dsimp only
    rw[s1,s2,s3,s4]
    refine qae (fun hz=> ?_) fun hz=> ?_
    ·have hz:c<128:=by rwa [a7.2] at hz
     rw[if_pos hz,show c % 128=c by omega,show IntKind.u32.wrap (n*128+c)=n*128+c from u32_in _ (by omega),show IntKind.i64.wrap ((i:Int)+1)=(i:Int)+1 from i64_in _ (by omega)]
    ·have hz: ¬c<128:=by rwa [a7.2] at hz
     rw[if_neg hz,show c % 128=c - 128 by omega,show IntKind.i64.wrap ((i:Int)+1)=((i+1:Nat):Int) from(i64_in _ (by omega)).trans (by omega)]
     exact xbre b hb f (i+1) _ (by omega) (by omega) (by omega) (by omega)
   ·obtain⟨s1,s2,s3,s4⟩:=step none hn (by omega)
    dsimp only
    rw[s1,s2,s3,s4]
    refine qae (fun hz=> ?_) fun hz=> ?_
    ·have hz:c<128:=by rwa [a7.2] at hz
     rw[if_pos hz,show c % 128=c by omega,show IntKind.u32.wrap (n*128+c)=n*128+c from u32_in _ (by omega),show IntKind.i64.wrap ((i:Int)+1)=(i:Int)+1 from i64_in _ (by omega)]
    ·have hz: ¬c<128:=by rwa [a7.2] at hz
     rw[if_neg hz,show c % 128=c - 128 by omega,show IntKind.i64.wrap ((i:Int)+1)=((i+1:Nat):Int) from(i64_in _ (by omega)).trans (by omega)]
     exact xbre b hb f (i+1) _ (by omega) (by omega) (by omega) (by omega)
  ·rw[qd6 (by omega)]
   rfl
theorem xboe (b:List Int) (hp:qad b=true):xbdv b=some (.ret [.cl (.int .u32 (qfm b).1),.cl (.int .i64 (qfm b).2)] []):=by
 unfold xbdv qfm
 simp only[qab]
 exact xbre b hp FUEL 0 0 (by omega) (by have:=(qal hp).1;unfold FUEL;omega) (by omega) (by omega)
theorem xbh1 (b:List Int) (hp:true=true):xbit b=some (.ret [.fn (.func 189) [] [.ptr 0 0 0]] [some ⟨.var [.cl (.sli .u8 b)],false⟩]):=rfl
open IntWalk (i64_in u8_in u32_in u64_in i64_quo u8_quo rem_in)
theorem q0w: ∀(b:List Int) (n i:Int),(∀x∈b,0<=x/\x<=255)->0<=n->0<=i->(0<=(qcc n i b).1/\(qcc n i b).1<=4294967295)/\((qcc n i b).2=0\/i<(qcc n i b).2/\(qcc n i b).2<=i+b.length)
 | [],n,i,_,_,_=>by simp[qcc]
 | c::r,n,i,hb,hn,hi=>by
  have hc:=hb c (by simp)
  unfold qcc
  split
  ·simp
  ·rename_i h
   split
   ·exact⟨by omega,.inr (by simp only[zac];omega)⟩
   ·have:=q0w r (n*128+(c - 128)) (i+1) (fun x hx=>hb x (by simp[hx])) (by omega) (by omega)
    refine⟨this.1,this.2.imp id fun h=> ?_⟩
    simp only[zac];omega
theorem qjk {b:List Int} (hb:qad b=true):(0<=(qao b).1/\(qao b).1<=4294967295)/\((qao b).2=0\/0<(qao b).2/\(qao b).2<=b.length):=by
 have:=q0w b 0 0 (qal hb).2 (by omega) (by omega)
 unfold qao
 exact⟨this.1,this.2.imp id fun h=>by omega⟩
theorem q3o: ∀(n m:Nat) (b:List Int),qad b=true->b.length<=n->b.length<=m->qec n b=qec m b
 | 0,0,b,_,_,_=>rfl
 | 0,m+1,b,_,h,_=>by
  have:b=[]:=zat (by omega)
  subst this;simp[qec]
 | n+1,0,b,_,_,h=>by
  have:b=[]:=zat (by omega)
  subst this;simp[qec]
 | n+1,m+1,b,hb,h1,h2=>by
  unfold qec
  by_cases h:b=[]
  ·rw[if_pos h,if_pos h]
  ·rw[if_neg h,if_neg h]
   by_cases h0:(qao b).2=0
   ·rw[if_pos h0,if_pos h0]
   ·rw[if_neg h0,if_neg h0]
    have:=(qjk hb).2
    rw[q3o n m _ (qa7 hb _) (by simp only[zaq];omega) (by simp only[zaq];omega)]
theorem xbf5 {b:List Int} (hb:qad b=true):qh8 b=if b=[] then[] else if(qao b).2=0 then[((qao b).1,false)] else((qao b).1,true)::qh8 (b.drop (qao b).2.toNat):=by
 unfold qh8
 cases b with
 | nil=>rfl
 | cons c r=>
  rw[if_neg (by simp)]
  conv=>lhs;rw[zac];unfold qec
  rw[if_neg (by simp)]
  by_cases h0:(qao (c::r)).2=0
  ·rw[if_pos h0,if_pos h0]
  ·rw[if_neg h0,if_neg h0]
   have:=(qjk hb).2
   rw[q3o _ _ _ (qa7 hb _) (by simp only[zaq,zac] at*;omega) (zar _)]
def xbm4 (p:Int×Bool):List CV:=[.int .u32 p.1,.bool p.2]
theorem xb4l (l:Nat): ∀(f:Nat) (b:List Int),qad b=true->b.length<f->∃out,qj7 l
  (fun _ _ _ _ _ _ _ _ _ _ _ _ _ _ y15=>some (.ret [] [some ⟨.var [.cl (.sli .u8 y15)],false⟩])) (fun _ _ _ _ _ _ _ _ _ _ _ _ _ _ _ _ y32=>some (.ret [] [some ⟨.var [.cl (.sli .u8 y32)],false⟩])) (fun _ _ y35=>some (.ret [] [some ⟨.var [.cl (.sli .u8 y35)],false⟩])) f b=some out/\Hands out (some ((qh8 b).map xbm4))
 | 0,b,_,h=>by omega
 | f+1,b,hb,hf=>by
  have ih:=fun b' h1 h2=>xb4l l f b' h1 h2
  generalize hag:qj7 l (fun _ _ _ _ _ _ _ _ _ _ _ _ _ _ y15=>some (.ret [] [some ⟨.var [.cl (.sli .u8 y15)],false⟩])) (fun _ _ _ _ _ _ _ _ _ _ _ _ _ _ _ _ y32=>some (.ret [] [some ⟨.var [.cl (.sli .u8 y32)],false⟩])) (fun _ _ y35=>some (.ret [] [some ⟨.var [.cl (.sli .u8 y35)],false⟩])) f=ag at ih
  have e:qj7 l (fun _ _ _ _ _ _ _ _ _ _ _ _ _ _ y15=>some (.ret [] [some ⟨.var [.cl (.sli .u8 y15)],false⟩])) (fun _ _ _ _ _ _ _ _ _ _ _ _ _ _ _ _ y32=>some (.ret [] [some ⟨.var [.cl (.sli .u8 y32)],false⟩])) (fun _ _ y35=>some (.ret [] [some ⟨.var [.cl (.sli .u8 y35)],false⟩])) (f+1) b=
    qnc l ag (fun _ _ _ _ _ _ _ _ _ _ _ _ _ _ y15=>some (.ret [] [some ⟨.var [.cl (.sli .u8 y15)],false⟩])) (fun _ _ _ _ _ _ _ _ _ _ _ _ _ _ _ _ y32=>some (.ret [] [some ⟨.var [.cl (.sli .u8 y32)],false⟩])) (fun _ _ y35=>some (.ret [] [some ⟨.var [.cl (.sli .u8 y35)],false⟩])) b:=by rw[<- hag];rfl
  rw[e]
  unfold qnc
  rw[xbf5 hb]
  by_cases h:b=[]
  ·subst h
   exact⟨_,qb6 (by simp) rfl,.inl rfl⟩
  ·have hlen:0<b.length:=List.length_pos_iff.2 h
   rw[if_neg h]
   have hr:=qjk hb
   have e1:qfm b=qao b:=by unfold qfm;rw[qab]
   rw[e1]
   by_cases h0:(qao b).2=0
   ·rw[if_pos h0]
    refine⟨.yld [.int .u32 (qao b).1,.bool (decide ((0:Int)<(qao b).2))] (.ret [] [some ⟨.var [.cl (.sli .u8 b)],false⟩]) (.ret [] [some ⟨.var [.cl (.sli .u8 b)],false⟩]),qan (by omega) (qam hb (qam (zbb l) ?_)), ?_⟩
    ·dsimp only
     rw[decide_eq_true h0];rfl
    ·refine⟨?_,.inr rfl,.inl rfl⟩
     show[CV.int .u32 (qao b).1,.bool (decide ((0:Int)<(qao b).2))]=[.int .u32 (qao b).1,.bool false]
     rw[decide_eq_false (by omega)]
   ·rw[if_neg h0]
    obtain⟨out,g1,g2⟩:=ih (b.drop (qao b).2.toNat) (qa7 hb _) (by simp only[zaq];omega)
    refine⟨.yld [.int .u32 (qao b).1,.bool (decide ((0:Int)<(qao b).2))] (.ret [] [some ⟨.var [.cl (.sli .u8 b)],false⟩]) out,qan (by omega) (qam hb (qam (zbb l) ?_)), ?_⟩
    ·dsimp only
     rw[decide_eq_false h0]
     show yldO _ _ (cond (decide ((0:Int)<=(qao b).2)) (cond (decide ((qao b).2<=(b.length:Int))) (ag (List.drop (Int.toNat (qao b).2) b)) none) none)=_
     rw[decide_eq_true (show(0:Int)<=(qao b).2 by omega),decide_eq_true (show(qao b).2<=(b.length:Int) by omega)]
     simp only[cond_true]
     rw[g1]
     rfl
    ·refine⟨?_,.inr rfl,g2⟩
     show[CV.int .u32 (qao b).1,.bool (decide ((0:Int)<(qao b).2))]=[.int .u32 (qao b).1,.bool true]
     rw[decide_eq_true (by omega)]
theorem xb0h (l:Nat) (b:List Int) (hp:qad b=true): ∃out,xblz l b=some out/\Hands out (some (qqf (qt7 b))):=by
 unfold xblz qqf qt7
 simp only[qab]
 obtain⟨out,h1,h2⟩:=xb4l l FUEL b hp (by have:=(qal hp).1;unfold FUEL;omega)
 exact⟨out,by rw[zbb,cond_true];exact h1,h2⟩
theorem xbgb {n:Int} (h0:0<=n) (h1:n<=4294967295): ∃x,cond (decide ((2:Int)<n/ 40)) 2 (n/ 40)=x/\0<=x/\x<=2/\ [x,n - 40*x]=qee n/\0<=n - 40*x:=by
 unfold qee
 by_cases h:n<80
 ·rw[if_pos h,decide_eq_false (by omega)]
  exact⟨n/ 40,rfl,by omega,by omega,by simp;omega,by omega⟩
 ·rw[if_neg h]
  by_cases h2:2<n/ 40
  ·rw[decide_eq_true h2]
   exact⟨2,rfl,by omega,by omega,by simp,by omega⟩
  ·rw[decide_eq_false h2]
   exact⟨n/ 40,rfl,by omega,by omega,by simp;omega,by omega⟩
theorem xb3t (R0:Option Out) (K:Nat->List Int->Option Out): ∀(ps:List (Int×Bool)) (o:List Int),(∀p∈ps,0<=p.1/\p.1<=4294967295)->o.length<=24->
  qhl (fun _ _=>R0) K (ps.map xbm4) o.length o=match xbfj ps o with|some o'=>K o'.length o'| none=>R0
 | [],o,_,_=>rfl
 | (n,ok)::ps,o,hp,ho=>by
  have hn:=hp (n,ok) (by simp)
  have ih:=fun o' h=>xb3t R0 K ps o' (fun p hp'=>hp p (by simp[hp'])) h
  show qka (qhl (fun _ _=>R0) K (ps.map xbm4)) (fun _ _=>R0) K n ok o.length o=_
  unfold qka xbfj
  cases ok with
  | false=>simp
  | true=>
   simp only[zc0,cond_false,Bool.true_eq_false,false_or]
   refine qae (fun h=> ?_) fun h=> ?_
   ·rw[if_pos (by omega)]
   ·rw[if_neg (by omega)]
    refine qae (fun h0=> ?_) fun h0=> ?_
    ·have:o=[]:=zat (by omega)
     subst this
     rw[if_pos rfl]
     obtain⟨x,g1,g2,g3,g4,g5⟩:=xbgb hn.1 hn.2
     rw[show IntKind.u32.wrap (Int.tdiv n 40)=n/ 40 by rw[zb5 hn.1];exact u32_in _ (by simp only at hn;omega)]
     rw[g1,show IntKind.u32.wrap (40*x)=40*x from u32_in _ (by omega),show IntKind.u32.wrap (n - 40*x)=n - 40*x from u32_in _ (by simp only at hn;omega)]
     rw[zbo,zc3,zbo]
     rw[g4]
     have hlen:(qee n).length=2:=by rw[<- g4];rfl
     refine qcw (by simp) (qcw (by simp) (qcw (by rw[hlen];simp) (qcw (by rw[hlen];simp) (ih (qee n) (by omega)))))
    ·rw[if_neg (by intro e;subst e;simp at h0)]
     refine qcw (by simp only[zag,zac,zcb];omega) (qcw (by simp only[zag,zac,zcb];omega) (ih _ (by simp only[zag,zac,zcb];omega)))
theorem xbc8: ∀(n:Nat) (b:List Int),qad b=true->∀p∈qec n b,0<=p.1/\p.1<=4294967295
 | 0,b,_,p,hp=>by simp[qec] at hp
 | n+1,b,hb,p,hp=>by
  have hr:=(qjk hb).1
  unfold qec at hp
  split at hp
  ·simp at hp
  ·split at hp
   ·simp at hp;subst hp;exact hr
   ·rcases zaw.1 hp with rfl|hp
    ·exact hr
    ·exact xbc8 n _ (qa7 hb _) p hp
theorem xbtq (b:List Int) (hp:qad b=true):xbem b=some (.ret [.cl (.sli .u32 (qdn b).1),.cl (.int .i64 (qdn b).2)] []):=by
 unfold xbem
 refine qam hp (qam ?_ ?_)
 ·unfold qqf
  rw[qab,List.all_map,zai]
  intro p _
  rfl
 ·unfold qqf qt7 qdn ql8 qi7
  simp only[qab]
  refine(xb3t _ _ (qh8 b) [] (xbc8 _ b hp) (by simp)).trans ?_
  cases xbfj (qh8 b) [] with
  | none=>rfl
  | some o=>
   show cond (!(qcn o)) _ _=_
   cases h:qcn o<;>simp[h]
def qlc (o:List Int) (n:Int):List Int:=if o=[] then qee n else o++[n]
def quh:Int->Bool->List Int->List Int->Option (List Int)
 | _,fresh,[],o=>if fresh=true then some o else none
 | n,fresh,c::r,o=>if fresh=true/\c=128 then none else if 4294967295<n*128+c % 128 then none else if c<128 then quh 0 true r (qlc o (n*128+c % 128)) else quh (n*128+c % 128) false r o
def qsv:Option (List Int)->List Int×Int
 | some o=>if qcn o=true then(o,0) else([],5)
 | none=>([],5)
theorem xbao (o:List Int) (n:Int):o.length<=(qlc o n).length:=by
 unfold qlc
 split
 ·rename_i h;subst h;simp
 ·simp
theorem quw: ∀(b:List Int) (n:Int) (fresh:Bool) (o o':List Int),quh n fresh b o=some o'->o.length<=o'.length
 | [],n,fresh,o,o',h=>by
  unfold quh at h
  split at h
  ·simp at h;subst h;exact zar _
  ·cases h
 | c::r,n,fresh,o,o',h=>by
  unfold quh at h
  split at h
  ·cases h
  ·split at h
   ·cases h
   ·split at h
    ·exact zca (xbao o _) (quw r _ _ _ _ h)
    ·exact quw r _ _ _ _ h
theorem xbe2 (n:Int) (fresh:Bool) (c:Int) (r o:List Int):quh n fresh (c::r) o=if fresh=true/\c=128 then none else if 4294967295<n*128+c % 128 then none else if c<128 then quh 0 true r (qlc o (n*128+c % 128)) else quh (n*128+c % 128) false r o:=rfl
theorem xbhz (n i c:Int) (r:List Int):qcc n i (c::r)=if(i=0/\c=128)\/33554431<n then(0,0) else if c<128 then(n*128+c,i+1) else qcc (n*128+(c - 128)) (i+1) r:=rfl
theorem q4w: ∀(b:List Int) (n i:Int) (fresh:Bool) (o:List Int),(∀x∈b,0<=x/\x<=255)->0<=n->0<=i->(fresh=true↔i=0)->(b=[]->fresh=false)->
  quh n fresh b o=if(qcc n i b).2=0 then none else quh 0 true (b.drop ((qcc n i b).2 - i).toNat) (qlc o (qcc n i b).1)
 | [],n,i,fresh,o,_,_,_,_,h=>by simp[quh,qcc,h rfl]
 | c::r,n,i,fresh,o,hb,hn,hi,hf,_=>by
  have hc:=hb c (by simp)
  rw[xbe2,xbhz]
  by_cases h1:fresh=true/\c=128
  ·rw[if_pos h1,if_pos (show(i=0/\c=128)\/33554431<n from .inl ⟨hf.1 h1.1,h1.2⟩)];rfl
  ·rw[if_neg h1]
   by_cases h2:33554431<n
   ·rw[if_pos (by omega),if_pos (show(i=0/\c=128)\/33554431<n from .inr h2)];rfl
   ·rw[if_neg (by omega),if_neg (show ¬((i=0/\c=128)\/33554431<n) from fun h=>h.elim (fun h=>h1 ⟨hf.2 h.1,h.2⟩) h2)]
    by_cases h3:c<128
    ·rw[if_pos h3,if_pos h3,show c % 128=c by omega]
     simp only
     rw[if_neg (by omega),show(i+1 - i).toNat=1 by omega]
     rfl
    ·rw[if_neg h3,if_neg h3,show c % 128=c - 128 by omega]
     rw[q4w r (n*128+(c - 128)) (i+1) false o (fun x hx=>hb x (by simp[hx])) (by omega) (by omega) (by simp;omega) (fun _=>rfl)]
     have hr:=q0w r (n*128+(c - 128)) (i+1) (fun x hx=>hb x (by simp[hx])) (by omega) (by omega)
     by_cases h4:(qcc (n*128+(c - 128)) (i+1) r).2=0
     ·rw[if_pos h4,if_pos h4]
     ·rw[if_neg h4,if_neg h4]
      have hr2:=hr.2.resolve_left h4
      rw[show((qcc (n*128+(c - 128)) (i+1) r).2 - i).toNat=((qcc (n*128+(c - 128)) (i+1) r).2 - (i+1)).toNat+1 by omega,zci]
theorem xbmt {o:List Int} (h:20<o.length):qsv (some o)=([],5):=by
 unfold qsv
 have:qcn o=false:=by
  match o,h with
  | x::y::r,h=>simp only[qcn];simp only[zac] at h;rw[show decide (r.length<=18)=false from decide_eq_false (by omega)];rfl
  | [x],h=>simp at h
  | [],h=>simp at h
 show(if qcn o=true then(o,0) else([],5):List Int×Int)=_
 rw[this];rfl
theorem xbvq: ∀(n:Nat) (b:List Int),qad b=true->b.length<=n->∀o,qsv (quh 0 true b o)=qsv (xbfj (qec n b) o)
 | 0,b,_,h,o=>by
  have:b=[]:=zat (by omega)
  subst this;rfl
 | n+1,b,hb,h,o=>by
  unfold qec
  by_cases he:b=[]
  ·subst he;rfl
  ·rw[if_neg he]
   have hr:=qjk hb
   have hnum:=q4w b 0 0 true o (qal hb).2 (by omega) (by omega) (by simp) (fun h=>absurd h he)
   rw[show qcc 0 0 b=qao b from rfl] at hnum
   by_cases h0:(qao b).2=0
   ·rw[if_pos h0,hnum,if_pos h0]
    simp[xbfj]
   ·rw[if_neg h0,hnum,if_neg h0]
    have hr2:=hr.2.resolve_left h0
    conv=>rhs;unfold xbfj
    by_cases hlong:20<o.length
    ·rw[if_pos (.inr hlong)]
     cases hg:quh 0 true (List.drop ((qao b).2 - 0).toNat b) (qlc o (qao b).1) with
     | none=>rfl
     | some o'=>
      rw[xbmt (by have:=quw _ _ _ _ _ hg;have:=xbao o (qao b).1;omega)]
      rfl
    ·rw[if_neg (by rintro(h|h);cases h;exact hlong h),Int.sub_zero]
     rw[xbvq n _ (qa7 hb _) (by simp only[zaq];omega)]
     unfold qlc
     split<;>rfl
theorem xb3r (b:List Int) (hb:qad b=true): ∀(f i:Nat) (n:Int) (fresh:Bool) (o:List Int),i<=b.length->b.length<f+i->0<=n->n<=4294967295->o.length<=2+i->
  qfu (fun _ _ _ _ _ _ _ _ _ _ _ _ _ _ _ _=>some (.ret [.cl (.sli .u32 []),.cl (.int .i64 5)] [])) (fun _ _ _ _ _ _ _ _ _ _ _ _ _ _ _ _ _ _ _ _ _ _ _ _ _ _ _ _ _ _ _ _ _=>some (.ret [.cl (.sli .u32 []),.cl (.int .i64 5)] [])) (fun _ _ _ _ _ _ _ _ _ _ _ _ _ _ _ _ _ _ _ _ _ _ _ _ _ _ _=>some (.ret [.cl (.sli .u32 []),.cl (.int .i64 5)] []))
   (fun _ _ _ y80 _ _ _ _ y85=>cond (!y80) (some (.ret [.cl (.sli .u32 []),.cl (.int .i64 5)] [])) (let r86:Bool:=qi7 y85;cond (!r86) (some (.ret [.cl (.sli .u32 []),.cl (.int .i64 5)] [])) (some (.ret [.cl (.sli .u32 y85),.cl (.int .i64 0)] [])))) f b o.length n fresh i o=
   some (.ret [.cl (.sli .u32 (qsv (quh n fresh (b.drop i) o)).1),.cl (.int .i64 (qsv (quh n fresh (b.drop i) o)).2)] [])
 | 0,i,n,fresh,o,hi,hf,_,_,_=>by omega
 | f+1,i,n,fresh,o,hi,hf,h0,h1,ho=>by
  have ih:=fun n fresh o h0 h1 ho hi=>xb3r b hb f (i+1) n fresh o hi (by omega) h0 h1 ho
  have hl:=(qal hb).1
  generalize hag:qfu (fun _ _ _ _ _ _ _ _ _ _ _ _ _ _ _ _=>some (.ret [.cl (.sli .u32 []),.cl (.int .i64 5)] [])) (fun _ _ _ _ _ _ _ _ _ _ _ _ _ _ _ _ _ _ _ _ _ _ _ _ _ _ _ _ _ _ _ _ _=>some (.ret [.cl (.sli .u32 []),.cl (.int .i64 5)] [])) (fun _ _ _ _ _ _ _ _ _ _ _ _ _ _ _ _ _ _ _ _ _ _ _ _ _ _ _=>some (.ret [.cl (.sli .u32 []),.cl (.int .i64 5)] []))
   (fun _ _ _ y80 _ _ _ _ y85=>cond (!y80) (some (.ret [.cl (.sli .u32 []),.cl (.int .i64 5)] [])) (let r86:Bool:=qi7 y85;cond (!r86) (some (.ret [.cl (.sli .u32 []),.cl (.int .i64 5)] [])) (some (.ret [.cl (.sli .u32 y85),.cl (.int .i64 0)] [])))) f=ag at ih
  show qiw (qfu _ _ _ _ f) _ _ _ _ b o.length n fresh i o=_
  rw[hag]
  unfold qiw
  refine qae (fun h=> ?_) fun h=> ?_
  ·obtain⟨c,hc⟩:=qbp (b:=b) (i:=i) (by omega)
   have hcr:=qax hb hc
   rw[qc9 hc]
   have ti:(i:Int).toNat=i:=rfl
   have main:cond (decide ((4294967295:Int)<n*128+c % 128)) (some (.ret [.cl (.sli .u32 []),.cl (.int .i64 5)] [])) (cond (!(decide (c<128))) (ag b o.length (n*128+c % 128) (decide (c<128)) ((i+1:Nat):Int) o)
     (cond (decide ((o.length:Int)=0)) (cond (u32Ok (n*128+c % 128)) (cond (Nat.ble ((o++qf2 (n*128+c % 128)).length*4) LIMN) (cond (Nat.ble ((o++qf2 (n*128+c % 128)).length) LIMN) (ag b (o++qf2 (n*128+c % 128)).length 0 (decide (c<128)) ((i+1:Nat):Int) (o++qf2 (n*128+c % 128))) none) none) none)
      (cond (Nat.ble ((o++[IntKind.u32.wrap (n*128+c % 128)]).length*4) LIMN) (cond (Nat.ble ((o++[IntKind.u32.wrap (n*128+c % 128)]).length) LIMN) (ag b (o++[IntKind.u32.wrap (n*128+c % 128)]).length 0 (decide (c<128)) ((i+1:Nat):Int) (o++[IntKind.u32.wrap (n*128+c % 128)])) none) none)))=
     some (.ret [.cl (.sli .u32 (qsv (if 4294967295<n*128+c % 128 then none else if c<128 then quh 0 true (b.drop (i+1)) (qlc o (n*128+c % 128)) else quh (n*128+c % 128) false (b.drop (i+1)) o)).1),.cl (.int .i64 (qsv (if 4294967295<n*128+c % 128 then none else if c<128 then quh 0 true (b.drop (i+1)) (qlc o (n*128+c % 128)) else quh (n*128+c % 128) false (b.drop (i+1)) o)).2)] []):=by
    refine qae (fun h2=> ?_) fun h2=> ?_
    ·rw[if_pos h2];rfl
    ·rw[if_neg h2]
     by_cases h3:c<128
     ·rw[if_pos h3,decide_eq_true h3]
      simp only[zc0,cond_false]
      unfold qlc
      refine qae (fun h4=> ?_) fun h4=> ?_
      ·have:o=[]:=zat (by omega)
       subst this
       rw[if_pos rfl]
       have hok:u32Ok (n*128+c % 128)=true:=by unfold u32Ok;rw[qab];exact decide_eq_true (by omega)
       have e1:qf2 (n*128+c % 128)=qee (n*128+c % 128):=by unfold qf2;rw[qab]
       have hlen:(qee (n*128+c % 128)).length=2:=by unfold qee;split<;>rfl
       rw[e1,zbo]
       exact qam hok (qcw (by rw[hlen];simp) (qcw (by rw[hlen];simp) (ih _ _ _ (by omega) (by omega) (by omega) (by omega))))
      ·rw[if_neg (by intro e;subst e;simp at h4),show IntKind.u32.wrap (n*128+c % 128)=n*128+c % 128 from u32_in _ (by omega)]
       refine qcw (by simp only[zag,zac,zcb];omega) (qcw (by simp only[zag,zac,zcb];omega) (ih _ _ _ (by omega) (by omega) (by simp only[zag,zac,zcb];omega) (by omega)))
     ·rw[if_neg h3,decide_eq_false h3]
      simp only[Bool.not_false,cond_true]
      exact ih _ _ _ (by omega) (by omega) (by omega) (by omega)
   have wi:IntKind.i64.wrap ((i:Int)+1)=((i+1:Nat):Int):=(i64_in _ (by omega)).trans (by omega)
   have wn:IntKind.u64.wrap (n*128)=n*128:=u64_in _ (by omega)
   have wm:Int.tmod c 128=c % 128:=zbs hcr.1
   have wc:IntKind.u64.wrap (c % 128)=c % 128:=u64_in _ (by omega)
   have ws:IntKind.u64.wrap (n*128+c % 128)=n*128+c % 128:=u64_in _ (by omega)
   conv=>rhs;unfold quh
   cases fresh with
   | true=>
    simp only[cond_true,true_and]
    refine qan (by omega) (qan h ?_)
    simp only[ti,hc,zaj]
    refine qae (fun h5=> ?_) fun h5=> ?_
    ·rw[if_pos h5];rfl
    ·rw[if_neg h5,wm,wc,wn,ws,wi]
     refine qan (by omega) (qan h (qan (by omega) (qan h main)))
   | false=>
    simp only[cond_false,zam,false_and,if_false]
    refine qan (by omega) (qan h ?_)
    simp only[ti,hc,zaj]
    rw[wm,wc,wn,ws,wi]
    exact qan (by omega) (qan h main)
  ·rw[qd6 (by omega)]
   cases fresh with
   | false=>rfl
   | true=>
    show cond (!true) _ (cond (!(qi7 o)) _ _)=_
    unfold qi7
    rw[qab]
    show _=some (Out.ret [.cl (.sli .u32 (if qcn o=true then(o,0) else([],5):List Int×Int).1),.cl (.int .i64 (if qcn o=true then(o,0) else([],5):List Int×Int).2)] [])
    cases qcn o<;>rfl
theorem xbpp (b:List Int) (hp:qad b=true):xbbk b=some (.ret [.cl (.sli .u32 (qdn b).1),.cl (.int .i64 (qdn b).2)] []):=by
 unfold xbbk qdn
 simp only[qab]
 refine(xb3r b hp FUEL 0 0 true [] (by omega) (by have:=(qal hp).1;unfold FUEL;omega) (by omega) (by omega) (by simp)).trans ?_
 rw[zbn,xbvq b.length b hp (zar _)]
 have:qsv (xbfj (qec b.length b) [])=ql8 b:=by unfold qsv ql8 qh8;rfl
 rw[this]
open IntWalk (i64_in u8_in u32_in u64_in i64_quo u8_quo rem_in)
theorem qhe {n:Int} (h:qcg n=true):0<=n/\n<=1000:=by
 unfold qcg at h;rw[qab] at h;exact of_decide_eq_true h
theorem qfo {n:Int} (h:0<=n/\n<=1000):qcg n=true:=by
 unfold qcg;rw[qab];exact decide_eq_true h
theorem xbsg (tag:Int) (b:List Int) (hp:qad b=true):xbs9 tag b=some (.ret [.cl (.bool (qcs tag b))] []):=by
 unfold xbs9 qcs qbh qfp qig qdn u8Valid
 simp only[qab]
 refine qae (fun h=> ?_) fun h=> ?_
 ·rw[if_pos h]
  match b,hp with
  | [],_=>rfl
  | [x],_=>
   refine qan (by simp) (qan (by simp) ?_)
   simp only[zap,zaj]
   refine qae (fun h=>qaz ?_) fun h=>qan (by simp) (qaz ?_)
   ·simp[h]
   ·simp[h]
  | x::y::r,_=>exact qb6 (by simp only[zac];omega) (qaz (by simp))
 ·rw[if_neg h]
  refine qae (fun h=> ?_) fun h=> ?_
  ·rw[if_pos h];exact qam hp rfl
  ·rw[if_neg h]
   refine qae (fun h=> ?_) fun h=> ?_
   ·rw[if_pos h];exact qam hp rfl
   ·rw[if_neg h]
    refine qae (fun h=> ?_) fun h=> ?_
    ·rw[if_pos h]
     refine qaz ?_
     rw[zbg]
     simp only[decide_eq_true_eq]
     cases b<;>simp
     omega
    ·rw[if_neg h]
     refine qae (fun h=> ?_) fun h=> ?_
     ·rw[if_pos h];exact qam hp rfl
     ·rw[if_neg h]
      refine qae (fun h=> ?_) fun h=> ?_
      ·rw[if_pos h];exact qam hp rfl
      ·rw[if_neg h]
       refine qae (fun h=> ?_) fun h=> ?_
       ·rw[if_pos h]
       ·rw[if_neg h]
theorem xb06 (tag:Int) (b:List Int) (hp:qad b=true):xbz8 tag b=some (.ret [.cl (.bool (qcs tag b))] []):=xbsg tag b hp
theorem qzc {l:List Int} (hb:qad l=true):0<=(qac l).1/\(qac l).1<16777216/\0<=(qac l).2/\(qac l).2<=4/\(qac l).2<=l.length:=by
 match l,hb with
 | [],_=>decide
 | c::t,hb=>
  have hc:=qax hb (i:=0) (x:=c) rfl
  have ht:=(qal (qbs hb)).2
  simp only[zbr] at ht
  rw[qda]
  split
  ·simp only[zac];omega
  ·split
   ·simp only[zac];omega
   ·split
    ·simp only[zac];omega
    ·have:=qtj ht (j:=(c - 128).toNat) (by omega)
     simp only[zac];omega
def parse1 (P:List Int->Int×Nd×Int) (t:Int) (r:List Int):Int×Nd×Int:=
 if qa5 t=false then(4,nd0,0)
 else if(qac r).2=0\/(r.length:Int) - (qac r).2<(qac r).1 then(1,nd0,0)
 else if qap t=false then(if qbh t ((r.drop (qac r).2.toNat).take (qac r).1.toNat)=true then(0,(t,((r.drop (qac r).2.toNat).take (qac r).1.toNat),[]),1+(qac r).2+(qac r).1) else(5,nd0,0))
 else if(qch P ((r.drop (qac r).2.toNat).take (qac r).1.toNat).length ((r.drop (qac r).2.toNat).take (qac r).1.toNat)).1=0 then
  (if t=49/\qa2 (qch P ((r.drop (qac r).2.toNat).take (qac r).1.toNat).length ((r.drop (qac r).2.toNat).take (qac r).1.toNat)).2.2=false then(6,nd0,0) else(0,(t,[],(qch P ((r.drop (qac r).2.toNat).take (qac r).1.toNat).length ((r.drop (qac r).2.toNat).take (qac r).1.toNat)).2.1.map ndCV),1+(qac r).2+(qac r).1))
  else((qch P ((r.drop (qac r).2.toNat).take (qac r).1.toNat).length ((r.drop (qac r).2.toNat).take (qac r).1.toNat)).1,nd0,0)
theorem qjr (n:Nat) (t:Int) (r:List Int):qaq (n+1) (t::r)=parse1 (qaq n) t r:=rfl
theorem qnr {P:List Int->Int×Nd×Int} {t:Int} {r:List Int} (h:(parse1 P t r).1=0):(parse1 P t r).2.2=1+(qac r).2+(qac r).1/\¬qa5 t=false/\¬((qac r).2=0\/(r.length:Int) - (qac r).2<(qac r).1):=by
 unfold parse1 at h ⊢
 split at h
 ·exact absurd h (by decide: ¬(4:Int)=0)
 ·rename_i h1
  rw[if_neg h1]
  split at h
  ·exact absurd h (by decide: ¬(1:Int)=0)
  ·rename_i h2
   rw[if_neg h2]
   refine⟨?_,h1,h2⟩
   split at h
   ·rename_i h3
    rw[if_pos h3]
    split at h
    ·rename_i h4;rw[if_pos h4]
    ·exact absurd h (by decide: ¬(5:Int)=0)
   ·rename_i h3
    rw[if_neg h3]
    split at h
    ·rename_i h4
     rw[if_pos h4]
     split at h
     ·exact absurd h (by decide: ¬(6:Int)=0)
     ·rename_i h5;rw[if_neg h5]
    ·rename_i h4;exact absurd h h4
theorem qhb {n:Nat} {b:List Int} (hb:qad b=true) (h:(qaq n b).1=0):0<(qaq n b).2.2/\(qaq n b).2.2<=b.length:=by
 match n,b,hb with
 | 0,_,_=>exact absurd h (by decide: ¬(3:Int)=0)
 | n+1,[],_=>exact absurd h (by decide: ¬(1:Int)=0)
 | n+1,t::r,hb=>
  rw[qjr] at h ⊢
  have:=qnr h
  have hr:=qzc (qbs hb)
  simp only[zbr] at hr
  simp only[zac]
  omega
theorem q5n {d:Int} {b:List Int} (hb:qad b=true) (h:(qaq d.toNat b).1=0):qi1 b d=b.drop (qaq d.toNat b).2.2.toNat:=by
 obtain⟨n,hn⟩: ∃n,d.toNat=n:=⟨_,rfl⟩
 rw[hn] at h ⊢
 match n,b,hb with
 | 0,_,_=>exact absurd h (by decide: ¬(3:Int)=0)
 | n+1,[],_=>exact absurd h (by decide: ¬(1:Int)=0)
 | n+1,t::r,hb=>
  rw[qjr] at h ⊢
  have hu:=qnr h
  have hr:=qzc (qbs hb)
  simp only[zbr] at hr
  unfold qi1
  rw[if_neg (by omega)]
  show(if qa5 t=false then r else _)=_
  rw[if_neg hu.2.1,if_neg (fun e=>hu.2.2 (.inl e)),if_neg (fun e=>hu.2.2 (.inr e)),hu.1,
   show(1+(qac r).2+(qac r).1).toNat=((qac r).2+(qac r).1).toNat+1 by omega,zci]
theorem qmc (f:List Int->Int×Nd×Int) (m:Nat):qch f m []=(0,[],[]):=by cases m<;>rfl
theorem qvl {f:List Int->Int×Nd×Int} {m:Nat} {b:List Int} (hne:b≠[]) (h:(f b).1=0):qch f (m+1) b=((qch f m (b.drop (f b).2.2.toNat)).1,(f b).2.1::(qch f m (b.drop (f b).2.2.toNat)).2.1,b.take (f b).2.2.toNat::(qch f m (b.drop (f b).2.2.toNat)).2.2):=by
 show(if b=[] then _ else _)=_
 rw[if_neg hne,if_pos h]
theorem qwl {f:List Int->Int×Nd×Int} {m:Nat} {b:List Int} (hne:b≠[]) (h: ¬(f b).1=0):qch f (m+1) b=((f b).1,[],[]):=by
 show(if b=[] then _ else _)=_
 rw[if_neg hne,if_neg h]
theorem qvy {b:List Int} {d:Int} (h:(qaq d.toNat b).1=0):qd7 b d=((qaq d.toNat b).2.1,(qaq d.toNat b).2.2,0):=by
 unfold qd7;rw[qab];exact if_pos h
theorem qvc {b:List Int} {d:Int} (h: ¬(qaq d.toNat b).1=0):qd7 b d=(nd0,0,(qaq d.toNat b).1):=by
 unfold qd7;rw[qab];exact if_neg h
theorem xbk3 (rk:Nat) (F0:Int->Option Out) (F1:Int->Int->Int->Int->List CV->List CV->Option Out) (v1 v2 v3 v4 v7:Int) (h1:1<=v1) (h2:v1<=1000) (h3:v1.toNat<rk+1): ∀(f m:Nat) (b:List Int) (rows kids:List CV),qad b=true->b.length<=m->b.length<f->rows.length+b.length<=1000000->kids.length+b.length<=1000000->
  qhw rk (fun _ y16=>(fun _ _ _ _ _ _ _ _ _ _ _ _ _ _ _ _ _ _ _ _ _ _ _ _ _ _ _ _ _ _ _ _ _ _ _ _=>F0 y16)) (fun _ y54 y55 y56 _ _ _ _ y61 _ y63 y64=>F1 y54 y55 y56 y61 y63 y64) f v1 v2 v3 v4 b rows.length v7 kids.length rows kids
   =if(qch (qaq (v1 - 1).toNat) m b).1=0 then F1 v2 v3 v4 v7 (rows++(qch (qaq (v1 - 1).toNat) m b).2.2.map (CV.sli .u8)) (kids++(qch (qaq (v1 - 1).toNat) m b).2.1.map ndCV) else F0 (qch (qaq (v1 - 1).toNat) m b).1
 | 0,m,b,rows,kids,hb,hm,hf,hr,hk=>by omega
 | f+1,m,b,rows,kids,hb,hm,hf,hr,hk=>by
  show qiq rk (qhw rk (fun _ y16=>(fun _ _ _ _ _ _ _ _ _ _ _ _ _ _ _ _ _ _ _ _ _ _ _ _ _ _ _ _ _ _ _ _ _ _ _ _=>F0 y16)) (fun _ y54 y55 y56 _ _ _ _ y61 _ y63 y64=>F1 y54 y55 y56 y61 y63 y64) f) (fun _ y16=>(fun _ _ _ _ _ _ _ _ _ _ _ _ _ _ _ _ _ _ _ _ _ _ _ _ _ _ _ _ _ _ _ _ _ _ _ _=>F0 y16)) (fun _ y54 y55 y56 _ _ _ _ y61 _ y63 y64=>F1 y54 y55 y56 y61 y63 y64) v1 v2 v3 v4 b rows.length v7 kids.length rows kids=_
  unfold qiq
  refine qae (fun h=> ?_) fun h=> ?_
  ·have hne:b≠[]:=by intro e;subst e;simp at h
   simp only[show IntKind.i64.wrap (v1 - 1)=v1 - 1 from i64_in _ (by omega)]
   refine qam ?_ ?_
   ·simp only[zab,decide_eq_true_eq]
    exact⟨hb,qfo (by omega),by omega⟩
   ·obtain⟨m,rfl⟩: ∃k,m=k+1:=⟨m - 1,by omega⟩
    by_cases hz:(qaq (v1 - 1).toNat b).1=0
    ·have hu:=qhb hb hz
     rw[qvl hne hz]
     simp only[qvy hz]
     refine q8j (by simp) ?_
     refine qcw (by simp only[zag,zay];omega) (qcw (by simp only[zag,zay];omega) (qan (by omega) (qan hu.2 ?_)))
     refine qcw (by simp only[zag,zay];omega) (qcw (by simp only[zag,zay];omega) (qan (by omega) (qan hu.2 ?_)))
     refine(xbk3 rk F0 F1 v1 v2 v3 v4 v7 h1 h2 h3 f m _ _ _ (qa7 hb _) (by simp only[zaq];omega) (by simp only[zaq];omega) (by simp only[zaq,zag,zay];omega) (by simp only[zaq,zag,zay];omega)).trans ?_
     simp only[zct,List.singleton_append,zbi]
     rfl
    ·rw[qwl hne hz]
     simp only[qvc hz]
     refine xbid hz ?_
     rw[if_neg hz]
  ·have e:b=[]:=zat (by omega)
   subst e
   rw[qmc]
   simp
theorem quz {f:List Int->Int×Nd×Int} (hf: ∀b,qad b=true->(f b).1=0->0<(f b).2.2/\(f b).2.2<=b.length): ∀(m:Nat) (b:List Int),qad b=true->(qch f m b).2.1.length<=b.length/\(qch f m b).2.2.length<=b.length/\∀x∈(qch f m b).2.2,rowB x=true
 | 0,b,hb=>by simp[qch]
 | m+1,b,hb=>by
  by_cases hne:b=[]
  ·subst hne;rw[qmc];simp
  ·by_cases hz:(f b).1=0
   ·have hu:=hf b hb hz
    have ih:=quz hf m (b.drop (f b).2.2.toNat) (qa7 hb _)
    rw[qvl hne hz]
    simp only[zac,zaq,zaw] at ih ⊢
    refine⟨by omega,by omega,fun x hx=>hx.elim (fun e=> ?_) (ih.2.2 x)⟩
    subst e
    have:=qgh hb (f b).2.2.toNat
    unfold qad at this
    rwa [qab] at this
   ·rw[qwl hne hz];simp
theorem qr9 {l:List (List Int)} (h1:l.length<=1000000) (h2: ∀x∈l,rowB x=true):qhm (l.map (CV.sli .u8))=true:=by
 unfold qhm
 rw[qab]
 simp only[zab,decide_eq_true_eq,zai,zav,zbu]
 refine⟨h1,fun x hx=> ?_⟩
 obtain⟨y,hy,rfl⟩:=hx
 exact h2 y hy
theorem qid (l:List (List Int)):qbn (l.map (CV.sli .u8))=qa2 l:=by
 unfold qbn
 rw[qab,zc6]
 congr 1
 exact(zcs fun x _=>rfl).trans (List.map_id l)
noncomputable def xbzt (p:Int×Nd×Int):Option Out:=if p.1=0 then some (.ret [.cl (.agg [.int .i64 p.2.1.1,.sli .u8 p.2.1.2.1,.slg 3 p.2.1.2.2]),.cl (.int .i64 p.2.2),.cl (.int .i64 0)] []) else some (.ret [.cl (.agg [.int .i64 0,.sli .u8 [],.slg 3 []]),.cl (.int .i64 0),.cl (.int .i64 p.1)] [])
theorem xbhw {t:Int} {r:List Int} {A B:Int} (hA:0<=A) (hB:0<=B):List.drop (Int.toNat (1+B)) (List.take (Int.toNat (1+B+A)) (t::r))=(r.drop B.toNat).take A.toNat:=by
 rw[show(1+B).toNat=B.toNat+1 by omega,show(1+B+A).toNat=(B.toNat+A.toNat)+1 by omega,zb6,zci,List.drop_take,show B.toNat+A.toNat - B.toNat=A.toNat by omega]
theorem xbmq (rk:Nat) (b:List Int) (deep:Int) (hb:qad b=true) (hd:0<=deep/\deep<=1000) (hk:deep.toNat<rk+1):q44 rk b deep=xbzt (qaq deep.toNat b):=by
 unfold q44
 refine qae (fun h=> ?_) fun h=> ?_
 ·subst h;rfl
 ·obtain⟨n,hn⟩: ∃n,deep.toNat=n+1:=⟨deep.toNat - 1,by omega⟩
  rw[hn]
  match b,hb with
  | [],_=>rfl
  | t::r,hb=>
   have ht:=qax hb (i:=0) (x:=t) rfl
   have hl:=(qal hb).1
   have hbt:=qbs hb
   simp only[zbr] at hbt
   simp only[zac] at hl
   have hr:=qzc hbt
   rw[qjr]
   unfold parse1
   simp only[qdt,qgr,qbj,qcs,qab,zac,zap,zaj,List.drop_one,zbr]
   refine qb6 (by omega) (qan (by omega) ?_)
   rw[show IntKind.i64.wrap t=t from i64_in _ (by omega)]
   refine qcz (fun h=> ?_) fun h=> ?_
   ·rw[if_pos (by simpa using h)];rfl
   rw[if_neg (by simpa using h)]
   refine qan (by omega) (qam hbt ?_)
   generalize hA:(qac r).1=A at*
   generalize hB:(qac r).2=B at*
   refine qae (fun h5=> ?_) fun h5=> ?_
   ·rw[if_pos (.inl h5)];rfl
   rw[show IntKind.i64.wrap (((r.length+1:Nat):Int) - 1)=r.length from(i64_in _ (by omega)).trans (by omega),show IntKind.i64.wrap ((r.length:Int) - B)=r.length - B from i64_in _ (by omega)]
   refine qae (fun h6=> ?_) fun h6=> ?_
   ·rw[if_pos (.inr h6)];rfl
   rw[if_neg (by omega)]
   simp only[show IntKind.i64.wrap ((1:Int)+B)=1+B from i64_in _ (by omega),show IntKind.i64.wrap (1+B+A)=1+B+A from i64_in _ (by omega)]
   refine qan (by omega) (qan (by omega) (qan (by omega) ?_))
   rw[xbhw (by omega) (by omega)]
   have hin:qad ((r.drop B.toNat).take A.toNat)=true:=qgh (qa7 hbt _) _
   have hil:((r.drop B.toNat).take A.toNat).length<=1000000:=(qal hin).1
   generalize hI:(r.drop B.toNat).take A.toNat=I at*
   refine qcz (fun h7=> ?_) fun h7=> ?_
   ·rw[if_pos (by simpa using h7)]
    refine qam hin (qcz (fun h8=> ?_) fun h8=> ?_)
    ·rw[if_neg (by simpa using h8)];rfl
    ·rw[if_pos (by simpa using h8)];rfl
   ·rw[if_neg (by simpa using h7)]
    refine(xbk3 rk (fun e=>some (.ret [.cl (.agg [.int .i64 0,.sli .u8 [],.slg 3 []]),.cl (.int .i64 0),.cl (.int .i64 e)] []))
     (fun y54 y55 y56 y61 y63 y64=>cond (decide (y54=49)) (cond (qhm y63) (cond (!(qbn y63)) (some (.ret [.cl (.agg [.int .i64 0,.sli .u8 [],.slg 3 []]),.cl (.int .i64 0),.cl (.int .i64 6)] [])) (some (.ret [.cl (.agg [.int .i64 y61,.sli .u8 [],.slg 3 y64]),.cl (.int .i64 (IntKind.i64.wrap (y56+y55))),.cl (.int .i64 0)] []))) none) (some (.ret [.cl (.agg [.int .i64 y61,.sli .u8 [],.slg 3 y64]),.cl (.int .i64 (IntKind.i64.wrap (y56+y55))),.cl (.int .i64 0)] [])))
     deep t A (1+B) t (by omega) hd.2 hk FUEL I.length I [] [] hin (zar _) (by unfold FUEL;omega) (by simp;omega) (by simp;omega)).trans ?_
    rw[show(deep - 1).toNat=n by omega]
    have hpl:=quz (f:=qaq n) (fun b hb h=>qhb hb h) I.length I hin
    generalize hP:qch (qaq n) I.length I=p at*
    obtain⟨p1,p2,p3⟩:=p
    simp only[zbo] at hpl ⊢
    by_cases hz:p1=0
    ·subst hz
     rw[if_pos rfl,if_pos rfl,show IntKind.i64.wrap (1+B+A)=1+B+A from i64_in _ (by omega),qid]
     refine qae (fun h8=>qam (qr9 (by omega) hpl.2.2) (qcz (fun h9=> ?_) fun h9=> ?_)) fun h8=> ?_
     ·rw[if_pos ⟨h8,by simpa using h9⟩];rfl
     ·rw[if_neg (fun e=>by simp[e.2] at h9)];rfl
     ·rw[if_neg (fun e=>h8 e.1)];rfl
    ·rw[if_neg hz,if_neg hz]
     unfold xbzt
     rw[if_neg hz]
theorem xbb5 (b:List Int) (d:Int):xbzt (qaq d.toNat b)=some (.ret [.cl (.agg [.int .i64 (qd7 b d).1.1,.sli .u8 (qd7 b d).1.2.1,.slg 3 (qd7 b d).1.2.2]),.cl (.int .i64 (qd7 b d).2.1),.cl (.int .i64 (qd7 b d).2.2)] []):=by
 unfold xbzt
 by_cases hz:(qaq d.toNat b).1=0
 ·rw[if_pos hz,qvy hz]
 ·rw[if_neg hz,qvc hz];rfl
theorem xbzh (rk:Nat) (b:List Int) (deep:Int) (hp:(qad b&&(qcg deep&&decide (deep.toNat<rk+1)))=true):q44 rk b deep=some (.ret [.cl (.agg [.int .i64 (qd7 b deep).1.1,.sli .u8 (qd7 b deep).1.2.1,.slg 3 (qd7 b deep).1.2.2]),.cl (.int .i64 (qd7 b deep).2.1),.cl (.int .i64 (qd7 b deep).2.2)] []):=by
 simp only[zab,decide_eq_true_eq] at hp
 rw[<- xbb5]
 exact xbmq rk b deep hp.1 (qhe hp.2.1) hp.2.2
open IntWalk (i64_in u8_in u32_in u64_in i64_quo u8_quo rem_in)
noncomputable def xbk6 (p:Int×Nd) (l:List Int) (d:Int):Tree:=.ite (!(decide (p.1=0))) (.leaf (.pan (.iface 85 (.agg [.int .i64 p.1])) [some ⟨.var [.cl (.sli .u8 l),.cl (.int .i64 d)],false⟩])) (.leaf (.ret [.cl (.agg [.int .i64 p.2.1,.sli .u8 p.2.2.1,.slg 3 p.2.2.2])] [some ⟨.var [.cl (.sli .u8 l),.cl (.int .i64 d)],false⟩]))
theorem xbgq (t:Int) (r:List Int) {d:Int} (h:0<d):qi1 (t::r) d=if qa5 t=false then r
   else if(qac r).2=0 then qjj r
   else if(r.length:Int) - (qac r).2<(qac r).1 then r.drop (qac r).2.toNat
   else r.drop ((qac r).2+(qac r).1).toNat:=by
 unfold qi1;rw[if_neg (by omega)]
theorem xbnl (rk:Nat) (l:List Int) (d:Int) (hb:qad l=true) (hd:0<=d/\d<=1000) (hk:d.toNat<rk+1):q42 rk l d=(xbk6 ((qaq d.toNat l).1,(qaq d.toNat l).2.1) (qi1 l d) d).eval:=by
 unfold q42
 refine qae (fun h=>qam hb ?_) fun h=> ?_
 ·obtain⟨n,hn⟩: ∃n,d.toNat=n+1:=⟨d.toNat - 1,by omega⟩
  rw[hn]
  match l,hb with
  | [],_=>
   show _=(xbk6 (1,nd0) (qi1 [] d) d).eval
   have:qi1 [] d=[]:=by unfold qi1;rw[if_neg (by omega)]
   rw[this];rfl
  | t::r,hb=>
   have ht:=qax hb (i:=0) (x:=t) rfl
   have hl:=(qal hb).1
   have hbt:=qbs hb
   simp only[zbr] at hbt
   simp only[zac] at hl
   have hr:=qzc hbt
   rw[qjr,xbgq t r h]
   unfold parse1
   simp only[qdt,qbj,qcs,qo3,qgt,qea,qab,List.isEmpty_cons,cond_false,zbw,zbr,Bool.not_not]
   refine qcz (fun h1=>qam hbt ?_) fun h1=> ?_
   ·have hkn: ¬qa5 t=false:=by simp[h1]
    rw[if_neg hkn,if_neg hkn]
    refine qae (fun h5=> ?_) fun h5=> ?_
    ·rw[if_pos (.inl h5),if_pos h5];rfl
    rw[if_neg h5]
    have hdl:((r.drop (qac r).2.toNat).length:Int)=r.length - (qac r).2:=by simp only[zaq];omega
    refine qae (fun h6=> ?_) fun h6=> ?_
    ·rw[if_neg (show ¬((qac r).2=0\/(r.length:Int) - (qac r).2<(qac r).1) by omega),if_neg (show ¬((r.length:Int) - (qac r).2<(qac r).1) by omega)]
     refine qan (by omega) (qan h6 (qan (by omega) (qan h6 ?_)))
     have hin:qad ((r.drop (qac r).2.toNat).take (qac r).1.toNat)=true:=qgh (qa7 hbt _) _
     have hil:((r.drop (qac r).2.toNat).take (qac r).1.toNat).length<=1000000:=(qal hin).1
     rw[show List.drop (qac r).1.toNat (List.drop (qac r).2.toNat r)=r.drop ((qac r).2+(qac r).1).toNat by rw[List.drop_drop,show(qac r).2.toNat+(qac r).1.toNat=((qac r).2+(qac r).1).toNat by omega]]
     generalize hI:(r.drop (qac r).2.toNat).take (qac r).1.toNat=I at*
     refine qcz (fun h7=>qam ?_ ?_) fun h7=>qam hin ?_
     ·simp only[zab,decide_eq_true_eq]
      exact⟨hin,qfo hd,by omega,by omega⟩
     ·rw[if_neg (show ¬qap t=false by simp[h7])]
      unfold qbb
      rw[qab,show(d - 1).toNat=n by omega]
      generalize qch (qaq n) I.length I=p
      obtain⟨p1,p2,p3⟩:=p
      simp only[]
      by_cases hz:p1=0
      ·subst hz
       rw[if_pos rfl,if_pos rfl]
       by_cases h8:t=49/\qa2 p3=false
       ·rw[if_pos h8,if_pos h8];rfl
       ·rw[if_neg h8,if_neg h8];rfl
      ·rw[if_neg hz,if_neg hz];rfl
     ·rw[if_pos h7]
      refine qcz (fun h8=>qam (qf9 (by omega)) ?_) fun h8=> ?_
      ·rw[if_pos h8];rfl
      ·rw[if_neg (show ¬_=true by simp[h8])];rfl
    ·rw[if_pos (show(qac r).2=0\/(r.length:Int) - (qac r).2<(qac r).1 by omega),if_pos (show(r.length:Int) - (qac r).2<(qac r).1 by omega)];rfl
   ·rw[if_pos h1,if_pos h1];rfl
 ·have e:d.toNat=0:=by omega
  have:qi1 l d=l:=by unfold qi1;rw[if_pos (by omega)]
  rw[this,e];rfl
theorem xbvf (rk:Nat) (l:List Int) (d:Int) (hp:(qad l&&(qcg d&&decide (d.toNat<rk+1)))=true):q42 rk l d=(Tree.ite (!(decide ((qk4 l d).1=0))) (.leaf (.pan (.iface 85 (.agg [.int .i64 ((qk4 l d).1)])) [some ⟨.var [.cl (.sli .u8 ((qk4 l d).2.2)),.cl (.int .i64 d)],false⟩])) (.leaf (.ret [.cl (.agg [.int .i64 ((qk4 l d).2.1.1),.sli .u8 ((qk4 l d).2.1.2.1),.slg 3 ((qk4 l d).2.1.2.2)])] [some ⟨.var [.cl (.sli .u8 ((qk4 l d).2.2)),.cl (.int .i64 d)],false⟩]))).eval:=by
 simp only[zab,decide_eq_true_eq] at hp
 rw[xbnl rk l d hp.1 (qhe hp.2.1) hp.2.2]
 unfold qk4
 rw[qab]
 rfl
theorem xbk4 (b:List Int) (d:Int):(qk4 b d).1=(qaq d.toNat b).1:=by unfold qk4;rw[qab]
theorem xblf (b:List Int) (d:Int):(qk4 b d).2.1=(qaq d.toNat b).2.1:=by unfold qk4;rw[qab]
theorem xbj1 (b:List Int) (d:Int):(qk4 b d).2.2=qi1 b d:=by unfold qk4;rw[qab]
theorem xbdh (rk:Nat) (F0:Int->Option Out) (F1:List CV->List CV->Option Out) (l:List Int) (d tag:Int) (v9:Int) (h1:0<=v9) (h2:v9<=1000) (h3:v9.toNat<rk) (k0:Int->List Int->Int->Option Out) (k1:Int->Nat->List Int->Int->List Int->Int->Int->Nat->List CV->List Int->Int->List CV->Option Out)
  (hk0: ∀e,k0 e l d=F0 e) (hk1: ∀a b c e rows f g kids,k1 tag a b c l d tag e rows f g kids=F1 rows kids): ∀(f m:Nat) (b:List Int) (rows kids:List CV),qad b=true->b.length<=m->b.length<f->rows.length+b.length<=1000000->kids.length+b.length<=1000000->
  qjn rk k0 k1 f tag rows.length l d tag kids.length rows b v9 kids
   =if(qch (qaq v9.toNat) m b).1=0 then F1 (rows++(qch (qaq v9.toNat) m b).2.2.map (CV.sli .u8)) (kids++(qch (qaq v9.toNat) m b).2.1.map ndCV) else F0 (qch (qaq v9.toNat) m b).1
 | 0,m,b,rows,kids,hb,hm,hf,hr,hk=>by omega
 | f+1,m,b,rows,kids,hb,hm,hf,hr,hk=>by
  show qkk rk (qjn rk k0 k1 f) k0 k1 tag rows.length l d tag kids.length rows b v9 kids=_
  unfold qkk
  refine qae (fun h=> ?_) fun h=> ?_
  ·have hne:b≠[]:=by intro e;subst e;simp at h
   refine qam ?_ ?_
   ·simp only[zab,decide_eq_true_eq]
    exact⟨hb,qfo (by omega),h3⟩
   ·obtain⟨m,rfl⟩: ∃k,m=k+1:=⟨m - 1,by omega⟩
    simp only[xbk4,xblf,xbj1]
    by_cases hz:(qaq v9.toNat b).1=0
    ·have hu:=qhb hb hz
     rw[qvl hne hz]
     refine xbtu hz ?_
     rw[q5n hb hz]
     rw[show IntKind.i64.wrap ((b.length:Int) - (((b.drop (qaq v9.toNat b).2.2.toNat).length:Nat):Int))=(qaq v9.toNat b).2.2 from(i64_in _ (by have:=(qal hb).1;simp only[zaq];omega)).trans (by simp only[zaq];omega)]
     refine qcw (by simp only[zag,zay];omega) (qcw (by simp only[zag,zay];omega) (qan (by omega) (qan hu.2 ?_)))
     refine qcw (by simp only[zag,zay];omega) (qcw (by simp only[zag,zay];omega) ?_)
     refine(xbdh rk F0 F1 l d tag v9 h1 h2 h3 k0 k1 hk0 hk1 f m _ _ _ (qa7 hb _) (by simp only[zaq];omega) (by simp only[zaq];omega) (by simp only[zaq,zag,zay];omega) (by simp only[zaq,zag,zay];omega)).trans ?_
     simp only[zct,List.singleton_append,zbi]
     rfl
    ·rw[qwl hne hz]
     refine xbid hz ?_
     rw[if_neg hz,hk0]
  ·have e:b=[]:=zat (by omega)
   subst e
   rw[qmc,hk1]
   simp
theorem xbs2 (rk:Nat) (tag:Int) (b:List Int) (l:List Int) (d:Int) (hp:(qad b&&(qcg d&&decide (0<d/\d.toNat<rk+1)))=true):xbdz rk tag b l d=(Tree.ite (!(decide ((qbb tag b d).1=0))) (.leaf (.pan (.iface 85 (.agg [.int .i64 ((qbb tag b d).1)])) [some ⟨.var [.cl (.sli .u8 l),.cl (.int .i64 d)],false⟩])) (.leaf (.ret [.cl (.agg [.int .i64 ((qbb tag b d).2.1),.sli .u8 ((qbb tag b d).2.2.1),.slg 3 ((qbb tag b d).2.2.2)])] [some ⟨.var [.cl (.sli .u8 l),.cl (.int .i64 d)],false⟩]))).eval:=by
 simp only[zab,decide_eq_true_eq] at hp
 obtain⟨hb,hd,h0,hk⟩:=hp
 have hd:=qhe hd
 have hlen:=(qal hb).1
 unfold xbdz
 simp only[qab]
 rw[show IntKind.i64.wrap (d - 1)=d - 1 from i64_in _ (by omega)]
 refine(xbdh rk (fun e=>some (.pan (.iface 85 (.agg [.int .i64 e])) [some ⟨.var [.cl (.sli .u8 l),.cl (.int .i64 d)],false⟩]))
  (fun rows kids=>cond (!decide (tag=49)) (some (.ret [.cl (.agg [.int .i64 tag,.sli .u8 [],.slg 3 kids])] [some ⟨.var [.cl (.sli .u8 l),.cl (.int .i64 d)],false⟩])) (cond (qhm rows) (cond (qbn rows) (some (.ret [.cl (.agg [.int .i64 tag,.sli .u8 [],.slg 3 kids])] [some ⟨.var [.cl (.sli .u8 l),.cl (.int .i64 d)],false⟩])) (cond true (some (.pan (.iface 85 (.agg [.int .i64 6])) [some ⟨.var [.cl (.sli .u8 l),.cl (.int .i64 d)],false⟩])) (some (.ret [.cl (.agg [.int .i64 tag,.sli .u8 [],.slg 3 kids])] [some ⟨.var [.cl (.sli .u8 l),.cl (.int .i64 d)],false⟩])))) none))
  l d tag (d - 1) (by omega) (by omega) (by omega) _ _ (fun _=>rfl) (fun _ _ _ _ _ _ _ _=>rfl) FUEL b.length b [] [] hb (zar _) (by unfold FUEL;omega) (by simp;omega) (by simp;omega)).trans ?_
 unfold qbb
 rw[qab]
 have hpl:=quz (f:=qaq (d - 1).toNat) (fun b hb h=>qhb hb h) b.length b hb
 generalize hP:qch (qaq (d - 1).toNat) b.length b=p at*
 obtain⟨p1,p2,p3⟩:=p
 simp only[zbo] at hpl ⊢
 by_cases hz:p1=0
 ·subst hz
  rw[if_pos rfl,qid]
  refine qay (fun h8=> ?_) fun h8=>qam (qr9 (by omega) hpl.2.2) (qcz (fun h9=> ?_) fun h9=> ?_)
  ·simp[h8,Tree.eval]
  ·simp[h8,h9,Tree.eval]
  ·simp[h8,h9,Tree.eval]
 ·rw[if_neg hz]
  simp[hz,Tree.eval]
theorem xby6 (b:List Int) (hp:qad b=true):xba6 b=some (.ret [.cl (.agg [.int .i64 ((qa9 b).1.1),.sli .u8 ((qa9 b).1.2.1),.slg 3 ((qa9 b).1.2.2)]),.cl (.int .i64 ((qa9 b).2))] []):=by
 have hl:=(qal hp).1
 unfold xba6
 simp only[xbk4,xblf,xbj1]
 refine qb6 (by omega) (qam ?_ ?_)
 ·simp only[zab];exact⟨hp,qfo (by omega)⟩
 unfold qa9 qu3
 rw[qab]
 show _=some (Out.ret [.cl (.agg [.int .i64 (if(qaq 32 b).1=0 then(if(qaq 32 b).2.2<b.length then(nd0,7) else((qaq 32 b).2.1,0)) else(nd0,(qaq 32 b).1):Nd×Int).1.1,.sli .u8 (if(qaq 32 b).1=0 then(if(qaq 32 b).2.2<b.length then(nd0,7) else((qaq 32 b).2.1,0)) else(nd0,(qaq 32 b).1):Nd×Int).1.2.1,.slg 3 (if(qaq 32 b).1=0 then(if(qaq 32 b).2.2<b.length then(nd0,7) else((qaq 32 b).2.1,0)) else(nd0,(qaq 32 b).1):Nd×Int).1.2.2]),.cl (.int .i64 (if(qaq 32 b).1=0 then(if(qaq 32 b).2.2<b.length then(nd0,7) else((qaq 32 b).2.1,0)) else(nd0,(qaq 32 b).1):Nd×Int).2)] [])
 by_cases hz:(qaq (32:Int).toNat b).1=0
 ·have hu:=qhb hp hz
  rw[q5n hp hz]
  have hz':(qaq 32 b).1=0:=hz
  rw[if_pos hz']
  refine xbtu hz (qae (fun h=> ?_) fun h=> ?_)
  ·rw[if_neg (by simp only[zaq] at h;exact fun e=>by have:(qaq (32:Int).toNat b).2.2<b.length:=e;omega)];rfl
  ·rw[if_pos (by simp only[zaq] at h;show(qaq (32:Int).toNat b).2.2<b.length;omega)];rfl
 ·have hz': ¬(qaq 32 b).1=0:=hz
  rw[if_neg hz']
  exact xbid hz rfl
theorem xbzf (b:List Int) (hp:qad b=true):xbi6 b=some (.ret [.cl (.agg [.int .i64 ((qa9 b).1.1),.sli .u8 ((qa9 b).1.2.1),.slg 3 ((qa9 b).1.2.2)]),.cl (.int .i64 ((qa9 b).2))] []):=by
 have hl:=(qal hp).1
 unfold xbi6
 refine qb6 (by omega) (qam ?_ ?_)
 ·simp only[zab];exact⟨hp,qfo (by omega)⟩
 unfold qa9 qu3
 rw[qab]
 show _=some (Out.ret [.cl (.agg [.int .i64 (if(qaq 32 b).1=0 then(if(qaq 32 b).2.2<b.length then(nd0,7) else((qaq 32 b).2.1,0)) else(nd0,(qaq 32 b).1):Nd×Int).1.1,.sli .u8 (if(qaq 32 b).1=0 then(if(qaq 32 b).2.2<b.length then(nd0,7) else((qaq 32 b).2.1,0)) else(nd0,(qaq 32 b).1):Nd×Int).1.2.1,.slg 3 (if(qaq 32 b).1=0 then(if(qaq 32 b).2.2<b.length then(nd0,7) else((qaq 32 b).2.1,0)) else(nd0,(qaq 32 b).1):Nd×Int).1.2.2]),.cl (.int .i64 (if(qaq 32 b).1=0 then(if(qaq 32 b).2.2<b.length then(nd0,7) else((qaq 32 b).2.1,0)) else(nd0,(qaq 32 b).1):Nd×Int).2)] [])
 by_cases hz:(qaq (32:Int).toNat b).1=0
 ·have hz':(qaq 32 b).1=0:=hz
  rw[if_pos hz']
  simp only[qvy hz]
  refine q8j (by simp) (qae (fun h=> ?_) fun h=> ?_)
  ·rw[if_pos (show(qaq 32 b).2.2<b.length from h)];rfl
  ·rw[if_neg (show ¬(qaq 32 b).2.2<b.length from h)];rfl
 ·have hz': ¬(qaq 32 b).1=0:=hz
  rw[if_neg hz']
  simp only[qvc hz]
  exact xbid hz rfl
theorem xb3i: ∀ {n:Nat} {x:List CV},isNf n x=true->∃m t b l,n=m+1/\x=[.int .i64 t,.sli .u8 b,.slg 3 l]/\b.length<=100000000/\l.length<=100000000/\∀c∈l, ∃y,c=.agg y/\isNf m y=true
 | 0,x,h=>by simp[isNf] at h
 | n+1,x,h=>by
  unfold isNf at h
  split at h
  ·exact absurd h zb2
  ·rename_i n' t b l hn
   obtain rfl:n=n':=by omega
   simp only[zab,decide_eq_true_eq,zai] at h
   refine⟨n,t,b,l,rfl,rfl,h.1,h.2.1,fun c hc=> ?_⟩
   have:=h.2.2 c hc
   split at this
   ·exact⟨_,rfl,this⟩
   ·exact absurd this zb2
  ·exact absurd h zb2
theorem xb40 {n:Nat} {t:Int} {b:List Int} {l:List CV} (h1:b.length<=100000000) (h2:l.length<=100000000) (h3: ∀c∈l, ∃y,c=.agg y/\isNf n y=true):isNf (n+1) [.int .i64 t,.sli .u8 b,.slg 3 l]=true:=by
 show(decide (b.length<=100000000)&&(decide (l.length<=100000000)&&l.all fun c=>match c with|.agg x=>isNf n x|_=>false))=true
 simp only[zab,decide_eq_true_eq,zai]
 refine⟨h1,h2,fun c hc=> ?_⟩
 obtain⟨y,rfl,hy⟩:=h3 c hc
 exact hy
theorem xbmn {x:List CV} (h:isN x=true): ∃n,isNf n x=true:=by
 unfold isN at h;rw[qab] at h;exact @of_decide_eq_true _ (Classical.propDecidable _) h
theorem xbzd {n:Nat} {x:List CV} (h:isNf n x=true):isN x=true:=by
 unfold isN;rw[qab];exact @decide_eq_true _ (Classical.propDecidable _) ⟨n,h⟩
open IntWalk (i64_in u8_in u32_in u64_in i64_quo u8_quo rem_in)
def ndL (x:Nd):List CV:=[.int .i64 x.1,.sli .u8 x.2.1,.slg 3 x.2.2]
open IntWalk (i64_in u8_in u32_in u64_in i64_quo u8_quo rem_in)
theorem qcx: ∀ {n:Nat} {x:List CV},isTf n x=true->∃m t b l,n=m+1/\x=[.int .i64 t,.sli .u8 b,.slg 3 l]/\(∀z∈b,0<=z/\z<=255)/\∀c∈l, ∃y,c=.agg y/\isTf m y=true
 | 0,x,h=>by simp[isTf] at h
 | n+1,x,h=>by
  unfold isTf at h
  split at h
  ·exact absurd h zb2
  ·rename_i n' t b l hn
   obtain rfl:n=n':=by omega
   simp only[zab,zai] at h
   refine⟨n,t,b,l,rfl,rfl,fun z hz=>qj2 (h.1 z hz),fun c hc=> ?_⟩
   have:=h.2 c hc
   split at this
   ·exact⟨_,rfl,this⟩
   ·exact absurd this zb2
  ·exact absurd h zb2
theorem xbkc: ∀ {n m:Nat} {x:List CV},isTf n x=true->isTf m x=true->qdp n x=qdp m x
 | n,m,x,hn,hm=>by
  obtain⟨n',t,b,l,rfl,rfl,_,hl⟩:=qcx hn
  obtain⟨m',t',b',l',rfl,he,_,hl'⟩:=qcx hm
  simp only[zch,CV.int.injEq,CV.sli.injEq,CV.slg.injEq,true_and,and_true] at he
  obtain⟨rfl,rfl,rfl⟩:=he
  show 1+b.length+(l.map fun c=>qdp n' (cell1 c)).sum=1+b.length+(l.map fun c=>qdp m' (cell1 c)).sum
  congr 2
  refine zcs fun c hc=> ?_
  obtain⟨y,rfl,hy⟩:=hl c hc
  obtain⟨y',e,hy'⟩:=hl' _ hc
  cases e
  exact xbkc hy hy'
theorem q3x {f g:CV->Bool}: ∀ {l:List CV},(∀c∈l,f c=g c)->l.all f=l.all g
 | [],_=>rfl
 | c::r,h=>by rw[zcl,zcl,h c (zcg ..),q3x fun c' hc=>h c' (zba _ hc)]
theorem xbv3: ∀ {n m:Nat} {x:List CV},isTf n x=true->isTf m x=true->∀d,okF n d x=okF m d x
 | n,m,x,hn,hm,d=>by
  obtain⟨n',t,b,l,rfl,rfl,_,hl⟩:=qcx hn
  obtain⟨m',t',b',l',rfl,he,_,hl'⟩:=qcx hm
  simp only[zch,CV.int.injEq,CV.sli.injEq,CV.slg.injEq,true_and,and_true] at he
  obtain⟨rfl,rfl,rfl⟩:=he
  cases d with
  | zero=>rfl
  | succ d=>
   show(qa5 t&&(if qap t=true then decide (b=[])&&l.all fun c=>okF n' d (cell1 c) else decide (l=[])&&qbh t b))=(qa5 t&&(if qap t=true then decide (b=[])&&l.all fun c=>okF m' d (cell1 c) else decide (l=[])&&qbh t b))
   have:(l.all fun c=>okF n' d (cell1 c))=l.all fun c=>okF m' d (cell1 c):=q3x fun c hc=>by
    obtain⟨y,rfl,hy⟩:=hl c hc
    obtain⟨y',e,hy'⟩:=hl' _ hc
    cases e
    exact xbv3 hy hy' d
   rw[this]
theorem qn0: ∀ {n m:Nat} {x:List CV},isTf n x=true->isTf m x=true->qai n x=qai m x
 | n,m,x,hn,hm=>by
  obtain⟨n',t,b,l,rfl,rfl,_,hl⟩:=qcx hn
  obtain⟨m',t',b',l',rfl,he,_,hl'⟩:=qcx hm
  simp only[zch,CV.int.injEq,CV.sli.injEq,CV.slg.injEq,true_and,and_true] at he
  obtain⟨rfl,rfl,rfl⟩:=he
  have:(l.map fun c=>qai n' (cell1 c))=l.map fun c=>qai m' (cell1 c):=zcs fun c hc=>by
   obtain⟨y,rfl,hy⟩:=hl c hc
   obtain⟨y',e,hy'⟩:=hl' _ hc
   cases e
   exact qn0 hy hy'
  simp only[qai,this]
theorem qmw {a:List CV} {n:Nat} (h:isTf n a=true):isTf (rkOf a) a=true:=by
 unfold rkOf
 have hx: ∃n,isTf n a=true:=⟨n,h⟩
 rw[@dif_pos _ (Classical.propDecidable _) hx]
 exact Classical.choose_spec hx
theorem qj6 {n:Nat} {x:List CV} (h:isSr n x=true):isTf n x=true/\qdp n x<=30000:=by
 unfold isSr at h;rw[qab] at h;simpa [zab] using h
theorem q5a {n:Nat} {x:List CV} (h:isTf n x=true) (h':qdp n x<=30000):isSr n x=true:=by
 unfold isSr;rw[qab];simp[h,h']
theorem qdl {x:List CV} (h:isS x=true): ∃n,isTf n x=true/\qdp n x<=30000:=by
 unfold isS at h;rw[qab] at h;exact @of_decide_eq_true _ (Classical.propDecidable _) h
theorem q9h {x:List CV} {n:Nat} (h:isTf n x=true) (h':qdp n x<=30000):isS x=true:=by
 unfold isS;rw[qab];exact @decide_eq_true _ (Classical.propDecidable _) ⟨n,h,h'⟩
theorem qvi {n:Nat} {x:List CV} (h:isWr n x=true):isTf n x=true/\qdp n x<=30000/\∃d,okF n d x=true:=by
 unfold isWr at h;rw[qab] at h;exact @of_decide_eq_true _ (Classical.propDecidable _) h
theorem xbk0 {n:Nat} {x:List CV} (h:isTf n x=true/\qdp n x<=30000/\∃d,okF n d x=true):isWr n x=true:=by
 unfold isWr;rw[qab];exact @decide_eq_true _ (Classical.propDecidable _) h
theorem xbz6 {x:List CV} {n:Nat} (h:isTf n x=true/\qdp n x<=30000/\∃d,okF n d x=true):isW x=true:=by
 unfold isW;rw[qab];exact @decide_eq_true _ (Classical.propDecidable _) ⟨n,h⟩
theorem quy {n:Nat} {a:List CV} (h:isTf n a=true) (d:Int):q1s a d=if okF n d.toNat a=true then((qai n a).1.length:Int) else -1:=by
 unfold q1s;rw[qab,xbv3 (qmw h) h,qn0 (qmw h) h]
theorem qsm {n:Nat} {a:List CV} (h:isTf n a=true):qjx a=if(qai n a).2=true then((qai n a).1,true) else([],false):=by
 unfold qjx;rw[qab,qn0 (qmw h) h]
theorem qnp {n:Nat} {a:List CV} (h:isTf n a=true) (d:Int):qgg a d=if okF n d.toNat a=true/\(qai n a).2=true then((qai n a).1,true) else([],false):=by
 unfold qgg;rw[qab,xbv3 (qmw h) h,qn0 (qmw h) h]
theorem qf1 {n:Nat} {a:List CV} (h:isTf n a=true):qbq a=if okF n 32 a=true/\(qai n a).2=true then((qai n a).1,0) else([],1):=by
 unfold qbq;rw[qab,xbv3 (qmw h) h,qn0 (qmw h) h]
theorem q0h {n:Nat} {a:List CV} (h:isTf n a=true):qz2 a=decide (okF n 32 a=true/\(qai n a).2=true):=by
 unfold qz2;rw[qab,xbv3 (qmw h) h,qn0 (qmw h) h]
theorem qta {tag n:Int} (h:qk1 tag n=true):(0<=tag/\tag<=255)/\0<=n/\n<16777216:=by
 unfold qk1 at h;rw[qab] at h;exact of_decide_eq_true h
theorem qve {l l':List Int} {k:Nat} (h:l=l') (hk:k=l'.length):some (Out.ret [.ref 0 0 k true 1] [some ⟨.ints .u8 l,false⟩])=some (Out.ret [.ref 0 0 l'.length true 1] [some ⟨.ints .u8 l',false⟩]):=by rw[h,hk]
theorem xb1l (tag n:Int) (hp:qk1 tag n=true):xbzb tag n=some (.ret [.ref 0 0 (qdh tag n).length true 1] [some ⟨.ints .u8 (qdh tag n),false⟩]):=by
 obtain⟨ht,hn⟩:=qta hp
 unfold xbzb qdh
 rw[qab]
 unfold qcd
 have et:IntKind.u8.wrap tag=tag:=u8_in _ (by omega)
 refine qae (fun h=> ?_) fun h=>qae (fun h2=> ?_) fun h2=>qae (fun h3=> ?_) fun h3=> ?_
 ·rw[if_pos h]
  exact qve (by rw[et,show IntKind.u8.wrap n=n from u8_in _ (by omega)]) rfl
 ·rw[if_neg h,if_pos h2]
  exact qve (by rw[et,show IntKind.u8.wrap n=n from u8_in _ (by omega)]) rfl
 ·rw[if_neg h,if_neg h2,if_pos h3]
  refine qve ?_ rfl
  rw[et,zb5 (by omega),zbs (by omega),show IntKind.i64.wrap (n/ 256)=n/ 256 from i64_in _ (by omega),show IntKind.u8.wrap (n/ 256)=n/ 256 from u8_in _ (by omega),show IntKind.u8.wrap (n % 256)=n % 256 from u8_in _ (by omega)]
 ·rw[if_neg h,if_neg h2,if_neg h3]
  refine qve ?_ rfl
  rw[et,zb5 (by omega),zb5 (by omega),show IntKind.i64.wrap (n/ 256)=n/ 256 from i64_in _ (by omega),show IntKind.i64.wrap (n/ 65536)=n/ 65536 from i64_in _ (by omega),zbs (by omega),zbs (by omega),
   show IntKind.u8.wrap (n/ 65536)=n/ 65536 from u8_in _ (by omega),show IntKind.u8.wrap (n/ 256 % 256)=n/ 256 % 256 from u8_in _ (by omega),show IntKind.u8.wrap (n % 256)=n % 256 from u8_in _ (by omega)]
open IntWalk (i64_in u8_in u32_in u64_in i64_quo u8_quo rem_in)
theorem xbly (n:Int):IntKind.u8.wrap n=n % 256:=by simp[IntKind.wrap,IntKind.signed,IntKind.bits]
def putB (n:Int):Nat->List Int
 | 0=>[]
 | c+1=>n/ 2 ^ (8*c) % 256::putB n c
theorem xbxw (n:Int) (h0:0<=n) (h1:n<16777216): ∀(c f:Nat) (l:List Int),c<=3->c<f->l.length+c<=10->
  qlu (fun y8 _ _ _ y12=>some (.ret [.ref 0 0 y8 true 1] [some ⟨.ints .u8 y12,false⟩])) f l.length n ((c:Int) - 1) l=some (.ret [.ref 0 0 (l++putB n c).length true 1] [some ⟨.ints .u8 (l++putB n c),false⟩])
 | c,0,l,_,hf,_=>by omega
 | 0,f+1,l,_,_,hl=>by
  show qkt (qlu (fun y8 _ _ _ y12=>some (.ret [.ref 0 0 y8 true 1] [some ⟨.ints .u8 y12,false⟩])) f) (fun y8 _ _ _ y12=>some (.ret [.ref 0 0 y8 true 1] [some ⟨.ints .u8 y12,false⟩])) l.length n (((0:Nat):Int) - 1) l=_
  unfold qkt
  refine qb6 (by omega) ?_
  simp only[putB,zcd]
 | c+1,f+1,l,hc,hf,hl=>by
  show qkt (qlu (fun y8 _ _ _ y12=>some (.ret [.ref 0 0 y8 true 1] [some ⟨.ints .u8 y12,false⟩])) f) (fun y8 _ _ _ y12=>some (.ret [.ref 0 0 y8 true 1] [some ⟨.ints .u8 y12,false⟩])) l.length n (((c+1:Nat):Int) - 1) l=_
  unfold qkt
  have e1:((c+1:Nat):Int) - 1=c:=by omega
  rw[e1]
  refine qan (by omega) ?_
  simp only[show IntKind.i64.wrap ((8:Int)*(c:Int))=((8*c:Nat):Int) from(i64_in _ (by omega)).trans (by omega)]
  refine qb6 (by omega) ?_
  have e2:min ((8*c:Nat):Int).toNat 64=8*c:=by show min (8*c) 64=8*c;omega
  simp only[e2]
  have e3:IntKind.u8.wrap (Int.fdiv n (2 ^ (8*c)))=n/ 2 ^ (8*c) % 256:=by
   have hc2:c=0\/c=1\/c=2:=by omega
   rw[xbly]
   rcases hc2 with rfl|rfl|rfl<;>rw[zbe n (by decide)]
  rw[e3,show IntKind.i64.wrap ((c:Int) - 1)=(c:Int) - 1 from i64_in _ (by omega)]
  refine qcw (by simp only[zag,zay];omega) (qcw (by simp only[zag,zay];omega) ?_)
  refine(xbxw n h0 h1 c f _ (by omega) (by omega) (by simp only[zag,zay];omega)).trans ?_
  simp only[putB,zct,List.singleton_append]
theorem xb5t (tag n:Int) (hp:qk1 tag n=true):xb4k tag n=some (.ret [.ref 0 0 (qdh tag n).length true 1] [some ⟨.ints .u8 (qdh tag n),false⟩]):=by
 obtain⟨ht,hn⟩:=qta hp
 unfold xb4k qdh qb3
 simp only[qab]
 unfold qcd qau
 have et:IntKind.u8.wrap tag=tag:=u8_in _ (by omega)
 rw[et]
 by_cases h:n<128
 ·rw[if_pos h,if_pos h,show IntKind.i64.wrap ((1:Int) - 1)=0 from i64_in _ (by omega),show IntKind.u8.wrap n=n from u8_in _ (by omega)]
  exact qan rfl rfl
 ·rw[if_neg h,if_neg h]
  have fin: ∀c:Nat,1<=c->c<=3->∀l',[tag,128+(c:Int)]++putB n c=l'->(cond (decide (IntKind.i64.wrap ((c:Int)+1 - 1)=0)) (some (Out.ret [.ref 0 0 2 true 1] [some ⟨.ints .u8 [tag,IntKind.u8.wrap n],false⟩])) (qlu (fun y8 _ _ _ y12=>some (.ret [.ref 0 0 y8 true 1] [some ⟨.ints .u8 y12,false⟩])) FUEL 2 n (IntKind.i64.wrap (IntKind.i64.wrap ((c:Int)+1 - 1) - 1)) [tag,IntKind.u8.wrap (IntKind.i64.wrap ((128:Int)+IntKind.i64.wrap ((c:Int)+1 - 1)))]))=some (Out.ret [.ref 0 0 l'.length true 1] [some ⟨.ints .u8 l',false⟩]):=fun c h1 h3 l' hl'=>by
   rw[show IntKind.i64.wrap ((c:Int)+1 - 1)=c from(i64_in _ (by omega)).trans (by omega),show IntKind.i64.wrap ((128:Int)+c)=128+c from i64_in _ (by omega),show IntKind.u8.wrap ((128:Int)+c)=128+c from u8_in _ (by omega),show IntKind.i64.wrap ((c:Int) - 1)=(c:Int) - 1 from i64_in _ (by omega)]
   refine qb6 (by omega) ((xbxw n hn.1 hn.2 c FUEL [tag,128+(c:Int)] h3 (by unfold FUEL;omega) (by simp only[zac,zcb];omega)).trans ?_)
   rw[hl']
  by_cases h2:n<256
  ·rw[if_pos h2,if_pos h2]
   refine fin 1 (by omega) (by omega) _ ?_
   show[tag,(129:Int),n/ 1 % 256]=_
   rw[show n/ 1 % 256=n by omega]
  ·rw[if_neg h2,if_neg h2]
   by_cases h3:n<65536
   ·rw[if_pos h3,if_pos h3]
    refine fin 2 (by omega) (by omega) _ ?_
    show[tag,(130:Int),n/ 256 % 256,n/ 1 % 256]=_
    rw[show n/ 256 % 256=n/ 256 by omega,show n/ 1 % 256=n % 256 by omega]
   ·rw[if_neg h3,if_neg h3]
    refine fin 3 (by omega) (by omega) _ ?_
    show[tag,(131:Int),n/ 65536 % 256,n/ 256 % 256,n/ 1 % 256]=_
    rw[show n/ 65536 % 256=n/ 65536 by omega,show n/ 1 % 256=n % 256 by omega]
theorem xbgl {c:CV} (h:xbvm c=true): ∃x,c=.sli .u8 x/\rowB x=true:=by
 unfold xbvm at h
 split at h
 ·exact⟨_,rfl,h⟩
 ·exact absurd h zb2
theorem qtl {l:List CV} (h:qnk l=true):l.length<=1000000/\(∀c∈l, ∃x,c=.sli .u8 x)/\(l.flatMap qb7).length<=1000000:=by
 unfold qnk at h
 rw[qab] at h
 simp only[zab,decide_eq_true_eq,zai] at h
 exact⟨h.1,fun c hc=>let ⟨x,e,_⟩:=xbgl (h.2.1 c hc);⟨x,e⟩,h.2.2⟩
theorem qin {l:List CV} {i:Nat} {x:List Int} (h:l[i]? =some (.sli .u8 x)):(l.drop i).flatMap qb7=x++(l.drop (i+1)).flatMap qb7:=by
 obtain⟨hlt,e⟩:=zad.1 h
 rw[zbx hlt,e,za2]
 rfl
theorem xblt (l:List CV) (hl:l.length<=1000000) (hall: ∀c∈l, ∃x,c=.sli .u8 x): ∀(f i:Nat) (acc:List Int),i<=l.length->l.length<f+i->acc.length+((l.drop i).flatMap qb7).length<=1000000->
  qjd (fun _ _ _ _ _ _ y7=>some (.ret [.cl (.sli .u8 y7)] [])) f l acc.length i acc=some (.ret [.cl (.sli .u8 (acc++(l.drop i).flatMap qb7))] [])
 | 0,i,acc,hi,hf,_=>by omega
 | f+1,i,acc,hi,hf,hs=>by
  show qj8 (qjd (fun _ _ _ _ _ _ y7=>some (.ret [.cl (.sli .u8 y7)] [])) f) (fun _ _ _ _ _ _ y7=>some (.ret [.cl (.sli .u8 y7)] [])) l acc.length i acc=_
  unfold qj8
  refine qae (fun h=> ?_) fun h=> ?_
  ·obtain⟨c,hc⟩:=qbp (b:=l) (i:=i) (by omega)
   obtain⟨x,rfl⟩:=hall c (zae hc)
   refine qan (by omega) (qan h ?_)
   rw[show(i:Int).toNat=i from rfl,hc,zaj]
   refine qam rfl ?_
   have hfl:=qin hc
   rw[hfl,zag] at hs
   have e:qb7 ((cell1 (.sli .u8 x)).getD 0 .nili)=x:=rfl
   simp only[e]
   refine qcw (by simp only[zag];omega) (qcw (by simp only[zag];omega) ?_)
   rw[show IntKind.i64.wrap ((i:Int)+1)=((i+1:Nat):Int) from(i64_in _ (by omega)).trans (by omega)]
   refine(xblt l hl hall f (i+1) (acc++x) (by omega) (by omega) (by simp only[zag];omega)).trans ?_
   rw[hfl,zct]
  ·rw[zbl (by omega),List.flatMap_nil,zcd]
theorem xbw0 (l:List CV) (hp:qnk l=true):xbls l=some (.ret [.cl (.sli .u8 (qdk l))] []):=by
 obtain⟨h1,h2,h3⟩:=qtl hp
 unfold xbls qdk
 simp only[qab]
 exact xblt l h1 h2 FUEL 0 [] (by omega) (by unfold FUEL;omega) (by simpa using h3)
theorem xbwk (l:List CV) (hl:l.length<=1000000) (hall: ∀c∈l, ∃x,c=.sli .u8 x): ∀(f i:Nat) (acc:List Int),i<=l.length->l.length<f+i->acc.length+((l.drop i).flatMap qb7).length<=1000000->
  qge (fun _ _ _ _ y27=>some (.ret [.cl (.sli .u8 y27)] [])) f acc.length l (l.length:Int) i acc=some (.ret [.cl (.sli .u8 (acc++(l.drop i).flatMap qb7))] [])
 | 0,i,acc,hi,hf,_=>by omega
 | f+1,i,acc,hi,hf,hs=>by
  show qgn (qge (fun _ _ _ _ y27=>some (.ret [.cl (.sli .u8 y27)] [])) f) (fun _ _ _ _ y27=>some (.ret [.cl (.sli .u8 y27)] [])) acc.length l (l.length:Int) i acc=_
  unfold qgn
  refine qae (fun h=> ?_) fun h=> ?_
  ·obtain⟨c,hc⟩:=qbp (b:=l) (i:=i) (by omega)
   obtain⟨x,rfl⟩:=hall c (zae hc)
   refine qan (by omega) (qan h ?_)
   rw[show(i:Int).toNat=i from rfl,hc,zaj]
   refine qam rfl ?_
   have hfl:=qin hc
   rw[hfl,zag] at hs
   have e:qb7 ((cell1 (.sli .u8 x)).getD 0 .nili)=x:=rfl
   simp only[e]
   refine qcw (by simp only[zag];omega) (qcw (by simp only[zag];omega) ?_)
   rw[show IntKind.i64.wrap ((i:Int)+1)=((i+1:Nat):Int) from(i64_in _ (by omega)).trans (by omega)]
   refine(xbwk l hl hall f (i+1) (acc++x) (by omega) (by omega) (by simp only[zag];omega)).trans ?_
   rw[hfl,zct]
  ·rw[zbl (by omega),List.flatMap_nil,zcd]
theorem xbkf (l:List CV) (hl:l.length<=1000000) (hall: ∀c∈l, ∃x,c=.sli .u8 x) (k0:ByteArray->List CV->Int->List Int->List CV->Int->Int->List CV->Nat->List Int->Int->List Int->Int->Int->Int->ByteArray->Option Out) (k1:List CV->Int->List CV->Int->Int->Option Out): ∀(f i:Nat) (n:Int),i<=l.length->l.length<f+i->0<=n->n+((l.drop i).flatMap qb7).length<=1000000->
  qhr k0 k1 f l n l (l.length:Int) i=k1 l (n+((l.drop i).flatMap qb7).length) l (l.length:Int) l.length
 | 0,i,n,hi,hf,_,_=>by omega
 | f+1,i,n,hi,hf,h0,hs=>by
  show qh9 (qhr k0 k1 f) k0 k1 l n l (l.length:Int) i=_
  unfold qh9
  refine qae (fun h=> ?_) fun h=> ?_
  ·obtain⟨c,hc⟩:=qbp (b:=l) (i:=i) (by omega)
   obtain⟨x,rfl⟩:=hall c (zae hc)
   refine qan (by omega) (qan h ?_)
   rw[show(i:Int).toNat=i from rfl,hc,zaj]
   refine qam rfl ?_
   have hfl:=qin hc
   rw[hfl,zag] at hs
   have e:qb7 ((cell1 (.sli .u8 x)).getD 0 .nili)=x:=rfl
   simp only[e]
   rw[show IntKind.i64.wrap (n+(x.length:Int))=n+x.length from i64_in _ (by omega)]
   refine qb6 (by omega) ?_
   rw[show IntKind.i64.wrap ((i:Int)+1)=((i+1:Nat):Int) from(i64_in _ (by omega)).trans (by omega)]
   refine(xbkf l hl hall k0 k1 f (i+1) _ (by omega) (by omega) (by omega) (by omega)).trans ?_
   rw[hfl,zag,show n+(x.length:Int)+(((l.drop (i+1)).flatMap qb7).length:Nat)=n+((x.length+((l.drop (i+1)).flatMap qb7).length:Nat):Int) by omega]
  ·obtain rfl:i=l.length:=by omega
   rw[zbl (zar _)]
   simp
theorem xboa (l:List CV) (hp:qnk l=true):q9k l=some (.ret [.cl (.sli .u8 (qdk l))] []):=by
 obtain⟨h1,h2,h3⟩:=qtl hp
 unfold q9k qdk qa0
 simp only[qab]
 refine(xbkf l h1 h2 _ _ FUEL 0 0 (by omega) (by unfold FUEL;omega) (by omega) (by rw[zbn];omega)).trans ?_
 refine qam ?_ (xbwk l h1 h2 FUEL 0 [] (by omega) (by unfold FUEL;omega) (by simpa using h3))
 unfold qyj
 rw[qab,zbn]
 exact decide_eq_true (by omega)
end Go.Proofs.YtoaakappnhemiaaGreatDoorA
