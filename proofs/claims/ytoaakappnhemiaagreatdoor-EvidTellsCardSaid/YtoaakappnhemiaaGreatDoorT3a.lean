/-
 What the layers below come to (their lemmas, as far as this seat needs them). Conditions: each function's own.
-/
import Derived.Test.YtoaakappnhemiaaGreatDoorT2a
import Derived.Test.YtoaakappnhemiaaGreatDoorT2b
import Derived.Test.YtoaakappnhemiaaGreatDoorT2c
import Derived.Test.YtoaakappnhemiaaGreatDoorK3
import Derived.IntWalk
set_option linter.unusedVariables false
set_option linter.unusedSimpArgs false
set_option maxRecDepth 100000
namespace Go.Proofs.YtoaakappnhemiaaGreatDoorA
theorem q36 (y:Int):qen (y+1)=qen y+365+(if qmg y=true then 1 else 0):=by
 unfold qen qmg
 simp only[decide_eq_true_eq]
 split<;>omega
theorem qtm {y m:Int} (h1:1<=m) (h2:m<=12):qd6 y (m+1)=qd6 y m+qjd y m:=by
 have hm:m=1\/m=2\/m=3\/m=4\/m=5\/m=6\/m=7\/m=8\/m=9\/m=10\/m=11\/m=12:=by omega
 unfold qd6 qjd
 cases qmg y<;>rcases hm with h|h|h|h|h|h|h|h|h|h|h|h<;>subst h<;>rfl
theorem q9g (y:Int):qd6 y 1=0:=by unfold qd6;rfl
theorem qs4 (y m:Int):28<=qjd y m/\qjd y m<=31:=by
 unfold qjd
 split
 ·split<;>omega
 ·split<;>omega
open IntWalk (i64_in u8_in u32_in u64_in i64_quo u8_quo rem_in)
theorem xb1m (s:ByteArray) (hp:decide (2<=s.size)=true):xbn7 s=zI (qfs s):=by
 simp only[decide_eq_true_eq] at hp
 unfold xbn7 qfs qpg
 have r0:=qkg s 0
 have r1:=qkg s 1
 refine qan (by omega) ?_
 extract_lets x1 x2 x3 x4 x5 x6 x7 x8
 have e2:x2=bget s 0:=i64_in _ (by omega)
 have e3:x3=bget s 0 - 48:=by show IntKind.i64.wrap (x2 - 48)=_;rw[e2];exact i64_in _ (by omega)
 refine qan (by omega) ?_
 have e5:x5=bget s 1:=i64_in _ (by omega)
 have e6:x6=bget s 1 - 48:=by show IntKind.i64.wrap (x5 - 48)=_;rw[e5];exact i64_in _ (by omega)
 refine qae (fun h=> ?_) fun h1=>qae (fun h=> ?_) fun h2=>qae (fun h=> ?_) fun h3=>qae (fun h=> ?_) fun h4=> ?_
 ·rw[if_pos (by omega)]
 ·rw[if_pos (by omega)]
 ·rw[if_pos (by omega)]
 ·rw[if_pos (by omega)]
 ·rw[if_neg (by omega)]
  have e7:x7=10*x3:=i64_in _ (by omega)
  have e8:x8=10*x3+x6:=by show IntKind.i64.wrap (x7+x6)=_;rw[e7];exact i64_in _ (by omega)
  exact ql6 (by rw[e8,e3,e6])
theorem xb4w (d0 d1 d2 d3 d4 d5:Int) (hp:stOk d0=true):xbwj d0 d1 d2 d3 d4 d5=zB (qmg d0):=by
 simp only[stOk,decide_eq_true_eq] at hp
 unfold xbwj qmg
 rw[rem_in d0 4 (by omega),rem_in d0 100 (by omega),rem_in d0 400 (by omega)]
 refine qae (fun h=>qas (fun h2=> ?_) fun h2=> ?_) fun h=> ?_
 ·exact qat (by symm;rw[decide_eq_true_eq];exact⟨h,.inl h2⟩)
 ·refine qat (by rw[zbg];simp only[decide_eq_true_eq];omega)
 ·exact qat (by symm;rw[decide_eq_false_iff_not];exact fun h'=>h h'.1)
theorem xb36 (y:Int) (hp:stOk y=true):xb2f y=zB (qmg y):=by
 simp only[stOk,decide_eq_true_eq] at hp
 unfold xb2f qmg
 rw[rem_in y 4 (by omega),rem_in y 100 (by omega),rem_in y 400 (by omega)]
 refine qae (fun h=>qas (fun h2=> ?_) fun h2=> ?_) fun h=> ?_
 ·exact qat (by symm;rw[decide_eq_true_eq];exact⟨h,.inl h2⟩)
 ·refine qat (by rw[zbg];simp only[decide_eq_true_eq];omega)
 ·refine qat (by rw[zbg];simp only[decide_eq_true_eq];omega)
theorem xb56 (d0 d1 d2 d3 d4 d5:Int) (hp:stOk d0=true):xb05 d0 d1 d2 d3 d4 d5=zI (qjd d0 d1):=by
 unfold xb05 qjd
 refine qae (fun h=>qaj hp (qch (fun h2=> ?_) fun h2=> ?_)) fun h=>qae (fun h2=> ?_) fun h2=>qae (fun h3=> ?_) fun h3=>qae (fun h4=> ?_) fun h4=>qae (fun h5=> ?_) fun h5=> ?_
 ·rw[if_pos h,if_pos h2]
 ·rw[if_pos h,if_neg (by rw[h2];simp)]
 all_goals first|rw[if_neg h,if_pos (by omega)]|rw[if_neg h,if_neg (by omega)]
theorem xb8v (d0 d1 d2 d3 d4 d5:Int) (hp:true=true):xb7o d0 d1 d2 d3 d4 d5=zB (qp3 d0 d1 d2 d3 d4 d5):=by
 unfold xb7o qp3
 have no: ∀ {p:Prop} [Decidable p], ¬p->zB false=zB (decide p):=fun h=>qat (by symm;rw[decide_eq_false_iff_not];exact h)
 refine qae (fun h=>no (by omega)) fun h1=>qae (fun h=>no (by omega)) fun h2=>qae (fun h=>no (by omega)) fun h3=>qae (fun h=>no (by omega)) fun h4=>qae (fun h=>no (by omega)) fun h5=>qaj (by simp only[stOk,decide_eq_true_eq];omega) (qae (fun h=>no (by omega)) fun h6=>
  qae (fun g1=>qae (fun g2=>qae (fun g3=>qae (fun g4=>qae (fun g5=> ?_) fun h=>no (by omega)) fun h=>no (by omega)) fun h=>no (by omega)) fun h=>no (by omega)) fun h=>no (by omega))
 refine qat ?_
 rw[zbg]
 simp only[decide_eq_true_eq]
 omega
theorem qn3 {y m d h i s:Int} (hp:qp3 y m d h i s=true):(1<=y/\y<=9999/\1<=m/\m<=12)/\(1<=d/\d<=qjd y m)/\0<=h/\h<24/\0<=i/\i<60/\0<=s/\s<60:=by
 unfold qp3 at hp
 simpa only [decide_eq_true_eq] using hp
theorem xb5y (y m:Int) (hp:true=true):xb0w y m=zI (qjk y m):=by
 unfold xb0w qjk
 refine qae (fun h=> ?_) fun h1=>qae (fun h=> ?_) fun h2=>qae (fun h=> ?_) fun h3=>qae (fun h=> ?_) fun h4=> ?_
 ·rw[if_neg (by omega)]
 ·rw[if_neg (by omega)]
 ·rw[if_neg (by omega)]
 ·rw[if_neg (by omega)]
 rw[if_pos (by omega)]
 unfold qjd
 refine qae (fun h=>qaj (by simp only[stOk,decide_eq_true_eq];omega) (qch (fun h2=> ?_) fun h2=> ?_)) fun h=>qae (fun h2=> ?_) fun h2=>qae (fun h3=> ?_) fun h3=>qae (fun h4=> ?_) fun h4=>qae (fun h5=> ?_) fun h5=> ?_
 ·rw[if_pos h,if_pos h2]
 ·rw[if_pos h,if_neg (by rw[h2];simp)]
 all_goals first|rw[if_neg h,if_pos (by omega)]|rw[if_neg h,if_neg (by omega)]
open IntWalk (i64_in u8_in u32_in u64_in i64_quo u8_quo rem_in)
theorem xbxp (y:Int) (hp:stOk y=true):xbnu y=zI (qen y):=by
 simp only[stOk,decide_eq_true_eq] at hp
 unfold xbnu qen
 extract_lets x1 x2 x3 x4 x5 x6 x7 x8
 have e1:x1=y - 1:=i64_in _ (by omega)
 have e2:x2=x1*365:=i64_in _ (by omega)
 have e3:x3=x1/ 4:=i64_quo _ _ (by omega)
 have e4:x4=x2+x3:=i64_in _ (by omega)
 have e5:x5=x1/ 100:=i64_quo _ _ (by omega)
 have e6:x6=x4 - x5:=i64_in _ (by omega)
 have e7:x7=x1/ 400:=i64_quo _ _ (by omega)
 have e8:x8=x6+x7:=i64_in _ (by omega)
 exact ql6 (by rw[e8,e6,e4,e2,e3,e5,e7,e1])
theorem xb6y (d0 d1 d2 d3 d4 d5:Int) (hp:qp3 d0 d1 d2 d3 d4 d5=true):xbvl d0 d1 d2 d3 d4 d5=zI (qtu d0 d1 d2 d3 d4 d5):=by
 obtain⟨⟨a1,a2,a3,a4⟩,⟨a5,a6⟩,a7,a8,a9,a10,a11,a12⟩:=qn3 hp
 have a6':d2<=31:=by have:=qs4 d0 d1;omega
 clear a6 hp
 have hs:=q36 d0
 unfold xbvl
 have hy0:qen d0=(d0 - 1)*365+(d0 - 1)/ 4 - (d0 - 1)/ 100+(d0 - 1)/ 400:=rfl
 have hy1:qen (d0+1)=d0*365+d0/ 4 - d0/ 100+d0/ 400:=by unfold qen;rw[show d0+1 - 1=d0 by omega]
 rw[hy1] at hs
 extract_lets x1 x2 x3 x4 x5 x6 x7 x8 x9 x10 x11 x12 x13 x14 x15 x16 x17 x18 x19 x20 x21 x22 x23 x24 x25 x26 x27 x28 x29 x30 x31 x32 x33 x34 x35 x36 x37 x38 x39 x40 x41 x42 x43
 have e1:x1=d1 - 3:=i64_in _ (by omega)
 refine qae (fun h=>ql6 ?_) fun h=>ql6 ?_
 ·have e2:x2=d0 - 1:=i64_in _ (by omega)
  have e3:x3=d1+9:=(i64_in (x1+12) (by omega)).trans (by omega)
  have e4:x4=x2/ 400:=i64_quo _ _ (by omega)
  have e5:x5=x2 % 400:=rem_in _ _ (by omega)
  clear_value x1 x2 x3 x4 x5
  have r4:0<=x4/\x4<=24/\x2=400*x4+x5/\0<=x5/\x5<=399:=by clear hs hy0 hy1;omega
  have c4:(d0 - 1)/ 4=100*x4+x5/ 4/\(d0 - 1)/ 100=4*x4+x5/ 100/\(d0 - 1)/ 400=x4:=by clear hs hy0 hy1;omega
  have e6:x6=153*x3:=i64_in _ (by omega)
  have e7:x7=153*x3+2:=(i64_in (x6+2) (by omega)).trans (by omega)
  have e8:x8=(153*x3+2)/ 5:=(i64_quo x7 5 (by omega)).trans (by rw[e7])
  clear_value x6 x7 x8
  have r8:306<=x8/\x8<=337/\x8=306+31*(d1 - 1):=by clear hs hy0 hy1 r4 c4 e4 e5;omega
  clear e4 e5 e6 e7 e8 hs hy1
  have e9:x9=x8+d2:=i64_in _ (by omega)
  have e10:x10=x8+d2 - 1:=(i64_in (x9 - 1) (by omega)).trans (by omega)
  have e11:x11=x4*146097:=i64_in _ (by omega)
  have e12:x12=x5*365:=i64_in _ (by omega)
  have e13:x13=x11+x12:=i64_in _ (by omega)
  have e14:x14=x5/ 4:=i64_quo _ _ (by omega)
  have e15:x15=x13+x14:=i64_in _ (by omega)
  have e16:x16=x5/ 100:=i64_quo _ _ (by omega)
  have e17:x17=x15 - x16:=i64_in _ (by omega)
  have e18:x18=x17+x10:=i64_in _ (by omega)
  have e19:x19=x18 - 719468:=i64_in _ (by omega)
  have e20:x20=x19*86400:=i64_in _ (by omega)
  have e21:x21=d3*3600:=i64_in _ (by omega)
  have e22:x22=d4*60:=i64_in _ (by omega)
  have e23:x23=x21+x22:=i64_in _ (by omega)
  have e24:x24=x23+d5:=i64_in _ (by omega)
  have e25:x25=x20+x24:=i64_in _ (by omega)
  have hm:qd6 d0 d1=31*(d1 - 1):=by unfold qd6;rw[if_pos (by omega)]
  have hday:qen d0+qd6 d0 d1+(d2 - 1)=x19+719162:=by
   rw[hy0,hm,c4.1,c4.2.1,c4.2.2,e19,e18,e17,e15,e13,e11,e12,e14,e16,e10]
   omega
  unfold qtu
  rw[hday,e25,e20,e24,e23,e21,e22]
  omega
 ·have e26:x26=d0/ 400:=i64_quo _ _ (by omega)
  have e27:x27=d0 % 400:=rem_in _ _ (by omega)
  clear_value x1 x26 x27
  have r4:0<=x26/\x26<=24/\d0=400*x26+x27/\0<=x27/\x27<=399:=by clear hs hy0 hy1;omega
  have c4:d0/ 4=100*x26+x27/ 4/\d0/ 100=4*x26+x27/ 100/\d0/ 400=x26:=by clear hs hy0 hy1;omega
  have e28:x28=153*x1:=i64_in _ (by omega)
  have e29:x29=153*x1+2:=(i64_in (x28+2) (by omega)).trans (by omega)
  have e30:x30=(153*x1+2)/ 5:=(i64_quo x29 5 (by omega)).trans (by rw[e29])
  clear_value x28 x29 x30
  have r8:0<=x30/\x30<=337:=by clear hs hy0 hy1 r4 c4;omega
  have hm:qd6 d0 d1=x30+59+(if qmg d0=true then 1 else 0):=by unfold qd6;rw[if_neg (by omega), <- e1,e30]
  clear e26 e27 e28 e29 e30 hy0 hy1
  have e31:x31=x30+d2:=i64_in _ (by omega)
  have e32:x32=x30+d2 - 1:=(i64_in (x31 - 1) (by omega)).trans (by omega)
  have e33:x33=x26*146097:=i64_in _ (by omega)
  have e34:x34=x27*365:=i64_in _ (by omega)
  have e35:x35=x33+x34:=i64_in _ (by omega)
  have e36:x36=x27/ 4:=i64_quo _ _ (by omega)
  have e37:x37=x35+x36:=i64_in _ (by omega)
  have e38:x38=x27/ 100:=i64_quo _ _ (by omega)
  have e39:x39=x37 - x38:=i64_in _ (by omega)
  have e40:x40=x39+x32:=i64_in _ (by omega)
  have e41:x41=x40 - 719468:=i64_in _ (by omega)
  have e42:x42=x41*86400:=i64_in _ (by omega)
  have e21:x21=d3*3600:=i64_in _ (by omega)
  have e22:x22=d4*60:=i64_in _ (by omega)
  have e23:x23=x21+x22:=i64_in _ (by omega)
  have e24:x24=x23+d5:=i64_in _ (by omega)
  have e43:x43=x42+x24:=i64_in _ (by omega)
  have hday:qen d0+qd6 d0 d1+(d2 - 1)=x41+719162:=by
   rw[hm]
   generalize (if qmg d0=true then 1 else 0:Int)=lp at*
   rw[c4.1,c4.2.1,c4.2.2] at hs
   rw[e41,e40,e39,e37,e35,e33,e34,e36,e38,e32]
   omega
  unfold qtu
  rw[hday,e43,e42,e24,e23,e21,e22]
  omega
open IntWalk (i64_in u8_in u32_in u64_in i64_quo u8_quo rem_in)
theorem xb5e (s:ByteArray) (hp:true=true):xbv9 s=zR [.cl (.int .i64 (qo9 s).1),.cl (.int .i64 (qo9 s).2)] []:=by
 unfold xbv9 qo9
 have dig: ∀k:Nat,(k:Int)+2<=s.size->qfs (s.extract k s.size)=qpg (bget s k) (bget s (k+1)):=fun k hk=>by
  unfold qfs
  rw[qc1 s (by omega) (by omega) (zar _),qc1 s (by omega) (by omega) (zar _),Int.add_zero]
 have sz: ∀k:Nat,(s.extract k s.size).size=s.size - k:=fun k=>by rw[zdd,Nat.min_self]
 refine qas (fun h=> ?_) fun h=>qan (by omega) ?_
 ·rw[if_neg (by omega)]
 have hs:s.size=15:=by omega
 have d2:=dig 2 (by omega)
 have d4:=dig 4 (by omega)
 have d6:=dig 6 (by omega)
 have d8:=dig 8 (by omega)
 have d10:=dig 10 (by omega)
 have d12:=dig 12 (by omega)
 extract_lets x1 s2 r3 s4 r5 s6 r7 s8 r9 s10 r11 s12 r13 r14 x15 x16 r17 r18 y m d hh i c
 refine qas (fun h=> ?_) fun h1=> ?_
 ·rw[if_neg fun e=>h e.2]
 rw[if_pos ⟨hs,h1⟩]
 have z2:=sz 2
 have z4:=sz 4
 have z6:=sz 6
 have z8:=sz 8
 have z10:=sz 10
 have z12:=sz 12
 have rng: ∀a b,0<=a/\a<=255->0<=b/\b<=255-> -100000<=qpg a b/\qpg a b<=99:=fun a b h1 h2=>by
  unfold qpg
  split<;>omega
 have g2:=rng _ _ (qkg s 2) (qkg s 3)
 have g0:=rng _ _ (qkg s 0) (qkg s 1)
 have e14:r14=qpg (bget s 0) (bget s 1):=rfl
 have e3:r3=qpg (bget s 2) (bget s 3):=d2
 have e15:x15=100*qpg (bget s 0) (bget s 1):=i64_in _ (by rw[e14];omega)
 have e16:x16=y:=(i64_in (r3+x15) (by omega)).trans (by rw[e3,e15])
 have e5:r5=m:=d4
 have e7:r7=d:=d6
 have e9:r9=hh:=d8
 have e11:r11=i:=d10
 have e13:r13=c:=d12
 have hr:r17=qp3 y m d hh i c:=by show qp3 x16 r5 r7 r9 r11 r13=_;rw[e16,e5,e7,e9,e11,e13]
 have h18:r18=qtu y m d hh i c:=by show qtu x16 r5 r7 r9 r11 r13=_;rw[e16,e5,e7,e9,e11,e13]
 refine qan (by omega) (qan (by show 2<=(s.extract 2 s.size).size;omega) (qan (by omega) (qan (by show 2<=(s.extract 4 s.size).size;omega) (qan (by omega) (qan (by show 2<=(s.extract 6 s.size).size;omega) (qan (by omega) (qan (by show 2<=(s.extract 8 s.size).size;omega) (qan (by omega) (qan (by show 2<=(s.extract 10 s.size).size;omega)
  (qan (by omega) (qan (by show 2<=(s.extract 12 s.size).size;omega) (qan (by omega) ?_))))))))))))
 rw[hr]
 cases hf:qp3 y m d hh i c with
 | false=>rfl
 | true=>
  rw[if_pos rfl]
  show cond (qp3 x16 r5 r7 r9 r11 r13) (zR [.cl (.int .i64 r18),.cl (.int .i64 0)] []) none=_
  rw[show qp3 x16 r5 r7 r9 r11 r13=true from hr.trans hf,h18]
  rfl
open IntWalk (i64_in u8_in u32_in u64_in i64_quo u8_quo rem_in)
theorem q5y (s:ByteArray) (hs:s.size<=18): ∀(fuel i:Nat) (acc:Int),i<=s.size->s.size<fuel+i->0<=acc->acc<((10 ^ i:Nat):Int)->
  qic (fun _ _ _ _ _ _ _ _ _ _=>zI (-1)) (fun _ _ _ _ _ _ _ _ _ _ _ _ _ _=>zI (-1)) (fun _ y2 _ _ _ _=>zI y2) fuel s acc i=zI (quy ((bytesOf s).drop i) acc)
 | 0,i,acc,hi,hf,h0,h1=>by omega
 | fuel+1,i,acc,hi,hf,h0,h1=>by
  simp only[qic]
  unfold qmj
  have rb:=qkg s i
  extract_lets x1 x3 x5 x6 x7 x8
  refine qae (fun h=> ?_) fun h=> ?_
  ·have hlt:i<s.size:=by omega
   rw[qd1 s hlt]
   refine qan (by omega) (qan h ?_)
   unfold quy
   refine qae (fun h2=> ?_) fun h2=>qan (by omega) (qan h (qae (fun h3=> ?_) fun h3=>qan (by omega) (qan h ?_)))
   ·rw[if_pos (.inl h2)]
   ·rw[if_pos (.inr h3)]
   ·have h2: ¬bget s i<48:=h2
    have h3: ¬57<bget s i:=h3
    have e1:x1=bget s i:=rfl
    clear_value x1
    rw[if_neg (by omega)]
    have hp:10 ^ (i+1)=10*10 ^ i:=by rw[Nat.pow_succ];omega
    have hp2:10 ^ i<=10 ^ 17:=zcn (by omega) (by omega)
    have e3:x3=acc*10:=i64_in _ (by omega)
    have e5:x5=x1 - 48:=u8_in _ (by omega)
    have e6:x6=x1 - 48:=(i64_in x5 (by omega)).trans e5
    have e7:x7=acc*10+(x1 - 48):=(i64_in (x3+x6) (by omega)).trans (by rw[e3,e6])
    have e8:x8=((i+1:Nat):Int):=(i64_in ((i:Int)+1) (by omega)).trans (by omega)
    rw[e7,e8,e1]
    exact q5y s hs fuel (i+1) _ (by omega) (by omega) (by omega) (by omega)
  ·have:i=s.size:=by omega
   subst this
   rw[zbl (by rw[qf2];exact zar _)]
   rfl
theorem xbrd (s:ByteArray) (hp:decide (s.size<=18)=true):xbf7 s=zI (qdz s):=by
 simp only[decide_eq_true_eq] at hp
 unfold xbf7 qdz
 rw[qab]
 exact q5y s hp FUEL 0 0 (by omega) (by unfold FUEL;omega) (by omega) (by omega)
theorem xbav {y m:Int} (h:1<=y/\y<=9999) (hm:1<=m/\m<=12):qjk y m=qd6 y (m+1) - qd6 y m:=by
 unfold qjk
 rw[if_pos (by omega),qtm hm.1 hm.2]
 omega
open IntWalk (i64_in u8_in u32_in u64_in i64_quo u8_quo rem_in)
theorem xbye {y m h i c:Int} (F:Int->Int->Int->Int->Int->Int->Option Out) (hy:1<=y/\y<=9999) (hm:1<=m/\m<=12): ∀(fuel:Nat) (n k:Int),1<=k->k<=m->m - k<fuel->0<=n->n<=4000000+31*k->
  qhq (fun y18 y19 y20 y21 y22 y23 _ _ _=>F y18 y19 y20 y21 y22 y23) fuel y m h i c n k=F y m h i c (n+qd6 y m - qd6 y k)
 | 0,n,k,h1,h2,h3,h4,h5=>by omega
 | fuel+1,n,k,h1,h2,h3,h4,h5=>by
  rw[show qhq (fun y18 y19 y20 y21 y22 y23 _ _ _=>F y18 y19 y20 y21 y22 y23) (fuel+1)=qk5 (qhq (fun y18 y19 y20 y21 y22 y23 _ _ _=>F y18 y19 y20 y21 y22 y23) fuel) (fun y18 y19 y20 y21 y22 y23 _ _ _=>F y18 y19 y20 y21 y22 y23) from rfl]
  unfold qk5
  have hmo:=xbav hy (m:=k) (by omega)
  have hst:=qtm (y:=y) (m:=k) (by omega) (by omega)
  have hr:=qs4 y k
  extract_lets r18 x19 x20
  have e18:r18=qjd y k:=by show qjk y k=_;rw[hmo];omega
  refine qae (fun hlt=> ?_) fun hlt=> ?_
  ·have e19:x19=n+qjd y k:=(i64_in (n+r18) (by omega)).trans (by rw[e18])
   have e20:x20=k+1:=i64_in _ (by omega)
   rw[e19,e20]
   rw[xbye F hy hm fuel (n+qjd y k) (k+1) (by omega) (by omega) (by omega) (by omega) (by omega),hst]
   congr 1
   omega
  ·have:k=m:=by omega
   subst this
   show F y k h i c n=_
   congr 1
   omega
theorem num2 {a b:Int} (ha:0<=a/\a<=255) (hb:0<=b/\b<=255):quy [a,b] 0=(if qpg a b<0 then -1 else qpg a b)/\(qpg a b= -100000\/0<=qpg a b/\qpg a b<=99):=by
 unfold qpg quy quy quy
 by_cases h1:a<48\/57<a
 ·rw[if_pos h1,if_pos (show(if a<48\/57<a\/b<48\/57<b then(-100000:Int) else _)<0 by rw[if_pos (by omega)];omega),if_pos (by omega)];exact⟨rfl,.inl rfl⟩
 ·by_cases h2:b<48\/57<b
  ·rw[if_neg h1,if_pos h2,if_pos (show(if a<48\/57<a\/b<48\/57<b then(-100000:Int) else _)<0 by rw[if_pos (by omega)];omega),if_pos (by omega)];exact⟨rfl,.inl rfl⟩
  ·rw[if_neg h1,if_neg h2,if_neg (by omega),if_neg (by omega)]
   exact⟨by omega,by omega⟩
theorem num4 {a b c d:Int} (ha:0<=a/\a<=255) (hb:0<=b/\b<=255) (hc:0<=c/\c<=255) (hd:0<=d/\d<=255):quy [a,b,c,d] 0=(if qpg a b<0\/qpg c d<0 then -1 else 100*qpg a b+qpg c d):=by
 unfold qpg quy quy quy quy quy
 by_cases h1:a<48\/57<a
 ·rw[if_pos h1,if_pos (.inl (by rw[if_pos (by omega)];omega))]
 ·by_cases h2:b<48\/57<b
  ·rw[if_neg h1,if_pos h2,if_pos (.inl (by rw[if_pos (by omega)];omega))]
  ·by_cases h3:c<48\/57<c
   ·rw[if_neg h1,if_neg h2,if_pos h3,if_pos (show c<48\/57<c\/d<48\/57<d by omega),if_pos (by omega)]
   ·by_cases h4:d<48\/57<d
    ·rw[if_neg h1,if_neg h2,if_neg h3,if_pos h4,if_pos (show c<48\/57<c\/d<48\/57<d by omega),if_pos (by omega)]
    ·rw[if_neg h1,if_neg h2,if_neg h3,if_neg h4,if_neg (show ¬(a<48\/57<a\/b<48\/57<b) by omega),if_neg (show ¬(c<48\/57<c\/d<48\/57<d) by omega),if_neg (by omega)]
     omega
theorem qkt (s:ByteArray) {k:Nat} (h:k+2<=s.size):bytesOf (s.extract k (k+2))=[bget s k,bget s (k+1)]:=by
 have hz:(s.extract k (k+2)).size=2:=by rw[zdd];omega
 have h0:=qd1 (s.extract k (k+2)) (i:=0) (by omega)
 have h1:=qd1 (s.extract k (k+2)) (i:=1) (by omega)
 rw[zbn] at h0
 rw[h0,h1,zbl (by rw[qf2];omega),qc1 s (by omega) (by omega) h,qc1 s (by omega) (by omega) h]
 simp
theorem xbe2 (s:ByteArray) (h:4<=s.size):bytesOf (s.extract 0 4)=[bget s 0,bget s 1,bget s 2,bget s 3]:=by
 have hz:(s.extract 0 4).size=4:=by rw[zdd];omega
 have h0:=qd1 (s.extract 0 4) (i:=0) (by omega)
 have h1:=qd1 (s.extract 0 4) (i:=1) (by omega)
 have h2:=qd1 (s.extract 0 4) (i:=2) (by omega)
 have h3:=qd1 (s.extract 0 4) (i:=3) (by omega)
 rw[zbn] at h0
 rw[h0,h1,h2,h3,zbl (by rw[qf2];omega),qc1 s (by omega) (by omega) h,qc1 s (by omega) (by omega) h,qc1 s (by omega) (by omega) h,qc1 s (by omega) (by omega) h]
 simp
theorem xbru {D01 D23 D4 D6 D8 D10 D12:Int} (v01:D01= -100000\/0<=D01/\D01<=99) (v23:D23= -100000\/0<=D23/\D23<=99) (v4:D4= -100000\/0<=D4/\D4<=99) (v6:D6= -100000\/0<=D6/\D6<=99) (v8:D8= -100000\/0<=D8/\D8<=99) (v10:D10= -100000\/0<=D10/\D10<=99) (v12:D12= -100000\/0<=D12/\D12<=99)
  {y m d h i c:Int} (ey:y=if D01<0\/D23<0 then -1 else 100*D01+D23) (em:m=if D4<0 then -1 else D4) (ed:d=if D6<0 then -1 else D6) (eh:h=if D8<0 then -1 else D8) (ei:i=if D10<0 then -1 else D10) (ec:c=if D12<0 then -1 else D12):
  (qp3 (D23+100*D01) D4 D6 D8 D10 D12=true/\qp3 y m d h i c=true/\y=D23+100*D01/\m=D4/\d=D6/\h=D8/\i=D10/\c=D12)\/(qp3 (D23+100*D01) D4 D6 D8 D10 D12=false/\qp3 y m d h i c=false):=by
 cases hf:qp3 (D23+100*D01) D4 D6 D8 D10 D12 with
 | true=>
  left
  obtain⟨⟨a1,a2,a3,a4⟩,⟨a5,a6⟩,a7,a8,a9,a10,a11,a12⟩:=qn3 hf
  have e1:y=D23+100*D01:=by rw[ey,if_neg (by omega)];omega
  have e2:m=D4:=by rw[em,if_neg (by omega)]
  have e3:d=D6:=by rw[ed,if_neg (by omega)]
  have e4:h=D8:=by rw[eh,if_neg (by omega)]
  have e5:i=D10:=by rw[ei,if_neg (by omega)]
  have e6:c=D12:=by rw[ec,if_neg (by omega)]
  exact⟨rfl,by rw[e1,e2,e3,e4,e5,e6,hf],e1,e2,e3,e4,e5,e6⟩
 | false=>
  right
  refine⟨rfl, ?_⟩
  cases hg:qp3 y m d h i c with
  | false=>rfl
  | true=>
   exfalso
   obtain⟨⟨a1,a2,a3,a4⟩,⟨a5,a6⟩,a7,a8,a9,a10,a11,a12⟩:=qn3 hg
   have e1:y=D23+100*D01:=by split at ey<;>omega
   have e2:m=D4:=by split at em<;>omega
   have e3:d=D6:=by split at ed<;>omega
   have e4:h=D8:=by split at eh<;>omega
   have e5:i=D10:=by split at ei<;>omega
   have e6:c=D12:=by split at ec<;>omega
   rw[<- e1, <- e2, <- e3, <- e4, <- e5, <- e6,hg] at hf
   cases hf
theorem xb4d (s:ByteArray) (hp:true=true):xbzp s=zR [.cl (.int .i64 (qo9 s).1),.cl (.int .i64 (qo9 s).2)] []:=by
 unfold xbzp qo9
 refine qas (fun h=> ?_) fun h=>qan (by omega) ?_
 ·rw[if_neg (by omega)]
 have hs:s.size=15:=by omega
 have sz: ∀k n:Nat,k+n<=15->(s.extract k (k+n)).size=n:=fun k n hk=>by rw[zdd];omega
 have z0:=sz 0 4 (by omega)
 have z4:=sz 4 2 (by omega)
 have z6:=sz 6 2 (by omega)
 have z8:=sz 8 2 (by omega)
 have z10:=sz 10 2 (by omega)
 have z12:=sz 12 2 (by omega)
 have b:=qkg s
 have n0:qdz (s.extract 0 4)=_:=(congrArg (quy · 0) (xbe2 s (by omega))).trans (num4 (b 0) (b 1) (b 2) (b 3))
 have n4:qdz (s.extract 4 6)=_:=(congrArg (quy · 0) (qkt s (k:=4) (by omega))).trans (num2 (b 4) (b 5)).1
 have n6:qdz (s.extract 6 8)=_:=(congrArg (quy · 0) (qkt s (k:=6) (by omega))).trans (num2 (b 6) (b 7)).1
 have n8:qdz (s.extract 8 10)=_:=(congrArg (quy · 0) (qkt s (k:=8) (by omega))).trans (num2 (b 8) (b 9)).1
 have n10:qdz (s.extract 10 12)=_:=(congrArg (quy · 0) (qkt s (k:=10) (by omega))).trans (num2 (b 10) (b 11)).1
 have n12:qdz (s.extract 12 14)=_:=(congrArg (quy · 0) (qkt s (k:=12) (by omega))).trans (num2 (b 12) (b 13)).1
 have same:=xbru (num2 (b 0) (b 1)).2 (num2 (b 2) (b 3)).2 (num2 (b 4) (b 5)).2 (num2 (b 6) (b 7)).2 (num2 (b 8) (b 9)).2 (num2 (b 10) (b 11)).2 (num2 (b 12) (b 13)).2 n0 n4 n6 n8 n10 n12
 extract_lets x1 s2 r3 s4 r5 s6 r7 s8 r9 s10 r11 s12 r13 r14 r15 x16 x17 y m d hh i c
 refine qas (fun h=> ?_) fun h1=> ?_
 ·rw[if_neg fun e=>h e.2]
 rw[if_pos ⟨hs,h1⟩]
 have z0:s2.size=4:=z0
 have z4:s4.size=2:=z4
 have z6:s6.size=2:=z6
 have z8:s8.size=2:=z8
 have z10:s10.size=2:=z10
 have z12:s12.size=2:=z12
 refine qan (by omega) (qan (by omega) (qan (by omega) (qan (by omega) (qan (by omega) (qan (by omega) (qan (by omega) (qan (by omega) (qan (by omega) (qan (by omega) (qan (by omega) (qan (by omega) ?_)))))))))))
 have same:(qp3 y m d hh i c=true/\qp3 r3 r5 r7 r9 r11 r13=true/\r3=y/\r5=m/\r7=d/\r9=hh/\r11=i/\r13=c)\/(qp3 y m d hh i c=false/\qp3 r3 r5 r7 r9 r11 r13=false):=same
 have e14:r14=qjk r3 r5:=rfl
 have e15:r15=qen r3:=rfl
 have e16:x16=IntKind.i64.wrap (r7 - 1):=rfl
 have e17:x17=IntKind.i64.wrap (r15+x16):=rfl
 clear_value r14 r15 x16 x17 r3 r5 r7 r9 r11 r13 y m d hh i c s2 s4 s6 s8 s10 s12 x1
 clear n0 n4 n6 n8 n10 n12 z0 z4 z6 z8 z10 z12 b sz h1 hs h
 rcases same with⟨hf,hg,rfl,rfl,rfl,rfl,rfl,rfl⟩|⟨hf,hg⟩
 ·rw[if_pos hf]
  obtain⟨⟨a1,a2,a3,a4⟩,⟨a5,a6⟩,a7,a8,a9,a10,a11,a12⟩:=qn3 hf
  have hmo:qjk r3 r5=qjd r3 r5:=by unfold qjk;rw[if_pos (by omega)]
  have hr:=qs4 r3 r5
  have hy:0<=qen r3/\qen r3<=3652059:=by unfold qen;omega
  have e16:x16=r7 - 1:=e16.trans (i64_in _ (by omega))
  have e17:x17=qen r3+(r7 - 1):=e17.trans ((i64_in _ (by omega)).trans (by rw[e15,e16]))
  refine qb2 (by omega) (qb2 (by omega) (qb2 (by omega) (qb2 (by omega) (qb2 (by omega) (qb2 (by omega) (qb2 (by omega) (qb2 (by omega) (qaj (by simp only[stOk,decide_eq_true_eq];omega) ?_))))))))
  rw[qab,e17]
  refine(xbye (fun _ _ y20 y21 y22 y23=>
            let x27:Int:=IntKind.i64.wrap (y23*86400)
            let x28:Int:=IntKind.i64.wrap (((-62135596800):Int)+x27)
            let x29:Int:=IntKind.i64.wrap (y20*3600)
            let x30:Int:=IntKind.i64.wrap (y21*60)
            let x31:Int:=IntKind.i64.wrap (x29+x30)
            let x32:Int:=IntKind.i64.wrap (x31+y22)
            let x33:Int:=IntKind.i64.wrap (x28+x32)
            zR [.cl (.int .i64 x33),.cl (.int .i64 0)] []) ⟨a1,a2⟩ ⟨a3,a4⟩ FUEL _ 1 (by omega) (by omega) (by unfold FUEL;omega) (by omega) (by omega)).trans ?_
  rw[q9g]
  have hA:0<=qd6 r3 r5/\qd6 r3 r5<=335:=by refine⟨?_, ?_⟩<;>(unfold qd6;split<;>(try split)<;>omega)
  extract_lets x27 x28 x29 x30 x31 x32 x33
  have e27:x27=(qen r3+(r7 - 1)+qd6 r3 r5 - 0)*86400:=i64_in _ (by omega)
  have e28:x28= -62135596800+x27:=i64_in _ (by omega)
  have e29:x29=r9*3600:=i64_in _ (by omega)
  have e30:x30=r11*60:=i64_in _ (by omega)
  have e31:x31=x29+x30:=i64_in _ (by omega)
  have e32:x32=x31+r13:=i64_in _ (by omega)
  have e33:x33=x28+x32:=i64_in _ (by omega)
  have e:x33=qtu r3 r5 r7 r9 r11 r13:=by
   unfold qtu
   rw[e33,e28,e27,e32,e31,e29,e30]
   omega
  rw[e]
 ·rw[if_neg (by rw[hf];simp)]
  have hg': ¬((1<=r3/\r3<=9999/\1<=r5/\r5<=12)/\(1<=r7/\r7<=qjd r3 r5)/\0<=r9/\r9<24/\0<=r11/\r11<60/\0<=r13/\r13<60):=by
   unfold qp3 at hg
   simpa only [decide_eq_false_iff_not] using hg
  have hmo:qjk r3 r5=if 1<=r3/\r3<=9999/\1<=r5/\r5<=12 then qjd r3 r5 else 0:=rfl
  refine qae (fun h=>rfl) fun g1=>qae (fun h=>rfl) fun g2=>qae (fun h=>rfl) fun g3=>qae (fun h=>rfl) fun g4=>qae (fun h=>rfl) fun g5=>qae (fun h=>rfl) fun g6=>qae (fun h=>rfl) fun g7=>qae (fun h=>rfl) fun g8=> ?_
  exfalso
  apply hg'
  rw[e14] at g2
  split at hmo<;>omega
open IntWalk (i64_in u8_in u32_in u64_in i64_quo u8_quo rem_in)
theorem qj6 {x:Int} (h:xbob x=true):0<=x/\x<=255:=of_decide_eq_true h
theorem qam {b:List Int} (h:qad b=true):b.length<=1000000/\∀x∈b,0<=x/\x<=255:=by
 unfold qad at h
 rw[qab] at h
 simp only[zab,decide_eq_true_eq,zaj] at h
 exact⟨h.1,fun x hx=>qj6 (h.2 x hx)⟩
theorem qc5 {b:List Int} (h:b.length<=1000000) (h': ∀x∈b,0<=x/\x<=255):qad b=true:=by
 unfold qad
 rw[qab]
 simp only[zab,decide_eq_true_eq,zaj]
 exact⟨h,fun x hx=>decide_eq_true (h' x hx)⟩
theorem qoo {a b:List Int} (h:qad b=true) (hl:a.length<=b.length) (hs: ∀x∈a,x∈b):qad a=true:=
 let ⟨h1,h2⟩:=qam h;qc5 (by omega) fun x hx=>h2 x (hs x hx)
theorem qa6 {b:List Int} (h:qad b=true) (n:Nat):qad (b.drop n)=true:=qoo h (by simp) fun x hx=>zbz hx
theorem qgi {b:List Int} (h:qad b=true) (n:Nat):qad (b.take n)=true:=qoo h (by simp;omega) fun x hx=>zbc hx
theorem qbu {b:List Int} (h:qad b=true):qad b.tail=true:=qoo h (by simp) fun x hx=>List.mem_of_mem_tail hx
theorem qa2 {b:List Int} (h:qad b=true) {i:Nat} {x:Int} (hx:b[i]? =some x):0<=x/\x<=255:=(qam h).2 x (zac hx)
theorem qeg {b:List Int} (h:qcc b=true):b.length<=100000000:=by
 unfold qcc at h;rw[qab] at h;exact of_decide_eq_true h
theorem qfq {b:List Int} (h:b.length<=100000000):qcc b=true:=by
 unfold qcc;rw[qab];exact decide_eq_true h
theorem qbs {α:Type} {b:List α} {i:Nat} (h:i<b.length): ∃x,b[i]? =some x:=⟨_,zaf h⟩
theorem xbz8 (tag:Int) (hp:true=true):xbm0 tag=zB (qbn tag):=by
 unfold xbm0 qbn qaq
 rw[qab]
 simp only[zcy]
 repeat' split
 all_goals (refine qat ?_;rw[zbg];simp only[decide_eq_true_eq,true_iff,zam,false_iff];omega)
theorem xb0s (tag:Int) (hp:true=true):xbns tag=zB (qbn tag):=by
 unfold xbns qbn qaq
 rw[qab]
 simp only[zcy]
 repeat' split
 all_goals (refine qat ?_;rw[zbg];simp only[decide_eq_true_eq,true_iff,zam,false_iff];omega)
theorem xbzb (tag:Int) (hp:true=true):xbnc tag=zB (qdy tag):=by
 unfold xbnc qdy qbf qbn
 simp only[qab,zcy]
 cases qaq tag
 all_goals simp only[cond_true,cond_false]
 all_goals repeat' split
 all_goals (refine qat ?_;rw[zbg];(try simp only[zbp,decide_eq_true_eq,or_true,true_or,zam,false_or,Bool.true_eq,true_iff,false_iff]);(try omega))
theorem xbuc (tag:Int) (hp:true=true):xbbh tag=zB (qdy tag):=by
 unfold xbbh qdy qbf qbn
 simp only[qab,zcy]
 cases qaq tag
 all_goals simp only[cond_true,cond_false]
 all_goals repeat' split
 all_goals (refine qat ?_;rw[zbg];(try simp only[zbp,decide_eq_true_eq,or_true,true_or,zam,false_or,Bool.true_eq,true_iff,false_iff]);(try omega))
theorem xbkf (n:Int) (hp:true=true):q65 n=zI (qb6 n):=by
 unfold q65 qb6 qax
 simp only[qab,zcy]
 repeat' split
 all_goals rfl
theorem xb6d (b:List Int) (i:Int) (hp:decide (0<=i)=true):xbw1 b i=zB (u8Cont b i):=by
 have hp:=of_decide_eq_true hp
 unfold xbw1 u8Cont u8At
 simp only[qab]
 refine qae (fun h=>qan hp (qan h ?_)) fun h=>qat ?_
 ·obtain⟨x,hx⟩:=qbs (b:=b) (i:=i.toNat) (by omega)
  rw[hx,zai]
  refine qat ?_
  rw[zbg]
  simp only[decide_eq_true_eq]
  rw[zbe _ (by omega)]
  omega
 ·rw[zbd (by omega)]
theorem q6u (o:List Int):o.length<2/\qcq o=false\/∃x y r,o=x::y::r:=by
 match o with
 | []=>exact .inl ⟨by simp,rfl⟩
 | [x]=>exact .inl ⟨by simp,rfl⟩
 | x::y::r=>exact .inr ⟨x,y,r,rfl⟩
theorem xb8l (o:List Int) (hp:true=true):xb7g o=zB (qkf o):=by
 unfold xb7g qkf
 simp only[qab,zcy]
 rcases q6u o with⟨h,e⟩|⟨x,y,r,rfl⟩
 ·rw[if_pos (by omega),e]
 ·simp only[zao,zaz,zai,zad,qcq]
  repeat' split
  all_goals first
   | (refine qat ?_;rw[zbg];simp only[zab,zbp,decide_eq_true_eq,zam,false_iff,true_iff];omega)
   | omega
theorem xb30 (o:List Int) (hp:true=true):xb2d o=zB (qkf o):=by
 unfold xb2d qkf
 simp only[qab]
 rcases q6u o with⟨h,e⟩|⟨x,y,r,rfl⟩
 ·exact qan (by omega) (qat e.symm)
 ·simp only[zao,zaz,zai,zad,qcq]
  repeat' (refine qae (fun _=> ?_) fun _=> ?_)
  all_goals first
   | (refine qat ?_;rw[zbg];simp only[zab,zbp,decide_eq_true_eq,zam,false_iff,true_iff];omega)
   | omega
theorem xbq7 (b:List Int) (hp:qad b=true):xbdm b=zB (qfu b):=by
 unfold xbdm qfu
 rw[qab]
 match b,hp with
 | [],_=>rfl
 | [x],_=>rfl
 | x::y::r,hp=>
  have hx:=qa2 hp (i:=0) (x:=x) rfl
  have hy:=qa2 hp (i:=1) (x:=y) rfl
  simp only[zao,zaz,zai,zad,qju]
  rw[show IntKind.u64.wrap x=x from u64_in _ (by omega),show IntKind.u64.wrap y=y from u64_in _ (by omega),show IntKind.u64.wrap (x*2 ^ 1)=x*2 from(u64_in _ (by omega)).trans (by omega),
   show Int.fdiv y (2 ^ 7)=y/ 128 from zbe _ (by omega)]
  have hor:((BitVec.ofInt 64 (x*2)||| BitVec.ofInt 64 (y/ 128)).toNat:Int)=x*2+y/ 128:=by
   have h2:y/ 128=0\/y/ 128=1:=by omega
   obtain⟨n,rfl⟩: ∃n:Nat,x=n:=⟨x.toNat,by omega⟩
   have hn:n<256:=by omega
   rcases h2 with h2|h2
   ·rw[h2]
    simp[zcl]
    omega
   ·rw[h2,zdu]
    simp only[zcl]
    have: ∀n:Fin 256,((((n.val:Int)*2 % (2 ^ 64:Nat)).toNat||| ((1:Int) % (2 ^ 64:Nat)).toNat:Nat):Int)=(n.val:Int)*2+1:=by decide+kernel
    exact this ⟨n,hn⟩
  rw[hor,show IntKind.u64.wrap (x*2+y/ 128)=x*2+y/ 128 from u64_in _ (by omega)]
  simp only[zcy]
  rw[if_neg (by omega),if_pos (by omega),if_pos (by omega)]
  refine qas (fun h=>qat ?_) fun h=>qat ?_
  ·rw[zbg]
   simp only[zab,zal,decide_eq_false_iff_not]
   omega
  ·rw[zbg]
   simp only[zab,zal,decide_eq_false_iff_not,zam,false_iff]
   omega
theorem xbs2 (b:List Int) (hp:qad b=true):xbax b=zB (qfu b):=by
 unfold xbax qfu
 rw[qab]
 match b,hp with
 | [],_=>rfl
 | [x],_=>rfl
 | x::y::r,hp=>
  have hx:=qa2 hp (i:=0) (x:=x) rfl
  have hy:=qa2 hp (i:=1) (x:=y) rfl
  simp only[zao,zaz,zai,zad,qju,zcy,Bool.cond_not]
  repeat' split
  all_goals first
   | omega
   | (refine qat ?_;rw[zbg];simp only[zab,zal,decide_eq_false_iff_not,zam,false_iff,true_iff];omega)
theorem xbs5 (n:Int) (hp:u32Ok n=true):xbcg n=zR [.cl (.sli .u32 (qgs n))] []:=by
 unfold u32Ok at hp
 rw[qab] at hp
 have hp:=of_decide_eq_true hp
 unfold xbcg qgs qeq
 simp only[qab]
 refine qae (fun h=> ?_) fun h=> ?_
 ·rw[if_pos h,show IntKind.u64.wrap (Int.tdiv n 40)=n/ 40 by rw[zb4 (by omega)];exact u64_in _ (by omega),zb5 (by omega),
   show IntKind.u32.wrap (n/ 40)=n/ 40 from u32_in _ (by omega),show IntKind.u32.wrap (n % 40)=n % 40 from u32_in _ (by omega)]
 ·rw[if_neg h,show IntKind.u64.wrap (n - 80)=n - 80 from u64_in _ (by omega),show IntKind.u32.wrap (n - 80)=n - 80 from u32_in _ (by omega)]
theorem xbwz (b:List Int) (hp:qcc b=true):xbni b=zR [.cl (.sli .u8 b)] []:=by
 have hp:=qeg hp
 unfold xbni
 simp only[zbo]
 refine qch (fun h=> ?_) fun h=> ?_
 ·have h:=zau (qaf.1 h)
  subst h
  unfold xbpo
  rw[if_pos (Eq.symm (qcx (by simp) (qcx (by simp) rfl)))]
 ·exact qcx (by omega) (qcx (by omega) rfl)
open IntWalk (i64_in u8_in u32_in u64_in i64_quo u8_quo rem_in)
theorem qcm {b:List Int} {i:Nat} {x:Int} (h:b[i]? =some x):b.drop i=x::b.drop (i+1):=by
 obtain⟨hlt,e⟩:=zae.1 h
 rw[zbw hlt,e]
theorem qdj {α:Type} {b:List α} {i:Nat} (h:b.length<=i):b.drop i=[]:=zbl h
theorem xblj (a b:List Int) (hl:a.length=b.length) (hb:a.length<=100000000): ∀(f i:Nat),i<=a.length->a.length<f+i->
  qjx (fun _ _ _ _ _ _ _ _ _ _ _ _ _ _ _ _=>zB false) (fun _ _ _ _ _ _=>zB true) f a b i=zB (decide (a.drop i=b.drop i))
 | 0,i,hi,hf=>by omega
 | f+1,i,hi,hf=>by
  show qkx (qjx (fun _ _ _ _ _ _ _ _ _ _ _ _ _ _ _ _=>zB false) (fun _ _ _ _ _ _=>zB true) f) (fun _ _ _ _ _ _ _ _ _ _ _ _ _ _ _ _=>zB false) (fun _ _ _ _ _ _=>zB true) a b i=_
  unfold qkx
  refine qae (fun h=> ?_) fun h=> ?_
  ·obtain⟨x,hx⟩:=qbs (b:=a) (i:=i) (by omega)
   obtain⟨y,hy⟩:=qbs (b:=b) (i:=i) (by omega)
   refine qan (by omega) (qan h ?_)
   rw[show(i:Int).toNat=i from rfl,hx,zai]
   refine qan (by omega) (qan (by omega) ?_)
   rw[hy,zai]
   rw[qcm hx,qcm hy]
   refine qas (fun hne=>qat ?_) fun he=> ?_
   ·simp[hne]
   ·subst he
    rw[show IntKind.i64.wrap ((i:Int)+1)=((i+1:Nat):Int) from(i64_in _ (by omega)).trans (by omega)]
    refine(xblj a b hl hb f (i+1) (by omega) (by omega)).trans (qat ?_)
    simp
  ·refine qat ?_
   rw[qdj (by omega),qdj (by omega)]
   simp
theorem xbwk (a b:List Int) (hp:qcc a=true):xbnz a b=zB (qbl a b):=by
 have hp:=qeg hp
 unfold xbnz qbl qkw
 simp only[qab]
 refine qas (fun h=>qat ?_) fun h=> ?_
 ·rw[eq_comm,decide_eq_false_iff_not]
  intro e
  subst e
  exact h rfl
 ·exact xblj a b (by omega) hp FUEL 0 (by omega) (by unfold FUEL;omega)
theorem xbki (b:List Int) (hb: ∀x∈b,0<=x/\x<=255): ∀(n:Int) (k:Nat),0<=n->n<256 ^ k->0<=b.foldl (fun n x=>n*256+x) n/\b.foldl (fun n x=>n*256+x) n<256 ^ (k+b.length):=by
 induction b with
 | nil=>intro n k h0 h1;exact⟨h0,h1⟩
 | cons x r ih=>
  intro n k h0 h1
  have hx:=hb x (by simp)
  have:=ih (fun y hy=>hb y (by simp[hy])) (n*256+x) (k+1) (by omega) (by rw[zds];omega)
  simp only[zbf,zad]
  rw[show k+(r.length+1)=k+1+r.length by omega]
  exact this
theorem qry {b:List Int} (hb: ∀x∈b,0<=x/\x<=255):0<=qa1 b/\qa1 b<256 ^ b.length:=by
 have:=xbki b hb 0 0 (by omega) (by decide)
 rwa [zax] at this
theorem xb0j (b:List Int) (hb: ∀x∈b,0<=x/\x<=255) (hl:b.length<=7): ∀(f i:Nat) (n:Int),i<=b.length->b.length<f+i->0<=n->n<256 ^ i->
  qm2 (fun _ y2 _ _ _ _=>zR [.cl (.int .u64 y2)] []) f b n i=zR [.cl (.int .u64 ((b.drop i).foldl (fun n x=>n*256+x) n))] []
 | 0,i,n,hi,hf,_,_=>by omega
 | f+1,i,n,hi,hf,h0,h1=>by
  show qnl (qm2 (fun _ y2 _ _ _ _=>zR [.cl (.int .u64 y2)] []) f) (fun _ y2 _ _ _ _=>zR [.cl (.int .u64 y2)] []) b n i=_
  unfold qnl
  have hh:((256:Int) ^ i)=((256 ^ i:Nat):Int):=by rw[zdm];rfl
  have h3:(256 ^ i:Nat)<=72057594037927936:=zca (zcn (by omega) (show i<=7 by omega)) (by decide)
  have h2:n<72057594037927936:=by rw[hh] at h1;generalize 256 ^ i=z at*;omega
  refine qae (fun h=> ?_) fun h=> ?_
  ·obtain⟨x,hx⟩:=qbs (b:=b) (i:=i) (by omega)
   have hxr:=hb x (zac hx)
   extract_lets x1 x5
   refine qan (by omega) (qan h ?_)
   rw[show(i:Int).toNat=i from rfl,hx,zai,qcm hx,zbf]
   extract_lets x3 x4
   have e1:x1=n*256:=u64_in _ (by omega)
   have e3:x3=x:=u64_in _ (by omega)
   have e4:x4=n*256+x:=(u64_in (x1+x3) (by omega)).trans (by omega)
   have e5:x5=((i+1:Nat):Int):=(i64_in _ (by omega)).trans (by omega)
   rw[e4,e5]
   exact xb0j b hb hl f (i+1) _ (by omega) (by omega) (by omega) (by rw[zds];omega)
  ·rw[qdj (by omega)];rfl
theorem xb58 (b:List Int) (hp:(qad b&&decide (b.length<=7))=true):xb1k b=zR [.cl (.int .u64 (qhd b))] []:=by
 simp only[zab,decide_eq_true_eq] at hp
 unfold xb1k qhd
 simp only[qab]
 exact xb0j b (qam hp.1).2 hp.2 FUEL 0 0 (by omega) (by unfold FUEL;omega) (by omega) (by decide)
theorem xbqk (e:Int) (hp:true=true):xbp2 e=zR [] []:=rfl
theorem xbrn (e:Int) (hp:true=true):xbql e=some (.pan (.iface 85 (.agg [.int .i64 e])) []):=rfl
theorem xb6h (l:List Int) (d:Int) (hp:qad l=true):xbvu l d=(Tree.ite (l.isEmpty) (.leaf (.pan (.iface 85 (.agg [.int .i64 1])) [some ⟨.var [.cl (.sli .u8 l),.cl (.int .i64 d)],false⟩])) (.leaf (.ret [.cl (.int .i64 (l.headD 0))] [some ⟨.var [.cl (.sli .u8 l.tail),.cl (.int .i64 d)],false⟩]))).eval:=by
 unfold xbvu
 match l,hp with
 | [],_=>rfl
 | x::r,hp=>
  have hx:=qa2 hp (i:=0) (x:=x) rfl
  refine qan (by simp only[zad];omega) (qan (by simp only[zad];omega) ?_)
  simp only[zao,zai]
  refine qan (by simp only[zad];omega) ?_
  rw[show IntKind.i64.wrap x=x from i64_in _ (by omega)]
  rfl
open IntWalk (i64_in u8_in u32_in u64_in i64_quo u8_quo rem_in)
theorem xbw5 {n x:Int} (h0:0<=n) (h1:n<72057594037927936) (h2:0<=x) (h3:x<=255):((BitVec.ofInt 64 (n*256)||| BitVec.ofInt 64 x).toNat:Int)=n*256+x:=by
 obtain⟨a,rfl⟩: ∃a:Nat,n=a:=⟨n.toNat,by omega⟩
 obtain⟨b,rfl⟩: ∃b:Nat,x=b:=⟨x.toNat,by omega⟩
 rw[zdu]
 have e1:(BitVec.ofInt 64 ((a:Int)*256)).toNat=2 ^ 8*a:=by rw[zcl];omega
 have e2:(BitVec.ofInt 64 (b:Int)).toNat=b:=by rw[zcl];omega
 rw[e1,e2, <- Nat.two_pow_add_eq_or_of_lt (by omega:b<2 ^ 8)]
 omega
theorem qur {r:List Int} (hb: ∀x∈r,0<=x/\x<=255) {j:Nat} (hj:j<=3):0<=qa1 (r.take j)/\qa1 (r.take j)<16777216:=by
 have h:=qry (b:=r.take j) fun x hx=>hb x (zbc hx)
 refine⟨h.1, ?_⟩
 have hl:(r.take j).length<=3:=by simp;omega
 have h3:(256 ^ (r.take j).length:Nat)<=16777216:=zca (zcn (by omega) hl) (by decide)
 have hh:((256:Int) ^ (r.take j).length)=((256 ^ (r.take j).length:Nat):Int):=by rw[zdm];rfl
 have:=h.2
 rw[hh] at this
 omega
theorem xbt4 (b:List Int) (hp:qad b=true):xbeb b=zR [.cl (.int .i64 (qg3 b).1),.cl (.int .i64 (qg3 b).2)] []:=by
 unfold xbeb qg3
 simp only[qab]
 match b,hp with
 | [],_=>rfl
 | c::t,hp=>
  have hc:=qa2 hp (i:=0) (x:=c) rfl
  have hl:=(qam hp).1
  have ht:=(qam (qbu hp)).2
  simp only[zbr] at ht
  simp only[zad] at hl
  simp only[zao,zai,zad,qac]
  refine qb2 (by omega) (qan (by omega) (qae (fun h=>qan (by omega) ?_) fun h=>qan (by omega) ?_))
  ·rw[if_pos h,show IntKind.i64.wrap c=c from i64_in _ (by omega)]
  ·rw[if_neg h]
   rw[show IntKind.i64.wrap c=c from i64_in _ (by omega),show IntKind.i64.wrap (c - 128)=c - 128 from i64_in _ (by omega),show IntKind.i64.wrap (1+(c - 128))=1+(c - 128) from i64_in _ (by omega)]
   refine qae (fun h1=> ?_) fun h1=>qae (fun h2=> ?_) fun h2=>qae (fun h3=> ?_) fun h3=> ?_
   ·rw[if_pos (by omega)]
   ·rw[if_pos (by omega)]
   ·rw[if_pos (by omega)]
   ·rw[if_neg (by omega)]
    obtain⟨j,hj⟩: ∃j:Nat,c - 128=j:=⟨(c - 128).toNat,by omega⟩
    have hdt:List.drop 1 (List.take (1+(c - 128)).toNat (c::t))=t.take j:=by
     rw[hj,show((1:Int)+(j:Int)).toNat=j+1 by omega,zb6,List.drop_one,zbr]
    rw[hdt]
    have hlen:(t.take j).length=j:=by simp;omega
    refine qan (by omega) (qan (by omega) (qaj ?_ (qan (by omega) ?_)))
    ·simp only[zab,decide_eq_true_eq]
     exact⟨qgi (qbu hp) j,by omega⟩
    ·obtain⟨y,t',rfl⟩: ∃y t',t=y::t':=by
      cases t with
      | nil=>simp at hlen;omega
      | cons y t'=>exact⟨y,t',rfl⟩
     simp only[zaz,zao,zai]
     have hr:=qur ht (j:=j) (by omega)
     rw[show(c - 128).toNat=j by omega]
     unfold qhd
     simp only[qab]
     rw[show IntKind.i64.wrap (qa1 (List.take j (y::t')))=qa1 (List.take j (y::t')) from i64_in _ (by omega)]
     refine qae (fun h4=> ?_) fun h4=>qae (fun h5=> ?_) fun h5=> ?_
     ·rw[if_pos (show(y::t').headD 0=0\/qa1 (List.take j (y::t'))<128 from .inl h4)]
     ·rw[if_pos (show(y::t').headD 0=0\/qa1 (List.take j (y::t'))<128 from .inr h5)]
     ·rw[if_neg (show ¬((y::t').headD 0=0\/qa1 (List.take j (y::t'))<128) from fun h=>h.elim h4 h5)]
theorem xbv2 (k0:Int->Int->Int->Int->Int->Int->List Int->Int->Option Out) (k1:Int->Int->Int->Int->List Int->Int->Option Out) (F0:List Int->Int->Option Out) (F1:Int->List Int->Int->Option Out) (h0: ∀a b c d e f g h,k0 a b c d e f g h=F0 g h) (c cnt:Int) (h1: ∀b d e f,k1 c b cnt d e f=F1 b e f) (hcnt:cnt<=3):
  ∀(f i:Nat) (n:Int) (r:List Int) (d:Int),qad r=true->(i:Int)<=cnt->cnt<f+i->0<=n->n<256 ^ i->
  qfa k0 k1 f c n cnt i r d=if(r.length:Int)<cnt - i then F0 [] d else F1 ((r.take (cnt - i).toNat).foldl (fun n x=>n*256+x) n) (r.drop (cnt - i).toNat) d
 | 0,i,n,r,d,hr,hi,hf,_,_=>by omega
 | f+1,i,n,r,d,hr,hi,hf,hn0,hn1=>by
  show qiv (qfa k0 k1 f) k0 k1 c n cnt i r d=_
  unfold qiv
  have hi3:i<=3:=by omega
  have h3:(256 ^ i:Nat)<=16777216:=zca (zcn (by omega) hi3) (by decide)
  have hh:((256:Int) ^ i)=((256 ^ i:Nat):Int):=by rw[zdm];rfl
  have h4:n<16777216:=by rw[hh] at hn1;generalize 256 ^ i=z at*;omega
  refine qae (fun h=> ?_) fun h=> ?_
  ·cases r with
   | nil=>
    refine qaj hr (qaj rfl ?_)
    rw[h0,if_pos (by simp;omega)]
   | cons x r=>
    have hx:=qa2 hr (i:=0) (x:=x) rfl
    extract_lets x4 r5 r6 x7 x8
    have e4:x4=n*256:=(i64_in (n*2 ^ 8) (by omega)).trans (by omega)
    refine qaj hr (xbaf rfl ?_)
    have e7:x7=n*256+x:=by
     show IntKind.i64.wrap ((BitVec.ofInt 64 x4||| BitVec.ofInt 64 x).toNat)=_
     rw[e4,xbw5 hn0 (by omega) hx.1 hx.2]
     exact i64_in _ (by omega)
    have e8:x8=((i+1:Nat):Int):=(i64_in ((i:Int)+1) (by omega)).trans (by omega)
    rw[e7,e8]
    refine(xbv2 k0 k1 F0 F1 h0 c cnt h1 hcnt f (i+1) _ r6 d (qbu hr) (by omega) (by omega) (by omega) (by rw[zds];omega)).trans ?_
    show(if(r.length:Int)<cnt - ((i+1:Nat):Int) then _ else F1 ((r.take (cnt - ((i+1:Nat):Int)).toNat).foldl _ _) (r.drop (cnt - ((i+1:Nat):Int)).toNat) d)=_
    obtain⟨m,hm⟩: ∃m:Nat,(cnt - (i:Int)).toNat=m+1:=⟨(cnt - (i:Int)).toNat - 1,by omega⟩
    have hm':(cnt - ((i+1:Nat):Int)).toNat=m:=by omega
    rw[hm,hm',zb6,zbf,zch]
    by_cases hlt:(r.length:Int)<cnt - ((i+1:Nat):Int)
    ·rw[if_pos hlt,if_pos (by simp;omega)]
    ·rw[if_neg hlt,if_neg (by simp;omega)]
  ·rw[h1,if_neg (by omega),show(cnt - (i:Int)).toNat=0 by omega]
   rfl
theorem xbqt {t:List Int} (ht: ∀x∈t,0<=x/\x<=255) {j:Nat} (hj:1<=j) (hj3:j<=3) (hl:j<=t.length):qax (qa1 (t.take j))=1+j↔ ¬(t.headD 0=0\/qa1 (t.take j)<128):=by
 have hall: ∀(i:Nat) (x:Int),t[i]? =some x->0<=x/\x<=255:=fun i x h=>ht x (zac h)
 unfold qax
 match j,hj,hj3,t,hl,hall with
 | 1,_,_,x::t,_,hall=>
  have:=hall 0 x rfl
  simp only[zb6,zdx,qa1,zbf,List.foldl_nil,zbv]
  repeat' split
  all_goals omega
 | 2,_,_,x::y::t,_,hall=>
  have:=hall 0 x rfl
  have:=hall 1 y rfl
  simp only[zb6,zdx,qa1,zbf,List.foldl_nil,zbv]
  repeat' split
  all_goals omega
 | 3,_,_,x::y::z::t,_,hall=>
  have:=hall 0 x rfl
  have:=hall 1 y rfl
  have:=hall 2 z rfl
  simp only[zb6,zdx,qa1,zbf,List.foldl_nil,zbv]
  repeat' split
  all_goals omega
 | 2,_,_,[x],hl,_=>simp at hl
 | 3,_,_,[x],hl,_=>simp at hl
 | 3,_,_,[x,y],hl,_=>simp at hl
theorem qdd (c:Int) (t:List Int):qac (c::t)=if c<128 then(c,1) else if c=128\/131<c\/(t.length:Int)<c - 128 then(0,0)
  else if t.headD 0=0\/qa1 (t.take (c - 128).toNat)<128 then(0,0) else(qa1 (t.take (c - 128).toNat),1+(c - 128)):=rfl
theorem xbt9 (l:List Int) (d:Int) (hp:qad l=true):xbfh l d=(Tree.ite (!(qpm l)) (.leaf (.pan (.iface 85 (.agg [.int .i64 1])) [some ⟨.var [.cl (.sli .u8 (qg4 l)),.cl (.int .i64 d)],false⟩])) (.leaf (.ret [.cl (.int .i64 (qej l).1)] [some ⟨.var [.cl (.sli .u8 (qej l).2),.cl (.int .i64 d)],false⟩]))).eval:=by
 unfold xbfh qpm qg4 qej
 simp only[qab,Bool.not_not]
 refine qaj hp ?_
 match l,hp with
 | [],_=>rfl
 | c::t,hp=>
  have hc:=qa2 hp (i:=0) (x:=c) rfl
  have hl:=(qam hp).1
  have ht:=(qam (qbu hp)).2
  have hbt:=qbu hp
  simp only[zbr] at ht hbt
  simp only[zad] at hl
  simp only[List.isEmpty_cons,cond_false,zbv,zbr,cond_true]
  have hR:qkd (c::t)=if c=128\/131<c then t else t.drop (c - 128).toNat:=rfl
  refine qae (fun h=> ?_) fun h=> ?_
  ·have hD:qac (c::t)=(c,1):=by rw[qdd,if_pos h]
   rw[hD]
   rfl
  ·have hbad:(c=128\/131<c)->some (Out.pan (.iface 85 (.agg [.int .i64 1])) [some ⟨.var [.cl (.sli .u8 t),.cl (.int .i64 d)],false⟩])=(Tree.ite (decide ((qac (c::t)).2=0)) (.leaf (.pan (.iface 85 (.agg [.int .i64 1])) [some ⟨.var [.cl (.sli .u8 (qkd (c::t))),.cl (.int .i64 d)],false⟩])) (.leaf (.ret [.cl (.int .i64 (qac (c::t)).1)] [some ⟨.var [.cl (.sli .u8 ((c::t).drop (qac (c::t)).2.toNat)),.cl (.int .i64 d)],false⟩]))).eval:=fun hb=>by
    have hD:qac (c::t)=(0,0):=by rw[qdd,if_neg h,if_pos (show c=128\/131<c\/(t.length:Int)<c - 128 by omega)]
    rw[hD,hR,if_pos hb]
    rfl
   refine qae (fun h1=>qae (fun h2=> ?_) fun h2=>hbad (by omega)) fun h1=>hbad (by omega)
   rw[show IntKind.i64.wrap (c - 128)=c - 128 from i64_in _ (by omega)]
   obtain⟨j,hj⟩: ∃j:Nat,c - 128=j:=⟨(c - 128).toNat,by omega⟩
   have key:=xbv2 (fun _ _ _ _ _ _ y10 y11=>some (.pan (.iface 85 (.agg [.int .i64 1])) [some ⟨.var [.cl (.sli .u8 y10),.cl (.int .i64 y11)],false⟩]))
    (fun y12 y13 _ _ y16 y17=>cond (decide (qb6 y13=IntKind.i64.wrap (IntKind.i64.wrap ((1:Int)+y12) - 128))) (zR [.cl (.int .i64 y13)] [some ⟨.var [.cl (.sli .u8 y16),.cl (.int .i64 y17)],false⟩]) (some (.pan (.iface 85 (.agg [.int .i64 1])) [some ⟨.var [.cl (.sli .u8 y16),.cl (.int .i64 y17)],false⟩])))
    (fun y10 y11=>some (.pan (.iface 85 (.agg [.int .i64 1])) [some ⟨.var [.cl (.sli .u8 y10),.cl (.int .i64 y11)],false⟩]))
    (fun y13 y16 y17=>cond (decide (qb6 y13=IntKind.i64.wrap (IntKind.i64.wrap ((1:Int)+c) - 128))) (zR [.cl (.int .i64 y13)] [some ⟨.var [.cl (.sli .u8 y16),.cl (.int .i64 y17)],false⟩]) (some (.pan (.iface 85 (.agg [.int .i64 1])) [some ⟨.var [.cl (.sli .u8 y16),.cl (.int .i64 y17)],false⟩])))
    (fun _ _ _ _ _ _ _ _=>rfl) c (c - 128) (fun _ _ _ _=>rfl) (by omega) FUEL 0 0 t d hbt (by omega) (by unfold FUEL;omega) (by omega) (by decide)
   refine zdw key ?_
   rw[show c - 128 - ((0:Nat):Int)=c - 128 by omega]
   simp only[show IntKind.i64.wrap ((1:Int)+c)=1+c from i64_in _ (by omega),show IntKind.i64.wrap (1+c - 128)=1+c - 128 from i64_in _ (by omega),show(c - 128).toNat=j by omega]
   by_cases h5:(t.length:Int)<c - 128
   ·have hD:qac (c::t)=(0,0):=by rw[qdd,if_neg h,if_pos (show c=128\/131<c\/(t.length:Int)<c - 128 by omega)]
    rw[if_pos h5,hD,hR,if_neg (show ¬(c=128\/131<c) by omega),qdj (by omega)]
    rfl
   ·have hD:qac (c::t)=if t.headD 0=0\/qa1 (t.take j)<128 then(0,0) else(qa1 (t.take j),1+(c - 128)):=by
     rw[qdd,if_neg h,if_neg (show ¬(c=128\/131<c\/(t.length:Int)<c - 128) by omega),show(c - 128).toNat=j by omega]
    rw[if_neg h5]
    have hs:=xbqt ht (j:=j) (by omega) (by omega) (by omega)
    unfold qb6
    simp only[qab]
    rw[show(t.take j).foldl (fun n x=>n*256+x) 0=qa1 (t.take j) from rfl]
    by_cases h6:t.headD 0=0\/qa1 (t.take j)<128
    ·rw[if_pos h6] at hD
     rw[hD,hR,if_neg (show ¬(c=128\/131<c) by omega),show(c - 128).toNat=j by omega]
     refine qb2 (fun e=> ?_) rfl
     exact hs.1 (by omega) h6
    ·rw[if_neg h6] at hD
     rw[hD]
     refine qan (by have:=hs.2 h6;omega) ?_
     show _=(Tree.ite (decide (1+(c - 128)=0)) _ _).eval
     rw[show(decide (1+(c - 128)=0))=false from decide_eq_false (by omega),show(1+(c - 128)).toNat=j+1 by omega,zch]
     rfl
open IntWalk (i64_in u8_in u32_in u64_in i64_quo u8_quo rem_in)
theorem xb1i (b:List Int):decide (qbo [] b<0)=decide (0<b.length):=by
 cases b with
 | nil=>rfl
 | cons x r=>simp[qbo]
theorem xbrp (a:List Int):decide (qbo a []<0)=false:=by
 cases a with
 | nil=>rfl
 | cons x r=>simp[qbo]
theorem xblm (a b:List Int) (hb:a.length<=100000000): ∀(f i:Nat),i<=a.length->i<=b.length->a.length<f+i->
  qki (fun _ _ y3 _ _ _ _ _ _ _ _ _ _ _ _ _ _ _ _ _ _ _ _ _ _ _ _ _ _ _ _ _ _=>zB y3) (fun y34 y35 _ _ _ _ _ _ _ _ _=>zB (decide ((y34.length:Int)<(y35.length:Int)))) (fun y45 y46 _ _ _ _ _=>zB (decide ((y45.length:Int)<(y46.length:Int)))) f a b i=
   zB (decide (qbo (a.drop i) (b.drop i)<0))
 | 0,i,hi,hi',hf=>by omega
 | f+1,i,hi,hi',hf=>by
  show qlk (qki (fun _ _ y3 _ _ _ _ _ _ _ _ _ _ _ _ _ _ _ _ _ _ _ _ _ _ _ _ _ _ _ _ _ _=>zB y3) (fun y34 y35 _ _ _ _ _ _ _ _ _=>zB (decide ((y34.length:Int)<(y35.length:Int)))) (fun y45 y46 _ _ _ _ _=>zB (decide ((y45.length:Int)<(y46.length:Int)))) f) _ _ _ a b i=_
  unfold qlk
  refine qae (fun h=>qae (fun h'=> ?_) fun h'=>qat ?_) fun h=>qat ?_
  ·obtain⟨x,hx⟩:=qbs (b:=a) (i:=i) (by omega)
   obtain⟨y,hy⟩:=qbs (b:=b) (i:=i) (by omega)
   refine qan (by omega) (qan h ?_)
   rw[show(i:Int).toNat=i from rfl,hx,zai]
   refine qan (by omega) (qan h' ?_)
   rw[hy,zai,qcm hx,qcm hy]
   refine qas (fun hne=>qan (by omega) (qan h ?_)) fun he=> ?_
   ·rw[zai]
    refine qan (by omega) (qan h' ?_)
    rw[zai]
    refine qat ?_
    unfold qbo
    by_cases hlt:x<y
    ·rw[if_pos hlt];simp[hlt]
    ·rw[if_neg hlt,if_pos (by omega)];simp[hlt]
   ·subst he
    rw[show IntKind.i64.wrap ((i:Int)+1)=((i+1:Nat):Int) from(i64_in _ (by omega)).trans (by omega)]
    refine(xblm a b hb f (i+1) (by omega) (by omega) (by omega)).trans (qat ?_)
    conv=>rhs;unfold qbo
    rw[if_neg (by omega),if_neg (by omega)]
  ·rw[qdj (b:=b) (by omega),xbrp]
   exact decide_eq_false (by omega)
  ·rw[qdj (b:=a) (by omega),xb1i,zaq,zbg]
   simp only[decide_eq_true_eq]
   omega
theorem xbu7 (a b:List Int) (hp:qcc a=true):xbl4 a b=zB (qec a b):=by
 unfold xbl4 qec
 simp only[qab]
 exact xblm a b (qeg hp) FUEL 0 (by omega) (by omega) (by have:=qeg hp;unfold FUEL;omega)
theorem qld {l:List CV} (h:qh2 l=true):l.length<=1000000/\∀(i:Nat) (e:CV),l[i]? =some e->∃x,e=.sli .u8 x/\qad x=true:=by
 unfold qh2 at h
 rw[qab] at h
 simp only[zab,decide_eq_true_eq,zaj] at h
 refine⟨h.1,fun i e he=> ?_⟩
 have:=h.2 e (zac he)
 unfold xbw8 at this
 split at this
 ·rename_i l'
  refine⟨l',rfl, ?_⟩
  unfold rowB at this
  simp only[zab,decide_eq_true_eq,zaj] at this
  exact qc5 this.1 fun x hx=>qj6 (this.2 x hx)
 ·cases this
theorem q02 {l:List CV} {i:Nat} {a b:List Int} (h1:l[i]? =some (.sli .u8 a)) (h2:l[i+1]? =some (.sli .u8 b)):qa5 ((l.map qby).drop i)=(decide (qbo a b<=0)&&qa5 ((l.map qby).drop (i+1))):=by
 have e1:(l.map qby)[i]? =some a:=by rw[zah,h1];rfl
 have e2:(l.map qby)[i+1]? =some b:=by rw[zah,h2];rfl
 have d: ∀ {l:List (List Int)} {i:Nat} {x:List Int},l[i]? =some x->l.drop i=x::l.drop (i+1):=fun {l i x} h=>by
  obtain⟨hlt,e⟩:=zae.1 h
  rw[zbw hlt,e]
 rw[d e1,d e2]
 rfl
theorem qz4 {l:List CV} {i:Nat} (h:l.length<=i+1):qa5 ((l.map qby).drop i)=true:=by
 have:((l.map qby).drop i).length<=1:=by simp;omega
 match (l.map qby).drop i,this with
 | [],_=>rfl
 | [_],_=>rfl
 | _::_::_,h=>simp at h
theorem xbdy: ∀(a b:List Int),decide (qbo b a<0)= !(decide (qbo a b<=0))
 | [],[]=>rfl
 | [],_::_=>by simp[qbo]
 | _::_,[]=>by simp[qbo]
 | x::a,y::b=>by
  unfold qbo
  by_cases h1:x<y
  ·rw[if_pos h1,if_neg (by omega),if_pos h1];simp
  ·by_cases h2:y<x
   ·rw[if_pos h2,if_neg h1,if_pos h2];simp
   ·rw[if_neg h1,if_neg h2,if_neg h2,if_neg h1];exact xbdy a b
theorem xb66 (l:List CV) (hok:qh2 l=true): ∀(f i:Nat),l.length<f+i->qgj (fun _ _ _ _ _ _ _ _ _ _ _ _ _ _ _ _=>zB false) (fun _ _ _ _ _=>zB true) f l ((i+1:Nat):Int)=zB (qa5 ((l.map qby).drop i))\/f=0
 | 0,i,hf=>.inr rfl
 | f+1,i,hf=>by
  left
  obtain⟨hl,hr⟩:=qld hok
  show qg0 (qgj (fun _ _ _ _ _ _ _ _ _ _ _ _ _ _ _ _=>zB false) (fun _ _ _ _ _=>zB true) f) _ _ l ((i+1:Nat):Int)=_
  unfold qg0
  refine qae (fun h=>qan (by omega) (qan h ?_)) fun h=>qat ?_
  ·obtain⟨e1,he1⟩:=qbs (b:=l) (i:=i) (by omega)
   obtain⟨e2,he2⟩:=qbs (b:=l) (i:=i+1) (by omega)
   obtain⟨x,rfl,hx⟩:=hr _ _ he1
   obtain⟨y,rfl,hy⟩:=hr _ _ he2
   rw[show((i+1:Nat):Int).toNat=i+1 from rfl,he2,zai]
   refine qaj rfl ?_
   rw[show IntKind.i64.wrap (((i+1:Nat):Int) - 1)=(i:Int) from(i64_in _ (by omega)).trans (by omega)]
   refine qan (by omega) (qan (by omega) ?_)
   rw[show(i:Int).toNat=i from rfl,he1,zai]
   refine qaj rfl (qaj (qfq (by have:=(qam hy).1;show y.length<=_;omega)) ?_)
   show cond (qec y x) _ _=_
   rw[q02 he1 he2]
   unfold qec
   rw[qab,xbdy x y]
   cases decide (qbo x y<=0) with
   | true=>
    simp only[zc0,cond_false,zbm]
    rw[show IntKind.i64.wrap (((i+1:Nat):Int)+1)=((i+1+1:Nat):Int) from(i64_in _ (by omega)).trans (by omega)]
    exact(xb66 l hok f (i+1) (by omega)).resolve_right (by omega)
   | false=>rfl
  ·rw[qz4 (by omega)]
theorem xbk1 (l:List CV) (hp:qh2 l=true):q6f l=zB (qbt l):=by
 unfold q6f qbt
 simp only[qab]
 exact(xb66 l hp FUEL 0 (by have:=(qld hp).1;unfold FUEL;omega)).resolve_right (by unfold FUEL;omega)
theorem xbjk (a b:List Int) (hp:(qad a&&qad b)=true):q6d a b=zI (qha a b):=by
 unfold q6d
 exact qaj hp rfl
theorem xb5d (a b:List Int) (hp:(qad a&&qad b)=true):xbxs a b=zB (decide (qha a b<=0)):=by
 unfold xbxs
 exact qaj hp rfl
theorem xb62 (l:List CV) (hok:qh2 l=true): ∀(f i:Nat),l.length<f+i->qj5 (fun _ _ _ _ _ _ _ _ _ _ _ _ _ _ _ _ _=>zB false) (fun _ _ _ _ _=>zB true) f l ((i+1:Nat):Int)=zB (qa5 ((l.map qby).drop i))\/f=0
 | 0,i,hf=>.inr rfl
 | f+1,i,hf=>by
  left
  obtain⟨hl,hr⟩:=qld hok
  show qln (qj5 (fun _ _ _ _ _ _ _ _ _ _ _ _ _ _ _ _ _=>zB false) (fun _ _ _ _ _=>zB true) f) _ _ l ((i+1:Nat):Int)=_
  unfold qln
  refine qae (fun h=> ?_) fun h=>qat ?_
  ·obtain⟨e1,he1⟩:=qbs (b:=l) (i:=i) (by omega)
   obtain⟨e2,he2⟩:=qbs (b:=l) (i:=i+1) (by omega)
   obtain⟨x,rfl,hx⟩:=hr _ _ he1
   obtain⟨y,rfl,hy⟩:=hr _ _ he2
   rw[show IntKind.i64.wrap (((i+1:Nat):Int) - 1)=(i:Int) from(i64_in _ (by omega)).trans (by omega)]
   refine qan (by omega) (qan (by omega) ?_)
   rw[show(i:Int).toNat=i from rfl,he1,zai]
   refine qaj rfl (qan (by omega) (qan h ?_))
   rw[show((i+1:Nat):Int).toNat=i+1 from rfl,he2,zai]
   refine qaj rfl (qaj (by show(qad x&&qad y)=true;rw[hx,hy];rfl) ?_)
   show cond (!(decide (qha x y<=0))) _ _=_
   rw[q02 he1 he2]
   unfold qha
   rw[qab]
   cases decide (qbo x y<=0) with
   | true=>
    simp only[zc0,cond_false,zbm]
    rw[show IntKind.i64.wrap (((i+1:Nat):Int)+1)=((i+1+1:Nat):Int) from(i64_in _ (by omega)).trans (by omega)]
    exact(xb62 l hok f (i+1) (by omega)).resolve_right (by omega)
   | false=>rfl
  ·rw[qz4 (by omega)]
theorem xbw6 (l:List CV) (hp:qh2 l=true):xblw l=zB (qbt l):=by
 unfold xblw qbt
 simp only[qab]
 exact(xb62 l hp FUEL 0 (by have:=(qld hp).1;unfold FUEL;omega)).resolve_right (by unfold FUEL;omega)
theorem xbqq (l:List CV) (hp:qh2 l=true):xbcs l=zB (qbt l):=by
 unfold xbcs
 exact qaj hp rfl
open IntWalk (i64_in u8_in u32_in u64_in i64_quo u8_quo rem_in)
theorem qel (c:Int) (r:List Int):qdi (c::r)=if c<128 then 1
  else if 194<=c/\c<=223/\u8At r 0=true then 2
  else if 224<=c/\c<=239/\u8At r 0=true/\u8At r 1=true/\(c=224->160<=r.headD 0)/\(c=237->r.headD 0<160) then 3
  else if 240<=c/\c<=244/\u8At r 0=true/\u8At r 1=true/\u8At r 2=true/\(c=240->144<=r.headD 0)/\(c=244->r.headD 0<144) then 4
  else 0:=rfl
set_option maxHeartbeats 4000000 in
theorem xb3e (b:List Int) (i:Int) (hp:(qad b&&decide (0<=i/\i<b.length))=true):xb0c b i=zI (u8Rune b i):=by
 simp only[zab,decide_eq_true_eq] at hp
 obtain⟨hb,hi0,hi1⟩:=hp
 have hl:=(qam hb).1
 obtain⟨c,hc⟩:=qbs (b:=b) (i:=i.toNat) (by omega)
 have hcr:=qa2 hb hc
 have hdrop:=qcm hc
 have hat: ∀k:Nat,b[i.toNat+1+k]? =(b.drop (i.toNat+1))[k]? :=fun k=>by rw[zbk]
 generalize ht:b.drop (i.toNat+1)=t at*
 have huc: ∀k:Nat,u8Cont b (i+((k+1:Nat):Int))=u8At t k:=fun k=>by
  unfold u8Cont u8At
  rw[qab,show(i+((k+1:Nat):Int)).toNat=i.toNat+1+k by omega,hat]
 have w1:IntKind.i64.wrap (i+1)=i+1:=i64_in _ (by omega)
 have w2:IntKind.i64.wrap (i+2)=i+2:=i64_in _ (by omega)
 have w3:IntKind.i64.wrap (i+3)=i+3:=i64_in _ (by omega)
 have u1:u8Cont b (i+1)=u8At t 0:=huc 0
 have u2:u8Cont b (i+2)=u8At t 1:=huc 1
 have u3:u8Cont b (i+3)=u8At t 2:=huc 2
 unfold u8Rune
 rw[qab,hdrop,qel]
 unfold xb0c qg7 qfj
 simp only[getK,idxK,qab,hc,zai,w1,w2,w3,u1,u2,u3]
 refine qan hi0 (qan hi1 (qan (by omega) ?_))
 cases ha0:u8At t 0 with
 | false=>
  simp only[cond_false,zam,and_false,false_and,if_false]
  repeat' (refine qae (fun _=> ?_) fun _=> ?_)
  all_goals first
   | (refine ql6 ?_;(repeat' split)<;>omega)
   | omega
 | true=>
  obtain⟨y,t',rfl⟩: ∃y t',t=y::t':=by
   cases t with
   | nil=>simp[u8At] at ha0
   | cons y t'=>exact⟨y,t',rfl⟩
  have hy:b[(i+1).toNat]? =some y:=by
   have:=hat 0
   rw[show(i+1).toNat=i.toNat+1+0 by omega,this];rfl
  have hy1:i+1<b.length:=by
   have:=(zae.1 hy).1
   omega
  simp only[cond_true,hy,zai,zbv,true_and,and_true]
  refine qan (by omega) ?_
  cases ha1:u8At (y::t') 1 with
  | false=>
   simp only[cond_false,zam,and_false,false_and,if_false]
   repeat' (refine qae (fun _=> ?_) fun _=> ?_)
   all_goals first
    | (refine ql6 ?_;(repeat' split)<;>omega)
    | omega
  | true=>
   simp only[cond_true,true_and]
   cases ha2:u8At (y::t') 2 with
   | false=>
    simp only[cond_false,zam,and_false,false_and,if_false]
    repeat' (first|refine qae (fun _=> ?_) fun _=> ?_|refine qas (fun _=> ?_) fun _=> ?_)
    all_goals first
     | (refine ql6 ?_;(repeat' split)<;>omega)
     | omega
   | true=>
    simp only[cond_true,true_and]
    repeat' (first|refine qae (fun _=> ?_) fun _=> ?_|refine qas (fun _=> ?_) fun _=> ?_)
    all_goals first
     | (refine ql6 ?_;(repeat' split)<;>omega)
     | omega
theorem q3m (l:List Int):0<=qdi l/\qdi l<=l.length/\(qdi l=0->∀c r,l=c::r-> ¬c<128):=by
 have hlt: ∀(l:List Int) (k:Nat),u8At l k=true->k<l.length:=fun l k h=>by
  unfold u8At at h
  split at h
  ·rename_i x hx;exact(zae.1 hx).1
  ·cases h
 cases l with
 | nil=>exact⟨by simp[qdi],by simp[qdi],fun _ c r h=>by cases h⟩
 | cons c r=>
  rw[qel]
  by_cases h1:c<128
  ·rw[if_pos h1];exact⟨by omega,by simp;omega,fun h=>by omega⟩
  ·rw[if_neg h1]
   split
   ·rename_i h;have:=hlt _ _ h.2.2;exact⟨by omega,by simp only[zad];omega,fun h=>by omega⟩
   ·split
    ·rename_i h;have:=hlt _ _ h.2.2.2.1;exact⟨by omega,by simp only[zad];omega,fun h=>by omega⟩
    ·split
     ·rename_i h;have:=hlt _ _ h.2.2.2.2.1;exact⟨by omega,by simp only[zad];omega,fun h=>by omega⟩
     ·exact⟨by omega,by simp only[zad];omega,fun _ c' r' e=>by cases e;exact h1⟩
theorem qz3: ∀(n m:Nat) (l:List Int),l.length<=n->l.length<=m->qi2 n l=qi2 m l
 | 0,0,l,_,_=>rfl
 | 0,m+1,l,h,_=>by
  have:l=[]:=zau (by omega)
  subst this
  simp[qi2]
 | n+1,0,l,_,h=>by
  have:l=[]:=zau (by omega)
  subst this
  simp[qi2]
 | n+1,m+1,l,h1,h2=>by
  unfold qi2
  by_cases h:l=[]
  ·rw[if_pos h,if_pos h]
  ·rw[if_neg h,if_neg h]
   by_cases h0:qdi l=0
   ·rw[if_pos h0,if_pos h0]
   ·rw[if_neg h0,if_neg h0]
    have:=q3m l
    exact qz3 n m _ (by simp only[zaq];omega) (by simp only[zaq];omega)
theorem qj4 (l:List Int):qcn l=if l=[] then true else if qdi l=0 then false else qcn (l.drop (qdi l).toNat):=by
 unfold qcn
 cases l with
 | nil=>simp[qi2]
 | cons c r=>
  rw[if_neg (by simp)]
  conv=>lhs;rw[zad];unfold qi2
  rw[if_neg (by simp)]
  by_cases h0:qdi (c::r)=0
  ·rw[if_pos h0,if_pos h0]
  ·rw[if_neg h0,if_neg h0]
   have:=q3m (c::r)
   exact qz3 _ _ _ (by simp only[zaq,zad];omega) (zar _)
theorem xb00 (b:List Int) (hb:qad b=true): ∀(f i:Nat),i<=b.length->b.length<f+i->
  qng (fun _ _ _ _ _ _ _ _ _ _=>zB false) (fun _ _ _ _ _=>zB true) f b i=zB (qcn (b.drop i))
 | 0,i,hi,hf=>by omega
 | f+1,i,hi,hf=>by
  show qmu (qng (fun _ _ _ _ _ _ _ _ _ _=>zB false) (fun _ _ _ _ _=>zB true) f) _ _ b i=_
  unfold qmu
  have hl:=(qam hb).1
  refine qae (fun h=>qaj ?_ ?_) fun h=>qat ?_
  ·simp only[zab,decide_eq_true_eq];exact⟨hb,by omega,by omega⟩
  ·extract_lets r1 x2
   have hr:=q3m (b.drop i)
   have e1:r1=qdi (b.drop i):=by show u8Rune b i=_;unfold u8Rune;rw[qab];rfl
   rw[zaq] at hr
   rw[qj4,if_neg (by intro e;have:=congrArg List.length e;simp at this;omega)]
   refine qae (fun h0=>qat ?_) fun h0=> ?_
   ·rw[if_pos (by omega)]
   ·rw[if_neg (by omega)]
    have e2:x2=((i+(qdi (b.drop i)).toNat:Nat):Int):=(i64_in ((i:Int)+r1) (by omega)).trans (by omega)
    rw[e2]
    refine(xb00 b hb f _ (by omega) (by omega)).trans ?_
    rw[List.drop_drop]
  ·rw[qdj (by omega)];rfl
theorem xb3s (b:List Int) (hp:qad b=true):xbu1 b=zB (u8Valid b):=by
 unfold xbu1 u8Valid
 simp only[qab]
 exact xb00 b hp FUEL 0 (by omega) (by have:=(qam hp).1;unfold FUEL;omega)
open IntWalk (i64_in u8_in u32_in u64_in i64_quo u8_quo rem_in)
theorem q6l {n:Nat} (h:n<2 ^ 64):(BitVec.ofInt 64 (n:Int)).toNat=n:=by
 rw[zcl];omega
theorem orN {a b:Nat} (ha:a<2 ^ 64) (hb:b<2 ^ 64):IntKind.u64.wrap ((BitVec.ofInt 64 (a:Int)||| BitVec.ofInt 64 (b:Int)).toNat)=((a||| b:Nat):Int):=by
 rw[zdu,q6l ha,q6l hb]
 have:=za7 ha hb
 exact u64_in _ (by omega)
theorem andN {a b:Nat} (ha:a<2 ^ 64) (hb:b<2 ^ 64):IntKind.u64.wrap ((BitVec.ofInt 64 (a:Int)&&&BitVec.ofInt 64 (b:Int)).toNat)=((a&&&b:Nat):Int):=by
 rw[BitVec.toNat_and,q6l ha,q6l hb]
 have:a&&&b<=a:=Nat.and_le_left
 exact u64_in _ (by omega)
theorem xb44 (b:List Int) (hp:(qad b&&decide (8<=b.length))=true):xbyl b=zR [.cl (.int .u64 (u8Word b))] []:=by
 simp only[zab,decide_eq_true_eq] at hp
 obtain⟨hb,hl⟩:=hp
 match b,hl,hb with
 | x0::x1::x2::x3::x4::x5::x6::x7::r,_,hb=>
  have r0:=qa2 hb (i:=0) (x:=x0) rfl
  have r1:=qa2 hb (i:=1) (x:=x1) rfl
  have r2:=qa2 hb (i:=2) (x:=x2) rfl
  have r3:=qa2 hb (i:=3) (x:=x3) rfl
  have r4:=qa2 hb (i:=4) (x:=x4) rfl
  have r5:=qa2 hb (i:=5) (x:=x5) rfl
  have r6:=qa2 hb (i:=6) (x:=x6) rfl
  have r7:=qa2 hb (i:=7) (x:=x7) rfl
  obtain⟨n0,rfl⟩: ∃n:Nat,x0=n:=⟨x0.toNat,by omega⟩
  obtain⟨n1,rfl⟩: ∃n:Nat,x1=n:=⟨x1.toNat,by omega⟩
  obtain⟨n2,rfl⟩: ∃n:Nat,x2=n:=⟨x2.toNat,by omega⟩
  obtain⟨n3,rfl⟩: ∃n:Nat,x3=n:=⟨x3.toNat,by omega⟩
  obtain⟨n4,rfl⟩: ∃n:Nat,x4=n:=⟨x4.toNat,by omega⟩
  obtain⟨n5,rfl⟩: ∃n:Nat,x5=n:=⟨x5.toNat,by omega⟩
  obtain⟨n6,rfl⟩: ∃n:Nat,x6=n:=⟨x6.toNat,by omega⟩
  obtain⟨n7,rfl⟩: ∃n:Nat,x7=n:=⟨x7.toNat,by omega⟩
  unfold xbyl u8Word xbnp
  simp only[qab,zao,zaz,zai,zad,List.getD_cons_zero,List.getD_cons_succ,Int.toNat_natCast]
  have w: ∀n:Nat,n<=255->IntKind.u64.wrap (n:Int)=(n:Int):=fun n h=>u64_in _ (by omega)
  have sh: ∀(n k:Nat),n<=255->k<=56->IntKind.u64.wrap ((n:Int)*2 ^ k)=((n*2 ^ k:Nat):Int):=fun n k h hk=>by
   have h2:2 ^ k<=2 ^ 56:=zcn (by omega) hk
   have h3:n*2 ^ k<=255*2 ^ 56:=zdh h h2
   have e:((n:Int)*2 ^ k)=((n*2 ^ k:Nat):Int):=by rw[Int.natCast_mul,zdm];rfl
   rw[e]
   exact u64_in _ (by omega)
  have lt: ∀(n k:Nat),n<=255->k<=56->n*2 ^ k<2 ^ 64:=fun n k h hk=>by
   have h2:2 ^ k<=2 ^ 56:=zcn (by omega) hk
   have h3:n*2 ^ k<=255*2 ^ 56:=zdh h h2
   omega
  have p0:n0<2 ^ 64:=by omega
  have p1:=za7 p0 (lt n1 8 (by omega) (by omega))
  have p2:=za7 p1 (lt n2 16 (by omega) (by omega))
  have p3:=za7 p2 (lt n3 24 (by omega) (by omega))
  have p4:=za7 p3 (lt n4 32 (by omega) (by omega))
  have p5:=za7 p4 (lt n5 40 (by omega) (by omega))
  have p6:=za7 p5 (lt n6 48 (by omega) (by omega))
  rw[w n0 (by omega),w n1 (by omega),w n2 (by omega),w n3 (by omega),w n4 (by omega),w n5 (by omega),w n6 (by omega),w n7 (by omega)]
  rw[sh n1 8 (by omega) (by omega),sh n2 16 (by omega) (by omega),sh n3 24 (by omega) (by omega),sh n4 32 (by omega) (by omega),sh n5 40 (by omega) (by omega),sh n6 48 (by omega) (by omega),sh n7 56 (by omega) (by omega)]
  rw[orN p0 (lt n1 8 (by omega) (by omega)),orN p1 (lt n2 16 (by omega) (by omega)),orN p2 (lt n3 24 (by omega) (by omega)),orN p3 (lt n4 32 (by omega) (by omega)),orN p4 (lt n5 40 (by omega) (by omega)),orN p5 (lt n6 48 (by omega) (by omega)),orN p6 (lt n7 56 (by omega) (by omega))]
  exact qan (by omega) (qan (by omega) (qan (by omega) (qan (by omega) (qan (by omega) (qan (by omega) (qan (by omega) (qan (by omega) rfl)))))))
def MASK:Nat:=9259542123273814144
theorem qj1 {a b:Nat}:(a||| b)&&&MASK=0↔a&&&MASK=0/\b&&&MASK=0:=by
 rw[Nat.and_or_distrib_right]
 constructor
 ·intro h
  have h1:a&&&MASK<=(a&&&MASK)||| (b&&&MASK):=Nat.left_le_or
  have h2:b&&&MASK<=(a&&&MASK)||| (b&&&MASK):=Nat.right_le_or
  omega
 ·rintro⟨h1,h2⟩
  rw[h1,h2];rfl
theorem xbiu: ∀k:Fin 8, ∀n:Fin 256,((n.val*2 ^ (8*k.val))&&&MASK=0)=(n.val<128):=by decide+kernel
def xbgd (k:Nat) (l:List Int):Prop:=k<=l.length/\∀i x,i<k->l[i]? =some x->x<128
theorem qn2: ∀(k:Nat) (l:List Int),xbgd k l->qcn (l.drop k)=qcn l
 | 0,l,_=>rfl
 | k+1,l,h=>by
  match l,h with
  | [],h=>have:=h.1;simp at this
  | c::r,h=>
   have hc:c<128:=h.2 0 c (by omega) rfl
   rw[qj4 (c::r),if_neg (by simp),qel,if_pos hc,if_neg (by omega)]
   exact qn2 k r ⟨by have:=h.1;simp at this;omega,fun i x hi hx=>h.2 (i+1) x (by omega) (by simpa using hx)⟩
theorem qi3 {l:List Int} (hb:qad l=true) (hl:8<=l.length): ∃N:Nat,u8Word l=N/\N<2 ^ 64/\(N&&&MASK=0->xbgd 8 l):=by
 unfold u8Word
 rw[qab]
 refine⟨_,rfl, ?_,fun h=>⟨hl, ?_⟩⟩
 ·have hr: ∀i,(l.getD i 0).toNat<=255:=fun i=>by
   rw[za8]
   cases hx:l[i]? with
   | none=>simp
   | some x=>have:=qa2 hb hx;simp;omega
  have h0:=hr 0;have h1:=hr 1;have h2:=hr 2;have h3:=hr 3;have h4:=hr 4;have h5:=hr 5;have h6:=hr 6;have h7:=hr 7
  exact za7 (za7 (za7 (za7 (za7 (za7 (za7 (by omega) (by omega)) (by omega)) (by omega)) (by omega)) (by omega)) (by omega)) (by omega)
 ·rw[qj1,qj1,qj1,qj1,qj1,qj1,qj1] at h
  obtain⟨⟨⟨⟨⟨⟨⟨a0,a1⟩,a2⟩,a3⟩,a4⟩,a5⟩,a6⟩,a7⟩:=h
  have key: ∀(k:Fin 8) (n:Nat),n<=255->(n*2 ^ (8*k.val))&&&MASK=0->n<128:=fun k n hn h=>by
   have:=xbiu k ⟨n,by omega⟩
   simp only at this
   rw[this] at h
   exact h
  intro i x hi hx
  have hxr:=qa2 hb hx
  have hg:(l.getD i 0).toNat=x.toNat:=by rw[za8,hx];rfl
  match i,hi,hg with
  | 0,_,hg=>rw[hg] at a0;have:=key 0 x.toNat (by omega) (by simpa using a0);omega
  | 1,_,hg=>rw[hg] at a1;have:=key 1 x.toNat (by omega) a1;omega
  | 2,_,hg=>rw[hg] at a2;have:=key 2 x.toNat (by omega) a2;omega
  | 3,_,hg=>rw[hg] at a3;have:=key 3 x.toNat (by omega) a3;omega
  | 4,_,hg=>rw[hg] at a4;have:=key 4 x.toNat (by omega) a4;omega
  | 5,_,hg=>rw[hg] at a5;have:=key 5 x.toNat (by omega) a5;omega
  | 6,_,hg=>rw[hg] at a6;have:=key 6 x.toNat (by omega) a6;omega
  | 7,_,hg=>rw[hg] at a7;have:=key 7 x.toNat (by omega) a7;omega
theorem qqd {j k:Nat} {l:List Int} (h1:xbgd j l) (h2:xbgd k (l.drop j)):xbgd (j+k) l:=by
 refine⟨by have:=h2.1;simp only[zaq] at this;have:=h1.1;omega,fun i x hi hx=> ?_⟩
 by_cases h:i<j
 ·exact h1.2 i x h hx
 ·exact h2.2 (i - j) x (by omega) (by rw[zbk,show j+(i - j)=i by omega];exact hx)
theorem xbf4 (A:List Int->Option Out) (R:Option Out) (L:Nat) (v:Bool) (hA: ∀l,l.length<=L->qad l=true->qcn l=v->A l=R): ∀(f:Nat) (l:List Int),l.length<f->l.length<=L->qad l=true->qcn l=v->
  qlt A f l=R
 | 0,l,h,_,_,_=>by omega
 | f+1,l,hf,hL,hb,hv=>by
  show qmc (qlt A f) A l=R
  unfold qmc
  refine qae (fun h=> ?_) fun h=>hA l hL hb hv
  have b1:=qa6 hb 8
  have b2:=qa6 hb 16
  have b3:=qa6 hb 24
  have l1:8<=(l.drop 8).length:=by simp only[zaq];omega
  have l2:8<=(l.drop 16).length:=by simp only[zaq];omega
  have l3:8<=(l.drop 24).length:=by simp only[zaq];omega
  obtain⟨n0,e0,p0,q0⟩:=qi3 hb (show 8<=l.length by omega)
  obtain⟨n1,e1,p1,q1⟩:=qi3 b1 l1
  obtain⟨n2,e2,p2,q2⟩:=qi3 b2 l2
  obtain⟨n3,e3,p3,q3⟩:=qi3 b3 l3
  have two: ∀(l:List Int),qad l=true->8<=l.length->(qad l&&decide (8<=l.length))=true:=fun l h1 h2=>by rw[h1,decide_eq_true h2];rfl
  refine qaj (two _ hb (by omega)) (qan (by omega) (qaj (two _ b1 l1) (qan (by omega) (qaj (two _ b2 l2) (qan (by omega) (qaj (two _ b3 l3) ?_))))))
  dsimp only
  rw[e0,e1,e2,e3]
  rw[orN p0 p1,orN p2 p3,orN (za7 p0 p1) (za7 p2 p3)]
  rw[show(9259542123273814144:Int)=(MASK:Int) from rfl,andN (za7 (za7 p0 p1) (za7 p2 p3)) (by decide)]
  refine qae (fun hz=>qan (by omega) ?_) fun _=>hA l hL hb hv
  have hz:((n0||| n1)||| (n2||| n3))&&&MASK=0:=by omega
  rw[qj1,qj1,qj1] at hz
  have hasc:=qqd (qqd (qqd (q0 hz.1.1) (q1 hz.1.2)) (q2 hz.2.1)) (q3 hz.2.2)
  exact xbf4 A R L v hA f _ (by simp only[zaq];omega) (by simp only[zaq];omega) (qa6 hb 32) ((qn2 32 l hasc).trans hv)
def xbmm (n s lo hi:Int):Bool:=
 decide ((s=1/\(n<194\/244<n))\/(s=2/\194<=n/\n<=223/\lo=128/\hi=191)\/(s=3/\224<=n/\n<=239/\lo=(if n=224 then 160 else 128)/\hi=(if n=237 then 159 else 191))\/
  (s=4/\240<=n/\n<=244/\lo=(if n=240 then 144 else 128)/\hi=(if n=244 then 143 else 191)))
def tabB (n:Nat):Bool:=match qhh[n]? with
 | some f=>match qk0[(Int.fdiv f (2 ^ 4)).toNat]? with
  | some (.agg [.int .u8 lo,.int .u8 hi])=>decide (0<=Int.fdiv f (2 ^ 4)/\Int.fdiv f (2 ^ 4)<16)&&xbmm n (IntKind.i64.wrap (IntKind.u8.wrap ((BitVec.ofInt 8 f&&&BitVec.ofInt 8 7).toNat))) lo hi
  | _=>false
 | none=>false
theorem xbvh: ∀n:Fin 256,128<=n.val->tabB n.val=true:=by decide+kernel
theorem xb31 {e:Int} (h1:128<=e) (h2:e<=255): ∃f lo hi,u8First[e.toNat]? =some f/\(0<=Int.fdiv f (2 ^ 4)/\Int.fdiv f (2 ^ 4)<16)/\u8Accept[(Int.fdiv f (2 ^ 4)).toNat]? =some (.agg [.int .u8 lo,.int .u8 hi])/\
  xbmm e (IntKind.i64.wrap (IntKind.u8.wrap ((BitVec.ofInt 8 f&&&BitVec.ofInt 8 7).toNat))) lo hi=true:=by
 have h:=xbvh ⟨e.toNat,by omega⟩ (by simp;omega)
 simp only at h
 unfold tabB at h
 unfold u8First u8Accept
 simp only[qab]
 split at h
 ·rename_i f hf
  split at h
  ·rename_i lo hi ha
   simp only[zab,decide_eq_true_eq] at h
   refine⟨f,lo,hi,hf,h.1,ha, ?_⟩
   rw[show e=(e.toNat:Int) by omega]
   exact h.2
  ·cases h
 ·cases h
theorem q6w {l:List Int} {k:Nat} {x:Int} (h:l[k]? =some x):u8At l k=decide (128<=x/\x<192):=by unfold u8At;rw[h]
theorem xb7s: ∀(f:Nat) (l:List Int),l.length<f->qad l=true->qil (zB false) (zB true) f l=zB (qcn l)
 | 0,l,h,_=>by omega
 | f+1,l,hf,hb=>by
  have again: ∀l':List Int,l'.length<l.length->qad l'=true->qcn l'=qcn l->qil (zB false) (zB true) f l'=zB (qcn l):=fun l' h1 h2 h3=>by
   rw[<- h3];exact xb7s f l' (by omega) h2
  show qoz (qil (zB false) (zB true) f) (zB false) (zB true) l=_
  generalize qil (zB false) (zB true) f=ag at again
  have hl:=(qam hb).1
  unfold qoz
  cases l with
  | nil=>exact qb2 (by simp) rfl
  | cons c r=>
  have hc:=qa2 hb (i:=0) (x:=c) rfl
  have hbr:=qbu hb
  simp only[zbr] at hbr
  refine qan (by simp only[zad];omega) (qan (by simp only[zad];omega) ?_)
  simp only[zao,zai]
  refine qae (fun h7=>qan (by simp only[zad];omega) ?_) fun h7=> ?_
  ·
   have hone:qcn r=qcn (c::r):=by
    rw[qj4 (c::r),if_neg (by simp),qel,if_pos h7,if_neg (by omega)];rfl
   rw[List.drop_one,zbr]
   have two: ∀(l:List Int),qad l=true->8<=l.length->(qad l&&decide (8<=l.length))=true:=fun l h1 h2=>by rw[h1,decide_eq_true h2];rfl
   refine qae (fun h8=>qaj (two r hbr (by omega)) ?_) fun _=>again r (by simp) hbr hone
   obtain⟨n0,e0,p0,q0⟩:=qi3 hbr (show 8<=r.length by omega)
   rw[e0,show(9259542123273814144:Int)=(MASK:Int) from rfl,andN p0 (by decide)]
   refine qae (fun hz=>qan (by omega) ?_) fun _=>again r (by simp) hbr hone
   have a0:=q0 (by omega)
   have hd8:=(qn2 8 r a0).trans hone
   have hb8:=qa6 hbr 8
   refine qae (fun h16=> ?_) fun _=>again _ (by simp only[zaq,zad];omega) hb8 hd8
   have hb16:=qa6 hb8 8
   have l1:8<=(List.drop 8 r).length:=by omega
   have l2:8<=(List.drop 8 (List.drop 8 r)).length:=by rw[zaq];omega
   obtain⟨n1,e1,p1,q1⟩:=qi3 hb8 l1
   obtain⟨n2,e2,p2,q2⟩:=qi3 hb16 l2
   refine qaj (two _ hb8 l1) (qan (by omega) (qaj (two _ hb16 l2) ?_))
   rw[e1,e2,orN p1 p2,andN (za7 p1 p2) (by decide)]
   refine qae (fun hz=>qan (by omega) ?_) fun _=>again _ (by simp only[zaq,zad];omega) hb8 hd8
   have hz:(n1||| n2)&&&MASK=0:=by omega
   rw[qj1] at hz
   have a12:=qqd (q1 hz.1) (q2 hz.2)
   have hb24:=qa6 hb8 16
   have hd24:=(qn2 16 _ a12).trans hd8
   rw[qab]
   exact xbf4 ag _ (List.drop 16 (List.drop 8 r)).length (qcn (c::r)) (fun l' h1 h2 h3=>again l' (by simp only[zaq,zad] at h1 ⊢;omega) h2 h3) FUEL _ (by simp only[zad] at hl;simp only[zaq];unfold FUEL;omega) (zar _) hb24 hd24
  ·obtain⟨fv,lo,hi,t1,t2,t3,t4⟩:=xb31 (e:=c) (by omega) hc.2
   refine qan (by omega) (qan (by omega) ?_)
   simp only[t1,zai]
   refine qan t2.1 (qan t2.2 ?_)
   simp only[t3,zai]
   refine qaj rfl ?_
   generalize IntKind.i64.wrap (IntKind.u8.wrap ((BitVec.ofInt 8 fv&&&BitVec.ofInt 8 7).toNat))=s at t4 ⊢
   have t4:=of_decide_eq_true t4
   show cond (decide (s=2)) _ _=_
   simp only[show qfn ((cell1 (CV.agg [.int .u8 lo,.int .u8 hi])).headD .nili)=lo from rfl,show qfn ((cell1 (CV.agg [.int .u8 lo,.int .u8 hi])).tail.headD .nili)=hi from rfl]
   have bad:qdi (c::r)=0->(zB false:Option Out)=zB (qcn (c::r)):=fun h=>by
    rw[qj4 (c::r),if_neg (by simp),if_pos h]
   have good: ∀k:Nat,0<k->qdi (c::r)=k->k<=(c::r).length->ag ((c::r).drop k)=zB (qcn (c::r)):=fun k h0 h hk=>by
    refine again _ (by simp only[zaq,zad] at hk ⊢;omega) (qa6 hb k) ?_
    rw[qj4 (c::r),if_neg (by simp),if_neg (by omega),h]
    rfl
   have hx: ∀k,k<r.length->∃x,r[k]? =some x/\0<=x/\x<=255:=fun k hk=>by
    obtain⟨x,hx⟩:=qbs (b:=r) hk
    exact⟨x,hx,qa2 hbr hx⟩
   have hnone: ∀k,r.length<=k-> ¬u8At r k=true:=fun k hk=>by unfold u8At;rw[zbd hk];simp
   have hf: ∀(k:Nat) (x:Int),r[k]? =some x->(x<128\/191<x)-> ¬u8At r k=true:=fun k x hx h=>by rw[q6w hx,decide_eq_true_eq];omega
   have ht: ∀(k:Nat) (x:Int),r[k]? =some x->128<=x->x<=191->u8At r k=true:=fun k x hx h h'=>by rw[q6w hx,decide_eq_true_eq];omega
   have hd: ∀x,r[0]? =some x->r.headD 0=x:=fun x hx=>by cases r with|nil=>cases hx|cons y t=>simpa using hx
   simp only[zad] at good ⊢
   rcases t4 with⟨rfl,hn⟩|⟨rfl,hn1,hn2,rfl,rfl⟩|⟨rfl,hn1,hn2,hlo,hhi⟩|⟨rfl,hn1,hn2,hlo,hhi⟩
   ·refine qb2 (by omega) (qb2 (by omega) (qb2 (by omega) (bad ?_)))
    rw[qel,if_neg h7,if_neg (by omega),if_neg (by omega),if_neg (by omega)]
   ·have zero: ¬u8At r 0=true->qdi (c::r)=0:=fun h=>by rw[qel,if_neg h7,if_neg (fun h'=>h h'.2.2),if_neg (by omega),if_neg (by omega)]
    refine qan rfl (qae (fun hs=>bad (zero (hnone 0 (by omega)))) fun hs=> ?_)
    obtain⟨x,hx0,hxr⟩:=hx 0 (by omega)
    simp only[zaz,hx0,zai]
    refine qan (by omega) (qae (fun hs=>bad (zero (hf 0 x hx0 (by omega)))) fun hs1=>qan (by omega) (qae (fun hs=>bad (zero (hf 0 x hx0 (by omega)))) fun hs2=>qan (by omega) ?_))
    exact good 2 (by omega) (by rw[qel,if_neg h7,if_pos ⟨hn1,hn2,ht 0 x hx0 (by omega) (by omega)⟩];rfl) (by omega)
   ·have zero: ¬(u8At r 0=true/\u8At r 1=true/\(c=224->160<=r.headD 0)/\(c=237->r.headD 0<160))->qdi (c::r)=0:=fun h=>by rw[qel,if_neg h7,if_neg (by omega),if_neg (fun h'=>h h'.2.2),if_neg (by omega)]
    refine qb2 (by omega) (qan rfl (qae (fun hs=>bad (zero fun h=>hnone 1 (by omega) h.2.1)) fun hs=> ?_))
    obtain⟨x,hx0,hxr⟩:=hx 0 (by omega)
    obtain⟨y,hy0,hyr⟩:=hx 1 (by omega)
    have hdx:=hd x hx0
    simp only[zaz,hx0,hy0,zai]
    have zx:(x<lo\/hi<x)->qdi (c::r)=0:=fun hh=>zero fun h=>by
     have h1:=h.1
     rw[q6w hx0,decide_eq_true_eq] at h1
     rw[hdx] at h
     have:=h.2.2.1
     have:=h.2.2.2
     rw[hlo,hhi] at hh
     split at hh<;>split at hh<;>omega
    refine qan (by omega) (qae (fun hs=>bad (zx (.inl hs))) fun hs1=>qan (by omega) (qae (fun hs=>bad (zx (.inr hs))) fun hs2=> ?_))
    refine qan (by omega) (qae (fun hs=>bad (zero fun h=>hf 1 y hy0 (by omega) h.2.1)) fun hs3=>qan (by omega) (qae (fun hs=>bad (zero fun h=>hf 1 y hy0 (by omega) h.2.1)) fun hs4=>qan (by omega) ?_))
    refine good 3 (by omega) ?_ (by omega)
    rw[hlo] at hs1
    rw[hhi] at hs2
    rw[qel,if_neg h7,if_neg (by omega),if_pos ⟨hn1,hn2,ht 0 x hx0 (by split at hs1<;>omega) (by split at hs2<;>omega),ht 1 y hy0 (by omega) (by omega),fun e=>by rw[if_pos e] at hs1;rw[hdx];omega,fun e=>by rw[if_pos e] at hs2;rw[hdx];omega⟩]
    rfl
   ·have zero: ¬(u8At r 0=true/\u8At r 1=true/\u8At r 2=true/\(c=240->144<=r.headD 0)/\(c=244->r.headD 0<144))->qdi (c::r)=0:=fun h=>by rw[qel,if_neg h7,if_neg (by omega),if_neg (by omega),if_neg (fun h'=>h h'.2.2)]
    refine qb2 (by omega) (qb2 (by omega) (qan rfl (qae (fun hs=>bad (zero fun h=>hnone 2 (by omega) h.2.2.1)) fun hs=> ?_)))
    obtain⟨x,hx0,hxr⟩:=hx 0 (by omega)
    obtain⟨y,hy0,hyr⟩:=hx 1 (by omega)
    obtain⟨z,hz0,hzr⟩:=hx 2 (by omega)
    have hdx:=hd x hx0
    simp only[zaz,hx0,hy0,hz0,zai]
    have zx:(x<lo\/hi<x)->qdi (c::r)=0:=fun hh=>zero fun h=>by
     have h1:=h.1
     rw[q6w hx0,decide_eq_true_eq] at h1
     rw[hdx] at h
     have:=h.2.2.2.1
     have:=h.2.2.2.2
     rw[hlo,hhi] at hh
     split at hh<;>split at hh<;>omega
    refine qan (by omega) (qae (fun hs=>bad (zx (.inl hs))) fun hs1=>qan (by omega) (qae (fun hs=>bad (zx (.inr hs))) fun hs2=> ?_))
    refine qan (by omega) (qae (fun hs=>bad (zero fun h=>hf 1 y hy0 (by omega) h.2.1)) fun hs3=>qan (by omega) (qae (fun hs=>bad (zero fun h=>hf 1 y hy0 (by omega) h.2.1)) fun hs4=> ?_))
    refine qan (by omega) (qae (fun hs=>bad (zero fun h=>hf 2 z hz0 (by omega) h.2.2.1)) fun hs5=>qan (by omega) (qae (fun hs=>bad (zero fun h=>hf 2 z hz0 (by omega) h.2.2.1)) fun hs6=>qan (by omega) ?_))
    refine good 4 (by omega) ?_ (by omega)
    rw[hlo] at hs1
    rw[hhi] at hs2
    rw[qel,if_neg h7,if_neg (by omega),if_neg (by omega),if_pos ⟨hn1,hn2,ht 0 x hx0 (by split at hs1<;>omega) (by split at hs2<;>omega),ht 1 y hy0 (by omega) (by omega),ht 2 z hz0 (by omega) (by omega),fun e=>by rw[if_pos e] at hs1;rw[hdx];omega,fun e=>by rw[if_pos e] at hs2;rw[hdx];omega⟩]
    rfl
theorem xbzl (b:List Int) (hp:qad b=true):xbmo b=zB (u8Valid b):=by
 unfold xbmo u8Valid
 simp only[qab]
 refine qaj (by simp) (qan (by omega) ?_)
 rw[show((b.length:Int)).toNat=b.length from rfl,zc5]
 exact xb7s FUEL b (by have:=(qam hp).1;unfold FUEL;omega) hp
open IntWalk (i64_in u8_in u32_in u64_in i64_quo u8_quo rem_in)
theorem xbs7: ∀(k:Fin 8) (n:Fin 256),(IntKind.u8.wrap ((BitVec.ofInt 8 (n.val:Int)&&&BitVec.ofInt 8 (IntKind.u8.wrap (IntKind.u8.wrap (1*2 ^ (min k.val 8)) - 1))).toNat)=0)=((n.val:Int) % 2 ^ k.val=0):=by decide+kernel
theorem xbko: ∀(k:Fin 8) (n:Fin 256),IntKind.u8.wrap (1*2 ^ (min k.val 8))≠0/\(Int.tmod (n.val:Int) (IntKind.u8.wrap (1*2 ^ (min k.val 8)))=0)=((n.val:Int) % 2 ^ k.val=0):=by decide+kernel
theorem xbd6 (y:Int) (r:List Int) (x:Int):(x::y::r)[(r.length+1)]? =some ((y::r).getLast (by simp)):=by
 rw[zaz,List.getLast_eq_getElem]
 simp
theorem xb1v (b:List Int) (hp:qad b=true):xblk b=zB (qjc b):=by
 unfold xblk qjc
 rw[qab]
 match b,hp with
 | [],_=>rfl
 | [x],hp=>
  have hx:=qa2 hp (i:=0) (x:=x) rfl
  refine qb2 (by simp) (qan (by simp) ?_)
  simp only[zao,zai]
  refine qae (fun h=>qat ?_) fun h=>qan (by simp) (qan (by simp) rfl)
  exact(decide_eq_false (by omega)).symm
 | x::y::r,hp=>
  have hx:=qa2 hp (i:=0) (x:=x) rfl
  have hl:=(qam hp).1
  have hg:=xbd6 y r x
  have hz:=qa2 hp hg
  simp only[zad] at hl
  simp only[qqy]
  generalize (y::r).getLast (by simp)=z at*
  refine qb2 (by simp only[zad];omega) (qan (by simp only[zad];omega) ?_)
  simp only[zao,zai]
  refine qae (fun h=>qat ?_) fun h=>qb2 (by simp only[zad];omega) ?_
  ·rw[show decide (x<=7)=false from decide_eq_false (by omega)];rfl
  ·rw[show IntKind.i64.wrap ((((x::y::r).length:Nat):Int) - 1)=((r.length+1:Nat):Int) from(i64_in ((((x::y::r).length:Nat):Int) - 1) (by simp only[zad];omega)).trans (by simp only[zad];omega)]
   refine qan (by omega) (qan (by simp only[zad];omega) ?_)
   rw[show(((r.length+1:Nat):Int)).toNat=r.length+1 from rfl,hg,zai]
   refine qan (by simp only[zad];omega) (qb2 (by omega) (qat ?_))
   have:=xbs7 ⟨x.toNat,by omega⟩ ⟨z.toNat,by omega⟩
   simp only[zda hz.1] at this
   rw[show decide (x<=7)=true from decide_eq_true (by omega),zbm]
   rw[zbg]
   simp only[decide_eq_true_eq]
   rw[this]
theorem xbi5 (b:List Int) (hp:qad b=true):q5t b=zB (qjc b):=by
 unfold q5t qjc
 rw[qab]
 match b,hp with
 | [],_=>rfl
 | [x],hp=>
  have hx:=qa2 hp (i:=0) (x:=x) rfl
  refine qb2 (by simp) (qan (by simp) ?_)
  simp only[zao,zai]
  refine qae (fun h=>qat ?_) fun h=>qan (by simp) (qan (by simp) rfl)
  exact(decide_eq_false (by omega)).symm
 | x::y::r,hp=>
  have hx:=qa2 hp (i:=0) (x:=x) rfl
  have hl:=(qam hp).1
  have hg:=xbd6 y r x
  have hz:=qa2 hp hg
  simp only[zad] at hl
  simp only[qqy]
  generalize (y::r).getLast (by simp)=z at*
  refine qb2 (by simp only[zad];omega) (qan (by simp only[zad];omega) ?_)
  simp only[zao,zai]
  refine qae (fun h=>qat ?_) fun h=>qb2 (by simp only[zad];omega) ?_
  ·rw[show decide (x<=7)=false from decide_eq_false (by omega)];rfl
  ·rw[show IntKind.i64.wrap ((((x::y::r).length:Nat):Int) - 1)=((r.length+1:Nat):Int) from(i64_in ((((x::y::r).length:Nat):Int) - 1) (by simp only[zad];omega)).trans (by simp only[zad];omega)]
   refine qan (by omega) (qan (by simp only[zad];omega) ?_)
   rw[show(((r.length+1:Nat):Int)).toNat=r.length+1 from rfl,hg,zai]
   have:=xbko ⟨x.toNat,by omega⟩ ⟨z.toNat,by omega⟩
   simp only[zda hz.1] at this
   refine qan (by simp only[zad];omega) (qb2 (by omega) (qb2 this.1 (qat ?_)))
   rw[show decide (x<=7)=true from decide_eq_true (by omega),zbm]
   rw[zbg]
   simp only[decide_eq_true_eq]
   rw[this.2]
theorem or7 {n x:Int} (h0:0<=n) (h1:n<72057594037927936) (h2:0<=x) (h3:x<=127):((BitVec.ofInt 64 (n*128)||| BitVec.ofInt 64 x).toNat:Int)=n*128+x:=by
 obtain⟨a,rfl⟩: ∃a:Nat,n=a:=⟨n.toNat,by omega⟩
 obtain⟨b,rfl⟩: ∃b:Nat,x=b:=⟨x.toNat,by omega⟩
 rw[zdu]
 have e1:(BitVec.ofInt 64 ((a:Int)*128)).toNat=2 ^ 7*a:=by rw[zcl];omega
 have e2:(BitVec.ofInt 64 (b:Int)).toNat=b:=by rw[zcl];omega
 rw[e1,e2, <- Nat.two_pow_add_eq_or_of_lt (by omega:b<2 ^ 7)]
 omega
theorem and7: ∀n:Fin 256,IntKind.u8.wrap ((BitVec.ofInt 8 (n.val:Int)&&& ~~~ BitVec.ofInt 8 128).toNat)=(n.val:Int) % 128/\(IntKind.u8.wrap ((BitVec.ofInt 8 (n.val:Int)&&&BitVec.ofInt 8 128).toNat)=0)=((n.val:Int)<128):=by decide+kernel
theorem xbp7 (b:List Int) (hb:qad b=true): ∀(f i:Nat) (n:Int),i<=b.length->b.length<f+i->0<=n->n<4294967296->
  qhy (fun _ _ _ _ _ _ _ _ _ _ _ _ _ _ _=>zR [.cl (.int .u32 0),.cl (.int .i64 0)] []) (fun _ _ _ _ _ _ _ _ _ _ _ _ _ _ _ _ _=>zR [.cl (.int .u32 0),.cl (.int .i64 0)] []) (fun y33 y34 _ _ _ _ _ _ _ _ _ _ _ _ _ _ _ _ _ _ _ _ _ _ _ _ _ _ _ _ _=>zR [.cl (.int .u32 y33),.cl (.int .i64 y34)] []) (fun _ _ _ _ _ _ _ _ _ _ _ _ _ _=>zR [.cl (.int .u32 0),.cl (.int .i64 0)] [])
   (fun y33 y34 _ _ _ _ _ _ _ _ _ _ _ _ _ _ _ _ _ _ _ _ _ _ _ _ _ _=>zR [.cl (.int .u32 y33),.cl (.int .i64 y34)] []) (fun _ _ _ _=>zR [.cl (.int .u32 0),.cl (.int .i64 0)] []) f n b (b.length:Int) i=zR [.cl (.int .u32 (qcg n i (b.drop i)).1),.cl (.int .i64 (qcg n i (b.drop i)).2)] []
 | 0,i,n,hi,hf,_,_=>by omega
 | f+1,i,n,hi,hf,h0,h1=>by
  show qji (qhy (fun _ _ _ _ _ _ _ _ _ _ _ _ _ _ _=>zR [.cl (.int .u32 0),.cl (.int .i64 0)] []) (fun _ _ _ _ _ _ _ _ _ _ _ _ _ _ _ _ _=>zR [.cl (.int .u32 0),.cl (.int .i64 0)] []) (fun y33 y34 _ _ _ _ _ _ _ _ _ _ _ _ _ _ _ _ _ _ _ _ _ _ _ _ _ _ _ _ _=>zR [.cl (.int .u32 y33),.cl (.int .i64 y34)] []) (fun _ _ _ _ _ _ _ _ _ _ _ _ _ _=>zR [.cl (.int .u32 0),.cl (.int .i64 0)] [])
   (fun y33 y34 _ _ _ _ _ _ _ _ _ _ _ _ _ _ _ _ _ _ _ _ _ _ _ _ _ _=>zR [.cl (.int .u32 y33),.cl (.int .i64 y34)] []) (fun _ _ _ _=>zR [.cl (.int .u32 0),.cl (.int .i64 0)] []) f) _ _ _ _ _ _ n b (b.length:Int) i=_
  have hl:=(qam hb).1
  unfold qji
  refine qae (fun h=>qan (by omega) (qan h ?_)) fun h=> ?_
  ·obtain⟨c,hc⟩:=qbs (b:=b) (i:=i) (by omega)
   have hcr:=qa2 hb hc
   rw[show(i:Int).toNat=i from rfl,hc,zai,qcm hc]
   have a7:=and7 ⟨c.toNat,by omega⟩
   simp only[zda hcr.1] at a7
   have step: ∀(X:Option Out), ¬33554431<n-> ¬((i:Int)=0/\c=128)->(IntKind.u64.wrap (n*2 ^ 7)=n*128)/\IntKind.u64.wrap (IntKind.u8.wrap ((BitVec.ofInt 8 c&&& ~~~ BitVec.ofInt 8 128).toNat))=c % 128/\IntKind.u64.wrap ((BitVec.ofInt 64 (n*128)||| BitVec.ofInt 64 (c % 128)).toNat)=n*128+c % 128/\
     qcg n i (c::b.drop (i+1))=if c<128 then(n*128+c,(i:Int)+1) else qcg (n*128+(c - 128)) ((i:Int)+1) (b.drop (i+1)):=fun X g1 g2=>by
    refine⟨(u64_in _ (by omega)).trans (by omega), ?_, ?_, ?_⟩
    ·rw[a7.1];exact u64_in _ (by omega)
    ·rw[or7 h0 (by omega) (by omega) (by omega)];exact u64_in _ (by omega)
    ·conv=>lhs;unfold qcg
     rw[if_neg (by rintro(h|h);exact g2 h;exact g1 h)]
   have stop:((i:Int)=0/\c=128)\/33554431<n->(zR [.cl (.int .u32 0),.cl (.int .i64 0)] []:Option Out)=zR [.cl (.int .u32 (qcg n i (c::b.drop (i+1))).1),.cl (.int .i64 (qcg n i (c::b.drop (i+1))).2)] []:=fun h=>by
    unfold qcg
    rw[if_pos h]
   have go: ∀(g1: ¬33554431<n) (g2: ¬((i:Int)=0/\c=128)) (R:Option Out) (K:Int->Int->Option Out) (A:Option Out),True:=fun _ _ _ _ _=>trivial
   refine qae (fun hi0=>qae (fun h128=>stop (.inl ⟨hi0,h128⟩)) fun h128=>qae (fun hn=>stop (.inr hn)) fun hn=> ?_) fun hi0=>qae (fun hn=>stop (.inr hn)) fun hn=> ?_
   ·obtain⟨s1,s2,s3,s4⟩:=step none hn (by omega)
    dsimp only
    rw[s1,s2,s3,s4]
    refine qae (fun hz=> ?_) fun hz=> ?_
    ·have hz:c<128:=by rwa [a7.2] at hz
     rw[if_pos hz,show c % 128=c by omega,show IntKind.u32.wrap (n*128+c)=n*128+c from u32_in _ (by omega),show IntKind.i64.wrap ((i:Int)+1)=(i:Int)+1 from i64_in _ (by omega)]
    ·have hz: ¬c<128:=by rwa [a7.2] at hz
     rw[if_neg hz,show c % 128=c - 128 by omega,show IntKind.i64.wrap ((i:Int)+1)=((i+1:Nat):Int) from(i64_in _ (by omega)).trans (by omega)]
     exact xbp7 b hb f (i+1) _ (by omega) (by omega) (by omega) (by omega)
   ·obtain⟨s1,s2,s3,s4⟩:=step none hn (by omega)
    dsimp only
    rw[s1,s2,s3,s4]
    refine qae (fun hz=> ?_) fun hz=> ?_
    ·have hz:c<128:=by rwa [a7.2] at hz
     rw[if_pos hz,show c % 128=c by omega,show IntKind.u32.wrap (n*128+c)=n*128+c from u32_in _ (by omega),show IntKind.i64.wrap ((i:Int)+1)=(i:Int)+1 from i64_in _ (by omega)]
    ·have hz: ¬c<128:=by rwa [a7.2] at hz
     rw[if_neg hz,show c % 128=c - 128 by omega,show IntKind.i64.wrap ((i:Int)+1)=((i+1:Nat):Int) from(i64_in _ (by omega)).trans (by omega)]
     exact xbp7 b hb f (i+1) _ (by omega) (by omega) (by omega) (by omega)
  ·rw[qdj (by omega)]
   rfl
theorem xbup (b:List Int) (hp:qad b=true):xbat b=zR [.cl (.int .u32 (qf4 b).1),.cl (.int .i64 (qf4 b).2)] []:=by
 unfold xbat qf4
 simp only[qab]
 exact xbp7 b hp FUEL 0 0 (by omega) (by have:=(qam hp).1;unfold FUEL;omega) (by omega) (by omega)
theorem xbhs (b:List Int) (hp:true=true):xbip b=zR [.fn (.func 189) [] [.ptr 0 0 0]] [some ⟨.var [.cl (.sli .u8 b)],false⟩]:=rfl
open IntWalk (i64_in u8_in u32_in u64_in i64_quo u8_quo rem_in)
theorem q3w: ∀(b:List Int) (n i:Int),(∀x∈b,0<=x/\x<=255)->0<=n->0<=i->(0<=(qcg n i b).1/\(qcg n i b).1<=4294967295)/\((qcg n i b).2=0\/i<(qcg n i b).2/\(qcg n i b).2<=i+b.length)
 | [],n,i,_,_,_=>by simp[qcg]
 | c::r,n,i,hb,hn,hi=>by
  have hc:=hb c (by simp)
  unfold qcg
  split
  ·simp
  ·rename_i h
   split
   ·exact⟨by omega,.inr (by simp only[zad];omega)⟩
   ·have:=q3w r (n*128+(c - 128)) (i+1) (fun x hx=>hb x (by simp[hx])) (by omega) (by omega)
    refine⟨this.1,this.2.imp id fun h=> ?_⟩
    simp only[zad];omega
theorem qkm {b:List Int} (hb:qad b=true):(0<=(qao b).1/\(qao b).1<=4294967295)/\((qao b).2=0\/0<(qao b).2/\(qao b).2<=b.length):=by
 have:=q3w b 0 0 (qam hb).2 (by omega) (by omega)
 unfold qao
 exact⟨this.1,this.2.imp id fun h=>by omega⟩
theorem q7c: ∀(n m:Nat) (b:List Int),qad b=true->b.length<=n->b.length<=m->qep n b=qep m b
 | 0,0,b,_,_,_=>rfl
 | 0,m+1,b,_,h,_=>by
  have:b=[]:=zau (by omega)
  subst this;simp[qep]
 | n+1,0,b,_,_,h=>by
  have:b=[]:=zau (by omega)
  subst this;simp[qep]
 | n+1,m+1,b,hb,h1,h2=>by
  unfold qep
  by_cases h:b=[]
  ·rw[if_pos h,if_pos h]
  ·rw[if_neg h,if_neg h]
   by_cases h0:(qao b).2=0
   ·rw[if_pos h0,if_pos h0]
   ·rw[if_neg h0,if_neg h0]
    have:=(qkm hb).2
    rw[q7c n m _ (qa6 hb _) (by simp only[zaq];omega) (by simp only[zaq];omega)]
theorem xbkc {b:List Int} (hb:qad b=true):qim b=if b=[] then[] else if(qao b).2=0 then[((qao b).1,false)] else((qao b).1,true)::qim (b.drop (qao b).2.toNat):=by
 unfold qim
 cases b with
 | nil=>rfl
 | cons c r=>
  rw[if_neg (by simp)]
  conv=>lhs;rw[zad];unfold qep
  rw[if_neg (by simp)]
  by_cases h0:(qao (c::r)).2=0
  ·rw[if_pos h0,if_pos h0]
  ·rw[if_neg h0,if_neg h0]
   have:=(qkm hb).2
   rw[q7c _ _ _ (qa6 hb _) (by simp only[zaq,zad] at*;omega) (zar _)]
def xbq0 (p:Int×Bool):List CV:=[.int .u32 p.1,.bool p.2]
theorem xb61 (l:Nat): ∀(f:Nat) (b:List Int),qad b=true->b.length<f->∃out,qlr l
  (fun _ _ _ _ _ _ _ _ _ _ _ _ _ _ y15=>zR [] [some ⟨.var [.cl (.sli .u8 y15)],false⟩]) (fun _ _ _ _ _ _ _ _ _ _ _ _ _ _ _ _ y32=>zR [] [some ⟨.var [.cl (.sli .u8 y32)],false⟩]) (fun _ _ y35=>zR [] [some ⟨.var [.cl (.sli .u8 y35)],false⟩]) f b=some out/\Hands out (some ((qim b).map xbq0))
 | 0,b,_,h=>by omega
 | f+1,b,hb,hf=>by
  have ih:=fun b' h1 h2=>xb61 l f b' h1 h2
  generalize hag:qlr l (fun _ _ _ _ _ _ _ _ _ _ _ _ _ _ y15=>zR [] [some ⟨.var [.cl (.sli .u8 y15)],false⟩]) (fun _ _ _ _ _ _ _ _ _ _ _ _ _ _ _ _ y32=>zR [] [some ⟨.var [.cl (.sli .u8 y32)],false⟩]) (fun _ _ y35=>zR [] [some ⟨.var [.cl (.sli .u8 y35)],false⟩]) f=ag at ih
  have e:qlr l (fun _ _ _ _ _ _ _ _ _ _ _ _ _ _ y15=>zR [] [some ⟨.var [.cl (.sli .u8 y15)],false⟩]) (fun _ _ _ _ _ _ _ _ _ _ _ _ _ _ _ _ y32=>zR [] [some ⟨.var [.cl (.sli .u8 y32)],false⟩]) (fun _ _ y35=>zR [] [some ⟨.var [.cl (.sli .u8 y35)],false⟩]) (f+1) b=
    qn0 l ag (fun _ _ _ _ _ _ _ _ _ _ _ _ _ _ y15=>zR [] [some ⟨.var [.cl (.sli .u8 y15)],false⟩]) (fun _ _ _ _ _ _ _ _ _ _ _ _ _ _ _ _ y32=>zR [] [some ⟨.var [.cl (.sli .u8 y32)],false⟩]) (fun _ _ y35=>zR [] [some ⟨.var [.cl (.sli .u8 y35)],false⟩]) b:=by rw[<- hag];rfl
  rw[e]
  unfold qn0
  rw[xbkc hb]
  by_cases h:b=[]
  ·subst h
   exact⟨_,qb2 (by simp) rfl,.inl rfl⟩
  ·have hlen:0<b.length:=List.length_pos_iff.2 h
   rw[if_neg h]
   have hr:=qkm hb
   have e1:qf4 b=qao b:=by unfold qf4;rw[qab]
   rw[e1]
   by_cases h0:(qao b).2=0
   ·rw[if_pos h0]
    refine⟨.yld [.int .u32 (qao b).1,.bool (decide ((0:Int)<(qao b).2))] (.ret [] [some ⟨.var [.cl (.sli .u8 b)],false⟩]) (.ret [] [some ⟨.var [.cl (.sli .u8 b)],false⟩]),qan (by omega) (qaj hb (qaj (zbb l) ?_)), ?_⟩
    ·dsimp only
     rw[decide_eq_true h0];rfl
    ·refine⟨?_,.inr rfl,.inl rfl⟩
     show[CV.int .u32 (qao b).1,.bool (decide ((0:Int)<(qao b).2))]=[.int .u32 (qao b).1,.bool false]
     rw[decide_eq_false (by omega)]
   ·rw[if_neg h0]
    obtain⟨out,g1,g2⟩:=ih (b.drop (qao b).2.toNat) (qa6 hb _) (by simp only[zaq];omega)
    refine⟨.yld [.int .u32 (qao b).1,.bool (decide ((0:Int)<(qao b).2))] (.ret [] [some ⟨.var [.cl (.sli .u8 b)],false⟩]) out,qan (by omega) (qaj hb (qaj (zbb l) ?_)), ?_⟩
    ·dsimp only
     rw[decide_eq_false h0]
     show yldO _ _ (cond (decide ((0:Int)<=(qao b).2)) (cond (decide ((qao b).2<=(b.length:Int))) (ag (List.drop (Int.toNat (qao b).2) b)) none) none)=_
     rw[decide_eq_true (show(0:Int)<=(qao b).2 by omega),decide_eq_true (show(qao b).2<=(b.length:Int) by omega)]
     simp only[cond_true]
     rw[g1]
     rfl
    ·refine⟨?_,.inr rfl,g2⟩
     show[CV.int .u32 (qao b).1,.bool (decide ((0:Int)<(qao b).2))]=[.int .u32 (qao b).1,.bool true]
     rw[decide_eq_true (by omega)]
theorem xb6p (l:Nat) (b:List Int) (hp:qad b=true): ∃out,xbsa l b=some out/\Hands out (some (qrb (quv b))):=by
 unfold xbsa qrb quv
 simp only[qab]
 obtain⟨out,h1,h2⟩:=xb61 l FUEL b hp (by have:=(qam hp).1;unfold FUEL;omega)
 exact⟨out,by rw[zbb,cond_true];exact h1,h2⟩
theorem xbj5 {n:Int} (h0:0<=n) (h1:n<=4294967295): ∃x,cond (decide ((2:Int)<n/ 40)) 2 (n/ 40)=x/\0<=x/\x<=2/\ [x,n - 40*x]=qeq n/\0<=n - 40*x:=by
 unfold qeq
 by_cases h:n<80
 ·rw[if_pos h,decide_eq_false (by omega)]
  exact⟨n/ 40,rfl,by omega,by omega,by simp;omega,by omega⟩
 ·rw[if_neg h]
  by_cases h2:2<n/ 40
  ·rw[decide_eq_true h2]
   exact⟨2,rfl,by omega,by omega,by simp,by omega⟩
  ·rw[decide_eq_false h2]
   exact⟨n/ 40,rfl,by omega,by omega,by simp;omega,by omega⟩
theorem xb7d (R0:Option Out) (K:Nat->List Int->Option Out): ∀(ps:List (Int×Bool)) (o:List Int),(∀p∈ps,0<=p.1/\p.1<=4294967295)->o.length<=24->
  qho (fun _ _=>R0) K (ps.map xbq0) o.length o=match xbhl ps o with|some o'=>K o'.length o'| none=>R0
 | [],o,_,_=>rfl
 | (n,ok)::ps,o,hp,ho=>by
  have hn:=hp (n,ok) (by simp)
  have ih:=fun o' h=>xb7d R0 K ps o' (fun p hp'=>hp p (by simp[hp'])) h
  show qls (qho (fun _ _=>R0) K (ps.map xbq0)) (fun _ _=>R0) K n ok o.length o=_
  unfold qls xbhl
  cases ok with
  | false=>simp
  | true=>
   simp only[zc0,cond_false,Bool.true_eq_false,false_or]
   refine qae (fun h=> ?_) fun h=> ?_
   ·rw[if_pos (by omega)]
   ·rw[if_neg (by omega)]
    refine qae (fun h0=> ?_) fun h0=> ?_
    ·have:o=[]:=zau (by omega)
     subst this
     rw[if_pos rfl]
     obtain⟨x,g1,g2,g3,g4,g5⟩:=xbj5 hn.1 hn.2
     rw[show IntKind.u32.wrap (Int.tdiv n 40)=n/ 40 by rw[zb4 hn.1];exact u32_in _ (by simp only at hn;omega)]
     rw[g1,show IntKind.u32.wrap (40*x)=40*x from u32_in _ (by omega),show IntKind.u32.wrap (n - 40*x)=n - 40*x from u32_in _ (by simp only at hn;omega)]
     rw[zbo,zc3,zbo]
     rw[g4]
     have hlen:(qeq n).length=2:=by rw[<- g4];rfl
     refine qcx (by simp) (qcx (by simp) (qcx (by rw[hlen];simp) (qcx (by rw[hlen];simp) (ih (qeq n) (by omega)))))
    ·rw[if_neg (by intro e;subst e;simp at h0)]
     refine qcx (by simp only[zag,zad,zcb];omega) (qcx (by simp only[zag,zad,zcb];omega) (ih _ (by simp only[zag,zad,zcb];omega)))
theorem xbgq: ∀(n:Nat) (b:List Int),qad b=true->∀p∈qep n b,0<=p.1/\p.1<=4294967295
 | 0,b,_,p,hp=>by simp[qep] at hp
 | n+1,b,hb,p,hp=>by
  have hr:=(qkm hb).1
  unfold qep at hp
  split at hp
  ·simp at hp
  ·split at hp
   ·simp at hp;subst hp;exact hr
   ·rcases zaw.1 hp with rfl|hp
    ·exact hr
    ·exact xbgq n _ (qa6 hb _) p hp
theorem xbv6 (b:List Int) (hp:qad b=true):xbei b=zR [.cl (.sli .u32 (qdm b).1),.cl (.int .i64 (qdm b).2)] []:=by
 unfold xbei
 refine qaj hp (qaj ?_ ?_)
 ·unfold qrb
  rw[qab,List.all_map,zaj]
  intro p _
  rfl
 ·unfold qrb quv qdm qmw qkf
  simp only[qab]
  refine(xb7d _ _ (qim b) [] (xbgq _ b hp) (by simp)).trans ?_
  cases xbhl (qim b) [] with
  | none=>rfl
  | some o=>
   show cond (!(qcq o)) _ _=_
   cases h:qcq o<;>simp[h]
def ql7 (o:List Int) (n:Int):List Int:=if o=[] then qeq n else o++[n]
def qug:Int->Bool->List Int->List Int->Option (List Int)
 | _,fresh,[],o=>if fresh=true then some o else none
 | n,fresh,c::r,o=>if fresh=true/\c=128 then none else if 4294967295<n*128+c % 128 then none else if c<128 then qug 0 true r (ql7 o (n*128+c % 128)) else qug (n*128+c % 128) false r o
def qt3:Option (List Int)->List Int×Int
 | some o=>if qcq o=true then(o,0) else([],5)
 | none=>([],5)
theorem xbf2 (o:List Int) (n:Int):o.length<=(ql7 o n).length:=by
 unfold ql7
 split
 ·rename_i h;subst h;simp
 ·simp
theorem qxl: ∀(b:List Int) (n:Int) (fresh:Bool) (o o':List Int),qug n fresh b o=some o'->o.length<=o'.length
 | [],n,fresh,o,o',h=>by
  unfold qug at h
  split at h
  ·simp at h;subst h;exact zar _
  ·cases h
 | c::r,n,fresh,o,o',h=>by
  unfold qug at h
  split at h
  ·cases h
  ·split at h
   ·cases h
   ·split at h
    ·exact zca (xbf2 o _) (qxl r _ _ _ _ h)
    ·exact qxl r _ _ _ _ h
theorem xbg7 (n:Int) (fresh:Bool) (c:Int) (r o:List Int):qug n fresh (c::r) o=if fresh=true/\c=128 then none else if 4294967295<n*128+c % 128 then none else if c<128 then qug 0 true r (ql7 o (n*128+c % 128)) else qug (n*128+c % 128) false r o:=rfl
theorem xbkh (n i c:Int) (r:List Int):qcg n i (c::r)=if(i=0/\c=128)\/33554431<n then(0,0) else if c<128 then(n*128+c,i+1) else qcg (n*128+(c - 128)) (i+1) r:=rfl
theorem q66: ∀(b:List Int) (n i:Int) (fresh:Bool) (o:List Int),(∀x∈b,0<=x/\x<=255)->0<=n->0<=i->(fresh=true↔i=0)->(b=[]->fresh=false)->
  qug n fresh b o=if(qcg n i b).2=0 then none else qug 0 true (b.drop ((qcg n i b).2 - i).toNat) (ql7 o (qcg n i b).1)
 | [],n,i,fresh,o,_,_,_,_,h=>by simp[qug,qcg,h rfl]
 | c::r,n,i,fresh,o,hb,hn,hi,hf,_=>by
  have hc:=hb c (by simp)
  rw[xbg7,xbkh]
  by_cases h1:fresh=true/\c=128
  ·rw[if_pos h1,if_pos (show(i=0/\c=128)\/33554431<n from .inl ⟨hf.1 h1.1,h1.2⟩)];rfl
  ·rw[if_neg h1]
   by_cases h2:33554431<n
   ·rw[if_pos (by omega),if_pos (show(i=0/\c=128)\/33554431<n from .inr h2)];rfl
   ·rw[if_neg (by omega),if_neg (show ¬((i=0/\c=128)\/33554431<n) from fun h=>h.elim (fun h=>h1 ⟨hf.2 h.1,h.2⟩) h2)]
    by_cases h3:c<128
    ·rw[if_pos h3,if_pos h3,show c % 128=c by omega]
     simp only
     rw[if_neg (by omega),show(i+1 - i).toNat=1 by omega]
     rfl
    ·rw[if_neg h3,if_neg h3,show c % 128=c - 128 by omega]
     rw[q66 r (n*128+(c - 128)) (i+1) false o (fun x hx=>hb x (by simp[hx])) (by omega) (by omega) (by simp;omega) (fun _=>rfl)]
     have hr:=q3w r (n*128+(c - 128)) (i+1) (fun x hx=>hb x (by simp[hx])) (by omega) (by omega)
     by_cases h4:(qcg (n*128+(c - 128)) (i+1) r).2=0
     ·rw[if_pos h4,if_pos h4]
     ·rw[if_neg h4,if_neg h4]
      have hr2:=hr.2.resolve_left h4
      rw[show((qcg (n*128+(c - 128)) (i+1) r).2 - i).toNat=((qcg (n*128+(c - 128)) (i+1) r).2 - (i+1)).toNat+1 by omega,zch]
theorem xbsd {o:List Int} (h:20<o.length):qt3 (some o)=([],5):=by
 unfold qt3
 have:qcq o=false:=by
  match o,h with
  | x::y::r,h=>simp only[qcq];simp only[zad] at h;rw[show decide (r.length<=18)=false from decide_eq_false (by omega)];rfl
  | [x],h=>simp at h
  | [],h=>simp at h
 show(if qcq o=true then(o,0) else([],5):List Int×Int)=_
 rw[this];rfl
theorem xbxe: ∀(n:Nat) (b:List Int),qad b=true->b.length<=n->∀o,qt3 (qug 0 true b o)=qt3 (xbhl (qep n b) o)
 | 0,b,_,h,o=>by
  have:b=[]:=zau (by omega)
  subst this;rfl
 | n+1,b,hb,h,o=>by
  unfold qep
  by_cases he:b=[]
  ·subst he;rfl
  ·rw[if_neg he]
   have hr:=qkm hb
   have hnum:=q66 b 0 0 true o (qam hb).2 (by omega) (by omega) (by simp) (fun h=>absurd h he)
   rw[show qcg 0 0 b=qao b from rfl] at hnum
   by_cases h0:(qao b).2=0
   ·rw[if_pos h0,hnum,if_pos h0]
    simp[xbhl]
   ·rw[if_neg h0,hnum,if_neg h0]
    have hr2:=hr.2.resolve_left h0
    conv=>rhs;unfold xbhl
    by_cases hlong:20<o.length
    ·rw[if_pos (.inr hlong)]
     cases hg:qug 0 true (List.drop ((qao b).2 - 0).toNat b) (ql7 o (qao b).1) with
     | none=>rfl
     | some o'=>
      rw[xbsd (by have:=qxl _ _ _ _ _ hg;have:=xbf2 o (qao b).1;omega)]
      rfl
    ·rw[if_neg (by rintro(h|h);cases h;exact hlong h),Int.sub_zero]
     rw[xbxe n _ (qa6 hb _) (by simp only[zaq];omega)]
     unfold ql7
     split<;>rfl
theorem xb65 (b:List Int) (hb:qad b=true): ∀(f i:Nat) (n:Int) (fresh:Bool) (o:List Int),i<=b.length->b.length<f+i->0<=n->n<=4294967295->o.length<=2+i->
  qgb (fun _ _ _ _ _ _ _ _ _ _ _ _ _ _ _ _=>zR [.cl (.sli .u32 []),.cl (.int .i64 5)] []) (fun _ _ _ _ _ _ _ _ _ _ _ _ _ _ _ _ _ _ _ _ _ _ _ _ _ _ _ _ _ _ _ _ _=>zR [.cl (.sli .u32 []),.cl (.int .i64 5)] []) (fun _ _ _ _ _ _ _ _ _ _ _ _ _ _ _ _ _ _ _ _ _ _ _ _ _ _ _=>zR [.cl (.sli .u32 []),.cl (.int .i64 5)] [])
   (fun _ _ _ y80 _ _ _ _ y85=>cond (!y80) (zR [.cl (.sli .u32 []),.cl (.int .i64 5)] []) (let r86:Bool:=qkf y85;cond (!r86) (zR [.cl (.sli .u32 []),.cl (.int .i64 5)] []) (zR [.cl (.sli .u32 y85),.cl (.int .i64 0)] []))) f b o.length n fresh i o=
   zR [.cl (.sli .u32 (qt3 (qug n fresh (b.drop i) o)).1),.cl (.int .i64 (qt3 (qug n fresh (b.drop i) o)).2)] []
 | 0,i,n,fresh,o,hi,hf,_,_,_=>by omega
 | f+1,i,n,fresh,o,hi,hf,h0,h1,ho=>by
  have ih:=fun n fresh o h0 h1 ho hi=>xb65 b hb f (i+1) n fresh o hi (by omega) h0 h1 ho
  have hl:=(qam hb).1
  generalize hag:qgb (fun _ _ _ _ _ _ _ _ _ _ _ _ _ _ _ _=>zR [.cl (.sli .u32 []),.cl (.int .i64 5)] []) (fun _ _ _ _ _ _ _ _ _ _ _ _ _ _ _ _ _ _ _ _ _ _ _ _ _ _ _ _ _ _ _ _ _=>zR [.cl (.sli .u32 []),.cl (.int .i64 5)] []) (fun _ _ _ _ _ _ _ _ _ _ _ _ _ _ _ _ _ _ _ _ _ _ _ _ _ _ _=>zR [.cl (.sli .u32 []),.cl (.int .i64 5)] [])
   (fun _ _ _ y80 _ _ _ _ y85=>cond (!y80) (zR [.cl (.sli .u32 []),.cl (.int .i64 5)] []) (let r86:Bool:=qkf y85;cond (!r86) (zR [.cl (.sli .u32 []),.cl (.int .i64 5)] []) (zR [.cl (.sli .u32 y85),.cl (.int .i64 0)] []))) f=ag at ih
  show qi5 (qgb _ _ _ _ f) _ _ _ _ b o.length n fresh i o=_
  rw[hag]
  unfold qi5
  refine qae (fun h=> ?_) fun h=> ?_
  ·obtain⟨c,hc⟩:=qbs (b:=b) (i:=i) (by omega)
   have hcr:=qa2 hb hc
   rw[qcm hc]
   have ti:(i:Int).toNat=i:=rfl
   have main:cond (decide ((4294967295:Int)<n*128+c % 128)) (zR [.cl (.sli .u32 []),.cl (.int .i64 5)] []) (cond (!(decide (c<128))) (ag b o.length (n*128+c % 128) (decide (c<128)) ((i+1:Nat):Int) o)
     (cond (decide ((o.length:Int)=0)) (cond (u32Ok (n*128+c % 128)) (cond (Nat.ble ((o++qgs (n*128+c % 128)).length*4) LIMN) (cond (Nat.ble ((o++qgs (n*128+c % 128)).length) LIMN) (ag b (o++qgs (n*128+c % 128)).length 0 (decide (c<128)) ((i+1:Nat):Int) (o++qgs (n*128+c % 128))) none) none) none)
      (cond (Nat.ble ((o++[IntKind.u32.wrap (n*128+c % 128)]).length*4) LIMN) (cond (Nat.ble ((o++[IntKind.u32.wrap (n*128+c % 128)]).length) LIMN) (ag b (o++[IntKind.u32.wrap (n*128+c % 128)]).length 0 (decide (c<128)) ((i+1:Nat):Int) (o++[IntKind.u32.wrap (n*128+c % 128)])) none) none)))=
     zR [.cl (.sli .u32 (qt3 (if 4294967295<n*128+c % 128 then none else if c<128 then qug 0 true (b.drop (i+1)) (ql7 o (n*128+c % 128)) else qug (n*128+c % 128) false (b.drop (i+1)) o)).1),.cl (.int .i64 (qt3 (if 4294967295<n*128+c % 128 then none else if c<128 then qug 0 true (b.drop (i+1)) (ql7 o (n*128+c % 128)) else qug (n*128+c % 128) false (b.drop (i+1)) o)).2)] []:=by
    refine qae (fun h2=> ?_) fun h2=> ?_
    ·rw[if_pos h2];rfl
    ·rw[if_neg h2]
     by_cases h3:c<128
     ·rw[if_pos h3,decide_eq_true h3]
      simp only[zc0,cond_false]
      unfold ql7
      refine qae (fun h4=> ?_) fun h4=> ?_
      ·have:o=[]:=zau (by omega)
       subst this
       rw[if_pos rfl]
       have hok:u32Ok (n*128+c % 128)=true:=by unfold u32Ok;rw[qab];exact decide_eq_true (by omega)
       have e1:qgs (n*128+c % 128)=qeq (n*128+c % 128):=by unfold qgs;rw[qab]
       have hlen:(qeq (n*128+c % 128)).length=2:=by unfold qeq;split<;>rfl
       rw[e1,zbo]
       exact qaj hok (qcx (by rw[hlen];simp) (qcx (by rw[hlen];simp) (ih _ _ _ (by omega) (by omega) (by omega) (by omega))))
      ·rw[if_neg (by intro e;subst e;simp at h4),show IntKind.u32.wrap (n*128+c % 128)=n*128+c % 128 from u32_in _ (by omega)]
       refine qcx (by simp only[zag,zad,zcb];omega) (qcx (by simp only[zag,zad,zcb];omega) (ih _ _ _ (by omega) (by omega) (by simp only[zag,zad,zcb];omega) (by omega)))
     ·rw[if_neg h3,decide_eq_false h3]
      simp only[Bool.not_false,cond_true]
      exact ih _ _ _ (by omega) (by omega) (by omega) (by omega)
   have wi:IntKind.i64.wrap ((i:Int)+1)=((i+1:Nat):Int):=(i64_in _ (by omega)).trans (by omega)
   have wn:IntKind.u64.wrap (n*128)=n*128:=u64_in _ (by omega)
   have wm:Int.tmod c 128=c % 128:=zb5 hcr.1
   have wc:IntKind.u64.wrap (c % 128)=c % 128:=u64_in _ (by omega)
   have ws:IntKind.u64.wrap (n*128+c % 128)=n*128+c % 128:=u64_in _ (by omega)
   conv=>rhs;unfold qug
   cases fresh with
   | true=>
    simp only[cond_true,true_and]
    refine qan (by omega) (qan h ?_)
    simp only[ti,hc,zai]
    refine qae (fun h5=> ?_) fun h5=> ?_
    ·rw[if_pos h5];rfl
    ·rw[if_neg h5,wm,wc,wn,ws,wi]
     refine qan (by omega) (qan h (qan (by omega) (qan h main)))
   | false=>
    simp only[cond_false,zam,false_and,if_false]
    refine qan (by omega) (qan h ?_)
    simp only[ti,hc,zai]
    rw[wm,wc,wn,ws,wi]
    exact qan (by omega) (qan h main)
  ·rw[qdj (by omega)]
   cases fresh with
   | false=>rfl
   | true=>
    show cond (!true) _ (cond (!(qkf o)) _ _)=_
    unfold qkf
    rw[qab]
    show _=zR [.cl (.sli .u32 (if qcq o=true then(o,0) else([],5):List Int×Int).1),.cl (.int .i64 (if qcq o=true then(o,0) else([],5):List Int×Int).2)] []
    cases qcq o<;>rfl
theorem xbty (b:List Int) (hp:qad b=true):xbge b=zR [.cl (.sli .u32 (qdm b).1),.cl (.int .i64 (qdm b).2)] []:=by
 unfold xbge qdm
 simp only[qab]
 refine(xb65 b hp FUEL 0 0 true [] (by omega) (by have:=(qam hp).1;unfold FUEL;omega) (by omega) (by omega) (by simp)).trans ?_
 rw[zbn,xbxe b.length b hp (zar _)]
 have:qt3 (xbhl (qep b.length b) [])=qmw b:=by unfold qt3 qmw qim;rfl
 rw[this]
open IntWalk (i64_in u8_in u32_in u64_in i64_quo u8_quo rem_in)
theorem qik {n:Int} (h:qck n=true):0<=n/\n<=1000:=by
 unfold qck at h;rw[qab] at h;exact of_decide_eq_true h
theorem qfx {n:Int} (h:0<=n/\n<=1000):qck n=true:=by
 unfold qck;rw[qab];exact decide_eq_true h
theorem xb0q (tag:Int) (b:List Int) (hp:qad b=true):xb1r tag b=zB (qcu tag b):=by
 unfold xb1r qcu qbk qfu qjc qdm u8Valid
 simp only[qab]
 refine qae (fun h=> ?_) fun h=> ?_
 ·rw[if_pos h]
  match b,hp with
  | [],_=>rfl
  | [x],_=>
   refine qan (by simp) (qan (by simp) ?_)
   simp only[zao,zai]
   refine qae (fun h=>qat ?_) fun h=>qan (by simp) (qat ?_)
   ·simp[h]
   ·simp[h]
  | x::y::r,_=>exact qb2 (by simp only[zad];omega) (qat (by simp))
 ·rw[if_neg h]
  refine qae (fun h=> ?_) fun h=> ?_
  ·rw[if_pos h];exact qaj hp rfl
  ·rw[if_neg h]
   refine qae (fun h=> ?_) fun h=> ?_
   ·rw[if_pos h];exact qaj hp rfl
   ·rw[if_neg h]
    refine qae (fun h=> ?_) fun h=> ?_
    ·rw[if_pos h]
     refine qat ?_
     rw[zbg]
     simp only[decide_eq_true_eq]
     cases b<;>simp
     omega
    ·rw[if_neg h]
     refine qae (fun h=> ?_) fun h=> ?_
     ·rw[if_pos h];exact qaj hp rfl
     ·rw[if_neg h]
      refine qae (fun h=> ?_) fun h=> ?_
      ·rw[if_pos h];exact qaj hp rfl
      ·rw[if_neg h]
       refine qae (fun h=> ?_) fun h=> ?_
       ·rw[if_pos h]
       ·rw[if_neg h]
theorem xb6b (tag:Int) (b:List Int) (hp:qad b=true):xb6j tag b=zB (qcu tag b):=xb0q tag b hp
theorem qzd {l:List Int} (hb:qad l=true):0<=(qac l).1/\(qac l).1<16777216/\0<=(qac l).2/\(qac l).2<=4/\(qac l).2<=l.length:=by
 match l,hb with
 | [],_=>decide
 | c::t,hb=>
  have hc:=qa2 hb (i:=0) (x:=c) rfl
  have ht:=(qam (qbu hb)).2
  simp only[zbr] at ht
  rw[qdd]
  split
  ·simp only[zad];omega
  ·split
   ·simp only[zad];omega
   ·split
    ·simp only[zad];omega
    ·have:=qur ht (j:=(c - 128).toNat) (by omega)
     simp only[zad];omega
def parse1 (P:List Int->Int×Nd×Int) (t:Int) (r:List Int):Int×Nd×Int:=
 if qbf t=false then(4,nd0,0)
 else if(qac r).2=0\/(r.length:Int) - (qac r).2<(qac r).1 then(1,nd0,0)
 else if qaq t=false then(if qbk t ((r.drop (qac r).2.toNat).take (qac r).1.toNat)=true then(0,(t,((r.drop (qac r).2.toNat).take (qac r).1.toNat),[]),1+(qac r).2+(qac r).1) else(5,nd0,0))
 else if(qcl P ((r.drop (qac r).2.toNat).take (qac r).1.toNat).length ((r.drop (qac r).2.toNat).take (qac r).1.toNat)).1=0 then
  (if t=49/\qa5 (qcl P ((r.drop (qac r).2.toNat).take (qac r).1.toNat).length ((r.drop (qac r).2.toNat).take (qac r).1.toNat)).2.2=false then(6,nd0,0) else(0,(t,[],(qcl P ((r.drop (qac r).2.toNat).take (qac r).1.toNat).length ((r.drop (qac r).2.toNat).take (qac r).1.toNat)).2.1.map ndCV),1+(qac r).2+(qac r).1))
  else((qcl P ((r.drop (qac r).2.toNat).take (qac r).1.toNat).length ((r.drop (qac r).2.toNat).take (qac r).1.toNat)).1,nd0,0)
theorem qjv (n:Nat) (t:Int) (r:List Int):qar (n+1) (t::r)=parse1 (qar n) t r:=rfl
theorem qoe {P:List Int->Int×Nd×Int} {t:Int} {r:List Int} (h:(parse1 P t r).1=0):(parse1 P t r).2.2=1+(qac r).2+(qac r).1/\¬qbf t=false/\¬((qac r).2=0\/(r.length:Int) - (qac r).2<(qac r).1):=by
 unfold parse1 at h ⊢
 split at h
 ·exact absurd h (by decide: ¬(4:Int)=0)
 ·rename_i h1
  rw[if_neg h1]
  split at h
  ·exact absurd h (by decide: ¬(1:Int)=0)
  ·rename_i h2
   rw[if_neg h2]
   refine⟨?_,h1,h2⟩
   split at h
   ·rename_i h3
    rw[if_pos h3]
    split at h
    ·rename_i h4;rw[if_pos h4]
    ·exact absurd h (by decide: ¬(5:Int)=0)
   ·rename_i h3
    rw[if_neg h3]
    split at h
    ·rename_i h4
     rw[if_pos h4]
     split at h
     ·exact absurd h (by decide: ¬(6:Int)=0)
     ·rename_i h5;rw[if_neg h5]
    ·rename_i h4;exact absurd h h4
theorem qij {n:Nat} {b:List Int} (hb:qad b=true) (h:(qar n b).1=0):0<(qar n b).2.2/\(qar n b).2.2<=b.length:=by
 match n,b,hb with
 | 0,_,_=>exact absurd h (by decide: ¬(3:Int)=0)
 | n+1,[],_=>exact absurd h (by decide: ¬(1:Int)=0)
 | n+1,t::r,hb=>
  rw[qjv] at h ⊢
  have:=qoe h
  have hr:=qzd (qbu hb)
  simp only[zbr] at hr
  simp only[zad]
  omega
theorem q53 {d:Int} {b:List Int} (hb:qad b=true) (h:(qar d.toNat b).1=0):qjp b d=b.drop (qar d.toNat b).2.2.toNat:=by
 obtain⟨n,hn⟩: ∃n,d.toNat=n:=⟨_,rfl⟩
 rw[hn] at h ⊢
 match n,b,hb with
 | 0,_,_=>exact absurd h (by decide: ¬(3:Int)=0)
 | n+1,[],_=>exact absurd h (by decide: ¬(1:Int)=0)
 | n+1,t::r,hb=>
  rw[qjv] at h ⊢
  have hu:=qoe h
  have hr:=qzd (qbu hb)
  simp only[zbr] at hr
  unfold qjp
  rw[if_neg (by omega)]
  show(if qbf t=false then r else _)=_
  rw[if_neg hu.2.1,if_neg (fun e=>hu.2.2 (.inl e)),if_neg (fun e=>hu.2.2 (.inr e)),hu.1,
   show(1+(qac r).2+(qac r).1).toNat=((qac r).2+(qac r).1).toNat+1 by omega,zch]
theorem qny (f:List Int->Int×Nd×Int) (m:Nat):qcl f m []=(0,[],[]):=by cases m<;>rfl
theorem qwb {f:List Int->Int×Nd×Int} {m:Nat} {b:List Int} (hne:b≠[]) (h:(f b).1=0):qcl f (m+1) b=((qcl f m (b.drop (f b).2.2.toNat)).1,(f b).2.1::(qcl f m (b.drop (f b).2.2.toNat)).2.1,b.take (f b).2.2.toNat::(qcl f m (b.drop (f b).2.2.toNat)).2.2):=by
 show(if b=[] then _ else _)=_
 rw[if_neg hne,if_pos h]
theorem qyr {f:List Int->Int×Nd×Int} {m:Nat} {b:List Int} (hne:b≠[]) (h: ¬(f b).1=0):qcl f (m+1) b=((f b).1,[],[]):=by
 show(if b=[] then _ else _)=_
 rw[if_neg hne,if_neg h]
theorem qya {b:List Int} {d:Int} (h:(qar d.toNat b).1=0):qem b d=((qar d.toNat b).2.1,(qar d.toNat b).2.2,0):=by
 unfold qem;rw[qab];exact if_pos h
theorem qxw {b:List Int} {d:Int} (h: ¬(qar d.toNat b).1=0):qem b d=(nd0,0,(qar d.toNat b).1):=by
 unfold qem;rw[qab];exact if_neg h
theorem xbm9 (rk:Nat) (F0:Int->Option Out) (F1:Int->Int->Int->Int->List CV->List CV->Option Out) (v1 v2 v3 v4 v7:Int) (h1:1<=v1) (h2:v1<=1000) (h3:v1.toNat<rk+1): ∀(f m:Nat) (b:List Int) (rows kids:List CV),qad b=true->b.length<=m->b.length<f->rows.length+b.length<=1000000->kids.length+b.length<=1000000->
  qhp rk (fun _ y16=>(fun _ _ _ _ _ _ _ _ _ _ _ _ _ _ _ _ _ _ _ _ _ _ _ _ _ _ _ _ _ _ _ _ _ _ _ _=>F0 y16)) (fun _ y54 y55 y56 _ _ _ _ y61 _ y63 y64=>F1 y54 y55 y56 y61 y63 y64) f v1 v2 v3 v4 b rows.length v7 kids.length rows kids
   =if(qcl (qar (v1 - 1).toNat) m b).1=0 then F1 v2 v3 v4 v7 (rows++(qcl (qar (v1 - 1).toNat) m b).2.2.map (CV.sli .u8)) (kids++(qcl (qar (v1 - 1).toNat) m b).2.1.map ndCV) else F0 (qcl (qar (v1 - 1).toNat) m b).1
 | 0,m,b,rows,kids,hb,hm,hf,hr,hk=>by omega
 | f+1,m,b,rows,kids,hb,hm,hf,hr,hk=>by
  show qi4 rk (qhp rk (fun _ y16=>(fun _ _ _ _ _ _ _ _ _ _ _ _ _ _ _ _ _ _ _ _ _ _ _ _ _ _ _ _ _ _ _ _ _ _ _ _=>F0 y16)) (fun _ y54 y55 y56 _ _ _ _ y61 _ y63 y64=>F1 y54 y55 y56 y61 y63 y64) f) (fun _ y16=>(fun _ _ _ _ _ _ _ _ _ _ _ _ _ _ _ _ _ _ _ _ _ _ _ _ _ _ _ _ _ _ _ _ _ _ _ _=>F0 y16)) (fun _ y54 y55 y56 _ _ _ _ y61 _ y63 y64=>F1 y54 y55 y56 y61 y63 y64) v1 v2 v3 v4 b rows.length v7 kids.length rows kids=_
  unfold qi4
  refine qae (fun h=> ?_) fun h=> ?_
  ·have hne:b≠[]:=by intro e;subst e;simp at h
   simp only[show IntKind.i64.wrap (v1 - 1)=v1 - 1 from i64_in _ (by omega)]
   refine qaj ?_ ?_
   ·simp only[zab,decide_eq_true_eq]
    exact⟨hb,qfx (by omega),by omega⟩
   ·obtain⟨m,rfl⟩: ∃k,m=k+1:=⟨m - 1,by omega⟩
    by_cases hz:(qar (v1 - 1).toNat b).1=0
    ·have hu:=qij hb hz
     rw[qwb hne hz]
     simp only[qya hz]
     refine xbaf (by simp) ?_
     refine qcx (by simp only[zag,zay];omega) (qcx (by simp only[zag,zay];omega) (qan (by omega) (qan hu.2 ?_)))
     refine qcx (by simp only[zag,zay];omega) (qcx (by simp only[zag,zay];omega) (qan (by omega) (qan hu.2 ?_)))
     refine(xbm9 rk F0 F1 v1 v2 v3 v4 v7 h1 h2 h3 f m _ _ _ (qa6 hb _) (by simp only[zaq];omega) (by simp only[zaq];omega) (by simp only[zaq,zag,zay];omega) (by simp only[zaq,zag,zay];omega)).trans ?_
     simp only[zcs,List.singleton_append,zbi]
     rfl
    ·rw[qyr hne hz]
     simp only[qxw hz]
     refine xbhq hz ?_
     rw[if_neg hz]
  ·have e:b=[]:=zau (by omega)
   subst e
   rw[qny]
   simp
theorem qxm {f:List Int->Int×Nd×Int} (hf: ∀b,qad b=true->(f b).1=0->0<(f b).2.2/\(f b).2.2<=b.length): ∀(m:Nat) (b:List Int),qad b=true->(qcl f m b).2.1.length<=b.length/\(qcl f m b).2.2.length<=b.length/\∀x∈(qcl f m b).2.2,rowB x=true
 | 0,b,hb=>by simp[qcl]
 | m+1,b,hb=>by
  by_cases hne:b=[]
  ·subst hne;rw[qny];simp
  ·by_cases hz:(f b).1=0
   ·have hu:=hf b hb hz
    have ih:=qxm hf m (b.drop (f b).2.2.toNat) (qa6 hb _)
    rw[qwb hne hz]
    simp only[zad,zaq,zaw] at ih ⊢
    refine⟨by omega,by omega,fun x hx=>hx.elim (fun e=> ?_) (ih.2.2 x)⟩
    subst e
    have:=qgi hb (f b).2.2.toNat
    unfold qad at this
    rwa [qab] at this
   ·rw[qyr hne hz];simp
theorem qta {l:List (List Int)} (h1:l.length<=1000000) (h2: ∀x∈l,rowB x=true):qh2 (l.map (CV.sli .u8))=true:=by
 unfold qh2
 rw[qab]
 simp only[zab,decide_eq_true_eq,zaj,zav,zbt]
 refine⟨h1,fun x hx=> ?_⟩
 obtain⟨y,hy,rfl⟩:=hx
 exact h2 y hy
theorem qix (l:List (List Int)):qbt (l.map (CV.sli .u8))=qa5 l:=by
 unfold qbt
 rw[qab,zc6]
 congr 1
 exact(zcr fun x _=>rfl).trans (List.map_id l)
noncomputable def xb2x (p:Int×Nd×Int):Option Out:=if p.1=0 then zR [.cl (.agg [.int .i64 p.2.1.1,.sli .u8 p.2.1.2.1,.slg 3 p.2.1.2.2]),.cl (.int .i64 p.2.2),.cl (.int .i64 0)] [] else zR [.cl (.agg [.int .i64 0,.sli .u8 [],.slg 3 []]),.cl (.int .i64 0),.cl (.int .i64 p.1)] []
theorem xbh0 {t:Int} {r:List Int} {A B:Int} (hA:0<=A) (hB:0<=B):List.drop (Int.toNat (1+B)) (List.take (Int.toNat (1+B+A)) (t::r))=(r.drop B.toNat).take A.toNat:=by
 rw[show(1+B).toNat=B.toNat+1 by omega,show(1+B+A).toNat=(B.toNat+A.toNat)+1 by omega,zb6,zch,List.drop_take,show B.toNat+A.toNat - B.toNat=A.toNat by omega]
theorem xbr7 (rk:Nat) (b:List Int) (deep:Int) (hb:qad b=true) (hd:0<=deep/\deep<=1000) (hk:deep.toNat<rk+1):q5h rk b deep=xb2x (qar deep.toNat b):=by
 unfold q5h
 refine qae (fun h=> ?_) fun h=> ?_
 ·subst h;rfl
 ·obtain⟨n,hn⟩: ∃n,deep.toNat=n+1:=⟨deep.toNat - 1,by omega⟩
  rw[hn]
  match b,hb with
  | [],_=>rfl
  | t::r,hb=>
   have ht:=qa2 hb (i:=0) (x:=t) rfl
   have hl:=(qam hb).1
   have hbt:=qbu hb
   simp only[zbr] at hbt
   simp only[zad] at hl
   have hr:=qzd hbt
   rw[qjv]
   unfold parse1
   simp only[qdy,qg3,qbn,qcu,qab,zad,zao,zai,List.drop_one,zbr]
   refine qb2 (by omega) (qan (by omega) ?_)
   rw[show IntKind.i64.wrap t=t from i64_in _ (by omega)]
   refine qch (fun h=> ?_) fun h=> ?_
   ·rw[if_pos (by simpa using h)];rfl
   rw[if_neg (by simpa using h)]
   refine qan (by omega) (qaj hbt ?_)
   generalize hA:(qac r).1=A at*
   generalize hB:(qac r).2=B at*
   refine qae (fun h5=> ?_) fun h5=> ?_
   ·rw[if_pos (.inl h5)];rfl
   rw[show IntKind.i64.wrap (((r.length+1:Nat):Int) - 1)=r.length from(i64_in _ (by omega)).trans (by omega),show IntKind.i64.wrap ((r.length:Int) - B)=r.length - B from i64_in _ (by omega)]
   refine qae (fun h6=> ?_) fun h6=> ?_
   ·rw[if_pos (.inr h6)];rfl
   rw[if_neg (by omega)]
   simp only[show IntKind.i64.wrap ((1:Int)+B)=1+B from i64_in _ (by omega),show IntKind.i64.wrap (1+B+A)=1+B+A from i64_in _ (by omega)]
   refine qan (by omega) (qan (by omega) (qan (by omega) ?_))
   rw[xbh0 (by omega) (by omega)]
   have hin:qad ((r.drop B.toNat).take A.toNat)=true:=qgi (qa6 hbt _) _
   have hil:((r.drop B.toNat).take A.toNat).length<=1000000:=(qam hin).1
   generalize hI:(r.drop B.toNat).take A.toNat=I at*
   refine qch (fun h7=> ?_) fun h7=> ?_
   ·rw[if_pos (by simpa using h7)]
    refine qaj hin (qch (fun h8=> ?_) fun h8=> ?_)
    ·rw[if_neg (by simpa using h8)];rfl
    ·rw[if_pos (by simpa using h8)];rfl
   ·rw[if_neg (by simpa using h7)]
    refine(xbm9 rk (fun e=>zR [.cl (.agg [.int .i64 0,.sli .u8 [],.slg 3 []]),.cl (.int .i64 0),.cl (.int .i64 e)] [])
     (fun y54 y55 y56 y61 y63 y64=>cond (decide (y54=49)) (cond (qh2 y63) (cond (!(qbt y63)) (zR [.cl (.agg [.int .i64 0,.sli .u8 [],.slg 3 []]),.cl (.int .i64 0),.cl (.int .i64 6)] []) (zR [.cl (.agg [.int .i64 y61,.sli .u8 [],.slg 3 y64]),.cl (.int .i64 (IntKind.i64.wrap (y56+y55))),.cl (.int .i64 0)] [])) none) (zR [.cl (.agg [.int .i64 y61,.sli .u8 [],.slg 3 y64]),.cl (.int .i64 (IntKind.i64.wrap (y56+y55))),.cl (.int .i64 0)] []))
     deep t A (1+B) t (by omega) hd.2 hk FUEL I.length I [] [] hin (zar _) (by unfold FUEL;omega) (by simp;omega) (by simp;omega)).trans ?_
    rw[show(deep - 1).toNat=n by omega]
    have hpl:=qxm (f:=qar n) (fun b hb h=>qij hb h) I.length I hin
    generalize hP:qcl (qar n) I.length I=p at*
    obtain⟨p1,p2,p3⟩:=p
    simp only[zbo] at hpl ⊢
    by_cases hz:p1=0
    ·subst hz
     rw[if_pos rfl,if_pos rfl,show IntKind.i64.wrap (1+B+A)=1+B+A from i64_in _ (by omega),qix]
     refine qae (fun h8=>qaj (qta (by omega) hpl.2.2) (qch (fun h9=> ?_) fun h9=> ?_)) fun h8=> ?_
     ·rw[if_pos ⟨h8,by simpa using h9⟩];rfl
     ·rw[if_neg (fun e=>by simp[e.2] at h9)];rfl
     ·rw[if_neg (fun e=>h8 e.1)];rfl
    ·rw[if_neg hz,if_neg hz]
     unfold xb2x
     rw[if_neg hz]
theorem xbc6 (b:List Int) (d:Int):xb2x (qar d.toNat b)=zR [.cl (.agg [.int .i64 (qem b d).1.1,.sli .u8 (qem b d).1.2.1,.slg 3 (qem b d).1.2.2]),.cl (.int .i64 (qem b d).2.1),.cl (.int .i64 (qem b d).2.2)] []:=by
 unfold xb2x
 by_cases hz:(qar d.toNat b).1=0
 ·rw[if_pos hz,qya hz]
 ·rw[if_neg hz,qxw hz];rfl
theorem xb0d (rk:Nat) (b:List Int) (deep:Int) (hp:(qad b&&(qck deep&&decide (deep.toNat<rk+1)))=true):q5h rk b deep=zR [.cl (.agg [.int .i64 (qem b deep).1.1,.sli .u8 (qem b deep).1.2.1,.slg 3 (qem b deep).1.2.2]),.cl (.int .i64 (qem b deep).2.1),.cl (.int .i64 (qem b deep).2.2)] []:=by
 simp only[zab,decide_eq_true_eq] at hp
 rw[<- xbc6]
 exact xbr7 rk b deep hp.1 (qik hp.2.1) hp.2.2
open IntWalk (i64_in u8_in u32_in u64_in i64_quo u8_quo rem_in)
noncomputable def xbls (p:Int×Nd) (l:List Int) (d:Int):Tree:=.ite (!(decide (p.1=0))) (.leaf (.pan (.iface 85 (.agg [.int .i64 p.1])) [some ⟨.var [.cl (.sli .u8 l),.cl (.int .i64 d)],false⟩])) (.leaf (.ret [.cl (.agg [.int .i64 p.2.1,.sli .u8 p.2.2.1,.slg 3 p.2.2.2])] [some ⟨.var [.cl (.sli .u8 l),.cl (.int .i64 d)],false⟩]))
theorem xbi0 (t:Int) (r:List Int) {d:Int} (h:0<d):qjp (t::r) d=if qbf t=false then r
   else if(qac r).2=0 then qkd r
   else if(r.length:Int) - (qac r).2<(qac r).1 then r.drop (qac r).2.toNat
   else r.drop ((qac r).2+(qac r).1).toNat:=by
 unfold qjp;rw[if_neg (by omega)]
theorem xbqg (rk:Nat) (l:List Int) (d:Int) (hb:qad l=true) (hd:0<=d/\d<=1000) (hk:d.toNat<rk+1):q5q rk l d=(xbls ((qar d.toNat l).1,(qar d.toNat l).2.1) (qjp l d) d).eval:=by
 unfold q5q
 refine qae (fun h=>qaj hb ?_) fun h=> ?_
 ·obtain⟨n,hn⟩: ∃n,d.toNat=n+1:=⟨d.toNat - 1,by omega⟩
  rw[hn]
  match l,hb with
  | [],_=>
   show _=(xbls (1,nd0) (qjp [] d) d).eval
   have:qjp [] d=[]:=by unfold qjp;rw[if_neg (by omega)]
   rw[this];rfl
  | t::r,hb=>
   have ht:=qa2 hb (i:=0) (x:=t) rfl
   have hl:=(qam hb).1
   have hbt:=qbu hb
   simp only[zbr] at hbt
   simp only[zad] at hl
   have hr:=qzd hbt
   rw[qjv,xbi0 t r h]
   unfold parse1
   simp only[qdy,qbn,qcu,qpm,qg4,qej,qab,List.isEmpty_cons,cond_false,zbv,zbr,Bool.not_not]
   refine qch (fun h1=>qaj hbt ?_) fun h1=> ?_
   ·have hkn: ¬qbf t=false:=by simp[h1]
    rw[if_neg hkn,if_neg hkn]
    refine qae (fun h5=> ?_) fun h5=> ?_
    ·rw[if_pos (.inl h5),if_pos h5];rfl
    rw[if_neg h5]
    have hdl:((r.drop (qac r).2.toNat).length:Int)=r.length - (qac r).2:=by simp only[zaq];omega
    refine qae (fun h6=> ?_) fun h6=> ?_
    ·rw[if_neg (show ¬((qac r).2=0\/(r.length:Int) - (qac r).2<(qac r).1) by omega),if_neg (show ¬((r.length:Int) - (qac r).2<(qac r).1) by omega)]
     refine qan (by omega) (qan h6 (qan (by omega) (qan h6 ?_)))
     have hin:qad ((r.drop (qac r).2.toNat).take (qac r).1.toNat)=true:=qgi (qa6 hbt _) _
     have hil:((r.drop (qac r).2.toNat).take (qac r).1.toNat).length<=1000000:=(qam hin).1
     rw[show List.drop (qac r).1.toNat (List.drop (qac r).2.toNat r)=r.drop ((qac r).2+(qac r).1).toNat by rw[List.drop_drop,show(qac r).2.toNat+(qac r).1.toNat=((qac r).2+(qac r).1).toNat by omega]]
     generalize hI:(r.drop (qac r).2.toNat).take (qac r).1.toNat=I at*
     refine qch (fun h7=>qaj ?_ ?_) fun h7=>qaj hin ?_
     ·simp only[zab,decide_eq_true_eq]
      exact⟨hin,qfx hd,by omega,by omega⟩
     ·rw[if_neg (show ¬qaq t=false by simp[h7])]
      unfold qbc
      rw[qab,show(d - 1).toNat=n by omega]
      generalize qcl (qar n) I.length I=p
      obtain⟨p1,p2,p3⟩:=p
      simp only[]
      by_cases hz:p1=0
      ·subst hz
       rw[if_pos rfl,if_pos rfl]
       by_cases h8:t=49/\qa5 p3=false
       ·rw[if_pos h8,if_pos h8];rfl
       ·rw[if_neg h8,if_neg h8];rfl
      ·rw[if_neg hz,if_neg hz];rfl
     ·rw[if_pos h7]
      refine qch (fun h8=>qaj (qfq (by omega)) ?_) fun h8=> ?_
      ·rw[if_pos h8];rfl
      ·rw[if_neg (show ¬_=true by simp[h8])];rfl
    ·rw[if_pos (show(qac r).2=0\/(r.length:Int) - (qac r).2<(qac r).1 by omega),if_pos (show(r.length:Int) - (qac r).2<(qac r).1 by omega)];rfl
   ·rw[if_pos h1,if_pos h1];rfl
 ·have e:d.toNat=0:=by omega
  have:qjp l d=l:=by unfold qjp;rw[if_pos (by omega)]
  rw[this,e];rfl
theorem xb19 (rk:Nat) (l:List Int) (d:Int) (hp:(qad l&&(qck d&&decide (d.toNat<rk+1)))=true):q5q rk l d=(Tree.ite (!(decide ((qlz l d).1=0))) (.leaf (.pan (.iface 85 (.agg [.int .i64 ((qlz l d).1)])) [some ⟨.var [.cl (.sli .u8 ((qlz l d).2.2)),.cl (.int .i64 d)],false⟩])) (.leaf (.ret [.cl (.agg [.int .i64 ((qlz l d).2.1.1),.sli .u8 ((qlz l d).2.1.2.1),.slg 3 ((qlz l d).2.1.2.2)])] [some ⟨.var [.cl (.sli .u8 ((qlz l d).2.2)),.cl (.int .i64 d)],false⟩]))).eval:=by
 simp only[zab,decide_eq_true_eq] at hp
 rw[xbqg rk l d hp.1 (qik hp.2.1) hp.2.2]
 unfold qlz
 rw[qab]
 rfl
theorem xbmb (b:List Int) (d:Int):(qlz b d).1=(qar d.toNat b).1:=by unfold qlz;rw[qab]
theorem xbmt (b:List Int) (d:Int):(qlz b d).2.1=(qar d.toNat b).2.1:=by unfold qlz;rw[qab]
theorem xbm8 (b:List Int) (d:Int):(qlz b d).2.2=qjp b d:=by unfold qlz;rw[qab]
theorem xbfo (rk:Nat) (F0:Int->Option Out) (F1:List CV->List CV->Option Out) (l:List Int) (d tag:Int) (v9:Int) (h1:0<=v9) (h2:v9<=1000) (h3:v9.toNat<rk) (k0:Int->List Int->Int->Option Out) (k1:Int->Nat->List Int->Int->List Int->Int->Int->Nat->List CV->List Int->Int->List CV->Option Out)
  (hk0: ∀e,k0 e l d=F0 e) (hk1: ∀a b c e rows f g kids,k1 tag a b c l d tag e rows f g kids=F1 rows kids): ∀(f m:Nat) (b:List Int) (rows kids:List CV),qad b=true->b.length<=m->b.length<f->rows.length+b.length<=1000000->kids.length+b.length<=1000000->
  qkj rk k0 k1 f tag rows.length l d tag kids.length rows b v9 kids
   =if(qcl (qar v9.toNat) m b).1=0 then F1 (rows++(qcl (qar v9.toNat) m b).2.2.map (CV.sli .u8)) (kids++(qcl (qar v9.toNat) m b).2.1.map ndCV) else F0 (qcl (qar v9.toNat) m b).1
 | 0,m,b,rows,kids,hb,hm,hf,hr,hk=>by omega
 | f+1,m,b,rows,kids,hb,hm,hf,hr,hk=>by
  show qll rk (qkj rk k0 k1 f) k0 k1 tag rows.length l d tag kids.length rows b v9 kids=_
  unfold qll
  refine qae (fun h=> ?_) fun h=> ?_
  ·have hne:b≠[]:=by intro e;subst e;simp at h
   refine qaj ?_ ?_
   ·simp only[zab,decide_eq_true_eq]
    exact⟨hb,qfx (by omega),h3⟩
   ·obtain⟨m,rfl⟩: ∃k,m=k+1:=⟨m - 1,by omega⟩
    simp only[xbmb,xbmt,xbm8]
    by_cases hz:(qar v9.toNat b).1=0
    ·have hu:=qij hb hz
     rw[qwb hne hz]
     refine xbp8 hz ?_
     rw[q53 hb hz]
     rw[show IntKind.i64.wrap ((b.length:Int) - (((b.drop (qar v9.toNat b).2.2.toNat).length:Nat):Int))=(qar v9.toNat b).2.2 from(i64_in _ (by have:=(qam hb).1;simp only[zaq];omega)).trans (by simp only[zaq];omega)]
     refine qcx (by simp only[zag,zay];omega) (qcx (by simp only[zag,zay];omega) (qan (by omega) (qan hu.2 ?_)))
     refine qcx (by simp only[zag,zay];omega) (qcx (by simp only[zag,zay];omega) ?_)
     refine(xbfo rk F0 F1 l d tag v9 h1 h2 h3 k0 k1 hk0 hk1 f m _ _ _ (qa6 hb _) (by simp only[zaq];omega) (by simp only[zaq];omega) (by simp only[zaq,zag,zay];omega) (by simp only[zaq,zag,zay];omega)).trans ?_
     simp only[zcs,List.singleton_append,zbi]
     rfl
    ·rw[qyr hne hz]
     refine xbhq hz ?_
     rw[if_neg hz,hk0]
  ·have e:b=[]:=zau (by omega)
   subst e
   rw[qny,hk1]
   simp
theorem xbzq (rk:Nat) (tag:Int) (b:List Int) (l:List Int) (d:Int) (hp:(qad b&&(qck d&&decide (0<d/\d.toNat<rk+1)))=true):xbcf rk tag b l d=(Tree.ite (!(decide ((qbc tag b d).1=0))) (.leaf (.pan (.iface 85 (.agg [.int .i64 ((qbc tag b d).1)])) [some ⟨.var [.cl (.sli .u8 l),.cl (.int .i64 d)],false⟩])) (.leaf (.ret [.cl (.agg [.int .i64 ((qbc tag b d).2.1),.sli .u8 ((qbc tag b d).2.2.1),.slg 3 ((qbc tag b d).2.2.2)])] [some ⟨.var [.cl (.sli .u8 l),.cl (.int .i64 d)],false⟩]))).eval:=by
 simp only[zab,decide_eq_true_eq] at hp
 obtain⟨hb,hd,h0,hk⟩:=hp
 have hd:=qik hd
 have hlen:=(qam hb).1
 unfold xbcf
 simp only[qab]
 rw[show IntKind.i64.wrap (d - 1)=d - 1 from i64_in _ (by omega)]
 refine(xbfo rk (fun e=>some (.pan (.iface 85 (.agg [.int .i64 e])) [some ⟨.var [.cl (.sli .u8 l),.cl (.int .i64 d)],false⟩]))
  (fun rows kids=>cond (!decide (tag=49)) (zR [.cl (.agg [.int .i64 tag,.sli .u8 [],.slg 3 kids])] [some ⟨.var [.cl (.sli .u8 l),.cl (.int .i64 d)],false⟩]) (cond (qh2 rows) (cond (qbt rows) (zR [.cl (.agg [.int .i64 tag,.sli .u8 [],.slg 3 kids])] [some ⟨.var [.cl (.sli .u8 l),.cl (.int .i64 d)],false⟩]) (cond true (some (.pan (.iface 85 (.agg [.int .i64 6])) [some ⟨.var [.cl (.sli .u8 l),.cl (.int .i64 d)],false⟩])) (zR [.cl (.agg [.int .i64 tag,.sli .u8 [],.slg 3 kids])] [some ⟨.var [.cl (.sli .u8 l),.cl (.int .i64 d)],false⟩]))) none))
  l d tag (d - 1) (by omega) (by omega) (by omega) _ _ (fun _=>rfl) (fun _ _ _ _ _ _ _ _=>rfl) FUEL b.length b [] [] hb (zar _) (by unfold FUEL;omega) (by simp;omega) (by simp;omega)).trans ?_
 unfold qbc
 rw[qab]
 have hpl:=qxm (f:=qar (d - 1).toNat) (fun b hb h=>qij hb h) b.length b hb
 generalize hP:qcl (qar (d - 1).toNat) b.length b=p at*
 obtain⟨p1,p2,p3⟩:=p
 simp only[zbo] at hpl ⊢
 by_cases hz:p1=0
 ·subst hz
  rw[if_pos rfl,qix]
  refine qas (fun h8=> ?_) fun h8=>qaj (qta (by omega) hpl.2.2) (qch (fun h9=> ?_) fun h9=> ?_)
  ·simp[h8,Tree.eval]
  ·simp[h8,h9,Tree.eval]
  ·simp[h8,h9,Tree.eval]
 ·rw[if_neg hz]
  simp[hz,Tree.eval]
theorem xb2g (b:List Int) (hp:qad b=true):xbep b=zR [.cl (.agg [.int .i64 ((qba b).1.1),.sli .u8 ((qba b).1.2.1),.slg 3 ((qba b).1.2.2)]),.cl (.int .i64 ((qba b).2))] []:=by
 have hl:=(qam hp).1
 unfold xbep
 simp only[xbmb,xbmt,xbm8]
 refine qb2 (by omega) (qaj ?_ ?_)
 ·simp only[zab];exact⟨hp,qfx (by omega)⟩
 unfold qba qwf
 rw[qab]
 show _=zR [.cl (.agg [.int .i64 (if(qar 32 b).1=0 then(if(qar 32 b).2.2<b.length then(nd0,7) else((qar 32 b).2.1,0)) else(nd0,(qar 32 b).1):Nd×Int).1.1,.sli .u8 (if(qar 32 b).1=0 then(if(qar 32 b).2.2<b.length then(nd0,7) else((qar 32 b).2.1,0)) else(nd0,(qar 32 b).1):Nd×Int).1.2.1,.slg 3 (if(qar 32 b).1=0 then(if(qar 32 b).2.2<b.length then(nd0,7) else((qar 32 b).2.1,0)) else(nd0,(qar 32 b).1):Nd×Int).1.2.2]),.cl (.int .i64 (if(qar 32 b).1=0 then(if(qar 32 b).2.2<b.length then(nd0,7) else((qar 32 b).2.1,0)) else(nd0,(qar 32 b).1):Nd×Int).2)] []
 by_cases hz:(qar (32:Int).toNat b).1=0
 ·have hu:=qij hp hz
  rw[q53 hp hz]
  have hz':(qar 32 b).1=0:=hz
  rw[if_pos hz']
  refine xbp8 hz (qae (fun h=> ?_) fun h=> ?_)
  ·rw[if_neg (by simp only[zaq] at h;exact fun e=>by have:(qar (32:Int).toNat b).2.2<b.length:=e;omega)];rfl
  ·rw[if_pos (by simp only[zaq] at h;show(qar (32:Int).toNat b).2.2<b.length;omega)];rfl
 ·have hz': ¬(qar 32 b).1=0:=hz
  rw[if_neg hz']
  exact xbhq hz rfl
theorem xbzx (b:List Int) (hp:qad b=true):xblp b=zR [.cl (.agg [.int .i64 ((qba b).1.1),.sli .u8 ((qba b).1.2.1),.slg 3 ((qba b).1.2.2)]),.cl (.int .i64 ((qba b).2))] []:=by
 have hl:=(qam hp).1
 unfold xblp
 refine qb2 (by omega) (qaj ?_ ?_)
 ·simp only[zab];exact⟨hp,qfx (by omega)⟩
 unfold qba qwf
 rw[qab]
 show _=zR [.cl (.agg [.int .i64 (if(qar 32 b).1=0 then(if(qar 32 b).2.2<b.length then(nd0,7) else((qar 32 b).2.1,0)) else(nd0,(qar 32 b).1):Nd×Int).1.1,.sli .u8 (if(qar 32 b).1=0 then(if(qar 32 b).2.2<b.length then(nd0,7) else((qar 32 b).2.1,0)) else(nd0,(qar 32 b).1):Nd×Int).1.2.1,.slg 3 (if(qar 32 b).1=0 then(if(qar 32 b).2.2<b.length then(nd0,7) else((qar 32 b).2.1,0)) else(nd0,(qar 32 b).1):Nd×Int).1.2.2]),.cl (.int .i64 (if(qar 32 b).1=0 then(if(qar 32 b).2.2<b.length then(nd0,7) else((qar 32 b).2.1,0)) else(nd0,(qar 32 b).1):Nd×Int).2)] []
 by_cases hz:(qar (32:Int).toNat b).1=0
 ·have hz':(qar 32 b).1=0:=hz
  rw[if_pos hz']
  simp only[qya hz]
  refine xbaf (by simp) (qae (fun h=> ?_) fun h=> ?_)
  ·rw[if_pos (show(qar 32 b).2.2<b.length from h)];rfl
  ·rw[if_neg (show ¬(qar 32 b).2.2<b.length from h)];rfl
 ·have hz': ¬(qar 32 b).1=0:=hz
  rw[if_neg hz']
  simp only[qxw hz]
  exact xbhq hz rfl
theorem xb3x: ∀ {n:Nat} {x:List CV},isNf n x=true->∃m t b l,n=m+1/\x=[.int .i64 t,.sli .u8 b,.slg 3 l]/\b.length<=100000000/\l.length<=100000000/\∀c∈l, ∃y,c=.agg y/\isNf m y=true
 | 0,x,h=>by simp[isNf] at h
 | n+1,x,h=>by
  unfold isNf at h
  split at h
  ·exact absurd h zb1
  ·rename_i n' t b l hn
   obtain rfl:n=n':=by omega
   simp only[zab,decide_eq_true_eq,zaj] at h
   refine⟨n,t,b,l,rfl,rfl,h.1,h.2.1,fun c hc=> ?_⟩
   have:=h.2.2 c hc
   split at this
   ·exact⟨_,rfl,this⟩
   ·exact absurd this zb1
  ·exact absurd h zb1
theorem xb8x {n:Nat} {t:Int} {b:List Int} {l:List CV} (h1:b.length<=100000000) (h2:l.length<=100000000) (h3: ∀c∈l, ∃y,c=.agg y/\isNf n y=true):isNf (n+1) [.int .i64 t,.sli .u8 b,.slg 3 l]=true:=by
 show(decide (b.length<=100000000)&&(decide (l.length<=100000000)&&l.all fun c=>match c with|.agg x=>isNf n x|_=>false))=true
 simp only[zab,decide_eq_true_eq,zaj]
 refine⟨h1,h2,fun c hc=> ?_⟩
 obtain⟨y,rfl,hy⟩:=h3 c hc
 exact hy
theorem xbp3 {x:List CV} (h:isN x=true): ∃n,isNf n x=true:=by
 unfold isN at h;rw[qab] at h;exact @of_decide_eq_true _ (Classical.propDecidable _) h
theorem xb1n {n:Nat} {x:List CV} (h:isNf n x=true):isN x=true:=by
 unfold isN;rw[qab];exact @decide_eq_true _ (Classical.propDecidable _) ⟨n,h⟩
open IntWalk (i64_in u8_in u32_in u64_in i64_quo u8_quo rem_in)
def ndL (x:Nd):List CV:=[.int .i64 x.1,.sli .u8 x.2.1,.slg 3 x.2.2]
open IntWalk (i64_in u8_in u32_in u64_in i64_quo u8_quo rem_in)
theorem qds: ∀ {n:Nat} {x:List CV},isTf n x=true->∃m t b l,n=m+1/\x=[.int .i64 t,.sli .u8 b,.slg 3 l]/\(∀z∈b,0<=z/\z<=255)/\∀c∈l, ∃y,c=.agg y/\isTf m y=true
 | 0,x,h=>by simp[isTf] at h
 | n+1,x,h=>by
  unfold isTf at h
  split at h
  ·exact absurd h zb1
  ·rename_i n' t b l hn
   obtain rfl:n=n':=by omega
   simp only[zab,zaj] at h
   refine⟨n,t,b,l,rfl,rfl,fun z hz=>qj6 (h.1 z hz),fun c hc=> ?_⟩
   have:=h.2 c hc
   split at this
   ·exact⟨_,rfl,this⟩
   ·exact absurd this zb1
  ·exact absurd h zb1
theorem xbli: ∀ {n m:Nat} {x:List CV},isTf n x=true->isTf m x=true->qdr n x=qdr m x
 | n,m,x,hn,hm=>by
  obtain⟨n',t,b,l,rfl,rfl,_,hl⟩:=qds hn
  obtain⟨m',t',b',l',rfl,he,_,hl'⟩:=qds hm
  simp only[zct,CV.int.injEq,CV.sli.injEq,CV.slg.injEq,true_and,and_true] at he
  obtain⟨rfl,rfl,rfl⟩:=he
  show 1+b.length+(l.map fun c=>qdr n' (cell1 c)).sum=1+b.length+(l.map fun c=>qdr m' (cell1 c)).sum
  congr 2
  refine zcr fun c hc=> ?_
  obtain⟨y,rfl,hy⟩:=hl c hc
  obtain⟨y',e,hy'⟩:=hl' _ hc
  cases e
  exact xbli hy hy'
theorem q56 {f g:CV->Bool}: ∀ {l:List CV},(∀c∈l,f c=g c)->l.all f=l.all g
 | [],_=>rfl
 | c::r,h=>by rw[zck,zck,h c (zcg ..),q56 fun c' hc=>h c' (zba _ hc)]
theorem xbxo: ∀ {n m:Nat} {x:List CV},isTf n x=true->isTf m x=true->∀d,okF n d x=okF m d x
 | n,m,x,hn,hm,d=>by
  obtain⟨n',t,b,l,rfl,rfl,_,hl⟩:=qds hn
  obtain⟨m',t',b',l',rfl,he,_,hl'⟩:=qds hm
  simp only[zct,CV.int.injEq,CV.sli.injEq,CV.slg.injEq,true_and,and_true] at he
  obtain⟨rfl,rfl,rfl⟩:=he
  cases d with
  | zero=>rfl
  | succ d=>
   show(qbf t&&(if qaq t=true then decide (b=[])&&l.all fun c=>okF n' d (cell1 c) else decide (l=[])&&qbk t b))=(qbf t&&(if qaq t=true then decide (b=[])&&l.all fun c=>okF m' d (cell1 c) else decide (l=[])&&qbk t b))
   have:(l.all fun c=>okF n' d (cell1 c))=l.all fun c=>okF m' d (cell1 c):=q56 fun c hc=>by
    obtain⟨y,rfl,hy⟩:=hl c hc
    obtain⟨y',e,hy'⟩:=hl' _ hc
    cases e
    exact xbxo hy hy' d
   rw[this]
theorem qpb: ∀ {n m:Nat} {x:List CV},isTf n x=true->isTf m x=true->qak n x=qak m x
 | n,m,x,hn,hm=>by
  obtain⟨n',t,b,l,rfl,rfl,_,hl⟩:=qds hn
  obtain⟨m',t',b',l',rfl,he,_,hl'⟩:=qds hm
  simp only[zct,CV.int.injEq,CV.sli.injEq,CV.slg.injEq,true_and,and_true] at he
  obtain⟨rfl,rfl,rfl⟩:=he
  have:(l.map fun c=>qak n' (cell1 c))=l.map fun c=>qak m' (cell1 c):=zcr fun c hc=>by
   obtain⟨y,rfl,hy⟩:=hl c hc
   obtain⟨y',e,hy'⟩:=hl' _ hc
   cases e
   exact qpb hy hy'
  simp only[qak,this]
theorem qnj {a:List CV} {n:Nat} (h:isTf n a=true):isTf (rkOf a) a=true:=by
 unfold rkOf
 have hx: ∃n,isTf n a=true:=⟨n,h⟩
 rw[@dif_pos _ (Classical.propDecidable _) hx]
 exact Classical.choose_spec hx
theorem qkv {n:Nat} {x:List CV} (h:isSr n x=true):isTf n x=true/\qdr n x<=30000:=by
 unfold isSr at h;rw[qab] at h;simpa [zab] using h
theorem q7f {n:Nat} {x:List CV} (h:isTf n x=true) (h':qdr n x<=30000):isSr n x=true:=by
 unfold isSr;rw[qab];simp[h,h']
theorem qdx {x:List CV} (h:isS x=true): ∃n,isTf n x=true/\qdr n x<=30000:=by
 unfold isS at h;rw[qab] at h;exact @of_decide_eq_true _ (Classical.propDecidable _) h
theorem xbfa {x:List CV} {n:Nat} (h:isTf n x=true) (h':qdr n x<=30000):isS x=true:=by
 unfold isS;rw[qab];exact @decide_eq_true _ (Classical.propDecidable _) ⟨n,h,h'⟩
theorem qxz {n:Nat} {x:List CV} (h:isWr n x=true):isTf n x=true/\qdr n x<=30000/\∃d,okF n d x=true:=by
 unfold isWr at h;rw[qab] at h;exact @of_decide_eq_true _ (Classical.propDecidable _) h
theorem xbod {n:Nat} {x:List CV} (h:isTf n x=true/\qdr n x<=30000/\∃d,okF n d x=true):isWr n x=true:=by
 unfold isWr;rw[qab];exact @decide_eq_true _ (Classical.propDecidable _) h
theorem xb39 {x:List CV} {n:Nat} (h:isTf n x=true/\qdr n x<=30000/\∃d,okF n d x=true):isW x=true:=by
 unfold isW;rw[qab];exact @decide_eq_true _ (Classical.propDecidable _) ⟨n,h⟩
theorem qyq {n:Nat} {a:List CV} (h:isTf n a=true) (d:Int):q3l a d=if okF n d.toNat a=true then((qak n a).1.length:Int) else -1:=by
 unfold q3l;rw[qab,xbxo (qnj h) h,qpb (qnj h) h]
theorem qq1 {n:Nat} {a:List CV} (h:isTf n a=true):qkp a=if(qak n a).2=true then((qak n a).1,true) else([],false):=by
 unfold qkp;rw[qab,qpb (qnj h) h]
theorem qoy {n:Nat} {a:List CV} (h:isTf n a=true) (d:Int):qgr a d=if okF n d.toNat a=true/\(qak n a).2=true then((qak n a).1,true) else([],false):=by
 unfold qgr;rw[qab,xbxo (qnj h) h,qpb (qnj h) h]
theorem qie {n:Nat} {a:List CV} (h:isTf n a=true):qbm a=if okF n 32 a=true/\(qak n a).2=true then((qak n a).1,0) else([],1):=by
 unfold qbm;rw[qab,xbxo (qnj h) h,qpb (qnj h) h]
theorem xbfx {n:Nat} {a:List CV} (h:isTf n a=true):q1m a=decide (okF n 32 a=true/\(qak n a).2=true):=by
 unfold q1m;rw[qab,xbxo (qnj h) h,qpb (qnj h) h]
theorem qus {tag n:Int} (h:qlx tag n=true):(0<=tag/\tag<=255)/\0<=n/\n<16777216:=by
 unfold qlx at h;rw[qab] at h;exact of_decide_eq_true h
theorem qwy {l l':List Int} {k:Nat} (h:l=l') (hk:k=l'.length):zR [.ref 0 0 k true 1] [some ⟨.ints .u8 l,false⟩]=zR [.ref 0 0 l'.length true 1] [some ⟨.ints .u8 l',false⟩]:=by rw[h,hk]
theorem xb54 (tag n:Int) (hp:qlx tag n=true):xbxw tag n=zR [.ref 0 0 (qdg tag n).length true 1] [some ⟨.ints .u8 (qdg tag n),false⟩]:=by
 obtain⟨ht,hn⟩:=qus hp
 unfold xbxw qdg
 rw[qab]
 unfold qci
 have et:IntKind.u8.wrap tag=tag:=u8_in _ (by omega)
 refine qae (fun h=> ?_) fun h=>qae (fun h2=> ?_) fun h2=>qae (fun h3=> ?_) fun h3=> ?_
 ·rw[if_pos h]
  exact qwy (by rw[et,show IntKind.u8.wrap n=n from u8_in _ (by omega)]) rfl
 ·rw[if_neg h,if_pos h2]
  exact qwy (by rw[et,show IntKind.u8.wrap n=n from u8_in _ (by omega)]) rfl
 ·rw[if_neg h,if_neg h2,if_pos h3]
  refine qwy ?_ rfl
  rw[et,zb4 (by omega),zb5 (by omega),show IntKind.i64.wrap (n/ 256)=n/ 256 from i64_in _ (by omega),show IntKind.u8.wrap (n/ 256)=n/ 256 from u8_in _ (by omega),show IntKind.u8.wrap (n % 256)=n % 256 from u8_in _ (by omega)]
 ·rw[if_neg h,if_neg h2,if_neg h3]
  refine qwy ?_ rfl
  rw[et,zb4 (by omega),zb4 (by omega),show IntKind.i64.wrap (n/ 256)=n/ 256 from i64_in _ (by omega),show IntKind.i64.wrap (n/ 65536)=n/ 65536 from i64_in _ (by omega),zb5 (by omega),zb5 (by omega),
   show IntKind.u8.wrap (n/ 65536)=n/ 65536 from u8_in _ (by omega),show IntKind.u8.wrap (n/ 256 % 256)=n/ 256 % 256 from u8_in _ (by omega),show IntKind.u8.wrap (n % 256)=n % 256 from u8_in _ (by omega)]
open IntWalk (i64_in u8_in u32_in u64_in i64_quo u8_quo rem_in)
theorem xbqw (n:Int):IntKind.u8.wrap n=n % 256:=by simp[IntKind.wrap,IntKind.signed,IntKind.bits]
def putB (n:Int):Nat->List Int
 | 0=>[]
 | c+1=>n/ 2 ^ (8*c) % 256::putB n c
theorem xb1t (n:Int) (h0:0<=n) (h1:n<16777216): ∀(c f:Nat) (l:List Int),c<=3->c<f->l.length+c<=10->
  qms (fun y8 _ _ _ y12=>zR [.ref 0 0 y8 true 1] [some ⟨.ints .u8 y12,false⟩]) f l.length n ((c:Int) - 1) l=zR [.ref 0 0 (l++putB n c).length true 1] [some ⟨.ints .u8 (l++putB n c),false⟩]
 | c,0,l,_,hf,_=>by omega
 | 0,f+1,l,_,_,hl=>by
  show qky (qms (fun y8 _ _ _ y12=>zR [.ref 0 0 y8 true 1] [some ⟨.ints .u8 y12,false⟩]) f) (fun y8 _ _ _ y12=>zR [.ref 0 0 y8 true 1] [some ⟨.ints .u8 y12,false⟩]) l.length n (((0:Nat):Int) - 1) l=_
  unfold qky
  refine qb2 (by omega) ?_
  simp only[putB,zcd]
 | c+1,f+1,l,hc,hf,hl=>by
  show qky (qms (fun y8 _ _ _ y12=>zR [.ref 0 0 y8 true 1] [some ⟨.ints .u8 y12,false⟩]) f) (fun y8 _ _ _ y12=>zR [.ref 0 0 y8 true 1] [some ⟨.ints .u8 y12,false⟩]) l.length n (((c+1:Nat):Int) - 1) l=_
  unfold qky
  have e1:((c+1:Nat):Int) - 1=c:=by omega
  rw[e1]
  refine qan (by omega) ?_
  simp only[show IntKind.i64.wrap ((8:Int)*(c:Int))=((8*c:Nat):Int) from(i64_in _ (by omega)).trans (by omega)]
  refine qb2 (by omega) ?_
  have e2:min ((8*c:Nat):Int).toNat 64=8*c:=by show min (8*c) 64=8*c;omega
  simp only[e2]
  have e3:IntKind.u8.wrap (Int.fdiv n (2 ^ (8*c)))=n/ 2 ^ (8*c) % 256:=by
   have hc2:c=0\/c=1\/c=2:=by omega
   rw[xbqw]
   rcases hc2 with rfl|rfl|rfl<;>rw[zbe n (by decide)]
  rw[e3,show IntKind.i64.wrap ((c:Int) - 1)=(c:Int) - 1 from i64_in _ (by omega)]
  refine qcx (by simp only[zag,zay];omega) (qcx (by simp only[zag,zay];omega) ?_)
  refine(xb1t n h0 h1 c f _ (by omega) (by omega) (by simp only[zag,zay];omega)).trans ?_
  simp only[putB,zcs,List.singleton_append]
theorem xb72 (tag n:Int) (hp:qlx tag n=true):xb7n tag n=zR [.ref 0 0 (qdg tag n).length true 1] [some ⟨.ints .u8 (qdg tag n),false⟩]:=by
 obtain⟨ht,hn⟩:=qus hp
 unfold xb7n qdg qb6
 simp only[qab]
 unfold qci qax
 have et:IntKind.u8.wrap tag=tag:=u8_in _ (by omega)
 rw[et]
 by_cases h:n<128
 ·rw[if_pos h,if_pos h,show IntKind.i64.wrap ((1:Int) - 1)=0 from i64_in _ (by omega),show IntKind.u8.wrap n=n from u8_in _ (by omega)]
  exact qan rfl rfl
 ·rw[if_neg h,if_neg h]
  have fin: ∀c:Nat,1<=c->c<=3->∀l',[tag,128+(c:Int)]++putB n c=l'->(cond (decide (IntKind.i64.wrap ((c:Int)+1 - 1)=0)) (zR [.ref 0 0 2 true 1] [some ⟨.ints .u8 [tag,IntKind.u8.wrap n],false⟩]) (qms (fun y8 _ _ _ y12=>zR [.ref 0 0 y8 true 1] [some ⟨.ints .u8 y12,false⟩]) FUEL 2 n (IntKind.i64.wrap (IntKind.i64.wrap ((c:Int)+1 - 1) - 1)) [tag,IntKind.u8.wrap (IntKind.i64.wrap ((128:Int)+IntKind.i64.wrap ((c:Int)+1 - 1)))]))=zR [.ref 0 0 l'.length true 1] [some ⟨.ints .u8 l',false⟩]:=fun c h1 h3 l' hl'=>by
   rw[show IntKind.i64.wrap ((c:Int)+1 - 1)=c from(i64_in _ (by omega)).trans (by omega),show IntKind.i64.wrap ((128:Int)+c)=128+c from i64_in _ (by omega),show IntKind.u8.wrap ((128:Int)+c)=128+c from u8_in _ (by omega),show IntKind.i64.wrap ((c:Int) - 1)=(c:Int) - 1 from i64_in _ (by omega)]
   refine qb2 (by omega) ((xb1t n hn.1 hn.2 c FUEL [tag,128+(c:Int)] h3 (by unfold FUEL;omega) (by simp only[zad,zcb];omega)).trans ?_)
   rw[hl']
  by_cases h2:n<256
  ·rw[if_pos h2,if_pos h2]
   refine fin 1 (by omega) (by omega) _ ?_
   show[tag,(129:Int),n/ 1 % 256]=_
   rw[show n/ 1 % 256=n by omega]
  ·rw[if_neg h2,if_neg h2]
   by_cases h3:n<65536
   ·rw[if_pos h3,if_pos h3]
    refine fin 2 (by omega) (by omega) _ ?_
    show[tag,(130:Int),n/ 256 % 256,n/ 1 % 256]=_
    rw[show n/ 256 % 256=n/ 256 by omega,show n/ 1 % 256=n % 256 by omega]
   ·rw[if_neg h3,if_neg h3]
    refine fin 3 (by omega) (by omega) _ ?_
    show[tag,(131:Int),n/ 65536 % 256,n/ 256 % 256,n/ 1 % 256]=_
    rw[show n/ 65536 % 256=n/ 65536 by omega,show n/ 1 % 256=n % 256 by omega]
theorem xbk3 {c:CV} (h:xbw8 c=true): ∃x,c=.sli .u8 x/\rowB x=true:=by
 unfold xbw8 at h
 split at h
 ·exact⟨_,rfl,h⟩
 ·exact absurd h zb1
theorem qu7 {l:List CV} (h:qog l=true):l.length<=1000000/\(∀c∈l, ∃x,c=.sli .u8 x)/\(l.flatMap qby).length<=1000000:=by
 unfold qog at h
 rw[qab] at h
 simp only[zab,decide_eq_true_eq,zaj] at h
 exact⟨h.1,fun c hc=>let ⟨x,e,_⟩:=xbk3 (h.2.1 c hc);⟨x,e⟩,h.2.2⟩
theorem qjf {l:List CV} {i:Nat} {x:List Int} (h:l[i]? =some (.sli .u8 x)):(l.drop i).flatMap qby=x++(l.drop (i+1)).flatMap qby:=by
 obtain⟨hlt,e⟩:=zae.1 h
 rw[zbw hlt,e,za3]
 rfl
theorem xbnl (l:List CV) (hl:l.length<=1000000) (hall: ∀c∈l, ∃x,c=.sli .u8 x): ∀(f i:Nat) (acc:List Int),i<=l.length->l.length<f+i->acc.length+((l.drop i).flatMap qby).length<=1000000->
  qj9 (fun _ _ _ _ _ _ y7=>zR [.cl (.sli .u8 y7)] []) f l acc.length i acc=zR [.cl (.sli .u8 (acc++(l.drop i).flatMap qby))] []
 | 0,i,acc,hi,hf,_=>by omega
 | f+1,i,acc,hi,hf,hs=>by
  show qlj (qj9 (fun _ _ _ _ _ _ y7=>zR [.cl (.sli .u8 y7)] []) f) (fun _ _ _ _ _ _ y7=>zR [.cl (.sli .u8 y7)] []) l acc.length i acc=_
  unfold qlj
  refine qae (fun h=> ?_) fun h=> ?_
  ·obtain⟨c,hc⟩:=qbs (b:=l) (i:=i) (by omega)
   obtain⟨x,rfl⟩:=hall c (zac hc)
   refine qan (by omega) (qan h ?_)
   rw[show(i:Int).toNat=i from rfl,hc,zai]
   refine qaj rfl ?_
   have hfl:=qjf hc
   rw[hfl,zag] at hs
   have e:qby ((cell1 (.sli .u8 x)).getD 0 .nili)=x:=rfl
   simp only[e]
   refine qcx (by simp only[zag];omega) (qcx (by simp only[zag];omega) ?_)
   rw[show IntKind.i64.wrap ((i:Int)+1)=((i+1:Nat):Int) from(i64_in _ (by omega)).trans (by omega)]
   refine(xbnl l hl hall f (i+1) (acc++x) (by omega) (by omega) (by simp only[zag];omega)).trans ?_
   rw[hfl,zcs]
  ·rw[zbl (by omega),List.flatMap_nil,zcd]
theorem xbyx (l:List CV) (hp:qog l=true):xbnj l=zR [.cl (.sli .u8 (qdn l))] []:=by
 obtain⟨h1,h2,h3⟩:=qu7 hp
 unfold xbnj qdn
 simp only[qab]
 exact xbnl l h1 h2 FUEL 0 [] (by omega) (by unfold FUEL;omega) (by simpa using h3)
theorem xbyo (l:List CV) (hl:l.length<=1000000) (hall: ∀c∈l, ∃x,c=.sli .u8 x): ∀(f i:Nat) (acc:List Int),i<=l.length->l.length<f+i->acc.length+((l.drop i).flatMap qby).length<=1000000->
  qgh (fun _ _ _ _ y27=>zR [.cl (.sli .u8 y27)] []) f acc.length l (l.length:Int) i acc=zR [.cl (.sli .u8 (acc++(l.drop i).flatMap qby))] []
 | 0,i,acc,hi,hf,_=>by omega
 | f+1,i,acc,hi,hf,hs=>by
  show qg9 (qgh (fun _ _ _ _ y27=>zR [.cl (.sli .u8 y27)] []) f) (fun _ _ _ _ y27=>zR [.cl (.sli .u8 y27)] []) acc.length l (l.length:Int) i acc=_
  unfold qg9
  refine qae (fun h=> ?_) fun h=> ?_
  ·obtain⟨c,hc⟩:=qbs (b:=l) (i:=i) (by omega)
   obtain⟨x,rfl⟩:=hall c (zac hc)
   refine qan (by omega) (qan h ?_)
   rw[show(i:Int).toNat=i from rfl,hc,zai]
   refine qaj rfl ?_
   have hfl:=qjf hc
   rw[hfl,zag] at hs
   have e:qby ((cell1 (.sli .u8 x)).getD 0 .nili)=x:=rfl
   simp only[e]
   refine qcx (by simp only[zag];omega) (qcx (by simp only[zag];omega) ?_)
   rw[show IntKind.i64.wrap ((i:Int)+1)=((i+1:Nat):Int) from(i64_in _ (by omega)).trans (by omega)]
   refine(xbyo l hl hall f (i+1) (acc++x) (by omega) (by omega) (by simp only[zag];omega)).trans ?_
   rw[hfl,zcs]
  ·rw[zbl (by omega),List.flatMap_nil,zcd]
theorem xblq (l:List CV) (hl:l.length<=1000000) (hall: ∀c∈l, ∃x,c=.sli .u8 x) (k0:ByteArray->List CV->Int->List Int->List CV->Int->Int->List CV->Nat->List Int->Int->List Int->Int->Int->Int->ByteArray->Option Out) (k1:List CV->Int->List CV->Int->Int->Option Out): ∀(f i:Nat) (n:Int),i<=l.length->l.length<f+i->0<=n->n+((l.drop i).flatMap qby).length<=1000000->
  qh8 k0 k1 f l n l (l.length:Int) i=k1 l (n+((l.drop i).flatMap qby).length) l (l.length:Int) l.length
 | 0,i,n,hi,hf,_,_=>by omega
 | f+1,i,n,hi,hf,h0,hs=>by
  show qjb (qh8 k0 k1 f) k0 k1 l n l (l.length:Int) i=_
  unfold qjb
  refine qae (fun h=> ?_) fun h=> ?_
  ·obtain⟨c,hc⟩:=qbs (b:=l) (i:=i) (by omega)
   obtain⟨x,rfl⟩:=hall c (zac hc)
   refine qan (by omega) (qan h ?_)
   rw[show(i:Int).toNat=i from rfl,hc,zai]
   refine qaj rfl ?_
   have hfl:=qjf hc
   rw[hfl,zag] at hs
   have e:qby ((cell1 (.sli .u8 x)).getD 0 .nili)=x:=rfl
   simp only[e]
   rw[show IntKind.i64.wrap (n+(x.length:Int))=n+x.length from i64_in _ (by omega)]
   refine qb2 (by omega) ?_
   rw[show IntKind.i64.wrap ((i:Int)+1)=((i+1:Nat):Int) from(i64_in _ (by omega)).trans (by omega)]
   refine(xblq l hl hall k0 k1 f (i+1) _ (by omega) (by omega) (by omega) (by omega)).trans ?_
   rw[hfl,zag,show n+(x.length:Int)+(((l.drop (i+1)).flatMap qby).length:Nat)=n+((x.length+((l.drop (i+1)).flatMap qby).length:Nat):Int) by omega]
  ·obtain rfl:i=l.length:=by omega
   rw[zbl (zar _)]
   simp
theorem xbtx (l:List CV) (hp:qog l=true):xbcd l=zR [.cl (.sli .u8 (qdn l))] []:=by
 obtain⟨h1,h2,h3⟩:=qu7 hp
 unfold xbcd qdn qa0
 simp only[qab]
 refine(xblq l h1 h2 _ _ FUEL 0 0 (by omega) (by unfold FUEL;omega) (by omega) (by rw[zbn];omega)).trans ?_
 refine qaj ?_ (xbyo l h1 h2 FUEL 0 [] (by omega) (by unfold FUEL;omega) (by simpa using h3))
 unfold q1i
 rw[qab,zbn]
 exact decide_eq_true (by omega)
theorem xbxi (a b:List Int) (hl:a.length=b.length) (hb:a.length<=100000000): ∀(f i:Nat),i<=a.length->a.length<f+i->
  qks (fun _ _ _ _ _ _ _ _ _ _ _ _ _ _ _ _=>zB false) (fun _ _ _ _=>zB true) f a b (a.length:Int) i=zB (decide (a.drop i=b.drop i))
 | 0,i,hi,hf=>by omega
 | f+1,i,hi,hf=>by
  show qk2 (qks (fun _ _ _ _ _ _ _ _ _ _ _ _ _ _ _ _=>zB false) (fun _ _ _ _=>zB true) f) (fun _ _ _ _ _ _ _ _ _ _ _ _ _ _ _ _=>zB false) (fun _ _ _ _=>zB true) a b (a.length:Int) i=_
  unfold qk2
  refine qae (fun h=> ?_) fun h=> ?_
  ·obtain⟨x,hx⟩:=qbs (b:=a) (i:=i) (by omega)
   obtain⟨y,hy⟩:=qbs (b:=b) (i:=i) (by omega)
   refine qan (by omega) (qan h ?_)
   rw[show(i:Int).toNat=i from rfl,hx,zai]
   refine qan (by omega) (qan (by omega) ?_)
   rw[hy,zai]
   rw[qcm hx,qcm hy]
   refine qas (fun hne=>qat ?_) fun he=> ?_
   ·simp[hne]
   ·subst he
    rw[show IntKind.i64.wrap ((i:Int)+1)=((i+1:Nat):Int) from(i64_in _ (by omega)).trans (by omega)]
    refine(xbxi a b hl hb f (i+1) (by omega) (by omega)).trans (qat ?_)
    simp
  ·refine qat ?_
   rw[qdj (by omega),qdj (by omega)]
   simp
theorem xbu8 (a b:List Int) (hp:qcc a=true):xbnf a b=zB (qbl a b):=by
 have hp:=qeg hp
 unfold xbnf qbl qkw
 simp only[qab]
 refine qas (fun h=>qat ?_) fun h=> ?_
 ·rw[eq_comm,decide_eq_false_iff_not]
  intro e
  subst e
  exact h rfl
 ·exact xbxi a b (by omega) hp FUEL 0 (by omega) (by unfold FUEL;omega)
end Go.Proofs.YtoaakappnhemiaaGreatDoorA
