/-
 What the reading of apostille/evid.markOf comes to, printed by a program. Conditions: none.
-/
import Derived.Test.YtoaakappnhemiaaGreatDoorT1
set_option linter.unusedVariables false
set_option linter.unusedSimpArgs false
set_option maxRecDepth 100000
namespace Go.Proofs.YtoaakappnhemiaaGreatDoorA
noncomputable section
def xbmm:Env:= {mkE q1o qa1 77 with xl:=lk none [(0,some [2,3])]}
def xbde (t:Int) (b:LI) (k:LC):OO:=cond (qbl k) (let r1:LC:=(qb4 48 t b k).1;let r2:Int:=(qb4 48 t b k).2;cond (!decide (r2=0)) (some (.ret [.cl (.agg [.int .i64 0,.slg 1 [],.sli .u8 []]),.cl (.bool false)] [])) (cond (decide ((r1.length:Int)<2)) (some (.ret [.cl (.agg [.int .i64 0,.slg 1 [],.sli .u8 []]),.cl (.bool false)] [])) (cond (decide ((3:Int)<(r1.length:Int))) (some (.ret [.cl (.agg [.int .i64 0,.slg 1 [],.sli .u8 []]),.cl (.bool false)] [])) (cond (decide ((r1.length:Int)=3)) (cond (decide ((1:Int)<(r1.length:Int))) (Option.bind (r1[1]?) fun(e3:CV)=>let e4:CV:=(cell1 e3).headD .nili;let e5:CV:=(cell1 e3).tail.headD .nili;let e6:CV:=(cell1 e3).tail.tail.headD .nili;cond (qh0 .i64 e4&&(qgi .u8 e5&&(qem 3 e6&&true))) (let i7:=qft e4;let l8:=qb7 e5;let l9:=qbm e6;cond (isS [.int .i64 i7,.sli .u8 l8,.slg 3 l9]) (let r10:=lpL 162 i7 l8 l9;let r11:=lpB 162 i7 l8 l9;cond (r11) (cond (decide ((0:Int)<(r1.length:Int))) (Option.bind (r1[0]?) fun(e12:CV)=>let e13:CV:=(cell1 e12).headD .nili;let e14:CV:=(cell1 e12).tail.headD .nili;let e15:CV:=(cell1 e12).tail.tail.headD .nili;cond (qh0 .i64 e13&&(qgi .u8 e14&&(qem 3 e15&&true))) (let i16:=qft e13;let l17:=qb7 e14;let l18:=qbm e15;cond (isS [.int .i64 i16,.sli .u8 l17,.slg 3 l18]) (let r19:Int:=(qr8 i16 l17 l18).1;let r20:Bool:=(qr8 i16 l17 l18).2;let x21:=IntKind.i64.wrap ((r1.length:Int) - 1);getK r1 x21 fun e22=>let e23:CV:=(cell1 e22).headD .nili;let e24:CV:=(cell1 e22).tail.headD .nili;let e25:CV:=(cell1 e22).tail.tail.headD .nili;cond (qh0 .i64 e23&&(qgi .u8 e24&&(qem 3 e25&&true))) (let i26:=qft e23;let l27:=qb7 e24;let l28:=qbm e25;cond (isS [.int .i64 i26,.sli .u8 l27,.slg 3 l28]) (let r29:LI:=(qbq [.int .i64 i26,.sli .u8 l27,.slg 3 l28]).1;let r30:Int:=(qbq [.int .i64 i26,.sli .u8 l27,.slg 3 l28]).2;cond (decide ((0:Int)<(r10.length:Int))) (cond (r20) (some (.ret [.cl (.agg [.int .i64 r19,.slg 1 r10,.sli .u8 r29]),.cl (.bool (decide (r30=0)))] [])) (some (.ret [.cl (.agg [.int .i64 r19,.slg 1 r10,.sli .u8 r29]),.cl (.bool false)] []))) (some (.ret [.cl (.agg [.int .i64 r19,.slg 1 r10,.sli .u8 r29]),.cl (.bool false)] []))) none) none) none) none) none) (cond (decide ((0:Int)<(r1.length:Int))) (Option.bind (r1[0]?) fun(e31:CV)=>let e32:CV:=(cell1 e31).headD .nili;let e33:CV:=(cell1 e31).tail.headD .nili;let e34:CV:=(cell1 e31).tail.tail.headD .nili;cond (qh0 .i64 e32&&(qgi .u8 e33&&(qem 3 e34&&true))) (let i35:=qft e32;let l36:=qb7 e33;let l37:=qbm e34;cond (isS [.int .i64 i35,.sli .u8 l36,.slg 3 l37]) (let r38:Int:=(qr8 i35 l36 l37).1;let x40:=IntKind.i64.wrap ((r1.length:Int) - 1);getK r1 x40 fun e41=>let e42:CV:=(cell1 e41).headD .nili;let e43:CV:=(cell1 e41).tail.headD .nili;let e44:CV:=(cell1 e41).tail.tail.headD .nili;cond (qh0 .i64 e42&&(qgi .u8 e43&&(qem 3 e44&&true))) (let i45:=qft e42;let l46:=qb7 e43;let l47:=qbm e44;cond (isS [.int .i64 i45,.sli .u8 l46,.slg 3 l47]) (let r48:LI:=(qbq [.int .i64 i45,.sli .u8 l46,.slg 3 l47]).1;some (.ret [.cl (.agg [.int .i64 r38,.slg 1 r10,.sli .u8 r48]),.cl (.bool false)] [])) none) none) none) none) none)) none) none) none) (cond (decide ((0:Int)<(r1.length:Int))) (Option.bind (r1[0]?) fun(e50:CV)=>let e51:CV:=(cell1 e50).headD .nili;let e52:CV:=(cell1 e50).tail.headD .nili;let e53:CV:=(cell1 e50).tail.tail.headD .nili;cond (qh0 .i64 e51&&(qgi .u8 e52&&(qem 3 e53&&true))) (let i54:=qft e51;let l55:=qb7 e52;let l56:=qbm e53;cond (isS [.int .i64 i54,.sli .u8 l55,.slg 3 l56]) (let r57:Int:=(qr8 i54 l55 l56).1;let r58:Bool:=(qr8 i54 l55 l56).2;let x59:=IntKind.i64.wrap ((r1.length:Int) - 1);getK r1 x59 fun e60=>let e61:CV:=(cell1 e60).headD .nili;let e62:CV:=(cell1 e60).tail.headD .nili;let e63:CV:=(cell1 e60).tail.tail.headD .nili;cond (qh0 .i64 e61&&(qgi .u8 e62&&(qem 3 e63&&true))) (let i64:=qft e61;let l65:=qb7 e62;let l66:=qbm e63;cond (isS [.int .i64 i64,.sli .u8 l65,.slg 3 l66]) (let r67:LI:=(qbq [.int .i64 i64,.sli .u8 l65,.slg 3 l66]).1;let r68:Int:=(qbq [.int .i64 i64,.sli .u8 l65,.slg 3 l66]).2;cond (r58) (some (.ret [.cl (.agg [.int .i64 r57,.slg 1 [],.sli .u8 r67]),.cl (.bool (decide (r68=0)))] [])) (some (.ret [.cl (.agg [.int .i64 r57,.slg 1 [],.sli .u8 r67]),.cl (.bool false)] []))) none) none) none) none) none))))) none
def qp2 (again:Nat->LC->Int->Int->LC->OO) (k0:OO) (k1:Nat->LC->OO) (v1:Nat) (v2:LC) (v3 v4:Int) (v5:LC):OO:=cond (decide (v4<v3)) (getK v2 v4 fun e1=>let e2:CV:=(cell1 e1).headD .nili;let e3:CV:=(cell1 e1).tail.headD .nili;let e4:CV:=(cell1 e1).tail.tail.headD .nili;cond (qh0 .i64 e2&&(qgi .u8 e3&&(qem 3 e4&&true))) (let i5:=qft e2;let l6:=qb7 e3;let l7:=qbm e4;cond (isS [.int .i64 i5,.sli .u8 l6,.slg 3 l7]) (let r8:Int:=(markOf i5 l6 l7).1;let r9:LC:=(markOf i5 l6 l7).2.1;let r10:LI:=(markOf i5 l6 l7).2.2.1;let r11:Bool:=(markOf i5 l6 l7).2.2.2;cond (!r11) (k0) (let l12:=v5++([.agg [.int .i64 r8,.slg 1 r9,.sli .u8 r10]]);rmK l12.length 56<| let x13:=IntKind.i64.wrap (v4+1);again l12.length v2 v3 x13 l12)) none) none) (k1 v1 v5)
def q49 (k0:OO) (k1:Nat->LC->OO):Nat->Nat->LC->Int->Int->LC->OO:=qe3 (fun a=>qp2 a k0 k1) (fun _ _ _ _ _=>none)
def qz6:St->(KT)->OO:=fun σ k=>match σ with|⟨[(q1,.cl (.fn (.func q2) [] [])),(q3,.ref q4 q5 v1 true q6),(q7,.cl (.slg q8 v2)),(q9,.cl (.int .i64 v3)),(q10,.cl (.int .i64 v4))],[(q11,⟨.gen q12 v5,false⟩)]⟩=>cond (eqL [q1,q2,q3,q4,q5,q6,q7,q8,q9,q10,q11,q12] [3,58,10,91,0,3,28,3,29,30,91,3]) (shut (q49 (k .ret ⟨[(8,.ref 72 0 0 true 3),(9,.cl (.bool false))],[(72,⟨.gen 3 [],false⟩)]⟩) (fun y1 y2=>k (.exit 0) ⟨[(10,.ref 91 0 y1 true 3)],[(91,⟨.gen 3 y2,false⟩)]⟩) FUEL) v1 v2 v3 v4 v5) none|_=>none
def xbum:Env:= {mkE xbl3 qa1 48 with live:=lk [] [(5,[3,10,28,29,30])],ren:=lk [] [(5,[(109,91)])],lp:=lk none [(5,some qz6)],xl:=lk none [(0,some [8,9]),(1,some [10])]}
theorem q7n:LpT Tryz.prog (xbum) Tryz.f97 0 5 qz6:=by
 intro σ k r h
 unfold qz6 at h
 split at h
 ·obtain⟨hc,j⟩:=qaa h
  cases qbe hc
  rw[qab] at j
  apply it5 j
  ·intro n;kernel_rfl
  ·rfl
 ·cases h
def xb2h (l:LC) (lo:Int) (hi:Int):OO:=cond (decide ((l.length:Int)<lo)) (some (.ret [.cl (.slg 3 []),.cl (.bool false)] [])) (cond (decide (hi<(l.length:Int))) (some (.ret [.cl (.slg 3 []),.cl (.bool false)] [])) (cond (decide ((0:Int)<=(l.length:Int))) (cond (decide ((l.length:Int)*56<=LIM)) (cond (decide ((l.length:Int)<=LIM)) (shut (q49 (some (.ret [.cl (.slg 3 []),.cl (.bool false)] [])) (fun y1 y2=>some (.ret [.cl (.slg 3 y2),.cl (.bool true)] [])) FUEL) 0 l (l.length:Int) 0 []) none) none) none))
def xbz0:Env:= {mkE xbny qa1 25 with xl:=lk none [(0,some [6,7])]}
def xbr5 (t:Int) (b:LI) (k:LC) (g:Int):OO:=cond (qbl k) (let r1:LC:=(qb4 g t b k).1;let r2:Int:=(qb4 g t b k).2;cond (!decide (r2=0)) (some (.ret [.cl (.slg 3 []),.cl (.bool false)] [])) (cond (qgj r1) (let r3:=qsc 0 (r1.length:Int) r1;let r4:=qqu 0 (r1.length:Int) r1;some (.ret [.cl (.slg 3 r3),.cl (.bool r4)] [])) none)) none
def xbhj:Env:= {mkE qwy qa1 8 with xl:=lk none [(0,some [2,3])]}
def xbgj (t:Int) (b:LI) (k:LC):OO:=cond (isS [.int .i64 t,.sli .u8 b,.slg 3 k]) (let r1:=lmL 48 t b k;let r2:=lmB 48 t b k;some (.ret [.cl (.slg 3 r1),.cl (.bool r2)] [])) none
def qrs (again:Nat->LC->Int->Int->LC->OO) (k0:OO) (k1:Nat->LC->OO) (v1:Nat) (v2:LC) (v3 v4:Int) (v5:LC):OO:=cond (decide (v4<v3)) (getK v2 v4 fun e1=>let e2:CV:=(cell1 e1).headD .nili;let e3:CV:=(cell1 e1).tail.headD .nili;let e4:CV:=(cell1 e1).tail.tail.headD .nili;cond (qh0 .i64 e2&&(qgi .u8 e3&&(qem 3 e4&&true))) (let i5:=qft e2;let l6:=qb7 e3;let l7:=qbm e4;cond (isS [.int .i64 i5,.sli .u8 l6,.slg 3 l7]) (let r8:=lmL 48 i5 l6 l7;let r9:=lmB 48 i5 l6 l7;cond (!r9) (k0) (let l10:=v5++[.slg 3 r8];rmK l10.length 24<| let x11:=IntKind.i64.wrap (v4+1);again l10.length v2 v3 x11 l10)) none) none) (k1 v1 v5)
def q5y (k0:OO) (k1:Nat->LC->OO):Nat->Nat->LC->Int->Int->LC->OO:=qe3 (fun a=>qrs a k0 k1) (fun _ _ _ _ _=>none)
def q2w:St->(KT)->OO:=fun σ k=>match σ with|⟨[(q1,.cl (.fn (.func q2) [] [])),(q3,.ref q4 q5 v1 true q6),(q7,.cl (.slg q8 v2)),(q9,.cl (.int .i64 v3)),(q10,.cl (.int .i64 v4))],[(q11,⟨.gen q12 v5,false⟩)]⟩=>cond (eqL [q1,q2,q3,q4,q5,q6,q7,q8,q9,q10,q11,q12] [3,29,10,91,0,1,28,3,29,30,91,1]) (shut (q5y (k .ret ⟨[(8,.ref 72 0 0 true 1),(9,.cl (.bool false))],[(72,⟨.gen 1 [],false⟩)]⟩) (fun y1 y2=>k (.exit 0) ⟨[(10,.ref 91 0 y1 true 1)],[(91,⟨.gen 1 y2,false⟩)]⟩) FUEL) v1 v2 v3 v4 v5) none|_=>none
def xbwj:Env:= {mkE xbrs qa1 48 with live:=lk [] [(5,[3,10,28,29,30])],ren:=lk [] [(5,[(109,91)])],lp:=lk none [(5,some q2w)],xl:=lk none [(0,some [8,9]),(1,some [10])]}
theorem q7a:LpT Tryz.prog (xbwj) Tryz.f56 0 5 q2w:=by
 intro σ k r h
 unfold q2w at h
 split at h
 ·obtain⟨hc,j⟩:=qaa h
  cases qbe hc
  rw[qab] at j
  apply it5 j
  ·intro n;kernel_rfl
  ·rfl
 ·cases h
def xb2v (l:LC) (lo:Int) (hi:Int):OO:=cond (decide ((l.length:Int)<lo)) (some (.ret [.cl (.slg 1 []),.cl (.bool false)] [])) (cond (decide (hi<(l.length:Int))) (some (.ret [.cl (.slg 1 []),.cl (.bool false)] [])) (cond (decide ((0:Int)<=(l.length:Int))) (cond (decide ((l.length:Int)*24<=LIM)) (cond (decide ((l.length:Int)<=LIM)) (shut (q5y (some (.ret [.cl (.slg 1 []),.cl (.bool false)] [])) (fun y1 y2=>some (.ret [.cl (.slg 1 y2),.cl (.bool true)] [])) FUEL) 0 l (l.length:Int) 0 []) none) none) none))
def xb14:Env:= {mkE xbof qa1 25 with xl:=lk none [(0,some [6,7])]}
def xbt1 (t:Int) (b:LI) (k:LC) (g:Int):OO:=cond (qbl k) (let r1:LC:=(qb4 g t b k).1;let r2:Int:=(qb4 g t b k).2;cond (!decide (r2=0)) (some (.ret [.cl (.slg 1 []),.cl (.bool false)] [])) (cond (qgj r1) (let r3:=ql6 0 (r1.length:Int) r1;let r4:=qmd 0 (r1.length:Int) r1;some (.ret [.cl (.slg 1 r3),.cl (.bool r4)] [])) none)) none
def xbss:Env:= {mkE q8s qa1 16 with xl:=lk none [(0,some [2,3])]}
def xbzk (t:Int) (b:LI) (k:LC):OO:=cond (isS [.int .i64 t,.sli .u8 b,.slg 3 k]) (let r1:Int:=(qen t b k).1;let r3:Int:=(qen t b k).2.2;some (.ret [.cl (.int .i64 r1),.cl (.bool (decide (r3=0)))] [])) none
def qqr (again:Nat->LC->Int->Int->LI->OO) (k0:OO) (k1:Nat->LI->OO) (v1:Nat) (v2:LC) (v3 v4:Int) (v5:LI):OO:=cond (decide (v4<v3)) (getK v2 v4 fun e1=>let e2:CV:=(cell1 e1).headD .nili;let e3:CV:=(cell1 e1).tail.headD .nili;let e4:CV:=(cell1 e1).tail.tail.headD .nili;cond (qh0 .i64 e2&&(qgi .u8 e3&&(qem 3 e4&&true))) (let i5:=qft e2;let l6:=qb7 e3;let l7:=qbm e4;cond (isS [.int .i64 i5,.sli .u8 l6,.slg 3 l7]) (let r8:Int:=(qen i5 l6 l7).1;let r9:=decide ((qen i5 l6 l7).2.2=0);cond (!r9) (k0) (let l10:=v5++[r8];rmK l10.length 8<| let x11:=IntKind.i64.wrap (v4+1);again l10.length v2 v3 x11 l10)) none) none) (k1 v1 v5)
def q5p (k0:OO) (k1:Nat->LI->OO):Nat->Nat->LC->Int->Int->LI->OO:=qe3 (fun a=>qqr a k0 k1) (fun _ _ _ _ _=>none)
def q1i:St->(KT)->OO:=fun σ k=>match σ with|⟨[(q1,.cl (.fn (.func q2) [] [])),(q3,.ref q4 q5 v1 true q6),(q7,.cl (.slg q8 v2)),(q9,.cl (.int .i64 v3)),(q10,.cl (.int .i64 v4))],[(q11,⟨.ints .i64 v5,false⟩)]⟩=>cond (eqL [q1,q2,q3,q4,q5,q6,q7,q8,q9,q10,q11] [3,27,10,91,0,1,28,3,29,30,91]) (shut (q5p (k .ret ⟨[(8,.ref 72 0 0 true 1),(9,.cl (.bool false))],[(72,⟨.ints .i64 [],false⟩)]⟩) (fun y1 y2=>k (.exit 0) ⟨[(10,.ref 91 0 y1 true 1)],[(91,⟨.ints .i64 y2,false⟩)]⟩) FUEL) v1 v2 v3 v4 v5) none|_=>none
def xbv6:Env:= {mkE xbna qa1 48 with live:=lk [] [(5,[3,10,28,29,30])],ren:=lk [] [(5,[(109,91)])],lp:=lk none [(5,some q1i)],xl:=lk none [(0,some [8,9]),(1,some [10])]}
theorem q62:LpT Tryz.prog (xbv6) Tryz.f54 0 5 q1i:=by
 intro σ k r h
 unfold q1i at h
 split at h
 ·obtain⟨hc,j⟩:=qaa h
  cases qbe hc
  rw[qab] at j
  apply it5 j
  ·intro n;kernel_rfl
  ·rfl
 ·cases h
def xb3g (l:LC) (lo:Int) (hi:Int):OO:=cond (decide ((l.length:Int)<lo)) (some (.ret [.cl (.sli .i64 []),.cl (.bool false)] [])) (cond (decide (hi<(l.length:Int))) (some (.ret [.cl (.sli .i64 []),.cl (.bool false)] [])) (cond (decide ((0:Int)<=(l.length:Int))) (cond (decide ((l.length:Int)*8<=LIM)) (cond (decide ((l.length:Int)<=LIM)) (shut (q5p (some (.ret [.cl (.sli .i64 []),.cl (.bool false)] [])) (fun y1 y2=>some (.ret [.cl (.sli .i64 y2),.cl (.bool true)] [])) FUEL) 0 l (l.length:Int) 0 []) none) none) none))
def xb22:Env:= {mkE xbpg qa1 25 with xl:=lk none [(0,some [6,7])]}
def xbyg (t:Int) (b:LI) (k:LC) (g:Int):OO:=cond (qbl k) (let r1:LC:=(qb4 g t b k).1;let r2:Int:=(qb4 g t b k).2;cond (!decide (r2=0)) (some (.ret [.cl (.sli .i64 []),.cl (.bool false)] [])) (cond (qgj r1) (let r3:=qzh 0 (r1.length:Int) r1;let r4:=qzz 0 (r1.length:Int) r1;some (.ret [.cl (.sli .i64 r3),.cl (.bool r4)] [])) none)) none
def EEParse:Env:= {mkE BEParse qa1 80 with xl:=lk none [(0,some [2,3])]}
def xbjm (b:LI):OO:=cond (qad b) (let r1:Int:=(qa9 b).1.1;let r2:LI:=(qa9 b).1.2.1;let r3:LC:=(qa9 b).1.2.2;let r4:Int:=(qa9 b).2;cond (!decide (r4=0)) (some (.ret [.cl (.agg [.sli .i64 [],.slg 1 []]),.cl (.int .i64 r4)] [])) (cond (qbl r3) (let r5:LC:=(qb4 48 r1 r2 r3).1;let r6:Int:=(qb4 48 r1 r2 r3).2;cond (!decide (r6=0)) (some (.ret [.cl (.agg [.sli .i64 [],.slg 1 []]),.cl (.int .i64 1)] [])) (cond (!decide ((r5.length:Int)=3)) (some (.ret [.cl (.agg [.sli .i64 [],.slg 1 []]),.cl (.int .i64 1)] [])) (cond (decide ((0:Int)<(r5.length:Int))) (Option.bind (r5[0]?) fun(e7:CV)=>let e8:CV:=(cell1 e7).headD .nili;let e9:CV:=(cell1 e7).tail.headD .nili;let e10:CV:=(cell1 e7).tail.tail.headD .nili;cond (qh0 .i64 e8&&(qgi .u8 e9&&(qem 3 e10&&true))) (let i11:=qft e8;let l12:=qb7 e9;let l13:=qbm e10;cond (isS [.int .i64 i11,.sli .u8 l12,.slg 3 l13]) (let r14:Int:=(qdm i11 l12 l13).1;let r15:Int:=(qdm i11 l12 l13).2;cond (decide ((1:Int)<(r5.length:Int))) (Option.bind (r5[1]?) fun(e16:CV)=>let e17:CV:=(cell1 e16).headD .nili;let e18:CV:=(cell1 e16).tail.headD .nili;let e19:CV:=(cell1 e16).tail.tail.headD .nili;cond (qh0 .i64 e17&&(qgi .u8 e18&&(qem 3 e19&&true))) (let i20:=qft e17;let l21:=qb7 e18;let l22:=qbm e19;cond (isS [.int .i64 i20,.sli .u8 l21,.slg 3 l22]) (let r23:=laL 48 i20 l21 l22;let r24:=laB 48 i20 l21 l22;cond (decide ((2:Int)<(r5.length:Int))) (Option.bind (r5[2]?) fun(e25:CV)=>let e26:CV:=(cell1 e25).headD .nili;let e27:CV:=(cell1 e25).tail.headD .nili;let e28:CV:=(cell1 e25).tail.tail.headD .nili;cond (qh0 .i64 e26&&(qgi .u8 e27&&(qem 3 e28&&true))) (let i29:=qft e26;let l30:=qb7 e27;let l31:=qbm e28;cond (isS [.int .i64 i29,.sli .u8 l30,.slg 3 l31]) (let r32:=lcL 48 i29 l30 l31;let r33:=lcB 48 i29 l30 l31;cond (!decide (r15=0)) (some (.ret [.cl (.agg [.sli .i64 [],.slg 1 []]),.cl (.int .i64 1)] [])) (cond (!decide (r14=1)) (some (.ret [.cl (.agg [.sli .i64 [],.slg 1 []]),.cl (.int .i64 1)] [])) (cond (!r24) (some (.ret [.cl (.agg [.sli .i64 [],.slg 1 []]),.cl (.int .i64 1)] [])) (cond (!r33) (some (.ret [.cl (.agg [.sli .i64 [],.slg 1 []]),.cl (.int .i64 1)] [])) (cond (qgv r23&&recO r32) (let r34:=evOk r23 r32;cond (!r34) (some (.ret [.cl (.agg [.sli .i64 [],.slg 1 []]),.cl (.int .i64 1)] [])) (some (.ret [.cl (.agg [.sli .i64 r23,.slg 1 r32]),.cl (.int .i64 0)] []))) none))))) none) none) none) none) none) none) none) none) none))) none)) none
def qhs (again:Nat->Int->Nat->Int->Int->LC->LI->LC->LC->Int->LI->LC->OO) (k0:OO) (k1:Nat->Int->Nat->Int->LC->LI->LC->LC->Int->LI->LC->OO) (v1:Nat) (v2:Int) (v3:Nat) (v4 v5:Int) (v6:LC) (v7:LI) (v8 v9:LC) (v10:Int) (v11:LI) (v12:LC):OO:=getK v6 v2 fun e17=>let e18:CV:=(cell1 e17).getD 0 .nili;cond (qem 1 e18) (let l19:=qbm e18;cond (decide (v4<(l19.length:Int))) (getK v6 v2 fun e20=>let e21:CV:=(cell1 e20).getD 0 .nili;cond (qem 1 e21) (let l22:=qbm e21;getK l22 v4 fun e23=>let e24:CV:=(cell1 e23).getD 0 .nili;cond (qgi .u8 e24) (let l25:=qb7 e24;let r26:=qow v5;cond (!decide ((l25.length:Int)=r26)) (k0) (getK v6 v2 fun e27=>let e28:CV:=(cell1 e27).getD 0 .nili;cond (qem 1 e28) (let l29:=qbm e28;getK l29 v4 fun e30=>let e31:CV:=(cell1 e30).getD 0 .nili;cond (qgi .u8 e31) (let l32:=qb7 e31;cond (qc6 l32) (let r33:=qb2;let l34:=v9++([.agg [.int .i64 4,.sli .u8 l32,.slg 3 r33]]);rmK l34.length 56<| let x35:=IntKind.i64.wrap (v4+1);again v1 v2 l34.length x35 v5 v6 v7 v8 l34 v10 v11 v12) none) none) none)) none) none) (k1 v1 v2 v3 v5 v6 v7 v8 v9 v10 v11 v12)) none
def qgd (k0:OO) (k1:Nat->Int->Nat->Int->LC->LI->LC->LC->Int->LI->LC->OO):Nat->Nat->Int->Nat->Int->Int->LC->LI->LC->LC->Int->LI->LC->OO:=qe3 (fun a=>qhs a k0 k1) (fun _ _ _ _ _ _ _ _ _ _ _ _=>none)
def qjf (again:Nat->Int->Int->LC->LI->LC->Int->LI->LC->OO) (k0:OO) (k1:Nat->Int->LC->LI->LC->Int->LI->LC->OO) (v1:Nat) (v2 v3:Int) (v4:LC) (v5:LI) (v6:LC) (v7:Int) (v8:LI) (v9:LC):OO:=cond (decide (v2<(v4.length:Int))) (getK v4 v2 fun e11=>let e12:CV:=(cell1 e11).getD 0 .nili;cond (qem 1 e12) (let l13:=qbm e12;cond (decide ((l13.length:Int)<1)) (k0) (getK v4 v2 fun e14=>let e15:CV:=(cell1 e14).getD 0 .nili;cond (qem 1 e15) (let l16:=qbm e15;cond (decide ((64:Int)<(l16.length:Int))) (k0) (shut (qgd (k0) (fun y17 y18 y19 y20 y21 y22 y23 y24 y25 y26 y27=>cond (qbl y24) (let r28:=qa0;let l29:=y23++([.agg [.int .i64 48,.sli .u8 r28,.slg 3 y24]]);rmK l29.length 56<| let x30:=IntKind.i64.wrap (y18+1);again l29.length x30 y20 y21 y22 l29 y25 y26 y27) none) FUEL) v1 v2 0 0 v3 v4 v5 v6 [] v7 v8 v9)) none)) none) (k1 v1 v3 v4 v5 v6 v7 v8 v9)
def qib (k0:OO) (k1:Nat->Int->LC->LI->LC->Int->LI->LC->OO):Nat->Nat->Int->Int->LC->LI->LC->Int->LI->LC->OO:=qe3 (fun a=>qjf a k0 k1) (fun _ _ _ _ _ _ _ _ _=>none)
def qxc:St->(KT)->OO:=fun σ k=>match σ with|⟨[(q1,.ptr q2 q3 q4),(q5,.ptr q6 q7 q8),(q9,.ref q10 q11 q12 true q13),(q14,.ref q15 q16 v1 true q17),(q18,.cl (.int .i64 v2)),(q19,.ref q20 q21 v3 true q22),(q23,.cl (.int .i64 v4))],[(q24,⟨.var [.cl (.int .i64 v5),.cl (.slg q25 v6),.cl (.sli .u8 v7)],false⟩),(q26,⟨.var [.cl (.int .i64 q27),.nils,.nils],false⟩),(q28,⟨.gen q29 v8,false⟩),(q30,⟨.gen q31 v9,false⟩),(q32,⟨.gen q33 [.agg [.int .i64 v10,.sli .u8 v11,.slg q34 v12]],false⟩)]⟩=>cond (eqL [q1,q2,q3,q4,q5,q6,q7,q8,q9,q10,q11,q12,q13,q14,q15,q16,q17,q18,q19,q20,q21,q22,q23,q24,q25,q26,q28,q29,q30,q31,q32,q33,q34] [1,65,0,0,2,66,0,0,8,106,0,1,3,9,73,0,3,10,11,75,0,3,12,65,1,66,73,3,75,3,106,3,3]&&decide (q27=0)) (shut (qgd (k .ret ⟨[(2,.ptr 66 0 0),(3,.cl (.bool false))],[(66,⟨.var [.cl (.int .i64 0),.nils,.nils],false⟩)]⟩) (fun y1 y2 y3 y4 y5 y6 y7 y8 y9 y10 y11=>k (.exit 2) ⟨[(1,.ptr 65 0 0),(2,.ptr 66 0 0),(8,.ref 106 0 1 true 3),(9,.ref 73 0 y1 true 3),(10,.cl (.int .i64 y2)),(11,.ref 75 0 y3 true 3)],[(65,⟨.var [.cl (.int .i64 y4),.cl (.slg 1 y5),.cl (.sli .u8 y6)],false⟩),(66,⟨.var [.cl (.int .i64 0),.nils,.nils],false⟩),(73,⟨.gen 3 y7,false⟩),(75,⟨.gen 3 y8,false⟩),(106,⟨.gen 3 ([.agg [.int .i64 y9,.sli .u8 y10,.slg 3 y11]]),false⟩)]⟩) FUEL) v1 v2 v3 v4 v5 v6 v7 v8 v9 v10 v11 v12) none|_=>none
def q0u:St->(KT)->OO:=fun σ k=>match σ with|⟨[(q1,.ptr q2 q3 q4),(q5,.ptr q6 q7 q8),(q9,.ref q10 q11 q12 true q13),(q14,.ref q15 q16 v1 true q17),(q18,.cl (.int .i64 v2))],[(q19,⟨.var [.cl (.int .i64 v3),.cl (.slg q20 v4),.cl (.sli .u8 v5)],false⟩),(q21,⟨.var [.cl (.int .i64 q22),.nils,.nils],false⟩),(q23,⟨.gen q24 v6,false⟩),(q25,⟨.gen q26 [.agg [.int .i64 v7,.sli .u8 v8,.slg q27 v9]],false⟩)]⟩=>cond (eqL [q1,q2,q3,q4,q5,q6,q7,q8,q9,q10,q11,q12,q13,q14,q15,q16,q17,q18,q19,q20,q21,q23,q24,q25,q26,q27] [1,65,0,0,2,66,0,0,8,106,0,1,3,9,73,0,3,10,65,1,66,73,3,106,3,3]&&decide (q22=0)) (shut (qib (k .ret ⟨[(2,.ptr 66 0 0),(3,.cl (.bool false))],[(66,⟨.var [.cl (.int .i64 0),.nils,.nils],false⟩)]⟩) (fun y1 y2 y3 y4 y5 y6 y7 y8=>k (.exit 0) ⟨[(1,.ptr 65 0 0),(2,.ptr 66 0 0),(8,.ref 106 0 1 true 3),(9,.ref 73 0 y1 true 3)],[(65,⟨.var [.cl (.int .i64 y2),.cl (.slg 1 y3),.cl (.sli .u8 y4)],false⟩),(66,⟨.var [.cl (.int .i64 0),.nils,.nils],false⟩),(73,⟨.gen 3 y5,false⟩),(106,⟨.gen 3 ([.agg [.int .i64 y6,.sli .u8 y7,.slg 3 y8]]),false⟩)]⟩) FUEL) v1 v2 v3 v4 v5 v6 v7 v8 v9) none|_=>none
def ERMark:Env:= {mkE BRMark qa1 133 with live:=lk [] [(8,[1,2,8,9,10]),(14,[1,2,8,9,10,11,12])],ren:=lk [] [(8,[(171,73)]),(14,[(166,75)])],lp:=lk none [(8,some q0u),(14,some qxc)],xl:=lk none [(0,some [2,3]),(1,some [1,2,8,9]),(3,some [1,2,8,9,10,11])]}
theorem q3a:LpT Tryz.prog (ERMark) Tryz.f78 0 14 qxc:=by
 intro σ k r h
 unfold qxc at h
 split at h
 ·obtain⟨hc,j⟩:=qaa h
  simp only[zab,qdu,decide_eq_true_eq,zal] at hc
  obtain⟨hc,rfl⟩:=hc
  cases qbe hc
  rw[qab] at j
  apply it12 j
  ·intro n;kernel_rfl
  ·rfl
 ·cases h
theorem q6n:LpT Tryz.prog (ERMark) Tryz.f78 1 8 q0u:=by
 intro σ k r h
 unfold q0u at h
 split at h
 ·obtain⟨hc,j⟩:=qaa h
  simp only[zab,qdu,decide_eq_true_eq,zal] at hc
  obtain⟨hc,rfl⟩:=hc
  cases qbe hc
  rw[qab] at j
  apply it9 j
  ·intro n;kernel_rfl
  ·rfl
 ·cases h
def xbul (d:Int) (t:LC) (w:LI):OO:=let r1:Int:=(qa6 d).2.1;cond (!decide (r1=1)) (some (.ret [.cl (.agg [.int .i64 0,.sli .u8 [],.slg 3 []]),.cl (.bool false)] [])) (cond (decide ((20:Int)<(t.length:Int))) (some (.ret [.cl (.agg [.int .i64 0,.sli .u8 [],.slg 3 []]),.cl (.bool false)] [])) (let r2:LI:=(qa6 d).2.2;cond (idOk r2) (let r3:Int:=(qfq 6 (qa3 r2)).1;let r4:LI:=(qfq 6 (qa3 r2)).2.1;let r5:=qb2;cond (qbl ([.agg [.int .i64 r3,.sli .u8 r4,.slg 3 r5]])) (let r7:Int:=(vBox 0 ([.agg [.int .i64 r3,.sli .u8 r4,.slg 3 r5]])).1;let r8:=qa0;let r9:LC:=(vBox 0 ([.agg [.int .i64 r3,.sli .u8 r4,.slg 3 r5]])).2.1;shut (qib (some (.ret [.cl (.agg [.int .i64 0,.sli .u8 [],.slg 3 []]),.cl (.bool false)] [])) (fun y11 y12 y13 y14 y15 y16 y17 y18=>cond (decide ((0:Int)<(y11:Int))) (cond (qbl y15) (let r19:Int:=(vBox 2 y15).1;let r20:=qa0;let r21:LC:=(vBox 2 y15).2.1;cond (qad y14) (let r23:Int:=(qa9 y14).1.1;let r24:LI:=(qa9 y14).1.2.1;let r25:LC:=(qa9 y14).1.2.2;let r26:Int:=(qa9 y14).2;cond (qbl ([.agg [.int .i64 y16,.sli .u8 y17,.slg 3 y18],.agg [.int .i64 r19,.sli .u8 r20,.slg 3 r21],.agg [.int .i64 r23,.sli .u8 r24,.slg 3 r25]])) (let r27:=qa0;some (.ret [.cl (.agg [.int .i64 48,.sli .u8 r27,.slg 3 ([.agg [.int .i64 y16,.sli .u8 y17,.slg 3 y18],.agg [.int .i64 r19,.sli .u8 r20,.slg 3 r21],.agg [.int .i64 r23,.sli .u8 r24,.slg 3 r25]])]),.cl (.bool (decide (r26=0)))] [])) none) none) none) (cond (qad y14) (let r28:Int:=(qa9 y14).1.1;let r29:LI:=(qa9 y14).1.2.1;let r30:LC:=(qa9 y14).1.2.2;let r31:Int:=(qa9 y14).2;cond (qbl ([.agg [.int .i64 y16,.sli .u8 y17,.slg 3 y18],.agg [.int .i64 r28,.sli .u8 r29,.slg 3 r30]])) (let r32:=qa0;some (.ret [.cl (.agg [.int .i64 48,.sli .u8 r32,.slg 3 ([.agg [.int .i64 y16,.sli .u8 y17,.slg 3 y18],.agg [.int .i64 r28,.sli .u8 r29,.slg 3 r30]])]),.cl (.bool (decide (r31=0)))] [])) none) none)) FUEL) 0 0 d t w [] r7 r8 r9) none) none))
def qe6 (again:LC->Nat->Int->Nat->Int->LC->LC->OO) (k0:OO) (k1:LC->Nat->Int->Nat->LC->LC->OO) (v1:LC) (v2:Nat) (v3:Int) (v4:Nat) (v5:Int) (v6 v7:LC):OO:=getK v1 v3 fun e7=>let e8:CV:=(cell1 e7).getD 0 .nili;cond (qem 3 e8) (let l9:=qbm e8;cond (decide (v5<(l9.length:Int))) (getK v1 v3 fun e10=>let e11:CV:=(cell1 e10).getD 0 .nili;cond (qem 3 e11) (let l12:=qbm e11;getK l12 v5 fun e13=>let e14:CV:=(cell1 e13).headD .nili;let e15:CV:=(cell1 e13).tail.headD .nili;let e16:CV:=(cell1 e13).tail.tail.headD .nili;cond (qh0 .i64 e14&&(qem 1 e15&&(qgi .u8 e16&&true))) (let i17:=qft e14;let l18:=qbm e15;let l19:=qb7 e16;cond (q3h l18&&qad l19) (let r20:Int:=(q2f i17 l18 l19).1;let r21:=qa0;let r22:LC:=(q2f i17 l18 l19).2;let r23:=qy4 i17 l18 l19;cond (!r23) (k0) (let l24:=v7++([.agg [.int .i64 r20,.sli .u8 r21,.slg 3 r22]]);rmK l24.length 56<| let x25:=IntKind.i64.wrap (v5+1);again v1 v2 v3 l24.length x25 v6 l24)) none) none) none) (k1 v1 v2 v3 v4 v6 v7)) none
def qdv (k0:OO) (k1:LC->Nat->Int->Nat->LC->LC->OO):Nat->LC->Nat->Int->Nat->Int->LC->LC->OO:=qe3 (fun a=>qe6 a k0 k1) (fun _ _ _ _ _ _ _=>none)
def qf4 (again:LC->Nat->Int->LC->OO) (k0:OO) (k1:Nat->LC->OO) (v1:LC) (v2:Nat) (v3:Int) (v4:LC):OO:=cond (decide (v3<(v1.length:Int))) (getK v1 v3 fun e1=>let e2:CV:=(cell1 e1).getD 0 .nili;cond (qem 3 e2) (let l3:=qbm e2;cond (decide ((l3.length:Int)<1)) (k0) (getK v1 v3 fun e4=>let e5:CV:=(cell1 e4).getD 0 .nili;cond (qem 3 e5) (let l6:=qbm e5;cond (decide ((20:Int)<(l6.length:Int))) (k0) (shut (qdv (k0) (fun y7 y8 y9 y10 y11 y12=>cond (qbl y12) (let r13:=qa0;let l14:=y11++([.agg [.int .i64 48,.sli .u8 r13,.slg 3 y12]]);rmK l14.length 56<| let x15:=IntKind.i64.wrap (y9+1);again y7 l14.length x15 l14) none) FUEL) v1 v2 v3 0 0 v4 [])) none)) none) (k1 v2 v4)
def qep (k0:OO) (k1:Nat->LC->OO):Nat->LC->Nat->Int->LC->OO:=qe3 (fun a=>qf4 a k0 k1) (fun _ _ _ _=>none)
def qnd:St->(KT)->OO:=fun σ k=>match σ with|⟨[(q1,.cl (.slg q2 v1)),(q3,.ptr q4 q5 q6),(q7,.ref q8 q9 v2 true q10),(q11,.cl (.int .i64 v3)),(q12,.ref q13 q14 v4 true q15),(q16,.cl (.int .i64 v5))],[(q17,⟨.var [.cl (.int .i64 q18),.nils,.nils],false⟩),(q19,⟨.gen q20 v6,false⟩),(q21,⟨.gen q22 v7,false⟩)]⟩=>cond (eqL [q1,q2,q3,q4,q5,q6,q7,q8,q9,q10,q11,q12,q13,q14,q15,q16,q17,q19,q20,q21,q22] [0,1,2,66,0,0,4,68,0,3,5,6,70,0,3,7,66,68,3,70,3]&&decide (q18=0)) (shut (qdv (k .ret ⟨[(2,.ptr 66 0 0),(3,.cl (.bool false))],[(66,⟨.var [.cl (.int .i64 0),.nils,.nils],false⟩)]⟩) (fun y1 y2 y3 y4 y5 y6=>k (.exit 2) ⟨[(0,.cl (.slg 1 y1)),(2,.ptr 66 0 0),(4,.ref 68 0 y2 true 3),(5,.cl (.int .i64 y3)),(6,.ref 70 0 y4 true 3)],[(66,⟨.var [.cl (.int .i64 0),.nils,.nils],false⟩),(68,⟨.gen 3 y5,false⟩),(70,⟨.gen 3 y6,false⟩)]⟩) FUEL) v1 v2 v3 v4 v5 v6 v7) none|_=>none
def qqa:St->(KT)->OO:=fun σ k=>match σ with|⟨[(q1,.cl (.slg q2 v1)),(q3,.ptr q4 q5 q6),(q7,.ref q8 q9 v2 true q10),(q11,.cl (.int .i64 v3))],[(q12,⟨.var [.cl (.int .i64 q13),.nils,.nils],false⟩),(q14,⟨.gen q15 v4,false⟩)]⟩=>cond (eqL [q1,q2,q3,q4,q5,q6,q7,q8,q9,q10,q11,q12,q14,q15] [0,1,2,66,0,0,4,68,0,3,5,66,68,3]&&decide (q13=0)) (shut (qep (k .ret ⟨[(2,.ptr 66 0 0),(3,.cl (.bool false))],[(66,⟨.var [.cl (.int .i64 0),.nils,.nils],false⟩)]⟩) (fun y1 y2=>k (.exit 0) ⟨[(2,.ptr 66 0 0),(4,.ref 68 0 y1 true 3)],[(66,⟨.var [.cl (.int .i64 0),.nils,.nils],false⟩),(68,⟨.gen 3 y2,false⟩)]⟩) FUEL) v1 v2 v3 v4) none|_=>none
def ERChains:Env:= {mkE BRChains qa1 74 with live:=lk [] [(5,[0,2,4,5]),(11,[0,2,4,5,6,7])],ren:=lk [] [(5,[(135,68)]),(11,[(130,70)])],lp:=lk none [(5,some qqa),(11,some qnd)],xl:=lk none [(0,some [2,3]),(1,some [2,4]),(3,some [0,2,4,5,6])]}
theorem qxe:LpT Tryz.prog (ERChains) Tryz.f39 0 11 qnd:=by
 intro σ k r h
 unfold qnd at h
 split at h
 ·obtain⟨hc,j⟩:=qaa h
  simp only[zab,qdu,decide_eq_true_eq,zal] at hc
  obtain⟨hc,rfl⟩:=hc
  cases qbe hc
  rw[qab] at j
  apply it7 j
  ·intro n;kernel_rfl
  ·rfl
 ·cases h
theorem qy2:LpT Tryz.prog (ERChains) Tryz.f39 1 5 qqa:=by
 intro σ k r h
 unfold qqa at h
 split at h
 ·obtain⟨hc,j⟩:=qaa h
  simp only[zab,qdu,decide_eq_true_eq,zal] at hc
  obtain⟨hc,rfl⟩:=hc
  cases qbe hc
  rw[qab] at j
  apply it4 j
  ·intro n;kernel_rfl
  ·rfl
 ·cases h
def xbck (l:LC):OO:=cond (decide ((l.length:Int)<1)) (some (.ret [.cl (.agg [.int .i64 0,.sli .u8 [],.slg 3 []]),.cl (.bool false)] [])) (cond (decide ((10:Int)<(l.length:Int))) (some (.ret [.cl (.agg [.int .i64 0,.sli .u8 [],.slg 3 []]),.cl (.bool false)] [])) (shut (qep (some (.ret [.cl (.agg [.int .i64 0,.sli .u8 [],.slg 3 []]),.cl (.bool false)] [])) (fun y1 y2=>cond (qbl y2) (let r3:=qa0;some (.ret [.cl (.agg [.int .i64 48,.sli .u8 r3,.slg 3 y2]),.cl (.bool true)] [])) none) FUEL) l 0 0 []))
def qc7 (again:Int->Int->Int->Int->Int->LI->LC->Int->LC->LI->OO) (k0:Int->Int->Int->Int->LI->LC->Int->LC->LI->OO) (v1 v2 v3 v4 v5:Int) (v6:LI) (v7:LC) (v8:Int) (v9:LC) (v10:LI):OO:=getK v9 v4 fun e21=>let e22:CV:=(cell1 e21).getD 0 .nili;cond (qem 1 e22) (let l23:=qbm e22;cond (decide (v5<(l23.length:Int))) (cond (decide ((0:Int)<=v1)) (let x24:=IntKind.i64.wrap (v1 - 1);getK v9 v4 fun e25=>let e26:CV:=(cell1 e25).getD 0 .nili;cond (qem 1 e26) (let l27:=qbm e26;getK l27 v5 fun e28=>let e29:CV:=(cell1 e28).getD 0 .nili;cond (qgi .u8 e29) (let l30:=qb7 e29;let x31:=cond (decide ((1048576:Int)<(l30.length:Int))) 1048576 (l30.length:Int);let x32:=IntKind.i64.wrap (x24 - x31);let x33:=IntKind.i64.wrap (v5+1);again x32 v2 v3 v4 x33 v6 v7 v8 v9 v10) none) none) (k0 v1 v2 v3 v4 v6 v7 v8 v9 v10)) (k0 v1 v2 v3 v4 v6 v7 v8 v9 v10)) none
def qcy (k0:Int->Int->Int->Int->LI->LC->Int->LC->LI->OO):Nat->Int->Int->Int->Int->Int->LI->LC->Int->LC->LI->OO:=qe3 (fun a=>qc7 a k0) (fun _ _ _ _ _ _ _ _ _ _=>none)
def qc1 (again:Int->Int->Int->Int->LI->LC->Int->LC->LI->OO) (k0:Int->Int->Int->LI->LC->OO) (v1 v2 v3 v4:Int) (v5:LI) (v6:LC) (v7:Int) (v8:LC) (v9:LI):OO:=cond (decide (v4<(v8.length:Int))) (cond (decide ((0:Int)<=v1)) (let x20:=IntKind.i64.wrap (v1 - 1);shut (qcy (fun y21 y22 y23 y24 y25 y26 y27 y28 y29=>let x30:=IntKind.i64.wrap (y24+1);again y21 y22 y23 x30 y25 y26 y27 y28 y29) FUEL) x20 v2 v3 v4 0 v5 v6 v7 v8 v9) (k0 v1 v2 v3 v5 v6)) (k0 v1 v2 v3 v5 v6)
def qck (k0:Int->Int->Int->LI->LC->OO):Nat->Int->Int->Int->Int->LI->LC->Int->LC->LI->OO:=qe3 (fun a=>qc1 a k0) (fun _ _ _ _ _ _ _ _ _=>none)
def qdy (again:Int->Int->Int->LI->LC->OO) (k0:Int->Int->LI->LC->OO) (v1 v2 v3:Int) (v4:LI) (v5:LC):OO:=getK v5 v2 fun e4=>let e5:CV:=(cell1 e4).getD 0 .nili;cond (qem 3 e5) (let l6:=qbm e5;cond (decide (v3<(l6.length:Int))) (cond (decide ((0:Int)<=v1)) (getK v5 v2 fun e7=>let e8:CV:=(cell1 e7).getD 0 .nili;cond (qem 3 e8) (let l9:=qbm e8;getK l9 v3 fun e10=>let e11:CV:=(cell1 e10).headD .nili;let e12:CV:=(cell1 e10).tail.headD .nili;let e13:CV:=(cell1 e10).tail.tail.headD .nili;cond (qh0 .i64 e11&&(qem 1 e12&&(qgi .u8 e13&&true))) (let i14:=qft e11;let l15:=qbm e12;let l16:=qb7 e13;let x17:=IntKind.i64.wrap (v1 - 2);let x18:=cond (decide ((1048576:Int)<(l16.length:Int))) 1048576 (l16.length:Int);let x19:=IntKind.i64.wrap (x17 - x18);shut (qck (fun y20 y21 y22 y23 y24=>let x25:=IntKind.i64.wrap (y22+1);again y20 y21 x25 y23 y24) FUEL) x19 v2 v3 0 v4 v5 i14 l15 l16) none) none) (k0 v1 v2 v4 v5)) (k0 v1 v2 v4 v5)) none
def qd2 (k0:Int->Int->LI->LC->OO):Nat->Int->Int->Int->LI->LC->OO:=qe3 (fun a=>qdy a k0) (fun _ _ _ _ _=>none)
def qdr (again:Int->Int->LI->LC->OO) (k0:Int->OO) (v1 v2:Int) (v3:LI) (v4:LC):OO:=cond (decide (v2<(v4.length:Int))) (cond (decide ((0:Int)<=v1)) (let x3:=IntKind.i64.wrap (v1 - 1);shut (qd2 (fun y4 y5 y6 y7=>let x8:=IntKind.i64.wrap (y5+1);again y4 x8 y6 y7) FUEL) x3 v2 0 v3 v4) (k0 v1)) (k0 v1)
def qd5 (k0:Int->OO):Nat->Int->Int->LI->LC->OO:=qe3 (fun a=>qdr a k0) (fun _ _ _ _=>none)
def qnj:St->(KT)->OO:=fun σ k=>match σ with|⟨[(q1,.cl (.int .i64 v1)),(q2,.ptr q3 q4 q5),(q6,.cl (.int .i64 v2)),(q7,.cl (.int .i64 v3)),(q8,.ptr q9 q10 q11),(q12,.cl (.int .i64 v4)),(q13,.cl (.int .i64 v5))],[(q14,⟨.var [.cl (.sli .i64 v6),.cl (.slg q15 v7)],false⟩),(q16,⟨.var [.cl (.int .i64 v8),.cl (.slg q17 v9),.cl (.sli .u8 v10)],false⟩)]⟩=>cond (eqL [q1,q2,q3,q4,q5,q6,q7,q8,q9,q10,q11,q12,q13,q14,q15,q16,q17] [1,2,66,0,0,5,6,7,71,0,0,8,9,66,1,71,1]) (shut (qcy (fun y1 y2 y3 y4 y5 y6 y7 y8 y9=>k (.exit 6) ⟨[(1,.cl (.int .i64 y1)),(2,.ptr 66 0 0),(5,.cl (.int .i64 y2)),(6,.cl (.int .i64 y3)),(7,.ptr 71 0 0),(8,.cl (.int .i64 y4))],[(66,⟨.var [.cl (.sli .i64 y5),.cl (.slg 1 y6)],false⟩),(71,⟨.var [.cl (.int .i64 y7),.cl (.slg 1 y8),.cl (.sli .u8 y9)],false⟩)]⟩) FUEL) v1 v2 v3 v4 v5 v6 v7 v8 v9 v10) none|_=>none
def qnm:St->(KT)->OO:=fun σ k=>match σ with|⟨[(q1,.cl (.int .i64 v1)),(q2,.ptr q3 q4 q5),(q6,.cl (.int .i64 v2)),(q7,.cl (.int .i64 v3)),(q8,.ptr q9 q10 q11),(q12,.cl (.int .i64 v4))],[(q13,⟨.var [.cl (.sli .i64 v5),.cl (.slg q14 v6)],false⟩),(q15,⟨.var [.cl (.int .i64 v7),.cl (.slg q16 v8),.cl (.sli .u8 v9)],false⟩)]⟩=>cond (eqL [q1,q2,q3,q4,q5,q6,q7,q8,q9,q10,q11,q12,q13,q14,q15,q16] [1,2,66,0,0,5,6,7,71,0,0,8,66,1,71,1]) (shut (qck (fun y1 y2 y3 y4 y5=>k (.exit 4) ⟨[(1,.cl (.int .i64 y1)),(2,.ptr 66 0 0),(5,.cl (.int .i64 y2)),(6,.cl (.int .i64 y3))],[(66,⟨.var [.cl (.sli .i64 y4),.cl (.slg 1 y5)],false⟩)]⟩) FUEL) v1 v2 v3 v4 v5 v6 v7 v8 v9) none|_=>none
def qsl:St->(KT)->OO:=fun σ k=>match σ with|⟨[(q1,.cl (.int .i64 v1)),(q2,.ptr q3 q4 q5),(q6,.cl (.int .i64 v2)),(q7,.cl (.int .i64 v3))],[(q8,⟨.var [.cl (.sli .i64 v4),.cl (.slg q9 v5)],false⟩)]⟩=>cond (eqL [q1,q2,q3,q4,q5,q6,q7,q8,q9] [1,2,66,0,0,5,6,66,1]) (shut (qd2 (fun y1 y2 y3 y4=>k (.exit 2) ⟨[(1,.cl (.int .i64 y1)),(2,.ptr 66 0 0),(5,.cl (.int .i64 y2))],[(66,⟨.var [.cl (.sli .i64 y3),.cl (.slg 1 y4)],false⟩)]⟩) FUEL) v1 v2 v3 v4 v5) none|_=>none
def qqb:St->(KT)->OO:=fun σ k=>match σ with|⟨[(q1,.cl (.int .i64 v1)),(q2,.ptr q3 q4 q5),(q6,.cl (.int .i64 v2))],[(q7,⟨.var [.cl (.sli .i64 v3),.cl (.slg q8 v4)],false⟩)]⟩=>cond (eqL [q1,q2,q3,q4,q5,q6,q7,q8] [1,2,66,0,0,5,66,1]) (shut (qd5 (fun y1=>k (.exit 0) ⟨[(1,.cl (.int .i64 y1))],[]⟩) FUEL) v1 v2 v3 v4) none|_=>none
def ERESmall:Env:= {mkE BRESmall qa1 99 with live:=lk [] [(3,[1,2,5]),(7,[1,2,5,6]),(12,[1,2,5,6,7,8]),(16,[1,2,5,6,7,8,9])],lp:=lk none [(3,some qqb),(7,some qsl),(12,some qnm),(16,some qnj)],xl:=lk none [(0,some [4]),(1,some [1]),(3,some [1,2,5]),(5,some [1,2,5,6]),(7,some [1,2,5,6,7,8])]}
theorem qu2:LpT Tryz.prog (ERESmall) Tryz.f16 0 16 qnj:=by
 intro σ k r h
 unfold qnj at h
 split at h
 ·obtain⟨hc,j⟩:=qaa h
  cases qbe hc
  rw[qab] at j
  apply it10 j
  ·intro n;kernel_rfl
  ·rfl
 ·cases h
theorem qxm:LpT Tryz.prog (ERESmall) Tryz.f16 1 12 qnm:=by
 intro σ k r h
 unfold qnm at h
 split at h
 ·obtain⟨hc,j⟩:=qaa h
  cases qbe hc
  rw[qab] at j
  apply it9 j
  ·intro n;kernel_rfl
  ·rfl
 ·cases h
theorem qxv:LpT Tryz.prog (ERESmall) Tryz.f16 2 7 qsl:=by
 intro σ k r h
 unfold qsl at h
 split at h
 ·obtain⟨hc,j⟩:=qaa h
  cases qbe hc
  rw[qab] at j
  apply it5 j
  ·intro n;kernel_rfl
  ·rfl
 ·cases h
theorem qy7:LpT Tryz.prog (ERESmall) Tryz.f16 3 3 qqb:=by
 intro σ k r h
 unfold qqb at h
 split at h
 ·obtain⟨hc,j⟩:=qaa h
  cases qbe hc
  rw[qab] at j
  apply it4 j
  ·intro n;kernel_rfl
  ·rfl
 ·cases h
def q8y (g:LI) (c:LC) (n:Int):OO:=let x1:=cond (decide ((1000:Int)<(g.length:Int))) 1000 (g.length:Int);let x2:=IntKind.i64.wrap (n - x1);shut (qd5 (fun y3=>some (.ret [.cl (.int .i64 y3)] [])) FUEL) x2 0 g c
def qni (again:LC->Int->Int->LI->LC->OO) (k0:OO) (k1:LI->LC->OO) (v1:LC) (v2 v3:Int) (v4:LI) (v5:LC):OO:=cond (decide (v3<v2)) (getK v1 v3 fun e1=>let e2:CV:=(cell1 e1).getD 0 .nili;cond (qem 3 e2) (let l3:=qbm e2;cond (decide ((25:Int)<(l3.length:Int))) (k0) (let x4:=IntKind.i64.wrap (v3+1);again v1 v2 x4 v4 v5)) none) (k1 v4 v5)
def qjy (k0:OO) (k1:LI->LC->OO):Nat->LC->Int->Int->LI->LC->OO:=qe3 (fun a=>qni a k0 k1) (fun _ _ _ _ _=>none)
def qxn:St->(KT)->OO:=fun σ k=>match σ with|⟨[(q1,.ptr q2 q3 q4),(q5,.cl (.slg q6 v1)),(q7,.cl (.int .i64 v2)),(q8,.cl (.int .i64 v3))],[(q9,⟨.var [.cl (.sli .i64 v4),.cl (.slg q10 v5)],false⟩)]⟩=>cond (eqL [q1,q2,q3,q4,q5,q6,q7,q8,q9,q10] [1,65,0,0,6,1,7,8,65,1]) (shut (qjy (k .ret ⟨[(2,.cl (.bool false))],[]⟩) (fun y1 y2=>k (.exit 0) ⟨[(1,.ptr 65 0 0)],[(65,⟨.var [.cl (.sli .i64 y1),.cl (.slg 1 y2)],false⟩)]⟩) FUEL) v1 v2 v3 v4 v5) none|_=>none
def EWSmall:Env:= {mkE BWSmall qa1 25 with live:=lk [] [(2,[1,6,7,8])],lp:=lk none [(2,some qxn)],xl:=lk none [(0,some [2]),(1,some [1])]}
theorem q1w:LpT Tryz.prog (EWSmall) Tryz.f11 0 2 qxn:=by
 intro σ k r h
 unfold qxn at h
 split at h
 ·obtain⟨hc,j⟩:=qaa h
  cases qbe hc
  rw[qab] at j
  apply it5 j
  ·intro n;kernel_rfl
  ·rfl
 ·cases h
def xbkm (g:LI) (c:LC):OO:=shut (qjy (some (.ret [.cl (.bool false)] [])) (fun y1 y2=>cond (decide ((y2.length:Int)<=12)) (cond (recT y1 y2&&qzj 6000) (let r3:=qjz y1 y2 6000;some (.ret [.cl (.bool (decide ((0:Int)<=r3)))] [])) none) (some (.ret [.cl (.bool false)] []))) FUEL) c (c.length:Int) 0 g c
def EWAwake:Env:= {mkE BWAwake qa1 14 with xl:=lk none [(0,some [0])]}
def xbk2:OO:=cond (qad []&&b6k []) (let r3:Int:=(qm2 []).2.2;cond (qgv []&&recO []) (let r4:=evOk [] [];cond (!r4) (some (.ret [.cl (.bool (decide (r3=1)))] [])) (some (.ret [.cl (.bool false)] []))) none) none
def EWFirst:Env:= {
 orc:=fun g=>cond (Nat.beq g 7) ((kT KWAwake)) (cond (Nat.beq g 11) ((kT KWSmall)) (cond (Nat.beq g 12) ((kT KRRFit)) (cond (Nat.beq g 14) ((kT KR1Same)) (cond (Nat.beq g 16) ((kT KRESmall)) (cond (Nat.beq g 17) ((kT KRDigests)) (cond (Nat.beq g 18) ((kT KERSeq)) (fun _ _=>Tree.fail)))))))
 pre:=fun g=>cond (Nat.beq g 7) ((kP KWAwake)) (cond (Nat.beq g 11) ((kP KWSmall)) (cond (Nat.beq g 12) ((kP KRRFit)) (cond (Nat.beq g 14) ((kP KR1Same)) (cond (Nat.beq g 16) ((kP KRESmall)) (cond (Nat.beq g 17) ((kP KRDigests)) (cond (Nat.beq g 18) ((kP KERSeq)) (fun _ _=>true)))))))
 glob:=qa1
 nt:=83
 xl:=fun r=>cond (Nat.beq r 0) (some [6]) (none)
}
theorem q7z: ∀c,Tryz.f5.body=some c->qbi Tryz.prog (EWFirst) 40 c:=lsB (ids:=[]) (by kernel_rfl) trivial
def xbea (g:LI) (c:LC) (l:LC) (n:Int):OO:=cond (recT g c) (let r1:=xbry g c;cond (!r1) (let r2:=true;some (.ret [.cl (.bool r2)] [])) (cond (qgv g&&recO c) (let r3:=evOk g c;cond (!r3) (let r4:=true;some (.ret [.cl (.bool r4)] [])) (cond (decide ((25:Int)<(l.length:Int))) (let r5:=true;some (.ret [.cl (.bool r5)] [])) (cond (recT [] [.slg 3 l]&&qzj 6000) (let r6:=qjz [] [.slg 3 l] 6000;cond (decide (r6<0)) (let r7:=true;some (.ret [.cl (.bool r7)] [])) (let l8:=[]++c;rmK l8.length 24<| let l9:=l8++[.slg 3 l];rmK l9.length 24<| cond (qcb l9) (let r10:=qrw l9;cond (qgv r10&&recO l9) (let r11:=evOk r10 l9;cond (!r11) (let r12:=true;some (.ret [.cl (.bool r12)] [])) (let x13:=IntKind.i64.wrap n;cond (decide ((c.length:Int)=0)) none (let x14:=Int.tmod x13 (c.length:Int);let x15:=IntKind.i64.wrap ((1:Int)+x14);cond (qgv g&&recO c) (let r16:LI:=(qxr g c x15).1;let r17:Int:=(qxr g c x15).2;cond (qgv r10&&recO l9) (let r18:LI:=(qxr r10 l9 x15).1;let r19:Int:=(qxr r10 l9 x15).2;cond (decide (r17=0)) (cond (decide (r19=0)) (cond (qc6 r16) (let r20:=qcj r16 r18;cond (r20) (let r21:=true;some (.ret [.cl (.bool r21)] [])) (some (.ret [.cl (.bool false)] []))) none) (some (.ret [.cl (.bool false)] []))) (some (.ret [.cl (.bool false)] []))) none) none))) none) none)) none))) none)) none
theorem xbc2 (g:LI) (c:LC) (l:LC) (n:Int):qo1 Tryz.prog (EWFirst) 40 false Tryz.f5 [.cl (.agg [.sli .i64 g,.slg 1 c]),.cl (.slg 3 l),.cl (.int .u8 n)] []=xbea g c l n:=by kernel_rfl
abbrev xbjx:=Int->Int->LI->Int->Int->Int->LI->Int->Int->Int->Int->Int->Int->Bool->LI->OO
abbrev xbjg:=Int->Int->LI->Int->Int->Int->LI->Int->Int->Int->Int->Int->Int->Bool->Int->Bool->LI->OO
def qnc (l:Nat) (again:LI->OO) (k0:xbjx) (k1:xbjg) (k2:LI->Int->LI->OO) (v1:LI):OO:=cond (decide ((0:Int)<(v1.length:Int))) (cond (qad v1) (let r1:Int:=(qfm v1).1;let r2:Int:=(qfm v1).2;cond (Nat.beq l l) (yldO [.int .u32 r1,.bool (decide ((0:Int)<r2))] (k0 r1 r2 v1 (v1.length:Int) r1 r2 v1 r1 r2 r1 r2 r1 r2 (decide ((0:Int)<r2)) v1) (cond (decide (r2=0)) (k1 r1 r2 v1 (v1.length:Int) r1 r2 v1 r1 r2 r1 r2 r1 r2 (decide ((0:Int)<r2)) r2 (decide (r2=0)) v1) (cond (decide ((0:Int)<=r2)) (cond (decide (r2<=(v1.length:Int))) (let l3:=List.drop (Int.toNat r2) v1;again l3) none) none))) none) none) (k2 v1 (v1.length:Int) v1)
def qj7 (l:Nat) (k0:xbjx) (k1:xbjg) (k2:LI->Int->LI->OO):Nat->LI->OO|0=>fun _=>none|n+1=>qnc l (qj7 l k0 k1 k2 n) k0 k1 k2
def q2x (l:Nat):St->(KT)->OO:=fun σ k=>match σ with|⟨[(q1,.cl (.fn (.yield q2) [] [])),(q3,.ptr q4 q5 q6)],[(q7,⟨.var [.cl (.sli .u8 v1)],false⟩)]⟩=>cond (eqL [q1,q3,q4,q5,q6,q7] [0,1,0,0,0,0]&&Nat.beq l q2) (shut (qj7 l (fun y1 y2 y3 y4 y5 y6 y7 y8 y9 y10 y11 y12 y13 y14 y15=>k .ret ⟨[(0,.cl (.fn (.yield l) [] [])),(1,.ptr 0 0 0),(3,.cl (.int .u32 y1)),(4,.cl (.int .i64 y2)),(5,.cl (.sli .u8 y3)),(6,.cl (.int .i64 y4)),(7,.cl (.bool true)),(8,.tup [.cl (.int .u32 y5),.cl (.int .i64 y6)]),(9,.cl (.sli .u8 y7)),(10,.tup [.cl (.int .u32 y8),.cl (.int .i64 y9)]),(11,.cl (.int .u32 y10)),(12,.cl (.int .i64 y11)),(13,.cl (.fn (.yield l) [] [])),(14,.cl (.int .u32 y12)),(15,.cl (.int .i64 y13)),(16,.cl (.bool y14)),(17,.cl (.bool false)),(18,.cl (.bool true)),(19,.cl (.bool true)),(20,.tup []),(21,.tup []),(22,.cl (.bool true))],[(0,⟨.var [.cl (.sli .u8 y15)],false⟩)]⟩) (fun y1 y2 y3 y4 y5 y6 y7 y8 y9 y10 y11 y12 y13 y14 y15 y16 y17=>k .ret ⟨[(0,.cl (.fn (.yield l) [] [])),(1,.ptr 0 0 0),(3,.cl (.int .u32 y1)),(4,.cl (.int .i64 y2)),(5,.cl (.sli .u8 y3)),(6,.cl (.int .i64 y4)),(7,.cl (.bool true)),(8,.tup [.cl (.int .u32 y5),.cl (.int .i64 y6)]),(9,.cl (.sli .u8 y7)),(10,.tup [.cl (.int .u32 y8),.cl (.int .i64 y9)]),(11,.cl (.int .u32 y10)),(12,.cl (.int .i64 y11)),(13,.cl (.fn (.yield l) [] [])),(14,.cl (.int .u32 y12)),(15,.cl (.int .i64 y13)),(16,.cl (.bool y14)),(17,.cl (.bool true)),(18,.cl (.bool false)),(19,.cl (.bool false)),(20,.cl (.int .i64 y15)),(21,.cl (.bool y16)),(22,.cl (.bool true))],[(0,⟨.var [.cl (.sli .u8 y17)],false⟩)]⟩) (fun y1 y2 y3=>k (.exit 0) ⟨[(0,.cl (.fn (.yield l) [] [])),(1,.ptr 0 0 0),(5,.cl (.sli .u8 y1)),(6,.cl (.int .i64 y2)),(7,.cl (.bool false))],[(0,⟨.var [.cl (.sli .u8 y3)],false⟩)]⟩) FUEL) v1) none|_=>none
def EONums (l:Nat):Env:= {
 orc:=fun g=>cond (Nat.beq g 190) ((kT KONumber)) (fun _ _=>Tree.fail)
 pre:=fun g=>cond (Nat.beq g 190) ((kP KONumber)) (fun _ _=>true)
 live:=fun r=>cond (Nat.beq r 0) ([0,1]) ([])
 glob:=qa1
 nt:=26
 lp:=fun r=>cond (Nat.beq r 0) (some (q2x l)) (none)
 rg:=false
 yn:=l
 yl:=fun r=>cond (Nat.beq r 2) (some 4) (none)
}
theorem q8d (l:Nat):LpT Tryz.prog (EONums l) Tryz.f189 0 0 (q2x l):=by
 intro σ k r h
 unfold q2x at h
 split at h
 ·obtain⟨hc,j⟩:=qaa h
  simp only[zab,qdu,decide_eq_true_eq,zal] at hc
  obtain⟨hc,rfl⟩:=hc
  cases qbe hc
  rw[qab] at j
  apply jt1 j _ (fun a=>qnc l a _ _ _)
  ·intro n;rfl
  ·intro n;kernel_rfl
  ·rfl
 ·cases h
theorem q83 (l:Nat): ∀c,Tryz.f189.body=some c->qbi Tryz.prog (EONums l) 40 c:=lsB (ids:=[(true,0)]) (by kernel_rfl) ⟨⟨_,rfl,q8d l⟩,trivial⟩
def xblz (l:Nat) (b:LI):OO:=cond (Nat.beq l l) (shut (qj7 l (fun y1 y2 y3 y4 y5 y6 y7 y8 y9 y10 y11 y12 y13 y14 y15=>some (.ret [] [some ⟨.var [.cl (.sli .u8 y15)],false⟩])) (fun y16 y17 y18 y19 y20 y21 y22 y23 y24 y25 y26 y27 y28 y29 y30 y31 y32=>some (.ret [] [some ⟨.var [.cl (.sli .u8 y32)],false⟩])) (fun y33 y34 y35=>some (.ret [] [some ⟨.var [.cl (.sli .u8 y35)],false⟩])) FUEL) b) none
theorem xbhi (l:Nat) (b:LI):qo1 Tryz.prog (EONums l) 40 false Tryz.f189 [.cl (.fn (.yield l) [] []),.ptr 0 0 0] [⟨.var [.cl (.sli .u8 b)],false⟩]=xblz l b:=by kernel_rfl
def xbb2 (l:Nat):Env:= {
 orc:=fun g=>cond (Nat.beq g 176) ((kT KARoot)) (fun _ _=>Tree.fail)
 pre:=fun g=>cond (Nat.beq g 176) ((kP KARoot)) (fun _ _=>true)
 keep:=fun g=>cond (Nat.beq g 176) true (false)
 live:=fun r=>cond (Nat.beq r 1) ([0,7,8]) (cond (Nat.beq r 4) ([0,3,7,8,12,13]) (cond (Nat.beq r 10) ([0,41]) ([])))
 glob:=qa1
 nt:=63
 rg:=false
 yn:=l
 yl:=fun r=>cond (Nat.beq r 6) (some 21) (cond (Nat.beq r 13) (some 9) (none))
}
theorem xbcy (l:Nat): ∀c,Tryz.f175.body=some c->qbi Tryz.prog (xbb2 l) 40 c:=lsB (ids:=[]) (by kernel_rfl) trivial
def xbnh (l:Nat):OO:=cond (Nat.beq l l) (yldO [.agg [.int .i64 1,.int .i64 1,.sli .u32 [2,16,840,1,101,3,4,2,1]]] (some (.ret [] [])) (cond (Nat.beq l l) (yldO [.agg [.int .i64 2,.int .i64 1,.sli .u32 [2,16,840,1,101,3,4,2,2]]] (some (.ret [] [])) (cond (Nat.beq l l) (yldO [.agg [.int .i64 3,.int .i64 1,.sli .u32 [2,16,840,1,101,3,4,2,3]]] (some (.ret [] [])) (cond (Nat.beq l l) (yldO [.agg [.int .i64 4,.int .i64 1,.sli .u32 [2,16,840,1,101,3,4,2,8]]] (some (.ret [] [])) (cond (Nat.beq l l) (yldO [.agg [.int .i64 5,.int .i64 1,.sli .u32 [2,16,840,1,101,3,4,2,10]]] (some (.ret [] [])) (cond (Nat.beq l l) (yldO [.agg [.int .i64 6,.int .i64 1,.sli .u32 [2,16,840,1,101,3,4,2,11]]] (some (.ret [] [])) (cond (Nat.beq l l) (yldO [.agg [.int .i64 7,.int .i64 1,.sli .u32 [2,16,840,1,101,3,4,2,12]]] (some (.ret [] [])) (cond (Nat.beq l l) (yldO [.agg [.int .i64 11,.int .i64 2,.sli .u32 [2,16,840,1,101,3,4,3,17]]] (some (.ret [] [])) (cond (Nat.beq l l) (yldO [.agg [.int .i64 12,.int .i64 2,.sli .u32 [2,16,840,1,101,3,4,3,18]]] (some (.ret [] [])) (cond (Nat.beq l l) (yldO [.agg [.int .i64 13,.int .i64 2,.sli .u32 [2,16,840,1,101,3,4,3,19]]] (some (.ret [] [])) (cond (Nat.beq l l) (yldO [.agg [.int .i64 33,.int .i64 2,.sli .u32 [2,999,1]]] (some (.ret [] [])) (cond (Nat.beq l l) (yldO [.agg [.int .i64 34,.int .i64 2,.sli .u32 [2,999,2]]] (some (.ret [] [])) (cond (Nat.beq l l) (yldO [.agg [.int .i64 41,.int .i64 2,.sli .u32 [1,2,840,113549,1,9,16,3,17]]] (some (.ret [] [])) (cond (Nat.beq l l) (yldO [.agg [.int .i64 51,.int .i64 3,.sli .u32 [2,16,840,1,101,3,4,4,1]]] (some (.ret [] [])) (cond (Nat.beq l l) (yldO [.agg [.int .i64 52,.int .i64 3,.sli .u32 [2,16,840,1,101,3,4,4,2]]] (some (.ret [] [])) (cond (Nat.beq l l) (yldO [.agg [.int .i64 53,.int .i64 3,.sli .u32 [2,16,840,1,101,3,4,4,3]]] (some (.ret [] [])) (cond (Nat.beq l l) (yldO [.agg [.int .i64 61,.int .i64 4,.sli .u32 [1,2,840,113549,1,9,16,3,28]]] (some (.ret [] [])) (cond (Nat.beq l l) (yldO [.agg [.int .i64 62,.int .i64 4,.sli .u32 [1,2,840,113549,1,9,16,3,29]]] (some (.ret [] [])) (cond (Nat.beq l l) (yldO [.agg [.int .i64 63,.int .i64 4,.sli .u32 [1,2,840,113549,1,9,16,3,30]]] (some (.ret [] [])) (cond (Nat.beq l l) (yldO [.agg [.int .i64 71,.int .i64 5,.sli .u32 [2,16,840,1,101,3,4,1,5]]] (some (.ret [] [])) (cond (Nat.beq l l) (yldO [.agg [.int .i64 72,.int .i64 5,.sli .u32 [2,16,840,1,101,3,4,1,25]]] (some (.ret [] [])) (cond (Nat.beq l l) (yldO [.agg [.int .i64 73,.int .i64 5,.sli .u32 [2,16,840,1,101,3,4,1,45]]] (some (.ret [] [])) (cond (Nat.beq l l) (yldO [.agg [.int .i64 81,.int .i64 6,.sli .u32 [2,16,840,1,101,3,4,1,2]]] (some (.ret [] [])) (cond (Nat.beq l l) (yldO [.agg [.int .i64 82,.int .i64 6,.sli .u32 [2,16,840,1,101,3,4,1,22]]] (some (.ret [] [])) (cond (Nat.beq l l) (yldO [.agg [.int .i64 83,.int .i64 6,.sli .u32 [2,16,840,1,101,3,4,1,42]]] (some (.ret [] [])) (cond (Nat.beq l l) (yldO [.agg [.int .i64 91,.int .i64 7,.sli .u32 [2,16,840,1,101,3,4,1,6]]] (some (.ret [] [])) (cond (Nat.beq l l) (yldO [.agg [.int .i64 92,.int .i64 7,.sli .u32 [2,16,840,1,101,3,4,1,26]]] (some (.ret [] [])) (cond (Nat.beq l l) (yldO [.agg [.int .i64 93,.int .i64 7,.sli .u32 [2,16,840,1,101,3,4,1,46]]] (some (.ret [] [])) (cond (Nat.beq l l) (yldO [.agg [.int .i64 21,.int .i64 2,.sli .u32 [2,16,840,1,101,3,4,3,20]]] (some (.ret [] [])) (cond (Nat.beq l l) (yldO [.agg [.int .i64 22,.int .i64 2,.sli .u32 [2,16,840,1,101,3,4,3,26]]] (some (.ret [] [])) (cond (Nat.beq l l) (yldO [.agg [.int .i64 23,.int .i64 2,.sli .u32 [2,16,840,1,101,3,4,3,21]]] (some (.ret [] [])) (cond (Nat.beq l l) (yldO [.agg [.int .i64 24,.int .i64 2,.sli .u32 [2,16,840,1,101,3,4,3,27]]] (some (.ret [] [])) (cond (Nat.beq l l) (yldO [.agg [.int .i64 25,.int .i64 2,.sli .u32 [2,16,840,1,101,3,4,3,22]]] (some (.ret [] [])) (cond (Nat.beq l l) (yldO [.agg [.int .i64 26,.int .i64 2,.sli .u32 [2,16,840,1,101,3,4,3,28]]] (some (.ret [] [])) (cond (Nat.beq l l) (yldO [.agg [.int .i64 27,.int .i64 2,.sli .u32 [2,16,840,1,101,3,4,3,23]]] (some (.ret [] [])) (cond (Nat.beq l l) (yldO [.agg [.int .i64 28,.int .i64 2,.sli .u32 [2,16,840,1,101,3,4,3,29]]] (some (.ret [] [])) (cond (Nat.beq l l) (yldO [.agg [.int .i64 29,.int .i64 2,.sli .u32 [2,16,840,1,101,3,4,3,24]]] (some (.ret [] [])) (cond (Nat.beq l l) (yldO [.agg [.int .i64 30,.int .i64 2,.sli .u32 [2,16,840,1,101,3,4,3,30]]] (some (.ret [] [])) (cond (Nat.beq l l) (yldO [.agg [.int .i64 31,.int .i64 2,.sli .u32 [2,16,840,1,101,3,4,3,25]]] (some (.ret [] [])) (cond (Nat.beq l l) (yldO [.agg [.int .i64 32,.int .i64 2,.sli .u32 [2,16,840,1,101,3,4,3,31]]] (some (.ret [] [])) (some (.ret [] []))) none)) none)) none)) none)) none)) none)) none)) none)) none)) none)) none)) none)) none)) none)) none)) none)) none)) none)) none)) none)) none)) none)) none)) none)) none)) none)) none)) none)) none)) none)) none)) none)) none)) none)) none)) none)) none)) none)) none)) none
theorem xbia (l:Nat):qo1 Tryz.prog (xbb2 l) 40 false Tryz.f175 [.cl (.fn (.yield l) [] [])] []=xbnh l:=by kernel_rfl
def EDCatch:Env:= {
 orc:=fun _=>fun _ _=>Tree.fail
 pre:=fun _=>fun _ _=>true
 glob:=qa1
 nt:=19
 rg:=false
}
theorem q7p: ∀c,Tryz.f47.body=some c->qbi Tryz.prog (EDCatch) 40 c:=lsB (ids:=[]) (by kernel_rfl) trivial
def xbhx (t:Int) (bb:LI) (kk:LC) (e:Int):OO:=some (.ret [] [some ⟨.var [.cl (.int .i64 t),.cl (.sli .u8 bb),.cl (.slg 3 kk)],false⟩,some ⟨.var [.cl (.int .i64 e)],false⟩])
theorem q0f (t:Int) (bb:LI) (kk:LC) (e:Int):recK Tryz.prog (EDCatch) 40 Tryz.f47 (none) [.ptr 0 0 0,.ptr 1 0 0] [⟨.var [.cl (.int .i64 t),.cl (.sli .u8 bb),.cl (.slg 3 kk)],false⟩,⟨.var [.cl (.int .i64 e)],false⟩]=xbhx t bb kk e:=by kernel_rfl
def xbie (why:Int) (t:Int) (bb:LI) (kk:LC) (e:Int):OO:=some (.ret [] [some ⟨.var [.cl (.int .i64 0),.nils,.nils],false⟩,some ⟨.var [.cl (.int .i64 why)],false⟩])
theorem q2r (why:Int) (t:Int) (bb:LI) (kk:LC) (e:Int):recK Tryz.prog (EDCatch) 40 Tryz.f47 (some (.iface 85 (.agg [.int .i64 why]))) [.ptr 0 0 0,.ptr 1 0 0] [⟨.var [.cl (.int .i64 t),.cl (.sli .u8 bb),.cl (.slg 3 kk)],false⟩,⟨.var [.cl (.int .i64 e)],false⟩]=xbie why t bb kk e:=by kernel_rfl
def xbhm (why:Int) (t:Int) (e:Int):OO:=some (.ret [] [some ⟨.var [.cl (.int .i64 0),.nils,.nils],false⟩,some ⟨.var [.cl (.int .i64 why)],false⟩])
theorem q1n (why:Int) (t:Int) (e:Int):recK Tryz.prog (EDCatch) 40 Tryz.f47 (some (.iface 85 (.agg [.int .i64 why]))) [.ptr 0 0 0,.ptr 1 0 0] [⟨.var [.cl (.int .i64 t),.nils,.nils],false⟩,⟨.var [.cl (.int .i64 e)],false⟩]=xbhm why t e:=by kernel_rfl
end
end Go.Proofs.YtoaakappnhemiaaGreatDoorA
