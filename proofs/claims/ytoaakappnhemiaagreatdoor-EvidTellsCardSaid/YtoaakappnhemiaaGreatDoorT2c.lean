/-
 What the reading of apostille/evid.kindOf comes to, printed by a program. Conditions: none.
-/
import Derived.Test.YtoaakappnhemiaaGreatDoorT1
set_option linter.unusedVariables false
set_option linter.unusedSimpArgs false
set_option maxRecDepth 100000
namespace Go.Proofs.YtoaakappnhemiaaGreatDoorA
noncomputable section
def xbsz:Env:= {mkE q3j qay 30 with xl:=lk none [(0,some [2,3])]}
def xbdg (t:Int) (b:LI) (k:LC):OO:=cond (qbr k) (let r1:LC:=(qb8 160 t b k).1;let r2:Int:=(qb8 160 t b k).2;cond (!decide (r2=0)) (zR [zvi 0,zvb false] []) (cond (!decide ((r1.length:Int)=1)) (zR [zvi 0,zvb false] []) (cond (decide ((0:Int)<(r1.length:Int))) (Option.bind (r1[0]?) fun(e3:CV)=>let e4:CV:=(cell1 e3).headD .nili;let e5:CV:=(cell1 e3).tail.headD .nili;let e6:CV:=(cell1 e3).tail.tail.headD .nili;cond (qg2 .i64 e4&&(qeu .u8 e5&&(qc6 3 e6&&true))) (let i7:=qfn e4;let l8:=qby e5;let l9:=qbi e6;cond (isS [.int .i64 i7,.sli .u8 l8,.slg 3 l9]) (let r10:LI:=(qp0 i7 l8 l9).1;let r11:Int:=(qp0 i7 l8 l9).2;let r12:=q1k r10;zR [zvi r12,zvb (decide (r11=0))] []) none) none) none))) none
def xbqp:Env:= {mkE q2u qay 77 with xl:=lk none [(0,some [2,3])]}
def xbdp (t:Int) (b:LI) (k:LC):OO:=cond (qbr k) (let r1:LC:=(qb8 48 t b k).1;let r2:Int:=(qb8 48 t b k).2;cond (!decide (r2=0)) (zR [.cl (.agg [.int .i64 0,.slg 1 [],.sli .u8 []]),zvb false] []) (cond (decide ((r1.length:Int)<2)) (zR [.cl (.agg [.int .i64 0,.slg 1 [],.sli .u8 []]),zvb false] []) (cond (decide ((3:Int)<(r1.length:Int))) (zR [.cl (.agg [.int .i64 0,.slg 1 [],.sli .u8 []]),zvb false] []) (cond (decide ((r1.length:Int)=3)) (cond (decide ((1:Int)<(r1.length:Int))) (Option.bind (r1[1]?) fun(e3:CV)=>let e4:CV:=(cell1 e3).headD .nili;let e5:CV:=(cell1 e3).tail.headD .nili;let e6:CV:=(cell1 e3).tail.tail.headD .nili;cond (qg2 .i64 e4&&(qeu .u8 e5&&(qc6 3 e6&&true))) (let i7:=qfn e4;let l8:=qby e5;let l9:=qbi e6;cond (isS [.int .i64 i7,.sli .u8 l8,.slg 3 l9]) (let r10:=lpL 162 i7 l8 l9;let r11:=lpB 162 i7 l8 l9;cond (r11) (cond (decide ((0:Int)<(r1.length:Int))) (Option.bind (r1[0]?) fun(e12:CV)=>let e13:CV:=(cell1 e12).headD .nili;let e14:CV:=(cell1 e12).tail.headD .nili;let e15:CV:=(cell1 e12).tail.tail.headD .nili;cond (qg2 .i64 e13&&(qeu .u8 e14&&(qc6 3 e15&&true))) (let i16:=qfn e13;let l17:=qby e14;let l18:=qbi e15;cond (isS [.int .i64 i16,.sli .u8 l17,.slg 3 l18]) (let r19:Int:=(kindOf i16 l17 l18).1;let r20:Bool:=(kindOf i16 l17 l18).2;let x21:=IntKind.i64.wrap ((r1.length:Int) - 1);getK r1 x21 fun e22=>let e23:CV:=(cell1 e22).headD .nili;let e24:CV:=(cell1 e22).tail.headD .nili;let e25:CV:=(cell1 e22).tail.tail.headD .nili;cond (qg2 .i64 e23&&(qeu .u8 e24&&(qc6 3 e25&&true))) (let i26:=qfn e23;let l27:=qby e24;let l28:=qbi e25;cond (isS [.int .i64 i26,.sli .u8 l27,.slg 3 l28]) (let r29:LI:=(qbm [.int .i64 i26,.sli .u8 l27,.slg 3 l28]).1;let r30:Int:=(qbm [.int .i64 i26,.sli .u8 l27,.slg 3 l28]).2;cond (decide ((0:Int)<(r10.length:Int))) (cond (r20) (zR [.cl (.agg [.int .i64 r19,.slg 1 r10,.sli .u8 r29]),zvb (decide (r30=0))] []) (zR [.cl (.agg [.int .i64 r19,.slg 1 r10,.sli .u8 r29]),zvb false] [])) (zR [.cl (.agg [.int .i64 r19,.slg 1 r10,.sli .u8 r29]),zvb false] [])) none) none) none) none) none) (cond (decide ((0:Int)<(r1.length:Int))) (Option.bind (r1[0]?) fun(e31:CV)=>let e32:CV:=(cell1 e31).headD .nili;let e33:CV:=(cell1 e31).tail.headD .nili;let e34:CV:=(cell1 e31).tail.tail.headD .nili;cond (qg2 .i64 e32&&(qeu .u8 e33&&(qc6 3 e34&&true))) (let i35:=qfn e32;let l36:=qby e33;let l37:=qbi e34;cond (isS [.int .i64 i35,.sli .u8 l36,.slg 3 l37]) (let r38:Int:=(kindOf i35 l36 l37).1;let x40:=IntKind.i64.wrap ((r1.length:Int) - 1);getK r1 x40 fun e41=>let e42:CV:=(cell1 e41).headD .nili;let e43:CV:=(cell1 e41).tail.headD .nili;let e44:CV:=(cell1 e41).tail.tail.headD .nili;cond (qg2 .i64 e42&&(qeu .u8 e43&&(qc6 3 e44&&true))) (let i45:=qfn e42;let l46:=qby e43;let l47:=qbi e44;cond (isS [.int .i64 i45,.sli .u8 l46,.slg 3 l47]) (let r48:LI:=(qbm [.int .i64 i45,.sli .u8 l46,.slg 3 l47]).1;zR [.cl (.agg [.int .i64 r38,.slg 1 r10,.sli .u8 r48]),zvb false] []) none) none) none) none) none)) none) none) none) (cond (decide ((0:Int)<(r1.length:Int))) (Option.bind (r1[0]?) fun(e50:CV)=>let e51:CV:=(cell1 e50).headD .nili;let e52:CV:=(cell1 e50).tail.headD .nili;let e53:CV:=(cell1 e50).tail.tail.headD .nili;cond (qg2 .i64 e51&&(qeu .u8 e52&&(qc6 3 e53&&true))) (let i54:=qfn e51;let l55:=qby e52;let l56:=qbi e53;cond (isS [.int .i64 i54,.sli .u8 l55,.slg 3 l56]) (let r57:Int:=(kindOf i54 l55 l56).1;let r58:Bool:=(kindOf i54 l55 l56).2;let x59:=IntKind.i64.wrap ((r1.length:Int) - 1);getK r1 x59 fun e60=>let e61:CV:=(cell1 e60).headD .nili;let e62:CV:=(cell1 e60).tail.headD .nili;let e63:CV:=(cell1 e60).tail.tail.headD .nili;cond (qg2 .i64 e61&&(qeu .u8 e62&&(qc6 3 e63&&true))) (let i64:=qfn e61;let l65:=qby e62;let l66:=qbi e63;cond (isS [.int .i64 i64,.sli .u8 l65,.slg 3 l66]) (let r67:LI:=(qbm [.int .i64 i64,.sli .u8 l65,.slg 3 l66]).1;let r68:Int:=(qbm [.int .i64 i64,.sli .u8 l65,.slg 3 l66]).2;cond (r58) (zR [.cl (.agg [.int .i64 r57,.slg 1 [],.sli .u8 r67]),zvb (decide (r68=0))] []) (zR [.cl (.agg [.int .i64 r57,.slg 1 [],.sli .u8 r67]),zvb false] [])) none) none) none) none) none))))) none
def qti (again:Nat->LC->Int->Int->LC->OO) (k0:OO) (k1:Nat->LC->OO) (v1:Nat) (v2:LC) (v3 v4:Int) (v5:LC):OO:=cond (decide (v4<v3)) (getK v2 v4 fun e1=>let e2:CV:=(cell1 e1).headD .nili;let e3:CV:=(cell1 e1).tail.headD .nili;let e4:CV:=(cell1 e1).tail.tail.headD .nili;cond (qg2 .i64 e2&&(qeu .u8 e3&&(qc6 3 e4&&true))) (let i5:=qfn e2;let l6:=qby e3;let l7:=qbi e4;cond (isS [.int .i64 i5,.sli .u8 l6,.slg 3 l7]) (let r8:Int:=(qm7 i5 l6 l7).1;let r9:LC:=(qm7 i5 l6 l7).2.1;let r10:LI:=(qm7 i5 l6 l7).2.2.1;let r11:Bool:=(qm7 i5 l6 l7).2.2.2;cond (!r11) (k0) (let l12:=v5++([.agg [.int .i64 r8,.slg 1 r9,.sli .u8 r10]]);rmK l12.length 56<| let x13:=IntKind.i64.wrap (v4+1);again l12.length v2 v3 x13 l12)) none) none) (k1 v1 v5)
def q5u (k0:OO) (k1:Nat->LC->OO):Nat->Nat->LC->Int->Int->LC->OO:=qdp (fun a=>qti a k0 k1) (fun _ _ _ _ _=>none)
def q2w:St->(KT)->OO:=fun σ k=>match σ with|⟨[(q1,.cl (.fn (.func q2) [] [])),(q3,.ref q4 q5 v1 true q6),(q7,.cl (.slg q8 v2)),(q9,.cl (.int .i64 v3)),(q10,.cl (.int .i64 v4))],[(q11,⟨.gen q12 v5,false⟩)]⟩=>cond (eqL [q1,q2,q3,q4,q5,q6,q7,q8,q9,q10,q11,q12] [3,58,10,91,0,3,28,3,29,30,91,3]) (shut (q5u (k .ret ⟨[(8,.ref 72 0 0 true 3),(9,zvb false)],[(72,⟨.gen 3 [],false⟩)]⟩) (fun y1 y2=>k (.exit 0) ⟨[(10,.ref 91 0 y1 true 3)],[(91,⟨.gen 3 y2,false⟩)]⟩) FUEL) v1 v2 v3 v4 v5) none|_=>none
def xb2c:Env:= {mkE xbqz qay 48 with live:=lk [] [(5,[3,10,28,29,30])],ren:=lk [] [(5,[(109,91)])],lp:=lk none [(5,some q2w)],xl:=lk none [(0,some [8,9]),(1,some [10])]}
theorem q8i:LpT Tryz.prog (xb2c) Tryz.f97 0 5 q2w:=by
 intro σ k r h
 unfold q2w at h
 split at h
 ·obtain⟨hc,j⟩:=qaa h
  cases qa8 hc
  rw[qab] at j
  apply it5 j
  ·intro n;kernel_rfl
  ·rfl
 ·cases h
def xb4f (l:LC) (lo:Int) (hi:Int):OO:=cond (decide ((l.length:Int)<lo)) (zR [.cl (.slg 3 []),zvb false] []) (cond (decide (hi<(l.length:Int))) (zR [.cl (.slg 3 []),zvb false] []) (cond (decide ((0:Int)<=(l.length:Int))) (cond (decide ((l.length:Int)*56<=LIM)) (cond (decide ((l.length:Int)<=LIM)) (shut (q5u (zR [.cl (.slg 3 []),zvb false] []) (fun y1 y2=>zR [zvg y2,zvb true] []) FUEL) 0 l (l.length:Int) 0 []) none) none) none))
def xb6n:Env:= {mkE xbpf qay 25 with xl:=lk none [(0,some [6,7])]}
def xbyy (t:Int) (b:LI) (k:LC) (g:Int):OO:=cond (qbr k) (let r1:LC:=(qb8 g t b k).1;let r2:Int:=(qb8 g t b k).2;cond (!decide (r2=0)) (zR [.cl (.slg 3 []),zvb false] []) (cond (qgv r1) (let r3:=qse 0 (r1.length:Int) r1;let r4:=qsb 0 (r1.length:Int) r1;zR [zvg r3,zvb r4] []) none)) none
def xbhx:Env:= {mkE qwu qay 8 with xl:=lk none [(0,some [2,3])]}
def xbkl (t:Int) (b:LI) (k:LC):OO:=cond (isS [.int .i64 t,.sli .u8 b,.slg 3 k]) (let r1:=lmL 48 t b k;let r2:=lmB 48 t b k;zR [zvg r1,zvb r2] []) none
def qrl (again:Nat->LC->Int->Int->LC->OO) (k0:OO) (k1:Nat->LC->OO) (v1:Nat) (v2:LC) (v3 v4:Int) (v5:LC):OO:=cond (decide (v4<v3)) (getK v2 v4 fun e1=>let e2:CV:=(cell1 e1).headD .nili;let e3:CV:=(cell1 e1).tail.headD .nili;let e4:CV:=(cell1 e1).tail.tail.headD .nili;cond (qg2 .i64 e2&&(qeu .u8 e3&&(qc6 3 e4&&true))) (let i5:=qfn e2;let l6:=qby e3;let l7:=qbi e4;cond (isS [.int .i64 i5,.sli .u8 l6,.slg 3 l7]) (let r8:=lmL 48 i5 l6 l7;let r9:=lmB 48 i5 l6 l7;cond (!r9) (k0) (let l10:=v5++[.slg 3 r8];rmK l10.length 24<| let x11:=IntKind.i64.wrap (v4+1);again l10.length v2 v3 x11 l10)) none) none) (k1 v1 v5)
def q6z (k0:OO) (k1:Nat->LC->OO):Nat->Nat->LC->Int->Int->LC->OO:=qdp (fun a=>qrl a k0 k1) (fun _ _ _ _ _=>none)
def q2s:St->(KT)->OO:=fun σ k=>match σ with|⟨[(q1,.cl (.fn (.func q2) [] [])),(q3,.ref q4 q5 v1 true q6),(q7,.cl (.slg q8 v2)),(q9,.cl (.int .i64 v3)),(q10,.cl (.int .i64 v4))],[(q11,⟨.gen q12 v5,false⟩)]⟩=>cond (eqL [q1,q2,q3,q4,q5,q6,q7,q8,q9,q10,q11,q12] [3,29,10,91,0,1,28,3,29,30,91,1]) (shut (q6z (k .ret ⟨[(8,.ref 72 0 0 true 1),(9,zvb false)],[(72,⟨.gen 1 [],false⟩)]⟩) (fun y1 y2=>k (.exit 0) ⟨[(10,.ref 91 0 y1 true 1)],[(91,⟨.gen 1 y2,false⟩)]⟩) FUEL) v1 v2 v3 v4 v5) none|_=>none
def xbvy:Env:= {mkE xboy qay 48 with live:=lk [] [(5,[3,10,28,29,30])],ren:=lk [] [(5,[(109,91)])],lp:=lk none [(5,some q2s)],xl:=lk none [(0,some [8,9]),(1,some [10])]}
theorem q80:LpT Tryz.prog (xbvy) Tryz.f56 0 5 q2s:=by
 intro σ k r h
 unfold q2s at h
 split at h
 ·obtain⟨hc,j⟩:=qaa h
  cases qa8 hc
  rw[qab] at j
  apply it5 j
  ·intro n;kernel_rfl
  ·rfl
 ·cases h
def xb4y (l:LC) (lo:Int) (hi:Int):OO:=cond (decide ((l.length:Int)<lo)) (zR [.cl (.slg 1 []),zvb false] []) (cond (decide (hi<(l.length:Int))) (zR [.cl (.slg 1 []),zvb false] []) (cond (decide ((0:Int)<=(l.length:Int))) (cond (decide ((l.length:Int)*24<=LIM)) (cond (decide ((l.length:Int)<=LIM)) (shut (q6z (zR [.cl (.slg 1 []),zvb false] []) (fun y1 y2=>zR [.cl (.slg 1 y2),zvb true] []) FUEL) 0 l (l.length:Int) 0 []) none) none) none))
def xb4b:Env:= {mkE xbp0 qay 25 with xl:=lk none [(0,some [6,7])]}
def xbx6 (t:Int) (b:LI) (k:LC) (g:Int):OO:=cond (qbr k) (let r1:LC:=(qb8 g t b k).1;let r2:Int:=(qb8 g t b k).2;cond (!decide (r2=0)) (zR [.cl (.slg 1 []),zvb false] []) (cond (qgv r1) (let r3:=qns 0 (r1.length:Int) r1;let r4:=qnb 0 (r1.length:Int) r1;zR [.cl (.slg 1 r3),zvb r4] []) none)) none
def xb1y:Env:= {mkE xbbq qay 16 with xl:=lk none [(0,some [2,3])]}
def xbx8 (t:Int) (b:LI) (k:LC):OO:=cond (isS [.int .i64 t,.sli .u8 b,.slg 3 k]) (let r1:Int:=(qet t b k).1;let r3:Int:=(qet t b k).2.2;zR [zvi r1,zvb (decide (r3=0))] []) none
def qr6 (again:Nat->LC->Int->Int->LI->OO) (k0:OO) (k1:Nat->LI->OO) (v1:Nat) (v2:LC) (v3 v4:Int) (v5:LI):OO:=cond (decide (v4<v3)) (getK v2 v4 fun e1=>let e2:CV:=(cell1 e1).headD .nili;let e3:CV:=(cell1 e1).tail.headD .nili;let e4:CV:=(cell1 e1).tail.tail.headD .nili;cond (qg2 .i64 e2&&(qeu .u8 e3&&(qc6 3 e4&&true))) (let i5:=qfn e2;let l6:=qby e3;let l7:=qbi e4;cond (isS [.int .i64 i5,.sli .u8 l6,.slg 3 l7]) (let r8:Int:=(qet i5 l6 l7).1;let r9:=decide ((qet i5 l6 l7).2.2=0);cond (!r9) (k0) (let l10:=v5++[r8];rmK l10.length 8<| let x11:=IntKind.i64.wrap (v4+1);again l10.length v2 v3 x11 l10)) none) none) (k1 v1 v5)
def q6s (k0:OO) (k1:Nat->LI->OO):Nat->Nat->LC->Int->Int->LI->OO:=qdp (fun a=>qr6 a k0 k1) (fun _ _ _ _ _=>none)
def q46:St->(KT)->OO:=fun σ k=>match σ with|⟨[(q1,.cl (.fn (.func q2) [] [])),(q3,.ref q4 q5 v1 true q6),(q7,.cl (.slg q8 v2)),(q9,.cl (.int .i64 v3)),(q10,.cl (.int .i64 v4))],[(q11,⟨.ints .i64 v5,false⟩)]⟩=>cond (eqL [q1,q2,q3,q4,q5,q6,q7,q8,q9,q10,q11] [3,27,10,91,0,1,28,3,29,30,91]) (shut (q6s (k .ret ⟨[(8,.ref 72 0 0 true 1),(9,zvb false)],[(72,⟨.ints .i64 [],false⟩)]⟩) (fun y1 y2=>k (.exit 0) ⟨[(10,.ref 91 0 y1 true 1)],[(91,⟨.ints .i64 y2,false⟩)]⟩) FUEL) v1 v2 v3 v4 v5) none|_=>none
def xb0i:Env:= {mkE xbr3 qay 48 with live:=lk [] [(5,[3,10,28,29,30])],ren:=lk [] [(5,[(109,91)])],lp:=lk none [(5,some q46)],xl:=lk none [(0,some [8,9]),(1,some [10])]}
theorem q83:LpT Tryz.prog (xb0i) Tryz.f54 0 5 q46:=by
 intro σ k r h
 unfold q46 at h
 split at h
 ·obtain⟨hc,j⟩:=qaa h
  cases qa8 hc
  rw[qab] at j
  apply it5 j
  ·intro n;kernel_rfl
  ·rfl
 ·cases h
def xb4k (l:LC) (lo:Int) (hi:Int):OO:=cond (decide ((l.length:Int)<lo)) (zR [.cl (.sli .i64 []),zvb false] []) (cond (decide (hi<(l.length:Int))) (zR [.cl (.sli .i64 []),zvb false] []) (cond (decide ((0:Int)<=(l.length:Int))) (cond (decide ((l.length:Int)*8<=LIM)) (cond (decide ((l.length:Int)<=LIM)) (shut (q6s (zR [.cl (.sli .i64 []),zvb false] []) (fun y1 y2=>zR [.cl (.sli .i64 y2),zvb true] []) FUEL) 0 l (l.length:Int) 0 []) none) none) none))
def xb53:Env:= {mkE xbur qay 25 with xl:=lk none [(0,some [6,7])]}
def xbxj (t:Int) (b:LI) (k:LC) (g:Int):OO:=cond (qbr k) (let r1:LC:=(qb8 g t b k).1;let r2:Int:=(qb8 g t b k).2;cond (!decide (r2=0)) (zR [.cl (.sli .i64 []),zvb false] []) (cond (qgv r1) (let r3:=qzb 0 (r1.length:Int) r1;let r4:=qzu 0 (r1.length:Int) r1;zR [.cl (.sli .i64 r3),zvb r4] []) none)) none
def EEParse:Env:= {mkE BEParse qay 80 with xl:=lk none [(0,some [2,3])]}
def xbms (b:LI):OO:=cond (qad b) (let r1:Int:=(qba b).1.1;let r2:LI:=(qba b).1.2.1;let r3:LC:=(qba b).1.2.2;let r4:Int:=(qba b).2;cond (!decide (r4=0)) (zR [.cl (.agg [.sli .i64 [],.slg 1 []]),zvi r4] []) (cond (qbr r3) (let r5:LC:=(qb8 48 r1 r2 r3).1;let r6:Int:=(qb8 48 r1 r2 r3).2;cond (!decide (r6=0)) (zR [.cl (.agg [.sli .i64 [],.slg 1 []]),zvi 1] []) (cond (!decide ((r5.length:Int)=3)) (zR [.cl (.agg [.sli .i64 [],.slg 1 []]),zvi 1] []) (cond (decide ((0:Int)<(r5.length:Int))) (Option.bind (r5[0]?) fun(e7:CV)=>let e8:CV:=(cell1 e7).headD .nili;let e9:CV:=(cell1 e7).tail.headD .nili;let e10:CV:=(cell1 e7).tail.tail.headD .nili;cond (qg2 .i64 e8&&(qeu .u8 e9&&(qc6 3 e10&&true))) (let i11:=qfn e8;let l12:=qby e9;let l13:=qbi e10;cond (isS [.int .i64 i11,.sli .u8 l12,.slg 3 l13]) (let r14:Int:=(qdo i11 l12 l13).1;let r15:Int:=(qdo i11 l12 l13).2;cond (decide ((1:Int)<(r5.length:Int))) (Option.bind (r5[1]?) fun(e16:CV)=>let e17:CV:=(cell1 e16).headD .nili;let e18:CV:=(cell1 e16).tail.headD .nili;let e19:CV:=(cell1 e16).tail.tail.headD .nili;cond (qg2 .i64 e17&&(qeu .u8 e18&&(qc6 3 e19&&true))) (let i20:=qfn e17;let l21:=qby e18;let l22:=qbi e19;cond (isS [.int .i64 i20,.sli .u8 l21,.slg 3 l22]) (let r23:=laL 48 i20 l21 l22;let r24:=laB 48 i20 l21 l22;cond (decide ((2:Int)<(r5.length:Int))) (Option.bind (r5[2]?) fun(e25:CV)=>let e26:CV:=(cell1 e25).headD .nili;let e27:CV:=(cell1 e25).tail.headD .nili;let e28:CV:=(cell1 e25).tail.tail.headD .nili;cond (qg2 .i64 e26&&(qeu .u8 e27&&(qc6 3 e28&&true))) (let i29:=qfn e26;let l30:=qby e27;let l31:=qbi e28;cond (isS [.int .i64 i29,.sli .u8 l30,.slg 3 l31]) (let r32:=lcL 48 i29 l30 l31;let r33:=lcB 48 i29 l30 l31;cond (!decide (r15=0)) (zR [.cl (.agg [.sli .i64 [],.slg 1 []]),zvi 1] []) (cond (!decide (r14=1)) (zR [.cl (.agg [.sli .i64 [],.slg 1 []]),zvi 1] []) (cond (!r24) (zR [.cl (.agg [.sli .i64 [],.slg 1 []]),zvi 1] []) (cond (!r33) (zR [.cl (.agg [.sli .i64 [],.slg 1 []]),zvi 1] []) (cond (qdt r23&&recO r32) (let r34:=evOk r23 r32;cond (!r34) (zR [.cl (.agg [.sli .i64 [],.slg 1 []]),zvi 1] []) (zR [.cl (.agg [.sli .i64 r23,.slg 1 r32]),zvi 0] [])) none))))) none) none) none) none) none) none) none) none) none))) none)) none
def EFSame3:Env:= {mkE BFSame3 qay 8 with xl:=lk none [(0,some [4])]}
def xby8 (a:LI) (b:LI):OO:=cond (qcc a) (let r1:=qbl a b;zR [zvb r1] []) none
def q72 (again:LC->LC->Int->Int->OO) (k0:OO) (k1:OO) (v1 v2:LC) (v3 v4:Int):OO:=cond (decide (v4<v3)) (getK v2 v4 fun e1=>let e2:CV:=(cell1 e1).getD 0 .nili;cond (qeu .u8 e2) (let l3:=qby e2;getK v1 v4 fun e4=>let e5:CV:=(cell1 e4).getD 0 .nili;cond (qeu .u8 e5) (let l6:=qby e5;cond (qcc l3) (let r7:=qbl l3 l6;cond (!r7) (k0) (let x8:=IntKind.i64.wrap (v4+1);again v1 v2 v3 x8)) none) none) none) (k1)
def qna (k0:OO) (k1:OO):Nat->LC->LC->Int->Int->OO:=qdp (fun a=>q72 a k0 k1) (fun _ _ _ _=>none)
def qx3:St->(KT)->OO:=fun σ k=>match σ with|⟨[(q1,.cl (.slg q2 v1)),(q3,.cl (.fn (.func q4) [] [])),(q5,.cl (.slg q6 v2)),(q7,.cl (.int .i64 v3)),(q8,.cl (.int .i64 v4))],[]⟩=>cond (eqL [q1,q2,q3,q4,q5,q6,q7,q8] [1,1,2,83,15,1,16,17]) (shut (qna (k .ret ⟨[(6,zvb false)],[]⟩) (k (.exit 0) ⟨[],[]⟩) FUEL) v1 v2 v3 v4) none|_=>none
def xblc:Env:= {mkE xbhe qay 32 with live:=lk [] [(4,[1,2,15,16,17])],lp:=lk none [(4,some qx3)],xl:=lk none [(0,some [6]),(1,some [])]}
theorem q4k:LpT Tryz.prog (xblc) Tryz.f82 0 4 qx3:=by
 intro σ k r h
 unfold qx3 at h
 split at h
 ·obtain⟨hc,j⟩:=qaa h
  cases qa8 hc
  rw[qab] at j
  apply it4 j
  ·intro n;kernel_rfl
  ·rfl
 ·cases h
def xblv (a:LC) (b:LC):OO:=cond (!decide ((a.length:Int)=(b.length:Int))) (zR [zvb false] []) (shut (qna (zR [zvb false] []) (zR [zvb true] []) FUEL) b a (a.length:Int) 0)
def EFSame2:Env:= {mkE BFSame2 qay 8 with xl:=lk none [(0,some [4])]}
def xbvz (a:LC) (b:LC):OO:=cond (qjw a&&qjw b) (let r1:=qe7 a b;zR [zvb r1] []) none
def q9k (again:LC->LC->Int->Int->OO) (k0:OO) (k1:OO) (v1 v2:LC) (v3 v4:Int):OO:=cond (decide (v4<v3)) (getK v2 v4 fun e1=>let e2:CV:=(cell1 e1).getD 0 .nili;cond (qc6 1 e2) (let l3:=qbi e2;getK v1 v4 fun e4=>let e5:CV:=(cell1 e4).getD 0 .nili;cond (qc6 1 e5) (let l6:=qbi e5;cond (qjw l3&&qjw l6) (let r7:=qe7 l3 l6;cond (!r7) (k0) (let x8:=IntKind.i64.wrap (v4+1);again v1 v2 v3 x8)) none) none) none) (k1)
def qnw (k0:OO) (k1:OO):Nat->LC->LC->Int->Int->OO:=qdp (fun a=>q9k a k0 k1) (fun _ _ _ _=>none)
def qxt:St->(KT)->OO:=fun σ k=>match σ with|⟨[(q1,.cl (.slg q2 v1)),(q3,.cl (.fn (.func q4) [] [])),(q5,.cl (.slg q6 v2)),(q7,.cl (.int .i64 v3)),(q8,.cl (.int .i64 v4))],[]⟩=>cond (eqL [q1,q2,q3,q4,q5,q6,q7,q8] [1,1,2,81,15,1,16,17]) (shut (qnw (k .ret ⟨[(6,zvb false)],[]⟩) (k (.exit 0) ⟨[],[]⟩) FUEL) v1 v2 v3 v4) none|_=>none
def xbld:Env:= {mkE xbam qay 32 with live:=lk [] [(4,[1,2,15,16,17])],lp:=lk none [(4,some qxt)],xl:=lk none [(0,some [6]),(1,some [])]}
theorem q1w:LpT Tryz.prog (xbld) Tryz.f85 0 4 qxt:=by
 intro σ k r h
 unfold qxt at h
 split at h
 ·obtain⟨hc,j⟩:=qaa h
  cases qa8 hc
  rw[qab] at j
  apply it4 j
  ·intro n;kernel_rfl
  ·rfl
 ·cases h
def xblu (a:LC) (b:LC):OO:=cond (!decide ((a.length:Int)=(b.length:Int))) (zR [zvb false] []) (shut (qnw (zR [zvb false] []) (zR [zvb true] []) FUEL) b a (a.length:Int) 0)
def xbpx:Env:= {mkE q2e qay 26 with xl:=lk none [(0,some [4])]}
def xbbd (d:Int) (t:LC) (w:LI) (e:Int) (u:LC) (x:LI):OO:=cond (decide (d=e)) (cond (qjr t&&qjr u) (let r1:=qhc t u;cond (r1) (cond (qcc w) (let r2:=qbl w x;zR [zvb r2] []) none) (zR [zvb false] [])) none) (zR [zvb false] [])
def q3o (again:LC->LC->Int->Int->OO) (k0:OO) (k1:OO) (v1 v2:LC) (v3 v4:Int):OO:=cond (decide (v4<v3)) (getK v2 v4 fun e1=>let e2:CV:=(cell1 e1).headD .nili;let e3:CV:=(cell1 e1).tail.headD .nili;let e4:CV:=(cell1 e1).tail.tail.headD .nili;cond (qg2 .i64 e2&&(qc6 1 e3&&(qeu .u8 e4&&true))) (let i5:=qfn e2;let l6:=qbi e3;let l7:=qby e4;getK v1 v4 fun e8=>let e9:CV:=(cell1 e8).headD .nili;let e10:CV:=(cell1 e8).tail.headD .nili;let e11:CV:=(cell1 e8).tail.tail.headD .nili;cond (qg2 .i64 e9&&(qc6 1 e10&&(qeu .u8 e11&&true))) (let i12:=qfn e9;let l13:=qbi e10;let l14:=qby e11;cond ((qjr l6&&qcc l7)&&qjr l13) (let r15:=q86 i5 l6 l7 i12 l13 l14;cond (!r15) (k0) (let x16:=IntKind.i64.wrap (v4+1);again v1 v2 v3 x16)) none) none) none) (k1)
def qlg (k0:OO) (k1:OO):Nat->LC->LC->Int->Int->OO:=qdp (fun a=>q3o a k0 k1) (fun _ _ _ _=>none)
def qst:St->(KT)->OO:=fun σ k=>match σ with|⟨[(q1,.cl (.slg q2 v1)),(q3,.cl (.fn (.func q4) [] [])),(q5,.cl (.slg q6 v2)),(q7,.cl (.int .i64 v3)),(q8,.cl (.int .i64 v4))],[]⟩=>cond (eqL [q1,q2,q3,q4,q5,q6,q7,q8] [1,3,2,46,15,3,16,17]) (shut (qlg (k .ret ⟨[(6,zvb false)],[]⟩) (k (.exit 0) ⟨[],[]⟩) FUEL) v1 v2 v3 v4) none|_=>none
def xbe6:Env:= {mkE q1p qay 32 with live:=lk [] [(4,[1,2,15,16,17])],lp:=lk none [(4,some qst)],xl:=lk none [(0,some [6]),(1,some [])]}
theorem qy8:LpT Tryz.prog (xbe6) Tryz.f45 0 4 qst:=by
 intro σ k r h
 unfold qst at h
 split at h
 ·obtain⟨hc,j⟩:=qaa h
  cases qa8 hc
  rw[qab] at j
  apply it4 j
  ·intro n;kernel_rfl
  ·rfl
 ·cases h
def xbcv (a:LC) (b:LC):OO:=cond (!decide ((a.length:Int)=(b.length:Int))) (zR [zvb false] []) (shut (qlg (zR [zvb false] []) (zR [zvb true] []) FUEL) b a (a.length:Int) 0)
def EFSame1:Env:= {mkE BFSame1 qay 8 with xl:=lk none [(0,some [4])]}
def xbze (a:LC) (b:LC):OO:=cond (qe6 a&&qe6 b) (let r1:=qf3 a b;zR [zvb r1] []) none
def q1b (again:LC->LC->Int->Int->OO) (k0:OO) (k1:OO) (v1 v2:LC) (v3 v4:Int):OO:=cond (decide (v4<v3)) (getK v2 v4 fun e1=>let e2:CV:=(cell1 e1).getD 0 .nili;cond (qc6 3 e2) (let l3:=qbi e2;getK v1 v4 fun e4=>let e5:CV:=(cell1 e4).getD 0 .nili;cond (qc6 3 e5) (let l6:=qbi e5;cond (qe6 l3&&qe6 l6) (let r7:=qf3 l3 l6;cond (!r7) (k0) (let x8:=IntKind.i64.wrap (v4+1);again v1 v2 v3 x8)) none) none) none) (k1)
def qiy (k0:OO) (k1:OO):Nat->LC->LC->Int->Int->OO:=qdp (fun a=>q1b a k0 k1) (fun _ _ _ _=>none)
def qov:St->(KT)->OO:=fun σ k=>match σ with|⟨[(q1,.cl (.slg q2 v1)),(q3,.cl (.fn (.func q4) [] [])),(q5,.cl (.slg q6 v2)),(q7,.cl (.int .i64 v3)),(q8,.cl (.int .i64 v4))],[]⟩=>cond (eqL [q1,q2,q3,q4,q5,q6,q7,q8] [1,1,2,44,15,1,16,17]) (shut (qiy (k .ret ⟨[(6,zvb false)],[]⟩) (k (.exit 0) ⟨[],[]⟩) FUEL) v1 v2 v3 v4) none|_=>none
def q7e:Env:= {mkE qx8 qay 32 with live:=lk [] [(4,[1,2,15,16,17])],lp:=lk none [(4,some qov)],xl:=lk none [(0,some [6]),(1,some [])]}
theorem qw0:LpT Tryz.prog (q7e) Tryz.f43 0 4 qov:=by
 intro σ k r h
 unfold qov at h
 split at h
 ·obtain⟨hc,j⟩:=qaa h
  cases qa8 hc
  rw[qab] at j
  apply it4 j
  ·intro n;kernel_rfl
  ·rfl
 ·cases h
def q5m (a:LC) (b:LC):OO:=cond (!decide ((a.length:Int)=(b.length:Int))) (zR [zvb false] []) (shut (qiy (zR [zvb false] []) (zR [zvb true] []) FUEL) b a (a.length:Int) 0)
def EESame:Env:= {mkE BESame qay 17 with xl:=lk none [(0,some [4])]}
def xb1e (g:LI) (c:LC) (h:LI) (e:LC):OO:=cond (qdt g) (let r1:=xbhm g h;cond (r1) (cond (qa9 c&&qa9 e) (let r2:=qkc c e;zR [zvb r2] []) none) (zR [zvb false] [])) none
def qid (again:Int->Int->LI->LC->LI->LC->OO) (k0:OO) (k1:Int->LI->LC->LI->LC->OO) (v1 v2:Int) (v3:LI) (v4:LC) (v5:LI) (v6:LC):OO:=getK v4 v1 fun e8=>let e9:CV:=(cell1 e8).getD 0 .nili;cond (qc6 3 e9) (let l10:=qbi e9;cond (decide (v2<(l10.length:Int))) (getK v4 v1 fun e11=>let e12:CV:=(cell1 e11).getD 0 .nili;cond (qc6 3 e12) (let l13:=qbi e12;getK l13 v2 fun e14=>let e15:CV:=(cell1 e14).headD .nili;let e16:CV:=(cell1 e14).tail.headD .nili;let e17:CV:=(cell1 e14).tail.tail.headD .nili;cond (qg2 .i64 e15&&(qc6 1 e16&&(qeu .u8 e17&&true))) (let i18:=qfn e15;let l19:=qbi e16;let l20:=qby e17;getK v6 v1 fun e21=>let e22:CV:=(cell1 e21).getD 0 .nili;cond (qc6 3 e22) (let l23:=qbi e22;getK l23 v2 fun e24=>let e25:CV:=(cell1 e24).headD .nili;let e26:CV:=(cell1 e24).tail.headD .nili;let e27:CV:=(cell1 e24).tail.tail.headD .nili;cond (qg2 .i64 e25&&(qc6 1 e26&&(qeu .u8 e27&&true))) (let i28:=qfn e25;let l29:=qbi e26;let l30:=qby e27;cond (!decide (i18=i28)) (k0) (cond (qjr l19&&qjr l29) (let r31:=qhc l19 l29;cond (!r31) (k0) (cond (qcc l20) (let r32:=qbl l20 l30;cond (!r32) (k0) (let x33:=IntKind.i64.wrap (v2+1);again v1 x33 v3 v4 v5 v6)) none)) none)) none) none) none) none) (k1 v1 v3 v4 v5 v6)) none
def qgl (k0:OO) (k1:Int->LI->LC->LI->LC->OO):Nat->Int->Int->LI->LC->LI->LC->OO:=qdp (fun a=>qid a k0 k1) (fun _ _ _ _ _ _=>none)
def qoq (again:Int->LI->LC->LI->LC->OO) (k0:OO) (k1:OO) (v1:Int) (v2:LI) (v3:LC) (v4:LI) (v5:LC):OO:=cond (decide (v1<(v3.length:Int))) (getK v3 v1 fun e2=>let e3:CV:=(cell1 e2).getD 0 .nili;cond (qc6 3 e3) (let l4:=qbi e3;getK v5 v1 fun e5=>let e6:CV:=(cell1 e5).getD 0 .nili;cond (qc6 3 e6) (let l7:=qbi e6;cond (!decide ((l4.length:Int)=(l7.length:Int))) (k0) (shut (qgl (k0) (fun y8 y9 y10 y11 y12=>let x13:=IntKind.i64.wrap (y8+1);again x13 y9 y10 y11 y12) FUEL) v1 0 v2 v3 v4 v5)) none) none) (k1)
def qh9 (k0:OO) (k1:OO):Nat->Int->LI->LC->LI->LC->OO:=qdp (fun a=>qoq a k0 k1) (fun _ _ _ _ _=>none)
def qy4:St->(KT)->OO:=fun σ k=>match σ with|⟨[(q1,.ptr q2 q3 q4),(q5,.ptr q6 q7 q8),(q9,.cl (.int .i64 v1)),(q10,.cl (.int .i64 v2))],[(q11,⟨.var [.cl (.sli .i64 v3),.cl (.slg q12 v4)],false⟩),(q13,⟨.var [.cl (.sli .i64 v5),.cl (.slg q14 v6)],false⟩)]⟩=>cond (eqL [q1,q2,q3,q4,q5,q6,q7,q8,q9,q10,q11,q12,q13,q14] [2,66,0,0,3,67,0,0,5,6,66,1,67,1]) (shut (qgl (k .ret ⟨[(4,zvb false)],[]⟩) (fun y1 y2 y3 y4 y5=>k (.exit 2) ⟨[(2,.ptr 66 0 0),(3,.ptr 67 0 0),(5,zvi y1)],[(66,⟨.var [.cl (.sli .i64 y2),.cl (.slg 1 y3)],false⟩),(67,⟨.var [.cl (.sli .i64 y4),.cl (.slg 1 y5)],false⟩)]⟩) FUEL) v1 v2 v3 v4 v5 v6) none|_=>none
def qw6:St->(KT)->OO:=fun σ k=>match σ with|⟨[(q1,.ptr q2 q3 q4),(q5,.ptr q6 q7 q8),(q9,.cl (.int .i64 v1))],[(q10,⟨.var [.cl (.sli .i64 v2),.cl (.slg q11 v3)],false⟩),(q12,⟨.var [.cl (.sli .i64 v4),.cl (.slg q13 v5)],false⟩)]⟩=>cond (eqL [q1,q2,q3,q4,q5,q6,q7,q8,q9,q10,q11,q12,q13] [2,66,0,0,3,67,0,0,5,66,1,67,1]) (shut (qh9 (k .ret ⟨[(4,zvb false)],[]⟩) (k (.exit 0) ⟨[],[]⟩) FUEL) v1 v2 v3 v4 v5) none|_=>none
def ERESame:Env:= {mkE BRESame qay 91 with live:=lk [] [(4,[2,3,5]),(9,[2,3,5,6])],lp:=lk none [(4,some qw6),(9,some qy4)],xl:=lk none [(0,some [4]),(1,some []),(3,some [2,3,5])]}
theorem q39:LpT Tryz.prog (ERESame) Tryz.f10 0 9 qy4:=by
 intro σ k r h
 unfold qy4 at h
 split at h
 ·obtain⟨hc,j⟩:=qaa h
  cases qa8 hc
  rw[qab] at j
  apply it6 j
  ·intro n;kernel_rfl
  ·rfl
 ·cases h
theorem q2p:LpT Tryz.prog (ERESame) Tryz.f10 1 4 qw6:=by
 intro σ k r h
 unfold qw6 at h
 split at h
 ·obtain⟨hc,j⟩:=qaa h
  cases qa8 hc
  rw[qab] at j
  apply it5 j
  ·intro n;kernel_rfl
  ·rfl
 ·cases h
def xboa (g:LI) (c:LC) (h:LI) (e:LC):OO:=cond (qdt g) (let r1:=xbhm g h;cond (!r1) (zR [zvb false] []) (cond (!decide ((c.length:Int)=(e.length:Int))) (zR [zvb false] []) (shut (qh9 (zR [zvb false] []) (zR [zvb true] []) FUEL) 0 g c h e))) none
def q9l (again:LC->LC->Int->OO) (k0:OO) (k1:OO) (v1 v2:LC) (v3:Int):OO:=cond (decide (v3<(v1.length:Int))) (getK v1 v3 fun e1=>let e2:CV:=(cell1 e1).getD 0 .nili;cond (qeu .u8 e2) (let l3:=qby e2;getK v2 v3 fun e4=>let e5:CV:=(cell1 e4).getD 0 .nili;cond (qeu .u8 e5) (let l6:=qby e5;cond (qcc l3) (let r7:=qec l3 l6;cond (r7) (k0) (getK v2 v3 fun e8=>let e9:CV:=(cell1 e8).getD 0 .nili;cond (qeu .u8 e9) (let l10:=qby e9;getK v1 v3 fun e11=>let e12:CV:=(cell1 e11).getD 0 .nili;cond (qeu .u8 e12) (let l13:=qby e12;cond (qcc l10) (let r14:=qec l10 l13;cond (r14) (k0) (let x15:=IntKind.i64.wrap (v3+1);again v1 v2 x15)) none) none) none)) none) none) none) (k1)
def qm6 (k0:OO) (k1:OO):Nat->LC->LC->Int->OO:=qdp (fun a=>q9l a k0 k1) (fun _ _ _=>none)
def qyk:St->(KT)->OO:=fun σ k=>match σ with|⟨[(q1,.cl (.slg q2 v1)),(q3,.cl (.slg q4 v2)),(q5,.cl (.int .i64 v3))],[]⟩=>cond (eqL [q1,q2,q3,q4,q5] [0,1,1,1,5]) (shut (qm6 (k .ret ⟨[(4,zvb false)],[]⟩) (k (.exit 0) ⟨[],[]⟩) FUEL) v1 v2 v3) none|_=>none
def ER4Same:Env:= {mkE BR4Same qay 37 with live:=lk [] [(4,[0,1,5])],lp:=lk none [(4,some qyk)],xl:=lk none [(0,some [4]),(1,some [])]}
theorem q37:LpT Tryz.prog (ER4Same) Tryz.f62 0 4 qyk:=by
 intro σ k r h
 unfold qyk at h
 split at h
 ·obtain⟨hc,j⟩:=qaa h
  cases qa8 hc
  rw[qab] at j
  apply it3 j
  ·intro n;kernel_rfl
  ·rfl
 ·cases h
def xbnh (a:LC) (b:LC):OO:=cond (!decide ((a.length:Int)=(b.length:Int))) (zR [zvb false] []) (shut (qm6 (zR [zvb false] []) (zR [zvb true] []) FUEL) a b 0)
def q4u (again:LC->LC->Int->OO) (k0:OO) (k1:OO) (v1 v2:LC) (v3:Int):OO:=cond (decide (v3<(v1.length:Int))) (getK v1 v3 fun e1=>let e2:CV:=(cell1 e1).getD 0 .nili;cond (qc6 1 e2) (let l3:=qbi e2;getK v2 v3 fun e4=>let e5:CV:=(cell1 e4).getD 0 .nili;cond (qc6 1 e5) (let l6:=qbi e5;cond (qjw l3&&qjw l6) (let r7:=qe7 l3 l6;cond (!r7) (k0) (let x8:=IntKind.i64.wrap (v3+1);again v1 v2 x8)) none) none) none) (k1)
def qkz (k0:OO) (k1:OO):Nat->LC->LC->Int->OO:=qdp (fun a=>q4u a k0 k1) (fun _ _ _=>none)
def qsd:St->(KT)->OO:=fun σ k=>match σ with|⟨[(q1,.cl (.slg q2 v1)),(q3,.cl (.slg q4 v2)),(q5,.cl (.int .i64 v3))],[]⟩=>cond (eqL [q1,q2,q3,q4,q5] [0,1,1,1,5]) (shut (qkz (k .ret ⟨[(4,zvb false)],[]⟩) (k (.exit 0) ⟨[],[]⟩) FUEL) v1 v2 v3) none|_=>none
def ER38Same:Env:= {mkE BR38Same qay 27 with live:=lk [] [(4,[0,1,5])],lp:=lk none [(4,some qsd)],xl:=lk none [(0,some [4]),(1,some [])]}
theorem q0n:LpT Tryz.prog (ER38Same) Tryz.f33 0 4 qsd:=by
 intro σ k r h
 unfold qsd at h
 split at h
 ·obtain⟨hc,j⟩:=qaa h
  cases qa8 hc
  rw[qab] at j
  apply it3 j
  ·intro n;kernel_rfl
  ·rfl
 ·cases h
def xbb6 (a:LC) (b:LC):OO:=cond (!decide ((a.length:Int)=(b.length:Int))) (zR [zvb false] []) (shut (qkz (zR [zvb false] []) (zR [zvb true] []) FUEL) a b 0)
def qih (again:Nat->Int->Nat->Int->Int->LC->LI->LC->LC->Int->LI->LC->OO) (k0:OO) (k1:Nat->Int->Nat->Int->LC->LI->LC->LC->Int->LI->LC->OO) (v1:Nat) (v2:Int) (v3:Nat) (v4 v5:Int) (v6:LC) (v7:LI) (v8 v9:LC) (v10:Int) (v11:LI) (v12:LC):OO:=getK v6 v2 fun e17=>let e18:CV:=(cell1 e17).getD 0 .nili;cond (qc6 1 e18) (let l19:=qbi e18;cond (decide (v4<(l19.length:Int))) (getK v6 v2 fun e20=>let e21:CV:=(cell1 e20).getD 0 .nili;cond (qc6 1 e21) (let l22:=qbi e21;getK l22 v4 fun e23=>let e24:CV:=(cell1 e23).getD 0 .nili;cond (qeu .u8 e24) (let l25:=qby e24;let r26:=qp2 v5;cond (!decide ((l25.length:Int)=r26)) (k0) (getK v6 v2 fun e27=>let e28:CV:=(cell1 e27).getD 0 .nili;cond (qc6 1 e28) (let l29:=qbi e28;getK l29 v4 fun e30=>let e31:CV:=(cell1 e30).getD 0 .nili;cond (qeu .u8 e31) (let l32:=qby e31;cond (qcc l32) (let r33:=qb7;let l34:=v9++([.agg [.int .i64 4,.sli .u8 l32,.slg 3 r33]]);rmK l34.length 56<| let x35:=IntKind.i64.wrap (v4+1);again v1 v2 l34.length x35 v5 v6 v7 v8 l34 v10 v11 v12) none) none) none)) none) none) (k1 v1 v2 v3 v5 v6 v7 v8 v9 v10 v11 v12)) none
def qgm (k0:OO) (k1:Nat->Int->Nat->Int->LC->LI->LC->LC->Int->LI->LC->OO):Nat->Nat->Int->Nat->Int->Int->LC->LI->LC->LC->Int->LI->LC->OO:=qdp (fun a=>qih a k0 k1) (fun _ _ _ _ _ _ _ _ _ _ _ _=>none)
def qku (again:Nat->Int->Int->LC->LI->LC->Int->LI->LC->OO) (k0:OO) (k1:Nat->Int->LC->LI->LC->Int->LI->LC->OO) (v1:Nat) (v2 v3:Int) (v4:LC) (v5:LI) (v6:LC) (v7:Int) (v8:LI) (v9:LC):OO:=cond (decide (v2<(v4.length:Int))) (getK v4 v2 fun e11=>let e12:CV:=(cell1 e11).getD 0 .nili;cond (qc6 1 e12) (let l13:=qbi e12;cond (decide ((l13.length:Int)<1)) (k0) (getK v4 v2 fun e14=>let e15:CV:=(cell1 e14).getD 0 .nili;cond (qc6 1 e15) (let l16:=qbi e15;cond (decide ((64:Int)<(l16.length:Int))) (k0) (shut (qgm (k0) (fun y17 y18 y19 y20 y21 y22 y23 y24 y25 y26 y27=>cond (qbr y24) (let r28:=qa0;let l29:=y23++([.agg [.int .i64 48,.sli .u8 r28,.slg 3 y24]]);rmK l29.length 56<| let x30:=IntKind.i64.wrap (y18+1);again l29.length x30 y20 y21 y22 l29 y25 y26 y27) none) FUEL) v1 v2 0 0 v3 v4 v5 v6 [] v7 v8 v9)) none)) none) (k1 v1 v3 v4 v5 v6 v7 v8 v9)
def qi7 (k0:OO) (k1:Nat->Int->LC->LI->LC->Int->LI->LC->OO):Nat->Nat->Int->Int->LC->LI->LC->Int->LI->LC->OO:=qdp (fun a=>qku a k0 k1) (fun _ _ _ _ _ _ _ _ _=>none)
def qyl:St->(KT)->OO:=fun σ k=>match σ with|⟨[(q1,.ptr q2 q3 q4),(q5,.ptr q6 q7 q8),(q9,.ref q10 q11 q12 true q13),(q14,.ref q15 q16 v1 true q17),(q18,.cl (.int .i64 v2)),(q19,.ref q20 q21 v3 true q22),(q23,.cl (.int .i64 v4))],[(q24,⟨.var [.cl (.int .i64 v5),.cl (.slg q25 v6),.cl (.sli .u8 v7)],false⟩),(q26,⟨.var [.cl (.int .i64 q27),.nils,.nils],false⟩),(q28,⟨.gen q29 v8,false⟩),(q30,⟨.gen q31 v9,false⟩),(q32,⟨.gen q33 [.agg [.int .i64 v10,.sli .u8 v11,.slg q34 v12]],false⟩)]⟩=>cond (eqL [q1,q2,q3,q4,q5,q6,q7,q8,q9,q10,q11,q12,q13,q14,q15,q16,q17,q18,q19,q20,q21,q22,q23,q24,q25,q26,q28,q29,q30,q31,q32,q33,q34] [1,65,0,0,2,66,0,0,8,106,0,1,3,9,73,0,3,10,11,75,0,3,12,65,1,66,73,3,75,3,106,3,3]&&decide (q27=0)) (shut (qgm (k .ret ⟨[(2,.ptr 66 0 0),(3,zvb false)],[(66,⟨.var [zvi 0,.nils,.nils],false⟩)]⟩) (fun y1 y2 y3 y4 y5 y6 y7 y8 y9 y10 y11=>k (.exit 2) ⟨[(1,.ptr 65 0 0),(2,.ptr 66 0 0),(8,.ref 106 0 1 true 3),(9,.ref 73 0 y1 true 3),(10,zvi y2),(11,.ref 75 0 y3 true 3)],[(65,⟨.var [zvi y4,.cl (.slg 1 y5),zvl y6],false⟩),(66,⟨.var [zvi 0,.nils,.nils],false⟩),(73,⟨.gen 3 y7,false⟩),(75,⟨.gen 3 y8,false⟩),(106,⟨.gen 3 ([.agg [.int .i64 y9,.sli .u8 y10,.slg 3 y11]]),false⟩)]⟩) FUEL) v1 v2 v3 v4 v5 v6 v7 v8 v9 v10 v11 v12) none|_=>none
def q5e:St->(KT)->OO:=fun σ k=>match σ with|⟨[(q1,.ptr q2 q3 q4),(q5,.ptr q6 q7 q8),(q9,.ref q10 q11 q12 true q13),(q14,.ref q15 q16 v1 true q17),(q18,.cl (.int .i64 v2))],[(q19,⟨.var [.cl (.int .i64 v3),.cl (.slg q20 v4),.cl (.sli .u8 v5)],false⟩),(q21,⟨.var [.cl (.int .i64 q22),.nils,.nils],false⟩),(q23,⟨.gen q24 v6,false⟩),(q25,⟨.gen q26 [.agg [.int .i64 v7,.sli .u8 v8,.slg q27 v9]],false⟩)]⟩=>cond (eqL [q1,q2,q3,q4,q5,q6,q7,q8,q9,q10,q11,q12,q13,q14,q15,q16,q17,q18,q19,q20,q21,q23,q24,q25,q26,q27] [1,65,0,0,2,66,0,0,8,106,0,1,3,9,73,0,3,10,65,1,66,73,3,106,3,3]&&decide (q22=0)) (shut (qi7 (k .ret ⟨[(2,.ptr 66 0 0),(3,zvb false)],[(66,⟨.var [zvi 0,.nils,.nils],false⟩)]⟩) (fun y1 y2 y3 y4 y5 y6 y7 y8=>k (.exit 0) ⟨[(1,.ptr 65 0 0),(2,.ptr 66 0 0),(8,.ref 106 0 1 true 3),(9,.ref 73 0 y1 true 3)],[(65,⟨.var [zvi y2,.cl (.slg 1 y3),zvl y4],false⟩),(66,⟨.var [zvi 0,.nils,.nils],false⟩),(73,⟨.gen 3 y5,false⟩),(106,⟨.gen 3 ([.agg [.int .i64 y6,.sli .u8 y7,.slg 3 y8]]),false⟩)]⟩) FUEL) v1 v2 v3 v4 v5 v6 v7 v8 v9) none|_=>none
def ERMark:Env:= {mkE BRMark qay 133 with live:=lk [] [(8,[1,2,8,9,10]),(14,[1,2,8,9,10,11,12])],ren:=lk [] [(8,[(171,73)]),(14,[(166,75)])],lp:=lk none [(8,some q5e),(14,some qyl)],xl:=lk none [(0,some [2,3]),(1,some [1,2,8,9]),(3,some [1,2,8,9,10,11])]}
theorem q4z:LpT Tryz.prog (ERMark) Tryz.f78 0 14 qyl:=by
 intro σ k r h
 unfold qyl at h
 split at h
 ·obtain⟨hc,j⟩:=qaa h
  simp only[zab,qd3,decide_eq_true_eq,zal] at hc
  obtain⟨hc,rfl⟩:=hc
  cases qa8 hc
  rw[qab] at j
  apply it12 j
  ·intro n;kernel_rfl
  ·rfl
 ·cases h
theorem q8b:LpT Tryz.prog (ERMark) Tryz.f78 1 8 q5e:=by
 intro σ k r h
 unfold q5e at h
 split at h
 ·obtain⟨hc,j⟩:=qaa h
  simp only[zab,qd3,decide_eq_true_eq,zal] at hc
  obtain⟨hc,rfl⟩:=hc
  cases qa8 hc
  rw[qab] at j
  apply it9 j
  ·intro n;kernel_rfl
  ·rfl
 ·cases h
def xbwn (d:Int) (t:LC) (w:LI):OO:=let r1:Int:=(qa4 d).2.1;cond (!decide (r1=1)) (zR [.cl (.agg [.int .i64 0,.sli .u8 [],.slg 3 []]),zvb false] []) (cond (decide ((20:Int)<(t.length:Int))) (zR [.cl (.agg [.int .i64 0,.sli .u8 [],.slg 3 []]),zvb false] []) (let r2:LI:=(qa4 d).2.2;cond (idOk r2) (let r3:Int:=(qfy 6 (qa3 r2)).1;let r4:LI:=(qfy 6 (qa3 r2)).2.1;let r5:=qb7;cond (qbr ([.agg [.int .i64 r3,.sli .u8 r4,.slg 3 r5]])) (let r7:Int:=(vBox 0 ([.agg [.int .i64 r3,.sli .u8 r4,.slg 3 r5]])).1;let r8:=qa0;let r9:LC:=(vBox 0 ([.agg [.int .i64 r3,.sli .u8 r4,.slg 3 r5]])).2.1;shut (qi7 (zR [.cl (.agg [.int .i64 0,.sli .u8 [],.slg 3 []]),zvb false] []) (fun y11 y12 y13 y14 y15 y16 y17 y18=>cond (decide ((0:Int)<(y11:Int))) (cond (qbr y15) (let r19:Int:=(vBox 2 y15).1;let r20:=qa0;let r21:LC:=(vBox 2 y15).2.1;cond (qad y14) (let r23:Int:=(qba y14).1.1;let r24:LI:=(qba y14).1.2.1;let r25:LC:=(qba y14).1.2.2;let r26:Int:=(qba y14).2;cond (qbr ([.agg [.int .i64 y16,.sli .u8 y17,.slg 3 y18],.agg [.int .i64 r19,.sli .u8 r20,.slg 3 r21],.agg [.int .i64 r23,.sli .u8 r24,.slg 3 r25]])) (let r27:=qa0;zR [.cl (.agg [.int .i64 48,.sli .u8 r27,.slg 3 ([.agg [.int .i64 y16,.sli .u8 y17,.slg 3 y18],.agg [.int .i64 r19,.sli .u8 r20,.slg 3 r21],.agg [.int .i64 r23,.sli .u8 r24,.slg 3 r25]])]),zvb (decide (r26=0))] []) none) none) none) (cond (qad y14) (let r28:Int:=(qba y14).1.1;let r29:LI:=(qba y14).1.2.1;let r30:LC:=(qba y14).1.2.2;let r31:Int:=(qba y14).2;cond (qbr ([.agg [.int .i64 y16,.sli .u8 y17,.slg 3 y18],.agg [.int .i64 r28,.sli .u8 r29,.slg 3 r30]])) (let r32:=qa0;zR [.cl (.agg [.int .i64 48,.sli .u8 r32,.slg 3 ([.agg [.int .i64 y16,.sli .u8 y17,.slg 3 y18],.agg [.int .i64 r28,.sli .u8 r29,.slg 3 r30]])]),zvb (decide (r31=0))] []) none) none)) FUEL) 0 0 d t w [] r7 r8 r9) none) none))
def qfm (again:LC->Nat->Int->Nat->Int->LC->LC->OO) (k0:OO) (k1:LC->Nat->Int->Nat->LC->LC->OO) (v1:LC) (v2:Nat) (v3:Int) (v4:Nat) (v5:Int) (v6 v7:LC):OO:=getK v1 v3 fun e7=>let e8:CV:=(cell1 e7).getD 0 .nili;cond (qc6 3 e8) (let l9:=qbi e8;cond (decide (v5<(l9.length:Int))) (getK v1 v3 fun e10=>let e11:CV:=(cell1 e10).getD 0 .nili;cond (qc6 3 e11) (let l12:=qbi e11;getK l12 v5 fun e13=>let e14:CV:=(cell1 e13).headD .nili;let e15:CV:=(cell1 e13).tail.headD .nili;let e16:CV:=(cell1 e13).tail.tail.headD .nili;cond (qg2 .i64 e14&&(qc6 1 e15&&(qeu .u8 e16&&true))) (let i17:=qfn e14;let l18:=qbi e15;let l19:=qby e16;cond (qjr l18&&qad l19) (let r20:Int:=(q1o i17 l18 l19).1;let r21:=qa0;let r22:LC:=(q1o i17 l18 l19).2;let r23:=qz1 i17 l18 l19;cond (!r23) (k0) (let l24:=v7++([.agg [.int .i64 r20,.sli .u8 r21,.slg 3 r22]]);rmK l24.length 56<| let x25:=IntKind.i64.wrap (v5+1);again v1 v2 v3 l24.length x25 v6 l24)) none) none) none) (k1 v1 v2 v3 v4 v6 v7)) none
def qd0 (k0:OO) (k1:LC->Nat->Int->Nat->LC->LC->OO):Nat->LC->Nat->Int->Nat->Int->LC->LC->OO:=qdp (fun a=>qfm a k0 k1) (fun _ _ _ _ _ _ _=>none)
def qge (again:LC->Nat->Int->LC->OO) (k0:OO) (k1:Nat->LC->OO) (v1:LC) (v2:Nat) (v3:Int) (v4:LC):OO:=cond (decide (v3<(v1.length:Int))) (getK v1 v3 fun e1=>let e2:CV:=(cell1 e1).getD 0 .nili;cond (qc6 3 e2) (let l3:=qbi e2;cond (decide ((l3.length:Int)<1)) (k0) (getK v1 v3 fun e4=>let e5:CV:=(cell1 e4).getD 0 .nili;cond (qc6 3 e5) (let l6:=qbi e5;cond (decide ((20:Int)<(l6.length:Int))) (k0) (shut (qd0 (k0) (fun y7 y8 y9 y10 y11 y12=>cond (qbr y12) (let r13:=qa0;let l14:=y11++([.agg [.int .i64 48,.sli .u8 r13,.slg 3 y12]]);rmK l14.length 56<| let x15:=IntKind.i64.wrap (y9+1);again y7 l14.length x15 l14) none) FUEL) v1 v2 v3 0 0 v4 [])) none)) none) (k1 v2 v4)
def qe1 (k0:OO) (k1:Nat->LC->OO):Nat->LC->Nat->Int->LC->OO:=qdp (fun a=>qge a k0 k1) (fun _ _ _ _=>none)
def qom:St->(KT)->OO:=fun σ k=>match σ with|⟨[(q1,.cl (.slg q2 v1)),(q3,.ptr q4 q5 q6),(q7,.ref q8 q9 v2 true q10),(q11,.cl (.int .i64 v3)),(q12,.ref q13 q14 v4 true q15),(q16,.cl (.int .i64 v5))],[(q17,⟨.var [.cl (.int .i64 q18),.nils,.nils],false⟩),(q19,⟨.gen q20 v6,false⟩),(q21,⟨.gen q22 v7,false⟩)]⟩=>cond (eqL [q1,q2,q3,q4,q5,q6,q7,q8,q9,q10,q11,q12,q13,q14,q15,q16,q17,q19,q20,q21,q22] [0,1,2,66,0,0,4,68,0,3,5,6,70,0,3,7,66,68,3,70,3]&&decide (q18=0)) (shut (qd0 (k .ret ⟨[(2,.ptr 66 0 0),(3,zvb false)],[(66,⟨.var [zvi 0,.nils,.nils],false⟩)]⟩) (fun y1 y2 y3 y4 y5 y6=>k (.exit 2) ⟨[(0,.cl (.slg 1 y1)),(2,.ptr 66 0 0),(4,.ref 68 0 y2 true 3),(5,zvi y3),(6,.ref 70 0 y4 true 3)],[(66,⟨.var [zvi 0,.nils,.nils],false⟩),(68,⟨.gen 3 y5,false⟩),(70,⟨.gen 3 y6,false⟩)]⟩) FUEL) v1 v2 v3 v4 v5 v6 v7) none|_=>none
def qra:St->(KT)->OO:=fun σ k=>match σ with|⟨[(q1,.cl (.slg q2 v1)),(q3,.ptr q4 q5 q6),(q7,.ref q8 q9 v2 true q10),(q11,.cl (.int .i64 v3))],[(q12,⟨.var [.cl (.int .i64 q13),.nils,.nils],false⟩),(q14,⟨.gen q15 v4,false⟩)]⟩=>cond (eqL [q1,q2,q3,q4,q5,q6,q7,q8,q9,q10,q11,q12,q14,q15] [0,1,2,66,0,0,4,68,0,3,5,66,68,3]&&decide (q13=0)) (shut (qe1 (k .ret ⟨[(2,.ptr 66 0 0),(3,zvb false)],[(66,⟨.var [zvi 0,.nils,.nils],false⟩)]⟩) (fun y1 y2=>k (.exit 0) ⟨[(2,.ptr 66 0 0),(4,.ref 68 0 y1 true 3)],[(66,⟨.var [zvi 0,.nils,.nils],false⟩),(68,⟨.gen 3 y2,false⟩)]⟩) FUEL) v1 v2 v3 v4) none|_=>none
def ERChains:Env:= {mkE BRChains qay 74 with live:=lk [] [(5,[0,2,4,5]),(11,[0,2,4,5,6,7])],ren:=lk [] [(5,[(135,68)]),(11,[(130,70)])],lp:=lk none [(5,some qra),(11,some qom)],xl:=lk none [(0,some [2,3]),(1,some [2,4]),(3,some [0,2,4,5,6])]}
theorem qwh:LpT Tryz.prog (ERChains) Tryz.f39 0 11 qom:=by
 intro σ k r h
 unfold qom at h
 split at h
 ·obtain⟨hc,j⟩:=qaa h
  simp only[zab,qd3,decide_eq_true_eq,zal] at hc
  obtain⟨hc,rfl⟩:=hc
  cases qa8 hc
  rw[qab] at j
  apply it7 j
  ·intro n;kernel_rfl
  ·rfl
 ·cases h
theorem qy9:LpT Tryz.prog (ERChains) Tryz.f39 1 5 qra:=by
 intro σ k r h
 unfold qra at h
 split at h
 ·obtain⟨hc,j⟩:=qaa h
  simp only[zab,qd3,decide_eq_true_eq,zal] at hc
  obtain⟨hc,rfl⟩:=hc
  cases qa8 hc
  rw[qab] at j
  apply it4 j
  ·intro n;kernel_rfl
  ·rfl
 ·cases h
def xbhb (l:LC):OO:=cond (decide ((l.length:Int)<1)) (zR [.cl (.agg [.int .i64 0,.sli .u8 [],.slg 3 []]),zvb false] []) (cond (decide ((10:Int)<(l.length:Int))) (zR [.cl (.agg [.int .i64 0,.sli .u8 [],.slg 3 []]),zvb false] []) (shut (qe1 (zR [.cl (.agg [.int .i64 0,.sli .u8 [],.slg 3 []]),zvb false] []) (fun y1 y2=>cond (qbr y2) (let r3:=qa0;zR [.cl (.agg [.int .i64 48,.sli .u8 r3,.slg 3 y2]),zvb true] []) none) FUEL) l 0 0 []))
def qcz (again:Int->Int->Int->Int->Int->LI->LC->Int->LC->LI->OO) (k0:Int->Int->Int->Int->LI->LC->Int->LC->LI->OO) (v1 v2 v3 v4 v5:Int) (v6:LI) (v7:LC) (v8:Int) (v9:LC) (v10:LI):OO:=getK v9 v4 fun e21=>let e22:CV:=(cell1 e21).getD 0 .nili;cond (qc6 1 e22) (let l23:=qbi e22;cond (decide (v5<(l23.length:Int))) (cond (decide ((0:Int)<=v1)) (let x24:=IntKind.i64.wrap (v1 - 1);getK v9 v4 fun e25=>let e26:CV:=(cell1 e25).getD 0 .nili;cond (qc6 1 e26) (let l27:=qbi e26;getK l27 v5 fun e28=>let e29:CV:=(cell1 e28).getD 0 .nili;cond (qeu .u8 e29) (let l30:=qby e29;let x31:=cond (decide ((1048576:Int)<(l30.length:Int))) 1048576 (l30.length:Int);let x32:=IntKind.i64.wrap (x24 - x31);let x33:=IntKind.i64.wrap (v5+1);again x32 v2 v3 v4 x33 v6 v7 v8 v9 v10) none) none) (k0 v1 v2 v3 v4 v6 v7 v8 v9 v10)) (k0 v1 v2 v3 v4 v6 v7 v8 v9 v10)) none
def qc7 (k0:Int->Int->Int->Int->LI->LC->Int->LC->LI->OO):Nat->Int->Int->Int->Int->Int->LI->LC->Int->LC->LI->OO:=qdp (fun a=>qcz a k0) (fun _ _ _ _ _ _ _ _ _ _=>none)
def qc0 (again:Int->Int->Int->Int->LI->LC->Int->LC->LI->OO) (k0:Int->Int->Int->LI->LC->OO) (v1 v2 v3 v4:Int) (v5:LI) (v6:LC) (v7:Int) (v8:LC) (v9:LI):OO:=cond (decide (v4<(v8.length:Int))) (cond (decide ((0:Int)<=v1)) (let x20:=IntKind.i64.wrap (v1 - 1);shut (qc7 (fun y21 y22 y23 y24 y25 y26 y27 y28 y29=>let x30:=IntKind.i64.wrap (y24+1);again y21 y22 y23 x30 y25 y26 y27 y28 y29) FUEL) x20 v2 v3 v4 0 v5 v6 v7 v8 v9) (k0 v1 v2 v3 v5 v6)) (k0 v1 v2 v3 v5 v6)
def qco (k0:Int->Int->Int->LI->LC->OO):Nat->Int->Int->Int->Int->LI->LC->Int->LC->LI->OO:=qdp (fun a=>qc0 a k0) (fun _ _ _ _ _ _ _ _ _=>none)
def qdv (again:Int->Int->Int->LI->LC->OO) (k0:Int->Int->LI->LC->OO) (v1 v2 v3:Int) (v4:LI) (v5:LC):OO:=getK v5 v2 fun e4=>let e5:CV:=(cell1 e4).getD 0 .nili;cond (qc6 3 e5) (let l6:=qbi e5;cond (decide (v3<(l6.length:Int))) (cond (decide ((0:Int)<=v1)) (getK v5 v2 fun e7=>let e8:CV:=(cell1 e7).getD 0 .nili;cond (qc6 3 e8) (let l9:=qbi e8;getK l9 v3 fun e10=>let e11:CV:=(cell1 e10).headD .nili;let e12:CV:=(cell1 e10).tail.headD .nili;let e13:CV:=(cell1 e10).tail.tail.headD .nili;cond (qg2 .i64 e11&&(qc6 1 e12&&(qeu .u8 e13&&true))) (let i14:=qfn e11;let l15:=qbi e12;let l16:=qby e13;let x17:=IntKind.i64.wrap (v1 - 2);let x18:=cond (decide ((1048576:Int)<(l16.length:Int))) 1048576 (l16.length:Int);let x19:=IntKind.i64.wrap (x17 - x18);shut (qco (fun y20 y21 y22 y23 y24=>let x25:=IntKind.i64.wrap (y22+1);again y20 y21 x25 y23 y24) FUEL) x19 v2 v3 0 v4 v5 i14 l15 l16) none) none) (k0 v1 v2 v4 v5)) (k0 v1 v2 v4 v5)) none
def qd9 (k0:Int->Int->LI->LC->OO):Nat->Int->Int->Int->LI->LC->OO:=qdp (fun a=>qdv a k0) (fun _ _ _ _ _=>none)
def qdu (again:Int->Int->LI->LC->OO) (k0:Int->OO) (v1 v2:Int) (v3:LI) (v4:LC):OO:=cond (decide (v2<(v4.length:Int))) (cond (decide ((0:Int)<=v1)) (let x3:=IntKind.i64.wrap (v1 - 1);shut (qd9 (fun y4 y5 y6 y7=>let x8:=IntKind.i64.wrap (y5+1);again y4 x8 y6 y7) FUEL) x3 v2 0 v3 v4) (k0 v1)) (k0 v1)
def qeb (k0:Int->OO):Nat->Int->Int->LI->LC->OO:=qdp (fun a=>qdu a k0) (fun _ _ _ _=>none)
def qob:St->(KT)->OO:=fun σ k=>match σ with|⟨[(q1,.cl (.int .i64 v1)),(q2,.ptr q3 q4 q5),(q6,.cl (.int .i64 v2)),(q7,.cl (.int .i64 v3)),(q8,.ptr q9 q10 q11),(q12,.cl (.int .i64 v4)),(q13,.cl (.int .i64 v5))],[(q14,⟨.var [.cl (.sli .i64 v6),.cl (.slg q15 v7)],false⟩),(q16,⟨.var [.cl (.int .i64 v8),.cl (.slg q17 v9),.cl (.sli .u8 v10)],false⟩)]⟩=>cond (eqL [q1,q2,q3,q4,q5,q6,q7,q8,q9,q10,q11,q12,q13,q14,q15,q16,q17] [1,2,66,0,0,5,6,7,71,0,0,8,9,66,1,71,1]) (shut (qc7 (fun y1 y2 y3 y4 y5 y6 y7 y8 y9=>k (.exit 6) ⟨[(1,zvi y1),(2,.ptr 66 0 0),(5,zvi y2),(6,zvi y3),(7,.ptr 71 0 0),(8,zvi y4)],[(66,⟨.var [.cl (.sli .i64 y5),.cl (.slg 1 y6)],false⟩),(71,⟨.var [zvi y7,.cl (.slg 1 y8),zvl y9],false⟩)]⟩) FUEL) v1 v2 v3 v4 v5 v6 v7 v8 v9 v10) none|_=>none
def qoj:St->(KT)->OO:=fun σ k=>match σ with|⟨[(q1,.cl (.int .i64 v1)),(q2,.ptr q3 q4 q5),(q6,.cl (.int .i64 v2)),(q7,.cl (.int .i64 v3)),(q8,.ptr q9 q10 q11),(q12,.cl (.int .i64 v4))],[(q13,⟨.var [.cl (.sli .i64 v5),.cl (.slg q14 v6)],false⟩),(q15,⟨.var [.cl (.int .i64 v7),.cl (.slg q16 v8),.cl (.sli .u8 v9)],false⟩)]⟩=>cond (eqL [q1,q2,q3,q4,q5,q6,q7,q8,q9,q10,q11,q12,q13,q14,q15,q16] [1,2,66,0,0,5,6,7,71,0,0,8,66,1,71,1]) (shut (qco (fun y1 y2 y3 y4 y5=>k (.exit 4) ⟨[(1,zvi y1),(2,.ptr 66 0 0),(5,zvi y2),(6,zvi y3)],[(66,⟨.var [.cl (.sli .i64 y4),.cl (.slg 1 y5)],false⟩)]⟩) FUEL) v1 v2 v3 v4 v5 v6 v7 v8 v9) none|_=>none
def qrr:St->(KT)->OO:=fun σ k=>match σ with|⟨[(q1,.cl (.int .i64 v1)),(q2,.ptr q3 q4 q5),(q6,.cl (.int .i64 v2)),(q7,.cl (.int .i64 v3))],[(q8,⟨.var [.cl (.sli .i64 v4),.cl (.slg q9 v5)],false⟩)]⟩=>cond (eqL [q1,q2,q3,q4,q5,q6,q7,q8,q9] [1,2,66,0,0,5,6,66,1]) (shut (qd9 (fun y1 y2 y3 y4=>k (.exit 2) ⟨[(1,zvi y1),(2,.ptr 66 0 0),(5,zvi y2)],[(66,⟨.var [.cl (.sli .i64 y3),.cl (.slg 1 y4)],false⟩)]⟩) FUEL) v1 v2 v3 v4 v5) none|_=>none
def qtp:St->(KT)->OO:=fun σ k=>match σ with|⟨[(q1,.cl (.int .i64 v1)),(q2,.ptr q3 q4 q5),(q6,.cl (.int .i64 v2))],[(q7,⟨.var [.cl (.sli .i64 v3),.cl (.slg q8 v4)],false⟩)]⟩=>cond (eqL [q1,q2,q3,q4,q5,q6,q7,q8] [1,2,66,0,0,5,66,1]) (shut (qeb (fun y1=>k (.exit 0) ⟨[(1,zvi y1)],[]⟩) FUEL) v1 v2 v3 v4) none|_=>none
def ERESmall:Env:= {mkE BRESmall qay 99 with live:=lk [] [(3,[1,2,5]),(7,[1,2,5,6]),(12,[1,2,5,6,7,8]),(16,[1,2,5,6,7,8,9])],lp:=lk none [(3,some qtp),(7,some qrr),(12,some qoj),(16,some qob)],xl:=lk none [(0,some [4]),(1,some [1]),(3,some [1,2,5]),(5,some [1,2,5,6]),(7,some [1,2,5,6,7,8])]}
theorem qwv:LpT Tryz.prog (ERESmall) Tryz.f16 0 16 qob:=by
 intro σ k r h
 unfold qob at h
 split at h
 ·obtain⟨hc,j⟩:=qaa h
  cases qa8 hc
  rw[qab] at j
  apply it10 j
  ·intro n;kernel_rfl
  ·rfl
 ·cases h
theorem qvu:LpT Tryz.prog (ERESmall) Tryz.f16 1 12 qoj:=by
 intro σ k r h
 unfold qoj at h
 split at h
 ·obtain⟨hc,j⟩:=qaa h
  cases qa8 hc
  rw[qab] at j
  apply it9 j
  ·intro n;kernel_rfl
  ·rfl
 ·cases h
theorem q07:LpT Tryz.prog (ERESmall) Tryz.f16 2 7 qrr:=by
 intro σ k r h
 unfold qrr at h
 split at h
 ·obtain⟨hc,j⟩:=qaa h
  cases qa8 hc
  rw[qab] at j
  apply it5 j
  ·intro n;kernel_rfl
  ·rfl
 ·cases h
theorem qzr:LpT Tryz.prog (ERESmall) Tryz.f16 3 3 qtp:=by
 intro σ k r h
 unfold qtp at h
 split at h
 ·obtain⟨hc,j⟩:=qaa h
  cases qa8 hc
  rw[qab] at j
  apply it4 j
  ·intro n;kernel_rfl
  ·rfl
 ·cases h
def xbek (g:LI) (c:LC) (n:Int):OO:=let x1:=cond (decide ((1000:Int)<(g.length:Int))) 1000 (g.length:Int);let x2:=IntKind.i64.wrap (n - x1);shut (qeb (fun y3=>zR [zvi y3] []) FUEL) x2 0 g c
def qo8 (again:LC->Int->Int->LI->LC->OO) (k0:OO) (k1:LI->LC->OO) (v1:LC) (v2 v3:Int) (v4:LI) (v5:LC):OO:=cond (decide (v3<v2)) (getK v1 v3 fun e1=>let e2:CV:=(cell1 e1).getD 0 .nili;cond (qc6 3 e2) (let l3:=qbi e2;cond (decide ((25:Int)<(l3.length:Int))) (k0) (let x4:=IntKind.i64.wrap (v3+1);again v1 v2 x4 v4 v5)) none) (k1 v4 v5)
def qjy (k0:OO) (k1:LI->LC->OO):Nat->LC->Int->Int->LI->LC->OO:=qdp (fun a=>qo8 a k0 k1) (fun _ _ _ _ _=>none)
def qw4:St->(KT)->OO:=fun σ k=>match σ with|⟨[(q1,.ptr q2 q3 q4),(q5,.cl (.slg q6 v1)),(q7,.cl (.int .i64 v2)),(q8,.cl (.int .i64 v3))],[(q9,⟨.var [.cl (.sli .i64 v4),.cl (.slg q10 v5)],false⟩)]⟩=>cond (eqL [q1,q2,q3,q4,q5,q6,q7,q8,q9,q10] [1,65,0,0,6,1,7,8,65,1]) (shut (qjy (k .ret ⟨[(2,zvb false)],[]⟩) (fun y1 y2=>k (.exit 0) ⟨[(1,.ptr 65 0 0)],[(65,⟨.var [.cl (.sli .i64 y1),.cl (.slg 1 y2)],false⟩)]⟩) FUEL) v1 v2 v3 v4 v5) none|_=>none
def EWSmall:Env:= {mkE BWSmall qay 25 with live:=lk [] [(2,[1,6,7,8])],lp:=lk none [(2,some qw4)],xl:=lk none [(0,some [2]),(1,some [1])]}
theorem q45:LpT Tryz.prog (EWSmall) Tryz.f11 0 2 qw4:=by
 intro σ k r h
 unfold qw4 at h
 split at h
 ·obtain⟨hc,j⟩:=qaa h
  cases qa8 hc
  rw[qab] at j
  apply it5 j
  ·intro n;kernel_rfl
  ·rfl
 ·cases h
def xbl1 (g:LI) (c:LC):OO:=shut (qjy (zR [zvb false] []) (fun y1 y2=>cond (decide ((y2.length:Int)<=12)) (cond (recT y1 y2&&q4n 6000) (let r3:=qpt y1 y2 6000;zR [zvb (decide ((0:Int)<=r3))] []) none) (zR [zvb false] [])) FUEL) c (c.length:Int) 0 g c
def EWAwake:Env:= {mkE BWAwake qay 14 with xl:=lk none [(0,some [0])]}
def xbnm:OO:=cond (qad []&&b6k []) (let r3:Int:=(qnu []).2.2;cond (qdt []&&recO []) (let r4:=evOk [] [];cond (!r4) (zR [zvb (decide (r3=1))] []) (zR [zvb false] [])) none) none
abbrev xbbi:=LI->Int->LI->Int->LI->Int->LI->Int->LI->LC->LI->LC->OO
def qmm (again:LI->Int->LI->Int->LI->Int->LI->Int->LI->LI->Int->Int->LI->LC->LI->LC->OO) (k0:OO) (k1:xbbi) (v1:LI) (v2:Int) (v3:LI) (v4:Int) (v5:LI) (v6:Int) (v7:LI) (v8:Int) (v9 v10:LI) (v11 v12:Int) (v13:LI) (v14:LC) (v15:LI) (v16:LC):OO:=cond (decide (v12<v11)) (getK v9 v12 fun e15=>getK v10 v12 fun e16=>cond (!decide (e15=e16)) (k0) (let x17:=IntKind.i64.wrap (v12+1);again v1 v2 v3 v4 v5 v6 v7 v8 v9 v10 v11 x17 v13 v14 v15 v16)) (k1 v1 v2 v3 v4 v5 v6 v7 v8 v13 v14 v15 v16)
def qh6 (k0:OO) (k1:xbbi):Nat->LI->Int->LI->Int->LI->Int->LI->Int->LI->LI->Int->Int->LI->LC->LI->LC->OO:=qdp (fun a=>qmm a k0 k1) (fun _ _ _ _ _ _ _ _ _ _ _ _ _ _ _ _=>none)
def qts:St->(KT)->OO:=fun σ k=>match σ with|⟨[(q1,.ptr q2 q3 q4),(q5,.ptr q6 q7 q8),(q9,.cl (.sli .u8 v1)),(q10,.cl (.int .i64 v2)),(q11,.cl (.sli .u8 v3)),(q12,.cl (.int .i64 v4)),(q13,.cl (.sli .u8 v5)),(q14,.cl (.int .i64 v6)),(q15,.cl (.sli .u8 v7)),(q16,.cl (.int .i64 v8)),(q17,.cl (.sli .i64 v9)),(q18,.cl (.sli .i64 v10)),(q19,.cl (.int .i64 v11)),(q20,.cl (.int .i64 v12))],[(q21,⟨.var [.cl (.sli .i64 v13),.cl (.slg q22 v14)],false⟩),(q23,⟨.var [.cl (.sli .i64 v15),.cl (.slg q24 v16)],false⟩)]⟩=>cond (eqL [q1,q2,q3,q4,q5,q6,q7,q8,q9,q10,q11,q12,q13,q14,q15,q16,q17,q18,q19,q20,q21,q22,q23,q24] [3,67,0,0,4,68,0,0,7,8,9,10,11,12,13,14,15,16,61,62,67,1,68,1]) (shut (qh6 (k .ret ⟨[(6,zvb false)],[]⟩) (fun y1 y2 y3 y4 y5 y6 y7 y8 y9 y10 y11 y12=>k (.exit 0) ⟨[(3,.ptr 67 0 0),(4,.ptr 68 0 0),(7,zvl y1),(8,zvi y2),(9,zvl y3),(10,zvi y4),(11,zvl y5),(12,zvi y6),(13,zvl y7),(14,zvi y8)],[(67,⟨.var [.cl (.sli .i64 y9),.cl (.slg 1 y10)],false⟩),(68,⟨.var [.cl (.sli .i64 y11),.cl (.slg 1 y12)],false⟩)]⟩) FUEL) v1 v2 v3 v4 v5 v6 v7 v8 v9 v10 v11 v12 v13 v14 v15 v16) none|_=>none
def EWTells:Env:= {
 orc:=fun g=>cond (Nat.beq g 7) ((kT KWAwake)) (cond (Nat.beq g 10) ((kT KRESame)) (cond (Nat.beq g 11) ((kT KWSmall)) (cond (Nat.beq g 12) ((kT KRRFit)) (cond (Nat.beq g 13) ((kT KERBytes)) (cond (Nat.beq g 14) ((kT KR1Same)) (cond (Nat.beq g 15) ((kT KERFit)) (cond (Nat.beq g 17) ((kT KRDigests)) (cond (Nat.beq g 18) ((kT KERSeq)) (cond (Nat.beq g 19) ((kT KRRBytes)) (cond (Nat.beq g 20) ((kT KRRSeq)) (cond (Nat.beq g 21) ((kT KEDigests)) (cond (Nat.beq g 22) ((kT KESame)) (fun _ _=>Tree.fail)))))))))))))
 pre:=fun g=>cond (Nat.beq g 7) ((kP KWAwake)) (cond (Nat.beq g 10) ((kP KRESame)) (cond (Nat.beq g 11) ((kP KWSmall)) (cond (Nat.beq g 12) ((kP KRRFit)) (cond (Nat.beq g 13) ((kP KERBytes)) (cond (Nat.beq g 14) ((kP KR1Same)) (cond (Nat.beq g 15) ((kP KERFit)) (cond (Nat.beq g 17) ((kP KRDigests)) (cond (Nat.beq g 18) ((kP KERSeq)) (cond (Nat.beq g 19) ((kP KRRBytes)) (cond (Nat.beq g 20) ((kP KRRSeq)) (cond (Nat.beq g 21) ((kP KEDigests)) (cond (Nat.beq g 22) ((kP KESame)) (fun _ _=>true)))))))))))))
 live:=fun r=>cond (Nat.beq r 11) ([3,4,7,8,9,10,11,12,13,14,15,16,61,62]) ([])
 glob:=qay
 nt:=117
 lp:=fun r=>cond (Nat.beq r 11) (some (qts)) (none)
 xl:=fun r=>cond (Nat.beq r 0) (some [6]) (cond (Nat.beq r 1) (some [3,4,7,8,9,10,11,12,13,14]) (none))
}
theorem qzm:LpT Tryz.prog (EWTells) Tryz.f6 0 11 qts:=by
 intro σ k r h
 unfold qts at h
 split at h
 ·obtain⟨hc,j⟩:=qaa h
  cases qa8 hc
  rw[qab] at j
  apply it16 j
  ·intro n;kernel_rfl
  ·rfl
 ·cases h
theorem q8t: ∀c,Tryz.f6.body=some c->qbj Tryz.prog (EWTells) 40 c:=lsB (ids:=[(true,11)]) (by kernel_rfl) ⟨⟨_,rfl,qzm⟩,trivial⟩
def xbgh (g:LI) (c:LC) (h:LI) (e:LC) (n:Int):OO:=cond (recT g c) (let r1:=xbuj g c;cond (!r1) (let r2:=true;zR [zvb r2] []) (cond (recT h e) (let r3:=xbuj h e;cond (!r3) (let r4:=true;zR [zvb r4] []) (cond (qdt g&&recO c) (let r5:LI:=(qfe g c).1;let r6:Int:=(qfe g c).2;cond (qdt g&&recO c) (let r7:LI:=(qfe g c).1;let r8:Int:=(qfe g c).2;cond (qdt g&&recO c) (let r9:LI:=(q2d g c n).1;let r10:Int:=(q2d g c n).2;cond (qdt g&&recO c) (let r11:LI:=(q2d g c n).1;let r12:Int:=(q2d g c n).2;cond (qa9 c) (let r13:=qsu c;cond (qa9 c) (let r14:=qsu c;cond (!decide ((r13.length:Int)=(r14.length:Int))) (zR [zvb false] []) (shut (qh6 (zR [zvb false] []) (fun y15 y16 y17 y18 y19 y20 y21 y22 y23 y24 y25 y26=>cond (qdt y23&&recO y24) (let r27:=evOk y23 y24;cond (qdt y23&&recO y24) (let r28:=evOk y23 y24;cond ((r27==r28)) (cond (qcc y15) (let r29:=qbl y15 y17;cond (r29) (cond (decide (y16=y18)) (cond (qcc y19) (let r30:=qbl y19 y21;cond (r30) (cond (decide (y20=y22)) (cond (qdt y23&&(qa9 y24&&qa9 y26)) (let r31:=qxs y23 y24 y25 y26;cond (qdt y23&&(qa9 y24&&qa9 y26)) (let r32:=qxs y23 y24 y25 y26;cond ((r31==r32)) (cond (qdt y23&&(qa9 y24&&qa9 y24)) (let r33:=qxs y23 y24 y23 y24;cond (r33) (let r34:=true;zR [zvb r34] []) (zR [zvb false] [])) none) (zR [zvb false] [])) none) none) (zR [zvb false] [])) (zR [zvb false] [])) none) (zR [zvb false] [])) (zR [zvb false] [])) none) (zR [zvb false] [])) none) none) FUEL) r5 r6 r7 r8 r9 r10 r11 r12 r13 r14 (r13.length:Int) 0 g c h e)) none) none) none) none) none) none)) none)) none
theorem xba2 (g:LI) (c:LC) (h:LI) (e:LC) (n:Int):qp6 Tryz.prog (EWTells) 40 false Tryz.f6 [.cl (.agg [.sli .i64 g,.slg 1 c]),.cl (.agg [.sli .i64 h,.slg 1 e]),.cl (.int .i64 n)] []=xbgh g c h e n:=by kernel_rfl
abbrev xblz:=Int->Int->LI->Int->Int->Int->LI->Int->Int->Int->Int->Int->Int->Bool->LI->OO
abbrev xbll:=Int->Int->LI->Int->Int->Int->LI->Int->Int->Int->Int->Int->Int->Bool->Int->Bool->LI->OO
def qn0 (l:Nat) (again:LI->OO) (k0:xblz) (k1:xbll) (k2:LI->Int->LI->OO) (v1:LI):OO:=cond (decide ((0:Int)<(v1.length:Int))) (cond (qad v1) (let r1:Int:=(qf4 v1).1;let r2:Int:=(qf4 v1).2;cond (Nat.beq l l) (yldO [.int .u32 r1,.bool (decide ((0:Int)<r2))] (k0 r1 r2 v1 (v1.length:Int) r1 r2 v1 r1 r2 r1 r2 r1 r2 (decide ((0:Int)<r2)) v1) (cond (decide (r2=0)) (k1 r1 r2 v1 (v1.length:Int) r1 r2 v1 r1 r2 r1 r2 r1 r2 (decide ((0:Int)<r2)) r2 (decide (r2=0)) v1) (cond (decide ((0:Int)<=r2)) (cond (decide (r2<=(v1.length:Int))) (let l3:=List.drop (Int.toNat r2) v1;again l3) none) none))) none) none) (k2 v1 (v1.length:Int) v1)
def qlr (l:Nat) (k0:xblz) (k1:xbll) (k2:LI->Int->LI->OO):Nat->LI->OO|0=>fun _=>none|n+1=>qn0 l (qlr l k0 k1 k2 n) k0 k1 k2
def q3z (l:Nat):St->(KT)->OO:=fun σ k=>match σ with|⟨[(q1,.cl (.fn (.yield q2) [] [])),(q3,.ptr q4 q5 q6)],[(q7,⟨.var [.cl (.sli .u8 v1)],false⟩)]⟩=>cond (eqL [q1,q3,q4,q5,q6,q7] [0,1,0,0,0,0]&&Nat.beq l q2) (shut (qlr l (fun y1 y2 y3 y4 y5 y6 y7 y8 y9 y10 y11 y12 y13 y14 y15=>k .ret ⟨[(0,.cl (.fn (.yield l) [] [])),(1,.ptr 0 0 0),(3,.cl (.int .u32 y1)),(4,zvi y2),(5,zvl y3),(6,zvi y4),(7,zvb true),(8,.tup [.cl (.int .u32 y5),zvi y6]),(9,zvl y7),(10,.tup [.cl (.int .u32 y8),zvi y9]),(11,.cl (.int .u32 y10)),(12,zvi y11),(13,.cl (.fn (.yield l) [] [])),(14,.cl (.int .u32 y12)),(15,zvi y13),(16,zvb y14),(17,zvb false),(18,zvb true),(19,zvb true),(20,.tup []),(21,.tup []),(22,zvb true)],[(0,⟨.var [zvl y15],false⟩)]⟩) (fun y1 y2 y3 y4 y5 y6 y7 y8 y9 y10 y11 y12 y13 y14 y15 y16 y17=>k .ret ⟨[(0,.cl (.fn (.yield l) [] [])),(1,.ptr 0 0 0),(3,.cl (.int .u32 y1)),(4,zvi y2),(5,zvl y3),(6,zvi y4),(7,zvb true),(8,.tup [.cl (.int .u32 y5),zvi y6]),(9,zvl y7),(10,.tup [.cl (.int .u32 y8),zvi y9]),(11,.cl (.int .u32 y10)),(12,zvi y11),(13,.cl (.fn (.yield l) [] [])),(14,.cl (.int .u32 y12)),(15,zvi y13),(16,zvb y14),(17,zvb true),(18,zvb false),(19,zvb false),(20,zvi y15),(21,zvb y16),(22,zvb true)],[(0,⟨.var [zvl y17],false⟩)]⟩) (fun y1 y2 y3=>k (.exit 0) ⟨[(0,.cl (.fn (.yield l) [] [])),(1,.ptr 0 0 0),(5,zvl y1),(6,zvi y2),(7,zvb false)],[(0,⟨.var [zvl y3],false⟩)]⟩) FUEL) v1) none|_=>none
def EONums (l:Nat):Env:= {
 orc:=fun g=>cond (Nat.beq g 190) ((kT KONumber)) (fun _ _=>Tree.fail)
 pre:=fun g=>cond (Nat.beq g 190) ((kP KONumber)) (fun _ _=>true)
 live:=fun r=>cond (Nat.beq r 0) ([0,1]) ([])
 glob:=qay
 nt:=26
 lp:=fun r=>cond (Nat.beq r 0) (some (q3z l)) (none)
 rg:=false
 yn:=l
 yl:=fun r=>cond (Nat.beq r 2) (some 4) (none)
}
theorem q99 (l:Nat):LpT Tryz.prog (EONums l) Tryz.f189 0 0 (q3z l):=by
 intro σ k r h
 unfold q3z at h
 split at h
 ·obtain⟨hc,j⟩:=qaa h
  simp only[zab,qd3,decide_eq_true_eq,zal] at hc
  obtain⟨hc,rfl⟩:=hc
  cases qa8 hc
  rw[qab] at j
  apply jt1 j _ (fun a=>qn0 l a _ _ _)
  ·intro n;rfl
  ·intro n;kernel_rfl
  ·rfl
 ·cases h
theorem xbec (l:Nat): ∀c,Tryz.f189.body=some c->qbj Tryz.prog (EONums l) 40 c:=lsB (ids:=[(true,0)]) (by kernel_rfl) ⟨⟨_,rfl,q99 l⟩,trivial⟩
def xbsa (l:Nat) (b:LI):OO:=cond (Nat.beq l l) (shut (qlr l (fun y1 y2 y3 y4 y5 y6 y7 y8 y9 y10 y11 y12 y13 y14 y15=>zR [] [some ⟨.var [zvl y15],false⟩]) (fun y16 y17 y18 y19 y20 y21 y22 y23 y24 y25 y26 y27 y28 y29 y30 y31 y32=>zR [] [some ⟨.var [zvl y32],false⟩]) (fun y33 y34 y35=>zR [] [some ⟨.var [zvl y35],false⟩]) FUEL) b) none
theorem xbkj (l:Nat) (b:LI):qp6 Tryz.prog (EONums l) 40 false Tryz.f189 [.cl (.fn (.yield l) [] []),.ptr 0 0 0] [⟨.var [.cl (.sli .u8 b)],false⟩]=xbsa l b:=by kernel_rfl
def xbev (l:Nat):Env:= {
 orc:=fun g=>cond (Nat.beq g 176) ((kT KARoot)) (fun _ _=>Tree.fail)
 pre:=fun g=>cond (Nat.beq g 176) ((kP KARoot)) (fun _ _=>true)
 keep:=fun g=>cond (Nat.beq g 176) true (false)
 live:=fun r=>cond (Nat.beq r 1) ([0,7,8]) (cond (Nat.beq r 4) ([0,3,7,8,12,13]) (cond (Nat.beq r 10) ([0,41]) ([])))
 glob:=qay
 nt:=63
 rg:=false
 yn:=l
 yl:=fun r=>cond (Nat.beq r 6) (some 21) (cond (Nat.beq r 13) (some 9) (none))
}
theorem xbg2 (l:Nat): ∀c,Tryz.f175.body=some c->qbj Tryz.prog (xbev l) 40 c:=lsB (ids:=[]) (by kernel_rfl) trivial
def xbrh (l:Nat):OO:=cond (Nat.beq l l) (yldO [.agg [.int .i64 1,.int .i64 1,.sli .u32 [2,16,840,1,101,3,4,2,1]]] (zR [] []) (cond (Nat.beq l l) (yldO [.agg [.int .i64 2,.int .i64 1,.sli .u32 [2,16,840,1,101,3,4,2,2]]] (zR [] []) (cond (Nat.beq l l) (yldO [.agg [.int .i64 3,.int .i64 1,.sli .u32 [2,16,840,1,101,3,4,2,3]]] (zR [] []) (cond (Nat.beq l l) (yldO [.agg [.int .i64 4,.int .i64 1,.sli .u32 [2,16,840,1,101,3,4,2,8]]] (zR [] []) (cond (Nat.beq l l) (yldO [.agg [.int .i64 5,.int .i64 1,.sli .u32 [2,16,840,1,101,3,4,2,10]]] (zR [] []) (cond (Nat.beq l l) (yldO [.agg [.int .i64 6,.int .i64 1,.sli .u32 [2,16,840,1,101,3,4,2,11]]] (zR [] []) (cond (Nat.beq l l) (yldO [.agg [.int .i64 7,.int .i64 1,.sli .u32 [2,16,840,1,101,3,4,2,12]]] (zR [] []) (cond (Nat.beq l l) (yldO [.agg [.int .i64 11,.int .i64 2,.sli .u32 [2,16,840,1,101,3,4,3,17]]] (zR [] []) (cond (Nat.beq l l) (yldO [.agg [.int .i64 12,.int .i64 2,.sli .u32 [2,16,840,1,101,3,4,3,18]]] (zR [] []) (cond (Nat.beq l l) (yldO [.agg [.int .i64 13,.int .i64 2,.sli .u32 [2,16,840,1,101,3,4,3,19]]] (zR [] []) (cond (Nat.beq l l) (yldO [.agg [.int .i64 33,.int .i64 2,.sli .u32 [2,999,1]]] (zR [] []) (cond (Nat.beq l l) (yldO [.agg [.int .i64 34,.int .i64 2,.sli .u32 [2,999,2]]] (zR [] []) (cond (Nat.beq l l) (yldO [.agg [.int .i64 41,.int .i64 2,.sli .u32 [1,2,840,113549,1,9,16,3,17]]] (zR [] []) (cond (Nat.beq l l) (yldO [.agg [.int .i64 51,.int .i64 3,.sli .u32 [2,16,840,1,101,3,4,4,1]]] (zR [] []) (cond (Nat.beq l l) (yldO [.agg [.int .i64 52,.int .i64 3,.sli .u32 [2,16,840,1,101,3,4,4,2]]] (zR [] []) (cond (Nat.beq l l) (yldO [.agg [.int .i64 53,.int .i64 3,.sli .u32 [2,16,840,1,101,3,4,4,3]]] (zR [] []) (cond (Nat.beq l l) (yldO [.agg [.int .i64 61,.int .i64 4,.sli .u32 [1,2,840,113549,1,9,16,3,28]]] (zR [] []) (cond (Nat.beq l l) (yldO [.agg [.int .i64 62,.int .i64 4,.sli .u32 [1,2,840,113549,1,9,16,3,29]]] (zR [] []) (cond (Nat.beq l l) (yldO [.agg [.int .i64 63,.int .i64 4,.sli .u32 [1,2,840,113549,1,9,16,3,30]]] (zR [] []) (cond (Nat.beq l l) (yldO [.agg [.int .i64 71,.int .i64 5,.sli .u32 [2,16,840,1,101,3,4,1,5]]] (zR [] []) (cond (Nat.beq l l) (yldO [.agg [.int .i64 72,.int .i64 5,.sli .u32 [2,16,840,1,101,3,4,1,25]]] (zR [] []) (cond (Nat.beq l l) (yldO [.agg [.int .i64 73,.int .i64 5,.sli .u32 [2,16,840,1,101,3,4,1,45]]] (zR [] []) (cond (Nat.beq l l) (yldO [.agg [.int .i64 81,.int .i64 6,.sli .u32 [2,16,840,1,101,3,4,1,2]]] (zR [] []) (cond (Nat.beq l l) (yldO [.agg [.int .i64 82,.int .i64 6,.sli .u32 [2,16,840,1,101,3,4,1,22]]] (zR [] []) (cond (Nat.beq l l) (yldO [.agg [.int .i64 83,.int .i64 6,.sli .u32 [2,16,840,1,101,3,4,1,42]]] (zR [] []) (cond (Nat.beq l l) (yldO [.agg [.int .i64 91,.int .i64 7,.sli .u32 [2,16,840,1,101,3,4,1,6]]] (zR [] []) (cond (Nat.beq l l) (yldO [.agg [.int .i64 92,.int .i64 7,.sli .u32 [2,16,840,1,101,3,4,1,26]]] (zR [] []) (cond (Nat.beq l l) (yldO [.agg [.int .i64 93,.int .i64 7,.sli .u32 [2,16,840,1,101,3,4,1,46]]] (zR [] []) (cond (Nat.beq l l) (yldO [.agg [.int .i64 21,.int .i64 2,.sli .u32 [2,16,840,1,101,3,4,3,20]]] (zR [] []) (cond (Nat.beq l l) (yldO [.agg [.int .i64 22,.int .i64 2,.sli .u32 [2,16,840,1,101,3,4,3,26]]] (zR [] []) (cond (Nat.beq l l) (yldO [.agg [.int .i64 23,.int .i64 2,.sli .u32 [2,16,840,1,101,3,4,3,21]]] (zR [] []) (cond (Nat.beq l l) (yldO [.agg [.int .i64 24,.int .i64 2,.sli .u32 [2,16,840,1,101,3,4,3,27]]] (zR [] []) (cond (Nat.beq l l) (yldO [.agg [.int .i64 25,.int .i64 2,.sli .u32 [2,16,840,1,101,3,4,3,22]]] (zR [] []) (cond (Nat.beq l l) (yldO [.agg [.int .i64 26,.int .i64 2,.sli .u32 [2,16,840,1,101,3,4,3,28]]] (zR [] []) (cond (Nat.beq l l) (yldO [.agg [.int .i64 27,.int .i64 2,.sli .u32 [2,16,840,1,101,3,4,3,23]]] (zR [] []) (cond (Nat.beq l l) (yldO [.agg [.int .i64 28,.int .i64 2,.sli .u32 [2,16,840,1,101,3,4,3,29]]] (zR [] []) (cond (Nat.beq l l) (yldO [.agg [.int .i64 29,.int .i64 2,.sli .u32 [2,16,840,1,101,3,4,3,24]]] (zR [] []) (cond (Nat.beq l l) (yldO [.agg [.int .i64 30,.int .i64 2,.sli .u32 [2,16,840,1,101,3,4,3,30]]] (zR [] []) (cond (Nat.beq l l) (yldO [.agg [.int .i64 31,.int .i64 2,.sli .u32 [2,16,840,1,101,3,4,3,25]]] (zR [] []) (cond (Nat.beq l l) (yldO [.agg [.int .i64 32,.int .i64 2,.sli .u32 [2,16,840,1,101,3,4,3,31]]] (zR [] []) (zR [] [])) none)) none)) none)) none)) none)) none)) none)) none)) none)) none)) none)) none)) none)) none)) none)) none)) none)) none)) none)) none)) none)) none)) none)) none)) none)) none)) none)) none)) none)) none)) none)) none)) none)) none)) none)) none)) none)) none)) none)) none
theorem xbjv (l:Nat):qp6 Tryz.prog (xbev l) 40 false Tryz.f175 [.cl (.fn (.yield l) [] [])] []=xbrh l:=by kernel_rfl
def EDCatch:Env:= {
 orc:=fun _=>fun _ _=>Tree.fail
 pre:=fun _=>fun _ _=>true
 glob:=qay
 nt:=19
 rg:=false
}
theorem q8n: ∀c,Tryz.f47.body=some c->qbj Tryz.prog (EDCatch) 40 c:=lsB (ids:=[]) (by kernel_rfl) trivial
def xbkm (t:Int) (bb:LI) (kk:LC) (e:Int):OO:=zR [] [some ⟨.var [zvi t,zvl bb,zvg kk],false⟩,some ⟨.var [zvi e],false⟩]
theorem q3c (t:Int) (bb:LI) (kk:LC) (e:Int):recK Tryz.prog (EDCatch) 40 Tryz.f47 (none) [.ptr 0 0 0,.ptr 1 0 0] [⟨.var [.cl (.int .i64 t),.cl (.sli .u8 bb),.cl (.slg 3 kk)],false⟩,⟨.var [.cl (.int .i64 e)],false⟩]=xbkm t bb kk e:=by kernel_rfl
def xbik (why:Int) (t:Int) (bb:LI) (kk:LC) (e:Int):OO:=zR [] [some ⟨.var [zvi 0,.nils,.nils],false⟩,some ⟨.var [zvi why],false⟩]
theorem q5a (why:Int) (t:Int) (bb:LI) (kk:LC) (e:Int):recK Tryz.prog (EDCatch) 40 Tryz.f47 (some (.iface 85 (.agg [.int .i64 why]))) [.ptr 0 0 0,.ptr 1 0 0] [⟨.var [.cl (.int .i64 t),.cl (.sli .u8 bb),.cl (.slg 3 kk)],false⟩,⟨.var [.cl (.int .i64 e)],false⟩]=xbik why t bb kk e:=by kernel_rfl
def xbk8 (why:Int) (t:Int) (e:Int):OO:=zR [] [some ⟨.var [zvi 0,.nils,.nils],false⟩,some ⟨.var [zvi why],false⟩]
theorem q4t (why:Int) (t:Int) (e:Int):recK Tryz.prog (EDCatch) 40 Tryz.f47 (some (.iface 85 (.agg [.int .i64 why]))) [.ptr 0 0 0,.ptr 1 0 0] [⟨.var [.cl (.int .i64 t),.nils,.nils],false⟩,⟨.var [.cl (.int .i64 e)],false⟩]=xbk8 why t e:=by kernel_rfl
end
end Go.Proofs.YtoaakappnhemiaaGreatDoorA
