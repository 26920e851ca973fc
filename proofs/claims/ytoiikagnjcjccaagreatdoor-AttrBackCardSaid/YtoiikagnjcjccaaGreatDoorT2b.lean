/-
 What the reading of apostille/oid.put comes to, printed by a program. Conditions: none.
-/
import Derived.Test.YtoiikagnjcjccaaGreatDoorT1
set_option linter.unusedVariables false
set_option linter.unusedSimpArgs false
set_option maxRecDepth 100000
namespace Go.Proofs.YtoiikagnjcjccaaGreatDoorA
noncomputable section
def qzw(k0:Int->Int->Int->Int->Int->OO)(k1:Int->Int->Int->Int->OO)(k2:Int->Int->Int->OO)(k3:Int->Int->OO)(k4:Int->OO)(v1:Int):OO:=let x1:=Int.fdiv v1 (2 ^ 28);cond (!decide (x1=0)) (let x2:=Int.fdiv v1 (2 ^ 28);let x3:=IntKind.u8.wrap x2;let x4:=IntKind.u8.wrap ((BitVec.ofInt 8 x3||| BitVec.ofInt 8 128).toNat);let x5:=Int.fdiv v1 (2 ^ 21);cond (!decide (x5=0)) (let x6:=Int.fdiv v1 (2 ^ 21);let x7:=IntKind.u8.wrap x6;let x8:=IntKind.u8.wrap ((BitVec.ofInt 8 x7||| BitVec.ofInt 8 128).toNat);let x9:=Int.fdiv v1 (2 ^ 14);cond (!decide (x9=0)) (let x10:=Int.fdiv v1 (2 ^ 14);let x11:=IntKind.u8.wrap x10;let x12:=IntKind.u8.wrap ((BitVec.ofInt 8 x11||| BitVec.ofInt 8 128).toNat);let x13:=Int.fdiv v1 (2 ^ 7);cond (!decide (x13=0)) (let x14:=Int.fdiv v1 (2 ^ 7);let x15:=IntKind.u8.wrap x14;let x16:=IntKind.u8.wrap ((BitVec.ofInt 8 x15||| BitVec.ofInt 8 128).toNat);k0 v1 x4 x8 x12 x16) (k1 v1 x4 x8 x12)) (let x17:=Int.fdiv v1 (2 ^ 7);cond (!decide (x17=0)) (let x18:=Int.fdiv v1 (2 ^ 7);let x19:=IntKind.u8.wrap x18;let x20:=IntKind.u8.wrap ((BitVec.ofInt 8 x19||| BitVec.ofInt 8 128).toNat);k1 v1 x4 x8 x20) (k2 v1 x4 x8))) (let x21:=Int.fdiv v1 (2 ^ 14);cond (!decide (x21=0)) (let x22:=Int.fdiv v1 (2 ^ 14);let x23:=IntKind.u8.wrap x22;let x24:=IntKind.u8.wrap ((BitVec.ofInt 8 x23||| BitVec.ofInt 8 128).toNat);let x25:=Int.fdiv v1 (2 ^ 7);cond (!decide (x25=0)) (let x26:=Int.fdiv v1 (2 ^ 7);let x27:=IntKind.u8.wrap x26;let x28:=IntKind.u8.wrap ((BitVec.ofInt 8 x27||| BitVec.ofInt 8 128).toNat);k1 v1 x4 x24 x28) (k2 v1 x4 x24)) (let x29:=Int.fdiv v1 (2 ^ 7);cond (!decide (x29=0)) (let x30:=Int.fdiv v1 (2 ^ 7);let x31:=IntKind.u8.wrap x30;let x32:=IntKind.u8.wrap ((BitVec.ofInt 8 x31||| BitVec.ofInt 8 128).toNat);k2 v1 x4 x32) (k3 v1 x4)))) (let x33:=Int.fdiv v1 (2 ^ 21);cond (!decide (x33=0)) (let x34:=Int.fdiv v1 (2 ^ 21);let x35:=IntKind.u8.wrap x34;let x36:=IntKind.u8.wrap ((BitVec.ofInt 8 x35||| BitVec.ofInt 8 128).toNat);let x37:=Int.fdiv v1 (2 ^ 14);cond (!decide (x37=0)) (let x38:=Int.fdiv v1 (2 ^ 14);let x39:=IntKind.u8.wrap x38;let x40:=IntKind.u8.wrap ((BitVec.ofInt 8 x39||| BitVec.ofInt 8 128).toNat);let x41:=Int.fdiv v1 (2 ^ 7);cond (!decide (x41=0)) (let x42:=Int.fdiv v1 (2 ^ 7);let x43:=IntKind.u8.wrap x42;let x44:=IntKind.u8.wrap ((BitVec.ofInt 8 x43||| BitVec.ofInt 8 128).toNat);k1 v1 x36 x40 x44) (k2 v1 x36 x40)) (let x45:=Int.fdiv v1 (2 ^ 7);cond (!decide (x45=0)) (let x46:=Int.fdiv v1 (2 ^ 7);let x47:=IntKind.u8.wrap x46;let x48:=IntKind.u8.wrap ((BitVec.ofInt 8 x47||| BitVec.ofInt 8 128).toNat);k2 v1 x36 x48) (k3 v1 x36))) (let x49:=Int.fdiv v1 (2 ^ 14);cond (!decide (x49=0)) (let x50:=Int.fdiv v1 (2 ^ 14);let x51:=IntKind.u8.wrap x50;let x52:=IntKind.u8.wrap ((BitVec.ofInt 8 x51||| BitVec.ofInt 8 128).toNat);let x53:=Int.fdiv v1 (2 ^ 7);cond (!decide (x53=0)) (let x54:=Int.fdiv v1 (2 ^ 7);let x55:=IntKind.u8.wrap x54;let x56:=IntKind.u8.wrap ((BitVec.ofInt 8 x55||| BitVec.ofInt 8 128).toNat);k2 v1 x52 x56) (k3 v1 x52)) (let x57:=Int.fdiv v1 (2 ^ 7);cond (!decide (x57=0)) (let x58:=Int.fdiv v1 (2 ^ 7);let x59:=IntKind.u8.wrap x58;let x60:=IntKind.u8.wrap ((BitVec.ofInt 8 x59||| BitVec.ofInt 8 128).toNat);k3 v1 x60) (k4 v1))))
def qps(k0:Nat->Int->LI->OO)(k1:Nat->Int->LI->OO)(v1:Nat)(v2:Int)(v3:LI):OO:=let x1:=Int.fdiv v2 (2 ^ 28);cond (!decide (x1=0)) (let x2:=Int.fdiv v2 (2 ^ 28);let x3:=IntKind.u8.wrap x2;let x4:=IntKind.u8.wrap ((BitVec.ofInt 8 x3||| BitVec.ofInt 8 128).toNat);let l5:=v3++[x4];rmK l5.length 1<| let x6:=Int.fdiv v2 (2 ^ 21);cond (!decide (x6=0)) (let x7:=Int.fdiv v2 (2 ^ 21);let x8:=IntKind.u8.wrap x7;let x9:=IntKind.u8.wrap ((BitVec.ofInt 8 x8||| BitVec.ofInt 8 128).toNat);let l10:=l5++[x9];rmK l10.length 1<| let x11:=Int.fdiv v2 (2 ^ 14);cond (!decide (x11=0)) (let x12:=Int.fdiv v2 (2 ^ 14);let x13:=IntKind.u8.wrap x12;let x14:=IntKind.u8.wrap ((BitVec.ofInt 8 x13||| BitVec.ofInt 8 128).toNat);let l15:=l10++[x14];rmK l15.length 1<| let x16:=Int.fdiv v2 (2 ^ 7);cond (!decide (x16=0)) (let x17:=Int.fdiv v2 (2 ^ 7);let x18:=IntKind.u8.wrap x17;let x19:=IntKind.u8.wrap ((BitVec.ofInt 8 x18||| BitVec.ofInt 8 128).toNat);let l20:=l15++[x19];rmK l20.length 1<| k0 l20.length v2 l20) (k0 l15.length v2 l15)) (let x21:=Int.fdiv v2 (2 ^ 7);cond (!decide (x21=0)) (let x22:=Int.fdiv v2 (2 ^ 7);let x23:=IntKind.u8.wrap x22;let x24:=IntKind.u8.wrap ((BitVec.ofInt 8 x23||| BitVec.ofInt 8 128).toNat);let l25:=l10++[x24];rmK l25.length 1<| k0 l25.length v2 l25) (k0 l10.length v2 l10))) (let x26:=Int.fdiv v2 (2 ^ 14);cond (!decide (x26=0)) (let x27:=Int.fdiv v2 (2 ^ 14);let x28:=IntKind.u8.wrap x27;let x29:=IntKind.u8.wrap ((BitVec.ofInt 8 x28||| BitVec.ofInt 8 128).toNat);let l30:=l5++[x29];rmK l30.length 1<| let x31:=Int.fdiv v2 (2 ^ 7);cond (!decide (x31=0)) (let x32:=Int.fdiv v2 (2 ^ 7);let x33:=IntKind.u8.wrap x32;let x34:=IntKind.u8.wrap ((BitVec.ofInt 8 x33||| BitVec.ofInt 8 128).toNat);let l35:=l30++[x34];rmK l35.length 1<| k0 l35.length v2 l35) (k0 l30.length v2 l30)) (let x36:=Int.fdiv v2 (2 ^ 7);cond (!decide (x36=0)) (let x37:=Int.fdiv v2 (2 ^ 7);let x38:=IntKind.u8.wrap x37;let x39:=IntKind.u8.wrap ((BitVec.ofInt 8 x38||| BitVec.ofInt 8 128).toNat);let l40:=l5++[x39];rmK l40.length 1<| k0 l40.length v2 l40) (k0 l5.length v2 l5)))) (let x41:=Int.fdiv v2 (2 ^ 21);cond (!decide (x41=0)) (let x42:=Int.fdiv v2 (2 ^ 21);let x43:=IntKind.u8.wrap x42;let x44:=IntKind.u8.wrap ((BitVec.ofInt 8 x43||| BitVec.ofInt 8 128).toNat);let l45:=v3++[x44];rmK l45.length 1<| let x46:=Int.fdiv v2 (2 ^ 14);cond (!decide (x46=0)) (let x47:=Int.fdiv v2 (2 ^ 14);let x48:=IntKind.u8.wrap x47;let x49:=IntKind.u8.wrap ((BitVec.ofInt 8 x48||| BitVec.ofInt 8 128).toNat);let l50:=l45++[x49];rmK l50.length 1<| let x51:=Int.fdiv v2 (2 ^ 7);cond (!decide (x51=0)) (let x52:=Int.fdiv v2 (2 ^ 7);let x53:=IntKind.u8.wrap x52;let x54:=IntKind.u8.wrap ((BitVec.ofInt 8 x53||| BitVec.ofInt 8 128).toNat);let l55:=l50++[x54];rmK l55.length 1<| k0 l55.length v2 l55) (k0 l50.length v2 l50)) (let x56:=Int.fdiv v2 (2 ^ 7);cond (!decide (x56=0)) (let x57:=Int.fdiv v2 (2 ^ 7);let x58:=IntKind.u8.wrap x57;let x59:=IntKind.u8.wrap ((BitVec.ofInt 8 x58||| BitVec.ofInt 8 128).toNat);let l60:=l45++[x59];rmK l60.length 1<| k0 l60.length v2 l60) (k0 l45.length v2 l45))) (let x61:=Int.fdiv v2 (2 ^ 14);cond (!decide (x61=0)) (let x62:=Int.fdiv v2 (2 ^ 14);let x63:=IntKind.u8.wrap x62;let x64:=IntKind.u8.wrap ((BitVec.ofInt 8 x63||| BitVec.ofInt 8 128).toNat);let l65:=v3++[x64];rmK l65.length 1<| let x66:=Int.fdiv v2 (2 ^ 7);cond (!decide (x66=0)) (let x67:=Int.fdiv v2 (2 ^ 7);let x68:=IntKind.u8.wrap x67;let x69:=IntKind.u8.wrap ((BitVec.ofInt 8 x68||| BitVec.ofInt 8 128).toNat);let l70:=l65++[x69];rmK l70.length 1<| k0 l70.length v2 l70) (k0 l65.length v2 l65)) (let x71:=Int.fdiv v2 (2 ^ 7);cond (!decide (x71=0)) (let x72:=Int.fdiv v2 (2 ^ 7);let x73:=IntKind.u8.wrap x72;let x74:=IntKind.u8.wrap ((BitVec.ofInt 8 x73||| BitVec.ofInt 8 128).toNat);let l75:=v3++[x74];rmK l75.length 1<| k0 l75.length v2 l75) (k1 v1 v2 v3))))
def q59:St->(KT)->OO:=fun σ k=>match σ with|⟨[(q1,.nils),(q2,.cl (.int .u32 v1)),(q3,.cl (.int .i64 q4))],[]⟩=>cond (eqL [q1,q2,q3] [0,1,5]&&decide (q4=28)) (shut (qzw (fun y1 y2 y3 y4 y5=>k .normal ⟨[(0,.ref 85 0 4 true 1),(1,.cl (.int .u32 y1))],[(85,⟨.ints .u8 [y2,y3,y4,y5],false⟩)]⟩) (fun y1 y2 y3 y4=>k .normal ⟨[(0,.ref 85 0 3 true 1),(1,.cl (.int .u32 y1))],[(85,⟨.ints .u8 [y2,y3,y4],false⟩)]⟩) (fun y1 y2 y3=>k .normal ⟨[(0,.ref 85 0 2 true 1),(1,.cl (.int .u32 y1))],[(85,⟨.ints .u8 [y2,y3],false⟩)]⟩) (fun y1 y2=>k .normal ⟨[(0,.ref 85 0 1 true 1),(1,.cl (.int .u32 y1))],[(85,⟨.ints .u8 [y2],false⟩)]⟩) (fun y1=>k .normal ⟨[(0,.nils),(1,.cl (.int .u32 y1))],[]⟩)) v1) none|⟨[(q1,.ref q2 q3 v1 true q4),(q5,.cl (.int .u32 v2)),(q6,.cl (.int .i64 q7))],[(q8,⟨.ints .u8 v3,false⟩)]⟩=>cond (eqL [q1,q2,q3,q4,q5,q6,q8] [0,0,0,1,1,5,0]&&decide (q7=28)) (shut (qps (fun y1 y2 y3=>k .normal ⟨[(0,.ref 85 0 y1 true 1),(1,.cl (.int .u32 y2))],[(85,⟨.ints .u8 y3,false⟩)]⟩) (fun y1 y2 y3=>k .normal ⟨[(0,.ref 0 0 y1 true 1),(1,.cl (.int .u32 y2))],[(0,⟨.ints .u8 y3,false⟩)]⟩)) v1 v2 v3) none|_=>none
def EOPut:Env:= {mkE BOPut qa9 28 with live:=lk [] [(2,[0,1,5])],xl:=lk none [(0,some [4]),(1,some [0,1]),(1002,some [0,1])],jn:=lk none [(2,some q59)]}
theorem q6a:JnOk Tryz.prog (EOPut) 40 (nthc (EOPut) Tryz.f110 0) 2 q59:=by
 intro σ k r h;unfold q59 at h;split at h
 ·obtain⟨hc,j⟩:=qaa h;simp only[zab,qj8,decide_eq_true_eq,zaq] at hc;obtain⟨hc,rfl⟩:=hc;cases qa3 hc;rw[qab] at j;exact zdr (by kernel_rfl) j
 ·obtain⟨hc,j⟩:=qaa h;simp only[zab,qj8,decide_eq_true_eq,zaq] at hc;obtain⟨hc,rfl⟩:=hc;cases qa3 hc;rw[qab] at j;exact zdr (by kernel_rfl) j
 ·cases h
def xbfy(n:Int):OO:=shut (qzw (fun y1 y2 y3 y4 y5=>let x6:=IntKind.u8.wrap y1;let x7:=IntKind.u8.wrap ((BitVec.ofInt 8 x6&&& ~~~ BitVec.ofInt 8 128).toNat);zR [.ref 0 0 5 true 1] [some ⟨.ints .u8 [y2,y3,y4,y5,x7],false⟩]) (fun y8 y9 y10 y11=>let x12:=IntKind.u8.wrap y8;let x13:=IntKind.u8.wrap ((BitVec.ofInt 8 x12&&& ~~~ BitVec.ofInt 8 128).toNat);zR [.ref 0 0 4 true 1] [some ⟨.ints .u8 [y9,y10,y11,x13],false⟩]) (fun y14 y15 y16=>let x17:=IntKind.u8.wrap y14;let x18:=IntKind.u8.wrap ((BitVec.ofInt 8 x17&&& ~~~ BitVec.ofInt 8 128).toNat);zR [.ref 0 0 3 true 1] [some ⟨.ints .u8 [y15,y16,x18],false⟩]) (fun y19 y20=>let x21:=IntKind.u8.wrap y19;let x22:=IntKind.u8.wrap ((BitVec.ofInt 8 x21&&& ~~~ BitVec.ofInt 8 128).toNat);zR [.ref 0 0 2 true 1] [some ⟨.ints .u8 [y20,x22],false⟩]) (fun y23=>let x24:=IntKind.u8.wrap y23;let x25:=IntKind.u8.wrap ((BitVec.ofInt 8 x24&&& ~~~ BitVec.ofInt 8 128).toNat);zR [.ref 0 0 1 true 1] [some ⟨.ints .u8 [x25],false⟩])) n
def xbfz(m:Nat)(n:Int)(l:LI):OO:=shut (qps (fun y1 y2 y3=>let x4:=IntKind.u8.wrap y2;let x5:=IntKind.u8.wrap ((BitVec.ofInt 8 x4&&& ~~~ BitVec.ofInt 8 128).toNat);let l6:=y3++[x5];rmK l6.length 1<| zR [.ref 1 0 l6.length true 1] [none,some ⟨.ints .u8 l6,false⟩]) (fun y7 y8 y9=>let x10:=IntKind.u8.wrap y8;let x11:=IntKind.u8.wrap ((BitVec.ofInt 8 x10&&& ~~~ BitVec.ofInt 8 128).toNat);let l12:=y9++[x11];rmK l12.length 1<| zR [.ref 1 0 l12.length true 1] [none,some ⟨.ints .u8 l12,false⟩])) m n l
def qh7(again:Int->Nat->LI->OO)(k0:Nat->LI->OO)(v1:Int)(v2:Nat)(v3:LI):OO:=cond (decide ((0:Int)<v1)) (let x4:=Int.tmod v1 128;let x5:=IntKind.u32.wrap ((128:Int)+x4);let x6:=IntKind.u8.wrap x5;let l7:=[x6]++v3;rmK l7.length 1<| let x8:=IntKind.u32.wrap (Int.tdiv v1 128);again x8 l7.length l7) (k0 v2 v3)
def qgy(k0:Nat->LI->OO):Nat->Int->Nat->LI->OO:=qd4 (fun a=>qh7 a k0) (fun _ _ _=>none)
def qma:St->(KT)->OO:=fun σ k=>match σ with|⟨[(q1,.cl (.int .u32 v1)),(q2,.ref q3 q4 v2 true q5)],[(q6,⟨.ints .u8 v3,false⟩)]⟩=>cond (eqL [q1,q2,q3,q4,q5,q6] [0,3,71,0,1,71]) (shut (qgy (fun y1 y2=>k (.exit 0) ⟨[(3,.ref 71 0 y1 true 1)],[(71,⟨.ints .u8 y2,false⟩)]⟩) FUEL) v1 v2 v3) none|_=>none
def ER2Groups:Env:= {mkE BR2Groups qa9 22 with live:=lk [] [(3,[0,3])],ren:=lk [] [(3,[(84,71)])],lp:=lk none [(3,some qma)],xl:=lk none [(0,some [2]),(1,some [3])]}
theorem qs6:LpT Tryz.prog (ER2Groups) Tryz.f83 0 3 qma:=by
 intro σ k r h;unfold qma at h;split at h
 ·obtain⟨hc,j⟩:=qaa h;cases qa3 hc;rw[qab] at j;apply it3 j
  ·intro n;kernel_rfl
  ·rfl
 ·cases h
def q1m(n:Int):OO:=let x1:=Int.tmod n 128;let x2:=IntKind.u8.wrap x1;let x3:=IntKind.u32.wrap (Int.tdiv n 128);shut (qgy (fun y4 y5=>zR [.ref 0 0 y4 true 1] [some ⟨.ints .u8 y5,false⟩]) FUEL) x3 1 [x2]
def qmu(again:Nat->LI->Int->Int->LI->OO)(k0:Nat->LI->OO)(v1:Nat)(v2:LI)(v3 v4:Int)(v5:LI):OO:=cond (decide (v4<v3)) (getK v2 v4 fun e9=>cond (u32Ok e9&&qud v5) (let r10:=(v5++qbg e9).length;let r11:=v5++qbg e9;let x12:=IntKind.i64.wrap (v4+1);again r10 v2 v3 x12 r11) none) (k0 v1 v5)
def qk8(k0:Nat->LI->OO):Nat->Nat->LI->Int->Int->LI->OO:=qd4 (fun a=>qmu a k0) (fun _ _ _ _ _=>none)
def qs2:St->(KT)->OO:=fun σ k=>match σ with|⟨[(q1,.ref q2 q3 v1 true q4),(q5,.cl (.sli .u32 v2)),(q6,.cl (.int .i64 v3)),(q7,.cl (.int .i64 v4))],[(q8,⟨.ints .u8 v5,false⟩)]⟩=>cond (eqL [q1,q2,q3,q4,q5,q6,q7,q8] [3,81,0,1,19,20,21,81]) (shut (qk8 (fun y1 y2=>k (.exit 0) ⟨[(3,.ref 81 0 y1 true 1)],[(81,⟨.ints .u8 y2,false⟩)]⟩) FUEL) v1 v2 v3 v4 v5) none|_=>none
def EOBytes:Env:= {mkE BOBytes qa9 30 with byref:=lk [] [(110,[0])],keep:=lk false [(110,true)],live:=lk [] [(5,[3,19,20,21])],ren:=lk [] [(5,[(91,81)])],lp:=lk none [(5,some qs2)],xl:=lk none [(0,some [2]),(1,some [3])]}
theorem qx2:LpT Tryz.prog (EOBytes) Tryz.f89 0 5 qs2:=by
 intro σ k r h;unfold qs2 at h;split at h
 ·obtain⟨hc,j⟩:=qaa h;cases qa3 hc;rw[qab] at j;apply it5 j
  ·intro n;kernel_rfl
  ·rfl
 ·cases h
def xbfx(o:LI):OO:=let r1:=qg6 o;cond (!r1) (zR [.cl (.sli .u8 [])] []) (cond (decide ((0:Int)<(o.length:Int))) (Option.bind (o[0]?) fun(e2:Int)=>let x3:=IntKind.u32.wrap ((40:Int)*e2);cond (decide ((1:Int)<(o.length:Int))) (Option.bind (o[1]?) fun(e4:Int)=>let x5:=IntKind.u32.wrap (x3+e4);cond (u32Ok x5) (let r6:=(qbg x5).length;let r7:=qbg x5;cond (decide ((2:Int)<=(o.length:Int))) (let l8:=List.drop 2 o;shut (qk8 (fun y9 y10=>zR [zvl y10] []) FUEL) r6 l8 (l8.length:Int) 0 r7) none) none) none) none)
def qkj(again:LI->Nat->Int->LI->OO)(k0:Nat->LI->OO)(v1:LI)(v2:Nat)(v3:Int)(v4:LI):OO:=cond (decide (v3<(v1.length:Int))) (getK v1 v3 fun e8=>cond (u32Ok e8) (let r10:=qbg e8;let l11:=v4++r10;rmK l11.length 1<| let x12:=IntKind.i64.wrap (v3+1);again v1 l11.length x12 l11) none) (k0 v2 v4)
def qji(k0:Nat->LI->OO):Nat->LI->Nat->Int->LI->OO:=qd4 (fun a=>qkj a k0) (fun _ _ _ _=>none)
def qoz:St->(KT)->OO:=fun σ k=>match σ with|⟨[(q1,.cl (.sli .u32 v1)),(q2,.ref q3 q4 v2 true q5),(q6,.cl (.int .i64 v3))],[(q7,⟨.ints .u8 v4,false⟩)]⟩=>cond (eqL [q1,q2,q3,q4,q5,q6,q7] [0,3,80,0,1,4,80]) (shut (qji (fun y1 y2=>k (.exit 0) ⟨[(3,.ref 80 0 y1 true 1)],[(80,⟨.ints .u8 y2,false⟩)]⟩) FUEL) v1 v2 v3 v4) none|_=>none
def ER2Bytes:Env:= {mkE BR2Bytes qa9 31 with keep:=lk false [(83,true)],live:=lk [] [(5,[0,3,4])],ren:=lk [] [(5,[(93,80)])],lp:=lk none [(5,some qoz)],xl:=lk none [(0,some [2]),(1,some [3])]}
theorem qvy:LpT Tryz.prog (ER2Bytes) Tryz.f53 0 5 qoz:=by
 intro σ k r h;unfold qoz at h;split at h
 ·obtain⟨hc,j⟩:=qaa h;cases qa3 hc;rw[qab] at j;apply it4 j
  ·intro n;kernel_rfl
  ·rfl
 ·cases h
def q72(o:LI):OO:=let r1:=qg6 o;cond (!r1) (zR [.cl (.sli .u8 [])] []) (cond (decide ((0:Int)<(o.length:Int))) (Option.bind (o[0]?) fun(e2:Int)=>let x3:=IntKind.u32.wrap ((40:Int)*e2);cond (decide ((1:Int)<(o.length:Int))) (Option.bind (o[1]?) fun(e4:Int)=>let x5:=IntKind.u32.wrap (x3+e4);cond (u32Ok x5) (let r6:=(qbg x5).length;let r7:=qbg x5;shut (qji (fun y8 y9=>zR [zvl y9] []) FUEL) o r6 2 r7) none) none) none)
def xbmb:Env:= {mkE q56 qa9 35 with xl:=lk none [(0,some [6,7])]}
def xbgi(t:Int)(b:LI)(k:LC):OO:=cond (!decide (t=6)) (zR [.cl (.sli .u32 []),zvi 4] []) (cond (decide ((0:Int)<(k.length:Int))) (zR [.cl (.sli .u32 []),zvi 5] []) (cond (isS ([.int .i64 6,.sli .u8 b,.slg 3 []])) (let r1:=qun ([.int .i64 6,.sli .u8 b,.slg 3 []]);cond (!r1) (zR [.cl (.sli .u32 []),zvi 5] []) (cond (qad b) (let r2:=(qcc b).1;let r3:=(qcc b).2;zR [.cl (.sli .u32 r2),zvi r3] []) none)) none))
def xbr6:Env:= {mkE xbin qa9 8 with xl:=lk none [(0,some [2,3])]}
def xbsq(t:Int)(b:LI)(k:LC):OO:=cond (isS [.int .i64 t,.sli .u8 b,.slg 3 k]) (let r1:=(qiz t b k).1;let r2:=(qiz t b k).2;zR [.cl (.sli .u32 r1),zvi r2] []) none
def EVMade:Env:= {mkE BVMade qa9 15 with xl:=lk none [(0,some [4,5])]}
def xbnl(g:Int)(b:LI):OO:=cond (isS ([.int .i64 g,.sli .u8 b,.slg 3 []])) (let r1:=qun ([.int .i64 g,.sli .u8 b,.slg 3 []]);cond (!r1) (zR [.cl (.agg [.int .i64 0,.sli .u8 [],.slg 3 []]),zvi 5] []) (zR [.cl (.agg [.int .i64 g,.sli .u8 b,.slg 3 []]),zvi 0] [])) none
def EVId:Env:= {mkE BVId qa9 9 with xl:=lk none [(0,some [2,3])]}
def gVId(o:LI):OO:=cond (qrk o) (let r1:=qal o;cond (qp7 6 r1) (let r2:=(qcm 6 r1).1;let r3:=(qcm 6 r1).2.1;let r4:=qlu;let r5:=(qcm 6 r1).2.2;zR [.cl (.agg [.int .i64 r2,.sli .u8 r3,.slg 3 r4]),zvi r5] []) none) none
def EVRMade:Env:= {mkE BVRMade qa9 14 with xl:=lk none [(0,some [4,5])]}
def xbgh(g:Int)(b:LI):OO:=cond (qad b) (let r1:=qhu g b;cond (!r1) (zR [.cl (.agg [.int .i64 0,.sli .u8 [],.slg 3 []]),zvi 5] []) (zR [.cl (.agg [.int .i64 g,.sli .u8 b,.slg 3 []]),zvi 0] [])) none
def EVRId:Env:= {mkE BVRId qa9 9 with xl:=lk none [(0,some [2,3])]}
def xbwa(o:LI):OO:=cond (qrk o) (let r1:=qal o;cond (qp7 6 r1) (let r2:=(qcm 6 r1).1;let r3:=(qcm 6 r1).2.1;let r4:=qlu;let r5:=(qcm 6 r1).2.2;zR [.cl (.agg [.int .i64 r2,.sli .u8 r3,.slg 3 r4]),zvi r5] []) none) none
def EVClone:Env:= {mkE BVClone qa9 8 with xl:=lk none [(0,some [2])]}
def xbgg(l:LC):OO:=cond (Nat.beq l.length 0) (xbi0 (zR [.cl (.slg 3 [])] []) (let l1:=[]++l;rmK l1.length 56<| zR [zvg l1] [])) (let l2:=[]++l;rmK l2.length 56<| zR [zvg l2] [])
def EVSeq:Env:= {mkE BVSeq qa9 6 with xl:=lk none [(0,some [2])]}
def xbwb(l:LC):OO:=cond (qf5 l) (zR [.cl (.agg [.int .i64 48,.sli .u8 [],.slg 3 l])] []) none
def EVKids:Env:= {mkE BVKids qa9 24 with xl:=lk none [(0,some [4,5])]}
def xbnk(t:Int)(b:LI)(k:LC)(g:Int):OO:=cond (!decide (t=g)) (zR [.cl (.slg 3 []),zvi 4] []) (let r1:=qb9 g;cond (!r1) (zR [.cl (.slg 3 []),zvi 4] []) (cond (decide ((0:Int)<(b.length:Int))) (zR [.cl (.slg 3 []),zvi 5] []) (cond (qf5 k) (zR [zvg k,zvi 0] []) none)))
def EVRSeq:Env:= {mkE BVRSeq qa9 5 with xl:=lk none [(0,some [2])]}
def xbsr(l:LC):OO:=zR [.cl (.agg [.int .i64 48,.sli .u8 [],.slg 3 l])] []
def ETCmp4:Env:= {mkE BTCmp4 qa9 10 with xl:=lk none [(0,some [4])]}
def xbsl(tp:Int)(bp:LI)(kp:LC)(wp:LI)(tq:Int)(bq:LI)(kq:LC)(wq:LI):OO:=cond (qad wp&&qad wq) (let r1:=qbh wp wq;zI r1) none
def qmx(again:Nat->Int->Int->Int->Int->LC->OO)(k0:LC->OO)(v1:Nat)(v2 v3 v4 v5:Int)(v6:LC):OO:=cond (decide (v5<v4)) (let x1:=IntKind.i64.wrap (v2+v5);let x2:=IntKind.i64.wrap (v3+v5);let x3:=IntKind.i64.wrap (v3+v5);idxK x3 v1 fun _=>Option.bind (v6[(0+(Int.toNat x3))]?) fun(e4:CV)=>let e5:=(cell1 e4).headD .nili;let e6:=(cell1 e4).tail.headD .nili;let e7:=(cell1 e4).tail.tail.headD .nili;let e8:=(cell1 e4).tail.tail.tail.headD .nili;cond (qiq .i64 e5&&(qbo .u8 e6&&(qc6 3 e7&&(qbo .u8 e8&&true)))) (let i9:=qgo e5;let l10:=qba e6;let l11:=qc5 e7;let l12:=qba e8;let x13:=IntKind.i64.wrap (v2+v5);idxK x13 v1 fun _=>Option.bind (v6[(0+(Int.toNat x13))]?) fun(e14:CV)=>let e15:=(cell1 e14).headD .nili;let e16:=(cell1 e14).tail.headD .nili;let e17:=(cell1 e14).tail.tail.headD .nili;let e18:=(cell1 e14).tail.tail.tail.headD .nili;cond (qiq .i64 e15&&(qbo .u8 e16&&(qc6 3 e17&&(qbo .u8 e18&&true)))) (let i19:=qgo e15;let l20:=qba e16;let l21:=qc5 e17;let l22:=qba e18;idxK x1 v1 fun _=>let l23:=v6.set (0+(Int.toNat x1)) (.agg [.int .i64 i9,.sli .u8 l10,.slg 3 l11,.sli .u8 l12]);idxK x2 v1 fun _=>let l24:=l23.set (0+(Int.toNat x2)) (.agg [.int .i64 i19,.sli .u8 l20,.slg 3 l21,.sli .u8 l22]);let x25:=IntKind.i64.wrap (v5+1);again v1 v2 v3 v4 x25 l24) none) none) (k0 v6)
def qlm(k0:LC->OO):Nat->Nat->Int->Int->Int->Int->LC->OO:=qd4 (fun a=>qmx a k0) (fun _ _ _ _ _ _=>none)
def qte:St->(KT)->OO:=fun σ k=>match σ with|⟨[(q1,.ref q2 q3 v1 true q4),(q5,.cl (.int .i64 v2)),(q6,.cl (.int .i64 v3)),(q7,.cl (.int .i64 v4)),(q8,.cl (.int .i64 v5))],[(q9,⟨.gen q10 v6,false⟩)]⟩=>cond (eqL [q1,q2,q3,q4,q5,q6,q7,q8,q9,q10] [0,0,0,4,1,2,3,10,0,4]) (shut (qlm (fun y1=>k (.exit 0) ⟨[],[(0,⟨.gen 4 y1,false⟩)]⟩) FUEL) v1 v2 v3 v4 v5 v6) none|_=>none
def ETSwap4:Env:= {mkE BTSwap4 qa9 38 with live:=lk [] [(1,[0,1,2,3,10])],lp:=lk none [(1,some qte)],xl:=lk none [(0,some []),(1,some [])]}
theorem qys:LpT Tryz.prog (ETSwap4) Tryz.f138 0 1 qte:=by
 intro σ k r h;unfold qte at h;split at h
 ·obtain⟨hc,j⟩:=qaa h;cases qa3 hc;rw[qab] at j;apply it6 j
  ·intro n;kernel_rfl
  ·rfl
 ·cases h
def xbgb(m:Nat)(a:Int)(b:Int)(n:Int)(l:LC):OO:=shut (qlm (fun y1=>zR [] [some ⟨.gen 4 y1,false⟩]) FUEL) m a b n 0 l
def qpz(again:Nat->Int->Int->Int->LC->OO)(k0:Nat->Int->Int->LC->OO)(v1:Nat)(v2 v3 v4:Int)(v5:LC):OO:=cond (!decide (v3=v4)) (cond (decide (v4<v3)) (let x3:=IntKind.i64.wrap (v2 - v3);cond (rows4 v1 v5&&swOk v1 x3 v2 v4) (let r4:=swpC v5 x3 v2 v4;let x5:=IntKind.i64.wrap (v3 - v4);again v1 v2 x5 v4 r4) none) (let x6:=IntKind.i64.wrap (v2 - v3);let x7:=IntKind.i64.wrap (v2+v4);let x8:=IntKind.i64.wrap (x7 - v3);cond (rows4 v1 v5&&swOk v1 x6 x8 v3) (let r9:=swpC v5 x6 x8 v3;let x10:=IntKind.i64.wrap (v4 - v3);again v1 v2 v3 x10 r9) none)) (k0 v1 v2 v3 v5)
def qos(k0:Nat->Int->Int->LC->OO):Nat->Nat->Int->Int->Int->LC->OO:=qd4 (fun a=>qpz a k0) (fun _ _ _ _ _=>none)
def qyk:St->(KT)->OO:=fun σ k=>match σ with|⟨[(q1,.ref q2 q3 v1 true q4),(q5,.cl (.int .i64 v2)),(q6,.cl (.fn (.func q7) [] [])),(q8,.cl (.int .i64 v3)),(q9,.cl (.int .i64 v4))],[(q10,⟨.gen q11 v5,false⟩)]⟩=>cond (eqL [q1,q2,q3,q4,q5,q6,q7,q8,q9,q10,q11] [0,0,0,4,2,4,85,10,11,0,4]) (shut (qos (fun y1 y2 y3 y4=>k (.exit 0) ⟨[(0,.ref 0 0 y1 true 4),(2,zvi y2),(4,.cl (.fn (.func 85) [] [])),(10,zvi y3)],[(0,⟨.gen 4 y4,false⟩)]⟩) FUEL) v1 v2 v3 v4 v5) none|_=>none
def ETRot4:Env:= {mkE BTRot4 qa9 58 with byref:=lk [] [(138,[0])],live:=lk [] [(2,[0,2,4,10,11])],lp:=lk none [(2,some qyk)],xl:=lk none [(0,some []),(1,some [0,2,4,10])]}
theorem q39:LpT Tryz.prog (ETRot4) Tryz.f135 0 2 qyk:=by
 intro σ k r h;unfold qyk at h;split at h
 ·obtain⟨hc,j⟩:=qaa h;cases qa3 hc;rw[qab] at j;apply it5 j
  ·intro n;kernel_rfl
  ·rfl
 ·cases h
def xbnd(m:Nat)(a:Int)(p:Int)(b:Int)(l:LC):OO:=let x1:=IntKind.i64.wrap (p - a);let x2:=IntKind.i64.wrap (b - p);shut (qos (fun y3 y4 y5 y6=>let x7:=IntKind.i64.wrap (y4 - y5);cond (rows4 y3 y6&&swOk y3 x7 y4 y5) (let r8:=swpC y6 x7 y4 y5;zR [] [some ⟨.gen 4 r8,false⟩]) none) FUEL) m p x1 x2 l
abbrev xbij:=Nat->Int->Int->Int->LC->OO
abbrev xbik:=Nat->Nat->Int->Int->Int->LC->OO
abbrev xbil:=Nat->Nat->Int->Int->LC->OO
abbrev xbim:=Nat->Int->Int->Int->Int->Int->Int->LC->OO
def qp4(rk:Nat)(again:xbij)(k0:Nat->Int->Int->LC->OO)(v1:Nat)(v2 v3 v4:Int)(v5:LC):OO:=cond (decide (v3<v4)) (let x2:=IntKind.i64.wrap (v3+v4);let x3:=IntKind.u64.wrap x2;let x4:=Int.fdiv x3 (2 ^ 1);let x5:=IntKind.i64.wrap x4;idxK x5 v1 fun _=>Option.bind (v5[(0+(Int.toNat x5))]?) fun(e6:CV)=>let e7:=(cell1 e6).headD .nili;let e8:=(cell1 e6).tail.headD .nili;let e9:=(cell1 e6).tail.tail.headD .nili;let e10:=(cell1 e6).tail.tail.tail.headD .nili;cond (qiq .i64 e7&&(qbo .u8 e8&&(qc6 3 e9&&(qbo .u8 e10&&true)))) (let l14:=qba e10;idxK v2 v1 fun _=>Option.bind (v5[(0+(Int.toNat v2))]?) fun(e15:CV)=>let e16:=(cell1 e15).headD .nili;let e17:=(cell1 e15).tail.headD .nili;let e18:=(cell1 e15).tail.tail.headD .nili;let e19:=(cell1 e15).tail.tail.tail.headD .nili;cond (qiq .i64 e16&&(qbo .u8 e17&&(qc6 3 e18&&(qbo .u8 e19&&true)))) (let l23:=qba e19;cond (qad l14&&qad l23) (let r24:=qbh l14 l23;cond (decide (r24<0)) (let x25:=IntKind.i64.wrap (x5+1);again v1 v2 x25 v4 v5) (again v1 v2 v3 x5 v5)) none) none) none) (k0 v1 v2 v3 v5)
def qlp(rk:Nat)(k0:Nat->Int->Int->LC->OO):xbik:=qd4 (fun a=>qp4 rk a k0) (fun _ _ _ _ _=>none)
def qp5(rk:Nat)(again:Nat->Int->Int->LC->OO)(k0:LC->OO)(v1:Nat)(v2 v3:Int)(v4:LC):OO:=let x6:=IntKind.i64.wrap (v2 - 1);cond (decide (v3<x6)) (let x7:=IntKind.i64.wrap (v3+1);let x8:=IntKind.i64.wrap (v3+1);idxK x8 v1 fun _=>Option.bind (v4[(0+(Int.toNat x8))]?) fun(e9:CV)=>let e10:=(cell1 e9).headD .nili;let e11:=(cell1 e9).tail.headD .nili;let e12:=(cell1 e9).tail.tail.headD .nili;let e13:=(cell1 e9).tail.tail.tail.headD .nili;cond (qiq .i64 e10&&(qbo .u8 e11&&(qc6 3 e12&&(qbo .u8 e13&&true)))) (let i14:=qgo e10;let l15:=qba e11;let l16:=qc5 e12;let l17:=qba e13;idxK v3 v1 fun _=>Option.bind (v4[(0+(Int.toNat v3))]?) fun(e18:CV)=>let e19:=(cell1 e18).headD .nili;let e20:=(cell1 e18).tail.headD .nili;let e21:=(cell1 e18).tail.tail.headD .nili;let e22:=(cell1 e18).tail.tail.tail.headD .nili;cond (qiq .i64 e19&&(qbo .u8 e20&&(qc6 3 e21&&(qbo .u8 e22&&true)))) (let i23:=qgo e19;let l24:=qba e20;let l25:=qc5 e21;let l26:=qba e22;idxK v3 v1 fun _=>let l27:=v4.set (0+(Int.toNat v3)) (.agg [.int .i64 i14,.sli .u8 l15,.slg 3 l16,.sli .u8 l17]);idxK x7 v1 fun _=>let l28:=l27.set (0+(Int.toNat x7)) (.agg [.int .i64 i23,.sli .u8 l24,.slg 3 l25,.sli .u8 l26]);let x29:=IntKind.i64.wrap (v3+1);again v1 v2 x29 l28) none) none) (k0 v4)
def qlq(rk:Nat)(k0:LC->OO):xbil:=qd4 (fun a=>qp5 rk a k0) (fun _ _ _ _=>none)
def qm1(rk:Nat)(again:xbij)(k0:Nat->Int->Int->LC->OO)(v1:Nat)(v2 v3 v4:Int)(v5:LC):OO:=cond (decide (v3<v4)) (let x8:=IntKind.i64.wrap (v3+v4);let x9:=IntKind.u64.wrap x8;let x10:=Int.fdiv x9 (2 ^ 1);let x11:=IntKind.i64.wrap x10;idxK v2 v1 fun _=>Option.bind (v5[(0+(Int.toNat v2))]?) fun(e12:CV)=>let e13:=(cell1 e12).headD .nili;let e14:=(cell1 e12).tail.headD .nili;let e15:=(cell1 e12).tail.tail.headD .nili;let e16:=(cell1 e12).tail.tail.tail.headD .nili;cond (qiq .i64 e13&&(qbo .u8 e14&&(qc6 3 e15&&(qbo .u8 e16&&true)))) (let l20:=qba e16;idxK x11 v1 fun _=>Option.bind (v5[(0+(Int.toNat x11))]?) fun(e21:CV)=>let e22:=(cell1 e21).headD .nili;let e23:=(cell1 e21).tail.headD .nili;let e24:=(cell1 e21).tail.tail.headD .nili;let e25:=(cell1 e21).tail.tail.tail.headD .nili;cond (qiq .i64 e22&&(qbo .u8 e23&&(qc6 3 e24&&(qbo .u8 e25&&true)))) (let l29:=qba e25;cond (qad l20&&qad l29) (let r30:=qbh l20 l29;cond (!(decide (r30<0))) (let x31:=IntKind.i64.wrap (x11+1);again v1 v2 x31 v4 v5) (again v1 v2 v3 x11 v5)) none) none) none) (k0 v1 v2 v3 v5)
def qik(rk:Nat)(k0:Nat->Int->Int->LC->OO):xbik:=qd4 (fun a=>qm1 rk a k0) (fun _ _ _ _ _=>none)
def qm2(rk:Nat)(again:Nat->Int->Int->LC->OO)(k0:LC->OO)(v1:Nat)(v2 v3:Int)(v4:LC):OO:=cond (decide (v2<v3)) (let x12:=IntKind.i64.wrap (v3 - 1);let x13:=IntKind.i64.wrap (v3 - 1);idxK x13 v1 fun _=>Option.bind (v4[(0+(Int.toNat x13))]?) fun(e14:CV)=>let e15:=(cell1 e14).headD .nili;let e16:=(cell1 e14).tail.headD .nili;let e17:=(cell1 e14).tail.tail.headD .nili;let e18:=(cell1 e14).tail.tail.tail.headD .nili;cond (qiq .i64 e15&&(qbo .u8 e16&&(qc6 3 e17&&(qbo .u8 e18&&true)))) (let i19:=qgo e15;let l20:=qba e16;let l21:=qc5 e17;let l22:=qba e18;idxK v3 v1 fun _=>Option.bind (v4[(0+(Int.toNat v3))]?) fun(e23:CV)=>let e24:=(cell1 e23).headD .nili;let e25:=(cell1 e23).tail.headD .nili;let e26:=(cell1 e23).tail.tail.headD .nili;let e27:=(cell1 e23).tail.tail.tail.headD .nili;cond (qiq .i64 e24&&(qbo .u8 e25&&(qc6 3 e26&&(qbo .u8 e27&&true)))) (let i28:=qgo e24;let l29:=qba e25;let l30:=qc5 e26;let l31:=qba e27;idxK v3 v1 fun _=>let l32:=v4.set (0+(Int.toNat v3)) (.agg [.int .i64 i19,.sli .u8 l20,.slg 3 l21,.sli .u8 l22]);idxK x12 v1 fun _=>let l33:=l32.set (0+(Int.toNat x12)) (.agg [.int .i64 i28,.sli .u8 l29,.slg 3 l30,.sli .u8 l31]);let x34:=IntKind.i64.wrap (v3 - 1);again v1 v2 x34 l33) none) none) (k0 v4)
def qil(rk:Nat)(k0:LC->OO):xbil:=qd4 (fun a=>qm2 rk a k0) (fun _ _ _ _=>none)
def qm3(rk:Nat)(again:Nat->Int->Int->Int->Int->Int->Int->Int->Int->LC->OO)(k0:xbim)(v1:Nat)(v2 v3 v4 v5 v6 v7 v8 v9:Int)(v10:LC):OO:=cond (decide (v7<v8)) (let x20:=IntKind.i64.wrap (v7+v8);let x21:=IntKind.u64.wrap x20;let x22:=Int.fdiv x21 (2 ^ 1);let x23:=IntKind.i64.wrap x22;let x24:=IntKind.i64.wrap (v9 - x23);idxK x24 v1 fun _=>Option.bind (v10[(0+(Int.toNat x24))]?) fun(e25:CV)=>let e26:=(cell1 e25).headD .nili;let e27:=(cell1 e25).tail.headD .nili;let e28:=(cell1 e25).tail.tail.headD .nili;let e29:=(cell1 e25).tail.tail.tail.headD .nili;cond (qiq .i64 e26&&(qbo .u8 e27&&(qc6 3 e28&&(qbo .u8 e29&&true)))) (let l33:=qba e29;idxK x23 v1 fun _=>Option.bind (v10[(0+(Int.toNat x23))]?) fun(e34:CV)=>let e35:=(cell1 e34).headD .nili;let e36:=(cell1 e34).tail.headD .nili;let e37:=(cell1 e34).tail.tail.headD .nili;let e38:=(cell1 e34).tail.tail.tail.headD .nili;cond (qiq .i64 e35&&(qbo .u8 e36&&(qc6 3 e37&&(qbo .u8 e38&&true)))) (let l42:=qba e38;cond (qad l33&&qad l42) (let r43:=qbh l33 l42;cond (!(decide (r43<0))) (let x44:=IntKind.i64.wrap (x23+1);again v1 v2 v3 v4 v5 v6 x44 v8 v9 v10) (again v1 v2 v3 v4 v5 v6 v7 x23 v9 v10)) none) none) none) (k0 v1 v2 v3 v4 v5 v6 v7 v10)
def qim(rk:Nat)(k0:xbim):Nat->Nat->Int->Int->Int->Int->Int->Int->Int->Int->LC->OO:=qd4 (fun a=>qm3 rk a k0) (fun _ _ _ _ _ _ _ _ _ _=>none)
def qy0(rk:Nat):St->(KT)->OO:=fun σ k=>match σ with|⟨[(q1,.ref q2 q3 v1 true q4),(q5,.cl (.int .i64 v2)),(q6,.cl (.fn (.func q7) [] [])),(q8,.cl (.int .i64 v3)),(q9,.cl (.int .i64 v4))],[(q10,⟨.gen q11 v5,false⟩)]⟩=>cond (eqL [q1,q2,q3,q4,q5,q6,q7,q8,q9,q10,q11] [0,0,0,4,1,4,85,10,11,0,4]) (shut (qlp rk (fun y1 y2 y3 y4=>k (.exit 0) ⟨[(0,.ref 0 0 y1 true 4),(1,zvi y2),(10,zvi y3)],[(0,⟨.gen 4 y4,false⟩)]⟩) FUEL) v1 v2 v3 v4 v5) none|_=>none
def qy2(rk:Nat):St->(KT)->OO:=fun σ k=>match σ with|⟨[(q1,.ref q2 q3 v1 true q4),(q5,.cl (.int .i64 v2)),(q6,.cl (.int .i64 v3))],[(q7,⟨.gen q8 v4,false⟩)]⟩=>cond (eqL [q1,q2,q3,q4,q5,q6,q7,q8] [0,0,0,4,10,13,0,4]) (shut (qlq rk (fun y1=>k (.exit 2) ⟨[],[(0,⟨.gen 4 y1,false⟩)]⟩) FUEL) v1 v2 v3 v4) none|_=>none
def qti(rk:Nat):St->(KT)->OO:=fun σ k=>match σ with|⟨[(q1,.ref q2 q3 v1 true q4),(q5,.cl (.int .i64 v2)),(q6,.cl (.fn (.func q7) [] [])),(q8,.cl (.int .i64 v3)),(q9,.cl (.int .i64 v4))],[(q10,⟨.gen q11 v5,false⟩)]⟩=>cond (eqL [q1,q2,q3,q4,q5,q6,q7,q8,q9,q10,q11] [0,0,0,4,2,4,85,14,15,0,4]) (shut (qik rk (fun y1 y2 y3 y4=>k (.exit 4) ⟨[(0,.ref 0 0 y1 true 4),(2,zvi y2),(14,zvi y3)],[(0,⟨.gen 4 y4,false⟩)]⟩) FUEL) v1 v2 v3 v4 v5) none|_=>none
def qtj(rk:Nat):St->(KT)->OO:=fun σ k=>match σ with|⟨[(q1,.ref q2 q3 v1 true q4),(q5,.cl (.int .i64 v2)),(q6,.cl (.int .i64 v3))],[(q7,⟨.gen q8 v4,false⟩)]⟩=>cond (eqL [q1,q2,q3,q4,q5,q6,q7,q8] [0,0,0,4,14,17,0,4]) (shut (qil rk (fun y1=>k (.exit 6) ⟨[],[(0,⟨.gen 4 y1,false⟩)]⟩) FUEL) v1 v2 v3 v4) none|_=>none
def qtk(rk:Nat):St->(KT)->OO:=fun σ k=>match σ with|⟨[(q1,.ref q2 q3 v1 true q4),(q5,.cl (.int .i64 v2)),(q6,.cl (.int .i64 v3)),(q7,.cl (.int .i64 v4)),(q8,.cl (.fn (.func q9) [] [])),(q10,.cl (.int .i64 v5)),(q11,.cl (.int .i64 v6)),(q12,.cl (.int .i64 v7)),(q13,.cl (.int .i64 v8)),(q14,.cl (.int .i64 v9))],[(q15,⟨.gen q16 v10,false⟩)]⟩=>cond (eqL [q1,q2,q3,q4,q5,q6,q7,q8,q9,q10,q11,q12,q13,q14,q15,q16] [0,0,0,4,1,2,3,4,85,18,19,20,21,22,0,4]) (shut (qim rk (fun y1 y2 y3 y4 y5 y6 y7 y8=>k (.exit 8) ⟨[(0,.ref 0 0 y1 true 4),(1,zvi y2),(2,zvi y3),(3,zvi y4),(4,.cl (.fn (.func 85) [] [])),(18,zvi y5),(19,zvi y6),(20,zvi y7)],[(0,⟨.gen 4 y8,false⟩)]⟩) FUEL) v1 v2 v3 v4 v5 v6 v7 v8 v9 v10) none|_=>none
def qh0(rk:Nat)(k0:LC->OO)(v1:Nat)(v2 v3 v4 v5 v6 v7 v8:Int)(v9:LC):OO:=let x19:=IntKind.i64.wrap (v6 - 1);shut (qim rk (fun y20 y21 y22 y23 y24 y25 y26 y27=>let x28:=IntKind.i64.wrap (y25 - y26);cond (decide (y26<y22)) (cond (decide (y22<x28)) (cond (rows4 y20 y27&&qdk y20 y26 y22 x28) (let r29:=rotC y27 y26 y22 x28;cond (decide (y21<y26)) (cond (decide (y26<y24)) (cond (rows4 y20 r29&&(qdk y20 y21 y26 y24&&(half4 r29 y21 y26 y24&&decide ((y24 - y21).toNat<rk)))) (let r30:=sym4 r29 y21 y26 y24;cond (decide (y24<x28)) (cond (decide (x28<y23)) (cond (rows4 y20 r30&&(qdk y20 y24 x28 y23&&(half4 r30 y24 x28 y23&&decide ((y23 - y24).toNat<rk)))) (let r31:=sym4 r30 y24 x28 y23;k0 r31) none) (k0 r30)) (k0 r30)) none) (cond (decide (y24<x28)) (cond (decide (x28<y23)) (cond (rows4 y20 r29&&(qdk y20 y24 x28 y23&&(half4 r29 y24 x28 y23&&decide ((y23 - y24).toNat<rk)))) (let r32:=sym4 r29 y24 x28 y23;k0 r32) none) (k0 r29)) (k0 r29))) (cond (decide (y24<x28)) (cond (decide (x28<y23)) (cond (rows4 y20 r29&&(qdk y20 y24 x28 y23&&(half4 r29 y24 x28 y23&&decide ((y23 - y24).toNat<rk)))) (let r33:=sym4 r29 y24 x28 y23;k0 r33) none) (k0 r29)) (k0 r29))) none) (cond (decide (y21<y26)) (cond (decide (y26<y24)) (cond (rows4 y20 y27&&(qdk y20 y21 y26 y24&&(half4 y27 y21 y26 y24&&decide ((y24 - y21).toNat<rk)))) (let r34:=sym4 y27 y21 y26 y24;cond (decide (y24<x28)) (cond (decide (x28<y23)) (cond (rows4 y20 r34&&(qdk y20 y24 x28 y23&&(half4 r34 y24 x28 y23&&decide ((y23 - y24).toNat<rk)))) (let r35:=sym4 r34 y24 x28 y23;k0 r35) none) (k0 r34)) (k0 r34)) none) (cond (decide (y24<x28)) (cond (decide (x28<y23)) (cond (rows4 y20 y27&&(qdk y20 y24 x28 y23&&(half4 y27 y24 x28 y23&&decide ((y23 - y24).toNat<rk)))) (let r36:=sym4 y27 y24 x28 y23;k0 r36) none) (k0 y27)) (k0 y27))) (cond (decide (y24<x28)) (cond (decide (x28<y23)) (cond (rows4 y20 y27&&(qdk y20 y24 x28 y23&&(half4 y27 y24 x28 y23&&decide ((y23 - y24).toNat<rk)))) (let r37:=sym4 y27 y24 x28 y23;k0 r37) none) (k0 y27)) (k0 y27)))) (cond (decide (y21<y26)) (cond (decide (y26<y24)) (cond (rows4 y20 y27&&(qdk y20 y21 y26 y24&&(half4 y27 y21 y26 y24&&decide ((y24 - y21).toNat<rk)))) (let r38:=sym4 y27 y21 y26 y24;cond (decide (y24<x28)) (cond (decide (x28<y23)) (cond (rows4 y20 r38&&(qdk y20 y24 x28 y23&&(half4 r38 y24 x28 y23&&decide ((y23 - y24).toNat<rk)))) (let r39:=sym4 r38 y24 x28 y23;k0 r39) none) (k0 r38)) (k0 r38)) none) (cond (decide (y24<x28)) (cond (decide (x28<y23)) (cond (rows4 y20 y27&&(qdk y20 y24 x28 y23&&(half4 y27 y24 x28 y23&&decide ((y23 - y24).toNat<rk)))) (let r40:=sym4 y27 y24 x28 y23;k0 r40) none) (k0 y27)) (k0 y27))) (cond (decide (y24<x28)) (cond (decide (x28<y23)) (cond (rows4 y20 y27&&(qdk y20 y24 x28 y23&&(half4 y27 y24 x28 y23&&decide ((y23 - y24).toNat<rk)))) (let r41:=sym4 y27 y24 x28 y23;k0 r41) none) (k0 y27)) (k0 y27)))) FUEL) v1 v2 v3 v4 v5 v6 v7 v8 x19 v9
def qsz(rk:Nat):St->(KT)->OO:=fun σ k=>match σ with|⟨[(q1,.ref q2 q3 v1 true q4),(q5,.cl (.int .i64 v2)),(q6,.cl (.int .i64 v3)),(q7,.cl (.int .i64 v4)),(q8,.cl (.fn (.func q9) [] [])),(q10,.cl (.int .i64 v5)),(q11,.cl (.int .i64 v6)),(q12,.cl (.int .i64 v7)),(q13,.cl (.int .i64 v8))],[(q14,⟨.gen q15 v9,false⟩)]⟩=>cond (eqL [q1,q2,q3,q4,q5,q6,q7,q8,q9,q10,q11,q12,q13,q14,q15] [0,0,0,4,1,2,3,4,85,18,19,20,21,0,4]) (shut (qh0 rk (fun y1=>k .normal ⟨[],[(0,⟨.gen 4 y1,false⟩)]⟩)) v1 v2 v3 v4 v5 v6 v7 v8 v9) none|_=>none
def ETSym4(rk:Nat):Env:= {
 orc:=fun g=>cond (Nat.beq g 85) ((kT KTCmp4)) (cond (Nat.beq g 125) STSym4 (cond (Nat.beq g 135) ((kT KTRot4)) (fun _ _=>Tree.fail)))
 pre:=fun g=>cond (Nat.beq g 85) ((kP KTCmp4)) (cond (Nat.beq g 125) (qu3 (rk)) (cond (Nat.beq g 135) ((kP KTRot4)) (fun _ _=>true)))
 byref:=fun g=>cond (Nat.beq g 125) ([0]) (cond (Nat.beq g 135) ([0]) ([]))
 live:=fun r=>cond (Nat.beq r 3) ([0,1,4,10,11]) (cond (Nat.beq r 9) ([0,10,13]) (cond (Nat.beq r 15) ([0,2,4,14,15]) (cond (Nat.beq r 21) ([0,14,17]) (cond (Nat.beq r 32) ([0,1,2,3,4,18,19,20,21]) (cond (Nat.beq r 33) ([0,1,2,3,4,18,19,20,21,22]) ([]))))))
 glob:=qa9
 nt:=220
 lp:=fun r=>cond (Nat.beq r 3) (some (qy0 rk)) (cond (Nat.beq r 9) (some (qy2 rk)) (cond (Nat.beq r 15) (some (qti rk)) (cond (Nat.beq r 21) (some (qtj rk)) (cond (Nat.beq r 33) (some (qtk rk)) (none)))))
 xl:=fun r=>cond (Nat.beq r 0) (some []) (cond (Nat.beq r 1) (some [0,1,10]) (cond (Nat.beq r 3) (some []) (cond (Nat.beq r 5) (some [0,2,14]) (cond (Nat.beq r 7) (some []) (cond (Nat.beq r 9) (some [0,1,2,3,4,18,19,20]) (cond (Nat.beq r 1032) (some []) (none)))))))
 jn:=fun r=>cond (Nat.beq r 32) (some (qsz rk)) (none)
}
theorem q4i(rk:Nat):LpT Tryz.prog (ETSym4 rk) Tryz.f125 0 3 (qy0 rk):=by
 intro σ k r h;unfold qy0 at h;split at h
 ·obtain⟨hc,j⟩:=qaa h;cases qa3 hc;rw[qab] at j;apply it5 j
  ·intro n;kernel_rfl
  ·rfl
 ·cases h
theorem q4j(rk:Nat):LpT Tryz.prog (ETSym4 rk) Tryz.f125 1 9 (qy2 rk):=by
 intro σ k r h;unfold qy2 at h;split at h
 ·obtain⟨hc,j⟩:=qaa h;cases qa3 hc;rw[qab] at j;apply it4 j
  ·intro n;kernel_rfl
  ·rfl
 ·cases h
theorem qyy(rk:Nat):LpT Tryz.prog (ETSym4 rk) Tryz.f125 2 15 (qti rk):=by
 intro σ k r h;unfold qti at h;split at h
 ·obtain⟨hc,j⟩:=qaa h;cases qa3 hc;rw[qab] at j;apply it5 j
  ·intro n;kernel_rfl
  ·rfl
 ·cases h
theorem qyz(rk:Nat):LpT Tryz.prog (ETSym4 rk) Tryz.f125 3 21 (qtj rk):=by
 intro σ k r h;unfold qtj at h;split at h
 ·obtain⟨hc,j⟩:=qaa h;cases qa3 hc;rw[qab] at j;apply it4 j
  ·intro n;kernel_rfl
  ·rfl
 ·cases h
theorem qy1(rk:Nat):LpT Tryz.prog (ETSym4 rk) Tryz.f125 4 33 (qtk rk):=by
 intro σ k r h;unfold qtk at h;split at h
 ·obtain⟨hc,j⟩:=qaa h;cases qa3 hc;rw[qab] at j;apply it10 j
  ·intro n;kernel_rfl
  ·rfl
 ·cases h
theorem qxy(rk:Nat):JnOk Tryz.prog (ETSym4 rk) 40 (nthc (ETSym4 rk) Tryz.f125 5) 32 (qsz rk):=by
 intro σ k r h;unfold qsz at h;split at h
 ·obtain⟨hc,j⟩:=qaa h;cases qa3 hc;rw[qab] at j;exact zdr (by kernel_rfl) j
 ·cases h
theorem q9e(rk:Nat): ∀c,Tryz.f125.body=some c->qbj Tryz.prog (ETSym4 rk) 40 c:=lsB (ids:=[(true,3),(true,9),(true,15),(true,21),(true,33),(false,32)]) (by kernel_rfl) ⟨⟨_,rfl,q4i rk⟩,⟨_,rfl,q4j rk⟩,⟨_,rfl,qyy rk⟩,⟨_,rfl,qyz rk⟩,⟨_,rfl,qy1 rk⟩,⟨_,rfl,qxy rk⟩,trivial⟩
def xbji(rk:Nat)(m:Nat)(a:Int)(p:Int)(b:Int)(l:LC):OO:=let x1:=IntKind.i64.wrap (p - a);cond (decide (x1=1)) (shut (qlp rk (fun y2 y3 y4 y5=>shut (qlq rk (fun y6=>zR [] [some ⟨.gen 4 y6,false⟩]) FUEL) y2 y4 y3 y5) FUEL) m a p b l) (let x7:=IntKind.i64.wrap (b - p);cond (decide (x7=1)) (shut (qik rk (fun y8 y9 y10 y11=>shut (qil rk (fun y12=>zR [] [some ⟨.gen 4 y12,false⟩]) FUEL) y8 y10 y9 y11) FUEL) m p a p l) (let x13:=IntKind.i64.wrap (a+b);let x14:=IntKind.u64.wrap x13;let x15:=Int.fdiv x14 (2 ^ 1);let x16:=IntKind.i64.wrap x15;let x17:=IntKind.i64.wrap (x16+p);cond (decide (x16<p)) (let x18:=IntKind.i64.wrap (x17 - b);shut (qh0 rk (fun y19=>zR [] [some ⟨.gen 4 y19,false⟩])) m a p b x16 x17 x18 x16 l) (shut (qh0 rk (fun y20=>zR [] [some ⟨.gen 4 y20,false⟩])) m a p b x16 x17 a p l)))
theorem xbc9(rk:Nat)(m:Nat)(a:Int)(p:Int)(b:Int)(l:LC):qn6 Tryz.prog (ETSym4 rk) 40 false Tryz.f125 [.ref 0 0 m true 4,.cl (.int .i64 a),.cl (.int .i64 p),.cl (.int .i64 b),.cl (.fn (.func 85) [] [])] [⟨.gen 4 l,false⟩]=xbji rk m a p b l:=by kernel_rfl
def qpx(again:Nat->Int->Int->Int->Int->LC->OO)(k0:Nat->Int->Int->Int->LC->OO)(v1:Nat)(v2 v3 v4 v5:Int)(v6:LC):OO:=cond (decide (v2<v5)) (idxK v5 v1 fun _=>Option.bind (v6[(0+(Int.toNat v5))]?) fun(e2:CV)=>let e3:=(cell1 e2).headD .nili;let e4:=(cell1 e2).tail.headD .nili;let e5:=(cell1 e2).tail.tail.headD .nili;let e6:=(cell1 e2).tail.tail.tail.headD .nili;cond (qiq .i64 e3&&(qbo .u8 e4&&(qc6 3 e5&&(qbo .u8 e6&&true)))) (let l10:=qba e6;let x11:=IntKind.i64.wrap (v5 - 1);idxK x11 v1 fun _=>Option.bind (v6[(0+(Int.toNat x11))]?) fun(e12:CV)=>let e13:=(cell1 e12).headD .nili;let e14:=(cell1 e12).tail.headD .nili;let e15:=(cell1 e12).tail.tail.headD .nili;let e16:=(cell1 e12).tail.tail.tail.headD .nili;cond (qiq .i64 e13&&(qbo .u8 e14&&(qc6 3 e15&&(qbo .u8 e16&&true)))) (let l20:=qba e16;cond (qad l10&&qad l20) (let r21:=qbh l10 l20;cond (decide (r21<0)) (let x22:=IntKind.i64.wrap (v5 - 1);let x23:=IntKind.i64.wrap (v5 - 1);idxK x23 v1 fun _=>Option.bind (v6[(0+(Int.toNat x23))]?) fun(e24:CV)=>let e25:=(cell1 e24).headD .nili;let e26:=(cell1 e24).tail.headD .nili;let e27:=(cell1 e24).tail.tail.headD .nili;let e28:=(cell1 e24).tail.tail.tail.headD .nili;cond (qiq .i64 e25&&(qbo .u8 e26&&(qc6 3 e27&&(qbo .u8 e28&&true)))) (let i29:=qgo e25;let l30:=qba e26;let l31:=qc5 e27;let l32:=qba e28;idxK v5 v1 fun _=>Option.bind (v6[(0+(Int.toNat v5))]?) fun(e33:CV)=>let e34:=(cell1 e33).headD .nili;let e35:=(cell1 e33).tail.headD .nili;let e36:=(cell1 e33).tail.tail.headD .nili;let e37:=(cell1 e33).tail.tail.tail.headD .nili;cond (qiq .i64 e34&&(qbo .u8 e35&&(qc6 3 e36&&(qbo .u8 e37&&true)))) (let i38:=qgo e34;let l39:=qba e35;let l40:=qc5 e36;let l41:=qba e37;idxK v5 v1 fun _=>let l42:=v6.set (0+(Int.toNat v5)) (.agg [.int .i64 i29,.sli .u8 l30,.slg 3 l31,.sli .u8 l32]);idxK x22 v1 fun _=>let l43:=l42.set (0+(Int.toNat x22)) (.agg [.int .i64 i38,.sli .u8 l39,.slg 3 l40,.sli .u8 l41]);let x44:=IntKind.i64.wrap (v5 - 1);again v1 v2 v3 v4 x44 l43) none) none) (k0 v1 v2 v3 v4 v6)) none) none) none) (k0 v1 v2 v3 v4 v6)
def qlg(k0:Nat->Int->Int->Int->LC->OO):Nat->Nat->Int->Int->Int->Int->LC->OO:=qd4 (fun a=>qpx a k0) (fun _ _ _ _ _ _=>none)
def qic(again:Nat->Int->Int->Int->LC->OO)(k0:LC->OO)(v1:Nat)(v2 v3 v4:Int)(v5:LC):OO:=cond (decide (v4<v3)) (shut (qlg (fun y2 y3 y4 y5 y6=>let x7:=IntKind.i64.wrap (y5+1);again y2 y3 y4 x7 y6) FUEL) v1 v2 v3 v4 v4 v5) (k0 v5)
def qjo(k0:LC->OO):Nat->Nat->Int->Int->Int->LC->OO:=qd4 (fun a=>qic a k0) (fun _ _ _ _ _=>none)
def qyg:St->(KT)->OO:=fun σ k=>match σ with|⟨[(q1,.ref q2 q3 v1 true q4),(q5,.cl (.int .i64 v2)),(q6,.cl (.int .i64 v3)),(q7,.cl (.fn (.func q8) [] [])),(q9,.cl (.int .i64 v4)),(q10,.cl (.int .i64 v5))],[(q11,⟨.gen q12 v6,false⟩)]⟩=>cond (eqL [q1,q2,q3,q4,q5,q6,q7,q8,q9,q10,q11,q12] [0,0,0,4,1,2,3,85,8,9,0,4]) (shut (qlg (fun y1 y2 y3 y4 y5=>k (.exit 2) ⟨[(0,.ref 0 0 y1 true 4),(1,zvi y2),(2,zvi y3),(3,.cl (.fn (.func 85) [] [])),(8,zvi y4)],[(0,⟨.gen 4 y5,false⟩)]⟩) FUEL) v1 v2 v3 v4 v5 v6) none|_=>none
def qyf:St->(KT)->OO:=fun σ k=>match σ with|⟨[(q1,.ref q2 q3 v1 true q4),(q5,.cl (.int .i64 v2)),(q6,.cl (.int .i64 v3)),(q7,.cl (.fn (.func q8) [] [])),(q9,.cl (.int .i64 v4))],[(q10,⟨.gen q11 v5,false⟩)]⟩=>cond (eqL [q1,q2,q3,q4,q5,q6,q7,q8,q9,q10,q11] [0,0,0,4,1,2,3,85,8,0,4]) (shut (qjo (fun y1=>k (.exit 0) ⟨[],[(0,⟨.gen 4 y1,false⟩)]⟩) FUEL) v1 v2 v3 v4 v5) none|_=>none
def ETIns4:Env:= {mkE BTIns4 qa9 53 with live:=lk [] [(1,[0,1,2,3,8]),(4,[0,1,2,3,8,9])],lp:=lk none [(1,some qyf),(4,some qyg)],xl:=lk none [(0,some []),(1,some []),(3,some [0,1,2,3,8])]}
theorem q35:LpT Tryz.prog (ETIns4) Tryz.f124 0 4 qyg:=by
 intro σ k r h;unfold qyg at h;split at h
 ·obtain⟨hc,j⟩:=qaa h;cases qa3 hc;rw[qab] at j;apply it6 j
  ·intro n;kernel_rfl
  ·rfl
 ·cases h
theorem q34:LpT Tryz.prog (ETIns4) Tryz.f124 1 1 qyf:=by
 intro σ k r h;unfold qyf at h;split at h
 ·obtain⟨hc,j⟩:=qaa h;cases qa3 hc;rw[qab] at j;apply it5 j
  ·intro n;kernel_rfl
  ·rfl
 ·cases h
def xbm8(m:Nat)(a:Int)(b:Int)(l:LC):OO:=let x1:=IntKind.i64.wrap (a+1);shut (qjo (fun y2=>zR [] [some ⟨.gen 4 y2,false⟩]) FUEL) m a b x1 l
def qif(again:Nat->Int->Int->Int->LC->OO)(k0:Nat->Int->Int->LC->OO)(v1:Nat)(v2 v3 v4:Int)(v5:LC):OO:=cond (decide (v4<=v2)) (cond (rows4 v1 v5&&decide (0<=v3/\v3<=v4/\v4<=(v1:Int))) (let r1:=ins4 v5 v3 v4;let x2:=IntKind.i64.wrap (v4+20);again v1 v2 v4 x2 r1) none) (k0 v1 v2 v3 v5)
def qlj(k0:Nat->Int->Int->LC->OO):Nat->Nat->Int->Int->Int->LC->OO:=qd4 (fun a=>qif a k0) (fun _ _ _ _ _=>none)
def qig(again:Nat->Int->Int->Int->Int->LC->OO)(k0:Nat->Int->Int->Int->LC->OO)(v1:Nat)(v2 v3 v4 v5:Int)(v6:LC):OO:=cond (decide (v5<=v2)) (let x7:=IntKind.i64.wrap (v4+v3);cond (rows4 v1 v6&&(qdk v1 v4 x7 v5&&half4 v6 v4 x7 v5)) (let r8:=sym4 v6 v4 x7 v5;let x9:=IntKind.i64.wrap ((2:Int)*v3);let x10:=IntKind.i64.wrap (v5+x9);again v1 v2 v3 v5 x10 r8) none) (k0 v1 v2 v3 v4 v6)
def qlk(k0:Nat->Int->Int->Int->LC->OO):Nat->Nat->Int->Int->Int->Int->LC->OO:=qd4 (fun a=>qig a k0) (fun _ _ _ _ _ _=>none)
def qp1(again:Nat->Int->Int->LC->OO)(k0:LC->OO)(v1:Nat)(v2 v3:Int)(v4:LC):OO:=cond (decide (v3<v2)) (let x6:=IntKind.i64.wrap ((2:Int)*v3);shut (qlk (fun y7 y8 y9 y10 y11=>let x12:=IntKind.i64.wrap (y10+y9);cond (decide (x12<y8)) (cond (rows4 y7 y11&&(qdk y7 y10 x12 y8&&half4 y11 y10 x12 y8)) (let r13:=sym4 y11 y10 x12 y8;let x14:=IntKind.i64.wrap (y9*2);again y7 y8 x14 r13) none) (let x15:=IntKind.i64.wrap (y9*2);again y7 y8 x15 y11)) FUEL) v1 v2 v3 0 x6 v4) (k0 v4)
def qg3(k0:LC->OO):Nat->Nat->Int->Int->LC->OO:=qd4 (fun a=>qp1 a k0) (fun _ _ _ _=>none)
def qyo:St->(KT)->OO:=fun σ k=>match σ with|⟨[(q1,.ref q2 q3 v1 true q4),(q5,.cl (.int .i64 v2)),(q6,.cl (.fn (.func q7) [] [])),(q8,.cl (.int .i64 q9)),(q10,.cl (.int .i64 v3)),(q11,.cl (.int .i64 v4))],[(q12,⟨.gen q13 v5,false⟩)]⟩=>cond (eqL [q1,q2,q3,q4,q5,q6,q7,q8,q10,q11,q12,q13] [0,0,0,4,1,2,85,6,7,8,0,4]&&decide (q9=20)) (shut (qlj (fun y1 y2 y3 y4=>k (.exit 0) ⟨[(0,.ref 0 0 y1 true 4),(1,zvi y2),(2,.cl (.fn (.func 85) [] [])),(6,zvi 20),(7,zvi y3)],[(0,⟨.gen 4 y4,false⟩)]⟩) FUEL) v1 v2 v3 v4 v5) none|_=>none
def qyq:St->(KT)->OO:=fun σ k=>match σ with|⟨[(q1,.ref q2 q3 v1 true q4),(q5,.cl (.int .i64 v2)),(q6,.cl (.fn (.func q7) [] [])),(q8,.cl (.int .i64 v3)),(q9,.cl (.int .i64 v4)),(q10,.cl (.int .i64 v5))],[(q11,⟨.gen q12 v6,false⟩)]⟩=>cond (eqL [q1,q2,q3,q4,q5,q6,q7,q8,q9,q10,q11,q12] [0,0,0,4,1,2,85,6,7,8,0,4]) (shut (qlk (fun y1 y2 y3 y4 y5=>k (.exit 4) ⟨[(0,.ref 0 0 y1 true 4),(1,zvi y2),(2,.cl (.fn (.func 85) [] [])),(6,zvi y3),(7,zvi y4)],[(0,⟨.gen 4 y5,false⟩)]⟩) FUEL) v1 v2 v3 v4 v5 v6) none|_=>none
def qyp:St->(KT)->OO:=fun σ k=>match σ with|⟨[(q1,.ref q2 q3 v1 true q4),(q5,.cl (.int .i64 v2)),(q6,.cl (.fn (.func q7) [] [])),(q8,.cl (.int .i64 v3))],[(q9,⟨.gen q10 v4,false⟩)]⟩=>cond (eqL [q1,q2,q3,q4,q5,q6,q7,q8,q9,q10] [0,0,0,4,1,2,85,6,0,4]) (shut (qg3 (fun y1=>k (.exit 2) ⟨[],[(0,⟨.gen 4 y1,false⟩)]⟩) FUEL) v1 v2 v3 v4) none|_=>none
def ETSta4:Env:= {mkE BTSta4 qa9 63 with byref:=lk [] [(124,[0]),(125,[0])],live:=lk [] [(2,[0,1,2,6,7,8]),(7,[0,1,2,6]),(9,[0,1,2,6,7,8])],lp:=lk none [(2,some qyo),(7,some qyp),(9,some qyq)],xl:=lk none [(0,some []),(1,some [0,1,2,6,7]),(3,some []),(5,some [0,1,2,6,7])]}
theorem q4d:LpT Tryz.prog (ETSta4) Tryz.f107 0 2 qyo:=by
 intro σ k r h;unfold qyo at h;split at h
 ·obtain⟨hc,j⟩:=qaa h;simp only[zab,qj8,decide_eq_true_eq,zaq] at hc;obtain⟨hc,rfl⟩:=hc;cases qa3 hc;rw[qab] at j;apply it5 j
  ·intro n;kernel_rfl
  ·rfl
 ·cases h
theorem q4f:LpT Tryz.prog (ETSta4) Tryz.f107 1 9 qyq:=by
 intro σ k r h;unfold qyq at h;split at h
 ·obtain⟨hc,j⟩:=qaa h;cases qa3 hc;rw[qab] at j;apply it6 j
  ·intro n;kernel_rfl
  ·rfl
 ·cases h
theorem q4e:LpT Tryz.prog (ETSta4) Tryz.f107 2 7 qyp:=by
 intro σ k r h;unfold qyp at h;split at h
 ·obtain⟨hc,j⟩:=qaa h;cases qa3 hc;rw[qab] at j;apply it4 j
  ·intro n;kernel_rfl
  ·rfl
 ·cases h
def xbnh(m:Nat)(n:Int)(l:LC):OO:=shut (qlj (fun y1 y2 y3 y4=>cond (rows4 y1 y4&&decide (0<=y3/\y3<=y2/\y2<=(y1:Int))) (let r5:=ins4 y4 y3 y2;shut (qg3 (fun y6=>zR [] [some ⟨.gen 4 y6,false⟩]) FUEL) y1 y2 20 r5) none) FUEL) m n 0 20 l
def ETSort4:Env:= {mkE BTSort4 qa9 9 with byref:=lk [] [(107,[0])],xl:=lk none [(0,some [])]}
def xbnf(m:Nat)(l:LC):OO:=cond (rows4 m l&&decide ((m:Int)=(m:Int))) (let r1:=srt4 l;zR [] [some ⟨.gen 4 r1,false⟩]) none
def ETCmp3:Env:= {mkE BTCmp3 qa9 10 with xl:=lk none [(0,some [4])]}
def xbsk(op:LI)(kp:LC)(wp:LI)(oq:LI)(kq:LC)(wq:LI):OO:=cond (qad wp&&qad wq) (let r1:=qbh wp wq;zI r1) none
def qmw(again:Nat->Int->Int->Int->Int->LC->OO)(k0:LC->OO)(v1:Nat)(v2 v3 v4 v5:Int)(v6:LC):OO:=cond (decide (v5<v4)) (let x1:=IntKind.i64.wrap (v2+v5);let x2:=IntKind.i64.wrap (v3+v5);let x3:=IntKind.i64.wrap (v3+v5);idxK x3 v1 fun _=>Option.bind (v6[(0+(Int.toNat x3))]?) fun(e4:CV)=>let e5:=(cell1 e4).headD .nili;let e6:=(cell1 e4).tail.headD .nili;let e7:=(cell1 e4).tail.tail.headD .nili;cond (qbo .u32 e5&&(qc6 3 e6&&(qbo .u8 e7&&true))) (let l8:=qba e5;let l9:=qc5 e6;let l10:=qba e7;let x11:=IntKind.i64.wrap (v2+v5);idxK x11 v1 fun _=>Option.bind (v6[(0+(Int.toNat x11))]?) fun(e12:CV)=>let e13:=(cell1 e12).headD .nili;let e14:=(cell1 e12).tail.headD .nili;let e15:=(cell1 e12).tail.tail.headD .nili;cond (qbo .u32 e13&&(qc6 3 e14&&(qbo .u8 e15&&true))) (let l16:=qba e13;let l17:=qc5 e14;let l18:=qba e15;idxK x1 v1 fun _=>let l19:=v6.set (0+(Int.toNat x1)) (.agg [.sli .u32 l8,.slg 3 l9,.sli .u8 l10]);idxK x2 v1 fun _=>let l20:=l19.set (0+(Int.toNat x2)) (.agg [.sli .u32 l16,.slg 3 l17,.sli .u8 l18]);let x21:=IntKind.i64.wrap (v5+1);again v1 v2 v3 v4 x21 l20) none) none) (k0 v6)
def qll(k0:LC->OO):Nat->Nat->Int->Int->Int->Int->LC->OO:=qd4 (fun a=>qmw a k0) (fun _ _ _ _ _ _=>none)
def qtd:St->(KT)->OO:=fun σ k=>match σ with|⟨[(q1,.ref q2 q3 v1 true q4),(q5,.cl (.int .i64 v2)),(q6,.cl (.int .i64 v3)),(q7,.cl (.int .i64 v4)),(q8,.cl (.int .i64 v5))],[(q9,⟨.gen q10 v6,false⟩)]⟩=>cond (eqL [q1,q2,q3,q4,q5,q6,q7,q8,q9,q10] [0,0,0,3,1,2,3,10,0,3]) (shut (qll (fun y1=>k (.exit 0) ⟨[],[(0,⟨.gen 3 y1,false⟩)]⟩) FUEL) v1 v2 v3 v4 v5 v6) none|_=>none
def ETSwap3:Env:= {mkE BTSwap3 qa9 38 with live:=lk [] [(1,[0,1,2,3,10])],lp:=lk none [(1,some qtd)],xl:=lk none [(0,some []),(1,some [])]}
theorem qyr:LpT Tryz.prog (ETSwap3) Tryz.f136 0 1 qtd:=by
 intro σ k r h;unfold qtd at h;split at h
 ·obtain⟨hc,j⟩:=qaa h;cases qa3 hc;rw[qab] at j;apply it6 j
  ·intro n;kernel_rfl
  ·rfl
 ·cases h
def xbga(m:Nat)(a:Int)(b:Int)(n:Int)(l:LC):OO:=shut (qll (fun y1=>zR [] [some ⟨.gen 3 y1,false⟩]) FUEL) m a b n 0 l
def qpy(again:Nat->Int->Int->Int->LC->OO)(k0:Nat->Int->Int->LC->OO)(v1:Nat)(v2 v3 v4:Int)(v5:LC):OO:=cond (!decide (v3=v4)) (cond (decide (v4<v3)) (let x3:=IntKind.i64.wrap (v2 - v3);cond (rows3 v1 v5&&swOk v1 x3 v2 v4) (let r4:=swpC v5 x3 v2 v4;let x5:=IntKind.i64.wrap (v3 - v4);again v1 v2 x5 v4 r4) none) (let x6:=IntKind.i64.wrap (v2 - v3);let x7:=IntKind.i64.wrap (v2+v4);let x8:=IntKind.i64.wrap (x7 - v3);cond (rows3 v1 v5&&swOk v1 x6 x8 v3) (let r9:=swpC v5 x6 x8 v3;let x10:=IntKind.i64.wrap (v4 - v3);again v1 v2 v3 x10 r9) none)) (k0 v1 v2 v3 v5)
def qor(k0:Nat->Int->Int->LC->OO):Nat->Nat->Int->Int->Int->LC->OO:=qd4 (fun a=>qpy a k0) (fun _ _ _ _ _=>none)
def qyj:St->(KT)->OO:=fun σ k=>match σ with|⟨[(q1,.ref q2 q3 v1 true q4),(q5,.cl (.int .i64 v2)),(q6,.cl (.fn (.func q7) [] [])),(q8,.cl (.int .i64 v3)),(q9,.cl (.int .i64 v4))],[(q10,⟨.gen q11 v5,false⟩)]⟩=>cond (eqL [q1,q2,q3,q4,q5,q6,q7,q8,q9,q10,q11] [0,0,0,3,2,4,62,10,11,0,3]) (shut (qor (fun y1 y2 y3 y4=>k (.exit 0) ⟨[(0,.ref 0 0 y1 true 3),(2,zvi y2),(4,.cl (.fn (.func 62) [] [])),(10,zvi y3)],[(0,⟨.gen 3 y4,false⟩)]⟩) FUEL) v1 v2 v3 v4 v5) none|_=>none
def ETRot3:Env:= {mkE BTRot3 qa9 58 with byref:=lk [] [(136,[0])],live:=lk [] [(2,[0,2,4,10,11])],lp:=lk none [(2,some qyj)],xl:=lk none [(0,some []),(1,some [0,2,4,10])]}
theorem q38:LpT Tryz.prog (ETRot3) Tryz.f126 0 2 qyj:=by
 intro σ k r h;unfold qyj at h;split at h
 ·obtain⟨hc,j⟩:=qaa h;cases qa3 hc;rw[qab] at j;apply it5 j
  ·intro n;kernel_rfl
  ·rfl
 ·cases h
def xbnc(m:Nat)(a:Int)(p:Int)(b:Int)(l:LC):OO:=let x1:=IntKind.i64.wrap (p - a);let x2:=IntKind.i64.wrap (b - p);shut (qor (fun y3 y4 y5 y6=>let x7:=IntKind.i64.wrap (y4 - y5);cond (rows3 y3 y6&&swOk y3 x7 y4 y5) (let r8:=swpC y6 x7 y4 y5;zR [] [some ⟨.gen 3 r8,false⟩]) none) FUEL) m p x1 x2 l
abbrev xbif:=Nat->Int->Int->Int->LC->OO
abbrev xbig:=Nat->Nat->Int->Int->Int->LC->OO
abbrev xbih:=Nat->Nat->Int->Int->LC->OO
abbrev xbii:=Nat->Int->Int->Int->Int->Int->Int->LC->OO
def qp2(rk:Nat)(again:xbif)(k0:Nat->Int->Int->LC->OO)(v1:Nat)(v2 v3 v4:Int)(v5:LC):OO:=cond (decide (v3<v4)) (let x2:=IntKind.i64.wrap (v3+v4);let x3:=IntKind.u64.wrap x2;let x4:=Int.fdiv x3 (2 ^ 1);let x5:=IntKind.i64.wrap x4;idxK x5 v1 fun _=>Option.bind (v5[(0+(Int.toNat x5))]?) fun(e6:CV)=>let e7:=(cell1 e6).headD .nili;let e8:=(cell1 e6).tail.headD .nili;let e9:=(cell1 e6).tail.tail.headD .nili;cond (qbo .u32 e7&&(qc6 3 e8&&(qbo .u8 e9&&true))) (let l12:=qba e9;idxK v2 v1 fun _=>Option.bind (v5[(0+(Int.toNat v2))]?) fun(e13:CV)=>let e14:=(cell1 e13).headD .nili;let e15:=(cell1 e13).tail.headD .nili;let e16:=(cell1 e13).tail.tail.headD .nili;cond (qbo .u32 e14&&(qc6 3 e15&&(qbo .u8 e16&&true))) (let l19:=qba e16;cond (qad l12&&qad l19) (let r20:=qbh l12 l19;cond (decide (r20<0)) (let x21:=IntKind.i64.wrap (x5+1);again v1 v2 x21 v4 v5) (again v1 v2 v3 x5 v5)) none) none) none) (k0 v1 v2 v3 v5)
def qln(rk:Nat)(k0:Nat->Int->Int->LC->OO):xbig:=qd4 (fun a=>qp2 rk a k0) (fun _ _ _ _ _=>none)
def qp3(rk:Nat)(again:Nat->Int->Int->LC->OO)(k0:LC->OO)(v1:Nat)(v2 v3:Int)(v4:LC):OO:=let x6:=IntKind.i64.wrap (v2 - 1);cond (decide (v3<x6)) (let x7:=IntKind.i64.wrap (v3+1);let x8:=IntKind.i64.wrap (v3+1);idxK x8 v1 fun _=>Option.bind (v4[(0+(Int.toNat x8))]?) fun(e9:CV)=>let e10:=(cell1 e9).headD .nili;let e11:=(cell1 e9).tail.headD .nili;let e12:=(cell1 e9).tail.tail.headD .nili;cond (qbo .u32 e10&&(qc6 3 e11&&(qbo .u8 e12&&true))) (let l13:=qba e10;let l14:=qc5 e11;let l15:=qba e12;idxK v3 v1 fun _=>Option.bind (v4[(0+(Int.toNat v3))]?) fun(e16:CV)=>let e17:=(cell1 e16).headD .nili;let e18:=(cell1 e16).tail.headD .nili;let e19:=(cell1 e16).tail.tail.headD .nili;cond (qbo .u32 e17&&(qc6 3 e18&&(qbo .u8 e19&&true))) (let l20:=qba e17;let l21:=qc5 e18;let l22:=qba e19;idxK v3 v1 fun _=>let l23:=v4.set (0+(Int.toNat v3)) (.agg [.sli .u32 l13,.slg 3 l14,.sli .u8 l15]);idxK x7 v1 fun _=>let l24:=l23.set (0+(Int.toNat x7)) (.agg [.sli .u32 l20,.slg 3 l21,.sli .u8 l22]);let x25:=IntKind.i64.wrap (v3+1);again v1 v2 x25 l24) none) none) (k0 v4)
def qlo(rk:Nat)(k0:LC->OO):xbih:=qd4 (fun a=>qp3 rk a k0) (fun _ _ _ _=>none)
def qmy(rk:Nat)(again:xbif)(k0:Nat->Int->Int->LC->OO)(v1:Nat)(v2 v3 v4:Int)(v5:LC):OO:=cond (decide (v3<v4)) (let x8:=IntKind.i64.wrap (v3+v4);let x9:=IntKind.u64.wrap x8;let x10:=Int.fdiv x9 (2 ^ 1);let x11:=IntKind.i64.wrap x10;idxK v2 v1 fun _=>Option.bind (v5[(0+(Int.toNat v2))]?) fun(e12:CV)=>let e13:=(cell1 e12).headD .nili;let e14:=(cell1 e12).tail.headD .nili;let e15:=(cell1 e12).tail.tail.headD .nili;cond (qbo .u32 e13&&(qc6 3 e14&&(qbo .u8 e15&&true))) (let l18:=qba e15;idxK x11 v1 fun _=>Option.bind (v5[(0+(Int.toNat x11))]?) fun(e19:CV)=>let e20:=(cell1 e19).headD .nili;let e21:=(cell1 e19).tail.headD .nili;let e22:=(cell1 e19).tail.tail.headD .nili;cond (qbo .u32 e20&&(qc6 3 e21&&(qbo .u8 e22&&true))) (let l25:=qba e22;cond (qad l18&&qad l25) (let r26:=qbh l18 l25;cond (!(decide (r26<0))) (let x27:=IntKind.i64.wrap (x11+1);again v1 v2 x27 v4 v5) (again v1 v2 v3 x11 v5)) none) none) none) (k0 v1 v2 v3 v5)
def qih(rk:Nat)(k0:Nat->Int->Int->LC->OO):xbig:=qd4 (fun a=>qmy rk a k0) (fun _ _ _ _ _=>none)
def qmz(rk:Nat)(again:Nat->Int->Int->LC->OO)(k0:LC->OO)(v1:Nat)(v2 v3:Int)(v4:LC):OO:=cond (decide (v2<v3)) (let x12:=IntKind.i64.wrap (v3 - 1);let x13:=IntKind.i64.wrap (v3 - 1);idxK x13 v1 fun _=>Option.bind (v4[(0+(Int.toNat x13))]?) fun(e14:CV)=>let e15:=(cell1 e14).headD .nili;let e16:=(cell1 e14).tail.headD .nili;let e17:=(cell1 e14).tail.tail.headD .nili;cond (qbo .u32 e15&&(qc6 3 e16&&(qbo .u8 e17&&true))) (let l18:=qba e15;let l19:=qc5 e16;let l20:=qba e17;idxK v3 v1 fun _=>Option.bind (v4[(0+(Int.toNat v3))]?) fun(e21:CV)=>let e22:=(cell1 e21).headD .nili;let e23:=(cell1 e21).tail.headD .nili;let e24:=(cell1 e21).tail.tail.headD .nili;cond (qbo .u32 e22&&(qc6 3 e23&&(qbo .u8 e24&&true))) (let l25:=qba e22;let l26:=qc5 e23;let l27:=qba e24;idxK v3 v1 fun _=>let l28:=v4.set (0+(Int.toNat v3)) (.agg [.sli .u32 l18,.slg 3 l19,.sli .u8 l20]);idxK x12 v1 fun _=>let l29:=l28.set (0+(Int.toNat x12)) (.agg [.sli .u32 l25,.slg 3 l26,.sli .u8 l27]);let x30:=IntKind.i64.wrap (v3 - 1);again v1 v2 x30 l29) none) none) (k0 v4)
def qii(rk:Nat)(k0:LC->OO):xbih:=qd4 (fun a=>qmz rk a k0) (fun _ _ _ _=>none)
def qm0(rk:Nat)(again:Nat->Int->Int->Int->Int->Int->Int->Int->Int->LC->OO)(k0:xbii)(v1:Nat)(v2 v3 v4 v5 v6 v7 v8 v9:Int)(v10:LC):OO:=cond (decide (v7<v8)) (let x20:=IntKind.i64.wrap (v7+v8);let x21:=IntKind.u64.wrap x20;let x22:=Int.fdiv x21 (2 ^ 1);let x23:=IntKind.i64.wrap x22;let x24:=IntKind.i64.wrap (v9 - x23);idxK x24 v1 fun _=>Option.bind (v10[(0+(Int.toNat x24))]?) fun(e25:CV)=>let e26:=(cell1 e25).headD .nili;let e27:=(cell1 e25).tail.headD .nili;let e28:=(cell1 e25).tail.tail.headD .nili;cond (qbo .u32 e26&&(qc6 3 e27&&(qbo .u8 e28&&true))) (let l31:=qba e28;idxK x23 v1 fun _=>Option.bind (v10[(0+(Int.toNat x23))]?) fun(e32:CV)=>let e33:=(cell1 e32).headD .nili;let e34:=(cell1 e32).tail.headD .nili;let e35:=(cell1 e32).tail.tail.headD .nili;cond (qbo .u32 e33&&(qc6 3 e34&&(qbo .u8 e35&&true))) (let l38:=qba e35;cond (qad l31&&qad l38) (let r39:=qbh l31 l38;cond (!(decide (r39<0))) (let x40:=IntKind.i64.wrap (x23+1);again v1 v2 v3 v4 v5 v6 x40 v8 v9 v10) (again v1 v2 v3 v4 v5 v6 v7 x23 v9 v10)) none) none) none) (k0 v1 v2 v3 v4 v5 v6 v7 v10)
def qij(rk:Nat)(k0:xbii):Nat->Nat->Int->Int->Int->Int->Int->Int->Int->Int->LC->OO:=qd4 (fun a=>qm0 rk a k0) (fun _ _ _ _ _ _ _ _ _ _=>none)
def qyv(rk:Nat):St->(KT)->OO:=fun σ k=>match σ with|⟨[(q1,.ref q2 q3 v1 true q4),(q5,.cl (.int .i64 v2)),(q6,.cl (.fn (.func q7) [] [])),(q8,.cl (.int .i64 v3)),(q9,.cl (.int .i64 v4))],[(q10,⟨.gen q11 v5,false⟩)]⟩=>cond (eqL [q1,q2,q3,q4,q5,q6,q7,q8,q9,q10,q11] [0,0,0,3,1,4,62,10,11,0,3]) (shut (qln rk (fun y1 y2 y3 y4=>k (.exit 0) ⟨[(0,.ref 0 0 y1 true 3),(1,zvi y2),(10,zvi y3)],[(0,⟨.gen 3 y4,false⟩)]⟩) FUEL) v1 v2 v3 v4 v5) none|_=>none
def qyx(rk:Nat):St->(KT)->OO:=fun σ k=>match σ with|⟨[(q1,.ref q2 q3 v1 true q4),(q5,.cl (.int .i64 v2)),(q6,.cl (.int .i64 v3))],[(q7,⟨.gen q8 v4,false⟩)]⟩=>cond (eqL [q1,q2,q3,q4,q5,q6,q7,q8] [0,0,0,3,10,13,0,3]) (shut (qlo rk (fun y1=>k (.exit 2) ⟨[],[(0,⟨.gen 3 y1,false⟩)]⟩) FUEL) v1 v2 v3 v4) none|_=>none
def qtf(rk:Nat):St->(KT)->OO:=fun σ k=>match σ with|⟨[(q1,.ref q2 q3 v1 true q4),(q5,.cl (.int .i64 v2)),(q6,.cl (.fn (.func q7) [] [])),(q8,.cl (.int .i64 v3)),(q9,.cl (.int .i64 v4))],[(q10,⟨.gen q11 v5,false⟩)]⟩=>cond (eqL [q1,q2,q3,q4,q5,q6,q7,q8,q9,q10,q11] [0,0,0,3,2,4,62,14,15,0,3]) (shut (qih rk (fun y1 y2 y3 y4=>k (.exit 4) ⟨[(0,.ref 0 0 y1 true 3),(2,zvi y2),(14,zvi y3)],[(0,⟨.gen 3 y4,false⟩)]⟩) FUEL) v1 v2 v3 v4 v5) none|_=>none
def qtg(rk:Nat):St->(KT)->OO:=fun σ k=>match σ with|⟨[(q1,.ref q2 q3 v1 true q4),(q5,.cl (.int .i64 v2)),(q6,.cl (.int .i64 v3))],[(q7,⟨.gen q8 v4,false⟩)]⟩=>cond (eqL [q1,q2,q3,q4,q5,q6,q7,q8] [0,0,0,3,14,17,0,3]) (shut (qii rk (fun y1=>k (.exit 6) ⟨[],[(0,⟨.gen 3 y1,false⟩)]⟩) FUEL) v1 v2 v3 v4) none|_=>none
def qth(rk:Nat):St->(KT)->OO:=fun σ k=>match σ with|⟨[(q1,.ref q2 q3 v1 true q4),(q5,.cl (.int .i64 v2)),(q6,.cl (.int .i64 v3)),(q7,.cl (.int .i64 v4)),(q8,.cl (.fn (.func q9) [] [])),(q10,.cl (.int .i64 v5)),(q11,.cl (.int .i64 v6)),(q12,.cl (.int .i64 v7)),(q13,.cl (.int .i64 v8)),(q14,.cl (.int .i64 v9))],[(q15,⟨.gen q16 v10,false⟩)]⟩=>cond (eqL [q1,q2,q3,q4,q5,q6,q7,q8,q9,q10,q11,q12,q13,q14,q15,q16] [0,0,0,3,1,2,3,4,62,18,19,20,21,22,0,3]) (shut (qij rk (fun y1 y2 y3 y4 y5 y6 y7 y8=>k (.exit 8) ⟨[(0,.ref 0 0 y1 true 3),(1,zvi y2),(2,zvi y3),(3,zvi y4),(4,.cl (.fn (.func 62) [] [])),(18,zvi y5),(19,zvi y6),(20,zvi y7)],[(0,⟨.gen 3 y8,false⟩)]⟩) FUEL) v1 v2 v3 v4 v5 v6 v7 v8 v9 v10) none|_=>none
def qhz(rk:Nat)(k0:LC->OO)(v1:Nat)(v2 v3 v4 v5 v6 v7 v8:Int)(v9:LC):OO:=let x19:=IntKind.i64.wrap (v6 - 1);shut (qij rk (fun y20 y21 y22 y23 y24 y25 y26 y27=>let x28:=IntKind.i64.wrap (y25 - y26);cond (decide (y26<y22)) (cond (decide (y22<x28)) (cond (rows3 y20 y27&&qdk y20 y26 y22 x28) (let r29:=rotC y27 y26 y22 x28;cond (decide (y21<y26)) (cond (decide (y26<y24)) (cond (rows3 y20 r29&&(qdk y20 y21 y26 y24&&(half3 r29 y21 y26 y24&&decide ((y24 - y21).toNat<rk)))) (let r30:=sym3 r29 y21 y26 y24;cond (decide (y24<x28)) (cond (decide (x28<y23)) (cond (rows3 y20 r30&&(qdk y20 y24 x28 y23&&(half3 r30 y24 x28 y23&&decide ((y23 - y24).toNat<rk)))) (let r31:=sym3 r30 y24 x28 y23;k0 r31) none) (k0 r30)) (k0 r30)) none) (cond (decide (y24<x28)) (cond (decide (x28<y23)) (cond (rows3 y20 r29&&(qdk y20 y24 x28 y23&&(half3 r29 y24 x28 y23&&decide ((y23 - y24).toNat<rk)))) (let r32:=sym3 r29 y24 x28 y23;k0 r32) none) (k0 r29)) (k0 r29))) (cond (decide (y24<x28)) (cond (decide (x28<y23)) (cond (rows3 y20 r29&&(qdk y20 y24 x28 y23&&(half3 r29 y24 x28 y23&&decide ((y23 - y24).toNat<rk)))) (let r33:=sym3 r29 y24 x28 y23;k0 r33) none) (k0 r29)) (k0 r29))) none) (cond (decide (y21<y26)) (cond (decide (y26<y24)) (cond (rows3 y20 y27&&(qdk y20 y21 y26 y24&&(half3 y27 y21 y26 y24&&decide ((y24 - y21).toNat<rk)))) (let r34:=sym3 y27 y21 y26 y24;cond (decide (y24<x28)) (cond (decide (x28<y23)) (cond (rows3 y20 r34&&(qdk y20 y24 x28 y23&&(half3 r34 y24 x28 y23&&decide ((y23 - y24).toNat<rk)))) (let r35:=sym3 r34 y24 x28 y23;k0 r35) none) (k0 r34)) (k0 r34)) none) (cond (decide (y24<x28)) (cond (decide (x28<y23)) (cond (rows3 y20 y27&&(qdk y20 y24 x28 y23&&(half3 y27 y24 x28 y23&&decide ((y23 - y24).toNat<rk)))) (let r36:=sym3 y27 y24 x28 y23;k0 r36) none) (k0 y27)) (k0 y27))) (cond (decide (y24<x28)) (cond (decide (x28<y23)) (cond (rows3 y20 y27&&(qdk y20 y24 x28 y23&&(half3 y27 y24 x28 y23&&decide ((y23 - y24).toNat<rk)))) (let r37:=sym3 y27 y24 x28 y23;k0 r37) none) (k0 y27)) (k0 y27)))) (cond (decide (y21<y26)) (cond (decide (y26<y24)) (cond (rows3 y20 y27&&(qdk y20 y21 y26 y24&&(half3 y27 y21 y26 y24&&decide ((y24 - y21).toNat<rk)))) (let r38:=sym3 y27 y21 y26 y24;cond (decide (y24<x28)) (cond (decide (x28<y23)) (cond (rows3 y20 r38&&(qdk y20 y24 x28 y23&&(half3 r38 y24 x28 y23&&decide ((y23 - y24).toNat<rk)))) (let r39:=sym3 r38 y24 x28 y23;k0 r39) none) (k0 r38)) (k0 r38)) none) (cond (decide (y24<x28)) (cond (decide (x28<y23)) (cond (rows3 y20 y27&&(qdk y20 y24 x28 y23&&(half3 y27 y24 x28 y23&&decide ((y23 - y24).toNat<rk)))) (let r40:=sym3 y27 y24 x28 y23;k0 r40) none) (k0 y27)) (k0 y27))) (cond (decide (y24<x28)) (cond (decide (x28<y23)) (cond (rows3 y20 y27&&(qdk y20 y24 x28 y23&&(half3 y27 y24 x28 y23&&decide ((y23 - y24).toNat<rk)))) (let r41:=sym3 y27 y24 x28 y23;k0 r41) none) (k0 y27)) (k0 y27)))) FUEL) v1 v2 v3 v4 v5 v6 v7 v8 x19 v9
def qsy(rk:Nat):St->(KT)->OO:=fun σ k=>match σ with|⟨[(q1,.ref q2 q3 v1 true q4),(q5,.cl (.int .i64 v2)),(q6,.cl (.int .i64 v3)),(q7,.cl (.int .i64 v4)),(q8,.cl (.fn (.func q9) [] [])),(q10,.cl (.int .i64 v5)),(q11,.cl (.int .i64 v6)),(q12,.cl (.int .i64 v7)),(q13,.cl (.int .i64 v8))],[(q14,⟨.gen q15 v9,false⟩)]⟩=>cond (eqL [q1,q2,q3,q4,q5,q6,q7,q8,q9,q10,q11,q12,q13,q14,q15] [0,0,0,3,1,2,3,4,62,18,19,20,21,0,3]) (shut (qhz rk (fun y1=>k .normal ⟨[],[(0,⟨.gen 3 y1,false⟩)]⟩)) v1 v2 v3 v4 v5 v6 v7 v8 v9) none|_=>none
def ETSym3(rk:Nat):Env:= {
 orc:=fun g=>cond (Nat.beq g 62) ((kT KTCmp3)) (cond (Nat.beq g 109) STSym3 (cond (Nat.beq g 126) ((kT KTRot3)) (fun _ _=>Tree.fail)))
 pre:=fun g=>cond (Nat.beq g 62) ((kP KTCmp3)) (cond (Nat.beq g 109) (qu2 (rk)) (cond (Nat.beq g 126) ((kP KTRot3)) (fun _ _=>true)))
 byref:=fun g=>cond (Nat.beq g 109) ([0]) (cond (Nat.beq g 126) ([0]) ([]))
 live:=fun r=>cond (Nat.beq r 3) ([0,1,4,10,11]) (cond (Nat.beq r 9) ([0,10,13]) (cond (Nat.beq r 15) ([0,2,4,14,15]) (cond (Nat.beq r 21) ([0,14,17]) (cond (Nat.beq r 32) ([0,1,2,3,4,18,19,20,21]) (cond (Nat.beq r 33) ([0,1,2,3,4,18,19,20,21,22]) ([]))))))
 glob:=qa9
 nt:=220
 lp:=fun r=>cond (Nat.beq r 3) (some (qyv rk)) (cond (Nat.beq r 9) (some (qyx rk)) (cond (Nat.beq r 15) (some (qtf rk)) (cond (Nat.beq r 21) (some (qtg rk)) (cond (Nat.beq r 33) (some (qth rk)) (none)))))
 xl:=fun r=>cond (Nat.beq r 0) (some []) (cond (Nat.beq r 1) (some [0,1,10]) (cond (Nat.beq r 3) (some []) (cond (Nat.beq r 5) (some [0,2,14]) (cond (Nat.beq r 7) (some []) (cond (Nat.beq r 9) (some [0,1,2,3,4,18,19,20]) (cond (Nat.beq r 1032) (some []) (none)))))))
 jn:=fun r=>cond (Nat.beq r 32) (some (qsy rk)) (none)
}
theorem q4g(rk:Nat):LpT Tryz.prog (ETSym3 rk) Tryz.f109 0 3 (qyv rk):=by
 intro σ k r h;unfold qyv at h;split at h
 ·obtain⟨hc,j⟩:=qaa h;cases qa3 hc;rw[qab] at j;apply it5 j
  ·intro n;kernel_rfl
  ·rfl
 ·cases h
theorem q4h(rk:Nat):LpT Tryz.prog (ETSym3 rk) Tryz.f109 1 9 (qyx rk):=by
 intro σ k r h;unfold qyx at h;split at h
 ·obtain⟨hc,j⟩:=qaa h;cases qa3 hc;rw[qab] at j;apply it4 j
  ·intro n;kernel_rfl
  ·rfl
 ·cases h
theorem qyt(rk:Nat):LpT Tryz.prog (ETSym3 rk) Tryz.f109 2 15 (qtf rk):=by
 intro σ k r h;unfold qtf at h;split at h
 ·obtain⟨hc,j⟩:=qaa h;cases qa3 hc;rw[qab] at j;apply it5 j
  ·intro n;kernel_rfl
  ·rfl
 ·cases h
theorem qyu(rk:Nat):LpT Tryz.prog (ETSym3 rk) Tryz.f109 3 21 (qtg rk):=by
 intro σ k r h;unfold qtg at h;split at h
 ·obtain⟨hc,j⟩:=qaa h;cases qa3 hc;rw[qab] at j;apply it4 j
  ·intro n;kernel_rfl
  ·rfl
 ·cases h
theorem qyw(rk:Nat):LpT Tryz.prog (ETSym3 rk) Tryz.f109 4 33 (qth rk):=by
 intro σ k r h;unfold qth at h;split at h
 ·obtain⟨hc,j⟩:=qaa h;cases qa3 hc;rw[qab] at j;apply it10 j
  ·intro n;kernel_rfl
  ·rfl
 ·cases h
theorem qxx(rk:Nat):JnOk Tryz.prog (ETSym3 rk) 40 (nthc (ETSym3 rk) Tryz.f109 5) 32 (qsy rk):=by
 intro σ k r h;unfold qsy at h;split at h
 ·obtain⟨hc,j⟩:=qaa h;cases qa3 hc;rw[qab] at j;exact zdr (by kernel_rfl) j
 ·cases h
theorem q9d(rk:Nat): ∀c,Tryz.f109.body=some c->qbj Tryz.prog (ETSym3 rk) 40 c:=lsB (ids:=[(true,3),(true,9),(true,15),(true,21),(true,33),(false,32)]) (by kernel_rfl) ⟨⟨_,rfl,q4g rk⟩,⟨_,rfl,q4h rk⟩,⟨_,rfl,qyt rk⟩,⟨_,rfl,qyu rk⟩,⟨_,rfl,qyw rk⟩,⟨_,rfl,qxx rk⟩,trivial⟩
def xbjh(rk:Nat)(m:Nat)(a:Int)(p:Int)(b:Int)(l:LC):OO:=let x1:=IntKind.i64.wrap (p - a);cond (decide (x1=1)) (shut (qln rk (fun y2 y3 y4 y5=>shut (qlo rk (fun y6=>zR [] [some ⟨.gen 3 y6,false⟩]) FUEL) y2 y4 y3 y5) FUEL) m a p b l) (let x7:=IntKind.i64.wrap (b - p);cond (decide (x7=1)) (shut (qih rk (fun y8 y9 y10 y11=>shut (qii rk (fun y12=>zR [] [some ⟨.gen 3 y12,false⟩]) FUEL) y8 y10 y9 y11) FUEL) m p a p l) (let x13:=IntKind.i64.wrap (a+b);let x14:=IntKind.u64.wrap x13;let x15:=Int.fdiv x14 (2 ^ 1);let x16:=IntKind.i64.wrap x15;let x17:=IntKind.i64.wrap (x16+p);cond (decide (x16<p)) (let x18:=IntKind.i64.wrap (x17 - b);shut (qhz rk (fun y19=>zR [] [some ⟨.gen 3 y19,false⟩])) m a p b x16 x17 x18 x16 l) (shut (qhz rk (fun y20=>zR [] [some ⟨.gen 3 y20,false⟩])) m a p b x16 x17 a p l)))
theorem xbc8(rk:Nat)(m:Nat)(a:Int)(p:Int)(b:Int)(l:LC):qn6 Tryz.prog (ETSym3 rk) 40 false Tryz.f109 [.ref 0 0 m true 3,.cl (.int .i64 a),.cl (.int .i64 p),.cl (.int .i64 b),.cl (.fn (.func 62) [] [])] [⟨.gen 3 l,false⟩]=xbjh rk m a p b l:=by kernel_rfl
def qpw(again:Nat->Int->Int->Int->Int->LC->OO)(k0:Nat->Int->Int->Int->LC->OO)(v1:Nat)(v2 v3 v4 v5:Int)(v6:LC):OO:=cond (decide (v2<v5)) (idxK v5 v1 fun _=>Option.bind (v6[(0+(Int.toNat v5))]?) fun(e2:CV)=>let e3:=(cell1 e2).headD .nili;let e4:=(cell1 e2).tail.headD .nili;let e5:=(cell1 e2).tail.tail.headD .nili;cond (qbo .u32 e3&&(qc6 3 e4&&(qbo .u8 e5&&true))) (let l8:=qba e5;let x9:=IntKind.i64.wrap (v5 - 1);idxK x9 v1 fun _=>Option.bind (v6[(0+(Int.toNat x9))]?) fun(e10:CV)=>let e11:=(cell1 e10).headD .nili;let e12:=(cell1 e10).tail.headD .nili;let e13:=(cell1 e10).tail.tail.headD .nili;cond (qbo .u32 e11&&(qc6 3 e12&&(qbo .u8 e13&&true))) (let l16:=qba e13;cond (qad l8&&qad l16) (let r17:=qbh l8 l16;cond (decide (r17<0)) (let x18:=IntKind.i64.wrap (v5 - 1);let x19:=IntKind.i64.wrap (v5 - 1);idxK x19 v1 fun _=>Option.bind (v6[(0+(Int.toNat x19))]?) fun(e20:CV)=>let e21:=(cell1 e20).headD .nili;let e22:=(cell1 e20).tail.headD .nili;let e23:=(cell1 e20).tail.tail.headD .nili;cond (qbo .u32 e21&&(qc6 3 e22&&(qbo .u8 e23&&true))) (let l24:=qba e21;let l25:=qc5 e22;let l26:=qba e23;idxK v5 v1 fun _=>Option.bind (v6[(0+(Int.toNat v5))]?) fun(e27:CV)=>let e28:=(cell1 e27).headD .nili;let e29:=(cell1 e27).tail.headD .nili;let e30:=(cell1 e27).tail.tail.headD .nili;cond (qbo .u32 e28&&(qc6 3 e29&&(qbo .u8 e30&&true))) (let l31:=qba e28;let l32:=qc5 e29;let l33:=qba e30;idxK v5 v1 fun _=>let l34:=v6.set (0+(Int.toNat v5)) (.agg [.sli .u32 l24,.slg 3 l25,.sli .u8 l26]);idxK x18 v1 fun _=>let l35:=l34.set (0+(Int.toNat x18)) (.agg [.sli .u32 l31,.slg 3 l32,.sli .u8 l33]);let x36:=IntKind.i64.wrap (v5 - 1);again v1 v2 v3 v4 x36 l35) none) none) (k0 v1 v2 v3 v4 v6)) none) none) none) (k0 v1 v2 v3 v4 v6)
def qlf(k0:Nat->Int->Int->Int->LC->OO):Nat->Nat->Int->Int->Int->Int->LC->OO:=qd4 (fun a=>qpw a k0) (fun _ _ _ _ _ _=>none)
def qib(again:Nat->Int->Int->Int->LC->OO)(k0:LC->OO)(v1:Nat)(v2 v3 v4:Int)(v5:LC):OO:=cond (decide (v4<v3)) (shut (qlf (fun y2 y3 y4 y5 y6=>let x7:=IntKind.i64.wrap (y5+1);again y2 y3 y4 x7 y6) FUEL) v1 v2 v3 v4 v4 v5) (k0 v5)
def qjn(k0:LC->OO):Nat->Nat->Int->Int->Int->LC->OO:=qd4 (fun a=>qib a k0) (fun _ _ _ _ _=>none)
def qye:St->(KT)->OO:=fun σ k=>match σ with|⟨[(q1,.ref q2 q3 v1 true q4),(q5,.cl (.int .i64 v2)),(q6,.cl (.int .i64 v3)),(q7,.cl (.fn (.func q8) [] [])),(q9,.cl (.int .i64 v4)),(q10,.cl (.int .i64 v5))],[(q11,⟨.gen q12 v6,false⟩)]⟩=>cond (eqL [q1,q2,q3,q4,q5,q6,q7,q8,q9,q10,q11,q12] [0,0,0,3,1,2,3,62,8,9,0,3]) (shut (qlf (fun y1 y2 y3 y4 y5=>k (.exit 2) ⟨[(0,.ref 0 0 y1 true 3),(1,zvi y2),(2,zvi y3),(3,.cl (.fn (.func 62) [] [])),(8,zvi y4)],[(0,⟨.gen 3 y5,false⟩)]⟩) FUEL) v1 v2 v3 v4 v5 v6) none|_=>none
def qyd:St->(KT)->OO:=fun σ k=>match σ with|⟨[(q1,.ref q2 q3 v1 true q4),(q5,.cl (.int .i64 v2)),(q6,.cl (.int .i64 v3)),(q7,.cl (.fn (.func q8) [] [])),(q9,.cl (.int .i64 v4))],[(q10,⟨.gen q11 v5,false⟩)]⟩=>cond (eqL [q1,q2,q3,q4,q5,q6,q7,q8,q9,q10,q11] [0,0,0,3,1,2,3,62,8,0,3]) (shut (qjn (fun y1=>k (.exit 0) ⟨[],[(0,⟨.gen 3 y1,false⟩)]⟩) FUEL) v1 v2 v3 v4 v5) none|_=>none
def ETIns3:Env:= {mkE BTIns3 qa9 53 with live:=lk [] [(1,[0,1,2,3,8]),(4,[0,1,2,3,8,9])],lp:=lk none [(1,some qyd),(4,some qye)],xl:=lk none [(0,some []),(1,some []),(3,some [0,1,2,3,8])]}
theorem q33:LpT Tryz.prog (ETIns3) Tryz.f108 0 4 qye:=by
 intro σ k r h;unfold qye at h;split at h
 ·obtain⟨hc,j⟩:=qaa h;cases qa3 hc;rw[qab] at j;apply it6 j
  ·intro n;kernel_rfl
  ·rfl
 ·cases h
theorem q32:LpT Tryz.prog (ETIns3) Tryz.f108 1 1 qyd:=by
 intro σ k r h;unfold qyd at h;split at h
 ·obtain⟨hc,j⟩:=qaa h;cases qa3 hc;rw[qab] at j;apply it5 j
  ·intro n;kernel_rfl
  ·rfl
 ·cases h
def xbm7(m:Nat)(a:Int)(b:Int)(l:LC):OO:=let x1:=IntKind.i64.wrap (a+1);shut (qjn (fun y2=>zR [] [some ⟨.gen 3 y2,false⟩]) FUEL) m a b x1 l
def qid(again:Nat->Int->Int->Int->LC->OO)(k0:Nat->Int->Int->LC->OO)(v1:Nat)(v2 v3 v4:Int)(v5:LC):OO:=cond (decide (v4<=v2)) (cond (rows3 v1 v5&&decide (0<=v3/\v3<=v4/\v4<=(v1:Int))) (let r1:=ins3 v5 v3 v4;let x2:=IntKind.i64.wrap (v4+20);again v1 v2 v4 x2 r1) none) (k0 v1 v2 v3 v5)
def qlh(k0:Nat->Int->Int->LC->OO):Nat->Nat->Int->Int->Int->LC->OO:=qd4 (fun a=>qid a k0) (fun _ _ _ _ _=>none)
def qie(again:Nat->Int->Int->Int->Int->LC->OO)(k0:Nat->Int->Int->Int->LC->OO)(v1:Nat)(v2 v3 v4 v5:Int)(v6:LC):OO:=cond (decide (v5<=v2)) (let x7:=IntKind.i64.wrap (v4+v3);cond (rows3 v1 v6&&(qdk v1 v4 x7 v5&&half3 v6 v4 x7 v5)) (let r8:=sym3 v6 v4 x7 v5;let x9:=IntKind.i64.wrap ((2:Int)*v3);let x10:=IntKind.i64.wrap (v5+x9);again v1 v2 v3 v5 x10 r8) none) (k0 v1 v2 v3 v4 v6)
def qli(k0:Nat->Int->Int->Int->LC->OO):Nat->Nat->Int->Int->Int->Int->LC->OO:=qd4 (fun a=>qie a k0) (fun _ _ _ _ _ _=>none)
def qp0(again:Nat->Int->Int->LC->OO)(k0:LC->OO)(v1:Nat)(v2 v3:Int)(v4:LC):OO:=cond (decide (v3<v2)) (let x6:=IntKind.i64.wrap ((2:Int)*v3);shut (qli (fun y7 y8 y9 y10 y11=>let x12:=IntKind.i64.wrap (y10+y9);cond (decide (x12<y8)) (cond (rows3 y7 y11&&(qdk y7 y10 x12 y8&&half3 y11 y10 x12 y8)) (let r13:=sym3 y11 y10 x12 y8;let x14:=IntKind.i64.wrap (y9*2);again y7 y8 x14 r13) none) (let x15:=IntKind.i64.wrap (y9*2);again y7 y8 x15 y11)) FUEL) v1 v2 v3 0 x6 v4) (k0 v4)
def qg2(k0:LC->OO):Nat->Nat->Int->Int->LC->OO:=qd4 (fun a=>qp0 a k0) (fun _ _ _ _=>none)
def qyl:St->(KT)->OO:=fun σ k=>match σ with|⟨[(q1,.ref q2 q3 v1 true q4),(q5,.cl (.int .i64 v2)),(q6,.cl (.fn (.func q7) [] [])),(q8,.cl (.int .i64 q9)),(q10,.cl (.int .i64 v3)),(q11,.cl (.int .i64 v4))],[(q12,⟨.gen q13 v5,false⟩)]⟩=>cond (eqL [q1,q2,q3,q4,q5,q6,q7,q8,q10,q11,q12,q13] [0,0,0,3,1,2,62,6,7,8,0,3]&&decide (q9=20)) (shut (qlh (fun y1 y2 y3 y4=>k (.exit 0) ⟨[(0,.ref 0 0 y1 true 3),(1,zvi y2),(2,.cl (.fn (.func 62) [] [])),(6,zvi 20),(7,zvi y3)],[(0,⟨.gen 3 y4,false⟩)]⟩) FUEL) v1 v2 v3 v4 v5) none|_=>none
def qyn:St->(KT)->OO:=fun σ k=>match σ with|⟨[(q1,.ref q2 q3 v1 true q4),(q5,.cl (.int .i64 v2)),(q6,.cl (.fn (.func q7) [] [])),(q8,.cl (.int .i64 v3)),(q9,.cl (.int .i64 v4)),(q10,.cl (.int .i64 v5))],[(q11,⟨.gen q12 v6,false⟩)]⟩=>cond (eqL [q1,q2,q3,q4,q5,q6,q7,q8,q9,q10,q11,q12] [0,0,0,3,1,2,62,6,7,8,0,3]) (shut (qli (fun y1 y2 y3 y4 y5=>k (.exit 4) ⟨[(0,.ref 0 0 y1 true 3),(1,zvi y2),(2,.cl (.fn (.func 62) [] [])),(6,zvi y3),(7,zvi y4)],[(0,⟨.gen 3 y5,false⟩)]⟩) FUEL) v1 v2 v3 v4 v5 v6) none|_=>none
def qym:St->(KT)->OO:=fun σ k=>match σ with|⟨[(q1,.ref q2 q3 v1 true q4),(q5,.cl (.int .i64 v2)),(q6,.cl (.fn (.func q7) [] [])),(q8,.cl (.int .i64 v3))],[(q9,⟨.gen q10 v4,false⟩)]⟩=>cond (eqL [q1,q2,q3,q4,q5,q6,q7,q8,q9,q10] [0,0,0,3,1,2,62,6,0,3]) (shut (qg2 (fun y1=>k (.exit 2) ⟨[],[(0,⟨.gen 3 y1,false⟩)]⟩) FUEL) v1 v2 v3 v4) none|_=>none
def ETSta3:Env:= {mkE BTSta3 qa9 63 with byref:=lk [] [(108,[0]),(109,[0])],live:=lk [] [(2,[0,1,2,6,7,8]),(7,[0,1,2,6]),(9,[0,1,2,6,7,8])],lp:=lk none [(2,some qyl),(7,some qym),(9,some qyn)],xl:=lk none [(0,some []),(1,some [0,1,2,6,7]),(3,some []),(5,some [0,1,2,6,7])]}
theorem q4a:LpT Tryz.prog (ETSta3) Tryz.f86 0 2 qyl:=by
 intro σ k r h;unfold qyl at h;split at h
 ·obtain⟨hc,j⟩:=qaa h;simp only[zab,qj8,decide_eq_true_eq,zaq] at hc;obtain⟨hc,rfl⟩:=hc;cases qa3 hc;rw[qab] at j;apply it5 j
  ·intro n;kernel_rfl
  ·rfl
 ·cases h
theorem q4c:LpT Tryz.prog (ETSta3) Tryz.f86 1 9 qyn:=by
 intro σ k r h;unfold qyn at h;split at h
 ·obtain⟨hc,j⟩:=qaa h;cases qa3 hc;rw[qab] at j;apply it6 j
  ·intro n;kernel_rfl
  ·rfl
 ·cases h
theorem q4b:LpT Tryz.prog (ETSta3) Tryz.f86 2 7 qym:=by
 intro σ k r h;unfold qym at h;split at h
 ·obtain⟨hc,j⟩:=qaa h;cases qa3 hc;rw[qab] at j;apply it4 j
  ·intro n;kernel_rfl
  ·rfl
 ·cases h
def xbng(m:Nat)(n:Int)(l:LC):OO:=shut (qlh (fun y1 y2 y3 y4=>cond (rows3 y1 y4&&decide (0<=y3/\y3<=y2/\y2<=(y1:Int))) (let r5:=ins3 y4 y3 y2;shut (qg2 (fun y6=>zR [] [some ⟨.gen 3 y6,false⟩]) FUEL) y1 y2 20 r5) none) FUEL) m n 0 20 l
def ETSort3:Env:= {mkE BTSort3 qa9 9 with byref:=lk [] [(86,[0])],xl:=lk none [(0,some [])]}
def xbne(m:Nat)(l:LC):OO:=cond (rows3 m l&&decide ((m:Int)=(m:Int))) (let r1:=srt3 l;zR [] [some ⟨.gen 3 r1,false⟩]) none
def ETClone:Env:= {mkE BTClone qa9 8 with xl:=lk none [(0,some [2])]}
def xbf7(o:LI):OO:=cond (Nat.beq o.length 0) (xbi0 (zR [.cl (.sli .u32 [])] []) (let l1:=[]++o;rmK l1.length 4<| zR [.cl (.sli .u32 l1)] [])) (let l2:=[]++o;rmK l2.length 4<| zR [.cl (.sli .u32 l2)] [])
def ETTw1:Env:= {mkE BTTw1 qa9 9 with xl:=lk none [(0,some [3])]}
def xbv9(o:LI)(k:LC)(p:LI)(q:LC):OO:=cond (qks p) (let r1:=qa6 p o;zR [zvb r1] [some ⟨.var [.cl (.sli .u32 p),zvg q],false⟩]) none
def ETOn1:Env:= {mkE BTOn1 qa9 8 with xl:=lk none [(0,some [3])]}
def xbv7(o:LI)(k:LC)(p:LI):OO:=cond (qks o) (let r1:=qa6 o p;zR [zvb r1] [some ⟨.var [.cl (.sli .u32 p)],false⟩]) none
def quh(again:LC->Int->Int->LI->LC->OO)(k0:Int->LI->LC->OO)(k1:LI->LC->OO)(v1:LC)(v2 v3:Int)(v4:LI)(v5:LC):OO:=cond (decide (v3<v2)) (getK v1 v3 fun e1=>let e2:=(cell1 e1).headD .nili;let e3:=(cell1 e1).tail.headD .nili;cond (qbo .u32 e2&&(qc6 3 e3&&true)) (let l4:=qba e2;cond (qks v4) (let r6:=qa6 v4 l4;cond (r6) (k0 v3 v4 v5) (let x7:=IntKind.i64.wrap (v3+1);again v1 v2 x7 v4 v5)) none) none) (k1 v4 v5)
def qug(k0:Int->LI->LC->OO)(k1:LI->LC->OO):Nat->LC->Int->Int->LI->LC->OO:=qd4 (fun a=>quh a k0 k1) (fun _ _ _ _ _=>none)
def qmv(again:LC->Int->Int->LI->OO)(k0:Int->LI->OO)(k1:LI->OO)(v1:LC)(v2 v3:Int)(v4:LI):OO:=cond (decide (v3<v2)) (getK v1 v3 fun e1=>let e2:=(cell1 e1).headD .nili;let e3:=(cell1 e1).tail.headD .nili;cond (qbo .u32 e2&&(qc6 3 e3&&true)) (let l4:=qba e2;cond (qks l4) (let r6:=qa6 l4 v4;cond (r6) (k0 v3 v4) (let x7:=IntKind.i64.wrap (v3+1);again v1 v2 x7 v4)) none) none) (k1 v4)
def qle(k0:Int->LI->OO)(k1:LI->OO):Nat->LC->Int->Int->LI->OO:=qd4 (fun a=>qmv a k0 k1) (fun _ _ _ _=>none)
def q6i:St->(KT)->OO:=fun σ k=>match σ with|⟨[(q1,.cl (.slg q2 v1)),(q3,.fn (.func q4) [] [.ptr q5 q6 q7]),(q8,.cl (.int .i64 v2)),(q9,.cl (.int .i64 v3))],[(q10,⟨.var [.cl (.sli .u32 v4),.cl (.slg q11 v5)],false⟩)]⟩=>cond (eqL [q1,q2,q3,q4,q5,q6,q7,q8,q9,q10,q11] [0,2,1,55,0,0,0,7,8,0,3]) (shut (qug (fun y1 y2 y3=>k .ret ⟨[(4,zvi y1)],[(0,⟨.var [.cl (.sli .u32 y2),zvg y3],false⟩)]⟩) (fun y1 y2=>k (.exit 0) ⟨[],[(0,⟨.var [.cl (.sli .u32 y1),zvg y2],false⟩)]⟩) FUEL) v1 v2 v3 v4 v5) none|⟨[(q1,.cl (.slg q2 v1)),(q3,.fn (.func q4) [] [.ptr q5 q6 q7]),(q8,.cl (.int .i64 v2)),(q9,.cl (.int .i64 v3))],[(q10,⟨.var [.cl (.sli .u32 v4)],false⟩)]⟩=>cond (eqL [q1,q2,q3,q4,q5,q6,q7,q8,q9,q10] [0,2,1,49,0,0,0,7,8,0]) (shut (qle (fun y1 y2=>k .ret ⟨[(4,zvi y1)],[(0,⟨.var [.cl (.sli .u32 y2)],false⟩)]⟩) (fun y1=>k (.exit 0) ⟨[],[(0,⟨.var [.cl (.sli .u32 y1)],false⟩)]⟩) FUEL) v1 v2 v3 v4) none|_=>none
def ETIdx:Env:= {mkE BTIdx qa9 19 with byref:=lk [] [(49,[1]),(55,[1])],live:=lk [] [(2,[0,1,7,8])],lp:=lk none [(2,some q6i)],xl:=lk none [(0,some [4]),(1,some [])]}
theorem q6j:LpT Tryz.prog (ETIdx) Tryz.f48 0 2 q6i:=by
 intro σ k r h;unfold q6i at h;split at h
 ·obtain⟨hc,j⟩:=qaa h;cases qa3 hc;rw[qab] at j;apply it5 j
  ·intro n;kernel_rfl
  ·rfl
 ·obtain⟨hc,j⟩:=qaa h;cases qa3 hc;rw[qab] at j;apply it4 j
  ·intro n;kernel_rfl
  ·rfl
 ·cases h
def xbf8(l:LC)(p:LI)(q:LC):OO:=shut (qug (fun y1 y2 y3=>zR [zvi y1] [some ⟨.var [.cl (.sli .u32 y2),zvg y3],false⟩]) (fun y4 y5=>zR [zvi (-1)] [some ⟨.var [.cl (.sli .u32 y4),zvg y5],false⟩]) FUEL) l (l.length:Int) 0 p q
def xbf9(l:LC)(p:LI):OO:=shut (qle (fun y1 y2=>zR [zvi y1] [some ⟨.var [.cl (.sli .u32 y2)],false⟩]) (fun y3=>zR [zvi (-1)] [some ⟨.var [.cl (.sli .u32 y3)],false⟩]) FUEL) l (l.length:Int) 0 p
def ETCon:Env:= {mkE BTCon qa9 9 with byref:=lk [] [(48,[1]),(55,[1])],xl:=lk none [(0,some [4])]}
def xbv5(l:LC)(p:LI)(q:LC):OO:=cond (qbl l&&qks p) (let r1:=idxA p l;zR [zvb (decide ((0:Int)<=r1))] [some ⟨.var [.cl (.sli .u32 p),zvg q],false⟩]) none
def qm4(again:LC->LC->Int->Int->OO)(k0:OO)(k1:OO)(v1 v2:LC)(v3 v4:Int):OO:=cond (decide (v4<v3)) (getK v2 v4 fun e1=>let e2:=(cell1 e1).headD .nili;let e3:=(cell1 e1).tail.headD .nili;cond (qbo .u32 e2&&(qc6 3 e3&&true)) (let l4:=qba e2;cond (decide ((0:Int)<=v4)) (cond (decide (v4<=(v1.length:Int))) (let l6:=List.take (Int.toNat v4) v1;cond (qbl l6&&qks l4) (let r7:=hasA l4 l6;cond (r7) (k0) (let x8:=IntKind.i64.wrap (v4+1);again v1 v2 v3 x8)) none) none) none) none) (k1)
def qlr(k0:OO)(k1:OO):Nat->LC->LC->Int->Int->OO:=qd4 (fun a=>qm4 a k0 k1) (fun _ _ _ _=>none)
def qtl:St->(KT)->OO:=fun σ k=>match σ with|⟨[(q1,.cl (.slg q2 v1)),(q3,.cl (.slg q4 v2)),(q5,.cl (.int .i64 v3)),(q6,.cl (.int .i64 v4))],[]⟩=>cond (eqL [q1,q2,q3,q4,q5,q6] [0,2,5,2,6,7]) (shut (qlr (k .ret ⟨[(2,zvb true)],[]⟩) (k (.exit 0) ⟨[],[]⟩) FUEL) v1 v2 v3 v4) none|_=>none
def ETTwice:Env:= {mkE BTTwice qa9 18 with byref:=lk [] [(54,[1]),(55,[1])],live:=lk [] [(2,[0,5,6,7])],lp:=lk none [(2,some qtl)],xl:=lk none [(0,some [2]),(1,some [])]}
theorem qy3:LpT Tryz.prog (ETTwice) Tryz.f29 0 2 qtl:=by
 intro σ k r h;unfold qtl at h;split at h
 ·obtain⟨hc,j⟩:=qaa h;cases qa3 hc;rw[qab] at j;apply it4 j
  ·intro n;kernel_rfl
  ·rfl
 ·cases h
def xbgc(l:LC):OO:=shut (qlr (zB true) (zB false) FUEL) l l (l.length:Int) 0
def ETOrd1:Env:= {mkE BTOrd1 qa9 5 with xl:=lk none [(0,some [2,3])]}
def xbsn(t:Int)(b:LI)(k:LC):OO:=zR [.cl (.agg [.int .i64 t,.sli .u8 b,.slg 3 k]),zvb true] []
def xbdo(again:Nat->LC->Int->Int->LC->OO)(k0:OO)(k1:Nat->LC->OO)(v1:Nat)(v2:LC)(v3 v4:Int)(v5:LC):OO:=cond (decide (v4<v3)) (getK v2 v4 fun e1=>let e2:=(cell1 e1).headD .nili;let e3:=(cell1 e1).tail.headD .nili;let e4:=(cell1 e1).tail.tail.headD .nili;cond (qiq .i64 e2&&(qbo .u8 e3&&(qc6 3 e4&&true))) (let i5:=qgo e2;let l6:=qba e3;let l7:=qc5 e4;let r8:=true;cond (isS [.int .i64 i5,.sli .u8 l6,.slg 3 l7]) (let r9:=(qa2 [.int .i64 i5,.sli .u8 l6,.slg 3 l7]).1;let r10:=(qa2 [.int .i64 i5,.sli .u8 l6,.slg 3 l7]).2;cond (!r8) (k0) (cond (!decide (r10=0)) (k0) (let l11:=v5++([.agg [.int .i64 i5,.sli .u8 l6,.slg 3 l7,.sli .u8 r9]]);rmK l11.length 80<| let x12:=IntKind.i64.wrap (v4+1);again l11.length v2 v3 x12 l11))) none) none) (k1 v1 v5)
def quj(k0:OO)(k1:Nat->LC->OO):Nat->Nat->LC->Int->Int->LC->OO:=qd4 (fun a=>xbdo a k0 k1) (fun _ _ _ _ _=>none)
def q6m:St->(KT)->OO:=fun σ k=>match σ with|⟨[(q1,.cl (.fn (.func q2) [] [])),(q3,.ref q4 q5 v1 true q6),(q7,.cl (.slg q8 v2)),(q9,.cl (.int .i64 v3)),(q10,.cl (.int .i64 v4))],[(q11,⟨.gen q12 v5,false⟩)]⟩=>cond (eqL [q1,q2,q3,q4,q5,q6,q7,q8,q9,q10,q11,q12] [1,57,6,79,0,4,16,3,17,18,79,4]) (shut (quj (k .ret ⟨[(4,.ref 68 0 0 true 4),(5,zvb false)],[(68,⟨.gen 4 [],false⟩)]⟩) (fun y1 y2=>k (.exit 0) ⟨[(6,.ref 79 0 y1 true 4)],[(79,⟨.gen 4 y2,false⟩)]⟩) FUEL) v1 v2 v3 v4 v5) none|_=>none
def xbu5:Env:= {mkE xbr3 qa9 49 with byref:=lk [] [(84,[0])],live:=lk [] [(3,[1,6,16,17,18])],ren:=lk [] [(3,[(108,79)])],lp:=lk none [(3,some q6m)],xl:=lk none [(0,some [4,5]),(1,some [6])]}
theorem q6n:LpT Tryz.prog (xbu5) Tryz.f56 0 3 q6m:=by
 intro σ k r h;unfold q6m at h;split at h
 ·obtain⟨hc,j⟩:=qaa h;cases qa3 hc;rw[qab] at j;apply it5 j
  ·intro n;kernel_rfl
  ·rfl
 ·cases h
def xbvg(l:LC):OO:=cond (decide ((0:Int)<=(l.length:Int))) (cond (decide ((l.length:Int)*80<=LIM)) (cond (decide ((l.length:Int)<=LIM)) (shut (quj (zR [.cl (.slg 4 []),zvb false] []) (fun y1 y2=>cond (rows4 y1 y2) (let r3:=srt4 y2;zR [.cl (.slg 4 r3),zvb true] []) none) FUEL) 0 l (l.length:Int) 0 []) none) none) none
def xbdr(again:Nat->LC->Int->Int->LC->OO)(k0:Nat->LC->OO)(v1:Nat)(v2:LC)(v3 v4:Int)(v5:LC):OO:=cond (decide (v4<v3)) (getK v2 v4 fun e1=>let e2:=(cell1 e1).headD .nili;let e3:=(cell1 e1).tail.headD .nili;let e4:=(cell1 e1).tail.tail.headD .nili;let e5:=(cell1 e1).tail.tail.tail.headD .nili;cond (qiq .i64 e2&&(qbo .u8 e3&&(qc6 3 e4&&(qbo .u8 e5&&true)))) (let i6:=qgo e2;let l7:=qba e3;let l8:=qc5 e4;idxK v4 v1 fun _=>let l10:=v5.set (0+(Int.toNat v4)) (.agg [.int .i64 i6,.sli .u8 l7,.slg 3 l8]);let x11:=IntKind.i64.wrap (v4+1);again v1 v2 v3 x11 l10) none) (k0 v1 v5)
def qz2(k0:Nat->LC->OO):Nat->Nat->LC->Int->Int->LC->OO:=qd4 (fun a=>xbdr a k0) (fun _ _ _ _ _=>none)
def q6s:St->(KT)->OO:=fun σ k=>match σ with|⟨[(q1,.ref q2 q3 v1 true q4),(q5,.cl (.slg q6 v2)),(q7,.cl (.int .i64 v3)),(q8,.cl (.int .i64 v4))],[(q9,⟨.gen q10 v5,false⟩)]⟩=>cond (eqL [q1,q2,q3,q4,q5,q6,q7,q8,q9,q10] [3,72,0,3,9,4,10,11,72,3]) (shut (qz2 (fun y1 y2=>k (.exit 0) ⟨[(3,.ref 72 0 y1 true 3)],[(72,⟨.gen 3 y2,false⟩)]⟩) FUEL) v1 v2 v3 v4 v5) none|_=>none
def xbu7:Env:= {mkE xbr5 qa9 23 with live:=lk [] [(3,[3,9,10,11])],lp:=lk none [(3,some q6s)],xl:=lk none [(0,some [2]),(1,some [3])]}
theorem q6t:LpT Tryz.prog (xbu7) Tryz.f59 0 3 q6s:=by
 intro σ k r h;unfold q6s at h;split at h
 ·obtain⟨hc,j⟩:=qaa h;cases qa3 hc;rw[qab] at j;apply it5 j
  ·intro n;kernel_rfl
  ·rfl
 ·cases h
def xbvm(l:LC):OO:=cond (decide ((0:Int)<=(l.length:Int))) (cond (decide ((l.length:Int)<=(l.length:Int))) (cond (decide ((l.length:Int)*56<=LIM)) (cond (decide ((l.length:Int)<=LIM)) (shut (qz2 (fun y1 y2=>zR [zvg y2] []) FUEL) (Int.toNat (l.length:Int)) l (l.length:Int) 0 (List.replicate (Int.toNat (l.length:Int)) (.agg [.int .i64 0,.sli .u8 [],.slg 3 []]))) none) none) none) none
def xbdq(again:Nat->LC->Int->Int->LC->OO)(k0:Nat->LC->OO)(v1:Nat)(v2:LC)(v3 v4:Int)(v5:LC):OO:=cond (decide (v4<v3)) (getK v2 v4 fun e1=>let e2:=(cell1 e1).headD .nili;let e3:=(cell1 e1).tail.headD .nili;let e4:=(cell1 e1).tail.tail.headD .nili;cond (qbo .u32 e2&&(qc6 3 e3&&(qbo .u8 e4&&true))) (let l5:=qba e2;let l6:=qc5 e3;idxK v4 v1 fun _=>let l8:=v5.set (0+(Int.toNat v4)) (.agg [.sli .u32 l5,.slg 3 l6]);let x9:=IntKind.i64.wrap (v4+1);again v1 v2 v3 x9 l8) none) (k0 v1 v5)
def qz1(k0:Nat->LC->OO):Nat->Nat->LC->Int->Int->LC->OO:=qd4 (fun a=>xbdq a k0) (fun _ _ _ _ _=>none)
def q6q:St->(KT)->OO:=fun σ k=>match σ with|⟨[(q1,.ref q2 q3 v1 true q4),(q5,.cl (.slg q6 v2)),(q7,.cl (.int .i64 v3)),(q8,.cl (.int .i64 v4))],[(q9,⟨.gen q10 v5,false⟩)]⟩=>cond (eqL [q1,q2,q3,q4,q5,q6,q7,q8,q9,q10] [3,72,0,2,9,3,10,11,72,2]) (shut (qz1 (fun y1 y2=>k (.exit 0) ⟨[(3,.ref 72 0 y1 true 2)],[(72,⟨.gen 2 y2,false⟩)]⟩) FUEL) v1 v2 v3 v4 v5) none|_=>none
def xbu6:Env:= {mkE xbr4 qa9 23 with live:=lk [] [(3,[3,9,10,11])],lp:=lk none [(3,some q6q)],xl:=lk none [(0,some [2]),(1,some [3])]}
theorem q6r:LpT Tryz.prog (xbu6) Tryz.f35 0 3 q6q:=by
 intro σ k r h;unfold q6q at h;split at h
 ·obtain⟨hc,j⟩:=qaa h;cases qa3 hc;rw[qab] at j;apply it5 j
  ·intro n;kernel_rfl
  ·rfl
 ·cases h
def xbvl(l:LC):OO:=cond (decide ((0:Int)<=(l.length:Int))) (cond (decide ((l.length:Int)<=(l.length:Int))) (cond (decide ((l.length:Int)*48<=LIM)) (cond (decide ((l.length:Int)<=LIM)) (shut (qz1 (fun y1 y2=>zR [.cl (.slg 2 y2)] []) FUEL) (Int.toNat (l.length:Int)) l (l.length:Int) 0 (List.replicate (Int.toNat (l.length:Int)) (.agg [.sli .u32 [],.slg 3 []]))) none) none) none) none
def ETOrd:Env:= {mkE BTOrd qa9 29 with xl:=lk none [(0,some [2,3])]}
def xbvi(o:LI)(k:LC):OO:=cond (xbrq k) (let r1:=(itV k).1;let r2:=(itV k).2;cond (qks o) (cond (rows4 r1.length r1) (let r3:=thV r1;cond (r2) (cond (decide ((0:Int)<(r1.length:Int))) (let r4:=qg6 o;zR [.cl (.agg [.sli .u32 o,.slg 3 r3]),zvb r4] []) (zR [.cl (.agg [.sli .u32 o,.slg 3 r3]),zvb false] [])) (zR [.cl (.agg [.sli .u32 o,.slg 3 r3]),zvb false] [])) none) none) none
def ETNd:Env:= {mkE BTNd qa9 20 with xl:=lk none [(0,some [2,3])]}
def gTNd(o:LI)(k:LC):OO:=cond (idOk o) (let r1:=(qcm 6 (qal o)).1;let r2:=(qcm 6 (qal o)).2.1;let r3:=qlu;let r4:=(qcm 6 (qal o)).2.2;cond (qf5 ([.agg [.int .i64 r1,.sli .u8 r2,.slg 3 r3],.agg [.int .i64 49,.sli .u8 [],.slg 3 k]])) (let r5:=qbn;zR [.cl (.agg [.int .i64 48,.sli .u8 r5,.slg 3 ([.agg [.int .i64 r1,.sli .u8 r2,.slg 3 r3],.agg [.int .i64 49,.sli .u8 [],.slg 3 k]])]),zvb (decide (r4=0))] []) none) none
def xbdn(again:Nat->LC->Int->Int->LC->OO)(k0:OO)(k1:Nat->LC->OO)(v1:Nat)(v2:LC)(v3 v4:Int)(v5:LC):OO:=cond (decide (v4<v3)) (getK v2 v4 fun e1=>let e2:=(cell1 e1).headD .nili;let e3:=(cell1 e1).tail.headD .nili;cond (qbo .u32 e2&&(qc6 3 e3&&true)) (let l4:=qba e2;let l5:=qc5 e3;cond (at1Ok l4 l5) (let r6:=qbn;let r7:=qq9 l4 l5;let r8:=xbl6 l4;cond (isS [.int .i64 48,.sli .u8 r6,.slg 3 r7]) (let r9:=(qa2 [.int .i64 48,.sli .u8 r6,.slg 3 r7]).1;let r10:=(qa2 [.int .i64 48,.sli .u8 r6,.slg 3 r7]).2;cond (!r8) (k0) (cond (!decide (r10=0)) (k0) (let l11:=v5++([.agg [.sli .u32 l4,.slg 3 l5,.sli .u8 r9]]);rmK l11.length 72<| let x12:=IntKind.i64.wrap (v4+1);again l11.length v2 v3 x12 l11))) none) none) none) (k1 v1 v5)
def qui(k0:OO)(k1:Nat->LC->OO):Nat->Nat->LC->Int->Int->LC->OO:=qd4 (fun a=>xbdn a k0 k1) (fun _ _ _ _ _=>none)
def q6k:St->(KT)->OO:=fun σ k=>match σ with|⟨[(q1,.cl (.fn (.func q2) [] [])),(q3,.ref q4 q5 v1 true q6),(q7,.cl (.slg q8 v2)),(q9,.cl (.int .i64 v3)),(q10,.cl (.int .i64 v4))],[(q11,⟨.gen q12 v5,false⟩)]⟩=>cond (eqL [q1,q2,q3,q4,q5,q6,q7,q8,q9,q10,q11,q12] [1,32,6,79,0,3,16,2,17,18,79,3]) (shut (qui (k .ret ⟨[(4,.ref 68 0 0 true 3),(5,zvb false)],[(68,⟨.gen 3 [],false⟩)]⟩) (fun y1 y2=>k (.exit 0) ⟨[(6,.ref 79 0 y1 true 3)],[(79,⟨.gen 3 y2,false⟩)]⟩) FUEL) v1 v2 v3 v4 v5) none|_=>none
def xbu4:Env:= {mkE xbr2 qa9 49 with byref:=lk [] [(61,[0])],live:=lk [] [(3,[1,6,16,17,18])],ren:=lk [] [(3,[(108,79)])],lp:=lk none [(3,some q6k)],xl:=lk none [(0,some [4,5]),(1,some [6])]}
theorem q6l:LpT Tryz.prog (xbu4) Tryz.f31 0 3 q6k:=by
 intro σ k r h;unfold q6k at h;split at h
 ·obtain⟨hc,j⟩:=qaa h;cases qa3 hc;rw[qab] at j;apply it5 j
  ·intro n;kernel_rfl
  ·rfl
 ·cases h
def xbvf(l:LC):OO:=cond (decide ((0:Int)<=(l.length:Int))) (cond (decide ((l.length:Int)*72<=LIM)) (cond (decide ((l.length:Int)<=LIM)) (shut (qui (zR [.cl (.slg 3 []),zvb false] []) (fun y1 y2=>cond (rows3 y1 y2) (let r3:=srt3 y2;zR [zvg r3,zvb true] []) none) FUEL) 0 l (l.length:Int) 0 []) none) none) none
def xbdl(again:LC->Int->Int->Int->Nat->LC->OO)(k0:Int->Nat->LC->OO)(v1:LC)(v2 v3 v4:Int)(v5:Nat)(v6:LC):OO:=cond (decide (v3<v2)) (getK v1 v3 fun e1=>let e2:=(cell1 e1).headD .nili;let e3:=(cell1 e1).tail.headD .nili;cond (qbo .u32 e2&&(qc6 3 e3&&true)) (let l4:=qba e2;let l5:=qc5 e3;cond (at1Ok l4 l5) (let r6:=qbn;let r7:=qq9 l4 l5;let l9:=v6++([.agg [.int .i64 48,.sli .u8 r6,.slg 3 r7]]);rmK l9.length 56<| let x10:=IntKind.i64.wrap (v3+1);again v1 v2 x10 v4 l9.length l9) none) none) (k0 v4 v5 v6)
def quf(k0:Int->Nat->LC->OO):Nat->LC->Int->Int->Int->Nat->LC->OO:=qd4 (fun a=>xbdl a k0) (fun _ _ _ _ _ _=>none)
def q6e:St->(KT)->OO:=fun σ k=>match σ with|⟨[(q1,.ptr q2 q3 q4),(q5,.ptr q6 q7 q8),(q9,.cl (.slg q10 v1)),(q11,.cl (.int .i64 v2)),(q12,.cl (.int .i64 v3))],[(q13,⟨.var [.cl (.int .i64 q14),.nils,.nils],false⟩),(q15,⟨.var [.cl (.int .i64 v4),.nils,.ref q16 q17 v5 true q18],false⟩),(q19,⟨.gen q20 v6,false⟩)]⟩=>cond (eqL [q1,q2,q3,q4,q5,q6,q7,q8,q9,q10,q11,q12,q13,q15,q16,q17,q18,q19,q20] [4,68,0,0,5,69,0,0,12,2,13,14,68,69,91,0,3,91,3]&&decide (q14=0)) (shut (quf (fun y1 y2 y3=>k (.exit 0) ⟨[(4,.ptr 68 0 0),(5,.ptr 69 0 0)],[(68,⟨.var [zvi 0,.nils,.nils],false⟩),(69,⟨.var [zvi y1,.nils,.ref 91 0 y2 true 3],false⟩),(91,⟨.gen 3 y3,false⟩)]⟩) FUEL) v1 v2 v3 v4 v5 v6) none|_=>none
def ETBox:Env:= {mkE BTBox qa9 31 with live:=lk [] [(3,[4,5,12,13,14])],vir:=lk [] [(3,[(69,2,91,.gen 3 [])])],lp:=lk none [(3,some q6e)],xl:=lk none [(0,some [4]),(1,some [4,5])]}
theorem q6f:LpT Tryz.prog (ETBox) Tryz.f34 0 3 q6e:=by
 intro σ k r h;unfold q6e at h;split at h
 ·obtain⟨hc,j⟩:=qaa h;simp only[zab,qj8,decide_eq_true_eq,zaq] at hc;obtain⟨hc,rfl⟩:=hc;cases qa3 hc;rw[qab] at j;apply it6 j
  ·intro n;kernel_rfl
  ·rfl
 ·cases h
def xbvd(l:LC)(g:Int):OO:=shut (quf (fun y1 y2 y3=>zR [.cl (.agg [.int .i64 y1,.sli .u8 [],.slg 3 y3])] []) FUEL) l (l.length:Int) 0 g 0 []
def q9f(again:Nat->LC->Int->Int->LC->OO)(k0:OO)(k1:Nat->LC->OO)(v1:Nat)(v2:LC)(v3 v4:Int)(v5:LC):OO:=cond (decide (v4<v3)) (getK v2 v4 fun e2=>let e3:=(cell1 e2).headD .nili;let e4:=(cell1 e2).tail.headD .nili;cond (qbo .u32 e3&&(qc6 3 e4&&true)) (let l5:=qba e3;let l6:=qc5 e4;cond (at1Ok l5 l6) (let r7:=ordV l6;let r8:=xbkj l5 l6;cond (!r8) (k0) (idxK v4 v1 fun _=>let l9:=v5.set (0+(Int.toNat v4)) (.agg [.sli .u32 l5,.slg 3 r7]);let x10:=IntKind.i64.wrap (v4+1);again v1 v2 v3 x10 l9)) none) none) (k1 v1 v5)
def quk(k0:OO)(k1:Nat->LC->OO):Nat->Nat->LC->Int->Int->LC->OO:=qd4 (fun a=>q9f a k0 k1) (fun _ _ _ _ _=>none)
def qyh:St->(KT)->OO:=fun σ k=>match σ with|⟨[(q1,.ref q2 q3 v1 true q4),(q5,.cl (.slg q6 v2)),(q7,.cl (.int .i64 v3)),(q8,.cl (.int .i64 v4))],[(q9,⟨.gen q10 v5,false⟩)]⟩=>cond (eqL [q1,q2,q3,q4,q5,q6,q7,q8,q9,q10] [4,89,0,2,26,2,27,28,89,2]) (shut (quk (k .ret ⟨[(2,.ref 66 0 0 true 2),(3,zvi 1)],[(66,⟨.gen 2 [],false⟩)]⟩) (fun y1 y2=>k (.exit 0) ⟨[(4,.ref 89 0 y1 true 2)],[(89,⟨.gen 2 y2,false⟩)]⟩) FUEL) v1 v2 v3 v4 v5) none|_=>none
def ETMake:Env:= {mkE BTMake qa9 61 with live:=lk [] [(5,[4,26,27,28])],lp:=lk none [(5,some qyh)],xl:=lk none [(0,some [2,3]),(1,some [4])]}
theorem q36:LpT Tryz.prog (ETMake) Tryz.f8 0 5 qyh:=by
 intro σ k r h;unfold qyh at h;split at h
 ·obtain⟨hc,j⟩:=qaa h;cases qa3 hc;rw[qab] at j;apply it5 j
  ·intro n;kernel_rfl
  ·rfl
 ·cases h
def xbm9(l:LC):OO:=cond (decide ((l.length:Int)<1)) (zR [.cl (.slg 2 []),zvi 1] []) (cond (decide ((20:Int)<(l.length:Int))) (zR [.cl (.slg 2 []),zvi 1] []) (cond (qbl l) (let r1:=twoA l;cond (r1) (zR [.cl (.slg 2 []),zvi 1] []) (cond (decide ((0:Int)<=(l.length:Int))) (cond (decide ((l.length:Int)<=(l.length:Int))) (cond (decide ((l.length:Int)*48<=LIM)) (cond (decide ((l.length:Int)<=LIM)) (shut (quk (zR [.cl (.slg 2 []),zvi 1] []) (fun y2 y3=>cond (qbl y3) (let r4:=(itA y3).1;let r5:=(itA y3).2;cond (!r5) (zR [.cl (.slg 2 []),zvi 1] []) (cond (rows3 r4.length r4) (let r6:=thA r4;cond (qbl r6) (let r7:=qbn;let r8:=xbiv r6;cond (isS [.int .i64 49,.sli .u8 r7,.slg 3 r8]) (let r9:=qun [.int .i64 49,.sli .u8 r7,.slg 3 r8];cond (!r9) (zR [.cl (.slg 2 []),zvi 1] []) (cond (rows3 r4.length r4) (let r10:=thA r4;zR [.cl (.slg 2 r10),zvi 0] []) none)) none) none) none)) none) FUEL) (Int.toNat (l.length:Int)) l (l.length:Int) 0 (List.replicate (Int.toNat (l.length:Int)) (.agg [.sli .u32 [],.slg 3 []]))) none) none) none) none)) none))
def ETSa1:Env:= {mkE BTSa1 qa9 17 with xl:=lk none [(0,some [4])]}
def xbvk(o:LI)(k:LC)(p:LI)(q:LC):OO:=cond (qks o) (let r1:=qa6 o p;cond (r1) (cond (isNs k&&isNs q) (let r2:=qqc k q;zB r2) none) (zB false)) none
def xbdm(again:LC->LC->Int->Int->OO)(k0:OO)(k1:OO)(v1 v2:LC)(v3 v4:Int):OO:=cond (decide (v4<v3)) (getK v2 v4 fun e1=>let e2:=(cell1 e1).headD .nili;let e3:=(cell1 e1).tail.headD .nili;cond (qbo .u32 e2&&(qc6 3 e3&&true)) (let l4:=qba e2;let l5:=qc5 e3;getK v1 v4 fun e6=>let e7:=(cell1 e6).headD .nili;let e8:=(cell1 e6).tail.headD .nili;cond (qbo .u32 e7&&(qc6 3 e8&&true)) (let l9:=qba e7;let l10:=qc5 e8;cond (at1Ok l4 l5&&at1Ok l9 l10) (let r11:=qhm [mkA l4 l5] [mkA l9 l10];cond (!r11) (k0) (let x12:=IntKind.i64.wrap (v4+1);again v1 v2 v3 x12)) none) none) none) (k1)
def qzz(k0:OO)(k1:OO):Nat->LC->LC->Int->Int->OO:=qd4 (fun a=>xbdm a k0 k1) (fun _ _ _ _=>none)
def q6g:St->(KT)->OO:=fun σ k=>match σ with|⟨[(q1,.cl (.slg q2 v1)),(q3,.cl (.fn (.func q4) [] [])),(q5,.cl (.slg q6 v2)),(q7,.cl (.int .i64 v3)),(q8,.cl (.int .i64 v4))],[]⟩=>cond (eqL [q1,q2,q3,q4,q5,q6,q7,q8] [1,2,2,40,15,2,16,17]) (shut (qzz (k .ret ⟨[(6,zvb false)],[]⟩) (k (.exit 0) ⟨[],[]⟩) FUEL) v1 v2 v3 v4) none|_=>none
def xbu3:Env:= {mkE xbr1 qa9 32 with live:=lk [] [(4,[1,2,15,16,17])],lp:=lk none [(4,some q6g)],xl:=lk none [(0,some [6]),(1,some [])]}
theorem q6h:LpT Tryz.prog (xbu3) Tryz.f39 0 4 q6g:=by
 intro σ k r h;unfold q6g at h;split at h
 ·obtain⟨hc,j⟩:=qaa h;cases qa3 hc;rw[qab] at j;apply it4 j
  ·intro n;kernel_rfl
  ·rfl
 ·cases h
def xbve(a:LC)(b:LC):OO:=cond (!decide ((a.length:Int)=(b.length:Int))) (zB false) (shut (qzz (zB false) (zB true) FUEL) b a (a.length:Int) 0)
def ETSame:Env:= {mkE BTSame qa9 8 with xl:=lk none [(0,some [4])]}
def xbso(a:LC)(b:LC):OO:=cond (qbl a&&qbl b) (let r1:=qhm a b;zB r1) none
def ETFit:Env:= {mkE BTFit qa9 17 with xl:=lk none [(0,some [2])]}
def xbv6(l:LC):OO:=cond (qbl l) (let r1:=(qfn l).1;let r2:=(qfn l).2;cond (decide (r2=0)) (cond (qbl l&&qbl r1) (let r3:=qhm l r1;zB r3) none) (zB false)) none
def ETTag:Env:= {mkE BTTag qa9 13 with xl:=lk none [(0,some [2])]}
def xbv8(g:Int):OO:=cond (decide (g=49)) (zB true) (cond (decide ((160:Int)<=g)) (zB (decide (g<=190))) (zB false))
def ETNode:Env:= {mkE BTNode qa9 19 with xl:=lk none [(0,some [4,5])]}
def xbsm(l:LC)(g:Int):OO:=let r1:=xbiw g;cond (!r1) (zR [.cl (.agg [.int .i64 0,.sli .u8 [],.slg 3 []]),zvi 4] []) (cond (qbl l) (let r2:=qzd l;cond (!r2) (zR [.cl (.agg [.int .i64 0,.sli .u8 [],.slg 3 []]),zvi 1] []) (cond (qbl l) (let r3:=qbn;let r4:=xbiv l;zR [.cl (.agg [.int .i64 g,.sli .u8 r3,.slg 3 r4]),zvi 0] []) none)) none)
def ETAttr:Env:= {mkE BTAttr qa9 43 with xl:=lk none [(0,some [2,3])]}
def xbm6(t:Int)(b:LI)(k:LC):OO:=cond (qf5 k) (let r1:=(ql7 48 t b k).1;let r2:=(ql7 48 t b k).2;cond (!decide (r2=0)) (zR [.cl (.agg [.sli .u32 [],.slg 3 []]),zvb false] []) (cond (!decide ((r1.length:Int)=2)) (zR [.cl (.agg [.sli .u32 [],.slg 3 []]),zvb false] []) (cond (decide ((0:Int)<(r1.length:Int))) (Option.bind (r1[0]?) fun(e3:CV)=>let e4:=(cell1 e3).headD .nili;let e5:=(cell1 e3).tail.headD .nili;let e6:=(cell1 e3).tail.tail.headD .nili;cond (qiq .i64 e4&&(qbo .u8 e5&&(qc6 3 e6&&true))) (let i7:=qgo e4;let l8:=qba e5;let l9:=qc5 e6;cond (isS [.int .i64 i7,.sli .u8 l8,.slg 3 l9]) (let r10:=(qiz i7 l8 l9).1;let r11:=(qiz i7 l8 l9).2;cond (!decide (r11=0)) (zR [.cl (.agg [.sli .u32 [],.slg 3 []]),zvb false] []) (cond (decide ((1:Int)<(r1.length:Int))) (Option.bind (r1[1]?) fun(e12:CV)=>let e13:=(cell1 e12).headD .nili;let e14:=(cell1 e12).tail.headD .nili;let e15:=(cell1 e12).tail.tail.headD .nili;cond (qiq .i64 e13&&(qbo .u8 e14&&(qc6 3 e15&&true))) (let i16:=qgo e13;let l17:=qba e14;let l18:=qc5 e15;cond (qf5 l18) (let r19:=(ql7 49 i16 l17 l18).1;let r20:=(ql7 49 i16 l17 l18).2;zR [.cl (.agg [.sli .u32 r10,.slg 3 r19]),zvb (decide (r20=0))] []) none) none) none)) none) none) none))) none
def q9g(again:Nat->LC->Int->Int->Int->LI->LC->LC->OO)(k0:OO)(k1:Nat->Int->LI->LC->LC->OO)(v1:Nat)(v2:LC)(v3 v4 v5:Int)(v6:LI)(v7 v8:LC):OO:=cond (decide (v4<v3)) (getK v2 v4 fun e2=>let e3:=(cell1 e2).headD .nili;let e4:=(cell1 e2).tail.headD .nili;let e5:=(cell1 e2).tail.tail.headD .nili;cond (qiq .i64 e3&&(qbo .u8 e4&&(qc6 3 e5&&true))) (let i6:=qgo e3;let l7:=qba e4;let l8:=qc5 e5;cond (isS [.int .i64 i6,.sli .u8 l7,.slg 3 l8]) (let r9:=(qjw i6 l7 l8).1;let r10:=(qjw i6 l7 l8).2.1;let r11:=(qjw i6 l7 l8).2.2;cond (!r11) (k0) (let l12:=v8++([.agg [.sli .u32 r9,.slg 3 r10]]);rmK l12.length 48<| let x13:=IntKind.i64.wrap (v4+1);again l12.length v2 v3 x13 v5 v6 v7 l12)) none) none) (k1 v1 v5 v6 v7 v8)
def qoq(k0:OO)(k1:Nat->Int->LI->LC->LC->OO):Nat->Nat->LC->Int->Int->Int->LI->LC->LC->OO:=qd4 (fun a=>q9g a k0 k1) (fun _ _ _ _ _ _ _ _=>none)
def qyi:St->(KT)->OO:=fun σ k=>match σ with|⟨[(q1,.ptr q2 q3 q4),(q5,.ref q6 q7 v1 true q8),(q9,.cl (.slg q10 v2)),(q11,.cl (.int .i64 v3)),(q12,.cl (.int .i64 v4))],[(q13,⟨.var [.cl (.int .i64 v5),.cl (.sli .u8 v6),.cl (.slg q14 v7)],false⟩),(q15,⟨.gen q16 v8,false⟩)]⟩=>cond (eqL [q1,q2,q3,q4,q5,q6,q7,q8,q9,q10,q11,q12,q13,q14,q15,q16] [2,66,0,0,6,70,0,2,21,3,22,23,66,3,70,2]) (shut (qoq (k .ret ⟨[(4,.ref 68 0 0 true 2),(5,zvi 1)],[(68,⟨.gen 2 [],false⟩)]⟩) (fun y1 y2 y3 y4 y5=>k (.exit 0) ⟨[(2,.ptr 66 0 0),(6,.ref 70 0 y1 true 2)],[(66,⟨.var [zvi y2,zvl y3,zvg y4],false⟩),(70,⟨.gen 2 y5,false⟩)]⟩) FUEL) v1 v2 v3 v4 v5 v6 v7 v8) none|_=>none
def ETRead:Env:= {mkE BTRead qa9 49 with live:=lk [] [(5,[2,6,21,22,23])],ren:=lk [] [(5,[(101,70)])],lp:=lk none [(5,some qyi)],xl:=lk none [(0,some [4,5]),(1,some [2,6])]}
theorem q37:LpT Tryz.prog (ETRead) Tryz.f17 0 5 qyi:=by
 intro σ k r h;unfold qyi at h;split at h
 ·obtain⟨hc,j⟩:=qaa h;cases qa3 hc;rw[qab] at j;apply it8 j
  ·intro n;kernel_rfl
  ·rfl
 ·cases h
def xbnb(t:Int)(b:LI)(k:LC)(g:Int):OO:=let r1:=xbiw g;cond (!r1) (zR [.cl (.slg 2 []),zvi 4] []) (cond (!decide (t=g)) (zR [.cl (.slg 2 []),zvi 4] []) (shut (qoq (zR [.cl (.slg 2 []),zvi 1] []) (fun y2 y3 y4 y5 y6=>cond (decide ((0:Int)<(y4.length:Int))) (zR [.cl (.slg 2 []),zvi 1] []) (cond (qbl y6) (let r7:=qzd y6;cond (!r7) (zR [.cl (.slg 2 []),zvi 1] []) (zR [.cl (.slg 2 y6),zvi 0] [])) none)) FUEL) 0 k (k.length:Int) 0 t b k []))
def ETOne:Env:= {mkE BTOne qa9 34 with byref:=lk [] [(48,[1]),(49,[1])],xl:=lk none [(0,some [4,5])]}
def xbvh(l:LC)(o:LI):OO:=cond (qbl l) (let r1:=qzd l;cond (!r1) (zR [.cl (.agg [.int .i64 0,.sli .u8 [],.slg 3 []]),zvi 1] []) (cond (qbl l) (let r2:=idxA o l;cond (decide (r2<0)) (zR [.cl (.agg [.int .i64 0,.sli .u8 [],.slg 3 []]),zvi 18] []) (getK l r2 fun e3=>let e4:=(cell1 e3).getD 1 .nili;cond (qc6 3 e4) (let l5:=qc5 e4;cond (decide ((1:Int)<(l5.length:Int))) (zR [.cl (.agg [.int .i64 0,.sli .u8 [],.slg 3 []]),zvi 24] []) (getK l r2 fun e6=>let e7:=(cell1 e6).getD 1 .nili;cond (qc6 3 e7) (let l8:=qc5 e7;cond (decide ((0:Int)<(l8.length:Int))) (Option.bind (l8[0]?) fun(e9:CV)=>let e10:=(cell1 e9).headD .nili;let e11:=(cell1 e9).tail.headD .nili;let e12:=(cell1 e9).tail.tail.headD .nili;cond (qiq .i64 e10&&(qbo .u8 e11&&(qc6 3 e12&&true))) (let i13:=qgo e10;let l14:=qba e11;let l15:=qc5 e12;zR [.cl (.agg [.int .i64 i13,.sli .u8 l14,.slg 3 l15]),zvi 0] []) none) none) none)) none)) none)) none
def ETText:Env:= {mkE BTText qa9 18 with xl:=lk none [(0,some [2,3])]}
def xbsp(l:LC):OO:=cond (qbl l) (let r1:=(qbq l 49).1;let r2:=qbn;let r3:=(qbq l 49).2.1;let r4:=(qbq l 49).2.2;cond (!decide (r4=0)) (zR [.cl (.sli .u8 []),zvi r4] []) (cond (isS [.int .i64 r1,.sli .u8 r2,.slg 3 r3]) (let r5:=(qa2 [.int .i64 r1,.sli .u8 r2,.slg 3 r3]).1;let r6:=(qa2 [.int .i64 r1,.sli .u8 r2,.slg 3 r3]).2;zR [zvl r5,zvi r6] []) none)) none
def q9h(again:LC->LC->Int->OO)(k0:OO)(k1:OO)(v1 v2:LC)(v3:Int):OO:=cond (decide (v3<(v1.length:Int))) (getK v1 v3 fun e1=>let e2:=(cell1 e1).getD 0 .nili;cond (qbo .u32 e2) (let l3:=qba e2;getK v2 v3 fun e4=>let e5:=(cell1 e4).getD 0 .nili;cond (qbo .u32 e5) (let l6:=qba e5;cond (qks l3) (let r7:=qa6 l3 l6;cond (!r7) (k0) (getK v1 v3 fun e8=>let e9:=(cell1 e8).getD 1 .nili;cond (qc6 3 e9) (let l10:=qc5 e9;cond (qf5 l10) (let r11:=qbn;getK v2 v3 fun e12=>let e13:=(cell1 e12).getD 1 .nili;cond (qc6 3 e13) (let l14:=qc5 e13;cond (qf5 l14) (let r15:=qbn;cond (isN [.int .i64 48,.sli .u8 r11,.slg 3 l10]&&isN [.int .i64 48,.sli .u8 r15,.slg 3 l14]) (let r16:=qfr [.int .i64 48,.sli .u8 r11,.slg 3 l10] [.int .i64 48,.sli .u8 r15,.slg 3 l14];cond (!r16) (k0) (let x17:=IntKind.i64.wrap (v3+1);again v1 v2 x17)) none) none) none) none) none)) none) none) none) (k1)
def qul(k0:OO)(k1:OO):Nat->LC->LC->Int->OO:=qd4 (fun a=>q9h a k0 k1) (fun _ _ _=>none)
def qy5:St->(KT)->OO:=fun σ k=>match σ with|⟨[(q1,.cl (.slg q2 v1)),(q3,.cl (.slg q4 v2)),(q5,.cl (.int .i64 v3))],[]⟩=>cond (eqL [q1,q2,q3,q4,q5] [0,2,1,2,5]) (shut (qul (k .ret ⟨[(4,zvb false)],[]⟩) (k (.exit 0) ⟨[],[]⟩) FUEL) v1 v2 v3) none|_=>none
def EUSame:Env:= {mkE BUSame qa9 45 with live:=lk [] [(4,[0,1,5])],lp:=lk none [(4,some qy5)],xl:=lk none [(0,some [4]),(1,some [])]}
theorem q4k:LpT Tryz.prog (EUSame) Tryz.f12 0 4 qy5:=by
 intro σ k r h;unfold qy5 at h;split at h
 ·obtain⟨hc,j⟩:=qaa h;cases qa3 hc;rw[qab] at j;apply it3 j
  ·intro n;kernel_rfl
  ·rfl
 ·cases h
def xbni(a:LC)(b:LC):OO:=cond (!decide ((a.length:Int)=(b.length:Int))) (zB false) (shut (qul (zB false) (zB true) FUEL) a b 0)
def qm6(again:LC->Int->Int->Int->OO)(k0:LC->Int->Int->OO)(v1:LC)(v2 v3 v4:Int):OO:=getK v1 v3 fun e8=>let e9:=(cell1 e8).getD 1 .nili;cond (qc6 3 e9) (let l10:=qc5 e9;cond (decide (v4<(l10.length:Int))) (cond (decide ((0:Int)<=v2)) (getK v1 v3 fun e11=>let e12:=(cell1 e11).getD 1 .nili;cond (qc6 3 e12) (let l13:=qc5 e12;getK l13 v4 fun e14=>let e15:=(cell1 e14).headD .nili;let e16:=(cell1 e14).tail.headD .nili;let e17:=(cell1 e14).tail.tail.headD .nili;cond (qiq .i64 e15&&(qbo .u8 e16&&(qc6 3 e17&&true))) (let i18:=qgo e15;let l19:=qba e16;let l20:=qc5 e17;cond (isT [.int .i64 i18,.sli .u8 l19,.slg 3 l20]&&qoa v2) (let r21:=qby [.int .i64 i18,.sli .u8 l19,.slg 3 l20] v2;let x22:=IntKind.i64.wrap (v4+1);again v1 r21 v3 x22) none) none) none) (k0 v1 v2 v3)) (k0 v1 v2 v3)) none
def qgb(k0:LC->Int->Int->OO):Nat->LC->Int->Int->Int->OO:=qd4 (fun a=>qm6 a k0) (fun _ _ _ _=>none)
def qm5(again:LC->Int->Int->OO)(k0:Int->OO)(v1:LC)(v2 v3:Int):OO:=cond (decide (v3<(v1.length:Int))) (cond (decide ((0:Int)<=v2)) (getK v1 v3 fun e3=>let e4:=(cell1 e3).getD 0 .nili;cond (qbo .u32 e4) (let l5:=qba e4;let x6:=cond (decide ((1000:Int)<(l5.length:Int))) 1000 (l5.length:Int);let x7:=IntKind.i64.wrap (v2 - x6);shut (qgb (fun y8 y9 y10=>let x11:=IntKind.i64.wrap (y10+1);again y8 y9 x11) FUEL) v1 x7 v3 0) none) (k0 v2)) (k0 v2)
def qin(k0:Int->OO):Nat->LC->Int->Int->OO:=qd4 (fun a=>qm5 a k0) (fun _ _ _=>none)
def qto:St->(KT)->OO:=fun σ k=>match σ with|⟨[(q1,.cl (.slg q2 v1)),(q3,.cl (.int .i64 v2)),(q4,.cl (.int .i64 v3)),(q5,.cl (.int .i64 v4))],[]⟩=>cond (eqL [q1,q2,q3,q4,q5] [0,2,1,5,6]) (shut (qgb (fun y1 y2 y3=>k (.exit 2) ⟨[(0,.cl (.slg 2 y1)),(1,zvi y2),(5,zvi y3)],[]⟩) FUEL) v1 v2 v3 v4) none|_=>none
def qtn:St->(KT)->OO:=fun σ k=>match σ with|⟨[(q1,.cl (.slg q2 v1)),(q3,.cl (.int .i64 v2)),(q4,.cl (.int .i64 v3))],[]⟩=>cond (eqL [q1,q2,q3,q4] [0,2,1,5]) (shut (qin (fun y1=>k (.exit 0) ⟨[(1,zvi y1)],[]⟩) FUEL) v1 v2 v3) none|_=>none
def EUSmall:Env:= {mkE BUSmall qa9 56 with live:=lk [] [(3,[0,1,5]),(7,[0,1,5,6])],lp:=lk none [(3,some qtn),(7,some qto)],xl:=lk none [(0,some [4]),(1,some [1]),(3,some [0,1,5])]}
theorem qy7:LpT Tryz.prog (EUSmall) Tryz.f26 0 7 qto:=by
 intro σ k r h;unfold qto at h;split at h
 ·obtain⟨hc,j⟩:=qaa h;cases qa3 hc;rw[qab] at j;apply it4 j
  ·intro n;kernel_rfl
  ·rfl
 ·cases h
theorem qy6:LpT Tryz.prog (EUSmall) Tryz.f26 1 3 qtn:=by
 intro σ k r h;unfold qtn at h;split at h
 ·obtain⟨hc,j⟩:=qaa h;cases qa3 hc;rw[qab] at j;apply it3 j
  ·intro n;kernel_rfl
  ·rfl
 ·cases h
def xbge(l:LC)(n:Int):OO:=let x1:=cond (decide ((1000:Int)<(l.length:Int))) 1000 (l.length:Int);let x2:=IntKind.i64.wrap (n - x1);shut (qin (fun y3=>zI y3) FUEL) l x2 0
def EWASmall:Env:= {mkE BWASmall qa9 11 with xl:=lk none [(0,some [2])]}
def q8h(l:LC):OO:=cond (decide ((l.length:Int)<=25)) (cond (q4m l&&smOk l 1500) (let r1:=qrn l 1500;zB (decide ((0:Int)<=r1))) none) (zB false)
def EWAAwake:Env:= {mkE BWAAwake qa9 55 with xl:=lk none [(0,some [0])]}
def q8f:OO:=cond (idOk [1,2]) (let r1:=(qcm 6 (qal [1,2])).1;let r2:=(qcm 6 (qal [1,2])).2.1;let r3:=qlu;cond (qbl ([.agg [.sli .u32 [1,3],.slg 3 ([.agg [.int .i64 r1,.sli .u8 r2,.slg 3 r3]])]])) (let r8:=(qpb ([.agg [.sli .u32 [1,3],.slg 3 ([.agg [.int .i64 r1,.sli .u8 r2,.slg 3 r3]])]]) [1,4]).2;cond (qbl ([.agg [.sli .u32 [1,3],.slg 3 ([.agg [.int .i64 r1,.sli .u8 r2,.slg 3 r3]])]])) (let r9:=(qpb ([.agg [.sli .u32 [1,3],.slg 3 ([.agg [.int .i64 r1,.sli .u8 r2,.slg 3 r3]])]]) [1,3]).1.1;let r10:=(qpb ([.agg [.sli .u32 [1,3],.slg 3 ([.agg [.int .i64 r1,.sli .u8 r2,.slg 3 r3]])]]) [1,3]).1.2.1;let r11:=(qpb ([.agg [.sli .u32 [1,3],.slg 3 ([.agg [.int .i64 r1,.sli .u8 r2,.slg 3 r3]])]]) [1,3]).1.2.2;let r12:=(qpb ([.agg [.sli .u32 [1,3],.slg 3 ([.agg [.int .i64 r1,.sli .u8 r2,.slg 3 r3]])]]) [1,3]).2;cond (qbl []) (let r13:=qzd [];cond (!r13) (cond (qbl ([.agg [.sli .u32 [1,3],.slg 3 ([.agg [.int .i64 r1,.sli .u8 r2,.slg 3 r3]])]])) (let r14:=qzd ([.agg [.sli .u32 [1,3],.slg 3 ([.agg [.int .i64 r1,.sli .u8 r2,.slg 3 r3]])]]);cond (r14) (cond (decide (r8=18)) (cond (decide (r12=0)) (cond (isN [.int .i64 r9,.sli .u8 r10,.slg 3 r11]&&isN [.int .i64 r1,.sli .u8 r2,.slg 3 r3]) (let r15:=qfr [.int .i64 r9,.sli .u8 r10,.slg 3 r11] [.int .i64 r1,.sli .u8 r2,.slg 3 r3];cond (r15) (cond (qks [1,3]) (let r16:=qa6 [1,3] [1,4];zB (!r16)) none) (zB false)) none) (zB false)) (zB false)) (zB false)) none) (zB false)) none) none) none) none
def EWABack:Env:= {
 orc:=fun g=>cond (Nat.beq g 6) ((kT KWASmall)) (cond (Nat.beq g 7) ((kT KWAAwake)) (cond (Nat.beq g 8) ((kT KTMake)) (cond (Nat.beq g 10) ((kT KTFit)) (cond (Nat.beq g 12) ((kT KUSame)) (cond (Nat.beq g 14) SRSmall (cond (Nat.beq g 15) ((kT KTNode)) (cond (Nat.beq g 17) ((kT KTRead)) (cond (Nat.beq g 21) ((kT KTText)) (cond (Nat.beq g 23) SRSame (cond (Nat.beq g 24) ((kT KR1Same)) (cond (Nat.beq g 25) SRBytes (fun _ _=>Tree.fail))))))))))))
 pre:=fun g=>cond (Nat.beq g 6) ((kP KWASmall)) (cond (Nat.beq g 7) ((kP KWAAwake)) (cond (Nat.beq g 8) ((kP KTMake)) (cond (Nat.beq g 10) ((kP KTFit)) (cond (Nat.beq g 12) ((kP KUSame)) (cond (Nat.beq g 14) ql0 (cond (Nat.beq g 15) ((kP KTNode)) (cond (Nat.beq g 17) ((kP KTRead)) (cond (Nat.beq g 21) ((kP KTText)) (cond (Nat.beq g 23) qqi (cond (Nat.beq g 24) ((kP KR1Same)) (cond (Nat.beq g 25) qg9 (fun _ _=>true))))))))))))
 glob:=qa9
 nt:=171
 xl:=fun r=>cond (Nat.beq r 0) (some [8]) (none)
}
theorem q5g: ∀c,Tryz.f5.body=some c->qbj Tryz.prog (EWABack) 40 c:=lsB (ids:=[]) (by kernel_rfl) trivial
def xbgj(l:LC)(t:Int)(b:LI)(k:LC)(x:Int)(y:Int):OO:=cond (q4m l) (let r1:=xbl5 l;cond (!r1) (let r2:=true;zB r2) (cond (isT [.int .i64 t,.sli .u8 b,.slg 3 k]&&qoa 1500) (let r3:=qby [.int .i64 t,.sli .u8 b,.slg 3 k] 1500;cond (decide (r3<0)) (let r4:=true;zB r4) (let x5:=Int.tmod x 31;let x6:=IntKind.i64.wrap x5;let x7:=IntKind.i64.wrap ((160:Int)+x6);cond (qbl l) (let r8:=(qfn l).1;let r9:=(qfn l).2;cond (decide (r9=0)) (let l10:=[]++l;rmK l10.length 48<| let x11:=IntKind.i64.wrap y;cond (decide ((l10.length:Int)=0)) none (let x12:=Int.tmod x11 (l10.length:Int);idxK x12 l10.length fun _=>Option.bind (l10[(0+(Int.toNat x12))]?) fun(e13:CV)=>let e14:=(cell1 e13).headD .nili;let e15:=(cell1 e13).tail.headD .nili;cond (qbo .u32 e14&&(qc6 3 e15&&true)) (let l16:=qba e14;let l17:=qc5 e15;cond (decide ((0:Int)<(l10.length:Int))) (Option.bind (l10[0]?) fun(e18:CV)=>let e19:=(cell1 e18).headD .nili;let e20:=(cell1 e18).tail.headD .nili;cond (qbo .u32 e19&&(qc6 3 e20&&true)) (let l21:=qba e19;let l22:=qc5 e20;cond (decide ((0:Int)<(l10.length:Int))) (let l23:=l10.set 0 (.agg [.sli .u32 l16,.slg 3 l17]);idxK x12 l10.length fun _=>let l24:=l23.set (0+(Int.toNat x12)) (.agg [.sli .u32 l21,.slg 3 l22]);cond (qbl l24) (let r25:=(qfn l24).1;let r26:=(qfn l24).2;cond (qbl r8) (let r27:=(qbq r8 x7).1;let r28:=qbn;let r29:=(qbq r8 x7).2.1;let r30:=(qbq r8 x7).2.2;cond (ndSm r27 r28 r29) (let r31:=(qdz x7 r27 r28 r29).1;let r32:=(qdz x7 r27 r28 r29).2;cond (qbl r8) (let r33:=(qme r8).1;let r34:=(qme r8).2;cond (qbl r8) (let r35:=qzd r8;cond (!r35) (zB false) (cond (!decide (r26=0)) (zB false) (cond (qbl r8&&qbl r25) (let r36:=qhm r8 r25;cond (!r36) (zB false) (cond (!decide (r30=0)) (zB false) (cond (!decide (r32=0)) (zB false) (cond (qbl r31&&qbl r8) (let r37:=qhm r31 r8;cond (!r37) (zB false) (cond (!decide (r34=0)) (zB false) (cond (isS [.int .i64 49,.sli .u8 r28,.slg 3 r29]) (let r38:=(qa2 [.int .i64 49,.sli .u8 r28,.slg 3 r29]).1;let r39:=(qa2 [.int .i64 49,.sli .u8 r28,.slg 3 r29]).2;cond (!decide (r39=0)) (zB false) (cond (qud r38) (let r40:=qa6 r38 r33;cond (!r40) (zB false) (cond (ndSm t b k) (let r41:=(qdz t t b k).1;let r42:=(qdz t t b k).2;cond (!decide (r42=0)) (cond (decide ((r41.length:Int)=0)) (let r43:=true;zB r43) (zB false)) (cond (qbl r41) (let r44:=(qbq r41 t).1;let r45:=qbn;let r46:=(qbq r41 t).2.1;let r47:=(qbq r41 t).2.2;cond (decide (r47=0)) (cond (isN [.int .i64 r44,.sli .u8 r45,.slg 3 r46]&&isN [.int .i64 t,.sli .u8 b,.slg 3 k]) (let r48:=qfr [.int .i64 r44,.sli .u8 r45,.slg 3 r46] [.int .i64 t,.sli .u8 b,.slg 3 k];cond (r48) (cond (qbl r41) (let r49:=qzd r41;cond (r49) (let r50:=true;zB r50) (zB false)) none) (zB false)) none) (zB false)) none)) none)) none)) none))) none)))) none))) none) none) none) none) none) none) none) none) none)) (cond (ndSm t b k) (let r51:=(qdz t t b k).1;let r52:=(qdz t t b k).2;cond (!decide (r52=0)) (cond (decide ((r51.length:Int)=0)) (let r53:=true;zB r53) (zB false)) (cond (qbl r51) (let r54:=(qbq r51 t).1;let r55:=qbn;let r56:=(qbq r51 t).2.1;let r57:=(qbq r51 t).2.2;cond (decide (r57=0)) (cond (isN [.int .i64 r54,.sli .u8 r55,.slg 3 r56]&&isN [.int .i64 t,.sli .u8 b,.slg 3 k]) (let r58:=qfr [.int .i64 r54,.sli .u8 r55,.slg 3 r56] [.int .i64 t,.sli .u8 b,.slg 3 k];cond (r58) (cond (qbl r51) (let r59:=qzd r51;cond (r59) (let r60:=true;zB r60) (zB false)) none) (zB false)) none) (zB false)) none)) none)) none)) none)) none
theorem q8g(l:LC)(t:Int)(b:LI)(k:LC)(x:Int)(y:Int):qn6 Tryz.prog (EWABack) 40 false Tryz.f5 [.cl (.slg 2 l),.cl (.agg [.int .i64 t,.sli .u8 b,.slg 3 k]),.cl (.int .u8 x),.cl (.int .u8 y)] []=xbgj l t b k x y:=by kernel_rfl
abbrev xbib:=Int->Int->LI->Int->Int->Int->LI->Int->Int->Int->Int->Int->Int->Bool->LI->OO
abbrev xbic:=Int->Int->LI->Int->Int->Int->LI->Int->Int->Int->Int->Int->Int->Bool->Int->Bool->LI->OO
def qk9(l:Nat)(again:LI->OO)(k0:xbib)(k1:xbic)(k2:LI->Int->LI->OO)(v1:LI):OO:=cond (decide ((0:Int)<(v1.length:Int))) (cond (qad v1) (let r1:=(qeu v1).1;let r2:=(qeu v1).2;cond (Nat.beq l l) (yldO [.int .u32 r1,.bool (decide ((0:Int)<r2))] (k0 r1 r2 v1 (v1.length:Int) r1 r2 v1 r1 r2 r1 r2 r1 r2 (decide ((0:Int)<r2)) v1) (cond (decide (r2=0)) (k1 r1 r2 v1 (v1.length:Int) r1 r2 v1 r1 r2 r1 r2 r1 r2 (decide ((0:Int)<r2)) r2 (decide (r2=0)) v1) (cond (decide ((0:Int)<=r2)) (cond (decide (r2<=(v1.length:Int))) (let l3:=List.drop (Int.toNat r2) v1;again l3) none) none))) none) none) (k2 v1 (v1.length:Int) v1)
def qje(l:Nat)(k0:xbib)(k1:xbic)(k2:LI->Int->LI->OO):Nat->LI->OO|0=>fun _=>none|n+1=>qk9 l (qje l k0 k1 k2 n) k0 k1 k2
def qx3(l:Nat):St->(KT)->OO:=fun σ k=>match σ with|⟨[(q1,.cl (.fn (.yield q2) [] [])),(q3,.ptr q4 q5 q6)],[(q7,⟨.var [.cl (.sli .u8 v1)],false⟩)]⟩=>cond (eqL [q1,q3,q4,q5,q6,q7] [0,1,0,0,0,0]&&Nat.beq l q2) (shut (qje l (fun y1 y2 y3 y4 y5 y6 y7 y8 y9 y10 y11 y12 y13 y14 y15=>k .ret ⟨[(0,.cl (.fn (.yield l) [] [])),(1,.ptr 0 0 0),(3,.cl (.int .u32 y1)),(4,zvi y2),(5,zvl y3),(6,zvi y4),(7,zvb true),(8,.tup [.cl (.int .u32 y5),zvi y6]),(9,zvl y7),(10,.tup [.cl (.int .u32 y8),zvi y9]),(11,.cl (.int .u32 y10)),(12,zvi y11),(13,.cl (.fn (.yield l) [] [])),(14,.cl (.int .u32 y12)),(15,zvi y13),(16,zvb y14),(17,zvb false),(18,zvb true),(19,zvb true),(20,.tup []),(21,.tup []),(22,zvb true)],[(0,⟨.var [zvl y15],false⟩)]⟩) (fun y1 y2 y3 y4 y5 y6 y7 y8 y9 y10 y11 y12 y13 y14 y15 y16 y17=>k .ret ⟨[(0,.cl (.fn (.yield l) [] [])),(1,.ptr 0 0 0),(3,.cl (.int .u32 y1)),(4,zvi y2),(5,zvl y3),(6,zvi y4),(7,zvb true),(8,.tup [.cl (.int .u32 y5),zvi y6]),(9,zvl y7),(10,.tup [.cl (.int .u32 y8),zvi y9]),(11,.cl (.int .u32 y10)),(12,zvi y11),(13,.cl (.fn (.yield l) [] [])),(14,.cl (.int .u32 y12)),(15,zvi y13),(16,zvb y14),(17,zvb true),(18,zvb false),(19,zvb false),(20,zvi y15),(21,zvb y16),(22,zvb true)],[(0,⟨.var [zvl y17],false⟩)]⟩) (fun y1 y2 y3=>k (.exit 0) ⟨[(0,.cl (.fn (.yield l) [] [])),(1,.ptr 0 0 0),(5,zvl y1),(6,zvi y2),(7,zvb false)],[(0,⟨.var [zvl y3],false⟩)]⟩) FUEL) v1) none|_=>none
def EONums(l:Nat):Env:= {
 orc:=fun g=>cond (Nat.beq g 128) ((kT KONumber)) (fun _ _=>Tree.fail)
 pre:=fun g=>cond (Nat.beq g 128) ((kP KONumber)) (fun _ _=>true)
 live:=fun r=>cond (Nat.beq r 0) ([0,1]) ([])
 glob:=qa9
 nt:=26
 lp:=fun r=>cond (Nat.beq r 0) (some (qx3 l)) (none)
 rg:=false
 yn:=l
 yl:=fun r=>cond (Nat.beq r 2) (some 4) (none)
}
theorem q3z(l:Nat):LpT Tryz.prog (EONums l) Tryz.f127 0 0 (qx3 l):=by
 intro σ k r h;unfold qx3 at h;split at h
 ·obtain⟨hc,j⟩:=qaa h;simp only[zab,qj8,decide_eq_true_eq,zaq] at hc;obtain⟨hc,rfl⟩:=hc;cases qa3 hc;rw[qab] at j;apply jt1 j _ (fun a=>qk9 l a _ _ _)
  ·intro n;rfl
  ·intro n;kernel_rfl
  ·rfl
 ·cases h
theorem q9b(l:Nat): ∀c,Tryz.f127.body=some c->qbj Tryz.prog (EONums l) 40 c:=lsB (ids:=[(true,0)]) (by kernel_rfl) ⟨⟨_,rfl,q3z l⟩,trivial⟩
def xbjf(l:Nat)(b:LI):OO:=cond (Nat.beq l l) (shut (qje l (fun y1 y2 y3 y4 y5 y6 y7 y8 y9 y10 y11 y12 y13 y14 y15=>zR [] [some ⟨.var [zvl y15],false⟩]) (fun y16 y17 y18 y19 y20 y21 y22 y23 y24 y25 y26 y27 y28 y29 y30 y31 y32=>zR [] [some ⟨.var [zvl y32],false⟩]) (fun y33 y34 y35=>zR [] [some ⟨.var [zvl y35],false⟩]) FUEL) b) none
theorem xbc6(l:Nat)(b:LI):qn6 Tryz.prog (EONums l) 40 false Tryz.f127 [.cl (.fn (.yield l) [] []),.ptr 0 0 0] [⟨.var [.cl (.sli .u8 b)],false⟩]=xbjf l b:=by kernel_rfl
end
end Go.Proofs.YtoiikagnjcjccaaGreatDoorA
