/-
 What the reading of slices.Equal[apostille/api.Oid,uint32] comes to, printed by a program. Conditions: none.
-/
import Derived.Test.YtoiikagnjcjccaaGreatDoorT1
set_option linter.unusedVariables false
set_option linter.unusedSimpArgs false
set_option maxRecDepth 100000
namespace Go.Proofs.YtoiikagnjcjccaaGreatDoorA
noncomputable section
def xbdx(again:LI->LI->Int->Int->OO)(k0:OO)(k1:OO)(v1 v2:LI)(v3 v4:Int):OO:=cond (decide (v4<v3)) (getK v1 v4 fun e1=>getK v2 v4 fun e2=>cond (!decide (e1=e2)) (k0) (let x3:=IntKind.i64.wrap (v4+1);again v1 v2 v3 x3)) (k1)
def qzz(k0:OO)(k1:OO):Nat->LI->LI->Int->Int->OO:=qdm (fun a=>xbdx a k0 k1) (fun _ _ _ _=>none)
def q6s:St->(KT)->OO:=fun σ k=>match σ with|⟨[(q1,.cl (.sli .u32 v1)),(q2,.cl (.sli .u32 v2)),(q3,.cl (.int .i64 v3)),(q4,.cl (.int .i64 v4))],[]⟩=>cond (eqL [q1,q2,q3,q4] [0,1,12,13]) (shut (qzz (k .ret ⟨[(4,zvb false)],[]⟩) (k (.exit 0) ⟨[],[]⟩) FUEL) v1 v2 v3 v4) none|_=>none
def ETSEq:Env:= {mkE BTSEq qa6 26 with live:=lk [] [(4,[0,1,12,13])],lp:=lk none [(4,some q6s)],xl:=lk none [(0,some [4]),(1,some [])]}
theorem q6t:LpT Tryz.prog (ETSEq) Tryz.f70 0 4 q6s:=by
 intro σ k r h;unfold q6s at h;split at h
 ·obtain⟨hc,j⟩:=qaa h;cases qay hc;rw[qab] at j;apply it4 j
  ·intro n;kernel_rfl
  ·rfl
 ·cases h
def xbvo(a:LI)(b:LI):OO:=cond (!decide ((a.length:Int)=(b.length:Int))) (zB false) (shut (qzz (zB false) (zB true) FUEL) a b (a.length:Int) 0)
def ETOSame:Env:= {mkE BTOSame qa6 8 with xl:=lk none [(0,some [4])]}
def xbns(a:LI)(b:LI):OO:=cond (qj2 a) (let r1:=qa2 a b;zB r1) none
def qzu(k0:Int->Int->Int->Int->Int->OO)(k1:Int->Int->Int->Int->OO)(k2:Int->Int->Int->OO)(k3:Int->Int->OO)(k4:Int->OO)(v1:Int):OO:=let x1:=Int.fdiv v1 (2 ^ 28);cond (!decide (x1=0)) (let x2:=Int.fdiv v1 (2 ^ 28);let x3:=IntKind.u8.wrap x2;let x4:=IntKind.u8.wrap ((BitVec.ofInt 8 x3||| BitVec.ofInt 8 128).toNat);let x5:=Int.fdiv v1 (2 ^ 21);cond (!decide (x5=0)) (let x6:=Int.fdiv v1 (2 ^ 21);let x7:=IntKind.u8.wrap x6;let x8:=IntKind.u8.wrap ((BitVec.ofInt 8 x7||| BitVec.ofInt 8 128).toNat);let x9:=Int.fdiv v1 (2 ^ 14);cond (!decide (x9=0)) (let x10:=Int.fdiv v1 (2 ^ 14);let x11:=IntKind.u8.wrap x10;let x12:=IntKind.u8.wrap ((BitVec.ofInt 8 x11||| BitVec.ofInt 8 128).toNat);let x13:=Int.fdiv v1 (2 ^ 7);cond (!decide (x13=0)) (let x14:=Int.fdiv v1 (2 ^ 7);let x15:=IntKind.u8.wrap x14;let x16:=IntKind.u8.wrap ((BitVec.ofInt 8 x15||| BitVec.ofInt 8 128).toNat);k0 v1 x4 x8 x12 x16) (k1 v1 x4 x8 x12)) (let x17:=Int.fdiv v1 (2 ^ 7);cond (!decide (x17=0)) (let x18:=Int.fdiv v1 (2 ^ 7);let x19:=IntKind.u8.wrap x18;let x20:=IntKind.u8.wrap ((BitVec.ofInt 8 x19||| BitVec.ofInt 8 128).toNat);k1 v1 x4 x8 x20) (k2 v1 x4 x8))) (let x21:=Int.fdiv v1 (2 ^ 14);cond (!decide (x21=0)) (let x22:=Int.fdiv v1 (2 ^ 14);let x23:=IntKind.u8.wrap x22;let x24:=IntKind.u8.wrap ((BitVec.ofInt 8 x23||| BitVec.ofInt 8 128).toNat);let x25:=Int.fdiv v1 (2 ^ 7);cond (!decide (x25=0)) (let x26:=Int.fdiv v1 (2 ^ 7);let x27:=IntKind.u8.wrap x26;let x28:=IntKind.u8.wrap ((BitVec.ofInt 8 x27||| BitVec.ofInt 8 128).toNat);k1 v1 x4 x24 x28) (k2 v1 x4 x24)) (let x29:=Int.fdiv v1 (2 ^ 7);cond (!decide (x29=0)) (let x30:=Int.fdiv v1 (2 ^ 7);let x31:=IntKind.u8.wrap x30;let x32:=IntKind.u8.wrap ((BitVec.ofInt 8 x31||| BitVec.ofInt 8 128).toNat);k2 v1 x4 x32) (k3 v1 x4)))) (let x33:=Int.fdiv v1 (2 ^ 21);cond (!decide (x33=0)) (let x34:=Int.fdiv v1 (2 ^ 21);let x35:=IntKind.u8.wrap x34;let x36:=IntKind.u8.wrap ((BitVec.ofInt 8 x35||| BitVec.ofInt 8 128).toNat);let x37:=Int.fdiv v1 (2 ^ 14);cond (!decide (x37=0)) (let x38:=Int.fdiv v1 (2 ^ 14);let x39:=IntKind.u8.wrap x38;let x40:=IntKind.u8.wrap ((BitVec.ofInt 8 x39||| BitVec.ofInt 8 128).toNat);let x41:=Int.fdiv v1 (2 ^ 7);cond (!decide (x41=0)) (let x42:=Int.fdiv v1 (2 ^ 7);let x43:=IntKind.u8.wrap x42;let x44:=IntKind.u8.wrap ((BitVec.ofInt 8 x43||| BitVec.ofInt 8 128).toNat);k1 v1 x36 x40 x44) (k2 v1 x36 x40)) (let x45:=Int.fdiv v1 (2 ^ 7);cond (!decide (x45=0)) (let x46:=Int.fdiv v1 (2 ^ 7);let x47:=IntKind.u8.wrap x46;let x48:=IntKind.u8.wrap ((BitVec.ofInt 8 x47||| BitVec.ofInt 8 128).toNat);k2 v1 x36 x48) (k3 v1 x36))) (let x49:=Int.fdiv v1 (2 ^ 14);cond (!decide (x49=0)) (let x50:=Int.fdiv v1 (2 ^ 14);let x51:=IntKind.u8.wrap x50;let x52:=IntKind.u8.wrap ((BitVec.ofInt 8 x51||| BitVec.ofInt 8 128).toNat);let x53:=Int.fdiv v1 (2 ^ 7);cond (!decide (x53=0)) (let x54:=Int.fdiv v1 (2 ^ 7);let x55:=IntKind.u8.wrap x54;let x56:=IntKind.u8.wrap ((BitVec.ofInt 8 x55||| BitVec.ofInt 8 128).toNat);k2 v1 x52 x56) (k3 v1 x52)) (let x57:=Int.fdiv v1 (2 ^ 7);cond (!decide (x57=0)) (let x58:=Int.fdiv v1 (2 ^ 7);let x59:=IntKind.u8.wrap x58;let x60:=IntKind.u8.wrap ((BitVec.ofInt 8 x59||| BitVec.ofInt 8 128).toNat);k3 v1 x60) (k4 v1))))
def qpn(k0:Nat->Int->LI->OO)(k1:Nat->Int->LI->OO)(v1:Nat)(v2:Int)(v3:LI):OO:=let x1:=Int.fdiv v2 (2 ^ 28);cond (!decide (x1=0)) (let x2:=Int.fdiv v2 (2 ^ 28);let x3:=IntKind.u8.wrap x2;let x4:=IntKind.u8.wrap ((BitVec.ofInt 8 x3||| BitVec.ofInt 8 128).toNat);let l5:=v3++[x4];rmK l5.length 1<| let x6:=Int.fdiv v2 (2 ^ 21);cond (!decide (x6=0)) (let x7:=Int.fdiv v2 (2 ^ 21);let x8:=IntKind.u8.wrap x7;let x9:=IntKind.u8.wrap ((BitVec.ofInt 8 x8||| BitVec.ofInt 8 128).toNat);let l10:=l5++[x9];rmK l10.length 1<| let x11:=Int.fdiv v2 (2 ^ 14);cond (!decide (x11=0)) (let x12:=Int.fdiv v2 (2 ^ 14);let x13:=IntKind.u8.wrap x12;let x14:=IntKind.u8.wrap ((BitVec.ofInt 8 x13||| BitVec.ofInt 8 128).toNat);let l15:=l10++[x14];rmK l15.length 1<| let x16:=Int.fdiv v2 (2 ^ 7);cond (!decide (x16=0)) (let x17:=Int.fdiv v2 (2 ^ 7);let x18:=IntKind.u8.wrap x17;let x19:=IntKind.u8.wrap ((BitVec.ofInt 8 x18||| BitVec.ofInt 8 128).toNat);let l20:=l15++[x19];rmK l20.length 1<| k0 l20.length v2 l20) (k0 l15.length v2 l15)) (let x21:=Int.fdiv v2 (2 ^ 7);cond (!decide (x21=0)) (let x22:=Int.fdiv v2 (2 ^ 7);let x23:=IntKind.u8.wrap x22;let x24:=IntKind.u8.wrap ((BitVec.ofInt 8 x23||| BitVec.ofInt 8 128).toNat);let l25:=l10++[x24];rmK l25.length 1<| k0 l25.length v2 l25) (k0 l10.length v2 l10))) (let x26:=Int.fdiv v2 (2 ^ 14);cond (!decide (x26=0)) (let x27:=Int.fdiv v2 (2 ^ 14);let x28:=IntKind.u8.wrap x27;let x29:=IntKind.u8.wrap ((BitVec.ofInt 8 x28||| BitVec.ofInt 8 128).toNat);let l30:=l5++[x29];rmK l30.length 1<| let x31:=Int.fdiv v2 (2 ^ 7);cond (!decide (x31=0)) (let x32:=Int.fdiv v2 (2 ^ 7);let x33:=IntKind.u8.wrap x32;let x34:=IntKind.u8.wrap ((BitVec.ofInt 8 x33||| BitVec.ofInt 8 128).toNat);let l35:=l30++[x34];rmK l35.length 1<| k0 l35.length v2 l35) (k0 l30.length v2 l30)) (let x36:=Int.fdiv v2 (2 ^ 7);cond (!decide (x36=0)) (let x37:=Int.fdiv v2 (2 ^ 7);let x38:=IntKind.u8.wrap x37;let x39:=IntKind.u8.wrap ((BitVec.ofInt 8 x38||| BitVec.ofInt 8 128).toNat);let l40:=l5++[x39];rmK l40.length 1<| k0 l40.length v2 l40) (k0 l5.length v2 l5)))) (let x41:=Int.fdiv v2 (2 ^ 21);cond (!decide (x41=0)) (let x42:=Int.fdiv v2 (2 ^ 21);let x43:=IntKind.u8.wrap x42;let x44:=IntKind.u8.wrap ((BitVec.ofInt 8 x43||| BitVec.ofInt 8 128).toNat);let l45:=v3++[x44];rmK l45.length 1<| let x46:=Int.fdiv v2 (2 ^ 14);cond (!decide (x46=0)) (let x47:=Int.fdiv v2 (2 ^ 14);let x48:=IntKind.u8.wrap x47;let x49:=IntKind.u8.wrap ((BitVec.ofInt 8 x48||| BitVec.ofInt 8 128).toNat);let l50:=l45++[x49];rmK l50.length 1<| let x51:=Int.fdiv v2 (2 ^ 7);cond (!decide (x51=0)) (let x52:=Int.fdiv v2 (2 ^ 7);let x53:=IntKind.u8.wrap x52;let x54:=IntKind.u8.wrap ((BitVec.ofInt 8 x53||| BitVec.ofInt 8 128).toNat);let l55:=l50++[x54];rmK l55.length 1<| k0 l55.length v2 l55) (k0 l50.length v2 l50)) (let x56:=Int.fdiv v2 (2 ^ 7);cond (!decide (x56=0)) (let x57:=Int.fdiv v2 (2 ^ 7);let x58:=IntKind.u8.wrap x57;let x59:=IntKind.u8.wrap ((BitVec.ofInt 8 x58||| BitVec.ofInt 8 128).toNat);let l60:=l45++[x59];rmK l60.length 1<| k0 l60.length v2 l60) (k0 l45.length v2 l45))) (let x61:=Int.fdiv v2 (2 ^ 14);cond (!decide (x61=0)) (let x62:=Int.fdiv v2 (2 ^ 14);let x63:=IntKind.u8.wrap x62;let x64:=IntKind.u8.wrap ((BitVec.ofInt 8 x63||| BitVec.ofInt 8 128).toNat);let l65:=v3++[x64];rmK l65.length 1<| let x66:=Int.fdiv v2 (2 ^ 7);cond (!decide (x66=0)) (let x67:=Int.fdiv v2 (2 ^ 7);let x68:=IntKind.u8.wrap x67;let x69:=IntKind.u8.wrap ((BitVec.ofInt 8 x68||| BitVec.ofInt 8 128).toNat);let l70:=l65++[x69];rmK l70.length 1<| k0 l70.length v2 l70) (k0 l65.length v2 l65)) (let x71:=Int.fdiv v2 (2 ^ 7);cond (!decide (x71=0)) (let x72:=Int.fdiv v2 (2 ^ 7);let x73:=IntKind.u8.wrap x72;let x74:=IntKind.u8.wrap ((BitVec.ofInt 8 x73||| BitVec.ofInt 8 128).toNat);let l75:=v3++[x74];rmK l75.length 1<| k0 l75.length v2 l75) (k1 v1 v2 v3))))
def q6d:St->(KT)->OO:=fun σ k=>match σ with|⟨[(q1,.nils),(q2,.cl (.int .u32 v1)),(q3,.cl (.int .i64 q4))],[]⟩=>cond (eqL [q1,q2,q3] [0,1,5]&&decide (q4=28)) (shut (qzu (fun y1 y2 y3 y4 y5=>k .normal ⟨[(0,.ref 85 0 4 true 1),(1,.cl (.int .u32 y1))],[(85,⟨.ints .u8 [y2,y3,y4,y5],false⟩)]⟩) (fun y1 y2 y3 y4=>k .normal ⟨[(0,.ref 85 0 3 true 1),(1,.cl (.int .u32 y1))],[(85,⟨.ints .u8 [y2,y3,y4],false⟩)]⟩) (fun y1 y2 y3=>k .normal ⟨[(0,.ref 85 0 2 true 1),(1,.cl (.int .u32 y1))],[(85,⟨.ints .u8 [y2,y3],false⟩)]⟩) (fun y1 y2=>k .normal ⟨[(0,.ref 85 0 1 true 1),(1,.cl (.int .u32 y1))],[(85,⟨.ints .u8 [y2],false⟩)]⟩) (fun y1=>k .normal ⟨[(0,.nils),(1,.cl (.int .u32 y1))],[]⟩)) v1) none|⟨[(q1,.ref q2 q3 v1 true q4),(q5,.cl (.int .u32 v2)),(q6,.cl (.int .i64 q7))],[(q8,⟨.ints .u8 v3,false⟩)]⟩=>cond (eqL [q1,q2,q3,q4,q5,q6,q8] [0,0,0,1,1,5,0]&&decide (q7=28)) (shut (qpn (fun y1 y2 y3=>k .normal ⟨[(0,.ref 85 0 y1 true 1),(1,.cl (.int .u32 y2))],[(85,⟨.ints .u8 y3,false⟩)]⟩) (fun y1 y2 y3=>k .normal ⟨[(0,.ref 0 0 y1 true 1),(1,.cl (.int .u32 y2))],[(0,⟨.ints .u8 y3,false⟩)]⟩)) v1 v2 v3) none|_=>none
def EOPut:Env:= {mkE BOPut qa6 28 with live:=lk [] [(2,[0,1,5])],xl:=lk none [(0,some [4]),(1,some [0,1]),(1002,some [0,1])],jn:=lk none [(2,some q6d)]}
theorem q6e:JnOk Tryz.prog (EOPut) 40 (nthc (EOPut) Tryz.f110 0) 2 q6d:=by
 intro σ k r h;unfold q6d at h;split at h
 ·obtain⟨hc,j⟩:=qaa h;simp only[zab,qev,decide_eq_true_eq,zao] at hc;obtain⟨hc,rfl⟩:=hc;cases qay hc;rw[qab] at j;exact zds (by kernel_rfl) j
 ·obtain⟨hc,j⟩:=qaa h;simp only[zab,qev,decide_eq_true_eq,zao] at hc;obtain⟨hc,rfl⟩:=hc;cases qay hc;rw[qab] at j;exact zds (by kernel_rfl) j
 ·cases h
def xbf7(n:Int):OO:=shut (qzu (fun y1 y2 y3 y4 y5=>let x6:=IntKind.u8.wrap y1;let x7:=IntKind.u8.wrap ((BitVec.ofInt 8 x6&&& ~~~ BitVec.ofInt 8 128).toNat);zR [.ref 0 0 5 true 1] [some ⟨.ints .u8 [y2,y3,y4,y5,x7],false⟩]) (fun y8 y9 y10 y11=>let x12:=IntKind.u8.wrap y8;let x13:=IntKind.u8.wrap ((BitVec.ofInt 8 x12&&& ~~~ BitVec.ofInt 8 128).toNat);zR [.ref 0 0 4 true 1] [some ⟨.ints .u8 [y9,y10,y11,x13],false⟩]) (fun y14 y15 y16=>let x17:=IntKind.u8.wrap y14;let x18:=IntKind.u8.wrap ((BitVec.ofInt 8 x17&&& ~~~ BitVec.ofInt 8 128).toNat);zR [.ref 0 0 3 true 1] [some ⟨.ints .u8 [y15,y16,x18],false⟩]) (fun y19 y20=>let x21:=IntKind.u8.wrap y19;let x22:=IntKind.u8.wrap ((BitVec.ofInt 8 x21&&& ~~~ BitVec.ofInt 8 128).toNat);zR [.ref 0 0 2 true 1] [some ⟨.ints .u8 [y20,x22],false⟩]) (fun y23=>let x24:=IntKind.u8.wrap y23;let x25:=IntKind.u8.wrap ((BitVec.ofInt 8 x24&&& ~~~ BitVec.ofInt 8 128).toNat);zR [.ref 0 0 1 true 1] [some ⟨.ints .u8 [x25],false⟩])) n
def xbf8(m:Nat)(n:Int)(l:LI):OO:=shut (qpn (fun y1 y2 y3=>let x4:=IntKind.u8.wrap y2;let x5:=IntKind.u8.wrap ((BitVec.ofInt 8 x4&&& ~~~ BitVec.ofInt 8 128).toNat);let l6:=y3++[x5];rmK l6.length 1<| zR [.ref 1 0 l6.length true 1] [none,some ⟨.ints .u8 l6,false⟩]) (fun y7 y8 y9=>let x10:=IntKind.u8.wrap y8;let x11:=IntKind.u8.wrap ((BitVec.ofInt 8 x10&&& ~~~ BitVec.ofInt 8 128).toNat);let l12:=y9++[x11];rmK l12.length 1<| zR [.ref 1 0 l12.length true 1] [none,some ⟨.ints .u8 l12,false⟩])) m n l
def qh1(again:Int->Nat->LI->OO)(k0:Nat->LI->OO)(v1:Int)(v2:Nat)(v3:LI):OO:=cond (decide ((0:Int)<v1)) (let x4:=Int.tmod v1 128;let x5:=IntKind.u32.wrap ((128:Int)+x4);let x6:=IntKind.u8.wrap x5;let l7:=[x6]++v3;rmK l7.length 1<| let x8:=IntKind.u32.wrap (Int.tdiv v1 128);again x8 l7.length l7) (k0 v2 v3)
def qgx(k0:Nat->LI->OO):Nat->Int->Nat->LI->OO:=qdm (fun a=>qh1 a k0) (fun _ _ _=>none)
def ql3:St->(KT)->OO:=fun σ k=>match σ with|⟨[(q1,.cl (.int .u32 v1)),(q2,.ref q3 q4 v2 true q5)],[(q6,⟨.ints .u8 v3,false⟩)]⟩=>cond (eqL [q1,q2,q3,q4,q5,q6] [0,3,71,0,1,71]) (shut (qgx (fun y1 y2=>k (.exit 0) ⟨[(3,.ref 71 0 y1 true 1)],[(71,⟨.ints .u8 y2,false⟩)]⟩) FUEL) v1 v2 v3) none|_=>none
def ER2Groups:Env:= {mkE BR2Groups qa6 22 with live:=lk [] [(3,[0,3])],ren:=lk [] [(3,[(84,71)])],lp:=lk none [(3,some ql3)],xl:=lk none [(0,some [2]),(1,some [3])]}
theorem qsz:LpT Tryz.prog (ER2Groups) Tryz.f83 0 3 ql3:=by
 intro σ k r h;unfold ql3 at h;split at h
 ·obtain⟨hc,j⟩:=qaa h;cases qay hc;rw[qab] at j;apply it3 j
  ·intro n;kernel_rfl
  ·rfl
 ·cases h
def q1n(n:Int):OO:=let x1:=Int.tmod n 128;let x2:=IntKind.u8.wrap x1;let x3:=IntKind.u32.wrap (Int.tdiv n 128);shut (qgx (fun y4 y5=>zR [.ref 0 0 y4 true 1] [some ⟨.ints .u8 y5,false⟩]) FUEL) x3 1 [x2]
def qmo(again:Nat->LI->Int->Int->LI->OO)(k0:Nat->LI->OO)(v1:Nat)(v2:LI)(v3 v4:Int)(v5:LI):OO:=cond (decide (v4<v3)) (getK v2 v4 fun e9=>cond (u32Ok e9&&qt7 v5) (let r10:=(v5++qbd e9).length;let r11:=v5++qbd e9;let x12:=IntKind.i64.wrap (v4+1);again r10 v2 v3 x12 r11) none) (k0 v1 v5)
def qk1(k0:Nat->LI->OO):Nat->Nat->LI->Int->Int->LI->OO:=qdm (fun a=>qmo a k0) (fun _ _ _ _ _=>none)
def qsv:St->(KT)->OO:=fun σ k=>match σ with|⟨[(q1,.ref q2 q3 v1 true q4),(q5,.cl (.sli .u32 v2)),(q6,.cl (.int .i64 v3)),(q7,.cl (.int .i64 v4))],[(q8,⟨.ints .u8 v5,false⟩)]⟩=>cond (eqL [q1,q2,q3,q4,q5,q6,q7,q8] [3,81,0,1,19,20,21,81]) (shut (qk1 (fun y1 y2=>k (.exit 0) ⟨[(3,.ref 81 0 y1 true 1)],[(81,⟨.ints .u8 y2,false⟩)]⟩) FUEL) v1 v2 v3 v4 v5) none|_=>none
def EOBytes:Env:= {mkE BOBytes qa6 30 with byref:=lk [] [(110,[0])],keep:=lk false [(110,true)],live:=lk [] [(5,[3,19,20,21])],ren:=lk [] [(5,[(91,81)])],lp:=lk none [(5,some qsv)],xl:=lk none [(0,some [2]),(1,some [3])]}
theorem qxz:LpT Tryz.prog (EOBytes) Tryz.f89 0 5 qsv:=by
 intro σ k r h;unfold qsv at h;split at h
 ·obtain⟨hc,j⟩:=qaa h;cases qay hc;rw[qab] at j;apply it5 j
  ·intro n;kernel_rfl
  ·rfl
 ·cases h
def xbf6(o:LI):OO:=let r1:=qg6 o;cond (!r1) (zR [.cl (.sli .u8 [])] []) (cond (decide ((0:Int)<(o.length:Int))) (Option.bind (o[0]?) fun(e2:Int)=>let x3:=IntKind.u32.wrap ((40:Int)*e2);cond (decide ((1:Int)<(o.length:Int))) (Option.bind (o[1]?) fun(e4:Int)=>let x5:=IntKind.u32.wrap (x3+e4);cond (u32Ok x5) (let r6:=(qbd x5).length;let r7:=qbd x5;cond (decide ((2:Int)<=(o.length:Int))) (let l8:=List.drop 2 o;shut (qk1 (fun y9 y10=>zR [zvl y10] []) FUEL) r6 l8 (l8.length:Int) 0 r7) none) none) none) none)
def qka(again:LI->Nat->Int->LI->OO)(k0:Nat->LI->OO)(v1:LI)(v2:Nat)(v3:Int)(v4:LI):OO:=cond (decide (v3<(v1.length:Int))) (getK v1 v3 fun e8=>cond (u32Ok e8) (let r10:=qbd e8;let l11:=v4++r10;rmK l11.length 1<| let x12:=IntKind.i64.wrap (v3+1);again v1 l11.length x12 l11) none) (k0 v2 v4)
def qjc(k0:Nat->LI->OO):Nat->LI->Nat->Int->LI->OO:=qdm (fun a=>qka a k0) (fun _ _ _ _=>none)
def qou:St->(KT)->OO:=fun σ k=>match σ with|⟨[(q1,.cl (.sli .u32 v1)),(q2,.ref q3 q4 v2 true q5),(q6,.cl (.int .i64 v3))],[(q7,⟨.ints .u8 v4,false⟩)]⟩=>cond (eqL [q1,q2,q3,q4,q5,q6,q7] [0,3,80,0,1,4,80]) (shut (qjc (fun y1 y2=>k (.exit 0) ⟨[(3,.ref 80 0 y1 true 1)],[(80,⟨.ints .u8 y2,false⟩)]⟩) FUEL) v1 v2 v3 v4) none|_=>none
def ER2Bytes:Env:= {mkE BR2Bytes qa6 31 with keep:=lk false [(83,true)],live:=lk [] [(5,[0,3,4])],ren:=lk [] [(5,[(93,80)])],lp:=lk none [(5,some qou)],xl:=lk none [(0,some [2]),(1,some [3])]}
theorem qvs:LpT Tryz.prog (ER2Bytes) Tryz.f53 0 5 qou:=by
 intro σ k r h;unfold qou at h;split at h
 ·obtain⟨hc,j⟩:=qaa h;cases qay hc;rw[qab] at j;apply it4 j
  ·intro n;kernel_rfl
  ·rfl
 ·cases h
def q74(o:LI):OO:=let r1:=qg6 o;cond (!r1) (zR [.cl (.sli .u8 [])] []) (cond (decide ((0:Int)<(o.length:Int))) (Option.bind (o[0]?) fun(e2:Int)=>let x3:=IntKind.u32.wrap ((40:Int)*e2);cond (decide ((1:Int)<(o.length:Int))) (Option.bind (o[1]?) fun(e4:Int)=>let x5:=IntKind.u32.wrap (x3+e4);cond (u32Ok x5) (let r6:=(qbd x5).length;let r7:=qbd x5;shut (qjc (fun y8 y9=>zR [zvl y9] []) FUEL) o r6 2 r7) none) none) none)
def EVPlain:Env:= {mkE BVPlain qa6 23 with xl:=lk none [(0,some [4,5])]}
def xbgs(t:Int)(b:LI)(k:LC)(g:Int):OO:=cond (!decide (t=g)) (zR [.cl (.sli .u8 []),zvi 4] []) (cond (decide ((0:Int)<(k.length:Int))) (zR [.cl (.sli .u8 []),zvi 5] []) (cond (qad b) (let r1:=qfy g b;cond (!r1) (zR [.cl (.sli .u8 []),zvi 5] []) (zR [zvl b,zvi 0] [])) none))
def xbms:Env:= {mkE q6a qa6 18 with xl:=lk none [(0,some [2,3])]}
def xbn3(t:Int)(b:LI)(k:LC):OO:=cond (isS [.int .i64 t,.sli .u8 b,.slg 3 k]) (let r1:=(qqz 6 t b k).1;let r2:=(qqz 6 t b k).2;cond (!decide (r2=0)) (zR [.cl (.sli .u32 []),zvi r2] []) (cond (qad r1) (let r3:=(qb7 r1).1;let r4:=(qb7 r1).2;zR [.cl (.sli .u32 r3),zvi r4] []) none)) none
def EVMade:Env:= {mkE BVMade qa6 15 with xl:=lk none [(0,some [4,5])]}
def xbn2(g:Int)(b:LI):OO:=cond (isS ([.int .i64 g,.sli .u8 b,.slg 3 []])) (let r1:=qra ([.int .i64 g,.sli .u8 b,.slg 3 []]);cond (!r1) (zR [.cl (.agg [.int .i64 0,.sli .u8 [],.slg 3 []]),zvi 5] []) (zR [.cl (.agg [.int .i64 g,.sli .u8 b,.slg 3 []]),zvi 0] [])) none
def EVId:Env:= {mkE BVId qa6 9 with xl:=lk none [(0,some [2,3])]}
def gVId(o:LI):OO:=cond (qre o) (let r1:=qai o;cond (qp4 6 r1) (let r2:=(qce 6 r1).1;let r3:=(qce 6 r1).2.1;let r4:=qke;let r5:=(qce 6 r1).2.2;zR [.cl (.agg [.int .i64 r2,.sli .u8 r3,.slg 3 r4]),zvi r5] []) none) none
def EVRMade:Env:= {mkE BVRMade qa6 14 with xl:=lk none [(0,some [4,5])]}
def xbgt(g:Int)(b:LI):OO:=cond (qad b) (let r1:=qfy g b;cond (!r1) (zR [.cl (.agg [.int .i64 0,.sli .u8 [],.slg 3 []]),zvi 5] []) (zR [.cl (.agg [.int .i64 g,.sli .u8 b,.slg 3 []]),zvi 0] [])) none
def EVRId:Env:= {mkE BVRId qa6 9 with xl:=lk none [(0,some [2,3])]}
def xbwe(o:LI):OO:=cond (qre o) (let r1:=qai o;cond (qp4 6 r1) (let r2:=(qce 6 r1).1;let r3:=(qce 6 r1).2.1;let r4:=qke;let r5:=(qce 6 r1).2.2;zR [.cl (.agg [.int .i64 r2,.sli .u8 r3,.slg 3 r4]),zvi r5] []) none) none
def EVClone:Env:= {mkE BVClone qa6 8 with xl:=lk none [(0,some [2])]}
def xbgr(l:LC):OO:=cond (Nat.beq l.length 0) (xbjg (zR [.cl (.slg 3 [])] []) (let l1:=[]++l;rmK l1.length 56<| zR [zvg l1] [])) (let l2:=[]++l;rmK l2.length 56<| zR [zvg l2] [])
def EVSeq:Env:= {mkE BVSeq qa6 6 with xl:=lk none [(0,some [2])]}
def xbwf(l:LC):OO:=cond (qjt l) (zR [.cl (.agg [.int .i64 48,.sli .u8 [],.slg 3 l])] []) none
def EVRSeq:Env:= {mkE BVRSeq qa6 5 with xl:=lk none [(0,some [2])]}
def xbs3(l:LC):OO:=zR [.cl (.agg [.int .i64 48,.sli .u8 [],.slg 3 l])] []
def qm4(again:LC->Nat->Nat->Int->LI->Int->LC->LC->OO)(k0:LC->Nat->Nat->Int->LI->Int->LC->LC->OO)(v1:LC)(v2 v3:Nat)(v4:Int)(v5:LI)(v6:Int)(v7 v8:LC):OO:=cond (decide (v6<(v3:Int))) (idxK v6 v3 fun _=>Option.bind (v8[(0+(Int.toNat v6))]?) fun(e10:CV)=>let e11:=(cell1 e10).getD 0 .nili;cond (qbi .u8 e11) (let l12:=qa8 e11;cond (qt7 v5) (let r13:=qgv v5 l12;cond (!r13) (let x14:=IntKind.i64.wrap (v6+1);again v1 v2 v3 v4 v5 x14 v7 v8) (k0 v1 v2 v3 v4 v5 v6 v7 v8)) none) none) (k0 v1 v2 v3 v4 v5 v6 v7 v8)
def qik(k0:LC->Nat->Nat->Int->LI->Int->LC->LC->OO):Nat->LC->Nat->Nat->Int->LI->Int->LC->LC->OO:=qdm (fun a=>qm4 a k0) (fun _ _ _ _ _ _ _ _=>none)
def qp3(again:LC->Nat->Nat->Int->LC->LC->OO)(k0:OO)(k1:Nat->LC->OO)(v1:LC)(v2 v3:Nat)(v4:Int)(v5 v6:LC):OO:=cond (decide (v4<(v1.length:Int))) (getK v1 v4 fun e1=>let e2:=(cell1 e1).headD .nili;let e3:=(cell1 e1).tail.headD .nili;let e4:=(cell1 e1).tail.tail.headD .nili;cond (qhl .i64 e2&&(qbi .u8 e3&&(qcm 3 e4&&true))) (let i5:=qgj e2;let l6:=qa8 e3;let l7:=qc3 e4;cond (isS [.int .i64 i5,.sli .u8 l6,.slg 3 l7]) (let r8:=(qa7 [.int .i64 i5,.sli .u8 l6,.slg 3 l7]).1;let r9:=(qa7 [.int .i64 i5,.sli .u8 l6,.slg 3 l7]).2;cond (!decide (r9=0)) (k0) (shut (qik (fun y10 y11 y12 y13 y14 y15 y16 y17=>cond (decide ((0:Int)<=y15)) (cond (decide (y15<=(y12:Int))) (let l18:=[]++(List.take (Int.toNat y15) y17);rmK l18.length 24<| let l19:=l18++[.sli .u8 y14];rmK l19.length 24<| cond (decide ((0:Int)<=y15)) (cond (decide (y15<=(y12:Int))) (let l20:=l19++(win y17 (0+(Int.toNat y15)) 0 true);rmK l20.length 24<| cond (decide ((0:Int)<=y15)) (cond (decide (y15<=(y11:Int))) (let l21:=[]++(List.take (Int.toNat y15) y16);rmK l21.length 56<| getK y10 y13 fun e22=>let e23:=(cell1 e22).headD .nili;let e24:=(cell1 e22).tail.headD .nili;let e25:=(cell1 e22).tail.tail.headD .nili;cond (qhl .i64 e23&&(qbi .u8 e24&&(qcm 3 e25&&true))) (let i26:=qgj e23;let l27:=qa8 e24;let l28:=qc3 e25;let l29:=l21++([.agg [.int .i64 i26,.sli .u8 l27,.slg 3 l28]]);rmK l29.length 56<| cond (decide ((0:Int)<=y15)) (cond (decide (y15<=(y11:Int))) (let l30:=l29++(win y16 (0+(Int.toNat y15)) 0 true);rmK l30.length 56<| let x31:=IntKind.i64.wrap (y13+1);again y10 l30.length l20.length x31 l30 l20) none) none) none) none) none) none) none) none) none) FUEL) v1 v2 v3 v4 r8 0 v5 v6)) none) none) (k1 v2 v5)
def qlm(k0:OO)(k1:Nat->LC->OO):Nat->LC->Nat->Nat->Int->LC->LC->OO:=qdm (fun a=>qp3 a k0 k1) (fun _ _ _ _ _ _=>none)
def qtm:St->(KT)->OO:=fun σ k=>match σ with|⟨[(q1,.cl (.slg q2 v1)),(q3,.ptr q4 q5 q6),(q7,.ref q8 q9 v2 true q10),(q11,.ref q12 q13 v3 true q14),(q15,.cl (.int .i64 v4)),(q16,.cl (.sli .u8 v5)),(q17,.cl (.int .i64 v6))],[(q18,⟨.var [.cl (.int .i64 q19),.nils,.nils],false⟩),(q20,⟨.gen q21 v7,false⟩),(q22,⟨.gen q23 v8,false⟩)]⟩=>cond (eqL [q1,q2,q3,q4,q5,q6,q7,q8,q9,q10,q11,q12,q13,q14,q15,q16,q17,q18,q20,q21,q22,q23] [0,3,2,66,0,0,4,68,0,3,5,69,0,1,6,7,9,66,68,3,69,1]&&decide (q19=0)) (shut (qik (fun y1 y2 y3 y4 y5 y6 y7 y8=>k (.exit 2) ⟨[(0,zvg y1),(2,.ptr 66 0 0),(4,.ref 68 0 y2 true 3),(5,.ref 69 0 y3 true 1),(6,zvi y4),(7,zvl y5),(9,zvi y6)],[(66,⟨.var [zvi 0,.nils,.nils],false⟩),(68,⟨.gen 3 y7,false⟩),(69,⟨.gen 1 y8,false⟩)]⟩) FUEL) v1 v2 v3 v4 v5 v6 v7 v8) none|_=>none
def qy9:St->(KT)->OO:=fun σ k=>match σ with|⟨[(q1,.cl (.slg q2 v1)),(q3,.ptr q4 q5 q6),(q7,.ref q8 q9 v2 true q10),(q11,.ref q12 q13 v3 true q14),(q15,.cl (.int .i64 v4))],[(q16,⟨.var [.cl (.int .i64 q17),.nils,.nils],false⟩),(q18,⟨.gen q19 v5,false⟩),(q20,⟨.gen q21 v6,false⟩)]⟩=>cond (eqL [q1,q2,q3,q4,q5,q6,q7,q8,q9,q10,q11,q12,q13,q14,q15,q16,q18,q19,q20,q21] [0,3,2,66,0,0,4,68,0,3,5,69,0,1,6,66,68,3,69,1]&&decide (q17=0)) (shut (qlm (k .ret ⟨[(2,.ptr 66 0 0),(3,zvi 1)],[(66,⟨.var [zvi 0,.nils,.nils],false⟩)]⟩) (fun y1 y2=>k (.exit 0) ⟨[(2,.ptr 66 0 0),(4,.ref 68 0 y1 true 3)],[(66,⟨.var [zvi 0,.nils,.nils],false⟩),(68,⟨.gen 3 y2,false⟩)]⟩) FUEL) v1 v2 v3 v4 v5 v6) none|_=>none
def EVRSet:Env:= {mkE BVRSet qa6 77 with live:=lk [] [(4,[0,2,4,5,6]),(10,[0,2,4,5,6,7,9])],ren:=lk [] [(4,[(138,68),(121,69)])],lp:=lk none [(4,some qy9),(10,some qtm)],xl:=lk none [(0,some [2,3]),(1,some [2,4]),(3,some [0,2,4,5,6,7,9])]}
theorem qy8:LpT Tryz.prog (EVRSet) Tryz.f67 0 10 qtm:=by
 intro σ k r h;unfold qtm at h;split at h
 ·obtain⟨hc,j⟩:=qaa h;simp only[zab,qev,decide_eq_true_eq,zao] at hc;obtain⟨hc,rfl⟩:=hc;cases qay hc;rw[qab] at j;apply it8 j
  ·intro n;kernel_rfl
  ·rfl
 ·cases h
theorem q4q:LpT Tryz.prog (EVRSet) Tryz.f67 1 4 qy9:=by
 intro σ k r h;unfold qy9 at h;split at h
 ·obtain⟨hc,j⟩:=qaa h;simp only[zab,qev,decide_eq_true_eq,zao] at hc;obtain⟨hc,rfl⟩:=hc;cases qay hc;rw[qab] at j;apply it6 j
  ·intro n;kernel_rfl
  ·rfl
 ·cases h
def xbn4(l:LC):OO:=shut (qlm (zR [.cl (.agg [.int .i64 0,.sli .u8 [],.slg 3 []]),zvi 1] []) (fun y1 y2=>zR [.cl (.agg [.int .i64 49,.sli .u8 [],.slg 3 y2]),zvi 0] []) FUEL) l 0 0 0 [] []
def ETCmp4:Env:= {mkE BTCmp4 qa6 10 with xl:=lk none [(0,some [4])]}
def xbs0(tp:Int)(bp:LI)(kp:LC)(wp:LI)(tq:Int)(bq:LI)(kq:LC)(wq:LI):OO:=cond (qad wp&&qad wq) (let r1:=qbf wp wq;zI r1) none
def qmr(again:Nat->Int->Int->Int->Int->LC->OO)(k0:LC->OO)(v1:Nat)(v2 v3 v4 v5:Int)(v6:LC):OO:=cond (decide (v5<v4)) (let x1:=IntKind.i64.wrap (v2+v5);let x2:=IntKind.i64.wrap (v3+v5);let x3:=IntKind.i64.wrap (v3+v5);idxK x3 v1 fun _=>Option.bind (v6[(0+(Int.toNat x3))]?) fun(e4:CV)=>let e5:=(cell1 e4).headD .nili;let e6:=(cell1 e4).tail.headD .nili;let e7:=(cell1 e4).tail.tail.headD .nili;let e8:=(cell1 e4).tail.tail.tail.headD .nili;cond (qhl .i64 e5&&(qbi .u8 e6&&(qcm 3 e7&&(qbi .u8 e8&&true)))) (let i9:=qgj e5;let l10:=qa8 e6;let l11:=qc3 e7;let l12:=qa8 e8;let x13:=IntKind.i64.wrap (v2+v5);idxK x13 v1 fun _=>Option.bind (v6[(0+(Int.toNat x13))]?) fun(e14:CV)=>let e15:=(cell1 e14).headD .nili;let e16:=(cell1 e14).tail.headD .nili;let e17:=(cell1 e14).tail.tail.headD .nili;let e18:=(cell1 e14).tail.tail.tail.headD .nili;cond (qhl .i64 e15&&(qbi .u8 e16&&(qcm 3 e17&&(qbi .u8 e18&&true)))) (let i19:=qgj e15;let l20:=qa8 e16;let l21:=qc3 e17;let l22:=qa8 e18;idxK x1 v1 fun _=>let l23:=v6.set (0+(Int.toNat x1)) (.agg [.int .i64 i9,.sli .u8 l10,.slg 3 l11,.sli .u8 l12]);idxK x2 v1 fun _=>let l24:=l23.set (0+(Int.toNat x2)) (.agg [.int .i64 i19,.sli .u8 l20,.slg 3 l21,.sli .u8 l22]);let x25:=IntKind.i64.wrap (v5+1);again v1 v2 v3 v4 x25 l24) none) none) (k0 v6)
def qlf(k0:LC->OO):Nat->Nat->Int->Int->Int->Int->LC->OO:=qdm (fun a=>qmr a k0) (fun _ _ _ _ _ _=>none)
def qs7:St->(KT)->OO:=fun σ k=>match σ with|⟨[(q1,.ref q2 q3 v1 true q4),(q5,.cl (.int .i64 v2)),(q6,.cl (.int .i64 v3)),(q7,.cl (.int .i64 v4)),(q8,.cl (.int .i64 v5))],[(q9,⟨.gen q10 v6,false⟩)]⟩=>cond (eqL [q1,q2,q3,q4,q5,q6,q7,q8,q9,q10] [0,0,0,4,1,2,3,10,0,4]) (shut (qlf (fun y1=>k (.exit 0) ⟨[],[(0,⟨.gen 4 y1,false⟩)]⟩) FUEL) v1 v2 v3 v4 v5 v6) none|_=>none
def ETSwap4:Env:= {mkE BTSwap4 qa6 38 with live:=lk [] [(1,[0,1,2,3,10])],lp:=lk none [(1,some qs7)],xl:=lk none [(0,some []),(1,some [])]}
theorem qyo:LpT Tryz.prog (ETSwap4) Tryz.f138 0 1 qs7:=by
 intro σ k r h;unfold qs7 at h;split at h
 ·obtain⟨hc,j⟩:=qaa h;cases qay hc;rw[qab] at j;apply it6 j
  ·intro n;kernel_rfl
  ·rfl
 ·cases h
def xbgk(m:Nat)(a:Int)(b:Int)(n:Int)(l:LC):OO:=shut (qlf (fun y1=>zR [] [some ⟨.gen 4 y1,false⟩]) FUEL) m a b n 0 l
def qpv(again:Nat->Int->Int->Int->LC->OO)(k0:Nat->Int->Int->LC->OO)(v1:Nat)(v2 v3 v4:Int)(v5:LC):OO:=cond (!decide (v3=v4)) (cond (decide (v4<v3)) (let x3:=IntKind.i64.wrap (v2 - v3);cond (rows4 v1 v5&&swOk v1 x3 v2 v4) (let r4:=swpC v5 x3 v2 v4;let x5:=IntKind.i64.wrap (v3 - v4);again v1 v2 x5 v4 r4) none) (let x6:=IntKind.i64.wrap (v2 - v3);let x7:=IntKind.i64.wrap (v2+v4);let x8:=IntKind.i64.wrap (x7 - v3);cond (rows4 v1 v5&&swOk v1 x6 x8 v3) (let r9:=swpC v5 x6 x8 v3;let x10:=IntKind.i64.wrap (v4 - v3);again v1 v2 v3 x10 r9) none)) (k0 v1 v2 v3 v5)
def qol(k0:Nat->Int->Int->LC->OO):Nat->Nat->Int->Int->Int->LC->OO:=qdm (fun a=>qpv a k0) (fun _ _ _ _ _=>none)
def qyg:St->(KT)->OO:=fun σ k=>match σ with|⟨[(q1,.ref q2 q3 v1 true q4),(q5,.cl (.int .i64 v2)),(q6,.cl (.fn (.func q7) [] [])),(q8,.cl (.int .i64 v3)),(q9,.cl (.int .i64 v4))],[(q10,⟨.gen q11 v5,false⟩)]⟩=>cond (eqL [q1,q2,q3,q4,q5,q6,q7,q8,q9,q10,q11] [0,0,0,4,2,4,85,10,11,0,4]) (shut (qol (fun y1 y2 y3 y4=>k (.exit 0) ⟨[(0,.ref 0 0 y1 true 4),(2,zvi y2),(4,.cl (.fn (.func 85) [] [])),(10,zvi y3)],[(0,⟨.gen 4 y4,false⟩)]⟩) FUEL) v1 v2 v3 v4 v5) none|_=>none
def ETRot4:Env:= {mkE BTRot4 qa6 58 with byref:=lk [] [(138,[0])],live:=lk [] [(2,[0,2,4,10,11])],lp:=lk none [(2,some qyg)],xl:=lk none [(0,some []),(1,some [0,2,4,10])]}
theorem q4e:LpT Tryz.prog (ETRot4) Tryz.f135 0 2 qyg:=by
 intro σ k r h;unfold qyg at h;split at h
 ·obtain⟨hc,j⟩:=qaa h;cases qay hc;rw[qab] at j;apply it5 j
  ·intro n;kernel_rfl
  ·rfl
 ·cases h
def xbnu(m:Nat)(a:Int)(p:Int)(b:Int)(l:LC):OO:=let x1:=IntKind.i64.wrap (p - a);let x2:=IntKind.i64.wrap (b - p);shut (qol (fun y3 y4 y5 y6=>let x7:=IntKind.i64.wrap (y4 - y5);cond (rows4 y3 y6&&swOk y3 x7 y4 y5) (let r8:=swpC y6 x7 y4 y5;zR [] [some ⟨.gen 4 r8,false⟩]) none) FUEL) m p x1 x2 l
abbrev xbiw:=Nat->Int->Int->Int->LC->OO
abbrev xbix:=Nat->Nat->Int->Int->Int->LC->OO
abbrev xbiy:=Nat->Nat->Int->Int->LC->OO
abbrev xbiz:=Nat->Int->Int->Int->Int->Int->Int->LC->OO
def qp0(rk:Nat)(again:xbiw)(k0:Nat->Int->Int->LC->OO)(v1:Nat)(v2 v3 v4:Int)(v5:LC):OO:=cond (decide (v3<v4)) (let x2:=IntKind.i64.wrap (v3+v4);let x3:=IntKind.u64.wrap x2;let x4:=Int.fdiv x3 (2 ^ 1);let x5:=IntKind.i64.wrap x4;idxK x5 v1 fun _=>Option.bind (v5[(0+(Int.toNat x5))]?) fun(e6:CV)=>let e7:=(cell1 e6).headD .nili;let e8:=(cell1 e6).tail.headD .nili;let e9:=(cell1 e6).tail.tail.headD .nili;let e10:=(cell1 e6).tail.tail.tail.headD .nili;cond (qhl .i64 e7&&(qbi .u8 e8&&(qcm 3 e9&&(qbi .u8 e10&&true)))) (let l14:=qa8 e10;idxK v2 v1 fun _=>Option.bind (v5[(0+(Int.toNat v2))]?) fun(e15:CV)=>let e16:=(cell1 e15).headD .nili;let e17:=(cell1 e15).tail.headD .nili;let e18:=(cell1 e15).tail.tail.headD .nili;let e19:=(cell1 e15).tail.tail.tail.headD .nili;cond (qhl .i64 e16&&(qbi .u8 e17&&(qcm 3 e18&&(qbi .u8 e19&&true)))) (let l23:=qa8 e19;cond (qad l14&&qad l23) (let r24:=qbf l14 l23;cond (decide (r24<0)) (let x25:=IntKind.i64.wrap (x5+1);again v1 v2 x25 v4 v5) (again v1 v2 v3 x5 v5)) none) none) none) (k0 v1 v2 v3 v5)
def qli(rk:Nat)(k0:Nat->Int->Int->LC->OO):xbix:=qdm (fun a=>qp0 rk a k0) (fun _ _ _ _ _=>none)
def qp1(rk:Nat)(again:Nat->Int->Int->LC->OO)(k0:LC->OO)(v1:Nat)(v2 v3:Int)(v4:LC):OO:=let x6:=IntKind.i64.wrap (v2 - 1);cond (decide (v3<x6)) (let x7:=IntKind.i64.wrap (v3+1);let x8:=IntKind.i64.wrap (v3+1);idxK x8 v1 fun _=>Option.bind (v4[(0+(Int.toNat x8))]?) fun(e9:CV)=>let e10:=(cell1 e9).headD .nili;let e11:=(cell1 e9).tail.headD .nili;let e12:=(cell1 e9).tail.tail.headD .nili;let e13:=(cell1 e9).tail.tail.tail.headD .nili;cond (qhl .i64 e10&&(qbi .u8 e11&&(qcm 3 e12&&(qbi .u8 e13&&true)))) (let i14:=qgj e10;let l15:=qa8 e11;let l16:=qc3 e12;let l17:=qa8 e13;idxK v3 v1 fun _=>Option.bind (v4[(0+(Int.toNat v3))]?) fun(e18:CV)=>let e19:=(cell1 e18).headD .nili;let e20:=(cell1 e18).tail.headD .nili;let e21:=(cell1 e18).tail.tail.headD .nili;let e22:=(cell1 e18).tail.tail.tail.headD .nili;cond (qhl .i64 e19&&(qbi .u8 e20&&(qcm 3 e21&&(qbi .u8 e22&&true)))) (let i23:=qgj e19;let l24:=qa8 e20;let l25:=qc3 e21;let l26:=qa8 e22;idxK v3 v1 fun _=>let l27:=v4.set (0+(Int.toNat v3)) (.agg [.int .i64 i14,.sli .u8 l15,.slg 3 l16,.sli .u8 l17]);idxK x7 v1 fun _=>let l28:=l27.set (0+(Int.toNat x7)) (.agg [.int .i64 i23,.sli .u8 l24,.slg 3 l25,.sli .u8 l26]);let x29:=IntKind.i64.wrap (v3+1);again v1 v2 x29 l28) none) none) (k0 v4)
def qlj(rk:Nat)(k0:LC->OO):xbiy:=qdm (fun a=>qp1 rk a k0) (fun _ _ _ _=>none)
def qmv(rk:Nat)(again:xbiw)(k0:Nat->Int->Int->LC->OO)(v1:Nat)(v2 v3 v4:Int)(v5:LC):OO:=cond (decide (v3<v4)) (let x8:=IntKind.i64.wrap (v3+v4);let x9:=IntKind.u64.wrap x8;let x10:=Int.fdiv x9 (2 ^ 1);let x11:=IntKind.i64.wrap x10;idxK v2 v1 fun _=>Option.bind (v5[(0+(Int.toNat v2))]?) fun(e12:CV)=>let e13:=(cell1 e12).headD .nili;let e14:=(cell1 e12).tail.headD .nili;let e15:=(cell1 e12).tail.tail.headD .nili;let e16:=(cell1 e12).tail.tail.tail.headD .nili;cond (qhl .i64 e13&&(qbi .u8 e14&&(qcm 3 e15&&(qbi .u8 e16&&true)))) (let l20:=qa8 e16;idxK x11 v1 fun _=>Option.bind (v5[(0+(Int.toNat x11))]?) fun(e21:CV)=>let e22:=(cell1 e21).headD .nili;let e23:=(cell1 e21).tail.headD .nili;let e24:=(cell1 e21).tail.tail.headD .nili;let e25:=(cell1 e21).tail.tail.tail.headD .nili;cond (qhl .i64 e22&&(qbi .u8 e23&&(qcm 3 e24&&(qbi .u8 e25&&true)))) (let l29:=qa8 e25;cond (qad l20&&qad l29) (let r30:=qbf l20 l29;cond (!(decide (r30<0))) (let x31:=IntKind.i64.wrap (x11+1);again v1 v2 x31 v4 v5) (again v1 v2 v3 x11 v5)) none) none) none) (k0 v1 v2 v3 v5)
def qie(rk:Nat)(k0:Nat->Int->Int->LC->OO):xbix:=qdm (fun a=>qmv rk a k0) (fun _ _ _ _ _=>none)
def qmw(rk:Nat)(again:Nat->Int->Int->LC->OO)(k0:LC->OO)(v1:Nat)(v2 v3:Int)(v4:LC):OO:=cond (decide (v2<v3)) (let x12:=IntKind.i64.wrap (v3 - 1);let x13:=IntKind.i64.wrap (v3 - 1);idxK x13 v1 fun _=>Option.bind (v4[(0+(Int.toNat x13))]?) fun(e14:CV)=>let e15:=(cell1 e14).headD .nili;let e16:=(cell1 e14).tail.headD .nili;let e17:=(cell1 e14).tail.tail.headD .nili;let e18:=(cell1 e14).tail.tail.tail.headD .nili;cond (qhl .i64 e15&&(qbi .u8 e16&&(qcm 3 e17&&(qbi .u8 e18&&true)))) (let i19:=qgj e15;let l20:=qa8 e16;let l21:=qc3 e17;let l22:=qa8 e18;idxK v3 v1 fun _=>Option.bind (v4[(0+(Int.toNat v3))]?) fun(e23:CV)=>let e24:=(cell1 e23).headD .nili;let e25:=(cell1 e23).tail.headD .nili;let e26:=(cell1 e23).tail.tail.headD .nili;let e27:=(cell1 e23).tail.tail.tail.headD .nili;cond (qhl .i64 e24&&(qbi .u8 e25&&(qcm 3 e26&&(qbi .u8 e27&&true)))) (let i28:=qgj e24;let l29:=qa8 e25;let l30:=qc3 e26;let l31:=qa8 e27;idxK v3 v1 fun _=>let l32:=v4.set (0+(Int.toNat v3)) (.agg [.int .i64 i19,.sli .u8 l20,.slg 3 l21,.sli .u8 l22]);idxK x12 v1 fun _=>let l33:=l32.set (0+(Int.toNat x12)) (.agg [.int .i64 i28,.sli .u8 l29,.slg 3 l30,.sli .u8 l31]);let x34:=IntKind.i64.wrap (v3 - 1);again v1 v2 x34 l33) none) none) (k0 v4)
def qif(rk:Nat)(k0:LC->OO):xbiy:=qdm (fun a=>qmw rk a k0) (fun _ _ _ _=>none)
def qmx(rk:Nat)(again:Nat->Int->Int->Int->Int->Int->Int->Int->Int->LC->OO)(k0:xbiz)(v1:Nat)(v2 v3 v4 v5 v6 v7 v8 v9:Int)(v10:LC):OO:=cond (decide (v7<v8)) (let x20:=IntKind.i64.wrap (v7+v8);let x21:=IntKind.u64.wrap x20;let x22:=Int.fdiv x21 (2 ^ 1);let x23:=IntKind.i64.wrap x22;let x24:=IntKind.i64.wrap (v9 - x23);idxK x24 v1 fun _=>Option.bind (v10[(0+(Int.toNat x24))]?) fun(e25:CV)=>let e26:=(cell1 e25).headD .nili;let e27:=(cell1 e25).tail.headD .nili;let e28:=(cell1 e25).tail.tail.headD .nili;let e29:=(cell1 e25).tail.tail.tail.headD .nili;cond (qhl .i64 e26&&(qbi .u8 e27&&(qcm 3 e28&&(qbi .u8 e29&&true)))) (let l33:=qa8 e29;idxK x23 v1 fun _=>Option.bind (v10[(0+(Int.toNat x23))]?) fun(e34:CV)=>let e35:=(cell1 e34).headD .nili;let e36:=(cell1 e34).tail.headD .nili;let e37:=(cell1 e34).tail.tail.headD .nili;let e38:=(cell1 e34).tail.tail.tail.headD .nili;cond (qhl .i64 e35&&(qbi .u8 e36&&(qcm 3 e37&&(qbi .u8 e38&&true)))) (let l42:=qa8 e38;cond (qad l33&&qad l42) (let r43:=qbf l33 l42;cond (!(decide (r43<0))) (let x44:=IntKind.i64.wrap (x23+1);again v1 v2 v3 v4 v5 v6 x44 v8 v9 v10) (again v1 v2 v3 v4 v5 v6 v7 x23 v9 v10)) none) none) none) (k0 v1 v2 v3 v4 v5 v6 v7 v10)
def qig(rk:Nat)(k0:xbiz):Nat->Nat->Int->Int->Int->Int->Int->Int->Int->Int->LC->OO:=qdm (fun a=>qmx rk a k0) (fun _ _ _ _ _ _ _ _ _ _=>none)
def qyw(rk:Nat):St->(KT)->OO:=fun σ k=>match σ with|⟨[(q1,.ref q2 q3 v1 true q4),(q5,.cl (.int .i64 v2)),(q6,.cl (.fn (.func q7) [] [])),(q8,.cl (.int .i64 v3)),(q9,.cl (.int .i64 v4))],[(q10,⟨.gen q11 v5,false⟩)]⟩=>cond (eqL [q1,q2,q3,q4,q5,q6,q7,q8,q9,q10,q11] [0,0,0,4,1,4,85,10,11,0,4]) (shut (qli rk (fun y1 y2 y3 y4=>k (.exit 0) ⟨[(0,.ref 0 0 y1 true 4),(1,zvi y2),(10,zvi y3)],[(0,⟨.gen 4 y4,false⟩)]⟩) FUEL) v1 v2 v3 v4 v5) none|_=>none
def qyy(rk:Nat):St->(KT)->OO:=fun σ k=>match σ with|⟨[(q1,.ref q2 q3 v1 true q4),(q5,.cl (.int .i64 v2)),(q6,.cl (.int .i64 v3))],[(q7,⟨.gen q8 v4,false⟩)]⟩=>cond (eqL [q1,q2,q3,q4,q5,q6,q7,q8] [0,0,0,4,10,13,0,4]) (shut (qlj rk (fun y1=>k (.exit 2) ⟨[],[(0,⟨.gen 4 y1,false⟩)]⟩) FUEL) v1 v2 v3 v4) none|_=>none
def qtb(rk:Nat):St->(KT)->OO:=fun σ k=>match σ with|⟨[(q1,.ref q2 q3 v1 true q4),(q5,.cl (.int .i64 v2)),(q6,.cl (.fn (.func q7) [] [])),(q8,.cl (.int .i64 v3)),(q9,.cl (.int .i64 v4))],[(q10,⟨.gen q11 v5,false⟩)]⟩=>cond (eqL [q1,q2,q3,q4,q5,q6,q7,q8,q9,q10,q11] [0,0,0,4,2,4,85,14,15,0,4]) (shut (qie rk (fun y1 y2 y3 y4=>k (.exit 4) ⟨[(0,.ref 0 0 y1 true 4),(2,zvi y2),(14,zvi y3)],[(0,⟨.gen 4 y4,false⟩)]⟩) FUEL) v1 v2 v3 v4 v5) none|_=>none
def qtc(rk:Nat):St->(KT)->OO:=fun σ k=>match σ with|⟨[(q1,.ref q2 q3 v1 true q4),(q5,.cl (.int .i64 v2)),(q6,.cl (.int .i64 v3))],[(q7,⟨.gen q8 v4,false⟩)]⟩=>cond (eqL [q1,q2,q3,q4,q5,q6,q7,q8] [0,0,0,4,14,17,0,4]) (shut (qif rk (fun y1=>k (.exit 6) ⟨[],[(0,⟨.gen 4 y1,false⟩)]⟩) FUEL) v1 v2 v3 v4) none|_=>none
def qtd(rk:Nat):St->(KT)->OO:=fun σ k=>match σ with|⟨[(q1,.ref q2 q3 v1 true q4),(q5,.cl (.int .i64 v2)),(q6,.cl (.int .i64 v3)),(q7,.cl (.int .i64 v4)),(q8,.cl (.fn (.func q9) [] [])),(q10,.cl (.int .i64 v5)),(q11,.cl (.int .i64 v6)),(q12,.cl (.int .i64 v7)),(q13,.cl (.int .i64 v8)),(q14,.cl (.int .i64 v9))],[(q15,⟨.gen q16 v10,false⟩)]⟩=>cond (eqL [q1,q2,q3,q4,q5,q6,q7,q8,q9,q10,q11,q12,q13,q14,q15,q16] [0,0,0,4,1,2,3,4,85,18,19,20,21,22,0,4]) (shut (qig rk (fun y1 y2 y3 y4 y5 y6 y7 y8=>k (.exit 8) ⟨[(0,.ref 0 0 y1 true 4),(1,zvi y2),(2,zvi y3),(3,zvi y4),(4,.cl (.fn (.func 85) [] [])),(18,zvi y5),(19,zvi y6),(20,zvi y7)],[(0,⟨.gen 4 y8,false⟩)]⟩) FUEL) v1 v2 v3 v4 v5 v6 v7 v8 v9 v10) none|_=>none
def qhu(rk:Nat)(k0:LC->OO)(v1:Nat)(v2 v3 v4 v5 v6 v7 v8:Int)(v9:LC):OO:=let x19:=IntKind.i64.wrap (v6 - 1);shut (qig rk (fun y20 y21 y22 y23 y24 y25 y26 y27=>let x28:=IntKind.i64.wrap (y25 - y26);cond (decide (y26<y22)) (cond (decide (y22<x28)) (cond (rows4 y20 y27&&qdg y20 y26 y22 x28) (let r29:=rotC y27 y26 y22 x28;cond (decide (y21<y26)) (cond (decide (y26<y24)) (cond (rows4 y20 r29&&(qdg y20 y21 y26 y24&&(half4 r29 y21 y26 y24&&decide ((y24 - y21).toNat<rk)))) (let r30:=sym4 r29 y21 y26 y24;cond (decide (y24<x28)) (cond (decide (x28<y23)) (cond (rows4 y20 r30&&(qdg y20 y24 x28 y23&&(half4 r30 y24 x28 y23&&decide ((y23 - y24).toNat<rk)))) (let r31:=sym4 r30 y24 x28 y23;k0 r31) none) (k0 r30)) (k0 r30)) none) (cond (decide (y24<x28)) (cond (decide (x28<y23)) (cond (rows4 y20 r29&&(qdg y20 y24 x28 y23&&(half4 r29 y24 x28 y23&&decide ((y23 - y24).toNat<rk)))) (let r32:=sym4 r29 y24 x28 y23;k0 r32) none) (k0 r29)) (k0 r29))) (cond (decide (y24<x28)) (cond (decide (x28<y23)) (cond (rows4 y20 r29&&(qdg y20 y24 x28 y23&&(half4 r29 y24 x28 y23&&decide ((y23 - y24).toNat<rk)))) (let r33:=sym4 r29 y24 x28 y23;k0 r33) none) (k0 r29)) (k0 r29))) none) (cond (decide (y21<y26)) (cond (decide (y26<y24)) (cond (rows4 y20 y27&&(qdg y20 y21 y26 y24&&(half4 y27 y21 y26 y24&&decide ((y24 - y21).toNat<rk)))) (let r34:=sym4 y27 y21 y26 y24;cond (decide (y24<x28)) (cond (decide (x28<y23)) (cond (rows4 y20 r34&&(qdg y20 y24 x28 y23&&(half4 r34 y24 x28 y23&&decide ((y23 - y24).toNat<rk)))) (let r35:=sym4 r34 y24 x28 y23;k0 r35) none) (k0 r34)) (k0 r34)) none) (cond (decide (y24<x28)) (cond (decide (x28<y23)) (cond (rows4 y20 y27&&(qdg y20 y24 x28 y23&&(half4 y27 y24 x28 y23&&decide ((y23 - y24).toNat<rk)))) (let r36:=sym4 y27 y24 x28 y23;k0 r36) none) (k0 y27)) (k0 y27))) (cond (decide (y24<x28)) (cond (decide (x28<y23)) (cond (rows4 y20 y27&&(qdg y20 y24 x28 y23&&(half4 y27 y24 x28 y23&&decide ((y23 - y24).toNat<rk)))) (let r37:=sym4 y27 y24 x28 y23;k0 r37) none) (k0 y27)) (k0 y27)))) (cond (decide (y21<y26)) (cond (decide (y26<y24)) (cond (rows4 y20 y27&&(qdg y20 y21 y26 y24&&(half4 y27 y21 y26 y24&&decide ((y24 - y21).toNat<rk)))) (let r38:=sym4 y27 y21 y26 y24;cond (decide (y24<x28)) (cond (decide (x28<y23)) (cond (rows4 y20 r38&&(qdg y20 y24 x28 y23&&(half4 r38 y24 x28 y23&&decide ((y23 - y24).toNat<rk)))) (let r39:=sym4 r38 y24 x28 y23;k0 r39) none) (k0 r38)) (k0 r38)) none) (cond (decide (y24<x28)) (cond (decide (x28<y23)) (cond (rows4 y20 y27&&(qdg y20 y24 x28 y23&&(half4 y27 y24 x28 y23&&decide ((y23 - y24).toNat<rk)))) (let r40:=sym4 y27 y24 x28 y23;k0 r40) none) (k0 y27)) (k0 y27))) (cond (decide (y24<x28)) (cond (decide (x28<y23)) (cond (rows4 y20 y27&&(qdg y20 y24 x28 y23&&(half4 y27 y24 x28 y23&&decide ((y23 - y24).toNat<rk)))) (let r41:=sym4 y27 y24 x28 y23;k0 r41) none) (k0 y27)) (k0 y27)))) FUEL) v1 v2 v3 v4 v5 v6 v7 v8 x19 v9
def qss(rk:Nat):St->(KT)->OO:=fun σ k=>match σ with|⟨[(q1,.ref q2 q3 v1 true q4),(q5,.cl (.int .i64 v2)),(q6,.cl (.int .i64 v3)),(q7,.cl (.int .i64 v4)),(q8,.cl (.fn (.func q9) [] [])),(q10,.cl (.int .i64 v5)),(q11,.cl (.int .i64 v6)),(q12,.cl (.int .i64 v7)),(q13,.cl (.int .i64 v8))],[(q14,⟨.gen q15 v9,false⟩)]⟩=>cond (eqL [q1,q2,q3,q4,q5,q6,q7,q8,q9,q10,q11,q12,q13,q14,q15] [0,0,0,4,1,2,3,4,85,18,19,20,21,0,4]) (shut (qhu rk (fun y1=>k .normal ⟨[],[(0,⟨.gen 4 y1,false⟩)]⟩)) v1 v2 v3 v4 v5 v6 v7 v8 v9) none|_=>none
def ETSym4(rk:Nat):Env:= {
 orc:=fun g=>cond (Nat.beq g 85) ((kT KTCmp4)) (cond (Nat.beq g 125) STSym4 (cond (Nat.beq g 135) ((kT KTRot4)) (fun _ _=>Tree.fail)))
 pre:=fun g=>cond (Nat.beq g 85) ((kP KTCmp4)) (cond (Nat.beq g 125) (quy (rk)) (cond (Nat.beq g 135) ((kP KTRot4)) (fun _ _=>true)))
 byref:=fun g=>cond (Nat.beq g 125) ([0]) (cond (Nat.beq g 135) ([0]) ([]))
 live:=fun r=>cond (Nat.beq r 3) ([0,1,4,10,11]) (cond (Nat.beq r 9) ([0,10,13]) (cond (Nat.beq r 15) ([0,2,4,14,15]) (cond (Nat.beq r 21) ([0,14,17]) (cond (Nat.beq r 32) ([0,1,2,3,4,18,19,20,21]) (cond (Nat.beq r 33) ([0,1,2,3,4,18,19,20,21,22]) ([]))))))
 glob:=qa6
 nt:=220
 lp:=fun r=>cond (Nat.beq r 3) (some (qyw rk)) (cond (Nat.beq r 9) (some (qyy rk)) (cond (Nat.beq r 15) (some (qtb rk)) (cond (Nat.beq r 21) (some (qtc rk)) (cond (Nat.beq r 33) (some (qtd rk)) (none)))))
 xl:=fun r=>cond (Nat.beq r 0) (some []) (cond (Nat.beq r 1) (some [0,1,10]) (cond (Nat.beq r 3) (some []) (cond (Nat.beq r 5) (some [0,2,14]) (cond (Nat.beq r 7) (some []) (cond (Nat.beq r 9) (some [0,1,2,3,4,18,19,20]) (cond (Nat.beq r 1032) (some []) (none)))))))
 jn:=fun r=>cond (Nat.beq r 32) (some (qss rk)) (none)
}
theorem q4n(rk:Nat):LpT Tryz.prog (ETSym4 rk) Tryz.f125 0 3 (qyw rk):=by
 intro σ k r h;unfold qyw at h;split at h
 ·obtain⟨hc,j⟩:=qaa h;cases qay hc;rw[qab] at j;apply it5 j
  ·intro n;kernel_rfl
  ·rfl
 ·cases h
theorem q4o(rk:Nat):LpT Tryz.prog (ETSym4 rk) Tryz.f125 1 9 (qyy rk):=by
 intro σ k r h;unfold qyy at h;split at h
 ·obtain⟨hc,j⟩:=qaa h;cases qay hc;rw[qab] at j;apply it4 j
  ·intro n;kernel_rfl
  ·rfl
 ·cases h
theorem qyu(rk:Nat):LpT Tryz.prog (ETSym4 rk) Tryz.f125 2 15 (qtb rk):=by
 intro σ k r h;unfold qtb at h;split at h
 ·obtain⟨hc,j⟩:=qaa h;cases qay hc;rw[qab] at j;apply it5 j
  ·intro n;kernel_rfl
  ·rfl
 ·cases h
theorem qyv(rk:Nat):LpT Tryz.prog (ETSym4 rk) Tryz.f125 3 21 (qtc rk):=by
 intro σ k r h;unfold qtc at h;split at h
 ·obtain⟨hc,j⟩:=qaa h;cases qay hc;rw[qab] at j;apply it4 j
  ·intro n;kernel_rfl
  ·rfl
 ·cases h
theorem qyx(rk:Nat):LpT Tryz.prog (ETSym4 rk) Tryz.f125 4 33 (qtd rk):=by
 intro σ k r h;unfold qtd at h;split at h
 ·obtain⟨hc,j⟩:=qaa h;cases qay hc;rw[qab] at j;apply it10 j
  ·intro n;kernel_rfl
  ·rfl
 ·cases h
theorem qxv(rk:Nat):JnOk Tryz.prog (ETSym4 rk) 40 (nthc (ETSym4 rk) Tryz.f125 5) 32 (qss rk):=by
 intro σ k r h;unfold qss at h;split at h
 ·obtain⟨hc,j⟩:=qaa h;cases qay hc;rw[qab] at j;exact zds (by kernel_rfl) j
 ·cases h
theorem q9h(rk:Nat): ∀c,Tryz.f125.body=some c->qbe Tryz.prog (ETSym4 rk) 40 c:=lsB (ids:=[(true,3),(true,9),(true,15),(true,21),(true,33),(false,32)]) (by kernel_rfl) ⟨⟨_,rfl,q4n rk⟩,⟨_,rfl,q4o rk⟩,⟨_,rfl,qyu rk⟩,⟨_,rfl,qyv rk⟩,⟨_,rfl,qyx rk⟩,⟨_,rfl,qxv rk⟩,trivial⟩
def xbjz(rk:Nat)(m:Nat)(a:Int)(p:Int)(b:Int)(l:LC):OO:=let x1:=IntKind.i64.wrap (p - a);cond (decide (x1=1)) (shut (qli rk (fun y2 y3 y4 y5=>shut (qlj rk (fun y6=>zR [] [some ⟨.gen 4 y6,false⟩]) FUEL) y2 y4 y3 y5) FUEL) m a p b l) (let x7:=IntKind.i64.wrap (b - p);cond (decide (x7=1)) (shut (qie rk (fun y8 y9 y10 y11=>shut (qif rk (fun y12=>zR [] [some ⟨.gen 4 y12,false⟩]) FUEL) y8 y10 y9 y11) FUEL) m p a p l) (let x13:=IntKind.i64.wrap (a+b);let x14:=IntKind.u64.wrap x13;let x15:=Int.fdiv x14 (2 ^ 1);let x16:=IntKind.i64.wrap x15;let x17:=IntKind.i64.wrap (x16+p);cond (decide (x16<p)) (let x18:=IntKind.i64.wrap (x17 - b);shut (qhu rk (fun y19=>zR [] [some ⟨.gen 4 y19,false⟩])) m a p b x16 x17 x18 x16 l) (shut (qhu rk (fun y20=>zR [] [some ⟨.gen 4 y20,false⟩])) m a p b x16 x17 a p l)))
theorem xbdi(rk:Nat)(m:Nat)(a:Int)(p:Int)(b:Int)(l:LC):qnm Tryz.prog (ETSym4 rk) 40 false Tryz.f125 [.ref 0 0 m true 4,.cl (.int .i64 a),.cl (.int .i64 p),.cl (.int .i64 b),.cl (.fn (.func 85) [] [])] [⟨.gen 4 l,false⟩]=xbjz rk m a p b l:=by kernel_rfl
def qpt(again:Nat->Int->Int->Int->Int->LC->OO)(k0:Nat->Int->Int->Int->LC->OO)(v1:Nat)(v2 v3 v4 v5:Int)(v6:LC):OO:=cond (decide (v2<v5)) (idxK v5 v1 fun _=>Option.bind (v6[(0+(Int.toNat v5))]?) fun(e2:CV)=>let e3:=(cell1 e2).headD .nili;let e4:=(cell1 e2).tail.headD .nili;let e5:=(cell1 e2).tail.tail.headD .nili;let e6:=(cell1 e2).tail.tail.tail.headD .nili;cond (qhl .i64 e3&&(qbi .u8 e4&&(qcm 3 e5&&(qbi .u8 e6&&true)))) (let l10:=qa8 e6;let x11:=IntKind.i64.wrap (v5 - 1);idxK x11 v1 fun _=>Option.bind (v6[(0+(Int.toNat x11))]?) fun(e12:CV)=>let e13:=(cell1 e12).headD .nili;let e14:=(cell1 e12).tail.headD .nili;let e15:=(cell1 e12).tail.tail.headD .nili;let e16:=(cell1 e12).tail.tail.tail.headD .nili;cond (qhl .i64 e13&&(qbi .u8 e14&&(qcm 3 e15&&(qbi .u8 e16&&true)))) (let l20:=qa8 e16;cond (qad l10&&qad l20) (let r21:=qbf l10 l20;cond (decide (r21<0)) (let x22:=IntKind.i64.wrap (v5 - 1);let x23:=IntKind.i64.wrap (v5 - 1);idxK x23 v1 fun _=>Option.bind (v6[(0+(Int.toNat x23))]?) fun(e24:CV)=>let e25:=(cell1 e24).headD .nili;let e26:=(cell1 e24).tail.headD .nili;let e27:=(cell1 e24).tail.tail.headD .nili;let e28:=(cell1 e24).tail.tail.tail.headD .nili;cond (qhl .i64 e25&&(qbi .u8 e26&&(qcm 3 e27&&(qbi .u8 e28&&true)))) (let i29:=qgj e25;let l30:=qa8 e26;let l31:=qc3 e27;let l32:=qa8 e28;idxK v5 v1 fun _=>Option.bind (v6[(0+(Int.toNat v5))]?) fun(e33:CV)=>let e34:=(cell1 e33).headD .nili;let e35:=(cell1 e33).tail.headD .nili;let e36:=(cell1 e33).tail.tail.headD .nili;let e37:=(cell1 e33).tail.tail.tail.headD .nili;cond (qhl .i64 e34&&(qbi .u8 e35&&(qcm 3 e36&&(qbi .u8 e37&&true)))) (let i38:=qgj e34;let l39:=qa8 e35;let l40:=qc3 e36;let l41:=qa8 e37;idxK v5 v1 fun _=>let l42:=v6.set (0+(Int.toNat v5)) (.agg [.int .i64 i29,.sli .u8 l30,.slg 3 l31,.sli .u8 l32]);idxK x22 v1 fun _=>let l43:=l42.set (0+(Int.toNat x22)) (.agg [.int .i64 i38,.sli .u8 l39,.slg 3 l40,.sli .u8 l41]);let x44:=IntKind.i64.wrap (v5 - 1);again v1 v2 v3 v4 x44 l43) none) none) (k0 v1 v2 v3 v4 v6)) none) none) none) (k0 v1 v2 v3 v4 v6)
def qk9(k0:Nat->Int->Int->Int->LC->OO):Nat->Nat->Int->Int->Int->Int->LC->OO:=qdm (fun a=>qpt a k0) (fun _ _ _ _ _ _=>none)
def qh6(again:Nat->Int->Int->Int->LC->OO)(k0:LC->OO)(v1:Nat)(v2 v3 v4:Int)(v5:LC):OO:=cond (decide (v4<v3)) (shut (qk9 (fun y2 y3 y4 y5 y6=>let x7:=IntKind.i64.wrap (y5+1);again y2 y3 y4 x7 y6) FUEL) v1 v2 v3 v4 v4 v5) (k0 v5)
def qji(k0:LC->OO):Nat->Nat->Int->Int->Int->LC->OO:=qdm (fun a=>qh6 a k0) (fun _ _ _ _ _=>none)
def qyd:St->(KT)->OO:=fun σ k=>match σ with|⟨[(q1,.ref q2 q3 v1 true q4),(q5,.cl (.int .i64 v2)),(q6,.cl (.int .i64 v3)),(q7,.cl (.fn (.func q8) [] [])),(q9,.cl (.int .i64 v4)),(q10,.cl (.int .i64 v5))],[(q11,⟨.gen q12 v6,false⟩)]⟩=>cond (eqL [q1,q2,q3,q4,q5,q6,q7,q8,q9,q10,q11,q12] [0,0,0,4,1,2,3,85,8,9,0,4]) (shut (qk9 (fun y1 y2 y3 y4 y5=>k (.exit 2) ⟨[(0,.ref 0 0 y1 true 4),(1,zvi y2),(2,zvi y3),(3,.cl (.fn (.func 85) [] [])),(8,zvi y4)],[(0,⟨.gen 4 y5,false⟩)]⟩) FUEL) v1 v2 v3 v4 v5 v6) none|_=>none
def qyc:St->(KT)->OO:=fun σ k=>match σ with|⟨[(q1,.ref q2 q3 v1 true q4),(q5,.cl (.int .i64 v2)),(q6,.cl (.int .i64 v3)),(q7,.cl (.fn (.func q8) [] [])),(q9,.cl (.int .i64 v4))],[(q10,⟨.gen q11 v5,false⟩)]⟩=>cond (eqL [q1,q2,q3,q4,q5,q6,q7,q8,q9,q10,q11] [0,0,0,4,1,2,3,85,8,0,4]) (shut (qji (fun y1=>k (.exit 0) ⟨[],[(0,⟨.gen 4 y1,false⟩)]⟩) FUEL) v1 v2 v3 v4 v5) none|_=>none
def ETIns4:Env:= {mkE BTIns4 qa6 53 with live:=lk [] [(1,[0,1,2,3,8]),(4,[0,1,2,3,8,9])],lp:=lk none [(1,some qyc),(4,some qyd)],xl:=lk none [(0,some []),(1,some []),(3,some [0,1,2,3,8])]}
theorem q4b:LpT Tryz.prog (ETIns4) Tryz.f124 0 4 qyd:=by
 intro σ k r h;unfold qyd at h;split at h
 ·obtain⟨hc,j⟩:=qaa h;cases qay hc;rw[qab] at j;apply it6 j
  ·intro n;kernel_rfl
  ·rfl
 ·cases h
theorem q4a:LpT Tryz.prog (ETIns4) Tryz.f124 1 1 qyc:=by
 intro σ k r h;unfold qyc at h;split at h
 ·obtain⟨hc,j⟩:=qaa h;cases qay hc;rw[qab] at j;apply it5 j
  ·intro n;kernel_rfl
  ·rfl
 ·cases h
def xbnq(m:Nat)(a:Int)(b:Int)(l:LC):OO:=let x1:=IntKind.i64.wrap (a+1);shut (qji (fun y2=>zR [] [some ⟨.gen 4 y2,false⟩]) FUEL) m a b x1 l
def qh9(again:Nat->Int->Int->Int->LC->OO)(k0:Nat->Int->Int->LC->OO)(v1:Nat)(v2 v3 v4:Int)(v5:LC):OO:=cond (decide (v4<=v2)) (cond (rows4 v1 v5&&decide (0<=v3/\v3<=v4/\v4<=(v1:Int))) (let r1:=ins4 v5 v3 v4;let x2:=IntKind.i64.wrap (v4+20);again v1 v2 v4 x2 r1) none) (k0 v1 v2 v3 v5)
def qlc(k0:Nat->Int->Int->LC->OO):Nat->Nat->Int->Int->Int->LC->OO:=qdm (fun a=>qh9 a k0) (fun _ _ _ _ _=>none)
def qia(again:Nat->Int->Int->Int->Int->LC->OO)(k0:Nat->Int->Int->Int->LC->OO)(v1:Nat)(v2 v3 v4 v5:Int)(v6:LC):OO:=cond (decide (v5<=v2)) (let x7:=IntKind.i64.wrap (v4+v3);cond (rows4 v1 v6&&(qdg v1 v4 x7 v5&&half4 v6 v4 x7 v5)) (let r8:=sym4 v6 v4 x7 v5;let x9:=IntKind.i64.wrap ((2:Int)*v3);let x10:=IntKind.i64.wrap (v5+x9);again v1 v2 v3 v5 x10 r8) none) (k0 v1 v2 v3 v4 v6)
def qld(k0:Nat->Int->Int->Int->LC->OO):Nat->Nat->Int->Int->Int->Int->LC->OO:=qdm (fun a=>qia a k0) (fun _ _ _ _ _ _=>none)
def qpx(again:Nat->Int->Int->LC->OO)(k0:LC->OO)(v1:Nat)(v2 v3:Int)(v4:LC):OO:=cond (decide (v3<v2)) (let x6:=IntKind.i64.wrap ((2:Int)*v3);shut (qld (fun y7 y8 y9 y10 y11=>let x12:=IntKind.i64.wrap (y10+y9);cond (decide (x12<y8)) (cond (rows4 y7 y11&&(qdg y7 y10 x12 y8&&half4 y11 y10 x12 y8)) (let r13:=sym4 y11 y10 x12 y8;let x14:=IntKind.i64.wrap (y9*2);again y7 y8 x14 r13) none) (let x15:=IntKind.i64.wrap (y9*2);again y7 y8 x15 y11)) FUEL) v1 v2 v3 0 x6 v4) (k0 v4)
def qg2(k0:LC->OO):Nat->Nat->Int->Int->LC->OO:=qdm (fun a=>qpx a k0) (fun _ _ _ _=>none)
def qyk:St->(KT)->OO:=fun σ k=>match σ with|⟨[(q1,.ref q2 q3 v1 true q4),(q5,.cl (.int .i64 v2)),(q6,.cl (.fn (.func q7) [] [])),(q8,.cl (.int .i64 q9)),(q10,.cl (.int .i64 v3)),(q11,.cl (.int .i64 v4))],[(q12,⟨.gen q13 v5,false⟩)]⟩=>cond (eqL [q1,q2,q3,q4,q5,q6,q7,q8,q10,q11,q12,q13] [0,0,0,4,1,2,85,6,7,8,0,4]&&decide (q9=20)) (shut (qlc (fun y1 y2 y3 y4=>k (.exit 0) ⟨[(0,.ref 0 0 y1 true 4),(1,zvi y2),(2,.cl (.fn (.func 85) [] [])),(6,zvi 20),(7,zvi y3)],[(0,⟨.gen 4 y4,false⟩)]⟩) FUEL) v1 v2 v3 v4 v5) none|_=>none
def qym:St->(KT)->OO:=fun σ k=>match σ with|⟨[(q1,.ref q2 q3 v1 true q4),(q5,.cl (.int .i64 v2)),(q6,.cl (.fn (.func q7) [] [])),(q8,.cl (.int .i64 v3)),(q9,.cl (.int .i64 v4)),(q10,.cl (.int .i64 v5))],[(q11,⟨.gen q12 v6,false⟩)]⟩=>cond (eqL [q1,q2,q3,q4,q5,q6,q7,q8,q9,q10,q11,q12] [0,0,0,4,1,2,85,6,7,8,0,4]) (shut (qld (fun y1 y2 y3 y4 y5=>k (.exit 4) ⟨[(0,.ref 0 0 y1 true 4),(1,zvi y2),(2,.cl (.fn (.func 85) [] [])),(6,zvi y3),(7,zvi y4)],[(0,⟨.gen 4 y5,false⟩)]⟩) FUEL) v1 v2 v3 v4 v5 v6) none|_=>none
def qyl:St->(KT)->OO:=fun σ k=>match σ with|⟨[(q1,.ref q2 q3 v1 true q4),(q5,.cl (.int .i64 v2)),(q6,.cl (.fn (.func q7) [] [])),(q8,.cl (.int .i64 v3))],[(q9,⟨.gen q10 v4,false⟩)]⟩=>cond (eqL [q1,q2,q3,q4,q5,q6,q7,q8,q9,q10] [0,0,0,4,1,2,85,6,0,4]) (shut (qg2 (fun y1=>k (.exit 2) ⟨[],[(0,⟨.gen 4 y1,false⟩)]⟩) FUEL) v1 v2 v3 v4) none|_=>none
def ETSta4:Env:= {mkE BTSta4 qa6 63 with byref:=lk [] [(124,[0]),(125,[0])],live:=lk [] [(2,[0,1,2,6,7,8]),(7,[0,1,2,6]),(9,[0,1,2,6,7,8])],lp:=lk none [(2,some qyk),(7,some qyl),(9,some qym)],xl:=lk none [(0,some []),(1,some [0,1,2,6,7]),(3,some []),(5,some [0,1,2,6,7])]}
theorem q4i:LpT Tryz.prog (ETSta4) Tryz.f107 0 2 qyk:=by
 intro σ k r h;unfold qyk at h;split at h
 ·obtain⟨hc,j⟩:=qaa h;simp only[zab,qev,decide_eq_true_eq,zao] at hc;obtain⟨hc,rfl⟩:=hc;cases qay hc;rw[qab] at j;apply it5 j
  ·intro n;kernel_rfl
  ·rfl
 ·cases h
theorem q4k:LpT Tryz.prog (ETSta4) Tryz.f107 1 9 qym:=by
 intro σ k r h;unfold qym at h;split at h
 ·obtain⟨hc,j⟩:=qaa h;cases qay hc;rw[qab] at j;apply it6 j
  ·intro n;kernel_rfl
  ·rfl
 ·cases h
theorem q4j:LpT Tryz.prog (ETSta4) Tryz.f107 2 7 qyl:=by
 intro σ k r h;unfold qyl at h;split at h
 ·obtain⟨hc,j⟩:=qaa h;cases qay hc;rw[qab] at j;apply it4 j
  ·intro n;kernel_rfl
  ·rfl
 ·cases h
def xbny(m:Nat)(n:Int)(l:LC):OO:=shut (qlc (fun y1 y2 y3 y4=>cond (rows4 y1 y4&&decide (0<=y3/\y3<=y2/\y2<=(y1:Int))) (let r5:=ins4 y4 y3 y2;shut (qg2 (fun y6=>zR [] [some ⟨.gen 4 y6,false⟩]) FUEL) y1 y2 20 r5) none) FUEL) m n 0 20 l
def ETSort4:Env:= {mkE BTSort4 qa6 9 with byref:=lk [] [(107,[0])],xl:=lk none [(0,some [])]}
def xbnw(m:Nat)(l:LC):OO:=cond (rows4 m l&&decide ((m:Int)=(m:Int))) (let r1:=srt4 l;zR [] [some ⟨.gen 4 r1,false⟩]) none
def ETCmp3:Env:= {mkE BTCmp3 qa6 10 with xl:=lk none [(0,some [4])]}
def xbsz(op:LI)(kp:LC)(wp:LI)(oq:LI)(kq:LC)(wq:LI):OO:=cond (qad wp&&qad wq) (let r1:=qbf wp wq;zI r1) none
def qmq(again:Nat->Int->Int->Int->Int->LC->OO)(k0:LC->OO)(v1:Nat)(v2 v3 v4 v5:Int)(v6:LC):OO:=cond (decide (v5<v4)) (let x1:=IntKind.i64.wrap (v2+v5);let x2:=IntKind.i64.wrap (v3+v5);let x3:=IntKind.i64.wrap (v3+v5);idxK x3 v1 fun _=>Option.bind (v6[(0+(Int.toNat x3))]?) fun(e4:CV)=>let e5:=(cell1 e4).headD .nili;let e6:=(cell1 e4).tail.headD .nili;let e7:=(cell1 e4).tail.tail.headD .nili;cond (qbi .u32 e5&&(qcm 3 e6&&(qbi .u8 e7&&true))) (let l8:=qa8 e5;let l9:=qc3 e6;let l10:=qa8 e7;let x11:=IntKind.i64.wrap (v2+v5);idxK x11 v1 fun _=>Option.bind (v6[(0+(Int.toNat x11))]?) fun(e12:CV)=>let e13:=(cell1 e12).headD .nili;let e14:=(cell1 e12).tail.headD .nili;let e15:=(cell1 e12).tail.tail.headD .nili;cond (qbi .u32 e13&&(qcm 3 e14&&(qbi .u8 e15&&true))) (let l16:=qa8 e13;let l17:=qc3 e14;let l18:=qa8 e15;idxK x1 v1 fun _=>let l19:=v6.set (0+(Int.toNat x1)) (.agg [.sli .u32 l8,.slg 3 l9,.sli .u8 l10]);idxK x2 v1 fun _=>let l20:=l19.set (0+(Int.toNat x2)) (.agg [.sli .u32 l16,.slg 3 l17,.sli .u8 l18]);let x21:=IntKind.i64.wrap (v5+1);again v1 v2 v3 v4 x21 l20) none) none) (k0 v6)
def qle(k0:LC->OO):Nat->Nat->Int->Int->Int->Int->LC->OO:=qdm (fun a=>qmq a k0) (fun _ _ _ _ _ _=>none)
def qs6:St->(KT)->OO:=fun σ k=>match σ with|⟨[(q1,.ref q2 q3 v1 true q4),(q5,.cl (.int .i64 v2)),(q6,.cl (.int .i64 v3)),(q7,.cl (.int .i64 v4)),(q8,.cl (.int .i64 v5))],[(q9,⟨.gen q10 v6,false⟩)]⟩=>cond (eqL [q1,q2,q3,q4,q5,q6,q7,q8,q9,q10] [0,0,0,3,1,2,3,10,0,3]) (shut (qle (fun y1=>k (.exit 0) ⟨[],[(0,⟨.gen 3 y1,false⟩)]⟩) FUEL) v1 v2 v3 v4 v5 v6) none|_=>none
def ETSwap3:Env:= {mkE BTSwap3 qa6 38 with live:=lk [] [(1,[0,1,2,3,10])],lp:=lk none [(1,some qs6)],xl:=lk none [(0,some []),(1,some [])]}
theorem qyn:LpT Tryz.prog (ETSwap3) Tryz.f136 0 1 qs6:=by
 intro σ k r h;unfold qs6 at h;split at h
 ·obtain⟨hc,j⟩:=qaa h;cases qay hc;rw[qab] at j;apply it6 j
  ·intro n;kernel_rfl
  ·rfl
 ·cases h
def xbgj(m:Nat)(a:Int)(b:Int)(n:Int)(l:LC):OO:=shut (qle (fun y1=>zR [] [some ⟨.gen 3 y1,false⟩]) FUEL) m a b n 0 l
def qpu(again:Nat->Int->Int->Int->LC->OO)(k0:Nat->Int->Int->LC->OO)(v1:Nat)(v2 v3 v4:Int)(v5:LC):OO:=cond (!decide (v3=v4)) (cond (decide (v4<v3)) (let x3:=IntKind.i64.wrap (v2 - v3);cond (rows3 v1 v5&&swOk v1 x3 v2 v4) (let r4:=swpC v5 x3 v2 v4;let x5:=IntKind.i64.wrap (v3 - v4);again v1 v2 x5 v4 r4) none) (let x6:=IntKind.i64.wrap (v2 - v3);let x7:=IntKind.i64.wrap (v2+v4);let x8:=IntKind.i64.wrap (x7 - v3);cond (rows3 v1 v5&&swOk v1 x6 x8 v3) (let r9:=swpC v5 x6 x8 v3;let x10:=IntKind.i64.wrap (v4 - v3);again v1 v2 v3 x10 r9) none)) (k0 v1 v2 v3 v5)
def qok(k0:Nat->Int->Int->LC->OO):Nat->Nat->Int->Int->Int->LC->OO:=qdm (fun a=>qpu a k0) (fun _ _ _ _ _=>none)
def qyf:St->(KT)->OO:=fun σ k=>match σ with|⟨[(q1,.ref q2 q3 v1 true q4),(q5,.cl (.int .i64 v2)),(q6,.cl (.fn (.func q7) [] [])),(q8,.cl (.int .i64 v3)),(q9,.cl (.int .i64 v4))],[(q10,⟨.gen q11 v5,false⟩)]⟩=>cond (eqL [q1,q2,q3,q4,q5,q6,q7,q8,q9,q10,q11] [0,0,0,3,2,4,62,10,11,0,3]) (shut (qok (fun y1 y2 y3 y4=>k (.exit 0) ⟨[(0,.ref 0 0 y1 true 3),(2,zvi y2),(4,.cl (.fn (.func 62) [] [])),(10,zvi y3)],[(0,⟨.gen 3 y4,false⟩)]⟩) FUEL) v1 v2 v3 v4 v5) none|_=>none
def ETRot3:Env:= {mkE BTRot3 qa6 58 with byref:=lk [] [(136,[0])],live:=lk [] [(2,[0,2,4,10,11])],lp:=lk none [(2,some qyf)],xl:=lk none [(0,some []),(1,some [0,2,4,10])]}
theorem q4d:LpT Tryz.prog (ETRot3) Tryz.f126 0 2 qyf:=by
 intro σ k r h;unfold qyf at h;split at h
 ·obtain⟨hc,j⟩:=qaa h;cases qay hc;rw[qab] at j;apply it5 j
  ·intro n;kernel_rfl
  ·rfl
 ·cases h
def xbnt(m:Nat)(a:Int)(p:Int)(b:Int)(l:LC):OO:=let x1:=IntKind.i64.wrap (p - a);let x2:=IntKind.i64.wrap (b - p);shut (qok (fun y3 y4 y5 y6=>let x7:=IntKind.i64.wrap (y4 - y5);cond (rows3 y3 y6&&swOk y3 x7 y4 y5) (let r8:=swpC y6 x7 y4 y5;zR [] [some ⟨.gen 3 r8,false⟩]) none) FUEL) m p x1 x2 l
abbrev xbis:=Nat->Int->Int->Int->LC->OO
abbrev xbit:=Nat->Nat->Int->Int->Int->LC->OO
abbrev xbiu:=Nat->Nat->Int->Int->LC->OO
abbrev xbiv:=Nat->Int->Int->Int->Int->Int->Int->LC->OO
def qpy(rk:Nat)(again:xbis)(k0:Nat->Int->Int->LC->OO)(v1:Nat)(v2 v3 v4:Int)(v5:LC):OO:=cond (decide (v3<v4)) (let x2:=IntKind.i64.wrap (v3+v4);let x3:=IntKind.u64.wrap x2;let x4:=Int.fdiv x3 (2 ^ 1);let x5:=IntKind.i64.wrap x4;idxK x5 v1 fun _=>Option.bind (v5[(0+(Int.toNat x5))]?) fun(e6:CV)=>let e7:=(cell1 e6).headD .nili;let e8:=(cell1 e6).tail.headD .nili;let e9:=(cell1 e6).tail.tail.headD .nili;cond (qbi .u32 e7&&(qcm 3 e8&&(qbi .u8 e9&&true))) (let l12:=qa8 e9;idxK v2 v1 fun _=>Option.bind (v5[(0+(Int.toNat v2))]?) fun(e13:CV)=>let e14:=(cell1 e13).headD .nili;let e15:=(cell1 e13).tail.headD .nili;let e16:=(cell1 e13).tail.tail.headD .nili;cond (qbi .u32 e14&&(qcm 3 e15&&(qbi .u8 e16&&true))) (let l19:=qa8 e16;cond (qad l12&&qad l19) (let r20:=qbf l12 l19;cond (decide (r20<0)) (let x21:=IntKind.i64.wrap (x5+1);again v1 v2 x21 v4 v5) (again v1 v2 v3 x5 v5)) none) none) none) (k0 v1 v2 v3 v5)
def qlg(rk:Nat)(k0:Nat->Int->Int->LC->OO):xbit:=qdm (fun a=>qpy rk a k0) (fun _ _ _ _ _=>none)
def qpz(rk:Nat)(again:Nat->Int->Int->LC->OO)(k0:LC->OO)(v1:Nat)(v2 v3:Int)(v4:LC):OO:=let x6:=IntKind.i64.wrap (v2 - 1);cond (decide (v3<x6)) (let x7:=IntKind.i64.wrap (v3+1);let x8:=IntKind.i64.wrap (v3+1);idxK x8 v1 fun _=>Option.bind (v4[(0+(Int.toNat x8))]?) fun(e9:CV)=>let e10:=(cell1 e9).headD .nili;let e11:=(cell1 e9).tail.headD .nili;let e12:=(cell1 e9).tail.tail.headD .nili;cond (qbi .u32 e10&&(qcm 3 e11&&(qbi .u8 e12&&true))) (let l13:=qa8 e10;let l14:=qc3 e11;let l15:=qa8 e12;idxK v3 v1 fun _=>Option.bind (v4[(0+(Int.toNat v3))]?) fun(e16:CV)=>let e17:=(cell1 e16).headD .nili;let e18:=(cell1 e16).tail.headD .nili;let e19:=(cell1 e16).tail.tail.headD .nili;cond (qbi .u32 e17&&(qcm 3 e18&&(qbi .u8 e19&&true))) (let l20:=qa8 e17;let l21:=qc3 e18;let l22:=qa8 e19;idxK v3 v1 fun _=>let l23:=v4.set (0+(Int.toNat v3)) (.agg [.sli .u32 l13,.slg 3 l14,.sli .u8 l15]);idxK x7 v1 fun _=>let l24:=l23.set (0+(Int.toNat x7)) (.agg [.sli .u32 l20,.slg 3 l21,.sli .u8 l22]);let x25:=IntKind.i64.wrap (v3+1);again v1 v2 x25 l24) none) none) (k0 v4)
def qlh(rk:Nat)(k0:LC->OO):xbiu:=qdm (fun a=>qpz rk a k0) (fun _ _ _ _=>none)
def qms(rk:Nat)(again:xbis)(k0:Nat->Int->Int->LC->OO)(v1:Nat)(v2 v3 v4:Int)(v5:LC):OO:=cond (decide (v3<v4)) (let x8:=IntKind.i64.wrap (v3+v4);let x9:=IntKind.u64.wrap x8;let x10:=Int.fdiv x9 (2 ^ 1);let x11:=IntKind.i64.wrap x10;idxK v2 v1 fun _=>Option.bind (v5[(0+(Int.toNat v2))]?) fun(e12:CV)=>let e13:=(cell1 e12).headD .nili;let e14:=(cell1 e12).tail.headD .nili;let e15:=(cell1 e12).tail.tail.headD .nili;cond (qbi .u32 e13&&(qcm 3 e14&&(qbi .u8 e15&&true))) (let l18:=qa8 e15;idxK x11 v1 fun _=>Option.bind (v5[(0+(Int.toNat x11))]?) fun(e19:CV)=>let e20:=(cell1 e19).headD .nili;let e21:=(cell1 e19).tail.headD .nili;let e22:=(cell1 e19).tail.tail.headD .nili;cond (qbi .u32 e20&&(qcm 3 e21&&(qbi .u8 e22&&true))) (let l25:=qa8 e22;cond (qad l18&&qad l25) (let r26:=qbf l18 l25;cond (!(decide (r26<0))) (let x27:=IntKind.i64.wrap (x11+1);again v1 v2 x27 v4 v5) (again v1 v2 v3 x11 v5)) none) none) none) (k0 v1 v2 v3 v5)
def qib(rk:Nat)(k0:Nat->Int->Int->LC->OO):xbit:=qdm (fun a=>qms rk a k0) (fun _ _ _ _ _=>none)
def qmt(rk:Nat)(again:Nat->Int->Int->LC->OO)(k0:LC->OO)(v1:Nat)(v2 v3:Int)(v4:LC):OO:=cond (decide (v2<v3)) (let x12:=IntKind.i64.wrap (v3 - 1);let x13:=IntKind.i64.wrap (v3 - 1);idxK x13 v1 fun _=>Option.bind (v4[(0+(Int.toNat x13))]?) fun(e14:CV)=>let e15:=(cell1 e14).headD .nili;let e16:=(cell1 e14).tail.headD .nili;let e17:=(cell1 e14).tail.tail.headD .nili;cond (qbi .u32 e15&&(qcm 3 e16&&(qbi .u8 e17&&true))) (let l18:=qa8 e15;let l19:=qc3 e16;let l20:=qa8 e17;idxK v3 v1 fun _=>Option.bind (v4[(0+(Int.toNat v3))]?) fun(e21:CV)=>let e22:=(cell1 e21).headD .nili;let e23:=(cell1 e21).tail.headD .nili;let e24:=(cell1 e21).tail.tail.headD .nili;cond (qbi .u32 e22&&(qcm 3 e23&&(qbi .u8 e24&&true))) (let l25:=qa8 e22;let l26:=qc3 e23;let l27:=qa8 e24;idxK v3 v1 fun _=>let l28:=v4.set (0+(Int.toNat v3)) (.agg [.sli .u32 l18,.slg 3 l19,.sli .u8 l20]);idxK x12 v1 fun _=>let l29:=l28.set (0+(Int.toNat x12)) (.agg [.sli .u32 l25,.slg 3 l26,.sli .u8 l27]);let x30:=IntKind.i64.wrap (v3 - 1);again v1 v2 x30 l29) none) none) (k0 v4)
def qic(rk:Nat)(k0:LC->OO):xbiu:=qdm (fun a=>qmt rk a k0) (fun _ _ _ _=>none)
def qmu(rk:Nat)(again:Nat->Int->Int->Int->Int->Int->Int->Int->Int->LC->OO)(k0:xbiv)(v1:Nat)(v2 v3 v4 v5 v6 v7 v8 v9:Int)(v10:LC):OO:=cond (decide (v7<v8)) (let x20:=IntKind.i64.wrap (v7+v8);let x21:=IntKind.u64.wrap x20;let x22:=Int.fdiv x21 (2 ^ 1);let x23:=IntKind.i64.wrap x22;let x24:=IntKind.i64.wrap (v9 - x23);idxK x24 v1 fun _=>Option.bind (v10[(0+(Int.toNat x24))]?) fun(e25:CV)=>let e26:=(cell1 e25).headD .nili;let e27:=(cell1 e25).tail.headD .nili;let e28:=(cell1 e25).tail.tail.headD .nili;cond (qbi .u32 e26&&(qcm 3 e27&&(qbi .u8 e28&&true))) (let l31:=qa8 e28;idxK x23 v1 fun _=>Option.bind (v10[(0+(Int.toNat x23))]?) fun(e32:CV)=>let e33:=(cell1 e32).headD .nili;let e34:=(cell1 e32).tail.headD .nili;let e35:=(cell1 e32).tail.tail.headD .nili;cond (qbi .u32 e33&&(qcm 3 e34&&(qbi .u8 e35&&true))) (let l38:=qa8 e35;cond (qad l31&&qad l38) (let r39:=qbf l31 l38;cond (!(decide (r39<0))) (let x40:=IntKind.i64.wrap (x23+1);again v1 v2 v3 v4 v5 v6 x40 v8 v9 v10) (again v1 v2 v3 v4 v5 v6 v7 x23 v9 v10)) none) none) none) (k0 v1 v2 v3 v4 v5 v6 v7 v10)
def qid(rk:Nat)(k0:xbiv):Nat->Nat->Int->Int->Int->Int->Int->Int->Int->Int->LC->OO:=qdm (fun a=>qmu rk a k0) (fun _ _ _ _ _ _ _ _ _ _=>none)
def qyr(rk:Nat):St->(KT)->OO:=fun σ k=>match σ with|⟨[(q1,.ref q2 q3 v1 true q4),(q5,.cl (.int .i64 v2)),(q6,.cl (.fn (.func q7) [] [])),(q8,.cl (.int .i64 v3)),(q9,.cl (.int .i64 v4))],[(q10,⟨.gen q11 v5,false⟩)]⟩=>cond (eqL [q1,q2,q3,q4,q5,q6,q7,q8,q9,q10,q11] [0,0,0,3,1,4,62,10,11,0,3]) (shut (qlg rk (fun y1 y2 y3 y4=>k (.exit 0) ⟨[(0,.ref 0 0 y1 true 3),(1,zvi y2),(10,zvi y3)],[(0,⟨.gen 3 y4,false⟩)]⟩) FUEL) v1 v2 v3 v4 v5) none|_=>none
def qyt(rk:Nat):St->(KT)->OO:=fun σ k=>match σ with|⟨[(q1,.ref q2 q3 v1 true q4),(q5,.cl (.int .i64 v2)),(q6,.cl (.int .i64 v3))],[(q7,⟨.gen q8 v4,false⟩)]⟩=>cond (eqL [q1,q2,q3,q4,q5,q6,q7,q8] [0,0,0,3,10,13,0,3]) (shut (qlh rk (fun y1=>k (.exit 2) ⟨[],[(0,⟨.gen 3 y1,false⟩)]⟩) FUEL) v1 v2 v3 v4) none|_=>none
def qs8(rk:Nat):St->(KT)->OO:=fun σ k=>match σ with|⟨[(q1,.ref q2 q3 v1 true q4),(q5,.cl (.int .i64 v2)),(q6,.cl (.fn (.func q7) [] [])),(q8,.cl (.int .i64 v3)),(q9,.cl (.int .i64 v4))],[(q10,⟨.gen q11 v5,false⟩)]⟩=>cond (eqL [q1,q2,q3,q4,q5,q6,q7,q8,q9,q10,q11] [0,0,0,3,2,4,62,14,15,0,3]) (shut (qib rk (fun y1 y2 y3 y4=>k (.exit 4) ⟨[(0,.ref 0 0 y1 true 3),(2,zvi y2),(14,zvi y3)],[(0,⟨.gen 3 y4,false⟩)]⟩) FUEL) v1 v2 v3 v4 v5) none|_=>none
def qs9(rk:Nat):St->(KT)->OO:=fun σ k=>match σ with|⟨[(q1,.ref q2 q3 v1 true q4),(q5,.cl (.int .i64 v2)),(q6,.cl (.int .i64 v3))],[(q7,⟨.gen q8 v4,false⟩)]⟩=>cond (eqL [q1,q2,q3,q4,q5,q6,q7,q8] [0,0,0,3,14,17,0,3]) (shut (qic rk (fun y1=>k (.exit 6) ⟨[],[(0,⟨.gen 3 y1,false⟩)]⟩) FUEL) v1 v2 v3 v4) none|_=>none
def qta(rk:Nat):St->(KT)->OO:=fun σ k=>match σ with|⟨[(q1,.ref q2 q3 v1 true q4),(q5,.cl (.int .i64 v2)),(q6,.cl (.int .i64 v3)),(q7,.cl (.int .i64 v4)),(q8,.cl (.fn (.func q9) [] [])),(q10,.cl (.int .i64 v5)),(q11,.cl (.int .i64 v6)),(q12,.cl (.int .i64 v7)),(q13,.cl (.int .i64 v8)),(q14,.cl (.int .i64 v9))],[(q15,⟨.gen q16 v10,false⟩)]⟩=>cond (eqL [q1,q2,q3,q4,q5,q6,q7,q8,q9,q10,q11,q12,q13,q14,q15,q16] [0,0,0,3,1,2,3,4,62,18,19,20,21,22,0,3]) (shut (qid rk (fun y1 y2 y3 y4 y5 y6 y7 y8=>k (.exit 8) ⟨[(0,.ref 0 0 y1 true 3),(1,zvi y2),(2,zvi y3),(3,zvi y4),(4,.cl (.fn (.func 62) [] [])),(18,zvi y5),(19,zvi y6),(20,zvi y7)],[(0,⟨.gen 3 y8,false⟩)]⟩) FUEL) v1 v2 v3 v4 v5 v6 v7 v8 v9 v10) none|_=>none
def qht(rk:Nat)(k0:LC->OO)(v1:Nat)(v2 v3 v4 v5 v6 v7 v8:Int)(v9:LC):OO:=let x19:=IntKind.i64.wrap (v6 - 1);shut (qid rk (fun y20 y21 y22 y23 y24 y25 y26 y27=>let x28:=IntKind.i64.wrap (y25 - y26);cond (decide (y26<y22)) (cond (decide (y22<x28)) (cond (rows3 y20 y27&&qdg y20 y26 y22 x28) (let r29:=rotC y27 y26 y22 x28;cond (decide (y21<y26)) (cond (decide (y26<y24)) (cond (rows3 y20 r29&&(qdg y20 y21 y26 y24&&(half3 r29 y21 y26 y24&&decide ((y24 - y21).toNat<rk)))) (let r30:=sym3 r29 y21 y26 y24;cond (decide (y24<x28)) (cond (decide (x28<y23)) (cond (rows3 y20 r30&&(qdg y20 y24 x28 y23&&(half3 r30 y24 x28 y23&&decide ((y23 - y24).toNat<rk)))) (let r31:=sym3 r30 y24 x28 y23;k0 r31) none) (k0 r30)) (k0 r30)) none) (cond (decide (y24<x28)) (cond (decide (x28<y23)) (cond (rows3 y20 r29&&(qdg y20 y24 x28 y23&&(half3 r29 y24 x28 y23&&decide ((y23 - y24).toNat<rk)))) (let r32:=sym3 r29 y24 x28 y23;k0 r32) none) (k0 r29)) (k0 r29))) (cond (decide (y24<x28)) (cond (decide (x28<y23)) (cond (rows3 y20 r29&&(qdg y20 y24 x28 y23&&(half3 r29 y24 x28 y23&&decide ((y23 - y24).toNat<rk)))) (let r33:=sym3 r29 y24 x28 y23;k0 r33) none) (k0 r29)) (k0 r29))) none) (cond (decide (y21<y26)) (cond (decide (y26<y24)) (cond (rows3 y20 y27&&(qdg y20 y21 y26 y24&&(half3 y27 y21 y26 y24&&decide ((y24 - y21).toNat<rk)))) (let r34:=sym3 y27 y21 y26 y24;cond (decide (y24<x28)) (cond (decide (x28<y23)) (cond (rows3 y20 r34&&(qdg y20 y24 x28 y23&&(half3 r34 y24 x28 y23&&decide ((y23 - y24).toNat<rk)))) (let r35:=sym3 r34 y24 x28 y23;k0 r35) none) (k0 r34)) (k0 r34)) none) (cond (decide (y24<x28)) (cond (decide (x28<y23)) (cond (rows3 y20 y27&&(qdg y20 y24 x28 y23&&(half3 y27 y24 x28 y23&&decide ((y23 - y24).toNat<rk)))) (let r36:=sym3 y27 y24 x28 y23;k0 r36) none) (k0 y27)) (k0 y27))) (cond (decide (y24<x28)) (cond (decide (x28<y23)) (cond (rows3 y20 y27&&(qdg y20 y24 x28 y23&&(half3 y27 y24 x28 y23&&decide ((y23 - y24).toNat<rk)))) (let r37:=sym3 y27 y24 x28 y23;k0 r37) none) (k0 y27)) (k0 y27)))) (cond (decide (y21<y26)) (cond (decide (y26<y24)) (cond (rows3 y20 y27&&(qdg y20 y21 y26 y24&&(half3 y27 y21 y26 y24&&decide ((y24 - y21).toNat<rk)))) (let r38:=sym3 y27 y21 y26 y24;cond (decide (y24<x28)) (cond (decide (x28<y23)) (cond (rows3 y20 r38&&(qdg y20 y24 x28 y23&&(half3 r38 y24 x28 y23&&decide ((y23 - y24).toNat<rk)))) (let r39:=sym3 r38 y24 x28 y23;k0 r39) none) (k0 r38)) (k0 r38)) none) (cond (decide (y24<x28)) (cond (decide (x28<y23)) (cond (rows3 y20 y27&&(qdg y20 y24 x28 y23&&(half3 y27 y24 x28 y23&&decide ((y23 - y24).toNat<rk)))) (let r40:=sym3 y27 y24 x28 y23;k0 r40) none) (k0 y27)) (k0 y27))) (cond (decide (y24<x28)) (cond (decide (x28<y23)) (cond (rows3 y20 y27&&(qdg y20 y24 x28 y23&&(half3 y27 y24 x28 y23&&decide ((y23 - y24).toNat<rk)))) (let r41:=sym3 y27 y24 x28 y23;k0 r41) none) (k0 y27)) (k0 y27)))) FUEL) v1 v2 v3 v4 v5 v6 v7 v8 x19 v9
def qsr(rk:Nat):St->(KT)->OO:=fun σ k=>match σ with|⟨[(q1,.ref q2 q3 v1 true q4),(q5,.cl (.int .i64 v2)),(q6,.cl (.int .i64 v3)),(q7,.cl (.int .i64 v4)),(q8,.cl (.fn (.func q9) [] [])),(q10,.cl (.int .i64 v5)),(q11,.cl (.int .i64 v6)),(q12,.cl (.int .i64 v7)),(q13,.cl (.int .i64 v8))],[(q14,⟨.gen q15 v9,false⟩)]⟩=>cond (eqL [q1,q2,q3,q4,q5,q6,q7,q8,q9,q10,q11,q12,q13,q14,q15] [0,0,0,3,1,2,3,4,62,18,19,20,21,0,3]) (shut (qht rk (fun y1=>k .normal ⟨[],[(0,⟨.gen 3 y1,false⟩)]⟩)) v1 v2 v3 v4 v5 v6 v7 v8 v9) none|_=>none
def ETSym3(rk:Nat):Env:= {
 orc:=fun g=>cond (Nat.beq g 62) ((kT KTCmp3)) (cond (Nat.beq g 109) STSym3 (cond (Nat.beq g 126) ((kT KTRot3)) (fun _ _=>Tree.fail)))
 pre:=fun g=>cond (Nat.beq g 62) ((kP KTCmp3)) (cond (Nat.beq g 109) (qux (rk)) (cond (Nat.beq g 126) ((kP KTRot3)) (fun _ _=>true)))
 byref:=fun g=>cond (Nat.beq g 109) ([0]) (cond (Nat.beq g 126) ([0]) ([]))
 live:=fun r=>cond (Nat.beq r 3) ([0,1,4,10,11]) (cond (Nat.beq r 9) ([0,10,13]) (cond (Nat.beq r 15) ([0,2,4,14,15]) (cond (Nat.beq r 21) ([0,14,17]) (cond (Nat.beq r 32) ([0,1,2,3,4,18,19,20,21]) (cond (Nat.beq r 33) ([0,1,2,3,4,18,19,20,21,22]) ([]))))))
 glob:=qa6
 nt:=220
 lp:=fun r=>cond (Nat.beq r 3) (some (qyr rk)) (cond (Nat.beq r 9) (some (qyt rk)) (cond (Nat.beq r 15) (some (qs8 rk)) (cond (Nat.beq r 21) (some (qs9 rk)) (cond (Nat.beq r 33) (some (qta rk)) (none)))))
 xl:=fun r=>cond (Nat.beq r 0) (some []) (cond (Nat.beq r 1) (some [0,1,10]) (cond (Nat.beq r 3) (some []) (cond (Nat.beq r 5) (some [0,2,14]) (cond (Nat.beq r 7) (some []) (cond (Nat.beq r 9) (some [0,1,2,3,4,18,19,20]) (cond (Nat.beq r 1032) (some []) (none)))))))
 jn:=fun r=>cond (Nat.beq r 32) (some (qsr rk)) (none)
}
theorem q4l(rk:Nat):LpT Tryz.prog (ETSym3 rk) Tryz.f109 0 3 (qyr rk):=by
 intro σ k r h;unfold qyr at h;split at h
 ·obtain⟨hc,j⟩:=qaa h;cases qay hc;rw[qab] at j;apply it5 j
  ·intro n;kernel_rfl
  ·rfl
 ·cases h
theorem q4m(rk:Nat):LpT Tryz.prog (ETSym3 rk) Tryz.f109 1 9 (qyt rk):=by
 intro σ k r h;unfold qyt at h;split at h
 ·obtain⟨hc,j⟩:=qaa h;cases qay hc;rw[qab] at j;apply it4 j
  ·intro n;kernel_rfl
  ·rfl
 ·cases h
theorem qyp(rk:Nat):LpT Tryz.prog (ETSym3 rk) Tryz.f109 2 15 (qs8 rk):=by
 intro σ k r h;unfold qs8 at h;split at h
 ·obtain⟨hc,j⟩:=qaa h;cases qay hc;rw[qab] at j;apply it5 j
  ·intro n;kernel_rfl
  ·rfl
 ·cases h
theorem qyq(rk:Nat):LpT Tryz.prog (ETSym3 rk) Tryz.f109 3 21 (qs9 rk):=by
 intro σ k r h;unfold qs9 at h;split at h
 ·obtain⟨hc,j⟩:=qaa h;cases qay hc;rw[qab] at j;apply it4 j
  ·intro n;kernel_rfl
  ·rfl
 ·cases h
theorem qys(rk:Nat):LpT Tryz.prog (ETSym3 rk) Tryz.f109 4 33 (qta rk):=by
 intro σ k r h;unfold qta at h;split at h
 ·obtain⟨hc,j⟩:=qaa h;cases qay hc;rw[qab] at j;apply it10 j
  ·intro n;kernel_rfl
  ·rfl
 ·cases h
theorem qxu(rk:Nat):JnOk Tryz.prog (ETSym3 rk) 40 (nthc (ETSym3 rk) Tryz.f109 5) 32 (qsr rk):=by
 intro σ k r h;unfold qsr at h;split at h
 ·obtain⟨hc,j⟩:=qaa h;cases qay hc;rw[qab] at j;exact zds (by kernel_rfl) j
 ·cases h
theorem q9g(rk:Nat): ∀c,Tryz.f109.body=some c->qbe Tryz.prog (ETSym3 rk) 40 c:=lsB (ids:=[(true,3),(true,9),(true,15),(true,21),(true,33),(false,32)]) (by kernel_rfl) ⟨⟨_,rfl,q4l rk⟩,⟨_,rfl,q4m rk⟩,⟨_,rfl,qyp rk⟩,⟨_,rfl,qyq rk⟩,⟨_,rfl,qys rk⟩,⟨_,rfl,qxu rk⟩,trivial⟩
def xbjy(rk:Nat)(m:Nat)(a:Int)(p:Int)(b:Int)(l:LC):OO:=let x1:=IntKind.i64.wrap (p - a);cond (decide (x1=1)) (shut (qlg rk (fun y2 y3 y4 y5=>shut (qlh rk (fun y6=>zR [] [some ⟨.gen 3 y6,false⟩]) FUEL) y2 y4 y3 y5) FUEL) m a p b l) (let x7:=IntKind.i64.wrap (b - p);cond (decide (x7=1)) (shut (qib rk (fun y8 y9 y10 y11=>shut (qic rk (fun y12=>zR [] [some ⟨.gen 3 y12,false⟩]) FUEL) y8 y10 y9 y11) FUEL) m p a p l) (let x13:=IntKind.i64.wrap (a+b);let x14:=IntKind.u64.wrap x13;let x15:=Int.fdiv x14 (2 ^ 1);let x16:=IntKind.i64.wrap x15;let x17:=IntKind.i64.wrap (x16+p);cond (decide (x16<p)) (let x18:=IntKind.i64.wrap (x17 - b);shut (qht rk (fun y19=>zR [] [some ⟨.gen 3 y19,false⟩])) m a p b x16 x17 x18 x16 l) (shut (qht rk (fun y20=>zR [] [some ⟨.gen 3 y20,false⟩])) m a p b x16 x17 a p l)))
theorem xbdh(rk:Nat)(m:Nat)(a:Int)(p:Int)(b:Int)(l:LC):qnm Tryz.prog (ETSym3 rk) 40 false Tryz.f109 [.ref 0 0 m true 3,.cl (.int .i64 a),.cl (.int .i64 p),.cl (.int .i64 b),.cl (.fn (.func 62) [] [])] [⟨.gen 3 l,false⟩]=xbjy rk m a p b l:=by kernel_rfl
def qps(again:Nat->Int->Int->Int->Int->LC->OO)(k0:Nat->Int->Int->Int->LC->OO)(v1:Nat)(v2 v3 v4 v5:Int)(v6:LC):OO:=cond (decide (v2<v5)) (idxK v5 v1 fun _=>Option.bind (v6[(0+(Int.toNat v5))]?) fun(e2:CV)=>let e3:=(cell1 e2).headD .nili;let e4:=(cell1 e2).tail.headD .nili;let e5:=(cell1 e2).tail.tail.headD .nili;cond (qbi .u32 e3&&(qcm 3 e4&&(qbi .u8 e5&&true))) (let l8:=qa8 e5;let x9:=IntKind.i64.wrap (v5 - 1);idxK x9 v1 fun _=>Option.bind (v6[(0+(Int.toNat x9))]?) fun(e10:CV)=>let e11:=(cell1 e10).headD .nili;let e12:=(cell1 e10).tail.headD .nili;let e13:=(cell1 e10).tail.tail.headD .nili;cond (qbi .u32 e11&&(qcm 3 e12&&(qbi .u8 e13&&true))) (let l16:=qa8 e13;cond (qad l8&&qad l16) (let r17:=qbf l8 l16;cond (decide (r17<0)) (let x18:=IntKind.i64.wrap (v5 - 1);let x19:=IntKind.i64.wrap (v5 - 1);idxK x19 v1 fun _=>Option.bind (v6[(0+(Int.toNat x19))]?) fun(e20:CV)=>let e21:=(cell1 e20).headD .nili;let e22:=(cell1 e20).tail.headD .nili;let e23:=(cell1 e20).tail.tail.headD .nili;cond (qbi .u32 e21&&(qcm 3 e22&&(qbi .u8 e23&&true))) (let l24:=qa8 e21;let l25:=qc3 e22;let l26:=qa8 e23;idxK v5 v1 fun _=>Option.bind (v6[(0+(Int.toNat v5))]?) fun(e27:CV)=>let e28:=(cell1 e27).headD .nili;let e29:=(cell1 e27).tail.headD .nili;let e30:=(cell1 e27).tail.tail.headD .nili;cond (qbi .u32 e28&&(qcm 3 e29&&(qbi .u8 e30&&true))) (let l31:=qa8 e28;let l32:=qc3 e29;let l33:=qa8 e30;idxK v5 v1 fun _=>let l34:=v6.set (0+(Int.toNat v5)) (.agg [.sli .u32 l24,.slg 3 l25,.sli .u8 l26]);idxK x18 v1 fun _=>let l35:=l34.set (0+(Int.toNat x18)) (.agg [.sli .u32 l31,.slg 3 l32,.sli .u8 l33]);let x36:=IntKind.i64.wrap (v5 - 1);again v1 v2 v3 v4 x36 l35) none) none) (k0 v1 v2 v3 v4 v6)) none) none) none) (k0 v1 v2 v3 v4 v6)
def qk8(k0:Nat->Int->Int->Int->LC->OO):Nat->Nat->Int->Int->Int->Int->LC->OO:=qdm (fun a=>qps a k0) (fun _ _ _ _ _ _=>none)
def qh5(again:Nat->Int->Int->Int->LC->OO)(k0:LC->OO)(v1:Nat)(v2 v3 v4:Int)(v5:LC):OO:=cond (decide (v4<v3)) (shut (qk8 (fun y2 y3 y4 y5 y6=>let x7:=IntKind.i64.wrap (y5+1);again y2 y3 y4 x7 y6) FUEL) v1 v2 v3 v4 v4 v5) (k0 v5)
def qjh(k0:LC->OO):Nat->Nat->Int->Int->Int->LC->OO:=qdm (fun a=>qh5 a k0) (fun _ _ _ _ _=>none)
def qyb:St->(KT)->OO:=fun σ k=>match σ with|⟨[(q1,.ref q2 q3 v1 true q4),(q5,.cl (.int .i64 v2)),(q6,.cl (.int .i64 v3)),(q7,.cl (.fn (.func q8) [] [])),(q9,.cl (.int .i64 v4)),(q10,.cl (.int .i64 v5))],[(q11,⟨.gen q12 v6,false⟩)]⟩=>cond (eqL [q1,q2,q3,q4,q5,q6,q7,q8,q9,q10,q11,q12] [0,0,0,3,1,2,3,62,8,9,0,3]) (shut (qk8 (fun y1 y2 y3 y4 y5=>k (.exit 2) ⟨[(0,.ref 0 0 y1 true 3),(1,zvi y2),(2,zvi y3),(3,.cl (.fn (.func 62) [] [])),(8,zvi y4)],[(0,⟨.gen 3 y5,false⟩)]⟩) FUEL) v1 v2 v3 v4 v5 v6) none|_=>none
def qya:St->(KT)->OO:=fun σ k=>match σ with|⟨[(q1,.ref q2 q3 v1 true q4),(q5,.cl (.int .i64 v2)),(q6,.cl (.int .i64 v3)),(q7,.cl (.fn (.func q8) [] [])),(q9,.cl (.int .i64 v4))],[(q10,⟨.gen q11 v5,false⟩)]⟩=>cond (eqL [q1,q2,q3,q4,q5,q6,q7,q8,q9,q10,q11] [0,0,0,3,1,2,3,62,8,0,3]) (shut (qjh (fun y1=>k (.exit 0) ⟨[],[(0,⟨.gen 3 y1,false⟩)]⟩) FUEL) v1 v2 v3 v4 v5) none|_=>none
def ETIns3:Env:= {mkE BTIns3 qa6 53 with live:=lk [] [(1,[0,1,2,3,8]),(4,[0,1,2,3,8,9])],lp:=lk none [(1,some qya),(4,some qyb)],xl:=lk none [(0,some []),(1,some []),(3,some [0,1,2,3,8])]}
theorem q39:LpT Tryz.prog (ETIns3) Tryz.f108 0 4 qyb:=by
 intro σ k r h;unfold qyb at h;split at h
 ·obtain⟨hc,j⟩:=qaa h;cases qay hc;rw[qab] at j;apply it6 j
  ·intro n;kernel_rfl
  ·rfl
 ·cases h
theorem q38:LpT Tryz.prog (ETIns3) Tryz.f108 1 1 qya:=by
 intro σ k r h;unfold qya at h;split at h
 ·obtain⟨hc,j⟩:=qaa h;cases qay hc;rw[qab] at j;apply it5 j
  ·intro n;kernel_rfl
  ·rfl
 ·cases h
def xbnp(m:Nat)(a:Int)(b:Int)(l:LC):OO:=let x1:=IntKind.i64.wrap (a+1);shut (qjh (fun y2=>zR [] [some ⟨.gen 3 y2,false⟩]) FUEL) m a b x1 l
def qh7(again:Nat->Int->Int->Int->LC->OO)(k0:Nat->Int->Int->LC->OO)(v1:Nat)(v2 v3 v4:Int)(v5:LC):OO:=cond (decide (v4<=v2)) (cond (rows3 v1 v5&&decide (0<=v3/\v3<=v4/\v4<=(v1:Int))) (let r1:=ins3 v5 v3 v4;let x2:=IntKind.i64.wrap (v4+20);again v1 v2 v4 x2 r1) none) (k0 v1 v2 v3 v5)
def qla(k0:Nat->Int->Int->LC->OO):Nat->Nat->Int->Int->Int->LC->OO:=qdm (fun a=>qh7 a k0) (fun _ _ _ _ _=>none)
def qh8(again:Nat->Int->Int->Int->Int->LC->OO)(k0:Nat->Int->Int->Int->LC->OO)(v1:Nat)(v2 v3 v4 v5:Int)(v6:LC):OO:=cond (decide (v5<=v2)) (let x7:=IntKind.i64.wrap (v4+v3);cond (rows3 v1 v6&&(qdg v1 v4 x7 v5&&half3 v6 v4 x7 v5)) (let r8:=sym3 v6 v4 x7 v5;let x9:=IntKind.i64.wrap ((2:Int)*v3);let x10:=IntKind.i64.wrap (v5+x9);again v1 v2 v3 v5 x10 r8) none) (k0 v1 v2 v3 v4 v6)
def qlb(k0:Nat->Int->Int->Int->LC->OO):Nat->Nat->Int->Int->Int->Int->LC->OO:=qdm (fun a=>qh8 a k0) (fun _ _ _ _ _ _=>none)
def qpw(again:Nat->Int->Int->LC->OO)(k0:LC->OO)(v1:Nat)(v2 v3:Int)(v4:LC):OO:=cond (decide (v3<v2)) (let x6:=IntKind.i64.wrap ((2:Int)*v3);shut (qlb (fun y7 y8 y9 y10 y11=>let x12:=IntKind.i64.wrap (y10+y9);cond (decide (x12<y8)) (cond (rows3 y7 y11&&(qdg y7 y10 x12 y8&&half3 y11 y10 x12 y8)) (let r13:=sym3 y11 y10 x12 y8;let x14:=IntKind.i64.wrap (y9*2);again y7 y8 x14 r13) none) (let x15:=IntKind.i64.wrap (y9*2);again y7 y8 x15 y11)) FUEL) v1 v2 v3 0 x6 v4) (k0 v4)
def qg1(k0:LC->OO):Nat->Nat->Int->Int->LC->OO:=qdm (fun a=>qpw a k0) (fun _ _ _ _=>none)
def qyh:St->(KT)->OO:=fun σ k=>match σ with|⟨[(q1,.ref q2 q3 v1 true q4),(q5,.cl (.int .i64 v2)),(q6,.cl (.fn (.func q7) [] [])),(q8,.cl (.int .i64 q9)),(q10,.cl (.int .i64 v3)),(q11,.cl (.int .i64 v4))],[(q12,⟨.gen q13 v5,false⟩)]⟩=>cond (eqL [q1,q2,q3,q4,q5,q6,q7,q8,q10,q11,q12,q13] [0,0,0,3,1,2,62,6,7,8,0,3]&&decide (q9=20)) (shut (qla (fun y1 y2 y3 y4=>k (.exit 0) ⟨[(0,.ref 0 0 y1 true 3),(1,zvi y2),(2,.cl (.fn (.func 62) [] [])),(6,zvi 20),(7,zvi y3)],[(0,⟨.gen 3 y4,false⟩)]⟩) FUEL) v1 v2 v3 v4 v5) none|_=>none
def qyj:St->(KT)->OO:=fun σ k=>match σ with|⟨[(q1,.ref q2 q3 v1 true q4),(q5,.cl (.int .i64 v2)),(q6,.cl (.fn (.func q7) [] [])),(q8,.cl (.int .i64 v3)),(q9,.cl (.int .i64 v4)),(q10,.cl (.int .i64 v5))],[(q11,⟨.gen q12 v6,false⟩)]⟩=>cond (eqL [q1,q2,q3,q4,q5,q6,q7,q8,q9,q10,q11,q12] [0,0,0,3,1,2,62,6,7,8,0,3]) (shut (qlb (fun y1 y2 y3 y4 y5=>k (.exit 4) ⟨[(0,.ref 0 0 y1 true 3),(1,zvi y2),(2,.cl (.fn (.func 62) [] [])),(6,zvi y3),(7,zvi y4)],[(0,⟨.gen 3 y5,false⟩)]⟩) FUEL) v1 v2 v3 v4 v5 v6) none|_=>none
def qyi:St->(KT)->OO:=fun σ k=>match σ with|⟨[(q1,.ref q2 q3 v1 true q4),(q5,.cl (.int .i64 v2)),(q6,.cl (.fn (.func q7) [] [])),(q8,.cl (.int .i64 v3))],[(q9,⟨.gen q10 v4,false⟩)]⟩=>cond (eqL [q1,q2,q3,q4,q5,q6,q7,q8,q9,q10] [0,0,0,3,1,2,62,6,0,3]) (shut (qg1 (fun y1=>k (.exit 2) ⟨[],[(0,⟨.gen 3 y1,false⟩)]⟩) FUEL) v1 v2 v3 v4) none|_=>none
def ETSta3:Env:= {mkE BTSta3 qa6 63 with byref:=lk [] [(108,[0]),(109,[0])],live:=lk [] [(2,[0,1,2,6,7,8]),(7,[0,1,2,6]),(9,[0,1,2,6,7,8])],lp:=lk none [(2,some qyh),(7,some qyi),(9,some qyj)],xl:=lk none [(0,some []),(1,some [0,1,2,6,7]),(3,some []),(5,some [0,1,2,6,7])]}
theorem q4f:LpT Tryz.prog (ETSta3) Tryz.f86 0 2 qyh:=by
 intro σ k r h;unfold qyh at h;split at h
 ·obtain⟨hc,j⟩:=qaa h;simp only[zab,qev,decide_eq_true_eq,zao] at hc;obtain⟨hc,rfl⟩:=hc;cases qay hc;rw[qab] at j;apply it5 j
  ·intro n;kernel_rfl
  ·rfl
 ·cases h
theorem q4h:LpT Tryz.prog (ETSta3) Tryz.f86 1 9 qyj:=by
 intro σ k r h;unfold qyj at h;split at h
 ·obtain⟨hc,j⟩:=qaa h;cases qay hc;rw[qab] at j;apply it6 j
  ·intro n;kernel_rfl
  ·rfl
 ·cases h
theorem q4g:LpT Tryz.prog (ETSta3) Tryz.f86 2 7 qyi:=by
 intro σ k r h;unfold qyi at h;split at h
 ·obtain⟨hc,j⟩:=qaa h;cases qay hc;rw[qab] at j;apply it4 j
  ·intro n;kernel_rfl
  ·rfl
 ·cases h
def xbnx(m:Nat)(n:Int)(l:LC):OO:=shut (qla (fun y1 y2 y3 y4=>cond (rows3 y1 y4&&decide (0<=y3/\y3<=y2/\y2<=(y1:Int))) (let r5:=ins3 y4 y3 y2;shut (qg1 (fun y6=>zR [] [some ⟨.gen 3 y6,false⟩]) FUEL) y1 y2 20 r5) none) FUEL) m n 0 20 l
def ETSort3:Env:= {mkE BTSort3 qa6 9 with byref:=lk [] [(86,[0])],xl:=lk none [(0,some [])]}
def xbnv(m:Nat)(l:LC):OO:=cond (rows3 m l&&decide ((m:Int)=(m:Int))) (let r1:=srt3 l;zR [] [some ⟨.gen 3 r1,false⟩]) none
def ETClone:Env:= {mkE BTClone qa6 8 with xl:=lk none [(0,some [2])]}
def xbgg(o:LI):OO:=cond (Nat.beq o.length 0) (xbjg (zR [.cl (.sli .u32 [])] []) (let l1:=[]++o;rmK l1.length 4<| zR [.cl (.sli .u32 l1)] [])) (let l2:=[]++o;rmK l2.length 4<| zR [.cl (.sli .u32 l2)] [])
def ETTw1:Env:= {mkE BTTw1 qa6 9 with xl:=lk none [(0,some [3])]}
def xbwc(o:LI)(k:LC)(p:LI)(q:LC):OO:=cond (qj2 p) (let r1:=qa2 p o;zR [zvb r1] [some ⟨.var [.cl (.sli .u32 p),zvg q],false⟩]) none
def ETOn1:Env:= {mkE BTOn1 qa6 8 with xl:=lk none [(0,some [3])]}
def xbwb(o:LI)(k:LC)(p:LI):OO:=cond (qj2 o) (let r1:=qa2 o p;zR [zvb r1] [some ⟨.var [.cl (.sli .u32 p)],false⟩]) none
def quc(again:LC->Int->Int->LI->LC->OO)(k0:Int->LI->LC->OO)(k1:LI->LC->OO)(v1:LC)(v2 v3:Int)(v4:LI)(v5:LC):OO:=cond (decide (v3<v2)) (getK v1 v3 fun e1=>let e2:=(cell1 e1).headD .nili;let e3:=(cell1 e1).tail.headD .nili;cond (qbi .u32 e2&&(qcm 3 e3&&true)) (let l4:=qa8 e2;cond (qj2 v4) (let r6:=qa2 v4 l4;cond (r6) (k0 v3 v4 v5) (let x7:=IntKind.i64.wrap (v3+1);again v1 v2 x7 v4 v5)) none) none) (k1 v4 v5)
def qub(k0:Int->LI->LC->OO)(k1:LI->LC->OO):Nat->LC->Int->Int->LI->LC->OO:=qdm (fun a=>quc a k0 k1) (fun _ _ _ _ _=>none)
def qmp(again:LC->Int->Int->LI->OO)(k0:Int->LI->OO)(k1:LI->OO)(v1:LC)(v2 v3:Int)(v4:LI):OO:=cond (decide (v3<v2)) (getK v1 v3 fun e1=>let e2:=(cell1 e1).headD .nili;let e3:=(cell1 e1).tail.headD .nili;cond (qbi .u32 e2&&(qcm 3 e3&&true)) (let l4:=qa8 e2;cond (qj2 l4) (let r6:=qa2 l4 v4;cond (r6) (k0 v3 v4) (let x7:=IntKind.i64.wrap (v3+1);again v1 v2 x7 v4)) none) none) (k1 v4)
def qk7(k0:Int->LI->OO)(k1:LI->OO):Nat->LC->Int->Int->LI->OO:=qdm (fun a=>qmp a k0 k1) (fun _ _ _ _=>none)
def q6m:St->(KT)->OO:=fun σ k=>match σ with|⟨[(q1,.cl (.slg q2 v1)),(q3,.fn (.func q4) [] [.ptr q5 q6 q7]),(q8,.cl (.int .i64 v2)),(q9,.cl (.int .i64 v3))],[(q10,⟨.var [.cl (.sli .u32 v4),.cl (.slg q11 v5)],false⟩)]⟩=>cond (eqL [q1,q2,q3,q4,q5,q6,q7,q8,q9,q10,q11] [0,2,1,55,0,0,0,7,8,0,3]) (shut (qub (fun y1 y2 y3=>k .ret ⟨[(4,zvi y1)],[(0,⟨.var [.cl (.sli .u32 y2),zvg y3],false⟩)]⟩) (fun y1 y2=>k (.exit 0) ⟨[],[(0,⟨.var [.cl (.sli .u32 y1),zvg y2],false⟩)]⟩) FUEL) v1 v2 v3 v4 v5) none|⟨[(q1,.cl (.slg q2 v1)),(q3,.fn (.func q4) [] [.ptr q5 q6 q7]),(q8,.cl (.int .i64 v2)),(q9,.cl (.int .i64 v3))],[(q10,⟨.var [.cl (.sli .u32 v4)],false⟩)]⟩=>cond (eqL [q1,q2,q3,q4,q5,q6,q7,q8,q9,q10] [0,2,1,49,0,0,0,7,8,0]) (shut (qk7 (fun y1 y2=>k .ret ⟨[(4,zvi y1)],[(0,⟨.var [.cl (.sli .u32 y2)],false⟩)]⟩) (fun y1=>k (.exit 0) ⟨[],[(0,⟨.var [.cl (.sli .u32 y1)],false⟩)]⟩) FUEL) v1 v2 v3 v4) none|_=>none
def ETIdx:Env:= {mkE BTIdx qa6 19 with byref:=lk [] [(49,[1]),(55,[1])],live:=lk [] [(2,[0,1,7,8])],lp:=lk none [(2,some q6m)],xl:=lk none [(0,some [4]),(1,some [])]}
theorem q6n:LpT Tryz.prog (ETIdx) Tryz.f48 0 2 q6m:=by
 intro σ k r h;unfold q6m at h;split at h
 ·obtain⟨hc,j⟩:=qaa h;cases qay hc;rw[qab] at j;apply it5 j
  ·intro n;kernel_rfl
  ·rfl
 ·obtain⟨hc,j⟩:=qaa h;cases qay hc;rw[qab] at j;apply it4 j
  ·intro n;kernel_rfl
  ·rfl
 ·cases h
def xbgh(l:LC)(p:LI)(q:LC):OO:=shut (qub (fun y1 y2 y3=>zR [zvi y1] [some ⟨.var [.cl (.sli .u32 y2),zvg y3],false⟩]) (fun y4 y5=>zR [zvi (-1)] [some ⟨.var [.cl (.sli .u32 y4),zvg y5],false⟩]) FUEL) l (l.length:Int) 0 p q
def xbgi(l:LC)(p:LI):OO:=shut (qk7 (fun y1 y2=>zR [zvi y1] [some ⟨.var [.cl (.sli .u32 y2)],false⟩]) (fun y3=>zR [zvi (-1)] [some ⟨.var [.cl (.sli .u32 y3)],false⟩]) FUEL) l (l.length:Int) 0 p
def ETCon:Env:= {mkE BTCon qa6 9 with byref:=lk [] [(48,[1]),(55,[1])],xl:=lk none [(0,some [4])]}
def xbv9(l:LC)(p:LI)(q:LC):OO:=cond (qbp l&&qj2 p) (let r1:=idxA p l;zR [zvb (decide ((0:Int)<=r1))] [some ⟨.var [.cl (.sli .u32 p),zvg q],false⟩]) none
def qmy(again:LC->LC->Int->Int->OO)(k0:OO)(k1:OO)(v1 v2:LC)(v3 v4:Int):OO:=cond (decide (v4<v3)) (getK v2 v4 fun e1=>let e2:=(cell1 e1).headD .nili;let e3:=(cell1 e1).tail.headD .nili;cond (qbi .u32 e2&&(qcm 3 e3&&true)) (let l4:=qa8 e2;cond (decide ((0:Int)<=v4)) (cond (decide (v4<=(v1.length:Int))) (let l6:=List.take (Int.toNat v4) v1;cond (qbp l6&&qj2 l4) (let r7:=hasA l4 l6;cond (r7) (k0) (let x8:=IntKind.i64.wrap (v4+1);again v1 v2 v3 x8)) none) none) none) none) (k1)
def qlk(k0:OO)(k1:OO):Nat->LC->LC->Int->Int->OO:=qdm (fun a=>qmy a k0 k1) (fun _ _ _ _=>none)
def qte:St->(KT)->OO:=fun σ k=>match σ with|⟨[(q1,.cl (.slg q2 v1)),(q3,.cl (.slg q4 v2)),(q5,.cl (.int .i64 v3)),(q6,.cl (.int .i64 v4))],[]⟩=>cond (eqL [q1,q2,q3,q4,q5,q6] [0,2,5,2,6,7]) (shut (qlk (k .ret ⟨[(2,zvb true)],[]⟩) (k (.exit 0) ⟨[],[]⟩) FUEL) v1 v2 v3 v4) none|_=>none
def ETTwice:Env:= {mkE BTTwice qa6 18 with byref:=lk [] [(54,[1]),(55,[1])],live:=lk [] [(2,[0,5,6,7])],lp:=lk none [(2,some qte)],xl:=lk none [(0,some [2]),(1,some [])]}
theorem qyz:LpT Tryz.prog (ETTwice) Tryz.f29 0 2 qte:=by
 intro σ k r h;unfold qte at h;split at h
 ·obtain⟨hc,j⟩:=qaa h;cases qay hc;rw[qab] at j;apply it4 j
  ·intro n;kernel_rfl
  ·rfl
 ·cases h
def xbgl(l:LC):OO:=shut (qlk (zB true) (zB false) FUEL) l l (l.length:Int) 0
def ETOrd1:Env:= {mkE BTOrd1 qa6 5 with xl:=lk none [(0,some [2,3])]}
def xbs1(t:Int)(b:LI)(k:LC):OO:=zR [.cl (.agg [.int .i64 t,.sli .u8 b,.slg 3 k]),zvb true] []
def xbdw(again:Nat->LC->Int->Int->LC->OO)(k0:OO)(k1:Nat->LC->OO)(v1:Nat)(v2:LC)(v3 v4:Int)(v5:LC):OO:=cond (decide (v4<v3)) (getK v2 v4 fun e1=>let e2:=(cell1 e1).headD .nili;let e3:=(cell1 e1).tail.headD .nili;let e4:=(cell1 e1).tail.tail.headD .nili;cond (qhl .i64 e2&&(qbi .u8 e3&&(qcm 3 e4&&true))) (let i5:=qgj e2;let l6:=qa8 e3;let l7:=qc3 e4;let r8:=true;cond (isS [.int .i64 i5,.sli .u8 l6,.slg 3 l7]) (let r9:=(qa7 [.int .i64 i5,.sli .u8 l6,.slg 3 l7]).1;let r10:=(qa7 [.int .i64 i5,.sli .u8 l6,.slg 3 l7]).2;cond (!r8) (k0) (cond (!decide (r10=0)) (k0) (let l11:=v5++([.agg [.int .i64 i5,.sli .u8 l6,.slg 3 l7,.sli .u8 r9]]);rmK l11.length 80<| let x12:=IntKind.i64.wrap (v4+1);again l11.length v2 v3 x12 l11))) none) none) (k1 v1 v5)
def que(k0:OO)(k1:Nat->LC->OO):Nat->Nat->LC->Int->Int->LC->OO:=qdm (fun a=>xbdw a k0 k1) (fun _ _ _ _ _=>none)
def q6q:St->(KT)->OO:=fun σ k=>match σ with|⟨[(q1,.cl (.fn (.func q2) [] [])),(q3,.ref q4 q5 v1 true q6),(q7,.cl (.slg q8 v2)),(q9,.cl (.int .i64 v3)),(q10,.cl (.int .i64 v4))],[(q11,⟨.gen q12 v5,false⟩)]⟩=>cond (eqL [q1,q2,q3,q4,q5,q6,q7,q8,q9,q10,q11,q12] [1,57,6,79,0,4,16,3,17,18,79,4]) (shut (que (k .ret ⟨[(4,.ref 68 0 0 true 4),(5,zvb false)],[(68,⟨.gen 4 [],false⟩)]⟩) (fun y1 y2=>k (.exit 0) ⟨[(6,.ref 79 0 y1 true 4)],[(79,⟨.gen 4 y2,false⟩)]⟩) FUEL) v1 v2 v3 v4 v5) none|_=>none
def xbu7:Env:= {mkE xbsj qa6 49 with byref:=lk [] [(84,[0])],live:=lk [] [(3,[1,6,16,17,18])],ren:=lk [] [(3,[(108,79)])],lp:=lk none [(3,some q6q)],xl:=lk none [(0,some [4,5]),(1,some [6])]}
theorem q6r:LpT Tryz.prog (xbu7) Tryz.f56 0 3 q6q:=by
 intro σ k r h;unfold q6q at h;split at h
 ·obtain⟨hc,j⟩:=qaa h;cases qay hc;rw[qab] at j;apply it5 j
  ·intro n;kernel_rfl
  ·rfl
 ·cases h
def xbvl(l:LC):OO:=cond (decide ((0:Int)<=(l.length:Int))) (cond (decide ((l.length:Int)*80<=LIM)) (cond (decide ((l.length:Int)<=LIM)) (shut (que (zR [.cl (.slg 4 []),zvb false] []) (fun y1 y2=>cond (rows4 y1 y2) (let r3:=srt4 y2;zR [.cl (.slg 4 r3),zvb true] []) none) FUEL) 0 l (l.length:Int) 0 []) none) none) none
def xbdz(again:Nat->LC->Int->Int->LC->OO)(k0:Nat->LC->OO)(v1:Nat)(v2:LC)(v3 v4:Int)(v5:LC):OO:=cond (decide (v4<v3)) (getK v2 v4 fun e1=>let e2:=(cell1 e1).headD .nili;let e3:=(cell1 e1).tail.headD .nili;let e4:=(cell1 e1).tail.tail.headD .nili;let e5:=(cell1 e1).tail.tail.tail.headD .nili;cond (qhl .i64 e2&&(qbi .u8 e3&&(qcm 3 e4&&(qbi .u8 e5&&true)))) (let i6:=qgj e2;let l7:=qa8 e3;let l8:=qc3 e4;idxK v4 v1 fun _=>let l10:=v5.set (0+(Int.toNat v4)) (.agg [.int .i64 i6,.sli .u8 l7,.slg 3 l8]);let x11:=IntKind.i64.wrap (v4+1);again v1 v2 v3 x11 l10) none) (k0 v1 v5)
def qz1(k0:Nat->LC->OO):Nat->Nat->LC->Int->Int->LC->OO:=qdm (fun a=>xbdz a k0) (fun _ _ _ _ _=>none)
def q6w:St->(KT)->OO:=fun σ k=>match σ with|⟨[(q1,.ref q2 q3 v1 true q4),(q5,.cl (.slg q6 v2)),(q7,.cl (.int .i64 v3)),(q8,.cl (.int .i64 v4))],[(q9,⟨.gen q10 v5,false⟩)]⟩=>cond (eqL [q1,q2,q3,q4,q5,q6,q7,q8,q9,q10] [3,72,0,3,9,4,10,11,72,3]) (shut (qz1 (fun y1 y2=>k (.exit 0) ⟨[(3,.ref 72 0 y1 true 3)],[(72,⟨.gen 3 y2,false⟩)]⟩) FUEL) v1 v2 v3 v4 v5) none|_=>none
def xbu9:Env:= {mkE xbsl qa6 23 with live:=lk [] [(3,[3,9,10,11])],lp:=lk none [(3,some q6w)],xl:=lk none [(0,some [2]),(1,some [3])]}
theorem q6x:LpT Tryz.prog (xbu9) Tryz.f59 0 3 q6w:=by
 intro σ k r h;unfold q6w at h;split at h
 ·obtain⟨hc,j⟩:=qaa h;cases qay hc;rw[qab] at j;apply it5 j
  ·intro n;kernel_rfl
  ·rfl
 ·cases h
def xbvr(l:LC):OO:=cond (decide ((0:Int)<=(l.length:Int))) (cond (decide ((l.length:Int)<=(l.length:Int))) (cond (decide ((l.length:Int)*56<=LIM)) (cond (decide ((l.length:Int)<=LIM)) (shut (qz1 (fun y1 y2=>zR [zvg y2] []) FUEL) (Int.toNat (l.length:Int)) l (l.length:Int) 0 (List.replicate (Int.toNat (l.length:Int)) (.agg [.int .i64 0,.sli .u8 [],.slg 3 []]))) none) none) none) none
def xbdy(again:Nat->LC->Int->Int->LC->OO)(k0:Nat->LC->OO)(v1:Nat)(v2:LC)(v3 v4:Int)(v5:LC):OO:=cond (decide (v4<v3)) (getK v2 v4 fun e1=>let e2:=(cell1 e1).headD .nili;let e3:=(cell1 e1).tail.headD .nili;let e4:=(cell1 e1).tail.tail.headD .nili;cond (qbi .u32 e2&&(qcm 3 e3&&(qbi .u8 e4&&true))) (let l5:=qa8 e2;let l6:=qc3 e3;idxK v4 v1 fun _=>let l8:=v5.set (0+(Int.toNat v4)) (.agg [.sli .u32 l5,.slg 3 l6]);let x9:=IntKind.i64.wrap (v4+1);again v1 v2 v3 x9 l8) none) (k0 v1 v5)
def qz0(k0:Nat->LC->OO):Nat->Nat->LC->Int->Int->LC->OO:=qdm (fun a=>xbdy a k0) (fun _ _ _ _ _=>none)
def q6u:St->(KT)->OO:=fun σ k=>match σ with|⟨[(q1,.ref q2 q3 v1 true q4),(q5,.cl (.slg q6 v2)),(q7,.cl (.int .i64 v3)),(q8,.cl (.int .i64 v4))],[(q9,⟨.gen q10 v5,false⟩)]⟩=>cond (eqL [q1,q2,q3,q4,q5,q6,q7,q8,q9,q10] [3,72,0,2,9,3,10,11,72,2]) (shut (qz0 (fun y1 y2=>k (.exit 0) ⟨[(3,.ref 72 0 y1 true 2)],[(72,⟨.gen 2 y2,false⟩)]⟩) FUEL) v1 v2 v3 v4 v5) none|_=>none
def xbu8:Env:= {mkE xbsk qa6 23 with live:=lk [] [(3,[3,9,10,11])],lp:=lk none [(3,some q6u)],xl:=lk none [(0,some [2]),(1,some [3])]}
theorem q6v:LpT Tryz.prog (xbu8) Tryz.f35 0 3 q6u:=by
 intro σ k r h;unfold q6u at h;split at h
 ·obtain⟨hc,j⟩:=qaa h;cases qay hc;rw[qab] at j;apply it5 j
  ·intro n;kernel_rfl
  ·rfl
 ·cases h
def xbvq(l:LC):OO:=cond (decide ((0:Int)<=(l.length:Int))) (cond (decide ((l.length:Int)<=(l.length:Int))) (cond (decide ((l.length:Int)*48<=LIM)) (cond (decide ((l.length:Int)<=LIM)) (shut (qz0 (fun y1 y2=>zR [.cl (.slg 2 y2)] []) FUEL) (Int.toNat (l.length:Int)) l (l.length:Int) 0 (List.replicate (Int.toNat (l.length:Int)) (.agg [.sli .u32 [],.slg 3 []]))) none) none) none) none
def ETOrd:Env:= {mkE BTOrd qa6 29 with xl:=lk none [(0,some [2,3])]}
def xbvn(o:LI)(k:LC):OO:=cond (xbr2 k) (let r1:=(itV k).1;let r2:=(itV k).2;cond (qj2 o) (cond (rows4 r1.length r1) (let r3:=thV r1;cond (r2) (cond (decide ((0:Int)<(r1.length:Int))) (let r4:=qg6 o;zR [.cl (.agg [.sli .u32 o,.slg 3 r3]),zvb r4] []) (zR [.cl (.agg [.sli .u32 o,.slg 3 r3]),zvb false] [])) (zR [.cl (.agg [.sli .u32 o,.slg 3 r3]),zvb false] [])) none) none) none
def ETNd:Env:= {mkE BTNd qa6 20 with xl:=lk none [(0,some [2,3])]}
def gTNd(o:LI)(k:LC):OO:=cond (idOk o) (let r1:=(qce 6 (qai o)).1;let r2:=(qce 6 (qai o)).2.1;let r3:=qke;let r4:=(qce 6 (qai o)).2.2;cond (qjt ([.agg [.int .i64 r1,.sli .u8 r2,.slg 3 r3],.agg [.int .i64 49,.sli .u8 [],.slg 3 k]])) (let r5:=qbv;zR [.cl (.agg [.int .i64 48,.sli .u8 r5,.slg 3 ([.agg [.int .i64 r1,.sli .u8 r2,.slg 3 r3],.agg [.int .i64 49,.sli .u8 [],.slg 3 k]])]),zvb (decide (r4=0))] []) none) none
def xbdv(again:Nat->LC->Int->Int->LC->OO)(k0:OO)(k1:Nat->LC->OO)(v1:Nat)(v2:LC)(v3 v4:Int)(v5:LC):OO:=cond (decide (v4<v3)) (getK v2 v4 fun e1=>let e2:=(cell1 e1).headD .nili;let e3:=(cell1 e1).tail.headD .nili;cond (qbi .u32 e2&&(qcm 3 e3&&true)) (let l4:=qa8 e2;let l5:=qc3 e3;cond (at1Ok l4 l5) (let r6:=qbv;let r7:=qq5 l4 l5;let r8:=xbml l4;cond (isS [.int .i64 48,.sli .u8 r6,.slg 3 r7]) (let r9:=(qa7 [.int .i64 48,.sli .u8 r6,.slg 3 r7]).1;let r10:=(qa7 [.int .i64 48,.sli .u8 r6,.slg 3 r7]).2;cond (!r8) (k0) (cond (!decide (r10=0)) (k0) (let l11:=v5++([.agg [.sli .u32 l4,.slg 3 l5,.sli .u8 r9]]);rmK l11.length 72<| let x12:=IntKind.i64.wrap (v4+1);again l11.length v2 v3 x12 l11))) none) none) none) (k1 v1 v5)
def qud(k0:OO)(k1:Nat->LC->OO):Nat->Nat->LC->Int->Int->LC->OO:=qdm (fun a=>xbdv a k0 k1) (fun _ _ _ _ _=>none)
def q6o:St->(KT)->OO:=fun σ k=>match σ with|⟨[(q1,.cl (.fn (.func q2) [] [])),(q3,.ref q4 q5 v1 true q6),(q7,.cl (.slg q8 v2)),(q9,.cl (.int .i64 v3)),(q10,.cl (.int .i64 v4))],[(q11,⟨.gen q12 v5,false⟩)]⟩=>cond (eqL [q1,q2,q3,q4,q5,q6,q7,q8,q9,q10,q11,q12] [1,32,6,79,0,3,16,2,17,18,79,3]) (shut (qud (k .ret ⟨[(4,.ref 68 0 0 true 3),(5,zvb false)],[(68,⟨.gen 3 [],false⟩)]⟩) (fun y1 y2=>k (.exit 0) ⟨[(6,.ref 79 0 y1 true 3)],[(79,⟨.gen 3 y2,false⟩)]⟩) FUEL) v1 v2 v3 v4 v5) none|_=>none
def xbu6:Env:= {mkE xbsi qa6 49 with byref:=lk [] [(61,[0])],live:=lk [] [(3,[1,6,16,17,18])],ren:=lk [] [(3,[(108,79)])],lp:=lk none [(3,some q6o)],xl:=lk none [(0,some [4,5]),(1,some [6])]}
theorem q6p:LpT Tryz.prog (xbu6) Tryz.f31 0 3 q6o:=by
 intro σ k r h;unfold q6o at h;split at h
 ·obtain⟨hc,j⟩:=qaa h;cases qay hc;rw[qab] at j;apply it5 j
  ·intro n;kernel_rfl
  ·rfl
 ·cases h
def xbvk(l:LC):OO:=cond (decide ((0:Int)<=(l.length:Int))) (cond (decide ((l.length:Int)*72<=LIM)) (cond (decide ((l.length:Int)<=LIM)) (shut (qud (zR [.cl (.slg 3 []),zvb false] []) (fun y1 y2=>cond (rows3 y1 y2) (let r3:=srt3 y2;zR [zvg r3,zvb true] []) none) FUEL) 0 l (l.length:Int) 0 []) none) none) none
def xbdt(again:LC->Int->Int->Int->Nat->LC->OO)(k0:Int->Nat->LC->OO)(v1:LC)(v2 v3 v4:Int)(v5:Nat)(v6:LC):OO:=cond (decide (v3<v2)) (getK v1 v3 fun e1=>let e2:=(cell1 e1).headD .nili;let e3:=(cell1 e1).tail.headD .nili;cond (qbi .u32 e2&&(qcm 3 e3&&true)) (let l4:=qa8 e2;let l5:=qc3 e3;cond (at1Ok l4 l5) (let r6:=qbv;let r7:=qq5 l4 l5;let l9:=v6++([.agg [.int .i64 48,.sli .u8 r6,.slg 3 r7]]);rmK l9.length 56<| let x10:=IntKind.i64.wrap (v3+1);again v1 v2 x10 v4 l9.length l9) none) none) (k0 v4 v5 v6)
def qua(k0:Int->Nat->LC->OO):Nat->LC->Int->Int->Int->Nat->LC->OO:=qdm (fun a=>xbdt a k0) (fun _ _ _ _ _ _=>none)
def q6i:St->(KT)->OO:=fun σ k=>match σ with|⟨[(q1,.ptr q2 q3 q4),(q5,.ptr q6 q7 q8),(q9,.cl (.slg q10 v1)),(q11,.cl (.int .i64 v2)),(q12,.cl (.int .i64 v3))],[(q13,⟨.var [.cl (.int .i64 q14),.nils,.nils],false⟩),(q15,⟨.var [.cl (.int .i64 v4),.nils,.ref q16 q17 v5 true q18],false⟩),(q19,⟨.gen q20 v6,false⟩)]⟩=>cond (eqL [q1,q2,q3,q4,q5,q6,q7,q8,q9,q10,q11,q12,q13,q15,q16,q17,q18,q19,q20] [4,68,0,0,5,69,0,0,12,2,13,14,68,69,91,0,3,91,3]&&decide (q14=0)) (shut (qua (fun y1 y2 y3=>k (.exit 0) ⟨[(4,.ptr 68 0 0),(5,.ptr 69 0 0)],[(68,⟨.var [zvi 0,.nils,.nils],false⟩),(69,⟨.var [zvi y1,.nils,.ref 91 0 y2 true 3],false⟩),(91,⟨.gen 3 y3,false⟩)]⟩) FUEL) v1 v2 v3 v4 v5 v6) none|_=>none
def ETBox:Env:= {mkE BTBox qa6 31 with live:=lk [] [(3,[4,5,12,13,14])],vir:=lk [] [(3,[(69,2,91,.gen 3 [])])],lp:=lk none [(3,some q6i)],xl:=lk none [(0,some [4]),(1,some [4,5])]}
theorem q6j:LpT Tryz.prog (ETBox) Tryz.f34 0 3 q6i:=by
 intro σ k r h;unfold q6i at h;split at h
 ·obtain⟨hc,j⟩:=qaa h;simp only[zab,qev,decide_eq_true_eq,zao] at hc;obtain⟨hc,rfl⟩:=hc;cases qay hc;rw[qab] at j;apply it6 j
  ·intro n;kernel_rfl
  ·rfl
 ·cases h
def xbvi(l:LC)(g:Int):OO:=shut (qua (fun y1 y2 y3=>zR [.cl (.agg [.int .i64 y1,.sli .u8 [],.slg 3 y3])] []) FUEL) l (l.length:Int) 0 g 0 []
def q9i(again:Nat->LC->Int->Int->LC->OO)(k0:OO)(k1:Nat->LC->OO)(v1:Nat)(v2:LC)(v3 v4:Int)(v5:LC):OO:=cond (decide (v4<v3)) (getK v2 v4 fun e2=>let e3:=(cell1 e2).headD .nili;let e4:=(cell1 e2).tail.headD .nili;cond (qbi .u32 e3&&(qcm 3 e4&&true)) (let l5:=qa8 e3;let l6:=qc3 e4;cond (at1Ok l5 l6) (let r7:=ordV l6;let r8:=xbky l5 l6;cond (!r8) (k0) (idxK v4 v1 fun _=>let l9:=v5.set (0+(Int.toNat v4)) (.agg [.sli .u32 l5,.slg 3 r7]);let x10:=IntKind.i64.wrap (v4+1);again v1 v2 v3 x10 l9)) none) none) (k1 v1 v5)
def quf(k0:OO)(k1:Nat->LC->OO):Nat->Nat->LC->Int->Int->LC->OO:=qdm (fun a=>q9i a k0 k1) (fun _ _ _ _ _=>none)
def qye:St->(KT)->OO:=fun σ k=>match σ with|⟨[(q1,.ref q2 q3 v1 true q4),(q5,.cl (.slg q6 v2)),(q7,.cl (.int .i64 v3)),(q8,.cl (.int .i64 v4))],[(q9,⟨.gen q10 v5,false⟩)]⟩=>cond (eqL [q1,q2,q3,q4,q5,q6,q7,q8,q9,q10] [4,89,0,2,26,2,27,28,89,2]) (shut (quf (k .ret ⟨[(2,.ref 66 0 0 true 2),(3,zvi 1)],[(66,⟨.gen 2 [],false⟩)]⟩) (fun y1 y2=>k (.exit 0) ⟨[(4,.ref 89 0 y1 true 2)],[(89,⟨.gen 2 y2,false⟩)]⟩) FUEL) v1 v2 v3 v4 v5) none|_=>none
def ETMake:Env:= {mkE BTMake qa6 61 with live:=lk [] [(5,[4,26,27,28])],lp:=lk none [(5,some qye)],xl:=lk none [(0,some [2,3]),(1,some [4])]}
theorem q4c:LpT Tryz.prog (ETMake) Tryz.f8 0 5 qye:=by
 intro σ k r h;unfold qye at h;split at h
 ·obtain⟨hc,j⟩:=qaa h;cases qay hc;rw[qab] at j;apply it5 j
  ·intro n;kernel_rfl
  ·rfl
 ·cases h
def xbnr(l:LC):OO:=cond (decide ((l.length:Int)<1)) (zR [.cl (.slg 2 []),zvi 1] []) (cond (decide ((20:Int)<(l.length:Int))) (zR [.cl (.slg 2 []),zvi 1] []) (cond (qbp l) (let r1:=twoA l;cond (r1) (zR [.cl (.slg 2 []),zvi 1] []) (cond (decide ((0:Int)<=(l.length:Int))) (cond (decide ((l.length:Int)<=(l.length:Int))) (cond (decide ((l.length:Int)*48<=LIM)) (cond (decide ((l.length:Int)<=LIM)) (shut (quf (zR [.cl (.slg 2 []),zvi 1] []) (fun y2 y3=>cond (qbp y3) (let r4:=(itA y3).1;let r5:=(itA y3).2;cond (!r5) (zR [.cl (.slg 2 []),zvi 1] []) (cond (rows3 r4.length r4) (let r6:=thA r4;cond (qbp r6) (let r7:=qbv;let r8:=xbmu r6;cond (isS [.int .i64 49,.sli .u8 r7,.slg 3 r8]) (let r9:=qra [.int .i64 49,.sli .u8 r7,.slg 3 r8];cond (!r9) (zR [.cl (.slg 2 []),zvi 1] []) (cond (rows3 r4.length r4) (let r10:=thA r4;zR [.cl (.slg 2 r10),zvi 0] []) none)) none) none) none)) none) FUEL) (Int.toNat (l.length:Int)) l (l.length:Int) 0 (List.replicate (Int.toNat (l.length:Int)) (.agg [.sli .u32 [],.slg 3 []]))) none) none) none) none)) none))
def ETSa1:Env:= {mkE BTSa1 qa6 17 with xl:=lk none [(0,some [4])]}
def xbvp(o:LI)(k:LC)(p:LI)(q:LC):OO:=cond (qj2 o) (let r1:=qa2 o p;cond (r1) (cond (isNs k&&isNs q) (let r2:=qp8 k q;zB r2) none) (zB false)) none
def xbdu(again:LC->LC->Int->Int->OO)(k0:OO)(k1:OO)(v1 v2:LC)(v3 v4:Int):OO:=cond (decide (v4<v3)) (getK v2 v4 fun e1=>let e2:=(cell1 e1).headD .nili;let e3:=(cell1 e1).tail.headD .nili;cond (qbi .u32 e2&&(qcm 3 e3&&true)) (let l4:=qa8 e2;let l5:=qc3 e3;getK v1 v4 fun e6=>let e7:=(cell1 e6).headD .nili;let e8:=(cell1 e6).tail.headD .nili;cond (qbi .u32 e7&&(qcm 3 e8&&true)) (let l9:=qa8 e7;let l10:=qc3 e8;cond (at1Ok l4 l5&&at1Ok l9 l10) (let r11:=qfi [mkA l4 l5] [mkA l9 l10];cond (!r11) (k0) (let x12:=IntKind.i64.wrap (v4+1);again v1 v2 v3 x12)) none) none) none) (k1)
def qzy(k0:OO)(k1:OO):Nat->LC->LC->Int->Int->OO:=qdm (fun a=>xbdu a k0 k1) (fun _ _ _ _=>none)
def q6k:St->(KT)->OO:=fun σ k=>match σ with|⟨[(q1,.cl (.slg q2 v1)),(q3,.cl (.fn (.func q4) [] [])),(q5,.cl (.slg q6 v2)),(q7,.cl (.int .i64 v3)),(q8,.cl (.int .i64 v4))],[]⟩=>cond (eqL [q1,q2,q3,q4,q5,q6,q7,q8] [1,2,2,40,15,2,16,17]) (shut (qzy (k .ret ⟨[(6,zvb false)],[]⟩) (k (.exit 0) ⟨[],[]⟩) FUEL) v1 v2 v3 v4) none|_=>none
def xbu5:Env:= {mkE xbsh qa6 32 with live:=lk [] [(4,[1,2,15,16,17])],lp:=lk none [(4,some q6k)],xl:=lk none [(0,some [6]),(1,some [])]}
theorem q6l:LpT Tryz.prog (xbu5) Tryz.f39 0 4 q6k:=by
 intro σ k r h;unfold q6k at h;split at h
 ·obtain⟨hc,j⟩:=qaa h;cases qay hc;rw[qab] at j;apply it4 j
  ·intro n;kernel_rfl
  ·rfl
 ·cases h
def xbvj(a:LC)(b:LC):OO:=cond (!decide ((a.length:Int)=(b.length:Int))) (zB false) (shut (qzy (zB false) (zB true) FUEL) b a (a.length:Int) 0)
def ETSame:Env:= {mkE BTSame qa6 8 with xl:=lk none [(0,some [4])]}
def xbs2(a:LC)(b:LC):OO:=cond (qbp a&&qbp b) (let r1:=qfi a b;zB r1) none
def ETFit:Env:= {mkE BTFit qa6 17 with xl:=lk none [(0,some [2])]}
def xbwa(l:LC):OO:=cond (qbp l) (let r1:=(qd4 l).1;let r2:=(qd4 l).2;cond (decide (r2=0)) (cond (qbp l&&qbp r1) (let r3:=qfi l r1;zB r3) none) (zB false)) none
def ETOne:Env:= {mkE BTOne qa6 34 with byref:=lk [] [(48,[1]),(49,[1])],xl:=lk none [(0,some [4,5])]}
def xbvm(l:LC)(o:LI):OO:=cond (qbp l) (let r1:=q61 l;cond (!r1) (zR [.cl (.agg [.int .i64 0,.sli .u8 [],.slg 3 []]),zvi 1] []) (cond (qbp l) (let r2:=idxA o l;cond (decide (r2<0)) (zR [.cl (.agg [.int .i64 0,.sli .u8 [],.slg 3 []]),zvi 18] []) (getK l r2 fun e3=>let e4:=(cell1 e3).getD 1 .nili;cond (qcm 3 e4) (let l5:=qc3 e4;cond (decide ((1:Int)<(l5.length:Int))) (zR [.cl (.agg [.int .i64 0,.sli .u8 [],.slg 3 []]),zvi 24] []) (getK l r2 fun e6=>let e7:=(cell1 e6).getD 1 .nili;cond (qcm 3 e7) (let l8:=qc3 e7;cond (decide ((0:Int)<(l8.length:Int))) (Option.bind (l8[0]?) fun(e9:CV)=>let e10:=(cell1 e9).headD .nili;let e11:=(cell1 e9).tail.headD .nili;let e12:=(cell1 e9).tail.tail.headD .nili;cond (qhl .i64 e10&&(qbi .u8 e11&&(qcm 3 e12&&true))) (let i13:=qgj e10;let l14:=qa8 e11;let l15:=qc3 e12;zR [.cl (.agg [.int .i64 i13,.sli .u8 l14,.slg 3 l15]),zvi 0] []) none) none) none)) none)) none)) none
def EUNd:Env:= {mkE BUNd qa6 35 with xl:=lk none [(0,some [2,3])]}
def gUNd(o:LI)(k:LC):OO:=cond (idOk o) (let r1:=(qce 6 (qai o)).1;let r2:=(qce 6 (qai o)).2.1;let r3:=qke;let r4:=(qce 6 (qai o)).2.2;cond (!decide (r4=0)) (zR [.cl (.agg [.int .i64 0,.sli .u8 [],.slg 3 []]),zvi 1] []) (cond (decide ((k.length:Int)=0)) (zR [.cl (.agg [.int .i64 0,.sli .u8 [],.slg 3 []]),zvi 1] []) (cond (xbe4 k) (let r5:=(vSet k).1;let r6:=qbv;let r7:=(vSet k).2.1;let r8:=(vSet k).2.2;cond (!decide (r8=0)) (zR [.cl (.agg [.int .i64 0,.sli .u8 [],.slg 3 []]),zvi 1] []) (cond (qjt ([.agg [.int .i64 r1,.sli .u8 r2,.slg 3 r3],.agg [.int .i64 r5,.sli .u8 r6,.slg 3 r7]])) (let r9:=qbv;zR [.cl (.agg [.int .i64 48,.sli .u8 r9,.slg 3 ([.agg [.int .i64 r1,.sli .u8 r2,.slg 3 r3],.agg [.int .i64 r5,.sli .u8 r6,.slg 3 r7]])]),zvi 0] []) none)) none))) none
def qm3(again:LC->Nat->Int->Int->LC->OO)(k0:OO)(k1:LC->Nat->Int->LC->OO)(v1:LC)(v2:Nat)(v3 v4:Int)(v5:LC):OO:=cond (decide (v4<v3)) (getK v1 v3 fun e1=>let e2:=(cell1 e1).getD 0 .nili;cond (qbi .u32 e2) (let l3:=qa8 e2;getK v1 v4 fun e4=>let e5:=(cell1 e4).getD 0 .nili;cond (qbi .u32 e5) (let l6:=qa8 e5;cond (qj2 l3) (let r7:=qa2 l3 l6;cond (r7) (k0) (let x8:=IntKind.i64.wrap (v4+1);again v1 v2 v3 x8 v5)) none) none) none) (k1 v1 v2 v3 v5)
def qij(k0:OO)(k1:LC->Nat->Int->LC->OO):Nat->LC->Nat->Int->Int->LC->OO:=qdm (fun a=>qm3 a k0 k1) (fun _ _ _ _ _=>none)
def qm2(again:LC->Nat->Int->LC->OO)(k0:OO)(k1:Int->OO)(k2:Nat->LC->OO)(v1:LC)(v2:Nat)(v3:Int)(v4:LC):OO:=cond (decide (v3<(v1.length:Int))) (shut (qij (k0) (fun y1 y2 y3 y4=>getK y1 y3 fun e5=>let e6:=(cell1 e5).headD .nili;let e7:=(cell1 e5).tail.headD .nili;cond (qbi .u32 e6&&(qcm 3 e7&&true)) (let l8:=qa8 e6;let l9:=qc3 e7;cond (at1Ok l8 l9) (let r10:=(qos l8 l9).1;let r11:=qbv;let r12:=(qos l8 l9).2.1;let r13:=(qos l8 l9).2.2;cond (!decide (r13=0)) (k1 r13) (let l14:=y4++([.agg [.int .i64 r10,.sli .u8 r11,.slg 3 r12]]);rmK l14.length 56<| let x15:=IntKind.i64.wrap (y3+1);again y1 l14.length x15 l14)) none) none) FUEL) v1 v2 v3 0 v4) (k2 v2 v4)
def qii(k0:OO)(k1:Int->OO)(k2:Nat->LC->OO):Nat->LC->Nat->Int->LC->OO:=qdm (fun a=>qm2 a k0 k1 k2) (fun _ _ _ _=>none)
def qtl:St->(KT)->OO:=fun σ k=>match σ with|⟨[(q1,.cl (.slg q2 v1)),(q3,.ptr q4 q5 q6),(q7,.ref q8 q9 v2 true q10),(q11,.cl (.int .i64 v3)),(q12,.cl (.int .i64 v4))],[(q13,⟨.var [.cl (.int .i64 q14),.nils,.nils],false⟩),(q15,⟨.gen q16 v5,false⟩)]⟩=>cond (eqL [q1,q2,q3,q4,q5,q6,q7,q8,q9,q10,q11,q12,q13,q15,q16] [0,2,2,66,0,0,4,68,0,3,5,6,66,68,3]&&decide (q14=0)) (shut (qij (k .ret ⟨[(2,.ptr 66 0 0),(3,zvi 1)],[(66,⟨.var [zvi 0,.nils,.nils],false⟩)]⟩) (fun y1 y2 y3 y4=>k (.exit 2) ⟨[(0,.cl (.slg 2 y1)),(2,.ptr 66 0 0),(4,.ref 68 0 y2 true 3),(5,zvi y3)],[(66,⟨.var [zvi 0,.nils,.nils],false⟩),(68,⟨.gen 3 y4,false⟩)]⟩) FUEL) v1 v2 v3 v4 v5) none|_=>none
def qtk:St->(KT)->OO:=fun σ k=>match σ with|⟨[(q1,.cl (.slg q2 v1)),(q3,.ptr q4 q5 q6),(q7,.ref q8 q9 v2 true q10),(q11,.cl (.int .i64 v3))],[(q12,⟨.var [.cl (.int .i64 q13),.nils,.nils],false⟩),(q14,⟨.gen q15 v4,false⟩)]⟩=>cond (eqL [q1,q2,q3,q4,q5,q6,q7,q8,q9,q10,q11,q12,q14,q15] [0,2,2,66,0,0,4,68,0,3,5,66,68,3]&&decide (q13=0)) (shut (qii (k .ret ⟨[(2,.ptr 66 0 0),(3,zvi 1)],[(66,⟨.var [zvi 0,.nils,.nils],false⟩)]⟩) (fun y1=>k .ret ⟨[(2,.ptr 66 0 0),(3,zvi y1)],[(66,⟨.var [zvi 0,.nils,.nils],false⟩)]⟩) (fun y1 y2=>k (.exit 0) ⟨[(2,.ptr 66 0 0),(4,.ref 68 0 y1 true 3)],[(66,⟨.var [zvi 0,.nils,.nils],false⟩),(68,⟨.gen 3 y2,false⟩)]⟩) FUEL) v1 v2 v3 v4) none|_=>none
def EUWhole:Env:= {mkE BUWhole qa6 73 with live:=lk [] [(5,[0,2,4,5]),(8,[0,2,4,5,6])],ren:=lk [] [(5,[(122,68)])],lp:=lk none [(5,some qtk),(8,some qtl)],xl:=lk none [(0,some [2,3]),(1,some [2,4]),(3,some [0,2,4,5])]}
theorem qy7:LpT Tryz.prog (EUWhole) Tryz.f36 0 8 qtl:=by
 intro σ k r h;unfold qtl at h;split at h
 ·obtain⟨hc,j⟩:=qaa h;simp only[zab,qev,decide_eq_true_eq,zao] at hc;obtain⟨hc,rfl⟩:=hc;cases qay hc;rw[qab] at j;apply it5 j
  ·intro n;kernel_rfl
  ·rfl
 ·cases h
theorem qy6:LpT Tryz.prog (EUWhole) Tryz.f36 1 5 qtk:=by
 intro σ k r h;unfold qtk at h;split at h
 ·obtain⟨hc,j⟩:=qaa h;simp only[zab,qev,decide_eq_true_eq,zao] at hc;obtain⟨hc,rfl⟩:=hc;cases qay hc;rw[qab] at j;apply it4 j
  ·intro n;kernel_rfl
  ·rfl
 ·cases h
def xbgq(l:LC):OO:=cond (decide ((l.length:Int)<1)) (zR [.cl (.agg [.int .i64 0,.sli .u8 [],.slg 3 []]),zvi 1] []) (cond (decide ((20:Int)<(l.length:Int))) (zR [.cl (.agg [.int .i64 0,.sli .u8 [],.slg 3 []]),zvi 1] []) (shut (qii (zR [.cl (.agg [.int .i64 0,.sli .u8 [],.slg 3 []]),zvi 1] []) (fun y1=>zR [.cl (.agg [.int .i64 0,.sli .u8 [],.slg 3 []]),zvi y1] []) (fun y2 y3=>cond (xbe4 y3) (let r4:=(vSet y3).1;let r5:=qbv;let r6:=(vSet y3).2.1;let r7:=(vSet y3).2.2;cond (!decide (r7=0)) (zR [.cl (.agg [.int .i64 0,.sli .u8 [],.slg 3 []]),zvi 1] []) (cond (isS [.int .i64 r4,.sli .u8 r5,.slg 3 r6]) (let r8:=qra [.int .i64 r4,.sli .u8 r5,.slg 3 r6];cond (!r8) (zR [.cl (.agg [.int .i64 0,.sli .u8 [],.slg 3 []]),zvi 1] []) (zR [.cl (.agg [.int .i64 r4,.sli .u8 r5,.slg 3 r6]),zvi 0] [])) none)) none) FUEL) l 0 0 []))
def q5l(again:Nat->Int->Int->LI->LC->LC->OO)(k0:Nat->LC->OO)(v1:Nat)(v2 v3:Int)(v4:LI)(v5 v6:LC):OO:=cond (decide (v2<(v5.length:Int))) (getK v5 v2 fun e1=>let e2:=(cell1 e1).getD 2 .nili;cond (qcm 3 e2) (let l3:=qc3 e2;cond (decide ((0:Int)<(l3.length:Int))) (Option.bind (l3[0]?) fun(e4:CV)=>let e5:=(cell1 e4).headD .nili;let e6:=(cell1 e4).tail.headD .nili;let e7:=(cell1 e4).tail.tail.headD .nili;cond (qhl .i64 e5&&(qbi .u8 e6&&(qcm 3 e7&&true))) (let i8:=qgj e5;let l9:=qa8 e6;let l10:=qc3 e7;cond (isS [.int .i64 i8,.sli .u8 l9,.slg 3 l10]) (let r11:=(qnj i8 l9 l10).1;getK v5 v2 fun e13=>let e14:=(cell1 e13).getD 2 .nili;cond (qcm 3 e14) (let l15:=qc3 e14;cond (decide ((1:Int)<(l15.length:Int))) (Option.bind (l15[1]?) fun(e16:CV)=>let e17:=(cell1 e16).getD 2 .nili;cond (qcm 3 e17) (let l18:=qc3 e17;let l19:=v6++([.agg [.sli .u32 r11,.slg 3 l18]]);rmK l19.length 48<| let x20:=IntKind.i64.wrap (v2+1);again l19.length x20 v3 v4 v5 l19) none) none) none) none) none) none) none) (k0 v1 v6)
def qll(k0:Nat->LC->OO):Nat->Nat->Int->Int->LI->LC->LC->OO:=qdm (fun a=>q5l a k0) (fun _ _ _ _ _ _=>none)
def qtg:St->(KT)->OO:=fun σ k=>match σ with|⟨[(q1,.ptr q2 q3 q4),(q5,.ref q6 q7 v1 true q8),(q9,.cl (.int .i64 v2))],[(q10,⟨.var [.cl (.int .i64 v3),.cl (.sli .u8 v4),.cl (.slg q11 v5)],false⟩),(q12,⟨.gen q13 v6,false⟩)]⟩=>cond (eqL [q1,q2,q3,q4,q5,q6,q7,q8,q9,q10,q11,q12,q13] [1,65,0,0,3,67,0,2,4,65,3,67,2]) (shut (qll (fun y1 y2=>k (.exit 0) ⟨[(3,.ref 67 0 y1 true 2)],[(67,⟨.gen 2 y2,false⟩)]⟩) FUEL) v1 v2 v3 v4 v5 v6) none|_=>none
def EUAttrs:Env:= {mkE BUAttrs qa6 41 with live:=lk [] [(3,[1,3,4])],ren:=lk [] [(3,[(103,67)])],lp:=lk none [(3,some qtg)],xl:=lk none [(0,some [2]),(1,some [3])]}
theorem qy1:LpT Tryz.prog (EUAttrs) Tryz.f37 0 3 qtg:=by
 intro σ k r h;unfold qtg at h;split at h
 ·obtain⟨hc,j⟩:=qaa h;cases qay hc;rw[qab] at j;apply it6 j
  ·intro n;kernel_rfl
  ·rfl
 ·cases h
def xbgn(t:Int)(b:LI)(k:LC):OO:=shut (qll (fun y1 y2=>zR [.cl (.slg 2 y2)] []) FUEL) 0 0 t b k []
def EUMake:Env:= {mkE BUMake qa6 16 with xl:=lk none [(0,some [2,3])]}
def xbnz(l:LC):OO:=cond (qbp l) (let r3:=(qkk l).2.1;let r4:=(qkk l).2.2;cond (!decide (r4=0)) (zR [.cl (.slg 2 []),zvi r4] []) (cond (qwh r3) (let r5:=q53 r3;zR [.cl (.slg 2 r5),zvi 0] []) none)) none
def q9j(again:LC->LC->Int->OO)(k0:OO)(k1:OO)(v1 v2:LC)(v3:Int):OO:=cond (decide (v3<(v1.length:Int))) (getK v1 v3 fun e1=>let e2:=(cell1 e1).getD 0 .nili;cond (qbi .u32 e2) (let l3:=qa8 e2;getK v2 v3 fun e4=>let e5:=(cell1 e4).getD 0 .nili;cond (qbi .u32 e5) (let l6:=qa8 e5;cond (qj2 l3) (let r7:=qa2 l3 l6;cond (!r7) (k0) (getK v1 v3 fun e8=>let e9:=(cell1 e8).getD 1 .nili;cond (qcm 3 e9) (let l10:=qc3 e9;cond (qjt l10) (let r11:=qbv;getK v2 v3 fun e12=>let e13:=(cell1 e12).getD 1 .nili;cond (qcm 3 e13) (let l14:=qc3 e13;cond (qjt l14) (let r15:=qbv;cond (isN [.int .i64 48,.sli .u8 r11,.slg 3 l10]&&isN [.int .i64 48,.sli .u8 r15,.slg 3 l14]) (let r16:=qil [.int .i64 48,.sli .u8 r11,.slg 3 l10] [.int .i64 48,.sli .u8 r15,.slg 3 l14];cond (!r16) (k0) (let x17:=IntKind.i64.wrap (v3+1);again v1 v2 x17)) none) none) none) none) none)) none) none) none) (k1)
def qug(k0:OO)(k1:OO):Nat->LC->LC->Int->OO:=qdm (fun a=>q9j a k0 k1) (fun _ _ _=>none)
def qy2:St->(KT)->OO:=fun σ k=>match σ with|⟨[(q1,.cl (.slg q2 v1)),(q3,.cl (.slg q4 v2)),(q5,.cl (.int .i64 v3))],[]⟩=>cond (eqL [q1,q2,q3,q4,q5] [0,2,1,2,5]) (shut (qug (k .ret ⟨[(4,zvb false)],[]⟩) (k (.exit 0) ⟨[],[]⟩) FUEL) v1 v2 v3) none|_=>none
def EUSame:Env:= {mkE BUSame qa6 45 with live:=lk [] [(4,[0,1,5])],lp:=lk none [(4,some qy2)],xl:=lk none [(0,some [4]),(1,some [])]}
theorem q4p:LpT Tryz.prog (EUSame) Tryz.f12 0 4 qy2:=by
 intro σ k r h;unfold qy2 at h;split at h
 ·obtain⟨hc,j⟩:=qaa h;cases qay hc;rw[qab] at j;apply it3 j
  ·intro n;kernel_rfl
  ·rfl
 ·cases h
def xbn0(a:LC)(b:LC):OO:=cond (!decide ((a.length:Int)=(b.length:Int))) (zB false) (shut (qug (zB false) (zB true) FUEL) a b 0)
def EUFit:Env:= {mkE BUFit qa6 17 with xl:=lk none [(0,some [2])]}
def xbwd(l:LC):OO:=cond (qbp l) (let r1:=(qd4 l).1;let r2:=(qd4 l).2;cond (decide (r2=0)) (cond (qbp l&&qbp r1) (let r3:=qfi l r1;zB r3) none) (zB false)) none
def qm0(again:LC->Int->Int->Int->OO)(k0:LC->Int->Int->OO)(v1:LC)(v2 v3 v4:Int):OO:=getK v1 v3 fun e8=>let e9:=(cell1 e8).getD 1 .nili;cond (qcm 3 e9) (let l10:=qc3 e9;cond (decide (v4<(l10.length:Int))) (cond (decide ((0:Int)<=v2)) (getK v1 v3 fun e11=>let e12:=(cell1 e11).getD 1 .nili;cond (qcm 3 e12) (let l13:=qc3 e12;getK l13 v4 fun e14=>let e15:=(cell1 e14).headD .nili;let e16:=(cell1 e14).tail.headD .nili;let e17:=(cell1 e14).tail.tail.headD .nili;cond (qhl .i64 e15&&(qbi .u8 e16&&(qcm 3 e17&&true))) (let i18:=qgj e15;let l19:=qa8 e16;let l20:=qc3 e17;cond (isT [.int .i64 i18,.sli .u8 l19,.slg 3 l20]&&qpq v2) (let r21:=qb3 [.int .i64 i18,.sli .u8 l19,.slg 3 l20] v2;let x22:=IntKind.i64.wrap (v4+1);again v1 r21 v3 x22) none) none) none) (k0 v1 v2 v3)) (k0 v1 v2 v3)) none
def qf5(k0:LC->Int->Int->OO):Nat->LC->Int->Int->Int->OO:=qdm (fun a=>qm0 a k0) (fun _ _ _ _=>none)
def qmz(again:LC->Int->Int->OO)(k0:Int->OO)(v1:LC)(v2 v3:Int):OO:=cond (decide (v3<(v1.length:Int))) (cond (decide ((0:Int)<=v2)) (getK v1 v3 fun e3=>let e4:=(cell1 e3).getD 0 .nili;cond (qbi .u32 e4) (let l5:=qa8 e4;let x6:=cond (decide ((1000:Int)<(l5.length:Int))) 1000 (l5.length:Int);let x7:=IntKind.i64.wrap (v2 - x6);shut (qf5 (fun y8 y9 y10=>let x11:=IntKind.i64.wrap (y10+1);again y8 y9 x11) FUEL) v1 x7 v3 0) none) (k0 v2)) (k0 v2)
def qih(k0:Int->OO):Nat->LC->Int->Int->OO:=qdm (fun a=>qmz a k0) (fun _ _ _=>none)
def qti:St->(KT)->OO:=fun σ k=>match σ with|⟨[(q1,.cl (.slg q2 v1)),(q3,.cl (.int .i64 v2)),(q4,.cl (.int .i64 v3)),(q5,.cl (.int .i64 v4))],[]⟩=>cond (eqL [q1,q2,q3,q4,q5] [0,2,1,5,6]) (shut (qf5 (fun y1 y2 y3=>k (.exit 2) ⟨[(0,.cl (.slg 2 y1)),(1,zvi y2),(5,zvi y3)],[]⟩) FUEL) v1 v2 v3 v4) none|_=>none
def qth:St->(KT)->OO:=fun σ k=>match σ with|⟨[(q1,.cl (.slg q2 v1)),(q3,.cl (.int .i64 v2)),(q4,.cl (.int .i64 v3))],[]⟩=>cond (eqL [q1,q2,q3,q4] [0,2,1,5]) (shut (qih (fun y1=>k (.exit 0) ⟨[(1,zvi y1)],[]⟩) FUEL) v1 v2 v3) none|_=>none
def EUSmall:Env:= {mkE BUSmall qa6 56 with live:=lk [] [(3,[0,1,5]),(7,[0,1,5,6])],lp:=lk none [(3,some qth),(7,some qti)],xl:=lk none [(0,some [4]),(1,some [1]),(3,some [0,1,5])]}
theorem qy4:LpT Tryz.prog (EUSmall) Tryz.f26 0 7 qti:=by
 intro σ k r h;unfold qti at h;split at h
 ·obtain⟨hc,j⟩:=qaa h;cases qay hc;rw[qab] at j;apply it4 j
  ·intro n;kernel_rfl
  ·rfl
 ·cases h
theorem qy3:LpT Tryz.prog (EUSmall) Tryz.f26 1 3 qth:=by
 intro σ k r h;unfold qth at h;split at h
 ·obtain⟨hc,j⟩:=qaa h;cases qay hc;rw[qab] at j;apply it3 j
  ·intro n;kernel_rfl
  ·rfl
 ·cases h
def xbgo(l:LC)(n:Int):OO:=let x1:=cond (decide ((1000:Int)<(l.length:Int))) 1000 (l.length:Int);let x2:=IntKind.i64.wrap (n - x1);shut (qih (fun y3=>zI y3) FUEL) l x2 0
def EWASmall:Env:= {mkE BWASmall qa6 11 with xl:=lk none [(0,some [2])]}
def q8i(l:LC):OO:=cond (decide ((l.length:Int)<=25)) (cond (qv2 l&&smOk l 1500) (let r1:=qrh l 1500;zB (decide ((0:Int)<=r1))) none) (zB false)
def EWAAwake:Env:= {mkE BWAAwake qa6 55 with xl:=lk none [(0,some [0])]}
def q8h:OO:=cond (idOk [1,2]) (let r1:=(qce 6 (qai [1,2])).1;let r2:=(qce 6 (qai [1,2])).2.1;let r3:=qke;cond (qbp ([.agg [.sli .u32 [1,3],.slg 3 ([.agg [.int .i64 r1,.sli .u8 r2,.slg 3 r3]])]])) (let r8:=(qo6 ([.agg [.sli .u32 [1,3],.slg 3 ([.agg [.int .i64 r1,.sli .u8 r2,.slg 3 r3]])]]) [1,4]).2;cond (qbp ([.agg [.sli .u32 [1,3],.slg 3 ([.agg [.int .i64 r1,.sli .u8 r2,.slg 3 r3]])]])) (let r9:=(qo6 ([.agg [.sli .u32 [1,3],.slg 3 ([.agg [.int .i64 r1,.sli .u8 r2,.slg 3 r3]])]]) [1,3]).1.1;let r10:=(qo6 ([.agg [.sli .u32 [1,3],.slg 3 ([.agg [.int .i64 r1,.sli .u8 r2,.slg 3 r3]])]]) [1,3]).1.2.1;let r11:=(qo6 ([.agg [.sli .u32 [1,3],.slg 3 ([.agg [.int .i64 r1,.sli .u8 r2,.slg 3 r3]])]]) [1,3]).1.2.2;let r12:=(qo6 ([.agg [.sli .u32 [1,3],.slg 3 ([.agg [.int .i64 r1,.sli .u8 r2,.slg 3 r3]])]]) [1,3]).2;cond (qbp []) (let r13:=q61 [];cond (!r13) (cond (qbp ([.agg [.sli .u32 [1,3],.slg 3 ([.agg [.int .i64 r1,.sli .u8 r2,.slg 3 r3]])]])) (let r14:=q61 ([.agg [.sli .u32 [1,3],.slg 3 ([.agg [.int .i64 r1,.sli .u8 r2,.slg 3 r3]])]]);cond (r14) (cond (decide (r8=18)) (cond (decide (r12=0)) (cond (isN [.int .i64 r9,.sli .u8 r10,.slg 3 r11]&&isN [.int .i64 r1,.sli .u8 r2,.slg 3 r3]) (let r15:=qil [.int .i64 r9,.sli .u8 r10,.slg 3 r11] [.int .i64 r1,.sli .u8 r2,.slg 3 r3];cond (r15) (cond (qj2 [1,3]) (let r16:=qa2 [1,3] [1,4];zB (!r16)) none) (zB false)) none) (zB false)) (zB false)) (zB false)) none) (zB false)) none) none) none) none
def EWATells:Env:= {
 orc:=fun g=>cond (Nat.beq g 6) ((kT KWASmall)) (cond (Nat.beq g 7) ((kT KWAAwake)) (cond (Nat.beq g 8) ((kT KTMake)) (cond (Nat.beq g 9) ((kT KUMake)) (cond (Nat.beq g 10) ((kT KTFit)) (cond (Nat.beq g 11) ((kT KUFit)) (cond (Nat.beq g 12) ((kT KUSame)) (cond (Nat.beq g 13) ((kT KTSame)) (fun _ _=>Tree.fail))))))))
 pre:=fun g=>cond (Nat.beq g 6) ((kP KWASmall)) (cond (Nat.beq g 7) ((kP KWAAwake)) (cond (Nat.beq g 8) ((kP KTMake)) (cond (Nat.beq g 9) ((kP KUMake)) (cond (Nat.beq g 10) ((kP KTFit)) (cond (Nat.beq g 11) ((kP KUFit)) (cond (Nat.beq g 12) ((kP KUSame)) (cond (Nat.beq g 13) ((kP KTSame)) (fun _ _=>true))))))))
 glob:=qa6
 nt:=60
 xl:=fun r=>cond (Nat.beq r 0) (some [4]) (none)
}
theorem qzx: ∀c,Tryz.f3.body=some c->qbe Tryz.prog (EWATells) 40 c:=lsB (ids:=[]) (by kernel_rfl) trivial
def q8j(l:LC)(m:LC):OO:=cond (qv2 l) (let r1:=xbi9 l;cond (!r1) (let r2:=true;zB r2) (cond (qv2 m) (let r3:=xbi9 m;cond (!r3) (let r4:=true;zB r4) (cond (qbp l) (let r5:=(qd4 l).1;let r6:=(qd4 l).2;cond (qbp l) (let r7:=(qd4 l).1;let r8:=(qd4 l).2;cond (qbp l) (let r9:=q61 l;cond (qbp l) (let r10:=q61 l;cond ((r9==r10)) (cond (qbp r5&&qbp r7) (let r11:=qfi r5 r7;cond (r11) (cond (decide (r6=r8)) (cond (qbp l&&qbp m) (let r12:=qfi l m;cond (qbp l&&qbp m) (let r13:=qfi l m;cond ((r12==r13)) (cond (qbp l&&qbp l) (let r14:=qfi l l;cond (r14) (let r15:=true;zB r15) (zB false)) none) (zB false)) none) none) (zB false)) (zB false)) none) (zB false)) none) none) none) none)) none)) none
theorem q44(l:LC)(m:LC):qnm Tryz.prog (EWATells) 40 false Tryz.f3 [.cl (.slg 2 l),.cl (.slg 2 m)] []=q8j l m:=by kernel_rfl
abbrev xbio:=Int->Int->LI->Int->Int->Int->LI->Int->Int->Int->Int->Int->Int->Bool->LI->OO
abbrev xbip:=Int->Int->LI->Int->Int->Int->LI->Int->Int->Int->Int->Int->Int->Bool->Int->Bool->LI->OO
def qk2(l:Nat)(again:LI->OO)(k0:xbio)(k1:xbip)(k2:LI->Int->LI->OO)(v1:LI):OO:=cond (decide ((0:Int)<(v1.length:Int))) (cond (qad v1) (let r1:=(qel v1).1;let r2:=(qel v1).2;cond (Nat.beq l l) (yldO [.int .u32 r1,.bool (decide ((0:Int)<r2))] (k0 r1 r2 v1 (v1.length:Int) r1 r2 v1 r1 r2 r1 r2 r1 r2 (decide ((0:Int)<r2)) v1) (cond (decide (r2=0)) (k1 r1 r2 v1 (v1.length:Int) r1 r2 v1 r1 r2 r1 r2 r1 r2 (decide ((0:Int)<r2)) r2 (decide (r2=0)) v1) (cond (decide ((0:Int)<=r2)) (cond (decide (r2<=(v1.length:Int))) (let l3:=List.drop (Int.toNat r2) v1;again l3) none) none))) none) none) (k2 v1 (v1.length:Int) v1)
def qi8(l:Nat)(k0:xbio)(k1:xbip)(k2:LI->Int->LI->OO):Nat->LI->OO|0=>fun _=>none|n+1=>qk2 l (qi8 l k0 k1 k2 n) k0 k1 k2
def qx0(l:Nat):St->(KT)->OO:=fun σ k=>match σ with|⟨[(q1,.cl (.fn (.yield q2) [] [])),(q3,.ptr q4 q5 q6)],[(q7,⟨.var [.cl (.sli .u8 v1)],false⟩)]⟩=>cond (eqL [q1,q3,q4,q5,q6,q7] [0,1,0,0,0,0]&&Nat.beq l q2) (shut (qi8 l (fun y1 y2 y3 y4 y5 y6 y7 y8 y9 y10 y11 y12 y13 y14 y15=>k .ret ⟨[(0,.cl (.fn (.yield l) [] [])),(1,.ptr 0 0 0),(3,.cl (.int .u32 y1)),(4,zvi y2),(5,zvl y3),(6,zvi y4),(7,zvb true),(8,.tup [.cl (.int .u32 y5),zvi y6]),(9,zvl y7),(10,.tup [.cl (.int .u32 y8),zvi y9]),(11,.cl (.int .u32 y10)),(12,zvi y11),(13,.cl (.fn (.yield l) [] [])),(14,.cl (.int .u32 y12)),(15,zvi y13),(16,zvb y14),(17,zvb false),(18,zvb true),(19,zvb true),(20,.tup []),(21,.tup []),(22,zvb true)],[(0,⟨.var [zvl y15],false⟩)]⟩) (fun y1 y2 y3 y4 y5 y6 y7 y8 y9 y10 y11 y12 y13 y14 y15 y16 y17=>k .ret ⟨[(0,.cl (.fn (.yield l) [] [])),(1,.ptr 0 0 0),(3,.cl (.int .u32 y1)),(4,zvi y2),(5,zvl y3),(6,zvi y4),(7,zvb true),(8,.tup [.cl (.int .u32 y5),zvi y6]),(9,zvl y7),(10,.tup [.cl (.int .u32 y8),zvi y9]),(11,.cl (.int .u32 y10)),(12,zvi y11),(13,.cl (.fn (.yield l) [] [])),(14,.cl (.int .u32 y12)),(15,zvi y13),(16,zvb y14),(17,zvb true),(18,zvb false),(19,zvb false),(20,zvi y15),(21,zvb y16),(22,zvb true)],[(0,⟨.var [zvl y17],false⟩)]⟩) (fun y1 y2 y3=>k (.exit 0) ⟨[(0,.cl (.fn (.yield l) [] [])),(1,.ptr 0 0 0),(5,zvl y1),(6,zvi y2),(7,zvb false)],[(0,⟨.var [zvl y3],false⟩)]⟩) FUEL) v1) none|_=>none
def EONums(l:Nat):Env:= {
 orc:=fun g=>cond (Nat.beq g 128) ((kT KONumber)) (fun _ _=>Tree.fail)
 pre:=fun g=>cond (Nat.beq g 128) ((kP KONumber)) (fun _ _=>true)
 live:=fun r=>cond (Nat.beq r 0) ([0,1]) ([])
 glob:=qa6
 nt:=26
 lp:=fun r=>cond (Nat.beq r 0) (some (qx0 l)) (none)
 rg:=false
 yn:=l
 yl:=fun r=>cond (Nat.beq r 2) (some 4) (none)
}
theorem q35(l:Nat):LpT Tryz.prog (EONums l) Tryz.f127 0 0 (qx0 l):=by
 intro σ k r h;unfold qx0 at h;split at h
 ·obtain⟨hc,j⟩:=qaa h;simp only[zab,qev,decide_eq_true_eq,zao] at hc;obtain⟨hc,rfl⟩:=hc;cases qay hc;rw[qab] at j;apply jt1 j _ (fun a=>qk2 l a _ _ _)
  ·intro n;rfl
  ·intro n;kernel_rfl
  ·rfl
 ·cases h
theorem q9d(l:Nat): ∀c,Tryz.f127.body=some c->qbe Tryz.prog (EONums l) 40 c:=lsB (ids:=[(true,0)]) (by kernel_rfl) ⟨⟨_,rfl,q35 l⟩,trivial⟩
def xbjv(l:Nat)(b:LI):OO:=cond (Nat.beq l l) (shut (qi8 l (fun y1 y2 y3 y4 y5 y6 y7 y8 y9 y10 y11 y12 y13 y14 y15=>zR [] [some ⟨.var [zvl y15],false⟩]) (fun y16 y17 y18 y19 y20 y21 y22 y23 y24 y25 y26 y27 y28 y29 y30 y31 y32=>zR [] [some ⟨.var [zvl y32],false⟩]) (fun y33 y34 y35=>zR [] [some ⟨.var [zvl y35],false⟩]) FUEL) b) none
theorem xbde(l:Nat)(b:LI):qnm Tryz.prog (EONums l) 40 false Tryz.f127 [.cl (.fn (.yield l) [] []),.ptr 0 0 0] [⟨.var [.cl (.sli .u8 b)],false⟩]=xbjv l b:=by kernel_rfl
end
end Go.Proofs.YtoiikagnjcjccaaGreatDoorA
