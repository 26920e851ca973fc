/-
 What the reading of slices.Equal[apostille/api.Oid,uint32] comes to, printed by a program. Conditions: none.
-/
import Derived.Test.YtoiikagnjcjccaaGreatDoorT1
set_option linter.unusedVariables false
set_option linter.unusedSimpArgs false
set_option maxRecDepth 100000
namespace Go.Proofs.YtoiikagnjcjccaaGreatDoorA
noncomputable section
def xbfs(again:LI->LI->Int->Int->OO)(k0:OO)(k1:OO)(v1 v2:LI)(v3 v4:Int):OO:=cond (decide (v4<v3)) (getK v1 v4 fun e1=>getK v2 v4 fun e2=>cond (!decide (e1=e2)) (k0) (let x3:=IntKind.i64.wrap (v4+1);again v1 v2 v3 x3)) (k1)
def q1d(k0:OO)(k1:OO):Nat->LI->LI->Int->Int->OO:=qdl (fun a=>xbfs a k0 k1) (fun _ _ _ _=>none)
def q8g:St->(KT)->OO:=fun σ k=>match σ with|⟨[(q1,.cl (.sli .u32 v1)),(q2,.cl (.sli .u32 v2)),(q3,.cl (.int .i64 v3)),(q4,.cl (.int .i64 v4))],[]⟩=>cond (eqL [q1,q2,q3,q4] [0,1,12,13]) (shut (q1d (k .ret ⟨[(4,zvb false)],[]⟩) (k (.exit 0) ⟨[],[]⟩) FUEL) v1 v2 v3 v4) none|_=>none
def ETSEq:Env:= {mkE BTSEq qa8 26 with live:=lk [] [(4,[0,1,12,13])],lp:=lk none [(4,some q8g)],xl:=lk none [(0,some [4]),(1,some [])]}
theorem q8h:LpT Tryz.prog (ETSEq) Tryz.f70 0 4 q8g:=by
 intro σ k r h;unfold q8g at h;split at h
 ·obtain⟨hc,j⟩:=qaa h;cases qa3 hc;rw[qab] at j;apply it4 j
  ·intro n;kernel_rfl
  ·rfl
 ·cases h
def xby6(a:LI)(b:LI):OO:=cond (!decide ((a.length:Int)=(b.length:Int))) (zB false) (shut (q1d (zB false) (zB true) FUEL) a b (a.length:Int) 0)
def ETOSame:Env:= {mkE BTOSame qa8 8 with xl:=lk none [(0,some [4])]}
def xbp2(a:LI)(b:LI):OO:=cond (qkj a) (let r1:=qa5 a b;zB r1) none
def q08(k0:Int->Int->Int->Int->Int->OO)(k1:Int->Int->Int->Int->OO)(k2:Int->Int->Int->OO)(k3:Int->Int->OO)(k4:Int->OO)(v1:Int):OO:=let x1:=Int.fdiv v1 (2 ^ 28);cond (!decide (x1=0)) (let x2:=Int.fdiv v1 (2 ^ 28);let x3:=IntKind.u8.wrap x2;let x4:=IntKind.u8.wrap ((BitVec.ofInt 8 x3||| BitVec.ofInt 8 128).toNat);let x5:=Int.fdiv v1 (2 ^ 21);cond (!decide (x5=0)) (let x6:=Int.fdiv v1 (2 ^ 21);let x7:=IntKind.u8.wrap x6;let x8:=IntKind.u8.wrap ((BitVec.ofInt 8 x7||| BitVec.ofInt 8 128).toNat);let x9:=Int.fdiv v1 (2 ^ 14);cond (!decide (x9=0)) (let x10:=Int.fdiv v1 (2 ^ 14);let x11:=IntKind.u8.wrap x10;let x12:=IntKind.u8.wrap ((BitVec.ofInt 8 x11||| BitVec.ofInt 8 128).toNat);let x13:=Int.fdiv v1 (2 ^ 7);cond (!decide (x13=0)) (let x14:=Int.fdiv v1 (2 ^ 7);let x15:=IntKind.u8.wrap x14;let x16:=IntKind.u8.wrap ((BitVec.ofInt 8 x15||| BitVec.ofInt 8 128).toNat);k0 v1 x4 x8 x12 x16) (k1 v1 x4 x8 x12)) (let x17:=Int.fdiv v1 (2 ^ 7);cond (!decide (x17=0)) (let x18:=Int.fdiv v1 (2 ^ 7);let x19:=IntKind.u8.wrap x18;let x20:=IntKind.u8.wrap ((BitVec.ofInt 8 x19||| BitVec.ofInt 8 128).toNat);k1 v1 x4 x8 x20) (k2 v1 x4 x8))) (let x21:=Int.fdiv v1 (2 ^ 14);cond (!decide (x21=0)) (let x22:=Int.fdiv v1 (2 ^ 14);let x23:=IntKind.u8.wrap x22;let x24:=IntKind.u8.wrap ((BitVec.ofInt 8 x23||| BitVec.ofInt 8 128).toNat);let x25:=Int.fdiv v1 (2 ^ 7);cond (!decide (x25=0)) (let x26:=Int.fdiv v1 (2 ^ 7);let x27:=IntKind.u8.wrap x26;let x28:=IntKind.u8.wrap ((BitVec.ofInt 8 x27||| BitVec.ofInt 8 128).toNat);k1 v1 x4 x24 x28) (k2 v1 x4 x24)) (let x29:=Int.fdiv v1 (2 ^ 7);cond (!decide (x29=0)) (let x30:=Int.fdiv v1 (2 ^ 7);let x31:=IntKind.u8.wrap x30;let x32:=IntKind.u8.wrap ((BitVec.ofInt 8 x31||| BitVec.ofInt 8 128).toNat);k2 v1 x4 x32) (k3 v1 x4)))) (let x33:=Int.fdiv v1 (2 ^ 21);cond (!decide (x33=0)) (let x34:=Int.fdiv v1 (2 ^ 21);let x35:=IntKind.u8.wrap x34;let x36:=IntKind.u8.wrap ((BitVec.ofInt 8 x35||| BitVec.ofInt 8 128).toNat);let x37:=Int.fdiv v1 (2 ^ 14);cond (!decide (x37=0)) (let x38:=Int.fdiv v1 (2 ^ 14);let x39:=IntKind.u8.wrap x38;let x40:=IntKind.u8.wrap ((BitVec.ofInt 8 x39||| BitVec.ofInt 8 128).toNat);let x41:=Int.fdiv v1 (2 ^ 7);cond (!decide (x41=0)) (let x42:=Int.fdiv v1 (2 ^ 7);let x43:=IntKind.u8.wrap x42;let x44:=IntKind.u8.wrap ((BitVec.ofInt 8 x43||| BitVec.ofInt 8 128).toNat);k1 v1 x36 x40 x44) (k2 v1 x36 x40)) (let x45:=Int.fdiv v1 (2 ^ 7);cond (!decide (x45=0)) (let x46:=Int.fdiv v1 (2 ^ 7);let x47:=IntKind.u8.wrap x46;let x48:=IntKind.u8.wrap ((BitVec.ofInt 8 x47||| BitVec.ofInt 8 128).toNat);k2 v1 x36 x48) (k3 v1 x36))) (let x49:=Int.fdiv v1 (2 ^ 14);cond (!decide (x49=0)) (let x50:=Int.fdiv v1 (2 ^ 14);let x51:=IntKind.u8.wrap x50;let x52:=IntKind.u8.wrap ((BitVec.ofInt 8 x51||| BitVec.ofInt 8 128).toNat);let x53:=Int.fdiv v1 (2 ^ 7);cond (!decide (x53=0)) (let x54:=Int.fdiv v1 (2 ^ 7);let x55:=IntKind.u8.wrap x54;let x56:=IntKind.u8.wrap ((BitVec.ofInt 8 x55||| BitVec.ofInt 8 128).toNat);k2 v1 x52 x56) (k3 v1 x52)) (let x57:=Int.fdiv v1 (2 ^ 7);cond (!decide (x57=0)) (let x58:=Int.fdiv v1 (2 ^ 7);let x59:=IntKind.u8.wrap x58;let x60:=IntKind.u8.wrap ((BitVec.ofInt 8 x59||| BitVec.ofInt 8 128).toNat);k3 v1 x60) (k4 v1))))
def qqg(k0:Nat->Int->LI->OO)(k1:Nat->Int->LI->OO)(v1:Nat)(v2:Int)(v3:LI):OO:=let x1:=Int.fdiv v2 (2 ^ 28);cond (!decide (x1=0)) (let x2:=Int.fdiv v2 (2 ^ 28);let x3:=IntKind.u8.wrap x2;let x4:=IntKind.u8.wrap ((BitVec.ofInt 8 x3||| BitVec.ofInt 8 128).toNat);let l5:=v3++[x4];rmK l5.length 1<| let x6:=Int.fdiv v2 (2 ^ 21);cond (!decide (x6=0)) (let x7:=Int.fdiv v2 (2 ^ 21);let x8:=IntKind.u8.wrap x7;let x9:=IntKind.u8.wrap ((BitVec.ofInt 8 x8||| BitVec.ofInt 8 128).toNat);let l10:=l5++[x9];rmK l10.length 1<| let x11:=Int.fdiv v2 (2 ^ 14);cond (!decide (x11=0)) (let x12:=Int.fdiv v2 (2 ^ 14);let x13:=IntKind.u8.wrap x12;let x14:=IntKind.u8.wrap ((BitVec.ofInt 8 x13||| BitVec.ofInt 8 128).toNat);let l15:=l10++[x14];rmK l15.length 1<| let x16:=Int.fdiv v2 (2 ^ 7);cond (!decide (x16=0)) (let x17:=Int.fdiv v2 (2 ^ 7);let x18:=IntKind.u8.wrap x17;let x19:=IntKind.u8.wrap ((BitVec.ofInt 8 x18||| BitVec.ofInt 8 128).toNat);let l20:=l15++[x19];rmK l20.length 1<| k0 l20.length v2 l20) (k0 l15.length v2 l15)) (let x21:=Int.fdiv v2 (2 ^ 7);cond (!decide (x21=0)) (let x22:=Int.fdiv v2 (2 ^ 7);let x23:=IntKind.u8.wrap x22;let x24:=IntKind.u8.wrap ((BitVec.ofInt 8 x23||| BitVec.ofInt 8 128).toNat);let l25:=l10++[x24];rmK l25.length 1<| k0 l25.length v2 l25) (k0 l10.length v2 l10))) (let x26:=Int.fdiv v2 (2 ^ 14);cond (!decide (x26=0)) (let x27:=Int.fdiv v2 (2 ^ 14);let x28:=IntKind.u8.wrap x27;let x29:=IntKind.u8.wrap ((BitVec.ofInt 8 x28||| BitVec.ofInt 8 128).toNat);let l30:=l5++[x29];rmK l30.length 1<| let x31:=Int.fdiv v2 (2 ^ 7);cond (!decide (x31=0)) (let x32:=Int.fdiv v2 (2 ^ 7);let x33:=IntKind.u8.wrap x32;let x34:=IntKind.u8.wrap ((BitVec.ofInt 8 x33||| BitVec.ofInt 8 128).toNat);let l35:=l30++[x34];rmK l35.length 1<| k0 l35.length v2 l35) (k0 l30.length v2 l30)) (let x36:=Int.fdiv v2 (2 ^ 7);cond (!decide (x36=0)) (let x37:=Int.fdiv v2 (2 ^ 7);let x38:=IntKind.u8.wrap x37;let x39:=IntKind.u8.wrap ((BitVec.ofInt 8 x38||| BitVec.ofInt 8 128).toNat);let l40:=l5++[x39];rmK l40.length 1<| k0 l40.length v2 l40) (k0 l5.length v2 l5)))) (let x41:=Int.fdiv v2 (2 ^ 21);cond (!decide (x41=0)) (let x42:=Int.fdiv v2 (2 ^ 21);let x43:=IntKind.u8.wrap x42;let x44:=IntKind.u8.wrap ((BitVec.ofInt 8 x43||| BitVec.ofInt 8 128).toNat);let l45:=v3++[x44];rmK l45.length 1<| let x46:=Int.fdiv v2 (2 ^ 14);cond (!decide (x46=0)) (let x47:=Int.fdiv v2 (2 ^ 14);let x48:=IntKind.u8.wrap x47;let x49:=IntKind.u8.wrap ((BitVec.ofInt 8 x48||| BitVec.ofInt 8 128).toNat);let l50:=l45++[x49];rmK l50.length 1<| let x51:=Int.fdiv v2 (2 ^ 7);cond (!decide (x51=0)) (let x52:=Int.fdiv v2 (2 ^ 7);let x53:=IntKind.u8.wrap x52;let x54:=IntKind.u8.wrap ((BitVec.ofInt 8 x53||| BitVec.ofInt 8 128).toNat);let l55:=l50++[x54];rmK l55.length 1<| k0 l55.length v2 l55) (k0 l50.length v2 l50)) (let x56:=Int.fdiv v2 (2 ^ 7);cond (!decide (x56=0)) (let x57:=Int.fdiv v2 (2 ^ 7);let x58:=IntKind.u8.wrap x57;let x59:=IntKind.u8.wrap ((BitVec.ofInt 8 x58||| BitVec.ofInt 8 128).toNat);let l60:=l45++[x59];rmK l60.length 1<| k0 l60.length v2 l60) (k0 l45.length v2 l45))) (let x61:=Int.fdiv v2 (2 ^ 14);cond (!decide (x61=0)) (let x62:=Int.fdiv v2 (2 ^ 14);let x63:=IntKind.u8.wrap x62;let x64:=IntKind.u8.wrap ((BitVec.ofInt 8 x63||| BitVec.ofInt 8 128).toNat);let l65:=v3++[x64];rmK l65.length 1<| let x66:=Int.fdiv v2 (2 ^ 7);cond (!decide (x66=0)) (let x67:=Int.fdiv v2 (2 ^ 7);let x68:=IntKind.u8.wrap x67;let x69:=IntKind.u8.wrap ((BitVec.ofInt 8 x68||| BitVec.ofInt 8 128).toNat);let l70:=l65++[x69];rmK l70.length 1<| k0 l70.length v2 l70) (k0 l65.length v2 l65)) (let x71:=Int.fdiv v2 (2 ^ 7);cond (!decide (x71=0)) (let x72:=Int.fdiv v2 (2 ^ 7);let x73:=IntKind.u8.wrap x72;let x74:=IntKind.u8.wrap ((BitVec.ofInt 8 x73||| BitVec.ofInt 8 128).toNat);let l75:=v3++[x74];rmK l75.length 1<| k0 l75.length v2 l75) (k1 v1 v2 v3))))
def q70:St->(KT)->OO:=fun σ k=>match σ with|⟨[(q1,.nils),(q2,.cl (.int .u32 v1)),(q3,.cl (.int .i64 q4))],[]⟩=>cond (eqL [q1,q2,q3] [0,1,5]&&decide (q4=28)) (shut (q08 (fun y1 y2 y3 y4 y5=>k .normal ⟨[(0,.ref 85 0 4 true 1),(1,.cl (.int .u32 y1))],[(85,⟨.ints .u8 [y2,y3,y4,y5],false⟩)]⟩) (fun y1 y2 y3 y4=>k .normal ⟨[(0,.ref 85 0 3 true 1),(1,.cl (.int .u32 y1))],[(85,⟨.ints .u8 [y2,y3,y4],false⟩)]⟩) (fun y1 y2 y3=>k .normal ⟨[(0,.ref 85 0 2 true 1),(1,.cl (.int .u32 y1))],[(85,⟨.ints .u8 [y2,y3],false⟩)]⟩) (fun y1 y2=>k .normal ⟨[(0,.ref 85 0 1 true 1),(1,.cl (.int .u32 y1))],[(85,⟨.ints .u8 [y2],false⟩)]⟩) (fun y1=>k .normal ⟨[(0,.nils),(1,.cl (.int .u32 y1))],[]⟩)) v1) none|⟨[(q1,.ref q2 q3 v1 true q4),(q5,.cl (.int .u32 v2)),(q6,.cl (.int .i64 q7))],[(q8,⟨.ints .u8 v3,false⟩)]⟩=>cond (eqL [q1,q2,q3,q4,q5,q6,q8] [0,0,0,1,1,5,0]&&decide (q7=28)) (shut (qqg (fun y1 y2 y3=>k .normal ⟨[(0,.ref 85 0 y1 true 1),(1,.cl (.int .u32 y2))],[(85,⟨.ints .u8 y3,false⟩)]⟩) (fun y1 y2 y3=>k .normal ⟨[(0,.ref 0 0 y1 true 1),(1,.cl (.int .u32 y2))],[(0,⟨.ints .u8 y3,false⟩)]⟩)) v1 v2 v3) none|_=>none
def EOPut:Env:= {mkE BOPut qa8 28 with live:=lk [] [(2,[0,1,5])],xl:=lk none [(0,some [4]),(1,some [0,1]),(1002,some [0,1])],jn:=lk none [(2,some q70)]}
theorem q71:JnOk Tryz.prog (EOPut) 40 (nthc (EOPut) Tryz.f110 0) 2 q70:=by
 intro σ k r h;unfold q70 at h;split at h
 ·obtain⟨hc,j⟩:=qaa h;simp only[zab,qen,decide_eq_true_eq,zao] at hc;obtain⟨hc,rfl⟩:=hc;cases qa3 hc;rw[qab] at j;exact zds (by kernel_rfl) j
 ·obtain⟨hc,j⟩:=qaa h;simp only[zab,qen,decide_eq_true_eq,zao] at hc;obtain⟨hc,rfl⟩:=hc;cases qa3 hc;rw[qab] at j;exact zds (by kernel_rfl) j
 ·cases h
def xbh5(n:Int):OO:=shut (q08 (fun y1 y2 y3 y4 y5=>let x6:=IntKind.u8.wrap y1;let x7:=IntKind.u8.wrap ((BitVec.ofInt 8 x6&&& ~~~ BitVec.ofInt 8 128).toNat);zR [.ref 0 0 5 true 1] [some ⟨.ints .u8 [y2,y3,y4,y5,x7],false⟩]) (fun y8 y9 y10 y11=>let x12:=IntKind.u8.wrap y8;let x13:=IntKind.u8.wrap ((BitVec.ofInt 8 x12&&& ~~~ BitVec.ofInt 8 128).toNat);zR [.ref 0 0 4 true 1] [some ⟨.ints .u8 [y9,y10,y11,x13],false⟩]) (fun y14 y15 y16=>let x17:=IntKind.u8.wrap y14;let x18:=IntKind.u8.wrap ((BitVec.ofInt 8 x17&&& ~~~ BitVec.ofInt 8 128).toNat);zR [.ref 0 0 3 true 1] [some ⟨.ints .u8 [y15,y16,x18],false⟩]) (fun y19 y20=>let x21:=IntKind.u8.wrap y19;let x22:=IntKind.u8.wrap ((BitVec.ofInt 8 x21&&& ~~~ BitVec.ofInt 8 128).toNat);zR [.ref 0 0 2 true 1] [some ⟨.ints .u8 [y20,x22],false⟩]) (fun y23=>let x24:=IntKind.u8.wrap y23;let x25:=IntKind.u8.wrap ((BitVec.ofInt 8 x24&&& ~~~ BitVec.ofInt 8 128).toNat);zR [.ref 0 0 1 true 1] [some ⟨.ints .u8 [x25],false⟩])) n
def xbh6(m:Nat)(n:Int)(l:LI):OO:=shut (qqg (fun y1 y2 y3=>let x4:=IntKind.u8.wrap y2;let x5:=IntKind.u8.wrap ((BitVec.ofInt 8 x4&&& ~~~ BitVec.ofInt 8 128).toNat);let l6:=y3++[x5];rmK l6.length 1<| zR [.ref 1 0 l6.length true 1] [none,some ⟨.ints .u8 l6,false⟩]) (fun y7 y8 y9=>let x10:=IntKind.u8.wrap y8;let x11:=IntKind.u8.wrap ((BitVec.ofInt 8 x10&&& ~~~ BitVec.ofInt 8 128).toNat);let l12:=y9++[x11];rmK l12.length 1<| zR [.ref 1 0 l12.length true 1] [none,some ⟨.ints .u8 l12,false⟩])) m n l
def qii(again:Int->Nat->LI->OO)(k0:Nat->LI->OO)(v1:Int)(v2:Nat)(v3:LI):OO:=cond (decide ((0:Int)<v1)) (let x4:=Int.tmod v1 128;let x5:=IntKind.u32.wrap ((128:Int)+x4);let x6:=IntKind.u8.wrap x5;let l7:=[x6]++v3;rmK l7.length 1<| let x8:=IntKind.u32.wrap (Int.tdiv v1 128);again x8 l7.length l7) (k0 v2 v3)
def qg6(k0:Nat->LI->OO):Nat->Int->Nat->LI->OO:=qdl (fun a=>qii a k0) (fun _ _ _=>none)
def qms:St->(KT)->OO:=fun σ k=>match σ with|⟨[(q1,.cl (.int .u32 v1)),(q2,.ref q3 q4 v2 true q5)],[(q6,⟨.ints .u8 v3,false⟩)]⟩=>cond (eqL [q1,q2,q3,q4,q5,q6] [0,3,71,0,1,71]) (shut (qg6 (fun y1 y2=>k (.exit 0) ⟨[(3,.ref 71 0 y1 true 1)],[(71,⟨.ints .u8 y2,false⟩)]⟩) FUEL) v1 v2 v3) none|_=>none
def ER2Groups:Env:= {mkE BR2Groups qa8 22 with live:=lk [] [(3,[0,3])],ren:=lk [] [(3,[(84,71)])],lp:=lk none [(3,some qms)],xl:=lk none [(0,some [2]),(1,some [3])]}
theorem qt5:LpT Tryz.prog (ER2Groups) Tryz.f83 0 3 qms:=by
 intro σ k r h;unfold qms at h;split at h
 ·obtain⟨hc,j⟩:=qaa h;cases qa3 hc;rw[qab] at j;apply it3 j
  ·intro n;kernel_rfl
  ·rfl
 ·cases h
def q3i(n:Int):OO:=let x1:=Int.tmod n 128;let x2:=IntKind.u8.wrap x1;let x3:=IntKind.u32.wrap (Int.tdiv n 128);shut (qg6 (fun y4 y5=>zR [.ref 0 0 y4 true 1] [some ⟨.ints .u8 y5,false⟩]) FUEL) x3 1 [x2]
def qnc(again:Nat->LI->Int->Int->LI->OO)(k0:Nat->LI->OO)(v1:Nat)(v2:LI)(v3 v4:Int)(v5:LI):OO:=cond (decide (v4<v3)) (getK v2 v4 fun e9=>cond (u32Ok e9&&qr9 v5) (let r10:=(v5++qbi e9).length;let r11:=v5++qbi e9;let x12:=IntKind.i64.wrap (v4+1);again r10 v2 v3 x12 r11) none) (k0 v1 v5)
def qlo(k0:Nat->LI->OO):Nat->Nat->LI->Int->Int->LI->OO:=qdl (fun a=>qnc a k0) (fun _ _ _ _ _=>none)
def qt1:St->(KT)->OO:=fun σ k=>match σ with|⟨[(q1,.ref q2 q3 v1 true q4),(q5,.cl (.sli .u32 v2)),(q6,.cl (.int .i64 v3)),(q7,.cl (.int .i64 v4))],[(q8,⟨.ints .u8 v5,false⟩)]⟩=>cond (eqL [q1,q2,q3,q4,q5,q6,q7,q8] [3,81,0,1,19,20,21,81]) (shut (qlo (fun y1 y2=>k (.exit 0) ⟨[(3,.ref 81 0 y1 true 1)],[(81,⟨.ints .u8 y2,false⟩)]⟩) FUEL) v1 v2 v3 v4 v5) none|_=>none
def EOBytes:Env:= {mkE BOBytes qa8 30 with byref:=lk [] [(110,[0])],keep:=lk false [(110,true)],live:=lk [] [(5,[3,19,20,21])],ren:=lk [] [(5,[(91,81)])],lp:=lk none [(5,some qt1)],xl:=lk none [(0,some [2]),(1,some [3])]}
theorem qy7:LpT Tryz.prog (EOBytes) Tryz.f89 0 5 qt1:=by
 intro σ k r h;unfold qt1 at h;split at h
 ·obtain⟨hc,j⟩:=qaa h;cases qa3 hc;rw[qab] at j;apply it5 j
  ·intro n;kernel_rfl
  ·rfl
 ·cases h
def xbh4(o:LI):OO:=let r1:=qhf o;cond (!r1) (zR [.cl (.sli .u8 [])] []) (cond (decide ((0:Int)<(o.length:Int))) (Option.bind (o[0]?) fun(e2:Int)=>let x3:=IntKind.u32.wrap ((40:Int)*e2);cond (decide ((1:Int)<(o.length:Int))) (Option.bind (o[1]?) fun(e4:Int)=>let x5:=IntKind.u32.wrap (x3+e4);cond (u32Ok x5) (let r6:=(qbi x5).length;let r7:=qbi x5;cond (decide ((2:Int)<=(o.length:Int))) (let l8:=List.drop 2 o;shut (qlo (fun y9 y10=>zR [zvl y10] []) FUEL) r6 l8 (l8.length:Int) 0 r7) none) none) none) none)
def qkz(again:LI->Nat->Int->LI->OO)(k0:Nat->LI->OO)(v1:LI)(v2:Nat)(v3:Int)(v4:LI):OO:=cond (decide (v3<(v1.length:Int))) (getK v1 v3 fun e8=>cond (u32Ok e8) (let r10:=qbi e8;let l11:=v4++r10;rmK l11.length 1<| let x12:=IntKind.i64.wrap (v3+1);again v1 l11.length x12 l11) none) (k0 v2 v4)
def qjv(k0:Nat->LI->OO):Nat->LI->Nat->Int->LI->OO:=qdl (fun a=>qkz a k0) (fun _ _ _ _=>none)
def qpl:St->(KT)->OO:=fun σ k=>match σ with|⟨[(q1,.cl (.sli .u32 v1)),(q2,.ref q3 q4 v2 true q5),(q6,.cl (.int .i64 v3))],[(q7,⟨.ints .u8 v4,false⟩)]⟩=>cond (eqL [q1,q2,q3,q4,q5,q6,q7] [0,3,80,0,1,4,80]) (shut (qjv (fun y1 y2=>k (.exit 0) ⟨[(3,.ref 80 0 y1 true 1)],[(80,⟨.ints .u8 y2,false⟩)]⟩) FUEL) v1 v2 v3 v4) none|_=>none
def ER2Bytes:Env:= {mkE BR2Bytes qa8 31 with keep:=lk false [(83,true)],live:=lk [] [(5,[0,3,4])],ren:=lk [] [(5,[(93,80)])],lp:=lk none [(5,some qpl)],xl:=lk none [(0,some [2]),(1,some [3])]}
theorem qw2:LpT Tryz.prog (ER2Bytes) Tryz.f53 0 5 qpl:=by
 intro σ k r h;unfold qpl at h;split at h
 ·obtain⟨hc,j⟩:=qaa h;cases qa3 hc;rw[qab] at j;apply it4 j
  ·intro n;kernel_rfl
  ·rfl
 ·cases h
def q9v(o:LI):OO:=let r1:=qhf o;cond (!r1) (zR [.cl (.sli .u8 [])] []) (cond (decide ((0:Int)<(o.length:Int))) (Option.bind (o[0]?) fun(e2:Int)=>let x3:=IntKind.u32.wrap ((40:Int)*e2);cond (decide ((1:Int)<(o.length:Int))) (Option.bind (o[1]?) fun(e4:Int)=>let x5:=IntKind.u32.wrap (x3+e4);cond (u32Ok x5) (let r6:=(qbi x5).length;let r7:=qbi x5;shut (qjv (fun y8 y9=>zR [zvl y9] []) FUEL) o r6 2 r7) none) none) none)
def EVPlain:Env:= {mkE BVPlain qa8 23 with xl:=lk none [(0,some [4,5])]}
def xbiq(t:Int)(b:LI)(k:LC)(g:Int):OO:=cond (!decide (t=g)) (zR [.cl (.sli .u8 []),zvi 4] []) (cond (decide ((0:Int)<(k.length:Int))) (zR [.cl (.sli .u8 []),zvi 5] []) (cond (qad b) (let r1:=qgb g b;cond (!r1) (zR [.cl (.sli .u8 []),zvi 5] []) (zR [zvl b,zvi 0] [])) none))
def xbo4:Env:= {mkE q7x qa8 35 with xl:=lk none [(0,some [6,7])]}
def xbis(t:Int)(b:LI)(k:LC):OO:=cond (!decide (t=6)) (zR [.cl (.sli .u32 []),zvi 4] []) (cond (decide ((0:Int)<(k.length:Int))) (zR [.cl (.sli .u32 []),zvi 5] []) (cond (isS ([.int .i64 6,.sli .u8 b,.slg 3 []])) (let r1:=qou ([.int .i64 6,.sli .u8 b,.slg 3 []]);cond (!r1) (zR [.cl (.sli .u32 []),zvi 5] []) (cond (qad b) (let r2:=(qb2 b).1;let r3:=(qb2 b).2;zR [.cl (.sli .u32 r2),zvi r3] []) none)) none))
def xbvg:Env:= {mkE xbk1 qa8 8 with xl:=lk none [(0,some [2,3])]}
def xbv3(t:Int)(b:LI)(k:LC):OO:=cond (isS [.int .i64 t,.sli .u8 b,.slg 3 k]) (let r1:=(qf2 t b k).1;let r2:=(qf2 t b k).2;zR [.cl (.sli .u32 r1),zvi r2] []) none
def xbo3:Env:= {mkE q7w qa8 18 with xl:=lk none [(0,some [2,3])]}
def xbqh(t:Int)(b:LI)(k:LC):OO:=cond (isS [.int .i64 t,.sli .u8 b,.slg 3 k]) (let r1:=(qry 6 t b k).1;let r2:=(qry 6 t b k).2;cond (!decide (r2=0)) (zR [.cl (.sli .u32 []),zvi r2] []) (cond (qad r1) (let r3:=(qb2 r1).1;let r4:=(qb2 r1).2;zR [.cl (.sli .u32 r3),zvi r4] []) none)) none
def EVMade:Env:= {mkE BVMade qa8 15 with xl:=lk none [(0,some [4,5])]}
def xbqg(g:Int)(b:LI):OO:=cond (isS ([.int .i64 g,.sli .u8 b,.slg 3 []])) (let r1:=qou ([.int .i64 g,.sli .u8 b,.slg 3 []]);cond (!r1) (zR [.cl (.agg [.int .i64 0,.sli .u8 [],.slg 3 []]),zvi 5] []) (zR [.cl (.agg [.int .i64 g,.sli .u8 b,.slg 3 []]),zvi 0] [])) none
def EVId:Env:= {mkE BVId qa8 9 with xl:=lk none [(0,some [2,3])]}
def gVId(o:LI):OO:=cond (qsh o) (let r1:=qal o;cond (qqx 6 r1) (let r2:=(qcr 6 r1).1;let r3:=(qcr 6 r1).2.1;let r4:=qk3;let r5:=(qcr 6 r1).2.2;zR [.cl (.agg [.int .i64 r2,.sli .u8 r3,.slg 3 r4]),zvi r5] []) none) none
def EVRMade:Env:= {mkE BVRMade qa8 14 with xl:=lk none [(0,some [4,5])]}
def xbir(g:Int)(b:LI):OO:=cond (qad b) (let r1:=qgb g b;cond (!r1) (zR [.cl (.agg [.int .i64 0,.sli .u8 [],.slg 3 []]),zvi 5] []) (zR [.cl (.agg [.int .i64 g,.sli .u8 b,.slg 3 []]),zvi 0] [])) none
def EVRId:Env:= {mkE BVRId qa8 9 with xl:=lk none [(0,some [2,3])]}
def xbzz(o:LI):OO:=cond (qsh o) (let r1:=qal o;cond (qqx 6 r1) (let r2:=(qcr 6 r1).1;let r3:=(qcr 6 r1).2.1;let r4:=qk3;let r5:=(qcr 6 r1).2.2;zR [.cl (.agg [.int .i64 r2,.sli .u8 r3,.slg 3 r4]),zvi r5] []) none) none
def EVClone:Env:= {mkE BVClone qa8 8 with xl:=lk none [(0,some [2])]}
def xbip(l:LC):OO:=cond (Nat.beq l.length 0) (xbli (zR [.cl (.slg 3 [])] []) (let l1:=[]++l;rmK l1.length 56<| zR [zvg l1] [])) (let l2:=[]++l;rmK l2.length 56<| zR [zvg l2] [])
def EVSeq:Env:= {mkE BVSeq qa8 6 with xl:=lk none [(0,some [2])]}
def xbz0(l:LC):OO:=cond (qfu l) (zR [.cl (.agg [.int .i64 48,.sli .u8 [],.slg 3 l])] []) none
def EVKids:Env:= {mkE BVKids qa8 24 with xl:=lk none [(0,some [4,5])]}
def xbqf(t:Int)(b:LI)(k:LC)(g:Int):OO:=cond (!decide (t=g)) (zR [.cl (.slg 3 []),zvi 4] []) (let r1:=qcb g;cond (!r1) (zR [.cl (.slg 3 []),zvi 4] []) (cond (decide ((0:Int)<(b.length:Int))) (zR [.cl (.slg 3 []),zvi 5] []) (cond (qfu k) (zR [zvg k,zvi 0] []) none)))
def EVRSeq:Env:= {mkE BVRSeq qa8 5 with xl:=lk none [(0,some [2])]}
def xbv4(l:LC):OO:=zR [.cl (.agg [.int .i64 48,.sli .u8 [],.slg 3 l])] []
def qns(again:LC->Nat->Nat->Int->LI->Int->LC->LC->OO)(k0:LC->Nat->Nat->Int->LI->Int->LC->LC->OO)(v1:LC)(v2 v3:Nat)(v4:Int)(v5:LI)(v6:Int)(v7 v8:LC):OO:=cond (decide (v6<(v3:Int))) (idxK v6 v3 fun _=>Option.bind (v8[(0+(Int.toNat v6))]?) fun(e10:CV)=>let e11:=(cell1 e10).getD 0 .nili;cond (qbl .u8 e11) (let l12:=qbb e11;cond (qr9 v5) (let r13:=qg4 v5 l12;cond (!r13) (let x14:=IntKind.i64.wrap (v6+1);again v1 v2 v3 v4 v5 x14 v7 v8) (k0 v1 v2 v3 v4 v5 v6 v7 v8)) none) none) (k0 v1 v2 v3 v4 v5 v6 v7 v8)
def qi1(k0:LC->Nat->Nat->Int->LI->Int->LC->LC->OO):Nat->LC->Nat->Nat->Int->LI->Int->LC->LC->OO:=qdl (fun a=>qns a k0) (fun _ _ _ _ _ _ _ _=>none)
def qqw(again:LC->Nat->Nat->Int->LC->LC->OO)(k0:OO)(k1:Nat->LC->OO)(v1:LC)(v2 v3:Nat)(v4:Int)(v5 v6:LC):OO:=cond (decide (v4<(v1.length:Int))) (getK v1 v4 fun e1=>let e2:=(cell1 e1).headD .nili;let e3:=(cell1 e1).tail.headD .nili;let e4:=(cell1 e1).tail.tail.headD .nili;cond (qfy .i64 e2&&(qbl .u8 e3&&(qcj 3 e4&&true))) (let i5:=qfi e2;let l6:=qbb e3;let l7:=qca e4;cond (isS [.int .i64 i5,.sli .u8 l6,.slg 3 l7]) (let r8:=(qa0 [.int .i64 i5,.sli .u8 l6,.slg 3 l7]).1;let r9:=(qa0 [.int .i64 i5,.sli .u8 l6,.slg 3 l7]).2;cond (!decide (r9=0)) (k0) (shut (qi1 (fun y10 y11 y12 y13 y14 y15 y16 y17=>cond (decide ((0:Int)<=y15)) (cond (decide (y15<=(y12:Int))) (let l18:=[]++(List.take (Int.toNat y15) y17);rmK l18.length 24<| let l19:=l18++[.sli .u8 y14];rmK l19.length 24<| cond (decide ((0:Int)<=y15)) (cond (decide (y15<=(y12:Int))) (let l20:=l19++(win y17 (0+(Int.toNat y15)) 0 true);rmK l20.length 24<| cond (decide ((0:Int)<=y15)) (cond (decide (y15<=(y11:Int))) (let l21:=[]++(List.take (Int.toNat y15) y16);rmK l21.length 56<| getK y10 y13 fun e22=>let e23:=(cell1 e22).headD .nili;let e24:=(cell1 e22).tail.headD .nili;let e25:=(cell1 e22).tail.tail.headD .nili;cond (qfy .i64 e23&&(qbl .u8 e24&&(qcj 3 e25&&true))) (let i26:=qfi e23;let l27:=qbb e24;let l28:=qca e25;let l29:=l21++([.agg [.int .i64 i26,.sli .u8 l27,.slg 3 l28]]);rmK l29.length 56<| cond (decide ((0:Int)<=y15)) (cond (decide (y15<=(y11:Int))) (let l30:=l29++(win y16 (0+(Int.toNat y15)) 0 true);rmK l30.length 56<| let x31:=IntKind.i64.wrap (y13+1);again y10 l30.length l20.length x31 l30 l20) none) none) none) none) none) none) none) none) none) FUEL) v1 v2 v3 v4 r8 0 v5 v6)) none) none) (k1 v2 v5)
def ql9(k0:OO)(k1:Nat->LC->OO):Nat->LC->Nat->Nat->Int->LC->LC->OO:=qdl (fun a=>qqw a k0 k1) (fun _ _ _ _ _ _=>none)
def qut:St->(KT)->OO:=fun σ k=>match σ with|⟨[(q1,.cl (.slg q2 v1)),(q3,.ptr q4 q5 q6),(q7,.ref q8 q9 v2 true q10),(q11,.ref q12 q13 v3 true q14),(q15,.cl (.int .i64 v4)),(q16,.cl (.sli .u8 v5)),(q17,.cl (.int .i64 v6))],[(q18,⟨.var [.cl (.int .i64 q19),.nils,.nils],false⟩),(q20,⟨.gen q21 v7,false⟩),(q22,⟨.gen q23 v8,false⟩)]⟩=>cond (eqL [q1,q2,q3,q4,q5,q6,q7,q8,q9,q10,q11,q12,q13,q14,q15,q16,q17,q18,q20,q21,q22,q23] [0,3,2,66,0,0,4,68,0,3,5,69,0,1,6,7,9,66,68,3,69,1]&&decide (q19=0)) (shut (qi1 (fun y1 y2 y3 y4 y5 y6 y7 y8=>k (.exit 2) ⟨[(0,zvg y1),(2,.ptr 66 0 0),(4,.ref 68 0 y2 true 3),(5,.ref 69 0 y3 true 1),(6,zvi y4),(7,zvl y5),(9,zvi y6)],[(66,⟨.var [zvi 0,.nils,.nils],false⟩),(68,⟨.gen 3 y7,false⟩),(69,⟨.gen 1 y8,false⟩)]⟩) FUEL) v1 v2 v3 v4 v5 v6 v7 v8) none|_=>none
def q0j:St->(KT)->OO:=fun σ k=>match σ with|⟨[(q1,.cl (.slg q2 v1)),(q3,.ptr q4 q5 q6),(q7,.ref q8 q9 v2 true q10),(q11,.ref q12 q13 v3 true q14),(q15,.cl (.int .i64 v4))],[(q16,⟨.var [.cl (.int .i64 q17),.nils,.nils],false⟩),(q18,⟨.gen q19 v5,false⟩),(q20,⟨.gen q21 v6,false⟩)]⟩=>cond (eqL [q1,q2,q3,q4,q5,q6,q7,q8,q9,q10,q11,q12,q13,q14,q15,q16,q18,q19,q20,q21] [0,3,2,66,0,0,4,68,0,3,5,69,0,1,6,66,68,3,69,1]&&decide (q17=0)) (shut (ql9 (k .ret ⟨[(2,.ptr 66 0 0),(3,zvi 1)],[(66,⟨.var [zvi 0,.nils,.nils],false⟩)]⟩) (fun y1 y2=>k (.exit 0) ⟨[(2,.ptr 66 0 0),(4,.ref 68 0 y1 true 3)],[(66,⟨.var [zvi 0,.nils,.nils],false⟩),(68,⟨.gen 3 y2,false⟩)]⟩) FUEL) v1 v2 v3 v4 v5 v6) none|_=>none
def EVRSet:Env:= {mkE BVRSet qa8 77 with live:=lk [] [(4,[0,2,4,5,6]),(10,[0,2,4,5,6,7,9])],ren:=lk [] [(4,[(138,68),(121,69)])],lp:=lk none [(4,some q0j),(10,some qut)],xl:=lk none [(0,some [2,3]),(1,some [2,4]),(3,some [0,2,4,5,6,7,9])]}
theorem q0i:LpT Tryz.prog (EVRSet) Tryz.f67 0 10 qut:=by
 intro σ k r h;unfold qut at h;split at h
 ·obtain⟨hc,j⟩:=qaa h;simp only[zab,qen,decide_eq_true_eq,zao] at hc;obtain⟨hc,rfl⟩:=hc;cases qa3 hc;rw[qab] at j;apply it8 j
  ·intro n;kernel_rfl
  ·rfl
 ·cases h
theorem q6a:LpT Tryz.prog (EVRSet) Tryz.f67 1 4 q0j:=by
 intro σ k r h;unfold q0j at h;split at h
 ·obtain⟨hc,j⟩:=qaa h;simp only[zab,qen,decide_eq_true_eq,zao] at hc;obtain⟨hc,rfl⟩:=hc;cases qa3 hc;rw[qab] at j;apply it6 j
  ·intro n;kernel_rfl
  ·rfl
 ·cases h
def xbqi(l:LC):OO:=shut (ql9 (zR [.cl (.agg [.int .i64 0,.sli .u8 [],.slg 3 []]),zvi 1] []) (fun y1 y2=>zR [.cl (.agg [.int .i64 49,.sli .u8 [],.slg 3 y2]),zvi 0] []) FUEL) l 0 0 0 [] []
def ETCmp4:Env:= {mkE BTCmp4 qa8 10 with xl:=lk none [(0,some [4])]}
def xbvw(tp:Int)(bp:LI)(kp:LC)(wp:LI)(tq:Int)(bq:LI)(kq:LC)(wq:LI):OO:=cond (qad wp&&qad wq) (let r1:=qbk wp wq;zI r1) none
def qnf(again:Nat->Int->Int->Int->Int->LC->OO)(k0:LC->OO)(v1:Nat)(v2 v3 v4 v5:Int)(v6:LC):OO:=cond (decide (v5<v4)) (let x1:=IntKind.i64.wrap (v2+v5);let x2:=IntKind.i64.wrap (v3+v5);let x3:=IntKind.i64.wrap (v3+v5);idxK x3 v1 fun _=>Option.bind (v6[(0+(Int.toNat x3))]?) fun(e4:CV)=>let e5:=(cell1 e4).headD .nili;let e6:=(cell1 e4).tail.headD .nili;let e7:=(cell1 e4).tail.tail.headD .nili;let e8:=(cell1 e4).tail.tail.tail.headD .nili;cond (qfy .i64 e5&&(qbl .u8 e6&&(qcj 3 e7&&(qbl .u8 e8&&true)))) (let i9:=qfi e5;let l10:=qbb e6;let l11:=qca e7;let l12:=qbb e8;let x13:=IntKind.i64.wrap (v2+v5);idxK x13 v1 fun _=>Option.bind (v6[(0+(Int.toNat x13))]?) fun(e14:CV)=>let e15:=(cell1 e14).headD .nili;let e16:=(cell1 e14).tail.headD .nili;let e17:=(cell1 e14).tail.tail.headD .nili;let e18:=(cell1 e14).tail.tail.tail.headD .nili;cond (qfy .i64 e15&&(qbl .u8 e16&&(qcj 3 e17&&(qbl .u8 e18&&true)))) (let i19:=qfi e15;let l20:=qbb e16;let l21:=qca e17;let l22:=qbb e18;idxK x1 v1 fun _=>let l23:=v6.set (0+(Int.toNat x1)) (.agg [.int .i64 i9,.sli .u8 l10,.slg 3 l11,.sli .u8 l12]);idxK x2 v1 fun _=>let l24:=l23.set (0+(Int.toNat x2)) (.agg [.int .i64 i19,.sli .u8 l20,.slg 3 l21,.sli .u8 l22]);let x25:=IntKind.i64.wrap (v5+1);again v1 v2 v3 v4 x25 l24) none) none) (k0 v6)
def ql2(k0:LC->OO):Nat->Nat->Int->Int->Int->Int->LC->OO:=qdl (fun a=>qnf a k0) (fun _ _ _ _ _ _=>none)
def qud:St->(KT)->OO:=fun σ k=>match σ with|⟨[(q1,.ref q2 q3 v1 true q4),(q5,.cl (.int .i64 v2)),(q6,.cl (.int .i64 v3)),(q7,.cl (.int .i64 v4)),(q8,.cl (.int .i64 v5))],[(q9,⟨.gen q10 v6,false⟩)]⟩=>cond (eqL [q1,q2,q3,q4,q5,q6,q7,q8,q9,q10] [0,0,0,4,1,2,3,10,0,4]) (shut (ql2 (fun y1=>k (.exit 0) ⟨[],[(0,⟨.gen 4 y1,false⟩)]⟩) FUEL) v1 v2 v3 v4 v5 v6) none|_=>none
def ETSwap4:Env:= {mkE BTSwap4 qa8 38 with live:=lk [] [(1,[0,1,2,3,10])],lp:=lk none [(1,some qud)],xl:=lk none [(0,some []),(1,some [])]}
theorem qzx:LpT Tryz.prog (ETSwap4) Tryz.f138 0 1 qud:=by
 intro σ k r h;unfold qud at h;split at h
 ·obtain⟨hc,j⟩:=qaa h;cases qa3 hc;rw[qab] at j;apply it6 j
  ·intro n;kernel_rfl
  ·rfl
 ·cases h
def xbii(m:Nat)(a:Int)(b:Int)(n:Int)(l:LC):OO:=shut (ql2 (fun y1=>zR [] [some ⟨.gen 4 y1,false⟩]) FUEL) m a b n 0 l
def qqn(again:Nat->Int->Int->Int->LC->OO)(k0:Nat->Int->Int->LC->OO)(v1:Nat)(v2 v3 v4:Int)(v5:LC):OO:=cond (!decide (v3=v4)) (cond (decide (v4<v3)) (let x3:=IntKind.i64.wrap (v2 - v3);cond (rows4 v1 v5&&swOk v1 x3 v2 v4) (let r4:=swpC v5 x3 v2 v4;let x5:=IntKind.i64.wrap (v3 - v4);again v1 v2 x5 v4 r4) none) (let x6:=IntKind.i64.wrap (v2 - v3);let x7:=IntKind.i64.wrap (v2+v4);let x8:=IntKind.i64.wrap (x7 - v3);cond (rows4 v1 v5&&swOk v1 x6 x8 v3) (let r9:=swpC v5 x6 x8 v3;let x10:=IntKind.i64.wrap (v4 - v3);again v1 v2 v3 x10 r9) none)) (k0 v1 v2 v3 v5)
def qpd(k0:Nat->Int->Int->LC->OO):Nat->Nat->Int->Int->Int->LC->OO:=qdl (fun a=>qqn a k0) (fun _ _ _ _ _=>none)
def qzp:St->(KT)->OO:=fun σ k=>match σ with|⟨[(q1,.ref q2 q3 v1 true q4),(q5,.cl (.int .i64 v2)),(q6,.cl (.fn (.func q7) [] [])),(q8,.cl (.int .i64 v3)),(q9,.cl (.int .i64 v4))],[(q10,⟨.gen q11 v5,false⟩)]⟩=>cond (eqL [q1,q2,q3,q4,q5,q6,q7,q8,q9,q10,q11] [0,0,0,4,2,4,85,10,11,0,4]) (shut (qpd (fun y1 y2 y3 y4=>k (.exit 0) ⟨[(0,.ref 0 0 y1 true 4),(2,zvi y2),(4,.cl (.fn (.func 85) [] [])),(10,zvi y3)],[(0,⟨.gen 4 y4,false⟩)]⟩) FUEL) v1 v2 v3 v4 v5) none|_=>none
def ETRot4:Env:= {mkE BTRot4 qa8 58 with byref:=lk [] [(138,[0])],live:=lk [] [(2,[0,2,4,10,11])],lp:=lk none [(2,some qzp)],xl:=lk none [(0,some []),(1,some [0,2,4,10])]}
theorem q5x:LpT Tryz.prog (ETRot4) Tryz.f135 0 2 qzp:=by
 intro σ k r h;unfold qzp at h;split at h
 ·obtain⟨hc,j⟩:=qaa h;cases qa3 hc;rw[qab] at j;apply it5 j
  ·intro n;kernel_rfl
  ·rfl
 ·cases h
def xbp5(m:Nat)(a:Int)(p:Int)(b:Int)(l:LC):OO:=let x1:=IntKind.i64.wrap (p - a);let x2:=IntKind.i64.wrap (b - p);shut (qpd (fun y3 y4 y5 y6=>let x7:=IntKind.i64.wrap (y4 - y5);cond (rows4 y3 y6&&swOk y3 x7 y4 y5) (let r8:=swpC y6 x7 y4 y5;zR [] [some ⟨.gen 4 r8,false⟩]) none) FUEL) m p x1 x2 l
abbrev xbkx:=Nat->Int->Int->Int->LC->OO
abbrev xbky:=Nat->Nat->Int->Int->Int->LC->OO
abbrev xbkz:=Nat->Nat->Int->Int->LC->OO
abbrev xbk0:=Nat->Int->Int->Int->Int->Int->Int->LC->OO
def qqs(rk:Nat)(again:xbkx)(k0:Nat->Int->Int->LC->OO)(v1:Nat)(v2 v3 v4:Int)(v5:LC):OO:=cond (decide (v3<v4)) (let x2:=IntKind.i64.wrap (v3+v4);let x3:=IntKind.u64.wrap x2;let x4:=Int.fdiv x3 (2 ^ 1);let x5:=IntKind.i64.wrap x4;idxK x5 v1 fun _=>Option.bind (v5[(0+(Int.toNat x5))]?) fun(e6:CV)=>let e7:=(cell1 e6).headD .nili;let e8:=(cell1 e6).tail.headD .nili;let e9:=(cell1 e6).tail.tail.headD .nili;let e10:=(cell1 e6).tail.tail.tail.headD .nili;cond (qfy .i64 e7&&(qbl .u8 e8&&(qcj 3 e9&&(qbl .u8 e10&&true)))) (let l14:=qbb e10;idxK v2 v1 fun _=>Option.bind (v5[(0+(Int.toNat v2))]?) fun(e15:CV)=>let e16:=(cell1 e15).headD .nili;let e17:=(cell1 e15).tail.headD .nili;let e18:=(cell1 e15).tail.tail.headD .nili;let e19:=(cell1 e15).tail.tail.tail.headD .nili;cond (qfy .i64 e16&&(qbl .u8 e17&&(qcj 3 e18&&(qbl .u8 e19&&true)))) (let l23:=qbb e19;cond (qad l14&&qad l23) (let r24:=qbk l14 l23;cond (decide (r24<0)) (let x25:=IntKind.i64.wrap (x5+1);again v1 v2 x25 v4 v5) (again v1 v2 v3 x5 v5)) none) none) none) (k0 v1 v2 v3 v5)
def ql5(rk:Nat)(k0:Nat->Int->Int->LC->OO):xbky:=qdl (fun a=>qqs rk a k0) (fun _ _ _ _ _=>none)
def qqt(rk:Nat)(again:Nat->Int->Int->LC->OO)(k0:LC->OO)(v1:Nat)(v2 v3:Int)(v4:LC):OO:=let x6:=IntKind.i64.wrap (v2 - 1);cond (decide (v3<x6)) (let x7:=IntKind.i64.wrap (v3+1);let x8:=IntKind.i64.wrap (v3+1);idxK x8 v1 fun _=>Option.bind (v4[(0+(Int.toNat x8))]?) fun(e9:CV)=>let e10:=(cell1 e9).headD .nili;let e11:=(cell1 e9).tail.headD .nili;let e12:=(cell1 e9).tail.tail.headD .nili;let e13:=(cell1 e9).tail.tail.tail.headD .nili;cond (qfy .i64 e10&&(qbl .u8 e11&&(qcj 3 e12&&(qbl .u8 e13&&true)))) (let i14:=qfi e10;let l15:=qbb e11;let l16:=qca e12;let l17:=qbb e13;idxK v3 v1 fun _=>Option.bind (v4[(0+(Int.toNat v3))]?) fun(e18:CV)=>let e19:=(cell1 e18).headD .nili;let e20:=(cell1 e18).tail.headD .nili;let e21:=(cell1 e18).tail.tail.headD .nili;let e22:=(cell1 e18).tail.tail.tail.headD .nili;cond (qfy .i64 e19&&(qbl .u8 e20&&(qcj 3 e21&&(qbl .u8 e22&&true)))) (let i23:=qfi e19;let l24:=qbb e20;let l25:=qca e21;let l26:=qbb e22;idxK v3 v1 fun _=>let l27:=v4.set (0+(Int.toNat v3)) (.agg [.int .i64 i14,.sli .u8 l15,.slg 3 l16,.sli .u8 l17]);idxK x7 v1 fun _=>let l28:=l27.set (0+(Int.toNat x7)) (.agg [.int .i64 i23,.sli .u8 l24,.slg 3 l25,.sli .u8 l26]);let x29:=IntKind.i64.wrap (v3+1);again v1 v2 x29 l28) none) none) (k0 v4)
def ql6(rk:Nat)(k0:LC->OO):xbkz:=qdl (fun a=>qqt rk a k0) (fun _ _ _ _=>none)
def qnj(rk:Nat)(again:xbkx)(k0:Nat->Int->Int->LC->OO)(v1:Nat)(v2 v3 v4:Int)(v5:LC):OO:=cond (decide (v3<v4)) (let x8:=IntKind.i64.wrap (v3+v4);let x9:=IntKind.u64.wrap x8;let x10:=Int.fdiv x9 (2 ^ 1);let x11:=IntKind.i64.wrap x10;idxK v2 v1 fun _=>Option.bind (v5[(0+(Int.toNat v2))]?) fun(e12:CV)=>let e13:=(cell1 e12).headD .nili;let e14:=(cell1 e12).tail.headD .nili;let e15:=(cell1 e12).tail.tail.headD .nili;let e16:=(cell1 e12).tail.tail.tail.headD .nili;cond (qfy .i64 e13&&(qbl .u8 e14&&(qcj 3 e15&&(qbl .u8 e16&&true)))) (let l20:=qbb e16;idxK x11 v1 fun _=>Option.bind (v5[(0+(Int.toNat x11))]?) fun(e21:CV)=>let e22:=(cell1 e21).headD .nili;let e23:=(cell1 e21).tail.headD .nili;let e24:=(cell1 e21).tail.tail.headD .nili;let e25:=(cell1 e21).tail.tail.tail.headD .nili;cond (qfy .i64 e22&&(qbl .u8 e23&&(qcj 3 e24&&(qbl .u8 e25&&true)))) (let l29:=qbb e25;cond (qad l20&&qad l29) (let r30:=qbk l20 l29;cond (!(decide (r30<0))) (let x31:=IntKind.i64.wrap (x11+1);again v1 v2 x31 v4 v5) (again v1 v2 v3 x11 v5)) none) none) none) (k0 v1 v2 v3 v5)
def qiv(rk:Nat)(k0:Nat->Int->Int->LC->OO):xbky:=qdl (fun a=>qnj rk a k0) (fun _ _ _ _ _=>none)
def qnk(rk:Nat)(again:Nat->Int->Int->LC->OO)(k0:LC->OO)(v1:Nat)(v2 v3:Int)(v4:LC):OO:=cond (decide (v2<v3)) (let x12:=IntKind.i64.wrap (v3 - 1);let x13:=IntKind.i64.wrap (v3 - 1);idxK x13 v1 fun _=>Option.bind (v4[(0+(Int.toNat x13))]?) fun(e14:CV)=>let e15:=(cell1 e14).headD .nili;let e16:=(cell1 e14).tail.headD .nili;let e17:=(cell1 e14).tail.tail.headD .nili;let e18:=(cell1 e14).tail.tail.tail.headD .nili;cond (qfy .i64 e15&&(qbl .u8 e16&&(qcj 3 e17&&(qbl .u8 e18&&true)))) (let i19:=qfi e15;let l20:=qbb e16;let l21:=qca e17;let l22:=qbb e18;idxK v3 v1 fun _=>Option.bind (v4[(0+(Int.toNat v3))]?) fun(e23:CV)=>let e24:=(cell1 e23).headD .nili;let e25:=(cell1 e23).tail.headD .nili;let e26:=(cell1 e23).tail.tail.headD .nili;let e27:=(cell1 e23).tail.tail.tail.headD .nili;cond (qfy .i64 e24&&(qbl .u8 e25&&(qcj 3 e26&&(qbl .u8 e27&&true)))) (let i28:=qfi e24;let l29:=qbb e25;let l30:=qca e26;let l31:=qbb e27;idxK v3 v1 fun _=>let l32:=v4.set (0+(Int.toNat v3)) (.agg [.int .i64 i19,.sli .u8 l20,.slg 3 l21,.sli .u8 l22]);idxK x12 v1 fun _=>let l33:=l32.set (0+(Int.toNat x12)) (.agg [.int .i64 i28,.sli .u8 l29,.slg 3 l30,.sli .u8 l31]);let x34:=IntKind.i64.wrap (v3 - 1);again v1 v2 x34 l33) none) none) (k0 v4)
def qiw(rk:Nat)(k0:LC->OO):xbkz:=qdl (fun a=>qnk rk a k0) (fun _ _ _ _=>none)
def qnl(rk:Nat)(again:Nat->Int->Int->Int->Int->Int->Int->Int->Int->LC->OO)(k0:xbk0)(v1:Nat)(v2 v3 v4 v5 v6 v7 v8 v9:Int)(v10:LC):OO:=cond (decide (v7<v8)) (let x20:=IntKind.i64.wrap (v7+v8);let x21:=IntKind.u64.wrap x20;let x22:=Int.fdiv x21 (2 ^ 1);let x23:=IntKind.i64.wrap x22;let x24:=IntKind.i64.wrap (v9 - x23);idxK x24 v1 fun _=>Option.bind (v10[(0+(Int.toNat x24))]?) fun(e25:CV)=>let e26:=(cell1 e25).headD .nili;let e27:=(cell1 e25).tail.headD .nili;let e28:=(cell1 e25).tail.tail.headD .nili;let e29:=(cell1 e25).tail.tail.tail.headD .nili;cond (qfy .i64 e26&&(qbl .u8 e27&&(qcj 3 e28&&(qbl .u8 e29&&true)))) (let l33:=qbb e29;idxK x23 v1 fun _=>Option.bind (v10[(0+(Int.toNat x23))]?) fun(e34:CV)=>let e35:=(cell1 e34).headD .nili;let e36:=(cell1 e34).tail.headD .nili;let e37:=(cell1 e34).tail.tail.headD .nili;let e38:=(cell1 e34).tail.tail.tail.headD .nili;cond (qfy .i64 e35&&(qbl .u8 e36&&(qcj 3 e37&&(qbl .u8 e38&&true)))) (let l42:=qbb e38;cond (qad l33&&qad l42) (let r43:=qbk l33 l42;cond (!(decide (r43<0))) (let x44:=IntKind.i64.wrap (x23+1);again v1 v2 v3 v4 v5 v6 x44 v8 v9 v10) (again v1 v2 v3 v4 v5 v6 v7 x23 v9 v10)) none) none) none) (k0 v1 v2 v3 v4 v5 v6 v7 v10)
def qix(rk:Nat)(k0:xbk0):Nat->Nat->Int->Int->Int->Int->Int->Int->Int->Int->LC->OO:=qdl (fun a=>qnl rk a k0) (fun _ _ _ _ _ _ _ _ _ _=>none)
def qz5(rk:Nat):St->(KT)->OO:=fun σ k=>match σ with|⟨[(q1,.ref q2 q3 v1 true q4),(q5,.cl (.int .i64 v2)),(q6,.cl (.fn (.func q7) [] [])),(q8,.cl (.int .i64 v3)),(q9,.cl (.int .i64 v4))],[(q10,⟨.gen q11 v5,false⟩)]⟩=>cond (eqL [q1,q2,q3,q4,q5,q6,q7,q8,q9,q10,q11] [0,0,0,4,1,4,85,10,11,0,4]) (shut (ql5 rk (fun y1 y2 y3 y4=>k (.exit 0) ⟨[(0,.ref 0 0 y1 true 4),(1,zvi y2),(10,zvi y3)],[(0,⟨.gen 4 y4,false⟩)]⟩) FUEL) v1 v2 v3 v4 v5) none|_=>none
def qz7(rk:Nat):St->(KT)->OO:=fun σ k=>match σ with|⟨[(q1,.ref q2 q3 v1 true q4),(q5,.cl (.int .i64 v2)),(q6,.cl (.int .i64 v3))],[(q7,⟨.gen q8 v4,false⟩)]⟩=>cond (eqL [q1,q2,q3,q4,q5,q6,q7,q8] [0,0,0,4,10,13,0,4]) (shut (ql6 rk (fun y1=>k (.exit 2) ⟨[],[(0,⟨.gen 4 y1,false⟩)]⟩) FUEL) v1 v2 v3 v4) none|_=>none
def quh(rk:Nat):St->(KT)->OO:=fun σ k=>match σ with|⟨[(q1,.ref q2 q3 v1 true q4),(q5,.cl (.int .i64 v2)),(q6,.cl (.fn (.func q7) [] [])),(q8,.cl (.int .i64 v3)),(q9,.cl (.int .i64 v4))],[(q10,⟨.gen q11 v5,false⟩)]⟩=>cond (eqL [q1,q2,q3,q4,q5,q6,q7,q8,q9,q10,q11] [0,0,0,4,2,4,85,14,15,0,4]) (shut (qiv rk (fun y1 y2 y3 y4=>k (.exit 4) ⟨[(0,.ref 0 0 y1 true 4),(2,zvi y2),(14,zvi y3)],[(0,⟨.gen 4 y4,false⟩)]⟩) FUEL) v1 v2 v3 v4 v5) none|_=>none
def qui(rk:Nat):St->(KT)->OO:=fun σ k=>match σ with|⟨[(q1,.ref q2 q3 v1 true q4),(q5,.cl (.int .i64 v2)),(q6,.cl (.int .i64 v3))],[(q7,⟨.gen q8 v4,false⟩)]⟩=>cond (eqL [q1,q2,q3,q4,q5,q6,q7,q8] [0,0,0,4,14,17,0,4]) (shut (qiw rk (fun y1=>k (.exit 6) ⟨[],[(0,⟨.gen 4 y1,false⟩)]⟩) FUEL) v1 v2 v3 v4) none|_=>none
def quj(rk:Nat):St->(KT)->OO:=fun σ k=>match σ with|⟨[(q1,.ref q2 q3 v1 true q4),(q5,.cl (.int .i64 v2)),(q6,.cl (.int .i64 v3)),(q7,.cl (.int .i64 v4)),(q8,.cl (.fn (.func q9) [] [])),(q10,.cl (.int .i64 v5)),(q11,.cl (.int .i64 v6)),(q12,.cl (.int .i64 v7)),(q13,.cl (.int .i64 v8)),(q14,.cl (.int .i64 v9))],[(q15,⟨.gen q16 v10,false⟩)]⟩=>cond (eqL [q1,q2,q3,q4,q5,q6,q7,q8,q9,q10,q11,q12,q13,q14,q15,q16] [0,0,0,4,1,2,3,4,85,18,19,20,21,22,0,4]) (shut (qix rk (fun y1 y2 y3 y4 y5 y6 y7 y8=>k (.exit 8) ⟨[(0,.ref 0 0 y1 true 4),(1,zvi y2),(2,zvi y3),(3,zvi y4),(4,.cl (.fn (.func 85) [] [])),(18,zvi y5),(19,zvi y6),(20,zvi y7)],[(0,⟨.gen 4 y8,false⟩)]⟩) FUEL) v1 v2 v3 v4 v5 v6 v7 v8 v9 v10) none|_=>none
def qia(rk:Nat)(k0:LC->OO)(v1:Nat)(v2 v3 v4 v5 v6 v7 v8:Int)(v9:LC):OO:=let x19:=IntKind.i64.wrap (v6 - 1);shut (qix rk (fun y20 y21 y22 y23 y24 y25 y26 y27=>let x28:=IntKind.i64.wrap (y25 - y26);cond (decide (y26<y22)) (cond (decide (y22<x28)) (cond (rows4 y20 y27&&qdq y20 y26 y22 x28) (let r29:=rotC y27 y26 y22 x28;cond (decide (y21<y26)) (cond (decide (y26<y24)) (cond (rows4 y20 r29&&(qdq y20 y21 y26 y24&&(half4 r29 y21 y26 y24&&decide ((y24 - y21).toNat<rk)))) (let r30:=sym4 r29 y21 y26 y24;cond (decide (y24<x28)) (cond (decide (x28<y23)) (cond (rows4 y20 r30&&(qdq y20 y24 x28 y23&&(half4 r30 y24 x28 y23&&decide ((y23 - y24).toNat<rk)))) (let r31:=sym4 r30 y24 x28 y23;k0 r31) none) (k0 r30)) (k0 r30)) none) (cond (decide (y24<x28)) (cond (decide (x28<y23)) (cond (rows4 y20 r29&&(qdq y20 y24 x28 y23&&(half4 r29 y24 x28 y23&&decide ((y23 - y24).toNat<rk)))) (let r32:=sym4 r29 y24 x28 y23;k0 r32) none) (k0 r29)) (k0 r29))) (cond (decide (y24<x28)) (cond (decide (x28<y23)) (cond (rows4 y20 r29&&(qdq y20 y24 x28 y23&&(half4 r29 y24 x28 y23&&decide ((y23 - y24).toNat<rk)))) (let r33:=sym4 r29 y24 x28 y23;k0 r33) none) (k0 r29)) (k0 r29))) none) (cond (decide (y21<y26)) (cond (decide (y26<y24)) (cond (rows4 y20 y27&&(qdq y20 y21 y26 y24&&(half4 y27 y21 y26 y24&&decide ((y24 - y21).toNat<rk)))) (let r34:=sym4 y27 y21 y26 y24;cond (decide (y24<x28)) (cond (decide (x28<y23)) (cond (rows4 y20 r34&&(qdq y20 y24 x28 y23&&(half4 r34 y24 x28 y23&&decide ((y23 - y24).toNat<rk)))) (let r35:=sym4 r34 y24 x28 y23;k0 r35) none) (k0 r34)) (k0 r34)) none) (cond (decide (y24<x28)) (cond (decide (x28<y23)) (cond (rows4 y20 y27&&(qdq y20 y24 x28 y23&&(half4 y27 y24 x28 y23&&decide ((y23 - y24).toNat<rk)))) (let r36:=sym4 y27 y24 x28 y23;k0 r36) none) (k0 y27)) (k0 y27))) (cond (decide (y24<x28)) (cond (decide (x28<y23)) (cond (rows4 y20 y27&&(qdq y20 y24 x28 y23&&(half4 y27 y24 x28 y23&&decide ((y23 - y24).toNat<rk)))) (let r37:=sym4 y27 y24 x28 y23;k0 r37) none) (k0 y27)) (k0 y27)))) (cond (decide (y21<y26)) (cond (decide (y26<y24)) (cond (rows4 y20 y27&&(qdq y20 y21 y26 y24&&(half4 y27 y21 y26 y24&&decide ((y24 - y21).toNat<rk)))) (let r38:=sym4 y27 y21 y26 y24;cond (decide (y24<x28)) (cond (decide (x28<y23)) (cond (rows4 y20 r38&&(qdq y20 y24 x28 y23&&(half4 r38 y24 x28 y23&&decide ((y23 - y24).toNat<rk)))) (let r39:=sym4 r38 y24 x28 y23;k0 r39) none) (k0 r38)) (k0 r38)) none) (cond (decide (y24<x28)) (cond (decide (x28<y23)) (cond (rows4 y20 y27&&(qdq y20 y24 x28 y23&&(half4 y27 y24 x28 y23&&decide ((y23 - y24).toNat<rk)))) (let r40:=sym4 y27 y24 x28 y23;k0 r40) none) (k0 y27)) (k0 y27))) (cond (decide (y24<x28)) (cond (decide (x28<y23)) (cond (rows4 y20 y27&&(qdq y20 y24 x28 y23&&(half4 y27 y24 x28 y23&&decide ((y23 - y24).toNat<rk)))) (let r41:=sym4 y27 y24 x28 y23;k0 r41) none) (k0 y27)) (k0 y27)))) FUEL) v1 v2 v3 v4 v5 v6 v7 v8 x19 v9
def qty(rk:Nat):St->(KT)->OO:=fun σ k=>match σ with|⟨[(q1,.ref q2 q3 v1 true q4),(q5,.cl (.int .i64 v2)),(q6,.cl (.int .i64 v3)),(q7,.cl (.int .i64 v4)),(q8,.cl (.fn (.func q9) [] [])),(q10,.cl (.int .i64 v5)),(q11,.cl (.int .i64 v6)),(q12,.cl (.int .i64 v7)),(q13,.cl (.int .i64 v8))],[(q14,⟨.gen q15 v9,false⟩)]⟩=>cond (eqL [q1,q2,q3,q4,q5,q6,q7,q8,q9,q10,q11,q12,q13,q14,q15] [0,0,0,4,1,2,3,4,85,18,19,20,21,0,4]) (shut (qia rk (fun y1=>k .normal ⟨[],[(0,⟨.gen 4 y1,false⟩)]⟩)) v1 v2 v3 v4 v5 v6 v7 v8 v9) none|_=>none
def ETSym4(rk:Nat):Env:= {
 orc:=fun g=>cond (Nat.beq g 85) ((kT KTCmp4)) (cond (Nat.beq g 125) STSym4 (cond (Nat.beq g 135) ((kT KTRot4)) (fun _ _=>Tree.fail)))
 pre:=fun g=>cond (Nat.beq g 85) ((kP KTCmp4)) (cond (Nat.beq g 125) (qv8 (rk)) (cond (Nat.beq g 135) ((kP KTRot4)) (fun _ _=>true)))
 byref:=fun g=>cond (Nat.beq g 125) ([0]) (cond (Nat.beq g 135) ([0]) ([]))
 live:=fun r=>cond (Nat.beq r 3) ([0,1,4,10,11]) (cond (Nat.beq r 9) ([0,10,13]) (cond (Nat.beq r 15) ([0,2,4,14,15]) (cond (Nat.beq r 21) ([0,14,17]) (cond (Nat.beq r 32) ([0,1,2,3,4,18,19,20,21]) (cond (Nat.beq r 33) ([0,1,2,3,4,18,19,20,21,22]) ([]))))))
 glob:=qa8
 nt:=220
 lp:=fun r=>cond (Nat.beq r 3) (some (qz5 rk)) (cond (Nat.beq r 9) (some (qz7 rk)) (cond (Nat.beq r 15) (some (quh rk)) (cond (Nat.beq r 21) (some (qui rk)) (cond (Nat.beq r 33) (some (quj rk)) (none)))))
 xl:=fun r=>cond (Nat.beq r 0) (some []) (cond (Nat.beq r 1) (some [0,1,10]) (cond (Nat.beq r 3) (some []) (cond (Nat.beq r 5) (some [0,2,14]) (cond (Nat.beq r 7) (some []) (cond (Nat.beq r 9) (some [0,1,2,3,4,18,19,20]) (cond (Nat.beq r 1032) (some []) (none)))))))
 jn:=fun r=>cond (Nat.beq r 32) (some (qty rk)) (none)
}
theorem q56(rk:Nat):LpT Tryz.prog (ETSym4 rk) Tryz.f125 0 3 (qz5 rk):=by
 intro σ k r h;unfold qz5 at h;split at h
 ·obtain⟨hc,j⟩:=qaa h;cases qa3 hc;rw[qab] at j;apply it5 j
  ·intro n;kernel_rfl
  ·rfl
 ·cases h
theorem q57(rk:Nat):LpT Tryz.prog (ETSym4 rk) Tryz.f125 1 9 (qz7 rk):=by
 intro σ k r h;unfold qz7 at h;split at h
 ·obtain⟨hc,j⟩:=qaa h;cases qa3 hc;rw[qab] at j;apply it4 j
  ·intro n;kernel_rfl
  ·rfl
 ·cases h
theorem qz3(rk:Nat):LpT Tryz.prog (ETSym4 rk) Tryz.f125 2 15 (quh rk):=by
 intro σ k r h;unfold quh at h;split at h
 ·obtain⟨hc,j⟩:=qaa h;cases qa3 hc;rw[qab] at j;apply it5 j
  ·intro n;kernel_rfl
  ·rfl
 ·cases h
theorem qz4(rk:Nat):LpT Tryz.prog (ETSym4 rk) Tryz.f125 3 21 (qui rk):=by
 intro σ k r h;unfold qui at h;split at h
 ·obtain⟨hc,j⟩:=qaa h;cases qa3 hc;rw[qab] at j;apply it4 j
  ·intro n;kernel_rfl
  ·rfl
 ·cases h
theorem qz6(rk:Nat):LpT Tryz.prog (ETSym4 rk) Tryz.f125 4 33 (quj rk):=by
 intro σ k r h;unfold quj at h;split at h
 ·obtain⟨hc,j⟩:=qaa h;cases qa3 hc;rw[qab] at j;apply it10 j
  ·intro n;kernel_rfl
  ·rfl
 ·cases h
theorem qy3(rk:Nat):JnOk Tryz.prog (ETSym4 rk) 40 (nthc (ETSym4 rk) Tryz.f125 5) 32 (qty rk):=by
 intro σ k r h;unfold qty at h;split at h
 ·obtain⟨hc,j⟩:=qaa h;cases qa3 hc;rw[qab] at j;exact zds (by kernel_rfl) j
 ·cases h
theorem xba8(rk:Nat): ∀c,Tryz.f125.body=some c->qbj Tryz.prog (ETSym4 rk) 40 c:=lsB (ids:=[(true,3),(true,9),(true,15),(true,21),(true,33),(false,32)]) (by kernel_rfl) ⟨⟨_,rfl,q56 rk⟩,⟨_,rfl,q57 rk⟩,⟨_,rfl,qz3 rk⟩,⟨_,rfl,qz4 rk⟩,⟨_,rfl,qz6 rk⟩,⟨_,rfl,qy3 rk⟩,trivial⟩
def xbl1(rk:Nat)(m:Nat)(a:Int)(p:Int)(b:Int)(l:LC):OO:=let x1:=IntKind.i64.wrap (p - a);cond (decide (x1=1)) (shut (ql5 rk (fun y2 y3 y4 y5=>shut (ql6 rk (fun y6=>zR [] [some ⟨.gen 4 y6,false⟩]) FUEL) y2 y4 y3 y5) FUEL) m a p b l) (let x7:=IntKind.i64.wrap (b - p);cond (decide (x7=1)) (shut (qiv rk (fun y8 y9 y10 y11=>shut (qiw rk (fun y12=>zR [] [some ⟨.gen 4 y12,false⟩]) FUEL) y8 y10 y9 y11) FUEL) m p a p l) (let x13:=IntKind.i64.wrap (a+b);let x14:=IntKind.u64.wrap x13;let x15:=Int.fdiv x14 (2 ^ 1);let x16:=IntKind.i64.wrap x15;let x17:=IntKind.i64.wrap (x16+p);cond (decide (x16<p)) (let x18:=IntKind.i64.wrap (x17 - b);shut (qia rk (fun y19=>zR [] [some ⟨.gen 4 y19,false⟩])) m a p b x16 x17 x18 x16 l) (shut (qia rk (fun y20=>zR [] [some ⟨.gen 4 y20,false⟩])) m a p b x16 x17 a p l)))
theorem xbfe(rk:Nat)(m:Nat)(a:Int)(p:Int)(b:Int)(l:LC):qoa Tryz.prog (ETSym4 rk) 40 false Tryz.f125 [.ref 0 0 m true 4,.cl (.int .i64 a),.cl (.int .i64 p),.cl (.int .i64 b),.cl (.fn (.func 85) [] [])] [⟨.gen 4 l,false⟩]=xbl1 rk m a p b l:=by kernel_rfl
def qql(again:Nat->Int->Int->Int->Int->LC->OO)(k0:Nat->Int->Int->Int->LC->OO)(v1:Nat)(v2 v3 v4 v5:Int)(v6:LC):OO:=cond (decide (v2<v5)) (idxK v5 v1 fun _=>Option.bind (v6[(0+(Int.toNat v5))]?) fun(e2:CV)=>let e3:=(cell1 e2).headD .nili;let e4:=(cell1 e2).tail.headD .nili;let e5:=(cell1 e2).tail.tail.headD .nili;let e6:=(cell1 e2).tail.tail.tail.headD .nili;cond (qfy .i64 e3&&(qbl .u8 e4&&(qcj 3 e5&&(qbl .u8 e6&&true)))) (let l10:=qbb e6;let x11:=IntKind.i64.wrap (v5 - 1);idxK x11 v1 fun _=>Option.bind (v6[(0+(Int.toNat x11))]?) fun(e12:CV)=>let e13:=(cell1 e12).headD .nili;let e14:=(cell1 e12).tail.headD .nili;let e15:=(cell1 e12).tail.tail.headD .nili;let e16:=(cell1 e12).tail.tail.tail.headD .nili;cond (qfy .i64 e13&&(qbl .u8 e14&&(qcj 3 e15&&(qbl .u8 e16&&true)))) (let l20:=qbb e16;cond (qad l10&&qad l20) (let r21:=qbk l10 l20;cond (decide (r21<0)) (let x22:=IntKind.i64.wrap (v5 - 1);let x23:=IntKind.i64.wrap (v5 - 1);idxK x23 v1 fun _=>Option.bind (v6[(0+(Int.toNat x23))]?) fun(e24:CV)=>let e25:=(cell1 e24).headD .nili;let e26:=(cell1 e24).tail.headD .nili;let e27:=(cell1 e24).tail.tail.headD .nili;let e28:=(cell1 e24).tail.tail.tail.headD .nili;cond (qfy .i64 e25&&(qbl .u8 e26&&(qcj 3 e27&&(qbl .u8 e28&&true)))) (let i29:=qfi e25;let l30:=qbb e26;let l31:=qca e27;let l32:=qbb e28;idxK v5 v1 fun _=>Option.bind (v6[(0+(Int.toNat v5))]?) fun(e33:CV)=>let e34:=(cell1 e33).headD .nili;let e35:=(cell1 e33).tail.headD .nili;let e36:=(cell1 e33).tail.tail.headD .nili;let e37:=(cell1 e33).tail.tail.tail.headD .nili;cond (qfy .i64 e34&&(qbl .u8 e35&&(qcj 3 e36&&(qbl .u8 e37&&true)))) (let i38:=qfi e34;let l39:=qbb e35;let l40:=qca e36;let l41:=qbb e37;idxK v5 v1 fun _=>let l42:=v6.set (0+(Int.toNat v5)) (.agg [.int .i64 i29,.sli .u8 l30,.slg 3 l31,.sli .u8 l32]);idxK x22 v1 fun _=>let l43:=l42.set (0+(Int.toNat x22)) (.agg [.int .i64 i38,.sli .u8 l39,.slg 3 l40,.sli .u8 l41]);let x44:=IntKind.i64.wrap (v5 - 1);again v1 v2 v3 v4 x44 l43) none) none) (k0 v1 v2 v3 v4 v6)) none) none) none) (k0 v1 v2 v3 v4 v6)
def qlw(k0:Nat->Int->Int->Int->LC->OO):Nat->Nat->Int->Int->Int->Int->LC->OO:=qdl (fun a=>qql a k0) (fun _ _ _ _ _ _=>none)
def qin(again:Nat->Int->Int->Int->LC->OO)(k0:LC->OO)(v1:Nat)(v2 v3 v4:Int)(v5:LC):OO:=cond (decide (v4<v3)) (shut (qlw (fun y2 y3 y4 y5 y6=>let x7:=IntKind.i64.wrap (y5+1);again y2 y3 y4 x7 y6) FUEL) v1 v2 v3 v4 v4 v5) (k0 v5)
def qj1(k0:LC->OO):Nat->Nat->Int->Int->Int->LC->OO:=qdl (fun a=>qin a k0) (fun _ _ _ _ _=>none)
def qzl:St->(KT)->OO:=fun σ k=>match σ with|⟨[(q1,.ref q2 q3 v1 true q4),(q5,.cl (.int .i64 v2)),(q6,.cl (.int .i64 v3)),(q7,.cl (.fn (.func q8) [] [])),(q9,.cl (.int .i64 v4)),(q10,.cl (.int .i64 v5))],[(q11,⟨.gen q12 v6,false⟩)]⟩=>cond (eqL [q1,q2,q3,q4,q5,q6,q7,q8,q9,q10,q11,q12] [0,0,0,4,1,2,3,85,8,9,0,4]) (shut (qlw (fun y1 y2 y3 y4 y5=>k (.exit 2) ⟨[(0,.ref 0 0 y1 true 4),(1,zvi y2),(2,zvi y3),(3,.cl (.fn (.func 85) [] [])),(8,zvi y4)],[(0,⟨.gen 4 y5,false⟩)]⟩) FUEL) v1 v2 v3 v4 v5 v6) none|_=>none
def qzk:St->(KT)->OO:=fun σ k=>match σ with|⟨[(q1,.ref q2 q3 v1 true q4),(q5,.cl (.int .i64 v2)),(q6,.cl (.int .i64 v3)),(q7,.cl (.fn (.func q8) [] [])),(q9,.cl (.int .i64 v4))],[(q10,⟨.gen q11 v5,false⟩)]⟩=>cond (eqL [q1,q2,q3,q4,q5,q6,q7,q8,q9,q10,q11] [0,0,0,4,1,2,3,85,8,0,4]) (shut (qj1 (fun y1=>k (.exit 0) ⟨[],[(0,⟨.gen 4 y1,false⟩)]⟩) FUEL) v1 v2 v3 v4 v5) none|_=>none
def ETIns4:Env:= {mkE BTIns4 qa8 53 with live:=lk [] [(1,[0,1,2,3,8]),(4,[0,1,2,3,8,9])],lp:=lk none [(1,some qzk),(4,some qzl)],xl:=lk none [(0,some []),(1,some []),(3,some [0,1,2,3,8])]}
theorem q5t:LpT Tryz.prog (ETIns4) Tryz.f124 0 4 qzl:=by
 intro σ k r h;unfold qzl at h;split at h
 ·obtain⟨hc,j⟩:=qaa h;cases qa3 hc;rw[qab] at j;apply it6 j
  ·intro n;kernel_rfl
  ·rfl
 ·cases h
theorem q5s:LpT Tryz.prog (ETIns4) Tryz.f124 1 1 qzk:=by
 intro σ k r h;unfold qzk at h;split at h
 ·obtain⟨hc,j⟩:=qaa h;cases qa3 hc;rw[qab] at j;apply it5 j
  ·intro n;kernel_rfl
  ·rfl
 ·cases h
def xbp0(m:Nat)(a:Int)(b:Int)(l:LC):OO:=let x1:=IntKind.i64.wrap (a+1);shut (qj1 (fun y2=>zR [] [some ⟨.gen 4 y2,false⟩]) FUEL) m a b x1 l
def qiq(again:Nat->Int->Int->Int->LC->OO)(k0:Nat->Int->Int->LC->OO)(v1:Nat)(v2 v3 v4:Int)(v5:LC):OO:=cond (decide (v4<=v2)) (cond (rows4 v1 v5&&decide (0<=v3/\v3<=v4/\v4<=(v1:Int))) (let r1:=ins4 v5 v3 v4;let x2:=IntKind.i64.wrap (v4+20);again v1 v2 v4 x2 r1) none) (k0 v1 v2 v3 v5)
def qlz(k0:Nat->Int->Int->LC->OO):Nat->Nat->Int->Int->Int->LC->OO:=qdl (fun a=>qiq a k0) (fun _ _ _ _ _=>none)
def qir(again:Nat->Int->Int->Int->Int->LC->OO)(k0:Nat->Int->Int->Int->LC->OO)(v1:Nat)(v2 v3 v4 v5:Int)(v6:LC):OO:=cond (decide (v5<=v2)) (let x7:=IntKind.i64.wrap (v4+v3);cond (rows4 v1 v6&&(qdq v1 v4 x7 v5&&half4 v6 v4 x7 v5)) (let r8:=sym4 v6 v4 x7 v5;let x9:=IntKind.i64.wrap ((2:Int)*v3);let x10:=IntKind.i64.wrap (v5+x9);again v1 v2 v3 v5 x10 r8) none) (k0 v1 v2 v3 v4 v6)
def ql0(k0:Nat->Int->Int->Int->LC->OO):Nat->Nat->Int->Int->Int->Int->LC->OO:=qdl (fun a=>qir a k0) (fun _ _ _ _ _ _=>none)
def qqp(again:Nat->Int->Int->LC->OO)(k0:LC->OO)(v1:Nat)(v2 v3:Int)(v4:LC):OO:=cond (decide (v3<v2)) (let x6:=IntKind.i64.wrap ((2:Int)*v3);shut (ql0 (fun y7 y8 y9 y10 y11=>let x12:=IntKind.i64.wrap (y10+y9);cond (decide (x12<y8)) (cond (rows4 y7 y11&&(qdq y7 y10 x12 y8&&half4 y11 y10 x12 y8)) (let r13:=sym4 y11 y10 x12 y8;let x14:=IntKind.i64.wrap (y9*2);again y7 y8 x14 r13) none) (let x15:=IntKind.i64.wrap (y9*2);again y7 y8 x15 y11)) FUEL) v1 v2 v3 0 x6 v4) (k0 v4)
def qhb(k0:LC->OO):Nat->Nat->Int->Int->LC->OO:=qdl (fun a=>qqp a k0) (fun _ _ _ _=>none)
def qzt:St->(KT)->OO:=fun σ k=>match σ with|⟨[(q1,.ref q2 q3 v1 true q4),(q5,.cl (.int .i64 v2)),(q6,.cl (.fn (.func q7) [] [])),(q8,.cl (.int .i64 q9)),(q10,.cl (.int .i64 v3)),(q11,.cl (.int .i64 v4))],[(q12,⟨.gen q13 v5,false⟩)]⟩=>cond (eqL [q1,q2,q3,q4,q5,q6,q7,q8,q10,q11,q12,q13] [0,0,0,4,1,2,85,6,7,8,0,4]&&decide (q9=20)) (shut (qlz (fun y1 y2 y3 y4=>k (.exit 0) ⟨[(0,.ref 0 0 y1 true 4),(1,zvi y2),(2,.cl (.fn (.func 85) [] [])),(6,zvi 20),(7,zvi y3)],[(0,⟨.gen 4 y4,false⟩)]⟩) FUEL) v1 v2 v3 v4 v5) none|_=>none
def qzv:St->(KT)->OO:=fun σ k=>match σ with|⟨[(q1,.ref q2 q3 v1 true q4),(q5,.cl (.int .i64 v2)),(q6,.cl (.fn (.func q7) [] [])),(q8,.cl (.int .i64 v3)),(q9,.cl (.int .i64 v4)),(q10,.cl (.int .i64 v5))],[(q11,⟨.gen q12 v6,false⟩)]⟩=>cond (eqL [q1,q2,q3,q4,q5,q6,q7,q8,q9,q10,q11,q12] [0,0,0,4,1,2,85,6,7,8,0,4]) (shut (ql0 (fun y1 y2 y3 y4 y5=>k (.exit 4) ⟨[(0,.ref 0 0 y1 true 4),(1,zvi y2),(2,.cl (.fn (.func 85) [] [])),(6,zvi y3),(7,zvi y4)],[(0,⟨.gen 4 y5,false⟩)]⟩) FUEL) v1 v2 v3 v4 v5 v6) none|_=>none
def qzu:St->(KT)->OO:=fun σ k=>match σ with|⟨[(q1,.ref q2 q3 v1 true q4),(q5,.cl (.int .i64 v2)),(q6,.cl (.fn (.func q7) [] [])),(q8,.cl (.int .i64 v3))],[(q9,⟨.gen q10 v4,false⟩)]⟩=>cond (eqL [q1,q2,q3,q4,q5,q6,q7,q8,q9,q10] [0,0,0,4,1,2,85,6,0,4]) (shut (qhb (fun y1=>k (.exit 2) ⟨[],[(0,⟨.gen 4 y1,false⟩)]⟩) FUEL) v1 v2 v3 v4) none|_=>none
def ETSta4:Env:= {mkE BTSta4 qa8 63 with byref:=lk [] [(124,[0]),(125,[0])],live:=lk [] [(2,[0,1,2,6,7,8]),(7,[0,1,2,6]),(9,[0,1,2,6,7,8])],lp:=lk none [(2,some qzt),(7,some qzu),(9,some qzv)],xl:=lk none [(0,some []),(1,some [0,1,2,6,7]),(3,some []),(5,some [0,1,2,6,7])]}
theorem q51:LpT Tryz.prog (ETSta4) Tryz.f107 0 2 qzt:=by
 intro σ k r h;unfold qzt at h;split at h
 ·obtain⟨hc,j⟩:=qaa h;simp only[zab,qen,decide_eq_true_eq,zao] at hc;obtain⟨hc,rfl⟩:=hc;cases qa3 hc;rw[qab] at j;apply it5 j
  ·intro n;kernel_rfl
  ·rfl
 ·cases h
theorem q53:LpT Tryz.prog (ETSta4) Tryz.f107 1 9 qzv:=by
 intro σ k r h;unfold qzv at h;split at h
 ·obtain⟨hc,j⟩:=qaa h;cases qa3 hc;rw[qab] at j;apply it6 j
  ·intro n;kernel_rfl
  ·rfl
 ·cases h
theorem q52:LpT Tryz.prog (ETSta4) Tryz.f107 2 7 qzu:=by
 intro σ k r h;unfold qzu at h;split at h
 ·obtain⟨hc,j⟩:=qaa h;cases qa3 hc;rw[qab] at j;apply it4 j
  ·intro n;kernel_rfl
  ·rfl
 ·cases h
def xbp9(m:Nat)(n:Int)(l:LC):OO:=shut (qlz (fun y1 y2 y3 y4=>cond (rows4 y1 y4&&decide (0<=y3/\y3<=y2/\y2<=(y1:Int))) (let r5:=ins4 y4 y3 y2;shut (qhb (fun y6=>zR [] [some ⟨.gen 4 y6,false⟩]) FUEL) y1 y2 20 r5) none) FUEL) m n 0 20 l
def ETSort4:Env:= {mkE BTSort4 qa8 9 with byref:=lk [] [(107,[0])],xl:=lk none [(0,some [])]}
def xbp7(m:Nat)(l:LC):OO:=cond (rows4 m l&&decide ((m:Int)=(m:Int))) (let r1:=srt4 l;zR [] [some ⟨.gen 4 r1,false⟩]) none
def ETCmp3:Env:= {mkE BTCmp3 qa8 10 with xl:=lk none [(0,some [4])]}
def xbvv(op:LI)(kp:LC)(wp:LI)(oq:LI)(kq:LC)(wq:LI):OO:=cond (qad wp&&qad wq) (let r1:=qbk wp wq;zI r1) none
def qne(again:Nat->Int->Int->Int->Int->LC->OO)(k0:LC->OO)(v1:Nat)(v2 v3 v4 v5:Int)(v6:LC):OO:=cond (decide (v5<v4)) (let x1:=IntKind.i64.wrap (v2+v5);let x2:=IntKind.i64.wrap (v3+v5);let x3:=IntKind.i64.wrap (v3+v5);idxK x3 v1 fun _=>Option.bind (v6[(0+(Int.toNat x3))]?) fun(e4:CV)=>let e5:=(cell1 e4).headD .nili;let e6:=(cell1 e4).tail.headD .nili;let e7:=(cell1 e4).tail.tail.headD .nili;cond (qbl .u32 e5&&(qcj 3 e6&&(qbl .u8 e7&&true))) (let l8:=qbb e5;let l9:=qca e6;let l10:=qbb e7;let x11:=IntKind.i64.wrap (v2+v5);idxK x11 v1 fun _=>Option.bind (v6[(0+(Int.toNat x11))]?) fun(e12:CV)=>let e13:=(cell1 e12).headD .nili;let e14:=(cell1 e12).tail.headD .nili;let e15:=(cell1 e12).tail.tail.headD .nili;cond (qbl .u32 e13&&(qcj 3 e14&&(qbl .u8 e15&&true))) (let l16:=qbb e13;let l17:=qca e14;let l18:=qbb e15;idxK x1 v1 fun _=>let l19:=v6.set (0+(Int.toNat x1)) (.agg [.sli .u32 l8,.slg 3 l9,.sli .u8 l10]);idxK x2 v1 fun _=>let l20:=l19.set (0+(Int.toNat x2)) (.agg [.sli .u32 l16,.slg 3 l17,.sli .u8 l18]);let x21:=IntKind.i64.wrap (v5+1);again v1 v2 v3 v4 x21 l20) none) none) (k0 v6)
def ql1(k0:LC->OO):Nat->Nat->Int->Int->Int->Int->LC->OO:=qdl (fun a=>qne a k0) (fun _ _ _ _ _ _=>none)
def quc:St->(KT)->OO:=fun σ k=>match σ with|⟨[(q1,.ref q2 q3 v1 true q4),(q5,.cl (.int .i64 v2)),(q6,.cl (.int .i64 v3)),(q7,.cl (.int .i64 v4)),(q8,.cl (.int .i64 v5))],[(q9,⟨.gen q10 v6,false⟩)]⟩=>cond (eqL [q1,q2,q3,q4,q5,q6,q7,q8,q9,q10] [0,0,0,3,1,2,3,10,0,3]) (shut (ql1 (fun y1=>k (.exit 0) ⟨[],[(0,⟨.gen 3 y1,false⟩)]⟩) FUEL) v1 v2 v3 v4 v5 v6) none|_=>none
def ETSwap3:Env:= {mkE BTSwap3 qa8 38 with live:=lk [] [(1,[0,1,2,3,10])],lp:=lk none [(1,some quc)],xl:=lk none [(0,some []),(1,some [])]}
theorem qzw:LpT Tryz.prog (ETSwap3) Tryz.f136 0 1 quc:=by
 intro σ k r h;unfold quc at h;split at h
 ·obtain⟨hc,j⟩:=qaa h;cases qa3 hc;rw[qab] at j;apply it6 j
  ·intro n;kernel_rfl
  ·rfl
 ·cases h
def xbih(m:Nat)(a:Int)(b:Int)(n:Int)(l:LC):OO:=shut (ql1 (fun y1=>zR [] [some ⟨.gen 3 y1,false⟩]) FUEL) m a b n 0 l
def qqm(again:Nat->Int->Int->Int->LC->OO)(k0:Nat->Int->Int->LC->OO)(v1:Nat)(v2 v3 v4:Int)(v5:LC):OO:=cond (!decide (v3=v4)) (cond (decide (v4<v3)) (let x3:=IntKind.i64.wrap (v2 - v3);cond (rows3 v1 v5&&swOk v1 x3 v2 v4) (let r4:=swpC v5 x3 v2 v4;let x5:=IntKind.i64.wrap (v3 - v4);again v1 v2 x5 v4 r4) none) (let x6:=IntKind.i64.wrap (v2 - v3);let x7:=IntKind.i64.wrap (v2+v4);let x8:=IntKind.i64.wrap (x7 - v3);cond (rows3 v1 v5&&swOk v1 x6 x8 v3) (let r9:=swpC v5 x6 x8 v3;let x10:=IntKind.i64.wrap (v4 - v3);again v1 v2 v3 x10 r9) none)) (k0 v1 v2 v3 v5)
def qpc(k0:Nat->Int->Int->LC->OO):Nat->Nat->Int->Int->Int->LC->OO:=qdl (fun a=>qqm a k0) (fun _ _ _ _ _=>none)
def qzo:St->(KT)->OO:=fun σ k=>match σ with|⟨[(q1,.ref q2 q3 v1 true q4),(q5,.cl (.int .i64 v2)),(q6,.cl (.fn (.func q7) [] [])),(q8,.cl (.int .i64 v3)),(q9,.cl (.int .i64 v4))],[(q10,⟨.gen q11 v5,false⟩)]⟩=>cond (eqL [q1,q2,q3,q4,q5,q6,q7,q8,q9,q10,q11] [0,0,0,3,2,4,62,10,11,0,3]) (shut (qpc (fun y1 y2 y3 y4=>k (.exit 0) ⟨[(0,.ref 0 0 y1 true 3),(2,zvi y2),(4,.cl (.fn (.func 62) [] [])),(10,zvi y3)],[(0,⟨.gen 3 y4,false⟩)]⟩) FUEL) v1 v2 v3 v4 v5) none|_=>none
def ETRot3:Env:= {mkE BTRot3 qa8 58 with byref:=lk [] [(136,[0])],live:=lk [] [(2,[0,2,4,10,11])],lp:=lk none [(2,some qzo)],xl:=lk none [(0,some []),(1,some [0,2,4,10])]}
theorem q5w:LpT Tryz.prog (ETRot3) Tryz.f126 0 2 qzo:=by
 intro σ k r h;unfold qzo at h;split at h
 ·obtain⟨hc,j⟩:=qaa h;cases qa3 hc;rw[qab] at j;apply it5 j
  ·intro n;kernel_rfl
  ·rfl
 ·cases h
def xbp4(m:Nat)(a:Int)(p:Int)(b:Int)(l:LC):OO:=let x1:=IntKind.i64.wrap (p - a);let x2:=IntKind.i64.wrap (b - p);shut (qpc (fun y3 y4 y5 y6=>let x7:=IntKind.i64.wrap (y4 - y5);cond (rows3 y3 y6&&swOk y3 x7 y4 y5) (let r8:=swpC y6 x7 y4 y5;zR [] [some ⟨.gen 3 r8,false⟩]) none) FUEL) m p x1 x2 l
abbrev xbkt:=Nat->Int->Int->Int->LC->OO
abbrev xbku:=Nat->Nat->Int->Int->Int->LC->OO
abbrev xbkv:=Nat->Nat->Int->Int->LC->OO
abbrev xbkw:=Nat->Int->Int->Int->Int->Int->Int->LC->OO
def qqq(rk:Nat)(again:xbkt)(k0:Nat->Int->Int->LC->OO)(v1:Nat)(v2 v3 v4:Int)(v5:LC):OO:=cond (decide (v3<v4)) (let x2:=IntKind.i64.wrap (v3+v4);let x3:=IntKind.u64.wrap x2;let x4:=Int.fdiv x3 (2 ^ 1);let x5:=IntKind.i64.wrap x4;idxK x5 v1 fun _=>Option.bind (v5[(0+(Int.toNat x5))]?) fun(e6:CV)=>let e7:=(cell1 e6).headD .nili;let e8:=(cell1 e6).tail.headD .nili;let e9:=(cell1 e6).tail.tail.headD .nili;cond (qbl .u32 e7&&(qcj 3 e8&&(qbl .u8 e9&&true))) (let l12:=qbb e9;idxK v2 v1 fun _=>Option.bind (v5[(0+(Int.toNat v2))]?) fun(e13:CV)=>let e14:=(cell1 e13).headD .nili;let e15:=(cell1 e13).tail.headD .nili;let e16:=(cell1 e13).tail.tail.headD .nili;cond (qbl .u32 e14&&(qcj 3 e15&&(qbl .u8 e16&&true))) (let l19:=qbb e16;cond (qad l12&&qad l19) (let r20:=qbk l12 l19;cond (decide (r20<0)) (let x21:=IntKind.i64.wrap (x5+1);again v1 v2 x21 v4 v5) (again v1 v2 v3 x5 v5)) none) none) none) (k0 v1 v2 v3 v5)
def ql3(rk:Nat)(k0:Nat->Int->Int->LC->OO):xbku:=qdl (fun a=>qqq rk a k0) (fun _ _ _ _ _=>none)
def qqr(rk:Nat)(again:Nat->Int->Int->LC->OO)(k0:LC->OO)(v1:Nat)(v2 v3:Int)(v4:LC):OO:=let x6:=IntKind.i64.wrap (v2 - 1);cond (decide (v3<x6)) (let x7:=IntKind.i64.wrap (v3+1);let x8:=IntKind.i64.wrap (v3+1);idxK x8 v1 fun _=>Option.bind (v4[(0+(Int.toNat x8))]?) fun(e9:CV)=>let e10:=(cell1 e9).headD .nili;let e11:=(cell1 e9).tail.headD .nili;let e12:=(cell1 e9).tail.tail.headD .nili;cond (qbl .u32 e10&&(qcj 3 e11&&(qbl .u8 e12&&true))) (let l13:=qbb e10;let l14:=qca e11;let l15:=qbb e12;idxK v3 v1 fun _=>Option.bind (v4[(0+(Int.toNat v3))]?) fun(e16:CV)=>let e17:=(cell1 e16).headD .nili;let e18:=(cell1 e16).tail.headD .nili;let e19:=(cell1 e16).tail.tail.headD .nili;cond (qbl .u32 e17&&(qcj 3 e18&&(qbl .u8 e19&&true))) (let l20:=qbb e17;let l21:=qca e18;let l22:=qbb e19;idxK v3 v1 fun _=>let l23:=v4.set (0+(Int.toNat v3)) (.agg [.sli .u32 l13,.slg 3 l14,.sli .u8 l15]);idxK x7 v1 fun _=>let l24:=l23.set (0+(Int.toNat x7)) (.agg [.sli .u32 l20,.slg 3 l21,.sli .u8 l22]);let x25:=IntKind.i64.wrap (v3+1);again v1 v2 x25 l24) none) none) (k0 v4)
def ql4(rk:Nat)(k0:LC->OO):xbkv:=qdl (fun a=>qqr rk a k0) (fun _ _ _ _=>none)
def qng(rk:Nat)(again:xbkt)(k0:Nat->Int->Int->LC->OO)(v1:Nat)(v2 v3 v4:Int)(v5:LC):OO:=cond (decide (v3<v4)) (let x8:=IntKind.i64.wrap (v3+v4);let x9:=IntKind.u64.wrap x8;let x10:=Int.fdiv x9 (2 ^ 1);let x11:=IntKind.i64.wrap x10;idxK v2 v1 fun _=>Option.bind (v5[(0+(Int.toNat v2))]?) fun(e12:CV)=>let e13:=(cell1 e12).headD .nili;let e14:=(cell1 e12).tail.headD .nili;let e15:=(cell1 e12).tail.tail.headD .nili;cond (qbl .u32 e13&&(qcj 3 e14&&(qbl .u8 e15&&true))) (let l18:=qbb e15;idxK x11 v1 fun _=>Option.bind (v5[(0+(Int.toNat x11))]?) fun(e19:CV)=>let e20:=(cell1 e19).headD .nili;let e21:=(cell1 e19).tail.headD .nili;let e22:=(cell1 e19).tail.tail.headD .nili;cond (qbl .u32 e20&&(qcj 3 e21&&(qbl .u8 e22&&true))) (let l25:=qbb e22;cond (qad l18&&qad l25) (let r26:=qbk l18 l25;cond (!(decide (r26<0))) (let x27:=IntKind.i64.wrap (x11+1);again v1 v2 x27 v4 v5) (again v1 v2 v3 x11 v5)) none) none) none) (k0 v1 v2 v3 v5)
def qis(rk:Nat)(k0:Nat->Int->Int->LC->OO):xbku:=qdl (fun a=>qng rk a k0) (fun _ _ _ _ _=>none)
def qnh(rk:Nat)(again:Nat->Int->Int->LC->OO)(k0:LC->OO)(v1:Nat)(v2 v3:Int)(v4:LC):OO:=cond (decide (v2<v3)) (let x12:=IntKind.i64.wrap (v3 - 1);let x13:=IntKind.i64.wrap (v3 - 1);idxK x13 v1 fun _=>Option.bind (v4[(0+(Int.toNat x13))]?) fun(e14:CV)=>let e15:=(cell1 e14).headD .nili;let e16:=(cell1 e14).tail.headD .nili;let e17:=(cell1 e14).tail.tail.headD .nili;cond (qbl .u32 e15&&(qcj 3 e16&&(qbl .u8 e17&&true))) (let l18:=qbb e15;let l19:=qca e16;let l20:=qbb e17;idxK v3 v1 fun _=>Option.bind (v4[(0+(Int.toNat v3))]?) fun(e21:CV)=>let e22:=(cell1 e21).headD .nili;let e23:=(cell1 e21).tail.headD .nili;let e24:=(cell1 e21).tail.tail.headD .nili;cond (qbl .u32 e22&&(qcj 3 e23&&(qbl .u8 e24&&true))) (let l25:=qbb e22;let l26:=qca e23;let l27:=qbb e24;idxK v3 v1 fun _=>let l28:=v4.set (0+(Int.toNat v3)) (.agg [.sli .u32 l18,.slg 3 l19,.sli .u8 l20]);idxK x12 v1 fun _=>let l29:=l28.set (0+(Int.toNat x12)) (.agg [.sli .u32 l25,.slg 3 l26,.sli .u8 l27]);let x30:=IntKind.i64.wrap (v3 - 1);again v1 v2 x30 l29) none) none) (k0 v4)
def qit(rk:Nat)(k0:LC->OO):xbkv:=qdl (fun a=>qnh rk a k0) (fun _ _ _ _=>none)
def qni(rk:Nat)(again:Nat->Int->Int->Int->Int->Int->Int->Int->Int->LC->OO)(k0:xbkw)(v1:Nat)(v2 v3 v4 v5 v6 v7 v8 v9:Int)(v10:LC):OO:=cond (decide (v7<v8)) (let x20:=IntKind.i64.wrap (v7+v8);let x21:=IntKind.u64.wrap x20;let x22:=Int.fdiv x21 (2 ^ 1);let x23:=IntKind.i64.wrap x22;let x24:=IntKind.i64.wrap (v9 - x23);idxK x24 v1 fun _=>Option.bind (v10[(0+(Int.toNat x24))]?) fun(e25:CV)=>let e26:=(cell1 e25).headD .nili;let e27:=(cell1 e25).tail.headD .nili;let e28:=(cell1 e25).tail.tail.headD .nili;cond (qbl .u32 e26&&(qcj 3 e27&&(qbl .u8 e28&&true))) (let l31:=qbb e28;idxK x23 v1 fun _=>Option.bind (v10[(0+(Int.toNat x23))]?) fun(e32:CV)=>let e33:=(cell1 e32).headD .nili;let e34:=(cell1 e32).tail.headD .nili;let e35:=(cell1 e32).tail.tail.headD .nili;cond (qbl .u32 e33&&(qcj 3 e34&&(qbl .u8 e35&&true))) (let l38:=qbb e35;cond (qad l31&&qad l38) (let r39:=qbk l31 l38;cond (!(decide (r39<0))) (let x40:=IntKind.i64.wrap (x23+1);again v1 v2 v3 v4 v5 v6 x40 v8 v9 v10) (again v1 v2 v3 v4 v5 v6 v7 x23 v9 v10)) none) none) none) (k0 v1 v2 v3 v4 v5 v6 v7 v10)
def qiu(rk:Nat)(k0:xbkw):Nat->Nat->Int->Int->Int->Int->Int->Int->Int->Int->LC->OO:=qdl (fun a=>qni rk a k0) (fun _ _ _ _ _ _ _ _ _ _=>none)
def qz0(rk:Nat):St->(KT)->OO:=fun σ k=>match σ with|⟨[(q1,.ref q2 q3 v1 true q4),(q5,.cl (.int .i64 v2)),(q6,.cl (.fn (.func q7) [] [])),(q8,.cl (.int .i64 v3)),(q9,.cl (.int .i64 v4))],[(q10,⟨.gen q11 v5,false⟩)]⟩=>cond (eqL [q1,q2,q3,q4,q5,q6,q7,q8,q9,q10,q11] [0,0,0,3,1,4,62,10,11,0,3]) (shut (ql3 rk (fun y1 y2 y3 y4=>k (.exit 0) ⟨[(0,.ref 0 0 y1 true 3),(1,zvi y2),(10,zvi y3)],[(0,⟨.gen 3 y4,false⟩)]⟩) FUEL) v1 v2 v3 v4 v5) none|_=>none
def qz2(rk:Nat):St->(KT)->OO:=fun σ k=>match σ with|⟨[(q1,.ref q2 q3 v1 true q4),(q5,.cl (.int .i64 v2)),(q6,.cl (.int .i64 v3))],[(q7,⟨.gen q8 v4,false⟩)]⟩=>cond (eqL [q1,q2,q3,q4,q5,q6,q7,q8] [0,0,0,3,10,13,0,3]) (shut (ql4 rk (fun y1=>k (.exit 2) ⟨[],[(0,⟨.gen 3 y1,false⟩)]⟩) FUEL) v1 v2 v3 v4) none|_=>none
def que(rk:Nat):St->(KT)->OO:=fun σ k=>match σ with|⟨[(q1,.ref q2 q3 v1 true q4),(q5,.cl (.int .i64 v2)),(q6,.cl (.fn (.func q7) [] [])),(q8,.cl (.int .i64 v3)),(q9,.cl (.int .i64 v4))],[(q10,⟨.gen q11 v5,false⟩)]⟩=>cond (eqL [q1,q2,q3,q4,q5,q6,q7,q8,q9,q10,q11] [0,0,0,3,2,4,62,14,15,0,3]) (shut (qis rk (fun y1 y2 y3 y4=>k (.exit 4) ⟨[(0,.ref 0 0 y1 true 3),(2,zvi y2),(14,zvi y3)],[(0,⟨.gen 3 y4,false⟩)]⟩) FUEL) v1 v2 v3 v4 v5) none|_=>none
def quf(rk:Nat):St->(KT)->OO:=fun σ k=>match σ with|⟨[(q1,.ref q2 q3 v1 true q4),(q5,.cl (.int .i64 v2)),(q6,.cl (.int .i64 v3))],[(q7,⟨.gen q8 v4,false⟩)]⟩=>cond (eqL [q1,q2,q3,q4,q5,q6,q7,q8] [0,0,0,3,14,17,0,3]) (shut (qit rk (fun y1=>k (.exit 6) ⟨[],[(0,⟨.gen 3 y1,false⟩)]⟩) FUEL) v1 v2 v3 v4) none|_=>none
def qug(rk:Nat):St->(KT)->OO:=fun σ k=>match σ with|⟨[(q1,.ref q2 q3 v1 true q4),(q5,.cl (.int .i64 v2)),(q6,.cl (.int .i64 v3)),(q7,.cl (.int .i64 v4)),(q8,.cl (.fn (.func q9) [] [])),(q10,.cl (.int .i64 v5)),(q11,.cl (.int .i64 v6)),(q12,.cl (.int .i64 v7)),(q13,.cl (.int .i64 v8)),(q14,.cl (.int .i64 v9))],[(q15,⟨.gen q16 v10,false⟩)]⟩=>cond (eqL [q1,q2,q3,q4,q5,q6,q7,q8,q9,q10,q11,q12,q13,q14,q15,q16] [0,0,0,3,1,2,3,4,62,18,19,20,21,22,0,3]) (shut (qiu rk (fun y1 y2 y3 y4 y5 y6 y7 y8=>k (.exit 8) ⟨[(0,.ref 0 0 y1 true 3),(1,zvi y2),(2,zvi y3),(3,zvi y4),(4,.cl (.fn (.func 62) [] [])),(18,zvi y5),(19,zvi y6),(20,zvi y7)],[(0,⟨.gen 3 y8,false⟩)]⟩) FUEL) v1 v2 v3 v4 v5 v6 v7 v8 v9 v10) none|_=>none
def qh9(rk:Nat)(k0:LC->OO)(v1:Nat)(v2 v3 v4 v5 v6 v7 v8:Int)(v9:LC):OO:=let x19:=IntKind.i64.wrap (v6 - 1);shut (qiu rk (fun y20 y21 y22 y23 y24 y25 y26 y27=>let x28:=IntKind.i64.wrap (y25 - y26);cond (decide (y26<y22)) (cond (decide (y22<x28)) (cond (rows3 y20 y27&&qdq y20 y26 y22 x28) (let r29:=rotC y27 y26 y22 x28;cond (decide (y21<y26)) (cond (decide (y26<y24)) (cond (rows3 y20 r29&&(qdq y20 y21 y26 y24&&(half3 r29 y21 y26 y24&&decide ((y24 - y21).toNat<rk)))) (let r30:=sym3 r29 y21 y26 y24;cond (decide (y24<x28)) (cond (decide (x28<y23)) (cond (rows3 y20 r30&&(qdq y20 y24 x28 y23&&(half3 r30 y24 x28 y23&&decide ((y23 - y24).toNat<rk)))) (let r31:=sym3 r30 y24 x28 y23;k0 r31) none) (k0 r30)) (k0 r30)) none) (cond (decide (y24<x28)) (cond (decide (x28<y23)) (cond (rows3 y20 r29&&(qdq y20 y24 x28 y23&&(half3 r29 y24 x28 y23&&decide ((y23 - y24).toNat<rk)))) (let r32:=sym3 r29 y24 x28 y23;k0 r32) none) (k0 r29)) (k0 r29))) (cond (decide (y24<x28)) (cond (decide (x28<y23)) (cond (rows3 y20 r29&&(qdq y20 y24 x28 y23&&(half3 r29 y24 x28 y23&&decide ((y23 - y24).toNat<rk)))) (let r33:=sym3 r29 y24 x28 y23;k0 r33) none) (k0 r29)) (k0 r29))) none) (cond (decide (y21<y26)) (cond (decide (y26<y24)) (cond (rows3 y20 y27&&(qdq y20 y21 y26 y24&&(half3 y27 y21 y26 y24&&decide ((y24 - y21).toNat<rk)))) (let r34:=sym3 y27 y21 y26 y24;cond (decide (y24<x28)) (cond (decide (x28<y23)) (cond (rows3 y20 r34&&(qdq y20 y24 x28 y23&&(half3 r34 y24 x28 y23&&decide ((y23 - y24).toNat<rk)))) (let r35:=sym3 r34 y24 x28 y23;k0 r35) none) (k0 r34)) (k0 r34)) none) (cond (decide (y24<x28)) (cond (decide (x28<y23)) (cond (rows3 y20 y27&&(qdq y20 y24 x28 y23&&(half3 y27 y24 x28 y23&&decide ((y23 - y24).toNat<rk)))) (let r36:=sym3 y27 y24 x28 y23;k0 r36) none) (k0 y27)) (k0 y27))) (cond (decide (y24<x28)) (cond (decide (x28<y23)) (cond (rows3 y20 y27&&(qdq y20 y24 x28 y23&&(half3 y27 y24 x28 y23&&decide ((y23 - y24).toNat<rk)))) (let r37:=sym3 y27 y24 x28 y23;k0 r37) none) (k0 y27)) (k0 y27)))) (cond (decide (y21<y26)) (cond (decide (y26<y24)) (cond (rows3 y20 y27&&(qdq y20 y21 y26 y24&&(half3 y27 y21 y26 y24&&decide ((y24 - y21).toNat<rk)))) (let r38:=sym3 y27 y21 y26 y24;cond (decide (y24<x28)) (cond (decide (x28<y23)) (cond (rows3 y20 r38&&(qdq y20 y24 x28 y23&&(half3 r38 y24 x28 y23&&decide ((y23 - y24).toNat<rk)))) (let r39:=sym3 r38 y24 x28 y23;k0 r39) none) (k0 r38)) (k0 r38)) none) (cond (decide (y24<x28)) (cond (decide (x28<y23)) (cond (rows3 y20 y27&&(qdq y20 y24 x28 y23&&(half3 y27 y24 x28 y23&&decide ((y23 - y24).toNat<rk)))) (let r40:=sym3 y27 y24 x28 y23;k0 r40) none) (k0 y27)) (k0 y27))) (cond (decide (y24<x28)) (cond (decide (x28<y23)) (cond (rows3 y20 y27&&(qdq y20 y24 x28 y23&&(half3 y27 y24 x28 y23&&decide ((y23 - y24).toNat<rk)))) (let r41:=sym3 y27 y24 x28 y23;k0 r41) none) (k0 y27)) (k0 y27)))) FUEL) v1 v2 v3 v4 v5 v6 v7 v8 x19 v9
def qtx(rk:Nat):St->(KT)->OO:=fun σ k=>match σ with|⟨[(q1,.ref q2 q3 v1 true q4),(q5,.cl (.int .i64 v2)),(q6,.cl (.int .i64 v3)),(q7,.cl (.int .i64 v4)),(q8,.cl (.fn (.func q9) [] [])),(q10,.cl (.int .i64 v5)),(q11,.cl (.int .i64 v6)),(q12,.cl (.int .i64 v7)),(q13,.cl (.int .i64 v8))],[(q14,⟨.gen q15 v9,false⟩)]⟩=>cond (eqL [q1,q2,q3,q4,q5,q6,q7,q8,q9,q10,q11,q12,q13,q14,q15] [0,0,0,3,1,2,3,4,62,18,19,20,21,0,3]) (shut (qh9 rk (fun y1=>k .normal ⟨[],[(0,⟨.gen 3 y1,false⟩)]⟩)) v1 v2 v3 v4 v5 v6 v7 v8 v9) none|_=>none
def ETSym3(rk:Nat):Env:= {
 orc:=fun g=>cond (Nat.beq g 62) ((kT KTCmp3)) (cond (Nat.beq g 109) STSym3 (cond (Nat.beq g 126) ((kT KTRot3)) (fun _ _=>Tree.fail)))
 pre:=fun g=>cond (Nat.beq g 62) ((kP KTCmp3)) (cond (Nat.beq g 109) (qv7 (rk)) (cond (Nat.beq g 126) ((kP KTRot3)) (fun _ _=>true)))
 byref:=fun g=>cond (Nat.beq g 109) ([0]) (cond (Nat.beq g 126) ([0]) ([]))
 live:=fun r=>cond (Nat.beq r 3) ([0,1,4,10,11]) (cond (Nat.beq r 9) ([0,10,13]) (cond (Nat.beq r 15) ([0,2,4,14,15]) (cond (Nat.beq r 21) ([0,14,17]) (cond (Nat.beq r 32) ([0,1,2,3,4,18,19,20,21]) (cond (Nat.beq r 33) ([0,1,2,3,4,18,19,20,21,22]) ([]))))))
 glob:=qa8
 nt:=220
 lp:=fun r=>cond (Nat.beq r 3) (some (qz0 rk)) (cond (Nat.beq r 9) (some (qz2 rk)) (cond (Nat.beq r 15) (some (que rk)) (cond (Nat.beq r 21) (some (quf rk)) (cond (Nat.beq r 33) (some (qug rk)) (none)))))
 xl:=fun r=>cond (Nat.beq r 0) (some []) (cond (Nat.beq r 1) (some [0,1,10]) (cond (Nat.beq r 3) (some []) (cond (Nat.beq r 5) (some [0,2,14]) (cond (Nat.beq r 7) (some []) (cond (Nat.beq r 9) (some [0,1,2,3,4,18,19,20]) (cond (Nat.beq r 1032) (some []) (none)))))))
 jn:=fun r=>cond (Nat.beq r 32) (some (qtx rk)) (none)
}
theorem q54(rk:Nat):LpT Tryz.prog (ETSym3 rk) Tryz.f109 0 3 (qz0 rk):=by
 intro σ k r h;unfold qz0 at h;split at h
 ·obtain⟨hc,j⟩:=qaa h;cases qa3 hc;rw[qab] at j;apply it5 j
  ·intro n;kernel_rfl
  ·rfl
 ·cases h
theorem q55(rk:Nat):LpT Tryz.prog (ETSym3 rk) Tryz.f109 1 9 (qz2 rk):=by
 intro σ k r h;unfold qz2 at h;split at h
 ·obtain⟨hc,j⟩:=qaa h;cases qa3 hc;rw[qab] at j;apply it4 j
  ·intro n;kernel_rfl
  ·rfl
 ·cases h
theorem qzy(rk:Nat):LpT Tryz.prog (ETSym3 rk) Tryz.f109 2 15 (que rk):=by
 intro σ k r h;unfold que at h;split at h
 ·obtain⟨hc,j⟩:=qaa h;cases qa3 hc;rw[qab] at j;apply it5 j
  ·intro n;kernel_rfl
  ·rfl
 ·cases h
theorem qzz(rk:Nat):LpT Tryz.prog (ETSym3 rk) Tryz.f109 3 21 (quf rk):=by
 intro σ k r h;unfold quf at h;split at h
 ·obtain⟨hc,j⟩:=qaa h;cases qa3 hc;rw[qab] at j;apply it4 j
  ·intro n;kernel_rfl
  ·rfl
 ·cases h
theorem qz1(rk:Nat):LpT Tryz.prog (ETSym3 rk) Tryz.f109 4 33 (qug rk):=by
 intro σ k r h;unfold qug at h;split at h
 ·obtain⟨hc,j⟩:=qaa h;cases qa3 hc;rw[qab] at j;apply it10 j
  ·intro n;kernel_rfl
  ·rfl
 ·cases h
theorem qy2(rk:Nat):JnOk Tryz.prog (ETSym3 rk) 40 (nthc (ETSym3 rk) Tryz.f109 5) 32 (qtx rk):=by
 intro σ k r h;unfold qtx at h;split at h
 ·obtain⟨hc,j⟩:=qaa h;cases qa3 hc;rw[qab] at j;exact zds (by kernel_rfl) j
 ·cases h
theorem xba7(rk:Nat): ∀c,Tryz.f109.body=some c->qbj Tryz.prog (ETSym3 rk) 40 c:=lsB (ids:=[(true,3),(true,9),(true,15),(true,21),(true,33),(false,32)]) (by kernel_rfl) ⟨⟨_,rfl,q54 rk⟩,⟨_,rfl,q55 rk⟩,⟨_,rfl,qzy rk⟩,⟨_,rfl,qzz rk⟩,⟨_,rfl,qz1 rk⟩,⟨_,rfl,qy2 rk⟩,trivial⟩
def xbl0(rk:Nat)(m:Nat)(a:Int)(p:Int)(b:Int)(l:LC):OO:=let x1:=IntKind.i64.wrap (p - a);cond (decide (x1=1)) (shut (ql3 rk (fun y2 y3 y4 y5=>shut (ql4 rk (fun y6=>zR [] [some ⟨.gen 3 y6,false⟩]) FUEL) y2 y4 y3 y5) FUEL) m a p b l) (let x7:=IntKind.i64.wrap (b - p);cond (decide (x7=1)) (shut (qis rk (fun y8 y9 y10 y11=>shut (qit rk (fun y12=>zR [] [some ⟨.gen 3 y12,false⟩]) FUEL) y8 y10 y9 y11) FUEL) m p a p l) (let x13:=IntKind.i64.wrap (a+b);let x14:=IntKind.u64.wrap x13;let x15:=Int.fdiv x14 (2 ^ 1);let x16:=IntKind.i64.wrap x15;let x17:=IntKind.i64.wrap (x16+p);cond (decide (x16<p)) (let x18:=IntKind.i64.wrap (x17 - b);shut (qh9 rk (fun y19=>zR [] [some ⟨.gen 3 y19,false⟩])) m a p b x16 x17 x18 x16 l) (shut (qh9 rk (fun y20=>zR [] [some ⟨.gen 3 y20,false⟩])) m a p b x16 x17 a p l)))
theorem xbfd(rk:Nat)(m:Nat)(a:Int)(p:Int)(b:Int)(l:LC):qoa Tryz.prog (ETSym3 rk) 40 false Tryz.f109 [.ref 0 0 m true 3,.cl (.int .i64 a),.cl (.int .i64 p),.cl (.int .i64 b),.cl (.fn (.func 62) [] [])] [⟨.gen 3 l,false⟩]=xbl0 rk m a p b l:=by kernel_rfl
def qqk(again:Nat->Int->Int->Int->Int->LC->OO)(k0:Nat->Int->Int->Int->LC->OO)(v1:Nat)(v2 v3 v4 v5:Int)(v6:LC):OO:=cond (decide (v2<v5)) (idxK v5 v1 fun _=>Option.bind (v6[(0+(Int.toNat v5))]?) fun(e2:CV)=>let e3:=(cell1 e2).headD .nili;let e4:=(cell1 e2).tail.headD .nili;let e5:=(cell1 e2).tail.tail.headD .nili;cond (qbl .u32 e3&&(qcj 3 e4&&(qbl .u8 e5&&true))) (let l8:=qbb e5;let x9:=IntKind.i64.wrap (v5 - 1);idxK x9 v1 fun _=>Option.bind (v6[(0+(Int.toNat x9))]?) fun(e10:CV)=>let e11:=(cell1 e10).headD .nili;let e12:=(cell1 e10).tail.headD .nili;let e13:=(cell1 e10).tail.tail.headD .nili;cond (qbl .u32 e11&&(qcj 3 e12&&(qbl .u8 e13&&true))) (let l16:=qbb e13;cond (qad l8&&qad l16) (let r17:=qbk l8 l16;cond (decide (r17<0)) (let x18:=IntKind.i64.wrap (v5 - 1);let x19:=IntKind.i64.wrap (v5 - 1);idxK x19 v1 fun _=>Option.bind (v6[(0+(Int.toNat x19))]?) fun(e20:CV)=>let e21:=(cell1 e20).headD .nili;let e22:=(cell1 e20).tail.headD .nili;let e23:=(cell1 e20).tail.tail.headD .nili;cond (qbl .u32 e21&&(qcj 3 e22&&(qbl .u8 e23&&true))) (let l24:=qbb e21;let l25:=qca e22;let l26:=qbb e23;idxK v5 v1 fun _=>Option.bind (v6[(0+(Int.toNat v5))]?) fun(e27:CV)=>let e28:=(cell1 e27).headD .nili;let e29:=(cell1 e27).tail.headD .nili;let e30:=(cell1 e27).tail.tail.headD .nili;cond (qbl .u32 e28&&(qcj 3 e29&&(qbl .u8 e30&&true))) (let l31:=qbb e28;let l32:=qca e29;let l33:=qbb e30;idxK v5 v1 fun _=>let l34:=v6.set (0+(Int.toNat v5)) (.agg [.sli .u32 l24,.slg 3 l25,.sli .u8 l26]);idxK x18 v1 fun _=>let l35:=l34.set (0+(Int.toNat x18)) (.agg [.sli .u32 l31,.slg 3 l32,.sli .u8 l33]);let x36:=IntKind.i64.wrap (v5 - 1);again v1 v2 v3 v4 x36 l35) none) none) (k0 v1 v2 v3 v4 v6)) none) none) none) (k0 v1 v2 v3 v4 v6)
def qlv(k0:Nat->Int->Int->Int->LC->OO):Nat->Nat->Int->Int->Int->Int->LC->OO:=qdl (fun a=>qqk a k0) (fun _ _ _ _ _ _=>none)
def qim(again:Nat->Int->Int->Int->LC->OO)(k0:LC->OO)(v1:Nat)(v2 v3 v4:Int)(v5:LC):OO:=cond (decide (v4<v3)) (shut (qlv (fun y2 y3 y4 y5 y6=>let x7:=IntKind.i64.wrap (y5+1);again y2 y3 y4 x7 y6) FUEL) v1 v2 v3 v4 v4 v5) (k0 v5)
def qj0(k0:LC->OO):Nat->Nat->Int->Int->Int->LC->OO:=qdl (fun a=>qim a k0) (fun _ _ _ _ _=>none)
def qzj:St->(KT)->OO:=fun σ k=>match σ with|⟨[(q1,.ref q2 q3 v1 true q4),(q5,.cl (.int .i64 v2)),(q6,.cl (.int .i64 v3)),(q7,.cl (.fn (.func q8) [] [])),(q9,.cl (.int .i64 v4)),(q10,.cl (.int .i64 v5))],[(q11,⟨.gen q12 v6,false⟩)]⟩=>cond (eqL [q1,q2,q3,q4,q5,q6,q7,q8,q9,q10,q11,q12] [0,0,0,3,1,2,3,62,8,9,0,3]) (shut (qlv (fun y1 y2 y3 y4 y5=>k (.exit 2) ⟨[(0,.ref 0 0 y1 true 3),(1,zvi y2),(2,zvi y3),(3,.cl (.fn (.func 62) [] [])),(8,zvi y4)],[(0,⟨.gen 3 y5,false⟩)]⟩) FUEL) v1 v2 v3 v4 v5 v6) none|_=>none
def qzi:St->(KT)->OO:=fun σ k=>match σ with|⟨[(q1,.ref q2 q3 v1 true q4),(q5,.cl (.int .i64 v2)),(q6,.cl (.int .i64 v3)),(q7,.cl (.fn (.func q8) [] [])),(q9,.cl (.int .i64 v4))],[(q10,⟨.gen q11 v5,false⟩)]⟩=>cond (eqL [q1,q2,q3,q4,q5,q6,q7,q8,q9,q10,q11] [0,0,0,3,1,2,3,62,8,0,3]) (shut (qj0 (fun y1=>k (.exit 0) ⟨[],[(0,⟨.gen 3 y1,false⟩)]⟩) FUEL) v1 v2 v3 v4 v5) none|_=>none
def ETIns3:Env:= {mkE BTIns3 qa8 53 with live:=lk [] [(1,[0,1,2,3,8]),(4,[0,1,2,3,8,9])],lp:=lk none [(1,some qzi),(4,some qzj)],xl:=lk none [(0,some []),(1,some []),(3,some [0,1,2,3,8])]}
theorem q5r:LpT Tryz.prog (ETIns3) Tryz.f108 0 4 qzj:=by
 intro σ k r h;unfold qzj at h;split at h
 ·obtain⟨hc,j⟩:=qaa h;cases qa3 hc;rw[qab] at j;apply it6 j
  ·intro n;kernel_rfl
  ·rfl
 ·cases h
theorem q5q:LpT Tryz.prog (ETIns3) Tryz.f108 1 1 qzi:=by
 intro σ k r h;unfold qzi at h;split at h
 ·obtain⟨hc,j⟩:=qaa h;cases qa3 hc;rw[qab] at j;apply it5 j
  ·intro n;kernel_rfl
  ·rfl
 ·cases h
def xbpz(m:Nat)(a:Int)(b:Int)(l:LC):OO:=let x1:=IntKind.i64.wrap (a+1);shut (qj0 (fun y2=>zR [] [some ⟨.gen 3 y2,false⟩]) FUEL) m a b x1 l
def qio(again:Nat->Int->Int->Int->LC->OO)(k0:Nat->Int->Int->LC->OO)(v1:Nat)(v2 v3 v4:Int)(v5:LC):OO:=cond (decide (v4<=v2)) (cond (rows3 v1 v5&&decide (0<=v3/\v3<=v4/\v4<=(v1:Int))) (let r1:=ins3 v5 v3 v4;let x2:=IntKind.i64.wrap (v4+20);again v1 v2 v4 x2 r1) none) (k0 v1 v2 v3 v5)
def qlx(k0:Nat->Int->Int->LC->OO):Nat->Nat->Int->Int->Int->LC->OO:=qdl (fun a=>qio a k0) (fun _ _ _ _ _=>none)
def qip(again:Nat->Int->Int->Int->Int->LC->OO)(k0:Nat->Int->Int->Int->LC->OO)(v1:Nat)(v2 v3 v4 v5:Int)(v6:LC):OO:=cond (decide (v5<=v2)) (let x7:=IntKind.i64.wrap (v4+v3);cond (rows3 v1 v6&&(qdq v1 v4 x7 v5&&half3 v6 v4 x7 v5)) (let r8:=sym3 v6 v4 x7 v5;let x9:=IntKind.i64.wrap ((2:Int)*v3);let x10:=IntKind.i64.wrap (v5+x9);again v1 v2 v3 v5 x10 r8) none) (k0 v1 v2 v3 v4 v6)
def qly(k0:Nat->Int->Int->Int->LC->OO):Nat->Nat->Int->Int->Int->Int->LC->OO:=qdl (fun a=>qip a k0) (fun _ _ _ _ _ _=>none)
def qqo(again:Nat->Int->Int->LC->OO)(k0:LC->OO)(v1:Nat)(v2 v3:Int)(v4:LC):OO:=cond (decide (v3<v2)) (let x6:=IntKind.i64.wrap ((2:Int)*v3);shut (qly (fun y7 y8 y9 y10 y11=>let x12:=IntKind.i64.wrap (y10+y9);cond (decide (x12<y8)) (cond (rows3 y7 y11&&(qdq y7 y10 x12 y8&&half3 y11 y10 x12 y8)) (let r13:=sym3 y11 y10 x12 y8;let x14:=IntKind.i64.wrap (y9*2);again y7 y8 x14 r13) none) (let x15:=IntKind.i64.wrap (y9*2);again y7 y8 x15 y11)) FUEL) v1 v2 v3 0 x6 v4) (k0 v4)
def qha(k0:LC->OO):Nat->Nat->Int->Int->LC->OO:=qdl (fun a=>qqo a k0) (fun _ _ _ _=>none)
def qzq:St->(KT)->OO:=fun σ k=>match σ with|⟨[(q1,.ref q2 q3 v1 true q4),(q5,.cl (.int .i64 v2)),(q6,.cl (.fn (.func q7) [] [])),(q8,.cl (.int .i64 q9)),(q10,.cl (.int .i64 v3)),(q11,.cl (.int .i64 v4))],[(q12,⟨.gen q13 v5,false⟩)]⟩=>cond (eqL [q1,q2,q3,q4,q5,q6,q7,q8,q10,q11,q12,q13] [0,0,0,3,1,2,62,6,7,8,0,3]&&decide (q9=20)) (shut (qlx (fun y1 y2 y3 y4=>k (.exit 0) ⟨[(0,.ref 0 0 y1 true 3),(1,zvi y2),(2,.cl (.fn (.func 62) [] [])),(6,zvi 20),(7,zvi y3)],[(0,⟨.gen 3 y4,false⟩)]⟩) FUEL) v1 v2 v3 v4 v5) none|_=>none
def qzs:St->(KT)->OO:=fun σ k=>match σ with|⟨[(q1,.ref q2 q3 v1 true q4),(q5,.cl (.int .i64 v2)),(q6,.cl (.fn (.func q7) [] [])),(q8,.cl (.int .i64 v3)),(q9,.cl (.int .i64 v4)),(q10,.cl (.int .i64 v5))],[(q11,⟨.gen q12 v6,false⟩)]⟩=>cond (eqL [q1,q2,q3,q4,q5,q6,q7,q8,q9,q10,q11,q12] [0,0,0,3,1,2,62,6,7,8,0,3]) (shut (qly (fun y1 y2 y3 y4 y5=>k (.exit 4) ⟨[(0,.ref 0 0 y1 true 3),(1,zvi y2),(2,.cl (.fn (.func 62) [] [])),(6,zvi y3),(7,zvi y4)],[(0,⟨.gen 3 y5,false⟩)]⟩) FUEL) v1 v2 v3 v4 v5 v6) none|_=>none
def qzr:St->(KT)->OO:=fun σ k=>match σ with|⟨[(q1,.ref q2 q3 v1 true q4),(q5,.cl (.int .i64 v2)),(q6,.cl (.fn (.func q7) [] [])),(q8,.cl (.int .i64 v3))],[(q9,⟨.gen q10 v4,false⟩)]⟩=>cond (eqL [q1,q2,q3,q4,q5,q6,q7,q8,q9,q10] [0,0,0,3,1,2,62,6,0,3]) (shut (qha (fun y1=>k (.exit 2) ⟨[],[(0,⟨.gen 3 y1,false⟩)]⟩) FUEL) v1 v2 v3 v4) none|_=>none
def ETSta3:Env:= {mkE BTSta3 qa8 63 with byref:=lk [] [(108,[0]),(109,[0])],live:=lk [] [(2,[0,1,2,6,7,8]),(7,[0,1,2,6]),(9,[0,1,2,6,7,8])],lp:=lk none [(2,some qzq),(7,some qzr),(9,some qzs)],xl:=lk none [(0,some []),(1,some [0,1,2,6,7]),(3,some []),(5,some [0,1,2,6,7])]}
theorem q5y:LpT Tryz.prog (ETSta3) Tryz.f86 0 2 qzq:=by
 intro σ k r h;unfold qzq at h;split at h
 ·obtain⟨hc,j⟩:=qaa h;simp only[zab,qen,decide_eq_true_eq,zao] at hc;obtain⟨hc,rfl⟩:=hc;cases qa3 hc;rw[qab] at j;apply it5 j
  ·intro n;kernel_rfl
  ·rfl
 ·cases h
theorem q50:LpT Tryz.prog (ETSta3) Tryz.f86 1 9 qzs:=by
 intro σ k r h;unfold qzs at h;split at h
 ·obtain⟨hc,j⟩:=qaa h;cases qa3 hc;rw[qab] at j;apply it6 j
  ·intro n;kernel_rfl
  ·rfl
 ·cases h
theorem q5z:LpT Tryz.prog (ETSta3) Tryz.f86 2 7 qzr:=by
 intro σ k r h;unfold qzr at h;split at h
 ·obtain⟨hc,j⟩:=qaa h;cases qa3 hc;rw[qab] at j;apply it4 j
  ·intro n;kernel_rfl
  ·rfl
 ·cases h
def xbp8(m:Nat)(n:Int)(l:LC):OO:=shut (qlx (fun y1 y2 y3 y4=>cond (rows3 y1 y4&&decide (0<=y3/\y3<=y2/\y2<=(y1:Int))) (let r5:=ins3 y4 y3 y2;shut (qha (fun y6=>zR [] [some ⟨.gen 3 y6,false⟩]) FUEL) y1 y2 20 r5) none) FUEL) m n 0 20 l
def ETSort3:Env:= {mkE BTSort3 qa8 9 with byref:=lk [] [(86,[0])],xl:=lk none [(0,some [])]}
def xbp6(m:Nat)(l:LC):OO:=cond (rows3 m l&&decide ((m:Int)=(m:Int))) (let r1:=srt3 l;zR [] [some ⟨.gen 3 r1,false⟩]) none
def ETClone:Env:= {mkE BTClone qa8 8 with xl:=lk none [(0,some [2])]}
def xbie(o:LI):OO:=cond (Nat.beq o.length 0) (xbli (zR [.cl (.sli .u32 [])] []) (let l1:=[]++o;rmK l1.length 4<| zR [.cl (.sli .u32 l1)] [])) (let l2:=[]++o;rmK l2.length 4<| zR [.cl (.sli .u32 l2)] [])
def ETTw1:Env:= {mkE BTTw1 qa8 9 with xl:=lk none [(0,some [3])]}
def xbzw(o:LI)(k:LC)(p:LI)(q:LC):OO:=cond (qkj p) (let r1:=qa5 p o;zR [zvb r1] [some ⟨.var [.cl (.sli .u32 p),zvg q],false⟩]) none
def ETOn1:Env:= {mkE BTOn1 qa8 8 with xl:=lk none [(0,some [3])]}
def xbzu(o:LI)(k:LC)(p:LI):OO:=cond (qkj o) (let r1:=qa5 o p;zR [zvb r1] [some ⟨.var [.cl (.sli .u32 p)],false⟩]) none
def qvk(again:LC->Int->Int->LI->LC->OO)(k0:Int->LI->LC->OO)(k1:LI->LC->OO)(v1:LC)(v2 v3:Int)(v4:LI)(v5:LC):OO:=cond (decide (v3<v2)) (getK v1 v3 fun e1=>let e2:=(cell1 e1).headD .nili;let e3:=(cell1 e1).tail.headD .nili;cond (qbl .u32 e2&&(qcj 3 e3&&true)) (let l4:=qbb e2;cond (qkj v4) (let r6:=qa5 v4 l4;cond (r6) (k0 v3 v4 v5) (let x7:=IntKind.i64.wrap (v3+1);again v1 v2 x7 v4 v5)) none) none) (k1 v4 v5)
def qvj(k0:Int->LI->LC->OO)(k1:LI->LC->OO):Nat->LC->Int->Int->LI->LC->OO:=qdl (fun a=>qvk a k0 k1) (fun _ _ _ _ _=>none)
def qnd(again:LC->Int->Int->LI->OO)(k0:Int->LI->OO)(k1:LI->OO)(v1:LC)(v2 v3:Int)(v4:LI):OO:=cond (decide (v3<v2)) (getK v1 v3 fun e1=>let e2:=(cell1 e1).headD .nili;let e3:=(cell1 e1).tail.headD .nili;cond (qbl .u32 e2&&(qcj 3 e3&&true)) (let l4:=qbb e2;cond (qkj l4) (let r6:=qa5 l4 v4;cond (r6) (k0 v3 v4) (let x7:=IntKind.i64.wrap (v3+1);again v1 v2 x7 v4)) none) none) (k1 v4)
def qlu(k0:Int->LI->OO)(k1:LI->OO):Nat->LC->Int->Int->LI->OO:=qdl (fun a=>qnd a k0 k1) (fun _ _ _ _=>none)
def q8a:St->(KT)->OO:=fun σ k=>match σ with|⟨[(q1,.cl (.slg q2 v1)),(q3,.fn (.func q4) [] [.ptr q5 q6 q7]),(q8,.cl (.int .i64 v2)),(q9,.cl (.int .i64 v3))],[(q10,⟨.var [.cl (.sli .u32 v4),.cl (.slg q11 v5)],false⟩)]⟩=>cond (eqL [q1,q2,q3,q4,q5,q6,q7,q8,q9,q10,q11] [0,2,1,55,0,0,0,7,8,0,3]) (shut (qvj (fun y1 y2 y3=>k .ret ⟨[(4,zvi y1)],[(0,⟨.var [.cl (.sli .u32 y2),zvg y3],false⟩)]⟩) (fun y1 y2=>k (.exit 0) ⟨[],[(0,⟨.var [.cl (.sli .u32 y1),zvg y2],false⟩)]⟩) FUEL) v1 v2 v3 v4 v5) none|⟨[(q1,.cl (.slg q2 v1)),(q3,.fn (.func q4) [] [.ptr q5 q6 q7]),(q8,.cl (.int .i64 v2)),(q9,.cl (.int .i64 v3))],[(q10,⟨.var [.cl (.sli .u32 v4)],false⟩)]⟩=>cond (eqL [q1,q2,q3,q4,q5,q6,q7,q8,q9,q10] [0,2,1,49,0,0,0,7,8,0]) (shut (qlu (fun y1 y2=>k .ret ⟨[(4,zvi y1)],[(0,⟨.var [.cl (.sli .u32 y2)],false⟩)]⟩) (fun y1=>k (.exit 0) ⟨[],[(0,⟨.var [.cl (.sli .u32 y1)],false⟩)]⟩) FUEL) v1 v2 v3 v4) none|_=>none
def ETIdx:Env:= {mkE BTIdx qa8 19 with byref:=lk [] [(49,[1]),(55,[1])],live:=lk [] [(2,[0,1,7,8])],lp:=lk none [(2,some q8a)],xl:=lk none [(0,some [4]),(1,some [])]}
theorem q8b:LpT Tryz.prog (ETIdx) Tryz.f48 0 2 q8a:=by
 intro σ k r h;unfold q8a at h;split at h
 ·obtain⟨hc,j⟩:=qaa h;cases qa3 hc;rw[qab] at j;apply it5 j
  ·intro n;kernel_rfl
  ·rfl
 ·obtain⟨hc,j⟩:=qaa h;cases qa3 hc;rw[qab] at j;apply it4 j
  ·intro n;kernel_rfl
  ·rfl
 ·cases h
def xbif(l:LC)(p:LI)(q:LC):OO:=shut (qvj (fun y1 y2 y3=>zR [zvi y1] [some ⟨.var [.cl (.sli .u32 y2),zvg y3],false⟩]) (fun y4 y5=>zR [zvi (-1)] [some ⟨.var [.cl (.sli .u32 y4),zvg y5],false⟩]) FUEL) l (l.length:Int) 0 p q
def xbig(l:LC)(p:LI):OO:=shut (qlu (fun y1 y2=>zR [zvi y1] [some ⟨.var [.cl (.sli .u32 y2)],false⟩]) (fun y3=>zR [zvi (-1)] [some ⟨.var [.cl (.sli .u32 y3)],false⟩]) FUEL) l (l.length:Int) 0 p
def ETCon:Env:= {mkE BTCon qa8 9 with byref:=lk [] [(48,[1]),(55,[1])],xl:=lk none [(0,some [4])]}
def xbzs(l:LC)(p:LI)(q:LC):OO:=cond (qbh l&&qkj p) (let r1:=idxA p l;zR [zvb (decide ((0:Int)<=r1))] [some ⟨.var [.cl (.sli .u32 p),zvg q],false⟩]) none
def qnm(again:LC->LC->Int->Int->OO)(k0:OO)(k1:OO)(v1 v2:LC)(v3 v4:Int):OO:=cond (decide (v4<v3)) (getK v2 v4 fun e1=>let e2:=(cell1 e1).headD .nili;let e3:=(cell1 e1).tail.headD .nili;cond (qbl .u32 e2&&(qcj 3 e3&&true)) (let l4:=qbb e2;cond (decide ((0:Int)<=v4)) (cond (decide (v4<=(v1.length:Int))) (let l6:=List.take (Int.toNat v4) v1;cond (qbh l6&&qkj l4) (let r7:=hasA l4 l6;cond (r7) (k0) (let x8:=IntKind.i64.wrap (v4+1);again v1 v2 v3 x8)) none) none) none) none) (k1)
def ql7(k0:OO)(k1:OO):Nat->LC->LC->Int->Int->OO:=qdl (fun a=>qnm a k0 k1) (fun _ _ _ _=>none)
def quk:St->(KT)->OO:=fun σ k=>match σ with|⟨[(q1,.cl (.slg q2 v1)),(q3,.cl (.slg q4 v2)),(q5,.cl (.int .i64 v3)),(q6,.cl (.int .i64 v4))],[]⟩=>cond (eqL [q1,q2,q3,q4,q5,q6] [0,2,5,2,6,7]) (shut (ql7 (k .ret ⟨[(2,zvb true)],[]⟩) (k (.exit 0) ⟨[],[]⟩) FUEL) v1 v2 v3 v4) none|_=>none
def ETTwice:Env:= {mkE BTTwice qa8 18 with byref:=lk [] [(54,[1]),(55,[1])],live:=lk [] [(2,[0,5,6,7])],lp:=lk none [(2,some quk)],xl:=lk none [(0,some [2]),(1,some [])]}
theorem qz8:LpT Tryz.prog (ETTwice) Tryz.f29 0 2 quk:=by
 intro σ k r h;unfold quk at h;split at h
 ·obtain⟨hc,j⟩:=qaa h;cases qa3 hc;rw[qab] at j;apply it4 j
  ·intro n;kernel_rfl
  ·rfl
 ·cases h
def xbij(l:LC):OO:=shut (ql7 (zB true) (zB false) FUEL) l l (l.length:Int) 0
def ETOrd1:Env:= {mkE BTOrd1 qa8 5 with xl:=lk none [(0,some [2,3])]}
def xbvy(t:Int)(b:LI)(k:LC):OO:=zR [.cl (.agg [.int .i64 t,.sli .u8 b,.slg 3 k]),zvb true] []
def xbfr(again:Nat->LC->Int->Int->LC->OO)(k0:OO)(k1:Nat->LC->OO)(v1:Nat)(v2:LC)(v3 v4:Int)(v5:LC):OO:=cond (decide (v4<v3)) (getK v2 v4 fun e1=>let e2:=(cell1 e1).headD .nili;let e3:=(cell1 e1).tail.headD .nili;let e4:=(cell1 e1).tail.tail.headD .nili;cond (qfy .i64 e2&&(qbl .u8 e3&&(qcj 3 e4&&true))) (let i5:=qfi e2;let l6:=qbb e3;let l7:=qca e4;let r8:=true;cond (isS [.int .i64 i5,.sli .u8 l6,.slg 3 l7]) (let r9:=(qa0 [.int .i64 i5,.sli .u8 l6,.slg 3 l7]).1;let r10:=(qa0 [.int .i64 i5,.sli .u8 l6,.slg 3 l7]).2;cond (!r8) (k0) (cond (!decide (r10=0)) (k0) (let l11:=v5++([.agg [.int .i64 i5,.sli .u8 l6,.slg 3 l7,.sli .u8 r9]]);rmK l11.length 80<| let x12:=IntKind.i64.wrap (v4+1);again l11.length v2 v3 x12 l11))) none) none) (k1 v1 v5)
def qvm(k0:OO)(k1:Nat->LC->OO):Nat->Nat->LC->Int->Int->LC->OO:=qdl (fun a=>xbfr a k0 k1) (fun _ _ _ _ _=>none)
def q8e:St->(KT)->OO:=fun σ k=>match σ with|⟨[(q1,.cl (.fn (.func q2) [] [])),(q3,.ref q4 q5 v1 true q6),(q7,.cl (.slg q8 v2)),(q9,.cl (.int .i64 v3)),(q10,.cl (.int .i64 v4))],[(q11,⟨.gen q12 v5,false⟩)]⟩=>cond (eqL [q1,q2,q3,q4,q5,q6,q7,q8,q9,q10,q11,q12] [1,57,6,79,0,4,16,3,17,18,79,4]) (shut (qvm (k .ret ⟨[(4,.ref 68 0 0 true 4),(5,zvb false)],[(68,⟨.gen 4 [],false⟩)]⟩) (fun y1 y2=>k (.exit 0) ⟨[(6,.ref 79 0 y1 true 4)],[(79,⟨.gen 4 y2,false⟩)]⟩) FUEL) v1 v2 v3 v4 v5) none|_=>none
def xbyp:Env:= {mkE xbvd qa8 49 with byref:=lk [] [(84,[0])],live:=lk [] [(3,[1,6,16,17,18])],ren:=lk [] [(3,[(108,79)])],lp:=lk none [(3,some q8e)],xl:=lk none [(0,some [4,5]),(1,some [6])]}
theorem q8f:LpT Tryz.prog (xbyp) Tryz.f56 0 3 q8e:=by
 intro σ k r h;unfold q8e at h;split at h
 ·obtain⟨hc,j⟩:=qaa h;cases qa3 hc;rw[qab] at j;apply it5 j
  ·intro n;kernel_rfl
  ·rfl
 ·cases h
def xby3(l:LC):OO:=cond (decide ((0:Int)<=(l.length:Int))) (cond (decide ((l.length:Int)*80<=LIM)) (cond (decide ((l.length:Int)<=LIM)) (shut (qvm (zR [.cl (.slg 4 []),zvb false] []) (fun y1 y2=>cond (rows4 y1 y2) (let r3:=srt4 y2;zR [.cl (.slg 4 r3),zvb true] []) none) FUEL) 0 l (l.length:Int) 0 []) none) none) none
def xbfu(again:Nat->LC->Int->Int->LC->OO)(k0:Nat->LC->OO)(v1:Nat)(v2:LC)(v3 v4:Int)(v5:LC):OO:=cond (decide (v4<v3)) (getK v2 v4 fun e1=>let e2:=(cell1 e1).headD .nili;let e3:=(cell1 e1).tail.headD .nili;let e4:=(cell1 e1).tail.tail.headD .nili;let e5:=(cell1 e1).tail.tail.tail.headD .nili;cond (qfy .i64 e2&&(qbl .u8 e3&&(qcj 3 e4&&(qbl .u8 e5&&true)))) (let i6:=qfi e2;let l7:=qbb e3;let l8:=qca e4;idxK v4 v1 fun _=>let l10:=v5.set (0+(Int.toNat v4)) (.agg [.int .i64 i6,.sli .u8 l7,.slg 3 l8]);let x11:=IntKind.i64.wrap (v4+1);again v1 v2 v3 x11 l10) none) (k0 v1 v5)
def q1f(k0:Nat->LC->OO):Nat->Nat->LC->Int->Int->LC->OO:=qdl (fun a=>xbfu a k0) (fun _ _ _ _ _=>none)
def q8k:St->(KT)->OO:=fun σ k=>match σ with|⟨[(q1,.ref q2 q3 v1 true q4),(q5,.cl (.slg q6 v2)),(q7,.cl (.int .i64 v3)),(q8,.cl (.int .i64 v4))],[(q9,⟨.gen q10 v5,false⟩)]⟩=>cond (eqL [q1,q2,q3,q4,q5,q6,q7,q8,q9,q10] [3,72,0,3,9,4,10,11,72,3]) (shut (q1f (fun y1 y2=>k (.exit 0) ⟨[(3,.ref 72 0 y1 true 3)],[(72,⟨.gen 3 y2,false⟩)]⟩) FUEL) v1 v2 v3 v4 v5) none|_=>none
def xbyr:Env:= {mkE xbvf qa8 23 with live:=lk [] [(3,[3,9,10,11])],lp:=lk none [(3,some q8k)],xl:=lk none [(0,some [2]),(1,some [3])]}
theorem q8l:LpT Tryz.prog (xbyr) Tryz.f59 0 3 q8k:=by
 intro σ k r h;unfold q8k at h;split at h
 ·obtain⟨hc,j⟩:=qaa h;cases qa3 hc;rw[qab] at j;apply it5 j
  ·intro n;kernel_rfl
  ·rfl
 ·cases h
def xby9(l:LC):OO:=cond (decide ((0:Int)<=(l.length:Int))) (cond (decide ((l.length:Int)<=(l.length:Int))) (cond (decide ((l.length:Int)*56<=LIM)) (cond (decide ((l.length:Int)<=LIM)) (shut (q1f (fun y1 y2=>zR [zvg y2] []) FUEL) (Int.toNat (l.length:Int)) l (l.length:Int) 0 (List.replicate (Int.toNat (l.length:Int)) (.agg [.int .i64 0,.sli .u8 [],.slg 3 []]))) none) none) none) none
def xbft(again:Nat->LC->Int->Int->LC->OO)(k0:Nat->LC->OO)(v1:Nat)(v2:LC)(v3 v4:Int)(v5:LC):OO:=cond (decide (v4<v3)) (getK v2 v4 fun e1=>let e2:=(cell1 e1).headD .nili;let e3:=(cell1 e1).tail.headD .nili;let e4:=(cell1 e1).tail.tail.headD .nili;cond (qbl .u32 e2&&(qcj 3 e3&&(qbl .u8 e4&&true))) (let l5:=qbb e2;let l6:=qca e3;idxK v4 v1 fun _=>let l8:=v5.set (0+(Int.toNat v4)) (.agg [.sli .u32 l5,.slg 3 l6]);let x9:=IntKind.i64.wrap (v4+1);again v1 v2 v3 x9 l8) none) (k0 v1 v5)
def q1e(k0:Nat->LC->OO):Nat->Nat->LC->Int->Int->LC->OO:=qdl (fun a=>xbft a k0) (fun _ _ _ _ _=>none)
def q8i:St->(KT)->OO:=fun σ k=>match σ with|⟨[(q1,.ref q2 q3 v1 true q4),(q5,.cl (.slg q6 v2)),(q7,.cl (.int .i64 v3)),(q8,.cl (.int .i64 v4))],[(q9,⟨.gen q10 v5,false⟩)]⟩=>cond (eqL [q1,q2,q3,q4,q5,q6,q7,q8,q9,q10] [3,72,0,2,9,3,10,11,72,2]) (shut (q1e (fun y1 y2=>k (.exit 0) ⟨[(3,.ref 72 0 y1 true 2)],[(72,⟨.gen 2 y2,false⟩)]⟩) FUEL) v1 v2 v3 v4 v5) none|_=>none
def xbyq:Env:= {mkE xbve qa8 23 with live:=lk [] [(3,[3,9,10,11])],lp:=lk none [(3,some q8i)],xl:=lk none [(0,some [2]),(1,some [3])]}
theorem q8j:LpT Tryz.prog (xbyq) Tryz.f35 0 3 q8i:=by
 intro σ k r h;unfold q8i at h;split at h
 ·obtain⟨hc,j⟩:=qaa h;cases qa3 hc;rw[qab] at j;apply it5 j
  ·intro n;kernel_rfl
  ·rfl
 ·cases h
def xby8(l:LC):OO:=cond (decide ((0:Int)<=(l.length:Int))) (cond (decide ((l.length:Int)<=(l.length:Int))) (cond (decide ((l.length:Int)*48<=LIM)) (cond (decide ((l.length:Int)<=LIM)) (shut (q1e (fun y1 y2=>zR [.cl (.slg 2 y2)] []) FUEL) (Int.toNat (l.length:Int)) l (l.length:Int) 0 (List.replicate (Int.toNat (l.length:Int)) (.agg [.sli .u32 [],.slg 3 []]))) none) none) none) none
def ETOrd:Env:= {mkE BTOrd qa8 29 with xl:=lk none [(0,some [2,3])]}
def xby5(o:LI)(k:LC):OO:=cond (xbuu k) (let r1:=(itV k).1;let r2:=(itV k).2;cond (qkj o) (cond (rows4 r1.length r1) (let r3:=thV r1;cond (r2) (cond (decide ((0:Int)<(r1.length:Int))) (let r4:=qhf o;zR [.cl (.agg [.sli .u32 o,.slg 3 r3]),zvb r4] []) (zR [.cl (.agg [.sli .u32 o,.slg 3 r3]),zvb false] [])) (zR [.cl (.agg [.sli .u32 o,.slg 3 r3]),zvb false] [])) none) none) none
def ETNd:Env:= {mkE BTNd qa8 20 with xl:=lk none [(0,some [2,3])]}
def gTNd(o:LI)(k:LC):OO:=cond (idOk o) (let r1:=(qcr 6 (qal o)).1;let r2:=(qcr 6 (qal o)).2.1;let r3:=qk3;let r4:=(qcr 6 (qal o)).2.2;cond (qfu ([.agg [.int .i64 r1,.sli .u8 r2,.slg 3 r3],.agg [.int .i64 49,.sli .u8 [],.slg 3 k]])) (let r5:=qbe;zR [.cl (.agg [.int .i64 48,.sli .u8 r5,.slg 3 ([.agg [.int .i64 r1,.sli .u8 r2,.slg 3 r3],.agg [.int .i64 49,.sli .u8 [],.slg 3 k]])]),zvb (decide (r4=0))] []) none) none
def xbfq(again:Nat->LC->Int->Int->LC->OO)(k0:OO)(k1:Nat->LC->OO)(v1:Nat)(v2:LC)(v3 v4:Int)(v5:LC):OO:=cond (decide (v4<v3)) (getK v2 v4 fun e1=>let e2:=(cell1 e1).headD .nili;let e3:=(cell1 e1).tail.headD .nili;cond (qbl .u32 e2&&(qcj 3 e3&&true)) (let l4:=qbb e2;let l5:=qca e3;cond (at1Ok l4 l5) (let r6:=qbe;let r7:=qr5 l4 l5;let r8:=xbox l4;cond (isS [.int .i64 48,.sli .u8 r6,.slg 3 r7]) (let r9:=(qa0 [.int .i64 48,.sli .u8 r6,.slg 3 r7]).1;let r10:=(qa0 [.int .i64 48,.sli .u8 r6,.slg 3 r7]).2;cond (!r8) (k0) (cond (!decide (r10=0)) (k0) (let l11:=v5++([.agg [.sli .u32 l4,.slg 3 l5,.sli .u8 r9]]);rmK l11.length 72<| let x12:=IntKind.i64.wrap (v4+1);again l11.length v2 v3 x12 l11))) none) none) none) (k1 v1 v5)
def qvl(k0:OO)(k1:Nat->LC->OO):Nat->Nat->LC->Int->Int->LC->OO:=qdl (fun a=>xbfq a k0 k1) (fun _ _ _ _ _=>none)
def q8c:St->(KT)->OO:=fun σ k=>match σ with|⟨[(q1,.cl (.fn (.func q2) [] [])),(q3,.ref q4 q5 v1 true q6),(q7,.cl (.slg q8 v2)),(q9,.cl (.int .i64 v3)),(q10,.cl (.int .i64 v4))],[(q11,⟨.gen q12 v5,false⟩)]⟩=>cond (eqL [q1,q2,q3,q4,q5,q6,q7,q8,q9,q10,q11,q12] [1,32,6,79,0,3,16,2,17,18,79,3]) (shut (qvl (k .ret ⟨[(4,.ref 68 0 0 true 3),(5,zvb false)],[(68,⟨.gen 3 [],false⟩)]⟩) (fun y1 y2=>k (.exit 0) ⟨[(6,.ref 79 0 y1 true 3)],[(79,⟨.gen 3 y2,false⟩)]⟩) FUEL) v1 v2 v3 v4 v5) none|_=>none
def xbyo:Env:= {mkE xbvc qa8 49 with byref:=lk [] [(61,[0])],live:=lk [] [(3,[1,6,16,17,18])],ren:=lk [] [(3,[(108,79)])],lp:=lk none [(3,some q8c)],xl:=lk none [(0,some [4,5]),(1,some [6])]}
theorem q8d:LpT Tryz.prog (xbyo) Tryz.f31 0 3 q8c:=by
 intro σ k r h;unfold q8c at h;split at h
 ·obtain⟨hc,j⟩:=qaa h;cases qa3 hc;rw[qab] at j;apply it5 j
  ·intro n;kernel_rfl
  ·rfl
 ·cases h
def xby2(l:LC):OO:=cond (decide ((0:Int)<=(l.length:Int))) (cond (decide ((l.length:Int)*72<=LIM)) (cond (decide ((l.length:Int)<=LIM)) (shut (qvl (zR [.cl (.slg 3 []),zvb false] []) (fun y1 y2=>cond (rows3 y1 y2) (let r3:=srt3 y2;zR [zvg r3,zvb true] []) none) FUEL) 0 l (l.length:Int) 0 []) none) none) none
def xbfo(again:LC->Int->Int->Int->Nat->LC->OO)(k0:Int->Nat->LC->OO)(v1:LC)(v2 v3 v4:Int)(v5:Nat)(v6:LC):OO:=cond (decide (v3<v2)) (getK v1 v3 fun e1=>let e2:=(cell1 e1).headD .nili;let e3:=(cell1 e1).tail.headD .nili;cond (qbl .u32 e2&&(qcj 3 e3&&true)) (let l4:=qbb e2;let l5:=qca e3;cond (at1Ok l4 l5) (let r6:=qbe;let r7:=qr5 l4 l5;let l9:=v6++([.agg [.int .i64 48,.sli .u8 r6,.slg 3 r7]]);rmK l9.length 56<| let x10:=IntKind.i64.wrap (v3+1);again v1 v2 x10 v4 l9.length l9) none) none) (k0 v4 v5 v6)
def qvi(k0:Int->Nat->LC->OO):Nat->LC->Int->Int->Int->Nat->LC->OO:=qdl (fun a=>xbfo a k0) (fun _ _ _ _ _ _=>none)
def q76:St->(KT)->OO:=fun σ k=>match σ with|⟨[(q1,.ptr q2 q3 q4),(q5,.ptr q6 q7 q8),(q9,.cl (.slg q10 v1)),(q11,.cl (.int .i64 v2)),(q12,.cl (.int .i64 v3))],[(q13,⟨.var [.cl (.int .i64 q14),.nils,.nils],false⟩),(q15,⟨.var [.cl (.int .i64 v4),.nils,.ref q16 q17 v5 true q18],false⟩),(q19,⟨.gen q20 v6,false⟩)]⟩=>cond (eqL [q1,q2,q3,q4,q5,q6,q7,q8,q9,q10,q11,q12,q13,q15,q16,q17,q18,q19,q20] [4,68,0,0,5,69,0,0,12,2,13,14,68,69,91,0,3,91,3]&&decide (q14=0)) (shut (qvi (fun y1 y2 y3=>k (.exit 0) ⟨[(4,.ptr 68 0 0),(5,.ptr 69 0 0)],[(68,⟨.var [zvi 0,.nils,.nils],false⟩),(69,⟨.var [zvi y1,.nils,.ref 91 0 y2 true 3],false⟩),(91,⟨.gen 3 y3,false⟩)]⟩) FUEL) v1 v2 v3 v4 v5 v6) none|_=>none
def ETBox:Env:= {mkE BTBox qa8 31 with live:=lk [] [(3,[4,5,12,13,14])],vir:=lk [] [(3,[(69,2,91,.gen 3 [])])],lp:=lk none [(3,some q76)],xl:=lk none [(0,some [4]),(1,some [4,5])]}
theorem q77:LpT Tryz.prog (ETBox) Tryz.f34 0 3 q76:=by
 intro σ k r h;unfold q76 at h;split at h
 ·obtain⟨hc,j⟩:=qaa h;simp only[zab,qen,decide_eq_true_eq,zao] at hc;obtain⟨hc,rfl⟩:=hc;cases qa3 hc;rw[qab] at j;apply it6 j
  ·intro n;kernel_rfl
  ·rfl
 ·cases h
def xby0(l:LC)(g:Int):OO:=shut (qvi (fun y1 y2 y3=>zR [.cl (.agg [.int .i64 y1,.sli .u8 [],.slg 3 y3])] []) FUEL) l (l.length:Int) 0 g 0 []
def xba9(again:Nat->LC->Int->Int->LC->OO)(k0:OO)(k1:Nat->LC->OO)(v1:Nat)(v2:LC)(v3 v4:Int)(v5:LC):OO:=cond (decide (v4<v3)) (getK v2 v4 fun e2=>let e3:=(cell1 e2).headD .nili;let e4:=(cell1 e2).tail.headD .nili;cond (qbl .u32 e3&&(qcj 3 e4&&true)) (let l5:=qbb e3;let l6:=qca e4;cond (at1Ok l5 l6) (let r7:=ordV l6;let r8:=xbm2 l5 l6;cond (!r8) (k0) (idxK v4 v1 fun _=>let l9:=v5.set (0+(Int.toNat v4)) (.agg [.sli .u32 l5,.slg 3 r7]);let x10:=IntKind.i64.wrap (v4+1);again v1 v2 v3 x10 l9)) none) none) (k1 v1 v5)
def qvn(k0:OO)(k1:Nat->LC->OO):Nat->Nat->LC->Int->Int->LC->OO:=qdl (fun a=>xba9 a k0 k1) (fun _ _ _ _ _=>none)
def qzm:St->(KT)->OO:=fun σ k=>match σ with|⟨[(q1,.ref q2 q3 v1 true q4),(q5,.cl (.slg q6 v2)),(q7,.cl (.int .i64 v3)),(q8,.cl (.int .i64 v4))],[(q9,⟨.gen q10 v5,false⟩)]⟩=>cond (eqL [q1,q2,q3,q4,q5,q6,q7,q8,q9,q10] [4,89,0,2,26,2,27,28,89,2]) (shut (qvn (k .ret ⟨[(2,.ref 66 0 0 true 2),(3,zvi 1)],[(66,⟨.gen 2 [],false⟩)]⟩) (fun y1 y2=>k (.exit 0) ⟨[(4,.ref 89 0 y1 true 2)],[(89,⟨.gen 2 y2,false⟩)]⟩) FUEL) v1 v2 v3 v4 v5) none|_=>none
def ETMake:Env:= {mkE BTMake qa8 61 with live:=lk [] [(5,[4,26,27,28])],lp:=lk none [(5,some qzm)],xl:=lk none [(0,some [2,3]),(1,some [4])]}
theorem q5u:LpT Tryz.prog (ETMake) Tryz.f8 0 5 qzm:=by
 intro σ k r h;unfold qzm at h;split at h
 ·obtain⟨hc,j⟩:=qaa h;cases qa3 hc;rw[qab] at j;apply it5 j
  ·intro n;kernel_rfl
  ·rfl
 ·cases h
def xbp1(l:LC):OO:=cond (decide ((l.length:Int)<1)) (zR [.cl (.slg 2 []),zvi 1] []) (cond (decide ((20:Int)<(l.length:Int))) (zR [.cl (.slg 2 []),zvi 1] []) (cond (qbh l) (let r1:=twoA l;cond (r1) (zR [.cl (.slg 2 []),zvi 1] []) (cond (decide ((0:Int)<=(l.length:Int))) (cond (decide ((l.length:Int)<=(l.length:Int))) (cond (decide ((l.length:Int)*48<=LIM)) (cond (decide ((l.length:Int)<=LIM)) (shut (qvn (zR [.cl (.slg 2 []),zvi 1] []) (fun y2 y3=>cond (qbh y3) (let r4:=(itA y3).1;let r5:=(itA y3).2;cond (!r5) (zR [.cl (.slg 2 []),zvi 1] []) (cond (rows3 r4.length r4) (let r6:=thA r4;cond (qbh r6) (let r7:=qbe;let r8:=xblc r6;cond (isS [.int .i64 49,.sli .u8 r7,.slg 3 r8]) (let r9:=qou [.int .i64 49,.sli .u8 r7,.slg 3 r8];cond (!r9) (zR [.cl (.slg 2 []),zvi 1] []) (cond (rows3 r4.length r4) (let r10:=thA r4;zR [.cl (.slg 2 r10),zvi 0] []) none)) none) none) none)) none) FUEL) (Int.toNat (l.length:Int)) l (l.length:Int) 0 (List.replicate (Int.toNat (l.length:Int)) (.agg [.sli .u32 [],.slg 3 []]))) none) none) none) none)) none))
def ETSa1:Env:= {mkE BTSa1 qa8 17 with xl:=lk none [(0,some [4])]}
def xby7(o:LI)(k:LC)(p:LI)(q:LC):OO:=cond (qkj o) (let r1:=qa5 o p;cond (r1) (cond (isNs k&&isNs q) (let r2:=qq3 k q;zB r2) none) (zB false)) none
def xbfp(again:LC->LC->Int->Int->OO)(k0:OO)(k1:OO)(v1 v2:LC)(v3 v4:Int):OO:=cond (decide (v4<v3)) (getK v2 v4 fun e1=>let e2:=(cell1 e1).headD .nili;let e3:=(cell1 e1).tail.headD .nili;cond (qbl .u32 e2&&(qcj 3 e3&&true)) (let l4:=qbb e2;let l5:=qca e3;getK v1 v4 fun e6=>let e7:=(cell1 e6).headD .nili;let e8:=(cell1 e6).tail.headD .nili;cond (qbl .u32 e7&&(qcj 3 e8&&true)) (let l9:=qbb e7;let l10:=qca e8;cond (at1Ok l4 l5&&at1Ok l9 l10) (let r11:=qhv [mkA l4 l5] [mkA l9 l10];cond (!r11) (k0) (let x12:=IntKind.i64.wrap (v4+1);again v1 v2 v3 x12)) none) none) none) (k1)
def q1c(k0:OO)(k1:OO):Nat->LC->LC->Int->Int->OO:=qdl (fun a=>xbfp a k0 k1) (fun _ _ _ _=>none)
def q78:St->(KT)->OO:=fun σ k=>match σ with|⟨[(q1,.cl (.slg q2 v1)),(q3,.cl (.fn (.func q4) [] [])),(q5,.cl (.slg q6 v2)),(q7,.cl (.int .i64 v3)),(q8,.cl (.int .i64 v4))],[]⟩=>cond (eqL [q1,q2,q3,q4,q5,q6,q7,q8] [1,2,2,40,15,2,16,17]) (shut (q1c (k .ret ⟨[(6,zvb false)],[]⟩) (k (.exit 0) ⟨[],[]⟩) FUEL) v1 v2 v3 v4) none|_=>none
def xbyn:Env:= {mkE xbvb qa8 32 with live:=lk [] [(4,[1,2,15,16,17])],lp:=lk none [(4,some q78)],xl:=lk none [(0,some [6]),(1,some [])]}
theorem q79:LpT Tryz.prog (xbyn) Tryz.f39 0 4 q78:=by
 intro σ k r h;unfold q78 at h;split at h
 ·obtain⟨hc,j⟩:=qaa h;cases qa3 hc;rw[qab] at j;apply it4 j
  ·intro n;kernel_rfl
  ·rfl
 ·cases h
def xby1(a:LC)(b:LC):OO:=cond (!decide ((a.length:Int)=(b.length:Int))) (zB false) (shut (q1c (zB false) (zB true) FUEL) b a (a.length:Int) 0)
def ETSame:Env:= {mkE BTSame qa8 8 with xl:=lk none [(0,some [4])]}
def xbvz(a:LC)(b:LC):OO:=cond (qbh a&&qbh b) (let r1:=qhv a b;zB r1) none
def ETFit:Env:= {mkE BTFit qa8 17 with xl:=lk none [(0,some [2])]}
def xbzt(l:LC):OO:=cond (qbh l) (let r1:=(qfh l).1;let r2:=(qfh l).2;cond (decide (r2=0)) (cond (qbh l&&qbh r1) (let r3:=qhv l r1;zB r3) none) (zB false)) none
def ETTag:Env:= {mkE BTTag qa8 13 with xl:=lk none [(0,some [2])]}
def xbzv(g:Int):OO:=cond (decide (g=49)) (zB true) (cond (decide ((160:Int)<=g)) (zB (decide (g<=190))) (zB false))
def ETNode:Env:= {mkE BTNode qa8 19 with xl:=lk none [(0,some [4,5])]}
def xbvx(l:LC)(g:Int):OO:=let r1:=q8s g;cond (!r1) (zR [.cl (.agg [.int .i64 0,.sli .u8 [],.slg 3 []]),zvi 4] []) (cond (qbh l) (let r2:=q0o l;cond (!r2) (zR [.cl (.agg [.int .i64 0,.sli .u8 [],.slg 3 []]),zvi 1] []) (cond (qbh l) (let r3:=qbe;let r4:=xblc l;zR [.cl (.agg [.int .i64 g,.sli .u8 r3,.slg 3 r4]),zvi 0] []) none)) none)
def ETAttr:Env:= {mkE BTAttr qa8 43 with xl:=lk none [(0,some [2,3])]}
def xbpy(t:Int)(b:LI)(k:LC):OO:=cond (qfu k) (let r1:=(qmp 48 t b k).1;let r2:=(qmp 48 t b k).2;cond (!decide (r2=0)) (zR [.cl (.agg [.sli .u32 [],.slg 3 []]),zvb false] []) (cond (!decide ((r1.length:Int)=2)) (zR [.cl (.agg [.sli .u32 [],.slg 3 []]),zvb false] []) (cond (decide ((0:Int)<(r1.length:Int))) (Option.bind (r1[0]?) fun(e3:CV)=>let e4:=(cell1 e3).headD .nili;let e5:=(cell1 e3).tail.headD .nili;let e6:=(cell1 e3).tail.tail.headD .nili;cond (qfy .i64 e4&&(qbl .u8 e5&&(qcj 3 e6&&true))) (let i7:=qfi e4;let l8:=qbb e5;let l9:=qca e6;cond (isS [.int .i64 i7,.sli .u8 l8,.slg 3 l9]) (let r10:=(qf2 i7 l8 l9).1;let r11:=(qf2 i7 l8 l9).2;cond (!decide (r11=0)) (zR [.cl (.agg [.sli .u32 [],.slg 3 []]),zvb false] []) (cond (decide ((1:Int)<(r1.length:Int))) (Option.bind (r1[1]?) fun(e12:CV)=>let e13:=(cell1 e12).headD .nili;let e14:=(cell1 e12).tail.headD .nili;let e15:=(cell1 e12).tail.tail.headD .nili;cond (qfy .i64 e13&&(qbl .u8 e14&&(qcj 3 e15&&true))) (let i16:=qfi e13;let l17:=qbb e14;let l18:=qca e15;cond (qfu l18) (let r19:=(qmp 49 i16 l17 l18).1;let r20:=(qmp 49 i16 l17 l18).2;zR [.cl (.agg [.sli .u32 r10,.slg 3 r19]),zvb (decide (r20=0))] []) none) none) none)) none) none) none))) none
def xbba(again:Nat->LC->Int->Int->Int->LI->LC->LC->OO)(k0:OO)(k1:Nat->Int->LI->LC->LC->OO)(v1:Nat)(v2:LC)(v3 v4 v5:Int)(v6:LI)(v7 v8:LC):OO:=cond (decide (v4<v3)) (getK v2 v4 fun e2=>let e3:=(cell1 e2).headD .nili;let e4:=(cell1 e2).tail.headD .nili;let e5:=(cell1 e2).tail.tail.headD .nili;cond (qfy .i64 e3&&(qbl .u8 e4&&(qcj 3 e5&&true))) (let i6:=qfi e3;let l7:=qbb e4;let l8:=qca e5;cond (isS [.int .i64 i6,.sli .u8 l7,.slg 3 l8]) (let r9:=(qka i6 l7 l8).1;let r10:=(qka i6 l7 l8).2.1;let r11:=(qka i6 l7 l8).2.2;cond (!r11) (k0) (let l12:=v8++([.agg [.sli .u32 r9,.slg 3 r10]]);rmK l12.length 48<| let x13:=IntKind.i64.wrap (v4+1);again l12.length v2 v3 x13 v5 v6 v7 l12)) none) none) (k1 v1 v5 v6 v7 v8)
def qpb(k0:OO)(k1:Nat->Int->LI->LC->LC->OO):Nat->Nat->LC->Int->Int->Int->LI->LC->LC->OO:=qdl (fun a=>xbba a k0 k1) (fun _ _ _ _ _ _ _ _=>none)
def qzn:St->(KT)->OO:=fun σ k=>match σ with|⟨[(q1,.ptr q2 q3 q4),(q5,.ref q6 q7 v1 true q8),(q9,.cl (.slg q10 v2)),(q11,.cl (.int .i64 v3)),(q12,.cl (.int .i64 v4))],[(q13,⟨.var [.cl (.int .i64 v5),.cl (.sli .u8 v6),.cl (.slg q14 v7)],false⟩),(q15,⟨.gen q16 v8,false⟩)]⟩=>cond (eqL [q1,q2,q3,q4,q5,q6,q7,q8,q9,q10,q11,q12,q13,q14,q15,q16] [2,66,0,0,6,70,0,2,21,3,22,23,66,3,70,2]) (shut (qpb (k .ret ⟨[(4,.ref 68 0 0 true 2),(5,zvi 1)],[(68,⟨.gen 2 [],false⟩)]⟩) (fun y1 y2 y3 y4 y5=>k (.exit 0) ⟨[(2,.ptr 66 0 0),(6,.ref 70 0 y1 true 2)],[(66,⟨.var [zvi y2,zvl y3,zvg y4],false⟩),(70,⟨.gen 2 y5,false⟩)]⟩) FUEL) v1 v2 v3 v4 v5 v6 v7 v8) none|_=>none
def ETRead:Env:= {mkE BTRead qa8 49 with live:=lk [] [(5,[2,6,21,22,23])],ren:=lk [] [(5,[(101,70)])],lp:=lk none [(5,some qzn)],xl:=lk none [(0,some [4,5]),(1,some [2,6])]}
theorem q5v:LpT Tryz.prog (ETRead) Tryz.f17 0 5 qzn:=by
 intro σ k r h;unfold qzn at h;split at h
 ·obtain⟨hc,j⟩:=qaa h;cases qa3 hc;rw[qab] at j;apply it8 j
  ·intro n;kernel_rfl
  ·rfl
 ·cases h
def xbp3(t:Int)(b:LI)(k:LC)(g:Int):OO:=let r1:=q8s g;cond (!r1) (zR [.cl (.slg 2 []),zvi 4] []) (cond (!decide (t=g)) (zR [.cl (.slg 2 []),zvi 4] []) (shut (qpb (zR [.cl (.slg 2 []),zvi 1] []) (fun y2 y3 y4 y5 y6=>cond (decide ((0:Int)<(y4.length:Int))) (zR [.cl (.slg 2 []),zvi 1] []) (cond (qbh y6) (let r7:=q0o y6;cond (!r7) (zR [.cl (.slg 2 []),zvi 1] []) (zR [.cl (.slg 2 y6),zvi 0] [])) none)) FUEL) 0 k (k.length:Int) 0 t b k []))
def ETOne:Env:= {mkE BTOne qa8 34 with byref:=lk [] [(48,[1]),(49,[1])],xl:=lk none [(0,some [4,5])]}
def xby4(l:LC)(o:LI):OO:=cond (qbh l) (let r1:=q0o l;cond (!r1) (zR [.cl (.agg [.int .i64 0,.sli .u8 [],.slg 3 []]),zvi 1] []) (cond (qbh l) (let r2:=idxA o l;cond (decide (r2<0)) (zR [.cl (.agg [.int .i64 0,.sli .u8 [],.slg 3 []]),zvi 18] []) (getK l r2 fun e3=>let e4:=(cell1 e3).getD 1 .nili;cond (qcj 3 e4) (let l5:=qca e4;cond (decide ((1:Int)<(l5.length:Int))) (zR [.cl (.agg [.int .i64 0,.sli .u8 [],.slg 3 []]),zvi 24] []) (getK l r2 fun e6=>let e7:=(cell1 e6).getD 1 .nili;cond (qcj 3 e7) (let l8:=qca e7;cond (decide ((0:Int)<(l8.length:Int))) (Option.bind (l8[0]?) fun(e9:CV)=>let e10:=(cell1 e9).headD .nili;let e11:=(cell1 e9).tail.headD .nili;let e12:=(cell1 e9).tail.tail.headD .nili;cond (qfy .i64 e10&&(qbl .u8 e11&&(qcj 3 e12&&true))) (let i13:=qfi e10;let l14:=qbb e11;let l15:=qca e12;zR [.cl (.agg [.int .i64 i13,.sli .u8 l14,.slg 3 l15]),zvi 0] []) none) none) none)) none)) none)) none
def ETText:Env:= {mkE BTText qa8 18 with xl:=lk none [(0,some [2,3])]}
def xbv0(l:LC):OO:=cond (qbh l) (let r1:=(qbx l 49).1;let r2:=qbe;let r3:=(qbx l 49).2.1;let r4:=(qbx l 49).2.2;cond (!decide (r4=0)) (zR [.cl (.sli .u8 []),zvi r4] []) (cond (isS [.int .i64 r1,.sli .u8 r2,.slg 3 r3]) (let r5:=(qa0 [.int .i64 r1,.sli .u8 r2,.slg 3 r3]).1;let r6:=(qa0 [.int .i64 r1,.sli .u8 r2,.slg 3 r3]).2;zR [zvl r5,zvi r6] []) none)) none
def EUNd:Env:= {mkE BUNd qa8 35 with xl:=lk none [(0,some [2,3])]}
def gUNd(o:LI)(k:LC):OO:=cond (idOk o) (let r1:=(qcr 6 (qal o)).1;let r2:=(qcr 6 (qal o)).2.1;let r3:=qk3;let r4:=(qcr 6 (qal o)).2.2;cond (!decide (r4=0)) (zR [.cl (.agg [.int .i64 0,.sli .u8 [],.slg 3 []]),zvi 1] []) (cond (decide ((k.length:Int)=0)) (zR [.cl (.agg [.int .i64 0,.sli .u8 [],.slg 3 []]),zvi 1] []) (cond (xbg2 k) (let r5:=(vSet k).1;let r6:=qbe;let r7:=(vSet k).2.1;let r8:=(vSet k).2.2;cond (!decide (r8=0)) (zR [.cl (.agg [.int .i64 0,.sli .u8 [],.slg 3 []]),zvi 1] []) (cond (qfu ([.agg [.int .i64 r1,.sli .u8 r2,.slg 3 r3],.agg [.int .i64 r5,.sli .u8 r6,.slg 3 r7]])) (let r9:=qbe;zR [.cl (.agg [.int .i64 48,.sli .u8 r9,.slg 3 ([.agg [.int .i64 r1,.sli .u8 r2,.slg 3 r3],.agg [.int .i64 r5,.sli .u8 r6,.slg 3 r7]])]),zvi 0] []) none)) none))) none
def qnr(again:LC->Nat->Int->Int->LC->OO)(k0:OO)(k1:LC->Nat->Int->LC->OO)(v1:LC)(v2:Nat)(v3 v4:Int)(v5:LC):OO:=cond (decide (v4<v3)) (getK v1 v3 fun e1=>let e2:=(cell1 e1).getD 0 .nili;cond (qbl .u32 e2) (let l3:=qbb e2;getK v1 v4 fun e4=>let e5:=(cell1 e4).getD 0 .nili;cond (qbl .u32 e5) (let l6:=qbb e5;cond (qkj l3) (let r7:=qa5 l3 l6;cond (r7) (k0) (let x8:=IntKind.i64.wrap (v4+1);again v1 v2 v3 x8 v5)) none) none) none) (k1 v1 v2 v3 v5)
def qi0(k0:OO)(k1:LC->Nat->Int->LC->OO):Nat->LC->Nat->Int->Int->LC->OO:=qdl (fun a=>qnr a k0 k1) (fun _ _ _ _ _=>none)
def qnq(again:LC->Nat->Int->LC->OO)(k0:OO)(k1:Int->OO)(k2:Nat->LC->OO)(v1:LC)(v2:Nat)(v3:Int)(v4:LC):OO:=cond (decide (v3<(v1.length:Int))) (shut (qi0 (k0) (fun y1 y2 y3 y4=>getK y1 y3 fun e5=>let e6:=(cell1 e5).headD .nili;let e7:=(cell1 e5).tail.headD .nili;cond (qbl .u32 e6&&(qcj 3 e7&&true)) (let l8:=qbb e6;let l9:=qca e7;cond (at1Ok l8 l9) (let r10:=(qpj l8 l9).1;let r11:=qbe;let r12:=(qpj l8 l9).2.1;let r13:=(qpj l8 l9).2.2;cond (!decide (r13=0)) (k1 r13) (let l14:=y4++([.agg [.int .i64 r10,.sli .u8 r11,.slg 3 r12]]);rmK l14.length 56<| let x15:=IntKind.i64.wrap (y3+1);again y1 l14.length x15 l14)) none) none) FUEL) v1 v2 v3 0 v4) (k2 v2 v4)
def qiz(k0:OO)(k1:Int->OO)(k2:Nat->LC->OO):Nat->LC->Nat->Int->LC->OO:=qdl (fun a=>qnq a k0 k1 k2) (fun _ _ _ _=>none)
def qus:St->(KT)->OO:=fun σ k=>match σ with|⟨[(q1,.cl (.slg q2 v1)),(q3,.ptr q4 q5 q6),(q7,.ref q8 q9 v2 true q10),(q11,.cl (.int .i64 v3)),(q12,.cl (.int .i64 v4))],[(q13,⟨.var [.cl (.int .i64 q14),.nils,.nils],false⟩),(q15,⟨.gen q16 v5,false⟩)]⟩=>cond (eqL [q1,q2,q3,q4,q5,q6,q7,q8,q9,q10,q11,q12,q13,q15,q16] [0,2,2,66,0,0,4,68,0,3,5,6,66,68,3]&&decide (q14=0)) (shut (qi0 (k .ret ⟨[(2,.ptr 66 0 0),(3,zvi 1)],[(66,⟨.var [zvi 0,.nils,.nils],false⟩)]⟩) (fun y1 y2 y3 y4=>k (.exit 2) ⟨[(0,.cl (.slg 2 y1)),(2,.ptr 66 0 0),(4,.ref 68 0 y2 true 3),(5,zvi y3)],[(66,⟨.var [zvi 0,.nils,.nils],false⟩),(68,⟨.gen 3 y4,false⟩)]⟩) FUEL) v1 v2 v3 v4 v5) none|_=>none
def qur:St->(KT)->OO:=fun σ k=>match σ with|⟨[(q1,.cl (.slg q2 v1)),(q3,.ptr q4 q5 q6),(q7,.ref q8 q9 v2 true q10),(q11,.cl (.int .i64 v3))],[(q12,⟨.var [.cl (.int .i64 q13),.nils,.nils],false⟩),(q14,⟨.gen q15 v4,false⟩)]⟩=>cond (eqL [q1,q2,q3,q4,q5,q6,q7,q8,q9,q10,q11,q12,q14,q15] [0,2,2,66,0,0,4,68,0,3,5,66,68,3]&&decide (q13=0)) (shut (qiz (k .ret ⟨[(2,.ptr 66 0 0),(3,zvi 1)],[(66,⟨.var [zvi 0,.nils,.nils],false⟩)]⟩) (fun y1=>k .ret ⟨[(2,.ptr 66 0 0),(3,zvi y1)],[(66,⟨.var [zvi 0,.nils,.nils],false⟩)]⟩) (fun y1 y2=>k (.exit 0) ⟨[(2,.ptr 66 0 0),(4,.ref 68 0 y1 true 3)],[(66,⟨.var [zvi 0,.nils,.nils],false⟩),(68,⟨.gen 3 y2,false⟩)]⟩) FUEL) v1 v2 v3 v4) none|_=>none
def EUWhole:Env:= {mkE BUWhole qa8 73 with live:=lk [] [(5,[0,2,4,5]),(8,[0,2,4,5,6])],ren:=lk [] [(5,[(122,68)])],lp:=lk none [(5,some qur),(8,some qus)],xl:=lk none [(0,some [2,3]),(1,some [2,4]),(3,some [0,2,4,5])]}
theorem q0h:LpT Tryz.prog (EUWhole) Tryz.f36 0 8 qus:=by
 intro σ k r h;unfold qus at h;split at h
 ·obtain⟨hc,j⟩:=qaa h;simp only[zab,qen,decide_eq_true_eq,zao] at hc;obtain⟨hc,rfl⟩:=hc;cases qa3 hc;rw[qab] at j;apply it5 j
  ·intro n;kernel_rfl
  ·rfl
 ·cases h
theorem q0g:LpT Tryz.prog (EUWhole) Tryz.f36 1 5 qur:=by
 intro σ k r h;unfold qur at h;split at h
 ·obtain⟨hc,j⟩:=qaa h;simp only[zab,qen,decide_eq_true_eq,zao] at hc;obtain⟨hc,rfl⟩:=hc;cases qa3 hc;rw[qab] at j;apply it4 j
  ·intro n;kernel_rfl
  ·rfl
 ·cases h
def xbio(l:LC):OO:=cond (decide ((l.length:Int)<1)) (zR [.cl (.agg [.int .i64 0,.sli .u8 [],.slg 3 []]),zvi 1] []) (cond (decide ((20:Int)<(l.length:Int))) (zR [.cl (.agg [.int .i64 0,.sli .u8 [],.slg 3 []]),zvi 1] []) (shut (qiz (zR [.cl (.agg [.int .i64 0,.sli .u8 [],.slg 3 []]),zvi 1] []) (fun y1=>zR [.cl (.agg [.int .i64 0,.sli .u8 [],.slg 3 []]),zvi y1] []) (fun y2 y3=>cond (xbg2 y3) (let r4:=(vSet y3).1;let r5:=qbe;let r6:=(vSet y3).2.1;let r7:=(vSet y3).2.2;cond (!decide (r7=0)) (zR [.cl (.agg [.int .i64 0,.sli .u8 [],.slg 3 []]),zvi 1] []) (cond (isS [.int .i64 r4,.sli .u8 r5,.slg 3 r6]) (let r8:=qou [.int .i64 r4,.sli .u8 r5,.slg 3 r6];cond (!r8) (zR [.cl (.agg [.int .i64 0,.sli .u8 [],.slg 3 []]),zvi 1] []) (zR [.cl (.agg [.int .i64 r4,.sli .u8 r5,.slg 3 r6]),zvi 0] [])) none)) none) FUEL) l 0 0 []))
def q68(again:Nat->Int->Int->LI->LC->LC->OO)(k0:Nat->LC->OO)(v1:Nat)(v2 v3:Int)(v4:LI)(v5 v6:LC):OO:=cond (decide (v2<(v5.length:Int))) (getK v5 v2 fun e1=>let e2:=(cell1 e1).getD 2 .nili;cond (qcj 3 e2) (let l3:=qca e2;cond (decide ((0:Int)<(l3.length:Int))) (Option.bind (l3[0]?) fun(e4:CV)=>let e5:=(cell1 e4).headD .nili;let e6:=(cell1 e4).tail.headD .nili;let e7:=(cell1 e4).tail.tail.headD .nili;cond (qfy .i64 e5&&(qbl .u8 e6&&(qcj 3 e7&&true))) (let i8:=qfi e5;let l9:=qbb e6;let l10:=qca e7;cond (isS [.int .i64 i8,.sli .u8 l9,.slg 3 l10]) (let r11:=(qf2 i8 l9 l10).1;getK v5 v2 fun e13=>let e14:=(cell1 e13).getD 2 .nili;cond (qcj 3 e14) (let l15:=qca e14;cond (decide ((1:Int)<(l15.length:Int))) (Option.bind (l15[1]?) fun(e16:CV)=>let e17:=(cell1 e16).getD 2 .nili;cond (qcj 3 e17) (let l18:=qca e17;let l19:=v6++([.agg [.sli .u32 r11,.slg 3 l18]]);rmK l19.length 48<| let x20:=IntKind.i64.wrap (v2+1);again l19.length x20 v3 v4 v5 l19) none) none) none) none) none) none) none) (k0 v1 v6)
def ql8(k0:Nat->LC->OO):Nat->Nat->Int->Int->LI->LC->LC->OO:=qdl (fun a=>q68 a k0) (fun _ _ _ _ _ _=>none)
def qum:St->(KT)->OO:=fun σ k=>match σ with|⟨[(q1,.ptr q2 q3 q4),(q5,.ref q6 q7 v1 true q8),(q9,.cl (.int .i64 v2))],[(q10,⟨.var [.cl (.int .i64 v3),.cl (.sli .u8 v4),.cl (.slg q11 v5)],false⟩),(q12,⟨.gen q13 v6,false⟩)]⟩=>cond (eqL [q1,q2,q3,q4,q5,q6,q7,q8,q9,q10,q11,q12,q13] [1,65,0,0,3,67,0,2,4,65,3,67,2]) (shut (ql8 (fun y1 y2=>k (.exit 0) ⟨[(3,.ref 67 0 y1 true 2)],[(67,⟨.gen 2 y2,false⟩)]⟩) FUEL) v1 v2 v3 v4 v5 v6) none|_=>none
def EUAttrs:Env:= {mkE BUAttrs qa8 41 with live:=lk [] [(3,[1,3,4])],ren:=lk [] [(3,[(103,67)])],lp:=lk none [(3,some qum)],xl:=lk none [(0,some [2]),(1,some [3])]}
theorem q0a:LpT Tryz.prog (EUAttrs) Tryz.f37 0 3 qum:=by
 intro σ k r h;unfold qum at h;split at h
 ·obtain⟨hc,j⟩:=qaa h;cases qa3 hc;rw[qab] at j;apply it6 j
  ·intro n;kernel_rfl
  ·rfl
 ·cases h
def xbil(t:Int)(b:LI)(k:LC):OO:=shut (ql8 (fun y1 y2=>zR [.cl (.slg 2 y2)] []) FUEL) 0 0 t b k []
def EUMake:Env:= {mkE BUMake qa8 16 with xl:=lk none [(0,some [2,3])]}
def xbqb(l:LC):OO:=cond (qbh l) (let r3:=(qki l).2.1;let r4:=(qki l).2.2;cond (!decide (r4=0)) (zR [.cl (.slg 2 []),zvi r4] []) (cond (qqa r3) (let r5:=qyw r3;zR [.cl (.slg 2 r5),zvi 0] []) none)) none
def xbbc(again:LC->LC->Int->OO)(k0:OO)(k1:OO)(v1 v2:LC)(v3:Int):OO:=cond (decide (v3<(v1.length:Int))) (getK v1 v3 fun e1=>let e2:=(cell1 e1).getD 0 .nili;cond (qbl .u32 e2) (let l3:=qbb e2;getK v2 v3 fun e4=>let e5:=(cell1 e4).getD 0 .nili;cond (qbl .u32 e5) (let l6:=qbb e5;cond (qkj l3) (let r7:=qa5 l3 l6;cond (!r7) (k0) (getK v1 v3 fun e8=>let e9:=(cell1 e8).getD 1 .nili;cond (qcj 3 e9) (let l10:=qca e9;cond (qfu l10) (let r11:=qbe;getK v2 v3 fun e12=>let e13:=(cell1 e12).getD 1 .nili;cond (qcj 3 e13) (let l14:=qca e13;cond (qfu l14) (let r15:=qbe;cond (isN [.int .i64 48,.sli .u8 r11,.slg 3 l10]&&isN [.int .i64 48,.sli .u8 r15,.slg 3 l14]) (let r16:=qfw [.int .i64 48,.sli .u8 r11,.slg 3 l10] [.int .i64 48,.sli .u8 r15,.slg 3 l14];cond (!r16) (k0) (let x17:=IntKind.i64.wrap (v3+1);again v1 v2 x17)) none) none) none) none) none)) none) none) none) (k1)
def qvq(k0:OO)(k1:OO):Nat->LC->LC->Int->OO:=qdl (fun a=>xbbc a k0 k1) (fun _ _ _=>none)
def q0c:St->(KT)->OO:=fun σ k=>match σ with|⟨[(q1,.cl (.slg q2 v1)),(q3,.cl (.slg q4 v2)),(q5,.cl (.int .i64 v3))],[]⟩=>cond (eqL [q1,q2,q3,q4,q5] [0,2,1,2,5]) (shut (qvq (k .ret ⟨[(4,zvb false)],[]⟩) (k (.exit 0) ⟨[],[]⟩) FUEL) v1 v2 v3) none|_=>none
def EUSame:Env:= {mkE BUSame qa8 45 with live:=lk [] [(4,[0,1,5])],lp:=lk none [(4,some q0c)],xl:=lk none [(0,some [4]),(1,some [])]}
theorem q59:LpT Tryz.prog (EUSame) Tryz.f12 0 4 q0c:=by
 intro σ k r h;unfold q0c at h;split at h
 ·obtain⟨hc,j⟩:=qaa h;cases qa3 hc;rw[qab] at j;apply it3 j
  ·intro n;kernel_rfl
  ·rfl
 ·cases h
def xbqd(a:LC)(b:LC):OO:=cond (!decide ((a.length:Int)=(b.length:Int))) (zB false) (shut (qvq (zB false) (zB true) FUEL) a b 0)
def EUFit:Env:= {mkE BUFit qa8 17 with xl:=lk none [(0,some [2])]}
def xbzx(l:LC):OO:=cond (qbh l) (let r1:=(qfh l).1;let r2:=(qfh l).2;cond (decide (r2=0)) (cond (qbh l&&qbh r1) (let r3:=qhv l r1;zB r3) none) (zB false)) none
def EUTag:Env:= {mkE BUTag qa8 13 with xl:=lk none [(0,some [2])]}
def xbzy(g:Int):OO:=cond (decide (g=49)) (zB true) (cond (decide ((160:Int)<=g)) (zB (decide (g<=190))) (zB false))
def EUNode:Env:= {mkE BUNode qa8 24 with xl:=lk none [(0,some [4,5])]}
def xbv1(l:LC)(g:Int):OO:=let r1:=q8s g;cond (!r1) (zR [.cl (.agg [.int .i64 0,.sli .u8 [],.slg 3 []]),zvi 4] []) (cond (qbh l) (let r2:=q0o l;cond (!r2) (zR [.cl (.agg [.int .i64 0,.sli .u8 [],.slg 3 []]),zvi 1] []) (cond (qbh l) (let r4:=qbe;let r5:=(qki l).2.1;zR [.cl (.agg [.int .i64 g,.sli .u8 r4,.slg 3 r5]),zvi 0] []) none)) none)
def xbbb(again:Int->Int->LI->LC->OO)(k0:OO)(k1:OO)(v1 v2:Int)(v3:LI)(v4:LC):OO:=cond (decide (v1<(v4.length:Int))) (getK v4 v1 fun e1=>let e2:=(cell1 e1).headD .nili;let e3:=(cell1 e1).tail.headD .nili;let e4:=(cell1 e1).tail.tail.headD .nili;cond (qfy .i64 e2&&(qbl .u8 e3&&(qcj 3 e4&&true))) (let l7:=qca e4;cond (!decide ((l7.length:Int)=2)) (k0) (cond (decide ((0:Int)<(l7.length:Int))) (Option.bind (l7[0]?) fun(e8:CV)=>let e9:=(cell1 e8).headD .nili;let e10:=(cell1 e8).tail.headD .nili;let e11:=(cell1 e8).tail.tail.headD .nili;cond (qfy .i64 e9&&(qbl .u8 e10&&(qcj 3 e11&&true))) (let i12:=qfi e9;let l13:=qbb e10;let l14:=qca e11;cond (isS [.int .i64 i12,.sli .u8 l13,.slg 3 l14]) (let r16:=(qf2 i12 l13 l14).2;cond (!decide (r16=0)) (k0) (let x17:=IntKind.i64.wrap (v1+1);again x17 v2 v3 v4)) none) none) none)) none) (k1)
def qvo(k0:OO)(k1:OO):Nat->Int->Int->LI->LC->OO:=qdl (fun a=>xbbb a k0 k1) (fun _ _ _ _=>none)
def q0b:St->(KT)->OO:=fun σ k=>match σ with|⟨[(q1,.ptr q2 q3 q4),(q5,.cl (.int .i64 v1))],[(q6,⟨.var [.cl (.int .i64 v2),.cl (.sli .u8 v3),.cl (.slg q7 v4)],false⟩)]⟩=>cond (eqL [q1,q2,q3,q4,q5,q6,q7] [1,65,0,0,3,65,3]) (shut (qvo (k .ret ⟨[(2,zvb false)],[]⟩) (k (.exit 0) ⟨[],[]⟩) FUEL) v1 v2 v3 v4) none|_=>none
def EUForm:Env:= {mkE BUForm qa8 33 with live:=lk [] [(2,[1,3])],lp:=lk none [(2,some q0b)],xl:=lk none [(0,some [2]),(1,some [])]}
theorem q58:LpT Tryz.prog (EUForm) Tryz.f47 0 2 q0b:=by
 intro σ k r h;unfold q0b at h;split at h
 ·obtain⟨hc,j⟩:=qaa h;cases qa3 hc;rw[qab] at j;apply it4 j
  ·intro n;kernel_rfl
  ·rfl
 ·cases h
def xbqa(t:Int)(b:LI)(k:LC):OO:=shut (qvo (zB false) (zB true) FUEL) 0 t b k
def EURead:Env:= {mkE BURead qa8 38 with xl:=lk none [(0,some [4,5])]}
def xbqc(t:Int)(b:LI)(k:LC)(g:Int):OO:=let r1:=q8s g;cond (!r1) (zR [.cl (.slg 2 []),zvi 4] []) (cond (!decide (t=g)) (zR [.cl (.slg 2 []),zvi 4] []) (cond (isS [.int .i64 t,.sli .u8 b,.slg 3 k]) (let r2:=xbu8 k;cond (!r2) (zR [.cl (.slg 2 []),zvi 1] []) (cond (qqa k) (let r3:=qyw k;cond (qbh r3) (let r4:=(qbx r3 g).1;let r5:=qbe;let r6:=(qbx r3 g).2.1;let r7:=(qbx r3 g).2.2;cond (!decide (r7=0)) (zR [.cl (.slg 2 []),zvi 1] []) (cond (isN [.int .i64 r4,.sli .u8 r5,.slg 3 r6]&&isN [.int .i64 t,.sli .u8 b,.slg 3 k]) (let r8:=qfw [.int .i64 r4,.sli .u8 r5,.slg 3 r6] [.int .i64 t,.sli .u8 b,.slg 3 k];cond (!r8) (zR [.cl (.slg 2 []),zvi 1] []) (zR [.cl (.slg 2 r3),zvi 0] [])) none)) none) none)) none))
end
end Go.Proofs.YtoiikagnjcjccaaGreatDoorA
