/-
 What the reading of slices.Concat[[]byte,byte] comes to, printed by a program. Conditions: none.
-/
import Derived.Test.YtoaakappnhemiaaGreatDoorT1
set_option linter.unusedVariables false
set_option linter.unusedSimpArgs false
set_option maxRecDepth 100000
namespace Go.Proofs.YtoaakappnhemiaaGreatDoorA
noncomputable section
def qh9 (again:LC->Int->LC->Int->Int->OO) (k0:ByteArray->LC->Int->LI->LC->Int->Int->LC->Nat->LI->Int->LI->Int->Int->Int->ByteArray->OO) (k1:LC->Int->LC->Int->Int->OO) (v1:LC) (v2:Int) (v3:LC) (v4 v5:Int):OO:=cond (decide (v5<v4)) (cond (decide ((0:Int)<=v5)) (cond (decide (v5<(v3.length:Int))) (Option.bind (v3[(Int.toNat v5)]?) fun(e1:CV)=>let e2:CV:=(cell1 e1).getD 0 .nili;cond (qgi .u8 e2) (let l3:=qb7 e2;let x4:=IntKind.i64.wrap (v2+(l3.length:Int));cond (decide (x4<0)) (k0 (⟨#[108,101,110,32,111,117,116,32,111,102,32,114,97,110,103,101]⟩:ByteArray) v1 x4 l3 v3 v4 v5 v3 (Int.toNat v5) l3 v2 l3 (l3.length:Int) x4 x4 (⟨#[108,101,110,32,111,117,116,32,111,102,32,114,97,110,103,101]⟩:ByteArray)) (let x5:=IntKind.i64.wrap (v5+1);again v1 x4 v3 v4 x5)) none) none) none) (k1 v1 v2 v3 v4 v5)
def qhr (k0:ByteArray->LC->Int->LI->LC->Int->Int->LC->Nat->LI->Int->LI->Int->Int->Int->ByteArray->OO) (k1:LC->Int->LC->Int->Int->OO):Nat->LC->Int->LC->Int->Int->OO|0=>fun _ _ _ _ _=>none|n+1=>qh9 (qhr k0 k1 n) k0 k1
def qgn (again:Nat->LC->Int->Int->LI->OO) (k0:Nat->LC->Int->Int->LI->OO) (v1:Nat) (v2:LC) (v3 v4:Int) (v5:LI):OO:=cond (decide (v4<v3)) (cond (decide ((0:Int)<=v4)) (cond (decide (v4<(v2.length:Int))) (Option.bind (v2[(Int.toNat v4)]?) fun(e23:CV)=>let e24:CV:=(cell1 e23).getD 0 .nili;cond (qgi .u8 e24) (let l25:=qb7 e24;let l26:=v5++l25;cond (Nat.ble (l26.length*1) LIMN) (cond (Nat.ble l26.length LIMN) (let x27:=IntKind.i64.wrap (v4+1);again l26.length v2 v3 x27 l26) none) none) none) none) none) (k0 v1 v2 v3 v4 v5)
def qge (k0:Nat->LC->Int->Int->LI->OO):Nat->Nat->LC->Int->Int->LI->OO|0=>fun _ _ _ _ _=>none|n+1=>qgn (qge k0 n) k0
def qqs:St->(KT)->OO:=fun σ k=>match σ with|⟨[(q1,.cl (.slg q2 v1)),(q3,.cl (.int .i64 v2)),(q4,.cl (.slg q5 v3)),(q6,.cl (.int .i64 v4)),(q7,.cl (.int .i64 v5))],[]⟩=>cond (eqL [q1,q2,q3,q4,q5,q6,q7] [0,1,3,9,1,10,11]) (shut (qhr (fun y1 y2 y3 y4 y5 y6 y7 y8 y9 y10 y11 y12 y13 y14 y15 y16=>k (.pan (.iface 9 (.str y1))) ⟨[(0,.cl (.slg 1 y2)),(3,.cl (.int .i64 y3)),(5,.cl (.sli .u8 y4)),(9,.cl (.slg 1 y5)),(10,.cl (.int .i64 y6)),(11,.cl (.int .i64 y7)),(12,.cl (.bool true)),(13,.cl (.vp (.slg 1 y8) y9 0)),(14,.cl (.sli .u8 y10)),(15,.cl (.int .i64 y11)),(16,.cl (.sli .u8 y12)),(17,.cl (.int .i64 y13)),(18,.cl (.int .i64 y14)),(19,.cl (.int .i64 y15)),(20,.cl (.bool true)),(21,.cl (.iface 9 (.str y16)))],[]⟩) (fun y1 y2 y3 y4 y5=>k (.exit 0) ⟨[(0,.cl (.slg 1 y1)),(3,.cl (.int .i64 y2)),(9,.cl (.slg 1 y3)),(10,.cl (.int .i64 y4)),(11,.cl (.int .i64 y5)),(12,.cl (.bool false))],[]⟩) FUEL) v1 v2 v3 v4 v5) none|_=>none
def qne:St->(KT)->OO:=fun σ k=>match σ with|⟨[(q1,.ref q2 q3 v1 true q4),(q5,.cl (.slg q6 v2)),(q7,.cl (.int .i64 v3)),(q8,.cl (.int .i64 v4))],[(q9,⟨.ints .u8 v5,false⟩)]⟩=>cond (eqL [q1,q2,q3,q4,q5,q6,q7,q8,q9] [6,88,0,1,25,1,26,27,88]) (shut (qge (fun y1 y2 y3 y4 y5=>k (.exit 2) ⟨[(6,.ref 88 0 y1 true 1),(25,.cl (.slg 1 y2)),(26,.cl (.int .i64 y3)),(27,.cl (.int .i64 y4)),(28,.cl (.bool false))],[(88,⟨.ints .u8 y5,false⟩)]⟩) FUEL) v1 v2 v3 v4 v5) none|_=>none
def ESConcat:Env:= {mkE BSConcat qa1 36 with byref:=lk [] [(162,[0])],keep:=lk false [(162,true)],live:=lk [] [(3,[0,3,9,10,11]),(11,[6,25,26,27])],ren:=lk [] [(11,[(97,88)])],lp:=lk none [(3,some qqs),(11,some qne)]}
theorem qz1:LpT Tryz.prog (ESConcat) Tryz.f124 0 3 qqs:=by
 intro σ k r h
 unfold qqs at h
 split at h
 ·obtain⟨hc,j⟩:=qaa h
  cases qbe hc
  rw[qab] at j
  apply jt5 j _ (fun a=>qh9 a _ _)
  ·intro n;rfl
  ·intro n;kernel_rfl
  ·rfl
 ·cases h
theorem qwx:LpT Tryz.prog (ESConcat) Tryz.f124 1 11 qne:=by
 intro σ k r h
 unfold qne at h
 split at h
 ·obtain⟨hc,j⟩:=qaa h
  cases qbe hc
  rw[qab] at j
  apply jt5 j _ (fun a=>qgn a _)
  ·intro n;rfl
  ·intro n;kernel_rfl
  ·rfl
 ·cases h
def q9k (l:LC):OO:=shut (qhr (fun y1 y2 y3 y4 y5 y6 y7 y8 y9 y10 y11 y12 y13 y14 y15 y16=>some (.pan (.iface 9 (.str y1)) [])) (fun y17 y18 y19 y20 y21=>cond (qyj y18) (let r22:=qa0;shut (qge (fun y23 y24 y25 y26 y27=>some (.ret [.cl (.sli .u8 y27)] [])) FUEL) 0 y17 (y17.length:Int) 0 r22) none) FUEL) l 0 l (l.length:Int) 0
abbrev q2u:=Nat->Int->LC->Int->Int->Int->LI->LC->LC->OO
abbrev q9j:=Nat->Int->Int->LI->Bool->LC->Int->Int->Int->LC->Nat->Int->LI->LC->LI->Bool->Int->LI->LC->LI->Bool->LI->Bool->Bool->Int->LI->LC->Int->LI->LC->LC->OO
def qkj (rk:Nat) (again:q2u) (k0:q9j) (k1:q2u) (v1:Nat) (v2:Int) (v3:LC) (v4 v5 v6:Int) (v7:LI) (v8 v9:LC):OO:=cond (decide (v5<v4)) (cond (decide ((0:Int)<=v5)) (cond (decide (v5<(v3.length:Int))) (Option.bind (v3[(Int.toNat v5)]?) fun(e5:CV)=>let e6:CV:=(cell1 e5).headD .nili;let e7:CV:=(cell1 e5).tail.headD .nili;let e8:CV:=(cell1 e5).tail.tail.headD .nili;cond (qh0 .i64 e6&&(qgi .u8 e7&&(qem 3 e8&&true))) (let i9:=qft e6;let l10:=qb7 e7;let l11:=qbm e8;cond (isWr rk [.int .i64 i9,.sli .u8 l10,.slg 3 l11]) (let r12:LI:=(qjx [.int .i64 i9,.sli .u8 l10,.slg 3 l11]).1;let r13:Bool:=(qjx [.int .i64 i9,.sli .u8 l10,.slg 3 l11]).2;cond (!r13) (k0 v1 v2 v5 r12 r13 v3 v4 v5 v5 v3 (Int.toNat v5) i9 l10 l11 r12 r13 i9 l10 l11 r12 r13 r12 r13 r13 v6 v7 v8 i9 l10 l11 v9) (let x14:=IntKind.i64.wrap (v2+(r12.length:Int));cond (decide ((0:Int)<=v5)) (cond (decide (v5<(v1:Int))) (let l15:=v9.set (0+(Int.toNat v5)) (.sli .u8 r12);let x16:=IntKind.i64.wrap (v5+1);again v1 x14 v3 v4 x16 v6 v7 v8 l15) none) none)) none) none) none) none) (k1 v1 v2 v3 v4 v5 v6 v7 v8 v9)
def qjv (rk:Nat) (k0:q9j) (k1:q2u):Nat->Nat->Int->LC->Int->Int->Int->LI->LC->LC->OO|0=>fun _ _ _ _ _ _ _ _ _=>none|n+1=>qkj rk (qjv rk k0 k1 n) k0 k1
def qw2 (rk:Nat):St->(KT)->OO:=fun σ k=>match σ with|⟨[(q1,.ptr q2 q3 q4),(q5,.ref q6 q7 v1 true q8),(q9,.cl (.int .i64 v2)),(q10,.cl (.slg q11 v3)),(q12,.cl (.int .i64 v4)),(q13,.cl (.int .i64 v5))],[(q14,⟨.var [.cl (.int .i64 v6),.cl (.sli .u8 v7),.cl (.slg q15 v8)],false⟩),(q16,⟨.gen q17 v9,false⟩)]⟩=>cond (eqL [q1,q2,q3,q4,q5,q6,q7,q8,q9,q10,q11,q12,q13,q14,q15,q16,q17] [1,65,0,0,4,90,0,1,5,28,3,29,30,65,3,90,1]) (shut (qjv rk (fun y1 y2 y3 y4 y5 y6 y7 y8 y9 y10 y11 y12 y13 y14 y15 y16 y17 y18 y19 y20 y21 y22 y23 y24 y25 y26 y27 y28 y29 y30 y31=>k .ret ⟨[(1,.ptr 65 0 0),(2,.ref 66 0 0 true 1),(3,.cl (.bool false)),(4,.ref 90 0 y1 true 1),(5,.cl (.int .i64 y2)),(6,.cl (.int .i64 y3)),(7,.ptr 71 0 0),(8,.cl (.sli .u8 y4)),(9,.cl (.bool y5)),(28,.cl (.slg 3 y6)),(29,.cl (.int .i64 y7)),(30,.cl (.int .i64 y8)),(31,.cl (.bool true)),(32,.cl (.int .i64 y9)),(33,.cl (.vp (.slg 3 y10) y11 0)),(34,.cl (.agg [.int .i64 y12,.sli .u8 y13,.slg 3 y14])),(35,.tup [.cl (.sli .u8 y15),.cl (.bool y16)]),(36,.cl (.agg [.int .i64 y17,.sli .u8 y18,.slg 3 y19])),(37,.tup [.cl (.sli .u8 y20),.cl (.bool y21)]),(38,.cl (.sli .u8 y22)),(39,.cl (.bool y23)),(40,.cl (.bool y24)),(41,.cl (.bool true))],[(65,⟨.var [.cl (.int .i64 y25),.cl (.sli .u8 y26),.cl (.slg 3 y27)],false⟩),(66,⟨.ints .u8 [],false⟩),(71,⟨.var [.cl (.int .i64 y28),.cl (.sli .u8 y29),.cl (.slg 3 y30)],false⟩),(90,⟨.gen 1 y31,false⟩)]⟩) (fun y1 y2 y3 y4 y5 y6 y7 y8 y9=>k (.exit 0) ⟨[(1,.ptr 65 0 0),(4,.ref 90 0 y1 true 1),(5,.cl (.int .i64 y2)),(28,.cl (.slg 3 y3)),(29,.cl (.int .i64 y4)),(30,.cl (.int .i64 y5)),(31,.cl (.bool false))],[(65,⟨.var [.cl (.int .i64 y6),.cl (.sli .u8 y7),.cl (.slg 3 y8)],false⟩),(90,⟨.gen 1 y9,false⟩)]⟩) FUEL) v1 v2 v3 v4 v5 v6 v7 v8 v9) none|_=>none
def EDWrite (rk:Nat):Env:= {
 orc:=fun g=>cond (Nat.beq g 50) ((kT KDBoxed)) (cond (Nat.beq g 74) SDWrite (cond (Nat.beq g 122) ((kT KDPut)) (cond (Nat.beq g 123) ((kT KOSorted)) (cond (Nat.beq g 124) ((kT KSConcat)) (fun _ _=>Tree.fail)))))
 pre:=fun g=>cond (Nat.beq g 50) ((kP KDBoxed)) (cond (Nat.beq g 74) (qha (rk)) (cond (Nat.beq g 122) ((kP KDPut)) (cond (Nat.beq g 123) ((kP KOSorted)) (cond (Nat.beq g 124) ((kP KSConcat)) (fun _ _=>true)))))
 byref:=fun g=>cond (Nat.beq g 122) ([0]) ([])
 keep:=fun g=>cond (Nat.beq g 122) true (false)
 live:=fun r=>cond (Nat.beq r 6) ([1,4,5,28,29,30]) ([])
 glob:=qa1
 nt:=66
 lp:=fun r=>cond (Nat.beq r 6) (some (qw2 rk)) (none)
}
theorem q1c (rk:Nat):LpT Tryz.prog (EDWrite rk) Tryz.f74 0 6 (qw2 rk):=by
 intro σ k r h
 unfold qw2 at h
 split at h
 ·obtain⟨hc,j⟩:=qaa h
  cases qbe hc
  rw[qab] at j
  apply jt9 j _ (fun a=>qkj rk a _ _)
  ·intro n;rfl
  ·intro n;kernel_rfl
  ·rfl
 ·cases h
theorem q74 (rk:Nat): ∀c,Tryz.f74.body=some c->qbi Tryz.prog (EDWrite rk) 40 c:=lsB (ids:=[(true,6)]) (by kernel_rfl) ⟨⟨_,rfl,q1c rk⟩,trivial⟩
def xbe9 (rk:Nat) (ta:Int) (ba:LI) (ka:LC):OO:=let r1:=qbj ta;cond (!r1) (cond (qk1 ta (ba.length:Int)) (let r3:=qdh ta (ba.length:Int);let l4:=r3++ba;cond (Nat.ble (l4.length*1) LIMN) (cond (Nat.ble l4.length LIMN) (some (.ret [.cl (.sli .u8 l4),.cl (.bool true)] [])) none) none) none) (cond (decide ((0:Int)<=(ka.length:Int))) (cond (decide ((ka.length:Int)<=(ka.length:Int))) (cond (decide ((ka.length:Int)*24<=LIM)) (cond (decide ((ka.length:Int)<=LIM)) (shut (qjv rk (fun y5 y6 y7 y8 y9 y10 y11 y12 y13 y14 y15 y16 y17 y18 y19 y20 y21 y22 y23 y24 y25 y26 y27 y28 y29 y30 y31 y32 y33 y34 y35=>some (.ret [.cl (.sli .u8 []),.cl (.bool false)] [])) (fun y36 y37 y38 y39 y40 y41 y42 y43 y44=>cond (decide (y41=49)) (cond (qhm y44) (let r45:=qbn y44;cond (!r45) (some (.ret [.cl (.sli .u8 []),.cl (.bool false)] [])) (cond (qk1 y41 y37) (let r47:=qdh y41 y37;cond (qnk y44) (let r48:=qdk y44;let l49:=r47++r48;cond (Nat.ble (l49.length*1) LIMN) (cond (Nat.ble l49.length LIMN) (some (.ret [.cl (.sli .u8 l49),.cl (.bool true)] [])) none) none) none) none)) none) (cond (qk1 y41 y37) (let r51:=qdh y41 y37;cond (qnk y44) (let r52:=qdk y44;let l53:=r51++r52;cond (Nat.ble (l53.length*1) LIMN) (cond (Nat.ble l53.length LIMN) (some (.ret [.cl (.sli .u8 l53),.cl (.bool true)] [])) none) none) none) none)) FUEL) (Int.toNat (ka.length:Int)) 0 ka (ka.length:Int) 0 ta ba ka (List.replicate (Int.toNat (ka.length:Int)) (.sli .u8 []))) none) none) none) none)
theorem xbap (rk:Nat) (ta:Int) (ba:LI) (ka:LC):qo1 Tryz.prog (EDWrite rk) 40 false Tryz.f74 [.cl (.agg [.int .i64 ta,.sli .u8 ba,.slg 3 ka])] []=xbe9 rk ta ba ka:=by kernel_rfl
abbrev xbcf:=Int->Nat->Int->Int->LI->Bool->Int->LC->Int->LI->Bool->LC->Int->LC->Nat->Int->LI->LC->Int->Int->LI->Bool->LI->Bool->Int->LI->Int->Int->Bool->Bool->Int->LI->LC->LC->OO
abbrev xbcv:=Int->Nat->Int->Int->LI->Bool->Int->LC->Int->LI->Bool->LC->Int->LC->Nat->Int->LI->LC->Int->Int->LI->Bool->LI->Bool->Int->LI->Int->Int->Bool->Bool->Int->Bool->Int->LI->LC->LC->OO
abbrev xbc4:=Int->Nat->Int->Int->Int->LC->Int->Int->LI->LC->LC->OO
def qih (rk:Nat) (again:Int->Nat->Int->Int->Int->LI->LC->LC->OO) (k0:xbcf) (k1:xbcv) (k2:xbc4) (v1:Int) (v2:Nat) (v3 v4 v5:Int) (v6:LI) (v7 v8:LC):OO:=cond (decide (v4<(v7.length:Int))) (cond (decide ((0:Int)<=v4)) (cond (decide (v4<(v7.length:Int))) (Option.bind (v7[(Int.toNat v4)]?) fun(e7:CV)=>let e8:CV:=(cell1 e7).headD .nili;let e9:CV:=(cell1 e7).tail.headD .nili;let e10:CV:=(cell1 e7).tail.tail.headD .nili;cond (qh0 .i64 e8&&(qgi .u8 e9&&(qem 3 e10&&true))) (let i11:=qft e8;let l12:=qb7 e9;let l13:=qbm e10;let x14:=IntKind.i64.wrap (v1 - 1);cond (isSr rk [.int .i64 i11,.sli .u8 l12,.slg 3 l13]&&qcg x14) (let r15:LI:=(qgg [.int .i64 i11,.sli .u8 l12,.slg 3 l13] x14).1;let r16:Bool:=(qgg [.int .i64 i11,.sli .u8 l12,.slg 3 l13] x14).2;let x17:=IntKind.i64.wrap (v3+(r15.length:Int));cond (!r16) (k0 v1 v2 x17 v4 r15 r16 v4 v7 (v7.length:Int) r15 r16 v7 v4 v7 (Int.toNat v4) i11 l12 l13 v1 x14 r15 r16 r15 r16 v3 r15 (r15.length:Int) x17 r16 (!r16) v5 v6 v7 v8) (cond (decide ((1048576:Int)<x17)) (k1 v1 v2 x17 v4 r15 r16 v4 v7 (v7.length:Int) r15 r16 v7 v4 v7 (Int.toNat v4) i11 l12 l13 v1 x14 r15 r16 r15 r16 v3 r15 (r15.length:Int) x17 r16 (!r16) x17 (decide ((1048576:Int)<x17)) v5 v6 v7 v8) (let l18:=v8++[.sli .u8 r15];cond (Nat.ble (l18.length*24) LIMN) (cond (Nat.ble l18.length LIMN) (let x19:=IntKind.i64.wrap (v4+1);again v1 l18.length x17 x19 v5 v6 v7 l18) none) none))) none) none) none) none) (k2 v1 v2 v3 v4 v4 v7 (v7.length:Int) v5 v6 v7 v8)
def qhj (rk:Nat) (k0:xbcf) (k1:xbcv) (k2:xbc4):Nat->Int->Nat->Int->Int->Int->LI->LC->LC->OO|0=>fun _ _ _ _ _ _ _ _=>none|n+1=>qih rk (qhj rk k0 k1 k2 n) k0 k1 k2
def qsd (rk:Nat):St->(KT)->OO:=fun σ k=>match σ with|⟨[(q1,.cl (.int .i64 v1)),(q2,.ptr q3 q4 q5),(q6,.ref q7 q8 v2 true q9),(q10,.cl (.int .i64 v3)),(q11,.cl (.int .i64 v4))],[(q12,⟨.var [.cl (.int .i64 v5),.cl (.sli .u8 v6),.cl (.slg q13 v7)],false⟩),(q14,⟨.gen q15 v8,false⟩)]⟩=>cond (eqL [q1,q2,q3,q4,q5,q6,q7,q8,q9,q10,q11,q12,q13,q14,q15] [1,2,66,0,0,6,70,0,1,7,8,66,3,70,1]) (shut (qhj rk (fun y1 y2 y3 y4 y5 y6 y7 y8 y9 y10 y11 y12 y13 y14 y15 y16 y17 y18 y19 y20 y21 y22 y23 y24 y25 y26 y27 y28 y29 y30 y31 y32 y33 y34=>k .ret ⟨[(1,.cl (.int .i64 y1)),(2,.ptr 66 0 0),(4,.ref 68 0 0 true 1),(5,.cl (.bool false)),(6,.ref 70 0 y2 true 1),(7,.cl (.int .i64 y3)),(8,.cl (.int .i64 y4)),(9,.cl (.sli .u8 y5)),(10,.cl (.bool y6)),(54,.cl (.int .i64 y7)),(55,.ptr 66 0 2),(56,.cl (.slg 3 y8)),(57,.cl (.int .i64 y9)),(58,.cl (.bool true)),(61,.tup [.cl (.sli .u8 y10),.cl (.bool y11)]),(62,.ptr 66 0 2),(63,.cl (.slg 3 y12)),(64,.cl (.int .i64 y13)),(65,.cl (.vp (.slg 3 y14) y15 0)),(66,.cl (.agg [.int .i64 y16,.sli .u8 y17,.slg 3 y18])),(67,.cl (.int .i64 y19)),(68,.cl (.int .i64 y20)),(69,.tup [.cl (.sli .u8 y21),.cl (.bool y22)]),(70,.cl (.sli .u8 y23)),(71,.cl (.bool y24)),(72,.cl (.int .i64 y25)),(73,.cl (.sli .u8 y26)),(74,.cl (.int .i64 y27)),(75,.cl (.int .i64 y28)),(76,.cl (.bool y29)),(77,.cl (.bool y30)),(78,.cl (.bool true)),(79,.tup []),(80,.tup []),(81,.cl (.bool true))],[(66,⟨.var [.cl (.int .i64 y31),.cl (.sli .u8 y32),.cl (.slg 3 y33)],false⟩),(68,⟨.ints .u8 [],false⟩),(70,⟨.gen 1 y34,false⟩)]⟩) (fun y1 y2 y3 y4 y5 y6 y7 y8 y9 y10 y11 y12 y13 y14 y15 y16 y17 y18 y19 y20 y21 y22 y23 y24 y25 y26 y27 y28 y29 y30 y31 y32 y33 y34 y35 y36=>k .ret ⟨[(1,.cl (.int .i64 y1)),(2,.ptr 66 0 0),(4,.ref 68 0 0 true 1),(5,.cl (.bool false)),(6,.ref 70 0 y2 true 1),(7,.cl (.int .i64 y3)),(8,.cl (.int .i64 y4)),(9,.cl (.sli .u8 y5)),(10,.cl (.bool y6)),(54,.cl (.int .i64 y7)),(55,.ptr 66 0 2),(56,.cl (.slg 3 y8)),(57,.cl (.int .i64 y9)),(58,.cl (.bool true)),(61,.tup [.cl (.sli .u8 y10),.cl (.bool y11)]),(62,.ptr 66 0 2),(63,.cl (.slg 3 y12)),(64,.cl (.int .i64 y13)),(65,.cl (.vp (.slg 3 y14) y15 0)),(66,.cl (.agg [.int .i64 y16,.sli .u8 y17,.slg 3 y18])),(67,.cl (.int .i64 y19)),(68,.cl (.int .i64 y20)),(69,.tup [.cl (.sli .u8 y21),.cl (.bool y22)]),(70,.cl (.sli .u8 y23)),(71,.cl (.bool y24)),(72,.cl (.int .i64 y25)),(73,.cl (.sli .u8 y26)),(74,.cl (.int .i64 y27)),(75,.cl (.int .i64 y28)),(76,.cl (.bool y29)),(77,.cl (.bool y30)),(78,.cl (.bool false)),(79,.cl (.int .i64 y31)),(80,.cl (.bool y32)),(81,.cl (.bool true))],[(66,⟨.var [.cl (.int .i64 y33),.cl (.sli .u8 y34),.cl (.slg 3 y35)],false⟩),(68,⟨.ints .u8 [],false⟩),(70,⟨.gen 1 y36,false⟩)]⟩) (fun y1 y2 y3 y4 y5 y6 y7 y8 y9 y10 y11=>k (.exit 0) ⟨[(1,.cl (.int .i64 y1)),(2,.ptr 66 0 0),(6,.ref 70 0 y2 true 1),(7,.cl (.int .i64 y3)),(8,.cl (.int .i64 y4)),(54,.cl (.int .i64 y5)),(55,.ptr 66 0 2),(56,.cl (.slg 3 y6)),(57,.cl (.int .i64 y7)),(58,.cl (.bool false))],[(66,⟨.var [.cl (.int .i64 y8),.cl (.sli .u8 y9),.cl (.slg 3 y10)],false⟩),(70,⟨.gen 1 y11,false⟩)]⟩) FUEL) v1 v2 v3 v4 v5 v6 v7 v8) none|_=>none
def ERWrite (rk:Nat):Env:= {
 orc:=fun g=>cond (Nat.beq g 77) SRWrite (cond (Nat.beq g 101) ((kT KRTagged)) (cond (Nat.beq g 103) ((kT KRBoxed)) (cond (Nat.beq g 104) ((kT KRFits)) (cond (Nat.beq g 105) ((kT KR4Sorted)) (cond (Nat.beq g 128) ((kT KRHead)) (cond (Nat.beq g 129) ((kT KR1Join)) (fun _ _=>Tree.fail)))))))
 pre:=fun g=>cond (Nat.beq g 77) (qhc (rk)) (cond (Nat.beq g 101) ((kP KRTagged)) (cond (Nat.beq g 103) ((kP KRBoxed)) (cond (Nat.beq g 104) ((kP KRFits)) (cond (Nat.beq g 105) ((kP KR4Sorted)) (cond (Nat.beq g 128) ((kP KRHead)) (cond (Nat.beq g 129) ((kP KR1Join)) (fun _ _=>true)))))))
 keep:=fun g=>cond (Nat.beq g 128) true (false)
 live:=fun r=>cond (Nat.beq r 12) ([1,2,6,7,8]) ([])
 ren:=fun r=>cond (Nat.beq r 12) ([(149,70)]) ([])
 glob:=qa1
 nt:=101
 lp:=fun r=>cond (Nat.beq r 12) (some (qsd rk)) (none)
}
theorem qyg (rk:Nat):LpT Tryz.prog (ERWrite rk) Tryz.f77 0 12 (qsd rk):=by
 intro σ k r h
 unfold qsd at h
 split at h
 ·obtain⟨hc,j⟩:=qaa h
  cases qbe hc
  rw[qab] at j
  apply jt8 j _ (fun a=>qih rk a _ _ _)
  ·intro n;rfl
  ·intro n;kernel_rfl
  ·rfl
 ·cases h
theorem q7v (rk:Nat): ∀c,Tryz.f77.body=some c->qbi Tryz.prog (ERWrite rk) 40 c:=lsB (ids:=[(true,12)]) (by kernel_rfl) ⟨⟨_,rfl,qyg rk⟩,trivial⟩
def xba8 (rk:Nat) (ta:Int) (ba:LI) (ka:LC) (deep:Int):OO:=cond (decide (deep=0)) (some (.ret [.cl (.sli .u8 []),.cl (.bool false)] [])) (let r1:=qdt ta;cond (!r1) (some (.ret [.cl (.sli .u8 []),.cl (.bool false)] [])) (let r2:=qbj ta;cond (!r2) (cond (decide ((0:Int)<(ka.length:Int))) (some (.ret [.cl (.sli .u8 []),.cl (.bool false)] [])) (cond (decide ((1048576:Int)<(ba.length:Int))) (some (.ret [.cl (.sli .u8 []),.cl (.bool false)] [])) (cond (qad ba) (let r3:=qcs ta ba;cond (!r3) (some (.ret [.cl (.sli .u8 []),.cl (.bool false)] [])) (cond (qk1 ta (ba.length:Int)) (let r5:=qdh ta (ba.length:Int);let l6:=r5++ba;cond (Nat.ble (l6.length*1) LIMN) (cond (Nat.ble l6.length LIMN) (some (.ret [.cl (.sli .u8 l6),.cl (.bool true)] [])) none) none) none)) none))) (cond (decide ((0:Int)<(ba.length:Int))) (some (.ret [.cl (.sli .u8 []),.cl (.bool false)] [])) (shut (qhj rk (fun y7 y8 y9 y10 y11 y12 y13 y14 y15 y16 y17 y18 y19 y20 y21 y22 y23 y24 y25 y26 y27 y28 y29 y30 y31 y32 y33 y34 y35 y36 y37 y38 y39 y40=>some (.ret [.cl (.sli .u8 []),.cl (.bool false)] [])) (fun y41 y42 y43 y44 y45 y46 y47 y48 y49 y50 y51 y52 y53 y54 y55 y56 y57 y58 y59 y60 y61 y62 y63 y64 y65 y66 y67 y68 y69 y70 y71 y72 y73 y74 y75 y76=>some (.ret [.cl (.sli .u8 []),.cl (.bool false)] [])) (fun y77 y78 y79 y80 y81 y82 y83 y84 y85 y86 y87=>cond (decide (y84=49)) (cond (qhm y87) (let r88:=qbn y87;cond (!r88) (some (.ret [.cl (.sli .u8 []),.cl (.bool false)] [])) (cond (qk1 y84 y79) (let r90:=qdh y84 y79;cond (qnk y87) (let r91:=qdk y87;let l92:=r90++r91;cond (Nat.ble (l92.length*1) LIMN) (cond (Nat.ble l92.length LIMN) (some (.ret [.cl (.sli .u8 l92),.cl (.bool true)] [])) none) none) none) none)) none) (cond (qk1 y84 y79) (let r94:=qdh y84 y79;cond (qnk y87) (let r95:=qdk y87;let l96:=r94++r95;cond (Nat.ble (l96.length*1) LIMN) (cond (Nat.ble l96.length LIMN) (some (.ret [.cl (.sli .u8 l96),.cl (.bool true)] [])) none) none) none) none)) FUEL) deep 0 0 0 ta ba ka []))))
theorem xba5 (rk:Nat) (ta:Int) (ba:LI) (ka:LC) (deep:Int):qo1 Tryz.prog (ERWrite rk) 40 false Tryz.f77 [.cl (.agg [.int .i64 ta,.sli .u8 ba,.slg 3 ka]),.cl (.int .i64 deep)] []=xba8 rk ta ba ka deep:=by kernel_rfl
def EDBytes:Env:= {
 orc:=fun g=>cond (Nat.beq g 73) SDSize (cond (Nat.beq g 74) SDWrite (fun _ _=>Tree.fail))
 pre:=fun g=>cond (Nat.beq g 73) qqm (cond (Nat.beq g 74) qmt (fun _ _=>true))
 glob:=qa1
 nt:=23
}
theorem q64: ∀c,Tryz.f36.body=some c->qbi Tryz.prog (EDBytes) 40 c:=lsB (ids:=[]) (by kernel_rfl) trivial
def q95 (ta:Int) (ba:LI) (ka:LC):OO:=cond (isS [.int .i64 ta,.sli .u8 ba,.slg 3 ka]&&qcg 32) (let r1:=q1s [.int .i64 ta,.sli .u8 ba,.slg 3 ka] 32;cond (decide (r1<0)) (some (.ret [.cl (.sli .u8 []),.cl (.int .i64 1)] [])) (cond (decide ((1048576:Int)<r1)) (some (.ret [.cl (.sli .u8 []),.cl (.int .i64 1)] [])) (cond (isW [.int .i64 ta,.sli .u8 ba,.slg 3 ka]) (let r2:LI:=(qjx [.int .i64 ta,.sli .u8 ba,.slg 3 ka]).1;let r3:Bool:=(qjx [.int .i64 ta,.sli .u8 ba,.slg 3 ka]).2;cond (!r3) (some (.ret [.cl (.sli .u8 []),.cl (.int .i64 1)] [])) (some (.ret [.cl (.sli .u8 r2),.cl (.int .i64 0)] []))) none))) none
theorem q87 (ta:Int) (ba:LI) (ka:LC):qo1 Tryz.prog (EDBytes) 40 false Tryz.f36 [.cl (.agg [.int .i64 ta,.sli .u8 ba,.slg 3 ka])] []=q95 ta ba ka:=by kernel_rfl
def xbnq:Env:= {
 orc:=fun g=>cond (Nat.beq g 36) SDBytes (fun _ _=>Tree.fail)
 pre:=fun g=>cond (Nat.beq g 36) qh7 (fun _ _=>true)
 glob:=qa1
 nt:=12
}
theorem xbcs: ∀c,Tryz.f72.body=some c->qbi Tryz.prog (xbnq) 40 c:=lsB (ids:=[]) (by kernel_rfl) trivial
def xbn7 (ta:Int) (ba:LI) (ka:LC):OO:=cond (isS [.int .i64 ta,.sli .u8 ba,.slg 3 ka]) (let r2:Int:=(qbq [.int .i64 ta,.sli .u8 ba,.slg 3 ka]).2;some (.ret [.cl (.bool (decide (r2=0)))] [])) none
theorem xbgt (ta:Int) (ba:LI) (ka:LC):qo1 Tryz.prog (xbnq) 40 false Tryz.f72 [.cl (.agg [.int .i64 ta,.sli .u8 ba,.slg 3 ka])] []=xbn7 ta ba ka:=by kernel_rfl
def ERBytes:Env:= {
 orc:=fun g=>cond (Nat.beq g 77) SRWrite (fun _ _=>Tree.fail)
 pre:=fun g=>cond (Nat.beq g 77) ql7 (fun _ _=>true)
 glob:=qa1
 nt:=19
}
theorem q7r: ∀c,Tryz.f38.body=some c->qbi Tryz.prog (ERBytes) 40 c:=lsB (ids:=[]) (by kernel_rfl) trivial
def xbcd (ta:Int) (ba:LI) (ka:LC):OO:=cond (isS [.int .i64 ta,.sli .u8 ba,.slg 3 ka]&&qcg 32) (let r1:LI:=(qgg [.int .i64 ta,.sli .u8 ba,.slg 3 ka] 32).1;let r2:Bool:=(qgg [.int .i64 ta,.sli .u8 ba,.slg 3 ka] 32).2;cond (!r2) (some (.ret [.cl (.sli .u8 []),.cl (.int .i64 1)] [])) (cond (decide ((1048576:Int)<(r1.length:Int))) (some (.ret [.cl (.sli .u8 []),.cl (.int .i64 1)] [])) (some (.ret [.cl (.sli .u8 r1),.cl (.int .i64 0)] [])))) none
theorem q8o (ta:Int) (ba:LI) (ka:LC):qo1 Tryz.prog (ERBytes) 40 false Tryz.f38 [.cl (.agg [.int .i64 ta,.sli .u8 ba,.slg 3 ka])] []=xbcd ta ba ka:=by kernel_rfl
def xbpo:Env:= {
 orc:=fun g=>cond (Nat.beq g 38) SRBytes (fun _ _=>Tree.fail)
 pre:=fun g=>cond (Nat.beq g 38) qie (fun _ _=>true)
 glob:=qa1
 nt:=12
}
theorem xbew: ∀c,Tryz.f66.body=some c->qbi Tryz.prog (xbpo) 40 c:=lsB (ids:=[]) (by kernel_rfl) trivial
def xbl6 (ta:Int) (ba:LI) (ka:LC):OO:=cond (isS [.int .i64 ta,.sli .u8 ba,.slg 3 ka]) (let r2:Int:=(qbq [.int .i64 ta,.sli .u8 ba,.slg 3 ka]).2;some (.ret [.cl (.bool (decide (r2=0)))] [])) none
theorem xbip (ta:Int) (ba:LI) (ka:LC):qo1 Tryz.prog (xbpo) 40 false Tryz.f66 [.cl (.agg [.int .i64 ta,.sli .u8 ba,.slg 3 ka])] []=xbl6 ta ba ka:=by kernel_rfl
def xbcj (again:LI->LI->Int->Int->OO) (k0:OO) (k1:OO) (v1 v2:LI) (v3 v4:Int):OO:=cond (decide (v4<v3)) (getK v1 v4 fun e1=>getK v2 v4 fun e2=>cond (!decide (e1=e2)) (k0) (let x3:=IntKind.i64.wrap (v4+1);again v1 v2 v3 x3)) (k1)
def qut (k0:OO) (k1:OO):Nat->LI->LI->Int->Int->OO:=qe3 (fun a=>xbcj a k0 k1) (fun _ _ _ _=>none)
def q1d:St->(KT)->OO:=fun σ k=>match σ with|⟨[(q1,.cl (.sli .u32 v1)),(q2,.cl (.sli .u32 v2)),(q3,.cl (.int .i64 v3)),(q4,.cl (.int .i64 v4))],[]⟩=>cond (eqL [q1,q2,q3,q4] [0,1,12,13]) (shut (qut (k .ret ⟨[(4,.cl (.bool false))],[]⟩) (k (.exit 0) ⟨[],[]⟩) FUEL) v1 v2 v3 v4) none|_=>none
def ESEq32:Env:= {mkE BSEq32 qa1 26 with live:=lk [] [(4,[0,1,12,13])],lp:=lk none [(4,some q1d)],xl:=lk none [(0,some [4]),(1,some [])]}
theorem q8h:LpT Tryz.prog (ESEq32) Tryz.f177 0 4 q1d:=by
 intro σ k r h
 unfold q1d at h
 split at h
 ·obtain⟨hc,j⟩:=qaa h
  cases qbe hc
  rw[qab] at j
  apply it4 j
  ·intro n;kernel_rfl
  ·rfl
 ·cases h
def xbto (a:LI) (b:LI):OO:=cond (!decide ((a.length:Int)=(b.length:Int))) (some (.ret [.cl (.bool false)] [])) (shut (qut (some (.ret [.cl (.bool false)] [])) (some (.ret [.cl (.bool true)] [])) FUEL) a b (a.length:Int) 0)
def EOSame:Env:= {mkE BOSame qa1 8 with xl:=lk none [(0,some [4])]}
def xb0b (a:LI) (b:LI):OO:=cond (qc6 a) (let r1:=qcj a b;some (.ret [.cl (.bool r1)] [])) none
def q04 (k0:Int->Int->Int->Int->Int->OO) (k1:Int->Int->Int->Int->OO) (k2:Int->Int->Int->OO) (k3:Int->Int->OO) (k4:Int->OO) (v1:Int):OO:=let x1:=Int.fdiv v1 (2 ^ 28);cond (!decide (x1=0)) (let x2:=Int.fdiv v1 (2 ^ 28);let x3:=IntKind.u8.wrap x2;let x4:=IntKind.u8.wrap ((BitVec.ofInt 8 x3||| BitVec.ofInt 8 128).toNat);let x5:=Int.fdiv v1 (2 ^ 21);cond (!decide (x5=0)) (let x6:=Int.fdiv v1 (2 ^ 21);let x7:=IntKind.u8.wrap x6;let x8:=IntKind.u8.wrap ((BitVec.ofInt 8 x7||| BitVec.ofInt 8 128).toNat);let x9:=Int.fdiv v1 (2 ^ 14);cond (!decide (x9=0)) (let x10:=Int.fdiv v1 (2 ^ 14);let x11:=IntKind.u8.wrap x10;let x12:=IntKind.u8.wrap ((BitVec.ofInt 8 x11||| BitVec.ofInt 8 128).toNat);let x13:=Int.fdiv v1 (2 ^ 7);cond (!decide (x13=0)) (let x14:=Int.fdiv v1 (2 ^ 7);let x15:=IntKind.u8.wrap x14;let x16:=IntKind.u8.wrap ((BitVec.ofInt 8 x15||| BitVec.ofInt 8 128).toNat);k0 v1 x4 x8 x12 x16) (k1 v1 x4 x8 x12)) (let x17:=Int.fdiv v1 (2 ^ 7);cond (!decide (x17=0)) (let x18:=Int.fdiv v1 (2 ^ 7);let x19:=IntKind.u8.wrap x18;let x20:=IntKind.u8.wrap ((BitVec.ofInt 8 x19||| BitVec.ofInt 8 128).toNat);k1 v1 x4 x8 x20) (k2 v1 x4 x8))) (let x21:=Int.fdiv v1 (2 ^ 14);cond (!decide (x21=0)) (let x22:=Int.fdiv v1 (2 ^ 14);let x23:=IntKind.u8.wrap x22;let x24:=IntKind.u8.wrap ((BitVec.ofInt 8 x23||| BitVec.ofInt 8 128).toNat);let x25:=Int.fdiv v1 (2 ^ 7);cond (!decide (x25=0)) (let x26:=Int.fdiv v1 (2 ^ 7);let x27:=IntKind.u8.wrap x26;let x28:=IntKind.u8.wrap ((BitVec.ofInt 8 x27||| BitVec.ofInt 8 128).toNat);k1 v1 x4 x24 x28) (k2 v1 x4 x24)) (let x29:=Int.fdiv v1 (2 ^ 7);cond (!decide (x29=0)) (let x30:=Int.fdiv v1 (2 ^ 7);let x31:=IntKind.u8.wrap x30;let x32:=IntKind.u8.wrap ((BitVec.ofInt 8 x31||| BitVec.ofInt 8 128).toNat);k2 v1 x4 x32) (k3 v1 x4)))) (let x33:=Int.fdiv v1 (2 ^ 21);cond (!decide (x33=0)) (let x34:=Int.fdiv v1 (2 ^ 21);let x35:=IntKind.u8.wrap x34;let x36:=IntKind.u8.wrap ((BitVec.ofInt 8 x35||| BitVec.ofInt 8 128).toNat);let x37:=Int.fdiv v1 (2 ^ 14);cond (!decide (x37=0)) (let x38:=Int.fdiv v1 (2 ^ 14);let x39:=IntKind.u8.wrap x38;let x40:=IntKind.u8.wrap ((BitVec.ofInt 8 x39||| BitVec.ofInt 8 128).toNat);let x41:=Int.fdiv v1 (2 ^ 7);cond (!decide (x41=0)) (let x42:=Int.fdiv v1 (2 ^ 7);let x43:=IntKind.u8.wrap x42;let x44:=IntKind.u8.wrap ((BitVec.ofInt 8 x43||| BitVec.ofInt 8 128).toNat);k1 v1 x36 x40 x44) (k2 v1 x36 x40)) (let x45:=Int.fdiv v1 (2 ^ 7);cond (!decide (x45=0)) (let x46:=Int.fdiv v1 (2 ^ 7);let x47:=IntKind.u8.wrap x46;let x48:=IntKind.u8.wrap ((BitVec.ofInt 8 x47||| BitVec.ofInt 8 128).toNat);k2 v1 x36 x48) (k3 v1 x36))) (let x49:=Int.fdiv v1 (2 ^ 14);cond (!decide (x49=0)) (let x50:=Int.fdiv v1 (2 ^ 14);let x51:=IntKind.u8.wrap x50;let x52:=IntKind.u8.wrap ((BitVec.ofInt 8 x51||| BitVec.ofInt 8 128).toNat);let x53:=Int.fdiv v1 (2 ^ 7);cond (!decide (x53=0)) (let x54:=Int.fdiv v1 (2 ^ 7);let x55:=IntKind.u8.wrap x54;let x56:=IntKind.u8.wrap ((BitVec.ofInt 8 x55||| BitVec.ofInt 8 128).toNat);k2 v1 x52 x56) (k3 v1 x52)) (let x57:=Int.fdiv v1 (2 ^ 7);cond (!decide (x57=0)) (let x58:=Int.fdiv v1 (2 ^ 7);let x59:=IntKind.u8.wrap x58;let x60:=IntKind.u8.wrap ((BitVec.ofInt 8 x59||| BitVec.ofInt 8 128).toNat);k3 v1 x60) (k4 v1))))
def qsk (k0:Nat->Int->LI->OO) (k1:Nat->Int->LI->OO) (v1:Nat) (v2:Int) (v3:LI):OO:=let x1:=Int.fdiv v2 (2 ^ 28);cond (!decide (x1=0)) (let x2:=Int.fdiv v2 (2 ^ 28);let x3:=IntKind.u8.wrap x2;let x4:=IntKind.u8.wrap ((BitVec.ofInt 8 x3||| BitVec.ofInt 8 128).toNat);let l5:=v3++[x4];rmK l5.length 1<| let x6:=Int.fdiv v2 (2 ^ 21);cond (!decide (x6=0)) (let x7:=Int.fdiv v2 (2 ^ 21);let x8:=IntKind.u8.wrap x7;let x9:=IntKind.u8.wrap ((BitVec.ofInt 8 x8||| BitVec.ofInt 8 128).toNat);let l10:=l5++[x9];rmK l10.length 1<| let x11:=Int.fdiv v2 (2 ^ 14);cond (!decide (x11=0)) (let x12:=Int.fdiv v2 (2 ^ 14);let x13:=IntKind.u8.wrap x12;let x14:=IntKind.u8.wrap ((BitVec.ofInt 8 x13||| BitVec.ofInt 8 128).toNat);let l15:=l10++[x14];rmK l15.length 1<| let x16:=Int.fdiv v2 (2 ^ 7);cond (!decide (x16=0)) (let x17:=Int.fdiv v2 (2 ^ 7);let x18:=IntKind.u8.wrap x17;let x19:=IntKind.u8.wrap ((BitVec.ofInt 8 x18||| BitVec.ofInt 8 128).toNat);let l20:=l15++[x19];rmK l20.length 1<| k0 l20.length v2 l20) (k0 l15.length v2 l15)) (let x21:=Int.fdiv v2 (2 ^ 7);cond (!decide (x21=0)) (let x22:=Int.fdiv v2 (2 ^ 7);let x23:=IntKind.u8.wrap x22;let x24:=IntKind.u8.wrap ((BitVec.ofInt 8 x23||| BitVec.ofInt 8 128).toNat);let l25:=l10++[x24];rmK l25.length 1<| k0 l25.length v2 l25) (k0 l10.length v2 l10))) (let x26:=Int.fdiv v2 (2 ^ 14);cond (!decide (x26=0)) (let x27:=Int.fdiv v2 (2 ^ 14);let x28:=IntKind.u8.wrap x27;let x29:=IntKind.u8.wrap ((BitVec.ofInt 8 x28||| BitVec.ofInt 8 128).toNat);let l30:=l5++[x29];rmK l30.length 1<| let x31:=Int.fdiv v2 (2 ^ 7);cond (!decide (x31=0)) (let x32:=Int.fdiv v2 (2 ^ 7);let x33:=IntKind.u8.wrap x32;let x34:=IntKind.u8.wrap ((BitVec.ofInt 8 x33||| BitVec.ofInt 8 128).toNat);let l35:=l30++[x34];rmK l35.length 1<| k0 l35.length v2 l35) (k0 l30.length v2 l30)) (let x36:=Int.fdiv v2 (2 ^ 7);cond (!decide (x36=0)) (let x37:=Int.fdiv v2 (2 ^ 7);let x38:=IntKind.u8.wrap x37;let x39:=IntKind.u8.wrap ((BitVec.ofInt 8 x38||| BitVec.ofInt 8 128).toNat);let l40:=l5++[x39];rmK l40.length 1<| k0 l40.length v2 l40) (k0 l5.length v2 l5)))) (let x41:=Int.fdiv v2 (2 ^ 21);cond (!decide (x41=0)) (let x42:=Int.fdiv v2 (2 ^ 21);let x43:=IntKind.u8.wrap x42;let x44:=IntKind.u8.wrap ((BitVec.ofInt 8 x43||| BitVec.ofInt 8 128).toNat);let l45:=v3++[x44];rmK l45.length 1<| let x46:=Int.fdiv v2 (2 ^ 14);cond (!decide (x46=0)) (let x47:=Int.fdiv v2 (2 ^ 14);let x48:=IntKind.u8.wrap x47;let x49:=IntKind.u8.wrap ((BitVec.ofInt 8 x48||| BitVec.ofInt 8 128).toNat);let l50:=l45++[x49];rmK l50.length 1<| let x51:=Int.fdiv v2 (2 ^ 7);cond (!decide (x51=0)) (let x52:=Int.fdiv v2 (2 ^ 7);let x53:=IntKind.u8.wrap x52;let x54:=IntKind.u8.wrap ((BitVec.ofInt 8 x53||| BitVec.ofInt 8 128).toNat);let l55:=l50++[x54];rmK l55.length 1<| k0 l55.length v2 l55) (k0 l50.length v2 l50)) (let x56:=Int.fdiv v2 (2 ^ 7);cond (!decide (x56=0)) (let x57:=Int.fdiv v2 (2 ^ 7);let x58:=IntKind.u8.wrap x57;let x59:=IntKind.u8.wrap ((BitVec.ofInt 8 x58||| BitVec.ofInt 8 128).toNat);let l60:=l45++[x59];rmK l60.length 1<| k0 l60.length v2 l60) (k0 l45.length v2 l45))) (let x61:=Int.fdiv v2 (2 ^ 14);cond (!decide (x61=0)) (let x62:=Int.fdiv v2 (2 ^ 14);let x63:=IntKind.u8.wrap x62;let x64:=IntKind.u8.wrap ((BitVec.ofInt 8 x63||| BitVec.ofInt 8 128).toNat);let l65:=v3++[x64];rmK l65.length 1<| let x66:=Int.fdiv v2 (2 ^ 7);cond (!decide (x66=0)) (let x67:=Int.fdiv v2 (2 ^ 7);let x68:=IntKind.u8.wrap x67;let x69:=IntKind.u8.wrap ((BitVec.ofInt 8 x68||| BitVec.ofInt 8 128).toNat);let l70:=l65++[x69];rmK l70.length 1<| k0 l70.length v2 l70) (k0 l65.length v2 l65)) (let x71:=Int.fdiv v2 (2 ^ 7);cond (!decide (x71=0)) (let x72:=Int.fdiv v2 (2 ^ 7);let x73:=IntKind.u8.wrap x72;let x74:=IntKind.u8.wrap ((BitVec.ofInt 8 x73||| BitVec.ofInt 8 128).toNat);let l75:=v3++[x74];rmK l75.length 1<| k0 l75.length v2 l75) (k1 v1 v2 v3))))
def xbaw:St->(KT)->OO:=fun σ k=>match σ with|⟨[(q1,.nils),(q2,.cl (.int .u32 v1)),(q3,.cl (.int .i64 q4))],[]⟩=>cond (eqL [q1,q2,q3] [0,1,5]&&decide (q4=28)) (shut (q04 (fun y1 y2 y3 y4 y5=>k .normal ⟨[(0,.ref 85 0 4 true 1),(1,.cl (.int .u32 y1))],[(85,⟨.ints .u8 [y2,y3,y4,y5],false⟩)]⟩) (fun y1 y2 y3 y4=>k .normal ⟨[(0,.ref 85 0 3 true 1),(1,.cl (.int .u32 y1))],[(85,⟨.ints .u8 [y2,y3,y4],false⟩)]⟩) (fun y1 y2 y3=>k .normal ⟨[(0,.ref 85 0 2 true 1),(1,.cl (.int .u32 y1))],[(85,⟨.ints .u8 [y2,y3],false⟩)]⟩) (fun y1 y2=>k .normal ⟨[(0,.ref 85 0 1 true 1),(1,.cl (.int .u32 y1))],[(85,⟨.ints .u8 [y2],false⟩)]⟩) (fun y1=>k .normal ⟨[(0,.nils),(1,.cl (.int .u32 y1))],[]⟩)) v1) none|⟨[(q1,.ref q2 q3 v1 true q4),(q5,.cl (.int .u32 v2)),(q6,.cl (.int .i64 q7))],[(q8,⟨.ints .u8 v3,false⟩)]⟩=>cond (eqL [q1,q2,q3,q4,q5,q6,q8] [0,0,0,1,1,5,0]&&decide (q7=28)) (shut (qsk (fun y1 y2 y3=>k .normal ⟨[(0,.ref 85 0 y1 true 1),(1,.cl (.int .u32 y2))],[(85,⟨.ints .u8 y3,false⟩)]⟩) (fun y1 y2 y3=>k .normal ⟨[(0,.ref 0 0 y1 true 1),(1,.cl (.int .u32 y2))],[(0,⟨.ints .u8 y3,false⟩)]⟩)) v1 v2 v3) none|_=>none
def EOPut:Env:= {mkE BOPut qa1 28 with live:=lk [] [(2,[0,1,5])],xl:=lk none [(0,some [4]),(1,some [0,1]),(1002,some [0,1])],jn:=lk none [(2,some xbaw)]}
theorem xbd7:JnOk Tryz.prog (EOPut) 40 (nthc (EOPut) Tryz.f184 0) 2 xbaw:=by
 intro σ k r h
 unfold xbaw at h
 split at h
 ·obtain⟨hc,j⟩:=qaa h
  simp only[zab,qdu,decide_eq_true_eq,zal] at hc
  obtain⟨hc,rfl⟩:=hc
  cases qbe hc
  rw[qab] at j
  exact zdx (by kernel_rfl) j
 ·obtain⟨hc,j⟩:=qaa h
  simp only[zab,qdu,decide_eq_true_eq,zal] at hc
  obtain⟨hc,rfl⟩:=hc
  cases qbe hc
  rw[qab] at j
  exact zdx (by kernel_rfl) j
 ·cases h
def xbjt (n:Int):OO:=shut (q04 (fun y1 y2 y3 y4 y5=>let x6:=IntKind.u8.wrap y1;let x7:=IntKind.u8.wrap ((BitVec.ofInt 8 x6&&& ~~~ BitVec.ofInt 8 128).toNat);some (.ret [.ref 0 0 5 true 1] [some ⟨.ints .u8 [y2,y3,y4,y5,x7],false⟩])) (fun y8 y9 y10 y11=>let x12:=IntKind.u8.wrap y8;let x13:=IntKind.u8.wrap ((BitVec.ofInt 8 x12&&& ~~~ BitVec.ofInt 8 128).toNat);some (.ret [.ref 0 0 4 true 1] [some ⟨.ints .u8 [y9,y10,y11,x13],false⟩])) (fun y14 y15 y16=>let x17:=IntKind.u8.wrap y14;let x18:=IntKind.u8.wrap ((BitVec.ofInt 8 x17&&& ~~~ BitVec.ofInt 8 128).toNat);some (.ret [.ref 0 0 3 true 1] [some ⟨.ints .u8 [y15,y16,x18],false⟩])) (fun y19 y20=>let x21:=IntKind.u8.wrap y19;let x22:=IntKind.u8.wrap ((BitVec.ofInt 8 x21&&& ~~~ BitVec.ofInt 8 128).toNat);some (.ret [.ref 0 0 2 true 1] [some ⟨.ints .u8 [y20,x22],false⟩])) (fun y23=>let x24:=IntKind.u8.wrap y23;let x25:=IntKind.u8.wrap ((BitVec.ofInt 8 x24&&& ~~~ BitVec.ofInt 8 128).toNat);some (.ret [.ref 0 0 1 true 1] [some ⟨.ints .u8 [x25],false⟩]))) n
def xbk7 (m:Nat) (n:Int) (l:LI):OO:=shut (qsk (fun y1 y2 y3=>let x4:=IntKind.u8.wrap y2;let x5:=IntKind.u8.wrap ((BitVec.ofInt 8 x4&&& ~~~ BitVec.ofInt 8 128).toNat);let l6:=y3++[x5];rmK l6.length 1<| some (.ret [.ref 1 0 l6.length true 1] [none,some ⟨.ints .u8 l6,false⟩])) (fun y7 y8 y9=>let x10:=IntKind.u8.wrap y8;let x11:=IntKind.u8.wrap ((BitVec.ofInt 8 x10&&& ~~~ BitVec.ofInt 8 128).toNat);let l12:=y9++[x11];rmK l12.length 1<| some (.ret [.ref 1 0 l12.length true 1] [none,some ⟨.ints .u8 l12,false⟩]))) m n l
def qju (again:Int->Nat->LI->OO) (k0:Nat->LI->OO) (v1:Int) (v2:Nat) (v3:LI):OO:=cond (decide ((0:Int)<v1)) (let x4:=Int.tmod v1 128;let x5:=IntKind.u32.wrap ((128:Int)+x4);let x6:=IntKind.u8.wrap x5;let l7:=[x6]++v3;rmK l7.length 1<| let x8:=IntKind.u32.wrap (Int.tdiv v1 128);again x8 l7.length l7) (k0 v2 v3)
def qia (k0:Nat->LI->OO):Nat->Int->Nat->LI->OO:=qe3 (fun a=>qju a k0) (fun _ _ _=>none)
def qnh:St->(KT)->OO:=fun σ k=>match σ with|⟨[(q1,.cl (.int .u32 v1)),(q2,.ref q3 q4 v2 true q5)],[(q6,⟨.ints .u8 v3,false⟩)]⟩=>cond (eqL [q1,q2,q3,q4,q5,q6] [0,3,71,0,1,71]) (shut (qia (fun y1 y2=>k (.exit 0) ⟨[(3,.ref 71 0 y1 true 1)],[(71,⟨.ints .u8 y2,false⟩)]⟩) FUEL) v1 v2 v3) none|_=>none
def ER2Groups:Env:= {mkE BR2Groups qa1 22 with live:=lk [] [(3,[0,3])],ren:=lk [] [(3,[(84,71)])],lp:=lk none [(3,some qnh)],xl:=lk none [(0,some [2]),(1,some [3])]}
theorem qv4:LpT Tryz.prog (ER2Groups) Tryz.f183 0 3 qnh:=by
 intro σ k r h
 unfold qnh at h
 split at h
 ·obtain⟨hc,j⟩:=qaa h
  cases qbe hc
  rw[qab] at j
  apply it3 j
  ·intro n;kernel_rfl
  ·rfl
 ·cases h
def q4f (n:Int):OO:=let x1:=Int.tmod n 128;let x2:=IntKind.u8.wrap x1;let x3:=IntKind.u32.wrap (Int.tdiv n 128);shut (qia (fun y4 y5=>some (.ret [.ref 0 0 y4 true 1] [some ⟨.ints .u8 y5,false⟩])) FUEL) x3 1 [x2]
def qoe (again:Nat->LI->Int->Int->LI->OO) (k0:Nat->LI->OO) (v1:Nat) (v2:LI) (v3 v4:Int) (v5:LI):OO:=cond (decide (v4<v3)) (getK v2 v4 fun e9=>cond (u32Ok e9&&qc6 v5) (let r10:Nat:=(v5++qbk e9).length;let r11:=v5++qbk e9;let x12:=IntKind.i64.wrap (v4+1);again r10 v2 v3 x12 r11) none) (k0 v1 v5)
def ql0 (k0:Nat->LI->OO):Nat->Nat->LI->Int->Int->LI->OO:=qe3 (fun a=>qoe a k0) (fun _ _ _ _ _=>none)
def qw4:St->(KT)->OO:=fun σ k=>match σ with|⟨[(q1,.ref q2 q3 v1 true q4),(q5,.cl (.sli .u32 v2)),(q6,.cl (.int .i64 v3)),(q7,.cl (.int .i64 v4))],[(q8,⟨.ints .u8 v5,false⟩)]⟩=>cond (eqL [q1,q2,q3,q4,q5,q6,q7,q8] [3,81,0,1,19,20,21,81]) (shut (ql0 (fun y1 y2=>k (.exit 0) ⟨[(3,.ref 81 0 y1 true 1)],[(81,⟨.ints .u8 y2,false⟩)]⟩) FUEL) v1 v2 v3 v4 v5) none|_=>none
def EOBytes:Env:= {mkE BOBytes qa1 30 with byref:=lk [] [(184,[0])],keep:=lk false [(184,true)],live:=lk [] [(5,[3,19,20,21])],ren:=lk [] [(5,[(91,81)])],lp:=lk none [(5,some qw4)],xl:=lk none [(0,some [2]),(1,some [3])]}
theorem q1m:LpT Tryz.prog (EOBytes) Tryz.f156 0 5 qw4:=by
 intro σ k r h
 unfold qw4 at h
 split at h
 ·obtain⟨hc,j⟩:=qaa h
  cases qbe hc
  rw[qab] at j
  apply it5 j
  ·intro n;kernel_rfl
  ·rfl
 ·cases h
def xblo (o:LI):OO:=let r1:=qi7 o;cond (!r1) (some (.ret [.cl (.sli .u8 [])] [])) (cond (decide ((0:Int)<(o.length:Int))) (Option.bind (o[0]?) fun(e2:Int)=>let x3:=IntKind.u32.wrap ((40:Int)*e2);cond (decide ((1:Int)<(o.length:Int))) (Option.bind (o[1]?) fun(e4:Int)=>let x5:=IntKind.u32.wrap (x3+e4);cond (u32Ok x5) (let r6:Nat:=(qbk x5).length;let r7:=qbk x5;cond (decide ((2:Int)<=(o.length:Int))) (let l8:=List.drop 2 o;shut (ql0 (fun y9 y10=>some (.ret [.cl (.sli .u8 y10)] [])) FUEL) r6 l8 (l8.length:Int) 0 r7) none) none) none) none)
def qll (again:LI->Nat->Int->LI->OO) (k0:Nat->LI->OO) (v1:LI) (v2:Nat) (v3:Int) (v4:LI):OO:=cond (decide (v3<(v1.length:Int))) (getK v1 v3 fun e8=>cond (u32Ok e8) (let r10:=qbk e8;let l11:=v4++r10;rmK l11.length 1<| let x12:=IntKind.i64.wrap (v3+1);again v1 l11.length x12 l11) none) (k0 v2 v4)
def qkw (k0:Nat->LI->OO):Nat->LI->Nat->Int->LI->OO:=qe3 (fun a=>qll a k0) (fun _ _ _ _=>none)
def qq7:St->(KT)->OO:=fun σ k=>match σ with|⟨[(q1,.cl (.sli .u32 v1)),(q2,.ref q3 q4 v2 true q5),(q6,.cl (.int .i64 v3))],[(q7,⟨.ints .u8 v4,false⟩)]⟩=>cond (eqL [q1,q2,q3,q4,q5,q6,q7] [0,3,80,0,1,4,80]) (shut (qkw (fun y1 y2=>k (.exit 0) ⟨[(3,.ref 80 0 y1 true 1)],[(80,⟨.ints .u8 y2,false⟩)]⟩) FUEL) v1 v2 v3 v4) none|_=>none
def ER2Bytes:Env:= {mkE BR2Bytes qa1 31 with keep:=lk false [(183,true)],live:=lk [] [(5,[0,3,4])],ren:=lk [] [(5,[(93,80)])],lp:=lk none [(5,some qq7)],xl:=lk none [(0,some [2]),(1,some [3])]}
theorem qyx:LpT Tryz.prog (ER2Bytes) Tryz.f154 0 5 qq7:=by
 intro σ k r h
 unfold qq7 at h
 split at h
 ·obtain⟨hc,j⟩:=qaa h
  cases qbe hc
  rw[qab] at j
  apply it4 j
  ·intro n;kernel_rfl
  ·rfl
 ·cases h
def xban (o:LI):OO:=let r1:=qi7 o;cond (!r1) (some (.ret [.cl (.sli .u8 [])] [])) (cond (decide ((0:Int)<(o.length:Int))) (Option.bind (o[0]?) fun(e2:Int)=>let x3:=IntKind.u32.wrap ((40:Int)*e2);cond (decide ((1:Int)<(o.length:Int))) (Option.bind (o[1]?) fun(e4:Int)=>let x5:=IntKind.u32.wrap (x3+e4);cond (u32Ok x5) (let r6:Nat:=(qbk x5).length;let r7:=qbk x5;shut (qkw (fun y8 y9=>some (.ret [.cl (.sli .u8 y9)] [])) FUEL) o r6 2 r7) none) none) none)
def qq1 (again:Int->LI->Int->Int->OO) (k0:Int->OO) (v1:Int) (v2:LI) (v3 v4:Int):OO:=cond (decide (v4<v3)) (getK v2 v4 fun e1=>let x2:=IntKind.u64.wrap (v1*2 ^ 8);let x3:=IntKind.u64.wrap e1;let x4:=IntKind.u64.wrap ((BitVec.ofInt 64 x2||| BitVec.ofInt 64 x3).toNat);let x5:=IntKind.i64.wrap (v4+1);again x4 v2 v3 x5) (k0 v1)
def qpf (k0:Int->OO):Nat->Int->LI->Int->Int->OO:=qe3 (fun a=>qq1 a k0) (fun _ _ _ _=>none)
def q03:St->(KT)->OO:=fun σ k=>match σ with|⟨[(q1,.cl (.int .u64 v1)),(q2,.cl (.sli .u8 v2)),(q3,.cl (.int .i64 v3)),(q4,.cl (.int .i64 v4))],[]⟩=>cond (eqL [q1,q2,q3,q4] [3,6,7,8]) (shut (qpf (fun y1=>k (.exit 0) ⟨[(3,.cl (.int .u64 y1))],[]⟩) FUEL) v1 v2 v3 v4) none|_=>none
def EVBNum:Env:= {mkE BVBNum qa1 19 with live:=lk [] [(3,[3,6,7,8])],lp:=lk none [(3,some q03)],xl:=lk none [(0,some [2]),(1,some [3])]}
theorem q60:LpT Tryz.prog (EVBNum) Tryz.f92 0 3 q03:=by
 intro σ k r h
 unfold q03 at h
 split at h
 ·obtain⟨hc,j⟩:=qaa h
  cases qbe hc
  rw[qab] at j
  apply it4 j
  ·intro n;kernel_rfl
  ·rfl
 ·cases h
def xbt3 (b:LI):OO:=shut (qpf (fun y1=>some (.ret [.cl (.int .u64 y1)] [])) FUEL) 0 b (b.length:Int) 0
def EVLe:Env:= {mkE BVLe qa1 30 with live:=lk [] [(5,[0,5,16,17])],xl:=lk none [(0,some [4]),(1,some [5])]}
def gVLe (n:Int):OO:=let x1:=Int.fdiv n (2 ^ 0);let x2:=IntKind.u8.wrap x1;let x3:=Int.fdiv n (2 ^ 8);let x4:=IntKind.u8.wrap x3;let x5:=Int.fdiv n (2 ^ 16);let x6:=IntKind.u8.wrap x5;let x7:=Int.fdiv n (2 ^ 24);let x8:=IntKind.u8.wrap x7;let x9:=Int.fdiv n (2 ^ 32);let x10:=IntKind.u8.wrap x9;let x11:=Int.fdiv n (2 ^ 40);let x12:=IntKind.u8.wrap x11;let x13:=Int.fdiv n (2 ^ 48);let x14:=IntKind.u8.wrap x13;let x15:=Int.fdiv n (2 ^ 56);let x16:=IntKind.u8.wrap x15;some (.ret [.ref 0 0 8 true 1] [some ⟨.ints .u8 [x2,x4,x6,x8,x10,x12,x14,x16],false⟩])
def EVReverse:Env:= {mkE BVReverse qa1 28 with live:=lk [] [(1,[0,2,3])],xl:=lk none [(0,some []),(1,some [])]}
def xbh6 (l:LI):OO:=Option.bind (l[7]?) fun(e1:Int)=>Option.bind (l[0]?) fun(e2:Int)=>let l3:=l.set 0 e1;let l4:=l3.set 7 e2;Option.bind (l4[6]?) fun(e5:Int)=>Option.bind (l4[1]?) fun(e6:Int)=>let l7:=l4.set 1 e5;let l8:=l7.set 6 e6;Option.bind (l8[5]?) fun(e9:Int)=>Option.bind (l8[2]?) fun(e10:Int)=>let l11:=l8.set 2 e9;let l12:=l11.set 5 e10;Option.bind (l12[4]?) fun(e13:Int)=>Option.bind (l12[3]?) fun(e14:Int)=>let l15:=l12.set 3 e13;let l16:=l15.set 4 e14;some (.ret [] [some ⟨.ints .u8 l16,false⟩])
def EVBe:Env:= {mkE BVBe qa1 12 with byref:=lk [] [(158,[0])],keep:=lk false [(157,true)],xl:=lk none [(0,some [4])]}
def gVBe (n:Int):OO:=cond (u64Ok n) (let r1:=vLe n;cond (xbsf r1) (let r2:=vRev r1;some (.ret [.cl (.sli .u8 r2)] [])) none) none
def EVR1Be:Env:= {mkE BVR1Be qa1 30 with live:=lk [] [(5,[0,5,6])],xl:=lk none [(0,some [4]),(1,some [5])]}
def xbv2 (n:Int):OO:=let x1:=IntKind.u64.wrap ((BitVec.ofInt 64 n&&&BitVec.ofInt 64 255).toNat);let x2:=IntKind.u8.wrap x1;let x3:=Int.fdiv n (2 ^ 8);let x4:=IntKind.u64.wrap ((BitVec.ofInt 64 x3&&&BitVec.ofInt 64 255).toNat);let x5:=IntKind.u8.wrap x4;let x6:=Int.fdiv x3 (2 ^ 8);let x7:=IntKind.u64.wrap ((BitVec.ofInt 64 x6&&&BitVec.ofInt 64 255).toNat);let x8:=IntKind.u8.wrap x7;let x9:=Int.fdiv x6 (2 ^ 8);let x10:=IntKind.u64.wrap ((BitVec.ofInt 64 x9&&&BitVec.ofInt 64 255).toNat);let x11:=IntKind.u8.wrap x10;let x12:=Int.fdiv x9 (2 ^ 8);let x13:=IntKind.u64.wrap ((BitVec.ofInt 64 x12&&&BitVec.ofInt 64 255).toNat);let x14:=IntKind.u8.wrap x13;let x15:=Int.fdiv x12 (2 ^ 8);let x16:=IntKind.u64.wrap ((BitVec.ofInt 64 x15&&&BitVec.ofInt 64 255).toNat);let x17:=IntKind.u8.wrap x16;let x18:=Int.fdiv x15 (2 ^ 8);let x19:=IntKind.u64.wrap ((BitVec.ofInt 64 x18&&&BitVec.ofInt 64 255).toNat);let x20:=IntKind.u8.wrap x19;let x21:=Int.fdiv x18 (2 ^ 8);let x22:=IntKind.u64.wrap ((BitVec.ofInt 64 x21&&&BitVec.ofInt 64 255).toNat);let x23:=IntKind.u8.wrap x22;some (.ret [.cl (.sli .u8 [x23,x20,x17,x14,x11,x8,x5,x2])] [])
def qus (again:LI->OO) (k0:LI->OO) (v1:LI):OO:=cond (decide ((1:Int)<(v1.length:Int))) (cond (decide ((0:Int)<(v1.length:Int))) (Option.bind (v1[0]?) fun(e3:Int)=>cond (decide (e3=0)) (cond (decide ((1:Int)<(v1.length:Int))) (Option.bind (v1[1]?) fun(e4:Int)=>cond (decide (e4<128)) (cond (decide ((1:Int)<=(v1.length:Int))) (let l5:=List.drop 1 v1;again l5) none) (cond (decide ((0:Int)<(v1.length:Int))) (Option.bind (v1[0]?) fun(e6:Int)=>cond (decide (e6=255)) (cond (decide ((1:Int)<(v1.length:Int))) (Option.bind (v1[1]?) fun(e7:Int)=>cond (decide ((128:Int)<=e7)) (cond (decide ((1:Int)<=(v1.length:Int))) (let l8:=List.drop 1 v1;again l8) none) (k0 v1)) none) (k0 v1)) none)) none) (cond (decide ((0:Int)<(v1.length:Int))) (Option.bind (v1[0]?) fun(e9:Int)=>cond (decide (e9=255)) (cond (decide ((1:Int)<(v1.length:Int))) (Option.bind (v1[1]?) fun(e10:Int)=>cond (decide ((128:Int)<=e10)) (cond (decide ((1:Int)<=(v1.length:Int))) (let l11:=List.drop 1 v1;again l11) none) (k0 v1)) none) (k0 v1)) none)) none) (k0 v1)
def qqy (k0:LI->OO):Nat->LI->OO:=qe3 (fun a=>qus a k0) (fun _=>none)
def xbb1:St->(KT)->OO:=fun σ k=>match σ with|⟨[(q1,.ptr q2 q3 q4),(q5,.cl (.sli .u8 v1))],[(q6,⟨.var [.cl (.int .i64 q7),.nils,.nils],false⟩)]⟩=>cond (eqL [q1,q2,q3,q4,q5,q6] [2,66,0,0,3,66]&&decide (q7=0)) (shut (qqy (fun y1=>k (.exit 0) ⟨[(2,.ptr 66 0 0),(3,.cl (.sli .u8 y1))],[(66,⟨.var [.cl (.int .i64 0),.nils,.nils],false⟩)]⟩) FUEL) v1) none|_=>none
def EVInt:Env:= {mkE BVInt qa1 38 with live:=lk [] [(2,[2,3])],lp:=lk none [(2,some xbb1)],xl:=lk none [(0,some [2]),(1,some [2,3])]}
theorem xbcp:LpT Tryz.prog (EVInt) Tryz.f71 0 2 xbb1:=by
 intro σ k r h
 unfold xbb1 at h
 split at h
 ·obtain⟨hc,j⟩:=qaa h
  simp only[zab,qdu,decide_eq_true_eq,zal] at hc
  obtain⟨hc,rfl⟩:=hc
  cases qbe hc
  rw[qab] at j
  apply it1 j
  ·intro n;kernel_rfl
  ·rfl
 ·cases h
def xb4j (n:Int):OO:=let x1:=IntKind.u64.wrap n;cond (u64Ok x1) (let r2:=vBe x1;shut (qqy (fun y3=>some (.ret [.cl (.agg [.int .i64 2,.sli .u8 y3,.slg 3 []])] [])) FUEL) r2) none
def qq9 (again:LI->OO) (k0:LI->OO) (v1:LI):OO:=cond (decide ((1:Int)<(v1.length:Int))) (cond (qad v1) (let r3:=qcs 2 v1;cond (!r3) (cond (decide ((1:Int)<=(v1.length:Int))) (let l4:=List.drop 1 v1;again l4) none) (k0 v1)) none) (k0 v1)
def qp0 (k0:LI->OO):Nat->LI->OO:=qe3 (fun a=>qq9 a k0) (fun _=>none)
def q3f:St->(KT)->OO:=fun σ k=>match σ with|⟨[(q1,.ptr q2 q3 q4),(q5,.cl (.sli .u8 v1))],[(q6,⟨.var [.cl (.int .i64 q7),.nils,.nils],false⟩)]⟩=>cond (eqL [q1,q2,q3,q4,q5,q6] [2,66,0,0,3,66]&&decide (q7=0)) (shut (qp0 (fun y1=>k (.exit 0) ⟨[(2,.ptr 66 0 0),(3,.cl (.sli .u8 y1))],[(66,⟨.var [.cl (.int .i64 0),.nils,.nils],false⟩)]⟩) FUEL) v1) none|_=>none
def EVRInt:Env:= {mkE BVRInt qa1 19 with live:=lk [] [(2,[2,3])],lp:=lk none [(2,some q3f)],xl:=lk none [(0,some [2]),(1,some [2,3])]}
theorem q6b:LpT Tryz.prog (EVRInt) Tryz.f65 0 2 q3f:=by
 intro σ k r h
 unfold q3f at h
 split at h
 ·obtain⟨hc,j⟩:=qaa h
  simp only[zab,qdu,decide_eq_true_eq,zal] at hc
  obtain⟨hc,rfl⟩:=hc
  cases qbe hc
  rw[qab] at j
  apply it1 j
  ·intro n;kernel_rfl
  ·rfl
 ·cases h
def xbwq (n:Int):OO:=let x1:=IntKind.u64.wrap n;cond (u64Ok x1) (let r2:=vBe x1;shut (qp0 (fun y3=>some (.ret [.cl (.agg [.int .i64 2,.sli .u8 y3,.slg 3 []])] [])) FUEL) r2) none
def EVNumber:Env:= {mkE BVNumber qa1 19 with xl:=lk none [(0,some [2,3])]}
def xbdm (b:LI):OO:=cond (decide ((8:Int)<(b.length:Int))) (some (.ret [.cl (.int .i64 0),.cl (.int .i64 8)] [])) (let x1:=IntKind.i64.wrap ((8:Int)*(b.length:Int));let x2:=IntKind.i64.wrap ((64:Int) - x1);cond (num8 b) (let r3:=qg0 b;cond (decide (x2<0)) none (let x4:=IntKind.u64.wrap (r3*2 ^ (min x2.toNat 64));let x5:=IntKind.i64.wrap x4;cond (decide (x2<0)) none (let x6:=Int.fdiv x5 (2 ^ (min x2.toNat 64));some (.ret [.cl (.int .i64 x6),.cl (.int .i64 0)] [])))) none)
def xbsm:Env:= {mkE xbcm qa1 35 with xl:=lk none [(0,some [6,7])]}
def q4g (t:Int) (b:LI) (k:LC):OO:=cond (!decide (t=2)) (some (.ret [.cl (.int .i64 0),.cl (.int .i64 4)] [])) (cond (decide ((0:Int)<(k.length:Int))) (some (.ret [.cl (.int .i64 0),.cl (.int .i64 5)] [])) (cond (isS ([.int .i64 2,.sli .u8 b,.slg 3 []])) (let r1:=qz2 ([.int .i64 2,.sli .u8 b,.slg 3 []]);cond (!r1) (some (.ret [.cl (.int .i64 0),.cl (.int .i64 5)] [])) (cond (qad b) (let r2:Int:=(qor b).1;let r3:Int:=(qor b).2;some (.ret [.cl (.int .i64 r2),.cl (.int .i64 r3)] [])) none)) none))
def xbu0:Env:= {mkE xbdb qa1 35 with xl:=lk none [(0,some [6,7])]}
def xbi0 (t:Int) (b:LI) (k:LC):OO:=cond (!decide (t=6)) (some (.ret [.cl (.sli .u32 []),.cl (.int .i64 4)] [])) (cond (decide ((0:Int)<(k.length:Int))) (some (.ret [.cl (.sli .u32 []),.cl (.int .i64 5)] [])) (cond (isS ([.int .i64 6,.sli .u8 b,.slg 3 []])) (let r1:=qz2 ([.int .i64 6,.sli .u8 b,.slg 3 []]);cond (!r1) (some (.ret [.cl (.sli .u32 []),.cl (.int .i64 5)] [])) (cond (qad b) (let r2:LI:=(qdn b).1;let r3:Int:=(qdn b).2;some (.ret [.cl (.sli .u32 r2),.cl (.int .i64 r3)] [])) none)) none))
def xbs8:Env:= {mkE xba3 qa1 8 with xl:=lk none [(0,some [2,3])]}
def xbsy (t:Int) (b:LI) (k:LC):OO:=cond (isS [.int .i64 t,.sli .u8 b,.slg 3 k]) (let r1:Int:=(qdm t b k).1;let r2:Int:=(qdm t b k).2;some (.ret [.cl (.int .i64 r1),.cl (.int .i64 r2)] [])) none
def xbgz:Env:= {mkE qwq qa1 16 with xl:=lk none [(0,some [2,3])]}
def q3l (t:Int) (b:LI) (k:LC):OO:=cond (!decide (t=4)) (some (.ret [.cl (.sli .u8 []),.cl (.int .i64 4)] [])) (cond (decide ((0:Int)<(k.length:Int))) (some (.ret [.cl (.sli .u8 []),.cl (.int .i64 5)] [])) (cond (qc6 b) (some (.ret [.cl (.sli .u8 b),.cl (.int .i64 0)] [])) none))
def xb0c:Env:= {mkE xbms qa1 8 with xl:=lk none [(0,some [2,3])]}
def xbzz (t:Int) (b:LI) (k:LC):OO:=cond (isS [.int .i64 t,.sli .u8 b,.slg 3 k]) (let r1:LI:=(qos t b k).1;let r2:Int:=(qos t b k).2;some (.ret [.cl (.sli .u32 r1),.cl (.int .i64 r2)] [])) none
def EVMade:Env:= {mkE BVMade qa1 15 with xl:=lk none [(0,some [4,5])]}
def xbv4 (g:Int) (b:LI):OO:=cond (isS ([.int .i64 g,.sli .u8 b,.slg 3 []])) (let r1:=qz2 ([.int .i64 g,.sli .u8 b,.slg 3 []]);cond (!r1) (some (.ret [.cl (.agg [.int .i64 0,.sli .u8 [],.slg 3 []]),.cl (.int .i64 5)] [])) (some (.ret [.cl (.agg [.int .i64 g,.sli .u8 b,.slg 3 []]),.cl (.int .i64 0)] []))) none
def EVId:Env:= {mkE BVId qa1 9 with xl:=lk none [(0,some [2,3])]}
def gVId (o:LI):OO:=cond (qs5 o) (let r1:=qa3 o;cond (qrg 6 r1) (let r2:Int:=(qfq 6 r1).1;let r3:LI:=(qfq 6 r1).2.1;let r4:=qb2;let r5:Int:=(qfq 6 r1).2.2;some (.ret [.cl (.agg [.int .i64 r2,.sli .u8 r3,.slg 3 r4]),.cl (.int .i64 r5)] [])) none) none
def EVBytes:Env:= {mkE BVBytes qa1 6 with xl:=lk none [(0,some [2])]}
def xbwi (b:LI):OO:=cond (qc6 b) (some (.ret [.cl (.agg [.int .i64 4,.sli .u8 b,.slg 3 []])] [])) none
def EVRMade:Env:= {mkE BVRMade qa1 14 with xl:=lk none [(0,some [4,5])]}
def xbk8 (g:Int) (b:LI):OO:=cond (qad b) (let r1:=qcs g b;cond (!r1) (some (.ret [.cl (.agg [.int .i64 0,.sli .u8 [],.slg 3 []]),.cl (.int .i64 5)] [])) (some (.ret [.cl (.agg [.int .i64 g,.sli .u8 b,.slg 3 []]),.cl (.int .i64 0)] []))) none
def EVRId:Env:= {mkE BVRId qa1 9 with xl:=lk none [(0,some [2,3])]}
def xb5b (o:LI):OO:=cond (qs5 o) (let r1:=qa3 o;cond (qrg 6 r1) (let r2:Int:=(qfq 6 r1).1;let r3:LI:=(qfq 6 r1).2.1;let r4:=qb2;let r5:Int:=(qfq 6 r1).2.2;some (.ret [.cl (.agg [.int .i64 r2,.sli .u8 r3,.slg 3 r4]),.cl (.int .i64 r5)] [])) none) none
def EVRBytes:Env:= {mkE BVRBytes qa1 5 with xl:=lk none [(0,some [2])]}
def xbpu (b:LI):OO:=some (.ret [.cl (.agg [.int .i64 4,.sli .u8 b,.slg 3 []])] [])
def EVClone:Env:= {mkE BVClone qa1 8 with xl:=lk none [(0,some [2])]}
def xbkd (l:LC):OO:=cond (Nat.beq l.length 0) (xbp3 (some (.ret [.cl (.slg 3 [])] [])) (let l1:=[]++l;rmK l1.length 56<| some (.ret [.cl (.slg 3 l1)] []))) (let l2:=[]++l;rmK l2.length 56<| some (.ret [.cl (.slg 3 l2)] []))
def EVSeq:Env:= {mkE BVSeq qa1 6 with xl:=lk none [(0,some [2])]}
def xb4p (l:LC):OO:=cond (qbl l) (some (.ret [.cl (.agg [.int .i64 48,.sli .u8 [],.slg 3 l])] [])) none
def EVBox:Env:= {mkE BVBox qa1 18 with xl:=lk none [(0,some [4,5])]}
def xb4a (g:Int) (l:LC):OO:=cond (decide (g<0)) (some (.ret [.cl (.agg [.int .i64 0,.sli .u8 [],.slg 3 []]),.cl (.int .i64 8)] [])) (cond (decide ((30:Int)<g)) (some (.ret [.cl (.agg [.int .i64 0,.sli .u8 [],.slg 3 []]),.cl (.int .i64 8)] [])) (let x1:=IntKind.i64.wrap ((160:Int)+g);cond (qbl l) (some (.ret [.cl (.agg [.int .i64 x1,.sli .u8 [],.slg 3 l]),.cl (.int .i64 0)] [])) none))
def EVKids:Env:= {mkE BVKids qa1 24 with xl:=lk none [(0,some [4,5])]}
def xbyi (t:Int) (b:LI) (k:LC) (g:Int):OO:=cond (!decide (t=g)) (some (.ret [.cl (.slg 3 []),.cl (.int .i64 4)] [])) (let r1:=qbj g;cond (!r1) (some (.ret [.cl (.slg 3 []),.cl (.int .i64 4)] [])) (cond (decide ((0:Int)<(b.length:Int))) (some (.ret [.cl (.slg 3 []),.cl (.int .i64 5)] [])) (cond (qbl k) (some (.ret [.cl (.slg 3 k),.cl (.int .i64 0)] [])) none)))
def EVRSeq:Env:= {mkE BVRSeq qa1 5 with xl:=lk none [(0,some [2])]}
def xb1o (l:LC):OO:=some (.ret [.cl (.agg [.int .i64 48,.sli .u8 [],.slg 3 l])] [])
def EVRBox:Env:= {mkE BVRBox qa1 17 with xl:=lk none [(0,some [4,5])]}
def xbt7 (g:Int) (l:LC):OO:=cond (decide (g<0)) (some (.ret [.cl (.agg [.int .i64 0,.sli .u8 [],.slg 3 []]),.cl (.int .i64 8)] [])) (cond (decide ((30:Int)<g)) (some (.ret [.cl (.agg [.int .i64 0,.sli .u8 [],.slg 3 []]),.cl (.int .i64 8)] [])) (let x1:=IntKind.i64.wrap ((160:Int)+g);some (.ret [.cl (.agg [.int .i64 x1,.sli .u8 [],.slg 3 l]),.cl (.int .i64 0)] [])))
def EARoot:Env:= {mkE BARoot qa1 20 with xl:=lk none [(0,some [2])]}
def xbmy:OO:=some (.ret [.ref 0 0 8 true 1] [some ⟨.ints .u32 [2,16,840,1,101,3,4,2],false⟩])
def xbq4:OO:=some (.ret [.ref 0 0 8 true 1] [some ⟨.ints .u32 [2,16,840,1,101,3,4,3],false⟩])
def xbpw:OO:=some (.ret [.ref 0 0 8 true 1] [some ⟨.ints .u32 [2,16,840,1,101,3,4,4],false⟩])
def xbp1:OO:=some (.ret [.ref 0 0 8 true 1] [some ⟨.ints .u32 [2,16,840,1,101,3,4,1],false⟩])
def xbok:OO:=some (.ret [.ref 0 0 8 true 1] [some ⟨.ints .u32 [1,2,840,113549,1,9,16,3],false⟩])
def xbo4:OO:=some (.ret [.ref 0 0 2 true 1] [some ⟨.ints .u32 [2,999],false⟩])
def EAAll:Env:= {mkE BAAll qa1 1 with xl:=lk none [(0,some [0])]}
def xb5n:OO:=some (.ret [.cl (.fn (.func 175) [] [])] [])
def qs8 (again:Int->OO) (k0:Int->Int->Int->LI->OO) (k1:Int->OO) (e1:Int) (e2:Int) (e3:LI) (v1:Int):OO:=cond (decide (e1=v1)) (k0 v1 e1 e2 e3) (again v1)
def qhx (k0:Int->Int->Int->LI->OO) (k1:Int->OO):List LC->Int->OO|[]=>fun v1=>k1 v1|x::r=>qs8 (qhx k0 k1 r) k0 k1 (qft ((cell1 (x.getD 0 .nili)).getD 0 .nili)) (qft ((cell1 (x.getD 0 .nili)).getD 1 .nili)) (qb7 ((cell1 (x.getD 0 .nili)).getD 2 .nili))
def qwh:St->List LC->(KT)->OO:=fun σ xs k=>match σ with|⟨[(q1,.ptr q2 q3 q4),(q5,.ptr q6 q7 q8)],[(q9,⟨.var [.cl (.int .i64 v1)],false⟩),(q10,⟨.var [.cl (.int .i64 q11),.cl (.int .i64 q12),.nils],false⟩)]⟩=>cond (List.all xs ql9) (cond (eqL [q1,q2,q3,q4,q5,q6,q7,q8,q9,q10] [1,0,0,0,2,1,0,0,0,1]&&(decide (q11=0)&&decide (q12=0))) (shut (qhx (fun y1 y2 y3 y4=>k .ret ⟨[(1,.ptr 0 0 0),(2,.ptr 1 0 0)],[(0,⟨.var [.cl (.int .i64 y1)],false⟩),(1,⟨.var [.cl (.int .i64 y2),.cl (.int .i64 y3),.cl (.sli .u32 y4)],false⟩)]⟩) (fun y1=>k .normal ⟨[(1,.ptr 0 0 0),(2,.ptr 1 0 0)],[(0,⟨.var [.cl (.int .i64 y1)],false⟩),(1,⟨.var [.cl (.int .i64 0),.cl (.int .i64 0),.nils],false⟩)]⟩)) xs v1) none) none|_=>none
def EAFound:Env:= {
 orc:=fun g=>cond (Nat.beq g 138) ((kT KAAll)) (fun _ _=>Tree.fail)
 pre:=fun g=>cond (Nat.beq g 138) ((kP KAAll)) (cond (Nat.beq g 175) q3e (fun _ _=>true))
 live:=fun r=>cond (Nat.beq r 2) ([1,2]) ([])
 glob:=qa1
 nt:=12
 xl:=fun r=>cond (Nat.beq r 0) (some [2]) (none)
 lowr:=fun r=>cond (Nat.beq r 2) ([(65,0),(66,1)]) ([])
 sq:=fun g=>cond (Nat.beq g 175) q7y (fun _ _=>none)
 rf:=fun r=>cond (Nat.beq r 2) (some (qwh)) (none)
}
def qki:Code:=Cd.fst (Cd.fst (Cd.snd (Cd.fst (Cd.snd (Tryz.f116.body.getD .skip)))))
def qkl:Code:=Cd.snd (Cd.fst (Cd.snd (Cd.fst (Cd.snd (Tryz.f116.body.getD .skip)))))
theorem qs6 (k:KT) (r:List LC) (e1:Int) (e2:Int) (e3:LI) (v1:Int):qgk (EAFound) 12 2 [5] (qb1 Tryz.prog (EAFound) 40 qki) (qb1 Tryz.prog (EAFound) 40 qkl) ([.agg [.int .i64 e1,.int .i64 e2,.sli .u32 e3]]::r) ⟨[(1,.ptr 0 0 0),(2,.ptr 1 0 0)],[(0,⟨.var [.cl (.int .i64 v1)],false⟩),(1,⟨.var [.cl (.int .i64 0),.cl (.int .i64 0),.nils],false⟩)]⟩ k=qs8 (fun v1=>qgk (EAFound) 12 2 [5] (qb1 Tryz.prog (EAFound) 40 qki) (qb1 Tryz.prog (EAFound) 40 qkl) r ⟨[(1,.ptr 0 0 0),(2,.ptr 1 0 0)],[(0,⟨.var [.cl (.int .i64 v1)],false⟩),(1,⟨.var [.cl (.int .i64 0),.cl (.int .i64 0),.nils],false⟩)]⟩ k) (fun y1 y2 y3 y4=>k .ret ⟨[(1,.ptr 0 0 0),(2,.ptr 1 0 0)],[(0,⟨.var [.cl (.int .i64 y1)],false⟩),(1,⟨.var [.cl (.int .i64 y2),.cl (.int .i64 y3),.cl (.sli .u32 y4)],false⟩)]⟩) (fun y1=>k .normal ⟨[(1,.ptr 0 0 0),(2,.ptr 1 0 0)],[(0,⟨.var [.cl (.int .i64 y1)],false⟩),(1,⟨.var [.cl (.int .i64 0),.cl (.int .i64 0),.nils],false⟩)]⟩) e1 e2 e3 v1:=by kernel_rfl
theorem qo0 (k:KT): ∀(xs:List LC),List.all xs ql9=true->∀(v1:Int),qgk (EAFound) 12 2 [5] (qb1 Tryz.prog (EAFound) 40 qki) (qb1 Tryz.prog (EAFound) 40 qkl) xs ⟨[(1,.ptr 0 0 0),(2,.ptr 1 0 0)],[(0,⟨.var [.cl (.int .i64 v1)],false⟩),(1,⟨.var [.cl (.int .i64 0),.cl (.int .i64 0),.nils],false⟩)]⟩ k=qhx (fun y1 y2 y3 y4=>k .ret ⟨[(1,.ptr 0 0 0),(2,.ptr 1 0 0)],[(0,⟨.var [.cl (.int .i64 y1)],false⟩),(1,⟨.var [.cl (.int .i64 y2),.cl (.int .i64 y3),.cl (.sli .u32 y4)],false⟩)]⟩) (fun y1=>k .normal ⟨[(1,.ptr 0 0 0),(2,.ptr 1 0 0)],[(0,⟨.var [.cl (.int .i64 y1)],false⟩),(1,⟨.var [.cl (.int .i64 0),.cl (.int .i64 0),.nils],false⟩)]⟩) xs v1
 | [],_=>by intros;rfl
 | x::r,h=>by
  intros
  simp only[zcl,zab] at h
  obtain⟨e1,e2,e3,rfl⟩:=qzt h.1
  rw[qs6]
  have ih:=qo0 k r h.2
  simp only[ih]
  rfl
theorem q0x: ∀(σ:St) (xs:List LC) (k:KT) (r:Out),qwh σ xs k=some r->qgk (EAFound) 12 2 [5] (qb1 Tryz.prog (EAFound) 40 qki) (qb1 Tryz.prog (EAFound) 40 qkl) xs σ k=some r:=by
 intro σ xs k r h
 unfold qwh at h
 split at h
 ·obtain⟨hx,j⟩:=qaa h
  obtain⟨hc,j⟩:=qaa j
  simp only[zab,qdu,decide_eq_true_eq,zal] at hc
  obtain⟨hc,rfl,rfl⟩:=hc
  cases qbe hc
  rw[qab] at j
  exact(qo0 k xs hx _).trans j
 ·cases h
theorem q6f: ∀c,Tryz.f116.body=some c->qbi Tryz.prog (EAFound) 40 c:=by
 intro c hc
 cases hc
 exact⟨trivial,⟨⟨trivial,⟨trivial,qp7 _ (by kernel_rfl),rfl,rfl,xbaj rfl (q0x)⟩,qf8 rfl⟩,⟨trivial,trivial,qf8 rfl⟩,qf8 rfl⟩,qf8 rfl⟩
def q9z (g:Int):OO:=cond (List.all qou ql9) (shut (qhx (fun y1 y2 y3 y4=>some (.ret [.cl (.agg [.int .i64 y2,.int .i64 y3,.sli .u32 y4])] [])) (fun y5=>some (.ret [.cl (.agg [.int .i64 0,.int .i64 0,.sli .u32 []])] []))) qou g) none
theorem xbec (g:Int):qo1 Tryz.prog (EAFound) 40 false Tryz.f116 [.cl (.int .i64 g)] []=q9z g:=by kernel_rfl
def EAGroup:Env:= {mkE BAGroup qa1 6 with xl:=lk none [(0,some [2])]}
def xbvp (g:Int):OO:=let r2:Int:=(qa6 g).2.1;some (.ret [.cl (.int .i64 r2)] [])
def EAId:Env:= {mkE BAId qa1 6 with xl:=lk none [(0,some [2])]}
def gAId (g:Int):OO:=let r3:LI:=(qa6 g).2.2;some (.ret [.cl (.sli .u32 r3)] [])
def xbeh (again:LI->OO) (k0:LI->Int->OO) (k1:LI->OO) (e1:Int) (e2:Int) (e3:LI) (v1:LI):OO:=cond (qc6 e3) (let r1:=qcj e3 v1;cond (r1) (k0 v1 e1) (again v1)) none
def qtv (k0:LI->Int->OO) (k1:LI->OO):List LC->LI->OO|[]=>fun v1=>k1 v1|x::r=>xbeh (qtv k0 k1 r) k0 k1 (qft ((cell1 (x.getD 0 .nili)).getD 0 .nili)) (qft ((cell1 (x.getD 0 .nili)).getD 1 .nili)) (qb7 ((cell1 (x.getD 0 .nili)).getD 2 .nili))
def xbn3:St->List LC->(KT)->OO:=fun σ xs k=>match σ with|⟨[(q1,.ptr q2 q3 q4),(q5,.ptr q6 q7 q8)],[(q9,⟨.var [.cl (.sli .u32 v1)],false⟩),(q10,⟨.var [.cl (.int .i64 q11)],false⟩)]⟩=>cond (List.all xs ql9) (cond (eqL [q1,q2,q3,q4,q5,q6,q7,q8,q9,q10] [1,0,0,0,2,1,0,0,0,1]&&decide (q11=0)) (shut (qtv (fun y1 y2=>k .ret ⟨[(1,.ptr 0 0 0),(2,.ptr 1 0 0)],[(0,⟨.var [.cl (.sli .u32 y1)],false⟩),(1,⟨.var [.cl (.int .i64 y2)],false⟩)]⟩) (fun y1=>k .normal ⟨[(1,.ptr 0 0 0),(2,.ptr 1 0 0)],[(0,⟨.var [.cl (.sli .u32 y1)],false⟩),(1,⟨.var [.cl (.int .i64 0)],false⟩)]⟩)) xs v1) none) none|_=>none
def EAOf:Env:= {
 orc:=fun g=>cond (Nat.beq g 138) ((kT KAAll)) (cond (Nat.beq g 139) ((kT KOSame)) (fun _ _=>Tree.fail))
 pre:=fun g=>cond (Nat.beq g 138) ((kP KAAll)) (cond (Nat.beq g 139) ((kP KOSame)) (cond (Nat.beq g 175) q3e (fun _ _=>true)))
 live:=fun r=>cond (Nat.beq r 2) ([1,2]) ([])
 glob:=qa1
 nt:=12
 xl:=fun r=>cond (Nat.beq r 0) (some [2]) (none)
 lowr:=fun r=>cond (Nat.beq r 2) ([(65,0),(66,1)]) ([])
 sq:=fun g=>cond (Nat.beq g 175) q7y (fun _ _=>none)
 rf:=fun r=>cond (Nat.beq r 2) (some (xbn3)) (none)
}
def qvu:Code:=Cd.fst (Cd.fst (Cd.snd (Cd.fst (Cd.snd (Tryz.f94.body.getD .skip)))))
def qwe:Code:=Cd.snd (Cd.fst (Cd.snd (Cd.fst (Cd.snd (Tryz.f94.body.getD .skip)))))
theorem q2t (k:KT) (r:List LC) (e1:Int) (e2:Int) (e3:LI) (v1:LI):qgk (EAOf) 12 2 [5] (qb1 Tryz.prog (EAOf) 40 qvu) (qb1 Tryz.prog (EAOf) 40 qwe) ([.agg [.int .i64 e1,.int .i64 e2,.sli .u32 e3]]::r) ⟨[(1,.ptr 0 0 0),(2,.ptr 1 0 0)],[(0,⟨.var [.cl (.sli .u32 v1)],false⟩),(1,⟨.var [.cl (.int .i64 0)],false⟩)]⟩ k=xbeh (fun v1=>qgk (EAOf) 12 2 [5] (qb1 Tryz.prog (EAOf) 40 qvu) (qb1 Tryz.prog (EAOf) 40 qwe) r ⟨[(1,.ptr 0 0 0),(2,.ptr 1 0 0)],[(0,⟨.var [.cl (.sli .u32 v1)],false⟩),(1,⟨.var [.cl (.int .i64 0)],false⟩)]⟩ k) (fun y1 y2=>k .ret ⟨[(1,.ptr 0 0 0),(2,.ptr 1 0 0)],[(0,⟨.var [.cl (.sli .u32 y1)],false⟩),(1,⟨.var [.cl (.int .i64 y2)],false⟩)]⟩) (fun y1=>k .normal ⟨[(1,.ptr 0 0 0),(2,.ptr 1 0 0)],[(0,⟨.var [.cl (.sli .u32 y1)],false⟩),(1,⟨.var [.cl (.int .i64 0)],false⟩)]⟩) e1 e2 e3 v1:=by kernel_rfl
theorem qzo (k:KT): ∀(xs:List LC),List.all xs ql9=true->∀(v1:LI),qgk (EAOf) 12 2 [5] (qb1 Tryz.prog (EAOf) 40 qvu) (qb1 Tryz.prog (EAOf) 40 qwe) xs ⟨[(1,.ptr 0 0 0),(2,.ptr 1 0 0)],[(0,⟨.var [.cl (.sli .u32 v1)],false⟩),(1,⟨.var [.cl (.int .i64 0)],false⟩)]⟩ k=qtv (fun y1 y2=>k .ret ⟨[(1,.ptr 0 0 0),(2,.ptr 1 0 0)],[(0,⟨.var [.cl (.sli .u32 y1)],false⟩),(1,⟨.var [.cl (.int .i64 y2)],false⟩)]⟩) (fun y1=>k .normal ⟨[(1,.ptr 0 0 0),(2,.ptr 1 0 0)],[(0,⟨.var [.cl (.sli .u32 y1)],false⟩),(1,⟨.var [.cl (.int .i64 0)],false⟩)]⟩) xs v1
 | [],_=>by intros;rfl
 | x::r,h=>by
  intros
  simp only[zcl,zab] at h
  obtain⟨e1,e2,e3,rfl⟩:=qzt h.1
  rw[q2t]
  have ih:=qzo k r h.2
  simp only[ih]
  rfl
theorem xbir: ∀(σ:St) (xs:List LC) (k:KT) (r:Out),xbn3 σ xs k=some r->qgk (EAOf) 12 2 [5] (qb1 Tryz.prog (EAOf) 40 qvu) (qb1 Tryz.prog (EAOf) 40 qwe) xs σ k=some r:=by
 intro σ xs k r h
 unfold xbn3 at h
 split at h
 ·obtain⟨hx,j⟩:=qaa h
  obtain⟨hc,j⟩:=qaa j
  simp only[zab,qdu,decide_eq_true_eq,zal] at hc
  obtain⟨hc,rfl⟩:=hc
  cases qbe hc
  rw[qab] at j
  exact(qzo k xs hx _).trans j
 ·cases h
theorem xbm5: ∀c,Tryz.f94.body=some c->qbi Tryz.prog (EAOf) 40 c:=by
 intro c hc
 cases hc
 exact⟨trivial,⟨⟨trivial,⟨trivial,qp7 _ (by kernel_rfl),rfl,rfl,xbaj rfl (xbir)⟩,qf8 rfl⟩,⟨trivial,trivial,qf8 rfl⟩,qf8 rfl⟩,qf8 rfl⟩
def gAOf (o:LI):OO:=cond (List.all qou ql9) (shut (qtv (fun y1 y2=>some (.ret [.cl (.int .i64 y2)] [])) (fun y3=>some (.ret [.cl (.int .i64 0)] []))) qou o) none
theorem xbth (o:LI):qo1 Tryz.prog (EAOf) 40 false Tryz.f94 [.cl (.sli .u32 o)] []=gAOf o:=by kernel_rfl
def qgf (k0:OO) (k1:OO) (k2:OO) (v1:Int):OO:=cond (decide ((81:Int)<=v1)) (cond (decide (v1<=83)) (k0) (cond (decide ((91:Int)<=v1)) (cond (decide (v1<=93)) (k1) (k2)) (k2))) (cond (decide ((91:Int)<=v1)) (cond (decide (v1<=93)) (k1) (k2)) (k2))
def qg8 (k0:OO) (k1:OO) (k2:OO) (k3:OO) (k4:OO) (v1:Int):OO:=cond (decide ((61:Int)<=v1)) (cond (decide (v1<=63)) (k0) (cond (decide ((71:Int)<=v1)) (cond (decide (v1<=73)) (k1) (shut (qgf (k2) (k3) (k4)) v1)) (shut (qgf (k2) (k3) (k4)) v1))) (cond (decide ((71:Int)<=v1)) (cond (decide (v1<=73)) (k1) (shut (qgf (k2) (k3) (k4)) v1)) (shut (qgf (k2) (k3) (k4)) v1))
def qe2 (k0:OO) (k1:OO) (k2:OO) (k3:OO) (k4:OO) (k5:OO) (v1:Int):OO:=cond (decide ((51:Int)<=v1)) (cond (decide (v1<=53)) (k0) (shut (qg8 (k1) (k2) (k3) (k4) (k5)) v1)) (shut (qg8 (k1) (k2) (k3) (k4) (k5)) v1)
def qhd (k0:OO) (k1:OO) (k2:OO) (k3:OO) (k4:OO) (k5:OO) (k6:OO) (v1:Int):OO:=cond (decide ((11:Int)<=v1)) (cond (decide (v1<=13)) (k0) (cond (decide ((21:Int)<=v1)) (cond (decide (v1<=34)) (k0) (cond (decide (v1=41)) (k0) (shut (qe2 (k1) (k2) (k3) (k4) (k5) (k6)) v1))) (cond (decide (v1=41)) (k0) (shut (qe2 (k1) (k2) (k3) (k4) (k5) (k6)) v1)))) (cond (decide ((21:Int)<=v1)) (cond (decide (v1<=34)) (k0) (cond (decide (v1=41)) (k0) (shut (qe2 (k1) (k2) (k3) (k4) (k5) (k6)) v1))) (cond (decide (v1=41)) (k0) (shut (qe2 (k1) (k2) (k3) (k4) (k5) (k6)) v1)))
def qp4:St->(KT)->OO:=fun σ k=>match σ with|⟨[(q1,.cl (.int .i64 v1))],[]⟩=>cond (eqL [q1] [0]) (shut (qhd (k .ret ⟨[(2,.cl (.int .i64 2))],[]⟩) (k .ret ⟨[(2,.cl (.int .i64 3))],[]⟩) (k .ret ⟨[(2,.cl (.int .i64 4))],[]⟩) (k .ret ⟨[(2,.cl (.int .i64 5))],[]⟩) (k .ret ⟨[(2,.cl (.int .i64 6))],[]⟩) (k .ret ⟨[(2,.cl (.int .i64 7))],[]⟩) (k .normal ⟨[],[]⟩)) v1) none|_=>none
def qr0:St->(KT)->OO:=fun σ k=>match σ with|⟨[(q1,.cl (.int .i64 v1))],[]⟩=>cond (eqL [q1] [0]) (shut (qe2 (k .ret ⟨[(2,.cl (.int .i64 3))],[]⟩) (k .ret ⟨[(2,.cl (.int .i64 4))],[]⟩) (k .ret ⟨[(2,.cl (.int .i64 5))],[]⟩) (k .ret ⟨[(2,.cl (.int .i64 6))],[]⟩) (k .ret ⟨[(2,.cl (.int .i64 7))],[]⟩) (k .normal ⟨[],[]⟩)) v1) none|_=>none
def qqw:St->(KT)->OO:=fun σ k=>match σ with|⟨[(q1,.cl (.int .i64 v1))],[]⟩=>cond (eqL [q1] [0]) (shut (qg8 (k .ret ⟨[(2,.cl (.int .i64 4))],[]⟩) (k .ret ⟨[(2,.cl (.int .i64 5))],[]⟩) (k .ret ⟨[(2,.cl (.int .i64 6))],[]⟩) (k .ret ⟨[(2,.cl (.int .i64 7))],[]⟩) (k .normal ⟨[],[]⟩)) v1) none|_=>none
def qn9:St->(KT)->OO:=fun σ k=>match σ with|⟨[(q1,.cl (.int .i64 v1))],[]⟩=>cond (eqL [q1] [0]) (shut (qgf (k .ret ⟨[(2,.cl (.int .i64 6))],[]⟩) (k .ret ⟨[(2,.cl (.int .i64 7))],[]⟩) (k .normal ⟨[],[]⟩)) v1) none|_=>none
def EARGroup:Env:= {mkE BARGroup qa1 64 with live:=lk [] [(3,[0]),(5,[0]),(7,[0]),(11,[0])],xl:=lk none [(0,some [2]),(1003,some []),(1005,some []),(1007,some []),(1011,some [])],jn:=lk none [(3,some qp4),(5,some qr0),(7,some qqw),(11,some qn9)]}
theorem qx0:JnOk Tryz.prog (EARGroup) 40 (nthc (EARGroup) Tryz.f108 3) 3 qp4:=by
 intro σ k r h
 unfold qp4 at h
 split at h
 ·obtain⟨hc,j⟩:=qaa h
  cases qbe hc
  rw[qab] at j
  exact zdx (by kernel_rfl) j
 ·cases h
theorem qyb:JnOk Tryz.prog (EARGroup) 40 (nthc (EARGroup) Tryz.f108 2) 5 qr0:=by
 intro σ k r h
 unfold qr0 at h
 split at h
 ·obtain⟨hc,j⟩:=qaa h
  cases qbe hc
  rw[qab] at j
  exact zdx (by kernel_rfl) j
 ·cases h
theorem qzv:JnOk Tryz.prog (EARGroup) 40 (nthc (EARGroup) Tryz.f108 1) 7 qqw:=by
 intro σ k r h
 unfold qqw at h
 split at h
 ·obtain⟨hc,j⟩:=qaa h
  cases qbe hc
  rw[qab] at j
  exact zdx (by kernel_rfl) j
 ·cases h
theorem qw9:JnOk Tryz.prog (EARGroup) 40 (nthc (EARGroup) Tryz.f108 0) 11 qn9:=by
 intro σ k r h
 unfold qn9 at h
 split at h
 ·obtain⟨hc,j⟩:=qaa h
  cases qbe hc
  rw[qab] at j
  exact zdx (by kernel_rfl) j
 ·cases h
def qr4 (g:Int):OO:=cond (decide ((1:Int)<=g)) (cond (decide (g<=7)) (some (.ret [.cl (.int .i64 1)] [])) (shut (qhd (some (.ret [.cl (.int .i64 2)] [])) (some (.ret [.cl (.int .i64 3)] [])) (some (.ret [.cl (.int .i64 4)] [])) (some (.ret [.cl (.int .i64 5)] [])) (some (.ret [.cl (.int .i64 6)] [])) (some (.ret [.cl (.int .i64 7)] [])) (some (.ret [.cl (.int .i64 0)] []))) g)) (shut (qhd (some (.ret [.cl (.int .i64 2)] [])) (some (.ret [.cl (.int .i64 3)] [])) (some (.ret [.cl (.int .i64 4)] [])) (some (.ret [.cl (.int .i64 5)] [])) (some (.ret [.cl (.int .i64 6)] [])) (some (.ret [.cl (.int .i64 7)] [])) (some (.ret [.cl (.int .i64 0)] []))) g)
def EARId:Env:= {mkE BARId qa1 80 with xl:=lk none [(0,some [2])]}
def xbtn (g:Int):OO:=let x1:=Int.tmod g 10;let x2:=IntKind.u32.wrap x1;let r3:Int:=(qa6 g).2.1;cond (decide (r3=1)) (cond (decide ((0:Int)<=g)) (cond (decide (g<8)) (Option.bind ([0,1,2,3,8,10,11,12][(0+(Int.toNat g))]?) fun(e4:Int)=>let r5:=qiy 2 e4;some (.ret [.cl (.sli .u32 r5)] [])) none) none) (cond (decide (r3=2)) (cond (decide (g<=13)) (let x6:=IntKind.u32.wrap ((16:Int)+x2);let r7:=qiy 3 x6;some (.ret [.cl (.sli .u32 r7)] [])) (cond (decide (g=41)) (cond (qc6 [9,16,3,17]) (let r8:=qty [9,16,3,17];some (.ret [.cl (.sli .u32 r8)] [])) none) (cond (decide ((33:Int)<=g)) (let x9:=IntKind.i64.wrap (g - 32);let x10:=IntKind.u32.wrap x9;some (.ret [.cl (.sli .u32 [2,999,x10])] [])) (let x11:=IntKind.i64.wrap (g - 20);let x12:=IntKind.u32.wrap x11;let x13:=Int.tmod x12 2;cond (decide (x13=1)) (let x14:=IntKind.u32.wrap (x12 - 1);let x15:=IntKind.u32.wrap (Int.tdiv x14 2);let x16:=IntKind.u32.wrap ((20:Int)+x15);let r17:=qiy 3 x16;some (.ret [.cl (.sli .u32 r17)] [])) (let x18:=IntKind.u32.wrap (x12 - 2);let x19:=IntKind.u32.wrap (Int.tdiv x18 2);let x20:=IntKind.u32.wrap ((26:Int)+x19);let r21:=qiy 3 x20;some (.ret [.cl (.sli .u32 r21)] [])))))) (cond (decide (r3=3)) (let r22:=qiy 4 x2;some (.ret [.cl (.sli .u32 r22)] [])) (cond (decide (r3=4)) (let x23:=IntKind.u32.wrap ((27:Int)+x2);cond (qc6 [9,16,3,x23]) (let r24:=qty [9,16,3,x23];some (.ret [.cl (.sli .u32 r24)] [])) none) (cond (decide (r3=5)) (let x25:=IntKind.u32.wrap ((20:Int)*x2);let x26:=IntKind.u32.wrap (x25 - 15);let r27:=qiy 1 x26;some (.ret [.cl (.sli .u32 r27)] [])) (cond (decide (r3=6)) (let x28:=IntKind.u32.wrap ((20:Int)*x2);let x29:=IntKind.u32.wrap (x28 - 18);let r30:=qiy 1 x29;some (.ret [.cl (.sli .u32 r30)] [])) (cond (decide (r3=7)) (let x31:=IntKind.u32.wrap ((20:Int)*x2);let x32:=IntKind.u32.wrap (x31 - 14);let r33:=qiy 1 x32;some (.ret [.cl (.sli .u32 r33)] [])) (some (.ret [.cl (.sli .u32 [])] []))))))))
def EARNist:Env:= {mkE BARNist qa1 8 with xl:=lk none [(0,some [4])]}
def xbwd (g:Int) (h:Int):OO:=some (.ret [.cl (.sli .u32 [2,16,840,1,101,3,4,g,h])] [])
def EARPkcs:Env:= {mkE BARPkcs qa1 8 with xl:=lk none [(0,some [2])]}
def xbj5 (o:LI):OO:=let l1:=[1,2,840,113549,1]++o;rmK l1.length 4<| some (.ret [.cl (.sli .u32 l1)] [])
def EAUsed:Env:= {mkE BAUsed qa1 8 with xl:=lk none [(0,some [2])]}
def xbzj (g:Int):OO:=cond (decide (g=6)) (some (.ret [.cl (.int .i64 16)] [])) (cond (decide (g=7)) (some (.ret [.cl (.int .i64 12)] [])) (some (.ret [.cl (.int .i64 0)] [])))
def EANode:Env:= {mkE BANode qa1 52 with xl:=lk none [(0,some [4,5])]}
def xbvo (g:Int) (b:LI):OO:=let r2:Int:=(qa6 g).2.1;let r3:LI:=(qa6 g).2.2;cond (decide (r2=0)) (some (.ret [.cl (.agg [.int .i64 0,.sli .u8 [],.slg 3 []]),.cl (.int .i64 9)] [])) (let r4:=qi0 r2;cond (!decide ((b.length:Int)=r4)) (some (.ret [.cl (.agg [.int .i64 0,.sli .u8 [],.slg 3 []]),.cl (.int .i64 14)] [])) (cond (idOk r3) (let r5:Int:=(qfq 6 (qa3 r3)).1;let r6:LI:=(qfq 6 (qa3 r3)).2.1;let r7:=qb2;cond (decide (r2=6)) (cond (qc6 b) (let r9:=qb2;cond (qbl ([.agg [.int .i64 r5,.sli .u8 r6,.slg 3 r7],.agg [.int .i64 4,.sli .u8 b,.slg 3 r9]])) (let r10:=qa0;some (.ret [.cl (.agg [.int .i64 48,.sli .u8 r10,.slg 3 ([.agg [.int .i64 r5,.sli .u8 r6,.slg 3 r7],.agg [.int .i64 4,.sli .u8 b,.slg 3 r9]])]),.cl (.int .i64 0)] [])) none) none) (cond (decide (r2=7)) (cond (qc6 b) (let r11:=qb2;cond (q67 16) (let r12:=vInt 16;let r13:=qb2;cond (qbl ([.agg [.int .i64 4,.sli .u8 b,.slg 3 r11],.agg [.int .i64 2,.sli .u8 r12,.slg 3 r13]])) (let r14:=qa0;cond (qbl ([.agg [.int .i64 r5,.sli .u8 r6,.slg 3 r7],.agg [.int .i64 48,.sli .u8 r14,.slg 3 ([.agg [.int .i64 4,.sli .u8 b,.slg 3 r11],.agg [.int .i64 2,.sli .u8 r12,.slg 3 r13]])]])) (let r15:=qa0;some (.ret [.cl (.agg [.int .i64 48,.sli .u8 r15,.slg 3 ([.agg [.int .i64 r5,.sli .u8 r6,.slg 3 r7],.agg [.int .i64 48,.sli .u8 r14,.slg 3 ([.agg [.int .i64 4,.sli .u8 b,.slg 3 r11],.agg [.int .i64 2,.sli .u8 r12,.slg 3 r13]])]])]),.cl (.int .i64 0)] [])) none) none) none) none) (cond (qbl ([.agg [.int .i64 r5,.sli .u8 r6,.slg 3 r7]])) (let r16:=qa0;some (.ret [.cl (.agg [.int .i64 48,.sli .u8 r16,.slg 3 ([.agg [.int .i64 r5,.sli .u8 r6,.slg 3 r7]])]),.cl (.int .i64 0)] [])) none))) none))
def EARNode:Env:= {mkE BARNode qa1 49 with xl:=lk none [(0,some [4,5])]}
def xbj3 (g:Int) (b:LI):OO:=let r1:Int:=(qa6 g).2.1;cond (decide (r1=0)) (some (.ret [.cl (.agg [.int .i64 0,.sli .u8 [],.slg 3 []]),.cl (.int .i64 9)] [])) (cond (decide (r1=6)) (cond (!decide ((b.length:Int)=16)) (some (.ret [.cl (.agg [.int .i64 0,.sli .u8 [],.slg 3 []]),.cl (.int .i64 14)] [])) (let r2:LI:=(qa6 g).2.2;cond (idOk r2) (let r3:Int:=(qfq 6 (qa3 r2)).1;let r4:LI:=(qfq 6 (qa3 r2)).2.1;let r5:=qb2;cond (qc6 b) (let r7:=qb2;cond (qbl ([.agg [.int .i64 r3,.sli .u8 r4,.slg 3 r5],.agg [.int .i64 4,.sli .u8 b,.slg 3 r7]])) (let r8:=qa0;some (.ret [.cl (.agg [.int .i64 48,.sli .u8 r8,.slg 3 ([.agg [.int .i64 r3,.sli .u8 r4,.slg 3 r5],.agg [.int .i64 4,.sli .u8 b,.slg 3 r7]])]),.cl (.int .i64 0)] [])) none) none) none)) (cond (decide (r1=7)) (cond (!decide ((b.length:Int)=12)) (some (.ret [.cl (.agg [.int .i64 0,.sli .u8 [],.slg 3 []]),.cl (.int .i64 14)] [])) (let r9:LI:=(qa6 g).2.2;cond (idOk r9) (let r10:Int:=(qfq 6 (qa3 r9)).1;let r11:LI:=(qfq 6 (qa3 r9)).2.1;let r12:=qb2;cond (qc6 b) (let r14:=qb2;cond (q67 16) (let r15:=vInt 16;let r16:=qb2;cond (qbl ([.agg [.int .i64 4,.sli .u8 b,.slg 3 r14],.agg [.int .i64 2,.sli .u8 r15,.slg 3 r16]])) (let r17:=qa0;cond (qbl ([.agg [.int .i64 r10,.sli .u8 r11,.slg 3 r12],.agg [.int .i64 48,.sli .u8 r17,.slg 3 ([.agg [.int .i64 4,.sli .u8 b,.slg 3 r14],.agg [.int .i64 2,.sli .u8 r15,.slg 3 r16]])]])) (let r18:=qa0;some (.ret [.cl (.agg [.int .i64 48,.sli .u8 r18,.slg 3 ([.agg [.int .i64 r10,.sli .u8 r11,.slg 3 r12],.agg [.int .i64 48,.sli .u8 r17,.slg 3 ([.agg [.int .i64 4,.sli .u8 b,.slg 3 r14],.agg [.int .i64 2,.sli .u8 r15,.slg 3 r16]])]])]),.cl (.int .i64 0)] [])) none) none) none) none) none)) (cond (!decide ((b.length:Int)=0)) (some (.ret [.cl (.agg [.int .i64 0,.sli .u8 [],.slg 3 []]),.cl (.int .i64 14)] [])) (let r19:LI:=(qa6 g).2.2;cond (idOk r19) (let r20:Int:=(qfq 6 (qa3 r19)).1;let r21:LI:=(qfq 6 (qa3 r19)).2.1;let r22:=qb2;cond (qbl ([.agg [.int .i64 r20,.sli .u8 r21,.slg 3 r22]])) (let r24:=qa0;some (.ret [.cl (.agg [.int .i64 48,.sli .u8 r24,.slg 3 ([.agg [.int .i64 r20,.sli .u8 r21,.slg 3 r22]])]),.cl (.int .i64 0)] [])) none) none))))
def EATail:Env:= {mkE BATail qa1 69 with xl:=lk none [(0,some [4,5])]}
def xbvw (g:Int) (l:LC):OO:=let r1:=qi0 g;cond (decide (r1=0)) (some (.ret [.cl (.sli .u8 []),.cl (.bool (decide ((l.length:Int)=0)))] [])) (cond (!decide ((l.length:Int)=1)) (some (.ret [.cl (.sli .u8 []),.cl (.bool false)] [])) (cond (decide ((0:Int)<(l.length:Int))) (Option.bind (l[0]?) fun(e2:CV)=>let e3:CV:=(cell1 e2).headD .nili;let e4:CV:=(cell1 e2).tail.headD .nili;let e5:CV:=(cell1 e2).tail.tail.headD .nili;cond (qh0 .i64 e3&&(qgi .u8 e4&&(qem 3 e5&&true))) (let i6:=qft e3;let l7:=qb7 e4;let l8:=qbm e5;cond (decide (g=7)) (cond (qbl l8) (let r9:LC:=(qb4 48 i6 l7 l8).1;let r10:Int:=(qb4 48 i6 l7 l8).2;cond (!decide (r10=0)) (some (.ret [.cl (.sli .u8 []),.cl (.bool false)] [])) (cond (!decide ((r9.length:Int)=2)) (some (.ret [.cl (.sli .u8 []),.cl (.bool false)] [])) (cond (decide ((1:Int)<(r9.length:Int))) (Option.bind (r9[1]?) fun(e11:CV)=>let e12:CV:=(cell1 e11).headD .nili;let e13:CV:=(cell1 e11).tail.headD .nili;let e14:CV:=(cell1 e11).tail.tail.headD .nili;cond (qh0 .i64 e12&&(qgi .u8 e13&&(qem 3 e14&&true))) (let i15:=qft e12;let l16:=qb7 e13;let l17:=qbm e14;cond (isS [.int .i64 i15,.sli .u8 l16,.slg 3 l17]) (let r18:Int:=(qdm i15 l16 l17).1;let r19:Int:=(qdm i15 l16 l17).2;cond (!decide (r19=0)) (some (.ret [.cl (.sli .u8 []),.cl (.bool false)] [])) (cond (!decide (r18=16)) (some (.ret [.cl (.sli .u8 []),.cl (.bool false)] [])) (cond (decide ((0:Int)<(r9.length:Int))) (Option.bind (r9[0]?) fun(e20:CV)=>let e21:CV:=(cell1 e20).headD .nili;let e22:CV:=(cell1 e20).tail.headD .nili;let e23:CV:=(cell1 e20).tail.tail.headD .nili;cond (qh0 .i64 e21&&(qgi .u8 e22&&(qem 3 e23&&true))) (let i24:=qft e21;let l25:=qb7 e22;let l26:=qbm e23;cond (isS [.int .i64 i24,.sli .u8 l25,.slg 3 l26]) (let r27:LI:=(qba i24 l25 l26).1;let r28:Int:=(qba i24 l25 l26).2;cond (decide (r28=0)) (let r29:=qi0 g;some (.ret [.cl (.sli .u8 r27),.cl (.bool (decide ((r27.length:Int)=r29)))] [])) (some (.ret [.cl (.sli .u8 r27),.cl (.bool false)] []))) none) none) none))) none) none) none))) none) (cond (isS [.int .i64 i6,.sli .u8 l7,.slg 3 l8]) (let r30:LI:=(qba i6 l7 l8).1;let r31:Int:=(qba i6 l7 l8).2;cond (decide (r31=0)) (let r32:=qi0 g;some (.ret [.cl (.sli .u8 r30),.cl (.bool (decide ((r30.length:Int)=r32)))] [])) (some (.ret [.cl (.sli .u8 r30),.cl (.bool false)] []))) none)) none) none))
def EARead:Env:= {mkE BARead qa1 47 with xl:=lk none [(0,some [2,3,4])]}
def xbr2 (t:Int) (b:LI) (k:LC):OO:=cond (qbl k) (let r1:LC:=(qb4 48 t b k).1;let r2:Int:=(qb4 48 t b k).2;cond (!decide (r2=0)) (some (.ret [.cl (.int .i64 0),.cl (.sli .u8 []),.cl (.int .i64 1)] [])) (cond (decide ((r1.length:Int)=0)) (some (.ret [.cl (.int .i64 0),.cl (.sli .u8 []),.cl (.int .i64 1)] [])) (cond (decide ((0:Int)<(r1.length:Int))) (Option.bind (r1[0]?) fun(e3:CV)=>let e4:CV:=(cell1 e3).headD .nili;let e5:CV:=(cell1 e3).tail.headD .nili;let e6:CV:=(cell1 e3).tail.tail.headD .nili;cond (qh0 .i64 e4&&(qgi .u8 e5&&(qem 3 e6&&true))) (let i7:=qft e4;let l8:=qb7 e5;let l9:=qbm e6;cond (isS [.int .i64 i7,.sli .u8 l8,.slg 3 l9]) (let r10:LI:=(qos i7 l8 l9).1;let r11:Int:=(qos i7 l8 l9).2;cond (!decide (r11=0)) (some (.ret [.cl (.int .i64 0),.cl (.sli .u8 []),.cl (.int .i64 1)] [])) (let r12:=qz5 r10;cond (decide (r12=0)) (some (.ret [.cl (.int .i64 0),.cl (.sli .u8 []),.cl (.int .i64 9)] [])) (let r13:Int:=(qa6 r12).2.1;cond (decide ((1:Int)<=(r1.length:Int))) (let l14:=List.drop 1 r1;cond (q1g l14) (let r15:LI:=(qhy r13 l14).1;let r16:Bool:=(qhy r13 l14).2;cond (!r16) (some (.ret [.cl (.int .i64 0),.cl (.sli .u8 []),.cl (.int .i64 1)] [])) (cond (qc6 r15) (some (.ret [.cl (.int .i64 r12),.cl (.sli .u8 r15),.cl (.int .i64 0)] [])) none)) none) none))) none) none) none))) none
def EMSize:Env:= {mkE BMSize qa1 13 with xl:=lk none [(0,some [2])]}
def xbug (k:Int):OO:=cond (decide (k<0)) (some (.ret [.cl (.int .i64 0)] [])) (cond (decide ((8:Int)<=k)) (some (.ret [.cl (.int .i64 0)] [])) (cond (decide ((0:Int)<=k)) (cond (decide (k<8)) (Option.bind ((shut (qm6.map fun l=>.aggi 2 .i64 l))[(Int.toNat k)]?) fun(e1:CV)=>let e2:CV:=(cell1 e1).getD 0 .nili;cond (qh0 .i64 e2) (let i3:=qft e2;some (.ret [.cl (.int .i64 i3)] [])) none) none) none))
def ER9Size:Env:= {mkE BR9Size qa1 15 with xl:=lk none [(0,some [2])]}
def xbko (k:Int):OO:=cond (decide (k<0)) (some (.ret [.cl (.int .i64 0)] [])) (cond (decide ((7:Int)<k)) (some (.ret [.cl (.int .i64 0)] [])) (cond (decide ((0:Int)<=k)) (cond (decide (k<8)) (Option.bind ([0,32,48,64,32,64,32,64][(0+(Int.toNat k))]?) fun(e1:Int)=>some (.ret [.cl (.int .i64 e1)] [])) none) none))
def EFDig:Env:= {mkE BFDig qa1 11 with xl:=lk none [(0,some [3,4])]}
def xb5r (b:LI) (s:Int):OO:=cond (qc6 b) (let r1:=qb2;some (.ret [.cl (.agg [.int .i64 4,.sli .u8 b,.slg 3 r1]),.cl (.bool (decide ((b.length:Int)=s)))] [some ⟨.var [.cl (.int .i64 s)],false⟩])) none
def qxi (again:Nat->LC->Int->Int->Int->LC->OO) (k0:Int->OO) (k1:Nat->Int->LC->OO) (v1:Nat) (v2:LC) (v3 v4 v5:Int) (v6:LC):OO:=cond (decide (v4<v3)) (getK v2 v4 fun e1=>let e2:CV:=(cell1 e1).getD 0 .nili;cond (qgi .u8 e2) (let l3:=qb7 e2;cond (qc6 l3) (let r4:=qb2;let r5:=decide ((l3.length:Int)=v5);cond (!r5) (k0 v5) (let l6:=v6++([.agg [.int .i64 4,.sli .u8 l3,.slg 3 r4]]);rmK l6.length 56<| let x7:=IntKind.i64.wrap (v4+1);again l6.length v2 v3 x7 v5 l6)) none) none) (k1 v1 v5 v6)
def q8x (k0:Int->OO) (k1:Nat->Int->LC->OO):Nat->Nat->LC->Int->Int->Int->LC->OO:=qe3 (fun a=>qxi a k0 k1) (fun _ _ _ _ _ _=>none)
def xbco:St->(KT)->OO:=fun σ k=>match σ with|⟨[(q1,.fn (.func q2) [] [.ptr q3 q4 q5]),(q6,.ref q7 q8 v1 true q9),(q10,.cl (.slg q11 v2)),(q12,.cl (.int .i64 v3)),(q13,.cl (.int .i64 v4))],[(q14,⟨.var [.cl (.int .i64 v5)],false⟩),(q15,⟨.gen q16 v6,false⟩)]⟩=>cond (eqL [q1,q2,q3,q4,q5,q6,q7,q8,q9,q10,q11,q12,q13,q14,q15,q16] [3,188,0,0,0,10,91,0,3,28,1,29,30,0,91,3]) (shut (q8x (fun y1=>k .ret ⟨[(8,.ref 72 0 0 true 3),(9,.cl (.bool false))],[(0,⟨.var [.cl (.int .i64 y1)],false⟩),(72,⟨.gen 3 [],false⟩)]⟩) (fun y1 y2 y3=>k (.exit 0) ⟨[(10,.ref 91 0 y1 true 3)],[(0,⟨.var [.cl (.int .i64 y2)],false⟩),(91,⟨.gen 3 y3,false⟩)]⟩) FUEL) v1 v2 v3 v4 v5 v6) none|_=>none
def EEDig:Env:= {mkE BEDig qa1 48 with byref:=lk [] [(188,[1])],live:=lk [] [(5,[3,10,28,29,30])],ren:=lk [] [(5,[(109,91)])],lp:=lk none [(5,some xbco)],xl:=lk none [(0,some [8,9]),(1,some [10])]}
theorem q8q:LpT Tryz.prog (EEDig) Tryz.f194 0 5 xbco:=by
 intro σ k r h
 unfold xbco at h
 split at h
 ·obtain⟨hc,j⟩:=qaa h
  cases qbe hc
  rw[qab] at j
  apply it6 j
  ·intro n;kernel_rfl
  ·rfl
 ·cases h
def xb4z (l:LC) (lo:Int) (hi:Int) (s:Int):OO:=cond (decide ((l.length:Int)<lo)) (some (.ret [.cl (.slg 3 []),.cl (.bool false)] [some ⟨.var [.cl (.int .i64 s)],false⟩])) (cond (decide (hi<(l.length:Int))) (some (.ret [.cl (.slg 3 []),.cl (.bool false)] [some ⟨.var [.cl (.int .i64 s)],false⟩])) (cond (decide ((0:Int)<=(l.length:Int))) (cond (decide ((l.length:Int)*56<=LIM)) (cond (decide ((l.length:Int)<=LIM)) (shut (q8x (fun y1=>some (.ret [.cl (.slg 3 []),.cl (.bool false)] [some ⟨.var [.cl (.int .i64 y1)],false⟩])) (fun y2 y3 y4=>some (.ret [.cl (.slg 3 y4),.cl (.bool true)] [some ⟨.var [.cl (.int .i64 y3)],false⟩])) FUEL) 0 l (l.length:Int) 0 s []) none) none) none))
def xb0m:Env:= {mkE xbmz qa1 23 with byref:=lk [] [(188,[1]),(194,[3])],xl:=lk none [(0,some [8,9])]}
def xb2a (l:LC) (lo:Int) (hi:Int) (s:Int):OO:=cond (q59 l) (let r1:=dgL s lo hi l;let r2:=dgB s lo hi l;cond (qbl r1) (let r3:=qa0;some (.ret [.cl (.agg [.int .i64 48,.sli .u8 r3,.slg 3 r1]),.cl (.bool r2)] [some ⟨.var [.cl (.int .i64 s)],false⟩])) none) none
def EFPart:Env:= {mkE BFPart qa1 10 with byref:=lk [] [(187,[3]),(188,[1])],xl:=lk none [(0,some [3,4])]}
def xb1u (l:LC) (s:Int):OO:=cond (q59 l) (let r1:=qa0;let r2:=dgL s 1 64 l;let r3:=dgB s 1 64 l;some (.ret [.cl (.agg [.int .i64 48,.sli .u8 r1,.slg 3 r2]),.cl (.bool r3)] [some ⟨.var [.cl (.int .i64 s)],false⟩])) none
def EEPart:Env:= {mkE BEPart qa1 4 with byref:=lk [] [(186,[1])],xl:=lk none [(0,some [2])]}
def xb26 (s:Int):OO:=some (.ret [.fn (.func 186) [] [.ptr 0 0 0]] [some ⟨.var [.cl (.int .i64 s)],false⟩])
def qwi (again:Nat->LC->Int->Int->Int->LC->OO) (k0:Int->OO) (k1:Nat->Int->LC->OO) (v1:Nat) (v2:LC) (v3 v4 v5:Int) (v6:LC):OO:=cond (decide (v4<v3)) (getK v2 v4 fun e1=>let e2:CV:=(cell1 e1).getD 0 .nili;cond (qem 1 e2) (let l3:=qbm e2;cond (q59 l3) (let r4:=qa0;let r5:=dgL v5 1 64 l3;let r6:=dgB v5 1 64 l3;cond (!r6) (k0 v5) (let l7:=v6++([.agg [.int .i64 48,.sli .u8 r4,.slg 3 r5]]);rmK l7.length 56<| let x8:=IntKind.i64.wrap (v4+1);again l7.length v2 v3 x8 v5 l7)) none) none) (k1 v1 v5 v6)
def xbds (k0:Int->OO) (k1:Nat->Int->LC->OO):Nat->Nat->LC->Int->Int->Int->LC->OO:=qe3 (fun a=>qwi a k0 k1) (fun _ _ _ _ _ _=>none)
def xbbd:St->(KT)->OO:=fun σ k=>match σ with|⟨[(q1,.fn (.func q2) [] [.ptr q3 q4 q5]),(q6,.ref q7 q8 v1 true q9),(q10,.cl (.slg q11 v2)),(q12,.cl (.int .i64 v3)),(q13,.cl (.int .i64 v4))],[(q14,⟨.var [.cl (.int .i64 v5)],false⟩),(q15,⟨.gen q16 v6,false⟩)]⟩=>cond (eqL [q1,q2,q3,q4,q5,q6,q7,q8,q9,q10,q11,q12,q13,q14,q15,q16] [3,186,0,0,0,10,91,0,3,28,1,29,30,0,91,3]) (shut (xbds (fun y1=>k .ret ⟨[(8,.ref 72 0 0 true 3),(9,.cl (.bool false))],[(0,⟨.var [.cl (.int .i64 y1)],false⟩),(72,⟨.gen 3 [],false⟩)]⟩) (fun y1 y2 y3=>k (.exit 0) ⟨[(10,.ref 91 0 y1 true 3)],[(0,⟨.var [.cl (.int .i64 y2)],false⟩),(91,⟨.gen 3 y3,false⟩)]⟩) FUEL) v1 v2 v3 v4 v5 v6) none|_=>none
def EEPar:Env:= {mkE BEPar qa1 48 with byref:=lk [] [(186,[1])],live:=lk [] [(5,[3,10,28,29,30])],ren:=lk [] [(5,[(109,91)])],lp:=lk none [(5,some xbbd)],xl:=lk none [(0,some [8,9]),(1,some [10])]}
theorem xbbt:LpT Tryz.prog (EEPar) Tryz.f166 0 5 xbbd:=by
 intro σ k r h
 unfold xbbd at h
 split at h
 ·obtain⟨hc,j⟩:=qaa h
  cases qbe hc
  rw[qab] at j
  apply it6 j
  ·intro n;kernel_rfl
  ·rfl
 ·cases h
def xb5d (l:LC) (lo:Int) (hi:Int) (s:Int):OO:=cond (decide ((l.length:Int)<lo)) (some (.ret [.cl (.slg 3 []),.cl (.bool false)] [some ⟨.var [.cl (.int .i64 s)],false⟩])) (cond (decide (hi<(l.length:Int))) (some (.ret [.cl (.slg 3 []),.cl (.bool false)] [some ⟨.var [.cl (.int .i64 s)],false⟩])) (cond (decide ((0:Int)<=(l.length:Int))) (cond (decide ((l.length:Int)*56<=LIM)) (cond (decide ((l.length:Int)<=LIM)) (shut (xbds (fun y1=>some (.ret [.cl (.slg 3 []),.cl (.bool false)] [some ⟨.var [.cl (.int .i64 y1)],false⟩])) (fun y2 y3 y4=>some (.ret [.cl (.slg 3 y4),.cl (.bool true)] [some ⟨.var [.cl (.int .i64 y3)],false⟩])) FUEL) 0 l (l.length:Int) 0 s []) none) none) none))
def xbvd:Env:= {mkE xbaf qa1 72 with byref:=lk [] [(166,[3])],keep:=lk false [(167,true)],xl:=lk none [(0,some [2,3])]}
def xbjn (d:Int) (t:LC) (w:LI):OO:=let r1:Int:=(qa6 d).2.1;cond (!decide (r1=1)) (some (.ret [.cl (.agg [.int .i64 0,.sli .u8 [],.slg 3 []]),.cl (.bool false)] [])) (let r2:LI:=(qa6 d).2.2;cond (idOk r2) (let r3:Int:=(qfq 6 (qa3 r2)).1;let r4:LI:=(qfq 6 (qa3 r2)).2.1;let r5:=qb2;cond (qbl ([.agg [.int .i64 r3,.sli .u8 r4,.slg 3 r5]])) (let r7:Int:=(vBox 0 ([.agg [.int .i64 r3,.sli .u8 r4,.slg 3 r5]])).1;let r8:=qa0;let r9:LC:=(vBox 0 ([.agg [.int .i64 r3,.sli .u8 r4,.slg 3 r5]])).2.1;cond (qad w) (let r11:Int:=(qa9 w).1.1;let r12:LI:=(qa9 w).1.2.1;let r13:LC:=(qa9 w).1.2.2;let r14:Int:=(qa9 w).2;let r15:=qow d;cond (q3h t) (let r16:=xbub r15 0 20 t;let r17:=xbyv r15 0 20 t;cond (!decide (r14=0)) (some (.ret [.cl (.agg [.int .i64 0,.sli .u8 [],.slg 3 []]),.cl (.bool false)] [])) (cond (!r17) (some (.ret [.cl (.agg [.int .i64 0,.sli .u8 [],.slg 3 []]),.cl (.bool false)] [])) (cond (decide ((r16.length:Int)=0)) (cond (qbl ([.agg [.int .i64 r7,.sli .u8 r8,.slg 3 r9],.agg [.int .i64 r11,.sli .u8 r12,.slg 3 r13]])) (let r18:=qa0;some (.ret [.cl (.agg [.int .i64 48,.sli .u8 r18,.slg 3 ([.agg [.int .i64 r7,.sli .u8 r8,.slg 3 r9],.agg [.int .i64 r11,.sli .u8 r12,.slg 3 r13]])]),.cl (.bool true)] [])) none) (cond (qbl r16) (let r19:Int:=(vBox 2 r16).1;let r20:=qa0;let r21:LC:=(vBox 2 r16).2.1;cond (qbl ([.agg [.int .i64 r7,.sli .u8 r8,.slg 3 r9],.agg [.int .i64 r19,.sli .u8 r20,.slg 3 r21],.agg [.int .i64 r11,.sli .u8 r12,.slg 3 r13]])) (let r23:=qa0;some (.ret [.cl (.agg [.int .i64 48,.sli .u8 r23,.slg 3 ([.agg [.int .i64 r7,.sli .u8 r8,.slg 3 r9],.agg [.int .i64 r19,.sli .u8 r20,.slg 3 r21],.agg [.int .i64 r11,.sli .u8 r12,.slg 3 r13]])]),.cl (.bool true)] [])) none) none)))) none) none) none) none)
def qva (again:Nat->LC->Int->Int->LC->OO) (k0:OO) (k1:Nat->LC->OO) (v1:Nat) (v2:LC) (v3 v4:Int) (v5:LC):OO:=cond (decide (v4<v3)) (getK v2 v4 fun e1=>let e2:CV:=(cell1 e1).headD .nili;let e3:CV:=(cell1 e1).tail.headD .nili;let e4:CV:=(cell1 e1).tail.tail.headD .nili;cond (qh0 .i64 e2&&(qem 1 e3&&(qgi .u8 e4&&true))) (let i5:=qft e2;let l6:=qbm e3;let l7:=qb7 e4;cond (q3h l6&&qad l7) (let r8:Int:=(q55 i5 l6 l7).1;let r9:=qa0;let r10:LC:=(q55 i5 l6 l7).2;let r11:=qy4 i5 l6 l7;cond (!r11) (k0) (let l12:=v5++([.agg [.int .i64 r8,.sli .u8 r9,.slg 3 r10]]);rmK l12.length 56<| let x13:=IntKind.i64.wrap (v4+1);again l12.length v2 v3 x13 l12)) none) none) (k1 v1 v5)
def xbae (k0:OO) (k1:Nat->LC->OO):Nat->Nat->LC->Int->Int->LC->OO:=qe3 (fun a=>qva a k0 k1) (fun _ _ _ _ _=>none)
def q93:St->(KT)->OO:=fun σ k=>match σ with|⟨[(q1,.cl (.fn (.func q2) [] [])),(q3,.ref q4 q5 v1 true q6),(q7,.cl (.slg q8 v2)),(q9,.cl (.int .i64 v3)),(q10,.cl (.int .i64 v4))],[(q11,⟨.gen q12 v5,false⟩)]⟩=>cond (eqL [q1,q2,q3,q4,q5,q6,q7,q8,q9,q10,q11,q12] [3,127,10,91,0,3,28,3,29,30,91,3]) (shut (xbae (k .ret ⟨[(8,.ref 72 0 0 true 3),(9,.cl (.bool false))],[(72,⟨.gen 3 [],false⟩)]⟩) (fun y1 y2=>k (.exit 0) ⟨[(10,.ref 91 0 y1 true 3)],[(91,⟨.gen 3 y2,false⟩)]⟩) FUEL) v1 v2 v3 v4 v5) none|_=>none
def EEMar:Env:= {mkE BEMar qa1 48 with live:=lk [] [(5,[3,10,28,29,30])],ren:=lk [] [(5,[(109,91)])],lp:=lk none [(5,some q93)],xl:=lk none [(0,some [8,9]),(1,some [10])]}
theorem xber:LpT Tryz.prog (EEMar) Tryz.f163 0 5 q93:=by
 intro σ k r h
 unfold q93 at h
 split at h
 ·obtain⟨hc,j⟩:=qaa h
  cases qbe hc
  rw[qab] at j
  apply it5 j
  ·intro n;kernel_rfl
  ·rfl
 ·cases h
def xb5a (l:LC) (lo:Int) (hi:Int):OO:=cond (decide ((l.length:Int)<lo)) (some (.ret [.cl (.slg 3 []),.cl (.bool false)] [])) (cond (decide (hi<(l.length:Int))) (some (.ret [.cl (.slg 3 []),.cl (.bool false)] [])) (cond (decide ((0:Int)<=(l.length:Int))) (cond (decide ((l.length:Int)*56<=LIM)) (cond (decide ((l.length:Int)<=LIM)) (shut (xbae (some (.ret [.cl (.slg 3 []),.cl (.bool false)] [])) (fun y1 y2=>some (.ret [.cl (.slg 3 y2),.cl (.bool true)] [])) FUEL) 0 l (l.length:Int) 0 []) none) none) none))
def xb1z:Env:= {mkE xbox qa1 23 with xl:=lk none [(0,some [8,9])]}
def xb1t (l:LC) (lo:Int) (hi:Int):OO:=cond (qoj l) (let r1:=qrd lo hi l;let r2:=qrf lo hi l;cond (qbl r1) (let r3:=qa0;some (.ret [.cl (.agg [.int .i64 48,.sli .u8 r3,.slg 3 r1]),.cl (.bool r2)] [])) none) none
def xbns:Env:= {mkE q1p qa1 8 with xl:=lk none [(0,some [2,3])]}
def xbri (l:LC):OO:=cond (qoj l) (let r1:=qa0;let r2:=qrd 1 20 l;let r3:=qrf 1 20 l;some (.ret [.cl (.agg [.int .i64 48,.sli .u8 r1,.slg 3 r2]),.cl (.bool r3)] [])) none
def qw5 (again:Nat->LC->Int->Int->LC->OO) (k0:OO) (k1:Nat->LC->OO) (v1:Nat) (v2:LC) (v3 v4:Int) (v5:LC):OO:=cond (decide (v4<v3)) (getK v2 v4 fun e1=>let e2:CV:=(cell1 e1).getD 0 .nili;cond (qem 3 e2) (let l3:=qbm e2;cond (qoj l3) (let r4:=qa0;let r5:=qrd 1 20 l3;let r6:=qrf 1 20 l3;cond (!r6) (k0) (let l7:=v5++([.agg [.int .i64 48,.sli .u8 r4,.slg 3 r5]]);rmK l7.length 56<| let x8:=IntKind.i64.wrap (v4+1);again l7.length v2 v3 x8 l7)) none) none) (k1 v1 v5)
def xbb6 (k0:OO) (k1:Nat->LC->OO):Nat->Nat->LC->Int->Int->LC->OO:=qe3 (fun a=>qw5 a k0 k1) (fun _ _ _ _ _=>none)
def xbam:St->(KT)->OO:=fun σ k=>match σ with|⟨[(q1,.cl (.fn (.func q2) [] [])),(q3,.ref q4 q5 v1 true q6),(q7,.cl (.slg q8 v2)),(q9,.cl (.int .i64 v3)),(q10,.cl (.int .i64 v4))],[(q11,⟨.gen q12 v5,false⟩)]⟩=>cond (eqL [q1,q2,q3,q4,q5,q6,q7,q8,q9,q10,q11,q12] [3,76,10,91,0,3,28,1,29,30,91,3]) (shut (xbb6 (k .ret ⟨[(8,.ref 72 0 0 true 3),(9,.cl (.bool false))],[(72,⟨.gen 3 [],false⟩)]⟩) (fun y1 y2=>k (.exit 0) ⟨[(10,.ref 91 0 y1 true 3)],[(91,⟨.gen 3 y2,false⟩)]⟩) FUEL) v1 v2 v3 v4 v5) none|_=>none
def EECha:Env:= {mkE BECha qa1 48 with live:=lk [] [(5,[3,10,28,29,30])],ren:=lk [] [(5,[(109,91)])],lp:=lk none [(5,some xbam)],xl:=lk none [(0,some [8,9]),(1,some [10])]}
theorem xbag:LpT Tryz.prog (EECha) Tryz.f125 0 5 xbam:=by
 intro σ k r h
 unfold xbam at h
 split at h
 ·obtain⟨hc,j⟩:=qaa h
  cases qbe hc
  rw[qab] at j
  apply it5 j
  ·intro n;kernel_rfl
  ·rfl
 ·cases h
def xb4s (l:LC) (lo:Int) (hi:Int):OO:=cond (decide ((l.length:Int)<lo)) (some (.ret [.cl (.slg 3 []),.cl (.bool false)] [])) (cond (decide (hi<(l.length:Int))) (some (.ret [.cl (.slg 3 []),.cl (.bool false)] [])) (cond (decide ((0:Int)<=(l.length:Int))) (cond (decide ((l.length:Int)*56<=LIM)) (cond (decide ((l.length:Int)<=LIM)) (shut (xbb6 (some (.ret [.cl (.slg 3 []),.cl (.bool false)] [])) (fun y1 y2=>some (.ret [.cl (.slg 3 y2),.cl (.bool true)] [])) FUEL) 0 l (l.length:Int) 0 []) none) none) none))
def xb3d:Env:= {mkE xbqk qa1 23 with xl:=lk none [(0,some [8,9])]}
def xb13 (l:LC) (lo:Int) (hi:Int):OO:=cond (qcb l) (let r1:=qpd lo hi l;let r2:=qme lo hi l;cond (qbl r1) (let r3:=qa0;some (.ret [.cl (.agg [.int .i64 48,.sli .u8 r3,.slg 3 r1]),.cl (.bool r2)] [])) none) none
def xbgf:Env:= {mkE qww qa1 8 with xl:=lk none [(0,some [2,3])]}
def xbiy (l:LC):OO:=cond (qcb l) (let r1:=qa0;let r2:=qpd 1 10 l;let r3:=qme 1 10 l;some (.ret [.cl (.agg [.int .i64 48,.sli .u8 r1,.slg 3 r2]),.cl (.bool r3)] [])) none
def qx1 (again:LC->Int->LC->Int->Int->OO) (k0:ByteArray->LC->Int->LC->LC->Int->Int->LC->Nat->LC->Int->LC->Int->Int->Int->ByteArray->OO) (k1:LC->Int->OO) (v1:LC) (v2:Int) (v3:LC) (v4 v5:Int):OO:=cond (decide (v5<v4)) (getK v3 v5 fun e1=>let e2:CV:=(cell1 e1).getD 0 .nili;cond (qem 3 e2) (let l3:=qbm e2;let x4:=IntKind.i64.wrap (v2+(l3.length:Int));cond (decide (x4<0)) (k0 (⟨#[108,101,110,32,111,117,116,32,111,102,32,114,97,110,103,101]⟩:ByteArray) v1 x4 l3 v3 v4 v5 v3 (Int.toNat v5) l3 v2 l3 (l3.length:Int) x4 x4 (⟨#[108,101,110,32,111,117,116,32,111,102,32,114,97,110,103,101]⟩:ByteArray)) (let x5:=IntKind.i64.wrap (v5+1);again v1 x4 v3 v4 x5)) none) (k1 v1 v2)
def qh5 (k0:ByteArray->LC->Int->LC->LC->Int->Int->LC->Nat->LC->Int->LC->Int->Int->Int->ByteArray->OO) (k1:LC->Int->OO):Nat->LC->Int->LC->Int->Int->OO:=qe3 (fun a=>qx1 a k0 k1) (fun _ _ _ _ _=>none)
def qvt (again:Nat->LC->Int->Int->LC->OO) (k0:Nat->LC->OO) (v1:Nat) (v2:LC) (v3 v4:Int) (v5:LC):OO:=cond (decide (v4<v3)) (getK v2 v4 fun e20=>let e21:CV:=(cell1 e20).getD 0 .nili;cond (qem 3 e21) (let l22:=qbm e21;let l23:=v5++l22;rmK l23.length 56<| let x24:=IntKind.i64.wrap (v4+1);again l23.length v2 v3 x24 l23) none) (k0 v1 v5)
def qgs (k0:Nat->LC->OO):Nat->Nat->LC->Int->Int->LC->OO:=qe3 (fun a=>qvt a k0) (fun _ _ _ _ _=>none)
def qng:St->(KT)->OO:=fun σ k=>match σ with|⟨[(q1,.cl (.slg q2 v1)),(q3,.cl (.int .i64 v2)),(q4,.cl (.slg q5 v3)),(q6,.cl (.int .i64 v4)),(q7,.cl (.int .i64 v5))],[]⟩=>cond (eqL [q1,q2,q3,q4,q5,q6,q7] [0,1,3,9,1,10,11]) (shut (qh5 (fun y1 y2 y3 y4 y5 y6 y7 y8 y9 y10 y11 y12 y13 y14 y15 y16=>k (.pan (.iface 9 (.str y1))) ⟨[(0,.cl (.slg 1 y2)),(3,.cl (.int .i64 y3)),(5,.cl (.slg 3 y4)),(9,.cl (.slg 1 y5)),(10,.cl (.int .i64 y6)),(11,.cl (.int .i64 y7)),(12,.cl (.bool true)),(13,.cl (.vp (.slg 1 y8) y9 0)),(14,.cl (.slg 3 y10)),(15,.cl (.int .i64 y11)),(16,.cl (.slg 3 y12)),(17,.cl (.int .i64 y13)),(18,.cl (.int .i64 y14)),(19,.cl (.int .i64 y15)),(20,.cl (.bool true)),(21,.cl (.iface 9 (.str y16)))],[]⟩) (fun y1 y2=>k (.exit 0) ⟨[(0,.cl (.slg 1 y1)),(3,.cl (.int .i64 y2))],[]⟩) FUEL) v1 v2 v3 v4 v5) none|_=>none
def qly:St->(KT)->OO:=fun σ k=>match σ with|⟨[(q1,.ref q2 q3 v1 true q4),(q5,.cl (.slg q6 v2)),(q7,.cl (.int .i64 v3)),(q8,.cl (.int .i64 v4))],[(q9,⟨.gen q10 v5,false⟩)]⟩=>cond (eqL [q1,q2,q3,q4,q5,q6,q7,q8,q9,q10] [6,88,0,3,25,1,26,27,88,3]) (shut (qgs (fun y1 y2=>k (.exit 2) ⟨[(6,.ref 88 0 y1 true 3)],[(88,⟨.gen 3 y2,false⟩)]⟩) FUEL) v1 v2 v3 v4 v5) none|_=>none
def qvx:Env:= {mkE qwn qa1 36 with byref:=lk [] [(79,[0])],keep:=lk false [(79,true)],live:=lk [] [(3,[0,3,9,10,11]),(11,[6,25,26,27])],ren:=lk [] [(11,[(97,88)])],lp:=lk none [(3,some qng),(11,some qly)],xl:=lk none [(0,some [2]),(1,some [0,3]),(3,some [6])]}
theorem qwt:LpT Tryz.prog (qvx) Tryz.f40 0 3 qng:=by
 intro σ k r h
 unfold qng at h
 split at h
 ·obtain⟨hc,j⟩:=qaa h
  cases qbe hc
  rw[qab] at j
  apply it5 j
  ·intro n;kernel_rfl
  ·rfl
 ·cases h
theorem qs4:LpT Tryz.prog (qvx) Tryz.f40 1 11 qly:=by
 intro σ k r h
 unfold qly at h
 split at h
 ·obtain⟨hc,j⟩:=qaa h
  cases qbe hc
  rw[qab] at j
  apply it5 j
  ·intro n;kernel_rfl
  ·rfl
 ·cases h
def q4s (l:LC):OO:=shut (qh5 (fun y1 y2 y3 y4 y5 y6 y7 y8 y9 y10 y11 y12 y13 y14 y15 y16=>some (.pan (.iface 9 (.str y1)) [])) (fun y17 y18=>cond (qyj y18) (let r19:=qb2;shut (qgs (fun y20 y21=>some (.ret [.cl (.slg 3 y21)] [])) FUEL) 0 y17 (y17.length:Int) 0 r19) none) FUEL) l 0 l (l.length:Int) 0
def qlt (again:LI->Int->Int->Int->OO) (k0:Int->OO) (k1:OO) (v1:LI) (v2 v3 v4:Int):OO:=cond (decide (v4<v3)) (getK v1 v4 fun e1=>cond (decide (v2=e1)) (k0 v4) (let x2:=IntKind.i64.wrap (v4+1);again v1 v2 v3 x2)) (k1)
def qkf (k0:Int->OO) (k1:OO):Nat->LI->Int->Int->Int->OO:=qe3 (fun a=>qlt a k0 k1) (fun _ _ _ _=>none)
def qqi:St->(KT)->OO:=fun σ k=>match σ with|⟨[(q1,.cl (.sli .i64 v1)),(q2,.cl (.int .i64 v2)),(q3,.cl (.int .i64 v3)),(q4,.cl (.int .i64 v4))],[]⟩=>cond (eqL [q1,q2,q3,q4] [0,1,7,8]) (shut (qkf (fun y1=>k .ret ⟨[(4,.cl (.int .i64 y1))],[]⟩) (k (.exit 0) ⟨[],[]⟩) FUEL) v1 v2 v3 v4) none|_=>none
def xbb8:Env:= {mkE q3g qa1 19 with live:=lk [] [(2,[0,1,7,8])],lp:=lk none [(2,some qqi)],xl:=lk none [(0,some [4]),(1,some [])]}
theorem qyd:LpT Tryz.prog (xbb8) Tryz.f80 0 2 qqi:=by
 intro σ k r h
 unfold qqi at h
 split at h
 ·obtain⟨hc,j⟩:=qaa h
  cases qbe hc
  rw[qab] at j
  apply it4 j
  ·intro n;kernel_rfl
  ·rfl
 ·cases h
def xbfd (l:LI) (d:Int):OO:=shut (qkf (fun y1=>some (.ret [.cl (.int .i64 y1)] [])) (some (.ret [.cl (.int .i64 (-1))] [])) FUEL) l d (l.length:Int) 0
def xb2u:Env:= {mkE xboq qa1 9 with xl:=lk none [(0,some [4])]}
def xbvr (l:LI) (d:Int):OO:=cond (qgv l) (let r1:=idxI l d;some (.ret [.cl (.bool (decide ((0:Int)<=r1)))] [])) none
def xbhp (again:LI->LI->Int->Int->OO) (k0:OO) (k1:OO) (v1 v2:LI) (v3 v4:Int):OO:=cond (decide (v4<v3)) (getK v1 v4 fun e1=>getK v2 v4 fun e2=>cond (!decide (e1=e2)) (k0) (let x3:=IntKind.i64.wrap (v4+1);again v1 v2 v3 x3)) (k1)
def q0i (k0:OO) (k1:OO):Nat->LI->LI->Int->Int->OO:=qe3 (fun a=>xbhp a k0 k1) (fun _ _ _ _=>none)
def xbau:St->(KT)->OO:=fun σ k=>match σ with|⟨[(q1,.cl (.sli .i64 v1)),(q2,.cl (.sli .i64 v2)),(q3,.cl (.int .i64 v3)),(q4,.cl (.int .i64 v4))],[]⟩=>cond (eqL [q1,q2,q3,q4] [0,1,12,13]) (shut (q0i (k .ret ⟨[(4,.cl (.bool false))],[]⟩) (k (.exit 0) ⟨[],[]⟩) FUEL) v1 v2 v3 v4) none|_=>none
def xb4h:Env:= {mkE xb07 qa1 26 with live:=lk [] [(4,[0,1,12,13])],lp:=lk none [(4,some xbau)],xl:=lk none [(0,some [4]),(1,some [])]}
theorem q9o:LpT Tryz.prog (xb4h) Tryz.f42 0 4 xbau:=by
 intro σ k r h
 unfold xbau at h
 split at h
 ·obtain⟨hc,j⟩:=qaa h
  cases qbe hc
  rw[qab] at j
  apply it4 j
  ·intro n;kernel_rfl
  ·rfl
 ·cases h
def xb4i (a:LI) (b:LI):OO:=cond (!decide ((a.length:Int)=(b.length:Int))) (some (.ret [.cl (.bool false)] [])) (shut (q0i (some (.ret [.cl (.bool false)] [])) (some (.ret [.cl (.bool true)] [])) FUEL) a b (a.length:Int) 0)
def q8a (again:LI->LI->Int->OO) (k0:OO) (k1:OO) (v1 v2:LI) (v3:Int):OO:=cond (decide (v3<(v1.length:Int))) (getK v1 v3 fun e1=>getK v2 v3 fun e2=>cond (!decide (e1=e2)) (k0) (let x3:=IntKind.i64.wrap (v3+1);again v1 v2 x3)) (k1)
def qqv (k0:OO) (k1:OO):Nat->LI->LI->Int->OO:=qe3 (fun a=>q8a a k0 k1) (fun _ _ _=>none)
def qwm:St->(KT)->OO:=fun σ k=>match σ with|⟨[(q1,.cl (.sli .i64 v1)),(q2,.cl (.sli .i64 v2)),(q3,.cl (.int .i64 v3))],[]⟩=>cond (eqL [q1,q2,q3] [0,1,5]) (shut (qqv (k .ret ⟨[(4,.cl (.bool false))],[]⟩) (k (.exit 0) ⟨[],[]⟩) FUEL) v1 v2 v3) none|_=>none
def xblp:Env:= {mkE q92 qa1 26 with live:=lk [] [(4,[0,1,5])],lp:=lk none [(4,some qwm)],xl:=lk none [(0,some [4]),(1,some [])]}
theorem q2v:LpT Tryz.prog (xblp) Tryz.f32 0 4 qwm:=by
 intro σ k r h
 unfold qwm at h
 split at h
 ·obtain⟨hc,j⟩:=qaa h
  cases qbe hc
  rw[qab] at j
  apply it3 j
  ·intro n;kernel_rfl
  ·rfl
 ·cases h
def xblc (a:LI) (b:LI):OO:=cond (!decide ((a.length:Int)=(b.length:Int))) (some (.ret [.cl (.bool false)] [])) (shut (qqv (some (.ret [.cl (.bool false)] [])) (some (.ret [.cl (.bool true)] [])) FUEL) a b 0)
def qyq (again:Nat->LC->Int->Int->LI->OO) (k0:Nat->LI->OO) (v1:Nat) (v2:LC) (v3 v4:Int) (v5:LI):OO:=cond (decide (v4<v3)) (getK v2 v4 fun e2=>let e3:CV:=(cell1 e2).headD .nili;let e4:CV:=(cell1 e2).tail.headD .nili;let e5:CV:=(cell1 e2).tail.tail.headD .nili;cond (qh0 .i64 e3&&(qem 1 e4&&(qgi .u8 e5&&true))) (let i6:=qft e3;cond (qgv v5) (let r9:=hasI v5 i6;cond (!r9) (let l10:=v5++[i6];rmK l10.length 8<| let x11:=IntKind.i64.wrap (v4+1);again l10.length v2 v3 x11 l10) (let x12:=IntKind.i64.wrap (v4+1);again v1 v2 v3 x12 v5)) none) none) (k0 v1 v5)
def qez (k0:Nat->LI->OO):Nat->Nat->LC->Int->Int->LI->OO:=qe3 (fun a=>qyq a k0) (fun _ _ _ _ _=>none)
def qnx:St->(KT)->OO:=fun σ k=>match σ with|⟨[(q1,.ref q2 q3 v1 true q4),(q5,.cl (.slg q6 v2)),(q7,.cl (.int .i64 v3)),(q8,.cl (.int .i64 v4))],[(q9,⟨.ints .i64 v5,false⟩)]⟩=>cond (eqL [q1,q2,q3,q4,q5,q6,q7,q8,q9] [3,67,0,1,7,3,8,9,67]) (shut (qez (fun y1 y2=>k (.exit 0) ⟨[(3,.ref 67 0 y1 true 1)],[(67,⟨.ints .i64 y2,false⟩)]⟩) FUEL) v1 v2 v3 v4 v5) none|_=>none
def EEDigests:Env:= {mkE BEDigests qa1 25 with live:=lk [] [(3,[3,7,8,9])],ren:=lk [] [(3,[(86,67)])],lp:=lk none [(3,some qnx)],xl:=lk none [(0,some [2]),(1,some [3])]}
theorem qxj:LpT Tryz.prog (EEDigests) Tryz.f21 0 3 qnx:=by
 intro σ k r h
 unfold qnx at h
 split at h
 ·obtain⟨hc,j⟩:=qaa h
  cases qbe hc
  rw[qab] at j
  apply it5 j
  ·intro n;kernel_rfl
  ·rfl
 ·cases h
def q5j (l:LC):OO:=cond (qcb l) (let r1:=xbr0 l;shut (qez (fun y2 y3=>some (.ret [.cl (.sli .i64 y3)] [])) FUEL) 0 r1 (r1.length:Int) 0 []) none
def qwp (again:LC->Nat->Int->Int->Bool->Int->LI->OO) (k0:LC->Nat->Int->Int->Bool->LI->OO) (v1:LC) (v2:Nat) (v3 v4:Int) (v5:Bool) (v6:Int) (v7:LI):OO:=cond (decide (v6<(v2:Int))) (cond (v5) (let x4:=IntKind.i64.wrap (v6+1);again v1 v2 v3 v4 true x4 v7) (idxK v6 v2 fun _=>Option.bind (v7[(0+(Int.toNat v6))]?) fun(e5:Int)=>getK v1 v3 fun e6=>let e7:CV:=(cell1 e6).getD 0 .nili;cond (qem 3 e7) (let l8:=qbm e7;getK l8 v4 fun e9=>let e10:CV:=(cell1 e9).getD 0 .nili;cond (qh0 .i64 e10) (let i11:=qft e10;let x12:=IntKind.i64.wrap (v6+1);again v1 v2 v3 v4 (decide (e5=i11)) x12 v7) none) none)) (k0 v1 v2 v3 v4 v5 v7)
def qd4 (k0:LC->Nat->Int->Int->Bool->LI->OO):Nat->LC->Nat->Int->Int->Bool->Int->LI->OO:=qe3 (fun a=>qwp a k0) (fun _ _ _ _ _ _ _=>none)
def qfb (again:LC->Nat->Int->Int->LI->OO) (k0:LC->Nat->Int->LI->OO) (v1:LC) (v2:Nat) (v3 v4:Int) (v5:LI):OO:=getK v1 v3 fun e1=>let e2:CV:=(cell1 e1).getD 0 .nili;cond (qem 3 e2) (let l3:=qbm e2;cond (decide (v4<(l3.length:Int))) (shut (qd4 (fun y4 y5 y6 y7 y8 y9=>cond (!y8) (getK y4 y6 fun e10=>let e11:CV:=(cell1 e10).getD 0 .nili;cond (qem 3 e11) (let l12:=qbm e11;getK l12 y7 fun e13=>let e14:CV:=(cell1 e13).getD 0 .nili;cond (qh0 .i64 e14) (let i15:=qft e14;let l16:=y9++[i15];rmK l16.length 8<| let x17:=IntKind.i64.wrap (y7+1);again y4 l16.length y6 x17 l16) none) none) (let x18:=IntKind.i64.wrap (y7+1);again y4 y5 y6 x18 y9)) FUEL) v1 v2 v3 v4 false 0 v5) (k0 v1 v2 v3 v5)) none
def qc0 (k0:LC->Nat->Int->LI->OO):Nat->LC->Nat->Int->Int->LI->OO:=qe3 (fun a=>qfb a k0) (fun _ _ _ _ _=>none)
def qja (again:LC->Nat->Int->LI->OO) (k0:Nat->LI->OO) (v1:LC) (v2:Nat) (v3:Int) (v4:LI):OO:=cond (decide (v3<(v1.length:Int))) (shut (qc0 (fun y1 y2 y3 y4=>let x5:=IntKind.i64.wrap (y3+1);again y1 y2 x5 y4) FUEL) v1 v2 v3 0 v4) (k0 v2 v4)
def qew (k0:Nat->LI->OO):Nat->LC->Nat->Int->LI->OO:=qe3 (fun a=>qja a k0) (fun _ _ _ _=>none)
def qlj:St->(KT)->OO:=fun σ k=>match σ with|⟨[(q1,.cl (.slg q2 v1)),(q3,.ref q4 q5 v2 true q6),(q7,.cl (.int .i64 v3)),(q8,.cl (.int .i64 v4)),(q9,.cl (.bool v5)),(q10,.cl (.int .i64 v6))],[(q11,⟨.ints .i64 v7,false⟩)]⟩=>cond (eqL [q1,q2,q3,q4,q5,q6,q7,q8,q9,q10,q11] [0,1,3,67,0,1,4,5,6,7,67]) (shut (qd4 (fun y1 y2 y3 y4 y5 y6=>k (.exit 4) ⟨[(0,.cl (.slg 1 y1)),(3,.ref 67 0 y2 true 1),(4,.cl (.int .i64 y3)),(5,.cl (.int .i64 y4)),(6,.cl (.bool y5))],[(67,⟨.ints .i64 y6,false⟩)]⟩) FUEL) v1 v2 v3 v4 v5 v6 v7) none|_=>none
def qnt:St->(KT)->OO:=fun σ k=>match σ with|⟨[(q1,.cl (.slg q2 v1)),(q3,.ref q4 q5 v2 true q6),(q7,.cl (.int .i64 v3)),(q8,.cl (.int .i64 v4))],[(q9,⟨.ints .i64 v5,false⟩)]⟩=>cond (eqL [q1,q2,q3,q4,q5,q6,q7,q8,q9] [0,1,3,67,0,1,4,5,67]) (shut (qc0 (fun y1 y2 y3 y4=>k (.exit 2) ⟨[(0,.cl (.slg 1 y1)),(3,.ref 67 0 y2 true 1),(4,.cl (.int .i64 y3))],[(67,⟨.ints .i64 y4,false⟩)]⟩) FUEL) v1 v2 v3 v4 v5) none|_=>none
def qnw:St->(KT)->OO:=fun σ k=>match σ with|⟨[(q1,.cl (.slg q2 v1)),(q3,.ref q4 q5 v2 true q6),(q7,.cl (.int .i64 v3))],[(q8,⟨.ints .i64 v4,false⟩)]⟩=>cond (eqL [q1,q2,q3,q4,q5,q6,q7,q8] [0,1,3,67,0,1,4,67]) (shut (qew (fun y1 y2=>k (.exit 0) ⟨[(3,.ref 67 0 y1 true 1)],[(67,⟨.ints .i64 y2,false⟩)]⟩) FUEL) v1 v2 v3 v4) none|_=>none
def ERDigests:Env:= {mkE BRDigests qa1 59 with live:=lk [] [(3,[0,3,4]),(6,[0,3,4,5]),(10,[0,3,4,5,6,7])],ren:=lk [] [(6,[(121,67)])],lp:=lk none [(3,some qnw),(6,some qnt),(10,some qlj)],xl:=lk none [(0,some [2]),(1,some [3]),(3,some [0,3,4]),(5,some [0,3,4,5,6])]}
theorem qs1:LpT Tryz.prog (ERDigests) Tryz.f17 0 10 qlj:=by
 intro σ k r h
 unfold qlj at h
 split at h
 ·obtain⟨hc,j⟩:=qaa h
  cases qbe hc
  rw[qab] at j
  apply it7 j
  ·intro n;kernel_rfl
  ·rfl
 ·cases h
theorem qvj:LpT Tryz.prog (ERDigests) Tryz.f17 1 6 qnt:=by
 intro σ k r h
 unfold qnt at h
 split at h
 ·obtain⟨hc,j⟩:=qaa h
  cases qbe hc
  rw[qab] at j
  apply it5 j
  ·intro n;kernel_rfl
  ·rfl
 ·cases h
theorem qxf:LpT Tryz.prog (ERDigests) Tryz.f17 2 3 qnw:=by
 intro σ k r h
 unfold qnw at h
 split at h
 ·obtain⟨hc,j⟩:=qaa h
  cases qbe hc
  rw[qab] at j
  apply it4 j
  ·intro n;kernel_rfl
  ·rfl
 ·cases h
def q54 (l:LC):OO:=shut (qew (fun y1 y2=>some (.ret [.cl (.sli .i64 y2)] [])) FUEL) l 0 0 []
def xbz7:Env:= {mkE xbqy qa1 14 with xl:=lk none [(0,some [2,3])]}
def xbui (g:Int):OO:=cond (qc6 []) (let r1:Int:=(qbt g []).1;let r2:=qa0;let r3:LC:=(qbt g []).2.1;let r4:Int:=(qbt g []).2.2;some (.ret [.cl (.agg [.int .i64 r1,.sli .u8 r2,.slg 3 r3]),.cl (.bool (decide (r4=0)))] [])) none
def qwj (again:Nat->LI->Int->Int->LC->OO) (k0:OO) (k1:Nat->LC->OO) (v1:Nat) (v2:LI) (v3 v4:Int) (v5:LC):OO:=cond (decide (v4<v3)) (getK v2 v4 fun e1=>let r2:Int:=(qbt e1 qa0).1;let r3:=qa0;let r4:LC:=(qbt e1 qa0).2.1;let r5:=decide ((qbt e1 qa0).2.2=0);cond (!r5) (k0) (let l6:=v5++([.agg [.int .i64 r2,.sli .u8 r3,.slg 3 r4]]);rmK l6.length 56<| let x7:=IntKind.i64.wrap (v4+1);again l6.length v2 v3 x7 l6)) (k1 v1 v5)
def xbbr (k0:OO) (k1:Nat->LC->OO):Nat->Nat->LI->Int->Int->LC->OO:=qe3 (fun a=>qwj a k0 k1) (fun _ _ _ _ _=>none)
def xbdf:St->(KT)->OO:=fun σ k=>match σ with|⟨[(q1,.cl (.fn (.func q2) [] [])),(q3,.ref q4 q5 v1 true q6),(q7,.cl (.sli .i64 v2)),(q8,.cl (.int .i64 v3)),(q9,.cl (.int .i64 v4))],[(q10,⟨.gen q11 v5,false⟩)]⟩=>cond (eqL [q1,q2,q3,q4,q5,q6,q7,q8,q9,q10,q11] [3,68,10,91,0,3,28,29,30,91,3]) (shut (xbbr (k .ret ⟨[(8,.ref 72 0 0 true 3),(9,.cl (.bool false))],[(72,⟨.gen 3 [],false⟩)]⟩) (fun y1 y2=>k (.exit 0) ⟨[(10,.ref 91 0 y1 true 3)],[(91,⟨.gen 3 y2,false⟩)]⟩) FUEL) v1 v2 v3 v4 v5) none|_=>none
def EEAlg:Env:= {mkE BEAlg qa1 48 with live:=lk [] [(5,[3,10,28,29,30])],ren:=lk [] [(5,[(109,91)])],lp:=lk none [(5,some xbdf)],xl:=lk none [(0,some [8,9]),(1,some [10])]}
theorem xbd8:LpT Tryz.prog (EEAlg) Tryz.f115 0 5 xbdf:=by
 intro σ k r h
 unfold xbdf at h
 split at h
 ·obtain⟨hc,j⟩:=qaa h
  cases qbe hc
  rw[qab] at j
  apply it5 j
  ·intro n;kernel_rfl
  ·rfl
 ·cases h
def xb5h (l:LI) (lo:Int) (hi:Int):OO:=cond (decide ((l.length:Int)<lo)) (some (.ret [.cl (.slg 3 []),.cl (.bool false)] [])) (cond (decide (hi<(l.length:Int))) (some (.ret [.cl (.slg 3 []),.cl (.bool false)] [])) (cond (decide ((0:Int)<=(l.length:Int))) (cond (decide ((l.length:Int)*56<=LIM)) (cond (decide ((l.length:Int)<=LIM)) (shut (xbbr (some (.ret [.cl (.slg 3 []),.cl (.bool false)] [])) (fun y1 y2=>some (.ret [.cl (.slg 3 y2),.cl (.bool true)] [])) FUEL) 0 l (l.length:Int) 0 []) none) none) none))
def xb10:Env:= {mkE xbpa qa1 23 with xl:=lk none [(0,some [8,9])]}
def xb0f (l:LI) (lo:Int) (hi:Int):OO:=cond (qs3 l) (let r1:=xbju lo hi l;let r2:=xbnk lo hi l;cond (qbl r1) (let r3:=qa0;some (.ret [.cl (.agg [.int .i64 48,.sli .u8 r3,.slg 3 r1]),.cl (.bool r2)] [])) none) none
def EERec:Env:= {mkE BERec qa1 44 with xl:=lk none [(0,some [2,3])]}
def xb38 (g:LI) (c:LC):OO:=cond (qcb c) (let r1:=qa0;let r2:=qpd 1 10 c;let r3:=qme 1 10 c;cond (!r3) (some (.ret [.cl (.agg [.int .i64 0,.sli .u8 [],.slg 3 []]),.cl (.bool false)] [])) (cond (qcb c) (let r4:=qrw c;cond (qgv g) (let r5:=xblq g r4;cond (!r5) (some (.ret [.cl (.agg [.int .i64 0,.sli .u8 [],.slg 3 []]),.cl (.bool false)] [])) (cond (qs3 g) (let r6:=qa0;let r7:=xbju 0 (g.length:Int) g;cond (q67 1) (let r9:=vInt 1;let r10:=qb2;cond (qbl ([.agg [.int .i64 2,.sli .u8 r9,.slg 3 r10],.agg [.int .i64 48,.sli .u8 r6,.slg 3 r7],.agg [.int .i64 48,.sli .u8 r1,.slg 3 r2]])) (let r11:=qa0;cond (isS ([.int .i64 48,.sli .u8 r11,.slg 3 ([.agg [.int .i64 2,.sli .u8 r9,.slg 3 r10],.agg [.int .i64 48,.sli .u8 r6,.slg 3 r7],.agg [.int .i64 48,.sli .u8 r1,.slg 3 r2]])])) (let r12:=qz2 ([.int .i64 48,.sli .u8 r11,.slg 3 ([.agg [.int .i64 2,.sli .u8 r9,.slg 3 r10],.agg [.int .i64 48,.sli .u8 r6,.slg 3 r7],.agg [.int .i64 48,.sli .u8 r1,.slg 3 r2]])]);some (.ret [.cl (.agg [.int .i64 48,.sli .u8 r11,.slg 3 ([.agg [.int .i64 2,.sli .u8 r9,.slg 3 r10],.agg [.int .i64 48,.sli .u8 r6,.slg 3 r7],.agg [.int .i64 48,.sli .u8 r1,.slg 3 r2]])]),.cl (.bool r12)] [])) none) none) none) none)) none) none)) none
def EERFit:Env:= {mkE BERFit qa1 11 with xl:=lk none [(0,some [2])]}
def xb2w (g:LI) (c:LC):OO:=cond (qgv g&&recO c) (let r4:=evOk g c;some (.ret [.cl (.bool r4)] [])) none
def EERSeq:Env:= {mkE BERSeq qa1 34 with xl:=lk none [(0,some [4,5])]}
def xbt0 (g:LI) (c:LC) (n:Int):OO:=cond (qgv g&&recO c) (let r1:=evOk g c;cond (!r1) (some (.ret [.cl (.sli .u8 []),.cl (.int .i64 1)] [])) (cond (decide (n<1)) (some (.ret [.cl (.sli .u8 []),.cl (.int .i64 8)] [])) (cond (decide ((c.length:Int)<n)) (some (.ret [.cl (.sli .u8 []),.cl (.int .i64 8)] [])) (cond (decide ((0:Int)<=n)) (cond (decide (n<=(c.length:Int))) (let l2:=List.take (Int.toNat n) c;cond (qcb l2) (let r3:=qa0;let r4:=qpd 1 10 l2;cond (isS [.int .i64 48,.sli .u8 r3,.slg 3 r4]) (let r6:LI:=(qbq [.int .i64 48,.sli .u8 r3,.slg 3 r4]).1;let r7:Int:=(qbq [.int .i64 48,.sli .u8 r3,.slg 3 r4]).2;some (.ret [.cl (.sli .u8 r6),.cl (.int .i64 r7)] [])) none) none) none) none)))) none
def qmf (again:Nat->Int->LI->LC->Int->LI->LC->LC->OO) (k0:Nat->Int->LI->LC->LC->OO) (v1:Nat) (v2:Int) (v3:LI) (v4:LC) (v5:Int) (v6:LI) (v7 v8:LC):OO:=cond (decide (v2<(v3.length:Int))) (getK v3 v2 fun e7=>cond (qc6 []) (let r8:Int:=(qbt e7 []).1;let r9:=qa0;let r10:LC:=(qbt e7 []).2.1;let l12:=v8++([.agg [.int .i64 r8,.sli .u8 r9,.slg 3 r10]]);rmK l12.length 56<| let x13:=IntKind.i64.wrap (v2+1);again l12.length x13 v3 v4 v5 v6 v7 l12) none) (k0 v1 v5 v6 v7 v8)
def qlp (k0:Nat->Int->LI->LC->LC->OO):Nat->Nat->Int->LI->LC->Int->LI->LC->LC->OO:=qe3 (fun a=>qmf a k0) (fun _ _ _ _ _ _ _ _=>none)
def xbd6:St->(KT)->OO:=fun σ k=>match σ with|⟨[(q1,.ptr q2 q3 q4),(q5,.ptr q6 q7 q8),(q9,.ptr q10 q11 q12),(q13,.ref q14 q15 v1 true q16),(q17,.cl (.int .i64 v2))],[(q18,⟨.var [.cl (.sli .i64 v3),.cl (.slg q19 v4)],false⟩),(q20,⟨.var [.cl (.int .i64 q21),.nils,.nils],false⟩),(q22,⟨.var [.cl (.int .i64 v5),.cl (.sli .u8 v6),.cl (.slg q23 v7)],false⟩),(q24,⟨.gen q25 v8,false⟩)]⟩=>cond (eqL [q1,q2,q3,q4,q5,q6,q7,q8,q9,q10,q11,q12,q13,q14,q15,q16,q17,q18,q19,q20,q22,q23,q24,q25] [1,65,0,0,2,66,0,0,4,68,0,0,6,70,0,3,7,65,1,66,68,3,70,3]&&decide (q21=0)) (shut (qlp (fun y1 y2 y3 y4 y5=>k (.exit 0) ⟨[(2,.ptr 66 0 0),(4,.ptr 68 0 0),(6,.ref 70 0 y1 true 3)],[(66,⟨.var [.cl (.int .i64 0),.nils,.nils],false⟩),(68,⟨.var [.cl (.int .i64 y2),.cl (.sli .u8 y3),.cl (.slg 3 y4)],false⟩),(70,⟨.gen 3 y5,false⟩)]⟩) FUEL) v1 v2 v3 v4 v5 v6 v7 v8) none|_=>none
def ERRec:Env:= {mkE BRRec qa1 58 with live:=lk [] [(6,[1,2,4,6,7])],ren:=lk [] [(6,[(112,70)])],lp:=lk none [(6,some xbd6)],xl:=lk none [(0,some [2,3]),(1,some [2,4,6])]}
theorem q89:LpT Tryz.prog (ERRec) Tryz.f34 0 6 xbd6:=by
 intro σ k r h
 unfold xbd6 at h
 split at h
 ·obtain⟨hc,j⟩:=qaa h
  simp only[zab,qdu,decide_eq_true_eq,zal] at hc
  obtain⟨hc,rfl⟩:=hc
  cases qbe hc
  rw[qab] at j
  apply it8 j
  ·intro n;kernel_rfl
  ·rfl
 ·cases h
def xb4f (g:LI) (c:LC):OO:=cond (qcb c) (let r1:Int:=(qmr c).1;let r2:=qa0;let r3:LC:=(qmr c).2;let r4:=qme 1 10 c;cond (!r4) (some (.ret [.cl (.agg [.int .i64 0,.sli .u8 [],.slg 3 []]),.cl (.bool false)] [])) (cond (qcb c) (let r5:=qrw c;cond (qgv g) (let r6:=xblq g r5;cond (!r6) (some (.ret [.cl (.agg [.int .i64 0,.sli .u8 [],.slg 3 []]),.cl (.bool false)] [])) (shut (qlp (fun y7 y8 y9 y10 y11=>cond (q67 1) (let r12:=vInt 1;let r13:=qb2;cond (qbl y11) (let r14:=qa0;cond (qbl ([.agg [.int .i64 2,.sli .u8 r12,.slg 3 r13],.agg [.int .i64 48,.sli .u8 r14,.slg 3 y11],.agg [.int .i64 y8,.sli .u8 y9,.slg 3 y10]])) (let r15:=qa0;cond (isS ([.int .i64 48,.sli .u8 r15,.slg 3 ([.agg [.int .i64 2,.sli .u8 r12,.slg 3 r13],.agg [.int .i64 48,.sli .u8 r14,.slg 3 y11],.agg [.int .i64 y8,.sli .u8 y9,.slg 3 y10]])])) (let r16:=qz2 ([.int .i64 48,.sli .u8 r15,.slg 3 ([.agg [.int .i64 2,.sli .u8 r12,.slg 3 r13],.agg [.int .i64 48,.sli .u8 r14,.slg 3 y11],.agg [.int .i64 y8,.sli .u8 y9,.slg 3 y10]])]);some (.ret [.cl (.agg [.int .i64 48,.sli .u8 r15,.slg 3 ([.agg [.int .i64 2,.sli .u8 r12,.slg 3 r13],.agg [.int .i64 48,.sli .u8 r14,.slg 3 y11],.agg [.int .i64 y8,.sli .u8 y9,.slg 3 y10]])]),.cl (.bool r16)] [])) none) none) none) none) FUEL) 0 0 g c r1 r2 r3 [])) none) none)) none
def ERRFit:Env:= {mkE BRRFit qa1 11 with xl:=lk none [(0,some [2])]}
def xb2f (g:LI) (c:LC):OO:=cond (qgv g&&recO c) (let r4:=evOk g c;some (.ret [.cl (.bool r4)] [])) none
def xbtr:Env:= {mkE xbef qa1 14 with xl:=lk none [(0,some [2,3])]}
def xbxn (t:Int) (b:LI) (k:LC):OO:=cond (isS [.int .i64 t,.sli .u8 b,.slg 3 k]) (let r1:LI:=(qba t b k).1;let r2:Int:=(qba t b k).2;some (.ret [.cl (.sli .u8 r1),.cl (.bool (decide (r2=0)))] [])) none
def qql (again:Nat->LC->Int->Int->LC->OO) (k0:OO) (k1:Nat->LC->OO) (v1:Nat) (v2:LC) (v3 v4:Int) (v5:LC):OO:=cond (decide (v4<v3)) (getK v2 v4 fun e1=>let e2:CV:=(cell1 e1).headD .nili;let e3:CV:=(cell1 e1).tail.headD .nili;let e4:CV:=(cell1 e1).tail.tail.headD .nili;cond (qh0 .i64 e2&&(qgi .u8 e3&&(qem 3 e4&&true))) (let i5:=qft e2;let l6:=qb7 e3;let l7:=qbm e4;cond (isS [.int .i64 i5,.sli .u8 l6,.slg 3 l7]) (let r8:LI:=(qba i5 l6 l7).1;let r9:=decide ((qba i5 l6 l7).2=0);cond (!r9) (k0) (let l10:=v5++[.sli .u8 r8];rmK l10.length 24<| let x11:=IntKind.i64.wrap (v4+1);again l10.length v2 v3 x11 l10)) none) none) (k1 v1 v5)
def q5t (k0:OO) (k1:Nat->LC->OO):Nat->Nat->LC->Int->Int->LC->OO:=qe3 (fun a=>qql a k0 k1) (fun _ _ _ _ _=>none)
def qz7:St->(KT)->OO:=fun σ k=>match σ with|⟨[(q1,.cl (.fn (.func q2) [] [])),(q3,.ref q4 q5 v1 true q6),(q7,.cl (.slg q8 v2)),(q9,.cl (.int .i64 v3)),(q10,.cl (.int .i64 v4))],[(q11,⟨.gen q12 v5,false⟩)]⟩=>cond (eqL [q1,q2,q3,q4,q5,q6,q7,q8,q9,q10,q11,q12] [3,143,10,91,0,1,28,3,29,30,91,1]) (shut (q5t (k .ret ⟨[(8,.ref 72 0 0 true 1),(9,.cl (.bool false))],[(72,⟨.gen 1 [],false⟩)]⟩) (fun y1 y2=>k (.exit 0) ⟨[(10,.ref 91 0 y1 true 1)],[(91,⟨.gen 1 y2,false⟩)]⟩) FUEL) v1 v2 v3 v4 v5) none|_=>none
def xbyt:Env:= {mkE xbp4 qa1 48 with live:=lk [] [(5,[3,10,28,29,30])],ren:=lk [] [(5,[(109,91)])],lp:=lk none [(5,some qz7)],xl:=lk none [(0,some [8,9]),(1,some [10])]}
theorem q6q:LpT Tryz.prog (xbyt) Tryz.f178 0 5 qz7:=by
 intro σ k r h
 unfold qz7 at h
 split at h
 ·obtain⟨hc,j⟩:=qaa h
  cases qbe hc
  rw[qab] at j
  apply it5 j
  ·intro n;kernel_rfl
  ·rfl
 ·cases h
def xb1i (l:LC) (lo:Int) (hi:Int):OO:=cond (decide ((l.length:Int)<lo)) (some (.ret [.cl (.slg 1 []),.cl (.bool false)] [])) (cond (decide (hi<(l.length:Int))) (some (.ret [.cl (.slg 1 []),.cl (.bool false)] [])) (cond (decide ((0:Int)<=(l.length:Int))) (cond (decide ((l.length:Int)*24<=LIM)) (cond (decide ((l.length:Int)<=LIM)) (shut (q5t (some (.ret [.cl (.slg 1 []),.cl (.bool false)] [])) (fun y1 y2=>some (.ret [.cl (.slg 1 y2),.cl (.bool true)] [])) FUEL) 0 l (l.length:Int) 0 []) none) none) none))
def xb0d:Env:= {mkE xbrg qa1 25 with xl:=lk none [(0,some [6,7])]}
def xbw2 (t:Int) (b:LI) (k:LC) (g:Int):OO:=cond (qbl k) (let r1:LC:=(qb4 g t b k).1;let r2:Int:=(qb4 g t b k).2;cond (!decide (r2=0)) (some (.ret [.cl (.slg 1 []),.cl (.bool false)] [])) (cond (qgj r1) (let r3:=qy1 0 (r1.length:Int) r1;let r4:=qym 0 (r1.length:Int) r1;some (.ret [.cl (.slg 1 r3),.cl (.bool r4)] [])) none)) none
def xbq2:Env:= {mkE q2q qa1 8 with xl:=lk none [(0,some [2,3])]}
def xboz (t:Int) (b:LI) (k:LC):OO:=cond (isS [.int .i64 t,.sli .u8 b,.slg 3 k]) (let r1:=ldL 48 t b k;let r2:=ldB 48 t b k;some (.ret [.cl (.slg 1 r1),.cl (.bool r2)] [])) none
def qqc (again:Nat->LC->Int->Int->LC->OO) (k0:OO) (k1:Nat->LC->OO) (v1:Nat) (v2:LC) (v3 v4:Int) (v5:LC):OO:=cond (decide (v4<v3)) (getK v2 v4 fun e1=>let e2:CV:=(cell1 e1).headD .nili;let e3:CV:=(cell1 e1).tail.headD .nili;let e4:CV:=(cell1 e1).tail.tail.headD .nili;cond (qh0 .i64 e2&&(qgi .u8 e3&&(qem 3 e4&&true))) (let i5:=qft e2;let l6:=qb7 e3;let l7:=qbm e4;cond (isS [.int .i64 i5,.sli .u8 l6,.slg 3 l7]) (let r8:=ldL 48 i5 l6 l7;let r9:=ldB 48 i5 l6 l7;cond (!r9) (k0) (let l10:=v5++[.slg 1 r8];rmK l10.length 24<| let x11:=IntKind.i64.wrap (v4+1);again l10.length v2 v3 x11 l10)) none) none) (k1 v1 v5)
def q5u (k0:OO) (k1:Nat->LC->OO):Nat->Nat->LC->Int->Int->LC->OO:=qe3 (fun a=>qqc a k0 k1) (fun _ _ _ _ _=>none)
def q2k:St->(KT)->OO:=fun σ k=>match σ with|⟨[(q1,.cl (.fn (.func q2) [] [])),(q3,.ref q4 q5 v1 true q6),(q7,.cl (.slg q8 v2)),(q9,.cl (.int .i64 v3)),(q10,.cl (.int .i64 v4))],[(q11,⟨.gen q12 v5,false⟩)]⟩=>cond (eqL [q1,q2,q3,q4,q5,q6,q7,q8,q9,q10,q11,q12] [3,99,10,91,0,1,28,3,29,30,91,1]) (shut (q5u (k .ret ⟨[(8,.ref 72 0 0 true 1),(9,.cl (.bool false))],[(72,⟨.gen 1 [],false⟩)]⟩) (fun y1 y2=>k (.exit 0) ⟨[(10,.ref 91 0 y1 true 1)],[(91,⟨.gen 1 y2,false⟩)]⟩) FUEL) v1 v2 v3 v4 v5) none|_=>none
def xbr7:Env:= {mkE xbl5 qa1 48 with live:=lk [] [(5,[3,10,28,29,30])],ren:=lk [] [(5,[(109,91)])],lp:=lk none [(5,some q2k)],xl:=lk none [(0,some [8,9]),(1,some [10])]}
theorem q8f:LpT Tryz.prog (xbr7) Tryz.f141 0 5 q2k:=by
 intro σ k r h
 unfold q2k at h
 split at h
 ·obtain⟨hc,j⟩:=qaa h
  cases qbe hc
  rw[qab] at j
  apply it5 j
  ·intro n;kernel_rfl
  ·rfl
 ·cases h
def xb23 (l:LC) (lo:Int) (hi:Int):OO:=cond (decide ((l.length:Int)<lo)) (some (.ret [.cl (.slg 1 []),.cl (.bool false)] [])) (cond (decide (hi<(l.length:Int))) (some (.ret [.cl (.slg 1 []),.cl (.bool false)] [])) (cond (decide ((0:Int)<=(l.length:Int))) (cond (decide ((l.length:Int)*24<=LIM)) (cond (decide ((l.length:Int)<=LIM)) (shut (q5u (some (.ret [.cl (.slg 1 []),.cl (.bool false)] [])) (fun y1 y2=>some (.ret [.cl (.slg 1 y2),.cl (.bool true)] [])) FUEL) 0 l (l.length:Int) 0 []) none) none) none))
def xb25:Env:= {mkE xbpj qa1 25 with xl:=lk none [(0,some [6,7])]}
def xbsu (t:Int) (b:LI) (k:LC) (g:Int):OO:=cond (qbl k) (let r1:LC:=(qb4 g t b k).1;let r2:Int:=(qb4 g t b k).2;cond (!decide (r2=0)) (some (.ret [.cl (.slg 1 []),.cl (.bool false)] [])) (cond (qgj r1) (let r3:=qr6 0 (r1.length:Int) r1;let r4:=qss 0 (r1.length:Int) r1;some (.ret [.cl (.slg 1 r3),.cl (.bool r4)] [])) none)) none
def xbo7:Env:= {mkE q0z qa1 30 with xl:=lk none [(0,some [2,3])]}
def xbdn (t:Int) (b:LI) (k:LC):OO:=cond (qbl k) (let r1:LC:=(qb4 160 t b k).1;let r2:Int:=(qb4 160 t b k).2;cond (!decide (r2=0)) (some (.ret [.cl (.int .i64 0),.cl (.bool false)] [])) (cond (!decide ((r1.length:Int)=1)) (some (.ret [.cl (.int .i64 0),.cl (.bool false)] [])) (cond (decide ((0:Int)<(r1.length:Int))) (Option.bind (r1[0]?) fun(e3:CV)=>let e4:CV:=(cell1 e3).headD .nili;let e5:CV:=(cell1 e3).tail.headD .nili;let e6:CV:=(cell1 e3).tail.tail.headD .nili;cond (qh0 .i64 e4&&(qgi .u8 e5&&(qem 3 e6&&true))) (let i7:=qft e4;let l8:=qb7 e5;let l9:=qbm e6;cond (isS [.int .i64 i7,.sli .u8 l8,.slg 3 l9]) (let r10:LI:=(qos i7 l8 l9).1;let r11:Int:=(qos i7 l8 l9).2;let r12:=qz5 r10;some (.ret [.cl (.int .i64 r12),.cl (.bool (decide (r11=0)))] [])) none) none) none))) none
end
end Go.Proofs.YtoaakappnhemiaaGreatDoorA
