/-
 What the reading of slices.Concat[[]byte,byte] comes to, printed by a program. Conditions: none.
-/
import Derived.Test.YtoaakappnhemiaaGreatDoorT1
set_option linter.unusedVariables false
set_option linter.unusedSimpArgs false
set_option maxRecDepth 100000
set_option linter.defProp false
namespace Go.Proofs.YtoaakappnhemiaaGreatDoorA
open IntKind(i64 u8 u32 u64)
noncomputable section
def qjt(again:LC->Int->LC->Int->Int->OO)(k0:ByteArray->LC->Int->LI->LC->Int->Int->LC->Nat->LI->Int->LI->Int->Int->Int->ByteArray->OO)(k1:LC->Int->LC->Int->Int->OO)(v1:LC)(v2:Int)(v3:LC)(v4 v5:Int):OO:=cD (v5<v4) (cD ((0:Int)<=v5) (cD (v5<(v3.length:Int)) ((v3[v5.toNat]?).bind fun(e1:CV)=>let e2:=(cell1 e1).getD 0 .nili;cond (qf6 .u8 e2) (let l3:=qb8 e2;let x4:=i64.wrap (v2+(l3.length:Int));cD (x4<0) (k0 (⟨#[108,101,110,32,111,117,116,32,111,102,32,114,97,110,103,101]⟩:ByteArray) v1 x4 l3 v3 v4 v5 v3 v5.toNat l3 v2 l3 (l3.length:Int) x4 x4 (⟨#[108,101,110,32,111,117,116,32,111,102,32,114,97,110,103,101]⟩:ByteArray)) (let x5:=i64.wrap (v5+1);again v1 x4 v3 v4 x5)) none) none) none) (k1 v1 v2 v3 v4 v5)
def qis(k0:ByteArray->LC->Int->LI->LC->Int->Int->LC->Nat->LI->Int->LI->Int->Int->Int->ByteArray->OO)(k1:LC->Int->LC->Int->Int->OO):Nat->LC->Int->LC->Int->Int->OO|0=>fun _ _ _ _ _=>none|n+1=>qjt (qis k0 k1 n) k0 k1
def qhu(again:Nat->LC->Int->Int->LI->OO)(k0:Nat->LC->Int->Int->LI->OO)(v1:Nat)(v2:LC)(v3 v4:Int)(v5:LI):OO:=cD (v4<v3) (cD ((0:Int)<=v4) (cD (v4<(v2.length:Int)) ((v2[v4.toNat]?).bind fun(e23:CV)=>let e24:=(cell1 e23).getD 0 .nili;cond (qf6 .u8 e24) (let l25:=qb8 e24;let l26:=v5++l25;cond (Nat.ble (l26.length*1) LIMN) (cond (Nat.ble l26.length LIMN) (let x27:=i64.wrap (v4+1);again l26.length v2 v3 x27 l26) none) none) none) none) none) (k0 v1 v2 v3 v4 v5)
def qha(k0:Nat->LC->Int->Int->LI->OO):Nat->Nat->LC->Int->Int->LI->OO|0=>fun _ _ _ _ _=>none|n+1=>qhu (qha k0 n) k0
def qsj:St->KT->OO:=fun σ k=>match σ with|⟨[(q1,.cl (.slg q2 v1)),(q3,.cl (.int .i64 v2)),(q4,.cl (.slg q5 v3)),(q6,.cl (.int .i64 v4)),(q7,.cl (.int .i64 v5))],[]⟩=>cond (eqL [q1,q2,q3,q4,q5,q6,q7] [0,1,3,9,1,10,11]) (shut (qis (fun y1 y2 y3 y4 y5 y6 y7 y8 y9 y10 y11 y12 y13 y14 y15 y16=>k (.pan (.iface 9 (.str y1))) ⟨[(0,.cl (.slg 1 y2)),(3,zvi y3),(5,zvl y4),(9,.cl (.slg 1 y5)),(10,zvi y6),(11,zvi y7),(12,zvb true),(13,.cl (.vp (.slg 1 y8) y9 0)),(14,zvl y10),(15,zvi y11),(16,zvl y12),(17,zvi y13),(18,zvi y14),(19,zvi y15),(20,zvb true),(21,.cl (.iface 9 (.str y16)))],[]⟩) (fun y1 y2 y3 y4 y5=>k (.exit 0) ⟨[(0,.cl (.slg 1 y1)),(3,zvi y2),(9,.cl (.slg 1 y3)),(10,zvi y4),(11,zvi y5),(12,zvb false)],[]⟩) FUEL) v1 v2 v3 v4 v5) none|_=>none
def qo9:St->KT->OO:=fun σ k=>match σ with|⟨[(q1,.ref q2 q3 v1 true q4),(q5,.cl (.slg q6 v2)),(q7,.cl (.int .i64 v3)),(q8,.cl (.int .i64 v4))],[(q9,⟨.ints .u8 v5,false⟩)]⟩=>cond (eqL [q1,q2,q3,q4,q5,q6,q7,q8,q9] [6,88,0,1,25,1,26,27,88]) (shut (qha (fun y1 y2 y3 y4 y5=>k (.exit 2) ⟨[(6,.ref 88 0 y1 true 1),(25,.cl (.slg 1 y2)),(26,zvi y3),(27,zvi y4),(28,zvb false)],[(88,⟨.ints .u8 y5,false⟩)]⟩) FUEL) v1 v2 v3 v4 v5) none|_=>none
def ESConcat:Env:= {mkE BSConcat qa9 36 with byref:=lk [] [(162,[0])],keep:=lk false [(162,true)],live:=lk [] [(3,[0,3,9,10,11]),(11,[6,25,26,27])],ren:=lk [] [(11,[(97,88)])],lp:=lk none [(3,some qsj),(11,some qo9)]}
def q03:LpT Tryz.prog (ESConcat) Tryz.f124 0 3 qsj:=by
 intro σ k r h;unfold qsj at h;split at h
 ·obtain⟨hc,j⟩:=qaa h;cases qbi hc;rw[qab] at j;apply jt5 j _ (fun a=>qjt a _ _)
  ·intro n;rfl
  ·intro n;kernel_rfl
  ·rfl
 ·cases h
def qx7:LpT Tryz.prog (ESConcat) Tryz.f124 1 11 qo9:=by
 intro σ k r h;unfold qo9 at h;split at h
 ·obtain⟨hc,j⟩:=qaa h;cases qbi hc;rw[qab] at j;apply jt5 j _ (fun a=>qhu a _)
  ·intro n;rfl
  ·intro n;kernel_rfl
  ·rfl
 ·cases h
def xbfs(l:LC):OO:=shut (qis (fun y1 y2 y3 y4 y5 y6 y7 y8 y9 y10 y11 y12 y13 y14 y15 y16=>some (.pan (.iface 9 (.str y1)) [])) (fun y17 y18 y19 y20 y21=>cond (q2a y18) (let r22:=qa6;shut (qha (fun y23 y24 y25 y26 y27=>zR [zvl y27] []) FUEL) 0 y17 (y17.length:Int) 0 r22) none) FUEL) l 0 l (l.length:Int) 0
abbrev q6y:=Nat->Int->LC->Int->Int->Int->LI->LC->LC->OO
abbrev xbjo:=Nat->Int->Int->LI->Bool->LC->Int->Int->Int->LC->Nat->Int->LI->LC->LI->Bool->Int->LI->LC->LI->Bool->LI->Bool->Bool->Int->LI->LC->Int->LI->LC->LC->OO
def qlw(rk:Nat)(again:q6y)(k0:xbjo)(k1:q6y)(v1:Nat)(v2:Int)(v3:LC)(v4 v5 v6:Int)(v7:LI)(v8 v9:LC):OO:=cond (decide (v5<v4)) (cond (decide ((0:Int)<=v5)) (cond (decide (v5<(v3.length:Int))) ((v3[v5.toNat]?).bind fun(e5:CV)=>let e6:=(cell1 e5).headD .nili;let e7:=(cell1 e5).tail.headD .nili;let e8:=(cell1 e5).tail.tail.headD .nili;cond (qhz .i64 e6&&(qf6 .u8 e7&&(qej 3 e8&&true))) (let i9:=qf9 e6;let l10:=qb8 e7;let l11:=qbl e8;cond (isWr rk [.int .i64 i9,.sli .u8 l10,.slg 3 l11]) (let r12:=(qef [.int .i64 i9,.sli .u8 l10,.slg 3 l11]).1;let r13:=(qef [.int .i64 i9,.sli .u8 l10,.slg 3 l11]).2;cond (!r13) (k0 v1 v2 v5 r12 r13 v3 v4 v5 v5 v3 v5.toNat i9 l10 l11 r12 r13 i9 l10 l11 r12 r13 r12 r13 r13 v6 v7 v8 i9 l10 l11 v9) (let x14:=i64.wrap (v2+(r12.length:Int));cond (decide ((0:Int)<=v5)) (cond (decide (v5<(v1:Int))) (let l15:=v9.set (0+v5.toNat) (.sli .u8 r12);let x16:=i64.wrap (v5+1);again v1 x14 v3 v4 x16 v6 v7 v8 l15) none) none)) none) none) none) none) (k1 v1 v2 v3 v4 v5 v6 v7 v8 v9)
def qky(rk:Nat)(k0:xbjo)(k1:q6y):Nat->Nat->Int->LC->Int->Int->Int->LI->LC->LC->OO|0=>fun _ _ _ _ _ _ _ _ _=>none|n+1=>qlw rk (qky rk k0 k1 n) k0 k1
def qxm(rk:Nat):St->KT->OO:=fun σ k=>match σ with|⟨[(q1,.ptr q2 q3 q4),(q5,.ref q6 q7 v1 true q8),(q9,.cl (.int .i64 v2)),(q10,.cl (.slg q11 v3)),(q12,.cl (.int .i64 v4)),(q13,.cl (.int .i64 v5))],[(q14,⟨.var [.cl (.int .i64 v6),.cl (.sli .u8 v7),.cl (.slg q15 v8)],false⟩),(q16,⟨.gen q17 v9,false⟩)]⟩=>cond (eqL [q1,q2,q3,q4,q5,q6,q7,q8,q9,q10,q11,q12,q13,q14,q15,q16,q17] [1,65,0,0,4,90,0,1,5,28,3,29,30,65,3,90,1]) (shut (qky rk (fun y1 y2 y3 y4 y5 y6 y7 y8 y9 y10 y11 y12 y13 y14 y15 y16 y17 y18 y19 y20 y21 y22 y23 y24 y25 y26 y27 y28 y29 y30 y31=>k .ret ⟨[(1,.ptr 65 0 0),(2,.ref 66 0 0 true 1),(3,zvb false),(4,.ref 90 0 y1 true 1),(5,zvi y2),(6,zvi y3),(7,.ptr 71 0 0),(8,zvl y4),(9,zvb y5),(28,zvg y6),(29,zvi y7),(30,zvi y8),(31,zvb true),(32,zvi y9),(33,.cl (.vp (.slg 3 y10) y11 0)),(34,.cl (.agg [.int .i64 y12,.sli .u8 y13,.slg 3 y14])),(35,.tup [zvl y15,zvb y16]),(36,.cl (.agg [.int .i64 y17,.sli .u8 y18,.slg 3 y19])),(37,.tup [zvl y20,zvb y21]),(38,zvl y22),(39,zvb y23),(40,zvb y24),(41,zvb true)],[(65,⟨.var [zvi y25,zvl y26,zvg y27],false⟩),(66,⟨.ints .u8 [],false⟩),(71,⟨.var [zvi y28,zvl y29,zvg y30],false⟩),(90,⟨.gen 1 y31,false⟩)]⟩) (fun y1 y2 y3 y4 y5 y6 y7 y8 y9=>k (.exit 0) ⟨[(1,.ptr 65 0 0),(4,.ref 90 0 y1 true 1),(5,zvi y2),(28,zvg y3),(29,zvi y4),(30,zvi y5),(31,zvb false)],[(65,⟨.var [zvi y6,zvl y7,zvg y8],false⟩),(90,⟨.gen 1 y9,false⟩)]⟩) FUEL) v1 v2 v3 v4 v5 v6 v7 v8 v9) none|_=>none
def EDWrite(rk:Nat):Env:= {
 orc:=fun g=>cond (Nat.beq g 50) ((kT KDBoxed)) (cond (Nat.beq g 74) SDWrite (cond (Nat.beq g 122) ((kT KDPut)) (cond (Nat.beq g 123) ((kT KOSorted)) (cond (Nat.beq g 124) ((kT KSConcat)) (fun _ _=>Tree.fail)))))
 pre:=fun g=>cond (Nat.beq g 50) ((kP KDBoxed)) (cond (Nat.beq g 74) (qiy (rk)) (cond (Nat.beq g 122) ((kP KDPut)) (cond (Nat.beq g 123) ((kP KOSorted)) (cond (Nat.beq g 124) ((kP KSConcat)) (fun _ _=>true)))))
 byref:=fun g=>cond (Nat.beq g 122) ([0]) ([])
 keep:=fun g=>cond (Nat.beq g 122) true (false)
 live:=fun r=>cond (Nat.beq r 6) ([1,4,5,28,29,30]) ([])
 glob:=qa9
 nt:=66
 lp:=fun r=>cond (Nat.beq r 6) (some (qxm rk)) (none)
}
def q4h(rk:Nat):LpT Tryz.prog (EDWrite rk) Tryz.f74 0 6 (qxm rk):=by
 intro σ k r h;unfold qxm at h;split at h
 ·obtain⟨hc,j⟩:=qaa h;cases qbi hc;rw[qab] at j;apply jt9 j _ (fun a=>qlw rk a _ _)
  ·intro n;rfl
  ·intro n;kernel_rfl
  ·rfl
 ·cases h
def xbba(rk:Nat): ∀c,Tryz.f74.body=some c->qbf Tryz.prog (EDWrite rk) 40 c:=lsB (ids:=[(true,6)]) (by kernel_rfl) ⟨⟨_,rfl,q4h rk⟩,trivial⟩
def xbe2(rk:Nat)(ta:Int)(ba:LI)(ka:LC):OO:=let r1:=qbn ta;cond (!r1) (cond (qhg ta (ba.length:Int)) (let r3:=qch ta (ba.length:Int);let l4:=r3++ba;cond (Nat.ble (l4.length*1) LIMN) (cond (Nat.ble l4.length LIMN) (zR [zvl l4,zvb true] []) none) none) none) (cD ((0:Int)<=(ka.length:Int)) (cD ((ka.length:Int)<=(ka.length:Int)) (cD ((ka.length:Int)*24<=LIM) (cD ((ka.length:Int)<=LIM) (shut (qky rk (fun y5 y6 y7 y8 y9 y10 y11 y12 y13 y14 y15 y16 y17 y18 y19 y20 y21 y22 y23 y24 y25 y26 y27 y28 y29 y30 y31 y32 y33 y34 y35=>zR [.cl (.sli .u8 []),zvb false] []) (fun y36 y37 y38 y39 y40 y41 y42 y43 y44=>cD (y41=49) (cond (qhj y44) (let r45:=qbp y44;cond (!r45) (zR [.cl (.sli .u8 []),zvb false] []) (cond (qhg y41 y37) (let r47:=qch y41 y37;cond (qmi y44) (let r48:=qcs y44;let l49:=r47++r48;cond (Nat.ble (l49.length*1) LIMN) (cond (Nat.ble l49.length LIMN) (zR [zvl l49,zvb true] []) none) none) none) none)) none) (cond (qhg y41 y37) (let r51:=qch y41 y37;cond (qmi y44) (let r52:=qcs y44;let l53:=r51++r52;cond (Nat.ble (l53.length*1) LIMN) (cond (Nat.ble l53.length LIMN) (zR [zvl l53,zvb true] []) none) none) none) none)) FUEL) (Int.toNat (ka.length:Int)) 0 ka (ka.length:Int) 0 ta ba ka (List.replicate (Int.toNat (ka.length:Int)) (.sli .u8 []))) none) none) none) none)
def xbe4(rk:Nat)(ta:Int)(ba:LI)(ka:LC):qqy Tryz.prog (EDWrite rk) 40 false Tryz.f74 [.cl (.agg [.int .i64 ta,.sli .u8 ba,.slg 3 ka])] []=xbe2 rk ta ba ka:=by kernel_rfl
abbrev xbjr:=Int->Nat->Int->Int->LI->Bool->Int->LC->Int->LI->Bool->LC->Int->LC->Nat->Int->LI->LC->Int->Int->LI->Bool->LI->Bool->Int->LI->Int->Int->Bool->Bool->Int->LI->LC->LC->OO
abbrev xbjs:=Int->Nat->Int->Int->LI->Bool->Int->LC->Int->LI->Bool->LC->Int->LC->Nat->Int->LI->LC->Int->Int->LI->Bool->LI->Bool->Int->LI->Int->Int->Bool->Bool->Int->Bool->Int->LI->LC->LC->OO
abbrev xbjt:=Int->Nat->Int->Int->Int->LC->Int->Int->LI->LC->LC->OO
def qjr(rk:Nat)(again:Int->Nat->Int->Int->Int->LI->LC->LC->OO)(k0:xbjr)(k1:xbjs)(k2:xbjt)(v1:Int)(v2:Nat)(v3 v4 v5:Int)(v6:LI)(v7 v8:LC):OO:=cD (v4<(v7.length:Int)) (cD ((0:Int)<=v4) (cD (v4<(v7.length:Int)) ((v7[v4.toNat]?).bind fun(e7:CV)=>let e8:=(cell1 e7).headD .nili;let e9:=(cell1 e7).tail.headD .nili;let e10:=(cell1 e7).tail.tail.headD .nili;cond (qhz .i64 e8&&(qf6 .u8 e9&&(qej 3 e10&&true))) (let i11:=qf9 e8;let l12:=qb8 e9;let l13:=qbl e10;let x14:=i64.wrap (v1 - 1);cond (isSr rk [.int .i64 i11,.sli .u8 l12,.slg 3 l13]&&qc1 x14) (let r15:=(qhb [.int .i64 i11,.sli .u8 l12,.slg 3 l13] x14).1;let r16:=(qhb [.int .i64 i11,.sli .u8 l12,.slg 3 l13] x14).2;let x17:=i64.wrap (v3+(r15.length:Int));cond (!r16) (k0 v1 v2 x17 v4 r15 r16 v4 v7 (v7.length:Int) r15 r16 v7 v4 v7 v4.toNat i11 l12 l13 v1 x14 r15 r16 r15 r16 v3 r15 (r15.length:Int) x17 r16 (!r16) v5 v6 v7 v8) (cD ((1048576:Int)<x17) (k1 v1 v2 x17 v4 r15 r16 v4 v7 (v7.length:Int) r15 r16 v7 v4 v7 v4.toNat i11 l12 l13 v1 x14 r15 r16 r15 r16 v3 r15 (r15.length:Int) x17 r16 (!r16) x17 (decide ((1048576:Int)<x17)) v5 v6 v7 v8) (let l18:=v8++[.sli .u8 r15];cond (Nat.ble (l18.length*24) LIMN) (cond (Nat.ble l18.length LIMN) (let x19:=i64.wrap (v4+1);again v1 l18.length x17 x19 v5 v6 v7 l18) none) none))) none) none) none) none) (k2 v1 v2 v3 v4 v4 v7 (v7.length:Int) v5 v6 v7 v8)
def qir(rk:Nat)(k0:xbjr)(k1:xbjs)(k2:xbjt):Nat->Int->Nat->Int->Int->Int->LI->LC->LC->OO|0=>fun _ _ _ _ _ _ _ _=>none|n+1=>qjr rk (qir rk k0 k1 k2 n) k0 k1 k2
def qsi(rk:Nat):St->KT->OO:=fun σ k=>match σ with|⟨[(q1,.cl (.int .i64 v1)),(q2,.ptr q3 q4 q5),(q6,.ref q7 q8 v2 true q9),(q10,.cl (.int .i64 v3)),(q11,.cl (.int .i64 v4))],[(q12,⟨.var [.cl (.int .i64 v5),.cl (.sli .u8 v6),.cl (.slg q13 v7)],false⟩),(q14,⟨.gen q15 v8,false⟩)]⟩=>cond (eqL [q1,q2,q3,q4,q5,q6,q7,q8,q9,q10,q11,q12,q13,q14,q15] [1,2,66,0,0,6,70,0,1,7,8,66,3,70,1]) (shut (qir rk (fun y1 y2 y3 y4 y5 y6 y7 y8 y9 y10 y11 y12 y13 y14 y15 y16 y17 y18 y19 y20 y21 y22 y23 y24 y25 y26 y27 y28 y29 y30 y31 y32 y33 y34=>k .ret ⟨[(1,zvi y1),(2,.ptr 66 0 0),(4,.ref 68 0 0 true 1),(5,zvb false),(6,.ref 70 0 y2 true 1),(7,zvi y3),(8,zvi y4),(9,zvl y5),(10,zvb y6),(54,zvi y7),(55,.ptr 66 0 2),(56,zvg y8),(57,zvi y9),(58,zvb true),(61,.tup [zvl y10,zvb y11]),(62,.ptr 66 0 2),(63,zvg y12),(64,zvi y13),(65,.cl (.vp (.slg 3 y14) y15 0)),(66,.cl (.agg [.int .i64 y16,.sli .u8 y17,.slg 3 y18])),(67,zvi y19),(68,zvi y20),(69,.tup [zvl y21,zvb y22]),(70,zvl y23),(71,zvb y24),(72,zvi y25),(73,zvl y26),(74,zvi y27),(75,zvi y28),(76,zvb y29),(77,zvb y30),(78,zvb true),(79,.tup []),(80,.tup []),(81,zvb true)],[(66,⟨.var [zvi y31,zvl y32,zvg y33],false⟩),(68,⟨.ints .u8 [],false⟩),(70,⟨.gen 1 y34,false⟩)]⟩) (fun y1 y2 y3 y4 y5 y6 y7 y8 y9 y10 y11 y12 y13 y14 y15 y16 y17 y18 y19 y20 y21 y22 y23 y24 y25 y26 y27 y28 y29 y30 y31 y32 y33 y34 y35 y36=>k .ret ⟨[(1,zvi y1),(2,.ptr 66 0 0),(4,.ref 68 0 0 true 1),(5,zvb false),(6,.ref 70 0 y2 true 1),(7,zvi y3),(8,zvi y4),(9,zvl y5),(10,zvb y6),(54,zvi y7),(55,.ptr 66 0 2),(56,zvg y8),(57,zvi y9),(58,zvb true),(61,.tup [zvl y10,zvb y11]),(62,.ptr 66 0 2),(63,zvg y12),(64,zvi y13),(65,.cl (.vp (.slg 3 y14) y15 0)),(66,.cl (.agg [.int .i64 y16,.sli .u8 y17,.slg 3 y18])),(67,zvi y19),(68,zvi y20),(69,.tup [zvl y21,zvb y22]),(70,zvl y23),(71,zvb y24),(72,zvi y25),(73,zvl y26),(74,zvi y27),(75,zvi y28),(76,zvb y29),(77,zvb y30),(78,zvb false),(79,zvi y31),(80,zvb y32),(81,zvb true)],[(66,⟨.var [zvi y33,zvl y34,zvg y35],false⟩),(68,⟨.ints .u8 [],false⟩),(70,⟨.gen 1 y36,false⟩)]⟩) (fun y1 y2 y3 y4 y5 y6 y7 y8 y9 y10 y11=>k (.exit 0) ⟨[(1,zvi y1),(2,.ptr 66 0 0),(6,.ref 70 0 y2 true 1),(7,zvi y3),(8,zvi y4),(54,zvi y5),(55,.ptr 66 0 2),(56,zvg y6),(57,zvi y7),(58,zvb false)],[(66,⟨.var [zvi y8,zvl y9,zvg y10],false⟩),(70,⟨.gen 1 y11,false⟩)]⟩) FUEL) v1 v2 v3 v4 v5 v6 v7 v8) none|_=>none
def ERWrite(rk:Nat):Env:= {
 orc:=fun g=>cond (Nat.beq g 77) SRWrite (cond (Nat.beq g 101) ((kT KRTagged)) (cond (Nat.beq g 103) ((kT KRBoxed)) (cond (Nat.beq g 104) ((kT KRFits)) (cond (Nat.beq g 105) ((kT KR4Sorted)) (cond (Nat.beq g 128) ((kT KRHead)) (cond (Nat.beq g 129) ((kT KR1Join)) (fun _ _=>Tree.fail)))))))
 pre:=fun g=>cond (Nat.beq g 77) (qiz (rk)) (cond (Nat.beq g 101) ((kP KRTagged)) (cond (Nat.beq g 103) ((kP KRBoxed)) (cond (Nat.beq g 104) ((kP KRFits)) (cond (Nat.beq g 105) ((kP KR4Sorted)) (cond (Nat.beq g 128) ((kP KRHead)) (cond (Nat.beq g 129) ((kP KR1Join)) (fun _ _=>true)))))))
 keep:=fun g=>cond (Nat.beq g 128) true (false)
 live:=fun r=>cond (Nat.beq r 12) ([1,2,6,7,8]) ([])
 ren:=fun r=>cond (Nat.beq r 12) ([(149,70)]) ([])
 glob:=qa9
 nt:=101
 lp:=fun r=>cond (Nat.beq r 12) (some (qsi rk)) (none)
}
def q02(rk:Nat):LpT Tryz.prog (ERWrite rk) Tryz.f77 0 12 (qsi rk):=by
 intro σ k r h;unfold qsi at h;split at h
 ·obtain⟨hc,j⟩:=qaa h;cases qbi hc;rw[qab] at j;apply jt8 j _ (fun a=>qjr rk a _ _ _)
  ·intro n;rfl
  ·intro n;kernel_rfl
  ·rfl
 ·cases h
def xbbe(rk:Nat): ∀c,Tryz.f77.body=some c->qbf Tryz.prog (ERWrite rk) 40 c:=lsB (ids:=[(true,12)]) (by kernel_rfl) ⟨⟨_,rfl,q02 rk⟩,trivial⟩
def xbfq(rk:Nat)(ta:Int)(ba:LI)(ka:LC)(deep:Int):OO:=cD (deep=0) (zR [.cl (.sli .u8 []),zvb false] []) (let r1:=qep ta;cond (!r1) (zR [.cl (.sli .u8 []),zvb false] []) (let r2:=qbn ta;cond (!r2) (cD ((0:Int)<(ka.length:Int)) (zR [.cl (.sli .u8 []),zvb false] []) (cD ((1048576:Int)<(ba.length:Int)) (zR [.cl (.sli .u8 []),zvb false] []) (cond (qad ba) (let r3:=qdn ta ba;cond (!r3) (zR [.cl (.sli .u8 []),zvb false] []) (cond (qhg ta (ba.length:Int)) (let r5:=qch ta (ba.length:Int);let l6:=r5++ba;cond (Nat.ble (l6.length*1) LIMN) (cond (Nat.ble l6.length LIMN) (zR [zvl l6,zvb true] []) none) none) none)) none))) (cD ((0:Int)<(ba.length:Int)) (zR [.cl (.sli .u8 []),zvb false] []) (shut (qir rk (fun y7 y8 y9 y10 y11 y12 y13 y14 y15 y16 y17 y18 y19 y20 y21 y22 y23 y24 y25 y26 y27 y28 y29 y30 y31 y32 y33 y34 y35 y36 y37 y38 y39 y40=>zR [.cl (.sli .u8 []),zvb false] []) (fun y41 y42 y43 y44 y45 y46 y47 y48 y49 y50 y51 y52 y53 y54 y55 y56 y57 y58 y59 y60 y61 y62 y63 y64 y65 y66 y67 y68 y69 y70 y71 y72 y73 y74 y75 y76=>zR [.cl (.sli .u8 []),zvb false] []) (fun y77 y78 y79 y80 y81 y82 y83 y84 y85 y86 y87=>cD (y84=49) (cond (qhj y87) (let r88:=qbp y87;cond (!r88) (zR [.cl (.sli .u8 []),zvb false] []) (cond (qhg y84 y79) (let r90:=qch y84 y79;cond (qmi y87) (let r91:=qcs y87;let l92:=r90++r91;cond (Nat.ble (l92.length*1) LIMN) (cond (Nat.ble l92.length LIMN) (zR [zvl l92,zvb true] []) none) none) none) none)) none) (cond (qhg y84 y79) (let r94:=qch y84 y79;cond (qmi y87) (let r95:=qcs y87;let l96:=r94++r95;cond (Nat.ble (l96.length*1) LIMN) (cond (Nat.ble l96.length LIMN) (zR [zvl l96,zvb true] []) none) none) none) none)) FUEL) deep 0 0 0 ta ba ka []))))
def xbfr(rk:Nat)(ta:Int)(ba:LI)(ka:LC)(deep:Int):qqy Tryz.prog (ERWrite rk) 40 false Tryz.f77 [.cl (.agg [.int .i64 ta,.sli .u8 ba,.slg 3 ka]),.cl (.int .i64 deep)] []=xbfq rk ta ba ka deep:=by kernel_rfl
def EDBytes:Env:= {
 orc:=fun g=>cond (Nat.beq g 73) SDSize (cond (Nat.beq g 74) SDWrite (fun _ _=>Tree.fail))
 pre:=fun g=>cond (Nat.beq g 73) quc (cond (Nat.beq g 74) qoj (fun _ _=>true))
 glob:=qa9
 nt:=23
}
def xba5: ∀c,Tryz.f36.body=some c->qbf Tryz.prog (EDBytes) 40 c:=lsB (ids:=[]) (by kernel_rfl) trivial
def xbes(ta:Int)(ba:LI)(ka:LC):OO:=cond (isS [.int .i64 ta,.sli .u8 ba,.slg 3 ka]&&qc1 32) (let r1:=q2k [.int .i64 ta,.sli .u8 ba,.slg 3 ka] 32;cD (r1<0) (zR [.cl (.sli .u8 []),zvi 1] []) (cD ((1048576:Int)<r1) (zR [.cl (.sli .u8 []),zvi 1] []) (cond (isW [.int .i64 ta,.sli .u8 ba,.slg 3 ka]) (let r2:=(qef [.int .i64 ta,.sli .u8 ba,.slg 3 ka]).1;let r3:=(qef [.int .i64 ta,.sli .u8 ba,.slg 3 ka]).2;cond (!r3) (zR [.cl (.sli .u8 []),zvi 1] []) (zR [zvl r2,zvi 0] [])) none))) none
def xbeu(ta:Int)(ba:LI)(ka:LC):qqy Tryz.prog (EDBytes) 40 false Tryz.f36 [.cl (.agg [.int .i64 ta,.sli .u8 ba,.slg 3 ka])] []=xbes ta ba ka:=by kernel_rfl
def xbq6:Env:= {
 orc:=fun g=>cond (Nat.beq g 36) SDBytes (fun _ _=>Tree.fail)
 pre:=fun g=>cond (Nat.beq g 36) qjx (fun _ _=>true)
 glob:=qa9
 nt:=12
}
def xbgr: ∀c,Tryz.f72.body=some c->qbf Tryz.prog (xbq6) 40 c:=lsB (ids:=[]) (by kernel_rfl) trivial
def xbsx(ta:Int)(ba:LI)(ka:LC):OO:=cond (isS [.int .i64 ta,.sli .u8 ba,.slg 3 ka]) (let r2:=(qbb [.int .i64 ta,.sli .u8 ba,.slg 3 ka]).2;zB (decide (r2=0))) none
def xbky(ta:Int)(ba:LI)(ka:LC):qqy Tryz.prog (xbq6) 40 false Tryz.f72 [.cl (.agg [.int .i64 ta,.sli .u8 ba,.slg 3 ka])] []=xbsx ta ba ka:=by kernel_rfl
def ERBytes:Env:= {
 orc:=fun g=>cond (Nat.beq g 77) SRWrite (fun _ _=>Tree.fail)
 pre:=fun g=>cond (Nat.beq g 77) qok (fun _ _=>true)
 glob:=qa9
 nt:=19
}
def xbbc: ∀c,Tryz.f38.body=some c->qbf Tryz.prog (ERBytes) 40 c:=lsB (ids:=[]) (by kernel_rfl) trivial
def xbfh(ta:Int)(ba:LI)(ka:LC):OO:=cond (isS [.int .i64 ta,.sli .u8 ba,.slg 3 ka]&&qc1 32) (let r1:=(qhb [.int .i64 ta,.sli .u8 ba,.slg 3 ka] 32).1;let r2:=(qhb [.int .i64 ta,.sli .u8 ba,.slg 3 ka] 32).2;cond (!r2) (zR [.cl (.sli .u8 []),zvi 1] []) (cD ((1048576:Int)<(r1.length:Int)) (zR [.cl (.sli .u8 []),zvi 1] []) (zR [zvl r1,zvi 0] []))) none
def xbfi(ta:Int)(ba:LI)(ka:LC):qqy Tryz.prog (ERBytes) 40 false Tryz.f38 [.cl (.agg [.int .i64 ta,.sli .u8 ba,.slg 3 ka])] []=xbfh ta ba ka:=by kernel_rfl
def xbrc:Env:= {
 orc:=fun g=>cond (Nat.beq g 38) SRBytes (fun _ _=>Tree.fail)
 pre:=fun g=>cond (Nat.beq g 38) qjy (fun _ _=>true)
 glob:=qa9
 nt:=12
}
def xbgu: ∀c,Tryz.f66.body=some c->qbf Tryz.prog (xbrc) 40 c:=lsB (ids:=[]) (by kernel_rfl) trivial
def xbs5(ta:Int)(ba:LI)(ka:LC):OO:=cond (isS [.int .i64 ta,.sli .u8 ba,.slg 3 ka]) (let r2:=(qbb [.int .i64 ta,.sli .u8 ba,.slg 3 ka]).2;zB (decide (r2=0))) none
def xbk4(ta:Int)(ba:LI)(ka:LC):qqy Tryz.prog (xbrc) 40 false Tryz.f66 [.cl (.agg [.int .i64 ta,.sli .u8 ba,.slg 3 ka])] []=xbs5 ta ba ka:=by kernel_rfl
def xbg0(again:LI->LI->Int->Int->OO)(k0:OO)(k1:OO)(v1 v2:LI)(v3 v4:Int):OO:=cD (v4<v3) (getK v1 v4 fun e1=>getK v2 v4 fun e2=>cond (!decide (e1=e2)) (k0) (let x3:=i64.wrap (v4+1);again v1 v2 v3 x3)) (k1)
def qzb(k0:OO)(k1:OO):Nat->LI->LI->Int->Int->OO:=qe8 (fun a=>xbg0 a k0 k1) (fun _ _ _ _=>none)
def q42:St->KT->OO:=fun σ k=>match σ with|⟨[(q1,.cl (.sli .u32 v1)),(q2,.cl (.sli .u32 v2)),(q3,.cl (.int .i64 v3)),(q4,.cl (.int .i64 v4))],[]⟩=>cond (eqL [q1,q2,q3,q4] [0,1,12,13]) (shut (qzb (k .ret ⟨[(4,zvb false)],[]⟩) (k (.exit 0) ⟨[],[]⟩) FUEL) v1 v2 v3 v4) none|_=>none
def ESEq32:Env:= {mkE BSEq32 qa9 26 with live:=lk [] [(4,[0,1,12,13])],lp:=lk none [(4,some q42)],xl:=lk none [(0,some [4]),(1,some [])]}
def q99:LpT Tryz.prog (ESEq32) Tryz.f177 0 4 q42:=by
 intro σ k r h;unfold q42 at h;split at h
 ·obtain⟨hc,j⟩:=qaa h;cases qbi hc;rw[qab] at j;apply it4 j
  ·intro n;kernel_rfl
  ·rfl
 ·cases h
def xby3(a:LI)(b:LI):OO:=cond (!decide ((a.length:Int)=(b.length:Int))) (zB false) (shut (qzb (zB false) (zB true) FUEL) a b (a.length:Int) 0)
def EOSame:Env:= {mkE BOSame qa9 8 with xl:=lk none [(0,some [4])]}
def xb51(a:LI)(b:LI):OO:=cond (qdu a) (let r1:=qcr a b;zB r1) none
def q5t(k0:Int->Int->Int->Int->Int->OO)(k1:Int->Int->Int->Int->OO)(k2:Int->Int->Int->OO)(k3:Int->Int->OO)(k4:Int->OO)(v1:Int):OO:=let x1:=Int.fdiv v1 (2 ^ 28);cond (!decide (x1=0)) (let x2:=Int.fdiv v1 (2 ^ 28);let x3:=u8.wrap x2;let x4:=u8.wrap ((BitVec.ofInt 8 x3||| BitVec.ofInt 8 128).toNat);let x5:=Int.fdiv v1 (2 ^ 21);cond (!decide (x5=0)) (let x6:=Int.fdiv v1 (2 ^ 21);let x7:=u8.wrap x6;let x8:=u8.wrap ((BitVec.ofInt 8 x7||| BitVec.ofInt 8 128).toNat);let x9:=Int.fdiv v1 (2 ^ 14);cond (!decide (x9=0)) (let x10:=Int.fdiv v1 (2 ^ 14);let x11:=u8.wrap x10;let x12:=u8.wrap ((BitVec.ofInt 8 x11||| BitVec.ofInt 8 128).toNat);let x13:=Int.fdiv v1 (2 ^ 7);cond (!decide (x13=0)) (let x14:=Int.fdiv v1 (2 ^ 7);let x15:=u8.wrap x14;let x16:=u8.wrap ((BitVec.ofInt 8 x15||| BitVec.ofInt 8 128).toNat);k0 v1 x4 x8 x12 x16) (k1 v1 x4 x8 x12)) (let x17:=Int.fdiv v1 (2 ^ 7);cond (!decide (x17=0)) (let x18:=Int.fdiv v1 (2 ^ 7);let x19:=u8.wrap x18;let x20:=u8.wrap ((BitVec.ofInt 8 x19||| BitVec.ofInt 8 128).toNat);k1 v1 x4 x8 x20) (k2 v1 x4 x8))) (let x21:=Int.fdiv v1 (2 ^ 14);cond (!decide (x21=0)) (let x22:=Int.fdiv v1 (2 ^ 14);let x23:=u8.wrap x22;let x24:=u8.wrap ((BitVec.ofInt 8 x23||| BitVec.ofInt 8 128).toNat);let x25:=Int.fdiv v1 (2 ^ 7);cond (!decide (x25=0)) (let x26:=Int.fdiv v1 (2 ^ 7);let x27:=u8.wrap x26;let x28:=u8.wrap ((BitVec.ofInt 8 x27||| BitVec.ofInt 8 128).toNat);k1 v1 x4 x24 x28) (k2 v1 x4 x24)) (let x29:=Int.fdiv v1 (2 ^ 7);cond (!decide (x29=0)) (let x30:=Int.fdiv v1 (2 ^ 7);let x31:=u8.wrap x30;let x32:=u8.wrap ((BitVec.ofInt 8 x31||| BitVec.ofInt 8 128).toNat);k2 v1 x4 x32) (k3 v1 x4)))) (let x33:=Int.fdiv v1 (2 ^ 21);cond (!decide (x33=0)) (let x34:=Int.fdiv v1 (2 ^ 21);let x35:=u8.wrap x34;let x36:=u8.wrap ((BitVec.ofInt 8 x35||| BitVec.ofInt 8 128).toNat);let x37:=Int.fdiv v1 (2 ^ 14);cond (!decide (x37=0)) (let x38:=Int.fdiv v1 (2 ^ 14);let x39:=u8.wrap x38;let x40:=u8.wrap ((BitVec.ofInt 8 x39||| BitVec.ofInt 8 128).toNat);let x41:=Int.fdiv v1 (2 ^ 7);cond (!decide (x41=0)) (let x42:=Int.fdiv v1 (2 ^ 7);let x43:=u8.wrap x42;let x44:=u8.wrap ((BitVec.ofInt 8 x43||| BitVec.ofInt 8 128).toNat);k1 v1 x36 x40 x44) (k2 v1 x36 x40)) (let x45:=Int.fdiv v1 (2 ^ 7);cond (!decide (x45=0)) (let x46:=Int.fdiv v1 (2 ^ 7);let x47:=u8.wrap x46;let x48:=u8.wrap ((BitVec.ofInt 8 x47||| BitVec.ofInt 8 128).toNat);k2 v1 x36 x48) (k3 v1 x36))) (let x49:=Int.fdiv v1 (2 ^ 14);cond (!decide (x49=0)) (let x50:=Int.fdiv v1 (2 ^ 14);let x51:=u8.wrap x50;let x52:=u8.wrap ((BitVec.ofInt 8 x51||| BitVec.ofInt 8 128).toNat);let x53:=Int.fdiv v1 (2 ^ 7);cond (!decide (x53=0)) (let x54:=Int.fdiv v1 (2 ^ 7);let x55:=u8.wrap x54;let x56:=u8.wrap ((BitVec.ofInt 8 x55||| BitVec.ofInt 8 128).toNat);k2 v1 x52 x56) (k3 v1 x52)) (let x57:=Int.fdiv v1 (2 ^ 7);cond (!decide (x57=0)) (let x58:=Int.fdiv v1 (2 ^ 7);let x59:=u8.wrap x58;let x60:=u8.wrap ((BitVec.ofInt 8 x59||| BitVec.ofInt 8 128).toNat);k3 v1 x60) (k4 v1))))
def qtl(k0:Nat->Int->LI->OO)(k1:Nat->Int->LI->OO)(v1:Nat)(v2:Int)(v3:LI):OO:=let x1:=Int.fdiv v2 (2 ^ 28);cond (!decide (x1=0)) (let x2:=Int.fdiv v2 (2 ^ 28);let x3:=u8.wrap x2;let x4:=u8.wrap ((BitVec.ofInt 8 x3||| BitVec.ofInt 8 128).toNat);let l5:=v3++[x4];rmK l5.length 1<| let x6:=Int.fdiv v2 (2 ^ 21);cond (!decide (x6=0)) (let x7:=Int.fdiv v2 (2 ^ 21);let x8:=u8.wrap x7;let x9:=u8.wrap ((BitVec.ofInt 8 x8||| BitVec.ofInt 8 128).toNat);let l10:=l5++[x9];rmK l10.length 1<| let x11:=Int.fdiv v2 (2 ^ 14);cond (!decide (x11=0)) (let x12:=Int.fdiv v2 (2 ^ 14);let x13:=u8.wrap x12;let x14:=u8.wrap ((BitVec.ofInt 8 x13||| BitVec.ofInt 8 128).toNat);let l15:=l10++[x14];rmK l15.length 1<| let x16:=Int.fdiv v2 (2 ^ 7);cond (!decide (x16=0)) (let x17:=Int.fdiv v2 (2 ^ 7);let x18:=u8.wrap x17;let x19:=u8.wrap ((BitVec.ofInt 8 x18||| BitVec.ofInt 8 128).toNat);let l20:=l15++[x19];rmK l20.length 1<| k0 l20.length v2 l20) (k0 l15.length v2 l15)) (let x21:=Int.fdiv v2 (2 ^ 7);cond (!decide (x21=0)) (let x22:=Int.fdiv v2 (2 ^ 7);let x23:=u8.wrap x22;let x24:=u8.wrap ((BitVec.ofInt 8 x23||| BitVec.ofInt 8 128).toNat);let l25:=l10++[x24];rmK l25.length 1<| k0 l25.length v2 l25) (k0 l10.length v2 l10))) (let x26:=Int.fdiv v2 (2 ^ 14);cond (!decide (x26=0)) (let x27:=Int.fdiv v2 (2 ^ 14);let x28:=u8.wrap x27;let x29:=u8.wrap ((BitVec.ofInt 8 x28||| BitVec.ofInt 8 128).toNat);let l30:=l5++[x29];rmK l30.length 1<| let x31:=Int.fdiv v2 (2 ^ 7);cond (!decide (x31=0)) (let x32:=Int.fdiv v2 (2 ^ 7);let x33:=u8.wrap x32;let x34:=u8.wrap ((BitVec.ofInt 8 x33||| BitVec.ofInt 8 128).toNat);let l35:=l30++[x34];rmK l35.length 1<| k0 l35.length v2 l35) (k0 l30.length v2 l30)) (let x36:=Int.fdiv v2 (2 ^ 7);cond (!decide (x36=0)) (let x37:=Int.fdiv v2 (2 ^ 7);let x38:=u8.wrap x37;let x39:=u8.wrap ((BitVec.ofInt 8 x38||| BitVec.ofInt 8 128).toNat);let l40:=l5++[x39];rmK l40.length 1<| k0 l40.length v2 l40) (k0 l5.length v2 l5)))) (let x41:=Int.fdiv v2 (2 ^ 21);cond (!decide (x41=0)) (let x42:=Int.fdiv v2 (2 ^ 21);let x43:=u8.wrap x42;let x44:=u8.wrap ((BitVec.ofInt 8 x43||| BitVec.ofInt 8 128).toNat);let l45:=v3++[x44];rmK l45.length 1<| let x46:=Int.fdiv v2 (2 ^ 14);cond (!decide (x46=0)) (let x47:=Int.fdiv v2 (2 ^ 14);let x48:=u8.wrap x47;let x49:=u8.wrap ((BitVec.ofInt 8 x48||| BitVec.ofInt 8 128).toNat);let l50:=l45++[x49];rmK l50.length 1<| let x51:=Int.fdiv v2 (2 ^ 7);cond (!decide (x51=0)) (let x52:=Int.fdiv v2 (2 ^ 7);let x53:=u8.wrap x52;let x54:=u8.wrap ((BitVec.ofInt 8 x53||| BitVec.ofInt 8 128).toNat);let l55:=l50++[x54];rmK l55.length 1<| k0 l55.length v2 l55) (k0 l50.length v2 l50)) (let x56:=Int.fdiv v2 (2 ^ 7);cond (!decide (x56=0)) (let x57:=Int.fdiv v2 (2 ^ 7);let x58:=u8.wrap x57;let x59:=u8.wrap ((BitVec.ofInt 8 x58||| BitVec.ofInt 8 128).toNat);let l60:=l45++[x59];rmK l60.length 1<| k0 l60.length v2 l60) (k0 l45.length v2 l45))) (let x61:=Int.fdiv v2 (2 ^ 14);cond (!decide (x61=0)) (let x62:=Int.fdiv v2 (2 ^ 14);let x63:=u8.wrap x62;let x64:=u8.wrap ((BitVec.ofInt 8 x63||| BitVec.ofInt 8 128).toNat);let l65:=v3++[x64];rmK l65.length 1<| let x66:=Int.fdiv v2 (2 ^ 7);cond (!decide (x66=0)) (let x67:=Int.fdiv v2 (2 ^ 7);let x68:=u8.wrap x67;let x69:=u8.wrap ((BitVec.ofInt 8 x68||| BitVec.ofInt 8 128).toNat);let l70:=l65++[x69];rmK l70.length 1<| k0 l70.length v2 l70) (k0 l65.length v2 l65)) (let x71:=Int.fdiv v2 (2 ^ 7);cond (!decide (x71=0)) (let x72:=Int.fdiv v2 (2 ^ 7);let x73:=u8.wrap x72;let x74:=u8.wrap ((BitVec.ofInt 8 x73||| BitVec.ofInt 8 128).toNat);let l75:=v3++[x74];rmK l75.length 1<| k0 l75.length v2 l75) (k1 v1 v2 v3))))
def xbcv:St->KT->OO:=fun σ k=>match σ with|⟨[(q1,.nils),(q2,.cl (.int .u32 v1)),(q3,.cl (.int .i64 q4))],[]⟩=>cond (eqL [q1,q2,q3] [0,1,5]&&decide (q4=28)) (shut (q5t (fun y1 y2 y3 y4 y5=>k .normal ⟨[(0,.ref 85 0 4 true 1),(1,.cl (.int .u32 y1))],[(85,⟨.ints .u8 [y2,y3,y4,y5],false⟩)]⟩) (fun y1 y2 y3 y4=>k .normal ⟨[(0,.ref 85 0 3 true 1),(1,.cl (.int .u32 y1))],[(85,⟨.ints .u8 [y2,y3,y4],false⟩)]⟩) (fun y1 y2 y3=>k .normal ⟨[(0,.ref 85 0 2 true 1),(1,.cl (.int .u32 y1))],[(85,⟨.ints .u8 [y2,y3],false⟩)]⟩) (fun y1 y2=>k .normal ⟨[(0,.ref 85 0 1 true 1),(1,.cl (.int .u32 y1))],[(85,⟨.ints .u8 [y2],false⟩)]⟩) (fun y1=>k .normal ⟨[(0,.nils),(1,.cl (.int .u32 y1))],[]⟩)) v1) none|⟨[(q1,.ref q2 q3 v1 true q4),(q5,.cl (.int .u32 v2)),(q6,.cl (.int .i64 q7))],[(q8,⟨.ints .u8 v3,false⟩)]⟩=>cond (eqL [q1,q2,q3,q4,q5,q6,q8] [0,0,0,1,1,5,0]&&decide (q7=28)) (shut (qtl (fun y1 y2 y3=>k .normal ⟨[(0,.ref 85 0 y1 true 1),(1,.cl (.int .u32 y2))],[(85,⟨.ints .u8 y3,false⟩)]⟩) (fun y1 y2 y3=>k .normal ⟨[(0,.ref 0 0 y1 true 1),(1,.cl (.int .u32 y2))],[(0,⟨.ints .u8 y3,false⟩)]⟩)) v1 v2 v3) none|_=>none
def EOPut:Env:= {mkE BOPut qa9 28 with live:=lk [] [(2,[0,1,5])],xl:=lk none [(0,some [4]),(1,some [0,1]),(1002,some [0,1])],jn:=lk none [(2,some xbcv)]}
def xbcw:JnOk Tryz.prog (EOPut) 40 (nthc (EOPut) Tryz.f184 0) 2 xbcv:=by
 intro σ k r h;unfold xbcv at h;split at h
 ·obtain⟨hc,j⟩:=qaa h;simp only[zab,qen,yd,zal] at hc;obtain⟨hc,rfl⟩:=hc;cases qbi hc;rw[qab] at j;exact zdx (by kernel_rfl) j
 ·obtain⟨hc,j⟩:=qaa h;simp only[zab,qen,yd,zal] at hc;obtain⟨hc,rfl⟩:=hc;cases qbi hc;rw[qab] at j;exact zdx (by kernel_rfl) j
 ·cases h
def xbog(n:Int):OO:=shut (q5t (fun y1 y2 y3 y4 y5=>let x6:=u8.wrap y1;let x7:=u8.wrap ((BitVec.ofInt 8 x6&&& ~~~ BitVec.ofInt 8 128).toNat);zR [.ref 0 0 5 true 1] [some ⟨.ints .u8 [y2,y3,y4,y5,x7],false⟩]) (fun y8 y9 y10 y11=>let x12:=u8.wrap y8;let x13:=u8.wrap ((BitVec.ofInt 8 x12&&& ~~~ BitVec.ofInt 8 128).toNat);zR [.ref 0 0 4 true 1] [some ⟨.ints .u8 [y9,y10,y11,x13],false⟩]) (fun y14 y15 y16=>let x17:=u8.wrap y14;let x18:=u8.wrap ((BitVec.ofInt 8 x17&&& ~~~ BitVec.ofInt 8 128).toNat);zR [.ref 0 0 3 true 1] [some ⟨.ints .u8 [y15,y16,x18],false⟩]) (fun y19 y20=>let x21:=u8.wrap y19;let x22:=u8.wrap ((BitVec.ofInt 8 x21&&& ~~~ BitVec.ofInt 8 128).toNat);zR [.ref 0 0 2 true 1] [some ⟨.ints .u8 [y20,x22],false⟩]) (fun y23=>let x24:=u8.wrap y23;let x25:=u8.wrap ((BitVec.ofInt 8 x24&&& ~~~ BitVec.ofInt 8 128).toNat);zR [.ref 0 0 1 true 1] [some ⟨.ints .u8 [x25],false⟩])) n
def xboh(m:Nat)(n:Int)(l:LI):OO:=shut (qtl (fun y1 y2 y3=>let x4:=u8.wrap y2;let x5:=u8.wrap ((BitVec.ofInt 8 x4&&& ~~~ BitVec.ofInt 8 128).toNat);let l6:=y3++[x5];rmK l6.length 1<| zR [.ref 1 0 l6.length true 1] [none,some ⟨.ints .u8 l6,false⟩]) (fun y7 y8 y9=>let x10:=u8.wrap y8;let x11:=u8.wrap ((BitVec.ofInt 8 x10&&& ~~~ BitVec.ofInt 8 128).toNat);let l12:=y9++[x11];rmK l12.length 1<| zR [.ref 1 0 l12.length true 1] [none,some ⟨.ints .u8 l12,false⟩])) m n l
def qk2(again:Int->Nat->LI->OO)(k0:Nat->LI->OO)(v1:Int)(v2:Nat)(v3:LI):OO:=cD ((0:Int)<v1) (let x4:=Int.tmod v1 128;let x5:=u32.wrap ((128:Int)+x4);let x6:=u8.wrap x5;let l7:=[x6]++v3;rmK l7.length 1<| let x8:=u32.wrap (Int.tdiv v1 128);again x8 l7.length l7) (k0 v2 v3)
def qjn(k0:Nat->LI->OO):Nat->Int->Nat->LI->OO:=qe8 (fun a=>qk2 a k0) (fun _ _ _=>none)
def qo1:St->KT->OO:=fun σ k=>match σ with|⟨[(q1,.cl (.int .u32 v1)),(q2,.ref q3 q4 v2 true q5)],[(q6,⟨.ints .u8 v3,false⟩)]⟩=>cond (eqL [q1,q2,q3,q4,q5,q6] [0,3,71,0,1,71]) (shut (qjn (fun y1 y2=>k (.exit 0) ⟨[(3,.ref 71 0 y1 true 1)],[(71,⟨.ints .u8 y2,false⟩)]⟩) FUEL) v1 v2 v3) none|_=>none
def ER2Groups:Env:= {mkE BR2Groups qa9 22 with live:=lk [] [(3,[0,3])],ren:=lk [] [(3,[(84,71)])],lp:=lk none [(3,some qo1)],xl:=lk none [(0,some [2]),(1,some [3])]}
def qxs:LpT Tryz.prog (ER2Groups) Tryz.f183 0 3 qo1:=by
 intro σ k r h;unfold qo1 at h;split at h
 ·obtain⟨hc,j⟩:=qaa h;cases qbi hc;rw[qab] at j;apply it3 j
  ·intro n;kernel_rfl
  ·rfl
 ·cases h
def q7q(n:Int):OO:=let x1:=Int.tmod n 128;let x2:=u8.wrap x1;let x3:=u32.wrap (Int.tdiv n 128);shut (qjn (fun y4 y5=>zR [.ref 0 0 y4 true 1] [some ⟨.ints .u8 y5,false⟩]) FUEL) x3 1 [x2]
def qpo(again:Nat->LI->Int->Int->LI->OO)(k0:Nat->LI->OO)(v1:Nat)(v2:LI)(v3 v4:Int)(v5:LI):OO:=cD (v4<v3) (getK v2 v4 fun e9=>cond (u32Ok e9&&qdu v5) (let r10:=(v5++qbv e9).length;let r11:=v5++qbv e9;let x12:=i64.wrap (v4+1);again r10 v2 v3 x12 r11) none) (k0 v1 v5)
def qn1(k0:Nat->LI->OO):Nat->Nat->LI->Int->Int->LI->OO:=qe8 (fun a=>qpo a k0) (fun _ _ _ _ _=>none)
def qxo:St->KT->OO:=fun σ k=>match σ with|⟨[(q1,.ref q2 q3 v1 true q4),(q5,.cl (.sli .u32 v2)),(q6,.cl (.int .i64 v3)),(q7,.cl (.int .i64 v4))],[(q8,⟨.ints .u8 v5,false⟩)]⟩=>cond (eqL [q1,q2,q3,q4,q5,q6,q7,q8] [3,81,0,1,19,20,21,81]) (shut (qn1 (fun y1 y2=>k (.exit 0) ⟨[(3,.ref 81 0 y1 true 1)],[(81,⟨.ints .u8 y2,false⟩)]⟩) FUEL) v1 v2 v3 v4 v5) none|_=>none
def EOBytes:Env:= {mkE BOBytes qa9 30 with byref:=lk [] [(184,[0])],keep:=lk false [(184,true)],live:=lk [] [(5,[3,19,20,21])],ren:=lk [] [(5,[(91,81)])],lp:=lk none [(5,some qxo)],xl:=lk none [(0,some [2]),(1,some [3])]}
def q4n:LpT Tryz.prog (EOBytes) Tryz.f156 0 5 qxo:=by
 intro σ k r h;unfold qxo at h;split at h
 ·obtain⟨hc,j⟩:=qaa h;cases qbi hc;rw[qab] at j;apply it5 j
  ·intro n;kernel_rfl
  ·rfl
 ·cases h
def xbof(o:LI):OO:=let r1:=qk8 o;cond (!r1) (zR [.cl (.sli .u8 [])] []) (cD ((0:Int)<(o.length:Int)) ((o[0]?).bind fun(e2:Int)=>let x3:=u32.wrap ((40:Int)*e2);cD ((1:Int)<(o.length:Int)) ((o[1]?).bind fun(e4:Int)=>let x5:=u32.wrap (x3+e4);cond (u32Ok x5) (let r6:=(qbv x5).length;let r7:=qbv x5;cD ((2:Int)<=(o.length:Int)) (let l8:=List.drop 2 o;shut (qn1 (fun y9 y10=>zR [zvl y10] []) FUEL) r6 l8 (l8.length:Int) 0 r7) none) none) none) none)
def qm4(again:LI->Nat->Int->LI->OO)(k0:Nat->LI->OO)(v1:LI)(v2:Nat)(v3:Int)(v4:LI):OO:=cD (v3<(v1.length:Int)) (getK v1 v3 fun e8=>cond (u32Ok e8) (let r10:=qbv e8;let l11:=v4++r10;rmK l11.length 1<| let x12:=i64.wrap (v3+1);again v1 l11.length x12 l11) none) (k0 v2 v4)
def ql1(k0:Nat->LI->OO):Nat->LI->Nat->Int->LI->OO:=qe8 (fun a=>qm4 a k0) (fun _ _ _ _=>none)
def qsa:St->KT->OO:=fun σ k=>match σ with|⟨[(q1,.cl (.sli .u32 v1)),(q2,.ref q3 q4 v2 true q5),(q6,.cl (.int .i64 v3))],[(q7,⟨.ints .u8 v4,false⟩)]⟩=>cond (eqL [q1,q2,q3,q4,q5,q6,q7] [0,3,80,0,1,4,80]) (shut (ql1 (fun y1 y2=>k (.exit 0) ⟨[(3,.ref 80 0 y1 true 1)],[(80,⟨.ints .u8 y2,false⟩)]⟩) FUEL) v1 v2 v3 v4) none|_=>none
def ER2Bytes:Env:= {mkE BR2Bytes qa9 31 with keep:=lk false [(183,true)],live:=lk [] [(5,[0,3,4])],ren:=lk [] [(5,[(93,80)])],lp:=lk none [(5,some qsa)],xl:=lk none [(0,some [2]),(1,some [3])]}
def q0u:LpT Tryz.prog (ER2Bytes) Tryz.f154 0 5 qsa:=by
 intro σ k r h;unfold qsa at h;split at h
 ·obtain⟨hc,j⟩:=qaa h;cases qbi hc;rw[qab] at j;apply it4 j
  ·intro n;kernel_rfl
  ·rfl
 ·cases h
def xbfd(o:LI):OO:=let r1:=qk8 o;cond (!r1) (zR [.cl (.sli .u8 [])] []) (cD ((0:Int)<(o.length:Int)) ((o[0]?).bind fun(e2:Int)=>let x3:=u32.wrap ((40:Int)*e2);cD ((1:Int)<(o.length:Int)) ((o[1]?).bind fun(e4:Int)=>let x5:=u32.wrap (x3+e4);cond (u32Ok x5) (let r6:=(qbv x5).length;let r7:=qbv x5;shut (ql1 (fun y8 y9=>zR [zvl y9] []) FUEL) o r6 2 r7) none) none) none)
def qtv(again:Int->LI->Int->Int->OO)(k0:Int->OO)(v1:Int)(v2:LI)(v3 v4:Int):OO:=cD (v4<v3) (getK v2 v4 fun e1=>let x2:=u64.wrap (v1*2 ^ 8);let x3:=u64.wrap e1;let x4:=u64.wrap ((BitVec.ofInt 64 x2||| BitVec.ofInt 64 x3).toNat);let x5:=i64.wrap (v4+1);again x4 v2 v3 x5) (k0 v1)
def qrl(k0:Int->OO):Nat->Int->LI->Int->Int->OO:=qe8 (fun a=>qtv a k0) (fun _ _ _ _=>none)
def q44:St->KT->OO:=fun σ k=>match σ with|⟨[(q1,.cl (.int .u64 v1)),(q2,.cl (.sli .u8 v2)),(q3,.cl (.int .i64 v3)),(q4,.cl (.int .i64 v4))],[]⟩=>cond (eqL [q1,q2,q3,q4] [3,6,7,8]) (shut (qrl (fun y1=>k (.exit 0) ⟨[(3,.cl (.int .u64 y1))],[]⟩) FUEL) v1 v2 v3 v4) none|_=>none
def EVBNum:Env:= {mkE BVBNum qa9 19 with live:=lk [] [(3,[3,6,7,8])],lp:=lk none [(3,some q44)],xl:=lk none [(0,some [2]),(1,some [3])]}
def xbaa:LpT Tryz.prog (EVBNum) Tryz.f92 0 3 q44:=by
 intro σ k r h;unfold q44 at h;split at h
 ·obtain⟨hc,j⟩:=qaa h;cases qbi hc;rw[qab] at j;apply it4 j
  ·intro n;kernel_rfl
  ·rfl
 ·cases h
def xby8(b:LI):OO:=shut (qrl (fun y1=>zR [.cl (.int .u64 y1)] []) FUEL) 0 b (b.length:Int) 0
def EVLe:Env:= {mkE BVLe qa9 30 with live:=lk [] [(5,[0,5,16,17])],xl:=lk none [(0,some [4]),(1,some [5])]}
def gVLe(n:Int):OO:=let x1:=Int.fdiv n (2 ^ 0);let x2:=u8.wrap x1;let x3:=Int.fdiv n (2 ^ 8);let x4:=u8.wrap x3;let x5:=Int.fdiv n (2 ^ 16);let x6:=u8.wrap x5;let x7:=Int.fdiv n (2 ^ 24);let x8:=u8.wrap x7;let x9:=Int.fdiv n (2 ^ 32);let x10:=u8.wrap x9;let x11:=Int.fdiv n (2 ^ 40);let x12:=u8.wrap x11;let x13:=Int.fdiv n (2 ^ 48);let x14:=u8.wrap x13;let x15:=Int.fdiv n (2 ^ 56);let x16:=u8.wrap x15;zR [.ref 0 0 8 true 1] [some ⟨.ints .u8 [x2,x4,x6,x8,x10,x12,x14,x16],false⟩]
def EVReverse:Env:= {mkE BVReverse qa9 28 with live:=lk [] [(1,[0,2,3])],xl:=lk none [(0,some []),(1,some [])]}
def xbk5(l:LI):OO:=(l[7]?).bind fun(e1:Int)=>(l[0]?).bind fun(e2:Int)=>let l3:=l.set 0 e1;let l4:=l3.set 7 e2;(l4[6]?).bind fun(e5:Int)=>(l4[1]?).bind fun(e6:Int)=>let l7:=l4.set 1 e5;let l8:=l7.set 6 e6;(l8[5]?).bind fun(e9:Int)=>(l8[2]?).bind fun(e10:Int)=>let l11:=l8.set 2 e9;let l12:=l11.set 5 e10;(l12[4]?).bind fun(e13:Int)=>(l12[3]?).bind fun(e14:Int)=>let l15:=l12.set 3 e13;let l16:=l15.set 4 e14;zR [] [some ⟨.ints .u8 l16,false⟩]
def EVBe:Env:= {mkE BVBe qa9 12 with byref:=lk [] [(158,[0])],keep:=lk false [(157,true)],xl:=lk none [(0,some [4])]}
def gVBe(n:Int):OO:=cond (u64Ok n) (let r1:=vLe n;cond (xb2i r1) (let r2:=vRev r1;zR [zvl r2] []) none) none
def EVR1Be:Env:= {mkE BVR1Be qa9 30 with live:=lk [] [(5,[0,5,6])],xl:=lk none [(0,some [4]),(1,some [5])]}
def xbzd(n:Int):OO:=let x1:=u64.wrap ((BitVec.ofInt 64 n&&&BitVec.ofInt 64 255).toNat);let x2:=u8.wrap x1;let x3:=Int.fdiv n (2 ^ 8);let x4:=u64.wrap ((BitVec.ofInt 64 x3&&&BitVec.ofInt 64 255).toNat);let x5:=u8.wrap x4;let x6:=Int.fdiv x3 (2 ^ 8);let x7:=u64.wrap ((BitVec.ofInt 64 x6&&&BitVec.ofInt 64 255).toNat);let x8:=u8.wrap x7;let x9:=Int.fdiv x6 (2 ^ 8);let x10:=u64.wrap ((BitVec.ofInt 64 x9&&&BitVec.ofInt 64 255).toNat);let x11:=u8.wrap x10;let x12:=Int.fdiv x9 (2 ^ 8);let x13:=u64.wrap ((BitVec.ofInt 64 x12&&&BitVec.ofInt 64 255).toNat);let x14:=u8.wrap x13;let x15:=Int.fdiv x12 (2 ^ 8);let x16:=u64.wrap ((BitVec.ofInt 64 x15&&&BitVec.ofInt 64 255).toNat);let x17:=u8.wrap x16;let x18:=Int.fdiv x15 (2 ^ 8);let x19:=u64.wrap ((BitVec.ofInt 64 x18&&&BitVec.ofInt 64 255).toNat);let x20:=u8.wrap x19;let x21:=Int.fdiv x18 (2 ^ 8);let x22:=u64.wrap ((BitVec.ofInt 64 x21&&&BitVec.ofInt 64 255).toNat);let x23:=u8.wrap x22;zR [.cl (.sli .u8 [x23,x20,x17,x14,x11,x8,x5,x2])] []
def qzc(again:LI->OO)(k0:LI->OO)(v1:LI):OO:=cD ((1:Int)<(v1.length:Int)) (cD ((0:Int)<(v1.length:Int)) ((v1[0]?).bind fun(e3:Int)=>cD (e3=0) (cD ((1:Int)<(v1.length:Int)) ((v1[1]?).bind fun(e4:Int)=>cD (e4<128) (cD ((1:Int)<=(v1.length:Int)) (let l5:=List.drop 1 v1;again l5) none) (cD ((0:Int)<(v1.length:Int)) ((v1[0]?).bind fun(e6:Int)=>cD (e6=255) (cD ((1:Int)<(v1.length:Int)) ((v1[1]?).bind fun(e7:Int)=>cD ((128:Int)<=e7) (cD ((1:Int)<=(v1.length:Int)) (let l8:=List.drop 1 v1;again l8) none) (k0 v1)) none) (k0 v1)) none)) none) (cD ((0:Int)<(v1.length:Int)) ((v1[0]?).bind fun(e9:Int)=>cD (e9=255) (cD ((1:Int)<(v1.length:Int)) ((v1[1]?).bind fun(e10:Int)=>cD ((128:Int)<=e10) (cD ((1:Int)<=(v1.length:Int)) (let l11:=List.drop 1 v1;again l11) none) (k0 v1)) none) (k0 v1)) none)) none) (k0 v1)
def qtw(k0:LI->OO):Nat->LI->OO:=qe8 (fun a=>qzc a k0) (fun _=>none)
def xbdk:St->KT->OO:=fun σ k=>match σ with|⟨[(q1,.ptr q2 q3 q4),(q5,.cl (.sli .u8 v1))],[(q6,⟨.var [.cl (.int .i64 q7),.nils,.nils],false⟩)]⟩=>cond (eqL [q1,q2,q3,q4,q5,q6] [2,66,0,0,3,66]&&decide (q7=0)) (shut (qtw (fun y1=>k (.exit 0) ⟨[(2,.ptr 66 0 0),(3,zvl y1)],[(66,⟨.var [zvi 0,.nils,.nils],false⟩)]⟩) FUEL) v1) none|_=>none
def EVInt:Env:= {mkE BVInt qa9 38 with live:=lk [] [(2,[2,3])],lp:=lk none [(2,some xbdk)],xl:=lk none [(0,some [2]),(1,some [2,3])]}
def xbdl:LpT Tryz.prog (EVInt) Tryz.f71 0 2 xbdk:=by
 intro σ k r h;unfold xbdk at h;split at h
 ·obtain⟨hc,j⟩:=qaa h;simp only[zab,qen,yd,zal] at hc;obtain⟨hc,rfl⟩:=hc;cases qbi hc;rw[qab] at j;apply it1 j
  ·intro n;kernel_rfl
  ·rfl
 ·cases h
def xb9b(n:Int):OO:=let x1:=u64.wrap n;cond (u64Ok x1) (let r2:=vBe x1;shut (qtw (fun y3=>zR [.cl (.agg [.int .i64 2,.sli .u8 y3,.slg 3 []])] []) FUEL) r2) none
def qtx(again:LI->OO)(k0:LI->OO)(v1:LI):OO:=cD ((1:Int)<(v1.length:Int)) (cond (qad v1) (let r3:=qdn 2 v1;cond (!r3) (cD ((1:Int)<=(v1.length:Int)) (let l4:=List.drop 1 v1;again l4) none) (k0 v1)) none) (k0 v1)
def qrm(k0:LI->OO):Nat->LI->OO:=qe8 (fun a=>qtx a k0) (fun _=>none)
def q45:St->KT->OO:=fun σ k=>match σ with|⟨[(q1,.ptr q2 q3 q4),(q5,.cl (.sli .u8 v1))],[(q6,⟨.var [.cl (.int .i64 q7),.nils,.nils],false⟩)]⟩=>cond (eqL [q1,q2,q3,q4,q5,q6] [2,66,0,0,3,66]&&decide (q7=0)) (shut (qrm (fun y1=>k (.exit 0) ⟨[(2,.ptr 66 0 0),(3,zvl y1)],[(66,⟨.var [zvi 0,.nils,.nils],false⟩)]⟩) FUEL) v1) none|_=>none
def EVRInt:Env:= {mkE BVRInt qa9 19 with live:=lk [] [(2,[2,3])],lp:=lk none [(2,some q45)],xl:=lk none [(0,some [2]),(1,some [2,3])]}
def xbab:LpT Tryz.prog (EVRInt) Tryz.f65 0 2 q45:=by
 intro σ k r h;unfold q45 at h;split at h
 ·obtain⟨hc,j⟩:=qaa h;simp only[zab,qen,yd,zal] at hc;obtain⟨hc,rfl⟩:=hc;cases qbi hc;rw[qab] at j;apply it1 j
  ·intro n;kernel_rfl
  ·rfl
 ·cases h
def xbzf(n:Int):OO:=let x1:=u64.wrap n;cond (u64Ok x1) (let r2:=vBe x1;shut (qrm (fun y3=>zR [.cl (.agg [.int .i64 2,.sli .u8 y3,.slg 3 []])] []) FUEL) r2) none
def EVNumber:Env:= {mkE BVNumber qa9 19 with xl:=lk none [(0,some [2,3])]}
def xbfu(b:LI):OO:=cD ((8:Int)<(b.length:Int)) (zR [zvi 0,zvi 8] []) (let x1:=i64.wrap ((8:Int)*(b.length:Int));let x2:=i64.wrap ((64:Int) - x1);cond (num8 b) (let r3:=qhy b;cD (x2<0) none (let x4:=u64.wrap (r3*2 ^ (min x2.toNat 64));let x5:=i64.wrap x4;cD (x2<0) none (let x6:=Int.fdiv x5 (2 ^ (min x2.toNat 64));zR [zvi x6,zvi 0] []))) none)
def xbxl:Env:= {mkE xbco qa9 35 with xl:=lk none [(0,some [6,7])]}
def q7x(t:Int)(b:LI)(k:LC):OO:=cond (!decide (t=2)) (zR [zvi 0,zvi 4] []) (cD ((0:Int)<(k.length:Int)) (zR [zvi 0,zvi 5] []) (cond (isS ([.int .i64 2,.sli .u8 b,.slg 3 []])) (let r1:=qrr ([.int .i64 2,.sli .u8 b,.slg 3 []]);cond (!r1) (zR [zvi 0,zvi 5] []) (cond (qad b) (let r2:=(qqx b).1;let r3:=(qqx b).2;zR [zvi r2,zvi r3] []) none)) none))
def xbxm:Env:= {mkE xbcp qa9 35 with xl:=lk none [(0,some [6,7])]}
def xbox(t:Int)(b:LI)(k:LC):OO:=cond (!decide (t=6)) (zR [.cl (.sli .u32 []),zvi 4] []) (cD ((0:Int)<(k.length:Int)) (zR [.cl (.sli .u32 []),zvi 5] []) (cond (isS ([.int .i64 6,.sli .u8 b,.slg 3 []])) (let r1:=qrr ([.int .i64 6,.sli .u8 b,.slg 3 []]);cond (!r1) (zR [.cl (.sli .u32 []),zvi 5] []) (cond (qad b) (let r2:=(qcl b).1;let r3:=(qcl b).2;zR [.cl (.sli .u32 r2),zvi r3] []) none)) none))
def xbxk:Env:= {mkE xbcn qa9 8 with xl:=lk none [(0,some [2,3])]}
def xbza(t:Int)(b:LI)(k:LC):OO:=cond (isS [.int .i64 t,.sli .u8 b,.slg 3 k]) (let r1:=(qb6 t b k).1;let r2:=(qb6 t b k).2;zR [zvi r1,zvi r2] []) none
def xbj5:Env:= {mkE qw9 qa9 16 with xl:=lk none [(0,some [2,3])]}
def q7w(t:Int)(b:LI)(k:LC):OO:=cond (!decide (t=4)) (zR [.cl (.sli .u8 []),zvi 4] []) (cD ((0:Int)<(k.length:Int)) (zR [.cl (.sli .u8 []),zvi 5] []) (cond (qdu b) (zR [zvl b,zvi 0] []) none))
def xb5k:Env:= {mkE xbq4 qa9 8 with xl:=lk none [(0,some [2,3])]}
def xb58(t:Int)(b:LI)(k:LC):OO:=cond (isS [.int .i64 t,.sli .u8 b,.slg 3 k]) (let r1:=(qgp t b k).1;let r2:=(qgp t b k).2;zR [.cl (.sli .u32 r1),zvi r2] []) none
def EVMade:Env:= {mkE BVMade qa9 15 with xl:=lk none [(0,some [4,5])]}
def xbzc(g:Int)(b:LI):OO:=cond (isS ([.int .i64 g,.sli .u8 b,.slg 3 []])) (let r1:=qrr ([.int .i64 g,.sli .u8 b,.slg 3 []]);cond (!r1) (zR [.cl (.agg [.int .i64 0,.sli .u8 [],.slg 3 []]),zvi 5] []) (zR [.cl (.agg [.int .i64 g,.sli .u8 b,.slg 3 []]),zvi 0] [])) none
def EVId:Env:= {mkE BVId qa9 9 with xl:=lk none [(0,some [2,3])]}
def gVId(o:LI):OO:=cond (qvm o) (let r1:=qay o;cond (qty 6 r1) (let r2:=(qgq 6 r1).1;let r3:=(qgq 6 r1).2.1;let r4:=qcg;let r5:=(qgq 6 r1).2.2;zR [.cl (.agg [.int .i64 r2,.sli .u8 r3,.slg 3 r4]),zvi r5] []) none) none
def EVBytes:Env:= {mkE BVBytes qa9 6 with xl:=lk none [(0,some [2])]}
def xby9(b:LI):OO:=cond (qdu b) (zR [.cl (.agg [.int .i64 4,.sli .u8 b,.slg 3 []])] []) none
def EVRMade:Env:= {mkE BVRMade qa9 14 with xl:=lk none [(0,some [4,5])]}
def xbow(g:Int)(b:LI):OO:=cond (qad b) (let r1:=qdn g b;cond (!r1) (zR [.cl (.agg [.int .i64 0,.sli .u8 [],.slg 3 []]),zvi 5] []) (zR [.cl (.agg [.int .i64 g,.sli .u8 b,.slg 3 []]),zvi 0] [])) none
def EVRId:Env:= {mkE BVRId qa9 9 with xl:=lk none [(0,some [2,3])]}
def xb95(o:LI):OO:=cond (qvm o) (let r1:=qay o;cond (qty 6 r1) (let r2:=(qgq 6 r1).1;let r3:=(qgq 6 r1).2.1;let r4:=qcg;let r5:=(qgq 6 r1).2.2;zR [.cl (.agg [.int .i64 r2,.sli .u8 r3,.slg 3 r4]),zvi r5] []) none) none
def EVRBytes:Env:= {mkE BVRBytes qa9 5 with xl:=lk none [(0,some [2])]}
def xbs6(b:LI):OO:=zR [.cl (.agg [.int .i64 4,.sli .u8 b,.slg 3 []])] []
def EVClone:Env:= {mkE BVClone qa9 8 with xl:=lk none [(0,some [2])]}
def xbov(l:LC):OO:=cond (Nat.beq l.length 0) (xbr4 (zR [.cl (.slg 3 [])] []) (let l1:=[]++l;rmK l1.length 56<| zR [zvg l1] [])) (let l2:=[]++l;rmK l2.length 56<| zR [zvg l2] [])
def EVSeq:Env:= {mkE BVSeq qa9 6 with xl:=lk none [(0,some [2])]}
def xb96(l:LC):OO:=cond (qbw l) (zR [.cl (.agg [.int .i64 48,.sli .u8 [],.slg 3 l])] []) none
def EVBox:Env:= {mkE BVBox qa9 18 with xl:=lk none [(0,some [4,5])]}
def xb9a(g:Int)(l:LC):OO:=cD (g<0) (zR [.cl (.agg [.int .i64 0,.sli .u8 [],.slg 3 []]),zvi 8] []) (cD ((30:Int)<g) (zR [.cl (.agg [.int .i64 0,.sli .u8 [],.slg 3 []]),zvi 8] []) (let x1:=i64.wrap ((160:Int)+g);cond (qbw l) (zR [.cl (.agg [.int .i64 x1,.sli .u8 [],.slg 3 l]),zvi 0] []) none))
def EVKids:Env:= {mkE BVKids qa9 24 with xl:=lk none [(0,some [4,5])]}
def xbzb(t:Int)(b:LI)(k:LC)(g:Int):OO:=cond (!decide (t=g)) (zR [.cl (.slg 3 []),zvi 4] []) (let r1:=qbn g;cond (!r1) (zR [.cl (.slg 3 []),zvi 4] []) (cD ((0:Int)<(b.length:Int)) (zR [.cl (.slg 3 []),zvi 5] []) (cond (qbw k) (zR [zvg k,zvi 0] []) none)))
def EVRSeq:Env:= {mkE BVRSeq qa9 5 with xl:=lk none [(0,some [2])]}
def xb59(l:LC):OO:=zR [.cl (.agg [.int .i64 48,.sli .u8 [],.slg 3 l])] []
def EVRBox:Env:= {mkE BVRBox qa9 17 with xl:=lk none [(0,some [4,5])]}
def xbze(g:Int)(l:LC):OO:=cD (g<0) (zR [.cl (.agg [.int .i64 0,.sli .u8 [],.slg 3 []]),zvi 8] []) (cD ((30:Int)<g) (zR [.cl (.agg [.int .i64 0,.sli .u8 [],.slg 3 []]),zvi 8] []) (let x1:=i64.wrap ((160:Int)+g);zR [.cl (.agg [.int .i64 x1,.sli .u8 [],.slg 3 l]),zvi 0] []))
def EARoot:Env:= {mkE BARoot qa9 20 with xl:=lk none [(0,some [2])]}
def xbsq:OO:=zR [.ref 0 0 8 true 1] [some ⟨.ints .u32 [2,16,840,1,101,3,4,2],false⟩]
def xbsr:OO:=zR [.ref 0 0 8 true 1] [some ⟨.ints .u32 [2,16,840,1,101,3,4,3],false⟩]
def xbss:OO:=zR [.ref 0 0 8 true 1] [some ⟨.ints .u32 [2,16,840,1,101,3,4,4],false⟩]
def xbst:OO:=zR [.ref 0 0 8 true 1] [some ⟨.ints .u32 [2,16,840,1,101,3,4,1],false⟩]
def xbsu:OO:=zR [.ref 0 0 8 true 1] [some ⟨.ints .u32 [1,2,840,113549,1,9,16,3],false⟩]
def xbsv:OO:=zR [.ref 0 0 2 true 1] [some ⟨.ints .u32 [2,999],false⟩]
def EAAll:Env:= {mkE BAAll qa9 1 with xl:=lk none [(0,some [0])]}
def xb9y:OO:=zR [.cl (.fn (.func 175) [] [])] []
def qwl(again:Int->OO)(k0:Int->Int->Int->LI->OO)(k1:Int->OO)(e1:Int)(e2:Int)(e3:LI)(v1:Int):OO:=cD (e1=v1) (k0 v1 e1 e2 e3) (again v1)
def qi0(k0:Int->Int->Int->LI->OO)(k1:Int->OO):List LC->Int->OO|[]=>fun v1=>k1 v1|x::r=>qwl (qi0 k0 k1 r) k0 k1 (qf9 ((cell1 (x.getD 0 .nili)).getD 0 .nili)) (qf9 ((cell1 (x.getD 0 .nili)).getD 1 .nili)) (qb8 ((cell1 (x.getD 0 .nili)).getD 2 .nili))
def qya:St->List LC->KT->OO:=fun σ xs k=>match σ with|⟨[(q1,.ptr q2 q3 q4),(q5,.ptr q6 q7 q8)],[(q9,⟨.var [.cl (.int .i64 v1)],false⟩),(q10,⟨.var [.cl (.int .i64 q11),.cl (.int .i64 q12),.nils],false⟩)]⟩=>cond (List.all xs qog) (cond (eqL [q1,q2,q3,q4,q5,q6,q7,q8,q9,q10] [1,0,0,0,2,1,0,0,0,1]&&(decide (q11=0)&&decide (q12=0))) (shut (qi0 (fun y1 y2 y3 y4=>k .ret ⟨[(1,.ptr 0 0 0),(2,.ptr 1 0 0)],[(0,⟨.var [zvi y1],false⟩),(1,⟨.var [zvi y2,zvi y3,.cl (.sli .u32 y4)],false⟩)]⟩) (fun y1=>k .normal ⟨[(1,.ptr 0 0 0),(2,.ptr 1 0 0)],[(0,⟨.var [zvi y1],false⟩),(1,⟨.var [zvi 0,zvi 0,.nils],false⟩)]⟩)) xs v1) none) none|_=>none
def EAFound:Env:= {
 orc:=fun g=>cond (Nat.beq g 138) ((kT KAAll)) (fun _ _=>Tree.fail)
 pre:=fun g=>cond (Nat.beq g 138) ((kP KAAll)) (cond (Nat.beq g 175) q54 (fun _ _=>true))
 live:=fun r=>cond (Nat.beq r 2) ([1,2]) ([])
 glob:=qa9
 nt:=12
 xl:=fun r=>cond (Nat.beq r 0) (some [2]) (none)
 lowr:=fun r=>cond (Nat.beq r 2) ([(65,0),(66,1)]) ([])
 sq:=fun g=>cond (Nat.beq g 175) xbac (fun _ _=>none)
 rf:=fun r=>cond (Nat.beq r 2) (some (qya)) (none)
}
def qlh:Code:=Cd.fst (Cd.fst (Cd.snd (Cd.fst (Cd.snd (Tryz.f116.body.getD .skip)))))
def qlj:Code:=Cd.snd (Cd.fst (Cd.snd (Cd.fst (Cd.snd (Tryz.f116.body.getD .skip)))))
def qvg(k:KT)(r:List LC)(e1:Int)(e2:Int)(e3:LI)(v1:Int):qhi (EAFound) 12 2 [5] (qby Tryz.prog (EAFound) 40 qlh) (qby Tryz.prog (EAFound) 40 qlj) ([.agg [.int .i64 e1,.int .i64 e2,.sli .u32 e3]]::r) ⟨[(1,.ptr 0 0 0),(2,.ptr 1 0 0)],[(0,⟨.var [.cl (.int .i64 v1)],false⟩),(1,⟨.var [.cl (.int .i64 0),.cl (.int .i64 0),.nils],false⟩)]⟩ k=qwl (fun v1=>qhi (EAFound) 12 2 [5] (qby Tryz.prog (EAFound) 40 qlh) (qby Tryz.prog (EAFound) 40 qlj) r ⟨[(1,.ptr 0 0 0),(2,.ptr 1 0 0)],[(0,⟨.var [.cl (.int .i64 v1)],false⟩),(1,⟨.var [.cl (.int .i64 0),.cl (.int .i64 0),.nils],false⟩)]⟩ k) (fun y1 y2 y3 y4=>k .ret ⟨[(1,.ptr 0 0 0),(2,.ptr 1 0 0)],[(0,⟨.var [.cl (.int .i64 y1)],false⟩),(1,⟨.var [.cl (.int .i64 y2),.cl (.int .i64 y3),.cl (.sli .u32 y4)],false⟩)]⟩) (fun y1=>k .normal ⟨[(1,.ptr 0 0 0),(2,.ptr 1 0 0)],[(0,⟨.var [.cl (.int .i64 y1)],false⟩),(1,⟨.var [.cl (.int .i64 0),.cl (.int .i64 0),.nils],false⟩)]⟩) e1 e2 e3 v1:=by kernel_rfl
def qqq(k:KT): ∀(xs:List LC),List.all xs qog=true->∀(v1:Int),qhi (EAFound) 12 2 [5] (qby Tryz.prog (EAFound) 40 qlh) (qby Tryz.prog (EAFound) 40 qlj) xs ⟨[(1,.ptr 0 0 0),(2,.ptr 1 0 0)],[(0,⟨.var [.cl (.int .i64 v1)],false⟩),(1,⟨.var [.cl (.int .i64 0),.cl (.int .i64 0),.nils],false⟩)]⟩ k=qi0 (fun y1 y2 y3 y4=>k .ret ⟨[(1,.ptr 0 0 0),(2,.ptr 1 0 0)],[(0,⟨.var [.cl (.int .i64 y1)],false⟩),(1,⟨.var [.cl (.int .i64 y2),.cl (.int .i64 y3),.cl (.sli .u32 y4)],false⟩)]⟩) (fun y1=>k .normal ⟨[(1,.ptr 0 0 0),(2,.ptr 1 0 0)],[(0,⟨.var [.cl (.int .i64 y1)],false⟩),(1,⟨.var [.cl (.int .i64 0),.cl (.int .i64 0),.nils],false⟩)]⟩) xs v1
 | [],_=>by intros;rfl
 | x::r,h=>by intros;simp only[zbz,zab] at h;obtain⟨e1,e2,e3,rfl⟩:=q2o h.1;rw[qvg];have ih:=qqq k r h.2;simp only[ih];rfl
def q49: ∀(σ:St) (xs:List LC) (k:KT) (r:Out),qya σ xs k=some r->qhi (EAFound) 12 2 [5] (qby Tryz.prog (EAFound) 40 qlh) (qby Tryz.prog (EAFound) 40 qlj) xs σ k=some r:=by
 intro σ xs k r h;unfold qya at h;split at h
 ·obtain⟨hx,j⟩:=qaa h;obtain⟨hc,j⟩:=qaa j;simp only[zab,qen,yd,zal] at hc;obtain⟨hc,rfl,rfl⟩:=hc;cases qbi hc;rw[qab] at j;exact(qqq k xs hx _).trans j
 ·cases h
def xba4: ∀c,Tryz.f116.body=some c->qbf Tryz.prog (EAFound) 40 c:=by intro c hc;cases hc;exact⟨trivial,⟨⟨trivial,⟨trivial,qpv _ (by kernel_rfl),rfl,rfl,xbh6 rfl (q49)⟩,qg5 rfl⟩,⟨trivial,trivial,qg5 rfl⟩,qg5 rfl⟩,qg5 rfl⟩
def xbeq(g:Int):OO:=cond (List.all qqa qog) (shut (qi0 (fun y1 y2 y3 y4=>zR [.cl (.agg [.int .i64 y2,.int .i64 y3,.sli .u32 y4])] []) (fun y5=>zR [.cl (.agg [.int .i64 0,.int .i64 0,.sli .u32 []])] [])) qqa g) none
def xber(g:Int):qqy Tryz.prog (EAFound) 40 false Tryz.f116 [.cl (.int .i64 g)] []=xbeq g:=by kernel_rfl
def EAGroup:Env:= {mkE BAGroup qa9 6 with xl:=lk none [(0,some [2])]}
def xbx5(g:Int):OO:=let r2:=(qa1 g).2.1;zI r2
def EAId:Env:= {mkE BAId qa9 6 with xl:=lk none [(0,some [2])]}
def gAId(g:Int):OO:=let r3:=(qa1 g).2.2;zR [.cl (.sli .u32 r3)] []
def xbh7(again:LI->OO)(k0:LI->Int->OO)(k1:LI->OO)(e1:Int)(e2:Int)(e3:LI)(v1:LI):OO:=cond (qdu e3) (let r1:=qcr e3 v1;cond (r1) (k0 v1 e1) (again v1)) none
def qwm(k0:LI->Int->OO)(k1:LI->OO):List LC->LI->OO|[]=>fun v1=>k1 v1|x::r=>xbh7 (qwm k0 k1 r) k0 k1 (qf9 ((cell1 (x.getD 0 .nili)).getD 0 .nili)) (qf9 ((cell1 (x.getD 0 .nili)).getD 1 .nili)) (qb8 ((cell1 (x.getD 0 .nili)).getD 2 .nili))
def xbru:St->List LC->KT->OO:=fun σ xs k=>match σ with|⟨[(q1,.ptr q2 q3 q4),(q5,.ptr q6 q7 q8)],[(q9,⟨.var [.cl (.sli .u32 v1)],false⟩),(q10,⟨.var [.cl (.int .i64 q11)],false⟩)]⟩=>cond (List.all xs qog) (cond (eqL [q1,q2,q3,q4,q5,q6,q7,q8,q9,q10] [1,0,0,0,2,1,0,0,0,1]&&decide (q11=0)) (shut (qwm (fun y1 y2=>k .ret ⟨[(1,.ptr 0 0 0),(2,.ptr 1 0 0)],[(0,⟨.var [.cl (.sli .u32 y1)],false⟩),(1,⟨.var [zvi y2],false⟩)]⟩) (fun y1=>k .normal ⟨[(1,.ptr 0 0 0),(2,.ptr 1 0 0)],[(0,⟨.var [.cl (.sli .u32 y1)],false⟩),(1,⟨.var [zvi 0],false⟩)]⟩)) xs v1) none) none|_=>none
def EAOf:Env:= {
 orc:=fun g=>cond (Nat.beq g 138) ((kT KAAll)) (cond (Nat.beq g 139) ((kT KOSame)) (fun _ _=>Tree.fail))
 pre:=fun g=>cond (Nat.beq g 138) ((kP KAAll)) (cond (Nat.beq g 139) ((kP KOSame)) (cond (Nat.beq g 175) q54 (fun _ _=>true)))
 live:=fun r=>cond (Nat.beq r 2) ([1,2]) ([])
 glob:=qa9
 nt:=12
 xl:=fun r=>cond (Nat.beq r 0) (some [2]) (none)
 lowr:=fun r=>cond (Nat.beq r 2) ([(65,0),(66,1)]) ([])
 sq:=fun g=>cond (Nat.beq g 175) xbac (fun _ _=>none)
 rf:=fun r=>cond (Nat.beq r 2) (some (xbru)) (none)
}
def qyg:Code:=Cd.fst (Cd.fst (Cd.snd (Cd.fst (Cd.snd (Tryz.f94.body.getD .skip)))))
def qyi:Code:=Cd.snd (Cd.fst (Cd.snd (Cd.fst (Cd.snd (Tryz.f94.body.getD .skip)))))
def q57(k:KT)(r:List LC)(e1:Int)(e2:Int)(e3:LI)(v1:LI):qhi (EAOf) 12 2 [5] (qby Tryz.prog (EAOf) 40 qyg) (qby Tryz.prog (EAOf) 40 qyi) ([.agg [.int .i64 e1,.int .i64 e2,.sli .u32 e3]]::r) ⟨[(1,.ptr 0 0 0),(2,.ptr 1 0 0)],[(0,⟨.var [.cl (.sli .u32 v1)],false⟩),(1,⟨.var [.cl (.int .i64 0)],false⟩)]⟩ k=xbh7 (fun v1=>qhi (EAOf) 12 2 [5] (qby Tryz.prog (EAOf) 40 qyg) (qby Tryz.prog (EAOf) 40 qyi) r ⟨[(1,.ptr 0 0 0),(2,.ptr 1 0 0)],[(0,⟨.var [.cl (.sli .u32 v1)],false⟩),(1,⟨.var [.cl (.int .i64 0)],false⟩)]⟩ k) (fun y1 y2=>k .ret ⟨[(1,.ptr 0 0 0),(2,.ptr 1 0 0)],[(0,⟨.var [.cl (.sli .u32 y1)],false⟩),(1,⟨.var [.cl (.int .i64 y2)],false⟩)]⟩) (fun y1=>k .normal ⟨[(1,.ptr 0 0 0),(2,.ptr 1 0 0)],[(0,⟨.var [.cl (.sli .u32 y1)],false⟩),(1,⟨.var [.cl (.int .i64 0)],false⟩)]⟩) e1 e2 e3 v1:=by kernel_rfl
def q3d(k:KT): ∀(xs:List LC),List.all xs qog=true->∀(v1:LI),qhi (EAOf) 12 2 [5] (qby Tryz.prog (EAOf) 40 qyg) (qby Tryz.prog (EAOf) 40 qyi) xs ⟨[(1,.ptr 0 0 0),(2,.ptr 1 0 0)],[(0,⟨.var [.cl (.sli .u32 v1)],false⟩),(1,⟨.var [.cl (.int .i64 0)],false⟩)]⟩ k=qwm (fun y1 y2=>k .ret ⟨[(1,.ptr 0 0 0),(2,.ptr 1 0 0)],[(0,⟨.var [.cl (.sli .u32 y1)],false⟩),(1,⟨.var [.cl (.int .i64 y2)],false⟩)]⟩) (fun y1=>k .normal ⟨[(1,.ptr 0 0 0),(2,.ptr 1 0 0)],[(0,⟨.var [.cl (.sli .u32 y1)],false⟩),(1,⟨.var [.cl (.int .i64 0)],false⟩)]⟩) xs v1
 | [],_=>by intros;rfl
 | x::r,h=>by intros;simp only[zbz,zab] at h;obtain⟨e1,e2,e3,rfl⟩:=q2o h.1;rw[q57];have ih:=q3d k r h.2;simp only[ih];rfl
def xbj6: ∀(σ:St) (xs:List LC) (k:KT) (r:Out),xbru σ xs k=some r->qhi (EAOf) 12 2 [5] (qby Tryz.prog (EAOf) 40 qyg) (qby Tryz.prog (EAOf) 40 qyi) xs σ k=some r:=by
 intro σ xs k r h;unfold xbru at h;split at h
 ·obtain⟨hx,j⟩:=qaa h;obtain⟨hc,j⟩:=qaa j;simp only[zab,qen,yd,zal] at hc;obtain⟨hc,rfl⟩:=hc;cases qbi hc;rw[qab] at j;exact(q3d k xs hx _).trans j
 ·cases h
def xbtp: ∀c,Tryz.f94.body=some c->qbf Tryz.prog (EAOf) 40 c:=by intro c hc;cases hc;exact⟨trivial,⟨⟨trivial,⟨trivial,qpv _ (by kernel_rfl),rfl,rfl,xbh6 rfl (xbj6)⟩,qg5 rfl⟩,⟨trivial,trivial,qg5 rfl⟩,qg5 rfl⟩,qg5 rfl⟩
def gAOf(o:LI):OO:=cond (List.all qqa qog) (shut (qwm (fun y1 y2=>zI y2) (fun y3=>zI 0)) qqa o) none
def xbx7(o:LI):qqy Tryz.prog (EAOf) 40 false Tryz.f94 [.cl (.sli .u32 o)] []=gAOf o:=by kernel_rfl
def qg4(k0:OO)(k1:OO)(k2:OO)(v1:Int):OO:=cD ((81:Int)<=v1) (cD (v1<=83) (k0) (cD ((91:Int)<=v1) (cD (v1<=93) (k1) (k2)) (k2))) (cD ((91:Int)<=v1) (cD (v1<=93) (k1) (k2)) (k2))
def qih(k0:OO)(k1:OO)(k2:OO)(k3:OO)(k4:OO)(v1:Int):OO:=cD ((61:Int)<=v1) (cD (v1<=63) (k0) (cD ((71:Int)<=v1) (cD (v1<=73) (k1) (shut (qg4 (k2) (k3) (k4)) v1)) (shut (qg4 (k2) (k3) (k4)) v1))) (cD ((71:Int)<=v1) (cD (v1<=73) (k1) (shut (qg4 (k2) (k3) (k4)) v1)) (shut (qg4 (k2) (k3) (k4)) v1))
def qfm(k0:OO)(k1:OO)(k2:OO)(k3:OO)(k4:OO)(k5:OO)(v1:Int):OO:=cD ((51:Int)<=v1) (cD (v1<=53) (k0) (shut (qih (k1) (k2) (k3) (k4) (k5)) v1)) (shut (qih (k1) (k2) (k3) (k4) (k5)) v1)
def qig(k0:OO)(k1:OO)(k2:OO)(k3:OO)(k4:OO)(k5:OO)(k6:OO)(v1:Int):OO:=cD ((11:Int)<=v1) (cD (v1<=13) (k0) (cD ((21:Int)<=v1) (cD (v1<=34) (k0) (cD (v1=41) (k0) (shut (qfm (k1) (k2) (k3) (k4) (k5) (k6)) v1))) (cD (v1=41) (k0) (shut (qfm (k1) (k2) (k3) (k4) (k5) (k6)) v1)))) (cD ((21:Int)<=v1) (cD (v1<=34) (k0) (cD (v1=41) (k0) (shut (qfm (k1) (k2) (k3) (k4) (k5) (k6)) v1))) (cD (v1=41) (k0) (shut (qfm (k1) (k2) (k3) (k4) (k5) (k6)) v1)))
def qr4:St->KT->OO:=fun σ k=>match σ with|⟨[(q1,.cl (.int .i64 v1))],[]⟩=>cond (eqL [q1] [0]) (shut (qig (k .ret ⟨[(2,zvi 2)],[]⟩) (k .ret ⟨[(2,zvi 3)],[]⟩) (k .ret ⟨[(2,zvi 4)],[]⟩) (k .ret ⟨[(2,zvi 5)],[]⟩) (k .ret ⟨[(2,zvi 6)],[]⟩) (k .ret ⟨[(2,zvi 7)],[]⟩) (k .normal ⟨[],[]⟩)) v1) none|_=>none
def qr5:St->KT->OO:=fun σ k=>match σ with|⟨[(q1,.cl (.int .i64 v1))],[]⟩=>cond (eqL [q1] [0]) (shut (qfm (k .ret ⟨[(2,zvi 3)],[]⟩) (k .ret ⟨[(2,zvi 4)],[]⟩) (k .ret ⟨[(2,zvi 5)],[]⟩) (k .ret ⟨[(2,zvi 6)],[]⟩) (k .ret ⟨[(2,zvi 7)],[]⟩) (k .normal ⟨[],[]⟩)) v1) none|_=>none
def qr6:St->KT->OO:=fun σ k=>match σ with|⟨[(q1,.cl (.int .i64 v1))],[]⟩=>cond (eqL [q1] [0]) (shut (qih (k .ret ⟨[(2,zvi 4)],[]⟩) (k .ret ⟨[(2,zvi 5)],[]⟩) (k .ret ⟨[(2,zvi 6)],[]⟩) (k .ret ⟨[(2,zvi 7)],[]⟩) (k .normal ⟨[],[]⟩)) v1) none|_=>none
def qoz:St->KT->OO:=fun σ k=>match σ with|⟨[(q1,.cl (.int .i64 v1))],[]⟩=>cond (eqL [q1] [0]) (shut (qg4 (k .ret ⟨[(2,zvi 6)],[]⟩) (k .ret ⟨[(2,zvi 7)],[]⟩) (k .normal ⟨[],[]⟩)) v1) none|_=>none
def EARGroup:Env:= {mkE BARGroup qa9 64 with live:=lk [] [(3,[0]),(5,[0]),(7,[0]),(11,[0])],xl:=lk none [(0,some [2]),(1003,some []),(1005,some []),(1007,some []),(1011,some [])],jn:=lk none [(3,some qr4),(5,some qr5),(7,some qr6),(11,some qoz)]}
def q0o:JnOk Tryz.prog (EARGroup) 40 (nthc (EARGroup) Tryz.f108 3) 3 qr4:=by
 intro σ k r h;unfold qr4 at h;split at h
 ·obtain⟨hc,j⟩:=qaa h;cases qbi hc;rw[qab] at j;exact zdx (by kernel_rfl) j
 ·cases h
def q0p:JnOk Tryz.prog (EARGroup) 40 (nthc (EARGroup) Tryz.f108 2) 5 qr5:=by
 intro σ k r h;unfold qr5 at h;split at h
 ·obtain⟨hc,j⟩:=qaa h;cases qbi hc;rw[qab] at j;exact zdx (by kernel_rfl) j
 ·cases h
def q0q:JnOk Tryz.prog (EARGroup) 40 (nthc (EARGroup) Tryz.f108 1) 7 qr6:=by
 intro σ k r h;unfold qr6 at h;split at h
 ·obtain⟨hc,j⟩:=qaa h;cases qbi hc;rw[qab] at j;exact zdx (by kernel_rfl) j
 ·cases h
def qxc:JnOk Tryz.prog (EARGroup) 40 (nthc (EARGroup) Tryz.f108 0) 11 qoz:=by
 intro σ k r h;unfold qoz at h;split at h
 ·obtain⟨hc,j⟩:=qaa h;cases qbi hc;rw[qab] at j;exact zdx (by kernel_rfl) j
 ·cases h
def qtg(g:Int):OO:=cD ((1:Int)<=g) (cD (g<=7) (zI 1) (shut (qig (zI 2) (zI 3) (zI 4) (zI 5) (zI 6) (zI 7) (zI 0)) g)) (shut (qig (zI 2) (zI 3) (zI 4) (zI 5) (zI 6) (zI 7) (zI 0)) g)
def EARId:Env:= {mkE BARId qa9 80 with xl:=lk none [(0,some [2])]}
def xbx8(g:Int):OO:=let x1:=Int.tmod g 10;let x2:=u32.wrap x1;let r3:=(qa1 g).2.1;cD (r3=1) (cD ((0:Int)<=g) (cD (g<8) (Option.bind ([0,1,2,3,8,10,11,12][(0+g.toNat)]?) fun(e4:Int)=>let r5:=qj5 2 e4;zR [.cl (.sli .u32 r5)] []) none) none) (cD (r3=2) (cD (g<=13) (let x6:=u32.wrap ((16:Int)+x2);let r7:=qj5 3 x6;zR [.cl (.sli .u32 r7)] []) (cD (g=41) (cond (qdu [9,16,3,17]) (let r8:=qvq [9,16,3,17];zR [.cl (.sli .u32 r8)] []) none) (cD ((33:Int)<=g) (let x9:=i64.wrap (g - 32);let x10:=u32.wrap x9;zR [.cl (.sli .u32 [2,999,x10])] []) (let x11:=i64.wrap (g - 20);let x12:=u32.wrap x11;let x13:=Int.tmod x12 2;cD (x13=1) (let x14:=u32.wrap (x12 - 1);let x15:=u32.wrap (Int.tdiv x14 2);let x16:=u32.wrap ((20:Int)+x15);let r17:=qj5 3 x16;zR [.cl (.sli .u32 r17)] []) (let x18:=u32.wrap (x12 - 2);let x19:=u32.wrap (Int.tdiv x18 2);let x20:=u32.wrap ((26:Int)+x19);let r21:=qj5 3 x20;zR [.cl (.sli .u32 r21)] []))))) (cD (r3=3) (let r22:=qj5 4 x2;zR [.cl (.sli .u32 r22)] []) (cD (r3=4) (let x23:=u32.wrap ((27:Int)+x2);cond (qdu [9,16,3,x23]) (let r24:=qvq [9,16,3,x23];zR [.cl (.sli .u32 r24)] []) none) (cD (r3=5) (let x25:=u32.wrap ((20:Int)*x2);let x26:=u32.wrap (x25 - 15);let r27:=qj5 1 x26;zR [.cl (.sli .u32 r27)] []) (cD (r3=6) (let x28:=u32.wrap ((20:Int)*x2);let x29:=u32.wrap (x28 - 18);let r30:=qj5 1 x29;zR [.cl (.sli .u32 r30)] []) (cD (r3=7) (let x31:=u32.wrap ((20:Int)*x2);let x32:=u32.wrap (x31 - 14);let r33:=qj5 1 x32;zR [.cl (.sli .u32 r33)] []) (zR [.cl (.sli .u32 [])] [])))))))
def EARNist:Env:= {mkE BARNist qa9 8 with xl:=lk none [(0,some [4])]}
def xbx9(g:Int)(h:Int):OO:=zR [.cl (.sli .u32 [2,16,840,1,101,3,4,g,h])] []
def EARPkcs:Env:= {mkE BARPkcs qa9 8 with xl:=lk none [(0,some [2])]}
def xbn7(o:LI):OO:=let l1:=[1,2,840,113549,1]++o;rmK l1.length 4<| zR [.cl (.sli .u32 l1)] []
def EAUsed:Env:= {mkE BAUsed qa9 8 with xl:=lk none [(0,some [2])]}
def xbyc(g:Int):OO:=cD (g=6) (zI 16) (cD (g=7) (zI 12) (zI 0))
def EANode:Env:= {mkE BANode qa9 52 with xl:=lk none [(0,some [4,5])]}
def xbx6(g:Int)(b:LI):OO:=let r2:=(qa1 g).2.1;let r3:=(qa1 g).2.2;cD (r2=0) (zR [.cl (.agg [.int .i64 0,.sli .u8 [],.slg 3 []]),zvi 9] []) (let r4:=qj7 r2;cond (!decide ((b.length:Int)=r4)) (zR [.cl (.agg [.int .i64 0,.sli .u8 [],.slg 3 []]),zvi 14] []) (cond (idOk r3) (let r5:=(qgq 6 (qay r3)).1;let r6:=(qgq 6 (qay r3)).2.1;let r7:=qcg;cD (r2=6) (cond (qdu b) (let r9:=qcg;cond (qbw ([.agg [.int .i64 r5,.sli .u8 r6,.slg 3 r7],.agg [.int .i64 4,.sli .u8 b,.slg 3 r9]])) (let r10:=qa6;zR [.cl (.agg [.int .i64 48,.sli .u8 r10,.slg 3 ([.agg [.int .i64 r5,.sli .u8 r6,.slg 3 r7],.agg [.int .i64 4,.sli .u8 b,.slg 3 r9]])]),zvi 0] []) none) none) (cD (r2=7) (cond (qdu b) (let r11:=qcg;cond (q6m 16) (let r12:=vInt 16;let r13:=qcg;cond (qbw ([.agg [.int .i64 4,.sli .u8 b,.slg 3 r11],.agg [.int .i64 2,.sli .u8 r12,.slg 3 r13]])) (let r14:=qa6;cond (qbw ([.agg [.int .i64 r5,.sli .u8 r6,.slg 3 r7],.agg [.int .i64 48,.sli .u8 r14,.slg 3 ([.agg [.int .i64 4,.sli .u8 b,.slg 3 r11],.agg [.int .i64 2,.sli .u8 r12,.slg 3 r13]])]])) (let r15:=qa6;zR [.cl (.agg [.int .i64 48,.sli .u8 r15,.slg 3 ([.agg [.int .i64 r5,.sli .u8 r6,.slg 3 r7],.agg [.int .i64 48,.sli .u8 r14,.slg 3 ([.agg [.int .i64 4,.sli .u8 b,.slg 3 r11],.agg [.int .i64 2,.sli .u8 r12,.slg 3 r13]])]])]),zvi 0] []) none) none) none) none) (cond (qbw ([.agg [.int .i64 r5,.sli .u8 r6,.slg 3 r7]])) (let r16:=qa6;zR [.cl (.agg [.int .i64 48,.sli .u8 r16,.slg 3 ([.agg [.int .i64 r5,.sli .u8 r6,.slg 3 r7]])]),zvi 0] []) none))) none))
def EARNode:Env:= {mkE BARNode qa9 49 with xl:=lk none [(0,some [4,5])]}
def xbn6(g:Int)(b:LI):OO:=let r1:=(qa1 g).2.1;cD (r1=0) (zR [.cl (.agg [.int .i64 0,.sli .u8 [],.slg 3 []]),zvi 9] []) (cD (r1=6) (cond (!decide ((b.length:Int)=16)) (zR [.cl (.agg [.int .i64 0,.sli .u8 [],.slg 3 []]),zvi 14] []) (let r2:=(qa1 g).2.2;cond (idOk r2) (let r3:=(qgq 6 (qay r2)).1;let r4:=(qgq 6 (qay r2)).2.1;let r5:=qcg;cond (qdu b) (let r7:=qcg;cond (qbw ([.agg [.int .i64 r3,.sli .u8 r4,.slg 3 r5],.agg [.int .i64 4,.sli .u8 b,.slg 3 r7]])) (let r8:=qa6;zR [.cl (.agg [.int .i64 48,.sli .u8 r8,.slg 3 ([.agg [.int .i64 r3,.sli .u8 r4,.slg 3 r5],.agg [.int .i64 4,.sli .u8 b,.slg 3 r7]])]),zvi 0] []) none) none) none)) (cD (r1=7) (cond (!decide ((b.length:Int)=12)) (zR [.cl (.agg [.int .i64 0,.sli .u8 [],.slg 3 []]),zvi 14] []) (let r9:=(qa1 g).2.2;cond (idOk r9) (let r10:=(qgq 6 (qay r9)).1;let r11:=(qgq 6 (qay r9)).2.1;let r12:=qcg;cond (qdu b) (let r14:=qcg;cond (q6m 16) (let r15:=vInt 16;let r16:=qcg;cond (qbw ([.agg [.int .i64 4,.sli .u8 b,.slg 3 r14],.agg [.int .i64 2,.sli .u8 r15,.slg 3 r16]])) (let r17:=qa6;cond (qbw ([.agg [.int .i64 r10,.sli .u8 r11,.slg 3 r12],.agg [.int .i64 48,.sli .u8 r17,.slg 3 ([.agg [.int .i64 4,.sli .u8 b,.slg 3 r14],.agg [.int .i64 2,.sli .u8 r15,.slg 3 r16]])]])) (let r18:=qa6;zR [.cl (.agg [.int .i64 48,.sli .u8 r18,.slg 3 ([.agg [.int .i64 r10,.sli .u8 r11,.slg 3 r12],.agg [.int .i64 48,.sli .u8 r17,.slg 3 ([.agg [.int .i64 4,.sli .u8 b,.slg 3 r14],.agg [.int .i64 2,.sli .u8 r15,.slg 3 r16]])]])]),zvi 0] []) none) none) none) none) none)) (cond (!decide ((b.length:Int)=0)) (zR [.cl (.agg [.int .i64 0,.sli .u8 [],.slg 3 []]),zvi 14] []) (let r19:=(qa1 g).2.2;cond (idOk r19) (let r20:=(qgq 6 (qay r19)).1;let r21:=(qgq 6 (qay r19)).2.1;let r22:=qcg;cond (qbw ([.agg [.int .i64 r20,.sli .u8 r21,.slg 3 r22]])) (let r24:=qa6;zR [.cl (.agg [.int .i64 48,.sli .u8 r24,.slg 3 ([.agg [.int .i64 r20,.sli .u8 r21,.slg 3 r22]])]),zvi 0] []) none) none))))
def EATail:Env:= {mkE BATail qa9 69 with xl:=lk none [(0,some [4,5])]}
def xbyb(g:Int)(l:LC):OO:=let r1:=qj7 g;cD (r1=0) (zR [.cl (.sli .u8 []),zvb (decide ((l.length:Int)=0))] []) (cond (!decide ((l.length:Int)=1)) (zR [.cl (.sli .u8 []),zvb false] []) (cD ((0:Int)<(l.length:Int)) ((l[0]?).bind fun(e2:CV)=>let e3:=(cell1 e2).headD .nili;let e4:=(cell1 e2).tail.headD .nili;let e5:=(cell1 e2).tail.tail.headD .nili;cond (qhz .i64 e3&&(qf6 .u8 e4&&(qej 3 e5&&true))) (let i6:=qf9 e3;let l7:=qb8 e4;let l8:=qbl e5;cD (g=7) (cond (qbw l8) (let r9:=(qb0 48 i6 l7 l8).1;let r10:=(qb0 48 i6 l7 l8).2;cond (!decide (r10=0)) (zR [.cl (.sli .u8 []),zvb false] []) (cond (!decide ((r9.length:Int)=2)) (zR [.cl (.sli .u8 []),zvb false] []) (cD ((1:Int)<(r9.length:Int)) ((r9[1]?).bind fun(e11:CV)=>let e12:=(cell1 e11).headD .nili;let e13:=(cell1 e11).tail.headD .nili;let e14:=(cell1 e11).tail.tail.headD .nili;cond (qhz .i64 e12&&(qf6 .u8 e13&&(qej 3 e14&&true))) (let i15:=qf9 e12;let l16:=qb8 e13;let l17:=qbl e14;cond (isS [.int .i64 i15,.sli .u8 l16,.slg 3 l17]) (let r18:=(qb6 i15 l16 l17).1;let r19:=(qb6 i15 l16 l17).2;cond (!decide (r19=0)) (zR [.cl (.sli .u8 []),zvb false] []) (cond (!decide (r18=16)) (zR [.cl (.sli .u8 []),zvb false] []) (cD ((0:Int)<(r9.length:Int)) ((r9[0]?).bind fun(e20:CV)=>let e21:=(cell1 e20).headD .nili;let e22:=(cell1 e20).tail.headD .nili;let e23:=(cell1 e20).tail.tail.headD .nili;cond (qhz .i64 e21&&(qf6 .u8 e22&&(qej 3 e23&&true))) (let i24:=qf9 e21;let l25:=qb8 e22;let l26:=qbl e23;cond (isS [.int .i64 i24,.sli .u8 l25,.slg 3 l26]) (let r27:=(qa2 i24 l25 l26).1;let r28:=(qa2 i24 l25 l26).2;cD (r28=0) (let r29:=qj7 g;zR [zvl r27,zvb (decide ((r27.length:Int)=r29))] []) (zR [zvl r27,zvb false] [])) none) none) none))) none) none) none))) none) (cond (isS [.int .i64 i6,.sli .u8 l7,.slg 3 l8]) (let r30:=(qa2 i6 l7 l8).1;let r31:=(qa2 i6 l7 l8).2;cD (r31=0) (let r32:=qj7 g;zR [zvl r30,zvb (decide ((r30.length:Int)=r32))] []) (zR [zvl r30,zvb false] [])) none)) none) none))
def EARead:Env:= {mkE BARead qa9 47 with xl:=lk none [(0,some [2,3,4])]}
def xbya(t:Int)(b:LI)(k:LC):OO:=cond (qbw k) (let r1:=(qb0 48 t b k).1;let r2:=(qb0 48 t b k).2;cond (!decide (r2=0)) (zR [zvi 0,.cl (.sli .u8 []),zvi 1] []) (cD ((r1.length:Int)=0) (zR [zvi 0,.cl (.sli .u8 []),zvi 1] []) (cD ((0:Int)<(r1.length:Int)) ((r1[0]?).bind fun(e3:CV)=>let e4:=(cell1 e3).headD .nili;let e5:=(cell1 e3).tail.headD .nili;let e6:=(cell1 e3).tail.tail.headD .nili;cond (qhz .i64 e4&&(qf6 .u8 e5&&(qej 3 e6&&true))) (let i7:=qf9 e4;let l8:=qb8 e5;let l9:=qbl e6;cond (isS [.int .i64 i7,.sli .u8 l8,.slg 3 l9]) (let r10:=(qgp i7 l8 l9).1;let r11:=(qgp i7 l8 l9).2;cond (!decide (r11=0)) (zR [zvi 0,.cl (.sli .u8 []),zvi 1] []) (let r12:=qhf r10;cD (r12=0) (zR [zvi 0,.cl (.sli .u8 []),zvi 9] []) (let r13:=(qa1 r12).2.1;cD ((1:Int)<=(r1.length:Int)) (let l14:=List.drop 1 r1;cond (q6q l14) (let r15:=(qcy r13 l14).1;let r16:=(qcy r13 l14).2;cond (!r16) (zR [zvi 0,.cl (.sli .u8 []),zvi 1] []) (cond (qdu r15) (zR [zvi r12,zvl r15,zvi 0] []) none)) none) none))) none) none) none))) none
def EMSize:Env:= {mkE BMSize qa9 13 with xl:=lk none [(0,some [2])]}
def xbyr(k:Int):OO:=cD (k<0) (zI 0) (cD ((8:Int)<=k) (zI 0) (cD ((0:Int)<=k) (cD (k<8) (Option.bind ((shut (qoa.map fun l=>.aggi 2 .i64 l))[k.toNat]?) fun(e1:CV)=>let e2:=(cell1 e1).getD 0 .nili;cond (qhz .i64 e2) (let i3:=qf9 e2;zI i3) none) none) none))
def ER9Size:Env:= {mkE BR9Size qa9 15 with xl:=lk none [(0,some [2])]}
def xbon(k:Int):OO:=cD (k<0) (zI 0) (cD ((7:Int)<k) (zI 0) (cD ((0:Int)<=k) (cD (k<8) (Option.bind ([0,32,48,64,32,64,32,64][(0+k.toNat)]?) fun(e1:Int)=>zI e1) none) none))
def EFDig:Env:= {mkE BFDig qa9 11 with xl:=lk none [(0,some [3,4])]}
def xb94(b:LI)(s:Int):OO:=cond (qdu b) (let r1:=qcg;zR [.cl (.agg [.int .i64 4,.sli .u8 b,.slg 3 r1]),zvb (decide ((b.length:Int)=s))] [some ⟨.var [zvi s],false⟩]) none
def qy6(again:Nat->LC->Int->Int->Int->LC->OO)(k0:Int->OO)(k1:Nat->Int->LC->OO)(v1:Nat)(v2:LC)(v3 v4 v5:Int)(v6:LC):OO:=cD (v4<v3) (getK v2 v4 fun e1=>let e2:=(cell1 e1).getD 0 .nili;cond (qf6 .u8 e2) (let l3:=qb8 e2;cond (qdu l3) (let r4:=qcg;let r5:=decide ((l3.length:Int)=v5);cond (!r5) (k0 v5) (let l6:=v6++([.agg [.int .i64 4,.sli .u8 l3,.slg 3 r4]]);rmK l6.length 56<| let x7:=i64.wrap (v4+1);again l6.length v2 v3 x7 v5 l6)) none) none) (k1 v1 v5 v6)
def xbgx(k0:Int->OO)(k1:Nat->Int->LC->OO):Nat->Nat->LC->Int->Int->Int->LC->OO:=qe8 (fun a=>qy6 a k0 k1) (fun _ _ _ _ _ _=>none)
def xbda:St->KT->OO:=fun σ k=>match σ with|⟨[(q1,.fn (.func q2) [] [.ptr q3 q4 q5]),(q6,.ref q7 q8 v1 true q9),(q10,.cl (.slg q11 v2)),(q12,.cl (.int .i64 v3)),(q13,.cl (.int .i64 v4))],[(q14,⟨.var [.cl (.int .i64 v5)],false⟩),(q15,⟨.gen q16 v6,false⟩)]⟩=>cond (eqL [q1,q2,q3,q4,q5,q6,q7,q8,q9,q10,q11,q12,q13,q14,q15,q16] [3,188,0,0,0,10,91,0,3,28,1,29,30,0,91,3]) (shut (xbgx (fun y1=>k .ret ⟨[(8,.ref 72 0 0 true 3),(9,zvb false)],[(0,⟨.var [zvi y1],false⟩),(72,⟨.gen 3 [],false⟩)]⟩) (fun y1 y2 y3=>k (.exit 0) ⟨[(10,.ref 91 0 y1 true 3)],[(0,⟨.var [zvi y2],false⟩),(91,⟨.gen 3 y3,false⟩)]⟩) FUEL) v1 v2 v3 v4 v5 v6) none|_=>none
def EEDig:Env:= {mkE BEDig qa9 48 with byref:=lk [] [(188,[1])],live:=lk [] [(5,[3,10,28,29,30])],ren:=lk [] [(5,[(109,91)])],lp:=lk none [(5,some xbda)],xl:=lk none [(0,some [8,9]),(1,some [10])]}
def xbdb:LpT Tryz.prog (EEDig) Tryz.f194 0 5 xbda:=by
 intro σ k r h;unfold xbda at h;split at h
 ·obtain⟨hc,j⟩:=qaa h;cases qbi hc;rw[qab] at j;apply it6 j
  ·intro n;kernel_rfl
  ·rfl
 ·cases h
def xb91(l:LC)(lo:Int)(hi:Int)(s:Int):OO:=cD ((l.length:Int)<lo) (zR [.cl (.slg 3 []),zvb false] [some ⟨.var [zvi s],false⟩]) (cD (hi<(l.length:Int)) (zR [.cl (.slg 3 []),zvb false] [some ⟨.var [zvi s],false⟩]) (cD ((0:Int)<=(l.length:Int)) (cD ((l.length:Int)*56<=LIM) (cD ((l.length:Int)<=LIM) (shut (xbgx (fun y1=>zR [.cl (.slg 3 []),zvb false] [some ⟨.var [zvi y1],false⟩]) (fun y2 y3 y4=>zR [zvg y4,zvb true] [some ⟨.var [zvi y3],false⟩]) FUEL) 0 l (l.length:Int) 0 s []) none) none) none))
def xb5h:Env:= {mkE xbq1 qa9 23 with byref:=lk [] [(188,[1]),(194,[3])],xl:=lk none [(0,some [8,9])]}
def xb56(l:LC)(lo:Int)(hi:Int)(s:Int):OO:=cond (qvj l) (let r1:=dgL s lo hi l;let r2:=dgB s lo hi l;cond (qbw r1) (let r3:=qa6;zR [.cl (.agg [.int .i64 48,.sli .u8 r3,.slg 3 r1]),zvb r2] [some ⟨.var [zvi s],false⟩]) none) none
def EFPart:Env:= {mkE BFPart qa9 10 with byref:=lk [] [(187,[3]),(188,[1])],xl:=lk none [(0,some [3,4])]}
def xb50(l:LC)(s:Int):OO:=cond (qvj l) (let r1:=qa6;let r2:=dgL s 1 64 l;let r3:=dgB s 1 64 l;zR [.cl (.agg [.int .i64 48,.sli .u8 r1,.slg 3 r2]),zvb r3] [some ⟨.var [zvi s],false⟩]) none
def EEPart:Env:= {mkE BEPart qa9 4 with byref:=lk [] [(186,[1])],xl:=lk none [(0,some [2])]}
def xb5t(s:Int):OO:=zR [.fn (.func 186) [] [.ptr 0 0 0]] [some ⟨.var [zvi s],false⟩]
def qy8(again:Nat->LC->Int->Int->Int->LC->OO)(k0:Int->OO)(k1:Nat->Int->LC->OO)(v1:Nat)(v2:LC)(v3 v4 v5:Int)(v6:LC):OO:=cD (v4<v3) (getK v2 v4 fun e1=>let e2:=(cell1 e1).getD 0 .nili;cond (qej 1 e2) (let l3:=qbl e2;cond (qvj l3) (let r4:=qa6;let r5:=dgL v5 1 64 l3;let r6:=dgB v5 1 64 l3;cond (!r6) (k0 v5) (let l7:=v6++([.agg [.int .i64 48,.sli .u8 r4,.slg 3 r5]]);rmK l7.length 56<| let x8:=i64.wrap (v4+1);again l7.length v2 v3 x8 v5 l7)) none) none) (k1 v1 v5 v6)
def xbgz(k0:Int->OO)(k1:Nat->Int->LC->OO):Nat->Nat->LC->Int->Int->Int->LC->OO:=qe8 (fun a=>qy8 a k0 k1) (fun _ _ _ _ _ _=>none)
def xbde:St->KT->OO:=fun σ k=>match σ with|⟨[(q1,.fn (.func q2) [] [.ptr q3 q4 q5]),(q6,.ref q7 q8 v1 true q9),(q10,.cl (.slg q11 v2)),(q12,.cl (.int .i64 v3)),(q13,.cl (.int .i64 v4))],[(q14,⟨.var [.cl (.int .i64 v5)],false⟩),(q15,⟨.gen q16 v6,false⟩)]⟩=>cond (eqL [q1,q2,q3,q4,q5,q6,q7,q8,q9,q10,q11,q12,q13,q14,q15,q16] [3,186,0,0,0,10,91,0,3,28,1,29,30,0,91,3]) (shut (xbgz (fun y1=>k .ret ⟨[(8,.ref 72 0 0 true 3),(9,zvb false)],[(0,⟨.var [zvi y1],false⟩),(72,⟨.gen 3 [],false⟩)]⟩) (fun y1 y2 y3=>k (.exit 0) ⟨[(10,.ref 91 0 y1 true 3)],[(0,⟨.var [zvi y2],false⟩),(91,⟨.gen 3 y3,false⟩)]⟩) FUEL) v1 v2 v3 v4 v5 v6) none|_=>none
def EEPar:Env:= {mkE BEPar qa9 48 with byref:=lk [] [(186,[1])],live:=lk [] [(5,[3,10,28,29,30])],ren:=lk [] [(5,[(109,91)])],lp:=lk none [(5,some xbde)],xl:=lk none [(0,some [8,9]),(1,some [10])]}
def xbdf:LpT Tryz.prog (EEPar) Tryz.f166 0 5 xbde:=by
 intro σ k r h;unfold xbde at h;split at h
 ·obtain⟨hc,j⟩:=qaa h;cases qbi hc;rw[qab] at j;apply it6 j
  ·intro n;kernel_rfl
  ·rfl
 ·cases h
def xb93(l:LC)(lo:Int)(hi:Int)(s:Int):OO:=cD ((l.length:Int)<lo) (zR [.cl (.slg 3 []),zvb false] [some ⟨.var [zvi s],false⟩]) (cD (hi<(l.length:Int)) (zR [.cl (.slg 3 []),zvb false] [some ⟨.var [zvi s],false⟩]) (cD ((0:Int)<=(l.length:Int)) (cD ((l.length:Int)*56<=LIM) (cD ((l.length:Int)<=LIM) (shut (xbgz (fun y1=>zR [.cl (.slg 3 []),zvb false] [some ⟨.var [zvi y1],false⟩]) (fun y2 y3 y4=>zR [zvg y4,zvb true] [some ⟨.var [zvi y3],false⟩]) FUEL) 0 l (l.length:Int) 0 s []) none) none) none))
def xbxe:Env:= {mkE xbcl qa9 72 with byref:=lk [] [(166,[3])],keep:=lk false [(167,true)],xl:=lk none [(0,some [2,3])]}
def xbod(d:Int)(t:LC)(w:LI):OO:=let r1:=(qa1 d).2.1;cond (!decide (r1=1)) (zR [.cl (.agg [.int .i64 0,.sli .u8 [],.slg 3 []]),zvb false] []) (let r2:=(qa1 d).2.2;cond (idOk r2) (let r3:=(qgq 6 (qay r2)).1;let r4:=(qgq 6 (qay r2)).2.1;let r5:=qcg;cond (qbw ([.agg [.int .i64 r3,.sli .u8 r4,.slg 3 r5]])) (let r7:=(vBox 0 ([.agg [.int .i64 r3,.sli .u8 r4,.slg 3 r5]])).1;let r8:=qa6;let r9:=(vBox 0 ([.agg [.int .i64 r3,.sli .u8 r4,.slg 3 r5]])).2.1;cond (qad w) (let r11:=(qan w).1.1;let r12:=(qan w).1.2.1;let r13:=(qan w).1.2.2;let r14:=(qan w).2;let r15:=qqm d;cond (quw t) (let r16:=xb15 r15 0 20 t;let r17:=xb14 r15 0 20 t;cond (!decide (r14=0)) (zR [.cl (.agg [.int .i64 0,.sli .u8 [],.slg 3 []]),zvb false] []) (cond (!r17) (zR [.cl (.agg [.int .i64 0,.sli .u8 [],.slg 3 []]),zvb false] []) (cD ((r16.length:Int)=0) (cond (qbw ([.agg [.int .i64 r7,.sli .u8 r8,.slg 3 r9],.agg [.int .i64 r11,.sli .u8 r12,.slg 3 r13]])) (let r18:=qa6;zR [.cl (.agg [.int .i64 48,.sli .u8 r18,.slg 3 ([.agg [.int .i64 r7,.sli .u8 r8,.slg 3 r9],.agg [.int .i64 r11,.sli .u8 r12,.slg 3 r13]])]),zvb true] []) none) (cond (qbw r16) (let r19:=(vBox 2 r16).1;let r20:=qa6;let r21:=(vBox 2 r16).2.1;cond (qbw ([.agg [.int .i64 r7,.sli .u8 r8,.slg 3 r9],.agg [.int .i64 r19,.sli .u8 r20,.slg 3 r21],.agg [.int .i64 r11,.sli .u8 r12,.slg 3 r13]])) (let r23:=qa6;zR [.cl (.agg [.int .i64 48,.sli .u8 r23,.slg 3 ([.agg [.int .i64 r7,.sli .u8 r8,.slg 3 r9],.agg [.int .i64 r19,.sli .u8 r20,.slg 3 r21],.agg [.int .i64 r11,.sli .u8 r12,.slg 3 r13]])]),zvb true] []) none) none)))) none) none) none) none)
def qy7(again:Nat->LC->Int->Int->LC->OO)(k0:OO)(k1:Nat->LC->OO)(v1:Nat)(v2:LC)(v3 v4:Int)(v5:LC):OO:=cD (v4<v3) (getK v2 v4 fun e1=>let e2:=(cell1 e1).headD .nili;let e3:=(cell1 e1).tail.headD .nili;let e4:=(cell1 e1).tail.tail.headD .nili;cond (qhz .i64 e2&&(qej 1 e3&&(qf6 .u8 e4&&true))) (let i5:=qf9 e2;let l6:=qbl e3;let l7:=qb8 e4;cond (quw l6&&qad l7) (let r8:=(q8j i5 l6 l7).1;let r9:=qa6;let r10:=(q8j i5 l6 l7).2;let r11:=q2j i5 l6 l7;cond (!r11) (k0) (let l12:=v5++([.agg [.int .i64 r8,.sli .u8 r9,.slg 3 r10]]);rmK l12.length 56<| let x13:=i64.wrap (v4+1);again l12.length v2 v3 x13 l12)) none) none) (k1 v1 v5)
def xbgy(k0:OO)(k1:Nat->LC->OO):Nat->Nat->LC->Int->Int->LC->OO:=qe8 (fun a=>qy7 a k0 k1) (fun _ _ _ _ _=>none)
def xbdc:St->KT->OO:=fun σ k=>match σ with|⟨[(q1,.cl (.fn (.func q2) [] [])),(q3,.ref q4 q5 v1 true q6),(q7,.cl (.slg q8 v2)),(q9,.cl (.int .i64 v3)),(q10,.cl (.int .i64 v4))],[(q11,⟨.gen q12 v5,false⟩)]⟩=>cond (eqL [q1,q2,q3,q4,q5,q6,q7,q8,q9,q10,q11,q12] [3,127,10,91,0,3,28,3,29,30,91,3]) (shut (xbgy (k .ret ⟨[(8,.ref 72 0 0 true 3),(9,zvb false)],[(72,⟨.gen 3 [],false⟩)]⟩) (fun y1 y2=>k (.exit 0) ⟨[(10,.ref 91 0 y1 true 3)],[(91,⟨.gen 3 y2,false⟩)]⟩) FUEL) v1 v2 v3 v4 v5) none|_=>none
def EEMar:Env:= {mkE BEMar qa9 48 with live:=lk [] [(5,[3,10,28,29,30])],ren:=lk [] [(5,[(109,91)])],lp:=lk none [(5,some xbdc)],xl:=lk none [(0,some [8,9]),(1,some [10])]}
def xbdd:LpT Tryz.prog (EEMar) Tryz.f163 0 5 xbdc:=by
 intro σ k r h;unfold xbdc at h;split at h
 ·obtain⟨hc,j⟩:=qaa h;cases qbi hc;rw[qab] at j;apply it5 j
  ·intro n;kernel_rfl
  ·rfl
 ·cases h
def xb92(l:LC)(lo:Int)(hi:Int):OO:=cD ((l.length:Int)<lo) (zR [.cl (.slg 3 []),zvb false] []) (cD (hi<(l.length:Int)) (zR [.cl (.slg 3 []),zvb false] []) (cD ((0:Int)<=(l.length:Int)) (cD ((l.length:Int)*56<=LIM) (cD ((l.length:Int)<=LIM) (shut (xbgy (zR [.cl (.slg 3 []),zvb false] []) (fun y1 y2=>zR [zvg y2,zvb true] []) FUEL) 0 l (l.length:Int) 0 []) none) none) none))
def xb5i:Env:= {mkE xbq2 qa9 23 with xl:=lk none [(0,some [8,9])]}
def xb57(l:LC)(lo:Int)(hi:Int):OO:=cond (qps l) (let r1:=qt0 lo hi l;let r2:=qtz lo hi l;cond (qbw r1) (let r3:=qa6;zR [.cl (.agg [.int .i64 48,.sli .u8 r3,.slg 3 r1]),zvb r2] []) none) none
def xbq7:Env:= {mkE q3w qa9 8 with xl:=lk none [(0,some [2,3])]}
def xbs1(l:LC):OO:=cond (qps l) (let r1:=qa6;let r2:=qt0 1 20 l;let r3:=qtz 1 20 l;zR [.cl (.agg [.int .i64 48,.sli .u8 r1,.slg 3 r2]),zvb r3] []) none
def qy5(again:Nat->LC->Int->Int->LC->OO)(k0:OO)(k1:Nat->LC->OO)(v1:Nat)(v2:LC)(v3 v4:Int)(v5:LC):OO:=cD (v4<v3) (getK v2 v4 fun e1=>let e2:=(cell1 e1).getD 0 .nili;cond (qej 3 e2) (let l3:=qbl e2;cond (qps l3) (let r4:=qa6;let r5:=qt0 1 20 l3;let r6:=qtz 1 20 l3;cond (!r6) (k0) (let l7:=v5++([.agg [.int .i64 48,.sli .u8 r4,.slg 3 r5]]);rmK l7.length 56<| let x8:=i64.wrap (v4+1);again l7.length v2 v3 x8 l7)) none) none) (k1 v1 v5)
def xbgw(k0:OO)(k1:Nat->LC->OO):Nat->Nat->LC->Int->Int->LC->OO:=qe8 (fun a=>qy5 a k0 k1) (fun _ _ _ _ _=>none)
def xbc8:St->KT->OO:=fun σ k=>match σ with|⟨[(q1,.cl (.fn (.func q2) [] [])),(q3,.ref q4 q5 v1 true q6),(q7,.cl (.slg q8 v2)),(q9,.cl (.int .i64 v3)),(q10,.cl (.int .i64 v4))],[(q11,⟨.gen q12 v5,false⟩)]⟩=>cond (eqL [q1,q2,q3,q4,q5,q6,q7,q8,q9,q10,q11,q12] [3,76,10,91,0,3,28,1,29,30,91,3]) (shut (xbgw (k .ret ⟨[(8,.ref 72 0 0 true 3),(9,zvb false)],[(72,⟨.gen 3 [],false⟩)]⟩) (fun y1 y2=>k (.exit 0) ⟨[(10,.ref 91 0 y1 true 3)],[(91,⟨.gen 3 y2,false⟩)]⟩) FUEL) v1 v2 v3 v4 v5) none|_=>none
def EECha:Env:= {mkE BECha qa9 48 with live:=lk [] [(5,[3,10,28,29,30])],ren:=lk [] [(5,[(109,91)])],lp:=lk none [(5,some xbc8)],xl:=lk none [(0,some [8,9]),(1,some [10])]}
def xbc9:LpT Tryz.prog (EECha) Tryz.f125 0 5 xbc8:=by
 intro σ k r h;unfold xbc8 at h;split at h
 ·obtain⟨hc,j⟩:=qaa h;cases qbi hc;rw[qab] at j;apply it5 j
  ·intro n;kernel_rfl
  ·rfl
 ·cases h
def xb90(l:LC)(lo:Int)(hi:Int):OO:=cD ((l.length:Int)<lo) (zR [.cl (.slg 3 []),zvb false] []) (cD (hi<(l.length:Int)) (zR [.cl (.slg 3 []),zvb false] []) (cD ((0:Int)<=(l.length:Int)) (cD ((l.length:Int)*56<=LIM) (cD ((l.length:Int)<=LIM) (shut (xbgw (zR [.cl (.slg 3 []),zvb false] []) (fun y1 y2=>zR [zvg y2,zvb true] []) FUEL) 0 l (l.length:Int) 0 []) none) none) none))
def xb5g:Env:= {mkE xbq0 qa9 23 with xl:=lk none [(0,some [8,9])]}
def xb55(l:LC)(lo:Int)(hi:Int):OO:=cond (qcb l) (let r1:=qs0 lo hi l;let r2:=qnm lo hi l;cond (qbw r1) (let r3:=qa6;zR [.cl (.agg [.int .i64 48,.sli .u8 r3,.slg 3 r1]),zvb r2] []) none) none
def xbj2:Env:= {mkE qw5 qa9 8 with xl:=lk none [(0,some [2,3])]}
def xbk1(l:LC):OO:=cond (qcb l) (let r1:=qa6;let r2:=qs0 1 10 l;let r3:=qnm 1 10 l;zR [.cl (.agg [.int .i64 48,.sli .u8 r1,.slg 3 r2]),zvb r3] []) none
def q2h(again:LC->Int->LC->Int->Int->OO)(k0:ByteArray->LC->Int->LC->LC->Int->Int->LC->Nat->LC->Int->LC->Int->Int->Int->ByteArray->OO)(k1:LC->Int->OO)(v1:LC)(v2:Int)(v3:LC)(v4 v5:Int):OO:=cD (v5<v4) (getK v3 v5 fun e1=>let e2:=(cell1 e1).getD 0 .nili;cond (qej 3 e2) (let l3:=qbl e2;let x4:=i64.wrap (v2+(l3.length:Int));cD (x4<0) (k0 (⟨#[108,101,110,32,111,117,116,32,111,102,32,114,97,110,103,101]⟩:ByteArray) v1 x4 l3 v3 v4 v5 v3 v5.toNat l3 v2 l3 (l3.length:Int) x4 x4 (⟨#[108,101,110,32,111,117,116,32,111,102,32,114,97,110,103,101]⟩:ByteArray)) (let x5:=i64.wrap (v5+1);again v1 x4 v3 v4 x5)) none) (k1 v1 v2)
def qjs(k0:ByteArray->LC->Int->LC->LC->Int->Int->LC->Nat->LC->Int->LC->Int->Int->Int->ByteArray->OO)(k1:LC->Int->OO):Nat->LC->Int->LC->Int->Int->OO:=qe8 (fun a=>q2h a k0 k1) (fun _ _ _ _ _=>none)
def qza(again:Nat->LC->Int->Int->LC->OO)(k0:Nat->LC->OO)(v1:Nat)(v2:LC)(v3 v4:Int)(v5:LC):OO:=cD (v4<v3) (getK v2 v4 fun e20=>let e21:=(cell1 e20).getD 0 .nili;cond (qej 3 e21) (let l22:=qbl e21;let l23:=v5++l22;rmK l23.length 56<| let x24:=i64.wrap (v4+1);again l23.length v2 v3 x24 l23) none) (k0 v1 v5)
def qht(k0:Nat->LC->OO):Nat->Nat->LC->Int->Int->LC->OO:=qe8 (fun a=>qza a k0) (fun _ _ _ _ _=>none)
def qo8:St->KT->OO:=fun σ k=>match σ with|⟨[(q1,.cl (.slg q2 v1)),(q3,.cl (.int .i64 v2)),(q4,.cl (.slg q5 v3)),(q6,.cl (.int .i64 v4)),(q7,.cl (.int .i64 v5))],[]⟩=>cond (eqL [q1,q2,q3,q4,q5,q6,q7] [0,1,3,9,1,10,11]) (shut (qjs (fun y1 y2 y3 y4 y5 y6 y7 y8 y9 y10 y11 y12 y13 y14 y15 y16=>k (.pan (.iface 9 (.str y1))) ⟨[(0,.cl (.slg 1 y2)),(3,zvi y3),(5,zvg y4),(9,.cl (.slg 1 y5)),(10,zvi y6),(11,zvi y7),(12,zvb true),(13,.cl (.vp (.slg 1 y8) y9 0)),(14,zvg y10),(15,zvi y11),(16,zvg y12),(17,zvi y13),(18,zvi y14),(19,zvi y15),(20,zvb true),(21,.cl (.iface 9 (.str y16)))],[]⟩) (fun y1 y2=>k (.exit 0) ⟨[(0,.cl (.slg 1 y1)),(3,zvi y2)],[]⟩) FUEL) v1 v2 v3 v4 v5) none|_=>none
def qmx:St->KT->OO:=fun σ k=>match σ with|⟨[(q1,.ref q2 q3 v1 true q4),(q5,.cl (.slg q6 v2)),(q7,.cl (.int .i64 v3)),(q8,.cl (.int .i64 v4))],[(q9,⟨.gen q10 v5,false⟩)]⟩=>cond (eqL [q1,q2,q3,q4,q5,q6,q7,q8,q9,q10] [6,88,0,3,25,1,26,27,88,3]) (shut (qht (fun y1 y2=>k (.exit 2) ⟨[(6,.ref 88 0 y1 true 3)],[(88,⟨.gen 3 y2,false⟩)]⟩) FUEL) v1 v2 v3 v4 v5) none|_=>none
def qxb:Env:= {mkE qw8 qa9 36 with byref:=lk [] [(79,[0])],keep:=lk false [(79,true)],live:=lk [] [(3,[0,3,9,10,11]),(11,[6,25,26,27])],ren:=lk [] [(11,[(97,88)])],lp:=lk none [(3,some qo8),(11,some qmx)],xl:=lk none [(0,some [2]),(1,some [0,3]),(3,some [6])]}
def qx6:LpT Tryz.prog (qxb) Tryz.f40 0 3 qo8:=by
 intro σ k r h;unfold qo8 at h;split at h
 ·obtain⟨hc,j⟩:=qaa h;cases qbi hc;rw[qab] at j;apply it5 j
  ·intro n;kernel_rfl
  ·rfl
 ·cases h
def qu8:LpT Tryz.prog (qxb) Tryz.f40 1 11 qmx:=by
 intro σ k r h;unfold qmx at h;split at h
 ·obtain⟨hc,j⟩:=qaa h;cases qbi hc;rw[qab] at j;apply it5 j
  ·intro n;kernel_rfl
  ·rfl
 ·cases h
def q7v(l:LC):OO:=shut (qjs (fun y1 y2 y3 y4 y5 y6 y7 y8 y9 y10 y11 y12 y13 y14 y15 y16=>some (.pan (.iface 9 (.str y1)) [])) (fun y17 y18=>cond (q2a y18) (let r19:=qcg;shut (qht (fun y20 y21=>zR [zvg y21] []) FUEL) 0 y17 (y17.length:Int) 0 r19) none) FUEL) l 0 l (l.length:Int) 0
def qm7(again:LI->Int->Int->Int->OO)(k0:Int->OO)(k1:OO)(v1:LI)(v2 v3 v4:Int):OO:=cD (v4<v3) (getK v1 v4 fun e1=>cD (v2=e1) (k0 v4) (let x2:=i64.wrap (v4+1);again v1 v2 v3 x2)) (k1)
def ql5(k0:Int->OO)(k1:OO):Nat->LI->Int->Int->Int->OO:=qe8 (fun a=>qm7 a k0 k1) (fun _ _ _ _=>none)
def qsk:St->KT->OO:=fun σ k=>match σ with|⟨[(q1,.cl (.sli .i64 v1)),(q2,.cl (.int .i64 v2)),(q3,.cl (.int .i64 v3)),(q4,.cl (.int .i64 v4))],[]⟩=>cond (eqL [q1,q2,q3,q4] [0,1,7,8]) (shut (ql5 (fun y1=>k .ret ⟨[(4,zvi y1)],[]⟩) (k (.exit 0) ⟨[],[]⟩) FUEL) v1 v2 v3 v4) none|_=>none
def xbcu:Env:= {mkE q36 qa9 19 with live:=lk [] [(2,[0,1,7,8])],lp:=lk none [(2,some qsk)],xl:=lk none [(0,some [4]),(1,some [])]}
def q04:LpT Tryz.prog (xbcu) Tryz.f80 0 2 qsk:=by
 intro σ k r h;unfold qsk at h;split at h
 ·obtain⟨hc,j⟩:=qaa h;cases qbi hc;rw[qab] at j;apply it4 j
  ·intro n;kernel_rfl
  ·rfl
 ·cases h
def xbft(l:LI)(d:Int):OO:=shut (ql5 (fun y1=>zI y1) (zI (-1)) FUEL) l d (l.length:Int) 0
def xb5j:Env:= {mkE xbq3 qa9 9 with xl:=lk none [(0,some [4])]}
def xby4(l:LI)(d:Int):OO:=cond (qgc l) (let r1:=idxI l d;zB (decide ((0:Int)<=r1))) none
def xblj(again:LI->LI->Int->Int->OO)(k0:OO)(k1:OO)(v1 v2:LI)(v3 v4:Int):OO:=cD (v4<v3) (getK v1 v4 fun e1=>getK v2 v4 fun e2=>cond (!decide (e1=e2)) (k0) (let x3:=i64.wrap (v4+1);again v1 v2 v3 x3)) (k1)
def q5y(k0:OO)(k1:OO):Nat->LI->LI->Int->Int->OO:=qe8 (fun a=>xblj a k0 k1) (fun _ _ _ _=>none)
def xbdi:St->KT->OO:=fun σ k=>match σ with|⟨[(q1,.cl (.sli .i64 v1)),(q2,.cl (.sli .i64 v2)),(q3,.cl (.int .i64 v3)),(q4,.cl (.int .i64 v4))],[]⟩=>cond (eqL [q1,q2,q3,q4] [0,1,12,13]) (shut (q5y (k .ret ⟨[(4,zvb false)],[]⟩) (k (.exit 0) ⟨[],[]⟩) FUEL) v1 v2 v3 v4) none|_=>none
def xb8y:Env:= {mkE xb47 qa9 26 with live:=lk [] [(4,[0,1,12,13])],lp:=lk none [(4,some xbdi)],xl:=lk none [(0,some [4]),(1,some [])]}
def xbdj:LpT Tryz.prog (xb8y) Tryz.f42 0 4 xbdi:=by
 intro σ k r h;unfold xbdi at h;split at h
 ·obtain⟨hc,j⟩:=qaa h;cases qbi hc;rw[qab] at j;apply it4 j
  ·intro n;kernel_rfl
  ·rfl
 ·cases h
def xb89(a:LI)(b:LI):OO:=cond (!decide ((a.length:Int)=(b.length:Int))) (zB false) (shut (q5y (zB false) (zB true) FUEL) a b (a.length:Int) 0)
def xbbg(again:LI->LI->Int->OO)(k0:OO)(k1:OO)(v1 v2:LI)(v3:Int):OO:=cD (v3<(v1.length:Int)) (getK v1 v3 fun e1=>getK v2 v3 fun e2=>cond (!decide (e1=e2)) (k0) (let x3:=i64.wrap (v3+1);again v1 v2 x3)) (k1)
def qtu(k0:OO)(k1:OO):Nat->LI->LI->Int->OO:=qe8 (fun a=>xbbg a k0 k1) (fun _ _ _=>none)
def qx5:St->KT->OO:=fun σ k=>match σ with|⟨[(q1,.cl (.sli .i64 v1)),(q2,.cl (.sli .i64 v2)),(q3,.cl (.int .i64 v3))],[]⟩=>cond (eqL [q1,q2,q3] [0,1,5]) (shut (qtu (k .ret ⟨[(4,zvb false)],[]⟩) (k (.exit 0) ⟨[],[]⟩) FUEL) v1 v2 v3) none|_=>none
def xbnv:Env:= {mkE xbcm qa9 26 with live:=lk [] [(4,[0,1,5])],lp:=lk none [(4,some qx5)],xl:=lk none [(0,some [4]),(1,some [])]}
def q40:LpT Tryz.prog (xbnv) Tryz.f32 0 4 qx5:=by
 intro σ k r h;unfold qx5 at h;split at h
 ·obtain⟨hc,j⟩:=qaa h;cases qbi hc;rw[qab] at j;apply it3 j
  ·intro n;kernel_rfl
  ·rfl
 ·cases h
def xbor(a:LI)(b:LI):OO:=cond (!decide ((a.length:Int)=(b.length:Int))) (zB false) (shut (qtu (zB false) (zB true) FUEL) a b 0)
def q2g(again:Nat->LC->Int->Int->LI->OO)(k0:Nat->LI->OO)(v1:Nat)(v2:LC)(v3 v4:Int)(v5:LI):OO:=cD (v4<v3) (getK v2 v4 fun e2=>let e3:=(cell1 e2).headD .nili;let e4:=(cell1 e2).tail.headD .nili;let e5:=(cell1 e2).tail.tail.headD .nili;cond (qhz .i64 e3&&(qej 1 e4&&(qf6 .u8 e5&&true))) (let i6:=qf9 e3;cond (qgc v5) (let r9:=hasI v5 i6;cond (!r9) (let l10:=v5++[i6];rmK l10.length 8<| let x11:=i64.wrap (v4+1);again l10.length v2 v3 x11 l10) (let x12:=i64.wrap (v4+1);again v1 v2 v3 x12 v5)) none) none) (k0 v1 v5)
def qfp(k0:Nat->LI->OO):Nat->Nat->LC->Int->Int->LI->OO:=qe8 (fun a=>q2g a k0) (fun _ _ _ _ _=>none)
def qo0:St->KT->OO:=fun σ k=>match σ with|⟨[(q1,.ref q2 q3 v1 true q4),(q5,.cl (.slg q6 v2)),(q7,.cl (.int .i64 v3)),(q8,.cl (.int .i64 v4))],[(q9,⟨.ints .i64 v5,false⟩)]⟩=>cond (eqL [q1,q2,q3,q4,q5,q6,q7,q8,q9] [3,67,0,1,7,3,8,9,67]) (shut (qfp (fun y1 y2=>k (.exit 0) ⟨[(3,.ref 67 0 y1 true 1)],[(67,⟨.ints .i64 y2,false⟩)]⟩) FUEL) v1 v2 v3 v4 v5) none|_=>none
def EEDigests:Env:= {mkE BEDigests qa9 25 with live:=lk [] [(3,[3,7,8,9])],ren:=lk [] [(3,[(86,67)])],lp:=lk none [(3,some qo0)],xl:=lk none [(0,some [2]),(1,some [3])]}
def qxn:LpT Tryz.prog (EEDigests) Tryz.f21 0 3 qo0:=by
 intro σ k r h;unfold qo0 at h;split at h
 ·obtain⟨hc,j⟩:=qaa h;cases qbi hc;rw[qab] at j;apply it5 j
  ·intro n;kernel_rfl
  ·rfl
 ·cases h
def q7n(l:LC):OO:=cond (qcb l) (let r1:=xbw6 l;shut (qfp (fun y2 y3=>zR [.cl (.sli .i64 y3)] []) FUEL) 0 r1 (r1.length:Int) 0 []) none
def qy9(again:LC->Nat->Int->Int->Bool->Int->LI->OO)(k0:LC->Nat->Int->Int->Bool->LI->OO)(v1:LC)(v2:Nat)(v3 v4:Int)(v5:Bool)(v6:Int)(v7:LI):OO:=cD (v6<(v2:Int)) (cond (v5) (let x4:=i64.wrap (v6+1);again v1 v2 v3 v4 true x4 v7) (idxK v6 v2 fun _=>Option.bind (v7[(0+v6.toNat)]?) fun(e5:Int)=>getK v1 v3 fun e6=>let e7:=(cell1 e6).getD 0 .nili;cond (qej 3 e7) (let l8:=qbl e7;getK l8 v4 fun e9=>let e10:=(cell1 e9).getD 0 .nili;cond (qhz .i64 e10) (let i11:=qf9 e10;let x12:=i64.wrap (v6+1);again v1 v2 v3 v4 (decide (e5=i11)) x12 v7) none) none)) (k0 v1 v2 v3 v4 v5 v7)
def qev(k0:LC->Nat->Int->Int->Bool->LI->OO):Nat->LC->Nat->Int->Int->Bool->Int->LI->OO:=qe8 (fun a=>qy9 a k0) (fun _ _ _ _ _ _ _=>none)
def qf4(again:LC->Nat->Int->Int->LI->OO)(k0:LC->Nat->Int->LI->OO)(v1:LC)(v2:Nat)(v3 v4:Int)(v5:LI):OO:=getK v1 v3 fun e1=>let e2:=(cell1 e1).getD 0 .nili;cond (qej 3 e2) (let l3:=qbl e2;cD (v4<(l3.length:Int)) (shut (qev (fun y4 y5 y6 y7 y8 y9=>cond (!y8) (getK y4 y6 fun e10=>let e11:=(cell1 e10).getD 0 .nili;cond (qej 3 e11) (let l12:=qbl e11;getK l12 y7 fun e13=>let e14:=(cell1 e13).getD 0 .nili;cond (qhz .i64 e14) (let i15:=qf9 e14;let l16:=y9++[i15];rmK l16.length 8<| let x17:=i64.wrap (y7+1);again y4 l16.length y6 x17 l16) none) none) (let x18:=i64.wrap (y7+1);again y4 y5 y6 x18 y9)) FUEL) v1 v2 v3 v4 false 0 v5) (k0 v1 v2 v3 v5)) none
def qdv(k0:LC->Nat->Int->LI->OO):Nat->LC->Nat->Int->Int->LI->OO:=qe8 (fun a=>qf4 a k0) (fun _ _ _ _ _=>none)
def qk4(again:LC->Nat->Int->LI->OO)(k0:Nat->LI->OO)(v1:LC)(v2:Nat)(v3:Int)(v4:LI):OO:=cD (v3<(v1.length:Int)) (shut (qdv (fun y1 y2 y3 y4=>let x5:=i64.wrap (y3+1);again y1 y2 x5 y4) FUEL) v1 v2 v3 0 v4) (k0 v2 v4)
def qfr(k0:Nat->LI->OO):Nat->LC->Nat->Int->LI->OO:=qe8 (fun a=>qk4 a k0) (fun _ _ _ _=>none)
def qmw:St->KT->OO:=fun σ k=>match σ with|⟨[(q1,.cl (.slg q2 v1)),(q3,.ref q4 q5 v2 true q6),(q7,.cl (.int .i64 v3)),(q8,.cl (.int .i64 v4)),(q9,.cl (.bool v5)),(q10,.cl (.int .i64 v6))],[(q11,⟨.ints .i64 v7,false⟩)]⟩=>cond (eqL [q1,q2,q3,q4,q5,q6,q7,q8,q9,q10,q11] [0,1,3,67,0,1,4,5,6,7,67]) (shut (qev (fun y1 y2 y3 y4 y5 y6=>k (.exit 4) ⟨[(0,.cl (.slg 1 y1)),(3,.ref 67 0 y2 true 1),(4,zvi y3),(5,zvi y4),(6,zvb y5)],[(67,⟨.ints .i64 y6,false⟩)]⟩) FUEL) v1 v2 v3 v4 v5 v6 v7) none|_=>none
def qo5:St->KT->OO:=fun σ k=>match σ with|⟨[(q1,.cl (.slg q2 v1)),(q3,.ref q4 q5 v2 true q6),(q7,.cl (.int .i64 v3)),(q8,.cl (.int .i64 v4))],[(q9,⟨.ints .i64 v5,false⟩)]⟩=>cond (eqL [q1,q2,q3,q4,q5,q6,q7,q8,q9] [0,1,3,67,0,1,4,5,67]) (shut (qdv (fun y1 y2 y3 y4=>k (.exit 2) ⟨[(0,.cl (.slg 1 y1)),(3,.ref 67 0 y2 true 1),(4,zvi y3)],[(67,⟨.ints .i64 y4,false⟩)]⟩) FUEL) v1 v2 v3 v4 v5) none|_=>none
def qo4:St->KT->OO:=fun σ k=>match σ with|⟨[(q1,.cl (.slg q2 v1)),(q3,.ref q4 q5 v2 true q6),(q7,.cl (.int .i64 v3))],[(q8,⟨.ints .i64 v4,false⟩)]⟩=>cond (eqL [q1,q2,q3,q4,q5,q6,q7,q8] [0,1,3,67,0,1,4,67]) (shut (qfr (fun y1 y2=>k (.exit 0) ⟨[(3,.ref 67 0 y1 true 1)],[(67,⟨.ints .i64 y2,false⟩)]⟩) FUEL) v1 v2 v3 v4) none|_=>none
def ERDigests:Env:= {mkE BRDigests qa9 59 with live:=lk [] [(3,[0,3,4]),(6,[0,3,4,5]),(10,[0,3,4,5,6,7])],ren:=lk [] [(6,[(121,67)])],lp:=lk none [(3,some qo4),(6,some qo5),(10,some qmw)],xl:=lk none [(0,some [2]),(1,some [3]),(3,some [0,3,4]),(5,some [0,3,4,5,6])]}
def qu7:LpT Tryz.prog (ERDigests) Tryz.f17 0 10 qmw:=by
 intro σ k r h;unfold qmw at h;split at h
 ·obtain⟨hc,j⟩:=qaa h;cases qbi hc;rw[qab] at j;apply it7 j
  ·intro n;kernel_rfl
  ·rfl
 ·cases h
def qxy:LpT Tryz.prog (ERDigests) Tryz.f17 1 6 qo5:=by
 intro σ k r h;unfold qo5 at h;split at h
 ·obtain⟨hc,j⟩:=qaa h;cases qbi hc;rw[qab] at j;apply it5 j
  ·intro n;kernel_rfl
  ·rfl
 ·cases h
def qxx:LpT Tryz.prog (ERDigests) Tryz.f17 2 3 qo4:=by
 intro σ k r h;unfold qo4 at h;split at h
 ·obtain⟨hc,j⟩:=qaa h;cases qbi hc;rw[qab] at j;apply it4 j
  ·intro n;kernel_rfl
  ·rfl
 ·cases h
def q7s(l:LC):OO:=shut (qfr (fun y1 y2=>zR [.cl (.sli .i64 y2)] []) FUEL) l 0 0 []
def xb49:Env:= {mkE xbqt qa9 14 with xl:=lk none [(0,some [2,3])]}
def xbyk(g:Int):OO:=cond (qdu []) (let r1:=(qbs g []).1;let r2:=qa6;let r3:=(qbs g []).2.1;let r4:=(qbs g []).2.2;zR [.cl (.agg [.int .i64 r1,.sli .u8 r2,.slg 3 r3]),zvb (decide (r4=0))] []) none
def qy4(again:Nat->LI->Int->Int->LC->OO)(k0:OO)(k1:Nat->LC->OO)(v1:Nat)(v2:LI)(v3 v4:Int)(v5:LC):OO:=cD (v4<v3) (getK v2 v4 fun e1=>let r2:=(qbs e1 qa6).1;let r3:=qa6;let r4:=(qbs e1 qa6).2.1;let r5:=decide ((qbs e1 qa6).2.2=0);cond (!r5) (k0) (let l6:=v5++([.agg [.int .i64 r2,.sli .u8 r3,.slg 3 r4]]);rmK l6.length 56<| let x7:=i64.wrap (v4+1);again l6.length v2 v3 x7 l6)) (k1 v1 v5)
def xbgv(k0:OO)(k1:Nat->LC->OO):Nat->Nat->LI->Int->Int->LC->OO:=qe8 (fun a=>qy4 a k0 k1) (fun _ _ _ _ _=>none)
def xbc6:St->KT->OO:=fun σ k=>match σ with|⟨[(q1,.cl (.fn (.func q2) [] [])),(q3,.ref q4 q5 v1 true q6),(q7,.cl (.sli .i64 v2)),(q8,.cl (.int .i64 v3)),(q9,.cl (.int .i64 v4))],[(q10,⟨.gen q11 v5,false⟩)]⟩=>cond (eqL [q1,q2,q3,q4,q5,q6,q7,q8,q9,q10,q11] [3,68,10,91,0,3,28,29,30,91,3]) (shut (xbgv (k .ret ⟨[(8,.ref 72 0 0 true 3),(9,zvb false)],[(72,⟨.gen 3 [],false⟩)]⟩) (fun y1 y2=>k (.exit 0) ⟨[(10,.ref 91 0 y1 true 3)],[(91,⟨.gen 3 y2,false⟩)]⟩) FUEL) v1 v2 v3 v4 v5) none|_=>none
def EEAlg:Env:= {mkE BEAlg qa9 48 with live:=lk [] [(5,[3,10,28,29,30])],ren:=lk [] [(5,[(109,91)])],lp:=lk none [(5,some xbc6)],xl:=lk none [(0,some [8,9]),(1,some [10])]}
def xbc7:LpT Tryz.prog (EEAlg) Tryz.f115 0 5 xbc6:=by
 intro σ k r h;unfold xbc6 at h;split at h
 ·obtain⟨hc,j⟩:=qaa h;cases qbi hc;rw[qab] at j;apply it5 j
  ·intro n;kernel_rfl
  ·rfl
 ·cases h
def xb9z(l:LI)(lo:Int)(hi:Int):OO:=cD ((l.length:Int)<lo) (zR [.cl (.slg 3 []),zvb false] []) (cD (hi<(l.length:Int)) (zR [.cl (.slg 3 []),zvb false] []) (cD ((0:Int)<=(l.length:Int)) (cD ((l.length:Int)*56<=LIM) (cD ((l.length:Int)<=LIM) (shut (xbgv (zR [.cl (.slg 3 []),zvb false] []) (fun y1 y2=>zR [zvg y2,zvb true] []) FUEL) 0 l (l.length:Int) 0 []) none) none) none))
def xb5f:Env:= {mkE xbqz qa9 23 with xl:=lk none [(0,some [8,9])]}
def xb54(l:LI)(lo:Int)(hi:Int):OO:=cond (qvk l) (let r1:=xbny lo hi l;let r2:=xbry lo hi l;cond (qbw r1) (let r3:=qa6;zR [.cl (.agg [.int .i64 48,.sli .u8 r3,.slg 3 r1]),zvb r2] []) none) none
def EERec:Env:= {mkE BERec qa9 44 with xl:=lk none [(0,some [2,3])]}
def xb85(g:LI)(c:LC):OO:=cond (qcb c) (let r1:=qa6;let r2:=qs0 1 10 c;let r3:=qnm 1 10 c;cond (!r3) (zR [.cl (.agg [.int .i64 0,.sli .u8 [],.slg 3 []]),zvb false] []) (cond (qcb c) (let r4:=q1t c;cond (qgc g) (let r5:=xbna g r4;cond (!r5) (zR [.cl (.agg [.int .i64 0,.sli .u8 [],.slg 3 []]),zvb false] []) (cond (qvk g) (let r6:=qa6;let r7:=xbny 0 (g.length:Int) g;cond (q6m 1) (let r9:=vInt 1;let r10:=qcg;cond (qbw ([.agg [.int .i64 2,.sli .u8 r9,.slg 3 r10],.agg [.int .i64 48,.sli .u8 r6,.slg 3 r7],.agg [.int .i64 48,.sli .u8 r1,.slg 3 r2]])) (let r11:=qa6;cond (isS ([.int .i64 48,.sli .u8 r11,.slg 3 ([.agg [.int .i64 2,.sli .u8 r9,.slg 3 r10],.agg [.int .i64 48,.sli .u8 r6,.slg 3 r7],.agg [.int .i64 48,.sli .u8 r1,.slg 3 r2]])])) (let r12:=qrr ([.int .i64 48,.sli .u8 r11,.slg 3 ([.agg [.int .i64 2,.sli .u8 r9,.slg 3 r10],.agg [.int .i64 48,.sli .u8 r6,.slg 3 r7],.agg [.int .i64 48,.sli .u8 r1,.slg 3 r2]])]);zR [.cl (.agg [.int .i64 48,.sli .u8 r11,.slg 3 ([.agg [.int .i64 2,.sli .u8 r9,.slg 3 r10],.agg [.int .i64 48,.sli .u8 r6,.slg 3 r7],.agg [.int .i64 48,.sli .u8 r1,.slg 3 r2]])]),zvb r12] []) none) none) none) none)) none) none)) none
def EERFit:Env:= {mkE BERFit qa9 11 with xl:=lk none [(0,some [2])]}
def xb5u(g:LI)(c:LC):OO:=cond (qgc g&&recO c) (let r4:=evOk g c;zB r4) none
def EERBytes:Env:= {mkE BERBytes qa9 17 with xl:=lk none [(0,some [2,3])]}
def xbs3(g:LI)(c:LC):OO:=cond (qgc g&&recO c) (let r1:=(qfy g c).1;let r2:=qa6;let r3:=(qfy g c).2;let r4:=evOk g c;cond (!r4) (zR [.cl (.sli .u8 []),zvi 1] []) (cond (isS [.int .i64 r1,.sli .u8 r2,.slg 3 r3]) (let r5:=(qbb [.int .i64 r1,.sli .u8 r2,.slg 3 r3]).1;let r6:=(qbb [.int .i64 r1,.sli .u8 r2,.slg 3 r3]).2;zR [zvl r5,zvi r6] []) none)) none
def qn6(again:Nat->Int->LI->LC->Int->LI->LC->LC->OO)(k0:Nat->Int->LI->LC->LC->OO)(v1:Nat)(v2:Int)(v3:LI)(v4:LC)(v5:Int)(v6:LI)(v7 v8:LC):OO:=cD (v2<(v3.length:Int)) (getK v3 v2 fun e7=>cond (qdu []) (let r8:=(qbs e7 []).1;let r9:=qa6;let r10:=(qbs e7 []).2.1;let l12:=v8++([.agg [.int .i64 r8,.sli .u8 r9,.slg 3 r10]]);rmK l12.length 56<| let x13:=i64.wrap (v2+1);again l12.length x13 v3 v4 v5 v6 v7 l12) none) (k0 v1 v5 v6 v7 v8)
def qm6(k0:Nat->Int->LI->LC->LC->OO):Nat->Nat->Int->LI->LC->Int->LI->LC->LC->OO:=qe8 (fun a=>qn6 a k0) (fun _ _ _ _ _ _ _ _=>none)
def xbdg:St->KT->OO:=fun σ k=>match σ with|⟨[(q1,.ptr q2 q3 q4),(q5,.ptr q6 q7 q8),(q9,.ptr q10 q11 q12),(q13,.ref q14 q15 v1 true q16),(q17,.cl (.int .i64 v2))],[(q18,⟨.var [.cl (.sli .i64 v3),.cl (.slg q19 v4)],false⟩),(q20,⟨.var [.cl (.int .i64 q21),.nils,.nils],false⟩),(q22,⟨.var [.cl (.int .i64 v5),.cl (.sli .u8 v6),.cl (.slg q23 v7)],false⟩),(q24,⟨.gen q25 v8,false⟩)]⟩=>cond (eqL [q1,q2,q3,q4,q5,q6,q7,q8,q9,q10,q11,q12,q13,q14,q15,q16,q17,q18,q19,q20,q22,q23,q24,q25] [1,65,0,0,2,66,0,0,4,68,0,0,6,70,0,3,7,65,1,66,68,3,70,3]&&decide (q21=0)) (shut (qm6 (fun y1 y2 y3 y4 y5=>k (.exit 0) ⟨[(2,.ptr 66 0 0),(4,.ptr 68 0 0),(6,.ref 70 0 y1 true 3)],[(66,⟨.var [zvi 0,.nils,.nils],false⟩),(68,⟨.var [zvi y2,zvl y3,zvg y4],false⟩),(70,⟨.gen 3 y5,false⟩)]⟩) FUEL) v1 v2 v3 v4 v5 v6 v7 v8) none|_=>none
def ERRec:Env:= {mkE BRRec qa9 58 with live:=lk [] [(6,[1,2,4,6,7])],ren:=lk [] [(6,[(112,70)])],lp:=lk none [(6,some xbdg)],xl:=lk none [(0,some [2,3]),(1,some [2,4,6])]}
def xbdh:LpT Tryz.prog (ERRec) Tryz.f34 0 6 xbdg:=by
 intro σ k r h;unfold xbdg at h;split at h
 ·obtain⟨hc,j⟩:=qaa h;simp only[zab,qen,yd,zal] at hc;obtain⟨hc,rfl⟩:=hc;cases qbi hc;rw[qab] at j;apply it8 j
  ·intro n;kernel_rfl
  ·rfl
 ·cases h
def xb87(g:LI)(c:LC):OO:=cond (qcb c) (let r1:=(qol c).1;let r2:=qa6;let r3:=(qol c).2;let r4:=qnm 1 10 c;cond (!r4) (zR [.cl (.agg [.int .i64 0,.sli .u8 [],.slg 3 []]),zvb false] []) (cond (qcb c) (let r5:=q1t c;cond (qgc g) (let r6:=xbna g r5;cond (!r6) (zR [.cl (.agg [.int .i64 0,.sli .u8 [],.slg 3 []]),zvb false] []) (shut (qm6 (fun y7 y8 y9 y10 y11=>cond (q6m 1) (let r12:=vInt 1;let r13:=qcg;cond (qbw y11) (let r14:=qa6;cond (qbw ([.agg [.int .i64 2,.sli .u8 r12,.slg 3 r13],.agg [.int .i64 48,.sli .u8 r14,.slg 3 y11],.agg [.int .i64 y8,.sli .u8 y9,.slg 3 y10]])) (let r15:=qa6;cond (isS ([.int .i64 48,.sli .u8 r15,.slg 3 ([.agg [.int .i64 2,.sli .u8 r12,.slg 3 r13],.agg [.int .i64 48,.sli .u8 r14,.slg 3 y11],.agg [.int .i64 y8,.sli .u8 y9,.slg 3 y10]])])) (let r16:=qrr ([.int .i64 48,.sli .u8 r15,.slg 3 ([.agg [.int .i64 2,.sli .u8 r12,.slg 3 r13],.agg [.int .i64 48,.sli .u8 r14,.slg 3 y11],.agg [.int .i64 y8,.sli .u8 y9,.slg 3 y10]])]);zR [.cl (.agg [.int .i64 48,.sli .u8 r15,.slg 3 ([.agg [.int .i64 2,.sli .u8 r12,.slg 3 r13],.agg [.int .i64 48,.sli .u8 r14,.slg 3 y11],.agg [.int .i64 y8,.sli .u8 y9,.slg 3 y10]])]),zvb r16] []) none) none) none) none) FUEL) 0 0 g c r1 r2 r3 [])) none) none)) none
def ERRFit:Env:= {mkE BRRFit qa9 11 with xl:=lk none [(0,some [2])]}
def xb53(g:LI)(c:LC):OO:=cond (qgc g&&recO c) (let r4:=evOk g c;zB r4) none
def xbxd:Env:= {mkE xbck qa9 14 with xl:=lk none [(0,some [2,3])]}
def xbyj(t:Int)(b:LI)(k:LC):OO:=cond (isS [.int .i64 t,.sli .u8 b,.slg 3 k]) (let r1:=(qa2 t b k).1;let r2:=(qa2 t b k).2;zR [zvl r1,zvb (decide (r2=0))] []) none
def qtr(again:Nat->LC->Int->Int->LC->OO)(k0:OO)(k1:Nat->LC->OO)(v1:Nat)(v2:LC)(v3 v4:Int)(v5:LC):OO:=cD (v4<v3) (getK v2 v4 fun e1=>let e2:=(cell1 e1).headD .nili;let e3:=(cell1 e1).tail.headD .nili;let e4:=(cell1 e1).tail.tail.headD .nili;cond (qhz .i64 e2&&(qf6 .u8 e3&&(qej 3 e4&&true))) (let i5:=qf9 e2;let l6:=qb8 e3;let l7:=qbl e4;cond (isS [.int .i64 i5,.sli .u8 l6,.slg 3 l7]) (let r8:=(qa2 i5 l6 l7).1;let r9:=decide ((qa2 i5 l6 l7).2=0);cond (!r9) (k0) (let l10:=v5++[.sli .u8 r8];rmK l10.length 24<| let x11:=i64.wrap (v4+1);again l10.length v2 v3 x11 l10)) none) none) (k1 v1 v5)
def q8e(k0:OO)(k1:Nat->LC->OO):Nat->Nat->LC->Int->Int->LC->OO:=qe8 (fun a=>qtr a k0 k1) (fun _ _ _ _ _=>none)
def q4k:St->KT->OO:=fun σ k=>match σ with|⟨[(q1,.cl (.fn (.func q2) [] [])),(q3,.ref q4 q5 v1 true q6),(q7,.cl (.slg q8 v2)),(q9,.cl (.int .i64 v3)),(q10,.cl (.int .i64 v4))],[(q11,⟨.gen q12 v5,false⟩)]⟩=>cond (eqL [q1,q2,q3,q4,q5,q6,q7,q8,q9,q10,q11,q12] [3,143,10,91,0,1,28,3,29,30,91,1]) (shut (q8e (k .ret ⟨[(8,.ref 72 0 0 true 1),(9,zvb false)],[(72,⟨.gen 1 [],false⟩)]⟩) (fun y1 y2=>k (.exit 0) ⟨[(10,.ref 91 0 y1 true 1)],[(91,⟨.gen 1 y2,false⟩)]⟩) FUEL) v1 v2 v3 v4 v5) none|_=>none
def xbxh:Env:= {mkE xbqq qa9 48 with live:=lk [] [(5,[3,10,28,29,30])],ren:=lk [] [(5,[(109,91)])],lp:=lk none [(5,some q4k)],xl:=lk none [(0,some [8,9]),(1,some [10])]}
def q92:LpT Tryz.prog (xbxh) Tryz.f178 0 5 q4k:=by
 intro σ k r h;unfold q4k at h;split at h
 ·obtain⟨hc,j⟩:=qaa h;cases qbi hc;rw[qab] at j;apply it5 j
  ·intro n;kernel_rfl
  ·rfl
 ·cases h
def xb5x(l:LC)(lo:Int)(hi:Int):OO:=cD ((l.length:Int)<lo) (zR [.cl (.slg 1 []),zvb false] []) (cD (hi<(l.length:Int)) (zR [.cl (.slg 1 []),zvb false] []) (cD ((0:Int)<=(l.length:Int)) (cD ((l.length:Int)*24<=LIM) (cD ((l.length:Int)<=LIM) (shut (q8e (zR [.cl (.slg 1 []),zvb false] []) (fun y1 y2=>zR [.cl (.slg 1 y2),zvb true] []) FUEL) 0 l (l.length:Int) 0 []) none) none) none))
def xb5c:Env:= {mkE xbqw qa9 25 with xl:=lk none [(0,some [6,7])]}
def xbyo(t:Int)(b:LI)(k:LC)(g:Int):OO:=cond (qbw k) (let r1:=(qb0 g t b k).1;let r2:=(qb0 g t b k).2;cond (!decide (r2=0)) (zR [.cl (.slg 1 []),zvb false] []) (cond (qhh r1) (let r3:=q1l 0 (r1.length:Int) r1;let r4:=q1j 0 (r1.length:Int) r1;zR [.cl (.slg 1 r3),zvb r4] []) none)) none
def xbra:Env:= {mkE q3z qa9 8 with xl:=lk none [(0,some [2,3])]}
def xbs2(t:Int)(b:LI)(k:LC):OO:=cond (isS [.int .i64 t,.sli .u8 b,.slg 3 k]) (let r1:=ldL 48 t b k;let r2:=ldB 48 t b k;zR [.cl (.slg 1 r1),zvb r2] []) none
def qtt(again:Nat->LC->Int->Int->LC->OO)(k0:OO)(k1:Nat->LC->OO)(v1:Nat)(v2:LC)(v3 v4:Int)(v5:LC):OO:=cD (v4<v3) (getK v2 v4 fun e1=>let e2:=(cell1 e1).headD .nili;let e3:=(cell1 e1).tail.headD .nili;let e4:=(cell1 e1).tail.tail.headD .nili;cond (qhz .i64 e2&&(qf6 .u8 e3&&(qej 3 e4&&true))) (let i5:=qf9 e2;let l6:=qb8 e3;let l7:=qbl e4;cond (isS [.int .i64 i5,.sli .u8 l6,.slg 3 l7]) (let r8:=ldL 48 i5 l6 l7;let r9:=ldB 48 i5 l6 l7;cond (!r9) (k0) (let l10:=v5++[.slg 1 r8];rmK l10.length 24<| let x11:=i64.wrap (v4+1);again l10.length v2 v3 x11 l10)) none) none) (k1 v1 v5)
def q8g(k0:OO)(k1:Nat->LC->OO):Nat->Nat->LC->Int->Int->LC->OO:=qe8 (fun a=>qtt a k0 k1) (fun _ _ _ _ _=>none)
def q4m:St->KT->OO:=fun σ k=>match σ with|⟨[(q1,.cl (.fn (.func q2) [] [])),(q3,.ref q4 q5 v1 true q6),(q7,.cl (.slg q8 v2)),(q9,.cl (.int .i64 v3)),(q10,.cl (.int .i64 v4))],[(q11,⟨.gen q12 v5,false⟩)]⟩=>cond (eqL [q1,q2,q3,q4,q5,q6,q7,q8,q9,q10,q11,q12] [3,99,10,91,0,1,28,3,29,30,91,1]) (shut (q8g (k .ret ⟨[(8,.ref 72 0 0 true 1),(9,zvb false)],[(72,⟨.gen 1 [],false⟩)]⟩) (fun y1 y2=>k (.exit 0) ⟨[(10,.ref 91 0 y1 true 1)],[(91,⟨.gen 1 y2,false⟩)]⟩) FUEL) v1 v2 v3 v4 v5) none|_=>none
def xbxj:Env:= {mkE xbqs qa9 48 with live:=lk [] [(5,[3,10,28,29,30])],ren:=lk [] [(5,[(109,91)])],lp:=lk none [(5,some q4m)],xl:=lk none [(0,some [8,9]),(1,some [10])]}
def q94:LpT Tryz.prog (xbxj) Tryz.f141 0 5 q4m:=by
 intro σ k r h;unfold q4m at h;split at h
 ·obtain⟨hc,j⟩:=qaa h;cases qbi hc;rw[qab] at j;apply it5 j
  ·intro n;kernel_rfl
  ·rfl
 ·cases h
def xb5z(l:LC)(lo:Int)(hi:Int):OO:=cD ((l.length:Int)<lo) (zR [.cl (.slg 1 []),zvb false] []) (cD (hi<(l.length:Int)) (zR [.cl (.slg 1 []),zvb false] []) (cD ((0:Int)<=(l.length:Int)) (cD ((l.length:Int)*24<=LIM) (cD ((l.length:Int)<=LIM) (shut (q8g (zR [.cl (.slg 1 []),zvb false] []) (fun y1 y2=>zR [.cl (.slg 1 y2),zvb true] []) FUEL) 0 l (l.length:Int) 0 []) none) none) none))
def xb5e:Env:= {mkE xbqy qa9 25 with xl:=lk none [(0,some [6,7])]}
def xbyq(t:Int)(b:LI)(k:LC)(g:Int):OO:=cond (qbw k) (let r1:=(qb0 g t b k).1;let r2:=(qb0 g t b k).2;cond (!decide (r2=0)) (zR [.cl (.slg 1 []),zvb false] []) (cond (qhh r1) (let r3:=qt9 0 (r1.length:Int) r1;let r4:=qt8 0 (r1.length:Int) r1;zR [.cl (.slg 1 r3),zvb r4] []) none)) none
def xbq8:Env:= {mkE q3x qa9 30 with xl:=lk none [(0,some [2,3])]}
def xbe5(t:Int)(b:LI)(k:LC):OO:=cond (qbw k) (let r1:=(qb0 160 t b k).1;let r2:=(qb0 160 t b k).2;cond (!decide (r2=0)) (zR [zvi 0,zvb false] []) (cond (!decide ((r1.length:Int)=1)) (zR [zvi 0,zvb false] []) (cD ((0:Int)<(r1.length:Int)) ((r1[0]?).bind fun(e3:CV)=>let e4:=(cell1 e3).headD .nili;let e5:=(cell1 e3).tail.headD .nili;let e6:=(cell1 e3).tail.tail.headD .nili;cond (qhz .i64 e4&&(qf6 .u8 e5&&(qej 3 e6&&true))) (let i7:=qf9 e4;let l8:=qb8 e5;let l9:=qbl e6;cond (isS [.int .i64 i7,.sli .u8 l8,.slg 3 l9]) (let r10:=(qgp i7 l8 l9).1;let r11:=(qgp i7 l8 l9).2;let r12:=qhf r10;zR [zvi r12,zvb (decide (r11=0))] []) none) none) none))) none
end
end Go.Proofs.YtoaakappnhemiaaGreatDoorA
