/-
 What the reading of apostille/apostilleref31.One comes to, printed by a program. Conditions: none.
-/
import Derived.Test.YtoiikagnjcjccaaGreatDoorT1
set_option linter.unusedVariables false
set_option linter.unusedSimpArgs false
set_option maxRecDepth 100000
namespace Go.Proofs.YtoiikagnjcjccaaGreatDoorA
noncomputable section
def qvp(again:LC->LI->Int->OO)(k0:OO)(k1:Int->LI->LC->OO)(k2:OO)(v1:LC)(v2:LI)(v3:Int):OO:=cond (decide (v3<(v1.length:Int))) (getK v1 v3 fun e2=>let e3:=(cell1 e2).getD 0 .nili;cond (qbl .u32 e3) (let l4:=qbb e3;cond (qkj l4) (let r5:=qa5 l4 v2;cond (r5) (getK v1 v3 fun e6=>let e7:=(cell1 e6).getD 1 .nili;cond (qcj 3 e7) (let l8:=qca e7;cond (decide ((1:Int)<(l8.length:Int))) (k0) (getK v1 v3 fun e9=>let e10:=(cell1 e9).getD 1 .nili;cond (qcj 3 e10) (let l11:=qca e10;cond (decide ((0:Int)<(l11.length:Int))) (Option.bind (l11[0]?) fun(e12:CV)=>let e13:=(cell1 e12).headD .nili;let e14:=(cell1 e12).tail.headD .nili;let e15:=(cell1 e12).tail.tail.headD .nili;cond (qfy .i64 e13&&(qbl .u8 e14&&(qcj 3 e15&&true))) (let i16:=qfi e13;let l17:=qbb e14;let l18:=qca e15;k1 i16 l17 l18) none) none) none)) none) (let x19:=IntKind.i64.wrap (v3+1);again v1 v2 x19)) none) none) (k2)
def qqv(k0:OO)(k1:Int->LI->LC->OO)(k2:OO):Nat->LC->LI->Int->OO:=qdl (fun a=>qvp a k0 k1 k2) (fun _ _ _=>none)
def q8m:St->(KT)->OO:=fun σ k=>match σ with|⟨[(q1,.cl (.slg q2 v1)),(q3,.cl (.sli .u32 v2)),(q4,.ptr q5 q6 q7),(q8,.cl (.int .i64 v3))],[(q9,⟨.var [.cl (.int .i64 q10),.nils,.nils],false⟩)]⟩=>cond (eqL [q1,q2,q3,q4,q5,q6,q7,q8,q9] [0,2,1,4,68,0,0,6,68]&&decide (q10=0)) (shut (qqv (k .ret ⟨[(4,.ptr 68 0 0),(5,zvi 24)],[(68,⟨.var [zvi 0,.nils,.nils],false⟩)]⟩) (fun y1 y2 y3=>k .ret ⟨[(4,.ptr 68 0 0),(5,zvi 0)],[(68,⟨.var [zvi y1,zvl y2,zvg y3],false⟩)]⟩) (k (.exit 0) ⟨[(4,.ptr 68 0 0)],[(68,⟨.var [zvi 0,.nils,.nils],false⟩)]⟩) FUEL) v1 v2 v3) none|_=>none
def EUOne:Env:= {mkE BUOne qa8 40 with live:=lk [] [(4,[0,1,4,6])],lp:=lk none [(4,some q8m)],xl:=lk none [(0,some [4,5]),(1,some [4])]}
theorem q8n:LpT Tryz.prog (EUOne) Tryz.f20 0 4 q8m:=by
 intro σ k r h;unfold q8m at h;split at h
 ·obtain⟨hc,j⟩:=qaa h;simp only[zab,qen,decide_eq_true_eq,zao] at hc;obtain⟨hc,rfl⟩:=hc;cases qa3 hc;rw[qab] at j;apply it3 j
  ·intro n;kernel_rfl
  ·rfl
 ·cases h
def xbza(l:LC)(o:LI):OO:=cond (qbh l) (let r1:=q0o l;cond (!r1) (zR [.cl (.agg [.int .i64 0,.sli .u8 [],.slg 3 []]),zvi 1] []) (shut (qqv (zR [.cl (.agg [.int .i64 0,.sli .u8 [],.slg 3 []]),zvi 24] []) (fun y2 y3 y4=>zR [.cl (.agg [.int .i64 y2,.sli .u8 y3,.slg 3 y4]),zvi 0] []) (zR [.cl (.agg [.int .i64 0,.sli .u8 [],.slg 3 []]),zvi 18] []) FUEL) l o 0)) none
def EUText:Env:= {mkE BUText qa8 18 with xl:=lk none [(0,some [2,3])]}
def xbv2(l:LC):OO:=cond (qbh l) (let r1:=(qbx l 49).1;let r2:=qbe;let r3:=(qbx l 49).2.1;let r4:=(qbx l 49).2.2;cond (!decide (r4=0)) (zR [.cl (.sli .u8 []),zvi r4] []) (cond (isS [.int .i64 r1,.sli .u8 r2,.slg 3 r3]) (let r5:=(qa0 [.int .i64 r1,.sli .u8 r2,.slg 3 r3]).1;let r6:=(qa0 [.int .i64 r1,.sli .u8 r2,.slg 3 r3]).2;zR [zvl r5,zvi r6] []) none)) none
def qno(again:LC->Int->Int->Int->OO)(k0:LC->Int->Int->OO)(v1:LC)(v2 v3 v4:Int):OO:=getK v1 v3 fun e8=>let e9:=(cell1 e8).getD 1 .nili;cond (qcj 3 e9) (let l10:=qca e9;cond (decide (v4<(l10.length:Int))) (cond (decide ((0:Int)<=v2)) (getK v1 v3 fun e11=>let e12:=(cell1 e11).getD 1 .nili;cond (qcj 3 e12) (let l13:=qca e12;getK l13 v4 fun e14=>let e15:=(cell1 e14).headD .nili;let e16:=(cell1 e14).tail.headD .nili;let e17:=(cell1 e14).tail.tail.headD .nili;cond (qfy .i64 e15&&(qbl .u8 e16&&(qcj 3 e17&&true))) (let i18:=qfi e15;let l19:=qbb e16;let l20:=qca e17;cond (isT [.int .i64 i18,.sli .u8 l19,.slg 3 l20]&&qot v2) (let r21:=qbz [.int .i64 i18,.sli .u8 l19,.slg 3 l20] v2;let x22:=IntKind.i64.wrap (v4+1);again v1 r21 v3 x22) none) none) none) (k0 v1 v2 v3)) (k0 v1 v2 v3)) none
def qgi(k0:LC->Int->Int->OO):Nat->LC->Int->Int->Int->OO:=qdl (fun a=>qno a k0) (fun _ _ _ _=>none)
def qnn(again:LC->Int->Int->OO)(k0:Int->OO)(v1:LC)(v2 v3:Int):OO:=cond (decide (v3<(v1.length:Int))) (cond (decide ((0:Int)<=v2)) (getK v1 v3 fun e3=>let e4:=(cell1 e3).getD 0 .nili;cond (qbl .u32 e4) (let l5:=qbb e4;let x6:=cond (decide ((1000:Int)<(l5.length:Int))) 1000 (l5.length:Int);let x7:=IntKind.i64.wrap (v2 - x6);shut (qgi (fun y8 y9 y10=>let x11:=IntKind.i64.wrap (y10+1);again y8 y9 x11) FUEL) v1 x7 v3 0) none) (k0 v2)) (k0 v2)
def qiy(k0:Int->OO):Nat->LC->Int->Int->OO:=qdl (fun a=>qnn a k0) (fun _ _ _=>none)
def qup:St->(KT)->OO:=fun σ k=>match σ with|⟨[(q1,.cl (.slg q2 v1)),(q3,.cl (.int .i64 v2)),(q4,.cl (.int .i64 v3)),(q5,.cl (.int .i64 v4))],[]⟩=>cond (eqL [q1,q2,q3,q4,q5] [0,2,1,5,6]) (shut (qgi (fun y1 y2 y3=>k (.exit 2) ⟨[(0,.cl (.slg 2 y1)),(1,zvi y2),(5,zvi y3)],[]⟩) FUEL) v1 v2 v3 v4) none|_=>none
def qun:St->(KT)->OO:=fun σ k=>match σ with|⟨[(q1,.cl (.slg q2 v1)),(q3,.cl (.int .i64 v2)),(q4,.cl (.int .i64 v3))],[]⟩=>cond (eqL [q1,q2,q3,q4] [0,2,1,5]) (shut (qiy (fun y1=>k (.exit 0) ⟨[(1,zvi y1)],[]⟩) FUEL) v1 v2 v3) none|_=>none
def EUSmall:Env:= {mkE BUSmall qa8 56 with live:=lk [] [(3,[0,1,5]),(7,[0,1,5,6])],lp:=lk none [(3,some qun),(7,some qup)],xl:=lk none [(0,some [4]),(1,some [1]),(3,some [0,1,5])]}
theorem q0e:LpT Tryz.prog (EUSmall) Tryz.f26 0 7 qup:=by
 intro σ k r h;unfold qup at h;split at h
 ·obtain⟨hc,j⟩:=qaa h;cases qa3 hc;rw[qab] at j;apply it4 j
  ·intro n;kernel_rfl
  ·rfl
 ·cases h
theorem q0d:LpT Tryz.prog (EUSmall) Tryz.f26 1 3 qun:=by
 intro σ k r h;unfold qun at h;split at h
 ·obtain⟨hc,j⟩:=qaa h;cases qa3 hc;rw[qab] at j;apply it3 j
  ·intro n;kernel_rfl
  ·rfl
 ·cases h
def xbim(l:LC)(n:Int):OO:=let x1:=cond (decide ((1000:Int)<(l.length:Int))) 1000 (l.length:Int);let x2:=IntKind.i64.wrap (n - x1);shut (qiy (fun y3=>zI y3) FUEL) l x2 0
def EWASmall:Env:= {mkE BWASmall qa8 11 with xl:=lk none [(0,some [2])]}
def xbaa(l:LC):OO:=cond (decide ((l.length:Int)<=25)) (cond (q6c l&&smOk l 1500) (let r1:=qsk l 1500;zB (decide ((0:Int)<=r1))) none) (zB false)
def EWAAwake:Env:= {mkE BWAAwake qa8 55 with xl:=lk none [(0,some [0])]}
def q98:OO:=cond (idOk [1,2]) (let r1:=(qcr 6 (qal [1,2])).1;let r2:=(qcr 6 (qal [1,2])).2.1;let r3:=qk3;cond (qbh ([.agg [.sli .u32 [1,3],.slg 3 ([.agg [.int .i64 r1,.sli .u8 r2,.slg 3 r3]])]])) (let r8:=(qhq ([.agg [.sli .u32 [1,3],.slg 3 ([.agg [.int .i64 r1,.sli .u8 r2,.slg 3 r3]])]]) [1,4]).2;cond (qbh ([.agg [.sli .u32 [1,3],.slg 3 ([.agg [.int .i64 r1,.sli .u8 r2,.slg 3 r3]])]])) (let r9:=(qhq ([.agg [.sli .u32 [1,3],.slg 3 ([.agg [.int .i64 r1,.sli .u8 r2,.slg 3 r3]])]]) [1,3]).1.1;let r10:=(qhq ([.agg [.sli .u32 [1,3],.slg 3 ([.agg [.int .i64 r1,.sli .u8 r2,.slg 3 r3]])]]) [1,3]).1.2.1;let r11:=(qhq ([.agg [.sli .u32 [1,3],.slg 3 ([.agg [.int .i64 r1,.sli .u8 r2,.slg 3 r3]])]]) [1,3]).1.2.2;let r12:=(qhq ([.agg [.sli .u32 [1,3],.slg 3 ([.agg [.int .i64 r1,.sli .u8 r2,.slg 3 r3]])]]) [1,3]).2;cond (qbh []) (let r13:=q0o [];cond (!r13) (cond (qbh ([.agg [.sli .u32 [1,3],.slg 3 ([.agg [.int .i64 r1,.sli .u8 r2,.slg 3 r3]])]])) (let r14:=q0o ([.agg [.sli .u32 [1,3],.slg 3 ([.agg [.int .i64 r1,.sli .u8 r2,.slg 3 r3]])]]);cond (r14) (cond (decide (r8=18)) (cond (decide (r12=0)) (cond (isN [.int .i64 r9,.sli .u8 r10,.slg 3 r11]&&isN [.int .i64 r1,.sli .u8 r2,.slg 3 r3]) (let r15:=qfw [.int .i64 r9,.sli .u8 r10,.slg 3 r11] [.int .i64 r1,.sli .u8 r2,.slg 3 r3];cond (r15) (cond (qkj [1,3]) (let r16:=qa5 [1,3] [1,4];zB (!r16)) none) (zB false)) none) (zB false)) (zB false)) (zB false)) none) (zB false)) none) none) none) none
def EWAReads:Env:= {
 orc:=fun g=>cond (Nat.beq g 6) ((kT KWASmall)) (cond (Nat.beq g 7) ((kT KWAAwake)) (cond (Nat.beq g 12) ((kT KUSame)) (cond (Nat.beq g 14) SRSmall (cond (Nat.beq g 15) ((kT KTNode)) (cond (Nat.beq g 16) ((kT KUNode)) (cond (Nat.beq g 17) ((kT KTRead)) (cond (Nat.beq g 18) ((kT KURead)) (cond (Nat.beq g 19) ((kT KTOne)) (cond (Nat.beq g 20) ((kT KUOne)) (cond (Nat.beq g 21) ((kT KTText)) (cond (Nat.beq g 22) ((kT KUText)) (cond (Nat.beq g 23) SRSame (cond (Nat.beq g 24) ((kT KR1Same)) (fun _ _=>Tree.fail))))))))))))))
 pre:=fun g=>cond (Nat.beq g 6) ((kP KWASmall)) (cond (Nat.beq g 7) ((kP KWAAwake)) (cond (Nat.beq g 12) ((kP KUSame)) (cond (Nat.beq g 14) qmh (cond (Nat.beq g 15) ((kP KTNode)) (cond (Nat.beq g 16) ((kP KUNode)) (cond (Nat.beq g 17) ((kP KTRead)) (cond (Nat.beq g 18) ((kP KURead)) (cond (Nat.beq g 19) ((kP KTOne)) (cond (Nat.beq g 20) ((kP KUOne)) (cond (Nat.beq g 21) ((kP KTText)) (cond (Nat.beq g 22) ((kP KUText)) (cond (Nat.beq g 23) qq9 (cond (Nat.beq g 24) ((kP KR1Same)) (fun _ _=>true))))))))))))))
 glob:=qa8
 nt:=126
 xl:=fun r=>cond (Nat.beq r 0) (some [8]) (none)
}
theorem q1b: ∀c,Tryz.f4.body=some c->qbj Tryz.prog (EWAReads) 40 c:=lsB (ids:=[]) (by kernel_rfl) trivial
def q99(l:LC)(t:Int)(b:LI)(k:LC)(g:Int)(o:LI):OO:=cond (q6c l) (let r1:=xbow l;cond (!r1) (let r2:=true;zB r2) (cond (isT [.int .i64 t,.sli .u8 b,.slg 3 k]&&qot 1500) (let r3:=qbz [.int .i64 t,.sli .u8 b,.slg 3 k] 1500;cond (decide (r3<0)) (let r4:=true;zB r4) (cond (decide ((50:Int)<(o.length:Int))) (let r5:=true;zB r5) (cond (qbh l) (let r6:=(qbx l g).1;let r7:=qbe;let r8:=(qbx l g).2.1;let r9:=(qbx l g).2.2;cond (qbh l) (let r10:=(qbx l g).1;let r11:=qbe;let r12:=(qbx l g).2.1;let r13:=(qbx l g).2.2;cond (ndSm t b k) (let r14:=(qhy g t b k).1;let r15:=(qhy g t b k).2;cond (ndSm t b k) (let r16:=(qhy g t b k).1;let r17:=(qhy g t b k).2;cond (qbh l) (let r18:=(qhq l o).1.1;let r19:=(qhq l o).1.2.1;let r20:=(qhq l o).1.2.2;let r21:=(qhq l o).2;cond (qbh l) (let r22:=(qhq l o).1.1;let r23:=(qhq l o).1.2.1;let r24:=(qhq l o).1.2.2;let r25:=(qhq l o).2;cond (qbh l) (let r26:=(qhz l).1;let r27:=(qhz l).2;cond (qbh l) (let r28:=(qhz l).1;let r29:=(qhz l).2;cond (isN [.int .i64 r6,.sli .u8 r7,.slg 3 r8]&&isN [.int .i64 r10,.sli .u8 r11,.slg 3 r12]) (let r30:=qfw [.int .i64 r6,.sli .u8 r7,.slg 3 r8] [.int .i64 r10,.sli .u8 r11,.slg 3 r12];cond (r30) (cond (decide (r9=r13)) (cond (qbh r14&&qbh r16) (let r31:=qhv r14 r16;cond (r31) (cond (decide (r15=r17)) (cond (isN [.int .i64 r18,.sli .u8 r19,.slg 3 r20]&&isN [.int .i64 r22,.sli .u8 r23,.slg 3 r24]) (let r32:=qfw [.int .i64 r18,.sli .u8 r19,.slg 3 r20] [.int .i64 r22,.sli .u8 r23,.slg 3 r24];cond (r32) (cond (decide (r21=r25)) (cond (qr9 r26) (let r33:=qa5 r26 r28;cond (r33) (cond (decide (r27=r29)) (let r34:=true;zB r34) (zB false)) (zB false)) none) (zB false)) (zB false)) none) (zB false)) (zB false)) none) (zB false)) (zB false)) none) none) none) none) none) none) none) none) none))) none)) none
theorem q6r(l:LC)(t:Int)(b:LI)(k:LC)(g:Int)(o:LI):qoa Tryz.prog (EWAReads) 40 false Tryz.f4 [.cl (.slg 2 l),.cl (.agg [.int .i64 t,.sli .u8 b,.slg 3 k]),.cl (.int .i64 g),.cl (.sli .u32 o)] []=q99 l t b k g o:=by kernel_rfl
abbrev xbkp:=Int->Int->LI->Int->Int->Int->LI->Int->Int->Int->Int->Int->Int->Bool->LI->OO
abbrev xbkq:=Int->Int->LI->Int->Int->Int->LI->Int->Int->Int->Int->Int->Int->Bool->Int->Bool->LI->OO
def qlp(l:Nat)(again:LI->OO)(k0:xbkp)(k1:xbkq)(k2:LI->Int->LI->OO)(v1:LI):OO:=cond (decide ((0:Int)<(v1.length:Int))) (cond (qad v1) (let r1:=(qex v1).1;let r2:=(qex v1).2;cond (Nat.beq l l) (yldO [.int .u32 r1,.bool (decide ((0:Int)<r2))] (k0 r1 r2 v1 (v1.length:Int) r1 r2 v1 r1 r2 r1 r2 r1 r2 (decide ((0:Int)<r2)) v1) (cond (decide (r2=0)) (k1 r1 r2 v1 (v1.length:Int) r1 r2 v1 r1 r2 r1 r2 r1 r2 (decide ((0:Int)<r2)) r2 (decide (r2=0)) v1) (cond (decide ((0:Int)<=r2)) (cond (decide (r2<=(v1.length:Int))) (let l3:=List.drop (Int.toNat r2) v1;again l3) none) none))) none) none) (k2 v1 (v1.length:Int) v1)
def qjr(l:Nat)(k0:xbkp)(k1:xbkq)(k2:LI->Int->LI->OO):Nat->LI->OO|0=>fun _=>none|n+1=>qlp l (qjr l k0 k1 k2 n) k0 k1 k2
def qy8(l:Nat):St->(KT)->OO:=fun σ k=>match σ with|⟨[(q1,.cl (.fn (.yield q2) [] [])),(q3,.ptr q4 q5 q6)],[(q7,⟨.var [.cl (.sli .u8 v1)],false⟩)]⟩=>cond (eqL [q1,q3,q4,q5,q6,q7] [0,1,0,0,0,0]&&Nat.beq l q2) (shut (qjr l (fun y1 y2 y3 y4 y5 y6 y7 y8 y9 y10 y11 y12 y13 y14 y15=>k .ret ⟨[(0,.cl (.fn (.yield l) [] [])),(1,.ptr 0 0 0),(3,.cl (.int .u32 y1)),(4,zvi y2),(5,zvl y3),(6,zvi y4),(7,zvb true),(8,.tup [.cl (.int .u32 y5),zvi y6]),(9,zvl y7),(10,.tup [.cl (.int .u32 y8),zvi y9]),(11,.cl (.int .u32 y10)),(12,zvi y11),(13,.cl (.fn (.yield l) [] [])),(14,.cl (.int .u32 y12)),(15,zvi y13),(16,zvb y14),(17,zvb false),(18,zvb true),(19,zvb true),(20,.tup []),(21,.tup []),(22,zvb true)],[(0,⟨.var [zvl y15],false⟩)]⟩) (fun y1 y2 y3 y4 y5 y6 y7 y8 y9 y10 y11 y12 y13 y14 y15 y16 y17=>k .ret ⟨[(0,.cl (.fn (.yield l) [] [])),(1,.ptr 0 0 0),(3,.cl (.int .u32 y1)),(4,zvi y2),(5,zvl y3),(6,zvi y4),(7,zvb true),(8,.tup [.cl (.int .u32 y5),zvi y6]),(9,zvl y7),(10,.tup [.cl (.int .u32 y8),zvi y9]),(11,.cl (.int .u32 y10)),(12,zvi y11),(13,.cl (.fn (.yield l) [] [])),(14,.cl (.int .u32 y12)),(15,zvi y13),(16,zvb y14),(17,zvb true),(18,zvb false),(19,zvb false),(20,zvi y15),(21,zvb y16),(22,zvb true)],[(0,⟨.var [zvl y17],false⟩)]⟩) (fun y1 y2 y3=>k (.exit 0) ⟨[(0,.cl (.fn (.yield l) [] [])),(1,.ptr 0 0 0),(5,zvl y1),(6,zvi y2),(7,zvb false)],[(0,⟨.var [zvl y3],false⟩)]⟩) FUEL) v1) none|_=>none
def EONums(l:Nat):Env:= {
 orc:=fun g=>cond (Nat.beq g 128) ((kT KONumber)) (fun _ _=>Tree.fail)
 pre:=fun g=>cond (Nat.beq g 128) ((kP KONumber)) (fun _ _=>true)
 live:=fun r=>cond (Nat.beq r 0) ([0,1]) ([])
 glob:=qa8
 nt:=26
 lp:=fun r=>cond (Nat.beq r 0) (some (qy8 l)) (none)
 rg:=false
 yn:=l
 yl:=fun r=>cond (Nat.beq r 2) (some 4) (none)
}
theorem q5n(l:Nat):LpT Tryz.prog (EONums l) Tryz.f127 0 0 (qy8 l):=by
 intro σ k r h;unfold qy8 at h;split at h
 ·obtain⟨hc,j⟩:=qaa h;simp only[zab,qen,decide_eq_true_eq,zao] at hc;obtain⟨hc,rfl⟩:=hc;cases qa3 hc;rw[qab] at j;apply jt1 j _ (fun a=>qlp l a _ _ _)
  ·intro n;rfl
  ·intro n;kernel_rfl
  ·rfl
 ·cases h
theorem xba4(l:Nat): ∀c,Tryz.f127.body=some c->qbj Tryz.prog (EONums l) 40 c:=lsB (ids:=[(true,0)]) (by kernel_rfl) ⟨⟨_,rfl,q5n l⟩,trivial⟩
def xblx(l:Nat)(b:LI):OO:=cond (Nat.beq l l) (shut (qjr l (fun y1 y2 y3 y4 y5 y6 y7 y8 y9 y10 y11 y12 y13 y14 y15=>zR [] [some ⟨.var [zvl y15],false⟩]) (fun y16 y17 y18 y19 y20 y21 y22 y23 y24 y25 y26 y27 y28 y29 y30 y31 y32=>zR [] [some ⟨.var [zvl y32],false⟩]) (fun y33 y34 y35=>zR [] [some ⟨.var [zvl y35],false⟩]) FUEL) b) none
theorem xbfa(l:Nat)(b:LI):qoa Tryz.prog (EONums l) 40 false Tryz.f127 [.cl (.fn (.yield l) [] []),.ptr 0 0 0] [⟨.var [.cl (.sli .u8 b)],false⟩]=xblx l b:=by kernel_rfl
end
end Go.Proofs.YtoiikagnjcjccaaGreatDoorA
