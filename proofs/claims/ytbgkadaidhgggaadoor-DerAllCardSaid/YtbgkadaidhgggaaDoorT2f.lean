/-
 What the reading of apostille/apostilleref05.write comes to, printed by a program. Conditions: none.
-/
import Derived.Test.YtbgkadaidhgggaaDoorT1
set_option linter.unusedVariables false
set_option linter.unusedSimpArgs false
set_option maxRecDepth 100000
namespace Go.Proofs.YtbgkadaidhgggaaDoorA
abbrev zRWrite0 := Int -> Nat -> Int -> Int -> LI -> Bool -> Int -> LC -> Int -> LI -> Bool -> LC -> Int -> LC -> Nat -> Int -> LI -> LC -> Int -> Int -> LI -> Bool -> LI -> Bool -> Int -> LI -> Int -> Int -> Bool -> Bool -> Int -> LI -> LC -> LC -> OO
abbrev zRWrite1 := Int -> Nat -> Int -> Int -> LI -> Bool -> Int -> LC -> Int -> LI -> Bool -> LC -> Int -> LC -> Nat -> Int -> LI -> LC -> Int -> Int -> LI -> Bool -> LI -> Bool -> Int -> LI -> Int -> Int -> Bool -> Bool -> Int -> Bool -> Int -> LI -> LC -> LC -> OO
abbrev zRWrite2 := Int -> Nat -> Int -> Int -> Int -> LC -> Int -> Int -> LI -> LC -> LC -> OO
noncomputable def qhl (rk : Nat) (again : Int -> Nat -> Int -> Int -> Int -> LI -> LC -> LC -> OO) (k0 : zRWrite0) (k1 : zRWrite1) (k2 : zRWrite2) (v1 : Int) (v2 : Nat) (v3 v4 v5 : Int) (v6 : LI) (v7 v8 : LC) : OO :=
 cond (decide (v4 < ((v7.length : Nat) : Int))) (
 cond (decide ((0 : Int) <= v4)) (
 cond (decide (v4 < ((v7.length : Nat) : Int))) (
 Option.bind (v7[(Int.toNat v4)]?) fun (e7 : CV) =>
 let e8 : CV := (cell1 e7).headD .nili
 let e9 : CV := (cell1 e7).tail.headD .nili
 let e10 : CV := (cell1 e7).tail.tail.headD .nili
 cond (okInt .i64 e8 && (okSli .u8 e9 && (okSlg 3 e10 && true))) (
 let i11 : Int := cvInt e8
 let l12 : LI := qee e9
 let l13 : LC := cvSlg e10
 let x14 : Int := IntKind.i64.wrap (v1 - 1)
 cond (isSr rk [.int .i64 i11, .sli .u8 l12, .slg 3 l13] && qb9 x14) (
 let r15 : LI := (qfa [.int .i64 i11, .sli .u8 l12, .slg 3 l13] x14).1
 let r16 : Bool := (qfa [.int .i64 i11, .sli .u8 l12, .slg 3 l13] x14).2
 let x17 : Int := IntKind.i64.wrap (v3 + ((r15.length : Nat) : Int))
 cond (!r16) (
 k0 v1 v2 x17 v4 r15 r16 v4 v7 ((v7.length : Nat) : Int) r15 r16 v7 v4 v7 (Int.toNat v4) i11 l12 l13 v1 x14 r15 r16 r15 r16 v3 r15 ((r15.length : Nat) : Int) x17 r16 (!r16) v5 v6 v7 v8)
 (
 cond (decide ((1048576 : Int) < x17)) (
 k1 v1 v2 x17 v4 r15 r16 v4 v7 ((v7.length : Nat) : Int) r15 r16 v7 v4 v7 (Int.toNat v4) i11 l12 l13 v1 x14 r15 r16 r15 r16 v3 r15 ((r15.length : Nat) : Int) x17 r16 (!r16) x17 (decide ((1048576 : Int) < x17)) v5 v6 v7 v8)
 (
 let l18 : LC := v8 ++ [.sli .u8 r15]
 cond (decide (((l18.length : Nat) : Int) * 24 <= LIM)) (
 cond (decide (((l18.length : Nat) : Int) <= LIM)) (
 let x19 : Int := IntKind.i64.wrap (v4 + 1)
 again v1 l18.length x17 x19 v5 v6 v7 l18) none) none))) none) none) none) none)
 (
 k2 v1 v2 v3 v4 v4 v7 ((v7.length : Nat) : Int) v5 v6 v7 v8)
noncomputable def qds (rk : Nat) (k0 : zRWrite0) (k1 : zRWrite1) (k2 : zRWrite2) : Nat -> Int -> Nat -> Int -> Int -> Int -> LI -> LC -> LC -> OO
 | 0 => fun _ _ _ _ _ _ _ _ => none
 | n + 1 => qhl rk (qds rk k0 k1 k2 n) k0 k1 k2
noncomputable def qhu (k : KT) : zRWrite0 := fun y1 y2 y3 y4 y5 y6 y7 y8 y9 y10 y11 y12 y13 y14 y15 y16 y17 y18 y19 y20 y21 y22 y23 y24 y25 y26 y27 y28 y29 y30 y31 y32 y33 y34 => k .ret ⟨[(1, qI y1), (2, .ptr 66 0 0), (4, .ref 68 0 0 true 1), (5, qB false), (6, .ref 70 0 y2 true 1), (7, qI y3), (8, qI y4), (9, qS y5), (10, qB y6), (54, qI y7), (55, .ptr 66 0 2), (56, qG 3 y8), (57, qI y9), (58, qB true), (61, .tup [qS y10, qB y11]), (62, .ptr 66 0 2), (63, qG 3 y12), (64, qI y13), (65, .cl (.vp (.slg 3 y14) y15 0)), (66, .cl (.agg [.int .i64 y16, .sli .u8 y17, .slg 3 y18])), (67, qI y19), (68, qI y20), (69, .tup [qS y21, qB y22]), (70, qS y23), (71, qB y24), (72, qI y25), (73, qS y26), (74, qI y27), (75, qI y28), (76, qB y29), (77, qB y30), (78, qB true), (79, .tup []), (80, .tup []), (81, qB true)], [(66, ⟨.var [qI y31, qS y32, qG 3 y33], false⟩), (68, ⟨.ints .u8 [], false⟩), (70, ⟨.gen 1 y34, false⟩)]⟩
noncomputable def qhy (k : KT) : zRWrite1 := fun y1 y2 y3 y4 y5 y6 y7 y8 y9 y10 y11 y12 y13 y14 y15 y16 y17 y18 y19 y20 y21 y22 y23 y24 y25 y26 y27 y28 y29 y30 y31 y32 y33 y34 y35 y36 => k .ret ⟨[(1, qI y1), (2, .ptr 66 0 0), (4, .ref 68 0 0 true 1), (5, qB false), (6, .ref 70 0 y2 true 1), (7, qI y3), (8, qI y4), (9, qS y5), (10, qB y6), (54, qI y7), (55, .ptr 66 0 2), (56, qG 3 y8), (57, qI y9), (58, qB true), (61, .tup [qS y10, qB y11]), (62, .ptr 66 0 2), (63, qG 3 y12), (64, qI y13), (65, .cl (.vp (.slg 3 y14) y15 0)), (66, .cl (.agg [.int .i64 y16, .sli .u8 y17, .slg 3 y18])), (67, qI y19), (68, qI y20), (69, .tup [qS y21, qB y22]), (70, qS y23), (71, qB y24), (72, qI y25), (73, qS y26), (74, qI y27), (75, qI y28), (76, qB y29), (77, qB y30), (78, qB false), (79, qI y31), (80, qB y32), (81, qB true)], [(66, ⟨.var [qI y33, qS y34, qG 3 y35], false⟩), (68, ⟨.ints .u8 [], false⟩), (70, ⟨.gen 1 y36, false⟩)]⟩
noncomputable def qhc (k : KT) : zRWrite2 := fun y1 y2 y3 y4 y5 y6 y7 y8 y9 y10 y11 => k (.exit 0) ⟨[(1, qI y1), (2, .ptr 66 0 0), (6, .ref 70 0 y2 true 1), (7, qI y3), (8, qI y4), (54, qI y5), (55, .ptr 66 0 2), (56, qG 3 y6), (57, qI y7), (58, qB false)], [(66, ⟨.var [qI y8, qS y9, qG 3 y10], false⟩), (70, ⟨.gen 1 y11, false⟩)]⟩
noncomputable def qq0 (rk : Nat) : St -> (KT) -> OO := fun σ k => match σ with
 | ⟨[(q1, .cl (.int .i64 v1)), (q2, .ptr q3 q4 q5), (q6, .ref q7 q8 v2 true q9), (q10, .cl (.int .i64 v3)), (q11, .cl (.int .i64 v4))], [(q12, ⟨.var [.cl (.int .i64 v5), .cl (.sli .u8 v6), .cl (.slg q13 v7)], false⟩), (q14, ⟨.gen q15 v8, false⟩)]⟩ => cond (Nat.beq q1 1 && Nat.beq q2 2 && Nat.beq q3 66 && Nat.beq q4 0 && Nat.beq q5 0 && Nat.beq q6 6 && Nat.beq q7 70 && Nat.beq q8 0 && Nat.beq q9 1 && Nat.beq q10 7 && Nat.beq q11 8 && Nat.beq q12 66 && Nat.beq q13 3 && Nat.beq q14 70 && Nat.beq q15 1) (shut (qds rk (qhu k) (qhy k) (qhc k) FUEL) v1 v2 v3 v4 v5 v6 v7 v8) none
 | _ => none
noncomputable def ERWrite (rk : Nat) : Env := {
 orc := fun g => cond (Nat.beq g 19) SRBoxed (cond (Nat.beq g 27) SRWrite (cond (Nat.beq g 36) SRTagged (cond (Nat.beq g 38) SRFits (cond (Nat.beq g 39) SR4Sorted (cond (Nat.beq g 44) SRHead (cond (Nat.beq g 45) SR1Join (fun _ _ => Tree.fail)))))))
 pre := fun g => cond (Nat.beq g 19) preRBoxed (cond (Nat.beq g 27) (qf5 (rk)) (cond (Nat.beq g 36) preRTagged (cond (Nat.beq g 38) preRFits (cond (Nat.beq g 39) preR4Sorted (cond (Nat.beq g 44) preRHead (cond (Nat.beq g 45) preR1Join (fun _ _ => true)))))))
 keep := fun g => cond (Nat.beq g 44) true (false)
 live := fun r => cond (Nat.beq r 12) ([1, 2, 6, 7, 8]) ([])
 ren := fun r => cond (Nat.beq r 12) ([(149, 70)]) ([])
 glob := qca
 nt := 101
 lp := fun r => cond (Nat.beq r 12) (some (qq0 rk)) (none)
}
noncomputable def qg8 : Code := (Cd.fst (Cd.fst (Cd.snd (Cd.fst (Cd.snd (Cd.snd (Cd.snd (Cd.snd (Cd.snd (Cd.snd (Tryd.f27.body.getD .skip)))))))))))
theorem lpRWrite_12_step (rk : Nat) (k : KT) (n : Nat) (v1 : Int) (v2 : Nat) (v3 v4 v5 : Int) (v6 : LI) (v7 v8 : LC) : qbi (n + 1) (qa3 Tryd.prog (ERWrite rk) 40 qg8) (head (ERWrite rk) 12) ⟨[(1, qI v1), (2, .ptr 66 0 0), (6, .ref 70 0 v2 true 1), (7, qI v3), (8, qI v4)], [(66, ⟨.var [qI v5, qS v6, qG 3 v7], false⟩), (70, ⟨.gen 1 v8, false⟩)]⟩ k = qhl rk (fun v1 v2 v3 v4 v5 v6 v7 v8 => qbi n (qa3 Tryd.prog (ERWrite rk) 40 qg8) (head (ERWrite rk) 12) ⟨[(1, qI v1), (2, .ptr 66 0 0), (6, .ref 70 0 v2 true 1), (7, qI v3), (8, qI v4)], [(66, ⟨.var [qI v5, qS v6, qG 3 v7], false⟩), (70, ⟨.gen 1 v8, false⟩)]⟩ k) (qhu k) (qhy k) (qhc k) v1 v2 v3 v4 v5 v6 v7 v8 := by kernel_rfl
theorem qmh (rk : Nat) (k : KT) : ∀ (n : Nat), ∀ (v1 : Int) (v2 : Nat) (v3 v4 v5 : Int) (v6 : LI) (v7 v8 : LC), qbi n (qa3 Tryd.prog (ERWrite rk) 40 qg8) (head (ERWrite rk) 12) ⟨[(1, qI v1), (2, .ptr 66 0 0), (6, .ref 70 0 v2 true 1), (7, qI v3), (8, qI v4)], [(66, ⟨.var [qI v5, qS v6, qG 3 v7], false⟩), (70, ⟨.gen 1 v8, false⟩)]⟩ k = qds rk (qhu k) (qhy k) (qhc k) n v1 v2 v3 v4 v5 v6 v7 v8
 | 0 => by intros; rfl
 | n + 1 => by
  intros
  rw [lpRWrite_12_step]
  have ih := qmh rk k n
  simp only [qds, ih]
theorem LRWrite_12_ok (rk : Nat) : ∀ (σ : St) (k : KT) (r : Out), qq0 rk σ k = some r -> ∃ n, qbi n (qa3 Tryd.prog (ERWrite rk) 40 qg8) (head (ERWrite rk) 12) σ k = some r := by
 intro σ k r h
 unfold qq0 at h
 split at h
 ·replace h := qaa h
  obtain ⟨hc, h⟩ := h
  simp only [Bool.and_eq_true, qbb, decide_eq_true_eq, Bool.not_eq_true'] at hc
  obtain ⟨⟨⟨⟨⟨⟨⟨⟨⟨⟨⟨⟨⟨⟨rfl, rfl⟩, rfl⟩, rfl⟩, rfl⟩, rfl⟩, rfl⟩, rfl⟩, rfl⟩, rfl⟩, rfl⟩, rfl⟩, rfl⟩, rfl⟩, rfl⟩ := hc
  rw [qae] at h
  exact ⟨FUEL, (qmh rk k FUEL _ _ _ _ _ _ _ _ ).trans h⟩
 ·cases h
theorem loopsRWrite (rk : Nat) : ∀ c, Tryd.f27.body = some c -> qaq Tryd.prog (ERWrite rk) 40 c := by
 intro c hc
 cases hc
 exact ⟨trivial, ⟨qal _ (by kernel_rfl), ⟨qal _ (by kernel_rfl), ⟨qal _ (by kernel_rfl), ⟨trivial, ⟨trivial, ⟨⟨trivial, ⟨qal _ (by kernel_rfl), qcc rfl (LRWrite_12_ok rk)⟩, qag rfl⟩, qal _ (by kernel_rfl), qag rfl⟩, qag rfl⟩, qag rfl⟩, qag rfl⟩, qag rfl⟩, qag rfl⟩, qag rfl⟩
noncomputable def gRWrite (rk : Nat) (ta : Int) (ba : LI) (ka : LC) (deep : Int) : OO :=
 cond (decide (deep = 0)) (
 some (.ret [.cl (.sli .u8 []), .cl (.bool false)] []))
 (
 let r1 : Bool := qcv ta
 cond (!r1) (
 some (.ret [.cl (.sli .u8 []), .cl (.bool false)] []))
 (
 let r2 : Bool := qbe ta
 cond (!r2) (
 cond (decide ((0 : Int) < ((ka.length : Nat) : Int))) (
 some (.ret [.cl (.sli .u8 []), .cl (.bool false)] []))
 (
 cond (decide ((1048576 : Int) < ((ba.length : Nat) : Int))) (
 some (.ret [.cl (.sli .u8 []), .cl (.bool false)] []))
 (
 cond (qac ba) (
 let r3 : Bool := qc4 ta ba
 cond (!r3) (
 some (.ret [.cl (.sli .u8 []), .cl (.bool false)] []))
 (
 cond (qk6 ta ((ba.length : Nat) : Int)) (
 let r5 : LI := qcn ta ((ba.length : Nat) : Int)
 let l6 : LI := r5 ++ ba
 cond (decide (((l6.length : Nat) : Int) * 1 <= LIM)) (
 cond (decide (((l6.length : Nat) : Int) <= LIM)) (
 some (.ret [.cl (.sli .u8 l6), .cl (.bool true)] [])) none) none) none)) none)))
 (
 cond (decide ((0 : Int) < ((ba.length : Nat) : Int))) (
 some (.ret [.cl (.sli .u8 []), .cl (.bool false)] []))
 (
 shut (qds rk
 (fun y7 y8 y9 y10 y11 y12 y13 y14 y15 y16 y17 y18 y19 y20 y21 y22 y23 y24 y25 y26 y27 y28 y29 y30 y31 y32 y33 y34 y35 y36 y37 y38 y39 y40 =>
 some (.ret [.cl (.sli .u8 []), .cl (.bool false)] []))
 (fun y41 y42 y43 y44 y45 y46 y47 y48 y49 y50 y51 y52 y53 y54 y55 y56 y57 y58 y59 y60 y61 y62 y63 y64 y65 y66 y67 y68 y69 y70 y71 y72 y73 y74 y75 y76 =>
 some (.ret [.cl (.sli .u8 []), .cl (.bool false)] []))
 (fun y77 y78 y79 y80 y81 y82 y83 y84 y85 y86 y87 =>
 cond (decide (y84 = 49)) (
 cond (qf0 y87) (
 let r88 : Bool := qbg y87
 cond (!r88) (
 some (.ret [.cl (.sli .u8 []), .cl (.bool false)] []))
 (
 cond (qk6 y84 y79) (
 let r90 : LI := qcn y84 y79
 cond (qn3 y87) (
 let r91 : LI := qcs y87
 let l92 : LI := r90 ++ r91
 cond (decide (((l92.length : Nat) : Int) * 1 <= LIM)) (
 cond (decide (((l92.length : Nat) : Int) <= LIM)) (
 some (.ret [.cl (.sli .u8 l92), .cl (.bool true)] [])) none) none) none) none)) none)
 (
 cond (qk6 y84 y79) (
 let r94 : LI := qcn y84 y79
 cond (qn3 y87) (
 let r95 : LI := qcs y87
 let l96 : LI := r94 ++ r95
 cond (decide (((l96.length : Nat) : Int) * 1 <= LIM)) (
 cond (decide (((l96.length : Nat) : Int) <= LIM)) (
 some (.ret [.cl (.sli .u8 l96), .cl (.bool true)] [])) none) none) none) none))
 FUEL) deep 0 0 0 ta ba ka []))))
theorem gRWrite_eq (rk : Nat) (ta : Int) (ba : LI) (ka : LC) (deep : Int) : qco Tryd.prog (ERWrite rk) 40 false Tryd.f27 [.cl (.agg [.int .i64 ta, .sli .u8 ba, .slg 3 ka]), .cl (.int .i64 deep)] [] = gRWrite rk ta ba ka deep := by kernel_rfl

noncomputable def EDBytes : Env := {
 orc := fun g => cond (Nat.beq g 25) SDSize (cond (Nat.beq g 26) SDWrite (fun _ _ => Tree.fail))
 pre := fun g => cond (Nat.beq g 25) preDSize (cond (Nat.beq g 26) preDWrite (fun _ _ => true))
 glob := qca
 nt := 23
}
theorem loopsDBytes : ∀ c, Tryd.f14.body = some c -> qaq Tryd.prog (EDBytes) 40 c := by
 intro c hc
 cases hc
 exact qal _ (by kernel_rfl)
noncomputable def gDBytes (ta : Int) (ba : LI) (ka : LC) : OO :=
 cond (isS [.int .i64 ta, .sli .u8 ba, .slg 3 ka] && qb9 32) (
 let r1 : Int := ndSize [.int .i64 ta, .sli .u8 ba, .slg 3 ka] 32
 cond (decide (r1 < 0)) (
 some (.ret [.cl (.sli .u8 []), .cl (.int .i64 1)] []))
 (
 cond (decide ((1048576 : Int) < r1)) (
 some (.ret [.cl (.sli .u8 []), .cl (.int .i64 1)] []))
 (
 cond (isW [.int .i64 ta, .sli .u8 ba, .slg 3 ka]) (
 let r2 : LI := (qjd [.int .i64 ta, .sli .u8 ba, .slg 3 ka]).1
 let r3 : Bool := (qjd [.int .i64 ta, .sli .u8 ba, .slg 3 ka]).2
 cond (!r3) (
 some (.ret [.cl (.sli .u8 []), .cl (.int .i64 1)] []))
 (
 some (.ret [.cl (.sli .u8 r2), .cl (.int .i64 0)] []))) none))) none
theorem gDBytes_eq (ta : Int) (ba : LI) (ka : LC) : qco Tryd.prog (EDBytes) 40 false Tryd.f14 [.cl (.agg [.int .i64 ta, .sli .u8 ba, .slg 3 ka])] [] = gDBytes ta ba ka := by kernel_rfl

noncomputable def gDFit_ (ta : Int) (ba : LI) (ka : LC) : OO :=
 cond (isS [.int .i64 ta, .sli .u8 ba, .slg 3 ka]) (
 let r2 : Int := (qa2 [.int .i64 ta, .sli .u8 ba, .slg 3 ka]).2
 some (.ret [.cl (.bool (decide (r2 = 0)))] [])) none
noncomputable def ERBytes : Env := {
 orc := fun g => cond (Nat.beq g 27) SRWrite (fun _ _ => Tree.fail)
 pre := fun g => cond (Nat.beq g 27) preRWrite (fun _ _ => true)
 glob := qca
 nt := 19
}
theorem loopsRBytes : ∀ c, Tryd.f17.body = some c -> qaq Tryd.prog (ERBytes) 40 c := by
 intro c hc
 cases hc
 exact qal _ (by kernel_rfl)
noncomputable def gRBytes (ta : Int) (ba : LI) (ka : LC) : OO :=
 cond (isS [.int .i64 ta, .sli .u8 ba, .slg 3 ka] && qb9 32) (
 let r1 : LI := (qfa [.int .i64 ta, .sli .u8 ba, .slg 3 ka] 32).1
 let r2 : Bool := (qfa [.int .i64 ta, .sli .u8 ba, .slg 3 ka] 32).2
 cond (!r2) (
 some (.ret [.cl (.sli .u8 []), .cl (.int .i64 1)] []))
 (
 cond (decide ((1048576 : Int) < ((r1.length : Nat) : Int))) (
 some (.ret [.cl (.sli .u8 []), .cl (.int .i64 1)] []))
 (
 some (.ret [.cl (.sli .u8 r1), .cl (.int .i64 0)] [])))) none
theorem gRBytes_eq (ta : Int) (ba : LI) (ka : LC) : qco Tryd.prog (ERBytes) 40 false Tryd.f17 [.cl (.agg [.int .i64 ta, .sli .u8 ba, .slg 3 ka])] [] = gRBytes ta ba ka := by kernel_rfl

noncomputable def ERFit_ : Env := {
 orc := fun g => cond (Nat.beq g 17) SRBytes (fun _ _ => Tree.fail)
 pre := fun g => cond (Nat.beq g 17) qm6 (fun _ _ => true)
 glob := qca
 nt := 12
}
theorem loopsRFit_ : ∀ c, Tryd.f13.body = some c -> qaq Tryd.prog (ERFit_) 40 c := by
 intro c hc
 cases hc
 exact qal _ (by kernel_rfl)
noncomputable def gRFit_ (ta : Int) (ba : LI) (ka : LC) : OO :=
 cond (isS [.int .i64 ta, .sli .u8 ba, .slg 3 ka]) (
 let r2 : Int := (qa2 [.int .i64 ta, .sli .u8 ba, .slg 3 ka]).2
 some (.ret [.cl (.bool (decide (r2 = 0)))] [])) none
theorem gRFit__eq (ta : Int) (ba : LI) (ka : LC) : qco Tryd.prog (ERFit_) 40 false Tryd.f13 [.cl (.agg [.int .i64 ta, .sli .u8 ba, .slg 3 ka])] [] = gRFit_ ta ba ka := by kernel_rfl

noncomputable def gLTells (ta : Int) (ba : LI) (ka : LC) (tb : Int) (bb : LI) (kb : LC) (tag : Int) : OO :=
 cond (isT [.int .i64 ta, .sli .u8 ba, .slg 3 ka] && qmp 3000) (
 let r1 : Int := qh9 [.int .i64 ta, .sli .u8 ba, .slg 3 ka] 3000
 cond (decide (r1 < 0)) (
 let r2 : Bool := true
 some (.ret [.cl (.bool r2)] []))
 (
 cond (isT [.int .i64 tb, .sli .u8 bb, .slg 3 kb] && qmp 3000) (
 let r3 : Int := qh9 [.int .i64 tb, .sli .u8 bb, .slg 3 kb] 3000
 cond (decide (r3 < 0)) (
 let r4 : Bool := true
 some (.ret [.cl (.bool r4)] []))
 (
 cond (isS [.int .i64 ta, .sli .u8 ba, .slg 3 ka]) (
 let r5 : LI := (qa2 [.int .i64 ta, .sli .u8 ba, .slg 3 ka]).1
 let r6 : Int := (qa2 [.int .i64 ta, .sli .u8 ba, .slg 3 ka]).2
 cond (isS [.int .i64 ta, .sli .u8 ba, .slg 3 ka]) (
 let r7 : LI := (qa2 [.int .i64 ta, .sli .u8 ba, .slg 3 ka]).1
 let r8 : Int := (qa2 [.int .i64 ta, .sli .u8 ba, .slg 3 ka]).2
 cond (isS [.int .i64 ta, .sli .u8 ba, .slg 3 ka]) (
 let r9 : Bool := qql [.int .i64 ta, .sli .u8 ba, .slg 3 ka]
 cond (isS [.int .i64 ta, .sli .u8 ba, .slg 3 ka]) (
 let r10 : Bool := qql [.int .i64 ta, .sli .u8 ba, .slg 3 ka]
 cond ((r9 == r10)) (
 cond (qid r5) (
 let r11 : Bool := qb3 r5 r7
 cond (r11) (
 cond (decide (r6 = r8)) (
 let r12 : Bool := qbe tag
 let r13 : Bool := qbe tag
 cond ((r12 == r13)) (
 cond (isN [.int .i64 ta, .sli .u8 ba, .slg 3 ka] && isN [.int .i64 tb, .sli .u8 bb, .slg 3 kb]) (
 let r14 : Bool := qif [.int .i64 ta, .sli .u8 ba, .slg 3 ka] [.int .i64 tb, .sli .u8 bb, .slg 3 kb]
 cond (isN [.int .i64 ta, .sli .u8 ba, .slg 3 ka] && isN [.int .i64 tb, .sli .u8 bb, .slg 3 kb]) (
 let r15 : Bool := qif [.int .i64 ta, .sli .u8 ba, .slg 3 ka] [.int .i64 tb, .sli .u8 bb, .slg 3 kb]
 cond ((r14 == r15)) (
 cond (isN [.int .i64 ta, .sli .u8 ba, .slg 3 ka] && isN [.int .i64 ta, .sli .u8 ba, .slg 3 ka]) (
 let r16 : Bool := qif [.int .i64 ta, .sli .u8 ba, .slg 3 ka] [.int .i64 ta, .sli .u8 ba, .slg 3 ka]
 cond (r16) (
 let r17 : Bool := true
 some (.ret [.cl (.bool r17)] []))
 (
 some (.ret [.cl (.bool false)] []))) none)
 (
 some (.ret [.cl (.bool false)] []))) none) none)
 (
 some (.ret [.cl (.bool false)] [])))
 (
 some (.ret [.cl (.bool false)] [])))
 (
 some (.ret [.cl (.bool false)] []))) none)
 (
 some (.ret [.cl (.bool false)] []))) none) none) none) none)) none)) none
noncomputable def gLBack (ta : Int) (ba : LI) (ka : LC) (b : LI) : OO :=
 cond (isT [.int .i64 ta, .sli .u8 ba, .slg 3 ka] && qmp 3000) (
 let r1 : Int := qh9 [.int .i64 ta, .sli .u8 ba, .slg 3 ka] 3000
 cond (decide (r1 < 0)) (
 let r2 : Bool := true
 some (.ret [.cl (.bool r2)] []))
 (
 cond (decide ((3000 : Int) < ((b.length : Nat) : Int))) (
 let r3 : Bool := true
 some (.ret [.cl (.bool r3)] []))
 (
 cond (isS [.int .i64 ta, .sli .u8 ba, .slg 3 ka]) (
 let r4 : Bool := qql [.int .i64 ta, .sli .u8 ba, .slg 3 ka]
 cond (r4) (
 cond (isS [.int .i64 ta, .sli .u8 ba, .slg 3 ka]) (
 let r5 : LI := (qa2 [.int .i64 ta, .sli .u8 ba, .slg 3 ka]).1
 let r6 : Int := (qa2 [.int .i64 ta, .sli .u8 ba, .slg 3 ka]).2
 cond (qac r5) (
 let r7 : Int := (qar r5).1.1
 let r8 : LI := (qar r5).1.2.1
 let r9 : LC := (qar r5).1.2.2
 let r10 : Int := (qar r5).2
 cond (!decide (r6 = 0)) (
 some (.ret [.cl (.bool false)] []))
 (
 cond (!decide (r10 = 0)) (
 some (.ret [.cl (.bool false)] []))
 (
 cond (isN [.int .i64 r7, .sli .u8 r8, .slg 3 r9] && isN [.int .i64 ta, .sli .u8 ba, .slg 3 ka]) (
 let r11 : Bool := qif [.int .i64 r7, .sli .u8 r8, .slg 3 r9] [.int .i64 ta, .sli .u8 ba, .slg 3 ka]
 cond (!r11) (
 some (.ret [.cl (.bool false)] []))
 (
 cond (qac b) (
 let r12 : Int := (qar b).1.1
 let r13 : LI := (qar b).1.2.1
 let r14 : LC := (qar b).1.2.2
 let r15 : Int := (qar b).2
 cond (!decide (r15 = 0)) (
 let r16 : Bool := true
 some (.ret [.cl (.bool r16)] []))
 (
 cond (isS [.int .i64 r12, .sli .u8 r13, .slg 3 r14]) (
 let r17 : LI := (qa2 [.int .i64 r12, .sli .u8 r13, .slg 3 r14]).1
 let r18 : Int := (qa2 [.int .i64 r12, .sli .u8 r13, .slg 3 r14]).2
 cond (decide (r18 = 0)) (
 cond (isS [.int .i64 r12, .sli .u8 r13, .slg 3 r14]) (
 let r19 : Bool := qql [.int .i64 r12, .sli .u8 r13, .slg 3 r14]
 cond (r19) (
 cond (qid r17) (
 let r20 : Bool := qb3 r17 b
 cond (r20) (
 let r21 : Bool := true
 some (.ret [.cl (.bool r21)] []))
 (
 some (.ret [.cl (.bool false)] []))) none)
 (
 some (.ret [.cl (.bool false)] []))) none)
 (
 some (.ret [.cl (.bool false)] []))) none)) none)) none))) none) none)
 (
 cond (qac b) (
 let r22 : Int := (qar b).1.1
 let r23 : LI := (qar b).1.2.1
 let r24 : LC := (qar b).1.2.2
 let r25 : Int := (qar b).2
 cond (!decide (r25 = 0)) (
 let r26 : Bool := true
 some (.ret [.cl (.bool r26)] []))
 (
 cond (isS [.int .i64 r22, .sli .u8 r23, .slg 3 r24]) (
 let r27 : LI := (qa2 [.int .i64 r22, .sli .u8 r23, .slg 3 r24]).1
 let r28 : Int := (qa2 [.int .i64 r22, .sli .u8 r23, .slg 3 r24]).2
 cond (decide (r28 = 0)) (
 cond (isS [.int .i64 r22, .sli .u8 r23, .slg 3 r24]) (
 let r29 : Bool := qql [.int .i64 r22, .sli .u8 r23, .slg 3 r24]
 cond (r29) (
 cond (qid r27) (
 let r30 : Bool := qb3 r27 b
 cond (r30) (
 let r31 : Bool := true
 some (.ret [.cl (.bool r31)] []))
 (
 some (.ret [.cl (.bool false)] []))) none)
 (
 some (.ret [.cl (.bool false)] []))) none)
 (
 some (.ret [.cl (.bool false)] []))) none)) none)) none))) none
noncomputable def ELAll : Env := {
 orc := fun g => cond (Nat.beq g 8) SLAwake (cond (Nat.beq g 9) SDParse (cond (Nat.beq g 11) SRSame (cond (Nat.beq g 12) SRSmall (cond (Nat.beq g 13) SRFit_ (cond (Nat.beq g 14) SDBytes (cond (Nat.beq g 15) SR1Same (fun _ _ => Tree.fail)))))))
 pre := fun g => cond (Nat.beq g 8) preLAwake (cond (Nat.beq g 9) preDParse (cond (Nat.beq g 11) preRSame (cond (Nat.beq g 12) preRSmall (cond (Nat.beq g 13) preRFit_ (cond (Nat.beq g 14) qmd (cond (Nat.beq g 15) qqx (fun _ _ => true)))))))
 glob := qca
 nt := 118
}
theorem loopsLAll : ∀ c, Tryd.f5.body = some c -> qaq Tryd.prog (ELAll) 40 c := by
 intro c hc
 cases hc
 exact qal _ (by kernel_rfl)
noncomputable def gLAll (ta : Int) (ba : LI) (ka : LC) (tb : Int) (bb : LI) (kb : LC) (pl : Int) (more : LI) : OO :=
 cond (isT [.int .i64 ta, .sli .u8 ba, .slg 3 ka] && qmp 3000) (
 let r1 : Int := qh9 [.int .i64 ta, .sli .u8 ba, .slg 3 ka] 3000
 cond (decide (r1 < 0)) (
 let r2 : Bool := true
 some (.ret [.cl (.bool r2)] []))
 (
 cond (isT [.int .i64 tb, .sli .u8 bb, .slg 3 kb] && qmp 3000) (
 let r3 : Int := qh9 [.int .i64 tb, .sli .u8 bb, .slg 3 kb] 3000
 cond (decide (r3 < 0)) (
 let r4 : Bool := true
 some (.ret [.cl (.bool r4)] []))
 (
 cond (decide ((3000 : Int) < ((more.length : Nat) : Int))) (
 let r5 : Bool := true
 some (.ret [.cl (.bool r5)] []))
 (
 cond (isS [.int .i64 ta, .sli .u8 ba, .slg 3 ka]) (
 let r6 : Bool := qql [.int .i64 ta, .sli .u8 ba, .slg 3 ka]
 cond (!r6) (
 let r7 : Bool := true
 some (.ret [.cl (.bool r7)] []))
 (
 cond (isS [.int .i64 tb, .sli .u8 bb, .slg 3 kb]) (
 let r8 : Bool := qql [.int .i64 tb, .sli .u8 bb, .slg 3 kb]
 cond (!r8) (
 let r9 : Bool := true
 some (.ret [.cl (.bool r9)] []))
 (
 cond (isS [.int .i64 ta, .sli .u8 ba, .slg 3 ka]) (
 let r10 : LI := (qa2 [.int .i64 ta, .sli .u8 ba, .slg 3 ka]).1
 let r11 : Int := (qa2 [.int .i64 ta, .sli .u8 ba, .slg 3 ka]).2
 cond (isS [.int .i64 tb, .sli .u8 bb, .slg 3 kb]) (
 let r12 : LI := (qa2 [.int .i64 tb, .sli .u8 bb, .slg 3 kb]).1
 let r13 : Int := (qa2 [.int .i64 tb, .sli .u8 bb, .slg 3 kb]).2
 cond (!decide (r11 = 0)) (
 some (.ret [.cl (.bool false)] []))
 (
 cond (!decide (r13 = 0)) (
 some (.ret [.cl (.bool false)] []))
 (
 cond (decide (((r10.length : Nat) : Int) <= ((r12.length : Nat) : Int))) (
 cond (decide ((0 : Int) <= ((r10.length : Nat) : Int))) (
 cond (decide (((r10.length : Nat) : Int) <= ((r12.length : Nat) : Int))) (
 let l14 : LI := List.take (Int.toNat ((r10.length : Nat) : Int)) r12
 cond (qid r10) (
 let r15 : Bool := qb3 r10 l14
 cond (isN [.int .i64 ta, .sli .u8 ba, .slg 3 ka] && isN [.int .i64 tb, .sli .u8 bb, .slg 3 kb]) (
 let r16 : Bool := qif [.int .i64 ta, .sli .u8 ba, .slg 3 ka] [.int .i64 tb, .sli .u8 bb, .slg 3 kb]
 cond (!(r15 == r16)) (
 some (.ret [.cl (.bool false)] []))
 (
 cond (decide ((0 : Int) <= pl)) (
 cond (decide (pl < ((r10.length : Nat) : Int))) (
 cond (decide ((0 : Int) <= pl)) (
 cond (decide (pl <= ((r10.length : Nat) : Int))) (
 let l17 : LI := List.take (Int.toNat pl) r10
 cond (qac l17) (
 let r21 : Int := (qar l17).2
 cond (decide (r21 = 0)) (
 some (.ret [.cl (.bool false)] []))
 (
 let l22 : LI := [] ++ r10
 cond (decide (((l22.length : Nat) : Int) * 1 <= LIM)) (
 cond (decide (((l22.length : Nat) : Int) <= LIM)) (
 let l23 : LI := l22 ++ more
 cond (decide (((l23.length : Nat) : Int) * 1 <= LIM)) (
 cond (decide (((l23.length : Nat) : Int) <= LIM)) (
 cond (qac l23) (
 let r27 : Int := (qar l23).2
 cond (((decide (((more.length : Nat) : Int) = 0)) == (decide (r27 = 0)))) (
 cond (decide (((more.length : Nat) : Int) = 0)) (
 let r28 : Bool := true
 some (.ret [.cl (.bool r28)] []))
 (
 cond (decide (r27 = 7)) (
 let r29 : Bool := true
 some (.ret [.cl (.bool r29)] []))
 (
 some (.ret [.cl (.bool false)] []))))
 (
 some (.ret [.cl (.bool false)] []))) none) none) none) none) none)) none) none) none)
 (
 let l30 : LI := [] ++ r10
 cond (decide (((l30.length : Nat) : Int) * 1 <= LIM)) (
 cond (decide (((l30.length : Nat) : Int) <= LIM)) (
 let l31 : LI := l30 ++ more
 cond (decide (((l31.length : Nat) : Int) * 1 <= LIM)) (
 cond (decide (((l31.length : Nat) : Int) <= LIM)) (
 cond (qac l31) (
 let r35 : Int := (qar l31).2
 cond (((decide (((more.length : Nat) : Int) = 0)) == (decide (r35 = 0)))) (
 cond (decide (((more.length : Nat) : Int) = 0)) (
 let r36 : Bool := true
 some (.ret [.cl (.bool r36)] []))
 (
 cond (decide (r35 = 7)) (
 let r37 : Bool := true
 some (.ret [.cl (.bool r37)] []))
 (
 some (.ret [.cl (.bool false)] []))))
 (
 some (.ret [.cl (.bool false)] []))) none) none) none) none) none))
 (
 let l38 : LI := [] ++ r10
 cond (decide (((l38.length : Nat) : Int) * 1 <= LIM)) (
 cond (decide (((l38.length : Nat) : Int) <= LIM)) (
 let l39 : LI := l38 ++ more
 cond (decide (((l39.length : Nat) : Int) * 1 <= LIM)) (
 cond (decide (((l39.length : Nat) : Int) <= LIM)) (
 cond (qac l39) (
 let r43 : Int := (qar l39).2
 cond (((decide (((more.length : Nat) : Int) = 0)) == (decide (r43 = 0)))) (
 cond (decide (((more.length : Nat) : Int) = 0)) (
 let r44 : Bool := true
 some (.ret [.cl (.bool r44)] []))
 (
 cond (decide (r43 = 7)) (
 let r45 : Bool := true
 some (.ret [.cl (.bool r45)] []))
 (
 some (.ret [.cl (.bool false)] []))))
 (
 some (.ret [.cl (.bool false)] []))) none) none) none) none) none))) none) none) none) none)
 (
 cond (decide ((0 : Int) <= pl)) (
 cond (decide (pl < ((r10.length : Nat) : Int))) (
 cond (decide ((0 : Int) <= pl)) (
 cond (decide (pl <= ((r10.length : Nat) : Int))) (
 let l46 : LI := List.take (Int.toNat pl) r10
 cond (qac l46) (
 let r50 : Int := (qar l46).2
 cond (decide (r50 = 0)) (
 some (.ret [.cl (.bool false)] []))
 (
 let l51 : LI := [] ++ r10
 cond (decide (((l51.length : Nat) : Int) * 1 <= LIM)) (
 cond (decide (((l51.length : Nat) : Int) <= LIM)) (
 let l52 : LI := l51 ++ more
 cond (decide (((l52.length : Nat) : Int) * 1 <= LIM)) (
 cond (decide (((l52.length : Nat) : Int) <= LIM)) (
 cond (qac l52) (
 let r56 : Int := (qar l52).2
 cond (((decide (((more.length : Nat) : Int) = 0)) == (decide (r56 = 0)))) (
 cond (decide (((more.length : Nat) : Int) = 0)) (
 let r57 : Bool := true
 some (.ret [.cl (.bool r57)] []))
 (
 cond (decide (r56 = 7)) (
 let r58 : Bool := true
 some (.ret [.cl (.bool r58)] []))
 (
 some (.ret [.cl (.bool false)] []))))
 (
 some (.ret [.cl (.bool false)] []))) none) none) none) none) none)) none) none) none)
 (
 let l59 : LI := [] ++ r10
 cond (decide (((l59.length : Nat) : Int) * 1 <= LIM)) (
 cond (decide (((l59.length : Nat) : Int) <= LIM)) (
 let l60 : LI := l59 ++ more
 cond (decide (((l60.length : Nat) : Int) * 1 <= LIM)) (
 cond (decide (((l60.length : Nat) : Int) <= LIM)) (
 cond (qac l60) (
 let r64 : Int := (qar l60).2
 cond (((decide (((more.length : Nat) : Int) = 0)) == (decide (r64 = 0)))) (
 cond (decide (((more.length : Nat) : Int) = 0)) (
 let r65 : Bool := true
 some (.ret [.cl (.bool r65)] []))
 (
 cond (decide (r64 = 7)) (
 let r66 : Bool := true
 some (.ret [.cl (.bool r66)] []))
 (
 some (.ret [.cl (.bool false)] []))))
 (
 some (.ret [.cl (.bool false)] []))) none) none) none) none) none))
 (
 let l67 : LI := [] ++ r10
 cond (decide (((l67.length : Nat) : Int) * 1 <= LIM)) (
 cond (decide (((l67.length : Nat) : Int) <= LIM)) (
 let l68 : LI := l67 ++ more
 cond (decide (((l68.length : Nat) : Int) * 1 <= LIM)) (
 cond (decide (((l68.length : Nat) : Int) <= LIM)) (
 cond (qac l68) (
 let r72 : Int := (qar l68).2
 cond (((decide (((more.length : Nat) : Int) = 0)) == (decide (r72 = 0)))) (
 cond (decide (((more.length : Nat) : Int) = 0)) (
 let r73 : Bool := true
 some (.ret [.cl (.bool r73)] []))
 (
 cond (decide (r72 = 7)) (
 let r74 : Bool := true
 some (.ret [.cl (.bool r74)] []))
 (
 some (.ret [.cl (.bool false)] []))))
 (
 some (.ret [.cl (.bool false)] []))) none) none) none) none) none))))) none) none)) none)) none))) none)) none
theorem gLAll_eq (ta : Int) (ba : LI) (ka : LC) (tb : Int) (bb : LI) (kb : LC) (pl : Int) (more : LI) : qco Tryd.prog (ELAll) 40 false Tryd.f5 [.cl (.agg [.int .i64 ta, .sli .u8 ba, .slg 3 ka]), .cl (.agg [.int .i64 tb, .sli .u8 bb, .slg 3 kb]), .cl (.int .i64 pl), .cl (.sli .u8 more)] [] = gLAll ta ba ka tb bb kb pl more := by kernel_rfl

abbrev zONums0 := Int -> Int -> LI -> Int -> Int -> Int -> LI -> Int -> Int -> Int -> Int -> Int -> Int -> Bool -> LI -> OO
abbrev zONums1 := Int -> Int -> LI -> Int -> Int -> Int -> LI -> Int -> Int -> Int -> Int -> Int -> Int -> Bool -> Int -> Bool -> LI -> OO
noncomputable def qml (l : Nat) (again : LI -> OO) (k0 : zONums0) (k1 : zONums1) (k2 : LI -> Int -> LI -> OO) (v1 : LI) : OO :=
 cond (decide ((0 : Int) < ((v1.length : Nat) : Int))) (
 cond (qac v1) (
 let r1 : Int := (qeo v1).1
 let r2 : Int := (qeo v1).2
 cond (Nat.beq l l) (
 yldO [.int .u32 r1, .bool (decide ((0 : Int) < r2))] (
 k0 r1 r2 v1 ((v1.length : Nat) : Int) r1 r2 v1 r1 r2 r1 r2 r1 r2 (decide ((0 : Int) < r2)) v1)
 (
 cond (decide (r2 = 0)) (
 k1 r1 r2 v1 ((v1.length : Nat) : Int) r1 r2 v1 r1 r2 r1 r2 r1 r2 (decide ((0 : Int) < r2)) r2 (decide (r2 = 0)) v1)
 (
 cond (decide ((0 : Int) <= r2)) (
 cond (decide (r2 <= ((v1.length : Nat) : Int))) (
 let l3 : LI := List.drop (Int.toNat r2) v1
 again l3) none) none))) none) none)
 (
 k2 v1 ((v1.length : Nat) : Int) v1)
noncomputable def qfb (l : Nat) (k0 : zONums0) (k1 : zONums1) (k2 : LI -> Int -> LI -> OO) : Nat -> LI -> OO
 | 0 => fun _ => none
 | n + 1 => qml l (qfb l k0 k1 k2 n) k0 k1 k2
noncomputable def ql7 (l : Nat) (k : KT) : zONums0 := fun y1 y2 y3 y4 y5 y6 y7 y8 y9 y10 y11 y12 y13 y14 y15 => k .ret ⟨[(0, .cl (.fn (.yield l) [] [])), (1, .ptr 0 0 0), (3, qD y1), (4, qI y2), (5, qS y3), (6, qI y4), (7, qB true), (8, .tup [qD y5, qI y6]), (9, qS y7), (10, .tup [qD y8, qI y9]), (11, qD y10), (12, qI y11), (13, .cl (.fn (.yield l) [] [])), (14, qD y12), (15, qI y13), (16, qB y14), (17, qB false), (18, qB true), (19, qB true), (20, .tup []), (21, .tup []), (22, qB true)], [(0, ⟨.var [qS y15], false⟩)]⟩
noncomputable def qlm (l : Nat) (k : KT) : zONums1 := fun y1 y2 y3 y4 y5 y6 y7 y8 y9 y10 y11 y12 y13 y14 y15 y16 y17 => k .ret ⟨[(0, .cl (.fn (.yield l) [] [])), (1, .ptr 0 0 0), (3, qD y1), (4, qI y2), (5, qS y3), (6, qI y4), (7, qB true), (8, .tup [qD y5, qI y6]), (9, qS y7), (10, .tup [qD y8, qI y9]), (11, qD y10), (12, qI y11), (13, .cl (.fn (.yield l) [] [])), (14, qD y12), (15, qI y13), (16, qB y14), (17, qB true), (18, qB false), (19, qB false), (20, qI y15), (21, qB y16), (22, qB true)], [(0, ⟨.var [qS y17], false⟩)]⟩
noncomputable def qly (l : Nat) (k : KT) : LI -> Int -> LI -> OO := fun y1 y2 y3 => k (.exit 0) ⟨[(0, .cl (.fn (.yield l) [] [])), (1, .ptr 0 0 0), (5, qS y1), (6, qI y2), (7, qB false)], [(0, ⟨.var [qS y3], false⟩)]⟩
noncomputable def LONums_0 (l : Nat) : St -> (KT) -> OO := fun σ k => match σ with
 | ⟨[(q1, .cl (.fn (.yield q2) [] [])), (q3, .ptr q4 q5 q6)], [(q7, ⟨.var [.cl (.sli .u8 v1)], false⟩)]⟩ => cond (Nat.beq q1 0 && Nat.beq q3 1 && Nat.beq q4 0 && Nat.beq q5 0 && Nat.beq q6 0 && Nat.beq q7 0 && Nat.beq l q2) (shut (qfb l (ql7 l k) (qlm l k) (qly l k) FUEL) v1) none
 | _ => none
noncomputable def EONums (l : Nat) : Env := {
 orc := fun g => cond (Nat.beq g 76) SONumber (fun _ _ => Tree.fail)
 pre := fun g => cond (Nat.beq g 76) preONumber (fun _ _ => true)
 live := fun r => cond (Nat.beq r 0) ([0, 1]) ([])
 glob := qca
 nt := 26
 lp := fun r => cond (Nat.beq r 0) (some (LONums_0 l)) (none)
 rg := false
 yn := l
 yl := fun r => cond (Nat.beq r 2) (some 4) (none)
}
noncomputable def qmn : Code := (Cd.fst (Cd.fst (Tryd.f75.body.getD .skip)))
theorem lpONums_0_step (l : Nat) (k : KT) (n : Nat) (v1 : LI) : qbi (n + 1) (qa3 Tryd.prog (EONums l) 40 qmn) (head (EONums l) 0) ⟨[(0, .cl (.fn (.yield l) [] [])), (1, .ptr 0 0 0)], [(0, ⟨.var [qS v1], false⟩)]⟩ k = qml l (fun v1 => qbi n (qa3 Tryd.prog (EONums l) 40 qmn) (head (EONums l) 0) ⟨[(0, .cl (.fn (.yield l) [] [])), (1, .ptr 0 0 0)], [(0, ⟨.var [qS v1], false⟩)]⟩ k) (ql7 l k) (qlm l k) (qly l k) v1 := by kernel_rfl
theorem lpONums_0_eq (l : Nat) (k : KT) : ∀ (n : Nat), ∀ (v1 : LI), qbi n (qa3 Tryd.prog (EONums l) 40 qmn) (head (EONums l) 0) ⟨[(0, .cl (.fn (.yield l) [] [])), (1, .ptr 0 0 0)], [(0, ⟨.var [qS v1], false⟩)]⟩ k = qfb l (ql7 l k) (qlm l k) (qly l k) n v1
 | 0 => by intros; rfl
 | n + 1 => by
  intros
  rw [lpONums_0_step]
  have ih := lpONums_0_eq l k n
  simp only [qfb, ih]
theorem LONums_0_ok (l : Nat) : ∀ (σ : St) (k : KT) (r : Out), LONums_0 l σ k = some r -> ∃ n, qbi n (qa3 Tryd.prog (EONums l) 40 qmn) (head (EONums l) 0) σ k = some r := by
 intro σ k r h
 unfold LONums_0 at h
 split at h
 ·replace h := qaa h
  obtain ⟨hc, h⟩ := h
  simp only [Bool.and_eq_true, qbb, decide_eq_true_eq, Bool.not_eq_true'] at hc
  obtain ⟨⟨⟨⟨⟨⟨rfl, rfl⟩, rfl⟩, rfl⟩, rfl⟩, rfl⟩, rfl⟩ := hc
  rw [qae] at h
  exact ⟨FUEL, (lpONums_0_eq l k FUEL _ ).trans h⟩
 ·cases h
theorem loopsONums (l : Nat) : ∀ c, Tryd.f75.body = some c -> qaq Tryd.prog (EONums l) 40 c := by
 intro c hc
 cases hc
 exact ⟨qal _ (by kernel_rfl), qcc rfl (LONums_0_ok l)⟩
noncomputable def gONums (l : Nat) (b : LI) : OO :=
 cond (Nat.beq l l) (
 shut (qfb l
 (fun y1 y2 y3 y4 y5 y6 y7 y8 y9 y10 y11 y12 y13 y14 y15 =>
 some (.ret [] [some ⟨.var [.cl (.sli .u8 y15)], false⟩]))
 (fun y16 y17 y18 y19 y20 y21 y22 y23 y24 y25 y26 y27 y28 y29 y30 y31 y32 =>
 some (.ret [] [some ⟨.var [.cl (.sli .u8 y32)], false⟩]))
 (fun y33 y34 y35 =>
 some (.ret [] [some ⟨.var [.cl (.sli .u8 y35)], false⟩]))
 FUEL) b) none
theorem gONums_eq (l : Nat) (b : LI) : qco Tryd.prog (EONums l) 40 false Tryd.f75 [.cl (.fn (.yield l) [] []), .ptr 0 0 0] [⟨.var [.cl (.sli .u8 b)], false⟩] = gONums l b := by kernel_rfl

noncomputable def EDCatch : Env := {
 orc := fun _ => fun _ _ => Tree.fail
 pre := fun _ => fun _ _ => true
 glob := qca
 nt := 19
 rg := false
}
theorem loopsDCatch : ∀ c, Tryd.f21.body = some c -> qaq Tryd.prog (EDCatch) 40 c := by
 intro c hc
 cases hc
 exact qal _ (by kernel_rfl)
noncomputable def gDCatch_0 (t : Int) (bb : LI) (kk : LC) (e : Int) : OO :=
 some (.ret [] [some ⟨.var [.cl (.int .i64 t), .cl (.sli .u8 bb), .cl (.slg 3 kk)], false⟩, some ⟨.var [.cl (.int .i64 e)], false⟩])
theorem gDCatch_0_eq (t : Int) (bb : LI) (kk : LC) (e : Int) : recK Tryd.prog (EDCatch) 40 Tryd.f21 (none) [.ptr 0 0 0, .ptr 1 0 0] [⟨.var [.cl (.int .i64 t), .cl (.sli .u8 bb), .cl (.slg 3 kk)], false⟩, ⟨.var [.cl (.int .i64 e)], false⟩] = gDCatch_0 t bb kk e := by kernel_rfl
noncomputable def gDCatch_1 (why : Int) (t : Int) (bb : LI) (kk : LC) (e : Int) : OO :=
 some (.ret [] [some ⟨.var [.cl (.int .i64 0), .nils, .nils], false⟩, some ⟨.var [.cl (.int .i64 why)], false⟩])
theorem gDCatch_1_eq (why : Int) (t : Int) (bb : LI) (kk : LC) (e : Int) : recK Tryd.prog (EDCatch) 40 Tryd.f21 (some (.iface 47 (.agg [.int .i64 why]))) [.ptr 0 0 0, .ptr 1 0 0] [⟨.var [.cl (.int .i64 t), .cl (.sli .u8 bb), .cl (.slg 3 kk)], false⟩, ⟨.var [.cl (.int .i64 e)], false⟩] = gDCatch_1 why t bb kk e := by kernel_rfl
noncomputable def gDCatch_2 (why : Int) (t : Int) (e : Int) : OO :=
 some (.ret [] [some ⟨.var [.cl (.int .i64 0), .nils, .nils], false⟩, some ⟨.var [.cl (.int .i64 why)], false⟩])
theorem gDCatch_2_eq (why : Int) (t : Int) (e : Int) : recK Tryd.prog (EDCatch) 40 Tryd.f21 (some (.iface 47 (.agg [.int .i64 why]))) [.ptr 0 0 0, .ptr 1 0 0] [⟨.var [.cl (.int .i64 t), .nils, .nils], false⟩, ⟨.var [.cl (.int .i64 e)], false⟩] = gDCatch_2 why t e := by kernel_rfl
end Go.Proofs.YtbgkadaidhgggaaDoorA
