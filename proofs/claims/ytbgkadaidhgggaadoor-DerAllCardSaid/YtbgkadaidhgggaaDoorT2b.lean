/-
 What the reading of apostille/apostilleref05.rune1 comes to, printed by a program. Conditions: none.
-/
import Derived.Test.YtbgkadaidhgggaaDoorT1
set_option linter.unusedVariables false
set_option linter.unusedSimpArgs false
set_option maxRecDepth 100000
namespace Go.Proofs.YtbgkadaidhgggaaDoorA
abbrev qp0 := LI -> Int -> Int -> Int -> Bool -> Int -> Bool -> Bool -> LI -> Int -> Int -> Int -> Bool -> Int -> Bool -> OO
abbrev qeh := LI -> Int -> Int -> Int -> Bool -> Int -> Bool -> Bool -> LI -> Int -> Int -> Int -> Bool -> Int -> Bool -> LI -> Int -> Int -> LI -> Nat -> Int -> Bool -> Bool -> Bool -> OO
abbrev qov := LI -> Int -> Int -> Int -> Bool -> Int -> Bool -> Bool -> LI -> Int -> Int -> Int -> Bool -> LI -> Int -> Int -> LI -> Nat -> Int -> Bool -> Bool -> Bool -> Int -> Bool -> OO
abbrev qeg := LI -> Int -> Int -> Int -> Bool -> Int -> Bool -> Bool -> LI -> Int -> Int -> Int -> Bool -> LI -> Int -> Int -> LI -> Nat -> Int -> Bool -> Bool -> Bool -> Int -> Bool -> LI -> Int -> Int -> LI -> Nat -> Int -> Bool -> Bool -> Bool -> OO
abbrev qp5 := LI -> Int -> Int -> Int -> Bool -> Int -> Bool -> Bool -> LI -> Int -> Int -> Int -> Bool -> LI -> Int -> Int -> LI -> Nat -> Int -> Bool -> Bool -> Bool -> OO
abbrev qps := LI -> Int -> Int -> Int -> Bool -> Int -> Bool -> Bool -> LI -> Int -> Int -> OO
abbrev qbd := LI -> Int -> Int -> Int -> Bool -> Int -> Bool -> Bool -> OO
abbrev qb0 := LI -> Int -> Int -> Int -> Bool -> OO
abbrev zRRune8 := LI -> Int -> Int -> Int -> Bool -> Int -> Bool -> Bool -> Int -> Bool -> Int -> Bool -> OO
abbrev zRRune9 := LI -> Int -> Int -> Int -> Bool -> Int -> Bool -> Bool -> Int -> Bool -> Int -> Bool -> LI -> Int -> Int -> LI -> Nat -> Int -> Bool -> Bool -> Bool -> OO
abbrev qoi := LI -> Int -> Int -> Int -> Bool -> Int -> Bool -> Bool -> Int -> Bool -> LI -> Int -> Int -> LI -> Nat -> Int -> Bool -> Bool -> Bool -> Int -> Bool -> OO
abbrev qn8 := LI -> Int -> Int -> Int -> Bool -> Int -> Bool -> Bool -> Int -> Bool -> LI -> Int -> Int -> LI -> Nat -> Int -> Bool -> Bool -> Bool -> Int -> Bool -> LI -> Int -> Int -> LI -> Nat -> Int -> Bool -> Bool -> Bool -> OO
noncomputable def qd7 (k0 : qp0) (k1 : qeh) (k2 : qeh) (k3 : qov) (k4 : qeg) (k5 : qeg) (k6 : qp5) (k7 : qps) (k8 : qbd) (k9 : qb0) (v1 : LI) (v2 v3 : Int) : OO :=
 cond (decide ((240 : Int) <= v3)) (
 cond (decide (v3 <= 244)) (
 let x8 : Int := IntKind.i64.wrap (v2 + 3)
 cond (decide (0 <= x8)) (
 let r9 : Bool := u8Cont v1 x8
 cond (r9) (
 cond (!decide (v3 = 240)) (
 cond (!decide (v3 = 244)) (
 k0 v1 v2 v3 v3 (decide ((240 : Int) <= v3)) v3 (decide (v3 <= 244)) (decide (v3 <= 244)) v1 v2 x8 v3 (!decide (v3 = 240)) v3 (!decide (v3 = 244)))
 (
 let x10 : Int := IntKind.i64.wrap (v2 + 1)
 cond (decide ((0 : Int) <= x10)) (
 cond (decide (x10 < ((v1.length : Nat) : Int))) (
 Option.bind (v1[(Int.toNat x10)]?) fun (e11 : Int) =>
 cond (decide (e11 < 144)) (
 k1 v1 v2 v3 v3 (decide ((240 : Int) <= v3)) v3 (decide (v3 <= 244)) (decide (v3 <= 244)) v1 v2 x8 v3 (!decide (v3 = 240)) v3 (!decide (v3 = 244)) v1 v2 x10 v1 (Int.toNat x10) e11 (decide (e11 < 144)) (decide (e11 < 144)) (decide (e11 < 144)))
 (
 k2 v1 v2 v3 v3 (decide ((240 : Int) <= v3)) v3 (decide (v3 <= 244)) (decide (v3 <= 244)) v1 v2 x8 v3 (!decide (v3 = 240)) v3 (!decide (v3 = 244)) v1 v2 x10 v1 (Int.toNat x10) e11 (decide (e11 < 144)) (decide (e11 < 144)) (decide (e11 < 144)))) none) none))
 (
 let x12 : Int := IntKind.i64.wrap (v2 + 1)
 cond (decide ((0 : Int) <= x12)) (
 cond (decide (x12 < ((v1.length : Nat) : Int))) (
 Option.bind (v1[(Int.toNat x12)]?) fun (e13 : Int) =>
 cond (decide ((144 : Int) <= e13)) (
 cond (!decide (v3 = 244)) (
 k3 v1 v2 v3 v3 (decide ((240 : Int) <= v3)) v3 (decide (v3 <= 244)) (decide (v3 <= 244)) v1 v2 x8 v3 (!decide (v3 = 240)) v1 v2 x12 v1 (Int.toNat x12) e13 (decide ((144 : Int) <= e13)) (decide ((144 : Int) <= e13)) (decide ((144 : Int) <= e13)) v3 (!decide (v3 = 244)))
 (
 let x14 : Int := IntKind.i64.wrap (v2 + 1)
 cond (decide ((0 : Int) <= x14)) (
 cond (decide (x14 < ((v1.length : Nat) : Int))) (
 Option.bind (v1[(Int.toNat x14)]?) fun (e15 : Int) =>
 cond (decide (e15 < 144)) (
 k4 v1 v2 v3 v3 (decide ((240 : Int) <= v3)) v3 (decide (v3 <= 244)) (decide (v3 <= 244)) v1 v2 x8 v3 (!decide (v3 = 240)) v1 v2 x12 v1 (Int.toNat x12) e13 (decide ((144 : Int) <= e13)) (decide ((144 : Int) <= e13)) (decide ((144 : Int) <= e13)) v3 (!decide (v3 = 244)) v1 v2 x14 v1 (Int.toNat x14) e15 (decide (e15 < 144)) (decide (e15 < 144)) (decide (e15 < 144)))
 (
 k5 v1 v2 v3 v3 (decide ((240 : Int) <= v3)) v3 (decide (v3 <= 244)) (decide (v3 <= 244)) v1 v2 x8 v3 (!decide (v3 = 240)) v1 v2 x12 v1 (Int.toNat x12) e13 (decide ((144 : Int) <= e13)) (decide ((144 : Int) <= e13)) (decide ((144 : Int) <= e13)) v3 (!decide (v3 = 244)) v1 v2 x14 v1 (Int.toNat x14) e15 (decide (e15 < 144)) (decide (e15 < 144)) (decide (e15 < 144)))) none) none))
 (
 k6 v1 v2 v3 v3 (decide ((240 : Int) <= v3)) v3 (decide (v3 <= 244)) (decide (v3 <= 244)) v1 v2 x8 v3 (!decide (v3 = 240)) v1 v2 x12 v1 (Int.toNat x12) e13 (decide ((144 : Int) <= e13)) (decide ((144 : Int) <= e13)) (decide ((144 : Int) <= e13)))) none) none))
 (
 k7 v1 v2 v3 v3 (decide ((240 : Int) <= v3)) v3 (decide (v3 <= 244)) (decide (v3 <= 244)) v1 v2 x8)) none)
 (
 k8 v1 v2 v3 v3 (decide ((240 : Int) <= v3)) v3 (decide (v3 <= 244)) (decide (v3 <= 244))))
 (
 k9 v1 v2 v3 v3 (decide ((240 : Int) <= v3)))
noncomputable def qm4 (k0 : zRRune8) (k1 : zRRune9) (k2 : qp0) (k3 : qeh) (k4 : qeh) (k5 : qov) (k6 : qeg) (k7 : qeg) (k8 : qp5) (k9 : qps) (k10 : qbd) (k11 : qb0) (k12 : qoi) (k13 : qn8) (v1 : LI) (v2 v3 : Int) : OO :=
 cond (decide ((224 : Int) <= v3)) (
 cond (decide (v3 <= 239)) (
 cond (!decide (v3 = 224)) (
 cond (!decide (v3 = 237)) (
 k0 v1 v2 v3 v3 (decide ((224 : Int) <= v3)) v3 (decide (v3 <= 239)) (decide (v3 <= 239)) v3 (!decide (v3 = 224)) v3 (!decide (v3 = 237)))
 (
 let x6 : Int := IntKind.i64.wrap (v2 + 1)
 cond (decide ((0 : Int) <= x6)) (
 cond (decide (x6 < ((v1.length : Nat) : Int))) (
 Option.bind (v1[(Int.toNat x6)]?) fun (e7 : Int) =>
 cond (decide (e7 < 160)) (
 k1 v1 v2 v3 v3 (decide ((224 : Int) <= v3)) v3 (decide (v3 <= 239)) (decide (v3 <= 239)) v3 (!decide (v3 = 224)) v3 (!decide (v3 = 237)) v1 v2 x6 v1 (Int.toNat x6) e7 (decide (e7 < 160)) (decide (e7 < 160)) (decide (e7 < 160)))
 (
 shut (qd7
 k2
 k3
 k4
 k5
 k6
 k7
 k8
 k9
 k10
 k11) v1 v2 v3)) none) none))
 (
 let x207 : Int := IntKind.i64.wrap (v2 + 1)
 cond (decide ((0 : Int) <= x207)) (
 cond (decide (x207 < ((v1.length : Nat) : Int))) (
 Option.bind (v1[(Int.toNat x207)]?) fun (e208 : Int) =>
 cond (decide ((160 : Int) <= e208)) (
 cond (!decide (v3 = 237)) (
 k12 v1 v2 v3 v3 (decide ((224 : Int) <= v3)) v3 (decide (v3 <= 239)) (decide (v3 <= 239)) v3 (!decide (v3 = 224)) v1 v2 x207 v1 (Int.toNat x207) e208 (decide ((160 : Int) <= e208)) (decide ((160 : Int) <= e208)) (decide ((160 : Int) <= e208)) v3 (!decide (v3 = 237)))
 (
 let x209 : Int := IntKind.i64.wrap (v2 + 1)
 cond (decide ((0 : Int) <= x209)) (
 cond (decide (x209 < ((v1.length : Nat) : Int))) (
 Option.bind (v1[(Int.toNat x209)]?) fun (e210 : Int) =>
 cond (decide (e210 < 160)) (
 k13 v1 v2 v3 v3 (decide ((224 : Int) <= v3)) v3 (decide (v3 <= 239)) (decide (v3 <= 239)) v3 (!decide (v3 = 224)) v1 v2 x207 v1 (Int.toNat x207) e208 (decide ((160 : Int) <= e208)) (decide ((160 : Int) <= e208)) (decide ((160 : Int) <= e208)) v3 (!decide (v3 = 237)) v1 v2 x209 v1 (Int.toNat x209) e210 (decide (e210 < 160)) (decide (e210 < 160)) (decide (e210 < 160)))
 (
 shut (qd7
 k2
 k3
 k4
 k5
 k6
 k7
 k8
 k9
 k10
 k11) v1 v2 v3)) none) none))
 (
 shut (qd7
 k2
 k3
 k4
 k5
 k6
 k7
 k8
 k9
 k10
 k11) v1 v2 v3)) none) none))
 (
 shut (qd7
 k2
 k3
 k4
 k5
 k6
 k7
 k8
 k9
 k10
 k11) v1 v2 v3))
 (
 shut (qd7
 k2
 k3
 k4
 k5
 k6
 k7
 k8
 k9
 k10
 k11) v1 v2 v3)
noncomputable def qqi (k0 : qbd) (k1 : zRRune8) (k2 : zRRune9) (k3 : qp0) (k4 : qeh) (k5 : qeh) (k6 : qov) (k7 : qeg) (k8 : qeg) (k9 : qp5) (k10 : qps) (k11 : qbd) (k12 : qb0) (k13 : qoi) (k14 : qn8) (v1 : LI) (v2 v3 : Int) : OO :=
 cond (decide ((194 : Int) <= v3)) (
 cond (decide (v3 <= 223)) (
 k0 v1 v2 v3 v3 (decide ((194 : Int) <= v3)) v3 (decide (v3 <= 223)) (decide (v3 <= 223)))
 (
 shut (qm4
 k1
 k2
 k3
 k4
 k5
 k6
 k7
 k8
 k9
 k10
 k11
 k12
 k13
 k14) v1 v2 v3))
 (
 shut (qm4
 k1
 k2
 k3
 k4
 k5
 k6
 k7
 k8
 k9
 k10
 k11
 k12
 k13
 k14) v1 v2 v3)
noncomputable def qqt (k0 : qb0) (k1 : qbd) (k2 : zRRune8) (k3 : zRRune9) (k4 : qp0) (k5 : qeh) (k6 : qeh) (k7 : qov) (k8 : qeg) (k9 : qeg) (k10 : qp5) (k11 : qps) (k12 : qbd) (k13 : qb0) (k14 : qoi) (k15 : qn8) (v1 : LI) (v2 v3 : Int) : OO :=
 cond (decide (v3 < 128)) (
 k0 v1 v2 v3 v3 (decide (v3 < 128)))
 (
 shut (qqi
 k1
 k2
 k3
 k4
 k5
 k6
 k7
 k8
 k9
 k10
 k11
 k12
 k13
 k14
 k15) v1 v2 v3)
noncomputable def qdv (k0 : qbd) (k1 : qbd) (k2 : qb0) (v1 : LI) (v2 v3 : Int) : OO :=
 cond (decide ((240 : Int) <= v3)) (
 cond (decide (v3 <= 244)) (
 k0 v1 v2 v3 v3 (decide ((240 : Int) <= v3)) v3 (decide (v3 <= 244)) (decide (v3 <= 244)))
 (
 k1 v1 v2 v3 v3 (decide ((240 : Int) <= v3)) v3 (decide (v3 <= 244)) (decide (v3 <= 244))))
 (
 k2 v1 v2 v3 v3 (decide ((240 : Int) <= v3)))
noncomputable def qc7 (k0 : qbd) (k1 : qbd) (k2 : qb0) (v1 : LI) (v2 v3 : Int) : OO :=
 cond (decide ((224 : Int) <= v3)) (
 cond (decide (v3 <= 239)) (
 shut (qdv
 k0
 k1
 k2) v1 v2 v3)
 (
 shut (qdv
 k0
 k1
 k2) v1 v2 v3))
 (
 shut (qdv
 k0
 k1
 k2) v1 v2 v3)
noncomputable def qk3 (k0 : qbd) (k1 : qbd) (k2 : qbd) (k3 : qb0) (v1 : LI) (v2 v3 : Int) : OO :=
 cond (decide ((194 : Int) <= v3)) (
 cond (decide (v3 <= 223)) (
 k0 v1 v2 v3 v3 (decide ((194 : Int) <= v3)) v3 (decide (v3 <= 223)) (decide (v3 <= 223)))
 (
 shut (qc7
 k1
 k2
 k3) v1 v2 v3))
 (
 shut (qc7
 k1
 k2
 k3) v1 v2 v3)
noncomputable def qkv (k0 : qb0) (k1 : qbd) (k2 : qbd) (k3 : qbd) (k4 : qb0) (v1 : LI) (v2 v3 : Int) : OO :=
 cond (decide (v3 < 128)) (
 k0 v1 v2 v3 v3 (decide (v3 < 128)))
 (
 shut (qk3
 k1
 k2
 k3
 k4) v1 v2 v3)
noncomputable def qj5 (k0 : qbd) (k1 : qbd) (k2 : qb0) (v1 : LI) (v2 v3 : Int) : OO :=
 cond (decide ((194 : Int) <= v3)) (
 cond (decide (v3 <= 223)) (
 shut (qc7
 k0
 k1
 k2) v1 v2 v3)
 (
 shut (qc7
 k0
 k1
 k2) v1 v2 v3))
 (
 shut (qc7
 k0
 k1
 k2) v1 v2 v3)
noncomputable def qjx (k0 : qb0) (k1 : qbd) (k2 : qbd) (k3 : qb0) (v1 : LI) (v2 v3 : Int) : OO :=
 cond (decide (v3 < 128)) (
 k0 v1 v2 v3 v3 (decide (v3 < 128)))
 (
 shut (qj5
 k1
 k2
 k3) v1 v2 v3)
noncomputable def qri (k : KT) : qb0 := fun y1 y2 y3 y4 y5 => k .ret ⟨[(0, qS y1), (1, qI y2), (4, qI 1), (5, qU y3), (6, qB true), (7, qB true), (23, qB true), (24, qU y4), (25, qB y5)], []⟩
noncomputable def cjnRRune_4_1 (k : KT) : qbd := fun y1 y2 y3 y4 y5 y6 y7 y8 => k .ret ⟨[(0, qS y1), (1, qI y2), (4, qI 2), (5, qU y3), (6, qB true), (7, qB true), (26, qB true), (27, qU y4), (28, qB y5), (29, qB true), (30, qU y6), (31, qB y7), (32, qB y8), (33, qB true), (34, qB true), (35, qB true)], []⟩
noncomputable def qr7 (k : KT) : zRRune8 := fun y1 y2 y3 y4 y5 y6 y7 y8 y9 y10 y11 y12 => k .ret ⟨[(0, qS y1), (1, qI y2), (4, qI 3), (5, qU y3), (7, qB true), (36, qB true), (37, qU y4), (38, qB y5), (39, qB true), (40, qU y6), (41, qB y7), (42, qB y8), (43, qB true), (44, qB true), (45, qB true), (46, qB true), (47, qU y9), (48, qB y10), (49, qB true), (50, .tup []), (51, .tup []), (52, .tup []), (53, .tup []), (54, .tup []), (55, .tup []), (56, qB true), (57, qB true), (58, qB true), (59, qU y11), (60, qB y12), (61, qB true), (62, .tup []), (63, .tup []), (64, .tup []), (65, .tup []), (66, .tup []), (67, .tup []), (68, qB true), (69, qB true)], []⟩
noncomputable def cjnRRune_4_3 (k : KT) : zRRune9 := fun y1 y2 y3 y4 y5 y6 y7 y8 y9 y10 y11 y12 y13 y14 y15 y16 y17 y18 y19 y20 y21 => k .ret ⟨[(0, qS y1), (1, qI y2), (4, qI 3), (5, qU y3), (7, qB true), (36, qB true), (37, qU y4), (38, qB y5), (39, qB true), (40, qU y6), (41, qB y7), (42, qB y8), (43, qB true), (44, qB true), (45, qB true), (46, qB true), (47, qU y9), (48, qB y10), (49, qB true), (50, .tup []), (51, .tup []), (52, .tup []), (53, .tup []), (54, .tup []), (55, .tup []), (56, qB true), (57, qB true), (58, qB true), (59, qU y11), (60, qB y12), (61, qB false), (62, qS y13), (63, qI y14), (64, qI y15), (65, .cl (.vp (.sli .u8 y16) y17 0)), (66, qU y18), (67, qB y19), (68, qB y20), (69, qB y21)], []⟩
noncomputable def cjnRRune_4_4 (k : KT) : qp0 := fun y1 y2 y3 y4 y5 y6 y7 y8 y9 y10 y11 y12 y13 y14 y15 => k .ret ⟨[(0, qS y1), (1, qI y2), (4, qI 4), (5, qU y3), (7, qB true), (70, qB true), (71, qU y4), (72, qB y5), (73, qB true), (74, qU y6), (75, qB y7), (76, qB y8), (77, qB true), (78, qB true), (79, qB true), (80, qB true), (81, qS y9), (82, qI y10), (83, qI y11), (84, qB true), (85, qB true), (86, qB true), (87, qU y12), (88, qB y13), (89, qB true), (90, .tup []), (91, .tup []), (92, .tup []), (93, .tup []), (94, .tup []), (95, .tup []), (96, qB true), (97, qB true), (98, qB true), (99, qU y14), (100, qB y15), (101, qB true), (102, .tup []), (103, .tup []), (104, .tup []), (105, .tup []), (106, .tup []), (107, .tup []), (108, qB true), (109, qB true)], []⟩
noncomputable def cjnRRune_4_5 (k : KT) : qeh := fun y1 y2 y3 y4 y5 y6 y7 y8 y9 y10 y11 y12 y13 y14 y15 y16 y17 y18 y19 y20 y21 y22 y23 y24 => k .ret ⟨[(0, qS y1), (1, qI y2), (4, qI 4), (5, qU y3), (7, qB true), (70, qB true), (71, qU y4), (72, qB y5), (73, qB true), (74, qU y6), (75, qB y7), (76, qB y8), (77, qB true), (78, qB true), (79, qB true), (80, qB true), (81, qS y9), (82, qI y10), (83, qI y11), (84, qB true), (85, qB true), (86, qB true), (87, qU y12), (88, qB y13), (89, qB true), (90, .tup []), (91, .tup []), (92, .tup []), (93, .tup []), (94, .tup []), (95, .tup []), (96, qB true), (97, qB true), (98, qB true), (99, qU y14), (100, qB y15), (101, qB false), (102, qS y16), (103, qI y17), (104, qI y18), (105, .cl (.vp (.sli .u8 y19) y20 0)), (106, qU y21), (107, qB y22), (108, qB y23), (109, qB y24)], []⟩
noncomputable def cjnRRune_4_6 (k : KT) : qeh := fun y1 y2 y3 y4 y5 y6 y7 y8 y9 y10 y11 y12 y13 y14 y15 y16 y17 y18 y19 y20 y21 y22 y23 y24 => k .ret ⟨[(0, qS y1), (1, qI y2), (4, qI 0), (5, qU y3), (7, qB true), (70, qB false), (71, qU y4), (72, qB y5), (73, qB true), (74, qU y6), (75, qB y7), (76, qB y8), (77, qB true), (78, qB true), (79, qB true), (80, qB true), (81, qS y9), (82, qI y10), (83, qI y11), (84, qB true), (85, qB true), (86, qB true), (87, qU y12), (88, qB y13), (89, qB true), (90, .tup []), (91, .tup []), (92, .tup []), (93, .tup []), (94, .tup []), (95, .tup []), (96, qB true), (97, qB true), (98, qB true), (99, qU y14), (100, qB y15), (101, qB false), (102, qS y16), (103, qI y17), (104, qI y18), (105, .cl (.vp (.sli .u8 y19) y20 0)), (106, qU y21), (107, qB y22), (108, qB y23), (109, qB y24)], []⟩
noncomputable def cjnRRune_4_7 (k : KT) : qov := fun y1 y2 y3 y4 y5 y6 y7 y8 y9 y10 y11 y12 y13 y14 y15 y16 y17 y18 y19 y20 y21 y22 y23 y24 => k .ret ⟨[(0, qS y1), (1, qI y2), (4, qI 4), (5, qU y3), (7, qB true), (70, qB true), (71, qU y4), (72, qB y5), (73, qB true), (74, qU y6), (75, qB y7), (76, qB y8), (77, qB true), (78, qB true), (79, qB true), (80, qB true), (81, qS y9), (82, qI y10), (83, qI y11), (84, qB true), (85, qB true), (86, qB true), (87, qU y12), (88, qB y13), (89, qB false), (90, qS y14), (91, qI y15), (92, qI y16), (93, .cl (.vp (.sli .u8 y17) y18 0)), (94, qU y19), (95, qB y20), (96, qB y21), (97, qB y22), (98, qB true), (99, qU y23), (100, qB y24), (101, qB true), (102, .tup []), (103, .tup []), (104, .tup []), (105, .tup []), (106, .tup []), (107, .tup []), (108, qB true), (109, qB true)], []⟩
noncomputable def qq7 (k : KT) : qeg := fun y1 y2 y3 y4 y5 y6 y7 y8 y9 y10 y11 y12 y13 y14 y15 y16 y17 y18 y19 y20 y21 y22 y23 y24 y25 y26 y27 y28 y29 y30 y31 y32 y33 => k .ret ⟨[(0, qS y1), (1, qI y2), (4, qI 4), (5, qU y3), (7, qB true), (70, qB true), (71, qU y4), (72, qB y5), (73, qB true), (74, qU y6), (75, qB y7), (76, qB y8), (77, qB true), (78, qB true), (79, qB true), (80, qB true), (81, qS y9), (82, qI y10), (83, qI y11), (84, qB true), (85, qB true), (86, qB true), (87, qU y12), (88, qB y13), (89, qB false), (90, qS y14), (91, qI y15), (92, qI y16), (93, .cl (.vp (.sli .u8 y17) y18 0)), (94, qU y19), (95, qB y20), (96, qB y21), (97, qB y22), (98, qB true), (99, qU y23), (100, qB y24), (101, qB false), (102, qS y25), (103, qI y26), (104, qI y27), (105, .cl (.vp (.sli .u8 y28) y29 0)), (106, qU y30), (107, qB y31), (108, qB y32), (109, qB y33)], []⟩
noncomputable def cjnRRune_4_9 (k : KT) : qeg := fun y1 y2 y3 y4 y5 y6 y7 y8 y9 y10 y11 y12 y13 y14 y15 y16 y17 y18 y19 y20 y21 y22 y23 y24 y25 y26 y27 y28 y29 y30 y31 y32 y33 => k .ret ⟨[(0, qS y1), (1, qI y2), (4, qI 0), (5, qU y3), (7, qB true), (70, qB false), (71, qU y4), (72, qB y5), (73, qB true), (74, qU y6), (75, qB y7), (76, qB y8), (77, qB true), (78, qB true), (79, qB true), (80, qB true), (81, qS y9), (82, qI y10), (83, qI y11), (84, qB true), (85, qB true), (86, qB true), (87, qU y12), (88, qB y13), (89, qB false), (90, qS y14), (91, qI y15), (92, qI y16), (93, .cl (.vp (.sli .u8 y17) y18 0)), (94, qU y19), (95, qB y20), (96, qB y21), (97, qB y22), (98, qB true), (99, qU y23), (100, qB y24), (101, qB false), (102, qS y25), (103, qI y26), (104, qI y27), (105, .cl (.vp (.sli .u8 y28) y29 0)), (106, qU y30), (107, qB y31), (108, qB y32), (109, qB y33)], []⟩
noncomputable def qpz (k : KT) : qp5 := fun y1 y2 y3 y4 y5 y6 y7 y8 y9 y10 y11 y12 y13 y14 y15 y16 y17 y18 y19 y20 y21 y22 => k .ret ⟨[(0, qS y1), (1, qI y2), (4, qI 0), (5, qU y3), (7, qB true), (70, qB false), (71, qU y4), (72, qB y5), (73, qB true), (74, qU y6), (75, qB y7), (76, qB y8), (77, qB true), (78, qB true), (79, qB true), (80, qB true), (81, qS y9), (82, qI y10), (83, qI y11), (84, qB true), (85, qB true), (86, qB true), (87, qU y12), (88, qB y13), (89, qB false), (90, qS y14), (91, qI y15), (92, qI y16), (93, .cl (.vp (.sli .u8 y17) y18 0)), (94, qU y19), (95, qB y20), (96, qB y21), (97, qB y22), (98, qB false), (99, .tup []), (100, .tup []), (101, .tup []), (102, .tup []), (103, .tup []), (104, .tup []), (105, .tup []), (106, .tup []), (107, .tup []), (108, .tup []), (109, qB false)], []⟩
noncomputable def qp9 (k : KT) : qps := fun y1 y2 y3 y4 y5 y6 y7 y8 y9 y10 y11 => k .ret ⟨[(0, qS y1), (1, qI y2), (4, qI 0), (5, qU y3), (7, qB true), (70, qB false), (71, qU y4), (72, qB y5), (73, qB true), (74, qU y6), (75, qB y7), (76, qB y8), (77, qB true), (78, qB true), (79, qB true), (80, qB true), (81, qS y9), (82, qI y10), (83, qI y11), (84, qB false), (85, qB false), (86, qB false), (87, .tup []), (88, .tup []), (89, .tup []), (90, .tup []), (91, .tup []), (92, .tup []), (93, .tup []), (94, .tup []), (95, .tup []), (96, .tup []), (97, qB false), (98, qB false), (99, .tup []), (100, .tup []), (101, .tup []), (102, .tup []), (103, .tup []), (104, .tup []), (105, .tup []), (106, .tup []), (107, .tup []), (108, .tup []), (109, qB false)], []⟩
noncomputable def qo4 (k : KT) : qbd := fun y1 y2 y3 y4 y5 y6 y7 y8 => k .ret ⟨[(0, qS y1), (1, qI y2), (4, qI 0), (5, qU y3), (7, qB true), (70, qB false), (71, qU y4), (72, qB y5), (73, qB true), (74, qU y6), (75, qB y7), (76, qB y8), (77, qB false), (78, .tup []), (79, qB false), (80, qB false), (81, .tup []), (82, .tup []), (83, .tup []), (84, .tup []), (85, qB false), (86, qB false), (87, .tup []), (88, .tup []), (89, .tup []), (90, .tup []), (91, .tup []), (92, .tup []), (93, .tup []), (94, .tup []), (95, .tup []), (96, .tup []), (97, qB false), (98, qB false), (99, .tup []), (100, .tup []), (101, .tup []), (102, .tup []), (103, .tup []), (104, .tup []), (105, .tup []), (106, .tup []), (107, .tup []), (108, .tup []), (109, qB false)], []⟩
noncomputable def qo6 (k : KT) : qb0 := fun y1 y2 y3 y4 y5 => k .ret ⟨[(0, qS y1), (1, qI y2), (4, qI 0), (5, qU y3), (7, qB true), (70, qB false), (71, qU y4), (72, qB y5), (73, qB false), (74, .tup []), (75, .tup []), (76, qB false), (77, qB false), (78, .tup []), (79, qB false), (80, qB false), (81, .tup []), (82, .tup []), (83, .tup []), (84, .tup []), (85, qB false), (86, qB false), (87, .tup []), (88, .tup []), (89, .tup []), (90, .tup []), (91, .tup []), (92, .tup []), (93, .tup []), (94, .tup []), (95, .tup []), (96, .tup []), (97, qB false), (98, qB false), (99, .tup []), (100, .tup []), (101, .tup []), (102, .tup []), (103, .tup []), (104, .tup []), (105, .tup []), (106, .tup []), (107, .tup []), (108, .tup []), (109, qB false)], []⟩
noncomputable def qpw (k : KT) : qoi := fun y1 y2 y3 y4 y5 y6 y7 y8 y9 y10 y11 y12 y13 y14 y15 y16 y17 y18 y19 y20 y21 => k .ret ⟨[(0, qS y1), (1, qI y2), (4, qI 3), (5, qU y3), (7, qB true), (36, qB true), (37, qU y4), (38, qB y5), (39, qB true), (40, qU y6), (41, qB y7), (42, qB y8), (43, qB true), (44, qB true), (45, qB true), (46, qB true), (47, qU y9), (48, qB y10), (49, qB false), (50, qS y11), (51, qI y12), (52, qI y13), (53, .cl (.vp (.sli .u8 y14) y15 0)), (54, qU y16), (55, qB y17), (56, qB y18), (57, qB y19), (58, qB true), (59, qU y20), (60, qB y21), (61, qB true), (62, .tup []), (63, .tup []), (64, .tup []), (65, .tup []), (66, .tup []), (67, .tup []), (68, qB true), (69, qB true)], []⟩
noncomputable def qpe (k : KT) : qn8 := fun y1 y2 y3 y4 y5 y6 y7 y8 y9 y10 y11 y12 y13 y14 y15 y16 y17 y18 y19 y20 y21 y22 y23 y24 y25 y26 y27 y28 y29 y30 => k .ret ⟨[(0, qS y1), (1, qI y2), (4, qI 3), (5, qU y3), (7, qB true), (36, qB true), (37, qU y4), (38, qB y5), (39, qB true), (40, qU y6), (41, qB y7), (42, qB y8), (43, qB true), (44, qB true), (45, qB true), (46, qB true), (47, qU y9), (48, qB y10), (49, qB false), (50, qS y11), (51, qI y12), (52, qI y13), (53, .cl (.vp (.sli .u8 y14) y15 0)), (54, qU y16), (55, qB y17), (56, qB y18), (57, qB y19), (58, qB true), (59, qU y20), (60, qB y21), (61, qB false), (62, qS y22), (63, qI y23), (64, qI y24), (65, .cl (.vp (.sli .u8 y25) y26 0)), (66, qU y27), (67, qB y28), (68, qB y29), (69, qB y30)], []⟩
noncomputable def qnm (k : KT) : qb0 := fun y1 y2 y3 y4 y5 => k .ret ⟨[(0, qS y1), (1, qI y2), (4, qI 1), (5, qU y3), (6, qB true), (7, qB false), (23, qB true), (24, qU y4), (25, qB y5)], []⟩
noncomputable def qnw (k : KT) : qbd := fun y1 y2 y3 y4 y5 y6 y7 y8 => k .ret ⟨[(0, qS y1), (1, qI y2), (4, qI 2), (5, qU y3), (6, qB true), (7, qB false), (26, qB true), (27, qU y4), (28, qB y5), (29, qB true), (30, qU y6), (31, qB y7), (32, qB y8), (33, qB true), (34, qB true), (35, qB true)], []⟩
noncomputable def qnq (k : KT) : qbd := fun y1 y2 y3 y4 y5 y6 y7 y8 => k .ret ⟨[(0, qS y1), (1, qI y2), (4, qI 0), (5, qU y3), (7, qB false), (70, qB false), (71, qU y4), (72, qB y5), (73, qB true), (74, qU y6), (75, qB y7), (76, qB y8), (77, qB true), (78, qB false), (79, qB false), (80, qB false), (81, .tup []), (82, .tup []), (83, .tup []), (84, .tup []), (85, qB false), (86, qB false), (87, .tup []), (88, .tup []), (89, .tup []), (90, .tup []), (91, .tup []), (92, .tup []), (93, .tup []), (94, .tup []), (95, .tup []), (96, .tup []), (97, qB false), (98, qB false), (99, .tup []), (100, .tup []), (101, .tup []), (102, .tup []), (103, .tup []), (104, .tup []), (105, .tup []), (106, .tup []), (107, .tup []), (108, .tup []), (109, qB false)], []⟩
noncomputable def qmq (k : KT) : qbd := fun y1 y2 y3 y4 y5 y6 y7 y8 => k .ret ⟨[(0, qS y1), (1, qI y2), (4, qI 0), (5, qU y3), (7, qB false), (70, qB false), (71, qU y4), (72, qB y5), (73, qB true), (74, qU y6), (75, qB y7), (76, qB y8), (77, qB false), (78, .tup []), (79, qB false), (80, qB false), (81, .tup []), (82, .tup []), (83, .tup []), (84, .tup []), (85, qB false), (86, qB false), (87, .tup []), (88, .tup []), (89, .tup []), (90, .tup []), (91, .tup []), (92, .tup []), (93, .tup []), (94, .tup []), (95, .tup []), (96, .tup []), (97, qB false), (98, qB false), (99, .tup []), (100, .tup []), (101, .tup []), (102, .tup []), (103, .tup []), (104, .tup []), (105, .tup []), (106, .tup []), (107, .tup []), (108, .tup []), (109, qB false)], []⟩
noncomputable def qnd (k : KT) : qb0 := fun y1 y2 y3 y4 y5 => k .ret ⟨[(0, qS y1), (1, qI y2), (4, qI 0), (5, qU y3), (7, qB false), (70, qB false), (71, qU y4), (72, qB y5), (73, qB false), (74, .tup []), (75, .tup []), (76, qB false), (77, qB false), (78, .tup []), (79, qB false), (80, qB false), (81, .tup []), (82, .tup []), (83, .tup []), (84, .tup []), (85, qB false), (86, qB false), (87, .tup []), (88, .tup []), (89, .tup []), (90, .tup []), (91, .tup []), (92, .tup []), (93, .tup []), (94, .tup []), (95, .tup []), (96, .tup []), (97, qB false), (98, qB false), (99, .tup []), (100, .tup []), (101, .tup []), (102, .tup []), (103, .tup []), (104, .tup []), (105, .tup []), (106, .tup []), (107, .tup []), (108, .tup []), (109, qB false)], []⟩
noncomputable def qm0 (k : KT) : qb0 := fun y1 y2 y3 y4 y5 => k .ret ⟨[(0, qS y1), (1, qI y2), (4, qI 1), (5, qU y3), (6, qB false), (7, qB false), (23, qB true), (24, qU y4), (25, qB y5)], []⟩
noncomputable def ql9 (k : KT) : qbd := fun y1 y2 y3 y4 y5 y6 y7 y8 => k .ret ⟨[(0, qS y1), (1, qI y2), (4, qI 0), (5, qU y3), (7, qB false), (70, qB false), (71, qU y4), (72, qB y5), (73, qB true), (74, qU y6), (75, qB y7), (76, qB y8), (77, qB true), (78, qB false), (79, qB false), (80, qB false), (81, .tup []), (82, .tup []), (83, .tup []), (84, .tup []), (85, qB false), (86, qB false), (87, .tup []), (88, .tup []), (89, .tup []), (90, .tup []), (91, .tup []), (92, .tup []), (93, .tup []), (94, .tup []), (95, .tup []), (96, .tup []), (97, qB false), (98, qB false), (99, .tup []), (100, .tup []), (101, .tup []), (102, .tup []), (103, .tup []), (104, .tup []), (105, .tup []), (106, .tup []), (107, .tup []), (108, .tup []), (109, qB false)], []⟩
noncomputable def qme (k : KT) : qbd := fun y1 y2 y3 y4 y5 y6 y7 y8 => k .ret ⟨[(0, qS y1), (1, qI y2), (4, qI 0), (5, qU y3), (7, qB false), (70, qB false), (71, qU y4), (72, qB y5), (73, qB true), (74, qU y6), (75, qB y7), (76, qB y8), (77, qB false), (78, .tup []), (79, qB false), (80, qB false), (81, .tup []), (82, .tup []), (83, .tup []), (84, .tup []), (85, qB false), (86, qB false), (87, .tup []), (88, .tup []), (89, .tup []), (90, .tup []), (91, .tup []), (92, .tup []), (93, .tup []), (94, .tup []), (95, .tup []), (96, .tup []), (97, qB false), (98, qB false), (99, .tup []), (100, .tup []), (101, .tup []), (102, .tup []), (103, .tup []), (104, .tup []), (105, .tup []), (106, .tup []), (107, .tup []), (108, .tup []), (109, qB false)], []⟩
noncomputable def qmm (k : KT) : qb0 := fun y1 y2 y3 y4 y5 => k .ret ⟨[(0, qS y1), (1, qI y2), (4, qI 0), (5, qU y3), (7, qB false), (70, qB false), (71, qU y4), (72, qB y5), (73, qB false), (74, .tup []), (75, .tup []), (76, qB false), (77, qB false), (78, .tup []), (79, qB false), (80, qB false), (81, .tup []), (82, .tup []), (83, .tup []), (84, .tup []), (85, qB false), (86, qB false), (87, .tup []), (88, .tup []), (89, .tup []), (90, .tup []), (91, .tup []), (92, .tup []), (93, .tup []), (94, .tup []), (95, .tup []), (96, .tup []), (97, qB false), (98, qB false), (99, .tup []), (100, .tup []), (101, .tup []), (102, .tup []), (103, .tup []), (104, .tup []), (105, .tup []), (106, .tup []), (107, .tup []), (108, .tup []), (109, qB false)], []⟩
noncomputable def JRRune_4 : St -> (KT) -> OO := fun σ k => match σ with
 | ⟨[(q1, .cl (.sli .u8 v1)), (q2, .cl (.int .i64 v2)), (q3, .cl (.int .u8 v3)), (q4, .cl (.bool true)), (q5, .cl (.bool true))], []⟩ => cond (Nat.beq q1 0 && Nat.beq q2 1 && Nat.beq q3 5 && Nat.beq q4 6 && Nat.beq q5 7) (shut (qqt (qri k) (cjnRRune_4_1 k) (qr7 k) (cjnRRune_4_3 k) (cjnRRune_4_4 k) (cjnRRune_4_5 k) (cjnRRune_4_6 k) (cjnRRune_4_7 k) (qq7 k) (cjnRRune_4_9 k) (qpz k) (qp9 k) (qo4 k) (qo6 k) (qpw k) (qpe k)) v1 v2 v3) none
 | ⟨[(q1, .cl (.sli .u8 v1)), (q2, .cl (.int .i64 v2)), (q3, .cl (.int .u8 v3)), (q4, .cl (.bool true)), (q5, .cl (.bool false))], []⟩ => cond (Nat.beq q1 0 && Nat.beq q2 1 && Nat.beq q3 5 && Nat.beq q4 6 && Nat.beq q5 7) (shut (qkv (qnm k) (qnw k) (qnq k) (qmq k) (qnd k)) v1 v2 v3) none
 | ⟨[(q1, .cl (.sli .u8 v1)), (q2, .cl (.int .i64 v2)), (q3, .cl (.int .u8 v3)), (q4, .cl (.bool false)), (q5, .cl (.bool false))], []⟩ => cond (Nat.beq q1 0 && Nat.beq q2 1 && Nat.beq q3 5 && Nat.beq q4 6 && Nat.beq q5 7) (shut (qjx (qm0 k) (ql9 k) (qme k) (qmm k)) v1 v2 v3) none
 | _ => none
noncomputable def qq8 (k : KT) : qbd := fun y1 y2 y3 y4 y5 y6 y7 y8 => k .ret ⟨[(0, qS y1), (1, qI y2), (4, qI 2), (5, qU y3), (6, qB true), (7, qB true), (26, qB true), (27, qU y4), (28, qB y5), (29, qB true), (30, qU y6), (31, qB y7), (32, qB y8), (33, qB true), (34, qB true), (35, qB true)], []⟩
noncomputable def qrt (k : KT) : zRRune8 := fun y1 y2 y3 y4 y5 y6 y7 y8 y9 y10 y11 y12 => k .ret ⟨[(0, qS y1), (1, qI y2), (4, qI 3), (5, qU y3), (7, qB true), (36, qB true), (37, qU y4), (38, qB y5), (39, qB true), (40, qU y6), (41, qB y7), (42, qB y8), (43, qB true), (44, qB true), (45, qB true), (46, qB true), (47, qU y9), (48, qB y10), (49, qB true), (50, .tup []), (51, .tup []), (52, .tup []), (53, .tup []), (54, .tup []), (55, .tup []), (56, qB true), (57, qB true), (58, qB true), (59, qU y11), (60, qB y12), (61, qB true), (62, .tup []), (63, .tup []), (64, .tup []), (65, .tup []), (66, .tup []), (67, .tup []), (68, qB true), (69, qB true)], []⟩
noncomputable def qq1 (k : KT) : zRRune9 := fun y1 y2 y3 y4 y5 y6 y7 y8 y9 y10 y11 y12 y13 y14 y15 y16 y17 y18 y19 y20 y21 => k .ret ⟨[(0, qS y1), (1, qI y2), (4, qI 3), (5, qU y3), (7, qB true), (36, qB true), (37, qU y4), (38, qB y5), (39, qB true), (40, qU y6), (41, qB y7), (42, qB y8), (43, qB true), (44, qB true), (45, qB true), (46, qB true), (47, qU y9), (48, qB y10), (49, qB true), (50, .tup []), (51, .tup []), (52, .tup []), (53, .tup []), (54, .tup []), (55, .tup []), (56, qB true), (57, qB true), (58, qB true), (59, qU y11), (60, qB y12), (61, qB false), (62, qS y13), (63, qI y14), (64, qI y15), (65, .cl (.vp (.sli .u8 y16) y17 0)), (66, qU y18), (67, qB y19), (68, qB y20), (69, qB y21)], []⟩
noncomputable def cjnRRune_6_3 (k : KT) : qp0 := fun y1 y2 y3 y4 y5 y6 y7 y8 y9 y10 y11 y12 y13 y14 y15 => k .ret ⟨[(0, qS y1), (1, qI y2), (4, qI 4), (5, qU y3), (7, qB true), (70, qB true), (71, qU y4), (72, qB y5), (73, qB true), (74, qU y6), (75, qB y7), (76, qB y8), (77, qB true), (78, qB true), (79, qB true), (80, qB true), (81, qS y9), (82, qI y10), (83, qI y11), (84, qB true), (85, qB true), (86, qB true), (87, qU y12), (88, qB y13), (89, qB true), (90, .tup []), (91, .tup []), (92, .tup []), (93, .tup []), (94, .tup []), (95, .tup []), (96, qB true), (97, qB true), (98, qB true), (99, qU y14), (100, qB y15), (101, qB true), (102, .tup []), (103, .tup []), (104, .tup []), (105, .tup []), (106, .tup []), (107, .tup []), (108, qB true), (109, qB true)], []⟩
noncomputable def cjnRRune_6_4 (k : KT) : qeh := fun y1 y2 y3 y4 y5 y6 y7 y8 y9 y10 y11 y12 y13 y14 y15 y16 y17 y18 y19 y20 y21 y22 y23 y24 => k .ret ⟨[(0, qS y1), (1, qI y2), (4, qI 4), (5, qU y3), (7, qB true), (70, qB true), (71, qU y4), (72, qB y5), (73, qB true), (74, qU y6), (75, qB y7), (76, qB y8), (77, qB true), (78, qB true), (79, qB true), (80, qB true), (81, qS y9), (82, qI y10), (83, qI y11), (84, qB true), (85, qB true), (86, qB true), (87, qU y12), (88, qB y13), (89, qB true), (90, .tup []), (91, .tup []), (92, .tup []), (93, .tup []), (94, .tup []), (95, .tup []), (96, qB true), (97, qB true), (98, qB true), (99, qU y14), (100, qB y15), (101, qB false), (102, qS y16), (103, qI y17), (104, qI y18), (105, .cl (.vp (.sli .u8 y19) y20 0)), (106, qU y21), (107, qB y22), (108, qB y23), (109, qB y24)], []⟩
noncomputable def qrq (k : KT) : qeh := fun y1 y2 y3 y4 y5 y6 y7 y8 y9 y10 y11 y12 y13 y14 y15 y16 y17 y18 y19 y20 y21 y22 y23 y24 => k .normal ⟨[(0, qS y1), (1, qI y2), (5, qU y3), (7, qB true), (70, qB false), (71, qU y4), (72, qB y5), (73, qB true), (74, qU y6), (75, qB y7), (76, qB y8), (77, qB true), (78, qB true), (79, qB true), (80, qB true), (81, qS y9), (82, qI y10), (83, qI y11), (84, qB true), (85, qB true), (86, qB true), (87, qU y12), (88, qB y13), (89, qB true), (90, .tup []), (91, .tup []), (92, .tup []), (93, .tup []), (94, .tup []), (95, .tup []), (96, qB true), (97, qB true), (98, qB true), (99, qU y14), (100, qB y15), (101, qB false), (102, qS y16), (103, qI y17), (104, qI y18), (105, .cl (.vp (.sli .u8 y19) y20 0)), (106, qU y21), (107, qB y22), (108, qB y23), (109, qB y24)], []⟩
noncomputable def cjnRRune_6_6 (k : KT) : qov := fun y1 y2 y3 y4 y5 y6 y7 y8 y9 y10 y11 y12 y13 y14 y15 y16 y17 y18 y19 y20 y21 y22 y23 y24 => k .ret ⟨[(0, qS y1), (1, qI y2), (4, qI 4), (5, qU y3), (7, qB true), (70, qB true), (71, qU y4), (72, qB y5), (73, qB true), (74, qU y6), (75, qB y7), (76, qB y8), (77, qB true), (78, qB true), (79, qB true), (80, qB true), (81, qS y9), (82, qI y10), (83, qI y11), (84, qB true), (85, qB true), (86, qB true), (87, qU y12), (88, qB y13), (89, qB false), (90, qS y14), (91, qI y15), (92, qI y16), (93, .cl (.vp (.sli .u8 y17) y18 0)), (94, qU y19), (95, qB y20), (96, qB y21), (97, qB y22), (98, qB true), (99, qU y23), (100, qB y24), (101, qB true), (102, .tup []), (103, .tup []), (104, .tup []), (105, .tup []), (106, .tup []), (107, .tup []), (108, qB true), (109, qB true)], []⟩
noncomputable def qro (k : KT) : qeg := fun y1 y2 y3 y4 y5 y6 y7 y8 y9 y10 y11 y12 y13 y14 y15 y16 y17 y18 y19 y20 y21 y22 y23 y24 y25 y26 y27 y28 y29 y30 y31 y32 y33 => k .ret ⟨[(0, qS y1), (1, qI y2), (4, qI 4), (5, qU y3), (7, qB true), (70, qB true), (71, qU y4), (72, qB y5), (73, qB true), (74, qU y6), (75, qB y7), (76, qB y8), (77, qB true), (78, qB true), (79, qB true), (80, qB true), (81, qS y9), (82, qI y10), (83, qI y11), (84, qB true), (85, qB true), (86, qB true), (87, qU y12), (88, qB y13), (89, qB false), (90, qS y14), (91, qI y15), (92, qI y16), (93, .cl (.vp (.sli .u8 y17) y18 0)), (94, qU y19), (95, qB y20), (96, qB y21), (97, qB y22), (98, qB true), (99, qU y23), (100, qB y24), (101, qB false), (102, qS y25), (103, qI y26), (104, qI y27), (105, .cl (.vp (.sli .u8 y28) y29 0)), (106, qU y30), (107, qB y31), (108, qB y32), (109, qB y33)], []⟩
noncomputable def cjnRRune_6_8 (k : KT) : qeg := fun y1 y2 y3 y4 y5 y6 y7 y8 y9 y10 y11 y12 y13 y14 y15 y16 y17 y18 y19 y20 y21 y22 y23 y24 y25 y26 y27 y28 y29 y30 y31 y32 y33 => k .normal ⟨[(0, qS y1), (1, qI y2), (5, qU y3), (7, qB true), (70, qB false), (71, qU y4), (72, qB y5), (73, qB true), (74, qU y6), (75, qB y7), (76, qB y8), (77, qB true), (78, qB true), (79, qB true), (80, qB true), (81, qS y9), (82, qI y10), (83, qI y11), (84, qB true), (85, qB true), (86, qB true), (87, qU y12), (88, qB y13), (89, qB false), (90, qS y14), (91, qI y15), (92, qI y16), (93, .cl (.vp (.sli .u8 y17) y18 0)), (94, qU y19), (95, qB y20), (96, qB y21), (97, qB y22), (98, qB true), (99, qU y23), (100, qB y24), (101, qB false), (102, qS y25), (103, qI y26), (104, qI y27), (105, .cl (.vp (.sli .u8 y28) y29 0)), (106, qU y30), (107, qB y31), (108, qB y32), (109, qB y33)], []⟩
noncomputable def qr3 (k : KT) : qp5 := fun y1 y2 y3 y4 y5 y6 y7 y8 y9 y10 y11 y12 y13 y14 y15 y16 y17 y18 y19 y20 y21 y22 => k .normal ⟨[(0, qS y1), (1, qI y2), (5, qU y3), (7, qB true), (70, qB false), (71, qU y4), (72, qB y5), (73, qB true), (74, qU y6), (75, qB y7), (76, qB y8), (77, qB true), (78, qB true), (79, qB true), (80, qB true), (81, qS y9), (82, qI y10), (83, qI y11), (84, qB true), (85, qB true), (86, qB true), (87, qU y12), (88, qB y13), (89, qB false), (90, qS y14), (91, qI y15), (92, qI y16), (93, .cl (.vp (.sli .u8 y17) y18 0)), (94, qU y19), (95, qB y20), (96, qB y21), (97, qB y22), (98, qB false), (99, .tup []), (100, .tup []), (101, .tup []), (102, .tup []), (103, .tup []), (104, .tup []), (105, .tup []), (106, .tup []), (107, .tup []), (108, .tup []), (109, qB false)], []⟩
noncomputable def qpd (k : KT) : qps := fun y1 y2 y3 y4 y5 y6 y7 y8 y9 y10 y11 => k .normal ⟨[(0, qS y1), (1, qI y2), (5, qU y3), (7, qB true), (70, qB false), (71, qU y4), (72, qB y5), (73, qB true), (74, qU y6), (75, qB y7), (76, qB y8), (77, qB true), (78, qB true), (79, qB true), (80, qB true), (81, qS y9), (82, qI y10), (83, qI y11), (84, qB false), (85, qB false), (86, qB false), (87, .tup []), (88, .tup []), (89, .tup []), (90, .tup []), (91, .tup []), (92, .tup []), (93, .tup []), (94, .tup []), (95, .tup []), (96, .tup []), (97, qB false), (98, qB false), (99, .tup []), (100, .tup []), (101, .tup []), (102, .tup []), (103, .tup []), (104, .tup []), (105, .tup []), (106, .tup []), (107, .tup []), (108, .tup []), (109, qB false)], []⟩
noncomputable def qph (k : KT) : qbd := fun y1 y2 y3 y4 y5 y6 y7 y8 => k .normal ⟨[(0, qS y1), (1, qI y2), (5, qU y3), (7, qB true), (70, qB false), (71, qU y4), (72, qB y5), (73, qB true), (74, qU y6), (75, qB y7), (76, qB y8), (77, qB false), (78, .tup []), (79, qB false), (80, qB false), (81, .tup []), (82, .tup []), (83, .tup []), (84, .tup []), (85, qB false), (86, qB false), (87, .tup []), (88, .tup []), (89, .tup []), (90, .tup []), (91, .tup []), (92, .tup []), (93, .tup []), (94, .tup []), (95, .tup []), (96, .tup []), (97, qB false), (98, qB false), (99, .tup []), (100, .tup []), (101, .tup []), (102, .tup []), (103, .tup []), (104, .tup []), (105, .tup []), (106, .tup []), (107, .tup []), (108, .tup []), (109, qB false)], []⟩
noncomputable def qpt (k : KT) : qb0 := fun y1 y2 y3 y4 y5 => k .normal ⟨[(0, qS y1), (1, qI y2), (5, qU y3), (7, qB true), (70, qB false), (71, qU y4), (72, qB y5), (73, qB false), (74, .tup []), (75, .tup []), (76, qB false), (77, qB false), (78, .tup []), (79, qB false), (80, qB false), (81, .tup []), (82, .tup []), (83, .tup []), (84, .tup []), (85, qB false), (86, qB false), (87, .tup []), (88, .tup []), (89, .tup []), (90, .tup []), (91, .tup []), (92, .tup []), (93, .tup []), (94, .tup []), (95, .tup []), (96, .tup []), (97, qB false), (98, qB false), (99, .tup []), (100, .tup []), (101, .tup []), (102, .tup []), (103, .tup []), (104, .tup []), (105, .tup []), (106, .tup []), (107, .tup []), (108, .tup []), (109, qB false)], []⟩
noncomputable def qo1 (k : KT) : qoi := fun y1 y2 y3 y4 y5 y6 y7 y8 y9 y10 y11 y12 y13 y14 y15 y16 y17 y18 y19 y20 y21 => k .ret ⟨[(0, qS y1), (1, qI y2), (4, qI 3), (5, qU y3), (7, qB true), (36, qB true), (37, qU y4), (38, qB y5), (39, qB true), (40, qU y6), (41, qB y7), (42, qB y8), (43, qB true), (44, qB true), (45, qB true), (46, qB true), (47, qU y9), (48, qB y10), (49, qB false), (50, qS y11), (51, qI y12), (52, qI y13), (53, .cl (.vp (.sli .u8 y14) y15 0)), (54, qU y16), (55, qB y17), (56, qB y18), (57, qB y19), (58, qB true), (59, qU y20), (60, qB y21), (61, qB true), (62, .tup []), (63, .tup []), (64, .tup []), (65, .tup []), (66, .tup []), (67, .tup []), (68, qB true), (69, qB true)], []⟩
noncomputable def qpu (k : KT) : qn8 := fun y1 y2 y3 y4 y5 y6 y7 y8 y9 y10 y11 y12 y13 y14 y15 y16 y17 y18 y19 y20 y21 y22 y23 y24 y25 y26 y27 y28 y29 y30 => k .ret ⟨[(0, qS y1), (1, qI y2), (4, qI 3), (5, qU y3), (7, qB true), (36, qB true), (37, qU y4), (38, qB y5), (39, qB true), (40, qU y6), (41, qB y7), (42, qB y8), (43, qB true), (44, qB true), (45, qB true), (46, qB true), (47, qU y9), (48, qB y10), (49, qB false), (50, qS y11), (51, qI y12), (52, qI y13), (53, .cl (.vp (.sli .u8 y14) y15 0)), (54, qU y16), (55, qB y17), (56, qB y18), (57, qB y19), (58, qB true), (59, qU y20), (60, qB y21), (61, qB false), (62, qS y22), (63, qI y23), (64, qI y24), (65, .cl (.vp (.sli .u8 y25) y26 0)), (66, qU y27), (67, qB y28), (68, qB y29), (69, qB y30)], []⟩
noncomputable def qns (k : KT) : qbd := fun y1 y2 y3 y4 y5 y6 y7 y8 => k .ret ⟨[(0, qS y1), (1, qI y2), (4, qI 2), (5, qU y3), (6, qB true), (7, qB false), (26, qB true), (27, qU y4), (28, qB y5), (29, qB true), (30, qU y6), (31, qB y7), (32, qB y8), (33, qB true), (34, qB true), (35, qB true)], []⟩
noncomputable def qmy (k : KT) : qbd := fun y1 y2 y3 y4 y5 y6 y7 y8 => k .normal ⟨[(0, qS y1), (1, qI y2), (5, qU y3), (7, qB false), (70, qB false), (71, qU y4), (72, qB y5), (73, qB true), (74, qU y6), (75, qB y7), (76, qB y8), (77, qB true), (78, qB false), (79, qB false), (80, qB false), (81, .tup []), (82, .tup []), (83, .tup []), (84, .tup []), (85, qB false), (86, qB false), (87, .tup []), (88, .tup []), (89, .tup []), (90, .tup []), (91, .tup []), (92, .tup []), (93, .tup []), (94, .tup []), (95, .tup []), (96, .tup []), (97, qB false), (98, qB false), (99, .tup []), (100, .tup []), (101, .tup []), (102, .tup []), (103, .tup []), (104, .tup []), (105, .tup []), (106, .tup []), (107, .tup []), (108, .tup []), (109, qB false)], []⟩
noncomputable def qnt (k : KT) : qbd := fun y1 y2 y3 y4 y5 y6 y7 y8 => k .normal ⟨[(0, qS y1), (1, qI y2), (5, qU y3), (7, qB false), (70, qB false), (71, qU y4), (72, qB y5), (73, qB true), (74, qU y6), (75, qB y7), (76, qB y8), (77, qB false), (78, .tup []), (79, qB false), (80, qB false), (81, .tup []), (82, .tup []), (83, .tup []), (84, .tup []), (85, qB false), (86, qB false), (87, .tup []), (88, .tup []), (89, .tup []), (90, .tup []), (91, .tup []), (92, .tup []), (93, .tup []), (94, .tup []), (95, .tup []), (96, .tup []), (97, qB false), (98, qB false), (99, .tup []), (100, .tup []), (101, .tup []), (102, .tup []), (103, .tup []), (104, .tup []), (105, .tup []), (106, .tup []), (107, .tup []), (108, .tup []), (109, qB false)], []⟩
noncomputable def qmv (k : KT) : qb0 := fun y1 y2 y3 y4 y5 => k .normal ⟨[(0, qS y1), (1, qI y2), (5, qU y3), (7, qB false), (70, qB false), (71, qU y4), (72, qB y5), (73, qB false), (74, .tup []), (75, .tup []), (76, qB false), (77, qB false), (78, .tup []), (79, qB false), (80, qB false), (81, .tup []), (82, .tup []), (83, .tup []), (84, .tup []), (85, qB false), (86, qB false), (87, .tup []), (88, .tup []), (89, .tup []), (90, .tup []), (91, .tup []), (92, .tup []), (93, .tup []), (94, .tup []), (95, .tup []), (96, .tup []), (97, qB false), (98, qB false), (99, .tup []), (100, .tup []), (101, .tup []), (102, .tup []), (103, .tup []), (104, .tup []), (105, .tup []), (106, .tup []), (107, .tup []), (108, .tup []), (109, qB false)], []⟩
noncomputable def qnf (k : KT) : qbd := fun y1 y2 y3 y4 y5 y6 y7 y8 => k .normal ⟨[(0, qS y1), (1, qI y2), (5, qU y3), (7, qB false), (70, qB false), (71, qU y4), (72, qB y5), (73, qB true), (74, qU y6), (75, qB y7), (76, qB y8), (77, qB true), (78, qB false), (79, qB false), (80, qB false), (81, .tup []), (82, .tup []), (83, .tup []), (84, .tup []), (85, qB false), (86, qB false), (87, .tup []), (88, .tup []), (89, .tup []), (90, .tup []), (91, .tup []), (92, .tup []), (93, .tup []), (94, .tup []), (95, .tup []), (96, .tup []), (97, qB false), (98, qB false), (99, .tup []), (100, .tup []), (101, .tup []), (102, .tup []), (103, .tup []), (104, .tup []), (105, .tup []), (106, .tup []), (107, .tup []), (108, .tup []), (109, qB false)], []⟩
noncomputable def qnv (k : KT) : qbd := fun y1 y2 y3 y4 y5 y6 y7 y8 => k .normal ⟨[(0, qS y1), (1, qI y2), (5, qU y3), (7, qB false), (70, qB false), (71, qU y4), (72, qB y5), (73, qB true), (74, qU y6), (75, qB y7), (76, qB y8), (77, qB false), (78, .tup []), (79, qB false), (80, qB false), (81, .tup []), (82, .tup []), (83, .tup []), (84, .tup []), (85, qB false), (86, qB false), (87, .tup []), (88, .tup []), (89, .tup []), (90, .tup []), (91, .tup []), (92, .tup []), (93, .tup []), (94, .tup []), (95, .tup []), (96, .tup []), (97, qB false), (98, qB false), (99, .tup []), (100, .tup []), (101, .tup []), (102, .tup []), (103, .tup []), (104, .tup []), (105, .tup []), (106, .tup []), (107, .tup []), (108, .tup []), (109, qB false)], []⟩
noncomputable def qnk (k : KT) : qb0 := fun y1 y2 y3 y4 y5 => k .normal ⟨[(0, qS y1), (1, qI y2), (5, qU y3), (7, qB false), (70, qB false), (71, qU y4), (72, qB y5), (73, qB false), (74, .tup []), (75, .tup []), (76, qB false), (77, qB false), (78, .tup []), (79, qB false), (80, qB false), (81, .tup []), (82, .tup []), (83, .tup []), (84, .tup []), (85, qB false), (86, qB false), (87, .tup []), (88, .tup []), (89, .tup []), (90, .tup []), (91, .tup []), (92, .tup []), (93, .tup []), (94, .tup []), (95, .tup []), (96, .tup []), (97, qB false), (98, qB false), (99, .tup []), (100, .tup []), (101, .tup []), (102, .tup []), (103, .tup []), (104, .tup []), (105, .tup []), (106, .tup []), (107, .tup []), (108, .tup []), (109, qB false)], []⟩
noncomputable def JRRune_6 : St -> (KT) -> OO := fun σ k => match σ with
 | ⟨[(q1, .cl (.sli .u8 v1)), (q2, .cl (.int .i64 v2)), (q3, .cl (.int .u8 v3)), (q4, .cl (.bool true)), (q5, .cl (.bool true))], []⟩ => cond (Nat.beq q1 0 && Nat.beq q2 1 && Nat.beq q3 5 && Nat.beq q4 6 && Nat.beq q5 7) (shut (qqi (qq8 k) (qrt k) (qq1 k) (cjnRRune_6_3 k) (cjnRRune_6_4 k) (qrq k) (cjnRRune_6_6 k) (qro k) (cjnRRune_6_8 k) (qr3 k) (qpd k) (qph k) (qpt k) (qo1 k) (qpu k)) v1 v2 v3) none
 | ⟨[(q1, .cl (.sli .u8 v1)), (q2, .cl (.int .i64 v2)), (q3, .cl (.int .u8 v3)), (q4, .cl (.bool true)), (q5, .cl (.bool false))], []⟩ => cond (Nat.beq q1 0 && Nat.beq q2 1 && Nat.beq q3 5 && Nat.beq q4 6 && Nat.beq q5 7) (shut (qk3 (qns k) (qmy k) (qnt k) (qmv k)) v1 v2 v3) none
 | ⟨[(q1, .cl (.sli .u8 v1)), (q2, .cl (.int .i64 v2)), (q3, .cl (.int .u8 v3)), (q4, .cl (.bool false)), (q5, .cl (.bool false))], []⟩ => cond (Nat.beq q1 0 && Nat.beq q2 1 && Nat.beq q3 5 && Nat.beq q4 6 && Nat.beq q5 7) (shut (qj5 (qnf k) (qnv k) (qnk k)) v1 v2 v3) none
 | _ => none
noncomputable def qrr (k : KT) : zRRune8 := fun y1 y2 y3 y4 y5 y6 y7 y8 y9 y10 y11 y12 => k .ret ⟨[(0, qS y1), (1, qI y2), (4, qI 3), (5, qU y3), (7, qB true), (36, qB true), (37, qU y4), (38, qB y5), (39, qB true), (40, qU y6), (41, qB y7), (42, qB y8), (43, qB true), (44, qB true), (45, qB true), (46, qB true), (47, qU y9), (48, qB y10), (49, qB true), (50, .tup []), (51, .tup []), (52, .tup []), (53, .tup []), (54, .tup []), (55, .tup []), (56, qB true), (57, qB true), (58, qB true), (59, qU y11), (60, qB y12), (61, qB true), (62, .tup []), (63, .tup []), (64, .tup []), (65, .tup []), (66, .tup []), (67, .tup []), (68, qB true), (69, qB true)], []⟩
noncomputable def qrd (k : KT) : zRRune9 := fun y1 y2 y3 y4 y5 y6 y7 y8 y9 y10 y11 y12 y13 y14 y15 y16 y17 y18 y19 y20 y21 => k .ret ⟨[(0, qS y1), (1, qI y2), (4, qI 3), (5, qU y3), (7, qB true), (36, qB true), (37, qU y4), (38, qB y5), (39, qB true), (40, qU y6), (41, qB y7), (42, qB y8), (43, qB true), (44, qB true), (45, qB true), (46, qB true), (47, qU y9), (48, qB y10), (49, qB true), (50, .tup []), (51, .tup []), (52, .tup []), (53, .tup []), (54, .tup []), (55, .tup []), (56, qB true), (57, qB true), (58, qB true), (59, qU y11), (60, qB y12), (61, qB false), (62, qS y13), (63, qI y14), (64, qI y15), (65, .cl (.vp (.sli .u8 y16) y17 0)), (66, qU y18), (67, qB y19), (68, qB y20), (69, qB y21)], []⟩
noncomputable def qq4 (k : KT) : qp0 := fun y1 y2 y3 y4 y5 y6 y7 y8 y9 y10 y11 y12 y13 y14 y15 => k .ret ⟨[(0, qS y1), (1, qI y2), (4, qI 4), (5, qU y3), (7, qB true), (70, qB true), (71, qU y4), (72, qB y5), (73, qB true), (74, qU y6), (75, qB y7), (76, qB y8), (77, qB true), (78, qB true), (79, qB true), (80, qB true), (81, qS y9), (82, qI y10), (83, qI y11), (84, qB true), (85, qB true), (86, qB true), (87, qU y12), (88, qB y13), (89, qB true), (90, .tup []), (91, .tup []), (92, .tup []), (93, .tup []), (94, .tup []), (95, .tup []), (96, qB true), (97, qB true), (98, qB true), (99, qU y14), (100, qB y15), (101, qB true), (102, .tup []), (103, .tup []), (104, .tup []), (105, .tup []), (106, .tup []), (107, .tup []), (108, qB true), (109, qB true)], []⟩
noncomputable def qsg (k : KT) : qeh := fun y1 y2 y3 y4 y5 y6 y7 y8 y9 y10 y11 y12 y13 y14 y15 y16 y17 y18 y19 y20 y21 y22 y23 y24 => k .ret ⟨[(0, qS y1), (1, qI y2), (4, qI 4), (5, qU y3), (7, qB true), (70, qB true), (71, qU y4), (72, qB y5), (73, qB true), (74, qU y6), (75, qB y7), (76, qB y8), (77, qB true), (78, qB true), (79, qB true), (80, qB true), (81, qS y9), (82, qI y10), (83, qI y11), (84, qB true), (85, qB true), (86, qB true), (87, qU y12), (88, qB y13), (89, qB true), (90, .tup []), (91, .tup []), (92, .tup []), (93, .tup []), (94, .tup []), (95, .tup []), (96, qB true), (97, qB true), (98, qB true), (99, qU y14), (100, qB y15), (101, qB false), (102, qS y16), (103, qI y17), (104, qI y18), (105, .cl (.vp (.sli .u8 y19) y20 0)), (106, qU y21), (107, qB y22), (108, qB y23), (109, qB y24)], []⟩
noncomputable def qrc (k : KT) : qeh := fun y1 y2 y3 y4 y5 y6 y7 y8 y9 y10 y11 y12 y13 y14 y15 y16 y17 y18 y19 y20 y21 y22 y23 y24 => k .normal ⟨[(0, qS y1), (1, qI y2), (5, qU y3), (7, qB true), (70, qB false), (71, qU y4), (72, qB y5), (73, qB true), (74, qU y6), (75, qB y7), (76, qB y8), (77, qB true), (78, qB true), (79, qB true), (80, qB true), (81, qS y9), (82, qI y10), (83, qI y11), (84, qB true), (85, qB true), (86, qB true), (87, qU y12), (88, qB y13), (89, qB true), (90, .tup []), (91, .tup []), (92, .tup []), (93, .tup []), (94, .tup []), (95, .tup []), (96, qB true), (97, qB true), (98, qB true), (99, qU y14), (100, qB y15), (101, qB false), (102, qS y16), (103, qI y17), (104, qI y18), (105, .cl (.vp (.sli .u8 y19) y20 0)), (106, qU y21), (107, qB y22), (108, qB y23), (109, qB y24)], []⟩
noncomputable def cjnRRune_8_5 (k : KT) : qov := fun y1 y2 y3 y4 y5 y6 y7 y8 y9 y10 y11 y12 y13 y14 y15 y16 y17 y18 y19 y20 y21 y22 y23 y24 => k .ret ⟨[(0, qS y1), (1, qI y2), (4, qI 4), (5, qU y3), (7, qB true), (70, qB true), (71, qU y4), (72, qB y5), (73, qB true), (74, qU y6), (75, qB y7), (76, qB y8), (77, qB true), (78, qB true), (79, qB true), (80, qB true), (81, qS y9), (82, qI y10), (83, qI y11), (84, qB true), (85, qB true), (86, qB true), (87, qU y12), (88, qB y13), (89, qB false), (90, qS y14), (91, qI y15), (92, qI y16), (93, .cl (.vp (.sli .u8 y17) y18 0)), (94, qU y19), (95, qB y20), (96, qB y21), (97, qB y22), (98, qB true), (99, qU y23), (100, qB y24), (101, qB true), (102, .tup []), (103, .tup []), (104, .tup []), (105, .tup []), (106, .tup []), (107, .tup []), (108, qB true), (109, qB true)], []⟩
noncomputable def qr6 (k : KT) : qeg := fun y1 y2 y3 y4 y5 y6 y7 y8 y9 y10 y11 y12 y13 y14 y15 y16 y17 y18 y19 y20 y21 y22 y23 y24 y25 y26 y27 y28 y29 y30 y31 y32 y33 => k .ret ⟨[(0, qS y1), (1, qI y2), (4, qI 4), (5, qU y3), (7, qB true), (70, qB true), (71, qU y4), (72, qB y5), (73, qB true), (74, qU y6), (75, qB y7), (76, qB y8), (77, qB true), (78, qB true), (79, qB true), (80, qB true), (81, qS y9), (82, qI y10), (83, qI y11), (84, qB true), (85, qB true), (86, qB true), (87, qU y12), (88, qB y13), (89, qB false), (90, qS y14), (91, qI y15), (92, qI y16), (93, .cl (.vp (.sli .u8 y17) y18 0)), (94, qU y19), (95, qB y20), (96, qB y21), (97, qB y22), (98, qB true), (99, qU y23), (100, qB y24), (101, qB false), (102, qS y25), (103, qI y26), (104, qI y27), (105, .cl (.vp (.sli .u8 y28) y29 0)), (106, qU y30), (107, qB y31), (108, qB y32), (109, qB y33)], []⟩
noncomputable def qrw (k : KT) : qeg := fun y1 y2 y3 y4 y5 y6 y7 y8 y9 y10 y11 y12 y13 y14 y15 y16 y17 y18 y19 y20 y21 y22 y23 y24 y25 y26 y27 y28 y29 y30 y31 y32 y33 => k .normal ⟨[(0, qS y1), (1, qI y2), (5, qU y3), (7, qB true), (70, qB false), (71, qU y4), (72, qB y5), (73, qB true), (74, qU y6), (75, qB y7), (76, qB y8), (77, qB true), (78, qB true), (79, qB true), (80, qB true), (81, qS y9), (82, qI y10), (83, qI y11), (84, qB true), (85, qB true), (86, qB true), (87, qU y12), (88, qB y13), (89, qB false), (90, qS y14), (91, qI y15), (92, qI y16), (93, .cl (.vp (.sli .u8 y17) y18 0)), (94, qU y19), (95, qB y20), (96, qB y21), (97, qB y22), (98, qB true), (99, qU y23), (100, qB y24), (101, qB false), (102, qS y25), (103, qI y26), (104, qI y27), (105, .cl (.vp (.sli .u8 y28) y29 0)), (106, qU y30), (107, qB y31), (108, qB y32), (109, qB y33)], []⟩
noncomputable def qra (k : KT) : qp5 := fun y1 y2 y3 y4 y5 y6 y7 y8 y9 y10 y11 y12 y13 y14 y15 y16 y17 y18 y19 y20 y21 y22 => k .normal ⟨[(0, qS y1), (1, qI y2), (5, qU y3), (7, qB true), (70, qB false), (71, qU y4), (72, qB y5), (73, qB true), (74, qU y6), (75, qB y7), (76, qB y8), (77, qB true), (78, qB true), (79, qB true), (80, qB true), (81, qS y9), (82, qI y10), (83, qI y11), (84, qB true), (85, qB true), (86, qB true), (87, qU y12), (88, qB y13), (89, qB false), (90, qS y14), (91, qI y15), (92, qI y16), (93, .cl (.vp (.sli .u8 y17) y18 0)), (94, qU y19), (95, qB y20), (96, qB y21), (97, qB y22), (98, qB false), (99, .tup []), (100, .tup []), (101, .tup []), (102, .tup []), (103, .tup []), (104, .tup []), (105, .tup []), (106, .tup []), (107, .tup []), (108, .tup []), (109, qB false)], []⟩
noncomputable def qrh (k : KT) : qps := fun y1 y2 y3 y4 y5 y6 y7 y8 y9 y10 y11 => k .normal ⟨[(0, qS y1), (1, qI y2), (5, qU y3), (7, qB true), (70, qB false), (71, qU y4), (72, qB y5), (73, qB true), (74, qU y6), (75, qB y7), (76, qB y8), (77, qB true), (78, qB true), (79, qB true), (80, qB true), (81, qS y9), (82, qI y10), (83, qI y11), (84, qB false), (85, qB false), (86, qB false), (87, .tup []), (88, .tup []), (89, .tup []), (90, .tup []), (91, .tup []), (92, .tup []), (93, .tup []), (94, .tup []), (95, .tup []), (96, .tup []), (97, qB false), (98, qB false), (99, .tup []), (100, .tup []), (101, .tup []), (102, .tup []), (103, .tup []), (104, .tup []), (105, .tup []), (106, .tup []), (107, .tup []), (108, .tup []), (109, qB false)], []⟩
noncomputable def qp7 (k : KT) : qbd := fun y1 y2 y3 y4 y5 y6 y7 y8 => k .normal ⟨[(0, qS y1), (1, qI y2), (5, qU y3), (7, qB true), (70, qB false), (71, qU y4), (72, qB y5), (73, qB true), (74, qU y6), (75, qB y7), (76, qB y8), (77, qB false), (78, .tup []), (79, qB false), (80, qB false), (81, .tup []), (82, .tup []), (83, .tup []), (84, .tup []), (85, qB false), (86, qB false), (87, .tup []), (88, .tup []), (89, .tup []), (90, .tup []), (91, .tup []), (92, .tup []), (93, .tup []), (94, .tup []), (95, .tup []), (96, .tup []), (97, qB false), (98, qB false), (99, .tup []), (100, .tup []), (101, .tup []), (102, .tup []), (103, .tup []), (104, .tup []), (105, .tup []), (106, .tup []), (107, .tup []), (108, .tup []), (109, qB false)], []⟩
noncomputable def qow (k : KT) : qb0 := fun y1 y2 y3 y4 y5 => k .normal ⟨[(0, qS y1), (1, qI y2), (5, qU y3), (7, qB true), (70, qB false), (71, qU y4), (72, qB y5), (73, qB false), (74, .tup []), (75, .tup []), (76, qB false), (77, qB false), (78, .tup []), (79, qB false), (80, qB false), (81, .tup []), (82, .tup []), (83, .tup []), (84, .tup []), (85, qB false), (86, qB false), (87, .tup []), (88, .tup []), (89, .tup []), (90, .tup []), (91, .tup []), (92, .tup []), (93, .tup []), (94, .tup []), (95, .tup []), (96, .tup []), (97, qB false), (98, qB false), (99, .tup []), (100, .tup []), (101, .tup []), (102, .tup []), (103, .tup []), (104, .tup []), (105, .tup []), (106, .tup []), (107, .tup []), (108, .tup []), (109, qB false)], []⟩
noncomputable def qp1 (k : KT) : qoi := fun y1 y2 y3 y4 y5 y6 y7 y8 y9 y10 y11 y12 y13 y14 y15 y16 y17 y18 y19 y20 y21 => k .ret ⟨[(0, qS y1), (1, qI y2), (4, qI 3), (5, qU y3), (7, qB true), (36, qB true), (37, qU y4), (38, qB y5), (39, qB true), (40, qU y6), (41, qB y7), (42, qB y8), (43, qB true), (44, qB true), (45, qB true), (46, qB true), (47, qU y9), (48, qB y10), (49, qB false), (50, qS y11), (51, qI y12), (52, qI y13), (53, .cl (.vp (.sli .u8 y14) y15 0)), (54, qU y16), (55, qB y17), (56, qB y18), (57, qB y19), (58, qB true), (59, qU y20), (60, qB y21), (61, qB true), (62, .tup []), (63, .tup []), (64, .tup []), (65, .tup []), (66, .tup []), (67, .tup []), (68, qB true), (69, qB true)], []⟩
noncomputable def qp3 (k : KT) : qn8 := fun y1 y2 y3 y4 y5 y6 y7 y8 y9 y10 y11 y12 y13 y14 y15 y16 y17 y18 y19 y20 y21 y22 y23 y24 y25 y26 y27 y28 y29 y30 => k .ret ⟨[(0, qS y1), (1, qI y2), (4, qI 3), (5, qU y3), (7, qB true), (36, qB true), (37, qU y4), (38, qB y5), (39, qB true), (40, qU y6), (41, qB y7), (42, qB y8), (43, qB true), (44, qB true), (45, qB true), (46, qB true), (47, qU y9), (48, qB y10), (49, qB false), (50, qS y11), (51, qI y12), (52, qI y13), (53, .cl (.vp (.sli .u8 y14) y15 0)), (54, qU y16), (55, qB y17), (56, qB y18), (57, qB y19), (58, qB true), (59, qU y20), (60, qB y21), (61, qB false), (62, qS y22), (63, qI y23), (64, qI y24), (65, .cl (.vp (.sli .u8 y25) y26 0)), (66, qU y27), (67, qB y28), (68, qB y29), (69, qB y30)], []⟩
noncomputable def qng (k : KT) : qbd := fun y1 y2 y3 y4 y5 y6 y7 y8 => k .normal ⟨[(0, qS y1), (1, qI y2), (5, qU y3), (7, qB false), (70, qB false), (71, qU y4), (72, qB y5), (73, qB true), (74, qU y6), (75, qB y7), (76, qB y8), (77, qB true), (78, qB false), (79, qB false), (80, qB false), (81, .tup []), (82, .tup []), (83, .tup []), (84, .tup []), (85, qB false), (86, qB false), (87, .tup []), (88, .tup []), (89, .tup []), (90, .tup []), (91, .tup []), (92, .tup []), (93, .tup []), (94, .tup []), (95, .tup []), (96, .tup []), (97, qB false), (98, qB false), (99, .tup []), (100, .tup []), (101, .tup []), (102, .tup []), (103, .tup []), (104, .tup []), (105, .tup []), (106, .tup []), (107, .tup []), (108, .tup []), (109, qB false)], []⟩
noncomputable def qny (k : KT) : qbd := fun y1 y2 y3 y4 y5 y6 y7 y8 => k .normal ⟨[(0, qS y1), (1, qI y2), (5, qU y3), (7, qB false), (70, qB false), (71, qU y4), (72, qB y5), (73, qB true), (74, qU y6), (75, qB y7), (76, qB y8), (77, qB false), (78, .tup []), (79, qB false), (80, qB false), (81, .tup []), (82, .tup []), (83, .tup []), (84, .tup []), (85, qB false), (86, qB false), (87, .tup []), (88, .tup []), (89, .tup []), (90, .tup []), (91, .tup []), (92, .tup []), (93, .tup []), (94, .tup []), (95, .tup []), (96, .tup []), (97, qB false), (98, qB false), (99, .tup []), (100, .tup []), (101, .tup []), (102, .tup []), (103, .tup []), (104, .tup []), (105, .tup []), (106, .tup []), (107, .tup []), (108, .tup []), (109, qB false)], []⟩
noncomputable def qmg (k : KT) : qb0 := fun y1 y2 y3 y4 y5 => k .normal ⟨[(0, qS y1), (1, qI y2), (5, qU y3), (7, qB false), (70, qB false), (71, qU y4), (72, qB y5), (73, qB false), (74, .tup []), (75, .tup []), (76, qB false), (77, qB false), (78, .tup []), (79, qB false), (80, qB false), (81, .tup []), (82, .tup []), (83, .tup []), (84, .tup []), (85, qB false), (86, qB false), (87, .tup []), (88, .tup []), (89, .tup []), (90, .tup []), (91, .tup []), (92, .tup []), (93, .tup []), (94, .tup []), (95, .tup []), (96, .tup []), (97, qB false), (98, qB false), (99, .tup []), (100, .tup []), (101, .tup []), (102, .tup []), (103, .tup []), (104, .tup []), (105, .tup []), (106, .tup []), (107, .tup []), (108, .tup []), (109, qB false)], []⟩
noncomputable def JRRune_8 : St -> (KT) -> OO := fun σ k => match σ with
 | ⟨[(q1, .cl (.sli .u8 v1)), (q2, .cl (.int .i64 v2)), (q3, .cl (.int .u8 v3)), (q4, .cl (.bool true))], []⟩ => cond (Nat.beq q1 0 && Nat.beq q2 1 && Nat.beq q3 5 && Nat.beq q4 7) (shut (qm4 (qrr k) (qrd k) (qq4 k) (qsg k) (qrc k) (cjnRRune_8_5 k) (qr6 k) (qrw k) (qra k) (qrh k) (qp7 k) (qow k) (qp1 k) (qp3 k)) v1 v2 v3) none
 | ⟨[(q1, .cl (.sli .u8 v1)), (q2, .cl (.int .i64 v2)), (q3, .cl (.int .u8 v3)), (q4, .cl (.bool false))], []⟩ => cond (Nat.beq q1 0 && Nat.beq q2 1 && Nat.beq q3 5 && Nat.beq q4 7) (shut (qc7 (qng k) (qny k) (qmg k)) v1 v2 v3) none
 | _ => none
noncomputable def qp2 (k : KT) : qp0 := fun y1 y2 y3 y4 y5 y6 y7 y8 y9 y10 y11 y12 y13 y14 y15 => k .ret ⟨[(0, qS y1), (1, qI y2), (4, qI 4), (5, qU y3), (7, qB true), (70, qB true), (71, qU y4), (72, qB y5), (73, qB true), (74, qU y6), (75, qB y7), (76, qB y8), (77, qB true), (78, qB true), (79, qB true), (80, qB true), (81, qS y9), (82, qI y10), (83, qI y11), (84, qB true), (85, qB true), (86, qB true), (87, qU y12), (88, qB y13), (89, qB true), (90, .tup []), (91, .tup []), (92, .tup []), (93, .tup []), (94, .tup []), (95, .tup []), (96, qB true), (97, qB true), (98, qB true), (99, qU y14), (100, qB y15), (101, qB true), (102, .tup []), (103, .tup []), (104, .tup []), (105, .tup []), (106, .tup []), (107, .tup []), (108, qB true), (109, qB true)], []⟩
noncomputable def qpi (k : KT) : qeh := fun y1 y2 y3 y4 y5 y6 y7 y8 y9 y10 y11 y12 y13 y14 y15 y16 y17 y18 y19 y20 y21 y22 y23 y24 => k .ret ⟨[(0, qS y1), (1, qI y2), (4, qI 4), (5, qU y3), (7, qB true), (70, qB true), (71, qU y4), (72, qB y5), (73, qB true), (74, qU y6), (75, qB y7), (76, qB y8), (77, qB true), (78, qB true), (79, qB true), (80, qB true), (81, qS y9), (82, qI y10), (83, qI y11), (84, qB true), (85, qB true), (86, qB true), (87, qU y12), (88, qB y13), (89, qB true), (90, .tup []), (91, .tup []), (92, .tup []), (93, .tup []), (94, .tup []), (95, .tup []), (96, qB true), (97, qB true), (98, qB true), (99, qU y14), (100, qB y15), (101, qB false), (102, qS y16), (103, qI y17), (104, qI y18), (105, .cl (.vp (.sli .u8 y19) y20 0)), (106, qU y21), (107, qB y22), (108, qB y23), (109, qB y24)], []⟩
noncomputable def qpr (k : KT) : qeh := fun y1 y2 y3 y4 y5 y6 y7 y8 y9 y10 y11 y12 y13 y14 y15 y16 y17 y18 y19 y20 y21 y22 y23 y24 => k .normal ⟨[(0, qS y1), (1, qI y2), (5, qU y3), (7, qB true), (70, qB false), (71, qU y4), (72, qB y5), (73, qB true), (74, qU y6), (75, qB y7), (76, qB y8), (77, qB true), (78, qB true), (79, qB true), (80, qB true), (81, qS y9), (82, qI y10), (83, qI y11), (84, qB true), (85, qB true), (86, qB true), (87, qU y12), (88, qB y13), (89, qB true), (90, .tup []), (91, .tup []), (92, .tup []), (93, .tup []), (94, .tup []), (95, .tup []), (96, qB true), (97, qB true), (98, qB true), (99, qU y14), (100, qB y15), (101, qB false), (102, qS y16), (103, qI y17), (104, qI y18), (105, .cl (.vp (.sli .u8 y19) y20 0)), (106, qU y21), (107, qB y22), (108, qB y23), (109, qB y24)], []⟩
noncomputable def qox (k : KT) : qov := fun y1 y2 y3 y4 y5 y6 y7 y8 y9 y10 y11 y12 y13 y14 y15 y16 y17 y18 y19 y20 y21 y22 y23 y24 => k .ret ⟨[(0, qS y1), (1, qI y2), (4, qI 4), (5, qU y3), (7, qB true), (70, qB true), (71, qU y4), (72, qB y5), (73, qB true), (74, qU y6), (75, qB y7), (76, qB y8), (77, qB true), (78, qB true), (79, qB true), (80, qB true), (81, qS y9), (82, qI y10), (83, qI y11), (84, qB true), (85, qB true), (86, qB true), (87, qU y12), (88, qB y13), (89, qB false), (90, qS y14), (91, qI y15), (92, qI y16), (93, .cl (.vp (.sli .u8 y17) y18 0)), (94, qU y19), (95, qB y20), (96, qB y21), (97, qB y22), (98, qB true), (99, qU y23), (100, qB y24), (101, qB true), (102, .tup []), (103, .tup []), (104, .tup []), (105, .tup []), (106, .tup []), (107, .tup []), (108, qB true), (109, qB true)], []⟩
noncomputable def qpp (k : KT) : qeg := fun y1 y2 y3 y4 y5 y6 y7 y8 y9 y10 y11 y12 y13 y14 y15 y16 y17 y18 y19 y20 y21 y22 y23 y24 y25 y26 y27 y28 y29 y30 y31 y32 y33 => k .ret ⟨[(0, qS y1), (1, qI y2), (4, qI 4), (5, qU y3), (7, qB true), (70, qB true), (71, qU y4), (72, qB y5), (73, qB true), (74, qU y6), (75, qB y7), (76, qB y8), (77, qB true), (78, qB true), (79, qB true), (80, qB true), (81, qS y9), (82, qI y10), (83, qI y11), (84, qB true), (85, qB true), (86, qB true), (87, qU y12), (88, qB y13), (89, qB false), (90, qS y14), (91, qI y15), (92, qI y16), (93, .cl (.vp (.sli .u8 y17) y18 0)), (94, qU y19), (95, qB y20), (96, qB y21), (97, qB y22), (98, qB true), (99, qU y23), (100, qB y24), (101, qB false), (102, qS y25), (103, qI y26), (104, qI y27), (105, .cl (.vp (.sli .u8 y28) y29 0)), (106, qU y30), (107, qB y31), (108, qB y32), (109, qB y33)], []⟩
noncomputable def qo9 (k : KT) : qeg := fun y1 y2 y3 y4 y5 y6 y7 y8 y9 y10 y11 y12 y13 y14 y15 y16 y17 y18 y19 y20 y21 y22 y23 y24 y25 y26 y27 y28 y29 y30 y31 y32 y33 => k .normal ⟨[(0, qS y1), (1, qI y2), (5, qU y3), (7, qB true), (70, qB false), (71, qU y4), (72, qB y5), (73, qB true), (74, qU y6), (75, qB y7), (76, qB y8), (77, qB true), (78, qB true), (79, qB true), (80, qB true), (81, qS y9), (82, qI y10), (83, qI y11), (84, qB true), (85, qB true), (86, qB true), (87, qU y12), (88, qB y13), (89, qB false), (90, qS y14), (91, qI y15), (92, qI y16), (93, .cl (.vp (.sli .u8 y17) y18 0)), (94, qU y19), (95, qB y20), (96, qB y21), (97, qB y22), (98, qB true), (99, qU y23), (100, qB y24), (101, qB false), (102, qS y25), (103, qI y26), (104, qI y27), (105, .cl (.vp (.sli .u8 y28) y29 0)), (106, qU y30), (107, qB y31), (108, qB y32), (109, qB y33)], []⟩
noncomputable def qo3 (k : KT) : qp5 := fun y1 y2 y3 y4 y5 y6 y7 y8 y9 y10 y11 y12 y13 y14 y15 y16 y17 y18 y19 y20 y21 y22 => k .normal ⟨[(0, qS y1), (1, qI y2), (5, qU y3), (7, qB true), (70, qB false), (71, qU y4), (72, qB y5), (73, qB true), (74, qU y6), (75, qB y7), (76, qB y8), (77, qB true), (78, qB true), (79, qB true), (80, qB true), (81, qS y9), (82, qI y10), (83, qI y11), (84, qB true), (85, qB true), (86, qB true), (87, qU y12), (88, qB y13), (89, qB false), (90, qS y14), (91, qI y15), (92, qI y16), (93, .cl (.vp (.sli .u8 y17) y18 0)), (94, qU y19), (95, qB y20), (96, qB y21), (97, qB y22), (98, qB false), (99, .tup []), (100, .tup []), (101, .tup []), (102, .tup []), (103, .tup []), (104, .tup []), (105, .tup []), (106, .tup []), (107, .tup []), (108, .tup []), (109, qB false)], []⟩
noncomputable def qqb (k : KT) : qps := fun y1 y2 y3 y4 y5 y6 y7 y8 y9 y10 y11 => k .normal ⟨[(0, qS y1), (1, qI y2), (5, qU y3), (7, qB true), (70, qB false), (71, qU y4), (72, qB y5), (73, qB true), (74, qU y6), (75, qB y7), (76, qB y8), (77, qB true), (78, qB true), (79, qB true), (80, qB true), (81, qS y9), (82, qI y10), (83, qI y11), (84, qB false), (85, qB false), (86, qB false), (87, .tup []), (88, .tup []), (89, .tup []), (90, .tup []), (91, .tup []), (92, .tup []), (93, .tup []), (94, .tup []), (95, .tup []), (96, .tup []), (97, qB false), (98, qB false), (99, .tup []), (100, .tup []), (101, .tup []), (102, .tup []), (103, .tup []), (104, .tup []), (105, .tup []), (106, .tup []), (107, .tup []), (108, .tup []), (109, qB false)], []⟩
noncomputable def qpk (k : KT) : qbd := fun y1 y2 y3 y4 y5 y6 y7 y8 => k .normal ⟨[(0, qS y1), (1, qI y2), (5, qU y3), (7, qB true), (70, qB false), (71, qU y4), (72, qB y5), (73, qB true), (74, qU y6), (75, qB y7), (76, qB y8), (77, qB false), (78, .tup []), (79, qB false), (80, qB false), (81, .tup []), (82, .tup []), (83, .tup []), (84, .tup []), (85, qB false), (86, qB false), (87, .tup []), (88, .tup []), (89, .tup []), (90, .tup []), (91, .tup []), (92, .tup []), (93, .tup []), (94, .tup []), (95, .tup []), (96, .tup []), (97, qB false), (98, qB false), (99, .tup []), (100, .tup []), (101, .tup []), (102, .tup []), (103, .tup []), (104, .tup []), (105, .tup []), (106, .tup []), (107, .tup []), (108, .tup []), (109, qB false)], []⟩
noncomputable def qo8 (k : KT) : qb0 := fun y1 y2 y3 y4 y5 => k .normal ⟨[(0, qS y1), (1, qI y2), (5, qU y3), (7, qB true), (70, qB false), (71, qU y4), (72, qB y5), (73, qB false), (74, .tup []), (75, .tup []), (76, qB false), (77, qB false), (78, .tup []), (79, qB false), (80, qB false), (81, .tup []), (82, .tup []), (83, .tup []), (84, .tup []), (85, qB false), (86, qB false), (87, .tup []), (88, .tup []), (89, .tup []), (90, .tup []), (91, .tup []), (92, .tup []), (93, .tup []), (94, .tup []), (95, .tup []), (96, .tup []), (97, qB false), (98, qB false), (99, .tup []), (100, .tup []), (101, .tup []), (102, .tup []), (103, .tup []), (104, .tup []), (105, .tup []), (106, .tup []), (107, .tup []), (108, .tup []), (109, qB false)], []⟩
noncomputable def qlj (k : KT) : qbd := fun y1 y2 y3 y4 y5 y6 y7 y8 => k .normal ⟨[(0, qS y1), (1, qI y2), (5, qU y3), (7, qB false), (70, qB false), (71, qU y4), (72, qB y5), (73, qB true), (74, qU y6), (75, qB y7), (76, qB y8), (77, qB true), (78, qB false), (79, qB false), (80, qB false), (81, .tup []), (82, .tup []), (83, .tup []), (84, .tup []), (85, qB false), (86, qB false), (87, .tup []), (88, .tup []), (89, .tup []), (90, .tup []), (91, .tup []), (92, .tup []), (93, .tup []), (94, .tup []), (95, .tup []), (96, .tup []), (97, qB false), (98, qB false), (99, .tup []), (100, .tup []), (101, .tup []), (102, .tup []), (103, .tup []), (104, .tup []), (105, .tup []), (106, .tup []), (107, .tup []), (108, .tup []), (109, qB false)], []⟩
noncomputable def qlh (k : KT) : qbd := fun y1 y2 y3 y4 y5 y6 y7 y8 => k .normal ⟨[(0, qS y1), (1, qI y2), (5, qU y3), (7, qB false), (70, qB false), (71, qU y4), (72, qB y5), (73, qB true), (74, qU y6), (75, qB y7), (76, qB y8), (77, qB false), (78, .tup []), (79, qB false), (80, qB false), (81, .tup []), (82, .tup []), (83, .tup []), (84, .tup []), (85, qB false), (86, qB false), (87, .tup []), (88, .tup []), (89, .tup []), (90, .tup []), (91, .tup []), (92, .tup []), (93, .tup []), (94, .tup []), (95, .tup []), (96, .tup []), (97, qB false), (98, qB false), (99, .tup []), (100, .tup []), (101, .tup []), (102, .tup []), (103, .tup []), (104, .tup []), (105, .tup []), (106, .tup []), (107, .tup []), (108, .tup []), (109, qB false)], []⟩
noncomputable def qlf (k : KT) : qb0 := fun y1 y2 y3 y4 y5 => k .normal ⟨[(0, qS y1), (1, qI y2), (5, qU y3), (7, qB false), (70, qB false), (71, qU y4), (72, qB y5), (73, qB false), (74, .tup []), (75, .tup []), (76, qB false), (77, qB false), (78, .tup []), (79, qB false), (80, qB false), (81, .tup []), (82, .tup []), (83, .tup []), (84, .tup []), (85, qB false), (86, qB false), (87, .tup []), (88, .tup []), (89, .tup []), (90, .tup []), (91, .tup []), (92, .tup []), (93, .tup []), (94, .tup []), (95, .tup []), (96, .tup []), (97, qB false), (98, qB false), (99, .tup []), (100, .tup []), (101, .tup []), (102, .tup []), (103, .tup []), (104, .tup []), (105, .tup []), (106, .tup []), (107, .tup []), (108, .tup []), (109, qB false)], []⟩
noncomputable def JRRune_10 : St -> (KT) -> OO := fun σ k => match σ with
 | ⟨[(q1, .cl (.sli .u8 v1)), (q2, .cl (.int .i64 v2)), (q3, .cl (.int .u8 v3)), (q4, .cl (.bool true))], []⟩ => cond (Nat.beq q1 0 && Nat.beq q2 1 && Nat.beq q3 5 && Nat.beq q4 7) (shut (qd7 (qp2 k) (qpi k) (qpr k) (qox k) (qpp k) (qo9 k) (qo3 k) (qqb k) (qpk k) (qo8 k)) v1 v2 v3) none
 | ⟨[(q1, .cl (.sli .u8 v1)), (q2, .cl (.int .i64 v2)), (q3, .cl (.int .u8 v3)), (q4, .cl (.bool false))], []⟩ => cond (Nat.beq q1 0 && Nat.beq q2 1 && Nat.beq q3 5 && Nat.beq q4 7) (shut (qdv (qlj k) (qlh k) (qlf k)) v1 v2 v3) none
 | _ => none
noncomputable def ERRune : Env := {
 orc := fun g => cond (Nat.beq g 78) SRCont (fun _ _ => Tree.fail)
 pre := fun g => cond (Nat.beq g 78) preRCont (fun _ _ => true)
 live := fun r => cond (Nat.beq r 4) ([0, 1, 5, 6, 7]) (cond (Nat.beq r 6) ([0, 1, 5, 6, 7]) (cond (Nat.beq r 8) ([0, 1, 5, 7]) (cond (Nat.beq r 10) ([0, 1, 5, 7]) ([]))))
 glob := qca
 nt := 110
 jn := fun r => cond (Nat.beq r 4) (some (JRRune_4)) (cond (Nat.beq r 6) (some (JRRune_6)) (cond (Nat.beq r 8) (some (JRRune_8)) (cond (Nat.beq r 10) (some (JRRune_10)) (none))))
 dc := fun r => cond (Nat.beq r 15) (true) (cond (Nat.beq r 21) (true) (cond (Nat.beq r 84) (true) (false)))
}
noncomputable def bjnRRune_10 : Code := (Cd.snd (Cd.snd (Cd.snd (Cd.snd (Cd.snd (Cd.snd (Cd.fst (Cd.fst (Cd.snd (Cd.snd (Cd.snd (Cd.snd (Tryd.f70.body.getD .skip)))))))))))))
theorem jnRRune_10_eq (k : KT) (v1 : LI) (v2 v3 : Int) : qa3 Tryd.prog (ERRune) 40 bjnRRune_10 ⟨[(0, qS v1), (1, qI v2), (5, qU v3), (7, qB true)], []⟩ k = qd7 (qp2 k) (qpi k) (qpr k) (qox k) (qpp k) (qo9 k) (qo3 k) (qqb k) (qpk k) (qo8 k) v1 v2 v3 := by kernel_rfl
noncomputable def bjnRRune_8 : Code := (Cd.snd (Cd.snd (Cd.snd (Cd.snd (Cd.fst (Cd.fst (Cd.snd (Cd.snd (Cd.snd (Cd.snd (Tryd.f70.body.getD .skip)))))))))))
theorem jnRRune_8_eq (k : KT) (v1 : LI) (v2 v3 : Int) : qa3 Tryd.prog (ERRune) 40 bjnRRune_8 ⟨[(0, qS v1), (1, qI v2), (5, qU v3), (7, qB true)], []⟩ k = qm4 (qrr k) (qrd k) (qq4 k) (qsg k) (qrc k) (cjnRRune_8_5 k) (qr6 k) (qrw k) (qra k) (qrh k) (qp7 k) (qow k) (qp1 k) (qp3 k) v1 v2 v3 := by kernel_rfl
noncomputable def bjnRRune_6 : Code := (Cd.snd (Cd.snd (Cd.fst (Cd.fst (Cd.snd (Cd.snd (Cd.snd (Cd.snd (Tryd.f70.body.getD .skip)))))))))
theorem jnRRune_6_eq (k : KT) (v1 : LI) (v2 v3 : Int) : qa3 Tryd.prog (ERRune) 40 bjnRRune_6 ⟨[(0, qS v1), (1, qI v2), (5, qU v3), (6, qB true), (7, qB true)], []⟩ k = qqi (qq8 k) (qrt k) (qq1 k) (cjnRRune_6_3 k) (cjnRRune_6_4 k) (qrq k) (cjnRRune_6_6 k) (qro k) (cjnRRune_6_8 k) (qr3 k) (qpd k) (qph k) (qpt k) (qo1 k) (qpu k) v1 v2 v3 := by kernel_rfl
noncomputable def bjnRRune_4 : Code := (Cd.snd (Cd.snd (Cd.snd (Cd.snd (Tryd.f70.body.getD .skip)))))
theorem jnRRune_4_eq (k : KT) (v1 : LI) (v2 v3 : Int) : qa3 Tryd.prog (ERRune) 40 bjnRRune_4 ⟨[(0, qS v1), (1, qI v2), (5, qU v3), (6, qB true), (7, qB true)], []⟩ k = qqt (qri k) (cjnRRune_4_1 k) (qr7 k) (cjnRRune_4_3 k) (cjnRRune_4_4 k) (cjnRRune_4_5 k) (cjnRRune_4_6 k) (cjnRRune_4_7 k) (qq7 k) (cjnRRune_4_9 k) (qpz k) (qp9 k) (qo4 k) (qo6 k) (qpw k) (qpe k) v1 v2 v3 := by kernel_rfl
noncomputable def bjnRRune_10_1 : Code := (Cd.snd (Cd.snd (Cd.snd (Cd.snd (Cd.snd (Cd.snd (Cd.fst (Cd.fst (Cd.snd (Cd.snd (Cd.snd (Cd.snd (Tryd.f70.body.getD .skip)))))))))))))
theorem jnRRune_10_1_eq (k : KT) (v1 : LI) (v2 v3 : Int) : qa3 Tryd.prog (ERRune) 40 bjnRRune_10_1 ⟨[(0, qS v1), (1, qI v2), (5, qU v3), (7, qB false)], []⟩ k = qdv (qlj k) (qlh k) (qlf k) v1 v2 v3 := by kernel_rfl
noncomputable def bjnRRune_8_1 : Code := (Cd.snd (Cd.snd (Cd.snd (Cd.snd (Cd.fst (Cd.fst (Cd.snd (Cd.snd (Cd.snd (Cd.snd (Tryd.f70.body.getD .skip)))))))))))
theorem jnRRune_8_1_eq (k : KT) (v1 : LI) (v2 v3 : Int) : qa3 Tryd.prog (ERRune) 40 bjnRRune_8_1 ⟨[(0, qS v1), (1, qI v2), (5, qU v3), (7, qB false)], []⟩ k = qc7 (qng k) (qny k) (qmg k) v1 v2 v3 := by kernel_rfl
noncomputable def bjnRRune_6_1 : Code := (Cd.snd (Cd.snd (Cd.fst (Cd.fst (Cd.snd (Cd.snd (Cd.snd (Cd.snd (Tryd.f70.body.getD .skip)))))))))
theorem jnRRune_6_1_eq (k : KT) (v1 : LI) (v2 v3 : Int) : qa3 Tryd.prog (ERRune) 40 bjnRRune_6_1 ⟨[(0, qS v1), (1, qI v2), (5, qU v3), (6, qB true), (7, qB false)], []⟩ k = qk3 (qns k) (qmy k) (qnt k) (qmv k) v1 v2 v3 := by kernel_rfl
noncomputable def bjnRRune_4_1 : Code := (Cd.snd (Cd.snd (Cd.snd (Cd.snd (Tryd.f70.body.getD .skip)))))
theorem jnRRune_4_1_eq (k : KT) (v1 : LI) (v2 v3 : Int) : qa3 Tryd.prog (ERRune) 40 bjnRRune_4_1 ⟨[(0, qS v1), (1, qI v2), (5, qU v3), (6, qB true), (7, qB false)], []⟩ k = qkv (qnm k) (qnw k) (qnq k) (qmq k) (qnd k) v1 v2 v3 := by kernel_rfl
noncomputable def bjnRRune_6_2 : Code := (Cd.snd (Cd.snd (Cd.fst (Cd.fst (Cd.snd (Cd.snd (Cd.snd (Cd.snd (Tryd.f70.body.getD .skip)))))))))
theorem jnRRune_6_2_eq (k : KT) (v1 : LI) (v2 v3 : Int) : qa3 Tryd.prog (ERRune) 40 bjnRRune_6_2 ⟨[(0, qS v1), (1, qI v2), (5, qU v3), (6, qB false), (7, qB false)], []⟩ k = qj5 (qnf k) (qnv k) (qnk k) v1 v2 v3 := by kernel_rfl
noncomputable def bjnRRune_4_2 : Code := (Cd.snd (Cd.snd (Cd.snd (Cd.snd (Tryd.f70.body.getD .skip)))))
theorem jnRRune_4_2_eq (k : KT) (v1 : LI) (v2 v3 : Int) : qa3 Tryd.prog (ERRune) 40 bjnRRune_4_2 ⟨[(0, qS v1), (1, qI v2), (5, qU v3), (6, qB false), (7, qB false)], []⟩ k = qjx (qm0 k) (ql9 k) (qme k) (qmm k) v1 v2 v3 := by kernel_rfl
theorem JRRune_4_ok : ∀ (σ : St) (k : KT) (r : Out), JRRune_4 σ k = some r -> qa3 Tryd.prog (ERRune) 40 bjnRRune_4 σ k = some r := by
 intro σ k r h
 unfold JRRune_4 at h
 split at h
 ·replace h := qaa h
  obtain ⟨hc, h⟩ := h
  simp only [Bool.and_eq_true, qbb, decide_eq_true_eq, Bool.not_eq_true'] at hc
  obtain ⟨⟨⟨⟨rfl, rfl⟩, rfl⟩, rfl⟩, rfl⟩ := hc
  rw [qae] at h
  exact (jnRRune_4_eq k _ _ _ ).trans h
 ·replace h := qaa h
  obtain ⟨hc, h⟩ := h
  simp only [Bool.and_eq_true, qbb, decide_eq_true_eq, Bool.not_eq_true'] at hc
  obtain ⟨⟨⟨⟨rfl, rfl⟩, rfl⟩, rfl⟩, rfl⟩ := hc
  rw [qae] at h
  exact (jnRRune_4_1_eq k _ _ _ ).trans h
 ·replace h := qaa h
  obtain ⟨hc, h⟩ := h
  simp only [Bool.and_eq_true, qbb, decide_eq_true_eq, Bool.not_eq_true'] at hc
  obtain ⟨⟨⟨⟨rfl, rfl⟩, rfl⟩, rfl⟩, rfl⟩ := hc
  rw [qae] at h
  exact (jnRRune_4_2_eq k _ _ _ ).trans h
 ·cases h
theorem JRRune_6_ok : ∀ (σ : St) (k : KT) (r : Out), JRRune_6 σ k = some r -> qa3 Tryd.prog (ERRune) 40 bjnRRune_6 σ k = some r := by
 intro σ k r h
 unfold JRRune_6 at h
 split at h
 ·replace h := qaa h
  obtain ⟨hc, h⟩ := h
  simp only [Bool.and_eq_true, qbb, decide_eq_true_eq, Bool.not_eq_true'] at hc
  obtain ⟨⟨⟨⟨rfl, rfl⟩, rfl⟩, rfl⟩, rfl⟩ := hc
  rw [qae] at h
  exact (jnRRune_6_eq k _ _ _ ).trans h
 ·replace h := qaa h
  obtain ⟨hc, h⟩ := h
  simp only [Bool.and_eq_true, qbb, decide_eq_true_eq, Bool.not_eq_true'] at hc
  obtain ⟨⟨⟨⟨rfl, rfl⟩, rfl⟩, rfl⟩, rfl⟩ := hc
  rw [qae] at h
  exact (jnRRune_6_1_eq k _ _ _ ).trans h
 ·replace h := qaa h
  obtain ⟨hc, h⟩ := h
  simp only [Bool.and_eq_true, qbb, decide_eq_true_eq, Bool.not_eq_true'] at hc
  obtain ⟨⟨⟨⟨rfl, rfl⟩, rfl⟩, rfl⟩, rfl⟩ := hc
  rw [qae] at h
  exact (jnRRune_6_2_eq k _ _ _ ).trans h
 ·cases h
theorem JRRune_8_ok : ∀ (σ : St) (k : KT) (r : Out), JRRune_8 σ k = some r -> qa3 Tryd.prog (ERRune) 40 bjnRRune_8 σ k = some r := by
 intro σ k r h
 unfold JRRune_8 at h
 split at h
 ·replace h := qaa h
  obtain ⟨hc, h⟩ := h
  simp only [Bool.and_eq_true, qbb, decide_eq_true_eq, Bool.not_eq_true'] at hc
  obtain ⟨⟨⟨rfl, rfl⟩, rfl⟩, rfl⟩ := hc
  rw [qae] at h
  exact (jnRRune_8_eq k _ _ _ ).trans h
 ·replace h := qaa h
  obtain ⟨hc, h⟩ := h
  simp only [Bool.and_eq_true, qbb, decide_eq_true_eq, Bool.not_eq_true'] at hc
  obtain ⟨⟨⟨rfl, rfl⟩, rfl⟩, rfl⟩ := hc
  rw [qae] at h
  exact (jnRRune_8_1_eq k _ _ _ ).trans h
 ·cases h
theorem JRRune_10_ok : ∀ (σ : St) (k : KT) (r : Out), JRRune_10 σ k = some r -> qa3 Tryd.prog (ERRune) 40 bjnRRune_10 σ k = some r := by
 intro σ k r h
 unfold JRRune_10 at h
 split at h
 ·replace h := qaa h
  obtain ⟨hc, h⟩ := h
  simp only [Bool.and_eq_true, qbb, decide_eq_true_eq, Bool.not_eq_true'] at hc
  obtain ⟨⟨⟨rfl, rfl⟩, rfl⟩, rfl⟩ := hc
  rw [qae] at h
  exact (jnRRune_10_eq k _ _ _ ).trans h
 ·replace h := qaa h
  obtain ⟨hc, h⟩ := h
  simp only [Bool.and_eq_true, qbb, decide_eq_true_eq, Bool.not_eq_true'] at hc
  obtain ⟨⟨⟨rfl, rfl⟩, rfl⟩, rfl⟩ := hc
  rw [qae] at h
  exact (jnRRune_10_1_eq k _ _ _ ).trans h
 ·cases h
theorem loopsRRune : ∀ c, Tryd.f70.body = some c -> qaq Tryd.prog (ERRune) 40 c := by
 intro c hc
 cases hc
 exact ⟨trivial, ⟨trivial, ⟨trivial, ⟨trivial, ⟨⟨trivial, ⟨⟨trivial, trivial, qag rfl⟩, ⟨trivial, ⟨⟨trivial, trivial, qag rfl⟩, ⟨trivial, ⟨⟨trivial, trivial, qag rfl⟩, qal _ (by kernel_rfl), jn_some rfl (JRRune_10_ok)⟩, qag rfl⟩, jn_some rfl (JRRune_8_ok)⟩, qag rfl⟩, jn_some rfl (JRRune_6_ok)⟩, qag rfl⟩, ⟨trivial, trivial, qag rfl⟩, qag rfl⟩, jn_some rfl (JRRune_4_ok)⟩, qag rfl⟩, qag rfl⟩, qag rfl⟩
noncomputable def gRRune (b : LI) (i : Int) : OO :=
 cond (decide ((0 : Int) <= i)) (
 cond (decide (i < ((b.length : Nat) : Int))) (
 Option.bind (b[(Int.toNat i)]?) fun (e1 : Int) =>
 let x2 : Int := IntKind.i64.wrap (i + 1)
 cond (decide (0 <= x2)) (
 let r3 : Bool := u8Cont b x2
 cond (r3) (
 let x4 : Int := IntKind.i64.wrap (i + 2)
 cond (decide (0 <= x4)) (
 let r5 : Bool := u8Cont b x4
 cond (r5) (
 shut (qqt
 (fun y6 y7 y8 y9 y10 =>
 some (.ret [.cl (.int .i64 1)] []))
 (fun y11 y12 y13 y14 y15 y16 y17 y18 =>
 some (.ret [.cl (.int .i64 2)] []))
 (fun y19 y20 y21 y22 y23 y24 y25 y26 y27 y28 y29 y30 =>
 some (.ret [.cl (.int .i64 3)] []))
 (fun y31 y32 y33 y34 y35 y36 y37 y38 y39 y40 y41 y42 y43 y44 y45 y46 y47 y48 y49 y50 y51 =>
 some (.ret [.cl (.int .i64 3)] []))
 (fun y52 y53 y54 y55 y56 y57 y58 y59 y60 y61 y62 y63 y64 y65 y66 =>
 some (.ret [.cl (.int .i64 4)] []))
 (fun y67 y68 y69 y70 y71 y72 y73 y74 y75 y76 y77 y78 y79 y80 y81 y82 y83 y84 y85 y86 y87 y88 y89 y90 =>
 some (.ret [.cl (.int .i64 4)] []))
 (fun y91 y92 y93 y94 y95 y96 y97 y98 y99 y100 y101 y102 y103 y104 y105 y106 y107 y108 y109 y110 y111 y112 y113 y114 =>
 some (.ret [.cl (.int .i64 0)] []))
 (fun y115 y116 y117 y118 y119 y120 y121 y122 y123 y124 y125 y126 y127 y128 y129 y130 y131 y132 y133 y134 y135 y136 y137 y138 =>
 some (.ret [.cl (.int .i64 4)] []))
 (fun y139 y140 y141 y142 y143 y144 y145 y146 y147 y148 y149 y150 y151 y152 y153 y154 y155 y156 y157 y158 y159 y160 y161 y162 y163 y164 y165 y166 y167 y168 y169 y170 y171 =>
 some (.ret [.cl (.int .i64 4)] []))
 (fun y172 y173 y174 y175 y176 y177 y178 y179 y180 y181 y182 y183 y184 y185 y186 y187 y188 y189 y190 y191 y192 y193 y194 y195 y196 y197 y198 y199 y200 y201 y202 y203 y204 =>
 some (.ret [.cl (.int .i64 0)] []))
 (fun y205 y206 y207 y208 y209 y210 y211 y212 y213 y214 y215 y216 y217 y218 y219 y220 y221 y222 y223 y224 y225 y226 =>
 some (.ret [.cl (.int .i64 0)] []))
 (fun y227 y228 y229 y230 y231 y232 y233 y234 y235 y236 y237 =>
 some (.ret [.cl (.int .i64 0)] []))
 (fun y238 y239 y240 y241 y242 y243 y244 y245 =>
 some (.ret [.cl (.int .i64 0)] []))
 (fun y246 y247 y248 y249 y250 =>
 some (.ret [.cl (.int .i64 0)] []))
 (fun y251 y252 y253 y254 y255 y256 y257 y258 y259 y260 y261 y262 y263 y264 y265 y266 y267 y268 y269 y270 y271 =>
 some (.ret [.cl (.int .i64 3)] []))
 (fun y272 y273 y274 y275 y276 y277 y278 y279 y280 y281 y282 y283 y284 y285 y286 y287 y288 y289 y290 y291 y292 y293 y294 y295 y296 y297 y298 y299 y300 y301 =>
 some (.ret [.cl (.int .i64 3)] []))) b i e1)
 (
 shut (qkv
 (fun y302 y303 y304 y305 y306 =>
 some (.ret [.cl (.int .i64 1)] []))
 (fun y307 y308 y309 y310 y311 y312 y313 y314 =>
 some (.ret [.cl (.int .i64 2)] []))
 (fun y315 y316 y317 y318 y319 y320 y321 y322 =>
 some (.ret [.cl (.int .i64 0)] []))
 (fun y323 y324 y325 y326 y327 y328 y329 y330 =>
 some (.ret [.cl (.int .i64 0)] []))
 (fun y331 y332 y333 y334 y335 =>
 some (.ret [.cl (.int .i64 0)] []))) b i e1)) none)
 (
 shut (qjx
 (fun y336 y337 y338 y339 y340 =>
 some (.ret [.cl (.int .i64 1)] []))
 (fun y341 y342 y343 y344 y345 y346 y347 y348 =>
 some (.ret [.cl (.int .i64 0)] []))
 (fun y349 y350 y351 y352 y353 y354 y355 y356 =>
 some (.ret [.cl (.int .i64 0)] []))
 (fun y357 y358 y359 y360 y361 =>
 some (.ret [.cl (.int .i64 0)] []))) b i e1)) none) none) none
theorem gRRune_eq (b : LI) (i : Int) : qco Tryd.prog (ERRune) 40 false Tryd.f70 [.cl (.sli .u8 b), .cl (.int .i64 i)] [] = gRRune b i := by kernel_rfl
end Go.Proofs.YtbgkadaidhgggaaDoorA

