/-
 What the reading of unicode/utf8.Valid comes to, printed by a program. Conditions: none.
-/
import Derived.Test.YtbgkadaidhgggaaDoorT1
set_option linter.unusedVariables false
set_option linter.unusedSimpArgs false
set_option maxRecDepth 100000
namespace Go.Proofs.YtbgkadaidhgggaaDoorA
abbrev zUValid0 := LI -> LI -> Int -> Bool -> LI -> Int -> LI -> LI -> Int -> Int -> LI -> LI -> Int -> LI -> LI -> Int -> Int -> Int -> Int -> Bool -> OO
abbrev zUValid1 := LI -> LI -> Int -> Bool -> OO
abbrev zUValid2 := LI -> Int -> Int -> Int -> LI -> Int -> LI -> LI -> Int -> Int -> Int -> LI -> Nat -> Int -> Int -> Int -> Int -> Int -> Int -> LC -> Nat -> Int -> Int -> Int -> Bool -> LI -> Int -> Bool -> Int -> Int -> OO
abbrev zUValid3 := LI -> Int -> Int -> Int -> LI -> Int -> LI -> LI -> Int -> Int -> Int -> LI -> Nat -> Int -> Int -> Int -> Int -> Int -> Int -> LC -> Nat -> Int -> Int -> Int -> Bool -> LI -> Int -> Bool -> LI -> LI -> Int -> Int -> Bool -> Bool -> Int -> Int -> OO
abbrev zUValid4 := LI -> Int -> Int -> Int -> LI -> Int -> LI -> LI -> Int -> Int -> Int -> LI -> Nat -> Int -> Int -> Int -> Int -> Int -> Int -> LC -> Nat -> Int -> Int -> Int -> Bool -> LI -> Int -> Bool -> LI -> LI -> Int -> Int -> Bool -> Bool -> Int -> LI -> LI -> Int -> Bool -> Int -> Int -> OO
abbrev zUValid5 := LI -> Int -> Int -> Int -> LI -> Int -> LI -> LI -> Int -> Int -> Int -> LI -> Nat -> Int -> Int -> Int -> Int -> Int -> Int -> LC -> Nat -> Int -> Int -> Int -> Bool -> Bool -> LI -> Int -> Bool -> Int -> Int -> OO
abbrev zUValid6 := LI -> Int -> Int -> Int -> LI -> Int -> LI -> LI -> Int -> Int -> Int -> LI -> Nat -> Int -> Int -> Int -> Int -> Int -> Int -> LC -> Nat -> Int -> Int -> Int -> Bool -> Bool -> LI -> Int -> Bool -> LI -> LI -> Int -> Int -> Bool -> Bool -> Int -> Int -> OO
abbrev zUValid7 := LI -> Int -> Int -> Int -> LI -> Int -> LI -> LI -> Int -> Int -> Int -> LI -> Nat -> Int -> Int -> Int -> Int -> Int -> Int -> LC -> Nat -> Int -> Int -> Int -> Bool -> Bool -> LI -> Int -> Bool -> LI -> LI -> Int -> Int -> Bool -> Bool -> Int -> LI -> LI -> Int -> Bool -> Bool -> Int -> Int -> OO
abbrev zUValid8 := LI -> Int -> Int -> Int -> LI -> Int -> LI -> LI -> Int -> Int -> Int -> LI -> Nat -> Int -> Int -> Int -> Int -> Int -> Int -> LC -> Nat -> Int -> Int -> Int -> Bool -> Bool -> LI -> Int -> Bool -> LI -> LI -> Int -> Int -> Bool -> Bool -> Int -> LI -> LI -> Int -> Bool -> Bool -> LI -> LI -> Int -> Bool -> Bool -> Int -> Int -> OO
abbrev zUValid9 := LI -> Int -> Int -> Int -> LI -> Int -> LI -> LI -> Int -> Int -> Int -> LI -> Nat -> Int -> Int -> Int -> Int -> Int -> Int -> LC -> Nat -> Int -> Int -> Int -> Bool -> Bool -> LI -> Int -> Bool -> LI -> LI -> Int -> Int -> Bool -> Bool -> Int -> LI -> LI -> Int -> Bool -> Bool -> LI -> LI -> Int -> Bool -> Bool -> LI -> LI -> Int -> Bool -> Int -> Int -> OO
abbrev zUValid10 := LI -> Int -> Int -> Int -> LI -> Int -> LI -> LI -> Int -> Int -> Int -> LI -> Nat -> Int -> Int -> Int -> Int -> Int -> Int -> LC -> Nat -> Int -> Int -> Int -> Bool -> Bool -> Bool -> LI -> Int -> Bool -> Int -> Int -> OO
abbrev zUValid11 := LI -> Int -> Int -> Int -> LI -> Int -> LI -> LI -> Int -> Int -> Int -> LI -> Nat -> Int -> Int -> Int -> Int -> Int -> Int -> LC -> Nat -> Int -> Int -> Int -> Bool -> Bool -> Bool -> LI -> Int -> Bool -> LI -> LI -> Int -> Int -> Bool -> Bool -> Int -> Int -> OO
abbrev zUValid12 := LI -> Int -> Int -> Int -> LI -> Int -> LI -> LI -> Int -> Int -> Int -> LI -> Nat -> Int -> Int -> Int -> Int -> Int -> Int -> LC -> Nat -> Int -> Int -> Int -> Bool -> Bool -> Bool -> LI -> Int -> Bool -> LI -> LI -> Int -> Int -> Bool -> Bool -> Int -> LI -> LI -> Int -> Bool -> Bool -> Int -> Int -> OO
abbrev zUValid13 := LI -> Int -> Int -> Int -> LI -> Int -> LI -> LI -> Int -> Int -> Int -> LI -> Nat -> Int -> Int -> Int -> Int -> Int -> Int -> LC -> Nat -> Int -> Int -> Int -> Bool -> Bool -> Bool -> LI -> Int -> Bool -> LI -> LI -> Int -> Int -> Bool -> Bool -> Int -> LI -> LI -> Int -> Bool -> Bool -> LI -> LI -> Int -> Bool -> Bool -> Int -> Int -> OO
abbrev zUValid14 := LI -> Int -> Int -> Int -> LI -> Int -> LI -> LI -> Int -> Int -> Int -> LI -> Nat -> Int -> Int -> Int -> Int -> Int -> Int -> LC -> Nat -> Int -> Int -> Int -> Bool -> Bool -> Bool -> LI -> Int -> Bool -> LI -> LI -> Int -> Int -> Bool -> Bool -> Int -> LI -> LI -> Int -> Bool -> Bool -> LI -> LI -> Int -> Bool -> Bool -> LI -> LI -> Int -> Bool -> Bool -> Int -> Int -> OO
abbrev zUValid15 := LI -> Int -> Int -> Int -> LI -> Int -> LI -> LI -> Int -> Int -> Int -> LI -> Nat -> Int -> Int -> Int -> Int -> Int -> Int -> LC -> Nat -> Int -> Int -> Int -> Bool -> Bool -> Bool -> LI -> Int -> Bool -> LI -> LI -> Int -> Int -> Bool -> Bool -> Int -> LI -> LI -> Int -> Bool -> Bool -> LI -> LI -> Int -> Bool -> Bool -> LI -> LI -> Int -> Bool -> Bool -> LI -> LI -> Int -> Bool -> Bool -> Int -> Int -> OO
abbrev zUValid16 := LI -> Int -> Int -> Int -> LI -> Int -> LI -> LI -> Int -> Int -> Int -> LI -> Nat -> Int -> Int -> Int -> Int -> Int -> Int -> LC -> Nat -> Int -> Int -> Int -> Bool -> Bool -> Bool -> LI -> Int -> Bool -> LI -> LI -> Int -> Int -> Bool -> Bool -> Int -> LI -> LI -> Int -> Bool -> Bool -> LI -> LI -> Int -> Bool -> Bool -> LI -> LI -> Int -> Bool -> Bool -> LI -> LI -> Int -> Bool -> Bool -> LI -> LI -> Int -> Bool -> Int -> Int -> OO
abbrev zUValid17 := LI -> Int -> Int -> Int -> LI -> Int -> LI -> LI -> Int -> Int -> Int -> LI -> Nat -> Int -> Int -> Int -> Int -> Int -> Int -> LC -> Nat -> Int -> Int -> Int -> Bool -> Bool -> Bool -> Int -> Int -> OO
noncomputable def qgc (again : LI -> OO) (k0 : zUValid0) (k1 : zUValid1) (v1 : LI) : OO :=
 cond (decide ((32 : Int) < ((v1.length : Nat) : Int))) (
 cond (qac v1 && decide (8 <= v1.length)) (
 let r13 : Int := u8Word v1
 cond (decide ((8 : Int) <= ((v1.length : Nat) : Int))) (
 let l14 : LI := List.drop 8 v1
 cond (qac l14 && decide (8 <= l14.length)) (
 let r15 : Int := u8Word l14
 let x16 : Int := IntKind.u64.wrap ((BitVec.ofInt 64 r13 ||| BitVec.ofInt 64 r15).toNat)
 cond (decide ((16 : Int) <= ((v1.length : Nat) : Int))) (
 let l17 : LI := List.drop 16 v1
 cond (qac l17 && decide (8 <= l17.length)) (
 let r18 : Int := u8Word l17
 cond (decide ((24 : Int) <= ((v1.length : Nat) : Int))) (
 let l19 : LI := List.drop 24 v1
 cond (qac l19 && decide (8 <= l19.length)) (
 let r20 : Int := u8Word l19
 let x21 : Int := IntKind.u64.wrap ((BitVec.ofInt 64 r18 ||| BitVec.ofInt 64 r20).toNat)
 let x22 : Int := IntKind.u64.wrap ((BitVec.ofInt 64 x16 ||| BitVec.ofInt 64 x21).toNat)
 let x23 : Int := IntKind.u64.wrap ((BitVec.ofInt 64 x22 &&& BitVec.ofInt 64 9259542123273814144).toNat)
 cond (decide (x23 = 0)) (
 cond (decide ((32 : Int) <= ((v1.length : Nat) : Int))) (
 let l24 : LI := List.drop 32 v1
 again l24) none)
 (
 k0 v1 v1 ((v1.length : Nat) : Int) (decide ((32 : Int) < ((v1.length : Nat) : Int))) v1 r13 v1 l14 r15 x16 v1 l17 r18 v1 l19 r20 x21 x22 x23 (decide (x23 = 0)))) none) none) none) none) none) none) none)
 (
 k1 v1 v1 ((v1.length : Nat) : Int) (decide ((32 : Int) < ((v1.length : Nat) : Int))))
noncomputable def qdp (k0 : zUValid0) (k1 : zUValid1) : Nat -> LI -> OO
 | 0 => fun _ => none
 | n + 1 => qgc (qdp k0 k1 n) k0 k1
noncomputable def qj8 (again : LI -> OO) (k0 : zUValid2) (k1 : zUValid3) (k2 : zUValid4) (k3 : zUValid5) (k4 : zUValid6) (k5 : zUValid7) (k6 : zUValid8) (k7 : zUValid9) (k8 : zUValid10) (k9 : zUValid11) (k10 : zUValid12) (k11 : zUValid13) (k12 : zUValid14) (k13 : zUValid15) (k14 : zUValid16) (k15 : zUValid17) (k16 : LI -> LI -> Int -> OO) (v1 : LI) : OO :=
 cond (decide ((0 : Int) < ((v1.length : Nat) : Int))) (
 cond (decide ((0 : Int) < ((v1.length : Nat) : Int))) (
 Option.bind (v1[0]?) fun (e2 : Int) =>
 cond (decide (e2 < 128)) (
 cond (decide ((1 : Int) <= ((v1.length : Nat) : Int))) (
 let l3 : LI := List.drop 1 v1
 cond (decide ((8 : Int) < ((l3.length : Nat) : Int))) (
 cond (qac l3 && decide (8 <= l3.length)) (
 let r4 : Int := u8Word l3
 let x5 : Int := IntKind.u64.wrap ((BitVec.ofInt 64 r4 &&& BitVec.ofInt 64 9259542123273814144).toNat)
 cond (decide (x5 = 0)) (
 cond (decide ((8 : Int) <= ((l3.length : Nat) : Int))) (
 let l6 : LI := List.drop 8 l3
 cond (decide ((16 : Int) < ((l6.length : Nat) : Int))) (
 cond (qac l6 && decide (8 <= l6.length)) (
 let r7 : Int := u8Word l6
 cond (decide ((8 : Int) <= ((l6.length : Nat) : Int))) (
 let l8 : LI := List.drop 8 l6
 cond (qac l8 && decide (8 <= l8.length)) (
 let r9 : Int := u8Word l8
 let x10 : Int := IntKind.u64.wrap ((BitVec.ofInt 64 r7 ||| BitVec.ofInt 64 r9).toNat)
 let x11 : Int := IntKind.u64.wrap ((BitVec.ofInt 64 x10 &&& BitVec.ofInt 64 9259542123273814144).toNat)
 cond (decide (x11 = 0)) (
 cond (decide ((16 : Int) <= ((l6.length : Nat) : Int))) (
 let l12 : LI := List.drop 16 l6
 shut (qdp
 (fun y13 y14 y15 y16 y17 y18 y19 y20 y21 y22 y23 y24 y25 y26 y27 y28 y29 y30 y31 y32 =>
 again y13)
 (fun y33 y34 y35 y36 =>
 again y33)
 FUEL) l12) none)
 (
 again l6)) none) none) none)
 (
 again l6)) none)
 (
 again l3)) none)
 (
 again l3)) none)
 (
 cond (decide ((0 : Int) <= e2)) (
 cond (decide (e2 < 256)) (
 Option.bind (u8First[(Int.toNat e2)]?) fun (e37 : Int) =>
 let x38 : Int := IntKind.u8.wrap ((BitVec.ofInt 8 e37 &&& BitVec.ofInt 8 7).toNat)
 let x39 : Int := IntKind.i64.wrap x38
 let x40 : Int := Int.fdiv e37 (2 ^ 4)
 cond (decide ((0 : Int) <= x40)) (
 cond (decide (x40 < 16)) (
 Option.bind (u8Accept[(Int.toNat x40)]?) fun (e41 : CV) =>
 let e42 : CV := (cell1 e41).headD .nili
 let e43 : CV := (cell1 e41).tail.headD .nili
 cond (okInt .u8 e42 && (okInt .u8 e43 && true)) (
 let i44 : Int := cvInt e42
 let i45 : Int := cvInt e43
 cond (decide (x39 = 2)) (
 cond (decide (((v1.length : Nat) : Int) < 2)) (
 k0 v1 e2 e37 x39 v1 ((v1.length : Nat) : Int) v1 v1 e2 e2 e2 u8First (Int.toNat e2) e37 e37 x38 x39 e37 x40 u8Accept (Int.toNat x40) i44 i45 x39 (decide (x39 = 2)) v1 ((v1.length : Nat) : Int) (decide (((v1.length : Nat) : Int) < 2)) i44 i45)
 (
 cond (decide ((1 : Int) < ((v1.length : Nat) : Int))) (
 Option.bind (v1[1]?) fun (e46 : Int) =>
 cond (decide (e46 < i44)) (
 k1 v1 e2 e37 x39 v1 ((v1.length : Nat) : Int) v1 v1 e2 e2 e2 u8First (Int.toNat e2) e37 e37 x38 x39 e37 x40 u8Accept (Int.toNat x40) i44 i45 x39 (decide (x39 = 2)) v1 ((v1.length : Nat) : Int) (decide (((v1.length : Nat) : Int) < 2)) v1 v1 e46 i44 (decide (e46 < i44)) (decide (e46 < i44)) i44 i45)
 (
 cond (decide ((1 : Int) < ((v1.length : Nat) : Int))) (
 Option.bind (v1[1]?) fun (e47 : Int) =>
 cond (decide (i45 < e47)) (
 k2 v1 e2 e37 x39 v1 ((v1.length : Nat) : Int) v1 v1 e2 e2 e2 u8First (Int.toNat e2) e37 e37 x38 x39 e37 x40 u8Accept (Int.toNat x40) i44 i45 x39 (decide (x39 = 2)) v1 ((v1.length : Nat) : Int) (decide (((v1.length : Nat) : Int) < 2)) v1 v1 e46 i44 (decide (e46 < i44)) (decide (e46 < i44)) i45 v1 v1 e47 (decide (i45 < e47)) i44 i45)
 (
 cond (decide ((2 : Int) <= ((v1.length : Nat) : Int))) (
 let l48 : LI := List.drop 2 v1
 again l48) none)) none)) none))
 (
 cond (decide (x39 = 3)) (
 cond (decide (((v1.length : Nat) : Int) < 3)) (
 k3 v1 e2 e37 x39 v1 ((v1.length : Nat) : Int) v1 v1 e2 e2 e2 u8First (Int.toNat e2) e37 e37 x38 x39 e37 x40 u8Accept (Int.toNat x40) i44 i45 x39 (decide (x39 = 2)) (decide (x39 = 3)) v1 ((v1.length : Nat) : Int) (decide (((v1.length : Nat) : Int) < 3)) i44 i45)
 (
 cond (decide ((1 : Int) < ((v1.length : Nat) : Int))) (
 Option.bind (v1[1]?) fun (e49 : Int) =>
 cond (decide (e49 < i44)) (
 k4 v1 e2 e37 x39 v1 ((v1.length : Nat) : Int) v1 v1 e2 e2 e2 u8First (Int.toNat e2) e37 e37 x38 x39 e37 x40 u8Accept (Int.toNat x40) i44 i45 x39 (decide (x39 = 2)) (decide (x39 = 3)) v1 ((v1.length : Nat) : Int) (decide (((v1.length : Nat) : Int) < 3)) v1 v1 e49 i44 (decide (e49 < i44)) (decide (e49 < i44)) i44 i45)
 (
 cond (decide ((1 : Int) < ((v1.length : Nat) : Int))) (
 Option.bind (v1[1]?) fun (e50 : Int) =>
 cond (decide (i45 < e50)) (
 k5 v1 e2 e37 x39 v1 ((v1.length : Nat) : Int) v1 v1 e2 e2 e2 u8First (Int.toNat e2) e37 e37 x38 x39 e37 x40 u8Accept (Int.toNat x40) i44 i45 x39 (decide (x39 = 2)) (decide (x39 = 3)) v1 ((v1.length : Nat) : Int) (decide (((v1.length : Nat) : Int) < 3)) v1 v1 e49 i44 (decide (e49 < i44)) (decide (e49 < i44)) i45 v1 v1 e50 (decide (i45 < e50)) (decide (i45 < e50)) i44 i45)
 (
 cond (decide ((2 : Int) < ((v1.length : Nat) : Int))) (
 Option.bind (v1[2]?) fun (e51 : Int) =>
 cond (decide (e51 < 128)) (
 k6 v1 e2 e37 x39 v1 ((v1.length : Nat) : Int) v1 v1 e2 e2 e2 u8First (Int.toNat e2) e37 e37 x38 x39 e37 x40 u8Accept (Int.toNat x40) i44 i45 x39 (decide (x39 = 2)) (decide (x39 = 3)) v1 ((v1.length : Nat) : Int) (decide (((v1.length : Nat) : Int) < 3)) v1 v1 e49 i44 (decide (e49 < i44)) (decide (e49 < i44)) i45 v1 v1 e50 (decide (i45 < e50)) (decide (i45 < e50)) v1 v1 e51 (decide (e51 < 128)) (decide (e51 < 128)) i44 i45)
 (
 cond (decide ((2 : Int) < ((v1.length : Nat) : Int))) (
 Option.bind (v1[2]?) fun (e52 : Int) =>
 cond (decide ((191 : Int) < e52)) (
 k7 v1 e2 e37 x39 v1 ((v1.length : Nat) : Int) v1 v1 e2 e2 e2 u8First (Int.toNat e2) e37 e37 x38 x39 e37 x40 u8Accept (Int.toNat x40) i44 i45 x39 (decide (x39 = 2)) (decide (x39 = 3)) v1 ((v1.length : Nat) : Int) (decide (((v1.length : Nat) : Int) < 3)) v1 v1 e49 i44 (decide (e49 < i44)) (decide (e49 < i44)) i45 v1 v1 e50 (decide (i45 < e50)) (decide (i45 < e50)) v1 v1 e51 (decide (e51 < 128)) (decide (e51 < 128)) v1 v1 e52 (decide ((191 : Int) < e52)) i44 i45)
 (
 cond (decide ((3 : Int) <= ((v1.length : Nat) : Int))) (
 let l53 : LI := List.drop 3 v1
 again l53) none)) none)) none)) none)) none))
 (
 cond (decide (x39 = 4)) (
 cond (decide (((v1.length : Nat) : Int) < 4)) (
 k8 v1 e2 e37 x39 v1 ((v1.length : Nat) : Int) v1 v1 e2 e2 e2 u8First (Int.toNat e2) e37 e37 x38 x39 e37 x40 u8Accept (Int.toNat x40) i44 i45 x39 (decide (x39 = 2)) (decide (x39 = 3)) (decide (x39 = 4)) v1 ((v1.length : Nat) : Int) (decide (((v1.length : Nat) : Int) < 4)) i44 i45)
 (
 cond (decide ((1 : Int) < ((v1.length : Nat) : Int))) (
 Option.bind (v1[1]?) fun (e54 : Int) =>
 cond (decide (e54 < i44)) (
 k9 v1 e2 e37 x39 v1 ((v1.length : Nat) : Int) v1 v1 e2 e2 e2 u8First (Int.toNat e2) e37 e37 x38 x39 e37 x40 u8Accept (Int.toNat x40) i44 i45 x39 (decide (x39 = 2)) (decide (x39 = 3)) (decide (x39 = 4)) v1 ((v1.length : Nat) : Int) (decide (((v1.length : Nat) : Int) < 4)) v1 v1 e54 i44 (decide (e54 < i44)) (decide (e54 < i44)) i44 i45)
 (
 cond (decide ((1 : Int) < ((v1.length : Nat) : Int))) (
 Option.bind (v1[1]?) fun (e55 : Int) =>
 cond (decide (i45 < e55)) (
 k10 v1 e2 e37 x39 v1 ((v1.length : Nat) : Int) v1 v1 e2 e2 e2 u8First (Int.toNat e2) e37 e37 x38 x39 e37 x40 u8Accept (Int.toNat x40) i44 i45 x39 (decide (x39 = 2)) (decide (x39 = 3)) (decide (x39 = 4)) v1 ((v1.length : Nat) : Int) (decide (((v1.length : Nat) : Int) < 4)) v1 v1 e54 i44 (decide (e54 < i44)) (decide (e54 < i44)) i45 v1 v1 e55 (decide (i45 < e55)) (decide (i45 < e55)) i44 i45)
 (
 cond (decide ((2 : Int) < ((v1.length : Nat) : Int))) (
 Option.bind (v1[2]?) fun (e56 : Int) =>
 cond (decide (e56 < 128)) (
 k11 v1 e2 e37 x39 v1 ((v1.length : Nat) : Int) v1 v1 e2 e2 e2 u8First (Int.toNat e2) e37 e37 x38 x39 e37 x40 u8Accept (Int.toNat x40) i44 i45 x39 (decide (x39 = 2)) (decide (x39 = 3)) (decide (x39 = 4)) v1 ((v1.length : Nat) : Int) (decide (((v1.length : Nat) : Int) < 4)) v1 v1 e54 i44 (decide (e54 < i44)) (decide (e54 < i44)) i45 v1 v1 e55 (decide (i45 < e55)) (decide (i45 < e55)) v1 v1 e56 (decide (e56 < 128)) (decide (e56 < 128)) i44 i45)
 (
 cond (decide ((2 : Int) < ((v1.length : Nat) : Int))) (
 Option.bind (v1[2]?) fun (e57 : Int) =>
 cond (decide ((191 : Int) < e57)) (
 k12 v1 e2 e37 x39 v1 ((v1.length : Nat) : Int) v1 v1 e2 e2 e2 u8First (Int.toNat e2) e37 e37 x38 x39 e37 x40 u8Accept (Int.toNat x40) i44 i45 x39 (decide (x39 = 2)) (decide (x39 = 3)) (decide (x39 = 4)) v1 ((v1.length : Nat) : Int) (decide (((v1.length : Nat) : Int) < 4)) v1 v1 e54 i44 (decide (e54 < i44)) (decide (e54 < i44)) i45 v1 v1 e55 (decide (i45 < e55)) (decide (i45 < e55)) v1 v1 e56 (decide (e56 < 128)) (decide (e56 < 128)) v1 v1 e57 (decide ((191 : Int) < e57)) (decide ((191 : Int) < e57)) i44 i45)
 (
 cond (decide ((3 : Int) < ((v1.length : Nat) : Int))) (
 Option.bind (v1[3]?) fun (e58 : Int) =>
 cond (decide (e58 < 128)) (
 k13 v1 e2 e37 x39 v1 ((v1.length : Nat) : Int) v1 v1 e2 e2 e2 u8First (Int.toNat e2) e37 e37 x38 x39 e37 x40 u8Accept (Int.toNat x40) i44 i45 x39 (decide (x39 = 2)) (decide (x39 = 3)) (decide (x39 = 4)) v1 ((v1.length : Nat) : Int) (decide (((v1.length : Nat) : Int) < 4)) v1 v1 e54 i44 (decide (e54 < i44)) (decide (e54 < i44)) i45 v1 v1 e55 (decide (i45 < e55)) (decide (i45 < e55)) v1 v1 e56 (decide (e56 < 128)) (decide (e56 < 128)) v1 v1 e57 (decide ((191 : Int) < e57)) (decide ((191 : Int) < e57)) v1 v1 e58 (decide (e58 < 128)) (decide (e58 < 128)) i44 i45)
 (
 cond (decide ((3 : Int) < ((v1.length : Nat) : Int))) (
 Option.bind (v1[3]?) fun (e59 : Int) =>
 cond (decide ((191 : Int) < e59)) (
 k14 v1 e2 e37 x39 v1 ((v1.length : Nat) : Int) v1 v1 e2 e2 e2 u8First (Int.toNat e2) e37 e37 x38 x39 e37 x40 u8Accept (Int.toNat x40) i44 i45 x39 (decide (x39 = 2)) (decide (x39 = 3)) (decide (x39 = 4)) v1 ((v1.length : Nat) : Int) (decide (((v1.length : Nat) : Int) < 4)) v1 v1 e54 i44 (decide (e54 < i44)) (decide (e54 < i44)) i45 v1 v1 e55 (decide (i45 < e55)) (decide (i45 < e55)) v1 v1 e56 (decide (e56 < 128)) (decide (e56 < 128)) v1 v1 e57 (decide ((191 : Int) < e57)) (decide ((191 : Int) < e57)) v1 v1 e58 (decide (e58 < 128)) (decide (e58 < 128)) v1 v1 e59 (decide ((191 : Int) < e59)) i44 i45)
 (
 cond (decide ((4 : Int) <= ((v1.length : Nat) : Int))) (
 let l60 : LI := List.drop 4 v1
 again l60) none)) none)) none)) none)) none)) none)) none))
 (
 k15 v1 e2 e37 x39 v1 ((v1.length : Nat) : Int) v1 v1 e2 e2 e2 u8First (Int.toNat e2) e37 e37 x38 x39 e37 x40 u8Accept (Int.toNat x40) i44 i45 x39 (decide (x39 = 2)) (decide (x39 = 3)) (decide (x39 = 4)) i44 i45)))) none) none) none) none) none)) none)
 (
 k16 v1 v1 ((v1.length : Nat) : Int))
noncomputable def qdi (k0 : zUValid2) (k1 : zUValid3) (k2 : zUValid4) (k3 : zUValid5) (k4 : zUValid6) (k5 : zUValid7) (k6 : zUValid8) (k7 : zUValid9) (k8 : zUValid10) (k9 : zUValid11) (k10 : zUValid12) (k11 : zUValid13) (k12 : zUValid14) (k13 : zUValid15) (k14 : zUValid16) (k15 : zUValid17) (k16 : LI -> LI -> Int -> OO) : Nat -> LI -> OO
 | 0 => fun _ => none
 | n + 1 => qj8 (qdi k0 k1 k2 k3 k4 k5 k6 k7 k8 k9 k10 k11 k12 k13 k14 k15 k16 n) k0 k1 k2 k3 k4 k5 k6 k7 k8 k9 k10 k11 k12 k13 k14 k15 k16
noncomputable def qh2 (k : KT) : zUValid0 := fun y1 y2 y3 y4 y5 y6 y7 y8 y9 y10 y11 y12 y13 y14 y15 y16 y17 y18 y19 y20 => k (.exit 2) ⟨[(0, qS y1), (49, qS y2), (50, qI y3), (51, qB y4), (52, qB true), (53, qS y5), (54, qW y6), (55, qS y7), (56, qS y8), (57, qW y9), (58, qW y10), (59, qS y11), (60, qS y12), (61, qW y13), (62, qS y14), (63, qS y15), (64, qW y16), (65, qW y17), (66, qW y18), (67, qW y19), (68, qB y20), (69, qB false)], []⟩
noncomputable def qhv (k : KT) : zUValid1 := fun y1 y2 y3 y4 => k (.exit 2) ⟨[(0, qS y1), (49, qS y2), (50, qI y3), (51, qB y4), (52, qB false), (53, .tup []), (54, .tup []), (55, .tup []), (56, .tup []), (57, .tup []), (58, .tup []), (59, .tup []), (60, .tup []), (61, .tup []), (62, .tup []), (63, .tup []), (64, .tup []), (65, .tup []), (66, .tup []), (67, .tup []), (68, .tup []), (69, qB false)], []⟩
noncomputable def qr1 : St -> (KT) -> OO := fun σ k => match σ with
 | ⟨[(q1, .cl (.sli .u8 v1))], []⟩ => cond (Nat.beq q1 0) (shut (qdp (qh2 k) (qhv k) FUEL) v1) none
 | _ => none
noncomputable def qip (k : KT) : zUValid2 := fun y1 y2 y3 y4 y5 y6 y7 y8 y9 y10 y11 y12 y13 y14 y15 y16 y17 y18 y19 y20 y21 y22 y23 y24 y25 y26 y27 y28 y29 y30 => k .ret ⟨[(0, qS y1), (2, qB false), (3, qU y2), (4, qU y3), (5, qI y4), (6, .ptr 70 0 0), (13, qS y5), (14, qI y6), (15, qB true), (16, qS y7), (17, .cl (.vp (.sli .u8 y8) 0 0)), (18, qU y9), (19, qU y10), (20, qB false), (72, qU y11), (73, .cl (.vp (.aggi 256 .u8 y12) y13 0)), (74, qU y14), (75, qU y15), (76, qU y16), (77, qI y17), (78, qU y18), (79, qU y19), (80, .cl (.vp (.agga 16 2 y20) y21 0)), (81, .cl (.agg [.int .u8 y22, .int .u8 y23])), (82, qI y24), (83, qB true), (84, qB y25), (85, qS y26), (86, qI y27), (87, qB y28), (88, qB true), (89, .tup []), (90, .tup []), (91, .tup []), (92, .tup []), (93, .tup []), (94, .tup []), (95, qB true), (96, qB true), (97, .tup []), (98, .tup []), (99, .tup []), (100, .tup []), (101, .tup []), (102, .tup []), (103, qB true)], [(70, ⟨.var [qU y29, qU y30], false⟩)]⟩
noncomputable def qjm (k : KT) : zUValid3 := fun y1 y2 y3 y4 y5 y6 y7 y8 y9 y10 y11 y12 y13 y14 y15 y16 y17 y18 y19 y20 y21 y22 y23 y24 y25 y26 y27 y28 y29 y30 y31 y32 y33 y34 y35 y36 => k .ret ⟨[(0, qS y1), (2, qB false), (3, qU y2), (4, qU y3), (5, qI y4), (6, .ptr 70 0 0), (13, qS y5), (14, qI y6), (15, qB true), (16, qS y7), (17, .cl (.vp (.sli .u8 y8) 0 0)), (18, qU y9), (19, qU y10), (20, qB false), (72, qU y11), (73, .cl (.vp (.aggi 256 .u8 y12) y13 0)), (74, qU y14), (75, qU y15), (76, qU y16), (77, qI y17), (78, qU y18), (79, qU y19), (80, .cl (.vp (.agga 16 2 y20) y21 0)), (81, .cl (.agg [.int .u8 y22, .int .u8 y23])), (82, qI y24), (83, qB true), (84, qB y25), (85, qS y26), (86, qI y27), (87, qB y28), (88, qB false), (89, qS y29), (90, .cl (.vp (.sli .u8 y30) 1 0)), (91, qU y31), (92, .ptr 70 0 0), (93, qU y32), (94, qB y33), (95, qB y34), (96, qB true), (97, .tup []), (98, .tup []), (99, .tup []), (100, .tup []), (101, .tup []), (102, .tup []), (103, qB true)], [(70, ⟨.var [qU y35, qU y36], false⟩)]⟩
noncomputable def qja (k : KT) : zUValid4 := fun y1 y2 y3 y4 y5 y6 y7 y8 y9 y10 y11 y12 y13 y14 y15 y16 y17 y18 y19 y20 y21 y22 y23 y24 y25 y26 y27 y28 y29 y30 y31 y32 y33 y34 y35 y36 y37 y38 y39 y40 y41 => k .ret ⟨[(0, qS y1), (2, qB false), (3, qU y2), (4, qU y3), (5, qI y4), (6, .ptr 70 0 0), (13, qS y5), (14, qI y6), (15, qB true), (16, qS y7), (17, .cl (.vp (.sli .u8 y8) 0 0)), (18, qU y9), (19, qU y10), (20, qB false), (72, qU y11), (73, .cl (.vp (.aggi 256 .u8 y12) y13 0)), (74, qU y14), (75, qU y15), (76, qU y16), (77, qI y17), (78, qU y18), (79, qU y19), (80, .cl (.vp (.agga 16 2 y20) y21 0)), (81, .cl (.agg [.int .u8 y22, .int .u8 y23])), (82, qI y24), (83, qB true), (84, qB y25), (85, qS y26), (86, qI y27), (87, qB y28), (88, qB false), (89, qS y29), (90, .cl (.vp (.sli .u8 y30) 1 0)), (91, qU y31), (92, .ptr 70 0 0), (93, qU y32), (94, qB y33), (95, qB y34), (96, qB false), (97, .ptr 70 0 1), (98, qU y35), (99, qS y36), (100, .cl (.vp (.sli .u8 y37) 1 0)), (101, qU y38), (102, qB y39), (103, qB true)], [(70, ⟨.var [qU y40, qU y41], false⟩)]⟩
noncomputable def qiu (k : KT) : zUValid5 := fun y1 y2 y3 y4 y5 y6 y7 y8 y9 y10 y11 y12 y13 y14 y15 y16 y17 y18 y19 y20 y21 y22 y23 y24 y25 y26 y27 y28 y29 y30 y31 => k .ret ⟨[(0, qS y1), (2, qB false), (3, qU y2), (4, qU y3), (5, qI y4), (6, .ptr 70 0 0), (13, qS y5), (14, qI y6), (15, qB true), (16, qS y7), (17, .cl (.vp (.sli .u8 y8) 0 0)), (18, qU y9), (19, qU y10), (20, qB false), (72, qU y11), (73, .cl (.vp (.aggi 256 .u8 y12) y13 0)), (74, qU y14), (75, qU y15), (76, qU y16), (77, qI y17), (78, qU y18), (79, qU y19), (80, .cl (.vp (.agga 16 2 y20) y21 0)), (81, .cl (.agg [.int .u8 y22, .int .u8 y23])), (82, qI y24), (83, qB false), (84, qB y25), (106, qB true), (107, qB y26), (108, qS y27), (109, qI y28), (110, qB y29), (111, qB true), (112, .tup []), (113, .tup []), (114, .tup []), (115, .tup []), (116, .tup []), (117, .tup []), (118, qB true), (119, qB true), (120, .tup []), (121, .tup []), (122, .tup []), (123, .tup []), (124, .tup []), (125, .tup []), (126, qB true), (127, qB true), (128, .tup []), (129, .tup []), (130, .tup []), (131, .tup []), (132, qB true), (133, qB true), (134, .tup []), (135, .tup []), (136, .tup []), (137, .tup []), (138, qB true)], [(70, ⟨.var [qU y30, qU y31], false⟩)]⟩
noncomputable def qi3 (k : KT) : zUValid6 := fun y1 y2 y3 y4 y5 y6 y7 y8 y9 y10 y11 y12 y13 y14 y15 y16 y17 y18 y19 y20 y21 y22 y23 y24 y25 y26 y27 y28 y29 y30 y31 y32 y33 y34 y35 y36 y37 => k .ret ⟨[(0, qS y1), (2, qB false), (3, qU y2), (4, qU y3), (5, qI y4), (6, .ptr 70 0 0), (13, qS y5), (14, qI y6), (15, qB true), (16, qS y7), (17, .cl (.vp (.sli .u8 y8) 0 0)), (18, qU y9), (19, qU y10), (20, qB false), (72, qU y11), (73, .cl (.vp (.aggi 256 .u8 y12) y13 0)), (74, qU y14), (75, qU y15), (76, qU y16), (77, qI y17), (78, qU y18), (79, qU y19), (80, .cl (.vp (.agga 16 2 y20) y21 0)), (81, .cl (.agg [.int .u8 y22, .int .u8 y23])), (82, qI y24), (83, qB false), (84, qB y25), (106, qB true), (107, qB y26), (108, qS y27), (109, qI y28), (110, qB y29), (111, qB false), (112, qS y30), (113, .cl (.vp (.sli .u8 y31) 1 0)), (114, qU y32), (115, .ptr 70 0 0), (116, qU y33), (117, qB y34), (118, qB y35), (119, qB true), (120, .tup []), (121, .tup []), (122, .tup []), (123, .tup []), (124, .tup []), (125, .tup []), (126, qB true), (127, qB true), (128, .tup []), (129, .tup []), (130, .tup []), (131, .tup []), (132, qB true), (133, qB true), (134, .tup []), (135, .tup []), (136, .tup []), (137, .tup []), (138, qB true)], [(70, ⟨.var [qU y36, qU y37], false⟩)]⟩
noncomputable def qjq (k : KT) : zUValid7 := fun y1 y2 y3 y4 y5 y6 y7 y8 y9 y10 y11 y12 y13 y14 y15 y16 y17 y18 y19 y20 y21 y22 y23 y24 y25 y26 y27 y28 y29 y30 y31 y32 y33 y34 y35 y36 y37 y38 y39 y40 y41 y42 y43 => k .ret ⟨[(0, qS y1), (2, qB false), (3, qU y2), (4, qU y3), (5, qI y4), (6, .ptr 70 0 0), (13, qS y5), (14, qI y6), (15, qB true), (16, qS y7), (17, .cl (.vp (.sli .u8 y8) 0 0)), (18, qU y9), (19, qU y10), (20, qB false), (72, qU y11), (73, .cl (.vp (.aggi 256 .u8 y12) y13 0)), (74, qU y14), (75, qU y15), (76, qU y16), (77, qI y17), (78, qU y18), (79, qU y19), (80, .cl (.vp (.agga 16 2 y20) y21 0)), (81, .cl (.agg [.int .u8 y22, .int .u8 y23])), (82, qI y24), (83, qB false), (84, qB y25), (106, qB true), (107, qB y26), (108, qS y27), (109, qI y28), (110, qB y29), (111, qB false), (112, qS y30), (113, .cl (.vp (.sli .u8 y31) 1 0)), (114, qU y32), (115, .ptr 70 0 0), (116, qU y33), (117, qB y34), (118, qB y35), (119, qB false), (120, .ptr 70 0 1), (121, qU y36), (122, qS y37), (123, .cl (.vp (.sli .u8 y38) 1 0)), (124, qU y39), (125, qB y40), (126, qB y41), (127, qB true), (128, .tup []), (129, .tup []), (130, .tup []), (131, .tup []), (132, qB true), (133, qB true), (134, .tup []), (135, .tup []), (136, .tup []), (137, .tup []), (138, qB true)], [(70, ⟨.var [qU y42, qU y43], false⟩)]⟩
noncomputable def qiq (k : KT) : zUValid8 := fun y1 y2 y3 y4 y5 y6 y7 y8 y9 y10 y11 y12 y13 y14 y15 y16 y17 y18 y19 y20 y21 y22 y23 y24 y25 y26 y27 y28 y29 y30 y31 y32 y33 y34 y35 y36 y37 y38 y39 y40 y41 y42 y43 y44 y45 y46 y47 y48 => k .ret ⟨[(0, qS y1), (2, qB false), (3, qU y2), (4, qU y3), (5, qI y4), (6, .ptr 70 0 0), (13, qS y5), (14, qI y6), (15, qB true), (16, qS y7), (17, .cl (.vp (.sli .u8 y8) 0 0)), (18, qU y9), (19, qU y10), (20, qB false), (72, qU y11), (73, .cl (.vp (.aggi 256 .u8 y12) y13 0)), (74, qU y14), (75, qU y15), (76, qU y16), (77, qI y17), (78, qU y18), (79, qU y19), (80, .cl (.vp (.agga 16 2 y20) y21 0)), (81, .cl (.agg [.int .u8 y22, .int .u8 y23])), (82, qI y24), (83, qB false), (84, qB y25), (106, qB true), (107, qB y26), (108, qS y27), (109, qI y28), (110, qB y29), (111, qB false), (112, qS y30), (113, .cl (.vp (.sli .u8 y31) 1 0)), (114, qU y32), (115, .ptr 70 0 0), (116, qU y33), (117, qB y34), (118, qB y35), (119, qB false), (120, .ptr 70 0 1), (121, qU y36), (122, qS y37), (123, .cl (.vp (.sli .u8 y38) 1 0)), (124, qU y39), (125, qB y40), (126, qB y41), (127, qB false), (128, qS y42), (129, .cl (.vp (.sli .u8 y43) 2 0)), (130, qU y44), (131, qB y45), (132, qB y46), (133, qB true), (134, .tup []), (135, .tup []), (136, .tup []), (137, .tup []), (138, qB true)], [(70, ⟨.var [qU y47, qU y48], false⟩)]⟩
noncomputable def qin (k : KT) : zUValid9 := fun y1 y2 y3 y4 y5 y6 y7 y8 y9 y10 y11 y12 y13 y14 y15 y16 y17 y18 y19 y20 y21 y22 y23 y24 y25 y26 y27 y28 y29 y30 y31 y32 y33 y34 y35 y36 y37 y38 y39 y40 y41 y42 y43 y44 y45 y46 y47 y48 y49 y50 y51 y52 => k .ret ⟨[(0, qS y1), (2, qB false), (3, qU y2), (4, qU y3), (5, qI y4), (6, .ptr 70 0 0), (13, qS y5), (14, qI y6), (15, qB true), (16, qS y7), (17, .cl (.vp (.sli .u8 y8) 0 0)), (18, qU y9), (19, qU y10), (20, qB false), (72, qU y11), (73, .cl (.vp (.aggi 256 .u8 y12) y13 0)), (74, qU y14), (75, qU y15), (76, qU y16), (77, qI y17), (78, qU y18), (79, qU y19), (80, .cl (.vp (.agga 16 2 y20) y21 0)), (81, .cl (.agg [.int .u8 y22, .int .u8 y23])), (82, qI y24), (83, qB false), (84, qB y25), (106, qB true), (107, qB y26), (108, qS y27), (109, qI y28), (110, qB y29), (111, qB false), (112, qS y30), (113, .cl (.vp (.sli .u8 y31) 1 0)), (114, qU y32), (115, .ptr 70 0 0), (116, qU y33), (117, qB y34), (118, qB y35), (119, qB false), (120, .ptr 70 0 1), (121, qU y36), (122, qS y37), (123, .cl (.vp (.sli .u8 y38) 1 0)), (124, qU y39), (125, qB y40), (126, qB y41), (127, qB false), (128, qS y42), (129, .cl (.vp (.sli .u8 y43) 2 0)), (130, qU y44), (131, qB y45), (132, qB y46), (133, qB false), (134, qS y47), (135, .cl (.vp (.sli .u8 y48) 2 0)), (136, qU y49), (137, qB y50), (138, qB true)], [(70, ⟨.var [qU y51, qU y52], false⟩)]⟩
noncomputable def qix (k : KT) : zUValid10 := fun y1 y2 y3 y4 y5 y6 y7 y8 y9 y10 y11 y12 y13 y14 y15 y16 y17 y18 y19 y20 y21 y22 y23 y24 y25 y26 y27 y28 y29 y30 y31 y32 => k .ret ⟨[(0, qS y1), (2, qB false), (3, qU y2), (4, qU y3), (5, qI y4), (6, .ptr 70 0 0), (13, qS y5), (14, qI y6), (15, qB true), (16, qS y7), (17, .cl (.vp (.sli .u8 y8) 0 0)), (18, qU y9), (19, qU y10), (20, qB false), (72, qU y11), (73, .cl (.vp (.aggi 256 .u8 y12) y13 0)), (74, qU y14), (75, qU y15), (76, qU y16), (77, qI y17), (78, qU y18), (79, qU y19), (80, .cl (.vp (.agga 16 2 y20) y21 0)), (81, .cl (.agg [.int .u8 y22, .int .u8 y23])), (82, qI y24), (83, qB false), (84, qB y25), (106, qB false), (107, qB y26), (141, qB true), (142, qB y27), (143, qS y28), (144, qI y29), (145, qB y30), (146, qB true), (147, .tup []), (148, .tup []), (149, .tup []), (150, .tup []), (151, .tup []), (152, .tup []), (153, qB true), (154, qB true), (155, .tup []), (156, .tup []), (157, .tup []), (158, .tup []), (159, .tup []), (160, .tup []), (161, qB true), (162, qB true), (163, .tup []), (164, .tup []), (165, .tup []), (166, .tup []), (167, qB true), (168, qB true), (169, .tup []), (170, .tup []), (171, .tup []), (172, .tup []), (173, qB true), (174, qB true), (175, .tup []), (176, .tup []), (177, .tup []), (178, .tup []), (179, qB true), (180, qB true), (181, .tup []), (182, .tup []), (183, .tup []), (184, .tup []), (185, qB true)], [(70, ⟨.var [qU y31, qU y32], false⟩)]⟩
noncomputable def qii (k : KT) : zUValid11 := fun y1 y2 y3 y4 y5 y6 y7 y8 y9 y10 y11 y12 y13 y14 y15 y16 y17 y18 y19 y20 y21 y22 y23 y24 y25 y26 y27 y28 y29 y30 y31 y32 y33 y34 y35 y36 y37 y38 => k .ret ⟨[(0, qS y1), (2, qB false), (3, qU y2), (4, qU y3), (5, qI y4), (6, .ptr 70 0 0), (13, qS y5), (14, qI y6), (15, qB true), (16, qS y7), (17, .cl (.vp (.sli .u8 y8) 0 0)), (18, qU y9), (19, qU y10), (20, qB false), (72, qU y11), (73, .cl (.vp (.aggi 256 .u8 y12) y13 0)), (74, qU y14), (75, qU y15), (76, qU y16), (77, qI y17), (78, qU y18), (79, qU y19), (80, .cl (.vp (.agga 16 2 y20) y21 0)), (81, .cl (.agg [.int .u8 y22, .int .u8 y23])), (82, qI y24), (83, qB false), (84, qB y25), (106, qB false), (107, qB y26), (141, qB true), (142, qB y27), (143, qS y28), (144, qI y29), (145, qB y30), (146, qB false), (147, qS y31), (148, .cl (.vp (.sli .u8 y32) 1 0)), (149, qU y33), (150, .ptr 70 0 0), (151, qU y34), (152, qB y35), (153, qB y36), (154, qB true), (155, .tup []), (156, .tup []), (157, .tup []), (158, .tup []), (159, .tup []), (160, .tup []), (161, qB true), (162, qB true), (163, .tup []), (164, .tup []), (165, .tup []), (166, .tup []), (167, qB true), (168, qB true), (169, .tup []), (170, .tup []), (171, .tup []), (172, .tup []), (173, qB true), (174, qB true), (175, .tup []), (176, .tup []), (177, .tup []), (178, .tup []), (179, qB true), (180, qB true), (181, .tup []), (182, .tup []), (183, .tup []), (184, .tup []), (185, qB true)], [(70, ⟨.var [qU y37, qU y38], false⟩)]⟩
noncomputable def qh7 (k : KT) : zUValid12 := fun y1 y2 y3 y4 y5 y6 y7 y8 y9 y10 y11 y12 y13 y14 y15 y16 y17 y18 y19 y20 y21 y22 y23 y24 y25 y26 y27 y28 y29 y30 y31 y32 y33 y34 y35 y36 y37 y38 y39 y40 y41 y42 y43 y44 => k .ret ⟨[(0, qS y1), (2, qB false), (3, qU y2), (4, qU y3), (5, qI y4), (6, .ptr 70 0 0), (13, qS y5), (14, qI y6), (15, qB true), (16, qS y7), (17, .cl (.vp (.sli .u8 y8) 0 0)), (18, qU y9), (19, qU y10), (20, qB false), (72, qU y11), (73, .cl (.vp (.aggi 256 .u8 y12) y13 0)), (74, qU y14), (75, qU y15), (76, qU y16), (77, qI y17), (78, qU y18), (79, qU y19), (80, .cl (.vp (.agga 16 2 y20) y21 0)), (81, .cl (.agg [.int .u8 y22, .int .u8 y23])), (82, qI y24), (83, qB false), (84, qB y25), (106, qB false), (107, qB y26), (141, qB true), (142, qB y27), (143, qS y28), (144, qI y29), (145, qB y30), (146, qB false), (147, qS y31), (148, .cl (.vp (.sli .u8 y32) 1 0)), (149, qU y33), (150, .ptr 70 0 0), (151, qU y34), (152, qB y35), (153, qB y36), (154, qB false), (155, .ptr 70 0 1), (156, qU y37), (157, qS y38), (158, .cl (.vp (.sli .u8 y39) 1 0)), (159, qU y40), (160, qB y41), (161, qB y42), (162, qB true), (163, .tup []), (164, .tup []), (165, .tup []), (166, .tup []), (167, qB true), (168, qB true), (169, .tup []), (170, .tup []), (171, .tup []), (172, .tup []), (173, qB true), (174, qB true), (175, .tup []), (176, .tup []), (177, .tup []), (178, .tup []), (179, qB true), (180, qB true), (181, .tup []), (182, .tup []), (183, .tup []), (184, .tup []), (185, qB true)], [(70, ⟨.var [qU y43, qU y44], false⟩)]⟩
noncomputable def qg6 (k : KT) : zUValid13 := fun y1 y2 y3 y4 y5 y6 y7 y8 y9 y10 y11 y12 y13 y14 y15 y16 y17 y18 y19 y20 y21 y22 y23 y24 y25 y26 y27 y28 y29 y30 y31 y32 y33 y34 y35 y36 y37 y38 y39 y40 y41 y42 y43 y44 y45 y46 y47 y48 y49 => k .ret ⟨[(0, qS y1), (2, qB false), (3, qU y2), (4, qU y3), (5, qI y4), (6, .ptr 70 0 0), (13, qS y5), (14, qI y6), (15, qB true), (16, qS y7), (17, .cl (.vp (.sli .u8 y8) 0 0)), (18, qU y9), (19, qU y10), (20, qB false), (72, qU y11), (73, .cl (.vp (.aggi 256 .u8 y12) y13 0)), (74, qU y14), (75, qU y15), (76, qU y16), (77, qI y17), (78, qU y18), (79, qU y19), (80, .cl (.vp (.agga 16 2 y20) y21 0)), (81, .cl (.agg [.int .u8 y22, .int .u8 y23])), (82, qI y24), (83, qB false), (84, qB y25), (106, qB false), (107, qB y26), (141, qB true), (142, qB y27), (143, qS y28), (144, qI y29), (145, qB y30), (146, qB false), (147, qS y31), (148, .cl (.vp (.sli .u8 y32) 1 0)), (149, qU y33), (150, .ptr 70 0 0), (151, qU y34), (152, qB y35), (153, qB y36), (154, qB false), (155, .ptr 70 0 1), (156, qU y37), (157, qS y38), (158, .cl (.vp (.sli .u8 y39) 1 0)), (159, qU y40), (160, qB y41), (161, qB y42), (162, qB false), (163, qS y43), (164, .cl (.vp (.sli .u8 y44) 2 0)), (165, qU y45), (166, qB y46), (167, qB y47), (168, qB true), (169, .tup []), (170, .tup []), (171, .tup []), (172, .tup []), (173, qB true), (174, qB true), (175, .tup []), (176, .tup []), (177, .tup []), (178, .tup []), (179, qB true), (180, qB true), (181, .tup []), (182, .tup []), (183, .tup []), (184, .tup []), (185, qB true)], [(70, ⟨.var [qU y48, qU y49], false⟩)]⟩
noncomputable def qhg (k : KT) : zUValid14 := fun y1 y2 y3 y4 y5 y6 y7 y8 y9 y10 y11 y12 y13 y14 y15 y16 y17 y18 y19 y20 y21 y22 y23 y24 y25 y26 y27 y28 y29 y30 y31 y32 y33 y34 y35 y36 y37 y38 y39 y40 y41 y42 y43 y44 y45 y46 y47 y48 y49 y50 y51 y52 y53 y54 => k .ret ⟨[(0, qS y1), (2, qB false), (3, qU y2), (4, qU y3), (5, qI y4), (6, .ptr 70 0 0), (13, qS y5), (14, qI y6), (15, qB true), (16, qS y7), (17, .cl (.vp (.sli .u8 y8) 0 0)), (18, qU y9), (19, qU y10), (20, qB false), (72, qU y11), (73, .cl (.vp (.aggi 256 .u8 y12) y13 0)), (74, qU y14), (75, qU y15), (76, qU y16), (77, qI y17), (78, qU y18), (79, qU y19), (80, .cl (.vp (.agga 16 2 y20) y21 0)), (81, .cl (.agg [.int .u8 y22, .int .u8 y23])), (82, qI y24), (83, qB false), (84, qB y25), (106, qB false), (107, qB y26), (141, qB true), (142, qB y27), (143, qS y28), (144, qI y29), (145, qB y30), (146, qB false), (147, qS y31), (148, .cl (.vp (.sli .u8 y32) 1 0)), (149, qU y33), (150, .ptr 70 0 0), (151, qU y34), (152, qB y35), (153, qB y36), (154, qB false), (155, .ptr 70 0 1), (156, qU y37), (157, qS y38), (158, .cl (.vp (.sli .u8 y39) 1 0)), (159, qU y40), (160, qB y41), (161, qB y42), (162, qB false), (163, qS y43), (164, .cl (.vp (.sli .u8 y44) 2 0)), (165, qU y45), (166, qB y46), (167, qB y47), (168, qB false), (169, qS y48), (170, .cl (.vp (.sli .u8 y49) 2 0)), (171, qU y50), (172, qB y51), (173, qB y52), (174, qB true), (175, .tup []), (176, .tup []), (177, .tup []), (178, .tup []), (179, qB true), (180, qB true), (181, .tup []), (182, .tup []), (183, .tup []), (184, .tup []), (185, qB true)], [(70, ⟨.var [qU y53, qU y54], false⟩)]⟩
noncomputable def qgl (k : KT) : zUValid15 := fun y1 y2 y3 y4 y5 y6 y7 y8 y9 y10 y11 y12 y13 y14 y15 y16 y17 y18 y19 y20 y21 y22 y23 y24 y25 y26 y27 y28 y29 y30 y31 y32 y33 y34 y35 y36 y37 y38 y39 y40 y41 y42 y43 y44 y45 y46 y47 y48 y49 y50 y51 y52 y53 y54 y55 y56 y57 y58 y59 => k .ret ⟨[(0, qS y1), (2, qB false), (3, qU y2), (4, qU y3), (5, qI y4), (6, .ptr 70 0 0), (13, qS y5), (14, qI y6), (15, qB true), (16, qS y7), (17, .cl (.vp (.sli .u8 y8) 0 0)), (18, qU y9), (19, qU y10), (20, qB false), (72, qU y11), (73, .cl (.vp (.aggi 256 .u8 y12) y13 0)), (74, qU y14), (75, qU y15), (76, qU y16), (77, qI y17), (78, qU y18), (79, qU y19), (80, .cl (.vp (.agga 16 2 y20) y21 0)), (81, .cl (.agg [.int .u8 y22, .int .u8 y23])), (82, qI y24), (83, qB false), (84, qB y25), (106, qB false), (107, qB y26), (141, qB true), (142, qB y27), (143, qS y28), (144, qI y29), (145, qB y30), (146, qB false), (147, qS y31), (148, .cl (.vp (.sli .u8 y32) 1 0)), (149, qU y33), (150, .ptr 70 0 0), (151, qU y34), (152, qB y35), (153, qB y36), (154, qB false), (155, .ptr 70 0 1), (156, qU y37), (157, qS y38), (158, .cl (.vp (.sli .u8 y39) 1 0)), (159, qU y40), (160, qB y41), (161, qB y42), (162, qB false), (163, qS y43), (164, .cl (.vp (.sli .u8 y44) 2 0)), (165, qU y45), (166, qB y46), (167, qB y47), (168, qB false), (169, qS y48), (170, .cl (.vp (.sli .u8 y49) 2 0)), (171, qU y50), (172, qB y51), (173, qB y52), (174, qB false), (175, qS y53), (176, .cl (.vp (.sli .u8 y54) 3 0)), (177, qU y55), (178, qB y56), (179, qB y57), (180, qB true), (181, .tup []), (182, .tup []), (183, .tup []), (184, .tup []), (185, qB true)], [(70, ⟨.var [qU y58, qU y59], false⟩)]⟩
noncomputable def qgi (k : KT) : zUValid16 := fun y1 y2 y3 y4 y5 y6 y7 y8 y9 y10 y11 y12 y13 y14 y15 y16 y17 y18 y19 y20 y21 y22 y23 y24 y25 y26 y27 y28 y29 y30 y31 y32 y33 y34 y35 y36 y37 y38 y39 y40 y41 y42 y43 y44 y45 y46 y47 y48 y49 y50 y51 y52 y53 y54 y55 y56 y57 y58 y59 y60 y61 y62 y63 => k .ret ⟨[(0, qS y1), (2, qB false), (3, qU y2), (4, qU y3), (5, qI y4), (6, .ptr 70 0 0), (13, qS y5), (14, qI y6), (15, qB true), (16, qS y7), (17, .cl (.vp (.sli .u8 y8) 0 0)), (18, qU y9), (19, qU y10), (20, qB false), (72, qU y11), (73, .cl (.vp (.aggi 256 .u8 y12) y13 0)), (74, qU y14), (75, qU y15), (76, qU y16), (77, qI y17), (78, qU y18), (79, qU y19), (80, .cl (.vp (.agga 16 2 y20) y21 0)), (81, .cl (.agg [.int .u8 y22, .int .u8 y23])), (82, qI y24), (83, qB false), (84, qB y25), (106, qB false), (107, qB y26), (141, qB true), (142, qB y27), (143, qS y28), (144, qI y29), (145, qB y30), (146, qB false), (147, qS y31), (148, .cl (.vp (.sli .u8 y32) 1 0)), (149, qU y33), (150, .ptr 70 0 0), (151, qU y34), (152, qB y35), (153, qB y36), (154, qB false), (155, .ptr 70 0 1), (156, qU y37), (157, qS y38), (158, .cl (.vp (.sli .u8 y39) 1 0)), (159, qU y40), (160, qB y41), (161, qB y42), (162, qB false), (163, qS y43), (164, .cl (.vp (.sli .u8 y44) 2 0)), (165, qU y45), (166, qB y46), (167, qB y47), (168, qB false), (169, qS y48), (170, .cl (.vp (.sli .u8 y49) 2 0)), (171, qU y50), (172, qB y51), (173, qB y52), (174, qB false), (175, qS y53), (176, .cl (.vp (.sli .u8 y54) 3 0)), (177, qU y55), (178, qB y56), (179, qB y57), (180, qB false), (181, qS y58), (182, .cl (.vp (.sli .u8 y59) 3 0)), (183, qU y60), (184, qB y61), (185, qB true)], [(70, ⟨.var [qU y62, qU y63], false⟩)]⟩
noncomputable def qhs (k : KT) : zUValid17 := fun y1 y2 y3 y4 y5 y6 y7 y8 y9 y10 y11 y12 y13 y14 y15 y16 y17 y18 y19 y20 y21 y22 y23 y24 y25 y26 y27 y28 y29 => k .ret ⟨[(0, qS y1), (2, qB false), (3, qU y2), (4, qU y3), (5, qI y4), (6, .ptr 70 0 0), (13, qS y5), (14, qI y6), (15, qB true), (16, qS y7), (17, .cl (.vp (.sli .u8 y8) 0 0)), (18, qU y9), (19, qU y10), (20, qB false), (72, qU y11), (73, .cl (.vp (.aggi 256 .u8 y12) y13 0)), (74, qU y14), (75, qU y15), (76, qU y16), (77, qI y17), (78, qU y18), (79, qU y19), (80, .cl (.vp (.agga 16 2 y20) y21 0)), (81, .cl (.agg [.int .u8 y22, .int .u8 y23])), (82, qI y24), (83, qB false), (84, qB y25), (106, qB false), (107, qB y26), (141, qB false), (142, qB y27)], [(70, ⟨.var [qU y28, qU y29], false⟩)]⟩
noncomputable def qhj (k : KT) : LI -> LI -> Int -> OO := fun y1 y2 y3 => k (.exit 0) ⟨[(0, qS y1), (13, qS y2), (14, qI y3), (15, qB false)], []⟩
noncomputable def LUValid_2 : St -> (KT) -> OO := fun σ k => match σ with
 | ⟨[(q1, .cl (.sli .u8 v1))], []⟩ => cond (Nat.beq q1 0) (shut (qdi (qip k) (qjm k) (qja k) (qiu k) (qi3 k) (qjq k) (qiq k) (qin k) (qix k) (qii k) (qh7 k) (qg6 k) (qhg k) (qgl k) (qgi k) (qhs k) (qhj k) FUEL) v1) none
 | _ => none
noncomputable def EUValid : Env := {
 orc := fun g => cond (Nat.beq g 64) SUWord (fun _ _ => Tree.fail)
 pre := fun g => cond (Nat.beq g 64) preUWord (fun _ _ => true)
 live := fun r => cond (Nat.beq r 2) ([0]) (cond (Nat.beq r 10) ([0]) ([]))
 glob := qca
 nt := 188
 lp := fun r => cond (Nat.beq r 2) (some (LUValid_2)) (cond (Nat.beq r 10) (some (qr1)) (none))
}
noncomputable def qg0 : Code := (Cd.fst (Cd.fst (Cd.snd (Cd.fst (Cd.snd (Cd.snd (Cd.fst (Cd.snd (Cd.fst (Cd.snd (Cd.fst (Cd.snd (Cd.fst (Cd.snd (Cd.fst (Cd.snd (Cd.fst (Cd.fst (Cd.fst (Cd.snd (Cd.snd (Tryd.f49.body.getD .skip))))))))))))))))))))))
theorem qrg (k : KT) (n : Nat) (v1 : LI) : qbi (n + 1) (qa3 Tryd.prog (EUValid) 40 qg0) (head (EUValid) 10) ⟨[(0, qS v1)], []⟩ k = qgc (fun v1 => qbi n (qa3 Tryd.prog (EUValid) 40 qg0) (head (EUValid) 10) ⟨[(0, qS v1)], []⟩ k) (qh2 k) (qhv k) v1 := by kernel_rfl
theorem qnu (k : KT) : ∀ (n : Nat), ∀ (v1 : LI), qbi n (qa3 Tryd.prog (EUValid) 40 qg0) (head (EUValid) 10) ⟨[(0, qS v1)], []⟩ k = qdp (qh2 k) (qhv k) n v1
 | 0 => by intros; rfl
 | n + 1 => by
  intros
  rw [qrg]
  have ih := qnu k n
  simp only [qdp, ih]
noncomputable def qjv : Code := (Cd.fst (Cd.fst (Cd.fst (Cd.snd (Cd.snd (Tryd.f49.body.getD .skip))))))
theorem lpUValid_2_step (k : KT) (n : Nat) (v1 : LI) : qbi (n + 1) (qa3 Tryd.prog (EUValid) 40 qjv) (head (EUValid) 2) ⟨[(0, qS v1)], []⟩ k = qj8 (fun v1 => qbi n (qa3 Tryd.prog (EUValid) 40 qjv) (head (EUValid) 2) ⟨[(0, qS v1)], []⟩ k) (qip k) (qjm k) (qja k) (qiu k) (qi3 k) (qjq k) (qiq k) (qin k) (qix k) (qii k) (qh7 k) (qg6 k) (qhg k) (qgl k) (qgi k) (qhs k) (qhj k) v1 := by kernel_rfl
theorem qpj (k : KT) : ∀ (n : Nat), ∀ (v1 : LI), qbi n (qa3 Tryd.prog (EUValid) 40 qjv) (head (EUValid) 2) ⟨[(0, qS v1)], []⟩ k = qdi (qip k) (qjm k) (qja k) (qiu k) (qi3 k) (qjq k) (qiq k) (qin k) (qix k) (qii k) (qh7 k) (qg6 k) (qhg k) (qgl k) (qgi k) (qhs k) (qhj k) n v1
 | 0 => by intros; rfl
 | n + 1 => by
  intros
  rw [lpUValid_2_step]
  have ih := qpj k n
  simp only [qdi, ih]
theorem LUValid_10_ok : ∀ (σ : St) (k : KT) (r : Out), qr1 σ k = some r -> ∃ n, qbi n (qa3 Tryd.prog (EUValid) 40 qg0) (head (EUValid) 10) σ k = some r := by
 intro σ k r h
 unfold qr1 at h
 split at h
 ·replace h := qaa h
  obtain ⟨hc, h⟩ := h
  simp only [Bool.and_eq_true, qbb, decide_eq_true_eq, Bool.not_eq_true'] at hc
  obtain rfl := hc
  rw [qae] at h
  exact ⟨FUEL, (qnu k FUEL _ ).trans h⟩
 ·cases h
theorem LUValid_2_ok : ∀ (σ : St) (k : KT) (r : Out), LUValid_2 σ k = some r -> ∃ n, qbi n (qa3 Tryd.prog (EUValid) 40 qjv) (head (EUValid) 2) σ k = some r := by
 intro σ k r h
 unfold LUValid_2 at h
 split at h
 ·replace h := qaa h
  obtain ⟨hc, h⟩ := h
  simp only [Bool.and_eq_true, qbb, decide_eq_true_eq, Bool.not_eq_true'] at hc
  obtain rfl := hc
  rw [qae] at h
  exact ⟨FUEL, (qpj k FUEL _ ).trans h⟩
 ·cases h
theorem loopsUValid : ∀ c, Tryd.f49.body = some c -> qaq Tryd.prog (EUValid) 40 c := by
 intro c hc
 cases hc
 exact ⟨trivial, ⟨trivial, ⟨⟨⟨qal _ (by kernel_rfl), ⟨trivial, ⟨⟨trivial, ⟨⟨trivial, ⟨⟨trivial, ⟨⟨trivial, ⟨trivial, ⟨⟨trivial, ⟨qal _ (by kernel_rfl), qcc rfl (LUValid_10_ok)⟩, qag rfl⟩, trivial, qag rfl⟩, qag rfl⟩, qag rfl⟩, trivial, qag rfl⟩, qag rfl⟩, trivial, qag rfl⟩, qag rfl⟩, trivial, qag rfl⟩, qag rfl⟩, qal _ (by kernel_rfl), qag rfl⟩, qag rfl⟩, qag rfl⟩, qcc rfl (LUValid_2_ok)⟩, ⟨trivial, trivial, qag rfl⟩, qag rfl⟩, qag rfl⟩, qag rfl⟩
noncomputable def gUValid (b : LI) : OO :=
 cond (decide ((0 : Int) <= ((b.length : Nat) : Int)) && decide (((b.length : Nat) : Int) <= ((b.length : Nat) : Int))) (
 cond (decide (((b.length : Nat) : Int) <= ((b.length : Nat) : Int))) (
 let l1 : LI := List.take (Int.toNat ((b.length : Nat) : Int)) b
 shut (qdi
 (fun y2 y3 y4 y5 y6 y7 y8 y9 y10 y11 y12 y13 y14 y15 y16 y17 y18 y19 y20 y21 y22 y23 y24 y25 y26 y27 y28 y29 y30 y31 =>
 some (.ret [.cl (.bool false)] []))
 (fun y32 y33 y34 y35 y36 y37 y38 y39 y40 y41 y42 y43 y44 y45 y46 y47 y48 y49 y50 y51 y52 y53 y54 y55 y56 y57 y58 y59 y60 y61 y62 y63 y64 y65 y66 y67 =>
 some (.ret [.cl (.bool false)] []))
 (fun y68 y69 y70 y71 y72 y73 y74 y75 y76 y77 y78 y79 y80 y81 y82 y83 y84 y85 y86 y87 y88 y89 y90 y91 y92 y93 y94 y95 y96 y97 y98 y99 y100 y101 y102 y103 y104 y105 y106 y107 y108 =>
 some (.ret [.cl (.bool false)] []))
 (fun y109 y110 y111 y112 y113 y114 y115 y116 y117 y118 y119 y120 y121 y122 y123 y124 y125 y126 y127 y128 y129 y130 y131 y132 y133 y134 y135 y136 y137 y138 y139 =>
 some (.ret [.cl (.bool false)] []))
 (fun y140 y141 y142 y143 y144 y145 y146 y147 y148 y149 y150 y151 y152 y153 y154 y155 y156 y157 y158 y159 y160 y161 y162 y163 y164 y165 y166 y167 y168 y169 y170 y171 y172 y173 y174 y175 y176 =>
 some (.ret [.cl (.bool false)] []))
 (fun y177 y178 y179 y180 y181 y182 y183 y184 y185 y186 y187 y188 y189 y190 y191 y192 y193 y194 y195 y196 y197 y198 y199 y200 y201 y202 y203 y204 y205 y206 y207 y208 y209 y210 y211 y212 y213 y214 y215 y216 y217 y218 y219 =>
 some (.ret [.cl (.bool false)] []))
 (fun y220 y221 y222 y223 y224 y225 y226 y227 y228 y229 y230 y231 y232 y233 y234 y235 y236 y237 y238 y239 y240 y241 y242 y243 y244 y245 y246 y247 y248 y249 y250 y251 y252 y253 y254 y255 y256 y257 y258 y259 y260 y261 y262 y263 y264 y265 y266 y267 =>
 some (.ret [.cl (.bool false)] []))
 (fun y268 y269 y270 y271 y272 y273 y274 y275 y276 y277 y278 y279 y280 y281 y282 y283 y284 y285 y286 y287 y288 y289 y290 y291 y292 y293 y294 y295 y296 y297 y298 y299 y300 y301 y302 y303 y304 y305 y306 y307 y308 y309 y310 y311 y312 y313 y314 y315 y316 y317 y318 y319 =>
 some (.ret [.cl (.bool false)] []))
 (fun y320 y321 y322 y323 y324 y325 y326 y327 y328 y329 y330 y331 y332 y333 y334 y335 y336 y337 y338 y339 y340 y341 y342 y343 y344 y345 y346 y347 y348 y349 y350 y351 =>
 some (.ret [.cl (.bool false)] []))
 (fun y352 y353 y354 y355 y356 y357 y358 y359 y360 y361 y362 y363 y364 y365 y366 y367 y368 y369 y370 y371 y372 y373 y374 y375 y376 y377 y378 y379 y380 y381 y382 y383 y384 y385 y386 y387 y388 y389 =>
 some (.ret [.cl (.bool false)] []))
 (fun y390 y391 y392 y393 y394 y395 y396 y397 y398 y399 y400 y401 y402 y403 y404 y405 y406 y407 y408 y409 y410 y411 y412 y413 y414 y415 y416 y417 y418 y419 y420 y421 y422 y423 y424 y425 y426 y427 y428 y429 y430 y431 y432 y433 =>
 some (.ret [.cl (.bool false)] []))
 (fun y434 y435 y436 y437 y438 y439 y440 y441 y442 y443 y444 y445 y446 y447 y448 y449 y450 y451 y452 y453 y454 y455 y456 y457 y458 y459 y460 y461 y462 y463 y464 y465 y466 y467 y468 y469 y470 y471 y472 y473 y474 y475 y476 y477 y478 y479 y480 y481 y482 =>
 some (.ret [.cl (.bool false)] []))
 (fun y483 y484 y485 y486 y487 y488 y489 y490 y491 y492 y493 y494 y495 y496 y497 y498 y499 y500 y501 y502 y503 y504 y505 y506 y507 y508 y509 y510 y511 y512 y513 y514 y515 y516 y517 y518 y519 y520 y521 y522 y523 y524 y525 y526 y527 y528 y529 y530 y531 y532 y533 y534 y535 y536 =>
 some (.ret [.cl (.bool false)] []))
 (fun y537 y538 y539 y540 y541 y542 y543 y544 y545 y546 y547 y548 y549 y550 y551 y552 y553 y554 y555 y556 y557 y558 y559 y560 y561 y562 y563 y564 y565 y566 y567 y568 y569 y570 y571 y572 y573 y574 y575 y576 y577 y578 y579 y580 y581 y582 y583 y584 y585 y586 y587 y588 y589 y590 y591 y592 y593 y594 y595 =>
 some (.ret [.cl (.bool false)] []))
 (fun y596 y597 y598 y599 y600 y601 y602 y603 y604 y605 y606 y607 y608 y609 y610 y611 y612 y613 y614 y615 y616 y617 y618 y619 y620 y621 y622 y623 y624 y625 y626 y627 y628 y629 y630 y631 y632 y633 y634 y635 y636 y637 y638 y639 y640 y641 y642 y643 y644 y645 y646 y647 y648 y649 y650 y651 y652 y653 y654 y655 y656 y657 y658 =>
 some (.ret [.cl (.bool false)] []))
 (fun y659 y660 y661 y662 y663 y664 y665 y666 y667 y668 y669 y670 y671 y672 y673 y674 y675 y676 y677 y678 y679 y680 y681 y682 y683 y684 y685 y686 y687 =>
 some (.ret [.cl (.bool false)] []))
 (fun y688 y689 y690 =>
 some (.ret [.cl (.bool true)] []))
 FUEL) l1) none) none
theorem gUValid_eq (b : LI) : qco Tryd.prog (EUValid) 40 false Tryd.f49 [.cl (.sli .u8 b)] [] = gUValid b := by kernel_rfl

abbrev zRSame0 := Int -> Int -> LC -> Int -> LC -> Int -> LC -> Nat -> Int -> LI -> LC -> LC -> Int -> LC -> Nat -> Int -> LI -> LC -> Bool -> Int -> LI -> LC -> Int -> LI -> LC -> OO
abbrev zRSame1 := Int -> Int -> LC -> Int -> Int -> LI -> LC -> Int -> LI -> LC -> OO
noncomputable def qm7 (rk : Nat) (again : Int -> Int -> LI -> LC -> Int -> LI -> LC -> OO) (k0 : zRSame0) (k1 : zRSame1) (v1 v2 : Int) (v3 : LI) (v4 : LC) (v5 : Int) (v6 : LI) (v7 : LC) : OO :=
 cond (decide (v1 < ((v4.length : Nat) : Int))) (
 cond (decide ((0 : Int) <= v1)) (
 cond (decide (v1 < ((v4.length : Nat) : Int))) (
 Option.bind (v4[(Int.toNat v1)]?) fun (e2 : CV) =>
 let e3 : CV := (cell1 e2).headD .nili
 let e4 : CV := (cell1 e2).tail.headD .nili
 let e5 : CV := (cell1 e2).tail.tail.headD .nili
 cond (okInt .i64 e3 && (okSli .u8 e4 && (okSlg 3 e5 && true))) (
 let i6 : Int := cvInt e3
 let l7 : LI := qee e4
 let l8 : LC := cvSlg e5
 cond (decide ((0 : Int) <= v1)) (
 cond (decide (v1 < ((v7.length : Nat) : Int))) (
 Option.bind (v7[(Int.toNat v1)]?) fun (e9 : CV) =>
 let e10 : CV := (cell1 e9).headD .nili
 let e11 : CV := (cell1 e9).tail.headD .nili
 let e12 : CV := (cell1 e9).tail.tail.headD .nili
 cond (okInt .i64 e10 && (okSli .u8 e11 && (okSlg 3 e12 && true))) (
 let i13 : Int := cvInt e10
 let l14 : LI := qee e11
 let l15 : LC := cvSlg e12
 cond (isNr rk [.int .i64 i6, .sli .u8 l7, .slg 3 l8] && isN [.int .i64 i13, .sli .u8 l14, .slg 3 l15]) (
 let r16 : Bool := qif [.int .i64 i6, .sli .u8 l7, .slg 3 l8] [.int .i64 i13, .sli .u8 l14, .slg 3 l15]
 cond (!r16) (
 k0 v1 v1 v4 ((v4.length : Nat) : Int) v4 v1 v4 (Int.toNat v1) i6 l7 l8 v7 v1 v7 (Int.toNat v1) i13 l14 l15 r16 v2 v3 v4 v5 v6 v7)
 (
 let x17 : Int := IntKind.i64.wrap (v1 + 1)
 again x17 v2 v3 v4 v5 v6 v7)) none) none) none) none) none) none) none)
 (
 k1 v1 v1 v4 ((v4.length : Nat) : Int) v2 v3 v4 v5 v6 v7)
noncomputable def qhn (rk : Nat) (k0 : zRSame0) (k1 : zRSame1) : Nat -> Int -> Int -> LI -> LC -> Int -> LI -> LC -> OO
 | 0 => fun _ _ _ _ _ _ _ => none
 | n + 1 => qm7 rk (qhn rk k0 k1 n) k0 k1
noncomputable def ql5 (k : KT) : zRSame0 := fun y1 y2 y3 y4 y5 y6 y7 y8 y9 y10 y11 y12 y13 y14 y15 y16 y17 y18 y19 y20 y21 y22 y23 y24 y25 => k .ret ⟨[(2, .ptr 66 0 0), (3, .ptr 67 0 0), (4, qB false), (5, qI y1), (28, qI y2), (29, .ptr 66 0 2), (30, qG 3 y3), (31, qI y4), (32, qB true), (35, .ptr 66 0 2), (36, qG 3 y5), (37, qI y6), (38, .cl (.vp (.slg 3 y7) y8 0)), (39, .cl (.agg [.int .i64 y9, .sli .u8 y10, .slg 3 y11])), (40, .ptr 67 0 2), (41, qG 3 y12), (42, qI y13), (43, .cl (.vp (.slg 3 y14) y15 0)), (44, .cl (.agg [.int .i64 y16, .sli .u8 y17, .slg 3 y18])), (45, qB y19), (46, qB true)], [(66, ⟨.var [qI y20, qS y21, qG 3 y22], false⟩), (67, ⟨.var [qI y23, qS y24, qG 3 y25], false⟩)]⟩
noncomputable def qlz (k : KT) : zRSame1 := fun y1 y2 y3 y4 y5 y6 y7 y8 y9 y10 => k (.exit 0) ⟨[(2, .ptr 66 0 0), (3, .ptr 67 0 0), (5, qI y1), (28, qI y2), (29, .ptr 66 0 2), (30, qG 3 y3), (31, qI y4), (32, qB false)], [(66, ⟨.var [qI y5, qS y6, qG 3 y7], false⟩), (67, ⟨.var [qI y8, qS y9, qG 3 y10], false⟩)]⟩
noncomputable def LRSame_4 (rk : Nat) : St -> (KT) -> OO := fun σ k => match σ with
 | ⟨[(q1, .ptr q2 q3 q4), (q5, .ptr q6 q7 q8), (q9, .cl (.int .i64 v1))], [(q10, ⟨.var [.cl (.int .i64 v2), .cl (.sli .u8 v3), .cl (.slg q11 v4)], false⟩), (q12, ⟨.var [.cl (.int .i64 v5), .cl (.sli .u8 v6), .cl (.slg q13 v7)], false⟩)]⟩ => cond (Nat.beq q1 2 && Nat.beq q2 66 && Nat.beq q3 0 && Nat.beq q4 0 && Nat.beq q5 3 && Nat.beq q6 67 && Nat.beq q7 0 && Nat.beq q8 0 && Nat.beq q9 5 && Nat.beq q10 66 && Nat.beq q11 3 && Nat.beq q12 67 && Nat.beq q13 3) (shut (qhn rk (ql5 k) (qlz k) FUEL) v1 v2 v3 v4 v5 v6 v7) none
 | _ => none
noncomputable def ERSame (rk : Nat) : Env := {
 orc := fun g => cond (Nat.beq g 11) SRSame (cond (Nat.beq g 15) SR1Same (fun _ _ => Tree.fail))
 pre := fun g => cond (Nat.beq g 11) (qnx (rk)) (cond (Nat.beq g 15) qqx (fun _ _ => true))
 live := fun r => cond (Nat.beq r 4) ([2, 3, 5]) ([])
 glob := qca
 nt := 47
 lp := fun r => cond (Nat.beq r 4) (some (LRSame_4 rk)) (none)
}
noncomputable def qna : Code := (Cd.fst (Cd.fst (Cd.snd (Cd.fst (Cd.snd (Cd.snd (Tryd.f11.body.getD .skip)))))))
theorem lpRSame_4_step (rk : Nat) (k : KT) (n : Nat) (v1 v2 : Int) (v3 : LI) (v4 : LC) (v5 : Int) (v6 : LI) (v7 : LC) : qbi (n + 1) (qa3 Tryd.prog (ERSame rk) 40 qna) (head (ERSame rk) 4) ⟨[(2, .ptr 66 0 0), (3, .ptr 67 0 0), (5, qI v1)], [(66, ⟨.var [qI v2, qS v3, qG 3 v4], false⟩), (67, ⟨.var [qI v5, qS v6, qG 3 v7], false⟩)]⟩ k = qm7 rk (fun v1 v2 v3 v4 v5 v6 v7 => qbi n (qa3 Tryd.prog (ERSame rk) 40 qna) (head (ERSame rk) 4) ⟨[(2, .ptr 66 0 0), (3, .ptr 67 0 0), (5, qI v1)], [(66, ⟨.var [qI v2, qS v3, qG 3 v4], false⟩), (67, ⟨.var [qI v5, qS v6, qG 3 v7], false⟩)]⟩ k) (ql5 k) (qlz k) v1 v2 v3 v4 v5 v6 v7 := by kernel_rfl
theorem lpRSame_4_eq (rk : Nat) (k : KT) : ∀ (n : Nat), ∀ (v1 v2 : Int) (v3 : LI) (v4 : LC) (v5 : Int) (v6 : LI) (v7 : LC), qbi n (qa3 Tryd.prog (ERSame rk) 40 qna) (head (ERSame rk) 4) ⟨[(2, .ptr 66 0 0), (3, .ptr 67 0 0), (5, qI v1)], [(66, ⟨.var [qI v2, qS v3, qG 3 v4], false⟩), (67, ⟨.var [qI v5, qS v6, qG 3 v7], false⟩)]⟩ k = qhn rk (ql5 k) (qlz k) n v1 v2 v3 v4 v5 v6 v7
 | 0 => by intros; rfl
 | n + 1 => by
  intros
  rw [lpRSame_4_step]
  have ih := lpRSame_4_eq rk k n
  simp only [qhn, ih]
theorem LRSame_4_ok (rk : Nat) : ∀ (σ : St) (k : KT) (r : Out), LRSame_4 rk σ k = some r -> ∃ n, qbi n (qa3 Tryd.prog (ERSame rk) 40 qna) (head (ERSame rk) 4) σ k = some r := by
 intro σ k r h
 unfold LRSame_4 at h
 split at h
 ·replace h := qaa h
  obtain ⟨hc, h⟩ := h
  simp only [Bool.and_eq_true, qbb, decide_eq_true_eq, Bool.not_eq_true'] at hc
  obtain ⟨⟨⟨⟨⟨⟨⟨⟨⟨⟨⟨⟨rfl, rfl⟩, rfl⟩, rfl⟩, rfl⟩, rfl⟩, rfl⟩, rfl⟩, rfl⟩, rfl⟩, rfl⟩, rfl⟩, rfl⟩ := hc
  rw [qae] at h
  exact ⟨FUEL, (lpRSame_4_eq rk k FUEL _ _ _ _ _ _ _ ).trans h⟩
 ·cases h
theorem loopsRSame (rk : Nat) : ∀ c, Tryd.f11.body = some c -> qaq Tryd.prog (ERSame rk) 40 c := by
 intro c hc
 cases hc
 exact ⟨trivial, ⟨qal _ (by kernel_rfl), ⟨⟨trivial, ⟨qal _ (by kernel_rfl), qcc rfl (LRSame_4_ok rk)⟩, qag rfl⟩, ⟨trivial, trivial, qag rfl⟩, qag rfl⟩, qag rfl⟩, qag rfl⟩
noncomputable def gRSame (rk : Nat) (ta : Int) (ba : LI) (ka : LC) (tb : Int) (bb : LI) (kb : LC) : OO :=
 cond (!decide (ta = tb)) (
 some (.ret [.cl (.bool false)] []))
 (
 cond (qid ba) (
 let r1 : Bool := qb3 ba bb
 cond (!r1) (
 some (.ret [.cl (.bool false)] []))
 (
 cond (!decide (((ka.length : Nat) : Int) = ((kb.length : Nat) : Int))) (
 some (.ret [.cl (.bool false)] []))
 (
 shut (qhn rk
 (fun y2 y3 y4 y5 y6 y7 y8 y9 y10 y11 y12 y13 y14 y15 y16 y17 y18 y19 y20 y21 y22 y23 y24 y25 y26 =>
 some (.ret [.cl (.bool false)] []))
 (fun y27 y28 y29 y30 y31 y32 y33 y34 y35 y36 =>
 some (.ret [.cl (.bool true)] []))
 FUEL) 0 ta ba ka tb bb kb))) none)
theorem gRSame_eq (rk : Nat) (ta : Int) (ba : LI) (ka : LC) (tb : Int) (bb : LI) (kb : LC) : qco Tryd.prog (ERSame rk) 40 false Tryd.f11 [.cl (.agg [.int .i64 ta, .sli .u8 ba, .slg 3 ka]), .cl (.agg [.int .i64 tb, .sli .u8 bb, .slg 3 kb])] [] = gRSame rk ta ba ka tb bb kb := by kernel_rfl

noncomputable def EDFits : Env := {
 orc := fun g => cond (Nat.beq g 46) SDNumber (cond (Nat.beq g 47) SDStrip (cond (Nat.beq g 48) SOParse (cond (Nat.beq g 49) SUValid (cond (Nat.beq g 50) SSRead (fun _ _ => Tree.fail)))))
 pre := fun g => cond (Nat.beq g 46) preDNumber (cond (Nat.beq g 47) preDStrip (cond (Nat.beq g 48) preOParse (cond (Nat.beq g 49) preUValid (cond (Nat.beq g 50) preSRead (fun _ _ => true)))))
 glob := qca
 nt := 63
}
theorem loopsDFits : ∀ c, Tryd.f34.body = some c -> qaq Tryd.prog (EDFits) 40 c := by
 intro c hc
 cases hc
 exact qal _ (by kernel_rfl)
noncomputable def gDFits (tag : Int) (b : LI) : OO :=
 cond (decide (tag = 1)) (
 cond (decide (((b.length : Nat) : Int) = 1)) (
 cond (decide ((0 : Int) < ((b.length : Nat) : Int))) (
 Option.bind (b[0]?) fun (e1 : Int) =>
 cond (decide (e1 = 0)) (
 some (.ret [.cl (.bool true)] []))
 (
 cond (decide ((0 : Int) < ((b.length : Nat) : Int))) (
 Option.bind (b[0]?) fun (e2 : Int) =>
 some (.ret [.cl (.bool (decide (e2 = 255)))] [])) none)) none)
 (
 some (.ret [.cl (.bool false)] [])))
 (
 cond (decide (tag = 2)) (
 cond (qac b) (
 let r3 : Bool := qel b
 some (.ret [.cl (.bool r3)] [])) none)
 (
 cond (decide (tag = 3)) (
 cond (qac b) (
 let r4 : Bool := qhh b
 some (.ret [.cl (.bool r4)] [])) none)
 (
 cond (decide (tag = 5)) (
 some (.ret [.cl (.bool (decide (((b.length : Nat) : Int) = 0)))] []))
 (
 cond (decide (tag = 6)) (
 cond (qac b) (
 let r6 : Int := (qdu b).2
 some (.ret [.cl (.bool (decide (r6 = 0)))] [])) none)
 (
 cond (decide (tag = 12)) (
 cond (qac b) (
 let r7 : Bool := u8Valid b
 some (.ret [.cl (.bool r7)] [])) none)
 (
 cond (decide (tag = 24)) (
 let s8 : ByteArray := qc8 b
 let r10 : Int := (qom s8).2
 some (.ret [.cl (.bool (decide (r10 = 0)))] []))
 (
 some (.ret [.cl (.bool true)] []))))))))
theorem gDFits_eq (tag : Int) (b : LI) : qco Tryd.prog (EDFits) 40 false Tryd.f34 [.cl (.int .i64 tag), .cl (.sli .u8 b)] [] = gDFits tag b := by kernel_rfl

noncomputable def ERFits : Env := {
 orc := fun g => cond (Nat.beq g 52) SRFitInt (cond (Nat.beq g 53) SRFitBits (cond (Nat.beq g 54) SR2Parse (cond (Nat.beq g 55) SRUtf8 (cond (Nat.beq g 56) SRRead (fun _ _ => Tree.fail)))))
 pre := fun g => cond (Nat.beq g 52) preRFitInt (cond (Nat.beq g 53) preRFitBits (cond (Nat.beq g 54) preR2Parse (cond (Nat.beq g 55) preRUtf8 (cond (Nat.beq g 56) preRRead (fun _ _ => true)))))
 glob := qca
 nt := 63
}
theorem loopsRFits : ∀ c, Tryd.f38.body = some c -> qaq Tryd.prog (ERFits) 40 c := by
 intro c hc
 cases hc
 exact qal _ (by kernel_rfl)
noncomputable def gRFits (tag : Int) (b : LI) : OO :=
 cond (decide (tag = 1)) (
 cond (decide (((b.length : Nat) : Int) = 1)) (
 cond (decide ((0 : Int) < ((b.length : Nat) : Int))) (
 Option.bind (b[0]?) fun (e1 : Int) =>
 cond (decide (e1 = 0)) (
 some (.ret [.cl (.bool true)] []))
 (
 cond (decide ((0 : Int) < ((b.length : Nat) : Int))) (
 Option.bind (b[0]?) fun (e2 : Int) =>
 some (.ret [.cl (.bool (decide (e2 = 255)))] [])) none)) none)
 (
 some (.ret [.cl (.bool false)] [])))
 (
 cond (decide (tag = 2)) (
 cond (qac b) (
 let r3 : Bool := qel b
 some (.ret [.cl (.bool r3)] [])) none)
 (
 cond (decide (tag = 3)) (
 cond (qac b) (
 let r4 : Bool := qhh b
 some (.ret [.cl (.bool r4)] [])) none)
 (
 cond (decide (tag = 5)) (
 some (.ret [.cl (.bool (decide (((b.length : Nat) : Int) = 0)))] []))
 (
 cond (decide (tag = 6)) (
 cond (qac b) (
 let r6 : Int := (qdu b).2
 some (.ret [.cl (.bool (decide (r6 = 0)))] [])) none)
 (
 cond (decide (tag = 12)) (
 cond (qac b) (
 let r7 : Bool := u8Valid b
 some (.ret [.cl (.bool r7)] [])) none)
 (
 cond (decide (tag = 24)) (
 let s8 : ByteArray := qc8 b
 let r10 : Int := (qom s8).2
 some (.ret [.cl (.bool (decide (r10 = 0)))] []))
 (
 some (.ret [.cl (.bool true)] []))))))))
theorem gRFits_eq (tag : Int) (b : LI) : qco Tryd.prog (ERFits) 40 false Tryd.f38 [.cl (.int .i64 tag), .cl (.sli .u8 b)] [] = gRFits tag b := by kernel_rfl

abbrev qru := LC -> Int -> Int -> LC -> Int -> LC -> Int -> LC -> Nat -> LI -> LC -> Int -> Int -> LC -> Nat -> LI -> OO
abbrev zR4Sorted1 := LC -> Int -> Int -> LC -> Int -> OO
noncomputable def qfj (again : LC -> Int -> OO) (k0 : qru) (k1 : zR4Sorted1) (v1 : LC) (v2 : Int) : OO :=
 cond (decide (v2 < ((v1.length : Nat) : Int))) (
 cond (decide ((0 : Int) <= v2)) (
 cond (decide (v2 < ((v1.length : Nat) : Int))) (
 Option.bind (v1[(Int.toNat v2)]?) fun (e1 : CV) =>
 let e2 : CV := (cell1 e1).getD 0 .nili
 cond (okSli .u8 e2) (
 let l3 : LI := qee e2
 let x4 : Int := IntKind.i64.wrap (v2 - 1)
 cond (decide ((0 : Int) <= x4)) (
 cond (decide (x4 < ((v1.length : Nat) : Int))) (
 Option.bind (v1[(Int.toNat x4)]?) fun (e5 : CV) =>
 let e6 : CV := (cell1 e5).getD 0 .nili
 cond (okSli .u8 e6) (
 let l7 : LI := qee e6
 cond (qid l3) (
 let r8 : Bool := qof l3 l7
 cond (r8) (
 k0 v1 v2 v2 v1 ((v1.length : Nat) : Int) v1 v2 v1 (Int.toNat v2) l3 v1 v2 x4 v1 (Int.toNat x4) l7)
 (
 let x9 : Int := IntKind.i64.wrap (v2 + 1)
 again v1 x9)) none) none) none) none) none) none) none)
 (
 k1 v1 v2 v2 v1 ((v1.length : Nat) : Int))
noncomputable def qcz (k0 : qru) (k1 : zR4Sorted1) : Nat -> LC -> Int -> OO
 | 0 => fun _ _ => none
 | n + 1 => qfj (qcz k0 k1 n) k0 k1
noncomputable def qfw (k : KT) : qru := fun y1 y2 y3 y4 y5 y6 y7 y8 y9 y10 y11 y12 y13 y14 y15 y16 => k .ret ⟨[(0, qG 1 y1), (2, qB false), (3, qI y2), (4, qI y3), (5, qG 1 y4), (6, qI y5), (7, qB true), (10, qG 1 y6), (11, qI y7), (12, .cl (.vp (.slg 1 y8) y9 0)), (13, qS y10), (14, qG 1 y11), (15, qI y12), (16, qI y13), (17, .cl (.vp (.slg 1 y14) y15 0)), (18, qS y16), (19, qB true)], []⟩
noncomputable def qft (k : KT) : zR4Sorted1 := fun y1 y2 y3 y4 y5 => k (.exit 0) ⟨[(0, qG 1 y1), (3, qI y2), (4, qI y3), (5, qG 1 y4), (6, qI y5), (7, qB false)], []⟩
noncomputable def qoq : St -> (KT) -> OO := fun σ k => match σ with
 | ⟨[(q1, .cl (.slg q2 v1)), (q3, .cl (.int .i64 v2))], []⟩ => cond (Nat.beq q1 0 && Nat.beq q2 1 && Nat.beq q3 3) (shut (qcz (qfw k) (qft k) FUEL) v1 v2) none
 | _ => none
noncomputable def ER4Sorted : Env := {
 orc := fun g => cond (Nat.beq g 57) SR4Less (fun _ _ => Tree.fail)
 pre := fun g => cond (Nat.beq g 57) preR4Less (fun _ _ => true)
 live := fun r => cond (Nat.beq r 2) ([0, 3]) ([])
 glob := qca
 nt := 20
 lp := fun r => cond (Nat.beq r 2) (some (qoq)) (none)
}
noncomputable def qfi : Code := (Cd.fst (Cd.fst (Cd.snd (Cd.fst (Cd.snd (Tryd.f39.body.getD .skip))))))
theorem qqf (k : KT) (n : Nat) (v1 : LC) (v2 : Int) : qbi (n + 1) (qa3 Tryd.prog (ER4Sorted) 40 qfi) (head (ER4Sorted) 2) ⟨[(0, qG 1 v1), (3, qI v2)], []⟩ k = qfj (fun v1 v2 => qbi n (qa3 Tryd.prog (ER4Sorted) 40 qfi) (head (ER4Sorted) 2) ⟨[(0, qG 1 v1), (3, qI v2)], []⟩ k) (qfw k) (qft k) v1 v2 := by kernel_rfl
theorem qli (k : KT) : ∀ (n : Nat), ∀ (v1 : LC) (v2 : Int), qbi n (qa3 Tryd.prog (ER4Sorted) 40 qfi) (head (ER4Sorted) 2) ⟨[(0, qG 1 v1), (3, qI v2)], []⟩ k = qcz (qfw k) (qft k) n v1 v2
 | 0 => by intros; rfl
 | n + 1 => by
  intros
  rw [qqf]
  have ih := qli k n
  simp only [qcz, ih]
theorem LR4Sorted_2_ok : ∀ (σ : St) (k : KT) (r : Out), qoq σ k = some r -> ∃ n, qbi n (qa3 Tryd.prog (ER4Sorted) 40 qfi) (head (ER4Sorted) 2) σ k = some r := by
 intro σ k r h
 unfold qoq at h
 split at h
 ·replace h := qaa h
  obtain ⟨hc, h⟩ := h
  simp only [Bool.and_eq_true, qbb, decide_eq_true_eq, Bool.not_eq_true'] at hc
  obtain ⟨⟨rfl, rfl⟩, rfl⟩ := hc
  rw [qae] at h
  exact ⟨FUEL, (qli k FUEL _ _ ).trans h⟩
 ·cases h
theorem loopsR4Sorted : ∀ c, Tryd.f39.body = some c -> qaq Tryd.prog (ER4Sorted) 40 c := by
 intro c hc
 cases hc
 exact ⟨trivial, ⟨⟨trivial, ⟨qal _ (by kernel_rfl), qcc rfl (LR4Sorted_2_ok)⟩, qag rfl⟩, ⟨trivial, trivial, qag rfl⟩, qag rfl⟩, qag rfl⟩
noncomputable def gR4Sorted (l : LC) : OO :=
 shut (qcz
 (fun y1 y2 y3 y4 y5 y6 y7 y8 y9 y10 y11 y12 y13 y14 y15 y16 =>
 some (.ret [.cl (.bool false)] []))
 (fun y17 y18 y19 y20 y21 =>
 some (.ret [.cl (.bool true)] []))
 FUEL) l 1
theorem gR4Sorted_eq (l : LC) : qco Tryd.prog (ER4Sorted) 40 false Tryd.f39 [.cl (.slg 1 l)] [] = gR4Sorted l := by kernel_rfl

noncomputable def EBCompare : Env := {
 orc := fun g => cond (Nat.beq g 74) SBACompare (fun _ _ => Tree.fail)
 pre := fun g => cond (Nat.beq g 74) qlo (fun _ _ => true)
 glob := qca
 nt := 8
}
theorem loopsBCompare : ∀ c, Tryd.f60.body = some c -> qaq Tryd.prog (EBCompare) 40 c := by
 intro c hc
 cases hc
 exact qal _ (by kernel_rfl)
noncomputable def gBCompare (a : LI) (b : LI) : OO :=
 cond (qac a && qac b) (
 let r1 : Int := qfl a b
 some (.ret [.cl (.int .i64 r1)] [])) none
theorem gBCompare_eq (a : LI) (b : LI) : qco Tryd.prog (EBCompare) 40 false Tryd.f60 [.cl (.sli .u8 a), .cl (.sli .u8 b)] [] = gBCompare a b := by kernel_rfl

noncomputable def EOLess : Env := {
 orc := fun g => cond (Nat.beq g 60) SBCompare (fun _ _ => Tree.fail)
 pre := fun g => cond (Nat.beq g 60) preBCompare (fun _ _ => true)
 glob := qca
 nt := 9
}
theorem loopsOLess : ∀ c, Tryd.f59.body = some c -> qaq Tryd.prog (EOLess) 40 c := by
 intro c hc
 cases hc
 exact qal _ (by kernel_rfl)
noncomputable def gOLess (a : LI) (b : LI) : OO :=
 cond (qac a && qac b) (
 let r1 : Int := qfl a b
 some (.ret [.cl (.bool (decide (r1 <= 0)))] [])) none
theorem gOLess_eq (a : LI) (b : LI) : qco Tryd.prog (EOLess) 40 false Tryd.f59 [.cl (.sli .u8 a), .cl (.sli .u8 b)] [] = gOLess a b := by kernel_rfl

abbrev zOSteps0 := LC -> Int -> Int -> LC -> Int -> LC -> Int -> Int -> LC -> Nat -> LI -> LC -> Int -> LC -> Nat -> LI -> Bool -> OO
abbrev zOSteps1 := LC -> Int -> Int -> LC -> Int -> OO
noncomputable def qkd (again : LC -> Int -> OO) (k0 : zOSteps0) (k1 : zOSteps1) (v1 : LC) (v2 : Int) : OO :=
 cond (decide (v2 < ((v1.length : Nat) : Int))) (
 let x1 : Int := IntKind.i64.wrap (v2 - 1)
 cond (decide ((0 : Int) <= x1)) (
 cond (decide (x1 < ((v1.length : Nat) : Int))) (
 Option.bind (v1[(Int.toNat x1)]?) fun (e2 : CV) =>
 let e3 : CV := (cell1 e2).getD 0 .nili
 cond (okSli .u8 e3) (
 let l4 : LI := qee e3
 cond (decide ((0 : Int) <= v2)) (
 cond (decide (v2 < ((v1.length : Nat) : Int))) (
 Option.bind (v1[(Int.toNat v2)]?) fun (e5 : CV) =>
 let e6 : CV := (cell1 e5).getD 0 .nili
 cond (okSli .u8 e6) (
 let l7 : LI := qee e6
 cond (qac l4 && qac l7) (
 let r8 : Bool := decide (qfl l4 l7 <= 0)
 cond (!r8) (
 k0 v1 v2 v2 v1 ((v1.length : Nat) : Int) v1 v2 x1 v1 (Int.toNat x1) l4 v1 v2 v1 (Int.toNat v2) l7 r8)
 (
 let x9 : Int := IntKind.i64.wrap (v2 + 1)
 again v1 x9)) none) none) none) none) none) none) none)
 (
 k1 v1 v2 v2 v1 ((v1.length : Nat) : Int))
noncomputable def qe1 (k0 : zOSteps0) (k1 : zOSteps1) : Nat -> LC -> Int -> OO
 | 0 => fun _ _ => none
 | n + 1 => qkd (qe1 k0 k1 n) k0 k1
noncomputable def qiw (k : KT) : zOSteps0 := fun y1 y2 y3 y4 y5 y6 y7 y8 y9 y10 y11 y12 y13 y14 y15 y16 y17 => k .ret ⟨[(0, qG 1 y1), (1, .cl (.fn (.func 59) [] [])), (4, qB false), (5, qI y2), (6, qI y3), (7, qG 1 y4), (8, qI y5), (9, qB true), (12, .cl (.fn (.func 59) [] [])), (13, qG 1 y6), (14, qI y7), (15, qI y8), (16, .cl (.vp (.slg 1 y9) y10 0)), (17, qS y11), (18, qG 1 y12), (19, qI y13), (20, .cl (.vp (.slg 1 y14) y15 0)), (21, qS y16), (22, qB y17), (23, qB true)], []⟩
noncomputable def qij (k : KT) : zOSteps1 := fun y1 y2 y3 y4 y5 => k (.exit 0) ⟨[(0, qG 1 y1), (1, .cl (.fn (.func 59) [] [])), (5, qI y2), (6, qI y3), (7, qG 1 y4), (8, qI y5), (9, qB false)], []⟩
noncomputable def LOSteps_2 : St -> (KT) -> OO := fun σ k => match σ with
 | ⟨[(q1, .cl (.slg q2 v1)), (q3, .cl (.fn (.func q4) [] [])), (q5, .cl (.int .i64 v2))], []⟩ => cond (Nat.beq q1 0 && Nat.beq q2 1 && Nat.beq q3 1 && Nat.beq q4 59 && Nat.beq q5 5) (shut (qe1 (qiw k) (qij k) FUEL) v1 v2) none
 | _ => none
noncomputable def EOSteps : Env := {
 orc := fun g => cond (Nat.beq g 59) SOLess (fun _ _ => Tree.fail)
 pre := fun g => cond (Nat.beq g 59) preOLess (fun _ _ => true)
 live := fun r => cond (Nat.beq r 2) ([0, 1, 5]) ([])
 glob := qca
 nt := 24
 lp := fun r => cond (Nat.beq r 2) (some (LOSteps_2)) (none)
}
noncomputable def qkp : Code := (Cd.fst (Cd.fst (Cd.snd (Cd.fst (Cd.snd (Tryd.f58.body.getD .skip))))))
theorem lpOSteps_2_step (k : KT) (n : Nat) (v1 : LC) (v2 : Int) : qbi (n + 1) (qa3 Tryd.prog (EOSteps) 40 qkp) (head (EOSteps) 2) ⟨[(0, qG 1 v1), (1, .cl (.fn (.func 59) [] [])), (5, qI v2)], []⟩ k = qkd (fun v1 v2 => qbi n (qa3 Tryd.prog (EOSteps) 40 qkp) (head (EOSteps) 2) ⟨[(0, qG 1 v1), (1, .cl (.fn (.func 59) [] [])), (5, qI v2)], []⟩ k) (qiw k) (qij k) v1 v2 := by kernel_rfl
theorem qpn (k : KT) : ∀ (n : Nat), ∀ (v1 : LC) (v2 : Int), qbi n (qa3 Tryd.prog (EOSteps) 40 qkp) (head (EOSteps) 2) ⟨[(0, qG 1 v1), (1, .cl (.fn (.func 59) [] [])), (5, qI v2)], []⟩ k = qe1 (qiw k) (qij k) n v1 v2
 | 0 => by intros; rfl
 | n + 1 => by
  intros
  rw [lpOSteps_2_step]
  have ih := qpn k n
  simp only [qe1, ih]
theorem LOSteps_2_ok : ∀ (σ : St) (k : KT) (r : Out), LOSteps_2 σ k = some r -> ∃ n, qbi n (qa3 Tryd.prog (EOSteps) 40 qkp) (head (EOSteps) 2) σ k = some r := by
 intro σ k r h
 unfold LOSteps_2 at h
 split at h
 ·replace h := qaa h
  obtain ⟨hc, h⟩ := h
  simp only [Bool.and_eq_true, qbb, decide_eq_true_eq, Bool.not_eq_true'] at hc
  obtain ⟨⟨⟨⟨rfl, rfl⟩, rfl⟩, rfl⟩, rfl⟩ := hc
  rw [qae] at h
  exact ⟨FUEL, (qpn k FUEL _ _ ).trans h⟩
 ·cases h
theorem loopsOSteps : ∀ c, Tryd.f58.body = some c -> qaq Tryd.prog (EOSteps) 40 c := by
 intro c hc
 cases hc
 exact ⟨trivial, ⟨⟨trivial, ⟨qal _ (by kernel_rfl), qcc rfl (LOSteps_2_ok)⟩, qag rfl⟩, ⟨trivial, trivial, qag rfl⟩, qag rfl⟩, qag rfl⟩
noncomputable def gOSteps (l : LC) : OO :=
 shut (qe1
 (fun y1 y2 y3 y4 y5 y6 y7 y8 y9 y10 y11 y12 y13 y14 y15 y16 y17 =>
 some (.ret [.cl (.bool false)] []))
 (fun y18 y19 y20 y21 y22 =>
 some (.ret [.cl (.bool true)] []))
 FUEL) l 1
theorem gOSteps_eq (l : LC) : qco Tryd.prog (EOSteps) 40 false Tryd.f58 [.cl (.slg 1 l), .cl (.fn (.func 59) [] [])] [] = gOSteps l := by kernel_rfl

noncomputable def EOSorted : Env := {
 orc := fun g => cond (Nat.beq g 58) SOSteps (cond (Nat.beq g 59) SOLess (fun _ _ => Tree.fail))
 pre := fun g => cond (Nat.beq g 58) preOSteps (cond (Nat.beq g 59) preOLess (fun _ _ => true))
 glob := qca
 nt := 5
}
theorem loopsOSorted : ∀ c, Tryd.f42.body = some c -> qaq Tryd.prog (EOSorted) 40 c := by
 intro c hc
 cases hc
 exact qal _ (by kernel_rfl)
noncomputable def gOSorted (l : LC) : OO :=
 cond (qf0 l) (
 let r1 : Bool := qbg l
 some (.ret [.cl (.bool r1)] [])) none
theorem gOSorted_eq (l : LC) : qco Tryd.prog (EOSorted) 40 false Tryd.f42 [.cl (.slg 1 l)] [] = gOSorted l := by kernel_rfl
end Go.Proofs.YtbgkadaidhgggaaDoorA
