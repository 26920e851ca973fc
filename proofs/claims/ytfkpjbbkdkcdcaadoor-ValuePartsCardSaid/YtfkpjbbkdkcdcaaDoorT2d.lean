/-
 What the reading of apostille/oid.numbers$1 comes to, printed by a program. Conditions: none.
-/
import Derived.Test.YtfkpjbbkdkcdcaaDoorT1
set_option linter.unusedVariables false
set_option linter.unusedSimpArgs false
set_option maxRecDepth 100000
namespace Go.Proofs.YtfkpjbbkdkcdcaaDoorA
noncomputable def lpONums_0s (l : Nat) (again : (List Int) -> Option Out) (k0 : Int -> Int -> (List Int) -> Int -> Int -> Int -> (List Int) -> Int -> Int -> Int -> Int -> Int -> Int -> Bool -> (List Int) -> Option Out) (k1 : Int -> Int -> (List Int) -> Int -> Int -> Int -> (List Int) -> Int -> Int -> Int -> Int -> Int -> Int -> Bool -> Int -> Bool -> (List Int) -> Option Out) (k2 : (List Int) -> Int -> (List Int) -> Option Out) (v1 : List Int) : Option Out :=
 cond (decide ((0 : Int) < ((v1.length : Nat) : Int))) (
  cond (qaj v1) (
  let r1 : Int := (oidNumber v1).1
  let r2 : Int := (oidNumber v1).2
  cond (Nat.beq l l) (
  yldO [.int .u32 r1, .bool (decide ((0 : Int) < r2))] (
   k0 r1 r2 v1 ((v1.length : Nat) : Int) r1 r2 v1 r1 r2 r1 r2 r1 r2 (decide ((0 : Int) < r2)) v1)
  (
   cond (decide (r2 = 0)) (
    k1 r1 r2 v1 ((v1.length : Nat) : Int) r1 r2 v1 r1 r2 r1 r2 r1 r2 (decide ((0 : Int) < r2)) r2 (decide (r2 = 0)) v1)
   (
    cond (decide ((0 : Int) <= r2)) (
    cond (decide (r2 <= ((v1.length : Nat) : Int))) (
    let l3 : List Int := List.drop (Int.toNat r2) v1
    again l3) none) none))) none) none)
 (
  k2 v1 ((v1.length : Nat) : Int) v1)
noncomputable def lpONums_0 (l : Nat) (k0 : Int -> Int -> (List Int) -> Int -> Int -> Int -> (List Int) -> Int -> Int -> Int -> Int -> Int -> Int -> Bool -> (List Int) -> Option Out) (k1 : Int -> Int -> (List Int) -> Int -> Int -> Int -> (List Int) -> Int -> Int -> Int -> Int -> Int -> Int -> Bool -> Int -> Bool -> (List Int) -> Option Out) (k2 : (List Int) -> Int -> (List Int) -> Option Out) : Nat -> (List Int) -> Option Out
 | 0 => fun _ => none
 | n + 1 => lpONums_0s l (lpONums_0 l k0 k1 k2 n) k0 k1 k2
noncomputable def LONums_0 (l : Nat) : St -> (Ex -> St -> Option Out) -> Option Out := fun σ k => match σ with
 | ⟨[(q1, .cl (.fn (.yield q2) [] [])), (q3, .ptr q4 q5 q6)], [(q7, ⟨.var [.cl (.sli .u8 v1)], false⟩)]⟩ => cond (Nat.beq q1 0 && Nat.beq q3 1 && Nat.beq q4 0 && Nat.beq q5 0 && Nat.beq q6 0 && Nat.beq q7 0 && Nat.beq l q2) (shut (lpONums_0 l (fun y1 y2 y3 y4 y5 y6 y7 y8 y9 y10 y11 y12 y13 y14 y15 => k .ret ⟨[(0, .cl (.fn (.yield l) [] [])), (1, .ptr 0 0 0), (3, .cl (.int .u32 y1)), (4, .cl (.int .i64 y2)), (5, .cl (.sli .u8 y3)), (6, .cl (.int .i64 y4)), (7, .cl (.bool true)), (8, .tup [.cl (.int .u32 y5), .cl (.int .i64 y6)]), (9, .cl (.sli .u8 y7)), (10, .tup [.cl (.int .u32 y8), .cl (.int .i64 y9)]), (11, .cl (.int .u32 y10)), (12, .cl (.int .i64 y11)), (13, .cl (.fn (.yield l) [] [])), (14, .cl (.int .u32 y12)), (15, .cl (.int .i64 y13)), (16, .cl (.bool y14)), (17, .cl (.bool false)), (18, .cl (.bool true)), (19, .cl (.bool true)), (20, .tup []), (21, .tup []), (22, .cl (.bool true))], [(0, ⟨.var [.cl (.sli .u8 y15)], false⟩)]⟩) (fun y1 y2 y3 y4 y5 y6 y7 y8 y9 y10 y11 y12 y13 y14 y15 y16 y17 => k .ret ⟨[(0, .cl (.fn (.yield l) [] [])), (1, .ptr 0 0 0), (3, .cl (.int .u32 y1)), (4, .cl (.int .i64 y2)), (5, .cl (.sli .u8 y3)), (6, .cl (.int .i64 y4)), (7, .cl (.bool true)), (8, .tup [.cl (.int .u32 y5), .cl (.int .i64 y6)]), (9, .cl (.sli .u8 y7)), (10, .tup [.cl (.int .u32 y8), .cl (.int .i64 y9)]), (11, .cl (.int .u32 y10)), (12, .cl (.int .i64 y11)), (13, .cl (.fn (.yield l) [] [])), (14, .cl (.int .u32 y12)), (15, .cl (.int .i64 y13)), (16, .cl (.bool y14)), (17, .cl (.bool true)), (18, .cl (.bool false)), (19, .cl (.bool false)), (20, .cl (.int .i64 y15)), (21, .cl (.bool y16)), (22, .cl (.bool true))], [(0, ⟨.var [.cl (.sli .u8 y17)], false⟩)]⟩) (fun y1 y2 y3 => k (.exit 0) ⟨[(0, .cl (.fn (.yield l) [] [])), (1, .ptr 0 0 0), (5, .cl (.sli .u8 y1)), (6, .cl (.int .i64 y2)), (7, .cl (.bool false))], [(0, ⟨.var [.cl (.sli .u8 y3)], false⟩)]⟩) FUEL) v1) none
 | _ => none
noncomputable def EONums (l : Nat) : Env := {
 orc := fun g => cond (Nat.beq g 155) (SONumber) (fun _ _ => Tree.fail)
 pre := fun g => cond (Nat.beq g 155) (preONumber) (fun _ _ => true)
 byref := fun _ => []
 keep := fun _ => false
 live := fun r => cond (Nat.beq r 0) ([0, 1]) ([])
 ren := fun _ => []
 glob := glVal
 nt := 26
 lp := fun r => cond (Nat.beq r 0) (some (LONums_0 l)) (none)
 rg := false
 yn := l
 yl := fun r => cond (Nat.beq r 2) (some 4) (none)
}
noncomputable def blpONums_0 : Code := (Cd.fst (Cd.fst (Tryd.f154.body.getD .skip)))
theorem lpONums_0_step (l : Nat) (k : Ex -> St -> Option Out) (n : Nat) (v1 : List Int) : qa8 (n + 1) (qax Tryd.prog (EONums l) 40 blpONums_0) (head (EONums l) 0) ⟨[(0, .cl (.fn (.yield l) [] [])), (1, .ptr 0 0 0)], [(0, ⟨.var [.cl (.sli .u8 v1)], false⟩)]⟩ k = lpONums_0s l (fun v1 => qa8 n (qax Tryd.prog (EONums l) 40 blpONums_0) (head (EONums l) 0) ⟨[(0, .cl (.fn (.yield l) [] [])), (1, .ptr 0 0 0)], [(0, ⟨.var [.cl (.sli .u8 v1)], false⟩)]⟩ k) (fun y1 y2 y3 y4 y5 y6 y7 y8 y9 y10 y11 y12 y13 y14 y15 => k .ret ⟨[(0, .cl (.fn (.yield l) [] [])), (1, .ptr 0 0 0), (3, .cl (.int .u32 y1)), (4, .cl (.int .i64 y2)), (5, .cl (.sli .u8 y3)), (6, .cl (.int .i64 y4)), (7, .cl (.bool true)), (8, .tup [.cl (.int .u32 y5), .cl (.int .i64 y6)]), (9, .cl (.sli .u8 y7)), (10, .tup [.cl (.int .u32 y8), .cl (.int .i64 y9)]), (11, .cl (.int .u32 y10)), (12, .cl (.int .i64 y11)), (13, .cl (.fn (.yield l) [] [])), (14, .cl (.int .u32 y12)), (15, .cl (.int .i64 y13)), (16, .cl (.bool y14)), (17, .cl (.bool false)), (18, .cl (.bool true)), (19, .cl (.bool true)), (20, .tup []), (21, .tup []), (22, .cl (.bool true))], [(0, ⟨.var [.cl (.sli .u8 y15)], false⟩)]⟩) (fun y1 y2 y3 y4 y5 y6 y7 y8 y9 y10 y11 y12 y13 y14 y15 y16 y17 => k .ret ⟨[(0, .cl (.fn (.yield l) [] [])), (1, .ptr 0 0 0), (3, .cl (.int .u32 y1)), (4, .cl (.int .i64 y2)), (5, .cl (.sli .u8 y3)), (6, .cl (.int .i64 y4)), (7, .cl (.bool true)), (8, .tup [.cl (.int .u32 y5), .cl (.int .i64 y6)]), (9, .cl (.sli .u8 y7)), (10, .tup [.cl (.int .u32 y8), .cl (.int .i64 y9)]), (11, .cl (.int .u32 y10)), (12, .cl (.int .i64 y11)), (13, .cl (.fn (.yield l) [] [])), (14, .cl (.int .u32 y12)), (15, .cl (.int .i64 y13)), (16, .cl (.bool y14)), (17, .cl (.bool true)), (18, .cl (.bool false)), (19, .cl (.bool false)), (20, .cl (.int .i64 y15)), (21, .cl (.bool y16)), (22, .cl (.bool true))], [(0, ⟨.var [.cl (.sli .u8 y17)], false⟩)]⟩) (fun y1 y2 y3 => k (.exit 0) ⟨[(0, .cl (.fn (.yield l) [] [])), (1, .ptr 0 0 0), (5, .cl (.sli .u8 y1)), (6, .cl (.int .i64 y2)), (7, .cl (.bool false))], [(0, ⟨.var [.cl (.sli .u8 y3)], false⟩)]⟩) v1 := by kernel_rfl
theorem lpONums_0_eq (l : Nat) (k : Ex -> St -> Option Out) : ∀ (n : Nat), ∀ (v1 : List Int), qa8 n (qax Tryd.prog (EONums l) 40 blpONums_0) (head (EONums l) 0) ⟨[(0, .cl (.fn (.yield l) [] [])), (1, .ptr 0 0 0)], [(0, ⟨.var [.cl (.sli .u8 v1)], false⟩)]⟩ k = lpONums_0 l (fun y1 y2 y3 y4 y5 y6 y7 y8 y9 y10 y11 y12 y13 y14 y15 => k .ret ⟨[(0, .cl (.fn (.yield l) [] [])), (1, .ptr 0 0 0), (3, .cl (.int .u32 y1)), (4, .cl (.int .i64 y2)), (5, .cl (.sli .u8 y3)), (6, .cl (.int .i64 y4)), (7, .cl (.bool true)), (8, .tup [.cl (.int .u32 y5), .cl (.int .i64 y6)]), (9, .cl (.sli .u8 y7)), (10, .tup [.cl (.int .u32 y8), .cl (.int .i64 y9)]), (11, .cl (.int .u32 y10)), (12, .cl (.int .i64 y11)), (13, .cl (.fn (.yield l) [] [])), (14, .cl (.int .u32 y12)), (15, .cl (.int .i64 y13)), (16, .cl (.bool y14)), (17, .cl (.bool false)), (18, .cl (.bool true)), (19, .cl (.bool true)), (20, .tup []), (21, .tup []), (22, .cl (.bool true))], [(0, ⟨.var [.cl (.sli .u8 y15)], false⟩)]⟩) (fun y1 y2 y3 y4 y5 y6 y7 y8 y9 y10 y11 y12 y13 y14 y15 y16 y17 => k .ret ⟨[(0, .cl (.fn (.yield l) [] [])), (1, .ptr 0 0 0), (3, .cl (.int .u32 y1)), (4, .cl (.int .i64 y2)), (5, .cl (.sli .u8 y3)), (6, .cl (.int .i64 y4)), (7, .cl (.bool true)), (8, .tup [.cl (.int .u32 y5), .cl (.int .i64 y6)]), (9, .cl (.sli .u8 y7)), (10, .tup [.cl (.int .u32 y8), .cl (.int .i64 y9)]), (11, .cl (.int .u32 y10)), (12, .cl (.int .i64 y11)), (13, .cl (.fn (.yield l) [] [])), (14, .cl (.int .u32 y12)), (15, .cl (.int .i64 y13)), (16, .cl (.bool y14)), (17, .cl (.bool true)), (18, .cl (.bool false)), (19, .cl (.bool false)), (20, .cl (.int .i64 y15)), (21, .cl (.bool y16)), (22, .cl (.bool true))], [(0, ⟨.var [.cl (.sli .u8 y17)], false⟩)]⟩) (fun y1 y2 y3 => k (.exit 0) ⟨[(0, .cl (.fn (.yield l) [] [])), (1, .ptr 0 0 0), (5, .cl (.sli .u8 y1)), (6, .cl (.int .i64 y2)), (7, .cl (.bool false))], [(0, ⟨.var [.cl (.sli .u8 y3)], false⟩)]⟩) n v1
 | 0 => by intros; rfl
 | n + 1 => by
  intros
  rw [lpONums_0_step]
  have ih := lpONums_0_eq l k n
  simp only [lpONums_0, ih]
theorem LONums_0_ok (l : Nat) : ∀ (σ : St) (k : Ex -> St -> Option Out) (r : Out), LONums_0 l σ k = some r -> ∃ n, qa8 n (qax Tryd.prog (EONums l) 40 blpONums_0) (head (EONums l) 0) σ k = some r := by
 intro σ k r h
 unfold LONums_0 at h
 split at h
 ·replace h := qab h
  obtain ⟨hc, h⟩ := h
  simp only [Bool.and_eq_true, qaz, decide_eq_true_eq, Bool.not_eq_true'] at hc
  obtain ⟨⟨⟨⟨⟨⟨rfl, rfl⟩, rfl⟩, rfl⟩, rfl⟩, rfl⟩, rfl⟩ := hc
  rw [qad] at h
  exact ⟨FUEL, (lpONums_0_eq l k FUEL _ ).trans h⟩
 ·cases h
theorem loopsONums (l : Nat) : ∀ c, Tryd.f154.body = some c -> qak Tryd.prog (EONums l) 40 c := by
 intro c hc
 cases hc
 exact ⟨⟨⟨trivial, ⟨trivial, trivial, qaa rfl⟩, qaa rfl⟩, ⟨trivial, ⟨⟨trivial, ⟨trivial, trivial, qaa rfl⟩, qaa rfl⟩, trivial, qaa rfl⟩, qaa rfl⟩, qaa rfl⟩, qba rfl (LONums_0_ok l)⟩
noncomputable def gONums (l : Nat) (b : List Int) : Option Out :=
 cond (Nat.beq l l) (
 shut (lpONums_0 l
 (fun (y1 : Int) (y2 : Int) (y3 : List Int) (y4 : Int) (y5 : Int) (y6 : Int) (y7 : List Int) (y8 : Int) (y9 : Int) (y10 : Int) (y11 : Int) (y12 : Int) (y13 : Int) (y14 : Bool) (y15 : List Int) =>
  some (.ret [] [some ⟨.var [.cl (.sli .u8 y15)], false⟩]))
 (fun (y16 : Int) (y17 : Int) (y18 : List Int) (y19 : Int) (y20 : Int) (y21 : Int) (y22 : List Int) (y23 : Int) (y24 : Int) (y25 : Int) (y26 : Int) (y27 : Int) (y28 : Int) (y29 : Bool) (y30 : Int) (y31 : Bool) (y32 : List Int) =>
  some (.ret [] [some ⟨.var [.cl (.sli .u8 y32)], false⟩]))
 (fun (y33 : List Int) (y34 : Int) (y35 : List Int) =>
  some (.ret [] [some ⟨.var [.cl (.sli .u8 y35)], false⟩]))
 FUEL) b) none
theorem gONums_eq (l : Nat) (b : List Int) : bodyK Tryd.prog (EONums l) 40 false Tryd.f154 [.cl (.fn (.yield l) [] []), .ptr 0 0 0] [⟨.var [.cl (.sli .u8 b)], false⟩] = gONums l b := by kernel_rfl
end Go.Proofs.YtfkpjbbkdkcdcaaDoorA

namespace Go.Proofs.YtfkpjbbkdkcdcaaDoorA
noncomputable def lpVRSet_10s (again : (List CV) -> Nat -> Nat -> Int -> (List Int) -> Int -> (List CV) -> (List CV) -> Option Out) (k0 : (List CV) -> Nat -> Nat -> Int -> (List Int) -> Int -> (List CV) -> (List CV) -> Option Out) (v1 : List CV) (v2 : Nat) (v3 : Nat) (v4 : Int) (v5 : List Int) (v6 : Int) (v7 : List CV) (v8 : List CV) : Option Out :=
 cond (decide (v6 < ((v3 : Nat) : Int))) (
  idxK v6 v3 fun _ =>
  Option.bind (v8[(0 + (Int.toNat v6))]?) fun (e10 : CV) =>
  let e11 : CV := (cell1 e10).getD 0 .nili
  cond (okSli .u8 e11) (
  let l12 : List Int := cvSli e11
  cond (lenOk v5) (
  let r13 : Bool := listLess v5 l12
  cond (!r13) (
   let x14 : Int := IntKind.i64.wrap (v6 + 1)
   again v1 v2 v3 v4 v5 x14 v7 v8)
  (
   k0 v1 v2 v3 v4 v5 v6 v7 v8)) none) none)
 (
  k0 v1 v2 v3 v4 v5 v6 v7 v8)
noncomputable def lpVRSet_10 (k0 : (List CV) -> Nat -> Nat -> Int -> (List Int) -> Int -> (List CV) -> (List CV) -> Option Out) : Nat -> (List CV) -> Nat -> Nat -> Int -> (List Int) -> Int -> (List CV) -> (List CV) -> Option Out := iterF (fun a => lpVRSet_10s a k0) (fun _ _ _ _ _ _ _ _ => none)
noncomputable def lpVRSet_4s (again : (List CV) -> Nat -> Nat -> Int -> (List CV) -> (List CV) -> Option Out) (k0 : Option Out) (k1 : Nat -> (List CV) -> Option Out) (v1 : List CV) (v2 : Nat) (v3 : Nat) (v4 : Int) (v5 : List CV) (v6 : List CV) : Option Out :=
 cond (decide (v4 < ((v1.length : Nat) : Int))) (
  getK v1 v4 fun e1 =>
  let e2 : CV := (cell1 e1).headD .nili
  let e3 : CV := (cell1 e1).tail.headD .nili
  let e4 : CV := (cell1 e1).tail.tail.headD .nili
  cond (okInt .i64 e2 && (okSli .u8 e3 && (okSlg 3 e4 && true))) (
  let i5 : Int := cvInt e2
  let l6 : List Int := cvSli e3
  let l7 : List CV := cvSlg e4
  cond (isS [.int .i64 i5, .sli .u8 l6, .slg 3 l7]) (
  let r8 : List Int := (qa7 [.int .i64 i5, .sli .u8 l6, .slg 3 l7]).1
  let r9 : Int := (qa7 [.int .i64 i5, .sli .u8 l6, .slg 3 l7]).2
  cond (!decide (r9 = 0)) (
   k0)
  (
   shut (lpVRSet_10
   (fun (y10 : List CV) (y11 : Nat) (y12 : Nat) (y13 : Int) (y14 : List Int) (y15 : Int) (y16 : List CV) (y17 : List CV) =>
    cond (decide ((0 : Int) <= y15)) (
    cond (decide (y15 <= ((y12 : Nat) : Int))) (
    let l18 : List CV := [] ++ (List.take (Int.toNat y15) y17)
    rmK l18.length 24 <|
    let l19 : List CV := l18 ++ [.sli .u8 y14]
    rmK l19.length 24 <|
    cond (decide ((0 : Int) <= y15)) (
    cond (decide (y15 <= ((y12 : Nat) : Int))) (
    let l20 : List CV := l19 ++ (win y17 (0 + (Int.toNat y15)) 0 true)
    rmK l20.length 24 <|
    cond (decide ((0 : Int) <= y15)) (
    cond (decide (y15 <= ((y11 : Nat) : Int))) (
    let l21 : List CV := [] ++ (List.take (Int.toNat y15) y16)
    rmK l21.length 56 <|
    getK y10 y13 fun e22 =>
    let e23 : CV := (cell1 e22).headD .nili
    let e24 : CV := (cell1 e22).tail.headD .nili
    let e25 : CV := (cell1 e22).tail.tail.headD .nili
    cond (okInt .i64 e23 && (okSli .u8 e24 && (okSlg 3 e25 && true))) (
    let i26 : Int := cvInt e23
    let l27 : List Int := cvSli e24
    let l28 : List CV := cvSlg e25
    let l29 : List CV := l21 ++ ([.agg [.int .i64 i26, .sli .u8 l27, .slg 3 l28]])
    rmK l29.length 56 <|
    cond (decide ((0 : Int) <= y15)) (
    cond (decide (y15 <= ((y11 : Nat) : Int))) (
    let l30 : List CV := l29 ++ (win y16 (0 + (Int.toNat y15)) 0 true)
    rmK l30.length 56 <|
    let x31 : Int := IntKind.i64.wrap (y13 + 1)
    again y10 l30.length l20.length x31 l30 l20) none) none) none) none) none) none) none) none) none)
   FUEL) v1 v2 v3 v4 r8 0 v5 v6)) none) none)
 (
  k1 v2 v5)
noncomputable def lpVRSet_4 (k0 : Option Out) (k1 : Nat -> (List CV) -> Option Out) : Nat -> (List CV) -> Nat -> Nat -> Int -> (List CV) -> (List CV) -> Option Out := iterF (fun a => lpVRSet_4s a k0 k1) (fun _ _ _ _ _ _ => none)
noncomputable def LVRSet_10 : St -> (Ex -> St -> Option Out) -> Option Out := fun σ k => match σ with
 | ⟨[(q1, .cl (.slg q2 v1)), (q3, .ptr q4 q5 q6), (q7, .ref q8 q9 v2 true q10), (q11, .ref q12 q13 v3 true q14), (q15, .cl (.int .i64 v4)), (q16, .cl (.sli .u8 v5)), (q17, .cl (.int .i64 v6))], [(q18, ⟨.var [.cl (.int .i64 q19), .nils, .nils], false⟩), (q20, ⟨.gen q21 v7, false⟩), (q22, ⟨.gen q23 v8, false⟩)]⟩ => cond (Nat.beq q1 0 && Nat.beq q2 3 && Nat.beq q3 2 && Nat.beq q4 66 && Nat.beq q5 0 && Nat.beq q6 0 && Nat.beq q7 4 && Nat.beq q8 68 && Nat.beq q9 0 && Nat.beq q10 3 && Nat.beq q11 5 && Nat.beq q12 69 && Nat.beq q13 0 && Nat.beq q14 1 && Nat.beq q15 6 && Nat.beq q16 7 && Nat.beq q17 9 && Nat.beq q18 66 && decide (q19 = 0) && Nat.beq q20 68 && Nat.beq q21 3 && Nat.beq q22 69 && Nat.beq q23 1) (shut (lpVRSet_10 (fun y1 y2 y3 y4 y5 y6 y7 y8 => k (.exit 2) ⟨[(0, .cl (.slg 3 y1)), (2, .ptr 66 0 0), (4, .ref 68 0 y2 true 3), (5, .ref 69 0 y3 true 1), (6, .cl (.int .i64 y4)), (7, .cl (.sli .u8 y5)), (9, .cl (.int .i64 y6))], [(66, ⟨.var [.cl (.int .i64 0), .nils, .nils], false⟩), (68, ⟨.gen 3 y7, false⟩), (69, ⟨.gen 1 y8, false⟩)]⟩) FUEL) v1 v2 v3 v4 v5 v6 v7 v8) none
 | _ => none
noncomputable def LVRSet_4 : St -> (Ex -> St -> Option Out) -> Option Out := fun σ k => match σ with
 | ⟨[(q1, .cl (.slg q2 v1)), (q3, .ptr q4 q5 q6), (q7, .ref q8 q9 v2 true q10), (q11, .ref q12 q13 v3 true q14), (q15, .cl (.int .i64 v4))], [(q16, ⟨.var [.cl (.int .i64 q17), .nils, .nils], false⟩), (q18, ⟨.gen q19 v5, false⟩), (q20, ⟨.gen q21 v6, false⟩)]⟩ => cond (Nat.beq q1 0 && Nat.beq q2 3 && Nat.beq q3 2 && Nat.beq q4 66 && Nat.beq q5 0 && Nat.beq q6 0 && Nat.beq q7 4 && Nat.beq q8 68 && Nat.beq q9 0 && Nat.beq q10 3 && Nat.beq q11 5 && Nat.beq q12 69 && Nat.beq q13 0 && Nat.beq q14 1 && Nat.beq q15 6 && Nat.beq q16 66 && decide (q17 = 0) && Nat.beq q18 68 && Nat.beq q19 3 && Nat.beq q20 69 && Nat.beq q21 1) (shut (lpVRSet_4 (k .ret ⟨[(2, .ptr 66 0 0), (3, .cl (.int .i64 1))], [(66, ⟨.var [.cl (.int .i64 0), .nils, .nils], false⟩)]⟩) (fun y1 y2 => k (.exit 0) ⟨[(2, .ptr 66 0 0), (4, .ref 68 0 y1 true 3)], [(66, ⟨.var [.cl (.int .i64 0), .nils, .nils], false⟩), (68, ⟨.gen 3 y2, false⟩)]⟩) FUEL) v1 v2 v3 v4 v5 v6) none
 | _ => none
noncomputable def EVRSet : Env := {
 orc := fun g => cond (Nat.beq g 67) (SRBytes) (cond (Nat.beq g 99) (SR4Less) (fun _ _ => Tree.fail))
 pre := fun g => cond (Nat.beq g 67) (preRBytes) (cond (Nat.beq g 99) (preR4Less) (fun _ _ => true))
 byref := fun _ => []
 keep := fun _ => false
 live := fun r => cond (Nat.beq r 4) ([0, 2, 4, 5, 6]) (cond (Nat.beq r 10) ([0, 2, 4, 5, 6, 7, 9]) ([]))
 ren := fun r => cond (Nat.beq r 4) ([(138, 68), (121, 69)]) ([])
 glob := glVal
 nt := 77
 lp := fun r => cond (Nat.beq r 4) (some (LVRSet_4)) (cond (Nat.beq r 10) (some (LVRSet_10)) (none))
 xl := fun r => cond (Nat.beq r 0) (some [2, 3]) (cond (Nat.beq r 1) (some [2, 4]) (cond (Nat.beq r 3) (some [0, 2, 4, 5, 6, 7, 9]) (none)))
}
noncomputable def blpVRSet_10 : Code := (Cd.fst (Cd.fst (Cd.fst (Cd.snd (Cd.snd (Cd.snd (Cd.fst (Cd.fst (Cd.snd (Cd.fst (Cd.fst (Cd.snd (Cd.fst (Cd.snd (Cd.snd (Cd.snd (Tryd.f47.body.getD .skip)))))))))))))))))
noncomputable def blpVRSet_4 : Code := (Cd.fst (Cd.fst (Cd.snd (Cd.fst (Cd.snd (Cd.snd (Cd.snd (Tryd.f47.body.getD .skip))))))))
theorem LVRSet_10_ok : LpOk Tryd.prog (EVRSet) 40 blpVRSet_10 10 LVRSet_10 := by
 intro σ k r h
 unfold LVRSet_10 at h
 split at h
 ·replace h := qab h
  obtain ⟨hc, h⟩ := h
  simp only [Bool.and_eq_true, qaz, decide_eq_true_eq, Bool.not_eq_true'] at hc
  obtain ⟨⟨⟨⟨⟨⟨⟨⟨⟨⟨⟨⟨⟨⟨⟨⟨⟨⟨⟨⟨⟨⟨rfl, rfl⟩, rfl⟩, rfl⟩, rfl⟩, rfl⟩, rfl⟩, rfl⟩, rfl⟩, rfl⟩, rfl⟩, rfl⟩, rfl⟩, rfl⟩, rfl⟩, rfl⟩, rfl⟩, rfl⟩, rfl⟩, rfl⟩, rfl⟩, rfl⟩, rfl⟩ := hc
  rw [qad] at h
  exact ⟨FUEL, iter_ok (F := fun n v1 v2 v3 v4 v5 v6 v7 v8 => qa8 n (qax Tryd.prog (EVRSet) 40 blpVRSet_10) (head (EVRSet) 10) ⟨[(0, .cl (.slg 3 v1)), (2, .ptr 66 0 0), (4, .ref 68 0 v2 true 3), (5, .ref 69 0 v3 true 1), (6, .cl (.int .i64 v4)), (7, .cl (.sli .u8 v5)), (9, .cl (.int .i64 v6))], [(66, ⟨.var [.cl (.int .i64 0), .nils, .nils], false⟩), (68, ⟨.gen 3 v7, false⟩), (69, ⟨.gen 1 v8, false⟩)]⟩ k) (Q := fun f => f _ _ _ _ _ _ _ _ = some r) rfl (fun n => by kernel_rfl) h⟩
 ·cases h
theorem LVRSet_4_ok : LpOk Tryd.prog (EVRSet) 40 blpVRSet_4 4 LVRSet_4 := by
 intro σ k r h
 unfold LVRSet_4 at h
 split at h
 ·replace h := qab h
  obtain ⟨hc, h⟩ := h
  simp only [Bool.and_eq_true, qaz, decide_eq_true_eq, Bool.not_eq_true'] at hc
  obtain ⟨⟨⟨⟨⟨⟨⟨⟨⟨⟨⟨⟨⟨⟨⟨⟨⟨⟨⟨⟨rfl, rfl⟩, rfl⟩, rfl⟩, rfl⟩, rfl⟩, rfl⟩, rfl⟩, rfl⟩, rfl⟩, rfl⟩, rfl⟩, rfl⟩, rfl⟩, rfl⟩, rfl⟩, rfl⟩, rfl⟩, rfl⟩, rfl⟩, rfl⟩ := hc
  rw [qad] at h
  exact ⟨FUEL, iter_ok (F := fun n v1 v2 v3 v4 v5 v6 => qa8 n (qax Tryd.prog (EVRSet) 40 blpVRSet_4) (head (EVRSet) 4) ⟨[(0, .cl (.slg 3 v1)), (2, .ptr 66 0 0), (4, .ref 68 0 v2 true 3), (5, .ref 69 0 v3 true 1), (6, .cl (.int .i64 v4))], [(66, ⟨.var [.cl (.int .i64 0), .nils, .nils], false⟩), (68, ⟨.gen 3 v5, false⟩), (69, ⟨.gen 1 v6, false⟩)]⟩ k) (Q := fun f => f _ _ _ _ _ _ = some r) rfl (fun n => by kernel_rfl) h⟩
 ·cases h
theorem loopsVRSet : ∀ c, Tryd.f47.body = some c -> qak Tryd.prog (EVRSet) 40 c := by
 intro c hc
 cases hc
 exact ⟨trivial, ⟨trivial, ⟨trivial, ⟨⟨trivial, ⟨⟨⟨trivial, ⟨trivial, trivial, qaa rfl⟩, qaa rfl⟩, ⟨⟨trivial, ⟨⟨trivial, ⟨⟨trivial, trivial, qaa rfl⟩, trivial, qaa rfl⟩, qaa rfl⟩, ⟨trivial, ⟨⟨⟨⟨trivial, ⟨trivial, trivial, qaa rfl⟩, qaa rfl⟩, trivial, qaa rfl⟩, qba rfl (LVRSet_10_ok)⟩, ⟨trivial, ⟨trivial, ⟨trivial, ⟨trivial, ⟨trivial, ⟨trivial, ⟨trivial, trivial, qaa rfl⟩, qaa rfl⟩, qaa rfl⟩, qaa rfl⟩, qaa rfl⟩, qaa rfl⟩, qaa rfl⟩, qaa rfl⟩, qaa rfl⟩, qaa rfl⟩, qaa rfl⟩, trivial, qaa rfl⟩, qaa rfl⟩, qba rfl (LVRSet_4_ok)⟩, qaa rfl⟩, ⟨trivial, trivial, qaa rfl⟩, qaa rfl⟩, qaa rfl⟩, qaa rfl⟩, qaa rfl⟩
noncomputable def gVRSet (l : List CV) : Option Out :=
 shut (lpVRSet_4
 (
  some (.ret [.cl (.agg [.int .i64 0, .sli .u8 [], .slg 3 []]), .cl (.int .i64 1)] []))
 (fun (y1 : Nat) (y2 : List CV) =>
  some (.ret [.cl (.agg [.int .i64 49, .sli .u8 [], .slg 3 y2]), .cl (.int .i64 0)] []))
 FUEL) l 0 0 0 [] []
theorem gVRSet_eq (l : List CV) : bodyK Tryd.prog (EVRSet) 40 false Tryd.f47 [.cl (.slg 3 l)] [] = gVRSet l := by kernel_rfl
end Go.Proofs.YtfkpjbbkdkcdcaaDoorA
