/-
 What the reading of apostille/oid.numbers$1 comes to, printed by a program. Conditions: none.
-/
import Derived.Test.YtfkpjbbkdkcdcaaDoorT1
set_option linter.unusedVariables false
set_option linter.unusedSimpArgs false
set_option maxRecDepth 100000
namespace Go.Proofs.YtfkpjbbkdkcdcaaDoorA
noncomputable def lpONums_0s (l : Nat) (again : (List Int) -> Option Out) (k0 : Int -> Int -> (List Int) -> Int -> Int -> Int -> (List Int) -> Int -> Int -> Int -> Int -> Int -> Int -> Bool -> (List Int) -> Option Out) (k1 : Int -> Int -> (List Int) -> Int -> Int -> Int -> (List Int) -> Int -> Int -> Int -> Int -> Int -> Int -> Bool -> Int -> Bool -> (List Int) -> Option Out) (k2 : (List Int) -> Int -> (List Int) -> Option Out) (v1 : List Int) : Option Out :=
 cond (decide ((0 : Int) < ((v1.length : Nat) : Int))) (
  cond (bytesOk v1) (
  let r1 : Int := (oidNumber v1).1
  let r2 : Int := (oidNumber v1).2
  cond (Nat.beq l l) (
  yldO [.int .u32 r1, .bool (decide ((0 : Int) < r2))] (
   k0 r1 r2 v1 ((v1.length : Nat) : Int) r1 r2 v1 r1 r2 r1 r2 r1 r2 (decide ((0 : Int) < r2)) v1)
  (
   cond (decide (r2 = 0)) (
    k1 r1 r2 v1 ((v1.length : Nat) : Int) r1 r2 v1 r1 r2 r1 r2 r1 r2 (decide ((0 : Int) < r2)) r2 (decide (r2 = 0)) v1)
   (
    cond (decide ((0 : Int) <= r2)) (
    cond (decide (r2 <= ((v1.length : Nat) : Int))) (
    let l3 : List Int := List.drop (Int.toNat r2) v1
    again l3) none) none))) none) none)
 (
  k2 v1 ((v1.length : Nat) : Int) v1)
noncomputable def lpONums_0 (l : Nat) (k0 : Int -> Int -> (List Int) -> Int -> Int -> Int -> (List Int) -> Int -> Int -> Int -> Int -> Int -> Int -> Bool -> (List Int) -> Option Out) (k1 : Int -> Int -> (List Int) -> Int -> Int -> Int -> (List Int) -> Int -> Int -> Int -> Int -> Int -> Int -> Bool -> Int -> Bool -> (List Int) -> Option Out) (k2 : (List Int) -> Int -> (List Int) -> Option Out) : Nat -> (List Int) -> Option Out
 | 0 => fun _ => none
 | n + 1 => lpONums_0s l (lpONums_0 l k0 k1 k2 n) k0 k1 k2
noncomputable def LONums_0 (l : Nat) : St -> (Ex -> St -> Option Out) -> Option Out := fun σ k => match σ with
 | ⟨[(q1, .cl (.fn (.yield q2) [] [])), (q3, .ptr q4 q5 q6)], [(q7, ⟨.var [.cl (.sli .u8 v1)], false⟩)]⟩ => cond (Nat.beq q1 0 && Nat.beq q3 1 && Nat.beq q4 0 && Nat.beq q5 0 && Nat.beq q6 0 && Nat.beq q7 0 && Nat.beq l q2) (shut (lpONums_0 l (fun y1 y2 y3 y4 y5 y6 y7 y8 y9 y10 y11 y12 y13 y14 y15 => k .ret ⟨[(0, .cl (.fn (.yield l) [] [])), (1, .ptr 0 0 0), (3, .cl (.int .u32 y1)), (4, .cl (.int .i64 y2)), (5, .cl (.sli .u8 y3)), (6, .cl (.int .i64 y4)), (7, .cl (.bool true)), (8, .tup [.cl (.int .u32 y5), .cl (.int .i64 y6)]), (9, .cl (.sli .u8 y7)), (10, .tup [.cl (.int .u32 y8), .cl (.int .i64 y9)]), (11, .cl (.int .u32 y10)), (12, .cl (.int .i64 y11)), (13, .cl (.fn (.yield l) [] [])), (14, .cl (.int .u32 y12)), (15, .cl (.int .i64 y13)), (16, .cl (.bool y14)), (17, .cl (.bool false)), (18, .cl (.bool true)), (19, .cl (.bool true)), (20, .tup []), (21, .tup []), (22, .cl (.bool true))], [(0, ⟨.var [.cl (.sli .u8 y15)], false⟩)]⟩) (fun y1 y2 y3 y4 y5 y6 y7 y8 y9 y10 y11 y12 y13 y14 y15 y16 y17 => k .ret ⟨[(0, .cl (.fn (.yield l) [] [])), (1, .ptr 0 0 0), (3, .cl (.int .u32 y1)), (4, .cl (.int .i64 y2)), (5, .cl (.sli .u8 y3)), (6, .cl (.int .i64 y4)), (7, .cl (.bool true)), (8, .tup [.cl (.int .u32 y5), .cl (.int .i64 y6)]), (9, .cl (.sli .u8 y7)), (10, .tup [.cl (.int .u32 y8), .cl (.int .i64 y9)]), (11, .cl (.int .u32 y10)), (12, .cl (.int .i64 y11)), (13, .cl (.fn (.yield l) [] [])), (14, .cl (.int .u32 y12)), (15, .cl (.int .i64 y13)), (16, .cl (.bool y14)), (17, .cl (.bool true)), (18, .cl (.bool false)), (19, .cl (.bool false)), (20, .cl (.int .i64 y15)), (21, .cl (.bool y16)), (22, .cl (.bool true))], [(0, ⟨.var [.cl (.sli .u8 y17)], false⟩)]⟩) (fun y1 y2 y3 => k (.exit 0) ⟨[(0, .cl (.fn (.yield l) [] [])), (1, .ptr 0 0 0), (5, .cl (.sli .u8 y1)), (6, .cl (.int .i64 y2)), (7, .cl (.bool false))], [(0, ⟨.var [.cl (.sli .u8 y3)], false⟩)]⟩) FUEL) v1) none
 | _ => none
noncomputable def EONums (l : Nat) : Env := {
 orc := fun g => cond (Nat.beq g 155) (SONumber) (fun _ _ => Tree.fail)
 pre := fun g => cond (Nat.beq g 155) (preONumber) (fun _ _ => true)
 byref := fun _ => []
 keep := fun _ => false
 live := fun r => cond (Nat.beq r 0) ([0, 1]) ([])
 ren := fun _ => []
 glob := glVal
 nt := 26
 lp := fun r => cond (Nat.beq r 0) (some (LONums_0 l)) (none)
 rg := false
 yn := l
 yl := fun r => cond (Nat.beq r 2) (some 4) (none)
}
noncomputable def blpONums_0 : Code := (Cd.fst (Cd.fst (Tryd.f154.body.getD .skip)))
theorem lpONums_0_step (l : Nat) (k : Ex -> St -> Option Out) (n : Nat) (v1 : List Int) : iterK (n + 1) (codeK Tryd.prog (EONums l) 40 blpONums_0) (head (EONums l) 0) ⟨[(0, .cl (.fn (.yield l) [] [])), (1, .ptr 0 0 0)], [(0, ⟨.var [.cl (.sli .u8 v1)], false⟩)]⟩ k = lpONums_0s l (fun v1 => iterK n (codeK Tryd.prog (EONums l) 40 blpONums_0) (head (EONums l) 0) ⟨[(0, .cl (.fn (.yield l) [] [])), (1, .ptr 0 0 0)], [(0, ⟨.var [.cl (.sli .u8 v1)], false⟩)]⟩ k) (fun y1 y2 y3 y4 y5 y6 y7 y8 y9 y10 y11 y12 y13 y14 y15 => k .ret ⟨[(0, .cl (.fn (.yield l) [] [])), (1, .ptr 0 0 0), (3, .cl (.int .u32 y1)), (4, .cl (.int .i64 y2)), (5, .cl (.sli .u8 y3)), (6, .cl (.int .i64 y4)), (7, .cl (.bool true)), (8, .tup [.cl (.int .u32 y5), .cl (.int .i64 y6)]), (9, .cl (.sli .u8 y7)), (10, .tup [.cl (.int .u32 y8), .cl (.int .i64 y9)]), (11, .cl (.int .u32 y10)), (12, .cl (.int .i64 y11)), (13, .cl (.fn (.yield l) [] [])), (14, .cl (.int .u32 y12)), (15, .cl (.int .i64 y13)), (16, .cl (.bool y14)), (17, .cl (.bool false)), (18, .cl (.bool true)), (19, .cl (.bool true)), (20, .tup []), (21, .tup []), (22, .cl (.bool true))], [(0, ⟨.var [.cl (.sli .u8 y15)], false⟩)]⟩) (fun y1 y2 y3 y4 y5 y6 y7 y8 y9 y10 y11 y12 y13 y14 y15 y16 y17 => k .ret ⟨[(0, .cl (.fn (.yield l) [] [])), (1, .ptr 0 0 0), (3, .cl (.int .u32 y1)), (4, .cl (.int .i64 y2)), (5, .cl (.sli .u8 y3)), (6, .cl (.int .i64 y4)), (7, .cl (.bool true)), (8, .tup [.cl (.int .u32 y5), .cl (.int .i64 y6)]), (9, .cl (.sli .u8 y7)), (10, .tup [.cl (.int .u32 y8), .cl (.int .i64 y9)]), (11, .cl (.int .u32 y10)), (12, .cl (.int .i64 y11)), (13, .cl (.fn (.yield l) [] [])), (14, .cl (.int .u32 y12)), (15, .cl (.int .i64 y13)), (16, .cl (.bool y14)), (17, .cl (.bool true)), (18, .cl (.bool false)), (19, .cl (.bool false)), (20, .cl (.int .i64 y15)), (21, .cl (.bool y16)), (22, .cl (.bool true))], [(0, ⟨.var [.cl (.sli .u8 y17)], false⟩)]⟩) (fun y1 y2 y3 => k (.exit 0) ⟨[(0, .cl (.fn (.yield l) [] [])), (1, .ptr 0 0 0), (5, .cl (.sli .u8 y1)), (6, .cl (.int .i64 y2)), (7, .cl (.bool false))], [(0, ⟨.var [.cl (.sli .u8 y3)], false⟩)]⟩) v1 := by kernel_rfl
theorem lpONums_0_eq (l : Nat) (k : Ex -> St -> Option Out) : ∀ (n : Nat), ∀ (v1 : List Int), iterK n (codeK Tryd.prog (EONums l) 40 blpONums_0) (head (EONums l) 0) ⟨[(0, .cl (.fn (.yield l) [] [])), (1, .ptr 0 0 0)], [(0, ⟨.var [.cl (.sli .u8 v1)], false⟩)]⟩ k = lpONums_0 l (fun y1 y2 y3 y4 y5 y6 y7 y8 y9 y10 y11 y12 y13 y14 y15 => k .ret ⟨[(0, .cl (.fn (.yield l) [] [])), (1, .ptr 0 0 0), (3, .cl (.int .u32 y1)), (4, .cl (.int .i64 y2)), (5, .cl (.sli .u8 y3)), (6, .cl (.int .i64 y4)), (7, .cl (.bool true)), (8, .tup [.cl (.int .u32 y5), .cl (.int .i64 y6)]), (9, .cl (.sli .u8 y7)), (10, .tup [.cl (.int .u32 y8), .cl (.int .i64 y9)]), (11, .cl (.int .u32 y10)), (12, .cl (.int .i64 y11)), (13, .cl (.fn (.yield l) [] [])), (14, .cl (.int .u32 y12)), (15, .cl (.int .i64 y13)), (16, .cl (.bool y14)), (17, .cl (.bool false)), (18, .cl (.bool true)), (19, .cl (.bool true)), (20, .tup []), (21, .tup []), (22, .cl (.bool true))], [(0, ⟨.var [.cl (.sli .u8 y15)], false⟩)]⟩) (fun y1 y2 y3 y4 y5 y6 y7 y8 y9 y10 y11 y12 y13 y14 y15 y16 y17 => k .ret ⟨[(0, .cl (.fn (.yield l) [] [])), (1, .ptr 0 0 0), (3, .cl (.int .u32 y1)), (4, .cl (.int .i64 y2)), (5, .cl (.sli .u8 y3)), (6, .cl (.int .i64 y4)), (7, .cl (.bool true)), (8, .tup [.cl (.int .u32 y5), .cl (.int .i64 y6)]), (9, .cl (.sli .u8 y7)), (10, .tup [.cl (.int .u32 y8), .cl (.int .i64 y9)]), (11, .cl (.int .u32 y10)), (12, .cl (.int .i64 y11)), (13, .cl (.fn (.yield l) [] [])), (14, .cl (.int .u32 y12)), (15, .cl (.int .i64 y13)), (16, .cl (.bool y14)), (17, .cl (.bool true)), (18, .cl (.bool false)), (19, .cl (.bool false)), (20, .cl (.int .i64 y15)), (21, .cl (.bool y16)), (22, .cl (.bool true))], [(0, ⟨.var [.cl (.sli .u8 y17)], false⟩)]⟩) (fun y1 y2 y3 => k (.exit 0) ⟨[(0, .cl (.fn (.yield l) [] [])), (1, .ptr 0 0 0), (5, .cl (.sli .u8 y1)), (6, .cl (.int .i64 y2)), (7, .cl (.bool false))], [(0, ⟨.var [.cl (.sli .u8 y3)], false⟩)]⟩) n v1
 | 0 => by intros; rfl
 | n + 1 => by
  intros
  rw [lpONums_0_step]
  have ih := lpONums_0_eq l k n
  simp only [lpONums_0, ih]
theorem LONums_0_ok (l : Nat) : ∀ (σ : St) (k : Ex -> St -> Option Out) (r : Out), LONums_0 l σ k = some r -> ∃ n, iterK n (codeK Tryd.prog (EONums l) 40 blpONums_0) (head (EONums l) 0) σ k = some r := by
 intro σ k r h
 unfold LONums_0 at h
 split at h
 ·replace h := qab h
  obtain ⟨hc, h⟩ := h
  simp only [Bool.and_eq_true, beq_prop, decide_eq_true_eq, Bool.not_eq_true'] at hc
  obtain ⟨⟨⟨⟨⟨⟨rfl, rfl⟩, rfl⟩, rfl⟩, rfl⟩, rfl⟩, rfl⟩ := hc
  rw [qac] at h
  exact ⟨FUEL, (lpONums_0_eq l k FUEL _ ).trans h⟩
 ·cases h
theorem loopsONums (l : Nat) : ∀ c, Tryd.f154.body = some c -> LoopsOk Tryd.prog (EONums l) 40 c := by
 intro c hc
 cases hc
 exact ⟨⟨⟨trivial, ⟨trivial, trivial, qaa rfl⟩, qaa rfl⟩, ⟨trivial, ⟨⟨trivial, ⟨trivial, trivial, qaa rfl⟩, qaa rfl⟩, trivial, qaa rfl⟩, qaa rfl⟩, qaa rfl⟩, lp_some rfl (LONums_0_ok l)⟩
noncomputable def gONums (l : Nat) (b : List Int) : Option Out :=
 cond (Nat.beq l l) (
 shut (lpONums_0 l
 (fun (y1 : Int) (y2 : Int) (y3 : List Int) (y4 : Int) (y5 : Int) (y6 : Int) (y7 : List Int) (y8 : Int) (y9 : Int) (y10 : Int) (y11 : Int) (y12 : Int) (y13 : Int) (y14 : Bool) (y15 : List Int) =>
  some (.ret [] [some ⟨.var [.cl (.sli .u8 y15)], false⟩]))
 (fun (y16 : Int) (y17 : Int) (y18 : List Int) (y19 : Int) (y20 : Int) (y21 : Int) (y22 : List Int) (y23 : Int) (y24 : Int) (y25 : Int) (y26 : Int) (y27 : Int) (y28 : Int) (y29 : Bool) (y30 : Int) (y31 : Bool) (y32 : List Int) =>
  some (.ret [] [some ⟨.var [.cl (.sli .u8 y32)], false⟩]))
 (fun (y33 : List Int) (y34 : Int) (y35 : List Int) =>
  some (.ret [] [some ⟨.var [.cl (.sli .u8 y35)], false⟩]))
 FUEL) b) none
theorem gONums_eq (l : Nat) (b : List Int) : bodyK Tryd.prog (EONums l) 40 false Tryd.f154 [.cl (.fn (.yield l) [] []), .ptr 0 0 0] [⟨.var [.cl (.sli .u8 b)], false⟩] = gONums l b := by kernel_rfl
end Go.Proofs.YtfkpjbbkdkcdcaaDoorA

namespace Go.Proofs.YtfkpjbbkdkcdcaaDoorA
end Go.Proofs.YtfkpjbbkdkcdcaaDoorA
